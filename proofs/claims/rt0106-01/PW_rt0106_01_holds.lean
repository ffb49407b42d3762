import PyProof.Rows.All
import Wide.All
import OpenK.AllK
import Wide.FinOn
import PySem.Challenge.RW_rt0106_01
open PySem PySem.W PySem.Calls PyProof.Rows
set_option Elab.async false
set_option linter.all false
set_option maxRecDepth 100000
set_option maxHeartbeats 0
set_option genInjectivity false
set_option genSizeOf false
set_option bootstrap.genMatcherCode false
noncomputable section
namespace Mine
open _root_.And renaming imp→nJ,imp_left→eH,imp_right→fE
open _root_.Array renaming all_toList→I1,eraseIdxIfInBounds→I2,forIn_toList→I3,getElem?_append_left→I4,getElem?_eq_getElem→I5,getElem?_eq_none→tO,getElem?_toList→jV,length_toList→I6,replicate→I7,size_append→I8,size_push→BK,toArray_toList→BL,toList_append→wV,toList_push→BM
open _root_.Bool renaming and_eq_true→jo,and_false→tR,and_true→Jb,decide_or→Jc,eq_iff_iff→tS,false_eq_true→qV,false_ne_true→tT,false_or→tU,noConfusion→lj,not_eq_true→wX,not_eq_true'→pn,not_true→Jd,or_eq_false_iff→Je,or_eq_true→nK,true_and→wY
open _root_.Char renaming toNat→BW
open _root_.Classical renaming byContradiction→w_
open _root_.Except renaming ok→Jv
open _root_.Exists renaming imp→dX
open _root_.ForInStep renaming yield→q_
open _root_.Int renaming add_comm→J6,add_neg_cancel_right→J7,ediv_one→J8,le_of_lt→J9,lt_trans→B5,max_eq_right→J_,min_eq_left→Ka,mul_one→B6,natCast_nonneg→pJ,ne_of_gt→rj,ofNat_inj→B7,toNat→Kb,toNat_lt→Kc,toNat_natCast→xm,zero_add→Kd
open _root_.List renaming all_cons→xo,all_eq_true→Cb,all_map→ry,all_nil→Kl,any_cons→pL,append_assoc→iW,append_nil→hW,cons_append→rA,cons_ne_nil→jX,contains_iff_mem→rB,dropLast→Cc,dropLast_concat→Cd,dropLast_concat_getLast→xq,dropLast_eq_take→xr,drop_eq_getElem_cons→Ce,drop_eq_nil_of_le→Km,drop_nil→Kn,eq_nil_of_length_eq_zero→t7,exists_cons_of_ne_nil→pM,filterMap_cons_none→Ko,filterMap_cons_some→Kp,filter_congr→Cf,filter_cons→nY,filter_cons_of_neg→Kq,filter_cons_of_pos→Kr,flatMap→Ks,flatMap_append→t8,flatMap_cons→nZ,flatMap_map→Kt,flatMap_nil→Ku,flatMap_singleton→xt,foldl_append→xu,foldl_cons→rC,foldl_nil→Kv,forIn_cons→rD,forIn_nil→Kw,fst_mem_of_mem_zipIdx→Kx,getElem?_append_left→Ky,getElem?_append_right→Cg,getElem?_eq_getElem→gL,getElem?_eq_none→mn,getElem?_map→gg,getElem?_of_mem→Ci,getElem?_zipIdx→Kz,getElem_map→KC,getElem_mem→KD,getElem_zip→KG,getLast?_concat→KH,head?_cons→Cj,head?_drop→KI,idxOf_lt_length_of_mem→KJ,isPrefixOf→KL,length→pN,length_append→bF,length_cons→gM,length_drop→t9,length_dropLast→lz,length_filter_le→iX,length_map→aZ,length_nil→Ck,length_range→hX,length_reverse→KN,length_singleton→xv,length_take→Cm,length_take_le'→KO,length_zip→KP,length_zipIdx→xw,lookup→KQ,lookup_append→Cn,lookup_cons→dI,lookup_cons_self→Cp,map_append→ey,map_congr_left→kD,map_cons→eK,map_drop→xx,map_dropLast→Cq,map_eq_flatMap→KR,map_flatMap→Ct,map_map→fe,map_nil→rE,map_singleton→xy,map_take→t_,mem_append→n4,mem_append_left→jY,mem_append_right→d0,mem_cons→n5,mem_cons_of_mem→bT,mem_cons_self→a0,mem_filter→xA,mem_flatMap→KS,mem_map→xB,mem_map_of_mem→KU,mem_of_getElem?→lA,mem_of_mem_drop→xC,mem_of_mem_take→Cu,mem_singleton→pO,nil_append→xD,nil_prefix→rF,nodup_cons→KV,nodup_nil→rG,not_mem_nil→bQ,prefix_cons_inj→KW,range→dv,range_succ→Cv,replicate→Cw,reverse_cons→pP,size_toArray→rH,take_append_of_le_length→KX,take_left→KY,take_length→Cy,take_nil→KZ,take_of_length_le→xE,take_take→Cz,zipIdx_map_snd→K0
open _root_.Nat renaming add_assoc→K5,add_le_add→K6,add_le_add_left→xH,add_lt_add_left→gZ,le_add_left→ub,le_add_right→cy,le_antisymm→CD,le_of_ble_eq_true→dO,le_of_eq→bN,le_of_lt→jy,le_of_lt_succ→rJ,le_of_sub_eq_zero→pS,le_of_succ_le→lC,le_refl→bb,le_succ→dD,le_succ_of_le→gN,le_trans→aE,lt_add_of_pos_right→ff,lt_add_right→gO,lt_irrefl→fV,lt_of_add_lt_add_right→K7,lt_of_le_of_lt→ee,lt_of_lt_of_eq→uc,lt_of_lt_of_le→a9,lt_of_not_le→K8,lt_of_succ_lt→lD,lt_or_eq_of_le→xI,lt_succ_of_le→K9,lt_succ_of_lt→fG,lt_succ_self→cw,lt_trans→rK,min_eq_left→ud,ne_of_gt→dc,ne_of_lt→bj,not_lt_zero→xJ,sub_add_cancel→xK,sub_le→rL,sub_lt→CE,sub_self→CF,succ_le_succ→jZ,succ_lt_succ→xM,succ_lt_succ_iff→K_,succ_ne_self→pT,succ_pos→CG,zero_add→rM,zero_le→fW
open _root_.Option renaming bind_some→CL,getD_some→ue,isSome→pU,map_some→pV,or_none→Lf
open PyProof renaming noPylong_small→Lu
open PySem renaming Addr→aq,Arguments→BJ,Around→aO,Builtin→bE,Call_method0→BS,CmpOp→mj,Comprehension→hN,Env→bg,Expr→ay,Fin→xY,Flow→gw,FuncData→gc,Heap→aN,JoinOk→t5,Keyword→pK,Meets→kE,MethodOnS→ua,Model→lB,NameKind→gY,Obj→bu,Operator→CK,OsState→CM,Params→mw,Pos→bc,Program→eA,PyData→fX,Result→hZ,Scope→cR,Sem→bY,SetTable→CU,Shared→ai,Slot→iz,Stmt→bZ,Str→aj,Tok→de,TriplesOk→CW,Value→af,World→eC,again→mB,am_miss_of_fast→Me,argBest→eR,argsOk→gj,args_listiter_next→Mk,arm_assign_Attribute→Dp,arm_eval_Attribute→uk,arm_eval_Call→Dq,arm_exec_AugAssign_2→Mp,assign→iy,assignEach→gy,assignInOrder→Du,attributeBase→iE,backTo→fZ,backToKw→p0,behindInMarks→yn,binaryOp→kL,bindArgs→kM,bindL→uv,bootBuiltins→yu,boundAndCalled→DF,builtinLookup_eq_fast→eS,builtinsNs→j4,cLine→ox,cStatics→DP,call→bM,callAny→uz,callGetattribute→rV,callSpecial?→Nn,callType_codes→DT,callType_new→DU,callWith→i5,cellsFrom→iH,checkBoundCall→yO,checkBuiltinCall→yP,checkTypeCall→NA,clausesOf→D2,clipAt→iI,closureFor→yV,codeAmong→rY,codeAny→eU,codeAny_builtin→fN,codeAny_call_builtin→mK,codeAny_call_builtin_code→NX,codeAny_mono→g6,codeAny_of_tree→uE,code_list_new→N1,collect→yZ,compareOp→iJ,comprehension→Ec,concat_meets→N8,dropValue→za,entryFor→i_,entryFor_alias→zf,entryFor_of_tree→oG,entry_listiter_next→zg,eval→aU,evalArgs→p7,evalArgs_none→LB,evalPart_none→OI,execs→ja,field→oK,firstArgMember→zj,foldedSetIterable→ib,fresh→uS,getAttr→kS,getAttrBy→E6,getItem→uU,holding→kf,init_tuple_lookup→QC,inplaceOp→oW,instanceDict→u5,interactive→zK,isSubtype→jJ,isSubtype_stop→zN,isSubtype_type→eE,isTrue→qf,keeperOf→FT,keywordEach→qh,letOwnedTupleGo→zV,madeHere_tuple→R9,mainGlobals→kW,makeFunction→R_,method0_meets→Sr,method1_meets→Ss,methodCall→Ah,methodCallForm→sI,methodCallPos→Ai,model→bX,name_of_addr→SH,newExc→Ao,newList→Ap,newTuple→m6,noFill_list_add→S7,notIterableAtAll→GZ,noteFrame→sT,nsFind→vT,onTheHeap→Hc,operate→Hd,pastItsLine_dict→T7,plainId→v8,plainId_quiet→g_,pushCells→s7,pushCells_keeps→Hr,pyIter→ik,pyNext→f7,rawInt→gE,recursionLimit→UI,relabel→AW,ret→CS,richCompare_gives→wg,richCompare_meets_room→HE,scanBound→qu,seqIndex?→wk,seqItems?→qw,seq_list_add→U1,setAddByScan→U4,setAddHashed→A1,setAddHashedIn→U5,setAttr→wm,setState→HT,sizeLine→gF,sizeLine_eq→HV,sliceBounds→HW,sliceRange→HX,slot_listiter_next→A9,spliced→wx,standAt→ip,starEach→bB,step→k7,stored→qz,strValues→iP,sub_tuple_self→VK,swappedStores→l0,swapsWith→Iw,swapsWithSole→kq,sysModules→iR,table→jl,typeIs_bool→CT,typeIs_int→xZ,typeIs_str→pW,typeLookup→gr,typeLookup_type→e_,typeOf→tD,unpack→Bp,updateSeq→l6,valueAt→mz,without→LC,wpAny→ar,wpAny_Try_except→WE,wpAny_UnaryOp→WG,wpAny_allTrue_And_cons→WH,wpAny_allTrue_Or_cons→wJ,wpAny_allTrue_Or_nil→WI,wpAny_askSetting→l7,wpAny_attempt→tE,wpAny_bind→ah,wpAny_call→jT,wpAny_callSpecial?_slot→ph,wpAny_call_entry→kz,wpAny_collect_seq→WJ,wpAny_execs_cons→tF,wpAny_execs_nil→wK,wpAny_field→ir,wpAny_getItem_list_slice→WK,wpAny_holding→bz,wpAny_isInstance→Bv,wpAny_isTrue_BoolOp→IP,wpAny_isTrue_Compare1→WL,wpAny_items_cons→l8,wpAny_items_nil→qM,wpAny_letGo→qN,wpAny_letTemporaryGo→tG,wpAny_load→nG,wpAny_loadPart→Bw,wpAny_lookBehind→WM,wpAny_mono→gW,wpAny_newObj_type→iS,wpAny_of_eq→hK,wpAny_pure→aD,wpAny_pyIter_dict→IQ,wpAny_pyIter_enum→WO,wpAny_pyIter_list→tH,wpAny_pyIter_slot→IS,wpAny_pyNext_dict_end→WQ,wpAny_pyNext_dict_item→WS,wpAny_pyNext_list_end→WT,wpAny_pyNext_list_item→WU,wpAny_raiseNew_none→By,wpAny_release→qO,wpAny_rule→nH,wpAny_runValue→IT,wpAny_seqItems→lb,wpAny_setField→wL,wpAny_setFlight_none→WV,wpAny_specialOf→qP,wpAny_standAt→cQ,wpAny_truthy_bool→IU,wpAny_truthy_list→WW,wpAny_tryCatch→wM,wpAny_typeOf→wN,wpAny_updateSeq→jn
open _root_.Except.ok renaming inj→Xs
open _root_.List.Nodup renaming length_le_of_subset→rx
open _root_.List.Sublist renaming map→XO
open _root_.List.cons renaming inj→rz
open _root_.Nat.succ renaming inj→XP
open _root_.Option.some renaming inj→aM
open _root_.Prod.mk renaming inj→lF
open PyProof.Rows renaming SetOf_congr→xX,add_str→XQ,exec_Assign→zi,getItem_tuple→Pf,setObjOf_fresh→Lr,truthy_int→XR,wpAny_operate'→WN
open PySem.Around renaming frames_deeper→I0,under_plainId→gH
open PySem.AutoSeq1 renaming idx_int→Xf,list_clear_list_0→Xg,sub_list_list→wW,sub_list_tuple→Xh,sub_tuple_list→Xi,sub_tuple_tuple→I9,wpAny_loadPart'→dH
open PySem.Bind renaming checkArgs→I_
open PySem.Calls renaming callWith_function→Nq,evalArgs_plain→BU,spliced_cons→BV,spliced_nil→w9
open PySem.Code renaming quiet_builtin→xa
open PySem.DictEntry renaming refKey→Js
open PySem.EntryCells renaming newEntry→Xr
open PySem.Env renaming kindOf→tW
open PySem.F renaming args_int_gt_2→Jw,args_list_add_2→Lv,args_list_init_2→Jx,args_object_getattribute_2→Lw,args_object_init_2→Jy,called_list→Jz,called_tuple→JA,entry_extend_loop→JB,entry_int_gt→JC,entry_list_add→Ly,entry_list_init→JD,entry_object_getattribute→Lz,entry_tuple_new→JE,newCall_tuple_1→JF,plain_extend_loop→tX,plain_list_iadd→JG,plain_tuple_new→JH,slot_bool_hash→JI,slot_dict_delitem→JJ,slot_dict_values→JK,slot_list_add→LA,slot_list_clear→JL,slot_list_extend→JM,slot_list_pop→JN,slot_set_iter→JO,slot_str_split→JP,typeCall_list_1→JQ,typeCall_tuple_1→JR,type_set_contains→BY
open PySem.Heap renaming DictAt→ri,ExtBut→ly,IsList→J0,SameBut→hO,get?_push_at→nT,get?_push_of_some→bH,get?_push_size→c5,get?_update_ne→J2,get?_update_other→gf,get?_update_self→eI,lt_size→b9,size_after_update→J3,size_push→c9,size_update→jt
open PySem.IntMulOk renaming of_left→XN
open PySem.IsRange renaming new→Ke
open PySem.Manifest renaming find?→K4
open PySem.NameKind renaming cell→pR,free→iw
open PySem.Obj renaming cls_mapFields→CH,cls_mapSeq→Lc,data_mapFields→rN,data_mapSeq→Ld,isFreed_of_fields→xN,isFreed_of_seq→Le,mapFields→lE,mapSeq→dE,putNameByArray→xO,putName_eq→xP
open PySem.PyData renaming canLayAll0→Lm,eqv→fg,eqvAll→Lo,int→CP,list→Lp,str→xW,strOk→fJ
open PySem.ScopeKind renaming function→LJ
open PySem.SeqAt renaming compareEq_reads→XS,compareNe_reads→XT,in_list_reads→XU,notIn_list_reads→XW
open PySem.SetTable renaming below→XX
open PySem.Shared renaming TypeIs→LK,heap→LL
open PySem.Str renaming length_append→LO,ofString→au,ofString_eq_toList→x8
open PySem.Txt renaming join→iZ,lower→h5,slice→CX,slice_le→LP,startswith→ya
open PySem.Value renaming bool→n9,builtin→rO,int→C0,isStrOf_shape→LS,notImplemented→C1,ref→eB,type→kF
open PySem.W renaming Frag→kC,TabsAt→x_,emptyDict→r0,findIn→lN,ghostOf→uV,ghost_ns→zp,hasDictIn→Fh,hideAll_size→PR,instObj→mU,keepIn→u9,kla_fn→vc,looks_field→z0,makesIn→GI,plainGet→AH,plainGet_of→v7,tabObj→Bh,typeIn→Bm
open PySem.pickOrder renaming go→Yh
open PyProof.Rows.F renaming entry_set_update_loop→Lq,plain_set_update_loop→CR
open PySem.Builtin.Builtins renaming bindParams→Jf
open PySem.Builtin.Frozenset renaming addrOf→Jg,oneOther→Jh,updateFrom→Xj,withSetAsKey→Xk
open PySem.Builtin.Int renaming intBits→Xl
open PySem.Builtin.List renaming listExtendWith→nL,listItems→wZ,listLengthHint→BO,listSameRef→Ji,listTooLong→BP,listTouch→Jj,listUpdate→BQ
open PySem.Builtin.ObjectAttr renaming newKeyGuard→Xm,storeInDict→w0,storeInOwnDict→w7
open PySem.Builtin.Range renaming rangeFitsLong→Jk,rangeSize→pq,small→BR
open PySem.Builtin.SmallTypes renaming nextOf→Jl
open PySem.Builtin.Str renaming occurrences→mf,partsBetween→Jm,strKind→Jn,strSliceIndices→Xn,tooLong→Xo
open PySem.Builtin.Tuple renaming tupleExact→w8
open PySem.Data.func renaming elim→Xp
open PySem.Data.seq renaming inj→Xq
open PySem.Expr.Attribute renaming elim→Xt
open PySem.Expr.BinOp renaming elim→Xu
open PySem.Expr.BoolOp renaming elim→Xv
open PySem.Expr.Call renaming elim→Xw
open PySem.Expr.Compare renaming elim→Xx
open PySem.Expr.Constant renaming elim→Xy
open PySem.Expr.Dict renaming elim→Xz
open PySem.Expr.DictComp renaming elim→XA
open PySem.Expr.IfExp renaming elim→XB
open PySem.Expr.List renaming elim→XC
open PySem.Expr.ListComp renaming elim→XD
open PySem.Expr.Name renaming elim→XE
open PySem.Expr.NamedExpr renaming elim→XF
open PySem.Expr.SetComp renaming elim→XG
open PySem.Expr.Slice renaming elim→XH
open PySem.Expr.Starred renaming elim→XI
open PySem.Expr.Subscript renaming elim→XJ
open PySem.Expr.Tuple renaming elim→XK
open PySem.Expr.UnaryOp renaming elim→XM
open PySem.Heap.IsSliceOf renaming new→J1
open PySem.Heap.SameBut renaming update→ft
open PySem.Stmt.Assign renaming elim→XY
open PySem.Stmt.AugAssign renaming elim→XZ
open PySem.Stmt.Break renaming elim→X0
open PySem.Stmt.Continue renaming elim→X1
open PySem.Stmt.Delete renaming elim→X2
open PySem.Stmt.Expr renaming elim→X3
open PySem.Stmt.For renaming elim→X4
open PySem.Stmt.Return renaming elim→X5
open PySem.Stmt.Try renaming elim→X6
open PySem.Stmt.While renaming elim→X7
open PySem.Value.ref renaming inj→jA
open PySem.Value.type renaming inj→X9
open PySem.W.Looks renaming ld→CA
theorem aA{A B:Prop}{P:Prop}(h:A/\B)(k:A->B->P):P:=k h.1 h.2
theorem bP{A B C:Prop}{P:Prop}(h:A/\B/\C)(k:A->B->C->P):P:=k h.1 h.2.1 h.2.2
theorem eP{A B C D:Prop}{P:Prop}(h:A/\B/\C/\D)(k:A->B->C->D->P):P:=k h.1 h.2.1 h.2.2.1 h.2.2.2
theorem l9{A B C D E:Prop}{P:Prop}(h:A/\B/\C/\D/\E)(k:A->B->C->D->E->P):P:=k h.1 h.2.1 h.2.2.1 h.2.2.2.1 h.2.2.2.2
theorem wO{A B C D E F:Prop}{P:Prop}(h:A/\B/\C/\D/\E/\F)(k:A->B->C->D->E->F->P):P:=k h.1 h.2.1 h.2.2.1 h.2.2.2.1 h.2.2.2.2.1 h.2.2.2.2.2
theorem WZ{A B C D E F G:Prop}{P:Prop}(h:A/\B/\C/\D/\E/\F/\G)(k:A->B->C->D->E->F->G->P):P:=k h.1 h.2.1 h.2.2.1 h.2.2.2.1 h.2.2.2.2.1 h.2.2.2.2.2.1 h.2.2.2.2.2.2
theorem W0{A B C D E F G H:Prop}{P:Prop}(h:A/\B/\C/\D/\E/\F/\G/\H)(k:A->B->C->D->E->F->G->H->P):P:=k h.1 h.2.1 h.2.2.1 h.2.2.2.1 h.2.2.2.2.1 h.2.2.2.2.2.1 h.2.2.2.2.2.2.1 h.2.2.2.2.2.2.2
theorem W2{A B C D E F G H I:Prop}{P:Prop}(h:A/\B/\C/\D/\E/\F/\G/\H/\I)(k:A->B->C->D->E->F->G->H->I->P):P:=k h.1 h.2.1 h.2.2.1 h.2.2.2.1 h.2.2.2.2.1 h.2.2.2.2.2.1 h.2.2.2.2.2.2.1 h.2.2.2.2.2.2.2.1 h.2.2.2.2.2.2.2.2
theorem WY{A B C D E F G H I J:Prop}{P:Prop}(h:A/\B/\C/\D/\E/\F/\G/\H/\I/\J)(k:A->B->C->D->E->F->G->H->I->J->P):P:=k h.1 h.2.1 h.2.2.1 h.2.2.2.1 h.2.2.2.2.1 h.2.2.2.2.2.1 h.2.2.2.2.2.2.1 h.2.2.2.2.2.2.2.1 h.2.2.2.2.2.2.2.2.1 h.2.2.2.2.2.2.2.2.2
theorem aL{α:Sort _}{A:α->Prop}{P:Prop}(h:∃x,A x)(k:∀x,A x->P):P:=h.elim k
theorem aw{α:Sort _}{A B:α->Prop}{P:Prop}(h:∃x,A x/\B x)(k:∀x,A x->B x->P):P:=h.elim λx h=>aA h (k x)
theorem bI{α:Sort _}{A B C:α->Prop}{P:Prop}(h:∃x,A x/\B x/\C x)(k:∀x,A x->B x->C x->P):P:=h.elim λx h=>bP h (k x)
theorem dG{α:Sort _}{A B C D:α->Prop}{P:Prop}(h:∃x,A x/\B x/\C x/\D x)(k:∀x,A x->B x->C x->D x->P):P:=h.elim λx h=>eP h (k x)
theorem lg{α:Sort _}{A B C D E:α->Prop}{P:Prop}(h:∃x,A x/\B x/\C x/\D x/\E x)(k:∀x,A x->B x->C x->D x->E x->P):P:=h.elim λx h=>l9 h (k x)
theorem BB{α:Sort _}{A B C D E F:α->Prop}{P:Prop}(h:∃x,A x/\B x/\C x/\D x/\E x/\F x)(k:∀x,A x->B x->C x->D x->E x->F x->P):P:=h.elim λx h=>wO h (k x)
theorem W4{α:Sort _}{A B C D E F G:α->Prop}{P:Prop}(h:∃x,A x/\B x/\C x/\D x/\E x/\F x/\G x)(k:∀x,A x->B x->C x->D x->E x->F x->G x->P):P:=h.elim λx h=>WZ h (k x)
theorem W5{α:Sort _}{A B C D E F G H:α->Prop}{P:Prop}(h:∃x,A x/\B x/\C x/\D x/\E x/\F x/\G x/\H x)(k:∀x,A x->B x->C x->D x->E x->F x->G x->H x->P):P:=h.elim λx h=>W0 h (k x)
theorem IV{α:Sort _}{A B C D E F G H I:α->Prop}{P:Prop}(h:∃x,A x/\B x/\C x/\D x/\E x/\F x/\G x/\H x/\I x)(k:∀x,A x->B x->C x->D x->E x->F x->G x->H x->I x->P):P:=h.elim λx h=>W2 h (k x)
theorem W3{α:Sort _}{A B C D E F G H I J:α->Prop}{P:Prop}(h:∃x,A x/\B x/\C x/\D x/\E x/\F x/\G x/\H x/\I x/\J x)(k:∀x,A x->B x->C x->D x->E x->F x->G x->H x->I x->J x->P):P:=h.elim λx h=>WY h (k x)
theorem ew{α:Sort _}{β:Sort _}{A:α->β->Prop}{P:Prop}(h:∃x y,A x y)(k:∀x y,A x y->P):P:=h.elim λx h=>aL h (k x)
theorem fc{α:Sort _}{β:Sort _}{A B:α->β->Prop}{P:Prop}(h:∃x y,A x y/\B x y)(k:∀x y,A x y->B x y->P):P:=h.elim λx h=>aw h (k x)
theorem eQ{α:Sort _}{β:Sort _}{A B C:α->β->Prop}{P:Prop}(h:∃x y,A x y/\B x y/\C x y)(k:∀x y,A x y->B x y->C x y->P):P:=h.elim λx h=>bI h (k x)
theorem nI{α:Sort _}{β:Sort _}{A B C D:α->β->Prop}{P:Prop}(h:∃x y,A x y/\B x y/\C x y/\D x y)(k:∀x y,A x y->B x y->C x y->D x y->P):P:=h.elim λx h=>dG h (k x)
theorem tI{α:Sort _}{β:Sort _}{A B C D E:α->β->Prop}{P:Prop}(h:∃x y,A x y/\B x y/\C x y/\D x y/\E x y)(k:∀x y,A x y->B x y->C x y->D x y->E x y->P):P:=h.elim λx h=>lg h (k x)
theorem tJ{α:Sort _}{β:Sort _}{A B C D E F:α->β->Prop}{P:Prop}(h:∃x y,A x y/\B x y/\C x y/\D x y/\E x y/\F x y)(k:∀x y,A x y->B x y->C x y->D x y->E x y->F x y->P):P:=h.elim λx h=>BB h (k x)
theorem BC{α:Sort _}{β:Sort _}{A B C D E F G:α->β->Prop}{P:Prop}(h:∃x y,A x y/\B x y/\C x y/\D x y/\E x y/\F x y/\G x y)(k:∀x y,A x y->B x y->C x y->D x y->E x y->F x y->G x y->P):P:=h.elim λx h=>W4 h (k x)
theorem W7{α:Sort _}{β:Sort _}{A B C D E F G H:α->β->Prop}{P:Prop}(h:∃x y,A x y/\B x y/\C x y/\D x y/\E x y/\F x y/\G x y/\H x y)(k:∀x y,A x y->B x y->C x y->D x y->E x y->F x y->G x y->H x y->P):P:=h.elim λx h=>W5 h (k x)
theorem W6{α:Sort _}{β:Sort _}{A B C D E F G H I J:α->β->Prop}{P:Prop}(h:∃x y,A x y/\B x y/\C x y/\D x y/\E x y/\F x y/\G x y/\H x y/\I x y/\J x y)(k:∀x y,A x y->B x y->C x y->D x y->E x y->F x y->G x y->H x y->I x y->J x y->P):P:=h.elim λx h=>W3 h (k x)
theorem W8{α:Sort _}{β:Sort _}{a:Sort _}{A:α->β->a->Prop}{P:Prop}(h:∃x y z,A x y z)(k:∀x y z,A x y z->P):P:=h.elim λx h=>ew h (k x)
theorem pj{α:Sort _}{β:Sort _}{a:Sort _}{A B:α->β->a->Prop}{P:Prop}(h:∃x y z,A x y z/\B x y z)(k:∀x y z,A x y z->B x y z->P):P:=h.elim λx h=>fc h (k x)
theorem BD{α:Sort _}{β:Sort _}{a:Sort _}{A B C:α->β->a->Prop}{P:Prop}(h:∃x y z,A x y z/\B x y z/\C x y z)(k:∀x y z,A x y z->B x y z->C x y z->P):P:=h.elim λx h=>eQ h (k x)
theorem tK{α:Sort _}{β:Sort _}{a:Sort _}{A B C D:α->β->a->Prop}{P:Prop}(h:∃x y z,A x y z/\B x y z/\C x y z/\D x y z)(k:∀x y z,A x y z->B x y z->C x y z->D x y z->P):P:=h.elim λx h=>nI h (k x)
theorem jU{α:Sort _}{β:Sort _}{a:Sort _}{A B C D E:α->β->a->Prop}{P:Prop}(h:∃x y z,A x y z/\B x y z/\C x y z/\D x y z/\E x y z)(k:∀x y z,A x y z->B x y z->C x y z->D x y z->E x y z->P):P:=h.elim λx h=>tI h (k x)
theorem tL{α:Sort _}{β:Sort _}{a:Sort _}{A B C D E F:α->β->a->Prop}{P:Prop}(h:∃x y z,A x y z/\B x y z/\C x y z/\D x y z/\E x y z/\F x y z)(k:∀x y z,A x y z->B x y z->C x y z->D x y z->E x y z->F x y z->P):P:=h.elim λx h=>tJ h (k x)
theorem qS{α:Sort _}{β:Sort _}{a:Sort _}{A B C D E F G H:α->β->a->Prop}{P:Prop}(h:∃x y z,A x y z/\B x y z/\C x y z/\D x y z/\E x y z/\F x y z/\G x y z/\H x y z)(k:∀x y z,A x y z->B x y z->C x y z->D x y z->E x y z->F x y z->G x y z->H x y z->P):P:=h.elim λx h=>W7 h (k x)
theorem W9{α:Sort _}{β:Sort _}{a:Sort _}{A B C D E F G H I J:α->β->a->Prop}{P:Prop}(h:∃x y z,A x y z/\B x y z/\C x y z/\D x y z/\E x y z/\F x y z/\G x y z/\H x y z/\I x y z/\J x y z)(k:∀x y z,A x y z->B x y z->C x y z->D x y z->E x y z->F x y z->G x y z->H x y z->I x y z->J x y z->P):P:=h.elim λx h=>W6 h (k x)
theorem BE{α:Sort _}{β:Sort _}{a:Sort _}{b:Sort _}{A:α->β->a->b->Prop}{P:Prop}(h:∃x y z u,A x y z u)(k:∀x y z u,A x y z u->P):P:=h.elim λx h=>W8 h (k x)
theorem qT{α:Sort _}{β:Sort _}{a:Sort _}{b:Sort _}{A B:α->β->a->b->Prop}{P:Prop}(h:∃x y z u,A x y z u/\B x y z u)(k:∀x y z u,A x y z u->B x y z u->P):P:=h.elim λx h=>pj h (k x)
theorem wQ{α:Sort _}{β:Sort _}{a:Sort _}{b:Sort _}{A B C:α->β->a->b->Prop}{P:Prop}(h:∃x y z u,A x y z u/\B x y z u/\C x y z u)(k:∀x y z u,A x y z u->B x y z u->C x y z u->P):P:=h.elim λx h=>BD h (k x)
theorem BF{α:Sort _}{β:Sort _}{a:Sort _}{b:Sort _}{A B C D:α->β->a->b->Prop}{P:Prop}(h:∃x y z u,A x y z u/\B x y z u/\C x y z u/\D x y z u)(k:∀x y z u,A x y z u->B x y z u->C x y z u->D x y z u->P):P:=h.elim λx h=>tK h (k x)
theorem BG{α:Sort _}{β:Sort _}{a:Sort _}{b:Sort _}{A B C D E:α->β->a->b->Prop}{P:Prop}(h:∃x y z u,A x y z u/\B x y z u/\C x y z u/\D x y z u/\E x y z u)(k:∀x y z u,A x y z u->B x y z u->C x y z u->D x y z u->E x y z u->P):P:=h.elim λx h=>jU h (k x)
theorem IW{α:Sort _}{β:Sort _}{a:Sort _}{b:Sort _}{A B C D E F:α->β->a->b->Prop}{P:Prop}(h:∃x y z u,A x y z u/\B x y z u/\C x y z u/\D x y z u/\E x y z u/\F x y z u)(k:∀x y z u,A x y z u->B x y z u->C x y z u->D x y z u->E x y z u->F x y z u->P):P:=h.elim λx h=>tL h (k x)
theorem BH{α:Sort _}{β:Sort _}{a:Sort _}{b:Sort _}{A B C D E F G H:α->β->a->b->Prop}{P:Prop}(h:∃x y z u,A x y z u/\B x y z u/\C x y z u/\D x y z u/\E x y z u/\F x y z u/\G x y z u/\H x y z u)(k:∀x y z u,A x y z u->B x y z u->C x y z u->D x y z u->E x y z u->F x y z u->G x y z u->H x y z u->P):P:=h.elim λx h=>qS h (k x)
@[elab_as_elim] theorem aa{α:Sort _}{a b:α}{motive:α->Prop}(h:a=b)(m:motive b):motive a:=h▸m
noncomputable def pw:eA:=PySem.Challenge.rw_rt0106_01.row.toRowW.1
noncomputable def m8:bc:=⟨0,0,0,0⟩
noncomputable def tp (i:Nat):bZ:=pw.main.body.getD i (.Pass m8)
noncomputable def NH:bZ->List bZ| .ClassDef _ _ _ b _ _ _ _ _ _ _=>b| _=>[]
noncomputable def me (i j:Nat):bZ:=(NH (tp i)).getD j (.Pass m8)
noncomputable def dP:bZ->Option (aj×BJ×List bZ×cR)| .FunctionDef n a b _ _ _ s _ _ _=>some (n,a,b,s)| _=>none
noncomputable def dU (st:bZ) (q mod:String) (f c:Nat) (D:af:=.none):bu:=match dP st with
 | some (n,a,b,s)=>{cls:=.type "function",data:=.func {name:=n,qualname:=au q,params:=a,body:=.stmts b,scope:=s,globals:=3,closure:=[],defaults:=D,kwdefaults:=.none,pyModule:=.str (au mod) f,code:=.ref c}}
 | none=>{cls:=.none,data:=.plain}
noncomputable def rf (n:Nat):af:=if n=0 then .none else .ref n
noncomputable def dS (nm q:String) (T line c o X a b d e f:Nat):bu:=
 {cls:=.type "code",data:=.fields #[.str (au nm) T,.str (au q) (T+1),.str (au "/claim/cut.py") (T+2),.int line 0,.int c 0,.int 0 0,.int 0 0,.int o 0,rf a,.bool true,.int 181 0,rf b,.none,rf d,rf e,rf f,.int X 0,.int line 0,.str (au "/claim/cut.py") (X+1)]}
noncomputable def uH (P:mw) (u:List (String×Nat×af)) (n:Nat):bu:={cls:=.type "dict",data:=.dict (u.map λx=>⟨PyData.keyHash P (au x.1),.str (au x.1) x.2.1,x.2.2⟩).toArray n}
noncomputable def yQ (nm:String) (a t u:Nat) (d:Bool) (sn:List aj):bu:=
 {cls:=.type "type",data:=.cls {name:=au nm,bases:=[.type "object"],mro:=[.ref a,.type "object"],ns:=a - 1,qualname:=au nm,hasDict:=d,slotNames:=sn},slots:= #[none,none,some (.str (au nm) t),some (.str (au nm) u),some (.builtin "object.__new__"),some (.bool d)]}
noncomputable def A2 (nm:String) (t:Nat) (i:Int):bu:={cls:=.type "member_descriptor",data:=.fields #[.str (au nm) t,.ref 176,.builtin "proto.slot",.builtin "proto.slot#set",.int i 0]}
noncomputable def KK (P:mw):kC:=[(35,dU (me 2 0) "Entry.__init__" "cpy313.urllib.robotparser" 194 34),
 (34,dS "__init__" "Entry.__init__" 208 7 1 3 212 29 30 31 32 33),
 (49,dU (me 2 2) "Entry.applies_to" "cpy313.urllib.robotparser" 194 48),
 (48,dS "applies_to" "Entry.applies_to" 225 30 2 3 231 43 44 45 46 47),
 (56,dU (me 2 3) "Entry.allowance" "cpy313.urllib.robotparser" 194 55),
 (55,dS "allowance" "Entry.allowance" 234 41 2 3 243 50 51 52 53 54),
 (70,dU (tp 3) "merge_entries" "cpy313.urllib.robotparser" 194 69),
 (69,dS "merge_entries" "merge_entries" 258 53 2 3 264 64 65 66 67 68),
 (143,dU (tp 12) "fspath" "os" 354 142),
 (142,dS "fspath" "fspath" 356 91 1 3 363 137 138 139 140 141),
 (150,dU (tp 14) "commonprefix" "cpy313.genericpath" 366 149),
 (149,dS "commonprefix" "commonprefix" 368 108 1 3 376 144 145 146 147 148),
 (172,dU (me 19 1) "_NodeInfo.__init__" "cpy313.graphlib" 390 171),
 (171,dS "__init__" "_NodeInfo.__init__" 414 136 2 3 419 166 167 168 169 170),
 (209,dU (me 21 0) "TopologicalSorter.__init__" "cpy313.graphlib" 390 208 (.ref 202)),
 (208,dS "__init__" "TopologicalSorter.__init__" 465 144 2 3 472 203 204 205 206 207),
 (216,dU (me 21 1) "TopologicalSorter._get_nodeinfo" "cpy313.graphlib" 390 215),
 (215,dS "_get_nodeinfo" "TopologicalSorter._get_nodeinfo" 475 153 2 3 481 210 211 212 213 214),
 (223,dU (me 21 2) "TopologicalSorter.add" "cpy313.graphlib" 390 222),
 (222,dS "add" "TopologicalSorter.add" 484 158 2 7 493 217 218 219 220 221),
 (228,dU (me 21 3) "TopologicalSorter.prepare" "cpy313.graphlib" 390 227),
 (227,dS "prepare" "TopologicalSorter.prepare" 496 167 1 3 499 224 225 0 0 226),
 (235,dU (me 21 4) "TopologicalSorter.get_ready" "cpy313.graphlib" 390 234),
 (234,dS "get_ready" "TopologicalSorter.get_ready" 502 175 1 3 509 229 230 231 232 233),
 (242,dU (me 21 5) "TopologicalSorter.is_active" "cpy313.graphlib" 390 241),
 (241,dS "is_active" "TopologicalSorter.is_active" 512 186 1 3 516 236 237 238 239 240),
 (256,dU (me 21 7) "TopologicalSorter.done" "cpy313.graphlib" 390 255),
 (255,dS "done" "TopologicalSorter.done" 526 194 1 7 537 250 251 252 253 254),
 (263,dU (me 21 8) "TopologicalSorter._find_cycle" "cpy313.graphlib" 390 262),
 (262,dS "_find_cycle" "TopologicalSorter._find_cycle" 540 217 1 3 550 257 258 259 260 261),
 (284,dU (tp 23) "_get_sep" "cpy313.posixpath" 572 283),
 (283,dS "_get_sep" "_get_sep" 574 249 1 3 578 278 279 280 281 282),
 (291,dU (tp 24) "join" "cpy313.posixpath" 572 290),
 (290,dS "join" "join" 581 254 1 7 589 285 286 287 288 289),
 (298,dU (tp 25) "splitroot" "cpy313.posixpath" 572 297),
 (297,dS "splitroot" "splitroot" 592 271 1 3 598 292 293 294 295 296),
 (305,dU (tp 26) "dirname" "cpy313.posixpath" 572 304),
 (304,dS "dirname" "dirname" 601 285 1 3 608 299 300 301 302 303),
 (312,dU (tp 27) "normpath" "cpy313.posixpath" 572 311),
 (311,dS "normpath" "normpath" 611 293 1 3 623 306 307 308 309 310),
 (317,dU (tp 28) "commonpath" "cpy313.posixpath" 572 316),
 (316,dS "commonpath" "commonpath" 626 318 1 3 629 313 314 0 0 315),
 (322,dU (tp 30) "_law_read" "law_rt0106_01" 632 321),
 (321,dS "_law_read" "_law_read" 634 348 1 3 637 318 319 0 0 320),
 (327,dU (tp 31) "_law_ways" "law_rt0106_01" 632 326),
 (326,dS "_law_ways" "_law_ways" 640 360 1 3 643 323 324 0 0 325),
 (332,dU (tp 32) "_law_plain" "law_rt0106_01" 632 331),
 (331,dS "_law_plain" "_law_plain" 646 368 2 3 649 328 329 0 0 330),
 (337,dU (tp 33) "_law_merged" "law_rt0106_01" 632 336),
 (336,dS "_law_merged" "_law_merged" 652 375 1 3 655 333 334 0 0 335),
 (344,dU (tp 34) "_law_line" "law_rt0106_01" 632 343),
 (343,dS "_law_line" "_law_line" 658 381 2 3 666 338 339 340 341 342),
 (349,dU (tp 35) "_law_record" "law_rt0106_01" 632 348),
 (348,dS "_law_record" "_law_record" 669 388 2 3 672 345 346 0 0 347),
 (354,dU (tp 36) "_law_told" "law_rt0106_01" 632 353),
 (353,dS "_law_told" "_law_told" 675 394 1 3 678 350 351 0 0 352),
 (359,dU (tp 37) "_law_walk" "law_rt0106_01" 632 358),
 (358,dS "_law_walk" "_law_walk" 681 396 3 3 684 355 356 0 0 357),
 (364,dU (tp 38) "law" "law_rt0106_01" 632 363),
 (363,dS "law" "law" 687 416 1 3 690 360 361 0 0 362),
 (3,uH P [("__name__",165,.str "law_rt0106_01" 632),("__doc__",166,.none),("__package__",167,.none),("__loader__",168,.builtin "__main__.__loader__#opaque"),("__spec__",169,.none),("__annotations__",170,.ref 6),("__builtins__",171,.ref 4),("__file__",173,.str "/claim/cut.py" 172),("__cached__",174,.none),("_wall",193,.ref 21),("Entry",257,.ref 59),("merge_entries",266,.ref 70),("_plain_name",277,.ref 77),("ABCMeta",303,.ref 94),("_ABCLike",346,.ref 127),("_abc_plain_meta",353,.ref 136),("fspath",365,.ref 143),("commonprefix",378,.ref 150),("_check_arg_types",389,.ref 157),("_NODE_OUT",394,.int (-1) 393),("_NODE_DONE",397,.int (-2) 396),("_NodeInfo",434,.ref 176),("CycleError",452,.ref 191),("TopologicalSorter",571,.ref 273),("_get_sep",580,.ref 284),("join",591,.ref 291),("splitroot",600,.ref 298),("dirname",610,.ref 305),("normpath",625,.ref 312),("commonpath",631,.ref 317),("_law_read",639,.ref 322),("_law_ways",645,.ref 327),("_law_plain",651,.ref 332),("_law_merged",657,.ref 337),("_law_line",668,.ref 344),("_law_record",674,.ref 349),("_law_told",680,.ref 354),("_law_walk",686,.ref 359),("law",692,.ref 364)] 39),
 (58,uH P [("__module__",203,.str "cpy313.urllib.robotparser" 194),("__firstlineno__",207,.int 5 206),("__init__",214,.ref 35),("__str__",224,.ref 42),("applies_to",233,.ref 49),("allowance",245,.ref 56),("__static_attributes__",250,.ref 57),("__dict__",252,.ref 60),("__weakref__",254,.ref 61),("__doc__",255,.none)] 4),
 (175,uH P [("__module__",405,.str "cpy313.graphlib" 390),("__firstlineno__",409,.int 133 408),("__slots__",413,.ref 165),("__init__",421,.ref 172),("__static_attributes__",425,.ref 173),("node",427,.ref 177),("npredecessors",429,.ref 178),("successors",431,.ref 179),("__doc__",432,.none)] 5),
 (272,uH P [("__module__",460,.str "cpy313.graphlib" 390),("__firstlineno__",464,.int 142 463),("__init__",474,.ref 209),("_get_nodeinfo",483,.ref 216),("add",495,.ref 223),("prepare",501,.ref 228),("get_ready",511,.ref 235),("is_active",518,.ref 242),("__bool__",525,.ref 249),("done",539,.ref 256),("_find_cycle",552,.ref 263),("static_order",559,.ref 270),("__static_attributes__",564,.ref 271),("__dict__",566,.ref 274),("__weakref__",568,.ref 275),("__doc__",569,.none)] 4),
 (59,yQ "Entry" 59 196 204 true []),(273,yQ "TopologicalSorter" 273 453 461 true []),(176,yQ "_NodeInfo" 176 398 406 false [au "node",au "npredecessors",au "successors"]),
 (177,A2 "node" 426 2),(178,A2 "npredecessors" 428 1),(179,A2 "successors" 430 0),(202,{cls:=.type "tuple",data:=.seq #[.none]})]
noncomputable def qv:eA:={pw with main:={pw.main with body:=[tp 38]}}
noncomputable def lo:List aj:=pw.boundNames.filter λx=>x != "law"
noncomputable def KA:List aq:=[35,34,49,48,56,55,70,69,143,142,150,149,172,171,209,208,216,215,223,222,228,227,235,234,242,241,256,255,263,262,284,283,291,290,298,297,305,304,312,311,317,316,322,321,327,326,332,331,337,336,344,343,349,348,354,353,359,358,364,363,3,58,175,272,59,273,176,177,178,179,202]
theorem Kg:∀P,KA=(KK P).map (·.1):=λZ=>by kernel_rfl
noncomputable abbrev oR:Hook:=kmHook KK KA Kg [339]
theorem TU:∀w:eC,(fencedOpening treeTable pw w 4000).map (λs=>(s.heap,s.gens,s.drawn,s.toks))=some (boot_heap w.params,#[],boot_drawn,boot_toks):=
 boot_open (by kernel_rfl) (by decide) (λs=>by kernel_rfl)
theorem look(w:eC)(os:CM):((topFrom treeTable pw w 4000 ⟨boot_heap w.params,#[],boot_drawn,boot_toks,os⟩).map λs=>(openSeen qv lo (importedModules pw.main.body) (λs=>xlAt qv [] s && recOk PySem.Challenge.rw_rt0106_01.row.records s) true s,oR.obs s))=some (openGood qv lo,oR.val w):=by kernel_rfl
theorem Ri:LeftO pw qv lo (λs=>xlAt qv [] s && recOk PySem.Challenge.rw_rt0106_01.row.records s) oR.obs oR.val 4000 true:=λw=>by
 obtain⟨⟨h,r,d,k,os⟩,e,q⟩:=Option.map_eq_some_iff.mp (TU w)
 obtain⟨rfl,q⟩:=lF q
 obtain⟨rfl,q⟩:=lF q
 obtain⟨rfl,rfl⟩:=lF q
 unfold openEnds
 rw [e,CL]
 exact look w os
noncomputable def dd:DefRec×List (aj×PySem.Expr):=(defOf qv "law").getD ({name:="",params:=⟨[],[],none,[],[],none,[]⟩,body:=[],scope:={kind:=.function,names:=[],isGenerator:=false,isCoroutine:=false},pos:=m8},[])
theorem UX:PySem.Challenge.rw_rt0106_01.wellSaid=true:=by
 delta OpenLaw.wellSaid
 repeat (refine look_both ?_ (by decide+kernel))
 decide+kernel
theorem PA(walk:WalkO qv lo (XL qv []) oR.says PySem.Challenge.rw_rt0106_01.row.toRowW dd.1 dd.2 λf P=>PySem.call f P):PySem.Challenge.rw_rt0106_01.Holds:=
 holds_law UX λa=>holds_open (r:=PySem.Challenge.rw_rt0106_01.row) (N:=4000) Ri (Hook.of oR) (Hook.keeps oR) (λs e=>xl_of s (Bool.and_eq_true_iff.mp e).1) XL.keeps (by kernel_rfl) (by kernel_rfl) (by kernel_rfl) (λs e=>recFacts_of (Bool.and_eq_true_iff.mp e).2) (by kernel_rfl) a (by kernel_rfl)
  ⟨by kernel_rfl,by kernel_rfl,by kernel_rfl,by kernel_rfl,by kernel_rfl,by kernel_rfl⟩ ⟨[.list []],by kernel_rfl,by kernel_rfl⟩ walk
inductive D where
 | none
 | bool (b:Bool)
 | int (i:Int)
 | str (s:aj)
 | list (xs:List D)
 | tup (xs:List D)
 | dict (ei:List (aj×D))
 | ref (i:Nat)
 | typ (n:String)
 | lam (k:Nat) (yC:List (aj×D))
 deriving Inhabited
noncomputable def D.int?:D->Option Int| .int i=>some i| _=>.none
noncomputable def D.bool?:D->Option Bool| .bool i=>some i| _=>.none
noncomputable def D.dj:D->Option aj| .str i=>some i| _=>.none
noncomputable def D.kx:D->Option (List D)| .tup i=>some i| _=>.none
noncomputable def D.ij:D->Option (List D)| .list i=>some i| _=>.none
noncomputable def D.i9:D->Option (List (aj×D))| .dict i=>some i| _=>.none
noncomputable def D.fP:D->Option Nat| .ref i=>some i| _=>.none
noncomputable def D.tC:D->Option String| .typ i=>some i| _=>.none
noncomputable def D.FY:D->Option (Nat×List (aj×D))| .lam k c=>some (k,c)| _=>.none
inductive Cell where
 | list (xs:List D)
 | dict (ei:List (aj×D))
 | set (xs:List aj)
 | inst (k:Nat) (attrs:List (aj×D))
 | slots (k:Nat) (attrs:List (Nat×D))
 | iter (l:Nat) (j:Nat)
 | i0 (b:Bool)
 | ia (k:Nat)
 | h_ (ei:List (aj×D))
 deriving Inhabited
noncomputable def Cell.ij:Cell->Option (List D)| .list xs=>some xs| _=>none
noncomputable def Cell.zQ:Cell->Option (List (aj×D))| .dict R=>some R| _=>none
noncomputable def Cell.ER:Cell->Option (List (aj×D))| .h_ R=>some R| _=>none
noncomputable def Cell.i9:Cell->Option (List (aj×D))| .dict R=>some R| .h_ R=>some R| _=>none
noncomputable def Cell.HP:Cell->Option (List aj)| .set R=>some R| _=>none
noncomputable def Cell.zI:Cell->Option (Nat×List (aj×D))| .inst k a=>some (k,a)| _=>none
noncomputable def Cell.H5:Cell->Option (Nat×List (Nat×D))| .slots k a=>some (k,a)| _=>none
noncomputable def Cell.FN:Cell->Option (Nat×Nat)| .iter l j=>some (l,j)| _=>none
noncomputable def Cell.yw:Cell->Option Bool| .i0 b=>some b| _=>none
noncomputable def Cell.zk:Cell->Option Nat| .ia b=>some b| _=>none
structure MH where
 next:Nat
 cell:Nat->Option Cell
noncomputable def aP:Nat:=1000000
abbrev aC:=String->Option D
noncomputable def aC.set (ρ:aC) (x:String) (d:D):aC:=λy=>if y=x then some d else ρ y
noncomputable def aC.drop (ρ:aC) (xs:List String):aC:=λy=>if y∈xs then none else ρ y
noncomputable def upd {α:Type} (f:Nat->α) (i:Nat) (a:α):Nat->α:=λj=>if j=i then a else f j
noncomputable def MH.new (σ:MH) (c:Cell):MH:=⟨σ.next+1,upd σ.cell σ.next (some c)⟩
noncomputable def MH.put (σ:MH) (i:Nat) (c:Cell):MH:=⟨σ.next,upd σ.cell i (some c)⟩
noncomputable def MH.del (σ:MH) (i:Nat):MH:=⟨σ.next,upd σ.cell i none⟩
noncomputable def MH.nil:MH:=⟨0,λZ=>none⟩
abbrev ME:=aC->MH->Option (D×MH)
abbrev MB:=aC->MH->Option (Bool×MH)
abbrev MF:=aC->MH->Option (Cell×MH)
abbrev MA:=aC->MH->Option (List D×MH)
abbrev MT:=D->aC->MH->Option (aC×MH)
inductive Fl where
 | next| brk| cont
 | ret (d:D)
noncomputable def Fl.oY:Fl->Bool| .next=>true| _=>false
abbrev MS:=aC->MH->Option (Fl×aC×MH)
abbrev FM:=List D->MH->Option (D×MH)
abbrev FL:=List (aj×D)->FM
abbrev gu:=List D->Option (List (String×D))
noncomputable def bU (σ:MH) (d:D):Option (List D):=match d.ij with
 | some xs=>some xs
 | none=>d.fP.bind λi=>(σ.cell i).bind λc=>c.ij
noncomputable def j1 (σ:MH) (d:D):Option (List (aj×D)):=match d.i9 with
 | some R=>some R
 | none=>d.fP.bind λi=>(σ.cell i).bind λc=>c.i9
noncomputable def gP (σ:MH) (d:D):Option (List D):=match d.kx with
 | some xs=>some xs
 | none=>bU σ d
noncomputable def mH (σ:MH) (d:D):Option (Nat×List D):=d.fP.bind λi=>(σ.cell i).bind λc=>c.ij.bind λxs=>some (i,xs)
noncomputable def cellK (σ:MH) (d:D):Option (Nat×List (aj×D)):=d.fP.bind λi=>(σ.cell i).bind λc=>c.zQ.bind λxs=>some (i,xs)
noncomputable def rW (σ:MH) (d:D):Option (Nat×List aj):=d.fP.bind λi=>(σ.cell i).bind λc=>c.HP.bind λxs=>some (i,xs)
noncomputable def DW (σ:MH) (d:D):Option (Nat×Nat×List (aj×D)):=d.fP.bind λi=>(σ.cell i).bind λc=>c.zI.bind λx=>some (i,x)
noncomputable def uB (k:Nat) (σ:MH) (d:D):Option (Nat×List (Nat×D)):=d.fP.bind λi=>(σ.cell i).bind λc=>c.H5.bind λx=>if x.1=k then some (i,x.2) else none
noncomputable def eh (d:D) (σ:MH):Bool:=(mH σ d).isSome
noncomputable def mV (d:D) (σ:MH):Bool:=(j1 σ d).isSome
noncomputable def sz (d:D) (σ:MH):Bool:=(rW σ d).isSome
noncomputable def jb:D->Bool| .none=>true| _=>false
noncomputable def eF (R:List (aj×D)) (k:aj) (d:D):List (aj×D):=if R.any (λp=>p.1=k) then R.map (λp=>if p.1=k then (p.1,d) else p) else R++ [(k,d)]
noncomputable def putN (l:List (Nat×D)) (i:Nat) (d:D):List (Nat×D):=if l.any (λp=>p.1=i) then l.map (λp=>if p.1=i then (p.1,d) else p) else l++ [(i,d)]
noncomputable def fB (s:aj):Bool:=fJ s && decide (s.length<=aP)
noncomputable def o_ (s:aj):Option D:=if fB s=true then some (.str s) else none
namespace ME
noncomputable def int (i:Int):ME:=λZ σ=>some (.int i,σ)
noncomputable def str (s:String):ME:=λZ σ=>some (.str (au s),σ)
noncomputable def bool (b:Bool):ME:=λZ σ=>some (.bool b,σ)
noncomputable def none_:ME:=λZ σ=>some (.none,σ)
noncomputable def typ (t:String):ME:=λZ σ=>some (.typ t,σ)
noncomputable def never:ME:=λZ Z=>none
noncomputable def var (x:String):ME:=λρ σ=>(ρ x).bind λd=>some (d,σ)
noncomputable def ax (f:D->MH->Option (D×MH)) (a:ME):ME:=λρ σ=>(a ρ σ).bind λp=>f p.1 p.2
noncomputable def bh (f:D->D->MH->Option (D×MH)) (a b:ME):ME:=λρ σ=>(a ρ σ).bind λp=>(b ρ p.2).bind λq=>f p.1 q.1 q.2
end ME
noncomputable def cm (f:D->D->MH->Option D):D->D->MH->Option (D×MH):=λd e σ=>(f d e σ).bind λr=>some (r,σ)
noncomputable def gD (f:D->MH->Option D):D->MH->Option (D×MH):=λd σ=>(f d σ).bind λr=>some (r,σ)
noncomputable def yd (x y:aj):Option D:=if x.length+y.length<=aP then some (.str (x++y)) else none
noncomputable def yc (xs I:List D):Option D:=if xs.length+I.length<=aP then some (.list (xs++I)) else none
noncomputable def pX (a b:D) (σ:MH):Option D:=match a.int? with
 | some x=>b.int?.bind λy=>some (.int (x+y))
 | none=>match a.dj with
  | some x=>b.dj.bind λy=>yd x y
  | none=>(bU σ a).bind λxs=>(bU σ b).bind λI=>yc xs I
noncomputable def ui (a b:D) (σ:MH):Option (Cell×MH):=(bU σ a).bind λxs=>(bU σ b).bind λI=>if xs.length+I.length<=aP then some (.list (xs++I),σ) else none
noncomputable def intD (f:Int->Int->Option D) (a b:D) (_:MH):Option D:=a.int?.bind λx=>b.int?.bind λy=>f x y
noncomputable def Be:D->D->MH->Option D:=intD λx y=>some (.int (x - y))
noncomputable def Aj:D->D->MH->Option D:=intD λx y=>if 0<y then some (.int (x % y)) else none
noncomputable def EM:D->D->MH->Option D:=intD λx y=>if 0<y/\y<1000 then some (.int (x / y)) else none
noncomputable def GV:D->D->MH->Option D:=intD λx y=>if x.natAbs<1000000/\y.natAbs<1000000 then some (.int (x*y)) else none
noncomputable def GW (a b:D) (_:MH):Option D:=a.dj.bind λx=>b.int?.bind λn=>if x.length=1/\0<=n/\n<100000/\fB (Txt.mul x n)=true then some (.str (Txt.mul x n)) else none
noncomputable def zG (a b:D) (_:MH):Option D:=match a.int? with
 | some x=>b.int?.bind λy=>some (.int (x+y))
 | none=>a.dj.bind λx=>b.dj.bind λy=>yd x y
noncomputable def kT:D->D->MH->Option (D×MH):=cm zG
noncomputable def u7:D->D->MH->Option (D×MH):=cm Be
noncomputable def hB (f:D->Option fX):List D->Option (List fX)
 | []=>some []
 | d::j=>(f d).bind λp=>(hB f j).bind λps=>some (p::ps)
noncomputable def cX (σ:MH):Nat->D->Option fX
 | 0,_=>none
 | k+1,d=>match bU σ d with
  | some xs=>(hB (cX σ k) xs).bind λps=>some (.list ps)
  | none=>(match d with
   | .none=>some .none
   | .bool b=>some (.bool b)
   | .int i=>some (.int i)
   | .str s=>some (.str s)
   | .tup xs=>(hB (cX σ k) xs).bind λps=>some (.tuple ps)
   | _=>none)
noncomputable def eqB (σ:MH) (a b:D):Option Bool:=(cX σ 6 a).bind λp=>(cX σ 6 b).bind λq=>some (fg p q)
noncomputable def uQ (a b:D) (σ:MH):Option D:=(eqB σ a b).bind λx=>some (.bool x)
noncomputable def sO (a b:D) (σ:MH):Option D:=(eqB σ a b).bind λx=>some (.bool (!x))
noncomputable def Gn:D->D->MH->Option D:=intD λx y=>some (.bool (decide (x<y)))
noncomputable def Fb:D->D->MH->Option D:=intD λx y=>some (.bool (decide (x>y)))
noncomputable def FH (a b:D) (_:MH):Option D:=if jb b=true then some (.bool (jb a)) else none
noncomputable def G1 (a b:D) (_:MH):Option D:=if jb b=true then some (.bool (!jb a)) else none
noncomputable def mT (σ:MH) (x c:D):Option Bool:=match c.dj with
 | some t=>x.dj.bind λu=>some (!(mf t u 0 t.length 1).isEmpty)
 | none=>(match bU σ c with
  | some xs=>(cX σ 6 x).bind λp=>(hB (cX σ 6) xs).bind λps=>some (ps.any λy=>fg y p)
  | none=>(j1 σ c).bind λR=>x.dj.bind λu=>some (R.lookup u).isSome)
noncomputable def inD (a b:D) (σ:MH):Option D:=(mT σ a b).bind λx=>some (.bool x)
noncomputable def Au (a b:D) (σ:MH):Option D:=(mT σ a b).bind λx=>some (.bool (!x))
noncomputable def FD (d e:D) (σ:MH):Option D:=d.dj.bind λk=>(rW σ e).bind λp=>some (.bool (decide (k∈p.2)))
noncomputable def oV:D->D->MH->Option (D×MH):=cm FD
noncomputable def k9 (σ:MH) (d:D):Option Bool:=match bU σ d with
 | some xs=>some (!xs.isEmpty)
 | none=>(match d with
  | .none=>some false
  | .bool b=>some b
  | .int i=>some (i !=0)
  | .str s=>some (!(s.length==0))
  | .tup xs=>some (!xs.isEmpty)
  | _=>none)
namespace MB
noncomputable def val (a:ME):MB:=λρ σ=>(a ρ σ).bind λp=>(k9 p.2 p.1).bind λb=>some (b,p.2)
noncomputable def not (b:MB):MB:=λρ σ=>(b ρ σ).bind λp=>some (!p.1,p.2)
noncomputable def and (a b:MB):MB:=λρ σ=>(a ρ σ).bind λp=>bif p.1 then b ρ p.2 else some (false,p.2)
noncomputable def or (a b:MB):MB:=λρ σ=>(a ρ σ).bind λp=>bif p.1 then some (true,p.2) else b ρ p.2
end MB
noncomputable def ME.ite (b:MB) (x y:ME):ME:=λρ σ=>(b ρ σ).bind λp=>bif p.1 then x ρ p.2 else y ρ p.2
noncomputable def ME.or (a b:ME):ME:=λρ σ=>(a ρ σ).bind λp=>(k9 p.2 p.1).bind λc=>bif c then some p else b ρ p.2
noncomputable def ME.and (a b:ME):ME:=λρ σ=>(a ρ σ).bind λp=>(k9 p.2 p.1).bind λc=>bif c then b ρ p.2 else some p
noncomputable def An (d:D) (_:MH):Option D:=d.int?.bind λi=>some (.int (-i))
noncomputable def GY (d:D) (σ:MH):Option D:=(k9 σ d).bind λb=>some (.bool (!b))
noncomputable def sq (xs:List D) (k:Int):Option D:=if -(xs.length:Int)<=k then xs[(k+xs.length).toNat]? else none
noncomputable def ef (xs:List D) (k:Int):Option D:=bif decide (0<=k) then xs[k.toNat]? else sq xs k
noncomputable def mS (c i:D) (σ:MH):Option D:=match c.kx with
 | some xs=>i.int?.bind λk=>ef xs k
 | none=>(match bU σ c with
  | some xs=>i.int?.bind λk=>ef xs k
  | none=>(j1 σ c).bind λR=>i.dj.bind λu=>R.lookup u)
noncomputable def aG:List ME->aC->MH->Option (List D×MH)
 | [],_,σ=>some ([],σ)
 | m::I,ρ,σ=>(m ρ σ).bind λp=>(aG I ρ p.2).bind λq=>some (p.1::q.1,q.2)
noncomputable def ME.list (I:List ME):ME:=λρ σ=>(aG I ρ σ).bind λp=>if p.1.length<=aP then some (.list p.1,p.2) else none
noncomputable def ME.tup (I:List ME):ME:=λρ σ=>(aG I ρ σ).bind λp=>if p.1.length<=aP then some (.tup p.1,p.2) else none
noncomputable def jF:Option ME->aC->MH->Option (Option Int×MH)
 | none,_,σ=>some (none,σ)
 | some m,ρ,σ=>(m ρ σ).bind λp=>p.1.int?.bind λi=>some (some i,p.2)
noncomputable def jQ (xs:List D) (lo hi:Option Int):List D:=(xs.drop (lo.elim 0 (iI xs.length))).take (hi.elim xs.length (iI xs.length) - lo.elim 0 (iI xs.length))
noncomputable def ng (x:aj) (lo w:Option Int):aj:=CX x lo w
noncomputable def A4 (σ:MH) (c:D) (lo w:Option Int):Option D:=match c.dj with
 | some x=>some (.str (ng x lo w))
 | none=>(bU σ c).bind λxs=>some (.list (jQ xs lo w))
noncomputable def ME.slice (c:ME) (lo hi:Option ME):ME:=λρ σ=>(c ρ σ).bind λp=>(jF lo ρ p.2).bind λl=>(jF hi ρ l.2).bind λh=>(A4 h.2 p.1 l.1 h.1).bind λd=>some (d,h.2)
noncomputable def lZ (xs:List D) (lo w st:Option Int):List D:=(HX (HW lo w st xs.length).1 (HW lo w st xs.length).2.1 (HW lo w st xs.length).2.2).filterMap (xs[·]?)
noncomputable def Ib (xs:List D) (lo w st:Option Int):Option D:=if st≠some 0/\(lZ xs lo w st).length<=aP then some (.list (lZ xs lo w st)) else none
noncomputable def ME.nh (c:ME) (lo hi st:Option ME):ME:=λρ σ=>(c ρ σ).bind λp=>(jF lo ρ p.2).bind λl=>(jF hi ρ l.2).bind λh=>(jF st ρ h.2).bind λk=>(bU k.2 p.1).bind λxs=>(Ib xs l.1 h.1 k.1).bind λd=>some (d,k.2)
namespace MT
noncomputable def name (x:String):MT:=λd ρ σ=>some (ρ.set x d,σ)
noncomputable def seq:List MT->List D->aC->MH->Option (aC×MH)
 | [],[],ρ,σ=>some (ρ,σ)
 | t::l,d::j,ρ,σ=>(t d ρ σ).bind λp=>seq l j p.1 p.2
 | _,_,_,_=>none
noncomputable def tup (l:List MT):MT:=λd ρ σ=>d.kx.bind λj=>seq l j ρ σ
end MT
namespace MS
noncomputable def assign (t:MT) (m:ME):MS:=λρ σ=>(m ρ σ).bind λp=>(t p.1 ρ p.2).bind λq=>some (.next,q.1,q.2)
noncomputable def pZ (t u:MT) (m:ME):MS:=λρ σ=>(m ρ σ).bind λp=>(t p.1 ρ p.2).bind λq=>(u p.1 q.1 q.2).bind λv=>some (.next,v.1,v.2)
noncomputable def expr (m:ME):MS:=λρ σ=>(m ρ σ).bind λp=>some (.next,ρ,p.2)
noncomputable def ret (m:ME):MS:=λρ σ=>(m ρ σ).bind λp=>some (.ret p.1,ρ,p.2)
noncomputable def brk:MS:=λρ σ=>some (.brk,ρ,σ)
noncomputable def cont:MS:=λρ σ=>some (.cont,ρ,σ)
noncomputable def never:MS:=λZ Z=>none
noncomputable def ite (b:MB) (x y:MS):MS:=λρ σ=>(b ρ σ).bind λp=>bif p.1 then x ρ p.2 else y ρ p.2
noncomputable def nil:MS:=λρ σ=>some (.next,ρ,σ)
noncomputable def cons (x y:MS):MS:=λρ σ=>(x ρ σ).bind λp=>bif p.1.oY then y p.2.1 p.2.2 else some p
noncomputable def pg (x:String) (m:ME) (xs I:MS):MS:=λρ σ=>(m ρ σ).bind λp=>bif jb p.1 then xs (ρ.set x p.1) p.2 else I (ρ.set x p.1) p.2
noncomputable def IB (x y:MS):MS:=λρ σ=>(x ρ σ).bind λp=>bif p.1.oY then y p.2.1 p.2.2 else none
end MS
noncomputable def Fl.val?:Fl->Option D| .ret d=>some d| .next=>some .none| _=>none
noncomputable def c_ (bs:List (String×D)):aC:=bs.foldl (λρ b=>ρ.set b.1 b.2) (λZ=>none)
noncomputable def bO (B:gu) (m:MS):FM:=λj σ=>(B j).bind λbs=>(m (c_ bs) σ).bind λp=>p.1.val?.bind λd=>some (d,p.2.2)
noncomputable def td (S:List (aj×D)) (bs:List (String×D)):aC:=λx=>match S.lookup (au x) with
 | some d=>some d
 | none=>c_ bs x
noncomputable def FZ (B:gu) (m:ME):FL:=λS j σ=>(B j).bind λbs=>m (td S bs) σ
noncomputable def noRef:Nat->D->Bool
 | 0,_=>false
 | k+1,d=>(match d with
  | .list xs=>xs.all (noRef k)
  | .tup xs=>xs.all (noRef k)
  | .dict R=>R.all λp=>noRef k p.2
  | .lam _ S=>S.all λp=>noRef k p.2
  | .ref _=>false
  | _=>true)
noncomputable def uT (f:D->Option D):List D->Option (List D)
 | []=>some []
 | d::j=>(f d).bind λx=>(uT f j).bind λxs=>some (x::xs)
noncomputable def sd (f:D->Option D):List (aj×D)->Option (List (aj×D))
 | []=>some []
 | p::j=>(f p.2).bind λx=>(sd f j).bind λxs=>some ((p.1,x)::xs)
noncomputable def aI (f:D->Option D):Cell->Option D
 | .list xs=>(uT f xs).bind λI=>some (.list I)
 | .dict R=>(sd f R).bind λI=>some (.dict I)
 | _=>none
noncomputable def bq (σ:MH):Nat->D->Option D
 | 0,_=>none
 | k+1,d=>(match d.fP with
  | some i=>(σ.cell i).bind λc=>aI (bq σ k) c
  | none=>if noRef (k+1) d=true then some d else none)
noncomputable def m9 (F:FM) (j:List D):Option D:=if j.all (noRef 6)=true then (F j MH.nil).bind λp=>bq p.2 5 p.1 else none
noncomputable def fO (F:FM):FM:=λj σ=>(m9 F j).bind λd=>some (d,σ)
noncomputable def ME.a8 (F:FM) (g:MA):ME:=λρ σ=>(g ρ σ).bind λp=>F p.1 p.2
noncomputable abbrev ME.call (F:FM) (I:List ME):ME:=ME.a8 F (aG I)
noncomputable def r7 (m d:ME):MA:=λρ σ=>(m ρ σ).bind λp=>(d ρ p.2).bind λq=>(gP q.2 q.1).bind λI=>some (p.1::I,q.2)
noncomputable def bind1 (x:String):gu:=λj=>match j with| [a]=>some [(x,a)]| _=>none
noncomputable def j3 (x y:String):gu:=λj=>match j with| [a,b]=>some [(x,a),(y,b)]| _=>none
noncomputable def yp (x y z:String):gu:=λj=>match j with| [a,b,c]=>some [(x,a),(y,b),(z,c)]| _=>none
noncomputable def yq (x y:String):gu:=λj=>match j with| [a]=>some [(x,a),(y,.none)]| _=>none
noncomputable def p4 (x y:String):gu:=λj=>match j with
 | [a,b]=>some [(x,a),(y,.tup [b])]
 | [a,b,c,d]=>some [(x,a),(y,.tup [b,c,d])]
 | _=>none
noncomputable def yr (x y z:String):gu:=λj=>match j with
 | [a,b]=>some [(x,a),(y,b),(z,.tup [])]
 | [a,b,c]=>some [(x,a),(y,b),(z,.tup [c])]
 | _=>none
abbrev dR:=MH->Nat->Option (Option D)
abbrev MI:=aC->MH->Option (dR×Nat×MH)
noncomputable def vz (q:Fl×aC×MH) (a:aC->MH->Option (Fl×aC×MH)):Option (Fl×aC×MH):=match q.1 with
 | .next=>a q.2.1 q.2.2
 | .cont=>a q.2.1 q.2.2
 | .brk=>some (.next,q.2)
 | .ret _=>some q
noncomputable def mQ (V:dR) (t:MT) (O:MS):Nat->Nat->aC->MH->Option (Fl×aC×MH)
 | 0,_,_,_=>none
 | f+1,j,ρ,σ=>(V σ j).bind λx=>match x with
  | none=>some (.next,ρ,σ)
  | some d=>(t d ρ σ).bind λp=>(O p.1 p.2).bind λq=>vz q (mQ V t O f (j+1))
noncomputable def MS.cD (mi:MI) (t:MT) (body:MS):MS:=λρ σ=>(mi ρ σ).bind λp=>mQ p.1 t body p.2.1 0 ρ p.2.2
noncomputable def qL (b:MB) (O a:MS):Nat->aC->MH->Option (Fl×aC×MH)
 | 0,_,_=>none
 | f+1,ρ,σ=>(b ρ σ).bind λp=>bif p.1 then (O ρ p.2).bind λq=>vz q (qL b O a f) else a ρ p.2
noncomputable def MS.nF (f:Nat) (b:MB) (O a:MS):MS:=qL b O a f
noncomputable def fj (d:D):dR:=λσ j=>(gP σ d).bind λxs=>some xs[j]?
noncomputable def keysAt (R:List (aj×D)):dR:=λZ j=>some (R[j]?.map λp=>.str p.1)
noncomputable def ie (xs:List D):dR:=λZ j=>some xs[j]?
noncomputable def uP (d:D):dR:=λσ j=>(bU σ d).bind λxs=>some (xs[j]?.map λx=>.tup [.int j,x])
noncomputable def MI.of (m:ME):MI:=λρ σ=>(m ρ σ).bind λp=>match p.1.i9 with
 | some R=>some (keysAt R,R.length+1,p.2)
 | none=>(gP p.2 p.1).bind λxs=>some (fj p.1,xs.length+1,p.2)
noncomputable def MI.enum (m:ME):MI:=λρ σ=>(m ρ σ).bind λp=>(bU p.2 p.1).bind λxs=>some (uP p.1,xs.length+1,p.2)
noncomputable def MI.p9 (m:ME):MI:=λρ σ=>(m ρ σ).bind λp=>p.1.fP.bind λi=>(p.2.cell i).bind λc=>c.ER.bind λR=>some (keysAt R,R.length+1,p.2)
noncomputable def MI.values (m:ME):MI:=λρ σ=>(m ρ σ).bind λp=>(cellK p.2 p.1).bind λc=>some (ie (c.2.map (·.2)),c.2.length+1,p.2.put c.1 (.h_ c.2))
noncomputable def gU (a c:Int) (k:Nat):List D:=(dv k).map λ(i:Nat)=>.int (a+(i:Int)*c)
noncomputable def wd (a c k:Int):Option (dR×Nat):=if 0<=k/\k<=(aP:Int) then some (ie (gU a c k.toNat),k.toNat+1) else none
noncomputable def MI.gT (m:ME):MI:=λρ σ=>(m ρ σ).bind λp=>p.1.int?.bind λk=>(wd 0 1 k).bind λq=>some (q.1,q.2,p.2)
noncomputable def MI.pd (m:ME):MI:=λρ σ=>(m ρ σ).bind λp=>p.1.int?.bind λk=>(wd k (-1) k).bind λq=>some (q.1,q.2,p.2)
noncomputable def ME.d9 (m:MF):ME:=λρ σ=>(m ρ σ).bind λp=>some (.ref p.2.next,p.2.new p.1)
noncomputable def uA:Cell->Option D
 | .list xs=>some (.list xs)
 | .dict R=>some (.dict R)
 | _=>none
noncomputable def ME.aI (m:MF):ME:=λρ σ=>(m ρ σ).bind λp=>(uA p.1).bind λd=>some (d,p.2)
abbrev MX:=aC->MH->Cell->Option (aC×MH×Cell)
noncomputable def oU:List MB->aC->MH->Option (Bool×MH)
 | []=>λZ σ=>some (true,σ)
 | b::bs=>λρ σ=>(b ρ σ).bind λp=>bif p.1 then oU bs ρ p.2 else some (false,p.2)
noncomputable def j8 (V:dR) (t:MT) (e:List MB) (O:MX):Nat->Nat->aC->MH->Cell->Option (aC×MH×Cell)
 | 0,_,_,_,_=>none
 | f+1,j,ρ,σ,x=>(V σ j).bind λy=>match y with
  | none=>some (ρ,σ,x)
  | some d=>(t d ρ σ).bind λp=>(oU e p.1 p.2).bind λc=>bif c.1 then (O p.1 c.2 x).bind λq=>j8 V t e O f (j+1) q.1 q.2.1 q.2.2 else j8 V t e O f (j+1) p.1 c.2 x
noncomputable def MX.inner (d:MI) (t:MT) (ifs:List MB) (O:MX):MX:=λρ σ x=>(d ρ σ).bind λp=>j8 p.1 t ifs O p.2.1 0 ρ p.2.2 x
noncomputable def MX.elt (m:ME):MX:=λρ σ x=>(m ρ σ).bind λp=>x.ij.bind λj=>if j.length<aP then some (ρ,p.2,.list (j++ [p.1])) else none
noncomputable def MX.kv (mk mv:ME):MX:=λρ σ x=>(mk ρ σ).bind λp=>p.1.dj.bind λk=>(mv ρ p.2).bind λq=>x.zQ.bind λR=>if R.length<aP then some (ρ,q.2,.dict (eF R k q.1)) else none
noncomputable def MX.nC (m:ME):MX:=λρ σ x=>(m ρ σ).bind λp=>p.1.bool?.bind λb=>x.yw.bind λZ=>if b=true then some (ρ,p.2,.i0 true) else none
noncomputable def MS.qJ (x:String) (m:MF):MS:=λρ σ=>(m ρ σ).bind λp=>p.1.yw.bind λb=>if b=true then some (.next,ρ.set x (.bool true),p.2) else none
namespace MF
noncomputable def comp (d:MI) (t:MT) (ifs:List MB) (O:MX) (own:List String) (c:Cell):MF:=λρ σ=>(d ρ σ).bind λp=>(j8 p.1 t ifs O p.2.1 0 (ρ.drop own) p.2.2 c).bind λq=>some (q.2.2,q.2.1)
noncomputable def list (I:List ME):MF:=λρ σ=>(aG I ρ σ).bind λp=>if p.1.length<=aP then some (.list p.1,p.2) else none
noncomputable def ax (f:D->MH->Option (Cell×MH)) (a:ME):MF:=λρ σ=>(a ρ σ).bind λp=>f p.1 p.2
noncomputable def bh (f:D->D->MH->Option (Cell×MH)) (a b:ME):MF:=λρ σ=>(a ρ σ).bind λp=>(b ρ p.2).bind λq=>f p.1 q.1 q.2
noncomputable def te:MF:=λZ σ=>some (.set [],σ)
noncomputable def mM:MF:=λZ σ=>some (.dict [],σ)
noncomputable def mN (mk mv:ME):MF:=λρ σ=>(mk ρ σ).bind λp=>p.1.dj.bind λk=>(mv ρ p.2).bind λq=>some (.dict [(k,q.1)],q.2)
noncomputable def ia (k:Nat):MF:=λZ σ=>some (.ia k,σ)
end MF
noncomputable def vg (d:D) (σ:MH):Option D:=match d.dj with
 | some s=>some (.int s.length)
 | none=>(gP σ d).bind λxs=>some (.int xs.length)
noncomputable def bW:D->MH->Option (D×MH):=gD vg
noncomputable def ux (d:D) (σ:MH):Option D:=match bU σ d with
 | some xs=>some (.bool (!xs.isEmpty))
 | none=>d.bool?.bind λb=>some (.bool b)
noncomputable def yt:D->MH->Option (D×MH):=gD ux
noncomputable def strOf (p:fX):Bool:=p.showable && (!p.hasDict && (isDisplay p && (decide (p.depth<=6) && (decide (p.shown.length<=aP) && fJ p.shown))))
noncomputable def nk (d:D) (σ:MH):Option D:=match d.bool? with
 | some b=>some (.str (if b then au "True" else au "False"))
 | none=>(cX σ 6 d).bind λp=>if strOf p=true then some (.str p.shown) else none
noncomputable def jR:D->MH->Option (D×MH):=gD nk
noncomputable def qk (d:D) (σ:MH):Option (Cell×MH):=(gP σ d).bind λxs=>some (.list xs,σ)
noncomputable def sD (d:D) (σ:MH):Option (Cell×MH):=d.i9.bind λR=>some (.list (R.map λp=>.str p.1),σ)
noncomputable def IG (d:D) (σ:MH):Option D:=(bU σ d).bind λxs=>some (.tup xs)
noncomputable def wD:D->MH->Option (D×MH):=gD IG
noncomputable def qI:List D->Option (List String)
 | []=>some []
 | d::j=>d.tC.bind λt=>(qI j).bind λl=>some (t::l)
noncomputable def zO (d e:D) (σ:MH):Option D:=match e.tC with
 | some t=>d.dj.bind λZ=>if t= "bytes" then some (.bool false) else none
 | none=>e.kx.bind λxs=>(qI xs).bind λl=>(bU σ d).bind λZ=>if l= ["list","tuple"] then some (.bool true) else none
noncomputable def mY:D->D->MH->Option (D×MH):=cm zO
noncomputable def FJ (d e:D) (_:MH):Option D:=d.tC.bind λt=>e.kx.bind λxs=>(qI xs).bind λl=>if t= "str" /\l= ["str","bytes"] then some (.bool true) else none
noncomputable def FK:D->D->MH->Option (D×MH):=cm FJ
noncomputable def IH (d:D) (_:MH):Option D:=d.dj.bind λZ=>some (.typ "str")
noncomputable def II:D->MH->Option (D×MH):=gD IH
noncomputable def r5 (d e:D):Option Bool:=match d.int? with
 | some a=>e.int?.bind λb=>some (a==b)
 | none=>match d.dj with
  | some a=>e.dj.bind λb=>some (a==b)
  | none=>d.bool?.bind λa=>e.bool?.bind λb=>some (a==b)
noncomputable def rX (gt:Bool) (d e:D):Option Bool:=match d.int? with
 | some a=>e.int?.bind λb=>some (if gt then decide (a>b) else decide (a<b))
 | none=>match d.dj with
  | some a=>e.dj.bind λb=>some (if gt then decide (b.cps.toList<a.cps.toList) else decide (a.cps.toList<b.cps.toList))
  | none=>d.bool?.bind λa=>e.bool?.bind λb=>if gt=true then some (a && !b) else none
noncomputable def oH (d e:D):Bool:=(r5 d e).getD false
noncomputable def oB (gt:Bool) (d e:D):Bool:=(rX gt d e).getD false
noncomputable def vb (gt:Bool) (d e:D):Bool:=(r5 d e).isSome && (rX gt d e).isSome
noncomputable def o4 (gt:Bool):List D->List D->Bool
 | [],[]=>false
 | [],_::_=> !gt
 | _::_,[]=>gt
 | x::xs,y::I=>if oH x y then o4 gt xs I else oB gt x y
noncomputable def vh (gt:Bool) (xs I:List D):Option Bool:=if (xs.zip I).all (λp=>vb gt p.1 p.2)=true then some (o4 gt xs I) else none
noncomputable def i8 (σ:MH) (gt:Bool) (d e:D):Option Bool:=match d.kx with
 | some xs=>e.kx.bind λI=>if gt=true then vh gt xs I else none
 | none=>(bU σ d).bind λxs=>(bU σ e).bind λI=>vh gt xs I
noncomputable def ov (σ:MH) (gt:Bool) (xs:List D) (i j:Nat):Bool:=match xs[i]?,xs[j]? with| some x,some y=>(i8 σ gt x y).getD false| _,_=>false
noncomputable def oq (gt:Bool) (d:D) (σ:MH):Option D:=(bU σ d).bind λxs=>if 0<xs.length/\(xs.all λx=>xs.all λy=>(i8 σ gt x y).isSome)=true then xs[eR (ov σ gt xs) (xs.length - 1)]? else none
noncomputable def mE (gt:Bool):D->MH->Option (D×MH):=gD (oq gt)
noncomputable def intsOf:List D->Option (List Int)
 | []=>some []
 | d::r=>d.int?.bind λi=>(intsOf r).bind λis=>some (i::is)
noncomputable def Ir (d:D) (σ:MH):Option D:=(bU σ d).bind λxs=>(intsOf xs).bind λis=>some (.int is.sum)
noncomputable def sumF:D->MH->Option (D×MH):=gD Ir
noncomputable def vI (F:FM) (σ:MH):List D->Option (List D)
 | []=>some []
 | y::I=>(F [y] σ).bind λp=>(vI F σ I).bind λf=>some (p.1::f)
noncomputable def ME.qH (F:FM) (m:ME):ME:=λρ σ=>(m ρ σ).bind λp=>p.1.ij.bind λI=>(vI F p.2 I).bind λf=>some (.tup f,p.2)
noncomputable def wy (f:aj->aj->Option D) (d e:D) (_:MH):Option D:=d.dj.bind λx=>e.dj.bind λy=>f x y
noncomputable def tu:D->D->MH->Option (D×MH):=cm (wy λx y=>some (.bool (ya x y)))
noncomputable def endsF:D->D->MH->Option (D×MH):=cm (wy λx y=>some (.bool (Txt.endswith x y)))
noncomputable def HD:D->D->MH->Option (D×MH):=cm (wy λx y=>some (.int (Txt.rfind x y)))
noncomputable def HG:D->D->MH->Option (D×MH):=cm (wy λx y=>o_ (Txt.rstripChars x y))
noncomputable def sE:D->MH->Option (D×MH):=gD λd Z=>d.dj.bind λx=>o_ (h5 x)
noncomputable def Vm (x y:aj):Option Cell:=if (y.length==0)=false/\(Txt.split x y).all fB=true/\(Txt.split x y).length<=aP then some (.list ((Txt.split x y).map .str)) else none
noncomputable def pf (d e:D) (σ:MH):Option (Cell×MH):=d.dj.bind λx=>e.dj.bind λy=>(Vm x y).bind λc=>some (c,σ)
noncomputable def strsOf:List D->Option (List aj)
 | []=>some []
 | d::r=>d.dj.bind λi=>(strsOf r).bind λis=>some (i::is)
noncomputable def FP (d e:D) (σ:MH):Option D:=d.dj.bind λx=>(bU σ e).bind λxs=>(strsOf xs).bind λI=>if t5 x I=true then o_ (iZ x I) else none
noncomputable def jd:D->D->MH->Option (D×MH):=cm FP
noncomputable def fK (d e:D) (σ:MH):Option (D×MH):=(mH σ d).bind λp=>if p.2.length<aP then some (.none,σ.put p.1 (.list (p.2++ [e]))) else none
noncomputable def oA (d:D) (σ:MH):Option (D×MH):=(mH σ d).bind λp=>some (.none,σ.put p.1 (.list []))
noncomputable def p8 (d e:D) (σ:MH):Option (D×MH):=(mH σ d).bind λp=>(bU σ e).bind λI=>if p.2.length+I.length<=aP then some (.none,σ.put p.1 (.list (p.2++I))) else none
noncomputable def pa (d:D) (σ:MH):Option (D×MH):=(mH σ d).bind λp=>p.2.getLast?.bind λx=>some (x,σ.put p.1 (.list p.2.dropLast))
noncomputable def ME.dB (c:D->MH->Bool) (f:D->D->MH->Option (D×MH)) (a b:ME):ME:=λρ σ=>(a ρ σ).bind λp=>if c p.1 p.2=true then (b ρ p.2).bind λq=>f p.1 q.1 q.2 else none
noncomputable def Pd (d e:D) (σ:MH):Option D:=(j1 σ d).bind λR=>e.dj.bind λk=>some ((R.lookup k).getD .none)
noncomputable def p_:D->D->MH->Option (D×MH):=cm Pd
noncomputable def qx (xs:List aj) (k:aj):List aj:=if k∈xs then xs else xs++ [k]
noncomputable def wh (d e:D) (σ:MH):Option (D×MH):=e.dj.bind λk=>(rW σ d).bind λp=>if p.2.length+1<4000 then some (.none,σ.put p.1 (.set (qx p.2 k))) else none
noncomputable def MT.sub (mo mi:ME):MT:=λd ρ σ=>(mo ρ σ).bind λp=>(mi ρ p.2).bind λq=>q.1.dj.bind λk=>(cellK q.2 p.1).bind λc=>if c.2.length<aP then some (ρ,q.2.put c.1 (.dict (eF c.2 k d))) else none
noncomputable def MF.oL (a b:ME):MF:=λρ σ=>(a ρ σ).bind λp=>(bU p.2 p.1).bind λxs=>(strsOf xs).bind λS=>(b ρ p.2).bind λq=>(bU q.2 q.1).bind λf=>(strsOf f).bind λI=>
 if S.length<4000/\I.all fB=true/\I.length<=aP then some (.list ((I.filter λx=>decide (x∈S)).map .str),q.2) else none
noncomputable def sx (σ:MH) (d:D):Option (Nat×List (aj×D)):=d.fP.bind λi=>(σ.cell i).bind λc=>c.zI
noncomputable def rR (k:Nat) (name:aj) (d:D) (σ:MH):Option D:=(sx σ d).bind λx=>if x.1=k then x.2.lookup name else none
noncomputable def aV (k:Nat) (name:aj):D->MH->Option (D×MH):=gD (rR k name)
noncomputable def s8 (k:Nat) (name:aj) (o d:D) (σ:MH):Option MH:=(DW σ o).bind λc=>if c.2.1=k/\c.2.2.length<=1000 then some (σ.put c.1 (.inst k (eF c.2.2 name d))) else none
noncomputable def MT.attr (k:Nat) (name:aj) (mo:ME):MT:=λd ρ σ=>(mo ρ σ).bind λp=>(s8 k name p.1 d p.2).bind λab=>some (ρ,ab)
noncomputable def MS.oj (k:Nat) (name:aj) (f:D->D->MH->Option (D×MH)) (U me:ME):MS:=λρ σ=>(U ρ σ).bind λp=>(rR k name p.1 p.2).bind λx=>(me ρ p.2).bind λq=>(f x q.1 q.2).bind λz=>(s8 k name p.1 z.1 z.2).bind λab=>some (.next,ρ,ab)
noncomputable def yR (k:Nat) (F:FM):FM:=λj σ=>(F (.ref σ.next::j) (σ.new (.inst k []))).bind λp=>if jb p.1=true then some (.ref σ.next,p.2) else none
noncomputable def D1 (k:Nat) (F:FM):FM:=λj σ=>(F (.ref σ.next::j) (σ.new (.slots k []))).bind λp=>if jb p.1=true then some (.ref σ.next,p.2) else none
noncomputable def qt (C:aq) (name:aj) (σ:MH) (d:D):Bool:=match sx σ d with| some x=>decide (x.1=C/\x.2.lookup name=none)| none=>false
noncomputable def ME.dC (C:aq) (name:aj) (F:FM) (mo:ME) (g:MA):ME:=λρ σ=>(mo ρ σ).bind λp=>if qt C name p.2 p.1=true then (g ρ p.2).bind λq=>F (p.1::q.1) q.2 else none
noncomputable def A7 (k i:Nat) (d:D) (σ:MH):Option D:=(uB k σ d).bind λc=>c.2.lookup i
noncomputable def eY (k i:Nat):D->MH->Option (D×MH):=gD (A7 k i)
noncomputable def AL (k i:Nat) (o d:D) (σ:MH):Option MH:=(uB k σ o).bind λc=>some (σ.put c.1 (.slots k (putN c.2 i d)))
noncomputable def MT.slot (k i:Nat) (U:ME):MT:=λd ρ σ=>(U ρ σ).bind λp=>(AL k i p.1 d p.2).bind λab=>some (ρ,ab)
noncomputable def MS.lH (k i:Nat) (f:D->D->MH->Option (D×MH)) (mo me:ME):MS:=λρ σ=>(mo ρ σ).bind λp=>(A7 k i p.1 p.2).bind λx=>(me ρ p.2).bind λq=>(f x q.1 q.2).bind λz=>(AL k i p.1 z.1 z.2).bind λab=>some (.next,ρ,ab)
noncomputable def Hs (k:Nat) (name:aj) (o d:D) (σ:MH):Option MH:=o.fP.bind λi=>(σ.cell i).bind λc=>match c.zk with
 | some f=>if f=k then some (σ.put i (.inst k [(name,d)])) else none
 | none=>s8 k name o d σ
noncomputable def MT.attrL (k:Nat) (name:aj) (U:ME):MT:=λd ρ σ=>(U ρ σ).bind λp=>(Hs k name p.1 d p.2).bind λab=>some (ρ,ab)
noncomputable def yD (ρ:aC):List String->Option (List (aj×D))
 | []=>some []
 | x::xs=>(ρ x).bind λd=>(yD ρ xs).bind λr=>some ((au x,d)::r)
noncomputable def ME.lam (k:Nat) (xs:List String):ME:=λρ σ=>(yD ρ xs).bind λz=>some (.lam k z,σ)
noncomputable def ME.sH (k a:Nat) (name:aj) (F:FL) (U:ME) (g:MA):ME:=λρ σ=>(U ρ σ).bind λp=>(rR k name p.1 p.2).bind λf=>f.FY.bind λl=>if l.1=a then (g ρ p.2).bind λq=>F l.2 q.1 q.2 else none
noncomputable def qg (d:D) (σ:MH):Option (D×MH):=(mH σ d).bind λp=>some (.ref σ.next,σ.new (.iter p.1 0))
noncomputable def y7 (dd r st:String) (ρ:aC) (σ:MH):Option MH:=(ρ dd).bind λk=>(ρ r).bind λa=>(ρ st).bind λR=>(pa a σ).bind λp=>p.1.dj.bind λF=>(cellK p.2 k).bind λc=>
 if (c.2.lookup F).isSome=true then (pa R (p.2.put c.1 (.dict (c.2.filter λp=>decide (p.1≠F))))).bind λq=>some q.2 else none
noncomputable def MS.qG (x:String) (a:ME) (dd r st:String):MS:=λρ σ=>(a ρ σ).bind λp=>p.1.fP.bind λc=>(p.2.cell c).bind λg=>g.FN.bind λit=>(p.2.cell it.1).bind λD=>D.ij.bind λxs=>match xs[it.2]? with
 | some d=>some (.brk,ρ.set x d,p.2.put c (.iter it.1 (it.2+1)))
 | none=>(y7 dd r st ρ (p.2.del c)).bind λaX=>some (.next,ρ,aX)
namespace ME
noncomputable abbrev idx (a b:ME):ME:=.bh (cm mS) a b
noncomputable abbrev add (a b:ME):ME:=.bh (cm pX) a b
noncomputable abbrev sub (a b:ME):ME:=.bh (cm Be) a b
noncomputable abbrev mod (a b:ME):ME:=.bh (cm Aj) a b
noncomputable abbrev fdiv (a b:ME):ME:=.bh (cm EM) a b
noncomputable abbrev mul (a b:ME):ME:=.bh (cm GV) a b
noncomputable abbrev Ak (a b:ME):ME:=.bh (cm GW) a b
noncomputable abbrev eq (a b:ME):ME:=.bh (cm uQ) a b
noncomputable abbrev ne (a b:ME):ME:=.bh (cm sO) a b
noncomputable abbrev lt (a b:ME):ME:=.bh (cm Gn) a b
noncomputable abbrev gt (a b:ME):ME:=.bh (cm Fb) a b
noncomputable abbrev is (a b:ME):ME:=.bh (cm FH) a b
noncomputable abbrev kg (a b:ME):ME:=.bh (cm G1) a b
noncomputable abbrev jH (a b:ME):ME:=.bh (cm inD) a b
noncomputable abbrev jg (a b:ME):ME:=.bh (cm Au) a b
noncomputable abbrev not (b:ME):ME:=.ax (gD GY) b
noncomputable abbrev neg (b:ME):ME:=.ax (gD An) b
end ME
noncomputable def cj:Nat:=1000
noncomputable def iM:Nat:=0
noncomputable def fuel:Nat:=1000000
section
theorem ob{α β:Type}{x:Option α}{f:α->Option β}{r:β}{P:Prop}(h:x.bind f=some r)(k:∀a,x=some a->f a=some r->P):P:=by
 induction x with
 | none=>exact nomatch h
 | some a=>exact k a rfl h
theorem om{α β:Type}{o:Option α}{f:α->Option β}{g:Option β}{r:β}{P:Prop}(h:Option.casesOn (motive:=λZ=>Option β) o g f=some r)(m:∀a,o=some a->f a=some r->P)(b:o=none->g=some r->P):P:=by
 induction o with
 | none=>exact b rfl h
 | some a=>exact m a rfl h
@[elab_as_elim] theorem sj{α:Type}{a b:α}{motive:α->Prop}(h:some a=some b)(m:motive a):motive b:=aM h▸m
theorem aY{α:Type}{a:α}{P:Prop}(h:none=some a):P:=nomatch h
theorem og{α:Type}{c:Prop} [Decidable c]{x:Option α}{r:α}{P:Prop}(h:(if c then x else none)=some r)(k:c->x=some r->P):P:=by
 by_cases O:c
 .rw [if_pos O] at h;exact k O h
 .rw [if_neg O] at h;exact aY h
theorem oc{α:Type}{c:Bool}{x y:Option α}{r:α}{P:Prop}(h:(bif c then x else y)=some r)(d:c=true->x=some r->P)(a:c=false->y=some r->P):P:=by
 induction c
 .exact a rfl h
 .exact d rfl h
theorem bD{α:Type}{M:lB}{A:aO}{t:bY α}{Q b:α->ai->Prop}{E:af->ai->Prop}{s:ai}(h:ar M A t Q E s)(k:∀a i,Q a i->b a i):ar M A t b E s:=gW h k λZ Z x=>x
theorem D.QG{d i}(h:D.int? d=some i):d=.int i:=by cases d<;>first| exact aY h| exact congrArg _ (aM h)
theorem D.MO{d i}(h:D.bool? d=some i):d=.bool i:=by cases d<;>first| exact aY h| exact congrArg _ (aM h)
theorem D.Ih{d i}(h:D.dj d=some i):d=.str i:=by cases d<;>first| exact aY h| exact congrArg _ (aM h)
theorem D.IF{d i}(h:D.kx d=some i):d=.tup i:=by cases d<;>first| exact aY h| exact congrArg _ (aM h)
theorem D.qj{d i}(h:D.ij d=some i):d=.list i:=by cases d<;>first| exact aY h| exact congrArg _ (aM h)
theorem D.Ee{d i}(h:D.i9 d=some i):d=.dict i:=by cases d<;>first| exact aY h| exact congrArg _ (aM h)
theorem D.UK{d i}(h:D.fP d=some i):d=.ref i:=by cases d<;>first| exact aY h| exact congrArg _ (aM h)
theorem D.V_{d i}(h:D.tC d=some i):d=.typ i:=by cases d<;>first| exact aY h| exact congrArg _ (aM h)
noncomputable def Cell.qd:Cell->Bool| .h_ _=>true| _=>false
theorem f9:aP<=gF:=by decide
structure Wd where
 prog:eA
 w:eC
 base:aN
 K:kC
 mg:aj->Option af
 mb:aj->Option af
 tab:aq
 os:CM
 kind:Nat->bu->Prop
 je:Nat->gc->Prop
 jK:aj
structure Gh where
 g:Nat->Option aq
 d:Nat->Option aq
 fr:aq->Prop
 c0:Nat->Prop
 ou:aq->Prop
def Gh.own(G:Gh)(a:aq):Prop:=∃i,G.c0 i/\(G.g i=some a∨G.d i=some a)
def bJ(W:Wd)(G:Gh)(a:aq):Prop:=¬G.own a/\¬G.fr a/\a≠W.tab
mutual
inductive Rep (W:Wd) (G:Gh) (h:aN):af->D->Prop
 | none:Rep W G h .none .none
 | bool (b):Rep W G h (.bool b) (.bool b)
 | int (i t):Rep W G h (.int i t) (.int i)
 | str (s t):fJ s=true->s.length<=aP->Rep W G h (.str s t) (.str s)
 | list {a o vs n xs}:xs.length<=aP->bJ W G a->h.get? a=some o->o.cls=.type "list" ->o.dict=none->o.data=.seq vs n->aQ W G h vs.toList xs->Rep W G h (.ref a) (.list xs)
 | tup {a o vs xs}:xs.length<=aP->bJ W G a->h.get? a=some o->o.cls=.type "tuple" ->(o.dict=none/\o.slots= #[])->o.data=.seq vs 0->aQ W G h vs.toList xs->Rep W G h (.ref a) (.tup xs)
 | dict {a mC ei}:ei.length<=aP->bJ W G a->a≠iR->h.DictOf (strKind W.prog W.w) a mC->bC W G h mC ei->Rep W G h (.ref a) (.dict ei)
 | ref {i a}:G.g i=some a->Rep W G h (.ref a) (.ref i)
 | typ (n):Rep W G h (.type n) (.typ n)
 | lam {a o fd k yC}:bJ W G a->h.get? a=some o->o.cls=.type "function" ->o.dict=none->o.data=.func fd->W.je k fd->fu W G h fd.closure yC->
  (∃c,fd.code=.ref c/\bJ W G c)->h.CodeRec fd.code fd.qualname->Rep W G h (.ref a) (.lam k yC)
inductive aQ (W:Wd) (G:Gh) (h:aN):List af->List D->Prop
 | nil:aQ W G h [] []
 | cons {v d vs ds}:Rep W G h v d->aQ W G h vs ds->aQ W G h (v::vs) (d::ds)
inductive bC (W:Wd) (G:Gh) (h:aN):List (aj×af)->List (aj×D)->Prop
 | nil:bC W G h [] []
 | cons {v k d es ei}:fJ k=true->k.length<=aP->Rep W G h v d->bC W G h es ei->bC W G h ((k,v)::es) ((k,d)::ei)
inductive fu (W:Wd) (G:Gh) (h:aN):List (aj×aq)->List (aj×D)->Prop
 | nil:fu W G h [] []
 | cons {c o v x d cs ds}:bJ W G c->h.get? c=some o->o.data=.cell (some v)->Rep W G h v d->fu W G h cs ds->fu W G h ((x,c)::cs) ((x,d)::ds)
end
structure Step(W:Wd)(M:aq->Prop)(G:Gh)(h:aN)(G':Gh)(h':aN):Prop where
 g:∀i a,G.g i=some a->G'.g i=some a
 d:∀i a,G.d i=some a->G'.d i=some a
 fr:G'.fr=G.fr
 c0:∀i,G'.c0 i->G.c0 i
 new:∀a,G'.own a->G.own a∨h.objs.size<=a
 keep:∀a o,h.get? a=some o->¬G.own a->¬M a->a≠W.tab->(G.fr a->¬G.ou a)->h'.get? a=some o
 size:h.objs.size<=h'.objs.size
 ou:G'.ou=G.ou
 ig:∀a o,h.get? a=some o->G.fr a->G.ou a->¬M a->∃sl,h'.get? a=some {o with slots:=sl}
section
variable {W:Wd} {G:Gh} {h:aN}
def LG(W:Wd)(G:Gh)(h:aN)(v:af):D->Prop
 | .none=>v=.none
 | .bool b=>v=.bool b
 | .int i=>∃t,v=.int i t
 | .str s=>∃t,v=.str s t/\fJ s=true/\s.length<=aP
 | .list xs=>∃a o P n,v=.ref a/\xs.length<=aP/\bJ W G a/\h.get? a=some o/\o.cls=.type "list" /\o.dict=none/\o.data=.seq P n/\aQ W G h P.toList xs
 | .tup xs=>∃a o P,v=.ref a/\xs.length<=aP/\bJ W G a/\h.get? a=some o/\o.cls=.type "tuple" /\(o.dict=none/\o.slots= #[])/\o.data=.seq P 0/\aQ W G h P.toList xs
 | .dict R=>∃a T,v=.ref a/\R.length<=aP/\bJ W G a/\a≠iR/\h.DictOf (strKind W.prog W.w) a T/\bC W G h T R
 | .ref i=>∃a,v=.ref a/\G.g i=some a
 | .typ n=>v=.type n
 | .lam k S=>∃a o F,v=.ref a/\bJ W G a/\h.get? a=some o/\o.cls=.type "function" /\o.dict=none/\o.data=.func F/\W.je k F/\fu W G h F.closure S/\
  (∃c,F.code=.ref c/\bJ W G c)/\h.CodeRec F.code F.qualname
theorem Rep.inv{v d}(r:Rep W G h v d):LG W G h v d:=by
 cases r with
 | none=>exact rfl
 | bool=>exact rfl
 | int _ t=>exact⟨t,rfl⟩
 | str _ t a b=>exact⟨t,rfl,a,b⟩
 | list z f e c d k r=>exact⟨_,_,_,_,rfl,z,f,e,c,d,k,r⟩
 | tup z f e c d k r=>exact⟨_,_,_,rfl,z,f,e,c,d,k,r⟩
 | dict z f e c r=>exact⟨_,_,rfl,z,f,e,c,r⟩
 | ref e=>exact⟨_,rfl,e⟩
 | typ=>exact rfl
 | lam a b c d e f g i j=>exact⟨_,_,_,rfl,a,b,c,d,e,f,g,i,j⟩
@[elab_as_elim] theorem Rep.gB{v d i}{motive:af->D->Prop}(r:Rep W G h v d)(e:d.int?=some i)(k:∀t,motive (.int i t) (.int i)):motive v d:=by
  obtain rfl:=D.QG e;refine aL r.inv λt B=>?_;obtain rfl:=B;exact k t
@[elab_as_elim] theorem Rep.ot{v d i}{motive:af->D->Prop}(r:Rep W G h v d)(e:d.bool?=some i)(k:motive (.bool i) (.bool i)):motive v d:=by
  obtain rfl:=D.MO e;obtain rfl:=r.inv;exact k
@[elab_as_elim] theorem Rep.c8{v d s}{motive:af->D->Prop}(r:Rep W G h v d)(e:d.dj=some s)(k:∀t,fJ s=true->s.length<=aP->motive (.str s t) (.str s)):motive v d:=by
  obtain rfl:=D.Ih e;refine bI r.inv λt R a b=>?_;obtain rfl:=R;exact k t a b
@[elab_as_elim] theorem Rep.Bl{v d s}{motive:af->D->Prop}(r:Rep W G h v d)(e:d.tC=some s)(k:motive (.type s) (.typ s)):motive v d:=by
  obtain rfl:=D.V_ e;obtain rfl:=r.inv;exact k
@[elab_as_elim] theorem Rep.HC{v d i}{motive:af->D->Prop}(r:Rep W G h v d)(e:d.fP=some i)(k:∀a,G.g i=some a->motive (.ref a) (.ref i)):motive v d:=by
  obtain rfl:=D.UK e;refine aw r.inv λa j g=>?_;obtain rfl:=j;exact k a g
@[elab_as_elim] theorem Rep.listE{v d xs}{motive:af->D->Prop}(r:Rep W G h v d)(e:d.ij=some xs)(k:∀{a o P n},xs.length<=aP->bJ W G a->h.get? a=some o->o.cls=.type "list" ->o.dict=.none->o.data=.seq P n->aQ W G h P.toList xs->motive (.ref a) (.list xs)):motive v d:=by
  obtain rfl:=D.qj e;refine BH r.inv λa o P n C b c d e f g i=>?_;obtain rfl:=C;exact k b c d e f g i
@[elab_as_elim] theorem Rep.jm{v d xs}{motive:af->D->Prop}(r:Rep W G h v d)(e:d.kx=some xs)(k:∀{a o P},xs.length<=aP->bJ W G a->h.get? a=some o->o.cls=.type "tuple" ->(o.dict=.none/\o.slots= #[])->o.data=.seq P 0->aQ W G h P.toList xs->motive (.ref a) (.tup xs)):motive v d:=by
  obtain rfl:=D.IF e;refine qS r.inv λa o P u b c d e f g i=>?_;obtain rfl:=u;exact k b c d e f g i
@[elab_as_elim] theorem Rep.y8{v d xs}{motive:af->D->Prop}(r:Rep W G h v d)(e:d.i9=some xs)(k:∀{a T},xs.length<=aP->bJ W G a->a≠iR->h.DictOf (strKind W.prog W.w) a T->bC W G h T xs->motive (.ref a) (.dict xs)):motive v d:=by
  obtain rfl:=D.Ee e;refine tJ r.inv λa P p b c d e f=>?_;obtain rfl:=p;exact k b c d e f
def LH(W:Wd)(G:Gh)(h:aN)(P:List af):List D->Prop
 | []=>P= []
 | d::j=>∃v f,P=v::f/\Rep W G h v d/\aQ W G h f j
theorem aQ.inv{P j}(r:aQ W G h P j):LH W G h P j:=by cases r with| nil=>exact rfl| cons a b=>exact⟨_,_,rfl,a,b⟩
@[elab_as_elim] theorem aQ.iN{P}{motive:List af->Prop}(r:aQ W G h P [])(k:motive []):motive P:=by obtain rfl:=r.inv;exact k
@[elab_as_elim] theorem aQ.d6{P d j}{motive:List af->Prop}(r:aQ W G h P (d::j))(k:∀{v P},Rep W G h v d->aQ W G h P j->motive (v::P)):motive P:=by
  refine eQ r.inv λv f i a b=>?_;obtain rfl:=i;exact k a b
@[elab_as_elim] theorem aQ.ind{motive:List af->List D->Prop}{P j}(r:aQ W G h P j)(nil:motive [] [])(cons:∀{v d P j},Rep W G h v d->aQ W G h P j->motive P j->motive (v::P) (d::j)):motive P j:=by
  induction j generalizing P with
  | nil=>exact r.iN nil
  | cons d j S=>exact r.d6 λa b=>cons a b (S b)
def LI(W:Wd)(G:Gh)(h:aN)(P:List (aj×af)):List (aj×D)->Prop
 | []=>P= []
 | (k,d)::j=>∃v f,P=(k,v)::f/\fJ k=true/\k.length<=aP/\Rep W G h v d/\bC W G h f j
theorem bC.inv{P j}(r:bC W G h P j):LI W G h P j:=by cases r with| nil=>exact rfl| cons a b c d=>exact⟨_,_,rfl,a,b,c,d⟩
@[elab_as_elim] theorem bC.ind{motive:List (aj×af)->List (aj×D)->Prop}{P j}(r:bC W G h P j)(nil:motive [] [])
   (cons:∀{k v d P j},fJ k=true->k.length<=aP->Rep W G h v d->bC W G h P j->motive P j->motive ((k,v)::P) ((k,d)::j)):motive P j:=by
  induction j generalizing P with
  | nil=>obtain rfl:=r.inv;exact nil
  | cons p j S=>refine tI r.inv λv f N a b c d=>?_;obtain rfl:=N;exact cons a b c d (S d)
def LF(W:Wd)(G:Gh)(h:aN)(P:List (aj×aq)):List (aj×D)->Prop
 | []=>P= []
 | (x,d)::j=>∃c o v f,P=(x,c)::f/\bJ W G c/\h.get? c=some o/\o.data=.cell (some v)/\Rep W G h v d/\fu W G h f j
theorem fu.inv{P j}(r:fu W G h P j):LF W G h P j:=by cases r with| nil=>exact rfl| cons a b c d e=>exact⟨_,_,_,_,rfl,a,b,c,d,e⟩
@[elab_as_elim] theorem fu.ind{motive:List (aj×aq)->List (aj×D)->Prop}{P j}(r:fu W G h P j)(nil:motive [] [])
   (cons:∀{x c o v d P j},bJ W G c->h.get? c=some o->o.data=.cell (some v)->Rep W G h v d->fu W G h P j->motive P j->motive ((x,c)::P) ((x,d)::j)):motive P j:=by
  induction j generalizing P with
  | nil=>obtain rfl:=r.inv;exact nil
  | cons p j S=>refine IW r.inv λc o v f Q a b c d e=>?_;obtain rfl:=Q;exact cons a b c d e (S e)
end
theorem Step.refl{W M G h}:Step W M G h G h:=⟨λZ Z e=>e,λZ Z e=>e,rfl,λZ x=>x,λZ x=>.inl x,λZ Z e Z Z Z Z=>e,bb _,rfl,λZ o e Z Z Z=>⟨o.slots,e⟩⟩
theorem Step.all{W M G h G' h'}(g:∀i a,G.g i=some a->G'.g i=some a)(d:∀i a,G.d i=some a->G'.d i=some a)(c:G'.fr=G.fr)(l:∀i,G'.c0 i->G.c0 i)(b:∀a,G'.own a->G.own a∨h.objs.size<=a)
 (k:∀a o,h.get? a=some o->¬M a->h'.get? a=some o) (j:h.objs.size<=h'.objs.size) (f:G'.ou=G.ou:=by rfl):Step W M G h G' h':=
 ⟨g,d,c,l,b,λa o e Z z Z Z=>k a o e z,j,f,λa o e Z Z z=>⟨o.slots,k a o e z⟩⟩
theorem Step.trans{W M G h G' h' b l}(S:Step W M G h G' h')(T:Step W M G' h' b l):Step W M G h b l where
 g i a e:=T.g i a (S.g i a e)
 d i a e:=T.d i a (S.d i a e)
 fr:=T.fr.trans S.fr
 c0 i x:=S.c0 i (T.c0 i x)
 new a x:=(T.new a x).elim (S.new a) λy=>.inr (aE S.size y)
 keep a o e ho c ht hf:=T.keep a o (S.keep a o e ho c ht hf) (λy=>(S.new a y).elim ho λz=>absurd (b9 e) (Nat.not_lt.mpr z)) c ht (by exact aa (S.fr ..)<|aa (S.ou ..)<|hf)
 size:=aE S.size T.size
 ou:=T.ou.trans S.ou
 ig a o e hf f c:=aL (S.ig a o e hf f c) λZ t=>aL (T.ig a _ t (by exact aa (S.fr ..)<|hf) (by exact aa (S.ou ..)<|f) c) λH q=>⟨H,q⟩
theorem Step.weaken{W M M' G h G' h'}(S:Step W M G h G' h')(k:∀a,M a->M' a):Step W M' G h G' h':=
 ⟨S.g,S.d,S.fr,S.c0,S.new,λa o e L z T=>S.keep a o e L (λx=>z (k a x)) T,S.size,S.ou,λa o e I f z=>S.ig a o e I f λx=>z (k a x)⟩
theorem Step.bq{W M G h G' h'}(S:Step W M G h G' h'){a:aq}{o:bu}(e:h.get? a=some o)(f:bJ W G a):bJ W G' a:=by
 refine⟨λx=>?_,by exact aa (S.fr ..)<|f.2.1,f.2.2⟩
 rcases S.new a x with y| y
 .exact f.1 y
 .exact absurd (b9 e) (Nat.not_lt.mpr y)
theorem Step.get{W M G h G' h'}(S:Step W M G h G' h')(i:∀a,M a->G.fr a){a:aq}{o:bu}(e:h.get? a=some o)(f:bJ W G a):h'.get? a=some o:=
 S.keep a o e f.1 (λx=>f.2.1 (i a x)) f.2.2 λx=>absurd x f.2.1
theorem Step.dat{W M G h G' h'}(S:Step W M G h G' h'){a:aq}{o:bu}(e:h.get? a=some o)(L:¬G.own a)(z:¬M a)(T:a≠W.tab):∃H,h'.get? a=some {o with slots:=H}:=by
 by_cases q:G.fr a/\G.ou a
 .exact S.ig a o e q.1 q.2 z
 .exact⟨o.slots,S.keep a o e L z T λx y=>q ⟨x,y⟩⟩
structure cH(W:Wd)(G:Gh)(h:aN)(G':Gh)(h':aN):Prop where
 g:∀i a,G.g i=some a->G'.g i=some a
 bq:∀a o,h.get? a=some o->bJ W G a->bJ W G' a/\h'.get? a=some o
theorem Step.ea{W M G h G' h'}(S:Step W M G h G' h')(i:∀a,M a->G.fr a):cH W G h G' h':=⟨S.g,λZ Z e f=>⟨S.bq e f,S.get i e f⟩⟩
theorem aQ.map{W:Wd}{G:Gh}{h:aN}{G':Gh}{h':aN}(H:∀v d,Rep W G h v d->Rep W G' h' v d){P ds}(r:aQ W G h P ds):aQ W G' h' P ds:=r.ind .nil λa Z b=>.cons (H _ _ a) b
theorem bC.map{W:Wd}{G:Gh}{h:aN}{G':Gh}{h':aN}(H:∀v d,Rep W G h v d->Rep W G' h' v d){P ds}(r:bC W G h P ds):bC W G' h' P ds:=r.ind .nil λx y a Z b=>.cons x y (H _ _ a) b
theorem uI{W:Wd}{G:Gh}{h:aN}{G':Gh}{h':aN}{a T}(S:∀a o,h.get? a=some o->bJ W G a->bJ W G' a/\h'.get? a=some o)(f:bJ W G a)(e:h.DictOf (strKind W.prog W.w) a T):bJ W G' a/\h'.DictOf (strKind W.prog W.w) a T:=by
 refine pj (id e) λZ Z Z t Z=>?_
 exact⟨(S _ _ t f).1,e.at λZ t=>(S _ _ t f).2⟩
theorem uF{W:Wd}{G:Gh}{h:aN}{G':Gh}{h':aN}{d q}(S:∀a o,h.get? a=some o->bJ W G a->bJ W G' a/\h'.get? a=some o)(x:∃c,d=.ref c/\bJ W G c)(I:h.CodeRec d q):(∃c,d=.ref c/\bJ W G' c)/\h'.CodeRec d q:=by
 refine aw x λc Z f=>?_;obtain rfl:=Z
 refine wQ I λp o P t V Q E=>?_
 obtain rfl:c=p:=jA V
 exact⟨⟨c,rfl,(S _ _ Q f).1⟩,c,o,P,t,rfl,(S _ _ Q f).2,E⟩
theorem Rep.keep{W:Wd}{G:Gh}{h:aN}{G':Gh}{h':aN}(S:cH W G h G' h'){v d}(r:Rep W G h v d):Rep W G' h' v d:=by
 exact Rep.rec (motive_1:=λv d Z=>Rep W G' h' v d) (motive_2:=λP j Z=>aQ W G' h' P j) (motive_3:=λP j Z=>bC W G' h' P j) (motive_4:=λP j Z=>fu W G' h' P j)
  .none .bool .int .str (λz f e c E V Z r=>.list z (S.bq _ _ e f).1 (S.bq _ _ e f).2 c E V r) (λz f e c E V Z r=>.tup z (S.bq _ _ e f).1 (S.bq _ _ e f).2 c E V r)
  (λz f ns e Z r=>.dict z (uI S.bq f e).1 ns (uI S.bq f e).2 r) (λe=>.ref (S.g _ _ e)) .typ
  (λf e c E V l Z x I r=>.lam (S.bq _ _ e f).1 (S.bq _ _ e f).2 c E V l r (uF S.bq x I).1 (uF S.bq x I).2)
  .nil (λZ Z r y=>.cons r y) .nil (λa b Z Z r y=>.cons a b r y) .nil (λf e d Z Z r y=>.cons (S.bq _ _ e f).1 (S.bq _ _ e f).2 d r y) r
section
variable {W:Wd} {G:Gh} {h:aN} {G':Gh} {h':aN} {M:aq->Prop}
theorem aQ.keep(S:cH W G h G' h'){P ds}(r:aQ W G h P ds):aQ W G' h' P ds:=r.map λZ Z x=>x.keep S
theorem bC.keep(S:cH W G h G' h'){P ds}(r:bC W G h P ds):bC W G' h' P ds:=r.map λZ Z x=>x.keep S
theorem fu.keep(S:cH W G h G' h'){P ds}(r:fu W G h P ds):fu W G' h' P ds:=r.ind .nil λf e d a Z b=>.cons (S.bq _ _ e f).1 (S.bq _ _ e f).2 d (a.keep S) b
theorem Rep.step{v d}(r:Rep W G h v d)(S:Step W M G h G' h')(i:∀a,M a->G.fr a):Rep W G' h' v d:=r.keep (S.ea i)
theorem aQ.step{v d}(r:aQ W G h v d)(S:Step W M G h G' h')(i:∀a,M a->G.fr a):aQ W G' h' v d:=r.keep (S.ea i)
theorem aQ.length{vs ds}(r:aQ W G h vs ds):vs.length=ds.length:=r.ind rfl λZ Z e=>congrArg (· +1) e
theorem aQ.append{P j f c}(r:aQ W G h P j)(u:aQ W G h f c):aQ W G h (P++f) (j++c):=r.ind u λa Z b=>.cons a b
theorem aQ.get{P j}(r:aQ W G h P j){i:Nat}{d:D}(e:j[i]?=some d):∃v,P[i]?=some v/\Rep W G h v d:=
 r.ind (motive:=λP j=>∀(i:Nat) (d:D),j[i]?=some d->∃v,P[i]?=some v/\Rep W G h v d) (λZ Z e=>aY e) (λ{v _ _ _} a Z S i x e=>match i,e with
  | 0,e=>⟨v,rfl,aM e▸a⟩
  | i+1,e=>S i _ e) i d e
theorem aQ.take{P j}(r:aQ W G h P j):∀n:Nat,aQ W G h (P.take n) (j.take n):=
 r.ind (λn=>by exact aa (KZ ..)<|aa (KZ ..)<| .nil) λa Z S n=>match n with| 0=>.nil| n+1=>.cons a (S n)
theorem aQ.drop{P j}(r:aQ W G h P j):∀n:Nat,aQ W G h (P.drop n) (j.drop n):=
 r.ind (λn=>by exact aa (Kn ..)<|aa (Kn ..)<| .nil) λa r S n=>match n with| 0=>.cons a r| n+1=>S n
theorem aQ.snoc{P j v d}(r:aQ W G h P j)(a:Rep W G h v d):aQ W G h (P++ [v]) (j++ [d]):=r.append (.cons a .nil)
end
structure uf(W:Wd)(G:Gh)(h:aN)(l:List af):Prop where
 triples:CW l
 code:∀pos cv,rY pos l=some cv->∃c,cv=.ref c/\bJ W G c/\h.CodeRec cv W.jK
def TabAt(W:Wd)(G:Gh)(h:aN):Prop:=∃ps,h.get? W.tab=some (Bh ps)/\uf W G h ps.toList
theorem uf.keep{W G h G' h' l}(x:uf W G h l)(K:∀a o,h.get? a=some o->bJ W G a->bJ W G' a/\h'.get? a=some o):uf W G' h' l:=
 ⟨x.triples,λR d e=>by
   refine bI (x.code R d e) λc m f r=>?_;obtain rfl:=m
   refine wQ r λp o P t V Q E=>?_
   cases V
   have:=K _ _ Q f
   exact⟨_,rfl,this.1,_,o,P,t,rfl,this.2,E⟩⟩
theorem TabAt.keep{W G h G' h'}(x:TabAt W G h)(K:∀a o,h.get? a=some o->bJ W G a->bJ W G' a/\h'.get? a=some o)(d:∀ps,h.get? W.tab=some (Bh ps)->h'.get? W.tab=some (Bh ps)):TabAt W G' h':=
 aw x λps e r=>⟨ps,d _ e,r.keep K⟩
structure Inv(W:Wd)(G:Gh)(s:ai):Prop where
 keep:∀b o,W.base.get? b=some o->s.heap.get? b=some o
 size:W.base.objs.size<=s.heap.objs.size
 gens:s.gens= #[]
 os:s.os=W.os
 cn:∀a,G.own a->W.base.objs.size<=a/\a<s.heap.objs.size/\¬G.fr a/\a≠W.tab
 b0:∀a,G.fr a->W.base.objs.size<=a/\a<s.heap.objs.size/\a≠W.tab
 gR:∀i j a,G.c0 i->G.c0 j->G.g i=some a->G.g j=some a->i=j
 g7:∀i j a,G.c0 i->G.c0 j->G.d i=some a->G.d j=some a->i=j
 gd:∀i j a,G.c0 i->G.c0 j->G.g i=some a->G.d j=some a->False
 tab:TabAt W G s.heap
 eO:W.tab<W.base.objs.size
 hJ:W.base.get? W.tab=none
 b8:∀a,G.ou a->G.fr a
def ix(h:aN)(a:aq)(m:aj->Option af)(n:Nat):Prop:=
 ∃o u y,h.get? a=some o/\o.data=.dict u y/\StrKeys u/\(∀name,vT u name=m name)/\u.size<=n
theorem ix.ns{h a m n}(x:ix h a m n):h.Ns a m:=jU x λo u y e d k f Z=>⟨o,u,y,e,d,k,f⟩
noncomputable def jP (led:Bool):CU:={mask:=7,place:= #[1],dummies:= #[],finger:=0,led:=led,moves:=0,plain:=true}
noncomputable def i3 (k:Bool):Bool->bu
 | false=>{cls:=.type "set",dict:=none,data:=.set #[] 0 (.fresh 0 0 k)}
 | true=>{cls:=.type "set",dict:=none,data:=.set #[(1,.bool true)] 1 (jP k)}
noncomputable def lW (it:aq):bu:={cls:=.type "method-wrapper",data:=.fields #[.builtin "list_iterator.__next__",.ref it]}
noncomputable def Wd.led (W:Wd):Bool:= !W.w.params.followText "set-order"
def cg(W:Wd)(G:Gh)(h:aN)(a:aq)(da:Option aq):Cell->Prop
 | .list xs=>xs.length<=aP/\∃o P n,h.get? a=some o/\o.cls=.type "list" /\(o.dict=none/\o.slots= #[])/\o.data=.seq P n/\aQ W G h P.toList xs
 | .dict R=>R.length<=aP/\a≠iR/\∃T,h.DictOf (strKind W.prog W.w) a T/\bC W G h T R
 | .set xs=>h.SetOf (strKind W.prog W.w) a (λk=>decide (k∈xs)) xs.length
 | .inst k B=>∃o m T,da=some m/\h.get? a=some o/\W.kind k o/\o.dict=some m/\ix h m (λx=>T.lookup x) T.length/\bC W G h T B
 | .slots k B=>∃o m,da=some m/\h.get? a=some o/\W.kind k o/\o.dict=some m/\(∃e,h.get? m=some e)/\o.isFreed=false/\∀(i:Nat) (d:D),B.lookup i=some d->∃v,(o.slots[i]?).join=some v/\Rep W G h v d
 | .iter l j=>∃it b,da=some it/\G.g l=some b/\h.get? a=some (lW it)/\h.IsListIter it b j
 | .i0 b=>h.get? a=some (i3 W.led b)
 | .ia k=>da=none/\∃o,h.get? a=some o/\W.kind k o/\o.dict=none
 | .h_ R=>Rep W G h (.ref a) (.dict R)
structure Cells(W:Wd)(G:Gh)(h:aN)(σ:MH):Prop where
 at_:∀i c,σ.cell i=some c->(c.qd=false->G.c0 i)/\∃a,G.g i=some a/\cg W G h a (G.d i) c
 free:∀i,σ.next<=i->G.g i=none/\G.d i=none/\G.c0 i
end
section
theorem vX{x y:String}(h:au x=au y):x=y:=by
 rw [x8,x8] at h
 injection h with h
 have E:x.toList.map BW=y.toList.map BW:=by simpa using h
 have O:∀a b:Char,a.toNat=b.toNat->a=b:=λa b e=>Char.ext (UInt32.toNat_inj.mp e)
 exact String.toList_inj.mp (List.map_inj_right (λa b e=>O a b e)|>.mp E)
theorem qA(x:String):fJ (au x)=true:=by
 refine aa (x8 ..) ?_
 delta fJ
 refine aa (.symm (I1 ..)) ?_
 show(x.toList.map BW).all _=true
 refine aa (ry ..) ?_
 refine List.all_eq_true.mpr λc Z=>?_
 have O:c.val.toNat<1114112:=by
  have h:=c.valid
  simp only [UInt32.isValidChar,Nat.isValidChar] at h
  lia
 simpa using O
theorem zU(x:String):(au x).length=x.length:=by
 refine aa (x8 ..) ?_;simp [Str.length,← String.length_toList]
abbrev aF:af->ai->Prop:=λZ Z=>False
abbrev bf:aq->Prop:=λZ=>False
structure SI where
 sc:cR
 ro:List aj
 fz:List aj:=[]
 here:Option (af×aj):=none
noncomputable abbrev SI.fn (fd:gc):SI:={sc:=fd.scope,ro:=[],here:=some (fd.code,fd.qualname++ ".<locals>.")}
noncomputable def SI.kind (si:SI) (x:String):Option gY:=si.sc.names.lookup (au x)
structure Wd.Ok(W:Wd):Prop where
 gn:W.K.In W.base
 g:W.base.Ns kW W.mg
 b:W.base.Ns j4 W.mb
 nolimit:W.base.NoLimit
 nodigits:∃mc,W.base.Ns DP mc/\mc "sys.int_max_str_digits" =none
def BZ(G:Gh)(h:aN)(M:aq->Prop)(a:aq)(e:bg):Prop:=e.scope.kind≠ .module/\∃L,e.frame=some L/\G.fr L/\G.ou L/\(L=a∨(¬M L/\∃o,h.get? L=some o/\∀P,o.data≠ .fields P))
def Fo(A:aO)(G:Gh)(h:aN):Prop:=∃fs,A.frames=some fs/\∀e∈fs,e.scope.kind≠ .module/\∃L,e.frame=some L/\G.fr L/\G.ou L/\∃o,h.get? L=some o/\∀P,o.data≠ .fields P
structure aT(W:Wd)(A:aO)(G:Gh)(h:aN)(si:SI)(env:bg)(M:aq->Prop)(ρ:aC):Prop where
 sc:env.scope=si.sc
 fn:si.sc.kind=.function
 gl:env.globals=kW
 bl:env.builtins=j4
 dg:∀a,M a->G.fr a
 jf:M env.locals
 ns:∃m,h.Ns env.locals m/\∀x d,ρ x=some d->si.kind x=some .local->∃v,m (au x)=some v/\Rep W G h v d
 cells:∀n c,env.cells.lookup n=some c->¬G.own c/\c≠W.tab/\∃v,h.IsCell c v
 apart:env.cells.Pairwise λx y=>x.2≠y.2
 cell:∀x d,ρ x=some d->(si.kind x=some .cell∨si.kind x=some .free)->∃c v,env.cells.lookup (au x)=some c/\h.IsCell c (some v)/\Rep W G h v d
 kN:∀x,si.kind x=some .cell->au x∉si.ro->∃c,env.cells.lookup (au x)=some c/\M c
 has:∀x:aj,(si.sc.names.lookup x=some .cell∨si.sc.names.lookup x=some .free)->∃c,env.cells.lookup x=some c
 fz:∀x∈si.fz,∀c,env.cells.lookup x=some c->¬G.fr c
 here:∀p,si.here=some p->env.code=p.1/\env.qual=p.2/\env.frame=some env.locals/\∃fs,A.frames=some (env::fs)
 fo:∃fs,A.frames=some fs/\∀e∈fs,BZ G h M env.locals e
structure St(W:Wd)(G:Gh)(s:ai)(σ:MH):Prop where
 inv:Inv W G s
 cells:Cells W G s.heap σ
def br(n:Nat)(A:aO):Prop:=A.depth+4*n<=900/\A.units+30*n<=9000/\A.guards=some []/\A.handled=none
theorem br.le{n m A}(r:br n A)(h:m<=n):br m A:=⟨by have:=r.1;lia,by have:=r.2.1;lia,r.2.2⟩
theorem br.units{n A}(r:br n A):A.units+100<ox:=by have:=r.2.1;refine aa (show ox=9900 from rfl) ?_;lia
theorem br.depth{n A}(r:br n A):A.depth<UI:=by have:=r.1;refine aa (show UI=1000 from rfl) ?_;lia
theorem aT.move{W:Wd}{A:aO}{G:Gh}{h:aN}{si:SI}{J:bg}{M:aq->Prop}{ρ:aC}{G':Gh}{h':aN}(F:aT W A G h si J M ρ)(z:∀a,M a->G'.fr a)(f:∀a,G.fr a->G.ou a->G'.fr a/\G'.ou a)(K:∀v d,Rep W G h v d->Rep W G' h' v d)
 (q:∀a o,h.get? a=some o->¬G.own a->a≠W.tab->(a=J.locals∨G.ou a∨∃x,J.cells.lookup x=some a)->(∃H,h'.get? a=some {o with slots:=H})/\¬G'.own a/\(¬G.fr a->¬G'.fr a)) (T:∀a,G.fr a->¬G.own a/\a≠W.tab):aT W A G' h' si J M ρ:=
 have E:∀{x c v},J.cells.lookup x=some c->h.IsCell c v->h'.IsCell c v/\¬G'.own c/\(¬G.fr c->¬G'.fr c):=λ{x c v} e p=>aw p λo S d=>
  bP (q c o S (F.cells x c e).1 (F.cells x c e).2.1 (.inr (.inr ⟨x,e⟩))) λB g P=>aL B λH I=>
  ⟨⟨_,I,d⟩,g,P⟩
 {sc:=F.sc,
   fn:=F.fn,
   gl:=F.gl,
   bl:=F.bl,
   dg:=z,
   jf:=F.jf,
   ns:=aw F.ns λm R k=>pj R λo u y e r=>
    have n:=T _ (F.dg _ F.jf)
    aA (q _ o e n.1 n.2 (.inl rfl)) λj Z=>aL j λH I=>
    ⟨m,⟨_,u,y,I,r⟩,λx d U C=>aw (k x d U C) λv a b=>⟨v,a,K _ _ b⟩⟩,
   cells:=λn c z=>bP (F.cells n c z) λa b s=>aL s λv i=>⟨(E z i).2.1,b,v,(E z i).1⟩,
   apart:=F.apart,
   cell:=λx d U C=>eQ (F.cell x d U C) λc v e i r=>⟨c,v,e,(E e i).1,K _ _ r⟩,
   kN:=F.kN,
   has:=F.has,
   fz:=λx U c O=>bP (F.cells x c O) λZ Z t=>aL t λv i=>(E O i).2.2 (F.fz x U c O),
   here:=F.here,
   fo:=aw F.fo λfs e k=>
    ⟨fs,e,λx U=>aA (k x U) λI w=>dG w λL g P V D=>
      ⟨I,L,g,(f L P V).1,(f L P V).2,D.imp id λ⟨N,o,X,Y⟩=>⟨N,aA (q L o X (T L P).1 (T L P).2 (.inr (.inl V))) λQ Z=>aL Q λH l=>⟨_,l,Y⟩⟩⟩⟩}
theorem aT.step{W A G h si J M ρ G' h'}(F:aT W A G h si J M ρ)(S:Step W bf G h G' h')(T:∀a,G.fr a->¬G.own a/\a≠W.tab):aT W A G' h' si J M ρ:=
 F.move (λa x=>by exact aa (S.fr ..)<|F.dg a x) (λa x y=>⟨by exact aa (S.fr ..)<|x,by exact aa (S.ou ..)<|y⟩) (λZ Z r=>r.step S λZ x=>x.elim)
  (λa o e n t Z=>⟨S.dat e n (λx=>x) t,λy=>(S.new a y).elim n λz=>absurd (b9 e) (Nat.not_lt.mpr z),λn=>by exact aa (S.fr ..)<|n⟩) T
theorem aT.EV{W A G h si J M ρ G' h'}(F:aT W A G h si J M ρ)(S:Step W M G h G' h'):∃fs,A.frames=some fs/\∀e∈fs,BZ G' h' M J.locals e:=
 aw F.fo λfs e k=>
 ⟨fs,e,λx U=>aA (k x U) λm a=>dG a λL g P V D=>
   ⟨m,L,g,by exact aa (S.fr ..)<|P,by exact aa (S.ou ..)<|V,D.imp id λ⟨N,o,v,b⟩=>⟨N,aL (S.ig L o v P V N) λZ q=>⟨_,q,b⟩⟩⟩⟩
theorem aT.ku{W A G h si J M ρ}(F:aT W A G h si J M ρ):Fo A G h:=
 aw F.fo λfs e k=>
 ⟨fs,e,λx U=>aA (k x U) λm a=>dG a λL g P V D=>
   ⟨m,L,g,P,V,D.elim (λq=>aw F.ns λZ u Z=>BD u λo Z Z e d Z=>⟨o,q▸e,λb Q=>nomatch d.symm.trans Q⟩) λq=>q.2⟩⟩
theorem Fo.step{W A M G h G' h'}(F:Fo A G h)(S:Step W M G h G' h')(i:∀a,G.fr a->G.ou a->¬M a):Fo A G' h':=
 aw F λfs e k=>
 ⟨fs,e,λx U=>aA (k x U) λm b=>dG b λL g P V d=>aw d λo D c=>
   aL (S.ig L o D P V (i L P V)) λZ q=>
   ⟨m,L,g,by exact aa (S.fr ..)<|P,by exact aa (S.ou ..)<|V,_,q,c⟩⟩
theorem Inv.dJ{W G s}(I:Inv W G s):∀a,G.fr a->¬G.own a/\a≠W.tab:=λa x=>⟨λy=>(I.cn a y).2.2.1 x,(I.b0 a x).2.2⟩
theorem aT.go{W G s si J M ρ G' h'}(F:aT W A G s.heap si J M ρ)(I:Inv W G s)(S:Step W bf G s.heap G' h'):aT W A G' h' si J M ρ:=F.step S I.dJ
theorem Rep.go{W G h G' h' v d}(r:Rep W G h v d)(S:Step W bf G h G' h'):Rep W G' h' v d:=r.step S λZ x=>x.elim
theorem aQ.go{W G h G' h' v d}(r:aQ W G h v d)(S:Step W bf G h G' h'):aQ W G' h' v d:=r.step S λZ x=>x.elim
noncomputable abbrev Wd.M (W:Wd):lB:=bX W.prog W.w
def Out(W:Wd)(G:Gh)(s:ai)(ab:MH)(d:D)(v:af)(i:ai):Prop:=
 ∃G',Step W bf G s.heap G' i.heap/\St W G' i ab/\Rep W G' i.heap v d
def Ev(W:Wd)(n:Nat)(si:SI)(e:ay)(m:ME):Prop:=
 ∀{A J M G s ρ σ r},br n A->St W G s σ->aT W A G s.heap si J M ρ->m ρ σ=some r->ar W.M A (aU e J) (Out W G s r.2 r.1) aF s
def fH(W:Wd)(n:Nat)(t:af->bY af)(f:D->MH->Option (D×MH)):Prop:=
 ∀{A G s σ v d r},br n A->St W G s σ->Rep W G s.heap v d->f d σ=some r->ar W.M A (t v) (Out W G s r.2 r.1) aF s
def bL(W:Wd)(n:Nat)(t:af->af->bY af)(f:D->D->MH->Option (D×MH)):Prop:=
 ∀{A G s σ v u d e r},br n A->St W G s σ->Rep W G s.heap v d->Rep W G s.heap u e->f d e σ=some r->ar W.M A (t v u) (Out W G s r.2 r.1) aF s
theorem Out.elim{W G s ab d v s'}{P:Prop}(h:Out W G s ab d v s')(k:∀G',Step W bf G s.heap G' s'.heap->St W G' s' ab->Rep W G' s'.heap v d->P):P:=bI h λZ S st r=>k _ S st r
theorem Out.trans{W G s j ak ab d v s'}(S:Step W bf G s.heap j ak.heap)(h:Out W j ak ab d v s'):Out W G s ab d v s':=h.elim λG' C st r=>⟨G',S.trans C,st,r⟩
theorem iu{W:Wd}{A G s σ d}{t:bY af}{Q:af->ai->Prop}(h:ar W.M A t (Out W G s σ d) aF s)(k:∀v i G',Step W bf G s.heap G' i.heap->St W G' i σ->Rep W G' i.heap v d->Q v i):ar W.M A t Q aF s:=
 bD h λZ Z o=>o.elim λG' S st r=>k _ _ G' S st r
theorem gG{W:Wd}{A G s j ak ab d}{t:bY af}(S:Step W bf G s.heap j ak.heap)(h:ar W.M A t (Out W j ak ab d) aF ak):ar W.M A t (Out W G s ab d) aF ak:=
 bD h λZ Z x=>x.trans S
theorem Inv.tok{W G s t}(I:Inv W G s):Inv W G {s with toks:=t}:=⟨I.keep,I.size,I.gens,I.os,I.cn,I.b0,I.gR,I.g7,I.gd,I.tab,I.eO,I.hJ,I.b8⟩
theorem St.tok{W G s σ t}(I:St W G s σ):St W G {s with toks:=t} σ:=⟨I.inv.tok,I.cells⟩
theorem Out.now{W G s σ d v}(st:St W G s σ)(r:Rep W G s.heap v d):Out W G s σ d v s:=⟨G,.refl,st,r⟩
theorem Out.tok{W G s σ d v t}(st:St W G s σ)(r:Rep W G s.heap v d):Out W G s σ d v {s with toks:=t}:=⟨G,.refl,st.tok,r⟩
theorem Step.push{W G}{s:ai}(o:bu):Step W bf G s.heap G (s.heap.push o):=
 .all (λZ Z e=>e) (λZ Z e=>e) rfl (λZ x=>x) (λZ x=>.inl x) (λZ Z e Z=>bH _ e) (by exact aa (c9 ..)<|Nat.le_succ _)
theorem Gp{h:aN}{a:aq}(o:bu)(x:a<h.objs.size):a<(h.push o).objs.size:=by exact aa (c9 ..)<|Nat.lt_succ_of_lt x
theorem Inv.push{W G s}(I:Inv W G s)(o:bu):Inv W G {s with heap:=s.heap.push o} where
 keep b x e:=bH _ (I.keep b x e)
 size:=by show _<=(s.heap.push o).objs.size;refine aa (c9 ..) ?_;have:=I.size;lia
 gens:=I.gens
 os:=I.os
 cn a x:=⟨(I.cn a x).1,Gp _ (I.cn a x).2.1,(I.cn a x).2.2⟩
 b0 a x:=⟨(I.b0 a x).1,Gp _ (I.b0 a x).2.1,(I.b0 a x).2.2⟩
 gR:=I.gR
 g7:=I.g7
 gd:=I.gd
 tab:=I.tab.keep (λa C e f=>⟨f,bH _ e⟩) λZ e=>bH _ e
 eO:=I.eO
 hJ:=I.hJ
 b8:=I.b8
theorem cg.oZ{W G h a Z c G' h'}(x:cg W G h a Z c)(S:cH W G h G' h')
 (f:c.qd=false->∀o,h.get? a=some o->h'.get? a=some o) (q:c.qd=false->∀b o,Z=some b->h.get? b=some o->h'.get? b=some o):cg W G' h' a Z c:=by
 induction c with
 | h_ R=>exact Rep.keep S x
 | list xs=>exact fE (dX λo=>dX λP=>dX λn=>nJ (f rfl o) (fE (fE (fE (aQ.keep S))))) x
 | dict R=>exact fE (fE (dX λT=>nJ (λe=>e.at (f rfl)) (bC.keep S))) x
 | set xs=>exact dX (λo=>dX λu=>dX λn=>dX λt=>eH (f rfl o)) x
 | inst k B=>exact dX (λo=>dX λm=>dX λT ⟨V,Q,p,w,⟨r,u,y,E,U⟩,r4⟩=>⟨V,f rfl _ Q,p,w,⟨r,u,y,q rfl _ _ V E,U⟩,r4.keep S⟩) x
 | slots k B=>exact dX (λo=>dX λm ⟨V,Q,p,w,E,U,r4⟩=>⟨V,f rfl _ Q,p,w,E.imp λr=>q rfl _ _ V,U,λi d A=>(r4 i d A).imp λv=>fE (Rep.keep S)⟩) x
 | i0 b=>exact f rfl _ x
 | ia k=>exact fE (dX λo=>eH (f rfl o)) x
 | iter l j=>exact dX (λit=>dX λb ⟨s,e,Q,o,N,z⟩=>⟨s,S.g _ _ e,f rfl _ Q,o,q rfl _ _ s N,z⟩) x
theorem cg.keep{W G h a da c G' h'}(x:cg W G h a da c)(S:cH W G h G' h')
 (f:∀o,h.get? a=some o->h'.get? a=some o) (q:∀b o,da=some b->h.get? b=some o->h'.get? b=some o):cg W G' h' a da c:=x.oZ S (λZ=>f) λZ=>q
theorem cg.step{W G h a t c M G' h'}(x:cg W G h a t c)(S:Step W M G h G' h')(i:∀a,M a->G.fr a)
 (f:∀o,h.get? a=some o->h'.get? a=some o) (q:∀b o,t=some b->h.get? b=some o->h'.get? b=some o):cg W G' h' a t c:=x.keep (S.ea i) f q
theorem Cells.push{W G}{s:ai}{σ}(C:Cells W G s.heap σ)(o:bu):Cells W G (s.heap.push o) σ:=
 ⟨λi c e=>aA (C.at_ i c e) λl b=>aw b λa x y=>⟨l,a,x,y.step (Step.push (s:=s) o) (λZ x=>x.elim) (λZ e=>bH _ e) (λZ Z Z e=>bH _ e)⟩,C.free⟩
theorem St.push{W G s σ}(st:St W G s σ)(o:bu):St W G {s with heap:=s.heap.push o} σ:=⟨st.inv.push o,st.cells.push o⟩
theorem St.bq{W G s σ}(st:St W G s σ):bJ W G s.heap.objs.size:=by
 refine⟨λx=>?_,λx=>?_,λe=>?_⟩
 .exact fV _ (st.inv.cn _ x).2.1
 .exact fV _ (st.inv.b0 _ x).2.1
 .exact fV _ (a9 (e▸st.inv.eO) st.inv.size)
theorem SP{W:Wd}{A G s σ P j}(st:St W G s σ)(r:aQ W G s.heap P j)(J:j.length<=aP):ar W.M A (Ap P) (Out W G s σ (.list j)) aF s:=by
 refine iS (?_:Out W G s σ _ _ _) (by show P.toArray.size<=gF;exact aa (rH ..)<|aa (r.length ..)<|Nat.le_trans J f9)
 exact⟨G,.push _,st.push _,.list (n:=0) J st.bq (c5 _ rfl) rfl rfl rfl (by simpa using r.go (Step.push (s:=s) _))⟩
theorem SQ{W:Wd}{A G s σ P j}(st:St W G s σ)(r:aQ W G s.heap P j)(J:j.length<=aP):ar W.M A (m6 P) (Out W G s σ (.tup j)) aF s:=by
 refine iS (?_:Out W G s σ _ _ _) (by show P.toArray.size<=gF;exact aa (rH ..)<|aa (r.length ..)<|Nat.le_trans J f9)
 exact⟨G,.push _,st.push _,.tup J st.bq (c5 _ rfl) rfl ⟨rfl,rfl⟩ rfl (by simpa using r.go (Step.push (s:=s) _))⟩
namespace ME
noncomputable def zq (d:D):ME:=λZ σ=>some (d,σ)
end ME
section
variable {W:Wd} {n:Nat} {si:SI}
theorem Ev.int{i k R}:Ev W n si (.Constant (.int i) k R) (.int i):=λZ st Z e=>sj e (wpAny_Constant_int (.tok st (.int _ _)))
theorem Ev.str{x k R}(hl:x.length<=1000):Ev W n si (.Constant (.str (au x)) k R) (.str x):=λZ st Z e=>
 sj e (Constant_str (.tok st (.str _ _ (qA _) (by exact aa (zU ..)<|Nat.le_trans hl (by decide)))))
theorem Ev.bool{b k R}:Ev W n si (.Constant (.bool b) k R) (.bool b):=λZ st Z e=>sj e (aD (.now st (.bool _)))
theorem Ev.S_{k R}:Ev W n si (.Constant .none k R) .none_:=λZ st Z e=>sj e (aD (.now st .none))
theorem F2{A J M G s ρ σ d}{x:String}(st:St W G s σ)(F:aT W A G s.heap si J M ρ)(U:ρ x=some d)
 (C:(si.kind x==some .local|| si.kind x==some .cell|| si.kind x==some .free)=true) (P:(au x==("__classdict__" :aj))=false):
 ar W.M A (loadName J (au x)) (Out W G s σ d) aF s:=by
 have a:J.kindOf (au x)=si.kind x:=by delta tW SI.kind;exact aa (F.sc ..) rfl
 have h:J.scope.kind=.function:=by exact aa (F.sc ..)<|F.fn
 simp only [nK,beq_iff_eq] at C
 rcases C with (C| C)| C
 .refine aw F.ns λm b k=>?_
  refine aw (k x d U C) λv N r=>?_
  exact wpAny_loadName_local h (a.trans C) b N (.now st r)
 .refine eQ (F.cell x d U (.inl C)) λc v e i r=>?_
  exact wpAny_loadName_cell h (a.trans C) e i (.now st r)
 .refine eQ (F.cell x d U (.inr C)) λc v e i r=>?_
  exact wpAny_loadName_free h (a.trans C) e i (.now st r) P
theorem Rh{A J M G s ρ σ}{x:String}{v:af}{Q:af->ai->Prop}(l:W.Ok)(st:St W G s σ)(F:aT W A G s.heap si J M ρ)
 (N:W.mg (au x)=some v∨(W.mg (au x)=Option.none/\W.mb (au x)=some v)) (h:Q v s):ar W.M A (loadGlobal J (au x)) Q aF s:=by
 have g:s.heap.Ns J.globals W.mg:=by exact aa (F.gl ..)<|l.g.keeps st.inv.keep
 have b:s.heap.Ns J.builtins W.mb:=by exact aa (F.bl ..)<|l.b.keeps st.inv.keep
 rcases N with N| ⟨h1,h2⟩
 .exact loadGlobal_global g N h
 .exact loadGlobal_builtin g h1 b h2 h
theorem g8{A J M G s ρ σ}{x:String}{R:bc}{v:af}{Q:af->ai->Prop}(l:W.Ok)(st:St W G s σ)(F:aT W A G s.heap si J M ρ)(C:si.kind x=some .globalImplicit)
 (hb:(au x==("__debug__" :aj))=false)
 (N:W.mg (au x)=some v∨(W.mg (au x)=Option.none/\W.mb (au x)=some v)) (h:Q v s):ar W.M A (aU (.Name (au x) R) J) Q aF s:=
 Name_function_global (by exact aa (F.sc ..)<|F.fn) (by delta tW;exact aa (F.sc ..)<|C) (Rh l st F N h) hb
end
end
section
section
variable {W:Wd} {n:Nat} {si:SI}
theorem bR{A J M G s ρ σ r}{e:ay}{m:ME}{t:af->ai->Prop}(D:Ev W n si e m)(H:br n A)(st:St W G s σ)(F:aT W A G s.heap si J M ρ)(N:m ρ σ=some r)
 (K:∀{j ak v},Step W bf G s.heap j ak.heap->St W j ak r.2->aT W A j ak.heap si J M ρ->Rep W j ak.heap v r.1->t v ak):
 ar W.M A (aU e J) t aF s:=
 iu (D H st F N) λZ Z Z S g u=>K S g (F.go st.inv S) u
theorem r8{A J M G s ρ σ p q}{e f:ay}{m d:ME}{t:af->af->ai->Prop}(D:Ev W n si e m)(I:Ev W n si f d)(r:br n A)(st:St W G s σ)(F:aT W A G s.heap si J M ρ)
 (g:m ρ σ=some p) (h:d ρ p.2=some q)
 (K:∀{j ak v u},Step W bf G s.heap j ak.heap->St W j ak q.2->aT W A j ak.heap si J M ρ->Rep W j ak.heap v p.1->Rep W j ak.heap u q.1->t v u ak):
 ar W.M A (aU e J) (λv ak=>ar W.M A (aU f J) (t v) aF ak) aF s:=
 bR D r st F g λP w E a=>bR I r w E h λc N i b=>K (P.trans c) N i (a.go c) b
theorem Ev.binop{l op r R a s f}(I:bL W n (kL op) f)(hl:Ev W n si l a)(m:Ev W n si r s):Ev W n si (.BinOp l op r R) (.bh f a s):=λH st F e=>
 ob e λZ N e=>ob e λZ E e=>wpAny_BinOp (r8 hl m H st F N E λS g Z i Q=>gG S (I H g i Q e))
theorem Ev.yX{l op r R a s f}(I:bL W n (iJ op) f)(hl:Ev W n si l a)(m:Ev W n si r s)(z:yn op r=false):Ev W n si (.Compare l [op] [r] R) (.bh f a s):=λH st F e=>
 ob e λZ N e=>ob e λZ E e=>wpAny_Compare1 (r8 hl m H st F N E λS g Z i Q=>gG S (I H g i Q e)) z
theorem bL.pure{t:af->af->bY af}{f:D->D->MH->Option D}(h:∀{A G s σ v u d e r},br n A->St W G s σ->Rep W G s.heap v d->Rep W G s.heap u e->f d e σ=some r->ar W.M A (t v u) (Out W G s σ r) aF s):
 bL W n t (cm f):=λH st i Q e=>ob e λZ N e=>sj e (h H st i Q N)
theorem fH.pure{t:af->bY af}{f:D->MH->Option D}(h:∀{A G s σ v d r},br n A->St W G s σ->Rep W G s.heap v d->f d σ=some r->ar W.M A (t v) (Out W G s σ r) aF s):
 fH W n t (gD f):=λH st i e=>ob e λZ N e=>sj e (h H st i N)
theorem Out.int{G s σ i}(st:St W G s σ):Out W G s σ (.int i) (.int i s.toks) {s with toks:=s.toks+1}:=.tok st (.int _ _)
theorem Cell.qj{c xs}(h:Cell.ij c=some xs):c=.list xs:=by induction c<;>first| exact aY h| exact congrArg _ (aM h)
theorem St.yE{G s σ v d i c}{motive:af->D->Prop}(st:St W G s σ)(r:Rep W G s.heap v d)(h:d.fP=some i)(O:σ.cell i=some c)(k:∀a,G.g i=some a->(c.qd=false->G.c0 i)->cg W G s.heap a (G.d i) c->motive (.ref a) (.ref i)):motive v d:=by
 refine r.HC h λa u=>?_
 refine aA (st.cells.at_ _ _ O) λl Q=>?_;refine aw Q λb hb x=>?_
 rw [u] at hb
 exact k a u l (aM hb▸x)
@[elab_as_elim] theorem oh{G s σ v d xs}{motive:af->Prop}(st:St W G s σ)(r:Rep W G s.heap v d)(h:bU σ d=some xs)
   (k:∀{a o vs n},s.heap.get? a=some o->o.cls=.type "list" ->o.dict=none->o.data=.seq vs n->aQ W G s.heap vs.toList xs->xs.length<=aP->motive (.ref a)):motive v:=by
  unfold bU at h
  split at h
  .rename_i hl
   obtain rfl:=aM h
   exact r.listE (motive:=λv _=>motive v) hl λz _ e c dd V y=>k e c dd V y z
  .exact ob h λi w h=>ob h λc O h=>st.yE (motive:=λv _=>motive v) r w O λa _ _ x=>by
    obtain rfl:=Cell.qj h
    refine aA x λz t=>?_;refine jU t λo vs n e c dd V y=>?_
    exact k e c dd.1 V y z
@[elab_as_elim] theorem fL{G s σ v d xs}{motive:af->Prop}(st:St W G s σ)(r:Rep W G s.heap v d)(h:bU σ d=some xs)(k:∀{a P},s.heap.IsList a P->aQ W G s.heap P.toList xs->xs.length<=aP->motive (.ref a)):motive v:=
  oh st r h λe c Z V y z=>k ⟨_,e,c,_,V⟩ y z
theorem eX{G h}{P:Array af}{xs:List D}(r:aQ W G h P.toList xs):P.size=xs.length:=Array.length_toList.symm.trans r.length
theorem size_le{G h}{P:Array af}{xs:List D}(r:aQ W G h P.toList xs)(z:xs.length<=aP):P.size<=gF:=by exact aa (eX r ..)<|Nat.le_trans z f9
theorem Ij{x y:aj}(h:fJ x=true)(k:fJ y=true):fJ (x++y)=true:=by
 unfold fJ at*
 show((x.cps++y.cps).all _)=true
 exact aa (Array.all_append ..)<|aa (h ..)<|aa (k ..) rfl
theorem L7{A G s σ a b f y xs I}(st:St W G s σ)(l:s.heap.IsList a f)(R:s.heap.IsList b y)(i:aQ W G s.heap f.toList xs)(Q:aQ W G s.heap y.toList I)(J:xs.length+I.length<=aP):
 ar W.M A (kL .Add (.ref a) (.ref b)) (Out W G s σ (.list (xs++I))) aF s:=by
 obtain⟨⟨c,dd,e,H⟩,L,rfl,n,rfl⟩:=id l
 obtain⟨⟨d,o,data2,V⟩,m,rfl,U,rfl⟩:=id R
 refine N8 ⟨_,L,rfl⟩ ⟨_,m,rfl⟩ S7 U1 LA Ly (Lv _ _) (list_addW a b f y n U dd o H V (by exact aa (eX i ..)<|aa (eX Q ..)<|Nat.le_trans J f9)) ⟨L,m,?_⟩
 exact⟨G,.push _,st.push _,.list (n:=0) (by exact aa (bF ..)<|J) st.bq (c5 _ rfl) rfl rfl rfl (by exact aa (wV ..)<|(i.append Q).go (Step.push (s:=s) _))⟩
theorem Op.add:bL W n (kL .Add) (cm pX):=bL.pure λH st i Q e=>by
 unfold pX at e
 split at e
 .rename_i N
  exact ob e λy E e=>sj e (i.gB N λ_=>Q.gB E λ_=>add_int (.int st))
 .split at e
  .rename_i N
   exact ob e λy E e=>og e λJ e=>sj e (i.c8 N λ_ m _=>Q.c8 E λ_ g _=>
    XQ (λc f=>.tok st (.str _ _ (Ij m g) (by exact aa (LO ..)<|J))) (aE J f9))
  .exact ob e λxs U e=>ob e λI t e=>og e λJ e=>sj e (fL st i U λl p _=>fL st Q t λR w _=>L7 st l R p w J)
theorem bL.ints{t:af->af->bY af}{f:Int->Int->Option D}(h:∀{A G s σ x y r b z},St W G s σ->f x y=some r->ar W.M A (t (.int x b) (.int y z)) (Out W G s σ r) aF s):bL W n t (cm (intD f)):=
 bL.pure λH st i Q e=>ob e λx N e=>ob e λy E e=>i.gB N λZ=>Q.gB E λZ=>h st e
theorem Op.sub:bL W n (kL .Sub) (cm Be):=bL.ints λst e=>sj e (sub_int (.int st))
theorem Op.mod:bL W n (kL .Mod) (cm Aj):=bL.ints λst e=>og e λt e=>sj e (mod_int' (rj t) (by
 exact aa (Int.fmod_eq_emod_of_nonneg _ (J9 t) ..)<| .int st))
theorem SG{x y:Int}(h:x.natAbs<1000000):IntMulOk x y:=by
 refine XN ?_
 unfold Xl
 by_cases U:x=0
 .refine aa (if_pos (by simpa using U)) ?_;omega
 .refine aa (if_neg (by simpa using U)) ?_
  have:x.natAbs.log2<20:=(Nat.log2_lt (by omega)).mpr (by omega)
  omega
theorem Op.mul:bL W n (kL .Mult) (cm GV):=bL.ints λst e=>og e λt e=>sj e (mul_int (.int st) (SG t.1))
theorem Op.fdiv:bL W n (kL .FloorDiv) (cm EM):=bL.ints λst e=>og e λt e=>sj e (floordiv_int (rj t.1) (by
 exact aa (Int.fdiv_eq_ediv_of_nonneg _ (J9 t.1) ..)<| .int st) (.inl (Lu (by omega))))
end
end
section
section
variable {W:Wd} {n:Nat} {si:SI}
structure CQ(h:aN)(v:af)(p:fX)(k:Nat):Prop where
 rd:∃as,Reads h v p as
 lay:p.canLay0=true
 dep:p.depth<=k
structure x3(h:aN)(vs:List af)(ps:List fX)(k:Nat):Prop where
 rd:∃as,ReadsAll h vs ps as
 lay:Lm ps=true
 dep:PyData.depthAll ps<=k
theorem Hv{G h k}{f:D->Option fX}(H:∀{v d p},Rep W G h v d->f d=some p->CQ h v p k){P j ps}(r:aQ W G h P j):hB f j=some ps->x3 h P ps k:=
 r.ind (motive:=λP j=>∀ps,hB f j=some ps->x3 h P ps k) (λZ e=>sj e ⟨⟨[],.nil⟩,rfl,fW _⟩)
  (λr Z S Z e=>ob e λp T e=>ob e λps B e=>sj e (
    have a:=H r T;have b:=S _ B
    ⟨aL a.rd λZ w=>aL b.rd λZ q=>⟨_,.cons w q⟩,by unfold Lm;exact aa (a.lay ..)<|aa (b.lay ..) rfl,Nat.max_le.mpr ⟨a.dep,b.dep⟩⟩)) ps
theorem pb{G s σ}(st:St W G s σ)(k:Nat):∀{v d p},Rep W G s.heap v d->cX σ k d=some p->CQ s.heap v p k:=by
 induction k with
 | zero=>exact λr e=>aY e
 | succ k S=>
  intro v d p r e
  have H:∀{P j ps},aQ W G s.heap P j->hB (cX σ k) j=some ps->x3 s.heap P ps k:=λr e=>Hv S r e
  have e:(match bU σ d with| some xs=>(hB (cX σ k) xs).bind λps=>some (Lp ps)| none=>_)=some p:=e
  induction U:bU σ d with
  | some xs=>
   rw [U] at e
   exact ob e λps T e=>sj e (oh st r U λe c Z V y Z=>(
    have a:=H y T
    ⟨aL a.rd λZ w=>⟨_,.list e c V w⟩,a.lay,jZ a.dep⟩))
  | none=>
   rw [U] at e
   cases r with
   | none=>exact sj e ⟨⟨_,.none⟩,rfl,fW _⟩
   | bool b=>exact sj e ⟨⟨_,.bool _⟩,rfl,fW _⟩
   | int i t=>exact sj e ⟨⟨_,.int _ _⟩,rfl,fW _⟩
   | str x t a b=>exact sj e ⟨⟨_,.str _ _⟩,a,fW _⟩
   | tup z f g c dd V y=>
    exact ob e λps T e=>sj e (
     have a:=H y T
     ⟨aL a.rd λZ w=>⟨_,.tuple g c V w⟩,a.lay,jZ a.dep⟩)
   | _=>exact aY e
theorem Op.eq:bL W n (iJ .Eq) (cm uQ):=bL.pure λH st i Q e=>ob e λb hb e=>sj e (ob hb λp T hb=>ob hb λq y hb=>sj hb (
 have a:=pb st 6 i T;have c:=pb st 6 Q y
 aL a.rd λZ w=>aL c.rd λZ f=>
 XS w f a.lay c.lay (by have:=H.units;have:=a.dep;have:=c.dep;lia) (.now st (.bool _))))
theorem Op.ne:bL W n (iJ .NotEq) (cm sO):=bL.pure λH st i Q e=>ob e λb hb e=>sj e (ob hb λp T hb=>ob hb λq y hb=>sj hb (
 have a:=pb st 6 i T;have c:=pb st 6 Q y
 aL a.rd λZ w=>aL c.rd λZ f=>
 XT w f a.lay c.lay (by have:=H.units;have:=a.dep;have:=c.dep;lia) (.now st (.bool _))))
theorem Op.lt:bL W n (iJ .Lt) (cm Gn):=bL.ints λst e=>sj e (lt_int (.now st (.bool _)))
theorem Op.gt:bL W n (iJ .Gt) (cm Fb):=bL.ints λst e=>sj e (gt_int (.now st (.bool _)))
theorem AX{G h v d}(r:Rep W G h v d):(v==Value.none)=jb d:=by cases r<;>rfl
theorem AY{G h v d}(r:Rep W G h v d)(h:jb d=true):v=.none:=eq_of_beq ((AX r).trans h)
theorem Op.is:bL W n (iJ .Is) (cm FH):=bL.pure λH st i Q e=>og e λhb e=>sj e (by
 exact aa (AY Q hb ..)<|is_none_gen (by exact aa (AX i ..)<| .now st (.bool _)))
theorem Op.kg:bL W n (iJ .IsNot) (cm G1):=bL.pure λH st i Q e=>og e λhb e=>sj e (by
 exact aa (AY Q hb ..)<|isnot_none_gen (by exact aa (AX i ..)<| .now st (.bool _)))
@[elab_as_elim] theorem um{G s σ v d R}{motive:af->Prop}(st:St W G s σ)(r:Rep W G s.heap v d)(h:j1 σ d=some R)
   (k:∀{a T},a≠iR->s.heap.DictOf (strKind W.prog W.w) a T->bC W G s.heap T R->R.length<=aP->motive (.ref a)):motive v:=by
  unfold j1 at h
  split at h
  .rename_i hl
   obtain rfl:=aM h
   exact r.y8 (motive:=λv _=>motive v) hl λz _ ns e y=>k ns e y z
  .exact ob h λi g h=>ob h λc O h=>st.yE (motive:=λv _=>motive v) r g O λa _ _ x=>by
    induction c with
    | dict b=>obtain rfl:=aM h;refine bP x λz ns f=>?_;refine aw f λT e y=>?_;exact k ns e y z
    | h_ b=>obtain rfl:=aM h;exact Rep.y8 (motive:=λv _=>motive v) x rfl λz _ ns e y=>k ns e y z
    | _=>exact aY h
inductive kB (W:Wd) (G:Gh) (h:aN):Option af->Option D->Prop
 | none:kB W G h none none
 | some {v d}:Rep W G h v d->kB W G h (some v) (some d)
theorem kB.isSome{G h a b}(x:kB W G h a b):a.isSome=b.isSome:=by induction x<;>rfl
theorem kB.someE{G h a b d}{P:Prop}(x:kB W G h a b)(e:b=.some d)(k:∀v,a=.some v->Rep W G h v d->P):P:=by
 induction x with
 | none=>exact aY e
 | some r=>exact k _ rfl (aM e▸r)
theorem bC.valueAt{G h T R}(r:bC W G h T R)(k:aj):kB W G h (mz T k) (R.lookup k):=
 r.ind (motive:=λT R=>kB W G h (mz T k) (R.lookup k)) .none λ{f v d P j} Z Z r Z S=>by
  by_cases C:f=k
  .subst C
   refine aa (Cp ..) ?_
   have:mz ((f,v)::P) f=Option.some v:=by simp [mz]
   exact aa (this ..)<| .some r
  .have hb:(k==f)=false:=beq_eq_false_iff_ne.mpr (Ne.symm C)
   refine aa (dI ..)<|aa (hb ..) ?_
   have:mz ((f,v)::P) k=mz P k:=by simp [mz,C]
   exact aa (this ..)<|S
theorem bC.length{G h T R}(r:bC W G h T R):T.length=R.length:=r.ind rfl λZ Z Z Z e=>congrArg (· +1) e
theorem jI(k:aj)(t:de):(strKind W.prog W.w).is k (.str k t)=true:=beq_self_eq_true k
theorem o6{a:aq}(h:a≠iR):(a==iR)=false:=beq_eq_false_iff_ne.mpr h
theorem zM{G h T R}(r:bC W G h T R)(k:aj):(mz T k).isSome=(R.lookup k).isSome:=(r.valueAt k).isSome
def J5(W:Wd)(A:aO)(G:Gh)(s:ai)(σ:MH)(v u:af)(b:Bool):Prop:=
 ar W.M A (iJ .In v u) (Out W G s σ (.bool b)) aF s/\ar W.M A (iJ .NotIn v u) (Out W G s σ (.bool (!b))) aF s
theorem FE{A G s σ x c v u b}(H:br n A)(st:St W G s σ)(d:Rep W G s.heap v x)(j:Rep W G s.heap u c)(h:mT σ x c=some b):J5 W A G s σ v u b:=by
 unfold mT at h
 split at h
 .rename_i O
  exact ob h λu f h=>sj h (d.c8 f λ_ _ _=>j.c8 O λ_ _ _=>⟨in_str (.now st (.bool _)),notIn_str (.now st (.bool _))⟩)
 .split at h
  .rename_i xs l
   refine ob h λp T h=>ob h λps B h=>sj h ?_
   have a:=pb st 6 d T
   refine oh st j l λV Q _ S y _=>?_
   have b:=Hv (pb st 6) y B
   have f:=H.units;have:=a.dep;have:=b.dep
   refine aL a.rd λ_ w=>?_
   refine aL b.rd λ_ q=>?_
   exact⟨XU (.list V Q S q) w b.lay a.lay (by lia) (.now st (.bool _)),XW (.list V Q S q) w b.lay a.lay (by lia) (.now st (.bool _))⟩
  .exact ob h λR P h=>ob h λk C h=>sj h (um st j P λns hD L _=>d.c8 C λ_ _ _=>
    ⟨wpAny_in_of (jI _ _) (o6 ns) hD.mapOf (by exact aa (zM L ..)<| .tok st (.bool _)),
      wpAny_notIn_of (jI _ _) (o6 ns) hD.mapOf (by exact aa (zM L ..)<| .tok st (.bool _))⟩)
theorem Op.jH:bL W n (iJ .In) (cm inD):=bL.pure λH st i Q e=>ob e λb hb e=>sj e (FE H st i Q hb).1
theorem Op.jg:bL W n (iJ .NotIn) (cm Au):=bL.pure λH st i Q e=>ob e λb hb e=>sj e (FE H st i Q hb).2
end
end
section
namespace MB
end MB
section
variable {W:Wd} {n:Nat} {si:SI}
def iY(W:Wd)(G:Gh)(s:ai)(ab:MH)(b:Bool)(c:Bool)(i:ai):Prop:=
 c=b/\∃G',Step W bf G s.heap G' i.heap/\St W G' i ab
theorem iY.trans{G s j ak ab b c s'}(S:Step W bf G s.heap j ak.heap)(h:iY W j ak ab b c s'):iY W G s ab b c s':=h.imp_right (dX λZ=>eH S.trans)
theorem Bz{A G s j ak ab b}{t:bY Bool}(S:Step W bf G s.heap j ak.heap)(h:ar W.M A t (iY W j ak ab b) aF ak):ar W.M A t (iY W G s ab b) aF ak:=bD h λZ Z x=>x.trans S
theorem iY.now{G s σ b}(st:St W G s σ):iY W G s σ b b s:=⟨rfl,G,.refl,st⟩
theorem iY.tok{G s σ b t}(st:St W G s σ):iY W G s σ b b {s with toks:=t}:=⟨rfl,G,.refl,st.tok⟩
theorem qQ{A G s σ b}{t:bY Bool}{Q:Bool->ai->Prop}(h:ar W.M A t (iY W G s σ b) aF s)(k:∀i G',Step W bf G s.heap G' i.heap->St W G' i σ->Q b i):ar W.M A t Q aF s:=
 bD h λc i B=>aA B λe j=>aw j λG' S st=>by subst e;exact k i G' S st
theorem u6{G h}{P:Array af}{xs:List D}(r:aQ W G h P.toList xs):P.isEmpty=xs.isEmpty:=by
 exact aa (.symm (Array.isEmpty_toList ..))<|r.ind rfl λZ Z Z=>rfl
theorem nv{n:Nat}(h:n<=aP):(n:Int)<2 ^ 63:=by have:aP=1000000:=rfl;lia
theorem qF{A G s σ v d b}(st:St W G s σ)(r:Rep W G s.heap v d)(h:k9 σ d=some b):ar W.M A (truthy v) (iY W G s σ b) aF s:=by
 unfold k9 at h
 split at h
 .rename_i xs U
  exact sj h (fL st r U λhl y z=>WW hl (by exact aa (eX y ..)<|nv z) (by exact aa (u6 y ..)<| .tok st))
 .cases r with
  | none=>exact sj h (truthy_none (.now st))
  | bool=>exact sj h (IU (.now st))
  | int=>exact sj h (XR (.now st))
  | str x t N E=>
   refine sj h (P.truthy_str (Int.not_le.mpr (nv E)) ?_)
   have e:((x.length:Int) !=0)= !(x.length==0):=congrArg (!·) (Bool.eq_iff_iff.mpr (by simp))
   exact aa (e ..)<| .tok st
  | tup z f e c dd V y=>exact sj h (truthy_tuple ⟨_,e,c,_,V⟩ (by exact aa (eX y ..)<|nv z) (by exact aa (u6 y ..)<| .tok st))
  | _=>exact aY h
def Eb(W:Wd)(n:Nat)(si:SI)(e:ay)(m:MB):Prop:=
 ∀{A J M G s ρ σ r},br n A->St W G s σ->aT W A G s.heap si J M ρ->m ρ σ=some r->ar W.M A (qf e J (aU e J)) (iY W G s r.2 r.1) aF s
theorem jD{A J M G s ρ σ r}{e:ay}{m:MB}{t:Bool->ai->Prop}(D:Eb W n si e m)(H:br n A)(st:St W G s σ)(F:aT W A G s.heap si J M ρ)(N:m ρ σ=some r)
 (K:∀{j ak},Step W bf G s.heap j ak.heap->St W j ak r.2->aT W A j ak.heap si J M ρ->t r.1 ak):
 ar W.M A (qf e J (aU e J)) t aF s:=
 qQ (D H st F N) λZ Z S g=>K S g (F.go st.inv S)
theorem Eb.val{e m}(D:Ev W n si e m)(T:∀J a,qf e J a=(do let v ← a;ip e.pos;kf [v] (truthy v))):Eb W n si e (.val m):=λH st F h=>
 ob h λp N h=>ob h λb E h=>sj h (wpAny_isTrue_value (bR D H st F N λS g Z r=>Bz S (qF g r E)) (T _ _))
theorem Eb.yX{l op r R a s f}(I:bL W n (iJ op) f)(hl:Ev W n si l a)(m:Ev W n si r s)(z:yn op r=false):Eb W n si (.Compare l [op] [r] R) (.val (.bh f a s)):=λH st F h=>
 ob h λp N h=>ob h λb E h=>sj h (ob N λq A N=>ob N λv o N=>
  WL (r8 hl m H st F A o λS g Z i Q=>iu (I H g i Q N) λZ Z Z C T c=>Bz (S.trans C) (qF T c E)) z)
theorem Eb.not{x R b}(U:Eb W n si x b):Eb W n si (.UnaryOp .Not x R) (.not b):=λH st F h=>
 ob h λp N h=>sj h (wpAny_isTrue_Not (jD U H st F N λS g Z=>⟨rfl,_,S,g⟩))
theorem Eb.yh{x y R a b}(U:Eb W n si x a)(t:Eb W n si y b):Eb W n si (.BoolOp .And [x,y] R) (.and a b):=λH st F h=>
 ob h λp N h=>IP (WH (jD U H st F N λS g O=>oc h
  (λe h=>by
    refine aa (if_pos e ..) ?_
    refine WH (jD t H g O h λC T _=>?_)
    split
    .rename_i hb;exact wpAny_allTrue_And_nil ⟨hb.symm,_,S.trans C,T⟩
    .rename_i hb;exact⟨(Bool.eq_false_iff.mpr hb).symm,_,S.trans C,T⟩)
  λe h=>sj h (by exact aa (if_neg (by rw [e];decide))<|⟨rfl,_,S,g⟩)))
theorem Eb.AF{x y R a b}(U:Eb W n si x a)(t:Eb W n si y b):Eb W n si (.BoolOp .Or [x,y] R) (.or a b):=λH st F h=>
 ob h λp N h=>IP (wJ (jD U H st F N λS g O=>oc h
  (λe h=>sj h (by exact aa (if_pos e ..)<|⟨rfl,_,S,g⟩))
  λe h=>by
   refine aa (if_neg (by rw [e];decide)) ?_
   refine wJ (jD t H g O h λC T _=>?_)
   split
   .rename_i hb;exact⟨hb.symm,_,S.trans C,T⟩
   .rename_i hb;exact WI ⟨(Bool.eq_false_iff.mpr hb).symm,_,S.trans C,T⟩))
theorem Eb.or3{x y z R a b c}(U:Eb W n si x a)(t:Eb W n si y b)(J:Eb W n si z c):Eb W n si (.BoolOp .Or [x,y,z] R) (.or a (.or b c)):=λH st F h=>
 ob h λp N h=>IP (wJ (jD U H st F N λS g O=>oc h
  (λe h=>sj h (by exact aa (if_pos e ..)<|⟨rfl,_,S,g⟩))
  λe h=>by
   exact aa (if_neg (by rw [e];decide))<|ob h λq E h=>wJ (jD t H g O E λC T d=>oc h
    (λe h=>sj h (by exact aa (if_pos e ..)<|⟨rfl,_,S.trans C,T⟩))
    λe h=>by
     refine aa (if_neg (by rw [e];decide)) ?_
     refine wJ (jD J H T d h λf i _=>?_)
     split
     .rename_i hb;exact⟨hb.symm,_,(S.trans C).trans f,i⟩
     .rename_i hb;exact WI ⟨(Bool.eq_false_iff.mpr hb).symm,_,(S.trans C).trans f,i⟩)))
theorem Ev.ite{t x y R b d L}(T:Eb W n si t b)(U:Ev W n si x d)(a:Ev W n si y L):Ev W n si (.IfExp t x y R) (.ite b d L):=λH st F h=>
 ob h λp N h=>wpAny_IfExp (jD T H st F N λS g O=>oc h
  (λe h=>by exact aa (if_pos e ..)<|gG S (U H g O h)) λe h=>by exact aa (if_neg (by rw [e];decide))<|gG S (a H g O h))
theorem Ev.not{x R b}(U:Ev W n si x b):Ev W n si (.UnaryOp .Not x R) (.ax (gD GY) b):=λH st F h=>
 ob h λp N h=>ob h λd E h=>sj h (ob E λc E h=>sj h (
  WG (bR U H st F N λS g Z r=>gG S (not_value (qQ (qF g r E) λZ Z C T=>⟨_,C,T,.bool _⟩)))))
theorem Ev.neg{x R b}(U:Ev W n si x b):Ev W n si (.UnaryOp .USub x R) (.ax (gD An) b):=λH st F h=>
 ob h λp N h=>ob h λd E h=>sj h (ob E λc E h=>sj h (WG (bR U H st F N λS g Z r=>gG S (r.gB (motive:=λv Z=>ar _ _ (unaryOp .USub v) _ _ _) E λZ=>neg_int (.int g)))))
theorem Ev.AF{x y R d L}(U:Ev W n si x d)(t:Ev W n si y L):Ev W n si (.BoolOp .Or [x,y] R) (.or d L):=λH st F h=>
 ob h λp N h=>ob h λc E h=>BoolOp_or (bR U H st F N λS g O r=>qQ (qF g r E) λZ Z C T=>oc h
  (λe h=>sj h (by exact aa (if_pos e ..)<|⟨_,S.trans C,T,r.go C⟩)) λe h=>by
    exact aa (if_neg (by rw [e];decide))<|BoolOp_one (gG (S.trans C) (t H T (O.go g.inv C) h)))
theorem Ev.yh{x y R d L}(U:Ev W n si x d)(t:Ev W n si y L):Ev W n si (.BoolOp .And [x,y] R) (.and d L):=λH st F h=>
 ob h λp N h=>ob h λc E h=>BoolOp_and (bR U H st F N λS g O r=>qQ (qF g r E) λZ Z C T=>oc h
  (λe h=>by exact aa (if_pos e ..)<|BoolOp_one (gG (S.trans C) (t H T (O.go g.inv C) h))) λe h=>sj h (by
    exact aa (if_neg (by rw [e];decide))<|⟨_,S.trans C,T,r.go C⟩))
end
end
section
section
variable {W:Wd} {n:Nat} {si:SI}
theorem Fy{G h}{a:Array af}{xs:List D}{k:Int}{d:D}{P:Prop}(y:aQ W G h a.toList xs)(z:xs.length<=aP)(e:ef xs k=some d)
 (T:∀{v},0<=k->k<a.size->k<2 ^ 63->a[k.toNat]?=some v->Rep W G h v d->P) (b:∀{v},k<0-> -(a.size:Int)<=k-> -2 ^ 63<=k->a[(k+a.size).toNat]?=some v->Rep W G h v d->P):P:=by
 have hl:=eX y
 have J:=nv z
 rw [hl] at T b
 refine oc e (λH e=>?_) λH e=>og e λc e=>?_
 .have H:=of_decide_eq_true H
  have K:k.toNat<xs.length:=(List.getElem?_eq_some_iff.mp e).1
  refine aw (y.get e) λv N r=>?_
  exact T H ((Kc H).mp K) (B5 ((Kc H).mp K) J) (by exact aa (.symm (jV ..))<|N) r
 .refine aw (y.get e) λv N r=>?_
  exact b (Int.not_le.mp (of_decide_eq_false H)) c (by lia) (by exact aa (.symm (jV ..))<|N) r
def ug(W:Wd)(A:aO)(Q:af->ai->Prop)(E:af->ai->Prop)(s:ai)(v u:af):Prop:=
 ∃T id,gr (.type T) "__getitem__" =pure (some (.builtin id))/\s.TypeIs v T/\ar W.M A (uU v u) Q E s
abbrev J4(W:Wd)(A:aO)(G:Gh)(s:ai)(σ:MH)(d:D)(v u:af):Prop:=ug W A (Out W G s σ d) aF s v u
theorem Qv{A G s σ c i v u d}(st:St W G s σ)(j:Rep W G s.heap v c)(a:Rep W G s.heap u i)(h:mS c i σ=some d):J4 W A G s σ d v u:=by
 unfold mS at h
 split at h
 .rename_i xs U
  refine ob h λk C h=>a.gB C λt=>j.jm U λz f e g dd V y=>?_
  exact Fy y z h (λ{v} H b E N r=>⟨"tuple",_,PySem.F.slot_tuple_getitem.lookup,⟨_,e,g⟩,Pf ⟨_,e,g,_,V⟩ (Int.le_trans (by decide) H) E (by
   unfold wk;simp only [if_neg (Int.not_lt.mpr H)];exact aa (if_pos (by rw [decide_eq_true H,decide_eq_true b];rfl)) rfl) N (.now st r)⟩)
   λ{v} H b E N r=>⟨"tuple",_,PySem.F.slot_tuple_getitem.lookup,⟨_,e,g⟩,Pf ⟨_,e,g,_,V⟩ E (B5 H (by decide)) (by
    unfold wk;simp only [if_pos H];exact aa (if_pos (by rw [decide_eq_true (by lia),decide_eq_true (by lia)];rfl)) rfl) N (.now st r)⟩
 .split at h
  .rename_i xs U
   refine ob h λk C h=>a.gB C λt=>fL st j U λhl y z=>⟨"list",_,slot_list_getitem.lookup,hl.typeIs,?_⟩
   exact Fy y z h (λH b E N r=>wpAny_getItem_list hl H E N (.now st r)) λH b E N r=>wpAny_getItem_list_neg hl H b E N (.now st r)
  .exact ob h λR P h=>ob h λk C h=>a.c8 C λt _ _=>um st j P λns hD L z=>(L.valueAt k).someE h λv l r=>
    ⟨"dict",_,PySem.F.slot_dict_getitem.lookup,hD.typeIs,wpAny_getItem_of (jI _ _) hD.mapOf l (.tok st r)⟩
theorem VL(f:ay)(o i:af):subscripted f false o i=Hd [i,o] (uU o i)∨subscripted f false o i=Hd [o,i] (uU o i):=by
 cases f with
 | Slice a b c d=>cases c with
  | none=>exact .inl rfl
  | some=>exact .inr rfl
 | _=>exact .inr rfl
theorem Bf{A J E s}{y f:ay}{R:bc}{Q:af->ai->Prop}
 (h:ar W.M A (aU y J) (λo ak=>ar W.M A (aU f J) (λi D=>ug W A Q E D o i) E ak) E s):
 ar W.M A (aU (.Subscript y f R) J) Q E s:=by
 refine aa (eval_Subscript ..) ?_
 refine ah (bD h λo ak k=>ah (bz (bD k λi D p=>eQ p λT id hl a u=>ah (cQ (ah ?_)))))
 refine aa (getitemInPython_of_ne a.not_modules ..) ?_
 refine ah (qP a hl (aD (ah ?_)))
 have v:∀j,ar W.M A (Hd j (uU o i)) (λr I=>ar W.M A (letTemporaryGo y o r>>=λZ=>pure r) Q E I) E D:=λj=>
  wpAny_operating (bD u λr I t=>ah (tG (aD t)))
 exact(VL f o i).elim (λe=>aa e<|v _) λe=>aa e<|v _
theorem Ev.idx{y f R a s}(hl:Ev W n si y a)(m:Ev W n si f s):Ev W n si (.Subscript y f R) (.bh (cm mS) a s):=λH st F e=>
 ob e λZ N e=>ob e λZ E e=>ob e λZ A e=>sj e (Bf (r8 hl m H st F N E λS g Z i Q=>
  (Qv g i Q A).imp λZ=>dX λZ=>fE (fE (gG S))))
def nN(W:Wd)(n:Nat)(si:SI):Option ay->Option ME->Prop
 | .none,.none=>True
 | .some e,.some m=>Ev W n si e m
 | _,_=>False
def rk(v:af)(i:Option Int):Prop:=match i with| none=>v=.none| some k=>∃t,v=.int k t
theorem sY{A J M G s ρ σ r}{e:Option ay}{m:Option ME}{t:af->ai->Prop}(D:nN W n si e m)(H:br n A)(st:St W G s σ)(F:aT W A G s.heap si J M ρ)(N:jF m ρ σ=some r)
 (K:∀{j ak v},Step W bf G s.heap j ak.heap->St W j ak r.2->aT W A j ak.heap si J M ρ->rk v r.1->t v ak):
 ar W.M A (evalPart e J) t aF s:=by
 induction e with
 | none=>
  induction m with
  | none=>obtain rfl:=aM N;exact aa (OI ..)<|wpAny_pure (K .refl st F rfl)
  | some m=>exact D.elim
 | some e=>
  induction m with
  | none=>exact D.elim
  | some m=>
   exact aa (evalPart_some ..)<|ob N λp E h=>ob h λi w h=>by
    obtain rfl:=aM h
    exact bR D H st F E λS g O u=>K S g O (u.gB (motive:=λv Z=>∃t,v=.int i t) w λt=>⟨t,rfl⟩)
theorem sy{v i}(h:rk v i):IsPart v i:=by
 induction i with
 | none=>subst h;exact .none
 | some k=>refine aL h λt B=>?_;obtain rfl:=B;exact .int k t
theorem Vy{x:aj}(h:fJ x=true)(l:List Nat):fJ ⟨(l.filterMap (x.cps[·]?)).toArray⟩=true:=by
 unfold fJ at*
 rw [← I1] at*
 refine List.all_eq_true.mpr λc O=>?_
 refine aw (List.mem_filterMap.mp O) λi Z w=>?_
 exact List.all_eq_true.mp h _ (Array.mem_toList_iff.mpr (Array.mem_of_getElem? w))
theorem Rl(x:aj)(lo w:Option Int):(ng x lo w).length<=x.length:=LP x lo w
theorem Vh{A G s σ H x t lo w m q}(st:St W G s σ)(B:s.heap.IsSliceOf H m q .none)(pl:rk m lo)(b:rk q w)(N:fJ x=true)(E:x.length<=aP):
 ar W.M A (uU (.str x t) (.ref H)) (Out W G s σ (.str (ng x lo w))) aF s:=by
 refine bI B λo e c V=>?_
 have a:∀{v i},rk v i->∃l:Option (Int×de),partValue l=v/\l.map (·.1)=i:=λ{v i} h=>match i,h with
  | none,h=>⟨none,h.symm,rfl⟩
  | some k,⟨t,h⟩=>⟨some (k,t),h.symm,rfl⟩
 refine aw (a pl) λl R j=>?_;obtain rfl:=R;obtain rfl:=j
 refine aw (a b) λu C d=>?_;obtain rfl:=C;obtain rfl:=d
 refine wpAny_getItem_str_slice (l:=l) (u:=u) (st:=none) ⟨o,e,c,V⟩ rfl ?_
 have p:=Rl x (l.map (·.1)) (u.map (·.1))
 unfold ng CX at p ⊢
 show(if ((1:Int)==1 && (Xn (l.map (·.1)) (u.map (·.1)) 1 x.length).length==x.length)=true then Made.val (.str x t) else Made.str _).post _ s
 split
 .exact .now st (.str _ _ N E)
 .rename_i O
  rw [if_neg O] at p
  exact⟨aE (aE p E) f9,.tok st (.str _ _ (Vy N _) (aE p E))⟩
theorem Ev.slice{y B T p R G a L}(hc:Ev W n si y G)(hl:nN W n si B a)(hu:nN W n si T L):Ev W n si (.Subscript y (.Slice B T none p) R) (.slice G a L):=λH st F h=>
 ob h λx V h=>ob h λl Q h=>ob h λu E h=>ob h λd f h=>sj h (by
 refine Bf (bR hc H st F V λS g O rc=>wpAny_Slice (sY hl H g O Q λc N i r=>sY hu H N i E λ{k I q} o K X A=>?_))
 rename_i v _ _ m
 refine aa (OI ..) ?_
 refine aD ?_
 have b:=J1 I.heap m q .none
 have P:=K.push {cls:=.type "slice",data:=.fields #[m,q,.none]}
 have w:Step W bf k I.heap k (I.heap.push {cls:=.type "slice",data:=.fields #[m,q,.none]}):=.push _
 have D:=((rc.go c).go o).go w
 have C:=((S.trans c).trans o).trans w
 unfold A4 at f
 split at f
 .rename_i U
  exact sj f (D.c8 U λt Y Z=>⟨"str",_,PySem.F.slot_str_getitem.lookup,typeIs_str _ _ _,gG C (Vh P b r A Y Z)⟩)
 .refine ob f λxs U f=>sj f ?_
  show ug _ _ _ _ _ _ _
  refine fL (v:=v) P D U λM J z=>?_
  have hz:=eX J
  have j:(jQ xs l.1 u.1).length<=aP:=aE (KO _ _) (by exact aa (t9 ..)<|Nat.le_trans (rL _ _) z)
  refine⟨"list",_,slot_list_getitem.lookup,M.typeIs,WK M b (sy r) (sy A) .none (λe=>nomatch e) ?_ (size_le J z)⟩
  refine⟨k,C.trans (.push (s:={I with heap:=I.heap.push _}) _),P.push _,.list (n:=0) j P.bq (c5 _ rfl) rfl rfl rfl ?_⟩
  refine aa (slicePick_plain ..) ?_
  unfold jQ
  exact aa (.symm (hz ..))<|((J.drop _).take _).go (.push (s:={I with heap:=I.heap.push _}) _))
def dN(W:Wd)(n:Nat)(si:SI)(u:List ay)(I:List ME):Prop:=
 ∀{A J M G s ρ σ r} {R:bc} {t:List af->ai->Prop},br n A->St W G s σ->aT W A G s.heap si J M ρ->aG I ρ σ=some r->
   (∀{j ak P},Step W bf G s.heap j ak.heap->St W j ak r.2->aT W A j ak.heap si J M ρ->aQ W j ak.heap P r.1->t P ak)->
   ar W.M A (wx (fZ R (bB u J))) t aF s
theorem dN.nil:dN W n si [] []:=λZ st F e K=>by obtain rfl:=aM e;exact aD (K .refl st F .nil)
theorem dN.cons{e u m I}(D:Ev W n si e m)(B:dN W n si u I)(U:∀J,bB (e::u) J=(false,aU e J)::bB u J):dN W n si (e::u) (m::I):=λ{Z _ _ _ _ _ _ _ _ _} H st F h K=>
 ob h λp V h=>ob h λq Q h=>by
  obtain rfl:=aM h
  exact l8 (bR D H st F V λS g O r=>B H g O Q λC T d y=>K (S.trans C) T d (.cons (r.go C) y)) (U _)
theorem Ev.list{u I R}(h:dN W n si u I):Ev W n si (.List u R) (.list I):=λH st F e=>
 ob e λp V e=>og e λJ e=>sj e (List_ (h H st F V λS g Z y=>gG S (SP g y J)))
theorem Ev.tup{u I k R}(h:dN W n si u I):Ev W n si (.Tuple u k R) (.tup I):=λH st F e=>
 ob e λp V e=>og e λJ e=>sj e (Tuple_ (h H st F V λS g Z y=>gG S (SQ g y J)))
end
end
section
theorem HH{M:lB}{b:Ctx}{p:bc}{t:bY Fin}{fs:List Frame}{s i:ai}{e:End}(h:Runs M b p t fs s e i):s.heap.objs.size<=i.heap.objs.size:=by
 induction h<;>(try simp only [Shared.setGen,c9,J3] at*)<;>first| exact bb _| assumption| lia
theorem Wr{M:lB}{b:Ctx}{p:bc}{g:Nat}{r:Resume}{s i:ai}{u:GenResult}:Wakes M b p g r s u i->s.heap.objs.size<=i.heap.objs.size:=by
 delta Wakes
 have X:∀{b t p fs} {R:End->Prop},(∃a ak,Runs M b p t fs (s.setGen g .running) a ak/\a.quiet=true/\R a/\i=ak.setGen g a.genState)->s.heap.objs.size<=i.heap.objs.size:=λh=>
  nI h λa ak m V V e=>e▸(HH m:(s.setGen g .running).heap.objs.size<=ak.heap.objs.size)
 have Y:∀{R:Prop},R/\i=s->s.heap.objs.size<=i.heap.objs.size:=λh=>h.2▸bb _
 have Z:∀{R:Prop},R/\i=s.setGen g .finished->s.heap.objs.size<=i.heap.objs.size:=λh=>h.2▸bb _
 induction s.gens[g]? with
 | none=>exact False.elim
 | some x=>induction x with
  | fresh=>induction r with
   | send v=>cases v<;>first| exact X| exact Y
   | throw=>exact Z
  | suspended=>exact X
  | _=>exact Y
theorem WX{α:Type}(M:lB)(b:Ctx)(n:Nat)(t:bY α):∀(Q:α->bc->ai->Prop) (E:af->bc->ai->Prop) (p:bc) (s:ai),n<=s.heap.objs.size->Sem.wp M b t Q E p s->
 Sem.wp M b t (λa w i=>n<=i.heap.objs.size/\Q a w i) (λe w i=>n<=i.heap.objs.size/\E e w i) p s:=by
 induction t with
 | pure a=>intro Q E p s G h;exact⟨G,h⟩
 | raise e=>intro Q E p s G h;exact⟨G,h⟩
 | unsupported _=>intro Q E p s _ h;exact h
 | finish _=>intro Q E p s _ h;exact h
 | rule _ k S=>intro Q E p s G h;exact S () Q E p s G h
 | «at» w k S=>intro Q E p s G h;exact S () Q E w s G h
 | load a _ k S=>intro Q E p s G ⟨o,L,h⟩;exact⟨o,L,S o Q E p s G h⟩
 | update a _ f k S=>intro Q E p s G h;exact⟨h.1,S () Q E p _ (by exact aa (J3 ..)<|G) h.2⟩
 | loadIfAlive a k S=>intro Q E p s G h;exact S _ Q E p s G h
 | point _ k S=>intro Q E p s G h;exact S () Q E p s G h
 | register _ _=>intro Q E p s _ h;exact h
 | alloc o k S=>intro Q E p s G h;exact S _ Q E p _ (by exact aa (c9 ..)<|Nat.le_succ_of_le G) h
 | fresh k S=>intro Q E p s G h;exact S _ Q E p _ G h
 | ask k S=>intro Q E p s G h;exact S _ Q E p s G h
 | choose d m k S=>intro Q E p s G h;exact⟨h.1,S _ Q E p _ G h.2⟩
 | os q _ k S=>intro Q E p s G h;exact S _ Q E p _ G h
 | call c P _ _ k S=>intro Q E p s G ⟨r,i,Z,h⟩;exact⟨r,i,Z,S r Q E p i (aE G (HH Z)) h⟩
 | handled own k S=>intro Q E p s G h;exact S _ Q E p s G h
 | genState g k S=>intro Q E p s G ⟨st,B,h⟩;exact⟨st,B,S _ Q E p s G h⟩
 | newGen c k S=>intro Q E p s G h;exact S _ Q E p _ G h
 | resume g r _ k S=>intro Q E p s G ⟨u,i,l,h⟩;exact⟨u,i,l,S u Q E p i (aE G (Wr l)) h⟩
 | yield _ _ _ _=>intro Q E p s _ h;exact h
 | stack k S=>intro Q E p s G h;exact S _ Q E p s G h
 | fork _ _=>intro Q E p s _ h;exact h
 | thread k S=>intro Q E p s G h;exact S _ Q E p s G h
 | await _ _ _ _ _=>intro Q E p s _ h;exact h
theorem iT{α:Type}{M:lB}{A:aO}{s:ai}{t:bY α}{Q:α->ai->Prop}{E:af->ai->Prop}(h:ar M A t (λa s'=>s.heap.objs.size<=s'.heap.objs.size->Q a s') E s):ar M A t Q E s:=
 λb p f=>Sem.wp_mono M b t (λZ Z Z x=>x.2 x.1) (λZ Z Z x=>x.2) p s (WX M b _ t _ _ p s (bb _) (h b p f))
section
variable {W:Wd} {n:Nat} {si:SI}
theorem Inv.gp{G:Gh}{s s':ai}{M:aq->Prop}(I:Inv W G s)(i:∀a,M a->G.fr a)(k:∀b o,¬M b->s.heap.get? b=some o->s'.heap.get? b=some o)(J:s.heap.objs.size<=s'.heap.objs.size)
 (u:s'.gens=s.gens) (L:s'.os=s.os):Inv W G s' where
 keep b o e:=k b o (λx=>absurd (b9 e) (Nat.not_lt.mpr (I.b0 b (i b x)).1)) (I.keep b o e)
 size:=aE I.size J
 gens:=u.trans I.gens
 os:=L.trans I.os
 cn a x:=(I.cn a x).imp_right (eH λy=>a9 y J)
 b0 a x:=(I.b0 a x).imp_right (eH λy=>a9 y J)
 gR:=I.gR
 g7:=I.g7
 gd:=I.gd
 tab:=I.tab.keep (λa o e f=>⟨f,k a o (λx=>f.2.1 (i a x)) e⟩) λZ e=>k _ _ (λx=>(I.b0 _ (i _ x)).2.2 rfl) e
 eO:=I.eO
 hJ:=I.hJ
 b8:=I.b8
theorem Inv.Hg{G:Gh}{s:ai}{M:aq->Prop}(I:Inv W G s)(i:∀a,M a->G.fr a){b}(x:G.own b):¬M b:=λy=>(I.cn b x).2.2.1 (i b y)
theorem Cells.gp{G:Gh}{s:ai}{h':aN}{σ}{M:aq->Prop}(C:Cells W G s.heap σ)(I:Inv W G s)(d:∀a,M a->G.fr a)(k:∀b o,¬M b->s.heap.get? b=some o->h'.get? b=some o):Cells W G h' σ:=
 ⟨λi c e=>have x:=C.at_ i c e;⟨x.1,x.2.imp λa y=>⟨y.1,y.2.oZ ⟨λZ Z e=>e,λb o e f=>⟨f,k b o (λx=>f.2.1 (d b x)) e⟩⟩ (λg o e=>k _ o (I.Hg d ⟨i,x.1 g,.inl y.1⟩) e) (λg b o hb e=>k _ o (I.Hg d ⟨i,x.1 g,.inr hb⟩) e)⟩⟩,C.free⟩
theorem St.gp{G:Gh}{s s':ai}{σ}{M:aq->Prop}(st:St W G s σ)(i:∀a,M a->G.fr a)(k:∀b o,¬M b->s.heap.get? b=some o->s'.heap.get? b=some o)(J:s.heap.objs.size<=s'.heap.objs.size)
 (u:s'.gens=s.gens) (L:s'.os=s.os):St W G s' σ/\Step W M G s.heap G s'.heap:=
 ⟨⟨st.inv.gp i k J u L,st.cells.gp st.inv i k⟩,.all (λZ Z e=>e) (λZ Z e=>e) rfl (λZ x=>x) (λZ x=>.inl x) (λa o e z=>k a o z e) J⟩
noncomputable def i7 (si:SI) (x:String):Bool:=si.kind x==some .local|| (si.kind x==some .cell && !si.ro.contains (au x))
theorem aC.tf{ρ:aC}{x y d E}{P:Prop}(h:ρ.set x d y=some E)(m:y=x->d=E->P)(g:y≠x->ρ y=some E->P):P:=by
 delta aC.set at h
 by_cases e:y=x
 .rw [if_pos e] at h;exact m e (aM h)
 .rw [if_neg e] at h;exact g e h
theorem vU{h:aN}{a c m v}(n:h.Ns a m)(i:h.IsCell c v):c≠a:=λq=>by
 refine BD n λo u y e P Z=>?_
 refine aw i λC t B=>?_
 rw [q,e] at t
 rw [← aM t,P] at B
 exact nomatch B
def LN(W:Wd)(A:aO)(si:SI)(J:bg)(M:aq->Prop)(G:Gh)(s:ai)(ρ:aC)(σ:MH)(s':ai):Prop:=Step W M G s.heap G s'.heap/\St W G s' σ/\aT W A G s'.heap si J M ρ
theorem Bb{A J M G s ρ σ v d}{x:String}(st:St W G s σ)(F:aT W A G s.heap si J M ρ)(r:Rep W G s.heap v d)(U:i7 si x=true):
 ar W.M A (storeName J (au x) v) (λZ s'=>LN W A si J M G s (ρ.set x d) σ s') aF s:=by
 have a:J.kindOf (au x)=si.kind x:=by delta tW SI.kind;exact aa (F.sc ..) rfl
 have h:J.scope.kind=.function:=by exact aa (F.sc ..)<|F.fn
 refine aw F.ns λm I z=>?_
 refine(nK _ _▸U).elim (λC=>?_) λC=>?_
 .have C:=eq_of_beq C
  refine wpAny_storeName_local (a.trans C) I (λh' N B=>?_) (by exact aa (h ..) rfl)
  refine aA (st.gp (s':={s with heap:=h',toks:=s.toks+1}) (M:=M) F.dg (λb o nm e=>B.extBut b o (λq=>nm (q▸F.jf)) e) (bN B.1.symm) rfl rfl) λg S=>?_
  exact⟨S,g,F.sc,F.fn,F.gl,F.bl,F.dg,F.jf,⟨_,N,λy E t n=>aC.tf t (λe Q=>⟨v,by exact aa (e ..)<|aa (if_pos rfl ..) rfl,Q▸r.step S F.dg⟩) λu t=>(z y E t n).imp λH x=>⟨by exact aa (if_neg λq=>u (vX q) ..)<|x.1,x.2.step S F.dg⟩⟩,
   λk c O=>(F.cells k c O).imp id (nJ id (dX λH i=>i.sameBut B (vU I i))),F.apart,
   λy E t n=>aC.tf t (λe Z=>by rw [e,C] at n;exact n.elim (λq=>nomatch q) λq=>nomatch q) λZ t=>(F.cell y E t n).imp λc=>dX λH ⟨e,i,b⟩=>⟨e,i.sameBut B (vU I i),b.step S F.dg⟩,F.kN,F.has,F.fz,F.here,F.EV S⟩
 .have C:=(jo _ _▸C:_/\_)
  have f:=C.2
  have C:=eq_of_beq C.1
  refine aw (F.kN x C (by simpa using f)) λc O l=>?_
  refine bP (F.cells _ c O) λZ Z L=>?_;refine aL L λD w=>?_
  refine wpAny_storeName_cell h (a.trans C) O w (λh' K B=>?_)
  refine aA (st.gp (s':={s with heap:=h'}) (M:=M) F.dg (λb o nm e=>B.extBut b o (λq=>nm (q▸l)) e) (bN B.1.symm) rfl rfl) λg S=>?_
  exact⟨S,g,F.sc,F.fn,F.gl,F.bl,F.dg,F.jf,⟨m,I.sameBut B (Ne.symm (vU I w)),λy E t n=>aC.tf t (λe Z=>by rw [e,C] at n;exact nomatch n) λZ t=>(z y E t n).imp λH x=>⟨x.1,x.2.step S F.dg⟩⟩,
   λk p j=>(F.cells k p j).imp id (nJ id λ⟨H,i⟩=>if q:p=c then ⟨_,q▸K⟩ else ⟨H,i.sameBut B q⟩),F.apart,
   λy E t n=>aC.tf t (λe Q=>⟨c,v,by exact aa (e ..)<|O,K,Q▸r.step S F.dg⟩) λu t=>(F.cell y E t n).imp λp=>dX λH ⟨e,i,b⟩=>⟨e,i.sameBut B λq=>u (vX (SH F.apart (mem_of_lookup e) (mem_of_lookup (q▸O)))),b.step S F.dg⟩,F.kN,F.has,F.fz,F.here,F.EV S⟩
end
end
section
namespace MT
end MT
theorem Fl.FG{f:Fl}(h:f.oY=true):f=.next:=by induction f<;>first| rfl| exact nomatch h
namespace MS
noncomputable def block:List MS->MS
 | []=>nil
 | [x]=>x
 | x::xs=>cons x (block xs)
end MS
section
variable {W:Wd} {n:Nat} {si:SI}
def gK(W:Wd)(G:Gh)(h:aN):gw->Fl->Prop
 | .next,.next=>True
 | .brk,.brk=>True
 | .cont,.cont=>True
 | .ret v,.ret d=>Rep W G h v d
 | _,_=>False
def JS(W:Wd)(G:Gh)(h:aN)(f:gw):Fl->Prop
 | .next=>f=.next
 | .brk=>f=.brk
 | .cont=>f=.cont
 | .ret d=>∃v,f=.ret v/\Rep W G h v d
theorem gK.inv{G h f o}(r:gK W G h f o):JS W G h f o:=by
 induction o<;>induction f<;>first| exact rfl| exact r.elim| exact⟨_,rfl,r⟩
def hY(W:Wd)(A:aO)(si:SI)(J:bg)(M:aq->Prop)(G:Gh)(s:ai)(r:Fl×aC×MH)(f:gw)(i:ai):Prop:=
 ∃G',Step W M G s.heap G' i.heap/\St W G' i r.2.2/\aT W A G' i.heap si J M r.2.1/\gK W G' i.heap f r.1
def Ex(W:Wd)(n:Nat)(si:SI)(st:bZ)(m:MS):Prop:=
 ∀{A J M G s ρ σ r},br n A->St W G s σ->aT W A G s.heap si J M ρ->m ρ σ=some r->ar W.M A (exec st J) (hY W A si J M G s r) aF s
def dY(W:Wd)(n:Nat)(si:SI)(st:List bZ)(m:MS):Prop:=
 ∀{A J M G s ρ σ r},br n A->St W G s σ->aT W A G s.heap si J M ρ->m ρ σ=some r->ar W.M A (ja st J) (hY W A si J M G s r) aF s
theorem Step.any{M:aq->Prop}{G h G' h'}(S:Step W bf G h G' h'):Step W M G h G' h':=S.weaken λZ x=>x.elim
theorem hY.elim{J M G s r f s'}{P:Prop}(h:hY W A si J M G s r f s')(k:∀G',Step W M G s.heap G' s'.heap->St W G' s' r.2.2->aT W A G' s'.heap si J M r.2.1->gK W G' s'.heap f r.1->P):P:=dG h λG' S st F x=>k G' S st F x
theorem hY.trans{J M G s j ak r f s'}(S:Step W M G s.heap j ak.heap)(h:hY W A si J M j ak r f s'):hY W A si J M G s r f s':=h.imp λZ=>eH S.trans
theorem qR{A:aO}{J M G s j ak r}{t:bY gw}(S:Step W M G s.heap j ak.heap)(h:ar W.M A t (hY W A si J M j ak r) aF ak):ar W.M A t (hY W A si J M G s r) aF ak:=bD h λZ Z x=>x.trans S
theorem wpS{A:aO}{J M G s r}{t:bY gw}{Q:gw->ai->Prop}(h:ar W.M A t (hY W A si J M G s r) aF s)(k:∀f i G',Step W M G s.heap G' i.heap->St W G' i r.2.2->aT W A G' i.heap si J M r.2.1->gK W G' i.heap f r.1->Q f i):ar W.M A t Q aF s:=
 bD h λZ Z o=>o.elim (k _ _)
theorem hY.next{J M G s G' s' ae ab}(S:Step W M G s.heap G' s'.heap)(st:St W G' s' ab)(F:aT W A G' s'.heap si J M ae):hY W A si J M G s (.next,ae,ab) .next s':=⟨G',S,st,F,trivial⟩
theorem dY.nil:dY W n si [] .nil:=λZ st F e=>sj e (wK (.next .refl st F))
theorem dY.cons{x xs m I}(U:Ex W n si x m)(B:dY W n si xs I):dY W n si (x::xs) (.cons m I):=λH st F e=>
 ob e λp V e=>tF (bD (U H st F V) λf ak o=>o.elim λj S w E r=>oc e
  (λG e=>by
    rw [Fl.FG G] at r
    obtain rfl:=r.inv
    exact qR S (B H w E e))
  λG e=>by
   obtain rfl:=aM e
   induction f with
   | next=>exact absurd (show p.1.oY=true by induction h:p.1<;>rw [h] at r<;>first| rfl| exact r.elim) (by refine aa (G ..) ?_;decide)
   | _=>exact o)
theorem dY.one{x m}(U:Ex W n si x m):dY W n si [x] m:=λH st F e=>
 tF (bD (U H st F e) λf ak h=>by
  induction f with
  | next=>exact wK h
  | _=>exact h)
theorem drop_eq(e:ay)(R:bc)(v:af):za e R v=pure .next∨za e R v=za (.Starred e R) R v:=by cases e<;>first| exact .inl rfl| exact .inr (by kernel_rfl)
theorem Ej{A s}{e:ay}{R:bc}{v:af}{Q:gw->ai->Prop}(h:Q .next s):ar W.M A (za e R v) Q aF s:=by
 rcases drop_eq e R v with q| q<;>refine aa (q ..) ?_
 .exact aD h
 .induction v with
  | ref=>exact ah (cQ (ah (IT (fN entry_let_go (show ar _ _ (CS .none) _ _ _ from aD (aD h))))))
  | _=>exact aD h
theorem Ex.expr{e R m}(D:Ev W n si e m)(w:∀J:bg,J.scope=si.sc->zK J=false)(B:∀J,Iw e none R.line J=pure false):Ex W n si (.Expr e R) (.expr m):=λH st F h=>
 ob h λp V h=>sj h (by
  exact aa (exec_Expr _ _ _ (w _ F.sc) (B _) ..)<|wpAny_bind (cQ (ah (bR D H st F V λS g O r=>Ej (.next S.any g O)))))
theorem Ex.ret{e R m}(D:Ev W n si e m):Ex W n si (.Return (some e) R) (.ret m):=λH st F h=>
 ob h λp V h=>sj h (wpAny_Return_some (bR D H st F V λS g O r=>⟨_,S.any,g,O,r⟩))
theorem Ex.brk{R}:Ex W n si (.Break R) .brk:=λZ st F e=>sj e λZ Z Z=>⟨_,.refl,st,F,trivial⟩
theorem Ex.cont{R}:Ex W n si (.Continue R) .cont:=λZ st F e=>sj e λZ Z Z=>⟨_,.refl,st,F,trivial⟩
theorem Ex.ite{t xs I R b d L}(T:Eb W n si t b)(U:dY W n si xs d)(a:dY W n si I L):Ex W n si (.If t xs I R) (.ite b d L):=λH st F h=>
 ob h λp V h=>wpAny_If (jD T H st F V λS g O=>oc h (λe h=>by exact aa (if_pos e ..)<|qR S.any (U H g O h)) λe h=>by exact aa (if_neg (by rw [e];decide))<|qR S.any (a H g O h))
def xU(W:Wd)(A:aO)(si:SI)(J:bg)(M:aq->Prop)(G:Gh)(s:ai)(r:aC×MH)(i:ai):Prop:=∃G',Step W M G s.heap G' i.heap/\St W G' i r.2/\aT W A G' i.heap si J M r.1
theorem kA{A:aO}{J M G s r}{t:bY Unit}{Q:Unit->ai->Prop}(h:ar W.M A t (λZ s'=>xU W A si J M G s r s') aF s)(k:∀s' G',Step W M G s.heap G' s'.heap->St W G' s' r.2->aT W A G' s'.heap si J M r.1->Q () s'):ar W.M A t Q aF s:=
 bD h λZ s' B=>bI B λG' S st F=>k s' G' S st F
def Et(W:Wd)(n:Nat)(si:SI)(t:ay)(m:MT):Prop:=
 ∀{A J M G s ρ σ v d r},br n A->St W G s σ->aT W A G s.heap si J M ρ->Rep W G s.heap v d->m d ρ σ=some r->
   ar W.M A (assign t J v) (λZ i=>xU W A si J M G s r i) aF s
theorem Et.name{x pos}(U:i7 si x=true):Et W n si (.Name (au x) pos) (.name x):=λZ st F r e=>
 sj e (assign_Name (bD (Bb st F r U) λZ Z o=>⟨_,o⟩))
def ll(W:Wd)(n:Nat)(si:SI)(l:List ay)(I:List MT):Prop:=
 ∀{A J M G s ρ σ P j r},br n A->St W G s σ->aT W A G s.heap si J M ρ->aQ W G s.heap P j->MT.seq I j ρ σ=some r->
   ar W.M A (Du ((gy l J).map (·.2)) P) (λZ i=>xU W A si J M G s r i) aF s
theorem ll.nil:ll W n si [] []:=λ{Z _ _ _ _ _ _ _ j _} Z st F r e=>by
 induction j with
 | nil=>exact sj e (aD ⟨_,.refl,st,F⟩)
 | cons=>exact aY e
theorem ll.cons{t l m I}(T:Et W n si t m)(B:ll W n si l I)(U:∀J,gy (t::l) J=(false,assign t J)::gy l J):ll W n si (t::l) (m::I):=λ{Z _ _ _ _ _ _ _ b _} H st F r e=>by
 induction b with
 | nil=>exact aY e
 | cons d b=>
  refine ob e λp V e=>?_
  refine r.d6 λL y=>?_
  exact aa (U ..)<|wpAny_bind (bz (kA (T H st F L V) λak j S w E=>kA (B H w E (y.step S F.dg) e) λZ a c N i=>⟨a,S.trans c,N,i⟩))
theorem MT.U0{I:List MT}:∀{j:List D} {ρ σ r},MT.seq I j ρ σ=some r->I.length=j.length:=by
 induction I with
 | nil=>intro j;induction j with| nil=>exact λZ=>rfl| cons=>exact λe=>aY e
 | cons m I S=>intro j;induction j with| nil=>exact λe=>aY e| cons=>exact λe=>ob e λZ Z e=>congrArg (· +1) (S e)
theorem St.grow{G:Gh}{s s':ai}{σ}(st:St W G s σ)(k:∀b o,s.heap.get? b=some o->s'.heap.get? b=some o)(J:s.heap.objs.size<=s'.heap.objs.size)
 (u:s'.gens=s.gens:=by rfl) (L:s'.os=s.os:=by rfl):St W G s' σ/\Step W bf G s.heap G s'.heap:=
 st.gp (M:=bf) (λZ x=>x.elim) (λb o Z e=>k b o e) J u L
theorem Et.tup{l k R I}(hl:ll W n si l I)(p:l.length=I.length)(q:∀J,(gy l J).length=l.length/\(gy l J).findIdx? (·.1)=none):Et W n si (.Tuple l k R) (.tup I):=λ{A J M G s ρ σ v d u} H st F r e=>by
 refine ob e λj P e=>r.jm P λ{a o x} z f t c dd V y=>?_
 show ar _ _ (do ip R;Bp _ (gy l _)) _ _ _
 refine ah (cQ ?_)
 unfold Bp
 refine aa ((q _).2 ..)<|aa ((q J).1.trans (p.trans ((MT.U0 e).trans (eX y).symm)) ..) ?_
 refine ah (bz (iT (unpackItems_tuple H.2.2.2 ⟨_,t,c,_,V⟩ λh' D w=>?_)))
 refine aA (st.grow (s':={s with heap:=h'}) (λb o e=>D b o (bj (b9 e)) e) w) λg S=>?_
 exact kA (hl H g (F.go st.inv S) (y.go S) e) λZ h m N i=>⟨h,S.any.trans m,N,i⟩
theorem Ex.assign{t y pos m mt}(D:Ev W n si y m)(T:Et W n si t mt)(B:∀J:bg,J.scope=si.sc->kq [t] y pos.line J=pure false)(l:∀J:bg,J.scope=si.sc->l0 [t] y J=pure none)
 (U:∀J,gy [t] J= [(false,iy t J)]):Ex W n si (.Assign [t] y pos) (.assign mt m):=λH st F h=>
 ob h λp V h=>ob h λq Q h=>sj h (by
  refine aa (zi ..)<|aa (B _ F.sc ..) ?_
  refine ah (cQ (ah (aD ?_)))
  refine aa (if_neg (by decide)) ?_
  refine ah (bR D H st F V λS g O r=>?_)
  refine aa (l _ F.sc ..) ?_
  refine ah (aD ?_)
  refine aa (U ..) ?_
  show ar _ _ (iy t _ _>>=λZ=>pure Flow.next) _ _ _
  exact ah (kA (T H g O r Q) λZ d c N i=>aD (.next (S.any.trans c) N i)))
end
end
section
noncomputable def ES (f:gw):af:=match f with| .ret v=>v| _=>.none
inductive gx (W:Wd) (G:Gh) (h:aN):List (aj×af)->List (String×D)->Prop
 | nil:gx W G h [] []
 | cons {x v d bs cs}:Rep W G h v d->gx W G h bs cs->gx W G h ((au x,v)::bs) ((x,d)::cs)
def LD(W:Wd)(G:Gh)(h:aN)(bs:List (aj×af)):List (String×D)->Prop
 | []=>bs= []
 | (x,d)::z=>∃v c,bs=(au x,v)::c/\Rep W G h v d/\gx W G h c z
theorem gx.inv{W G h bs z}(r:gx W G h bs z):LD W G h bs z:=by induction r with| nil=>exact rfl| cons a b=>exact⟨_,_,rfl,a,b⟩
@[elab_as_elim] theorem gx.ind{W G h}{motive:List (aj×af)->List (String×D)->Prop}{P j}(r:gx W G h P j)(nil:motive [] [])
   (cons:∀{x v d P j},Rep W G h v d->gx W G h P j->motive P j->motive ((au x,v)::P) ((x,d)::j)):motive P j:=by
  induction j generalizing P with
  | nil=>obtain rfl:=r.inv;exact nil
  | cons p j S=>refine eQ r.inv λv f B a b=>?_;obtain rfl:=B;exact cons a b (S b)
section
variable {W:Wd} {n:Nat}
def xR(W:Wd)(G:Gh)(s:ai)(r:D×MH)(x:hZ)(s':ai):Prop:=∃v,x=.ok (.ret v)/\Out W G s r.2 r.1 v s'
def ba(W:Wd)(n:Nat)(a:aq)(F:FM):Prop:=
 ∀{A G s σ P j r},br n A->St W G s σ->aQ W G s.heap P j->Fo A G s.heap->F j σ=some r->
   eU W.M A (.call (.ref a) ⟨P,[]⟩) (xR W G s r) s
def b6(W:Wd)(F:gc)(B:gu):Prop:=
 ∀{A G s σ P j bs},br 0 A->St W G s σ->aQ W G s.heap P j->B j=some bs->
   ar W.M A (kM F ⟨P,[]⟩) (λI i=>Step W bf G s.heap G i.heap/\St W G i σ/\gx W G i.heap I bs) aF s
theorem cellsFrom_some(a:List (aj×gY)):∀(k:Nat) (f:List (aj×aq)) (x:aj),(a.lookup x=some .cell∨(f.lookup x).isSome=true)->((iH k a f).lookup x).isSome=true:=by
 induction a with
 | nil=>exact λk f x h=>h.elim (λh=>aY h) id
 | cons p r S=>
  intro k f x h
  obtain⟨y,q⟩:=p
  unfold iH
  rw [dI] at h
  induction hb:x==y with
  | true=>
   rw [hb] at h
   split
   .exact S (k+1) _ x (.inr (by exact aa (dI ..)<|aa (hb ..) rfl))
   .rename_i C
    exact S k f x (h.elim (λh=>(C (beq_iff_eq.mpr (aM h))).elim) .inr)
  | false=>
   rw [hb] at h
   split
   .exact S (k+1) _ x (h.imp id λh=>by exact aa (dI ..)<|aa (hb ..)<|h)
   .exact S k f x h
noncomputable def lI (sc:cR) (x:String):Bool:=sc.names.lookup (au x)==some .local|| sc.names.lookup (au x)==some .cell
theorem DC{sc x}(h:lI sc x=true):sc.names.lookup (au x)=some .local∨sc.names.lookup (au x)=some .cell:=
 (nK _ _▸h:_∨_).imp eq_of_beq eq_of_beq
def Lies(W:Wd)(G:Gh)(h:aN)(sc:cR)(m c:aj->Option af)(ρ:aC):Prop:=
 ∀x d,ρ x=some d->(sc.names.lookup (au x)=some .local/\∃v,m (au x)=some v/\Rep W G h v d)∨(sc.names.lookup (au x)=some .cell/\∃v,c (au x)=some v/\Rep W G h v d)
theorem DD{G h}{sc:cR}{kindOf:aj->Option gY}(a:∀x,kindOf x=sc.names.lookup x){I bs}(r:gx W G h I bs):(∀b∈bs,lI sc b.1=true)->∀(m c:aj->Option af) (ρ:aC),
 Lies W G h sc m c ρ->Lies W G h sc (uv kindOf I m) (bindC kindOf I c) (bs.foldl (λρ b=>ρ.set b.1 b.2) ρ):=
 r.ind (motive:=λI bs=>(∀b∈bs,lI sc b.1=true)->∀(m c:aj->Option af) (ρ:aC),Lies W G h sc m c ρ->Lies W G h sc (uv kindOf I m) (bindC kindOf I c) (bs.foldl (λρ b=>ρ.set b.1 b.2) ρ))
  (λZ Z Z Z h=>h) λ{y v f g j} r Z S hb m c ρ A=>by
  refine aa (rC ..) ?_
  unfold uv bindC
  refine S (λb z=>hb b (bT _ z)) _ _ _ λx d e=>aC.tf e (λU P=>?_) λU e=>?_
  .subst U P
   exact(DC (hb _ a0)).imp (λt=>⟨t,v,by exact aa (a ..)<|aa (if_pos t ..)<|if_pos rfl,r⟩) λt=>⟨t,v,by exact aa (a ..)<|aa (if_neg (by rw [t];decide))<|if_pos rfl,r⟩
  .have l:¬au x=au y:=λq=>U (vX q)
   refine(A x d e).imp (fE (dX λH=>eH λb=>?_)) (fE (dX λH=>eH λb=>?_))
   .split
    .exact(if_neg l).trans b
    .exact b
   .split
    .exact b
    .exact(if_neg l).trans b
theorem gx.names{G h I bs}(r:gx W G h I bs):∀x∈I,∃b∈bs,x.1=au b.1:=
 r.ind (λZ h=>nomatch h) λ{x v d P j} Z Z S y t=>(List.mem_cons.mp t).elim (λe=>⟨(x,d),a0,by exact aa (e ..) rfl⟩) λt=>(S y t).imp λb=>eH (bT _)
theorem br.deeper{A J}(r:br (n+1) A):br n (A.deeper J):=⟨by have:=r.1;show A.depth+1+_<=_;lia,by have:=r.2.1;show A.units+3+_<=_;lia,r.2.2.1,r.2.2.2⟩
theorem br.in1{A}(r:br (n+1) A):br n A.in1:=⟨by have:=r.1;show A.depth+_<=_;lia,by have:=r.2.1;show A.units+1+_<=_;lia,r.2.2.1,r.2.2.2⟩
theorem gx.keep{G h G' h'}(K:cH W G h G' h'){I bs}(r:gx W G h I bs):gx W G' h' I bs:=r.ind .nil λr Z y=>.cons (r.keep K) y
theorem gK.keep{G h G' h'}(K:cH W G h G' h'){f o}(r:gK W G h f o):gK W G' h' f o:=by
 induction o with
 | ret d=>refine aw r.inv λv R r=>?_;obtain rfl:=R;exact Rep.keep K r
 | _=>obtain rfl:=r.inv;exact trivial
theorem Cells.to{G G':Gh}{h h':aN}{σ}(C:Cells W G h σ)(K:cH W G h G' h')(j:G'.g=G.g:=by rfl)(A:G'.d=G.d:=by rfl)(u:G'.c0=G.c0:=by rfl)(hk:∀b o,h.get? b=some o->h'.get? b=some o):Cells W G' h' σ:=
 ⟨λi c e=>have x:=C.at_ i c e;⟨λI=>by exact aa (u ..)<|x.1 I,x.2.imp λa y=>⟨by exact aa (j ..)<|y.1,by exact aa (A ..)<|y.2.keep K (λZ e=>hk _ _ e) λZ Z Z e=>hk _ _ e⟩⟩,λi l=>by exact aa (j ..)<|aa (A ..)<|aa (u ..)<|C.free i l⟩
theorem sC{G:Gh}{s:ai}{σ:MH}{fr ou:aq->Prop}(st:St W G s σ)(u:∀b,fr b->G.fr b)(E:∀b,ou b->fr b):St W {G with fr:=fr,ou:=ou} s σ/\cH W G s.heap {G with fr:=fr,ou:=ou} s.heap:=
 have K:cH W G s.heap {G with fr:=fr,ou:=ou} s.heap:=⟨λZ Z e=>e,λb o e f=>⟨⟨f.1,λx=>f.2.1 (u b x),f.2.2⟩,e⟩⟩
 have I:=st.inv
 ⟨⟨⟨I.keep,I.size,I.gens,I.os,λa x=>eP (I.cn a x) λc p m d=>⟨c,p,λy=>m (u a y),d⟩,λb x=>I.b0 b (u b x),I.gR,I.g7,I.gd,I.tab.keep K.bq λZ e=>e,I.eO,I.hJ,E⟩,st.cells.to K (hk:=λZ Z e=>e)⟩,K⟩
theorem kV{G:Gh}{s:ai}{σ:MH}{fr:aq->Prop}(st:St W G s σ)(u:∀b,fr b->G.fr b)(E:∀b,G.ou b->fr b):St W {G with fr:=fr} s σ/\cH W G s.heap {G with fr:=fr} s.heap:=sC st u E
theorem qy{G:Gh}{fy iL t:aN}{xl:Gh}{c ou j:aq->Prop}{jx M:aq->Prop}(h:∀b,M b->fy.objs.size<=b)(r:∀b o,fy.get? b=some o->iL.get? b=some o)
 (hsz:fy.objs.size<=iL.objs.size) (f:∀a,a<fy.objs.size->(c a/\ou a↔G.fr a/\G.ou a)) (E:j=G.ou) (S:Step W (λb=>jx b∨M b) {G with fr:=c,ou:=ou} iL xl t):Step W jx G fy {xl with fr:=G.fr,ou:=j} t where
 g:=S.g
 d:=S.d
 fr:=rfl
 c0:=S.c0
 new a x:=(S.new a x).imp id λy=>aE hsz y
 keep a o e ho hm ht hf:=S.keep a o (r a o e) ho (λi=>i.elim hm λi=>absurd (b9 e) (Nat.not_lt.mpr (h a i))) ht λx y=>have z:=(f a (b9 e)).mp ⟨x,y⟩;hf z.1 z.2
 size:=aE hsz S.size
 ou:=E
 ig a o e x y hm:=have z:=(f a (b9 e)).mpr ⟨x,y⟩;S.ig a o (r a o e) z.1 z.2 λi=>i.elim hm λi=>absurd (b9 e) (Nat.not_lt.mpr (h a i))
theorem ve{G:Gh}{ak b3 eZ:ai}{k:Gh}{ab:MH}{jx M:aq->Prop}(E:∀b,G.ou b->G.fr b)(h:∀b,M b->ak.heap.objs.size<=b)(r:∀b o,ak.heap.get? b=some o->b3.heap.get? b=some o)
 (hsz:ak.heap.objs.size<=b3.heap.objs.size) (S:Step W (λb=>jx b∨M b) {G with fr:=λb=>G.fr b∨M b} b3.heap k eZ.heap) (st:St W k eZ ab):
 Step W jx G ak.heap {k with fr:=G.fr} eZ.heap/\St W {k with fr:=G.fr} eZ ab/\cH W k eZ.heap {k with fr:=G.fr} eZ.heap:=
 ⟨qy h r hsz (λa l=>⟨λx=>⟨x.1.resolve_right λz=>absurd l (Nat.not_lt.mpr (h a z)),x.2⟩,eH .inl⟩) S.ou S,kV st (λb x=>by exact aa (S.fr ..)<| .inl x) λb x=>E b (by exact aa (.symm (S.ou ..))<|x)⟩
theorem jE{G:Gh}{ak b3:ai}{σ:MH}{M:aq->Prop}(st:St W G ak σ)(i:∀b,M b->ak.heap.objs.size<=b/\b<b3.heap.objs.size)(r:∀b o,ak.heap.get? b=some o->b3.heap.get? b=some o)
 (hsz:ak.heap.objs.size<=b3.heap.objs.size) (u:b3.gens=ak.gens) (L:b3.os=ak.os):
 St W {G with fr:=λb=>G.fr b∨M b} b3 σ/\cH W G ak.heap {G with fr:=λb=>G.fr b∨M b} b3.heap:=
 have uS:∀{b:aq},b<ak.heap.objs.size->¬M b:=λl h=>absurd l (Nat.not_lt.mpr (i _ h).1)
 have K:cH W G ak.heap {G with fr:=λb=>G.fr b∨M b} b3.heap:=⟨λZ Z e=>e,λb ob k f=>⟨⟨f.1,λa=>a.elim f.2.1 (uS (b9 k)),f.2.2⟩,r b ob k⟩⟩
 have I:Inv W G b3:=st.inv.gp (M:=bf) (λZ x=>x.elim) (λb o Z e=>r b o e) hsz u L
 ⟨⟨{I with
     cn:=λb x=>eP (st.inv.cn b x) λc p m d=>⟨c,a9 p hsz,λa=>a.elim m (uS p),d⟩
     b0:=λb x=>x.elim (I.b0 b) λx=>⟨aE st.inv.size (i b x).1,(i b x).2,λq=>absurd (a9 st.inv.eO st.inv.size) (Nat.not_lt.mpr (q▸(i b x).1))⟩
     tab:=st.inv.tab.keep K.bq λZ e=>r _ _ e
     b8:=λb x=>.inl (I.b8 b x)},st.cells.to K (hk:=r)⟩,K⟩
noncomputable def Gh.lP (G:Gh) (M:aq->Prop) (L:aq):Gh:={G with fr:=λb=>G.fr b∨M b,ou:=λb=>G.ou b∨b=L}
def Lg(W:Wd)(M:aq->Prop)(L:aq)(G:Gh)(s:ai)(r:Fl×aC×MH)(f:gw)(i:ai):Prop:=
 ∃k:Gh,∃c:aq->Prop,Step W M (G.lP M L) s.heap {k with fr:=λb=>G.fr b∨M b} i.heap/\
  St W {k with fr:=λb=>G.fr b∨c b} i r.2.2/\gK W {k with fr:=λb=>G.fr b∨c b} i.heap f r.1
def lh(W:Wd)(n:Nat)(F:gc)(O:List bZ)(m:MS):Prop:=
 ∀{A:aO} {J:bg} {M:aq->Prop} {G:Gh} {s:ai} {ρ:aC} {σ:MH} {r:Fl×aC×MH},br n A->St W (G.lP M J.locals) s σ->aT W A (G.lP M J.locals) s.heap (SI.fn F) J M ρ->(∀b,M b->¬G.fr b)->(∀b,G.ou b->G.fr b)->(∀x c,J.cells.lookup x=some c->M c)->m ρ σ=some r->
   ar W.M A (ja O J) (Lg W M J.locals G s r) aF s
theorem lh.of{fd body m}(E:dY W n (SI.fn fd) body m):lh W n fd body m:=λ{A J M G s ρ σ r} H st F Z Z Z e=>
 wpS (E H st F e) λf i k S g Z r=>by
  have I: {k with fr:=λb=>G.fr b∨M b}=k:=by exact aa (show(λb=>G.fr b∨M b)=k.fr from S.fr.symm) rfl
  exact⟨k,M,I.symm▸S,I.symm▸g,I.symm▸r⟩
structure BX(W:Wd)(a:aq)(fd:gc)(body:List bZ)(bind:gu):Prop where
 ok:W.Ok
 ha:∃o,W.K.lookup a=some o/\o.data=.func fd
 hb:fd.body=.stmts body
 Py:codeIn W.K fd.code fd.qualname=true
 Pz:fd.closure= []
 PN:fd.globals=kW
 Pw:fd.builtins=j4
 zy:∀x,(x,iw)∉fd.scope.names
 zx:fd.scope.isCoroutine=false
 zA:fd.scope.isGenerator=false
 hk:fd.scope.kind=.function
 zw:b6 W fd bind
 sh:∀ds bs,bind ds=some bs->∀b∈bs,lI fd.scope b.1=true
structure Ju(W:Wd)(A:aO)(fd:gc)(G:Gh)(ak:ai)(σ:MH)(bs:List (String×D))(env:bg)(M:aq->Prop)(b3:ai):Prop where
 st:St W (G.lP M env.locals) b3 σ
 F:aT W (A.deeper env) (G.lP M env.locals) b3.heap (SI.fn fd) env M (c_ bs)
 ge:∀b,M b->ak.heap.objs.size<=b
 cM:∀x c,env.cells.lookup x=some c->M c
 keep:∀b o,ak.heap.get? b=some o->b3.heap.get? b=some o
 size:ak.heap.objs.size<=b3.heap.objs.size
 lP:env.frame=some env.locals
theorem Nu{a:aq}{F:gc}{E:List bZ}{B:gu}(i:BX W a F E B){A G s σ vs ds bs}{R:hZ->ai->Prop}(rm:br (n+1) A)(st:St W G s σ)(rv:aQ W G s.heap vs ds)(fo:Fo A G s.heap)(e:B ds=some bs)
 (K:∀J M ak D,Step W bf G s.heap G ak.heap->St W G ak σ->Ju W A F G ak σ bs J M D->ar W.M (A.deeper J) (ja E J) (λf s'=>R (.ok (.ret (ES f))) s') aF D):
 eU W.M A (.call (.ref a) ⟨vs,[]⟩) R s:=by
 refine aw i.ha λo ha hd=>?_
 refine codeAny_call_function rm.depth (st.inv.keep _ _ (i.ok.gn _ _ ha)) hd i.zx i.zA i.hb (codeRec_of (i.ok.gn.keeps st.inv.keep) i.Py) ?_
 refine gW (i.zw (rm.in1.le (fW _)) st rv e) (λI ak kp=>bP kp λP w rb=>?_) λZ Z x=>x.elim
 refine aa (i.Pz ..) ?_
 have cs:∀x,F.scope.names.lookup x=some .cell->((iH (ak.heap.objs.size+1) F.scope.names []).lookup x).isSome=true:=λx h=>cellsFrom_some _ _ _ _ (.inl h)
 have uZ:∀x∈I,F.scope.names.lookup x.1=some .local∨(F.scope.names.lookup x.1=some .cell/\((iH (ak.heap.objs.size+1) F.scope.names []).lookup x.1).isSome=true):=λx U=>by
  refine aw (rb.names x U) λb z e'=>?_
  exact aa (e' ..)<|(DC (i.sh ds bs e b z)).imp id λh=>⟨h,cs _ h⟩
 refine wpAny_newFunctionEnv_cells i.hk uZ λJ Q D X=>?_
 refine ew X.toInCall.same λiL tk C=>?_
 have r:=X.toInCall.keep
 refine⟨(i.ok.nolimit.keeps w.inv.keep).keeps r,codeAny_func (gW (K J (λb=>b=J.locals∨∃x,J.cells.lookup x=some b) ak D P w ?_) (λZ Z x=>x) λZ Z x=>x.elim)⟩
 have qa:J.scope=F.scope:=by exact aa (Q ..) rfl
 have l:J.locals=ak.heap.objs.size:=by exact aa (Q ..) rfl
 have V:∀{x},F.scope.names.lookup x=some .cell->∃c,J.cells.lookup x=some c:=λ{x} h=>by exact aa (Q ..)<|Option.isSome_iff_exists.mp (cs x h)
 have PY:∀x,J.kindOf x=F.scope.names.lookup x:=λx=>by unfold tW;exact aa (qa ..) rfl
 have H:J.locals<D.heap.objs.size:=X.toInCall.ns.lt
 have hsz:ak.heap.objs.size<=D.heap.objs.size:=jy (l▸H)
 have j:∀b,(b=J.locals∨∃x,J.cells.lookup x=some b)->ak.heap.objs.size<=b:=λb hb=>hb.elim (λe=>bN (e▸l.symm)) λjk=>aL jk λx U=>jy (l▸X.above x b (mem_of_lookup U))
 refine aA (jE w (M:=λb=>b=J.locals∨∃x,J.cells.lookup x=some b) (λb hb=>⟨j b hb,hb.elim (λe=>e▸H) λ⟨x,U⟩=>(X.cell x b U).lt⟩) r hsz (by exact aa (C ..) rfl) (by exact aa (C ..) rfl)) λN S=>?_
 have N:=(sC (ou:=λb=>G.ou b∨b=J.locals) N (λZ x=>x) λb x=>x.elim (λx=>.inl (st.inv.b8 b x)) λx=>.inr (.inl x)).1
 have S:cH W G ak.heap (G.lP (λb=>b=J.locals∨∃x,J.cells.lookup x=some b) J.locals) D.heap:=⟨S.g,S.bq⟩
 refine aw (fo.step P λZ Z Z x=>x) λfs zz zP=>?_
 have u:J.frame=some J.locals:=by exact aa (Q ..) rfl
 have t:(A.deeper J).frames=some (J::fs):=I0 zz
 have T:=DD PY (rb.keep S) (i.sh ds bs e) (λZ=>none) (λZ=>none) (λZ=>none) (λx d e=>aY e)
 exact⟨N,{
  sc:=qa
  fn:=i.hk
  gl:=by exact aa (Q ..)<|i.PN
  bl:=by exact aa (Q ..)<|i.Pw
  dg:=λb z=>.inr z
  jf:=.inl rfl
  ns:=⟨_,X.toInCall.ns,λx d U m=>(T x d U).elim And.right λh=>absurd (h.1.symm.trans m) (by decide)⟩
  cells:=λk c O=>⟨λU=>absurd (w.inv.cn c U).2.1 (Nat.not_lt.mpr (j c (.inr ⟨k,O⟩))),λq=>absurd (a9 w.inv.eO w.inv.size) (Nat.not_lt.mpr (q▸j c (.inr ⟨k,O⟩))),⟨_,X.cell k c O⟩⟩
  apart:=X.apart
  cell:=λx d U m=>(T x d U).elim (λh=>by have h0:(SI.fn F).kind x=some .local:=h.1;rw [h0] at m;exact m.elim (λq=>nomatch q) λq=>nomatch q)
   λs_=>aA s_ λh0 Ur=>aw Ur λv h1 h2=>aL (V h0) λc O=>⟨c,v,O,h1▸X.cell _ c O,h2⟩
  kN:=λx m Z=>(V m).imp λc O=>⟨O,.inr ⟨_,O⟩⟩
  has:=λx m=>m.elim V λh0=>absurd (mem_of_lookup h0) (i.zy _)
  fz:=λZ h=>nomatch h
  here:=λp hp=>by obtain rfl:=aM hp;exact⟨by exact aa (Q ..) rfl,by exact aa (Q ..) rfl,u,fs,t⟩
  fo:=⟨_,t,λe Y=>(List.mem_cons.mp Y).elim (λq=>by exact aa (q ..)<|⟨by refine aa (qa ..)<|aa (i.hk ..) ?_;decide,_,u,.inr (.inl rfl),.inr rfl,.inl rfl⟩) λY=>
   aA (zP e Y) λk1 Us=>dG Us λL k2 k3 k4 Ut=>aw Ut λo k5 k6=>
   ⟨k1,L,k2,.inl k3,.inl k4,.inr ⟨λy=>absurd (b9 k5) (Nat.not_lt.mpr (j L y)),o,r _ _ k5,k6⟩⟩⟩},j,λx c O=>.inr ⟨x,O⟩,r,hsz,u⟩
theorem gK.val{G h f o d}(r:gK W G h f o)(e:o.val?=some d):Rep W G h (ES f) d:=by
 induction o with
 | next=>obtain rfl:=r.inv;obtain rfl:=aM e;exact .none
 | ret=>refine aw r.inv λv j r=>?_;obtain rfl:=j;obtain rfl:=aM e;exact r
 | _=>exact aY e
theorem ba.Ti{a:aq}{i:gc}{O:List bZ}{B:gu}{m:MS}(h:BX W a i O B)(E:lh W n i O m):ba W (n+1) a (bO B m):=λ{A G s σ v j r} H st q fo e=>
 ob e λbs g e=>ob e λp T e=>ob e λd u e=>sj e (Nu h H st q fo g λJ M ak D P w X=>
  bD (E H.deeper X.st X.F (λb x y=>absurd (w.inv.b0 b y).2.1 (Nat.not_lt.mpr (X.ge b x))) st.inv.b8 X.cM T) λf I N=>eQ N λk c o K C=>
   have L:=sC (fr:=G.fr) (ou:=G.ou) K (λb x=>.inl x) st.inv.b8
   have V:∀{b},M b->b<ak.heap.objs.size->False:=λy l=>absurd l (Nat.not_lt.mpr (X.ge _ y))
   ⟨_,rfl,{k with fr:=G.fr,ou:=G.ou},P.trans (qy (jx:=bf) (M:=M) (xl:={k with fr:=λb=>G.fr b∨M b}) X.ge X.keep X.size
     (λa l=>⟨λQ=>aA Q λx y=>⟨x.resolve_right λz=>V z l,y.resolve_right λz=>V (z▸X.F.jf) l⟩,λt=>aA t λx y=>⟨.inl x,.inl y⟩⟩) rfl (o.weaken λZ x=>.inr x)),L.1,(C.keep L.2).val u⟩)
theorem ba.QI{a:aq}{o:bu}{F:gc}{O:List bZ}{B:gu}{m:MS}(l:W.Ok)(i:W.K.lookup a=some o)(P:o.data=.func F)(hb:F.body=.stmts O)
 (H:codeIn W.K F.code F.qualname=true) (h:F.closure= []) (I:F.globals=kW) (f:F.builtins=j4)
 (u:∀x,(x,iw)∉F.scope.names) (c:F.scope.isCoroutine=false) (e:F.scope.isGenerator=false) (C:F.scope.kind=.function)
 (d:b6 W F B) (g:∀j bs,B j=some bs->∀b∈bs,lI F.scope b.1=true) (E:lh W n F O m):ba W (n+1) a (bO B m):=
 ba.Ti ⟨l,⟨o,i,P⟩,hb,H,h,I,f,u,c,e,C,d,g⟩ E
end
end
section
section
variable {W:Wd} {n:Nat}
def rp(W:Wd)(G:Gh)(h:aN)(G':Gh)(h':aN):Prop:=∀a o,h.get? a=some o->bJ W G a->bJ W G' a/\h'.get? a=some o
theorem band{a b:Bool}(h:(a && b)=true):a=true/\b=true:=jo _ _▸h
theorem Rep.u_{G h G' h'}(S:rp W G h G' h'){v d}(r:Rep W G h v d):∀k,noRef k d=true->Rep W G' h' v d:=by
 have R:∀{P:Prop} {d:D} (k:Nat),noRef k d=true->(∀j,noRef (j+1) d=true->P)->P:=λk e f=>match k,e with
  | 0,e=>nomatch e
  | k+1,e=>f k e
 exact Rep.rec (motive_1:=λv d Z=>∀k,noRef k d=true->Rep W G' h' v d) (motive_2:=λm g Z=>∀k,g.all (noRef k)=true->aQ W G' h' m g) (motive_3:=λm g Z=>∀k,(g.all λp=>noRef k p.2)=true->bC W G' h' m g) (motive_4:=λm g Z=>∀k,(g.all λp=>noRef k p.2)=true->fu W G' h' m g)
  (λZ Z=>.none) (λb Z Z=>.bool b) (λi t Z Z=>.int i t) (λs t a b Z Z=>.str s t a b)
  (λz f e c E V Z r k H=>R k H λj H=>.list z (S _ _ e f).1 (S _ _ e f).2 c E V (r j H)) (λz f e c E V Z r k H=>R k H λj H=>.tup z (S _ _ e f).1 (S _ _ e f).2 c E V (r j H))
  (λz f ns e Z r k H=>R k H λj H=>.dict z (uI S f e).1 ns (uI S f e).2 (r j H)) (λe k H=>R k H λj H=>nomatch H) (λn Z Z=>.typ n)
  (λf e c E V l Z x I r k H=>R k H λj H=>.lam (S _ _ e f).1 (S _ _ e f).2 c E V l (r j H) (uF S x I).1 (uF S x I).2)
  (λZ Z=>.nil) (λZ Z r y k H=>.cons (r k (band H).1) (y k (band H).2)) (λZ Z=>.nil) (λa b Z Z r y k H=>.cons a b (r k (band H).1) (y k (band H).2))
  (λZ Z=>.nil) (λf e d Z Z r y k H=>.cons (S _ _ e f).1 (S _ _ e f).2 d (r k (band H).1) (y k (band H).2)) r
theorem E2{G h G' h'}{f:D->Option D}(H:∀{v d E},Rep W G h v d->f d=some E->Rep W G' h' v E){P j c}(r:aQ W G h P j):uT f j=some c->aQ W G' h' P c/\c.length=j.length:=
 r.ind (motive:=λP j=>∀c,uT f j=some c->aQ W G' h' P c/\c.length=j.length) (λZ e=>sj e ⟨.nil,rfl⟩)
  (λr Z S Z e=>ob e λx U e=>ob e λxs l e=>sj e ⟨.cons (H r U) (S _ l).1,congrArg (· +1) (S _ l).2⟩) c
theorem E3{G h G' h'}{f:D->Option D}(H:∀{v d E},Rep W G h v d->f d=some E->Rep W G' h' v E){P j c}(r:bC W G h P j):sd f j=some c->bC W G' h' P c/\c.length=j.length:=
 r.ind (motive:=λP j=>∀c,sd f j=some c->bC W G' h' P c/\c.length=j.length) (λZ e=>sj e ⟨.nil,rfl⟩)
  (λm g r Z S Z e=>ob e λx U e=>ob e λxs l e=>sj e ⟨.cons m g (H r U) (S _ l).1,congrArg (· +1) (S _ l).2⟩) c
theorem O6{G G':Gh}{h:aN}{σ:MH}(C:Cells W G' h σ)(S:rp W G' h G h)(own:∀a o,G'.own a->h.get? a=some o->bJ W G a)(k:Nat):
 ∀{v d E},Rep W G' h v d->bq σ k d=some E->Rep W G h v E:=by
 induction k with
 | zero=>exact λZ e=>aY e
 | succ k H=>
  intro v d E r e
  have e:(match d.fP with| some i=>(σ.cell i).bind λc=>aI (bq σ k) c| none=>if noRef (k+1) d=true then some d else none)=some E:=e
  induction w:d.fP with
  | some i=>
   rw [w] at e
   refine ob e λc O e=>r.HC (motive:=λv Z=>Rep W G h v E) w λa u=>?_
   refine aA (C.at_ _ _ O) λl f=>?_;refine aw f λb hb x=>?_
   obtain rfl:=aM (u.symm.trans hb)
   induction c with
   | list xs=>
    refine aA x λz N=>?_;refine jU N λo P m L c dd V y=>?_
    exact ob e λI t e=>sj e (.list (by exact aa ((E2 H y t).2 ..)<|z) (own _ _ ⟨i,l rfl,.inl u⟩ L) L c dd.1 V (E2 H y t).1)
   | dict R=>
    refine bP x λz ns Q=>?_;refine aw Q λT hD y=>?_
    exact ob e λI t e=>sj e (.dict (by exact aa ((E3 H y t).2 ..)<|z) (pj hD λZ Z Z g Z=>own _ _ ⟨i,l rfl,.inl u⟩ g) ns hD (E3 H y t).1)
   | _=>exact aY e
  | none=>rw [w] at e;exact og e λj e=>sj e (r.u_ S _ j)
theorem aQ.u_{G h G' h'}(S:rp W G h G' h'){P j}(r:aQ W G h P j)(k:Nat):j.all (noRef k)=true->aQ W G' h' P j:=r.ind (motive:=λP j=>j.all (noRef k)=true->aQ W G' h' P j) (λZ=>.nil) λa Z b e=>.cons (a.u_ S k (band e).1) (b (band e).2)
noncomputable def Gh.oP (G:Gh):Gh:={g:=λZ=>none,d:=λZ=>none,fr:=λb=>G.fr b∨G.own b,c0:=λZ=>True,ou:=λb=>G.ou b/\G.fr b}
theorem zB{G:Gh}:∀b,¬G.oP.own b:=λZ B=>aw B λZ Z x=>x.elim aY aY
theorem Fn{G:Gh}{h:aN}:rp W G h G.oP h:=λb Z e f=>⟨⟨zB b,λx=>x.elim f.2.1 f.1,f.2.2⟩,e⟩
section
variable {G:Gh} {s:ai} {σ:MH} (st:St W G s σ)
include st
theorem PQ:St W G.oP s MH.nil:=
 ⟨⟨st.inv.keep,st.inv.size,st.inv.gens,st.inv.os,λb x=>(zB b x).elim,λb x=>x.elim (st.inv.b0 b) λx=>(st.inv.cn b x).imp id (nJ id And.right),λZ Z Z Z Z=>aY,λZ Z Z Z Z=>aY,λZ Z Z Z Z=>aY,
    st.inv.tab.keep Fn λZ e=>e,st.inv.eO,st.inv.hJ,λZ x=>.inl x.2⟩,⟨λZ Z=>aY,λZ Z=>⟨rfl,rfl,trivial⟩⟩⟩
theorem PO{G':Gh}{l:ai}{ab:MH}(S:Step W bf G.oP s.heap G' l.heap)(g:St W G' l ab){v d E}(r:Rep W G' l.heap v d)(e:bq ab 5 d=some E):Out W G s σ E v l:=by
 have u:∀b,¬G'.fr b->¬G.fr b/\¬G.own b:=λb x=>by rw [S.fr] at x;exact⟨λy=>x (.inl y),λy=>x (.inr y)⟩
 have k:∀b o,s.heap.get? b=some o->b≠W.tab->(G.fr b->¬G.ou b)->l.heap.get? b=some o:=λb o e T I=>S.keep b o e (zB b) (λx=>x) T λZ y=>I y.2 y.1
 have h:∀b,G.own b->b≠W.tab/\(G.fr b->¬G.ou b):=λb x=>⟨(st.inv.cn b x).2.2.2,λy=>absurd y (st.inv.cn b x).2.2.1⟩
 have kn:rp W G' l.heap G l.heap:=λb o e f=>⟨⟨(u b f.2.1).2,(u b f.2.1).1,f.2.2⟩,e⟩
 have C:Step W bf G s.heap G l.heap:=⟨λZ Z e=>e,λZ Z e=>e,rfl,λZ x=>x,λZ x=>.inl x,λb o e Z Z T=>k b o e T,S.size,rfl,λb o e x y z=>S.ig b o e (.inl x) ⟨y,x⟩ z⟩
 exact⟨G,C,⟨⟨λb o e=>g.inv.keep b o e,g.inv.size,g.inv.gens,g.inv.os,λb x=>(st.inv.cn b x).imp id (eH λy=>a9 y S.size),λb x=>(st.inv.b0 b x).imp id (eH λy=>a9 y S.size),st.inv.gR,st.inv.g7,st.inv.gd,g.inv.tab.keep kn λZ e=>e,g.inv.eO,g.inv.hJ,st.inv.b8⟩,
  ⟨λi c j=>have x:=st.cells.at_ i c j;⟨x.1,x.2.imp λa y=>⟨y.1,y.2.oZ (C.ea λZ x=>x.elim) (λI o e=>k _ _ e (h _ ⟨i,x.1 I,.inl y.1⟩).1 (h _ ⟨i,x.1 I,.inl y.1⟩).2) λI B o hb e=>k _ _ e (h _ ⟨i,x.1 I,.inr hb⟩).1 (h _ ⟨i,x.1 I,.inr hb⟩).2⟩⟩,st.cells.free⟩⟩,
  O6 g.cells kn (λb o x e=>have y:=u b (g.inv.cn b x).2.2.1;⟨y.2,y.1,(g.inv.cn b x).2.2.2⟩) 5 r e⟩
end
theorem Fo.oP{A:aO}{G:Gh}{h:aN}(F:Fo A G h):Fo A G.oP h:=
 aw F λfs e k=>
 ⟨fs,e,λx U=>aA (k x U) λm t=>dG t λL g P V D=>⟨m,L,g,.inl P,⟨V,P⟩,D⟩⟩
theorem ba.hide{a F}(k:ba W n a F):ba W n a (fO F):=λ{A G s σ P j r} H st L fo e=>
 ob e λd V e=>og V λb V=>ob V λp V Q=>sj e (g6 (k H (PQ st) (L.u_ Fn 6 b) fo.oP V) λx i o=>o.imp λv=>fE λ⟨G',S,g,l⟩=>PO st S g l Q)
theorem ba.le{a F m}(k:ba W n a F)(h:n<=m):ba W m a F:=λH=>k (H.le h)
end
end
section
section
variable {W:Wd} {n:Nat} {si:SI}
def fF(W:Wd)(n:Nat)(si:SI)(u:List ay)(g:MA):Prop:=
 ∀{A J M G s ρ σ r} {R:bc} {t:List af->ai->Prop},br n A->St W G s σ->aT W A G s.heap si J M ρ->g ρ σ=some r->
   (∀{j ak P},Step W bf G s.heap j ak.heap->St W j ak r.2->aT W A j ak.heap si J M ρ->aQ W j ak.heap P r.1->t P ak)->
   ar W.M A (wx (fZ R (bB u J))) t aF s
theorem fF.of{u I}(h:dN W n si u I):fF W n si u (aG I):=h
@[elab_as_elim] theorem yl{G s σ v d xs}{motive:af->Prop}(st:St W G s σ)(r:Rep W G s.heap v d)(h:gP σ d=some xs)
   (k:∀{a o P m T},s.heap.get? a=some o->o.cls=.type T->(T= "list" ∨T= "tuple")->o.data=.seq P m->aQ W G s.heap P.toList xs->xs.length<=aP->motive (.ref a)):motive v:=by
  delta gP at h
  split at h
  .rename_i U
   obtain rfl:=aM h
   exact r.jm (motive:=λv _=>motive v) U λz f e c dd V y=>k e c (.inr rfl) V y z
  .exact oh st r h λe c _ V y z=>k e c (.inl rfl) V y z
theorem Ms{A G s σ v d xs}{t:List af->ai->Prop}(st:St W G s σ)(r:Rep W G s.heap v d)(h:gP σ d=some xs)
 (K:∀{ak P},Step W bf G s.heap G ak.heap->St W G ak σ->aQ W G ak.heap P xs->t P ak):StarOf W.M A aF v t s:=
 yl st r h λ{a o P m T} e c p V y z=>by
  have b:s.TypeIs (.ref a) T:=⟨o,e,c⟩
  have f:ar W.M A (yZ (.ref a)) t aF s:=by
   refine iT (WJ a p e c V (λh' C J=>?_) (size_le y z))
   refine aA (st.grow (s':={s with heap:=h'}) C J) λg S=>?_
   exact K S g (y.go S)
  delta StarOf GZ
  rcases p with rfl| rfl
  .exact ah (qP b PySem.F.slot_list_iter.lookup (aD ⟨rfl,f⟩))
  .exact ah (qP b PySem.F.slot_tuple_iter.lookup (aD ⟨rfl,f⟩))
theorem fF.Vq{e t p m d}(D:Ev W n si e m)(w:Ev W n si t d)(U:∀J,bB [e,.Starred t p] J= [(false,aU e J),(true,aU t J)]):fF W n si [e,.Starred t p] (r7 m d):=λ{Z _ _ _ _ _ _ _ _ _} H st F h K=>
 ob h λp V h=>ob h λq Q h=>ob h λI E h=>by
  obtain rfl:=aM h
  exact l8 (bR D H st F V λS g O r=>items_star (bR w H g O Q λc N i b=>Ms N b E λo a y=>
   qM (by exact aa (hW ..)<|K ((S.trans c).trans o) a (i.go N.inv o) (.cons ((r.go c).go o) y)))) (U _)
theorem oI{A:aO}{J:bg}{u:List ay}{s:ai}(d:∀J,(bB u J).head?.any (·.1)=false){R:bc}{f:af}{t:Args->ai->Prop}(F:ar W.M A (wx (fZ R (bB u J))) (λP i=>t ⟨P,[]⟩ i) aF s):ar W.M A (p7 f true (fZ R (bB u J)) []) t aF s:=by
 have g:(fZ R (bB u J)).head?.any (·.1)=false:=by
  have:=d J
  delta fZ
  induction y:bB u J with
  | nil=>rfl
  | cons x r=>rw [y] at this;exact this
 generalize fZ R (bB u J)=l at g F
 induction l with
 | nil=>
  delta p7
  show ar W.M A (wx []>>=_) _ _ s
  exact ah (bD F λP i h'=>ah (aD (bz (ah (aD (ah (aD (aD h'))))))))
 | cons x r=>
  obtain⟨b,x⟩:=x
  obtain rfl:b=false:=g
  exact evalArgs_plain F
theorem zh{u g}(h:fF W n si u g)(d:∀J,(bB u J).head?.any (·.1)=false){A J M G s ρ σ r}{R:bc}{f:af}{t:Args->ai->Prop}(H:br n A)(st:St W G s σ)(F:aT W A G s.heap si J M ρ)(e:g ρ σ=some r)
 (K:∀{j ak P},Step W bf G s.heap j ak.heap->St W j ak r.2->aT W A j ak.heap si J M ρ->aQ W j ak.heap P r.1->t ⟨P,[]⟩ ak):
 ar W.M A (p7 f true (fZ R (bB u J)) []) t aF s:=oI d (h H st F e K)
theorem Np{A s}{a:aq}{o:bu}{F:gc}{R:bc}{first:List af}{args:List (Bool×bY af)}{Q:af->ai->Prop}(l:W.Ok)(L:W.K.lookup a=some o)(P:o.data=.func F)
 (h:ar W.M A (p7 (.ref a) true args []) (λx ak=>(∃G σ,St W G ak σ)/\ar W.M A (bM (.ref a) (first++x.pos) x.kw) Q aF ak) aF s):
 ar W.M A (i5 R (.ref a) first args []) Q aF s:=
 Nq (bD h λZ Z=>eH λB=>ew B λZ Z st=>⟨st.inv.keep _ _ (l.gn _ _ L),P⟩)
theorem p5{A G s σ vs ds r}{a:aq}{F:FM}(k:ba W n a F)(H:br n A)(st:St W G s σ)(L:aQ W G s.heap vs ds)(fo:Fo A G s.heap)(e:F ds σ=some r):
 ar W.M A (bM (.ref a) vs []) (Out W G s r.2 r.1) aF s:=
 jT (g6 (k H st L fo e) λx i R=>aw R λv m h=>by subst m;exact h)
theorem jB(id:aj)(p:bc)(args:List ay)(R:bc)(J:bg):aU (.Call (.Name id p) args [] R) J=(do
 i5 R (← aU (.Name id p) J) [] (fZ R (bB args J)) []):=rfl
def QL(W:Wd)(a:aq):Prop:=∃o F,W.K.lookup a=some o/\o.data=.func F
theorem Ev.Nk{x p u R g a F}(l:W.Ok)(C:si.kind x=some .globalImplicit)(hb:(au x==("__debug__" :aj))=false)(b:W.mg (au x)=some (.ref a))(I:QL W a)(k:ba W n a F)
 (h:fF W n si u g) (d:∀J,(bB u J).head?.any (·.1)=false):Ev W n si (.Call (.Name (au x) p) u [] R) (.a8 F g):=λH st Fr e=>
 ob e λp V e=>fc I λo c L P=>by
  exact aa (jB ..)<|wpAny_bind (g8 l st Fr C hb (.inl b) (Np l L P (zh h d H st Fr V λS Z O y=>⟨⟨_,_,Z⟩,gG S (p5 k H Z y O.ku e)⟩)))
end
end
section
section
variable {W:Wd} {n:Nat} {si:SI}
def JT(kn:Prop)(b:gw->Prop):gw->Prop
 | .next=>kn
 | .cont=>kn
 | .brk=>b .next
 | .ret v=>b (.ret v)
theorem Gg{G h f}{q r:Fl×aC×MH}{a:aC->MH->Option (Fl×aC×MH)}{c:Prop}(g:gw->Prop)(x:gK W G h f q.1)(e:vz q a=some r)
 (kn:a q.2.1 q.2.2=some r->c) (b:∀D,r.2=q.2->gK W G h D r.1->g D):JT c g f:=by
 obtain⟨o,q⟩:=q
 induction o with
 | next=>obtain rfl:=x.inv;exact kn e
 | cont=>obtain rfl:=x.inv;exact kn e
 | brk=>obtain rfl:=x.inv;obtain rfl:=aM e;exact b .next rfl trivial
 | ret d=>refine aw x.inv λv B x=>?_;obtain rfl:=B;obtain rfl:=aM e;exact b (.ret v) rfl x
def La(W:Wd)(tg:ay)(it:af)(own:aq->Prop)(G:Gh)(σ:MH)(I:Gh->aN->Nat->Prop)(j:Nat)(x:Option D)(r:Option af)(i:ai):Prop:=
 match x,r with
 | none,none=>True
 | some d,some v=>∀{A},ar W.M A (zV tg it v) (λZ V=>Step W own G i.heap G V.heap/\St W G V σ/\I G V.heap (j+1)/\Rep W G V.heap v d) aF i
 | _,_=>False
def Lj(W:Wd)(tg:ay)(it:af)(own:aq->Prop)(G:Gh)(s:ai)(σ:MH)(I:Gh->aN->Nat->Prop)(j:Nat)(x:Option D)(r:Option af)(i:ai):Prop:=
 Step W own G s.heap G i.heap/\St W G i σ/\La W tg it own G σ I j x r i
structure hV(W:Wd)(tg:ay)(it:af)(I:Gh->aN->Nat->Prop)(own:aq->Prop)(at_:dR):Prop where
 next:∀{A G s σ j x},br 0 A->St W G s σ->(∀a,own a->G.fr a)->I G s.heap j->at_ σ j=some x->
  ar W.M A (f7 it) (Lj W tg it own G s σ I j x) aF s
 self:∀{A G s j} {Q:af->ai->Prop},I G s.heap j->Q it s->ar W.M A (ik it) Q aF s
 shift:∀{G h G' h' j},I G h j->cH W G h G' h'->(∀a o,own a->h.get? a=some o->h'.get? a=some o)->I G' h' j
theorem hV.keep{tg:ay}{it:af}{I:Gh->aN->Nat->Prop}{own:aq->Prop}{at_:dR}(l:hV W tg it I own at_){M:aq->Prop}{G:Gh}{s:ai}{σ:MH}{G':Gh}{h':aN}{j:Nat}(st:St W G s σ)(n:I G s.heap j)
 (S:Step W M G s.heap G' h') (i:∀a,M a->G.fr a) (P:∀a,M a->¬own a) (L:∀a,own a->G.fr a/\¬G.ou a):I G' h' j:=
 l.shift n (S.ea i) λa o x e=>S.keep a o e (st.inv.dJ a (L a x).1).1 (λy=>P a y x) (st.inv.dJ a (L a x).1).2 λZ=>(L a x).2
def nV(W:Wd)(tg:ay)(j:Gh)(ak:ai)(V:dR)(it:af)(D:ai):Prop:=
 ∃(own:aq->Prop) (I:Gh->aN->Nat->Prop),hV W tg it I own V/\(∀a,own a->ak.heap.objs.size<=a/\a<D.heap.objs.size)/\(∀b o,ak.heap.get? b=some o->D.heap.get? b=some o)/\
   ak.heap.objs.size<=D.heap.objs.size/\D.gens=ak.gens/\D.os=ak.os/\(cH W j ak.heap {j with fr:=λa=>j.fr a∨own a} D.heap->I {j with fr:=λa=>j.fr a∨own a} D.heap 0)
def CN(W:Wd)(tg:ay)(G:Gh)(s:ai)(ab:MH)(V:dR)(it:af)(D:ai):Prop:=∃j q,Step W bf G s.heap j q.heap/\St W j q ab/\nV W tg j q V it D
def du(W:Wd)(n:Nat)(si:SI)(tg e:ay)(d:MI):Prop:=
 ∀{A J M G s ρ σ r},br n A->St W G s σ->aT W A G s.heap si J M ρ->d ρ σ=some r->
   ar W.M A (aU e J) (λx ak=>ar W.M A (ik x) (CN W tg G s r.2.2 r.1) aF ak) aF s
theorem itR{tg:ay}{A:aO}{G j:Gh}{s q ak:ai}{ab:MH}{V:dR}{x:af}(S:Step W bf G s.heap j q.heap)(st:St W j q ab)(h:ar W.M A (ik x) (nV W tg j q V) aF ak):
 ar W.M A (ik x) (CN W tg G s ab V) aF ak:=bD h λZ Z m=>⟨j,q,S,st,m⟩
theorem aT.to{A:aO}{G G':Gh}{h h' J M ρ}(F:aT W A G h si J M ρ)(K:cH W G h G' h')(L:∀a,G'.own a->G.own a)(z:∀a,M a->G'.fr a)(f:∀a,G.fr a->G.ou a->G'.fr a/\G'.ou a)(hk:∀b o,h.get? b=some o->h'.get? b=some o)(I:∀c,c<h.objs.size->G'.fr c->G.fr c)(T:∀a,G.fr a->¬G.own a/\a≠W.tab):aT W A G' h' si J M ρ:=
 F.move z f (λZ Z r=>r.keep K) (λa o e n Z Z=>⟨⟨o.slots,hk a o e⟩,λx=>n (L a x),λn x=>n (I a (b9 e) x)⟩) T
theorem aT.own{A:aO}{G h J M ρ own h'}(F:aT W A G h si J M ρ)(S:Step W own G h G h')(U:∀a,own a->G.fr a/\¬G.ou a)(T:∀a,G.fr a->¬G.own a/\a≠W.tab)(P:∀a,M a->¬own a)
 (O:∀k c,J.cells.lookup k=some c->¬own c):aT W A G h' si J M ρ:=
 F.move F.dg (λZ x y=>⟨x,y⟩) (λZ Z r=>r.step S λa x=>(U a x).1)
  (λa o e n t x=>⟨S.dat e n (x.elim (λq=>q▸P _ F.jf) λx=>x.elim (λy z=>(U a z).2 y) λR=>aL R λk q=>O k a q) t,n,λn=>n⟩) T
theorem aF.any{α:Type}{A:aO}{s:ai}{t:bY α}{Q:α->ai->Prop}{E:af->ai->Prop}(h:ar W.M A t Q aF s):ar W.M A t Q E s:=gW h (λZ Z x=>x) λZ Z x=>x.elim
structure CB(W:Wd)(A:aO)(si:SI)(env:bg)(M own:aq->Prop)(I:Gh->aN->Nat->Prop)(P:Gh->ai->Prop)(j:Nat)(ρ:aC)(σ:MH)(G:Gh)(s:ai):Prop where
 st:St W G s σ
 F:aT W A G s.heap si env M ρ
 P:P G s
 I:I G s.heap j
 own:∀a,own a->G.fr a/\¬G.ou a
structure Ja(W:Wd)(A:aO)(si:SI)(env:bg)(M own:aq->Prop)(P:Gh->ai->Prop)(G:Gh)(s:ai)(r:Fl×aC×MH)(f:gw)(s':ai)(G':Gh)(M':aq->Prop):Prop where
 S:Step W M' G s.heap G' s'.heap
 Mf:∀a,M' a->G.fr a/\¬own a
 P:P G' s'
 st:St W G' s' r.2.2
 F:aT W A G' s'.heap si env M r.2.1
 r:gK W G' s'.heap f r.1
structure K1(W:Wd)(n:Nat)(si:SI)(env:bg)(A:aO)(tg:ay)(it:af)(I:Gh->aN->Nat->Prop)(M own:aq->Prop)(at_:dR)(P:Gh->ai->Prop):Prop where
 ok:hV W tg it I own at_
 rm:br n A
 Mo:∀a,M a->¬own a
 co:∀k c,env.cells.lookup k=some c->¬own c
 hP:∀{G s σ G' s'},P G s->St W G s σ->Step W (λa=>M a∨own a) G s.heap G' s'.heap->P G' s'
theorem RK{tg:ay}{it:af}{I:Gh->aN->Nat->Prop}{own M:aq->Prop}{V:dR}{P:Gh->ai->Prop}{J:bg}{A:aO}{mt:MT}{mb:MS}{O:List bZ}{Q:gw->ai->Prop}{r:Fl×aC×MH}{f:Nat}{ρ σ G s}
 (C:K1 W n si J A tg it I M own V P) (ht:Et W n si tg mt)
 (hb:∀{G s ρ σ r},St W G s σ->aT W A G s.heap si J M ρ->P G s->(∀a,own a->G.fr a)->mb ρ σ=some r->ar W.M A (ja O J) (λf i=>∃G' M',Ja W A si J M own P G s r f i G' M') aF s)
 (fin:∀{G' i} D,P G' i->St W G' i r.2.2->aT W A G' i.heap si J M r.2.1->gK W G' i.heap D r.1->Q D i)
 (h:mQ V mt mb f 0 ρ σ=some r) (L:CB W A si J M own I P 0 ρ σ G s):eU W.M A (.forLoop tg it O [] J) (λr i=>∃D,r=.ok D/\Q D i) s:=by
 refine codeAny_forLoop_any (λk i=>∃j N aW G',mQ V mt mb k j N aW=some r/\CB W A si J M own I P j N aW G' i) ?_ f ⟨0,ρ,σ,_,h,L⟩
 rintro k i ⟨j,N,aW,G',l,L⟩
 induction k with
 | zero=>exact aY l
 | succ k=>
  refine ob l λx zv l=>aF.any (bD (C.ok.next (C.rm.le (fW _)) L.st (λa x=>(L.own a x).1) L.I zv) λy eZ jj=>bP jj λo K nr=>?_)
  have g:=L.F.own o L.own L.st.inv.dJ C.Mo C.co
  have T:=C.hP L.P L.st (o.weaken λZ x=>.inr x)
  induction x with
  | none=>
   induction y with
   | none=>obtain rfl:=aM l;exact wK ⟨_,rfl,fin .next T K g trivial⟩
   | some v=>exact nr.elim
  | some d=>
   induction y with
   | none=>exact nr.elim
   | some v=>
    refine ob l λp et l=>ob l λq em l=>aF.any (bD nr λZ kr kp=>eP kp λu t b AZ=>?_)
    have w:=g.own u L.own K.inv.dJ C.Mo C.co
    refine aF.any (kA (ht C.rm t w AZ et) λks H m R E=>?_)
    have c:∀a,own a->H.fr a/\¬H.ou a:=λa x=>by exact aa (m.fr ..)<|aa (m.ou ..)<|L.own a x
    have X:=C.hP (C.hP T K (u.weaken λZ x=>.inr x)) t (m.weaken λZ x=>.inl x)
    have z:=C.ok.keep t b m w.dg C.Mo L.own
    exact aF.any (bD (hb R E X (λa x=>(c a x).1) em) λX_ tw jk=>ew jk λU M' B=>Gg (λD=>∃Y,(Jv D:hZ)=.ok Y/\Q Y tw) B.r l
     (λl=>⟨k,cw _,j+1,q.2.1,q.2.2,U,l,B.st,B.F,B.P,C.ok.keep R z B.S (λa x=>(B.Mf a x).1) (λa x=>(B.Mf a x).2) c,λa x=>by exact aa (B.S.fr ..)<|aa (B.S.ou ..)<|c a x⟩)
     λD e x=>⟨D,rfl,fin D B.P (by exact aa (e ..)<|B.st) (by exact aa (e ..)<|B.F) x⟩)
structure K2(W:Wd)(A:aO)(si:SI)(env:bg)(M own:aq->Prop)(fq:Gh)(ak:ai)(ρ:aC)(σ:MH)(b3:ai):Prop where
 st:St W {fq with fr:=λa=>fq.fr a∨own a} b3 σ
 F:aT W A {fq with fr:=λa=>fq.fr a∨own a} b3.heap si env M ρ
 Mo:∀a,M a->¬own a
 co:∀k c,env.cells.lookup k=some c->¬own c
 ge:∀a,own a->ak.heap.objs.size<=a
 keep:∀b o,ak.heap.get? b=some o->b3.heap.get? b=some o
 size:ak.heap.objs.size<=b3.heap.objs.size
 K:cH W fq ak.heap {fq with fr:=λa=>fq.fr a∨own a} b3.heap
 no:∀a,own a->¬fq.ou a
theorem Gi{A:aO}{tg:ay}{j:Gh}{ak D:ai}{V:dR}{it:af}{J M ρ σ}{P:Prop}(m:nV W tg j ak V it D)(w:St W j ak σ)(E:aT W A j ak.heap si J M ρ)
 (K:∀own I,hV W tg it I own V->I {j with fr:=λa=>j.fr a∨own a} D.heap 0->K2 W A si J M own j ak ρ σ D->P):P:=by
 refine BC m λown I l G r hsz u L n=>?_
 refine aA (jE w G r hsz u L) λN S=>?_
 exact K own I l (n S) ⟨N,E.to S (λZ x=>x) (λa x=>.inl (E.dg a x)) (λZ x y=>⟨.inl x,y⟩) r (λc O y=>y.elim id λy=>absurd O (Nat.not_lt.mpr (G c y).1)) w.inv.dJ,
  λa x y=>absurd (w.inv.b0 a (E.dg a x)).2.1 (Nat.not_lt.mpr (G a y).1),λk c C y=>bP (E.cells k c C) λZ Z Q=>aL Q λv i=>absurd i.lt (Nat.not_lt.mpr (G c y).1),λb x=>(G b x).1,r,hsz,S,λa x y=>absurd (w.inv.b0 a (w.inv.b8 a y)).2.1 (Nat.not_lt.mpr (G a x).1)⟩
theorem Ex.cD{t q body R mi mt mb}(K:du W n si t q mi)(T:Et W n si t mt)(hb:dY W n si body mb)(B:∀J x,ib q J x=pure x):
 Ex W n si (.For t q body [] R) (.cD mi mt mb):=λ{A J M G s ρ σ r} H st F h=>
 ob h λp V h=>wpAny_For (bD (K H st F V) λx Z k=>bD k λit D d=>eQ d λj ak b w m=>Gi m w (F.go st.inv b) λown I l E L=>
  g6 (RK (P:=λG' i=>Step W (λa=>M a∨own a) {j with fr:=λa=>j.fr a∨own a} D.heap G' i.heap) (Q:=hY W A si J M G s r)
   ⟨l,H,L.Mo,L.co,λx Z S=>x.trans S⟩ T (λ{G s ρ σ r} st F S Z e=>wpS (hb H st F e) λf i G' C g O u=>⟨G',M,C,λa x=>⟨F.dg a x,L.Mo a x⟩,S.trans (C.weaken λZ x=>.inl x),g,O,u⟩)
   (λ{G' i} z C g O u=>
     have x:=ve (jx:=M) (M:=own) w.inv.b8 L.ge L.keep L.size C g
     ⟨_,b.any.trans x.1,x.2.1,O.to x.2.2 (λZ x=>x) (λa x=>(F.go st.inv b).dg a x) (λa Z y=>⟨w.inv.b8 a (by exact aa (.symm (C.ou ..))<|y),y⟩) (λZ Z e=>e) (λc Z y=>by exact aa (C.fr ..)<| .inl y) g.inv.dJ,u.keep x.2.2⟩)
   h ⟨L.st,L.F,.refl,E,λa x=>⟨.inr x,L.no a x⟩⟩) λr i v=>aw v λz e o=>by subst e;exact o) (B J)
end
end
section
noncomputable def Hh:List String:=["enumerate","zip","dict_itemiterator","dict_reverseitemiterator","odict_iterator","itertools.zip_longest","itertools.pairwise"]
theorem Rm{M:lB}{A:aO}{E:af->ai->Prop}{s:ai}{f:ay}{I:aq}{v:af}{o:bu}{T:String}{Q:Unit->ai->Prop}(L:s.heap.get? I=some o)(O:o.cls=.type T)(p:Hh.contains T=false)(h:Q () s):
 ar M A (zV f (.ref I) v) Q E s:=by
 have F:∀a:aq,ar M A (do
  let o ← load I
  match o.cls,o.data with
  | .type n,.fields P=>
   if ["enumerate","zip","dict_itemiterator","dict_reverseitemiterator","odict_iterator","itertools.zip_longest","itertools.pairwise"].contains n && P[0]?==some (gE a) then
    rule "for.unpacks-the-owned-tuple"
    updateField I 0 .none
  | _,_=>pure ():bY Unit) Q E s:=λa=>by
  refine ah (nG L ?_)
  refine aa (O ..) ?_
  generalize o.data=V
  induction V with
  | fields P=>
   have:(["enumerate","zip","dict_itemiterator","dict_reverseitemiterator","odict_iterator","itertools.zip_longest","itertools.pairwise"].contains T)=false:=p
   show ar M A (if (["enumerate","zip","dict_itemiterator","dict_reverseitemiterator","odict_iterator","itertools.zip_longest","itertools.pairwise"].contains T && P[0]?==some (gE a))=true then _ else pure ()) Q E s
   exact aa (this ..)<|aa (Bool.false_and ..)<|wpAny_pure h
  | _=>exact aD h
 induction v with
 | ref a=>cases f<;>first| exact F a| exact aD h
 | _=>cases f<;>exact aD h
section
variable {W:Wd} {n:Nat} {si:SI} {tg:ay}
theorem vZ{G:Gh}{s:ai}{σ}{I:aq}{h':aN}{tk}(st:St W G s σ)(n:G.fr I)(B:ly I s.heap h')(J:s.heap.objs.size<=h'.objs.size):
 Step W (λa=>a=I) G s.heap G h'/\St W G {s with heap:=h',toks:=tk} σ:=
 (st.gp (s':={s with heap:=h',toks:=tk}) (M:=λa=>a=I) (λa e=>e▸n) (λb o nm e=>B b o nm e) J rfl rfl).symm
def Ll(h:aN)(I:aq):Prop:=∃o T,h.get? I=some o/\o.cls=.type T/\Hh.contains T=false
def Turn(W:Wd)(I:aq)(P:Gh->aN->Nat->Prop)(V:dR):Prop:=
 ∀{A G s σ j x} {Q:Option af->ai->Prop},br 0 A->St W G s σ->G.fr I->P G s.heap j->V σ j=some x->
   (x=none->∀h' f,ly I s.heap h'->s.heap.objs.size<=h'.objs.size->Q none {s with heap:=h',toks:=f})->
   (∀d v h' f,x=some d->ly I s.heap h'->s.heap.objs.size<=h'.objs.size->Ll h' I->(Step W (λa=>a=I) G s.heap G h'->P G h' (j+1))->(Step W (λa=>a=I) G s.heap G h'->Rep W G h' v d)->Q (some v) {s with heap:=h',toks:=f})->
   ar W.M A (f7 (.ref I)) Q aF s
theorem hV.turn{I:aq}{P:Gh->aN->Nat->Prop}{V:dR}(T:Turn W I P V)(B:∀{A G s j} {Q:af->ai->Prop},P G s.heap j->Q (.ref I) s->ar W.M A (ik (.ref I)) Q aF s)
 (Z:∀{G h G' h' j},P G h j->cH W G h G' h'->(∀o,h.get? I=some o->h'.get? I=some o)->P G' h' j):hV W tg (.ref I) P (λa=>a=I) V where
 next:=λ{A G s σ j x} H st U w O=>T H st (U _ rfl) w O
  (λe h' f D J=>have x:=vZ (tk:=f) st (U _ rfl) D J;⟨x.1,x.2,by subst e;exact trivial⟩)
  λd v h' f e D J u g r=>eQ u λo T b c i=>have x:=vZ (tk:=f) st (U _ rfl) D J;⟨x.1,x.2,by subst e;exact Rm b c i ⟨.refl,x.2,g x.1,r x.1⟩⟩
 self:=B
 shift:=λw K L=>Z w K λo=>L I o rfl
theorem QY(I l:aq)(d:D)(P:d.kx=none):hV W tg (.ref I) (λG h j=>h.IsListIter I l j/\Rep W G h (.ref l) d) (λa=>a=I) (fj d):=
 .turn (λ{A G s σ j x Q} H st n p O M g=>aA p λw m=>ob O λxs U O=>by
  unfold gP at U
  rw [P] at U
  obtain rfl:=aM O
  have f:=m
  generalize N:eB l=v at m
  revert N
  refine fL st m U λ{a u} hl i z=>?_
  intro N
  obtain rfl:=jA N
  induction F:xs[j]? with
  | none=>exact iT (WT H.2.2.2 w hl (by exact aa (.symm (jV ..))<|List.getElem?_eq_none (by exact aa (i.length ..)<|List.getElem?_eq_none_iff.mp F)) λh' k J=>M F h' _ k J)
  | some y=>
   refine aw (i.get F) λv N r=>?_
   exact WU w hl (by exact aa (.symm (jV ..))<|N) λh' t B=>g y v h' _ F B.extBut (bN B.1.symm) (bI t λo b c Z=>⟨o,_,b,c,by decide⟩) (λS=>⟨t,f.step S λa e=>e▸n⟩) λS=>r.step S λa e=>e▸n)
  (λh q=>wpAny_pyIter_listiter h.1 q) λh K L=>⟨aw h.1 λo b r=>⟨o,L _ b,r⟩,h.2.keep K⟩
theorem iter_tuple(I l:aq)(xs:List D):hV W tg (.ref I) (λG h j=>h.IsTupleIter I l j/\Rep W G h (.ref l) (.tup xs)) (λa=>a=I) (fj (.tup xs)):=
 .turn (λ{A G s σ j x Q} H st n i O M d=>aA i λw m=>by
  obtain rfl:xs[j]?=x:=aM O
  refine qS m.inv λa o P N z f e c dd V g=>?_
  obtain rfl:=jA N
  have hl:s.heap.IsTuple l P:=⟨o,e,c,0,V⟩
  induction F:xs[j]? with
  | none=>exact iT (wpAny_pyNext_tuple_end H.2.2.2 w hl (by exact aa (.symm (jV ..))<|List.getElem?_eq_none (by exact aa (g.length ..)<|List.getElem?_eq_none_iff.mp F)) λh' p J=>M F h' _ p J)
  | some y=>
   refine aw (g.get F) λv N r=>?_
   exact wpAny_pyNext_tuple_item w hl (by exact aa (.symm (jV ..))<|N) λh' t B=>d y v h' _ F B.extBut (bN B.1.symm) (bI t λo b k Z=>⟨o,_,b,k,by decide⟩) (λS=>⟨t,m.step S λa e=>e▸n⟩) λS=>r.step S λa e=>e▸n)
  (λh q=>wpAny_pyIter_tupleiter h.1 q) λh K L=>⟨aw h.1 λo b r=>⟨o,L _ b,r⟩,h.2.keep K⟩
inductive AtPlace (W:Wd) (G:Gh) (h:aN):Option (aj×af)->Option (aj×D)->Prop
 | none:AtPlace W G h none none
 | some {k v d}:fJ k=true->k.length<=aP->Rep W G h v d->AtPlace W G h (some (k,v)) (some (k,d))
theorem bC.get{G h T ei}(r:bC W G h T ei):∀(i:Nat),AtPlace W G h T[i]? ei[i]?:=
 r.ind (λi=>.none) λm g r Z S i=>match i with| 0=>.some m g r| i+1=>S i
theorem gA{G h G' h' l T y}(S:∀a o,h.get? a=some o->bJ W G a->bJ W G' a/\h'.get? a=some o)(f:bJ W G l)(e:ri (strKind W.prog W.w) h l T y):bJ W G' l/\ri (strKind W.prog W.w) h' l T y:=by
 refine fc (id e) λZ Z t Z=>?_
 exact⟨(S _ _ t f).1,e.at' λZ t=>(S _ _ t f).2⟩
theorem FO(I l:aq)(R:List (aj×D))(T:List (aj×af))(y:Nat):
 hV W tg (.ref I) (λG h j=>h.IsKeyIter I l j T.length y/\ri (strKind W.prog W.w) h l T y/\bC W G h T R/\bJ W G l) (λa=>a=I) (keysAt R):=
 .turn (λ{A G s σ j x Q} H st n N O M d=>eP N λv hD L z=>by
  obtain rfl:=aM O
  have C:=L.get j
  generalize U:T[j]?=p at C
  generalize E:R[j]?=q at C
  rw [E] at M d
  induction C with
  | none=>exact iT (WQ H.2.2.2 v hD U λh' X J=>M rfl h' _ X J)
  | some m g r=>
   refine WS v hD U λF h' u t V=>?_
   refine aL (LS u) λf B=>?_;obtain rfl:=B
   have i:∀a,(λa=>a=I) a->G.fr a:=λa e=>e▸n
   exact d _ _ h' _ rfl V.extBut (bN V.1.symm) (bI t λo b c Z=>⟨o,_,b,c,by decide⟩) (λS=>have K:=S.ea i;⟨t,(gA K.bq z hD).2,L.keep K,(gA K.bq z hD).1⟩) λS=>.str _ _ m g)
  (λh q=>wpAny_pyIter_keyiter h.1 q) λP k Y=>eP P λv hD L z=>⟨aw v λo b r=>⟨o,Y _ b,r⟩,(gA k.bq z hD).2,L.keep k,(gA k.bq z hD).1⟩
theorem qr{A:aO}{G:Gh}{s:ai}{o:bu}{I:Gh->aN->Nat->Prop}{V:dR}{t:bY af}(m:o.isFreed=false)
 (T:∀{Q:af->ai->Prop},Q (.ref s.heap.objs.size) {s with heap:=s.heap.push o}->ar W.M A t Q aF s) (l:hV W tg (.ref s.heap.objs.size) I (λa=>a=s.heap.objs.size) V)
 (n:∀{G'},cH W G s.heap G' (s.heap.push o)->(s.heap.push o).get? s.heap.objs.size=some o->I G' (s.heap.push o) 0):ar W.M A t (nV W tg G s V) aF s:=
 have J:(s.heap.push o).objs.size=s.heap.objs.size+1:=c9 ..
 T ⟨_,I,l,λa e=>⟨bN e.symm,by exact aa (e ..)<|Nat.lt_of_lt_of_eq (cw _) J.symm⟩,λb C e=>bH _ e,aE (dD _) (bN J.symm),rfl,rfl,
  λK=>n K (c5 _ m)⟩
theorem UG{A G s σ v d xs}(st:St W G s σ)(r:Rep W G s.heap v d)(h:gP σ d=some xs):ar W.M A (ik v) (nV W tg G s (fj d)) aF s:=by
 unfold gP at h
 split at h
 .rename_i I b
  obtain rfl:=D.IF b
  refine qS r.inv λa o P R z f e c dd V y=>?_;obtain rfl:=R
  exact qr (W:=W) rfl (λq=>wpAny_pyIter_tuple ⟨o,e,c,0,V⟩ q) (iter_tuple _ a I) (λK t=>⟨⟨_,t,rfl,rfl⟩,r.keep K⟩)
 .rename_i b
  have F:∀v,Rep W G s.heap v d->(∃a P,v=.ref a/\s.heap.IsList a P):=λv r=>fL (motive:=λv=>∃a P,v=.ref a/\s.heap.IsList a P) st r h λhl _ _=>⟨_,_,rfl,hl⟩
  refine fc (F v r) λa P j hl=>?_;obtain rfl:=j
  exact qr (W:=W) rfl (λq=>tH hl q) (QY _ a d b) (λK t=>⟨⟨_,t,rfl,rfl⟩,r.keep K⟩)
theorem du.of{e m}(b:Ev W n si e m):du W n si tg e (.of m):=λH st F h=>
 ob h λp V h=>bR b H st F V λ{j ak v} S g _ r=>by
  split at h
  .rename_i R P
   refine sj h (itR S g ?_)
   obtain rfl':=D.Ee P
   rw [rfl'] at r
   refine tJ r.inv λa T C z f ns e L=>?_;obtain rfl:=C
   refine aL e.dictAt λy hD=>?_
   exact qr (W:=W) rfl (λq=>IQ (o6 ns) hD q) (FO _ a R T y) (λK t=>⟨⟨_,t,rfl,rfl⟩,(gA K.bq f hD).2,L.keep K,(gA K.bq f hD).1⟩)
  .exact ob h λxs U h=>sj h (itR S g (UG g r U))
end
end
section
section
variable {W:Wd} {n:Nat} {si:SI} {tg:ay}
noncomputable def isVal:af->Bool| .ref _=>false| _=>true
theorem j7{A:aO}{E:af->ai->Prop}{s:ai}{M:lB}{R:bc}{f:af}{first:List af}{args:List (Bool×bY af)}{Q:af->ai->Prop}(I:isVal f=true)(b:args.any (·.1)=false)
 (h:ar M A (p7 f true args []) (λa ak=>ar M A (bM f (first++a.pos) a.kw) Q E ak) E s):ar M A (i5 R f first args []) Q E s:=by
 unfold i5
 refine ah (bz (bD h λa ak k=>ah (cQ ?_)))
 have C:FT f=pure .machine:=by induction f<;>first| rfl| exact nomatch I
 exact aa (b ..)<|aa (List.any_nil ..)<|aa (Bool.or_false ..)<|aa (C ..)<|wpAny_bind (aD (ah (bD k λr D m=>ah (bz (wpAny_point (aD m))))))
theorem kH{pos:bc}{l:List (Bool×bY af)}(h:l.any (·.1)=false):(fZ pos l).any (·.1)=false:=by
 unfold fZ;exact aa (List.any_map ..)<|h
theorem PC{l:List (Bool×bY af)}(h:l.any (·.1)=false):l.head?.any (·.1)=false:=by
 induction l with
 | nil=>rfl
 | cons x r=>exact(Bool.or_eq_false_iff.mp h).1
structure iv(W:Wd)(si:SI)(x:String)(f:af):Prop where
 hk:si.kind x=some .globalImplicit
 hb:(au x==("__debug__" :aj))=false
 hg:W.mg (au x)=none
 hm:W.mb (au x)=some f
theorem rU{A J M G s ρ σ r}{x:String}{p R:bc}{u:List ay}{g:MA}{f:af}{Q:af->ai->Prop}(l:W.Ok)(B:iv W si x f)(I:isVal f=true)(h:fF W n si u g)(d:∀J,(bB u J).any (·.1)=false)
 (H:br n A) (st:St W G s σ) (F:aT W A G s.heap si J M ρ) (e:g ρ σ=some r) (K:∀{j ak P},Step W bf G s.heap j ak.heap->St W j ak r.2->aQ W j ak.heap P r.1->ar W.M A (bM f P []) Q aF ak):
 ar W.M A (aU (.Call (.Name (au x) p) u [] R) J) Q aF s:=by
 exact aa (jB ..)<|wpAny_bind (g8 l st F B.hk B.hb (.inr ⟨B.hg,B.hm⟩) (j7 I (kH (d _)) (zh h (λJ=>PC (d J)) H st F e λS a Z y=>K S a y)))
theorem UA(a c:Int)(k j:Nat):(gU a c k)[j]?=if j<k then some (.int (a+(j:Int)*c)) else none:=by
 unfold gU
 refine aa (gg ..) ?_
 by_cases h:j<k
 .exact aa (List.getElem?_range h ..)<|aa (if_pos h ..) rfl
 .exact aa (mn (by rw [hX];lia))<|aa (if_neg h ..) rfl
theorem QZ(I:aq)(a c:Int)(k:Nat):hV W tg (.ref I) (λZ h j=>IsRangeIter h I (a+(j:Int)*c) ((k:Int) - j) c) (λb=>b=I) (ie (gU a c k)):=
 .turn (λ{A G s σ j x Q} H st n w O M d=>by
  obtain rfl:=aM O
  rw [UA] at M d
  by_cases F:j<k
  .rw [if_pos F] at d
   refine wpAny_pyNext_range_item w (by lia) λh' t B=>d _ _ h' _ rfl B.extBut (bN B.1.symm) ⟨_,_,t,rfl,by decide⟩ (λZ=>?_) λZ=>.int _ _
   have V:a+(j:Int)*c+c=a+((j+1:Nat):Int)*c:=by refine aa (Int.natCast_add ..)<|aa (Int.add_mul ..)<|aa (Int.add_assoc ..) ?_;congr 2;exact(Int.one_mul c).symm
   have e:(k:Int) - j - 1=(k:Int) - ((j+1:Nat):Int):=by lia
   rw [V,e] at t
   exact t
  .rw [if_neg F] at M
   exact iT (wpAny_pyNext_range_end H.2.2.2 w (by lia) λh' D J=>M rfl h' _ D J))
  (λw q=>wpAny_pyIter_rangeiter w q) λw Z L=>L _ w
theorem Hz(k:Int):pq 0 k 1=(k.toNat:Int):=by
 unfold pq
 refine aa (if_pos (by decide)) ?_
 split
 .refine aa (J8 ..) ?_;lia
 .lia
theorem Hy(k:Int)(h:0<=k):pq k 0 (-1)=(k.toNat:Int):=by
 unfold pq
 refine aa (if_neg (by decide)) ?_
 split
 .refine aa (show -(-1:Int)=1 from rfl)<|aa (J8 ..) ?_;lia
 .lia
theorem H7{a b c:Int}{k:Nat}(B:pq a b c=(k:Int))(K: -(10 ^ 9)<=a/\a<=10 ^ 9)(hb: -(10 ^ 9)<=b/\b<=10 ^ 9)(O: -(10 ^ 9)<=c/\c<=10 ^ 9)(C:k<=aP):BR a b c=true:=by
 have J:aP=1000000:=rfl
 have d:∀{x:Int},-(10 ^ 10)<=x->x<=10 ^ 10->Jk x=true:=λN E=>by
  unfold Jk;refine aa (jo ..)<|aa (decide_eq_true_eq ..)<|aa (decide_eq_true_eq ..) ?_;lia
 unfold BR
 rw [B,d (x:=a) (by lia) (by lia),d (x:=b) (by lia) (by lia),d (x:=c) (by lia) (by lia),d (x:=(k:Int)) (by lia) (by lia),wY,wY,wY,wY,nK]
 refine .inr ?_
 split<;>exact d (by lia) (by lia)
theorem HB{A:aO}{G s r a b c t u v}{k:Nat}(m:IsRange s.heap r a b c t u v)(B:pq a b c=(k:Int))(d:BR a b c=true):
 ar W.M A (ik (.ref r)) (nV W tg G s (ie (gU a c k))) aF s:=by
 refine qr (W:=W) (o:={cls:=.type "range_iterator",data:=.fields #[gE a,gE (pq a b c),gE c]}) rfl (λq=>wpAny_pyIter_range m d q) (QZ _ a c k) (λZ e=>?_)
 show(s.heap.push _).get? _=_
 exact aa (e ..)<|aa (B ..)<|aa (Int.natCast_zero ..)<|aa (Int.zero_mul ..)<|aa (Int.add_zero ..)<|aa (Int.sub_zero ..) rfl
theorem du.gT{e p R m}(l:W.Ok)(C:si.kind "range" =some .globalImplicit)(u:W.mg (au "range")=none)(z:W.mb (au "range")=some (.type "range"))(D:Ev W n si e m)
 (U:∀J,bB [e] J= [(false,aU e J)]):du W n si tg (.Call (.Name (au "range") p) [e] [] R) (.gT m):=λ{A J M G s ρ σ r} H st F h=>
 ob h λq V h=>ob h λk E h=>ob h λa K h=>og K λc K=>by
  obtain rfl:=aM K
  obtain rfl:=aM h
  have Z:dN W n si [e] [m]:=dN.cons D dN.nil (by intro J;exact aa (U ..) rfl)
  refine rU l ⟨C,by decide,u,z⟩ rfl (fF.of Z) (by intro J;exact aa (U ..) rfl) (r:=([q.1],q.2)) H st F (by unfold aG;exact aa (V ..) rfl) λ{j ak P} S g y=>?_
  refine y.d6 λr Q=>Q.iN ?_
  refine r.gB E λt=>?_
  have b:aP=1000000:=rfl
  exact call_range_1 (itR (S.trans (.push _)) (g.push _).tok (HB (Ke ..) (Hz k) (H7 (Hz k) (by lia) (by lia) (by lia) (by lia))))
theorem du.pd{e p O T c N v R m}(l:W.Ok)(C:si.kind "range" =some .globalImplicit)(u:W.mg (au "range")=none)(z:W.mb (au "range")=some (.type "range"))(D:Ev W n si e m)
 (U:∀J,bB [e,.Constant (.int 0) N O,.UnaryOp .USub (.Constant (.int 1) v T) c] J= [(false,aU e J),(false,aU (.Constant (.int 0) N O) J),(false,aU (.UnaryOp .USub (.Constant (.int 1) v T) c) J)]):
 du W n si tg (.Call (.Name (au "range") p) [e,.Constant (.int 0) N O,.UnaryOp .USub (.Constant (.int 1) v T) c] [] R) (.pd m):=λ{A J M G s ρ σ r} H st F h=>
 ob h λq V h=>ob h λk E h=>ob h λa K h=>og K λf K=>by
  obtain rfl:=aM K
  obtain rfl:=aM h
  have i:dN W n si [e,.Constant (.int 0) N O,.UnaryOp .USub (.Constant (.int 1) v T) c] [m,.int 0,.ax (gD An) (.int 1)]:=
   dN.cons D (dN.cons Ev.int (dN.cons (Ev.neg Ev.int) dN.nil (by intro J;rfl)) (by intro J;rfl)) (by intro J;exact aa (U ..) rfl)
  refine rU l ⟨C,by decide,u,z⟩ rfl (fF.of i) (by intro J;exact aa (U ..) rfl) (r:=([q.1,.int 0,.int (-1)],q.2)) H st F (by unfold aG;exact aa (V ..) rfl) λ{j ak P} S g y=>?_
  refine y.d6 λr Q=>Q.d6 λw Q=>Q.d6 λo Q=>Q.iN ?_
  refine r.gB E λt=>?_
  refine aL w.inv λZ B=>?_;obtain rfl:=B
  refine aL o.inv λZ d=>?_;obtain rfl:=d
  have b:aP=1000000:=rfl
  exact call_range_3 (by decide) (itR (S.trans (.push _)) (g.push _) (HB (Ke ..) (Hy k f.1) (H7 (Hy k f.1) (by lia) (by lia) (by lia) (by lia)))) (.inl (Lu (by decide)))
end
end
section
theorem qK{α:Type}{f:Nat->α}{i:Nat}{a:α}:upd f i a i=a:=if_pos rfl
theorem ec{α:Type}{f:Nat->Option α}{i j:Nat}{a:Option α}{b:α}{P:Prop}(e:upd f i a j=some b)(m:j=i->a=some b->P)(g:j≠i->f j=some b->P):P:=by
 unfold upd at e
 by_cases h:j=i
 .rw [if_pos h] at e;exact m h e
 .rw [if_neg h] at e;exact g h e
theorem k_{α:Type}{f:Nat->α}{i j:Nat}{a:α}(h:j≠i):upd f i a j=f j:=if_neg h
section
variable {W:Wd} {n:Nat} {si:SI}
structure rg(W:Wd)(G:Gh)(s:ai)(ab:MH)(c:Cell)(a:aq)(fq:Gh)(s':ai):Prop where
 ge:s.heap.objs.size<=a
 fr:fq.fr=λb=>G.fr b∨b=a
 S:Step W bf G s.heap {fq with fr:=G.fr} s'.heap
 st:St W fq s' ab
 cr:cg W fq s'.heap a none c
 nf:¬G.fr a
 no:∀b,fq.ou b->G.fr b
def dy(W:Wd)(G:Gh)(s:ai)(r:Cell×MH)(v:af)(s':ai):Prop:=∃j a,v=.ref a/\rg W G s r.2 r.1 a j s'
def bG(W:Wd)(n:Nat)(si:SI)(e:ay)(m:MF):Prop:=
 ∀{A J M G s ρ σ r},br n A->St W G s σ->aT W A G s.heap si J M ρ->m ρ σ=some r->ar W.M A (aU e J) (dy W G s r) aF s
theorem dy.trans{G s j ak r v s'}(S:Step W bf G s.heap j ak.heap)(h:dy W j ak r v s'):dy W G s r v s':=
 h.imp λG'=>dX λa=>fE λx=>⟨aE S.size x.ge,by exact aa (x.fr ..)<|aa (S.fr ..) rfl,by exact aa (.symm (S.fr ..))<|S.trans x.S,x.st,x.cr,by exact aa (.symm (S.fr ..))<|x.nf,by exact aa (.symm (S.fr ..))<|x.no⟩
theorem rg.zm{G s σ c a j i}(x:rg W G s σ c a j i):j.fr a:=by exact aa (x.fr ..)<| .inr rfl
theorem rg.old{G s σ c a j s'}(x:rg W G s σ c a j s'):∀b,G.fr b->j.fr b:=λb y=>by exact aa (x.fr ..)<| .inl y
theorem cg.lT{G h a c G' h'}(x:cg W G h a none c)(S:cH W G h G' h')(f:∀o,h.get? a=some o->h'.get? a=some o):cg W G' h' a none c:=x.keep S f λZ Z e=>aY e
theorem cg.rep{G h a c d}(r:cg W G h a none c)(f:bJ W G a)(e:uA c=some d):Rep W G h (.ref a) d:=by
 induction c with
 | list xs=>obtain rfl:=aM e;refine aA r λz i=>?_;refine jU i λo P m e p w U r4=>?_;exact .list z f e p w.1 U r4
 | dict R=>obtain rfl:=aM e;refine bP r λz ns N=>?_;refine aw N λT e r=>?_;exact .dict z f ns e r
 | _=>exact aY e
theorem dy.bq{G s r d v s'}(h:dy W G s r v s')(e:uA r.1=some d):Out W G s r.2 d v s':=by
 refine fc h λG' a B x=>?_;obtain rfl:=B
 have y:=kV (fr:=G.fr) x.st x.old x.no
 exact⟨_,x.S,y.1,(x.cr.lT y.2 (λZ e=>e)).rep ⟨λz=>(x.st.inv.cn a z).2.2.1 x.zm,x.nf,(x.st.inv.b0 a x.zm).2.2⟩ e⟩
noncomputable def Gh.add (G:Gh) (c:aq->Prop) (i:Nat) (a:aq):Gh:={G with fr:=c,g:=upd G.g i (some a)}
theorem St.alloc{G:Gh}{s:ai}{σ:MH}{fr:aq->Prop}{a:aq}{c:Cell}(st:St W G s σ)(h:∀b,fr b->G.fr b)(u:G.fr a)(n:¬fr a)(E:∀b,G.ou b->fr b)(I:cg W G s.heap a none c):
 St W (G.add fr σ.next a) s (σ.new c)/\cH W G s.heap (G.add fr σ.next a) s.heap:=by
 refine bP (st.cells.free σ.next (bb _)) λr v C=>?_
 have T:¬G.own a:=λx=>(st.inv.cn a x).2.2.1 u
 have own:∀b,(G.add fr σ.next a).own b->G.own b∨b=a:=λb B=>aw B λi l x=>
  x.elim (λx=>ec x (λZ e=>.inr (aM e).symm) λZ e=>.inl ⟨i,l,.inl e⟩) λx=>.inl ⟨i,l,.inr x⟩
 have k:∀{i b},G.g i=some b->(G.add fr σ.next a).g i=some b:=λ{i b} e=>(k_ (λq=>aY (r.symm.trans (q▸e)))).trans e
 have K:cH W G s.heap (G.add fr σ.next a) s.heap:=⟨λi b e=>k e,λb o e f=>⟨⟨λx=>(own b x).elim f.1 λy=>f.2.1 (y▸u),λx=>f.2.1 (h b x),f.2.2⟩,e⟩⟩
 refine⟨⟨⟨st.inv.keep,st.inv.size,st.inv.gens,st.inv.os,λb x=>?_,λb x=>st.inv.b0 b (h b x),λi j b w F e t=>?_,st.inv.g7,λi j b w F e t=>?_,st.inv.tab.keep K.bq λZ e=>e,st.inv.eO,st.inv.hJ,E⟩,⟨λi p e=>?_,λi w=>?_⟩⟩,K⟩
 .exact(own b x).elim (λy=>(st.inv.cn b y).imp id (nJ id (nJ (λm z=>m (h b z)) id))) λq=>by subst q;exact(st.inv.b0 _ u).imp id (nJ id λm=>⟨n,m⟩)
 .exact ec e (λq e=>ec t (λQ Z=>q.trans Q.symm) λZ t=>absurd ⟨j,F,.inl (t.trans e.symm)⟩ T) λZ e=>ec t (λZ t=>absurd ⟨i,w,.inl (e.trans t.symm)⟩ T) λZ t=>st.inv.gR i j b w F e t
 .exact ec e (λZ e=>T ⟨j,F,.inr (t.trans e.symm)⟩) λZ e=>st.inv.gd i j b w F e t
 .refine ec e (λq V=>?_) λZ e=>have x:=st.cells.at_ i p e;⟨x.1,x.2.imp λb y=>⟨k y.1,y.2.keep K (λZ e=>e) (λZ Z Z e=>e)⟩⟩
  subst q
  obtain rfl:=aM V
  exact⟨λZ=>C,a,qK,by exact aa (show(G.add fr σ.next a).d σ.next=none from v)<|I.lT K (λZ e=>e)⟩
 .have w:σ.next+1<=i:=w
  refine bP (st.cells.free i (lC w)) λN D A=>?_
  exact⟨(k_ (dc w)).trans N,D,A⟩
theorem dy.new{G s r v s'}(h:dy W G s r v s'):Out W G s (r.2.new r.1) (.ref r.2.next) v s':=by
 refine fc h λG' a R x=>?_;obtain rfl:=R
 have y:=x.st.alloc (fr:=G.fr) x.old x.zm x.nf x.no x.cr
 exact⟨G'.add G.fr r.2.next a,⟨λi b e=>y.2.g _ _ (x.S.g _ _ e),x.S.d,rfl,x.S.c0,λb C=>aw C λi l z=>z.elim (λz=>ec z (λZ e=>.inr (aM e▸x.ge)) λZ e=>x.S.new b ⟨i,l,.inl e⟩) λz=>x.S.new b ⟨i,l,.inr z⟩,x.S.keep,x.S.size,x.S.ou,x.S.ig⟩,y.1,.ref qK⟩
theorem Ev.d9{e m}(D:bG W n si e m):Ev W n si e (.d9 m):=λH st F h=>ob h λp V h=>sj h (bD (D H st F V) λZ Z x=>x.new)
theorem Ev.aI{e m}(D:bG W n si e m):Ev W n si e (.aI m):=λH st F h=>ob h λp V h=>ob h λd P h=>sj h (bD (D H st F V) λZ Z x=>x.bq P)
theorem dy.push{G:Gh}{s:ai}{σ:MH}{c:Cell}{o:bu}{tk}(st:St W G s σ)(m:o.isFreed=false)
 (O:∀G',cH W G s.heap G' (s.heap.push o)->(s.heap.push o).get? s.heap.objs.size=some o->cg W G' (s.heap.push o) s.heap.objs.size none c):
 dy W G s (c,σ) (.ref s.heap.objs.size) {s with heap:=s.heap.push o,toks:=tk}:=
 have J:(s.heap.push o).objs.size=s.heap.objs.size+1:=c9 ..
 have x:=jE (b3:={s with heap:=s.heap.push o,toks:=tk}) (M:=λb=>b=s.heap.objs.size) st (λb e=>⟨bN e.symm,by exact aa (e ..)<|Nat.lt_of_lt_of_eq (cw _) J.symm⟩)
  (λb ob e=>bH _ e) (aE (dD _) (bN J.symm)) rfl rfl
 ⟨{G with fr:=λb=>G.fr b∨b=s.heap.objs.size},_,rfl,bb _,rfl,Step.push o,x.1,O _ x.2 (c5 _ m),st.bq.2.1,st.inv.b8⟩
theorem SO{A G s σ P j}(st:St W G s σ)(r:aQ W G s.heap P j)(J:j.length<=aP):ar W.M A (Ap P) (dy W G s (.list j,σ)) aF s:=by
 refine iS (?_:dy W G s _ _ _) (by show P.toArray.size<=gF;exact aa (rH ..)<|aa (r.length ..)<|Nat.le_trans J f9)
 exact dy.push (tk:=s.toks) st rfl λG' K e=>⟨J,_,_,_,e,rfl,⟨rfl,rfl⟩,rfl,r.keep K⟩
theorem BA{A:aO}{G s j ak r}{t:bY af}(S:Step W bf G s.heap j ak.heap)(h:ar W.M A t (dy W j ak r) aF ak):ar W.M A t (dy W G s r) aF ak:=bD h λZ Z x=>x.trans S
theorem bG.list{u I R}(h:dN W n si u I):bG W n si (.List u R) (.list I):=λH st F e=>
 ob e λp V e=>og e λJ e=>sj e (List_ (h H st F V λS g Z y=>BA S (SO g y J)))
end
end
section
section
variable {W:Wd} {n:Nat} {si:SI}
inductive gv (W:Wd) (n:Nat) (si:SI):List ay->List MB->Prop
 | nil:gv W n si [] []
 | cons {e es b bs}:Eb W n si e b->gv W n si es bs->gv W n si (e::es) (b::bs)
noncomputable def nA (J:bg) (z:List ay) (r:Bool):bY Bool:=forIn z r λc r=>if r=true then do let l ← qf c J (aU c J);pure (q_ l) else pure (q_ r)
theorem VP{J:bg}{c:ay}{z:List ay}:nA J (c::z) true=(PySem.isTrue c J (aU c J)>>=λl=>nA J z l):=by
 unfold nA;simp only [rD,if_true,bind_assoc,pure_bind]
theorem VO{J:bg}{c:ay}{z:List ay}:nA J (c::z) false=nA J z false:=by
 unfold nA;simp only [rD,qV,if_false,pure_bind]
theorem VQ{J:bg}{A:aO}{E:af->ai->Prop}{s:ai}{Q:Bool->ai->Prop}(h:Q false s)(z:List ay):ar W.M A (nA J z false) Q E s:=by
 induction z with
 | nil=>exact aD h
 | cons c z S=>exact aa (VO ..)<|S
theorem VR{z:List ay}{bs:List MB}(h:gv W n si z bs):∀{A J M G s ρ σ r},br n A->St W G s σ->aT W A G s.heap si J M ρ->oU bs ρ σ=some r->
 ar W.M A (nA J z true) (iY W G s r.2 r.1) aF s:=by
 induction h with
 | nil=>exact λZ st Z e=>sj e (aD (.now st))
 | cons hb _ a=>
  intro A J M G s ρ σ r H st F e
  exact aa (VP ..)<|ob e λp V e=>ah (jD hb H st F V λS g O=>oc e (λq e=>by exact aa (q ..)<|Bz S (a H g O e)) λq e=>sj e (by exact aa (q ..)<|VQ ⟨rfl,_,S,g⟩ _))
def Lk(W:Wd)(A:aO)(si:SI)(J:bg)(M:aq->Prop)(a:aq)(G:Gh)(s:ai)(r:aC×MH×Cell)(i:ai):Prop:=
 ∃G',Step W (λc=>M c∨c=a) G s.heap G' i.heap/\St W G' i r.2.1/\aT W A G' i.heap si J M r.1/\cg W G' i.heap a none r.2.2
def BodyOk(W:Wd)(n:Nat)(si:SI)(t:af->bg->bY Unit)(b:MX):Prop:=
 ∀{A J M G s ρ σ a x r},br n A->St W G s σ->aT W A G s.heap si J M ρ->G.fr a->¬G.ou a->¬M a->(∀k c,J.cells.lookup k=some c->c≠a)->cg W G s.heap a none x->b ρ σ x=some r->
   ar W.M A (t (.ref a) J) (λZ i=>Lk W A si J M a G s r i) aF s
def fw(e:ay)(C:Nat)(g:hN)(t:af->bg->bY Unit):Prop:=
 ∀it a J,compTurn e C it (.ref a) J=(ip g.iter.pos>>=λZ=>f7 it>>=λr=>match r with
  | none=>pure (.done .next)
  | some v=>zV g.target it v>>=λZ=>assign g.target J v>>=λZ=>
   (forIn g.ifs true λc r=>if r=true then do let l ← qf c J (aU c J);pure (q_ l) else pure (q_ r))>>=λl=>
     if l=true then t (.ref a) J>>=λZ=>mB (.compLoop e C it (.ref a) J) else mB (.compLoop e C it (.ref a) J))
structure f_(W:Wd)(e:ay)(dp:Nat):Prop where
 quiet:∀it a env,(Code.compLoop e dp it a env).quiet=true
 den:∀it a env,W.M.den (.compLoop e dp it a env)=(compTurn e dp it a env).onRaise (λx=>do sT x env;theTreesLotGoes x)
 under:∀(A:aO) it a env,A.under (.compLoop e dp it a env)=A
 Oe:∀it a env,W.M.den (.compStart e dp it a env)=(compStart e dp it a env).onRaise (λx=>do sT x env;ip theWindowsPlace)
 Wf:∀(A:aO) it a env,A.under (.compStart e dp it a env)=A
theorem f_.list{j a I R C}:f_ W (.ListComp j a I R) C:=⟨λZ Z Z=>rfl,λZ Z Z=>rfl,λZ Z Z Z=>rfl,λZ Z Z=>rfl,λZ Z Z Z=>rfl⟩
theorem f_.set{j a I R C}:f_ W (.SetComp j a I R) C:=⟨λZ Z Z=>rfl,λZ Z Z=>rfl,λZ Z Z Z=>rfl,λZ Z Z=>rfl,λZ Z Z Z=>rfl⟩
theorem f_.dict{k v a I R C}:f_ W (.DictComp k v a I R) C:=⟨λZ Z Z=>rfl,λZ Z Z=>rfl,λZ Z Z Z=>rfl,λZ Z Z=>rfl,λZ Z Z Z=>rfl⟩
noncomputable def zZ (j:ay):af->bg->bY Unit:=λf J=>(aU j J>>=λx=>bM (.builtin "list.append") [f,x]>>=λZ=>pure ())
noncomputable def HS (j:ay):af->bg->bY Unit:=λf J=>(aU j J>>=λx=>ip j.pos>>=λZ=>bM (.builtin "set.add") [f,x]>>=λZ=>pure ())
noncomputable def Ef (k v:ay):af->bg->bY Unit:=λf J=>match f with
 | .ref d=>(aU k J>>=λc=>kf [c] (aU v J)>>=λa=>ip {k.pos with endLine:=v.pos.endLine,endCol:=v.pos.endCol}>>=λZ=>kf [c,a] (dictSet d c a))
 | _=>pure ()
noncomputable def zH (e:ay) (C:Nat) (g:hN):af->bg->bY Unit:=λf J=>(aU g.iter J>>=λx=>ip g.iter.pos>>=λZ=>ib g.iter J x>>=λx=>
 kf [x] (ik x)>>=λit=>runOwn (.compStart e C it f J) J>>=λZ=>pure ())
theorem fw.list1{j f q e I R}:fw (.ListComp j [⟨f,q,e,0⟩] I R) 0 ⟨f,q,e,0⟩ (zZ j):=λZ Z Z=>rfl
theorem fw.mN{k v f q e I R}:fw (.DictComp k v [⟨f,q,e,0⟩] I R) 0 ⟨f,q,e,0⟩ (Ef k v):=λZ Z Z=>rfl
theorem fw.U2{j f q e I R}:fw (.SetComp j [⟨f,q,e,0⟩] I R) 0 ⟨f,q,e,0⟩ (HS j):=λZ Z Z=>rfl
theorem fw.F7{j f q e k i h I R}:fw (.ListComp j [⟨f,q,e,0⟩,⟨k,i,h,0⟩] I R) 0 ⟨f,q,e,0⟩
 (zH (.ListComp j [⟨f,q,e,0⟩,⟨k,i,h,0⟩] I R) 1 ⟨k,i,h,0⟩):=λit a J=>by
 refine Eq.trans (b:=ip q.pos>>=λZ=>f7 it>>=λr=>match r with
  | none=>pure (.done .next)
  | some v=>zV f it v>>=λZ=>assign f J v>>=λZ=>
   (forIn e true λc r=>if r=true then do let l ← qf c J (aU c J);pure (q_ l) else pure (q_ r))>>=λl=>
     if l=true then (aU i J>>=λx=>ip i.pos>>=λZ=>ib i J x>>=λx=>kf [x] (ik x)>>=λd=>
      runOwn (.compStart (.ListComp j [⟨f,q,e,0⟩,⟨k,i,h,0⟩] I R) 1 d (.ref a) J) J>>=λZ=>mB (.compLoop (.ListComp j [⟨f,q,e,0⟩,⟨k,i,h,0⟩] I R) 0 it (.ref a) J))
     else mB (.compLoop (.ListComp j [⟨f,q,e,0⟩,⟨k,i,h,0⟩] I R) 0 it (.ref a) J)) rfl ?_
 simp only [zH,bind_assoc,pure_bind]
theorem fw.F8{j f q e k i h I R}:fw (.ListComp j [⟨f,q,e,0⟩,⟨k,i,h,0⟩] I R) 1 ⟨k,i,h,0⟩ (zZ j):=λZ Z Z=>rfl
structure Jp(W:Wd)(A:aO)(si:SI)(env:bg)(M own:aq->Prop)(I:Gh->aN->Nat->Prop)(a:aq)(lx:Gh)(b3:ai)(j:Nat)(ρ:aC)(σ:MH)(x:Cell)(G:Gh)(s:ai):Prop where
 st:St W G s σ
 F:aT W A G s.heap si env M ρ
 S:Step W (λb=>M b∨own b∨b=a) lx b3.heap G s.heap
 I:I G s.heap j
 C:cg W G s.heap a none x
theorem cg.go{G h a x M G' h'}(C:cg W G h a none x)(S:Step W M G h G' h')(i:∀b,M b->G.fr b)(K:¬G.own a/\a≠W.tab)(z:¬M a)(f:¬G.ou a):cg W G' h' a none x:=
 C.lT (S.ea i) λo e=>S.keep a o e K.1 z K.2 λZ=>f
structure tV(W:Wd)(n:Nat)(A:aO)(env:bg)(M own:aq->Prop)(a:aq)(G:Gh):Prop where
 rm:br n A
 of:∀c,own c->G.fr c/\¬G.ou c
 Mo:∀c,M c->¬own c
 co:∀k c,env.cells.lookup k=some c->¬own c
 fr:G.fr a
 nM:¬M a
 ca:∀k c,env.cells.lookup k=some c->c≠a
 no:¬own a
 nu:¬G.ou a
theorem tV.step{A J M own a G h G' h' M'}(X:tV W n A J M own a G)(S:Step W M' G h G' h'):tV W n A J M own a G':=⟨X.rm,λc y=>by exact aa (S.fr ..)<|aa (S.ou ..)<|X.of c y,X.Mo,X.co,by exact aa (S.fr ..)<|X.fr,X.nM,X.ca,X.no,by exact aa (S.ou ..)<|X.nu⟩
def Li(W:Wd)(A:aO)(si:SI)(J:bg)(M own:aq->Prop)(a:aq)(G:Gh)(s:ai)(r:aC×MH×Cell)(x:hZ)(i:ai):Prop:=
 x=.ok .next/\∃G',Step W (λc=>M c∨own c∨c=a) G s.heap G' i.heap/\St W G' i r.2.1/\aT W A G' i.heap si J M r.1/\cg W G' i.heap a none r.2.2
theorem D9{e:ay}{dp:Nat}{g:hN}{t:af->bg->bY Unit}{mt:MT}{bs:List MB}{b:MX}(hC:f_ W e dp)(hT:fw e dp g t)(ht:Et W n si g.target mt)(zC:gv W n si g.ifs bs)(hb:BodyOk W n si t b)
 {it:af} {own:aq->Prop} {I:Gh->aN->Nat->Prop} {at_:dR} (ok:hV W g.target it I own at_)
 {A:aO} {env:bg} {M:aq->Prop} {G:Gh} {s:ai} {ρ:aC} {σ:MH} {a:aq} {x:Cell} {f:Nat} {r:aC×MH×Cell} (X:tV W n A env M own a G) (st:St W G s σ) (F:aT W A G s.heap si env M ρ)
 (hx:cg W G s.heap a none x) (hI:I G s.heap 0) (l:j8 at_ mt bs b f 0 ρ σ x=some r):
 eU W.M A (.compLoop e dp it (.ref a) env) (Li W A si env M own a G s r) s:=by
 refine codeAny_loop (hC.quiet ..) (λk s'=>∃j N aW H G',j8 at_ mt bs b k j N aW H=some r/\Jp W A si env M own I a G s j N aW H G' s') ?_ f ⟨0,ρ,σ,x,G,l,st,F,.refl,hI,hx⟩
 rintro k s' ⟨j,N,aW,H,G',l,L⟩
 refine aa (hC.under ..)<|aa (hC.den ..)<|aa (hT ..) ?_
 refine wpAny_noted ?_
 have O:=X.step L.S
 induction k with
 | zero=>exact aY l
 | succ k=>
  refine ob l λy zv l=>ah (cQ (ah (aF.any (bD (ok.next (X.rm.le (fW _)) L.st (λc y=>(O.of c y).1) L.I zv) λv eZ km=>bP km λo K nr=>?_))))
  have U:=L.F.own o O.of L.st.inv.dJ X.Mo X.co
  have uh:=L.S.trans (o.weaken λZ y=>.inr (.inl y))
  have J:=L.C.go o (λc y=>(O.of c y).1) (L.st.inv.dJ _ O.fr) X.no O.nu
  induction y with
  | none=>
   induction v with
   | none=>obtain rfl:=aM l;exact aD ⟨rfl,G',uh,K,U,J⟩
   | some v=>exact nr.elim
  | some d=>
   induction v with
   | none=>exact nr.elim
   | some v=>
    refine ob l λp et l=>ob l λc Ox l=>ah (aF.any (bD nr λZ kr ko=>eP ko λu m t4 AZ=>?_))
    have P:=U.own u O.of K.inv.dJ X.Mo X.co
    have Jq:=J.go u (λc y=>(O.of c y).1) (K.inv.dJ _ O.fr) X.no O.nu
    refine ah (aF.any (kA (ht X.rm m P AZ et) λks pI h R E=>?_))
    have LR:=(uh.trans (u.weaken λZ y=>.inr (.inl y))).trans (h.weaken λZ y=>.inl y)
    have Kf:=ok.keep m t4 h P.dg X.Mo O.of
    have w:=O.step h
    have xc:=Jq.go h P.dg (m.inv.dJ _ O.fr) X.nM O.nu
    refine ah (aF.any (qQ (VR zC X.rm R E Ox) λtw nS i B=>?_))
    have Fq:∀c,bf c->pI.fr c:=λZ y=>y.elim
    have Q:=E.go R.inv i
    have CZ:=LR.trans (i.weaken (M':=λb=>M b∨own b∨b=a) λZ y=>y.elim)
    have V:=ok.keep R Kf i Fq (λZ y=>y.elim) w.of
    have T:=xc.go i Fq (R.inv.dJ _ w.fr) (λy=>y) w.nu
    have D:=w.step i
    refine oc l (λq l=>?_) λq l=>?_
    .exact aa (if_pos q ..)<|ob l λz eb l=>ah (aF.any (bD (hb X.rm B Q D.fr D.nu X.nM X.ca T eb) λZ Yl jj=>dG jj λrh Y VB xk Jr=>
      aD ⟨rfl,k,cw _,j+1,z.1,z.2.1,z.2.2,rh,l,VB,xk,CZ.trans (Y.weaken λZ y=>y.imp id .inr),ok.keep B V Y (λc y=>y.elim (Q.dg c) λe=>e▸D.fr) (λc y=>y.elim (X.Mo c) λe=>e▸X.no) D.of,Jr⟩))
    .exact aa (if_neg (by rw [q];decide))<|wpAny_pure ⟨rfl,k,cw _,j+1,p.1,c.2,H,nS,l,B,Q,CZ,V,T⟩
end
end
noncomputable def mL (si:SI) (I:cR):cR:=
 {I with names:=I.names.map λ(n,k)=>if (k==.free && si.sc.kind==.function && si.sc.names.lookup n==some .cell) then (n,.cell) else (n,k)}
noncomputable def cC (si:SI) (I:cR):SI:={sc:=mL si I,ro:=(I.names.filter (·.2==.free)).map (·.1)}
noncomputable def gk (J:bg):List (aj×gY)->List (aj×aq)->List (aj×aq)
 | [],f=>f
 | (n,k)::r,f=>if k==.free then gk J r ((n,(J.cells.lookup n).getD 0)::f) else gk J r f
theorem yW{I:cR}{J:bg}(h:∀n,(n,iw)∈I.names->∃c,J.cells.lookup n=some c):yV I J=pure (gk J I.names []):=by
 unfold yV
 generalize I.names=l at h
 simp only [bind_pure]
 generalize ([]:List (aj×aq))=f
 induction l generalizing f with
 | nil=>rfl
 | cons p r S=>
  obtain⟨n,k⟩:=p
  refine aa (rD ..) ?_
  have h':=λm z=>h m (bT _ z)
  induction C:k==iw with
  | true=>
   refine aL (h n (by exact aa (.symm (beq_iff_eq.mp C ..))<|List.mem_cons_self)) λc O=>?_
   have e:=S h' ((n,(J.cells.lookup n).getD 0)::f)
   simp only [C,if_true,cellOf,O,gk,pure_bind,ue] at e ⊢
   exact e
  | false=>
   have e:=S h' f
   simp only [C,qV,if_false,gk,pure_bind] at e ⊢
   exact e
theorem yU{J:bg}:∀{l:List (aj×gY)} {f:List (aj×aq)} {n c},(n,c)∈gk J l f->(n,c)∈f∨((n,iw)∈l/\c=(J.cells.lookup n).getD 0)
 | [],_,_,_,h=>.inl h
 | (m,k)::r,f,n,c,h=>by
  unfold gk at h
  split at h
  .rename_i C
   rcases yU h with h| ⟨h,e⟩
   .rcases List.mem_cons.mp h with e| h
    .cases e;exact .inr ⟨by exact aa (beq_iff_eq.mp C ..)<|List.mem_cons_self,rfl⟩
    .exact .inl h
   .exact .inr ⟨bT _ h,e⟩
  .rcases yU h with h| ⟨h,e⟩
   .exact .inl h
   .exact .inr ⟨bT _ h,e⟩
theorem yT{J:bg}{x:aj}:∀{l:List (aj×gY)} {f:List (aj×aq)},(f.lookup x=some ((J.cells.lookup x).getD 0)∨(x,iw)∈l)->(gk J l f).lookup x=some ((J.cells.lookup x).getD 0)
 | [],_,h=>h.elim id λh=>by cases h
 | (m,k)::r,f,h=>by
  unfold gk
  split
  .rename_i C
   refine yT ?_
   by_cases U:x=m
   .subst U;exact .inl (by simp)
   .have hb:(x==m)=false:=by simpa using U
    rcases h with h| h
    .exact .inl (by exact aa (dI ..)<|aa (hb ..)<|h)
    .rcases List.mem_cons.mp h with e| h
     .cases e;exact absurd rfl U
     .exact .inr h
  .rename_i C
   refine yT ?_
   rcases h with h| h
   .exact .inl h
   .rcases List.mem_cons.mp h with e| h
    .cases e;exact absurd rfl C
    .exact .inr h
theorem yL:∀{names:List (aj×gY)} {h:aN} {acc:List (aj×aq)} {n c},(n,c)∈iH h.objs.size names acc->(n,c)∈acc∨(h.objs.size<=c/\(s7 h names).IsCell c none)
 | [],_,_,_,_,z=>.inl z
 | (m,k)::r,h,acc,n,c,z=>by
  unfold iH at z;unfold s7
  split at z
  .rename_i C
   refine aa (if_pos C ..) ?_
   have:=yL (names:=r) (h:=h.push {cls:=.type "cell",data:=.cell none}) (acc:=(m,h.objs.size)::acc) (n:=n) (c:=c) (by exact aa (c9 ..)<|z)
   rcases this with z| ⟨h1,h2⟩
   .rcases List.mem_cons.mp z with e| z
    .cases e;exact .inr ⟨bb _,_,Hr _ _ _ _ (c5 (h:=h) (o:={cls:=.type "cell",data:=.cell none}) rfl),rfl⟩
    .exact .inl z
   .rw [c9] at h1
    exact .inr ⟨lC h1,h2⟩
  .rename_i C
   exact aa (if_neg C ..)<|yL z
theorem yK:∀{a:List (aj×gY)} {k:Nat} {f:List (aj×aq)},(f.Pairwise λx y=>x.2≠y.2)->(∀p∈f,(p.2:Nat)<k)->(iH k a f).Pairwise λx y=>x.2≠y.2
 | [],_,_,h,_=>h
 | (m,q)::r,k,f,h,hl=>by
  unfold iH
  split
  .refine yK (List.pairwise_cons.mpr ⟨λp T e=>?_,h⟩) λp T=>?_
   .have e:k=p.2:=e
    have:=hl p T;exact fV _ (e▸this)
   .rcases List.mem_cons.mp T with rfl| T
    .exact cw _
    .exact fG (hl p T)
  .exact yK h hl
theorem yN{x:aj}:∀{a:List (aj×gY)} {k:Nat} {f:List (aj×aq)},(x,pR)∉a->(iH k a f).lookup x=f.lookup x
 | [],_,_,_=>rfl
 | (m,q)::r,k,f,h=>by
  have h':(x,pR)∉r:=λy=>h (bT _ y)
  unfold iH
  split
  .rename_i C
   refine aa (yN h' ..) ?_
   have:x≠m:=by rintro rfl;exact h (by exact aa (.symm (beq_iff_eq.mp C ..))<|List.mem_cons_self)
   exact aa (dI ..)<|aa (show(x==m)=false by simpa using this) rfl
  .exact yN h'
theorem yM{x:aj}:∀{a:List (aj×gY)} {k sA:Nat} {f:List (aj×aq)},sA<=k->((x,pR)∈a∨∃c:Nat,f.lookup x=some c/\sA<=c)->∃c:Nat,(iH k a f).lookup x=some c/\sA<=c
 | [],_,_,_,_,h=>h.elim (λh=>by cases h) id
 | (m,q)::r,k,sA,f,b,h=>by
  unfold iH
  split
  .rename_i C
   refine yM (gN b) ?_
   by_cases U:x=m
   .subst U;exact .inr ⟨k,by simp,b⟩
   .rcases h with h| ⟨c,h,hc⟩
    .rcases List.mem_cons.mp h with e| h
     .cases e;exact absurd rfl U
     .exact .inl h
    .exact .inr ⟨c,by exact aa (dI ..)<|aa (show(x==m)=false by simpa using U)<|h,hc⟩
  .rename_i C
   refine yM b ?_
   rcases h with h| h
   .rcases List.mem_cons.mp h with e| h
    .cases e;exact absurd rfl C
    .exact .inl h
   .exact .inr h
theorem yS{J:bg}(ap:J.cells.Pairwise λx y=>x.2≠y.2):∀{l:List (aj×gY)} {f:List (aj×aq)},(∀n,(n,iw)∈l->∃c,J.cells.lookup n=some c)->(l.map (·.1)).Nodup->
 (∀p∈f,J.cells.lookup p.1=some p.2/\p.1∉l.map (·.1))->(f.Pairwise λx y=>x.2≠y.2)->(gk J l f).Pairwise λx y=>x.2≠y.2
 | [],_,_,_,_,h=>h
 | (m,k)::r,f,j,s,K,h=>by
  simp only [eK,KV] at s
  unfold gk
  split
  .rename_i C
   refine aL (j m (by exact aa (.symm (beq_iff_eq.mp C ..))<|List.mem_cons_self)) λc O=>?_
   refine yS ap (λn G=>j n (bT _ G)) s.2 (λp T=>?_) (List.pairwise_cons.mpr ⟨λp T e=>?_,h⟩)
   .rcases List.mem_cons.mp T with rfl| T
    .exact⟨by exact aa (O ..) rfl,s.1⟩
    .have:=K p T
     simp only [eK,n5,not_or] at this
     exact⟨this.1,this.2.2⟩
   .have e:(J.cells.lookup m).getD 0=p.2:=e
    rw [O] at e
    have e:c=p.2:=e
    have N:=K p T
    simp only [eK,n5,not_or] at N
    exact N.2.1 (SH ap (mem_of_lookup N.1) (e▸mem_of_lookup O))
  .refine yS ap (λn G=>j n (bT _ G)) s.2 (λp T=>?_) h
   have:=K p T
   simp only [eK,n5,not_or] at this
   exact⟨this.1,this.2.2⟩
theorem Ge{f:aj->gY->gY}:∀{l:List (aj×gY)} {x:aj},(l.map λ(n,k)=>(n,f n k)).lookup x=(l.lookup x).map (f x)
 | [],_=>rfl
 | (n,k)::r,x=>by
  show KQ x ((n,f n k)::_)=_
  refine aa (dI ..)<|aa (dI ..) ?_
  induction U:x==n with
  | true=>exact aa (beq_iff_eq.mp U ..) rfl
  | false=>exact Ge
theorem N6(si:SI)(I:cR):(mL si I).names=I.names.map λ(n,k)=>(n,if (k==.free && si.sc.kind==.function && si.sc.names.lookup n==some .cell) then .cell else k):=by
 show List.map _ _=_
 congr 1
 funext ⟨n,k⟩
 dsimp only
 split<;>rfl
theorem D7(si:SI)(I:cR)(x:aj):(mL si I).names.lookup x=(I.names.lookup x).map λk=>if (k==.free && si.sc.kind==.function && si.sc.names.lookup x==some .cell) then .cell else k:=by
 exact aa (N6 ..)<|Ge (f:=λn k=>if (k==.free && si.sc.kind==.function && si.sc.names.lookup n==some .cell) then .cell else k)
structure jq(si:SI)(scope:cR)(own:List String):Prop where
 fn:scope.kind=.function
 nodup:(scope.names.map (·.1)).Nodup
 free:∀x,(x,iw)∈scope.names->si.sc.names.lookup x=some .cell∨si.sc.names.lookup x=some .free
 own:∀x k,(x,k)∈scope.names->k=.local∨k=.cell->∃y∈own,au y=x
noncomputable def y2 (si:SI) (I:cR) (own:List String):Bool:=
 (match I.kind with| .function=>true| _=>false) && decide ((I.names.map (·.1)).Nodup) && I.names.all (λp=> !(p.2==.free)|| (si.sc.names.lookup p.1==some .cell|| si.sc.names.lookup p.1==some .free)) &&
   I.names.all λp=> !(p.2==.local|| p.2==.cell)|| own.any λy=>au y==p.1
theorem jq.of{si I own}(h:y2 si I own=true):jq si I own:=by
 unfold y2 at h
 simp only [jo,Cb,decide_eq_true_eq] at h
 refine aA h λB o=>?_;refine aA B λR A=>?_;refine aA R λN E=>?_
 refine⟨?_,E,λx U=>?_,λx k U C=>?_⟩
 .split at N
  .rename_i e;exact e
  .cases N
 .have:=A _ U
  simpa using this
 .have:=o _ U
  have hb:(k==NameKind.local|| k==pR)=true:=by rcases C with rfl| rfl<;>rfl
  dsimp only at this
  rw [hb] at this
  simpa using this
theorem vx:∀{l:List (aj×gY)} {x:aj} {k:gY},(l.map (·.1)).Nodup->(x,k)∈l->l.lookup x=some k
 | (n,f)::r,x,k,s,h=>by
  simp only [eK,KV] at s
  refine aa (dI ..) ?_
  rcases List.mem_cons.mp h with e| h2
  .cases e;simp
  .have:x≠n:=λq=>s.1 (List.mem_map.mpr ⟨(x,k),h2,q⟩)
   exact aa (show(x==n)=false by simpa using this)<|vx s.2 h2
section
section
variable {W:Wd} {n:Nat} {si:SI}
theorem aC.Ei{ρ:aC}{own x d}(h:(ρ.drop own) x=some d):x∉own/\ρ x=some d:=by
 delta aC.drop at h
 by_cases e:x∈own
 .rw [if_pos e] at h;exact aY h
 .rw [if_neg e] at h;exact⟨e,h⟩
structure Jo(W:Wd)(A:aO)(si:SI)(scope:cR)(own:List String)(env:bg)(ρ:aC)(lx:Gh)(b3 eZ:ai)(lK:bg)(kr:ai):Prop where
 lo:lK.locals=eZ.heap.objs.size
 same:kr= {eZ with heap:=kr.heap}
 keep:∀b o,eZ.heap.get? b=some o->kr.heap.get? b=some o
 lt:eZ.heap.objs.size<kr.heap.objs.size
 FA:∀b,(b=lK.locals∨(eZ.heap.objs.size<=b/\∃x,lK.cells.lookup x=some b))->eZ.heap.objs.size<=b/\b<kr.heap.objs.size
 near:∀k c,lK.cells.lookup k=some c->(∃k',env.cells.lookup k'=some c)∨eZ.heap.objs.size+1<=c
 F:∀(G':Gh),(∀b,(b=lK.locals∨(eZ.heap.objs.size<=b/\∃x,lK.cells.lookup x=some b))->G'.fr b)->(∀b,G'.own b->lx.own b)->(∀b,lx.fr b->lx.ou b->G'.fr b/\G'.ou b)->cH W lx b3.heap G' kr.heap->
      aT W A G' kr.heap (cC si scope) {lK with scope:=AW scope env} (λb=>b=lK.locals∨(eZ.heap.objs.size<=b/\∃x,lK.cells.lookup x=some b)) (ρ.drop own)
theorem y3{I:cR}{x:aj}(U:(mL si I).names.lookup x=some .cell∨(mL si I).names.lookup x=some .free):(x,pR)∈I.names∨(x,iw)∈I.names:=by
 rw [D7] at U
 induction hl:I.names.lookup x with
 | none=>rw [hl] at U;exact U.elim (λh=>aY h) λh=>aY h
 | some k=>
  have z:=mem_of_lookup hl
  rw [hl] at U
  induction k with
  | cell=>exact .inl z
  | free=>exact .inr z
  | _=>exact U.elim (λh=>nomatch h) λh=>nomatch h
theorem N5{I:cR}{x:aj}(U:(mL si I).names.lookup x=some .local):(x,NameKind.local)∈I.names:=by
 rw [D7] at U
 refine aw (Option.map_eq_some_iff.mp U) λk hl h=>?_
 split at h
 .exact nomatch h
 .exact h▸mem_of_lookup hl
theorem N7{A:aO}{u:Gh}{b3 f:ai}{I:cR}{own:List String}{J:bg}{M:aq->Prop}{ρ:aC}{E:af->ai->Prop}{Q:bg->ai->Prop}(S:jq si I own)(B:Inv W u b3)(F:aT W A u b3.heap si J M ρ)(G:∀b o,b3.heap.get? b=some o->f.heap.get? b=some o)(H:b3.heap.objs.size<=f.heap.objs.size)
 (hQ:∀s T,Jo W A si I own J ρ u b3 f s T->Q s T):
 ar W.M A (newFunctionEnv I J.globals (gk J I.names []) [] J.qual none .none (some J)) Q E f:=by
 show ar W.M A (do let L ← _;_) Q E f
 refine ah (wpAny_alloc (ah (wpAny_layCells _ (λname kind r=>by induction PX:kind==pR<;>simp [PX]) _ _ _ _ (ah (aD (aD ?_))))))
 have j:(f.heap.push {cls:=.type "dict",data:=.dict #[]}).objs.size=f.heap.objs.size+1:=c9 ..
 have g:∀b o,f.heap.get? b=some o->(s7 (f.heap.push {cls:=.type "dict",data:=.dict #[]}) I.names).get? b=some o:=λb o e=>Hr _ _ b o (bH _ e)
 have hL:(s7 (f.heap.push {cls:=.type "dict",data:=.dict #[]}) I.names).Ns f.heap.objs.size λZ=>none:=(Heap.Ns.new f.heap (.type "dict")).keeps (Hr _ _)
 have Qa:AW I J=mL si I:=by
  delta AW mL
  exact aa (show J.kindOf=λx=>si.sc.names.lookup x from funext λx=>by delta tW;rw [F.sc])<|aa (F.sc ..) rfl
 have t:∀x,(x,iw)∈I.names->∃c,J.cells.lookup x=some c:=λx U=>F.has x (S.free x U)
 have K:∀{k:aj} {c:aq},J.cells.lookup k=some c->c<f.heap.objs.size:=λO=>bP (F.cells _ _ O) λZ Z AO=>aL AO λv i=>a9 i.lt H
 have X:∀p∈gk J I.names [],J.cells.lookup p.1=some p.2:=λp Y=>(yU (n:=p.1) (c:=p.2) Y).elim (λh=>nomatch h) λkm=>aA km λh e=>aL (t _ h) λc O=>by exact aa (e ..)<|aa (O ..) rfl
 have w:∀{x c},(iH (f.heap.push {cls:=.type "dict",data:=.dict #[]}).objs.size I.names (gk J I.names [])).lookup x=some c->J.cells.lookup x=some c∨(f.heap.objs.size+1<=c/\(s7 (f.heap.push {cls:=.type "dict",data:=.dict #[]}) I.names).IsCell c none):=λ{x c} U=>
  (yL (mem_of_lookup U)).imp (X (x,c)) λh=>j▸h
 have lk:∀x,(x,iw)∈I.names->(iH (f.heap.push {cls:=.type "dict",data:=.dict #[]}).objs.size I.names (gk J I.names [])).lookup x=J.cells.lookup x:=λx U=>by
  refine aL (t x U) λc O=>?_
  exact(yN λO=>nomatch (vx S.nodup U).symm.trans (vx S.nodup O)).trans ((yT (.inr U)).trans (by exact aa (O ..) rfl))
 have R:∀x,(x,pR)∈I.names->∃c:Nat,(iH (f.heap.push {cls:=.type "dict",data:=.dict #[]}).objs.size I.names (gk J I.names [])).lookup x=some c/\f.heap.objs.size<=c:=λx U=>
  yM (sA:=f.heap.objs.size) (by exact aa (j ..)<|Nat.le_succ _) (.inl U)
 have D:∀{x k d},(ρ.drop own) x=some d->(au x,k)∈I.names->k=.local∨k=.cell->False:=λ{x k d} U z C=>aw (S.own _ _ z C) λy hy e=>(aC.Ei U).1 (vX e▸hy)
 exact hQ _ {f with heap:=s7 (f.heap.push {cls:=.type "dict",data:=.dict #[]}) I.names} {
  lo:=rfl
  same:=rfl
  keep:=g
  lt:=hL.lt
  FA:=λb hb=>hb.elim (λe=>by exact aa (e ..)<|⟨bb _,hL.lt⟩) λko=>aA ko λN AP=>aL AP λx U=>⟨N,(w U).elim (λh=>absurd (K h) (Nat.not_lt.mpr N)) λh=>h.2.lt⟩
  near:=λk c O=>(w O).imp (λh=>⟨_,h⟩) And.left
  F:=λG' zy P hu Qc=>{
   sc:=Qa
   fn:=S.fn
   gl:=F.gl
   bl:=F.bl
   dg:=zy
   jf:=.inl rfl
   ns:=⟨_,hL,λx d U C=>(D U (N5 C) (.inl rfl)).elim⟩
   cells:=λx c O=>(w O).elim (λh=>bP (F.cells _ _ h) λa b AQ=>aL AQ λv i=>⟨λy=>a (P _ y),b,v,i.keeps λb o e=>g b o (G b o e)⟩) λjj=>aA jj λN V=>
    have lt:∀{m:Nat},m<b3.heap.objs.size->m=c->False:=λl q=>absurd (a9 l H) (Nat.not_lt.mpr (q▸lC N))
    ⟨λy=>lt (B.cn c (P _ y)).2.1 rfl,λq=>lt (a9 B.eO B.size) q.symm,none,V⟩
   apart:=yK (yS F.apart t S.nodup (λp Y=>nomatch Y) List.Pairwise.nil) λp Y=>uc (fG (K (X p Y))) j.symm
   cell:=λx d U C=>(y3 C).elim (λz=>(D U z (.inr rfl)).elim) λz=>eQ (F.cell x d (aC.Ei U).2 (S.free _ z)) λc v N V h3=>⟨c,v,(lk _ z).trans N,V.keeps λb o e=>g b o (G b o e),h3.keep Qc⟩
   kN:=λx C zE=>(y3 (.inl C)).elim (λz=>aw (R _ z) λc N V=>⟨c,N,.inr ⟨V,_,N⟩⟩) λz=>(zE (List.mem_map.mpr ⟨(au x,.free),List.mem_filter.mpr ⟨z,rfl⟩,rfl⟩)).elim
   has:=λx U=>(y3 U).elim (λz=>aw (R _ z) λc N Z=>⟨c,N⟩) λz=>aL (t x z) λc O=>⟨c,(lk _ z).trans O⟩
   fz:=λZ h=>nomatch h
   here:=λZ h=>nomatch h
   fo:=aw F.ku λfs e k=>
    ⟨fs,e,λx U=>aA (k x U) λk1 Uu=>dG Uu λL k2 k3 k4 Uv=>aw Uv λo k5 k6=>
      ⟨k1,L,k2,(hu L k3 k4).1,(hu L k3 k4).2,.inr ⟨λy=>absurd (b9 k5) (Nat.not_lt.mpr (aE H (y.elim (λe=>bN e.symm) And.left))),o,g _ _ (G _ _ k5),k6⟩⟩⟩}}
theorem Ea{e:ay}{C:Nat}{g:hN}{it:af}{a:aq}{J:bg}{A:aO}{R:hZ->ai->Prop}{s:ai}(l:f_ W e C)(T:(D2 e)[C]?=some g)(S:g.is_async=0)
 (H:eU W.M A (.compLoop e C it (.ref a) J) R s) (b:∀{Q:af->ai->Prop},Q it s->ar W.M A (ik it) Q aF s):eU W.M A (.compStart e C it (.ref a) J) R s:=by
 refine uE ?_
 refine aa (l.Oe ..)<|aa (l.Wf ..) ?_
 refine wpAny_notedAt ?_
 delta compStart
 simp only [T,Option.elim_some,S,bne_self_eq_false,qV,if_false]
 show ar _ _ (ask>>=_) _ _ s
 refine ah (l7 (wpAny_ite ?_))
 split
 .first
   | exact ah (aD (aD (And.intro (l.quiet ..) H)))
   | exact aD (And.intro (l.quiet ..) H)
 .first
   | exact ah (nH (ah (cQ (ah (aF.any (b (aD (And.intro (l.quiet ..) H))))))))
   | (refine ah (nH ?_);show ar _ _ (ip g.iter.pos>>=_) _ _ s;exact ah (cQ (ah (aF.any (b (aD (And.intro (l.quiet ..) H)))))))
structure CompEnd(W:Wd)(G:Gh)(s:ai)(r:Cell×MH)(a C:aq)(ks:ai)(pI:Gh)(Mx:aq->Prop):Prop where
 az:s.heap.objs.size<=a
 Ma:¬Mx a
 MC:Mx C
 ge:∀b,Mx b->s.heap.objs.size<=b
 fr:∀b,pI.fr b↔((G.fr b∨Mx b)∨b=a)
 S:Step W bf G s.heap {pI with fr:=G.fr} ks.heap
 st:St W pI ks r.2
 Cr:cg W pI ks.heap a none r.1
 ns:∃m,ks.heap.Ns C m
structure xb(W:Wd)(n:Nat)(si:SI)(e:ay)(scope:cR)(g:hN)(SK:bY af)(mi:MI)(mt:MT)(bs:List MB)(b:MX)(own:List String)(init:Cell):Prop where
 ok:W.Ok
 cl:∃gs,D2 e=g::gs
 async:g.is_async=0
 hs:∀env x,ib g.iter env x=pure x
 cs:jq si scope own
 new:∃AG:bu,(∀{A:aO} {E:af->ai->Prop} {s:ai} {Q:af->ai->Prop},Q (.ref s.heap.objs.size) {s with heap:=s.heap.push AG}->ar W.M A SK Q E s)/\AG.isFreed=false/\∀G h a,a≠iR->h.get? a=some AG->cg W G h a none init
 hC:f_ W e 0
 hi:du W n si g.target g.iter mi
 ht:Et W n (cC si scope) g.target mt
 zC:gv W n (cC si scope) g.ifs bs
 hb:∃t,fw e 0 g t/\BodyOk W n (cC si scope) t b
theorem D8{e:ay}{K:cR}{g:hN}{V:bY af}{mi:MI}{mt:MT}{bs:List MB}{b:MX}{own:List String}{init:Cell}(D:xb W n si e K g V mi mt bs b own init)
 {A:aO} {J:bg} {M:aq->Prop} {G:Gh} {s:ai} {ρ:aC} {σ:MH} {r:Cell×MH} {p:bc} {use:Option (af->bY Unit)} {Q:af->ai->Prop} (rm:br n A) (st:St W G s σ) (F:aT W A G s.heap si J M ρ) (h:MF.comp mi mt bs b own init ρ σ=some r)
 (PF:∀a C L B Mx,CompEnd W G s r a C L B Mx->compPost W.M A aF use Q (.ref a) C (.ok .next) L):ar W.M A (Ec e K J p V false (aU g.iter J) use) Q aF s:=by
 refine ob h λq e1 h=>ob h λy e2 h=>?_
 obtain rfl:=aM h
 refine aL D.cl λgs uY=>?_
 refine bI D.new λY P4 PL PS=>?_
 refine aw D.hb λt hT hb=>?_
 refine wpAny_comprehension_free uY (D.hs J) (yW λx hx=>F.has x (D.cs.free x hx)) D.cs.fn (λx hx hl=>(vx D.cs.nodup hx).trans (by exact aa (hl ..) rfl)) ?_
 refine bD (D.hi rm st F e1) λv Z fy=>bD fy λit d kp=>eQ kp λj ak P w hr=>?_
 have xj:=F.go st.inv P
 have Yf:=hr
 refine BC hr λf I zL hn O hsz hg ho hI=>?_
 refine aA (jE w hn O hsz hg ho) λN B9=>?_
 have B0:aT W A {j with fr:=λa=>j.fr a∨f a} d.heap si J M ρ:=xj.to B9 (λZ x=>x) (λa x=>.inl (xj.dg a x)) (λZ x y=>⟨.inl x,y⟩) O (λc hc y=>y.elim id λy=>absurd hc (Nat.not_lt.mpr (hn c y).1)) w.inv.dJ
 have m7:∀{c},ak.heap.objs.size<=c->¬j.ou c:=λl y=>absurd (w.inv.b0 _ (w.inv.b8 _ y)).2.1 (Nat.not_lt.mpr l)
 have H:(d.heap.push Y).objs.size=d.heap.objs.size+1:=c9 ..
 refine P4 (N7 (b3:=d) D.cs N.inv B0 (λb o e=>bH _ e) (aE (dD _) (bN H.symm)) λu T X=>?_)
 have E:∀b o,d.heap.get? b=some o->T.heap.get? b=some o:=λb o e=>X.keep b o (bH _ e)
 have jG:d.heap.objs.size+1<T.heap.objs.size:=H▸X.lt
 have hM:∀b,(b=u.locals∨((d.heap.push Y).objs.size<=b/\∃x,u.cells.lookup x=some b))->d.heap.objs.size+1<=b/\b<T.heap.objs.size:=λb hb=>H▸X.FA b hb
 generalize uW:(λb=>b=u.locals∨((d.heap.push Y).objs.size<=b/\∃x,u.cells.lookup x=some b))=M' at*
 have hM:∀b,M' b->d.heap.objs.size+1<=b/\b<T.heap.objs.size:=λb hb=>hM b (by rw [← uW] at hb;exact hb)
 have Fg:∀b,(M' b∨b=d.heap.objs.size)->d.heap.objs.size<=b/\b<T.heap.objs.size:=λb hb=>hb.elim (λhb=>⟨lC (hM b hb).1,(hM b hb).2⟩) λe=>⟨bN e.symm,by exact aa (e ..)<|Nat.lt_of_succ_lt jG⟩
 have Fw:d.heap.objs.size<=T.heap.objs.size:=jy (lD jG)
 refine aA (jE N Fg E Fw (by exact aa (X.same ..) rfl) (by exact aa (X.same ..) rfl)) λVA B_=>?_
 have B3:=X.F {j with fr:=λb=>(j.fr b∨f b)∨(M' b∨b=d.heap.objs.size)} (λb hb=>.inr (.inl (by exact aa (.symm (uW ..))<|hb))) (λZ x=>x) (λZ x y=>⟨.inl x,y⟩) B_
 rw [show(λb=>b=u.locals∨((d.heap.push Y).objs.size<=b/\∃x,u.cells.lookup x=some b))=M' from uW] at B3
 have t4:=zL.shift (hI B9) B_ λb o Z e=>E b o e
 have U:∀b,f b->¬d.heap.objs.size<=b:=λb x=>Nat.not_le.mpr (hn b x).2
 have Pq:∀b,M' b->¬f b:=λb x y=>U b y (lC (hM b x).1)
 have Ff:¬M' d.heap.objs.size:=λx=>fV _ (hM _ x).1
 have R:∀k c,u.cells.lookup k=some c->(∃k',J.cells.lookup k'=some c)∨d.heap.objs.size+2<=c:=λk c hc=>(X.near k c hc).imp id λh=>aE (bN (congrArg (· +1) H.symm)) h
 have Po:∀G,cg W G T.heap d.heap.objs.size none init:=λG=>PS _ _ _ (λq=>absurd (a9 D.ok.g.lt (q▸N.inv.size)) (by decide)) (X.keep _ _ (c5 _ PL))
 have loop:=D9 (G:={j with fr:=λb=>(j.fr b∨f b)∨(M' b∨b=d.heap.objs.size)}) (M:=M') (a:=d.heap.objs.size) (env:={u with scope:=AW K J}) D.hC hT D.ht D.zC hb zL ⟨rm,λc y=>⟨.inl (.inr y),m7 (hn c y).1⟩,Pq,λk c hc y=>(R k c hc).elim (λjk=>aL jk λk' zD=>bP (xj.cells _ _ zD) λZ Z Uw=>aL Uw λv i=>absurd i.lt (Nat.not_lt.mpr (hn c y).1)) λh=>U c y (lC (lC h)),
  .inr (.inr rfl),Ff,λk c hc q=>(R k c hc).elim (λAR=>aL AR λk' zD=>bP (B0.cells _ _ zD) λZ Z Ux=>aL Ux λv i=>fV _ (q▸i.lt)) λh=>absurd (q▸h:d.heap.objs.size+2<=d.heap.objs.size) (by lia),λy=>U _ y (bb _),m7 hsz⟩ VA B3 (Po _) t4 e2
 refine g6 (Ea D.hC (by exact aa (uY ..) rfl) D.async loop λq=>zL.self t4 q) λr L s_=>aA s_ λer Uy=>dG Uy λB x9 Ip JX xc=>?_
 subst er
 refine aw JX.ns λm hm Z=>?_
 have LQ:=ve (G:={j with fr:=λb=>j.fr b∨f b}) (ak:=d) (b3:=T) (eZ:=L) (jx:=f) (M:=λb=>M' b∨b=d.heap.objs.size) N.inv.b8 (λb hb=>(Fg b hb).1) E Fw (x9.weaken λc y=>y.elim (λy=>Or.inr (Or.inl y)) λy=>y.imp id Or.inr) Ip
 have uh:=qy (G:=j) (fy:=ak.heap) (iL:=d.heap) (jx:=bf) (M:=f) (λb hb=>(hn b hb).1) O hsz (λa l=>⟨λx=>⟨x.1.resolve_right λz=>absurd l (Nat.not_lt.mpr (hn a z).1),x.2⟩,eH .inl⟩) (show B.ou=j.ou from x9.ou) (LQ.1.weaken λc y=>.inr y)
 have hg:j.fr=G.fr:=P.fr
 have CY:=P.trans uh
 rw [hg] at CY
 exact PF d.heap.objs.size u.locals L B (λb=>M' b∨f b) {
  az:=aE P.size hsz
  Ma:=λy=>y.elim Ff λy=>U _ y (bb _)
  MC:=.inl (by exact aa (.symm (uW ..))<| .inl rfl)
  ge:=λb y=>y.elim (λy=>aE (aE P.size hsz) (lC (hM b y).1)) λy=>aE P.size (hn b y).1
  fr:=λb=>by
   exact aa (show B.fr=λb=>(j.fr b∨f b)∨(M' b∨b=d.heap.objs.size) from x9.fr)<|aa (hg ..)<|⟨λh=>h.elim (λh=>h.elim (λy=>.inl (.inl y)) λy=>.inl (.inr (.inr y))) λh=>h.elim (λy=>.inl (.inr (.inl y))) .inr,
    λh=>h.elim (λh=>h.elim (λy=>.inl (.inl y)) λh=>h.elim (λy=>.inr (.inl y)) λy=>.inl (.inr y)) λy=>.inr (.inr y)⟩
  S:=CY
  st:=Ip
  Cr:=xc
  ns:=⟨m,hm⟩}
theorem aT.Wm{A:aO}{G j G':Gh}{h h':aN}{J M ρ}(F:aT W A G h si J M ρ)(S:Step W bf G h j h')(K:cH W G h G' h')(U:∀a,G'.own a->j.own a)(b:∀a,M a->G'.fr a)(f:∀a,G.fr a->G.ou a->G'.fr a/\G'.ou a)(T:∀a,G.fr a->¬G.own a/\a≠W.tab)(I:∀c,c<h.objs.size->G'.fr c->G.fr c):aT W A G' h' si J M ρ:=
 F.move b f (λZ Z r=>r.keep K) (λa o e n t Z=>⟨S.dat e n (λx=>x) t,λy=>(S.new a (U a y)).elim n λz=>absurd (b9 e) (Nat.not_lt.mpr z),λn y=>n (I a (b9 e) y)⟩) T
theorem Step.behind{G nS rh:Gh}{h f k:aN}{M j:aq->Prop}(S:Step W bf G h {nS with fr:=G.fr} f)(T:Step W (λb=>M b∨j b) nS f rh k)(l:∀b,j b->h.objs.size<=b)(E:∀b,G.ou b->G.fr b)(c:∀b,G.fr b->nS.fr b):Step W M G h {rh with fr:=G.fr} k where
 g i a e:=T.g i a (S.g i a e)
 d i a e:=T.d i a (S.d i a e)
 fr:=rfl
 c0 i x:=S.c0 i (T.c0 i x)
 new a x:=(T.new a x).elim (S.new a) λy=>.inr (aE S.size y)
 keep a o e ho hm ht hf:=T.keep a o (S.keep a o e ho (λx=>x) ht hf) (λy=>(S.new a y).elim ho λz=>absurd (b9 e) (Nat.not_lt.mpr z)) (λy=>y.elim hm λy=>absurd (b9 e) (Nat.not_lt.mpr (l a y))) ht
  λZ y=>have y:G.ou a:=S.ou▸y;hf (E a y) y
 size:=aE S.size T.size
 ou:=T.ou.trans S.ou
 ig a o e x y hm:=aL (S.ig a o e x y (λq=>q)) λZ t=>
  aL (T.ig a _ t (c a x) (by exact aa (show nS.ou=G.ou from S.ou)<|y) λz=>z.elim hm λz=>absurd (b9 e) (Nat.not_lt.mpr (l a z))) λH q=>
  ⟨H,q⟩
theorem CompEnd.fin{G s r a C w B j}(X:CompEnd W G s r a C w B j)(E:∀b,G.ou b->G.fr b)(u:∀b,G.fr b->b<s.heap.objs.size):∃m,w.heap.Ns C m/\∀h',hO C w.heap h'->dy W G s r (.ref a) {w with heap:=h'}:=
 X.ns.imp λm z=>⟨z,λh g=>
  have d:∀b,j b->B.fr b:=λb y=>(X.fr b).mpr (.inl (.inr y))
  have x:=X.st.gp (s':={w with heap:=h}) (M:=j) d (λb o nm e=>g.extBut b o (λq=>nm (by exact aa (q ..)<|X.MC)) e) (bN g.1.symm) rfl rfl
  have f:∀b,B.ou b->G.fr b:=λb y=>E b (by exact aa (.symm (show B.ou=G.ou from X.S.ou))<|y)
  have y:=kV (fr:=λb=>G.fr b∨b=a) x.1 (λb y=>y.elim (λy=>(X.fr b).mpr (.inl (.inl y))) λy=>(X.fr b).mpr (.inr y)) λb y=>.inl (f b y)
  have c:¬G.fr a:=λy=>absurd (u a y) (Nat.not_lt.mpr X.az)
  ⟨{B with fr:=λb=>G.fr b∨b=a},a,rfl,X.az,rfl,X.S.behind (rh:=B) (M:=bf) (x.2.weaken (M':=λb=>bf b∨j b) λb y=>.inr y) X.ge E (λb y=>(X.fr b).mpr (.inl (.inl y))),y.1,(X.Cr.go x.2 d (X.st.inv.dJ _ ((X.fr a).mpr (.inr rfl))) X.Ma λy=>c (f a y)).lT y.2 λZ e=>e,c,f⟩⟩
theorem bG.uG{e:ay}{I:cR}{g:hN}{t:bY af}{d:MI}{mt:MT}{bs:List MB}{b:MX}{own:List String}{c:Cell}(D:xb W n si e I g t d mt bs b own c)
 (f:∀J,∃p,aU e J=Ec e I J p t false (aU g.iter J)):bG W n si e (.comp d mt bs b own c):=λ{A J M G s ρ σ r} H st F h=>by
 refine aL (f J) λp T=>?_
 exact aa (T ..)<|D8 D H st F h λa C w B j i=>i.fin st.inv.b8 λb y=>(st.inv.b0 b y).2.1
theorem Ex.ym{e:ay}{tg:ay}{pos:bc}{I:cR}{g:hN}{t:bY af}{mi:MI}{mt sN:MT}{bs:List MB}{b:MX}{own:List String}{V:Cell}(D:xb W n si e I g t mi mt bs b own V)
 (Y:∀J use,∃p,evalThenUse e J use=(Ec e I J p t false (aU g.iter J) (some use)>>=λZ=>pure ()))
 (Qj:Et W n si tg sN) (Qh:∀J:bg,J.scope=si.sc->kq [tg] e pos.line J=pure true) (hx:∀J,gy [tg] J= [(false,iy tg J)]):
 Ex W n si (.Assign [tg] e pos) (.assign sN (.aI (.comp mi mt bs b own V))):=λ{A J M G s ρ σ r} rm st F h=>by
 refine ob h λq e1 h=>ob h λy e2 h1=>ob e1 λz e3 e1=>ob e1 λd hd e1=>?_
 obtain rfl:=aM e1
 obtain rfl:=aM h1
 refine aa (zi ..)<|aa (Qh _ F.sc ..) ?_
 refine ah (cQ (ah (aD ?_)))
 refine aa (if_pos rfl ..) ?_
 refine aL (Y J (λv=>assignAll v ((gy [tg] J).map (·.2)))) λp hp=>?_
 refine aa (hp ..) ?_
 refine ah (ah (D8 D rm st F e3 λa C w B j X=>?_))
 have jG:∀b,G.fr b->b<s.heap.objs.size:=λb y=>(st.inv.b0 b y).2.1
 have K:∀{b},b<s.heap.objs.size->¬j b:=λl y=>absurd l (Nat.not_lt.mpr (X.ge _ y))
 have T:B.ou=G.ou:=X.S.ou
 have m7:∀{b},s.heap.objs.size<=b->¬B.ou b:=λ{b} l y=>absurd (jG b (st.inv.b8 b (by exact aa (.symm (T ..))<|y))) (Nat.not_lt.mpr l)
 refine aA (kV (fr:=λb=>G.fr b∨j b) X.st (λb y=>(X.fr b).mpr (.inl y)) λb y=>.inl (st.inv.b8 b (by exact aa (.symm (T ..))<|y))) λE Kj=>?_
 have O:=(X.fr a).mpr (.inr rfl)
 have HJ:=(X.Cr.lT Kj (λZ e=>e)).rep ⟨λx=>(X.st.inv.cn a x).2.2.1 O,λy=>y.elim (λy=>absurd (jG a y) (Nat.not_lt.mpr X.az)) X.Ma,(X.st.inv.b0 a O).2.2⟩ hd
 have Ki:cH W G s.heap {B with fr:=λb=>G.fr b∨j b} w.heap:=⟨X.S.g,λb o e f=>⟨⟨λx=>(X.S.new b x).elim f.1 λy=>absurd (b9 e) (Nat.not_lt.mpr y),λy=>y.elim f.2.1 (K (b9 e)),f.2.2⟩,X.S.keep b o e f.1 (λx=>x) f.2.2 λx=>absurd x f.2.1⟩⟩
 have JY:aT W A {B with fr:=λb=>G.fr b∨j b} w.heap si J M ρ:=F.Wm X.S Ki (λZ x=>x) (λb y=>.inl (F.dg b y)) (λa x y=>⟨.inl x,by exact aa (T ..)<|y⟩) st.inv.dJ λc hc y=>y.elim id λy=>(K hc y).elim
 show ar _ _ (assignAll _ _) _ _ _
 refine aa (hx ..) ?_
 show ar _ _ (iy tg J (.ref a)) _ _ _
 refine kA (Qj rm E JY HJ e2) λtw H u Q xk=>?_
 have L:∀b,j b->H.fr b/\¬H.ou b:=λb y=>by exact aa (u.fr ..)<|aa (u.ou ..)<|⟨.inr y,m7 (X.ge b y)⟩
 have Fe:∀b,M b->¬j b:=λb x=>K (jG b (F.dg b x))
 refine qT X.ns λm o es ep e r=>?_
 refine⟨m,⟨o,es,ep,u.keep _ _ e (E.inv.dJ C (.inr X.MC)).1 (λx=>Fe C x X.MC) (E.inv.dJ C (.inr X.MC)).2 (λZ=>m7 (X.ge C X.MC)),r⟩,λQq P=>aD (aD ?_)⟩
 refine aA (Q.gp (s':={tw with heap:=Qq}) (M:=j) (λb y=>(L b y).1) (λb o nm e=>P.extBut b o (λq=>nm (by exact aa (q ..)<|X.MC)) e) (bN P.1.symm) rfl rfl) λR U=>?_
 have JZ:=xk.own U L Q.inv.dJ Fe λk c hc=>bP (F.cells _ _ hc) λZ Z Uz=>aL Uz λv i=>K i.lt
 have N:∀b,H.ou b->G.fr b:=λb y=>st.inv.b8 b (by exact aa (.symm (T ..))<|aa (.symm (show H.ou=B.ou from u.ou))<|y)
 refine aA (kV (fr:=G.fr) R (λb y=>by exact aa (u.fr ..)<| .inl y) N) λVC Kk=>?_
 exact .next (X.S.behind (nS:={B with fr:=λb=>G.fr b∨j b}) ((u.weaken λb y=>.inl y).trans (U.weaken λb y=>.inr y)) X.ge st.inv.b8 λb y=>.inl y) VC (JZ.to Kk (λZ x=>x) F.dg (λa Z y=>⟨N a y,y⟩) (λZ Z e=>e) (λc Z y=>by exact aa (u.fr ..)<| .inl y) R.inv.dJ)
end
end
section
theorem Cell.FX{c xs}(h:Cell.zQ c=some xs):c=.dict xs:=by induction c<;>first| exact aY h| exact congrArg _ (aM h)
section
variable {W:Wd} {n:Nat} {si:SI}
theorem Eh(o:bu)(f):(o.mapSeq f).dict=o.dict:=by
 obtain⟨c,d,V,H⟩:=o;induction V<;>rfl
theorem H6(o:bu)(f):(o.mapSeq f).slots=o.slots:=by
 obtain⟨c,d,V,H⟩:=o;induction V<;>rfl
theorem Dh{A:aO}{E:af->ai->Prop}{s:ai}{l:aq}{o:bu}{z:Array af}{k:Nat}{x:af}{Q:af->ai->Prop}(L:s.heap.get? l=some o)(O:o.cls=.type "list")(a:o.data=.seq z k)(J:z.size<=gF)
 (S:∀h' C f,h'.get? l=some C->C.cls=.type "list" ->C.dict=o.dict->C.slots=o.slots->C.data=.seq (z.push x) f->hO l s.heap h'->Q .none {s with heap:=h'}):
 ar W.M A (bM (.builtin "list.append") [.ref l,x]) Q E s:=by
 have hl:s.heap.IsList l z:=⟨o,L,O,k,a⟩
 refine aL (Ld a (·.push x)) λj B=>?_
 refine kz slot_list_append hl.typeIs entry_list_append ?_ (args_list_append _ _)
 show ar _ _ (l6 l (·.push x)>>=λZ=>CS .none) _ _ s
 refine ah ?_
 refine jn L a (aD ⟨.none,rfl,S _ _ _ (eI _ L (Le B)) ((Lc ..).trans O) (Eh ..) (H6 ..) B (ft ..)⟩) J (by exact aa (BK ..)<|Nat.succ_le_succ J)
theorem kZ{G:Gh}{s:ai}{σ:MH}{a:aq}{h':aN}{tk}(st:St W G s σ)(K:G.fr a)(B:hO a s.heap h'):St W G {s with heap:=h',toks:=tk} σ/\Step W (λb=>b=a) G s.heap G h':=
 st.gp (s':={s with heap:=h',toks:=tk}) (M:=λb=>b=a) (λb e=>e▸K) (λb o nm e=>B.extBut b o nm e) (bN B.1.symm) rfl rfl
theorem aT.one{G:Gh}{s:ai}{σ:MH}{a:aq}{h':aN}{J M ρ}(F:aT W A G s.heap si J M ρ)(st:St W G s σ)(S:Step W (λb=>b=a) G s.heap G h')(K:G.fr a)(f:¬G.ou a)(i:¬M a)(O:∀k c,J.cells.lookup k=some c->c≠a):aT W A G h' si J M ρ:=
 F.own S (λb e=>e▸⟨K,f⟩) st.inv.dJ (λb x e=>i (e▸x)) O
theorem BodyOk.elt{e m}(D:Ev W n si e m):BodyOk W n si (zZ e) (.elt m):=λ{A J M G s ρ σ a x r'} rm st F I f i R U h=>
 ob h λp V h=>ob h λds P h=>og h λd h=>sj h (ah (bR D rm st F V λ{j ak v} S g O r=>by
  obtain rfl:=Cell.qj P
  refine aA (U.go S (λZ y=>y.elim) (st.inv.dJ _ I) (λy=>y) f) λz u=>?_;refine jU u λo vs k e X w Y r4=>?_
  have l:j.fr a:=by exact aa (S.fr ..)<|I
  refine ah (Dh e X Y (size_le r4 z) λL C T t Q E H q B=>?_)
  refine aA (kZ (tk:=ak.toks) g l B) λN c=>?_
  have K:=c.ea (λb e=>e▸l)
  exact aD ⟨j,(S.weaken λZ y=>y.elim).trans (c.weaken λZ y=>.inr y),N,O.one g c l (by exact aa (S.ou ..)<|f) i R,by exact aa (bF ..)<|d,C,_,T,t,Q,⟨E.trans w.1,H.trans w.2⟩,q,by exact aa (BM ..)<|(r4.keep K).snoc (r.keep K)⟩))
theorem Ul{G h T R}(r:bC W G h T R)(k:aj):(T.any λc=>c.1=k)=(R.any λp=>p.1=k):=r.ind rfl λZ Z Z Z S=>by exact aa (pL ..)<|aa (pL ..)<|aa (S ..) rfl
theorem bC.Sa{G h v d}{k:aj}(r:Rep W G h v d){T:List (aj×af)}{R}(y:bC W G h T R):bC W G h (T.map λc=>if c.1=k then (c.1,v) else c) (R.map λp=>if p.1=k then (p.1,d) else p):=
 y.ind .nil λ{f _ _ _ _} a b u Z S=>by
  refine aa (eK ..)<|aa (eK ..) ?_
  by_cases C:f=k
  .exact aa (if_pos C ..)<|aa (if_pos C ..)<| .cons a b r S
  .exact aa (if_neg C ..)<|aa (if_neg C ..)<| .cons a b u S
theorem bC.snoc{G h v d}{k:aj}(m:fJ k=true)(g:k.length<=aP)(r:Rep W G h v d){T:List (aj×af)}{R}(y:bC W G h T R):bC W G h (T++ [(k,v)]) (R++ [(k,d)]):=
 y.ind (.cons m g r .nil) λa b u Z S=>.cons a b u S
theorem bC.put{G h T R v d}{k:aj}(y:bC W G h T R)(m:fJ k=true)(g:k.length<=aP)(r:Rep W G h v d):bC W G h (qz T k v) (eF R k d):=by
 delta qz eF
 refine aa (Ul y k ..) ?_
 split
 .exact y.Sa r
 .exact y.snoc m g r
theorem Ht{R:List (aj×D)}{k d}(h:R.length<aP):(eF R k d).length<=aP:=by
 delta eF
 split
 .exact aa (aZ ..)<|Nat.le_of_lt h
 .exact aa (bF ..)<|h
theorem BodyOk.kv{ek ev mk mv}(hk:Ev W n si ek mk)(hv:Ev W n si ev mv):BodyOk W n si (Ef ek ev) (.kv mk mv):=λ{A J M G s ρ σ a x r'} H st F C f Y O hx h=>
 ob h λp V h=>ob h λk u h=>ob h λq Q h=>ob h λei hd h=>og h λv h=>sj h (ah (bR hk H st F V λ{j ak U} P w E m=>ah (bz (bR hv H w E Q λ{d D X} c N i r=>by
  obtain rfl:=Cell.FX hd
  have S:=P.trans c
  refine bP (hx.go S (λZ y=>y.elim) (st.inv.dJ _ C) (λy=>y) f) λz ns B=>?_;refine aw B λT hD L=>?_
  have l:d.fr a:=by exact aa (S.fr ..)<|C
  refine m.c8 u λt k1 k2=>?_
  refine ah (cQ (bz (wpAny_dictSet_pairs (jI _ _) hD (λR I hs=>?_) (by exact aa (L.length ..)<|Nat.le_trans z f9))))
  refine aA (kZ (tk:=D.toks+1) N l hs) λg o=>?_
  have K:=o.ea (λb e=>e▸l)
  exact⟨d,(S.weaken λZ y=>y.elim).trans (o.weaken λZ y=>.inr y),g,i.one N o l (by exact aa (S.ou ..)<|f) Y O,Ht v,ns,_,I,(L.keep K).put k1 k2 (r.keep K)⟩))))
theorem BodyOk.inner{e:ay}{C:Nat}{g:hN}{t:af->bg->bY Unit}{mi:MI}{mt:MT}{bs:List MB}{b:MX}(l:f_ W e C)(hT:fw e C g t)(T:(D2 e)[C]?=some g)(S:g.is_async=0)
 (hi:du W n si g.target g.iter mi) (ht:Et W n si g.target mt) (Q:gv W n si g.ifs bs) (hb:BodyOk W n si t b) (hs:∀J x,ib g.iter J x=pure x):BodyOk W n si (zH e C g) (.inner mi mt bs b):=λ{A J M G s ρ σ a x r'} rm st F Y f hM hc hx h=>
 ob h λp e1 h=>ah (bD (hi rm st F e1) λv Z O=>ah (cQ (ah (hK (hs J v) (ah (bz (bD O λit b3 B=>eQ B λj ak P w hr=>Gi hr w (F.go st.inv P) λown I U X L=>by
  have E:=F.go st.inv P
  have m:=hx.go P (λZ y=>y.elim) (st.inv.dJ _ Y) (λy=>y) f
  have d:j.fr a:=by exact aa (P.fr ..)<|Y
  have alt:a<ak.heap.objs.size:=(w.inv.b0 a d).2.1
  have u:=m.lT L.K (L.keep _)
  have V:=D9 (G:={j with fr:=λa=>j.fr a∨own a}) l hT ht Q hb U ⟨rm,λc y=>⟨.inr y,L.no c y⟩,L.Mo,L.co,.inl d,hM,hc,λy=>absurd alt (Nat.not_lt.mpr (L.ge a y)),by exact aa (show j.ou=G.ou from P.ou)<|f⟩ L.st L.F u X h
  refine ah (wpAny_runOwn (g6 (Ea l T S V λq=>U.self X q) λr eZ R=>aA R λe N=>dG N λk o i H D=>?_))
  subst e
  have y:=ve (jx:=λc=>M c∨c=a) (M:=own) w.inv.b8 L.ge L.keep L.size (o.weaken λc y=>y.elim (λy=>Or.inl (Or.inl y)) λy=>y.elim Or.inr λy=>Or.inl (Or.inr y)) i
  exact aD ⟨_,(P.weaken λZ y=>y.elim).trans y.1,y.2.1,H.to y.2.2 (λZ x=>x) (λa x=>E.dg a x) (λa Z z=>⟨w.inv.b8 a (by exact aa (.symm (show k.ou=j.ou from o.ou))<|z),z⟩) (λZ Z e=>e) (λc Z y=>by exact aa (o.fr ..)<| .inl y) i.inv.dJ,D.lT y.2.2 λZ e=>e⟩)))))))
noncomputable def Aq:bu:={cls:=.type "list",dict:=none,data:=.seq ([]:List af).toArray}
theorem vR{A:aO}{E:af->ai->Prop}{s:ai}{Q:af->ai->Prop}(h:Q (.ref s.heap.objs.size) {s with heap:=s.heap.push Aq}):ar W.M A (Ap []) Q E s:=
 iS h (fW _)
theorem vQ(G:Gh)(h:aN)(a:aq)(_:a≠iR)(e:h.get? a=some Aq):cg W G h a none (.list []):=⟨by decide,Aq,_,_,e,rfl,⟨rfl,rfl⟩,rfl,.nil⟩
theorem bG.Ro{j f q:ay}{e:List ay}{I:cR}{R:bc}{d mt bs m own}(l:W.Ok)(z:jq si I own)(B:∀J x,ib q J x=pure x)
 (w:du W n si f q d) (T:Et W n (cC si I) f mt) (Q:gv W n (cC si I) e bs) (hb:Ev W n (cC si I) j m):
 bG W n si (.ListComp j [⟨f,q,e,0⟩] I R) (.comp d mt bs (.elt m) own (.list [])):=
 bG.uG (g:=⟨f,q,e,0⟩) ⟨l,⟨_,rfl⟩,rfl,B,z,⟨_,vR,rfl,vQ⟩,f_.list,w,T,Q,⟨_,fw.list1,BodyOk.elt hb⟩⟩ (λZ=>⟨_,rfl⟩)
theorem bG.Rp{j f q k i:ay}{e h:List ay}{I:cR}{R:bc}{d mt bs r b c m own}(l:W.Ok)(z:jq si I own)(B:∀J x,ib q J x=pure x)(H:∀J x,ib i J x=pure x)
 (w:du W n si f q d) (T:Et W n (cC si I) f mt) (Q:gv W n (cC si I) e bs)
 (t:du W n (cC si I) k i r) (L:Et W n (cC si I) k b) (p:gv W n (cC si I) h c) (hb:Ev W n (cC si I) j m):
 bG W n si (.ListComp j [⟨f,q,e,0⟩,⟨k,i,h,0⟩] I R) (.comp d mt bs (.inner r b c (.elt m)) own (.list [])):=
 bG.uG (g:=⟨f,q,e,0⟩) ⟨l,⟨_,rfl⟩,rfl,B,z,⟨_,vR,rfl,vQ⟩,f_.list,w,T,Q,⟨_,fw.F7,BodyOk.inner f_.list fw.F8 rfl rfl t L p (BodyOk.elt hb) H⟩⟩ (λZ=>⟨_,rfl⟩)
theorem Ex.Mv{tg j f q:ay}{e:List ay}{I:cR}{R o:bc}{d mt bs m own b}(l:W.Ok)(z:jq si I own)(B:∀J x,ib q J x=pure x)
 (w:du W n si f q d) (T:Et W n (cC si I) f mt) (Q:gv W n (cC si I) e bs) (hb:Ev W n (cC si I) j m)
 (L:Et W n si tg b) (a:∀J:bg,J.scope=si.sc->kq [tg] (.ListComp j [⟨f,q,e,0⟩] I R) o.line J=pure true) (U:∀J,gy [tg] J= [(false,iy tg J)]):
 Ex W n si (.Assign [tg] (.ListComp j [⟨f,q,e,0⟩] I R) o) (.assign b (.aI (.comp d mt bs (.elt m) own (.list [])))):=
 Ex.ym (g:=⟨f,q,e,0⟩) ⟨l,⟨_,rfl⟩,rfl,B,z,⟨_,vR,rfl,vQ⟩,f_.list,w,T,Q,⟨_,fw.list1,BodyOk.elt hb⟩⟩ (λZ Z=>⟨_,rfl⟩) L a U
theorem Ex.Mw{tg j f q k i:ay}{e h:List ay}{I:cR}{R o:bc}{d mt bs r b c m own u}(l:W.Ok)(z:jq si I own)(B:∀J x,ib q J x=pure x)(H:∀J x,ib i J x=pure x)
 (w:du W n si f q d) (T:Et W n (cC si I) f mt) (Q:gv W n (cC si I) e bs)
 (t:du W n (cC si I) k i r) (L:Et W n (cC si I) k b) (p:gv W n (cC si I) h c) (hb:Ev W n (cC si I) j m)
 (s:Et W n si tg u) (a:∀J:bg,J.scope=si.sc->kq [tg] (.ListComp j [⟨f,q,e,0⟩,⟨k,i,h,0⟩] I R) o.line J=pure true) (U:∀J,gy [tg] J= [(false,iy tg J)]):
 Ex W n si (.Assign [tg] (.ListComp j [⟨f,q,e,0⟩,⟨k,i,h,0⟩] I R) o) (.assign u (.aI (.comp d mt bs (.inner r b c (.elt m)) own (.list [])))):=
 Ex.ym (g:=⟨f,q,e,0⟩) ⟨l,⟨_,rfl⟩,rfl,B,z,⟨_,vR,rfl,vQ⟩,f_.list,w,T,Q,⟨_,fw.F7,BodyOk.inner f_.list fw.F8 rfl rfl t L p (BodyOk.elt hb) H⟩⟩ (λZ Z=>⟨_,rfl⟩) s a U
noncomputable def lV:bu:={cls:=.type "dict",dict:=none,data:=.dict #[]}
theorem Am{A:aO}{E:af->ai->Prop}{s:ai}{Q:af->ai->Prop}(h:Q (.ref s.heap.objs.size) {s with heap:=s.heap.push lV}):ar W.M A newDict Q E s:=
 iS h (fW _)
theorem vO(G:Gh)(h:aN)(a:aq)(ns:a≠iR)(e:h.get? a=some lV):cg W G h a none (.dict []):=
 ⟨by decide,ns,[],⟨lV,#[],0,e,⟨rfl,rfl,rfl⟩,rfl,by intro e D;simp at D,by first| exact .nil| trivial,by simp⟩,.nil⟩
theorem bG.Of{O u f q:ay}{e:List ay}{I:cR}{R:bc}{mi mt bs mk mv own}(l:W.Ok)(z:jq si I own)(B:∀J x,ib q J x=pure x)
 (w:du W n si f q mi) (T:Et W n (cC si I) f mt) (Q:gv W n (cC si I) e bs) (C:Ev W n (cC si I) O mk) (N:Ev W n (cC si I) u mv):
 bG W n si (.DictComp O u [⟨f,q,e,0⟩] I R) (.comp mi mt bs (.kv mk mv) own (.dict [])):=
 bG.uG (g:=⟨f,q,e,0⟩) ⟨l,⟨_,rfl⟩,rfl,B,z,⟨_,Am,rfl,vO⟩,f_.dict,w,T,Q,⟨_,fw.mN,BodyOk.kv C N⟩⟩ (λZ=>⟨_,rfl⟩)
theorem Ex.Mu{tg O u f q:ay}{e:List ay}{I:cR}{R o:bc}{mi mt bs mk mv own sN}(l:W.Ok)(z:jq si I own)(B:∀J x,ib q J x=pure x)
 (w:du W n si f q mi) (T:Et W n (cC si I) f mt) (Q:gv W n (cC si I) e bs) (C:Ev W n (cC si I) O mk) (N:Ev W n (cC si I) u mv)
 (L:Et W n si tg sN) (a:∀J:bg,J.scope=si.sc->kq [tg] (.DictComp O u [⟨f,q,e,0⟩] I R) o.line J=pure true) (U:∀J,gy [tg] J= [(false,iy tg J)]):
 Ex W n si (.Assign [tg] (.DictComp O u [⟨f,q,e,0⟩] I R) o) (.assign sN (.aI (.comp mi mt bs (.kv mk mv) own (.dict [])))):=
 Ex.ym (g:=⟨f,q,e,0⟩) ⟨l,⟨_,rfl⟩,rfl,B,z,⟨_,Am,rfl,vO⟩,f_.dict,w,T,Q,⟨_,fw.mN,BodyOk.kv C N⟩⟩ (λZ Z=>⟨_,rfl⟩) L a U
end
end
section
section
variable {W:Wd} {n:Nat} {si:SI}
theorem Out.grown{G:Gh}{s i:ai}{σ d v}(st:St W G s σ)(k:∀b o,s.heap.get? b=some o->i.heap.get? b=some o)(J:s.heap.objs.size<=i.heap.objs.size)(u:i.gens=s.gens)(L:i.os=s.os)
 (r:cH W G s.heap G i.heap->Rep W G i.heap v d):Out W G s σ d v i:=
 have x:=st.grow k J u L
 ⟨G,x.2,x.1,r (x.2.ea λZ x=>x.elim)⟩
theorem dy.grown{G:Gh}{s i:ai}{σ:MH}{c:Cell}{a:aq}(st:St W G s σ)(k:∀b o,s.heap.get? b=some o->i.heap.get? b=some o)(K:s.heap.objs.size<=a)(l:a<i.heap.objs.size)(u:i.gens=s.gens)(L:i.os=s.os)
 (O:∀G',cH W G s.heap G' i.heap->cg W G' i.heap a none c):dy W G s (c,σ) (.ref a) i:=
 have J:s.heap.objs.size<=i.heap.objs.size:=jy (ee K l)
 have x:=jE (b3:=i) (M:=λb=>b=a) st (λb e=>⟨e▸K,e▸l⟩) k J u L
 ⟨{G with fr:=λb=>G.fr b∨b=a},a,rfl,K,rfl,.all (λZ Z e=>e) (λZ Z e=>e) rfl (λZ x=>x) (λZ x=>.inl x) (λb o e Z=>k b o e) J,x.1,O _ x.2,λx=>absurd (st.inv.b0 a x).2.1 (Nat.not_lt.mpr K),st.inv.b8⟩
def CI(W:Wd)(n:Nat)(t:af->bY af)(f:D->MH->Option (Cell×MH)):Prop:=
 ∀{A G s σ v d r},br n A->St W G s σ->Rep W G s.heap v d->f d σ=some r->ar W.M A (t v) (dy W G s r) aF s
def CJ(W:Wd)(n:Nat)(t:af->af->bY af)(f:D->D->MH->Option (Cell×MH)):Prop:=
 ∀{A G s σ v u d e r},br n A->St W G s σ->Rep W G s.heap v d->Rep W G s.heap u e->f d e σ=some r->ar W.M A (t v u) (dy W G s r) aF s
theorem DS{A J M G s ρ σ r}{x:String}{p R:bc}{e:ay}{m:ME}{f:af}{Q:af->ai->Prop}(l:W.Ok)(B:iv W si x f)(I:isVal f=true)(D:Ev W n si e m)(U:∀J,bB [e] J= [(false,aU e J)])
 (H:br n A) (st:St W G s σ) (F:aT W A G s.heap si J M ρ) (V:m ρ σ=some r) (K:∀{j ak v},Step W bf G s.heap j ak.heap->St W j ak r.2->Rep W j ak.heap v r.1->ar W.M A (bM f [v] []) Q aF ak):
 ar W.M A (aU (.Call (.Name (au x) p) [e] [] R) J) Q aF s:=
 rU l B I (fF.of (dN.cons D dN.nil (by intro J;exact aa (U ..) rfl))) (by intro J;exact aa (U ..) rfl) (r:=([r.1],r.2)) H st F (by unfold aG;exact aa (V ..) rfl) λS g y=>y.d6 λa b=>b.iN (K S g a)
theorem Ev.yB{x p e R m f F}(l:W.Ok)(C:si.kind x=some .globalImplicit)(hb:(au x==("__debug__" :aj))=false)(u:W.mg (au x)=none)(z:W.mb (au x)=some f)(I:isVal f=true)
 (O:fH W n (λv=>bM f [v]) F) (D:Ev W n si e m) (U:∀J,bB [e] J= [(false,aU e J)]):Ev W n si (.Call (.Name (au x) p) [e] [] R) (.ax F m):=λH st Fr h=>
 ob h λq V h=>DS l ⟨C,hb,u,z⟩ I D U H st Fr V λS g r=>gG S (O H g r h)
theorem bG.yB{x p e R m f F}(l:W.Ok)(C:si.kind x=some .globalImplicit)(hb:(au x==("__debug__" :aj))=false)(u:W.mg (au x)=none)(z:W.mb (au x)=some f)(I:isVal f=true)
 (O:CI W n (λv=>bM f [v]) F) (D:Ev W n si e m) (U:∀J,bB [e] J= [(false,aU e J)]):bG W n si (.Call (.Name (au x) p) [e] [] R) (.ax F m):=λH st Fr h=>
 ob h λq V h=>DS l ⟨C,hb,u,z⟩ I D U H st Fr V λS g r=>BA S (O H g r h)
theorem Rj{A G s σ v d k}(st:St W G s σ)(r:Rep W G s.heap v d)(h:vg d σ=some k):ar W.M A (bM (.builtin "len") [v]) (Out W G s σ k) aF s:=by
 unfold vg at h
 split at h
 .rename_i x U
  exact sj h (r.c8 U λt f g=>P.len_str (Int.not_le.mpr (nv g)) (.tok st (.int _ _)))
 .refine ob h λxs U h=>sj h ?_
  refine yl st r U λ{a o b m T} e c p V y z=>?_
  have B:b.size=xs.length:=eX y
  rcases p with rfl| rfl
  .exact Calls.call_len_list ⟨o,e,c,m,V⟩ (by exact aa (B ..)<|nv z) (by exact aa (B ..)<| .tok st (.int _ _))
  .exact len_tuple (items:=b) ⟨o,e,c,m,V⟩ (by exact aa (B ..)<|nv z) (by exact aa (B ..)<| .tok st (.int _ _))
theorem Op.len:fH W n (λv=>bM (.builtin "len") [v]) bW:=fH.pure (t:=λv=>bM (.builtin "len") [v]) (f:=vg) λZ st r e=>Rj st r e
theorem Sg(l:aq)(z:Array af)(J:(z.size:Int)<2 ^ 63):kE (bE.«bool.__new__» ⟨[.type "bool",.ref l],[]⟩)
 (λZ R s=>s.heap.IsList l z/\R (.ok (.ret (.bool (!z.isEmpty)))) {s with toks:=s.toks+1+1}):=
 Meets.of_wp λprog w A R s B=>by
  refine aA B λhl B=>?_
  have r:=F.conv_sub_bool
  repeat (any_goals (first| assumption| (refine WW hl J ?_)| wp_step))
  all_goals first| exact⟨_,rfl,B⟩| skip
theorem Op.bool:fH W n (λv=>bM (.type "bool") [v]) yt:=fH.pure (t:=λv=>bM (.type "bool") [v]) (f:=ux) λH st L e=>by
 unfold ux at e
 split at e
 .rename_i xs U
  exact sj e (fL st L U λ{a P} hl y z=>call_bool_1 (Sg a P (by exact aa (eX y ..)<|nv z)) ⟨hl,CT _ _,by exact aa (u6 y ..)<| .tok st (.bool _)⟩)
 .exact ob e λb hb e=>sj e (L.ot hb (call_bool_bool (.now st (.bool _))))
theorem Op.str:fH W n (λv=>bM (.type "str") [v]) jR:=fH.pure (t:=λv=>bM (.type "str") [v]) (f:=nk) λH st L e=>by
 unfold nk at e
 split at e
 .rename_i b hb
  refine sj e (L.ot hb (P.str_of_bool (.tok st ?_)))
  induction b
  .exact .str _ _ (qA "False") (by decide)
  .exact .str _ _ (qA "True") (by decide)
 .refine ob e λp T e=>og e λg e=>sj e ?_
  refine aA (band g) λN E=>?_
  refine aA (band E) λE A=>?_
  refine aA (band A) λA o=>?_
  refine aA (band o) λo O=>?_
  refine aA (band O) λO c=>?_
  have o:=of_decide_eq_true o
  have O:=of_decide_eq_true O
  refine aL ((pb st 6 L T).rd) λas d=>?_
  refine aL (isRef_of_reads d A) λa B=>?_;obtain rfl:=B
  refine iT (str_of_reads d N (PyData.noDict_hsm (pn _▸E)) H.2.2.1 (by have:=H.units;omega) (λ_ _ e=>e) (λh' u h C J=>?_) (aE O f9))
  exact .grown st C J rfl rfl λ_=>.str _ _ c O
theorem xQ.list:CI W n (λv=>bM (.type "list") [v]) qk:=λ{A G s σ v d r} H st L e=>
 ob e λxs U e=>sj e (yl st L U λ{a o P m T} b c Z V y z=>
  call_list_seq a Z b c V (λh' p C u=>dy.grown st C (bb _) (b9 u) rfl rfl λG' K=>⟨z,_,P,p,u,rfl,⟨rfl,rfl⟩,rfl,y.keep K⟩) (size_le y z))
theorem N3{prog:eA}{w:eC}{A:aO}{E:af->ai->Prop}{s:ai}{Q:List af->ai->Prop}(it:aq){T:String}{o:bu}{z:Array af}{n:Nat}(p:T= "list" ∨T= "tuple")
 (L:s.heap.get? it=some o) (O:o.cls=.type T) (P:o.data=.seq z n)
 (S:∀h',(∀b C,s.heap.get? b=some C->h'.get? b=some C)->s.heap.objs.size<=h'.objs.size->Q z.toList {s with heap:=h'}) (hsz:z.size<=gF):
 ar (bX prog w) A (yZ (.ref it)) Q E s:=iT (WJ it p L O P (λh' a J=>S h' a J) hsz)
theorem Sj(l:aq)(o:bu)(z:Array af)(n:Nat)(O:o.cls=.type "list")(P:o.data=.seq z n)(hsz:z.size<=gF):
 kE (bE.«tuple.__new__» ⟨[.type "tuple",.ref l],[]⟩)
  (λZ R s=>s.heap.get? l=some o/\∀h':aN,(∀b C,s.heap.get? b=some C->h'.get? b=some C)->s.heap.objs.size<=h'.objs.size->R (.ok (.ret (.ref h'.objs.size))) {s with heap:=h'.push {cls:=.type "tuple",data:=.seq z}}):=
 .of_wp λprog w A R s h=>by
  obtain⟨i,g,d,f,os⟩:=s;refine aA h λT h=>?_
  have y:=VK
  have a:=QC
  have c:=R9
  have p:LK ⟨i,g,d,f,os⟩ (.ref l) "list" :=⟨o,T,O⟩
  wp_walk using dH T,wN p,N3 (hsz:=hsz) l (.inl rfl) T O P
  intro h' e J
  show ar _ _ (w8 z.toList.toArray>>=λv=>CS v) _ _ _
  unfold w8
  refine ah (iS ?_ (by show z.toList.toArray.size<=gF;exact aa (BL ..)<|hsz))
  refine aD ⟨_,rfl,?_⟩
  exact aa (BL ..)<|h h' e J
theorem Op.tuple:fH W n (λv=>bM (.type "tuple") [v]) wD:=fH.pure (t:=λv=>bM (.type "tuple") [v]) (f:=IG) λ{A G s σ v d r} H st L e=>
 ob e λxs U e=>sj e (oh st L U λ{a o P m} g c Z V y z=>
  DU JA (by decide) (JR _) (JF _) (λS=>Jy S _) JE
   (Sj a o P m c V (size_le y z)) ⟨g,λh' C p=>⟨⟨_,c5 _ rfl,rfl⟩,
     .grown st (λb o e=>bH _ (C b o e)) (by show _<=(h'.push _).objs.size;exact aa (c9 ..)<|Nat.le_succ_of_le p) rfl rfl λK=>
      .tup z ⟨λx=>absurd (st.inv.cn _ x).2.1 (Nat.not_lt.mpr p),λx=>absurd (st.inv.b0 _ x).2.1 (Nat.not_lt.mpr p),λq=>absurd (a9 st.inv.eO st.inv.size) (Nat.not_lt.mpr (q▸p))⟩ (c5 _ rfl) rfl ⟨rfl,rfl⟩ rfl (y.keep K)⟩⟩)
end
end
section
section
variable {W:Wd} {n:Nat} {si:SI}
theorem Ev.typ{x p t}(l:W.Ok)(C:si.kind x=some .globalImplicit)(hb:(au x==("__debug__" :aj))=false)(u:W.mg (au x)=none)(z:W.mb (au x)=some (.type t)):
 Ev W n si (.Name (au x) p) (.typ t):=λH st Fr h=>sj h (g8 l st Fr C hb (.inr ⟨u,z⟩) (.now st (.typ _)))
theorem Ev.Pm{x p}{i:Int}{f:de}(l:W.Ok)(C:si.kind x=some .globalImplicit)(hb:(au x==("__debug__" :aj))=false)(u:W.mg (au x)=some (.int i f)):
 Ev W n si (.Name (au x) p) (.int i):=λH st Fr h=>sj h (g8 l st Fr C hb (.inl u) (.now st (.int _ _)))
theorem Ev.Nj{x p e t R m d f F}(l:W.Ok)(C:si.kind x=some .globalImplicit)(hb:(au x==("__debug__" :aj))=false)(c:W.mg (au x)=none)(z:W.mb (au x)=some f)(I:isVal f=true)
 (O:bL W n (λv u=>bM f [v,u]) F) (D:Ev W n si e m) (w:Ev W n si t d) (U:∀J,bB [e,t] J= [(false,aU e J),(false,aU t J)]) (E:∀J,bB [t] J= [(false,aU t J)]):Ev W n si (.Call (.Name (au x) p) [e,t] [] R) (.bh F m d):=λH st Fr h=>
 ob h λq V h=>ob h λa b h=>
  rU l ⟨C,hb,c,z⟩ I (fF.of (dN.cons D (dN.cons w dN.nil (by intro J;exact aa (E ..) rfl)) (by intro J;exact aa (U ..)<|aa (E ..) rfl))) (by intro J;exact aa (U ..) rfl) (r:=([q.1,a.1],a.2)) H st Fr (by unfold aG;refine aa (V ..)<|aa (CL ..) ?_;unfold aG;exact aa (b ..) rfl)
   λS g y=>y.d6 λr Q=>Q.d6 λi Q=>Q.iN (gG S (O H g r i h))
theorem Wc{G h P j}(r:aQ W G h P j):∀{l},qI j=some l->P=l.map .type:=
 λ{l}=>r.ind (motive:=λP j=>∀l,qI j=some l->P=l.map .type) (λZ e=>sj e rfl) (λr Z S Z e=>ob e λt T e=>ob e λa g e=>sj e (r.Bl (motive:=λv Z=>v::_=_) T (congrArg _ (S _ g)))) l
@[elab_as_elim] theorem IJ{G h v d xs l}{motive:af->Prop}(r:Rep W G h v d)(U:d.kx=some xs)(T:qI xs=some l)(k:∀{a},h.get? a=some {cls:=.type "tuple",data:=.seq (l.map kF).toArray}->motive (.ref a)):motive v:=
  r.jm (motive:=λv Z=>motive v) U λ{a o P} z f e c dd V y=>k (by
   refine aa (e ..) ?_
   obtain⟨g,d,q,H⟩:=o
   refine aA dd λB R=>?_;obtain rfl:=B;obtain rfl:=R
   obtain rfl:=c
   obtain rfl:=V
   exact aa (.symm (Wc y T ..))<|aa (BL ..) rfl)
theorem Op.QM:bL W n (λv u=>bM (.builtin "isinstance") [v,u]) mY:=bL.pure (t:=λv u=>bM (.builtin "isinstance") [v,u]) (f:=zO) λ{A G s σ v u d e r} H st L J h=>by
 unfold zO at h
 split at h
 .rename_i t T
  exact ob h λx U h=>og h λe h=>sj h (J.Bl T (L.c8 U λ_ _ _=>by subst e;exact IsiPair.str_bytes (.tok st (.bool _))))
 .refine ob h λxs U h=>ob h λl g h=>ob h λI i h=>og h λe h=>sj h ?_
  subst e
  refine oh st L i λ{a o P m} b c _ V y z=>?_
  exact IJ J U g λD=>IsiPair.tupleOf (Tx:="list") (cs:=[.type "list",.type "tuple"]) (vs:=[true,false]) ⟨Answers.of_true (by rfl) wW,Answers.of_false_list (by decide) (by rfl) F.sub_list_tuple,trivial⟩ ⟨o,b,c⟩ D λj=>.tok st (.bool _)
theorem QO{prog:eA}{w:eC}{A:aO}{E:af->ai->Prop}{s:ai}{k:af}{a:Int}{f:de}{Q:Fin->ai->Prop}(C:k=.int a f)(y:Q (.done (.ret (.bool true))) s):
 ar (bX prog w) A (bE.«issubclass.nested» ⟨[.type "str",.type "str",k],[]⟩) Q E s:=by
 subst C
 have z:tD (.type "str")=pure (.type "type"):=rfl
 have b:jJ (.type "str") (.type "str")=pure true:=by refine aa (eE ..) ?_;kernel_rfl
 repeat (any_goals (first| assumption| (rw [b])| wp_step))
theorem QP{prog:eA}{w:eC}{A:aO}{E:af->ai->Prop}{s:ai}{tp:aq}{f:de}{Q:Fin->ai->Prop}(z:List af)(b:z= [kF "str",.type "bytes"])(c:s.heap.get? tp=some {cls:=.type "tuple",data:=.seq z.toArray})
 (y:Q (.done (.ret (.bool true))) s):ar (bX prog w) A (bE.«issubclass.nested» ⟨[.type "str",.ref tp,.int 0 f],[]⟩) Q E s:=by
 obtain⟨h,g,d,t,os⟩:=s
 have a:(⟨h,g,d,t,os⟩:ai).TypeIs (.ref tp) "tuple" :=⟨_,c,rfl⟩
 have r:=F.isi_sub_tuple
 repeat (any_goals (first| assumption| wp_step))
 refine wpAny_arrayLoop ?_
 simp only [ue,List.toList_toArray]
 refine aa (b ..) ?_
 simp only [rD]
 refine ah (ah (call_function_meets (S:=λZ R s=>R (.ok (.ret (.bool true))) s) (show builtinKind "issubclass.nested" =none by decide+kernel) (show v8 "issubclass.nested" =true by decide+kernel) F.entry_issubclass_nested
  (by unfold gj;kernel_rfl) (.of_wp λprog w A R s B=>QO rfl ⟨_,rfl,B⟩) ?_))
 repeat (any_goals (first| assumption| wp_step))
theorem Op.QN:bL W n (λv u=>bM (.builtin "issubclass") [v,u]) FK:=bL.pure (t:=λv u=>bM (.builtin "issubclass") [v,u]) (f:=FJ) λ{A G s σ v u d e r} H st L J h=>
 ob h λt T h=>ob h λxs U h=>ob h λl g h=>og h λe h=>sj h (by
  refine aA e λj C=>?_;obtain rfl:=j;obtain rfl:=C
  refine L.Bl T (IJ J U g λ{a} D=>?_)
  exact call_issubclass (S:=λZ R s=>s.heap.get? a=some {cls:=.type "tuple",data:=.seq [kF "str",.type "bytes"].toArray}/\R (.ok (.ret (.bool true))) s) (λZ Z Z Z Z B=>issubclass_outer (QP _ rfl B.1 B.2)) ⟨D,.now st (.bool _)⟩)
theorem Op.type:fH W n (λv=>bM (.type "type") [v]) II:=fH.pure (t:=λv=>bM (.type "type") [v]) (f:=IH) λH st L h=>
 ob h λx U h=>sj h (L.c8 U λZ Z Z=>call_type_of (pW _ _ _) (by decide) (.now st (.typ _)))
end
end
section
open PySem.SeqAt PySem.MeetsSeq PySem.MeetsSeq2 PySem.MeetsSeq3 PySem.SeqRoads2
def gJ(op:mj)(A:aO)(s:ai)(y x:af)(b:Bool):Prop:=
 ∀(prog:eA) (w:eC) (E:af->ai->Prop) (Q:af->ai->Prop),Q (.bool b) s->ar (bX prog w) A (richCompare op y x) Q E s
noncomputable def gS (e c:Nat->Bool) (v:Bool):Nat->Nat->Bool
 | 0,_=>v
 | k+1,i=>if e i then gS e c v k (i+1) else c i
theorem G6{o:bu}{c:af}{z:Array af}{n:Nat}(h:o.cls=c)(d:o.data=.seq z n):o= {cls:=c,dict:=o.dict,data:=.seq z n,slots:=o.slots}:=h▸d▸rfl
theorem sF{T:aN}{l:aq}{z:Array af}{P:Prop}(h:T.IsList l z)(k:∀dd n H,T.get? l=some {cls:=.type "list",dict:=dd,data:=.seq z n,slots:=H}->P):P:=
 bI h λo e c q=>q.elim λn d=>k o.dict n o.slots (e.trans (congrArg _ (G6 c d)))
theorem IE{T:aN}{l:aq}{z:Array af}{P:Prop}(h:T.IsTuple l z)(k:∀dd n H,T.get? l=some {cls:=.type "tuple",dict:=dd,data:=.seq z n,slots:=H}->P):P:=
 bI h λo e c q=>q.elim λn d=>k o.dict n o.slots (e.trans (congrArg _ (G6 c d)))
def Lx(t:String)(op:mj)(l b:aq)(xs I:Array af)(n U:Nat)(dd o:Option aq)(H V:Array (Option af))(e c:Nat->Bool)(A:aO)(s:ai):Prop:=
 s.heap.get? l=some {cls:=.type t,dict:=dd,data:=.seq xs n,slots:=H}/\s.heap.get? b=some {cls:=.type t,dict:=o,data:=.seq I U,slots:=V}/\
 (∀j (N:j<xs.size) (E:j<I.size),EqAt A.in1 s xs[j] I[j] (e j))/\(∀j (N:j<xs.size) (E:j<I.size),e j=false->gJ op A.in1 s xs[j] I[j] (c j))
theorem kG{xs:Array af}{i:Nat}(h:i<xs.size):xs[((i:Nat):Int).toNat]?=some xs[i]:=I5 h
theorem uj{xs:Array af}{i:Nat}(h:¬i<xs.size):xs[((i:Nat):Int).toNat]?=none:=tO (Nat.not_lt.mp h)
theorem kX{m i k:Nat}(h:m - i=k+1):i<m:=Nat.lt_of_sub_pos (h▸CG k)
theorem m5{m i k:Nat}(h:m - i=k+1):m - (i+1)=k:=congrArg Nat.pred h
theorem RN(l b:aq)(xs I:Array af)(n U:Nat)(dd o:Option aq)(H V:Array (Option af))(e c:Nat->Bool)(k:Nat):
 ∀i:Nat,min xs.size I.size - i=k->kE (bE.«list.__eq__.loop» ⟨[.ref l,.ref b,gE i,gE 0],[]⟩)
  (λA R s=>Lx "list" .Lt l b xs I n U dd o H V e c A s/\R (.ok (.ret (.bool (gS e c (decide (xs.size<I.size)) k i)))) s):=by
 induction k with
 | zero=>
  intro i C prog w A R s h
  obtain⟨T,g,d,f,os⟩:=s;refine aA h λp h=>eP p λhl hb D O=>?_
  wp_walk using dH hl,dH hb
  by_cases N:i<xs.size
  .refine aa (kG N)<|aa (uj λE=>Nat.not_lt.mpr (pS C) (Nat.lt_min.mpr ⟨N,E⟩)) ?_
   wp_walk using dH hl,dH hb
   exact h
  .refine aa (uj N) ?_
   wp_walk using dH hl,dH hb
   exact h
 | succ k S=>
  intro i C prog w A R s h
  obtain⟨T,g,d,f,os⟩:=s;refine aA h λp h=>eP p λhl hb D O=>?_
  wp_walk using dH hl,dH hb
  refine aA (Nat.lt_min.mp (kX C)) λN E=>?_
  refine aa (kG N)<|aa (kG E) ?_
  refine ah (D i N E prog w _ _ ?_)
  rw [gS] at h
  induction z:e i with
  | true=>
   rw [z] at h
   wp_walk
   exact⟨g_ plain_eq_loop _,fN entry_eq_loop (aa (gH plain_eq_loop _) (S (i+1) (m5 C) prog w A R _ ⟨p,h⟩))⟩
  | false=>
   rw [z] at h
   wp_walk using dH hl,dH hb
   refine aa (kG N)<|aa (kG E) ?_
   exact ah (O i N E z prog w _ _ (aD h))
theorem Rw(l b:aq)(xs I:Array af)(n U:Nat)(dd o:Option aq)(H V:Array (Option af))(e c:Nat->Bool):
 kE (bE.«list.__lt__» ⟨[.ref l,.ref b],[]⟩) (λA R s=>Lx "list" .Lt l b xs I n U dd o H V e c A s/\R (.ok (.ret (.bool (gS e c (decide (xs.size<I.size)) (min xs.size I.size) 0)))) s):=by
 intro prog w A R s h
 obtain⟨T,g,d,f,os⟩:=s;refine aA h λp q=>eP p λhl hb D O=>?_
 have C:=wW
 wp_walk using dH hl,dH hb
 exact⟨g_ plain_eq_loop _,fN entry_eq_loop (aa (gH plain_eq_loop _) (RN l b xs I n U dd o H V e c _ 0 rfl prog w A R _ h))⟩
theorem NS{A:aO}{s:ai}{l b:aq}{xs I:Array af}{e c:Nat->Bool}(hl:s.heap.IsList l xs)(hb:s.heap.IsList b I)(f:A.units<ox)
 (D:∀j (N:j<xs.size) (Z:j<I.size),EqAt A.in1 s xs[j] I[j] (e j)) (O:∀j (N:j<xs.size) (Z:j<I.size),e j=false->gJ .Lt A.in1 s xs[j] I[j] (c j)):
 gJ .Lt A s (.ref l) (.ref b) (gS e c (decide (xs.size<I.size)) (min xs.size I.size) 0):=λprog w E Q h=>
 sF hl λdd n H L=>sF hb λo U V m=>HE (op:=.Lt) ⟨_,L,rfl⟩ ⟨_,m,rfl⟩ F.slot_list_lt F.entry_list_lt (F.args_list_lt_2 _ _) (Rw l b xs I n U dd o H V e c)
  ⟨⟨L,m,D,O⟩,show n9 _≠C1/\Q (.bool _) s from⟨(λx=>nomatch x),h⟩⟩ f
theorem Pn(l b:aq)(xs I:Array af)(n U:Nat)(dd o:Option aq)(H V:Array (Option af))(e c:Nat->Bool)(k:Nat):
 ∀i:Nat,min xs.size I.size - i=k->kE (bE.«list.__eq__.loop» ⟨[.ref l,.ref b,gE i,gE 4],[]⟩)
  (λA R s=>Lx "list" .Gt l b xs I n U dd o H V e c A s/\R (.ok (.ret (.bool (gS e c (decide (xs.size>I.size)) k i)))) s):=by
 induction k with
 | zero=>
  intro i C prog w A R s h
  obtain⟨T,g,d,f,os⟩:=s;refine aA h λp h=>eP p λhl hb D O=>?_
  wp_walk using dH hl,dH hb
  by_cases N:i<xs.size
  .refine aa (kG N)<|aa (uj λE=>Nat.not_lt.mpr (pS C) (Nat.lt_min.mpr ⟨N,E⟩)) ?_
   wp_walk using dH hl,dH hb
   exact h
  .refine aa (uj N) ?_
   wp_walk using dH hl,dH hb
   exact h
 | succ k S=>
  intro i C prog w A R s h
  obtain⟨T,g,d,f,os⟩:=s;refine aA h λp h=>eP p λhl hb D O=>?_
  wp_walk using dH hl,dH hb
  refine aA (Nat.lt_min.mp (kX C)) λN E=>?_
  refine aa (kG N)<|aa (kG E) ?_
  refine ah (D i N E prog w _ _ ?_)
  rw [gS] at h
  induction z:e i with
  | true=>
   rw [z] at h
   wp_walk
   exact⟨g_ plain_eq_loop _,fN entry_eq_loop (aa (gH plain_eq_loop _) (S (i+1) (m5 C) prog w A R _ ⟨p,h⟩))⟩
  | false=>
   rw [z] at h
   wp_walk using dH hl,dH hb
   refine aa (kG N)<|aa (kG E) ?_
   exact ah (O i N E z prog w _ _ (aD h))
theorem Rv(l b:aq)(xs I:Array af)(n U:Nat)(dd o:Option aq)(H V:Array (Option af))(e c:Nat->Bool):
 kE (bE.«list.__gt__» ⟨[.ref l,.ref b],[]⟩) (λA R s=>Lx "list" .Gt l b xs I n U dd o H V e c A s/\R (.ok (.ret (.bool (gS e c (decide (xs.size>I.size)) (min xs.size I.size) 0)))) s):=by
 intro prog w A R s h
 obtain⟨T,g,d,f,os⟩:=s;refine aA h λp q=>eP p λhl hb D O=>?_
 have C:=wW
 wp_walk using dH hl,dH hb
 exact⟨g_ plain_eq_loop _,fN entry_eq_loop (aa (gH plain_eq_loop _) (Pn l b xs I n U dd o H V e c _ 0 rfl prog w A R _ h))⟩
theorem NR{A:aO}{s:ai}{l b:aq}{xs I:Array af}{e c:Nat->Bool}(hl:s.heap.IsList l xs)(hb:s.heap.IsList b I)(f:A.units<ox)
 (D:∀j (N:j<xs.size) (Z:j<I.size),EqAt A.in1 s xs[j] I[j] (e j)) (O:∀j (N:j<xs.size) (Z:j<I.size),e j=false->gJ .Gt A.in1 s xs[j] I[j] (c j)):
 gJ .Gt A s (.ref l) (.ref b) (gS e c (decide (xs.size>I.size)) (min xs.size I.size) 0):=λprog w E Q h=>
 sF hl λdd n H L=>sF hb λo U V m=>HE (op:=.Gt) ⟨_,L,rfl⟩ ⟨_,m,rfl⟩ F.slot_list_gt F.entry_list_gt (F.args_list_gt_2 _ _) (Rv l b xs I n U dd o H V e c)
  ⟨⟨L,m,D,O⟩,show n9 _≠C1/\Q (.bool _) s from⟨(λx=>nomatch x),h⟩⟩ f
theorem IZ{xs I:Array af}:(xs.toList.zip I.toList).length=min xs.size I.size:=KP
theorem Xc{xs I:Array af}{i:Nat}(h: []=(xs.toList.zip I.toList).drop i):min xs.size I.size - i=0:=IZ▸List.length_drop.symm.trans (congrArg pN h).symm
theorem Xb{xs I:Array af}{i:Nat}{y x:af}{r:List (af×af)}{P:Prop}(h:(y,x)::r=(xs.toList.zip I.toList).drop i)(k:∀(N:i<xs.size) (E:i<I.size),y=xs[i]->x=I[i]->r=(xs.toList.zip I.toList).drop (i+1)->P):P:=by
 have K:i<(xs.toList.zip I.toList).length:=K8 λh'=>by rw [List.drop_of_length_le h'] at h;cases h
 have z:=Nat.lt_min.mp (IZ▸K)
 rw [Ce K,KG] at h
 exact aA (rz h) λe m=>aA (lF e) λj a=>k z.1 z.2 j a m
theorem V8(l b:aq)(xs I:Array af)(n U:Nat)(dd o:Option aq)(H V:Array (Option af))(e c:Nat->Bool):
 kE (bE.«tuple.__gt__» ⟨[.ref l,.ref b],[]⟩) (λA R s=>Lx "tuple" .Gt l b xs I n U dd o H V e c A s/\R (.ok (.ret (.bool (gS e c (decide (xs.size>I.size)) (min xs.size I.size) 0)))) s):=
 .of_wp λprog w A R s h=>by
  obtain⟨T,g,d,f,os⟩:=s;refine aA h λp h=>eP p λhl hb D O=>?_
  have v:=I9
  wp_walk using dH hl,dH hb,wpAny_forIn_list _ (λrest b Z=>b.1=none/\Z=⟨T,g,d,f,os⟩/\∃i k,min xs.size I.size - i=k/\rest=(xs.toList.zip I.toList).drop i/\
   R (.ok (.ret (.bool (gS e c (decide (xs.size>I.size)) k i)))) ⟨T,g,d,f,os⟩) _
  case turn=>
   rintro ⟨y,x⟩ rest b Z ⟨lR,rfl,i,k,hk,hz,hR⟩
   refine Xb hz λN E j a m=>?_
   subst j a
   have z:=Nat.lt_min.mpr ⟨N,E⟩
   induction k with
   | zero=>exact absurd z (Nat.not_lt.mpr (pS hk))
   | succ k _=>
    rw [gS] at hR
    refine ah (D i N E prog w _ _ ?_)
    induction t:e i with
    | true=>
     rw [t] at hR
     wp_walk
     exact⟨rfl,rfl,i+1,k,m5 hk,m,hR⟩
    | false=>
     rw [t] at hR
     simp only [Bool.not_false,if_true]
     refine ah (nH ?_)
     refine ah (O i N E t prog w _ _ ?_)
     wp_walk
     exact⟨_,rfl,hR⟩
  case fin=>
   rintro ⟨q,K⟩ Z ⟨lR,rfl,i,k,hk,hz,hR⟩
   simp only at lR
   subst lR
   rw [Xc hz] at hk
   subst hk
   wp_walk
   exact⟨_,rfl,hR⟩
  case h=>exact⟨rfl,rfl,0,_,rfl,rfl,h⟩
theorem NU{A:aO}{s:ai}{l b:aq}{xs I:Array af}{e c:Nat->Bool}(hl:s.heap.IsTuple l xs)(hb:s.heap.IsTuple b I)(f:A.units<ox)
 (D:∀j (N:j<xs.size) (Z:j<I.size),EqAt A.in1 s xs[j] I[j] (e j)) (O:∀j (N:j<xs.size) (Z:j<I.size),e j=false->gJ .Gt A.in1 s xs[j] I[j] (c j)):
 gJ .Gt A s (.ref l) (.ref b) (gS e c (decide (xs.size>I.size)) (min xs.size I.size) 0):=λprog w E Q h=>
 IE hl λdd n H L=>IE hb λo U V m=>HE (op:=.Gt) ⟨_,L,rfl⟩ ⟨_,m,rfl⟩ F.slot_tuple_gt F.entry_tuple_gt (F.args_tuple_gt_2 _ _) (V8 l b xs I n U dd o H V e c)
  ⟨⟨L,m,D,O⟩,show n9 _≠C1/\Q (.bool _) s from⟨(λx=>nomatch x),h⟩⟩ f
theorem NQ{A:aO}{s:ai}(gt:Bool)(a b:Int)(t u:de):gJ (if gt then .Gt else .Lt) A s (.int a t) (.int b u) (if gt then decide (a>b) else decide (a<b)):=λprog w E Q h=>by
 induction gt
 .exact wg (op:=.Lt) (xZ s _ t) (xZ s _ u) F.slot_int_lt F.entry_int_lt (F.args_int_lt_2 _ _) (gives_int_lt _ _ t u) (λx=>nomatch x) h
 .exact wg (op:=.Gt) (xZ s _ t) (xZ s _ u) F.slot_int_gt JC (Jw _ _) (gives_int_gt _ _ t u) (λx=>nomatch x) h
theorem NT{A:aO}{s:ai}(gt:Bool)(a b:aj)(t u:de):gJ (if gt then .Gt else .Lt) A s (.str a t) (.str b u) (if gt then decide (b.cps.toList<a.cps.toList) else decide (a.cps.toList<b.cps.toList)):=λprog w E Q h=>by
 induction gt
 .exact wg (op:=.Lt) (pW s _ t) (pW s _ u) F.slot_str_lt F.entry_str_lt (F.args_str_lt_2 _ _) (gives_str_lt _ _ t u) (λx=>nomatch x) h
 .exact wg (op:=.Gt) (pW s _ t) (pW s _ u) F.slot_str_gt F.entry_str_gt (F.args_str_gt_2 _ _) (gives_str_gt _ _ t u) (λx=>nomatch x) h
theorem NO{A:aO}{s:ai}(a b:Bool):gJ .Gt A s (.bool a) (.bool b) (a && !b):=λprog w E Q h=>by
 refine wg (op:=.Gt) (CT s _) (CT s _) F.slot_bool_gt JC (Jw _ _) (m:=.val (.bool (a && !b))) (by induction a<;>induction b<;>exact .of_eq rfl) (λx=>nomatch x) h
end
section
open PySem.SeqAt PySem.MeetsSeq PySem.MeetsSeq2 PySem.MeetsSeq3 PySem.SeqRoads2
noncomputable def Sz:String->mj->bE:=(⟨_,rfl⟩: {f:String->mj->bE // bE.«max.loop»=f "max" .Gt}).1
noncomputable def SA:String->bE:=(⟨_,rfl⟩: {f:String->bE // bE.«max»=f "max"}).1
structure MM(n m:String)(op:mj):Prop where
 hn:toString n++toString ".loop" =m
 el:i_ jl m=some (Sz n op)
 pl:v8 m=true
 k:builtinKind n=none
 p:v8 n=true
 e:i_ jl n=some (SA n)
 a:∀a,gj n {pos:=[a]}
theorem SE:MM "max" "max.loop" .Gt:=⟨by decide,F.entry_max_loop,F.plain_max_loop,F.kind_max,F.plain_max,F.entry_max,F.args_max1⟩
theorem SD:MM "min" "min.loop" .Lt:=⟨by decide,F.entry_min_loop,F.plain_min_loop,F.kind_min,F.plain_min,F.entry_min,F.args_min1⟩
section
variable {nm m:String} {op:mj} {prog:eA} {w:eC} {A:aO} {R:hZ->ai->Prop} {I:aq} {fp wr:List aq} {n:Nat} {P:Nat->af->Prop} {St:Nat->aN->Prop}
theorem NY(M:MM nm m op)(W:Walks prog w A.in1 I fp wr n P St)(x:Nat->Nat->Bool)(S:aq)(G:aN)
 (J:∀i j vi vj (Y:ai),(∀b o,b∉wr->b≠S->G.get? b=some o->Y.heap.get? b=some o)->P i vi->P j vj->gJ op A.in1 Y vi vj (x i j)) (z:S∉fp):
 ∀(k j:Nat) (s:ai) (y:af) (c:Nat),n - (j+1)=k->j+1<=n->St (j+1) s.heap->P (eR x j) y->(∀b o,b∉wr->b≠S->G.get? b=some o->s.heap.get? b=some o)->
 s.heap.get? S=some {cls:=.type "list",dict:=none,data:=.seq #[y,y] c,slots:= #[]}->
 (∀v h' f,P (eR x (n - 1)) v->(∀b o,b∉wr->b≠S->s.heap.get? b=some o->h'.get? b=some o)->R (.ok (.ret v)) {s with heap:=h',toks:=f})->
 eU (bX prog w) A (.builtin m ⟨[.ref I,.none,.ref S],[]⟩) R s:=by
 have L:S∉wr:=λh=>z (W.sub _ h)
 intro k
 induction k with
 | zero=>
  intro j s y c C F q a t V r
  have D:j+1=n:=CD F (pS C)
  refine fN M.el ?_
  refine aa (gH M.pl _ ..) ?_
  show ar _ A.in1 (qw (.ref S)>>=_) _ _ s
  refine ah (lb V rfl ?_)
  show ar _ A.in1 (tryCatch (f7 (.ref I)) _>>=_) _ _ s
  refine ah (wM (W.done s _ _ (D▸q) λh' f E=>?_))
  have d:=E S _ L V
  show ar _ A.in1 (l6 S (λZ=> #[])>>=_) _ _ _
  refine ah ?_
  refine jn d rfl (ah (qN (aD ?_)))
  refine r y _ f (by exact aa (.symm (D ..))<|a) λb o O N e=>(gf _ _ (Ne.symm N)).trans (E b o O e)
 | succ k X=>
  intro j s y c C F q a t V r
  have K:j+1<n:=kX C
  refine fN M.el ?_
  refine aa (gH M.pl _ ..) ?_
  show ar _ A.in1 (qw (.ref S)>>=_) _ _ s
  refine ah (lb V rfl ?_)
  show ar _ A.in1 (tryCatch (f7 (.ref I)) _>>=_) _ _ s
  refine ah (wM (W.item (j+1) s _ _ K q λv h' f B T E=>?_))
  have d:=E S _ L V
  have g:∀b o,b∉wr->b≠S->G.get? b=some o->h'.get? b=some o:=λb o hb hs e=>E b o hb (t b o hb hs e)
  show ar _ A.in1 (tryCatch (kf [v,v] (richCompare op v y>>=_)) _>>=_) _ _ _
  refine ah (wM (bz (ah (J (j+1) (eR x j) v y _ g B a prog w _ _ ?_))))
  refine ah (bz (IU ?_))
  refine ah (qN (aD ?_))
  induction hb:x (j+1) (eR x j) with
  | true=>
   refine ah ?_
   refine jn d rfl (ah (qN ?_))
   refine aa M.hn ?_
   refine aD ⟨g_ M.pl _,X (j+1) _ v _ (m5 C) K (W.frame _ _ _ T λb u o e=>?_) (by unfold eR;exact aa (if_pos hb) B) (λb o O N e=>?_) (eI _ d rfl)
    λH l U p Q=>?_⟩
   .exact(gf _ _ (λh:S=b=>z (by exact aa (h ..)<|u))).trans e
   .exact(gf _ _ (Ne.symm N)).trans (g b o O N e)
   .exact r H l U p λb o O N e=>Q b o O N ((gf _ _ (Ne.symm N)).trans (E b o O e))
  | false=>
   refine ah (qN ?_)
   refine aa M.hn ?_
   refine aD ⟨g_ M.pl _,X (j+1) _ y c (m5 C) K T (by unfold eR;exact aa (if_neg (by rw [hb];nofun)) a) g d λH l U p Q=>?_⟩
   exact r H l U p λb o O N e=>Q b o O N (E b o O e)
theorem NZ(M:MM nm m op)(W:Walks prog w A.in1 I fp wr n P St)(x:Nat->Nat->Bool)(S:aq){s:ai}
 (J:∀i j t u (k:ai),(∀b o,b∉wr->b≠S->s.heap.get? b=some o->k.heap.get? b=some o)->P i t->P j u->gJ op A.in1 k t u (x i j)) (z:S∉fp) (G:0<n) {c:Nat} (q:St 0 s.heap)
 (V:s.heap.get? S=some {cls:=.type "list",dict:=none,data:=.seq #[] c,slots:= #[]})
 (r:∀v h' f,P (eR x (n - 1)) v->(∀b o,b∉wr->b≠S->s.heap.get? b=some o->h'.get? b=some o)->R (.ok (.ret v)) {s with heap:=h',toks:=f}):
 eU (bX prog w) A (.builtin m ⟨[.ref I,.none,.ref S],[]⟩) R s:=by
 have L:S∉wr:=λh=>z (W.sub _ h)
 refine fN M.el ?_
 refine aa (gH M.pl _ ..) ?_
 show ar _ A.in1 (qw (.ref S)>>=_) _ _ s
 refine ah (lb V rfl ?_)
 show ar _ A.in1 (tryCatch (f7 (.ref I)) _>>=_) _ _ s
 refine ah (wM (W.item 0 s _ _ G q λv h' f g T E=>?_))
 have d:=E S _ L V
 show ar _ A.in1 (l6 S (λZ=> #[v,v])>>=_) _ _ _
 refine ah ?_
 refine jn d rfl ?_
 refine aa M.hn ?_
 refine aD ⟨g_ M.pl _,NY M W x S s.heap J z _ 0 _ v _ rfl G (W.frame _ _ _ T λb a o e=>?_) g (λb o O N e=>?_) (eI _ d rfl) λH l U p Q=>?_⟩
 .exact(gf _ _ (λh:S=b=>z (by exact aa (h ..)<|a))).trans e
 .exact(gf _ _ (Ne.symm N)).trans (E b o O e)
 .exact r H l U p λb o O N e=>Q b o O N ((gf _ _ (Ne.symm N)).trans (E b o O e))
end
section
variable {n m:String} {op:mj} {prog:eA} {w:eC} {A:aO} {E:af->ai->Prop} {s:ai}
theorem DV(M:MM n m op){l:aq}{z:Array af}{Q:af->ai->Prop}(D:A.handled=none)(x:Nat->Nat->Bool)(hl:s.heap.IsList l z)(G:0<z.size)
 (J:∀(i j:Nat) t u (Z:ai),(∀b o,s.heap.get? b=some o->Z.heap.get? b=some o)->z[i]?=some t->z[j]?=some u->gJ op A.in1 Z t u (x i j))
 (S:∀v h' f,z[eR x (z.size - 1)]?=some v->(∀b o,s.heap.get? b=some o->h'.get? b=some o)->Q v {s with heap:=h',toks:=f}):
 ar (bX prog w) A (bM (.builtin n) [.ref l]) Q E s:=by
 refine call_function_tree M.k M.p M.e (M.a _) ?_
 show ar _ A.in1 (Jf n ["key","default"] 0 ⟨[],[]⟩>>=_) _ _ s
 refine ah (hK (show Jf n ["key","default"] 0 ⟨[],[]⟩=pure [none,none] from rfl) ?_)
 refine ah (aD ?_)
 refine ah (tH hl ?_)
 refine ah (iS ?_)
 refine aa M.hn ?_
 refine bI (id hl) λo B c q=>?_
 have K:l<s.heap.objs.size:=b9 B
 have y:(s.heap.push {cls:=.type "list_iterator",data:=.fields #[.ref l,.int 0 0]}).objs.size=s.heap.objs.size+1:=c9 ..
 have h:l≠s.heap.objs.size:=bj K
 have d:∀b o,s.heap.get? b=some o->b≠s.heap.objs.size/\b≠(s.heap.push {cls:=.type "list_iterator",data:=.fields #[.ref l,.int 0 0]}).objs.size:=λb o e=>by
  have N:=b9 e
  refine⟨bj N,?_⟩
  exact aa (y ..)<|Nat.ne_of_lt (fG N)
 refine aD ⟨g_ M.pl _,NZ M (Walks.list (A:=A.in1) D s.heap.objs.size l h z) x (s.heap.push {cls:=.type "list_iterator",data:=.fields #[.ref l,.int 0 0]}).objs.size ?_ ?_ G
  ⟨⟨_,bH _ (c5 _ rfl),rfl,rfl⟩,(hl.push _).push _⟩ (c5 _ rfl) ?_⟩
 .intro i j t u Z C H F
  refine J i j t u Z (λb o e=>?_) H F
  refine aA (d b o e) λN r=>?_
  exact C b o (by simpa using N) r (bH _ (bH _ e))
 .refine aa (y ..) ?_
  simp only [n5,bQ,or_false,not_or]
  exact⟨dc (cw _),dc (fG K)⟩
 .intro v h' f g C
  refine S v h' f g λb o e=>?_
  refine aA (d b o e) λN r=>?_
  exact C b o (by simpa using N) r (bH _ (bH _ e))
end
end
section
open PySem.SeqAt
noncomputable def eJ (xs I:List D) (j:Nat):Bool:=match xs[j]?,I[j]? with| some x,some y=>oH x y| _,_=>false
noncomputable def cJ (gt:Bool) (xs I:List D) (j:Nat):Bool:=match xs[j]?,I[j]? with| some x,some y=>oB gt x y| _,_=>false
theorem F5{e c t p:Nat->Bool}{f:Bool}(D:∀j,t j=e (j+1))(O:∀j,p j=c (j+1)):∀k i,gS e c f k (i+1)=gS t p f k i
 | 0,_=>rfl
 | k+1,i=>by unfold gS;exact aa (F5 D O k (i+1))<|aa (D i)<|aa (O i) rfl
theorem zY(gt:Bool):∀xs I:List D,gS (eJ xs I) (cJ gt xs I) (if gt then decide (xs.length>I.length) else decide (xs.length<I.length)) (min xs.length I.length) 0=o4 gt xs I
 | [],[]=>gt.rec rfl rfl
 | [],_::_=>gt.rec rfl rfl
 | _::_,[]=>gt.rec rfl rfl
 | x::xs,y::I=>by
  have e:(if gt then decide ((x::xs).length>(y::I).length) else decide ((x::xs).length<(y::I).length))=(if gt then decide (xs.length>I.length) else decide (xs.length<I.length)):=gt.rec (decide_eq_decide.mpr K_) (decide_eq_decide.mpr K_)
  refine aa e<|aa (Nat.succ_min_succ ..) ?_
  unfold o4
  exact aa (.symm (zY gt xs I))<|congrArg (λz=>if oH x y then z else oB gt x y) (F5 (λZ=>rfl) (λZ=>rfl) _ 0)
section
variable {W:Wd} {n:Nat} {si:SI}
theorem OH{G h v u d e b}(L:Rep W G h v d)(J:Rep W G h u e)(C:r5 d e=some b)(A:aO)(s:ai):EqAt A s v u b:=by
 unfold r5 at C
 split at C
 .rename_i N;exact ob C λy E C=>sj C (L.gB N λ_=>J.gB E λ_=>EqAt.int_int _ _ _ _)
 .split at C
  .rename_i N;exact ob C λy E C=>sj C (L.c8 N λ_ _ _=>J.c8 E λ_ _ _=>EqAt.str_str _ _ _ _)
  .exact ob C λx N C=>ob C λy E C=>sj C (L.ot N (J.ot E (EqAt.bool_bool _ _)))
theorem NL{G h v u d e gt b}(L:Rep W G h v d)(J:Rep W G h u e)(C:rX gt d e=some b)(A:aO)(s:ai):gJ (if gt then .Gt else .Lt) A s v u b:=by
 unfold rX at C
 split at C
 .rename_i N;exact ob C λy E C=>sj C (L.gB N λ_=>J.gB E λ_=>NQ gt _ _ _ _)
 .split at C
  .rename_i N;exact ob C λy E C=>sj C (L.c8 N λ_ _ _=>J.c8 E λ_ _ _=>NT gt _ _ _ _)
  .exact ob C λx N C=>ob C λy E C=>og C λa C=>sj C (L.ot N (J.ot E (by subst a;exact NO _ _)))
theorem mX{α:Type}{x:Option α}(h:x.isSome=true):∃a,x=some a:=Option.isSome_iff_exists.mp h
structure Jt(gt:Bool)(xs ys:List D)(vs us:Array af)(A:aO)(s:ai):Prop where
 eq:∀j (h1:j<vs.size) (h2:j<us.size),EqAt A s vs[j] us[j] (eJ xs ys j)
 lt:∀j (h1:j<vs.size) (h2:j<us.size),gJ (if gt then .Gt else .Lt) A s vs[j] us[j] (cJ gt xs ys j)
theorem Ey{G h}{gt:Bool}{xs I:List D}{P c:Array af}(y:aQ W G h P.toList xs)(Q:aQ W G h c.toList I)(K:(xs.zip I).all (λp=>vb gt p.1 p.2)=true)(A:aO)(i:ai):Jt gt xs I P c A i:=by
 have a:∀{P:Array af} {xs:List D} (y:aQ W G h P.toList xs) {j} (N:j<P.size),∃l:j<xs.length,Rep W G h P[j] xs[j]:=λ{P xs} y {j} N=>by
  have l:j<xs.length:=eX y▸N
  refine aw (y.get (gL l)) λv e r=>?_
  rw [jV,I5 N] at e
  exact⟨l,aM e▸r⟩
 have d:∀{j} (o:j<xs.length) (f:j<I.length),vb gt xs[j] I[j]=true:=λ{j} o f=>by
  have J:j<(xs.zip I).length:=by exact aa (KP ..)<|Nat.lt_min.mpr ⟨o,f⟩
  have:=List.all_eq_true.mp K _ (KD J)
  rw [KG] at this
  exact this
 refine⟨λj N E=>aL (a y N) λo Z=>aL (a Q E) λf w=>?_,λj N E=>aL (a y N) λo Z=>aL (a Q E) λf w=>?_⟩
 all_goals
  first| unfold eJ| unfold cJ
  refine aa (gL o ..)<|aa (gL f ..) ?_
 .refine aL (mX (band (d o f)).1) λb hb=>?_
  exact OH Z w (show r5 _ _=some (oH _ _) by unfold oH;exact aa (hb ..) rfl) A i
 .refine aL (mX (band (d o f)).2) λb hb=>?_
  exact NL Z w (show rX gt _ _=some (oB gt _ _) by unfold oB;exact aa (hb ..) rfl) A i
theorem NN{G:Gh}{s:ai}{σ:MH}{v u d e gt b}(st:St W G s σ)(L:Rep W G s.heap v d)(J:Rep W G s.heap u e)(h:i8 σ gt d e=some b)(A:aO)(i:ai)(w:A.units<ox)(C:∀b o,s.heap.get? b=some o->i.heap.get? b=some o):
 gJ (if gt then .Gt else .Lt) A i v u b:=by
 unfold i8 at h
 split at h
 .rename_i xs U
  refine ob h λI t h=>og h λH h=>og h λK h=>sj h ?_
  subst H
  refine L.jm U λ{a o P} z f e c dd V y=>?_
  refine J.jm t λ{k M x} B D F p l q Q=>?_
  have E:=Ey y Q K A.in1 i
  have:=NU (A:=A) (s:=i) ⟨o,C _ _ e,c,0,V⟩ ⟨M,C _ _ F,p,0,q⟩ w E.eq λj a b _=>E.lt j a b
  rw [eX y,eX Q] at this
  exact aa (.symm (zY true xs I))<|this
 .refine ob h λxs U h=>ob h λI t h=>og h λK h=>sj h ?_
  refine fL st L U λ{a P} hl y z=>?_
  refine fL st J t λ{k x} g Q B=>?_
  have m:i.heap.IsList a P:=aw hl λo e r=>⟨o,C _ _ e,r⟩
  have n:i.heap.IsList k x:=aw g λo e r=>⟨o,C _ _ e,r⟩
  have E:=Ey y Q K A.in1 i
  refine aa (.symm (zY gt xs I))<|aa (.symm (eX y))<|aa (.symm (eX Q)) ?_
  induction gt with
  | false=>exact NS (A:=A) m n w E.eq λj a b _=>E.lt j a b
  | true=>exact NR (A:=A) m n w E.eq λj a b _=>E.lt j a b
theorem aQ.at{G h}{vs:Array af}{xs:List D}(y:aQ W G h vs.toList xs){i:Nat}{t:af}(w:vs[i]?=some t):∃x,xs[i]?=some x/\Rep W G h t x:=by
 have K:i<xs.length:=by exact aa (.symm (eX y ..))<|(Array.getElem?_eq_some_iff.mp w).1
 refine aw (y.get (gL K)) λv N r=>?_
 rw [jV,w] at N
 exact⟨_,gL K,aM N▸r⟩
theorem Dx{G:Gh}{s:ai}{σ:MH}{xs:List D}{P:Array af}{gt:Bool}(st:St W G s σ)(c:aQ W G s.heap P.toList xs)(K:(xs.all λx=>xs.all λy=>(i8 σ gt x y).isSome)=true)(A:aO)(f:A.units<ox)
 (i j:Nat) (t u) (a:ai) (C:∀b o,s.heap.get? b=some o->a.heap.get? b=some o) (w:P[i]?=some t) (F:P[j]?=some u):gJ (if gt then .Gt else .Lt) A a t u (ov σ gt xs i j):=by
 refine aw (c.at w) λx N p=>?_
 refine aw (c.at F) λy E d=>?_
 refine aL (mX (List.all_eq_true.mp (List.all_eq_true.mp K x (lA N)) y (lA E))) λb hb=>?_
 have e:ov σ gt xs i j=b:=by unfold ov;refine aa (N ..)<|aa (E ..) ?_;show(i8 σ gt x y).getD false=b;exact aa (hb ..) rfl
 exact aa (e ..)<|NN st p d hb A a f C
theorem Dy{A G s σ v d gt r}(H:br n A)(st:St W G s σ)(L:Rep W G s.heap v d)(h:oq gt d σ=some r):ar W.M A (bM (.builtin (if gt then "max" else "min")) [v]) (Out W G s σ r) aF s:=by
 refine ob h λxs U h=>og h λO E=>?_
 refine fL st L U λ{a P} hl y z=>?_
 have hsz:=eX y
 have f:A.in1.units<ox:=by have:=H.units;show A.units+1<_;omega
 have Z:∀v h' c,P[eR (ov σ gt xs) (P.size - 1)]?=some v->(∀b o,s.heap.get? b=some o->h'.get? b=some o)->s.heap.objs.size<=h'.objs.size->Out W G s σ r v {s with heap:=h',toks:=c}:=λv h' c N C J=>by
  rw [hsz] at N
  refine aw (y.at N) λx e Q=>?_
  rw [E] at e
  obtain rfl:=aM e
  exact .grown st C J rfl rfl λK=>Q.keep K
 induction gt with
 | true=>exact iT (DV SE H.2.2.2 _ hl (by exact aa (hsz ..)<|O.1) (Dx st y O.2 A.in1 f) Z)
 | false=>exact iT (DV SD H.2.2.2 _ hl (by exact aa (hsz ..)<|O.1) (Dx st y O.2 A.in1 f) Z)
theorem Op.max:fH W n (λv=>bM (.builtin "max") [v]) (mE true):=fH.pure (t:=λv=>bM (.builtin "max") [v]) (f:=oq true) λH st L h=>Dy (gt:=true) H st L h
theorem Op.min:fH W n (λv=>bM (.builtin "min") [v]) (mE false):=fH.pure (t:=λv=>bM (.builtin "min") [v]) (f:=oq false) λH st L h=>Dy (gt:=false) H st L h
theorem QJ{G h P xs}(r:aQ W G h P xs):∀is,intsOf xs=some is->∃ps:List (Int×de),P=ps.map (λp=>C0 p.1 p.2)/\is=ps.map (·.1):=
 r.ind (motive:=λP xs=>∀is,intsOf xs=some is->∃ps:List (Int×de),P=ps.map (λp=>C0 p.1 p.2)/\is=ps.map (·.1)) (λZ e=>sj e ⟨[],rfl,rfl⟩)
  λ{v d P j} r Z S Z e=>ob e λi w e=>ob e λis b e=>sj e (aw (S _ b) λps V Q=>r.gB (motive:=λv Z=>∃ps:List (Int×de),v::P=ps.map (λp=>C0 p.1 p.2)/\i::is=ps.map (·.1)) w λt=>⟨(i,t)::ps,congrArg _ V,congrArg _ Q⟩)
theorem Op.sum:fH W n (λv=>bM (.builtin "sum") [v]) sumF:=fH.pure (t:=λv=>bM (.builtin "sum") [v]) (f:=Ir) λ{A G s σ v d r} H st L h=>
 ob h λxs U h=>ob h λis w h=>sj h (fL st L U λ{a P} hl y z=>by
  refine aw (QJ y _ w) λps T B=>?_;obtain rfl:=B
  have N:P=intItems ps.toArray:=Array.toList_inj.mp (T.trans (by simp [intItems]))
  subst N
  refine iT (sum_intListG H.2.2.2 hl λh' b c C J=>?_)
  have e:preSum (numAt ps.toArray) ps.toArray.size=(ps.map (·.1)).sum:=by
   exact aa (preSum_eq ..)<|aa (xE (by simp)) rfl
  exact aa (e ..)<| .grown st C J rfl rfl λZ=>.int _ _)
end
end
section
section
variable {W:Wd} {n:Nat} {si:SI}
def tN(W:Wd)(A:aO)(G:Gh)(s:ai)(t:bY af)(e:D)(ao:MH):Prop:=∀{Q:af->ai->Prop},
 (∀{j ak u},Step W bf G s.heap j ak.heap->St W j ak ao->Rep W j ak.heap u e->Q u ak)->ar W.M A t Q aF s
abbrev Wd.jw(W:Wd)(A:aO)(name:aj)(v:af)(R:bc)(args:List (Bool×bY af))(Q:af->ai->Prop)(s:ai):Prop:=ua W.prog W.w A aF name v R args Q s
def n7(W:Wd)(n:Nat)(name:aj)(f:D->D->MH->Option (D×MH)):Prop:=
 ∀{A G s σ v d t e ao r} {R:bc},br n A->St W G s σ->Rep W G s.heap v d->tN W A G s t e ao->f d e ao=some r->W.jw A name v R [(false,t)] (Out W G s r.2 r.1) s
def rI(W:Wd)(n:Nat)(name:aj)(f:D->MH->Option (D×MH)):Prop:=
 ∀{A G s σ v d r} {R:bc},br n A->St W G s σ->Rep W G s.heap v d->f d σ=some r->W.jw A name v R [] (Out W G s r.2 r.1) s
def CC(W:Wd)(n:Nat)(name:aj)(f:D->D->MH->Option (Cell×MH)):Prop:=
 ∀{A G s σ v d t e ao r} {R:bc},br n A->St W G s σ->Rep W G s.heap v d->tN W A G s t e ao->f d e ao=some r->W.jw A name v R [(false,t)] (dy W G s r) s
theorem MethodOnS.mono{prog:eA}{w:eC}{A:aO}{E:af->ai->Prop}{name:aj}{v:af}{R:bc}{args:List (Bool×bY af)}{Q b:af->ai->Prop}{s:ai}
 (h:ua prog w A E name v R args Q s) (k:∀v s,Q v s->b v s):ua prog w A E name v R args b s:=
 h.imp λZ=>dX λZ=>fE (fE (fE (fE (fE λx=>bD x k))))
theorem Ev.method0{o name i R m f}(L:Ev W n si o m)(I:rI W n name f)(t:∀J,iE o name J (aU o J)=aU o J)(u:(i.endLine==R.line)=true):Ev W n si (.Call (.Attribute o name i) [] [] R) (.ax f m):=λ{A J M G s ρ σ r} H st F h=>
 ob h λp V h=>BS (t J) u (bR L H st F V λS g O r=>MethodOnS.mono (I H g r h) λZ Z x=>x.trans S)
theorem Ag{A J M G s ρ σ p q}{o e:ay}{name:aj}{i R:bc}{m d:ME}{Q:af->ai->Prop}(L:Ev W n si o m)(D:Ev W n si e d)(a:∀J,iE o name J (aU o J)=aU o J)(B:∀J,bB [e] J= [(false,aU e J)])(u:(i.endLine==R.line)=true)
 (H:br n A) (st:St W G s σ) (F:aT W A G s.heap si J M ρ) (V:m ρ σ=some p) (f:d ρ p.2=some q)
 (K:∀{j ak v t},Step W bf G s.heap j ak.heap->St W j ak p.2->Rep W j ak.heap v p.1->tN W A j ak t q.1 q.2->W.jw A name v R [(false,t)] Q ak):ar W.M A (aU (.Call (.Attribute o name i) [e] [] R) J) Q aF s:=
 Call_method1 (a J) (B J) u (bR L H st F V λS g O r=>K S g r λ{Q} k=>bR D H g O f λc N Z b=>k c N b)
theorem Ev.method1{o e name i R m d f}(L:Ev W n si o m)(D:Ev W n si e d)(I:n7 W n name f)(t:∀J,iE o name J (aU o J)=aU o J)(B:∀J,bB [e] J= [(false,aU e J)])(u:(i.endLine==R.line)=true):
 Ev W n si (.Call (.Attribute o name i) [e] [] R) (.bh f m d):=λH st F h=>
 ob h λp V h=>ob h λq Q h=>Ag L D t B u H st F V Q λS g r K=>MethodOnS.mono (I H g r K h) λZ Z x=>x.trans S
theorem bG.method1{o e name i R m d f}(L:Ev W n si o m)(D:Ev W n si e d)(I:CC W n name f)(t:∀J,iE o name J (aU o J)=aU o J)(B:∀J,bB [e] J= [(false,aU e J)])(u:(i.endLine==R.line)=true):
 bG W n si (.Call (.Attribute o name i) [e] [] R) (.bh f m d):=λH st F h=>
 ob h λp V h=>ob h λq Q h=>Ag L D t B u H st F V Q λS g r K=>MethodOnS.mono (I H g r K h) λZ Z x=>x.trans S
theorem kY{s:aj}(h:fB s=true):fJ s=true/\s.length<=aP:=(band h).imp id of_decide_eq_true
theorem M.starts:n7 W n "startswith" tu:=λH st L K h=>
 ob h λd N h=>sj h (ob N λx U N=>ob N λy t N=>sj N (L.c8 U λb m g=>SB.startswith (K λ{j ak u} S w r=>r.c8 t λz Z Z=>⟨_,z,rfl,j,S,w,.bool _⟩)))
theorem M.ends:n7 W n "endswith" endsF:=λH st L K h=>
 ob h λd N h=>sj h (ob N λx U N=>ob N λy t N=>sj N (L.c8 U λb m g=>SB.endswith (K λ{j ak u} S w r=>r.c8 t λz Z Z=>⟨_,z,rfl,j,S,w,.bool _⟩)))
theorem M.rfind:n7 W n "rfind" HD:=λH st L K h=>
 ob h λd N h=>sj h (ob N λx U N=>ob N λy t N=>sj N (L.c8 U λb m g=>SB.rfind (K λ{j ak u} S w r=>r.c8 t λz Z Z=>⟨_,z,rfl,j,S,w.tok,.int _ _⟩)))
theorem M.rstrip:n7 W n "rstrip" HG:=λH st L K h=>
 ob h λd N h=>sj h (ob N λx U N=>ob N λy t N=>og N λO N=>sj N (L.c8 U λb m g=>SB.rstripChars (K λ{j ak u} S w r=>r.c8 t λz Z Z=>⟨_,z,rfl,λc k=>⟨j,S,w.tok,.str _ _ (kY O).1 (kY O).2⟩⟩) (aE g f9)))
theorem M.lower:rI W n "lower" sE:=λH st L h=>
 ob h λd N h=>sj h (ob N λx U N=>og N λO N=>sj N (L.c8 U λb m g=>SB.lower (fit_lower (aE g (by decide))) (.tok st (.str _ _ (kY O).1 (kY O).2))))
theorem UL{G h}{l:List (aj×de)}(C:∀p∈l,fB p.1=true):aQ W G h (iP l) ((l.map (·.1)).map .str):=by
 induction l with
 | nil=>exact .nil
 | cons p r S=>exact .cons (.str _ _ (kY (C p a0)).1 (kY (C p a0)).2) (S λq y=>C q (bT _ y))
theorem M.split:CC W n "split" pf:=λ{A G s σ v d t e ao r} R H st L i h=>
 ob h λx U h=>ob h λy k h=>ob h λc N h=>sj h (og N λO N=>sj N (L.c8 U λb m g=>
  ⟨"str",_,F.plainAttrs_str,JP,F.type_str_split,pW _ _ _,(λZ e=>nomatch e),Ss JP F.entry_str_split (i λ{j ak u} S w r=>r.c8 k λz P V=>by
    refine⟨pW _ _ _,F.args_str_split_2 _ _,?_⟩
    have a:∀(l:List (aj×de)) (f:Nat),l.map (·.1)=Txt.split x y->dy W G s (.list ((Txt.split x y).map .str),ao) (.ref ak.heap.objs.size) {ak with toks:=f,heap:=ak.heap.push {cls:=.type "list",data:=.seq (iP l).toArray}}:=λl f hl=>
     dy.trans S (dy.push (tk:=f) w rfl λG' K e=>⟨by exact aa (aZ ..)<|O.2.2,_,_,_,e,rfl,⟨rfl,rfl⟩,rfl,by
      exact aa (.symm (hl ..))<|UL λp T=>List.all_eq_true.mp O.2.1 p.1 (hl▸List.mem_map.mpr ⟨p,T,rfl⟩)⟩)
    induction N:(decide (x.length<y.length)|| decide (Jn x<Jn y))
    .induction I:(mf x y 0 x.length (x.length+1)).isEmpty
     .have B:Txt.split x y=Jm x (mf x y 0 x.length (x.length+1)) y.length:=(if_neg (ne_true_of_eq_false N)).trans (if_neg (ne_true_of_eq_false I))
      refine⟨_,meets_str_split_sep x y b z N O.1 I (aE g f9) (by exact aa (.symm (B ..))<|Nat.le_trans O.2.2 f9),?_⟩
      show wants _ _ _ {ak with toks:=_,heap:=ak.heap.push {cls:=.type "list",data:=.seq (strsFrom ak.toks (Jm x (mf x y 0 x.length (x.length+1)) y.length)).toArray}}
      exact aa (strsFrom_eq ..)<|a (numbered ak.toks _) _ ((numbered_texts _ _).trans B.symm)
     .exact⟨_,meets_str_split_not_found x y b z N O.1 I,a [(x,b)] _ ((if_neg (ne_true_of_eq_false N)).trans (if_pos I)).symm⟩
    .exact⟨_,meets_str_split_cannot_occur x y b z N,a [(x,b)] _ (if_pos N).symm⟩)⟩))
theorem Bd{G h P xs}(r:aQ W G h P xs):∀I,strsOf xs=some I->∃ps:List (aj×de),P=iP ps/\I=ps.map (·.1):=
 r.ind (motive:=λP xs=>∀I,strsOf xs=some I->∃ps:List (aj×de),P=iP ps/\I=ps.map (·.1)) (λZ e=>sj e ⟨[],rfl,rfl⟩)
  λ{v d P j} r Z S Z e=>ob e λi w e=>ob e λis b e=>sj e (aw (S _ b) λps V Q=>r.c8 (motive:=λv Z=>∃ps:List (aj×de),v::P=iP ps/\i::is=ps.map (·.1)) w λt Z Z=>⟨(i,t)::ps,congrArg _ V,congrArg _ Q⟩)
theorem M.join:n7 W n "join" jd:=λ{A G s σ v d t e ao r} R H st L K h=>
 ob h λd N h=>sj h (ob N λx U N=>ob N λxs l N=>ob N λI Z N=>og N λF N=>og N λO N=>sj N (L.c8 U λb m g=>SB.join (K λ{j ak u} S w r=>fL w r l λ{a P} hl y z=>by
  refine aw (Bd y _ Z) λps T B=>?_;obtain rfl:=B
  have f:P=(iP ps).toArray:=by exact aa (.symm (T ..)) rfl
  exact⟨a,ps,rfl,f▸hl,_,rfl,F,λc k=>⟨j,S,w.tok,.str _ _ (kY O).1 (kY O).2⟩⟩)))
end
end
section
section
variable {W:Wd} {n:Nat} {si:SI}
theorem St.m_{G:Gh}{s:ai}{σ:MH}{i:Nat}{a b:aq}{c c':Cell}{h':aN}{tk:Nat}(st:St W G s σ)(O:σ.cell i=some c)(I:c.qd=false)(u:G.g i=some a)(hb:G.g i=some b∨G.d i=some b)(B:ly b s.heap h')(J:s.heap.objs.size<=h'.objs.size)
 (m:cH W G s.heap G h'->cg W G h' a (G.d i) c'):St W G {s with heap:=h',toks:=tk} (σ.put i c')/\Step W bf G s.heap G h':=
 have N:=(st.cells.at_ i c O).1 I
 have n:=st.inv.cn b ⟨i,N,hb⟩
 have S:Step W bf G s.heap G h':=⟨λZ Z e=>e,λZ Z e=>e,rfl,λZ x=>x,λZ x=>.inl x,λx o e L Z Z Z=>B x o (λq=>L (q▸⟨i,N,hb⟩)) e,J,rfl,λx o e I Z Z=>⟨o.slots,B x o (λq=>n.2.2.1 (q▸I)) e⟩⟩
 have K:=S.ea λZ x=>x.elim
 ⟨⟨⟨λx o e=>B x o (λq=>absurd (b9 e) (Nat.not_lt.mpr (q▸n.1))) (st.inv.keep x o e),aE st.inv.size J,st.inv.gens,st.inv.os,λx y=>(st.inv.cn x y).imp id (eH λh=>a9 h J),λx y=>(st.inv.b0 x y).imp id (eH λh=>a9 h J),st.inv.gR,st.inv.g7,st.inv.gd,
     st.inv.tab.keep K.bq λZ e=>B _ _ (λq=>n.2.2.2 q.symm) e,st.inv.eO,st.inv.hJ,st.inv.b8⟩,⟨λj f e=>ec e (λF V=>by subst F;exact aM V▸⟨λZ=>N,a,u,m K⟩) λF e=>
      have x:=st.cells.at_ j f e
      ⟨x.1,x.2.imp λk y=>⟨y.1,y.2.oZ K (λC o e=>B _ o (λq=>hb.elim (λhb=>F (st.inv.gR j i b (x.1 C) N (q▸y.1) hb)) λhb=>st.inv.gd j i b (x.1 C) N (q▸y.1) hb) e)
        λC d o P e=>B _ o (λq=>hb.elim (λhb=>st.inv.gd i j b N (x.1 C) hb (q▸P)) λhb=>F (st.inv.g7 j i b (x.1 C) N (q▸P) hb)) e⟩⟩,λj F=>st.cells.free j F⟩⟩,S⟩
@[elab_as_elim] theorem kO{G:Gh}{s:ai}{σ:MH}{d:D}{i:Nat}{c:Cell}{v:af}{motive:af->Prop}(st:St W G s σ)(r:Rep W G s.heap v d)(P:d.fP=some i)(O:σ.cell i=some c)(k:∀{a},G.g i=some a->cg W G s.heap a (G.d i) c->motive (.ref a)):motive v:=
  st.yE (motive:=λv Z=>motive v) r P O λa u Z x=>k u x
def xF(W:Wd)(G:Gh)(h:aN)(a:aq)(xs:List D)(P:Array af)(m:Nat):Prop:=h.get? a=some {cls:=.type "list",dict:=none,data:=.seq P m,slots:= #[]}/\aQ W G h P.toList xs/\xs.length<=aP
theorem F9{G:Gh}{h:aN}{a:aq}{t:Option aq}{xs:List D}(I:cg W G h a t (.list xs)):∃P m,xF W G h a xs P m:=by
 obtain⟨z,⟨p,E,q,b⟩,P,m,e,rfl,⟨rfl,rfl⟩,rfl,y⟩:=I
 exact⟨P,m,e,y,z⟩
@[elab_as_elim] theorem oy{G:Gh}{s:ai}{σ:MH}{d:D}{p:Nat×List D}{v:af}{motive:af->Prop}(st:St W G s σ)(r:Rep W G s.heap v d)(h:mH σ d=some p)
   (k:∀{a P m},σ.cell p.1=some (.list p.2)->G.g p.1=some a->xF W G s.heap a p.2 P m->motive (.ref a)):motive v:=
  ob h λi w h=>ob h λc O h=>ob h λxs U h=>by
   obtain rfl:=aM h
   obtain rfl:=Cell.qj U
   exact kO st r w O λu I=>ew (F9 I) λP m x=>k O u x
theorem St.v_{G:Gh}{s:ai}{σ:MH}{i:Nat}{a:aq}{xs tM:List D}{f:Array af}{d:Nat}{h':aN}{tk:Nat}(st:St W G s σ)(O:σ.cell i=some (.list xs))(u:G.g i=some a)(B:hO a s.heap h')
 (Z:h'.get? a=some {cls:=.type "list",dict:=none,data:=.seq f d,slots:= #[]}) (J:tM.length<=aP) (m:cH W G s.heap G h'->aQ W G h' f.toList tM):Out W G s (σ.put i (.list tM)) .none .none {s with heap:=h',toks:=tk}:=
 have x:=st.m_ (tk:=tk) (c':=.list tM) O rfl u (.inl u) B.extBut (bN B.1.symm) λK=>⟨J,_,f,d,Z,rfl,⟨rfl,rfl⟩,rfl,m K⟩
 ⟨G,x.2,x.1,.none⟩
theorem vt{A:aO}{s:ai}{name:aj}{id:String}{a:aq}{o:bu}{R:bc}{args:List (Bool×bY af)}{Q:af->ai->Prop}(f:iz "list" name id)(z:tD (.builtin id)=pure (.type "method_descriptor"))
 (e:s.heap.get? a=some o) (c:o.cls=.type "list") (d:o.dict=none) (h:ar W.M A (i5 R (.builtin id) [.ref a] args []) Q aF s):ua W.prog W.w A aF name (.ref a) R args Q s:=
 ⟨"list",id,F.plainAttrs_list,f,z,⟨o,e,c⟩,λb q=>by cases q;exact⟨o,e,d⟩,h⟩
def pQ(W:Wd)(n:Nat)(name:aj)(c:D->MH->Bool)(f:D->D->MH->Option (D×MH)):Prop:=
 ∀{A G s σ v d t e ao r} {R:bc},br n A->St W G s σ->Rep W G s.heap v d->c d σ=true->tN W A G s t e ao->f d e ao=some r->W.jw A name v R [(false,t)] (Out W G s r.2 r.1) s
theorem Ev.Su{o e name i R m d f c}(L:Ev W n si o m)(D:Ev W n si e d)(I:pQ W n name c f)(t:∀J,iE o name J (aU o J)=aU o J)(B:∀J,bB [e] J= [(false,aU e J)])(u:(i.endLine==R.line)=true):
 Ev W n si (.Call (.Attribute o name i) [e] [] R) (.dB c f m d):=λH st F h=>
 ob h λp V h=>og h λT h=>ob h λq Q h=>Ag L D t B u H st F V Q λS g r K=>MethodOnS.mono (I H g r T K h) λZ Z x=>x.trans S
theorem M.append:pQ W n "append" eh fK:=λ{A G s σ v d t e ao r} R H st L T X h=>by
 refine aL (mX T) λp T=>?_
 have g:=L
 refine oy (motive:=λv=>Rep W G s.heap v d->W.jw A "append" v R [(false,t)] (Out W G s r.2 r.1) s) st L T (λ{a P m} l i U L=>?_) L
 refine vt F.slot_list_append F.type_list_append U.1 rfl rfl ?_
 refine j7 rfl rfl (BU (BV (X λ{j ak u} S k J=>w9 ?_)))
 refine ob h λq y h=>og h λC h=>sj h ?_
 have N:=L.go S
 revert N
 generalize eB a=w
 intro N
 refine oy k N y λ{a P m} O Y x=>?_
 refine Dh x.1 rfl rfl (size_le x.2.1 x.2.2) λD o f Q c2 c V z B=>?_
 obtain⟨Z,E,I,b⟩:=o
 obtain rfl:=c2
 obtain rfl:=c
 obtain rfl:=V
 obtain rfl:=z
 exact(k.v_ (tk:=ak.toks) O Y B Q (by exact aa (bF ..)<|C) λK=>by exact aa (BM ..)<|(x.2.1.keep K).snoc (J.keep K)).trans S
theorem M.clear:rI W n "clear" oA:=λ{A G s σ v d r} R H st L h=>
 ob h λq y h=>sj h (oy (motive:=λv=>W.jw A "clear" v R [] (Out W G s _ _) s) st L y λ{a P m} O u x=>vt JL F.type_list_clear x.1 rfl rfl
  (Sr JL F.entry_list_clear ⟨_,x.1,rfl⟩ (F.args_list_clear_1 _) (Xg a P m (size_le x.2.1 x.2.2)) ⟨x.1,
    st.v_ (tk:=s.toks) O u (ft ..) (eI (dE λZ=>(#[]:Array af)) x.1 rfl) (fW _) λK=>.nil⟩))
end
end
section
theorem OK(l:aq)(z:Array af)(n:Nat)(b:aq)(e:Array af)(U:Nat)(o:Option aq)(V:Array (Option af))(i:¬(!z.isEmpty && BP (z.size+e.size))=true)(p:z.size<=gF)(a:z.size+e.size<=gF+1):
 kE (bE.«list.extend» ⟨[.ref l,.ref b],[]⟩) (λZ R s=>s.heap.get? l=some {cls:=.type "list",dict:=none,data:=.seq z n,slots:= #[]}/\s.heap.get? b=some {cls:=.type "list",dict:=o,data:=.seq e U,slots:=V}/\R (.ok (.ret Value.none)) {s with heap:=s.heap.update l (dE λx=>x++e),toks:=s.toks}):=
 .of_wp λprog w A R s h=>by
  obtain⟨T,g,d,f,os⟩:=s;refine bP h λhl hb h=>?_;have r:=Xf;have v:=I9;have C:=wW;have S:=Xi;have j:=Xh;
  have c:(z++e).size<=gF+1:=by exact aa (I8 ..)<|a
  wp_walk using (jn hl rfl (hz:=p) (_hz':=c)),dH hl,dH hb;exact⟨_,rfl,h⟩
theorem Ud(l:aq)(z:Array af)(n:Nat)(x:af)(U:z[z.size - 1]?=some x)(M:z.isEmpty=false)(p:z.size<=gF):
 kE (bE.«list.pop» ⟨[.ref l],[]⟩) (λZ R s=>s.heap.get? l=some {cls:=.type "list",dict:=none,data:=.seq z n,slots:= #[]}/\R (.ok (.ret x)) {s with heap:=s.heap.update l (dE λxs=>xs.eraseIdxIfInBounds (z.size - 1)),toks:=s.toks}):=
 .of_wp λprog w A R s h=>by
  obtain⟨T,g,d,f,os⟩:=s;refine aA h λhl h=>?_
  have c:(z.eraseIdxIfInBounds (z.size - 1)).size<=gF+1:=by
   have:(z.eraseIdxIfInBounds (z.size - 1)).size<=z.size:=by
    unfold I2;split
    .refine aa (Array.size_eraseIdx ..) ?_;lia
    .exact bb _
   lia
  have a:(wk (-1) z.size).bind (λk=>z[k]?.map λx=>(k,x))=some (z.size - 1,x):=by
   have T:0<z.size:=size_pos_of_not_empty M
   have:wk (-1) z.size=some (z.size - 1):=by
    unfold wk
    simp only [show((-1:Int)<0)=True by simp,if_true]
    have V:(0<= -1+(z.size:Int) && -1+(z.size:Int)<(z.size:Int))=true:=by simp;lia
    refine aa (if_pos V ..) ?_
    congr 1
    lia
   exact aa (this ..)<|aa (CL ..)<|aa (U ..) rfl
  wp_walk using (jn hl rfl (hz:=p) (_hz':=c)),dH hl
  refine aa (a ..) ?_
  dsimp only
  unfold BQ
  wp_walk using (jn hl rfl (hz:=p) (_hz':=c)),dH hl
  exact⟨_,rfl,h⟩
section
variable {W:Wd} {n:Nat} {si:SI}
theorem Ue{P:Array af}{k:Nat}(C:P.size=k)(T:0<k):(P.eraseIdxIfInBounds (P.size - 1)).toList=P.toList.take (k - 1):=by
 subst C
 unfold I2
 exact aa (dif_pos (CE T Nat.one_pos) ..)<|aa (Array.toList_eraseIdx ..)<|aa (List.eraseIdx_eq_take_drop_succ ..)<|aa (xK T ..)<|aa (Km (bN I6) ..)<|aa (hW ..) rfl
theorem Hp{A G s σ v d r}{R:bc}(st:St W G s σ)(L:Rep W G s.heap v d)(h:pa d σ=some r):W.jw A "pop" v R [] (Out W G s r.2 r.1) s:=
 ob h λq i h=>ob h λy t h=>sj h (oy (motive:=λv=>W.jw A "pop" v R [] (Out W G s _ _) s) st L i λ{a P m} O c x=>by
  have hsz:=eX x.2.1
  have p:0<q.2.length:=List.length_pos_iff.mpr λe=>by rw [e] at t;exact aY t
  refine aw (x.2.1.get ((List.getLast?_eq_getElem? (l:=q.2)).symm.trans t)) λu f J=>?_
  rw [jV,← hsz] at f
  have b:P.isEmpty=false:=by exact aa (u6 x.2.1 ..)<|List.isEmpty_eq_false_iff.mpr (List.length_pos_iff.mp p)
  refine vt JN F.type_list_pop x.1 rfl rfl (Sr JN F.entry_list_pop ⟨_,x.1,rfl⟩ (F.args_list_pop_1 _) (Ud a P m u f b (size_le x.2.1 x.2.2)) ⟨x.1,?_⟩)
  have o:=st.v_ (tk:=s.toks) (tM:=q.2.dropLast) O c (ft ..) (eI (dE λ(xs:Array af)=>xs.eraseIdxIfInBounds (P.size - 1)) x.1 rfl) (aE (lz▸rL _ _) x.2.2) λK=>by
   exact aa (Ue hsz p ..)<|aa (xr ..)<|(x.2.1.keep K).take _
  exact o.elim λG' S g Z=>⟨G',S,g,J.go S⟩)
theorem M.pop:rI W n "pop" pa:=λH st L h=>Hp st L h
theorem M.extend:pQ W n "extend" eh p8:=λ{A G s σ v d t e ao r} R rm st L T I h=>by
 refine aL (mX T) λp T=>?_
 refine oy (motive:=λv=>Rep W G s.heap v d->W.jw A "extend" v R [(false,t)] (Out W G s r.2 r.1) s) st L T (λ{a P m} l i U L=>?_) L
 refine vt JM F.type_list_extend U.1 rfl rfl (Ss JM F.entry_list_extend (I λ{j ak u} S Z J=>?_))
 refine ob h λq y h=>ob h λys X h=>og h λE h=>sj h ?_
 have N:=L.go S
 have H:∀w,Rep W j ak.heap w d->eB a=w->∃P m,ao.cell q.1=some (.list q.2)/\j.g q.1=some a/\xF W j ak.heap a q.2 P m:=λw rw=>oy (motive:=λw=>eB a=w->_) Z rw y λO B x e=>by
  obtain rfl:=jA e
  exact⟨_,_,O,B,x⟩
 refine eQ (H _ N rfl) λf Y O B x=>?_
 refine fL Z J X λ{b c} hl Q z'=>?_
 obtain⟨⟨D,o,z,V⟩,k,rfl,mb,rfl⟩:=hl
 have hsz:=eX x.2.1
 have C:=eX Q
 exact⟨⟨_,x.1,rfl⟩,F.args_list_extend_2 _ _,_,OK a f Y b c mb o V (by
  have:BP (f.size+c.size)=false:=by
   unfold BP
   have:=f9
   simp;lia
  refine aa (this ..)<|aa (tR ..) ?_;decide) (size_le x.2.1 x.2.2) (by have:=f9;lia),x.1,k,
   (Z.v_ (tk:=ak.toks) O B (ft ..) (eI (dE λ(x:Array af)=>x++c) x.1 rfl) (by exact aa (bF ..)<|E) λK=>by exact aa (wV ..)<|(x.2.1.keep K).append (Q.keep K)).trans S⟩
end
end
section
section
variable {W:Wd} {n:Nat} {si:SI}
theorem Eg{A:aO}{s:ai}{name:aj}{id:String}{a:aq}{T:List (aj×af)}{R:bc}{args:List (Bool×bY af)}{Q:af->ai->Prop}(f:iz "dict" name id)(z:tD (.builtin id)=pure (.type "method_descriptor"))
 (hD:s.heap.DictOf (strKind W.prog W.w) a T) (h:ar W.M A (i5 R (.builtin id) [.ref a] args []) Q aF s):ua W.prog W.w A aF name (.ref a) R args Q s:=
 ⟨"dict",id,F.plainAttrs_dict,f,z,hD.typeIs,hD.mapOf.noDict,h⟩
theorem kB.getD{G h a b}(x:kB W G h a b):Rep W G h (a.getD .none) (b.getD .none):=by
 induction x with
 | none=>exact .none
 | some r=>exact r
theorem Pe{G h T R}(r:bC W G h T R)(k:aj):Rep W G h ((mz T k).getD .none) ((R.lookup k).getD .none):=(r.valueAt k).getD
theorem Mq{G s σ a d R}(st:St W G s σ)(r:Rep W G s.heap (.ref a) d)(h:j1 σ d=some R):∃T,a≠iR/\s.heap.DictOf (strKind W.prog W.w) a T/\bC W G s.heap T R/\R.length<=aP:=by
 have F:∀w,Rep W G s.heap w d->eB a=w->∃T,a≠iR/\s.heap.DictOf (strKind W.prog W.w) a T/\bC W G s.heap T R/\R.length<=aP:=
  λw r=>um (motive:=λw=>eB a=w->_) st r h λns hD L z e=>by obtain rfl:=jA e;exact⟨_,ns,hD,L,z⟩
 exact F _ r rfl
theorem M.get:pQ W n "get" mV p_:=λ{A G s σ v d t e ao r} R H st L m K h=>by
 refine aL (mX m) λc b=>?_
 refine ob h λx U h=>sj h (ob U λo C U=>ob U λk E U=>sj U ?_)
 refine um (motive:=λv=>Rep W G s.heap v d->W.jw A "get" v R [(false,t)] (Out W G s ao _) s) st L b (λ{a T} ns hD y z L=>?_) L
 refine Eg F.slot_dict_get F.type_dict_get hD (wpAny_dict_get1 (knd:=strKind W.prog W.w) (o6 ns) (K λ{j ak u} S i J=>?_))
 refine dG (Mq i (L.go S) C) λf l I g B=>?_
 exact J.c8 E λt Z Z=>⟨k,_,jI _ _,I.mapOf,j,S,i.tok,Pe g k⟩
@[elab_as_elim] theorem yF{G:Gh}{s:ai}{σ:MH}{d:D}{p:Nat×List (aj×D)}{v:af}{motive:af->Prop}(st:St W G s σ)(r:Rep W G s.heap v d)(h:cellK σ d=some p)
   (k:∀{a T},σ.cell p.1=some (.dict p.2)->G.g p.1=some a->p.2.length<=aP->a≠iR->s.heap.DictOf (strKind W.prog W.w) a T->bC W G s.heap T p.2->motive (.ref a)):motive v:=
  ob h λi b h=>ob h λc O h=>ob h λxs U h=>by
   obtain rfl:=aM h
   obtain rfl:=Cell.FX U
   exact kO st r b O λu B=>bP B λz ns Q=>aw Q λT hD L=>k O u z ns hD L
theorem Et.sub{o i R mo mi}(Y:Ev W n si o mo)(X:Ev W n si i mi):Et W n si (.Subscript o i R) (.sub mo mi):=λ{A J M G s ρ σ v d r'} H st F r h=>
 ob h λp V h=>ob h λq Q h=>ob h λk C h=>ob h λc O h=>og h λU h=>sj h (by
  refine aa (assign_Subscript ..) ?_
  refine ah (bz (bR Y H st F V λ{j ak e} P w E y=>ah (bz (bR X H w E Q λ{m D f} Z N g b=>?_))))
  have l:=y.go Z
  refine b.c8 C λt k1 k2=>?_
  refine yF N l O λ{a T} S u z ns hD L=>?_
  refine ah (cQ (ah (bz (wpAny_setItem_pairs (jI _ _) hD (λh' I B=>?_) (by exact aa (L.length ..)<|Nat.le_trans z f9)))))
  have x:=N.m_ (tk:=D.toks+1) (c':=.dict (eF c.2 k d)) S rfl u (.inl u) B.extBut (bN B.1.symm) λK=>⟨Ht U,ns,_,I,(L.keep K).put k1 k2 (((r.go P).go Z).keep K)⟩
  exact qO ⟨m,((P.trans Z).trans x.2).any,x.1,g.go N.inv x.2⟩)
theorem St.freeze{G:Gh}{s:ai}{σ:MH}{i:Nat}{a:aq}{R:List (aj×D)}(st:St W G s σ)(O:σ.cell i=some (.dict R))(u:G.g i=some a):
 ∃G',St W G' s (σ.put i (.h_ R))/\Step W bf G s.heap G' s.heap/\Rep W G' s.heap (.ref a) (.dict R):=by
 refine aA (st.cells.at_ i _ O) λd t=>?_;refine dG t λp Q z ns m=>?_;refine aw m λT hD L=>?_
 obtain rfl:=aM (u.symm.trans Q)
 have d:=d rfl
 have own:∀b,Gh.own {G with c0:=λj=>G.c0 j/\j≠i} b->G.own b:=λb h=>aw h λj l x=>⟨j,l.1,x⟩
 have S:Step W bf G s.heap {G with c0:=λj=>G.c0 j/\j≠i} s.heap:=.all (λZ Z e=>e) (λZ Z e=>e) rfl (λZ x=>x.1) (λb x=>.inl (own b x)) (λZ Z e Z=>e) (bb _)
 have K:=S.ea λZ x=>x.elim
 have n:=st.inv.cn a ⟨i,d,.inl u⟩
 have r:Rep W {G with c0:=λj=>G.c0 j/\j≠i} s.heap (.ref a) (.dict R):=.dict z ⟨λo=>aw o λk l x=>x.elim (λx=>l.2 (st.inv.gR k i a l.1 d x u)) λx=>st.inv.gd i k a d l.1 u x,n.2.2.1,n.2.2.2⟩ ns hD (L.keep K)
 exact⟨{G with c0:=λj=>G.c0 j/\j≠i},⟨⟨st.inv.keep,st.inv.size,st.inv.gens,st.inv.os,λb x=>st.inv.cn b (own b x),st.inv.b0,λj k b N E=>st.inv.gR j k b N.1 E.1,λj k b N E=>st.inv.g7 j k b N.1 E.1,λj k b N E=>st.inv.gd j k b N.1 E.1,st.inv.tab.keep K.bq λZ e=>e,st.inv.eO,st.inv.hJ,st.inv.b8⟩,
  ⟨λj c e=>ec e (λq V=>by subst q;obtain rfl:=aM V;exact⟨(λq=>nomatch q),a,u,r⟩) λF e=>have x:=st.cells.at_ j c e;⟨λq=>⟨x.1 q,F⟩,x.2.imp λb y=>⟨y.1,y.2.keep K (λZ e=>e) (λZ Z Z e=>e)⟩⟩,
    λj F=>have f:=st.cells.free j F;⟨f.1,f.2.1,f.2.2,λq=>aY (f.1.symm.trans (q▸u))⟩⟩⟩,S,r⟩
theorem UE{A G s a R}{tg:ay}(r:Rep W G s.heap (.ref a) (.dict R)):ar W.M A (ik (.ref a)) (nV W tg G s (keysAt R)) aF s:=by
 refine tJ r.inv λk T e z f ns b L=>?_
 obtain rfl:=jA e
 refine aL b.dictAt λy hD=>?_
 exact qr (W:=W) rfl (λq=>IQ (o6 ns) hD q) (FO _ a R T y) (λK t=>⟨⟨_,t,rfl,rfl⟩,(gA K.bq f hD).2,L.keep K,(gA K.bq f hD).1⟩)
theorem Cell.OP{c xs}(h:Cell.ER c=some xs):c=.h_ xs:=by induction c<;>first| exact aY h| exact congrArg _ (aM h)
theorem du.p9{tg e m}(D:Ev W n si e m):du W n si tg e (.p9 m):=λH st F h=>
 ob h λp V h=>ob h λi w h=>ob h λc O h=>ob h λR C h=>sj h (bR D H st F V λ{j ak v} S g Z r=>itR S g (by
  obtain rfl:=Cell.OP C
  exact kO g r w O λZ Q=>UE Q))
theorem Q0{tg:ay}(I l:aq)(R:List (aj×D))(T:List (aj×af))(y:Nat):
 hV W tg (.ref I) (λG h j=>h.IsValIter I l j T.length y/\ri (strKind W.prog W.w) h l T y/\bC W G h T R/\bJ W G l) (λa=>a=I) (ie (R.map (·.2))):=
 .turn (λ{A G s σ j x Q} H st n C O M d=>eP C λf hD L z=>by
  obtain rfl:=aM O
  rw [gg] at M d
  have v:=L.get j
  generalize N:T[j]?=p at v
  generalize E:R[j]?=q at v
  rw [E] at M d
  induction v with
  | none=>exact iT (wpAny_pyNext_values_end H.2.2.2 f hD N λh' F J=>M rfl h' _ F J)
  | some m g r=>
   have i:∀a,(λa=>a=I) a->G.fr a:=λa e=>e▸n
   exact wpAny_pyNext_values_item f hD N λh' t B=>d _ _ h' _ rfl B.extBut (bN B.1.symm) (bI t λo b c Z=>⟨o,_,b,c,by decide⟩) (λS=>have K:=S.ea i;⟨t,(gA K.bq z hD).2,L.keep K,(gA K.bq z hD).1⟩) λS=>r.step S i)
  (λh q=>wpAny_pyIter_valiter h.1 q) λu k P=>eP u λf hD L z=>⟨aw f λo b r=>⟨o,P _ b,r⟩,(gA k.bq z hD).2,L.keep k,(gA k.bq z hD).1⟩
theorem du.values{tg o i R m}(L:Ev W n si o m)(t:∀J,iE o "values" J (aU o J)=aU o J)(u:(i.endLine==R.line)=true):du W n si tg (.Call (.Attribute o "values" i) [] [] R) (.values m):=λ{A J M G s ρ σ r} H st Fr h=>
 ob h λp V h=>ob h λc O h=>sj h (BS (t J) u (bR L H st Fr V λ{j ak v} S g X r=>by
  refine yF g r O λ{a T} P U z ns hD Y=>?_
  refine Eg JK F.type_dict_values hD (method_meetsIn JK F.entry_dict_values rfl (LB ⟨rfl,hD.typeIs,F.args_dict_values_1 _,_,meets_dict_values (strKind W.prog W.w) a (o6 ns),⟨T,hD⟩,?_⟩))
  refine bI (g.freeze P U) λd N E b=>?_
  have Z:Step W bf d ak.heap d (ak.heap.push {cls:=.type "dict_values",data:=.fields #[.ref a]}):=Step.push _
  refine itR ((S.trans E).trans Z) (N.push _) ?_
  refine tJ ((b.go Z).inv) λk f e B D l Q C=>?_
  obtain rfl:=jA e
  refine aL Q.dictAt λy I=>?_
  exact qr (W:=W) rfl (λq=>wpAny_pyIter_values ⟨_,c5 _ rfl,rfl,rfl⟩ I q) (Q0 _ a c.2 f y) (λK x=>⟨⟨_,x,rfl,rfl⟩,(gA K.bq D I).2,C.keep K,(gA K.bq D I).1⟩)))
end
end
section
section
variable {W:Wd} {n:Nat} {si:SI}
theorem Op.iadd:bL W n (oW .Add) kT:=bL.pure (t:=oW .Add) (f:=zG) λH st i Q e=>by
 unfold zG at e
 split at e
 .rename_i N
  exact ob e λy E e=>sj e (i.gB N λ_=>Q.gB E λ_=>iadd_int (.int st))
 .exact ob e λx N e=>ob e λy E e=>og e λJ e=>sj e (i.c8 N λ_ m _=>Q.c8 E λ_ g _=>
   SB.iadd (λc a=>.tok st (.str _ _ (Ij m g) (by exact aa (LO ..)<|J))) (aE J f9))
theorem Op.QQ:bL W n (oW .Sub) u7:=bL.ints (t:=oW .Sub) λst e=>sj e (PySem.P.isub_int (.int st))
theorem Ny{x:String}(U:i7 si x=true):(si.kind x==some .local|| si.kind x==some .cell|| si.kind x==some .free)=true:=
 (nK _ _).mpr (.inl ((nK _ _).mpr (((nK _ _).mp U).imp id λh=>(band h).1)))
theorem Ex.aug{x np op e R m f}(O:bL W n (oW op) f)(D:Ev W n si e m)(U:i7 si x=true)(X:(au x==("__classdict__" :aj))=false):
 Ex W n si (.AugAssign (.Name (au x) np) op e R) (.assign (.name x) (.bh f (.var x) m)):=λ{A J M G s ρ σ r} H st F h=>
 ob h λp V h=>ob h λq Q h=>sj h (sj (motive:=λq=>ar _ _ _ (hY W A si J M G s (Fl.next,q.1,q.2)) _ _) Q (ob V λy E V=>ob V λz S V=>ob E λd g E=>by
  obtain rfl:=aM E
  refine wpAny_AugAssign_Name (iu (F2 st F g (Ny U) X) λv ak j P w a=>bR D H w (F.go st.inv P) S λc N i b=>iu (O H N (a.go c) b V) λL I k o K C=>
   bD (Bb K (i.go N.inv o) C U) λZ T B=>bP B λu t l=>.next (((P.trans c).trans o).any.trans u) t l)))
theorem WA{P:Gh->ai->Prop}{J:bg}{A:aO}{M:aq->Prop}{f:Nat}{H:ay}{xs I:List bZ}{b:MB}{d L:MS}{r:Fl×aC×MH}{Q:gw->ai->Prop}{ρ σ G s}(rm:br n A)(Y:Eb W n si H b)
 (g:∀{G s σ G' i},P G s->St W G s σ->Step W bf G s.heap G' i.heap->P G' i)
 (U:∀{G s ρ σ r},St W G s σ->aT W A G s.heap si J M ρ->P G s->d ρ σ=some r->ar W.M A (ja xs J) (λf i=>∃G',P G' i/\St W G' i r.2.2/\aT W A G' i.heap si J M r.2.1/\gK W G' i.heap f r.1) aF s)
 (t:∀{G s ρ σ},St W G s σ->aT W A G s.heap si J M ρ->P G s->L ρ σ=some r->ar W.M A (ja I J) (λf i=>Q f i) aF s)
 (v:∀{G' i} D,P G' i->St W G' i r.2.2->aT W A G' i.heap si J M r.2.1->gK W G' i.heap D r.1->Q D i)
 (h:qL b d L f ρ σ=some r) (st:St W G s σ) (F:aT W A G s.heap si J M ρ) (p:P G s):eU W.M A (.whileLoop H xs I J) (λr i=>∃D,r=.ok D/\Q D i) s:=by
 refine codeAny_whileLoop (λk i=>∃N aW G',qL b d L k N aW=some r/\P G' i/\St W G' i aW/\aT W A G' i.heap si J M N) ?_ f ⟨ρ,σ,G,h,p,st,F⟩
 rintro k i ⟨N,aW,G',l,O,S,JW⟩
 induction k with
 | zero=>exact aY l
 | succ k=>
  refine ob l λc V l=>aF.any (jD Y rm S JW V λ{j ak} Z w E=>oc l (λq l=>?_) λq l=>?_)
  .exact aa (if_pos q ..)<|ob l λz T l=>aF.any (bD (U w E (g O S Z) T) λC m R=>dG R λX K B a u=>Gg (λD=>∃y,(Jv D:hZ)=.ok y/\Q y m) u l
    (λl=>⟨k,cw _,z.2.1,z.2.2,X,l,K,B,a⟩) λD e x=>⟨D,rfl,v D K (by exact aa (e ..)<|B) (by exact aa (e ..)<|a) x⟩)
  .exact aa (if_neg (by rw [q];decide))<|aF.any (bD (t w E (g O S Z) l) λC m o=>⟨_,rfl,o⟩)
theorem Ex.nF{f k xs I R b d L}(a:Eb W n si k b)(U:dY W n si xs d)(t:dY W n si I L):Ex W n si (.While k xs I R) (.nF f b d L):=λ{A J M G s ρ σ r} H st F h=>
 wpAny_While (g6 (WA (P:=λG' i=>Step W M G s.heap G' i.heap) (Q:=hY W A si J M G s r) H a (λS Z T=>S.trans T.any) (λw E S e=>wpS (U H w E e) λf i G' T g O u=>⟨G',S.trans T,g,O,u⟩)
  (λw E S e=>qR S (t H w E e)) (λD S g O u=>⟨_,S,g,O,u⟩) h st F .refl) λr i j=>aw j λD e o=>by subst e;exact o)
theorem Ex.V2{O G B R mb}(hb:dY W n si O mb):Ex W n si (.Try O (G::B) [] [] R) mb:=λH st F h=>
 WE (aF.any (bD (hb H st F h) λf ak o=>by
  induction f with
  | next=>exact wK o
  | _=>exact o))
end
end
section
section
variable {W:Wd} {n:Nat} {si:SI}
theorem Ex.pg{x np e wp k S tp R m xs X d L}(Y:Ev W n si e m)(U:i7 si x=true)(O:dY W n si xs d)(z:dY W n si X L):
 Ex W n si (.If (.Compare (.NamedExpr (.Name (au x) np) e wp) [.Is] [.Constant .none k S] tp) xs X R) (.pg x m d L):=λ{A J M G s ρ σ r} H st F h=>
 ob h λp V h=>by
  refine wpAny_If (WL ?_ (by rfl))
  refine aa (arm_eval_NamedExpr ..) ?_
  refine ah (bR Y H st F V λ{j ak v} P w E a=>ah (bz (assign_Name (bD (Bb w E a U) λZ D B=>bP B λy N i=>aD ?_))))
  refine(aD ?_:ar W.M A (aU (.Constant .none k S) J) _ aF D)
  refine iu (Op.is (n:=n) H N (a.step y E.dg) .none (r:=(.bool (jb p.1),p.2)) rfl) λc I Q o K C=>qQ (qF K C (b:=jb p.1) rfl) λT f u t=>?_
  have l:=(i.go N.inv o).go K.inv u
  have g:=(((P.any (M:=M)).trans y).trans (o.any (M:=M))).trans (u.any (M:=M))
  exact oc h (λq h=>by exact aa (if_pos q ..)<|qR g (O H t l h)) λq h=>by exact aa (if_neg (by rw [q];decide))<|qR g (z H t l h)
theorem Ex.pZ{t u y R m mt L}(e:Ev W n si y m)(T:Et W n si t mt)(f:Et W n si u L)(B:∀J:bg,J.scope=si.sc->kq [t,u] y R.line J=pure false)(l:∀J:bg,J.scope=si.sc->l0 [t,u] y J=pure none)
 (U:∀J,gy [t,u] J= [(false,iy t J),(false,iy u J)]):Ex W n si (.Assign [t,u] y R) (.pZ mt L m):=λ{A J M G s ρ σ r} H st F h=>
 ob h λp V h=>ob h λq Q h=>ob h λx b h=>sj h (by
  refine aa (arm_exec_Assign ..)<|aa (B _ F.sc ..) ?_
  refine ah (cQ (ah (aD ?_)))
  refine aa (if_neg (by decide)) ?_
  refine ah (bR e H st F V λ{j ak v} P w E a=>?_)
  refine aa (l _ F.sc ..) ?_
  refine ah (aD ?_)
  refine aa (U ..) ?_
  show ar _ _ ((kf [_] (iy t J _)>>=λZ=>iy u J _)>>=λZ=>pure Flow.next) _ _ _
  exact ah (ah (bz (kA (T H w E a Q) λD d c N i=>kA (f H N i (a.step c E.dg) b) λI k o K g=>aD (.next (((P.any (M:=M)).trans c).trans o) K g)))))
theorem bC.without{G h}{k:aj}{T:List (aj×af)}{R}(r:bC W G h T R):bC W G h (LC T k) (R.filter λp=>decide (p.1≠k)):=
 r.ind .nil λ{f v d P j} a b r Z S=>by
  unfold LC at S ⊢
  by_cases C:f=k
  .exact aa (Kq (by simpa using C))<|aa (Kq (by simpa using C))<|S
  .exact aa (Kr (by simpa using C))<|aa (Kr (by simpa using C))<| .cons a b r S
end
end
section
theorem Cell.U3{c xs}(h:Cell.HP c=some xs):c=.set xs:=by induction c<;>first| exact aY h| exact congrArg _ (aM h)
section
variable {W:Wd} {n:Nat} {si:SI}
@[elab_as_elim] theorem yI{G:Gh}{s:ai}{σ:MH}{d:D}{p:Nat×List aj}{v:af}{motive:af->Prop}(st:St W G s σ)(r:Rep W G s.heap v d)(h:rW σ d=some p)
   (k:∀{a},σ.cell p.1=some (.set p.2)->G.g p.1=some a->s.heap.SetOf (strKind W.prog W.w) a (λk=>decide (k∈p.2)) p.2.length->motive (.ref a)):motive v:=
  ob h λi b h=>ob h λc O h=>ob h λxs U h=>by
   obtain rfl:=aM h
   obtain rfl:=Cell.U3 U
   exact kO st r b O λu I=>k O u I
theorem bG.te{p R}(l:W.Ok)(C:si.kind "set" =some .globalImplicit)(u:W.mg (au "set")=none)(z:W.mb (au "set")=some (.type "set")):bG W n si (.Call (.Name (au "set") p) [] [] R) .te:=λ{A J M G s ρ σ r} H st Fr h=>sj h (by
 refine aa (jB ..) ?_
 refine ah (g8 l st Fr C (by decide) (.inr ⟨u,z⟩) (j7 rfl rfl (LB (call_set_0 λk=>dy.push (tk:=s.toks) st rfl λG' K e=>?_))))
 exact xX ((Lr (knd:=strKind W.prog W.w) k).setOf e (by unfold qu;decide)) (λZ=>by simp) rfl)
theorem U6(xs:List aj)(k f:aj):decide (f∈qx xs k)=(decide (f=k)|| decide (f∈xs)):=by
 unfold qx
 split
 .rename_i z
  by_cases C:f=k
  .refine aa (C ..)<|aa (decide_eq_true z ..) ?_;simp
  .exact aa (decide_eq_false C ..)<|aa (tU ..) rfl
 .exact aa (.symm (Jc ..))<|decide_eq_decide.mpr (by rw [n4,pO];exact or_comm)
theorem M.US:pQ W n "add" sz wh:=λ{A G s σ v d t e ao r} R H st L T o h=>by
 refine aL (mX T) λp T=>?_
 refine yI (motive:=λv=>Rep W G s.heap v d->W.jw A "add" v R [(false,t)] (Out W G s r.2 r.1) s) st L T (λ{a} l i I L=>?_) L
 refine⟨"set","set.add",F.plainAttrs_set,F.slot_set_add,F.type_set_add,I.typeIs,I.noDict,j7 rfl rfl (BU (BV (o λ{j ak u} S Z J=>w9 ?_)))⟩
 refine ob h λk C h=>ob h λq y h=>og h λD h=>sj h ?_
 have N:=L.go S
 show ar _ _ (bM (.builtin "set.add") [.ref a,u]) _ _ _
 revert N
 generalize eB a=w
 intro N
 refine yI Z N y λ{a} O c b=>J.c8 C λt m g=>?_
 refine call_set_add (jI k t) (by rfl) b (by unfold qu;lia) λh' B V=>?_
 have x:=Z.m_ (tk:=ak.toks+1) (c':=.set (qx q.2 k)) O rfl c (.inl c) B.extBut (bN B.1.symm) λK=>
  xX V (λf=>by refine aa (U6 ..) ?_;by_cases C:f=k<;>simp [C]) (by by_cases z:k∈q.2<;>simp [qx,z])
 exact⟨j,S.trans x.2,x.1,.none⟩
theorem Op.inSet:bL W n (iJ .In) oV:=bL.pure (t:=iJ .In) (f:=FD) λ{A G s σ v u d e r} H st i Q h=>
 ob h λk C h=>ob h λq y h=>sj h (yI st Q y λ{a} O Z I=>i.c8 C λt m g=>wpAny_inSet_of (jI _ t) (by rfl) I (.tok st (.bool _)))
end
end
section
theorem Cell.zJ{c x}(h:Cell.zI c=some x):c=.inst x.1 x.2:=by induction c<;>first| exact aY h| (obtain rfl:=aM h;rfl)
noncomputable def oO (K:kC) (C:aq) (name:aj):Bool:=AH K C name && Fh K C && (match lN K (.ref C) name with| some m=>noGet K m| none=>false)
theorem Pj{K C name}{P:Prop}(h:oO K C name=true)(k:AH K C name=true->Fh K C=true->∀m,lN K (.ref C) name=some m->noGet K m=true->P):P:=by
 unfold oO at h
 have g:=band h
 generalize I:lN K (.ref C) name=f at g
 induction f with
 | none=>exact nomatch g.2
 | some m=>exact k (band g.1).1 (band g.1).2 m I g.2
structure Wd.hU(W:Wd)(k:Nat):Prop where
 cls:∀o,W.kind k o->o.cls=.ref k
 no:∀o,W.kind k o->notCls o=true
section
variable {W:Wd} {n:Nat} {si:SI}
theorem uX{G h v d}(r:Rep W G h v d):handedIn v=true:=by cases r<;>rfl
theorem vv{h:aN}{a:aq}{m:aj->Option af}(x:h.Ns a m):∃o,h.get? a=some o/\∀name,lookIn name o=some (m name):=by
 refine tK x λo u y e P C z=>?_
 refine⟨o,e,λname=>?_⟩
 unfold lookIn
 refine aa (P ..) ?_
 dsimp only
 have N:=z name
 unfold vT findBy at N
 rw [← Array.find?_toList] at N
 induction I:u.toList.find? (·.key.isStr name) with
 | some en=>rw [I] at N;exact aa (.symm (N ..)) rfl
 | none=>
  rw [I] at N
  have:u.toList.any (·.refKey)=false:=by
   rw [List.any_eq_false]
   intro en b
   refine ew (C en (by simpa using b)) λk t c=>?_
   unfold Js
   refine aa (c ..) ?_;simp
  dsimp only
  exact aa (this ..)<|aa (.symm (N ..)) rfl
theorem bC.lookup{G h T R}(r:bC W G h T R){k:aj}{d}:R.lookup k=some d->∃v,T.lookup k=some v/\Rep W G h v d:=
 r.ind (motive:=λT R=>R.lookup k=some d->∃v,T.lookup k=some v/\Rep W G h v d) (λe=>aY e) λ{f v d P j} Z Z r Z S e=>by
  rw [dI] at e ⊢
  induction hb:k==f with
  | true=>rw [hb] at e;exact⟨_,rfl,aM e▸r⟩
  | false=>rw [hb] at e;exact S e
@[elab_as_elim] theorem u4{G:Gh}{s:ai}{σ:MH}{v d x}{motive:af->Prop}(st:St W G s σ)(r:Rep W G s.heap v d)(h:sx σ d=some x)
   (k:∀{a o t T},s.heap.get? a=some o->W.kind x.1 o->o.dict=some t->s.heap.Ns t (λx=>T.lookup x)->bC W G s.heap T x.2->motive (.ref a)):motive v:=by
  refine ob h λi w h=>ob h λc O h=>?_
  obtain rfl:=Cell.zJ h
  exact kO st r w O λu B=>tL B λo t T V Q E S b y=>k Q E S b.ns y
theorem E8{A G s σ v d r}{k:Nat}{name:aj}{expr:Bool}(l:W.Ok)(I:W.hU k)(u:oO W.K k name=true)(st:St W G s σ)(L:Rep W G s.heap v d)(h:rR k name d σ=some r):
 ar W.M A (kS v name expr) (Out W G s σ r) aF s:=
 ob h λx w h=>og h λz P=>(by
  subst z
  refine u4 st L w λ{a o t T} V Q E S b=>Pj u λc i m g B=>?_
  refine aw (vv S) λe y F=>?_
  refine aw (b.lookup P) λH j f=>?_
  exact get_value (l.gn.keeps st.inv.keep) ⟨V,I.cls o Q,I.no o Q,by exact aa (E ..)<|y⟩ (v7 c).1 (findObj_own i g B ((F name).trans (congrArg some j))) (uX f) (.tok st f))
theorem Ev.attr{y name R m k}(l:W.Ok)(I:W.hU k)(u:oO W.K k name=true)(N:Ev W n si y m)(t:∀J,iE y name J (aU y J)=aU y J):Ev W n si (.Attribute y name R) (.ax (aV k name) m):=λ{A J M G s ρ σ r} H st F h=>
 ob h λp V h=>ob h λd P h=>sj h (by
  exact aa (uk ..)<|aa (t ..)<|wpAny_bind (bR N H st F V λ{j ak v} S g O r=>ah (cQ (ah (bz (bD (E8 l I u g r P) λf D x=>ah (tG (aD (x.trans S)))))))))
end
end
section
noncomputable def setOk (K:kC) (C:aq) (name:aj):Bool:=(lN K (.ref C) "__setattr__" ==some (some (.builtin "object.__setattr__"))) && plainOver K C && (takerIn K C name==some none) && Fh K C
section
variable {α β:Type} [BEq α] [LawfulBEq α] [DecidableEq α]
theorem Dg(T:List (α×β))(name:α):(T.any λc=>c.1=name)=(T.lookup name).isSome:=by
 induction T with
 | nil=>rfl
 | cons p r S=>
  refine aa (pL ..)<|aa (dI ..)<|aa (S ..) ?_
  induction hb:name==p.1 with
  | true=>exact aa (decide_eq_true (eq_of_beq hb).symm ..) rfl
  | false=>exact aa (decide_eq_false (λe=>by rw [e,beq_self_eq_true] at hb;exact nomatch hb))<|aa (tU ..) rfl
theorem Se(name:α)(v:β)(y:α)(l:List (α×β)):(l.map λc=>if c.1=name then (c.1,v) else c).lookup y=if y=name then (l.lookup y).map (λZ=>v) else l.lookup y:=by
 induction l with
 | nil=>refine aa (rE ..)<|aa (List.lookup_nil ..) ?_;split<;>rfl
 | cons p r S=>
  have e:(if p.1=name then (p.1,v) else p)=(p.1,if p.1=name then v else p.2):=by split<;>rfl
  refine aa (eK ..)<|aa (e ..)<|aa (dI ..)<|aa (dI ..) ?_
  induction hb:y==p.1 with
  | true=>
   refine aa (.symm (eq_of_beq hb ..)) ?_
   by_cases t:y=name
   .exact aa (if_pos t ..)<|aa (if_pos t ..) rfl
   .exact aa (if_neg t ..)<|aa (if_neg t ..) rfl
  | false=>exact S
theorem Hu(T:List (α×β))(name:α)(v:β)(y:α):(if (T.any λc=>c.1=name)=true then T.map (λc=>if c.1=name then (c.1,v) else c) else T++ [(name,v)]).lookup y=if y=name then some v else T.lookup y:=by
 refine aa (Dg ..) ?_
 induction h:T.lookup name with
 | some u=>
  refine aa (if_pos (show(some u).isSome=true from rfl))<|aa (Se ..) ?_
  split
  .rename_i e;exact aa (e ..)<|aa (h ..) rfl
  .rfl
 | none=>
  refine aa (if_neg (show ¬(none:Option β).isSome=true from(λh=>nomatch h)))<|aa (Cn ..) ?_
  by_cases t:y=name
  .exact aa (if_pos t ..)<|aa (t ..)<|aa (h ..)<|aa (Cp ..) rfl
  .exact aa (if_neg t ..)<|aa (dI ..)<|aa (beq_eq_false_iff_ne.mpr t ..)<|Option.or_none
end
theorem Ig(T:List (aj×af))(name:aj)(v:af):(λy=>(qz T name v).lookup y)=λy=>if y=name then some v else T.lookup y:=funext λy=>Hu T name v y
theorem Ie(T:List (aj×af))(name:aj)(v:af):(qz T name v).length=if (T.lookup name).isSome then T.length else T.length+1:=by
 unfold qz
 refine aa (Dg ..) ?_
 split
 .exact aa (aZ ..) rfl
 .exact aa (bF ..) rfl
theorem G4{M:lB}{A:aO}{E:af->ai->Prop}{s:ai}{a:aq}{m:aj->Option af}{n:Nat}{name:aj}{v:af}{Q:Unit->ai->Prop}(G:ix s.heap a m n)
 (S:∀h',ix h' a (λx=>if x=name then some v else m x) (if (m name).isSome then n else n+1)->hO a s.heap h'->Q () {s with heap:=h',toks:=s.toks+1}):ar M A (nsSet a name v) Q E s:=λb p f=>by
 refine jU G λo u j L P C z J=>?_
 simp only [nsSet,strHash,Sem.wp_bind',Sem.wp_cmd_ask,Sem.wp_pure',Sem.wp_cmd_mkText]
 refine aa (Sem.wp_loadPart_of M b _ _ {s with toks:=s.toks+1} (o:=o) _ L ..) ?_
 have g:u.any (·.refKey)=false:=by
  rw [Array.any_eq_false'];intro e D;refine ew (C e D) λn t h=>?_;simp [Js,h]
 simp only [P,aRefKeyMayBeTheName_eq,aRefKeyMayBeTheNameByArray,g,tR,qV,if_false,Sem.wp_cmd_updatePart]
 refine⟨by exact aa (L ..) rfl,S _ ?_ (ft ..)⟩
 obtain⟨c,d,V,H⟩:=o
 subst P
 have I:=findBy_of_findIdx? (λn v=>v.isStr n) u name
 have q:findBy (λn v=>v.isStr n) u name=m name:=z name
 induction w:u.findIdx? (·.key.isStr name) with
 | some i=>
  refine⟨_,_,j,eI _ L (by simp only [xP,xO,w];rfl),by simp only [xP,xO,w];rfl,C.modify _ _,λx=>?_,?_⟩
  .show _=if x=name then some v else m x
   exact aa (.symm (z ..))<|findBy_modify (λn v=>v.isStr n) Value.isStr_inj u name x v i w
  .refine aa (Array.size_modify ..) ?_
   split<;>omega
 | none=>
  refine⟨_,_,j+1,eI _ L (by simp only [xP,xO,w];rfl),by simp only [xP,xO,w];rfl,C.push _ _ _ _,λx=>?_,?_⟩
  .show _=if x=name then some v else m x
   exact aa (.symm (z ..))<|findBy_push (λn v=>v.isStr n) u name x _ _ v (λy=>by
    show(name==y)=decide (y=name)
    by_cases h:y=name
    .subst h;simp
    .have:¬name=y:=λe=>h e.symm
     simp [h,this]) w
  .have:m name=none:=by
    refine aa (.symm (q ..))<|aa (I ..) ?_
    have Z:u.findIdx? (λe=>(λn v=>Value.isStr v n) name e.key)=none:=w
    exact aa (Z ..) rfl
   refine aa (this ..) ?_
   simp only [Option.isSome_none,qV,if_false,BK]
   omega
section
variable {W:Wd} {n:Nat} {si:SI}
theorem Vc{A:aO}{s:ai}{K:kC}{x C f:aq}{q e:bu}{m:aj->Option af}{name:aj}{v:af}{Q:Unit->ai->Prop}{E:af->ai->Prop}(X:K.In s.heap)(I:InstAt s.heap x q C (some e)){k:Nat}(P:q.dict=some f)(G:ix s.heap f m k)(p:k<=1000)(d:setOk K C name=true)
 (S:∀h' tk,ix h' f (λy=>if y=name then some v else m y) (if (m name).isSome then k else k+1)->hO f s.heap h'->Q () {s with heap:=h',toks:=tk}):ar W.M A (wm (.ref x) name v) Q E s:=by
 unfold setOk at d
 simp only [jo] at d
 refine aA d λw s4=>?_;refine aA w λR s3=>?_;refine aA R λu s2=>?_
 obtain⟨j,g,h,t,os⟩:=s
 refine set_plain X I (beq_iff_eq.mp u) ?_
 refine osa_open (r:=none) (s:=⟨j,g,h,t+1,os⟩) X I s2 (beq_iff_eq.mp s3) λb=>?_
 refine aw (any_some s4) λcd O B=>?_
 obtain⟨U,T,N,-⟩:=I
 dsimp only at U
 obtain⟨oc,z,V,Y⟩:=q
 dsimp only at T P
 subst T P
 refine ah (aD (ah (ah (Bw U (ah ((looks_clsIn X O).at ?_))))))
 refine aa (B ..) ?_
 refine aD (a:=some f) (ah (aD (ah (G4 (s:=⟨j,g,h,t+1,os⟩) G λh' n H=>?_))))
 have F:=n
 refine jU F λo D l L c Z Z i=>?_
 have J:D.size<=gF+1:=by
  refine aa (HV ..) ?_
  split at i<;>omega
 exact ah (WM L (by exact aa (c ..)<|pastItsLine_dict J) (aD (S h' _ n H)))
theorem HR{A:aO}{G:Gh}{s:ai}{σ ab:MH}{k:Nat}{name:String}{v u:af}{o d:D}(l:W.Ok)(I:W.hU k)(j:setOk W.K k (au name)=true)(p:name.length<=100)(st:St W G s σ)(J:Rep W G s.heap u o)(r:Rep W G s.heap v d)
 (h:s8 k (au name) o d σ=some ab):ar W.M A (wm u (au name) v) (λZ L=>Step W bf G s.heap G L.heap/\St W G L ab) aF s:=
 ob h λc O h=>og h λz h=>ob O λi w O=>ob O λg P O=>ob O λx U O=>by
  obtain rfl:=aM O
  obtain rfl:=aM h
  obtain rfl:=Cell.zJ U
  obtain⟨rfl,z⟩:=z
  refine kO st J w P λ{a} C ⟨ob,t,T,V,Q,E,S,b,m⟩=>?_
  obtain⟨e,F,H⟩:=vv b.ns
  refine Vc (l.gn.keeps st.inv.keep) ⟨Q,I.cls ob E,I.no ob E,by exact aa (S ..)<|F⟩ S b (by exact aa (m.length ..)<|z) j λh' f n B=>?_
  have N:=(st.cells.at_ i _ P).1 rfl
  have y:=st.m_ (tk:=f) (c':=.inst x.1 (eF x.2 (au name) d)) P rfl C (.inr V) B.extBut (bN B.1.symm) λK=>
   ⟨ob,t,qz T (au name) v,V,B.extBut _ _ (λq=>st.inv.gd i i a N N C (q▸V)) Q,E,S,by exact aa (Ig ..)<|aa (Ie ..)<|n,(m.keep K).put (qA _) (by exact aa (zU ..)<|Nat.le_trans p (by decide)) (r.keep K)⟩
  exact⟨y.2,y.1⟩
theorem Et.attr{o name R mo k}(l:W.Ok)(I:W.hU k)(i:setOk W.K k (au name)=true)(b:name.length<=100)(L:Ev W n si o mo):Et W n si (.Attribute o (au name) R) (.attr k (au name) mo):=λ{A J M G s ρ σ v d f} H st F r h=>
 ob h λp V h=>ob h λab B h=>sj h (by
  exact aa (Dp ..)<|wpAny_bind (bz (bR L H st F V λ{j ak e} P w E a=>ah (cQ (ah (bz (bD (HR l I i b w a (r.go P) B) λZ D u=>aA u λc N=>qO ⟨j,(P.trans c).any,N,E.go w.inv c⟩)))))))
theorem Ex.oj{o name S op y T U m f k}(l:W.Ok)(I:W.hU k)(L:oO W.K k (au name)=true)(i:setOk W.K k (au name)=true)(Q:name.length<=100)(ho:Ev W n si o U)(he:Ev W n si y m)(O:bL W n (oW op) f):
 Ex W n si (.AugAssign (.Attribute o (au name) S) op y T) (.oj k (au name) f U m):=λ{A env M G s ρ σ r} H st F h=>
 ob h λp e1 h=>ob h λx e2 h=>ob h λq e3 h=>ob h λz e4 h=>ob h λab hs h=>sj h (by
  refine aa (Mp ..) ?_
  refine ah (cQ (ah (bR ho H st F e1 λ{j ak Bq} P w E a=>ah (bz (ah (cQ (ah (iu (E8 l I L w a e2) λBr D d c N b=>?_))))))))
  refine ah (bz (bR he H N (E.go w.inv c) e3 λ{X eZ IL} e B g C=>ah (cQ (WN (iu (O H B (b.go e) C e4) λWo kr Y u t v=>?_)))))
  exact ah (cQ (ah (bz (bD (HR l I i Q t (((a.go c).go e).go u) v hs) λZ ks V=>aA V λJ R=>ah (qO (aD (.next ((((P.trans c).trans e).trans u).trans J).any R ((g.go B.inv u).go t.inv J)))))))))
end
end
section
noncomputable def Gh.n_ (G:Gh) (i:Nat) (a t:aq):Gh:={G with g:=upd G.g i (some a),d:=upd G.d i (some t)}
section
variable {W:Wd} {n:Nat} {si:SI}
theorem St.Dc{G:Gh}{s s':ai}{σ:MH}{a da:aq}{c:Cell}(st:St W G s σ)(f:da=s.heap.objs.size)(n:a=s.heap.objs.size+1)(hsz:s'.heap.objs.size=s.heap.objs.size+2)
 (k:∀b o,s.heap.get? b=some o->s'.heap.get? b=some o) (u:s'.gens=s.gens) (L:s'.os=s.os) (I:∀G',cH W G s.heap G' s'.heap->cg W G' s'.heap a (some da) c):
 St W (G.n_ σ.next a da) s' (σ.new c)/\Step W bf G s.heap (G.n_ σ.next a da) s'.heap/\(G.n_ σ.next a da).g σ.next=some a:=by
 refine bP (st.cells.free σ.next (bb _)) λr v C=>?_
 have lo:∀b,b=a∨b=da->s.heap.objs.size<=b/\b<s'.heap.objs.size:=λb hb=>by
  exact aa (hsz ..)<|hb.elim (λe=>by exact aa (e ..)<|aa (n ..)<|⟨dD _,cw _⟩) λe=>by exact aa (e ..)<|aa (f ..)<|⟨bb _,fG (cw _)⟩
 have own:∀b,(G.n_ σ.next a da).own b->G.own b∨b=a∨b=da:=λb B=>aw B λi l x=>
  x.elim (λx=>ec x (λZ e=>.inr (.inl (aM e).symm)) λZ h=>.inl ⟨i,l,.inl h⟩) λx=>ec x (λZ e=>.inr (.inr (aM e).symm)) λZ h=>.inl ⟨i,l,.inr h⟩
 have m:∀{b c i},some c=some b->(c=a∨c=da)->G.c0 i->¬(G.g i=some b∨G.d i=some b):=λ{b c i} e hb l x=>absurd (st.inv.cn b ⟨i,l,x⟩).2.1 (Nat.not_lt.mpr (lo b (aM e▸hb)).1)
 have J:s.heap.objs.size<=s'.heap.objs.size:=by exact aa (hsz ..)<|Nat.le_add_right _ _
 have S:Step W bf G s.heap (G.n_ σ.next a da) s'.heap:=.all (λi b e=>(k_ (λq=>aY (r.symm.trans (q▸e)))).trans e) (λi b e=>(k_ (λq=>aY (v.symm.trans (q▸e)))).trans e) rfl (λZ x=>x) (λb x=>(own b x).imp id λy=>(lo b y).1) (λb o e Z=>k b o e) J
 have K:=S.ea λZ x=>x.elim
 refine⟨⟨⟨λb o e=>k b o (st.inv.keep b o e),aE st.inv.size J,u.trans st.inv.gens,L.trans st.inv.os,λb x=>?_,λb x=>(st.inv.b0 b x).imp id (eH λh=>a9 h J),λi j b w F e t=>?_,λi j b w F e t=>?_,λi j b w F e t=>?_,st.inv.tab.keep K.bq λZ e=>k _ _ e,st.inv.eO,st.inv.hJ,st.inv.b8⟩,⟨λi p e=>?_,λi w=>?_⟩⟩,S,qK⟩
 .exact(own b x).elim (λy=>(st.inv.cn b y).imp id (eH λh=>a9 h J)) λy=>have:=lo b y;⟨aE st.inv.size this.1,this.2,λz=>absurd (st.inv.b0 b z).2.1 (Nat.not_lt.mpr this.1),λq=>absurd (a9 st.inv.eO st.inv.size) (Nat.not_lt.mpr (q▸this.1))⟩
 .exact ec e (λq e=>ec t (λQ Z=>q.trans Q.symm) λZ t=>(m e (.inl rfl) F (.inl t)).elim) λZ e=>ec t (λZ t=>(m t (.inl rfl) w (.inl e)).elim) λZ t=>st.inv.gR i j b w F e t
 .exact ec e (λq e=>ec t (λQ Z=>q.trans Q.symm) λZ t=>(m e (.inr rfl) F (.inr t)).elim) λZ e=>ec t (λZ t=>(m t (.inr rfl) w (.inr e)).elim) λZ t=>st.inv.g7 i j b w F e t
 .exact ec e (λq e=>ec t (λZ t=>absurd ((aM e).trans (aM t).symm) (by exact aa (n ..)<|aa (f ..)<|Nat.ne_of_gt (cw _))) λZ t=>m e (.inl rfl) F (.inr t)) λZ e=>ec t (λZ t=>m t (.inr rfl) w (.inl e)) λZ t=>st.inv.gd i j b w F e t
 .exact ec e (λq V=>by subst q;obtain rfl:=aM V;exact⟨λZ=>C,a,qK,by exact aa (show(G.n_ σ.next a da).d σ.next=some da from qK)<|I _ K⟩)
   λw e=>have x:=st.cells.at_ i p e;⟨x.1,x.2.imp λb y=>⟨K.g _ _ y.1,by exact aa (show(G.n_ σ.next a da).d i=G.d i from k_ w)<|y.2.keep K (λo e=>k _ o e) (λZ o Z e=>k _ o e)⟩⟩
 .have w:σ.next+1<=i:=w
  refine bP (st.cells.free i (lC w)) λN E A=>?_
  exact⟨(k_ (dc w)).trans N,(k_ (dc w)).trans E,A⟩
theorem br.Wg{A:aO}{C:aq}{P:List af}{a:List (aj×af)}(r:br (n+1) A):br n (A.under (.builtin "type.__call__" ⟨.ref C::P,a⟩)):=
 ⟨by have:=r.1;show A.depth+1+_<=_;lia,by have:=r.2.1;show A.units+1+_<=_;lia,r.2.2.1,r.2.2.2⟩
theorem D4{C f:aq}{F:FM}{c:Cell}(l:W.Ok)(z:GI W.K C=true)(w:lN W.K (.ref C) "__init__" =some (some (.ref f)))(I:Bm W.K (.ref f)=some (.type "function")){A G s σ P T p}(H:br (n+1) A)(st:St W G s σ)(L:aQ W G s.heap P T)(fo:Fo A G s.heap)
 (O:∀(j:aq) (h':aN),h'.get? (j+1)=some (mU C j)->h'.get? j=some r0->∀G',cH W G s.heap G' h'->cg W G' h' (j+1) (some j) c) (k:ba W n f F) (V:F (.ref σ.next::T) (σ.new c)=some p) (U:jb p.1=true):
 eU W.M A (.call (.ref C) ⟨P,[]⟩) (xR W G s (.ref σ.next,p.2)) s:=by
 obtain⟨j,g,h,t,os⟩:=s
 have X:W.K.In j:=l.gn.keeps st.inv.keep
 refine make_core (makes_of X z) (looks_findIn X w) (λi=>bind_fn X i I) (.inl rfl) ?_
 have y:(j.push r0).objs.size=j.objs.size+1:=c9 ..
 have Q:((j.push r0).push (mU C j.objs.size)).get? (j.objs.size+1)=some (mU C j.objs.size):=by exact aa (.symm (y ..))<|Heap.get?_push_size _ rfl
 obtain⟨J,S,u⟩:=st.Dc (s':=⟨(j.push r0).push (mU C j.objs.size),g,h,t,os⟩) (a:=j.objs.size+1) (da:=j.objs.size) (c:=c) rfl rfl ((c9 ..).trans (congrArg (· +1) y)) (λb o e=>bH _ (bH _ e)) rfl rfl λG' K=>
  O _ _ Q (bH _ (c5 _ rfl)) G' K
 exact g6 (k (H.Wg) J (.cons (.ref u) (L.go S)) (fo.step S λZ Z Z x=>x) V) λr D R=>aw R λv m E=>bI E λd q N B=>by
  subst m
  exact⟨AY B U,_,rfl,d,S.trans q,N,.ref (q.g _ _ u)⟩
theorem ba.cls{C fI:aq}{F:FM}(l:W.Ok)(z:GI W.K C=true)(w:lN W.K (.ref C) "__init__" =some (some (.ref fI)))(I:Bm W.K (.ref fI)=some (.type "function"))(b:∀f,W.kind C (mU C f))(k:ba W n fI F):ba W (n+1) C (yR C F):=λ{A G s σ P d r} H st L fo e=>
 ob e λp V e=>og e λa e=>sj e (D4 (c:=.inst C []) l z w I H st L fo (λj h' Q E G' K=>⟨mU C j,j,[],rfl,Q,b _,rfl,⟨r0,#[],0,E,rfl,(λZ D=>by simp at D),λZ=>rfl,bb _⟩,.nil⟩) k V a)
theorem Ev.Nl{x p e rest R g a F}(l:W.Ok)(C:si.kind x=some .globalImplicit)(hb:(au x==("__debug__" :aj))=false)(u:W.mg (au x)=some (.ref a))(I:u9 W.K (.ref a)=true)(k:ba W n a F)
 (h:fF W n si (e::rest) g) (D:∀J,bB (e::rest) J=(false,aU e J)::bB rest J) (d:∀J,(bB rest J).any (·.1)=false):Ev W n si (.Call (.Name (au x) p) (e::rest) [] R) (.a8 F g):=λ{A J M G s ρ σ r} H st Fr h'=>
 ob h' λq V h'=>by
  exact aa (jB ..)<|wpAny_bind (g8 l st Fr C hb (.inl u) (callWith_K (l.gn.keeps st.inv.keep) I (h H st Fr V λS b O y=>⟨l.gn.keeps b.inv.keep,gG S (p5 k H b y O.ku h')⟩) (D J) (kH (d J))))
theorem Ev.Nm{x p R a F}(l:W.Ok)(C:si.kind x=some .globalImplicit)(hb:(au x==("__debug__" :aj))=false)(u:W.mg (au x)=some (.ref a))(I:u9 W.K (.ref a)=true)(k:ba W n a F):
 Ev W n si (.Call (.Name (au x) p) [] [] R) (.call F []):=λ{A J M G s ρ σ r} H st Fr h'=>by
 exact aa (jB ..)<|wpAny_bind (g8 l st Fr C hb (.inl u) (callWith_K0 (l.gn.keeps st.inv.keep) I (p5 k H st .nil Fr.ku h')))
noncomputable def vM (K:kC) (C:aq) (name:aj) (f:aq):Bool:=(lN K (.ref C) name==some (some (.ref f))) && isFn K (.ref f) && u9 K (.ref f) && AH K C name
theorem UJ{C name σ d}{P:Prop}(h:qt C name σ d=true)(k:∀B,sx σ d=some (C,B)->B.lookup name=none->P):P:=by
 unfold qt at h
 split at h
 .rename_i x U
  refine aA (of_decide_eq_true h) λV Q=>?_
  exact k x.2 (by exact aa (U ..)<|aa (.symm (V ..)) rfl) Q
 .exact nomatch h
theorem bC.RG{G h T R}(r:bC W G h T R){k:aj}:R.lookup k=none->T.lookup k=none:=
 r.ind (motive:=λT R=>R.lookup k=none->T.lookup k=none) (λZ=>rfl) λ{f v d P j} Z Z r Z S e=>by
  rw [dI] at e ⊢
  induction hb:k==f with
  | true=>rw [hb] at e;exact aY e.symm
  | false=>rw [hb] at e;exact S e
theorem GO{A:aO}{J:bg}{G:Gh}{s:ai}{σ:MH}{o:ay}{name:aj}{i R:bc}{args:List ay}{v:af}{x:D}{C f:aq}{Q:af->ai->Prop}(l:W.Ok)(I:W.hU C)(z:vM W.K C name f=true)
 (O:sI (args.length+([]:List pK).length) (fZ R (bB args J)) (p0 R (qh [] J))=true) (u:(i.endLine==R.line)=true) (st:St W G s σ) (r:Rep W G s.heap v x) (m:qt C name σ x=true)
 (h:W.K.In s.heap->u9 W.K (.ref f)=true->ar W.M A (i5 R (.ref f) [v] (fZ R (bB args J)) []) Q aF s):
 ar W.M A (Ah o name i R J v (args.length+([]:List pK).length) (fZ R (bB args J)) (p0 R (qh [] J))) Q aF s:=by
 refine UJ m λB w hl=>?_
 revert h
 refine u4 (motive:=λv=>(_->_->ar W.M A (i5 R (.ref f) [v] (fZ R (bB args J)) []) Q aF s)->ar W.M A (Ah o name i R J v (args.length+([]:List pK).length) (fZ R (bB args J)) (p0 R (qh [] J))) Q aF s) st r w λ{a ob t T} V Z E S b h=>?_
 refine aw (vv S) λe y F=>?_
 refine aA (band z) λL c=>?_
 refine aA (band L) λL d=>?_
 refine aA (band L) λL g=>?_
 have X:W.K.In s.heap:=l.gn.keeps st.inv.keep
 have p:Ai true o J i R=pure R:=by unfold Ai;exact aa (Jd ..)<|aa (tU ..)<|aa (if_pos u ..) rfl
 have n:InstAt s.heap a ob C (some e):=⟨V,I.cls ob Z,I.no ob Z,by exact aa (E ..)<|y⟩
 unfold Ah
 exact aa (O ..)<|wpAny_bind (bz (method_fn X n (v7 c).1 (v7 c).2 (beq_iff_eq.mp L) (beq_iff_eq.mp g) (by show(lookIn name e).map _=_;exact aa (F ..)<|aa (b.RG hl ..) rfl) (ah (hK p (h X d)))))
theorem Ev.Sv{o e rest name i R U g C f F}(l:W.Ok)(I:W.hU C)(z:vM W.K C name f=true)(k:ba W n f F)(L:Ev W n si o U)(h:fF W n si (e::rest) g)
 (t:∀J,iE o name J (aU o J)=aU o J) (D:∀J,bB (e::rest) J=(false,aU e J)::bB rest J) (d:∀J,(bB rest J).any (·.1)=false)
 (O:∀J,sI ((e::rest).length+([]:List pK).length) (fZ R (bB (e::rest) J)) (p0 R (qh [] J))=true) (u:(i.endLine==R.line)=true):
 Ev W n si (.Call (.Attribute o name i) (e::rest) [] R) (.dC C name F U g):=λ{A J M G s ρ σ r} H st Fr h'=>
 ob h' λp V h'=>og h' λm h'=>ob h' λq S h'=>by
  exact aa (Dq ..)<|aa (t ..)<|wpAny_bind (bR L H st Fr V λ{j ak v} P w E a=>ah (cQ (GO l I z (O J) u w a m λX x=>callWith_K X x
   (h H w E S λc N b y=>⟨l.gn.keeps N.inv.keep,gG (P.trans c) (p5 k H N (.cons (a.go c) y) b.ku h')⟩) (D J) (kH (d J)))))
theorem Ev.Sw{o name i R U C f F}(l:W.Ok)(I:W.hU C)(z:vM W.K C name f=true)(k:ba W n f F)(L:Ev W n si o U)
 (t:∀J,iE o name J (aU o J)=aU o J)
 (O:∀J,sI (([]:List ay).length+([]:List pK).length) (fZ R (bB [] J)) (p0 R (qh [] J))=true) (u:(i.endLine==R.line)=true):
 Ev W n si (.Call (.Attribute o name i) [] [] R) (.dC C name F U (aG [])):=λ{A J M G s ρ σ r} H st Fr h'=>
 ob h' λp V h'=>og h' λm h'=>by
  exact aa (Dq ..)<|aa (t ..)<|wpAny_bind (bR L H st Fr V λ{j ak v} P w E a=>ah (cQ (GO l I z (O J) u w a m λX b=>callWith_K0 X b (gG P (p5 k H w (.cons a .nil) E.ku h')))))
end
end
section
noncomputable def th (K:kC) (C:aq) (name:aj) (p:aq) (i:Nat):Bool:=AH K C name && isClsIn K C && (lN K (.ref C) name==some (some (.ref p))) && (specialIn K (.ref p) "__get__" ==some (some (.builtin "member_descriptor.__get__"))) &&
 (takesIn K (.ref p)==some true) && (slotIn K p C==some i)
noncomputable def ti (K:kC) (C:aq) (name:aj) (p:aq) (i:Nat):Bool:=(lN K (.ref C) "__setattr__" ==some (some (.builtin "object.__setattr__"))) && plainOver K C && (takerIn K C name==some (some (.ref p))) && (Bm K (.ref p)==some (.type "member_descriptor")) && (slotIn K p C==some i) && decide (i<1000)
theorem Um(l:List (Nat×D))(i j:Nat)(d:D):(putN l i d).lookup j=if j=i then some d else l.lookup j:=Hu l i d j
theorem Cell.Vk{c x}(h:Cell.H5 c=some x):c=.slots x.1 x.2:=by induction c<;>first| exact aY h| (obtain rfl:=aM h;rfl)
section
variable {W:Wd} {n:Nat} {si:SI}
structure LM(W:Wd)(G:Gh)(s:ai)(σ:MH)(C i:Nat)(attrs:List (Nat×D))(a:aq)(o:bu)(da:aq)(od:bu):Prop where
 hc:σ.cell i=some (.slots C attrs)
 hg:G.g i=some a
 e1:G.d i=some da
 e2:s.heap.get? a=some o
 e3:W.kind C o
 e4:o.dict=some da
 e5:s.heap.get? da=some od
 e6:o.isFreed=false
 e7:∀(i:Nat) (d:D),attrs.lookup i=some d->∃v,(o.slots[i]?).join=some v/\Rep W G s.heap v d
@[elab_as_elim] theorem DX{G:Gh}{s:ai}{σ:MH}{d:D}{C:Nat}{p:Nat×List (Nat×D)}{v:af}{motive:af->Prop}(st:St W G s σ)(r:Rep W G s.heap v d)(h:uB C σ d=some p)
   (k:∀{a o t e},LM W G s σ C p.1 p.2 a o t e->motive (.ref a)):motive v:=
  ob h λi w h=>ob h λc O h=>ob h λxs U h=>og h λf h=>by
   obtain rfl:=aM h
   obtain rfl:=Cell.Vk U
   subst f
   exact kO st r w O λu j=>BC j λo t V Q E S R y F=>aL R λe b=>k ⟨O,u,V,Q,E,S,b,y,F⟩
theorem HZ{A G s σ v d r C p i}{name:aj}{expr:Bool}(l:W.Ok)(I:W.hU C)(B:th W.K C name p i=true)(st:St W G s σ)(L:Rep W G s.heap v d)(h:A7 C i d σ=some r):
 ar W.M A (kS v name expr) (Out W G s σ r) aF s:=
 ob h λc O P=>(DX st L O λ{a o t e} T=>by
  refine aw (T.e7 i _ P) λH j Q=>?_
  have n:InstAt s.heap a o C (some e):=⟨T.e2,I.cls o T.e3,I.no o T.e3,by exact aa (T.e4 ..)<|T.e5⟩
  refine aA (band B) λR b=>?_
  refine aA (band R) λz R=>?_
  refine aA (band z) λw z=>?_
  refine aA (band w) λq w=>?_
  refine aA (band q) λu q=>?_
  have X:W.K.In s.heap:=l.gn.keeps st.inv.keep
  exact get_bind X n (v7 u).1 (findObj_data q (eq_of_beq w) (eq_of_beq z) (eq_of_beq R)) (v7 u).2 (jT (slot_get (s:={s with toks:=s.toks+1}) X n (eq_of_beq b) j (handed_on (uX Q) (.tok st Q)))))
set_option maxRecDepth 100000 in
set_option maxHeartbeats 4000000 in
open PySem.Builtin PySem.Builtin.ObjectAttr PySem.Builtin.Getset_descriptor in
theorem H2{A:aO}{G:Gh}{s:ai}{σ ab:MH}{C p i:Nat}{name:aj}{v u:af}{x d:D}(ok:W.Ok)(I:W.hU C)(b:∀o H,W.kind C o->W.kind C {o with slots:=H})(hs:ti W.K C name p i=true)(st:St W G s σ)(ru:Rep W G s.heap u x)(r:Rep W G s.heap v d)(h:AL C i x d σ=some ab)
 :ar W.M A (wm u name v) (λZ s'=>Step W bf G s.heap G s'.heap/\St W G s' ab) aF s:=by
 refine ob h λc hc h=>sj h ?_
 refine DX st ru hc λ{a o da od} T=>?_
 have e7:=T.e7
 have Q:InstAt s.heap a o C (some od):=⟨T.e2,I.cls o T.e3,I.no o T.e3,by exact aa (T.e4 ..)<|T.e5⟩
 refine aA (band hs) λR s6=>?_
 refine aA (band R) λz R=>?_
 refine aA (band z) λO z=>?_
 refine aA (band O) λs2 O=>?_
 refine aA (band s2) λY s2=>?_
 have Y:=eq_of_beq Y
 have O:=eq_of_beq O
 have z:=eq_of_beq z
 have R:=eq_of_beq R
 have s6:=of_decide_eq_true s6
 have X:W.K.In s.heap:=ok.gn.keeps st.inv.keep
 obtain⟨J,g,dr,t,os⟩:=s
 refine set_plain X Q Y (osa_descr (s:=⟨J,g,dr,t+1,os⟩) KF.slot_mset X Q s2 O z ?_)
 obtain⟨n,tn,B,l,tb,dd,H,cd,L,P,hm,hb,rfl⟩:=slot_of X R
 have L0:=Q.type (M:=bX W.prog W.w)
 have L1:=looks_mroIn (M:=bX W.prog W.w) X hm
 have L2:Looks (bX W.prog W.w) J (Slots.slotNamesOf (.ref C)) cd.slotNames:=(looks_clsIn X P).andThen .now
 have U:=Q.at_
 dsimp only at L U L0 L1
 have f0:=z0 (M:=bX W.prog W.w) L 0 (v:=.str n tn) rfl
 have f1:=z0 (M:=bX W.prog W.w) L 1 (v:=B) rfl
 have f3:=z0 (M:=bX W.prog W.w) L 3 (v:=.builtin "proto.slot#set") rfl
 have f4:=z0 (M:=bX W.prog W.w) L 4 (v:=.int l tb) rfl
 refine mK KF.slot_mset.plain KF.entry_mset (KF.slot_mset.check _ _ _ _ _ _ _ _ ⟨_,L,rfl⟩ (KF.args_mset _ _ _) ?_)
 delta bE.«member_descriptor.__set__» descrSet descrStoreThrough descrCheckInstance descrNameAndClass isInstance
 have f5:Looks (bX W.prog W.w) J (descrItself (.ref p)) [.ref p]:=((CA (part:=none) L).andThen .now).andThen (Looks.of_pure (by kernel_rfl))
 repeat lk
 refine⟨xa _ (by decide+kernel),fN KF.entry_slotset ?_⟩
 delta bE.«proto.slot#set» Slots.target
 repeat lk
 refine aa (if_neg hb ..) ?_
 refine aD (ah ?_)
 delta setSlotAt
 dsimp only
 refine aa (if_neg (by rw [HV];omega)) ?_
 refine wpAny_updatePart U (aD ?_)
 let i:=cd.slotNames.length - 1 - l.toNat
 let f:bu->bu:=λo=>{o with slots:=(o.slots++I7 (i+1 - o.slots.size) none).setIfInBounds i (some v)}
 have E:(f o).isFreed=false:=by
  have F:∀(o:bu) (H:Array (Option af)),o.isFreed=false->Obj.isFreed {o with slots:=H}=false:=by
   rintro ⟨c,d,dt,H⟩ Yk h
   induction dt<;>first| rfl| exact h
  exact F o _ T.e6
 have eu:(J.update a f).get? a=some (f o):=eI f U E
 have V:a≠da:=by
  have hv:=(st.cells.at_ c.1 _ T.hc).1 rfl
  exact λq=>st.inv.gd c.1 c.1 a hv hv T.hg (q▸T.e1)
 have y:=st.m_ (tk:=t+1) (c':=.slots C (putN c.2 i d)) (h':=J.update a f) T.hc rfl T.hg (.inl T.hg) (ft ..).extBut (bN (ft ..).1.symm) λK=>by
  refine⟨f o,da,T.e1,eu,b o _ T.e3,T.e4,⟨od,(gf _ _ V).trans T.e5⟩,E,λk d' N=>?_⟩
  rw [Um] at N
  show ∃v',(((o.slots++I7 (i+1 - o.slots.size) none).setIfInBounds i (some v))[k]?).join=some v'/\_
  by_cases m:k=i
  .rw [if_pos m] at N
   obtain rfl:=aM N
   exact aa (m ..)<|aa (Array.getElem?_setIfInBounds_self_of_lt (by rw [I8,Array.size_replicate];omega))<|⟨v,rfl,r.keep K⟩
  .rw [if_neg m] at N
   refine aw (e7 k d' N) λv' j rr=>?_
   have S:k<o.slots.size:=by
    rcases Nat.lt_or_ge k o.slots.size with q| q
    .exact q
    .rw [tO q] at j;exact aY j
   exact aa (Array.getElem?_setIfInBounds_ne (λe=>m e.symm) ..)<|aa (I4 S ..)<|⟨v',j,rr.keep K⟩
 exact⟨y.2,y.1⟩
theorem Ev.slot{y name R m C p i}(l:W.Ok)(I:W.hU C)(B:th W.K C name p i=true)(N:Ev W n si y m)(t:∀J,iE y name J (aU y J)=aU y J):Ev W n si (.Attribute y name R) (.ax (eY C i) m):=λ{A J M G s ρ σ r} H st F h=>
 ob h λq V h=>ob h λd P h=>sj h (by
  exact aa (uk ..)<|aa (t ..)<|wpAny_bind (bR N H st F V λ{j ak v} S g O r=>ah (cQ (ah (bz (bD (HZ l I B g r P) λf D x=>ah (tG (aD (x.trans S)))))))))
theorem Et.slot{o name R U C p i}(l:W.Ok)(I:W.hU C)(b:∀o g,W.kind C o->W.kind C {o with slots:=g})(B:ti W.K C name p i=true)(L:Ev W n si o U):Et W n si (.Attribute o name R) (.slot C i U):=λ{A J M G s ρ σ v d u} H st F r h=>
 ob h λq V h=>ob h λab T h=>sj h (by
  exact aa (Dp ..)<|wpAny_bind (bz (bR L H st F V λ{j ak e} P w E a=>ah (cQ (ah (bz (bD (H2 l I b B w a (r.go P) T) λZ D f=>aA f λc N=>qO ⟨j,(P.trans c).any,N,E.go w.inv c⟩)))))))
theorem Ex.lH{o name S op y T mo m f C p i}(l:W.Ok)(I:W.hU C)(b:∀o sl,W.kind C o->W.kind C {o with slots:=sl})(hs:th W.K C name p i=true)(H:ti W.K C name p i=true)(ho:Ev W n si o mo)(he:Ev W n si y m)(O:bL W n (oW op) f):
 Ex W n si (.AugAssign (.Attribute o name S) op y T) (.lH C i f mo m):=λ{A env M G s ρ σ r} V st F h=>
 ob h λp e1 h=>ob h λx e2 h=>ob h λq e3 h=>ob h λz e4 h=>ob h λab hp h=>sj h (by
  refine aa (Mp ..) ?_
  refine ah (cQ (ah (bR ho V st F e1 λ{j ak Bq} P w E a=>ah (bz (ah (cQ (ah (iu (HZ l I hs w a e2) λBr D d c N L=>?_))))))))
  refine ah (bz (bR he V N (E.go w.inv c) e3 λ{k Y IL} e B g Q=>ah (cQ (WN (iu (O V B (L.go e) Q e4) λWo kr X u t v=>?_)))))
  exact ah (cQ (ah (bz (bD (H2 l I b H t (((a.go c).go e).go u) v hp) λZ ks U=>aA U λJ R=>ah (qO (aD (.next ((((P.trans c).trans e).trans u).trans J).any R ((g.go B.inv u).go t.inv J)))))))))
theorem ba.NK{C fI:aq}{F:FM}(l:W.Ok)(z:GI W.K C=true)(w:lN W.K (.ref C) "__init__" =some (some (.ref fI)))(I:Bm W.K (.ref fI)=some (.type "function"))(b:∀f,W.kind C (mU C f))(k:ba W n fI F):ba W (n+1) C (D1 C F):=λ{A G s σ P a r} H st L fo e=>
 ob e λp V e=>og e λZ e=>sj e (D4 (c:=.slots C []) l z w I H st L fo (λj h' Q E G' K=>⟨mU C j,j,rfl,Q,b _,rfl,⟨r0,E⟩,rfl,λi d h=>aY h⟩) k V Z)
end
end
section
section
variable {W:Wd} {n:Nat} {si:SI}
theorem aQ.none{G h}{P:Array af}{xs:List D}(y:aQ W G h P.toList xs){j:Nat}(h:xs[j]?=none):P[j]?=none:=by
 exact aa (.symm (jV ..))<|List.getElem?_eq_none (by exact aa (y.length ..)<|List.getElem?_eq_none_iff.mp h)
theorem aQ.at_{G T}{vs:Array af}{xs:List D}(y:aQ W G T vs.toList xs){j:Nat}{d:D}(h:xs[j]?=some d):∃v,vs[j]?=some v/\Rep W G T v d:=
 (y.get h).imp λZ=>eH λe=>by exact aa (.symm (jV ..))<|e
theorem QX{I:List ay}{kk:Nat}{tp:bc}(e it l:aq)(P:e≠it)(d:D):
 hV W (.Tuple I kk tp) (.ref e) (λG h j=>(∃V,IsEnum h e it j V)/\h.IsListIter it l j/\Rep W G h (.ref l) d) (λa=>a=e∨a=it) (uP d) where
 next:=λ{A G s σ j x} rm st U R O=>bP R λB w m=>aL B λV H=>ob O λxs hx O=>by
  obtain rfl:=aM O
  have f:=m
  generalize Q:eB l=v at m
  revert Q
  refine fL st m hx λ{a vs} hl rs z=>λQ=>?_
  obtain rfl:=jA Q
  induction F:xs[j]? with
  | none=>
   refine iT (wpAny_pyNext_enum_end rm.2.2.2 H w hl (rs.none F) λh' E J=>?_)
   refine aA (st.gp (s':={s with heap:=h'}) (M:=λa=>a=e∨a=it) U (λb o nm k=>E b o (λq=>nm (.inr q)) k) J rfl rfl) λg S=>?_
   exact⟨S,g,trivial⟩
  | some x=>
   refine aw (rs.at_ F) λv Q r=>?_
   refine wpAny_pyNext_enum_item H w hl Q P λh' T t ht J hk=>?_
   refine aA (st.gp (s':={s with heap:=h',toks:=s.toks+1}) (M:=λa=>a=e∨a=it) U (λb o nm k=>hk b o (λq=>nm (.inl q)) (λq=>nm (.inr q)) k) (by show _<=h'.objs.size;exact aa (J ..)<|Nat.le_succ _) rfl rfl) λg S=>?_
   have rt:Rep W G h' (.ref s.heap.objs.size) (.tup [.int j,x]):=.tup (show 2<=aP by decide) st.bq ht rfl ⟨rfl,rfl⟩ rfl (.cons (.int _ _) (.cons (r.step S U) .nil))
   refine⟨S,g,λ{A}=>wpAny_letOwnedTupleGo_enum T λL y n=>?_⟩
   refine aA (g.gp (s':={s with heap:=L,toks:=s.toks+1}) (M:=λa=>a=e∨a=it) U (λb o nm k=>n.extBut b o (λq=>nm (.inl q)) k) (bN n.1.symm) rfl rfl) λN c=>?_
   exact⟨c,N,⟨⟨_,y⟩,aw t λo X r'=>⟨o,n.extBut _ _ (Ne.symm P) X,r'⟩,(f.step S U).step c U⟩,rt.step c U⟩
 self:=λC q=>aA C λY Z=>aL Y λZ H=>WO H q
 shift:=λi K T=>bP i λu p m=>aL u λV H=>aw p λo X r=>⟨⟨V,T _ _ (.inl rfl) H⟩,⟨o,T _ _ (.inr rfl) X,r⟩,m.keep K⟩
theorem du.enum{I:List ay}{i:Nat}{tp p R:bc}{e:ay}{m:ME}(u:W.Ok)(B:iv W si "enumerate" (.type "enumerate"))(D:Ev W n si e m)
 (U:∀J,bB [e] J= [(false,aU e J)]):du W n si (.Tuple I i tp) (.Call (.Name (au "enumerate") p) [e] [] R) (.enum m):=λ{A J M G s ρ σ r} H st F h=>
 ob h λq V h=>ob h λxs l h=>by
  obtain rfl:=aM h
  have t:dN W n si [e] [m]:=dN.cons D dN.nil (by intro J;exact aa (U ..) rfl)
  refine rU u B rfl (fF.of t) (by intro J;exact aa (U ..) rfl) (r:=([q.1],q.2)) H st F (by unfold aG;exact aa (V ..) rfl) λ{j ak P} S g y=>y.d6 λ{v _} r Q=>Q.iN ?_
  have k:=r
  revert k
  refine fL (motive:=λv=>Rep W j ak.heap v q.1->ar _ _ (bM _ [v] []) _ _ _) g r l λ{a c} hl f z=>λr=>?_
  refine call_enumerate_list hl λh' E o Z d=>itR S g (WO E ?_)
  exact⟨λb=>b=ak.heap.objs.size+1∨b=ak.heap.objs.size,_,QX (ak.heap.objs.size+1) ak.heap.objs.size a (dc (cw _)) q.1,
   λb hb=>by
    show _/\b<h'.objs.size
    exact aa (Z ..)<|hb.elim (λe=>by exact aa (e ..)<|⟨dD _,cw _⟩) λe=>by exact aa (e ..)<|⟨bb _,fG (cw _)⟩,
   d,by show _<=h'.objs.size;exact aa (Z ..)<|Nat.le_add_right _ _,rfl,rfl,λK=>⟨⟨_,E⟩,o,r.keep K⟩⟩
theorem aQ.pick{G h}{P:Array af}{xs:List D}(y:aQ W G h P.toList xs):∀(is:List Nat),aQ W G h (is.filterMap (P[·]?)) (is.filterMap (xs[·]?))
 | []=>.nil
 | i::r=>by
  induction U:xs[i]? with
  | none=>exact aa (Ko (y.none U) ..)<|aa (Ko U ..)<|y.pick r
  | some x=>
   refine aw (y.at_ U) λv N p=>?_
   exact aa (Kp N ..)<|aa (Kp U ..)<| .cons p (y.pick r)
theorem Ev.nh{value lower upper k7 p pos mc ml mu mk}(O:Ev W n si value mc)(hl:nN W n si lower ml)(Y:nN W n si upper mu)(C:nN W n si k7 mk):Ev W n si (.Subscript value (.Slice lower upper k7 p) pos) (.nh mc ml mu mk):=λH st F h=>
 ob h λx V h=>ob h λl Q h=>ob h λu R h=>ob h λk X h=>ob h λxs U h=>ob h λd J h=>sj h (og J λB J=>sj (motive:=λd=>ar _ _ _ (Out _ _ _ _ d) _ _) J (by
  refine Bf (bR O H st F V λP w E j=>wpAny_Slice (sY hl H w E Q λc N i r=>sY Y H N i R λo K g A=>sY C H K g X λ{f T a} I t L D=>?_))
  rename_i v _ _ m _ _ q
  have S:=((P.trans c).trans o).trans I
  have b:=J1 T.heap m q a
  have G:=t.push {cls:=.type "slice",data:=.fields #[m,q,a]}
  have e:Step W bf f T.heap f (T.heap.push {cls:=.type "slice",data:=.fields #[m,q,a]}):=.push _
  show ug _ _ _ _ _ _ _
  refine fL (v:=v) G ((((j.go c).go o).go I).go e) U λM y z=>?_
  refine⟨"list",_,slot_list_getitem.lookup,M.typeIs,WK M b (sy r) (sy A) (sy D) B.1 ?_ (size_le y z)⟩
  refine⟨f,(S.trans e).trans (.push (s:={T with heap:=T.heap.push _}) _),G.push _,.list (n:=0) B.2 G.bq (c5 _ rfl) rfl rfl rfl ?_⟩
  delta slicePick lZ
  exact aa (.symm (eX y ..))<|(y.pick _).go (.push (s:={T with heap:=T.heap.push _}) _)))
theorem Dw{G:Gh}{s:ai}{σ:MH}{a:aq}(l:W.Ok)(st:St W G s σ)(h:s.heap.objs.size<=a):a≠iR:=λq=>
 absurd (a9 l.g.lt (q▸aE st.inv.size h)) (by decide)
theorem bG.mM{R}(l:W.Ok):bG W n si (.Dict [] [] R) .mM:=λ{A J M G s ρ σ r} H st F h=>sj h (by
 exact aa (eval_Dict_empty ..)<|wpAny_bind (cQ (Am (dy.push (tk:=s.toks) st rfl λG' K e=>vO G' _ _ (Dw l st (bb _)) e))))
end
end
section
section
variable {W:Wd} {n:Nat} {si:SI}
theorem bG.mN{ek ev pos mk mv}(ok:W.Ok)(hk:Ev W n si ek mk)(hv:Ev W n si ev mv)(Q:∀J,(evalEachOpt [some ek] J).zip ((evalEach [ev] J).map λv=>do let x ← v;ip pos;pure x)= [(some (aU ek J),do let x ← aU ev J;ip pos;pure x)]):
 bG W n si (.Dict [some ek] [ev] pos) (.mN mk mv):=λ{A J M G s ρ σ r} rm st F h=>
 ob h λp e1 h=>ob h λk E h=>ob h λq e2 h=>sj h (by
  refine wpAny_Dict_pairs (knd:=strKind W.prog W.w) (pairs:=[(aU ek J,do let x ← aU ev J;ip pos;pure x)]) (by exact aa (Q ..) rfl) (by simp) (by show 1<=15;decide) ?_
  let a:aq:=s.heap.objs.size
  have V:(s.heap.push lV).objs.size=s.heap.objs.size+1:=c9 ..
  have X:∀b ob,s.heap.get? b=some ob->(s.heap.push lV).get? b=some ob:=λb ob e=>bH _ e
  refine aA (jE (b3:={s with heap:=s.heap.push lV}) (M:=λb=>b=a) st (λb e=>⟨bN e.symm,by exact aa (e ..)<|Nat.lt_of_lt_of_eq (cw _) V.symm⟩) X (aE (dD _) (bN V.symm)) rfl rfl) λg K=>?_
  have nf:¬G.fr a:=λx=>fV _ (st.inv.b0 a x).2.1
  have F':aT W A {G with fr:=λb=>G.fr b∨b=a} (s.heap.push lV) si J M ρ:=F.to K (λZ x=>x) (λb x=>.inl (F.dg b x)) (λZ x y=>⟨.inl x,y⟩) X (λc hc y=>y.elim id λy=>absurd hc (by exact aa (y ..)<|Nat.lt_irrefl _)) st.inv.dJ
  have l:cg W {G with fr:=λb=>G.fr b∨b=a} (s.heap.push lV) a none (.dict []):=vO _ _ _ (Dw ok st (bb _)) (c5 _ rfl)
  unfold evalPairs
  refine ah (bR hk rm g F' e1 λ{lx D Br} H N i L=>ah (bz (ah (bR hv rm N i e2 λ{d I U} o B Y C=>ah (cQ (aD ?_))))))
  unfold evalPairs
  refine ah (bz (aD (aD ?_)))
  have S:=H.trans o
  have P:({G with fr:=λb=>G.fr b∨b=a}:Gh).fr a:=.inr rfl
  have f:d.fr a:=by exact aa (S.fr ..)<|P
  refine bP (l.go S (λZ y=>y.elim) (g.inv.dJ _ P) (λy=>y) λy=>nf (st.inv.b8 a y)) λz ns R=>?_;refine aw R λT hD rv=>?_
  obtain rfl:T= []:=rv.inv
  refine L.c8 E λt k1 k2=>⟨[(k,U)],⟨jI k t,rfl,trivial⟩,hD,λh' O hs=>?_⟩
  refine aA (kZ (tk:=I.toks+1) B f hs) λm u=>?_
  have j:=u.ea (λb e=>e▸f)
  exact⟨d,a,rfl,bb _,S.fr,(ve (ak:=s) (b3:={s with heap:=s.heap.push lV}) (eZ:={I with heap:=h',toks:=I.toks+1}) (jx:=bf) (M:=λb=>b=a) st.inv.b8 (λb e=>bN e.symm) X (aE (dD _) (bN V.symm)) (((S.weaken (M':=λb=>b=a) λZ y=>y.elim).trans u).weaken λb y=>.inr y) m).1,
   m,⟨(show 1<=aP by decide),ns,_,O,.cons k1 k2 (C.keep j) .nil⟩,nf,λb y=>st.inv.b8 b (by exact aa (.symm (show d.ou=G.ou from S.ou))<|y)⟩)
end
end
theorem tm:iz "function" "__getattribute__" "object.__getattribute__" :=
 .of (owner:="object") (n:="__getattribute__") (by refine aa (e_ ..)<|aa (eS ..) ?_;kernel_rfl) (by decide+kernel) (by decide+kernel) (by decide+kernel)
  (by first| exact .inl (by decide+kernel)| exact .inr (by decide+kernel)) (by refine aa (eE ..) ?_;kernel_rfl)
theorem wq:iz "function" "__setattr__" "object.__setattr__" :=
 .of (owner:="object") (n:="__setattr__") (by refine aa (e_ ..)<|aa (eS ..) ?_;kernel_rfl) (by decide+kernel) (by decide+kernel) (by decide+kernel)
  (by first| exact .inl (by decide+kernel)| exact .inr (by decide+kernel)) (by refine aa (eE ..) ?_;kernel_rfl)
theorem O8{prog:eA}{w:eC}{A:aO}{E:af->ai->Prop}{s:ai}{a t:aq}{o:bu}{m:aj->Option af}{name:aj}{v:af}{f:de}{F:gc}{Q:Fin->ai->Prop}(L:s.heap.get? a=some o)(O:o.cls=.type "function")(P:o.dict=some t)
 (I:o.data=.func F) (G:s.heap.Ns t m) (N:m name=some v) (i:gr (.type "function") name=pure none) (h:Q (.done (.ret v)) s):
 ar (bX prog w) A (bE.«object.__getattribute__» ⟨[.ref a,.str name f],[]⟩) Q E s:=by
 obtain⟨c,q,z,H⟩:=o
 simp only at O P I
 subst O P I
 have p:s.TypeIs (.ref a) "function" :=⟨_,L,rfl⟩
 obtain⟨T,g,d,k,os⟩:=s
 delta bE.«object.__getattribute__»
 repeat (any_goals (first| assumption| wp_step))
 refine aw (vv G) λe V Z=>?_
 refine Bw V ?_
 refine aa (nsLook_of (Z name) ..)<|aa (N ..) ?_
 refine aD ?_
 repeat (any_goals (first| assumption| wp_step))
theorem E7{prog:eA}{w:eC}{A:aO}{E:af->ai->Prop}{s:ai}{a t:aq}{o:bu}{m:aj->Option af}{name:aj}{v:af}{fd:gc}{expr:Bool}{Q:af->ai->Prop}(L:s.heap.get? a=some o)(O:o.cls=.type "function")(P:o.dict=some t)
 (I:o.data=.func fd) (G:s.heap.Ns t m) (N:m name=some v) (i:gr (.type "function") name=pure none) (j:handedIn v=true) (h:Q v {s with toks:=s.toks+1}):
 ar (bX prog w) A (kS (.ref a) name expr) Q E s:=by
 obtain⟨c,q,z,H⟩:=o
 simp only at O P I
 subst O P I
 obtain⟨T,g,d,f,os⟩:=s
 have p:∀k,(⟨T,g,d,k,os⟩:ai).TypeIs (.ref a) "function" :=λZ=>⟨_,L,rfl⟩
 have C:=tm.lookup
 have S:=tm.bind (.ref a)
 have e:=handedOut_of j
 have b:(expr && Hc (rO "object.__getattribute__"))=false:=tR _
 delta kS E6
 repeat (any_goals (first| assumption| exact p _| ((with_reducible show ar _ _ (rV _ _ _ _) _ _ _);delta rV;refine aa (b ..)<|aa (if_neg (by decide)) ?_;delta DF)|
  ((with_reducible show ar _ _ (bM (rO "object.__getattribute__") _ _) _ _ _);refine jT (mK tm.plain Lz (tm.check _ _ _ _ _ _ _ _ (p _) (Lw _ _) (O8 L rfl rfl rfl G N i ?_))))| wp_step))
theorem OT{prog:eA}{w:eC}{A:aO}{E:af->ai->Prop}{s:ai}{a t:aq}{H:Array (Option af)}{F:gc}{Q:Option aq->ai->Prop}(L:s.heap.get? a=some {cls:=.type "function",dict:=some t,data:=.func F,slots:=H})
 (h:Q (some t) s):ar (bX prog w) A (u5 a true) Q E s:=by
 obtain⟨T,g,d,k,os⟩:=s
 delta u5
 exact ah (Bw L (aD h))
theorem OU{prog:eA}{w:eC}{A:aO}{E:af->ai->Prop}{s:ai}{a:aq}{H:Array (Option af)}{F:gc}{Q:Option aq->ai->Prop}(L:s.heap.get? a=some {cls:=.type "function",dict:=none,data:=.func F,slots:=H})
 (h:Q (some s.heap.objs.size) {s with heap:=(s.heap.push {cls:=.type "dict",data:=.dict #[]}).update a λo=>{cls:=o.cls,dict:=some s.heap.objs.size,data:=o.data,slots:=o.slots}}):ar (bX prog w) A (u5 a true) Q E s:=by
 have N:typeHasDict (.type "function")=true:=by decide+kernel
 have Z:finalisedInACycleAlone "function" =false:=by decide+kernel
 obtain⟨T,g,d,k,os⟩:=s
 delta u5
 refine ah (Bw L ?_)
 dsimp only
 refine aa (N ..)<|aa (if_neg (by decide)) ?_
 have f:(T.push {cls:=.type "dict",data:=.dict #[]}).get? a=some {cls:=.type "function",dict:=none,data:=.func F,slots:=H}:=bH _ L
 refine ah (wpAny_alloc' ?_)
 refine ah (wpAny_update' f ?_)
 delta dictMade
 dsimp only
 exact aa (Z ..)<|aa (if_neg (by decide))<|wpAny_pure h
theorem Ic{prog:eA}{w:eC}{A:aO}{E:af->ai->Prop}{s:ai}{t:aq}{m:aj->Option af}{k:Nat}{name:aj}{v:af}{f:de}{Q:Fin->ai->Prop}(G:ix s.heap t m k)(p:k<=1000)
 (S:∀h' f,ix h' t (λy=>if y=name then some v else m y) (if (m name).isSome then k else k+1)->hO t s.heap h'->Q (.done (.ret .none)) {s with heap:=h',toks:=f}):
 ar (bX prog w) A (w0 t (.str name f) name v) Q E s:=by
 delta w0 Xm
 refine ah (aD (ah (G4 G λh' n B=>?_)))
 have F:=n
 refine jU F λo D l L c Z Z i=>?_
 have J:D.size<=gF+1:=by
  refine aa (HV ..) ?_
  split at i<;>lia
 exact ah (WM L (by exact aa (c ..)<|pastItsLine_dict J) (aD (S h' _ n B)))
set_option maxHeartbeats 1000000 in
theorem HN{prog:eA}{w:eC}{A:aO}{E:af->ai->Prop}{s:ai}{a:aq}{o:bu}{name:aj}{v:af}{f:de}{Q:Fin->ai->Prop}(L:s.heap.get? a=some o)(O:o.cls=.type "function")
 (i:gr (.type "function") name=pure none)
 (h:ar (bX prog w) A (w7 (.ref a) (.type "function") (.str name f) name v false) Q E s):
 ar (bX prog w) A (bE.«object.__setattr__» ⟨[.ref a,.str name f,v],[]⟩) Q E s:=by
 obtain⟨c,q,z,H⟩:=o
 simp only at O
 subst O
 have p:s.TypeIs (.ref a) "function" :=⟨_,L,rfl⟩
 obtain⟨T,g,d,k,os⟩:=s
 delta bE.«object.__setattr__»
 repeat (any_goals (first| ((with_reducible show ar _ _ (w7 _ _ _ _ _ _) _ _ _);exact h)| wp_step))
theorem H8{prog:eA}{w:eC}{A:aO}{E:af->ai->Prop}{s:ai}{a:aq}{name:aj}{v:af}{f:de}{Q:Fin->ai->Prop}
 (h:ar (bX prog w) A (u5 a true) (λr i=>∃d,r=some d/\ar (bX prog w) A (w0 d (.str name f) name v) Q E i) E s):
 ar (bX prog w) A (w7 (.ref a) (.type "function") (.str name f) name v false) Q E s:=by
 delta w7 ownStreamTells
 dsimp only
 refine aa (if_neg (by decide+kernel))<|aa (if_neg (by decide+kernel)) ?_
 refine ah (aD ?_)
 refine aa (if_neg (by decide+kernel)) ?_
 refine ah (gW h (λr i B=>aw B λd e P=>?_) λZ Z x=>x)
 subst e
 exact P
theorem UU{prog:eA}{w:eC}{A:aO}{E:af->ai->Prop}{s:ai}{a t:aq}{o:bu}{m:aj->Option af}{k:Nat}{name:aj}{v:af}{tk:de}{F:gc}{Q:Fin->ai->Prop}(L:s.heap.get? a=some o)(O:o.cls=.type "function")(P:o.dict=some t)
 (I:o.data=.func F) (G:ix s.heap t m k) (p:k<=1000) (i:gr (.type "function") name=pure none)
 (S:∀h' tk,ix h' t (λy=>if y=name then some v else m y) (if (m name).isSome then k else k+1)->hO t s.heap h'->Q (.done (.ret .none)) {s with heap:=h',toks:=tk}):
 ar (bX prog w) A (bE.«object.__setattr__» ⟨[.ref a,.str name tk,v],[]⟩) Q E s:=by
 obtain⟨c,q,z,H⟩:=o
 simp only at O P I
 subst O P I
 exact HN L rfl i (H8 (OT L ⟨_,rfl,Ic G p S⟩))
theorem UW{prog:eA}{w:eC}{A:aO}{E:af->ai->Prop}{s:ai}{a:aq}{o:bu}{name:aj}{v:af}{tk:de}{F:gc}{Q:Fin->ai->Prop}(L:s.heap.get? a=some o)(O:o.cls=.type "function")(P:o.dict=none)
 (I:o.data=.func F) (i:gr (.type "function") name=pure none)
 (S:∀h' tk,ix h' s.heap.objs.size (λy=>if y=name then some v else none) 1->(∀b o,b≠a->s.heap.get? b=some o->h'.get? b=some o)->h'.get? a=some {o with dict:=some s.heap.objs.size}->h'.objs.size=s.heap.objs.size+1->Q (.done (.ret .none)) {s with heap:=h',toks:=tk}):
 ar (bX prog w) A (bE.«object.__setattr__» ⟨[.ref a,.str name tk,v],[]⟩) Q E s:=by
 obtain⟨c,q,z,H⟩:=o
 simp only at O P I
 subst O P I
 have p:s.TypeIs (.ref a) "function" :=⟨_,L,rfl⟩
 have f:(s.heap.push {cls:=.type "dict",data:=.dict #[]}).get? a=some {cls:=.type "function",dict:=none,data:=.func F,slots:=H}:=bH _ L
 have l:a≠s.heap.objs.size:=bj (b9 L)
 have k:((s.heap.push {cls:=.type "dict",data:=.dict #[]}).update a λo=>{cls:=o.cls,dict:=some s.heap.objs.size,data:=o.data,slots:=o.slots}).get? s.heap.objs.size
  =some {cls:=.type "dict",data:=.dict #[]}:=(J2 _ _ _ _ l.symm).trans (nT rfl rfl)
 have x:ix ((s.heap.push {cls:=.type "dict",data:=.dict #[]}).update a λo=>{cls:=o.cls,dict:=some s.heap.objs.size,data:=o.data,slots:=o.slots}) s.heap.objs.size (λZ=>none) 0:=
  ⟨_,#[],_,k,rfl,λe D=>absurd D (by simp),λZ=>rfl,bb _⟩
 have g:ar (bX prog w) A (w0 s.heap.objs.size (.str name tk) name v) Q E {s with heap:=(s.heap.push {cls:=.type "dict",data:=.dict #[]}).update a λo=>{cls:=o.cls,dict:=some s.heap.objs.size,data:=o.data,slots:=o.slots}}:=by
  refine Ic (s:={s with heap:=_}) x (by decide) λh' tk n B=>S h' tk n (λb ob hb d=>?_) ?_ ?_
  .exact(B.2 b (bj (b9 d))).trans ((J2 _ _ _ _ hb).trans (bH _ d))
  .exact(B.2 a l).trans (eI _ f rfl)
  .refine B.1.trans ?_;show((s.heap.push _).update a _).objs.size=_;exact aa (jt ..)<|aa (c9 ..) rfl
 exact HN L rfl i (H8 (OU L ⟨_,rfl,g⟩))
section
structure Wd.nQ(W:Wd)(k:Nat):Prop where
 cls:∀o,W.kind k o->o.cls=.type "function"
 fn:∀o,W.kind k o->∃fd,o.data=.func fd
 dict:∀o d,W.kind k o->W.kind k {o with dict:=d}
noncomputable def lO (name:aj):Bool:=match fastLookup "function" name with| some none=>true| _=>false
theorem sb{name:aj}(h:lO name=true):gr (.type "function") name=pure none:=Me h
theorem Cell.OS{c x}(h:Cell.zk c=some x):c=.ia x:=by induction c<;>first| exact aY h| exact congrArg _ (aM h)
section
variable {W:Wd} {n:Nat} {si:SI}
theorem Pa{A G s σ v d r}{k:Nat}{name:aj}{expr:Bool}(I:W.nQ k)(z:lO name=true)(st:St W G s σ)(L:Rep W G s.heap v d)(h:rR k name d σ=some r):
 ar W.M A (kS v name expr) (Out W G s σ r) aF s:=
 ob h λx w h=>og h λC hl=>by
  subst C
  refine u4 st L w λ{a o t T} V Q E S b=>?_
  refine aw (b.lookup hl) λu f J=>?_
  refine aL (I.fn o Q) λF B=>?_
  exact E7 V (I.cls o Q) E B S f (sb z) (uX J) (.tok st J)
theorem Ev.attrL{y name pos m k}(I:W.nQ k)(z:lO name=true)(N:Ev W n si y m)(t:∀J,iE y name J (aU y J)=aU y J):Ev W n si (.Attribute y name pos) (.ax (aV k name) m):=λ{A J M G s ρ σ r} H st F h=>
 ob h λp V h=>ob h λd P h=>sj h (by
  exact aa (uk ..)<|aa (t ..)<|wpAny_bind (bR N H st F V λ{j ak v} S g O r=>ah (cQ (ah (bz (bD (Pa I z g r P) λf D x=>ah (tG (aD (x.trans S)))))))))
theorem HQ{A:aO}{E:af->ai->Prop}{s:ai}{a:aq}{o:bu}{name:aj}{v:af}{Q:Unit->ai->Prop}(L:s.heap.get? a=some o)(O:o.cls=.type "function")
 (h:ar W.M A.in1 (bE.«object.__setattr__» ⟨[.ref a,.str name s.toks,v],[]⟩) (λr i=>r=.done (.ret .none)/\Q () i) (λZ Z=>False) {s with toks:=s.toks+1}):
 ar W.M A (wm (.ref a) name v) Q E s:=by
 have p:Looks W.M s.heap (tD (.ref a)) (.type "function"):=O▸(CA L).andThen .now
 have b:(⟨s.heap,s.gens,s.drawn,s.toks+1,s.os⟩:ai).TypeIs (.ref a) "function" :=⟨o,L,O⟩
 refine ah (wpAny_mkText (ah (ah (ah (p _ _ _ _ (λZ Z e=>e) ?_)))))
 refine aa (wq.lookup ..) ?_
 refine aD (bz ?_)
 refine aa (wq.bind ..) ?_
 refine ah (aD (ah (jT (mK wq.plain PySem.F.entry_object_setattr (wq.check _ _ _ _ _ _ _ _ b (PySem.F.args_object_setattr_3 _ _ _) (gW h (λr i B=>aA B λe q=>?_) λZ Z x=>x.elim))))))
 subst e
 exact aD (aD q)
theorem St.Uk{G:Gh}{s:ai}{σ:MH}{i:Nat}{a:aq}{k:Nat}{p:Cell}{h':aN}{tk:Nat}(st:St W G s σ)(H:σ.cell i=some (.ia k))(u:G.g i=some a)(B:∀b o,b≠a->s.heap.get? b=some o->h'.get? b=some o)(J:h'.objs.size=s.heap.objs.size+1)
 (m:∀G',cH W G s.heap G' h'->cg W G' h' a (some s.heap.objs.size) p):∃G',St W G' {s with heap:=h',toks:=tk} (σ.put i p)/\Step W bf G s.heap G' h':=by
 obtain⟨N,n,A,w,-⟩:=st.cells.at_ i _ H
 have N:=N rfl
 have r:¬G.own s.heap.objs.size:=λx=>absurd (st.inv.cn _ x).2.1 (fV _)
 have O:s.heap.objs.size<=h'.objs.size:=by exact aa (J ..)<|Nat.le_succ _
 have v:G.own a:=⟨i,N,.inl u⟩
 have c:=st.inv.cn a v
 have w:G.d i=none:=w
 have own:∀b,Gh.own {G with d:=upd G.d i (some s.heap.objs.size)} b->G.own b∨b=s.heap.objs.size:=λb R=>aw R λj l x=>
  x.elim (λx=>.inl ⟨j,l,.inl x⟩) λx=>ec x (λZ e=>.inr (aM e).symm) λZ e=>.inl ⟨j,l,.inr e⟩
 have S:Step W bf G s.heap {G with d:=upd G.d i (some s.heap.objs.size)} h':=
  ⟨λZ Z e=>e,λj b e=>(k_ λq=>aY (w.symm.trans (q▸e))).trans e,rfl,λZ x=>x,λb x=>(own b x).imp id λy=>bN y.symm,λb o e L Z Z Z=>B b o (λq=>L (q▸v)) e,O,rfl,
    λb o e I Z Z=>⟨o.slots,B b o (λq=>c.2.2.1 (q▸I)) e⟩⟩
 have K:=S.ea λZ x=>x.elim
 refine⟨{G with d:=upd G.d i (some s.heap.objs.size)},⟨⟨λx o e=>B x o (λq=>absurd (b9 e) (Nat.not_lt.mpr (q▸c.1))) (st.inv.keep x o e),aE st.inv.size O,st.inv.gens,st.inv.os,λx y=>?_,λx y=>(st.inv.b0 x y).imp id (eH λh=>a9 h O),st.inv.gR,λj l b F hl e t=>?_,λj l b F hl e t=>?_,
  st.inv.tab.keep K.bq λZ e=>B _ _ (λq=>c.2.2.2 q.symm) e,st.inv.eO,st.inv.hJ,st.inv.b8⟩,⟨λj D e=>?_,λj F=>?_⟩⟩,S⟩
 .exact(own x y).elim (λy=>(st.inv.cn x y).imp id (eH λh=>a9 h O)) λq=>by
   exact aa (q ..)<|⟨st.inv.size,by exact aa (J ..)<|Nat.lt_succ_self _,λz=>absurd (st.inv.b0 _ z).2.1 (fV _),λq=>absurd (a9 st.inv.eO st.inv.size) (by exact aa (.symm (q ..))<|Nat.lt_irrefl _)⟩
 .exact ec e (λq e=>ec t (λQ Z=>q.trans Q.symm) λZ t=>absurd ⟨l,hl,.inr (t.trans e.symm)⟩ r) λZ e=>ec t (λZ t=>absurd ⟨j,F,.inr (e.trans t.symm)⟩ r) λZ t=>st.inv.g7 j l b F hl e t
 .exact ec t (λZ t=>r ⟨j,F,.inl (e.trans t.symm)⟩) λZ t=>st.inv.gd j l b F hl e t
 .refine ec e (λq V=>?_) λF e=>?_
  .subst q
   obtain rfl:=aM V
   exact⟨λZ=>N,a,u,by show cg W _ h' a (upd G.d j (some s.heap.objs.size) j) p;exact aa (qK ..)<|m _ K⟩
  .have x:=st.cells.at_ j D e
   refine⟨x.1,x.2.imp λE y=>⟨y.1,?_⟩⟩
   show cg W _ h' E (upd G.d i (some s.heap.objs.size) j) D
   exact aa (k_ F ..)<|y.2.oZ K (λC o e=>B _ o (λq=>F (st.inv.gR j i E (x.1 C) N y.1 (q▸u))) e) (λC d o P e=>B _ o (λq=>st.inv.gd i j a N (x.1 C) u (q▸P)) e)
 .have f:=st.cells.free j F
  exact⟨f.1,(k_ λq=>aY (f.1.symm.trans (q▸u))).trans f.2.1,f.2.2⟩
theorem U8{A:aO}{G:Gh}{s:ai}{σ ab:MH}{k:Nat}{name:String}{v u:af}{o d:D}(I:W.nQ k)(z:lO (au name)=true)(p:name.length<=100)(st:St W G s σ)(J:Rep W G s.heap u o)(r:Rep W G s.heap v d)
 (h:Hs k (au name) o d σ=some ab):ar W.M A (wm u (au name) v) (λZ Y=>∃G',St W G' Y ab/\Step W bf G s.heap G' Y.heap) aF s:=by
 have hl:(au name).length<=aP:=by exact aa (zU ..)<|Nat.le_trans p (by decide)
 refine ob h λi w h=>ob h λc O h=>?_
 induction l:c.zk with
 | some k'=>
  rw [l] at h
  obtain rfl:=Cell.OS l
  refine og h λC h=>?_
  subst C
  obtain rfl:=aM h
  refine kO st J w O λ{a} b j=>aA j λZ U=>bI U λob Q E S=>?_
  refine aL (I.fn ob E) λfd B=>?_
  exact HQ Q (I.cls ob E) (UW (s:={s with toks:=s.toks+1}) Q (I.cls ob E) S B (sb z) λh' f n H g L=>⟨rfl,st.Uk (tk:=f) O b H L λG' K=>
   ⟨_,_,[(au name,v)],rfl,g,I.dict _ _ E,rfl,by
     refine Eq.mp (congrArg (λm=>ix h' _ m 1) (funext λy=>?_)) n
     refine aa (dI ..) ?_
     by_cases t:y=au name
     .exact aa (if_pos t ..)<|aa (t ..)<|aa (beq_self_eq_true ..) rfl
     .exact aa (if_neg t ..)<|aa (beq_eq_false_iff_ne.mpr t ..) rfl,.cons (qA _) hl (r.keep K) .nil⟩⟩)
 | none=>
  rw [l] at h
  refine ob h λc O h=>og h λF h=>ob O λi w O=>ob O λcc P O=>ob O λx hx O=>?_
  obtain rfl:=aM O
  obtain rfl:=aM h
  obtain rfl:=Cell.zJ hx
  refine aA F λC e=>?_
  subst C
  refine kO st J w P λ{a} b R=>tL R λob da T V Q E S e5 X=>?_
  refine aL (I.fn ob E) λfd B=>?_
  have N:=(st.cells.at_ i _ P).1 rfl
  exact HQ Q (I.cls ob E) (UU (s:={s with toks:=s.toks+1}) Q (I.cls ob E) S B e5 (by exact aa (X.length ..)<|e) (sb z) λh' f n H=>⟨rfl,G,st.m_ (tk:=f) (c':=.inst x.1 (eF x.2 (au name) d)) P rfl b (.inr V) H.extBut (bN H.1.symm) λK=>
   ⟨ob,da,qz T (au name) v,V,H.extBut _ _ (λq=>st.inv.gd i i a N N b (q▸V)) Q,E,S,by exact aa (Ig ..)<|aa (Ie ..)<|n,(X.keep K).put (qA _) hl (r.keep K)⟩⟩)
theorem Et.attrL{o name pos U k}(I:W.nQ k)(z:lO (au name)=true)(f:name.length<=100)(L:Ev W n si o U):Et W n si (.Attribute o (au name) pos) (.attrL k (au name) U):=λ{A J M G s ρ σ v d g} H st F r h=>
 ob h λp V h=>ob h λab B h=>sj h (by
  exact aa (Dp ..)<|wpAny_bind (bz (bR L H st F V λ{j ak e} P w E a=>ah (cQ (ah (bz (bD (U8 I z f w a (r.go P) B) λZ D u=>aw u λb N c=>qO ⟨b,(P.trans c).any,N,E.go w.inv c⟩)))))))
end
end
section
theorem NW{R q:bc}{a b:Int}{c d:af}(l:List af)(h:CW l)(G:rY R (l++ [gE a,gE b,c])=some d):rY R l=some d∨d=c:=by
 fun_induction CW l with
 | case1=>
  simp only [xD,rY,gE] at G
  split at G
  .cases G;exact .inr rfl
  .cases G
 | case2 k t B u x rest S=>
  simp only [rA,rY] at G ⊢
  split at G
  .rename_i O;exact aa (if_pos O ..)<| .inl G
  .rename_i O;exact aa (if_neg O ..)<|S h G
 | case3 l N E=>exact h.elim
section
variable {W:Wd} {n:Nat} {si:SI}
theorem St.code{G:Gh}{s s':ai}{σ}(st:St W G s σ)(k:∀b o,b≠W.tab->s.heap.get? b=some o->s'.heap.get? b=some o)(J:s.heap.objs.size<=s'.heap.objs.size)
 (u:s'.gens=s.gens) (L:s'.os=s.os) (T:cH W G s.heap G s'.heap->TabAt W G s'.heap):St W G s' σ/\Step W bf G s.heap G s'.heap:=
 have S:Step W bf G s.heap G s'.heap:=⟨λZ Z e=>e,λZ Z e=>e,rfl,λZ x=>x,λZ x=>.inl x,λa o e Z Z t Z=>k a o t e,J,rfl,λa o e x Z Z=>⟨o.slots,k a o (st.inv.b0 a x).2.2 e⟩⟩
 have K:=S.ea λZ x=>x.elim
 ⟨⟨⟨λb o e=>k b o (λq=>aY (st.inv.hJ.symm.trans (q▸e))) (st.inv.keep b o e),aE st.inv.size J,u.trans st.inv.gens,L.trans st.inv.os,λa x=>(st.inv.cn a x).imp id (eH λy=>a9 y J),λa x=>(st.inv.b0 a x).imp id (eH λy=>a9 y J),st.inv.gR,st.inv.g7,st.inv.gd,T K,st.inv.eO,st.inv.hJ,st.inv.b8⟩,
   ⟨λi c e=>have x:=st.cells.at_ i c e;⟨x.1,x.2.imp λa y=>⟨y.1,y.2.oZ K (λI o e=>k _ o (st.inv.cn a ⟨i,x.1 I,.inl y.1⟩).2.2.2 e) (λI b o hb e=>k _ o (st.inv.cn b ⟨i,x.1 I,.inr hb⟩).2.2.2 e)⟩⟩,st.cells.free⟩⟩,S⟩
structure Wd.t6(W:Wd)(si:SI):Prop where
 here:∃c q,si.here=some (.ref c,q)/\codeHdIn W.K c W.tab=true/\q++ "<lambda>" =W.jK
 bi:W.base.BuiltinsAt W.mg W.tab
 glob:kW≠W.tab
theorem F0{A J M G s ρ σ}{args:BJ}{O:ay}{I:cR}{R:bc}{a:List (aj×aq)}(ok:W.Ok)(L:W.t6 si)(st:St W G s σ)(F:aT W A G s.heap si J M ρ)(T:yV I J=pure a)(P:args.defaults= [])(n:args.kw_defaults= []):
 ar W.M A (aU (.Lambda args O I R) J) (λv i=>∃ak d N,Step W bf G s.heap G ak.heap/\St W G ak σ/\v=.ref ak.heap.objs.size/\
  (∃c,d=.ref c/\bJ W G c)/\ak.heap.CodeRec d W.jK/\i= {ak with heap:=ak.heap.push {cls:=.type "function",data:=.func (vc "<lambda>" W.jK args O I a ((W.mg "__name__").getD .none) d N)}}) aF s:=by
 refine eQ L.here λc q hh H hq=>?_
 refine bP (F.here _ hh) λQ l Z=>?_
 refine aw st.inv.tab λps Y m=>?_
 have C:=codeHd_of_K (ok.gn.keeps st.inv.keep) H
 have j:J.globals=kW:=F.gl
 have u:=ok.g.keeps st.inv.keep
 have hb:=L.bi.keeps st.inv.keep
 obtain⟨a1,a2,a3,a4,a5,a6,a7⟩:=args
 dsimp only at P n
 subst P n
 refine aa (arm_eval_Lambda ..) ?_
 show ar W.M A (do
  let D ← evalAll (evalEach [] J)
  let X ← kf D (evalAllOpt (evalEachOpt [] J))
  R_ "<lambda>" (J.qual++ "<lambda>") _ (.expr O) I J D X [] R R.line) _ _ _
 refine ah (aD (ah (bz (aD ?_))))
 refine aa (l ..) ?_
 show ar W.M A (R_ "<lambda>" (q++ "<lambda>") _ _ _ _ _ _ _ _ _) _ _ _
 refine aa (hq ..) ?_
 induction E:rY R ps.toList with
 | none=>
  refine kla_makeFunction T j u Q C Y m.triples E L.glob hb λk N h' f U h r V y=>?_
  have z:bJ W G k:=⟨λx=>absurd (st.inv.cn _ x).2.1 (Nat.not_lt.mpr h),λx=>absurd (st.inv.b0 _ x).2.1 (Nat.not_lt.mpr h),λq=>absurd (a9 st.inv.eO st.inv.size) (by exact aa (.symm (q ..))<|Nat.not_lt.mpr h)⟩
  obtain⟨w,S⟩:=st.code (s':={s with heap:=h',toks:=f}) (λb o t e=>U b o t e) (jy (ee h r)) rfl rfl λK=>⟨_,y,by
   exact aa (wV ..)<|TriplesOk_snoc _ _ _ _ m.triples,λp d e=>by
    rw [wV] at e
    rcases NW (q:=R) _ m.triples e with e| rfl
    .exact(m.keep K.bq).code p d e
    .exact⟨k,rfl,z,V⟩⟩
  exact⟨{s with heap:=h',toks:=f},.ref k,N,S,w,rfl,⟨k,rfl,z⟩,V,rfl⟩
 | some d=>
  refine bI (m.code _ _ E) λk B z V=>?_;obtain rfl:=B
  refine kla_makeFunctionHit T j u Q C Y m.triples E hb λN h' f U h=>?_
  refine aA (st.code (s':={s with heap:=h',toks:=f}) (λb o Z e=>U b o e) h rfl rfl λK=>st.inv.tab.keep K.bq λZ e=>U _ _ e) λw S=>?_
  exact⟨{s with heap:=h',toks:=f},.ref k,N,S,w,rfl,⟨k,rfl,z⟩,V.keeps U,rfl⟩
theorem bG.ia{args body scope pos k}(l:W.Ok)(L:W.t6 si)(P:args.defaults= [])(a:args.kw_defaults= [])(I:scope.names.all (·.2 !=.free)=true)(C:∀b,W.kind k {cls:=.type "function",data:=.func b}):bG W n si (.Lambda args body scope pos) (.ia k):=λ{A J M G s ρ σ r} H st F h=>sj h (by
 have T:yV scope J=pure (gk J scope.names []):=yW λx U=>absurd (List.all_eq_true.mp I _ U) tT
 refine bD (F0 l L st F T P a) λv i j=>tL j λak d N S w V Q E Z=>?_
 subst V Z
 exact dy.trans S (dy.push (tk:=ak.toks) w rfl λG' K e=>⟨rfl,_,e,C _,rfl⟩))
theorem fu.of{A:aO}{G h J M ρ}(F:aT W A G h si J M ρ):∀{xs:List String} {z},yD ρ xs=some z->(∀x∈xs,si.kind x=some .cell/\au x∈si.fz)->fu W G h (xs.map λx=>(au x,(J.cells.lookup (au x)).getD 0)) z
 | [],_,e,_=>sj e .nil
 | x::xs,_,e,U=>ob e λd N e=>ob e λr a e=>sj e (by
  refine aA (U x a0) λm g=>?_
  refine eQ (F.cell x d N (.inl m)) λc v V R L=>?_;refine aw R λo Q E=>?_
  refine bP (F.cells _ _ V) λw n Z=>?_
  refine .cons ?_ ?_ E L (fu.of F a λy t=>U y (bT _ t))
  .exact aa (V ..)<|⟨w,F.fz _ g _ V,n⟩
  .exact aa (V ..)<|Q)
def qX(xs:List String)(D:List (aj×aq)):Prop:=∃r:List (aj×aq),r.Pairwise (λx y=>x.2≠y.2)/\(∀x∈xs,∃c,r.lookup (au x)=some c)/\D=xs.map λx=>(au x,(r.lookup (au x)).getD 0)
theorem Ev.lam{args body scope pos k}{xs:List String}(l:W.Ok)(L:W.t6 si)(P:args.defaults= [])(a:args.kw_defaults= [])(T:∀J:bg,gk J scope.names []=xs.map λx=>(au x,(J.cells.lookup (au x)).getD 0))
 (m:∀x,(x,iw)∈scope.names->si.sc.names.lookup x=some .cell)
 (U:∀x∈xs,si.kind x=some .cell/\au x∈si.fz) (B:∀D O d g,qX xs D->W.je k (vc "<lambda>" W.jK args body scope D O d g)):Ev W n si (.Lambda args body scope pos) (.lam k xs):=λ{A J M G s ρ σ r} H st F h=>
 ob h λz b h=>sj h (by
  refine bD (F0 l L st F (yW λx U=>F.has x (.inl (m x U))) P a) λv i u=>tL u λak q N S w V C E p=>aw C λc Q o=>?_
  subst V p Q
  have j:=fu.of (F.go st.inv S) b U
  rw [← T J] at j
  exact⟨G,S.trans (.push _),w.push _,.lam (fd:=vc "<lambda>" W.jK args body scope (gk J scope.names []) ((W.mg "__name__").getD .none) (.ref c) N) w.bq (c5 _ rfl) rfl rfl rfl (B _ _ _ _ ⟨J.cells,F.apart,λx h=>F.has _ (.inl (U x h).1),T J⟩) (j.keep ⟨λZ Z e=>e,λZ Z e f=>⟨f,bH _ e⟩⟩) ⟨c,rfl,o⟩ (E.push _)⟩)
end
end
section
section
variable {W:Wd} {n:Nat} {si:SI}
theorem b6.p1{F x}(h:∀v,kM F ⟨[v],[]⟩=pure [(au x,v)]):b6 W F (bind1 x):=λ{A G s σ P j bs} Z st L e=>by
 induction j with
 | nil=>exact aY e
 | cons a j=>induction j with
  | nil=>exact sj e (L.d6 λp L=>L.iN (by exact aa (h ..)<|wpAny_pure ⟨.refl,st,.cons p .nil⟩))
  | cons=>exact aY e
theorem b6.p2{F x y}(h:∀v u,kM F ⟨[v,u],[]⟩=pure [(au x,v),(au y,u)]):b6 W F (j3 x y):=λ{A G s σ P j bs} Z st L e=>by
 induction j with
 | nil=>exact aY e
 | cons a j=>induction j with
  | nil=>exact aY e
  | cons b j=>induction j with
   | nil=>exact sj e (L.d6 λp L=>L.d6 λw L=>L.iN (by exact aa (h ..)<|wpAny_pure ⟨.refl,st,.cons p (.cons w .nil)⟩))
   | cons=>exact aY e
theorem b6.p3{F x y z}(h:∀v u t,kM F ⟨[v,u,t],[]⟩=pure [(au x,v),(au y,u),(au z,t)]):b6 W F (yp x y z):=λ{A G s σ P j bs} Z st L e=>by
 induction j with
 | nil=>exact aY e
 | cons a j=>induction j with
  | nil=>exact aY e
  | cons b j=>induction j with
   | nil=>exact aY e
   | cons c j=>induction j with
    | nil=>exact sj e (L.d6 λp L=>L.d6 λw L=>L.d6 λU L=>L.iN (by exact aa (h ..)<|wpAny_pure ⟨.refl,st,.cons p (.cons w (.cons U .nil))⟩))
    | cons=>exact aY e
theorem b6.d1{F x y}(l:W.Ok)(h:∀v,peek W.K ⟨W.M.prog,W.M.w.params⟩ (kM F ⟨[v],[]⟩)=some [(au x,v),(au y,.none)]):b6 W F (yq x y):=λ{A G s σ P j bs} Z st L e=>by
 induction j with
 | nil=>exact aY e
 | cons a j=>induction j with
  | nil=>exact sj e (L.d6 λp L=>L.iN ((Looks.of_peek (l.gn.keeps st.inv.keep) (h _)).here ⟨.refl,st,.cons p (.cons .none .nil)⟩))
  | cons=>exact aY e
theorem SR{A:aO}{E:af->ai->Prop}{G:Gh}{s:ai}{σ:MH}{P j}(st:St W G s σ)(r:aQ W G s.heap P j)(J:j.length<=aP):ar W.M A (m6 P) (λv i=>Step W bf G s.heap G i.heap/\St W G i σ/\Rep W G i.heap v (.tup j)) E s:=
 iS ⟨.push _,st.push _,.tup J st.bq (c5 _ rfl) rfl ⟨rfl,rfl⟩ rfl (by simpa using r.go (Step.push (s:=s) _))⟩ (by show P.toArray.size<=gF;exact aa (rH ..)<|aa (r.length ..)<|Nat.le_trans J f9)
theorem uw{A:aO}{F:gc}{G:Gh}{s:ai}{σ:MH}{c P:List af}{u:List D}{pre:List (aj×af)}{pr:List (String×D)}{z:String}(h:kM F ⟨P,[]⟩=(do let t ← m6 c;pure (pre++ [(au z,t)])))(st:St W G s σ)(r:aQ W G s.heap c u)(J:u.length<=3)
 (T:∀{h':aN} {G'},cH W G s.heap G' h'->∀v,Rep W G' h' v (.tup u)->gx W G' h' (pre++ [(au z,v)]) (pr++ [(z,.tup u)])):ar W.M A (kM F ⟨P,[]⟩) (λI i=>Step W bf G s.heap G i.heap/\St W G i σ/\gx W G i.heap I (pr++ [(z,.tup u)])) aF s:=by
 exact aa (h ..)<|wpAny_bind (bD (SR (E:=aF) st r (aE J (by decide))) λv i B=>bP B λS g r=>aD ⟨S,g,T (S.ea λZ x=>x.elim) v r⟩)
theorem b6.v1{F x y}(N:∀v u,kM F ⟨[v,u],[]⟩=(do let t ← m6 [u];pure [(au x,v),(au y,t)]))
 (i:∀v f g h,kM F ⟨[v,f,g,h],[]⟩=(do let t ← m6 [f,g,h];pure [(au x,v),(au y,t)])):b6 W F (p4 x y):=λ{A G s σ P j bs} Z st L e=>by
 induction j with
 | nil=>exact aY e
 | cons a j=>induction j with
  | nil=>exact aY e
  | cons b j=>induction j with
   | nil=>exact sj e (L.d6 λ{v _} p L=>L.d6 λw L=>L.iN (uw (pre:=[(au x,v)]) (pr:=[(x,a)]) (N _ _) st (.cons w .nil) (dO rfl) λK Z r=>.cons (p.keep K) (.cons r .nil)))
   | cons c j=>induction j with
    | nil=>exact aY e
    | cons d j=>induction j with
     | nil=>exact sj e (L.d6 λ{v _} p L=>L.d6 λw L=>L.d6 λU L=>L.d6 λr4 L=>L.iN (uw (pre:=[(au x,v)]) (pr:=[(x,a)]) (i _ _ _ _) st (.cons w (.cons U (.cons r4 .nil))) (bb 3) λK Z r=>.cons (p.keep K) (.cons r .nil)))
     | cons=>exact aY e
theorem b6.v2{F x y z}(H:∀v u,kM F ⟨[v,u],[]⟩=(do let t ← m6 [];pure [(au x,v),(au y,u),(au z,t)]))
 (N:∀v u w,kM F ⟨[v,u,w],[]⟩=(do let t ← m6 [w];pure [(au x,v),(au y,u),(au z,t)])):b6 W F (yr x y z):=λ{A G s σ P j bs} Z st L e=>by
 induction j with
 | nil=>exact aY e
 | cons a j=>induction j with
  | nil=>exact aY e
  | cons b j=>induction j with
   | nil=>exact sj e (L.d6 λ{v _} p L=>L.d6 λ{u _} d L=>L.iN (uw (pre:=[(au x,v),(au y,u)]) (pr:=[(x,a),(y,b)]) (H _ _) st .nil (fW 3) λK Z r=>.cons (p.keep K) (.cons (d.keep K) (.cons r .nil))))
   | cons c j=>induction j with
    | nil=>exact sj e (L.d6 λ{v _} p L=>L.d6 λ{u _} d L=>L.d6 λU L=>L.iN (uw (pre:=[(au x,v),(au y,u)]) (pr:=[(x,a),(y,b)]) (N _ _ _) st (.cons U .nil) (dO rfl) λK Z r=>.cons (p.keep K) (.cons (d.keep K) (.cons r .nil))))
    | cons=>exact aY e
end
end
section
section
variable {W:Wd} {n:Nat} {si:SI}
def jv(W:Wd)(n k:Nat)(F:FL):Prop:=
 ∀{A G s σ a S P j r},br n A->St W G s σ->Rep W G s.heap (.ref a) (.lam k S)->aQ W G s.heap P j->Fo A G s.heap->F S j σ=some r->eU W.M A (.call (.ref a) ⟨P,[]⟩) (xR W G s r) s
structure Ca(fd:gc)(bd:ay)(sc:cR):Prop where
 body:fd.body=.expr bd
 scope:fd.scope=sc
 glob:fd.globals=kW
 bl:fd.builtins=j4
 apart:fd.closure.Pairwise λx y=>x.2≠y.2
 free:∀x,(x,iw)∈sc.names->∃c,fd.closure.lookup x=some c
 only:∀x c,fd.closure.lookup x=some c->sc.names.lookup x=some .free
theorem fu.look{G h z j}(r:fu W G h z j)(x:aj):(z.lookup x=none/\j.lookup x=none)∨∃c v d,z.lookup x=some c/\j.lookup x=some d/\bJ W G c/\h.IsCell c (some v)/\Rep W G h v d:=
 r.ind (.inl ⟨rfl,rfl⟩) λ{y c o v d P j} f V Q r Z S=>by
  refine aa (dI ..)<|aa (dI ..) ?_
  induction hb:x==y with
  | true=>exact .inr ⟨c,v,d,rfl,rfl,f,⟨o,V,Q⟩,r⟩
  | false=>exact S
theorem DB{kindOf:aj->Option gY}{x:aj}:∀(I:List (aj×af)) (m:aj->Option af),(∀b∈I,kindOf b.1=some .local)->uv kindOf I m x=(I.reverse.lookup x).or (m x)
 | [],m,_=>rfl
 | (k,v)::r,m,h=>by
  unfold uv
  refine aa (if_pos (h _ a0) ..)<|aa (DB r _ λb hb=>h b (bT _ hb) ..)<|aa (pP ..)<|aa (Cn ..) ?_
  induction r.reverse.lookup x with
  | some u=>rfl
  | none=>
   by_cases U:x=k
   .exact aa (U ..)<|aa (if_pos rfl ..)<|aa (Cp ..) rfl
   .exact aa (if_neg U ..)<|aa (dI ..)<|aa (beq_eq_false_iff_ne.mpr U ..) rfl
noncomputable def SI.lam (scope:cR):SI:={sc:=scope,ro:=(scope.names.filter (·.2==.free)).map (·.1)}
theorem jv.intro{k:Nat}{body:ay}{scope:cR}{bind:gu}{m:ME}(ok:W.Ok)(PJ:∀F,W.je k F->Ca F body scope)(zx:scope.isCoroutine=false)(zA:scope.isGenerator=false)(hk:scope.kind=.function)
 (Fp:∀x∈scope.names,x.2≠ .cell) (zw:∀F,W.je k F->b6 W F bind) (sh:∀ds bs,bind ds=some bs->∀b∈bs,scope.names.lookup (au b.1)=some .local) (hE:Ev W n (SI.lam scope) body m):
 jv W (n+1) k (FZ bind m):=λ{A G s σ a X vs ds r} rm st rl rv fo e=>ob e λbs D e=>by
 refine W9 rl.inv λa' o F ha fz ho Yc Ye PB hl rc Yd Qb=>?_
 obtain rfl:=jA ha
 have L:=PJ F hl
 refine kla_callFunE rm.depth ho PB (by exact aa (L.scope ..)<|zx) (by exact aa (L.scope ..)<|zA) L.body Qb ?_
 refine gW (zw F hl (rm.in1.le (fW _)) st rv D) (λI ak km=>bP km λP w rb=>?_) λZ Z x=>x.elim
 have uZ:∀x∈I,F.scope.names.lookup x.1=some .local:=λx U=>aw (rb.names x U) λb C e'=>by exact aa (e' ..)<|aa (L.scope ..)<|sh ds bs D b C
 refine wpAny_newFunctionEnv (by exact aa (L.scope ..)<|Fp) uZ (λj P6 Fu=>?_) (by exact aa (L.scope ..)<|hk)
 let J:bg:=newEnv F.scope ak.heap.objs.size F.globals F.closure (F.qualname++ ".<locals>.") (some a) F.code none F.builtins
 have i:j.objs.size=ak.heap.objs.size+1:=by exact aa (Fu.1 ..)<|Heap.size_push ..
 have hle:ak.heap.objs.size<=j.objs.size:=by exact aa (i ..)<|Nat.le_succ _
 have p:∀b o,ak.heap.get? b=some o->j.get? b=some o:=λb o e=>(Fu.2 b (bj (b9 e))).trans (bH _ e)
 refine⟨(ok.nolimit.keeps w.inv.keep).keeps p,kla_codeExpr ?_⟩
 have Q:∀{b},b=ak.heap.objs.size->b<ak.heap.objs.size->False:=λq l=>fV _ (q▸l)
 refine aA (jE (b3:={ak with heap:=j,toks:=ak.toks+I.length}) w (M:=λb=>b=J.locals) (λb e=>by exact aa (e ..)<|⟨bb _,by exact aa (i ..)<|Nat.lt_succ_self _⟩) p hle rfl rfl) λN S=>?_
 have N:=(sC (ou:=λb=>G.ou b∨b=J.locals) N (λZ x=>x) λb x=>x.imp (st.inv.b8 b) id).1
 have S:cH W G ak.heap (G.lP (λb=>b=J.locals) J.locals) j:=⟨S.g,S.bq⟩
 refine aw (fo.step P λZ Z Z x=>x) λfs zz zP=>?_
 have H:(A.deeper J).frames=some (J::fs):=I0 zz
 have u:=((rc.keep (P.ea λZ x=>x.elim)).keep S)
 have Qd:=DD (kindOf:=J.kindOf) (sc:=F.scope) (λx=>rfl) (rb.keep S) (λb hb=>by unfold lI;exact aa (L.scope ..)<|aa (sh ds bs D b hb ..) rfl) (λZ=>none) (λZ=>none) (λZ=>none) (λx d e=>aY e)
 have R:∀{x:aj},scope.names.lookup x=some .cell->False:=λh=>Fp _ (mem_of_lookup h) rfl
 have T:aT W (A.deeper J) (G.lP (λb=>b=J.locals) J.locals) j (SI.lam scope) J (λb=>b=J.locals) (td X bs):={
  sc:=L.scope
  fn:=hk
  gl:=L.glob
  bl:=L.bl
  dg:=λb C=>.inr C
  jf:=rfl
  ns:=⟨_,P6,λx d U t=>by
   have t:scope.names.lookup (au x)=some .local:=t
   rcases u.look (au x) with ⟨_,E⟩| ⟨c,v,d',Y,_⟩
   .unfold td at U
    rw [E] at U
    exact(Qd x d U).elim (λh=>h.2.imp λv=>eH λe=>by rw [DB _ _ (λb hb=>uZ b hb),Lf] at e;exact e) λh=>absurd (h.1.symm.trans (L.scope▸t)) (by decide)
   .rw [L.only _ _ Y] at t;exact nomatch t⟩
  cells:=λx c hc=>(u.look x).elim (λh=>aY (h.1.symm.trans hc)) λko=>jU ko λc' v d' Y Z f E Z=>by
   obtain rfl:=aM (Y.symm.trans hc)
   exact⟨f.1,f.2.2,_,E⟩
  apart:=L.apart
  cell:=λx d U t=>t.elim (λh=>(R h).elim) λh=>by
   refine aL (L.free _ (mem_of_lookup h)) λc uY=>?_
   rcases u.look (au x) with h| ⟨c',v,d',Y,E,_,h3,h4⟩
   .exact aY (h.1.symm.trans uY)
   .unfold td at U
    rw [E] at U
    obtain rfl:=aM U
    exact⟨c',v,Y,h3,h4⟩
  kN:=λx h Z=>(R h).elim
  has:=λx h=>h.elim (λh=>(R h).elim) λh=>L.free _ (mem_of_lookup h)
  fz:=λZ h=>nomatch h
  here:=λZ h=>nomatch h
  fo:=⟨_,H,λe O=>(List.mem_cons.mp O).elim (λq=>by exact aa (q ..)<|⟨by show F.scope.kind≠_;refine aa (L.scope ..)<|aa (hk ..) ?_;decide,_,rfl,.inr rfl,.inr rfl,.inl rfl⟩) λO=>
      aA (zP e O) λk1 AS=>dG AS λL k2 k3 k4 AU=>aw AU λo k5 k6=>
      ⟨k1,L,k2,.inl k3,.inl k4,.inr ⟨λy=>Q y (b9 k5),o,p _ _ k5,k6⟩⟩⟩}
 refine gW (hE rm.deeper N T e) (λv eZ jj=>bI jj λV B K UR=>?_) λZ Z x=>x.elim
 have L:=sC (fr:=G.fr) (ou:=G.ou) K (λb x=>by exact aa (B.fr ..)<| .inl x) st.inv.b8
 exact⟨v,rfl,{V with fr:=G.fr,ou:=G.ou},P.trans (qy (jx:=bf) (M:=λb=>b=J.locals) (λb e=>bN e.symm) p hle (λa l=>⟨λkp=>aA kp λx y=>⟨x.resolve_right λz=>Q z l,y.resolve_right λz=>Q z l⟩,λjk=>aA jk λx y=>⟨.inl x,.inl y⟩⟩) rfl (B.weaken λZ x=>x.elim)),L.1,UR.keep L.2⟩
end
end
section
theorem D.Q4{d x}(h:D.FY d=some x):d=.lam x.1 x.2:=by cases d<;>first| exact aY h| (obtain rfl:=aM h;rfl)
theorem OV:gr (.type "function") "__getattr__" =pure none:=Me (by decide+kernel)
theorem EF(J:bg)(I:List bZ):∀xs:List bZ,ja (xs++I) J=(ja xs J>>=λf=>match f with| .next=>ja I J| f=>pure f)
 | []=>by refine aa (xD ..) ?_;show _=(pure Flow.next>>=_);exact aa (pure_bind ..) rfl
 | x::xs=>by
  refine aa (rA ..)<|aa (execs_cons ..)<|aa (execs_cons ..)<|aa (bind_assoc ..) ?_
  congr 1
  funext f
  induction f with
  | next=>exact EF J I xs
  | _=>exact aa (pure_bind ..) rfl
theorem Gb{x y:aj}{c:aq}:∀{l:List (aj×aq)},(l.Pairwise λp q=>p.2≠q.2)->l.lookup x=some c->l.lookup y=some c->x=y
 | [],_,e,_=>aY e
 | (k,d)::r,ap,e,t=>by
  rw [List.pairwise_cons] at ap
  rw [dI] at e t
  induction U:x==k<;>induction Z:y==k<;>rw [U] at e<;>rw [Z] at t
  .exact Gb ap.2 e t
  .exact(ap.1 (x,c) (mem_of_lookup e) (aM t)).elim
  .exact(ap.1 (y,c) (mem_of_lookup t) (aM e)).elim
  .exact aa (eq_of_beq U ..)<|aa (eq_of_beq Z ..) rfl
section
variable {W:Wd} {n:Nat} {si:SI}
theorem Ph{A:aO}{s:ai}{E:af->ai->Prop}{a:aq}{o:bu}{name:aj}{pl:bY Bool}{Q:af×List af->ai->Prop}(L:s.heap.get? a=some o)(O:o.cls=.type "function")(i:gr (.type "function") name=pure none)
 (h:ar W.M A (kS (.ref a) name) (λv=>Q (v,[])) E s):ar W.M A (getMethod (.ref a) name pl) Q E s:=by
 have p:Looks W.M s.heap (tD (.ref a)) (.type "function"):=O▸(CA L).andThen .now
 have b:=PySem.F.canon_object_ga
 have u:ar W.M A (do return (← kS (.ref a) name,([]:List af))) Q E s:=ah (gW h (λZ Z z=>aD z) λZ Z z=>z)
 delta getMethod specialOf
 refine ah (ah (p.here ?_))
 refine aa (tm.lookup ..) ?_
 refine aD ?_
 dsimp only
 refine aa (b ..)<|aa (if_neg (by decide)) ?_
 refine ah (ah (p.here ?_))
 refine aa (OV ..) ?_
 refine aD (ah (ah (p.here ?_)))
 exact aa (i ..)<|wpAny_pure u
theorem Ev.Sx{o e rest name i R mo g k kl F}(I:W.nQ k)(hm:lO name=true)(hF:jv W n kl F)(L:Ev W n si o mo)(h:fF W n si (e::rest) g)
 (t:∀J,iE o name J (aU o J)=aU o J) (d:∀J,(bB (e::rest) J).head?.any (·.1)=false)
 (O:∀J,sI ((e::rest).length+([]:List pK).length) (fZ R (bB (e::rest) J)) (p0 R (qh [] J))=true) (b:(i.endLine==R.line)=true):
 Ev W n si (.Call (.Attribute o name i) (e::rest) [] R) (.sH k kl name F mo g):=λ{A J M G s ρ σ r} H st Fr h'=>
 ob h' λp e1 h'=>ob h' λf Q h'=>ob h' λl e3 h'=>og h' λhl h'=>ob h' λq e4 e5=>ob Q λx hi Q=>og Q λhk S=>by
  subst hl hk
  obtain rfl:=D.Q4 e3
  refine aa (Dq ..)<|aa (t ..) ?_
  refine ah (bR L H st Fr e1 λ{j ak v} P w E C=>ah (cQ ?_))
  refine u4 w C hi λ{a ob da mC} q1 V q3 q4 q5=>?_
  refine aw (q5.lookup S) λu hu Y=>?_
  refine aL (I.fn ob V) λfd B=>?_
  have y:Ai true o J i R=pure R:=by delta Ai;exact aa (Jd ..)<|aa (tU ..)<|aa (if_pos b ..) rfl
  delta Ah
  refine aa (O J ..) ?_
  refine ah (bz (Ph q1 (I.cls ob V) (sb hm) (E7 q1 (I.cls ob V) q3 B q4 hu (sb hm) (uX Y) (ah (hK y ?_)))))
  obtain⟨la,U,T,N,fz,lo,lc,ld,z,-⟩:=id Y.inv
  subst N
  refine Nq (o:=U) (fd:=T) (zh h d H w.tok E e4 λ{lx b3 vs} c K m rs=>⟨⟨c.get (λZ x=>x.elim) lo fz,z⟩,jT (g6 (hF H K (Y.go c) rs m.ku e5) λr s' X=>aw X λv hr L=>?_)⟩)
  subst hr
  exact(L.trans c).trans P
theorem OJ{A:aO}{J:bg}{Q:gw->ai->Prop}{E:af->ai->Prop}{xs I:List bZ}{s}(h:ar W.M A (ja xs J) (λf i=>f=.next/\ar W.M A (ja I J) Q E i) E s):ar W.M A (ja (xs++I) J) Q E s:=by
 refine aa (EF ..) ?_
 refine ah (gW h (λf i R=>aA R λe k=>?_) λZ Z x=>x)
 subst e;exact k
noncomputable def SI.mR (si:SI) (f:List aj):SI:={si with ro:=f,fz:=f}
theorem lh.fz{fd xs ys mx my}{zs:List aj}(Q:dY W n (SI.fn fd) xs mx)(S:dY W n ((SI.fn fd).mR zs) ys my):lh W n fd (xs++ys) (.IB mx my):=λ{A J M G s ρ σ r} rm st F Pp P8 Px e=>
 ob e λp e1 e=>oc e (λhn e=>OJ (wpS (Q rm st F e1) λf I w E K u P=>by
  rw [Fl.FG hn] at P
  obtain rfl:=P.inv
  refine⟨rfl,?_⟩
  have D:w.fr=λb=>G.fr b∨M b:=E.fr
  let C:aq->Prop:=λb=>∃z∈zs,J.cells.lookup z=some b
  let N:aq->Prop:=λb=>M b/\¬C b
  have hL:N J.locals:=⟨u.jf,λjj=>aw jj λz Z hz=>bP (u.cells _ _ hz) λZ Z AS=>aL AS λv i=>aw u.ns λm n Z=>vU n i rfl⟩
  have hu:∀b,w.ou b->G.fr b∨N b:=λb x=>by
   rw [E.ou] at x
   exact x.elim (λx=>.inl (P8 b x)) λq=>.inr (q▸hL)
  have up:∀b,(G.fr b∨N b)->w.fr b:=λb x=>by exact aa (D ..)<|x.imp id And.left
  refine aA (kV (fr:=λb=>G.fr b∨N b) K up hu) λt j=>?_
  have l:aT W A {w with fr:=λb=>G.fr b∨N b} I.heap ((SI.fn fd).mR zs) J N p.2.1:={
   sc:=u.sc
   fn:=u.fn
   gl:=u.gl
   bl:=u.bl
   dg:=λb hb=>.inr hb
   jf:=hL
   ns:=aw u.ns λm V k=>⟨m,V,λx d U X=>(k x d U X).imp λv=>fE λb=>b.keep j⟩
   cells:=u.cells
   apart:=u.apart
   cell:=λx d U X=>(u.cell x d U X).imp λc=>dX λv=>fE (fE λr=>r.keep j)
   kN:=λx X zE=>(u.kN x X (λq=>nomatch q)).imp λc ⟨O,V⟩=>⟨O,V,λjk=>aw jk λz hz hl=>zE (Gb u.apart O hl▸hz)⟩
   has:=u.has
   fz:=λx U c O y=>y.elim (λy=>Pp c (Px _ _ O) y) λy=>y.2 ⟨x,U,O⟩
   here:=u.here
   fo:=aw u.fo λfs e k=>⟨fs,e,λx U=>aA (k x U) λk1 AU=>dG AU λL k2 k3 k4 k5=>⟨k1,L,k2,hu L k4,k4,k5.imp id (eH λq y=>q y.1)⟩⟩}
  refine wpS (S rm t l e) λf' ks B h R Z Y=>?_
  have H:B= {B with fr:=λb=>G.fr b∨N b}:=by exact aa (show(λb=>G.fr b∨N b)=B.fr from h.fr.symm) rfl
  refine⟨B,N,?_,H▸R,H▸Y⟩
  have T:Step W M w I.heap {B with fr:=w.fr} ks.heap:=⟨h.g,h.d,rfl,h.c0,h.new,λa o e ho V ht hf=>h.keep a o e ho (λx=>V x.1) ht λx=>hf (up a x),h.size,h.ou,λa o e x y V=>h.ig a o e (hu a y) y λx=>V x.1⟩
  rw [D] at T
  exact E.trans T)) λhn e=>aY e
end
end
section
section
variable {W:Wd} {n:Nat} {si:SI}
def Lh(W:Wd)(own:aq->Prop)(I:Gh->aN->List D->Prop)(G:Gh)(s:ai)(σ:MH)(x:D)(xs:List D)(r:Option af)(i:ai):Prop:=
 ∃v G',r=some v/\Step W own G s.heap G' i.heap/\St W G' i σ/\I G' i.heap xs/\Rep W G' i.heap v x
structure ju(W:Wd)(n:Nat)(σ:MH)(it:aq)(own:aq->Prop)(I:Gh->aN->List D->Prop):Prop where
 item:∀{A G s x xs},br n A->St W G s σ->Fo A G s.heap->(∀a,own a->G.fr a/\¬G.ou a)->I G s.heap (x::xs)->ar W.M A (f7 (.ref it)) (Lh W own I G s σ x xs) aF s
 done:∀{A G s},br n A->St W G s σ->Fo A G s.heap->(∀a,own a->G.fr a/\¬G.ou a)->I G s.heap []->ar W.M A (f7 (.ref it)) (λr s'=>r=none/\∃G',Step W own G s.heap G' s'.heap/\St W G' s' σ) aF s
 shift:∀{G h G' h' xs},I G h xs->cH W G h G' h'->(∀a o,own a->h.get? a=some o->h'.get? a=some o)->I G' h' xs
theorem JV{G:Gh}{s:ai}{σ:MH}{S:aq}{o:bu}{P:Array af}{k:Nat}{x:af}{d:D}{acc:List D}(st:St W G s σ)(V:G.fr S)(e:s.heap.get? S=some o)(p:o.cls=.type "list")(w:o.dict=none/\o.slots= #[])(U:o.data=.seq P k)(r4:aQ W G s.heap P.toList acc)(r:Rep W G s.heap x d)(J:acc.length<aP):
 St W G {s with heap:=s.heap.update S (dE (·.push x))} σ/\Step W (λb=>b=S) G s.heap G (s.heap.update S (dE (·.push x)))/\cg W G (s.heap.update S (dE (·.push x))) S none (.list (acc++ [d])):=by
 refine aL (Ld U (·.push x)) λj B=>?_
 refine aA (kZ (tk:=s.toks) st V (ft s.heap S (dE (·.push x)))) λN c=>?_
 have K:=c.ea (λb e=>e▸V)
 exact⟨N,c,by exact aa (bF ..)<|J,_,_,j,eI _ e (Le B),(Lc ..).trans p,⟨(Eh ..).trans w.1,(H6 ..).trans w.2⟩,B,by exact aa (BM ..)<|(r4.keep K).snoc (r.keep K)⟩
structure xd(W:Wd)(A:aO)(G:Gh)(s:ai)(σ:MH)(own:aq->Prop)(I:Gh->aN->List D->Prop)(S:aq)(xs:List D):Prop where
 st:St W G s σ
 fo:Fo A G s.heap
 of:∀a,own a->G.fr a/\¬G.ou a
 fr:G.fr S
 ou:¬G.ou S
 no:¬own S
 I:I G s.heap xs
def xS(W:Wd)(own:aq->Prop)(G:Gh)(s:ai)(σ:MH)(S:aq)(I:List D)(i:ai):Prop:=∃G',Step W (λa=>own a∨a=S) G s.heap G' i.heap/\St W G' i σ/\cg W G' i.heap S none (.list I)
theorem Fo.go{A G h G' h'}{M:aq->Prop}(F:Fo A G h)(S:Step W M G h G' h')(i:∀a,M a->¬G.ou a):Fo A G' h':=F.step S λa Z y z=>i a z y
theorem EH{σ:MH}{it S:aq}{own:aq->Prop}{I:Gh->aN->List D->Prop}{u:af}(l:ju W n σ it own I):∀{xs acc:List D} {A G s},br (n+1) A->xd W A G s σ own I S xs->cg W G s.heap S none (.list acc)->acc.length+xs.length<=aP->
 eU W.M A (.builtin "list.extend.loop" ⟨[.ref S,.ref it,u],[]⟩) (λr i=>r=.ok (.ret u)/\xS W own G s σ S (acc++xs) i) s:=by
 intro xs
 induction xs with
 | nil=>
  intro acc A G s H X O J
  refine fN JB ?_
  refine aa (gH tX _ ..) ?_
  show ar _ A.in1 (f7 (.ref it)>>=_) _ _ s
  refine ah (aF.any (bD (l.done H.in1 X.st X.fo X.of X.I) λr i B=>aA B λe Q=>aw Q λG' C g=>?_))
  subst e
  exact aD ⟨rfl,G',C.weaken λZ x=>.inl x,g,by exact aa (hW ..)<|O.go C (λa x=>(X.of a x).1) (X.st.inv.dJ S X.fr) X.no X.ou⟩
 | cons x xs Y=>
  intro acc A G s H X O J
  refine fN JB ?_
  refine aa (gH tX _ ..) ?_
  show ar _ A.in1 (f7 (.ref it)>>=_) _ _ s
  refine ah (aF.any (bD (l.item H.in1 X.st X.fo X.of X.I) λr i R=>tI R λv G' e C g h rv=>?_))
  subst e
  refine aA (O.go C (λa x=>(X.of a x).1) (X.st.inv.dJ S X.fr) X.no X.ou) λz t=>?_;refine jU t λo vs k e r1 r2 U r4=>?_
  have d:G'.fr S:=by exact aa (C.fr ..)<|X.fr
  have E:G'.ou=G.ou:=C.ou
  have w:acc.length+1+xs.length<=aP:=by exact aa (K5 ..)<|aa (Nat.add_comm 1 ..)<|J
  have K:acc.length<aP:=aE (cy _ _) w
  refine bP (JV g d e r1 r2 U r4 rv K) λN c p=>?_
  show ar _ A.in1 (l6 S (·.push v)>>=_) _ _ _
  refine ah (jn e U (aD ⟨g_ tX _,?_⟩) (size_le r4 z) (by exact aa (BK ..)<|Nat.succ_le_succ (size_le r4 z)))
  refine g6 (Y (acc:=acc++ [x]) H ⟨N,(X.fo.go C λa y=>(X.of a y).2).go c λa y=>by exact aa (y ..)<|aa (E ..)<|X.ou,λa y=>by exact aa (C.fr ..)<|aa (E ..)<|X.of a y,d,by exact aa (E ..)<|X.ou,X.no,
   l.shift h (c.ea λb e=>e▸d) λa o y e=>(ft i.heap S (dE (·.push v))).extBut a o (λq=>X.no (q▸y)) e⟩ p (by exact aa (bF ..)<|w)) λr Yj j=>aA j λV m=>bI m λL P T f=>⟨V,L,((C.weaken λZ x=>.inl x).trans (c.weaken λZ x=>.inr x)).trans P,T,by rw [iW] at f;exact f⟩
structure xn(T:String):Prop where
 S9:gr (.type T) "__len__" =pure none
 S8:gr (.type T) "__length_hint__" =pure none
 iter:∃id,iz T "__iter__" id
 notList:(kF T==kF "list")=false
 notTuple:(kF T==kF "tuple")=false
structure B8(W:Wd)(T:String)(it:aq)(oi:bu):Prop where
 ty:xn T
 cls:oi.cls=.type T
 self:∀{s':ai} {A:aO} {E:af->ai->Prop} {Q:af->ai->Prop},s'.heap.get? it=some oi->Q (.ref it) s'->ar W.M A (ik (.ref it)) Q E s'
theorem EI{T:String}{it S:aq}{oi:bu}{own:aq->Prop}{I:Gh->aN->List D->Prop}{u:af}{xs:List D}{A G s σ}{k:Nat}{R:hZ->ai->Prop}(l:ju W n σ it own I)(ob:B8 W T it oi)(t:s.heap.get? it=some oi)(K:S≠it)(H:br (n+2) A)(X:xd W A G s σ own I S xs)
 (hl:s.heap.get? S=some {cls:=.type "list",data:=.seq #[] k}) (J:xs.length<=aP) (h:∀i,xS W own G s σ S xs i->R (.ok (.ret u)) i):
 ar W.M A.in1 (nL (.ref S) (.ref it) u) (λv i=>match v with| .done f=>R (.ok f) i| .again p=>p.quiet=true/\eU W.M A p R i) (λe i=>R (.error e) i) s:=by
 have L:s.TypeIs (.ref it) T:=⟨oi,t,ob.cls⟩
 have E:=ob.ty
 unfold nL
 refine ah (wN L ?_)
 refine aa (if_neg (λh=>by rw [show Ji (.ref S) (.ref it)=false from decide_eq_false K,E.notList,E.notTuple] at h;exact absurd h (by decide))) ?_
 refine ah (ob.self t (ah (bz ?_)))
 unfold BO
 refine ah (qP L E.S9 ?_)
 show ar _ A.in1 (specialOf (eB it) (au "__length_hint__")>>=_) _ _ _
 refine ah (qP L E.S8 (aD ?_))
 show ar _ A.in1 (rule "list.extend.makes-room" >>=λZ=>Jj (.ref S)>>=λZ=>
  mB (.builtin "list.extend.loop" ⟨[.ref S,.ref it,u],[]⟩)) _ _ _
 refine ah (nH (ah ?_))
 show ar _ A.in1 (l6 S (·.push .none)>>=λZ=>l6 S (·.pop)) _ _ _
 refine ah (jn hl rfl ?_)
 have d:=eI (dE (·.push Value.none)) hl rfl
 refine jn (hz:=by seq_fits) d rfl ?_
 have j:=eI (dE (·.pop)) d rfl
 refine aA (kZ (tk:=s.toks) X.st X.fr (ft s.heap S (dE (·.push Value.none)))) λw P=>?_
 refine aA (kZ (tk:=s.toks) w X.fr (ft (s.heap.update S (dE (·.push Value.none))) S (dE (·.pop)))) λN c=>?_
 have z:=P.trans c
 have m:∀b o,b≠S->s.heap.get? b=some o->((s.heap.update S (dE (·.push Value.none))).update S (dE (·.pop))).get? b=some o:=
  λb o hb e=>(gf _ _ (Ne.symm hb)).trans ((gf _ _ (Ne.symm hb)).trans e)
 refine aD ⟨g_ tX _,g6 (EH l (acc:=[]) (H.le (dD _)) ⟨N,X.fo.go z λa y=>y▸X.ou,X.of,X.fr,X.ou,X.no,l.shift X.I (z.ea λb e=>e▸X.fr) λa o x e=>m a o (λq=>X.no (q▸x)) e⟩
  ⟨fW _,_,#[],_,j,rfl,⟨rfl,rfl⟩,rfl,.nil⟩ (by exact aa (Ck ..)<|aa (rM ..)<|J)) λr i C=>aA C λe B=>bI B λG' O g p=>?_⟩
 subst e
 exact h i ⟨G',(z.weaken λZ x=>.inr x).trans O,g,p⟩
end
end
section
section
variable {W:Wd} {n:Nat} {si:SI}
noncomputable def f6:bu:={cls:=.type "list",data:=.seq #[]}
def xT(W:Wd)(own:aq->Prop)(G:Gh)(s:ai)(σ:MH)(xs:List D)(i:ai):Prop:=
 xS W own {G with fr:=λb=>G.fr b∨b=s.heap.objs.size} {s with heap:=s.heap.push f6} σ s.heap.objs.size xs i
structure nU(W:Wd)(n:Nat)(A:aO)(G:Gh)(s:ai)(σ:MH)(T:String)(it:aq)(oi:bu)(own:aq->Prop)(I:Gh->aN->List D->Prop)(xs:List D):Prop where
 ok:ju W n σ it own I
 ob:B8 W T it oi
 oi:s.heap.get? it=some oi
 st:St W G s σ
 fo:Fo A G s.heap
 of:∀a,own a->G.fr a/\¬G.ou a
 I:I G s.heap xs
 z:xs.length<=aP
section
variable {T:String} {it:aq} {oi:bu} {own:aq->Prop} {I:Gh->aN->List D->Prop} {xs:List D} {A:aO} {G:Gh} {s:ai} {σ:MH}
theorem nU.ne(X:nU W n A G s σ T it oi own I xs):s.heap.objs.size≠it:=λq=>fV _ (q▸b9 X.oi)
theorem nU.enter(X:nU W n A G s σ T it oi own I xs):xd W A {G with fr:=λb=>G.fr b∨b=s.heap.objs.size} {s with heap:=s.heap.push f6} σ own I s.heap.objs.size xs:=
 have J:(s.heap.push f6).objs.size=s.heap.objs.size+1:=c9 ..
 have x:=jE (b3:={s with heap:=s.heap.push f6}) (M:=λb=>b=s.heap.objs.size) X.st (λb e=>⟨bN e.symm,by exact aa (e ..)<|Nat.lt_of_lt_of_eq (cw _) J.symm⟩) (λb ob e=>bH _ e) (aE (dD _) (bN J.symm)) rfl rfl
 have lt:∀{b},G.fr b->b≠s.heap.objs.size:=λy=>bj (X.st.inv.b0 _ y).2.1
 ⟨x.1,aw X.fo λfs e k=>⟨fs,e,λy t=>aA (k y t) λm N=>dG N λL g P V Q=>aw Q λo D c=>⟨m,L,g,.inl P,V,o,bH _ D,c⟩⟩,λa y=>⟨.inl (X.of a y).1,(X.of a y).2⟩,.inr rfl,λy=>lt (X.st.inv.b8 _ y) rfl,λy=>lt (X.of _ y).1 rfl,X.ok.shift X.I x.2 λa o y e=>bH _ e⟩
theorem Ru(X:nU W n A G s σ T it oi own I xs)(H:br (n+3) A):ar W.M A (bM (.type "list") [.ref it]) (λv i=>v=.ref s.heap.objs.size/\xT W own G s σ xs i) aF s:=by
 refine DT (Q₁:=λS ak=>S=.ref s.heap.objs.size/\ak= {s with heap:=s.heap.push f6}) Jz (JQ _) JD (N1 _ ⟨rfl,rfl⟩) λS ak k=>?_
 refine aA k λB R=>?_;obtain rfl:=B;obtain rfl:=R
 have V:(s.heap.push f6).get? s.heap.objs.size=some f6:=c5 _ rfl
 have Y:=X.enter
 refine⟨⟨_,V,rfl⟩,Jx _ _,?_⟩
 show ar _ A.in1.in1 (do let f ← wZ (.ref s.heap.objs.size);BQ (.ref s.heap.objs.size) (λZ=> #[]);letGo f.toList.reverse;nL (.ref s.heap.objs.size) (.ref it) .none) _ _ _
 refine ah ?_
 unfold wZ
 refine ah (lb V rfl (aD ?_))
 show ar _ A.in1.in1 (l6 s.heap.objs.size (λZ=> #[])>>=λZ=>letGo (#[]:Array af).toList.reverse>>=λZ=>nL (.ref s.heap.objs.size) (.ref it) .none) _ _ _
 refine ah (jn V rfl ?_)
 have d:=eI (dE (λZ=>(#[]:Array af))) V rfl
 refine aA (kZ (tk:=s.toks) Y.st Y.fr (ft (s.heap.push f6) s.heap.objs.size (dE (λZ=>(#[]:Array af))))) λN c=>?_
 have m:∀b o,b≠s.heap.objs.size->(s.heap.push f6).get? b=some o->((s.heap.push f6).update s.heap.objs.size (dE (λZ=>(#[]:Array af)))).get? b=some o:=λb o hb e=>(gf _ _ (Ne.symm hb)).trans e
 refine ah (qN ?_)
 exact EI (A:=A.in1) X.ok X.ob (m it oi X.ne.symm (bH _ X.oi)) X.ne H.in1 ⟨N,Y.fo.go c λa y=>y▸Y.ou,Y.of,Y.fr,Y.ou,Y.no,X.ok.shift Y.I (c.ea λb e=>.inr e) λa o x e=>m a o (λq=>Y.no (q▸x)) e⟩ d X.z
  λi j=>bI j λG' C g p=>⟨rfl,rfl,G',(c.weaken λZ x=>.inr x).trans C,g,p⟩
theorem N2(X:nU W n A G s σ T it oi own I xs)(H:br (n+3) A){Q:List af->ai->Prop}{E:af->ai->Prop}
 (h:∀P i G',Step W (λa=>own a∨a=s.heap.objs.size) {G with fr:=λb=>G.fr b∨b=s.heap.objs.size} (s.heap.push f6) G' i.heap->St W G' i σ->aQ W G' i.heap P xs->Q P i):ar W.M A (yZ (.ref it)) Q E s:=by
 unfold yZ
 refine ah (IT (fN F.entry_proto_collect ?_))
 refine aa (gH F.plain_proto_collect _ ..) ?_
 show ar _ A.in1 (Ap []>>=λl=>mB (.builtin "list.__iadd__" ⟨[l,.ref it],[]⟩)) _ _ s
 refine ah (iS ?_)
 refine aD ⟨g_ JG _,fN F.entry_list_iadd ?_⟩
 refine aa (gH JG _ ..) ?_
 show ar _ A.in1 (nL (.ref s.heap.objs.size) (.ref it) (.ref s.heap.objs.size)) _ _ {s with heap:=s.heap.push f6}
 have v:∀i,xT W own G s σ xs i->ar W.M A (do let o ← load s.heap.objs.size;match o.data with| .seq xs _=>pure xs.toList| _=>unsupported "internal:collect") Q E i:=λi C=>dG C λG' c g z t=>jU t λo P k e d w U r4=>by
  refine ah (nG e ?_)
  exact aa (U ..)<|wpAny_pure (h _ i G' c g r4)
 refine gW (EI (A:=A) (R:=λr i=>r=.ok (.ret (.ref s.heap.objs.size))/\xT W own G s σ xs i) X.ok X.ob (bH _ X.oi) X.ne (H.le (dD _)) X.enter (c5 _ rfl) X.z λi o=>⟨rfl,o⟩)
  (λf i Z=>?_) λe i Z=>nomatch Z.1
 induction f with
 | done f=>refine aA Z λe u=>?_;obtain rfl:=Xs e;exact v i u
 | again p=>exact⟨Z.1,g6 Z.2 λr V m=>by refine aA m λe u=>?_;subst e;exact v V u⟩
def xV(W:Wd)(own:aq->Prop)(G:Gh)(s:ai)(σ:MH)(xs:List D)(v:af)(i:ai):Prop:=
 ∃G',Step W (λa=>own a∨a=s.heap.objs.size) {G with fr:=λb=>G.fr b∨b=s.heap.objs.size} (s.heap.push f6) G' i.heap/\St W G' i σ/\Rep W G' i.heap v (.tup xs)
theorem V7(X:nU W n A G s σ T it oi own I xs)(H:br (n+5) A):ar W.M A (bM (.type "tuple") [.ref it]) (xV W own G s σ xs) aF s:=by
 have t:eU W.M A.in1 (.call (.builtin "tuple.__new__") ⟨[.type "tuple",.ref it],[]⟩) (wants (λv i=>i.TypeIs v "tuple" /\xV W own G s σ xs v i) aF) s:=by
  refine uE ?_
  show ar _ A.in1.in1 (do yP "tuple.__new__" ⟨[.type "tuple",.ref it],[]⟩;mB (.builtin "tuple.__new__" ⟨[.type "tuple",.ref it],[]⟩)) _ _ s
  refine ah (hK (JF _) (aD ⟨g_ JH _,fN JE ?_⟩))
  refine aa (gH JH _ ..) ?_
  have y:=VK
  have a:=QC
  have c:=R9
  have b:s.TypeIs (.ref it) T:=⟨oi,X.oi,X.ob.cls⟩
  wp_walk using wN b
  refine aa (if_neg (by rw [X.ob.ty.notTuple];decide)) ?_
  refine ah (N2 (n:=n) (A:=A.in1.in1) ⟨X.ok,X.ob,X.oi,X.st,X.fo,X.of,X.I,X.z⟩ H.in1.in1 λP i G' C g u=>ah (aD ?_))
  show ar _ _ (w8 P.toArray>>=λv=>ret v) _ _ _
  unfold w8
  refine ah (iS ?_ (by show P.toArray.size<=gF;exact aa (rH ..)<|aa (u.length ..)<|Nat.le_trans X.z f9))
  exact aD ⟨⟨_,c5 _ rfl,rfl⟩,G',C.trans (Step.any (.push _)),g.push _,.tup X.z g.bq (c5 _ rfl) rfl ⟨rfl,rfl⟩ rfl (by simpa using u.go (Step.push (s:=i) _))⟩
 exact DT (Q₁:=λv i=>i.TypeIs v "tuple" /\xV W own G s σ xs v i) JA (JR _) F.entry_object_init t λS ak k=>⟨k.1,Jy S _,object_init_meets F.called_tuple.init.lookup F.called_tuple.made (by decide) W.prog W.w A.in1 _ ak ⟨k.1,rfl,k.2⟩⟩
end
end
end
section
theorem GU:mroOf (.type "map")=pure [.type "map",.type "object"]:=by refine aa (mroOf_type ..) ?_;kernel_rfl
theorem RI:gr (.type "map") "__new__" =pure (some (.builtin "map.__new__")):=by refine aa (e_ ..)<|aa (eS ..) ?_;kernel_rfl
theorem Vj:iz "map" "__init__" "object.__init__" :=
 .of (owner:="object") (n:="__init__") (by refine aa (e_ ..)<|aa (eS ..) ?_;kernel_rfl) (by decide+kernel) (by decide+kernel) (by decide+kernel)
  (by first| exact .inl (by decide+kernel)| exact .inr (by decide+kernel)) (by refine aa (eE ..) ?_;kernel_rfl)
theorem Nx:TypeCalled "map" "map.__new__" "object.__init__" :=
 ⟨by decide+kernel,by decide+kernel,⟨_,_,GU⟩,madeBy_type GU RI (by decide+kernel),by decide+kernel,by refine aa (eE ..) ?_;kernel_rfl,Vj⟩
theorem Wb(a b:af):NA "map" ⟨[a,b],[]⟩=pure ():=by kernel_rfl
theorem SN(a b:af):yP "map.__new__" ⟨[.type "map",a,b],[]⟩=pure ():=by kernel_rfl
theorem OD:i_ jl "map.__new__" =some bE.«map.__new__»:=oG (by kernel_rfl)
theorem Dl(a b c:af):gj "object.__init__" ⟨[a,b,c],[]⟩:=by
 unfold gj;kernel_rfl
theorem EA:i_ jl "map.__next__" =some bE.«map.__next__»:=oG (by kernel_rfl)
theorem tq:iz "map" "__next__" "map.__next__" :=
 .of (owner:="map") (n:="__next__") (by refine aa (e_ ..)<|aa (eS ..) ?_;kernel_rfl) (by decide+kernel) (by decide+kernel) (by decide+kernel)
  (by first| exact .inl (by decide+kernel)| exact .inr (by decide+kernel)) (by refine aa (eE ..) ?_;kernel_rfl)
theorem A_:iz "map" "__iter__" "map.__iter__" :=
 .of (owner:="map") (n:="__iter__") (by refine aa (e_ ..)<|aa (eS ..) ?_;kernel_rfl) (by decide+kernel) (by decide+kernel) (by decide+kernel)
  (by first| exact .inl (by decide+kernel)| exact .inr (by decide+kernel)) (by refine aa (eE ..) ?_;kernel_rfl)
theorem Dm(a:af):gj "map.__next__" ⟨[a],[]⟩:=by unfold gj;kernel_rfl
theorem Dk(a:af):gj "filter.__next__" ⟨[a],[]⟩:=by unfold gj;kernel_rfl
theorem GS:mroOf (.type "filter")=pure [.type "filter",.type "object"]:=by refine aa (mroOf_type ..) ?_;kernel_rfl
theorem RH:gr (.type "filter") "__new__" =pure (some (.builtin "filter.__new__")):=by refine aa (e_ ..)<|aa (eS ..) ?_;kernel_rfl
theorem Vi:iz "filter" "__init__" "object.__init__" :=
 .of (owner:="object") (n:="__init__") (by refine aa (e_ ..)<|aa (eS ..) ?_;kernel_rfl) (by decide+kernel) (by decide+kernel) (by decide+kernel)
  (by first| exact .inl (by decide+kernel)| exact .inr (by decide+kernel)) (by refine aa (eE ..) ?_;kernel_rfl)
theorem Nw:TypeCalled "filter" "filter.__new__" "object.__init__" :=
 ⟨by decide+kernel,by decide+kernel,⟨_,_,GS⟩,madeBy_type GS RH (by decide+kernel),by decide+kernel,by refine aa (eE ..) ?_;kernel_rfl,Vi⟩
theorem Wa(a b:af):NA "filter" ⟨[a,b],[]⟩=pure ():=by kernel_rfl
theorem SM(a b:af):yP "filter.__new__" ⟨[.type "filter",a,b],[]⟩=pure ():=by kernel_rfl
theorem OA:i_ jl "filter.__new__" =some bE.«filter.__new__»:=oG (by kernel_rfl)
theorem Ez:i_ jl "filter.__next__" =some bE.«filter.__next__»:=oG (by kernel_rfl)
theorem sZ:v8 "filter.__next__" =true:=by decide+kernel
theorem tj:iz "filter" "__next__" "filter.__next__" :=
 .of (owner:="filter") (n:="__next__") (by refine aa (e_ ..)<|aa (eS ..) ?_;kernel_rfl) (by decide+kernel) (by decide+kernel) (by decide+kernel)
  (by first| exact .inl (by decide+kernel)| exact .inr (by decide+kernel)) (by refine aa (eE ..) ?_;kernel_rfl)
theorem A8:iz "filter" "__iter__" "filter.__iter__" :=
 .of (owner:="filter") (n:="__iter__") (by refine aa (e_ ..)<|aa (eS ..) ?_;kernel_rfl) (by decide+kernel) (by decide+kernel) (by decide+kernel)
  (by first| exact .inl (by decide+kernel)| exact .inr (by decide+kernel)) (by refine aa (eE ..) ?_;kernel_rfl)
theorem VD:jJ (.type "filter") (.type "filter")=pure true:=by refine aa (eE ..) ?_;kernel_rfl
theorem QS:xn "map" :=⟨by refine aa (e_ ..)<|aa (eS ..) ?_;kernel_rfl,by refine aa (e_ ..)<|aa (eS ..) ?_;kernel_rfl,⟨_,A_⟩,by decide,by decide⟩
theorem QR:xn "filter" :=⟨by refine aa (e_ ..)<|aa (eS ..) ?_;kernel_rfl,by refine aa (e_ ..)<|aa (eS ..) ?_;kernel_rfl,⟨_,A8⟩,by decide,by decide⟩
theorem OC:i_ jl "map.__iter__" =some bE.«dict_keyiterator.__iter__»:=
 zf (id':="dict_keyiterator.__iter__") (by kernel_rfl) (by first| rfl| decide+kernel) (by decide+kernel) (by kernel_rfl)
theorem Oz:i_ jl "filter.__iter__" =some bE.«dict_keyiterator.__iter__»:=
 zf (id':="dict_keyiterator.__iter__") (by kernel_rfl) (by first| rfl| decide+kernel) (by decide+kernel) (by kernel_rfl)
theorem Ml(a:af):gj "map.__iter__" ⟨[a],[]⟩:=by unfold gj;kernel_rfl
theorem Mj(a:af):gj "filter.__iter__" ⟨[a],[]⟩:=by unfold gj;kernel_rfl
theorem UZ{prog:eA}{w:eC}{A:aO}{E:af->ai->Prop}{s:ai}{m:aq}{Q:af->ai->Prop}(p:s.TypeIs (.ref m) "map")(h:Q (.ref m) s):ar (bX prog w) A (ik (.ref m)) Q E s:=
 IS p A_ (kz A_ p OC (aD ⟨_,rfl,_,_,p,tq.lookup,h⟩) (Ml _))
theorem UY{prog:eA}{w:eC}{A:aO}{E:af->ai->Prop}{s:ai}{m:aq}{Q:af->ai->Prop}(p:s.TypeIs (.ref m) "filter")(h:Q (.ref m) s):ar (bX prog w) A (ik (.ref m)) Q E s:=
 IS p A8 (kz A8 p Oz (aD ⟨_,rfl,_,_,p,tj.lookup,h⟩) (Mj _))
theorem VF:jJ (.type "map") (.type "map")=pure true:=by refine aa (eE ..) ?_;kernel_rfl
theorem Si(f:af)(l:aq)(z:Array af)(n:Nat)(q:Option aq)(H:Array (Option af)):
 kE (bE.«map.__new__» ⟨[.type "map",f,.ref l],[]⟩) (λZ R s=>s.heap.get? l=some {cls:=.type "list",dict:=q,data:=.seq z n,slots:=H}/\
  R (.ok (.ret (.ref (s.heap.objs.size+2))))
   {s with heap:=((s.heap.push {cls:=.type "list_iterator",data:=.fields #[.ref l,.int 0 0]}).push {cls:=.type "tuple",data:=.seq #[.ref s.heap.objs.size]}).push {cls:=.type "map",data:=.fields #[.ref (s.heap.objs.size+1),f]}}):=
 .of_wp λprog w A R s h=>by
  obtain⟨T,g,d,a,os⟩:=s;refine aA h λhl h=>?_
  have y:=VF
  have M:J0 (LL ⟨T,g,d,a,os⟩) l z:=⟨_,hl,rfl,n,rfl⟩
  wp_walk using dH hl,tH M
  exact⟨_,rfl,by simpa [c9] using h⟩
theorem Sh(f:af)(l:aq)(z:Array af)(n:Nat)(q:Option aq)(H:Array (Option af)):
 kE (bE.«filter.__new__» ⟨[.type "filter",f,.ref l],[]⟩) (λZ R s=>s.heap.get? l=some {cls:=.type "list",dict:=q,data:=.seq z n,slots:=H}/\
  R (.ok (.ret (.ref (s.heap.objs.size+1))))
   {s with heap:=(s.heap.push {cls:=.type "list_iterator",data:=.fields #[.ref l,.int 0 0]}).push {cls:=.type "filter",data:=.fields #[f,.ref s.heap.objs.size]}}):=
 .of_wp λprog w A R s h=>by
  obtain⟨T,g,d,a,os⟩:=s;refine aA h λhl h=>?_
  have y:=VD
  have M:J0 (LL ⟨T,g,d,a,os⟩) l z:=⟨_,hl,rfl,n,rfl⟩
  wp_walk using dH hl,tH M
  exact⟨_,rfl,by simpa [c9] using h⟩
section
variable {prog:eA} {w:eC} {A:aO} {E:af->ai->Prop} {s:ai}
theorem Ga{it l:aq}{i:Nat}{z}{x:af}{Q:Option af->ai->Prop}(hit:s.heap.IsListIter it l i)
 (hl:s.heap.IsList l z) (U:z[i]?=some x)
 (S:∀h',h'.IsListIter it l (i+1)->hO it s.heap h'->Q (some x) {s with heap:=h'}):
 ar (bX prog w) A (Nn (.ref it) "__next__") Q E s:=by
 refine bI (id hit) λo L O P=>?_
 refine bI hl λq c Z j=>?_;refine aL j λt b=>?_
 refine ph (name:=au "__next__") hit.typeIs A9 (kz A9 hit.typeIs zg ?_ (Mk _))
 show ar _ _ (oK (.ref it) 0>>=_) _ _ s
 refine ah (ir L P (x:=.ref l) rfl ?_)
 show ar _ _ (if (eB l==Value.none)=true then _ else _) _ _ s
 refine aa (if_neg (show ¬((eB l==Value.none)=true) from tT)) ?_
 show ar _ _ (oK (.ref it) 1>>=_) _ _ s
 refine ah (ir L P (x:=.int i 0) rfl ?_)
 show ar _ _ (qw (.ref l)>>=_) _ _ s
 refine ah (lb c b ?_)
 simp only [xm,U]
 refine ah (wL L P (by simp) (aD ⟨x,rfl,S _ ?_ (ft ..)⟩))
 exact⟨_,eI _ L (xN (rN P _)),(CH ..).trans O,by
  refine aa (rN P ..) ?_;simp [gE]⟩
theorem F_{it l:aq}{i:Nat}{z}{Q:Option af->ai->Prop}(j:A.handled=none)
 (hit:s.heap.IsListIter it l i) (hl:s.heap.IsList l z) (U:z[i]?=none)
 (S:∀h' e,ly it s.heap h'->s.heap.objs.size<=h'.objs.size->({s with heap:=h'}:ai).TypeIs (.ref e) "StopIteration" ->E (.ref e) {s with heap:=h'}):ar (bX prog w) A (Nn (.ref it) "__next__") Q E s:=by
 refine bI (id hit) λo L O P=>?_
 refine bI hl λq c Z C=>?_;refine aL C λt b=>?_
 refine ph (name:=au "__next__") hit.typeIs A9 (kz A9 hit.typeIs zg ?_ (Mk _))
 show ar _ _ (oK (.ref it) 0>>=_) _ _ s
 refine ah (ir L P (x:=.ref l) rfl ?_)
 show ar _ _ (if (eB l==Value.none)=true then _ else _) _ _ s
 refine aa (if_neg (show ¬((eB l==Value.none)=true) from tT)) ?_
 show ar _ _ (oK (.ref it) 1>>=_) _ _ s
 refine ah (ir L P (x:=.int i 0) rfl ?_)
 show ar _ _ (qw (.ref l)>>=_) _ _ s
 refine ah (lb c b ?_)
 simp only [xm,U]
 refine ah (nH (ah (wL L P (by simp) ?_)))
 show ar _ _ (Ao (.type "StopIteration") []>>=_) _ _ _
 refine ah ?_
 simp only [Ao,m6]
 refine ah (iS ?_ (by size_fits))
 refine ah (m:=zj _ _) (hK (a:=Value.none) (by first| rfl| (simp only [zj];rfl)) ?_)
 refine iS ?_ (by size_fits)
 exact By (A:=A.in1) j<|S _ _ (((ft ..).extBut.push _).push _) (by simp only [c9,jt];lia) ⟨_,c5 _ rfl,rfl⟩
end
end
section
section
variable {W:Wd} {n:Nat} {si:SI}
noncomputable def vJ (tp f:aq):bu:={cls:=.type "map",data:=.fields #[.ref tp,.ref f]}
noncomputable def wC (H:aq):bu:={cls:=.type "tuple",data:=.seq #[.ref H]}
structure xG(W:Wd)(m tp li l f:aq)(g:D->D)(ys:List D)(G:Gh)(h:aN)(xs:List D)(j:Nat):Prop where
 m:h.get? m=some (vJ tp f)
 t:h.get? tp=some (wC li)
 i:h.IsListIter li l j
 r:Rep W G h (.ref l) (.list ys)
 e:xs=(ys.drop j).map g
theorem xG.ne{m tp H l f g I G h xs j}(X:xG W m tp H l f g I G h xs j):m≠H/\tp≠H:=by
 refine bI X.i λZ N v Z=>?_
 refine⟨λq=>?_,λq=>?_⟩
 .rw [← q,X.m] at N;rw [← aM N] at v;exact absurd v (by simp [vJ])
 .rw [← q,X.t] at N;rw [← aM N] at v;exact absurd v (by simp [wC])
theorem drop_cons{α:Type}{l:List α}{j:Nat}{y:α}{r:List α}(e:l.drop j=y::r):l[j]?=some y/\l.drop (j+1)=r:=by
 have h:j<l.length:=K8 λh=>by rw [Km h] at e;exact nomatch e
 rw [Ce h] at e
 refine aA (rz e) λV Q=>?_
 exact⟨by exact aa (gL h ..)<|aa (V ..) rfl,Q⟩
theorem ju.map{σ:MH}{m tp li l f:aq}{g:D->D}{ys:List D}{F:FM}(hF:ba W n f F)(hp:∀y∈ys,F [y] σ=some (g y,σ)):ju W (n+1) σ m (λa=>a=li∨a=tp∨a=m) (λG h xs=>∃j,xG W m tp li l f g ys G h xs j) where
 item:=λ{A G s x xs} rm st fo L jj=>aL jj λj X=>by
  have p:s.TypeIs (.ref m) "map" :=⟨_,X.m,rfl⟩
  refine BH X.r.inv λa o vs k I z fz Q E e4 J R=>?_
  obtain rfl:=jA I
  have O:=X.e
  induction hq:ys.drop j with
  | nil=>rw [hq] at O;exact nomatch O
  | cons y r=>
   rw [hq] at O
   refine aA (rz O) λkm ko=>?_;obtain rfl:=km;obtain rfl:=ko
   refine aA (drop_cons hq) λd1 d2=>?_
   refine aw (R.at_ d1) λv hv rv=>?_
   unfold f7
   refine ah (tE (ph (name:=au "__next__") p tq (kz tq p EA ?_ (Dm _))))
   unfold bE.«map.__next__»
   refine ah (hK (a:=(eB m,([]:List af))) rfl ?_)
   refine ah (ir X.m rfl rfl (ah (lb X.t rfl ?_)))
   dsimp only
   refine aa (.symm (I3 ..)) ?_
   simp only [rD,Kw]
   unfold Jl
   refine ah (ah (ah (bz (ah (Ga (x:=v) X.i ⟨o,Q,E,k,J⟩ hv λh' Y B=>?_)))))
   refine aA (kZ (tk:=s.toks) st (L li (.inl rfl)).1 B) λw P=>?_
   have C:=P.ea λb e=>e▸(L _ (.inl rfl)).1
   refine aD (aD (aD ?_))
   have V:=B.extBut _ _ X.ne.1 X.m
   have S:=B.extBut _ _ X.ne.2 X.t
   refine ah (ir (s:={s with heap:=h'}) V rfl rfl ?_)
   refine ah (bz (aF.any (iu (p5 (vs:=[v]) (ds:=[y]) hF rm.in1 w (.cons (rv.keep C) .nil) (fo.go P λa e=>e▸(L _ (.inl rfl)).2) (hp y (lA d1))) λu H d c N q=>?_)))
   have U:∀b ob,(b=li∨b=tp∨b=m)->h'.get? b=some ob->H.heap.get? b=some ob:=λb ob hb e=>c.keep b ob e (w.inv.dJ b (L b hb).1).1 (λx=>x) (w.inv.dJ b (L b hb).1).2 λZ=>(L b hb).2
   exact ah (qN (aD ⟨_,rfl,aD ⟨u,d,rfl,(P.weaken λZ x=>.inl x).trans (c.weaken λZ x=>x.elim),N,⟨j+1,U _ _ (.inr (.inr rfl)) V,U _ _ (.inr (.inl rfl)) S,aw Y λol q1 q2=>⟨ol,U _ _ (.inl rfl) q1,q2⟩,(X.r.keep C).go c,by exact aa (d2 ..) rfl⟩,q⟩⟩))
 done:=λ{A G s} rm st fo L kp=>aL kp λj X=>by
  have p:s.TypeIs (.ref m) "map" :=⟨_,X.m,rfl⟩
  refine BH X.r.inv λa o vs k I z fz Q E e4 J R=>?_
  obtain rfl:=jA I
  have hd:ys.drop j= []:=List.map_eq_nil_iff.mp X.e.symm
  unfold f7
  refine ah (tE (ph (name:=au "__next__") p tq (kz tq p EA ?_ (Dm _))))
  unfold bE.«map.__next__»
  refine ah (hK (a:=(eB m,([]:List af))) rfl ?_)
  refine ah (ir X.m rfl rfl (ah (lb X.t rfl ?_)))
  dsimp only
  refine aa (.symm (I3 ..)) ?_
  simp only [rD,Kw]
  unfold Jl
  refine ah (ah (ah (bz (ah (F_ rm.2.2.2 X.i ⟨o,Q,E,k,J⟩ (R.none (mn (List.drop_eq_nil_iff.mp hd))) λh' e B hz hT=>?_)))))
  refine ah (Bv (T:="StopIteration") (b:=true) hT zN ?_)
  refine aA (st.gp (s':={s with heap:=h'}) (M:=λb=>b=li) (λb e=>e▸(L _ (.inl rfl)).1) (λb ob hb e=>B b ob hb e) hz rfl rfl) λw P=>?_
  exact aD ⟨rfl,G,P.weaken λZ x=>.inl x,w⟩
 shift:=λ{G h G' h' xs} jk K L=>aL jk λj X=>⟨j,L _ _ (.inr (.inr rfl)) X.m,L _ _ (.inr (.inl rfl)) X.t,aw X.i λol q1 q2=>⟨ol,L _ _ (.inl rfl) q1,q2⟩,X.r.keep K,X.e⟩
end
end
section
section
variable {W:Wd} {n:Nat} {si:SI}
theorem GJ{F:FM}{σ:MH}:∀{I f},vI F σ I=some f->f=I.map (λy=>((F [y] σ).map (·.1)).getD .none)/\∀y∈I,∃p,F [y] σ=some p
 | [],_,e=>sj e ⟨rfl,λZ h=>nomatch h⟩
 | y::I,_,e=>ob e λp N e=>ob e λf E e=>sj e (by
  refine aA (GJ E) λV Q=>?_
  exact⟨by exact aa (eK ..)<|aa (N ..)<|aa (.symm (V ..)) rfl,λg t=>(List.mem_cons.mp t).elim (λq=>⟨p,q▸N⟩) (Q g)⟩)
theorem Step.drop{fq G':Gh}{k T h':aN}{own:aq->Prop}{L:aq}(C:∀b o,k.get? b=some o->T.get? b=some o)(d:∀b,own b->k.objs.size<=b)(c:k.objs.size<=L)(J:k.objs.size<=T.objs.size)
 (S:Step W (λa=>own a∨a=L) {fq with fr:=λb=>(fq.fr b∨own b)∨b=L} T G' h'):Step W bf fq k {G' with fr:=fq.fr} h':=
 qy (G:=fq) (iL:=T) (M:=λa=>own a∨a=L) (λb y=>y.elim (d b) λq=>by exact aa (q ..)<|c) C J (λa l=>⟨λB=>aA B λx y=>⟨x.elim (λx=>x.elim id λz=>absurd l (Nat.not_lt.mpr (d a z))) λq=>absurd l (Nat.not_lt.mpr (by exact aa (q ..)<|c)),y⟩,λR=>aA R λx y=>⟨.inl (.inl x),y⟩⟩) S.ou (S.weaken λZ y=>.inr y)
theorem vu{h:aN}{l:aq}{P:Array af}{k:Nat}{o:bu}(Q:h.get? l=some o)(E:o.cls=.type "list")(b:o.data=.seq P k):h.get? l=some {cls:=.type "list",dict:=o.dict,data:=.seq P k,slots:=o.slots}:=by
 refine aa (Q ..) ?_;obtain⟨c,d,V,H⟩:=o;dsimp only at E b;exact aa (E ..)<|aa (b ..) rfl
theorem Ev.qH{x e p p1 P pos f m F a}(ok:W.Ok)(B:iv W si "tuple" (.type "tuple"))(C:iv W si "map" (.type "map"))
 (X:si.kind x=some .globalImplicit) (R:(au x==("__debug__" :aj))=false) (V:W.mg (au x)=some (.ref a)) (hF:ba W n a (fO F))
 (he:Ev W (n+6) si e m) (u:∀J,bB [.Name (au x) P,e] J= [(false,aU (.Name (au x) P) J),(false,aU e J)]) (I:∀J,bB [e] J= [(false,aU e J)])
 (hx:∀J,bB [.Call (.Name (au "map") p1) [.Name (au x) P,e] [] f] J= [(false,aU (.Call (.Name (au "map") p1) [.Name (au x) P,e] [] f) J)]):
 Ev W (n+6) si (.Call (.Name (au "tuple") p) [.Call (.Name (au "map") p1) [.Name (au x) P,e] [] f] [] pos) (.qH (fO F) m):=λ{A J M G s ρ σ r} rm st Fr h=>
 ob h λq e1 h=>ob h λys Ql h=>ob h λzs Qo h=>sj h (by
  refine aA (GJ Qo) λez K=>?_
  refine aa (jB ..) ?_
  refine ah (g8 ok st Fr B.hk B.hb (.inr ⟨B.hg,B.hm⟩) (j7 rfl (kH (by exact aa (hx ..) rfl)) (oI (λJ=>by exact aa (hx ..) rfl) (l8 ?_ (by exact aa (hx ..) rfl)))))
  refine aa (jB ..) ?_
  refine ah (g8 ok st Fr C.hk C.hb (.inr ⟨C.hg,C.hm⟩) (j7 rfl (kH (by exact aa (u ..) rfl)) (oI (λJ=>by exact aa (u ..) rfl) (l8 (g8 ok st Fr X R (.inl V) (l8 (bR he rm st Fr e1 λ{j ak v} S w E r=>qM ?_) (by exact aa (I ..) rfl))) (by exact aa (u ..)<|aa (I ..) rfl)))))
  refine r.listE Ql λ{l ol us k} e7 fz e2 e3 e4 e5 e6=>?_
  have z:∀(h:aN) (o:bu),(h.push o).objs.size=h.objs.size+1:=λh o=>c9 ..
  refine DU Nx (by decide) (Wb _ _) (SN _ _) (λobj=>Dl obj _ _) OD (Si (.ref a) l us k ol.dict ol.slots) ⟨vu e2 e3 e5,?_⟩
  let T:aN:=((ak.heap.push {cls:=.type "list_iterator",data:=.fields #[.ref l,.int 0 0]}).push (wC ak.heap.objs.size)).push (vJ (ak.heap.objs.size+1) a)
  have c:T.get? (ak.heap.objs.size+2)=some (vJ (ak.heap.objs.size+1) a):=nT (by exact aa (z ..)<|aa (z ..) rfl) rfl
  have H:T.get? (ak.heap.objs.size+1)=some (wC ak.heap.objs.size):=bH _ (nT (by exact aa (z ..) rfl) rfl)
  have Y:T.get? ak.heap.objs.size=some {cls:=.type "list_iterator",data:=.fields #[.ref l,.int 0 0]}:=bH _ (bH _ (nT rfl rfl))
  have hsz:T.objs.size=ak.heap.objs.size+3:=by exact aa (z ..)<|aa (z ..)<|aa (z ..) rfl
  have O:ak.heap.objs.size<=T.objs.size:=by exact aa (hsz ..)<|Nat.le_add_right _ _
  have t:∀b o,ak.heap.get? b=some o->T.get? b=some o:=λb o e=>bH _ (bH _ (bH _ e))
  refine⟨⟨_,c,rfl⟩,qM ?_⟩
  show ar W.M A (bM (.type "tuple") [.ref (ak.heap.objs.size+2)] []) _ _ _
  let own:aq->Prop:=λb=>b=ak.heap.objs.size∨b=ak.heap.objs.size+1∨b=ak.heap.objs.size+2
  have U:∀b,own b->ak.heap.objs.size<=b/\b<T.objs.size:=λb hb=>by
   exact aa (hsz ..)<|hb.elim (λq=>by exact aa (q ..)<|⟨bb _,ff (by decide)⟩) λhb=>hb.elim (λq=>by exact aa (q ..)<|⟨dD _,gZ (by decide) _⟩) λq=>by exact aa (q ..)<|⟨cy _ _,gZ (by decide) _⟩
  refine aA (jE (b3:={ak with heap:=T}) (M:=own) w U t O rfl rfl) λN D=>?_
  have it:=ju.map (m:=ak.heap.objs.size+2) (tp:=ak.heap.objs.size+1) (li:=ak.heap.objs.size) (l:=l) (σ:=q.2) (g:=λy=>((fO F [y] q.2).map (·.1)).getD .none) (ys:=ys) hF λy hy=>by
   refine aL (K y hy) λp T=>?_
   exact aa (T ..)<|congrArg some (Prod.ext rfl (ob T λd Z e=>sj e rfl))
  have i:Fo A {j with fr:=λb=>j.fr b∨own b} T:=aw E.ku λfs e k=>⟨fs,e,λy hy=>aA (k y hy) λk1 AR=>dG AR λL k2 k3 k4 s_=>aw s_ λo k5 k6=>⟨k1,L,k2,.inl k3,k4,o,t _ _ k5,k6⟩⟩
  refine bD (V7 (s:={ak with heap:=T}) (n:=n+1) (xs:=zs) ⟨it,⟨QS,rfl,λhh q=>UZ ⟨_,hh,rfl⟩ q⟩,c,N,i,λb hb=>⟨.inr hb,λy=>absurd (w.inv.b0 b (w.inv.b8 b y)).2.1 (Nat.not_lt.mpr (U b hb).1)⟩,⟨0,c,H,⟨_,Y,rfl,rfl⟩,(Rep.list e7 fz e2 e3 e4 e5 e6).keep D,ez⟩,by exact aa (ez ..)<|aa (aZ ..)<|e7⟩ rm) λv s' jj=>bI jj λG' Q Ba r'=>?_
  have L:=kV (fr:=j.fr) Ba (λb x=>by exact aa (Q.fr ..)<| .inl (.inl x)) λb y=>w.inv.b8 b (by exact aa (.symm (show G'.ou=j.ou from Q.ou))<|y)
  exact Out.trans S ⟨{G' with fr:=j.fr},Step.drop (own:=own) (λb o e=>bH _ (t b o e)) (λb y=>(U b y).1) O (by exact aa (z ..)<|Nat.le_succ_of_le O) Q,L.1,r'.keep L.2⟩)
end
end
section
section
variable {W:Wd} {n:Nat} {si:SI}
theorem Op.Ak:bL W n (kL .Mult) (cm GW):=bL.pure λH st i Q e=>ob e λx U e=>ob e λk C e=>og e λh e=>sj e (i.c8 U λt Z Z=>Q.gB C λc=>by
 refine eP h λN E A o=>?_
 refine aA (kY o) λa v=>?_
 refine SB.mul ⟨?_,λw Z=>?_,λw Z=>?_⟩ λc f=>.tok st (.str _ _ a v)
 .simp only [Je,decide_eq_false_iff_not];omega
 .refine aa (N ..) ?_
  have:(1:Int)<=(2 ^ 63 - 1) / k:=Int.le_ediv_of_mul_le (by omega) (by omega)
  omega
 .refine aa (N ..) ?_;delta Xo gF;simp;omega)
theorem dY.never{xs}:dY W n si xs .never:=λZ Z Z e=>aY e
theorem bG.binop{l op r R a s f}(I:CJ W n (kL op) f)(hl:Ev W n si l a)(m:Ev W n si r s):bG W n si (.BinOp l op r R) (.bh f a s):=λH st F e=>
 ob e λp N e=>ob e λq E A=>wpAny_BinOp (r8 hl m H st F N E λS g Z i Q=>BA S (I H g i Q A))
theorem xQ.add:CJ W n (kL .Add) ui:=λ{A G s σ v u d e r} H st i Q h=>
 ob h λxs U h=>ob h λI t h=>og h λJ h=>sj h (fL st i U λ{a f} l p Z=>fL st Q t λ{b y} R w Z=>by
  refine bI l λc L O j=>?_;refine aL j λk P=>?_
  refine bI R λB m x C=>?_;refine aL C λg z=>?_
  have e:f++y=(f.toList++y.toList).toArray:=by simp
  have N:=vu L O P
  have D:=vu m x z
  refine N8 ⟨_,L,O⟩ ⟨_,m,x⟩ S7 U1 LA Ly (Lv _ _) (list_addW a b f y k g c.dict B.dict c.slots B.slots (by exact aa (eX p ..)<|aa (eX w ..)<|Nat.le_trans J f9)) ⟨N,D,?_⟩
  exact aa (e ..)<|dy.grown st (λb o q=>bH _ q) (bb _) (by exact aa (c9 ..)<|Nat.lt_succ_self _) rfl rfl λG' K=>⟨by exact aa (bF ..)<|J,_,_,0,c5 _ rfl,rfl,⟨rfl,rfl⟩,rfl,by simpa using (p.append w).keep K⟩)
end
end
section
section
variable {W:Wd} {A:aO} {E:af->ai->Prop}
theorem strs_size{ps:List (aj×de)}{P:Array af}(h:P.toList=iP ps):P.size=ps.length:=(congrArg pN h).trans (aZ _)
theorem Io{ps:List (aj×de)}{P:Array af}(h:P.toList=iP ps){i:Nat}(w:i<ps.length):P[i]?=some (.str ps[i].1 ps[i].2):=
 Array.getElem?_toList.symm.trans (aa h (List.getElem?_map.trans (aa (gL w) rfl)))
theorem QT{P:Prop} [Decidable P]{c i:Nat}(h:c<=i):(if P then c else c+1)<=i+1:=by split;exact gN h;exact jZ h
theorem Vb{S I l:aq}{z:Array af}{ps:List (aj×de)}(T:z.toList=iP ps)(x:S≠l)(a:S≠I)(v:I≠l)(hz:z.size+1<qu){R:hZ->ai->Prop}(Y:A.handled=none):
 ∀(k i:Nat) (s:ai) (c:Nat),ps.length - i=k->s.heap.IsListIter I l i->s.heap.IsList l z->c<=i->s.heap.SetOf (strKind W.prog W.w) S (λq=>decide (q∈(ps.take i).map (·.1))) c->
   (∀h' f J,h'.SetOf (strKind W.prog W.w) S (λq=>decide (q∈ps.map (·.1))) J->(∀b o,b≠S->b≠I->s.heap.get? b=some o->h'.get? b=some o)->R (.ok (.ret .none)) {s with heap:=h',toks:=f})->
   eU W.M A (.builtin "set.update.loop" ⟨[.ref S,.ref I],[]⟩) R s:=by
 have p:=strs_size T
 intro k
 induction k with
 | zero=>
  intro i s c C n hl O V r
  have D:=pS C
  refine fN Lq ?_
  refine aa (gH CR _ ..) ?_
  show ar _ A.in1 (f7 (.ref I)>>=_) _ _ s
  refine ah (WT Y n hl (tO (aE (bN p) D)) λh' U=>?_)
  refine aD (r h' s.toks c ?_ λb o Z hb e=>U b o hb e)
  rw [xE D] at V
  exact qT V λo P y m L rest=>⟨o,P,y,m,U _ _ a L,rest⟩
 | succ k ih=>
  intro i s c C n hl O V r
  have K:=kX C
  refine fN Lq ?_
  refine aa (gH CR _ ..) ?_
  show ar _ A.in1 (f7 (.ref I)>>=_) _ _ s
  refine ah (WU n hl (Io T K) λh' h B=>?_)
  have d:h'.SetOf (strKind W.prog W.w) S (λq=>decide (q∈(ps.take i).map (·.1))) c:=qT V λo P y m L rest=>⟨o,P,y,m,B.extBut _ _ a L,rest⟩
  have g:h'.IsList l z:=aw hl λo L rest=>⟨o,B.extBut _ _ v.symm L,rest⟩
  show ar _ A.in1 (kf [Value.str _ _] (setAdd S (.str _ _))>>=_) _ _ _
  refine ah (bz ?_)
  delta setAdd
  refine bz ?_
  have u:(strKind W.prog W.w).is ps[i].1 (.str ps[i].1 ps[i].2)=true:=jI _ _
  refine ah ((strKind W.prog W.w).pyHash u ?_)
  refine wpAny_setAddHashed_of (knd:=strKind W.prog W.w) u rfl d (ee (jZ O) (ee (jZ (jy (p▸K))) hz)) λX Q H=>?_
  refine aD ⟨g_ CR _,ih (i+1) _ (if decide (ps[i].1∈(ps.take i).map (·.1)) then c else c+1) (m5 C) ?_ ?_ (QT O) ?_ λt f J j G=>?_⟩
  .exact aw h λo L rest=>⟨o,Q.extBut _ _ a.symm L,rest⟩
  .exact aw g λo L rest=>⟨o,Q.extBut _ _ x.symm L,rest⟩
  .refine xX H (λq=>?_) rfl
   refine aa (List.take_add_one ..)<|aa (gL K) ?_
   simp only [Option.toList_some,ey,eK,rE,n4,pO,Jc]
  .exact r t f J j λb o N E e=>G b o N E (Q.extBut _ _ N (B.extBut _ _ E e))
theorem U_{s:ai}{l S:aq}{z:Array af}{ps:List (aj×de)}{k:Bool}(T:z.toList=iP ps)(hl:s.heap.IsList l z)(j:A.handled=none)(J:z.size+1<qu)(x:S≠l)
 (V:s.heap.get? S=some {cls:=.type "set",dict:=none,data:=.set #[] 0 (.fresh 0 0 k)}) {Q:xY->ai->Prop}
 (h:∀h' f p,h'.SetOf (strKind W.prog W.w) S (λq=>decide (q∈ps.map (·.1))) p->(∀b o,b≠S->s.heap.get? b=some o->h'.get? b=some o)->Q (.done (.ret .none)) {s with heap:=h',toks:=f}):
 ar W.M A (bE.«set.__init__» ⟨[.ref S,.ref l],[]⟩) Q E s:=by
 refine sF hl λZ Z Z c=>?_
 have t:=F.sub_list_set
 have r:=F.sub_list_frozenset
 have m:=b9 V
 have n:=b9 c
 delta bE.«set.__init__» noKeywords Xj
 generalize i:ik=PI
 wp_walk
 subst i
 refine tH hl ?_
 refine ah (IT ?_)
 have a:S≠s.heap.objs.size:=bj m
 have v:s.heap.objs.size≠l:=dc n
 refine Vb T x a v J (by simp [j]) _ 0 _ 0 rfl ⟨_,c5 _ rfl,rfl,rfl⟩ (hl.push _) (bb _) ?_ λh' f p d C=>?_
 .have g:(s.heap.push {cls:=.type "list_iterator",data:=.fields #[.ref l,.int 0 0]}).get? S=some {cls:=.type "set",dict:=none,data:=.set #[] 0 (.fresh 0 0 k)}:=bH _ V
  exact xX ((Lr (knd:=strKind W.prog W.w) k).setOf g (by delta qu;lia)) (λZ=>by simp) rfl
 .refine aD ?_
  exact aD (h h' f p d λb o N e=>C b o N (bj (b9 e)) (bH _ e))
set_option maxHeartbeats 1600000 in
theorem Nv{s:ai}{l:aq}{z:Array af}{ps:List (aj×de)}{Q:af->ai->Prop}(T:z.toList=iP ps)(hl:s.heap.IsList l z)(K:A.handled=none)(J:z.size+1<qu)
 (h:∀h' f p,h'.SetOf (strKind W.prog W.w) s.heap.objs.size (λq=>decide (q∈ps.map (·.1))) p->(∀b o,s.heap.get? b=some o->h'.get? b=some o)->Q (.ref s.heap.objs.size) {s with heap:=h',toks:=f}):
 ar W.M A (bM (.type "set") [.ref l]) Q E s:=by
 have v:=F.called_set.mro
 refine ew v λc tl v=>?_
 have N:=F.called_set.made
 have i:=F.called_set.sub
 have B:=F.called_set.notType
 have n:=F.called_set.canCreate
 have t:=F.typeCall_set_1 (.ref l)
 have u:s.heap.objs.size≠l:=by refine aw hl λo e Z=>?_;exact dc (b9 e)
 refine jT (uE ?_)
 show ar _ _ (uz (.type "set") _) _ _ _
 refine aD ⟨xa _ (by decide+kernel),fN F.entry_type_call ?_⟩
 refine aa (Around.under_plain (weight_type_call_type "set" [.ref l] []) rfl ..) ?_
 repeat (any_goals (first| assumption| wp_step))
 refine g6 (code_set_new_1 (.ref l) (E:=E) (Q₁:=λS ak=>∃k:Bool,S=.ref s.heap.objs.size/\ak= {s with heap:=s.heap.push {cls:=.type "set",dict:=none,data:=.set #[] 0 (.fresh 0 0 k)}}) λk=>⟨k,rfl,rfl⟩) λr ak m=>?_
 rcases r with e| (S| _| _| _)
 .exact m
 rotate_left
 all_goals try exact m.elim
 refine aw m λk H j=>?_;obtain rfl:=H;obtain rfl:=j
 have V:(s.heap.push {cls:=.type "set",dict:=none,data:=.set #[] 0 (.fresh 0 0 k)}).get? s.heap.objs.size=some {cls:=.type "set",dict:=none,data:=.set #[] 0 (.fresh 0 0 k)}:=c5 _ rfl
 have I:LK {s with heap:=s.heap.push {cls:=.type "set",dict:=none,data:=.set #[] 0 (.fresh 0 0 k)}} (.ref s.heap.objs.size) "set" :=⟨_,V,rfl⟩
 have a:=F.called_set.init.lookup
 have g:=F.called_set.init.bind (.ref s.heap.objs.size)
 repeat (any_goals (first| assumption| wp_step))
 refine g6 (mK (R:=wants (λr D=>r=.none/\Q (.ref s.heap.objs.size) D) E) F.called_set.init.plain F.entry_set_init (check_set_init_1 I (U_ (W:=W) T (hl.push _) (by simp [K]) J u V λh' f p d L=>?_))) λG D x=>?_
 .exact⟨rfl,h h' f p d λb o e=>L b o (bj (b9 e)) (bH _ e)⟩
 .rcases G with e| (S| _| _| _)
  .exact x
  rotate_left
  all_goals try exact x.elim
  refine aA x λC y=>?_;obtain rfl:=C
  repeat (any_goals (first| assumption| wp_step))
end
end
section
theorem entry_set_ga:i_ jl "set.__getattribute__" =some bE.«object.__getattribute__»:=
 zf (id':="object.__getattribute__") (by kernel_rfl) (by first| rfl| decide+kernel) (by decide+kernel) (by kernel_rfl)
theorem Rz:gr (.type "method_descriptor") "__get__" =pure (some (.builtin "method_descriptor.__get__")):=by refine aa (e_ ..)<|aa (eS ..) ?_;kernel_rfl
theorem RB:gr (.type "method_descriptor") "__set__" =pure none:=by refine aa (e_ ..)<|aa (eS ..) ?_;kernel_rfl
theorem Rx:gr (.type "method_descriptor") "__delete__" =pure none:=by refine aa (e_ ..)<|aa (eS ..) ?_;kernel_rfl
theorem H3:iz "method_descriptor" "__get__" "method_descriptor.__get__" :=
 .of (owner:="method_descriptor") (n:="__get__") (by refine aa (e_ ..)<|aa (eS ..) ?_;kernel_rfl) (by decide+kernel) (by decide+kernel) (by decide+kernel)
  (by first| exact .inl (by decide+kernel)| exact .inr (by decide+kernel)) (by refine aa (eE ..) ?_;kernel_rfl)
theorem OE:i_ jl "method_descriptor.__get__" =some bE.«method_descriptor.__get__»:=oG (by kernel_rfl)
theorem Mm(a b c:af):gj "method_descriptor.__get__" ⟨[a,b,c],[]⟩:=by delta gj;kernel_rfl
theorem H4:iz "wrapper_descriptor" "__get__" "wrapper_descriptor.__get__" :=
 .of (owner:="wrapper_descriptor") (n:="__get__") (by refine aa (e_ ..)<|aa (eS ..) ?_;kernel_rfl) (by decide+kernel) (by decide+kernel) (by decide+kernel)
  (by first| exact .inl (by decide+kernel)| exact .inr (by decide+kernel)) (by refine aa (eE ..) ?_;kernel_rfl)
theorem OG:i_ jl "wrapper_descriptor.__get__" =some bE.«wrapper_descriptor.__get__»:=oG (by kernel_rfl)
theorem Mn(a b c:af):gj "wrapper_descriptor.__get__" ⟨[a,b,c],[]⟩:=by delta gj;kernel_rfl
theorem TZ: ".".intercalate ("set.__contains__".cutAt '.').dropLast= "set" :=by decide+kernel
theorem VG:jJ (.type "set") (.type (".".intercalate ("set.__contains__".cutAt '.').dropLast))=pure true:=by refine aa (TZ ..)<|aa (eE ..) ?_;kernel_rfl
section
variable {prog:eA} {w:eC} {A:aO} {E:af->ai->Prop}
theorem Sf{s:ai}{a:aq}{o:bu}{R:hZ->ai->Prop}(L:s.heap.get? a=some o)(O:o.cls=.type "set")
 (h:R (.ok (.ret (.ref s.heap.objs.size))) {s with heap:=s.heap.push {cls:=.type "builtin_function_or_method",data:=.fields #[.builtin "set.__contains__",.ref a]}}):
 eU (bX prog w) A (.call (.builtin "method_descriptor.__get__") ⟨[.builtin "set.__contains__",.ref a,.type "set"],[]⟩) R s:=by
 have p:s.TypeIs (.ref a) "set" :=⟨_,L,O⟩
 have b:s.TypeIs (.builtin "set.__contains__") "method_descriptor" :=BY
 refine mK H3.plain OE (H3.check _ _ _ _ _ _ _ _ b (Mm _ _ _) ?_)
 have v:=BY
 have e:=VG
 obtain⟨T,g,d,k,os⟩:=s
 repeat (any_goals (first| assumption| wp_step))
theorem O_{s:ai}{a:aq}{o:bu}{f:de}{Q:xY->ai->Prop}(L:s.heap.get? a=some o)(O:o.cls=.type "set")(P:o.dict=none){u:Array (Int×af)}{y:Nat}{m:CU}(e:o.data=.set u y m)
 (h:Q (.done (.ret (.ref s.heap.objs.size))) {s with heap:=s.heap.push {cls:=.type "builtin_function_or_method",data:=.fields #[.builtin "set.__contains__",.ref a]}}):
 ar (bX prog w) A (bE.«object.__getattribute__» ⟨[.ref a,.str "__contains__" f],[]⟩) Q E s:=by
 obtain⟨c,q,z,H⟩:=o
 simp only at O P e
 subst O P e
 have p:s.TypeIs (.ref a) "set" :=⟨_,L,rfl⟩
 have r:=F.slot_set_contains.lookup
 have v:=BY
 have C:=Rz
 have S:=RB
 have b:=Rx
 obtain⟨T,g,d,k,os⟩:=s
 delta bE.«object.__getattribute__»
 repeat (any_goals (first| assumption| wp_step))
 exact Sf L rfl (aD h)
theorem Pb{s:ai}{a:aq}{o:bu}{expr:Bool}{Q:af->ai->Prop}(L:s.heap.get? a=some o)(O:o.cls=.type "set")(P:o.dict=none){u:Array (Int×af)}{y:Nat}{m:CU}(e:o.data=.set u y m)
 (h:∀f,Q (.ref s.heap.objs.size) {s with heap:=s.heap.push {cls:=.type "builtin_function_or_method",data:=.fields #[.builtin "set.__contains__",.ref a]},toks:=f}):
 ar (bX prog w) A (kS (.ref a) "__contains__" expr) Q E s:=by
 obtain⟨T,g,d,f,os⟩:=s
 obtain⟨c,q,z,H⟩:=o
 simp only at O P e
 subst O P e
 have p:∀k,(⟨T,g,d,k,os⟩:ai).TypeIs (.ref a) "set" :=λZ=>⟨_,L,rfl⟩
 have C:=F.slot_set_getattribute.lookup
 have S:=F.slot_set_getattribute.bind (.ref a)
 have b:(expr && Hc (rO "set.__getattribute__"))=false:=tR _
 delta kS E6
 repeat (any_goals (first| assumption| exact p _| ((with_reducible show ar _ _ (rV _ _ _ _) _ _ _);delta rV;refine aa (b ..)<|aa (if_neg (by decide)) ?_;delta DF)|
  ((with_reducible show ar _ _ (bM (rO "set.__getattribute__") _ _) _ _ _);refine jT (mK F.slot_set_getattribute.plain entry_set_ga (F.slot_set_getattribute.check _ _ _ _ _ _ _ _ (p _) (F.args_set_getattribute_2 _ _) (O_ L rfl rfl rfl ?_))))| wp_step))
 exact h _
end
end
section
section
variable {W:Wd} {A:aO} {E:af->ai->Prop}
theorem QA{s:ai}{a:aq}{x:aj}{t:de}{S:aj->Bool}{n:Nat}{Q:xY->ai->Prop}(V:s.heap.SetOf (strKind W.prog W.w) a S n)(h:∀f,Q (.done (.ret (.bool (S x)))) {s with toks:=f}):
 ar W.M A (bE.«frozenset.__contains__» ⟨[.ref a,.str x t],[]⟩) Q E s:=by
 have u:(strKind W.prog W.w).is x (.str x t)=true:=jI x t
 delta bE.«frozenset.__contains__» Jh
 simp only [List.isEmpty_nil,bind_assoc]
 delta Jg Xk setContains
 refine ah (aD ?_)
 try dsimp only
 refine ah (aD ?_)
 try dsimp only
 refine ah (wM ?_)
 refine bz ?_
 refine ah ((strKind W.prog W.w).pyHash u ?_)
 refine ah (wpAny_setFind_of (s:={s with toks:=s.toks+1}) u rfl V λr m=>?_)
 refine aD ?_
 show ar _ _ (ret (n9 r.isSome)) _ _ _
 exact aa (m ..)<|wpAny_pure (h _)
theorem Nt{s:ai}{a b:aq}{x:aj}{t:de}{S:aj->Bool}{n:Nat}{Q:af->ai->Prop}(hb:s.heap.get? b=some {cls:=.type "builtin_function_or_method",data:=.fields #[.builtin "set.__contains__",.ref a]})
 (V:s.heap.SetOf (strKind W.prog W.w) a S n) (h:∀f,Q (.bool (S x)) {s with toks:=f}):ar W.M A (bM (.ref b) [.str x t]) Q E s:=by
 refine jT (uE ?_)
 show ar _ _ (uz (.ref b) _) _ _ _
 delta uz
 refine ah (nG hb ?_)
 dsimp only
 refine aa (if_pos (by decide+kernel)) ?_
 have p:=V.typeIs
 have O:ar W.M A.in1 (yO "set.__contains__" ⟨[.ref a,.str x t],[]⟩) (λZ i=>i=s) (λZ Z=>False) s:=by
  delta yO
  obtain⟨o,u,y,m,L,D,P,-⟩:=id V
  have j:=D.1
  obtain⟨c,q,z,H⟩:=o
  dsimp only at j P
  subst j P
  obtain⟨T,g,d,k,os⟩:=s
  have r:jJ (.type "set") (.type "module")=pure false:=by refine aa (eE ..) ?_;kernel_rfl
  have v:jJ (.type "set") (.type "type")=pure false:=by refine aa (eE ..) ?_;kernel_rfl
  have C:(Manifest.varargsMethods.contains "set.__contains__" || false)=false:=by decide+kernel
  repeat (any_goals (first| assumption| (refine aa (C ..)<|aa (if_neg (by decide)) ?_)| ((with_reducible show ar _ _ (I_ _ _ _) _ _ _);refine hK (a:=()) (by kernel_rfl) rfl)| wp_step))
 refine ah (gW O (λZ i e=>?_) λZ Z x=>x.elim)
 subst e
 exact aD ⟨xa _ (by decide+kernel),fN entry_set_contains (by
  exact aa (gH F.slot_set_contains.plain _ ..)<|QA V h)⟩
end
end
section
section
variable {W:Wd} {A:aO}
structure jW(W:Wd)(h:aN)(fo b a li l:aq)(items:Array af)(S:List aj)(j:Nat):Prop where
 fo:h.get? fo=some {cls:=.type "filter",data:=.fields #[.ref b,.ref li]}
 li:h.IsListIter li l j
 l:h.IsList l items
 b:h.get? b=some {cls:=.type "builtin_function_or_method",data:=.fields #[.builtin "set.__contains__",.ref a]}
 a:∃n,h.SetOf (strKind W.prog W.w) a (λq=>decide (q∈S)) n
theorem wF{a b:String}(h:a≠b):kF a≠kF b:=λe=>h (X9 e)
theorem vP{h:aN}{a b:aq}{o C:bu}{c:af}(K:h.get? a=some o)(hb:h.get? b=some C)(O:C.cls=c)(G:o.cls≠c):a≠b:=λe=>G ((congrArg Obj.cls (aM (K.symm.trans (e▸hb)))).trans O)
theorem jW.but{h h':aN}{fo b a H l:aq}{z:Array af}{S:List aj}{j F:Nat}(x:jW W h fo b a H l z S j)(B:ly H h h')(hl:h'.IsListIter H l F):jW W h' fo b a H l z S F:=
 bI x.li λZ N v Z=>⟨B _ _ (vP x.fo N v (wF (by decide))) x.fo,hl,aw x.l λo e r=>⟨o,B _ _ (vP e N v (r.1▸wF (by decide))) e,r⟩,B _ _ (vP x.b N v (wF (by decide))) x.b,
  aL x.a λn k=>wQ k λo u y m e c r=>⟨n,o,u,y,m,B _ _ (vP e N v (c.1▸wF (by decide))) e,c,r⟩⟩
theorem uR{ps:List (aj×de)}{j:Nat}{p:aj->Bool}(F:j<ps.length):((ps.drop j).map (·.1)).filter p=if p ps[j].1 then ps[j].1::((ps.drop (j+1)).map (·.1)).filter p else ((ps.drop (j+1)).map (·.1)).filter p:=
 aa (Ce F) nY
theorem OQ{ps:List (aj×de)}{j:Nat}{p:aj->Bool}(h:ps.length - j=0):((ps.drop j).map (·.1)).filter p= []:=aa (List.drop_eq_nil_iff.mpr (pS h)) rfl
theorem EP{fo b a H l:aq}{z:Array af}{S:List aj}{ps:List (aj×de)}(T:z.toList=iP ps){R:hZ->ai->Prop}{j:Nat}{s:ai}(F:j<ps.length)(U:jW W s.heap fo b a H l z S j)
 (m:decide (ps[j].1∈S)=true->∀h' f,jW W h' fo b a H l z S (j+1)->hO H s.heap h'->R (.ok (.ret (.str ps[j].1 ps[j].2))) {s with heap:=h',toks:=f})
 (g:decide (ps[j].1∈S)=false->∀h' f,jW W h' fo b a H l z S (j+1)->hO H s.heap h'->eU W.M A (.builtin "filter.__next__" ⟨[.ref fo],[]⟩) R {s with heap:=h',toks:=f}):
 eU W.M A (.builtin "filter.__next__" ⟨[.ref fo],[]⟩) R s:=by
 refine fN Ez ?_
 refine aa (gH sZ _ ..) ?_
 unfold bE.«filter.__next__»
 refine ah (hK (a:=(eB fo,([]:List af))) rfl ?_)
 refine ah (ir U.fo rfl rfl ?_)
 refine ah (ir U.fo rfl rfl ?_)
 refine ah (Ga U.li U.l (Io T F) λh' h B=>?_)
 dsimp only
 have E:=U.but B.extBut h
 refine aL E.a λn V=>?_
 refine ah (bz ?_)
 refine aa (if_neg (by nofun)) ?_
 refine ah (Nt (s:={s with heap:=h'}) E.b V λf=>?_)
 refine bz (IU ?_)
 induction P:decide (ps[j].1∈S) with
 | true=>exact aD (m P h' f E B)
 | false=>exact aD ⟨g_ sZ _,g P h' f E B⟩
theorem EO{fo b a H l:aq}{z:Array af}{S:List aj}{ps:List (aj×de)}(T:z.toList=iP ps){q:aj}{c:List aj}{R:hZ->ai->Prop}:
 ∀(k j:Nat) (s:ai),ps.length - j=k->jW W s.heap fo b a H l z S j->((ps.drop j).map (·.1)).filter (λx=>decide (x∈S))=q::c->
   (∀h' tk t F,jW W h' fo b a H l z S F->((ps.drop F).map (·.1)).filter (λx=>decide (x∈S))=c->hO H s.heap h'->R (.ok (.ret (.str q t))) {s with heap:=h',toks:=tk})->
   eU W.M A (.builtin "filter.__next__" ⟨[.ref fo],[]⟩) R s
 | 0,j,s,C,U,I,r=>nomatch (OQ C).symm.trans I
 | k+1,j,s,C,U,I,r=>EP T (kX C) U
  (λP h' tk E B=>aA (rz (((uR (kX C)).trans (if_pos P)).symm.trans I)) λV Q=>V▸r h' tk _ (j+1) E Q B)
  (λP h' tk E B=>EO T k (j+1) _ (m5 C) E (((uR (kX C)).trans (if_neg (by rw [P];nofun))).symm.trans I) λL g i h f e d=>r L g i h f e (B.trans d))
theorem EN{fo b a H l:aq}{z:Array af}{S:List aj}{ps:List (aj×de)}(T:z.toList=iP ps){R:hZ->ai->Prop}(Z:A.handled=none):
 ∀(k j:Nat) (s:ai),ps.length - j=k->jW W s.heap fo b a H l z S j->((ps.drop j).map (·.1)).filter (λx=>decide (x∈S))= []->
   (∀h' f e,ly H s.heap h'->s.heap.objs.size<=h'.objs.size->({s with heap:=h',toks:=f}:ai).TypeIs (.ref e) "StopIteration" ->R (.error (.ref e)) {s with heap:=h',toks:=f})->
   eU W.M A (.builtin "filter.__next__" ⟨[.ref fo],[]⟩) R s
 | 0,j,s,C,U,I,r=>by
  refine fN Ez ?_
  refine aa (gH sZ _ ..) ?_
  unfold bE.«filter.__next__»
  refine ah (hK (a:=(eB fo,([]:List af))) rfl ?_)
  refine ah (ir U.fo rfl rfl ?_)
  refine ah (ir U.fo rfl rfl ?_)
  exact ah (F_ Z U.li U.l (tO (aE (bN (strs_size T)) (pS C))) λh' e B J p=>r h' s.toks e B J p)
 | k+1,j,s,C,U,I,r=>EP T (kX C) U
  (λP h' f E B=>nomatch ((uR (kX C)).trans (if_pos P)).symm.trans I)
  (λP h' f E B=>EN T Z k (j+1) _ (m5 C) E (((uR (kX C)).trans (if_neg (by rw [P];nofun))).symm.trans I) λL g e d J p=>r L g e (λb ob hb e=>d b ob hb (B.extBut b ob hb e)) (by exact aa (.symm (B.1 ..))<|J) p)
end
end
section
section
variable {W:Wd} {n:Nat} {si:SI}
def xi(W:Wd)(σ:MH)(fo b a H l:aq)(d:D)(I S:List aj):Gh->aN->List D->Prop:=λG h xs=>
 ∃j,h.get? fo=some {cls:=.type "filter",data:=.fields #[.ref b,.ref H]}/\h.IsListIter H l j/\h.get? b=some {cls:=.type "builtin_function_or_method",data:=.fields #[.builtin "set.__contains__",.ref a]}/\
  (∃n,h.SetOf (strKind W.prog W.w) a (λq=>decide (q∈S)) n)/\bJ W G b/\bJ W G a/\Rep W G h (.ref l) d/\bU σ d=some (I.map .str)/\xs=((I.drop j).filter (λx=>decide (x∈S))).map .str
theorem Il:∀I:List aj,strsOf (I.map .str)=some I
 | []=>rfl
 | y::I=>by show(strsOf (I.map .str)).bind _=_;exact aa (Il I ..) rfl
theorem xi.at{σ:MH}{fo b a H l:aq}{d:D}{I S:List aj}{G:Gh}{s:ai}{xs:List D}(st:St W G s σ)(h:xi W σ fo b a H l d I S G s.heap xs):
 ∃items ps j,jW W s.heap fo b a H l items S j/\bJ W G b/\bJ W G a/\Rep W G s.heap (.ref l) d/\bU σ d=some (I.map .str)/\items.toList=iP ps/\ps.map (·.1)=I/\xs=(((ps.drop j).map (·.1)).filter (λx=>decide (x∈S))).map .str:=by
 refine IV h λj m E A o O c e g i=>?_
 have k:=e
 generalize N:eB l=v at e
 revert N
 refine fL st e g λ{M P} hl f Z=>λN=>?_
 obtain rfl:=jA N
 exact aw (Bd f _ (Il I)) λps n T=>⟨P,ps,j,⟨m,E,hl,A,o⟩,O,c,k,g,n,T.symm,by exact aa (i ..)<|aa (T ..)<|aa (.symm (xx ..)) rfl⟩
theorem ju.filter{σ:MH}{fo b a li l:aq}{d:D}{ys S:List aj}(J:∀y∈ys,fB y=true):ju W n σ fo (λx=>x=li∨x=fo) (xi W σ fo b a li l d ys S) where
 item:=λ{A G s x xs} rm st Z L m=>by
  refine qS (m.at st) λz ps j N h2 E o O c i g=>?_
  have v:s.TypeIs (.ref fo) "filter" :=⟨_,N.fo,rfl⟩
  refine eQ (List.map_eq_cons_iff.mp g.symm) λq qs H e1 e2=>?_
  subst e1;subst e2
  have X:fB q=true:=by
   refine J q ?_
   refine aa (.symm (i ..)) ?_
   exact aw (List.mem_map.mp (List.mem_filter.mp (H▸a0)).1) λp Q V=>List.mem_map.mpr ⟨p,xC Q,V⟩
  unfold f7
  refine ah (tE (ph (name:=au "__next__") v tj ?_))
  refine jT (NX (g_ sZ _) (tj.check _ _ _ _ _ _ _ _ v (Dk _) ?_))
  have run:=EO (W:=W) (A:=A) c (R:=λr s'=>∃h' f t F,r=.ok (.ret (.str q t))/\s'= {s with heap:=h',toks:=f}/\jW W h' fo b a li l z S F/\((ps.drop F).map (·.1)).filter (λx=>decide (x∈S))=qs/\hO li s.heap h') (ps.length - j) j s rfl N H
   λh' f t F U I B=>⟨h',f,t,F,rfl,rfl,U,I,B⟩
  refine g6 run λr s' Y=>BG Y λh' f t F er u U I B=>?_
  subst er u
  refine aA (kZ (tk:=f) st (L li (.inl rfl)).1 B) λw P=>?_
  have C:=P.ea λb e=>by subst e;exact(L _ (.inl rfl)).1
  refine aA (kY X) λc1 c2=>?_
  refine aw U.li λob q1 q2=>?_
  exact aD ⟨_,G,rfl,P.weaken λZ x=>.inl x,w,⟨F,U.fo,U.li,U.b,U.a,h2,E,o.keep C,O,by exact aa (.symm (i ..))<|aa (.symm (xx ..))<|aa (I ..) rfl⟩,.str _ _ c1 c2⟩
 done:=λ{A G s} rm st Z L m=>by
  refine qS (m.at st) λz ps j N h2 E o O c i g=>?_
  have v:s.TypeIs (.ref fo) "filter" :=⟨_,N.fo,rfl⟩
  have H:((ps.drop j).map (·.1)).filter (λx=>decide (x∈S))= []:=List.map_eq_nil_iff.mp g.symm
  unfold f7
  refine ah (tE (ph (name:=au "__next__") v tj ?_))
  refine jT (NX (g_ sZ _) (tj.check _ _ _ _ _ _ _ _ v (Dk _) ?_))
  refine EN (W:=W) (A:=A) c rm.2.2.2 (ps.length - j) j s rfl N H λh' f e B hz hT=>?_
  refine ah (Bv (T:="StopIteration") (b:=true) hT zN ?_)
  refine aA (st.gp (s':={s with heap:=h',toks:=f}) (M:=λb=>b=li) (λb e=>by subst e;exact(L _ (.inl rfl)).1) (λb ob hb e=>B b ob hb e) hz rfl rfl) λw P=>?_
  exact aD ⟨rfl,G,P.weaken λZ x=>.inl x,w⟩
 shift:=λ{G h G' h' xs} m K L=>IV m λj N hl E o O c i g h9=>aw hl λob q1 q2=>aL o λn k=>wQ k λos u ep tb x5 x6 x7=>
  have k4:=K.bq _ _ E O
  have k5:=K.bq _ _ x5 c
  ⟨j,L _ _ (.inr rfl) N,⟨ob,L _ _ (.inl rfl) q1,q2⟩,k4.2,⟨n,os,u,ep,tb,k5.2,x6,x7⟩,k4.1,k5.1,i.keep K,g,h9⟩
end
end
section
section
variable {W:Wd} {n:Nat} {si:SI}
theorem Im:∀{xs:List D} {I},strsOf xs=some I->xs=I.map .str
 | [],_,e=>sj e rfl
 | d::j,I,e=>ob e λi w e=>ob e λa F e=>sj e (by exact aa (D.Ih w ..)<|aa (Im F ..) rfl)
noncomputable def r_ (b H:aq):bu:={cls:=.type "filter",data:=.fields #[.ref b,.ref H]}
noncomputable def qi (l:aq):bu:={cls:=.type "list_iterator",data:=.fields #[.ref l,.int 0 0]}
theorem Rt{A G}{s:ai}{σ:MH}{b a l:aq}{d:D}{I S:List aj}(rm:br (n+4) A)(st:St W G s σ)(fo:Fo A G s.heap)
 (hb:s.heap.get? b=some {cls:=.type "builtin_function_or_method",data:=.fields #[.builtin "set.__contains__",.ref a]}) (ha:∃n,s.heap.SetOf (strKind W.prog W.w) a (λq=>decide (q∈S)) n) (fb:bJ W G b) (fa:bJ W G a)
 (r:Rep W G s.heap (.ref l) d) (hl:bU σ d=some (I.map .str)) (z:I.all fB=true) (hz:I.length<=aP):
 ar W.M A (bM (.type "list") [.ref (s.heap.objs.size+1)]) (dy W G s (.list ((I.filter λx=>decide (x∈S)).map .str),σ)) aF {s with heap:=(s.heap.push (qi l)).push (r_ b s.heap.objs.size)}:=by
 have c:∀(h:aN) (o:bu),(h.push o).objs.size=h.objs.size+1:=λh o=>c9 ..
 let T:aN:=(s.heap.push (qi l)).push (r_ b s.heap.objs.size)
 have u:T.get? (s.heap.objs.size+1)=some (r_ b s.heap.objs.size):=nT (by exact aa (c ..) rfl) rfl
 have H:T.get? s.heap.objs.size=some (qi l):=bH _ (nT rfl rfl)
 have hsz:T.objs.size=s.heap.objs.size+2:=by exact aa (c ..)<|aa (c ..) rfl
 have m:∀b o,s.heap.get? b=some o->T.get? b=some o:=λb o e=>bH _ (bH _ e)
 have O:s.heap.objs.size<=T.objs.size:=by exact aa (hsz ..)<|Nat.le_add_right _ _
 have J:s.heap.objs.size<=(T.push f6).objs.size:=by exact aa (c ..)<|Nat.le_succ_of_le O
 let own:aq->Prop:=λb=>b=s.heap.objs.size∨b=s.heap.objs.size+1
 have U:∀b,own b->s.heap.objs.size<=b/\b<T.objs.size:=λb hb=>by
  exact aa (hsz ..)<|hb.elim (λq=>by exact aa (q ..)<|⟨bb _,ff (by decide)⟩) λq=>by exact aa (q ..)<|⟨dD _,gZ (by decide) _⟩
 refine aA (jE (b3:={s with heap:=T}) (M:=own) st U m O rfl rfl) λR i=>?_
 have Y:=i.bq _ _ hb fb
 obtain⟨na,so,es,ep,tb,P,K⟩:=ha
 have f:=i.bq _ _ P fa
 have j:Fo A {G with fr:=λb=>G.fr b∨own b} T:=aw fo λfs e k=>⟨fs,e,λy V=>aA (k y V) λk1 N=>dG N λL k2 k3 k4 Q=>aw Q λo k5 k6=>⟨k1,L,k2,.inl k3,k4,o,m _ _ k5,k6⟩⟩
 have it:=ju.filter (W:=W) (n:=n+1) (σ:=σ) (fo:=s.heap.objs.size+1) (b:=b) (a:=a) (li:=s.heap.objs.size) (l:=l) (d:=d) (ys:=I) (S:=S) λy V=>List.all_eq_true.mp z y V
 refine bD (Ru (s:={s with heap:=T}) (n:=n+1) (xs:=(I.filter λx=>decide (x∈S)).map .str) ⟨it,⟨QR,rfl,λhh q=>UY ⟨_,hh,rfl⟩ q⟩,u,R,j,λb hb=>⟨hb.elim (λq=>.inr (.inl q)) λq=>.inr (.inr q),λy=>absurd (st.inv.b0 b (st.inv.b8 b y)).2.1 (Nat.not_lt.mpr (U b hb).1)⟩,
  ⟨0,u,⟨_,H,rfl,rfl⟩,Y.2,⟨na,so,es,ep,tb,f.2,K⟩,Y.1,f.1,r.keep i,hl,rfl⟩,by exact aa (aZ ..)<|Nat.le_trans (iX _ _) hz⟩ rm) λv s' X=>aA X λev t=>bI t λG' C g c'=>?_
 subst ev
 have F:G'.fr=λb=>(G.fr b∨own b)∨b=T.objs.size:=C.fr
 have E:∀b,G'.ou b->G.fr b:=λb y=>st.inv.b8 b (by exact aa (.symm (show G'.ou=G.ou from C.ou))<|y)
 refine aA (kV (fr:=λb=>G.fr b∨b=T.objs.size) g (λb x=>by exact aa (F ..)<|x.elim (λy=>.inl (.inl y)) .inr) λb y=>.inl (E b y)) λB p=>?_
 exact⟨{G' with fr:=λb=>G.fr b∨b=T.objs.size},T.objs.size,rfl,O,rfl,Step.drop (fq:=G) (G':=G') (own:=own) (λb o e=>bH _ (m b o e)) (λb y=>(U b y).1) O J C,B,c'.lT p (λZ e=>e),λx=>absurd (st.inv.b0 _ x).2.1 (Nat.not_lt.mpr O),E⟩
theorem bG.oL{c a:ay}{p p1 H ap pos m k f F}(ok:W.Ok)(B:iv W si "list" (.type "list"))(B1:iv W si "filter" (.type "filter"))(B2:iv W si "set" (.type "set"))
 (iL:Ev W (n+4) si a F) (fy:Ev W (n+4) si c f) (O:∀J,bB [a] J= [(false,aU a J)])
 (Pu:∀J,iE (.Call (.Name (au "set") H) [a] [] k) "__contains__" J (aU (.Call (.Name (au "set") H) [a] [] k) J)=aU (.Call (.Name (au "set") H) [a] [] k) J)
 (N:∀J,bB [.Attribute (.Call (.Name (au "set") H) [a] [] k) "__contains__" ap,c] J= [(false,aU (.Attribute (.Call (.Name (au "set") H) [a] [] k) "__contains__" ap) J),(false,aU c J)])
 (C:∀J,bB [c] J= [(false,aU c J)])
 (hx:∀J,bB [.Call (.Name (au "filter") p1) [.Attribute (.Call (.Name (au "set") H) [a] [] k) "__contains__" ap,c] [] m] J= [(false,aU (.Call (.Name (au "filter") p1) [.Attribute (.Call (.Name (au "set") H) [a] [] k) "__contains__" ap,c] [] m) J)]):
 bG W (n+4) si (.Call (.Name (au "list") p) [.Call (.Name (au "filter") p1) [.Attribute (.Call (.Name (au "set") H) [a] [] k) "__contains__" ap,c] [] m] [] pos) (.oL F f):=λ{A J M G s ρ σ r} rm st Fr h=>
 ob h λq2 e2 h=>ob h λYo P0 h=>ob h λS Qf h=>ob h λq1 e1 h=>ob h λYn X h=>ob h λys Qe h=>og h λhc h=>sj h (by
  obtain rfl:=Im Qe
  refine aa (jB ..) ?_
  refine ah (g8 ok st Fr B.hk B.hb (.inr ⟨B.hg,B.hm⟩) (j7 rfl (kH (by exact aa (hx ..) rfl)) (oI (λJ=>by exact aa (hx ..) rfl) (l8 ?_ (by exact aa (hx ..) rfl)))))
  refine aa (jB ..) ?_
  refine ah (g8 ok st Fr B1.hk B1.hb (.inr ⟨B1.hg,B1.hm⟩) (j7 rfl (kH (by exact aa (N ..) rfl)) (oI (λJ=>by exact aa (N ..) rfl) (l8 ?_ (by exact aa (N ..)<|aa (C ..) rfl)))))
  refine aa (uk ..)<|aa (Pu ..)<|aa (jB ..) ?_
  refine ah (ah (g8 ok st Fr B2.hk B2.hb (.inr ⟨B2.hg,B2.hm⟩) (j7 rfl (kH (by exact aa (O ..) rfl)) (oI (λJ=>by exact aa (O ..) rfl) (l8 (bR iL rm st Fr e2 λ{j ak Br} P w Q UQ=>qM ?_) (by exact aa (O ..) rfl))))))
  refine fL w UQ P0 λ{l2 IK} Qy UN z2=>?_
  refine aw (Bd UN _ Qf) λYi Hi Hj=>?_
  have Qi:IK.size+1<qu:=by
   have e:IK.size=S.length:=by rw [← I6,Hi,Hj,aZ];exact aZ ..
   exact aa (e ..)<|Nat.lt_of_lt_of_le (xM hc.1) (dO rfl)
  refine Nv (W:=W) Hi Qy rm.2.2.2 Qi λE VY c2 i V=>?_
  rw [← Hj] at i
  refine ah (cQ (ah (bz ?_)))
  refine BF (id i) λso es ep tb L D Fv Qg=>?_
  refine Pb (s:={ak with heap:=E,toks:=VY}) L D.1 D.2.1 Fv λVZ=>ah (tG (aD ?_))
  let bo:bu:={cls:=.type "builtin_function_or_method",data:=.fields #[.builtin "set.__contains__",.ref ak.heap.objs.size]}
  let h3:aN:=E.push bo
  have Y:ak.heap.objs.size<E.objs.size:=b9 L
  have Qm:h3.objs.size=E.objs.size+1:=c9 ..
  refine aA (w.gp (s':={ak with heap:=h3,toks:=VZ}) (M:=bf) (λZ x=>x.elim) (λb o Z e=>bH _ (V b o e)) (by exact aa (Qm ..)<|Nat.le_succ_of_le (jy Y)) rfl rfl) λK z=>?_
  have g:aT W A j h3 si J M ρ:=Q.go w.inv z
  have fz:∀b,ak.heap.objs.size<=b->bJ W j b:=λb hb=>⟨λx=>absurd (w.inv.cn _ x).2.1 (Nat.not_lt.mpr hb),λx=>absurd (w.inv.b0 _ x).2.1 (Nat.not_lt.mpr hb),λq=>absurd (a9 (q▸w.inv.eO) w.inv.size) (Nat.not_lt.mpr hb)⟩
  refine l8 (bR fy rm K g e1 λ{U T Bq} u t R I=>qM ?_) (by exact aa (C ..) rfl)
  have y:=u.ea λZ x=>x.elim
  have gb:=y.bq _ bo (nT rfl rfl) (fz E.objs.size (jy Y))
  have ga:=y.bq _ so (bH _ L) (fz ak.heap.objs.size (bb _))
  have l:=I
  refine oh (motive:=λv=>Rep W U T.heap v q1.1->ar W.M A (bM (.type "filter") [.ref E.objs.size,v] []) _ _ _) t I X (λ{l1 o1 Wn k1} g1 g2 Z g4 Z Z l=>?_) l
  refine DU Nw (by decide) (Wa _ _) (SM _ _) (λobj=>Dl obj _ _) OA (Sh (.ref E.objs.size) l1 Wn k1 o1.dict o1.slots) ⟨vu g1 g2 g4,?_⟩
  have PK:((T.heap.push (qi l1)).push (r_ E.objs.size T.heap.objs.size)).get? (T.heap.objs.size+1)=some (r_ E.objs.size T.heap.objs.size):=nT (by exact aa (c9 ..) rfl) rfl
  refine⟨⟨_,PK,rfl⟩,qM (bD (Rt (d:=q1.1) (S:=S) rm t R.ku gb.2 ⟨c2,so,es,ep,tb,ga.2,D,Fv,Qg⟩ gb.1 ga.1 l X hc.2.1 hc.2.2) λv s' o=>dy.trans ((P.trans z).trans u) o)⟩)
end
end
section
section
variable {prog:eA} {w:eC} {A:aO} {E:af->ai->Prop}
theorem Rf(k:Bool):layNew (.fresh 0 0 k) #[] 1 (.bool true)=(#[(1,.bool true)],jP k,false,false):=by
 induction k<;>decide+kernel
theorem O7(k:Bool):(jP k).tooFull=false:=by induction k<;>decide+kernel
theorem sa(k:Bool):((jP k).place.size !=(#[(1,n9 true)]:Array (Int×af)).size|| (jP k).fill>(jP k).mask)=false:=by induction k<;>decide+kernel
theorem L6{s:ai}{a:aq}{k:Bool}{Q:Bool->ai->Prop}(L:s.heap.get? a=some (i3 k false))(h:∀h',h'.get? a=some (i3 k true)->hO a s.heap h'->Q true {s with heap:=h'}):
 ar (bX prog w) A (A1 a (.bool true) 1) Q E s:=by
 obtain⟨T,g,d,f,os⟩:=s
 unfold i3 at L
 dsimp only at L
 unfold A1
 refine bz ?_
 unfold U5 HT
 refine ah (ah (nG L ?_))
 dsimp only
 rw [if_neg (by induction k<;>decide)]
 refine aD ?_
 dsimp only
 rw [if_pos (by decide+kernel)]
 unfold U4
 refine ah (ah (nH ?_))
 unfold setScan setScanFrom
 dsimp only
 refine ah (aD ?_)
 rw [Rf]
 dsimp only
 refine ah (aD ?_)
 rw [if_pos (show(jP k).plain=true from rfl)]
 refine ah (aD ?_)
 rw [if_pos rfl]
 unfold storeSet
 refine ah (ah (nG L ?_))
 dsimp only
 rw [if_neg (by decide+kernel)]
 refine wpAny_update L ?_
 rw [if_neg (by rw [O7];decide)]
 refine aD (aD (h _ ?_ (ft ..)))
 exact eI _ L rfl
theorem L5{s:ai}{a:aq}{k:Bool}{Q:Bool->ai->Prop}(L:s.heap.get? a=some (i3 k true))(h:Q false s):
 ar (bX prog w) A (A1 a (.bool true) 1) Q E s:=by
 obtain⟨T,g,d,f,os⟩:=s
 unfold i3 at L
 dsimp only at L
 unfold A1
 refine bz ?_
 unfold U5 HT
 refine ah (ah (nG L ?_))
 dsimp only
 rw [if_neg (by rw [sa];decide)]
 refine aD ?_
 dsimp only
 rw [if_pos (by decide+kernel)]
 unfold U4
 refine ah (ah (nH ?_))
 unfold setScan setScanFrom
 dsimp only
 rw [if_pos (by decide)]
 unfold setEpoch HT
 refine ah (ah (ah (ah (nG L ?_))))
 dsimp only
 rw [if_neg (by rw [sa];decide)]
 refine aD (aD ?_)
 have e:ar (bX prog w) A (eqBool (.bool true) (.bool true)) (λb i=>b=true/\i=⟨T,g,d,f,os⟩) (λZ Z=>False) ⟨T,g,d,f,os⟩:=by
  unfold eqBool
  repeat (any_goals (first| assumption| wp_step))
  exact⟨rfl,rfl⟩
 refine ah (gW e (λb i B=>aA B λV c=>?_) λZ Z x=>x.elim)
 subst V c
 rw [if_pos rfl]
 exact aD (aD (aD h))
theorem Pt{s:ai}{Q:Int->ai->Prop}(h:∀tk,Q 1 {s with toks:=tk}):ar (bX prog w) A (pyHash (.bool true)) Q E s:=by
 have p:∀i:ai,i.TypeIs (.bool true) "bool" :=λZ=>rfl
 have r:=F.slot_bool_hash.lookup
 have v:=F.slot_bool_hash.bind (.bool true)
 obtain⟨T,g,d,tk,os⟩:=s
 unfold pyHash
 repeat (any_goals (first| assumption| exact p _| ((with_reducible show ar _ _ (callSpecialIfBoundUnlessNone? _ _ _) _ _ _);refine wpAny_callSpecialIfBoundUnlessNone?_slot (p _) JI (kz JI (p _) F.entry_int_hash ?_ (by unfold gj;kernel_rfl)))| wp_step))
 exact⟨_,rfl,hK (a:=(1:Int)) (by kernel_rfl) (h _)⟩
theorem Ta{s:ai}{a:aq}{o:bu}{Q:Bool->ai->Prop}(L:s.heap.get? a=some o)(O:o.cls=.type "set")(h:Q false s):ar (bX prog w) A (GZ (.ref a)) Q E s:=by
 have p:s.TypeIs (.ref a) "set" :=⟨o,L,O⟩
 have r:=F.slot_set_iter.lookup
 unfold GZ
 refine ah (qP p r ?_)
 exact aD h
theorem OF:i_ jl "set.__iter__" =some bE.«frozenset.__iter__»:=
 zf (id':="frozenset.__iter__") (by kernel_rfl) (by first| rfl| decide+kernel) (by decide+kernel) (by kernel_rfl)
theorem RD:gr (.type "set_iterator") "__next__" =pure (some (.builtin "set_iterator.__next__")):=by rw [e_,eS];kernel_rfl
theorem wu:iz "set_iterator" "__next__" "set_iterator.__next__" :=
 .of (owner:="set_iterator") (n:="__next__") (by rw [e_,eS];kernel_rfl) (by decide+kernel) (by decide+kernel) (by decide+kernel)
  (by first| exact .inl (by decide+kernel)| exact .inr (by decide+kernel)) (by rw [eE];kernel_rfl)
theorem EC:i_ jl "set_iterator.__next__" =some bE.«set_iterator.__next__»:=oG (by kernel_rfl)
theorem Dn(a:af):gj "set_iterator.__next__" ⟨[a],[]⟩:=by unfold gj;kernel_rfl
noncomputable def nc (a:aq) (i j:Int):bu:={cls:=.type "set_iterator",data:=.fields #[.int i 0,.int j 0,.ref a,.int 1 0,.int 1 0]}
theorem Va{s:ai}{a:aq}{k:Bool}{Q:af->ai->Prop}(L:s.heap.get? a=some (i3 k true))(h:Q (.ref s.heap.objs.size) {s with heap:=s.heap.push (nc a 0 0)}):
 ar (bX prog w) A (ik (.ref a)) Q E s:=by
 have p:s.TypeIs (.ref a) "set" :=⟨_,L,rfl⟩
 have c:s.heap.get? a=some {cls:=.type "set",dict:=none,data:=.set #[(1,.bool true)] 1 (jP k)}:=L
 have I:=sa k
 refine IS p JO (kz JO p OF ?_ (by unfold gj;kernel_rfl))
 obtain⟨T,g,d,f,os⟩:=s
 unfold bE.«frozenset.__iter__»
 repeat (any_goals (first| assumption| (rw [I,if_neg (by decide)])| wp_step))
 refine l7 (aD (aD ?_))
 dsimp only
 rw [if_neg (λj=>by rw [jo] at j;exact absurd j.2 (by induction k<;>decide))]
 repeat (any_goals (first| assumption| (rw [I,if_neg (by decide)])| wp_step))
 refine⟨_,rfl,"set_iterator",_,⟨_,c5 _ rfl,rfl⟩,RD,h⟩
theorem Hl{α:Type}(f:Nat->Nat)(x:α):pickOrder f #[x]= #[x]:=
 congrArg (λk=>match [x][k]? with| some y=>Yh f 0 1 ([x].eraseIdx k) (#[].push y)| none=> #[]) (Nat.mod_one (f 0))
set_option maxHeartbeats 1000000 in
theorem Ve{s:ai}{a it:aq}{Q:Option af->ai->Prop}(i:s.heap.get? it=some (nc a 0 0))(L:s.heap.get? a=some (i3 (!w.params.followText "set-order") true))
 (h:∀h',h'.get? it=some (nc a (if w.params.followText "set-order" =true then 0 else 2) 1)->hO it s.heap h'->Q (some (.bool true)) {s with heap:=h'}):ar (bX prog w) A (f7 (.ref it)) Q E s:=by
 have p:s.TypeIs (.ref it) "set_iterator" :=⟨_,i,rfl⟩
 have t:s.heap.get? it=some {cls:=.type "set_iterator",data:=.fields #[.int 0 0,.int 0 0,.ref a,.int 1 0,.int 1 0]}:=i
 have c:s.heap.get? a=some {cls:=.type "set",dict:=none,data:=.set #[(1,.bool true)] 1 (jP (!w.params.followText "set-order"))}:=L
 have I:=sa (!w.params.followText "set-order")
 unfold f7
 refine ah (tE (ph (name:=au "__next__") p wu (kz wu p EC ?_ (Dn _))))
 obtain⟨T,g,d,f,os⟩:=s
 unfold bE.«set_iterator.__next__»
 repeat (any_goals (first| assumption| (rw [I,if_neg (by decide)])| wp_step))
 refine l7 (aD ?_)
 split
 .rename_i e
  have e:w.params.followText "set-order" =true:=e
  rw [e] at h c I
  dsimp only
  rw [if_neg (by decide)]
  unfold setWalk
  repeat (any_goals (first| assumption| (rw [I,if_neg (by decide)])| wp_step))
  refine l7 (aD ?_)
  split
  rotate_left
  .rename_i j;exact absurd e j
  refine ah (l7 (aD ?_))
  rw [Hl]
  repeat (any_goals (first| assumption| (rw [I,if_neg (by decide)])| wp_step))
  have b:=eI (lE λx=>x.setIfInBounds 0 (gE ((Kb 0:Nat):Int))) t rfl
  refine⟨_,rfl,aD (h _ ?_ ((ft ..).trans (ft ..)))⟩
  rw [eI _ b rfl]
  rfl
 .rename_i e
  have e:w.params.followText "set-order" =false:=(wX _).mp e
  rw [e] at h c I ⊢
  dsimp only
  rw [if_neg (by decide)]
  repeat (any_goals (first| assumption| (rw [I,if_neg (by decide)])| wp_step))
  have b:=eI (lE λx=>x.setIfInBounds 0 (gE ((((jP !false).place[XX (jP !false).place (Kb 0)]:Nat)+1:Nat):Int))) t rfl
  refine⟨_,rfl,aD (h _ ?_ ((ft ..).trans (ft ..)))⟩
  rw [eI _ b rfl]
  rfl
set_option maxHeartbeats 1000000 in
theorem Vd{s:ai}{a it:aq}{Q:Option af->ai->Prop}(j:A.handled=none)(k:s.heap.get? it=some (nc a (if w.params.followText "set-order" =true then 0 else 2) 1))(L:s.heap.get? a=some (i3 (!w.params.followText "set-order") true))
 (h:∀h',ly it s.heap h'->s.heap.objs.size<=h'.objs.size->Q none {s with heap:=h'}):ar (bX prog w) A (f7 (.ref it)) Q E s:=by
 have p:s.TypeIs (.ref it) "set_iterator" :=⟨_,k,rfl⟩
 have c:s.heap.get? a=some {cls:=.type "set",dict:=none,data:=.set #[(1,.bool true)] 1 (jP (!w.params.followText "set-order"))}:=L
 have I:=sa (!w.params.followText "set-order")
 unfold f7
 refine ah (tE (ph (name:=au "__next__") p wu (kz wu p EC ?_ (Dn _))))
 obtain⟨l,g,d,f,os⟩:=s
 split at k
 .rename_i e
  have t:l.get? it=some {cls:=.type "set_iterator",data:=.fields #[.int 0 0,.int 1 0,.ref a,.int 1 0,.int 1 0]}:=k
  rw [e] at c I
  unfold bE.«set_iterator.__next__»
  repeat (any_goals (first| assumption| (rw [I,if_neg (by decide)])| wp_step))
  refine l7 (aD ?_)
  split
  rotate_left
  .rename_i j;exact absurd e j
  dsimp only
  rw [if_neg (by decide)]
  unfold setWalk
  repeat (any_goals (first| assumption| (rw [I,if_neg (by decide)])| wp_step))
  refine l7 (aD ?_)
  split
  rotate_left
  .rename_i j;exact absurd e j
  refine ah (l7 (aD ?_))
  rw [Hl]
  repeat (any_goals (first| assumption| (rw [I,if_neg (by decide)])| wp_step))
  refine By (A:=A.in1) j ?_
  refine ah (Bv (T:="StopIteration") (b:=true) ⟨_,c5 _ rfl,rfl⟩ zN ?_)
  exact aD (h _ (((ft ..).extBut.push _).push _) (by simp only [c9,jt];omega))
 .rename_i e
  have e:w.params.followText "set-order" =false:=(wX _).mp e
  have t:l.get? it=some {cls:=.type "set_iterator",data:=.fields #[.int 2 0,.int 1 0,.ref a,.int 1 0,.int 1 0]}:=k
  rw [e] at c I
  unfold bE.«set_iterator.__next__»
  repeat (any_goals (first| assumption| (rw [I,if_neg (by decide)])| wp_step))
  refine l7 (aD ?_)
  split
  .rename_i i;exact absurd (e.symm.trans i) (by decide)
  dsimp only
  rw [if_neg (by decide)]
  repeat (any_goals (first| assumption| (rw [I,if_neg (by decide)])| wp_step))
  refine By (A:=A.in1) j ?_
  refine ah (Bv (T:="StopIteration") (b:=true) ⟨_,c5 _ rfl,rfl⟩ zN ?_)
  exact aD (h _ (((ft ..).extBut.push _).push _) (by simp only [c9,jt];omega))
end
end
section
section
variable {W:Wd} {n:Nat} {si:SI}
theorem Cell.DH{d i}(h:Cell.yw d=some i):d=.i0 i:=by induction d<;>first| exact aY h| exact congrArg _ (aM h)
theorem BodyOk.nC{e m}(D:Ev W n si e m):BodyOk W n si (HS e) (.nC m):=λ{A J M G s ρ σ a x u} H st F K k i q U h=>
 ob h λp V h=>ob h λd hb h=>ob h λb P h=>og h λT h=>sj h (ah (bR D H st F V λ{j ak v} S g O r=>by
  obtain rfl:=Cell.DH P
  subst T
  refine r.ot hb ?_
  have E:ak.heap.get? a=some (i3 W.led b):=U.go S (λZ y=>y.elim) (st.inv.dJ _ K) (λy=>y) k
  have l:j.fr a:=by exact aa (S.fr ..)<|K
  have o:ak.TypeIs (.ref a) "set" :=⟨_,E,by induction b<;>rfl⟩
  refine ah (cQ (ah (kz PySem.F.slot_set_add o PySem.F.entry_set_add ?_ (PySem.F.args_set_add_2 _ _))))
  show ar W.M A.in1 (bE.«set.add» ⟨[.ref a,.bool true],[]⟩) _ _ ak
  delta bE.«set.add» Jh Jg
  refine ah (hK (a:=(a,n9 true)) rfl ?_)
  dsimp only
  delta setAdd
  refine ah (bz (ah (Pt λf=>?_)))
  induction b with
  | false=>
   refine L6 (s:={ak with toks:=f}) E λh' B Q=>?_
   refine aA (kZ (tk:=f) g l Q) λN c=>?_
   exact aD ⟨_,rfl,aD ⟨j,(S.weaken λZ y=>y.elim).trans (c.weaken λZ y=>.inr y),N,O.one g c l (by exact aa (S.ou ..)<|k) i q,B⟩⟩
  | true=>exact L5 (s:={ak with toks:=f}) E (aD ⟨_,rfl,aD ⟨j,S.weaken λZ y=>y.elim,g.tok,O,E⟩⟩)))
theorem MP(G:Gh)(h:aN)(a:aq)(_:a≠iR)(e:h.get? a=some (i3 W.led false)):cg W G h a none (.i0 false):=e
theorem MQ{A:aO}{E:af->ai->Prop}{s:ai}{Q:af->ai->Prop}(h:Q (.ref s.heap.objs.size) {s with heap:=s.heap.push (i3 W.led false)}):ar W.M A (newSet (.type "set")) Q E s:=by
 delta newSet setsByText
 refine ah (ah (l7 (aD ?_)))
 dsimp only
 delta newObj
 exact ah (wpAny_alloc (aD h))
theorem bG.U7{j f q:ay}{e:List ay}{I:cR}{R:bc}{d mt bs m own}(l:W.Ok)(z:jq si I own)(B:∀J x,ib q J x=pure x)
 (w:du W n si f q d) (T:Et W n (cC si I) f mt) (Q:gv W n (cC si I) e bs) (hb:Ev W n (cC si I) j m):
 bG W n si (.SetComp j [⟨f,q,e,0⟩] I R) (.comp d mt bs (.nC m) own (.i0 false)):=
 bG.uG (g:=⟨f,q,e,0⟩) ⟨l,⟨_,rfl⟩,rfl,B,z,⟨_,MQ,rfl,MP⟩,f_.set,w,T,Q,⟨_,fw.U2,BodyOk.nC hb⟩⟩ (λZ=>⟨_,rfl⟩)
theorem Ex.qJ{x np k tp e R m}(D:bG W n si e m)(U:i7 si x=true)(B:∀J:bg,J.scope=si.sc->kq [.Tuple [.Name (au x) np] k tp] e R.line J=pure false)
 (I:∀J:bg,J.scope=si.sc->l0 [.Tuple [.Name (au x) np] k tp] e J=pure none):Ex W n si (.Assign [.Tuple [.Name (au x) np] k tp] e R) (.qJ x m):=λ{A J M G s ρ σ r} H st F h=>
 ob h λp V h=>ob h λb hb h=>og h λq h=>sj h (by
  refine aa (zi ..)<|aa (B _ F.sc ..) ?_
  refine ah (cQ (ah (aD ?_)))
  refine aa (if_neg (by decide)) ?_
  refine ah (bD (D H st F V) λv ak C=>fc C λj a e X=>?_)
  subst e
  have O:=X.cr
  rw [Cell.DH hb,q] at O
  have c:ak.heap.get? a=some (i3 (!W.w.params.followText "set-order") true):=O
  have E:=F.go st.inv X.S
  have N:=(kV (fr:=G.fr) X.st X.old X.no).1
  refine aa (I _ F.sc ..) ?_
  refine ah (aD ?_)
  show ar W.M A ((do ip tp;Bp (.ref a) [(false,iy (.Name (au x) np) J)])>>=λZ=>pure Flow.next) _ _ _
  refine ah (ah (cQ ?_))
  delta Bp unpackItems
  refine ah (bz (ah (Ta c rfl ?_)))
  refine aa (if_neg (by decide)) ?_
  refine ah (bz (Va c ?_))
  have g:∀b o,ak.heap.get? b=some o->(ak.heap.push (nc a 0 0)).get? b=some o:=λb o e=>bH _ e
  have hit:(ak.heap.push (nc a 0 0)).get? ak.heap.objs.size=some (nc a 0 0):=c5 _ rfl
  refine ah (bz ?_)
  show ar W.M A (draw (.ref ak.heap.objs.size) 1) _ _ _
  unfold draw
  refine ah (Ve (s:={ak with heap:=ak.heap.push (nc a 0 0)}) hit (g _ _ c) λh' z B=>?_)
  unfold draw
  refine ah (bz (aD (aD ?_)))
  refine aa (if_neg (show ¬ [n9 true].length< [(false,iy (Expr.Name (au x) np) J)].length from fV 1)) ?_
  refine ah (bz (Vd (s:={ak with heap:=h'}) H.2.2.2 z (B.extBut _ _ (bj (b9 c)) (g _ _ c)) λL d i=>?_))
  refine aa (if_neg (by decide)) ?_
  refine aD ?_
  have hsz:ak.heap.objs.size<=h'.objs.size:=by refine aa (B.1 ..) ?_;show _<=(ak.heap.push _).objs.size;exact aa (c9 ..)<|Nat.le_succ _
  refine aA (N.gp (s':={ak with heap:=L}) (M:=bf) (λZ x=>x.elim) (λb o Z e=>d b o (bj (b9 e)) (B.extBut _ _ (bj (b9 e)) (g b o e))) (aE hsz i) rfl rfl) λK y=>?_
  show ar W.M A (Du [iy (.Name (au x) np) J] [n9 true]) _ _ _
  delta Du
  refine ah (bz (kA (Et.name U H K (E.go N.inv y) (.bool true) (rfl:MT.name x (.bool true) ρ p.2=_)) λT f u t l=>?_))
  exact aD (aD ⟨f,((X.S.trans y).any).trans u,t,l,trivial⟩))
end
end
section
theorem OB:i_ jl "iter" =some bE.«iter»:=oG (by kernel_rfl)
theorem Ua:v8 "iter" =true:=by decide+kernel
theorem NB(a:af):yP "iter" ⟨[a],[]⟩=pure ():=by kernel_rfl
theorem wt:iz "list_iterator" "__getattribute__" "object.__getattribute__" :=
 .of (owner:="object") (n:="__getattribute__") (by refine aa (e_ ..)<|aa (eS ..) ?_;kernel_rfl) (by decide+kernel) (by decide+kernel) (by decide+kernel)
  (by first| exact .inl (by decide+kernel)| exact .inr (by decide+kernel)) (by refine aa (eE ..) ?_;kernel_rfl)
theorem Bn:tD (.builtin "list_iterator.__next__")=pure (.type "wrapper_descriptor"):=by show builtinType _=_;refine aa (builtinType_eq_fast ..) ?_;kernel_rfl
theorem RA:gr (.type "wrapper_descriptor") "__get__" =pure (some (.builtin "wrapper_descriptor.__get__")):=by refine aa (e_ ..)<|aa (eS ..) ?_;kernel_rfl
theorem RC:gr (.type "wrapper_descriptor") "__set__" =pure none:=by refine aa (e_ ..)<|aa (eS ..) ?_;kernel_rfl
theorem Ry:gr (.type "wrapper_descriptor") "__delete__" =pure none:=by refine aa (e_ ..)<|aa (eS ..) ?_;kernel_rfl
theorem TY: ".".intercalate ("list_iterator.__next__".cutAt '.').dropLast= "list_iterator" :=by decide+kernel
theorem VE:jJ (.type "list_iterator") (.type (".".intercalate ("list_iterator.__next__".cutAt '.').dropLast))=pure true:=by refine aa (TY ..)<|aa (eE ..) ?_;kernel_rfl
section
variable {prog:eA} {w:eC} {A:aO} {E:af->ai->Prop}
theorem QV{s:ai}{l:aq}{z:Array af}{Q:af->ai->Prop}(hl:s.heap.IsList l z)
 (h:Q (.ref s.heap.objs.size) {s with heap:=s.heap.push {cls:=.type "list_iterator",data:=.fields #[.ref l,.int 0 0]}}):ar (bX prog w) A (bM (.builtin "iter") [.ref l] []) Q E s:=by
 refine jT (mK Ua OB (hK (a:=()) (NB _) ?_))
 delta bE.«iter»
 refine ah (hK (a:=[eB l]) rfl ?_)
 exact ah (tH hl (aD h))
theorem Wz{s:ai}{a:aq}{o:bu}{R:hZ->ai->Prop}(L:s.heap.get? a=some o)(O:o.cls=.type "list_iterator")
 (h:R (.ok (.ret (.ref s.heap.objs.size))) {s with heap:=s.heap.push (lW a)}):
 eU (bX prog w) A (.call (.builtin "wrapper_descriptor.__get__") ⟨[.builtin "list_iterator.__next__",.ref a,.type "list_iterator"],[]⟩) R s:=by
 have p:s.TypeIs (.ref a) "list_iterator" :=⟨_,L,O⟩
 have b:s.TypeIs (.builtin "list_iterator.__next__") "wrapper_descriptor" :=Bn
 refine mK H4.plain OG (H4.check _ _ _ _ _ _ _ _ b (Mn _ _ _) ?_)
 have v:=Bn
 have e:=VE
 delta lW at h
 obtain⟨T,g,d,k,os⟩:=s
 repeat (any_goals (first| assumption| wp_step))
theorem O9{s:ai}{a l:aq}{f:de}{Q:xY->ai->Prop}(L:s.heap.get? a=some {cls:=.type "list_iterator",data:=.fields #[.ref l,.int 0 0]})
 (h:Q (.done (.ret (.ref s.heap.objs.size))) {s with heap:=s.heap.push (lW a)}):
 ar (bX prog w) A (bE.«object.__getattribute__» ⟨[.ref a,.str "__next__" f],[]⟩) Q E s:=by
 have p:s.TypeIs (.ref a) "list_iterator" :=⟨_,L,rfl⟩
 have r:=slot_listiter_next.lookup
 have v:=Bn
 have C:=RA
 have S:=RC
 have b:=Ry
 obtain⟨T,g,d,k,os⟩:=s
 delta bE.«object.__getattribute__»
 repeat (any_goals (first| assumption| wp_step))
 exact Wz L rfl (aD h)
theorem Pc{s:ai}{a l:aq}{expr:Bool}{Q:af->ai->Prop}(L:s.heap.get? a=some {cls:=.type "list_iterator",data:=.fields #[.ref l,.int 0 0]})
 (h:∀f,Q (.ref s.heap.objs.size) {s with heap:=s.heap.push (lW a),toks:=f}):
 ar (bX prog w) A (kS (.ref a) "__next__" expr) Q E s:=by
 obtain⟨T,g,d,f,os⟩:=s
 have p:∀k,(⟨T,g,d,k,os⟩:ai).TypeIs (.ref a) "list_iterator" :=λZ=>⟨_,L,rfl⟩
 have C:=wt.lookup
 have S:=wt.bind (.ref a)
 have b:(expr && Hc (rO "object.__getattribute__"))=false:=tR _
 delta kS E6
 repeat (any_goals (first| assumption| exact p _| ((with_reducible show ar _ _ (rV _ _ _ _) _ _ _);delta rV;refine aa (b ..)<|aa (if_neg (by decide)) ?_;delta DF)|
  ((with_reducible show ar _ _ (bM (rO "object.__getattribute__") _ _) _ _ _);refine jT (mK wt.plain Lz (wt.check _ _ _ _ _ _ _ _ (p _) (Lw _ _) (O9 L ?_))))| wp_step))
 exact h _
theorem RF{s:ai}{it l:aq}{i:Nat}{z:Array af}{x:af}{R:hZ->ai->Prop}(hit:s.heap.IsListIter it l i)
 (hl:s.heap.IsList l z) (U:z[i]?=some x)
 (S:∀h',h'.IsListIter it l (i+1)->hO it s.heap h'->R (.ok (.ret x)) {s with heap:=h'}):
 eU (bX prog w) A (.builtin "list_iterator.__next__" ⟨[.ref it],[]⟩) R s:=by
 refine bI (id hit) λo L O P=>?_
 refine bI hl λq c Z C=>?_;refine aL C λt b=>?_
 refine fN zg ?_
 show ar _ _ (oK (.ref it) 0>>=_) _ _ s
 refine ah (ir L P (x:=.ref l) rfl ?_)
 show ar _ _ (if (eB l==Value.none)=true then _ else _) _ _ s
 refine aa (if_neg (show ¬((eB l==Value.none)=true) from tT)) ?_
 show ar _ _ (oK (.ref it) 1>>=_) _ _ s
 refine ah (ir L P (x:=.int i 0) rfl ?_)
 show ar _ _ (qw (.ref l)>>=_) _ _ s
 refine ah (lb c b ?_)
 simp only [xm,U]
 refine ah (wL L P (by simp) (aD (S _ ?_ (ft ..))))
 exact⟨_,eI _ L (xN (rN P _)),(CH ..).trans O,by
  refine aa (rN P ..) ?_;simp [gE]⟩
theorem RE{s:ai}{it l:aq}{i:Nat}{z:Array af}{R:hZ->ai->Prop}(j:A.handled=none)
 (hit:s.heap.IsListIter it l i) (hl:s.heap.IsList l z) (U:z[i]?=none)
 (S:∀h' e,ly it s.heap h'->s.heap.objs.size<=h'.objs.size->s.heap.objs.size<=e->(∃n d,h'.get? e=some n/\n.cls=.type "StopIteration" /\n.data=.fields d/\d[1]?=some .none)->R (.error (.ref e)) {s with heap:=h'}):
 eU (bX prog w) A (.builtin "list_iterator.__next__" ⟨[.ref it],[]⟩) R s:=by
 refine bI (id hit) λo L O P=>?_
 refine bI hl λq c Z u=>?_;refine aL u λt b=>?_
 refine fN zg ?_
 refine aa (gH slot_listiter_next.plain _ ..) ?_
 show ar _ _ (oK (.ref it) 0>>=_) _ _ s
 refine ah (ir L P (x:=.ref l) rfl ?_)
 show ar _ _ (if (eB l==Value.none)=true then _ else _) _ _ s
 refine aa (if_neg (show ¬((eB l==Value.none)=true) from tT)) ?_
 show ar _ _ (oK (.ref it) 1>>=_) _ _ s
 refine ah (ir L P (x:=.int i 0) rfl ?_)
 show ar _ _ (qw (.ref l)>>=_) _ _ s
 refine ah (lb c b ?_)
 simp only [xm,U]
 refine ah (nH (ah (wL L P (by simp) ?_)))
 show ar _ _ (Ao (.type "StopIteration") []>>=_) _ _ _
 refine ah ?_
 simp only [Ao,m6]
 refine ah (iS ?_ (by size_fits))
 refine ah (m:=zj _ _) (hK (a:=Value.none) (by first| rfl| (simp only [zj];rfl)) ?_)
 refine iS ?_ (by size_fits)
 refine By (A:=A.in1) j<|S _ _ (((ft ..).extBut.push _).push _) (by simp only [c9,jt];lia) (by simp only [c9,jt];lia) ⟨_,_,c5 _ rfl,rfl,rfl,(I4 (by simp)).trans rfl⟩
end
section
variable {M:lB} {A:aO} {E:af->ai->Prop} {s:ai}
theorem Tb{base:aN}{J:bg}{y:List bg}{L e:aq}{n:bu}{G:Array af}{Q:Unit->ai->Prop}
 (u:A.frames=some (J::y)) (hl:s.heap.FunFrames base (J::y)) (I:J.frame=some L)
 (D:s.heap.get? e=some n) (P:n.data=.fields G) (N:G[1]?=some .none)
 (h:∀h' T,s.heap.objs.size<=T->s.heap.objs.size<=h'.objs.size->(∀b o,b≠e->b∉(J::y).filterMap (·.frame)->s.heap.get? b=some o->h'.get? b=some o)->
   (∀b o,b≠e->s.heap.get? b=some o->∃H,h'.get? b=some {o with slots:=H})->
   (∃x f,h'.get? e=some x/\x.cls=n.cls/\x.data=.fields f/\f[1]?=some (.ref T))->(∃C l,h'.get? T=some C/\C.data=.fields l/\3<l.size)->Q () {s with heap:=h'}):ar M A (sT (.ref e) J) Q E s:=by
 have hsz:1<G.size:=(Array.getElem?_eq_some_iff.mp N).1
 delta sT
 simp only [I]
 refine ah (ir D P N ?_)
 refine aa (if_neg (by decide)) ?_
 have q:e∉(J::y).filterMap (·.frame):=λz=>by
  refine aA (hl.mem z) λZ p=>?_;refine aw p λo F i=>?_
  rw [D] at F;injection F with F;subst F;exact i G P
 refine ah (wpAny_frameOf_fun u hl I λk v=>?_)
 refine ah (wpAny_entryPlaceOf λpl j=>?_)
 delta Xr newFields
 refine ah (iS ?_ (j.sizeOk5 _ _ _ _ _))
 have r:k.get? e=some n:=(v.2.1 e q).trans D
 have d:=bH (h:=k) {cls:=.type "traceback",dict:=none,data:=.fields ([Value.none,.ref L,.none,gE L,.none]++(if pl.isEmpty then Cw 6 Value.none else pl)).toArray} r
 refine wL d P hsz ?_
 have w:k.objs.size≠e:=dc (b9 r)
 have m:=rN P (·.setIfInBounds 1 (eB k.objs.size))
 have t:=eI (lE (·.setIfInBounds 1 (eB k.objs.size))) d (xN m)
 have c:=(gf (k.push {cls:=.type "traceback",dict:=none,data:=.fields ([Value.none,.ref L,.none,gE L,.none]++(if pl.isEmpty then Cw 6 Value.none else pl)).toArray})
  (lE (·.setIfInBounds 1 (eB k.objs.size))) (Ne.symm w)).trans (c5 k rfl)
 have U:∀b o,b≠e->k.get? b=some o->((k.push {cls:=.type "traceback",dict:=none,data:=.fields ([Value.none,.ref L,.none,gE L,.none]++(if pl.isEmpty then Cw 6 Value.none else pl)).toArray}).update e (lE (·.setIfInBounds 1 (eB k.objs.size)))).get? b=some o:=λb o g hb=>by
  exact aa (gf _ _ (Ne.symm g) ..)<|Heap.get?_push_of_some _ hb
 refine h _ k.objs.size (bN v.1.symm) (by exact aa (jt ..)<|aa (c9 ..)<|aa (v.1 ..)<|Nat.le_succ _) (λb o g a hb=>U b o g ((v.2.1 b a).trans hb)) (λb o g hb=>?_) ⟨_,_,t,CH _ _,m,by simp [hsz]⟩ ⟨_,_,c,rfl,by simp only [rH,bF,gM,Ck];lia⟩
 refine aL (v.2.2 b o hb) λH B=>?_
 exact⟨H,U b _ g B⟩
end
end
section
section
variable {W:Wd} {n:Nat} {si:SI}
theorem Ev.QW{p e R i m}(l:W.Ok)(B:iv W si "iter" (.builtin "iter"))(D:Ev W n si e m)
 (k:∀J,bB [e] J= [(false,aU e J)]) (t:∀J,iE (.Call (.Name (au "iter") p) [e] [] R) (au "__next__") J (aU (.Call (.Name (au "iter") p) [e] [] R) J)=aU (.Call (.Name (au "iter") p) [e] [] R) J):
 Ev W n si (.Attribute (.Call (.Name (au "iter") p) [e] [] R) (au "__next__") i) (.ax qg m):=λ{A J M G s ρ σ r} H st F h=>
 ob h λq V h=>ob h λc O h=>sj h (by
  refine aa (uk ..)<|aa (t ..)<|aa (jB ..) ?_
  refine ah (ah (g8 l st F B.hk B.hb (.inr ⟨B.hg,B.hm⟩) ?_))
  refine aa (k ..) ?_
  refine j7 rfl rfl (BU (BV (bR D H st F V λ{j ak v} P w E Z=>w9 ?_)))
  refine oy w Z O λ{b x m} T u L=>?_
  refine QV ⟨_,L.1,rfl,m,rfl⟩ (ah (cQ (ah (bz (Pc (c5 _ rfl) λf=>ah (tG (aD ?_)))))))
  have y:(ak.heap.push (qi b)).objs.size=ak.heap.objs.size+1:=c9 ..
  obtain⟨d,C,Q⟩:=w.Dc (s':={ak with heap:=(ak.heap.push (qi b)).push (lW ak.heap.objs.size),toks:=f}) (a:=ak.heap.objs.size+1) (da:=ak.heap.objs.size) (c:=.iter c.1 0) rfl rfl
   (by show((ak.heap.push _).push _).objs.size=_;exact aa (c9 ..)<|aa (y ..) rfl) (λb o e=>bH _ (bH _ e)) rfl rfl λG' K=>
   ⟨_,b,rfl,K.g _ _ u,by exact aa (.symm (y ..))<|Heap.get?_push_size _ rfl,⟨_,bH _ (c5 _ rfl),rfl,rfl⟩⟩
  exact⟨_,P.trans C,d,.ref (Q.trans (congrArg some y.symm))⟩)
theorem St.raised{G:Gh}{s s':ai}{σ:MH}{c:Nat}{x:Nat×Nat}{it:aq}(st:St W G s σ)(O:σ.cell c=some (.iter x.1 x.2))(P:G.d c=some it)
 (k:∀b o,b≠it->¬G.ou b->s.heap.get? b=some o->s'.heap.get? b=some o) (n:∀b o,G.ou b->s.heap.get? b=some o->∃H,s'.heap.get? b=some {o with slots:=H}) (J:s.heap.objs.size<=s'.heap.objs.size) (m:s'.gens=s.gens) (L:s'.os=s.os):
 St W G s' (σ.del c)/\Step W bf G s.heap G s'.heap:=by
 have N:=(st.cells.at_ c _ O).1 rfl
 have r:G.own it:=⟨c,N,.inr P⟩
 have M:=st.inv.cn it r
 have S:Step W bf G s.heap G s'.heap:=⟨λZ Z e=>e,λZ Z e=>e,rfl,λZ x=>x,λZ x=>.inl x,λb o e hb Z Z I=>k b o (λq=>hb (q▸r)) (λu=>I (st.inv.b8 b u) u) e,J,rfl,λb o e Z f Z=>n b o f e⟩
 have K:=S.ea λZ x=>x.elim
 have a:∀b o,b<W.base.objs.size->s.heap.get? b=some o->s'.heap.get? b=some o:=λb o hb e=>
  k b o (λq=>absurd hb (Nat.not_lt.mpr (q▸M.1))) (λx=>absurd hb (Nat.not_lt.mpr (st.inv.b0 b (st.inv.b8 b x)).1)) e
 refine⟨⟨⟨λb o e=>a b o (b9 e) (st.inv.keep b o e),aE st.inv.size J,m.trans st.inv.gens,L.trans st.inv.os,λb x=>?_,λb x=>?_,st.inv.gR,st.inv.g7,st.inv.gd,st.inv.tab.keep K.bq λZ e=>a _ _ st.inv.eO e,st.inv.eO,st.inv.hJ,st.inv.b8⟩,⟨λi p e=>?_,st.cells.free⟩⟩,S⟩
 .exact(st.inv.cn b x).imp id (.imp (λh=>a9 h J) id)
 .exact(st.inv.b0 b x).imp id (.imp (λh=>a9 h J) id)
 .refine ec e (λZ e=>aY e) λw e=>?_
  refine aA (st.cells.at_ i p e) λj R=>?_;refine aw R λb Q t=>?_
  have l:p.qd=false->∀b,(G.g i=some b∨G.d i=some b)->¬G.ou b:=λI b hb x=>(st.inv.cn b ⟨i,j I,hb⟩).2.2.1 (st.inv.b8 b x)
  exact⟨j,b,Q,t.oZ K (λI o e=>k _ o (λq=>st.inv.gd i c it (j I) N (q▸Q) P) (l I b (.inl Q)) e)
   (λI d o B e=>k _ o (λq=>w (st.inv.g7 i c it (j I) N (q▸B) P)) (l I d (.inr B)) e)⟩
noncomputable def i6 (si:SI) (x:String):Bool:=(si.kind x==some .local|| si.kind x==some .cell|| si.kind x==some .free) && (!(au x==("__classdict__" :aj)) && !(au x==("__debug__" :aj)))
theorem zT{A J M G s ρ σ d}{x:String}{p:bc}(st:St W G s σ)(F:aT W A G s.heap si J M ρ)(U:ρ x=some d)(C:i6 si x=true):ar W.M A (aU (.Name (au x) p) J) (Out W G s σ d) aF s:=
 have N:=band C
 have E:=band N.2
 wpAny_Name (F2 st F U N.1 (by simpa using E.1)) (by simpa using E.2)
theorem Hm{A J M G s ρ σ d q}{x:String}{ap S np:bc}(st:St W G s σ)(F:aT W A G s.heap si J M ρ)(e:ρ x=some d)(h:pa d σ=some q)(k:i6 si x=true)(l:(ap.endLine==S.line)=true):
 ar W.M A (aU (.Call (.Attribute (.Name (au x) np) (au "pop") ap) [] [] S) J) (Out W G s q.2 q.1) aF s:=
 BS rfl l (iu (zT st F e k) λv ak j P w a=>MethodOnS.mono (Hp w a h) λZ Z o=>o.trans P)
theorem Oc{A J M G s ρ σ ab}{dd r st:String}{L f d kP sp dp ep i u v:bc}{Q:gw->ai->Prop}(n:St W G s σ)(Fr:aT W A G s.heap si J M ρ)(h:y7 dd r st ρ σ=some ab)(k1:i6 si dd=true)(k2:i6 si r=true)(k3:i6 si st=true)
 (l1:(L.endLine==d.line)=true) (l2:(f.endLine==kP.line)=true) (hm:si.sc.kind≠ .module) (K:∀O G',Step W bf G s.heap G' O.heap->St W G' O ab->aT W A G' O.heap si J M ρ->Q .next O):
 ar W.M A (ja [.Delete [.Subscript (.Name (au dd) i) (.Call (.Attribute (.Name (au r) u) (au "pop") L) [] [] d) sp] dp,.Expr (.Call (.Attribute (.Name (au st) v) (au "pop") f) [] [] kP) ep] J) Q aF s:=
 ob h λk e1 h=>ob h λdq e2 h=>ob h λdi e3 h=>ob h λp e4 h=>ob h λm hk h=>ob h λc hc h=>og h λU h=>ob h λq e5 h=>by
  refine tF (wpAny_Delete (wpAny_deleteEach_cons (show ar _ _ (aU (.Name (au dd) i) J>>=λN=>kf [N] (aU (.Call (.Attribute (.Name (au r) u) (au "pop") L) [] [] d) J)>>=λV=>ip sp>>=λZ=>kf [N,V] (delItem N V)>>=λZ=>release [N,V] []) _ _ _ from ?_)))
  refine ah (iu (zT n Fr e1 k1) λBq ak j P e E=>ah (bz (iu (Hm e (Fr.go n.inv P) e2 e4 k2 l1) λIL I Y o b C=>?_)))
  have g:=(Fr.go n.inv P).go e.inv o
  refine C.c8 hk λt q1 q2=>yF b (E.go o) hc λ{a T} S hg z ns hD X=>?_
  refine ah (cQ (ah (bz (wpAny_delItem_slot hD.typeIs (by decide) JJ (call_meetsIn JJ hD.typeIs F.entry_dict_delitem (F.args_dict_delitem_2 _ _) (meets_dict_delitem_pairs (strKind W.prog W.w) a (jI m t))
   ⟨T,hD,by exact aa (X.length ..)<|Nat.le_trans z f9,by exact aa (zM X ..)<|U,λh' R H=>qO (wpAny_deleteEach_nil (tF ?_))⟩)))))
  have y:=b.m_ (tk:=I.toks+1) (c':=.dict (c.2.filter λp=>decide (p.1≠m))) S rfl hg (.inl hg) H.extBut (bN H.1.symm) λK=>⟨aE (iX ..) z,ns,_,R,(X.keep K).without⟩
  have l:=g.go b.inv y.2
  exact aa (exec_Expr _ _ _ (by unfold zK;rw [Fr.sc,beq_eq_false_iff_ne.mpr hm];rfl) (show Iw (.Call (.Attribute (.Name (au st) v) (au "pop") f) [] [] kP) none ep.line J=pure false from rfl))<|wpAny_bind (cQ (ah (iu (Hm y.1 l e3 e5 k3 l2) λYm tw D x B HJ=>Ej (wK (K _ D (((P.trans o).trans y.2).trans x) (sj h B) (l.go y.1.inv x))))))
end
end
section
section
variable {W:Wd} {n:Nat} {si:SI}
theorem NC{s:ai}{it:aq}{A:aO}{E:af->ai->Prop}{Q:Unit->ai->Prop}(p:s.TypeIs (.ref it) "list_iterator")(h:Q () s):ar W.M A (yO "list_iterator.__next__" ⟨[.ref it],[]⟩) Q E s:=by
 unfold yO
 refine aw p λo L O=>?_
 obtain⟨c,q,z,H⟩:=o
 dsimp only at O
 subst O
 obtain⟨T,g,d,k,os⟩:=s
 have r:jJ (.type "list_iterator") (.type "module")=pure false:=by refine aa (eE ..) ?_;kernel_rfl
 have v:jJ (.type "list_iterator") (.type "type")=pure false:=by refine aa (eE ..) ?_;kernel_rfl
 have C:(Manifest.varargsMethods.contains "list_iterator.__next__" || false)=false:=by decide+kernel
 repeat (any_goals (first| assumption| (refine aa (C ..)<|aa (if_neg (by decide)) ?_)| ((with_reducible show ar _ _ (I_ _ _ _) _ _ _);refine hK (a:=()) (by kernel_rfl) ?_)| wp_step))
theorem Nr{A:aO}{s:ai}{R:bc}{a it:aq}{Q:af->ai->Prop}{E:af->ai->Prop}(hb:s.heap.get? a=some (lW it))(p:s.TypeIs (.ref it) "list_iterator")
 (h:eU W.M A (.builtin "list_iterator.__next__" ⟨[.ref it],[]⟩) (λr i=>match r with| .ok (.ret v)=>Q v i| .ok _=>False| .error e=>E e i) s):ar W.M A (i5 R (.ref a) [] [] []) Q E s:=by
 unfold i5
 refine ah (bz ?_)
 have b:ar W.M A (p7 (.ref a) true [] []) (λx i=>x=⟨[],[]⟩/\i=s) E s:=by
  unfold p7
  show ar W.M A (wx []>>=_) _ _ s
  refine ah (w9 ?_)
  refine ah (aD (bz ?_))
  exact ah (aD (ah (aD (aD ⟨rfl,rfl⟩))))
 refine gW b (λx i B=>aA B λV c=>?_) λZ Z x=>x
 subst V;subst c
 refine ah (cQ ?_)
 have C:∀{Q:Keeper->ai->Prop},Q .machine i->ar W.M A (FT (.ref a)) Q E i:=λ{Q} q=>by
  unfold FT
  refine ah (nG hb ?_)
  dsimp only [lW]
  exact aD q
 refine ah (C ?_)
 refine ah (gW (jT (uE ?_):ar W.M A (bM (.ref a) [] []) Q E i) (λr D m=>ah (bz (wpAny_point (aD m)))) λZ Z x=>x)
 show ar _ _ (uz (.ref a) _) _ _ _
 unfold uz
 refine ah (nG hb ?_)
 dsimp only [lW]
 refine aa (if_pos (by decide+kernel)) ?_
 refine ah (NC p ?_)
 exact aD ⟨xa _ (by decide+kernel),h⟩
end
end
section
theorem VH:jJ (.type "StopIteration") (.type "StopIteration")=pure true:=by refine aa (eE ..) ?_;kernel_rfl
theorem VI:jJ (.type "StopIteration") (.type "BaseException")=pure true:=by refine aa (eE ..) ?_;kernel_rfl
theorem VJ:jJ (.type ((K4 "StopIteration").elim "type" λx=>x.metatype)) (.type "tuple")=pure false:=by
 refine aa (show(K4 "StopIteration").elim "type" (λx=>x.metatype)= "type" by kernel_rfl)<|aa (eE ..) ?_;kernel_rfl
theorem E5{h a:aN}:∀{fs:List bg},(∀e∈fs,e.scope.kind≠ .module/\∃L,e.frame=some L/\a.get? L=none/\∃o,h.get? L=some o/\∀P,o.data≠ .fields P)->h.FunFrames a fs
 | [],_=>trivial
 | env::rest,H=>
  aA (H env a0) λk N=>bI N λL V Z Q=>aw Q λo E S=>
  ⟨k,⟨L,o,V,Z,E,S⟩,E5 λe D=>H e (bT _ D)⟩
theorem Cell.QU{d i}(h:Cell.FN d=some i):d=.iter i.1 i.2:=by induction d<;>first| exact aY h| (obtain rfl:=aM h;rfl)
section
variable {W:Wd} {n:Nat} {si:SI}
theorem aT.at{A a G h env M ρ}(F:aT W A G h si env M ρ)(e:a.frames=A.frames):aT W a G h si env M ρ:=
 {F with here:=λp T=>by exact aa (e ..)<|F.here p T,fo:=by exact aa (e ..)<|F.fo}
structure x4(h:aN)(it:aq)(fy:aN)(e:aq):Prop where
 ext:ly it h fy
 size:h.objs.size<=fy.objs.size
 ge:h.objs.size<=e
 exc:∃oe vs,fy.get? e=some oe/\oe.cls=.type "StopIteration" /\oe.data=.fields vs/\vs[1]?=some .none
structure Lb(G:Gh)(fy iL:aN)(e T:aq):Prop where
 ge:fy.objs.size<=T
 size:fy.objs.size<=iL.objs.size
 keep:∀b o,b≠e->¬G.ou b->fy.get? b=some o->iL.get? b=some o
 dat:∀b o,b≠e->fy.get? b=some o->∃sl,iL.get? b=some {o with slots:=sl}
 exc:∃oe vs,iL.get? e=some oe/\oe.cls=.type "StopIteration" /\oe.data=.fields vs/\vs[1]?=some (.ref T)
 tb:∃oT ts,iL.get? T=some oT/\oT.data=.fields ts/\3<ts.size
theorem Tc{A J M G s ρ σ it p e}{I}{Q:Unit->ai->Prop}(j:si.here=some I)(st:St W G s σ)(F:aT W A G s.heap si J M ρ)(r:G.own it)(X:x4 s.heap it p e)(K:∀L T,Lb G p L e T->Q () {s with heap:=L}):
 ar W.M A (sT (.ref e) J) Q aF {s with heap:=p}:=by
 have h:=(F.here I j).2.2
 have fo:=F.ku
 unfold Fo at fo
 rw [h.2.choose_spec] at fo
 have l:=fo.choose_spec.2
 rw [← aM fo.choose_spec.1] at l
 have R:∀b,G.ou b->b≠it:=λb x q=>(st.inv.cn it r).2.2.1 (q▸st.inv.b8 b x)
 refine nI X.exc λn P V O E S=>?_
 refine Tb (s:={s with heap:=p}) (base:=W.base) h.2.choose_spec (E5 λD w=>?_) h.1 V E S λL T a b c d f g=>K L T ⟨a,b,λb o u U e=>c b o u (λhb=>U ?_) e,d,f.imp λZ=>dX λZ x=>⟨x.1,x.2.1.trans O,x.2.2⟩,g⟩
 .refine aA (l D w) λk t=>?_;refine dG t λi N v H m=>?_;refine aw m λC Y z=>?_
  exact⟨k,i,N,Heap.get?_none_of_le (st.inv.b0 i v).1,C,X.ext i C (R i H) Y,z⟩
 .refine aw (List.mem_filterMap.mp hb) λD w y=>?_
  refine aA (l D w) λZ B=>?_;refine dG B λi N Z H Z=>?_
  rw [N] at y
  exact aM y▸H
theorem Nz{A J M G s ρ σ c it l e}{y:Nat×Nat}{hp f h np p}{Q:gw->ai->Prop}(ok:W.Ok)(B:iv W si "StopIteration" (.type "StopIteration"))(j:si.here=some hp)(st:St W G s σ)(F:aT W A G s.heap si J M ρ)(O:σ.cell c=some (.iter y.1 y.2))(P:G.d c=some it)(X:x4 s.heap it l e)
 (K:∀i,Step W bf G s.heap G i.heap->St W G i (σ.del c)->aT W (A.mark (some (.ref e))) G i.heap si J M ρ->ar W.M (A.mark (some (.ref e))) (ja (f::h) J) Q aF i):
 ar W.M A (sT (.ref e) J) (λZ D=>ar W.M A (setFlight (.ref e) none) (λZ I=>ar W.M A (handleBy (.ref e) J [.ExceptHandler (some (.Name (au "StopIteration") np)) none (f::h) p]) Q aF I) aF D) aF {s with heap:=l}:=by
 have r:G.own it:=⟨c,(st.cells.at_ c _ O).1 rfl,.inr P⟩
 have nX:∀b,G.ou b->b≠it:=λb x q=>(st.inv.cn it r).2.2.1 (q▸st.inv.b8 b x)
 refine Tc j st F r X λL T N=>?_
 refine nI N.exc λn vs V Y E S=>?_
 refine eQ N.tb λoT ts m t H=>?_
 have w:T≠e:=λq=>fc X.exc λZ Z z Z=>absurd (b9 z) (Nat.not_lt.mpr (q▸N.ge))
 have v:∀{h':aN},(∀b,b≠T->h'.get? b=L.get? b)->h'.objs.size=L.objs.size->St W G {s with heap:=h'} (σ.del c)/\Step W bf G s.heap G h':=λ{h'} k hz=>
  have ne:∀b o,s.heap.get? b=some o->b≠e/\b≠T:=λb o q=>⟨λC=>absurd (b9 q) (Nat.not_lt.mpr (C▸X.ge)),λC=>absurd (b9 q) (Nat.not_lt.mpr (C▸aE X.size N.ge))⟩
  st.raised (s':={s with heap:=h'}) (x:=y) O P (λb o hb U q=>(k b (ne b o q).2).trans (N.keep b o (ne b o q).1 U (X.ext b o hb q)))
   (λb o U q=>(N.dat b o (ne b o q).1 (X.ext b o (nX b U) q)).imp λsl C=>(k b (ne b o q).2).trans C) (aE (aE X.size N.size) (bN hz.symm)) rfl rfl
 refine WV V E S m t H ?_
 have R:=v (h':=L.update T (lE (·.setIfInBounds 3 .none))) (λb hb=>gf _ _ (Ne.symm hb)) (jt ..)
 have g:(L.update T (lE (·.setIfInBounds 3 .none))).get? e=some n:=(gf _ _ w).trans V
 have u:=rN t (·.setIfInBounds 3 Value.none)
 refine wpAny_handleBy_builtin VI VJ VH (aF.any (g8 ok R.1 ((F.go st.inv R.2).at rfl) B.hk B.hb (.inr ⟨B.hg,B.hm⟩) ⟨rfl,⟨n,g,Y⟩,?_⟩))
 refine aa (if_pos rfl ..) ?_
 refine WV g E S (eI (lE (·.setIfInBounds 3 Value.none)) m (xN u)) u (by exact aa (Array.size_setIfInBounds ..)<|H) ?_
 have a:=v (h':=(L.update T (lE (·.setIfInBounds 3 .none))).update T (lE (·.setIfInBounds 3 .none))) (λb hb=>(gf _ _ (Ne.symm hb)).trans (gf _ _ (Ne.symm hb))) (by exact aa (jt ..)<|aa (jt ..) rfl)
 exact aF.any (K _ a.2 a.1 ((F.go st.inv a.2).at rfl))
theorem SU{A G s σ v d c}{y:Nat×Nat}{xs:List D}{S:bc}{Q:af->ai->Prop}{E:af->ai->Prop}(X:br n A)(st:St W G s σ)(r:Rep W G s.heap v d)(l:d.fP=some c)(O:σ.cell c=some (.iter y.1 y.2))(hl:σ.cell y.1=some (.list xs))
 (w:∀x u i,xs[y.2]?=some x->Out W G s (σ.put c (.iter y.1 (y.2+1))) x u i->Q u i) (V:∀it k e,xs[y.2]?=none->G.d c=some it->x4 s.heap it k e->E (.ref e) {s with heap:=k}):ar W.M A (i5 S v [] [] []) Q E s:=
 kO (motive:=λv=>ar W.M A (i5 S v [] [] []) Q E s) st r l O λ{a} o B=>nI B λit R P I hb hit=>by
  refine aA (st.cells.at_ _ _ hl) λZ N=>?_;refine aw N λU T g=>?_
  obtain rfl:R=U:=aM (I.symm.trans T)
  refine ew (F9 g) λY m L=>?_
  have j:a≠it:=λq=>by refine bI hit λC t p Z=>?_;rw [← q,hb] at t;rw [← aM t] at p;exact absurd (show kF "method-wrapper" =kF "list_iterator" from p) (by decide)
  refine Nr hb hit.typeIs ?_
  induction F:xs[y.2]? with
  | some d=>
   refine aw (L.2.1.get F) λu f J=>?_
   refine RF hit ⟨_,L.1,rfl,m,rfl⟩ (x:=u) (by rw [jV] at f;exact f) λh' h H=>?_
   have z:=st.m_ (tk:=s.toks) (c':=.iter y.1 (y.2+1)) O rfl o (.inr P) H.extBut (bN H.1.symm) λK=>⟨it,R,P,I,H.2 a j▸hb,h⟩
   exact w d u _ F ⟨G,z.2,z.1,J.go z.2⟩
  | none=>exact RE X.2.2.2 hit ⟨_,L.1,rfl,m,rfl⟩ (tO (by exact aa (eX L.2.1 ..)<|List.getElem?_eq_none_iff.mp F)) λk e a b c d=>V it k e F P ⟨a,b,c,d⟩
theorem Mt{A:aO}{J:bg}{s:ai}{x:String}{fo a:ay}{b fp S i:bc}{Q:gw->ai->Prop}{E:af->ai->Prop}
 (h:ar W.M A (aU (.Subscript fo a fp) J) (λv ak=>ar W.M A (i5 S v [] [] []) (λu D=>ar W.M A (iy (.Name (au x) b) J u) (λZ I=>Q .next I) E D) E ak) E s):ar W.M A (exec (.Assign [.Name (au x) b] (.Call (.Subscript fo a fp) [] [] S) i) J) Q E s:=by
 refine aa (zi ..)<|aa (show kq [.Name (au x) b] (.Call (.Subscript fo a fp) [] [] S) i.line J=pure false from rfl) ?_
 refine ah (cQ (ah (aD ?_)))
 refine aa (if_neg (by decide)) ?_
 refine ah (show ar _ _ (do i5 S (← aU (.Subscript fo a fp) J) [] [] []) _ _ _ from ah (gW h (λv ak h=>gW h (λu D h=>?_) λZ Z x=>x) λZ Z x=>x))
 refine aa (show l0 [.Name (au x) b] (.Call (.Subscript fo a fp) [] [] S) J=pure none from rfl) ?_
 refine ah (aD ?_)
 exact ah (gW h (λZ Z h=>aD h) λZ Z x=>x)
theorem Ex.qG{x dd j st:String}{fo fi:ay}{mI:ME}{xp fp cp D bp np J S L a H kP sp dp ep Y Z Td:bc}{hp}(ok:W.Ok)(hh:si.here=some hp)(hm:si.sc.kind≠ .module)(U:Ev W n si (.Subscript fo fi fp) mI)(hx:i7 si x=true)(k1:i6 si dd=true)(k2:i6 si j=true)(k3:i6 si st=true)
 (B:iv W si "StopIteration" (.type "StopIteration")) (l1:(L.endLine==H.line)=true) (l2:(a.endLine==kP.line)=true):
 Ex W n si (.Try [.Assign [.Name (au x) xp] (.Call (.Subscript fo fi fp) [] [] cp) D,.Break bp]
  [.ExceptHandler (some (.Name (au "StopIteration") np)) none [.Delete [.Subscript (.Name (au dd) Y) (.Call (.Attribute (.Name (au j) Z) (au "pop") L) [] [] H) sp] dp,.Expr (.Call (.Attribute (.Name (au st) Td) (au "pop") a) [] [] kP) ep] J] [] [] S)
  (.qG x mI dd j st):=λ{A env M G s ρ σ r} rm q Fr h=>
 ob h λp e1 h=>ob h λc l h=>ob h λcc O h=>ob h λy hy h=>ob h λcl T h=>ob h λxs V h=>by
  rw [Cell.QU hy] at O
  rw [Cell.qj V] at T
  refine WE (tF (Mt (aF.any (iu (U rm q Fr e1) λv ak fq P w Q=>?_))))
  have E:=Fr.go q.inv P
  refine SU rm w Q l O T (λd u b3 F o=>?_) λit fy e F hd X=>?_
  .rw [F] at h
   exact o.elim λlx f N b=>aF.any (kA (Et.name (n:=n) hx rm N (E.go w.inv f) b rfl) λeZ k z K g=>tF (wpAny_Break (sj h ⟨k,((P.trans f).any (M:=M)).trans z,K,g,trivial⟩)))
  .rw [F] at h
   exact ob h λaX I h=>Nz (y:=y) ok B hh w E O hd X λs' f N i=>Oc N i I k1 k2 k3 l1 l2 hm λks t C R m=>sj h ⟨t,((P.trans f).trans C).any,R,m.at rfl,trivial⟩
end
end
section
section
variable {W:Wd} {n:Nat} {si:SI}
def Kh(W:Wd)(I l:aq)(R:List (aj×D))(T:List (aj×af))(y:Nat):Gh->aN->List D->Prop:=λG h xs=>
 ∃j,h.IsKeyIter I l j T.length y/\ri (strKind W.prog W.w) h l T y/\bC W G h T R/\bJ W G l/\xs=(R.drop j).map λp=>.str p.1
theorem ju.keys{σ:MH}{I l:aq}{ei:List (aj×D)}{mC:List (aj×af)}{ep:Nat}:ju W n σ I (λa=>a=I) (Kh W I l ei mC ep) where
 item:=λ{A G s x xs} H st Z U F=>lg F λj w hD L z c=>by
  have T:=L.get j
  have P:(ei.drop j).head?=ei[j]?:=KI ..
  generalize N:mC[j]?=p at T
  generalize E:ei[j]?=q at T P
  generalize C:ei.drop j=kj at c P
  induction T with
  | none=>rw [List.head?_eq_none_iff.mp P] at c;exact(jX _ _ c).elim
  | @some k v d m k2 r=>
   have V:kj=(k,d)::ei.drop (j+1):=by
    match kj,P,C with
    | y::ys,P,C=>obtain rfl:=aM P;exact aa (.symm (List.drop_drop ..))<|aa (C ..) rfl
   rw [V] at c
   refine aA (rz c) λB R=>?_;obtain rfl:=B;obtain rfl:=R
   refine WS w hD N λkey h' u t O=>?_
   refine aA (vZ (tk:=s.toks) st (U _ rfl).1 O.extBut (bN O.1.symm)) λS g=>?_
   refine aL (LS u) λf h=>?_;obtain rfl:=h
   have K:=S.ea λa e=>(U a e).1
   exact⟨_,G,rfl,S,g,⟨j+1,t,(gA K.bq z hD).2,L.keep K,(gA K.bq z hD).1,rfl⟩,.str _ _ m k2⟩
 done:=λ{A G s} H st Z U i=>lg i λj w hD L z c=>by
  have T:=L.get j
  have E:ei[j]?=none:=by exact aa (.symm (KI ..))<|aa (List.map_eq_nil_iff.mp c.symm ..) rfl
  rw [E] at T
  generalize N:mC[j]?=p at T
  cases T
  refine iT (WQ H.2.2.2 w hD N λh' X J=>?_)
  refine aA (vZ (tk:=s.toks) st (U _ rfl).1 X J) λS g=>?_
  exact⟨rfl,G,S,g⟩
 shift:=λQ k Y=>lg Q λj M hD L z c=>aw M λo b r=>by
  exact⟨j,⟨o,Y _ _ rfl b,r⟩,(gA k.bq z hD).2,L.keep k,(gA k.bq z hD).1,c⟩
theorem PT{A:aO}{E:af->ai->Prop}{s:ai}{a:aq}{Q:Bool->ai->Prop}(p:s.TypeIs (.ref a) "dict")(h:Q false s):ar W.M A (BO (.ref a)) Q E s:=by
 unfold BO
 refine ah (qP p F.slot_dict_len.lookup ?_)
 have B:splitId "dict.__len__" =some ("dict","__len__"):=by decide+kernel
 have v:jJ (.type "dict") (.type "dict")=pure true:=by refine aa (eE ..) ?_;kernel_rfl
 dsimp only
 refine aa (B ..) ?_
 dsimp only
 have w:ar W.M A (isInstance (.ref a) (.type "dict")) (λb i=>b=true/\i=s) E s:=by
  refine aw p λo L O=>?_
  obtain⟨c,q,z,H⟩:=o
  dsimp only at O
  subst O
  obtain⟨T,g,d,k,os⟩:=s
  repeat (any_goals (first| assumption| wp_step))
  exact⟨rfl,rfl⟩
 refine ah (bD w λb i t=>aA t λV e=>?_)
 subst V;subst e
 exact aa (if_neg (by decide))<|aa (if_pos (by decide+kernel))<|wpAny_bind (wN p (aD h))
noncomputable def lU (a:aq) (T:List (aj×af)) (y:Nat):bu:={cls:=.type "dict_keyiterator",data:=.fields #[.ref a,.int 0 0,.int T.length 0,.int y 0]}
theorem Rr{A G}{s:ai}{σ v d r}(rm:br (n+2) A)(st:St W G s σ)(fo:Fo A G s.heap)(rv:Rep W G s.heap v d)(e:sD d σ=some r):ar W.M A (bM (.type "list") [v]) (dy W G s r) aF s:=
 ob e λR hk e=>sj e (rv.y8 hk λ{a T} z f ns X rr=>by
  refine aL X.dictAt λC hD=>?_
  refine aw (id X.typeIs) λoa Y Yb=>?_
  have jG:a<s.heap.objs.size:=b9 Y
  refine DT (Q₁:=λobj ak=>obj=.ref s.heap.objs.size/\ak= {s with heap:=s.heap.push f6}) Jz (JQ _) JD (N1 _ ⟨rfl,rfl⟩) λobj ak fy=>?_
  refine aA fy λkp jk=>?_;obtain rfl:=kp;obtain rfl:=jk
  have hS:(s.heap.push f6).get? s.heap.objs.size=some f6:=c5 _ rfl
  refine⟨⟨_,hS,rfl⟩,Jx _ _,?_⟩
  have Pr:s.heap.objs.size≠a:=λq=>fV _ (q▸jG)
  show ar _ A.in1.in1 (do let old ← wZ (.ref s.heap.objs.size);BQ (.ref s.heap.objs.size) (λZ=> #[]);letGo old.toList.reverse;nL (.ref s.heap.objs.size) (.ref a) .none) _ _ _
  refine ah ?_
  unfold wZ
  refine ah (lb hS rfl (aD ?_))
  show ar _ A.in1.in1 (l6 s.heap.objs.size (λZ=> #[])>>=λZ=>letGo (#[]:Array af).toList.reverse>>=λZ=>nL (.ref s.heap.objs.size) (.ref a) .none) _ _ _
  refine ah (jn hS rfl ?_)
  have N:=eI (dE (λZ=>(#[]:Array af))) hS rfl
  have J:∀b o,s.heap.get? b=some o->((s.heap.push f6).update s.heap.objs.size (dE (λZ=>(#[]:Array af)))).get? b=some o:=λb o e=>(gf _ _ (λq=>fV _ (q▸b9 e))).trans (bH _ e)
  have u:((s.heap.push f6).update s.heap.objs.size (dE (λZ=>(#[]:Array af)))).objs.size=s.heap.objs.size+1:=by exact aa (jt ..)<|aa (c9 ..) rfl
  generalize (s.heap.push f6).update s.heap.objs.size (dE (λZ=>(#[]:Array af)))=g at*
  refine ah (qN ?_)
  have m:ri (strKind W.prog W.w) g a T C:=hD.at' λo e=>J _ _ e
  have Q:=m.dictOf.typeIs (s:={s with heap:=g})
  unfold nL
  refine ah (wN Q ?_)
  refine aa (if_neg (λh=>by rw [show Ji (.ref s.heap.objs.size) (.ref a)=false from decide_eq_false Pr] at h;exact absurd h (by decide))) ?_
  refine ah (IQ (o6 ns) m ?_)
  have c:({s with heap:=g.push (lU a T C)}:ai).TypeIs (.ref a) "dict" :=(m.at' (λo e=>bH (lU a T C) e)).dictOf.typeIs
  refine ah (bz (PT c ?_))
  show ar _ A.in1.in1 (rule "list.extend.makes-room" >>=λZ=>Jj (.ref s.heap.objs.size)>>=λZ=>
   mB (.builtin "list.extend.loop" ⟨[.ref s.heap.objs.size,.ref g.objs.size,.none],[]⟩)) _ _ _
  refine ah (nH (ah ?_))
  show ar _ A.in1.in1 (l6 s.heap.objs.size (·.push .none)>>=λZ=>l6 s.heap.objs.size (·.pop)) _ _ _
  have hl:(g.push (lU a T C)).get? s.heap.objs.size=some _:=bH _ N
  refine ah (jn hl rfl ?_)
  have D:=eI (dE (·.push Value.none)) hl rfl
  refine jn (hz:=by seq_fits) D rfl ?_
  have P:=eI (dE (·.pop)) D rfl
  have He:∀b o,b≠s.heap.objs.size->(g.push (lU a T C)).get? b=some o->(((g.push (lU a T C)).update s.heap.objs.size (dE (·.push Value.none))).update s.heap.objs.size (dE (·.pop))).get? b=some o:=
   λb o hb e=>(gf _ _ (Ne.symm hb)).trans ((gf _ _ (Ne.symm hb)).trans e)
  have K:(((g.push (lU a T C)).update s.heap.objs.size (dE (·.push Value.none))).update s.heap.objs.size (dE (·.pop))).objs.size=s.heap.objs.size+2:=by exact aa (jt ..)<|aa (jt ..)<|aa (c9 ..)<|aa (u ..) rfl
  have kI:=He g.objs.size _ (by exact aa (u ..)<|Nat.succ_ne_self _) (c5 (o:=lU a T C) _ rfl)
  refine(id ?_:ar _ _ _ _ _ {s with heap:=((g.push (lU a T C)).update s.heap.objs.size (dE (·.push Value.none))).update s.heap.objs.size (dE (·.pop))})
  generalize ((g.push (lU a T C)).update s.heap.objs.size (dE (·.push Value.none))).update s.heap.objs.size (dE (·.pop))=i at*
  have t:∀b o,s.heap.get? b=some o->i.get? b=some o:=λb o e=>He b o (bj (b9 e)) (bH _ (J b o e))
  have U:∀b,(b=g.objs.size∨b=s.heap.objs.size)->s.heap.objs.size<=b/\b<i.objs.size:=λb hb=>by
   exact aa (K ..)<|hb.elim (λq=>by exact aa (q ..)<|aa (u ..)<|⟨dD _,cw _⟩) λq=>by exact aa (q ..)<|⟨bb _,ff (by decide)⟩
  have O:s.heap.objs.size<=i.objs.size:=by exact aa (K ..)<|Nat.le_add_right _ _
  refine aA (jE (b3:={s with heap:=i}) (M:=λb=>b=g.objs.size∨b=s.heap.objs.size) st U t O rfl rfl) λS H=>?_
  have m7:∀b,(b=g.objs.size∨b=s.heap.objs.size)->¬G.ou b:=λb hb y=>absurd (st.inv.b0 b (st.inv.b8 b y)).2.1 (Nat.not_lt.mpr (U b hb).1)
  have j:Fo A {G with fr:=λb=>G.fr b∨(b=g.objs.size∨b=s.heap.objs.size)} i:=aw fo λfs e k=>⟨fs,e,λy hy=>aA (k y hy) λk1 AO=>dG AO λL k2 k3 k4 AP=>aw AP λo k5 k6=>⟨k1,L,k2,.inl k3,k4,o,t _ _ k5,k6⟩⟩
  refine aD ⟨g_ tX _,g6 (EH (n:=n) (acc:=[]) (xs:=R.map λp=>.str p.1) (ju.keys (I:=g.objs.size) (l:=a) (ei:=R) (mC:=T) (ep:=C)) rm.in1
   ⟨S,j,λb hb=>⟨.inr (.inl hb),m7 b (.inl hb)⟩,.inr (.inr rfl),m7 _ (.inr rfl),λq=>absurd (q.trans u) (bj (cw _)),⟨0,⟨_,kI,rfl,rfl⟩,hD.at' (λo e=>t _ _ e),rr.keep H,(H.bq _ _ Y f).1,rfl⟩⟩
   ⟨fW _,_,#[],_,P,rfl,⟨rfl,rfl⟩,rfl,.nil⟩ (by exact aa (aZ ..)<|(rM _).symm▸z)) λr s' Uo=>aA Uo λe AQ=>bI AQ λG' S' Ba c'=>?_⟩
  subst e
  have PG:G'.fr=λb=>G.fr b∨(b=g.objs.size∨b=s.heap.objs.size):=S'.fr
  have E:∀b,G'.ou b->G.fr b:=λb y=>st.inv.b8 b (by exact aa (.symm (show G'.ou=G.ou from S'.ou))<|y)
  refine aA (kV (fr:=λb=>G.fr b∨b=s.heap.objs.size) Ba (λb x=>by exact aa (PG ..)<|x.elim .inl λq=>.inr (.inr q)) λb y=>.inl (E b y)) λB V=>?_
  exact⟨rfl,{G' with fr:=λb=>G.fr b∨b=s.heap.objs.size},s.heap.objs.size,rfl,bb _,rfl,
   (show Step W bf G s.heap {G' with fr:=G.fr} s'.heap from qy (G:=G) (M:=λa=>a=g.objs.size∨a=s.heap.objs.size) (λb y=>(U b y).1) t O (λa l=>⟨λUp=>aA Up λx y=>⟨x.elim id λz=>absurd l (Nat.not_lt.mpr (U a z).1),y⟩,λUq=>aA Uq λx y=>⟨.inl x,y⟩⟩) S'.ou (S'.weaken λZ y=>.inr y)),
   B,c'.lT V (λZ e=>e),λx=>absurd (st.inv.b0 _ x).2.1 (fV _),E⟩)
theorem bG.Rq{p e R m}(l:W.Ok)(B:iv W si "list" (.type "list"))(D:Ev W (n+2) si e m)(U:∀J,bB [e] J= [(false,aU e J)]):bG W (n+2) si (.Call (.Name (au "list") p) [e] [] R) (.ax sD m):=λ{A J M G s ρ σ r} H st Fr h=>
 ob h λq V h=>by
  exact aa (jB ..)<|wpAny_bind (g8 l st Fr B.hk B.hb (.inr ⟨B.hg,B.hm⟩) (j7 rfl (kH (by exact aa (U ..) rfl)) (oI (λJ=>by exact aa (U ..) rfl) (l8 (bR D H st Fr V λ{j ak f} P w E b=>qM (bD (Rr H w E.ku b h) λZ Z o=>dy.trans P o)) (by exact aa (U ..) rfl)))))
end
end
noncomputable def GA:MS:=(.cons (.assign (.name "kind") (.ax II (.var "path"))) (.cons (.ite (.val (.bh FK (.var "kind") (.tup [(.typ "str"),(.typ "bytes")]))) (.ret (.var "path")) .nil) .never))
noncomputable def iU:FM:=fO (bO (bind1 "path") GA)
noncomputable def RU:MS:=(.ite (.val (.bh mY (.var "path") (.typ "bytes"))) .never (.ret (.str "/")))
noncomputable def qY:FM:=fO (bO (bind1 "path") RU)
noncomputable def R0:MS:=(.cons (.assign (.name "p") (.a8 iU (aG [(.var "p")]))) (.cons (.ite (.val (.bh mY (.var "p") (.typ "bytes"))) .never (.cons (.assign (.name "sep") (.str "/")) (.assign (.name "empty") (.str "")))) (.ite (.val (.ne (.slice (.var "p") .none (some (.int 1))) (.var "sep"))) (.ret (.tup [(.var "empty"),(.var "empty"),(.var "p")])) (.ite (.or (.val (.ne (.slice (.var "p") (some (.int 1)) (some (.int 2))) (.var "sep"))) (.val (.eq (.slice (.var "p") (some (.int 2)) (some (.int 3))) (.var "sep")))) (.ret (.tup [(.var "empty"),(.var "sep"),(.slice (.var "p") (some (.int 1)) .none)])) (.ret (.tup [(.var "empty"),(.slice (.var "p") .none (some (.int 2))),(.slice (.var "p") (some (.int 2)) .none)]))))))
noncomputable def xg:FM:=fO (bO (bind1 "p") R0)
noncomputable def z_:MS:=(.cons (.assign (.name "p") (.a8 iU (aG [(.var "p")]))) (.cons (.assign (.name "sep") (.a8 qY (aG [(.var "p")]))) (.cons (.assign (.name "i") (.add (.bh HD (.var "p") (.var "sep")) (.int 1))) (.cons (.assign (.name "head") (.slice (.var "p") .none (some (.var "i")))) (.cons (.ite (.and (.val (.var "head")) (.val (.ne (.var "head") (.Ak (.var "sep") (.ax bW (.var "head")))))) (.assign (.name "head") (.bh HG (.var "head") (.var "sep"))) .nil) (.ret (.var "head")))))))
noncomputable def fm:FM:=fO (bO (bind1 "p") z_)
noncomputable def Aa:MS:=(.cons (.assign (.name "a") (.a8 iU (aG [(.var "a")]))) (.cons (.assign (.name "sep") (.a8 qY (aG [(.var "a")]))) (.cons (.assign (.name "path") (.var "a")) (.cons (.cD (.of (.var "p")) (.name "b") (.cons (.assign (.name "b") (.a8 iU (aG [(.var "b")]))) (.ite (.or (.val (.bh tu (.var "b") (.var "sep"))) (.not (.val (.var "path")))) (.assign (.name "path") (.var "b")) (.ite (.val (.bh endsF (.var "path") (.var "sep"))) (.assign (.name "path") (.bh kT (.var "path") (.var "b"))) (.assign (.name "path") (.bh kT (.var "path") (.add (.var "sep") (.var "b")))))))) (.ret (.var "path"))))))
noncomputable def iV:FM:=fO (bO (p4 "a" "p") Aa)
noncomputable def GH:MS:=(.cons (.assign (.name "path") (.a8 iU (aG [(.var "path")]))) (.cons (.ite (.val (.bh mY (.var "path") (.typ "bytes"))) .never (.cons (.assign (.name "sep") (.str "/")) (.cons (.assign (.name "dot") (.str ".")) (.assign (.name "dotdot") (.str ".."))))) (.cons (.ite (.not (.val (.var "path"))) (.ret (.var "dot")) .nil) (.cons (.assign (.tup [(.name "_"),(.name "initial_slashes"),(.name "path")]) (.a8 xg (aG [(.var "path")]))) (.cons (.assign (.name "comps") (.aI (.bh pf (.var "path") (.var "sep")))) (.cons (.assign (.name "new_comps") (.d9 (.list []))) (.cons (.cD (.of (.var "comps")) (.name "comp") (.cons (.ite (.or (.not (.val (.var "comp"))) (.val (.eq (.var "comp") (.var "dot")))) .cont .nil) (.ite (.or (.val (.ne (.var "comp") (.var "dotdot"))) (.or (.and (.not (.val (.var "initial_slashes"))) (.not (.val (.var "new_comps")))) (.and (.val (.var "new_comps")) (.val (.eq (.idx (.var "new_comps") (.neg (.int 1))) (.var "dotdot")))))) (.expr (.dB eh fK (.var "new_comps") (.var "comp"))) (.ite (.val (.var "new_comps")) (.expr (.ax pa (.var "new_comps"))) .nil)))) (.cons (.assign (.name "comps") (.var "new_comps")) (.cons (.assign (.name "path") (.add (.var "initial_slashes") (.bh jd (.var "sep") (.var "comps")))) (.ret (.or (.var "path") (.var "dot"))))))))))))
noncomputable def q8:FM:=fO (bO (bind1 "path") GH)
noncomputable def vH:MS:=(.cons (.ite (.not (.val (.var "m"))) (.ret (.str "")) .nil) (.cons (.ite (.not (.val (.bh mY (.idx (.var "m") (.int 0)) (.tup [(.typ "list"),(.typ "tuple")])))) .never .nil) (.cons (.assign (.name "s1") (.ax (mE false) (.var "m"))) (.cons (.assign (.name "s2") (.ax (mE true) (.var "m"))) (.cons (.cD (.enum (.var "s1")) (.tup [(.name "i"),(.name "c")]) (.ite (.val (.ne (.var "c") (.idx (.var "s2") (.var "i")))) (.ret (.slice (.var "s1") .none (some (.var "i")))) .nil)) (.ret (.var "s1")))))))
noncomputable def pz:FM:=fO (bO (bind1 "m") vH)
noncomputable def z9:MS:=(.cons (.assign (.name "paths") (.qH iU (.var "paths"))) (.cons (.ite (.not (.val (.var "paths"))) .never .nil) (.cons (.ite (.val (.bh mY (.idx (.var "paths") (.int 0)) (.typ "bytes"))) .never (.cons (.assign (.name "sep") (.str "/")) (.assign (.name "curdir") (.str ".")))) (.cons (.assign (.name "split_paths") (.aI (.comp (.of (.var "paths")) (.name "path") [] (.elt (.aI (.bh pf (.var "path") (.var "sep")))) [".0","path"] (.list [])))) (.cons (.qJ "isabs" (.comp (.of (.var "paths")) (.name "p") [] (.nC (.bh tu (.var "p") (.var "sep"))) [".0","p"] (.i0 false))) (.cons (.assign (.name "split_paths") (.aI (.comp (.of (.var "split_paths")) (.name "s") [] (.elt (.aI (.comp (.of (.var "s")) (.name "c") [(.and (.val (.var "c")) (.val (.ne (.var "c") (.var "curdir"))))] (.elt (.var "c")) [".0","c"] (.list [])))) [".0","s"] (.list [])))) (.cons (.assign (.name "s1") (.ax (mE false) (.var "split_paths"))) (.cons (.assign (.name "s2") (.ax (mE true) (.var "split_paths"))) (.cons (.assign (.name "common") (.var "s1")) (.cons (.cD (.enum (.var "s1")) (.tup [(.name "i"),(.name "c")]) (.ite (.val (.ne (.var "c") (.idx (.var "s2") (.var "i")))) (.cons (.assign (.name "common") (.slice (.var "s1") .none (some (.var "i")))) .brk) .nil)) (.cons (.assign (.name "prefix") (.ite (.val (.var "isabs")) (.var "sep") (.slice (.var "sep") .none (some (.int 0))))) (.ret (.add (.var "prefix") (.bh jd (.var "sep") (.var "common")))))))))))))))
noncomputable def px:FM:=fO (bO (bind1 "paths") z9)
noncomputable def GD:MS:=(.cons (.assign (.name "digits") (.list [])) (.cons (.cD (.of (.list [(.int 6),(.int 6),(.int 2),(.int 4),(.int 6),(.int 3),(.int 4)])) (.name "base") (.assign (.tup [(.name "digits"),(.name "number")]) (.tup [(.add (.var "digits") (.list [(.mod (.var "number") (.var "base"))])),(.fdiv (.var "number") (.var "base"))]))) (.cons (.assign (.name "pieces") (.aI (.comp (.of (.list [(.int 0),(.int 1),(.int 4)])) (.name "place") [] (.elt (.idx (.list [(.str "a"),(.str "b"),(.str "ab"),(.str ".."),(.str "."),(.str "")]) (.idx (.var "digits") (.var "place")))) [".0","place"] (.list [])))) (.cons (.assign (.name "names") (.list [])) (.cons (.cD (.of (.var "pieces")) (.name "piece") (.ite (.val (.eq (.var "piece") (.str ".."))) (.assign (.name "names") (.slice (.var "names") .none (some (.neg (.int 1))))) (.ite (.val (.jg (.var "piece") (.list [(.str ""),(.str ".")]))) (.assign (.name "names") (.add (.var "names") (.list [(.var "piece")]))) .nil))) (.ret (.tup [(.var "pieces"),(.var "names"),(.idx (.list [(.str ""),(.str "a"),(.str "b"),(.str "ab")]) (.idx (.var "digits") (.int 3))),(.eq (.idx (.var "digits") (.int 2)) (.int 1)),(.idx (.var "digits") (.int 5)),(.idx (.var "digits") (.int 6))])))))))
noncomputable def qZ:FM:=fO (bO (bind1 "number") GD)
noncomputable def GG:MS:=(.cons (.assign (.name "ways") (.d9 (.mN (.str "/") (.list [(.str "/")])))) (.cons (.cD (.of (.var "lines")) (.name "line") (.cD (.pd (.ax bW (.idx (.var "line") (.int 1)))) (.name "size") (.cons (.assign (.name "way") (.aI (.comp (.gT (.add (.var "size") (.int 1))) (.name "cut") [] (.elt (.add (.str "/") (.bh jd (.str "/") (.slice (.idx (.var "line") (.int 1)) .none (some (.var "cut")))))) [".0","cut"] (.list [])))) (.ite (.val (.jg (.idx (.var "way") (.neg (.int 1))) (.var "ways"))) (.assign (.sub (.var "ways") (.idx (.var "way") (.neg (.int 1)))) (.var "way")) .nil)))) (.ret (.var "ways"))))
noncomputable def q7:FM:=fO (bO (bind1 "lines") GG)
noncomputable def GC:MS:=(.cons (.assign (.name "mine") (.aI (.comp (.gT (.ax bW (.var "lines"))) (.name "mark") [(.val (.eq (.add (.str "/") (.bh jd (.str "/") (.idx (.idx (.var "lines") (.var "mark")) (.int 1)))) (.var "folder")))] (.elt (.var "mark")) [".0","mark"] (.list [])))) (.cons (.assign (.name "agents") (.aI (.comp (.enum (.list [(.str "fig"),(.str "Plum"),(.str "*")])) (.tup [(.name "place"),(.name "name")]) [(.val (.ne (.var "place") (.idx (.add (.aI (.comp (.of (.var "mine")) (.name "mark") [] (.elt (.idx (.idx (.var "lines") (.var "mark")) (.int 5))) [".0","mark"] (.list []))) (.list [(.int 3)])) (.int 0))))] (.elt (.var "name")) [".0","place","name"] (.list [])))) (.cons (.assign (.name "agents") (.slice (.slice (.add (.var "agents") (.var "agents")) (some (.mod (.idx (.add (.var "mine") (.list [(.int 0)])) (.int 0)) (.ax bW (.var "agents")))) .none) .none (some (.ax bW (.var "agents"))))) (.cons (.assign (.name "delays") (.add (.list [.none_]) (.aI (.comp (.of (.var "mine")) (.name "mark") [(.val (.eq (.idx (.idx (.var "lines") (.var "mark")) (.int 4)) (.int 1)))] (.elt (.mul (.int 5) (.var "mark"))) [".0","mark"] (.list []))))) (.cons (.assign (.name "rates") (.add (.list [.none_]) (.aI (.comp (.of (.var "mine")) (.name "mark") [(.val (.eq (.idx (.idx (.var "lines") (.var "mark")) (.int 4)) (.int 2)))] (.elt (.mul (.int 7) (.var "mark"))) [".0","mark"] (.list []))))) (.ret (.tup [(.var "agents"),(.var "mine"),(.idx (.var "delays") (.neg (.int 1))),(.idx (.var "rates") (.neg (.int 1)))])))))))
noncomputable def pD:FM:=fO (bO (j3 "lines" "folder") GC)
noncomputable def GB:MS:=(.cons (.assign (.name "agents") (.aI (.comp (.of (.idx (.idx (.var "plains") (.int 0)) (.int 0))) (.name "name") [(.val (.eq (.aI (.comp (.of (.var "plains")) (.name "one") [(.val (.jg (.var "name") (.idx (.var "one") (.int 0))))] (.elt (.var "one")) [".0","one"] (.list []))) (.list [])))] (.elt (.var "name")) [".0","name"] (.list [])))) (.cons (.assign (.name "marks") (.aI (.comp (.of (.var "plains")) (.name "one") [] (.inner (.of (.idx (.var "one") (.int 1))) (.name "mark") [] (.elt (.var "mark"))) [".0","one","mark"] (.list [])))) (.cons (.assign (.name "delays") (.add (.list [.none_]) (.aI (.comp (.of (.var "plains")) (.name "one") [(.val (.kg (.idx (.var "one") (.int 2)) .none_))] (.elt (.idx (.var "one") (.int 2))) [".0","one"] (.list []))))) (.cons (.assign (.name "rates") (.add (.list [.none_]) (.aI (.comp (.of (.var "plains")) (.name "one") [(.val (.kg (.idx (.var "one") (.int 3)) .none_))] (.elt (.idx (.var "one") (.int 3))) [".0","one"] (.list []))))) (.ret (.tup [(.var "agents"),(.var "marks"),(.idx (.var "delays") (.neg (.int 1))),(.idx (.var "rates") (.neg (.int 1)))]))))))
noncomputable def mm:FM:=fO (bO (bind1 "plains") GB)
noncomputable def GF:MS:=(.ret (.tup [(.ax (aV 59 "useragents") (.var "record")),(.aI (.comp (.of (.ax (aV 59 "rulelines") (.var "record"))) (.name "line") [] (.elt (.ax (aV cj "mark") (.var "line"))) [".0","line"] (.list []))),(.ax (aV 59 "delay") (.var "record")),(.ax (aV 59 "req_rate") (.var "record"))]))
noncomputable def fT:FM:=bO (bind1 "record") GF
noncomputable def RT:MS:=(.cons (.assign (.attr 59 "useragents" (.var "self")) (.d9 (.list []))) (.cons (.assign (.attr 59 "rulelines" (.var "self")) (.d9 (.list []))) (.cons (.assign (.attr 59 "delay" (.var "self")) .none_) (.assign (.attr 59 "req_rate" (.var "self")) .none_))))
noncomputable def xe:FM:=bO (bind1 "self") RT
noncomputable def RZ:MS:=(.cons (.assign (.slot 176 0 (.var "self")) (.var "node")) (.cons (.assign (.slot 176 1 (.var "self")) (.int 0)) (.assign (.slot 176 2 (.var "self")) (.d9 (.list [])))))
noncomputable def xf:FM:=bO (j3 "self" "node") RZ
noncomputable def R6:MS:=(.cons (.assign (.attr 273 "_node2info" (.var "self")) (.d9 .mM)) (.cons (.assign (.attr 273 "_ready_nodes" (.var "self")) .none_) (.cons (.assign (.attr 273 "_npassedout" (.var "self")) (.int 0)) (.cons (.assign (.attr 273 "_nfinished" (.var "self")) (.int 0)) (.ite (.val (.kg (.var "graph") .none_)) .never .nil)))))
noncomputable def xh:FM:=bO (yq "self" "graph") R6
noncomputable def Gz:MS:=(.cons (.ite (.val (.is (.var "useragent") .none_)) (.ret (.jH (.str "*") (.ax (aV 59 "useragents") (.var "self")))) .nil) (.cons (.assign (.name "useragent") (.ax sE (.idx (.aI (.bh pf (.var "useragent") (.str "/"))) (.int 0)))) (.cons (.cD (.of (.ax (aV 59 "useragents") (.var "self"))) (.name "agent") (.ite (.val (.ne (.var "agent") (.str "*"))) (.cons (.assign (.name "agent") (.ax sE (.var "agent"))) (.ite (.val (.jH (.var "agent") (.var "useragent"))) (.ret (.bool true)) .nil)) .nil)) (.ret (.bool false)))))
noncomputable def pA:FM:=bO (j3 "self" "useragent") Gz
noncomputable def mh:FM:=yR 59 xe
noncomputable def pv:FM:=yR 273 xh
noncomputable def qW:FM:=D1 176 xf
noncomputable def R4:MS:=(.cons (.pg "result" (.dB mV p_ (.ax (aV 273 "_node2info") (.var "self")) (.var "node")) (.pZ (.sub (.ax (aV 273 "_node2info") (.var "self")) (.var "node")) (.name "result") (.a8 qW (aG [(.var "node")]))) .nil) (.ret (.var "result")))
noncomputable def lq:FM:=bO (j3 "self" "node") R4
noncomputable def R1:MS:=(.cons (.ite (.val (.kg (.ax (aV 273 "_ready_nodes") (.var "self")) .none_)) .never .nil) (.cons (.assign (.name "nodeinfo") (.dC 273 "_get_nodeinfo" lq (.var "self") (aG [(.var "node")]))) (.cons (.lH 176 1 kT (.var "nodeinfo") (.ax bW (.var "predecessors"))) (.cD (.of (.var "predecessors")) (.name "pred") (.cons (.assign (.name "pred_info") (.dC 273 "_get_nodeinfo" lq (.var "self") (aG [(.var "pred")]))) (.expr (.dB eh fK (.ax (eY 176 2) (.var "pred_info")) (.var "node"))))))))
noncomputable def jr:FM:=bO (yr "self" "node" "predecessors") R1
noncomputable def R5:MS:=(.cons (.ite (.val (.is (.ax (aV 273 "_ready_nodes") (.var "self")) .none_)) .never .nil) (.cons (.assign (.name "result") (.ax wD (.ax (aV 273 "_ready_nodes") (.var "self")))) (.cons (.assign (.name "n2i") (.ax (aV 273 "_node2info") (.var "self"))) (.cons (.cD (.of (.var "result")) (.name "node") (.assign (.slot 176 1 (.idx (.var "n2i") (.var "node"))) (.int (-1)))) (.cons (.expr (.ax oA (.ax (aV 273 "_ready_nodes") (.var "self")))) (.cons (.oj 273 "_npassedout" kT (.var "self") (.ax bW (.var "result"))) (.ret (.var "result"))))))))
noncomputable def nO:FM:=bO (bind1 "self") R5
noncomputable def R7:MS:=(.cons (.ite (.val (.is (.ax (aV 273 "_ready_nodes") (.var "self")) .none_)) .never .nil) (.ret (.or (.lt (.ax (aV 273 "_nfinished") (.var "self")) (.ax (aV 273 "_npassedout") (.var "self"))) (.ax yt (.ax (aV 273 "_ready_nodes") (.var "self"))))))
noncomputable def nP:FM:=bO (bind1 "self") R7
noncomputable def R2:MS:=(.cons (.ite (.val (.is (.ax (aV 273 "_ready_nodes") (.var "self")) .none_)) .never .nil) (.cons (.assign (.name "n2i") (.ax (aV 273 "_node2info") (.var "self"))) (.cD (.of (.var "nodes")) (.name "node") (.cons (.pg "nodeinfo" (.dB mV p_ (.var "n2i") (.var "node")) .never .nil) (.cons (.assign (.name "stat") (.ax (eY 176 1) (.var "nodeinfo"))) (.cons (.ite (.val (.ne (.var "stat") (.int (-1)))) .never .nil) (.cons (.assign (.slot 176 1 (.var "nodeinfo")) (.int (-2))) (.cons (.cD (.of (.ax (eY 176 2) (.var "nodeinfo"))) (.name "successor") (.cons (.assign (.name "successor_info") (.idx (.var "n2i") (.var "successor"))) (.cons (.lH 176 1 u7 (.var "successor_info") (.int 1)) (.ite (.val (.eq (.ax (eY 176 1) (.var "successor_info")) (.int 0))) (.expr (.dB eh fK (.ax (aV 273 "_ready_nodes") (.var "self")) (.var "successor"))) .nil)))) (.oj 273 "_nfinished" kT (.var "self") (.int 1))))))))))
noncomputable def pF:FM:=bO (p4 "self" "nodes") R2
noncomputable def R3:MS:=(.cons (.assign (.name "n2i") (.ax (aV 273 "_node2info") (.var "self"))) (.cons (.assign (.name "stack") (.d9 (.list []))) (.cons (.assign (.name "itstack") (.d9 (.list []))) (.cons (.assign (.name "seen") (.d9 .te)) (.cons (.assign (.name "node2stacki") (.d9 .mM)) (.cons (.cD (.p9 (.var "n2i")) (.name "node") (.cons (.ite (.val (.bh oV (.var "node") (.var "seen"))) .cont .nil) (.nF fuel (.val (.bool true)) (.cons (.ite (.val (.bh oV (.var "node") (.var "seen"))) (.ite (.val (.jH (.var "node") (.var "node2stacki"))) .never .nil) (.cons (.expr (.dB sz wh (.var "seen") (.var "node"))) (.cons (.expr (.dB eh fK (.var "itstack") (.ax qg (.ax (eY 176 2) (.idx (.var "n2i") (.var "node")))))) (.cons (.assign (.sub (.var "node2stacki") (.var "node")) (.ax bW (.var "stack"))) (.expr (.dB eh fK (.var "stack") (.var "node"))))))) (.nF fuel (.val (.var "stack")) (.qG "node" (.idx (.var "itstack") (.neg (.int 1))) "node2stacki" "stack" "itstack") .brk)) .nil))) (.ret .none_)))))))
noncomputable def q9:FM:=bO (bind1 "self") R3
noncomputable def R8:MS:=(.cons (.ite (.val (.kg (.ax (aV 273 "_ready_nodes") (.var "self")) .none_)) .never .nil) (.cons (.assign (.attr 273 "_ready_nodes" (.var "self")) (.d9 (.comp (.values (.ax (aV 273 "_node2info") (.var "self"))) (.name "i") [(.val (.eq (.ax (eY 176 1) (.var "i")) (.int 0)))] (.elt (.ax (eY 176 0) (.var "i"))) [".0","i"] (.list [])))) (.cons (.assign (.name "cycle") (.dC 273 "_find_cycle" q9 (.var "self") (aG []))) (.ite (.val (.var "cycle")) .never .nil))))
noncomputable def pG:FM:=bO (bind1 "self") R8
noncomputable def Ab:ME:=(.ite (.val (.eq (.slice (.var "name") .none (some (.var "size"))) (.var "path"))) (.add (.var "size") (.int 1)) (.int 0))
noncomputable def pB:FL:=FZ (bind1 "name") Ab
noncomputable def Ac:MS:=(.cons (.assign (.name "path") (.a8 iV (aG [(.a8 q8 (aG [(.a8 iV (r7 (.str "/") (.idx (.var "told") (.int 0))))])),(.idx (.var "told") (.int 2))]))) (.assign (.name "size") (.ax bW (.var "path"))))
noncomputable def Ad:MS:=(.cons (.assign (.name "line") (.d9 (.ia cj))) (.cons (.assign (.attrL cj "applies_to" (.var "line")) (.lam iM ["size","path"])) (.cons (.assign (.tup [(.attrL cj "allowance" (.var "line")),(.attrL cj "path" (.var "line")),(.attrL cj "mark" (.var "line"))]) (.tup [(.idx (.var "told") (.int 3)),(.var "path"),(.var "mark")])) (.ret (.var "line")))))
noncomputable def pC:FM:=bO (j3 "told" "mark") (.IB Ac Ad)
noncomputable def RS:MS:=(.cons (.assign (.name "best_match") (.neg (.int 1))) (.cons (.assign (.name "allowance") (.bool true)) (.cons (.cD (.of (.ax (aV 59 "rulelines") (.var "self"))) (.name "line") (.cons (.assign (.name "m") (.sH cj iM "applies_to" pB (.var "line") (aG [(.var "filename")]))) (.ite (.val (.var "m")) (.ite (.val (.gt (.var "m") (.var "best_match"))) (.cons (.assign (.name "best_match") (.var "m")) (.assign (.name "allowance") (.ax (aV cj "allowance") (.var "line")))) (.ite (.and (.val (.eq (.var "m") (.var "best_match"))) (.not (.val (.var "allowance")))) (.assign (.name "allowance") (.ax (aV cj "allowance") (.var "line"))) .nil)) .nil))) (.ret (.var "allowance")))))
noncomputable def lp:FM:=bO (j3 "self" "filename") RS
noncomputable def RY:MS:=(.cons (.assign (.name "entry") (.call mh [])) (.cons (.assign (.attr 59 "useragents" (.var "entry")) (.d9 (.oL (.ax (aV 59 "useragents") (.var "e2")) (.ax (aV 59 "useragents") (.var "e1"))))) (.cons (.assign (.attr 59 "rulelines" (.var "entry")) (.d9 (.bh ui (.ax (aV 59 "rulelines") (.var "e1")) (.ax (aV 59 "rulelines") (.var "e2"))))) (.cons (.assign (.attr 59 "delay" (.var "entry")) (.ite (.val (.is (.ax (aV 59 "delay") (.var "e2")) .none_)) (.ax (aV 59 "delay") (.var "e1")) (.ax (aV 59 "delay") (.var "e2")))) (.cons (.assign (.attr 59 "req_rate" (.var "entry")) (.ite (.val (.is (.ax (aV 59 "req_rate") (.var "e2")) .none_)) (.ax (aV 59 "req_rate") (.var "e1")) (.ax (aV 59 "req_rate") (.var "e2")))) (.ret (.var "entry")))))))
noncomputable def gX:FM:=bO (j3 "e1" "e2") RY
noncomputable def RW:MS:=(.cons (.assign (.name "record") (.call mh [])) (.cons (.expr (.dB eh p8 (.ax (aV 59 "useragents") (.var "record")) (.idx (.var "plain") (.int 0)))) (.cons (.expr (.dB eh p8 (.ax (aV 59 "rulelines") (.var "record")) (.aI (.comp (.of (.idx (.var "plain") (.int 1))) (.name "mark") [] (.elt (.a8 pC (aG [(.idx (.var "lines") (.var "mark")),(.var "mark")]))) [".0","mark"] (.list []))))) (.cons (.assign (.tup [(.attr 59 "delay" (.var "record")),(.attr 59 "req_rate" (.var "record"))]) (.tup [(.idx (.var "plain") (.int 2)),(.idx (.var "plain") (.int 3))])) (.ret (.var "record"))))))
noncomputable def pE:FM:=bO (j3 "lines" "plain") RW
noncomputable def RX:MS:=(.cons (.assign (.name "sorter") (.call pv [])) (.cons (.expr (.dC 273 "add" jr (.var "sorter") (aG [(.str "/")]))) (.cons (.cD (.of (.slice (.var "folders") (some (.int 1)) .none)) (.name "folder") (.expr (.dC 273 "add" jr (.var "sorter") (aG [(.var "folder"),(.a8 fm (aG [(.var "folder")]))])))) (.cons (.expr (.dC 273 "prepare" pG (.var "sorter") (aG []))) (.cons (.assign (.tup [(.name "answers"),(.name "ready"),(.name "order"),(.name "kept"),(.name "whole")]) (.tup [(.d9 (.list [])),(.list []),(.d9 (.list [])),(.d9 .mM),(.idx (.var "own") (.str "/"))])) (.cons (.cD (.gT (.ax bW (.var "folders"))) (.name "step") (.cons (.expr (.dB eh fK (.var "answers") (.tup [(.ax jR (.dC 273 "is_active" nP (.var "sorter") (aG []))),(.dC 273 "get_ready" nO (.var "sorter") (aG []))]))) (.cons (.assign (.name "ready") (.add (.var "ready") (.aI (.ax qk (.idx (.idx (.var "answers") (.neg (.int 1))) (.int 1)))))) (.cons (.ite (.val (.eq (.var "ready") (.list []))) .brk .nil) (.cons (.assign (.name "folder") (.idx (.var "ready") (.mod (.idx (.var "numbers") (.mod (.var "step") (.ax bW (.var "numbers")))) (.ax bW (.var "ready"))))) (.cons (.assign (.name "ready") (.aI (.comp (.of (.var "ready")) (.name "one") [(.val (.ne (.var "one") (.var "folder")))] (.elt (.var "one")) [".0","one"] (.list [])))) (.cons (.expr (.dB eh fK (.var "order") (.var "folder"))) (.cons (.assign (.sub (.var "kept") (.var "folder")) (.ite (.val (.eq (.var "folder") (.str "/"))) (.idx (.var "own") (.var "folder")) (.a8 gX (aG [(.idx (.var "kept") (.a8 fm (aG [(.var "folder")]))),(.idx (.var "own") (.var "folder"))])))) (.cons (.assign (.name "whole") (.ite (.val (.eq (.var "folder") (.str "/"))) (.var "whole") (.a8 gX (aG [(.var "whole"),(.idx (.var "own") (.var "folder"))])))) (.expr (.dC 273 "done" pF (.var "sorter") (aG [(.var "folder")])))))))))))) (.cons (.expr (.dB eh fK (.var "answers") (.tup [(.ax jR (.dC 273 "is_active" nP (.var "sorter") (aG []))),(.dC 273 "get_ready" nO (.var "sorter") (aG []))]))) (.ret (.tup [(.var "answers"),(.var "order"),(.var "kept"),(.var "whole")])))))))))
noncomputable def q6:FM:=bO (yp "folders" "own" "numbers") RX
noncomputable def RV:MS:=(.cons (.assign (.name "numbers") (.aI (.comp (.gT (.int 6)) (.name "place") [] (.elt (.add (.ax sumF (.nh (.slice (.var "script") .none (some (.int 60))) (some (.var "place")) .none (some (.int 6)))) (.idx (.list [(.int 18394),(.int 15468),(.int 1446),(.int 1279),(.int 18254),(.int 8898)]) (.var "place")))) [".0","place"] (.list [])))) (.cons (.assign (.name "lines") (.aI (.comp (.of (.var "numbers")) (.name "number") [] (.elt (.a8 qZ (aG [(.var "number")]))) [".0","number"] (.list [])))) (.cons (.assign (.name "ways") (.a8 q7 (aG [(.var "lines")]))) (.cons (.assign (.name "folders") (.aI (.ax sD (.var "ways")))) (.cons (.assign (.name "plain") (.aI (.comp (.of (.var "folders")) (.name "folder") [] (.kv (.var "folder") (.a8 pD (aG [(.var "lines"),(.var "folder")]))) [".0","folder"] (.dict [])))) (.cons (.assign (.name "own") (.aI (.comp (.of (.var "folders")) (.name "folder") [] (.kv (.var "folder") (.a8 pE (aG [(.var "lines"),(.idx (.var "plain") (.var "folder"))]))) [".0","folder"] (.dict [])))) (.cons (.assign (.tup [(.name "answers"),(.name "order"),(.name "kept"),(.name "whole")]) (.a8 q6 (aG [(.var "folders"),(.var "own"),(.var "numbers")]))) (.cons (.assign (.name "inside") (.aI (.comp (.of (.var "folders")) (.name "folder") [] (.kv (.var "folder") (.ax wD (.aI (.comp (.of (.slice (.var "folders") (some (.int 1)) .none)) (.name "one") [(.val (.eq (.idx (.idx (.var "ways") (.var "one")) (.neg (.int 2))) (.var "folder")))] (.elt (.var "one")) [".0","one"] (.list []))))) [".0","folder"] (.dict [])))) (.cons (.ite (.val (.ne (.aI (.comp (.of (.var "folders")) (.name "folder") [] (.elt (.a8 fm (aG [(.var "folder")]))) [".0","folder"] (.list []))) (.add (.list [(.str "/")]) (.aI (.comp (.of (.slice (.var "folders") (some (.int 1)) .none)) (.name "folder") [] (.elt (.idx (.idx (.var "ways") (.var "folder")) (.neg (.int 2)))) [".0","folder"] (.list [])))))) (.ret (.bool false)) .nil) (.cons (.ite (.val (.ne (.var "answers") (.add (.add (.list [(.tup [(.str "True"),(.tup [(.str "/")])])]) (.aI (.comp (.of (.slice (.var "order") .none (some (.neg (.int 1))))) (.name "folder") [] (.elt (.tup [(.str "True"),(.idx (.var "inside") (.var "folder"))])) [".0","folder"] (.list [])))) (.list [(.tup [(.str "False"),(.tup [])])])))) (.ret (.bool false)) .nil) (.cons (.ite (.val (.ne (.list [(.a8 fT (aG [(.var "whole")])),(.a8 fT (aG [(.a8 gX (aG [(.idx (.var "own") (.str "/")),(.var "whole")]))]))]) (.aI (.comp (.of (.list [(.var "order"),(.add (.list [(.str "/")]) (.var "order"))])) (.name "row") [] (.elt (.a8 mm (aG [(.aI (.comp (.of (.var "row")) (.name "one") [] (.elt (.idx (.var "plain") (.var "one"))) [".0","one"] (.list [])))]))) [".0","row"] (.list []))))) (.ret (.bool false)) .nil) (.cons (.cD (.of (.var "folders")) (.name "folder") (.cons (.assign (.name "due") (.a8 mm (aG [(.aI (.comp (.of (.idx (.var "ways") (.var "folder"))) (.name "one") [] (.elt (.idx (.var "plain") (.var "one"))) [".0","one"] (.list [])))]))) (.cons (.assign (.name "heard") (.aI (.comp (.of (.list [(.str "Big*Figs/plum"),(.str "xpLumy"),.none_])) (.name "name") [] (.elt (.dC 59 "applies_to" pA (.idx (.var "kept") (.var "folder")) (aG [(.var "name")]))) [".0","name"] (.list [])))) (.ite (.or (.val (.ne (.a8 fT (aG [(.idx (.var "kept") (.var "folder"))])) (.var "due"))) (.val (.ne (.ax jR (.var "heard")) (.ax jR (.aI (.comp (.of (.list [(.str "fig"),(.str "Plum"),(.str "*")])) (.name "agent") [] (.elt (.jH (.var "agent") (.idx (.var "due") (.int 0)))) [".0","agent"] (.list []))))))) (.ret (.bool false)) .nil)))) (.cons (.assign (.name "rules") (.aI (.comp (.of (.var "lines")) (.name "line") [] (.elt (.tup [(.add (.add (.bh jd (.str "") (.aI (.comp (.of (.idx (.var "line") (.int 1))) (.name "name") [] (.elt (.add (.str "/") (.var "name"))) [".0","name"] (.list [])))) (.str "/")) (.idx (.var "line") (.int 2))),(.idx (.var "line") (.int 3))])) [".0","line"] (.list [])))) (.cons (.ite (.val (.ne (.aI (.comp (.of (.ax (aV 59 "rulelines") (.var "whole"))) (.name "line") [] (.elt (.ax (aV cj "path") (.var "line"))) [".0","line"] (.list []))) (.aI (.comp (.of (.ax (aV 59 "rulelines") (.var "whole"))) (.name "line") [] (.elt (.idx (.idx (.var "rules") (.ax (aV cj "mark") (.var "line"))) (.int 0))) [".0","line"] (.list []))))) (.ret (.bool false)) .nil) (.cons (.cD (.of (.add (.aI (.comp (.of (.var "rules")) (.tup [(.name "path"),(.name "allowed")]) [] (.elt (.var "path")) [".0","path","allowed"] (.list []))) (.aI (.comp (.of (.var "folders")) (.name "folder") [] (.elt (.a8 iV (aG [(.var "folder"),(.str "b")]))) [".0","folder"] (.list []))))) (.name "name") (.cons (.assign (.name "right") (.idx (.ax (mE true) (.add (.list [(.tup [(.neg (.int 1)),(.bool true)])]) (.aI (.comp (.of (.var "rules")) (.tup [(.name "path"),(.name "allowed")]) [(.val (.eq (.slice (.var "name") .none (some (.ax bW (.var "path")))) (.var "path")))] (.elt (.tup [(.ax bW (.var "path")),(.var "allowed")])) [".0","path","allowed"] (.list []))))) (.int 1))) (.ite (.val (.ne (.ax jR (.list [(.dC 59 "allowance" lp (.var "whole") (aG [(.var "name")])),(.dC 59 "allowance" lp (.idx (.var "kept") (.a8 fm (aG [(.var "name")]))) (aG [(.var "name")]))])) (.ax jR (.list [(.var "right"),(.var "right")])))) (.ret (.bool false)) .nil))) (.cons (.cD (.of (.add (.list [(.tup [(.int 0),(.ax bW (.var "lines"))])]) (.aI (.comp (.gT (.sub (.ax bW (.var "lines")) (.int 1))) (.name "place") [] (.elt (.tup [(.var "place"),(.add (.var "place") (.int 2))])) [".0","place"] (.list []))))) (.tup [(.name "first"),(.name "behind")]) (.cons (.assign (.name "ends") (.aI (.comp (.of (.slice (.var "lines") (some (.var "first")) (some (.var "behind")))) (.name "line") [] (.elt (.add (.str "/") (.bh jd (.str "/") (.idx (.var "line") (.int 1))))) [".0","line"] (.list [])))) (.ite (.val (.ne (.a8 pz (aG [(.aI (.comp (.of (.var "ends")) (.name "end") [] (.elt (.idx (.a8 fT (aG [(.idx (.var "kept") (.var "end"))])) (.int 1))) [".0","end"] (.list [])))])) (.idx (.a8 fT (aG [(.idx (.var "kept") (.a8 px (aG [(.var "ends")])))])) (.int 1)))) (.ret (.bool false)) .nil))) (.cons (.cD (.of (.aI (.comp (.of (.slice (.var "folders") (some (.int 1)) .none)) (.name "folder") [] (.inner (.of (.list [(.ax (aV 59 "useragents") (.idx (.var "kept") (.var "folder"))),(.ax (aV 59 "rulelines") (.idx (.var "kept") (.var "folder")))])) (.name "one") [] (.elt (.var "one"))) [".0","folder","one"] (.list [])))) (.name "part") (.expr (.ax oA (.var "part")))) (.ret (.eq (.aI (.comp (.of (.var "folders")) (.name "folder") [] (.elt (.a8 fT (aG [(.idx (.var "own") (.var "folder"))]))) [".0","folder"] (.list []))) (.aI (.comp (.of (.var "folders")) (.name "folder") [] (.elt (.idx (.var "plain") (.var "folder"))) [".0","folder"] (.list []))))))))))))))))))))))
noncomputable def tY:FM:=bO (bind1 "script") RV
section
structure Bx(P:Prop):Prop where
 out:P
section
variable {A B C D_ E F G H I J Q:Prop}
theorem eT(h:Bx (A->Q))(a:Bx A):Bx Q:=⟨h.1 a.1⟩
theorem bk(h:A->Q)(a:Bx A):Bx Q:=⟨h a.1⟩
theorem gQ(h:A->B->Q)(a:Bx A)(b:Bx B):Bx Q:=⟨h a.1 b.1⟩
theorem iG(h:A->B->C->Q)(a:Bx A)(b:Bx B)(c:Bx C):Bx Q:=⟨h a.1 b.1 c.1⟩
theorem h6(h:A->B->C->D_->Q)(a:Bx A)(b:Bx B)(c:Bx C)(d:Bx D_):Bx Q:=⟨h a.1 b.1 c.1 d.1⟩
theorem i4(h:A->B->C->D_->E->Q)(a:Bx A)(b:Bx B)(c:Bx C)(d:Bx D_)(e:Bx E):Bx Q:=⟨h a.1 b.1 c.1 d.1 e.1⟩
theorem j5(h:A->B->C->D_->E->F->Q)(a:Bx A)(b:Bx B)(c:Bx C)(d:Bx D_)(e:Bx E)(f:Bx F):Bx Q:=⟨h a.1 b.1 c.1 d.1 e.1 f.1⟩
theorem yx(h:A->B->C->D_->E->F->G->Q)(a:Bx A)(b:Bx B)(c:Bx C)(d:Bx D_)(e:Bx E)(f:Bx F)(g:Bx G):Bx Q:=⟨h a.1 b.1 c.1 d.1 e.1 f.1 g.1⟩
theorem mF(h:A->B->C->D_->E->F->G->H->Q)(a:Bx A)(b:Bx B)(c:Bx C)(d:Bx D_)(e:Bx E)(f:Bx F)(g:Bx G)(i:Bx H):Bx Q:=⟨h a.1 b.1 c.1 d.1 e.1 f.1 g.1 i.1⟩
theorem j6(h:A->B->C->D_->E->F->G->H->I->Q)(a:Bx A)(b:Bx B)(c:Bx C)(d:Bx D_)(e:Bx E)(f:Bx F)(g:Bx G)(i:Bx H)(j:Bx I):Bx Q:=⟨h a.1 b.1 c.1 d.1 e.1 f.1 g.1 i.1 j.1⟩
end
inductive BN where
 | inst (k:aq)
 | slot (i:Nat) (p:aq)
 | line
structure Cx where
 nt:List String
 K:kC
 mg:aj->Option af
 mb:aj->Option af
 fns:List (String×aq×FM)
 o3:List (String×aq×FM)
 ms:List (aj×aq×aq×FM)
 uq:List (aj×BN)
 cells:List String
 add:Bool
 ke:String×aq×FM
 lm:FL
structure fS(W:Wd)(n:Nat)(c:Cx):Prop where
 ok:W.Ok
 K:W.K=c.K
 mg:W.mg=c.mg
 mb:∀x:aj,x≠ "__name__" ->W.mb x=c.mb x
 inst:∀k,k≠cj->W.hU k
 sl:∀o sl,W.kind 176 o->W.kind 176 {o with slots:=sl}
 line:W.nQ cj
 vq:∀fd,W.kind cj {cls:=.type "function",data:=.func fd}
 fns:∀p∈c.fns,Bx (ba W (n+6) p.2.1 p.2.2)
 o3:∀p∈c.o3,Bx (ba W (n+6) p.2.1 p.2.2)
 ms:∀p∈c.ms,Bx (ba W (n+6) p.2.2.1 p.2.2.2)
 lm:Bx (jv W (n+6) iM c.lm)
 ke:Bx (ba W n c.ke.2.1 (fO c.ke.2.2))
@[elab_as_elim] noncomputable def sQ (e:ay) {motive:ay->Type} [Inhabited (motive e)] (k:∀x p,motive (.Name x p)):motive e:=if h:e.ctorIdx=23 then XE (motive_1:=motive) e h k else default
@[elab_as_elim] noncomputable def lJ (e:ay) {motive:ay->Type} [Inhabited (motive e)] (k:∀f as g p,motive (.Call f as g p)):motive e:=if h:e.ctorIdx=16 then Xw (motive_1:=motive) e h k else default
@[elab_as_elim] noncomputable def kJ (e:ay) {motive:ay->Type} [Inhabited (motive e)] (k:∀o n p,motive (.Attribute o n p)):motive e:=if h:e.ctorIdx=20 then Xt (motive_1:=motive) e h k else default
@[elab_as_elim] noncomputable def jm (e:ay) {motive:ay->Type} [Inhabited (motive e)] (k:∀u k p,motive (.Tuple u k p)):motive e:=if h:e.ctorIdx=25 then XK (motive_1:=motive) e h k else default
@[elab_as_elim] noncomputable def Vr (e:ay) {motive:ay->Type} [Inhabited (motive e)] (k:∀a p,motive (.Starred a p)):motive e:=if h:e.ctorIdx=22 then XI (motive_1:=motive) e h k else default
@[elab_as_elim] noncomputable def F1 (e:ay) {motive:ay->Type} [Inhabited (motive e)] (k:∀a r s p,motive (.ListComp a r s p)):motive e:=if h:e.ctorIdx=8 then XD (motive_1:=motive) e h k else default
@[elab_as_elim] noncomputable def Ed (e:ay) {motive:ay->Type} [Inhabited (motive e)] (k:∀a b r s p,motive (.DictComp a b r s p)):motive e:=if h:e.ctorIdx=10 then XA (motive_1:=motive) e h k else default
@[elab_as_elim] noncomputable def HO (e:ay) {motive:ay->Type} [Inhabited (motive e)] (k:∀a r s p,motive (.SetComp a r s p)):motive e:=if h:e.ctorIdx=9 then XG (motive_1:=motive) e h k else default
@[elab_as_elim] noncomputable def tv (e:ay) {motive:ay->Type} [Inhabited (motive e)] (k:∀a b p,motive (.Subscript a b p)):motive e:=if h:e.ctorIdx=21 then XJ (motive_1:=motive) e h k else default
@[elab_as_elim] noncomputable def Vf (e:ay) {motive:ay->Type} [Inhabited (motive e)] (k:∀a b d p,motive (.Slice a b d p)):motive e:=if h:e.ctorIdx=26 then XH (motive_1:=motive) e h k else default
@[elab_as_elim] noncomputable def y6 (e:ay) {motive:ay->Type} [Inhabited (motive e)] (k:∀v k p,motive (.Constant v k p)):motive e:=if h:e.ctorIdx=19 then Xy (motive_1:=motive) e h k else default
@[elab_as_elim] noncomputable def Bo (e:ay) {motive:ay->Type} [Inhabited (motive e)] (k:∀o a p,motive (.UnaryOp o a p)):motive e:=if h:e.ctorIdx=3 then XM (motive_1:=motive) e h k else default
@[elab_as_elim] noncomputable def DA (e:ay) {motive:ay->Type} [Inhabited (motive e)] (k:∀a o b p,motive (.BinOp a o b p)):motive e:=if h:e.ctorIdx=2 then Xu (motive_1:=motive) e h k else default
@[elab_as_elim] noncomputable def yY (e:ay) {motive:ay->Type} [Inhabited (motive e)] (k:∀a o b p,motive (.Compare a o b p)):motive e:=if h:e.ctorIdx=15 then Xx (motive_1:=motive) e h k else default
@[elab_as_elim] noncomputable def DE (e:ay) {motive:ay->Type} [Inhabited (motive e)] (k:∀o l p,motive (.BoolOp o l p)):motive e:=if h:e.ctorIdx=0 then Xv (motive_1:=motive) e h k else default
@[elab_as_elim] noncomputable def Qx (e:ay) {motive:ay->Type} [Inhabited (motive e)] (k:∀a b d p,motive (.IfExp a b d p)):motive e:=if h:e.ctorIdx=5 then XB (motive_1:=motive) e h k else default
@[elab_as_elim] noncomputable def Gj (e:ay) {motive:ay->Type} [Inhabited (motive e)] (k:∀l p,motive (.List l p)):motive e:=if h:e.ctorIdx=24 then XC (motive_1:=motive) e h k else default
@[elab_as_elim] noncomputable def Ob (e:ay) {motive:ay->Type} [Inhabited (motive e)] (k:∀g P p,motive (.Dict g P p)):motive e:=if h:e.ctorIdx=6 then Xz (motive_1:=motive) e h k else default
@[elab_as_elim] noncomputable def SS (e:ay) {motive:ay->Type} [Inhabited (motive e)] (k:∀a b p,motive (.NamedExpr a b p)):motive e:=if h:e.ctorIdx=1 then XF (motive_1:=motive) e h k else default
@[elab_as_elim] noncomputable def EG (e:bZ) {motive:bZ->Type} [Inhabited (motive e)] (k:∀e p,motive (.Expr e p)):motive e:=if h:e.ctorIdx=24 then X3 (motive_2:=motive) e h k else default
@[elab_as_elim] noncomputable def retS (e:bZ) {motive:bZ->Type} [Inhabited (motive e)] (k:∀e p,motive (.Return e p)):motive e:=if h:e.ctorIdx=3 then X5 (motive_2:=motive) e h k else default
@[elab_as_elim] noncomputable def DG (e:bZ) {motive:bZ->Type} [Inhabited (motive e)] (k:∀p,motive (.Break p)):motive e:=if h:e.ctorIdx=26 then X0 (motive_2:=motive) e h k else default
@[elab_as_elim] noncomputable def NV (e:bZ) {motive:bZ->Type} [Inhabited (motive e)] (k:∀p,motive (.Continue p)):motive e:=if h:e.ctorIdx=27 then X1 (motive_2:=motive) e h k else default
@[elab_as_elim] noncomputable def Qw (e:bZ) {motive:bZ->Type} [Inhabited (motive e)] (k:∀t a b p,motive (.If t a b p)):motive e:=if h:e.ctorIdx=12 then Stmt.If.elim (motive_2:=motive) e h k else default
@[elab_as_elim] noncomputable def O1 (e:bZ) {motive:bZ->Type} [Inhabited (motive e)] (k:∀t i a b p,motive (.For t i a b p)):motive e:=if h:e.ctorIdx=9 then X4 (motive_2:=motive) e h k else default
@[elab_as_elim] noncomputable def WB (e:bZ) {motive:bZ->Type} [Inhabited (motive e)] (k:∀t a b p,motive (.While t a b p)):motive e:=if h:e.ctorIdx=11 then X7 (motive_2:=motive) e h k else default
@[elab_as_elim] noncomputable def MG (e:bZ) {motive:bZ->Type} [Inhabited (motive e)] (k:∀t o v p,motive (.AugAssign t o v p)):motive e:=if h:e.ctorIdx=7 then XZ (motive_2:=motive) e h k else default
@[elab_as_elim] noncomputable def V3 (e:bZ) {motive:bZ->Type} [Inhabited (motive e)] (k:∀a b d f p,motive (.Try a b d f p)):motive e:=if h:e.ctorIdx=17 then X6 (motive_2:=motive) e h k else default
@[elab_as_elim] noncomputable def Dt (e:bZ) {motive:bZ->Type} [Inhabited (motive e)] (k:∀t v p,motive (.Assign t v p)):motive e:=if h:e.ctorIdx=5 then XY (motive_2:=motive) e h k else default
@[elab_as_elim] noncomputable def Od (e:bZ) {motive:bZ->Type} [Inhabited (motive e)] (k:∀t p,motive (.Delete t p)):motive e:=if h:e.ctorIdx=4 then X2 (motive_2:=motive) e h k else default
section
variable {α:Type}
@[elab_as_elim] noncomputable def fA (l:List α) {motive:List α->Type} [∀l,Inhabited (motive l)] (k:motive []):motive l:=match l with| []=>k| _::_=>default
@[elab_as_elim] noncomputable def y5 (l:List α) {motive:List α->Type} [∀l,Inhabited (motive l)] (k:∀a l,motive (a::l)):motive l:=match l with| []=>default| a::l=>k a l
@[elab_as_elim] noncomputable def eN (l:List α) {motive:List α->Type} [∀l,Inhabited (motive l)] (k:∀a,motive [a]):motive l:=match l with| []=>default| a::l=>fA l (k a)
@[elab_as_elim] noncomputable def ky (l:List α) {motive:List α->Type} [∀l,Inhabited (motive l)] (k:∀a b,motive [a,b]):motive l:=match l with| []=>default| a::l=>eN l (k a)
@[elab_as_elim] noncomputable def IC (l:List α) {motive:List α->Type} [∀l,Inhabited (motive l)] (k:∀a b c,motive [a,b,c]):motive l:=match l with| []=>default| a::l=>ky l (k a)
noncomputable def alt (x y:Option α):Option α:=match x with| some a=>some a| none=>y
end
abbrev Ok{α:Type}(J:α->Prop):Type:=Option {m:α // Bx (J m)}
noncomputable def ns (e:ay):Bool:= !(e.ctorIdx==22)
theorem ej{e:ay}(h:ns e=true)(u:List ay)(J:bg):bB (e::u) J=(false,aU e J)::bB u J:=by cases e<;>first| rfl| exact lj h
theorem Dr{e:ay}(h:ns e=true)(u:List ay)(J:bg):gy (e::u) J=(false,assign e J)::gy u J:=by cases e<;>first| rfl| exact lj h
theorem sU{u:List ay}(h:u.all ns=true)(J:bg):(bB u J).any (·.1)=false:=by
 induction u with
 | nil=>rfl
 | cons e u S=>have h:=band h;rw [ej h.1];exact S h.2
theorem Fi{u:List ay}(J:bg)(h:(bB u J).any (·.1)=false):(bB u J).head?.any (·.1)=false:=by
 generalize bB u J=l at h
 induction l with
 | nil=>rfl
 | cons x r=>rw [pL,Je] at h;exact h.1
noncomputable def qm (e:ay):Bool:= !(e.ctorIdx==16)
theorem j2{o:ay}(h:qm o=true)(a:aj)(J:bg)(w:bY af):iE o a J w=w:=by cases o<;>first| rfl| exact lj h
noncomputable def Ax (e:ay):Bool:= !(e.ctorIdx==7)
theorem EY{e:ay}(h:Ax e=true)(J:bg)(x:af):ib e J x=pure x:=by cases e<;>first| rfl| exact lj h
noncomputable def vS (e:ay):Bool:= !(e.ctorIdx==8|| (e.ctorIdx==9|| e.ctorIdx==10))
theorem Iv{e:ay}(h:vS e=true)(t:Option ay)(l:Nat)(J:bg):Iw e t l J=pure false:=by cases e<;>first| rfl| exact lj h
theorem wA{e t:ay}(h:vS e=true)(l:Nat)(J:bg):kq [t] e l J=pure false:=Iv h _ l J
noncomputable def Iu (sc s:cR) (q:Nat) (id:aj) (p:bc):Bool:=(if sc.kind.isAnnotationScope then LJ else sc.kind)==.function && sc.names.lookup id==some .local && p.line==q && !(s.names.any λ(n,k)=>n==id && (k==.local|| k==.cell))
noncomputable def qC (sc:cR) (l:List ay):List aj:=l.filterMap λ
 | .Name id R=>if sc.names.lookup id==some .local && R.line==(l.head?.map (·.pos.line)).getD 0 then some id else none
 | _=>none
noncomputable def It (sc:cR) (l P:List ay) (r:bY (Option (List aj))):bY (Option (List aj)):=
 if (!(l.length==2|| l.length==3)|| P.length !=l.length|| (if sc.kind.isAnnotationScope then LJ else sc.kind) !=.function)=true then pure none else
 if (P.any λ| .Starred .. =>true| _=>false)=true then pure none else
 if ((qC sc l).length !=l.length|| (qC sc l).eraseDups.length !=(qC sc l).length)=true then pure none else r
theorem Vn{si:SI}{l P k p f w}(h:(!(l.length==2|| l.length==3)|| (qC si.sc l).length !=l.length)=true)(J:bg)(B:J.scope=si.sc):l0 [.Tuple l k p] (.Tuple P f w) J=pure none:=by
 have e:∃r,l0 [.Tuple l k p] (.Tuple P f w) J=It J.scope l P r:=⟨_,rfl⟩
 obtain⟨r,e⟩:=e
 rw [e,B]
 unfold It
 generalize (P.any λ| .Starred .. =>true| _=>false)=K
 generalize ((qC si.sc l).length !=l.length)=x at h ⊢
 generalize (!(l.length==2|| l.length==3))=q at h ⊢
 induction q with
 | true=>rfl
 | false=>induction x with
  | true=>induction K<;>exact(ite_self _)
  | false=>exact lj h
theorem Vo{l k p}{v:ay}(h:(v.ctorIdx==25)=false)(J:bg):l0 [.Tuple l k p] v J=pure none:=by cases v<;>first| rfl| exact lj h
structure CV(t:ay):Prop where
 s1:∀v env,l0 [t] v env=pure none
 s2:∀u v env,l0 [t,u] v env=pure none
 a1:∀es env,gy (t::es) env=(false,assign t env)::gy es env
noncomputable def tB (t:ay):Option (PLift (CV t)):=
 alt (sQ t λZ Z=>some ⟨λZ Z=>rfl,λZ Z Z=>rfl,λZ Z=>rfl⟩) (alt (kJ t λZ Z Z=>some ⟨λZ Z=>rfl,λZ Z Z=>rfl,λZ Z=>rfl⟩) (tv t λZ Z Z=>some ⟨λZ Z=>rfl,λZ Z Z=>rfl,λZ Z=>rfl⟩))
end
section
structure Cs(W:Wd)(n:Nat) where
 E:∀si e,Ok (Ev W n si e)
 B:∀si e,Ok (Eb W n si e)
 F:∀si e,Ok (bG W n si e)
 I:∀si t e,Ok (du W n si t e)
 T:∀si e,Ok (Et W n si e)
 S:∀si e,Ok (Ex W n si e)
structure BI(W:Wd)(si:SI)(x:String)(v:af):Prop where
 hk:si.kind x=some .globalImplicit
 hb:(au x==("__debug__" :aj))=false
 v:W.mg (au x)=some v
section
variable {W:Wd} {n:Nat} {c:Cx}
theorem Ev.Wl{si x R}(h:i6 si x=true):Ev W n si (.Name (au x) R) (.var x):=λZ st F e=>ob e λZ U e=>sj e (zT st F U h)
noncomputable def Ar (l:List String) (s:aj):Option {x:String // au x=s}:=match l with
 | []=>none
 | x::l=>if h:au x=s then some ⟨x,h⟩ else Ar l s
@[elab_as_elim] noncomputable def sR (c:Cx) (s:aj) {motive:aj->Type} [Inhabited (motive s)] (k:∀x:String,motive (au x)):motive s:=match Ar c.nt s with
  | some x=>x.2▸k x.1
  | none=>default
@[elab_as_elim] noncomputable def jN (c:Cx) (e:ay) {motive:ay->Type} [∀e,Inhabited (motive e)] (k:∀x p,motive (.Name (au x) p)):motive e:=sQ e λs p=>sR c s λx=>k x p
@[elab_as_elim] noncomputable def jc (x:String) (e:ay) {motive:ay->Type} [∀e,Inhabited (motive e)] (k:∀p,motive (.Name (au x) p)):motive e:=sQ e λs p=>if h:au x=s then h▸k p else default
@[elab_as_elim] noncomputable def nq (x:String) (s:aj) {motive:aj->Type} [Inhabited (motive s)] (k:motive (au x)):motive s:=if h:au x=s then h▸k else default
noncomputable def isNm (e:ay) (x:String):Bool:=(jc (motive:=λZ=>Option Unit) x e λZ=>some ()).isSome
noncomputable def iF (H:fS W n c) (si:SI) (x:String) (v:af):Option (PLift (iv W si x v)):=
 if h:si.kind x=some .globalImplicit/\(au x==("__debug__" :aj))=false/\au x≠ "__name__" /\c.mg (au x)=none/\c.mb (au x)=some v then
  some ⟨h.1,h.2.1,(congrFun H.mg _).trans h.2.2.2.1,(H.mb _ h.2.2.1).trans h.2.2.2.2⟩ else none
noncomputable def yg (H:fS W n c) (si:SI) (x:String) (v:af):Option (PLift (BI W si x v)):=
 if h:si.kind x=some .globalImplicit/\(au x==("__debug__" :aj))=false/\c.mg (au x)=some v then some ⟨h.1,h.2.1,(congrFun H.mg _).trans h.2.2⟩ else none
noncomputable def Value.V9:af->Option String| .type t=>some t| _=>none
noncomputable def Value.LZ:af->Option aq| .ref a=>some a| _=>none
noncomputable def Value.Qz:af->Option (Int×de)| .int i t=>some (i,t)| _=>none
noncomputable def cN {k} (H:fS W n c) (si:SI) (x:String) (p:bc):Ok (Ev W k si (.Name (au x) p)):=
 if O:i6 si x=true then some ⟨.var x,bk Ev.Wl ⟨O⟩⟩ else
 alt ((c.mb (au x)).bind λv=>(Value.V9 v).bind λt=>(iF H si x (.type t)).bind λb=>some ⟨.typ t,i4 Ev.typ ⟨H.ok⟩ ⟨b.1.hk⟩ ⟨b.1.hb⟩ ⟨b.1.hg⟩ ⟨b.1.hm⟩⟩)
  ((c.mg (au x)).bind λv=>(Value.Qz v).bind λt=>(yg H si x (.int t.1 t.2)).bind λb=>some ⟨.int t.1,h6 Ev.Pm ⟨H.ok⟩ ⟨b.1.hk⟩ ⟨b.1.hb⟩ ⟨b.1.v⟩⟩)
noncomputable def cK {si} (c:Cx) (v:Const) {k p}:Ok (Ev W n si (.Constant v k p)):=match v with
 | .int i=>some ⟨.int i,bk (λZ=>Ev.int) ⟨trivial⟩⟩
 | .bool b=>some ⟨.bool b,bk (λZ=>Ev.bool) ⟨trivial⟩⟩
 | .none=>some ⟨.none_,bk (λZ=>Ev.S_) ⟨trivial⟩⟩
 | .str s=>sR c s λx=>if h:x.length<=1000 then some ⟨.str x,bk Ev.str ⟨h⟩⟩ else none
 | _=>none
noncomputable def MN (op:CK) (l:ay):Ok (bL W n (kL op)):=match op with
 | .Add=>some ⟨_,⟨Op.add⟩⟩
 | .Sub=>some ⟨_,⟨Op.sub⟩⟩
 | .Mod=>some ⟨_,⟨Op.mod⟩⟩
 | .FloorDiv=>some ⟨_,⟨Op.fdiv⟩⟩
 | .Mult=>bif isNm l "sep" then some ⟨_,⟨Op.Ak⟩⟩ else some ⟨_,⟨Op.mul⟩⟩
 | _=>none
noncomputable def NM (op:mj) (r:ay):Option {f // Bx (bL W n (iJ op) f)/\yn op r=false}:=if h:yn op r=false then match op,h with
 | .Eq,h=>some ⟨_,⟨Op.eq⟩,h⟩
 | .NotEq,h=>some ⟨_,⟨Op.ne⟩,h⟩
 | .Lt,h=>some ⟨_,⟨Op.lt⟩,h⟩
 | .Gt,h=>some ⟨_,⟨Op.gt⟩,h⟩
 | .Is,h=>some ⟨_,⟨Op.is⟩,h⟩
 | .IsNot,h=>some ⟨_,⟨Op.kg⟩,h⟩
 | .In,h=>bif isNm r "seen" then some ⟨_,⟨Op.inSet⟩,h⟩ else some ⟨_,⟨Op.jH⟩,h⟩
 | .NotIn,h=>some ⟨_,⟨Op.jg⟩,h⟩
 | _,_=>none else none
noncomputable def DK (R:Cs W n) (si:SI) (l:ay) (j:List mj) (y:List ay) {p}:Option {m // Bx (Ev W n si (.Compare l j y p) m)/\Bx (Eb W n si (.Compare l j y p) (.val m))}:=
 eN j λop=>eN y λe=>(NM op e).bind λf=>(R.E si l).bind λa=>(R.E si e).bind λb=>some ⟨.bh f.1 a.1 b.1,h6 Ev.yX f.2.1 a.2 b.2 ⟨f.2.2⟩,h6 Eb.yX f.2.1 a.2 b.2 ⟨f.2.2⟩⟩
noncomputable def vB (e:ay):Bool:= !(e.ctorIdx==15|| (e.ctorIdx==3|| (e.ctorIdx==0|| e.ctorIdx==5)))
theorem Wj{e:ay}(h:vB e=true)(J:bg)(w:bY af):qf e J w=(do let v ← w;ip e.pos;kf [v] (truthy v)):=by cases e<;>first| rfl| exact lj h
noncomputable def cB (R:Cs W n) (si:SI) (e:ay):Ok (Eb W n si e):=
 alt (yY e λl j Z p=>(DK R si l j Z).bind λm=>some ⟨.val m.1,m.2.2⟩)<|
 alt (Bo e λop x p=>match op with| .Not=>(R.B si x).bind λb=>some ⟨.not b.1,bk Eb.not b.2⟩| _=>none)<|
 alt (DE e λop P p=>alt (ky P λx y=>(R.B si x).bind λa=>(R.B si y).bind λb=>match op with| .And=>some ⟨.and a.1 b.1,gQ Eb.yh a.2 b.2⟩| .Or=>some ⟨.or a.1 b.1,gQ Eb.AF a.2 b.2⟩)
  (IC P λx y z=>match op with| .Or=>(R.B si x).bind λa=>(R.B si y).bind λb=>(R.B si z).bind λd=>some ⟨.or a.1 (.or b.1 d.1),iG Eb.or3 a.2 b.2 d.2⟩| _=>none))<|
 if h:vB e=true then (R.E si e).bind λm=>some ⟨.val m.1,gQ Eb.val m.2 ⟨Wj h⟩⟩ else none
noncomputable def cL (R:Cs W n) (si:SI):(u:List ay)->Option {I // Bx (dN W n si u I)/\u.all ns=true}
 | []=>some ⟨[],bk (λZ=>dN.nil) ⟨trivial⟩,rfl⟩
 | e::u=>if h:ns e=true then (R.E si e).bind λm=>(cL R si u).bind λI=>some ⟨m.1::I.1,iG dN.cons m.2 I.2.1 ⟨λJ=>ej h _ J⟩,by rw [xo,h];exact I.2.2⟩ else none
noncomputable def cA (R:Cs W n) (si:SI) (u:List ay):Option {g // Bx (fF W n si u g)/\∀J,(bB u J).head?.any (·.1)=false}:=
 alt ((cL R si u).bind λI=>some ⟨aG I.1,bk fF.of I.2.1,λJ=>Fi J (sU I.2.2 J)⟩)
  (ky u λa b=>Vr b λb p=>if h:ns a=true then (R.E si a).bind λm=>(R.E si b).bind λd=>some ⟨r7 m.1 d.1,iG fF.Vq m.2 d.2 ⟨λJ=>by rw [ej h];rfl⟩,λJ=>by rw [ej h];rfl⟩ else none)
end
end
section
section
variable {W:Wd} {n:Nat} {c:Cx}
structure Un(W:Wd)(n:Nat)(si:SI)(x:String) where
 f:af
 F:D->MH->Option (D×MH)
 b:iv W si x f
 v:isVal f=true
 o:Bx (fH W n (λv=>bM f [v]) F)
noncomputable def nD (H:fS W n c) (si:SI) (x:String) (f:af) {F:D->MH->Option (D×MH)} (v:isVal f=true) (o:Bx (fH W (n+6) (λv=>bM f [v]) F)):Option (Un W (n+6) si x):=(iF H si x f).bind λb=>some ⟨f,F,b.1,v,o⟩
noncomputable def We (H:fS W n c) (si:SI) (x:String):Option (Un W (n+6) si x):=
 alt (nD H si x (.builtin "len") rfl ⟨Op.len⟩)<|alt (nD H si x (.builtin "max") rfl ⟨Op.max⟩)<|alt (nD H si x (.builtin "min") rfl ⟨Op.min⟩)<|alt (nD H si x (.builtin "sum") rfl ⟨Op.sum⟩)<|
 alt (nD H si x (.type "str") rfl ⟨Op.str⟩)<|alt (nD H si x (.type "bool") rfl ⟨Op.bool⟩)<|alt (nD H si x (.type "tuple") rfl ⟨Op.tuple⟩) (nD H si x (.type "type") rfl ⟨Op.type⟩)
noncomputable def MZ (H:fS W n c) (R:Cs W (n+6)) (si:SI) (f:ay) (as:List ay) (p:bc):Ok (Ev W (n+6) si (.Call f as [] p)):=
 jN c f λx q=>(We H si x).bind λu=>eN as λe=>if h:ns e=true then (R.E si e).bind λm=>some ⟨.ax u.F m.1,j6 Ev.yB ⟨H.ok⟩ ⟨u.b.hk⟩ ⟨u.b.hb⟩ ⟨u.b.hg⟩ ⟨u.b.hm⟩ ⟨u.v⟩ u.o m.2 ⟨λJ=>ej h _ J⟩⟩ else none
noncomputable def DJ (H:fS W n c) (R:Cs W (n+6)) (si:SI) (f:ay) (as:List ay) (p:bc) (x:String) {F} (o:Bx (bL W (n+6) (λv u=>bM (.builtin x) [v,u]) F)):Ok (Ev W (n+6) si (.Call f as [] p)):=
 jc x f λq=>(iF H si x (.builtin x)).bind λB=>ky as λa b=>if h:ns a=true/\ns b=true then (R.E si a).bind λm=>(R.E si b).bind λd=>
  some ⟨.bh F m.1 d.1,eT (eT (j6 Ev.Nj ⟨H.ok⟩ ⟨B.1.hk⟩ ⟨B.1.hb⟩ ⟨B.1.hg⟩ ⟨B.1.hm⟩ ⟨rfl⟩ o m.2 d.2) ⟨λJ=>by rw [ej h.1,ej h.2];rfl⟩) ⟨λJ=>ej h.2 _ J⟩⟩ else none
noncomputable def oM (K:kC) (a:aq):Bool:=(K.lookup a).any λo=>o.data.ctorIdx==7
theorem ET{K:kC}{a}(h:oM K a=true):∃o F,K.lookup a=some o/\o.data=.func F:=
 have⟨o,N,E⟩:∃o,K.lookup a=some o/\(o.data.ctorIdx==7)=true:=by
  unfold oM at h
  generalize K.lookup a=x at h ⊢
  induction x with
  | none=>exact lj h
  | some o=>exact⟨o,rfl,h⟩
 Xp (motive:=λd=>o.data=d->∃o F,K.lookup a=some o/\o.data=.func F) _ (eq_of_beq E) (λF e=>⟨o,F,N,e⟩) rfl
noncomputable def zo {P:aq->FM->Prop}:(l:List (String×aq×FM))->(∀p∈l,P p.2.1 p.2.2)->(x:String)->(a:aq)->Option {F // P a F}
 | [],_,_,_=>none
 | p::l,H,x,a=>if h:p.1=x/\p.2.1=a then some ⟨p.2.2,h.2▸H p (.head _)⟩ else zo l (λp T=>H p (.tail _ T)) x a
noncomputable def C2 (H:fS W n c) (si:SI) (x:String):Option {a:aq // BI W si x (.ref a)}:=(c.mg (au x)).bind λv=>(Value.LZ v).bind λa=>(yg H si x (.ref a)).bind λb=>some ⟨a,b.1⟩
noncomputable def M3 (H:fS W n c) (R:Cs W (n+6)) (si:SI) (f:ay) (as:List ay) (p:bc):Ok (Ev W (n+6) si (.Call f as [] p)):=
 jN c f λx q=>(C2 H si x).bind λa=>(zo (P:=λa F=>Bx (ba W (n+6) a F)) c.fns H.fns x a.1).bind λF=>if b:oM c.K a.1=true then (cA R si as).bind λg=>
  some ⟨.a8 F.1 g.1,mF Ev.Nk ⟨H.ok⟩ ⟨a.2.hk⟩ ⟨a.2.hb⟩ ⟨a.2.v⟩ ⟨ET (H.K▸b)⟩ F.2 g.2.1 ⟨g.2.2⟩⟩ else none
noncomputable def M5 (H:fS W n c) (R:Cs W (n+6)) (si:SI) (f:ay) (as:List ay) (p:bc):Ok (Ev W (n+6) si (.Call f as [] p)):=
 jN c f λx q=>(C2 H si x).bind λa=>(zo (P:=λa F=>Bx (ba W (n+6) a F)) c.o3 H.o3 x a.1).bind λF=>if hb:u9 c.K (.ref a.1)=true then
  alt (fA as (some ⟨.call F.1 [],j5 Ev.Nm ⟨H.ok⟩ ⟨a.2.hk⟩ ⟨a.2.hb⟩ ⟨a.2.v⟩ ⟨H.K▸hb⟩ F.2⟩))
   (y5 as λe u=>(cL R si (e::u)).bind λg=>some ⟨.a8 F.1 (aG g.1),eT (mF Ev.Nl ⟨H.ok⟩ ⟨a.2.hk⟩ ⟨a.2.hb⟩ ⟨a.2.v⟩ ⟨H.K▸hb⟩ F.2 (bk fF.of g.2.1) ⟨λJ=>ej (band g.2.2).1 _ J⟩) ⟨λJ=>sU (band g.2.2).2 J⟩⟩) else none
noncomputable def Nf (H:fS W n c) (R:Cs W (n+6)) (si:SI) (f:ay) (as:List ay) (p:bc):Ok (Ev W (n+6) si (.Call f as [] p)):=
 jc "tuple" f λq=>(iF H si "tuple" (.type "tuple")).bind λB=>eN as λa=>lJ a λf as g O=>fA g<|jc "map" f λN=>(iF H si "map" (.type "map")).bind λC=>ky as λz e=>jc c.ke.1 z λb=>
  (yg H si c.ke.1 (.ref c.ke.2.1)).bind λG=>if Z:ns e=true then (R.E si e).bind λm=>
    some ⟨.qH (fO c.ke.2.2) m.1,eT (eT (eT (mF Ev.qH ⟨H.ok⟩ ⟨B.1⟩ ⟨C.1⟩ ⟨G.1.hk⟩ ⟨G.1.hb⟩ ⟨G.1.v⟩ H.ke m.2) ⟨λJ=>by rw [ej (show ns (.Name _ b)=true from rfl),ej Z];rfl⟩) ⟨λJ=>ej Z _ J⟩) ⟨λJ=>rfl⟩⟩ else none
theorem zl{as:List ay}(h:as.all ns=true)(hl:as.length<29)(pos:bc)(J:bg):sI (as.length+([]:List pK).length) (fZ pos (bB as J)) (p0 pos (qh [] J))=true:=by
 have N:(fZ pos (bB as J)).all (!·.1)=true:=by rw [List.all_eq_not_any_not];simpa using kH (pos:=pos) (sU h J)
 unfold sI
 rw [N]
 show decide (as.length+0+_<30)=true
 exact decide_eq_true (ee (xH (by split<;>decide) _) (xM hl))
noncomputable def E9 {P:aq->FM->Prop}:(l:List (aj×aq×aq×FM))->(∀p∈l,P p.2.2.1 p.2.2.2)->(x:aj)->Option ((_:aq)× {q:aq×FM // P q.1 q.2})
 | [],_,_=>none
 | p::l,H,x=>if p.1=x then some ⟨p.2.1,p.2.2,H p (.head _)⟩ else E9 l (λp T=>H p (.tail _ T)) x
section
variable (H:fS W n c) (R:Cs W (n+6)) (si:SI) (o:ay) (bx:aj) (ap:bc) (as:List ay) (p:bc) (hb:qm o=true) (hl:(ap.endLine==p.line)=true)
noncomputable def M7:Ok (Ev W (n+6) si (.Call (.Attribute o bx ap) as [] p)):=if isNm o "seen" =true then none else (E9 (P:=λa F=>Bx (ba W (n+6) a F)) c.ms H.ms bx).bind λx=>
 if h:vM c.K x.1 bx x.2.1.1=true/\x.1≠cj then (R.E si o).bind λU=>
  alt (fA as (some ⟨.dC x.1 bx x.2.1.2 U.1 (aG []),mF Ev.Sw ⟨H.ok⟩ ⟨H.inst _ h.2⟩ ⟨H.K▸h.1⟩ x.2.2 U.2 ⟨λJ=>j2 hb _ J _⟩ ⟨λJ=>zl rfl (by decide) _ J⟩ ⟨hl⟩⟩))
   (y5 as λe u=>if B:(e::u).length<29 then (cL R si (e::u)).bind λg=>some ⟨.dC x.1 bx x.2.1.2 U.1 (aG g.1),eT (eT (j6 Ev.Sv ⟨H.ok⟩ ⟨H.inst _ h.2⟩ ⟨H.K▸h.1⟩ x.2.2 U.2 (bk fF.of g.2.1) ⟨λJ=>j2 hb _ J _⟩ ⟨λJ=>ej (band g.2.2).1 _ J⟩ ⟨λJ=>sU (band g.2.2).2 J⟩) ⟨λJ=>zl g.2.2 B _ J⟩) ⟨hl⟩⟩ else none) else none
noncomputable def M8:Ok (Ev W (n+6) si (.Call (.Attribute o bx ap) as [] p)):=if h:isNm o "line" =true/\bx= "applies_to" /\lO bx=true then (R.E si o).bind λU=>y5 as λe u=>if B:(e::u).length<29 then (cL R si (e::u)).bind λg=>
 some ⟨.sH cj iM bx c.lm U.1 (aG g.1),j6 Ev.Sx ⟨H.line⟩ ⟨h.2.2⟩ H.lm U.2 (bk fF.of g.2.1) ⟨λJ=>j2 hb _ J _⟩ ⟨λJ=>Fi J (sU g.2.2 J)⟩ ⟨λJ=>zl g.2.2 B _ J⟩ ⟨hl⟩⟩ else none else none
noncomputable def yy (m:String) {f} (k:Bx (rI W (n+6) m f)):Ok (Ev W (n+6) si (.Call (.Attribute o bx ap) as [] p)):=nq m bx<|fA as<|(R.E si o).bind λU=>some ⟨.ax f U.1,h6 Ev.method0 U.2 k ⟨λJ=>j2 hb _ J _⟩ ⟨hl⟩⟩
noncomputable def rT (m:String) {f} (k:Bx (n7 W (n+6) m f)):Ok (Ev W (n+6) si (.Call (.Attribute o bx ap) as [] p)):=nq m bx<|eN as λe=>if h:ns e=true then (R.E si o).bind λa=>(R.E si e).bind λb=>some ⟨.bh f a.1 b.1,j5 Ev.method1 a.2 b.2 k ⟨λJ=>j2 hb _ J _⟩ ⟨λJ=>ej h _ J⟩ ⟨hl⟩⟩ else none
noncomputable def uy (m:String) {g f} (k:Bx (pQ W (n+6) m g f)):Ok (Ev W (n+6) si (.Call (.Attribute o bx ap) as [] p)):=nq m bx<|eN as λe=>if h:ns e=true then (R.E si o).bind λa=>(R.E si e).bind λb=>some ⟨.dB g f a.1 b.1,j5 Ev.Su a.2 b.2 k ⟨λJ=>j2 hb _ J _⟩ ⟨λJ=>ej h _ J⟩ ⟨hl⟩⟩ else none
noncomputable def M9:Ok (Ev W (n+6) si (.Call (.Attribute o bx ap) as [] p)):=nq "split" bx<|eN as λe=>if h:ns e=true then (R.E si o).bind λa=>(R.E si e).bind λb=>some ⟨.aI (.bh pf a.1 b.1),bk Ev.aI (j5 bG.method1 a.2 b.2 ⟨M.split⟩ ⟨λJ=>j2 hb _ J _⟩ ⟨λJ=>ej h _ J⟩ ⟨hl⟩)⟩ else none
noncomputable def M_:Ok (Ev W (n+6) si (.Call (.Attribute o bx ap) as [] p)):=alt (M8 H R si o bx ap as p hb hl)<|alt (M7 H R si o bx ap as p hb hl)<|
 alt (yy R si o bx ap as p hb hl "lower" ⟨M.lower⟩)<|alt (yy R si o bx ap as p hb hl "pop" ⟨M.pop⟩)<|alt (yy R si o bx ap as p hb hl "clear" ⟨M.clear⟩)<|
 alt (rT R si o bx ap as p hb hl "startswith" ⟨M.starts⟩)<|alt (rT R si o bx ap as p hb hl "endswith" ⟨M.ends⟩)<|alt (rT R si o bx ap as p hb hl "rfind" ⟨M.rfind⟩)<|alt (rT R si o bx ap as p hb hl "rstrip" ⟨M.rstrip⟩)<|alt (rT R si o bx ap as p hb hl "join" ⟨M.join⟩)<|
 alt (uy R si o bx ap as p hb hl "append" ⟨M.append⟩)<|alt (uy R si o bx ap as p hb hl "extend" ⟨M.extend⟩)<|alt (uy R si o bx ap as p hb hl "get" ⟨M.get⟩)<|alt (uy R si o bx ap as p hb hl "add" ⟨M.US⟩) (M9 R si o bx ap as p hb hl)
end
end
end
section
section
variable {W:Wd} {n:Nat} {c:Cx} (H:fS W n c) (R:Cs W (n+6)) (si:SI)
noncomputable def MY (o:ay) (bx:aj) (p:bc) (hb:qm o=true):Ok (Ev W (n+6) si (.Attribute o bx p)):=(c.uq.lookup bx).bind λk=>(R.E si o).bind λm=>match k with
 | .inst k=>if h:k≠cj/\oO c.K k bx=true then some ⟨.ax (aV k bx) m.1,i4 Ev.attr ⟨H.ok⟩ ⟨H.inst _ h.1⟩ ⟨H.K▸h.2⟩ m.2 ⟨λJ=>j2 hb _ J _⟩⟩ else none
 | .slot i p=>if h:th c.K 176 bx p i=true then some ⟨.ax (eY 176 i) m.1,i4 Ev.slot ⟨H.ok⟩ ⟨H.inst _ (by decide)⟩ ⟨H.K▸h⟩ m.2 ⟨λJ=>j2 hb _ J _⟩⟩ else none
 | .line=>if h:lO bx=true then some ⟨.ax (aV cj bx) m.1,h6 Ev.attrL ⟨H.line⟩ ⟨h⟩ m.2 ⟨λJ=>j2 hb _ J _⟩⟩ else none
noncomputable def Nb (o:ay) (bx:aj) (p:bc):Ok (Ev W (n+6) si (.Attribute o bx p)):=nq "__next__" bx<|lJ o λf as g q=>fA g<|jc "iter" f λO=>(iF H si "iter" (.builtin "iter")).bind λB=>eN as λe=>if h:ns e=true then (R.E si e).bind λm=>
 some ⟨.ax qg m.1,i4 Ev.QW ⟨H.ok⟩ ⟨B.1⟩ m.2 ⟨λJ=>ej h _ J⟩ ⟨λJ=>rfl⟩⟩ else none
noncomputable def yz:(e:Option ay)->Option {m // Bx (nN W (n+6) si e m)}
 | none=>some ⟨none,⟨trivial⟩⟩
 | some e=>(R.E si e).bind λm=>some ⟨some m.1,m.2⟩
noncomputable def Nd (v s:ay) (p:bc):Ok (Ev W (n+6) si (.Subscript v s p)):=(R.E si v).bind λm=>alt
 (Vf s λx y z q=>(yz R si x).bind λa=>(yz R si y).bind λb=>match z with
   | none=>some ⟨.slice m.1 a.1 b.1,iG Ev.slice m.2 a.2 b.2⟩
   | some _=>(yz R si _).bind λk=>some ⟨.nh m.1 a.1 b.1 k.1,h6 Ev.nh m.2 a.2 b.2 k.2⟩)
 ((R.E si s).bind λi=>some ⟨.idx m.1 i.1,gQ Ev.idx m.2 i.2⟩)
noncomputable def Na (f:ay) (as:List ay) (p:bc):Ok (Ev W (n+6) si (.Call f as [] p)):=kJ f λo bx ap=>if h:qm o=true/\(ap.endLine==p.line)=true then M_ H R si o bx ap as p h.1 h.2 else none
noncomputable def M0 (f:ay) (as:List ay) (p:bc):Ok (Ev W (n+6) si (.Call f as [] p)):=alt (Nf H R si f as p)<|alt (MZ H R si f as p)<|alt (DJ H R si f as p "isinstance" ⟨Op.QM⟩)<|alt (DJ H R si f as p "issubclass" ⟨Op.QN⟩)<|alt (M5 H R si f as p)<|alt (M3 H R si f as p) (Na H R si f as p)
noncomputable def cE (e:ay):Ok (Ev W (n+6) si e):=
 alt (jN c e λx p=>cN H si x p)<|
 alt (y6 e λv k p=>cK c v)<|
 alt (kJ e λo bx p=>alt (Nb H R si o bx p) (if h:qm o=true then MY H R si o bx p h else none))<|
 alt (lJ e λf as g p=>fA g (M0 H R si f as p))<|
 alt (tv e λv s p=>Nd R si v s p)<|
 alt (Bo e λop x p=>(R.E si x).bind λm=>match op with| .USub=>some ⟨.neg m.1,bk Ev.neg m.2⟩| .Not=>some ⟨.not m.1,bk Ev.not m.2⟩| _=>none)<|
 alt (DA e λl op x p=>if c.add=true then (MN op l).bind λf=>(R.E si l).bind λa=>(R.E si x).bind λb=>some ⟨.bh f.1 a.1 b.1,iG Ev.binop f.2 a.2 b.2⟩ else none)<|
 alt (yY e λl j Z p=>(DK R si l j Z).bind λm=>some ⟨m.1,m.2.1⟩)<|
 alt (DE e λop P p=>ky P λx y=>(R.E si x).bind λa=>(R.E si y).bind λb=>match op with| .And=>some ⟨.and a.1 b.1,gQ Ev.yh a.2 b.2⟩| .Or=>some ⟨.or a.1 b.1,gQ Ev.AF a.2 b.2⟩)<|
 alt (Qx e λt x y p=>(R.B si t).bind λb=>(R.E si x).bind λa=>(R.E si y).bind λd=>some ⟨.ite b.1 a.1 d.1,iG Ev.ite b.2 a.2 d.2⟩)<|
 alt (Gj e λu p=>(cL R si u).bind λI=>some ⟨.list I.1,bk Ev.list I.2.1⟩)<|
 alt (jm e λu k p=>(cL R si u).bind λI=>some ⟨.tup I.1,bk Ev.tup I.2.1⟩)<|
 if (e.ctorIdx==8|| (e.ctorIdx==10|| e.ctorIdx==16))=true then (R.F si e).bind λm=>some ⟨.aI m.1,bk Ev.aI m.2⟩ else none
noncomputable def VS (c:Cx):ay->Option (List String)
 | .Name id _=>(Ar c.nt id).bind λx=>some [x.1]
 | .Tuple u _ _=>u.mapM λe=>jN (motive:=λZ=>Option String) c e λx Z=>some x
 | _=>none
noncomputable def Hf (c:Cx):List hN->Option (List String)
 | []=>some []
 | g::r=>(VS c g.target).bind λx=>(Hf c r).bind λy=>some (x++y)
noncomputable def DN:(u:List ay)->Ok (gv W (n+6) si u)
 | []=>some ⟨[],⟨.nil⟩⟩
 | e::u=>(R.B si e).bind λb=>(DN u).bind λbs=>some ⟨b.1::bs.1,⟨.cons b.2.1 bs.2.1⟩⟩
structure Cl(W:Wd)(n:Nat)(si HU:SI)(tg it:ay)(ifs:List ay) where
 mi:MI
 mt:MT
 bs:List MB
 i:Bx (du W n si tg it mi)
 t:Bx (Et W n HU tg mt)
 b:Bx (gv W n HU ifs bs)
 f:∀env x,ib it env x=pure x
@[elab_as_elim] noncomputable def rS (c:SI) (g:hN) {motive:hN->Type} [∀g,Inhabited (motive g)] (k:∀{a b d},Cl W (n+6) si c a b d->motive ⟨a,b,d,0⟩):motive g:=match g with
  | ⟨a,b,d,as⟩=>if h:0=as then h▸(if G:Ax b=true then match R.I si a b,R.T c a,DN R c d with
   | some i,some t,some b=>k ⟨i.1,t.1,b.1,i.2,t.2,b.2,λJ x=>EY G J x⟩
   | _,_,_=>default else default) else default
noncomputable def yA (c:Cx) (r:List hN) (I:cR):Option {o // jq si I o}:=(Hf c r).bind λo=>if h:y2 si I (".0" ::o)=true then some ⟨".0" ::o,.of h⟩ else none
structure Co(W:Wd)(n:Nat)(si:SI)(e:ay) where
 m:MF
 o:Bx (bG W n si e m)
 a:∀{tg mt H_},Bx (Et W n si tg mt)->(∀env:bg,env.scope=si.sc->kq [tg] e H_.line env=pure true)->CV tg->Bx (Ex W n si (.Assign [tg] e H_) (.assign mt (.aI m)))
noncomputable def DO (j:ay) (r:List hN) (I:cR) (p:bc):Option (Co W (n+6) si (.ListComp j r I p)):=(yA si c r I).bind λo=>(R.E (cC si I) j).bind λm=>
 alt (eN r λg=>rS R si (cC si I) g λK=>some ⟨.comp K.mi K.mt K.bs (.elt m.1) o.1 (.list []),yx bG.Ro ⟨H.ok⟩ ⟨o.2⟩ ⟨K.f⟩ K.i K.t K.b m.2,
  λT B G=>eT (j6 Ex.Mv ⟨H.ok⟩ ⟨o.2⟩ ⟨K.f⟩ K.i K.t K.b m.2 T ⟨B⟩) ⟨λJ=>G.a1 _ J⟩⟩)
  (ky r λg k=>rS R si (cC si I) g λK=>rS R (cC si I) (cC si I) k λa=>some ⟨.comp K.mi K.mt K.bs (.inner a.mi a.mt a.bs (.elt m.1)) o.1 (.list []),
    eT (eT (j6 bG.Rp ⟨H.ok⟩ ⟨o.2⟩ ⟨K.f⟩ ⟨a.f⟩ K.i K.t K.b a.i a.t) a.b) m.2,
    λT B G=>eT (eT (eT (eT (eT (j6 Ex.Mw ⟨H.ok⟩ ⟨o.2⟩ ⟨K.f⟩ ⟨a.f⟩ K.i K.t K.b a.i a.t) a.b) m.2) T) ⟨B⟩) ⟨λJ=>G.a1 _ J⟩⟩)
noncomputable def DM (O u:ay) (r:List hN) (I:cR) (p:bc):Option (Co W (n+6) si (.DictComp O u r I p)):=(yA si c r I).bind λo=>(R.E (cC si I) O).bind λa=>(R.E (cC si I) u).bind λb=>
 eN r λg=>rS R si (cC si I) g λK=>some ⟨.comp K.mi K.mt K.bs (.kv a.1 b.1) o.1 (.dict []),mF bG.Of ⟨H.ok⟩ ⟨o.2⟩ ⟨K.f⟩ K.i K.t K.b a.2 b.2,
  λT B G=>eT (eT (j6 Ex.Mu ⟨H.ok⟩ ⟨o.2⟩ ⟨K.f⟩ K.i K.t K.b a.2 b.2 T) ⟨B⟩) ⟨λJ=>G.a1 _ J⟩⟩
noncomputable def Nc (j:ay) (r:List hN) (I:cR) (p:bc):Ok (bG W (n+6) si (.SetComp j r I p)):=(yA si c r I).bind λo=>(R.E (cC si I) j).bind λm=>
 eN r λg=>rS R si (cC si I) g λK=>some ⟨.comp K.mi K.mt K.bs (.nC m.1) o.1 (.i0 false),yx bG.U7 ⟨H.ok⟩ ⟨o.2⟩ ⟨K.f⟩ K.i K.t K.b m.2⟩
noncomputable def M1 (e:ay) (p Z:bc):Ok (bG W (n+6) si (.Call (.Name (au "list") p) [e] [] Z)):=(iF H si "list" (.type "list")).bind λB=>lJ e λf as g q=>fA g<|jc "filter" f λN=>(iF H si "filter" (.type "filter")).bind λC=>ky as λt b=>kJ t λo bx v=>
 nq "__contains__" bx<|lJ o λf as g G=>fA g<|jc "set" f λl=>(iF H si "set" (.type "set")).bind λF=>eN as λa=>if h:ns a=true/\ns b=true then (R.E si a).bind λm=>(R.E si b).bind λd=>
  some ⟨.oL m.1 d.1,eT (eT (j6 (bG.oL (n:=n+2)) ⟨H.ok⟩ ⟨B.1⟩ ⟨C.1⟩ ⟨F.1⟩ m.2 d.2 ⟨λJ=>ej h.1 _ J⟩ ⟨λJ=>rfl⟩ ⟨λJ=>by rw [ej (show ns (.Attribute _ _ _)=true from rfl),ej h.2];rfl⟩) ⟨λJ=>ej h.2 _ J⟩) ⟨λJ=>rfl⟩⟩ else none
noncomputable def M6 (f:ay) (as:List ay) (p:bc):Ok (bG W (n+6) si (.Call f as [] p)):=
 alt (jc "list" f λq=>eN as λe=>alt (M1 H R si e q p) ((iF H si "list" (.type "list")).bind λB=>if h:ns e=true then (R.E si e).bind λm=>
  if isNm e "ways" =true then some ⟨.ax sD m.1,h6 (bG.Rq (n:=n+4)) ⟨H.ok⟩ ⟨B.1⟩ m.2 ⟨λJ=>ej h _ J⟩⟩
  else some ⟨.ax qk m.1,j6 bG.yB ⟨H.ok⟩ ⟨B.1.hk⟩ ⟨B.1.hb⟩ ⟨B.1.hg⟩ ⟨B.1.hm⟩ ⟨rfl⟩ ⟨xQ.list⟩ m.2 ⟨λJ=>ej h _ J⟩⟩ else none))
  (jc "set" f λq=>(iF H si "set" (.type "set")).bind λB=>fA as (some ⟨.te,h6 bG.te ⟨H.ok⟩ ⟨B.1.hk⟩ ⟨B.1.hg⟩ ⟨B.1.hm⟩⟩))
noncomputable def cF (e:ay):Ok (bG W (n+6) si e):=
 alt (Gj e λu p=>(cL R si u).bind λI=>some ⟨.list I.1,bk bG.list I.2.1⟩)<|
 alt (Ob e λg P p=>alt (fA g (fA P (some ⟨.mM,bk bG.mM ⟨H.ok⟩⟩))) (eN g λk=>eN P λv=>match k with
  | some k=>(R.E si k).bind λa=>(R.E si v).bind λb=>some ⟨.mN a.1 b.1,h6 bG.mN ⟨H.ok⟩ a.2 b.2 ⟨λZ=>rfl⟩⟩
  | none=>none))<|
 alt (F1 e λj r s p=>(DO H R si j r s p).bind λx=>some ⟨x.m,x.o⟩)<|
 alt (Ed e λk v r s p=>(DM H R si k v r s p).bind λx=>some ⟨x.m,x.o⟩)<|
 alt (HO e λj r s p=>Nc H R si j r s p)<|
 alt (DA e λl op x p=>match op with| .Add=>(R.E si l).bind λa=>(R.E si x).bind λb=>some ⟨.bh ui a.1 b.1,iG bG.binop ⟨xQ.add⟩ a.2 b.2⟩| _=>none)
 (lJ e λf as g p=>fA g (M6 H R si f as p))
end
end
section
theorem QH{si:SI}(h:si.sc.kind≠ .module)(J:bg)(B:J.scope=si.sc):zK J=false:=by
 unfold zK
 rw [B,beq_eq_false_iff_ne.mpr h]
 rfl
section
variable {W:Wd} {n:Nat} {c:Cx} (H:fS W n c) (R:Cs W (n+6)) (si:SI)
@[elab_as_elim] noncomputable def FF (i:Int) (e:ay) {motive:ay->Type} [∀e,Inhabited (motive e)] (k:∀q p,motive (.Constant (.int i) q p)):motive e:=y6 e λv q p=>if h: .int i=v then h▸k q p else default
noncomputable def M4 (tg e:ay):Ok (du W (n+6) si tg e):=lJ e λf as g p=>fA g<|
 alt (jc "range" f λq=>(iF H si "range" (.type "range")).bind λB=>alt (eN as λe=>if h:ns e=true then (R.E si e).bind λm=>some ⟨.gT m.1,j5 du.gT ⟨H.ok⟩ ⟨B.1.hk⟩ ⟨B.1.hg⟩ ⟨B.1.hm⟩ m.2 ⟨λJ=>ej h _ J⟩⟩ else none)
  (IC as λe x y=>FF 0 x λN O=>Bo y λop y T=>FF 1 y λG c=>match op with
    | .USub=>if h:ns e=true then (R.E si e).bind λm=>some ⟨.pd m.1,j5 du.pd ⟨H.ok⟩ ⟨B.1.hk⟩ ⟨B.1.hg⟩ ⟨B.1.hm⟩ m.2 ⟨λJ=>ej h _ J⟩⟩ else none
    | _=>none))<|
 alt (jc "enumerate" f λq=>(iF H si "enumerate" (.type "enumerate")).bind λB=>jm tg λu k T=>eN as λe=>if h:ns e=true then (R.E si e).bind λm=>some ⟨.enum m.1,h6 du.enum ⟨H.ok⟩ ⟨B.1⟩ m.2 ⟨λJ=>ej h _ J⟩⟩ else none)
 (kJ f λo bx ap=>nq "values" bx<|fA as<|if h:qm o=true/\(ap.endLine==p.line)=true then (R.E si o).bind λm=>some ⟨.values m.1,iG du.values m.2 ⟨λJ=>j2 h.1 _ J _⟩ ⟨h.2⟩⟩ else none)
noncomputable def cI (tg e:ay):Ok (du W (n+6) si tg e):=alt (M4 H R si tg e) ((R.E si e).bind λm=>if isNm e "n2i" =true then some ⟨.p9 m.1,bk du.p9 m.2⟩ else some ⟨.of m.1,bk du.of m.2⟩)
structure Tl(W:Wd)(n:Nat)(si:SI)(es:List ay) where
 ms:List MT
 h:Bx (ll W n si es ms)
 l:es.length=ms.length
 k:∀env,(gy es env).length=es.length/\(gy es env).findIdx? (·.1)=none
noncomputable def DQ:(u:List ay)->Option (Tl W (n+6) si u)
 | []=>some ⟨[],bk (λZ=>ll.nil) ⟨trivial⟩,rfl,λZ=>⟨rfl,rfl⟩⟩
 | e::u=>if h:ns e=true then (R.T si e).bind λm=>(DQ u).bind λx=>some ⟨m.1::x.ms,iG ll.cons m.2 x.h ⟨λJ=>Dr h _ J⟩,congrArg (· +1) x.l,λJ=>by
  rw [Dr h];have y:=x.k J;exact⟨congrArg (· +1) y.1,by rw [List.findIdx?_cons,y.2];rfl⟩⟩ else none
noncomputable def cT (e:ay):Ok (Et W (n+6) si e):=
 alt (jN c e λx p=>if h:i7 si x=true then some ⟨.name x,bk Et.name ⟨h⟩⟩ else none)<|
 alt (jm e λu k p=>(DQ R si u).bind λx=>some ⟨.tup x.ms,iG Et.tup x.h ⟨x.l⟩ ⟨x.k⟩⟩)<|
 alt (tv e λo i p=>(R.E si o).bind λa=>(R.E si i).bind λb=>some ⟨.sub a.1 b.1,gQ Et.sub a.2 b.2⟩)
 (kJ e λo bx p=>(c.uq.lookup bx).bind λk=>(R.E si o).bind λm=>match k with
   | .inst k=>sR c bx λx=>if h:k≠cj/\setOk c.K k (au x)=true/\x.length<=100 then some ⟨.attr k (au x) m.1,i4 Et.attr ⟨H.ok⟩ ⟨H.inst _ h.1⟩ ⟨H.K▸h.2.1⟩ ⟨h.2.2⟩ m.2⟩ else none
   | .slot i p=>if h:ti c.K 176 bx p i=true then some ⟨.slot 176 i m.1,i4 Et.slot ⟨H.ok⟩ ⟨H.inst _ (by decide)⟩ ⟨H.sl⟩ ⟨H.K▸h⟩ m.2⟩ else none
   | .line=>sR c bx λx=>if h:lO (au x)=true/\x.length<=100 then some ⟨.attrL cj (au x) m.1,h6 Et.attrL ⟨H.line⟩ ⟨h.1⟩ ⟨h.2⟩ m.2⟩ else none)
noncomputable def fM:(b:List bZ)-> {m // Bx (dY W (n+6) si b m)}
 | []=>⟨.nil,bk (λZ=>dY.nil) ⟨trivial⟩⟩
 | [s]=>match R.S si s with
  | none=>⟨.never,bk (λZ=>dY.never) ⟨trivial⟩⟩
  | some m=>⟨m.1,bk dY.one m.2⟩
 | s::i::b=>match R.S si s with
  | none=>⟨.never,bk (λZ=>dY.never) ⟨trivial⟩⟩
  | some m=>let x:=fM (i::b);⟨.cons m.1 x.1,gQ dY.cons m.2 x.2⟩
noncomputable def QK (c:Cx) (t:ay):Bool:=(alt (sQ (motive:=λZ=>Option aj) t λs Z=>some s) (kJ (motive:=λZ=>Option aj) t λZ s Z=>some s)).any λs=>c.cells.any λx=>decide (au x=s)
noncomputable def cV (c:Cx) (t v:ay):Ok (Ev W (n+6) si v):=alt (if QK c t=true then (R.F si v).bind λm=>some ⟨.d9 m.1,bk Ev.d9 m.2⟩ else none) (R.E si v)
noncomputable def DR (c:Cx):List ay->(P:List ay)->Ok (dN W (n+6) si P)
 | _,[]=>some ⟨[],bk (λZ=>dN.nil) ⟨trivial⟩⟩
 | [],_::_=>none
 | t::l,v::P=>if h:ns v=true then (cV R si c t v).bind λm=>(DR c l P).bind λx=>some ⟨m.1::x.1,iG dN.cons m.2 x.2 ⟨λJ=>ej h _ J⟩⟩ else none
noncomputable def Nh (t v:ay) (p:bc):Ok (Ex W (n+6) si (.Assign [t] v p)):=jm t λu k q=>eN u λe=>jN c e λx Q=>HO v λj r s w=>if h:i7 si x=true then (R.F si (.SetComp j r s w)).bind λm=>
 some ⟨.qJ x m.1,h6 Ex.qJ m.2 ⟨h⟩ ⟨λJ B=>rfl⟩ ⟨λJ B=>rfl⟩⟩ else none
noncomputable def DL (t v:ay) (p:bc) {s:cR} {q:Nat} (x:Co W (n+6) si v) (U:∀id tp l J,kq [.Name id tp] v l J=pure (Iu J.scope s q id tp)) (N:∀id tp J,l0 [.Name id tp] v J=pure none) (b:∀o a tp l J,kq [.Attribute o a tp] v l J=pure false):Ok (Ex W (n+6) si (.Assign [t] v p)):=
 alt (sQ t λid tp=>(R.T si (.Name id tp)).bind λmt=>
  if h:Iu si.sc s q id tp=true then some ⟨.assign mt.1 (.aI x.m),x.a mt.2 (λJ B=>by rw [U,B,h]) ⟨λZ Z=>rfl,λZ Z Z=>rfl,λZ Z=>rfl⟩⟩
  else (cV R si c (.Name id tp) v).bind λm=>some ⟨.assign mt.1 m.1,i4 Ex.assign m.2 mt.2 ⟨λJ B=>by rw [U,B,Bool.eq_false_iff.mpr h]⟩ ⟨λJ Z=>N _ _ J⟩ ⟨λJ=>rfl⟩⟩)
 (kJ t λo a tp=>(R.T si (.Attribute o a tp)).bind λmt=>(cV R si c (.Attribute o a tp) v).bind λm=>some ⟨.assign mt.1 m.1,i4 Ex.assign m.2 mt.2 ⟨λJ B=>b _ _ _ _ J⟩ ⟨λJ Z=>rfl⟩ ⟨λJ=>rfl⟩⟩)
noncomputable def MU (t v:ay) (p:bc):Ok (Ex W (n+6) si (.Assign [t] v p)):=
 alt (Nh (c:=c) R si t v p)<|
 alt (F1 v λj r s q=>(DO H R si j r s q).bind λx=>DL (c:=c) R si t _ p x (λZ Z Z Z=>rfl) (λZ Z Z=>rfl) λZ Z Z Z Z=>rfl)<|
 alt (Ed v λa b r s q=>(DM H R si a b r s q).bind λx=>DL (c:=c) R si t _ p x (λZ Z Z Z=>rfl) (λZ Z Z=>rfl) λZ Z Z Z Z=>rfl)<|
 if N:vS v=true then
  alt ((tB t).bind λT=>(R.T si t).bind λmt=>(cV R si c t v).bind λm=>some ⟨.assign mt.1 m.1,i4 Ex.assign m.2 mt.2 ⟨λJ B=>wA N _ J⟩ ⟨λJ Z=>T.1.s1 v J⟩ ⟨λJ=>T.1.a1 _ J⟩⟩)
   (jm t λl k q=>(R.T si (.Tuple l k q)).bind λmt=>alt (jm v λP f Q=>if h:(!(l.length==2|| l.length==3)|| (qC si.sc l).length !=l.length)=true then (DR R si c l P).bind λI=>
     some ⟨.assign mt.1 (.tup I.1),i4 Ex.assign (bk Ev.tup I.2) mt.2 ⟨λJ B=>rfl⟩ ⟨λJ B=>Vn h J B⟩ ⟨λJ=>rfl⟩⟩ else none)
     (if h:(v.ctorIdx==25)=false then (R.E si v).bind λm=>some ⟨.assign mt.1 m.1,i4 Ex.assign m.2 mt.2 ⟨λJ B=>wA N _ J⟩ ⟨λJ B=>Vo h J⟩ ⟨λJ=>rfl⟩⟩ else none)) else none
noncomputable def MV (t u v:ay) (p:bc):Ok (Ex W (n+6) si (.Assign [t,u] v p)):=(tB t).bind λa=>(tB u).bind λb=>(R.E si v).bind λm=>(R.T si t).bind λmt=>(R.T si u).bind λL=>
 some ⟨.pZ mt.1 L.1 m.1,j5 Ex.pZ m.2 mt.2 L.2 ⟨λJ B=>rfl⟩ ⟨λJ B=>a.1.s2 _ _ J⟩ ⟨λJ=>by rw [a.1.a1,b.1.a1];rfl⟩⟩
noncomputable def MD (op:CK):Ok (bL W n (oW op)):=match op with| .Add=>some ⟨_,⟨Op.iadd⟩⟩| .Sub=>some ⟨_,⟨Op.QQ⟩⟩| _=>none
noncomputable def MW (t:ay) (op:CK) (v:ay) (p:bc):Ok (Ex W (n+6) si (.AugAssign t op v p)):=(MD op).bind λf=>(R.E si v).bind λm=>alt
 (jN c t λx q=>if h:i7 si x=true/\(au x==("__classdict__" :aj))=false then some ⟨.assign (.name x) (.bh f.1 (.var x) m.1),h6 Ex.aug f.2 m.2 ⟨h.1⟩ ⟨h.2⟩⟩ else none)
 (kJ t λo bx q=>(c.uq.lookup bx).bind λk=>(R.E si o).bind λa=>match k with
   | .inst k=>sR c bx λx=>if h:k≠cj/\oO c.K k (au x)=true/\setOk c.K k (au x)=true/\x.length<=100 then some ⟨.oj k (au x) f.1 a.1 m.1,mF Ex.oj ⟨H.ok⟩ ⟨H.inst _ h.1⟩ ⟨H.K▸h.2.1⟩ ⟨H.K▸h.2.2.1⟩ ⟨h.2.2.2⟩ a.2 m.2 f.2⟩ else none
   | .slot i p=>if h:th c.K 176 bx p i=true/\ti c.K 176 bx p i=true then some ⟨.lH 176 i f.1 a.1 m.1,mF Ex.lH ⟨H.ok⟩ ⟨H.inst _ (by decide)⟩ ⟨H.sl⟩ ⟨H.K▸h.1⟩ ⟨H.K▸h.2⟩ a.2 m.2 f.2⟩ else none
   | _=>none)
end
end
section
section
variable {W:Wd} {n:Nat} {c:Cx} (H:fS W n c) (R:Cs W (n+6)) (si:SI)
@[elab_as_elim] noncomputable def Hn (e:ay) {motive:ay->Type} [∀e,Inhabited (motive e)] (k:∀x p ap np,i6 si x=true->(ap.endLine==p.line)=true->motive (.Call (.Attribute (.Name (au x) np) (au "pop") ap) [] [] p)):motive e:=
  lJ e λf as g p=>fA g<|fA as<|kJ f λo bx ap=>nq "pop" bx<|jN c o λx np=>if h:i6 si x=true/\(ap.endLine==p.line)=true then k x p ap np h.1 h.2 else default
@[elab_as_elim] noncomputable def V0 (s:bZ) {motive:bZ->Type} [∀s,Inhabited (motive s)] (k:∀{x fo a b fp S ap m},Bx (Ev W (n+6) si (.Subscript fo a fp) m)->i7 si x=true->motive (.Assign [.Name (au x) b] (.Call (.Subscript fo a fp) [] [] S) ap)):motive s:=
  Dt s λl v ap=>eN l λt=>jN c t λx b=>lJ v λf as g S=>fA g<|fA as<|tv f λfo a fp=>if h:i7 si x=true then match R.E si (.Subscript fo a fp) with| some m=>k m.2 h| none=>default else default
noncomputable def Ng (q K:bZ) (h:ExceptHandler) (tp:bc) {T} (j:si.here=some T) (z:si.sc.kind≠ .module):Ok (Ex W (n+6) si (.Try [q,K] [h] [] [] tp)):=V0 (c:=c) R si q λ{x _ _ _ _ _ _ m} A U=>DG K λs=>match h with
 | .ExceptHandler (some t) none b y=>jc "StopIteration" t λnp=>(iF H si "StopIteration" (.type "StopIteration")).bind λB=>ky b λd e=>Od d λl C=>eN l λt=>tv t λdd u Q=>jN c dd λdd i=>Hn (c:=c) si u λr Z L k g o=>
  EG e λe y=>Hn (c:=c) si e λst kP a p P f=>if v:i6 si dd=true then some ⟨.qG x m dd r st,eT (eT (j6 Ex.qG ⟨H.ok⟩ ⟨j⟩ ⟨z⟩ A ⟨U⟩ ⟨v⟩ ⟨g⟩ ⟨P⟩ ⟨B.1⟩) ⟨o⟩) ⟨f⟩⟩ else none
 | _=>none
noncomputable def Ni (t:ay) (xs I:List bZ) (p:bc):Ok (Ex W (n+6) si (.If t xs I p)):=yY t λl j y tp=>SS l λx e O=>jN c x λx np=>eN j λop=>eN y λr=>y6 r λv k S=>match op,v with
 | .Is,.none=>if h:i7 si x=true then (R.E si e).bind λm=>some ⟨.pg x m.1 (fM R si xs).1 (fM R si I).1,h6 Ex.pg m.2 ⟨h⟩ (fM R si xs).2 (fM R si I).2⟩ else none
 | _,_=>none
noncomputable def cS (s:bZ):Ok (Ex W (n+6) si s):=
 alt (EG s λe p=>if h:si.sc.kind≠ .module/\vS e=true then (R.E si e).bind λm=>some ⟨.expr m.1,iG Ex.expr m.2 ⟨QH h.1⟩ ⟨λJ=>Iv h.2 _ _ J⟩⟩ else none)<|
 alt (Dt s λl v p=>alt (eN l λt=>MU H R si t v p) (ky l λt u=>MV R si t u v p))<|
 alt (Qw s λt xs a p=>alt (Ni (c:=c) R si t xs a p) ((R.B si t).bind λb=>some ⟨.ite b.1 (fM R si xs).1 (fM R si a).1,iG Ex.ite b.2 (fM R si xs).2 (fM R si a).2⟩))<|
 alt (retS s λv p=>match v with| some e=>(R.E si e).bind λm=>some ⟨.ret m.1,bk Ex.ret m.2⟩| none=>none)<|
 alt (O1 s λt it b o p=>fA o<|if h:Ax it=true then (R.I si t it).bind λd=>(R.T si t).bind λmt=>some ⟨.cD d.1 mt.1 (fM R si b).1,h6 Ex.cD d.2 mt.2 (fM R si b).2 ⟨λJ x=>EY h J x⟩⟩ else none)<|
 alt (WB s λt xs a p=>(R.B si t).bind λb=>some ⟨.nF fuel b.1 (fM R si xs).1 (fM R si a).1,iG Ex.nF b.2 (fM R si xs).2 (fM R si a).2⟩)<|
 alt (MG s λt op v p=>MW H R si t op v p)<|
 alt (V3 s λb g o f p=>fA o<|fA f<|eN g λh=>alt (ky b λq K=>match j:si.here with| some i=>if z:si.sc.kind≠ .module then Ng H R si q K h p j z else none| none=>none) (some ⟨(fM R si b).1,bk Ex.V2 (fM R si b).2⟩))<|
 alt (DG s λp=>some ⟨.brk,bk (λZ=>Ex.brk) ⟨trivial⟩⟩) (NV s λp=>some ⟨.cont,bk (λZ=>Ex.cont) ⟨trivial⟩⟩)
noncomputable def mG:Nat->Cs W (n+6)
 | 0=>⟨λZ Z=>none,λZ Z=>none,λZ Z=>none,λZ Z Z=>none,λZ Z=>none,λZ Z=>none⟩
 | k+1=>have R:=mG k;⟨cE H R,cB R,cF H R,cI H R,cT H R,cS H R⟩
end
end
section
noncomputable def GQ (P:mw):Array DictEntry:=match (KK P).lookup 3 with| some o=>(match o.data with| .dict u _=>u| _=> #[])| none=> #[]
noncomputable def sJ (P:mw):aj->Option af:=vT (GQ P)
noncomputable def EL:Data->Option gc| .func F=>some F| _=>none
noncomputable def dT (P:mw) (a:aq):gc:=(((KK P).lookup a).bind λo=>EL o.data).getD default
noncomputable def kK (P:mw) (a:aq):List bZ:=match (dT P a).body with| .stmts l=>l| _=>[]
structure tP where
 t:ay
 a:BJ
 b:ay
 s:cR
 p:bc
 q:bc
noncomputable def tP.st (x:tP):bZ:=.Assign [x.t] (.Lambda x.a x.b x.s x.p) x.q
noncomputable def Mr:bZ->tP
 | .Assign [t] (.Lambda a b s p) q=>⟨t,a,b,s,p,q⟩
 | _=>⟨.Name "" m8,⟨[],[],none,[],[],none,[]⟩,.Name "" m8,{kind:=.function,names:=[],isGenerator:=false,isCoroutine:=false},m8,m8⟩
noncomputable def dA (P:mw) (i:Nat):tP:=Mr ((kK P 344).getD i (.Pass m8))
structure LawW(W:Wd):Prop where
 ok:W.Ok
 K:W.K=KK W.w.params
 mb:∀x:aj,x≠ "__name__" ->W.mb x=yu x
 mg:W.mg=sJ W.w.params
 inst:∀k,k≠cj->W.hU k
 kI:∀k dx,k≠cj->W.kind k (mU k dx)
 sl:∀o sl,W.kind 176 o->W.kind 176 {o with slots:=sl}
 line:W.nQ cj
 vq:∀fd,W.kind cj {cls:=.type "function",data:=.func fd}
 tab:W.tab=339
 bi:W.base.BuiltinsAt W.mg W.tab
 jK:W.jK= "_law_line.<locals>.<lambda>"
 je:∀fd,W.je iM fd↔ ∃cl pm cd ct,qX ["size","path"] cl/\fd=vc "<lambda>" W.jK (dA W.w.params 3).a (dA W.w.params 3).b (dA W.w.params 3).s cl pm cd ct
noncomputable def Mz:List (aj×BN):=[("useragents",.inst 59),("rulelines",.inst 59),("delay",.inst 59),("req_rate",.inst 59),("_node2info",.inst 273),("_ready_nodes",.inst 273),("_npassedout",.inst 273),("_nfinished",.inst 273),
 ("node",.slot 0 177),("npredecessors",.slot 1 178),("successors",.slot 2 179),("allowance",.line),("path",.line),("mark",.line),("applies_to",.line)]
noncomputable def dK (P:mw) (nt cells:List String) (add:Bool) (fns o3:List (String×aq×FM)) (ms:List (aj×aq×aq×FM)) (ke:String×aq×FM) (lm:FL):Cx:=
 {nt:=nt,K:=KK P,mg:=sJ P,mb:=yu,fns:=fns,o3:=o3,ms:=ms,uq:=Mz,cells:=cells,add:=add,ke:=ke,lm:=lm}
noncomputable def dQ:FL:=λZ Z Z=>none
noncomputable def dM:String×aq×FM:=("",0,λZ Z=>none)
section
variable {W:Wd} {n:Nat}
theorem LawW.cx(L:LawW W){h r add a c I b d}(N:∀p∈a,Bx (ba W (n+6) p.2.1 p.2.2))(E:∀p∈c,Bx (ba W (n+6) p.2.1 p.2.2))(A:∀p∈I,Bx (ba W (n+6) p.2.2.1 p.2.2.2))(o:Bx (ba W n b.2.1 (fO b.2.2)))(O:Bx (jv W (n+6) iM d)):
 fS W n (dK W.w.params h r add a c I b d):=⟨L.ok,L.K,L.mg,L.mb,L.inst,L.sl,L.line,L.vq,N,E,A,O,o⟩
theorem dV:Bx (jv W n iM dQ):=⟨λZ Z Z Z Z h=>aY h⟩
theorem dW:Bx (ba W n dM.2.1 (fO dM.2.2)):=⟨λZ Z Z Z h=>ob h λd h Z=>og h λZ h=>ob h λZ h Z=>aY h⟩
theorem a_{α:Type}{P:α->Prop}:∀p∈([]:List α),P p:=λZ h=>nomatch h
theorem c7{α:Type}{P:α->Prop}{a:α}{l:List α}(h:P a)(t:∀p∈l,P p):∀p∈a::l,P p:=λp T=>(List.mem_cons.mp T).elim (λe=>e▸h) (t p)
theorem cY{a F}{m:Nat}(h:Bx (ba W n a F))(k:n<=m):Bx (ba W m a F):=gQ ba.le h ⟨k⟩
noncomputable def EU (P:mw) (a:aq):Bool:=oM (KK P) a && (codeIn (KK P) (dT P a).code (dT P a).qualname && ((dT P a).closure.isEmpty && (decide ((dT P a).globals=kW) && (decide ((dT P a).builtins=j4) && ((dT P a).scope.names.all (λp=>decide (p.2≠ .free)) &&
 (!(dT P a).scope.isCoroutine && (!(dT P a).scope.isGenerator && (decide ((dT P a).scope.kind=.function) && (match (dT P a).body with| .stmts _=>true| _=>false)))))))))
def gu.mq(b:gu)(xs:List String):Prop:=∀j bs,b j=some bs->bs.map (·.1)=xs
theorem LawW.oM(L:LawW W){c:Cx}{a:aq}{B:gu}{m:MS}{xs:List String}(H:fS W n c)(I:EU W.w.params a=true)(d:Bx (b6 W (dT W.w.params a) B))(g:B.mq xs)(U:xs.all (lI (dT W.w.params a).scope)=true)
 (E:Bx (lh W (n+6) (dT W.w.params a) (kK W.w.params a) m)):Bx (ba W (n+7) a (bO B m)):=by
 have f:=band I
 have c2:=band f.2
 have O:=band c2.2
 have c4:=band O.2
 have i:=band c4.2
 have c6:=band i.2
 have k:=band c6.2
 have p:=band k.2
 have q:=band p.2
 obtain⟨o,F,Z,P⟩:=ET f.1
 have e:dT W.w.params a=F:=by unfold dT;rw [Z];show(EL o.data).getD default=F;rw [P];rfl
 have hb:(dT W.w.params a).body=.stmts (kK W.w.params a):=by
  have h:=q.2
  unfold kK
  cases y:(dT W.w.params a).body with
  | stmts l=>rfl
  | _=>rw [y] at h;exact lj h
 rw [← e] at P
 exact⟨ba.QI (n:=n+6) L.ok (by rw [L.K];exact Z) P hb (by rw [L.K];exact c2.1) (List.isEmpty_iff.mp O.1) (of_decide_eq_true c4.1) (of_decide_eq_true i.1) (λx U=>of_decide_eq_true (List.all_eq_true.mp c6.1 _ U) rfl) (by simpa using k.1) (by simpa using p.1) (of_decide_eq_true q.1) d.1
  (λj bs hb b z=>List.all_eq_true.mp U _ (g j bs hb▸KU z)) E.1⟩
theorem LawW.fn(L:LawW W){c:Cx}{a:aq}{B:gu}{m:MS}{xs:List String}(k:Nat)(H:fS W n c)(I:EU W.w.params a=true)(d:Bx (b6 W (dT W.w.params a) B))(g:B.mq xs)(U:xs.all (lI (dT W.w.params a).scope)=true)
 (z:(fM (mG H k) (SI.fn (dT W.w.params a)) (kK W.w.params a)).1=m):Bx (ba W (n+7) a (bO B m)):=L.oM H I d g U (bk lh.of (z▸(fM (mG H k) _ _).2))
theorem gz{x}:(bind1 x).mq [x]:=λj bs h=>match j,h with| [_],h=>sj h rfl
theorem mD{x y}:(j3 x y).mq [x,y]:=λj bs h=>match j,h with| [_,_],h=>sj h rfl
theorem MJ{x y z}:(yp x y z).mq [x,y,z]:=λj bs h=>match j,h with| [_,_,_],h=>sj h rfl
theorem ML{x y}:(yq x y).mq [x,y]:=λj bs h=>match j,h with| [_],h=>sj h rfl
theorem DI{x y}:(p4 x y).mq [x,y]:=λj bs h=>match j,h with| [_,_],h=>sj h rfl| [_,_,_,_],h=>sj h rfl
theorem MR{x y z}:(yr x y z).mq [x,y,z]:=λj bs h=>match j,h with| [_,_],h=>sj h rfl| [_,_,_],h=>sj h rfl
end
end
section
section
variable {W:Wd} {n:Nat}
theorem AE{α:Type}{J:α->Prop}{m:α}(x:Ok J)(h:x.map (·.1)=some m):Bx (J m):=by
 cases x with
 | none=>exact aY h.symm.symm
 | some a=>exact aM h▸a.2
theorem G7{α:Type}{J:α->Prop}{m:α}(x: {m:α // Bx (J m)})(h:x.1=m):Bx (J m):=h▸x.2
theorem jv.le{m k F}(h:jv W n k F)(G:n<=m):jv W m k F:=λH=>h (H.le G)
theorem sW(L:LawW W):Bx (ba W (n+7) 143 iU):=bk ba.hide (L.fn (n:=n+0) (c:=dK W.w.params ["path","kind","type","issubclass","str","bytes","len"] [] true [] [] [] dM dQ) 40 (L.cx a_ a_ a_ dW dV) (by kernel_rfl) (bk b6.p1 ⟨λZ=>by kernel_rfl⟩) gz (by kernel_rfl) (by kernel_rfl))
theorem G_(L:LawW W):Bx (ba W (n+7) 284 qY):=bk ba.hide (L.fn (n:=n+0) (c:=dK W.w.params ["path","isinstance","bytes","/"] [] true [] [] [] dM dQ) 40 (L.cx a_ a_ a_ dW dV) (by kernel_rfl) (bk b6.p1 ⟨λZ=>by kernel_rfl⟩) gz (by kernel_rfl) (by kernel_rfl))
theorem Ts(L:LawW W):Bx (ba W (n+7) 35 xe):=L.fn (n:=n+0) (c:=dK W.w.params ["self","useragents","rulelines","delay","req_rate"] ["rulelines","useragents"] true [] [] [] dM dQ) 40 (L.cx a_ a_ a_ dW dV) (by kernel_rfl) (bk b6.p1 ⟨λZ=>by kernel_rfl⟩) gz (by kernel_rfl) (by kernel_rfl)
theorem G8(L:LawW W):Bx (ba W (n+8) 59 mh):=j5 (ba.cls (fI:=35)) ⟨L.ok⟩ ⟨by rw [L.K];kernel_rfl⟩ ⟨by rw [L.K];kernel_rfl⟩ ⟨by rw [L.K];kernel_rfl⟩ ⟨λf=>L.kI _ f (by decide)⟩ (Ts L)
theorem TH(L:LawW W):Bx (ba W (n+7) 172 xf):=L.fn (n:=n+0) (c:=dK W.w.params ["self","node"] ["successors"] true [] [] [] dM dQ) 40 (L.cx a_ a_ a_ dW dV) (by kernel_rfl) (bk b6.p2 ⟨λZ Z=>by kernel_rfl⟩) mD (by kernel_rfl) (by kernel_rfl)
theorem Tj(L:LawW W):Bx (ba W (n+8) 176 qW):=j5 (ba.NK (fI:=172)) ⟨L.ok⟩ ⟨by rw [L.K];kernel_rfl⟩ ⟨by rw [L.K];kernel_rfl⟩ ⟨by rw [L.K];kernel_rfl⟩ ⟨λf=>L.kI _ f (by decide)⟩ (TH L)
theorem TQ(L:LawW W):Bx (ba W (n+7) 209 xh):=L.fn (n:=n+0) (c:=dK W.w.params ["self","graph","_node2info","_ready_nodes","_npassedout","_nfinished"] ["_node2info"] true [] [] [] dM dQ) 40 (L.cx a_ a_ a_ dW dV) (by kernel_rfl) (gQ b6.d1 ⟨L.ok⟩ ⟨λZ=>by rw [L.K];kernel_rfl⟩) ML (by kernel_rfl) (by kernel_rfl)
theorem Tn(L:LawW W):Bx (ba W (n+8) 273 pv):=j5 (ba.cls (fI:=209)) ⟨L.ok⟩ ⟨by rw [L.K];kernel_rfl⟩ ⟨by rw [L.K];kernel_rfl⟩ ⟨by rw [L.K];kernel_rfl⟩ ⟨λf=>L.kI _ f (by decide)⟩ (TQ L)
theorem Tr(L:LawW W):Bx (ba W (n+7) 49 pA):=L.fn (n:=n+0) (c:=dK W.w.params ["self","useragent","agent","*","/"] [] true [] [] [] dM dQ) 40 (L.cx a_ a_ a_ dW dV) (by kernel_rfl) (bk b6.p2 ⟨λZ Z=>by kernel_rfl⟩) mD (by kernel_rfl) (by kernel_rfl)
theorem TA(L:LawW W):Bx (ba W (n+7) 322 qZ):=bk ba.hide (L.fn (n:=n+0) (c:=dK W.w.params ["number","digits","base","pieces","names","piece","place","..","a","b","ab",".",""] [] true [] [] [] dM dQ) 40 (L.cx a_ a_ a_ dW dV) (by kernel_rfl) (bk b6.p1 ⟨λZ=>by kernel_rfl⟩) gz (by kernel_rfl) (by kernel_rfl))
theorem TG(L:LawW W):Bx (ba W (n+7) 327 q7):=bk ba.hide (L.fn (n:=n+0) (c:=dK W.w.params ["lines","ways","line","/","size","range","way","len","cut"] ["ways"] true [] [] [] dM dQ) 40 (L.cx a_ a_ a_ dW dV) (by kernel_rfl) (bk b6.p1 ⟨λZ=>by kernel_rfl⟩) gz (by kernel_rfl) (by kernel_rfl))
theorem Tz(L:LawW W):Bx (ba W (n+7) 332 pD):=bk ba.hide (L.fn (n:=n+0) (c:=dK W.w.params ["lines","folder","mine","agents","delays","rates","mark","name","range","place","enumerate","len","/","fig","Plum","*"] [] true [] [] [] dM dQ) 40 (L.cx a_ a_ a_ dW dV) (by kernel_rfl) (bk b6.p2 ⟨λZ Z=>by kernel_rfl⟩) mD (by kernel_rfl) (by kernel_rfl))
theorem Tw(L:LawW W):Bx (ba W (n+7) 337 mm):=bk ba.hide (L.fn (n:=n+0) (c:=dK W.w.params ["plains","agents","marks","delays","rates","name","mark","one"] [] true [] [] [] dM dQ) 40 (L.cx a_ a_ a_ dW dV) (by kernel_rfl) (bk b6.p1 ⟨λZ=>by kernel_rfl⟩) gz (by kernel_rfl) (by kernel_rfl))
theorem TC(L:LawW W):Bx (ba W (n+7) 354 fT):=L.fn (n:=n+0) (c:=dK W.w.params ["record","line"] [] true [] [] [] dM dQ) 40 (L.cx a_ a_ a_ dW dV) (by kernel_rfl) (bk b6.p1 ⟨λZ=>by kernel_rfl⟩) gz (by kernel_rfl) (by kernel_rfl)
theorem Tp(L:LawW W):Bx (ba W (n+7) 150 pz):=bk ba.hide (L.fn (n:=n+0) (c:=dK W.w.params ["m","s1","s2","","min","max","i","c","enumerate","isinstance","tuple","list","map"] [] true [] [] [] dM dQ) 40 (L.cx a_ a_ a_ dW dV) (by kernel_rfl) (bk b6.p1 ⟨λZ=>by kernel_rfl⟩) gz (by kernel_rfl) (by kernel_rfl))
theorem TK(L:LawW W):Bx (ba W (n+8) 298 xg):=bk ba.hide (L.fn (n:=n+1) (c:=dK W.w.params ["p","fspath","isinstance","bytes","sep","empty","/",""] [] true [("fspath",143,iU)] [] [] dM dQ) 40 (L.cx (c7 (cY (sW L (n:=n)) (by omega)) a_) a_ a_ dW dV) (by kernel_rfl) (bk b6.p1 ⟨λZ=>by kernel_rfl⟩) gz (by kernel_rfl) (by kernel_rfl))
theorem G9(L:LawW W):Bx (ba W (n+8) 305 fm):=bk ba.hide (L.fn (n:=n+1) (c:=dK W.w.params ["p","sep","i","head","fspath","_get_sep","len"] [] true [("fspath",143,iU),("_get_sep",284,qY)] [] [] dM dQ) 40 (L.cx (c7 (cY (sW L (n:=n)) (by omega)) (c7 (cY (G_ L (n:=n)) (by omega)) a_)) a_ a_ dW dV) (by kernel_rfl) (bk b6.p1 ⟨λZ=>by kernel_rfl⟩) gz (by kernel_rfl) (by kernel_rfl))
theorem Ha(L:LawW W):Bx (ba W (n+8) 291 iV):=bk ba.hide (L.fn (n:=n+1) (c:=dK W.w.params ["a","p","sep","path","fspath","_get_sep","b"] [] true [("fspath",143,iU),("_get_sep",284,qY)] [] [] dM dQ) 40 (L.cx (c7 (cY (sW L (n:=n)) (by omega)) (c7 (cY (G_ L (n:=n)) (by omega)) a_)) a_ a_ dW dV) (by kernel_rfl) (gQ b6.v1 ⟨λZ Z=>by kernel_rfl⟩ ⟨λZ Z Z Z=>by kernel_rfl⟩) DI (by kernel_rfl) (by kernel_rfl))
theorem TJ(L:LawW W):Bx (ba W (n+9) 312 q8):=bk ba.hide (L.fn (n:=n+2) (c:=dK W.w.params ["path","comps","new_comps","comp","fspath","isinstance","bytes","sep","dot","dotdot","/",".","..","_","initial_slashes","splitroot"] ["new_comps"] true [("fspath",143,iU),("splitroot",298,xg)] [] [] dM dQ) 40 (L.cx (c7 (cY (sW L (n:=n)) (by omega)) (c7 (cY (TK L (n:=n)) (by omega)) a_)) a_ a_ dW dV) (by kernel_rfl) (bk b6.p1 ⟨λZ=>by kernel_rfl⟩) gz (by kernel_rfl) (by kernel_rfl))
theorem To(L:LawW W):Bx (ba W (n+14) 317 px):=bk ba.hide (L.fn (n:=n+7) (c:=dK W.w.params ["paths","tuple","isinstance","bytes","sep","curdir","/",".","split_paths","s1","s2","common","prefix","map","fspath","min","max","i","c","enumerate","isabs","path","s","p"] [] true [] [] [] ("fspath",143,bO (bind1 "path") GA) dQ) 40 (L.cx a_ a_ a_ (cY (sW L (n:=n)) (by omega)) dV) (by kernel_rfl) (bk b6.p1 ⟨λZ=>by kernel_rfl⟩) gz (by kernel_rfl) (by kernel_rfl))
theorem TP(L:LawW W):Bx (ba W (n+7) 235 nO):=L.fn (n:=n+0) (c:=dK W.w.params ["self","result","n2i","node","_npassedout","tuple","_NODE_OUT","len"] [] true [] [] [] dM dQ) 40 (L.cx a_ a_ a_ dW dV) (by kernel_rfl) (bk b6.p1 ⟨λZ=>by kernel_rfl⟩) gz (by kernel_rfl) (by kernel_rfl)
theorem TR(L:LawW W):Bx (ba W (n+7) 242 nP):=L.fn (n:=n+0) (c:=dK W.w.params ["self","bool"] [] true [] [] [] dM dQ) 40 (L.cx a_ a_ a_ dW dV) (by kernel_rfl) (bk b6.p1 ⟨λZ=>by kernel_rfl⟩) gz (by kernel_rfl) (by kernel_rfl)
theorem TM(L:LawW W):Bx (ba W (n+7) 256 pF):=L.fn (n:=n+0) (c:=dK W.w.params ["self","nodes","n2i","node","stat","_NODE_DONE","successor","_nfinished","nodeinfo","_NODE_OUT","successor_info"] [] true [] [] [] dM dQ) 40 (L.cx a_ a_ a_ dW dV) (by kernel_rfl) (gQ b6.v1 ⟨λZ Z=>by kernel_rfl⟩ ⟨λZ Z Z Z=>by kernel_rfl⟩) DI (by kernel_rfl) (by kernel_rfl)
theorem TN(L:LawW W):Bx (ba W (n+7) 263 q9):=L.fn (n:=n+0) (c:=dK W.w.params ["self","n2i","stack","itstack","seen","node2stacki","node","set","len","StopIteration","iter"] ["itstack","node2stacki","seen","stack"] false [] [] [] dM dQ) 40 (L.cx a_ a_ a_ dW dV) (by kernel_rfl) (bk b6.p1 ⟨λZ=>by kernel_rfl⟩) gz (by kernel_rfl) (by kernel_rfl)
theorem TS(L:LawW W):Bx (ba W (n+8) 228 pG):=L.fn (n:=n+1) (c:=dK W.w.params ["self","_ready_nodes","cycle","i"] ["_ready_nodes"] true [] [] [("_find_cycle",273,263,q9)] dM dQ) 40 (L.cx a_ a_ (c7 (cY (TN L (n:=n)) (by omega)) a_) dW dV) (by kernel_rfl) (bk b6.p1 ⟨λZ=>by kernel_rfl⟩) gz (by kernel_rfl) (by kernel_rfl)
theorem TO(L:LawW W):Bx (ba W (n+9) 216 lq):=L.fn (n:=n+2) (c:=dK W.w.params ["self","node","result","_NodeInfo"] [] true [] [("_NodeInfo",176,qW)] [] dM dQ) 40 (L.cx a_ (c7 (cY (Tj L (n:=n)) (by omega)) a_) a_ dW dV) (by kernel_rfl) (bk b6.p2 ⟨λZ Z=>by kernel_rfl⟩) mD (by kernel_rfl) (by kernel_rfl)
theorem TL(L:LawW W):Bx (ba W (n+10) 223 jr):=L.fn (n:=n+3) (c:=dK W.w.params ["self","node","predecessors","nodeinfo","pred","len","pred_info"] [] true [] [] [("_get_nodeinfo",273,216,lq)] dM dQ) 40 (L.cx a_ a_ (c7 (cY (TO L (n:=n)) (by omega)) a_) dW dV) (by kernel_rfl) (gQ b6.v2 ⟨λZ Z=>by kernel_rfl⟩ ⟨λZ Z Z=>by kernel_rfl⟩) MR (by kernel_rfl) (by kernel_rfl)
theorem vK{α:Type}{x:aj}{a:α}:∀{l:List (aj×α)},l.lookup x=some a->(x,a)∈l
 | [],h=>aY h
 | (y,b)::l,h=>by
  rw [dI] at h
  cases hb:x==y with
  | true=>rw [hb] at h;rw [eq_of_beq hb,← aM h];exact a0
  | false=>rw [hb] at h;exact bT _ (vK h)
theorem T3{l:List (aj×aq)}(h:l.Pairwise λx y=>x.2≠y.2){a b:aj}{c:aq}(K:(a,c)∈l)(hb:(b,c)∈l):a=b:=by
 induction h with
 | nil=>exact absurd K bQ
 | cons U m S=>
  rcases List.mem_cons.mp K with sg| sg<;>rcases List.mem_cons.mp hb with lR| lR
  .exact(lF (sg.trans lR.symm)).1
  .exact absurd (by rw [← sg]) (U (b,c) lR)
  .exact absurd (by rw [← lR]) (U (a,c) sg)
  .exact S sg lR
theorem qX.two{x y:String}{D:List (aj×aq)}(h:qX [x,y] D)(c:au x≠au y):∃a b,D= [(au x,a),(au y,b)]/\a≠b:=by
 obtain⟨r,N,E,rfl⟩:=h
 obtain⟨a,K⟩:=E x a0
 obtain⟨b,hb⟩:=E y (bT _ a0)
 refine⟨a,b,by rw [eK,eK,K,hb];rfl,λe=>?_⟩
 subst e
 exact c (T3 N (vK K) (vK hb))
theorem Q5(L:LawW W):∀F,W.je iM F->Ca F (dA W.w.params 3).b (dA W.w.params 3).s:=λF h=>by
 obtain⟨D,O,d,g,h',rfl⟩:=(L.je _).mp h
 obtain⟨a,b,rfl,k⟩:=h'.two (by decide)
 have G:(dA W.w.params 3).s.names= [(au "name",NameKind.local),(au "path",iw),(au "size",iw)]:=by kernel_rfl
 refine⟨rfl,rfl,rfl,rfl,?_,λx U=>?_,λx c U=>?_⟩
 .exact .cons (λy t=>by rw [List.mem_singleton.mp t];exact k) (.cons (λy t=>absurd t bQ) .nil)
 .rw [G] at U
  simp only [n5,Prod.mk.injEq,bQ,or_false] at U
  rcases U with ⟨_,h⟩| ⟨rfl,_⟩| ⟨rfl,_⟩
  .exact nomatch h
  .exact⟨b,rfl⟩
  .exact⟨a,rfl⟩
 .rw [G]
  rcases List.mem_cons.mp (vK U) with q| q
  .rw [(lF q).1];rfl
  .rw [(lF (List.mem_singleton.mp q)).1];rfl
theorem Tt(L:LawW W):Bx (jv W (n+7) iM pB):=
 have H:fS W n (dK W.w.params ["name","path","size"] [] true [] [] [] dM dQ):=L.cx a_ a_ a_ dW dV
 have E:Bx (Ev W (n+6) (SI.lam (dA W.w.params 3).s) (dA W.w.params 3).b Ab):=AE ((mG H 40).E _ _) (by kernel_rfl)
 have B:lI (dA W.w.params 3).s "name" =true:=by kernel_rfl
 eT (eT (yx (jv.intro (body:=(dA W.w.params 3).b) (scope:=(dA W.w.params 3).s) (bind:=bind1 "name")) ⟨L.ok⟩ ⟨Q5 L⟩ ⟨by kernel_rfl⟩ ⟨by kernel_rfl⟩ ⟨by kernel_rfl⟩ ⟨λx U=>by
  have G:(dA W.w.params 3).s.names.all (λp=>decide (p.2≠ .cell))=true:=by kernel_rfl
  exact of_decide_eq_true (List.all_eq_true.mp G x U)⟩ ⟨λF I=>by
  obtain⟨D,O,d,g,h,rfl⟩:=(L.je _).mp I
  exact(bk (b6.p1 (x:="name")) ⟨λv=>by kernel_rfl⟩).1⟩) ⟨λj bs hb b z=>by
  have a:b.1∈ ["name"]:=gz _ _ hb▸KU (f:=Prod.fst) z
  rw [List.mem_singleton.mp a]
  kernel_rfl⟩) E
theorem Tv(L:LawW W):Bx (ba W (n+10) 344 pC):=
 have H:fS W (n+3) (dK W.w.params ["told","mark","path","size","line","applies_to","join","len","allowance","normpath","/","name"] ["line"] true [("join",291,iV),("normpath",312,q8)] [] [] dM dQ):=(L.cx (c7 (cY (Ha L (n:=n)) (by omega)) (c7 (cY (TJ L (n:=n)) (by omega)) a_)) a_ a_ dW dV)
 L.oM (n:=n+3) H (by kernel_rfl) (bk b6.p2 ⟨λZ Z=>by kernel_rfl⟩) mD (by kernel_rfl) (by
  have e:kK W.w.params 344=(kK W.w.params 344).take 2++((dA W.w.params 2).st::(dA W.w.params 3).st::(kK W.w.params 344).drop 4):=by kernel_rfl
  have o:W.t6 ((SI.fn (dT W.w.params 344)).mR ["path","size"]):=⟨⟨343,(dT W.w.params 344).qualname++ ".<locals>.",by kernel_rfl,by rw [L.K,L.tab];kernel_rfl,by rw [L.jK];kernel_rfl⟩,L.bi,by rw [L.tab];decide⟩
  have f:=G7 (m:=Ac) (fM (mG H 40) (SI.fn (dT W.w.params 344)) ((kK W.w.params 344).take 2)) (by kernel_rfl)
  have r:=AE (m:=.name "line") ((mG H 40).T ((SI.fn (dT W.w.params 344)).mR ["path","size"]) (dA W.w.params 2).t) (by kernel_rfl)
  have u:=AE (m:=.attrL cj "applies_to" (.var "line")) ((mG H 40).T ((SI.fn (dT W.w.params 344)).mR ["path","size"]) (dA W.w.params 3).t) (by kernel_rfl)
  have j:=((tB (dA W.w.params 2).t).get (by kernel_rfl)).1
  have l:=((tB (dA W.w.params 3).t).get (by kernel_rfl)).1
  have A3:=i4 (Ex.assign (pos:=(dA W.w.params 2).q)) (bk Ev.d9 (j5 (bG.ia (k:=cj) (args:=(dA W.w.params 2).a) (body:=(dA W.w.params 2).b) (scope:=(dA W.w.params 2).s) (pos:=(dA W.w.params 2).p)) ⟨L.ok⟩ ⟨o⟩ ⟨by kernel_rfl⟩ ⟨by kernel_rfl⟩ ⟨by kernel_rfl⟩ ⟨L.vq⟩)) r ⟨by intro J B;exact wA (e:=.Lambda _ _ _ _) rfl _ J⟩ ⟨λJ Z=>j.s1 _ J⟩ ⟨λJ=>j.a1 _ J⟩
  have c:=i4 (Ex.assign (pos:=(dA W.w.params 3).q)) (mF (Ev.lam (k:=iM) (xs:=["size","path"]) (args:=(dA W.w.params 3).a) (body:=(dA W.w.params 3).b) (scope:=(dA W.w.params 3).s) (pos:=(dA W.w.params 3).p)) ⟨L.ok⟩ ⟨o⟩ ⟨by kernel_rfl⟩ ⟨by kernel_rfl⟩ ⟨λJ=>by kernel_rfl⟩ ⟨λx U=>by
   have G:(dA W.w.params 3).s.names.all (λp=>decide (p.2=.free->(dT W.w.params 344).scope.names.lookup p.1=some .cell))=true:=by kernel_rfl
   exact of_decide_eq_true (List.all_eq_true.mp G _ U) rfl⟩ ⟨λx U=>by
   have G:(["size","path"].all λx=>decide (((SI.fn (dT W.w.params 344)).mR ["path","size"]).kind x=some .cell/\au x∈((SI.fn (dT W.w.params 344)).mR ["path","size"]).fz))=true:=by kernel_rfl
   exact of_decide_eq_true (List.all_eq_true.mp G _ U)⟩ ⟨λD O d g h=>(L.je _).mpr ⟨D,O,d,g,h,rfl⟩⟩) u ⟨by intro J B;exact wA (e:=.Lambda _ _ _ _) rfl _ J⟩ ⟨λJ Z=>l.s1 _ J⟩ ⟨λJ=>l.a1 _ J⟩
  have i:Bx (dY W (n+3+6) ((SI.fn (dT W.w.params 344)).mR ["path","size"]) ((dA W.w.params 2).st::(dA W.w.params 3).st::(kK W.w.params 344).drop 4) Ad):=
   gQ dY.cons A3 (gQ dY.cons c (G7 (fM (mG H 40) _ _) (by kernel_rfl)))
  rw [e]
  exact gQ lh.fz f i)
theorem Tq(L:LawW W):Bx (ba W (n+8) 56 lp):=L.fn (n:=n+1) (c:=dK W.w.params ["self","filename","best_match","allowance","line","m"] [] true [] [] [] dM pB) 40 (L.cx a_ a_ a_ dW (gQ jv.le (Tt L (n:=n)) ⟨by omega⟩)) (by kernel_rfl) (bk b6.p2 ⟨λZ Z=>by kernel_rfl⟩) mD (by kernel_rfl) (by kernel_rfl)
theorem Hb(L:LawW W):Bx (ba W (n+9) 70 gX):=L.fn (n:=n+2) (c:=dK W.w.params ["e1","e2","entry","useragents","rulelines","delay","req_rate","Entry","list","filter","set"] ["rulelines","useragents"] true [] [("Entry",59,mh)] [] dM dQ) 40 (L.cx a_ (c7 (cY (G8 L (n:=n)) (by omega)) a_) a_ dW dV) (by kernel_rfl) (bk b6.p2 ⟨λZ Z=>by kernel_rfl⟩) mD (by kernel_rfl) (by kernel_rfl)
theorem TB(L:LawW W):Bx (ba W (n+11) 349 pE):=L.fn (n:=n+4) (c:=dK W.w.params ["lines","plain","record","Entry","delay","req_rate","_law_line","mark"] [] true [("_law_line",344,pC)] [("Entry",59,mh)] [] dM dQ) 40 (L.cx (c7 (cY (Tv L (n:=n)) (by omega)) a_) (c7 (cY (G8 L (n:=n)) (by omega)) a_) a_ dW dV) (by kernel_rfl) (bk b6.p2 ⟨λZ Z=>by kernel_rfl⟩) mD (by kernel_rfl) (by kernel_rfl)
theorem TF(L:LawW W):Bx (ba W (n+11) 359 q6):=L.fn (n:=n+4) (c:=dK W.w.params ["folders","own","numbers","sorter","folder","step","TopologicalSorter","/","answers","ready","order","kept","whole","range","len","one","dirname","list","merge_entries","str"] ["answers","kept","order"] true [("dirname",305,fm),("merge_entries",70,gX)] [("TopologicalSorter",273,pv)] [("add",273,223,jr),("prepare",273,228,pG),("done",273,256,pF),("get_ready",273,235,nO),("is_active",273,242,nP)] dM dQ) 40 (L.cx (c7 (cY (G9 L (n:=n)) (by omega)) (c7 (cY (Hb L (n:=n)) (by omega)) a_)) (c7 (cY (Tn L (n:=n)) (by omega)) a_) (c7 (cY (TL L (n:=n)) (by omega)) (c7 (cY (TS L (n:=n)) (by omega)) (c7 (cY (TM L (n:=n)) (by omega)) (c7 (cY (TP L (n:=n)) (by omega)) (c7 (cY (TR L (n:=n)) (by omega)) a_))))) dW dV) (by kernel_rfl) (bk b6.p3 ⟨λZ Z Z=>by kernel_rfl⟩) MJ (by kernel_rfl) (by kernel_rfl)
theorem Tu(L:LawW W):Bx (ba W (n+15) 364 tY):=L.fn (n:=n+8) (c:=dK W.w.params ["script","numbers","lines","ways","folders","plain","own","inside","folder","rules","name","part","_law_ways","list","answers","order","kept","whole","_law_walk","due","heard","right","first","behind","ends","one","place","_law_read","number","_law_plain","_law_record","tuple","_law_merged","line","path","sum","range","dirname","/","_law_told","row","join","b","max","str","commonprefix","False","merge_entries","Big*Figs/plum","xpLumy","allowed","len","True","end","agent","","commonpath","fig","Plum","*"] [] true [("_law_ways",327,q7),("_law_walk",359,q6),("_law_read",322,qZ),("_law_plain",332,pD),("_law_record",349,pE),("_law_merged",337,mm),("dirname",305,fm),("_law_told",354,fT),("join",291,iV),("commonprefix",150,pz),("merge_entries",70,gX),("commonpath",317,px)] [] [("applies_to",59,49,pA),("allowance",59,56,lp)] dM dQ) 40 (L.cx (c7 (cY (TG L (n:=n)) (by omega)) (c7 (cY (TF L (n:=n)) (by omega)) (c7 (cY (TA L (n:=n)) (by omega)) (c7 (cY (Tz L (n:=n)) (by omega)) (c7 (cY (TB L (n:=n)) (by omega)) (c7 (cY (Tw L (n:=n)) (by omega)) (c7 (cY (G9 L (n:=n)) (by omega)) (c7 (cY (TC L (n:=n)) (by omega)) (c7 (cY (Ha L (n:=n)) (by omega)) (c7 (cY (Tp L (n:=n)) (by omega)) (c7 (cY (Hb L (n:=n)) (by omega)) (c7 (cY (To L (n:=n)) (by omega)) a_)))))))))))) a_ (c7 (cY (Tr L (n:=n)) (by omega)) (c7 (cY (Tq L (n:=n)) (by omega)) a_)) dW dV) (by kernel_rfl) (bk b6.p1 ⟨λZ=>by kernel_rfl⟩) gz (by kernel_rfl) (by kernel_rfl)
end
end
section
def Q9(k:Nat)(o:bu):Prop:=(k=cj->o.cls=.type "function" /\∃F,o.data=.func F)/\(k≠cj->o.cls=.ref k/\notCls o=true)
noncomputable def zS (prog:eA) (w:eC) (base:aN) (mg mb:aj->Option af) (os:CM):Wd:=
 {prog:=prog,w:=w,base:=base,K:=KK w.params,mg:=mg,mb:=mb,tab:=339,os:=os,kind:=Q9,
   je:=λk F=>∃D O d g,qX ["size","path"] D/\F=vc "<lambda>" "_law_line.<locals>.<lambda>" (dA w.params 3).a (dA w.params 3).b (dA w.params 3).s D O d g,
   jK:="_law_line.<locals>.<lambda>"}
section
variable {prog:eA} {w:eC} {ak:ai} {mg mb:aj->Option af}
theorem GR(j:(KK w.params).In ak.heap)(z:ak.heap.Ns kW mg):mg=sJ w.params:=by
 obtain⟨o,u,y,e,P,_,I⟩:=z
 have B:((KK w.params).lookup 3).isSome=true:=by kernel_rfl
 obtain⟨C,N⟩:=mX B
 obtain rfl:o=C:=aM ((show ak.heap.get? 3=some o from e).symm.trans (j _ _ N))
 funext x
 rw [← I x]
 unfold sJ GQ
 rw [N]
 show vT u x=vT (match o.data with| .dict u _=>u| _=> #[]) x
 rw [P]
theorem Rd(p:x_ [(343,339)] ak.heap)(j:(KK w.params).In ak.heap)(z:ak.heap.Ns kW mg)(I:ak.heap.Ns j4 mb)(t:ak.heap.NoLimit)(s:∃G,ak.heap.Ns DP G/\G "sys.int_max_str_digits" =none)
 (R:∀x:aj,x≠ "__name__" ->mb x=yu x) (Q:∃J ob,mg "__builtins__" =some (.ref J)/\J≠j4/\ak.heap.get? J=some ob/\ob.cls=.type "module" /\ob.dict=some j4/\ob.data=.plain):
 LawW (zS prog w (uV ak.heap [(343,339)]) mg mb ak.os) where
 ok:=⟨ghost_K p j (by kernel_rfl),zp p z,zp p I,let ⟨G,a,r⟩:=t;⟨G,zp p a,r⟩,let ⟨G,a,r⟩:=s;⟨G,zp p a,r⟩⟩
 K:=rfl
 mb:=R
 mg:=GR j z
 inst k hk:=⟨λo h=>(h.2 hk).1,λo h=>(h.2 hk).2⟩
 kI k dx hk:=⟨λe=>absurd e hk,λZ=>⟨rfl,rfl⟩⟩
 sl o sl h:=⟨λe=>absurd e (by decide),λe=>h.2 e⟩
 line:=⟨λo h=>(h.1 rfl).1,λo h=>(h.1 rfl).2,λo d h=>⟨λe=>h.1 e,λe=>absurd rfl e⟩⟩
 vq fd:=⟨λZ=>⟨rfl,_,rfl⟩,λe=>absurd rfl e⟩
 tab:=rfl
 bi:=by
  obtain⟨J,ob,N,E,A,b,O,c⟩:=Q
  have M:J≠339:=λq=>by
   have:=(p (343,339) a0).2
   rw [q,show ak.heap.get? 339=some (Bh #[]) from this] at A
   rw [← aM A] at b
   exact nomatch b
  refine⟨J,ob,N,E,λq=>?_,M,ghost_ne A (λT=>M (List.mem_singleton.mp T)),b,O,c⟩
  obtain⟨o,u,y,e,B,_⟩:=z
  rw [← q,A] at e
  rw [← aM e,c] at B
  exact nomatch B
 jK:=rfl
 je fd:=Iff.rfl
noncomputable def G0:Gh:=⟨λZ=>none,λZ=>none,λZ=>False,λZ=>True,λZ=>False⟩
theorem B4{a:aq}:¬G0.own a:=λ⟨i,_,x⟩=>x.elim aY aY
theorem ints_rep{W:Wd}{G:Gh}{h:aN}:∀{P:List af} {is:List Int},IntsAre P is->aQ W G h P (is.map .int)
 | _,_,.nil=>.nil
 | _,_,.cons n t r=>.cons (.int n t) (ints_rep r)
theorem Rb(p:x_ [(343,339)] ak.heap)(u:ak.gens= #[]):St (zS prog w (uV ak.heap [(343,339)]) mg mb ak.os) G0 ak MH.nil:=by
 have T:=(p (343,339) a0).2
 refine⟨⟨λb o e=>of_hideAll _ e,bN (PR _ _),u,rfl,λa x=>absurd x B4,λa x=>x.elim,λi j a Z Z e=>aY e,λi j a Z Z e=>aY e,λi j a Z Z e=>aY e,⟨#[],T,⟨trivial,λR d e=>aY e⟩⟩,?_,?_,λZ x=>x⟩,⟨λi c e=>aY e,λi Z=>⟨rfl,rfl,trivial⟩⟩⟩
 .show 339<(uV ak.heap [(343,339)]).objs.size
  rw [PR];exact b9 T
 .exact hideAll_none _ (show(339:Nat)∈ [339] from a0)
theorem Ra(P:∀f:List Int,f.length<=63->∃ab,tY [.list (f.map .int)] MH.nil=some (.bool true,ab))(Z:x_ [(343,339)] ak.heap)(j:(KK w.params).In ak.heap)(z:ak.heap.Ns kW mg)(I:ak.heap.Ns j4 mb)(t:ak.heap.NoLimit)(s:∃G,ak.heap.Ns DP G/\G "sys.int_max_str_digits" =none)
 (R:∀x:aj,x≠ "__name__" ->mb x=yu x) (Q:∃J ob,mg "__builtins__" =some (.ref J)/\J≠j4/\ak.heap.get? J=some ob/\ob.cls=.type "module" /\ob.dict=some j4/\ob.data=.plain)
 (u:ak.gens= #[]) {F l:aq} {h:List af} {f:List Int} (y:mg "law" =some (.ref F)) (hl:ak.heap.get? l=some {cls:=.type "list",data:=.seq h.toArray}) (k:IntsAre h f) (p:f.length<=63):
 eU (bX prog w) callerA (.call (.ref F) ⟨[.ref l],[]⟩) (λr i=>r=.ok (.ret (.bool true))/\(∀b o,(uV ak.heap [(343,339)]).get? b=some o->i.heap.get? b=some o)/\i.os=ak.os/\i.gens= #[]/\GrownAll [(343,339)] i.heap) ak:=by
 have L:=Rd (prog:=prog) Z j z I t s R Q
 have N:sJ w.params "law" =some (.ref 364):=by kernel_rfl
 rw [GR j z,N] at y
 obtain rfl:364=F:=jA (aM y)
 have st:=Rb (prog:=prog) (w:=w) (mg:=mg) (mb:=mb) Z u
 obtain⟨ab,c⟩:=P f p
 have a:l≠339:=λq=>by
  rw [q,(Z (343,339) a0).2] at hl
  exact nomatch congrArg Obj.cls (aM hl)
 have d:Rep (zS prog w (uV ak.heap [(343,339)]) mg mb ak.os) G0 ak.heap (.ref l) (.list (f.map .int)):=
  .list (by rw [aZ];exact aE p (by decide)) ⟨B4,λx=>x,a⟩ hl rfl rfl rfl (ints_rep k)
 have H:br 15 callerA:=⟨by decide,by decide,rfl,rfl⟩
 refine g6 ((Tu L (n:=0)).1 H st (.cons d .nil) ⟨[],rfl,λe D=>nomatch D⟩ c) λr i ⟨v,m,G',C,g,A⟩=>?_
 subst m
 obtain rfl:v=.bool true:=A.inv
 obtain⟨ps,B,_⟩:=g.inv.tab
 exact⟨rfl,g.inv.keep,g.inv.os,g.inv.gens,⟨ps,B⟩,trivial⟩
end
end
section
theorem bs{α β:Type}{x:Option α}{f:α->Option β}{a:α}{r:Option β}(h:x=some a)(k:f a=r):x.bind f=r:=by exact aa (h ..)<|k
theorem sv{α:Type}{c:Prop} [Decidable c]{x:Option α}{r:Option α}(h:c)(k:x=r):(if c then x else none)=r:=(if_pos h).trans k
section
variable {ρ ae bw:aC} {σ ab ao aX:MH} {d e:D}
theorem u3{i k as}(O:σ.cell i=some (.inst k as)):sx σ (.ref i)=some (k,as):=bs (a:=i) rfl (bs O rfl)
theorem yH{i k as}(O:σ.cell i=some (.inst k as)):DW σ (.ref i)=some (i,k,as):=bs (a:=i) rfl (bs O rfl)
theorem uC{i k as}(O:σ.cell i=some (.slots k as)):uB k σ (.ref i)=some (i,as):=bs (a:=i) rfl (bs O (bs (a:=(k,as)) rfl (if_pos rfl)))
theorem yG{i as}(O:σ.cell i=some (.dict as)):cellK σ (.ref i)=some (i,as):=bs (a:=i) rfl (bs O rfl)
theorem oz{i as}(O:σ.cell i=some (.list as)):mH σ (.ref i)=some (i,as):=bs (a:=i) rfl (bs O rfl)
theorem yJ{i as}(O:σ.cell i=some (.set as)):rW σ (.ref i)=some (i,as):=bs (a:=i) rfl (bs O rfl)
theorem iC{i as}(O:σ.cell i=some (.list as)):bU σ (.ref i)=some as:=show(σ.cell i).bind (λc=>c.ij)=_ from bs O rfl
theorem yk{i as}(O:σ.cell i=some (.dict as)):j1 σ (.ref i)=some as:=show(σ.cell i).bind (λc=>c.i9)=_ from bs O rfl
theorem Ds{i as}(O:σ.cell i=some (.h_ as)):j1 σ (.ref i)=some as:=show(σ.cell i).bind (λc=>c.i9)=_ from bs O rfl
theorem uo{i as}(O:σ.cell i=some (.list as)):gP σ (.ref i)=some as:=iC O
theorem av{x:String}(h:ρ x=some d):ME.var x ρ σ=some (d,σ):=bs h rfl
theorem uO{f a r}(h:a ρ σ=some (d,ao))(k:f d ao=some r):ME.ax f a ρ σ=some r:=bs h k
theorem Ou{f a b r}(h:a ρ σ=some (d,ao))(h':b ρ ao=some (e,aX))(k:f d e aX=some r):ME.bh f a b ρ σ=some r:=bs h (bs h' k)
theorem Ay{f:D->D->MH->Option D}{r}(h:f d e σ=some r):cm f d e σ=some (r,σ):=bs h rfl
theorem Tg{f:D->MH->Option D}{r}(h:f d σ=some r):gD f d σ=some (r,σ):=bs h rfl
theorem eD{f:D->MH->Option D}{a r}(h:a ρ σ=some (d,ao))(k:f d ao=some r):ME.ax (gD f) a ρ σ=some (r,ao):=uO h (Tg k)
theorem aJ{f:D->D->MH->Option D}{a b r}(h:a ρ σ=some (d,ao))(h':b ρ ao=some (e,aX))(k:f d e aX=some r):ME.bh (cm f) a b ρ σ=some (r,aX):=Ou h h' (Ay k)
theorem cO{k:Nat}{name:aj}{a:ME}{i:Nat}{as v}(h:a ρ σ=some (.ref i,ao))(O:ao.cell i=some (.inst k as))(l:as.lookup name=some v):ME.ax (aV k name) a ρ σ=some (v,ao):=
 eD h (bs (u3 O) ((if_pos rfl).trans l))
theorem oF{k j:Nat}{a:ME}{i:Nat}{as v}(h:a ρ σ=some (.ref i,ao))(O:ao.cell i=some (.slots k as))(l:as.lookup j=some v):ME.ax (eY k j) a ρ σ=some (v,ao):=
 eD h (bs (uC O) l)
theorem d8{F:FM}{g ds r}(h:g ρ σ=some (ds,ao))(k:F ds ao=some r):ME.a8 F g ρ σ=some r:=bs h k
theorem bA:aG [] ρ σ=some ([],σ):=rfl
theorem aS{m I ds}(h:m ρ σ=some (d,ao))(k:aG I ρ ao=some (ds,aX)):aG (m::I) ρ σ=some (d::ds,aX):=bs h (bs k rfl)
theorem j9{I ds}(h:aG I ρ σ=some (ds,ab))(J:ds.length<=aP):ME.list I ρ σ=some (.list ds,ab):=bs h (sv J rfl)
theorem iK{I ds}(h:aG I ρ σ=some (ds,ab))(J:ds.length<=aP):ME.tup I ρ σ=some (.tup ds,ab):=bs h (sv J rfl)
theorem h8{m:MF}{c}(h:m ρ σ=some (c,ab)):ME.d9 m ρ σ=some (.ref ab.next,ab.new c):=bs h rfl
theorem mP{m:MF}{c}(h:m ρ σ=some (c,ab))(k:uA c=some d):ME.aI m ρ σ=some (d,ab):=bs h (bs k rfl)
theorem zb{b x y r}(h:b ρ σ=some (true,ao))(k:x ρ ao=some r):ME.ite b x y ρ σ=some r:=bs h k
theorem Em{b x y r}(h:b ρ σ=some (false,ao))(k:y ρ ao=some r):ME.ite b x y ρ σ=some r:=bs h k
theorem El{b x y c r}(h:b ρ σ=some (c,ao))(k:(bif c then x ρ ao else y ρ ao)=some r):ME.ite b x y ρ σ=some r:=bs h k
theorem j_{c f a b r}(h:a ρ σ=some (d,ao))(p:c d ao=true)(h':b ρ ao=some (e,aX))(k:f d e aX=some r):ME.dB c f a b ρ σ=some r:=bs h (sv p (bs h' k))
theorem jC{C name F mo g j r as}{i:Nat}(h:mo ρ σ=some (.ref i,ao))(O:ao.cell i=some (.inst C as))(l:as.lookup name=none)(h':g ρ ao=some (j,aX))(k:F (.ref i::j) aX=some r):ME.dC C name F mo g ρ σ=some r:=
 bs h (sv (show qt C name ao (.ref i)=true by unfold qt;exact aa (u3 O ..)<|decide_eq_true ⟨rfl,l⟩) (bs h' k))
theorem kc{c lo w xs l u}(h:c ρ σ=some (d,ao))(U:d.dj=none)(hl:jF lo ρ ao=some (l,ao))(f:jF w ρ ao=some (u,ao))(k:bU ao d=some xs):ME.slice c lo w ρ σ=some (.list (jQ xs l u),ao):=
 bs h (bs hl (bs f (bs (a:=.list (jQ xs l u)) (by unfold A4;exact aa (U ..)<|bs k rfl) rfl)))
theorem oo{a b}(h:a ρ σ=some (d,ao))(k:k9 ao d=some b):MB.val a ρ σ=some (b,ao):=bs h (bs k rfl)
theorem cz{a b}(h:a ρ σ=some (.bool b,ao)):MB.val a ρ σ=some (b,ao):=bs h rfl
theorem ur{a b}(h:a ρ σ=some (b,ao)):MB.not a ρ σ=some (!b,ao):=bs h rfl
theorem MK{a b r}(h:a ρ σ=some (false,ao))(k:b ρ ao=some r):MB.or a b ρ σ=some r:=bs h k
theorem Dv{a b p q}(h:a ρ σ=some (p,σ))(k:b ρ σ=some (q,σ)):MB.and a b ρ σ=some (p && q,σ):=bs h (by induction p<;>first| exact k| rfl)
theorem aK{x y r}(h:x ρ σ=some (.next,ae,ab))(k:y ae ab=some r):MS.cons x y ρ σ=some r:=bs h k
theorem wj{x y f r}(h:x ρ σ=some (f,r))(k:f.oY=false):MS.cons x y ρ σ=some (f,r):=bs h (by show(bif f.oY then _ else _)=_;exact aa (k ..) rfl)
theorem eo{t m}(h:m ρ σ=some (d,ao))(k:t d ρ ao=some (ae,ab)):MS.assign t m ρ σ=some (.next,ae,ab):=bs h (bs k rfl)
theorem bt{x m}(h:m ρ σ=some (d,ao)):MS.assign (.name x) m ρ σ=some (.next,ρ.set x d,ao):=bs h rfl
theorem il{m}(h:m ρ σ=some (d,ab)):MS.expr m ρ σ=some (.next,ρ,ab):=bs h rfl
theorem fC{m}(h:m ρ σ=some (d,ab)):MS.ret m ρ σ=some (.ret d,ρ,ab):=bs h rfl
theorem iO{b x y r}(h:b ρ σ=some (true,ao))(k:x ρ ao=some r):MS.ite b x y ρ σ=some r:=bs h k
theorem d_{b x y r}(h:b ρ σ=some (false,ao))(k:y ρ ao=some r):MS.ite b x y ρ σ=some r:=bs h k
theorem HM{b x y c r}(h:b ρ σ=some (c,ao))(d:c=true->x ρ ao=some r)(a:c=false->y ρ ao=some r):MS.ite b x y ρ σ=some r:=bs h (by induction c<;>first| exact d rfl| exact a rfl)
theorem iq{k:Nat}{name:aj}{mo i as}(h:mo ρ σ=some (.ref i,ao))(O:ao.cell i=some (.inst k as))(J:as.length<=1000):MT.attr k name mo d ρ σ=some (ρ,ao.put i (.inst k (eF as name d))):=
 bs h (bs (a:=ao.put i (.inst k (eF as name d))) (bs (yH O) (if_pos ⟨rfl,J⟩)) rfl)
theorem tx{k j:Nat}{U i as}(h:U ρ σ=some (.ref i,ao))(O:ao.cell i=some (.slots k as)):MT.slot k j U d ρ σ=some (ρ,ao.put i (.slots k (putN as j d))):=
 bs h (bs (a:=ao.put i (.slots k (putN as j d))) (bs (uC O) rfl) rfl)
theorem tA{mo mi:ME}{k:aj}{i R}(h:mo ρ σ=some (.ref i,ao))(h':mi ρ ao=some (.str k,aX))(O:aX.cell i=some (.dict R))(J:R.length<aP):MT.sub mo mi d ρ σ=some (ρ,aX.put i (.dict (eF R k d))):=
 bs h (bs h' (bs (a:=k) rfl (bs (yG O) (if_pos J))))
theorem EK{B m j c f}(hb:B j=some c)(h:m (c_ c) σ=some (f,ae,ab))(k:f.val?=some d):bO B m j σ=some (d,ab):=bs hb (bs h (bs k rfl))
theorem fx{B m ds yv}(hb:B ds=some yv)(h:m (c_ yv) σ=some (.ret d,ae,ab)):bO B m ds σ=some (d,ab):=EK hb h rfl
theorem oJ{B m j c}(hb:B j=some c)(h:m (c_ c) σ=some (.next,ae,ab)):bO B m j σ=some (.none,ab):=EK hb h rfl
theorem qn{F:FM}{j}(G:j.all (noRef 6)=true)(h:F j MH.nil=some (d,ab))(k:bq ab 5 d=some e):m9 F j=some e:=sv G (bs h k)
theorem f_hide{F:FM}{j}(h:m9 F j=some d):fO F j σ=some (d,σ):=bs h rfl
end
end
theorem be{α β:Type}{x:Option α}{f:α->Option β}{r:β}(h:x.bind f=some r):∃a,x=some a/\f a=some r:=by
 induction x with
 | none=>cases h
 | some a=>exact⟨a,rfl,h⟩
def After(q:Fl×aC×MH)(K:aC->MH->Prop)(Q:Fl->aC->MH->Prop):Prop:=match q.1 with
 | .next=>K q.2.1 q.2.2
 | .cont=>K q.2.1 q.2.2
 | .brk=>Q .next q.2.1 q.2.2
 | .ret d=>Q (.ret d) q.2.1 q.2.2
noncomputable def turn (t:MT) (O:MS) (x:D) (ρ:aC) (σ:MH):Option (Fl×aC×MH):=(t x ρ σ).bind λp=>O p.1 p.2
theorem lM{α:Type}{l r:List α}{x:α}:(l++x::r)[l.length]?=some x:=by exact aa (Cg (bb _) ..)<|aa (CF ..) rfl
theorem RJ{q:Fl×aC×MH}{go:aC->MH->Option (Fl×aC×MH)}{K:aC->MH->Prop}{Q:Fl->aC->MH->Prop}(h:After q K Q)(k:∀ρ σ,K ρ σ->∃r,go ρ σ=some r/\Q r.1 r.2.1 r.2.2):∃r,vz q go=some r/\Q r.1 r.2.1 r.2.2:=by
 obtain⟨o,ρ,σ⟩:=q
 induction o with
 | next=>exact k _ _ h
 | cont=>exact k _ _ h
 | brk=>exact⟨_,rfl,h⟩
 | ret d=>exact⟨_,rfl,h⟩
theorem A0{α:Type}(as:List α)(s:α->D){d:MI}{t:MT}{O:MS}{ρ:aC}{σ ao:MH}{at_:dR}(I:List α->aC->MH->Prop)(Q:Fl->aC->MH->Prop)(w:d ρ σ=some (at_,(as.map s).length+1,ao))(Z:∀l ρ σ j,I l ρ σ->at_ σ j=some (as.map s)[j]?)
 (H:I [] ρ ao) (k7:∀l a r ρ σ,as=l++a::r->I l ρ σ->∃q,turn t O (s a) ρ σ=some q/\After q (I (l++ [a])) Q)
 (v:∀ρ σ,I as ρ σ->Q .next ρ σ):∃q,MS.cD d t O ρ σ=some q/\Q q.1 q.2.1 q.2.2:=by
 have F:∀(r l:List α) (ρ:aC) (σ:MH),as=l++r->I l ρ σ->∃q,mQ at_ t O (r.length+1) l.length ρ σ=some q/\Q q.1 q.2.1 q.2.2:=by
  intro r
  induction r with
  | nil=>
   intro l ρ σ w h
   rw [hW] at w
   exact⟨(.next,ρ,σ),bs ((Z l ρ σ l.length h).trans (by exact aa (w ..)<|aa (mn (by rw [aZ];exact bb _)) rfl)) rfl,v ρ σ (w▸h)⟩
  | cons x r b=>
   intro l ρ σ w h
   refine aw (k7 l x r ρ σ w h) λq y K=>?_
   refine aw (be y) λp T hb=>?_
   obtain⟨u,m,S⟩:=RJ K (go:=mQ at_ t O (r.length+1) (l.length+1)) λae ab h'=>by
    have:=b (l++ [x]) ae ab (by exact aa (iW ..)<|w) h'
    rwa [bF] at this
   have U:at_ σ l.length=some (some (s x)):=(Z l ρ σ l.length h).trans (congrArg some (by exact aa (gg ..)<|aa (w ..)<|aa (lM ..) rfl))
   exact⟨u,bs U (bs T (bs hb m)),S⟩
 refine aw (F as [] ρ ao rfl H) λq h k=>?_
 rw [← aZ (f:=s)] at h
 exact⟨q,bs w h,k⟩
theorem jO{α:Type}(as:List α)(s:α->D){mi:MI}{t:MT}{body:MS}{ρ:aC}{σ ao:MH}{at_:dR}{P:Prop}(I:List α->aC->MH->Prop)(Q:Fl->aC->MH->Prop)(w:mi ρ σ=some (at_,(as.map s).length+1,ao))(O:∀l ρ σ j,I l ρ σ->at_ σ j=some (as.map s)[j]?)
 (H:I [] ρ ao) (k7:∀l a r ρ σ,as=l++a::r->I l ρ σ->∃q,turn t body (s a) ρ σ=some q/\After q (I (l++ [a])) Q)
 (v:∀ρ σ,I as ρ σ->Q .next ρ σ) (k:∀o ae ab,MS.cD mi t body ρ σ=some (o,ae,ab)->Q o ae ab->P):P:=aw (A0 as s I Q w O H k7 v) λZ h q=>k _ _ _ h q
theorem fh{xs:List D}{σ:MH}{j:Nat}:fj (.list xs) σ j=some xs[j]?:=rfl
theorem rQ{σ:MH}{i j:Nat}{xs:List D}(h:σ.cell i=some (.list xs)):fj (.ref i) σ j=some xs[j]?:=bs (uo h) rfl
theorem cU{m:ME}{ρ:aC}{σ ao:MH}{xs:List D}(h:m ρ σ=some (.list xs,ao)):MI.of m ρ σ=some (fj (.list xs),xs.length+1,ao):=bs h rfl
theorem zF{m:ME}{ρ:aC}{σ ao:MH}{xs:List D}(h:m ρ σ=some (.tup xs,ao)):MI.of m ρ σ=some (fj (.tup xs),xs.length+1,ao):=bs h rfl
theorem sm{m:ME}{ρ:aC}{σ ao:MH}{i:Nat}{xs:List D}(h:m ρ σ=some (.ref i,ao))(O:ao.cell i=some (.list xs)):MI.of m ρ σ=some (fj (.ref i),xs.length+1,ao):=bs h (bs (x:=gP ao (.ref i)) (uo O) rfl)
theorem HA{a c k:Int}(n:Nat)(h:k=n)(J:n<=aP):wd a c k=some (ie (gU a c n),n+1):=by
 subst h
 exact(if_pos ⟨pJ _,Int.ofNat_le.mpr J⟩)
theorem sk{m:ME}{ρ:aC}{σ ao:MH}{n:Nat}(h:m ρ σ=some (.int n,ao))(J:n<=aP):MI.gT m ρ σ=some (ie (gU 0 1 n),n+1,ao):=bs h (bs (a:=(n:Int)) rfl (bs (HA n rfl J) rfl))
theorem UB{a c n}:(gU a c n).length=n:=by unfold gU;exact aa (aZ ..)<|aa (hX ..) rfl
def Agree(own:List String)(ρ ae:aC):Prop:=∀z,z∉own->ae z=ρ z
theorem Agree.set{own ρ ae x d}(h:Agree own ρ ae)(U:x∈own):Agree own ρ (ae.set x d):=λz J=>(if_neg (c:=z=x) λe=>J (by exact aa (e ..)<|U)).trans (h z J)
theorem Agree.drop{own ρ}:Agree own ρ (ρ.drop own):=λZ J=>if_neg J
noncomputable def y4 (t:MT) (e:List MB) (b:MX) (y:D) (ρ:aC) (σ:MH) (c:Cell):Option (aC×MH×Cell):=(t y ρ σ).bind λp=>(oU e p.1 p.2).bind λk=>bif k.1 then b p.1 k.2 c else some (p.1,k.2,c)
theorem N4(z:List D){V:dR}{t:MT}{e:List MB}{b:MX}(J:List D->aC->MH->Cell->Prop)(O:∀l ρ σ c j,J l ρ σ c->V σ j=some z[j]?)
 (k7:∀l x r ρ σ c,z=l++x::r->J l ρ σ c->∃q,y4 t e b x ρ σ c=some q/\J (l++ [x]) q.1 q.2.1 q.2.2):
 ∀(r l:List D) (ρ:aC) (σ:MH) (c:Cell),z=l++r->J l ρ σ c->∃q,j8 V t e b (r.length+1) l.length ρ σ c=some q/\J z q.1 q.2.1 q.2.2:=by
 intro r
 induction r with
 | nil=>
  intro l ρ σ c w h
  rw [hW] at w
  exact⟨(ρ,σ,c),bs ((O l ρ σ c l.length h).trans (by exact aa (w ..)<|aa (mn (bb _) ..) rfl)) rfl,w▸h⟩
 | cons x r S=>
  intro l ρ σ c w h
  refine aw (k7 l x r ρ σ c w h) λq y K=>?_
  refine aw (be y) λp T hb=>?_
  refine aw (be hb) λk C hb=>?_
  have:=S (l++ [x]) q.1 q.2.1 q.2.2 (by exact aa (iW ..)<|w) K
  rw [bF] at this
  refine aw this λu m d=>?_
  have U:V σ l.length=some (some x):=(O l ρ σ c l.length h).trans (congrArg some (w▸lM))
  refine⟨u,bs U (bs T (bs C ?_)),d⟩
  induction N:k.1 with
  | true=>rw [N] at hb;exact bs hb m
  | false=>rw [N] at hb;obtain rfl:=aM hb;exact m
theorem y1(z:List D){at_:dR}{t:MT}{ifs:List MB}{b:MX}{P:Prop}(J:List D->aC->MH->Cell->Prop)(O:∀l ρ σ c j,J l ρ σ c->at_ σ j=some z[j]?)
 (k7:∀l x r ρ σ c,z=l++x::r->J l ρ σ c->∃q,y4 t ifs b x ρ σ c=some q/\J (l++ [x]) q.1 q.2.1 q.2.2) (ρ:aC) (σ:MH) (c:Cell) (h:J [] ρ σ c)
 (k:∀ae ab p,j8 at_ t ifs b (z.length+1) 0 ρ σ c=some (ae,ab,p)->J z ae ab p->P):P:=aw (N4 z J O k7 z [] ρ σ c rfl h) λZ h q=>k _ _ _ h q
def ma(own:List String)(t:MT)(e:List MB)(b:MX)(y:D)(ρ:aC)(σ:MH)(j:List D):Prop:=
 ∀ae f,Agree own ρ ae->f.length+j.length<=aP->∃n,y4 t e b y ae σ (.list f)=some (n,σ,.list (f++j))/\Agree own ρ n
theorem y0{α:Type}{own:List String}{ρ:aC}{σ:MH}(as:List α)(s:α->D)(g:α->List D){at_:dR}{t:MT}{ifs:List MB}{b:MX}(O:∀j,at_ σ j=some (as.map s)[j]?)
 (h:∀a∈as,ma own t ifs b (s a) ρ σ (g a)) {ae acc} (A:Agree own ρ ae) (J:acc.length+(as.flatMap g).length<=aP):
 ∃n,j8 at_ t ifs b ((as.map s).length+1) 0 ae σ (.list acc)=some (n,σ,.list (acc++as.flatMap g))/\Agree own ρ n:=by
 have F:∀(r l:List α) (ae:aC),as=l++r->Agree own ρ ae->∃n,j8 at_ t ifs b (r.length+1) l.length ae σ (.list (acc++l.flatMap g))=some (n,σ,.list (acc++as.flatMap g))/\Agree own ρ n:=by
  intro r
  induction r with
  | nil=>
   intro l ae w h'
   rw [hW] at w
   subst w
   exact⟨ae,bs ((O as.length).trans (by exact aa (mn (by rw [aZ];exact bb _)) rfl)) rfl,h'⟩
  | cons x r S=>
   intro l ae w h'
   have c:(acc++l.flatMap g).length+(g x).length<=aP:=by
    rw [w,t8,bF,nZ,bF] at J
    refine aa (bF ..) ?_;lia
   refine aw (h x (w▸d0 _ a0) ae _ h' c) λbw Z K=>?_
   refine aw (be Z) λp T hb=>?_
   refine aw (be hb) λk C hb=>?_
   have:=S (l++ [x]) bw (by exact aa (iW ..)<|w) K
   rw [bF,t8,xt,← iW] at this
   refine aw this λu m d=>?_
   refine⟨u,bs ((O l.length).trans (congrArg some (show(as.map s)[l.length]?=some (s x) by exact aa (gg ..)<|aa (w ..)<|aa (lM ..) rfl))) (bs T (bs C ?_)),d⟩
   induction N:k.1 with
   | true=>rw [N] at hb;exact bs hb m
   | false=>rw [N] at hb;refine aA (lF (aM hb)) λB V=>?_;obtain rfl:=B;refine aA (lF V) λQ E=>?_;show j8 _ _ _ _ _ _ _ k.2 _=_;exact aa (Q ..)<|aa (E ..)<|m
 have:=F as [] ae rfl A
 rwa [Ku,hW,← aZ (f:=s)] at this
theorem oE{α:Type}{own:List String}{ρ:aC}{σ ao:MH}(as:List α)(s:α->D)(g:α->List D){d:MI}{at_:dR}{t:MT}{ifs:List MB}{b:MX}(w:d ρ σ=some (at_,(as.map s).length+1,ao))(O:∀j,at_ ao j=some (as.map s)[j]?)
 (h:∀a∈as,ma own t ifs b (s a) ρ ao (g a)) (J:(as.flatMap g).length<=aP):ME.aI (.comp d t ifs b own (.list [])) ρ σ=some (.list (as.flatMap g),ao):=
 aw (y0 as s g O h Agree.drop (acc:=[]) (by exact aa (Ck ..)<|aa (rM ..)<|J)) λn h Z=>
 mP (c:=.list (as.flatMap g)) (bs w (bs h rfl)) rfl
theorem wR{m:ME}{ρ:aC}{σ ao:MH}{d:D}{f:List D}(h:m ρ σ=some (d,ao))(J:f.length<aP):MX.elt m ρ σ (.list f)=some (ρ,ao,.list (f++ [d])):=bs h (bs (a:=f) rfl (if_pos J))
theorem rP{own:List String}{x:String}{e:List MB}{m:ME}{y d:D}{ρ:aC}{σ:MH}(U:x∈own)(h:∀ae,Agree own ρ ae->ae x=some y->oU e ae σ=some (true,σ)/\m ae σ=some (d,σ)):ma own (.name x) e (.elt m) y ρ σ [d]:=λae f A J=>
 have k:=h (ae.set x y) (A.set U) (if_pos rfl)
 ⟨ae.set x y,bs rfl (bs k.1 (wR k.2 J)),A.set U⟩
theorem C7{own:List String}{x:String}{e:List MB}{b:MX}{y:D}{ρ:aC}{σ:MH}(U:x∈own)(h:∀ae,Agree own ρ ae->ae x=some y->oU e ae σ=some (false,σ)):ma own (.name x) e b y ρ σ []:=λae f A J=>
 ⟨ae.set x y,bs rfl (bs (h (ae.set x y) (A.set U) (if_pos rfl)) (by exact aa (hW ..) rfl)),A.set U⟩
theorem qb{b:MB}{ρ:aC}{σ:MH}{p:Bool}(h:b ρ σ=some (p,σ)):oU [b] ρ σ=some (p,σ):=bs h (by induction p<;>rfl)
theorem eV{α:Type}{own:List String}{x:String}{ρ:aC}{σ ao:MH}(as:List α)(s:α->D)(g:α->D){d:MI}{at_:dR}{m:ME}(w:d ρ σ=some (at_,(as.map s).length+1,ao))(O:∀j,at_ ao j=some (as.map s)[j]?)
 (U:x∈own) (h:∀a∈as,∀ae,Agree own ρ ae->ae x=some (s a)->m ae ao=some (g a,ao)) (J:as.length<=aP):ME.aI (.comp d (.name x) [] (.elt m) own (.list [])) ρ σ=some (.list (as.map g),ao):=by
 have e:as.flatMap (λa=>[g a])=as.map g:=List.map_eq_flatMap.symm
 exact aa (.symm (e ..))<|oE as s _ w O (λa K=>rP U λae k f=>⟨rfl,h a K ae k f⟩) (by exact aa (e ..)<|aa (aZ ..)<|J)
theorem mO{α:Type}{own:List String}{x:String}{ρ:aC}{σ ao:MH}(as:List α)(s:α->D)(p:α->Bool)(g:α->D){d:MI}{V:dR}{b:MB}{m:ME}(w:d ρ σ=some (V,(as.map s).length+1,ao))(O:∀j,V ao j=some (as.map s)[j]?)
 (U:x∈own) (h:∀a∈as,∀ae,Agree own ρ ae->ae x=some (s a)->b ae ao=some (p a,ao)/\(p a=true->m ae ao=some (g a,ao))) (J:as.length<=aP):ME.aI (.comp d (.name x) [b] (.elt m) own (.list [])) ρ σ=some (.list ((as.filter p).map g),ao):=by
 have e:as.flatMap (λa=>if p a then [g a] else [])=(as.filter p).map g:=by
  clear h J w O
  induction as with
  | nil=>rfl
  | cons a as S=>refine aa (nZ ..)<|aa (S ..) ?_;induction T:p a<;>simp [T]
 refine aa (.symm (e ..)) ?_
 refine oE as s _ w O (λa K=>?_) (by exact aa (e ..)<|aa (aZ ..)<|Nat.le_trans (iX ..) J)
 induction T:p a with
 | true=>exact rP U λae k f=>⟨T▸qb (h a K ae k f).1,(h a K ae k f).2 T⟩
 | false=>exact C7 U λae k f=>T▸qb (h a K ae k f).1
noncomputable def nm:Nat->aj| 0=>"a" | 1=>"b" | _=>"ab"
noncomputable def aR (f:List Nat):aj:=("/" :aj)++iZ "/" (f.map nm)
noncomputable def pc:Nat->aj| 0=>"a" | 1=>"b" | 2=>"ab" | 3=>".." | 4=>"." | _=>""
noncomputable def en:Nat->aj| 0=>"" | 1=>"a" | 2=>"b" | _=>"ab"
noncomputable def bS (f:List Nat) (e:Nat):aj:=bif f.isEmpty then ("/" :aj)++en e else aR f++ "/" ++en e
noncomputable def ic (f:List Nat) (p:Nat):List Nat:=if p<3 then f++ [p] else if p=3 then f.dropLast else f
noncomputable def fo (p q r:Nat):List Nat:=ic (ic (ic [] p) q) r
noncomputable def b7:List (List Nat):=[]::((dv 3).map λa=>[a])++((dv 3).flatMap λa=>(dv 3).map λb=>[a,b])++(dv 3).flatMap λa=>(dv 3).flatMap λb=>(dv 3).map λc=>[a,b,c]
noncomputable def isStr (r:Option D) (s:aj):Bool:=match r with| some (.str t)=>t==s| _=>false
theorem qe{r s}(h:isStr r s=true):r=some (.str s):=by
 induction r with
 | none=>exact nomatch h
 | some d=>cases d with
  | str t=>exact congrArg (λx=>some (D.str x)) (eq_of_beq h)
  | _=>exact nomatch h
noncomputable def r6 (k:Nat->Bool):Bool:=k 0 && (k 1 && (k 2 && (k 3 && (k 4 && (k 5 && true)))))
theorem Hx(n:Nat){k:Nat->Bool}(h:(dv n).all k=true){p:Nat}(T:p<n):k p=true:=List.all_eq_true.mp h p (List.mem_range.mpr T)
theorem qq{k:Nat->Bool}(h:r6 k=true){p:Nat}(T:p<6):k p=true:=Hx 6 h T
noncomputable def S2 (p q r:Nat):Bool:=isStr ((m9 (bO (p4 "a" "p") Aa) [.str "/",.str (pc p),.str (pc q),.str (pc r)]).bind λd=>m9 (bO (bind1 "path") GH) [d]) (aR (fo p q r))
noncomputable def o7 (p:Nat):Bool:=r6 λq=>r6 λr=>S2 p q r
theorem SV:o7 0=true:=by kernel_rfl
theorem SW:o7 1=true:=by kernel_rfl
theorem SX:o7 2=true:=by kernel_rfl
theorem SY:o7 3=true:=by kernel_rfl
theorem S0:o7 4=true:=by kernel_rfl
theorem S1:o7 5=true:=by kernel_rfl
theorem S3{p q r:Nat}(T:p<6)(y:q<6)(m:r<6):∃d,(∀σ,iV [.str "/",.str (pc p),.str (pc q),.str (pc r)] σ=some (d,σ))/\∀σ,q8 [d] σ=some (.str (aR (fo p q r)),σ):=by
 have h:r6 o7=true:=by unfold r6;rw [SV,SW,SX,SY,S0,S1];rfl
 refine aw (be (qe (qq (qq (qq h T) y) m))) λd N E=>?_
 exact⟨d,λσ=>f_hide N,λσ=>f_hide E⟩
noncomputable def As (c:aj):Bool:= !(c.length==0) && !(c== ".")
noncomputable def DZ (f:List Nat):Bool:=isStr (m9 (bO (bind1 "p") z_) [.str (aR f)]) (aR f.dropLast) && (t5 "/" (f.map nm) && (fB (iZ "/" (f.map nm)) && (fB (aR f) && (decide (1+(iZ "/" (f.map nm)).length<=aP) &&
 ((Txt.split (aR f) "/").all fB && (decide ((Txt.split (aR f) "/").length<=aP) && ((Txt.split (aR f) "/").filter As==f.map nm && (ya (aR f) "/" && ((f.isEmpty==(aR f== "/")) && decide (f.length<=3))))))))))
theorem NF:b7.all DZ=true:=by kernel_rfl
structure JU(f:List Nat):Prop where
 dir:∀σ,fm [.str (aR f)] σ=some (.str (aR f.dropLast),σ)
 FQ:t5 "/" (f.map nm)=true
 FR:fB (iZ "/" (f.map nm))=true
 st:fB (aR f)=true
 len:1+(iZ "/" (f.map nm)).length<=aP
 sp:(Txt.split (aR f) "/").all fB=true
 H9:(Txt.split (aR f) "/").length<=aP
 ON:(Txt.split (aR f) "/").filter As=f.map nm
 Vp:ya (aR f) "/" =true
 root:f.isEmpty=(aR f== "/")
 mZ:f.length<=3
theorem gm{f}(h:f∈b7):JU f:=by
 have:=List.all_eq_true.mp NF f h
 unfold DZ at this
 simp only [jo,decide_eq_true_eq,beq_iff_eq] at this
 obtain⟨a,b,c,d,e,g,i,j,k,l,m⟩:=this
 exact⟨λσ=>f_hide (qe a),b,c,d,e,g,i,j,k,l,m⟩
noncomputable def r4 (k:Nat->Bool):Bool:=k 0 && (k 1 && (k 2 && (k 3 && true)))
theorem ta{k:Nat->Bool}(h:r4 k=true){p:Nat}(T:p<4):k p=true:=Hx 4 h T
noncomputable def DY (f:List Nat) (e:Nat):Bool:=isStr (m9 (bO (p4 "a" "p") Aa) [.str (aR f),.str (en e)]) (bS f e) && (isStr (m9 (bO (bind1 "p") z_) [.str (bS f e)]) (aR f) && fB (bS f e))
theorem ND:(b7.all λf=>r4 λe=>DY f e)=true:=by kernel_rfl
structure K3(f:List Nat)(e:Nat):Prop where
 join:∀σ,iV [.str (aR f),.str (en e)] σ=some (.str (bS f e),σ)
 dir:∀σ,fm [.str (bS f e)] σ=some (.str (aR f),σ)
 st:fB (bS f e)=true
theorem z1{f e}(h:f∈b7)(D:e<4):K3 f e:=by
 have:=ta (List.all_eq_true.mp ND f h) D
 unfold DY at this
 simp only [jo] at this
 exact⟨λσ=>f_hide (qe this.1),λσ=>f_hide (qe this.2.1),this.2.2⟩
theorem QD:(b7.all λf=>b7.all λg=> !(aR f==aR g)|| (f==g))=true:=by kernel_rfl
theorem qo{f g}(I:f∈b7)(u:g∈b7)(h:aR f=aR g):f=g:=by
 have:=List.all_eq_true.mp (List.all_eq_true.mp QD f I) g u
 rw [h,beq_self_eq_true] at this
 simpa using this
theorem Ug:(b7.all λf=>r4 λe=>b7.all λg=> !(KL (bS g 0).cps.toList (bS f e).cps.toList)|| g.isPrefixOf f)=true:=by kernel_rfl
theorem RL:(b7.all λg=>r4 λe=>KL (bS g 0).cps.toList (bS g e).cps.toList)=true:=by kernel_rfl
noncomputable def hit (name a:aj):Bool:=ng name none (some (a.length:Int))==a
theorem PV{x y:aj}(h:hit x y=true):y.cps.toList<+:x.cps.toList:=by
 have h:=eq_of_beq h
 have hl:y.length<=x.length:=by exact aa (.symm (h ..))<|Txt.slice_le ..
 have:=eq_of_beq (slice_closes_toL (x:=x) (j:=(y.length:Int)) (pJ _) (Int.ofNat_le.mpr hl))
 have h':CX x none (some (y.length:Int))=y:=h
 rw [h'] at this
 refine aa (this ..) ?_
 simpa using List.take_prefix y.length x.cps.toList
theorem PU{f g e t}(I:f∈b7)(D:e<4)(u:g∈b7)(w:t<4)(h:hit (bS f e) (bS g t)=true):g<+:f:=by
 have N:=ta (List.all_eq_true.mp RL g u) w
 have E:=List.all_eq_true.mp (ta (List.all_eq_true.mp Ug f I) D) g u
 have A:=(List.isPrefixOf_iff_prefix.mp N).trans (PV h)
 rw [List.isPrefixOf_iff_prefix.mpr A] at E
 exact List.isPrefixOf_iff_prefix.mp (by simpa using E)
theorem T5:(b7.all λf=>b7.contains f.dropLast)=true:=by kernel_rfl
theorem Hk{f}(h:f∈b7):f.dropLast∈b7:=List.contains_iff_mem.mp (List.all_eq_true.mp T5 f h)
theorem OW:(r6 λp=>r6 λq=>r6 λr=>b7.contains (fo p q r))=true:=by kernel_rfl
theorem OX{p q r:Nat}(T:p<6)(y:q<6)(m:r<6):fo p q r∈b7:=List.contains_iff_mem.mp (qq (qq (qq OW T) y) m)
section
noncomputable def iD (i:Nat):D:=.int (i:Int)
structure Ln where
 p:Nat
 q:Nat
 r:Nat
 e:Nat
 al:Bool
 k:Nat
 g:Nat
noncomputable def Ln.f (l:Ln):List Nat:=fo l.p l.q l.r
structure Ln.Ok(l:Ln):Prop where
 p:l.p<6
 q:l.q<6
 r:l.r<6
 e:l.e<4
 k:l.k<3
 g:l.g<4
noncomputable def fD (f:List Nat):D:=.list ((f.map nm).map .str)
noncomputable def cW (l:Ln):D:=.tup [.list [.str (pc l.p),.str (pc l.q),.str (pc l.r)],fD l.f,.str (en l.e),.bool l.al,iD l.k,iD l.g]
theorem Ln.Ok.f{l:Ln}(h:l.Ok):l.f∈b7:=OX h.p h.q h.r
theorem UP{x:Option (Fl×aC×MH)}{y d σ}(h:(x.bind λr=>bif r.1.oY then (r.2.1 y).bind λd=>some (d,r.2.2) else none)=some (d,σ)):∃ρ,x=some (.next,ρ,σ)/\ρ y=some d:=by
 obtain⟨⟨o,ρ,ab⟩,N,E⟩:=be h
 induction o with
 | next=>refine aw (be E) λa A Z=>?_;refine aA (lF (aM Z)) λR j=>?_;obtain rfl:=R;obtain rfl:=j;exact⟨ρ,N,A⟩
 | _=>exact nomatch E
theorem UT{x y z:MS}{ρ ae σ ab r}(h:MS.cons x y ρ σ=some (.next,ae,ab))(k:z ae ab=some r):MS.cons x (.cons y z) ρ σ=some r:=by
 obtain⟨⟨o,bw,ao⟩,N,E⟩:=be h
 induction o with
 | next=>exact bs N (bs E k)
 | _=>exact nomatch E
theorem cf{n:Nat}(h:n<=1000):n<=aP:=aE h (by decide)
theorem uD{n k:Nat}(h:k<=n):iI n (k:Int)=k:=by
 unfold iI
 exact aa (if_neg (Int.not_lt.mpr (pJ k)) ..)<|aa (Ka (Int.ofNat_le.mpr h) ..)<|aa (J_ (pJ k) ..) rfl
theorem NJ{n k:Nat}(h:k<=n):∀i:Int,i<0->i+n=k->iI n i=k:=λi w e=>by
 unfold iI
 exact aa (if_pos w ..)<|aa (e ..)<|aa (Ka (Int.ofNat_le.mpr h) ..)<|aa (J_ (pJ k) ..) rfl
theorem HY(xs:List D):jQ xs none (some (-1))=xs.dropLast:=by
 refine aa (xr ..) ?_
 show(xs.drop 0).take (iI xs.length (-1) - 0)=_
 induction xs with
 | nil=>rfl
 | cons x xs=>
  exact aa (show iI (x::xs).length (-1)=xs.length from NJ (dD _) (-1) (by decide) (show(-1:Int)+((xs.length:Int)+1)=_ by rw [J6,J7])) rfl
theorem c2{P:Nat->Prop}{a:Nat}(K:a<2)(H:P 0)(N:P 1):P a:=by
 rcases a with _| _| a
 .exact H
 .exact N
 .exact absurd K (Nat.not_lt.mpr (ub 2 a))
theorem c4{P:Nat->Prop}{a:Nat}(K:a<4)(H:P 0)(N:P 1)(E:P 2)(A:P 3):P a:=by
 rcases a with _| _| a
 .exact H
 .exact N
 .exact c2 (P:=λa=>P (a+2)) (K7 (n:=2) K) E A
theorem c6{P:Nat->Prop}{a:Nat}(K:a<6)(H:P 0)(N:P 1)(E:P 2)(A:P 3)(o:P 4)(O:P 5):P a:=by
 rcases a with _| _| a
 .exact H
 .exact N
 .exact c4 (P:=λa=>P (a+2)) (K7 (n:=2) K) E A o O
theorem Sb{f:List Nat}:((f.map nm).map D.str).dropLast=(f.dropLast.map nm).map .str:=by exact aa (.symm (Cq ..))<|aa (.symm (Cq ..)) rfl
theorem jh{xs I:List D}{σ:MH}(h:xs.length+I.length<=aP):pX (.list xs) (.list I) σ=some (.list (xs++I)):=show yc xs I=_ from if_pos h
theorem sV{x y:aj}{σ:MH}(h:x.length+y.length<=aP):pX (.str x) (.str y) σ=some (.str (x++y)):=show yd x y=_ from if_pos h
section
variable {a b x:D} {σ:MH} {p q:fX} {xs:List D} {ps:List fX}
theorem ji(h:cX σ 6 a=some p)(h':cX σ 6 b=some q):uQ a b σ=some (.bool (fg p q)):=bs (a:=fg p q) (bs h (bs h' rfl)) rfl
theorem o9(h:cX σ 6 a=some p)(h':cX σ 6 b=some q):sO a b σ=some (.bool (!fg p q)):=bs (a:=fg p q) (bs h (bs h' rfl)) rfl
theorem Az(h:cX σ 6 x=some p)(h':hB (cX σ 6) xs=some ps):mT σ x (.list xs)=some (ps.any λy=>fg y p):=show(cX σ 6 x).bind _=_ from bs h (bs h' rfl)
theorem vV{c:Bool}(h:mT σ a b=some c):inD a b σ=some (.bool c):=bs h rfl
theorem AD{c:Bool}(h:mT σ a b=some c):Au a b σ=some (.bool (!c)):=bs h rfl
end
theorem r9{V:dR}{t:MT}{body:MS}{n j:Nat}{ρ ae:aC}{σ ab:MH}{x:D}{r}(h:V σ j=some (some x))(T:turn t body x ρ σ=some (.next,ae,ab))(k:mQ V t body n (j+1) ae ab=some r):mQ V t body (n+1) j ρ σ=some r:=by
 refine aw (be T) λp N E=>?_
 exact bs h (bs N (bs E k))
theorem Aw{k:Nat}{xs:List aj}:(xs.map D.str).all (noRef (k+1))=true:=by
 exact aa (ry ..)<|List.all_eq_true.mpr λZ Z=>rfl
theorem sf{σ:MH}{d:D}(h:d.fP=none)(k:noRef 5 d=true):bq σ 5 d=some d:=by
 show(match d.fP with| some i=>_| none=>_)=_
 exact aa (h ..)<|if_pos k
noncomputable def y9 (n:Int):List Int:=[n % 6,n / 6 % 6,n / 6 / 6 % 2,n / 6 / 6 / 2 % 4,n / 6 / 6 / 2 / 4 % 6,n / 6 / 6 / 2 / 4 / 6 % 3,n / 6 / 6 / 2 / 4 / 6 / 3 % 4]
theorem UC(n:Int):∃ρ,(MS.cons (.assign (.name "digits") (.list [])) (.cD (.of (.list [(.int 6),(.int 6),(.int 2),(.int 4),(.int 6),(.int 3),(.int 4)])) (.name "base") (.assign (.tup [(.name "digits"),(.name "number")]) (.tup [(.add (.var "digits") (.list [(.mod (.var "number") (.var "base"))])),(.fdiv (.var "number") (.var "base"))])))) (c_ [("number",.int n)]) MH.nil=some (.next,ρ,MH.nil)/\ρ "digits" =some (.list ((y9 n).map .int)):=
 UP (by kernel_rfl)
theorem lL(a:Int)(b:Nat)(hb:(b:Int)≠0):∃c:Nat,a % (b:Int)=c/\(c:Int)<b:=by
 have h:=Int.emod_nonneg a hb
 refine aL (Int.eq_ofNat_of_zero_le h) λc O=>?_
 exact⟨c,O,by exact aa (.symm (O ..))<|Int.emod_lt_of_pos a (by omega)⟩
theorem T_{a:Nat}(K:a<6):ef [.str "a",.str "b",.str "ab",.str "..",.str ".",.str ""] (a:Int)=some (.str (pc a)):=c6 (P:=λa=>ef [.str "a",.str "b",.str "ab",.str "..",.str ".",.str ""] (a:Int)=some (.str (pc a))) K rfl rfl rfl rfl rfl rfl
theorem Oy{a:Nat}(K:a<4):ef [.str "",.str "a",.str "b",.str "ab"] (a:Int)=some (.str (en a)):=c4 (P:=λa=>ef [.str "",.str "a",.str "b",.str "ab"] (a:Int)=some (.str (en a))) K rfl rfl rfl rfl
noncomputable def tc:MS:=.ite (.val (.eq (.var "piece") (.str ".."))) (.assign (.name "names") (.slice (.var "names") .none (some (.neg (.int 1))))) (.ite (.val (.jg (.var "piece") (.list [(.str ""),(.str ".")]))) (.assign (.name "names") (.add (.var "names") (.list [(.var "piece")]))) .nil)
def TurnOk(f:List Nat)(ρ:aC)(σ:MH)(a:Nat)(m:MS):Prop:=∃ae,m ρ σ=some (.next,ae,σ)/\ae "names" =some (fD (ic f a))/\∀z,z≠ "names" ->ae z=ρ z
theorem TurnOk.of{f ρ σ a m d}(h:TurnOk f ρ σ a m)(k:∀r,m ρ σ=some r->d ρ σ=some r):TurnOk f ρ σ a d:=h.imp λZ=>eH (k _)
theorem AV{a:Nat}(K:a<6){f:List Nat}{ρ:aC}{σ:MH}(N:ρ "piece" =some (.str (pc a)))(E:ρ "names" =some (fD f))(I:f.length<=10):TurnOk f ρ σ a tc:=by
 have g:ic f a=f++ [a]->pc a=nm a->TurnOk f ρ σ a (.assign (.name "names") (.add (.var "names") (.list [(.var "piece")]))):=λe t=>
  ⟨_,bt (aJ (av E) (j9 (ds:=[.str (pc a)]) (aS (av N) bA) (cf (show 1<=1000 by decide))) (jh (by exact aa (aZ ..)<|aa (aZ ..)<|cf (aE (Nat.add_le_add_right I 1) (by decide))))),
    (if_pos rfl).trans (by refine aa (e ..)<|aa (t ..) ?_;unfold fD;exact aa (ey ..)<|aa (ey ..) rfl),λz J=>if_neg J⟩
 have T:ic f a=f->TurnOk f ρ σ a .nil:=λe=>⟨ρ,rfl,e.symm▸E,λZ Z=>rfl⟩
 have d:ic f a=f.dropLast->TurnOk f ρ σ a (.assign (.name "names") (.slice (.var "names") .none (some (.neg (.int 1))))):=λe=>⟨_,bt (kc (av E) rfl rfl rfl rfl),(if_pos rfl).trans (by exact aa (e ..)<|aa (HY ..)<|congrArg (λx=>some (D.list x)) Sb),λz J=>if_neg J⟩
 have all:∀b c,fg (.str (pc a)) (.str "..")=b->((fg (.str "") (.str (pc a)))|| ((fg (.str ".") (.str (pc a)))|| false))=c->
  TurnOk f ρ σ a (bif b then .assign (.name "names") (.slice (.var "names") .none (some (.neg (.int 1)))) else bif !c then .assign (.name "names") (.add (.var "names") (.list [(.var "piece")])) else .nil)->TurnOk f ρ σ a tc:=λb c hb O h=>by
  have V:(MB.val (.eq (.var "piece") (.str ".."))) ρ σ=some (b,σ):=cz (hb▸aJ (av N) rfl (ji rfl rfl))
  have i:(MB.val (.jg (.var "piece") (.list [(.str ""),(.str ".")]))) ρ σ=some (!c,σ):=cz (aJ (av N) (j9 (aS rfl (aS rfl bA)) (by decide)) (AD ((Az (p:=.str (pc a)) (ps:=[.str "",.str "."]) rfl rfl).trans (congrArg some O))))
  refine h.of λr m=>HM V (λq=>by rw [q] at m;exact m) λq=>HM i (λQ=>by rw [q,Q] at m;exact m) λQ=>by rw [q,Q] at m;exact m
 revert g T d all
 exact c6 (P:=λa=>(ic f a=f++ [a]->pc a=nm a->TurnOk f ρ σ a (.assign (.name "names") (.add (.var "names") (.list [(.var "piece")]))))->(ic f a=f->TurnOk f ρ σ a .nil)->(ic f a=f.dropLast->TurnOk f ρ σ a (.assign (.name "names") (.slice (.var "names") .none (some (.neg (.int 1))))))->
  (∀b c,fg (.str (pc a)) (.str "..")=b->((fg (.str "") (.str (pc a)))|| ((fg (.str ".") (.str (pc a)))|| false))=c->
  TurnOk f ρ σ a (bif b then .assign (.name "names") (.slice (.var "names") .none (some (.neg (.int 1)))) else bif !c then .assign (.name "names") (.add (.var "names") (.list [(.var "piece")])) else .nil)->TurnOk f ρ σ a tc)->TurnOk f ρ σ a tc) K
  (λp Z Z k=>k false false (by kernel_rfl) (by kernel_rfl) (p rfl rfl)) (λp Z Z k=>k false false (by kernel_rfl) (by kernel_rfl) (p rfl rfl)) (λp Z Z k=>k false false (by kernel_rfl) (by kernel_rfl) (p rfl rfl))
  (λZ Z p k=>k true false (by kernel_rfl) (by kernel_rfl) (p rfl)) (λZ p Z k=>k false true (by kernel_rfl) (by kernel_rfl) (p rfl)) (λZ p Z k=>k false true (by kernel_rfl) (by kernel_rfl) (p rfl))
theorem zt{f a}:(ic f a).length<=f.length+1:=by
 unfold ic
 split
 .exact aa (bF ..)<|Nat.le_refl _
 .split
  .refine aa (lz ..) ?_;omega
  .omega
theorem UD(n:Int):∃l:Ln,l.Ok/\∀σ,qZ [.int n] σ=some (cW l,σ):=by
 refine aw (UC n) λρ N W=>?_
 refine aw (lL n 6 (by decide)) λC s I=>?_
 refine aw (lL (n / 6) 6 (by decide)) λw V o=>?_
 refine aw (lL (n / 6 / 6) 2 (by decide)) λZ Q f=>?_
 refine aw (lL (n / 6 / 6 / 2) 4 (by decide)) λh E q=>?_
 refine aw (lL (n / 6 / 6 / 2 / 4) 6 (by decide)) λk S A=>?_
 refine aw (lL (n / 6 / 6 / 2 / 4 / 6) 3 (by decide)) λe b L=>?_
 refine aw (lL (n / 6 / 6 / 2 / 4 / 6 / 3) 4 (by decide)) λp y O=>?_
 have W:ρ "digits" =some (.list [iD C,iD w,iD Z,iD h,iD k,iD e,iD p]):=W.trans (congrArg (λx:List Int=>some (D.list (x.map .int))) (show y9 n= [(C:Int),w,Z,h,k,e,p] by
  unfold y9;exact aa (show n % 6=C from s)<|aa (show n / 6 % 6=w from V)<|aa (show n / 6 / 6 % 2=Z from Q)<|aa (show n / 6 / 6 / 2 % 4=h from E)<|aa (show n / 6 / 6 / 2 / 4 % 6=k from S)<|aa (show n / 6 / 6 / 2 / 4 / 6 % 3=e from b)<|aa (show n / 6 / 6 / 2 / 4 / 6 / 3 % 4=p from y) rfl))
 have I:C<6:=Int.ofNat_lt.mp I
 have o:w<6:=Int.ofNat_lt.mp o
 have f:Z<2:=Int.ofNat_lt.mp f
 have q:h<4:=Int.ofNat_lt.mp q
 have A:k<6:=Int.ofNat_lt.mp A
 refine⟨⟨C,w,k,h,Z==1,e,p⟩,⟨I,o,A,q,Int.ofNat_lt.mp L,Int.ofNat_lt.mp O⟩,λσ=>f_hide ?_⟩
 have T:ME.aI (.comp (.of (.list [(.int 0),(.int 1),(.int 4)])) (.name "place") [] (.elt (.idx (.list [(.str "a"),(.str "b"),(.str "ab"),(.str ".."),(.str "."),(.str "")]) (.idx (.var "digits") (.var "place")))) [".0","place"] (.list [])) ρ MH.nil=some (.list [.str (pc C),.str (pc w),.str (pc k)],MH.nil):=by
  refine eV [(0,C),(1,w),(4,k)] (λx=>iD x.1) (λx=>.str (pc x.2)) (cU (j9 (aS rfl (aS rfl (aS rfl bA))) (dO rfl))) (λj=>rfl) (by decide) (λx U ae K t=>?_) (dO rfl)
  have B:=(K "digits" (by decide)).trans W
  refine aJ (d:=.list [.str "a",.str "b",.str "ab",.str "..",.str ".",.str ""]) rfl (aJ (r:=iD x.2) (av B) (av t) ?_) ?_
  .simp only [n5,bQ,or_false] at U
   rcases U with rfl| rfl| rfl<;>rfl
  .refine T_ ?_
   simp only [n5,bQ,or_false] at U
   rcases U with rfl| rfl| rfl<;>assumption
 let M:=(ρ.set "pieces" (.list [.str (pc C),.str (pc w),.str (pc k)])).set "names" (fD [])
 refine bI (AV (ρ:=M.set "piece" (.str (pc C))) (σ:=MH.nil) I rfl rfl (by decide)) λv t1 u m=>?_
 refine bI (AV (ρ:=v.set "piece" (.str (pc w))) (σ:=MH.nil) o rfl u (aE zt (by decide))) λi t2 Y g=>?_
 refine bI (AV (ρ:=i.set "piece" (.str (pc k))) (σ:=MH.nil) A rfl Y (aE zt (aE (jZ zt) (by decide)))) λR t3 n3 X=>?_
 have look:∀z,z≠ "names" ->z≠ "piece" ->R z=M z:=λz J c=>by
  exact aa (X z J ..)<|aa (show(i.set "piece" (.str (pc k))) z=i z from if_neg c)<|aa (g z J ..)<|aa (show(v.set "piece" (.str (pc w))) z=v z from if_neg c)<|aa (m z J ..)<|aa (show(M.set "piece" (.str (pc C))) z=M z from if_neg c) rfl
 have G:R "digits" =some (.list [iD C,iD w,iD Z,iD h,iD k,iD e,iD p]):=(look _ (by decide) (by decide)).trans W
 have H:R "pieces" =some (.list [.str (pc C),.str (pc w),.str (pc k)]):=look _ (by decide) (by decide)
 refine qn (F:=bO (bind1 "number") GD) (ab:=MH.nil) rfl (fx rfl (UT N (aK (bt T) (aK (bt rfl) (aK (ae:=R) (ab:=MH.nil) (bs (a:=(fj (.list [.str (pc C),.str (pc w),.str (pc k)]),4,MH.nil)) rfl (r9 (body:=tc) rfl t1 (r9 rfl t2 (r9 rfl t3 rfl)))) (fC (iK (aS (av H) (aS (av n3) (aS (aJ (d:=.list [.str "",.str "a",.str "b",.str "ab"]) rfl (aJ (r:=iD h) (av G) rfl rfl) (Oy q)) (aS (d:=.bool (Z==1)) (aJ (aJ (r:=iD Z) (av G) rfl rfl) rfl ?_) (aS (aJ (r:=iD e) (av G) rfl rfl) (aS (aJ (r:=iD p) (av G) rfl rfl) bA)))))) (dO rfl)))))))) ?_
 .exact c2 (P:=λa=>uQ (iD a) (.int 1) MH.nil=some (.bool (a==1))) f rfl rfl
 .exact sf rfl (show(true && ((((ic (ic (ic [] C) w) k).map nm).map D.str).all (noRef 3) && true))=true by exact aa (Aw ..) rfl)
end
noncomputable def dk (v:List Nat->D) (fs:List (List Nat)):List (aj×D):=fs.map λg=>(aR g,v g)
def dZ(fs:List (List Nat)):Prop:=∀g∈fs,g∈b7
theorem uJ{v fs g}(h:dZ fs)(u:g∈b7):(dk v fs).lookup (aR g)=if g∈fs then some (v g) else none:=by
 induction fs with
 | nil=>rfl
 | cons a fs S=>
  have S:=S λx U=>h x (bT _ U)
  show KQ (aR g) ((aR a,v a)::dk v fs)=_
  refine aa (dI ..) ?_
  by_cases e:g=a
  .exact aa (e ..)<|aa (beq_self_eq_true ..)<|aa (if_pos a0 ..) rfl
  .refine aa (show(aR g==aR a)=false from beq_eq_false_iff_ne.mpr λq=>e (qo u (h a a0) q)) ?_
   show(dk v fs).lookup (aR g)=_
   exact aa (S ..)<|ite_congr (propext ⟨bT _,λq=>(List.mem_cons.mp q).resolve_left e⟩) (λZ=>rfl) λZ=>rfl
theorem h7{v fs g}(h:dZ fs)(u:g∈fs):(dk v fs).lookup (aR g)=some (v g):=(uJ h (h g u)).trans (if_pos u)
theorem Mi{R:List (aj×D)}{k:aj}(h:R.lookup k=none):R.any (λp=>p.1=k)=false:=by
 induction R with
 | nil=>rfl
 | cons p r S=>
  rw [dI] at h
  refine aa (pL ..) ?_
  induction hb:k==p.1 with
  | true=>rw [hb] at h;cases h
  | false=>rw [hb] at h;exact aa (S h ..)<|aa (show decide (p.1=k)=false from decide_eq_false λq=>by rw [q,beq_self_eq_true] at hb;cases hb) rfl
theorem uK{v fs g}(h:dZ fs)(u:g∈b7)(G:g∉fs):eF (dk v fs) (aR g) (v g)=dk v (fs++ [g]):=by
 unfold eF
 refine aa (Mi ((uJ h u).trans (if_neg G)) ..) ?_
 unfold dk
 exact aa (ey ..) rfl
theorem oC{v fs}:(dk v fs).length=fs.length:=aZ _
theorem VN:(b7.all λf=>r4 λc=>b7.contains (f.take c))=true:=by kernel_rfl
theorem Bi{f c}(h:f∈b7):f.take c∈b7:=by
 by_cases O:c<4
 .exact List.contains_iff_mem.mp (ta (List.all_eq_true.mp VN f h) O)
 .exact aa (xE (aE (gm h).mZ (by lia)))<|h
noncomputable def cP (g:List Nat):List (List Nat):=(dv (g.length+1)).map g.take
noncomputable def fQ (g:List Nat):D:=.list ((cP g).map λx=>.str (aR x))
noncomputable def addW (fs:List (List Nat)) (g:List Nat):List (List Nat):=if g∈fs then fs else fs++ [g]
noncomputable def ups (f:List Nat):List (List Nat):=(dv f.length).map λi=>f.take (f.length - i)
noncomputable def iB (fs:List (List Nat)) (l:Ln):List (List Nat):=(ups l.f).foldl addW fs
noncomputable def oN (ls:List Ln):List (List Nat):=ls.foldl iB [[]]
theorem C3{fs g}(h:dZ fs)(u:g∈b7):dZ (addW fs g):=by
 unfold addW
 split
 .exact h
 .exact λx U=>(List.mem_append.mp U).elim (h x) λU=>(List.mem_singleton.mp U)▸u
theorem Bc{xs:List aj}:strsOf (xs.map .str)=some xs:=by
 induction xs with
 | nil=>rfl
 | cons x xs S=>exact bs (a:=x) rfl (bs S rfl)
theorem AA{x:aj}{xs:List aj}{σ:MH}{d:D}(P:bU σ d=some (xs.map .str))(N:t5 x xs=true)(E:fB (iZ x xs)=true):FP (.str x) d σ=some (.str (iZ x xs)):=
 bs (a:=x) rfl (bs P (bs Bc ((if_pos N).trans (if_pos E))))
theorem A6{xs:List D}{c:Nat}(h:c<=xs.length):jQ xs none (some (c:Int))=xs.take c:=by
 show(xs.drop 0).take (iI xs.length c - 0)=_
 exact aa (uD h ..) rfl
theorem A5{xs:List D}{c:Nat}(h:c<=xs.length):jQ xs (some (c:Int)) none=xs.drop c:=by
 show(xs.drop (iI xs.length c)).take (xs.length - iI xs.length c)=_
 exact aa (uD h ..)<|List.take_of_length_le (by exact aa (t9 ..)<|Nat.le_refl _)
theorem zd{ρ:aC}{σ:MH}{m:ME}{f:List Nat}(I:f∈b7)(h:m ρ σ=some (fD f,σ)):(ME.add (.str "/") (.bh jd (.str "/") m)) ρ σ=some (.str (aR f),σ):=
 have k:=gm I
 aJ (d:=.str "/") (e:=.str (iZ "/" (f.map nm))) rfl (aJ (d:=.str "/") rfl h (AA rfl k.FQ k.FR)) (sV k.len)
theorem OL{f:List Nat}{c:Nat}(h:c<=f.length):jQ ((f.map nm).map D.str) none (some (c:Int))=(((f.take c).map nm).map .str):=by
 exact aa (A6 (by rw [aZ,aZ];exact h))<|aa (.symm (t_ ..))<|aa (.symm (t_ ..)) rfl
theorem rZ{ρ:aC}{σ:MH}{m:ME}{l:Ln}(h:m ρ σ=some (cW l,σ)):(ME.idx m (.int 1)) ρ σ=some (fD l.f,σ):=aJ h rfl rfl
theorem su{xs:List D}{x:D}:ef (xs++ [x]) (-1)=some x:=by
 show sq (xs++ [x]) (-1)=_
 unfold sq
 exact aa (bF ..)<|aa (if_pos (by show -((xs.length:Int)+1)<= -1;lia))<|aa (show((-1:Int)+((xs.length+ [x].length:Nat):Int)).toNat=xs.length by show((-1:Int)+((xs.length:Int)+1)).toNat=_;rw [J6,J7];rfl)<|lM
theorem Bs{f:List Nat}:cP f=(dv f.length).map f.take++ [f]:=by
 unfold cP
 exact aa (Cv ..)<|aa (ey ..)<|aa (xy ..)<|aa (Cy ..) rfl
theorem Wv{f:List Nat}{s:Nat}(h:s<=f.length):cP (f.take s)=(dv (s+1)).map f.take:=by
 unfold cP
 refine aa (Cm ..)<|aa (ud h ..) ?_
 refine kD λc O=>?_
 exact aa (Cz ..)<|aa (ud (rJ (List.mem_range.mp O)) ..) rfl
noncomputable def sG:ME:=.aI (.comp (.gT (.add (.var "size") (.int 1))) (.name "cut") [] (.elt (.add (.str "/") (.bh jd (.str "/") (.slice (.idx (.var "line") (.int 1)) .none (some (.var "cut")))))) [".0","cut"] (.list []))
theorem Ow{ρ:aC}{σ:MH}{l:Ln}{s:Nat}(hl:l.f∈b7)(N:ρ "line" =some (cW l))(E:ρ "size" =some (iD s))(B:s<=l.f.length):sG ρ σ=some (fQ (l.f.take s),σ):=by
 have A:=(gm hl).mZ
 have e:fQ (l.f.take s)=.list ((dv (s+1)).map λc=>.str (aR (l.f.take c))):=by
  unfold fQ;exact aa (Wv B ..)<|aa (fe ..) rfl
 refine aa (e ..) ?_
 refine eV (dv (s+1)) (λi=>.int (0+(i:Int)*1)) (λc=>.str (aR (l.f.take c))) (at_:=ie (gU 0 1 (s+1))) ?_ (λj=>rfl) (by decide) (λc O ae K t=>?_) (by exact aa (hX ..)<|cf (by lia))
 .exact aa (aZ ..)<|aa (hX ..)<|sk (aJ (r:=.int ((s+1:Nat):Int)) (av E) rfl rfl) (cf (by lia))
 .have O:c<=l.f.length:=aE (rJ (List.mem_range.mp O)) B
  refine zd (Bi hl) ?_
  unfold fD
  exact aa (.symm (OL O ..))<|kc (d:=fD l.f) (rZ (av ((K "line" (by decide)).trans N))) rfl rfl (bs (av t) (bs (a:=(c:Int)) (by show some (0+(c:Int)*1)=_;exact aa (B6 ..)<|aa (Kd ..) rfl) rfl)) rfl
theorem G5{σ:MH}{i:Nat}{R:List (aj×D)}{s:aj}(h:σ.cell i=some (.dict R)):mT σ (.str s) (.ref i)=some (R.lookup s).isSome:=by
 show(match bU σ (.ref i) with| some xs=>_| none=>(j1 σ (.ref i)).bind _)=_
 exact aa (show bU σ (.ref i)=none from show(σ.cell i).bind (λc=>c.ij)=_ from bs h rfl)<|bs (yk h) rfl
theorem cb{σ:MH}{i:Nat}{c:Cell}:(σ.put i c).cell i=some c:=if_pos rfl
theorem aH{σ:MH}{i j:Nat}{c:Cell}(h:j≠i):(σ.put i c).cell j=σ.cell j:=if_neg h
theorem ye{fs:List (List Nat)}{g}:(addW fs g).length<=fs.length+1:=by
 unfold addW
 split
 .exact dD _
 .exact aa (bF ..)<|Nat.le_refl _
structure mA(fs:List (List Nat))(ρ:aC)(σ:MH):Prop where
 w:ρ "ways" =some (.ref 0)
 c:σ.cell 0=some (.dict (dk fQ fs))
 i:dZ fs
 z:fs.length<=100
theorem Ww{fs:List (List Nat)}{ρ:aC}{σ:MH}{l:Ln}{s:Nat}(hl:l.f∈b7)(h:mA fs ρ σ)(N:ρ "line" =some (cW l))(E:ρ "size" =some (iD s))(B:s<=l.f.length)(J:fs.length<100):
 ∃ae ab,MS.cons (.assign (.name "way") sG) (.ite (.val (.jg (.idx (.var "way") (.neg (.int 1))) (.var "ways"))) (.assign (.sub (.var "ways") (.idx (.var "way") (.neg (.int 1)))) (.var "way")) .nil) ρ σ=some (.next,ae,ab)/\mA (addW fs (l.f.take s)) ae ab/\ae "line" =some (cW l)/\ae "lines" =ρ "lines" :=by
 have u:=Bi (c:=s) hl
 generalize e:l.f.take s=g at u
 have t:sG ρ σ=some (fQ g,σ):=e▸Ow hl N E B
 have m:fQ g=.list (((dv g.length).map λc=>.str (aR (g.take c)))++ [.str (aR g)]):=by unfold fQ;exact aa (Bs ..)<|aa (ey ..)<|aa (fe ..) rfl
 have a:∀σ,(ME.idx (.var "way") (.neg (.int 1))) (ρ.set "way" (fQ g)) σ=some (.str (aR g),σ):=λσ=>aJ (d:=fQ g) (e:=.int (-1)) rfl rfl (by exact aa (m ..)<|su)
 have k:(MB.val (.jg (.idx (.var "way") (.neg (.int 1))) (.var "ways"))) (ρ.set "way" (fQ g)) σ=some (!decide (g∈fs),σ):=cz (aJ (a σ) (av h.w) (AD ((G5 h.c).trans (by refine aa (uJ h.i u ..) ?_;by_cases q:g∈fs<;>simp [q]))))
 refine(?_:∃ae ab,_/\_/\_/\_)
 by_cases q:g∈fs
 .exact⟨_,_,aK (bt t) (d_ (k.trans (by exact aa (decide_eq_true q ..) rfl)) rfl),by unfold addW;exact aa (if_pos q ..)<|⟨h.w,h.c,h.i,h.z⟩,N,rfl⟩
 .refine⟨_,_,aK (bt t) (iO (k.trans (by exact aa (decide_eq_false q ..) rfl)) (eo (d:=fQ g) rfl (tA (av h.w) (a σ) h.c (by exact aa (oC ..)<|Nat.lt_of_lt_of_le J (by decide))))),⟨h.w,?_,C3 h.i u,aE ye J⟩,N,rfl⟩
  refine aa (cb ..)<|aa (uK h.i u q ..) ?_
  unfold addW
  exact aa (if_neg q ..) rfl
theorem EW{gs fs:List (List Nat)}:(gs.foldl addW fs).length<=fs.length+gs.length:=by
 induction gs generalizing fs with
 | nil=>exact bb _
 | cons g gs S=>exact aE S (by refine aa (gM ..) ?_;have:=ye (fs:=fs) (g:=g);lia)
theorem OY{r fs:List (List Nat)}(h:dZ fs)(u:dZ r):dZ (r.foldl addW fs):=by
 induction r generalizing fs with
 | nil=>exact h
 | cons g r S=>exact S (C3 h (u g a0)) λx U=>u x (bT _ U)
theorem Wh{f}(h:f∈b7):dZ (ups f):=λg u=>by
 refine aw (List.mem_map.mp u) λi Z B=>?_;obtain rfl:=B
 exact Bi h
theorem Wx{fs:List (List Nat)}{ρ:aC}{σ:MH}{l:Ln}(hl:l.Ok)(h:mA fs ρ σ)(N:ρ "line" =some (cW l))(J:fs.length+3<=100):
 ∃q,MS.cD (.pd (.ax bW (.idx (.var "line") (.int 1)))) (.name "size") (.cons (.assign (.name "way") sG) (.ite (.val (.jg (.idx (.var "way") (.neg (.int 1))) (.var "ways"))) (.assign (.sub (.var "ways") (.idx (.var "way") (.neg (.int 1)))) (.var "way")) .nil)) ρ σ=some q/\(q.1=.next/\mA (iB fs l) q.2.1 q.2.2/\q.2.1 "lines" =ρ "lines"):=by
 have A:=(gm hl.f).mZ
 refine A0 (dv l.f.length) (λi=>.int ((l.f.length:Int)+(i:Int)*(-1))) (λL ae ab=>mA ((L.map λi=>l.f.take (l.f.length - i)).foldl addW fs) ae ab/\ae "line" =some (cW l)/\ae "lines" =ρ "lines" /\L.length<=3) (λo ae ab=>o=.next/\mA (iB fs l) ae ab/\ae "lines" =ρ "lines")
  (ao:=σ) (at_:=ie (gU l.f.length (-1) l.f.length)) ?_ (λZ Z Z Z Z=>rfl) ⟨h,N,rfl,fW _⟩ (λL i r ae ab b j=>eP j λk e g P=>?_) λae ab k=>⟨rfl,k.1,k.2.2.1⟩
 .refine aa (aZ ..)<|aa (hX ..) ?_
  have m:wd (l.f.length:Int) (-1) (l.f.length:Int)=_:=HA l.f.length rfl (cf (by lia))
  have hl:(ME.ax bW (.idx (.var "line") (.int 1))) ρ σ=some (iD l.f.length,σ):=eD (d:=fD l.f) (rZ (av N)) ?_
  .exact bs hl (bs (a:=(l.f.length:Int)) rfl (bs m rfl))
  show some (D.int (((l.f.map nm).map D.str).length:Nat))=_
  exact aa (aZ ..)<|aa (aZ ..) rfl
 .have p:(dv l.f.length).length=L.length+(r.length+1):=by exact aa (b ..)<|aa (bF ..) rfl
  rw [hX] at p
  have t:i<l.f.length:=List.mem_range.mp (b▸d0 _ a0)
  have u:(.int ((l.f.length:Int)+(i:Int)*(-1)):D)=iD (l.f.length - i):=congrArg D.int (by refine aa (Int.mul_neg ..)<|aa (B6 ..) ?_;lia)
  refine nI (Ww (fs:=(L.map λi=>l.f.take (l.f.length - i)).foldl addW fs) (ρ:=ae.set "size" (iD (l.f.length - i))) (σ:=ab) hl.f ⟨k.w,k.c,k.i,k.z⟩ e rfl (rL _ _) (ee EW (by refine aa (aZ ..) ?_;lia))) λn M V Q E S=>?_
  refine⟨(.next,n,M),(congrArg (λd=>turn _ _ d ae ab) u).trans (bs rfl V),?_,E,S.trans g,by refine aa (bF ..) ?_;show L.length+1<=3;lia⟩
  exact aa (ey ..)<|aa (xu ..)<|Q
theorem OZ{w:List Ln}(h:∀l∈w,l.Ok):∀{fs:List (List Nat)},dZ fs->dZ (w.foldl iB fs):=by
 induction w with
 | nil=>exact λh=>h
 | cons l w S=>exact λI=>S (λx U=>h x (bT _ U)) (OY I (Wh (h l a0).f))
theorem GX:dZ [[]]:=λg u=>(List.mem_singleton.mp u)▸by decide
theorem E4{f:D->Option D}:∀{R:List (aj×D)},(∀p∈R,f p.2=some p.2)->sd f R=some R
 | [],_=>rfl
 | p::ps,h=>bs (h p a0) (bs (E4 λx U=>h x (bT _ U)) rfl)
theorem lY{α:Type}{k:Nat}{g:α->D}{xs:List α}(h:∀x∈xs,noRef k (g x)=true):(xs.map g).all (noRef k)=true:=by
 exact aa (ry ..)<|List.all_eq_true.mpr h
theorem G2{l:Ln}{k:Nat}:noRef (k+3) (cW l)=true:=by
 show(true && ((fD l.f|>noRef (k+2)) && true))=true
 exact aa (show noRef (k+2) (fD l.f)=true from Aw) rfl
theorem Wi{f}:(ups f).length=f.length:=by unfold ups;exact aa (aZ ..)<|aa (hX ..) rfl
theorem EZ{ls:List Ln}(h:∀l∈ls,l.Ok):∀{fs:List (List Nat)},(ls.foldl iB fs).length<=fs.length+3*ls.length:=by
 induction ls with
 | nil=>exact bb _
 | cons l ls S=>
  intro fs
  have N:=(gm (h l a0).f).mZ
  have E:=EW (gs:=ups l.f) (fs:=fs)
  rw [Wi] at E
  have A:=S (λx U=>h x (bT _ U)) (fs:=iB fs l)
  refine aa (gM ..) ?_
  show(ls.foldl iB (iB fs l)).length<=_
  unfold iB at A ⊢
  lia
theorem Wy{a:List Ln}(h:∀l∈a,l.Ok)(J:a.length<=20)(σ:MH):q7 [.list (a.map cW)] σ=some (.dict (dk fQ (oN a)),σ):=by
 refine jO a cW (t:=.name "line") (body:=.cD (.pd (.ax bW (.idx (.var "line") (.int 1)))) (.name "size") (.cons (.assign (.name "way") sG) (.ite (.val (.jg (.idx (.var "way") (.neg (.int 1))) (.var "ways"))) (.assign (.sub (.var "ways") (.idx (.var "way") (.neg (.int 1)))) (.var "way")) .nil)))
  (λL ae ab=>mA (L.foldl iB [[]]) ae ab/\∃r,a=L++r) (λo ae ab=>o=.next/\mA (oN a) ae ab) (mi:=.of (.var "lines")) (ρ:=(c_ [("lines",.list (a.map cW))]).set "ways" (.ref 0)) (σ:=MH.nil.new (.dict [(au "/",.list [.str "/"])])) (cU rfl) (λZ Z Z Z Z=>rfl)
  ⟨⟨rfl,by kernel_rfl,GX,by decide⟩,a,rfl⟩ (λL l r ρ σ hl C=>aA C λk Z=>by
    have M:L.length+(r.length+1)=a.length:=by exact aa (hl ..)<|aa (bF ..) rfl
    have I:=EZ (ls:=L) (λx U=>h x (hl▸jY _ U)) (fs:=[[]])
    refine dG (Wx (ρ:=ρ.set "line" (cW l)) (σ:=σ) (h l (hl▸d0 _ a0)) ⟨k.w,k.c,k.i,k.z⟩ rfl (by have:([[]]:List (List Nat)).length=1:=rfl;lia)) λq N v G b=>?_
    obtain⟨o,ae,ab⟩:=q
    obtain rfl:o=.next:=v
    refine⟨_,bs rfl N,?_,r,by exact aa (iW ..)<|hl⟩
    exact aa (xu ..)<|G) (λρ σ k=>⟨rfl,k.1⟩) λo ae ab V S=>?_
 refine aA S λQ E=>?_
 obtain rfl:o=.next:=Q
 refine f_hide (qn (F:=bO (bind1 "lines") GG) (d:=.ref 0) (ab:=ab) ?_ (fx rfl (aK (bt rfl) (aK V (fC (av E.w))))) (bs E.c (bs (E4 λp T=>?_) rfl)))
 .exact Bool.and_eq_true_iff.mpr ⟨lY λZ Z=>G2,rfl⟩
 .refine aw (List.mem_map.mp T) λg Z R=>?_;obtain rfl:=R
  exact if_pos (lY λZ Z=>rfl)
structure Pl where
 ag:List aj
 ms:List Nat
 dl:Option Nat
 rt:Option Nat
noncomputable def oD:Option Nat->D| none=>.none| some n=>iD n
noncomputable def gh (b:List aj):D:=.list (b.map .str)
noncomputable def cZ (mk:List Nat):D:=.list (mk.map iD)
noncomputable def b_ (p:Pl):D:=.tup [gh p.ag,cZ p.ms,oD p.dl,oD p.rt]
noncomputable def A3:List aj:=["fig","Plum","*"]
structure Pl.Ok(p:Pl):Prop where
 ag:∀a∈p.ag,a∈A3
 al:p.ag.length<=3
theorem oS{xs:List D}{i:Nat}:ef xs (i:Int)=xs[i]?:=by
 delta ef
 exact aa (decide_eq_true (pJ i) ..) rfl
theorem we{n:Nat}:gU 0 1 n=(dv n).map iD:=kD λi Z=>congrArg D.int (by exact aa (B6 ..)<|aa (Kd ..) rfl)
theorem IY{α:Type}{w:List α}:w.zipIdx.map (λp=>iD p.2)=gU 0 1 w.length:=by
 exact aa (we ..)<|aa (show w.zipIdx.map (λp=>iD p.2)=(w.zipIdx.map Prod.snd).map iD by rw [fe];rfl)<|aa (K0 ..)<|congrArg _ List.range_eq_range'.symm
theorem IX{α:Type}{w:List α}{p:α×Nat}(h:p∈w.zipIdx):w[p.2]?=some p.1:=List.mem_zipIdx_iff_getElem?.mp h
noncomputable def dF (ls:List Ln) (f:List Nat):List Nat:=(ls.zipIdx.filter λp=>p.1.f==f).map (·.2)
theorem wz{x y:aj}:fg (.str x) (.str y)=(x==y):=rfl
theorem AK{f g}(I:f∈b7)(u:g∈b7):(aR f==aR g)=(f==g):=by
 by_cases h:f=g
 .exact aa (h ..)<|aa (beq_self_eq_true ..)<|aa (beq_self_eq_true ..) rfl
 .exact aa (beq_eq_false_iff_ne.mpr h ..)<|beq_eq_false_iff_ne.mpr λq=>h (qo I u q)
theorem uN{ρ:aC}{σ:MH}{x:String}{w:List Ln}{p:Ln×Nat}(N:ρ "lines" =some (.list (w.map cW)))(E:ρ x=some (iD p.2))(T:p∈w.zipIdx):(ME.idx (.var "lines") (.var x)) ρ σ=some (cW p.1,σ):=
 aJ (av N) (av E) (show ef (w.map cW) (p.2:Int)=_ by exact aa (oS ..)<|aa (gg ..)<|aa (IX T ..) rfl)
noncomputable def RP:ME:=.aI (.comp (.gT (.ax bW (.var "lines"))) (.name "mark") [(.val (.eq (.add (.str "/") (.bh jd (.str "/") (.idx (.idx (.var "lines") (.var "mark")) (.int 1)))) (.var "folder")))] (.elt (.var "mark")) [".0","mark"] (.list []))
theorem Qs{α:Type}{m:ME}{ρ:aC}{σ ao:MH}{w:List α}(h:m ρ σ=some (iD w.length,ao))(J:w.length<=1000):MI.gT m ρ σ=some (ie (gU 0 1 w.length),(w.zipIdx.map λp=>iD p.2).length+1,ao):=by
 exact aa (IY ..)<|aa (UB ..)<|sk h (cf J)
theorem len_list{ρ:aC}{σ:MH}{m:ME}{xs:List D}{n:Nat}(h:m ρ σ=some (.list xs,σ))(G:xs.length=n):(ME.ax bW m) ρ σ=some (iD n,σ):=eD h (G▸rfl)
theorem Ot{ρ:aC}{σ:MH}{w:List Ln}{f:List Nat}(hl:∀l∈w,l.Ok)(J:w.length<=20)(I:f∈b7)(N:ρ "lines" =some (.list (w.map cW)))(E:ρ "folder" =some (.str (aR f))):RP ρ σ=some (cZ (dF w f),σ):=by
 have e:cZ (dF w f)=.list ((w.zipIdx.filter λp=>p.1.f==f).map λp=>iD p.2):=by delta cZ dF;exact aa (fe ..) rfl
 refine aa (e ..) ?_
 refine mO w.zipIdx (λp=>iD p.2) _ (λp=>iD p.2) (Qs (len_list (av N) (aZ _)) (aE J (by decide))) (λj=>by exact aa (IY ..) rfl) (by decide) (λp T ae K t=>⟨?_,λZ=>av t⟩) (by exact aa (xw ..)<|cf (aE J (by decide)))
 have a:=hl p.1 (Kx T)
 refine cz (aJ (zd a.f (rZ (uN ((K _ (by decide)).trans N) t T))) (av ((K _ (by decide)).trans E)) (r:=.bool (p.1.f==f)) ?_)
 exact aa (.symm (AK a.f I ..))<|ji (p:=.str (aR p.1.f)) (q:=.str (aR f)) rfl rfl
theorem jM{w:List Ln}{f:List Nat}{i:Nat}:i∈dF w f↔ ∃l,w[i]?=some l/\l.f=f:=by
 delta dF
 rw [xB]
 constructor
 .rintro ⟨p,T,rfl⟩
  have:=List.mem_filter.mp T
  exact⟨p.1,IX this.1,eq_of_beq this.2⟩
 .rintro ⟨l,h,e⟩
  exact⟨(l,i),List.mem_filter.mpr ⟨List.mem_zipIdx_iff_getElem?.mpr h,beq_iff_eq.mpr e⟩,rfl⟩
theorem sM{ls:List Ln}{f:List Nat}:(dF ls f).length<=ls.length:=by
 delta dF
 exact aa (aZ ..)<|Nat.le_trans (iX ..) (bN xw)
theorem Qt{xs:List D}{d:D}:∃x∈d::xs,ef (d::xs) (-1)=some x:=by
 refine ew (List.eq_nil_or_concat (d::xs)|>.resolve_left (by simp)) λI y e=>?_
 exact aa (e ..)<|⟨y,by simp,by exact aa (List.concat_eq_append ..)<|su⟩
theorem ED{xs:List D}{σ:MH}{d:D}{j:Nat}(h:bU σ d=some xs):uP d σ j=some (xs.zipIdx.map λp=>.tup [iD p.2,p.1])[j]?:=by
 refine bs h (congrArg some ?_)
 refine aa (gg ..)<|aa (Kz ..) ?_
 induction xs[j]? with
 | none=>rfl
 | some x=>rw [pV,pV,pV,rM];rfl
theorem Fx{m:ME}{ρ:aC}{σ ao:MH}{d:D}{xs:List D}(h:m ρ σ=some (d,ao))(k:bU ao d=some xs):MI.enum m ρ σ=some (uP d,(xs.zipIdx.map λp=>D.tup [iD p.2,p.1]).length+1,ao):=by
 exact aa (aZ ..)<|aa (xw ..)<|bs h (bs k rfl)
theorem C8{own:List String}{x n:String}{b:MB}{m:ME}{y g d:D}{c:Bool}{ρ:aC}{σ:MH}(U:x∈own)(E:n∈own)(M:x≠n)(h:∀ae,Agree own ρ ae->ae x=some y->ae n=some g->b ae σ=some (c,σ)/\m ae σ=some (d,σ)):
 ma own (.tup [.name x,.name n]) [b] (.elt m) (.tup [y,g]) ρ σ (if c then [d] else []):=λae f A J=>by
 have K:Agree own ρ ((ae.set x y).set n g):=(A.set U).set E
 have k:=h _ K ((if_neg M).trans (if_pos rfl)) (if_pos rfl)
 induction c with
 | true=>exact⟨_,bs (a:=((ae.set x y).set n g,σ)) rfl (bs (qb k.1) (wR k.2 J)),K⟩
 | false=>exact⟨_,bs (a:=((ae.set x y).set n g,σ)) rfl (bs (qb k.1) (by exact aa (if_neg (by decide))<|aa (hW ..) rfl)),K⟩
noncomputable def RO:ME:=.aI (.comp (.enum (.list [(.str "fig"),(.str "Plum"),(.str "*")])) (.tup [(.name "place"),(.name "name")]) [(.val (.ne (.var "place") (.idx (.add (.aI (.comp (.of (.var "mine")) (.name "mark") [] (.elt (.idx (.idx (.var "lines") (.var "mark")) (.int 5))) [".0","mark"] (.list []))) (.list [(.int 3)])) (.int 0))))] (.elt (.var "name")) [".0","place","name"] (.list []))
noncomputable def wU:List (D×Nat):=(A3.map D.str).zipIdx
noncomputable def j0 (g:Int):List aj:=(A3.zipIdx.filter λp=>(p.2:Int) !=g).map (·.1)
theorem C9(g:Int):(∀a∈j0 g,a∈A3)/\0<(j0 g).length/\(j0 g).length<=3:=by
 refine⟨λa K=>?_,?_,?_⟩
 .refine aw (List.mem_map.mp K) λp T B=>?_;obtain rfl:=B
  exact Kx (List.mem_filter.mp T).1
 .delta j0
  refine List.length_pos_of_mem (a:=(if g=0 then "Plum" else "fig" :aj)) (List.mem_map.mpr ?_)
  by_cases h:g=0
  .exact⟨("Plum",1),List.mem_filter.mpr ⟨by decide,by exact aa (h ..) rfl⟩,(if_pos h).symm⟩
  .exact⟨("fig",0),List.mem_filter.mpr ⟨by decide,bne_iff_ne.mpr λq=>h q.symm⟩,(if_neg h).symm⟩
 .delta j0
  exact aa (aZ ..)<|Nat.le_trans (iX ..) (by decide)
def oX(d:D):Prop:=∃i:Int,d=.int i
theorem Fj{xs:List D}(h:∀d∈xs,oX d){k:Int}:∃i:Int,(xs++ [.int k])[0]?=some (.int i):=by
 induction xs with
 | nil=>exact⟨k,rfl⟩
 | cons x xs=>refine aL (h x a0) λi R=>?_;obtain rfl:=R;exact⟨i,rfl⟩
theorem Om{ρ:aC}{σ:MH}{ls:List Ln}{f:List Nat}(J:ls.length<=20)(N:ρ "lines" =some (.list (ls.map cW)))(E:ρ "mine" =some (cZ (dF ls f))):∃g,RO ρ σ=some (gh (j0 g),σ):=by
 have c:=aE (sM (ls:=ls) (f:=f)) J
 have F:∀own,(∀z,z∈ ["lines","mine"]->z∉own)->∃g:Int,∀ae,Agree own ρ ae->(ME.idx (.add (.aI (.comp (.of (.var "mine")) (.name "mark") [] (.elt (.idx (.idx (.var "lines") (.var "mark")) (.int 5))) [".0","mark"] (.list []))) (.list [(.int 3)])) (.int 0)) ae σ=some (.int g,σ):=λown L=>by
  have U:∃Z:List D,(∀d∈Z,oX d)/\Z.length<=20/\∀ae,Agree own ρ ae->ME.aI (.comp (.of (.var "mine")) (.name "mark") [] (.elt (.idx (.idx (.var "lines") (.var "mark")) (.int 5))) [".0","mark"] (.list [])) ae σ=some (.list Z,σ):=by
   have:∃g:Nat->D,∀i∈dF ls f,oX (g i)/\∀ae,Agree own ρ ae->∀n,Agree [".0","mark"] ae n->n "mark" =some (iD i)->(ME.idx (.idx (.var "lines") (.var "mark")) (.int 5)) n σ=some (g i,σ):=by
    refine⟨λi=>((ls[i]?).map λl=>iD l.g).getD .none,λi w=>?_⟩
    refine aw (jM.mp w) λl hl I=>?_
    simp only [hl]
    exact⟨⟨l.g,rfl⟩,λae K n hb t=>aJ (uN (p:=(l,i)) ((hb _ (by decide)).trans ((K _ (L _ (by decide))).trans N)) t (List.mem_zipIdx_iff_getElem?.mpr hl)) rfl rfl⟩
   refine aL this λg u=>?_
   exact⟨(dF ls f).map g,λd P=>by refine aw (List.mem_map.mp P) λi w b=>?_;obtain rfl:=b;exact(u i w).1,by exact aa (aZ ..)<|c,λae K=>
    eV (dF ls f) iD g (cU (av ((K _ (L _ (by decide))).trans E))) (λj=>rfl) (by decide) (λi w n hb t=>(u i w).2 ae K n hb t) (cf (by lia))⟩
  refine bI U λZ w hl U=>?_
  refine aL (Fj w (k:=3)) λg u=>?_
  exact⟨g,λae K=>aJ (d:=.list (Z++ [D.int 3])) (e:=.int 0) (aJ (U ae K) (j9 (ds:=[.int 3]) rfl (by decide)) (jh (cf (by show Z.length+1<=1000;lia)))) rfl (show ef (Z++ [D.int 3]) ((0:Nat):Int)=some (D.int g) by exact aa (oS ..)<|u)⟩
 refine aL (F [".0","place","name"] (by decide)) λg u=>?_
 refine⟨g,?_⟩
 have e:gh (j0 g)=.list (wU.flatMap λp=>if (p.2:Int) !=g then [p.1] else []):=by
  delta gh j0 wU
  show D.list ((List.filter _ [(au "fig",0),(au "Plum",1),(au "*",2)]).map (·.1)|>.map D.str)=.list (Ks _ [(D.str "fig",0),(D.str "Plum",1),(D.str "*",2)])
  simp only [nZ,Ku,nY,List.filter_nil]
  split<;>split<;>split<;>rfl
 refine aa (e ..) ?_
 refine oE wU (λp=>.tup [iD p.2,p.1]) _ (Fx (d:=.list (A3.map .str)) rfl rfl) (λj=>ED rfl) (λp T=>C8 (by decide) (by decide) (by decide) λae K t a=>⟨cz (aJ (av t) (u ae K) (o9 (p:=.int p.2) (q:=.int g) rfl rfl)),av a⟩) ?_
 refine aE (bN ?_) (cf (aE (C9 g).2.2 (by decide)):(j0 g).length<=aP)
 have:=congrArg D.ij e
 have:=aM this
 exact aa (.symm (this ..))<|aa (aZ ..) rfl
theorem mJ{m:ME}{ρ:aC}{σ ao:MH}{i:Nat}(h:m ρ σ=some (iD i,ao)):jF (some m) ρ σ=some (some (i:Int),ao):=bs h rfl
theorem AB{a b:Int}{σ:MH}(h:0<b):Aj (.int a) (.int b) σ=some (.int (a % b)):=if_pos h
theorem Ov{ρ:aC}{σ:MH}{I:List Nat}{b:List aj}(H:0<b.length)(A:b.length<=3)(z:I.length<=20)(N:ρ "mine" =some (cZ I))(Z:ρ "agents" =some (gh b)):
 ∃c,(∀a∈c,a∈b)/\c.length<=3/\(ME.slice (.slice (.add (.var "agents") (.var "agents")) (some (.mod (.idx (.add (.var "mine") (.list [(.int 0)])) (.int 0)) (.ax bW (.var "agents")))) .none) .none (some (.ax bW (.var "agents")))) ρ σ=some (gh c,σ):=by
 refine aL (Fj (xs:=I.map iD) (λd P=>by obtain⟨j,_,rfl⟩:=List.mem_map.mp P;exact⟨j,rfl⟩) (k:=0)) λi w=>?_
 have T:0<(b.length:Int):=Int.ofNat_lt.mpr H
 refine aw (lL i b.length (rj T)) λk C E=>?_
 have E:k<b.length:=Int.ofNat_lt.mp E
 have m:(ME.ax bW (.var "agents")) ρ σ=some (iD b.length,σ):=len_list (av Z) (aZ _)
 have V:(ME.mod (.idx (.add (.var "mine") (.list [(.int 0)])) (.int 0)) (.ax bW (.var "agents"))) ρ σ=some (iD k,σ):=
  aJ (d:=.int i) (aJ (d:=.list (I.map iD++ [D.int 0])) (e:=.int 0) (aJ (av N) (j9 (ds:=[.int 0]) rfl (by decide)) (jh (cf (by show(I.map iD).length+1<=1000;refine aa (aZ ..) ?_;lia)))) rfl (show ef (I.map iD++ [D.int 0]) ((0:Nat):Int)=some (D.int i) by exact aa (oS ..)<|w)) m ((AB T).trans (congrArg (λx=>some (D.int x)) C))
 refine⟨((b++b).drop k).take b.length,λa K=>(List.mem_append.mp (xC (Cu K))).elim id id,aE (List.length_take_le ..) A,?_⟩
 have Q:(ME.slice (.add (.var "agents") (.var "agents")) (some (.mod (.idx (.add (.var "mine") (.list [(.int 0)])) (.int 0)) (.ax bW (.var "agents")))) .none) ρ σ=some (gh ((b++b).drop k),σ):=by
  refine(kc (xs:=b.map D.str++b.map D.str) (l:=some (k:Int)) (u:=none) (aJ (av Z) (av Z) (jh (cf (by refine aa (aZ ..) ?_;lia)))) rfl (mJ V) rfl rfl).trans ?_
  exact aa (A5 (by rw [bF,aZ];lia))<|aa (.symm (ey ..))<|aa (.symm (xx ..)) rfl
 refine(kc (xs:=((b++b).drop k).map D.str) (l:=none) (u:=some (b.length:Int)) Q rfl rfl (mJ m) rfl).trans ?_
 exact aa (A6 (by rw [aZ,t9,bF];lia))<|aa (.symm (t_ ..)) rfl
theorem Ew{ρ:aC}{σ:MH}{ls:List Ln}{f:List Nat}{c v:Nat}(g:v<10)(J:ls.length<=20)(N:ρ "lines" =some (.list (ls.map cW)))(E:ρ "mine" =some (cZ (dF ls f))):
 ∃ns:List Nat,(ME.add (.list [.none_]) (.aI (.comp (.of (.var "mine")) (.name "mark") [(.val (.eq (.idx (.idx (.var "lines") (.var "mark")) (.int 4)) (.int c)))] (.elt (.mul (.int v) (.var "mark"))) [".0","mark"] (.list [])))) ρ σ=some (.list (.none::ns.map iD),σ):=by
 have z:=aE (sM (ls:=ls) (f:=f)) J
 refine⟨((dF ls f).filter λi=>((ls[i]?.map λl=>l.k).getD 0)==c).map (v* ·),?_⟩
 refine aJ (d:=.list [.none]) (e:=.list (((dF ls f).filter λi=>((ls[i]?.map λl=>l.k).getD 0)==c).map λi=>iD (v*i))) rfl (mO (dF ls f) iD _ (λi=>iD (v*i)) (cU (av E)) (λj=>rfl) (by decide) (λi w ae K t=>?_) (cf (by lia))) ?_
 .refine aw (jM.mp w) λl hl Z=>?_
  have a:i<ls.length:=(List.getElem?_eq_some_iff.mp hl).1
  refine⟨cz ?_,λZ=>aJ (d:=.int v) (e:=.int i) rfl (av t) (if_pos ⟨by show v<1000000;lia,by show i<1000000;lia⟩)⟩
  have S:(ME.idx (.idx (.var "lines") (.var "mark")) (.int 4)) ae σ=some (iD l.k,σ):=aJ (uN (p:=(l,i)) ((K _ (by decide)).trans N) t (List.mem_zipIdx_iff_getElem?.mpr hl)) rfl rfl
  refine(aJ S rfl (ji (p:=.int l.k) (q:=.int c) rfl rfl)).trans ?_
  refine aa (hl ..) ?_
  refine congrArg (λb=>some (D.bool b,σ)) (Bool.eq_iff_iff.mpr ?_)
  show((l.k:Int)==(c:Int))=true↔(l.k==c)=true
  rw [beq_iff_eq,beq_iff_eq]
  exact B7
 .refine(jh (cf ?_)).trans (by exact aa (fe ..) rfl)
  refine aa (aZ ..) ?_
  have:=iX (λi=>((ls[i]?.map λl=>l.k).getD 0)==c) (dF ls f)
  show 1+_<=1000
  lia
theorem Ep{ρ:aC}{σ:MH}{x:String}{ns:List Nat}(h:ρ x=some (.list (.none::ns.map iD))):∃o,(ME.idx (.var x) (.neg (.int 1))) ρ σ=some (oD o,σ):=by
 refine aw (Qt (xs:=ns.map iD) (d:=.none)) λd P D=>?_
 have:∃o,d=oD o:=(List.mem_cons.mp P).elim (λe=>⟨none,e⟩) λh=>by refine aw (List.mem_map.mp h) λn Z u=>?_;obtain rfl:=u;exact⟨some n,rfl⟩
 refine aL this λo p=>?_;obtain rfl:=p
 exact⟨o,aJ (e:=.int (-1)) (av h) rfl D⟩
theorem G3{o:Option Nat}{k:Nat}:noRef (k+1) (oD o)=true:=by induction o<;>rfl
theorem Av{p:Pl}{k:Nat}:noRef (k+3) (b_ p)=true:=by
 show((gh p.ag|>noRef (k+2)) && ((cZ p.ms|>noRef (k+2)) && ((oD p.dl|>noRef (k+2)) && ((oD p.rt|>noRef (k+2)) && true))))=true
 exact aa (G3 ..)<|aa (G3 ..)<|aa (show noRef (k+2) (gh p.ag)=true from Aw)<|aa (show noRef (k+2) (cZ p.ms)=true from lY λZ Z=>rfl) rfl
theorem Uc{ls:List Ln}{f:List Nat}(hl:∀l∈ls,l.Ok)(J:ls.length<=20)(I:f∈b7):∃p:Pl,p.Ok/\p.ms=dF ls f/\∀σ,pD [.list (ls.map cW),.str (aR f)] σ=some (b_ p,σ):=by
 let bw:=(c_ [("lines",.list (ls.map cW)),("folder",.str (aR f))]).set "mine" (cZ (dF ls f))
 refine aL (Om (ρ:=bw) (σ:=MH.nil) (f:=f) J rfl rfl) λg u=>?_
 refine bP (C9 g) λe i B=>?_
 refine bI (Ov (ρ:=bw.set "agents" (gh (j0 g))) (σ:=MH.nil) i B (aE (sM (ls:=ls) (f:=f)) J) rfl rfl) λb w n K=>?_
 let M:=(bw.set "agents" (gh (j0 g))).set "agents" (gh b)
 refine aL (Ew (ρ:=M) (σ:=MH.nil) (f:=f) (c:=1) (v:=5) (by decide) J rfl rfl) λj P=>?_
 refine aL (Ew (ρ:=M.set "delays" (.list (.none::j.map iD))) (σ:=MH.nil) (f:=f) (c:=2) (v:=7) (by decide) J rfl rfl) λy m=>?_
 let k:=(M.set "delays" (.list (.none::j.map iD))).set "rates" (.list (.none::y.map iD))
 refine aL (Ep (ρ:=k) (σ:=MH.nil) (x:="delays") rfl) λd o=>?_
 refine aL (Ep (ρ:=k) (σ:=MH.nil) (x:="rates") rfl) λr O=>?_
 refine⟨⟨b,dF ls f,d,r⟩,⟨λa h=>e a (w a h),n⟩,rfl,λσ=>f_hide (qn (F:=bO (j3 "lines" "folder") GC) (d:=b_ ⟨b,dF ls f,d,r⟩) (ab:=MH.nil) ?_ (fx rfl (aK (bt (Ot hl J I rfl rfl)) (aK (bt u) (aK (bt K) (aK (bt P) (aK (bt m) (fC (iK (aS (av rfl) (aS (av rfl) (aS o (aS O bA)))) (dO rfl))))))))) (sf rfl Av))⟩
 exact Bool.and_eq_true_iff.mpr ⟨lY λZ Z=>G2,rfl⟩
section
section
variable {σ:MH} {k:Nat}
theorem hG{α:Type}{g:α->D}{p:α->fX}{xs:List α}{f:D->Option fX}(h:∀x∈xs,f (g x)=some (p x)):hB f (xs.map g)=some (xs.map p):=by
 induction xs with
 | nil=>rfl
 | cons x xs S=>exact bs (h x a0) (bs (S λy t=>h y (bT _ t)) rfl)
theorem hH{d:D}{xs:List D}{ps:List fX}(h:bU σ d=some xs)(h':hB (cX σ k) xs=some ps):cX σ (k+1) d=some (.list ps):=by
 show(match bU σ d with| some xs=>_| none=>_)=_
 exact aa (h ..)<|bs h' rfl
theorem wc{xs:List D}{ps:List fX}(h':hB (cX σ k) xs=some ps):cX σ (k+1) (.tup xs)=some (.tuple ps):=bs h' rfl
noncomputable def wa:Option Nat->fX| none=>.none| some n=>.int n
noncomputable def qp (p:Pl):fX:=.tuple [.list (p.ag.map .str),.list (p.ms.map λ(i:Nat)=>CP (i:Int)),wa p.dl,wa p.rt]
theorem s9{p:Pl}:cX σ (k+3) (b_ p)=some (qp p):=
 have o:∀o,cX σ (k+2) (oD o)=some (wa o):=λo=>by induction o<;>rfl
 wc (bs (hH (k:=k+1) (d:=gh p.ag) rfl (hG λZ Z=>rfl)) (bs (bs (hH (k:=k+1) (d:=cZ p.ms) rfl (hG (p:=λi:Nat=>.int (i:Int)) λZ Z=>rfl)) (bs (bs (o p.dl) (bs (bs (o p.rt) (bs (a:=[]) rfl rfl)) rfl)) rfl)) rfl))
end
theorem EE{xs:List fX}:fg (.list xs) (.list [])=xs.isEmpty:=by induction xs<;>rfl
theorem yj{xs:List aj}{a:aj}:((xs.map xW).any λy=>fg y (.str a))=xs.contains a:=by
 induction xs with
 | nil=>rfl
 | cons x xs S=>exact aa (eK ..)<|aa (pL ..)<|aa (S ..)<|aa (List.contains_cons ..)<|aa (wz ..)<|aa (Bool.beq_comm ..) rfl
theorem Pg{x:D}{xs:List D}:ef (x::xs) (-1)=some ((x::xs).getLast (jX _ _)):=by
 exact(congrArg (λl=>ef l (-1)) (xq (jX x xs)).symm).trans su
noncomputable def lst (a o:Option Nat):Option Nat:=if o.isSome then o else a
noncomputable def eL (ps:List Pl):Pl:=⟨((ps.head?.map Pl.ag).getD []).filter λa=>ps.all λp=>p.ag.contains a,ps.flatMap Pl.ms,(ps.map Pl.dl).foldl lst none,(ps.map Pl.rt).foldl lst none⟩
noncomputable def o5 (p q:Pl):Pl:=⟨p.ag.filter λa=>q.ag.contains a,p.ms++q.ms,lst p.dl q.dl,lst p.rt q.rt⟩
theorem Gl{o}:lst none o=o:=by induction o<;>rfl
theorem GL(p:Pl):eL [p]=p:=by
 obtain⟨b,I,dl,Q⟩:=p
 delta eL
 simp only [Cj,pV,ue,xt,eK,rE,rC,Kv,Gl,xo,Kl,Jb]
 exact aa (List.filter_eq_self.mpr λa K=>List.contains_iff_mem.mpr K ..) rfl
theorem GN{ps:List Pl}(h:ps≠ [])(q:Pl):eL (ps++ [q])=o5 (eL ps) q:=by
 refine ew (pM h) λp ps B=>?_;obtain rfl:=B
 delta eL o5
 simp only [rA,Cj,pV,ue,eK,ey,rE,xu,rC,Kv,List.filter_filter]
 congr 1
 .refine Cf λa Z=>?_
  exact aa (.symm (rA ..))<|aa (List.all_append ..)<|aa (xo (l:=[]) ..)<|aa (Kl ..)<|aa (Jb ..)<|aa (Bool.and_comm ..) rfl
 .exact aa (.symm (rA ..))<|aa (t8 ..)<|aa (xt ..) rfl
theorem Gk{os:List (Option Nat)}:∀{a},lst a (os.foldl lst a)=os.foldl lst a:=by
 have F:∀(os:List (Option Nat)) (a:Option Nat),a.isSome->(os.foldl lst a).isSome:=by
  intro os
  induction os with
  | nil=>exact λa h=>h
  | cons o os S=>exact λa h=>S _ (by delta lst;split<;>assumption)
 intro a
 show(if (os.foldl lst a).isSome then os.foldl lst a else a)=_
 split
 .rfl
 .rename_i h
  induction K:a with
  | none=>
   rw [K] at h
   induction y:os.foldl lst none with
   | none=>exact y▸rfl
   | some x=>exact absurd (y▸rfl) h
  | some x=>exact absurd (F os a (by exact aa (K ..) rfl)) h
theorem Sq(p:Pl)(ps:List Pl):eL (p::p::ps)=o5 p (eL (p::ps)):=by
 delta eL o5
 simp only [Cj,pV,ue,eK,rC,Gl]
 have P:∀d:Option Nat,lst d d=d:=λd=>by induction d<;>rfl
 refine aa (P ..)<|aa (P ..)<|aa (Gk ..)<|aa (Gk ..) ?_
 congr 1
 refine Cf λa K=>?_
 rw [tS,rB,xA,xo (a:=p),jo]
 exact⟨λh=>⟨K,h.2⟩,λh=>⟨List.contains_iff_mem.mpr K,h.2⟩⟩
theorem C6{β:Type}{own:List String}{x:String}{y:D}{ρ:aC}{σ:MH}(c:List β)(s:β->D)(g:β->List D){Z:MI}{at_:dR}{t:MT}{ifs:List MB}{b:MX}(U:x∈own)
 (w:∀ae,Agree own ρ ae->ae x=some y->Z ae σ=some (at_,(c.map s).length+1,σ)) (O:∀j,at_ σ j=some (c.map s)[j]?) (h:∀B∈c,ma own t ifs b (s B) ρ σ (g B)):
 ma own (.name x) [] (.inner Z t ifs b) y ρ σ (c.flatMap g):=λae f A J=>by
 have K:=A.set (d:=y) U
 refine aw (y0 c s g O h K J) λn N E=>?_
 exact⟨n,bs rfl (bs (a:=(true,σ)) rfl (bs (w _ K (if_pos rfl)) N)),E⟩
theorem Q7{os:List (Option Nat)}:∀{a:Option Nat},(a::os.filter pU).getLast (jX _ _)=os.foldl lst a:=by
 induction os with
 | nil=>exact rfl
 | cons o os S=>
  intro a
  induction o with
  | none=>exact S
  | some n=>exact(List.getLast_cons (jX _ _)).trans S
theorem Er{ρ:aC}{σ:MH}{x:String}{os:List (Option Nat)}(h:ρ x=some (.list (.none::(os.filter pU).map oD))):(ME.idx (.var x) (.neg (.int 1))) ρ σ=some (oD (os.foldl lst none),σ):=by
 refine aJ (e:=.int (-1)) (av h) rfl (Eq.trans (Pg (x:=.none) (xs:=(os.filter pU).map oD)) ?_)
 exact aa (.symm (Q7 ..))<|congrArg some (List.getLast_map (f:=oD) (l:=none::os.filter pU) (by simp))
theorem Ek{ρ:aC}{σ:MH}{ps:List Pl}{c:Nat}(a:Pl->Option Nat)(J:ps.length<=200)(N:ρ "plains" =some (.list (ps.map b_)))(u:∀p,ef [gh p.ag,cZ p.ms,oD p.dl,oD p.rt] (c:Int)=some (oD (a p))):
 (ME.add (.list [.none_]) (.aI (.comp (.of (.var "plains")) (.name "one") [(.val (.kg (.idx (.var "one") (.int c)) .none_))] (.elt (.idx (.var "one") (.int c))) [".0","one"] (.list [])))) ρ σ=some (.list (.none::((ps.map a).filter pU).map oD),σ):=by
 have e:((ps.map a).filter pU).map oD=(ps.filter λp=>(a p).isSome).map λp=>oD (a p):=by exact aa (List.filter_map ..)<|aa (fe ..) rfl
 refine aa (e ..) ?_
 refine aJ (d:=.list [.none]) (e:=.list ((ps.filter λp=>(a p).isSome).map λp=>oD (a p))) rfl (mO ps b_ _ (λp=>oD (a p)) (cU (av N)) (λj=>rfl) (by decide) (λp T ae K t=>?_) (cf (by lia))) (jh (cf ?_))
 .have k:(ME.idx (.var "one") (.int c)) ae σ=some (oD (a p),σ):=aJ (d:=b_ p) (e:=.int c) (av t) rfl (u p)
  refine⟨cz (aJ k rfl ?_),λZ=>k⟩
  induction a p<;>rfl
 .refine aa (aZ ..) ?_
  have:=iX (λp=>(a p).isSome) ps
  show 1+_<=1000
  lia
theorem Sp{ps:List Pl}(H:ps≠ [])(J:ps.length<=200)(z:(ps.flatMap Pl.ms).length<=aP)(T:∀p∈ps,p.Ok)(σ:MH):mm [.list (ps.map b_)] σ=some (b_ (eL ps),σ):=by
 refine ew (pM H) λO g R=>?_;obtain rfl:=R
 generalize B:O::g=ps at*
 let N:=c_ [("plains",.list (ps.map b_))]
 have o:N "plains" =some (.list (ps.map b_)):=rfl
 have V:(ME.aI (.comp (.of (.idx (.idx (.var "plains") (.int 0)) (.int 0))) (.name "name") [(.val (.eq (.aI (.comp (.of (.var "plains")) (.name "one") [(.val (.jg (.var "name") (.idx (.var "one") (.int 0))))] (.elt (.var "one")) [".0","one"] (.list []))) (.list [])))] (.elt (.var "name")) [".0","name"] (.list []))) N MH.nil=some (gh (eL ps).ag,MH.nil):=by
  refine(mO O.ag D.str (λa=>ps.all λp=>p.ag.contains a) D.str (cU (xs:=O.ag.map .str) (aJ (d:=b_ O) (e:=.int 0) (aJ (e:=.int 0) (av o) rfl (B▸rfl)) rfl rfl)) (λj=>rfl) (by decide) (λa K ae l k=>⟨?_,λZ=>av k⟩) (aE (T O (B▸a0)).al (by decide))).trans (by exact aa (.symm (B ..)) rfl)
  have Q:ME.aI (.comp (.of (.var "plains")) (.name "one") [(.val (.jg (.var "name") (.idx (.var "one") (.int 0))))] (.elt (.var "one")) [".0","one"] (.list [])) ae MH.nil=some (.list ((ps.filter λp=> !p.ag.contains a).map b_),MH.nil):=
   mO ps b_ _ b_ (cU (av ((l _ (by decide)).trans o))) (λj=>rfl) (by decide) (λp T n G J=>⟨cz (aJ (av ((G _ (by decide)).trans k)) (aJ (d:=b_ p) (e:=.int 0) (r:=gh p.ag) (av J) rfl rfl) (AD ((Az (p:=.str a) rfl (hG λZ Z=>rfl)).trans (congrArg some yj)))),λZ=>av J⟩) (cf (by lia))
  refine cz ((aJ Q (e:=.list []) rfl (ji (hH rfl (hG λZ Z=>s9)) rfl)).trans ?_)
  refine aa (EE ..) ?_
  refine congrArg (λb=>some (D.bool b,MH.nil)) (Bool.eq_iff_iff.mpr ?_)
  rw [List.isEmpty_iff,List.map_eq_nil_iff,List.filter_eq_nil_iff,Cb]
  exact⟨λh p T=>by have:=h p T;simpa using this,λh p T=>by refine aa (h p T ..) ?_;decide⟩
 let bw:=N.set "agents" (gh (eL ps).ag)
 have E:(ME.aI (.comp (.of (.var "plains")) (.name "one") [] (.inner (.of (.idx (.var "one") (.int 1))) (.name "mark") [] (.elt (.var "mark"))) [".0","one","mark"] (.list []))) bw MH.nil=some (cZ (eL ps).ms,MH.nil):=by
  have q:(ps.flatMap λp=>p.ms.flatMap λi=>[iD i])=(eL ps).ms.map iD:=by
   show _=(ps.flatMap Pl.ms).map iD
   exact aa (Ct ..)<|congrArg (λf=>ps.flatMap f) (funext λp=>List.map_eq_flatMap.symm)
  have:=oE (σ:=MH.nil) ps b_ (λp=>p.ms.flatMap λi=>[iD i]) (own:=[".0","one","mark"]) (ρ:=bw) (cU (m:=.var "plains") (av (d:=.list (ps.map b_)) rfl)) (λj=>rfl) (λp T=>C6 (x:="one") (t:=.name "mark") (ifs:=[]) (b:=.elt (.var "mark")) p.ms iD (λi=>[iD i]) (by decide)
   (λae l k=>cU (m:=.idx (.var "one") (.int 1)) (xs:=p.ms.map iD) (aJ (d:=b_ p) (e:=.int 1) (av k) rfl rfl)) (λj=>rfl) (λi w=>rP (by decide) λae l k=>⟨rfl,av k⟩)) (by exact aa (q ..)<|aa (aZ ..)<|z)
  rw [q] at this
  exact this
 let M:=bw.set "marks" (cZ (eL ps).ms)
 have S:=Ek (ρ:=M) (σ:=MH.nil) (ps:=ps) (c:=2) Pl.dl J rfl λp=>rfl
 let v:=M.set "delays" (.list (.none::((ps.map Pl.dl).filter pU).map oD))
 have s:=Ek (ρ:=v) (σ:=MH.nil) (ps:=ps) (c:=3) Pl.rt J rfl λp=>rfl
 refine f_hide (qn (F:=bO (bind1 "plains") GB) (d:=b_ (eL ps)) (ab:=MH.nil) ?_ (fx rfl (aK (bt V) (aK (bt E) (aK (bt S) (aK (bt s) (fC (iK (aS (av rfl) (aS (av rfl) (aS (Er rfl) (aS (Er rfl) bA)))) (dO rfl)))))))) (sf rfl Av))
 exact Bool.and_eq_true_iff.mpr ⟨lY λZ Z=>Av,rfl⟩
end
section
structure jz{α:Type}(lt:α->α->Bool):Prop where
 qc:∀a,lt a a=false
 tr:∀{a b c},lt a b=true->lt b c=true->lt a c=true
 qE:∀{a b},lt a b=false->lt b a=false->a=b
theorem jz.flip{α:Type}{lt:α->α->Bool}(h:jz lt):jz λa b=>lt b a:=⟨h.qc,λx y=>h.tr y x,λx y=>h.qE y x⟩
noncomputable def gC {α:Type} [DecidableEq α] (lt:α->α->Bool):List α->List α->Bool
 | [],[]=>false
 | [],_::_=>true
 | _::_,[]=>false
 | x::xs,y::I=>if x=y then gC lt xs I else lt x y
section
variable {α:Type} [DecidableEq α] {lt:α->α->Bool}
theorem jL{x y:α}{xs I}(h:x≠y):gC lt (x::xs) (y::I)=lt x y:=if_neg h
theorem m4{x:α}{xs I}:gC lt (x::xs) (x::I)=gC lt xs I:=if_pos rfl
theorem zX:∀xs,gC lt xs xs=false
 | []=>rfl
 | x::xs=>m4.trans (zX xs)
theorem zW{I f:List α}:∀xs,gC lt (xs++I) (xs++f)=gC lt I f
 | []=>rfl
 | x::xs=>m4.trans (zW xs)
theorem vm(h:jz lt):jz (gC lt) where
 qc:=zX
 tr:=λ{a b c}=>by
  induction a generalizing b c with
  | nil=>
   intro N E
   induction c with
   | nil=>induction b with| nil=>exact N| cons=>exact E
   | cons=>rfl
  | cons x xs S=>
   intro N E
   induction b with
   | nil=>exact nomatch N
   | cons y I=>
    induction c with
    | nil=>exact nomatch E
    | cons z f=>
     by_cases V:x=y
     .subst V
      rw [m4] at N
      by_cases Q:x=z
      .subst Q;rw [m4] at E ⊢;exact S N E
      .rw [jL Q] at E ⊢;exact E
     .rw [jL V] at N
      by_cases Q:y=z
      .subst Q;exact aa (jL V ..)<|N
      .rw [jL Q] at E
       have A:=h.tr N E
       exact aa (jL λe=>by rw [e,h.qc] at A;cases A)<|A
 qE:=λ{a b}=>by
  induction a generalizing b with
  | nil=>intro N E;induction b with| nil=>rfl| cons=>exact nomatch N
  | cons x xs S=>
   intro N E
   induction b with
   | nil=>exact nomatch E
   | cons y I=>
    by_cases e:x=y
    .subst e;rw [m4] at N E;exact aa (S N E ..) rfl
    .rw [jL e] at N;rw [jL (Ne.symm e)] at E;exact absurd (h.qE N E) e
end
noncomputable def vN (a b:Nat):Bool:=decide (a<b)
theorem Al:jz vN:=⟨λa=>decide_eq_false (fV a),λN E=>decide_eq_true (rK (of_decide_eq_true N) (of_decide_eq_true E)),λN E=>CD (Nat.not_lt.mp (of_decide_eq_false E)) (Nat.not_lt.mp (of_decide_eq_false N))⟩
theorem F4:∀a b:List Nat,decide (a<b)=gC vN a b
 | [],[]=>rfl
 | [],y::I=>decide_eq_true (List.nil_lt_cons y I)
 | x::xs,[]=>decide_eq_false (List.not_lt_nil _)
 | x::xs,y::I=>by
  by_cases e:x=y
  .subst e
   exact aa (m4 ..)<|aa (.symm (F4 xs I ..))<|decide_eq_decide.mpr (List.cons_lt_cons_iff.trans ⟨λh=>h.elim (λh=>absurd h (fV _)) And.right,λh=>.inr ⟨rfl,h⟩⟩)
  .exact aa (jL e ..)<|decide_eq_decide.mpr (List.cons_lt_cons_iff.trans ⟨λh=>h.elim id λh=>absurd h.1 e,.inl⟩)
noncomputable def Ii (x y:aj):Bool:=gC vN x.cps.toList y.cps.toList
theorem Vx:jz Ii:=⟨λa=>zX _,λN E=>(vm Al).tr N E,λ{a b} N E=>by
 have:=(vm Al).qE N E
 obtain⟨⟨a⟩⟩:=a
 obtain⟨⟨b⟩⟩:=b
 exact congrArg (λl=>(⟨⟨l⟩⟩:aj)) this⟩
structure Key{α:Type} [DecidableEq α](e:α->D)(lt:α->α->Bool):Prop where
 o:jz lt
 eq:∀a b,oH (e a) (e b)=decide (a=b)
 cmp:∀g a b,oB g (e a) (e b)=bif g then lt b a else lt a b
 gn:∀g a b,vb g (e a) (e b)=true
 ne:∀σ a b,sO (e a) (e b) σ=some (.bool (!decide (a=b)))
theorem uu{α:Type} [DecidableEq α] [BEq α] [LawfulBEq α](a b:α):(a==b)=decide (a=b):=by
 by_cases h:a=b
 .exact aa (h ..)<|aa (beq_self_eq_true ..)<|aa (decide_eq_true rfl ..) rfl
 .exact aa (beq_eq_false_iff_ne.mpr h ..)<|aa (decide_eq_false h ..) rfl
theorem FV:Key iD vN where
 o:=Al
 eq a b:=(uu (a:Int) b).trans (decide_eq_decide.mpr B7)
 cmp g a b:=by induction g<;>exact decide_eq_decide.mpr Int.ofNat_lt
 gn g a b:=rfl
 ne σ a b:=(o9 (p:=.int a) (q:=.int b) rfl rfl).trans (congrArg (λx=>some (D.bool (!x))) ((uu (a:Int) b).trans (decide_eq_decide.mpr B7)))
theorem FW:Key D.str Ii where
 o:=Vx
 eq a b:=uu a b
 cmp g a b:=by induction g<;>exact F4 _ _
 gn g a b:=rfl
 ne σ a b:=(o9 (p:=.str a) (q:=.str b) rfl rfl).trans (congrArg (λx=>some (D.bool (!x))) (uu a b))
section
variable {α:Type} [DecidableEq α] {e:α->D} {lt:α->α->Bool}
theorem F3(K:Key e lt){g:Bool}:∀as bs:List α,o4 g (as.map e) (bs.map e)=bif g then gC lt bs as else gC lt as bs
 | [],[]=>by induction g<;>rfl
 | [],_::_=>by induction g<;>rfl
 | _::_,[]=>by induction g<;>rfl
 | a::as,b::bs=>by
  show(if oH (e a) (e b)=true then o4 g (as.map e) (bs.map e) else oB g (e a) (e b))=_
  refine aa (K.eq ..)<|aa (K.cmp ..)<|aa (F3 K as bs ..) ?_
  by_cases h:a=b
  .subst h;exact aa (if_pos (decide_eq_true rfl) ..)<|aa (m4 ..)<|aa (m4 ..) rfl
  .exact aa (if_neg (by rw [decide_eq_false h];decide))<|aa (jL h ..)<|aa (jL (Ne.symm h) ..) rfl
theorem D5(K:Key e lt){σ:MH}{g:Bool}(as bs:List α):i8 σ g (.list (as.map e)) (.list (bs.map e))=some (bif g then gC lt bs as else gC lt as bs):=by
 show vh g (as.map e) (bs.map e)=_
 unfold vh
 rw [if_pos,F3 K]
 exact aa (List.zip_map ..)<|aa (ry ..)<|List.all_eq_true.mpr λp Z=>K.gn g p.1 p.2
end
theorem Dj{f g:Nat->Nat->Bool}:∀k,(∀i j,i<=k->j<=k->f i j=g i j)->eR f k=eR g k/\eR g k<=k
 | 0,_=>⟨rfl,bb _⟩
 | k+1,h=>by
  refine aA (Dj k λi j w F=>h i j (gN w) (gN F)) λN E=>?_
  show(if f (k+1) (eR f k) then k+1 else eR f k)=(if g (k+1) (eR g k) then k+1 else eR g k)/\(if g (k+1) (eR g k) then k+1 else eR g k)<=k+1
  refine aa (N ..)<|aa (h (k+1) (eR g k) (bb _) (gN E) ..) ?_
  refine⟨rfl,?_⟩
  split
  .exact bb _
  .exact gN E
theorem Di{β:Type}{lt:β->β->Bool}(h:jz lt)(x:Nat->β):∀k i,i<=k->lt (x i) (x (eR (λi j=>lt (x i) (x j)) k))=false
 | 0,i,w=>by exact aa (Nat.le_zero.mp w ..)<|h.qc _
 | k+1,i,w=>by
  show lt (x i) (x (if lt (x (k+1)) (x (eR (λi j=>lt (x i) (x j)) k)) then k+1 else eR (λi j=>lt (x i) (x j)) k))=false
  have S:=Di h x k
  induction O:lt (x (k+1)) (x (eR (λi j=>lt (x i) (x j)) k)) with
  | true=>
   refine aa (if_pos rfl ..) ?_
   rcases xI w with w| rfl
   .induction y:lt (x i) (x (k+1)) with
    | false=>rfl
    | true=>have:=h.tr y O;rw [S i (rJ w)] at this;cases this
   .exact h.qc _
  | false=>
   refine aa (if_neg (by decide)) ?_
   rcases xI w with w| rfl
   .exact S i (rJ w)
   .exact O
theorem yo{β:Type}{lt:β->β->Bool}(h:jz lt)(s:β->D){σ:MH}{g:Bool}{d:D}{xs:List β}(U:xs≠ [])(P:bU σ d=some (xs.map s))(O:∀x∈xs,∀y∈xs,i8 σ g (s x) (s y)=some (lt x y)):
 ∃m∈xs,(∀x∈xs,lt x m=false)/\oq g d σ=some (s m):=by
 refine ew (pM U) λa e l=>?_
 let x:Nat->β:=λi=>(xs[i]?).getD a
 have p:0<xs.length:=by exact aa (l ..)<|Nat.succ_pos _
 have b:∀i,i<xs.length->xs[i]?=some (x i):=λi w=>by
  show xs[i]?=some ((xs[i]?).getD a)
  exact aa (gL w ..) rfl
 have c:∀i,i<xs.length->x i∈xs:=λi w=>lA (b i w)
 obtain⟨V,Q⟩:=Dj (f:=ov σ g (xs.map s)) (g:=λi j=>lt (x i) (x j)) (xs.length - 1) λi j w F=>by
  have w:i<xs.length:=by lia
  have F:j<xs.length:=by lia
  unfold ov
  refine aa (gg ..)<|aa (gg ..)<|aa (b i w ..)<|aa (b j F ..) ?_
  show(i8 σ g (s (x i)) (s (x j))).getD false=_
  exact aa (O _ (c i w) _ (c j F) ..) rfl
 have hb:eR (λi j=>lt (x i) (x j)) (xs.length - 1)<xs.length:=ee Q (by lia)
 refine⟨_,c _ hb,λy Z=>?_,bs P (Eq.trans (if_pos ⟨by exact aa (aZ ..)<|p,?_⟩) ?_)⟩
 .refine aL (Ci Z) λi w=>?_
  have t:=(List.getElem?_eq_some_iff.mp w).1
  rw [b i t] at w
  exact aa (.symm (aM w ..))<|Di h x _ i (by lia)
 .exact aa (aZ ..)<|aa (V ..)<|aa (gg ..)<|aa (b _ hb ..) rfl
 .refine aa (ry ..) ?_
  refine List.all_eq_true.mpr λy Z=>?_
  show((xs.map s).all λz=>(i8 σ g (s y) z).isSome)=true
  refine aa (ry ..) ?_
  refine List.all_eq_true.mpr λz J=>?_
  show(i8 σ g (s y) (s z)).isSome=true
  exact aa (O y Z z J ..) rfl
structure lu{α:Type}(P:List α)(l_:List (List α)):Prop where
 pre:∀xs∈l_,P<+:xs
 fin:P∈l_∨∃a b s t,a≠b/\P++a::s∈l_/\P++b::t∈l_
theorem O2{α:Type} [DecidableEq α]{lt:α->α->Bool}(h:jz lt){P:List α}{n:List (List α)}(F:lu P n){m M:List α}(z:m∈n)(i:M∈n)(j:∀x∈n,gC lt x m=false)(f:∀x∈n,gC lt M x=false):
 ∃r Z,m=P++r/\M=P++Z/\(r= []∨∃a b s t,a≠b/\r=a::s/\Z=b::t):=by
 refine aL (F.pre m z) λr B=>?_;obtain rfl:=B
 refine aL (F.pre M i) λZ R=>?_;obtain rfl:=R
 refine⟨r,Z,rfl,rfl,?_⟩
 rcases F.fin with k| ⟨a,b,s,t,zu,ka,kb⟩
 .have:=j P k
  rw [show P=P++ [] from(hW P).symm,iW,zW] at this
  induction r with
  | nil=>exact .inl rfl
  | cons=>exact nomatch this
 .have N:=j _ ka;have E:=j _ kb;have A:=f _ ka;have o:=f _ kb
  rw [zW] at N E A o
  induction r with
  | nil=>exact .inl rfl
  | cons c r=>
   induction Z with
   | nil=>exact nomatch A
   | cons d Z=>
    refine .inr ⟨c,d,r,Z,λq=>zu ?_,rfl,rfl⟩
    subst q
    have g:∀x u,gC lt (x::u) (c::r)=false->gC lt (c::Z) (x::u)=false->x=c:=λx u l v=>by
     by_cases e:x=c
     .exact e
     .rw [jL e] at l;rw [jL (Ne.symm e)] at v;exact h.qE l v
    exact(g a s N A).trans (g b t E o).symm
end
section
section
variable {α:Type} [DecidableEq α] {e:α->D} {lt:α->α->Bool}
theorem Xa{β:Type}{xs:List β}{L r:List (β×Nat)}{p:β×Nat}(h:xs.zipIdx=L++p::r):p.2=L.length/\xs[L.length]?=some p.1:=by
 have N:xs.zipIdx[L.length]?=some p:=by exact aa (h ..)<|lM
 rw [Kz] at N
 induction U:xs[L.length]? with
 | none=>rw [U] at N;exact nomatch N
 | some x=>rw [U,pV,rM] at N;exact aa (.symm (aM N ..))<|⟨rfl,rfl⟩
theorem O3(K:Key e lt){P m M:List α}{r u:List α}{X:MS}{ρ:aC}{σ:MH}(Q:Fl->aC->MH->Prop)(z:m=P++r)(i:M=P++u)(J:r= []∨∃a b s t,a≠b/\r=a::s/\u=b::t)(N:ρ "s1" =some (.list (m.map e)))(E:ρ "s2" =some (.list (M.map e)))
 (n:∀ae,Agree ["i","c"] ρ ae->ae "i" =some (iD P.length)->∃q,X ae σ=some q/\After q (λZ Z=>False) Q) (v:∀ae,Agree ["i","c"] ρ ae->m=P->Q .next ae σ):
 ∃q,MS.cD (.enum (.var "s1")) (.tup [.name "i",.name "c"]) (.ite (.val (.ne (.var "c") (.idx (.var "s2") (.var "i")))) X .nil) ρ σ=some q/\Q q.1 q.2.1 q.2.2:=by
 refine A0 (m.map e).zipIdx (λp=>.tup [iD p.2,p.1]) (λL ae ab=>Agree ["i","c"] ρ ae/\ab=σ/\L.length<=P.length) Q (Fx (av N) rfl) (λZ Z Z Z Z=>ED rfl) ⟨λZ Z=>rfl,rfl,fW _⟩ (λL p R ae ab G j=>bP j λD B hl=>?_) λae ab C=>bP C λD B hl=>?_
 .subst B
  refine aA (Xa G) λF g=>?_
  rw [gg] at g
  refine aw (Option.map_eq_some_iff.mp g) λc O S=>?_
  have l:Agree ["i","c"] ρ ((ae.set "i" (iD p.2)).set "c" p.1):=(D.set (by decide)).set (by decide)
  have k:∀d,M[L.length]?=some d->(MB.val (.ne (.var "c") (.idx (.var "s2") (.var "i")))) ((ae.set "i" (iD p.2)).set "c" p.1) ab=some (!decide (c=d),ab):=λd H=>
   cz (aJ (d:=p.1) (e:=e d) rfl (aJ (d:=.list (M.map e)) (e:=iD p.2) (av ((l _ (by decide)).trans E)) rfl (show ef (M.map e) (p.2:Int)=_ by exact aa (oS ..)<|aa (F ..)<|aa (gg ..)<|aa (H ..) rfl)) (by exact aa (.symm (S ..))<|K.ne ab c d))
  rcases xI hl with jG| w
  .have h:M[L.length]?=m[L.length]?:=by exact aa (z ..)<|aa (i ..)<|aa (Ky jG ..)<|aa (Ky jG ..) rfl
   refine⟨(.next,_,ab),bs rfl (d_ ((k c (h.trans O)).trans (by exact aa (decide_eq_true rfl ..) rfl)) rfl),l,rfl,by exact aa (bF ..)<|jG⟩
  .have x:m[L.length]?=r[0]?:=by exact aa (z ..)<|aa (w ..)<|aa (Cg (bb _) ..)<|aa (CF ..) rfl
   rw [x] at O
   rcases J with rfl| ⟨a,b,s,t,zu,rfl,rfl⟩
   .exact nomatch O
   .obtain rfl:a=c:=aM O
    refine aw (n _ l (show some (iD p.2)=_ by exact aa (F ..)<|aa (w ..) rfl)) λq y A=>?_
    refine⟨q,bs rfl (iO ((k b (by exact aa (i ..)<|aa (w ..)<|aa (Cg (bb _) ..)<|aa (CF ..) rfl)).trans (by exact aa (decide_eq_false zu ..) rfl)) y),?_⟩
    obtain⟨o,I,f⟩:=q
    induction o with
    | next=>exact A.elim
    | cont=>exact A.elim
    | brk=>exact A
    | ret d=>exact A
 .subst B
  refine v ae D ?_
  rw [xw,aZ,z,bF] at hl
  have:r= []:=t7 (by lia)
  exact aa (z ..)<|aa (this ..)<|aa (hW ..) rfl
theorem E1(K:Key e lt){P m M:List α}{r u:List α}{X:MS}{ρ:aC}{σ:MH}{G:Prop}(Q:Fl->aC->MH->Prop)(z:m=P++r)(i:M=P++u)(c:r= []∨∃a b s t,a≠b/\r=a::s/\u=b::t)(N:ρ "s1" =some (.list (m.map e)))(E:ρ "s2" =some (.list (M.map e)))
 (n:∀ae,Agree ["i","c"] ρ ae->ae "i" =some (iD P.length)->∃q,X ae σ=some q/\After q (λZ Z=>False) Q) (v:∀ae,Agree ["i","c"] ρ ae->m=P->Q .next ae σ)
 (k:∀o ae ab,MS.cD (.enum (.var "s1")) (.tup [.name "i",.name "c"]) (.ite (.val (.ne (.var "c") (.idx (.var "s2") (.var "i")))) X .nil) ρ σ=some (o,ae,ab)->Q o ae ab->G):G:=aw (O3 K Q z i c N E n v) λZ h q=>k _ _ _ h q
end
theorem D6{α:Type} [DecidableEq α]{e:α->D}{lt:α->α->Bool}(K:Key e lt){σ:MH}{P:List α}{l_:List (List α)}{d:D}(H:l_≠ [])(F:lu P l_)(c:bU σ d=some (l_.map λxs=>.list (xs.map e))):
 ∃m M r u,oq false d σ=some (.list (m.map e))/\oq true d σ=some (.list (M.map e))/\m=P++r/\M=P++u/\(r= []∨∃a b s t,a≠b/\r=a::s/\u=b::t):=by
 refine bI (yo (vm K.o) (λxs:List α=>.list (xs.map e)) (g:=false) H c λx Z y Z=>D5 K x y) λm z j T=>?_
 refine bI (yo (vm K.o).flip (λxs:List α=>.list (xs.map e)) (g:=true) H c λx Z y Z=>D5 K x y) λM i f G=>?_
 refine eQ (O2 K.o F z i j f) λr u N E A=>?_
 exact⟨m,M,r,u,T,G,N,E,A⟩
theorem Iz{α:Type}{e:α->D}{P r:List α}:jQ ((P++r).map e) none (some (P.length:Int))=P.map e:=by
 exact aa (A6 (by rw [aZ,bF];exact cy _ _))<|aa (.symm (t_ ..))<|aa (KY ..) rfl
theorem Uh{P:List Nat}{n:List (List Nat)}(H:n≠ [])(F:lu P n)(σ:MH):pz [.list (n.map cZ)] σ=some (cZ P,σ):=by
 refine BG (D6 FV (σ:=MH.nil) (d:=.list (n.map cZ)) H F rfl) λm M r u T G N E A=>?_
 refine ew (pM H) λx xs U=>?_
 let bw:=((c_ [("m",.list (n.map cZ))]).set "s1" (cZ m)).set "s2" (cZ M)
 refine E1 FV (P:=P) (m:=m) (M:=M) (X:=.ret (.slice (.var "s1") .none (some (.var "i")))) (ρ:=bw) (σ:=MH.nil) (λo ae ab=>ab=MH.nil/\(o=.ret (cZ P)∨(o=.next/\ae "s1" =some (cZ P)))) N E A rfl rfl
  (λae K w=>⟨_,fC (kc (d:=cZ m) (xs:=m.map iD) (l:=none) (av (K _ (by decide))) rfl rfl (mJ (av w)) rfl),rfl,.inl (congrArg Fl.ret (by exact aa (N ..)<|aa (Iz ..) rfl))⟩)
  (λae K g=>⟨rfl,.inr ⟨rfl,(K _ (by decide)).trans (congrArg (λm=>some (cZ m)) g)⟩⟩) λo ae ab y S=>?_
 refine aA S λB j=>?_;obtain rfl:=B
 have hb:k9 MH.nil (.list (n.map cZ))=some true:=by exact aa (U ..) rfl
 have w:(ME.bh mY (.idx (.var "m") (.int 0)) (.tup [(.typ "list"),(.typ "tuple")])) (c_ [("m",.list (n.map cZ))]) MH.nil=some (.bool true,MH.nil):=aJ (d:=cZ x) (e:=.tup [.typ "list",.typ "tuple"]) (aJ (d:=.list (n.map cZ)) (e:=.int 0) rfl rfl (by exact aa (U ..) rfl)) rfl rfl
 have O:∀r,(MS.cons (.cD (.enum (.var "s1")) (.tup [.name "i",.name "c"]) (.ite (.val (.ne (.var "c") (.idx (.var "s2") (.var "i")))) (.ret (.slice (.var "s1") .none (some (.var "i")))) .nil)) (.ret (.var "s1"))) bw MH.nil=some r->vH (c_ [("m",.list (n.map cZ))]) MH.nil=some r:=λr a=>
  aK (d_ (ur (oo (av rfl) hb)) rfl) (aK (d_ (ur (cz w)) rfl) (aK (bt (eD (av rfl) T)) (aK (bt (eD (av rfl) G)) a)))
 have v:bO (bind1 "m") vH [.list (n.map cZ)] MH.nil=some (cZ P,MH.nil):=by
  rcases j with rfl| ⟨rfl,hs⟩
  .exact fx rfl (O _ (wj y rfl))
  .exact fx rfl (O _ (aK y (fC (av hs))))
 exact f_hide (qn (F:=bO (bind1 "m") vH) (Bool.and_eq_true_iff.mpr ⟨lY λZ Z=>lY λZ Z=>rfl,rfl⟩) v (sf rfl (lY λZ Z=>rfl)))
theorem Sd{σ:MH}{b:List aj}:vI iU σ (b.map .str)=some (b.map .str):=by
 induction b with
 | nil=>rfl
 | cons s b S=>exact bs (a:=(.str s,σ)) rfl (bs S rfl)
theorem T9{P:List Nat}{fs:List (List Nat)}(h0:fs≠ [])(I:dZ fs)(g:P∈b7)(J:fs.length<=100)(F:lu (P.map nm) (fs.map λf=>f.map nm))(σ:MH):px [.list (fs.map λf=>.str (aR f))] σ=some (.str (aR P),σ):=by
 let s:List D:=fs.map λf=>.str (aR f)
 have n:s=(fs.map aR).map .str:=by exact aa (fe ..) rfl
 let bw:=(c_ [("paths",.list s)]).set "paths" (.tup s)
 have V:(ME.qH iU (.var "paths")) (c_ [("paths",.list s)]) MH.nil=some (.tup s,MH.nil):=bs (av (d:=.list s) rfl) (bs (a:=s) rfl (bs (a:=s) (by exact aa (n ..)<|Sd) rfl))
 refine ew (pM h0) λA L U=>?_
 have e2:k9 MH.nil (.tup s)=some true:=by show some (!s.isEmpty)=_;exact aa (show s=.str (aR A)::L.map λf=>.str (aR f) by show fs.map _=_;rw [U];rfl) rfl
 have E:(ME.bh mY (.idx (.var "paths") (.int 0)) (.typ "bytes")) bw MH.nil=some (.bool false,MH.nil):=aJ (d:=.str (aR A)) (e:=.typ "bytes") (aJ (d:=.tup s) (e:=.int 0) rfl rfl (by show ef (fs.map _) 0=_;exact aa (U ..) rfl)) rfl rfl
 let w:=(bw.set "sep" (.str "/")).set "curdir" (.str ".")
 have G:MI.of (.var "paths") w MH.nil=some (fj (.tup s),s.length+1,MH.nil):=zF (av rfl)
 have z:fs.length<=aP:=cf (aE J (by decide))
 have e4:(ME.aI (.comp (.of (.var "paths")) (.name "path") [] (.elt (.aI (.bh pf (.var "path") (.var "sep")))) [".0","path"] (.list []))) w MH.nil=some (.list (fs.map λf=>.list ((Txt.split (aR f) "/").map .str)),MH.nil):=
  eV fs (λf=>.str (aR f)) _ G (λj=>rfl) (by decide) (λf C ae K T=>mP (c:=.list ((Txt.split (aR f) "/").map .str)) (bs (av T) (bs (av ((K _ (by decide)).trans rfl)) (bs (a:=aR f) rfl (bs (a:=("/" :aj)) rfl (bs (if_pos ⟨rfl,(gm (I f C)).sp,(gm (I f C)).H9⟩) rfl))))) rfl) z
 let v:=w.set "split_paths" (.list (fs.map λf=>.list ((Txt.split (aR f) "/").map .str)))
 have e5:(MS.qJ "isabs" (.comp (.of (.var "paths")) (.name "p") [] (.nC (.bh tu (.var "p") (.var "sep"))) [".0","p"] (.i0 false))) v MH.nil=some (.next,v.set "isabs" (.bool true),MH.nil):=by
  refine y1 s (at_:=fj (.tup s)) (t:=.name "p") (ifs:=[]) (b:=.nC (.bh tu (.var "p") (.var "sep"))) (λl ae ab c=>Agree [".0","p"] v ae/\ab=MH.nil/\∃b,c=.i0 b/\(l≠ []->b=true)) (λZ Z Z Z Z Z=>rfl)
   (λl x r ae ab c hl u=>bP u λN B Y=>aw Y λb hc Z=>by
     subst B;subst hc
     have U:x∈s:=hl▸d0 _ a0
     refine aw (List.mem_map.mp U) λf C W=>?_;obtain rfl:=W
     refine⟨(ae.set "p" (.str (aR f)),MH.nil,.i0 true),bs rfl (bs (a:=(true,MH.nil)) rfl (bs (a:=(.bool true,MH.nil)) (aJ (d:=.str (aR f)) (e:=.str "/") rfl (av (N _ (by decide))) (by show some (D.bool (ya (aR f) "/"))=_;exact aa ((gm (I f C)).Vp ..) rfl)) rfl)),N.set (by decide),rfl,true,rfl,λZ=>rfl⟩) (v.drop [".0","p"]) MH.nil (.i0 false) ⟨Agree.drop,rfl,false,rfl,λh=>absurd rfl h⟩ λXe Yq cq y S=>?_
  refine bP S λN V q=>?_
  refine aw q λb E hb=>?_
  subst V E
  obtain rfl:=hb (by show fs.map _≠ [];exact aa (U ..)<|List.cons_ne_nil _ _)
  exact bs (bs (a:=(fj (.tup s),s.length+1,MH.nil)) (zF (av rfl)) (bs y rfl)) (bs (a:=true) rfl (if_pos rfl))
 let i:=v.set "isabs" (.bool true)
 have e6:(ME.aI (.comp (.of (.var "split_paths")) (.name "s") [] (.elt (.aI (.comp (.of (.var "s")) (.name "c") [(.and (.val (.var "c")) (.val (.ne (.var "c") (.var "curdir"))))] (.elt (.var "c")) [".0","c"] (.list [])))) [".0","s"] (.list []))) i MH.nil=some (.list (fs.map λf=>.list ((f.map nm).map .str)),MH.nil):=by
  refine eV fs (λf=>.list ((Txt.split (aR f) "/").map .str)) _ (cU (av rfl)) (λj=>rfl) (by decide) (λf C ae K T=>?_) z
  refine aa (.symm ((gm (I f C)).ON ..)) ?_
  refine mO (Txt.split (aR f) "/") D.str As D.str (cU (av T)) (λj=>rfl) (by decide) (λx Z Xd hb J=>⟨Dv (p:= !(x.length==0)) (q:= !(x== ".")) (oo (av J) rfl) (cz (aJ (e:=.str ".") (av J) (av ((hb _ (by decide)).trans (K _ (by decide)))) (o9 (p:=.str x) (q:=.str ".") rfl rfl))),λZ=>av J⟩) (gm (I f C)).H9
 let dd:D:=.list (fs.map λf=>.list ((f.map nm).map .str))
 refine BG (D6 FW (σ:=MH.nil) (d:=dd) (l_:=fs.map λf=>f.map nm) (by exact aa (U ..)<|List.cons_ne_nil _ _) F (by exact aa (fe ..) rfl)) λm M r r' em eM h1 h2 h3=>?_
 let R:=(((i.set "split_paths" dd).set "s1" (.list (m.map .str))).set "s2" (.list (M.map .str))).set "common" (.list (m.map .str))
 refine E1 FW (P:=P.map nm) (m:=m) (M:=M) (X:=.cons (.assign (.name "common") (.slice (.var "s1") .none (some (.var "i")))) .brk) (ρ:=R) (σ:=MH.nil)
  (λo ae ab=>o=.next/\ab=MH.nil/\ae "sep" =some (.str "/")/\ae "isabs" =some (.bool true)/\ae "common" =some (fD P)) h1 h2 h3 rfl rfl
  (λae K hi=>⟨_,aK (bt (kc (d:=.list (m.map .str)) (xs:=m.map .str) (l:=none) (av (K _ (by decide))) rfl rfl (mJ (av hi)) rfl)) rfl,rfl,rfl,K "sep" (by decide),K "isabs" (by decide),congrArg (λx=>some (D.list x)) (by exact aa (h1 ..)<|aa (Iz ..) rfl)⟩)
  (λae K g=>⟨rfl,rfl,K _ (by decide),K _ (by decide),(K "common" (by decide)).trans (congrArg (λx:List aj=>some (D.list (x.map .str))) g)⟩) λo ae ab y S=>?_
 refine l9 S λe0 V B O Q=>?_
 subst e0 V
 have k:=gm g
 have H:bO (bind1 "paths") z9 [.list s] MH.nil=some (.str (aR P),MH.nil):=
  fx rfl (aK (bt V) (aK (d_ (ur (oo (av rfl) e2)) rfl) (aK (d_ (r:=(.next,w,MH.nil)) (cz E) rfl) (aK (bt e4) (aK e5 (aK (bt e6) (aK (bt (eD (av rfl) em)) (aK (bt (eD (av rfl) eM)) (aK (bt (av rfl)) (aK y (aK (bt (zb (cz (av O)) (av B))) (fC
   (aJ (d:=.str "/") (e:=.str (iZ "/" (P.map nm))) (av rfl) (aJ (d:=.str "/") (av B) (av Q) (AA rfl k.FQ k.FR)) (sV k.len))))))))))))))
 exact f_hide (qn (F:=bO (bind1 "paths") z9) (Bool.and_eq_true_iff.mpr ⟨lY λZ Z=>rfl,rfl⟩) H (sf rfl rfl))
end
theorem gq{σ:MH}{c:Cell}:(σ.new c).cell σ.next=some c:=if_pos rfl
theorem fk{σ:MH}{c:Cell}{i:Nat}(h:i≠σ.next):(σ.new c).cell i=σ.cell i:=if_neg h
theorem g9{σ:MH}{c:Cell}{i:Nat}(h:i<σ.next):(σ.new c).cell i=σ.cell i:=if_neg (bj h)
structure Ext(n:Nat)(σ ab:MH):Prop where
 le:σ.next<=ab.next
 old:∀i,i<n->ab.cell i=σ.cell i
theorem Ext.refl{n σ}:Ext n σ σ:=⟨bb _,λZ Z=>rfl⟩
theorem Ext.trans{n σ ab M}(h:Ext n σ ab)(k:Ext n ab M):Ext n σ M:=⟨aE h.le k.le,λi w=>(k.old i w).trans (h.old i w)⟩
theorem Ext.mono{n m σ ab}(h:Ext n σ ab)(k:m<=n):Ext m σ ab:=⟨h.le,λi w=>h.old i (a9 w k)⟩
theorem Ext.put{n σ i c}(h:n<=i):Ext n σ (σ.put i c):=⟨bb _,λj F=>aH (bj (a9 F h))⟩
structure RecAt(σ:MH)(lc:Nat->Nat)(a b i:Nat)(p:Pl)(u r:Nat):Prop where
 u1:a<=u
 u2:u<b
 r1:a<=r
 r2:r<b
 i1:a<=i
 i2:i<b
 ci:σ.cell i=some (.inst 59 [("useragents",.ref u),("rulelines",.ref r),("delay",oD p.dl),("req_rate",oD p.rt)])
 cu:σ.cell u=some (.list (p.ag.map .str))
 cr:σ.cell r=some (.list (p.ms.map λm=>.ref (lc m)))
def Rec(σ:MH)(lc:Nat->Nat)(a b i:Nat)(p:Pl):Prop:=∃u r,RecAt σ lc a b i p u r
theorem RecAt.keep{σ ab lc a b i p u r}(h:RecAt σ lc a b i p u r)(k:∀j,a<=j->j<b->ab.cell j=σ.cell j):RecAt ab lc a b i p u r:=
 ⟨h.u1,h.u2,h.r1,h.r2,h.i1,h.i2,(k i h.i1 h.i2).trans h.ci,(k u h.u1 h.u2).trans h.cu,(k r h.r1 h.r2).trans h.cr⟩
theorem RecAt.wide{σ lc a b i p k B u r}(h:RecAt σ lc a b i p u r)(K:k<=a)(hb:b<=B):RecAt σ lc k B i p u r:=
 ⟨aE K h.u1,a9 h.u2 hb,aE K h.r1,a9 h.r2 hb,aE K h.i1,a9 h.i2 hb,h.ci,h.cu,h.cr⟩
theorem Rec.keep{σ ab lc a b i p}(h:Rec σ lc a b i p)(k:∀j,a<=j->j<b->ab.cell j=σ.cell j):Rec ab lc a b i p:=h.imp λZ=>dX λZ h=>h.keep k
theorem Rec.wide{σ lc a b i p k B}(h:Rec σ lc a b i p)(K:k<=a)(hb:b<=B):Rec σ lc k B i p:=h.imp λZ=>dX λZ h=>h.wide K hb
noncomputable def F6 (m:Nat) (a:aj) (b:Bool):Cell:=.inst cj [("applies_to",.lam iM [("size",.int a.length),("path",.str a)]),("allowance",.bool b),("path",.str a),("mark",iD m)]
def nW(σ:MH)(c m:Nat)(l:Ln):Prop:=σ.cell c=some (F6 m (bS l.f l.e) l.al)
noncomputable def kQ (u r:Nat) (d q:D):Cell:=.inst 59 [("useragents",.ref u),("rulelines",.ref r),("delay",d),("req_rate",q)]
theorem zr{n:Nat}(h:Nat.ble n 1000=true):n<=1000:=dO h
theorem EB(σ:MH):∃ab,mh [] σ=some (.ref σ.next,ab)/\ab.next=σ.next+3/\Ext σ.next σ ab/\ab.cell σ.next=some (kQ (σ.next+1) (σ.next+2) .none .none)/\ab.cell (σ.next+1)=some (.list [])/\ab.cell (σ.next+2)=some (.list []):=by
 let aW:=σ.new (.inst 59 [])
 have b:σ.next≠σ.next+1:=bj (cw _)
 have u:σ.next≠σ.next+2:=bj (ff (by decide))
 let ρ:=c_ [("self",.ref σ.next)]
 have B:∀ab,(ME.var "self") ρ ab=some (.ref σ.next,ab):=λab=>rfl
 let ao:=(aW.new (.list [])).put σ.next (.inst 59 [("useragents",.ref (σ.next+1))])
 let aX:=(ao.new (.list [])).put σ.next (.inst 59 [("useragents",.ref (σ.next+1)),("rulelines",.ref (σ.next+2))])
 let A:=aX.put σ.next (.inst 59 [("useragents",.ref (σ.next+1)),("rulelines",.ref (σ.next+2)),("delay",.none)])
 let H:=A.put σ.next (kQ (σ.next+1) (σ.next+2) .none .none)
 have a:(aW.new (.list [])).cell σ.next=some (.inst 59 []):=(fk b).trans gq
 have m:(ao.new (.list [])).cell σ.next=some (.inst 59 [("useragents",.ref (σ.next+1))]):=(fk u).trans cb
 have e:xe [.ref σ.next] aW=some (.none,H):=oJ rfl (aK (eo (h8 (c:=.list []) rfl) (iq (B _) a (zr rfl))) (aK (eo (h8 (c:=.list []) rfl) (iq (B _) m (zr rfl)))
  (aK (eo (d:=.none) rfl (iq (B _) cb (zr rfl))) (eo (d:=.none) rfl (iq (B _) cb (zr rfl))))))
 refine⟨H,bs e (if_pos rfl),rfl,⟨cy _ 3,λi w=>?_⟩,cb,?_,?_⟩
 .have h:=bj w
  exact(aH h).trans ((aH h).trans ((aH h).trans ((fk (bj (gO 2 w))).trans ((aH h).trans ((fk (bj (gO 1 w))).trans (fk h))))))
 .exact(aH b.symm).trans ((aH b.symm).trans ((aH b.symm).trans ((fk (bj (cw _))).trans ((aH b.symm).trans gq))))
 .exact(aH u.symm).trans ((aH u.symm).trans ((aH u.symm).trans gq))
theorem VM{ρ:aC}{σ ao:MH}{d:D}{k:Nat}{name:aj}{U:ME}{i:Nat}(h:U ρ σ=some (.ref i,ao))(O:ao.cell i=some (.ia k)):MT.attrL k name U d ρ σ=some (ρ,ao.put i (.inst k [(name,d)])):=
 bs h (bs (a:=ao.put i (.inst k [(name,d)])) (bs (a:=i) rfl (bs O (if_pos rfl))) rfl)
theorem Bg{ρ:aC}{σ ao:MH}{d:D}{k:Nat}{name:aj}{U:ME}{i:Nat}{as}(h:U ρ σ=some (.ref i,ao))(O:ao.cell i=some (.inst k as))(J:as.length<=1000):MT.attrL k name U d ρ σ=some (ρ,ao.put i (.inst k (eF as name d))):=
 bs h (bs (a:=ao.put i (.inst k (eF as name d))) (bs (a:=i) rfl (bs O (show s8 k name (.ref i) d ao=_ from bs (yH O) (if_pos ⟨rfl,J⟩)))) rfl)
theorem Rn{l:Ln}(hl:l.Ok)(m:Nat)(σ:MH):∃ab,pC [cW l,iD m] σ=some (.ref σ.next,ab)/\ab.next=σ.next+1/\Ext σ.next σ ab/\nW ab σ.next m l:=by
 let ρ:=c_ [("told",cW l),("mark",iD m)]
 refine aw (S3 hl.p hl.q hl.r) λd F G=>?_
 have k:=z1 hl.f hl.e
 have V:(ME.a8 iV (r7 (.str "/") (.idx (.var "told") (.int 0)))) ρ σ=some (d,σ):=d8 (bs (a:=(.str "/",σ)) rfl (bs (a:=(.list [.str (pc l.p),.str (pc l.q),.str (pc l.r)],σ)) (aJ (d:=cW l) (e:=.int 0) rfl rfl rfl) (bs (a:=[.str (pc l.p),.str (pc l.q),.str (pc l.r)]) rfl rfl))) (F σ)
 have Q:(ME.a8 iV (aG [(.a8 q8 (aG [(.a8 iV (r7 (.str "/") (.idx (.var "told") (.int 0))))])),(.idx (.var "told") (.int 2))])) ρ σ=some (.str (bS l.f l.e),σ):=
  d8 (aS (d8 (aS V bA) (G σ)) (aS (aJ (d:=cW l) (e:=.int 2) rfl rfl rfl) bA)) (k.join σ)
 let P:=bS l.f l.e
 let M:=(ρ.set "path" (.str P)).set "size" (.int P.length)
 let v:=M.set "line" (.ref σ.next)
 have O:Ac ρ σ=some (.next,M,σ):=aK (bt Q) (bt (eD (d:=.str P) rfl rfl))
 let b:D:=.lam iM [("size",.int P.length),("path",.str P)]
 let ao:=(σ.new (.ia cj)).put σ.next (.inst cj [("applies_to",b)])
 let aX:=ao.put σ.next (.inst cj [("applies_to",b),("allowance",.bool l.al)])
 let A:=aX.put σ.next (.inst cj [("applies_to",b),("allowance",.bool l.al),("path",.str P)])
 let H:=A.put σ.next (F6 m P l.al)
 have N:∀ab,(ME.var "line") v ab=some (.ref σ.next,ab):=λab=>rfl
 have T:Ad M σ=some (.ret (.ref σ.next),v,H):=aK (bt (h8 (c:=.ia cj) rfl)) (aK (eo (d:=b) (ao:=σ.new (.ia cj)) rfl (VM (N _) gq))
  (aK (eo (d:=.tup [.bool l.al,.str P,iD m]) (ao:=ao) (iK (aS (aJ (d:=cW l) (e:=.int 3) rfl rfl rfl) (aS (av rfl) (aS (av rfl) bA))) (dO rfl))
    (bs (a:=[.bool l.al,.str P,iD m]) rfl (bs (Bg (N _) cb (zr rfl)) (bs (Bg (N _) cb (zr rfl)) (bs (Bg (N _) cb (zr rfl)) rfl))))) (fC (N _))))
 refine⟨H,fx rfl (bs O T),rfl,⟨dD _,λi w=>?_⟩,cb⟩
 have h:=bj w
 exact(aH h).trans ((aH h).trans ((aH h).trans ((aH h).trans (fk h))))
def rq(σ:MH)(lc:Nat->Nat)(w:List Ln):Prop:=∀m l,w[m]?=some l->nW σ (lc m) m l
noncomputable def l5 (u:Nat) (p:Pl):D:=.tup [.ref u,cZ p.ms,oD p.dl,oD p.rt]
theorem wb{σ:MH}{u k:Nat}{p:Pl}(h:σ.cell u=some (.list (p.ag.map .str))):cX σ (k+3) (l5 u p)=some (qp p):=
 have o:∀o,cX σ (k+2) (oD o)=some (wa o):=λo=>by induction o<;>rfl
 wc (bs (hH (k:=k+1) (d:=.ref u) (iC h) (hG λZ Z=>rfl)) (bs (bs (hH (k:=k+1) (d:=cZ p.ms) rfl (hG (p:=λi:Nat=>CP (i:Int)) λZ Z=>rfl)) (bs (bs (o p.dl) (bs (bs (o p.rt) (bs (a:=[]) rfl rfl)) rfl)) rfl)) rfl))
theorem wB{σ:MH}{lc:Nat->Nat}{a b i u r:Nat}{p:Pl}{w:List Ln}(h:RecAt σ lc a b i p u r)(M:rq σ lc w)(z:∀m∈p.ms,m<w.length)(J:p.ms.length<=aP):fT [.ref i] σ=some (l5 u p,σ):=by
 let ρ:=c_ [("record",.ref i)]
 have N:(ME.var "record") ρ σ=some (.ref i,σ):=rfl
 have V:ME.aI (.comp (.of (.ax (aV 59 "rulelines") (.var "record"))) (.name "line") [] (.elt (.ax (aV cj "mark") (.var "line"))) [".0","line"] (.list [])) ρ σ=some (cZ p.ms,σ):=
  eV p.ms (λm=>.ref (lc m)) iD (sm (cO N h.ci rfl) h.cr) (λj=>rQ h.cr) (by decide) (λm q ae K t=>by
   have k:=M m _ (gL (z m q))
   exact cO (av t) k rfl) J
 refine(?_:bO (bind1 "record") GF [.ref i] σ=_)
 refine fx rfl (fC (iK (aS (cO N h.ci rfl) (aS V (aS (cO N h.ci rfl) (aS (cO N h.ci rfl) bA)))) (dO rfl)))
theorem Vz{b:List aj}(h:∀a∈b,a∈A3):b.all fB=true:=List.all_eq_true.mpr λa K=>List.all_eq_true.mp (show A3.all fB=true by kernel_rfl) a (h a K)
theorem Oo{ρ:aC}{σ:MH}{a b:ME}{i j:Nat}{xs I:List aj}(K:a ρ σ=some (.ref i,σ))(w:σ.cell i=some (.list (xs.map .str)))(hb:b ρ σ=some (.ref j,σ))(F:σ.cell j=some (.list (I.map .str)))(U:xs.length<4000)(N:I.all fB=true)(E:I.length<=aP):
 MF.oL a b ρ σ=some (.list ((I.filter λx=>xs.contains x).map .str),σ):=by
 refine bs K (bs (iC w) (bs Bc (bs hb (bs (iC F) (bs Bc ((if_pos ⟨U,N,E⟩).trans ?_))))))
 refine congrArg (λl:List aj=>some (Cell.list (l.map .str),σ)) (Cf λx Z=>?_)
 rw [tS,decide_eq_true_iff,rB]
theorem Af{σ:MH}{lc:Nat->Nat}{a b X B i j:Nat}{p q:Pl}(h:Rec σ lc a b i p)(k:Rec σ lc X B j q)(hb:b<=σ.next)(o:B<=σ.next)(T:p.Ok)(hq:q.Ok)(hz:p.ms.length+q.ms.length<=aP):
 ∃ab,gX [.ref i,.ref j] σ=some (.ref σ.next,ab)/\ab.next=σ.next+5/\Ext σ.next σ ab/\Rec ab lc σ.next (σ.next+5) σ.next (o5 p q):=by
 refine BB (EB σ) λao s M S f Z Z=>?_
 refine ew h λu r h=>?_
 refine ew k λu' r' k=>?_
 have G:=h.keep λm Z z=>S.old m (a9 z hb)
 have kn:=k.keep λm Z z=>S.old m (a9 z o)
 let N:=σ.next
 let ρ:=(c_ [("e1",.ref i),("e2",.ref j)]).set "entry" (.ref N)
 have O:∀ab,(ME.var "entry") ρ ab=some (.ref N,ab):=λZ=>rfl
 have U:∀ab,(ME.var "e1") ρ ab=some (.ref i,ab):=λZ=>rfl
 have V:∀ab,(ME.var "e2") ρ ab=some (.ref j,ab):=λZ=>rfl
 have ni:i≠N:=bj (a9 h.i2 hb)
 have nj:j≠N:=bj (a9 k.i2 o)
 have I:∀{m},m<N->m≠ao.next:=λz=>bj (a9 z S.le)
 have L:∀{m},m<N->m≠ao.next+1:=λz=>bj (fG (a9 z S.le))
 have R:∀{m},m<N->m≠N:=λz=>bj z
 have C:N≠ao.next:=by exact aa (M ..)<|Nat.ne_of_lt (ff (k:=3) (by decide))
 have D:N≠ao.next+1:=by exact aa (M ..)<|Nat.ne_of_lt (ff (k:=4) (by decide))
 let aX:=(ao.new (.list ((p.ag.filter λx=>q.ag.contains x).map .str))).put N (kQ ao.next (N+2) .none .none)
 have Q:(MS.assign (.attr 59 "useragents" (.var "entry")) (.d9 (.oL (.ax (aV 59 "useragents") (.var "e2")) (.ax (aV 59 "useragents") (.var "e1"))))) ρ ao=some (.next,ρ,aX):=
  eo (h8 (Oo (cO (V _) kn.ci rfl) kn.cu (cO (U _) G.ci rfl) G.cu (ee hq.al (by decide)) (Vz T.ag) (aE T.al (by decide)))) (iq (O _) ((fk C).trans f) (zr rfl))
 have y:∀m,m<N->aX.cell m=σ.cell m:=λm z=>(aH (R z)).trans ((fk (I z)).trans (S.old m z))
 have E:=h.keep λm Z z=>y m (a9 z hb)
 have g:=k.keep λm Z z=>y m (a9 z o)
 let A:=(aX.new (.list ((p.ms++q.ms).map λm=>.ref (lc m)))).put N (kQ ao.next (ao.next+1) .none .none)
 have Y:(MS.assign (.attr 59 "rulelines" (.var "entry")) (.d9 (.bh ui (.ax (aV 59 "rulelines") (.var "e1")) (.ax (aV 59 "rulelines") (.var "e2"))))) ρ aX=some (.next,ρ,A):=
  eo (h8 (c:=.list ((p.ms++q.ms).map λm=>.ref (lc m))) (ab:=aX) (bs (cO (U _) E.ci rfl) (bs (cO (V _) g.ci rfl) (bs (iC E.cr) (bs (iC g.cr) ((if_pos (by exact aa (aZ ..)<|aa (aZ ..)<|hz)).trans (by exact aa (ey ..) rfl))))))) (iq (O _) ((fk D).trans cb) (zr rfl))
 have J:∀m,m<N->A.cell m=σ.cell m:=λm z=>(aH (R z)).trans ((fk (L z)).trans (y m z))
 have h3:=h.keep λm Z z=>J m (a9 z hb)
 have k3:=k.keep λm Z z=>J m (a9 z o)
 have P:∀(ab:MH) (name:aj) (d e:Option Nat),(ME.ax (aV 59 name) (.var "e1")) ρ ab=some (oD d,ab)->(ME.ax (aV 59 name) (.var "e2")) ρ ab=some (oD e,ab)->(ME.ite (.val (.is (.ax (aV 59 name) (.var "e2")) .none_)) (.ax (aV 59 name) (.var "e1")) (.ax (aV 59 name) (.var "e2"))) ρ ab=some (oD (lst d e),ab):=λab name d e q1 v=>by
  refine El (c:=jb (oD e)) (cz (aJ (e:=.none) v rfl (if_pos rfl))) ?_
  induction e with
  | none=>exact q1
  | some n=>exact v
 let H:=A.put N (kQ ao.next (ao.next+1) (oD (lst p.dl q.dl)) .none)
 have e4:=eo (t:=.attr 59 "delay" (.var "entry")) (P A "delay" p.dl q.dl (cO (U _) h3.ci rfl) (cO (V _) k3.ci rfl)) (ae:=ρ) (ab:=H) (iq (O _) cb (zr rfl))
 have K:∀m,m<N->H.cell m=σ.cell m:=λm z=>(aH (R z)).trans (J m z)
 have h4:=h.keep λm Z z=>K m (a9 z hb)
 have k4:=k.keep λm Z z=>K m (a9 z o)
 let l:=H.put N (kQ ao.next (ao.next+1) (oD (lst p.dl q.dl)) (oD (lst p.rt q.rt)))
 have e5:=eo (t:=.attr 59 "req_rate" (.var "entry")) (P H "req_rate" p.rt q.rt (cO (U _) h4.ci rfl) (cO (V _) k4.ci rfl)) (ae:=ρ) (ab:=l) (iq (O _) cb (zr rfl))
 have w:ao.next≠N:=C.symm
 have W:ao.next+1≠N:=D.symm
 have hx:Ext N σ l:=⟨by show σ.next<=ao.next+2;exact aa (M ..)<|Nat.le_add_right _ 5,λm z=>(aH (R z)).trans (K m z)⟩
 refine⟨l,fx rfl (aK (bt (ρ:=c_ [("e1",.ref i),("e2",.ref j)]) (d8 (F:=mh) (ds:=[]) rfl s)) (aK Q (aK Y (aK e4 (aK e5 (fC (O _))))))),by show ao.next+2=_;exact aa (M ..) rfl,hx,ao.next,ao.next+1,?_,?_,?_,?_,bb _,ff (by decide),cb,?_,?_⟩
 .exact aa (M ..)<|Nat.le_add_right _ 3
 .exact aa (M ..)<|Nat.add_lt_add_left (by decide) _
 .exact aa (M ..)<|Nat.le_add_right _ 4
 .exact aa (M ..)<|Nat.add_lt_add_left (by decide) _
 .exact(aH w).trans ((aH w).trans ((aH w).trans ((fk (bj (cw _))).trans ((aH w).trans gq))))
 .exact(aH W).trans ((aH W).trans ((aH W).trans gq))
noncomputable def yf:MS:=.ite (.val (.ne (.var "agent") (.str "*"))) (.cons (.assign (.name "agent") (.ax sE (.var "agent"))) (.ite (.val (.jH (.var "agent") (.var "useragent"))) (.ret (.bool true)) .nil)) .nil
structure tZ(s t x:aj):Prop where
 low:∀ρ σ,ρ "useragent" =some (.str s)->(ME.ax sE (.idx (.aI (.bh pf (.var "useragent") (.str "/"))) (.int 0))) ρ σ=some (.str t,σ)
 ag:∀a∈A3,o_ (h5 a)=some (.str (h5 a))/\(!(a== "*") && !(mf t (h5 a) 0 t.length 1).isEmpty)=(x==a)
theorem L_{s t x a:aj}(h:tZ s t x)(K:a∈A3){ρ:aC}{σ:MH}(b:ρ "useragent" =some (.str t)):∃q,turn (.name "agent") yf (.str a) ρ σ=some q/\((x==a)=true->q.1=.ret (.bool true))/\((x==a)=false->q.1=.next/\q.2.1 "useragent" =some (.str t))/\q.2.2=σ:=by
 refine aA (h.ag a K) λN E=>?_
 generalize (x==a)=c at E ⊢
 have V:(MB.val (.ne (.var "agent") (.str "*"))) (ρ.set "agent" (.str a)) σ=some (!(a== "*"),σ):=cz (aJ (d:=.str a) (e:=.str "*") rfl rfl (o9 (p:=.str a) (q:=.str "*") rfl rfl))
 have Q:(MB.val (.jH (.var "agent") (.var "useragent"))) ((ρ.set "agent" (.str a)).set "agent" (.str (h5 a))) σ=some (!(mf t (h5 a) 0 t.length 1).isEmpty,σ):=cz (aJ (d:=.str (h5 a)) (e:=.str t) rfl (av b) (vV rfl))
 induction B:a== "*" with
 | true=>rw [B] at V E;obtain rfl:false=c:=E;exact⟨_,bs rfl (d_ V rfl),λq=>(nomatch q),λZ=>⟨rfl,b⟩,rfl⟩
 | false=>
  rw [B] at V E
  have g:=bt (x:="agent") (eD (a:=.var "agent") (f:=λd Z=>d.dj.bind λx=>o_ (h5 x)) (ρ:=ρ.set "agent" (.str a)) (ao:=σ) (d:=.str a) (r:=.str (h5 a)) rfl N)
  induction L:(mf t (h5 a) 0 t.length 1).isEmpty with
  | true=>rw [L] at Q E;obtain rfl:false=c:=E;exact⟨_,bs rfl (iO V (aK g (d_ Q rfl))),λq=>(nomatch q),λZ=>⟨rfl,b⟩,rfl⟩
  | false=>rw [L] at Q E;obtain rfl:true=c:=E;exact⟨_,bs rfl (iO V (aK g (iO Q (fC rfl)))),λZ=>rfl,λq=>(nomatch q),rfl⟩
theorem Fm{σ:MH}{lc a b i u r p}{s t x:aj}(h:RecAt σ lc a b i p u r)(T:p.Ok)(H:tZ s t x):pA [.ref i,.str s] σ=some (.bool (p.ag.contains x),σ):=by
 let ρ:=(c_ [("self",.ref i),("useragent",.str s)])
 let bw:=ρ.set "useragent" (.str t)
 refine jO p.ag D.str (mi:=.of (.ax (aV 59 "useragents") (.var "self"))) (t:=.name "agent") (body:=yf) (ρ:=bw) (σ:=σ) (λL ae ab=>ae "useragent" =some (.str t)/\ab=σ/\L.contains x=false/\∃R,p.ag=L++R)
  (λo ae ab=>ab=σ/\((p.ag.contains x=true/\o=.ret (.bool true))∨(p.ag.contains x=false/\o=.next))) (sm (cO (av rfl) h.ci rfl) h.cu) (λZ Z ab Z n=>by exact aa (n.2.1 ..)<|rQ h.cu) ⟨rfl,rfl,rfl,_,rfl⟩
  (λL y R ae ab M C=>eP C λm g P V=>by
    subst g
    have q:y∈p.ag:=M▸d0 _ a0
    obtain⟨⟨o,I,f⟩,N,v,G,rfl⟩:=L_ H (T.ag y q) m (σ:=ab)
    refine⟨_,N,?_⟩
    induction c:x==y with
    | true=>
     obtain rfl:o=.ret (.bool true):=v c
     exact⟨rfl,.inl ⟨by exact aa (eq_of_beq c ..)<|List.contains_iff_mem.mpr q,rfl⟩⟩
    | false=>
     refine aA (G c) λl z=>?_
     obtain rfl:o=.next:=l
     refine⟨z,rfl,?_,R,by exact aa (iW ..)<|M⟩
     rw [Bool.eq_false_iff] at P ⊢
     intro O
     rw [rB,n4] at O
     rcases O with O| O
     .exact P (List.contains_iff_mem.mpr O)
     .rw [pO] at O;rw [O,beq_self_eq_true] at c;cases c) (λae ab j=>eP j λm g P Z=>⟨g,.inr ⟨P,rfl⟩⟩) λo ae ab k S=>?_
 obtain⟨rfl,S⟩:=S
 have start:∀r,(MS.cons (.cD (.of (.ax (aV 59 "useragents") (.var "self"))) (.name "agent") yf) (.ret (.bool false))) bw ab=some r->Gz ρ ab=some r:=λr w=>
  aK (d_ (cz (aJ (d:=.str s) (e:=.none) rfl rfl (if_pos rfl))) rfl) (aK (bt (H.low ρ ab rfl)) w)
 rcases S with ⟨h1,rfl⟩| ⟨h1,rfl⟩
 .exact aa (h1 ..)<|fx rfl (start _ (wj k rfl))
 .exact aa (h1 ..)<|fx rfl (start _ (aK k (fC rfl)))
theorem GP{ρ:aC}{σ ao aX:MH}{d e:D}{f a b r}(h:a ρ σ=some (d,ao))(h':b ρ ao=some (e,aX))(k:f d e aX=some r):MF.bh f a b ρ σ=some r:=bs h (bs h' k)
theorem Vs{σ:MH}{lc a b i u r p}(h:RecAt σ lc a b i p u r):pA [.ref i,.none] σ=some (.bool (p.ag.contains "*"),σ):=by
 have V:(ME.jH (.str "*") (.ax (aV 59 "useragents") (.var "self"))) (c_ [("self",.ref i),("useragent",.none)]) σ=some (.bool (p.ag.contains "*"),σ):=by
  refine aJ (d:=.str "*") (e:=.ref u) rfl (cO (av rfl) h.ci rfl) (vV ?_)
  show(match bU σ (.ref u) with| some xs=>_| none=>_)=_
  exact aa (iC h.cu ..)<|bs (a:=.str "*") rfl (bs (hG λZ Z=>rfl) (congrArg some yj))
 exact fx rfl (wj (iO (cz (aJ (d:=.none) (e:=.none) rfl rfl (if_pos rfl))) (fC V)) rfl)
theorem PD:tZ "Big*Figs/plum" "big*figs" "fig" where
 low ρ σ h:=eD (aJ (mP (c:=.list [.str "Big*Figs",.str "plum"]) (GP (d:=.str "Big*Figs/plum") (e:=.str "/") (av h) rfl (by kernel_rfl)) rfl) rfl rfl) (by kernel_rfl)
 ag a ha:=by
  have:∀a∈A3,(isStr (o_ (h5 a)) (h5 a) && ((!(a== "*") && !(mf "big*figs" (h5 a) 0 ("big*figs" :aj).length 1).isEmpty)==(("fig" :aj)==a)))=true:=List.all_eq_true.mp (by kernel_rfl)
  have:=this a ha
  rw [jo,beq_iff_eq] at this
  exact⟨qe this.1,this.2⟩
theorem PE:tZ "xpLumy" "xplumy" "Plum" where
 low ρ σ h:=eD (aJ (mP (c:=.list [.str "xpLumy"]) (GP (d:=.str "xpLumy") (e:=.str "/") (av h) rfl (by kernel_rfl)) rfl) rfl rfl) (by kernel_rfl)
 ag a ha:=by
  have:∀a∈A3,(isStr (o_ (h5 a)) (h5 a) && ((!(a== "*") && !(mf "xplumy" (h5 a) 0 ("xplumy" :aj).length 1).isEmpty)==(("Plum" :aj)==a)))=true:=List.all_eq_true.mp (by kernel_rfl)
  have:=this a ha
  rw [jo,beq_iff_eq] at this
  exact⟨qe this.1,this.2⟩
section
section
variable {ρ:aC} {σ ao aX:MH} {d e:D}
theorem Eu{c lo w l u}{x:aj}(h:c ρ σ=some (.str x,ao))(hl:jF lo ρ ao=some (l,ao))(f:jF w ρ ao=some (u,ao)):ME.slice c lo w ρ σ=some (.str (ng x l u),ao):=bs h (bs hl (bs f (bs (a:=.str (ng x l u)) rfl rfl)))
theorem D3{m:ME}{i:Int}(h:m ρ σ=some (.int i,ao)):jF (some m) ρ σ=some (some i,ao):=bs h rfl
theorem Oq{k kl:Nat}{name:aj}{F:FL}{mo:ME}{g:MA}{j r i as S}(h:mo ρ σ=some (.ref i,ao))(O:ao.cell i=some (.inst k as))(l:as.lookup name=some (.lam kl S))(h':g ρ ao=some (j,aX))(f:F S j aX=some r):ME.sH k kl name F mo g ρ σ=some r:=
 bs h (bs (a:=.lam kl S) (bs (u3 O) ((if_pos rfl).trans l)) (bs (a:=(kl,S)) rfl ((if_pos rfl).trans (bs h' f))))
end
noncomputable def oQ (name a:aj):Int:=bif hit name a then (a.length:Int)+1 else 0
theorem Q6(name a:aj)(σ:MH):pB [("size",.int a.length),("path",.str a)] [.str name] σ=some (.int (oQ name a),σ):=by
 let ρ:=td [("size",.int a.length),("path",.str a)] [("name",.str name)]
 have V:(MB.val (.eq (.slice (.var "name") .none (some (.var "size"))) (.var "path"))) ρ σ=some (hit name a,σ):=cz (aJ (Eu (x:=name) (l:=none) rfl rfl (D3 rfl)) (av (d:=.str a) rfl) (ji (p:=.str (ng name none (some (a.length:Int)))) (q:=.str a) rfl rfl))
 refine Eq.trans (b:=Ab ρ σ) rfl ?_
 refine El V ?_
 unfold oQ
 induction hit name a with
 | true=>exact aJ (d:=.int a.length) (e:=.int 1) rfl rfl rfl
 | false=>rfl
noncomputable def C_:MS:=.cons (.assign (.name "m") (.sH cj iM "applies_to" pB (.var "line") (aG [(.var "filename")]))) (.ite (.val (.var "m")) (.ite (.val (.gt (.var "m") (.var "best_match"))) (.cons (.assign (.name "best_match") (.var "m")) (.assign (.name "allowance") (.ax (aV cj "allowance") (.var "line")))) (.ite (.and (.val (.eq (.var "m") (.var "best_match"))) (.not (.val (.var "allowance")))) (.assign (.name "allowance") (.ax (aV cj "allowance") (.var "line"))) .nil)) .nil)
noncomputable def k8 (st:Int×Bool) (x:Nat×Bool):Int×Bool:=if (x.1:Int)+1>st.1 then ((x.1:Int)+1,x.2) else if (x.1:Int)+1=st.1/\st.2=false then (st.1,x.2) else st
noncomputable def hits (name:aj) (l:Ln):List (Nat×Bool):=bif hit name (bS l.f l.e) then [((bS l.f l.e).length,l.al)] else []
structure pk(name:aj)(st:Int×Bool)(ρ:aC):Prop where
 f:ρ "filename" =some (.str name)
 b:ρ "best_match" =some (.int st.1)
 a:ρ "allowance" =some (.bool st.2)
theorem Mc{name:aj}{st:Int×Bool}{ρ:aC}{σ:MH}{c m:Nat}{l:Ln}(h:pk name st ρ)(O:nW σ c m l):∃ae,turn (.name "line") C_ (.ref c) ρ σ=some (.next,ae,σ)/\pk name ((hits name l).foldl k8 st) ae:=by
 let bw:=(ρ.set "line" (.ref c)).set "m" (.int (oQ name (bS l.f l.e)))
 have N:∀ρ:aC,ρ "line" =some (.ref c)->(ME.ax (aV cj "allowance") (.var "line")) ρ σ=some (.bool l.al,σ):=λρ hl=>cO (av hl) O rfl
 have V:=bt (x:="m") (Oq (k:=cj) (kl:=iM) (name:="applies_to") (F:=pB) (mo:=.var "line") (g:=aG [.var "filename"]) (ρ:=ρ.set "line" (.ref c)) (σ:=σ) rfl O rfl (aS (av h.f) bA) (Q6 name _ σ))
 have d:pk name st bw:=⟨h.f,h.b,h.a⟩
 unfold hits
 induction j:hit name (bS l.f l.e) with
 | false=>
  have z:bw "m" =some (.int 0):=congrArg (λi=>some (D.int i)) (show oQ name (bS l.f l.e)=0 by unfold oQ;exact aa (j ..) rfl)
  exact⟨bw,bs rfl (aK V (d_ (oo (av z) rfl) rfl)),d⟩
 | true=>
  have z:bw "m" =some (.int ((bS l.f l.e).length+1)):=congrArg (λi=>some (D.int i)) (show oQ name (bS l.f l.e)=_ by unfold oQ;exact aa (j ..) rfl)
  have T:(MB.val (.var "m")) bw σ=some (true,σ):=oo (av z) (congrArg some (bne_iff_ne.mpr (rj (Int.lt_add_one_of_le (pJ _)))))
  have u:(MB.val (.gt (.var "m") (.var "best_match"))) bw σ=some (decide (((bS l.f l.e).length:Int)+1>st.1),σ):=cz (aJ (av z) (av d.b) rfl)
  have Z:(MB.and (.val (.eq (.var "m") (.var "best_match"))) (.not (.val (.var "allowance")))) bw σ=some (((((bS l.f l.e).length:Int)+1)==st.1) && !st.2,σ):=Dv (cz (aJ (av z) (av d.b) (ji (p:=.int (((bS l.f l.e).length:Int)+1)) (q:=.int st.1) rfl rfl))) (ur (cz (av d.a)))
  show ∃ae,_/\pk name (k8 st ((bS l.f l.e).length,l.al)) ae
  unfold k8
  by_cases q:((bS l.f l.e).length:Int)+1>st.1
  .refine aa (if_pos q ..) ?_
   rw [decide_eq_true q] at u
   exact⟨_,bs rfl (aK V (iO T (iO u (aK (bt (av z)) (bt (N _ rfl)))))),h.f,rfl,rfl⟩
  .refine aa (if_neg q ..) ?_
   rw [decide_eq_false q] at u
   by_cases v:((bS l.f l.e).length:Int)+1=st.1/\st.2=false
   .refine aa (if_pos v ..) ?_
    rw [v.1,v.2,beq_self_eq_true] at Z
    exact⟨_,bs rfl (aK V (iO T (d_ u (iO Z (bt (N _ rfl)))))),h.f,h.b,rfl⟩
   .refine aa (if_neg v ..) ?_
    have:((((bS l.f l.e).length:Int)+1)==st.1 && !st.2)=false:=Bool.eq_false_iff.mpr λk=>v ⟨eq_of_beq (Bool.and_eq_true_iff.mp k).1,by have:=(Bool.and_eq_true_iff.mp k).2;simpa using this⟩
    rw [this] at Z
    exact⟨_,bs rfl (aK V (iO T (d_ u (d_ Z rfl)))),d⟩
theorem Dd{σ:MH}{lc a b i u r p}{w:List Ln}{name:aj}(h:RecAt σ lc a b i p u r)(M:rq σ lc w)(z:∀m∈p.ms,m<w.length):lp [.ref i,.str name] σ=some (.bool ((p.ms.flatMap λm=>(w[m]?).elim [] (hits name)).foldl k8 (-1,true)).2,σ):=by
 let ρ:=(c_ [("self",.ref i),("filename",.str name)])
 refine jO p.ms (λm=>.ref (lc m)) (mi:=.of (.ax (aV 59 "rulelines") (.var "self"))) (t:=.name "line") (body:=C_) (ρ:=(ρ.set "best_match" (.int (-1))).set "allowance" (.bool true)) (σ:=σ)
  (λL ae ab=>pk name ((L.flatMap λm=>(w[m]?).elim [] (hits name)).foldl k8 (-1,true)) ae/\ab=σ) (λo ae ab=>o=.next/\ab=σ/\pk name ((p.ms.flatMap λm=>(w[m]?).elim [] (hits name)).foldl k8 (-1,true)) ae) (sm (cO (av rfl) h.ci rfl) h.cr) (λZ Z ab Z e=>by exact aa (e.2 ..)<|rQ h.cr) ⟨⟨rfl,rfl,rfl⟩,rfl⟩
  (λL m R ae ab f B=>aA B λk g=>by
    subst g
    have c:=z m (f▸d0 _ a0)
    have hl:=gL c
    refine aw (Mc k (M m _ hl)) λn V Q=>?_
    refine⟨_,V,?_,rfl⟩
    exact aa (t8 ..)<|aa (xu ..)<|aa (xt ..)<|aa (hl ..)<|Q) (λae ab k=>⟨rfl,k.2,k.1⟩) λo ae ab y S=>?_
 refine bP S λs V K=>?_
 subst s V
 exact fx rfl (aK (bt (d:=.int (-1)) rfl) (aK (bt (d:=.bool true) rfl) (aK y (fC (av K.a)))))
structure tQ(H:List (Nat×Bool))(b:Bool):Prop where
 ex:(H= []/\b=true)∨∃M,(∀x∈H,x.1<=M)/\(∃x∈H,x.1=M)/\(b=true↔ ∃x∈H,x.1=M/\x.2=true)
theorem Dz{H F:List (Nat×Bool)}{b B:Bool}(h:tQ H b)(h':tQ F B)(e:∀x,x∈H↔x∈F):b=B:=by
 rcases h.ex with ⟨rfl,rfl⟩| ⟨M,m1,⟨x,hx,mx⟩,m3⟩<;>rcases h'.ex with ⟨rfl,rfl⟩| ⟨M',n1,⟨y,hy,ny⟩,n3⟩
 .rfl
 .exact absurd ((e y).mpr hy) bQ
 .exact absurd ((e x).mp hx) bQ
 .obtain rfl:M=M':=CD (mx▸n1 x ((e x).mp hx)) (ny▸m1 y ((e y).mpr hy))
  rw [tS,m3,n3]
  exact exists_congr λx=>and_congr_left' (e x)
def HI(P:List (Nat×Bool))(st:Int×Bool):Prop:=(P= []/\st=(-1,true))∨∃M:Nat,st.1=(M:Int)+1/\(∀x∈P,x.1<=M)/\(∃x∈P,x.1=M)/\(st.2=true↔ ∃x∈P,x.1=M/\x.2=true)
theorem HI.step{P st}(x:Nat×Bool)(h:HI P st):HI (P++ [x]) (k8 st x):=by
 have s:∀y,y∈P++ [x]↔y∈P∨y=x:=λy=>by rw [n4,pO]
 unfold k8
 rcases h with ⟨rfl,rfl⟩| ⟨M,h1,h2,⟨z,hz,Qn⟩,h4⟩
 .refine aa (if_pos (by show(-1:Int)<(x.1:Int)+1;lia)) ?_
  refine .inr ⟨x.1,rfl,λy t=>?_,⟨x,d0 _ a0,rfl⟩,?_⟩
  .exact aa ((s y).mp t|>.resolve_left bQ ..)<|Nat.le_refl _
  .exact⟨λq=>⟨x,d0 _ a0,rfl,q⟩,λR=>bI R λy t Z q=>((s y).mp t|>.resolve_left bQ)▸q⟩
 .refine aa (h1 ..) ?_
  by_cases q:(x.1:Int)+1>(M:Int)+1
  .refine aa (if_pos q ..) ?_
   refine .inr ⟨x.1,rfl,λy t=>((s y).mp t).elim (λt=>aE (h2 y t) (by lia)) λe=>e▸bb _,⟨x,(s x).mpr (.inr rfl),rfl⟩,⟨λq=>⟨x,(s x).mpr (.inr rfl),rfl,q⟩,λj=>bI j λy t V Q=>?_⟩⟩
   rcases (s y).mp t with t| rfl
   .have:=h2 y t;lia
   .exact Q
  .refine aa (if_neg q ..) ?_
   have F:∀b:Bool,(b=true↔(st.2=true∨(x.1=M/\x.2=true)))->HI (P++ [x]) ((M:Int)+1,b):=λb hb=>.inr ⟨M,rfl,λy t=>((s y).mp t).elim (h2 y) λe=>by refine aa (e ..) ?_;lia,⟨z,(s z).mpr (.inl hz),Qn⟩,by
    rw [hb,h4]
    exact⟨λk=>k.elim (λC=>aw C λy t r=>⟨y,(s y).mpr (.inl t),r⟩) λk=>⟨x,(s x).mpr (.inr rfl),k⟩,λu=>aw u λy t r=>((s y).mp t).elim (λt=>.inl ⟨y,t,r⟩) λe=>.inr (e▸r)⟩⟩
   by_cases v:(x.1:Int)+1=(M:Int)+1/\st.2=false
   .refine aa (if_pos v ..) ?_
    refine F x.2 ?_
    have:x.1=M:=by lia
    refine aa (v.2 ..) ?_;simp [this]
   .refine aa (if_neg v ..) ?_
    have:=F st.2 ⟨.inl,λk=>k.elim id λk=>?_⟩
    .rw [← h1] at this;exact this
    .induction B:st.2 with
     | true=>rfl
     | false=>exact absurd ⟨by lia,B⟩ v
theorem EX(H:List (Nat×Bool)):tQ H (H.foldl k8 (-1,true)).2:=by
 have F:∀(R P:List (Nat×Bool)) (st:Int×Bool),HI P st->HI (P++R) (R.foldl k8 st):=by
  intro R
  induction R with
  | nil=>exact λP st h=>by exact aa (hW ..)<|h
  | cons x R S=>exact λP st h=>by have:=S (P++ [x]) _ (h.step x);rwa [iW] at this
 rcases F H [] (-1,true) (.inl ⟨rfl,rfl⟩) with ⟨h,e⟩| ⟨M,_,h⟩
 .exact⟨.inl ⟨h,by exact aa (e ..) rfl⟩⟩
 .exact⟨.inr ⟨M,h⟩⟩
end
theorem EJ{σ:MH}{i:Nat}{d:D}{xs ys:List D}(h:σ.cell i=some (.list xs))(k:bU σ d=some ys)(J:xs.length+ys.length<=aP):p8 (.ref i) d σ=some (.none,σ.put i (.list (xs++ys))):=bs (oz h) (bs k (if_pos J))
theorem pY{σ:MH}{i:Nat}{d:D}{xs:List D}(h:σ.cell i=some (.list xs))(J:xs.length<aP):fK (.ref i) d σ=some (.none,σ.put i (.list (xs++ [d]))):=bs (oz h) (if_pos J)
theorem mW{σ:MH}{i:Nat}{xs:List D}(h:σ.cell i=some (.list xs)):eh (.ref i) σ=true:=by unfold eh;exact aa (oz h ..) rfl
noncomputable def kU (N:Nat) (I:List Nat) (m:Nat):Nat:=N+I.idxOf m
theorem Rg{N:Nat}{I:List Nat}(h:I.Nodup):(dv I.length).map (λk=>D.ref (N+k))=I.map λm=>.ref (kU N I m):=by
 refine List.ext_getElem (by exact aa (aZ ..)<|aa (aZ ..)<|aa (hX ..) rfl) λk a E=>?_
 rw [aZ] at E
 refine aa (KC ..)<|aa (KC ..)<|aa (List.getElem_range ..) ?_
 unfold kU
 exact aa (h.idxOf_getElem k E ..) rfl
theorem UH{σ:MH}{w:List Ln}{p:Pl}(hl:∀l∈w,l.Ok)(hp:p.Ok)(hm:∀m∈p.ms,m<w.length)(hd:p.ms.Nodup)(hz:p.ms.length<=20):
 ∃ab,pE [.list (w.map cW),b_ p] σ=some (.ref σ.next,ab)/\Ext σ.next σ ab/\Rec ab (kU (σ.next+3) p.ms) σ.next (σ.next+3) σ.next p/\(∀m∈p.ms,∀l,w[m]?=some l->nW ab (kU (σ.next+3) p.ms m) m l)/\(∀m∈p.ms,kU (σ.next+3) p.ms m<ab.next)/\σ.next+3<=ab.next:=by
 let N:=σ.next
 refine BB (EB σ) λao e0 n1 x1 c1 c2 c3=>?_
 let n:=c_ [("lines",.list (w.map cW)),("plain",b_ p)]
 let ρ:=n.set "record" (.ref N)
 have S:∀ab,(ME.var "record") ρ ab=some (.ref N,ab):=λZ=>rfl
 have U:N+1≠N:=pT N
 have W:N+2≠N:=dc (ff (by decide))
 have y:N+2≠N+1:=dc (cw _)
 let aX:=ao.put (N+1) (.list (p.ag.map .str))
 have k2:aX.cell N=some (kQ (N+1) (N+2) .none .none):=(aH U.symm).trans c1
 have V:(ME.dB eh p8 (.ax (aV 59 "useragents") (.var "record")) (.idx (.var "plain") (.int 0))) ρ ao=some (.none,aX):=
  j_ (cO (S _) c1 rfl) (mW c2) (aJ (d:=b_ p) (e:=.int 0) (r:=gh p.ag) rfl rfl rfl) (EJ c2 (ys:=p.ag.map .str) rfl (by exact aa (aZ ..)<|cf (aE (xH hp.al 0) (by decide))))
 have k3:aX.cell (N+2)=some (.list []):=(aH y).trans c3
 have n2:aX.next=N+3:=n1
 refine y1 (p.ms.map iD) (at_:=fj (cZ p.ms)) (t:=.name "mark") (ifs:=[]) (b:=.elt (.a8 pC (aG [(.idx (.var "lines") (.var "mark")),(.var "mark")])))
  (λL ae ab c=>Agree [".0","mark"] ρ ae/\ab.next=N+3+L.length/\Ext (N+3) aX ab/\c=.list ((dv L.length).map λk=>.ref (N+3+k))/\∀(k m:Nat),k<L.length->p.ms[k]?=some m->∀l,w[m]?=some l->nW ab (N+3+k) m l) (λZ Z Z Z Z Z=>rfl)
  (λL x R ae ab c hs ko=>l9 ko λhA G hx P hI=>by
    subst P
    have i:(p.ms.map iD)[L.length]?=some x:=by exact aa (hs ..)<|lM
    rw [gg] at i
    refine aw (Option.map_eq_some_iff.mp i) λm q B=>?_;obtain rfl:=B
    have K:=hm m (lA q)
    have I:=gL K
    refine dG (Rn (hl _ (KD K)) m ab) λM V Q E e4=>?_
    have z:L.length<p.ms.length:=(List.getElem?_eq_some_iff.mp q).1
    have X:(ae.set "mark" (iD m)) "lines" =some (.list (w.map cW)):=(if_neg (by decide)).trans (hA "lines" (by decide))
    have J:(ae.set "mark" (iD m)) "mark" =some (iD m):=if_pos rfl
    refine⟨(ae.set "mark" (iD m),M,_),bs rfl (bs (a:=(true,ab)) rfl (wR (d8 (aS (uN (p:=(w[m],m)) X J (List.mem_zipIdx_iff_getElem?.mpr I)) (aS (av J) bA)) V) (by exact aa (aZ ..)<|aa (hX ..)<|Nat.lt_of_lt_of_le (a9 z hz) (by decide)))),hA.set (by decide),?_,hx.trans (E.mono (by exact aa (G ..)<|Nat.le_add_right _ _)),?_,?_⟩
    .exact aa (bF ..)<|aa (Q ..)<|aa (G ..) rfl
    .exact aa (bF ..)<|aa (xv ..)<|aa (Cv ..)<|aa (ey ..)<|aa (G ..) rfl
    .intro k m' C u l g
     rw [bF,xv] at C
     rcases xI (rJ C) with C| rfl
     .exact(E.old _ (by exact aa (G ..)<|Nat.add_lt_add_left C _)).trans (hI k m' C u l g)
     .rw [q] at u
      obtain rfl:=aM u
      rw [I] at g
      obtain rfl:=aM g
      exact aa (.symm (G ..))<|e4) (ρ.drop [".0","mark"]) aX (.list []) ⟨Agree.drop,n2,Ext.refl,rfl,λk m C=>absurd C (xJ _)⟩ λXe A cq hq hQ=>?_
 refine l9 hQ λZ n3 T E hc=>?_
 subst E
 rw [aZ] at n3 hc
 have O:(dv p.ms.length).map (λk=>D.ref (N+3+k))=p.ms.map λm=>.ref (kU (N+3) p.ms m):=Rg hd
 have q2:A.cell (N+2)=some (.list []):=(T.old _ (cw _)).trans k3
 have q1:A.cell (N+1)=some (.list (p.ag.map .str)):=(T.old _ (fG (cw _))).trans cb
 have q0:A.cell N=some (kQ (N+1) (N+2) .none .none):=(T.old _ (ff (by decide))).trans k2
 let H:=A.put (N+2) (.list (p.ms.map λm=>.ref (kU (N+3) p.ms m)))
 have Q:(ME.dB eh p8 (.ax (aV 59 "rulelines") (.var "record")) (.aI (.comp (.of (.idx (.var "plain") (.int 1))) (.name "mark") [] (.elt (.a8 pC (aG [(.idx (.var "lines") (.var "mark")),(.var "mark")]))) [".0","mark"] (.list [])))) ρ aX=some (.none,H):=by
  refine j_ (cO (S _) k2 rfl) (mW k3) (e:=.list (p.ms.map λm=>.ref (kU (N+3) p.ms m))) (mP (c:=.list ((dv p.ms.length).map λk=>D.ref (N+3+k))) (bs (a:=(fj (cZ p.ms),(p.ms.map iD).length+1,aX)) (cU (aJ (d:=b_ p) (e:=.int 1) rfl rfl rfl)) (bs hq (by exact aa (aZ ..) rfl))) (congrArg (λl=>some (D.list l)) O)) (EJ q2 rfl ?_)
  exact aa (aZ ..)<|cf (by show 0+p.ms.length<=1000;lia)
 let v:=H.put N (kQ (N+1) (N+2) (oD p.dl) .none)
 let f:=v.put N (kQ (N+1) (N+2) (oD p.dl) (oD p.rt))
 have E:(MS.assign (.tup [(.attr 59 "delay" (.var "record")),(.attr 59 "req_rate" (.var "record"))]) (.tup [(.idx (.var "plain") (.int 2)),(.idx (.var "plain") (.int 3))])) ρ H=some (.next,ρ,f):=
  eo (d:=.tup [oD p.dl,oD p.rt]) (iK (aS (aJ (d:=b_ p) (e:=.int 2) rfl rfl rfl) (aS (aJ (d:=b_ p) (e:=.int 3) rfl rfl rfl) bA)) (dO rfl)) (bs (a:=[oD p.dl,oD p.rt]) rfl (bs (iq (S _) ((aH W.symm).trans q0) (zr rfl)) (bs (iq (S _) cb (zr rfl)) rfl)))
 have o:∀j,N+3<=j->f.cell j=A.cell j:=λj s=>(aH (dc (a9 (ff (by decide)) s))).trans ((aH (dc (a9 (ff (by decide)) s))).trans (aH (dc (a9 (cw _) s))))
 have Y:f.next=N+3+p.ms.length:=n3
 refine⟨f,fx rfl (aK (bt (ρ:=n) (d8 (F:=mh) (ds:=[]) rfl e0)) (aK (il V) (aK (il Q) (aK E (fC (S _)))))),⟨by exact aa (Y ..)<|Nat.le_trans (cy N 3) (cy _ _),λj s=>?_⟩,
  ⟨N+1,N+2,⟨dD _,fG (cw _),cy _ _,cw _,bb _,ff (by decide),cb,?_,?_⟩⟩,λm q l g=>?_,λm q=>?_,by exact aa (Y ..)<|Nat.le_add_right _ _⟩
 .have h:=bj s
  exact(aH h).trans ((aH h).trans ((aH (bj (gO 2 s))).trans ((T.old j (gO 3 s)).trans ((aH (bj (gO 1 s))).trans (x1.old j s)))))
 .exact(aH U).trans ((aH U).trans ((aH y.symm).trans q1))
 .exact(aH W).trans ((aH W).trans cb)
 .have C:p.ms.idxOf m<p.ms.length:=KJ q
  exact(o _ (cy _ _)).trans (hc _ m C ((gL C).trans (congrArg some (List.getElem_idxOf C))) l g)
 .exact aa (Y ..)<|Nat.add_lt_add_left (KJ q) _
section
noncomputable def lX (f:List Nat) (n:Int) (l:Nat):Cell:=.slots 176 [(0,.str (aR f)),(1,.int n),(2,.ref l)]
noncomputable def aB (f:List Nat):D:=.str (aR f)
noncomputable def qB (fs:List (List Nat)):Cell:=.list (fs.map aB)
noncomputable def bV (ci:List Nat->Nat) (f:List Nat):D:=.ref (ci f)
structure fY(σ:MH)(B T:Nat)(ns:List (List Nat))(ci:List Nat->Nat)(np:List Nat->Int)(sc:List Nat->List (List Nat)):Prop where
 cG:dZ ns
 inf:∀f∈ns,σ.cell (ci f)=some (lX f (np f) (ci f+1))
 iQ:∀f∈ns,σ.cell (ci f+1)=some (qB (sc f))
 lo:∀f∈ns,B+2<=ci f
 hi:∀f∈ns,ci f+1<T
 ne:∀f∈ns,∀g∈ns,f≠g->ci f≠ci g
 n1:∀f∈ns,∀g∈ns,ci f≠ci g+1
noncomputable def eW {β:Type} (h:List Nat->β) (f:List Nat) (v:β):List Nat->β:=λg=>if g=f then v else h g
theorem lQ{β:Type}{h:List Nat->β}{f v}:eW h f v f=v:=if_pos rfl
theorem kR{β:Type}{h:List Nat->β}{f g v}(e:g≠f):eW h f v g=h g:=if_neg e
section
variable {σ ab:MH} {B T:Nat} {ns:List (List Nat)} {ci:List Nat->Nat} {np:List Nat->Int} {sc:List Nat->List (List Nat)} {f g:List Nat}
theorem fY.keep(S:fY σ B T ns ci np sc)(h:∀i,B+2<=i->i<T->ab.cell i=σ.cell i):fY ab B T ns ci np sc:=
 {S with
   inf:=λf I=>(h _ (S.lo f I) (lD (S.hi f I))).trans (S.inf f I)
   iQ:=λf I=>(h _ (gN (S.lo f I)) (S.hi f I)).trans (S.iQ f I)}
theorem fY.up(S:fY σ B T ns ci np sc){a}(h:T<=a):fY σ B a ns ci np sc:={S with hi:=λf I=>a9 (S.hi f I) h}
theorem fY.wo(S:fY σ B T ns ci np sc)(I:f∈ns)(v:Int):fY (σ.put (ci f) (lX f v (ci f+1))) B T ns ci (eW np f v) sc:=
 {S with
   inf:=λg u=>by
    by_cases e:g=f
    .subst e;exact aa (lQ ..)<|cb
    .exact aa (kR e ..)<|(aH (S.ne g u f I e)).trans (S.inf g u)
   iQ:=λg u=>(aH (Ne.symm (S.n1 f I g u))).trans (S.iQ g u)}
theorem fY.U9(S:fY σ B T ns ci np sc)(I:f∈ns)(v:List (List Nat)):fY (σ.put (ci f+1) (qB v)) B T ns ci np (eW sc f v):=
 {S with
   inf:=λg u=>(aH (S.n1 g u f I)).trans (S.inf g u)
   iQ:=λg u=>by
    by_cases e:g=f
    .subst e;exact aa (lQ ..)<|cb
    .exact aa (kR e ..)<|(aH λq=>S.ne g u f I e (XP q)).trans (S.iQ g u)}
theorem fY.same(S:fY σ B T ns ci np sc){ql a}(h:∀f∈ns,ql f=np f)(k:∀f∈ns,a f=sc f):fY σ B T ns ci ql a:=
 {S with inf:=λf I=>by exact aa (h f I ..)<|S.inf f I,iQ:=λf I=>by exact aa (k f I ..)<|S.iQ f I}
end
noncomputable def jS (B:Nat) (r:D) (p q:Int):Cell:=.inst 273 [("_node2info",.ref (B+1)),("_ready_nodes",r),("_npassedout",.int p),("_nfinished",.int q)]
structure iA(σ:MH)(B:Nat)(ns:List (List Nat))(ci:List Nat->Nat)(np:List Nat->Int)(sc:List Nat->List (List Nat)):Prop where
 S:fY σ B σ.next ns ci np sc
 c:σ.cell B=some (jS B .none 0 0)
 d:σ.cell (B+1)=some (.dict (dk (bV ci) ns))
 t:B+2<=σ.next
 df:∀f,f∉ns->np f=0/\sc f= []
 z:ns.length<=100
theorem gI{B i:Nat}(h:B+2<=i):B≠i/\B+1≠i:=⟨bj (a9 (ff (by decide)) h),bj h⟩
theorem QB(σ:MH)(f:List Nat):∃ab,qW [aB f] σ=some (.ref σ.next,ab)/\ab.next=σ.next+2/\Ext σ.next σ ab/\ab.cell σ.next=some (lX f 0 (σ.next+1))/\ab.cell (σ.next+1)=some (qB []):=by
 let N:=σ.next
 let ρ:=c_ [("self",.ref N),("node",aB f)]
 have P:∀ab,(ME.var "self") ρ ab=some (.ref N,ab):=λZ=>rfl
 have u:N≠N+1:=bj (cw _)
 let ao:=((σ.new (.slots 176 [])).put N (.slots 176 [(0,aB f)])).put N (.slots 176 [(0,aB f),(1,.int 0)])
 have e:xf [.ref N,aB f] (σ.new (.slots 176 []))=some (.none,(ao.new (.list [])).put N (lX f 0 (N+1))):=
  oJ rfl (aK (eo (av rfl) (tx (P _) gq)) (aK (eo (d:=.int 0) (ao:=(σ.new (.slots 176 [])).put N (.slots 176 [(0,aB f)])) rfl (tx (P _) cb)) (eo (h8 (c:=.list []) (ab:=ao) rfl) (tx (P _) ((fk u).trans cb)))))
 refine⟨_,bs e (if_pos rfl),rfl,⟨cy _ 2,λi w=>?_⟩,cb,?_⟩
 .have h:=bj w
  exact(aH h).trans ((fk (bj (fG w))).trans ((aH h).trans ((aH h).trans (fk h))))
 .exact(aH u.symm).trans gq
theorem E_{σ:MH}{B:Nat}{ns:List (List Nat)}{ci:List Nat->Nat}{np:List Nat->Int}{sc:List Nat->List (List Nat)}{f:List Nat}(H:iA σ B ns ci np sc)(I:f∈b7)(J:ns.length<100):
 ∃ab m,lq [.ref B,aB f] σ=some (.ref (m f),ab)/\iA ab B (addW ns f) m np sc/\Ext B σ ab/\(∀g∈ns,m g=ci g):=by
 let ρ:=c_ [("self",.ref B),("node",aB f)]
 have x:∀ab,ab.cell B=some (jS B .none 0 0)->(ME.ax (aV 273 "_node2info") (.var "self")) ρ ab=some (.ref (B+1),ab):=λab h=>cO (av rfl) h rfl
 have j:(ME.dB mV p_ (.ax (aV 273 "_node2info") (.var "self")) (.var "node")) ρ σ=some (((dk (bV ci) ns).lookup (aR f)).getD .none,σ):=
  j_ (x σ H.c) (by unfold mV;exact aa (yk H.d ..) rfl) (av rfl) (Ay (bs (yk H.d) (bs (a:=aR f) rfl rfl)))
 rw [uJ H.S.cG I] at j
 by_cases h:f∈ns
 .rw [if_pos h] at j
  refine⟨σ,ci,?_,by unfold addW;exact aa (if_pos h ..)<|H,Ext.refl,λZ Z=>rfl⟩
  exact fx (ae:=ρ.set "result" (.ref (ci f))) rfl (aK (bs j rfl) (fC rfl))
 .rw [if_neg h] at j
  refine lg (QB σ f) λao z Q E A b=>?_
  let N:=σ.next
  let m:=eW ci f N
  have r:∀g∈ns,m g=ci g:=λg u=>kR λe=>h (e▸u)
  have o:=gI H.t
  let aX:=ao.put (B+1) (.dict (dk (bV m) (ns++ [f])))
  have P:eF (dk (bV ci) ns) (aR f) (.ref N)=dk (bV m) (ns++ [f]):=by
   have:dk (bV ci) ns=dk (bV m) ns:=kD λg u=>by show(aR g,D.ref (ci g))=(aR g,D.ref (m g));exact aa (r g u ..) rfl
   exact aa (this ..)<|aa (show D.ref N=bV m f from congrArg D.ref (lQ (h:=ci)).symm)<|uK H.S.cG I h
  have p:ao.cell B=some (jS B .none 0 0):=(E.old B (a9 (ff (by decide)) H.t)).trans H.c
  have v:ao.cell (B+1)=some (.dict (dk (bV ci) ns)):=(E.old (B+1) H.t).trans H.d
  have y:(MS.pg "result" (.dB mV p_ (.ax (aV 273 "_node2info") (.var "self")) (.var "node")) (.pZ (.sub (.ax (aV 273 "_node2info") (.var "self")) (.var "node")) (.name "result") (.a8 qW (aG [(.var "node")]))) .nil) ρ σ=some (.next,(ρ.set "result" .none).set "result" (.ref N),aX):=
   bs j (bs (a:=(.ref N,ao)) (d8 (aS (av rfl) bA) z) (bs (tA (d:=.ref N) (mo:=.ax (aV 273 "_node2info") (.var "self")) (mi:=.var "node") (cO (av rfl) p rfl) (av rfl) v (by exact aa (oC ..)<|Nat.lt_of_lt_of_le J (by decide))) (bs rfl (congrArg (λk=>some (Fl.next,(ρ.set "result" .none).set "result" (.ref N),ao.put (B+1) (.dict k))) P))))
  have V:∀i,i<N->i≠B+1->aX.cell i=σ.cell i:=λi w M=>(aH M).trans (E.old i w)
  have U:aX.next=N+2:=Q
  refine⟨aX,m,(fx rfl (aK y (fC (av rfl)))).trans (congrArg (λk=>some (D.ref k,aX)) (lQ (h:=ci)).symm),?_,⟨by exact aa (U ..)<|Nat.le_add_right _ _,λi w=>V i (rK w (a9 (ff (by decide)) H.t)) (bj (fG w))⟩,r⟩
  unfold addW
  refine aa (if_neg h ..) ?_
  have s:∀g,g∈ns++ [f]->g∈ns∨g=f:=λg u=>(List.mem_append.mp u).imp id List.mem_singleton.mp
  have l:m f=N:=lQ
  have n:∀g∈ns,ci g<N:=λg u=>lD (H.S.hi g u)
  refine⟨⟨λg u=>(s g u).elim (H.S.cG g) λe=>e▸I,λg u=>?_,λg u=>?_,λg u=>?_,λg u=>?_,λg u k C e=>?_,λg u k C=>?_⟩,(aH (bj (cw B))).trans p,cb,by exact aa (U ..)<|Nat.le_trans H.t (cy _ _),λg u=>H.df g λq=>u (jY _ q),by exact aa (bF ..)<|J⟩
  .rcases s g u with q| rfl
   .exact aa (r g q ..)<|aa (V _ (n g q) (gI (H.S.lo g q)).2.symm ..)<|H.S.inf g q
   .exact aa (l ..)<|aa ((H.df g h).1 ..)<|aa (aH o.2.symm ..)<|A
  .rcases s g u with q| rfl
   .exact aa (r g q ..)<|aa (V _ (H.S.hi g q) (Ne.symm (gI (gN (H.S.lo g q))).2) ..)<|H.S.iQ g q
   .exact aa (l ..)<|aa ((H.df g h).2 ..)<|aa (aH (Ne.symm (gI (gN H.t)).2) ..)<|b
  .rcases s g u with q| rfl
   .exact aa (r g q ..)<|H.S.lo g q
   .exact aa (l ..)<|H.t
  .refine aa (U ..) ?_
   rcases s g u with q| rfl
   .exact aa (r g q ..)<|Nat.lt_add_right 2 (H.S.hi g q)
   .exact aa (l ..)<|Nat.lt_succ_self _
  .rcases s g u with q| rfl<;>rcases s k C with q'| rfl
   .exact aa (r g q ..)<|aa (r k q' ..)<|H.S.ne g q k q' e
   .exact aa (r g q ..)<|aa (l ..)<|Nat.ne_of_lt (n g q)
   .exact aa (r k q' ..)<|aa (l ..)<|Nat.ne_of_gt (n k q')
   .exact absurd rfl e
  .rcases s g u with q| rfl<;>rcases s k C with q'| rfl
   .exact aa (r g q ..)<|aa (r k q' ..)<|H.S.n1 g q k q'
   .exact aa (r g q ..)<|aa (l ..)<|Nat.ne_of_lt (fG (n g q))
   .exact aa (r k q' ..)<|aa (l ..)<|Nat.ne_of_gt (H.S.hi k q')
   .exact bj (cw _)
end
section
section
variable {ρ:aC} {σ ao aX:MH}
theorem HL{k j:Nat}{f:D->D->MH->Option (D×MH)}{mo me:ME}{i:Nat}{as:List (Nat×D)}{x v z:D}(h:mo ρ σ=some (.ref i,σ))(O:σ.cell i=some (.slots k as))(l:as.lookup j=some x)(h':me ρ σ=some (v,σ))(I:f x v σ=some (z,σ)):
 MS.lH k j f mo me ρ σ=some (.next,ρ,σ.put i (.slots k (putN as j z))):=
 bs h (bs (a:=x) (bs (uC O) l) (bs h' (bs I (bs (a:=σ.put i (.slots k (putN as j z))) (bs (uC O) rfl) rfl))))
theorem HK{k:Nat}{name:aj}{f:D->D->MH->Option (D×MH)}{mo me:ME}{i:Nat}{as:List (aj×D)}{x v z:D}(h:mo ρ σ=some (.ref i,σ))(O:σ.cell i=some (.inst k as))(J:as.length<=1000)(l:as.lookup name=some x)(h':me ρ σ=some (v,σ))(I:f x v σ=some (z,σ)):
 MS.oj k name f mo me ρ σ=some (.next,ρ,σ.put i (.inst k (eF as name z))):=
 bs h (bs (a:=x) (bs (u3 O) ((if_pos rfl).trans l)) (bs h' (bs I (bs (a:=σ.put i (.inst k (eF as name z))) (bs (yH O) (if_pos ⟨rfl,J⟩)) rfl))))
end
theorem C4{fs:List (List Nat)}{f:List Nat}:f∈addW fs f:=by
 unfold addW
 split
 .assumption
 .exact d0 _ a0
theorem C5{σ:MH}{B:Nat}{ns ci np sc}{f:List Nat}{ds:List D}{n:Nat}(H:iA σ B ns ci np sc)(I:f∈b7)(J:ns.length<100)(G:ds.length=n):
 let ρ:=c_ [("self",.ref B),("node",aB f),("predecessors",.tup ds)]
 ∃ab m,iA ab B (addW ns f) m (eW np f (np f+n)) sc/\Ext B σ ab/\(∀(y:MS) r,y (ρ.set "nodeinfo" (.ref (m f))) ab=some r->MS.cons (.ite (.val (.kg (.ax (aV 273 "_ready_nodes") (.var "self")) .none_)) .never .nil) (.cons (.assign (.name "nodeinfo") (.dC 273 "_get_nodeinfo" lq (.var "self") (aG [(.var "node")]))) (.cons (.lH 176 1 kT (.var "nodeinfo") (.ax bW (.var "predecessors"))) y)) ρ σ=some r):=by
 intro ρ
 refine nI (E_ H I J) λao m V o b Z=>?_
 have a:f∈addW ns f:=C4
 have w:=o.S.inf f a
 have Q:(MB.val (.kg (.ax (aV 273 "_ready_nodes") (.var "self")) .none_)) ρ σ=some (false,σ):=cz (aJ (d:=.none) (e:=.none) (cO (av rfl) H.c rfl) rfl (if_pos rfl))
 have E:=bt (x:="nodeinfo") (jC (C:=273) (name:="_get_nodeinfo") (F:=lq) (mo:=.var "self") (g:=aG [.var "node"]) (ρ:=ρ) (σ:=σ) (i:=B) rfl H.c rfl (aS (d:=aB f) rfl bA) V)
 have p:(ME.ax bW (.var "predecessors")) (ρ.set "nodeinfo" (.ref (m f))) ao=some (iD n,ao):=eD (d:=.tup ds) rfl (congrArg (λk:Nat=>some (iD k)) G)
 have q:=HL (k:=176) (j:=1) (f:=kT) (mo:=.var "nodeinfo") (me:=.ax bW (.var "predecessors")) (ρ:=ρ.set "nodeinfo" (.ref (m f))) (σ:=ao) (x:=.int (np f)) (z:=.int (np f+n)) rfl w rfl p rfl
 have l:=gI (o.S.lo f a)
 refine⟨ao.put (m f) (lX f (np f+n) (m f+1)),m,⟨o.S.wo a _,(aH l.1).trans o.c,(aH l.2).trans o.d,o.t,λg u=>⟨(kR λe=>u (by exact aa (e ..)<|a)).trans (o.df g u).1,(o.df g u).2⟩,o.z⟩,b.trans (Ext.put (aE (cy B 2) (o.S.lo f a))),λy r h=>aK (d_ Q rfl) (aK E (aK q h))⟩
theorem L3{σ:MH}{B:Nat}{ns ci np sc}{f:List Nat}(H:iA σ B ns ci np sc)(I:f∈b7)(J:ns.length<100)(a:np f=0):∃ab m,jr [.ref B,aB f] σ=some (.none,ab)/\iA ab B (addW ns f) m np sc/\Ext B σ ab:=by
 refine eQ (C5 H I J (ds:=[]) (n:=0) rfl) λab m F x k=>?_
 have:eW np f (np f+(0:Nat))=np:=funext λg=>by
  by_cases e:g=f
  .exact aa (e ..)<|aa (lQ ..)<|aa (a ..) rfl
  .exact kR e
 rw [this] at F
 exact⟨ab,m,oJ rfl (k _ _ rfl),F,x⟩
theorem L4{σ:MH}{B:Nat}{ns ci np sc}{f g:List Nat}(H:iA σ B ns ci np sc)(I:f∈b7)(u:g∈b7)(J:ns.length<99)(A:(sc g).length<=100):
 ∃ab m,jr [.ref B,aB f,aB g] σ=some (.none,ab)/\iA ab B (addW (addW ns f) g) m (eW np f (np f+1)) (eW sc g (sc g++ [f]))/\Ext B σ ab:=by
 let ρ:=c_ [("self",.ref B),("node",aB f),("predecessors",.tup [aB g])]
 let O:MS:=.cons (.assign (.name "pred_info") (.dC 273 "_get_nodeinfo" lq (.var "self") (aG [(.var "pred")]))) (.expr (.dB eh fK (.ax (eY 176 2) (.var "pred_info")) (.var "node")))
 refine eQ (C5 H I (fG J) (ds:=[aB g]) (n:=1) rfl) λao q o b k=>?_
 have y:(addW ns f).length<100:=ee ye (xM J)
 refine nI (E_ o u y) λaX w V G p Z=>?_
 have r:g∈addW (addW ns f) g:=C4
 let bw:=(ρ.set "nodeinfo" (.ref (q f))).set "pred" (aB g)
 let M:=bw.set "pred_info" (.ref (w g))
 have Q:=bt (x:="pred_info") (jC (C:=273) (name:="_get_nodeinfo") (F:=lq) (mo:=.var "self") (g:=aG [.var "pred"]) (ρ:=bw) (σ:=ao) (i:=B) rfl o.c rfl (aS (d:=aB g) rfl bA) V)
 have v:=G.S.iQ g r
 have E:(ME.dB eh fK (.ax (eY 176 2) (.var "pred_info")) (.var "node")) M aX=some (.none,aX.put (w g+1) (qB (sc g++ [f]))):=
  (j_ (oF (av rfl) (G.S.inf g r) rfl) (mW v) (av (d:=aB f) rfl) (pY v (by exact aa (aZ ..)<|Nat.lt_of_le_of_lt A (by decide)))).trans (congrArg (λl=>some (D.none,aX.put (w g+1) (.list l))) (ey (f:=aB) (l₁:=sc g) (l₂:=[f])).symm)
 have s:=gI (gN (G.S.lo g r))
 refine⟨_,w,oJ (ae:=M) rfl (k _ _ (bs (a:=(fj (.tup [aB g]),2,ao)) rfl (r9 rfl (bs rfl (aK Q (il E))) rfl))),⟨G.S.U9 r _,(aH s.1).trans G.c,(aH s.2).trans G.d,G.t,λh j=>⟨(G.df h j).1,(kR λe=>j (by exact aa (e ..)<|r)).trans (G.df h j).2⟩,G.z⟩,(b.trans p).trans (Ext.put (gN (aE (cy B 2) (G.S.lo g r))))⟩
end
section
theorem sr{σ:MH}{i:Nat}{R:List (aj×D)}{k:aj}{c:Cell}(h:σ.cell i=some c)(N:c.ij=none)(E:c.i9=some R):mS (.ref i) (.str k) σ=R.lookup k:=by
 have V:bU σ (.ref i)=none:=show(σ.cell i).bind (λc=>c.ij)=_ from bs h N
 have Q:j1 σ (.ref i)=some R:=show(σ.cell i).bind (λc=>c.i9)=_ from bs h E
 unfold mS
 exact aa (V ..)<|bs Q rfl
abbrev js:=List Nat×Nat×Nat
structure lr(aW:MH)(B K:Nat)(ns:List (List Nat))(ci:List Nat->Nat)(np:List Nat->Int)(sc:List Nat->List (List Nat)):Prop where
 S:fY aW B K ns ci np sc
 d:aW.cell (B+1)=some (.h_ (dk (bV ci) ns))
 b:B+1<K
 ch:∀f∈ns,∀g∈sc f,g∈ns/\f.length<g.length
 z:ns.length<=40
 zs:∀f∈ns,(sc f).length<=20
structure Fc(aW:MH)(B K:Nat)(ns:List (List Nat))(ci:List Nat->Nat)(sc:List Nat->List (List Nat))(s:List js)(sn:List (List Nat))(ρ:aC)(σ:MH):Prop where
 v1:ρ "n2i" =some (.ref (B+1))
 v2:ρ "stack" =some (.ref K)
 v3:ρ "itstack" =some (.ref (K+1))
 v4:ρ "seen" =some (.ref (K+2))
 v5:ρ "node2stacki" =some (.ref (K+3))
 old:∀i,i<K->σ.cell i=aW.cell i
 st:σ.cell K=some (.list (s.map λx=>aB x.1).reverse)
 it:σ.cell (K+1)=some (.list (s.map λx=>D.ref x.2.1).reverse)
 se:σ.cell (K+2)=some (.set (sn.map aR))
 dd:∃ei,σ.cell (K+3)=some (.dict ei)/\ei.length<=sn.length/\(∀x∈s,(ei.lookup (aR x.1)).isSome=true)/\∀k,(ei.lookup k).isSome=true->∃x∈s,k=aR x.1
 cs:∀x∈s,σ.cell x.2.1=some (.iter (ci x.1+1) x.2.2)/\K+4<=x.2.1/\x.2.1<σ.next/\x.1∈ns
 ap:s.Pairwise λx y=>x.2.1≠y.2.1/\y.1.length<x.1.length
 si:∀f∈sn,f∈ns
 nx:K+4<=σ.next
noncomputable def fU (ns:List (List Nat)) (sc:List Nat->List (List Nat)) (sn:List (List Nat)):Nat:=((ns.filter λf=> !sn.contains f).map λf=>(sc f).length+1).sum
noncomputable def fR (sc:List Nat->List (List Nat)) (s:List js):Nat:=(s.map λx=>(sc x.1).length - x.2.2).sum
theorem OM{sc sn}{v:List Nat}(G:v∉sn):∀{ns:List (List Nat)},v∈ns->fU ns sc (sn++ [v])+((sc v).length+1)<=fU ns sc sn:=by
 have F:∀ns:List (List Nat),fU ns sc (sn++ [v])<=fU ns sc sn/\(v∈ns->fU ns sc (sn++ [v])+((sc v).length+1)<=fU ns sc sn):=by
  intro ns
  induction ns with
  | nil=>exact⟨bb _,λh=>absurd h bQ⟩
  | cons a ns S=>
   have V:∀sn,fU (a::ns) sc sn=(if sn.contains a then 0 else (sc a).length+1)+fU ns sc sn:=λsn=>by
    unfold fU
    refine aa (nY ..) ?_
    induction O:sn.contains a<;>simp
   refine aa (V ..)<|aa (V ..) ?_
   by_cases K:a=v
   .subst K
    have f:(sn++ [a]).contains a=true:=List.contains_iff_mem.mpr (d0 _ a0)
    have c2:sn.contains a=false:=Bool.eq_false_iff.mpr λq=>G (List.contains_iff_mem.mp q)
    refine aa (f ..)<|aa (c2 ..) ?_
    simp only [if_true,if_false,qV]
    exact⟨by lia,λZ=>by lia⟩
   .have c:(sn++ [v]).contains a=sn.contains a:=by
     rw [tS,rB,rB,n4,pO]
     exact⟨λh=>h.resolve_right K,.inl⟩
    exact aa (c ..)<|⟨xH S.1 _,λh=>by
     have:=S.2 ((List.mem_cons.mp h).resolve_left (Ne.symm K))
     exact aa (K5 ..)<|Nat.add_le_add_left this _⟩
 exact λ{ns} h=>(F ns).2 h
section
variable {aW:MH} {B K:Nat} {ns:List (List Nat)} {ci:List Nat->Nat} {np:List Nat->Int} {sc:List Nat->List (List Nat)} {s:List js} {sn:List (List Nat)} {ρ:aC} {σ:MH} {v:List Nat}
theorem kn(j k:Nat)(h:j≠k:=by decide):K+j≠K+k:=λe=>h (Nat.add_left_cancel e)
theorem FC(C:lr aW B K ns ci np sc)(F:Fc aW B K ns ci sc s sn ρ σ)(N:v∈ns)(G:ρ "node" =some (aB v)):(MB.val (.bh oV (.var "node") (.var "seen"))) ρ σ=some (sn.contains v,σ):=by
 refine cz (aJ (av G) (av F.v4) (bs (a:=aR v) rfl (bs (yJ F.se) (congrArg (λb=>some (D.bool b)) ?_))))
 rw [tS,decide_eq_true_iff,rB,xB]
 exact⟨λc=>aw c λf I e=>qo (C.S.cG f (F.si f I)) (C.S.cG v N) e▸I,λh=>⟨v,h,rfl⟩⟩
noncomputable def z5:MS:=.cons (.expr (.dB sz wh (.var "seen") (.var "node"))) (.cons (.expr (.dB eh fK (.var "itstack") (.ax qg (.ax (eY 176 2) (.idx (.var "n2i") (.var "node")))))) (.cons (.assign (.sub (.var "node2stacki") (.var "node")) (.ax bW (.var "stack"))) (.expr (.dB eh fK (.var "stack") (.var "node")))))
theorem Gf{R:List (aj×D)}{k f:aj}{d:D}:(eF R k d).lookup f=if f=k then some d else R.lookup f:=by
 have a:∀l:List (aj×D),l.any (λp=>p.1=k)=true->(l.map λp=>if p.1=k then (p.1,d) else p).lookup f=if f=k then some d else l.lookup f:=by
  intro l
  induction l with
  | nil=>exact λh=>nomatch h
  | cons p r S=>
   intro h
   rw [eK,dI,dI]
   by_cases T:p.1=k
   .rw [if_pos T]
    by_cases C:f=k
    .exact aa (if_pos C ..)<|aa (show(f==(p.1,d).1)=true from beq_iff_eq.mpr (C.trans T.symm)) rfl
    .refine aa (if_neg C ..)<|aa (show(f==(p.1,d).1)=false from beq_eq_false_iff_ne.mpr λq=>C (q.trans T)) ?_
     show(r.map _).lookup f=r.lookup f
     clear S h
     induction r with
     | nil=>rfl
     | cons q r b=>
      rw [eK,dI,dI,b]
      by_cases y:q.1=k
      .rw [if_pos y,show(f==(q.1,d).1)=false from beq_eq_false_iff_ne.mpr λe=>C (e.trans y)]
      .exact aa (if_neg y ..) rfl
   .refine aa (if_neg T ..) ?_
    rw [pL,decide_eq_false T,tU] at h
    by_cases C:f=k
    .exact aa (show(f==p.1)=false from beq_eq_false_iff_ne.mpr λq=>T (q.symm.trans C))<|S h
    .induction hb:f==p.1 with
     | true=>exact aa (if_neg C ..) rfl
     | false=>exact S h
 unfold eF
 split
 .rename_i h;exact a R h
 .rename_i h
  refine aa (Cn ..) ?_
  by_cases C:f=k
  .subst C
   have:R.lookup f=none:=by
    induction hl:R.lookup f with
    | none=>rfl
    | some x=>exact absurd (List.any_eq_true.mpr ⟨_,mem_of_lookup hl,decide_eq_true rfl⟩) h
   exact aa (this ..)<|aa (if_pos rfl ..)<|aa (dI ..)<|aa (beq_self_eq_true ..) rfl
  .refine aa (if_neg C ..)<|aa (dI ..)<|aa (show(f==k)=false from beq_eq_false_iff_ne.mpr C) ?_
   show(R.lookup f).or none=_
   induction R.lookup f<;>rfl
theorem Rk{R:List (aj×D)}{k:aj}{d:D}:(eF R k d).length<=R.length+1:=by
 unfold eF
 split
 .exact aa (aZ ..)<|Nat.le_succ _
 .exact aa (bF ..)<|Nat.le_refl _
theorem Uj(C:lr aW B K ns ci np sc)(F:Fc aW B K ns ci sc s sn ρ σ)(N:v∈ns)(hs:v∉sn)(G:ρ "node" =some (aB v))(hl:∀x∈s,x.1.length<v.length)(J:sn.length<=1000)(L:s.length<=1000):
 ∃ab,z5 ρ σ=some (.next,ρ,ab)/\Fc aW B K ns ci sc ((v,σ.next,0)::s) (sn++ [v]) ρ ab:=by
 have p:=C.S.hi v N
 have Q:=C.S.inf v N
 have W:=C.S.iQ v N
 let ao:=σ.put (K+2) (.set ((sn++ [v]).map aR))
 have Y:aR v∉sn.map aR:=λh=>by
  refine aw (List.mem_map.mp h) λf I e=>?_
  exact hs (qo (C.S.cG f (F.si f I)) (C.S.cG v N) e▸I)
 have e1:(ME.dB sz wh (.var "seen") (.var "node")) ρ σ=some (.none,ao):=
  j_ (av F.v4) (by unfold sz;exact aa (yJ F.se ..) rfl) (av G) (bs (a:=aR v) rfl (bs (yJ F.se) ((if_pos (by exact aa (aZ ..)<|Nat.lt_of_le_of_lt (jZ J) (by decide))).trans (by unfold qx;exact aa (if_neg Y ..)<|congrArg (λl=>some (D.none,σ.put (K+2) (.set l))) (ey (f:=aR) (l₁:=sn) (l₂:=[v])).symm))))
 have z:∀i,i≠K+2->ao.cell i=σ.cell i:=λi h=>aH h
 have m:∀{i},i<K->∀j,i≠K+j:=λw j=>bj (gO j w)
 let aX:=ao.new (.iter (ci v+1) 0)
 have u:∀{i},i≠σ.next->aX.cell i=ao.cell i:=λh=>fk (σ:=ao) h
 have q:ao.cell (B+1)=some (.h_ (dk (bV ci) ns)):=(z _ (m C.b 2)).trans ((F.old _ C.b).trans C.d)
 have f1:ao.cell (ci v)=some (lX v (np v) (ci v+1)):=(z _ (m (lD p) 2)).trans ((F.old _ (lD p)).trans Q)
 have s1:ao.cell (ci v+1)=some (qB (sc v)):=(z _ (m p 2)).trans ((F.old _ p).trans W)
 have e2:(ME.ax qg (.ax (eY 176 2) (.idx (.var "n2i") (.var "node")))) ρ ao=some (.ref σ.next,aX):=by
  refine uO (oF (aJ (d:=.ref (B+1)) (e:=aB v) (r:=.ref (ci v)) (av F.v1) (av G) ?_) f1 rfl) (bs (oz s1) rfl)
  exact(sr q rfl rfl).trans (h7 C.S.cG N)
 have T:∀j,j<4->K+j≠σ.next:=λj E=>bj (a9 (gZ E K) F.nx)
 have i2:aX.cell (K+1)=some (.list (s.map λx=>D.ref x.2.1).reverse):=(u (T 1 (by decide))).trans ((z _ (kn 1 2)).trans F.it)
 let A:=aX.put (K+1) (.list (((v,σ.next,0)::s).map λx:js=>D.ref x.2.1).reverse)
 have e3:(ME.dB eh fK (.var "itstack") (.ax qg (.ax (eY 176 2) (.idx (.var "n2i") (.var "node"))))) ρ ao=some (.none,A):=
  (j_ (av F.v3) (mW ((z _ (kn 1 2)).trans F.it)) e2 (pY i2 (by exact aa (KN ..)<|aa (aZ ..)<|Nat.lt_of_le_of_lt L (by decide)))).trans (by exact aa (.symm (pP ..)) rfl)
 refine dG F.dd λR d1 c d3 d4=>?_
 have P:A.cell K=some (.list (s.map λx=>aB x.1).reverse):=(aH (kn 0 1)).trans ((u (T 0 (by decide))).trans ((z _ (kn 0 2)).trans F.st))
 have d5:A.cell (K+3)=some (.dict R):=(aH (kn 3 1)).trans ((u (T 3 (by decide))).trans ((z _ (kn 3 2)).trans d1))
 let H:=A.put (K+3) (.dict (eF R (aR v) (.int (s.map λx=>aB x.1).reverse.length)))
 have e4:(MS.assign (.sub (.var "node2stacki") (.var "node")) (.ax bW (.var "stack"))) ρ A=some (.next,ρ,H):=
  eo (eD (av F.v2) (bs (x:=gP A (.ref K)) (uo P) rfl)) (tA (av F.v5) (av G) d5 (ee (aE c J) (by decide)))
 let n:=H.put K (.list (((v,σ.next,0)::s).map λx:js=>aB x.1).reverse)
 have V:H.cell K=some (.list (s.map λx=>aB x.1).reverse):=(aH (kn 0 3)).trans P
 have e5:(ME.dB eh fK (.var "stack") (.var "node")) ρ H=some (.none,n):=
  (j_ (av F.v2) (mW V) (av G) (pY V (by exact aa (KN ..)<|aa (aZ ..)<|Nat.lt_of_le_of_lt L (by decide)))).trans (by exact aa (.symm (pP ..)) rfl)
 have o:∀i,K+4<=i->i≠σ.next->n.cell i=σ.cell i:=λi w M=>by
  have g:∀j,j<4->i≠K+j:=λj E=>dc (a9 (gZ E K) w)
  exact(aH (g 0 (by decide))).trans ((aH (g 3 (by decide))).trans ((aH (g 1 (by decide))).trans ((u M).trans (z _ (g 2 (by decide))))))
 refine⟨n,aK (il e1) (aK (il e3) (aK e4 (il e5))),⟨F.v1,F.v2,F.v3,F.v4,F.v5,λi w=>?_,cb,(aH (kn 1 0)).trans ((aH (kn 1 3)).trans cb),(aH (kn 2 0)).trans ((aH (kn 2 3)).trans ((aH (kn 2 1)).trans ((u (T 2 (by decide))).trans cb))),⟨_,(aH (kn 3 0)).trans cb,?_,λx U=>?_,λk X=>?_⟩,λx U=>?_,?_,λf I=>(List.mem_append.mp I).elim (F.si f) λe=>List.mem_singleton.mp e▸N,gN F.nx⟩⟩
 .exact(aH (m w 0)).trans ((aH (m w 3)).trans ((aH (m w 1)).trans ((u (bj (a9 w (aE (cy K 4) F.nx)))).trans ((z _ (m w 2)).trans (F.old i w)))))
 .exact aa (bF ..)<|Nat.le_trans Rk (jZ c)
 .refine aa (Gf ..) ?_
  split
  .rfl
  .rename_i h
   rcases List.mem_cons.mp U with rfl| U
   .exact absurd rfl h
   .exact d3 x U
 .rw [Gf] at X
  split at X
  .rename_i h;exact⟨_,a0,h⟩
  .refine aw (d4 k X) λx U e=>?_;exact⟨x,bT _ U,e⟩
 .rcases List.mem_cons.mp U with rfl| U
  .refine⟨?_,F.nx,cw _,N⟩
   have g:∀j,j<4->σ.next≠K+j:=λj E=>(T j E).symm
   exact(aH (g 0 (by decide))).trans ((aH (g 3 (by decide))).trans ((aH (g 1 (by decide))).trans (gq (σ:=ao))))
  .refine eP (F.cs x U) λZ c2 O c4=>?_
   exact⟨(o _ c2 (bj O)).trans Z,c2,fG O,c4⟩
 .exact List.pairwise_cons.mpr ⟨λy t=>⟨dc (F.cs y t).2.2.1,hl y t⟩,F.ap⟩
end
end
section
theorem Gd{R:List (aj×D)}{k f:aj}:(R.filter λp=>decide (p.1≠k)).lookup f=if f=k then none else R.lookup f:=by
 induction R with
 | nil=>split<;>rfl
 | cons p r S=>
  refine aa (nY ..) ?_
  by_cases T:p.1=k
  .refine aa (if_neg (by rw [decide_eq_false (not_not_intro T)];decide))<|aa (S ..)<|aa (dI ..) ?_
   by_cases C:f=k
   .exact aa (if_pos C ..)<|aa (if_pos C ..) rfl
   .exact aa (if_neg C ..)<|aa (if_neg C ..)<|aa (show(f==p.1)=false from beq_eq_false_iff_ne.mpr λq=>C (q.trans T)) rfl
  .refine aa (if_pos (decide_eq_true T) ..)<|aa (dI ..)<|aa (dI ..)<|aa (S ..) ?_
   by_cases C:f=k
   .exact aa (if_pos C ..)<|aa (if_pos C ..)<|aa (show(f==p.1)=false from beq_eq_false_iff_ne.mpr λq=>T (q.symm.trans C)) rfl
   .exact aa (if_neg C ..)<|aa (if_neg C ..) rfl
theorem Fz{σ:MH}{i:Nat}{xs:List D}{k:Int}(h:σ.cell i=some (.list xs)):mS (.ref i) (.int k) σ=ef xs k:=by
 have V:=iC h
 unfold mS
 exact aa (V ..)<|bs (a:=k) rfl rfl
theorem Ho{σ:MH}{i:Nat}{xs:List D}{x:D}(h:σ.cell i=some (.list (xs++ [x]))):pa (.ref i) σ=some (x,σ.put i (.list xs)):=
 bs (oz h) (bs (a:=x) KH (congrArg (λl=>some (x,σ.put i (.list l))) Cd))
section
variable {aW:MH} {B K:Nat} {ns:List (List Nat)} {ci:List Nat->Nat} {np:List Nat->Int} {sc:List Nat->List (List Nat)} {s:List js} {sn:List (List Nat)} {ρ:aC} {σ:MH} {v:List Nat}
noncomputable def vG:MS:=.qG "node" (.idx (.var "itstack") (.neg (.int 1))) "node2stacki" "stack" "itstack"
theorem Fc.node(F:Fc aW B K ns ci sc s sn ρ σ)(d:D):Fc aW B K ns ci sc s sn (ρ.set "node" d) σ:={F with v1:=F.v1,v2:=F.v2,v3:=F.v3,v4:=F.v4,v5:=F.v5}
theorem ID(F:Fc aW B K ns ci sc (x::s) sn ρ σ):(ME.idx (.var "itstack") (.neg (.int 1))) ρ σ=some (.ref x.2.1,σ):=by
 refine aJ (e:=.int (-1)) (av F.v3) rfl ((Fz F.it).trans ?_)
 exact aa (eK ..)<|aa (pP ..)<|su
theorem Fc.Iq(C:lr aW B K ns ci np sc)(F:Fc aW B K ns ci sc s sn ρ σ){f}(I:f∈ns):σ.cell (ci f+1)=some (qB (sc f)):=(F.old _ (C.S.hi f I)).trans (C.S.iQ f I)
theorem V5(C:lr aW B K ns ci np sc){x:js}(F:Fc aW B K ns ci sc (x::s) sn ρ σ){g}(u:(sc x.1)[x.2.2]?=some g):
 ∃ab,vG ρ σ=some (.brk,ρ.set "node" (aB g),ab)/\Fc aW B K ns ci sc ((x.1,x.2.1,x.2.2+1)::s) sn (ρ.set "node" (aB g)) ab:=by
 refine eP (F.cs x a0) λf c2 O c4=>?_
 have b:=F.Iq C c4
 have U:((sc x.1).map aB)[x.2.2]?=some (aB g):=by exact aa (gg ..)<|aa (u ..) rfl
 let ao:=σ.put x.2.1 (.iter (ci x.1+1) (x.2.2+1))
 have z:∀i,i<K+4->ao.cell i=σ.cell i:=λi w=>aH (bj (a9 w c2))
 have ap:=List.pairwise_cons.mp F.ap
 refine⟨ao,bs (ID F) (bs (a:=x.2.1) rfl (bs f (bs (a:=(ci x.1+1,x.2.2)) rfl (bs b (bs (a:=(sc x.1).map aB) rfl ?_))))),⟨F.v1,F.v2,F.v3,F.v4,F.v5,λi w=>(z i (gO 4 w)).trans (F.old i w),(z K (ff (by decide))).trans F.st,(z _ (gZ (by decide) K)).trans F.it,(z _ (gZ (by decide) K)).trans F.se,?_,λy t=>?_,?_,F.si,F.nx⟩⟩
 .show(match ((sc x.1).map aB)[x.2.2]? with| some d=>_| none=>_)=_
  exact aa (U ..) rfl
 .refine dG F.dd λR m c n T=>?_
  refine⟨R,(z _ (gZ (by decide) K)).trans m,c,λy t=>?_,λk Z=>?_⟩
  .rcases List.mem_cons.mp t with rfl| t
   .exact n x a0
   .exact n y (bT _ t)
  .refine aw (T k Z) λy t e=>?_
   rcases List.mem_cons.mp t with rfl| t
   .exact⟨_,a0,e⟩
   .exact⟨y,bT _ t,e⟩
 .rcases List.mem_cons.mp t with rfl| t
  .exact⟨cb,c2,O,c4⟩
  .refine aA (F.cs y (bT _ t)) λN v=>?_
   exact⟨(aH (Ne.symm (ap.1 y t).1)).trans N,v⟩
 .exact List.pairwise_cons.mpr ⟨λy t=>ap.1 y t,ap.2⟩
theorem V4(C:lr aW B K ns ci np sc){x:js}(F:Fc aW B K ns ci sc (x::s) sn ρ σ)(u:(sc x.1)[x.2.2]?=none):∃ab,vG ρ σ=some (.next,ρ,ab)/\Fc aW B K ns ci sc s sn ρ ab:=by
 refine eP (F.cs x a0) λf c2 O c4=>?_
 have W:=F.Iq C c4
 have U:((sc x.1).map aB)[x.2.2]?=none:=by exact aa (gg ..)<|aa (u ..) rfl
 have ap:=List.pairwise_cons.mp F.ap
 refine dG F.dd λR m c n T=>?_
 let ao:=σ.del x.2.1
 have z:∀i,i≠x.2.1->ao.cell i=σ.cell i:=λi w=>if_neg w
 have r:∀j,j<4->K+j≠x.2.1:=λj Q=>bj (a9 (gZ Q K) c2)
 let L:=(s.map λx=>aB x.1).reverse
 let I:=(s.map λx=>D.ref x.2.1).reverse
 have E:ao.cell K=some (.list (L++ [aB x.1])):=(z K (r 0 (by decide))).trans (F.st.trans (by exact aa (eK ..)<|aa (pP ..) rfl))
 let aX:=ao.put K (.list L)
 have o:aX.cell (K+3)=some (.dict R):=(aH (kn 3 0)).trans ((z _ (r 3 (by decide))).trans m)
 let b:=R.filter λp=>decide (p.1≠aR x.1)
 let A:=aX.put (K+3) (.dict b)
 have q:A.cell (K+1)=some (.list (I++ [D.ref x.2.1])):=(aH (kn 1 3)).trans ((aH (kn 1 0)).trans ((z _ (r 1 (by decide))).trans (F.it.trans (by exact aa (eK ..)<|aa (pP ..) rfl))))
 let H:=A.put (K+1) (.list I)
 have V:y7 "node2stacki" "stack" "itstack" ρ ao=some H:=bs F.v5 (bs F.v2 (bs F.v3 (bs (Ho E) (bs (a:=aR x.1) rfl (bs (yG o) ((if_pos (n x a0)).trans (bs (Ho q) rfl)))))))
 have P:∀i,K+4<=i->i≠x.2.1->H.cell i=σ.cell i:=λi w M=>by
  have g:∀j,j<4->i≠K+j:=λj Q=>dc (a9 (gZ Q K) w)
  exact(aH (g 1 (by decide))).trans ((aH (g 3 (by decide))).trans ((aH (g 0 (by decide))).trans (z i M)))
 have ne:∀y∈s,aR y.1≠aR x.1:=λy t e=>by
  have:=(ap.1 y t).2
  rw [qo (C.S.cG _ (F.cs y (bT _ t)).2.2.2) (C.S.cG _ c4) e] at this
  exact fV _ this
 refine⟨H,bs (ID F) (bs (a:=x.2.1) rfl (bs f (bs (a:=(ci x.1+1,x.2.2)) rfl (bs W (bs (a:=(sc x.1).map aB) rfl ?_))))),⟨F.v1,F.v2,F.v3,F.v4,F.v5,λi w=>?_,(aH (kn 0 1)).trans ((aH (kn 0 3)).trans cb),cb,(aH (kn 2 1)).trans ((aH (kn 2 3)).trans ((aH (kn 2 0)).trans ((z _ (r 2 (by decide))).trans F.se))),⟨b,(aH (kn 3 1)).trans cb,aE (iX ..) c,λy t=>?_,λk J=>?_⟩,λy t=>?_,ap.2,F.si,F.nx⟩⟩
 .show(match ((sc x.1).map aB)[x.2.2]? with| some d=>_| none=>_)=_
  exact aa (U ..)<|bs V rfl
 .have l:∀j,i≠K+j:=λj=>bj (gO j w)
  exact(aH (l 1)).trans ((aH (l 3)).trans ((aH (l 0)).trans ((z i (bj (a9 (gO 4 w) c2))).trans (F.old i w))))
 .exact aa (Gd ..)<|aa (if_neg (ne y t) ..)<|n y (bT _ t)
 .rw [Gd] at J
  split at J
  .exact nomatch J
  .rename_i h
   refine aw (T k J) λy t e=>?_
   rcases List.mem_cons.mp t with rfl| t
   .exact absurd e h
   .exact⟨y,t,e⟩
 .refine bP (F.cs y (bT _ t)) λN v G=>?_
  exact⟨(P _ v (Ne.symm (ap.1 y t).1)).trans N,v,G⟩
theorem Ia(F:Fc aW B K ns ci sc s sn ρ σ):(MB.val (.var "stack")) ρ σ=some (!s.isEmpty,σ):=by
 refine oo (av F.v2) ?_
 unfold k9
 refine aa (iC F.st ..) ?_
 induction s with
 | nil=>rfl
 | cons x s=>show some (!((((x::s).map λx=>aB x.1)).reverse).isEmpty)=_;refine aa (eK ..)<|aa (pP ..) ?_;induction (s.map λx=>aB x.1).reverse<;>rfl
theorem QE(C:lr aW B K ns ci np sc):∀(s:List js) (σ:MH) (k:Nat),s.length<k->Fc aW B K ns ci sc s sn ρ σ->
 ∃o ae ab i,qL (.val (.var "stack")) vG .brk k ρ σ=some (o,ae,ab)/\Fc aW B K ns ci sc i sn ae ab/\i.length<=s.length/\((o=.brk/\i= [])∨(o=.next/\∃v∈ns,ae "node" =some (aB v)/\(∀x∈i,x.1.length<v.length)/\fR sc i+1<=fR sc s)):=by
 intro s
 induction s with
 | nil=>
  intro σ k Z F
  induction k with
  | zero=>exact absurd Z (xJ _)
  | succ k=>exact⟨_,_,_,[],bs (Ia F) rfl,F,bb _,.inl ⟨rfl,rfl⟩⟩
 | cons x s S=>
  intro σ k Z F
  induction k with
  | zero=>exact absurd Z (xJ _)
  | succ k=>
   have T:=Ia F
   induction u:(sc x.1)[x.2.2]? with
   | some g=>
    refine aw (V5 C F u) λab V O=>?_
    refine aA (C.ch x.1 (F.cs x a0).2.2.2 g (lA u)) λN E=>?_
    have f:=(List.getElem?_eq_some_iff.mp u).1
    refine⟨_,_,_,_,bs T (bs V rfl),O,bb _,.inr ⟨rfl,g,N,rfl,λy t=>?_,?_⟩⟩
    .rcases List.mem_cons.mp t with rfl| t
     .exact E
     .exact rK ((List.pairwise_cons.mp F.ap).1 y t).2 E
    .show((sc x.1).length - (x.2.2+1))+fR sc s+1<=((sc x.1).length - x.2.2)+fR sc s
     lia
   | none=>
    refine aw (V4 C F u) λab V O=>?_
    refine BF (S ab k (Nat.lt_of_succ_lt_succ Z) O) λo n M i h j G l=>?_
    refine⟨o,n,M,i,bs T (bs V h),j,gN G,l.imp id λ⟨a,v,b,c,d,e⟩=>⟨a,v,b,c,d,aE e (ub _ _)⟩⟩
end
end
section
section
variable {aW:MH} {B K:Nat} {ns:List (List Nat)} {ci:List Nat->Nat} {np:List Nat->Int} {sc:List Nat->List (List Nat)} {s:List js} {sn:List (List Nat)} {ρ:aC} {σ:MH} {v:List Nat}
noncomputable def z8:MS:=.cons (.ite (.val (.bh oV (.var "node") (.var "seen"))) (.ite (.val (.jH (.var "node") (.var "node2stacki"))) .never .nil) z5) (.nF fuel (.val (.var "stack")) vG .brk)
structure pH(ns:List (List Nat))(sc:List Nat->List (List Nat))(s:List js)(sn:List (List Nat)):Prop where
 a:sn.length+fU ns sc sn<=1000
 b:s.length<=sn.length
theorem Wq(C:lr aW B K ns ci np sc)(F:Fc aW B K ns ci sc s sn ρ σ)(z:pH ns sc s sn)(N:v∈ns)(G:ρ "node" =some (aB v))(hl:∀x∈s,x.1.length<v.length):
 ∃o ae ab i g,z8 ρ σ=some (o,ae,ab)/\Fc aW B K ns ci sc i g ae ab/\pH ns sc i g/\((o=.brk/\i= [])∨(o=.next/\∃v∈ns,ae "node" =some (aB v)/\(∀x∈i,x.1.length<v.length)/\fU ns sc g+fR sc i<fU ns sc sn+fR sc s)):=by
 have Z:=FC C F N G
 have k:∃ao ak l,MS.ite (.val (.bh oV (.var "node") (.var "seen"))) (.ite (.val (.jH (.var "node") (.var "node2stacki"))) .never .nil) z5 ρ σ=some (.next,ρ,ao)/\Fc aW B K ns ci sc ak l ρ ao/\pH ns sc ak l/\fU ns sc l+fR sc ak<=fU ns sc sn+fR sc s:=by
  by_cases h:v∈sn
  .refine⟨σ,s,sn,iO (Z.trans (by exact aa (List.contains_iff_mem.mpr h ..) rfl)) (d_ (cz (aJ (av G) (av F.v5) (vV ?_))) rfl),F,z,bb _⟩
   refine dG F.dd λR m p n T=>?_
   refine(G5 m).trans (congrArg some (Bool.eq_false_iff.mpr λq=>?_))
   refine aw (T _ q) λx U e=>?_
   have:=hl x U
   rw [← qo (C.S.cG v N) (C.S.cG _ (F.cs x U).2.2.2) e] at this
   exact fV _ this
  .have J:sn.length<=1000:=aE (cy _ _) z.a
   refine aw (Uj C F N h G hl J (aE z.b J)) λab V O=>?_
   have P:=OM (sc:=sc) h N
   refine⟨ab,_,_,d_ (Z.trans (by exact aa (Bool.eq_false_iff.mpr λq=>h (List.contains_iff_mem.mp q) ..) rfl)) V,O,⟨?_,?_⟩,?_⟩
   .have:=z.a;refine aa (bF ..) ?_;show sn.length+1+_<=1000;lia
   .exact aa (bF ..)<|Nat.succ_le_succ z.b
   .show fU ns sc (sn++ [v])+((sc v).length - 0+fR sc s)<=_;lia
 refine tK k λao ak l V E f j=>?_
 refine BF (QE C ak ao fuel (ee f.b (ee (aE (cy _ _) f.a) (by decide))) E) λo ae ab i Q O M q=>?_
 exact⟨o,ae,ab,i,l,aK V Q,O,⟨f.a,aE M f.b⟩,q.imp id λ⟨a,H,b,c,d,e⟩=>⟨a,H,b,c,d,by lia⟩⟩
theorem TV(C:lr aW B K ns ci np sc):∀(k:Nat) (s:List js) (sn:List (List Nat)) (ρ:aC) (σ:MH) (v:List Nat),fU ns sc sn+fR sc s<k->Fc aW B K ns ci sc s sn ρ σ->pH ns sc s sn->v∈ns->ρ "node" =some (aB v)->(∀x∈s,x.1.length<v.length)->
 ∃ae ab g,qL (.val (.bool true)) z8 .nil k ρ σ=some (.next,ae,ab)/\Fc aW B K ns ci sc [] g ae ab/\pH ns sc [] g:=by
 intro k
 induction k with
 | zero=>exact λs sn ρ σ v h=>absurd h (xJ _)
 | succ k S=>
  intro s sn ρ σ v f F z N G hl
  obtain⟨o,ae,ab,i,g,e,O,Z,q⟩:=Wq C F z N G hl
  rcases q with ⟨rfl,rfl⟩| ⟨rfl,v',a,b,c,d⟩
  .exact⟨ae,ab,g,bs rfl (bs e rfl),O,Z⟩
  .refine pj (S i g ae ab v' (by lia) O Z a b c) λn M J Q r=>?_
   exact⟨n,M,J,bs rfl (bs e Q),r⟩
end
theorem Q2{ci:List Nat->Nat}{ns:List (List Nat)}{σ:MH}{j:Nat}:keysAt (dk (bV ci) ns) σ j=some (ns.map aB)[j]?:=by
 delta keysAt dk
 exact aa (gg ..)<|aa (gg ..)<|aa (Option.map_map ..) rfl
theorem Oa{aW:MH}{B:Nat}{ns:List (List Nat)}{ci:List Nat->Nat}{np:List Nat->Int}{sc:List Nat->List (List Nat)}{r:D}{p q:Int}(C:lr aW B aW.next ns ci np sc)(G:aW.cell B=some (jS B r p q)):
 ∃ab,q9 [.ref B] aW=some (.none,ab)/\Ext aW.next aW ab:=by
 let K:=aW.next
 let ρ:=((((c_ [("self",.ref B)]).set "n2i" (.ref (B+1))).set "stack" (.ref K)).set "itstack" (.ref (K+1))).set "seen" (.ref (K+2))|>.set "node2stacki" (.ref (K+3))
 let ao:=aW.new (.list [])
 let aX:=ao.new (.list [])
 let A:=aX.new (.set [])
 let H:=A.new (.dict [])
 have V:∀i,i<K->H.cell i=aW.cell i:=λi w=>(g9 (σ:=A) (gO 3 w)).trans ((g9 (σ:=aX) (gO 2 w)).trans ((g9 (σ:=ao) (gO 1 w)).trans (g9 w)))
 have X:H.cell K=some (.list []):=(g9 (σ:=A) (i:=K) (ff (k:=3) (by decide))).trans ((g9 (σ:=aX) (i:=K) (ff (k:=2) (by decide))).trans ((g9 (σ:=ao) (i:=K) (cw _)).trans gq))
 have Y:H.cell (K+1)=some (.list []):=(g9 (σ:=A) (i:=K+1) (gZ (m:=3) (by decide) K)).trans ((g9 (σ:=aX) (i:=K+1) (gZ (m:=2) (by decide) K)).trans (gq (σ:=ao)))
 have c2:H.cell (K+2)=some (.set []):=(g9 (σ:=A) (i:=K+2) (gZ (m:=3) (by decide) K)).trans (gq (σ:=aX))
 have P:fU ns sc []<=840:=by
  have y:∀l:List (List Nat),(∀f∈l,(sc f).length<=20)->fU l sc []<=21*l.length:=by
   intro l
   induction l with
   | nil=>exact λZ=>bb _
   | cons f l ih=>
    intro h
    have h1:=h f a0
    have h2:=ih λg hg=>h g (bT _ hg)
    show(sc f).length+1+fU l sc []<=21*(l.length+1)
    lia
  have:=y ns C.zs
  have:=C.z
  lia
 have Q:Fc aW B K ns ci sc [] [] ρ H:=⟨rfl,rfl,rfl,rfl,rfl,V,X,Y,c2,⟨[],gq (σ:=A),bb _,λx U=>absurd U bQ,λk hk=>nomatch hk⟩,λx U=>absurd U bQ,List.Pairwise.nil,λf I=>absurd I bQ,bb _⟩
 refine jO ns aB (mi:=.p9 (.var "n2i")) (t:=.name "node") (body:=.cons (.ite (.val (.bh oV (.var "node") (.var "seen"))) .cont .nil) (.nF fuel (.val (.bool true)) z8 .nil)) (ρ:=ρ) (σ:=H)
  (λL ae ab=>∃sn,Fc aW B K ns ci sc [] sn ae ab/\pH ns sc [] sn) (λo ae ab=>o=.next/\∃sn,Fc aW B K ns ci sc [] sn ae ab) (at_:=keysAt (dk (bV ci) ns)) (ao:=H)
  (by exact aa (aZ ..)<|bs (a:=(.ref (B+1),H)) rfl (bs (a:=B+1) rfl (bs ((V _ C.b).trans C.d) (bs (a:=dk (bV ci) ns) rfl (by exact aa (oC ..) rfl))))) (λZ Z Z Z Z=>Q2) ⟨[],Q,⟨aE (bN (rM _)) (aE P (by decide)),bb _⟩⟩
  (λL v R ae ab hs E=>aw E λsn F u=>by
    have N:v∈ns:=hs▸d0 _ a0
    have O:=F.node (aB v)
    have T:=FC C O N rfl
    induction W:sn.contains v with
    | true=>rw [W] at T;exact⟨_,bs rfl (wj (iO T rfl) rfl),sn,O,u⟩
    | false=>
     rw [W] at T
     refine pj (TV C fuel [] sn _ ab v (ee (aE (ub _ _) (aE u.a (bb _))) (by decide)) O u N rfl λx U=>absurd U bQ) λn M J e r=>?_
     exact⟨_,bs rfl (aK (d_ T rfl) e),J,r⟩) (λae ab j=>aw j λsn F Z=>⟨rfl,sn,F⟩) λo ae ab hq S=>?_
 refine aA S λs q=>?_
 refine aL q λsn F=>?_
 subst s
 exact⟨ab,fx (ae:=ae) rfl (aK (bt (cO (av rfl) G rfl)) (aK (bt (h8 (c:=.list []) rfl)) (aK (bt (h8 (c:=.list []) rfl)) (aK (bt (h8 (c:=.set []) rfl)) (aK (bt (h8 (c:=.dict []) rfl)) (aK hq (fC rfl))))))),aE (cy K 4) F.nx,F.old⟩
end
theorem OR{α β:Type}{p:α->Bool}{g:α->β}(as:List α):as.flatMap (λa=>if p a then [g a] else [])=(as.filter p).map g:=by
 induction as with
 | nil=>rfl
 | cons a as S=>refine aa (nZ ..)<|aa (S ..) ?_;induction T:p a<;>simp [T]
structure fv(σ:MH)(B R:Nat)(ns:List (List Nat))(ci:List Nat->Nat)(np:List Nat->Int)(sc:List Nat->List (List Nat))(rd:List (List Nat))(p q:Int):Prop where
 S:fY σ B R ns ci np sc
 c:σ.cell B=some (jS B (.ref R) p q)
 d:σ.cell (B+1)=some (.h_ (dk (bV ci) ns))
 r:σ.cell R=some (.list (rd.map aB))
 b:B+2<=R
 z:rd.length<=1000
theorem fv.keep{σ ab:MH}{B R ns ci np sc l p q}(H:fv σ B R ns ci np sc l p q)(h:∀i,B<=i->i<=R->ab.cell i=σ.cell i):fv ab B R ns ci np sc l p q:=
 have b:=H.b
 ⟨H.S.keep λi N E=>h i (aE (cy B 2) N) (jy E),(h B (bb _) (aE (cy B 2) b)).trans H.c,(h (B+1) (dD _) (aE (dD _) b)).trans H.d,(h R (aE (cy B 2) b) (bb _)).trans H.r,b,H.z⟩
theorem Ui{σ:MH}{B ns ci np sc}(H:iA σ B ns ci np sc)(J:ns.length<=40)(Y:∀f∈ns,(sc f).length<=20)(X:∀f∈ns,∀g∈sc f,g∈ns/\f.length<g.length):
 ∃ab,pG [.ref B] σ=some (.none,ab)/\fv ab B σ.next ns ci np sc (ns.filter λf=>np f==0) 0 0/\Ext B σ ab/\σ.next+1<=ab.next:=by
 let R:=σ.next
 let ρ:=c_ [("self",.ref B)]
 let l:=ns.filter λf=>np f==0
 let ao:=σ.put (B+1) (.h_ (dk (bV ci) ns))
 have v:∀{i},B+2<=i->i≠B+1:=λh=>Ne.symm (gI h).2
 have z:∀i,i≠B+1->ao.cell i=σ.cell i:=λi h=>aH h
 have P:fY ao B R ns ci np sc:=H.S.keep λi h Z=>z i (v h)
 have s:(MI.values (.ax (aV 273 "_node2info") (.var "self"))) ρ σ=some (ie (ns.map (bV ci)),(ns.map (bV ci)).length+1,ao):=by
  refine bs (cO (av rfl) H.c rfl) (bs (yG H.d) ?_)
  rw [aZ]
  have:(dk (bV ci) ns).map (·.2)=ns.map (bV ci):=by unfold dk;rw [fe];rfl
  rw [this,oC]
 have a:ns.flatMap (λf=>if np f==0 then [aB f] else [])=l.map aB:=OR ns
 obtain⟨M,V,_⟩:=y0 (own:=[".0","i"]) (ρ:=ρ) (σ:=ao) ns (bV ci) (λf=>if np f==0 then [aB f] else []) (at_:=ie (ns.map (bV ci))) (t:=.name "i") (ifs:=[(.val (.eq (.ax (eY 176 1) (.var "i")) (.int 0)))]) (b:=.elt (.ax (eY 176 0) (.var "i"))) (λj=>rfl)
  (λf I=>by
    have k:∀ae:aC,ae "i" =some (bV ci f)->(MB.val (.eq (.ax (eY 176 1) (.var "i")) (.int 0))) ae ao=some (np f==0,ao):=λae L=>cz (aJ (oF (av L) (P.inf f I) rfl) rfl (ji (p:=.int (np f)) (q:=.int 0) rfl rfl))
    induction T:np f==0 with
    | true=>exact rP (by decide) λae Z L=>⟨qb ((k ae L).trans (by exact aa (T ..) rfl)),oF (av L) (P.inf f I) rfl⟩
    | false=>exact C7 (by decide) λae Z L=>qb ((k ae L).trans (by exact aa (T ..) rfl))) (ae:=ρ.drop [".0","i"]) (acc:=[]) Agree.drop (by exact aa (a ..)<|aa (aZ ..)<|cf (by show 0+(ns.filter λf=>np f==0).length<=1000;have:=iX (λf=>np f==0) ns;lia))
 rw [a,xD] at V
 let aX:=ao.new (.list (l.map aB))
 have D:B≠R:=(gI H.t).1
 let A:=aX.put B (jS B (.ref R) 0 0)
 have Q:=eo (t:=.attr 273 "_ready_nodes" (.var "self")) (ae:=ρ) (ab:=A) (h8 (ab:=ao) (c:=.list (l.map aB)) (m:=.comp (.values (.ax (aV 273 "_node2info") (.var "self"))) (.name "i") [(.val (.eq (.ax (eY 176 1) (.var "i")) (.int 0)))] (.elt (.ax (eY 176 0) (.var "i"))) [".0","i"] (.list [])) (ρ:=ρ) (σ:=σ) (bs s (bs V rfl))) (iq (mo:=.var "self") (i:=B) (ao:=aX) rfl ((fk (σ:=ao) D).trans ((z B (bj (cw B))).trans H.c)) (zr rfl))
 have y:∀i,B+2<=i->i<R->A.cell i=ao.cell i:=λi N W=>(aH (Ne.symm (gI N).1)).trans (fk (σ:=ao) (bj W))
 have o:fY A B R ns ci np sc:=P.keep y
 have O:A.cell B=some (jS B (.ref R) 0 0):=cb
 have n:A.cell (B+1)=some (.h_ (dk (bV ci) ns)):=(aH (pT B)).trans ((fk (σ:=ao) (gI H.t).2).trans cb)
 have r3:A.cell R=some (.list (l.map aB)):=(aH D.symm).trans (gq (σ:=ao))
 refine aw (Oa (aW:=A) (B:=B) (r:=.ref R) (p:=0) (q:=0) ⟨o.up (dD R),n,a9 H.t (dD R),X,J,Y⟩ O) λG E x=>?_
 have U:(MB.val (.kg (.ax (aV 273 "_ready_nodes") (.var "self")) .none_)) ρ σ=some (false,σ):=cz (aJ (d:=.none) (e:=.none) (cO (av rfl) H.c rfl) rfl (if_pos rfl))
 have K:∀i,i<=R->G.cell i=A.cell i:=λi w=>x.old i (K9 w)
 refine⟨G,oJ (ae:=ρ.set "cycle" .none) rfl (aK (d_ U rfl) (aK Q (aK (bt (jC (C:=273) (name:="_find_cycle") (F:=q9) (mo:=.var "self") (g:=aG []) (i:=B) rfl O rfl bA E)) (d_ (oo (av rfl) rfl) rfl)))),
  fv.keep (σ:=A) ⟨o,O,n,r3,H.t,aE (iX ..) (aE J (by decide))⟩ λi Z w=>K i w,⟨aE (dD R) x.le,λi w=>?_⟩,x.le⟩
 have u:i<R:=a9 w (aE (cy B 2) H.t)
 exact(K i (jy u)).trans ((aH (bj w)).trans ((fk (σ:=ao) (bj u)).trans (z i (bj (fG w)))))
theorem Pk{σ:MH}{B R ns ci np sc l p q}(H:fv σ B R ns ci np sc l p q)(Y:∀f∈l,f∈ns):
 ∃ab,nO [.ref B] σ=some (.tup (l.map aB),ab)/\fv ab B R ns ci (λg=>if g∈l then -1 else np g) sc [] (p+l.length) q/\Ext B σ ab/\ab.next=σ.next/\∀i,R<i->ab.cell i=σ.cell i:=by
 let ρ:=c_ [("self",.ref B)]
 let bw:=(ρ.set "result" (.tup (l.map aB))).set "n2i" (.ref (B+1))
 refine jO l aB (mi:=.of (.var "result")) (t:=.name "node") (body:=.assign (.slot 176 1 (.idx (.var "n2i") (.var "node"))) (.int (-1))) (ρ:=bw) (σ:=σ)
  (λL ae ab=>Agree ["node"] bw ae/\fv ab B R ns ci (λg=>if g∈L then -1 else np g) sc l p q/\Ext B σ ab/\ab.next=σ.next/\∀i,R<i->ab.cell i=σ.cell i) (λo ae ab=>o=.next/\Agree ["node"] bw ae/\fv ab B R ns ci (λg=>if g∈l then -1 else np g) sc l p q/\Ext B σ ab/\ab.next=σ.next/\∀i,R<i->ab.cell i=σ.cell i)
  (zF (av rfl)) (λZ Z Z Z Z=>rfl) ⟨λZ Z=>rfl,by
    have:(λg=>if g∈([]:List (List Nat)) then -1 else np g)=np:=funext λg=>if_neg bQ
    exact aa (this ..)<|H,Ext.refl,rfl,λZ Z=>rfl⟩
  (λL f T ae ab U u=>l9 u λa F x' n' o'=>by
    have I:=Y f (U▸d0 _ a0)
    have w:=F.S.inf f I
    have X:(ME.idx (.var "n2i") (.var "node")) (ae.set "node" (aB f)) ab=some (bV ci f,ab):=aJ (d:=.ref (B+1)) (e:=aB f) (av ((if_neg (by decide)).trans (a "n2i" (by decide)))) rfl ((sr F.d rfl rfl).trans (h7 F.S.cG I))
    have V:=eo (t:=.slot 176 1 (.idx (.var "n2i") (.var "node"))) (m:=.int (-1)) (d:=.int (-1)) (ρ:=ae.set "node" (aB f)) (σ:=ab) rfl (tx X w)
    have j:=gI (F.S.lo f I)
    have K:=lD (F.S.hi f I)
    refine⟨_,bs rfl V,a.set (by decide),⟨(F.S.wo I (-1)).same (λg hg=>?_) λZ Z=>rfl,(aH j.1).trans F.c,(aH j.2).trans F.d,(aH (dc K)).trans F.r,F.b,F.z⟩,x'.trans (Ext.put (aE (cy B 2) (F.S.lo f I))),n',λi w=>(aH (dc (rK K w))).trans (o' i w)⟩
    unfold eW
    by_cases e:g=f
    .exact aa (if_pos e ..)<|aa (if_pos (d0 _ (List.mem_singleton.mpr e)) ..) rfl
    .exact aa (if_neg e ..)<|ite_congr (propext ⟨λh=>(List.mem_append.mp h).resolve_right λq=>e (List.mem_singleton.mp q),jY _⟩) (λZ=>rfl) λZ=>rfl) (λae ab k=>⟨rfl,k⟩) λo M aX y W=>?_
 refine wO W λs n G x2 n2 o2=>?_
 subst s
 let A:=aX.put R (.list [])
 have D:=gI H.b
 have V:(MB.val (.is (.ax (aV 273 "_ready_nodes") (.var "self")) .none_)) ρ σ=some (false,σ):=cz (aJ (d:=.ref R) (e:=.none) (cO (av rfl) H.c rfl) rfl (if_pos rfl))
 have P:∀ab,(ME.var "self") M ab=some (.ref B,ab):=λab=>av (n "self" (by decide))
 have C:∀ab,(ME.var "result") M ab=some (.tup (l.map aB),ab):=λab=>av (n "result" (by decide))
 have O:A.cell B=some (jS B (.ref R) p q):=(aH D.1).trans G.c
 have Q:(ME.ax oA (.ax (aV 273 "_ready_nodes") (.var "self"))) M aX=some (.none,A):=uO (cO (P _) G.c rfl) (bs (oz G.r) rfl)
 have E:=HK (k:=273) (name:="_npassedout") (f:=kT) (me:=.ax bW (.var "result")) (x:=.int p) (v:=iD l.length) (z:=.int (p+l.length)) (P A) O (zr rfl) rfl (eD (C A) (by show some (iD (l.map aB).length)=_;exact aa (aZ ..) rfl)) rfl
 refine⟨A.put B (jS B (.ref R) (p+l.length) q),fx rfl (aK (d_ V rfl) (aK (bt (eD (cO (av rfl) H.c rfl) (bs (iC H.r) rfl))) (aK (bt (cO (av rfl) H.c rfl)) (aK y (aK (il Q) (aK E (fC (C _)))))))),
  ⟨G.S.keep λi N J=>(aH (Ne.symm (gI N).1)).trans (aH (bj J)),cb,(aH (pT B)).trans ((aH D.2).trans G.d),(aH D.1.symm).trans cb,H.b,fW _⟩,x2.trans ⟨bb _,λi w=>(aH (bj w)).trans (aH (bj (a9 w (aE (cy B 2) H.b))))⟩,n2,λi w=>?_⟩
 exact(aH (dc (ee (aE (cy B 2) H.b) w))).trans ((aH (dc w)).trans (o2 i w))
theorem LY{σ:MH}{B R ns ci np sc l p q}(H:fv σ B R ns ci np sc l p q):nP [.ref B] σ=some (.bool (decide (q<p)|| !l.isEmpty),σ):=by
 let ρ:=c_ [("self",.ref B)]
 have V:(MB.val (.is (.ax (aV 273 "_ready_nodes") (.var "self")) .none_)) ρ σ=some (false,σ):=cz (aJ (d:=.ref R) (e:=.none) (cO (av rfl) H.c rfl) rfl (if_pos rfl))
 have Q:(ME.or (.lt (.ax (aV 273 "_nfinished") (.var "self")) (.ax (aV 273 "_npassedout") (.var "self"))) (.ax yt (.ax (aV 273 "_ready_nodes") (.var "self")))) ρ σ=some (.bool (decide (q<p)|| !l.isEmpty),σ):=by
  refine bs (a:=(.bool (decide (q<p)),σ)) (aJ (d:=.int q) (e:=.int p) (cO (av rfl) H.c rfl) (cO (av rfl) H.c rfl) rfl) (bs (a:=decide (q<p)) rfl ?_)
  induction decide (q<p) with
  | true=>rfl
  | false=>
   refine eD (cO (av rfl) H.c rfl) ?_
   unfold ux
   refine aa (iC H.r ..) ?_
   induction l<;>rfl
 exact fx rfl (aK (d_ V rfl) (fC Q))
theorem Oh{σ:MH}{B R ns ci np sc y p q}{f:List Nat}(H:fv σ B R ns ci np sc y p q)(I:f∈ns)(hn:np f= -1)(hs:∀g∈sc f,g∈ns/\g≠f/\np g=1)(hd:(sc f).Nodup)(hz:y.length+(sc f).length<=1000):
 ∃ab,pF [.ref B,aB f] σ=some (.none,ab)/\fv ab B R ns ci (λg=>if g=f then -2 else if g∈sc f then 0 else np g) sc (y++sc f) p (q+1)/\Ext B σ ab/\ab.next=σ.next/\∀i,R<i->ab.cell i=σ.cell i:=by
 let ρ:=c_ [("self",.ref B),("nodes",.tup [aB f])]
 let bw:=(ρ.set "n2i" (.ref (B+1))).set "node" (aB f)
 let M:=bw.set "nodeinfo" (bV ci f)
 let n:=M.set "stat" (.int (-1))
 have w:=H.S.inf f I
 have V:=gI H.b
 have N:=gI (H.S.lo f I)
 have K:=lD (H.S.hi f I)
 have eg:(ME.dB mV p_ (.var "n2i") (.var "node")) bw σ=some (bV ci f,σ):=
  j_ (av rfl) (by unfold mV;exact aa (Ds H.d ..) rfl) (av rfl) (Ay (bs (Ds H.d) (bs (a:=aR f) rfl (congrArg some (by exact aa (h7 H.S.cG I ..) rfl)))))
 have es:(ME.ax (eY 176 1) (.var "nodeinfo")) M σ=some (.int (-1),σ):=oF (av rfl) w (congrArg (λi=>some (D.int i)) hn)
 let ao:=σ.put (ci f) (lX f (-2) (ci f+1))
 have e1:=eo (t:=.slot 176 1 (.var "nodeinfo")) (m:=.int (-2)) (d:=.int (-2)) (ρ:=n) (σ:=σ) (ae:=n) (ab:=ao) rfl (tx rfl w)
 have o:fv ao B R ns ci (eW np f (-2)) sc y p q:=⟨H.S.wo I (-2),(aH N.1).trans H.c,(aH N.2).trans H.d,(aH (dc K)).trans H.r,H.b,H.z⟩
 let O:MS:=.cons (.assign (.name "successor_info") (.idx (.var "n2i") (.var "successor"))) (.cons (.lH 176 1 u7 (.var "successor_info") (.int 1)) (.ite (.val (.eq (.ax (eY 176 1) (.var "successor_info")) (.int 0))) (.expr (.dB eh fK (.ax (aV 273 "_ready_nodes") (.var "self")) (.var "successor"))) .nil))
 refine jO (sc f) aB (mi:=.of (.ax (eY 176 2) (.var "nodeinfo"))) (t:=.name "successor") (body:=O) (ρ:=n) (σ:=ao)
  (λL ae ab=>Agree ["successor","successor_info"] n ae/\fv ab B R ns ci (λg=>if g=f then -2 else if g∈L then 0 else np g) sc (y++L) p q/\Ext B ao ab/\ab.next=σ.next/\∀i,R<i->ab.cell i=ao.cell i)
  (λfl ae ab=>fl=.next/\Agree ["successor","successor_info"] n ae/\fv ab B R ns ci (λg=>if g=f then -2 else if g∈sc f then 0 else np g) sc (y++sc f) p q/\Ext B ao ab/\ab.next=σ.next/\∀i,R<i->ab.cell i=ao.cell i)
  (sm (oF (av rfl) (o.S.inf f I) rfl) (o.S.iQ f I)) (λZ Z ab Z hI=>rQ (hI.2.1.S.iQ f I)) ⟨λZ Z=>rfl,by
    have:(λg=>if g=f then (-2:Int) else if g∈([]:List (List Nat)) then 0 else np g)=eW np f (-2):=funext λg=>ite_congr rfl (λZ=>rfl) λZ=>if_neg bQ
    exact aa (this ..)<|aa (hW ..)<|o,Ext.refl,rfl,λZ Z=>rfl⟩
  (λL g T ae ab X km=>l9 km λhA F x' n' o'=>by
    have hg:=X▸d0 L (a0 (a:=g) (l:=T))
    refine bP (hs g hg) λC g2 g3=>?_
    have PM:g∉L:=λq=>by
     rw [X] at hd
     exact(List.nodup_append.mp hd).2.2 g q g a0 rfl
    have gi:=F.S.inf g C
    rw [if_neg g2,if_neg PM,g3] at gi
    have zq:=gI (F.S.lo g C)
    have E:=lD (F.S.hi g C)
    let Q:=ae.set "successor" (aB g)
    let A:=Q.set "successor_info" (bV ci g)
    have J:Agree ["successor","successor_info"] n A:=(hA.set (by decide)).set (by decide)
    have Y:(ME.idx (.var "n2i") (.var "successor")) Q ab=some (bV ci g,ab):=aJ (d:=.ref (B+1)) (e:=aB g) (av ((if_neg (by decide)).trans (hA "n2i" (by decide)))) rfl ((sr F.d rfl rfl).trans (h7 F.S.cG C))
    let s:=ab.put (ci g) (lX g 0 (ci g+1))
    have e2:=HL (k:=176) (j:=1) (f:=u7) (mo:=.var "successor_info") (me:=.int 1) (ρ:=A) (σ:=ab) (x:=.int 1) (v:=.int 1) (z:=.int 0) rfl gi rfl rfl rfl
    have W:s.cell (ci g)=some (lX g 0 (ci g+1)):=cb
    have e3:(MB.val (.eq (.ax (eY 176 1) (.var "successor_info")) (.int 0))) A s=some (true,s):=cz (aJ (oF (av rfl) W rfl) rfl (ji (p:=.int 0) (q:=.int 0) rfl rfl))
    have ca:s.cell B=some (jS B (.ref R) p q):=(aH zq.1).trans F.c
    have ra:s.cell R=some (.list ((y++L).map aB)):=(aH (dc E)).trans F.r
    have P:(y++L).length+1<=1000:=by
     rw [X,bF,gM] at hz
     refine aa (bF ..) ?_;lia
    have e4:(ME.dB eh fK (.ax (aV 273 "_ready_nodes") (.var "self")) (.var "successor")) A s=some (.none,s.put R (.list ((y++(L++ [g])).map aB))):=
     (j_ (cO (av (J "self" (by decide))) ca rfl) (mW ra) (av (d:=aB g) rfl) (pY ra (by exact aa (aZ ..)<|Nat.lt_of_lt_of_le P (by decide)))).trans (congrArg (λl=>some (D.none,s.put R (.list l))) (by exact aa (.symm (iW ..))<|aa (ey (l₁:=y++L) ..) rfl))
    refine⟨_,bs rfl (aK (bt Y) (aK e2 (iO e3 (il e4)))),J,⟨?_,(aH V.1).trans ca,(aH V.2).trans ((aH zq.2).trans F.d),cb,F.b,by exact aa (.symm (iW ..))<|aa (bF ..)<|P⟩,(x'.trans (Ext.put (aE (cy B 2) (F.S.lo g C)))).trans (Ext.put (aE (cy B 2) F.b)),n',λi w=>(aH (dc w)).trans ((aH (dc (rK E w))).trans (o' i w))⟩
    refine((F.S.wo C 0).same (λh hh=>?_) λZ Z=>rfl).keep λi Z w=>aH (bj w)
    show(if h=f then (-2:Int) else if h∈L++ [g] then 0 else np h)=(if h=g then (0:Int) else (if h=f then -2 else if h∈L then 0 else np h))
    by_cases e:h=f
    .exact aa (if_pos e ..)<|aa (if_neg (λq=>g2 (q.symm.trans e)) ..)<|aa (if_pos e ..) rfl
    .refine aa (if_neg e ..) ?_
     by_cases U:h=g
     .exact aa (if_pos U ..)<|aa (if_pos (d0 _ (List.mem_singleton.mpr U)) ..) rfl
     .exact aa (if_neg U ..)<|aa (if_neg e ..)<|ite_congr (propext ⟨λk=>(List.mem_append.mp k).resolve_right λq=>U (List.mem_singleton.mp q),jY _⟩) (λZ=>rfl) λZ=>rfl) (λae ab k=>⟨rfl,k⟩) λfl u aX hq hQ=>?_
 refine wO hQ λe0 Qp G x2 n2 o2=>?_
 subst e0
 have e5:(MB.val (.is (.ax (aV 273 "_ready_nodes") (.var "self")) .none_)) ρ σ=some (false,σ):=cz (aJ (d:=.ref R) (e:=.none) (cO (av rfl) H.c rfl) rfl (if_pos rfl))
 have e6:=HK (k:=273) (name:="_nfinished") (f:=kT) (mo:=.var "self") (me:=.int 1) (ρ:=u) (σ:=aX) (x:=.int q) (v:=.int 1) (z:=.int (q+1)) (av (Qp "self" (by decide))) G.c (zr rfl) rfl rfl rfl
 have e7:(MB.val (.ne (.var "stat") (.int (-1)))) n σ=some (false,σ):=cz (aJ (d:=.int (-1)) (e:=.int (-1)) rfl rfl rfl)
 refine⟨aX.put B (jS B (.ref R) p (q+1)),oJ (ae:=u) rfl (aK (d_ e5 rfl) (aK (bt (cO (av rfl) H.c rfl)) (bs (a:=(fj (.tup [aB f]),2,σ)) rfl (r9 rfl (bs (a:=(bw,σ)) rfl (aK (bs eg rfl) (aK (bt es) (aK (d_ e7 rfl) (aK e1 (aK hq e6)))))) rfl)))),
  ⟨G.S.keep λi h1 Z=>aH (Ne.symm (gI h1).1),cb,(aH (pT B)).trans G.d,(aH V.1.symm).trans G.r,H.b,G.z⟩,((Ext.put (aE (cy B 2) (H.S.lo f I))).trans x2).trans (Ext.put (bb _)),n2,λi w=>?_⟩
 exact(aH (dc (ee (aE (cy B 2) H.b) w))).trans ((o2 i w).trans (aH (dc (rK K w))))
noncomputable def eG (tl:List (List Nat)) (p:List Nat):List (List Nat):=tl.filter λf=>f.dropLast==p
structure nR(tl:List (List Nat)):Prop where
 cG:dZ tl
 nd:tl.Nodup
 ne:∀f∈tl,f≠ []
 par:∀f∈tl,f.dropLast= []∨f.dropLast∈tl
 z:tl.length<=18
theorem V6(σ:MH):∃ab,pv [] σ=some (.ref σ.next,ab)/\iA ab σ.next [] (λZ=>0) (λZ=>0) (λZ=>[])/\Ext σ.next σ ab:=by
 let N:=σ.next
 let ρ:=c_ [("self",.ref N),("graph",.none)]
 have P:∀ab,(ME.var "self") ρ ab=some (.ref N,ab):=λZ=>rfl
 have u:N≠N+1:=bj (cw _)
 let aW:=(σ.new (.inst 273 [])).new (.dict [])
 let ao:=aW.put N (.inst 273 [("_node2info",.ref (N+1))])
 let aX:=ao.put N (.inst 273 [("_node2info",.ref (N+1)),("_ready_nodes",.none)])
 let A:=aX.put N (.inst 273 [("_node2info",.ref (N+1)),("_ready_nodes",.none),("_npassedout",.int 0)])
 let H:=A.put N (jS N .none 0 0)
 have e:xh [.ref N] (σ.new (.inst 273 []))=some (.none,H):=
  oJ (ae:=ρ) rfl (aK (eo (h8 (c:=.dict []) rfl) (iq (P _) ((fk u).trans gq) (zr rfl))) (aK (eo (d:=.none) rfl (iq (P _) cb (zr rfl))) (aK (eo (d:=.int 0) rfl (iq (P _) cb (zr rfl)))
   (aK (eo (d:=.int 0) rfl (iq (P _) cb (zr rfl))) (d_ (cz (aJ (d:=.none) (e:=.none) rfl rfl (if_pos rfl))) rfl)))))
 refine⟨H,bs e (if_pos rfl),⟨⟨λf h=>absurd h bQ,λf h=>absurd h bQ,λf h=>absurd h bQ,λf h=>absurd h bQ,λf h=>absurd h bQ,λf h=>absurd h bQ,λf h=>absurd h bQ⟩,cb,?_,bb _,λZ Z=>⟨rfl,rfl⟩,fW _⟩,cy _ 2,λi w=>?_⟩
 .exact(aH u.symm).trans ((aH u.symm).trans ((aH u.symm).trans ((aH u.symm).trans (gq (σ:=σ.new (.inst 273 []))))))
 .have h:=bj w
  exact(aH h).trans ((aH h).trans ((aH h).trans ((aH h).trans ((fk (bj (fG w))).trans (fk h)))))
theorem L8{σ:MH}{B:Nat}{ρ:aC}{ci}{tl:List (List Nat)}(T:nR tl)(H:iA σ B [[]] ci (λZ=>0) (λZ=>[]))(h1:ρ "sorter" =some (.ref B))(h2:ρ "folders" =some (.list (([]::tl).map aB))):
 ∃ae ab m rest,MS.cD (.of (.slice (.var "folders") (some (.int 1)) .none)) (.name "folder") (.expr (.dC 273 "add" jr (.var "sorter") (aG [(.var "folder"),(.a8 fm (aG [(.var "folder")]))]))) ρ σ=some (.next,ae,ab)/\Agree ["folder"] ρ ae/\
  iA ab B ([]::rest) m (λf=>if f∈tl then 1 else 0) (eG tl)/\(∀f,f∈rest↔f∈tl)/\rest.length<=2*tl.length/\Ext B σ ab:=by
 have K:(ME.slice (.var "folders") (some (.int 1)) .none) ρ σ=some (.list (tl.map aB),σ):=kc (xs:=([]::tl).map aB) (l:=some 1) (u:=none) (av h2) rfl (D3 rfl) rfl rfl|>.trans (congrArg (λl=>some (D.list l,σ)) (A5 (c:=1) (xs:=([]::tl).map aB) (ub 1 _)))
 refine jO tl aB (mi:=.of (.slice (.var "folders") (some (.int 1)) .none)) (t:=.name "folder") (body:=.expr (.dC 273 "add" jr (.var "sorter") (aG [(.var "folder"),(.a8 fm (aG [(.var "folder")]))]))) (ρ:=ρ) (σ:=σ)
  (λL ae ab=>Agree ["folder"] ρ ae/\∃m rest,iA ab B ([]::rest) m (λf=>if f∈L then 1 else 0) (eG L)/\(∀f∈rest,f∈tl)/\(∀f∈L,f∈rest)/\rest.length<=2*L.length/\Ext B σ ab)
  (λo ae ab=>o=.next/\Agree ["folder"] ρ ae/\∃m rest,iA ab B ([]::rest) m (λf=>if f∈tl then 1 else 0) (eG tl)/\(∀f∈rest,f∈tl)/\(∀f∈tl,f∈rest)/\rest.length<=2*tl.length/\Ext B σ ab)
  (cU K) (λZ Z Z Z Z=>rfl) ⟨λZ Z=>rfl,ci,[],by
    have:(λf=>if f∈([]:List (List Nat)) then (1:Int) else 0)=λZ=>0:=funext λf=>if_neg bQ
    exact aa (this ..)<|H,λf h=>absurd h bQ,λf h=>absurd h bQ,bb _,Ext.refl⟩
  (λL f R ae ab M Q=>aA Q λy j=>tI j λm rest s N v G P=>by
    have I:f∈tl:=M▸d0 _ a0
    have U:=T.cG f I
    have Ya:L.length+(R.length+1)=tl.length:=by exact aa (M ..)<|aa (bF ..) rfl
    have hz:=T.z
    refine eQ (L4 s U (Hk U) (by refine aa (gM ..) ?_;lia) (aE (iX ..) (by lia))) λV r e1 b S=>?_
    have E:f∉L:=λq=>by
     have:=T.nd
     rw [M] at this
     exact(List.nodup_append.mp this).2.2 f q f a0 rfl
    have e2:eW (λf=>if f∈L then (1:Int) else 0) f ((if f∈L then (1:Int) else 0)+1)=λg=>if g∈L++ [f] then 1 else 0:=funext λg=>by
     delta eW
     by_cases e:g=f
     .exact aa (if_pos e ..)<|aa (if_neg E ..)<|aa (if_pos (d0 _ (List.mem_singleton.mpr e)) ..) rfl
     .exact aa (if_neg e ..)<|ite_congr (propext ⟨jY _,λh=>(List.mem_append.mp h).resolve_right λq=>e (List.mem_singleton.mp q)⟩) (λZ=>rfl) λZ=>rfl
    have e3:eW (eG L) f.dropLast (eG L f.dropLast++ [f])=eG (L++ [f]):=funext λg=>by
     delta eW eG
     refine aa (List.filter_append ..) ?_
     by_cases e:g=f.dropLast
     .exact aa (if_pos e ..)<|aa (e ..)<|aa (nY ..)<|aa (if_pos (beq_self_eq_true _) ..) rfl
     .exact aa (if_neg e ..)<|aa (nY ..)<|aa (if_neg (λq=>e (eq_of_beq q).symm) ..)<|(hW _).symm
    rw [e2,e3] at b
    have add:∀rest g,(∀f∈rest,f∈tl)->(g= []∨g∈tl)->∃a,addW ([]::rest) g= []::a/\(∀f∈a,f∈tl)/\(∀f∈rest,f∈a)/\(g≠ []->g∈a)/\a.length<=rest.length+1:=λrest g h p=>by
     delta addW
     by_cases A:g∈ []::rest
     .exact⟨rest,if_pos A,h,λZ=>id,λJ=>(List.mem_cons.mp A).resolve_left J,dD _⟩
     .refine⟨rest++ [g],if_neg A,λf I=>(List.mem_append.mp I).elim (h f) λe=>?_,λf I=>jY _ I,λZ=>d0 _ a0,by exact aa (bF ..)<|Nat.le_refl _⟩
      exact aa (List.mem_singleton.mp e ..)<|p.resolve_left λe=>A (e▸a0)
    refine lg (add rest f N (.inr I)) λr1 W n X Y a5=>?_
    refine lg (add r1 f.dropLast n (T.par f I)) λw b1 b2 x b4 b5=>?_
    rw [W,b1] at b
    have ed:(ME.a8 fm (aG [(.var "folder")])) (ae.set "folder" (aB f)) ab=some (aB f.dropLast,ab):=d8 (aS (d:=aB f) rfl bA) ((gm U).dir ab)
    have O:(ae.set "folder" (aB f)) "sorter" =some (.ref B):=(if_neg (by decide)).trans ((y "sorter" (by decide)).trans h1)
    refine⟨_,bs rfl (il (jC (C:=273) (name:="add") (F:=jr) (mo:=.var "sorter") (i:=B) (av O) s.c rfl (aS (d:=aB f) rfl (aS ed bA)) e1)),y.set (by decide),r,w,b,b2,λg p=>?_,by refine aa (bF ..) ?_;show w.length<=2*(L.length+1);lia,P.trans S⟩
    rcases List.mem_append.mp p with p| p
    .exact x g (X g (v g p))
    .exact aa (List.mem_singleton.mp p ..)<|x f (Y (T.ne f I))) (λae ab k=>⟨rfl,k⟩) λo ae ab hq hQ=>?_
 refine bP hQ λe0 y q=>?_
 refine tI q λm rest s N v G P=>?_
 subst e0
 exact⟨ae,ab,m,rest,hq,y,s,λf=>⟨N f,v f⟩,G,P⟩
theorem Vl{σ:MH}{ρ:aC}{tl:List (List Nat)}(T:nR tl)(M:ρ "folders" =some (.list (([]::tl).map aB))):
 ∃ae ab R ci rest,(∀(y:MS) r,y ae ab=some r->MS.cons (.assign (.name "sorter") (.call pv [])) (.cons (.expr (.dC 273 "add" jr (.var "sorter") (aG [(.str "/")]))) (.cons (.cD (.of (.slice (.var "folders") (some (.int 1)) .none)) (.name "folder") (.expr (.dC 273 "add" jr (.var "sorter") (aG [(.var "folder"),(.a8 fm (aG [(.var "folder")]))])))) (.cons (.expr (.dC 273 "prepare" pG (.var "sorter") (aG []))) y))) ρ σ=some r)/\
  Agree ["sorter","folder"] ρ ae/\ae "sorter" =some (.ref σ.next)/\fv ab σ.next R ([]::rest) ci (λf=>if f∈tl then 1 else 0) (eG tl) [[]] 0 0/\(∀f,f∈rest↔f∈tl)/\Ext σ.next σ ab/\R+1<=ab.next:=by
 refine bI (V6 σ) λao V o b=>?_
 let B:=σ.next
 let bw:=ρ.set "sorter" (.ref B)
 refine eQ (L3 o (f:=[]) (by decide) (by decide) rfl) λaX w Q G p=>?_
 refine IW (L8 (ρ:=bw) T G (if_pos rfl) ((if_neg (by decide)).trans M)) λv A n rest E a e m J l=>?_
 have K:v "sorter" =some (.ref B):=(a "sorter" (by decide)).trans (if_pos rfl)
 have U:=T.z
 obtain⟨H,S,j,x,L⟩:=Ui e (by refine aa (gM ..) ?_;lia) (λf Z=>aE (iX ..) (by lia)) (λf Z g u=>by
  have:=List.mem_filter.mp u
  have t:=this.1
  have k:g.dropLast=f:=eq_of_beq this.2
  refine⟨bT _ ((m g).mpr t),?_⟩
  exact aa (.symm (k ..))<|aa (lz ..)<|Nat.sub_lt (List.length_pos_iff.mpr (T.ne g t)) (by decide))
 have I:(([]:List Nat)::rest).filter (λf=>(if f∈tl then (1:Int) else 0)==0)= [[]]:=by
  refine aa (nY ..)<|aa (if_pos (by rw [if_neg λh=>T.ne [] h rfl];rfl)) ?_
  refine congrArg (List.cons []) (List.filter_eq_nil_iff.mpr λf I=>?_)
  refine aa (if_pos ((m f).mp I) ..) ?_;decide
 rw [I] at j
 refine⟨v,H,A.next,n,rest,λy r h=>aK (bt (d8 (F:=pv) (ds:=[]) rfl V)) (aK (il (jC (C:=273) (name:="add") (F:=jr) (mo:=.var "sorter") (i:=B) (av (if_pos rfl)) o.c rfl (aS (d:=aB []) (congrArg (λs=>some (D.str s,ao)) (show au "/" =aR [] by decide)) bA) Q)) (aK E (aK (il (jC (C:=273) (name:="prepare") (F:=pG) (mo:=.var "sorter") (g:=aG []) (i:=B) (av K) e.c rfl bA S)) h))),
  λz J=>(a z λq=>J (bT _ q)).trans (if_neg (c:=z= "sorter") λq=>J (by exact aa (q ..)<|List.mem_cons_self)),K,j,m,((b.trans p).trans l).trans x,L⟩
section
noncomputable def ck (tl dn:List (List Nat)):List (List Nat):=match dn.getLast? with| none=>[[]]| some f=>eG tl f
theorem o8{tl dn f}:ck tl (dn++ [f])=eG tl f:=by unfold ck;exact aa (KH ..) rfl
noncomputable def g5 (tl dn:List (List Nat)):List (List (List Nat)):=(dv dn.length).map λk=>ck tl (dn.take k)
theorem De{tl dn f}:g5 tl (dn++ [f])=g5 tl dn++ [ck tl dn]:=by
 unfold g5
 refine aa (bF ..)<|aa (xv ..)<|aa (Cv ..)<|aa (ey ..)<|aa (xy ..)<|aa (KY ..) ?_
 refine congrArg (· ++_) (kD λk C=>?_)
 exact aa (KX (jy (List.mem_range.mp C)) ..) rfl
structure Ord(tl dn bK:List (List Nat)):Prop where
 sub:∀f∈dn,f∈ []::tl
 nd:dn.Nodup
 cl:∀f∈dn,f= []∨f.dropLast∈dn
 hd:dn≠ []->dn.head?=some []
 nx:∀f∈ck tl dn,f∈ []::tl/\(f= []∨f.dropLast∈dn)/\f∉dn
 rd:∀f,f∈bK++ck tl dn↔(f∈ []::tl/\(f= []∨f.dropLast∈dn)/\f∉dn)
 rn:(bK++ck tl dn).Nodup
section
variable {tl dn bK:List (List Nat)} {f:List Nat}
theorem vL{g:List Nat}:g∈eG tl f↔g∈tl/\g.dropLast=f:=by unfold eG;rw [xA,beq_iff_eq]
theorem Ord.init:Ord tl [] [] where
 sub _ h:=absurd h bQ
 nd:=rG
 cl _ h:=absurd h bQ
 hd h:=absurd rfl h
 nx f h:=⟨(List.mem_singleton.mp h)▸a0,.inl (List.mem_singleton.mp h),bQ⟩
 rd f:=⟨λh=>⟨(List.mem_singleton.mp h)▸a0,.inl (List.mem_singleton.mp h),bQ⟩,λh=>List.mem_singleton.mpr (h.2.1.resolve_right bQ)⟩
 rn:=List.nodup_cons.mpr ⟨bQ,rG⟩
theorem Ord.step(T:nR tl)(O:Ord tl dn bK)(I:f∈bK++ck tl dn):Ord tl (dn++ [f]) ((bK++ck tl dn).filter λg=> !(g==f)):=by
 refine bP ((O.rd f).mp I) λr v C=>?_
 have s:∀g,g∈dn++ [f]↔g∈dn∨g=f:=λg=>by rw [n4,pO]
 have l:∀g∈eG tl f,g∈tl/\g.dropLast=f/\g≠ []/\g∉dn/\g≠f:=λg u=>by
  refine aA (vL.mp u) λc i=>?_
  have B:=T.ne g c
  refine⟨c,i,B,λq=>?_,λq=>?_⟩
  .exact C (i▸(O.cl g q).resolve_left B)
  .have:=congrArg pN i
   rw [lz,q] at this
   have H:0<f.length:=q▸List.length_pos_iff.mpr B
   lia
 have d:∀g,g∈(bK++ck tl dn).filter (λg=> !(g==f))↔g∈bK++ck tl dn/\g≠f:=λg=>by
  rw [xA,pn,beq_eq_false_iff_ne]
 refine⟨λg u=>((s g).mp u).elim (O.sub g) λe=>e▸r,?_,λg u=>?_,λZ=>?_,λg u=>?_,λg=>?_,?_⟩
 .exact List.nodup_append.mpr ⟨O.nd,List.nodup_cons.mpr ⟨bQ,rG⟩,λa K b hb e=>C (by rw [List.mem_singleton.mp hb] at e;exact e▸K)⟩
 .rcases (s g).mp u with h| rfl
  .exact(O.cl g h).imp id λh=>(s _).mpr (.inl h)
  .exact v.imp id λh=>(s _).mpr (.inl h)
 .induction P:dn with
  | nil=>rw [P] at v;exact aa (v.resolve_right bQ ..) rfl
  | cons x xs=>exact(show(x::xs).head?=_ from P▸O.hd (by exact aa (P ..)<|List.cons_ne_nil _ _))
 .rw [o8] at u
  refine l9 (l g u) λc i B n t=>?_
  exact⟨bT _ c,.inr (i▸(s _).mpr (.inr rfl)),λq=>((s g).mp q).elim n t⟩
 .rw [o8,n4,d,O.rd g,vL]
  constructor
  .rintro (⟨⟨N,E,A⟩,o⟩| h)
   .exact⟨N,E.imp id λh=>(s _).mpr (.inl h),λq=>((s g).mp q).elim A o⟩
   .refine l9 (l g (vL.mpr h)) λc i B n t=>?_
    exact⟨bT _ c,.inr ((s _).mpr (.inr i)),λq=>((s g).mp q).elim n t⟩
  .rintro ⟨N,E,A⟩
   have m:g∉dn:=λq=>A ((s g).mpr (.inl q))
   have j:g≠f:=λq=>A ((s g).mpr (.inr q))
   rcases E with rfl| E
   .exact .inl ⟨⟨N,.inl rfl,m⟩,j⟩
   .rcases (s _).mp E with E| E
    .exact .inl ⟨⟨N,.inr E,m⟩,j⟩
    .rcases List.mem_cons.mp N with rfl| N
     .exact .inl ⟨⟨a0,.inl rfl,m⟩,j⟩
     .exact .inr ⟨N,E⟩
 .refine aa (o8 ..) ?_
  refine List.nodup_append.mpr ⟨O.rn.filter _,T.nd.filter _,λa K b hb e=>?_⟩
  subst e
  have K:=(O.rd a).mp ((d a).mp K).1
  refine l9 (l a hb) λc i B n t=>?_
  exact C (i▸K.2.1.resolve_left B)
theorem Ord.more(T:nR tl)(O:Ord tl dn bK)(h:dn.length<tl.length+1):bK++ck tl dn≠ []:=by
 have G:([]::tl).Nodup:=List.nodup_cons.mpr ⟨λq=>T.ne [] q rfl,T.nd⟩
 have D:∃f,f∈ []::tl/\f∉dn:=by
  refine w_ λk=>?_
  have:=rx G λf I=>w_ λq=>k ⟨f,I,q⟩
  exact absurd h (Nat.not_lt.mpr this)
 have F:∀(n:Nat) (f:List Nat),f.length<=n->f∈ []::tl->f∉dn->∃g,g∈bK++ck tl dn:=by
  intro n
  induction n with
  | zero=>exact λf hl I P=>⟨f,(O.rd f).mpr ⟨I,.inl (t7 (Nat.le_zero.mp hl)),P⟩⟩
  | succ n S=>
   intro f hl I P
   by_cases e:f= []
   .exact⟨f,(O.rd f).mpr ⟨I,.inl e,P⟩⟩
   .by_cases Z:f.dropLast∈dn
    .exact⟨f,(O.rd f).mpr ⟨I,.inr Z,P⟩⟩
    .refine S f.dropLast (by refine aa (lz ..) ?_;lia) ?_ Z
     exact(T.par f ((List.mem_cons.mp I).resolve_left e)).elim (λq=>q▸a0) (bT _)
 refine aw D λf N E=>?_
 refine aL (F _ f (bb _) N E) λg u=>?_
 exact List.ne_nil_of_mem u
theorem Ord.all(O:Ord tl dn bK)(h:dn.length=tl.length+1):bK= []/\ck tl dn= []/\∀f,f∈ []::tl->f∈dn:=by
 have K:∀f,f∈ []::tl->f∈dn:=λf I=>w_ λq=>by
  have:=rx (List.nodup_cons.mpr ⟨q,O.nd⟩) (l₂:=[]::tl) λg u=>(List.mem_cons.mp u).elim (λe=>e▸I) (O.sub g)
  rw [gM,h] at this
  exact absurd this (Nat.not_succ_le_self _)
 have:bK++ck tl dn= []:=List.eq_nil_iff_forall_not_mem.mpr λf I=>by
  refine bP ((O.rd f).mp I) λN Z A=>?_
  exact A (K f N)
 exact⟨(List.append_eq_nil_iff.mp this).1,(List.append_eq_nil_iff.mp this).2,K⟩
theorem OO{α:Type} [BEq α] [LawfulBEq α]{l:List α}{a:α}(h:l.Nodup)(K:a∈l):(l.filter λb=> !(b==a)).length+1=l.length:=by
 induction l with
 | nil=>exact absurd K bQ
 | cons x l S=>
  refine aA (List.nodup_cons.mp h) λN E=>?_
  refine aa (nY ..) ?_
  by_cases e:x=a
  .refine aa (e ..)<|aa (beq_self_eq_true ..) ?_
   have:l.filter (λb=> !(b==a))=l:=List.filter_eq_self.mpr λb hb=>by
    rw [pn,beq_eq_false_iff_ne];exact λq=>N (by exact aa (e ..)<|aa (.symm (q ..))<|hb)
   exact aa (if_neg (by decide))<|aa (this ..) rfl
  .exact aa (if_pos (by rw [pn,beq_eq_false_iff_ne];exact e))<|aa (gM ..)<|aa (S E ((List.mem_cons.mp K).resolve_left (Ne.symm e)) ..) rfl
end
theorem Bu{f:List Nat}(h:f≠ []):cP f=cP f.dropLast++ [f]:=by
 refine aa (Bs ..) ?_
 refine congrArg (· ++ [f]) ?_
 unfold cP
 have T:=List.length_pos_iff.mpr h
 refine aa (lz ..)<|aa (xK T ..) ?_
 refine kD λc O=>?_
 have:=List.mem_range.mp O
 exact aa (xr ..)<|aa (Cz ..)<|aa (ud (by lia)) rfl
theorem So{ps:List Pl}(H:ps≠ [])(h:∀p∈ps,p.Ok):(eL ps).Ok:=by
 refine ew (pM H) λp g B=>?_;obtain rfl:=B
 have T:=h p a0
 exact⟨λa K=>T.ag a (List.mem_filter.mp K).1,aE (iX ..) T.al⟩
theorem SF{ps:List Pl}(h:∀p∈ps,p.ms.length<=20):(ps.flatMap Pl.ms).length<=20*ps.length:=by
 induction ps with
 | nil=>exact bb _
 | cons p ps S=>
  refine aa (nZ ..)<|aa (bF ..)<|aa (gM ..) ?_
  have:=h p a0
  have:=S λq y=>h q (bT _ y)
  lia
end
section
noncomputable def p6 (dn:List (List Nat)):List (List Nat):=if dn= [] then [[]] else dn
structure lG(tl:List (List Nat))(pl:List Nat->Pl)(N0:Nat):Prop where
 T:nR tl
 ok:∀f∈ []::tl,(pl f).Ok
 ms:∀f∈ []::tl,(pl f).ms.length<=20
structure WR(tl:List (List Nat))(pl:List Nat->Pl)(oi:List Nat->Nat)(lc:Nat->Nat)(N0 A:Nat)(aW:MH)(d7 dw:List (List Nat))(ki:List Nat->Nat)(wi:Nat)(σ:MH):Prop where
 kd:σ.cell (A+2)=some (.dict (dk (bV ki) d7))
 k0: []∈d7->ki []=oi []
 k1:∀f∈d7,f≠ []->Rec σ lc (A+3) σ.next (ki f) (eL ((cP f).map pl))
 wr:Rec σ lc (A+3) σ.next wi (eL ((p6 dw).map pl))∨(wi=oi []/\p6 dw= [[]])
 ow:∀f∈ []::tl,Rec σ lc 0 N0 (oi f) (pl f)
 old:∀i,i<N0->σ.cell i=aW.cell i
 nx:A+3<=σ.next
 n0:N0<=A
section
variable {tl:List (List Nat)} {pl:List Nat->Pl} {oi:List Nat->Nat} {lc:Nat->Nat} {N0 A:Nat} {aW:MH} {d7 dw:List (List Nat)} {ki:List Nat->Nat} {wi:Nat} {σ ab:MH} {f:List Nat}
theorem WR.keep(H:WR tl pl oi lc N0 A aW d7 dw ki wi σ)(h:∀i,(i<N0∨A+2<=i)->i<σ.next->ab.cell i=σ.cell i)(G:σ.next<=ab.next):WR tl pl oi lc N0 A aW d7 dw ki wi ab:=
 have a:N0<=σ.next:=aE H.n0 (aE (cy A 3) H.nx)
 have S:∀{i p},Rec σ lc (A+3) σ.next i p->Rec ab lc (A+3) ab.next i p:=λr=>(r.keep λj N E=>h j (.inr (lC N)) E).wide (bb _) G
 ⟨(h _ (.inr (bb _)) H.nx).trans H.kd,H.k0,λf I M=>S (H.k1 f I M),H.wr.imp S id,λf I=>(H.ow f I).keep λj Z E=>h j (.inl E) (a9 E a),λi w=>(h i (.inl w) (a9 w a)).trans (H.old i w),aE H.nx G,H.n0⟩
theorem WR.sX(H:WR tl pl oi lc N0 A aW d7 dw ki wi σ)(I:f∈ []::tl):∃a b,Rec σ lc a b (oi f) (pl f)/\b<=σ.next:=⟨0,N0,H.ow f I,aE H.n0 (aE (cy A 3) H.nx)⟩
theorem WR.FU(H:WR tl pl oi lc N0 A aW d7 dw ki wi σ)(I:f∈d7):∃a b,Rec σ lc a b (ki f) (eL ((cP f).map pl))/\b<=σ.next:=by
 by_cases e:f= []
 .subst e
  refine fc (H.sX (f:=[]) a0) λa b h hb=>?_
  exact⟨a,b,by exact aa (H.k0 I ..)<|aa (show cP []= [[]] from rfl)<|aa (eK ..)<|aa (rE ..)<|aa (GL ..)<|h,hb⟩
 .exact⟨_,_,H.k1 f I e,bb _⟩
theorem WR.IM(H:WR tl pl oi lc N0 A aW d7 dw ki wi σ):∃a b,Rec σ lc a b wi (eL ((p6 dw).map pl))/\b<=σ.next:=by
 rcases H.wr with h| ⟨rfl,h2⟩
 .exact⟨_,_,h,bb _⟩
 .refine fc (H.sX (f:=[]) a0) λa b h hb=>?_
  exact⟨a,b,by exact aa (h2 ..)<|aa (eK ..)<|aa (rE ..)<|aa (GL ..)<|h,hb⟩
theorem nE(C:lG tl pl N0)(I:f∈ []::tl):∀g∈cP f,g∈ []::tl:=by
 have F:∀(n:Nat) (f:List Nat),f.length<=n->f∈ []::tl->∀g∈cP f,g∈ []::tl:=by
  intro n
  induction n with
  | zero=>intro f hl I g u;rw [t7 (Nat.le_zero.mp hl)] at u;exact(List.mem_singleton.mp u)▸a0
  | succ n S=>
   intro f hl I g u
   by_cases e:f= []
   .rw [e] at u;exact(List.mem_singleton.mp u)▸a0
   .rw [Bu e] at u
    rcases List.mem_append.mp u with u| u
    .exact S f.dropLast (by refine aa (lz ..) ?_;lia) ((C.T.par f ((List.mem_cons.mp I).resolve_left e)).elim (λq=>q▸a0) (bT _)) g u
    .exact(List.mem_singleton.mp u)▸I
 exact F _ f (bb _) I
theorem AI(C:lG tl pl N0){fs:List (List Nat)}(h:∀g∈fs,g∈ []::tl)(H:fs≠ [])(J:fs.length<=100):(eL (fs.map pl)).Ok/\(eL (fs.map pl)).ms.length<=2000:=by
 refine⟨So (λq=>H (List.map_eq_nil_iff.mp q)) λp T=>?_,?_⟩
 .refine aw (List.mem_map.mp T) λg u B=>?_;obtain rfl:=B;exact C.ok g (h g u)
 .have:=SF (ps:=fs.map pl) λp T=>by refine aw (List.mem_map.mp T) λg u R=>?_;obtain rfl:=R;exact C.ms g (h g u)
  rw [aZ] at this
  show((fs.map pl).flatMap Pl.ms).length<=2000
  lia
theorem wG:(cP f).length=f.length+1:=by unfold cP;exact aa (aZ ..)<|aa (hX ..) rfl
theorem wH:cP f≠ []:=λq=>by have:=congrArg pN q;rw [wG] at this;exact nomatch this
theorem Iy{a b:Nat}(h:a<=2000)(k:b<=20):a+b<=aP:=aE (K6 h k) (by decide)
theorem vY{ρ:aC}(S:ρ "own" =some (.dict (dk (bV oi) ([]::tl))))(c:ρ "folder" =some (aB f))(n:dZ ([]::tl))(I:f∈ []::tl):(ME.idx (.var "own") (.var "folder")) ρ σ=some (.ref (oi f),σ):=
 aJ (d:=.dict (dk (bV oi) ([]::tl))) (e:=aB f) (av S) (av c) (h7 n I)
theorem FI{ρ:aC}(c:ρ "folder" =some (aB f))(I:f∈b7):(MB.val (.eq (.var "folder") (.str "/"))) ρ σ=some (f.isEmpty,σ):=
 cz ((aJ (av c) rfl (ji (p:=.str (aR f)) (q:=.str "/") rfl rfl)).trans (by exact aa ((gm I).root ..) rfl))
theorem Q1(C:lG tl pl N0){ρ:aC}(H:WR tl pl oi lc N0 A aW d7 dw ki wi σ)(n:dZ ([]::tl))(P:∀g∈d7,g∈ []::tl)(hz:d7.length<=30)(I:f∈ []::tl)(T:f= []∨f.dropLast∈d7)(G:f∉d7)(S:ρ "own" =some (.dict (dk (bV oi) ([]::tl))))(X:ρ "kept" =some (.ref (A+2)))(c:ρ "folder" =some (aB f)):
 ∃ab E,MS.assign (.sub (.var "kept") (.var "folder")) (.ite (.val (.eq (.var "folder") (.str "/"))) (.idx (.var "own") (.var "folder")) (.a8 gX (aG [(.idx (.var "kept") (.a8 fm (aG [(.var "folder")]))),(.idx (.var "own") (.var "folder"))]))) ρ σ=some (.next,ρ,ab)/\
  WR tl pl oi lc N0 A aW (d7++ [f]) dw E wi ab/\∀i,(i<A+2)->ab.cell i=σ.cell i:=by
 have U:=n f I
 have L:dZ d7:=λg u=>n g (P g u)
 have m:=FI (σ:=σ) c U
 have K:d7.length<aP:=ee hz (by decide)
 have B:∀v:Nat,eF (dk (bV ki) d7) (aR f) (.ref v)=dk (bV (eW ki f v)) (d7++ [f]):=λv=>by
  have:dk (bV ki) d7=dk (bV (eW ki f v)) d7:=kD λg u=>by show(aR g,D.ref (ki g))=(aR g,D.ref (eW ki f v g));exact aa (kR λe=>G (by rw [← e];exact u)) rfl
  exact aa (this ..)<|aa (show D.ref v=bV (eW ki f v) f from congrArg D.ref lQ.symm)<|uK L U G
 have s:∀g,g∈d7++ [f]->g∈d7∨g=f:=λg u=>(List.mem_append.mp u).imp id List.mem_singleton.mp
 by_cases e:f= []
 .subst e
  let ab:=σ.put (A+2) (.dict (dk (bV (eW ki [] (oi []))) (d7++ [[]])))
  have V:=eo (t:=.sub (.var "kept") (.var "folder")) (ae:=ρ) (ab:=ab) (zb (y:=.a8 gX (aG [(.idx (.var "kept") (.a8 fm (aG [(.var "folder")]))),(.idx (.var "own") (.var "folder"))])) m (vY S c n I)) ((tA (av X) (av c) H.kd (by exact aa (oC ..)<|K)).trans (by exact aa (B ..) rfl))
  have k:∀i,i≠A+2->ab.cell i=σ.cell i:=λi h=>aH h
  have J:∀{j},A+3<=j->j≠A+2:=λh=>dc (a9 (cw _) h)
  have N:∀{j},j<N0->j≠A+2:=λh=>bj (gO 2 (a9 h H.n0))
  refine⟨ab,eW ki [] (oi []),V,⟨cb,λZ=>lQ,λg u M=>?_,H.wr.imp (λr=>r.keep λj h Z=>k j (J h)) id,λg u=>(H.ow g u).keep λj Z h=>k j (N h),λi w=>(k i (N w)).trans (H.old i w),H.nx,H.n0⟩,λi w=>k i (bj w)⟩
  exact aa (kR M ..)<|(H.k1 g ((s g u).resolve_right M) M).keep λj h Z=>k j (J h)
 .have T:=T.resolve_left e
  refine fc (H.FU T) λa b h1 hb=>?_
  refine fc (H.sX I) λa' b' h2 z=>?_
  have R:=nE C (P _ T)
  have l:=AI C R wH (by refine aa (wG ..)<|aa (lz ..) ?_;have:=(gm U).mZ;lia)
  refine dG (Af h1 h2 hb z l.1 (C.ok f I) (Iy l.2 (C.ms f I))) λao m1 m2 W Y=>?_
  have Q:o5 (eL ((cP f.dropLast).map pl)) (pl f)=eL ((cP f).map pl):=by
   rw [Bu e,ey,xy,GN λq=>wH (List.map_eq_nil_iff.mp q)]
  rw [Q] at Y
  have o:=H.keep (ab:=ao) (λi Z w=>W.old i w) W.le
  let ab:=ao.put (A+2) (.dict (dk (bV (eW ki f σ.next)) (d7++ [f])))
  have O:(ME.idx (.var "kept") (.a8 fm (aG [(.var "folder")]))) ρ σ=some (.ref (ki f.dropLast),σ):=aJ (d:=.ref (A+2)) (e:=aB f.dropLast) (av X) (d8 (aS (av c) bA) ((gm U).dir σ)) ((sr H.kd rfl rfl).trans (h7 L T))
  have p:(MB.val (.eq (.var "folder") (.str "/"))) ρ σ=some (false,σ):=m.trans (by exact aa (List.isEmpty_eq_false_iff.mpr e ..) rfl)
  have V:=eo (t:=.sub (.var "kept") (.var "folder")) (ae:=ρ) (ab:=ab) (Em (x:=.idx (.var "own") (.var "folder")) p (d8 (F:=gX) (aS O (aS (vY S c n I) bA)) m1)) ((tA (av X) (av c) o.kd (by exact aa (oC ..)<|K)).trans (by exact aa (B ..) rfl))
  have k:∀i,i≠A+2->ab.cell i=ao.cell i:=λi h=>aH h
  have J:∀{j},A+3<=j->j≠A+2:=λh=>dc (a9 (cw _) h)
  have N:∀{j},j<N0->j≠A+2:=λh=>bj (gO 2 (a9 h H.n0))
  refine⟨ab,eW ki f σ.next,V,⟨cb,λh=>(kR (Ne.symm e)).trans (H.k0 ((s _ h).resolve_right (Ne.symm e))),λg u M=>?_,o.wr.imp (λr=>r.keep λj h Z=>k j (J h)) id,λg u=>(o.ow g u).keep λj Z h=>k j (N h),λi w=>(k i (N w)).trans (o.old i w),o.nx,H.n0⟩,λi w=>(k i (bj w)).trans (W.old i (a9 w (aE (dD _) H.nx)))⟩
  rcases s g u with q| rfl
  .exact aa (kR λq'=>G (by rw [← q'];exact q))<|(o.k1 g q M).keep λj h Z=>k j (J h)
  .exact aa (lQ ..)<|(Y.wide H.nx (bN m2.symm)).keep λj h Z=>k j (J h)
theorem WC(C:lG tl pl N0){ρ:aC}(H:WR tl pl oi lc N0 A aW d7 dw ki wi σ)(n:dZ ([]::tl))(P:∀g∈dw,g∈ []::tl)(J:dw.length<=30)(I:f∈ []::tl)(s:f= []->dw= [])(N:f≠ []->dw≠ [])(S:ρ "own" =some (.dict (dk (bV oi) ([]::tl))))(j:ρ "whole" =some (.ref wi))(c:ρ "folder" =some (aB f)):
 ∃ab K,MS.assign (.name "whole") (.ite (.val (.eq (.var "folder") (.str "/"))) (.var "whole") (.a8 gX (aG [(.var "whole"),(.idx (.var "own") (.var "folder"))]))) ρ σ=some (.next,ρ.set "whole" (.ref K),ab)/\WR tl pl oi lc N0 A aW d7 (dw++ [f]) ki K ab/\∀i,i<A+2->ab.cell i=σ.cell i:=by
 have U:=n f I
 have m:=FI (σ:=σ) c U
 by_cases e:f= []
 .subst e
  rw [s rfl] at H ⊢
  exact⟨σ,wi,bt (zb m (av j)),⟨H.kd,H.k0,H.k1,H.wr,H.ow,H.old,H.nx,H.n0⟩,λZ Z=>rfl⟩
 .have M:=N e
  refine fc H.IM λa b r hb=>?_
  rw [show p6 dw=dw from if_neg M] at r
  refine fc (H.sX I) λk B t z=>?_
  have l:=AI C P M (aE J (by decide))
  refine dG (Af r t hb z l.1 (C.ok f I) (Iy l.2 (C.ms f I))) λao L R d h=>?_
  have o:=H.keep (ab:=ao) (λi Z w=>d.old i w) d.le
  have p:(MB.val (.eq (.var "folder") (.str "/"))) ρ σ=some (false,σ):=m.trans (by exact aa (List.isEmpty_eq_false_iff.mpr e ..) rfl)
  refine⟨ao,σ.next,bt (Em p (d8 (F:=gX) (aS (av j) (aS (vY S c n I) bA)) L)),⟨o.kd,H.k0,o.k1,.inl ?_,o.ow,o.old,o.nx,H.n0⟩,λi w=>d.old i (a9 w (aE (dD _) H.nx))⟩
  rw [show p6 (dw++ [f])=dw++ [f] from if_neg (by simp),ey,xy,GN λq=>M (List.map_eq_nil_iff.mp q)]
  exact h.wide H.nx (bN R.symm)
end
end
section
noncomputable def kh (tl dn bK:List (List Nat)):List Nat->Int:=λf=>if f∈dn then -2 else if f∈ck tl dn then 0 else if f∈bK then -1 else 1
noncomputable def g0 (r:List (List Nat)):D:=.tup [.str "True",.tup (r.map aB)]
noncomputable def Gq:MS:=.expr (.dB eh fK (.var "answers") (.tup [(.ax jR (.dC 273 "is_active" nP (.var "sorter") (aG []))),(.dC 273 "get_ready" nO (.var "sorter") (aG []))]))
noncomputable def Gr:MS:=.cons Gq (.cons (.assign (.name "ready") (.add (.var "ready") (.aI (.ax qk (.idx (.idx (.var "answers") (.neg (.int 1))) (.int 1)))))) (.cons (.ite (.val (.eq (.var "ready") (.list []))) .brk .nil) (.cons (.assign (.name "folder") (.idx (.var "ready") (.mod (.idx (.var "numbers") (.mod (.var "step") (.ax bW (.var "numbers")))) (.ax bW (.var "ready"))))) (.cons (.assign (.name "ready") (.aI (.comp (.of (.var "ready")) (.name "one") [(.val (.ne (.var "one") (.var "folder")))] (.elt (.var "one")) [".0","one"] (.list [])))) (.cons (.expr (.dB eh fK (.var "order") (.var "folder"))) (.cons (.assign (.sub (.var "kept") (.var "folder")) (.ite (.val (.eq (.var "folder") (.str "/"))) (.idx (.var "own") (.var "folder")) (.a8 gX (aG [(.idx (.var "kept") (.a8 fm (aG [(.var "folder")]))),(.idx (.var "own") (.var "folder"))])))) (.cons (.assign (.name "whole") (.ite (.val (.eq (.var "folder") (.str "/"))) (.var "whole") (.a8 gX (aG [(.var "whole"),(.idx (.var "own") (.var "folder"))])))) (.expr (.dC 273 "done" pF (.var "sorter") (aG [(.var "folder")]))))))))))
structure Wk(tl:List (List Nat))(pl:List Nat->Pl)(oi:List Nat->Nat)(lc:Nat->Nat)(N0 B R A:Nat)(aW:MH)(rest:List (List Nat))(ci:List Nat->Nat)(nums:List Int)(dn bK:List (List Nat))(ki:List Nat->Nat)(wi:Nat)(ρ:aC)(σ:MH):Prop where
 O:Ord tl dn bK
 vo:ρ "own" =some (.dict (dk (bV oi) ([]::tl)))
 vn:ρ "numbers" =some (.list (nums.map .int))
 vs:ρ "sorter" =some (.ref B)
 va:ρ "answers" =some (.ref A)
 vd:ρ "order" =some (.ref (A+1))
 vk:ρ "kept" =some (.ref (A+2))
 vr:ρ "ready" =some (.list (bK.map aB))
 vw:ρ "whole" =some (.ref wi)
 S:fv σ B R ([]::rest) ci (kh tl dn bK) (eG tl) (ck tl dn) ((dn.length:Int)+bK.length) dn.length
 an:σ.cell A=some (.list ((g5 tl dn).map g0))
 od:σ.cell (A+1)=some (.list (dn.map aB))
 W:WR tl pl oi lc N0 A aW dn dn ki wi σ
structure yb(tl:List (List Nat))(N0 B R A:Nat)(rest:List (List Nat))(nums:List Int):Prop where
 rs:∀f,f∈rest↔f∈tl
 nb:N0<=B
 ra:R<A
 nn:nums≠ []
 nz:nums.length<=1000
section
variable {tl:List (List Nat)} {pl:List Nat->Pl} {oi:List Nat->Nat} {lc:Nat->Nat} {N0 B R A:Nat} {aW:MH} {rest:List (List Nat)} {ci:List Nat->Nat} {nums:List Int} {dn bK:List (List Nat)} {ki:List Nat->Nat} {wi:Nat} {ρ:aC} {σ:MH} {k:Nat}
theorem Ord.len(T:nR tl)(O:Ord tl dn bK):dn.length<=19/\(bK++ck tl dn).length<=19:=by
 have N:=rx O.nd (l₂:=[]::tl) O.sub
 have E:=rx O.rn (l₂:=[]::tl) λf I=>((O.rd f).mp I).1
 rw [gM] at N E
 have:=T.z
 exact⟨by lia,by lia⟩
theorem fv.same{np ql:List Nat->Int}{sc ns l p q w Q}(H:fv σ B R ns ci np sc l p q)(h:∀f∈ns,ql f=np f)(T:w=p)(y:Q=q):fv σ B R ns ci ql sc l w Q:=⟨H.S.same h λZ Z=>rfl,T▸y▸H.c,H.d,H.r,H.b,H.z⟩
theorem Df(C:lG tl pl N0)(L:yb tl N0 B R A rest nums)(H:Wk tl pl oi lc N0 B R A aW rest ci nums dn bK ki wi ρ σ):
 ∃ab,Gq ρ σ=some (.next,ρ,ab)/\fv ab B R ([]::rest) ci (λg=>if g∈ck tl dn then -1 else kh tl dn bK g) (eG tl) [] ((dn.length:Int)+bK.length+(ck tl dn).length) dn.length/\
  ab.cell A=some (.list ((g5 tl dn).map g0++ [.tup [.str (if bK++ck tl dn= [] then "False" else "True"),.tup ((ck tl dn).map aB)]]))/\ab.next=σ.next/\∀i,(i<B∨R<i)->i≠A->ab.cell i=σ.cell i:=by
 have J:=H.O.len C.T
 have d:∀f∈ck tl dn,f∈([]:List Nat)::rest:=λf I=>(List.mem_cons.mp (H.O.nx f I).1).elim (λe=>e▸a0) λh=>bT _ ((L.rs f).mpr h)
 refine lg (Pk H.S d) λao V P b u z=>?_
 have K:=LY H.S
 have hb:(decide ((dn.length:Int)<(dn.length:Int)+bK.length)|| !(ck tl dn).isEmpty)= !decide (bK++ck tl dn= []):=by
  induction m:bK with
  | nil=>refine aa (xD ..) ?_;induction ck tl dn<;>simp
  | cons x xs=>simp;exact .inl (by lia)
 rw [hb] at K
 have k:nk (.bool (!decide (bK++ck tl dn= []))) σ=some (.str (if bK++ck tl dn= [] then "False" else "True")):=by
  by_cases h:bK++ck tl dn= []
  .exact aa (decide_eq_true h ..)<|aa (if_pos h ..) rfl
  .exact aa (decide_eq_false h ..)<|aa (if_neg h ..) rfl
 have a:=dc L.ra
 have j:ao.cell A=some (.list ((g5 tl dn).map g0)):=(z A L.ra).trans H.an
 have l:((g5 tl dn).map g0).length<aP:=by unfold g5;exact aa (aZ ..)<|aa (aZ ..)<|aa (hX ..)<|Nat.lt_of_le_of_lt J.1 (by decide)
 have Q:=jC (C:=273) (name:="is_active") (F:=nP) (mo:=.var "sorter") (g:=aG []) (ρ:=ρ) (σ:=σ) (i:=B) (av H.vs) H.S.c rfl bA K
 have E:=jC (C:=273) (name:="get_ready") (F:=nO) (mo:=.var "sorter") (g:=aG []) (ρ:=ρ) (σ:=σ) (i:=B) (av H.vs) H.S.c rfl bA V
 refine⟨_,il (j_ (av H.va) (mW H.an) (iK (aS (eD Q k) (aS E bA)) (dO rfl)) (pY j l)),P.keep λi Z w=>aH (bj (ee w L.ra)),cb,u,λi w M=>(aH M).trans (w.elim (λh=>b.old i h) (z i))⟩
theorem Wt(C:lG tl pl N0)(L:yb tl N0 B R A rest nums)(H:Wk tl pl oi lc N0 B R A aW rest ci nums dn bK ki wi ρ σ)(hk:dn.length<tl.length+1):
 ∃f E K ae ab,turn (.name "step") Gr (iD k) ρ σ=some (.next,ae,ab)/\Wk tl pl oi lc N0 B R A aW rest ci nums (dn++ [f]) ((bK++ck tl dn).filter λg=> !(g==f)) E K ae ab:=by
 have hI:dZ ([]::tl):=λg y=>(List.mem_cons.mp y).elim (λe=>e▸by decide) (C.T.cG g)
 have hz:=H.O.len C.T
 have r:=H.O.more C.T hk
 let l:=bK++ck tl dn
 have U:∀g∈l,g∈ []::tl:=λg y=>((H.O.rd g).mp y).1
 let N:=ρ.set "step" (iD k)
 have H0:Wk tl pl oi lc N0 B R A aW rest ci nums dn bK ki wi N σ:={H with vo:=H.vo,vn:=H.vn,vs:=H.vs,va:=H.va,vd:=H.vd,vk:=H.vk,vr:=H.vr,vw:=H.vw}
 refine lg (Df C L H0) λao e1 P o n₁ V=>?_
 rw [if_neg r] at o
 have t:=L.ra
 have e2:(ME.add (.var "ready") (.aI (.ax qk (.idx (.idx (.var "answers") (.neg (.int 1))) (.int 1))))) N ao=some (.list (l.map aB),ao):=by
  have l1:(ME.idx (.var "answers") (.neg (.int 1))) N ao=some (.tup [.str "True",.tup ((ck tl dn).map aB)],ao):=aJ (e:=.int (-1)) (av H.va) rfl ((Fz o).trans su)
  refine(aJ (d:=.list (bK.map aB)) (e:=.list ((ck tl dn).map aB)) (ρ:=N) (av (show N "ready" =some (.list (bK.map aB)) from H.vr)) (mP (m:=.ax qk (.idx (.idx (.var "answers") (.neg (.int 1))) (.int 1))) (ρ:=N) (c:=.list ((ck tl dn).map aB)) (bs (aJ (e:=.int 1) l1 rfl rfl) rfl) rfl) (jh (cf ?_))).trans (by exact aa (.symm (ey ..)) rfl)
  have:=hz.2
  rw [bF] at this
  refine aa (aZ ..)<|aa (aZ ..) ?_;lia
 let M:=N.set "ready" (.list (l.map aB))
 have e3:(MB.val (.eq (.var "ready") (.list []))) M ao=some (false,ao):=by
  refine cz ((aJ (d:=.list (l.map aB)) (e:=.list []) rfl rfl (ji (hH rfl (hG (p:=λg=>xW (aR g)) λZ Z=>rfl)) rfl)).trans ?_)
  exact aa (EE ..)<|aa (show(l.map λg=>xW (aR g)).isEmpty=false from List.isEmpty_eq_false_iff.mpr λq=>r (List.map_eq_nil_iff.mp q)) rfl
 have Fs:0<nums.length:=List.length_pos_iff.mpr L.nn
 have Ft:0<l.length:=List.length_pos_iff.mpr r
 have PZ:k % nums.length<nums.length:=Nat.mod_lt _ Fs
 obtain⟨x,hx⟩:∃x,nums[k % nums.length]?=some x:=⟨_,gL PZ⟩
 refine aw (lL x l.length (rj (Int.ofNat_lt.mpr Ft))) λj hj X=>?_
 have X:j<l.length:=Int.ofNat_lt.mp X
 obtain⟨f,hf⟩:∃f,l[j]?=some f:=⟨_,gL X⟩
 have u:f∈l:=lA hf
 have PH:=hI f (U f u)
 have e4:(ME.idx (.var "ready") (.mod (.idx (.var "numbers") (.mod (.var "step") (.ax bW (.var "numbers")))) (.ax bW (.var "ready")))) M ao=some (aB f,ao):=by
  have l1:(ME.ax bW (.var "numbers")) M ao=some (iD nums.length,ao):=len_list (av H.vn) (aZ _)
  have l2:(ME.mod (.var "step") (.ax bW (.var "numbers"))) M ao=some (iD (k % nums.length),ao):=aJ (d:=iD k) rfl l1 ((AB (Int.ofNat_lt.mpr Fs)).trans (congrArg (λi=>some (D.int i)) (Int.natCast_emod k nums.length).symm))
  have l3:(ME.idx (.var "numbers") (.mod (.var "step") (.ax bW (.var "numbers")))) M ao=some (.int x,ao):=aJ (d:=.list (nums.map .int)) (av H.vn) l2 (show ef (nums.map .int) ((k % nums.length:Nat):Int)=_ by exact aa (oS ..)<|aa (gg ..)<|aa (hx ..) rfl)
  have l4:(ME.ax bW (.var "ready")) M ao=some (iD l.length,ao):=len_list (xs:=l.map aB) rfl (aZ _)
  exact aJ (d:=.list (l.map aB)) (e:=iD j) rfl (aJ l3 l4 ((AB (Int.ofNat_lt.mpr Ft)).trans (congrArg (λi=>some (D.int i)) hj))) (show ef (l.map aB) (j:Int)=_ by exact aa (oS ..)<|aa (gg ..)<|aa (hf ..) rfl)
 let v:=M.set "folder" (aB f)
 let n:=l.filter λg=> !(g==f)
 have e5:ME.aI (.comp (.of (.var "ready")) (.name "one") [(.val (.ne (.var "one") (.var "folder")))] (.elt (.var "one")) [".0","one"] (.list [])) v ao=some (.list (n.map aB),ao):=
  mO l aB _ aB (cU rfl) (λj=>rfl) (by decide) (λg y ae hA hy=>⟨cz ((aJ (av hy) (av (d:=aB f) ((hA "folder" (by decide)).trans rfl)) (o9 (p:=.str (aR g)) (q:=.str (aR f)) rfl rfl)).trans (by exact aa (wz ..)<|aa (AK (hI g (U g y)) PH ..) rfl)),λZ=>av hy⟩) (cf (aE hz.2 (by decide)))
 let b:=v.set "ready" (.list (n.map aB))
 have Fd:R<A+1:=fG t
 have G:ao.cell (A+1)=some (.list (dn.map aB)):=(V _ (.inr Fd) (pT A)).trans H.od
 let aX:=ao.put (A+1) (.list ((dn++ [f]).map aB))
 have e6:(ME.dB eh fK (.var "order") (.var "folder")) b ao=some (.none,aX):=
  (j_ (ρ:=b) (av (show b "order" =some (.ref (A+1)) from H.vd)) (mW G) (av (d:=aB f) rfl) (pY G (by exact aa (aZ ..)<|Nat.lt_of_le_of_lt hz.1 (by decide)))).trans (by exact aa (show dn.map aB++ [aB f]=(dn++ [f]).map aB from(ey (f:=aB) (l₂:=[f])).symm) rfl)
 have LU:WR tl pl oi lc N0 A aW dn dn ki wi aX:=H.W.keep (λi w Z=>(aH (w.elim (λh=>bj (fG (a9 h H.W.n0))) λh=>dc h)).trans (V i (w.imp (λh=>a9 h L.nb) λh=>a9 t (aE (cy A 2) h)) (w.elim (λh=>bj (a9 h H.W.n0)) λh=>dc (a9 (ff (by decide)) h)))) (bN n₁.symm)
 refine bP ((H.O.rd f).mp u) λf1 f2 f3=>?_
 refine eQ (Q1 C (ρ:=b) LU hI H.O.sub (aE hz.1 (by decide)) f1 f2 f3 H.vo H.vk rfl) λYr E e7 LV T1=>?_
 obtain⟨s,K,e8,LW,T2⟩:=WC C (ρ:=b) LV hI H.O.sub (aE hz.1 (by decide)) f1 (λe=>w_ λq=>by
  have:=H.O.hd q
  rw [e] at f3
  exact f3 (List.mem_of_head? this)) (λe q=>by rw [q] at f2;exact f2.elim e bQ) H.vo H.vw rfl
 let J:=b.set "whole" (.ref K)
 have a:∀i,i<A+2->s.cell i=aX.cell i:=λi w=>(T2 i w).trans (T1 i w)
 have S:fv s B R ([]::rest) ci (λg=>if g∈ck tl dn then -1 else kh tl dn bK g) (eG tl) [] ((dn.length:Int)+bK.length+(ck tl dn).length) dn.length:=P.keep λi Z w=>(a i (gO 2 (ee w t))).trans (aH (bj (fG (ee w t))))
 have O':=H.O.step C.T u
 have qa:∀g∈eG tl f,g∈([]:List Nat)::rest/\g≠f/\g∉dn/\g∉l:=λg y=>by
  have k1:=O'.nx g (by exact aa (o8 ..)<|y)
  have k2:=vL.mp y
  have k3:g∉dn:=λq=>k1.2.2 (jY _ q)
  refine⟨bT _ ((L.rs g).mpr k2.1),λq=>k1.2.2 (d0 _ (List.mem_singleton.mpr q)),k3,λq=>?_⟩
  have:=((H.O.rd g).mp q).2.1.resolve_left (C.T.ne g k2.1)
  rw [k2.2] at this
  exact f3 this
 have P5:(λg=>if g∈ck tl dn then (-1:Int) else kh tl dn bK g) f= -1:=by
  show(if f∈ck tl dn then (-1:Int) else kh tl dn bK f)= -1
  by_cases q:f∈ck tl dn
  .exact aa (if_pos q ..) rfl
  .refine aa (if_neg q ..) ?_
   unfold kh
   exact aa (if_neg f3 ..)<|aa (if_neg q ..)<|aa (if_pos ((List.mem_append.mp u).resolve_right q) ..) rfl
 obtain⟨Q,e9,Y,W_,Tf,I⟩:=Oh S (f:=f) ((List.mem_cons.mp f1).elim (λe=>e▸a0) λh=>bT _ ((L.rs f).mpr h)) P5 (λg y=>by
  refine eP (qa g y) λk1 k2 k3 k4=>?_
  refine⟨k1,k2,?_⟩
  have k5:g∉ck tl dn:=λq=>k4 (d0 _ q)
  show(if g∈ck tl dn then (-1:Int) else kh tl dn bK g)=1
  unfold kh
  exact aa (if_neg k5 ..)<|aa (if_neg k3 ..)<|aa (if_neg k5 ..)<|aa (if_neg λq=>k4 (jY _ q) ..) rfl) (C.T.nd.filter _) (by
  have:=C.T.z
  have:(eG tl f).length<=tl.length:=iX ..
  show 0+_<=1000
  lia)
 have Ol:=jC (C:=273) (name:="done") (F:=pF) (mo:=.var "sorter") (g:=aG [.var "folder"]) (ρ:=J) (σ:=s) (i:=B) (av H.vs) S.c rfl (aS (d:=aB f) rfl bA) e9
 have LX:=LW.keep (ab:=Q) (λi w Z=>w.elim (λh=>W_.old i (a9 h L.nb)) λh=>I i (a9 t (aE (cy A 2) h))) (bN Tf.symm)
 have P7:=OO H.O.rn u
 refine⟨f,E,K,J,Q,bs rfl (aK e1 (aK (bt e2) (aK (d_ e3 rfl) (aK (bt e4) (aK (bt e5) (aK (il e6) (aK e7 (aK e8 (il Ol))))))))),⟨O',H.vo,H.vn,H.vs,H.va,H.vd,H.vk,rfl,rfl,?_,?_,?_,LX⟩⟩
 .refine aa (o8 ..) ?_
  have hlen:(((dn++ [f]).length:Nat):Int)+(n.length:Nat)=(dn.length:Int)+bK.length+(ck tl dn).length:=by
   rw [bF (as:=bK)] at P7
   refine aa (bF ..)<|aa (xv ..) ?_
   show((dn.length+1:Nat):Int)+(((bK++ck tl dn).filter λg=> !(g==f)).length:Nat)=_
   lia
  refine Y.same (ql:=kh tl (dn++ [f]) n) (λg y=>?_) hlen (by exact aa (bF ..) rfl)
  .unfold kh
   refine aa (o8 ..) ?_
   by_cases q1:g=f
   .exact aa (if_pos (d0 _ (List.mem_singleton.mpr q1)) ..)<|aa (if_pos q1 ..) rfl
   .refine aa (if_neg q1 ..) ?_
    have md:g∈dn++ [f]↔g∈dn:=⟨λh=>(List.mem_append.mp h).resolve_right λq=>q1 (List.mem_singleton.mp q),jY _⟩
    have mr:g∈n↔g∈l:=by
     show g∈l.filter (λg=> !(g==f))↔_
     rw [xA,pn,beq_eq_false_iff_ne]
     exact⟨And.left,λh=>⟨h,q1⟩⟩
    by_cases q2:g∈eG tl f
    .refine eP (qa g q2) λZ Z k3 Z=>?_
     exact aa (if_neg λh=>k3 (md.mp h) ..)<|aa (if_pos q2 ..)<|aa (if_pos q2 ..) rfl
    .refine aa (if_neg q2 ..)<|aa (if_neg q2 ..) ?_
     by_cases q3:g∈dn
     .exact aa (if_pos (md.mpr q3) ..)<|aa (if_neg λq=>(H.O.nx g q).2.2 q3 ..)<|aa (if_pos q3 ..) rfl
     .refine aa (if_neg λh=>q3 (md.mp h) ..)<|aa (if_neg q3 ..) ?_
      by_cases q4:g∈ck tl dn
      .exact aa (if_pos (mr.mpr (d0 _ q4)) ..)<|aa (if_pos q4 ..) rfl
      .exact aa (if_neg q4 ..)<|aa (if_neg q4 ..)<|ite_congr (propext ⟨λh=>(List.mem_append.mp (mr.mp h)).resolve_right q4,λh=>mr.mpr (jY _ h)⟩) (λZ=>rfl) λZ=>rfl
 .exact aa (De ..)<|aa (ey ..)<|(I A t).trans ((a A (ff (by decide))).trans ((aH (bj (cw A))).trans o))
 .exact(I _ Fd).trans ((a _ (cw _)).trans cb)
end
end
theorem Ws{tl:List (List Nat)}{pl:List Nat->Pl}{oi:List Nat->Nat}{lc:Nat->Nat}{N0:Nat}{nums:List Int}{aW:MH}(C:lG tl pl N0)(hn:nums≠ [])(hz:nums.length<=1000)(Q:N0<=aW.next)(ho:∀f∈ []::tl,Rec aW lc 0 N0 (oi f) (pl f)):
 ∃ab A dn ki wi,q6 [.list (([]::tl).map aB),.dict (dk (bV oi) ([]::tl)),.list (nums.map .int)] aW=some (.tup [.ref A,.ref (A+1),.ref (A+2),.ref wi],ab)/\dn.Nodup/\(∀f,f∈dn↔f∈ []::tl)/\dn.head?=some []/\
  ab.cell A=some (.list ((g5 tl dn).map g0++ [.tup [.str "False",.tup []]]))/\ab.cell (A+1)=some (.list (dn.map aB))/\WR tl pl oi lc N0 A aW dn dn ki wi ab:=by
 let N:=c_ [("folders",.list (([]::tl).map aB)),("own",.dict (dk (bV oi) ([]::tl))),("numbers",.list (nums.map .int))]
 obtain⟨bw,ao,R,ci,rest,k1,S,Y,y,hr,x1,hR⟩:=Vl (σ:=aW) (ρ:=N) C.T rfl
 let B:=aW.next
 let A:=ao.next
 let aX:=ao.new (.list [])
 let b:=aX.new (.list [])
 let H:=b.new (.dict [])
 have hI:dZ ([]::tl):=λg hg=>(List.mem_cons.mp hg).elim (λe=>e▸by decide) (C.T.cG g)
 have l:bw "own" =some (.dict (dk (bV oi) ([]::tl))):=S "own" (by decide)
 have u:bw "numbers" =some (.list (nums.map .int)):=S "numbers" (by decide)
 have r:bw "folders" =some (.list (([]::tl).map aB)):=S "folders" (by decide)
 let M:=((((bw.set "answers" (.ref A)).set "ready" (.list [])).set "order" (.ref (A+1))).set "kept" (.ref (A+2))).set "whole" (.ref (oi []))
 have e2:(MS.assign (.tup [(.name "answers"),(.name "ready"),(.name "order"),(.name "kept"),(.name "whole")]) (.tup [(.d9 (.list [])),(.list []),(.d9 (.list [])),(.d9 .mM),(.idx (.var "own") (.str "/"))])) bw ao=some (.next,M,H):=
  eo (d:=.tup [.ref A,.list [],.ref (A+1),.ref (A+2),.ref (oi [])]) (iK (aS (h8 (c:=.list []) (ab:=ao) rfl) (aS (d:=.list []) (ao:=aX) rfl (aS (h8 (c:=.list []) (ab:=aX) rfl) (aS (h8 (c:=.dict []) (ab:=b) rfl) (aS (aJ (e:=aB []) (av l) (congrArg (λs=>some (D.str s,H)) (show au "/" =aR [] by decide)) (h7 hI a0)) bA))))) (dO rfl)) rfl
 have V:∀i,i<A->H.cell i=ao.cell i:=λi w=>(g9 (σ:=b) (i:=i) (gO 2 w)).trans ((g9 (σ:=aX) (i:=i) (fG w)).trans (g9 w))
 have m:R<A:=hR
 have o:N0<=A:=aE Q x1.le
 have L:yb tl N0 B R A rest nums:=⟨hr,Q,m,hn,hz⟩
 have F:∀i,i<N0->H.cell i=aW.cell i:=λi w=>(V i (a9 w o)).trans (x1.old i (a9 w Q))
 have E:Wk tl pl oi lc N0 B R A aW rest ci nums [] [] (λZ=>0) (oi []) M H:=
  ⟨Ord.init,l,u,Y,rfl,rfl,rfl,rfl,rfl,(y.keep λi Z w=>V i (ee w m)).same (λf I=>by
    unfold kh
    refine aa (if_neg bQ ..) ?_
    rcases List.mem_cons.mp I with rfl| I
    .exact aa (if_pos (show([]:List Nat)∈ck tl [] from a0))<|aa (if_neg λh=>C.T.ne [] h rfl ..) rfl
    .have ht:=(hr f).mp I
     exact aa (if_neg (c:=f∈ck tl []) (λq=>C.T.ne f ht (List.mem_singleton.mp q)) ..)<|aa (if_neg bQ ..)<|aa (if_pos ht ..) rfl) rfl rfl,
    (g9 (σ:=b) (i:=A) (ff (k:=2) (by decide))).trans ((g9 (σ:=aX) (i:=A) (cw _)).trans gq),(g9 (σ:=b) (i:=A+1) (cw _)).trans (gq (σ:=aX)),
    ⟨gq (σ:=b),λh=>absurd h bQ,λf h=>absurd h bQ,.inr ⟨rfl,rfl⟩,λf I=>(ho f I).keep λj Z hj=>F j hj,F,bb _,o⟩⟩
 have p:(ME.ax bW (.var "folders")) M H=some (iD (tl.length+1),H):=len_list (xs:=([]::tl).map aB) (av r) (aZ _)
 have Yg:=C.T.z
 refine jO (dv (tl.length+1)) iD (mi:=.gT (.ax bW (.var "folders"))) (t:=.name "step") (body:=Gr) (ρ:=M) (σ:=H) (at_:=ie (gU 0 1 (tl.length+1))) (ao:=H)
  (λL ae ab=>∃dn bK ki wi,Wk tl pl oi lc N0 B R A aW rest ci nums dn bK ki wi ae ab/\dn.length=L.length) (λfl ae ab=>fl=.next/\∃dn bK ki wi,Wk tl pl oi lc N0 B R A aW rest ci nums dn bK ki wi ae ab/\dn.length=tl.length+1)
  (by exact aa (aZ ..)<|aa (hX ..)<|sk p (cf (by lia))) (λZ Z Z Z Z=>by exact aa (we ..) rfl) ⟨[],[],λZ=>0,oi [],E,rfl⟩
  (λLs k T ae ab Y km=>qT km λdn bK ki wi W P=>by
    have hk:dn.length<tl.length+1:=by
     have:=congrArg pN Y
     rw [hX,bF,gM] at this
     lia
    obtain⟨f,Q3,WD,Xd,Yp,e,W'⟩:=Wt C L W hk (k:=k)
    exact⟨_,e,_,_,Q3,WD,W',by exact aa (bF ..)<|aa (bF ..)<|aa (P ..) rfl⟩) (λae ab ko=>qT ko λdn bK ki wi W P=>⟨rfl,dn,bK,ki,wi,W,by exact aa (P ..)<|aa (hX ..) rfl⟩) λfl v Ys hq hQ=>?_
 refine aA hQ λe0 q=>?_
 refine qT q λdn bK ki wi W P=>?_
 subst e0
 refine bP (W.O.all P) λX G K=>?_
 refine lg (Df C L W) λx e6 X8 a J n=>?_
 rw [if_pos (by exact aa (X ..)<|aa (G ..) rfl),G] at a
 have U:dn≠ []:=λq=>by rw [q] at P;exact nomatch P
 refine⟨x,A,dn,ki,wi,fx (ae:=v) rfl (k1 _ _ (aK e2 (aK hq (aK e6 (fC (iK (aS (av W.va) (aS (av W.vd) (aS (av W.vk) (aS (av W.vw) bA)))) (dO rfl))))))),W.O.nd,λf=>⟨W.O.sub f,K f⟩,W.O.hd U,a,(n _ (.inr (fG m)) (pT A)).trans W.od,W.W.keep (λi w Z=>n i (w.imp (λh=>a9 h Q) λh=>a9 m (aE (cy A 2) h)) (w.elim (λh=>bj (a9 h o)) λh=>dc (a9 (ff (by decide)) h))) (bN J.symm)⟩
noncomputable def RQ:ME:=.aI (.comp (.gT (.int 6)) (.name "place") [] (.elt (.add (.ax sumF (.nh (.slice (.var "script") .none (some (.int 60))) (some (.var "place")) .none (some (.int 6)))) (.idx (.list [(.int 18394),(.int 15468),(.int 1446),(.int 1279),(.int 18254),(.int 8898)]) (.var "place")))) [".0","place"] (.list []))
theorem ints_of:∀{xs:List D},(∀d∈xs,oX d)->∃is,intsOf xs=some is
 | [],_=>⟨[],rfl⟩
 | d::r,h=>by
  refine aL (h d a0) λi B=>?_;obtain rfl:=B
  refine aL (ints_of λx U=>h x (bT _ U)) λis e=>?_
  exact⟨i::is,bs (a:=i) rfl (bs e rfl)⟩
theorem Vt{xs:List D}{lo hi st}(h:∀d∈xs,oX d):∀d∈lZ xs lo hi st,oX d:=λd P=>by
 refine aw (List.mem_filterMap.mp P) λi Z t=>?_
 exact h d (lA t)
theorem Vu{xs:List D}{p:Nat}:(lZ xs (some (p:Int)) none (some 6)).length<=xs.length:=by
 unfold lZ
 refine aE (List.length_filterMap_le ..) ?_
 show(HX (max 0 (min (if (p:Int)<0 then (p:Int)+xs.length else p) xs.length)) xs.length 6).length<=_
 have H:(0:Int)<=max 0 (min (if (p:Int)<0 then (p:Int)+xs.length else p) xs.length):=Int.le_max_left ..
 generalize max (0:Int) (min (if (p:Int)<0 then (p:Int)+xs.length else p) xs.length)=s at H ⊢
 unfold HX
 refine aa (aZ ..)<|aa (hX ..)<|aa (if_pos (by decide)) ?_
 split<;>lia
theorem Te{f:List Int}(J:f.length<=63){ρ:aC}{σ:MH}(N:ρ "script" =some (.list (f.map .int))):∃nums:List Int,nums.length=6/\RQ ρ σ=some (.list (nums.map .int),σ):=by
 have F:∀p:Nat,∃i:Int,p<6->∀ae,Agree [".0","place"] ρ ae->ae "place" =some (iD p)->(ME.add (.ax sumF (.nh (.slice (.var "script") .none (some (.int 60))) (some (.var "place")) .none (some (.int 6)))) (.idx (.list [(.int 18394),(.int 15468),(.int 1446),(.int 1279),(.int 18254),(.int 8898)]) (.var "place"))) ae σ=some (.int i,σ):=by
  intro p
  let I:=jQ (f.map D.int) none (some 60)
  have t:∀d∈I,oX d:=λd e=>by
   refine aw (List.mem_map.mp (xC (Cu e))) λz Z R=>?_;obtain rfl:=R
   exact⟨z,rfl⟩
  have hl:I.length<=63:=aE (KO ..) (aE (by exact aa (t9 ..)<|Nat.sub_le _ _) (by exact aa (aZ ..)<|J))
  refine aL (ints_of (Vt (lo:=some (p:Int)) (hi:=none) (st:=some 6) t)) λis b=>?_
  have O:∃c:Int,p<6->ef [.int 18394,.int 15468,.int 1446,.int 1279,.int 18254,.int 8898] (p:Int)=some (.int c):=by
   by_cases h:p<6
   .exact(c6 (P:=λp=>∃c:Int,ef [.int 18394,.int 15468,.int 1446,.int 1279,.int 18254,.int 8898] (p:Int)=some (.int c)) h ⟨_,rfl⟩ ⟨_,rfl⟩ ⟨_,rfl⟩ ⟨_,rfl⟩ ⟨_,rfl⟩ ⟨_,rfl⟩).imp λZ h Z=>h
   .exact⟨0,λq=>absurd q h⟩
  refine aL O λc O=>?_
  refine⟨is.sum+c,λT ae K U=>?_⟩
  have V:(ME.slice (.var "script") .none (some (.int 60))) ae σ=some (.list I,σ):=kc (av ((K _ (by decide)).trans N)) rfl rfl rfl rfl
  have Q:(ME.nh (.slice (.var "script") .none (some (.int 60))) (some (.var "place")) .none (some (.int 6))) ae σ=some (.list (lZ I (some (p:Int)) none (some 6)),σ):=
   bs V (bs (mJ (av U)) (bs (a:=(none,σ)) rfl (bs (a:=(some 6,σ)) rfl (bs (a:=I) rfl (bs (show Ib I (some (p:Int)) none (some 6)=some (.list (lZ I (some (p:Int)) none (some 6))) from if_pos ⟨by decide,cf (aE Vu (aE hl (by decide)))⟩) rfl)))))
  exact aJ (eD Q (bs (a:=lZ I (some (p:Int)) none (some 6)) rfl (bs b rfl))) (aJ (d:=.list [.int 18394,.int 15468,.int 1446,.int 1279,.int 18254,.int 8898]) rfl (av U) (O T)) rfl
 refine aL (Classical.skolem.mp F) λg u=>?_
 refine⟨(dv 6).map g,by exact aa (aZ ..)<|aa (hX ..) rfl,?_⟩
 refine aa (fe ..) ?_
 refine eV (dv 6) iD (λp=>D.int (g p)) (at_:=ie (gU 0 1 6)) (ao:=σ) ?_ (λj=>by exact aa (we ..) rfl) (by decide) (λp T ae K U=>u p (List.mem_range.mp T) ae K U) (by decide)
 exact sk (m:=.int 6) rfl (by decide)
theorem Sk{fs:List (List Nat)}{g x}:x∈addW fs g↔x∈fs∨x=g:=by
 unfold addW
 split
 .next h=>exact⟨.inl,λq=>q.elim id λe=>e▸h⟩
 .rw [n4,pO]
theorem Sl{r:List (List Nat)}{x}:∀{fs:List (List Nat)},x∈r.foldl addW fs↔x∈fs∨x∈r:=by
 induction r with
 | nil=>exact λ{fs}=>⟨.inl,λq=>q.elim id λh=>absurd h bQ⟩
 | cons g r S=>intro fs;rw [rC,S,Sk,n5,or_assoc]
def n8(fs:List (List Nat)):Prop:=fs.Nodup/\fs.head?=some []
theorem VV{fs:List (List Nat)}{g}(h:n8 fs):n8 (addW fs g):=by
 unfold addW
 split
 .exact h
 .next q=>
  refine⟨List.nodup_append.mpr ⟨h.1,List.nodup_cons.mpr ⟨bQ,rG⟩,λa K b hb e=>q (by rw [List.mem_singleton.mp hb] at e;exact e▸K)⟩,?_⟩
  exact aa (List.head?_append ..)<|aa (h.2 ..) rfl
theorem VW{r:List (List Nat)}:∀{fs:List (List Nat)},n8 fs->n8 (r.foldl addW fs):=by
 induction r with
 | nil=>exact λh=>h
 | cons g r S=>exact λh=>S (VV h)
theorem Ae{f x:List Nat}:x∈ups f↔ ∃k,k<f.length/\x=f.take (k+1):=by
 unfold ups
 refine aa (propext xB) ⟨λq=>aw q λi w e=>?_,λq=>aw q λk C e=>?_⟩
 .have:=List.mem_range.mp w
  have Q:f.length - i - 1+1=f.length - i:=xK (Nat.sub_pos_of_lt this)
  exact⟨f.length - i - 1,Nat.lt_of_succ_le (aE (bN Q) (rL ..)),Q▸e.symm⟩
 .exact⟨f.length - (k+1),List.mem_range.mpr (CE (ee (fW k) C) (CG k)),aa (Nat.sub_sub_self C) e.symm⟩
theorem Sm{w:List Ln}{x}:∀{fs:List (List Nat)},x∈w.foldl iB fs↔x∈fs∨∃l∈w,x∈ups l.f:=by
 induction w with
 | nil=>exact λ{fs}=>⟨.inl,λq=>q.elim id λj=>aw j λl h Z=>absurd h bQ⟩
 | cons l w S=>
  intro fs
  rw [rC,S,show x∈iB fs l↔_ from Sl,or_assoc]
  exact or_congr_right ⟨λq=>q.elim (λh=>⟨l,a0,h⟩) λC=>aw C λM h k=>⟨M,bT _ h,k⟩,λu=>aw u λM h k=>(List.mem_cons.mp h).elim (λe=>.inl (e▸k)) λh=>.inr ⟨M,h,k⟩⟩
theorem VX{w:List Ln}:∀{fs:List (List Nat)},n8 fs->n8 (w.foldl iB fs):=by
 induction w with
 | nil=>exact λh=>h
 | cons l w S=>exact λh=>S (VW h)
theorem O0{w:List Ln}(h:∀l∈w,l.Ok)(J:w.length<=6):∃tl,oN w= []::tl/\nR tl/\∀l∈w,l.f∈ []::tl:=by
 obtain⟨m,t⟩:n8 (oN w):=VX ⟨List.nodup_cons.mpr ⟨bQ,rG⟩,rfl⟩
 have p:=EZ h (fs:=[[]])
 have D:=OZ h GX
 have s:∀{x},x∈oN w↔x∈ [[]]∨∃l∈w,x∈ups l.f:=Sm
 induction e:oN w with
 | nil=>rw [e] at t;exact nomatch t
 | cons a tl=>
  rw [e] at m t
  obtain rfl:a= []:=aM t
  have M:∀f∈tl,f≠ []:=λf I q=>(List.nodup_cons.mp m).1 (q▸I)
  rw [show w.foldl iB [[]]= []::tl from e] at p D
  refine⟨tl,rfl,⟨λg u=>D g (bT _ u),(List.nodup_cons.mp m).2,M,λf I=>?_,?_⟩,λl hl=>?_⟩
  .have:=s.mp (e▸bT _ I)
   refine aw (this.resolve_left λq=>M f I (List.mem_singleton.mp q)) λl hl Z=>?_
   refine aw (Ae.mp Z) λk C B=>?_;obtain rfl:=B
   have A:(l.f.take (k+1)).dropLast=l.f.take k:=by
    exact aa (xr ..)<|aa (Cm ..)<|aa (Cz ..)<|aa (ud C ..)<|congrArg l.f.take (ud (dD k))
   refine aa (A ..) ?_
   induction k with
   | zero=>exact .inl rfl
   | succ k=>
    have h':l.f.take (k+1)∈oN w:=s.mpr (.inr ⟨l,hl,Ae.mpr ⟨k,lD C,rfl⟩⟩)
    rw [e] at h'
    exact(List.mem_cons.mp h').imp id id
  .have:([[]]:List (List Nat)).length=1:=rfl
   rw [gM] at p
   lia
  .refine aa (.symm (e ..)) ?_
   refine s.mpr ?_
   by_cases q:l.f= []
   .exact .inl (List.mem_singleton.mpr q)
   .have T:=List.length_pos_iff.mpr q
    exact .inr ⟨l,hl,Ae.mpr ⟨l.f.length - 1,by lia,by exact aa (xK T ..)<|aa (Cy ..) rfl⟩⟩
theorem y_{v v':List Nat->D}{fs:List (List Nat)}(h:∀g∈fs,v g=v' g):dk v fs=dk v' fs:=kD λg u=>by exact aa (h g u ..) rfl
theorem Eo{own:List String}{x:String}{ρ:aC}{σ:MH}{fs:List (List Nat)}{mi:MI}{m:ME}(K:List (List Nat)->MH->(List Nat->D)->Prop)(k:dZ fs)(G:fs.Nodup)(J:fs.length<=100)(w:mi ρ σ=some (fj (.list (fs.map aB)),(fs.map aB).length+1,σ))(U:x∈own)(P:∀v,K [] σ v)
 (h:∀l f r ab v,fs=l++f::r->f∉l->K l ab v->∀ae,Agree own ρ ae->ae x=some (aB f)->∃d M,m ae ab=some (d,M)/\∀H:List Nat->D,H f=d->(∀g∈l,H g=v g)->K (l++ [f]) M H):∃v ab,ME.aI (.comp mi (.name x) [] (.kv (.var x) m) own (.dict [])) ρ σ=some (.dict (dk v fs),ab)/\K fs ab v:=by
 refine y1 (fs.map aB) (at_:=fj (.list (fs.map aB))) (t:=.name x) (ifs:=[]) (b:=.kv (.var x) m) (λL ae ab c=>Agree own ρ ae/\∃l r v,fs=l++r/\l.length=L.length/\c=.dict (dk v l)/\K l ab v) (λZ Z Z Z Z Z=>rfl)
  (λL y R ae ab c B p=>aA p λT Q=>tK Q λl r v hl A O j=>by
    subst O
    have i:(fs.map aB)[L.length]?=some y:=by exact aa (B ..)<|lM
    rw [gg,hl,← A] at i
    induction r with
    | nil=>rw [hW,mn (bb _)] at i;exact nomatch i
    | cons f r=>
     rw [lM] at i
     obtain rfl:=aM i
     have I:f∈fs:=hl▸d0 _ a0
     have o:=T.set (d:=aB f) U
     have s:f∉l:=λq=>by rw [hl] at G;exact(List.nodup_append.mp G).2.2 f q f a0 rfl
     have e:(dk v l).length<aP:=by
      refine aa (oC ..) ?_
      have:=congrArg pN hl
      rw [bF] at this
      exact ee (show l.length<=100 by lia) (by decide)
     refine fc (h l f r ab v hl s j _ o (if_pos rfl)) λd M z C=>?_
     let H:List Nat->D:=λg=>if g=f then d else v g
     have N:∀g∈l,H g=v g:=λg u=>if_neg (c:=g=f) λq=>s (q▸u)
     refine⟨(ae.set x (aB f),M,.dict (dk H (l++ [f]))),bs (a:=(ae.set x (aB f),ab)) rfl (bs (a:=(true,ab)) rfl (bs (av (if_pos rfl)) (bs (a:=aR f) rfl (bs z (bs (a:=dk v l) rfl ((if_pos e).trans ?_)))))),o,l++ [f],r,H,by exact aa (iW ..)<|hl,by exact aa (bF ..)<|aa (bF ..)<|aa (A ..) rfl,rfl,C H (if_pos rfl) N⟩
     exact aa (.symm (uK (λg u=>k g (hl▸jY _ u)) (k f I) s ..))<|aa (y_ N ..)<|aa (show H f=d from if_pos rfl) rfl) (ρ.drop own) σ (.dict []) ⟨Agree.drop,[],fs,λZ=>.none,rfl,rfl,rfl,P _⟩ λn M c F S=>?_
 refine aA S λZ O=>?_
 refine tK O λl r v hl A E j=>?_;obtain rfl:=E
 have V:r= []:=by
  have:=congrArg pN hl
  rw [bF,A,aZ] at this
  exact t7 (by lia)
 rw [V,hW] at hl
 rw [← hl] at F j
 exact⟨v,M,mP (c:=.dict (dk v fs)) (bs w (bs F rfl)) rfl,j⟩
theorem En{own:List String}{x:String}{ρ:aC}{σ:MH}{fs:List (List Nat)}{v:List Nat->D}{d:MI}{m:ME}(k:dZ fs)(G:fs.Nodup)(J:fs.length<=100)(w:d ρ σ=some (fj (.list (fs.map aB)),(fs.map aB).length+1,σ))(U:x∈own)
 (h:∀f∈fs,∀ae,Agree own ρ ae->ae x=some (aB f)->m ae σ=some (v f,σ)):ME.aI (.comp d (.name x) [] (.kv (.var x) m) own (.dict [])) ρ σ=some (.dict (dk v fs),σ):=by
 obtain⟨H,ab,e,rfl,N⟩:=Eo (ρ:=ρ) (σ:=σ) (m:=m) (λl ab H=>ab=σ/\∀g∈l,H g=v g) k G J w U (λZ=>⟨rfl,λZ h=>absurd h bQ⟩) λl f r ab b hl Z i ae a T=>aA i λe N=>by
  subst e
  exact⟨_,_,h f (hl▸d0 _ a0) ae a T,λH c E=>⟨rfl,λg u=>(List.mem_append.mp u).elim (λq=>(E g q).trans (N g q)) λq=>by exact aa (List.mem_singleton.mp q ..)<|aa (c ..) rfl⟩⟩
 exact aa (.symm (y_ N ..))<|e
theorem RecAt.lc{σ lc s a b i p u r}(h:RecAt σ lc a b i p u r)(k:∀m∈p.ms,s m=lc m):RecAt σ s a b i p u r:={h with cr:=h.cr.trans (congrArg (λl=>some (Cell.list l)) (kD λm z=>by exact aa (k m z ..) rfl))}
theorem Rec.lc{σ lc s a b i p}(h:Rec σ lc a b i p)(k:∀m∈p.ms,s m=lc m):Rec σ s a b i p:=h.imp λZ=>dX λZ h=>h.lc k
theorem Sy{w:List Ln}{f:List Nat}:(dF w f).Nodup:=by
 unfold dF
 have h:((w.zipIdx.filter λp=>p.1.f==f).map (·.2)).Sublist (dv w.length):=by
  exact aa (show dv w.length=w.zipIdx.map (·.2) by rw [K0,List.range_eq_range'])<|List.Sublist.map _ List.filter_sublist
 exact h.nodup List.nodup_range
noncomputable def RR:ME:=.aI (.comp (.of (.var "folders")) (.name "folder") [] (.kv (.var "folder") (.a8 pE (aG [(.var "lines"),(.idx (.var "plain") (.var "folder"))]))) [".0","folder"] (.dict []))
structure CO(ls:List Ln)(pl:List Nat->Pl)(fs:List (List Nat))(oi:List Nat->Nat)(lc:Nat->Nat)(σ:MH):Prop where
 rc:∀f∈fs,Rec σ lc 0 σ.next (oi f) (pl f)
 ln:∀f∈fs,∀m∈dF ls f,∀l,ls[m]?=some l->nW σ (lc m) m l
 lt:∀f∈fs,∀m∈dF ls f,lc m<σ.next
theorem TX{w:List Ln}{pl:List Nat->Pl}{fs:List (List Nat)}{ρ:aC}{σ:MH}(J:dZ fs)(hn:fs.Nodup)(hz:fs.length<=100)(hl:∀l∈w,l.Ok)(F:w.length<=20)(T:∀f∈fs,(pl f).Ok/\(pl f).ms=dF w f)
 (h1:ρ "folders" =some (.list (fs.map aB))) (h2:ρ "lines" =some (.list (w.map cW))) (h3:ρ "plain" =some (.dict (dk (λf=>b_ (pl f)) fs))):
 ∃oi lc ab,RR ρ σ=some (.dict (dk (bV oi) fs),ab)/\CO w pl fs oi lc ab:=by
 obtain⟨v,ab,e,oi,lc,N,O⟩:=Eo (ρ:=ρ) (σ:=σ) (own:=[".0","folder"]) (x:="folder") (mi:=.of (.var "folders")) (m:=.a8 pE (aG [(.var "lines"),(.idx (.var "plain") (.var "folder"))]))
  (λl ab v=>∃oi lc,(∀g∈l,v g=.ref (oi g))/\CO w pl l oi lc ab) J hn hz (cU (av h1)) (by decide) (λv=>⟨λZ=>0,λZ=>0,λZ h=>absurd h bQ,λZ h=>absurd h bQ,λZ h=>absurd h bQ,λZ h=>absurd h bQ⟩)
  λl f r ab v U i B ae H hx=>fc B λoi lc N O=>by
   have I:f∈fs:=U▸d0 _ a0
   have E:∀g∈l,g∈fs:=λg u=>U▸jY _ u
   refine aA (T f I) λG y=>?_
   obtain⟨M,V,b,R,hL,K,p⟩:=UH (σ:=ab) hl G (λm z=>by
    rw [y] at z
    refine aw (jM.mp z) λl h Z=>?_
    exact(List.getElem?_eq_some_iff.mp h).1) (y▸Sy) (y▸aE sM F)
   refine⟨_,_,d8 (aS (av ((H _ (by decide)).trans h2)) (aS (d:=b_ (pl f)) (aJ (d:=.dict (dk (λf=>b_ (pl f)) fs)) (av ((H _ (by decide)).trans h3)) (av hx) (h7 J I)) bA)) V,λv' C S=>?_⟩
   let s:Nat->Nat:=λm=>if m∈(pl f).ms then kU (ab.next+3) (pl f).ms m else lc m
   let a:List Nat->Nat:=λg=>if g=f then ab.next else oi g
   have o:∀g∈l,∀m∈dF w g,s m=lc m:=λg u m z=>if_neg (c:=m∈(pl f).ms) λq=>by
    rw [y] at q
    refine aw (jM.mp z) λl1 W X=>?_
    refine aw (jM.mp q) λl2 n Y=>?_
    rw [W] at n
    obtain rfl:=aM n
    exact i (Y▸X▸u)
   have L:∀g∈l,a g=oi g:=λg u=>if_neg (c:=g=f) λq=>i (q▸u)
   have t:∀m∈dF w f,s m=kU (ab.next+3) (pl f).ms m:=λm z=>if_pos (y▸z)
   have Q:∀{P:List Nat->Prop},(∀g∈l,P g)->P f->∀g∈l++ [f],P g:=λh k g u=>(List.mem_append.mp u).elim (h g) λq=>(List.mem_singleton.mp q)▸k
   refine⟨a,s,Q (λg u=>by exact aa (S g u ..)<|aa (L g u ..)<|N g u) (C.trans (congrArg D.ref (if_pos rfl).symm)),Q (λg u=>?_) ?_,Q (λg u m z l A=>?_) λm z l A=>?_,Q (λg u m z=>?_) λm z=>?_⟩
   .exact aa (L g u ..)<|(((O.rc g u).keep λj Z hj=>b.old j hj).wide (bb _) b.le).lc λm z=>o g u m ((T g (E g u)).2▸z)
   .exact aa (show a f=ab.next from if_pos rfl)<|(R.wide (fW _) p).lc λm z=>if_pos z
   .exact aa (o g u m z ..)<|(b.old _ (O.lt g u m z)).trans (O.ln g u m z l A)
   .exact aa (t m z ..)<|hL m (y▸z) l A
   .exact aa (o g u m z ..)<|Nat.lt_of_lt_of_le (O.lt g u m z) b.le
   .exact aa (t m z ..)<|K m (y▸z)
 exact⟨oi,lc,ab,by exact aa (.symm (y_ (v:=v) (v':=bV oi) N ..))<|e,O⟩
section
theorem AM{f:D->Option fX}(I:∀d p,f d=some p->fg p p=true):∀{xs ps},hB f xs=some ps->Lo ps ps=true
 | [],_,h=>by obtain rfl:=aM h;rfl
 | x::xs,_,h=>by
  refine aw (be h) λp N h=>?_
  refine aw (be h) λc E h=>?_
  obtain rfl:=aM h
  rw [Lo,I x p N,AM I E];rfl
theorem AN{σ:MH}:∀{k d p},cX σ k d=some p->fg p p=true
 | 0,_,_,h=>nomatch h
 | k+1,d,p,h=>by
  have S:∀d p,cX σ k d=some p->fg p p=true:=λZ Z h=>AN h
  have h:(match bU σ d with| some xs=>(hB (cX σ k) xs).bind λps=>some (Lp ps)| none=>_)=some p:=h
  induction P:bU σ d with
  | some xs=>
   rw [P] at h
   refine aw (be h) λps N E=>?_
   obtain rfl:=aM E
   rw [fg];exact AM S N
  | none=>
   rw [P] at h
   cases d with
   | tup xs=>
    refine aw (be h) λps N E=>?_
    obtain rfl:=aM E
    rw [fg];exact AM S N
   | none=>obtain rfl:=aM h;rfl
   | bool b=>obtain rfl:=aM h;simp [fg]
   | int i=>obtain rfl:=aM h;simp [fg]
   | str s=>obtain rfl:=aM h;simp [fg]
   | _=>exact nomatch h
theorem vW{σ:MH}{a b:D}{p:fX}(h:cX σ 6 a=some p)(k:cX σ 6 b=some p):sO a b σ=some (.bool false):=(o9 h k).trans (by exact aa (AN h ..) rfl)
theorem s_same{x y:ME}{ρ:aC}{σ ao aX:MH}{a b:D}{p:fX}(h:x ρ σ=some (a,ao))(k:y ρ ao=some (b,aX))(K:cX aX 6 a=some p)(hb:cX aX 6 b=some p):MS.ite (.val (.ne x y)) (.ret (.bool false)) .nil ρ σ=some (.next,ρ,aX):=
 d_ (cz (aJ h k (vW K hb))) rfl
theorem Hw{σ:MH}{fs:List (List Nat)}{k:Nat}:cX σ (k+2) (.list (fs.map aB))=some (.list (fs.map λf=>.str (aR f))):=hH rfl (hG λZ Z=>rfl)
theorem Qu{xs:List D}{x y:D}:ef (xs++ [x,y]) (-2)=some x:=by
 show sq (xs++ [x,y]) (-2)=_
 unfold sq
 exact aa (bF ..)<|aa (if_pos (by show -((xs.length:Int)+2)<= -2;lia))<|aa (show((-2:Int)+((xs.length+ [x,y].length:Nat):Int)).toNat=xs.length by show((-2:Int)+((xs.length:Int)+2)).toNat=_;lia)<|lM
theorem Qr{m:ME}{ρ:aC}{σ ao:MH}{d:D}{xs:List D}(h:m ρ σ=some (d,ao))(k:d.i9=none)(P:gP ao d=some xs):MI.of m ρ σ=some (fj d,xs.length+1,ao):=bs h (by exact aa (k ..)<|bs P rfl)
theorem My{σ:MH}{d:D}{xs:List D}{j:Nat}(h:gP σ d=some xs):fj d σ j=some xs[j]?:=bs h rfl
structure LawC where
 ls:List Ln
 tl:List (List Nat)
 pl:List Nat->Pl
 oi:List Nat->Nat
 lc:Nat->Nat
 N0:Nat
 A:Nat
 aW:MH
 dn:List (List Nat)
 ki:List Nat->Nat
 wi:Nat
 n6:ls.length=6
 ok:∀l∈ls,l.Ok
 lf:∀l∈ls,l.f∈ []::tl
 C:lG tl pl N0
 ms:∀f∈ []::tl,(pl f).ms=dF ls f
 nd:dn.Nodup
 dm:∀f,f∈dn↔f∈ []::tl
 dh:dn.head?=some []
 hL:rq aW lc ls
 lt:∀m,m<ls.length->lc m<N0
noncomputable def zR:List String:=["lines","ways","folders","plain","own","answers","order","kept","whole"]
structure LawC.St(L:LawC)(ρ:aC)(σ:MH):Prop where
 vl:ρ "lines" =some (.list (L.ls.map cW))
 vy:ρ "ways" =some (.dict (dk fQ ([]::L.tl)))
 vf:ρ "folders" =some (.list (([]::L.tl).map aB))
 vp:ρ "plain" =some (.dict (dk (λf=>b_ (L.pl f)) ([]::L.tl)))
 vo:ρ "own" =some (.dict (dk (bV L.oi) ([]::L.tl)))
 va:ρ "answers" =some (.ref L.A)
 vd:ρ "order" =some (.ref (L.A+1))
 vk:ρ "kept" =some (.ref (L.A+2))
 vw:ρ "whole" =some (.ref L.wi)
 an:σ.cell L.A=some (.list ((g5 L.tl L.dn).map g0++ [.tup [.str "False",.tup []]]))
 od:σ.cell (L.A+1)=some (.list (L.dn.map aB))
 W:WR L.tl L.pl L.oi L.lc L.N0 L.A L.aW L.dn L.dn L.ki L.wi σ
section
variable {L:LawC} {ρ ae:aC} {σ ab:MH} {f:List Nat}
theorem LawC.St.ag(H:L.St ρ σ)(k:∀z∈zR,ae z=ρ z):L.St ae σ:=
 ⟨(k _ (by decide)).trans H.vl,(k _ (by decide)).trans H.vy,(k _ (by decide)).trans H.vf,(k _ (by decide)).trans H.vp,(k _ (by decide)).trans H.vo,(k _ (by decide)).trans H.va,(k _ (by decide)).trans H.vd,(k _ (by decide)).trans H.vk,(k _ (by decide)).trans H.vw,H.an,H.od,H.W⟩
theorem LawC.St.agree{own:List String}(H:L.St ρ σ)(h:Agree own ρ ae)(a:∀z∈zR,z∉own):L.St ae σ:=H.ag λz J=>h z (a z J)
theorem LawC.St.set{x:String}{d:D}(H:L.St ρ σ)(U:x∉zR):L.St (ρ.set x d) σ:=H.ag λz J=>if_neg (c:=z=x) λq=>U (q▸J)
theorem LawC.St.ext(H:L.St ρ σ)(h:Ext σ.next σ ab):L.St ρ ab:=
 have lt:∀{i},i<L.A+3->i<σ.next:=λh=>a9 h H.W.nx
 {H with an:=(h.old _ (lt (ff (by decide)))).trans H.an,od:=(h.old _ (lt (xM (ff (by decide))))).trans H.od,W:=H.W.keep (λi Z w=>h.old i w) h.le}
theorem LawC.cG(L:LawC):dZ ([]::L.tl):=λg u=>(List.mem_cons.mp u).elim (λe=>e▸by decide) (L.C.T.cG g)
theorem LawC.lines(H:L.St ρ σ):rq σ L.lc L.ls:=λm l h=>(H.W.old _ (L.lt m (List.getElem?_eq_some_iff.mp h).1)).trans (L.hL m l h)
theorem LawC.qU(L:LawC):([]::L.tl).length<=19:=jZ L.C.T.z
theorem LawC.Bk(H:L.St ρ σ):(ME.slice (.var "folders") (some (.int 1)) .none) ρ σ=some (.list (L.tl.map aB),σ):=
 (kc (l:=some (1:Nat)) (u:=none) (av H.vf) rfl rfl rfl rfl).trans (by exact aa (A5 (ub 1 _) ..) rfl)
theorem Es{m:ME}(H:L.St ρ σ)(I:f∈L.tl)(h:m ρ σ=some (aB f,σ)):(ME.idx (.idx (.var "ways") m) (.neg (.int 2))) ρ σ=some (aB f.dropLast,σ):=by
 refine aJ (e:=.int (-2)) (aJ (d:=.dict (dk fQ ([]::L.tl))) (e:=aB f) (av H.vy) h (h7 L.cG (bT _ I))) rfl (show ef ((cP f).map aB) (-2)=_ from ?_)
 exact aa (Bu (L.C.T.ne f I) ..)<|aa (Bs ..)<|aa (ey ..)<|aa (ey ..)<|aa (iW ..)<|Qu
theorem Og(H:L.St ρ σ):MS.ite (.val (.ne (.aI (.comp (.of (.var "folders")) (.name "folder") [] (.elt (.a8 fm (aG [(.var "folder")]))) [".0","folder"] (.list []))) (.add (.list [(.str "/")]) (.aI (.comp (.of (.slice (.var "folders") (some (.int 1)) .none)) (.name "folder") [] (.elt (.idx (.idx (.var "ways") (.var "folder")) (.neg (.int 2)))) [".0","folder"] (.list [])))))) (.ret (.bool false)) .nil ρ σ=some (.next,ρ,σ):=by
 have J:=L.qU
 have V:ME.aI (.comp (.of (.var "folders")) (.name "folder") [] (.elt (.a8 fm (aG [(.var "folder")]))) [".0","folder"] (.list [])) ρ σ=some (.list ((([]::L.tl).map Cc).map aB),σ):=by
  exact aa (fe ..)<|eV ([]::L.tl) aB _ (cU (av H.vf)) (λj=>fh) (by decide) (λf I ae K t=>d8 (aS (av t) bA) ((gm (L.cG f I)).dir σ)) (cf (by lia))
 have Q:ME.aI (.comp (.of (.slice (.var "folders") (some (.int 1)) .none)) (.name "folder") [] (.elt (.idx (.idx (.var "ways") (.var "folder")) (.neg (.int 2)))) [".0","folder"] (.list [])) ρ σ=some (.list ((L.tl.map Cc).map aB),σ):=by
  exact aa (fe ..)<|eV L.tl aB _ (cU (LawC.Bk H)) (λj=>fh) (by decide) (λf I ae K t=>Es (H.agree K (by decide)) I (av t)) (cf (by have:=L.C.T.z;lia))
 have E:(ME.add (.list [(.str "/")]) (.aI (.comp (.of (.slice (.var "folders") (some (.int 1)) .none)) (.name "folder") [] (.elt (.idx (.idx (.var "ways") (.var "folder")) (.neg (.int 2)))) [".0","folder"] (.list [])))) ρ σ=some (.list ((([]::L.tl).map Cc).map aB),σ):=
  (aJ (d:=.list [aB []]) (congrArg (λs=>some (D.list [D.str s],σ)) (show au "/" =aR [] by decide)) Q (jh (cf (by refine aa (aZ ..)<|aa (aZ ..) ?_;show 1+L.tl.length<=1000;have:=L.C.T.z;lia)))).trans rfl
 exact s_same V E Hw Hw
end
end
section
section
variable {L:LawC} {ρ ae:aC} {σ ab:MH} {f:List Nat}
theorem LawC.tz(L:LawC){n:Nat}(h:n<=L.tl.length):n<=aP:=cf (by have:=L.C.T.z;lia)
noncomputable def u0 (tl:List (List Nat)) (f:List Nat):D:=.tup ((eG tl f).map aB)
noncomputable def Gw:ME:=.aI (.comp (.of (.var "folders")) (.name "folder") [] (.kv (.var "folder") (.ax wD (.aI (.comp (.of (.slice (.var "folders") (some (.int 1)) .none)) (.name "one") [(.val (.eq (.idx (.idx (.var "ways") (.var "one")) (.neg (.int 2))) (.var "folder")))] (.elt (.var "one")) [".0","one"] (.list []))))) [".0","folder"] (.dict []))
theorem QF(H:L.St ρ σ):Gw ρ σ=some (.dict (dk (u0 L.tl) ([]::L.tl)),σ):=by
 have J:=L.qU
 refine En L.cG (List.nodup_cons.mpr ⟨λh=>L.C.T.ne _ h rfl,L.C.T.nd⟩) (by lia) (cU (av H.vf)) (by decide) λf I ae K t=>?_
 have F:=H.agree K (by decide)
 refine eD (d:=.list ((eG L.tl f).map aB)) (mO L.tl aB (λg=>g.dropLast==f) aB (cU (LawC.Bk F)) (λj=>fh) (by decide) (λg u n l a=>⟨?_,λZ=>av a⟩) (L.tz (bb _))) rfl
 refine cz ((aJ (Es (F.agree l (by decide)) u (av a)) (av ((l _ (by decide)).trans t)) (ji (p:=.str (aR g.dropLast)) (q:=.str (aR f)) rfl rfl)).trans ?_)
 exact aa (wz ..)<|aa (AK (Hk (L.C.T.cG g u)) (L.cG f I) ..) rfl
theorem Mh{tl:List (List Nat)}{dn:List (List Nat)}(h:dn≠ []):g5 tl dn= [[]]::dn.dropLast.map (eG tl):=by
 have F:∀(n:Nat) (dn:List (List Nat)),dn.length=n->dn≠ []->g5 tl dn= [[]]::dn.dropLast.map (eG tl):=by
  intro n
  induction n with
  | zero=>intro dn hl h;exact absurd (t7 hl) h
  | succ n S=>
   intro dn hl h
   refine aa (.symm (xq h ..))<|aa (De ..)<|aa (Cd ..) ?_
   by_cases e:dn.dropLast= []
   .exact aa (e ..) rfl
   .refine aa (S dn.dropLast (by rw [lz,hl];rfl) e) ?_
    conv=>rhs;rw [← xq e]
    conv=>lhs;rw [← xq e]
    exact aa (o8 ..)<|aa (ey ..)<|aa (Cd ..) rfl
 exact F _ dn rfl h
noncomputable def yi (r:List (List Nat)):fX:=.tuple [.str "True",.tuple (r.map λf=>.str (aR f))]
theorem Mg(H:L.St ρ σ)(w:ρ "inside" =some (.dict (dk (u0 L.tl) ([]::L.tl)))):MS.ite (.val (.ne (.var "answers") (.add (.add (.list [(.tup [(.str "True"),(.tup [(.str "/")])])]) (.aI (.comp (.of (.slice (.var "order") .none (some (.neg (.int 1))))) (.name "folder") [] (.elt (.tup [(.str "True"),(.idx (.var "inside") (.var "folder"))])) [".0","folder"] (.list [])))) (.list [(.tup [(.str "False"),(.tup [])])])))) (.ret (.bool false)) .nil ρ σ=some (.next,ρ,σ):=by
 have M:L.dn≠ []:=λq=>by have:=L.dh;rw [q] at this;exact nomatch this
 have v:L.dn.length<=19:=aE (rx L.nd λf h=>(L.dm f).mp h) L.qU
 have b:L.dn.dropLast.length<=19:=aE (by exact aa (lz ..)<|Nat.sub_le _ _) v
 have c:(ME.slice (.var "order") .none (some (.neg (.int 1)))) ρ σ=some (.list (L.dn.dropLast.map aB),σ):=
  (kc (l:=none) (u:=some (-1)) (av H.vd) rfl rfl rfl (iC H.od)).trans (by exact aa (HY ..)<|aa (.symm (Cq ..)) rfl)
 have V:ME.aI (.comp (.of (.slice (.var "order") .none (some (.neg (.int 1))))) (.name "folder") [] (.elt (.tup [(.str "True"),(.idx (.var "inside") (.var "folder"))])) [".0","folder"] (.list [])) ρ σ=some (.list (L.dn.dropLast.map λf=>g0 (eG L.tl f)),σ):=
  eV L.dn.dropLast aB _ (cU c) (λj=>fh) (by decide) (λf I ae K t=>iK (aS (d:=.str "True") rfl (aS (aJ (d:=.dict (dk (u0 L.tl) ([]::L.tl))) (av ((K _ (by decide)).trans w)) (av t) (h7 L.cG ((L.dm f).mp (List.dropLast_subset _ I)))) bA)) (dO rfl)) (cf (by lia))
 have m:(g5 L.tl L.dn).map g0=g0 [[]]::L.dn.dropLast.map λf=>g0 (eG L.tl f):=by exact aa (Mh M ..)<|aa (eK ..)<|aa (fe ..) rfl
 have Q:(ME.add (.add (.list [(.tup [(.str "True"),(.tup [(.str "/")])])]) (.aI (.comp (.of (.slice (.var "order") .none (some (.neg (.int 1))))) (.name "folder") [] (.elt (.tup [(.str "True"),(.idx (.var "inside") (.var "folder"))])) [".0","folder"] (.list [])))) (.list [(.tup [(.str "False"),(.tup [])])])) ρ σ=some (.list ((g5 L.tl L.dn).map g0++ [.tup [.str "False",.tup []]]),σ):=by
  refine aa (m ..) ?_
  refine aJ (d:=.list (g0 [[]]::L.dn.dropLast.map λf=>g0 (eG L.tl f))) (e:=.list [.tup [.str "False",.tup []]]) (aJ (d:=.list [g0 [[]]]) (congrArg (λs=>some (D.list [.tup [.str "True",.tup [.str s]]],σ)) (show au "/" =aR [] by decide)) V (jh (cf ?_))) rfl (jh (cf ?_))
  .refine aa (aZ ..) ?_;show 1+_<=1000;lia
  .refine aa (gM ..)<|aa (aZ ..) ?_;show _+1<=1000;lia
 have T:hB (cX σ 5) ((g5 L.tl L.dn).map g0++ [.tup [.str "False",.tup []]])=some ((g5 L.tl L.dn).map yi++ [.tuple [.str "False",.tuple []]]):=by
  have:∀(xs:List (List (List Nat))),hB (cX σ 5) (xs.map g0++ [.tup [.str "False",.tup []]])=some (xs.map yi++ [.tuple [.str "False",.tuple []]]):=λxs=>by
   induction xs with
   | nil=>rfl
   | cons x xs S=>
    refine bs (a:=yi x) (wc (bs (a:=.str "True") rfl (bs (bs (wc (k:=3) (hG (p:=λf=>xW (aR f)) λZ Z=>rfl)) (bs (a:=[]) rfl rfl)) rfl))) (bs S rfl)
  exact this _
 exact s_same (av H.va) Q (hH (iC H.an) T) (hH rfl T)
end
end
section
section
variable {L:LawC} {ρ ae:aC} {σ ab:MH} {f:List Nat}
theorem LawC.dz(L:LawC):L.dn.length<=19:=aE (rx L.nd λf h=>(L.dm f).mp h) L.qU
theorem LawC.uL(L:LawC):L.dn≠ []:=λq=>by have:=L.dh;rw [q] at this;exact nomatch this
noncomputable def LawC.mg (L:LawC) (fs:List (List Nat)):Pl:=eL (fs.map L.pl)
theorem LawC.sL(L:LawC){fs:List (List Nat)}(h:∀g∈fs,g∈ []::L.tl)(H:fs≠ [])(J:fs.length<=100):(L.mg fs).Ok/\(L.mg fs).ms.length<=2000:=AI L.C h H J
theorem LawC.mg_lt(L:LawC){fs:List (List Nat)}(h:∀g∈fs,g∈ []::L.tl):∀m∈(L.mg fs).ms,m<L.ls.length:=λm z=>by
 refine aw (List.mem_flatMap.mp (show m∈(fs.map L.pl).flatMap Pl.ms from z)) λp T z=>?_
 refine aw (List.mem_map.mp T) λg u B=>?_;obtain rfl:=B
 rw [L.ms g (h g u)] at z
 refine aw (jM.mp z) λl h Z=>?_
 exact(List.getElem?_eq_some_iff.mp h).1
theorem qD{n:Nat}(h:n<=2000):n<=aP:=aE h (by decide)
theorem zc(H:L.St ρ σ){m:ME}{d:D}{fs:List (List Nat)}(h:∀g∈fs,g∈ []::L.tl)(Z:fs≠ [])(J:fs.length<=100)(z:m ρ σ=some (d,σ))(P:d.i9=none)(B:gP σ d=some (fs.map aB)):
 (ME.a8 mm (aG [(.aI (.comp (.of m) (.name "one") [] (.elt (.idx (.var "plain") (.var "one"))) [".0","one"] (.list [])))])) ρ σ=some (b_ (L.mg fs),σ):=by
 refine d8 (aS (d:=.list ((fs.map L.pl).map b_)) ?_ bA) (Sp (λq=>Z (List.map_eq_nil_iff.mp q)) (by refine aa (aZ ..) ?_;lia) (qD (L.sL h Z J).2) (λp T=>by refine aw (List.mem_map.mp T) λg u R=>?_;obtain rfl:=R;exact L.C.ok g (h g u)) σ)
 exact aa (fe ..)<|eV fs aB (λf=>b_ (L.pl f)) (Qr z P B) (λj=>My B) (by decide) (λf I ae K t=>aJ (d:=.dict (dk (λf=>b_ (L.pl f)) ([]::L.tl))) (av ((K _ (by decide)).trans H.vp)) (av t) (h7 L.cG (h f I))) (cf (by lia))
theorem LawC.St.whole(H:L.St ρ σ):∃a b,Rec σ L.lc a b L.wi (L.mg L.dn)/\b<=σ.next:=by
 have:=H.W.IM
 rw [show p6 L.dn=L.dn from if_neg L.uL] at this
 exact this
theorem Th{xs I:List D}{d:D}(h:bU σ d=some I)(J:xs.length+I.length<=aP):pX (.list xs) d σ=some (.list (xs++I)):=show(bU σ d).bind (λI=>yc xs I)=_ from bs h (if_pos J)
noncomputable def z7:ME:=.list [(.a8 fT (aG [(.var "whole")])),(.a8 fT (aG [(.a8 gX (aG [(.idx (.var "own") (.str "/")),(.var "whole")]))]))]
noncomputable def z6:ME:=.aI (.comp (.of (.list [(.var "order"),(.add (.list [(.str "/")]) (.var "order"))])) (.name "row") [] (.elt (.a8 mm (aG [(.aI (.comp (.of (.var "row")) (.name "one") [] (.elt (.idx (.var "plain") (.var "one"))) [".0","one"] (.list [])))]))) [".0","row"] (.list []))
theorem HF:(au "/")=aR []:=by decide
theorem V1(H:L.St ρ σ):∃ab,MS.ite (.val (.ne z7 z6)) (.ret (.bool false)) .nil ρ σ=some (.next,ρ,ab)/\L.St ρ ab:=by
 have n:∀g∈L.dn,g∈ []::L.tl:=λg Z=>(L.dm g).mp Z
 have v:=L.dz
 have w:L.dn.length<=100:=by lia
 refine fc H.whole λa b y hb=>?_;refine ew y λu r m=>?_
 refine aA (L.sL n L.uL (by lia)) λO J=>?_
 refine fc (H.W.sX (f:=[]) a0) λk B h' z=>?_
 refine dG (Af h' ⟨u,r,m⟩ z hb (L.C.ok [] a0) O (by have:=L.C.ms [] a0;exact aE (K6 this J) (by decide))) λao P R M G=>?_;refine ew G λq X h=>?_
 have o:=H.ext M
 have N:(ME.idx (.var "own") (.str "/")) ρ σ=some (.ref (L.oi []),σ):=aJ (d:=.dict (dk (bV L.oi) ([]::L.tl))) (e:=aB []) (av H.vo) (congrArg (λs=>some (D.str s,σ)) HF) (h7 L.cG a0)
 have i:L.dn= []::L.dn.tail:=by
  have:=L.dh
  induction e:L.dn with
  | nil=>rw [e] at this;exact nomatch this
  | cons x xs=>rw [e] at this;obtain rfl:=aM this;rfl
 have T:o5 (L.pl []) (L.mg L.dn)=L.mg ([]::L.dn):=by
  unfold LawC.mg
  exact aa (i ..)<|(Sq (L.pl []) (L.dn.tail.map L.pl)).symm
 have l:∀g∈ []::L.dn,g∈ []::L.tl:=λg Z=>(List.mem_cons.mp Z).elim (λe=>e▸a0) (n g)
 have c:([]::L.dn).length<=100:=by refine aa (gM ..) ?_;lia
 rw [T] at h
 have V:(ME.a8 fT (aG [(.var "whole")])) ρ σ=some (l5 u (L.mg L.dn),σ):=d8 (aS (av H.vw) bA) (wB m (LawC.lines H) (L.mg_lt n) (qD J))
 have Q:(ME.a8 fT (aG [(.a8 gX (aG [(.idx (.var "own") (.str "/")),(.var "whole")]))])) ρ σ=some (l5 q (L.mg ([]::L.dn)),ao):=
  d8 (aS (d8 (aS N (aS (av H.vw) bA)) P) bA) (wB h (LawC.lines o) (L.mg_lt l) (qD (L.sL l (jX _ _) c).2))
 have E:z7 ρ σ=some (.list [l5 u (L.mg L.dn),l5 q (L.mg ([]::L.dn))],ao):=j9 (aS V (aS Q bA)) (dO rfl)
 have I:(ME.add (.list [(.str "/")]) (.var "order")) ρ ao=some (.list (([]::L.dn).map aB),ao):=
  aJ (d:=.list [aB []]) (congrArg (λs=>some (D.list [D.str s],ao)) HF) (av H.vd) (Th (iC o.od) (cf (by refine aa (aZ ..) ?_;show 1+_<=1000;lia)))
 have S:z6 ρ ao=some (.list [b_ (L.mg L.dn),b_ (L.mg ([]::L.dn))],ao):=
  eV [(D.ref (L.A+1),L.dn),(.list (([]::L.dn).map aB),[]::L.dn)] (·.1) (λx=>b_ (L.mg x.2)) (cU (j9 (aS (av H.vd) (aS I bA)) (dO rfl))) (λj=>fh) (by decide) (λx U ae K t=>by
   have F:=o.agree K (by decide)
   rcases List.mem_cons.mp U with rfl| U
   .exact zc F n L.uL w (av t) rfl (uo o.od)
   .obtain rfl:=List.mem_singleton.mp U
    exact zc F l (jX _ _) c (av t) rfl rfl) (dO rfl)
 refine⟨ao,s_same E S (p:=.list [qp (L.mg L.dn),qp (L.mg ([]::L.dn))]) ?_ ?_,o⟩
 .exact hH rfl (bs (wb ((M.old _ (a9 m.u2 hb)).trans m.cu)) (bs (bs (wb h.cu) (bs (a:=[]) rfl rfl)) rfl))
 .exact hH rfl (bs s9 (bs (bs s9 (bs (a:=[]) rfl rfl)) rfl))
end
end
section
section
variable {L:LawC} {ρ ae:aC} {σ ab:MH} {f:List Nat}
theorem Ik{d:D}{p:fX}(h:d.bool?=none)(k:cX σ 6 d=some p)(q:strOf p=true):nk d σ=some (.str p.shown):=by
 unfold nk;exact aa (h ..)<|bs k (if_pos q)
theorem Vw(a b c:Bool)(σ:MH):∃s,nk (.list [.bool a,.bool b,.bool c]) σ=some (.str s):=
 ⟨_,Ik (p:=.list [.bool a,.bool b,.bool c]) rfl rfl (by induction a<;>induction b<;>induction c<;>kernel_rfl)⟩
theorem Vv(a b:Bool)(σ:MH):∃s,nk (.list [.bool a,.bool b]) σ=some (.str s):=⟨_,Ik (p:=.list [.bool a,.bool b]) rfl rfl (by induction a<;>induction b<;>kernel_rfl)⟩
theorem uM{m:ME}(H:L.St ρ σ)(I:f∈ []::L.tl)(h:m ρ σ=some (aB f,σ)):(ME.idx (.var "kept") m) ρ σ=some (.ref (L.ki f),σ):=
 aJ (d:=.ref (L.A+2)) (e:=aB f) (av H.vk) h ((sr H.W.kd rfl rfl).trans (h7 (λg u=>L.cG g ((L.dm g).mp u)) ((L.dm f).mpr I)))
theorem LawC.way(L:LawC)(I:f∈ []::L.tl):(L.mg (cP f)).Ok/\(L.mg (cP f)).ms.length<=2000:=L.sL (nE L.C I) wH (by refine aa (wG ..) ?_;have:=(gm (L.cG f I)).mZ;lia)
theorem LawC.St.kept(H:L.St ρ σ)(I:f∈ []::L.tl):∃a b u r,RecAt σ L.lc a b (L.ki f) (L.mg (cP f)) u r:=by
 refine fc (H.W.FU ((L.dm f).mpr I)) λa b B Z=>?_;refine ew B λu r h=>?_
 exact⟨a,b,u,r,h⟩
theorem ze{m:ME}(H:L.St ρ σ)(I:f∈ []::L.tl)(h:m ρ σ=some (aB f,σ)):∃u,(ME.a8 fT (aG [(.idx (.var "kept") m)])) ρ σ=some (l5 u (L.mg (cP f)),σ)/\σ.cell u=some (.list ((L.mg (cP f)).ag.map .str)):=by
 refine BE (H.kept I) λa b u r R=>?_
 exact⟨u,d8 (aS (uM H I h) bA) (wB R (LawC.lines H) (L.mg_lt (nE L.C I)) (qD (L.way I).2)),R.cu⟩
noncomputable def Gu:ME:=.aI (.comp (.of (.list [(.str "Big*Figs/plum"),(.str "xpLumy"),.none_])) (.name "name") [] (.elt (.dC 59 "applies_to" pA (.idx (.var "kept") (.var "folder")) (aG [(.var "name")]))) [".0","name"] (.list []))
noncomputable def Gv:ME:=.aI (.comp (.of (.list [(.str "fig"),(.str "Plum"),(.str "*")])) (.name "agent") [] (.elt (.jH (.var "agent") (.idx (.var "due") (.int 0)))) [".0","agent"] (.list []))
noncomputable def vD:MS:=.cons (.assign (.name "due") (.a8 mm (aG [(.aI (.comp (.of (.idx (.var "ways") (.var "folder"))) (.name "one") [] (.elt (.idx (.var "plain") (.var "one"))) [".0","one"] (.list [])))]))) (.cons (.assign (.name "heard") Gu) (.ite (.or (.val (.ne (.a8 fT (aG [(.idx (.var "kept") (.var "folder"))])) (.var "due"))) (.val (.ne (.ax jR (.var "heard")) (.ax jR Gv)))) (.ret (.bool false)) .nil))
theorem Oj(H:L.St ρ σ)(I:f∈ []::L.tl)(N:ρ "folder" =some (aB f)):∃ae,vD ρ σ=some (.next,ae,σ)/\L.St ae σ:=by
 have O:=(gm (L.cG f I)).mZ
 let p:=L.mg (cP f)
 have V:=zc (m:=.idx (.var "ways") (.var "folder")) (d:=fQ f) H (nE L.C I) wH (by refine aa (wG ..) ?_;lia) (aJ (d:=.dict (dk fQ ([]::L.tl))) (e:=aB f) (av H.vy) (av N) (h7 L.cG I)) rfl rfl
 let bw:=ρ.set "due" (b_ p)
 have o:L.St bw σ:=H.set (by decide)
 have k:bw "folder" =some (aB f):=(if_neg (by decide)).trans N
 refine BE (H.kept I) λa b u r R=>?_
 have g:=(L.way I).1
 let h:aj->D:=λx=>.bool (p.ag.contains x)
 have Q:Gu bw σ=some (.list [h "fig",h "Plum",h "*"],σ):=
  eV [(D.str "Big*Figs/plum",h "fig"),(D.str "xpLumy",h "Plum"),(D.none,h "*")] (·.1) (·.2) (cU rfl) (λj=>fh) (by decide) (λx U ae K t=>by
   refine jC (i:=L.ki f) (uM (o.agree K (by decide)) I (av ((K _ (by decide)).trans k))) R.ci rfl (aS (av t) bA) ?_
   rcases List.mem_cons.mp U with rfl| U
   .exact Fm R g PD
   .rcases List.mem_cons.mp U with rfl| U
    .exact Fm R g PE
    .obtain rfl:=List.mem_singleton.mp U
     exact Vs R) (dO rfl)
 let M:=bw.set "heard" (.list [h "fig",h "Plum",h "*"])
 have G:L.St M σ:=o.set (by decide)
 have E:Gv M σ=some (.list [h "fig",h "Plum",h "*"],σ):=
  eV [("fig" :aj),"Plum","*"] D.str h (cU rfl) (λj=>fh) (by decide) (λx U ae K t=>by
   have P:ae "due" =some (b_ p):=(K "due" (by decide)).trans rfl
   exact aJ (av t) (aJ (d:=b_ p) (e:=.int 0) (r:=gh p.ag) (av P) rfl rfl) (vV ((Az (p:=.str x) rfl (hG λZ Z=>rfl)).trans (congrArg some yj)))) (dO rfl)
 refine aw (ze (m:=.var "folder") G I (av ((if_neg (by decide)).trans k))) λq S l=>?_
 have c:M "due" =some (b_ p):=rfl
 refine aL (Vw (p.ag.contains "fig") (p.ag.contains "Plum") (p.ag.contains "*") σ) λs B=>?_
 refine⟨M,aK (bt V) (aK (bt Q) (d_ (MK (cz (aJ S (av c) (vW (wb l) s9))) (cz (aJ (eD (av rfl) B) (eD E B) (vW (p:=.str s) rfl rfl)))) rfl)),G⟩
theorem Oi(H:L.St ρ σ):∃ae,MS.cD (.of (.var "folders")) (.name "folder") vD ρ σ=some (.next,ae,σ)/\L.St ae σ:=by
 refine jO ([]::L.tl) aB (mi:=.of (.var "folders")) (t:=.name "folder") (body:=vD) (ρ:=ρ) (σ:=σ) (λZ ae ab=>ab=σ/\L.St ae ab) (λo ae ab=>o=.next/\ab=σ/\L.St ae ab) (cU (av H.vf)) (λZ Z Z Z Z=>fh) ⟨rfl,H⟩
  (λl f r ae ab B R=>aA R λe F=>by
    subst e
    refine aw (Oj (ρ:=ae.set "folder" (aB f)) (F.set (by decide)) (B▸d0 _ a0) (if_pos rfl)) λn e b=>?_
    exact⟨_,bs rfl e,rfl,b⟩) (λae ab h=>⟨rfl,h⟩) λo ae ab y S=>?_
 refine bP S λs V F=>?_
 subst s V
 exact⟨ae,y,F⟩
end
end
section
section
variable {L:LawC} {ρ ae:aC} {σ ab:MH} {f:List Nat}
noncomputable def pe (f:List Nat):List aj:=f.map λx=>("/" :aj)++nm x
noncomputable def D0 (f:List Nat) (e:Nat):Bool:=t5 "" (pe f) && (fB (iZ "" (pe f)) && ((f.all λx=>decide ((au "/").length+(nm x).length<=aP)) && (decide ((iZ "" (pe f)).length+(au "/").length<=aP) && (decide ((iZ "" (pe f)++ "/").length+(en e).length<=aP) && (iZ "" (pe f)++ "/" ++en e==bS f e)))))
theorem NG:(b7.all λf=>r4 λe=>D0 f e)=true:=by kernel_rfl
noncomputable def gV (l:Ln):D:=.tup [.str (bS l.f l.e),.bool l.al]
noncomputable def Gy:ME:=.aI (.comp (.of (.var "lines")) (.name "line") [] (.elt (.tup [(.add (.add (.bh jd (.str "") (.aI (.comp (.of (.idx (.var "line") (.int 1))) (.name "name") [] (.elt (.add (.str "/") (.var "name"))) [".0","name"] (.list [])))) (.str "/")) (.idx (.var "line") (.int 2))),(.idx (.var "line") (.int 3))])) [".0","line"] (.list []))
theorem UO(H:L.St ρ σ):Gy ρ σ=some (.list (L.ls.map gV),σ):=
 eV L.ls cW gV (cU (av H.vl)) (λj=>fh) (by decide) (λl hl ae K t=>by
  have k:=L.ok l hl
  have h:=ta (List.all_eq_true.mp NG l.f k.f) k.e
  unfold D0 at h
  simp only [jo,decide_eq_true_eq,Cb] at h
  refine wO h λN E A o O c=>?_
  have V:ME.aI (.comp (.of (.idx (.var "line") (.int 1))) (.name "name") [] (.elt (.add (.str "/") (.var "name"))) [".0","name"] (.list [])) ae σ=some (.list ((pe l.f).map .str),σ):=by
   refine aa (show(pe l.f).map D.str=l.f.map λx=>.str (("/" :aj)++nm x) from fe) ?_
   have a:(ME.idx (.var "line") (.int 1)) ae σ=some (.list (l.f.map λx=>.str (nm x)),σ):=(rZ (av t)).trans (by unfold fD;exact aa (fe ..) rfl)
   exact eV l.f (λx=>D.str (nm x)) (λx=>.str (("/" :aj)++nm x)) (cU a) (λj=>fh) (by decide) (λx U n hb J=>aJ (d:=.str "/") rfl (av J) (sV (A x U))) (cf (by have:=(gm k.f).mZ;lia))
  refine iK (aS (d:=.str (bS l.f l.e)) ?_ (aS (aJ (e:=.int 3) (av t) rfl rfl) bA)) (dO rfl)
  exact aa (.symm (eq_of_beq c ..))<|aJ (aJ (aJ (d:=.str "") rfl V (AA rfl N E)) (e:=.str "/") rfl (sV o)) (aJ (e:=.int 2) (av t) rfl rfl) (sV O)) (cf (by have:=L.n6;lia))
noncomputable def LawC.path (L:LawC) (m:Nat):aj:=(L.ls[m]?.map λl=>bS l.f l.e).getD ""
theorem T8(H:L.St ρ σ)(o:ρ "rules" =some (.list (L.ls.map gV))):MS.ite (.val (.ne (.aI (.comp (.of (.ax (aV 59 "rulelines") (.var "whole"))) (.name "line") [] (.elt (.ax (aV cj "path") (.var "line"))) [".0","line"] (.list []))) (.aI (.comp (.of (.ax (aV 59 "rulelines") (.var "whole"))) (.name "line") [] (.elt (.idx (.idx (.var "rules") (.ax (aV cj "mark") (.var "line"))) (.int 0))) [".0","line"] (.list []))))) (.ret (.bool false)) .nil ρ σ=some (.next,ρ,σ):=by
 have n:∀g∈L.dn,g∈ []::L.tl:=λg k=>(L.dm g).mp k
 refine fc H.whole λa b B hb=>?_;refine ew B λu r R=>?_
 have J:=qD (L.sL n L.uL (by have:=L.dz;lia)).2
 have c:∀m∈(L.mg L.dn).ms,∃l,L.ls[m]?=some l/\nW σ (L.lc m) m l/\L.path m=bS l.f l.e:=λm z=>by
  have h:=gL (L.mg_lt n m z)
  exact⟨_,h,LawC.lines H m _ h,by unfold LawC.path;exact aa (h ..) rfl⟩
 have T:∀m:ME,(∀i∈(L.mg L.dn).ms,∀ae,Agree [".0","line"] ρ ae->ae "line" =some (.ref (L.lc i))->m ae σ=some (.str (L.path i),σ))->
  ME.aI (.comp (.of (.ax (aV 59 "rulelines") (.var "whole"))) (.name "line") [] (.elt m) [".0","line"] (.list [])) ρ σ=some (.list ((L.mg L.dn).ms.map λi=>.str (L.path i)),σ):=λm z=>
  eV (L.mg L.dn).ms (λi=>.ref (L.lc i)) _ (sm (cO (av H.vw) R.ci rfl) R.cr) (λj=>rQ R.cr) (by decide) z J
 refine s_same (T _ λi w ae K t=>?_) (T _ λi w ae K t=>?_) (hH rfl (hG λZ Z=>rfl)) (hH rfl (hG (p:=λi=>.str (L.path i)) λZ Z=>rfl))
 .refine bI (c i w) λl N E A=>?_
  exact aa (A ..)<|cO (av t) E rfl
 .refine bI (c i w) λl N E A=>?_
  exact aa (A ..)<|aJ (d:=gV l) (e:=.int 0) (aJ (d:=.list (L.ls.map gV)) (e:=iD i) (av ((K _ (by decide)).trans o)) (cO (av t) E rfl) (show ef (L.ls.map gV) (i:Int)=_ by exact aa (oS ..)<|aa (gg ..)<|aa (N ..) rfl)) rfl rfl
end
end
section
noncomputable def nB (x y:Int×Bool):Bool:=if x.1=y.1 then x.2 && !y.2 else decide (x.1>y.1)
theorem IA{x y:Int×Bool}(h:x.1=y.1):nB x y=(x.2 && !y.2):=if_pos h
theorem VT{x y:Int×Bool}(h:x.1≠y.1):nB x y=decide (x.1>y.1):=if_neg h
theorem Bj{x y:Int×Bool}:nB x y=true↔x.1>y.1∨(x.1=y.1/\x.2=true/\y.2=false):=by
 by_cases h:x.1=y.1
 .exact aa (IA h ..)<|aa (jo ..)<|aa (pn ..)<|⟨λk=>.inr ⟨h,k⟩,λk=>k.elim (λq=>absurd h (rj q)) (·.2)⟩
 .rw [VT h,decide_eq_true_iff]
  exact⟨.inl,λk=>k.elim id λq=>absurd q.1 h⟩
theorem VU:jz nB where
 qc a:=by refine aa (IA rfl ..) ?_;induction a.2<;>rfl
 tr h k:=by
  rw [Bj] at*
  rcases h with h| ⟨h1,h2,h3⟩<;>rcases k with k| ⟨k1,k2,k3⟩
  .exact .inl (B5 k h)
  .exact .inl (k1▸h)
  .exact .inl (h1▸k)
  .rw [h3] at k2;exact nomatch k2
 qE {a b} h k:=by
  rw [← wX,Bj] at h k
  obtain⟨i,p⟩:=a
  obtain⟨j,q⟩:=b
  obtain rfl:i=j:=Int.le_antisymm (Int.not_lt.mp λq=>h (.inl q)) (Int.not_lt.mp λq=>k (.inl q))
  induction p<;>induction q
  .rfl
  .exact absurd (.inr ⟨rfl,rfl,rfl⟩) k
  .exact absurd (.inr ⟨rfl,rfl,rfl⟩) h
  .rfl
noncomputable def lS (x:Int×Bool):D:=.tup [.int x.1,.bool x.2]
theorem NP(σ:MH)(x y:Int×Bool):i8 σ true (lS x) (lS y)=some (nB x y):=by
 obtain⟨i,b⟩:=x
 obtain⟨j,c⟩:=y
 refine(show i8 σ true (lS (i,b)) (lS (j,c))=some (o4 true [.int i,.bool b] [.int j,.bool c]) from rfl).trans (congrArg some ?_)
 show(if (i==j)=true then (if (b==c)=true then false else (b && !c)) else decide (i>j))=nB (i,b) (j,c)
 unfold nB
 by_cases h:i=j
 .refine aa (if_pos h ..)<|aa (if_pos (beq_iff_eq.mpr h) ..) ?_;induction b<;>induction c<;>rfl
 .exact aa (if_neg h ..)<|aa (if_neg λq=>h (beq_iff_eq.mp q) ..) rfl
theorem UM{H:List (Nat×Bool)}{m:Int×Bool}(z:m∈(-1,true)::H.map λx=>((x.1:Int),x.2))(U:∀x∈(-1,true)::H.map λx=>((x.1:Int),x.2),nB x m=false):tQ H m.2:=by
 have S:∀x∈H,¬((x.1:Int)>m.1∨((x.1:Int)=m.1/\x.2=true/\m.2=false)):=λx h q=>by
  have:=U ((x.1:Int),x.2) (bT _ (List.mem_map.mpr ⟨x,h,rfl⟩))
  rw [← wX,Bj] at this
  exact this q
 rcases List.mem_cons.mp z with rfl| z
 .induction H with
  | nil=>exact⟨.inl ⟨rfl,rfl⟩⟩
  | cons x H=>exact absurd (.inl (show(-1:Int)<(x.1:Int) by lia)) (S x a0)
 .refine aw (List.mem_map.mp z) λy t B=>?_;obtain rfl:=B
  refine⟨.inr ⟨y.1,λx h=>Nat.not_lt.mp λq=>S x h (.inl (Int.ofNat_lt.mpr q)),⟨y,t,rfl⟩,λq=>⟨y,t,rfl,q⟩,λC=>bI C λx h V Q=>?_⟩⟩
  induction hb:y.2 with
  | true=>rfl
  | false=>exact absurd (.inr ⟨congrArg Nat.cast V,Q,hb⟩) (S x h)
theorem L9{own:List String}{x n:String}{m:ME}{y y' d:D}{ρ:aC}{σ:MH}(U:x∈own)(E:n∈own)(M:x≠n)(h:∀ae,Agree own ρ ae->ae x=some y->ae n=some y'->m ae σ=some (d,σ)):
 ma own (.tup [.name x,.name n]) [] (.elt m) (.tup [y,y']) ρ σ [d]:=λae f A J=>
 have K:Agree own ρ ((ae.set x y).set n y'):=(A.set U).set E
 ⟨_,bs (a:=((ae.set x y).set n y',σ)) rfl (bs (a:=(true,σ)) rfl (wR (h _ K ((if_neg M).trans (if_pos rfl)) (if_pos rfl)) J)),K⟩
section
variable {L:LawC} {ρ ae:aC} {σ ab:MH} {f:List Nat}
noncomputable def hD (x:Nat×Bool):D:=lS ((x.1:Int),x.2)
noncomputable def z3:ME:=.aI (.comp (.of (.var "rules")) (.tup [(.name "path"),(.name "allowed")]) [(.val (.eq (.slice (.var "name") .none (some (.ax bW (.var "path")))) (.var "path")))] (.elt (.tup [(.ax bW (.var "path")),(.var "allowed")])) [".0","path","allowed"] (.list []))
theorem PW{name:aj}(m:ρ "rules" =some (.list (L.ls.map gV)))(G:ρ "name" =some (.str name)):z3 ρ σ=some (.list ((L.ls.flatMap (hits name)).map hD),σ):=by
 have e:(L.ls.flatMap λl=>if hit name (bS l.f l.e) then [hD ((bS l.f l.e).length,l.al)] else [])=(L.ls.flatMap (hits name)).map hD:=by
  refine aa (Ct ..) ?_
  refine congrArg (λg=>Ks g L.ls) (funext λl=>?_)
  unfold hits
  induction hit name (bS l.f l.e)<;>rfl
 have J:∀l:Ln,(if hit name (bS l.f l.e) then [hD ((bS l.f l.e).length,l.al)] else []).length<=1:=λl=>by split<;>exact dO rfl
 refine aa (.symm (e ..)) ?_
 refine oE L.ls gV _ (cU (av m)) (λj=>fh) (λl hl=>C8 (by decide) (by decide) (by decide) λae K N E=>?_) ?_
 .have V:(ME.ax bW (.var "path")) ae σ=some (iD (bS l.f l.e).length,σ):=eD (av N) rfl
  refine⟨cz ((aJ (Eu (av ((K _ (by decide)).trans G)) rfl (mJ V)) (av N) (ji rfl rfl)).trans ?_),iK (aS V (aS (av E) bA)) (dO rfl)⟩
  exact aa (wz ..) rfl
 .have F:∀w:List Ln,(w.flatMap λl=>if hit name (bS l.f l.e) then [hD ((bS l.f l.e).length,l.al)] else []).length<=w.length:=λw=>by
   induction w with
   | nil=>exact bb _
   | cons l w S=>refine aa (nZ ..)<|aa (bF ..)<|aa (gM ..) ?_;have:=J l;lia
  have:=F L.ls
  have c:=L.n6
  exact cf (by lia)
theorem GK{name:aj}{fs:List (List Nat)}(h:∀g∈fs,g∈ []::L.tl){x:Nat×Bool}:x∈((L.mg fs).ms.flatMap λm=>(L.ls[m]?).elim [] (hits name))↔ ∃l∈L.ls,l.f∈fs/\x∈hits name l:=by
 rw [KS]
 constructor
 .rintro ⟨m,z,U⟩
  refine aw (List.mem_flatMap.mp (show m∈(fs.map L.pl).flatMap Pl.ms from z)) λp T z=>?_
  refine aw (List.mem_map.mp T) λg u R=>?_;obtain rfl:=R
  rw [L.ms g (h g u)] at z
  refine aw (jM.mp z) λl hl j=>?_;obtain rfl:=j
  rw [hl] at U
  exact⟨l,lA hl,u,U⟩
 .rintro ⟨l,hl,I,U⟩
  refine aL (Ci hl) λm z=>?_
  exact⟨m,List.mem_flatMap.mpr ⟨L.pl l.f,List.mem_map.mpr ⟨l.f,I,rfl⟩,by exact aa (L.ms _ (h _ I) ..)<|jM.mpr ⟨l,z,rfl⟩⟩,by exact aa (z ..)<|U⟩
end
end
section
section
variable {L:LawC} {ρ ae:aC} {σ ab:MH} {f:List Nat}
noncomputable def vA:MS:=.cons (.assign (.name "right") (.idx (.ax (mE true) (.add (.list [(.tup [(.neg (.int 1)),(.bool true)])]) z3)) (.int 1))) (.ite (.val (.ne (.ax jR (.list [(.dC 59 "allowance" lp (.var "whole") (aG [(.var "name")])),(.dC 59 "allowance" lp (.idx (.var "kept") (.a8 fm (aG [(.var "name")]))) (aG [(.var "name")]))])) (.ax jR (.list [(.var "right"),(.var "right")])))) (.ret (.bool false)) .nil)
noncomputable def vE:ME:=.add (.aI (.comp (.of (.var "rules")) (.tup [(.name "path"),(.name "allowed")]) [] (.elt (.var "path")) [".0","path","allowed"] (.list []))) (.aI (.comp (.of (.var "folders")) (.name "folder") [] (.elt (.a8 iV (aG [(.var "folder"),(.str "b")]))) [".0","folder"] (.list [])))
noncomputable def LawC.sS (L:LawC):List (List Nat×Nat):=L.ls.map (λl=>(l.f,l.e))++([]::L.tl).map λf=>(f,2)
noncomputable def sP (x:List Nat×Nat):D:=.str (bS x.1 x.2)
theorem SJ(H:L.St ρ σ)(m:ρ "rules" =some (.list (L.ls.map gV))):vE ρ σ=some (.list (L.sS.map sP),σ):=by
 have J:=L.qU
 have c:=L.n6
 have V:ME.aI (.comp (.of (.var "rules")) (.tup [(.name "path"),(.name "allowed")]) [] (.elt (.var "path")) [".0","path","allowed"] (.list [])) ρ σ=some (.list (L.ls.map λl=>.str (bS l.f l.e)),σ):=by
  refine aa (show(L.ls.map λl=>D.str (bS l.f l.e))=L.ls.flatMap λl=>[D.str (bS l.f l.e)] from KR) ?_
  refine oE L.ls gV _ (cU (av m)) (λj=>fh) (λl hl=>L9 (y:=.str (bS l.f l.e)) (y':=.bool l.al) (by decide) (by decide) (by decide) λae K N E=>av N) ?_
  exact aa (.symm (KR ..))<|aa (aZ ..)<|cf (by lia)
 have Q:ME.aI (.comp (.of (.var "folders")) (.name "folder") [] (.elt (.a8 iV (aG [(.var "folder"),(.str "b")]))) [".0","folder"] (.list [])) ρ σ=some (.list (([]::L.tl).map λf=>.str (bS f 2)),σ):=
  eV ([]::L.tl) aB _ (cU (av H.vf)) (λj=>fh) (by decide) (λf I ae K t=>d8 (aS (av t) (aS (d:=.str (en 2)) rfl bA)) ((z1 (L.cG f I) (by decide)).join σ)) (cf (by lia))
 refine(aJ V Q (jh (cf (by refine aa (aZ ..)<|aa (aZ ..) ?_;lia)))).trans ?_
 delta LawC.sS sP
 exact aa (ey ..)<|aa (fe ..)<|aa (fe ..) rfl
theorem S6{x:List Nat×Nat}(h:x∈L.sS):x.1∈ []::L.tl/\x.2<4:=by
 rcases List.mem_append.mp h with h| h
 .refine aw (List.mem_map.mp h) λl hl B=>?_;obtain rfl:=B
  exact⟨L.lf l hl,(L.ok l hl).e⟩
 .refine aw (List.mem_map.mp h) λf I R=>?_;obtain rfl:=R
  exact⟨I,(show 2<4 by decide)⟩
theorem Hq{g f:List Nat}(h:g<+:f):g∈cP f:=by
 delta cP
 rw [xB]
 exact⟨g.length,List.mem_range.mpr (K9 h.length_le),(List.prefix_iff_eq_take.mp h).symm⟩
theorem Md{x:List Nat×Nat}(H:L.St ρ σ)(M:ρ "rules" =some (.list (L.ls.map gV)))(U:x∈L.sS)(G:ρ "name" =some (sP x)):∃ae,vA ρ σ=some (.next,ae,σ)/\L.St ae σ/\ae "rules" =some (.list (L.ls.map gV)):=by
 obtain⟨g,e⟩:=x
 refine aA (S6 U) λJ D=>?_
 let name:=bS g e
 have n:∀g∈L.dn,g∈ []::L.tl:=λg J=>(L.dm g).mp J
 let h:=L.ls.flatMap (hits name)
 refine bI (yo VU lS (σ:=σ) (g:=true) (d:=.list (((-1,true)::h.map λx=>((x.1:Int),x.2)).map lS)) (jX _ _) rfl (λx Z y Z=>NP σ x y)) λm z i hb=>?_
 have v:=UM z i
 have N:(ME.add (.list [(.tup [(.neg (.int 1)),(.bool true)])]) z3) ρ σ=some (.list (((-1,true)::h.map λx=>((x.1:Int),x.2)).map lS),σ):=by
  refine(aJ (d:=.list [lS (-1,true)]) rfl (PW (name:=name) M G) (jh (cf ?_))).trans ?_
  .refine aa (aZ ..) ?_
   have F:∀w:List Ln,(w.flatMap (hits name)).length<=w.length:=λw=>by
    induction w with
    | nil=>exact bb _
    | cons l w S=>
     have:(hits name l).length<=1:=by delta hits;induction hit name (bS l.f l.e)<;>exact dO rfl
     refine aa (nZ ..)<|aa (bF ..)<|aa (gM ..) ?_;lia
   have:=F L.ls
   have:=L.n6
   show 1+_<=1000
   lia
  .exact aa (eK ..)<|aa (fe ..) rfl
 let bw:=ρ.set "right" (.bool m.2)
 have o:L.St bw σ:=H.set (by decide)
 have E:bw "name" =some (.str name):=(if_neg (by decide)).trans G
 have c:∀x,x∈h↔ ∃l∈L.ls,x∈hits name l:=λx=>KS
 refine fc o.whole λa b j Z=>?_;refine ew j λu r R=>?_
 have t:=Dd (name:=name) R (LawC.lines o) (L.mg_lt n)
 rw [Dz (EX _) v λx=>(GK n).trans ((exists_congr λl=>and_congr_right λhl=>and_iff_right ((L.dm _).mpr (L.lf l hl))).trans (c x).symm)] at t
 refine BE (o.kept J) λk P q T A=>?_
 have O:=Dd (name:=name) A (LawC.lines o) (L.mg_lt (nE L.C J))
 rw [Dz (EX _) v λx=>(GK (nE L.C J)).trans ((exists_congr λl=>and_congr_right λhl=>and_iff_right_of_imp λU=>?_).trans (c x).symm)] at O
 .have V:(ME.dC 59 "allowance" lp (.var "whole") (aG [(.var "name")])) bw σ=some (.bool m.2,σ):=jC (av o.vw) R.ci rfl (aS (av E) bA) t
  have Q:(ME.dC 59 "allowance" lp (.idx (.var "kept") (.a8 fm (aG [(.var "name")]))) (aG [(.var "name")])) bw σ=some (.bool m.2,σ):=
   jC (uM o J (d8 (aS (av E) bA) ((z1 (L.cG g J) D).dir σ))) A.ci rfl (aS (av E) bA) O
  have I:bw "right" =some (.bool m.2):=rfl
  refine aL (Vv m.2 m.2 σ) λs B=>?_
  exact⟨bw,aK (bt (aJ (e:=.int 1) (eD N hb) rfl rfl)) (d_ (cz (aJ (eD (j9 (aS V (aS Q bA)) (dO rfl)) B) (eD (j9 (aS (av I) (aS (av I) bA)) (dO rfl)) B) (vW (p:=.str s) rfl rfl))) rfl),o,(if_neg (by decide)).trans M⟩
 .unfold hits at U
  induction K:hit name (bS l.f l.e) with
  | false=>rw [K] at U;exact absurd U bQ
  | true=>exact Hq (PU (L.cG g J) D (L.cG _ (L.lf l hl)) (L.ok l hl).e K)
theorem Mb(H:L.St ρ σ)(m:ρ "rules" =some (.list (L.ls.map gV))):∃ae,MS.cD (.of vE) (.name "name") vA ρ σ=some (.next,ae,σ)/\L.St ae σ:=by
 refine jO L.sS sP (mi:=.of vE) (t:=.name "name") (body:=vA) (ρ:=ρ) (σ:=σ) (λZ ae ab=>ab=σ/\L.St ae ab/\ae "rules" =some (.list (L.ls.map gV))) (λo ae ab=>o=.next/\ab=σ/\L.St ae ab) (cU (SJ H m)) (λZ Z Z Z Z=>fh) ⟨rfl,H,m⟩
  (λl x r ae ab B C=>bP C λe F p=>by
    subst e
    refine bI (Md (ρ:=ae.set "name" (sP x)) (F.set (by decide)) ((if_neg (by decide)).trans p) (B▸d0 _ a0) (if_pos rfl)) λn e b a=>?_
    exact⟨_,bs rfl e,rfl,b,a⟩) (λae ab h=>⟨rfl,h.1,h.2.1⟩) λo ae ab y S=>?_
 refine bP S λs V F=>?_
 subst s V
 exact⟨ae,y,F⟩
end
end
section
theorem kP:∀x P:List Nat,∃Q,Q<+:x/\Q<+:P/\(Q=x∨Q=P∨∃a b s t,a≠b/\x=Q++a::s/\P=Q++b::t)
 | [],P=>⟨[],rF,rF,.inl rfl⟩
 | _::_,[]=>⟨[],rF,rF,.inr (.inl rfl)⟩
 | a::s,b::t=>by
  by_cases h:a=b
  .subst h
   refine bI (kP s t) λQ N E A=>?_
   refine⟨a::Q,(KW a).mpr N,(KW a).mpr E,A.imp (congrArg _) (Or.imp (congrArg _) λ⟨c,d,u,v,k,V,Z⟩=>⟨c,d,u,v,k,congrArg _ V,congrArg _ Z⟩)⟩
  .exact⟨[],rF,rF,.inr (.inr ⟨a,b,s,t,h,rfl,rfl⟩)⟩
theorem E0:∀fs:List (List Nat),fs≠ []->∃P,lu P fs
 | [],h=>absurd rfl h
 | [x],_=>⟨x,λy c=>(List.mem_singleton.mp c)▸List.prefix_rfl,.inl a0⟩
 | x::y::fs,_=>by
  refine aL (E0 (y::fs) (jX _ _)) λP F=>?_
  refine bI (kP x P) λQ N E A=>?_
  refine⟨Q,λz J=>(List.mem_cons.mp J).elim (λe=>e▸N) λJ=>E.trans (F.pre z J),?_⟩
  rcases A with rfl| rfl| ⟨a,b,s,t,k,V,rfl⟩
  .exact .inl a0
  .exact F.fin.imp (bT _) λ⟨a,b,s,t,k,V,Z⟩=>⟨a,b,s,t,k,bT _ V,bT _ Z⟩
  .refine aL (F.pre y a0) λr m=>?_
   refine .inr ⟨a,b,s,t++r,k,V▸a0,bT _ ?_⟩
   exact aa (.symm (rA ..))<|aa (.symm (iW ..))<|aa (m ..)<|List.mem_cons_self
theorem S4:((dv 3).all λa=>(dv 3).all λb=>a==b|| !(nm a==nm b))=true:=by kernel_rfl
theorem RM:(b7.all λf=>f.all λa=>decide (a<3))=true:=by kernel_rfl
theorem S5{a b:Nat}(K:a<3)(hb:b<3)(h:a≠b):nm a≠nm b:=λq=>by
 have:=List.all_eq_true.mp (List.all_eq_true.mp S4 a (List.mem_range.mpr K)) b (List.mem_range.mpr hb)
 rw [nK,beq_iff_eq,pn,beq_eq_false_iff_ne] at this
 exact this.elim h λk=>k q
theorem Gm{P s:List Nat}{a:Nat}(h:P++a::s∈b7):a<3:=of_decide_eq_true (List.all_eq_true.mp (List.all_eq_true.mp RM _ h) a (d0 _ a0))
theorem O5{P:List Nat}{fs:List (List Nat)}(I:dZ fs)(F:lu P fs):lu (P.map nm) (fs.map λf=>f.map nm):=by
 refine⟨λy Z=>?_,F.fin.imp (λh=>List.mem_map.mpr ⟨P,h,rfl⟩) λ⟨a,b,s,t,k,V,Q⟩=>⟨nm a,nm b,s.map nm,t.map nm,S5 (Gm (I _ V)) (Gm (I _ Q)) k,List.mem_map.mpr ⟨_,V,ey⟩,List.mem_map.mpr ⟨_,Q,ey⟩⟩⟩
 refine aw (List.mem_map.mp Z) λf h B=>?_;obtain rfl:=B
 exact(F.pre f h).map nm
theorem Wu{P s:List Nat}:cP (P++s)=cP P++(dv s.length).map λk=>P++s.take (k+1):=by
 unfold cP
 refine aa (bF ..)<|aa (show P.length+s.length+1=(P.length+1)+s.length by lia)<|aa (List.range_add ..)<|aa (ey ..)<|aa (fe ..) ?_
 refine congr (congrArg _ (kD λk C=>KX (rJ (List.mem_range.mp C)))) (kD λk C=>?_)
 show(P++s).take (P.length+1+k)=_
 exact aa (show P.length+1+k=P.length+(k+1) by lia)<|aa (List.take_length_add_append ..) rfl
section
variable {L:LawC} {P:List Nat} {fs:List (List Nat)}
noncomputable def LawC.rest (L:LawC) (P s:List Nat):List Nat:=(dv s.length).flatMap λk=>dF L.ls (P++s.take (k+1))
theorem wI{f:List Nat}(I:f∈ []::L.tl):(L.mg (cP f)).ms=(cP f).flatMap (dF L.ls):=by
 show(((cP f).map L.pl).flatMap Pl.ms)=_
 exact aa (Kt ..)<|congrArg List.flatten (kD λg u=>L.ms g (nE L.C I g u))
theorem Bt{s:List Nat}(I:P++s∈ []::L.tl):(L.mg (cP (P++s))).ms=(cP P).flatMap (dF L.ls)++L.rest P s:=by
 rw [wI I,Wu,t8,Kt];rfl
theorem Sn{s:List Nat}{m:Nat}(h:m∈L.rest P s):∃k,∃l,L.ls[m]?=some l/\l.f=P++s.take (k+1):=by
 refine aw (List.mem_flatMap.mp h) λk Z h=>?_
 refine aw (jM.mp h) λl N E=>?_
 exact⟨k,l,N,E⟩
theorem O4(r:∀f∈fs,∃l∈L.ls,l.f=f)(g:P∈ []::L.tl)(F:lu P fs):lu (L.mg (cP P)).ms (fs.map λf=>(L.mg (cP f)).ms):=by
 have D:∀f∈fs,f∈ []::L.tl:=λf I=>by refine aw (r f I) λl hl e=>?_;exact e▸L.lf l hl
 refine⟨λy U=>?_,F.fin.imp (λh=>List.mem_map.mpr ⟨P,h,rfl⟩) λ⟨a,b,s,t,k,V,Q⟩=>?_⟩
 .refine aw (List.mem_map.mp U) λf h K=>?_;obtain rfl:=K
  refine aL (F.pre f h) λs j=>?_;obtain rfl:=j
  exact aa (wI g ..)<|aa (Bt (D _ h) ..)<|List.prefix_append _ _
 .have Z:∀(c:Nat) (u:List Nat),P++c::u∈fs->∃m R,L.rest P (c::u)=m::R/\∃l,L.ls[m]?=some l/\∃v,l.f=P++c::v:=λc u h=>by
   refine aw (r _ h) λl hl e=>?_
   refine aL (Ci hl) λi w=>?_
   have z:i∈L.rest P (c::u):=List.mem_flatMap.mpr ⟨u.length,List.mem_range.mpr (cw _),by exact aa (show(c::u).take (u.length+1)=c::u from Cy (l:=c::u))<|jM.mpr ⟨l,w,e⟩⟩
   induction O:L.rest P (c::u) with
   | nil=>rw [O] at z;exact absurd z bQ
   | cons m R=>
    refine fc (Sn (O▸a0:m∈L.rest P (c::u))) λk M T E=>?_
    exact⟨m,R,rfl,M,T,u.take k,E⟩
  refine fc (Z a s V) λm R p B=>?_;refine aw B λl o N=>?_;refine aL N λv S=>?_
  refine fc (Z b t Q) λd A J n=>?_;refine aw n λM C x=>?_;refine aL x λH G=>?_
  refine⟨m,d,R,A,λq=>?_,List.mem_map.mpr ⟨_,V,?_⟩,List.mem_map.mpr ⟨_,Q,?_⟩⟩
  .rw [q,C] at o
   obtain rfl:=aM o
   rw [G] at S
   exact k (rz (List.append_cancel_left S)).1.symm
  .exact aa (Bt (D _ V) ..)<|aa (wI g ..)<|aa (p ..) rfl
  .exact aa (Bt (D _ Q) ..)<|aa (wI g ..)<|aa (J ..) rfl
end
end
section
section
variable {L:LawC} {ρ ae:aC} {σ ab:MH} {f:List Nat}
noncomputable def vF:ME:=.add (.list [(.tup [(.int 0),(.ax bW (.var "lines"))])]) (.aI (.comp (.gT (.sub (.ax bW (.var "lines")) (.int 1))) (.name "place") [] (.elt (.tup [(.var "place"),(.add (.var "place") (.int 2))])) [".0","place"] (.list [])))
noncomputable def vC:MS:=.cons (.assign (.name "ends") (.aI (.comp (.of (.slice (.var "lines") (some (.var "first")) (some (.var "behind")))) (.name "line") [] (.elt (.add (.str "/") (.bh jd (.str "/") (.idx (.var "line") (.int 1))))) [".0","line"] (.list [])))) (.ite (.val (.ne (.a8 pz (aG [(.aI (.comp (.of (.var "ends")) (.name "end") [] (.elt (.idx (.a8 fT (aG [(.idx (.var "kept") (.var "end"))])) (.int 1))) [".0","end"] (.list [])))])) (.idx (.a8 fT (aG [(.idx (.var "kept") (.a8 px (aG [(.var "ends")])))])) (.int 1)))) (.ret (.bool false)) .nil)
noncomputable def AJ:List (Nat×Nat):=(0,6)::(dv 5).map λk=>(k,k+2)
noncomputable def v9 (x:Nat×Nat):D:=.tup [iD x.1,iD x.2]
theorem T4(H:L.St ρ σ):vF ρ σ=some (.list (AJ.map v9),σ):=by
 have V:(ME.ax bW (.var "lines")) ρ σ=some (iD 6,σ):=len_list (av H.vl) ((aZ _).trans L.n6)
 have Q:ME.aI (.comp (.gT (.sub (.ax bW (.var "lines")) (.int 1))) (.name "place") [] (.elt (.tup [(.var "place"),(.add (.var "place") (.int 2))])) [".0","place"] (.list [])) ρ σ=some (.list ((dv 5).map λk=>v9 (k,k+2)),σ):=
  eV (dv 5) iD _ (at_:=ie (gU 0 1 5)) (ao:=σ) (sk (aJ (r:=.int (5:Nat)) V (e:=.int 1) rfl rfl) (by decide)) (λj=>by exact aa (we ..) rfl) (by decide) (λk C ae K t=>iK (aS (av t) (aS (d:=iD (k+2)) (aJ (e:=.int 2) (av t) rfl rfl) bA)) (dO rfl)) (by decide)
 exact aJ (d:=.list [v9 (0,6)]) (j9 (aS (iK (aS (d:=iD 0) rfl (aS V bA)) (dO rfl)) bA) (dO rfl)) Q (jh (dO rfl))
theorem Vg{xs:List D}{a b:Nat}(h:b<=xs.length)(k:a<=b):jQ xs (some (a:Int)) (some (b:Int))=(xs.drop a).take (b - a):=by
 show(xs.drop (iI xs.length a)).take (iI xs.length b - iI xs.length a)=_
 exact aa (uD h ..)<|aa (uD (aE k h) ..) rfl
theorem N_{a b:Nat}(H:L.St ρ σ)(k:a<b)(hb:b<=6)(N:ρ "first" =some (iD a))(v:ρ "behind" =some (iD b)):∃ae,vC ρ σ=some (.next,ae,σ)/\L.St ae σ:=by
 let sub:=(L.ls.drop a).take (b - a)
 have c:=L.n6
 have y:∀l∈sub,l∈L.ls:=λl hl=>xC (Cu hl)
 have p:sub.length=b - a:=by refine aa (Cm ..)<|aa (t9 ..)<|aa (c ..) ?_;lia
 have M:sub≠ []:=λq=>by rw [q] at p;simp at p;lia
 let fs:=sub.map Ln.f
 have r:∀f∈fs,∃l∈L.ls,l.f=f:=λf I=>by refine aw (List.mem_map.mp I) λl hl B=>?_;obtain rfl:=B;exact⟨l,y l hl,rfl⟩
 have D:∀f∈fs,f∈ []::L.tl:=λf I=>by refine aw (r f I) λl hl e=>?_;exact e▸L.lf l hl
 have d:fs≠ []:=λq=>M (List.map_eq_nil_iff.mp q)
 refine aL (E0 fs d) λP F=>?_
 have g:P∈ []::L.tl:=by
  refine ew (pM d) λx xs e=>?_
  have U:x∈fs:=e▸a0
  exact nE L.C (D x U) P (Hq (F.pre x U))
 have J:sub.length<=100:=by lia
 have s:(ME.slice (.var "lines") (some (.var "first")) (some (.var "behind"))) ρ σ=some (.list (sub.map cW),σ):=by
  refine(kc (xs:=L.ls.map cW) (l:=some (a:Int)) (u:=some (b:Int)) (av H.vl) rfl (mJ (av N)) (mJ (av v)) rfl).trans ?_
  exact aa (Vg (by rw [aZ,c];exact hb) (jy k))<|aa (.symm (xx ..))<|aa (.symm (t_ ..)) rfl
 have V:ME.aI (.comp (.of (.slice (.var "lines") (some (.var "first")) (some (.var "behind")))) (.name "line") [] (.elt (.add (.str "/") (.bh jd (.str "/") (.idx (.var "line") (.int 1))))) [".0","line"] (.list [])) ρ σ=some (.list (fs.map aB),σ):=by
  exact aa (show fs.map aB=sub.map λl=>aB l.f from fe)<|eV sub cW _ (cU s) (λj=>fh) (by decide) (λl hl ae K t=>zd (L.ok l (y l hl)).f (rZ (av t))) (cf (by lia))
 let bw:=ρ.set "ends" (.list (fs.map aB))
 have o:L.St bw σ:=H.set (by decide)
 have O:bw "ends" =some (.list (fs.map aB)):=rfl
 have h:fs.length<=100:=by exact aa (aZ ..)<|J
 have Q:ME.aI (.comp (.of (.var "ends")) (.name "end") [] (.elt (.idx (.a8 fT (aG [(.idx (.var "kept") (.var "end"))])) (.int 1))) [".0","end"] (.list [])) bw σ=some (.list ((fs.map λf=>(L.mg (cP f)).ms).map cZ),σ):=by
  exact aa (fe ..)<|eV fs aB _ (cU (av O)) (λj=>fh) (by decide) (λf I ae K t=>by
   refine aw (ze (o.agree K (by decide)) (D f I) (av t)) λu e Z=>?_
   exact aJ (e:=.int 1) e rfl rfl) (cf (by lia))
 have E:=d8 (F:=pz) (aS Q bA) (Uh (λq=>d (List.map_eq_nil_iff.mp q)) (O4 r g F) σ)
 have n:dZ fs:=λf I=>L.cG f (D f I)
 refine aw (ze (m:=.a8 px (aG [(.var "ends")])) o g (d8 (aS (av O) bA) (T9 d n (L.cG P g) h (O5 n F) σ))) λu S Z=>?_
 have T:cX σ 6 (cZ (L.mg (cP P)).ms)=some (.list ((L.mg (cP P)).ms.map λ(i:Nat)=>CP (i:Int))):=hH rfl (hG λZ Z=>rfl)
 exact⟨bw,aK (bt V) (s_same E (aJ (e:=.int 1) S rfl rfl) T T),o⟩
theorem N9(H:L.St ρ σ):∃ae,MS.cD (.of vF) (.tup [(.name "first"),(.name "behind")]) vC ρ σ=some (.next,ae,σ)/\L.St ae σ:=by
 have c:∀x∈AJ,x.1<x.2/\x.2<=6:=by decide
 refine jO AJ v9 (mi:=.of vF) (t:=.tup [(.name "first"),(.name "behind")]) (body:=vC) (ρ:=ρ) (σ:=σ) (λZ ae ab=>ab=σ/\L.St ae ab) (λo ae ab=>o=.next/\ab=σ/\L.St ae ab) (cU (T4 H)) (λZ Z Z Z Z=>fh) ⟨rfl,H⟩
  (λl x r ae ab B R=>aA R λe F=>by
    subst e
    refine aA (c x (B▸d0 _ a0)) λm g=>?_
    refine aw (N_ (ρ:=(ae.set "first" (iD x.1)).set "behind" (iD x.2)) (LawC.St.set (F.set (by decide)) (by decide)) m g ((if_neg (by decide)).trans (if_pos rfl)) (if_pos rfl)) λn e b=>?_
    exact⟨_,bs (a:=((ae.set "first" (iD x.1)).set "behind" (iD x.2),ab)) rfl e,rfl,b⟩) (λae ab h=>⟨rfl,h⟩) λo ae ab y S=>?_
 refine bP S λs V F=>?_
 subst s V
 exact⟨ae,y,F⟩
end
end
section
section
variable {L:LawC} {ρ ae:aC} {σ ab:MH} {f:List Nat}
noncomputable def z4:ME:=.aI (.comp (.of (.slice (.var "folders") (some (.int 1)) .none)) (.name "folder") [] (.inner (.of (.list [(.ax (aV 59 "useragents") (.idx (.var "kept") (.var "folder"))),(.ax (aV 59 "rulelines") (.idx (.var "kept") (.var "folder")))])) (.name "one") [] (.elt (.var "one"))) [".0","folder","one"] (.list []))
theorem T6(H:L.St ρ σ):∃is:List Nat,z4 ρ σ=some (.list (is.map .ref),σ)/\∀i∈is,L.A+3<=i/\∃xs,σ.cell i=some (.list xs):=by
 have J:=L.C.T.z
 have:∀f,∃a:Nat×Nat,f∈L.tl->RecAt σ L.lc (L.A+3) σ.next (L.ki f) (L.mg (cP f)) a.1 a.2:=λf=>by
  by_cases h:f∈L.tl
  .refine ew (H.W.k1 f ((L.dm f).mpr (bT _ h)) (L.C.T.ne f h)) λu r R=>?_
   exact⟨(u,r),λZ=>R⟩
  .exact⟨(0,0),λq=>absurd q h⟩
 refine aL (Classical.skolem.mp this) λg b=>?_
 refine⟨L.tl.flatMap λf=>[(g f).1,(g f).2],?_,λi w=>?_⟩
 .have e:(L.tl.flatMap λf=>[(g f).1,(g f).2]).map D.ref=L.tl.flatMap λf=>[(g f).1,(g f).2].flatMap λi=>[D.ref i]:=by exact aa (Ct ..) rfl
  refine aa (e ..) ?_
  refine oE L.tl aB _ (cU (LawC.Bk H)) (λj=>fh) (λf I=>C6 [(g f).1,(g f).2] D.ref (λi=>[D.ref i]) (at_:=fj (.list [D.ref (g f).1,.ref (g f).2])) (by decide) (λae K t=>?_) (λj=>fh) λi w=>rP (by decide) λn hb J=>⟨rfl,av J⟩) ?_
  .have k:=uM (m:=.var "folder") (H.agree K (by decide)) (bT _ I) (av t)
   exact cU (xs:=[D.ref (g f).1,.ref (g f).2]) (j9 (aS (cO k (b f I).ci rfl) (aS (cO k (b f I).ci rfl) bA)) (dO rfl))
  .have F:∀tl:List (List Nat),(tl.flatMap λf=>[(g f).1,(g f).2].flatMap λi=>[D.ref i]).length=2*tl.length:=λtl=>by
    induction tl with
    | nil=>rfl
    | cons x xs S=>rw [nZ,bF,S,gM];show 2+_=_;lia
   exact aa (F ..)<|cf (by lia)
 .refine aw (List.mem_flatMap.mp w) λf I w=>?_
  have R:=b f I
  rcases List.mem_cons.mp w with rfl| w
  .exact⟨R.u1,_,R.cu⟩
  .obtain rfl:=List.mem_singleton.mp w
   exact⟨R.r1,_,R.cr⟩
noncomputable def Gs:MS:=.cD (.of z4) (.name "part") (.expr (.ax oA (.var "part")))
theorem NI(H:L.St ρ σ):∃ae ab,Gs ρ σ=some (.next,ae,ab)/\Agree ["part"] ρ ae/\∀j,j<L.A+3->ab.cell j=σ.cell j:=by
 refine aw (T6 H) λis e w=>?_
 refine jO is D.ref (mi:=.of z4) (t:=.name "part") (body:=.expr (.ax oA (.var "part"))) (ρ:=ρ) (σ:=σ) (λZ ae ab=>(Agree ["part"] ρ ae/\∀j,j<L.A+3->ab.cell j=σ.cell j)/\∀i∈is,∃xs,ab.cell i=some (.list xs)) (λo ae ab=>o=.next/\Agree ["part"] ρ ae/\∀j,j<L.A+3->ab.cell j=σ.cell j) (cU e) (λZ Z Z Z Z=>fh) ⟨⟨λZ Z=>rfl,λZ Z=>rfl⟩,λi h=>(w i h).2⟩
  (λl i r ae ab b R=>aA R λB P=>aA B λm g=>by
    have a:i∈is:=b▸d0 _ a0
    refine aL (P i a) λxs U=>?_
    have e:(ME.ax oA (.var "part")) (ae.set "part" (.ref i)) ab=some (.none,ab.put i (.list [])):=uO (av (if_pos rfl)) (bs (oz U) rfl)
    refine⟨_,bs rfl (il e),⟨m.set (by decide),λj F=>(aH (bj (a9 F (w i a).1))).trans (g j F)⟩,λj F=>?_⟩
    by_cases q:j=i
    .exact aa (q ..)<|⟨[],cb⟩
    .refine aL (P j F) λI c=>?_;exact⟨I,(aH q).trans c⟩) (λae ab h=>⟨rfl,h.1⟩) λo ae ab y S=>?_
 refine aA S λs k=>?_
 subst s
 exact⟨ae,ab,y,k⟩
noncomputable def Gx:ME:=.eq (.aI (.comp (.of (.var "folders")) (.name "folder") [] (.elt (.a8 fT (aG [(.idx (.var "own") (.var "folder"))]))) [".0","folder"] (.list []))) (.aI (.comp (.of (.var "folders")) (.name "folder") [] (.elt (.idx (.var "plain") (.var "folder"))) [".0","folder"] (.list [])))
theorem Q8(H:L.St ρ σ)(a:Agree ["part"] ρ ae)(B:∀j,j<L.A+3->ab.cell j=σ.cell j):Gx ae ab=some (.bool true,ab):=by
 have J:=L.qU
 have K:∀{j},j<L.N0->j<L.A+3:=λh=>gO 3 (a9 h H.W.n0)
 have M:rq ab L.lc L.ls:=λm l h=>(B _ (K (L.lt m (List.getElem?_eq_some_iff.mp h).1))).trans (LawC.lines H m l h)
 have:∀f,∃u,f∈ []::L.tl->∃r,RecAt ab L.lc 0 L.N0 (L.oi f) (L.pl f) u r:=λf=>by
  by_cases h:f∈ []::L.tl
  .refine ew (H.W.ow f h) λu r R=>?_
   exact⟨u,λZ=>⟨r,R.keep λj Z F=>B j (K F)⟩⟩
  .exact⟨0,λq=>absurd q h⟩
 refine aL (Classical.skolem.mp this) λu e=>?_
 have z:∀f∈ []::L.tl,∀m∈(L.pl f).ms,m<L.ls.length:=λf I m z=>by
  rw [L.ms f I] at z
  refine aw (jM.mp z) λl h Z=>?_
  exact(List.getElem?_eq_some_iff.mp h).1
 have c:ae "folders" =_:=(a _ (by decide)).trans H.vf
 have V:ME.aI (.comp (.of (.var "folders")) (.name "folder") [] (.elt (.a8 fT (aG [(.idx (.var "own") (.var "folder"))]))) [".0","folder"] (.list [])) ae ab=some (.list (([]::L.tl).map λf=>l5 (u f) (L.pl f)),ab):=
  eV ([]::L.tl) aB _ (cU (av c)) (λj=>fh) (by decide) (λf I n b t=>by
   refine aL (e f I) λr R=>?_
   exact d8 (aS (vY ((b _ (by decide)).trans ((a _ (by decide)).trans H.vo)) t L.cG I) bA) (wB R M (z f I) (qD (aE (L.C.ms f I) (by decide))))) (cf (by lia))
 have Q:ME.aI (.comp (.of (.var "folders")) (.name "folder") [] (.elt (.idx (.var "plain") (.var "folder"))) [".0","folder"] (.list [])) ae ab=some (.list (([]::L.tl).map λf=>b_ (L.pl f)),ab):=
  eV ([]::L.tl) aB _ (cU (av c)) (λj=>fh) (by decide) (λf I n b t=>aJ (d:=.dict (dk (λf=>b_ (L.pl f)) ([]::L.tl))) (av ((b _ (by decide)).trans ((a _ (by decide)).trans H.vp))) (av t) (h7 L.cG I)) (cf (by lia))
 have O:cX ab 6 (.list (([]::L.tl).map λf=>l5 (u f) (L.pl f)))=some (.list (([]::L.tl).map λf=>qp (L.pl f))):=hH rfl (hG λf I=>by refine aL (e f I) λr R=>?_;exact wb R.cu)
 have T:cX ab 6 (.list (([]::L.tl).map λf=>b_ (L.pl f)))=some (.list (([]::L.tl).map λf=>qp (L.pl f))):=hH rfl (hG λf I=>s9)
 exact aJ V Q ((ji O T).trans (by exact aa (AN O ..) rfl))
end
end
theorem Rc(L:LawC){ρ:aC}{σ:MH}(H:L.St ρ σ):∃ae ab,(MS.cons (.assign (.name "inside") Gw) (.cons (.ite (.val (.ne (.aI (.comp (.of (.var "folders")) (.name "folder") [] (.elt (.a8 fm (aG [(.var "folder")]))) [".0","folder"] (.list []))) (.add (.list [(.str "/")]) (.aI (.comp (.of (.slice (.var "folders") (some (.int 1)) .none)) (.name "folder") [] (.elt (.idx (.idx (.var "ways") (.var "folder")) (.neg (.int 2)))) [".0","folder"] (.list [])))))) (.ret (.bool false)) .nil)
 (.cons (.ite (.val (.ne (.var "answers") (.add (.add (.list [(.tup [(.str "True"),(.tup [(.str "/")])])]) (.aI (.comp (.of (.slice (.var "order") .none (some (.neg (.int 1))))) (.name "folder") [] (.elt (.tup [(.str "True"),(.idx (.var "inside") (.var "folder"))])) [".0","folder"] (.list [])))) (.list [(.tup [(.str "False"),(.tup [])])])))) (.ret (.bool false)) .nil)
 (.cons (.ite (.val (.ne z7 z6)) (.ret (.bool false)) .nil) (.cons (.cD (.of (.var "folders")) (.name "folder") vD) (.cons (.assign (.name "rules") Gy)
 (.cons (.ite (.val (.ne (.aI (.comp (.of (.ax (aV 59 "rulelines") (.var "whole"))) (.name "line") [] (.elt (.ax (aV cj "path") (.var "line"))) [".0","line"] (.list []))) (.aI (.comp (.of (.ax (aV 59 "rulelines") (.var "whole"))) (.name "line") [] (.elt (.idx (.idx (.var "rules") (.ax (aV cj "mark") (.var "line"))) (.int 0))) [".0","line"] (.list []))))) (.ret (.bool false)) .nil)
 (.cons (.cD (.of vE) (.name "name") vA) (.cons (.cD (.of vF) (.tup [(.name "first"),(.name "behind")]) vC) (.cons Gs (.ret Gx))))))))))) ρ σ=some (.ret (.bool true),ae,ab):=by
 have o:L.St (ρ.set "inside" (.dict (dk (u0 L.tl) ([]::L.tl)))) σ:=H.set (by decide)
 refine aw (V1 o) λaX Q G=>?_
 refine aw (Oi G) λv E e=>?_
 have j:L.St (v.set "rules" (.list (L.ls.map gV))) aX:=e.set (by decide)
 have m:(v.set "rules" (.list (L.ls.map gV))) "rules" =some (.list (L.ls.map gV)):=if_pos rfl
 refine aw (Mb j m) λR b f=>?_
 refine aw (N9 f) λc y g=>?_
 refine eQ (NI g) λd h F a B=>?_
 exact⟨d,h,aK (bt (QF H)) (aK (Og o) (aK (Mg o (if_pos rfl)) (aK Q (aK E (aK (bt (UO e)) (aK (T8 j m) (aK b (aK y (aK F (fC (Q8 g a B)))))))))))⟩
theorem Ub(J:List Int)(hz:J.length<=63):∃ab,tY [.list (J.map .int)] MH.nil=some (.bool true,ab):=by
 let N:=c_ [("script",.list (J.map .int))]
 refine aw (Te hz (ρ:=N) (σ:=MH.nil) rfl) λnums P V=>?_
 refine aL (Classical.skolem.mp UD) λX H=>?_
 let w:=nums.map X
 have G:w.length=6:=(aZ _).trans P
 have o:∀l∈w,l.Ok:=λl hl=>by refine aw (List.mem_map.mp hl) λn Z B=>?_;obtain rfl:=B;exact(H n).1
 let bw:=N.set "numbers" (.list (nums.map .int))
 have Q:ME.aI (.comp (.of (.var "numbers")) (.name "number") [] (.elt (.a8 qZ (aG [(.var "number")]))) [".0","number"] (.list [])) bw MH.nil=some (.list (w.map cW),MH.nil):=by
  exact aa (show w.map cW=nums.map λn=>cW (X n) from fe)<|eV nums D.int _ (cU (av rfl)) (λj=>fh) (by decide) (λn hn ae K t=>d8 (aS (av t) bA) ((H n).2 _)) (cf (by lia))
 let M:=bw.set "lines" (.list (w.map cW))
 refine bI (O0 o (bN G)) λtl r T s=>?_
 have E:(ME.a8 q7 (aG [(.var "lines")])) M MH.nil=some (.dict (dk fQ ([]::tl)),MH.nil):=d8 (aS (av rfl) bA) (r▸Wy o (by lia) MH.nil)
 let v:=M.set "ways" (.dict (dk fQ ([]::tl)))
 have Y:(ME.aI (.ax sD (.var "ways"))) v MH.nil=some (.list (([]::tl).map aB),MH.nil):=
  mP (c:=.list (([]::tl).map aB)) (bs (a:=(.dict (dk fQ ([]::tl)),MH.nil)) rfl (bs (a:=dk fQ ([]::tl)) rfl (congrArg (λl=>some (Cell.list l,MH.nil)) (show(dk fQ ([]::tl)).map (λp=>D.str p.1)=_ from fe)))) rfl
 let i:=v.set "folders" (.list (([]::tl).map aB))
 have F:dZ ([]::tl):=λg hg=>(List.mem_cons.mp hg).elim (λe=>e▸by decide) (T.cG g)
 have x:([]::tl).Nodup:=List.nodup_cons.mpr ⟨λh=>T.ne _ h rfl,T.nd⟩
 have U:([]::tl).length<=100:=by refine aa (gM ..) ?_;have:=T.z;lia
 have:∀f,∃p:Pl,f∈b7->p.Ok/\p.ms=dF w f/\∀σ,pD [.list (w.map cW),.str (aR f)] σ=some (b_ p,σ):=λf=>by
  by_cases h:f∈b7
  .exact(Uc o (by lia) h).imp λp k Z=>k
  .exact⟨⟨[],[],none,none⟩,λq=>absurd q h⟩
 refine aL (Classical.skolem.mp this) λpl b=>?_
 have e5:ME.aI (.comp (.of (.var "folders")) (.name "folder") [] (.kv (.var "folder") (.a8 pD (aG [(.var "lines"),(.var "folder")]))) [".0","folder"] (.dict [])) i MH.nil=some (.dict (dk (λf=>b_ (pl f)) ([]::tl)),MH.nil):=
  En F x U (cU (av rfl)) (by decide) λf I ae K t=>d8 (aS (av (d:=.list (w.map cW)) ((K _ (by decide)).trans rfl)) (aS (av t) bA)) ((b f (F f I)).2.2 _)
 let R:=i.set "plain" (.dict (dk (λf=>b_ (pl f)) ([]::tl)))
 refine pj (TX (ρ:=R) (σ:=MH.nil) (pl:=pl) F x U o (by lia) (λf I=>⟨(b f (F f I)).1,(b f (F f I)).2.1⟩) rfl rfl rfl) λoi lc ao e6 O=>?_
 let u:=R.set "own" (.dict (dk (bV oi) ([]::tl)))
 have C:lG tl pl ao.next:=⟨T,λf I=>(b f (F f I)).1,λf I=>by exact aa ((b f (F f I)).2.1 ..)<|Nat.le_trans sM (by lia)⟩
 obtain⟨aX,A,dn,ki,wi,e7,w1,w2,w3,w4,w5,w6⟩:=Ws (oi:=oi) (lc:=lc) (nums:=nums) C (λq=>by rw [q] at P;exact nomatch P) (by lia) (bb _) O.rc
 have mk:∀m l,w[m]?=some l->l.f∈ []::tl/\m∈dF w l.f:=λm l h=>⟨s l (lA h),jM.mpr ⟨l,h,rfl⟩⟩
 let L:LawC:=⟨w,tl,pl,oi,lc,ao.next,A,ao,dn,ki,wi,G,o,s,C,λf I=>(b f (F f I)).2.1,w1,w2,w3,λm l h=>O.ln _ (mk m l h).1 m (mk m l h).2 l h,λm W=>O.lt _ (mk m _ (gL W)).1 m (mk m _ (gL W)).2⟩
 let y:=(((u.set "answers" (.ref A)).set "order" (.ref (A+1))).set "kept" (.ref (A+2))).set "whole" (.ref wi)
 have S:L.St y aX:=⟨rfl,rfl,rfl,rfl,rfl,rfl,rfl,rfl,rfl,w4,w5,w6⟩
 have e8:(MS.assign (.tup [(.name "answers"),(.name "order"),(.name "kept"),(.name "whole")]) (.a8 q6 (aG [(.var "folders"),(.var "own"),(.var "numbers")]))) u ao=some (.next,y,aX):=
  eo (d8 (aS (av rfl) (aS (av rfl) (aS (av rfl) bA))) e7) rfl
 refine ew (Rc L S) λae ab e9=>?_
 exact⟨ab,fx (yv:=[("script",.list (J.map .int))]) rfl (aK (bt V) (aK (bt Q) (aK (bt E) (aK (bt Y) (aK (bt e5) (aK (bt e6) (aK e8 e9)))))))⟩
theorem Q_(P:∀f:List Int,f.length<=63->∃ab,tY [.list (f.map .int)] MH.nil=some (.bool true,ab)):PySem.Challenge.rw_rt0106_01.Holds:=PA (by
 intro w q ak mg mb G Y F o O d z x I L R H hD y u args vals as P9 P1 P_ Qk P2
 have j:=km_in_of Y
 have C:=km_tabs_of Y
 refine Ground.open G ?_
 intro T B D s t
 have E:x_ [(343,339)] ak.heap:=List.forall_mem_cons.mpr ⟨⟨codeHd_of_K (c:=343) (P:=339) j (by kernel_rfl),C 339 a0⟩,λ_ h=>nomatch h⟩
 have Q:dd.1.name= "law" :=by kernel_rfl
 rw [Q] at y
 wrow_args P9 P1 P_ Qk P2
 refine enter_call (kn_post E (λ_ _=>rfl) ?_)
 rename_i f _ _ _ _ _ _ _ _ _ _ M _ m _ n _ p _
 cases m with
 | list hl _=>
  obtain⟨J,N,_,U,v⟩:=M
  rw [hl] at N
  obtain rfl:=aM N
  have l:=congrArg Array.toList (Xq v).1
  subst l
  refine g6 (Ra P E j T.g T.b T.nolimit T.nodigits T.builtins T.bmain u y hl n (by omega)) λr i ⟨e,k,os,g,A⟩=>?_
  exact⟨⟨.inl ⟨_,.bool true,[],e,λ_=>rfl,.bool _,by kernel_rfl,λ_=>⟨rG,λa K=>nomatch K⟩⟩,k,os,g⟩,A⟩)
end Mine
end
theorem PySem.Challenge.cw_rt0106_01_holds : PySem.Challenge.rw_rt0106_01.Holds :=
 Mine.Q_ λf h=>Mine.Ub f h
