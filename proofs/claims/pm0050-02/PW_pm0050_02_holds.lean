import PyProof.Rows.All
import Wide.All
import OpenK.AllK
import Wide.FinOn
import Lean
import PySem.Challenge.RW_pm0050_02
set_option Elab.async false
set_option tactic.hygienic false
set_option maxRecDepth 100000
set_option maxHeartbeats 8000000
set_option linter.all false
set_option backward.match.sparseCases false
set_option compiler.extract_closed false
set_option genCtorIdx false
set_option genInjectivity false
set_option genSizeOf false
set_option bootstrap.genMatcherCode false
set_option exponentiation.threshold 3000
namespace Mine
def aQ:=@congrArg
def a3:=@if_neg
def a_:=@if_pos
def bF:=@absurd
def e1:=@decide_eq_true
def f5:=@decide_eq_false
def dp:=@eq_of_beq
def jH:=@of_decide_eq_true
def amF:=@decide_eq_decide
theorem aY (h:a=b:=by kernel_rfl):a=b:=h
theorem ar {p:Prop} (h:p:=by decide):p:=h
theorem bx {p:Prop} (h:p:=by decide+kernel):p:=h
theorem ajz {p:Prop} (h:p:=by omega):p:=h
end Mine
open Option renaming some→I,none→ah
open Bool renaming true→ab,false→aq
open PySem renaming Stmt→cK,Program→Dm,DefRec→j4,Value→az,Params→iE,DictEntry→D1,Addr→aP,Shared→aH,World→rS,Heap→bU,NoneBooked→JE,model→cU,Around→eU,wpAny→aU,wpAny_pure→bj,wpAny_bind→aw,wpAny_standAt→fF,wpAny_holding→fK,Result→r9,wpAny_call→D2,Operator→km,wpAny_with_toks→j0,PyData→m9,Reads→lr,CmpOp→oa,wpAny_truthy_bool→Dc,wpAny_rule→lx,wpAny_ite→IT,wpAny_sharingNotTold_none→ajJ,wpAny_askSetting→y6,Comprehension→Df,Keyword→rU,wpAny_Name→IX,wpAny_loadName_local→Dg,wpAny_loadName_cell→ajN,wpAny_loadName_free→ajO,holding→ajQ,wpAny_Constant_int→Dh,wpAny_Constant_str→Rq,wpAny_newObj_type→m',wpAny_getItem_list_neg→ajS,typeIs_str→t7,wpAny_pyNext_list_item→ajX,wpAny_specialOf→Rw,wpAny_pyIter_list→I1,wpAny_pyNext_list_end→aj0,assign_Name→aj1,wpAny_load→I2,size_pos_of_not_empty→aj3,call_meets→y9,wpAny_Call_method_lateS→Dp,NameKind→lA,pushCells_keeps→Dr,wpAny_alloc→RK,codeAny_loop→RL,wpAny_noted→RM,wpAny_mono→hQ,wpAny_comprehension_free→akd,codeAny_compStart_list→akf,exec_Assign_Name→RO,wpAny_unpackItems_tuple→akh,wpAny_Expr_any→I_,codeAny_forLoop_any→akn,wpAny_execs_nil→mm,sizeLine_eq→t_,wpAny_If→y?,wpAny_Return_some→Ds,wpAny_execs_cons→gQ,FuncData→hR,wpAny_ite_false→t?,wpAny_of_eq→ua,codeAny_call_function→aks,typeLookup_type→r1,builtinLookup_eq_fast→r2,isSubtype_type→wh,Builtin→qJ,entryFor_of_tree→RY,entryFor_alias→RZ,ElemsOf→Du,SetTable→qK,wpAny_attempt→Dv,wpAny_callSpecial?_slot→Jc,wpAny_call_entry→r3,wpAny_setState_of→wj,wpAny_fieldsOf→Jd,wpAny_setEntries_of→Dw,wpAny_setField→zc,wpAny_pyIter_slot→R5,wpAny_setEpoch_of→R8,codeAny_builtin→zd,plainId_quiet→Je,codeAny_of_tree→Sa,codeAny_mono→Sb,wpAny_loadPart→wo,wpAny_mkText→Jg,aRefKeyMayBeTheName_at→akH,Arguments→ud,arm_eval_Attribute→Sf,wpAny_letTemporaryGo→Sg,wpAny_field→zh,wpAny_setField_rec→Sj,plainObj_wpAny_Assign_Attribute→DM
open PySem.Str renaming ofString→ao
open PySem.PyData renaming keyHash→j7,eqv→lu,strOk→fE,canLayAll0→I6,canLay0→DK,depth→DL,depthAll→So,eqvAll→Jn
open Prod.mk renaming inj→ajK
open Bool renaming and_eq_true_iff→je,eq_false_iff→hB,casesOn→d1,false_ne_true→cv,false_eq_true→y5,or_eq_false_iff→IY,or_eq_true→t8,and_eq_true→j3,or_eq_true_iff→qI,not_eq_true'→rZ,and_false→R2,not_eq_true→akE,eq_iff_iff→jF
open Nat renaming ble→cm,le_trans→cG,le_of_ble_eq_true→dV,lt_of_lt_of_le→jf,lt_of_le_of_lt→gP,add_le_add→m_,sub_le→rW,add_assoc→I3,sub_add_cancel→Dn,lt_of_not_le→Dq,beq→dP,eq_of_beq_eq_true→kQ,le_of_not_le→r5,le_add_right→gw,le_add_left→nd,sub_ne_zero_of_lt→akI,lt_of_le_of_ne→akL,le_antisymm→qN,add_comm→r7,ne_of_lt→hg,casesOn→fJ,pos_of_ne_zero→DX,eq_zero_of_add_eq_zero_right→alm,eq_zero_of_add_eq_zero_left→aln,sub_pos_of_lt→JA,add_sub_cancel'→zq,add_le_add_left→zr,not_le_of_lt→DZ,mul_le_mul_left→D0,le_refl→bh,le_of_eq→dH,lt_of_succ_lt→D3,lt_trans→oh,not_lt→wc,mul_le_mul_right→rR,le_of_succ_le→hA,lt_irrefl→lz,lt_of_add_right_lt→ajW,succ_add_eq_add_succ→ajY,lt_of_succ_le→RC,lt_succ_self→gv,lt_succ_of_lt→m?,le_of_lt→iS,succ_ne_self→RI,le_succ→jD,le_succ_of_le→hP,zero_le→hC,succ_le_succ→ml,succ_ne_zero→y_,not_succ_le_self→RP,le_zero→za,mod_lt→iC,succ_pos→r0,succ_lt_succ→zb,ne_of_gt→j6,add_le_add_right→DC,min_le_left→DD,zero_add→pj,lt_or_eq_of_le→Jf,le_of_lt_succ→nf,sub_eq_zero_of_le→Sh,min_eq_left→DH,min_self→Si,min_eq_right→ze,min_le_right→DI,add_sub_self_left→akO,exists_eq_succ_of_ne_zero→Jk,lt_of_succ_lt_succ→Sk,sub_self→zi,add_right_comm→ug,le_of_add_left_le→akT,shiftRight→lB,add→dw,two_pow_pos→eY,shiftRight_eq_div_pow→ng,div_pos→Sp,ne_zero_of_lt→kS,log2_eq_iff→DO,le_log2→Sq,log2_lt→Jo,pow_add→kl,div_lt_iff_lt_mul→akX,ble_eq_true_of_le→mn,mod→lD,shiftLeft→hS,sub→eR,mul→gS,mul_assoc→zk,mul_lt_mul_of_pos_right→DP,shiftLeft_eq→qO,one_mul→zl,beq_refl→DQ,mod_two_eq_zero_or_one→akY,add_sub_of_le→akZ,mod_eq_of_lt→DR,add_lt_of_lt_sub'→ak0,pow_le_pow_right→Jq,sub_le_of_le_add→ui,mul_one→mr,mul_pos→Sr,zero_lt_of_lt→Ss,pow_zero→uj,mul_le_mul_right_iff→ak3,mul_right_comm→Su,div_add_mod→ak4,div_lt_of_lt_mul→Sv,mul_ne_zero→Jr,zero_mul→Js,ne_of_beq_eq_false→ak6,sub_lt_left_of_lt_add→Sw,not_lt_zero→zo,le_of_succ_le_succ→um,lt_succ_of_le→Ju,mul_le_mul→Jv,ble_eq→Sy,le_add_left_of_le→ak9,lt_trichotomy→alg,add_sub_cancel_left→alh,not_succ_le_zero→ali,not_lt_of_le→SH
open Int renaming neg_sub→rX,toNat_sub→y!,add_comm→ph,sub_add_cancel→RT,sub_le_sub_right→Jb,ofNat_le→j5,min_eq_right→aku,ofNat_sub→oc,natAbs_neg→R_,le_of_sub_nonneg→DJ,not_le→r6,neg_neg_of_pos→akV,ofNat_lt→lC,add_sub_add_right→ak5,natCast_add→mu,not_lt→uo,le_trans→DU,natCast_nonneg→og,sub_neg→DW,ofNat_inj→DY,sub_zero→wy,lt_of_le_of_lt→JB,lt_trans→uq,toNat_lt→IZ,le_of_lt→Di,mul_one→Rz,toNat_natCast→Dx,add_sub_cancel→DG,not_ofNat_neg→DN,zero_le_ofNat→Jp,ofNat_ne_zero→ak1,fdiv_eq_ediv_of_nonneg→ak7,natCast_ediv→ak8,fmod_eq_emod_of_nonneg→Jt,sub_eq_add_neg→Sx,natCast_emod→ala,natCast_mul→qP,ne_of_gt→SA,add_assoc→r8,fmod_nonneg_of_pos→alk
open Option.some renaming inj→zt,injEq→RE
open Option renaming casesOn→d5,map→Dd,bind→bD,map_eq_some_iff→t5,map_some→aj6,isNone_iff_eq_none→I?,isSome_iff_exists→RV,eq_none_iff_forall_ne_some→DF,bind_some→Sm,toList→SD
open PySem.Obj renaming data→pk,mapSeq→rY,putSet→DB,putName→qM
open List renaming getElem?_append_left→zu,getElem?_eq_some_iff→hh,append_nil→e0,drop_nil→JC,take_nil→JD,append_assoc→iT,casesOn→cj,mem_cons→eo,range→eB,size_toArray→eK,getElem?_eq_getElem→ly,mem_of_getElem?→ia,isEmpty_iff→j2,toArray→mh,getElem?_toArray→qH,filterMap_cons_none→Rr,filterMap_cons_some→Rt,length_filterMap_le→ajU,drop_eq_getElem_cons→Ru,take_succ_cons→ajZ,drop→Rx,drop_zero→Dk,take_of_length_le→rV,findIdx?_cons→Dl,mem_singleton→ep,getElem?_map→mj,sum_cons→RA,take_succ_eq_append_getElem→RB,getD_eq_getElem?_getD→aj2,take_length→RD,map_cons→iR,findIdx?_eq_some_iff_getElem→aj5,length_map→df,find?_some→aj7,mem_of_find?_eq_some→aj8,mem_cons_self→eQ,mem_cons_of_mem→fb,forIn_cons→RJ,lookup_cons→nc,lookup_cons_self→aj9,all_eq_true→iB,nodup_cons→y',mem_map_of_mem→aka,contains_iff_mem→akb,mem_map→hc,mem_filter→akc,length_drop→pf,length_nil→RN,length_append→er,eraseDups_cons→wg,filter_cons→RQ,reverse_cons→I9,mem_reverse→RR,length_reverse→I',setIfInBounds_toArray→akj,eraseIdx_eq_take_drop_succ→RS,mem_append→ob,any_eq_true→ako,mem_filterMap→akp,zip_cons_cons→t!,lookup_append→akr,of_mem_zip→RU,lookup→RW,length_eq_zero_iff→Dt,length_cons→gR,getElem?_eq_none→R4,map_map→iD,length_range→jE,ext_getElem?→aky,map_append→kR,length_take→R!,not_mem_nil→Sd,pairwise_singleton→akD,pairwise_cons→qL,forall_mem_cons→ue,getElem?_set→akK,map_congr_left→akM,drop_length→akN,drop_eq_nil_of_le→wq,getElem?_set_self→Ji,set_set→Jj,nil_append→Sl,head_eq_of_cons_eq→akQ,toList_toArray→Jl,getElem?_append_right→Jm,length_pos_iff→zj,getElem?_range→akR,range_eq_nil→akS,map_eq_nil_iff→Sn,map_nil→uf,getLast?_map→akU,cons_ne_nil→akW,count_cons→alb,flatMap_cons→Jw,exists_cons_of_ne_nil→alc,map_singleton→ald,mem_range→zp,exists_cons_of_length_pos→ale,map_take→SE,map_drop→SF,length_filter_le→alf,range'→DV,mem_range'_1→Jx,drop_left→SG,range_succ→SI,filter_map→alj
open PySem.Builtin.Int renaming intBits→SJ
open PySem.Float64 renaming add→ct,sub→b!,mul→c8,isZero→kT,div→d',divmod→jG,ofInt→fD,neg→C?,cmp→hz,decode→mg,truncOf→t4,halfEven→oe,roundMag→uh,infMag→mq,shift→eZ,pack→DS,ofBin→ib,ofFrac→DT,zero→ic,sgn→cY,align→gT,isNaN→ak2,fmod→uk,lt→zm
open Exists renaming elim→h!
open PySem.Builtin.Str renaming occurrences→mf,strSliceIndices→IV,partsBetween→IW,tooLong→amE,strKind→Jy
open PySem.AutoFloatOps renaming eq_0→ajH,lt_0→ajL,gt_0→ajM
open PySem.isSame renaming created→ajI
open PySem.CmpOp renaming casesOn→IU
open PySem.SeqAt renaming canLay_of_shaped→y7
open PyProof.Rows renaming room_in_shaped→Ro,tail_any→Dj,callWith_type→RH,append_at→I8,StrsAre→r4,place_lt→akA,spliced_more→zf,spliced_none→zg
open PySem.Txt renaming startswith→ha,endswith→j1,count→Rp,join→De,split→rT
open PySem.Expr renaming casesOn→eC
open PySem.Calls renaming Name_function_global→ajP,spliced_cons→y8,spliced_nil→t6,evalArgs_plain→we,callWith_builtin→t9
open PySem.BoolOp renaming casesOn→ajR
open PySem.Heap renaming lt_size→iA,get?_push_of_some→dE,get?_push_size→d9,SameBut→I0,ExtBut→Rv,size_push→hb,get?_none_of_le→kP,get?_update_other→t',get?_update_self→wk
open PySem.F renaming slot_str_getitem→ajT,plainAttrs_str→I4,plainAttrs_list→I5,slot_list_index→aj4,slot_str_split→I7,entry_str_split→RF,args_str_split_2→RG,slot_list_append→akl,type_list_append→akm,slot_list_extend→akq,plain_list_iadd→akv,plain_set_new→akB,called_set→uc
open Ne renaming symm→gu
open PySem.Heap.SameBut renaming refl→ajV,update→R'
open Eq renaming symm→mi,trans→Ja
open PySem.Builtin.Range renaming rangeSize→Ry
open PySem.Heap.Ns renaming new→ake
open Classical renaming not_not→akg,byContradiction→Dz,choose→Jz,choose_spec→wx
open Nat.succ renaming inj→pg
open PySem.Builtin.List renaming listFitsIndex→aki,listExtendWith→akw,listSameRef→akx
open PySem.Operator renaming casesOn→akk
open PySem.Stmt renaming casesOn→I!
open PySem.pickOrder renaming go→RX
open Array renaming toList_push→akt,length_toList→ub,getElem?_eq_getElem→R3,getElem?_toList→Dy,toList_inj→DE,any_toList→akG,all_eq_true'→Se
open String renaming splitOn→R0,splitOnAux→R1
open PySem.SetTable renaming below→wi,grown→wm
open PySem.Value renaming isStrOf_shape→R6,isStrOf→R7
open PySem.Builtin.Frozenset renaming slot0→amz,sizeOf→amA,newClass→amB,updateFrom→amC
open PySem.Around renaming under_plainId→DA
open PySem.Shared renaming TypeIs→R9
open PyProof.Rows.F renaming entry_set_update_loop→akz,plain_set_update_loop→R?
open Except renaming casesOn→akC
open PySem.W renaming ownOf→akF,ghost_K→wu
open PySem.Builtin.ObjectAttr renaming find→amD
open PySem.W.Looks renaming of_pure→Jh
open PySem.Data renaming noConfusion→akJ
open PySem.Builtin.SmallTypes renaming stopIteration→akP
open PySem.Challenge renaming rw_pm0050_02→wt
open UInt64 renaming ofNat→c_
open PySem.StrLaws renaming glued_eq_join→Sz
noncomputable section
open PySem PySem.W PyProof.Rows PySem.Challenge
namespace Mine
noncomputable abbrev vO:RowW:=rw_pm0050_02.row.toRowW
noncomputable def UA (i:Nat):cK:=pw_pm0050_02.main.body.getD i (.Pass ⟨0,0,0,0⟩)
def gO:Dm:={pw_pm0050_02 with main:={pw_pm0050_02.main with body:=([1,2,3,4,5,6,7,8,9,10,12,13,15,17,18,19,20,21,22,23,24,25,26]:List Nat).map UA}}
noncomputable def PH (i:Nat):cK:=gO.main.body.getD i (.Pass ⟨0,0,0,0⟩)
noncomputable def K2:cK→j4
 | .FunctionDef name args body _ _ _ sc _ _ pos=>⟨name,args,body,sc,pos⟩
 |_=>⟨ao "",⟨[],[],ah,[],[],ah,[]⟩,[],default,⟨0,0,0,0⟩⟩
noncomputable def Vu:cK→List cK
 | .ClassDef _ _ _ b .. =>b
 |_=>[]
def aE (i:Nat):j4:=K2 (PH i)
def BY (i j:Nat):j4:=K2 ((Vu (PH i)).getD j (.Pass ⟨0,0,0,0⟩))
noncomputable abbrev oS:List Str:=[ao "ONE_THIRD",ao "ONE_SIXTH",ao "TWO_THIRD"]
noncomputable abbrev BO:List (Str×WData):=[(ao "ONE_THIRD",.float 4599676419421066581),(ao "ONE_SIXTH",.float 4595172819793696085),(ao "TWO_THIRD",.float 4604180019048437077)]
noncomputable def dA (s:String) (n:Nat):az:=Value.str (ao s) n
def c6 (P:iE) (s:String) (n:Nat) (v:az):D1:={hash:=j7 P (ao s),key:=dA s n,val:=v}
noncomputable def bZ (l:Array az):Obj:={cls:=Value.type "tuple",data:=Data.seq l}
def gb (a:String) (t1:Nat) (b:String) (t2 t3:Nat) (i k:Int) (r c d:Nat):Obj:={cls:=Value.type "code",data:=Data.fields #[dA a t1,dA b t2,dA "/claim/cut.py" t3,Value.int i 0,Value.int k 0,Value.int 0 0,Value.int 0 0,Value.int 3 0,Value.ref r,Value.bool ab,Value.int 181 0,Value.ref (r+1),Value.none,Value.ref (r+2),Value.ref (r+3),Value.ref (r+4),Value.int c 0,Value.int i 0,dA "/claim/cut.py" d]}
def jS (a b:String) (d:j4) (m:String) (t c:Nat):Obj:={cls:=Value.type "function",data:=Data.func {name:=ao a,qualname:=ao b,params:=d.params,body:= .stmts d.body,scope:=d.scope,globals:=3,closure:=[],defaults:=Value.none,kwdefaults:=Value.none,pyModule:=dA m t,code:=Value.ref c}}
def dB (P:iE):Frag:=
 [(2,{cls:=Value.none,data:=Data.dict #[]}),
  (3,{cls:=Value.type "dict",data:=Data.dict #[c6 P "__name__" 165 (dA "law_pm0050_02" 372),c6 P "__doc__" 166 Value.none,c6 P "__package__" 167 Value.none,c6 P "__loader__" 168 (Value.builtin "__main__.__loader__#opaque"),c6 P "__spec__" 169 Value.none,c6 P "__annotations__" 170 (Value.ref 6),c6 P "__builtins__" 171 (Value.ref 4),c6 P "__file__" 173 (dA "/claim/cut.py" 172),c6 P "__cached__" 174 Value.none,c6 P "ONE_THIRD" 192 (Value.float 4599676419421066581 191),c6 P "ONE_SIXTH" 196 (Value.float 4595172819793696085 195),c6 P "TWO_THIRD" 200 (Value.float 4604180019048437077 199),c6 P "rgb_to_yiq" 212 (Value.ref 21),c6 P "yiq_to_rgb" 224 (Value.ref 28),c6 P "rgb_to_hls" 243 (Value.ref 35),c6 P "hls_to_rgb" 254 (Value.ref 42),c6 P "_v" 263 (Value.ref 49),c6 P "rgb_to_hsv" 281 (Value.ref 56),c6 P "hsv_to_rgb" 295 (Value.ref 63),c6 P "ELLIPSIS_MARKER" 299 (dA "..." 298),c6 P "_ellipsis_match" 311 (Value.ref 70),c6 P "_netrclex" 371 (Value.ref 108),c6 P "_law_stream" 384 (Value.ref 119),c6 P "_law_written" 390 (Value.ref 124),c6 P "_law_light" 401 (Value.ref 131),c6 P "_law_parts" 407 (Value.ref 136),c6 P "_law_whole" 413 (Value.ref 141),c6 P "_law_turn" 419 (Value.ref 146),c6 P "_law_sought" 425 (Value.ref 151),c6 P "_law_back" 431 (Value.ref 156),c6 P "_law_names" 437 (Value.ref 161),c6 P "law" 443 (Value.ref 166)] 32}),
  (78,bZ #[]),
  (80,bZ #[dA "self" 329,dA "fp" 330]),
  (81,bZ #[]),
  (83,gb "__init__" 326 "_netrclex.__init__" 327 328 141 2 78 331 332),
  (84,jS "__init__" "_netrclex.__init__" (BY 12 0) "cpy313.netrc" 312 83),
  (85,bZ #[]),
  (87,bZ #[dA "self" 337,dA "ch" 338]),
  (88,bZ #[]),
  (90,gb "_read_char" 334 "_netrclex._read_char" 335 336 147 1 85 339 340),
  (91,jS "_read_char" "_netrclex._read_char" (BY 12 1) "cpy313.netrc" 312 90),
  (92,bZ #[]),
  (94,bZ #[dA "self" 345,dA "token" 346,dA "fiter" 347,dA "ch" 348]),
  (95,bZ #[]),
  (97,gb "get_token" 342 "_netrclex.get_token" 343 344 153 1 92 349 350),
  (98,jS "get_token" "_netrclex.get_token" (BY 12 2) "cpy313.netrc" 312 97),
  (99,bZ #[]),
  (101,bZ #[dA "self" 355,dA "token" 356]),
  (102,bZ #[]),
  (104,gb "push_token" 352 "_netrclex.push_token" 353 354 180 2 99 357 358),
  (105,jS "push_token" "_netrclex.push_token" (BY 12 3) "cpy313.netrc" 312 104),
  (106,bZ #[dA "instream" 360,dA "lineno" 361,dA "pushback" 362,dA "whitespace" 363]),
  (107,{cls:=Value.type "dict",data:=Data.dict #[c6 P "__module__" 321 (dA "cpy313.netrc" 312),c6 P "__firstlineno__" 325 (Value.int 139 324),c6 P "__init__" 333 (Value.ref 84),c6 P "_read_char" 341 (Value.ref 91),c6 P "get_token" 351 (Value.ref 98),c6 P "push_token" 359 (Value.ref 105),c6 P "__static_attributes__" 364 (Value.ref 106),c6 P "__dict__" 366 (Value.ref 109),c6 P "__weakref__" 368 (Value.ref 110),c6 P "__doc__" 369 Value.none] 4}),
  (108,{cls:=Value.type "type",data:=Data.cls {name:=ao "_netrclex",bases:=[Value.type "object"],mro:=[Value.ref 108,Value.type "object"],ns:=107,qualname:=ao "_netrclex"},slots:= #[ah,ah,I (dA "_netrclex" 314),I (dA "_netrclex" 322),I (Value.builtin "object.__new__"),I (Value.bool ab)]}),
  (109,{cls:=Value.type "getset_descriptor",data:=Data.fields #[dA "__dict__" 365,Value.ref 108,Value.builtin "function.__dict__",Value.builtin "function.__dict__#set"]}),
  (110,{cls:=Value.type "getset_descriptor",data:=Data.fields #[dA "__weakref__" 367,Value.ref 108,Value.builtin "ExceptionGroup.__weakref__",Value.none]}),
  (113,bZ #[]),
  (115,bZ #[dA "text" 377,dA "read" 378,dA "source" 379]),
  (116,bZ #[dA "text" 380,dA "place" 381]),
  (118,gb "_law_stream" 374 "_law_stream" 375 376 183 1 113 382 383),
  (119,jS "_law_stream" "_law_stream" (aE 13) "law_pm0050_02" 372 118)]
noncomputable def J5:List aP:=[2,3,78,80,81,83,84,85,87,88,90,91,92,94,95,97,98,99,101,102,104,105,106,107,108,109,110,113,115,116,118,119]
theorem aa8 (P:iE):J5=(dB P).map (·.1):=aY
abbrev ta:Hook:=kmHook dB J5 aa8 [114]
noncomputable def B5 (s:aH):ta.α×Bool:=(ta.obs s,decide (0<s.toks))
noncomputable def C1 (w:rS):ta.α×Bool:=(ta.val w,ab)
theorem Pa (y:B5 s=C1 w):ta.says w s.heap∧0<s.toks:=
 ⟨ta.of w s (ajK y).1,jH (ajK y).2⟩
theorem ais:LeftO pw_pm0050_02 gO oS (λs=>xlAt gO BO s&&recOk vO.records s) B5 C1 2112:=by
 intro w
 kernel_rfl
def vJ:List j4:=([3,4,5,6,7,8,9,11,13,14,15,16,17,18,19,20,21,22]:List Nat).map aE
theorem afD:recsOf gO=vJ:=aY
theorem af9:rw_pm0050_02.wellSaid=true:=aY
theorem aeq:(chainsOk gO&&opensWell vO.prog&&(frees vO&&vO.within.isEmpty))=true:=aY
theorem ZH (a:WalkX gO oS (XL gO BO) B5 C1 vO (aE 22) [] λf vs=>PySem.call f vs):rw_pm0050_02.Holds:=by
 w_on
 refine holds_law (l:=rw_pm0050_02) af9 λb=> ?_
 refine holds_openX (q:=gO) (loose:=oS) (Xt:=λs=>xlAt gO BO s&&recOk vO.records s) (XP:=XL gO BO) (Yf:=B5) (Ya:=C1) (N:=2112) ais
  (λs e=>xl_of s (je.mp e).1) XL.keeps aY aY aY (λs e=>recFacts_of (je.mp e).2) aY b aeq ⟨rfl,rfl,rfl,rfl,rfl,by kernel_rfl⟩ ?hw a
 w_witness2
end Mine
end
namespace Mine
theorem cW {a b c:Nat} (h:a≤b) (e:cm b c=ab):a≤c:=cG h (dV e)
theorem oT {a b c:Nat} (h:a<b) (e:cm b c=ab):a<c:=jf h (dV e)
theorem ke {a b c:Nat} (h:a≤b) (e:cm b.succ c=ab):a<c:=gP h (dV e)
theorem EF {a b:Nat} (e:cm a b=ab):a≤b:=dV e
theorem pB {a b x y c:Nat} (h:a≤x) (h':b≤y) (e:cm (x+y) c=ab):a+b≤c:=cG (m_ h h') (dV e)
theorem Er {a b x y:Nat} (h:a≤x) (h':b≤y):a+b≤x+y:=m_ h h'
theorem Ny {a b x:Nat} (e:a=b) (h:b≤x):a≤x:=e▸h
theorem PL {a b c:Nat} (h:a≤b):a-c≤b:=cG (rW a c) h
theorem ahV {a b n:Nat} (h:a≤b):n+(b-a)+a=n+b:=by rw[I3,Dn h]
theorem pred_succ {a:Nat} (h:0<a):a=a-1+1:=(Dn h).symm
theorem Om {a b:Nat} (h: ¬a<b):b≤a:=Nat.le_of_not_lt h
theorem vu {a b:Nat} (h: ¬a≤b):b<a:=Dq h
theorem Uv {a b:Nat} (h: ¬a≤b):cm a b=false:=hB.mpr λz=>h (dV z)
theorem EB {a b:Nat} (h: ¬a=b):dP a b=false:=hB.mpr λz=>h (kQ z)
theorem CP (a b:Nat):(-((a:Int)-(b:Int))).toNat=b-a:=by rw[rX];exact y! b a
theorem P' (a b:Nat):(- -((a:Int)-(b:Int))).toNat=a-b:=by rw[Int.neg_neg];exact y! a b
theorem Pb (a b c:Int):a-c-(b-c)=a-b:=by rw[Int.sub_sub,ph c,RT]
theorem vY (a b:Nat) (c:Int):((a:Int)-c-((b:Int)-c)).toNat=a-b:=by rw[Pb];exact y! a b
theorem aih (a:Nat) (c:Int):((a:Int)-c+c).toNat=a:=by rw[RT];rfl
theorem vZ (a:Nat) (c:Int):((a:Int)-c-((a:Int)-c)).toNat=0:=by rw[Int.sub_self];rfl
theorem Hl {a b:Nat} (c:Int) (h:a≤b):(a:Int)-c=min ((a:Int)-c) ((b:Int)-c):=(Int.min_eq_left (Jb (j5.mpr h) c)).symm
theorem N3 {a b:Nat} (c:Int) (h: ¬a≤b):(b:Int)-c=min ((a:Int)-c) ((b:Int)-c):=(aku (Jb (j5.mpr (r5 h)) c)).symm
theorem N4 {a b:Nat} (c:Int) (h:a≤b):min ((a:Int)-c) ((b:Int)-c)=(a:Int)-c:=(Hl c h).symm
theorem w4 {a b:Nat} (h:b≤a):(a:Int)-b=((a-b:Nat):Int):=(oc h).symm
theorem Aa {a b:Nat} (h:b≤a):(b:Int)-a= -((a-b:Nat):Int):=by rw[oc h,rX]
theorem K0 {a b:Nat} (h: ¬b≤a):(a:Int)-b= -((b-a:Nat):Int):=Aa (r5 h)
theorem Tv (P:Nat):(-(P:Int)).natAbs=P:=R_ _
theorem agW {P Q N:Nat} (h:P+Q<N):P-Q<N:=gP (rW _ _) (gP (gw _ _) h)
theorem agX {P Q N:Nat} (h:P+Q<N):Q-P<N:=gP (rW _ _) (gP (nd _ _) h)
theorem aef {P Q:Nat} (h: ¬P=Q) (g:P≤Q):Q-P≠0:=akI (akL g h)
theorem aeg {P Q:Nat} (h: ¬P≤Q):P-Q≠0:=akI (Dq h)
theorem Od {a b:Nat} (h:a≤b): -((a:Int)-b)≥0:=by rw[rX];exact Int.sub_nonneg_of_le (j5.mpr h)
theorem Oe {a b:Nat} (h: ¬a≤b): ¬ -((a:Int)-b)≥0:=by rw[rX];exact λz=>h (j5.mp (DJ z))
theorem Of {a b:Nat} (h:a≤b) (c: ¬a=b): ¬(a:Int)-b≥0:=λz=>c (qN h (j5.mp (DJ z)))
theorem adK {j:Nat} (h:0<j): ¬ -(j:Int)≥0:=r6.mpr (akV (lC.mpr h))
theorem s3 {T G N:Nat} (h:T≤G) (g:G≤N):N-T=G-T+(N-G):=by rw[r7];exact (Nat.sub_add_sub_cancel g h).symm
theorem gK {a b c:Nat} (h:a≤b) (e:cm b.succ c=ab):a≠c:=hg (ke h e)
theorem Wd {a:Nat} (h: ¬a=0):(a:Int)-1075=((a-1:Nat):Int)-1074:=by
 induction a using fJ with
 |zero=>exact bF rfl h
 |succ n=>exact ak5 (n:Int) 1 1074
theorem Tx {a b:Nat} (h:1074≤a+b):(a:Int)-1074+((b:Int)-1074)=((a+b-1074:Nat):Int)-1074:=by rw[oc h,mu];lia
theorem adL (P Q:Nat): ¬(P:Int)< -(Q:Int):=uo.mpr (DU (Int.neg_nonpos_of_nonneg (og Q)) (og P))
theorem adN {P Q:Nat} (c: ¬P+Q=0): -(P:Int)<Q:=Int.lt_of_sub_pos (by rw[DW,ph];exact lC.mpr (DX c))
theorem adM {P Q:Nat} (c:P+Q=0): ¬ -(P:Int)<Q:=by
 cases alm c
 cases aln c
 decide
theorem K9 (P Q:Nat):(P:Int)= -(Q:Int)↔P+Q=0:=⟨λh=>DY.mp ((aQ (·+(Q:Int)) h).trans (Int.add_left_neg _)),λc=>by
 cases alm c
 cases aln c
 rfl⟩
theorem WC (P Q:Nat): -(P:Int)=(Q:Int)↔P+Q=0:=by rw[eq_comm,K9,r7]
theorem WD (P Q:Nat): -(P:Int)= -(Q:Int)↔P=Q:=Int.neg_inj.trans DY
theorem UQ (c p q:Nat):((c+p:Nat):Int)-((c+q:Nat):Int)=(p:Int)-q:=Int.add_sub_add_left (c:Int) p q
theorem UR (c p q:Nat):((p+c:Nat):Int)-((q+c:Nat):Int)=(p:Int)-q:=ak5 (p:Int) c q
theorem adX (p:Nat): -((p:Int)-((0:Nat):Int))= -(p:Int):=aQ _ (wy _)
theorem ad1 (q:Nat): -(((0:Nat):Int)-(q:Int))=q:=(rX _ _).trans (wy _)
theorem adY (q s:Nat): -(((0:Nat):Int)-q-s)=((q+s:Nat):Int):=by rw[Int.sub_sub,rX];exact wy _
theorem adZ {p s:Nat} (h:p≤s): -((p:Int)-((0:Nat):Int)-s)=((s-p:Nat):Int):=(aQ (λz=> -(z-(s:Int))) (wy _)).trans ((rX _ _).trans (w4 h))
theorem ad0 {p s:Nat} (h: ¬p≤s): -((p:Int)-((0:Nat):Int)-s)= -((p-s:Nat):Int):=(aQ (λz=> -(z-(s:Int))) (wy _)).trans (aQ _ (w4 (r5 h)))
theorem H_ {p s:Nat} (h: ¬p≤s):0<p-s:=JA (Dq h)
theorem ahf {p s:Nat} (h: ¬p≤s):s+(p-s)=p:=zq (r5 h)
theorem BA {a:Nat} (h:a≤1048576):(a:Int)<2^63:=JB (j5.mpr h) ar
theorem lo1 {E F:Nat} (h:F≤E+1021): -1021≤(E:Int)-F:=Int.le_sub_right_of_add_le (by rw[ph];exact Int.sub_right_le_of_le_add (show (F:Int)≤(E:Int)+1021 from j5.mpr h))
theorem N7 {E F:Nat} (s:Nat) (h:F≤E+1021) (au:cm s 53=ab):max ((E:Int)-F-(s:Int)) (-1074)=(E:Int)-F-(s:Int):=Int.max_eq_left (DU (Int.sub_le_sub_left (j5.mpr (dV au)) (-1021)) (Jb (lo1 h) _))
theorem P0 (E F:Nat) (a b:Int) {c:Nat} (h:b-a=c):((E:Int)-F-a+b).toNat=E+c-F:=by
 have:(E:Int)-F-a+b=((E+c:Nat):Int)-F:=by rw[mu,←h];lia
 rw[this];exact y! (E+c) F
theorem ac2 {l G T:Nat} (h:G≤1074) (e:l+G-52=T):max ((l:Int)-((1074-G:Nat):Int)-52) (-1074)=(T:Int)-1074:=by
 have a:(l:Int)-((1074-G:Nat):Int)-52=((l+G:Nat):Int)-52-1074:=by rw[oc h,mu];lia
 have b:(-1074:Int)=0-1074:=rfl
 rw[a,b,Int.sub_max_sub_right,←Int.toNat_eq_max,←e]
 exact aQ (λn:Nat=>(n:Int)-1074) (y! (l+G) 52)
theorem nb {i:Int} {n:Nat} (h:i.natAbs<n): -(n:Int)<i∧i<n:=⟨Int.neg_lt_of_neg_lt (JB Int.le_natAbs (R_ i▸lC.mpr h)),JB Int.le_natAbs (lC.mpr h)⟩
theorem bE {a b x y:Nat} (h:x≤y) (v:a+y≤b+x:=by simp+arith only):a≤b:=Nat.le_of_add_le_add_right (cG (zr h a) v)
theorem As {p:Prop} {x y:Nat} (h:x≤y) (v:y+1≤x:=by simp+arith only):p:=bF h (DZ v)
theorem cc {a b c d:Nat} (h:a≤b) (h':c≤d):a+c≤b+d:=m_ h h'
theorem lm {a b:Nat} (k:Nat) (h:a≤b):k*a≤k*b:=D0 k h
theorem k_ (a b:Nat):a≤a-b+b:=Nat.le_add_of_sub_le (bh (a-b))
theorem o4 {a b:Nat} (h:b≤a):a-b+b≤a:=dH (Dn h)
theorem e8 {a b:Nat} (h:a<b):a+1≤b:=h
theorem Hq {a b:Nat} (h: ¬a≤b):b+1≤a:=Dq h
theorem aee {a:Nat} (h: ¬a=0):1≤a:=DX h
theorem eq1 {a b:Nat} (h:a=b):b≤a:=dH h.symm
end Mine
noncomputable section
open PySem PySem.W PyProof.Rows PySem.Calls PySem.Spec
namespace Mine
theorem nn (h:ah=I a):False:=nomatch h
theorem aR {C:Prop} (h:ah=I a):C:=nomatch h
theorem inj (h:I a=I b):a=b:=zt h
theorem cu {_:Decidable c} (h:(if c then x else ah)=I r):c:=by
 by_cases ag:c
 ·exact ag
 ·rw[a3 ag] at h;exact aR h
theorem cy {_:Decidable c} (h:(if c then x else ah)=I r):x=I r:=(a_ (cu h)).symm.trans h
theorem tl {_:Decidable c} (h:(if c then ah else x)=I r): ¬c:=λag=>nn ((a_ ag).symm.trans h)
theorem rh {_:Decidable c} (h:(if c then ah else x)=I r):x=I r:=(a3 (tl h)).symm.trans h
theorem g6 {G:Prop} {y:Option α} {_:Decidable c} (h:(if c then x else y)=I r) (bp:c→x=I r→G) (bK: ¬c→y=I r→G):G:=
 if ag:c then bp ag ((a_ ag).symm.trans h) else bK ag ((a3 ag).symm.trans h)
theorem M' {X Y:Prop} (J:b=ab→X) (aa:b=aq→Y):if b=ab then X else Y:=by
 induction b using d1 with
 |true=>exact J rfl
 |false=>exact aa rfl
theorem xU (ae:b=ab) (h:(if b=ab then x else y)=I r):x=I r:=(a_ ae).symm.trans h
theorem th (ae:b=aq) (h:(if b=ab then x else y)=I r):y=I r:=(a3 (by rw[ae];exact cv)).symm.trans h
theorem kh (h:I (a,b)=I (c,d)):a=c∧b=d:=⟨aQ Prod.fst (zt h),aQ Prod.snd (zt h)⟩
theorem eO (h:o=I a) (k:f a=r):o.bind f=r:=h▸k
theorem aO {G:Prop} (h:o.bind f=I t) (k: ∀a,o=I a→f a=I t→G):G:=by
 induction o using d5 with
 |none=>exact aR h
 |some a=>exact k a rfl h
theorem i! {g:α→β} {G:Prop} (h:o.map g=I t) (k: ∀a,o=I a→g a=t→G):G:=by
 induction o using d5 with
 |none=>exact aR h
 |some a=>exact k a rfl (inj h)
section
variable {α β wz alo:Type} {G:Prop}
theorem gj {P:α→Prop} (h: ∃a,P a) (k: ∀a,P a→G):G:=h.elim k
theorem cM {P Q:α→Prop} (h: ∃a,P a∧Q a) (k: ∀a,P a→Q a→G):G:=h.elim λa x=>k a x.1 x.2
theorem fe {P Q R:α→Prop} (h: ∃a,P a∧Q a∧R a) (k: ∀a,P a→Q a→R a→G):G:=h.elim λa x=>k a x.1 x.2.1 x.2.2
theorem Ae {P Q R S:α→Prop} (h: ∃a,P a∧Q a∧R a∧S a) (k: ∀a,P a→Q a→R a→S a→G):G:=h.elim λa x=>k a x.1 x.2.1 x.2.2.1 x.2.2.2
theorem hG {P:α→β→Prop} (h: ∃a b,P a b) (k: ∀a b,P a b→G):G:=h.elim λa h=>h.elim λb x=>k a b x
theorem jk {P Q:α→β→Prop} (h: ∃a b,P a b∧Q a b) (k: ∀a b,P a b→Q a b→G):G:=h.elim λa h=>h.elim λb x=>k a b x.1 x.2
theorem fU {P Q R:α→β→Prop} (h: ∃a b,P a b∧Q a b∧R a b) (k: ∀a b,P a b→Q a b→R a b→G):G:=h.elim λa h=>h.elim λb x=>k a b x.1 x.2.1 x.2.2
theorem iZ {P Q R S:α→β→Prop} (h: ∃a b,P a b∧Q a b∧R a b∧S a b) (k: ∀a b,P a b→Q a b→R a b→S a b→G):G:=h.elim λa h=>h.elim λb x=>k a b x.1 x.2.1 x.2.2.1 x.2.2.2
theorem K7 {P:α→β→wz→Prop} (h: ∃a b c,P a b c) (k: ∀a b c,P a b c→G):G:=h.elim λa h=>h.elim λb h=>h.elim λc x=>k a b c x
theorem K8 {P Q:α→β→wz→Prop} (h: ∃a b c,P a b c∧Q a b c) (k: ∀a b c,P a b c→Q a b c→G):G:=h.elim λa h=>h.elim λb h=>h.elim λc x=>k a b c x.1 x.2
theorem Wz {P Q R S:α→β→wz→alo→Prop} (h: ∃a b c d,P a b c d∧Q a b c d∧R a b c d∧S a b c d) (k: ∀a b c d,P a b c d→Q a b c d→R a b c d→S a b c d→G):G:=h.elim λa h=>h.elim λb h=>h.elim λc h=>h.elim λd x=>k a b c d x.1 x.2.1 x.2.2.1 x.2.2.2
end
noncomputable abbrev dI (h h':bU):Prop:= ∀b o,h.get? b=I o→h'.get? b=I o
set_option genCtorIdx true in
inductive U where
 |none|bool (b:Bool)|int (i:Int)|aj (w:UInt64)|str (s:Str)|list (l:List U)|tup (l:List U)|obj (i:Nat)|raw (v:az)
structure ih where
 x:aP
 dx:aP
 bP:aP
 ck:aP
structure cQ where
 rem:List Nat
 line:Int
 push:List Str
noncomputable abbrev W:=List cQ
structure G where
 B:aP→Prop
 aD:List ih
noncomputable def dk (h:bU) (a:aP) (items:Array az):Prop:= ∃o,h.get? a=I o∧o.cls= .type "list"∧ ∃n,o={cls:= .type "list",data:= .seq items n}
theorem dk.eW (x:dk h a items):h.IsList a items:=x.imp λo q=>⟨q.1,q.2.1,q.2.2.imp λn r=>aQ pk r⟩
theorem UX {h:bU} (e:h.get? a=I o) (c:h.IsCell a v):o.data= .cell v:=c.elim λb q=>inj (e.symm.trans q.1)▸q.2
theorem qj (e:h.get? a=I o) (c:dk h a l): ∃n,o.data= .seq l n:=c.elim λb q=>q.2.2.imp λn r=>(aQ pk (inj (e.symm.trans q.1))).trans (aQ pk r)
mutual
inductive Is (B:aP→Prop) (aD:List ih) (h:bU):U→az→Prop
 |none:Is B aD h .none .none
 |bool (b:Bool):Is B aD h (.bool b) (.bool b)
 |int (i:Int) (t:Tok):Is B aD h (.int i) (.int i t)
 |aj (w:UInt64) (t:Tok):t≠0→Is B aD h (.aj w) (.float w t)
 |str (x:Str) (t:Tok):Is B aD h (.str x) (.str x t)
 |list {l:List U} {a:aP} {vs:List az}: ¬B a→dk h a vs.toArray→IsL B aD h l vs→Is B aD h (.list l) (.ref a)
 |tup {l:List U} {a:aP} {vs:List az}: ¬B a→h.IsTuple a vs.toArray→IsL B aD h l vs→Is B aD h (.tup l) (.ref a)
 |obj {i:Nat} {a:ih}:aD[i]?=I a→Is B aD h (.obj i) (.ref a.x)
 |raw (v:az):Is B aD h (.raw v) v
inductive IsL (B:aP→Prop) (aD:List ih) (h:bU):List U→List az→Prop
 |nil:IsL B aD h [] []
 |cons {p:U} {v:az} {l:List U} {vs:List az}:Is B aD h p v→IsL B aD h l vs→IsL B aD h (p::l) (v::vs)
end
noncomputable def cS (B:aP→Prop) (h:bU) (B':aP→Prop) (h':bU):Prop:= ∀a o,h.get? a=I o→ ¬B a→h'.get? a=I o∧ ¬B' a
theorem IsL.hy (aX:IsL B aD h (p::l) us): ∃u vs,us=u::vs∧Is B aD h p u∧IsL B aD h l vs:=by
 cases aX with
 |cons a b=>exact ⟨_,_,rfl,a,b⟩
theorem IsL.jd (aX:IsL B aD h [] us):us=[]:=by cases aX;rfl
theorem Is.bJ (k:cS B h B' h') (more:List ih) {p v} (x:Is B aD h p v):Is B' (aD++more) h' p v:=by
 refine Is.rec (motive_1:=λp v Z=>Is B' (aD++more) h' p v) (motive_2:=λl vs Z=>IsL B' (aD++more) h' l vs) .none .bool .int .aj .str ?_ ?_ ?_ .raw .nil (λZ Z=> .cons) x
 ·exact λnb a Z r=>a.elim λo q=> .list (k _ _ q.1 nb).2 ⟨o,(k _ _ q.1 nb).1,q.2⟩ r
 ·exact λnb a Z r=>a.elim λo q=> .tup (k _ _ q.1 nb).2 ⟨o,(k _ _ q.1 nb).1,q.2⟩ r
 ·exact λe=> .obj ((zu (hh.mp e).1).trans e)
theorem IsL.bJ (k:cS B h B' h') (more:List ih) {p:List U}: ∀{v},IsL B aD h p v→IsL B' (aD++more) h' p v:=by
 induction p with
 |nil=>exact λx=>x.jd▸ .nil
 |cons p l c=>exact λx=>fU x.hy λu vs e a b=>e▸ .cons (a.bJ k more) (c b)
theorem Is.xn (k:cS B h B' h') {p v} (x:Is B aD h p v):Is B' aD h' p v:=e0 aD▸x.bJ k []
theorem IsL.xn (k:cS B h B' h') {p v} (x:IsL B aD h p v):IsL B' aD h' p v:=e0 aD▸x.bJ k []
theorem IsL.length: ∀{vs:List az},IsL B aD h l vs→l.length=vs.length:=by
 induction l with
 |nil=>exact λx=>x.jd▸rfl
 |cons p l c=>exact λx=>fU x.hy λu vs e a b=>e▸aQ (·+1) (c b)
theorem IsL.get: ∀{vs:List az} {i:Nat} {p:U},IsL B aD h l vs→l[i]?=I p→ ∃v,vs[i]?=I v∧Is B aD h p v:=by
 induction l with
 |nil=>exact λZ e=>aR e
 |cons q l c=>
  intro vs i p x e
  refine fU x.hy λu us ev a b=>ev▸ ?_
  induction i using fJ with
  |zero=>exact ⟨u,rfl,inj e▸a⟩
  |succ i=>exact (c b e: ∃v,us[i]?=I v∧_)
theorem IsL.append (x:IsL B aD h l vs) (y:IsL B aD h l' vs'):IsL B aD h (l++l') (vs++vs'):=by
 induction l generalizing vs with
 |nil=>exact x.jd▸y
 |cons p l c=>exact fU x.hy λu vs e a b=>e▸ .cons a (c b)
theorem IsL.drop: ∀{vs:List az} (i:Nat),IsL B aD h l vs→IsL B aD h (l.drop i) (vs.drop i):=by
 induction l with
 |nil=>exact λi x=>by rw[x.jd,JC,JC];exact .nil
 |cons p l c=>exact λi x=>match i with
  |0=>x
  |i+1=>fU x.hy λu vs e a b=>e▸c i b
theorem IsL.take: ∀{vs:List az} (i:Nat),IsL B aD h l vs→IsL B aD h (l.take i) (vs.take i):=by
 induction l with
 |nil=>exact λi x=>by rw[x.jd,JD,JD];exact .nil
 |cons p l c=>exact λi x=>match i with
  |0=> .nil
  |i+1=>fU x.hy λu vs e a b=>e▸ .cons a (c i b)
theorem IsL.set (i:Nat) (x:IsL B aD h l vs) (y:Is B aD h q v):IsL B aD h (l.set i q) (vs.set i v):=by
 induction l generalizing vs i with
 |nil=>exact x.jd▸ .nil
 |cons p l c=>exact fU x.hy λu vs e a b=>e▸match i with
  |0=> .cons y b
  |i+1=> .cons a (c i b)
noncomputable def et (dZ:Option aP) (aD:List ih) (b:aP):Prop:=dZ=I b∨ ∃a∈aD,b=a.dx∨b=a.bP∨b=a.ck
structure D8 where
 lex:Bool
 fns:List j4
 consts:List (Str×U)
noncomputable def Fl (d:j4):Bool:=
 d.scope.kind== .function&& !d.scope.isGenerator&& !d.scope.isCoroutine&&d.params.posonlyargs.isEmpty&&d.params.vararg.isNone&&d.params.kwonlyargs.isEmpty&&d.params.kwarg.isNone&&d.params.defaults.isEmpty&&
 d.scope.names.all (λx=>(x.2== .local||x.2== .cell||x.2== .globalImplicit)&&x.1 !=("__debug__":Str)&&x.1 !=("__classdict__":Str))&&
 (d.params.args.map (·.arg)).all (λx=>d.scope.names.lookup x==I .local||d.scope.names.lookup x==I .cell)&&decide (d.params.args.map (·.arg)).Nodup
structure cA where
 prog:Dm
 w:rS
 cp:bU
 K:Frag
 eh:Str→Option az
 ed:Str→Option az
 dZ:Option aP
 fc:K.In cp
 g:cp.Ns mainGlobals eh
 b:cp.Ns builtinsNs ed
 nolimit:cp.NoLimit
 booked:JE cp
 builtins: ∀x:Str,x≠"__name__"→ed x=bootBuiltins x
 dx:D8
 fns: ∀d∈dx.fns,Fl d=ab∧ ∃a o pm code doc,eh d.name=I (.ref a)∧cp.get? a=I o∧o.data= .func (docDef d.name d.params d.body d.scope pm code doc)∧cp.CodeRec code d.name
 consts: ∀x p,dx.consts.lookup x=I p→ ∃v,eh x=I v∧ ∀B aD h,Is B aD h p v
 uE: ∀x:Str,(["len","sum","max","min","abs","int","range","enumerate","sorted","set","iter"]:List Str).contains x=ab→eh x=ah
 sa:(aP→Prop)→bU→ih→cQ→Prop
 sf:(aP→Prop)→bU→Prop
 k!: ∀{B B':aP→Prop} {h h':bU} {a:ih} {x:cQ},sa B h a x→cS B h B' h'→(∀b o,(b=a.dx∨b=a.bP∨b=a.ck)→h.get? b=I o→h'.get? b=I o)→sa B' h' a x
 m2: ∀{B B':aP→Prop} {h h':bU},sf B h→cS B h B' h'→(∀b o,dZ=I b→h.get? b=I o→h'.get? b=I o)→sf B' h'
noncomputable abbrev cA.mo (T:cA):=cU T.prog T.w
structure aW (T:cA) (g:G) (W:W) (s:aH):Prop where
 aG:0<s.toks
 base: ∀b o,T.cp.get? b=I o→s.heap.get? b=I o∧ ¬g.B b
 ex: ∀b,g.B b→ ∃o,s.heap.get? b=I o
 dG: ∀b,et T.dZ g.aD b→g.B b
 tab:T.sf g.B s.heap
 len:g.aD.length=W.length
 c3: ∀(i:Nat) a x,g.aD[i]?=I a→W[i]?=I x→T.sa g.B s.heap a x
 fT: ∀(i j:Nat) a hU,i≠j→g.aD[i]?=I a→g.aD[j]?=I hU→ ∀b,(b=a.dx∨b=a.bP∨b=a.ck)→b≠hU.dx∧b≠hU.bP∧b≠hU.ck
 fz: ∀a∈g.aD,T.dZ≠I a.dx∧T.dZ≠I a.bP∧T.dZ≠I a.ck
structure bW (T:cA) (g:G) (s:aH) (g':G) (s':aH):Prop where
 keep: ∀b o,s.heap.get? b=I o→ ¬et T.dZ g.aD b→s'.heap.get? b=I o
 ex: ∀b o,s.heap.get? b=I o→ ∃cz,s'.heap.get? b=I cz
 hD: ∀b,g.B b→g'.B b
 iI: ∀b,g'.B b→g.B b∨s.heap.get? b=ah
 eJ: ∃more,g'.aD=g.aD++more
 ej: ∀b,et T.dZ g'.aD b→et T.dZ g.aD b∨s.heap.get? b=ah
 gens:s'.gens=s.gens
 os:s'.os=s.os
 aG:s.toks≤s'.toks
theorem bW.refl:bW T g s g s:=⟨λZ Z e Z=>e,λZ o e=>⟨o,e⟩,λZ x=>x,λZ x=> .inl x,⟨[],by simp⟩,λZ x=> .inl x,rfl,rfl,bh _⟩
theorem bW.none (x:bW T g s g' s') {b:aP} (e:s'.heap.get? b=ah):s.heap.get? b=none:=by
 cases q:s.heap.get? b with
 |none=>rfl
 |some o=>obtain ⟨c,a⟩:=x.ex b o q;rw[e] at a;exact aR a
theorem bW.trans (x:bW T g s g' s') (y:bW T g' s' p0 qx):bW T g s p0 qx where
 keep b o e n:=y.keep b o (x.keep b o e n) λq=>(x.ej b q).elim n λz=>by rw[e] at z;exact aR z.symm
 ex b o e:=(x.ex b o e).elim (y.ex b)
 hD b z:=y.hD b (x.hD b z)
 iI b z:=(y.iI b z).elim (x.iI b) λq=> .inr (x.none q)
 eJ:=by
  obtain ⟨a,c⟩:=x.eJ
  obtain ⟨b,d⟩:=y.eJ
  exact ⟨a++b,by rw[d,c,iT]⟩
 ej b z:=(y.ej b z).elim (x.ej b) λq=> .inr (x.none q)
 gens:=y.gens.trans x.gens
 os:=y.os.trans x.os
 aG:=cG x.aG y.aG
theorem bW.bJ (x:bW T g s g' s') (d:aW T g b s):cS g.B s.heap g'.B s'.heap:=λa o e n=>
 ⟨x.keep a o e λq=>n (d.dG a q),λq=>(x.iI a q).elim n λz=>by rw[e] at z;exact aR z.symm⟩
theorem Is.ba (x:bW T g s g' s') (d:aW T g a s) {p:U} {v:az} (i:Is g.B g.aD s.heap p v):Is g'.B g'.aD s'.heap p v:=by
 obtain ⟨more,e⟩:=x.eJ
 rw[e];exact i.bJ (x.bJ d) more
theorem IsL.ba (x:bW T g s g' s') (d:aW T g a s) {p:List U} {v:List az} (i:IsL g.B g.aD s.heap p v):IsL g'.B g'.aD s'.heap p v:=by
 obtain ⟨more,e⟩:=x.eJ
 rw[e];exact i.bJ (x.bJ d) more
theorem bW.grow (k:dI s.heap h') (a:s.toks≤t):bW T g s g {s with heap:=h',toks:=t,drawn:=dr}:=
 ⟨λb o e Z=>k b o e,λb o e=>⟨o,k b o e⟩,λZ x=>x,λZ x=> .inl x,⟨[],by simp⟩,λZ x=> .inl x,rfl,rfl,a⟩
theorem aW.grow (d:aW T g j s) (k:dI s.heap s'.heap) (c:s.toks≤s'.toks):aW T g j s' where
 aG:=jf d.aG c
 base b o e:=⟨k b o (d.base b o e).1,(d.base b o e).2⟩
 ex b z:=(d.ex b z).imp (k b)
 dG:=d.dG
 tab:=T.m2 d.tab (λa o e n=>⟨k a o e,n⟩) λb o Z e=>k b o e
 len:=d.len
 c3 i a x f h:=T.k! (d.c3 i a x f h) (λa o e n=>⟨k a o e,n⟩) λb o Z e=>k b o e
 fT:=d.fT
 fz:=d.fz
noncomputable def aS {α:Type} (T:cA) (A:eU) (t:Sem α) (g:G) (s:aH) (P:G→aH→α→Prop):Prop:=
 ∀(E:az→aH→Prop) (Q:α→aH→Prop),(∀g' s' a,bW T g s g' s'→P g' s' a→Q a s')→aU T.mo A t Q E s
theorem aS.pure (h:P g s a):aS T A (pure a) g s P:=λZ Z k=>bj (k _ _ _ .refl h)
theorem aS.mono (h:aS T A t g s P) (k: ∀g' s' a,bW T g s g' s'→P g' s' a→b g' s' a):aS T A t g s b:=
 λE Q q=>h E Q λg' s' a x y=>q g' s' a x (k g' s' a x y)
theorem aS.bind (h:aS T A t g s P)
  (c: ∀g' s' a,bW T g s g' s'→P g' s' a→aS T A (k a) g' s' e):aS T A (t>>=k) g s e:=
 λE Q q=>aw (h E _ λg' s' a x y=>c g' s' a x y E Q λp0 qx b d f=>q p0 qx b (x.trans d) f)
theorem aS.o' (h:aS T A (k ()) g s P):aS T A (standAt pos>>=k) g s P:=
 λE Q q=>aw (fF (h E Q q))
theorem aS.holding (h:aS T A t g s P):aS T A (holding vs t) g s P:=
 λE Q q=>fK (h E Q q)
noncomputable def nh (T:cA) (A:eU) (c:Code) (g:G) (s:aH) (P:G→aH→az→Prop):Prop:=
 ∀(R:r9→aH→Prop),(∀g' s' v,bW T g s g' s'→P g' s' v→R (.ok (.ret v)) s')→codeAny T.mo A c R s
theorem nh.uS (h:nh T A (.call f ⟨us,[]⟩) g s P):aS T A (call f us []) g s P:=
 λE Q q=>D2 (h _ λg' s' v x y=>q g' s' v x y)
def Res (T:cA) (W:W) (r:U):G→aH→az→Prop:=λg s v=>aW T g W s∧Is g.B g.aD s.heap r v
structure Room (d:Nat) (A:eU):Prop where
 depth:A.depth+d<recursionLimit
 units:A.units+10*d<cLine
 handled:A.handled=ah
theorem Room.less (r:Room d A) (h:a≤d):Room a A:=⟨by have:=r.depth;exact bE (cc h (e8 this)),by have:=r.units;exact bE (cc (lm 10 h) (e8 this)),r.handled⟩
theorem Room.in1 (r:Room (d+1) A):Room d A.in1:=⟨by have:=r.depth;show A.depth+d<_;exact D3 this,by have:=r.units;show A.units+1+10*d<_;exact bE (e8 this),r.handled⟩
theorem Room.deeper (r:Room (d+1) A):Room d (A.deeper env):=⟨by have:=r.depth;show A.depth+1+d<_;exact bE (e8 this),by have:=r.units;show A.units+3+10*d<_;exact bE (e8 this),r.handled⟩
noncomputable def small (i:Int):Bool:=decide (i.natAbs<1152921504606846976)
theorem H9 (h:small i=ab):i.natAbs<2^1023:=oh (jH h) bx
theorem PB (h:small i=ab):SJ i≤64:=by
 have h:=jH h
 exact intBits_le_64 (uq ar (nb h).1) (uq (nb h).2 ar)
def Ug:km→Int→Int→Option U
 | .Add,a,b=>I (.int (a+b))
 | .Sub,a,b=>I (.int (a-b))
 | .Mult,a,b=>if small b then I (.int (a*b)) else ah
 | .FloorDiv,a,b=>if b≠0∧b.natAbs<1073741824 then I (.int (a.fdiv b)) else ah
 | .Mod,a,b=>if b≠0 then I (.int (a.fmod b)) else ah
 | .Pow,a,n=>if 0≤n∧n≤1000∧small a then I (.int (a^n.toNat)) else ah
 |_,_,_=>ah
noncomputable def Uc:km→UInt64→UInt64→Option U
 | .Add,a,b=>I (.aj (ct a b))
 | .Sub,a,b=>I (.aj (b! a b))
 | .Mult,a,b=>I (.aj (c8 a b))
 | .Div,a,b=>if kT b then ah else I (.aj (d' a b))
 | .Mod,a,b=>if kT b then ah else I (.aj (jG a b).snd)
 |_,_,_=>ah
def Ud:km→UInt64→Int→Option U
 | .Add,a,n=>if small n then I (.aj (ct a (fD n))) else ah
 | .Sub,a,n=>if small n then I (.aj (b! a (fD n))) else ah
 |_,_,_=>ah
def Ue:km→Int→UInt64→Option U
 | .Div,n,b=>if small n∧ ¬kT b then I (.aj (d' (fD n) b)) else ah
 |_,_,_=>ah
noncomputable def Uk:km→Str→Str→Option U
 | .Add,x,y=>if x.length+y.length≤1048576 then I (.str (x++y)) else ah
 |_,_,_=>ah
noncomputable def Uj:km→Str→Int→Option U
 | .Mult,x,n=>if n=2∧x.length≤1000 then I (.str (Txt.mul x n)) else ah
 |_,_,_=>ah
def binI (op:km) (a:Int):U→Option U
 | .int b=>Ug op a b
 | .aj b=>Ue op a b
 |_=>ah
def Ub (op:km) (a:UInt64):U→Option U
 | .int b=>Ud op a b
 | .aj b=>Uc op a b
 |_=>ah
def Ui (op:km) (a:Str):U→Option U
 | .int b=>Uj op a b
 | .str b=>Uk op a b
 |_=>ah
def b? (op:km) (a b:U):Option U:=match a with
 | .int a=>binI op a b
 | .aj a=>Ub op a b
 | .str a=>Ui op a b
 |_=>ah
theorem Is.gd (i:Is B aD h p v) (e:I p=I r):Is B aD h r v:=inj e▸i
theorem aW.kH (d:aW T g a s):s.toks≠0:=Nat.pos_iff_ne_zero.mp d.aG
theorem aS.val (d:aW T g c s)
  (h: ∀(E:az→aH→Prop) (Q:az→aH→Prop),(∀v aG,Is g.B g.aD s.heap r v→Q v {s with toks:=aG})→aU T.mo A t Q E s):aS T A t g s (Res T c r):=
 λE Q k=>j0 (bh _) (h (λe s'=>s.toks≤s'.toks→E e s') (λa s'=>s.toks≤s'.toks→Q a s') λv Z i b=>
  k g _ v (.grow (dr:=s.drawn) (λZ Z e=>e) b) ⟨d.grow (λZ Z e=>e) b,i⟩)
theorem ae4 (h:0≤n∧n≤1000∧small a):(SJ a:Int)*n≤2^27:=by
 have J:=PB h.2.2
 have:(SJ a:Int)*n≤64*1000:=Int.mul_le_mul (by exact Nat.ToInt.of_le rfl rfl J) h.2.1 h.1 (by exact og _)
 exact DU this ar
theorem mul_fits (h:n=2) (aa:x.length≤1000):MulOk x n:=by
 subst h
 exact ⟨by decide,λZ Z=>uo.mpr (j5.mpr (cW aa rfl)),λZ Z=>f5 (wc.mpr (cG (rR 2 aa) ar))⟩
theorem Uh (e:b? op a b=I r) (d:aW T g h s) (eb:Is g.B g.aD s.heap a g?) (c:Is g.B g.aD s.heap b i):
  aS T A (binaryOp op g? i) g s (Res T h r):=by
 refine .val d λE Q k=> ?_
 induction eb using Is.casesOn with
 |int a=>induction c using Is.casesOn with
  |int b=>induction op with
   |Add=>exact add_int (k _ _ (.gd (.int _ _) e))
   |Sub=>exact sub_int (k _ _ (.gd (.int _ _) e))
   |Mult=>exact mul_int (k _ _ (.gd (.int _ _) (cy e))) (.of_right (PB (cu e)))
   |FloorDiv=>exact floordiv_int (cu e).1 (k _ _ (.gd (.int _ _) (cy e))) (.inl (PyProof.noPylong_small (cu e).2))
   |Mod=>exact mod_int (cu e) (k _ _ (.gd (.int _ _) (cy e)))
   |Pow=>exact pow_int (cu e).1 (ae4 (cu e)) (k _ _ (.gd (.int _ _) (cy e)))
   |_=>exact (nn e).elim
  |aj b=>induction op with
   |Div=>exact AutoFloatOps.truediv_if_2 (Float64.ofInt_fits (H9 (cu e).1)) (cu e).2 (k _ _ (.gd (.aj _ _ d.kH) (cy e)))
   |_=>exact (nn e).elim
  |_=>exact (nn e).elim
 |aj a=>induction c using Is.casesOn with
  |int b=>induction op with
   |Add=>exact add_fi_fits (H9 (cu e)) (k _ _ (.gd (.aj _ _ d.kH) (cy e)))
   |Sub=>exact sub_fi_fits (H9 (cu e)) (k _ _ (.gd (.aj _ _ d.kH) (cy e)))
   |_=>exact (nn e).elim
  |aj b=>induction op with
   |Add=>exact add_float (k _ _ (.gd (.aj _ _ d.kH) e))
   |Sub=>exact sub_float (k _ _ (.gd (.aj _ _ d.kH) e))
   |Mult=>exact mul_float (k _ _ (.gd (.aj _ _ d.kH) e))
   |Div=>exact AutoFloatOps.truediv_1 (tl e) (k _ _ (.gd (.aj _ _ d.kH) (rh e)))
   |Mod=>exact AutoFloatOps.mod_1 (tl e) (k _ _ (.gd (.aj _ _ d.kH) (rh e)))
   |_=>exact (nn e).elim
  |_=>exact (nn e).elim
 |str x=>induction c using Is.casesOn with
  |int b=>induction op with
   |Mult=>exact SB.mul (mul_fits (cu e).1 (cu e).2) (λf aG=>k _ _ (.gd (.str _ _) (cy e)))
   |_=>exact (nn e).elim
  |str b=>induction op with
   |Add=>exact add_str (λf aG=>k _ _ (.gd (.str _ _) (cy e))) (cG (cu e) ar)
   |_=>exact (nn e).elim
  |_=>exact (nn e).elim
 |_=>exact (nn e).elim
noncomputable def aiI:UnaryOp→Int→Option U
 | .USub,a=>I (.int (-a))
 |_,_=>ah
noncomputable def aiH:UnaryOp→UInt64→Option U
 | .USub,a=>I (.aj (C? a))
 |_,_=>ah
def Iw (op:UnaryOp):U→Option U
 | .int a=>aiI op a
 | .aj a=>aiH op a
 |_=>ah
theorem aiJ (e:Iw op a=I r) (d:aW T g b s) (eb:Is g.B g.aD s.heap a g?):
  aS T A (unaryOp op g?) g s (Res T b r):=by
 refine .val d λE Q k=> ?_
 induction eb using Is.casesOn with
 |int a=>induction op with
  |USub=>exact neg_int (k _ _ (.gd (.int _ _) e))
  |_=>exact (nn e).elim
 |aj a=>induction op with
  |USub=>exact neg_float (k _ _ (.gd (.aj _ _ d.kH) e))
  |_=>exact (nn e).elim
 |_=>exact (nn e).elim
end Mine
end
noncomputable section
open PySem PySem.W PyProof.Rows PySem.Calls PySem.Spec PySem.SeqAt
namespace Mine
mutual
noncomputable def toD:U→Option m9
 | .none=>I .none
 | .bool b=>I (.bool b)
 | .int i=>I (.int i)
 | .str x=>I (.str x)
 | .list l=>(jB l).map .list
 | .tup l=>(jB l).map .tuple
 | .aj _=>ah
 | .obj _=>ah
 | .raw _=>ah
noncomputable def jB:List U→Option (List m9)
 |[]=>I []
 |p::l=>match toD p with
  |some d=>match jB l with
   |some ds=>I (d::ds)
   |none=>ah
  |none=>ah
end
theorem vI {as} (x:lr h v d as) (e:I d=I a): ∃as,lr h v a as:=⟨as,inj e▸x⟩
theorem Cm {as} (x:ReadsAll h v d as) (e:I d=I a): ∃as,ReadsAll h v a as:=⟨as,inj e▸x⟩
theorem Is.reads (x:Is B aD h p v): ∀{d:m9},toD p=I d→ ∃as,lr h v d as:=by
 refine Is.rec (motive_1:=λp v Z=> ∀{d:m9},toD p=I d→ ∃as,lr h v d as) (motive_2:=λl vs Z=> ∀{a:List m9},jB l=I a→ ∃as,ReadsAll h vs a as)
  ?_ ?_ ?_ ?_ ?_ ?_ ?_ ?_ ?_ ?_ ?_ x
 ·exact λe=>vI .none e
 ·exact λb d e=>vI (.bool b) e
 ·exact λi t d e=>vI (.int i t) e
 ·exact λZ Z Z Z e=>aR e
 ·exact λx t d e=>vI (.str x t) e
 ·exact λnb s r f d e=>i! e λa g j=>fe s.eW λo k ag hd=>h! hd λn hd=>h! (f g) λas c=>vI (.list k ag hd c) (aQ I j)
 ·exact λnb s r f d e=>i! e λa g j=>fe s λo k ag hd=>h! hd λn hd=>h! (f g) λas c=>vI (.tuple k ag hd c) (aQ I j)
 ·exact λZ Z e=>aR e
 ·exact λZ Z e=>aR e
 ·exact λe=>Cm .nil e
 ·intro p v l vs _ _ m q a e
  rw[jB] at e
  generalize af:toD p=x at e
  generalize a9:jB l=y at e
  induction x using d5 with
  |none=>exact aR e
  |some d=>induction y using d5 with
   |none=>exact aR e
   |some u=>exact (m af).elim λas c=>h! (q a9) λbs fZ=>Cm (.cons c fZ) e
theorem IsL.reads: ∀{l:List U} {vs:List az} {a:List m9},IsL B aD h l vs→jB l=I a→ ∃as,ReadsAll h vs a as:=by
 intro l
 induction l with
 |nil=>intro vs a x e;cases x;exact Cm .nil e
 |cons p l b=>
  intro vs a x e
  cases x with|cons x r=>
  rw[jB] at e
  generalize af:toD p=c at e
  generalize a9:jB l=y at e
  induction c using d5 with
  |none=>exact aR e
  |some d=>induction y using d5 with
   |none=>exact aR e
   |some g=>exact (x.reads af).elim λas f=>(b r a9).elim λbs fZ=>Cm (.cons f fZ) e
noncomputable def Lz:U→Option UInt64
 | .aj a=>I a
 |_=>ah
theorem Yj (h:Lz p=I a):p= .aj a:=by
 induction p using U.casesOn with
 |aj=>exact aQ U.aj (inj h)
 |_=>exact aR h
noncomputable def q6:List U→Option (List UInt64)
 |[]=>I []
 |p::l=>(Lz p).bind λa=>(q6 l).map (a::·)
noncomputable def xm:List UInt64→List UInt64→Option Bool
 |[],[]=>I ab
 |a::l,b::m=>if a=b∧(hz a a==I Ordering.eq)=ab then xm l m else ah
 |_,_=>ah
def Ls (p q:U):Option Bool:=match p with
 | .aj a=>match q with
  | .aj b=>I (hz a b==I Ordering.eq)
  |_=>ah
 | .tup l=>match q with
  | .tup m=>(q6 l).bind λx=>(q6 m).bind λy=>xm x y
  |_=>ah
 |_=>ah
noncomputable def Le (x y:Option m9) (f:Option Bool):Option Bool:=match x with
 |some d=>match y with
  |some e=>if shaped d&&shaped e then I (lu d e) else ah
  |none=>f
 |none=>f
def hs (p q:U):Option Bool:=Le (toD p) (toD q) (Ls p q)
noncomputable def af5 (x:U) (z:Str):Option Bool:=match x with
 | .str y=>I !(mf z y 0 z.length 1).isEmpty
 |_=>ah
noncomputable def GG (x:Option m9) (y:Option (List m9)):Option Bool:=match x with
 |some d=>match y with
  |some ds=>if shaped d&&shaped (.list ds) then I (ds.any λy=>lu y d) else ah
  |none=>ah
 |none=>ah
def kK (x c:U):Option Bool:=match c with
 | .str z=>af5 x z
 | .list l=>GG (toD x) (jB l)
 |_=>ah
noncomputable def Vy:oa→Int→Int→Option Bool
 | .Lt,a,b=>I (decide (a<b))
 | .LtE,a,b=>I (decide (a≤b))
 | .Gt,a,b=>I (decide (b<a))
 | .GtE,a,b=>I (decide (b≤a))
 |_,_,_=>ah
noncomputable def Vx:oa→UInt64→UInt64→Option Bool
 | .Lt,a,b=>I (hz a b==I Ordering.lt)
 | .LtE,a,b=>I (hz a b==I Ordering.lt||hz a b==I Ordering.eq)
 | .Gt,a,b=>I (hz a b==I Ordering.gt)
 |_,_,_=>ah
noncomputable def Vv:oa→Bool→Bool→Option Bool
 | .Is,a,b=>I (a==b)
 | .IsNot,a,b=>I (a !=b)
 |_,_,_=>ah
noncomputable def nt:U→Option Int
 | .int i=>I i
 |_=>ah
noncomputable def uB:U→Option UInt64
 | .aj i=>I i
 |_=>ah
noncomputable def zP:U→Option Bool
 | .bool i=>I i
 |_=>ah
noncomputable def my:U→Option Str
 | .str x=>I x
 |_=>ah
noncomputable def wN:U→Option (List U)
 | .list x=>I x
 |_=>ah
noncomputable def oneOf:List U→Option U
 |[p]=>I p
 |_=>ah
theorem om (h:my p=I i):p= .str i:=by
 induction p using U.casesOn with
 |str j=>exact aQ U.str (inj h)
 |_=>exact aR h
theorem zQ (h:wN p=I i):p= .list i:=by
 induction p using U.casesOn with
 |list j=>exact aQ U.list (inj h)
 |_=>exact aR h
theorem qu (h:oneOf ps=I p):ps=[p]:=by
 induction ps using cj with
 |nil=>exact aR h
 |cons q r=>
  induction r using cj with
  |nil=>exact aQ (·::[]) (inj h)
  |cons=>exact aR h
theorem nu (h:nt p=I i):p= .int i:=by
 induction p using U.casesOn with
 |int j=>exact aQ U.int (inj h)
 |_=>exact aR h
theorem wM (h:uB p=I i):p= .aj i:=by
 induction p using U.casesOn with
 |aj j=>exact aQ U.aj (inj h)
 |_=>exact aR h
theorem J6 (h:zP p=I i):p= .bool i:=by
 induction p using U.casesOn with
 |bool j=>exact aQ U.bool (inj h)
 |_=>exact aR h
def EO (op:oa) (a b:U):Option Bool:=match a with
 | .int i=>(nt b).bind (Vy op i)
 | .aj i=>(uB b).bind (Vx op i)
 | .bool i=>(zP b).bind (Vv op i)
 |_=>ah
def e_ (op:oa) (a b:U):Option Bool:=match op with
 | .Eq=>hs a b
 | .NotEq=>(hs a b).map (!·)
 | .In=>kK a b
 | .NotIn=>(kK a b).map (!·)
 |op=>EO op a b
section
variable {T:cA} {g:G}
theorem YG: ∀{d cq:List UInt64} {r:Bool},xm d cq=I r→d=cq∧r=ab∧ ∀a∈d,(hz a a==I Ordering.eq)=true:=by
 intro d
 induction d with
 |nil=>intro cq r h;induction cq using cj with
  |nil=>exact ⟨rfl,(inj h).symm,nofun⟩
  |cons=>exact aR h
 |cons a d f=>intro cq r h;induction cq using cj with
  |nil=>exact aR h
  |cons b cq=>
   have J:=cu h
   have aa:=f (cy h)
   exact ⟨by rw[J.1,aa.1],aa.2.1,λc ag=>(eo.mp ag).elim (λe=>e▸J.2) (aa.2.2 c)⟩
theorem IsL.LA: ∀{l:List U} {vs:List az} {d:List UInt64},IsL B aD h l vs→q6 l=I d→vs.length=d.length∧ ∀(j:Nat) v,vs[j]?=I v→ ∃a t,d[j]?=I a∧v= .float a t∧t≠0:=by
 intro l
 induction l with
 |nil=>intro vs d x e;cases x.jd;cases inj e;exact ⟨rfl,λZ Z e=>aR e⟩
 |cons p l k=>
  intro vs d x e
  refine fU x.hy λu us ev a b=>aO e λc ag m=>i! m λq i n=> ?_
  cases Yj ag
  have h:=k b i
  subst ev n
  refine ⟨aQ (·+1) h.1,λj v f=> ?_⟩
  induction j using fJ with
  |zero=>cases a with|aj _ t z=>exact ⟨_,t,rfl,(inj f).symm,z⟩
  |succ j=>exact h.2 j v f
theorem SU (c:t≠0) (b0:u≠0) (ae:JE s.heap) (a5:(hz a a==I Ordering.eq)=ab):EqAt A s (.float a t) (.float a u) true:=λprog w E Q h=>by
 have d:aU (cU prog w) A (richCompare .Eq (.float a t) (.float a u)>>=truthOfDropped) Q E s:=
  aw (ajH (prog:=prog) (w:=w) (A:=A) (E:=E) (s:=s) (a:=a) (t:=t) (b:=a) (u:=u) (Dc (by rw[a5];exact h)))
 unfold eqBool
 refine fK ?_
 refine wpAny_ite_split (λe=>aw (lx (bj h))) (λ_=> ?_)
 refine aw (m:=isSame _ _) ?_
 show aU _ A (ajI (a==a&& !Float64.isNaN a) t u) _ E s
 have fin: ∀b:Bool,aU (cU prog w) A (if b=ab then pure ab else (richCompare .Eq (.float a t) (.float a u)>>=truthOfDropped)) Q E s:=λb=>by
  induction b using d1 with
  |true=>exact bj h
  |false=>exact d
 unfold ajI
 refine IT ?_
 split
 ·rename_i q;simp[c,b0] at q
 refine IT ?_
 split
 ·exact bj (fin _)
 refine IT ?_
 split
 ·exact bj (fin _)
 refine aw (ajJ ae ?_)
 first|rw[a3 cv]|simp only[y5,if_false]
 refine aw (ajJ ae ?_)
 first|rw[a3 cv]|simp only[y5,if_false]
 exact aw (lx (aw (y6 (bj (fin _)))))
theorem LB (ae:JE s.heap) (aX:IsL B aD h l vs) (f:IsL B aD h m us) (ex:q6 l=I xs) (e:q6 m=I cq)
  (au:xm xs cq=I r):(∀j (J:j<vs.toArray.size) (aa:j<us.toArray.size),EqAt A s vs.toArray[j] us.toArray[j] ab)∧((eB (min vs.toArray.size us.toArray.size)).all (λZ=>ab)&&vs.toArray.size==us.toArray.size)=r:=by
 obtain ⟨f1,f2,dW⟩:=YG au
 obtain ⟨a1,a2⟩:=aX.LA ex
 obtain ⟨b1,b2⟩:=f.LA e
 subst f1 f2
 refine ⟨λj J aa=> ?_,?_⟩
 ·simp only[eK] at J aa
  obtain ⟨a,t,c!,dT,i⟩:=a2 j vs[j] (ly J)
  obtain ⟨b,u,c,k,d⟩:=b2 j us[j] (ly aa)
  rw[c!] at c;cases c
  simp only[List.getElem_toArray]
  rw[dT,k]
  exact SU i d ae (dW a (ia c!))
 ·simp only[eK]
  rw[a1,b1];simp
theorem OR {G:Prop} (e:hs a b=I r)
  (f: ∀D,toD a=I D→ ∃as,lr h g? D as) (fZ: ∀D,toD b=I D→ ∃as,lr h i D as)
  (bp: ∀D c as bs,lr h g? D as→lr h i c bs→shaped D=ab→shaped c=ab→lu D c=r→G)
  (bK: ∀x y,a= .aj x→b= .aj y→(hz x y==I Ordering.eq)=r→G)
  (dg: ∀l m d cq,a= .tup l→b= .tup m→q6 l=I d→q6 m=I cq→xm d cq=I r→G):G:=by
 have key:Ls a b=I r→G:=λe=>by
  induction a using U.casesOn with
  |aj x=>induction b using U.casesOn with
   |aj y=>exact bK x y rfl rfl (inj e)
   |_=>exact aR e
  |tup l=>induction b using U.casesOn with
   |tup m=>exact aO e λd af e=>aO e λcq a9 e=>dg l m d cq rfl rfl af a9 e
   |_=>exact aR e
  |_=>exact aR e
 unfold hs at e
 generalize af:toD a=x at e
 generalize a9:toD b=y at e
 induction x using d5 with
 |none=>exact key e
 |some D=>induction y using d5 with
  |none=>exact key e
  |some c=>
   have au:=je.mp (cu e)
   exact (f D af).elim λas aJ=>(fZ c a9).elim λbs ae=>bp D c as bs aJ ae au.1 au.2 (inj (cy e))
theorem OS {G:Prop} (e:kK a b=I r)
  (d: ∀D,toD a=I D→ ∃as,lr h g? D as) (fZ: ∀D,toD b=I D→ ∃as,lr h f D as)
  (bp: ∀D c as bs,lr h g? D as→lr h f (.list c) bs→shaped D=ab→shaped (.list c)=ab→(c.any λy=>lu y D)=r→G)
  (bK: ∀x y,a= .str x→b= .str y→(!(mf y x 0 y.length 1).isEmpty)=r→G):G:=by
 induction b using U.casesOn with
 |str y=>induction a using U.casesOn with
  |str x=>exact bK x y rfl rfl (inj e)
  |_=>exact aR e
 |list l=>
  replace e:GG (toD a) (jB l)=I r:=e
  generalize af:toD a=x at e
  generalize a9:jB l=y at e
  induction x using d5 with
  |none=>exact aR e
  |some D=>induction y using d5 with
   |none=>exact aR e
   |some c=>
    have au:=je.mp (cu e)
    exact (d D af).elim λas aJ=>(fZ (.list c) (aQ (Dd PyData.list) a9)).elim λbs ae=>bp D c as bs aJ ae au.1 au.2 (inj (cy e))
 |_=>exact aR e
theorem Is.md (x:Is B aD h (.int i) v): ∃t,v= .int i t:=by cases x;exact ⟨_,rfl⟩
theorem Is.v' (x:Is B aD h (.aj i) v): ∃t,v= .float i t∧t≠0:=by cases x with|aj _ t z=>exact ⟨t,rfl,z⟩
theorem Is.v9 (x:Is B aD h (.aj i) v): ∃t,v= .float i t:=by cases x;exact ⟨_,rfl⟩
theorem Is.h9 (x:Is B aD h (.str i) v): ∃t,v= .str i t:=by cases x;exact ⟨_,rfl⟩
theorem Is.C2 (x:Is B aD h (.bool i) v):v= .bool i:=by cases x;rfl
theorem Vz (e:EO op a b=I r) (k: ∀c:Bool,c=r→Q (.bool c) s)
  (eb:(∀l,a≠ .list l)→Is g.B g.aD s.heap a g?) (d:(∀l,b≠ .list l)→Is g.B g.aD s.heap b f):aU T.mo A (compareOp op g? f) Q E s:=by
 have eb:=eb λl h=>nn (h▸e:EO op (.list l) b=I r)
 induction eb using Is.casesOn with
 |int i t=>
  refine aO e λj ae e=> ?_
  obtain rfl:=nu ae
  obtain ⟨u,rfl⟩:=(d nofun).md
  induction op using IU with
  |Lt=>exact lt_int (k _ (inj e))
  |LtE=>exact le_int (k _ (inj e))
  |Gt=>exact gt_int (k _ (inj e))
  |GtE=>exact ge_int (k _ (inj e))
  |_=>exact aR e
 |aj i t=>
  refine aO e λj ae e=> ?_
  obtain rfl:=wM ae
  obtain ⟨u,rfl⟩:=(d nofun).v9
  induction op using IU with
  |Lt=>exact ajL (k _ (inj e))
  |LtE=>exact AutoFloatOps.le_0 (k _ (inj e))
  |Gt=>exact ajM (k _ (inj e))
  |_=>exact aR e
 |bool i=>
  refine aO e λj ae e=> ?_
  obtain rfl:=J6 ae
  obtain rfl:=(d nofun).C2
  induction op using IU with
  |Is=>exact is_bool (k _ (inj e))
  |IsNot=>exact isnot_bool (k _ (inj e))
  |_=>exact aR e
 |_=>exact aR e
theorem VA {r:Bool} {n:Nat} (e:e_ op a b=I r) (d:aW T g H s) (b7:Room (n+8) A)
  (h: ∀D,toD a=I D→ ∃as,lr s.heap g? D as) (fZ: ∀D,toD b=I D→ ∃as,lr s.heap w D as) (eb:(∀l,a≠ .list l)→Is g.B g.aD s.heap a g?) (i:(∀l,b≠ .list l)→Is g.B g.aD s.heap b w):
  aS T A (compareOp op g? w) g s (Res T H (.bool r)):=by
 refine .val d λE Q k=> ?_
 have v:JE s.heap:=let ⟨z,a,b⟩:=T.booked;⟨z,a.keeps λb o e=>(d.base b o e).1,b⟩
 have b0:A.units+65<cLine:=by have:=b7.units;exact bE (e8 this)
 replace k: ∀c:Bool,c=r→Q (.bool c) s:=λc ag=>by subst ag;exact k _ s.toks (.bool _)
 induction op using IU with
 |Eq=>
  refine OR e h fZ (λD L as bs aJ ae J aa e=>eq_dataH aJ ae J aa (by exact D3 b0) (k _ e)) (λx y J aa q=> ?_) ?_
  ·clear e h fZ
   subst J aa
   obtain ⟨t,rfl⟩:=(eb nofun).v9
   obtain ⟨u,rfl⟩:=(i nofun).v9
   exact ajH (k _ q)
  ·intro l m M cq J aa ex j es
   subst J aa
   cases eb nofun with
   |tup na aJ cc=>cases i nofun with
    |tup nb ae p=>
     have f:=LB (A:=A.in1) v cc p ex j es
     exact RcAt.tuples aJ ae (by exact bE (e8 b0)) f.1 _ _ _ _ (k _ f.2)
 |NotEq=>
  refine i! e λc e ag=>OR e h fZ (λD L as bs aJ ae J aa e=>ne_dataH aJ ae J aa (by exact D3 b0) (k _ ((aQ not e).trans ag))) (λx y J aa q=> ?_) ?_
  ·clear e h fZ
   subst J aa
   obtain ⟨t,rfl⟩:=(eb nofun).v9
   obtain ⟨u,rfl⟩:=(i nofun).v9
   exact AutoFloatOps.ne_0 (k _ ((aQ not q).trans ag))
  ·intro l m M cq J aa ex j es
   subst J aa
   cases eb nofun with
   |tup na aJ cc=>cases i nofun with
    |tup nb ae p=>
     have f:=LB (A:=A.in1) v cc p ex j es
     exact RcNeAt.tuples aJ ae (by exact bE (e8 b0)) f.1 _ _ _ _ (k _ ((aQ not f.2).trans ag))
 |In=>
  refine OS e h fZ (λD C as bs aJ ae J aa e=>in_list_reads ae aJ (y7 aa) (y7 J) (Ro J b0) (k _ e)) λx y J aa q=> ?_
  clear e h fZ
  subst J aa
  obtain ⟨t,rfl⟩:=(eb nofun).h9
  obtain ⟨u,rfl⟩:=(i nofun).h9
  exact in_str (k _ q)
 |NotIn=>
  refine i! e λc e ag=>OS e h fZ (λD C as bs aJ ae J aa e=>notIn_list_reads ae aJ (y7 aa) (y7 J) (Ro J b0) (k _ ((aQ not e).trans ag))) λx y J aa q=> ?_
  clear e h fZ
  subst J aa
  obtain ⟨t,rfl⟩:=(eb nofun).h9
  obtain ⟨u,rfl⟩:=(i nofun).h9
  exact notIn_str (k _ (by rw[←ag,←q,Bool.not_not]))
 |_=>exact Vz e k eb i
end
set_option genCtorIdx true in
inductive Slot where
 |unset|val (p:U)|own (l:List U)
noncomputable abbrev aA:=List (Str×Slot)
noncomputable def aA.get:aA→Str→Slot
 |[],_=> .unset
 |(y,v)::r,x=>if y==x then v else aA.get r x
noncomputable def aA.set:aA→Str→Slot→aA
 |[],x,v=>[(x,v)]
 |(y,u)::r,x,v=>if y==x then (y,v)::r else (y,u)::aA.set r x v
noncomputable def aA.freeze (σ:aA) (a:List Str):aA:=σ.map λ(y,u)=>(y,if a.contains y then (match u with| .own l=> .val (.list l)|u=>u) else u)
set_option genCtorIdx true in
inductive fx where
 |next|brk|cont|ret (p:U)
noncomputable def isWs (c:Nat):Bool:=c==10||c==9||c==13||c==32
noncomputable def cQ.read (x:cQ):Option Nat×cQ:=match x.rem with
 |[]=>(ah,x)
 |c::r=>(I c,{x with rem:=r,line:=if c==10 then x.line+1 else x.line})
noncomputable def m3:Nat→List Nat→cQ→List Nat×cQ
 |0,acc,x=>(acc,x)
 |n+1,acc,x=>match x.read with
  |(ah,x)=>(acc,x)
  |(I c,x)=>if c==34 then (acc,x) else if c==92 then (let (d,x):=x.read;m3 n (acc++d.toList) x) else m3 n (acc++[c]) x
noncomputable def mc:Nat→List Nat→cQ→List Nat×cQ
 |0,acc,x=>(acc,x)
 |n+1,acc,x=>match x.read with
  |(ah,x)=>(acc,x)
  |(I c,x)=>if isWs c then (acc,x) else if c==92 then (let (d,x):=x.read;mc n (acc++d.toList) x) else mc n (acc++[c]) x
noncomputable def g!:Nat→cQ→List Nat×cQ
 |0,x=>([],x)
 |n+1,x=>match x.read with
  |(ah,x)=>([],x)
  |(I c,x)=>if isWs c then g! n x else if c==34 then m3 (x.rem.length+1) [] x
   else if c==92 then (let (d,x):=x.read;mc (x.rem.length+1) d.toList x) else mc (x.rem.length+1) [c] x
def cQ.token (x:cQ):Str×cQ:=match x.push with
 |t::r=>(t,{x with push:=r})
 |[]=>let (t,x):=g! (x.rem.length+1) x;(⟨t.toArray⟩,x)
def l7 (k:Int) (n:Nat):Option Nat:=if small k then seqIndex? k n else ah
def aab (x:U) (i:Int):Option U:=match x with
 | .list l=>if small i then (seqIndex? i l.length).bind λj=>l[j]? else ah
 | .tup l=>if small i then (seqIndex? i l.length).bind λj=>l[j]? else ah
 | .str x=>if small i then ((seqIndex? i x.length).bind (x.cps[·]?)).map λc=> .str ⟨#[c]⟩ else ah
 |_=>ah
def dM (x k:U):Option U:=(nt k).bind (aab x)
noncomputable def yh:U→Option (Option Int)
 | .none=>I ah
 | .int i=>I (I i)
 |_=>ah
noncomputable def tE (l:List U) (lo aI st:Option Int):List U:=
 (sliceRange (sliceBounds lo aI st l.length).1 (sliceBounds lo aI st l.length).2.1 (sliceBounds lo aI st l.length).2.2).filterMap (l[·]?)
noncomputable def hF (x:Str) (lo aI:Option Int):Str:=
 if (1==(1:Int)&&(IV lo aI 1 x.length).length==x.length)=ab then x else ⟨((IV lo aI 1 x.length).filterMap (x.cps[·]?)).toArray⟩
def iO (v lo aI st:U):Option U:=(yh lo).bind λlo=>(yh aI).bind λaI=>(yh st).bind λst=>match v with
 | .list l=>if st≠I 0∧l.length≤1048576 then I (.list (tE l lo aI st)) else ah
 | .str x=>if st=ah∧x.length≤1048576 then I (.str (hF x lo aI)) else ah
 |_=>ah
noncomputable def ab7:U→Option Nat
 | .list l=>I l.length
 | .tup l=>I l.length
 | .str x=>I x.length
 |_=>ah
noncomputable def o!:List U→Option Int
 |[]=>I 0
 |p::l=>(nt p).bind λi=>(o! l).map (i+·)
noncomputable def rD:List U→Option (List Str)
 |[]=>I []
 |p::l=>(my p).bind λx=>(rD l).map (x::·)
noncomputable def n9:U→Option Bool
 | .bool b=>I b
 | .str x=>if x.length≤1048576 then I ((x.length:Int) !=0) else ah
 |_=>ah
noncomputable def oE (a b:UInt64):Bool:=hz a b==I Ordering.gt
noncomputable def xj (a b:UInt64):Bool:=hz a b==I Ordering.lt
noncomputable def GC (n:Nat) (x:Option m9) (y:Option (List m9)):Option Nat:=match x with
 |some d=>match y with
  |some ds=>if shaped d&&shaped (.list ds)&&n≤1048576 then ds.findIdx? λy=>lu y d else ah
  |none=>ah
 |none=>ah
def idxOf (x:U) (l:List U):Option Nat:=GC l.length (toD x) (jB l)
noncomputable def intsFrom (a:Int) (k:Nat):List U:=(eB k).map λ(i:Nat)=> .int (a+i)
def l_ (vs:List U):Option (List U):=match vs with
 |[]=>ah
 |p::r=>(nt p).bind λa=>match r with
  |[]=>if small a then I (intsFrom 0 a.toNat) else ah
  |q::r=>if r.isEmpty then (nt q).bind λb=>if small a&&small b then I (intsFrom a (b-a).toNat) else ah else ah
noncomputable def isName:Expr→Bool
 | .Name .. =>ab
 |_=>aq
noncomputable def kD:Expr→Bool
 | .Tuple .. =>ab
 |_=>aq
noncomputable def sA (l:List U):List U:=(l.zipIdx).map λ(p,i)=> .tup [.int i,p]
noncomputable def dX (x:Str) (s:String):Bool:=x==ao s
noncomputable def truncF (w:UInt64):Option U:=match mg w with
 | .fin neg m e=>I (.int (t4 neg m e))
 |_=>ah
def Io:List U→Option (UInt64×UInt64×UInt64)
 |[a,b,c]=>(uB a).bind λa=>(uB b).bind λb=>(uB c).bind λc=>I (a,b,c)
 |_=>ah
def NB (vs:List U):Option U:=(oneOf vs).bind λv=>(ab7 v).bind λn=>if n≤1048576 then I (.int n) else ah
def PN (vs:List U):Option U:=(oneOf vs).bind λv=>(wN v).bind λl=>(o! l).map .int
def Nd (vs:List U):Option U:=(oneOf vs).bind λv=>(uB v).bind truncF
def JX (vs:List U):Option U:=(oneOf vs).bind λv=>(nt v).map λi=> .int (if i<0 then-i else i)
def NW (vs:List U):Option U:=(Io vs).bind λx=>let m:=if oE x.2.1 x.1 then x.2.1 else x.1;I (.aj (if oE x.2.2 m then x.2.2 else m))
def N1 (vs:List U):Option U:=(Io vs).bind λx=>let m:=if xj x.2.1 x.1 then x.2.1 else x.1;I (.aj (if xj x.2.2 m then x.2.2 else m))
def fO (f:Str) (vs:List U):Option U:=
 if dX f "len" then NB vs
 else if dX f "sum" then PN vs
 else if dX f "int" then Nd vs
 else if dX f "max" then NW vs
 else if dX f "min" then N1 vs
 else if dX f "abs" then JX vs
 else ah
noncomputable def startM (x y:Str):Option U:=I (.bool (ha x y))
noncomputable def W5 (x y:Str):Option U:=I (.bool (j1 x y))
noncomputable def countM (x y:Str):Option U:=I (.int (Rp x y))
def joinM (x:Str) (l:List U):Option U:=(rD l).bind λts=>if JoinOk x ts then I (.str (De x ts)) else ah
def J4:List U→Option (Str×Int×Int)
 |[y,a,b]=>(my y).bind λy=>(nt a).bind λa=>(nt b).bind λb=>I (y,a,b)
 |_=>ah
noncomputable def Lx (x:Str) (q:Str×Int×Int):Option U:=I (.int (match mf x q.1 (fromIndex x.length q.2.1) (min (fromIndex x.length q.2.2) x.length) 1 with|k::_=>(k:Int)|[]=> -1))
def methP (m:Str) (v:U) (vs:List U):Option U:=
 if dX m "index" then (wN v).bind λl=>(oneOf vs).bind λx=>(idxOf x l).map λ(n:Nat)=> .int n
 else (my v).bind λx=>
 if dX m "find" then (J4 vs).bind (Lx x)
 else (oneOf vs).bind λy=>
 if dX m "join" then (wN y).bind (joinM x)
 else (my y).bind λy=>
 if dX m "startswith" then startM x y
 else if dX m "endswith" then W5 x y
 else if dX m "count" then countM x y
 else ah
structure bY where
 dx:D8
 d:Nat
 sc:Scope
noncomputable def kI (d:j4):List Str:=d.params.args.map (·.arg)
noncomputable def isSet:Expr→Bool
 | .Set .. =>ab
 |_=>aq
noncomputable def baseOk:Expr→Bool
 | .Call (.Name _ _) [] [] _=>aq
 |_=>ab
def u?:Expr→Bool
 | .List .. =>ab
 | .ListComp .. =>ab
 | .Call (.Attribute _ m _) _ _ _=>dX m "split"
 |_=>aq
def aay (f:Str):Bool:=(["len","sum","max","min","abs","int","range","enumerate","sorted","set"]:List String).any (dX f)
noncomputable def cf:Nat→Bool→Expr→List Str
 |0,_,_=>[]
 |n+1,top,e=>match e with
  | .Name x _=>if top then [x] else []
  | .List es _=>es.flatMap (cf n ab)
  | .Tuple es _ _=>es.flatMap (cf n ab)
  | .IfExp t a b _=>cf n aq t++cf n ab a++cf n ab b
  | .BoolOp _ es _=>es.flatMap (cf n ab)
  | .BinOp a _ b _=>cf n aq a++cf n aq b
  | .UnaryOp _ a _=>cf n aq a
  | .Compare a _ es _=>cf n aq a++es.flatMap (cf n aq)
  | .Subscript a b _=>cf n aq a++cf n aq b
  | .Attribute a _ _=>cf n aq a
  | .Call (.Name f _) as _ _=>as.flatMap (cf n (!aay f))
  | .Call (.Attribute o _ _) as _ _=>cf n aq o++as.flatMap (cf n ab)
  | .ListComp e gens _ _=>cf n ab e++gens.flatMap λg=>cf n aq g.iter++g.ifs.flatMap (cf n aq)
  |_=>[]
noncomputable def dD (sc:Scope) (x:Str):Bool:=sc.names.lookup x==I .local||sc.names.lookup x==I .cell
noncomputable def l1:Expr→Option Str
 | .Name x _=>I x
 |_=>ah
noncomputable def CV:Expr→Option (List Expr)
 | .Tuple ts _ _=>I ts
 |_=>ah
noncomputable def Pj:U→Option (List U)
 | .tup l=>I l
 | .list l=>I l
 |_=>ah
def qW (sc:Scope) (t:Expr) (p:U) (σ:aA):Option aA:=(l1 t).bind λx=>if dD sc x then I (σ.set x (.val p)) else ah
noncomputable def pJ (sc:Scope):List Expr→List U→aA→Option aA
 |[],l,σ=>if l.isEmpty then I σ else ah
 |t::ts,l,σ=>match l with
  |[]=>ah
  |p::l=>(qW sc t p σ).bind λσ=>pJ sc ts l σ
def d2 (sc:Scope) (t:Expr) (p:U) (σ:aA):Option aA:=(CV t).elim (qW sc t p σ) λts=>(Pj p).bind λl=>pJ sc ts l σ
noncomputable def aA.hide (σ:aA) (a:List Str):aA:=σ.map λ(y,u)=>(y,if a.contains y then .unset else u)
noncomputable def Scope.dq (sc:Scope):List Str:=(sc.names.filter λx=>x.2== .local||x.2== .cell).map (·.1)
noncomputable def lH (sc a:Scope):Bool:=
 a.kind== .function&&decide (a.names.map (·.1)).Nodup&&
 a.names.all λx=>x.1 !=("__debug__":Str)&&x.1 !=("__classdict__":Str)&&(x.2== .local||x.2== .cell||x.2== .globalImplicit||
  (x.2== .free&&(sc.names.lookup x.1==I .cell||sc.names.lookup x.1==I .free)))
noncomputable def held (sc:Scope) (x:Str):Bool:=match sc.names.lookup x with
 |some k=>k != .globalImplicit
 |none=>aq
def aA.own? (sc:Scope) (σ:aA) (x:Str):Option (List U):=if held sc x then (match σ.get x with| .own l=>if l.length≤1048576 then I l else ah|_=>ah) else ah
abbrev intOf:=nt
noncomputable def valOf:Slot→Option U
 | .val p=>I p
 |_=>ah
noncomputable def Br:Expr→Bool
 | .ListComp .. =>ab
 | .SetComp .. =>ab
 | .DictComp .. =>ab
 |_=>aq
noncomputable def isSlice:Expr→Bool
 | .Slice .. =>ab
 |_=>aq
noncomputable def CU:Expr→Bool
 | .Tuple vs _ _=>vs.all (foldedForSure 8)|| !(vs.all (constantsAlone 8))
 |_=>ab
noncomputable def TR:km→Int→Int→Option U
 | .Add,a,b=>I (.int (a+b))
 | .Sub,a,b=>I (.int (a-b))
 |_,_,_=>ah
noncomputable def TS:km→Str→Str→Option U
 | .Add,x,y=>if x.length+y.length≤1048576 then I (.str (x++y)) else ah
 |_,_,_=>ah
def qU (op:km) (a b:U):Option U:=match a with
 | .int a=>(nt b).bind (TR op a)
 | .str a=>(my b).bind (TS op a)
 |_=>ah
noncomputable def EV:Const→Option U
 | .none=>I .none
 | .bool b=>I (.bool b)
 | .int i=>I (.int i)
 | .float f=>I (.aj f)
 | .str s=>I (.str s)
 |_=>ah
noncomputable def PA:Slot→Option U
 | .val p=>I p
 | .own l=>I (.list l)
 | .unset=>ah
def x' (cx:bY) (σ:aA) (x:Str):Option U:=(cx.sc.names.lookup x).bind λk=>if k== .globalImplicit then cx.dx.consts.lookup x else valOf (σ.get x)
def tv (cx:bY) (σ:aA) (x:Str):Option U:=(cx.sc.names.lookup x).bind λk=>if k== .globalImplicit then cx.dx.consts.lookup x else PA (σ.get x)
noncomputable def ahh (x y:Str):Option (List U):=if (y.length==0)=aq∧x.length≤1048576∧(IW x (mf x y 0 x.length (x.length+1)) y.length).length≤1048576 then I ((rT x y).map .str) else ah
def CB (x:U) (l:List U):Option (List U):=(my x).bind λx=>(oneOf l).bind λy=>(my y).bind λy=>ahh x y
def Ld (l:List U):Option (List U):=(oneOf l).bind λx=>(wN x).map sA
noncomputable def GO:U→Option (List U)
 | .list l=>I l
 | .tup l=>I l
 | .str x=>I (x.cps.toList.map λc=> .str ⟨#[c]⟩)
 |_=>ah
noncomputable def La:fx→Option U
 | .ret p=>I p
 | .next=>I .none
 |_=>ah
noncomputable def CF:BoolOp→Bool→Bool
 | .And,aq=>ab
 | .Or,ab=>ab
 |_,_=>aq
noncomputable def tC:U→Option Nat
 | .obj i=>I i
 |_=>ah
noncomputable def m4 (i:Nat) (w:W):Option (U×W):=(w[i]?).bind λl=>I (.str l.token.1,w.set i l.token.2)
noncomputable def vi (i:Nat) (w:W):Option (U×W):=(w[i]?).map λl=>(.int l.line,w)
noncomputable def Cf (i:Nat) (t:Str) (w:W):Option (U×W):=(w[i]?).bind λl=>if l.push.length<1048576 then I (.none,w.set i {l with push:=l.push++[t]}) else ah
noncomputable def LY:fx→Bool
 | .next=>ab
 |_=>aq
noncomputable def It:fx→Bool
 | .next=>ab
 | .cont=>ab
 |_=>aq
noncomputable def G3:fx→fx
 | .brk=> .next
 |f=>f
noncomputable def ku:List Expr→Option Expr
 |[e]=>I e
 |_=>ah
noncomputable def Cy:Expr→Option (Option Expr×Option Expr×Option Expr)
 | .Slice lo aI st _=>I (lo,aI,st)
 |_=>ah
def wV:Expr→Option (Str×List Expr)
 | .Call f as a _=>(l1 f).bind λx=>if a.isEmpty then I (x,as) else ah
 |_=>ah
def Ic (as:List Expr):Option (Str×Expr):=(ku as).bind λe=>(wV e).bind λq=>(ku q.2).map λa=>(q.1,a)
noncomputable def ET:List Df→Option (Expr×Expr×List Expr)
 |[g]=>if g.is_async==0 then I (g.target,g.iter,g.ifs) else ah
 |_=>ah
noncomputable def q0:List Df→Option (Expr×Expr×Expr×Expr×List Expr)
 |[g,h]=>if g.is_async==0&&(h.is_async==0&&g.ifs.isEmpty) then I (g.target,g.iter,h.target,h.iter,h.ifs) else ah
 |_=>ah
def Nh:Expr→Bool
 | .ListComp _ gs _ _=>(q0 gs).isSome
 |_=>aq
noncomputable def ow (bt:U→Option aA) (it:aA→W→Option (List U×W)) (inn:List U→aA→W→Option (List U×W)):List U→Nat→W→Option (List U×W)
 |[],_,w=>I ([],w)
 |p::items,fW,w=>(bt p).bind λσ=>(it σ w).bind λr=>if fW+r.1.length≤1048576 then (inn r.1 σ r.2).bind λa=>(ow bt it inn items (fW+r.1.length) a.2).bind λb=>I (a.1++b.1,b.2) else ah
noncomputable def apart2 (t0 t1:Expr):Bool:=match t0 with
 | .Name x _=>(match t1 with
  | .Name y _=>x !=y
  |_=>aq)
 |_=>aq
noncomputable def g7 (a:List Str) (x:Str):List Str:=if x∈a then a else a++[x]
def met (l:List Str):List Str:=l.foldl g7 []
noncomputable def u! (x:Str):List Str→List Str
 |[]=>[x]
 |y::l=>if ltCps y.cps.toList x.cps.toList then y::u! x l else x::y::l
noncomputable def ma:List Str→List Str
 |[]=>[]
 |x::l=>u! x (ma l)
def n5 (l:List U):Option (List U):=(rD l).bind λts=>if ts.length<64 then I ((ma (met ts)).map .str) else ah
def setG (sc:Scope) (e:Expr):Option Expr:=(wV e).bind λq=>if dX q.1 "set"&&sc.names.lookup q.1==I .globalImplicit then ku q.2 else ah
def vU (sc:Scope) (f:Expr) (as:List Expr) (a:List rU):Option Expr:=(l1 f).bind λx=>if a.isEmpty&&(dX x "sorted"&&sc.names.lookup x==I .globalImplicit) then (ku as).bind (setG sc) else ah
noncomputable def ro (sc:Scope) (line:Nat):Expr→Option Str
 | .Name x p=>if sc.names.lookup x==I .local&&p.line==line then I x else ah
 |_=>ah
def namesOk (ts vs:List Expr) (a:List Str):Bool:=(ts.length==2||ts.length==3)&&(vs.length==ts.length&&(a.length==ts.length&&(a.eraseDups.length==a.length&&(vs.all u?&&(!vs.all (foldedForSure 8)&&(!vs.all (constantsAlone 8)))))))
def Cb (sc:Scope) (t e:Expr):Option (List Str×List Expr):=(CV t).bind λts=>(CV e).bind λvs=>if namesOk ts vs (ts.filterMap (ro sc ((ts.head?.map (·.pos.line)).getD 0))) then I (ts.filterMap (ro sc ((ts.head?.map (·.pos.line)).getD 0)),vs) else ah
noncomputable def yw:List Str→List (List U)→aA→aA
 |[],_,σ=>σ
 |x::xs,ls,σ=>match ls with
  |[]=>σ
  |l::ls=>yw xs ls (σ.set x (.own l))
def CA (f:Expr) (as:List Expr) (b:List rU) (p:Pos):Option (Expr×Expr):=match f with
 | .Attribute o m ap=>(ku as).bind λa=>if b.isEmpty&&(baseOk o&&ap.endLine==p.line&&dX m "split") then I (o,a) else ah
 |_=>ah
inductive wB where
 |name (x:Str)|tuple (t:Expr)
noncomputable def TL:Expr→Option wB
 | .Name x _=>I (.name x)
 | .Tuple ts a b=>I (.tuple (.Tuple ts a b))
 |_=>ah
def Eu (ts:List Expr):Option wB:=(ku ts).bind TL
def Ey:Expr→Option (Str×Option Expr)
 | .Name x _=>I (x,ah)
 | .Subscript v i _=>(l1 v).map λx=>(x,I i)
 |_=>ah
def EJ:Expr→Option (Str×Str×List Expr)
 | .Call f as a pos=>match f with
  | .Attribute o m ap=>(l1 o).bind λx=>if a.isEmpty&&ap.endLine==pos.line then I (x,m,as) else ah
  |_=>ah
 |_=>ah
def We:Expr→Option (Str×Expr)
 | .Subscript v i _=>(l1 v).map λx=>(x,i)
 |_=>ah
def EY (ts:List Expr):Option (Str×Expr):=(ku ts).bind We
mutual
noncomputable def ev:Nat→bY→Expr→aA→W→Option (U×W)
 |0,_,_,_,_=>ah
 |n+1,cx,e,σ,w=>match e with
  | .BinOp a op b _=>bD (ev n cx a σ w) λx=>bD (ev n cx b σ x.2) λy=>bD ((b? op x.1 y.1)) λr=>I (r,y.2)
  | .UnaryOp op a _=>bD (ev n cx a σ w) λx=>bD ((Iw op x.1)) λr=>I (r,x.2)
  | .BoolOp op es _=>k1 n cx op es σ w
  | .Compare l ops rs _=>if rs.any isSet then ah else bD (dN n cx l σ w) λx=>bD (jM n cx x.1 ops rs σ x.2) λb=>I (.bool b.1,b.2)
  | .IfExp t a b _=>bD (fI n cx t σ w) λc=>if c.1 then ev n cx a σ c.2 else ev n cx b σ c.2
  | .List es p=>bD (ei n cx (.List es p) σ w) λr=>I (.list r.1,r.2)
  | .ListComp a b c p=>bD (ei n cx (.ListComp a b c p) σ w) λr=>I (.list r.1,r.2)
  | .Tuple es _ _=>bD (e4 n cx es σ w) λr=>if r.1.length≤1048576 then I (.tup r.1,r.2) else ah
  | .Subscript v i _=>(Cy i).elim (bD (dN n cx v σ w) λx=>bD (ev n cx i σ x.2) λk=>bD ((dM x.1 k.1)) λr=>I (r,k.2)) λq=>
   bD (dN n cx v σ w) λx=>bD (i3 n cx q.1 σ x.2) λa=>bD (i3 n cx q.2.1 σ a.2) λb=>bD (i3 n cx q.2.2 σ b.2) λk=>bD ((iO x.1 a.1 b.1 k.1)) λr=>I (r,k.2)
  | .Call f as bM p=>match f with
   | .Name f _=>if bM.isEmpty&&(cx.sc.names.lookup f==I .globalImplicit) then
     if dX f "_netrclex" then bD ((Ic as)) λq=>if cx.dx.lex&&dX q.1 "_law_stream"&&cx.sc.names.lookup q.1==I .globalImplicit&&decide (4≤cx.d) then bD (ev n cx q.2 σ w) λx=>bD ((my x.1)) λt=>if t.length≤1048576∧fE t=ab then (I (.obj x.2.length,x.2++[⟨t.cps.toList,1,[]⟩])) else ah else ah
     else if dX f "sorted" then bD (ei n cx e σ w) λr=>I (.list r.1,r.2)
     else (cx.dx.fns.find? (λd=>d.name==f)).elim (bD (iN n cx as σ w) λr=>bD ((fO f r.1)) λz=>I (z,r.2)) λd=>
      bD (e4 n cx as σ w) λr=>(b' n cx d r.1 r.2)
    else ah
   | .Attribute o m ap=>if bM.isEmpty&&(baseOk o&&ap.endLine==p.line&&decide (as.length<20)) then
     if cx.dx.lex&&dX m "get_token" then (if as.isEmpty&&decide (4≤cx.d) then bD (ev n cx o σ w) λx=>bD ((tC x.1)) λi=>(m4 i x.2) else ah)
     else if cx.dx.lex&&dX m "push_token" then (if decide (4≤cx.d) then bD ((ku as)) λa=>bD (ev n cx o σ w) λx=>bD ((tC x.1)) λi=>bD (ev n cx a σ x.2) λy=>bD ((my y.1)) λt=>(Cf i t y.2) else ah)
     else if dX m "split" then bD (ei n cx e σ w) λr=>I (.list r.1,r.2)
     else bD (dN n cx o σ w) λx=>bD (iN n cx as σ x.2) λr=>bD ((methP m x.1 r.1)) λz=>I (z,r.2)
    else ah
   |_=>ah
  | .Attribute v a _=>if cx.dx.lex&&baseOk v&&dX a "lineno" then bD (ev n cx v σ w) λx=>bD ((tC x.1)) λi=>(vi i x.2) else ah
  | .Constant c _ _=>bD ((EV c)) λp=>I (p,w)
  | .Name x _=>bD ((x' cx σ x)) λp=>I (p,w)
  |_=>ah
noncomputable def dN:Nat→bY→Expr→aA→W→Option (U×W)
 |0,_,_,_,_=>ah
 |n+1,cx,e,σ,w=>(l1 e).elim (ev n cx e σ w) λx=>bD ((tv cx σ x)) λp=>I (p,w)
noncomputable def iN:Nat→bY→List Expr→aA→W→Option (List U×W)
 |0,_,_,_,_=>ah
 |n+1,cx,es,σ,w=>match es with
  |[]=>I ([],w)
  |e::es=>bD (dN n cx e σ w) λp=>bD (iN n cx es σ p.2) λl=>I (p.1::l.1,l.2)
noncomputable def e4:Nat→bY→List Expr→aA→W→Option (List U×W)
 |0,_,_,_,_=>ah
 |n+1,cx,es,σ,w=>match es with
  |[]=>I ([],w)
  |e::es=>bD (ev n cx e σ w) λp=>bD (e4 n cx es σ p.2) λl=>I (p.1::l.1,l.2)
noncomputable def i3:Nat→bY→Option Expr→aA→W→Option (U×W)
 |0,_,_,_,_=>ah
 |n+1,cx,e,σ,w=>e.elim (I (.none,w)) λe=>ev n cx e σ w
noncomputable def k1:Nat→bY→BoolOp→List Expr→aA→W→Option (U×W)
 |0,_,_,_,_,_=>ah
 |n+1,cx,op,es,σ,w=>match es with
  |[]=>ah
  |e::r=>if r.isEmpty then ev n cx e σ w else bD (ev n cx e σ w) λp=>bD ((zP p.1)) λb=>if CF op b then I (.bool b,p.2) else k1 n cx op r σ p.2
noncomputable def jM:Nat→bY→U→List oa→List Expr→aA→W→Option (Bool×W)
 |0,_,_,_,_,_,_=>ah
 |n+1,cx,x,ops,es,σ,w=>match es with
  |[]=>ah
  |e::es=>match ops with
   |[]=>ah
   |op::ops=>if ops.isEmpty then (if es.isEmpty then bD (dN n cx e σ w) λy=>bD ((e_ op x y.1)) λr=>I (r,y.2) else ah)
    else bD (dN n cx e σ w) λy=>bD ((e_ op x y.1)) λr=>if r then jM n cx y.1 ops es σ y.2 else I (aq,y.2)
noncomputable def fI:Nat→bY→Expr→aA→W→Option (Bool×W)
 |0,_,_,_,_=>ah
 |n+1,cx,e,σ,w=>match e with
  | .BoolOp op es _=>hN n cx op es σ w
  | .Compare l ops rs _=>if rs.any isSet then ah else bD (dN n cx l σ w) λx=>jM n cx x.1 ops rs σ x.2
  | .Name .. =>bD (ev n cx e σ w) λp=>bD ((n9 p.1)) λb=>I (b,p.2)
  | .Call .. =>bD (ev n cx e σ w) λp=>bD ((n9 p.1)) λb=>I (b,p.2)
  |_=>ah
noncomputable def hN:Nat→bY→BoolOp→List Expr→aA→W→Option (Bool×W)
 |0,_,_,_,_,_=>ah
 |n+1,cx,op,es,σ,w=>match es with
  |[]=>I (op== .And,w)
  |e::es=>bD (fI n cx e σ w) λb=>if CF op b.1 then I b else hN n cx op es σ b.2
noncomputable def fs:Nat→Bool→Expr→bY→Expr→aA→W→Option (List U×W)
 |0,_,_,_,_,_,_=>ah
 |n+1,own,tgt,cx,e,σ,w=>if isName tgt||kD tgt then
   (wV e).elim (qf n own cx e σ w) λq=>
    if dX q.1 "range" then (if cx.sc.names.lookup q.1==I .globalImplicit then bD (e4 n cx q.2 σ w) λr=>bD ((l_ r.1)) λl=>I (l,r.2) else ah)
    else if dX q.1 "enumerate" then (if cx.sc.names.lookup q.1==I .globalImplicit&&kD tgt then bD (e4 n cx q.2 σ w) λr=>bD ((Ld r.1)) λl=>I (l,r.2) else ah)
    else qf n own cx e σ w
  else ah
noncomputable def qf:Nat→Bool→bY→Expr→aA→W→Option (List U×W)
 |0,_,_,_,_,_=>ah
 |n+1,own,cx,e,σ,w=>if isSet e then ah else bD (if own then dN n cx e σ w else ev n cx e σ w) λp=>bD ((GO p.1)) λl=>I (l,p.2)
noncomputable def ei:Nat→bY→Expr→aA→W→Option (List U×W)
 |0,_,_,_,_=>ah
 |n+1,cx,e,σ,w=>match e with
  | .List es _=>bD (e4 n cx es σ w) λr=>if r.1.length≤1048576 then I r else ah
  | .ListComp elt gs a7 _=>(q0 gs).elim (bD ((ET gs)) λq=>if lH cx.sc a7 then bD (fs n ab q.1 cx q.2.1 σ w) λr=>if r.1.length≤1048576 then ((d! n {cx with sc:=a7} elt q.1 q.2.2 r.1 (σ.hide (Scope.dq a7)) r.2)) else ah else ah) λq=>if lH cx.sc a7&&(apart2 q.1 q.2.2.1&& !isSet q.2.2.2.1) then bD (fs n ab q.1 cx q.2.1 σ w) λr=>(ow (λp=>d2 a7 q.1 p (σ.hide (Scope.dq a7))) (fs n aq q.2.2.1 {cx with sc:=a7} q.2.2.2.1) (d! n {cx with sc:=a7} elt q.2.2.1 q.2.2.2.2) r.1 0 r.2) else ah
  | .Call f as bM p=>(vU cx.sc f as bM).elim (bD ((CA f as bM p)) λq=>bD (ev n cx q.1 σ w) λx=>bD (e4 n cx [q.2] σ x.2) λy=>bD ((CB x.1 y.1)) λl=>I (l,y.2)) λq=>bD (ei n cx q σ w) λr=>bD ((n5 r.1)) λl=>I (l,r.2)
  |_=>ah
noncomputable def d!:Nat→bY→Expr→Expr→List Expr→List U→aA→W→Option (List U×W)
 |0,_,_,_,_,_,_,_=>ah
 |n+1,cx,elt,tgt,ifs,items,σ,w=>match items with
  |[]=>I ([],w)
  |p::items=>bD ((d2 cx.sc tgt p σ)) λσ'=>bD (hN n cx .And ifs σ' w) λb=>if b.1 then bD (ev n cx elt σ' b.2) λr=>bD (d! n cx elt tgt ifs items σ r.2) λl=>I (r.1::l.1,l.2) else d! n cx elt tgt ifs items σ b.2
noncomputable def oW:Nat→bY→List Expr→aA→W→Option (List (List U)×W)
 |0,_,_,_,_=>ah
 |n+1,cx,es,σ,w=>match es with
  |[]=>I ([],w)
  |e::es=>bD (ei n cx e σ w) λp=>bD (oW n cx es σ p.2) λl=>I (p.1::l.1,l.2)
noncomputable def b':Nat→bY→j4→List U→W→Option (U×W)
 |0,_,_,_,_=>ah
 |n+1,cx,d,vs,w=>if vs.length==(kI d).length then match cx.d with
   |0=>ah
   |k+1=>bD (cw n {cx with d:=k,sc:=d.scope} d.body ((kI d).zip (vs.map .val)) w) λr=>bD ((La r.1)) λp=>I (p,r.2.2)
  else ah
noncomputable def ex:Nat→bY→cK→aA→W→Option (fx×aA×W)
 |0,_,_,_,_=>ah
 |n+1,cx,st,c4,w=>match st with
  | .Assign ts e _=>bD ((Eu ts)) λa=>match a with
   | .name x=>if dD cx.sc x then bD (sC n cx e (c4.freeze (cf 30 ab e)) w) λs=>I (.next,(c4.freeze (cf 30 ab e)).set x s.1,s.2) else ah
   | .tuple t=>(Cb cx.sc t e).elim (if CU e then bD (ev n cx e (c4.freeze (cf 30 ab e)) w) λp=>bD ((d2 cx.sc t p.1 (c4.freeze (cf 30 ab e)))) λσ=>I (.next,σ,p.2) else ah) λq=>bD (oW n cx q.2 (c4.freeze (cf 30 ab e)) w) λr=>I (.next,yw q.1.reverse r.1.reverse (c4.freeze (cf 30 ab e)),r.2)
  | .AugAssign t op e _=>bD ((Ey t)) λa=>a.2.elim
   (if dD cx.sc a.1 then bD ((valOf ((c4.freeze (cf 30 aq e)).get a.1))) λq=>bD (ev n cx e (c4.freeze (cf 30 aq e)) w) λp=>bD ((qU op q p.1)) λr=>I (.next,(c4.freeze (cf 30 aq e)).set a.1 (.val r),p.2) else ah) λi=>
   if isSlice i then ah else bD (ev n cx i (c4.freeze (cf 30 aq e)) w) λk=>bD (ev n cx e (c4.freeze (cf 30 aq e)) k.2) λp=>bD (((c4.freeze (cf 30 aq e)).own? cx.sc a.1)) λl=>bD ((intOf k.1)) λi=>bD ((l7 i l.length)) λj=>bD ((l[j]?)) λq=>bD ((qU op q p.1)) λr=>I (.next,(c4.freeze (cf 30 aq e)).set a.1 (.own (l.set j r)),p.2)
  | .Expr e _=>bD ((EJ e)) λq=>
   if dX q.2.1 "append" then bD ((ku q.2.2)) λa=>bD (e4 n cx [a] (c4.freeze (cf 30 ab e)) w) λps=>bD ((oneOf ps.1)) λp=>bD (((c4.freeze (cf 30 ab e)).own? cx.sc q.1)) λl=>I (.next,(c4.freeze (cf 30 ab e)).set q.1 (.own (l++[p])),ps.2)
   else if dX q.2.1 "extend" then bD ((ku q.2.2)) λa=>bD (ei n cx a (c4.freeze (cf 30 ab e)) w) λr=>bD (((c4.freeze (cf 30 ab e)).own? cx.sc q.1)) λl=>if r.1.length≤1048576 then (I (.next,(c4.freeze (cf 30 ab e)).set q.1 (.own (l++r.1)),r.2)) else ah
   else if dX q.2.1 "push_token" then bD (ev n cx e (c4.freeze (cf 30 ab e)) w) λr=>I (.next,c4.freeze (cf 30 ab e),r.2)
   else ah
  | .If t a b _=>bD (fI n cx t (c4.freeze (cf 30 aq t)) w) λc=>if c.1 then cw n cx a (c4.freeze (cf 30 aq t)) c.2 else cw n cx b (c4.freeze (cf 30 aq t)) c.2
  | .For tgt it body w9 _=>if w9.isEmpty then bD (fs n aq tgt cx it (c4.freeze (cf 30 ab it)) w) λr=>(forL n cx tgt body r.1 (c4.freeze (cf 30 ab it)) r.2) else ah
  | .Return e _=>bD (e) λe=>bD (ev n cx e (c4.freeze (cf 30 ab e)) w) λp=>I (.ret p.1,c4.freeze (cf 30 ab e),p.2)
  | .Delete ts _=>bD ((EY ts)) λq=>if isSlice q.2 then ah else bD (ev n cx q.2 (c4.freeze []) w) λk=>bD (((c4.freeze []).own? cx.sc q.1)) λl=>bD ((intOf k.1)) λi=>bD ((l7 i l.length)) λj=>I (.next,(c4.freeze []).set q.1 (.own (l.eraseIdx j)),k.2)
  | .Assert t m _=>if m.isNone then bD (fI n cx t (c4.freeze []) w) λc=>if c.1 then I (.next,c4.freeze [],c.2) else ah else ah
  |_=>ah
noncomputable def sC:Nat→bY→Expr→aA→W→Option (Slot×W)
 |0,_,_,_,_=>ah
 |n+1,cx,e,σ,w=>if u? e then (if Nh e then ah else bD (ei n cx e σ w) λr=>I (.own r.1,r.2)) else bD (ev n cx e σ w) λr=>I (.val r.1,r.2)
noncomputable def cw:Nat→bY→List cK→aA→W→Option (fx×aA×W)
 |0,_,_,_,_=>ah
 |n+1,cx,l,σ,w=>match l with
  |[]=>I (.next,σ,w)
  |st::r=>bD (ex n cx st σ w) λx=>if LY x.1 then cw n cx r x.2.1 x.2.2 else I x
noncomputable def forL:Nat→bY→Expr→List cK→List U→aA→W→Option (fx×aA×W)
 |0,_,_,_,_,_,_=>ah
 |n+1,cx,tgt,body,items,σ,w=>match items with
  |[]=>I (.next,σ,w)
  |p::items=>bD ((d2 cx.sc tgt p σ)) λσ'=>bD (cw n cx body σ' w) λx=>if It x.1 then forL n cx tgt body items x.2.1 x.2.2 else I (G3 x.1,x.2)
end
theorem jv (h:dX x y=ab):x=ao y:=dp h
theorem dh (h:(a&&b)=ab):a=true:=(je.mp h).1
theorem c2 (h:(a&&b)=ab):b=true:=(je.mp h).2
theorem any_false (h: ¬b=ab):b=false:=hB.mpr h
theorem nA {α β:Type} {x:Option α} {o:Option β} {f:α→Option β} {r:Option β} {G:Prop} (h:x.elim o f=r) (bp:x=ah→o=r→G) (bK: ∀a,x=I a→f a=r→G):G:=by
 induction x using d5 with
 |none=>exact bp rfl h
 |some a=>exact bK a rfl h
theorem WH (af:x=ah) (h:x.elim o f=r):o=r:=by rw[af] at h;exact h
theorem nr (h:ku as=I a):as=[a]:=by
 induction as using cj with
 |nil=>exact aR h
 |cons q r=>
  induction r using cj with
  |nil=>exact aQ (·::[]) (inj h)
  |cons=>exact aR h
theorem qq (h:l1 e=I x): ∃p,e= .Name x p:=by
 induction e using eC with
 |Name y p=>exact ⟨p,aQ (Expr.Name · p) (inj h)⟩
 |_=>exact aR h
theorem aiA (h:CV e=I ts): ∃a b,e= .Tuple ts a b:=by
 induction e using eC with
 |Tuple u a b=>exact ⟨a,b,aQ (Expr.Tuple · a b) (inj h)⟩
 |_=>exact aR h
theorem agY (h:Cy e=I q): ∃p,e= .Slice q.1 q.2.1 q.2.2 p:=by
 induction e using eC with
 |Slice a b c p=>exact ⟨p,aQ (λq:Option Expr×Option Expr×Option Expr=>Expr.Slice q.1 q.2.1 q.2.2 p) (inj h)⟩
 |_=>exact aR h
theorem z1 (h:wV e=I q): ∃p r,e= .Call (.Name q.1 p) q.2 [] r:=by
 induction e using eC with
 |Call f as a r=>exact aO h λx af h=>(qq af).elim λp aC=>⟨p,r,by rw[aC,j2.mp (cu h),←inj (cy h)]⟩
 |_=>exact aR h
theorem ahM (h:Ic as=I q): ∃p r,as=[.Call (.Name q.1 p) [q.2] [] r]:=
 aO h λe he h=>aO h λx af h=>i! h λa aJ h=>hG (z1 af) λp r b=>⟨p,r,by rw[nr he,b,nr aJ,←h]⟩
theorem KU (h:ET gs=I q):gs=[⟨q.1,q.2.1,q.2.2,0⟩]:=match gs,h with
 |[⟨_,_,_,_⟩],h=>by rw[←inj (cy h),←(dp (cu h):_=(0:Int))]
theorem ahg (h:CA f as c p=I q): ∃m b,f= .Attribute q.1 m b∧as=[q.2]∧c=[]∧(baseOk q.1&&b.endLine==p.line&&dX m "split")=true:=by
 induction f using eC with
 |Attribute o m b=>exact aO h λa aJ h=>inj (cy h)▸⟨m,b,rfl,nr aJ,j2.mp (dh (cu h)),c2 (cu h)⟩
 |_=>exact aR h
theorem J! (h:Ey t=I a):(∃p,t= .Name a.1 p∧a.2=ah)∨ ∃p r i,t= .Subscript (.Name a.1 p) i r∧a.2=I i:=by
 induction t using eC with
 |Name x p=>exact inj h▸ .inl ⟨p,rfl,rfl⟩
 |Subscript v i r=>exact i! h λx af h=>(qq af).elim λp aC=>h▸aC▸ .inr ⟨p,r,i,rfl,rfl⟩
 |_=>exact aR h
theorem UO (h:EJ e=I q): ∃p a pos,e= .Call (.Attribute (.Name q.1 p) q.2.1 a) q.2.2 [] pos∧(a.endLine==pos.line)=true:=by
 induction e using eC with
 |Call f as b pos=>induction f using eC with
  |Attribute o m a=>exact aO h λx af h=>(qq af).elim λp aC=>⟨p,a,pos,by rw[aC,j2.mp (dh (cu h)),←inj (cy h)],c2 (cu h)⟩
  |_=>exact aR h
 |_=>exact aR h
theorem Wf (h:EY ts=I q): ∃p r,ts=[.Subscript (.Name q.1 p) q.2 r]:=
 aO h λt a h=>by
  rw[nr a]
  induction t using eC with
  |Subscript v i r=>exact i! h λx af h=>(qq af).elim λp aC=>h▸aC▸⟨p,r,rfl⟩
  |_=>exact aR h
noncomputable def SM (t:Expr):wB→Prop
 | .name x=> ∃p,t= .Name x p
 | .tuple u=>t=u∧ ∃ts a b,u= .Tuple ts a b
theorem TM (h:Eu ts=I a): ∃t,ts=[t]∧SM t a:=
 aO h λt c h=>⟨t,nr c,by
  induction t using eC with
  |Name x p=>exact inj h▸⟨p,rfl⟩
  |Tuple ts a b=>exact inj h▸⟨rfl,ts,a,b,rfl⟩
  |_=>exact aR h⟩
section
variable (T:cA) (g:G)
def cL (a:aP):Prop:=g.B a∧ ¬et T.dZ g.aD a
def cB (h:bU) (env:Env) (x:Str) (v:Option az):Prop:=
 (env.kindOf x=I .local∧ ∃m,h.Ns env.locals m∧m x=v)∨
 ((env.kindOf x=I .cell∨env.kindOf x=I .free)∧ ∃c,env.cells.lookup x=I c∧h.IsCell c v∧cL T g c)
def gA (h:bU):Slot→Option az→Prop
 | .unset,v=>True
 | .val p,v=> ∃u,v=I u∧Is g.B g.aD h p u
 | .own l,v=> ∃a vs,v=I (.ref a)∧cL T g a∧dk h a (mh vs)∧IsL g.B g.aD h l vs
inductive Lk (h:bU):U→az→Prop
 |of {p v}:Is g.B g.aD h p v→Lk h p v
 |own {l a vs}:cL T g a→dk h a (mh vs)→IsL g.B g.aD h l vs→Lk h (.list l) (.ref a)
structure dy (cx:bY) (env:Env) (σ:aA) (h:bU):Prop where
 glob:env.globals=mainGlobals
 bi:env.builtins=builtinsNs
 kind:env.scope.kind= .function
 loc:cL T g env.locals
 nM: ∀x,cx.sc.names.lookup x=I .globalImplicit→env.kindOf x=I .globalImplicit
 ok: ∀x k,cx.sc.names.lookup x=I k→(x==("__debug__":Str))=aq∧(x==("__classdict__":Str))=aq
 nm: ∀x k,cx.sc.names.lookup x=I k→k≠ .globalImplicit→ ∃v,cB T g h env x v∧gA T g h (σ.get x) v
 dx:cx.dx=T.dx
 dict: ∃m,h.Ns env.locals m
 dm: ∀x k,cx.sc.names.lookup x=I k→(k= .cell∨k= .free)→env.kindOf x=I .cell∨env.kindOf x=I .free
 apart: ∀x y c,env.cells.lookup x=I c→env.cells.lookup y=I c→x=y
 sep: ∀x y l m a,σ.get x= .own l→σ.get y= .own m→(∃k,cx.sc.names.lookup x=I k∧k≠ .globalImplicit)→(∃k,cx.sc.names.lookup y=I k∧k≠ .globalImplicit)→cB T g h env x (I (.ref a))→cB T g h env y (I (.ref a))→x=y
end
theorem cL.ba (x:bW T g s g' s') {a:aP} {o:Obj} (p:cL T g a) (e:s.heap.get? a=I o):cL T g' a∧s'.heap.get? a=I o:=
 ⟨⟨x.hD a p.1,λq=>(x.ej a q).elim p.2 λz=>by rw[e] at z;exact aR z.symm⟩,x.keep a o e p.2⟩
theorem cL.vW (x:bW T g s g' s') (d:aW T g b s) {a:aP} (p:cL T g a):cL T g' a:=by
 obtain ⟨o,e⟩:=d.ex a p.1
 exact (p.ba x e).1
theorem cB.ba (x:bW T g s g' s') (d:aW T g i s) (f:cL T g env.locals) {n:Str} {v:Option az} (h:cB T g s.heap env n v):cB T g' s'.heap env n v:=by
 rcases h with ⟨k,m,hm,e⟩|⟨k,c,ag,⟨o,e,aN⟩,aC⟩
 ·refine .inl ⟨k,m,?_,e⟩
  obtain ⟨o,es,b,a,r⟩:=hm
  exact ⟨o,es,b,(f.ba x a).2,r⟩
 ·exact .inr ⟨k,c,ag,⟨o,(aC.ba x e).2,aN⟩,(aC.ba x e).1⟩
theorem Hw {h:bU} (x:h.Ns a m) (y:h.Ns a i):m=i:=by
 obtain ⟨o,es,k,e,d,_,f⟩:=x
 obtain ⟨l,p,g,b,c,_,j⟩:=y
 rw[e] at b;cases b
 rw[d] at c;cases c
 funext n;rw[←f n,←j n]
theorem cB.one (x:cB T g h env n u) (y:cB T g h env n v):u=v:=by
 rcases x with ⟨k,m,hm,e⟩|⟨k,c,ag,⟨o,e,aN⟩,aC⟩
 ·rcases y with ⟨dQ,l,i,a⟩|⟨dQ,_⟩
  ·rw[←e,←a,Hw hm i]
  ·rcases dQ with dQ|dQ<;>rw[k] at dQ<;>cases dQ
 ·rcases y with ⟨dQ,_⟩|⟨dQ,p,b,⟨j,a,d⟩,f⟩
  ·rcases k with k|k<;>rw[k] at dQ<;>cases dQ
  ·rw[ag] at b;cases b
   rw[e] at a;cases a
   rw[aN] at d;cases d;rfl
theorem cB.back (x:cB T g h env n u) (y:cB T g' h' env n u) (z:cB T g' h' env n v):cB T g h env n v:=y.one z▸x
theorem gA.ba (x:bW T g s g' s') (d:aW T g c s) {sl:Slot} {v:Option az} (h:gA T g s.heap sl v):gA T g' s'.heap sl v:=by
 induction sl using Slot.casesOn with
 |unset=>trivial
 |val p=>obtain ⟨u,e,i⟩:=h;exact ⟨u,e,i.ba x d⟩
 |own l=>
  obtain ⟨a,vs,e,p,⟨o,b,r⟩,i⟩:=h
  exact ⟨a,vs,e,(p.ba x b).1,⟨o,(p.ba x b).2,r⟩,i.ba x d⟩
theorem Lk.ba (x:bW T g s g' s') (d:aW T g e s) {p:U} {v:az} (h:Lk T g s.heap p v):Lk T g' s'.heap p v:=by
 induction h using Lk.casesOn with
 |of i=>exact .of (i.ba x d)
 |own p c i=>
  obtain ⟨o,a⟩:=c
  have b:=a.1
  have r:=a.2
  exact .own (p.ba x b).1 ⟨o,(p.ba x b).2,r⟩ (i.ba x d)
theorem cB.move (ns: ∀m,h.Ns env.locals m→h'.Ns env.locals m) (cell: ∀c,cL T g c→h.IsCell c v→cL T g' c∧h'.IsCell c v) (x:cB T g h env n v):cB T g' h' env n v:=
 x.elim (λy=> .inl ⟨y.1,y.2.elim λm z=>⟨m,ns m z.1,z.2⟩⟩) λy=> .inr ⟨y.1,y.2.elim λc z=>⟨c,z.1,(cell c z.2.2 z.2.1).2,(cell c z.2.2 z.2.1).1⟩⟩
theorem gA.move (bJ:cS g.B h g'.B h') (d:g'.aD=g.aD) (own: ∀a vs,(∃l,sl= .own l)→v=I (.ref a)→cL T g a→dk h a (mh vs)→cL T g' a∧dk h' a (mh vs)) (x:gA T g h sl v):gA T g' h' sl v:=by
 induction sl using Slot.casesOn with
 |unset=>trivial
 |val p=>exact cM x λu e i=>⟨u,e,d▸i.xn bJ⟩
 |own l=>exact iZ x λa vs e b c i=>⟨a,vs,e,(own a vs ⟨l,rfl⟩ e b c).1,(own a vs ⟨l,rfl⟩ e b c).2,d▸i.xn bJ⟩
theorem dy.move (f:dy T g cx env σ h) (loc:cL T g' env.locals) (ns: ∀m,h.Ns env.locals m→h'.Ns env.locals m) (i: ∀{x v},cB T g h env x v→cB T g' h' env x v)
  (j: ∀y m,σ'.get y= .own m→ ∃r,σ.get y= .own r) (sl: ∀x v,(∃k,cx.sc.names.lookup x=I k∧k≠ .globalImplicit)→cB T g h env x v→gA T g h (σ.get x) v→gA T g' h' (σ'.get x) v):dy T g' cx env σ' h' where
 glob:=f.glob
 bi:=f.bi
 kind:=f.kind
 loc:=loc
 nM:=f.nM
 ok:=f.ok
 nm n k e q:=cM (f.nm n k e q) λv a b=>⟨v,i a,sl n v ⟨k,e,q⟩ a b⟩
 dx:=f.dx
 dict:=f.dict.elim λm x=>⟨m,ns m x⟩
 dm:=f.dm
 apart:=f.apart
 sep n m l l' a c d c! dT rN rO:=(j n l c).elim λb4 c=>(j m l' d).elim λp d=>cM c! λbp u s=>cM dT λbK t o=>cM (f.nm n bp u s) λw a1 Z=>cM (f.nm m bK t o) λz a2 Z=>
  f.sep n m b4 p a c d c! dT (a1.back (i a1) rN) (a2.back (i a2) rO)
theorem dy.ba (x:bW T g s g' s') (d:aW T g h s) (f:dy T g cx env σ s.heap):dy T g' cx env σ s'.heap:=
 f.move (f.loc.vW x d) (λm ⟨o,es,c,e,r⟩=>⟨o,es,c,(f.loc.ba x e).2,r⟩) (λa=>a.ba x d f.loc) (λy m e=>⟨m,e⟩) λZ Z Z Z b=>b.ba x d
theorem Lk.reads (l:Lk T g h p v) (e:toD p=I D): ∃as,lr h v D as:=by
 induction l using Lk.casesOn with
 |of i=>exact i.reads e
 |own _ c r=>
  obtain ⟨ds,a,rfl⟩:=t5.mp e
  obtain ⟨o,b,ag,n,hd⟩:=c.eW
  obtain ⟨as,d⟩:=IsL.reads r a
  exact ⟨_,.list b ag hd d⟩
theorem nameP (f:dy T g cx env σ s.heap) (av:cx.sc.names.lookup x=I k) (a5:cB T g s.heap env x (I v)) (h:Q v s):
  aU T.mo A (eval (.Name x pos) env) Q E s:=by
 obtain ⟨J,aa⟩:=f.ok x k av
 refine IX ?_ J
 rcases a5 with ⟨k,m,hm,e⟩|⟨k,c,ag,aN,aC⟩
 ·exact Dg f.kind k hm e h
 ·rcases k with k|k
  ·exact ajN f.kind k ag aN h
  ·exact ajO f.kind k ag aN h aa
theorem AL (d:aW T g c s) (f:dy T g cx env σ s.heap) (av:cx.sc.names.lookup x=I .globalImplicit) (hm:T.eh x=I v) (h:Q v s):
  aU T.mo A (eval (.Name x pos) env) Q E s:=by
 have a:s.heap.Ns env.globals T.eh:=by rw[f.glob];exact T.g.keeps λb o e=>(d.base b o e).1
 exact ajP f.kind (f.nM x av) (loadGlobal_global (env:=env) a hm h) (f.ok x _ av).1
theorem wR (d:aW T g c s) (f:dy T g cx env σ s.heap) (av:cx.sc.names.lookup x=I .globalImplicit) (hm:T.eh x=ah) (af:x≠"__name__") (aN:bootBuiltins x=I v) (h:Q v s):
  aU T.mo A (eval (.Name x pos) env) Q E s:=by
 have a:s.heap.Ns env.globals T.eh:=by rw[f.glob];exact T.g.keeps λb o e=>(d.base b o e).1
 have ae:s.heap.Ns env.builtins T.ed:=by rw[f.bi];exact T.b.keeps λb o e=>(d.base b o e).1
 exact ajP f.kind (f.nM x av) (loadGlobal_builtin (env:=env) a hm ae ((T.builtins x af).trans aN) h) (f.ok x _ av).1
def qT (T:cA) (W:W) (r:U):G→aH→az→Prop:=λg s v=>aW T g W s∧Lk T g s.heap r v
theorem Res.Ik (h:Res T a r g s v):qT T a r g s v:=⟨h.1,.of h.2⟩
structure cO (T:cA) (cx:bY) (env:Env) (σ:aA) (A:eU) (g:G) (w:W) (s:aH):Prop where
 fr:dy T g cx env σ s.heap
 wd:aW T g w s
 b7:Room (20*cx.d+20) A
theorem cO.ba (i:cO T cx env σ A g w s) (x:bW T g s g' s') (d:aW T g' w' s'):cO T cx env σ A g' w' s':=⟨i.fr.ba x i.wd,d,i.b7⟩
inductive iF (T:cA) (g:G) (h:bU):List U→List az→Prop
 |nil:iF T g h [] []
 |cons {p v l vs}:Lk T g h p v→iF T g h l vs→iF T g h (p::l) (v::vs)
noncomputable def jh (T:cA) (w:W) (b:Bool):G→aH→Bool→Prop:=λg s c=>aW T g w s∧c=b
noncomputable def zG (T:cA) (w:W) (l:List U):G→aH→List az→Prop:=λg s vs=>aW T g w s∧IsL g.B g.aD s.heap l vs
noncomputable def wJ (T:cA) (w:W) (l:List U):G→aH→List az→Prop:=λg s vs=>aW T g w s∧iF T g s.heap l vs
def jI (T:cA) (s:aH) (w:W) (l:List U):G→aH→az→Prop:=λg' s' v=>
 ∃a vs,v= .ref a∧s.heap.get? a=ah∧aW T g' w s'∧cL T g' a∧dk s'.heap a (mh vs)∧IsL g'.B g'.aD s'.heap l vs
structure da (T:cA) (n:Nat):Prop where
 ev: ∀{cx e σ w p w'},ev n cx e σ w=I (p,w')→ ∀{env A g s},cO T cx env σ A g w s→aS T A (eval e env) g s (Res T w' p)
 dN: ∀{cx e σ w p w'},dN n cx e σ w=I (p,w')→ ∀{env A g s},cO T cx env σ A g w s→aS T A (eval e env) g s (qT T w' p)
 iN: ∀{cx es σ w l w'},iN n cx es σ w=I (l,w')→ ∀{env A g s} pos,cO T cx env σ A g w s→aS T A (spliced (backTo pos (starEach es env))) g s (wJ T w' l)
 e4: ∀{cx es σ w l w'},e4 n cx es σ w=I (l,w')→ ∀{env A g s} pos,cO T cx env σ A g w s→aS T A (spliced (backTo pos (starEach es env))) g s (zG T w' l)
 i3: ∀{cx e σ w p w'},i3 n cx e σ w=I (p,w')→ ∀{env A g s},cO T cx env σ A g w s→aS T A (evalPart e env) g s (Res T w' p)
 k1: ∀{cx op es σ w p w'},k1 n cx op es σ w=I (p,w')→ ∀{env A g s} pos,cO T cx env σ A g w s→aS T A (boolOp pos op (evalEach es env)) g s (Res T w' p)
 jM: ∀{cx x ops es σ w b w'},jM n cx x ops es σ w=I (b,w')→es.any isSet=aq→ ∀{env A g s v} pos,cO T cx env σ A g w s→Lk T g s.heap x v→
  aS T A (compareChain pos v ops (markedEach ops es (evalEach es env))) g s (Res T w' (.bool b))∧aS T A (testChain pos v ops (markedEach ops es (evalEach es env))) g s (jh T w' b)
 fI: ∀{cx e σ w b w'},fI n cx e σ w=I (b,w')→ ∀{env A g s},cO T cx env σ A g w s→aS T A (isTrue e env (eval e env)) g s (jh T w' b)
 hN: ∀{cx op es σ w b w'},hN n cx op es σ w=I (b,w')→ ∀{env A g s},cO T cx env σ A g w s→aS T A (allTrue op es env) g s (jh T w' b)
 ei: ∀{cx e σ w l w'},ei n cx e σ w=I (l,w')→ ∀{env A g s},cO T cx env σ A g w s→aS T A (eval e env) g s (jI T s w' l)
 b': ∀{cx d vs w p w'},b' n cx d vs w=I (p,w')→d∈T.dx.fns→cx.dx=T.dx→ ∀{A g s us a},aW T g w s→Room (20*cx.d+10) A→IsL g.B g.aD s.heap vs us→T.eh d.name=I (.ref a)→
  aS T A (call (.ref a) us []) g s (Res T w' p)
theorem aS.pM (h:aS T A u g s P) (e:t=u):aS T A t g s P:=e▸h
theorem jm (e:I (p,w)=I (a,w')) (h:aS T A t g s (Res T w p)):aS T A t g s (Res T w' a):=by cases e;exact h
theorem Y0 (e:I (p,w)=I (a,w')) (h:aS T A t g s (qT T w p)):aS T A t g s (qT T w' a):=by cases e;exact h
theorem L0 (e:I (p,w)=I (a,w')) (h:aS T A t g s (zG T w p)):aS T A t g s (zG T w' a):=by cases e;exact h
theorem L1 (e:I (p,w)=I (a,w')) (h:aS T A t g s (wJ T w p)):aS T A t g s (wJ T w' a):=by cases e;exact h
theorem sL (e:I (p,w)=I (a,w')) (h:aS T A t g s (jh T w p)):aS T A t g s (jh T w' a):=by cases e;exact h
theorem L3 (e:I (p,w)=I (a,w')) (h:aS T A t g s (Res T w (.bool p))):aS T A t g s (Res T w' (.bool a)):=by cases e;exact h
theorem Fx (e:I (p,w)=I (a,w')) (h:aS T A t g s (jI T s0 w p)):aS T A t g s (jI T s0 w' a):=by cases e;exact h
theorem aS.bindR (h:aS T A t g s (Res T w p)) (c: ∀g' s' v,bW T g s g' s'→aW T g' w s'→Is g'.B g'.aD s'.heap p v→aS T A (f v) g' s' a):aS T A (t>>=f) g s a:=
 h.bind λg' s' v t r=>c g' s' v t r.1 r.2
theorem aS.bindL (h:aS T A t g s (qT T w p)) (c: ∀g' s' v,bW T g s g' s'→aW T g' w s'→Lk T g' s'.heap p v→aS T A (f v) g' s' a):aS T A (t>>=f) g s a:=
 h.bind λg' s' v t r=>c g' s' v t r.1 r.2
theorem aS.bindB (h:aS T A t g s (jh T w b)) (c: ∀g' s',bW T g s g' s'→aW T g' w s'→aS T A (f b) g' s' a):aS T A (t>>=f) g s a:=
 h.bind λg' s' v t r=>r.2▸c g' s' t r.1
theorem aS.Qe (h:aS T A (f b) g s P):aS T A (ajQ vs (truthy (.bool b))>>=f) g s P:=
 λE Q k=>aw (fK (Dc (h E Q k)))
theorem aS.aiv (d:aW T g w s):aS T A (ajQ vs (truthy (.bool b))) g s (jh T w b):=
 λE Q k=>fK (Dc (k _ _ _ .refl ⟨d,rfl⟩))
theorem aS.afG (h:aS T A (f ()) g s P):aS T A (PySem.release vs keep>>=f) g s P:=
 λE Q k=>aw (wpAny_release (h E Q k))
theorem aS.operate (h:aS T A m g s P):aS T A (operate vs m) g s P:=λE Q k=>wpAny_operating (h E Q k)
theorem VZ (h:EV c=I p) (d:aW T g w s):aS T A (eval (.Constant c k pos) env) g s (Res T w p):=by
 cases c with
 |none=>exact .val d λE Q k=>wpAny_Constant_none (k _ s.toks (.gd .none h))
 |bool=>exact .val d λE Q k=>wpAny_Constant_bool (k _ s.toks (.gd (.bool _) h))
 |int=>exact .val d λE Q k=>Dh (k _ _ (.gd (.int _ _) h))
 |float=>exact .val d λE Q k=>AutoFloatOps.wpAny_Constant_float (k _ _ (.gd (.aj _ _ d.kH) h))
 |str=>exact .val d λE Q k=>Rq (k _ _ (.gd (.str _ _) h))
 |_=>exact aR h
theorem XC (e:ev (n+1) cx (.Constant c k pos) σ w=I (p,w')) (i:cO T cx env σ A g w s):aS T A (eval (.Constant c k pos) env) g s (Res T w' p):=
 aO e λq h e=>jm e (VZ h i.wd)
theorem N' (a5:cx.sc.names.lookup x=I k) (av:k≠ .globalImplicit) (i:cO T cx env σ A g w s) (a:σ.get x= .val q):aS T A (eval (.Name x pos) env) g s (Res T w q):=
 cM (i.fr.nm x _ a5 av) λv nv jZ=>cM (a▸jZ:gA T g s.heap (.val q) v) λu e b=> .val i.wd λE Q k=>nameP i.fr a5 (e▸nv) (k _ s.toks b)
theorem ado (a5:cx.sc.names.lookup x=I k) (av:k≠ .globalImplicit) (i:cO T cx env σ A g w s) (b:σ.get x= .own l):aS T A (eval (.Name x pos) env) g s (qT T w (.list l)):=
 cM (i.fr.nm x _ a5 av) λv nv jZ=>iZ (b▸jZ:gA T g s.heap (.own l) v) λa vs e lb cc aX E Q k=>nameP i.fr a5 (e▸nv) (k _ _ _ .refl ⟨i.wd,.own lb cc aX⟩)
theorem LV (a5:cx.sc.names.lookup x=I .globalImplicit) (i:cO T cx env σ A g w s) (a:cx.dx.consts.lookup x=I q):aS T A (eval (.Name x pos) env) g s (Res T w q):=
 gj (T.consts x q (i.fr.dx▸a)) λv h=> .val i.wd λE Q k=>AL i.wd i.fr a5 h.1 (k _ s.toks (h.2 _ _ _))
theorem XE (e:ev (n+1) cx (.Name x pos) σ w=I (p,w')) (i:cO T cx env σ A g w s):aS T A (eval (.Name x pos) env) g s (Res T w' p):=
 aO e λq h e=>jm e (aO h λk av h=>g6 h (λag h=>LV (dp ag▸av) i h) λag h=>by
  generalize a:σ.get x=sl at h
  induction sl using Slot.casesOn with
  |val r=>exact inj h▸N' av (λz=>ag (beq_iff_eq.mpr z)) i a
  |_=>exact aR h)
theorem aeR (S:da T n) {e:Expr} {p:U} {w':W} (h:dN (n+1) cx e σ w=I (p,w')) (i:cO T cx env σ A g w s):aS T A (eval e env) g s (qT T w' p):=
 nA h (λZ h=>(S.ev h i).mono λg' s' a x y=>y.Ik) λx af e=>(qq af).elim λpos aC=>aC▸aO e λq h e=>Y0 e (aO h λk av h=>g6 h (λag h=>(LV (dp ag▸av) i h).mono λg' s' a x y=>y.Ik) λag h=>by
  have ag:k≠ .globalImplicit:=λz=>ag (beq_iff_eq.mpr z)
  generalize b:σ.get x=sl at h
  induction sl using Slot.casesOn with
  |val r=>exact inj h▸(N' av ag i b).mono λg' s' a x y=>y.Ik
  |own l=>exact inj h▸ado av ag i b
  |_=>exact aR h)
theorem Xx (S:da T n) {a b:Expr} {op:km} {pos:Pos} {p:U} {w':W} (h:ev (n+1) cx (.BinOp a op b pos) σ w=I (p,w')) (i:cO T cx env σ A g w s):aS T A (eval (.BinOp a op b pos) env) g s (Res T w' p):=
 aO h λx J h=>aO h λy aa h=>aO h λr ay h=> .pM ((S.ev J i).bindR λg1 s1 j t1 c i1=>(aS.holding (S.ev aa (i.ba t1 c))).bindR λf s2 k t2 d e=>
  .o' (.operate (jm h (Uh ay d (i1.ba t2 c) e)))) (arm_eval_BinOp ..)
theorem XK (S:da T n) {a:Expr} {op:UnaryOp} {pos:Pos} {p:U} {w':W} (h:ev (n+1) cx (.UnaryOp op a pos) σ w=I (p,w')) (i:cO T cx env σ A g w s):aS T A (eval (.UnaryOp op a pos) env) g s (Res T w' p):=
 aO h λx J h=>aO h λr ay h=> .pM ((S.ev J i).bindR λg1 s1 c t1 b i1=> .o' (.holding (jm h (aiJ ay b i1)))) (arm_eval_UnaryOp ..)
theorem XD (S:da T n) {t a b:Expr} {pos:Pos} {p:U} {w':W} (h:ev (n+1) cx (.IfExp t a b pos) σ w=I (p,w')) (i:cO T cx env σ A g w s):aS T A (eval (.IfExp t a b pos) env) g s (Res T w' p):=by
 refine aO h λx J h=> .pM ((S.fI J i).bindB λg1 s1 t1 d=> ?_) (arm_eval_IfExp ..)
 clear J
 obtain ⟨c,w1⟩:=x
 induction c using d1 with
 |true=>exact S.ev h (i.ba t1 d)
 |false=>exact S.ev h (i.ba t1 d)
theorem Xy (S:da T n) {op:BoolOp} {es:List Expr} {pos:Pos} {p:U} {w':W} (h:ev (n+1) cx (.BoolOp op es pos) σ w=I (p,w')) (i:cO T cx env σ A g w s):aS T A (eval (.BoolOp op es pos) env) g s (Res T w' p):=
 .pM (S.k1 h pos i) (arm_eval_BoolOp ..)
theorem UG (S:da T n) {op:BoolOp} {es:List Expr} {p:U} {w':W} (h:k1 (n+1) cx op es σ w=I (p,w')) (pos:Pos) (i:cO T cx env σ A g w s):aS T A (boolOp pos op (evalEach es env)) g s (Res T w' p):=by
 induction es using cj with
 |nil=>exact aR h
 |cons e es=>
  induction es using cj with
  |nil=>exact S.ev h i
  |cons d es=>
   refine aO h λx J h=>aO h λb ae h=>(S.ev J i).bindR λg1 s1 c t1 a i1=> .o' ?_
   obtain rfl:=(J6 ae▸i1:Is g1.B g1.aD s1.heap (.bool b) c).C2
   clear J ae i1
   refine .Qe ?_
   induction op using ajR with
   |And=>cases b with
    |true=>exact S.k1 h pos (i.ba t1 a)
    |false=>exact jm h (.pure ⟨a,.bool _⟩)
   |Or=>cases b with
    |true=>exact jm h (.pure ⟨a,.bool _⟩)
    |false=>exact S.k1 h pos (i.ba t1 a)
theorem T9 (h:isSet e=aq):behindInMarks op e=false:=by
 induction e using eC<;>first|rfl|exact bF h.symm cv
theorem He (a:List oa): ∀(es:List Expr) (ts:List (Sem az)),es.any isSet=aq→markedEach a es ts=ts:=by
 induction a with
 |nil=>exact λZ Z Z=>rfl
 |cons op a b=>
  intro es ts h
  induction es using cj with
  |nil=>induction a using cj<;>rfl
  |cons e es=>
   have h:=IY.mp h
   induction ts using cj with
   |nil=>induction a using cj<;>induction es using cj<;>rfl
   |cons t ts=>
    have b:=aQ (t::·) (b es ts h.2)
    induction a using cj with
    |nil=>induction es using cj with
     |nil=>induction ts using cj with
      |nil=>exact aQ (·::[]) (markedBehindIn_of_false (T9 h.1))
      |cons=>exact b
     |cons=>exact b
    |cons=>exact b
section
variable {n:Nat}
theorem EP (e:e_ op a b=I r) (i:cO T cx env σ A g w s) (cc:Lk T g s.heap a g?) (c:Lk T g s.heap b d):
  aS T A (compareOp op g? d) g s (Res T w (.bool r)):=by
 refine VA (n:=0) e i.wd (i.b7.less (by exact nd _ _)) (λD=>cc.reads) (λD=>c.reads) (λq=> ?_) (λq=> ?_)
 ·induction cc using Lk.casesOn with
  |of i=>exact i
  |own=>exact bF rfl (q _)
 ·induction c using Lk.casesOn with
  |of i=>exact i
  |own=>exact bF rfl (q _)
theorem z3 {X Y:az→Sem β} (h:e_ op x y=I r) (i:cO T cx env σ A g w s) (l:Lk T g s.heap x v) (f:aS T A t g s (qT T w1 y))
  (c: ∀a s2 d,bW T g s a s2→aW T a w1 s2→Lk T a s2.heap y d→aS T A (if r then X d else Y (.bool r)) a s2 P):
  aS T A (do let b←holding [v] t;standAt pos;let c←holding [v,b] (compareOp op v b);release [v,b] [c];if←holding [c,b] (truthy c) then X b else Y c) g s P:=
 (aS.holding f).bindL λg1 s1 d t1 e c1=> .o' ((aS.holding (EP h (i.ba t1 e) (l.ba t1 i.wd) c1)).bindR λa s2 m t2 j k=>k.C2▸ .afG (.Qe (c a s2 d (t1.trans t2) j (c1.ba t2 e))))
theorem Vw (S:da T n) {x:U} {a:List oa} {es:List Expr} {b:Bool} {w':W} (h:jM (n+1) cx x a es σ w=I (b,w')) (au:es.any isSet=aq) {v:az} (pos:Pos) (i:cO T cx env σ A g w s) (k:Lk T g s.heap x v):
  aS T A (compareChain pos v a (markedEach a es (evalEach es env))) g s (Res T w' (.bool b))∧aS T A (testChain pos v a (markedEach a es (evalEach es env))) g s (jh T w' b):=by
 rw[He _ _ _ au]
 induction es using cj with
 |nil=>exact aR h
 |cons e es=>
  induction a using cj with
  |nil=>exact aR h
  |cons op a=>
   induction a using cj with
   |nil=>
    induction es using cj with
    |nil=>
     refine aO h λy J h=>aO h λr aa h=> ?_
     have f: ∀{g1 s1 d},bW T g s g1 s1→aW T g1 y.2 s1→Lk T g1 s1.heap y.1 d→aS T A (operate [v,d] (compareOp op v d)) g1 s1 (Res T w' (.bool b)):=λt1 j c1=> .operate (L3 h (EP aa (i.ba t1 j) (k.ba t1 i.wd) c1))
     exact ⟨(aS.holding (S.dN J i)).bindL λg1 s1 d t1 j c1=> .o' (f t1 j c1),
      (aS.holding (S.dN J i)).bindL λg1 s1 d t1 j c1=> .o' ((f t1 j c1).bindR λl s2 u t2 c q=>q.C2▸ .aiv c)⟩
    |cons t es=>exact aR h
   |cons m a=>
    have o:=(IY.mp au).2
    refine aO h λy J h=>aO h λr aa h=> ?_
    have p:=He (m::a) es (evalEach es env) o
    induction r using d1 with
    |true=>exact ⟨z3 aa i k (S.dN J i) λl s2 d t2 c fh=>p▸(S.jM h o pos (i.ba t2 c) fh).1,z3 aa i k (S.dN J i) λl s2 d t2 c fh=>p▸(S.jM h o pos (i.ba t2 c) fh).2⟩
    |false=>exact ⟨z3 aa i k (S.dN J i) λl s2 d t2 c fh=>L3 h (.pure ⟨c,.bool _⟩),z3 aa i k (S.dN J i) λl s2 d t2 c fh=>sL h (.pure ⟨c,rfl⟩)⟩
theorem XB (S:da T n) {l:Expr} {a:List oa} {rs:List Expr} {pos:Pos} {p:U} {w':W} (h:ev (n+1) cx (.Compare l a rs pos) σ w=I (p,w')) (i:cO T cx env σ A g w s):aS T A (eval (.Compare l a rs pos) env) g s (Res T w' p):=
 aO (rh h) λx J aa=>aO aa λb aa ay=> .pM ((S.dN J i).bindL λg1 s1 d t1 c c1=>jm ay (S.jM aa (any_false (tl h)) pos (i.ba t1 c) c1).1) (arm_eval_Compare ..)
theorem aiw (h:n9 p=I b) (d:aW T g w s) (is:Is g.B g.aD s.heap p v):aS T A (truthy v) g s (jh T w b):=by
 induction is using Is.casesOn with
 |bool c=>exact λE Q k=>Dc (k _ _ _ .refl ⟨d,inj h⟩)
 |str x=>
  have a:=cu h
  exact λE Q k=>P.truthy_str (r6.mpr (BA a)) (k g {s with toks:=s.toks+1+1} _ (.grow (dr:=s.drawn) (λZ Z e=>e) (by exact hA (gw _ _))) ⟨d.grow (λZ Z e=>e) (by show s.toks≤s.toks+1+1;exact hA (gw _ _)),inj (cy h)⟩)
 |_=>exact aR h
theorem aiz (S:da T n) {e:Expr} {b:Bool} {w':W} (h:fI (n+1) cx e σ w=I (b,w')) (i:cO T cx env σ A g w s):aS T A (isTrue e env (eval e env)) g s (jh T w' b):=by
 have gen: ∀{e},((ev n cx e σ w).bind λx=>(n9 x.1).bind λc=>I (c,x.2))=I (b,w')→aS T A (do let v←eval e env;standAt e.pos;holding [v] (truthy v)) g s (jh T w' b):=
  λh=>aO h λx J h=>aO h λc aa h=>(S.ev J i).bindR λg1 s1 d t1 a i1=> .o' (.holding (sL h (aiw aa a i1)))
 induction e using eC with
 |BoolOp=>exact S.hN h i
 |Compare=>exact aO (rh h) λx J aa=>(S.dN J i).bindL λg1 s1 d t1 a c1=>(S.jM aa (any_false (tl h)) _ (i.ba t1 a) c1).2
 |Name=>exact gen h
 |Call=>exact gen h
 |_=>exact aR h
theorem aiy (S:da T n) {op:BoolOp} {es:List Expr} {b:Bool} {w':W} (h:hN (n+1) cx op es σ w=I (b,w')) (i:cO T cx env σ A g w s):aS T A (allTrue op es env) g s (jh T w' b):=by
 induction es using cj with
 |nil=>exact sL h (.pure ⟨i.wd,rfl⟩)
 |cons e es=>
  refine aO h λx J h=> .pM ((S.fI J i).bindB λg1 s1 t1 a=> ?_) (arm_allTrue_cons ..)
  clear J
  obtain ⟨c,w1⟩:=x
  induction op using ajR with
  |And=>cases c with
   |true=>exact S.hN h (i.ba t1 a)
   |false=>exact sL h (.pure ⟨a,rfl⟩)
  |Or=>cases c with
   |true=>exact sL h (.pure ⟨a,rfl⟩)
   |false=>exact S.hN h (i.ba t1 a)
theorem qA (h: ∀x p,e≠ .Starred x p):starEach (e::es) env=(aq,eval e env)::starEach es env:=by
 induction e using eC with
 |Starred=>exact bF rfl (h _ _)
 |_=>rfl
theorem H! (h:aS T A x g s e)
  (c: ∀g1 s1 v,bW T g s g1 s1→e g1 s1 v→aS T A (spliced r) g1 s1 (λa s2 vs=>P a s2 (v::vs))):aS T A (spliced ((aq,x)::r)) g s P:=
 λE Q k=>y8 (h E _ λg1 s1 v t1 d=>c g1 s1 v t1 d E _ λa s2 vs t2 b=>k a s2 _ (t1.trans t2) b)
theorem Ap (h:ev n cx e σ w=I p): ∀x q,e≠ .Starred x q:=λx q e=>by
 subst e
 induction n using fJ<;>exact nn h
theorem OI (h:dN n cx e σ w=I p): ∀x q,e≠ .Starred x q:=λx q e=>by
 subst e
 induction n using fJ with
 |zero=>exact nn h
 |succ n=>induction n using fJ<;>exact nn h
theorem Xu (S:da T n) {es:List Expr} {l:List U} {w':W} (h:e4 (n+1) cx es σ w=I (l,w')) (pos:Pos) (i:cO T cx env σ A g w s):aS T A (spliced (backTo pos (starEach es env))) g s (zG T w' l):=by
 cases es with
 |nil=>exact L0 h λE Q k=>t6 (k _ _ _ .refl ⟨i.wd,.nil⟩)
 |cons e es=>
  refine aO h λx J h=>aO h λy aa h=>L0 h ?_
  rw[qA (Ap J)]
  exact H! (S.ev J i) λg1 s1 v t1 a=>(S.e4 aa pos (i.ba t1 a.1)).mono λc s2 vs t2 b=>⟨b.1,.cons (a.2.ba t2 a.1) b.2⟩
theorem aeP (S:da T n) {es:List Expr} {l:List U} {w':W} (h:iN (n+1) cx es σ w=I (l,w')) (pos:Pos) (i:cO T cx env σ A g w s):aS T A (spliced (backTo pos (starEach es env))) g s (wJ T w' l):=by
 cases es with
 |nil=>exact L1 h λE Q k=>t6 (k _ _ _ .refl ⟨i.wd,.nil⟩)
 |cons e es=>
  refine aO h λx J h=>aO h λy aa h=>L1 h ?_
  rw[qA (OI J)]
  exact H! (S.dN J i) λg1 s1 v t1 a=>(S.iN aa pos (i.ba t1 a.1)).mono λc s2 vs t2 b=>⟨b.1,.cons (a.2.ba t2 a.1) b.2⟩
theorem Xv (S:da T n) {e:Option Expr} {p:U} {w':W} (h:i3 (n+1) cx e σ w=I (p,w')) (i:cO T cx env σ A g w s):aS T A (evalPart e env) g s (Res T w' p):=by
 induction e using d5 with
 |none=>exact jm h (.pure ⟨i.wd,.none⟩)
 |some e=>exact S.ev h i
end
section
variable {T:cA} {g:G}
theorem i? (h:bU):h.get? h.objs.size=none:=by
 cases e:h.get? h.objs.size with
 |none=>rfl
 |some o=>exact bF (iA e) (lz _)
noncomputable abbrev G.add (g:G) (P:aP→Prop):G:=⟨λb=>g.B b∨P b,g.aD⟩
noncomputable abbrev G.plus (g:G) (a:aP):G:=⟨λb=>g.B b∨b=a,g.aD⟩
noncomputable abbrev G.minus (g:G) (a:aP):G:=⟨λb=>g.B b∧b≠a,g.aD⟩
theorem bW.add (k:dI s.heap h') (aJ: ∀a,P a→s.heap.get? a=Option.none) (c:s.toks≤t):bW T g s (g.add P) {s with heap:=h',toks:=t,drawn:=dr}:=
 ⟨λb o e Z=>k b o e,λb o e=>⟨o,k b o e⟩,λZ x=> .inl x,λb x=>x.imp id (aJ b),⟨[],by simp⟩,λZ x=> .inl x,rfl,rfl,c⟩
theorem cS.add {P:aP→Prop} (k:dI h h') (aJ: ∀a,P a→h.get? a=ah):cS g.B h (g.add P).B h':=λb o e n=>⟨k b o e,λq=>q.elim n λz=>nn ((aJ b z).symm.trans e)⟩
theorem aW.add (d:aW T g w s) {P:aP→Prop} (k:dI s.heap s'.heap) (aJ: ∀a,P a→s.heap.get? a=ah) (j: ∀a,P a→ ∃o,s'.heap.get? a=I o) (c:s.toks≤s'.toks):aW T (g.add P) w s' where
 aG:=jf d.aG c
 base b o e:=⟨k b o (d.base b o e).1,λq=>q.elim (d.base b o e).2 λz=>nn ((aJ b z).symm.trans (d.base _ _ e).1)⟩
 ex b z:=z.elim (λz=>let ⟨o,e⟩:=d.ex b z;⟨o,k b o e⟩) (j b)
 dG b z:= .inl (d.dG b z)
 tab:=T.m2 d.tab (cS.add k aJ) λb o Z e=>k b o e
 len:=d.len
 c3 i a x f h:=T.k! (d.c3 i a x f h) (cS.add k aJ) λb o Z e=>k b o e
 fT:=d.fT
 fz:=d.fz
theorem bW.plus (k:dI s.heap h') (aJ:s.heap.get? a=Option.none) (c:s.toks≤t):bW T g s (g.plus a) {s with heap:=h',toks:=t,drawn:=dr}:= .add k (λb z=>z▸aJ) c
theorem cS.plus {h h':bU} {a:aP} (k:dI h h') (aJ:h.get? a=ah):cS g.B h (g.plus a).B h':=cS.add k λb z=>z▸aJ
theorem aW.plus (d:aW T g w s) {a:aP} (k:dI s.heap s'.heap) (aJ:s.heap.get? a=ah) {o:Obj} (e:s'.heap.get? a=I o) (c:s.toks≤s'.toks):aW T (g.plus a) w s':=d.add k (λb z=>z▸aJ) (λb z=>⟨o,z▸e⟩) c
theorem cS.minus {h:bU} {a:aP}:cS g.B h (g.minus a).B h:=λb o e n=>⟨e,λq=>n q.1⟩
theorem aW.minus (d:aW T g w s) {a:aP} (aJ: ¬et T.dZ g.aD a):aW T (g.minus a) w s where
 aG:=d.aG
 base b o e:=⟨(d.base b o e).1,λq=>(d.base b o e).2 q.1⟩
 ex b z:=d.ex b z.1
 dG b z:=⟨d.dG b z,λq=>aJ (q▸z)⟩
 tab:=T.m2 d.tab cS.minus λb o Z e=>e
 len:=d.len
 c3 i a x c f:=T.k! (d.c3 i a x c f) cS.minus λb o Z e=>e
 fT:=d.fT
 fz:=d.fz
theorem aS.Hn {l:List U} {vs:List az} (d:aW T g w s) (aX:IsL g.B g.aD s.heap l vs)
  (h: ∀(E:az→aH→Prop) (Q:az→aH→Prop),(∀a h' aG,s.heap.get? a=ah→(dI s.heap h')→dk h' a vs.toArray→Q (.ref a) {s with heap:=h',toks:=aG})→aU T.mo A t Q E s):
  aS T A t g s (jI T s w l):=
 λE Q k=>j0 (bh _) (h (λe s'=>s.toks≤s'.toks→E e s') (λa s'=>s.toks≤s'.toks→Q a s') λa h' aG aJ c f b=>by
  obtain ⟨o,j⟩:=id f
  have m:=j.1
  have r:=j.2
  refine k (g.plus a) _ _ (.plus (dr:=s.drawn) c aJ b) ⟨a,vs,rfl,aJ,d.plus c aJ m b,⟨.inr rfl,λq=> ?_⟩,f,?_⟩
  ·obtain ⟨n,i⟩:=d.ex a (d.dG a q)
   rw[aJ] at i;exact aR i
  ·have:=aX.bJ (cS.plus (g:=g) c aJ) []
   rwa [e0] at this)
theorem aS.adG (d:aW T g w s) (aX:IsL g.B g.aD s.heap l vs)
  (h: ∀(E:az→aH→Prop) (Q:az→aH→Prop),(∀a h' aG,s.heap.get? a=ah→(dI s.heap h')→h'.IsTuple a vs.toArray→Q (.ref a) {s with heap:=h',toks:=aG})→aU T.mo A t Q E s):
  aS T A t g s (Res T w (.tup l)):=
 λE Q k=>j0 (bh _) (h (λe s'=>s.toks≤s'.toks→E e s') (λa s'=>s.toks≤s'.toks→Q a s') λa h' aG aJ c i b=>by
  have st:bW T g s g {s with heap:=h',toks:=aG}:= .grow (dr:=s.drawn) c b
  refine k g _ _ st ⟨d.grow c b,.tup (λq=> ?_) i (aX.ba st d)⟩
  obtain ⟨j,f⟩:=d.ex a q
  rw[aJ] at f;exact aR f)
theorem aS.freeze {l:List U} (d:aW T g c s) (h:aS T A t g s (jI T s w l)):aS T A t g s (Res T w (.list l)):=
 λE Q k=>h E Q λg' s' v x y=>hG y λa vs y=>by
  refine y.1▸k (g'.minus a) s' _ ⟨x.keep,x.ex,λb q=>⟨x.hD b q,λz=> ?_⟩,λb q=>x.iI b q.1,x.eJ,x.ej,x.gens,x.os,x.aG⟩ ⟨y.2.2.1.minus y.2.2.2.1.2,.list (λq=>q.2 rfl) y.2.2.2.2.1 ?_⟩
  ·exact (d.ex b q).elim λo e=>nn (y.2.1.symm.trans (z▸e))
  ·have:=y.2.2.2.2.2.bJ (cS.minus (g:=g') (h:=s'.heap) (a:=a)) []
   rwa [e0] at this
theorem H0 {B aD h} (au:l.length≤1048576) (aX:IsL B aD h l vs):vs.toArray.size≤sizeLine:=by
 rw[eK,←aX.length];exact cG au ar
theorem ady (S:da T n) {es:List Expr} {pos:Pos} {l:List U} {w':W} (h:ei (n+1) cx (.List es pos) σ w=I (l,w')) (i:cO T cx env σ A g w s):aS T A (eval (.List es pos) env) g s (jI T s w' l):=
 aO h λx J h=>Fx (cy h) (.pM (.o' ((S.e4 J pos i).bind λg1 s1 vs t1 c=>(aS.Hn c.1 c.2 λE Q k=>
  m' (k _ _ _ (i? _) (λb o e=>dE _ e) ⟨_,d9 _ rfl,rfl,_,rfl⟩) (H0 (cu h) c.2)).mono λf s2 v t2 d=>hG d λa us r=>⟨a,us,r.1,t1.none r.2.1,r.2.2⟩)) (arm_eval_List ..))
theorem XJ (S:da T n) {es:List Expr} {k:Nat} {pos:Pos} {p:U} {w':W} (h:ev (n+1) cx (.Tuple es k pos) σ w=I (p,w')) (i:cO T cx env σ A g w s):aS T A (eval (.Tuple es k pos) env) g s (Res T w' p):=
 aO h λx J h=>jm (cy h) (.pM (.o' ((S.e4 J pos i).bind λg1 s1 vs t1 a=>aS.adG a.1 a.2 λE Q k=>
  m' (k _ _ _ (i? _) (λb o e=>dE _ e) ⟨_,d9 _ rfl,rfl,_,rfl⟩) (H0 (cu h) a.2))) (arm_eval_Tuple ..))
theorem HY (h:seqIndex? i m=I j):j<m∧(0≤i→j=i.toNat)∧(i<0→0≤i+m∧j=(i+m).toNat):=by
 unfold seqIndex? at h
 have ag:=je.mp (cu h)
 have aN:=inj (cy h)
 have J:=jH ag.1
 have aa:=jH ag.2
 clear h ag
 by_cases h0:i<0
 ·rw[a_ h0] at J aa aN
  exact ⟨aN▸(IZ J).mpr aa,λz=>bF h0 (uo.mpr z),λZ=>⟨J,aN.symm⟩⟩
 ·rw[a3 h0] at J aa aN
  exact ⟨aN▸(IZ J).mpr aa,λZ=>aN.symm,λz=>bF z h0⟩
theorem Lk.rk (x:Lk T g h (.list l) v): ∃a vs,v= .ref a∧dk h a (mh vs)∧IsL g.B g.aD h l vs:=by
 cases x with
 |of i=>cases i with|list _ b aX=>exact ⟨_,_,rfl,b,aX⟩
 |own _ b aX=>exact ⟨_,_,rfl,b,aX⟩
theorem Is.Qh {B aD} (x:Is B aD h (.tup l) v): ∃a vs,v= .ref a∧h.IsTuple a (mh vs)∧IsL B aD h l vs:=by
 cases x with|tup _ b aX=>exact ⟨_,_,rfl,b,aX⟩
theorem Lk.is (x:Lk T g h p v) (aC: ∀l,p≠ .list l):Is g.B g.aD h p v:=by
 induction x using Lk.casesOn with
 |of i=>exact i
 |own=>exact bF rfl (aC _)
theorem rB (h:small i=ab): -(2^63:Int)≤i∧i<2^63:=by
 have:=jH h
 exact ⟨Di (uq ar (nb this).1),uq (nb this).2 ar⟩
theorem aad (c:small i=ab) (k:seqIndex? i l.length=I j) (af:l[j]?=I r) (f:dk s.heap a vs.toArray) (aX:IsL g.B g.aD s.heap l vs)
  (q: ∀v aG,Is g.B g.aD s.heap r v→Q v {s with toks:=aG}):aU T.mo A (getItem (.ref a) (.int i t)) Q E s:=
 cM (aX.get af) λv aN h=>by
  have d:=HY k
  have b:=aX.length
  by_cases h0:0≤i
  ·exact wpAny_getItem_list f.eW h0 (rB c).2 (by rw[←d.2.1 h0];exact qH.trans aN) (q _ s.toks h)
  ·have e:=d.2.2 (r6.mp h0)
   exact ajS f.eW (r6.mp h0) (by rw[eK,←b];exact DJ (by rw[DW];exact e.1)) (rB c).1 (by rw[eK,←b,←e.2];exact qH.trans aN) (q _ s.toks h)
theorem aag (h:dM x k=I r) (d:aW T g w s) (c3:Lk T g s.heap x o) (n:Is g.B g.aD s.heap k f) (au:subscripted slice aq o f=operate [o,f] (getItem o f)):
  aS T A (subscriptTail value slice o f) g s (Res T w r):=
 aO h λi aI h=>by
  obtain rfl:=nu aI
  obtain ⟨t,rfl⟩:=n.md
  clear aI n
  refine .val d λE Q q=> ?_
  have z:=c3.is (p:=x)
  induction x using U.casesOn with
  |list l=>
   refine aO (cy h) λj m af=> ?_
   obtain ⟨a,vs,rfl,b,aX⟩:=c3.rk
   exact Dj b.eW.typeIs slot_list_getitem.lookup (aad (cu h) m af b aX q) au
  |tup l=>
   refine aO (cy h) λj m af=> ?_
   obtain ⟨a,vs,rfl,b,aX⟩:=(z nofun).Qh
   refine cM (aX.get af) λv aN D=> ?_
   exact Dj (T:="tuple") (let ⟨o,C,ag,_⟩:=b;⟨o,C,ag⟩) slot_tuple_getitem.lookup (getItem_tuple b (rB (cu h)).1 (rB (cu h)).2 (by rw[eK,←aX.length];exact m) (qH.trans aN) (q _ s.toks D)) au
  |str y=>
   refine i! (cy h) λc ag e=> ?_
   obtain ⟨u,rfl⟩:=(z nofun).h9
   have:=rB (cu h)
   exact Dj (t7 s _ _) ajT.lookup (getItem_str (by simpa using this) ag (q _ _ (e▸ .str _ _))) au
  |_=>exact aR h
theorem XI (S:da T n) {v sl:Expr} {pos:Pos} {p:U} {w':W} (au: ∀o b,subscripted sl aq o b=operate [o,b] (getItem o b))
  (h:((dN n cx v σ w).bind λx=>(ev n cx sl σ x.2).bind λy=>(dM x.1 y.1).bind λr=>I (r,y.2))=I (p,w')) (i:cO T cx env σ A g w s):aS T A (eval (.Subscript v sl pos) env) g s (Res T w' p):=
 aO h λx J h=>aO h λy aa h=>aO h λr ay h=>jm h λE Q q=>Subscript_ (S.dN J i E _ λg1 s1 o t1 c=>S.ev aa (i.ba t1 c.1) E _ λj s2 b t2 d=>
  aag ay d.1 (c.2.ba t2 c.1) d.2 (au o b) E Q λe s3 a t3 f=>q e s3 a ((t1.trans t2).trans t3) f)
theorem XH (S:da T n) {v sl:Expr} {pos:Pos} {p:U} {w':W} (a:Cy sl=ah)
  (h:((dN n cx v σ w).bind λx=>(ev n cx sl σ x.2).bind λy=>(dM x.1 y.1).bind λr=>I (r,y.2))=I (p,w')) (i:cO T cx env σ A g w s):aS T A (eval (.Subscript v sl pos) env) g s (Res T w' p):=
 XI S (λo b=>by
  induction sl using eC with
  |Slice=>exact aR a.symm
  |_=>rfl) h i
end
section
variable {T:cA}
theorem IsL.picks (aX:IsL B aD h l vs): ∀a:List Nat,IsL B aD h (a.filterMap (l[·]?)) (a.filterMap (vs.toArray[·]?)):=by
 intro g
 induction g with
 |nil=>
  exact .nil
 |cons i a b=>
  have b:=b
  cases e:l[i]? with
  |none=>
   have c:vs.toArray[i]?=none:=by simp only[qH];rw[List.getElem?_eq_none_iff] at e⊢;rw[←aX.length];exact e
   rw[Rr e,Rr c];exact b
  |some p=>
   obtain ⟨v,d⟩:=aX.get e
   have aN:=d.1
   have f:=d.2
   have c:vs.toArray[i]?=I v:=by simpa using aN
   rw[Rt e,Rt c];exact .cons f b
theorem HG (i:Is B aD h p v) (e:yh p=I k):IsPart v k:=by
 induction i using Is.casesOn with
 |none=>exact inj e▸ .none
 |int=>exact inj e▸ .int _ _
 |_=>exact aR e
theorem HH (i:Is B aD h p v) (e:yh p=I k): ∃u:Option (Int×Tok),v=partValue u∧u.map (·.1)=k:=by
 induction i using Is.casesOn with
 |none=>exact ⟨ah,rfl,inj e⟩
 |int i t=>exact ⟨I (i,t),rfl,inj e⟩
 |_=>exact aR e
theorem ahW (sl:Expr) (lo aI st:Option Expr) (q:Pos) (o i:az): ∃a,subscripted (.Slice lo aI st q) aq o i=operate a (getItem o i):=by
 induction st using d5<;>exact ⟨_,rfl⟩
theorem ag0 {lo aI:Option (Int×Tok)} {E Q:az→aH→Prop} (au:s.heap.get? sl=I {cls:= .type "slice",data:= .fields #[partValue lo,partValue aI,partValue ah]}) (a:y.length≤1048576)
  (q: ∀aG u,Q (.str (hF y (lo.map (·.1)) (aI.map (·.1))) u) {s with toks:=aG}):aU T.mo A (getItem (.str y t) (.ref sl)) Q E s:=by
 refine wpAny_getItem_str_slice (l:=lo) (u:=aI) (st:=ah) ⟨_,au,rfl,rfl⟩ rfl ?_
 have ae:(((IV (lo.map (·.1)) (aI.map (·.1)) 1 y.length).filterMap (y.cps[·]?)).toArray).size≤sizeLine:=by
  rw[eK]
  exact cG (ajU ..) (cG (PyProof.Rows.indices_len_le _ _ _) (cG a ar))
 unfold sliceMade
 by_cases b:(1==(1:Int)&&(IV (lo.map (·.1)) (aI.map (·.1)) 1 y.length).length==y.length)=ab
 ·have e:hF y (lo.map (·.1)) (aI.map (·.1))=y:=a_ b
  exact (a_ b).symm▸(e▸q s.toks t:Q (.str y t) s)
 ·have e:hF y (lo.map (·.1)) (aI.map (·.1))=_:=a3 b
  exact (a3 b).symm▸⟨ae,e▸q _ _⟩
theorem agZ {lo aI st:Option Expr} (h:iO x a b c=I r) (d:aW T g w s)
  (c3:Lk T g s.heap x o) (eb:Is g.B g.aD s.heap a g?) (C:Is g.B g.aD s.heap b J) (D:Is g.B g.aD s.heap c M) (au:s.heap.get? sl=I {cls:= .type "slice",data:= .fields #[g?,J,M]}):
  aS T A (subscriptTail value (.Slice lo aI st q) o (.ref sl)) g s (Res T w r):=
 aO h λc1 m h=>aO h λfh n h=>aO h λf z h=>h! (ahW (.Slice lo aI st q) lo aI st q o (.ref sl)) λL j=>by
  have H:=c3.is (p:=x)
  induction x using U.casesOn with
  |str y=>
   have ag:=cu h
   obtain ⟨t,rfl⟩:=(H nofun).h9
   clear c3 H
   obtain ⟨ez,rfl,rfl⟩:=HH eb m
   obtain ⟨kO,rfl,rfl⟩:=HH C n
   obtain ⟨i,rfl,rfl⟩:=HH D z
   induction i using d5 with
   |some=>exact aR ag.1.symm
   |none=>exact .val d λE Q k=>Dj (t7 s _ _) ajT.lookup (ag0 au ag.2 λaG u=>k _ _ (.gd (.str _ _) (cy h))) j
  |list l=>
   have ag:=cu h
   obtain ⟨a,vs,rfl,v,aX⟩:=c3.rk
   refine inj (cy h)▸aS.freeze d (aS.Hn (vs:=(slicePick vs.toArray c1 fh f).toList) d ?_ λE Q k=>Dj v.eW.typeIs slot_list_getitem.lookup (wpAny_getItem_list_slice v.eW ⟨_,au,rfl,rfl⟩ (HG eb m) (HG C n) (HG D z) ag.1
    (k _ _ s.toks (i? _) (λb o e=>dE _ e) ⟨_,d9 _ rfl,rfl,_,rfl⟩) (H0 ag.2 aX)) j)
   have:=aX.picks (sliceRange (sliceBounds c1 fh f l.length).1 (sliceBounds c1 fh f l.length).2.1 (sliceBounds c1 fh f l.length).2.2)
   unfold slicePick tE
   rw[eK,←aX.length]
   simpa using this
  |_=>exact aR h
theorem XG (S:da T n) {v:Expr} {lo aI st:Option Expr} {q pos:Pos} {p:U} {w':W} (h:((dN n cx v σ w).bind λx=>(i3 n cx lo σ x.2).bind λa=>(i3 n cx aI σ a.2).bind λb=>(i3 n cx st σ b.2).bind λk=>(iO x.1 a.1 b.1 k.1).bind λr=>I (r,k.2))=I (p,w')) (i:cO T cx env σ A g w s):aS T A (eval (.Subscript v (.Slice lo aI st q) pos) env) g s (Res T w' p):=
 aO h λx J h=>aO h λa aa h=>aO h λb ay h=>aO h λc O h=>aO h λr P h=>jm h λE Q k=>
  Subscript_ (S.dN J i E _ λg1 s1 o t1 u=>have i1:=i.ba t1 u.1;wpAny_Slice (S.i3 aa i1 E _ λg2 s2 g? t2 l=>have L:=i1.ba t2 l.1;S.i3 ay L E _ λg3 s3 C t3 f=>have M:=L.ba t3 f.1;S.i3 O M E _ λy s4 D m d=>
   have H: ∀b o,s4.heap.get? b=I o→(s4.heap.push {cls:= .type "slice",data:= .fields #[g?,C,D]}).get? b=I o:=λb o e=>dE _ e
   have j:bW T y s4 y {s4 with heap:=s4.heap.push {cls:= .type "slice",data:= .fields #[g?,C,D]}}:= .grow (t:=s4.toks) (dr:=s4.drawn) H (bh _)
   have Z:aW T y c.2 {s4 with heap:=s4.heap.push {cls:= .type "slice",data:= .fields #[g?,C,D]}}:=d.1.grow H (bh _)
   agZ P Z ((((u.2.ba t2 u.1).ba t3 l.1).ba m f.1).ba j d.1) (((l.2.ba t3 l.1).ba m f.1).ba j d.1) ((f.2.ba m f.1).ba j d.1) (d.2.ba j d.1) (d9 _ rfl) E Q
    λX R z Y tJ=>k X R z (((((t1.trans t2).trans t3).trans m).trans j).trans Y) tJ))
end
theorem str_beq {x y:Str}:(x==y)=decide (x=y):=by
 by_cases h:x=y
 ·subst h;rfl
 ·rfl
theorem aA.get_set: ∀(σ:aA) (x:Str) (v:Slot) (y:Str),(σ.set x v).get y=if x=y then v else σ.get y:=by
 intro b
 induction b with
 |nil=>
  intro x v y
  show (if (x==y)=ab then v else Slot.unset)=_
  rw[str_beq];simp[aA.get]
 |cons hd r a=>
  obtain ⟨z,u⟩:=hd
  intro x v y
  have a:=a x v y
  show aA.get (if (z==x)=ab then (z,v)::r else (z,u)::aA.set r x v) y=_
  rw[str_beq]
  by_cases h:z=x
  ·subst h
   simp only[decide_true,if_true]
   show (if (z==y)=ab then v else aA.get r y)=if z=y then v else (if (z==y)=ab then u else aA.get r y)
   rw[str_beq]
   by_cases q:z=y<;>simp[q]
  ·simp only[decide_eq_true_eq,a3 h]
   show (if (z==y)=ab then u else (aA.set r x v).get y)=if x=y then v else (if (z==y)=ab then u else aA.get r y)
   rw[str_beq,a]
   by_cases q:z=y
   ·subst q
    simp[gu h]
   ·simp[q]
theorem Ct {σ:aA} {G:Prop} (e:(σ.set x (.val p)).get y= .own l) (k:x≠y→σ.get y= .own l→G):G:=by
 rw[aA.get_set] at e
 by_cases a9:x=y
 ·rw[a_ a9] at e;cases e
 ·rw[a3 a9] at e;exact k a9 e
structure dc (T:cA) (K:aP→Prop) (g:G) (s:aH) (g':G) (s':aH):Prop where
 i5:cS g.B s.heap g'.B s'.heap
 old: ∀b o,K b→s.heap.get? b=I o→ ¬et T.dZ g.aD b→s'.heap.get? b=I o
 la: ∀b,K b→g.B b→g'.B b
 ex: ∀b o,s.heap.get? b=I o→ ∃cz,s'.heap.get? b=I cz
 eJ: ∃more,g'.aD=g.aD++more
 ej: ∀b,et T.dZ g'.aD b→et T.dZ g.aD b∨s.heap.get? b=ah
 gens:s'.gens=s.gens
 os:s'.os=s.os
 aG:s.toks≤s'.toks
section
variable {T:cA} {K:aP→Prop} {g g':G} {w:W} {s s':aH} {n:Nat}
theorem cS.refl:cS B h B h:=λZ Z e n=>⟨e,n⟩
theorem cS.trans (x:cS B h B' h') (y:cS B' h' b c):cS B h b c:=λa o e n=>y a o (x a o e n).1 (x a o e n).2
theorem dc.refl:dc T K g s g s:=⟨.refl,λZ Z Z e Z=>e,λZ Z x=>x,λZ o e=>⟨o,e⟩,⟨[],by simp⟩,λZ x=> .inl x,rfl,rfl,bh _⟩
theorem dc.none (x:dc T K g s g' s') {b:aP} (e:s'.heap.get? b=Option.none):s.heap.get? b=Option.none:=by
 cases q:s.heap.get? b with
 |none=>rfl
 |some o=>obtain ⟨c,a⟩:=x.ex b o q;rw[e] at a;exact aR a
theorem dc.trans (x:dc T K g s g' s') (y:dc T K g' s' p0 qx):dc T K g s p0 qx where
 i5:=x.i5.trans y.i5
 old b o c d n:=y.old b o c (x.old b o c d n) λq=>(x.ej b q).elim n λz=>by rw[d] at z;exact aR z.symm
 la b e z:=y.la b e (x.la b e z)
 ex b o e:=let ⟨h,f⟩:=x.ex b o e;y.ex b h f
 eJ:=by
  obtain ⟨a,i⟩:=x.eJ
  obtain ⟨b,j⟩:=y.eJ
  exact ⟨a++b,by rw[j,i,iT]⟩
 ej b z:=(y.ej b z).elim (x.ej b) λq=> .inr (x.none q)
 gens:=y.gens.trans x.gens
 os:=y.os.trans x.os
 aG:=cG x.aG y.aG
theorem bW.bw (x:bW T g s g' s') (d:aW T g w s):dc T K g s g' s':=
 ⟨x.bJ d,λb o Z e n=>x.keep b o e n,λb Z z=>x.hD b z,x.ex,x.eJ,x.ej,x.gens,x.os,x.aG⟩
theorem IsL.bw (x:dc T K g s g' s') {p:List U} {v:List az} (i:IsL g.B g.aD s.heap p v):IsL g'.B g'.aD s'.heap p v:=by
 obtain ⟨more,e⟩:=x.eJ
 rw[e];exact i.bJ x.i5 more
noncomputable def sh (K:aP→Prop) (env:Env) (x:Str):Prop:=
 (env.kindOf x=I .local∧ ¬K env.locals)∨(env.kindOf x=I .cell∧ ∀c,env.cells.lookup x=I c→ ¬K c)
theorem vw {h:bU} (x:h.Ns a m) (y:h.IsList a k):False:=by
 obtain ⟨o,es,i,f⟩:=x
 have e:=f.1
 have d:=f.2.1
 obtain ⟨j,b,_,n,c⟩:=y
 rw[e] at b;cases b;rw[d] at c;cases c
theorem x? {h:bU} (x:h.Ns a m) (y:h.IsCell a v):False:=by
 obtain ⟨o,es,i,b⟩:=x
 have e:=b.1
 have d:=b.2.1
 obtain ⟨j,c,f⟩:=y
 rw[e] at c;cases c;rw[d] at f;cases f
theorem x5 {h:bU} (x:h.IsList a i) (y:h.IsCell a v):False:=by
 obtain ⟨o,e,_,n,d⟩:=x
 obtain ⟨f,b,c⟩:=y
 rw[e] at b;cases b;rw[d] at c;cases c
theorem dc.one {t:Nat} (b:cL T g a) (i: ¬K a) (au: ∀b o,b≠a→s.heap.get? b=I o→h'.get? b=I o) (aJ: ∃o,h'.get? a=I o) (d:s.toks≤t):dc T K g s g {s with heap:=h',toks:=t,drawn:=dr} where
 i5 c o e n:=⟨au c o (λq=>n (q▸b.1)) e,n⟩
 old c o f h _:=au c o (λq=>i (q▸f)) h
 la _ _ z:=z
 ex c o e:=by
  by_cases q:c=a
  ·exact q▸aJ
  ·exact ⟨o,au c o q e⟩
 eJ:=⟨[],by simp⟩
 ej _ x:= .inl x
 gens:=rfl
 os:=rfl
 aG:=d
theorem aW.one (d:aW T g w s) {a:aP} (b:cL T g a) (au: ∀b o,b≠a→s.heap.get? b=I o→s'.heap.get? b=I o) (aJ: ∃o,s'.heap.get? a=I o) (h:s.toks≤s'.toks):aW T g w s' where
 aG:=jf d.aG h
 base c o e:=⟨au c o (λq=>(d.base c o e).2 (q▸b.1)) (d.base c o e).1,(d.base c o e).2⟩
 ex c z:=by
  by_cases q:c=a
  ·exact q▸aJ
  ·obtain ⟨o,e⟩:=d.ex c z;exact ⟨o,au c o q e⟩
 dG:=d.dG
 tab:=T.m2 d.tab (λc o e n=>⟨au c o (λq=>n (q▸b.1)) e,n⟩) λc o z e=>au c o (λq=>b.2 (q▸ .inl z)) e
 len:=d.len
 c3 i l x f j:=T.k! (d.c3 i l x f j) (λc o e n=>⟨au c o (λq=>n (q▸b.1)) e,n⟩) λc o z e=>au c o (λq=>b.2 (.inr ⟨l,ia f,by rw[←q];exact z⟩)) e
 fT:=d.fT
 fz:=d.fz
theorem dy.store {sl:Slot} {v:az} {x:Str} {h':bU} {a:aP} (f:dy T g cx env σ s.heap) (ae:cL T g a)
  (au: ∀b o,b≠a→s.heap.get? b=I o→h'.get? b=I o)
  (af:cB T g h' env x (I v)) (Q:gA T g h' sl (I v))
  (i: ∀y u,y≠x→cB T g s.heap env y u→cB T g h' env y u)
  (O: ∀P,¬dk s.heap a P) (M: ∃m,h'.Ns env.locals m)
  (L: ∀y l m c,y≠x→sl= .own l→σ.get y= .own m→v= .ref c→ ¬cB T g s.heap env y (I (.ref c))):dy T g cx env (σ.set x sl) h' where
 glob:=f.glob
 bi:=f.bi
 kind:=f.kind
 loc:=f.loc
 nM:=f.nM
 ok:=f.ok
 dx:=f.dx
 dict:=M
 dm:=f.dm
 apart:=f.apart
 nm y k e q:=by
  by_cases a9:x=y
  ·subst a9
   exact ⟨I v,af,by rw[aA.get_set,a_ rfl];exact Q⟩
  ·obtain ⟨u,A⟩:=f.nm y k e q
   have cP:=A.1
   have d4:=A.2
   refine ⟨u,i y u (gu a9) cP,?_⟩
   rw[aA.get_set,a3 a9]
   have bJ:cS g.B s.heap g.B h':=λb o e n=>⟨au b o (λq=>n (q▸ae.1)) e,n⟩
   cases D:σ.get y with
   |unset=>trivial
   |val p=>
    rw[D] at d4
    obtain ⟨z,C⟩:=d4
    have d:=C.1
    have i1:=C.2
    have:=i1.bJ bJ []
    rw[e0] at this
    exact ⟨z,d,this⟩
   |own l=>
    rw[D] at d4
    obtain ⟨c,vs,d,b1,⟨o,c1,r⟩,i1⟩:=d4
    have:=i1.bJ bJ []
    rw[e0] at this
    exact ⟨c,vs,d,b1,⟨o,au c o (λq=>O vs.toArray (by rw[←q];exact ⟨o,c1,r⟩)) c1,r⟩,this⟩
 sep y z l m c d h c! dT cP d4:=by
  rw[aA.get_set] at d h
  by_cases a9:x=y
  ·by_cases bH:x=z
   ·rw[←a9,←bH]
   ·exfalso
    subst a9
    rw[a_ rfl] at d
    rw[a3 bH] at h
    obtain ⟨k,av,a5⟩:=dT
    obtain ⟨u,a1,_⟩:=f.nm z k av a5
    refine L z l m c (gu bH) d h ?_ (a1.back (i z u (gu bH) a1) d4)
    exact zt (af.one cP)
  ·rw[a3 a9] at d
   by_cases bH:x=z
   ·exfalso
    subst bH
    rw[a_ rfl] at h
    obtain ⟨k,av,a5⟩:=c!
    obtain ⟨u,a1,_⟩:=f.nm y k av a5
    refine L y m l c (gu a9) h d ?_ (a1.back (i y u (gu a9) a1) cP)
    exact zt (af.one d4)
   ·rw[a3 bH] at h
    obtain ⟨bp,J,E⟩:=c!
    obtain ⟨bK,H,t⟩:=dT
    obtain ⟨ez,R⟩:=f.nm y bp J E
    have a1:=R.1
    obtain ⟨kO,j⟩:=f.nm z bK H t
    have a2:=j.1
    exact f.sep y z l m c d h ⟨bp,J,E⟩ ⟨bK,H,t⟩ (a1.back (i y ez (gu a9) a1) cP) (a2.back (i z kO (gu bH) a2) d4)
theorem rC {E:az→aH→Prop} {Q:Unit→aH→Prop} (f:dy T g cx env σ s.heap) (d:aW T g w s) (av:cx.sc.names.lookup x=I k) (Z:k≠ .globalImplicit) (wr:sh K env x)
  (rd:gA T g s.heap sl (I v)) (xM: ∀y l m c,y≠x→sl= .own l→σ.get y= .own m→v= .ref c→ ¬cB T g s.heap env y (I (.ref c)))
  (q: ∀s',dc T K g s g s'→dy T g cx env (σ.set x sl) s'.heap→aW T g w s'→cB T g s'.heap env x (I v)→(∀y u,y≠x→cB T g s.heap env y u→cB T g s'.heap env y u)→Q () s'):
  aU T.mo A (bindName env x v) Q E s:=by
 refine wpAny_bindName (j0 (bh _) ?_)
 have slot: ∀{h':bU} {a:aP},cL T g a→(∀b o,b≠a→s.heap.get? b=I o→h'.get? b=I o)→(∀C,¬dk s.heap a C)→gA T g h' sl (I v):=λ{h' a} ae au j=>by
  have bJ:cS g.B s.heap g.B h':=λb o e n=>⟨au b o (λq=>n (q▸ae.1)) e,n⟩
  induction sl using Slot.casesOn with
  |unset=>trivial
  |val p=>
   obtain ⟨z,Y⟩:=rd
   have i:=Y.1
   have i1:=Y.2
   have:=i1.bJ bJ []
   rw[e0] at this
   exact ⟨z,i,this⟩
  |own l=>
   obtain ⟨c,vs,i,b1,⟨o,c1,r⟩,i1⟩:=rd
   have:=i1.bJ bJ []
   rw[e0] at this
   exact ⟨c,vs,i,b1,⟨o,au c o (λq=>j vs.toArray (by rw[←q];exact ⟨o,c1,r⟩)) c1,r⟩,this⟩
 rcases wr with ⟨R,kB⟩|⟨dm,gb⟩
 ·
  obtain ⟨u,aR,_⟩:=f.nm x k av Z
  have fV: ∃m,s.heap.Ns env.locals m:=by
   rcases aR with ⟨_,m,hm,_⟩|⟨q,_⟩
   ·exact ⟨m,hm⟩
   ·rcases q with q|q<;>rw[R] at q<;>cases q
  obtain ⟨m,hm⟩:=fV
  refine wpAny_storeName_local R hm (λh' O X D=> ?_) (by rw[f.kind];rfl)
  have au: ∀b o,b≠env.locals→s.heap.get? b=I o→h'.get? b=I o:=λb o ae e=>(X.2 b ae).trans e
  have j: ∀C,¬dk s.heap env.locals C:=λC y=>vw hm y.eW
  have aJ: ∃o,h'.get? env.locals=I o:=let ⟨o,_,_,e,_⟩:=O;⟨o,e⟩
  have M:cB T g h' env x (I v):= .inl ⟨R,_,O,by exact a_ rfl⟩
  have L: ∀y u,y≠x→cB T g s.heap env y u→cB T g h' env y u:=λy u a9 n=>by
   rcases n with ⟨bp,b4,P,i⟩|⟨bp,c,ag,⟨o,e,aN⟩,aC⟩
   ·exact .inl ⟨bp,_,O,by simp[a9];rw[Hw hm P];exact i⟩
   ·exact .inr ⟨bp,c,ag,⟨o,au c o (λq=>x? (v:=u) hm (by rw[←q];exact ⟨o,e,aN⟩)) e,aN⟩,aC⟩
  exact q _ (.one (dr:=s.drawn) f.loc kB au aJ D) (f.store f.loc au M (slot f.loc au j) L j ⟨_,O⟩ xM) (d.one f.loc au aJ D) M L
 ·obtain ⟨u,aR,_⟩:=f.nm x k av Z
  rcases aR with ⟨c!,_⟩|⟨_,c,ag,aN,aC⟩
  ·rw[dm] at c!;cases c!
  ·refine wpAny_storeName_cell f.kind dm ag aN λh' qb X D=> ?_
   have au: ∀b o,b≠c→s.heap.get? b=I o→h'.get? b=I o:=λb o ae e=>(X.2 b ae).trans e
   have j: ∀C,¬dk s.heap c C:=λC y=>x5 y.eW aN
   have aJ: ∃o,h'.get? c=I o:=let ⟨o,e,_⟩:=qb;⟨o,e⟩
   have M:cB T g h' env x (I v):= .inr ⟨.inl dm,c,ag,qb,aC⟩
   have dict: ∃m,h'.Ns env.locals m:=by obtain ⟨m,o,es,H,e,J,r⟩:=f.dict;exact ⟨m,o,es,H,au _ _ (λq=>x? (h:=s.heap) ⟨o,es,H,e,J,r⟩ (by rw[q];exact aN)) e,J,r⟩
   have L: ∀y u,y≠x→cB T g s.heap env y u→cB T g h' env y u:=λy u a9 n=>by
    rcases n with ⟨bp,b4,P,i⟩|⟨bp,cn,q_,⟨o,e,Ζ⟩,Be⟩
    ·obtain ⟨o,es,H,e,J,r⟩:=P
     exact .inl ⟨bp,b4,⟨o,es,H,au _ _ (λq=>x? (h:=s.heap) ⟨o,es,H,e,J,r⟩ (by rw[q];exact aN)) e,J,r⟩,i⟩
    ·exact .inr ⟨bp,cn,q_,⟨o,au cn o (λq=>a9 (f.apart y x c (q▸q_) ag)) e,Ζ⟩,Be⟩
   exact q _ (.one (t:=s.toks) (dr:=s.drawn) aC (gb c ag) au aJ (bh _)) (f.store aC au M (slot aC au j) L j dict xM) (d.one aC au aJ (bh _)) M L
end
theorem Wn (el:t≠it): ∀(n i:Nat) (s:aH) (Q:List az→aH→Prop),s.heap.IsListIter it t i→s.heap.IsList t items→i+n≤items.size→
  (∀h',h'.IsListIter it t (i+n)→I0 it s.heap h'→Q ((items.toList.drop i).take n) {s with heap:=h'})→aU (cU prog wd) A (draw (.ref it) n) Q E s:=by
 intro k
 induction k with
 |zero=>
  intro i s Q a _ _ c
  exact bj (by simpa using c s.heap a (ajV ..))
 |succ n j=>
  intro i s Q a d b c
  have e:i<items.size:=by exact ajW b
  refine aw (ajX a d (x:=items[i]) (by simp[e]) λo g f=> ?_)
  refine aw (fK (j (i+1) _ _ g (d.extBut f.extBut el) (by exact bE b) λl h m=>bj ?_))
  have hd:items.toList.drop i=items[i]::items.toList.drop (i+1):=by simp[Ru,e]
  have:=c l (by rw[show i+(n+1)=i+1+n by exact mi (ajY _ _)];exact h) (f.trans m)
  rw[hd,ajZ] at this
  exact this
theorem Qs (cC:A.handled=ah) (a:s.heap.IsList t items)
  (j: ∀h',Rv s.heap.objs.size s.heap h'→Q items.toList {s with heap:=h'}):aU (cU prog wd) A (unpackItems (.ref t) items.size ah) Q E s:=by
 have c:t≠s.heap.objs.size:=by obtain ⟨o,h,_⟩:=a;exact hg (iA h)
 refine aw ?_
 ·skip
  refine aw (Rw a.typeIs slot_list_iter.lookup ?_)
  refine bj ?_
  simp only[y5,if_false]
  refine aw (fK (I1 a ?_))
  refine aw (fK (Wn c items.size 0 _ _ ⟨_,d9 _ rfl,rfl,rfl⟩ (a.push _) (by exact dH (r7 _ _)) λk f d=> ?_))
  have l:List.take items.size (Rx 0 items.toList)=items.toList:=by
   rw[Dk];exact rV (by simp)
  rw[l]
  rw[a3 (by simp)]
  have m:k.IsList t items:=(a.push _).extBut d.extBut c
  refine aw (fK (aj0 cC f m (by simp) λi g=> ?_))
  simp only[Option.isSome_none,y5,if_false]
  refine bj (j i λb o ae e=>g b o ae (d.extBut b o ae (dE _ e)))
theorem aA.get_map (σ:aA) (f:Str→Slot→Slot) (b: ∀x,f x .unset= .unset) (x:Str):aA.get (σ.map λ(y,u)=>(y,f y u)) x=f x (σ.get x):=by
 induction σ with
 |nil=>exact (b x).symm
 |cons q r a=>
  obtain ⟨y,u⟩:=q
  show (if (y==x)=ab then f y u else aA.get (r.map λ(y,u)=>(y,f y u)) x)=f x (if (y==x)=ab then u else aA.get r x)
  rw[str_beq]
  by_cases h:y=x
  ·subst h;simp
  ·simp only[decide_eq_true_eq,a3 h];exact a
theorem aA.uV (σ:aA) (a:List Str) (x:Str):(σ.hide a).get x=if a.contains x then .unset else σ.get x:=
 aA.get_map σ (λy u=>if a.contains y then .unset else u) (λx=>by split<;>rfl) x
theorem aA.YW (σ:aA) (a:List Str) (x:Str):(σ.freeze a).get x=if a.contains x then (match σ.get x with| .own l=> .val (.list l)|u=>u) else σ.get x:=
 aA.get_map σ (λy u=>if a.contains y then (match u with| .own l=> .val (.list l)|u=>u) else u) (λx=>by dsimp only;split<;>rfl) x
section
variable {T:cA} {K:aP→Prop} {cx:bY} {env:Env} {σ σ':aA} {A:eU} {g:G} {w:W} {s s':aH} {n:Nat}
theorem dy.weak (f:dy T g cx env σ h) (k: ∀x,σ'.get x=σ.get x∨σ'.get x= .unset):dy T g cx env σ' h where
 glob:=f.glob
 bi:=f.bi
 kind:=f.kind
 loc:=f.loc
 nM:=f.nM
 ok:=f.ok
 dx:=f.dx
 dict:=f.dict
 dm:=f.dm
 apart:=f.apart
 nm x mP e q:=by
  obtain ⟨v,a,b⟩:=f.nm x mP e q
  refine ⟨v,a,?_⟩
  rcases k x with h|h<;>rw[h]
  ·exact b
  ·trivial
 sep x y l m a c d:=by
  have J:σ.get x= .own l:=by rcases k x with h|h<;>rw[h] at c;exact c;cases c
  have aa:σ.get y= .own m:=by rcases k y with h|h<;>rw[h] at d;exact d;cases d
  exact f.sep x y l m a J aa
def nk (K:aP→Prop) (cx:bY) (env:Env):Prop:= ∀x,dD cx.sc x=ab→sh K env x
def Kept (T:cA) (g:G) (env:Env) (σ σ':aA) (s s':aH):Prop:= ∀y l,σ'.get y= .own l→σ.get y= .own l∧ ∀u,cB T g s.heap env y u→cB T g s'.heap env y u
theorem oU (h:dD sc x=ab): ∃k,sc.names.lookup x=I k∧k≠ .globalImplicit:=by
 unfold dD at h
 simp only[t8,beq_iff_eq] at h
 rcases h with h|h
 ·exact ⟨_,h,by decide⟩
 ·exact ⟨_,h,by decide⟩
theorem Kh {E:az→aH→Prop} {Q:Unit→aH→Prop} {t:Expr} {p:U} {v:az} (h:qW cx.sc t p σ=I σ') (wr:nk K cx env) (f:dy T g cx env σ s.heap) (d:aW T g w s) (i:Is g.B g.aD s.heap p v)
  (q: ∀s',dc T K g s g s'→dy T g cx env σ' s'.heap→aW T g w s'→Kept T g env σ σ' s s'→Q () s'):aU T.mo A (assign t env v) Q E s:=
 aO h λx af h=>(qq af).elim λpos a=>cM (oU (cu h)) λk av j=>by
  rw[a,aj1]
  exact aw (fF (rC (sl:= .val p) f d av j (wr x (cu h)) ⟨v,rfl,i⟩ (λZ Z Z Z Z z=>by cases z) λs' b o c aR m=>q s' b (inj (cy h)▸o) c λy l e=>by
   exact Ct (inj (cy h)▸e) λa9 e=>⟨e,λu=>m y u (gu a9)⟩))
theorem J8 (h: ∃x,l1 t=I x):assignEach (t::ts) env=(aq,assign t env)::assignEach ts env:=
 h.elim λx af=>(qq af).elim λp e=>by rw[e];rfl
theorem Kg (h:qW sc t p σ=I σ'): ∃x,l1 t=I x:=aO h λx af Z=>⟨x,af⟩
theorem Uq: ∀{ts:List Expr} {ps:List U} {σ σ':aA},pJ sc ts ps σ=I σ'→(assignEach ts env).length=ps.length∧(assignEach ts env).findIdx? (·.1)=none:=by
 intro ts
 induction ts with
 |nil=>intro l _ _ h;rw[j2.mp (cu h)];exact ⟨rfl,rfl⟩
 |cons t ts a=>
  intro ps σ σ' h
  induction ps using cj with
  |nil=>exact aR h
  |cons p ps=>
   exact aO h λσ1 J aa=>by
    have e:=a aa
    rw[J8 (Kg J),Dl]
    exact ⟨aQ (·+1) e.1,by simp[e.2]⟩
theorem Uo {E:az→aH→Prop} {Q:Unit→aH→Prop} {ts:List Expr}: ∀{ps:List U} {vs:List az} {σ:aA} {s:aH},pJ cx.sc ts ps σ=I σ'→nk K cx env→dy T g cx env σ s.heap→aW T g w s→IsL g.B g.aD s.heap ps vs→
  (∀s',dc T K g s g s'→dy T g cx env σ' s'.heap→aW T g w s'→Kept T g env σ σ' s s'→Q () s')→aU T.mo A (assignInOrder ((assignEach ts env).map (·.2)) vs) Q E s:=by
 induction ts with
 |nil=>
  intro ps vs σ s h wr f d aX q
  have e:=inj (cy h)
  have ev:vs=[]:=(j2.mp (cu h)▸aX:IsL g.B g.aD s.heap [] vs).jd
  exact ev▸(bj (q s .refl (e▸f) d λy l z=>⟨e▸z,λu n=>n⟩))
 |cons t ts a=>
  intro ps vs σ s h wr f d aX q
  induction ps using cj with
  |nil=>exact aR h
  |cons p ps=>
   refine aO h λσ1 J aa=>fU aX.hy λv vs' ev i aX=> ?_
   rw[J8 (Kg J),ev]
   show aU _ A (do holding vs' (assign t env v);assignInOrder ((assignEach ts env).map (·.2)) vs') Q E s
   exact aw (fK (Kh J wr f d i λs1 t1 f1 c bp=>a aa wr f1 c (aX.bw t1) λs2 t2 f2 b bK=>q s2 (t1.trans t2) f2 b λy l e=>⟨(bp y l (bK y l e).1).1,λu n=>(bK y l e).2 u ((bp y l (bK y l e).1).2 u n)⟩))
theorem xo (af:Rv s.heap.objs.size s.heap h'):dI s.heap h':=λb o e=>af b o (hg (iA e)) e
theorem wQ {E:az→aH→Prop} {Q:Unit→aH→Prop} {t:Expr} {p:U} {v:az} (cC:A.handled=ah) (h:d2 cx.sc t p σ=I σ') (wr:nk K cx env) (f:dy T g cx env σ s.heap) (d:aW T g w s) (i:Is g.B g.aD s.heap p v)
  (q: ∀s',dc T K g s g s'→dy T g cx env σ' s'.heap→aW T g w s'→Kept T g env σ σ' s s'→Q () s'):aU T.mo A (assign t env v) Q E s:=
 nA h (λZ h=>Kh h wr f d i q) λts b h=>aO h λl j h=>hG (aiA b) λr pos o=>by
  have st:=Uq (env:=env) h
  have go: ∀{h' vs},(dI s.heap h')→IsL g.B g.aD s.heap l vs→aU T.mo A (assignInOrder ((assignEach ts env).map (·.2)) vs) Q E {s with heap:=h'}:=λ{h' vs} k aX=>
   have t1:bW T g s g {s with heap:=h'}:= .grow (t:=s.toks) (dr:=s.drawn) k (bh _)
   Uo h wr (f.ba t1 d) (d.grow k (bh _)) (aX.ba t1 d) λs2 t2 f2 m bK=>q s2 ((t1.bw d).trans t2) f2 m λy l e=>⟨(bK y l e).1,λu n=>(bK y l e).2 u (n.ba t1 d f.loc)⟩
  rw[o]
  clear q f
  induction i using Is.casesOn with
  |tup nb b aX=>
   have aX:=(inj j:_=l)▸aX
   exact wpAny_assign_Tuple cC b (by rw[st.1,eK,aX.length]) st.2 λh' af=>go (xo af) aX
  | @list hJ a vs nb b aX=>
   have aX:=(inj j:hJ=l)▸aX
   rw[arm_assign_Tuple]
   refine aw (fF ?_)
   unfold unpack
   rw[st.2]
   refine aw (fK ?_)
   have c:(assignEach ts env).length=vs.toArray.size:=by rw[st.1,eK,aX.length]
   exact c▸(Qs cC b.eW λh' af=>go (xo af) aX)
  |_=>exact aR j
end
structure kX (T:cA) (A:eU) (tgt:Expr) (sM:G) (i9:bU) (ak:aP) (items:List U) (du wr:List aP) (St:Nat→bU→Prop):Prop where
 sub: ∀b∈wr,b∈du
 live: ∀i h,St i h→ ∀b∈wr,∃o bA,h.get? b=I o∧o.data= .fields bA
 frame: ∀i h h',St i h→(∀b∈du,∀o,h.get? b=I o→h'.get? b=I o)→St i h'
 item: ∀(i:Nat) p (g:G) (s:aH) (E:az→aH→Prop) (Q:Option az→aH→Prop),items[i]?=I p→St i s.heap→cS sM.B i9 g.B s.heap→(∃more,g.aD=sM.aD++more)→(∀b,g.B b→ ∃o,s.heap.get? b=I o)→(∀b∈wr,g.B b)→
  (∀v h' aG,(∀b o,b∉wr→s.heap.get? b=I o→h'.get? b=I o)→
   (∀(jg:az→aH→Prop) (eF:Unit→aH→Prop),(∀oG,St (i+1) oG→(∀b o,b∉wr→h'.get? b=I o→oG.get? b=I o)→Is g.B g.aD oG p v→eF () {s with heap:=oG,toks:=aG})→
    aU T.mo A (letOwnedTupleGo tgt (.ref ak) v) eF jg {s with heap:=h',toks:=aG})→Q (I v) {s with heap:=h',toks:=aG})→
  aU T.mo A (pyNext (.ref ak)) Q E s
 done: ∀(s:aH) (E:az→aH→Prop) (Q:Option az→aH→Prop),St items.length s.heap→(∀h' aG,(∀b o,b∉wr→s.heap.get? b=I o→h'.get? b=I o)→Q ah {s with heap:=h',toks:=aG})→aU T.mo A (pyNext (.ref ak)) Q E s
 self: ∀i (s:aH) (E:az→aH→Prop) (Q:az→aH→Prop),St i s.heap→Q (.ref ak) s→aU T.mo A (pyIter (.ref ak)) Q E s
section
variable {T:cA}
theorem kX.ofWalks {St:Nat→bU→Prop} (W:Walks T.prog T.w A ak du wr items.length P St)
  (f: ∀i h,St i h→ ∀b∈wr,∃o bA,h.get? b=I o∧o.data= .fields bA)
  (d3: ∀(i:Nat) p v (g:G) h,items[i]?=I p→P i v→cS sM.B l g.B h→(∃more,g.aD=sM.aD++more)→Is g.B g.aD h p v)
  (t: ∀i v (s:aH) (E:az→aH→Prop) (Q:Unit→aH→Prop),St i s.heap→Q () s→aU T.mo A (letOwnedTupleGo tgt (.ref ak) v) Q E s):kX T A tgt sM l ak items du wr St where
 sub:=W.sub
 live:=f
 frame:=W.frame
 item i p g s E Q aI st bJ r u dG q:=by
  refine W.item i s Q E (hh.mp aI).1 st λv h' aG eX d c=>q v h' aG c λm j k=>t (i+1) v _ m j d ?_
  refine k h' d (λZ Z Z e=>e) ?_
  have:=(d3 i p v g s.heap aI eX bJ r).bJ (B':=g.B) (h':=h') (λa o e n=>⟨c a o (λz=>n (dG a z)) e,n⟩) []
  rwa [e0] at this
 done s E Q st q:=W.done s Q E st q
 self i s E Q st q:=W.self i s Q E st q
inductive iV (T:cA) (A:eU) (own:Bool) (tgt:Expr) (s:aH) (w:W) (items:List U) (g':G) (s':aH):az→Prop where
 |mk (ak:aP) (du wr:List aP) (St:Nat→bU→Prop):aW T g' w s'→kX T A tgt g' s'.heap ak items du wr St→St 0 s'.heap→(∀b∈wr,cL T g' b∧s.heap.get? b=ah)→
  (∀b∈du,(∃o,s'.heap.get? b=I o)∧ ¬et T.dZ g'.aD b∧(own=aq→b∈wr∨ ¬g'.B b))→(∀b∈wr,∃o bA,s'.heap.get? b=I o∧o.data= .fields bA)→iV T A own tgt s w items g' s' (.ref ak)
theorem Hs (d:aW T g w s) {b:aP} (h:s.heap.get? b=ah): ¬et T.dZ g.aD b:=λq=>(d.ex b (d.dG b q)).elim λo e=>nn (h.symm.trans e)
theorem YY (h:(isName tgt||kD tgt)=ab) (a:s.heap.get? ak=I o) (ag:o.cls= .type ty) (hd:o.data= .fields bA)
  (a5:(["enumerate","zip","dict_itemiterator","dict_reverseitemiterator","odict_iterator","itertools.zip_longest","itertools.pairwise"]:List String).contains ty=aq) (q:Q () s):aU T.mo A (letOwnedTupleGo tgt (.ref ak) v) Q E s:=by
 induction tgt using eC with
 |Name=>exact bj q
 |Tuple=>
  induction v using Value.casesOn with
  |ref b=>
   refine aw (I2 a ?_)
   rw[ag,hd]
   show aU _ A (if ((["enumerate","zip","dict_itemiterator","dict_reverseitemiterator","odict_iterator","itertools.zip_longest","itertools.pairwise"]:List String).contains ty&&bA[0]?==I (rawInt b))=ab then _ else _) Q E s
   rw[a5,Bool.false_and,a3 cv]
   exact bj q
  |_=>exact bj q
 |_=>exact (cv h).elim
theorem xY {St:Nat→bU→Prop} (d:aW T g w s) (h':bU) (ak:aP) (eG:s.heap.get? ak=ah) (a:dI s.heap h') (c:h'.get? ak=I o) (hd:o.data= .fields bA) (f:s.toks≤t)
  (W:Walks T.prog T.w A ak (ak::ax) [ak] items.length P St) (u:St 0 h') (j: ∀i h,St i h→ ∃o bA,h.get? ak=I o∧o.cls= .type ty∧o.data= .fields bA) (m:(["enumerate","zip","dict_itemiterator","dict_reverseitemiterator","odict_iterator","itertools.zip_longest","itertools.pairwise"]:List String).contains ty=aq)
  (r:(isName tgt||kD tgt)=ab) (x: ∀b∈ax,(∃o,s.heap.get? b=I o)∧ ¬et T.dZ g.aD b∧(own=aq→ ¬g.B b))
  (d3: ∀(i:Nat) p v (bk:G) h,items[i]?=I p→P i v→cS (g.plus ak).B h' bk.B h→(∃more,bk.aD=g.aD++more)→Is bk.B bk.aD h p v):
  bW T g s (g.plus ak) {s with heap:=h',toks:=t}∧iV T A own tgt s w items (g.plus ak) {s with heap:=h',toks:=t} (.ref ak):=by
 have vp:=Hs d eG
 refine ⟨.plus (dr:=s.drawn) a eG f,ak,ak::ax,[ak],St,d.plus a eG c f,?_,u,λb ae=>(ep.mp ae).symm▸⟨⟨.inr rfl,vp⟩,eG⟩,λb ae=> ?_,λb ae=>⟨o,bA,(ep.mp ae).symm▸c,hd⟩⟩
 ·exact kX.ofWalks W (λi h st b ae=>fU (j i h st) λo bA e Z n=>⟨o,bA,(ep.mp ae).symm▸e,n⟩) d3 λi v s E Q st q=>fU (j i _ st) λo bA e ag hd=>YY r e ag hd m q
 ·refine (eo.mp ae).elim (λz=>z.symm▸⟨⟨o,c⟩,vp,λZ=> .inl (ep.mpr rfl)⟩) λae=> ?_
  have h:=x b ae
  exact h.1.elim λl k=>⟨⟨l,a b l k⟩,h.2.1,λz=> .inr λq=>q.elim (h.2.2 z) λz=>nn (eG.symm.trans (z▸k))⟩
end
section
variable {T:cA} {g:G} {s:aH}
theorem LO (aX:IsL g.B g.aD s.heap l vs) (a:dI s.heap h') (eG:s.heap.get? ak=ah) {i:Nat} {p:U} {v:az} {bk:G} {h:bU} (aI:l[i]?=I p) (aN:vs[i]?=I v)
  (bJ:cS (g.plus ak).B h' bk.B h) (c: ∃more,bk.aD=g.aD++more):Is bk.B bk.aD h p v:=by
 obtain ⟨u,b0,b⟩:=aX.get aI
 rw[aN] at b0;cases b0
 obtain ⟨more,e⟩:=c
 rw[e]
 exact b.bJ ((cS.plus (g:=g) a eG).trans bJ) more
theorem Walks.cast {P:Nat→az→Prop} {St:Nat→bU→Prop} (W:Walks T.prog T.w A ak du wr n P St) (h:n=m):Walks T.prog T.w A ak du wr m P St:=h▸W
theorem aaI {own:Bool} {l:List U} {v:az} (cC:A.handled=ah) (d:aW T g w s) (c3:Lk T g s.heap (.list l) v) (ae:own=aq→Is g.B g.aD s.heap (.list l) v) (x:(isName tgt||kD tgt)=ab):
  aS T A (pyIter v) g s (iV T A own tgt s w l):=by
 obtain ⟨a,vs,rfl,c,aX⟩:=c3.rk
 intro E Q k
 refine I1 c.eW ?_
 have el:a≠s.heap.objs.size:=by obtain ⟨o,f,_⟩:=c;exact hg (iA f)
 have W:=Walks.cast (Walks.list (prog:=T.prog) (w:=T.w) (A:=A) cC s.heap.objs.size a el vs.toArray) (m:=l.length) (by rw[eK,aX.length])
 have j: ∀b o,s.heap.get? b=I o→(s.heap.push {cls:= .type "list_iterator",data:= .fields #[.ref a,.int 0 0]}).get? b=I o:=λb o e=>dE _ e
 have C: ∀b∈[a],(∃o,s.heap.get? b=I o)∧ ¬et T.dZ g.aD b∧(own=aq→ ¬g.B b):=λb n=>by
  rw[ep] at n
  subst n
  obtain ⟨o,r⟩:=id c
  have f:=r.1
  refine ⟨⟨o,f⟩,?_,λz=> ?_⟩
  ·cases c3 with
   |of i=>cases i with|list nb _ _=>exact λq=>nb (d.dG _ q)
   |own ck _ _=>exact ck.2
  ·cases ae z with|list nb _ _=>exact nb
 obtain ⟨t1,u⟩:=xY (own:=own) (ty:="list_iterator") (tgt:=tgt) (items:=l) (ax:=[a]) (t:=s.toks) d _ s.heap.objs.size (i? _) j (d9 _ rfl) rfl (bh _) W ⟨⟨_,d9 _ rfl,rfl,rfl⟩,c.eW.push _⟩
  (λi h st=>let ⟨o,e,ag,hd⟩:=st.1;⟨o,_,e,ag,hd⟩) ar x C (λi p v bk h aI eX bJ y=>LO aX j (i? _) aI (by simpa using eX) bJ y)
 exact k _ _ _ t1 u
set_option tactic.hygienic true in
theorem aaN {own:Bool} {l:List U} {v:az} (cC:A.handled=ah) (d:aW T g w s) (y:Is g.B g.aD s.heap (.tup l) v) (x:(isName tgt||kD tgt)=ab):
  aS T A (pyIter v) g s (iV T A own tgt s w l):=by
 cases y with
 |tup nb c aX=>
  rename_i a vs
  intro E Q k
  refine wpAny_pyIter_tuple c ?_
  have el:a≠s.heap.objs.size:=by obtain ⟨o,f,_⟩:=c;exact hg (iA f)
  have W:=Walks.cast (Walks.tuple (prog:=T.prog) (w:=T.w) (A:=A) cC s.heap.objs.size a el vs.toArray) (m:=l.length) (by rw[eK,aX.length])
  have n: ∀b o,s.heap.get? b=I o→(s.heap.push {cls:= .type "tuple_iterator",data:= .fields #[.ref a,.int 0 0]}).get? b=I o:=λb o e=>dE _ e
  have C: ∀b∈[a],(∃o,s.heap.get? b=I o)∧ ¬et T.dZ g.aD b∧(own=aq→ ¬g.B b):=λb r=>by
   rw[ep] at r
   subst r
   obtain ⟨o,j⟩:=id c
   have f:=j.1
   exact ⟨⟨o,f⟩,λq=>nb (d.dG _ q),λ_=>nb⟩
  obtain ⟨t1,u⟩:=xY (own:=own) (ty:="tuple_iterator") (tgt:=tgt) (items:=l) (ax:=[a]) (t:=s.toks) d _ s.heap.objs.size (i? _) n (d9 _ rfl) rfl (bh _) W ⟨⟨_,d9 _ rfl,rfl,rfl⟩,c.push _⟩
   (λi h st=>let ⟨o,e,ag,hd⟩:=st.1;⟨o,_,e,ag,hd⟩) ar x C (λi p v bk h aI eX bJ z=>LO aX n (i? _) aI (by simpa using eX) bJ z)
  exact k _ _ _ t1 u
theorem aaM {own:Bool} (cC:A.handled=ah) (d:aW T g w s) (q:Is g.B g.aD s.heap (.str x) v) (m:(isName tgt||kD tgt)=ab):
  aS T A (pyIter v) g s (iV T A own tgt s w (x.cps.toList.map λc=> .str ⟨#[c]⟩)):=by
 cases q with
 |str _ t=>
  intro E Q k
  have a:x.cps.size=(x.cps.toList.map λc=>U.str ⟨#[c]⟩).length:=by simp
  have d3: ∀(i:Nat) p v (bk:G) (h:bU),(x.cps.toList.map λc=>U.str ⟨#[c]⟩)[i]?=I p→SignAt x i v→Is bk.B bk.aD h p v:=by
   rintro i p v bk h aI ⟨c,u,ag,rfl⟩
   rw[mj] at aI
   have n:x.cps.toList[i]?=I c:=by simpa using ag
   rw[n] at aI;cases aI
   exact .str _ _
  have l: ∀ty,∀b o,s.heap.get? b=I o→(s.heap.push {cls:= .type ty,data:= .fields #[.str x t,.int 0 0]}).get? b=I o:=λty b o e=>dE _ e
  cases aJ:x.cps.all (·<128)
  ·refine wpAny_pyIter_wide aJ ?_
   obtain ⟨t1,f⟩:=xY (own:=own) (ty:="str_iterator") (tgt:=tgt) (items:=x.cps.toList.map λc=> .str ⟨#[c]⟩) (ax:=[]) (t:=s.toks) d _ s.heap.objs.size (i? _) (l "str_iterator") (d9 _ rfl) rfl (bh _)
    (Walks.cast (Walks.strWide (A:=A) cC s.heap.objs.size x t) a) ⟨_,d9 _ rfl,rfl,rfl⟩ (λi h st=>let ⟨o,e,ag,hd⟩:=st;⟨o,_,e,ag,hd⟩) ar m (λb j=>nomatch j) (λi p v bk h aI eX bJ r=>d3 i p v bk h aI eX)
   exact k _ _ _ t1 f
  ·refine wpAny_pyIter_ascii aJ ?_
   obtain ⟨t1,f⟩:=xY (own:=own) (ty:="str_ascii_iterator") (tgt:=tgt) (items:=x.cps.toList.map λc=> .str ⟨#[c]⟩) (ax:=[]) (t:=s.toks) d _ s.heap.objs.size (i? _) (l "str_ascii_iterator") (d9 _ rfl) rfl (bh _)
    (Walks.cast (Walks.strAscii (A:=A) cC s.heap.objs.size x t) a) ⟨_,d9 _ rfl,rfl,rfl⟩ (λi h st=>let ⟨o,e,ag,hd⟩:=st;⟨o,_,e,ag,hd⟩) ar m (λb j=>nomatch j) (λi p v bk h aI eX bJ r=>d3 i p v bk h aI eX)
   exact k _ _ _ t1 f
theorem aaK {own:Bool} {a b:Int} (cC:A.handled=ah) (d:aW T g w s) (b8:IsRange s.heap r a b 1 t u z) (aJ:small a=ab) (ae:small b=ab) (C:(isName tgt||kD tgt)=ab):
  aS T A (pyIter (.ref r)) g s (iV T A own tgt s w (intsFrom a (b-a).toNat)):=by
 intro E Q k
 have J:=jH aJ
 have aa:=jH ae
 refine wpAny_pyIter_range b8 (small_one (Di (uq ar (nb J).1)) (uq (nb J).2 ar) (Di (uq ar (nb aa).1)) (uq (nb aa).2 ar)) ?_
 have q: ∀l o,s.heap.get? l=I o→(s.heap.push {cls:= .type "range_iterator",data:= .fields #[rawInt a,rawInt (Ry a b 1),rawInt 1]}).get? l=I o:=λb o e=>dE _ e
 have c:(b-a).toNat=(intsFrom a (b-a).toNat).length:=by simp[intsFrom]
 have H:IsRangeIter (s.heap.push {cls:= .type "range_iterator",data:= .fields #[rawInt a,rawInt (Ry a b 1),rawInt 1]}) s.heap.objs.size (a+((0:Nat):Int)*1) (((b-a).toNat:Int)-((0:Nat):Int)) 1:=by
  have m:a+((0:Nat):Int)*1=a:=by simp
  have n:((b-a).toNat:Int)-((0:Nat):Int)=Ry a b 1:=by rw[rangeSize_nat];rfl
  rw[m,n]
  exact d9 _ rfl
 have d3: ∀(i:Nat) p v (bk:G) (h:bU),(intsFrom a (b-a).toNat)[i]?=I p→(∃t,v= .int (a+i*1) t)→Is bk.B bk.aD h p v:=by
  rintro i p v bk h aI ⟨L,rfl⟩
  unfold intsFrom at aI
  rw[mj] at aI
  obtain ⟨j,x,rfl⟩:=t5.mp aI
  obtain ⟨ay,f⟩:=hh.mp x
  rw[List.getElem_range] at f
  subst f
  rw[Rz]
  exact .int _ _
 obtain ⟨t1,y⟩:=xY (own:=own) (ty:="range_iterator") (tgt:=tgt) (items:=intsFrom a (b-a).toNat) (ax:=[]) (t:=s.toks) d _ s.heap.objs.size (i? _) q (d9 _ rfl) rfl (bh _)
  (Walks.cast (Walks.range (A:=A) cC s.heap.objs.size a 1 (b-a).toNat) c) H (λi h st=>⟨_,_,st,rfl,rfl⟩) ar C (λb D=>nomatch D) (λi p v bk h aI eX bJ M=>d3 i p v bk h aI eX)
 exact k _ _ _ t1 y
end
section
variable {T:cA} {A:eU} {g:G} {w:W} {s:aH} {n:Nat}
theorem aS.dropped (d:aW T g w s)
  (h: ∀(E:az→aH→Prop) (Q:az→aH→Prop),(∀v h' aG,(dI s.heap h')→(∀f,Is g.B g.aD f r v)→Q v {s with heap:=h',toks:=aG})→aU T.mo A t Q E s):aS T A t g s (Res T w r):=
 λE Q k=>j0 (bh _) (h (λe s'=>s.toks≤s'.toks→E e s') (λa s'=>s.toks≤s'.toks→Q a s') λv h' aG c i b=>
  k g _ v (.grow (dr:=s.drawn) c b) ⟨d.grow c b,i h'⟩)
theorem IsL.sums: ∀{vs:List az} {n:Int},IsL B aD h l vs→o! l=I n→ ∃ns:List Int,IntsAre vs ns∧ns.sum=n:=by
 induction l with
 |nil=>exact λx e=>x.jd▸⟨[],.nil,inj e⟩
 |cons p l a=>
  exact λx e=>aO e λi aI e=>i! e λm hm e=>fU x.hy λu vs eu c r=>cM (a r hm) λns J aa=>gj (nu aI▸c:Is B aD h (.int i) u).md λt b=>⟨i::ns,eu▸b▸ .cons _ _ J,by rw[RA,aa,e]⟩
theorem ae5 (ns:List Int):preSum (λi=>ns.getD i 0) ns.length=ns.sum:=by
 have key: ∀k,k≤ns.length→preSum (λi=>ns.getD i 0) k=(ns.take k).sum:=by
  intro k
  induction k with
  |zero=>intro _;simp[preSum]
  |succ k a=>
   intro av
   rw[preSum,a (by exact hA av),RB (by exact RC av),List.sum_append]
   simp[aj2,ly (show k<ns.length by exact RC av)]
 rw[key _ (bh _),RD]
theorem aaw (h:IntsAre vs ns): ∀{i:Nat} {v:az},vs[i]?=I v→ ∃t,v= .int (ns.getD i 0) t:=by
 induction h with
 |nil=>intro i v e;simp at e
 |cons a b h c=>
  intro i v e
  induction i using fJ with
  |zero=>simp at e;subst e;exact ⟨b,by rfl⟩
  |succ i=>obtain ⟨t,d⟩:=c (i:=i) (by simpa using e);exact ⟨t,by simpa using d⟩
theorem VC (val:Nat→UInt64) (c: ∀i v,P i v→ ∃t,v= .float (val i) t):CmpOf T.prog T.w A .Gt P (λi j=>oE (val i) (val j)):=λi j e d s Q E aI f h=>by
 obtain ⟨t,rfl⟩:=c i e aI
 obtain ⟨u,rfl⟩:=c j d f
 exact ajM (prog:=T.prog) (w:=T.w) (a:=val i) (b:=val j) (t:=t) (u:=u) h
theorem VD {P:Nat→az→Prop} (val:Nat→UInt64) (c: ∀i v,P i v→ ∃t,v= .float (val i) t):CmpOf T.prog T.w A .Lt P (λi j=>xj (val i) (val j)):=λi j e d s Q E aI f h=>by
 obtain ⟨t,rfl⟩:=c i e aI
 obtain ⟨u,rfl⟩:=c j d f
 exact ajL (prog:=T.prog) (w:=T.w) (a:=val i) (b:=val j) (t:=t) (u:=u) h
theorem T! (bt:Nat→Nat→Bool):argBest bt 2=if bt 2 (if bt 1 0 then 1 else 0) then 2 else (if bt 1 0 then 1 else 0):=by rfl
noncomputable def three (a b c:UInt64):Nat→UInt64:=λi=>if i=0 then a else if i=1 then b else c
theorem CM {i:Nat} (h:(#[Value.float a t,.float b u,.float c x]:Array az)[i]?=I v): ∃k,v= .float (three a b c i) k∧(k=t∨k=u∨k=x):=by
 match i,h with
 |0,h=>cases h;exact ⟨t,rfl,.inl rfl⟩
 |1,h=>cases h;exact ⟨u,rfl,.inr (.inl rfl)⟩
 |2,h=>cases h;exact ⟨x,rfl,.inr (.inr rfl)⟩
 |i+3,h=>simp at h
theorem N2 {a b c:az} {op:oa} (cC:A.handled=ah) {E:az→aH→Prop} {Q:az→aH→Prop} (bt:Nat→Nat→Bool) (ag:CmpOf T.prog T.w A.in1 op (λi v=>(#[a,b,c]:Array az)[i]?=I v) bt)
  (q: ∀v h' aG,(#[a,b,c]:Array az)[argBest bt 2]?=I v→(dI s.heap h')→Q v {s with heap:=h',toks:=aG}):
  aU T.mo A.in1 (pyIter (.ref s.heap.objs.size)) (λit bf=> ∃ak du wr n P St bt,it= .ref ak∧Walks T.prog T.w A.in1 ak du wr n P St∧St 0 bf.heap∧(∀b∈du,b<bf.heap.objs.size)∧0<n∧CmpOf T.prog T.w A.in1 op P bt∧
   ∀v h' aG,P (argBest bt (n-1)) v→(∀b o,b∉wr→bf.heap.get? b=I o→h'.get? b=I o)→Q v {bf with heap:=h',toks:=aG}) E
   {s with heap:=s.heap.push {cls:= .type "tuple",data:= .seq #[a,b,c]}}:=by
 have bZ:(s.heap.push {cls:= .type "tuple",data:= .seq #[a,b,c]}).IsTuple s.heap.objs.size #[a,b,c]:=⟨_,d9 _ rfl,rfl,0,rfl⟩
 refine wpAny_pyIter_tuple bZ ?_
 have hsz:(s.heap.push {cls:= .type "tuple",data:= .seq #[a,b,c]}).objs.size=s.heap.objs.size+1:=hb ..
 refine ⟨_,[_,s.heap.objs.size],[_],_,_,_,bt,rfl,Walks.tuple (A:=A.in1) cC _ s.heap.objs.size (by rw[hsz];exact hg (gv _)) #[a,b,c],
  ⟨⟨_,d9 _ rfl,rfl,rfl⟩,bZ.push _⟩,λd hd=> ?_,by exact aj3 rfl,ag,λv h' aG d3 av=> ?_⟩
 ·skip
  rw[hb,hsz]
  rcases eo.mp hd with rfl|hd
  ·rw[hsz];exact gv _
  ·rcases eo.mp hd with rfl|hd
   ·exact m? (gv _)
   ·cases hd
 ·refine q v h' aG d3 λd o e=> ?_
  refine av d o (λhm=> ?_) (dE _ (dE _ e))
  rcases eo.mp hm with f|hm
  ·have:=iA e;rw[f,hsz] at this;exact lz _ (D3 this)
  ·cases hm
theorem iF.hy (aX:iF T g h (p::l) us): ∃u vs,us=u::vs∧Lk T g h p u∧iF T g h l vs:=by
 cases aX with|cons x r=>exact ⟨_,_,rfl,x,r⟩
theorem iF.one (aX:iF T g h [p] us): ∃u,us=[u]∧Lk T g h p u:=fU aX.hy λu vs e x r=>⟨u,by cases r;exact e,x⟩
theorem iF.three (aX:iF T g h [a,b,c] us): ∃u v z,us=[u,v,z]∧Lk T g h a u∧Lk T g h b v∧Lk T g h c z:=
 fU aX.hy λu vs e x r=>fU r.hy λv vs d y r=>cM r.one λz f r=>⟨u,v,z,f▸d▸e,x,y,r⟩
theorem P4 (F:UInt64→UInt64→Bool):three a b c (argBest (λi j=>F (three a b c i) (three a b c j)) 2)=(let m:=if F b a then b else a;if F c m then c else m):=by
 rw[T!]
 show three a b c (if F c (three a b c (if F b a then 1 else 0)) then 2 else if F b a then 1 else 0)=if F c (if F b a then b else a) then c else if F b a then b else a
 cases F b a with
 |true=>exact apply_ite ..
 |false=>exact apply_ite ..
theorem Qc (h:Io ps=I x):ps=[.aj x.1,.aj x.2.1,.aj x.2.2]:=by
 induction ps using cj with
 |nil=>exact aR h
 |cons a r=>
  induction r using cj with
  |nil=>exact aR h
  |cons b r=>
   induction r using cj with
   |nil=>exact aR h
   |cons c r=>
    induction r using cj with
    |nil=>exact aO h λp J h=>aO h λq aa h=>aO h λr ay h=>by rw[←inj h,wM J,wM aa,wM ay]
    |cons=>exact aR h
theorem ab8 (h:NB ps=I r) (d:aW T g w s) (aX:iF T g s.heap ps us):aS T A (call (.builtin "len") us []) g s (Res T w r):=
 aO h λv aN J=>aO J λm hm aa=>by
  clear h J
  obtain rfl:=qu aN
  obtain ⟨u,rfl,x⟩:=aX.one
  have b:=cu aa
  refine inj (cy aa)▸ .val d λE Q k=> ?_
  have is:=x.is (p:=v)
  induction v using U.casesOn with
  |str y=>
   obtain ⟨t,rfl⟩:=(is nofun).h9
   exact P.len_str (r6.mpr (BA (cG (dH (inj hm)) b))) (inj hm▸k _ _ (.int _ _))
  |list l=>
   obtain ⟨a,vs,rfl,c,ill⟩:=x.rk
   have e:vs.toArray.size=m:=(eK ..).trans (ill.length.symm.trans (inj hm))
   exact call_len_list c.eW (BA (cG (dH e) b)) (e▸k _ _ (.int _ _))
  |tup l=>
   obtain ⟨a,vs,rfl,c,ill⟩:=(is nofun).Qh
   have e:vs.toArray.size=m:=(eK ..).trans (ill.length.symm.trans (inj hm))
   exact len_tuple c (BA (cG (dH e) b)) (e▸k _ _ (.int _ _))
  |_=>exact aR hm
theorem ahZ (cC:A.handled=ah) (h:PN ps=I r) (d:aW T g w s) (aX:iF T g s.heap ps us):aS T A (call (.builtin "sum") us []) g s (Res T w r):=
 aO h λv aN J=>aO J λl c aa=>i! aa λm hm e=>by
  clear h J aa
  obtain rfl:=qu aN
  obtain rfl:=zQ c
  obtain ⟨u,rfl,x⟩:=aX.one
  obtain ⟨a,vs,rfl,c,ill⟩:=x.rk
  refine e▸cM (ill.sums hm) λns aI au=> .dropped d λE Q k=>call_sum_walkG (I1 c.eW ?_)
  have f:a<s.heap.objs.size:=c.elim λo p=>iA p.1
  refine ⟨_,[_,a],[_],_,_,_,λi=>ns.getD i 0,rfl,Walks.list (A:=A.in1) cC _ a (hg f) vs.toArray,⟨⟨_,d9 _ rfl,rfl,rfl⟩,c.eW.push _⟩,λb ae=> ?_,λi v eX=>aaw aI (by simpa using eX),λh' aG q j=> ?_⟩
  ·rw[hb]
   exact (eo.mp ae).elim (λe=>e▸gv _) λae=>ep.mp ae▸m? f
  ·rw[eK,aI.length,ae5,au]
   exact k _ h' aG (λb o e=>j b o (λz=>hg (iA e) (ep.mp z)) (dE _ e)) λZ=> .int _ _
theorem aau (h:Nd ps=I r) (d:aW T g w s) (aX:iF T g s.heap ps us):aS T A (call (.type "int") us []) g s (Res T w r):=
 aO h λv aN J=>aO J λx af aa=>by
  clear h J
  obtain rfl:=qu aN
  obtain rfl:=wM af
  obtain ⟨u,rfl,x⟩:=aX.one
  obtain ⟨t,rfl⟩:=(x.is nofun).v9
  unfold truncF at aa
  split at aa
  ·rename_i hd
   exact .val d λE Q k=>call_int_float hd (k _ _ (.gd (.int _ _) aa))
  ·exact aR aa
theorem Tw (h:JX ps=I r) (d:aW T g w s) (aX:iF T g s.heap ps us):aS T A (call (.builtin "abs") us []) g s (Res T w r):=
 aO h λv aN J=>i! J λi aI e=>by
  clear h J
  obtain rfl:=qu aN
  obtain rfl:=nu aI
  obtain ⟨u,rfl,x⟩:=aX.one
  obtain ⟨t,rfl⟩:=(x.is nofun).md
  exact e▸ .val d λE Q k=>call_abs_int λu aG=>k _ _ (.int _ _)
theorem acH {ps:List U} {r:U} {us:List az} (cC:A.handled=ah) (h:NW ps=I r) (d:aW T g w s) (aX:iF T g s.heap ps us):aS T A (call (.builtin "max") us []) g s (Res T w r):=
 aO h λ⟨a,b,c⟩ af J=>by
  clear h
  obtain rfl:=Qc af
  obtain ⟨u,v,z,rfl,x,y,z⟩:=aX.three
  obtain ⟨t,rfl,p⟩:=(x.is nofun).v'
  obtain ⟨u,rfl,l⟩:=(y.is nofun).v'
  obtain ⟨v,rfl,nv⟩:=(z.is nofun).v'
  refine inj J▸ .dropped d λE Q k=>call_max_three (N2 cC (λi j=>oE (three a b c i) (three a b c j)) (VC (three a b c) λi v h=>let ⟨k,e,_⟩:=CM h;⟨k,e⟩) λv h' aG o f=>k v h' aG f λq=> ?_)
  obtain ⟨dQ,rfl,m⟩:=CM o
  exact P4 oE▸ .aj _ _ (m.elim (λe=>e▸p) λe=>e.elim (λe=>e▸l) λe=>e▸nv)
theorem acR {ps:List U} {r:U} {us:List az} (cC:A.handled=ah) (h:N1 ps=I r) (d:aW T g w s) (aX:iF T g s.heap ps us):aS T A (call (.builtin "min") us []) g s (Res T w r):=
 aO h λ⟨a,b,c⟩ af J=>by
  clear h
  obtain rfl:=Qc af
  obtain ⟨u,v,z,rfl,x,y,z⟩:=aX.three
  obtain ⟨t,rfl,p⟩:=(x.is nofun).v'
  obtain ⟨u,rfl,l⟩:=(y.is nofun).v'
  obtain ⟨v,rfl,nv⟩:=(z.is nofun).v'
  refine inj J▸ .dropped d λE Q k=>call_min_three (N2 cC (λi j=>xj (three a b c i) (three a b c j)) (VD (three a b c) λi v h=>let ⟨k,e,_⟩:=CM h;⟨k,e⟩) λv h' aG o f=>k v h' aG f λq=> ?_)
  obtain ⟨dQ,rfl,m⟩:=CM o
  exact P4 xj▸ .aj _ _ (m.elim (λe=>e▸p) λe=>e.elim (λe=>e▸l) λe=>e▸nv)
def JI (T:cA) (f:Str) (ps:List U) (r:U):Prop:=
 ∃b,bootBuiltins f=I b∧T.eh f=ah∧((∃a,b= .builtin a)∨ ∃t,b= .type t)∧f≠("__name__":Str)∧ ∀{A:eU} {g:G} {w:W} {s:aH} {us:List az},A.handled=ah→aW T g w s→iF T g s.heap ps us→aS T A (call b us []) g s (Res T w r)
theorem uD (d:dX f y=ab) (J:bootBuiltins (ao y)=I b) (aa:(["len","sum","max","min","abs","int","range","enumerate","sorted","set","iter"]:List Str).contains (ao y)=ab)
  (ay:(∃e,b= .builtin e)∨ ∃t,b= .type t) (a:ao y≠("__name__":Str)) (c: ∀{A:eU} {g:G} {w:W} {s:aH} {us:List az},A.handled=ah→aW T g w s→iF T g s.heap ps us→aS T A (call b us []) g s (Res T w r)):JI T f ps r:=
 jv d▸⟨b,J,T.uE _ aa,ay,a,c⟩
theorem Uz (h:fO f ps=I r):JI T f ps r:=
 g6 h (λa h=>uD a aY bx (.inl ⟨_,rfl⟩) bx λZ d aX=>ab8 h d aX) λZ h=>
 g6 h (λa h=>uD a aY bx (.inl ⟨_,rfl⟩) bx λcC d aX=>ahZ cC h d aX) λZ h=>
 g6 h (λa h=>uD a aY bx (.inr ⟨_,rfl⟩) bx λcC d aX=>aau h d aX) λZ h=>
 g6 h (λa h=>uD a aY bx (.inl ⟨_,rfl⟩) bx λcC d aX=>acH cC h d aX) λZ h=>
 g6 h (λa h=>uD a aY bx (.inl ⟨_,rfl⟩) bx λcC d aX=>acR cC h d aX) λZ h=>
 g6 h (λa h=>uD a aY bx (.inl ⟨_,rfl⟩) bx λZ d aX=>Tw h d aX) λZ h=>aR h
end
section
variable {s:aH}
open PySem.Builtin PySem.Builtin.Str in
theorem YX (x y:Str) (i j:Int) (t u v z:Tok):Gives («str.find» ⟨[.str x t,.str y u,.int i v,.int j z],[]⟩) (.int (match occurrences x y (fromIndex x.length i) (min (fromIndex x.length j) x.length) 1 with|k::_=>(k:Int)|[]=> -1)):=by
 show Gives (match occurrences x y (fromIndex x.length i) (min (fromIndex x.length j) x.length) 1 with|k::_=>retInt k|[]=>(do rule "str.find.not-found";retInt (-1))) _
 cases occurrences x y (fromIndex x.length i) (min (fromIndex x.length j) x.length) 1 with
 |nil=>exact .rule (.of_eq rfl)
 |cons k _=>exact .of_eq rfl
theorem IsL.strs: ∀{vs:List az} {ts:List Str},IsL B aD h l vs→rD l=I ts→ ∃l':List (Str×Tok),vs=strValues l'∧l'.map (·.1)=ts:=by
 induction l with
 |nil=>exact λx e=>⟨[],x.jd,inj e⟩
 |cons p l a=>
  exact λx e=>aO e λy a9 e=>i! e λm hm e=>fU x.hy λu vs eu c r=>cM (a r hm) λl' J aa=>gj (om a9▸c:Is B aD h (.str y) u).h9 λt b=>⟨(y,t)::l',by rw[eu,b,J];rfl,by rw[iR,aa,e]⟩
def uz (T:cA) (m:Str) (x:U) (ps:List U) (r:U):Prop:=
 ∃ty b,PlainAttrs ty∧_root_.PySem.Slot ty m b∧typeOf (.builtin b)=pure (.type "method_descriptor")∧
  (∀{g:G} {h:bU} {v:az} {s:aH},s.heap=h→Lk T g h x v→s.TypeIs v ty∧ ∀a,v= .ref a→ ∃c,h.get? a=I c∧c.dict=ah)∧
  (∀{n:Nat} {A:eU} {g:G} {s:aH} {w:W} {v:az} {us:List az},Room (n+8) A→aW T g w s→Lk T g s.heap x v→iF T g s.heap ps us→aS T A (call (.builtin b) (v::us) []) g s (Res T w r))
theorem Ib {s:aH} (e:s.heap=h) (l:Lk T g h (.str x) v):s.TypeIs v "str"∧ ∀a,v= .ref a→ ∃b,h.get? a=I b∧b.dict=none:=by
 cases l.is (by nofun)
 exact ⟨t7 _ _ _,λa q=>by cases q⟩
theorem aco {s:aH} (e:s.heap=h) (l:Lk T g h (.list x) v):s.TypeIs v "list"∧ ∀a,v= .ref a→ ∃d,h.get? a=I d∧d.dict=none:=by
 subst e
 obtain ⟨a,vs,rfl,c,_⟩:=l.rk
 refine ⟨c.eW.typeIs,λb q=> ?_⟩
 cases q
 obtain ⟨o,e,_,n,q⟩:=c
 exact ⟨o,e,by rw[q]⟩
theorem TK (h:J4 ps=I x):ps=[.str x.1,.int x.2.1,.int x.2.2]:=by
 induction ps using cj with
 |nil=>exact aR h
 |cons a r=>
  induction r using cj with
  |nil=>exact aR h
  |cons b r=>
   induction r using cj with
   |nil=>exact aR h
   |cons c r=>
    induction r using cj with
    |nil=>exact aO h λp J h=>aO h λq aa h=>aO h λr ay h=>by rw[←inj h,om J,nu aa,nu ay]
    |cons=>exact aR h
theorem Hh {m:Str} {y:String} {b:String} {x z:Str} {r q:U} (j:dX m y=ab) (J:_root_.PySem.Slot "str" (ao y) b) (aa:typeOf (.builtin b)=pure (.type "method_descriptor"))
  (h:I q=I r) (c: ∀{A:eU} {s:aH} {t u:Tok} {E Q:az→aH→Prop},(∀v aG,(∀B aD h,Is B aD h q v)→Q v {s with toks:=aG})→aU T.mo A (call (.builtin b) [.str x t,.str z u] []) Q E s):uz T m (.str x) [.str z] r:=
 jv j▸inj h▸⟨"str",b,I4,J,aa,Ib,λb7 d c3 aX=>cM aX.one λu e a=>gj (c3.is nofun).h9 λt g=>gj (a.is nofun).h9 λl f=> .val d λE Q k=>g▸e▸f▸c λv aG i=>k v aG (i _ _ _)⟩
theorem acP (p:dX m "join"=ab) (h:joinM x l=I r):uz T m (.str x) [.list l] r:=
 aO h λts y h=>jv p▸inj (cy h)▸⟨"str","str.join",I4,F.slot_str_join,F.type_str_join,Ib,λ{n A g s w v us} b7 d c3 aX=>cM aX.one λu e a=>gj (c3.is nofun).h9 λt o=>
  fU a.rk λc vs f i b=>cM (b.strs y) λl' q j=> .val d λE Q k=>o▸e▸f▸SC.join (q▸i.eW) j (cu h) λz aG=>k _ _ (.str _ _)⟩
theorem acN (f:dX m "find"=ab) (h:Lx x q=I r):uz T m (.str x) [.str q.1,.int q.2.1,.int q.2.2] r:=
 jv f▸inj h▸⟨"str","str.find",I4,F.slot_str_find,F.type_str_find,Ib,λ{n A g s w v us} b7 d c3 aX=>by
  obtain ⟨a,b,c,rfl,eb,e,i⟩:=aX.three
  obtain ⟨_,rfl⟩:=(c3.is nofun).h9
  obtain ⟨_,rfl⟩:=(eb.is nofun).h9
  obtain ⟨_,rfl⟩:=(e.is nofun).md
  obtain ⟨_,rfl⟩:=(i.is nofun).md
  exact .val d λE Q k=>call_gives F.slot_str_find (t7 _ _ _) F.entry_str_find (F.args_str_find_4 _ _ _ _) (YX _ _ _ _ _ _ _ _) (k _ _ (.int _ _))⟩
theorem aaa {G:Prop} (h:GC n a b=I j) (k: ∀d c,a=I d→b=I c→shaped d=ab→shaped (.list c)=ab→n≤1048576→(c.findIdx? λy=>lu y d)=I j→G):G:=by
 induction a using d5 with
 |none=>exact aR h
 |some d=>induction b using d5 with
  |none=>exact aR h
  |some c=>
   have au:=je.mp (cu h)
   have e:=je.mp au.1
   exact k d c rfl rfl e.1 e.2 (jH au.2) (cy h)
theorem acO {l:List U} (R:dX m "index"=ab) (h:((idxOf y l).map λ(n:Nat)=>U.int n)=I r):uz T m (.list l) [y] r:=
 i! h λj O e=>aaa O λdx i H L C D μ Y=>jv R▸e▸⟨"list","list.index",I5,aj4,F.type_list_index,aco,λ{n A g s w v us} b7 d c3 aX=>by
  obtain ⟨u,rfl,a⟩:=aX.one
  obtain ⟨c,vs,rfl,M,ill⟩:=c3.rk
  refine gj (a.reads H) λas X=>gj (IsL.reads ill L) λbs fZ=>cM M λo z ag=>h! ag.2 λnn Z=> ?_
  have p:I6 i=true:=y7 D
  have b0:=b7.units
  have t:=readsAll_map i vs bs p fZ
  have f:=aj5.mp Y
  have b:vs.length=i.length:=by rw[←t,df]
  have x: ∀(k:Nat) (J:k<vs.length) (aa:k<i.length),readOf s.heap vs[k]=i[k]:=λk J aa=>by
   have:=aQ (·[k]?) t
   simp only[mj,ly J,ly aa,aj6,RE] at this
   exact this
  subst Z
  refine .val d λE Q k=>y9 aj4 ⟨_,z,rfl⟩ F.entry_list_index (F.args_list_index_2 _ _)
   (list_indexAt c vs.toArray nn ah #[] _ (λy=>lu (readOf s.heap y) dx) j (by rw[eK,b];exact f.elim λq _=>q) (JB (j5.mpr (cG (iS (f.elim λq _=>q)) (cG (dH (b.symm.trans ill.length.symm)) μ))) (bx:((1048576:Nat):Int)<2^63-1)) ?_ λm hm P=> ?_) ⟨z,items_eqAt (by simpa using fZ) X p (y7 C) (Ro C (by exact bE (e8 b0))),k _ _ (.int _ _)⟩
  ·exact (aQ (lu · dx) (x j (by rw[b];exact f.elim λq _=>q) (f.elim λq _=>q))).trans (f.elim λ_ q=>q.1)
  ·have hm:m<vs.length:=by rw[←eK];exact hm
   exact (aQ (lu · dx) (x m hm (by rw[←b];exact hm))).trans (any_false (f.elim λ_ q=>q.2 m P))⟩
theorem acL (h:methP m x ps=I r):uz T m x ps r:=
 g6 h (λa h=>aO h λl b h=>aO h λy a9 h=>zQ b▸qu a9▸acO a h) λZ h=>
 aO h λx af h=>om af▸g6 h (λa h=>aO h λq c h=>TK c▸acN a h) λZ h=>
 aO h λy a9 h=>qu a9▸g6 h (λa h=>aO h λl b h=>zQ b▸acP a h) λZ h=>
 aO h λz bH h=>om bH▸g6 h (λa h=>Hh a F.slot_str_startswith F.type_str_startswith h λ{A s t u E Q} k=>SC.startswith (k _ s.toks λZ Z Z=> .bool _)) λZ h=>
 g6 h (λa h=>Hh a F.slot_str_endswith F.type_str_endswith h λ{A s t u E Q} k=>SC.endswith (k _ s.toks λZ Z Z=> .bool _)) λZ h=>
 g6 h (λa h=>Hh a F.slot_str_count F.type_str_count h λk=>SC.count (k _ _ λZ Z Z=> .int _ _)) λZ h=>aR h
end
theorem Ao: ∀{n:Nat} {es:List Expr} {w:W} {r:List U×W} (pos:Pos),e4 n cx es σ w=I r→(backTo pos (starEach es env)).any (·.1)=false:=by
 intro n
 induction n with
 |zero=>intro _ _ _ _ h;exact aR h
 |succ n a=>
  intro es w r pos h
  cases es with
  |nil=>rfl
  |cons e es=>exact aO h λx J h=>aO h λy aa h=>qA (es:=es) (env:=env) (Ap J)▸a pos aa
theorem OH: ∀{n:Nat} {es:List Expr} {w:W} {r:List U×W} (pos:Pos),iN n cx es σ w=I r→(backTo pos (starEach es env)).any (·.1)=false:=by
 intro n
 induction n with
 |zero=>intro _ _ _ _ h;exact aR h
 |succ n a=>
  intro es w r pos h
  cases es with
  |nil=>rfl
  |cons e es=>exact aO h λx J h=>aO h λy aa h=>qA (es:=es) (env:=env) (OI J)▸a pos aa
theorem sj (aC:trees.any (·.1)=aq) (h:aS T A (spliced trees) g s P) {E:az→aH→Prop} {Q:Args→aH→Prop}
  (q: ∀g' s' us,bW T g s g' s'→P g' s' us→Q ⟨us,[]⟩ s'):aU T.mo A (evalArgs f ab trees []) Q E s:=by
 induction trees using cj with
 |nil=>
  refine aw (h E _ λg' s' us x y=>aw (bj ?_))
  refine fK ?_
  exact aw (bj (aw (bj (bj (q g' s' us x y)))))
 |cons x r=>
  obtain ⟨b,t⟩:=x
  have ae:b=false:=by cases b with|false=>rfl|true=>simp at aC
  subst ae
  exact we (h E _ q)
theorem pH (h:baseOk o=ab):attributeBase o name env t=t:=by
 induction o using eC with
 |Call f as a p=>induction f using eC with
  |Name=>induction as using cj with
   |nil=>induction a using cj with
    |nil=>exact (cv h).elim
    |cons=>rfl
   |cons=>rfl
  |_=>rfl
 |_=>rfl
theorem uT (h:as.length<20) (aC:(backTo pos (starEach as env)).any (·.1)=aq):
  ((backTo pos (starEach as env)).all (λx=> !x.1)&&(backToKw pos (keywordEach [] env)).all (λx=>x.1.isSome)
   &&decide (as.length+([]:List rU).length+(if ([]:List rU).isEmpty then 0 else 1)<30))=true:=by
 have J:(backTo pos (starEach as env)).all (λx=> !x.1)=true:=by
  rw[List.all_eq_not_any_not]
  simp only[Bool.not_not]
  rw[aC];rfl
 exact je.mpr ⟨je.mpr ⟨J,rfl⟩,e1 (show as.length+0+0<30 by exact oT h rfl)⟩
theorem acM (S:da T n) {o:Expr} {m:Str} {b pos:Pos} {as:List Expr} {x r:U} {ps:List U} {w1 fC:W} (ae:baseOk o=ab) (d:(b.endLine==pos.line)=ab) (a5:as.length<20)
  (J:dN n cx o σ w=I (x,w1)) (aa:iN n cx as σ w1=I (ps,fC)) (M:uz T m x ps r) (i:cO T cx env σ A g w s):aS T A (eval (.Call (.Attribute o m b) as [] pos) env) g s (Res T fC r):=
 have aC:=OH (env:=env) pos aa
 hG M λty h M E Q k=>Dp (pH ae) (uT a5 aC) d (S.dN J i E _ λg1 s1 l t1 a=>
  ⟨ty,h,M.1,M.2.1,M.2.2.1,(M.2.2.2.1 rfl a.2).1,(M.2.2.2.1 rfl a.2).2,t9 aC (sj aC (S.iN aa pos (i.ba t1 a.1)) λj s2 us t2 c=>
   M.2.2.2.2 (n:=0) (i.b7.less (by exact nd _ _)) c.1 (a.2.ba t2 a.1) c.2 E Q λe s3 v t3 f=>k e s3 v ((t1.trans t2).trans t3) f)⟩)
open PySem.Builtin PySem.Builtin.Str in
theorem ahj (d:aW T g w s) (a9:(y.length==0)=aq) (af:x.length≤1048576) (a5:(partsBetween x (occurrences x y 0 x.length (x.length+1)) y.length).length≤1048576):
  aS T A (call (.builtin "str.split") [.str x t,.str y u] []) g s (jI T s w ((rT x y).map .str)):=by
 have j:x.length≤sizeLine:=cG af ar
 have m:=cG a5 (show 1048576≤sizeLine by decide)
 have c: ∀(l:List (Str×Tok)) (B:aP→Prop) (aD:List ih) (h:bU),IsL B aD h ((l.map (·.1)).map .str) (strValues l):=by
  intro l B aD h
  induction l with
  |nil=>exact .nil
  |cons a l f=>exact .cons (.str _ _) f
 have own: ∀(l:List (Str×Tok)),l.map (·.1)=rT x y→(∀(E:az→aH→Prop) (Q:az→aH→Prop),(∀a h' aG,s.heap.get? a=ah→(dI s.heap h')→dk h' a (strValues l).toArray→Q (.ref a) {s with heap:=h',toks:=aG})→aU T.mo A (call (.builtin "str.split") [.str x t,.str y u] []) Q E s)→
   aS T A (call (.builtin "str.split") [.str x t,.str y u] []) g s (jI T s w ((rT x y).map .str)):=λl i h=> .Hn d (by rw[←i];exact c l _ _ _) h
 cases J:(decide (x.length<y.length)||decide (strKind x<strKind y))
 ·cases hf:(occurrences x y 0 x.length (x.length+1)).isEmpty
  ·refine own (numbered s.toks (partsBetween x (occurrences x y 0 x.length (x.length+1)) y.length)) ((numbered_texts _ _).trans ((a3 (ne_true_of_eq_false J)).trans (a3 (ne_true_of_eq_false hf))).symm) λE Q k=> ?_
   refine y9 I7 (t7 _ _ _) RF (RG _ _) (meets_str_split_sep x y t u J a9 hf j m) ?_
   rw[strsFrom_eq]
   exact k _ _ _ (i? _) (λb o e=>dE _ e) ⟨_,d9 _ rfl,rfl,_,rfl⟩
  ·refine own [(x,t)] (((a3 (ne_true_of_eq_false J)).trans (a_ hf)).symm) λE Q k=> ?_
   exact y9 I7 (t7 _ _ _) RF (RG _ _) (meets_str_split_not_found x y t u J a9 hf)
    (k _ _ s.toks (i? _) (λb o e=>dE _ e) ⟨_,d9 _ rfl,rfl,_,rfl⟩)
 ·refine own [(x,t)] ((a_ J).symm) λE Q k=> ?_
  exact y9 I7 (t7 _ _ _) RF (RG _ _) (meets_str_split_cannot_occur x y t u J)
   (k _ _ s.toks (i? _) (λb o e=>dE _ e) ⟨_,d9 _ rfl,rfl,_,rfl⟩)
theorem adC (S:da T n) {f:Expr} {as:List Expr} {j:List rU} {pos:Pos} {l:List U} {w':W} (h:(CA f as j pos).bind (λq=>(ev n cx q.1 σ w).bind λx=>(e4 n cx [q.2] σ x.2).bind λy=>(CB x.1 y.1).bind λl=>I (l,y.2))=I (l,w')) (i:cO T cx env σ A g w s):aS T A (eval (.Call f as j pos) env) g s (jI T s w' l):=
 aO h λq d b=>aO b λx J b=>aO b λy aa b=>aO b λz ay b=>aO ay λxs af e=>aO e λjC Ο C=>aO C λcq a9 D=>iZ (ahg d) λm ap w8 Z q1 ag=>by
  clear h ay e C d
  subst w8 Z q1
  rw[jv (c2 ag)]
  have aC:=Ao (env:=env) pos aa
  refine Fx b λE Q k=>Dp (pH (dh (dh ag))) (uT (show 1<20 from by decide) aC) (c2 (dh ag)) (S.ev J i E _ λg1 s1 l4 t1 p=> ?_)
  obtain ⟨t,rfl⟩:=(om af▸p.2).h9
  refine ⟨"str","str.split",I4,I7,F.type_str_split,t7 _ _ _,(λa q=>by cases q),t9 aC (sj aC (S.e4 aa pos (i.ba t1 p.1)) λH s2 us t2 o=> ?_)⟩
  refine fU ((om a9▸qu Ο)▸o.2:IsL H.B H.aD s2.heap [.str cq] us).hy λu vs eu P M=>h! P.h9 λO Y=> ?_
  have L:us=[.str cq O]:=by rw[eu,Y,M.jd]
  have av:=cu D
  exact L▸ahj o.1 av.1 av.2.1 av.2.2 E Q λR s3 v t3 X=>k R s3 v ((t1.trans t2).trans t3) (inj (cy D)▸hG X λc us r=>⟨c,us,r.1,(t1.trans t2).none r.2.1,r.2.2⟩)
theorem Ux (S:da T n) {f:Str} {p pos:Pos} {as:List Expr} {r:U} {ps:List U} {w1:W} (e:cx.sc.names.lookup f=I .globalImplicit) (J:iN n cx as σ w=I (ps,w1)) (aa:fO f ps=I r) (i:cO T cx env σ A g w s):
  aS T A (eval (.Call (.Name f p) as [] pos) env) g s (Res T w1 r):=by
 have aC:=OH (env:=env) pos J
 intro E Q k
 refine h! (Uz (T:=T) aa) λb B=>aw (wR i.wd i.fr e B.2.1 B.2.2.2.1 B.1 ?_)
 have fin: ∀g1 s1 us,bW T g s g1 s1→wJ T w1 ps g1 s1 us→aU T.mo A (call b us []) Q E s1:=λg1 s1 us t1 a=>B.2.2.2.2 i.b7.handled a.1 a.2 E Q λd s2 v t2 c=>k d s2 v (t1.trans t2) c
 rcases B.2.2.1 with ⟨id,rfl⟩|⟨t,rfl⟩
 ·exact t9 aC (sj aC (S.iN J pos i) fin)
 ·exact RH aC (sj aC (S.iN J pos i) fin)
theorem Yq (S:da T n) {f:Str} {p pos:Pos} {as:List Expr} {r:U} {ps:List U} {w1 fC:W} {d:j4} (q:cx.sc.names.lookup f=I .globalImplicit) (hd:cx.dx.fns.find? (λd=>d.name==f)=I d) (J:e4 n cx as σ w=I (ps,w1)) (aa:b' n cx d ps w1=I (r,fC)) (i:cO T cx env σ A g w s):
  aS T A (eval (.Call (.Name f p) as [] pos) env) g s (Res T fC r):=by
 have aC:=Ao (env:=env) pos J
 have h:d.name=f:=dp (aj7 (p:=λd:j4=>d.name==f) hd)
 have e:d∈T.dx.fns:=by rw[←i.fr.dx];exact aj8 hd
 obtain ⟨_,a,o,pm,code,doc,b⟩:=T.fns d e
 have hm:=b.1
 have j:=b.2.1
 have t:=b.2.2.1
 intro E Q k
 refine aw (AL i.wd i.fr q (by rw[←h];exact hm) ?_)
 refine callWith_function (o:=o) (fd:=docDef d.name d.params d.body d.scope pm code doc) (sj aC (S.e4 J pos i) λg1 s1 us t1 c=>⟨⟨(c.1.base a o j).1,t⟩,?_⟩)
 exact S.b' aa e i.fr.dx c.1 (i.b7.less (by exact Er (dH rfl) (nd _ _))) c.2 hm E Q λm s2 v t2 l=>k m s2 v (t1.trans t2) l
noncomputable def qR (T:cA) (A:eU) (own:Bool) (tgt:Expr) (t:Sem az) (g:G) (s:aH) (w:W) (items:List U):Prop:=
 ∀(E:az→aH→Prop) (Q:az→aH→Prop),(∀g' s' v,bW T g s g' s'→iV T A own tgt s w items g' s' v→Q v s')→aU T.mo A t (λx a=>aU T.mo A (pyIter x) Q E a) E s
theorem iV.before (t:bW T g s g' s') (h:iV T A own tgt s' w items p0 qx v):iV T A own tgt s w items p0 qx v:=by
 induction h using iV.casesOn with
 |mk ak du wr St d it st J aa ay=>exact .mk ak du wr St d it st (λb ae=>⟨(J b ae).1,t.none (J b ae).2⟩) aa ay
theorem qR.of (h:aS T A t g s P) (c: ∀g' s' v,bW T g s g' s'→P g' s' v→aS T A (pyIter v) g' s' (iV T A own tgt s' w items)):qR T A own tgt t g s w items:=
 λE Q k=>h E _ λg1 s1 v t1 b=>c g1 s1 v t1 b E Q λd s2 e t2 a=>k d s2 e (t1.trans t2) (a.before t1)
theorem Nj (cC:A.handled=ah) (a:(isName tgt||kD tgt)=ab) (h:GO p=I items) (d:aW T g w s) (l:Lk T g s.heap p v) (b:own=aq→Is g.B g.aD s.heap p v):aS T A (pyIter v) g s (iV T A own tgt s w items):=by
 have is:=l.is (p:=p)
 induction p using U.casesOn with
 |str=>exact inj h▸aaM cC d (is nofun) a
 |list=>exact inj h▸aaI cC d l b a
 |tup=>exact inj h▸aaN cC d (is nofun) a
 |_=>exact aR h
theorem aaO (S:da T n) {own:Bool} {e:Expr} {items:List U} {w':W} (c:(isName tgt||kD tgt)=ab) (h:qf (n+1) own cx e σ w=I (items,w')) (i:cO T cx env σ A g w s):qR T A own tgt (eval e env) g s w' items:=
 aO (rh h) λx J h=>aO h λl b h=>by
  obtain ⟨x,w1⟩:=x
  cases h
  induction own using d1 with
  |true=>exact .of (S.dN J i) λg1 s1 v t1 a=>Nj i.b7.handled c b a.1 a.2 nofun
  |false=>exact .of (S.ev J i) λg1 s1 v t1 a=>Nj i.b7.handled c b a.1 (.of a.2) λZ=>a.2
theorem W9 {l:List U} {i:Nat} (h:(sA l)[i]?=I p): ∃q,l[i]?=I q∧p= .tup [.int i,q]:=by
 unfold sA at h
 rw[mj,List.getElem?_zipIdx] at h
 exact i! h λx af e=>i! af λa aJ b=>⟨a,aJ,by rw[←e,←b];simp⟩
theorem W' {g0:G} (cC:A.handled=ah) (e!:e≠it) (cP:a≠e) (d4:a≠it) (aX:IsL g0.B g0.aD h l vs) (q8:cS g0.B h g1.B J) (u7:g1.aD=g0.aD) (gG:kD tgt=ab):
  kX T A tgt g1 J e (sA l) [e,it,a] [e,it] (λi h=>(∃old,IsEnum h e it i old)∧h.IsListIter it a i∧h.IsList a vs.toArray):=by
 have W:=WalksT.enumerate (prog:=T.prog) (w:=T.w) cC e it a e! cP d4 vs.toArray
 have d:(sA l).length=vs.toArray.size:=by simp[sA,aX.length]
 refine ⟨W.sub,λi h f b ae=> ?_,W.frame,λi p bk bf m j aI f bJ m7 sr dG q=> ?_,λbf m j f q=>W.done bf j m (d▸f) q,λi bf m j f q=>W.self i bf j m f q⟩
 ·exact (eo.mp ae).elim (λz=>f.1.elim λold Z=>⟨_,_,z.symm▸Z,rfl⟩) λae=>f.2.1.elim λo k=>⟨o,_,(ep.mp ae).symm▸k.1,k.2.2⟩
 ·refine cM (W9 aI) λfu Y bz=>cM (aX.get Y) λu b0 fB=>W.item i bf j m (d▸(hh.mp aI).1) f λP O L aG aN bZ Α D E=>q _ L aG E λR Q v=> ?_
  have sT:=W.apart _ _ _ D
  have fin: ∀g,(∀b o,b∉[e,it]→L.get? b=I o→g.get? b=I o)→Is bk.B bk.aD g p (.ref P):=λg s=>by
   have X:cS g0.B h bk.B g:=λb o e n=>
    have H:=q8 b o e n
    have C:=bJ b o H.1 H.2
    have M:=λz=>C.2 (dG b z)
    ⟨s b o M (E b o M C.1),C.2⟩
   refine jk aN λt x af ev=>m7.elim λmore e=> ?_
   have Ξ:x=u:=inj ((qH.symm.trans af).symm.trans b0)
   rw[bz,e,u7]
   refine .tup (vs:=[.int i t,x]) (λz=>(sr _ z).elim λo e=>bF (iA e) (wc.mpr bZ)) ?_ (.cons (.int _ _) (.cons (Ξ▸fB.bJ X more) .nil))
   exact (ev▸Α).elim λo r=>⟨o,s _ o sT r.1,r.2⟩
  induction tgt using eC with
  |Tuple elts c pos=>exact W.go elts c pos i P _ Q R D λg y s=>v g y s (fin g s)
  |_=>exact (cv gG).elim
set_option tactic.hygienic true in
theorem aaG (cC:A.handled=ah) (d:aW T g w s) (H:Is g.B g.aD s.heap (.list l) v) (D:kD tgt=ab) (E:az→aH→Prop) (Q:az→aH→Prop)
  (k: ∀g' s' r,bW T g s g' s'→iV T A own tgt s w (sA l) g' s' r→Q r s'):
  aU T.mo A (call (.type "enumerate") [v] []) (λx C=>aU T.mo A (pyIter x) Q E C) E s:=by
 cases H with
 |list nb n aX=>
  rename_i a vs
  refine call_enumerate_list n.eW λh' he c hsz h=>wpAny_pyIter_enum he ?_
  have aJ: ∃o,s.heap.get? a=I o:=n.elim λo e=>⟨o,e.1⟩
  have p:a<s.heap.objs.size:=aJ.elim λo e=>iA e
  have m:s.heap.objs.size+1≠s.heap.objs.size:=RI _
  have cP:a≠s.heap.objs.size+1:=hg (m? p)
  have d4:a≠s.heap.objs.size:=hg p
  clear p
  have i:s.heap.get? s.heap.objs.size=none:=i? _
  have j:s.heap.get? (s.heap.objs.size+1)=none:=kP (jD _)
  generalize s.heap.objs.size+1=dS at*
  generalize s.heap.objs.size=it at*
  have new: ∀b,b∈[dS,it]→s.heap.get? b=ah∧ ∃o bA,h'.get? b=I o∧o.data= .fields bA:=λb ae=>
   (eo.mp ae).elim (λz=>z.symm▸⟨j,_,_,he,rfl⟩) λae=>(ep.mp ae).symm▸⟨i,c.elim λo q=>⟨o,_,q.1,q.2.2⟩⟩
  have st:bW T g s (g.add (·∈[dS,it])) {s with heap:=h'}:= .add (t:=s.toks) (dr:=s.drawn) h (λb z=>(new b z).1) (bh _)
  have u:=st.bJ d
  refine k _ _ _ st (.mk dS [dS,it,a] [dS,it] _ (d.add h (λb z=>(new b z).1) (λb z=>jk (new b z).2 λo _ e _=>⟨o,e⟩) (bh _)) (W' cC m cP d4 aX u rfl D) ⟨⟨_,he⟩,c,n.eW.at λo e=>h a o e⟩ (λb ae=>⟨⟨.inr ae,Hs d (new b ae).1⟩,(new b ae).1⟩) (λb ae=> ?_) λb ae=>(new b ae).2)
  by_cases f:b∈[dS,it]
  ·exact ⟨jk (new b f).2 λo _ e _=>⟨o,e⟩,Hs d (new b f).1,λ_=> .inl f⟩
  ·have y:b=a:=(eo.mp ae).elim (λz=>bF (z.symm▸eQ ..) f) λae=>(eo.mp ae).elim (λz=>bF (fb _ (ep.mpr z)) f) ep.mp
   exact y.symm▸aJ.elim λo e=>⟨⟨o,h _ o e⟩,λz=>nb (d.dG _ z),λ_=> .inr (u _ o e nb).2⟩
theorem afo (cC:A.handled=ah) (P:(isName tgt||kD tgt)=ab) (h:l_ vs=I items) (d:aW T g w s) (aX:IsL g.B g.aD s.heap vs us) (E:az→aH→Prop) (Q:az→aH→Prop)
  (k: ∀g' s' y,bW T g s g' s'→iV T A own tgt s w items g' s' y→Q y s'):
  aU T.mo A (call (.type "range") us []) (λx J=>aU T.mo A (pyIter x) Q E J) E s:=by
 have fin: ∀(a b:Int) (t u z:Tok) (aG:Nat),small a=ab→small b=ab→items=intsFrom a (b-a).toNat→s.toks≤aG→
   aU T.mo A (pyIter (.ref s.heap.objs.size)) Q E {s with heap:=s.heap.push {cls:= .type "range",data:= .fields #[.int a t,.int b u,.int 1 z]},toks:=aG}:=λa b t u z aG aJ ae D l=>
  have m: ∀i o,s.heap.get? i=I o→(s.heap.push {cls:= .type "range",data:= .fields #[.int a t,.int b u,.int 1 z]}).get? i=I o:=λi o e=>dE _ e
  have t2:bW T g s g {s with heap:=s.heap.push {cls:= .type "range",data:= .fields #[.int a t,.int b u,.int 1 z]},toks:=aG}:= .grow (dr:=s.drawn) m l
  have H:aW T g w {s with heap:=s.heap.push {cls:= .type "range",data:= .fields #[.int a t,.int b u,.int 1 z]},toks:=aG}:=d.grow m l
  aaK (own:=own) cC H (IsRange.new s.heap a b 1 t u z) aJ ae P E Q λM s3 v t3 O=>k M s3 v (t2.trans t3) (D▸O.before t2)
 clear k d
 induction vs using cj with
 |nil=>exact aR h
 |cons p r=>
  refine aO h λa aJ h=>fU aX.hy λu vs eu L n=> ?_
  obtain ⟨t,rfl⟩:=(nu aJ▸L).md
  induction r using cj with
  |nil=>exact eu▸n.jd▸call_range_1 (fin 0 a _ _ _ _ ar (cu h) ((inj (cy h)).symm.trans (by rw[wy])) (gw _ 2))
  |cons q r=>
   refine aO (cy h) λb ae aa=>fU n.hy λkO j C c f=> ?_
   obtain ⟨t2,rfl⟩:=(nu ae▸c).md
   have R:j=[]:=(j2.mp (cu h)▸f:IsL g.B g.aD s.heap [] j).jd
   exact eu▸C▸R▸call_range_2 (fin a b _ _ _ _ (dh (cu aa)) (c2 (cu aa)) (inj (cy aa)).symm (jD _))
theorem Km (S:da T n) {own:Bool} {f:Str} {ty:String} {as:List Expr} {p q:Pos} {ps:List U} {w1:W} {items:List U} (m:(cx.sc.names.lookup f==I .globalImplicit)=ab) (a5:f=ao ty) (l:T.eh (ao ty)=ah) (J:ao ty≠("__name__":Str)) (aa:bootBuiltins (ao ty)=I (.type ty))
  (h:e4 n cx as σ w=I (ps,w1)) (i:cO T cx env σ A g w s)
  (c: ∀g1 s1 us (E:az→aH→Prop) (Q:az→aH→Prop),aW T g1 w1 s1→IsL g1.B g1.aD s1.heap ps us→(∀g' s' b,bW T g1 s1 g' s'→iV T A own tgt s1 w1 items g' s' b→Q b s')→aU T.mo A (call (.type ty) us []) (λx e=>aU T.mo A (pyIter x) Q E e) E s1):
  qR T A own tgt (eval (.Call (.Name f p) as [] q) env) g s w1 items:=by
 have aC:=Ao (env:=env) q h
 intro E Q k
 exact aw (wR i.wd i.fr (dp m) (a5▸l) (a5▸J) (a5▸aa) (RH aC (sj aC (S.e4 h q i) λg1 s1 us t1 a=>c g1 s1 us E Q a.1 a.2 λj s2 v t2 d=>k j s2 v (t1.trans t2) (d.before t1))))
theorem L2 (e:I (items,w)=I (a,w')) (h:qR T A own tgt t g s w items):qR T A own tgt t g s w' a:=by cases e;exact h
theorem Bs (S: ∀m,m≤n→da T m) {own:Bool} {e:Expr} {items:List U} {w':W} (h:fs (n+1) own tgt cx e σ w=I (items,w')) (i:cO T cx env σ A g w s):qR T A own tgt (eval e env) g s w' items:=by
 have o:=S n (bh _)
 have v:=cu h
 have plain:qf n own cx e σ w=I (items,w')→qR T A own tgt (eval e env) g s w' items:=λh=>by
  induction n using fJ with
  |zero=>exact aR h
  |succ n=>exact aaO (S n (jD _)) v h i
 refine nA (cy h) (λZ h=>plain h) λq t aa=>g6 aa (λj ay=> ?_) λZ ay=>g6 ay (λj a=> ?_) λZ a=>plain a
 ·exact aO (cy ay) λx J d=>aO d λl b f=>hG (z1 t) λp r e=>e▸L2 f (Km o (cu ay) (jv j) (T.uE _ bx) bx aY J i
   λg1 s1 us E Q c aX k=>afo i.b7.handled v b c aX E Q k)
 ·exact aO (cy a) λx J d=>aO d λl b f=>aO b λy a9 b=>i! b λl' z H=>hG (z1 t) λp r e=>e▸L2 f (Km o (dh (cu a)) (jv j) (T.uE _ bx) bx aY J i
   λg1 s1 us E Q c aX k=>fU ((zQ z▸qu a9)▸aX:IsL g1.B g1.aD s1.heap [.list l'] us).hy λu vs eu D C=>eu▸C.jd▸aaG (own:=own) i.b7.handled c D (c2 (cu a)) E Q (H.symm▸k))
noncomputable def ip (env:Env):List (Str×lA)→List (Str×aP)→List (Str×aP)
 |[],acc=>acc
 |(n,k)::r,acc=>if k== .free then ip env r ((n,(env.cells.lookup n).getD 0)::acc) else ip env r acc
theorem KR (h: ∀x∈scope.names,x.2= .free→ ∃c,env.cells.lookup x.1=I c):closureFor scope env=pure (ip env scope.names []):=by
 have key: ∀(names:List (Str×lA)) (acc:List (Str×aP)),(∀x∈names,x.2= .free→ ∃c,env.cells.lookup x.1=I c)→
   (forIn names acc λ(x:Str×lA) (r:List (Str×aP))=>(if (x.2==NameKind.free)=ab then do let c←cellOf env x.1;pure (ForInStep.yield ((x.1,c)::r)) else pure (ForInStep.yield r):Sem (ForInStep (List (Str×aP)))))=(pure (ip env names acc):Sem _):=by
  intro names
  induction names with
  |nil=>intro acc _;rfl
  |cons x r b=>
   intro acc af
   obtain ⟨n,k⟩:=x
   rw[RJ]
   unfold ip
   dsimp only
   by_cases av:(k==NameKind.free)=ab
   ·obtain ⟨c,ag⟩:=af (n,k) eQ (dp av)
    have d:cellOf env n=pure c:=by unfold cellOf;rw[ag]
    exact (a_ av)▸(a_ av)▸d▸ag▸(b _ λx a=>af x (fb _ a))
   ·rw[a3 av,a3 av]
    exact b _ λx a=>af x (fb _ a)
 exact aQ (·>>=λe=>pure e) (key scope.names [] h)
theorem Vt: ∀{names:List (Str×lA)} {acc:List (Str×aP)} {n:Str} {c:aP},(∀x∈names,x.2= .free→ ∃c,env.cells.lookup x.1=I c)→(n,c)∈ip env names acc→(n,c)∈acc∨((n,NameKind.free)∈names∧env.cells.lookup n=I c):=by
 intro b
 induction b with
 |nil=>
  intro _ _ _ _ h
  exact .inl h
 |cons hd r a=>
  obtain ⟨m,k⟩:=hd
  intro acc n c af h
  unfold ip at h
  have b8: ∀x∈r,x.2= .free→ ∃c,env.cells.lookup x.1=I c:=λx d=>af x (fb _ d)
  by_cases av:(k==NameKind.free)=ab
  ·rw[a_ av] at h
   rcases a b8 h with h|⟨h,e⟩
   ·rcases eo.mp h with e|h
    ·cases e
     obtain ⟨c,ag⟩:=af (m,k) eQ (dp av)
     refine .inr ⟨?_,by rw[ag];rfl⟩
     rw[dp av];exact eQ
    ·exact .inl h
   ·exact .inr ⟨fb _ h,e⟩
  ·rw[a3 av] at h
   rcases a b8 h with h|⟨h,e⟩
   ·exact .inl h
   ·exact .inr ⟨fb _ h,e⟩
theorem Vr: ∀{names:List (Str×lA)} {acc:List (Str×aP)} {x:Str×aP},x∈acc→x∈ip env names acc:=by
 intro b
 induction b with
 |nil=>
  intro _ _ h
  exact h
 |cons hd r a=>
  obtain ⟨m,k⟩:=hd
  intro acc x h
  unfold ip
  split
  ·exact a (fb _ h)
  ·exact a h
theorem Vs: ∀{names:List (Str×lA)} {acc:List (Str×aP)} {n:Str},(n,NameKind.free)∈names→ ∃c,(n,c)∈ip env names acc:=by
 intro b
 induction b with
 |nil=>exact @λZ Z h=>nomatch h
 |cons hd r a=>
  have m:=hd.1
  have k:=hd.2
  intro acc n h
  unfold ip
  rcases eo.mp h with e|h
  ·cases e
   exact ⟨_,Vr eQ⟩
  ·split
   ·exact a h
   ·exact a h
theorem BL: ∀{l:List (Str×α)} {n:Str} {c:α},(n,c)∈l→ ∃d,l.lookup n=I d:=by
 intro b
 induction b with
 |nil=>exact @λZ Z h=>nomatch h
 |cons hd r a=>
  obtain ⟨k,v⟩:=hd
  intro n c h
  rw[nc]
  cases ae:n==k with
  |true=>exact ⟨v,rfl⟩
  |false=>
   rcases eo.mp h with e|h
   ·cases e;simp at ae
   ·exact a h
theorem KC: ∀{names:List (Str×lA)} {lo:Nat} {acc:List (Str×aP)} {x:Str×aP},x∈acc→x∈cellsFrom lo names acc:=by
 intro b
 induction b with
 |nil=>
  intro _ _ _ h
  exact h
 |cons hd r a=>
  obtain ⟨m,k⟩:=hd
  intro lo acc x h
  unfold cellsFrom
  split
  ·exact a (fb _ h)
  ·exact a h
theorem KG: ∀{names:List (Str×lA)} {h:bU} {acc:List (Str×aP)} {n:Str} {c:aP},(n,c)∈cellsFrom h.objs.size names acc→(n,c)∈acc∨(h.objs.size≤c∧(pushCells h names).IsCell c ah∧(n,NameKind.cell)∈names):=by
 intro b
 induction b with
 |nil=>
  intro _ _ _ _ h
  exact .inl h
 |cons hd r a=>
  obtain ⟨m,k⟩:=hd
  intro h acc n c hm
  unfold cellsFrom at hm
  unfold pushCells
  split at hm
  ·rename_i av
   rw[a_ av]
   have au:(h.push {cls:= .type "cell",data:= .cell ah}).objs.size=h.objs.size+1:=hb ..
   rw[←au] at hm
   rcases a hm with hm|⟨J,aa,ay⟩
   ·rcases eo.mp hm with e|hm
    ·cases e
     refine .inr ⟨bh _,⟨{cls:= .type "cell",data:= .cell ah},Dr _ _ _ _ (d9 _ rfl),rfl⟩,?_⟩
     rw[dp av];exact eQ
    ·exact .inl hm
   ·rw[au] at J
    exact .inr ⟨hA J,aa,fb _ ay⟩
  ·rename_i av
   rw[a3 av]
   rcases a hm with hm|⟨J,aa,ay⟩
   ·exact .inl hm
   ·exact .inr ⟨J,aa,fb _ ay⟩
theorem KD: ∀{names:List (Str×lA)} {lo:Nat} {acc:List (Str×aP)} {n:Str},(n,NameKind.cell)∈names→ ∃c,(n,c)∈cellsFrom lo names acc:=by
 intro b
 induction b with
 |nil=>exact @λZ Z Z h=>nomatch h
 |cons hd r a=>
  have m:=hd.1
  have k:=hd.2
  intro lo acc n h
  unfold cellsFrom
  rcases eo.mp h with e|h
  ·cases e
   exact ⟨_,KC eQ⟩
  ·split
   ·exact a h
   ·exact a h
theorem U0: ∀{names:List (Str×lA)} {lo lo':Nat} {acc:List (Str×aP)} {n d:Str} {c:aP},lo'≤lo→(∀n d c,lo'≤c→(n,c)∈acc→(d,c)∈acc→n=d)→(∀n c,(n,c)∈acc→c<lo)→lo'≤c→(n,c)∈cellsFrom lo names acc→(d,c)∈cellsFrom lo names acc→n=d:=by
 intro i
 induction i with
 |nil=>
  intro lo lo' _ _ _ _ _ aJ f ag J aa
  exact aJ _ _ _ ag J aa
 |cons hd r h=>
  obtain ⟨m,k⟩:=hd
  intro lo lo' acc n d c g aJ f ag J aa
  unfold cellsFrom at J aa
  split at J
  ·rename_i av
   rw[a_ av] at aa
   refine h (lo':=lo') (hP g) (λa b c ag x y=> ?_) (λa c x=> ?_) ag J aa
   ·rcases eo.mp x with e|x
    ·cases e
     rcases eo.mp y with e|y
     ·cases e;rfl
     ·exact bF (f _ _ y) (lz _)
    ·rcases eo.mp y with e|y
     ·cases e;exact bF (f _ _ x) (lz _)
     ·exact aJ _ _ _ ag x y
   ·rcases eo.mp x with e|x
    ·cases e;exact gv _
    ·exact m? (f _ _ x)
  ·rename_i av
   rw[a3 av] at aa
   exact h g aJ f ag J aa
theorem N?
  (a:Q {scope,locals:=s.heap.objs.size,globals,cells:=cellsFrom (s.heap.objs.size+1) scope.names cl,qual,func:=ah,code:=env.code,frame:=env.frame,builtins:=env.builtins}
   {s with heap:=pushCells (s.heap.push {cls:= .type "dict",data:= .dict #[]}) scope.names}):
  aU M A (newFunctionEnv scope globals cl [] qual ah .none (I env)) Q E s:=by
 simp only[newFunctionEnv,Option.isSome_some,if_true]
 refine aw (RK ?_)
 refine aw (wpAny_layCells _ (λname kind cells=>by cases b:kind==NameKind.cell<;>rfl) _ _ _ _ ?_)
 exact (show ({s with heap:=s.heap.push {cls:= .type "dict",data:= .dict #[]}}:aH).heap.objs.size=s.heap.objs.size+1 from hb ..)▸(aw (bj (bj a)))
section
variable {T:cA} {K:aP→Prop} {g:G} {s:aH} {n:Nat}
theorem dc.but {h':bU} {t:Nat} {wr:List aP} (b: ∀b∈wr,cL T g b) (h: ∀b∈wr,¬K b) (au: ∀b o,b∉wr→s.heap.get? b=I o→h'.get? b=I o) (aJ: ∀b∈wr,∃o,h'.get? b=I o) (c:s.toks≤t):dc T K g s g {s with heap:=h',toks:=t} where
 i5 a o e n:=⟨au a o (λq=>n (b a q).1) e,n⟩
 old a o d f _:=au a o (λq=>h a q d) f
 la _ _ z:=z
 ex a o e:=by
  by_cases q:a∈wr
  ·exact aJ a q
  ·exact ⟨o,au a o q e⟩
 eJ:=⟨[],by simp⟩
 ej _ x:= .inl x
 gens:=rfl
 os:=rfl
 aG:=c
theorem aW.but (d:aW T g w s) {wr:List aP} (b: ∀b∈wr,cL T g b) (au: ∀b o,b∉wr→s.heap.get? b=I o→s'.heap.get? b=I o) (aJ: ∀b∈wr,∃o,s'.heap.get? b=I o) (f:s.toks≤s'.toks):aW T g w s' where
 aG:=jf d.aG f
 base c o e:=⟨au c o (λq=>(d.base c o e).2 (b c q).1) (d.base c o e).1,(d.base c o e).2⟩
 ex c z:=by
  by_cases q:c∈wr
  ·exact aJ c q
  ·obtain ⟨o,e⟩:=d.ex c z;exact ⟨o,au c o q e⟩
 dG:=d.dG
 tab:=T.m2 d.tab (λc o e n=>⟨au c o (λq=>n (b c q).1) e,n⟩) λc o z e=>au c o (λq=>(b _ q).2 (.inl z)) e
 len:=d.len
 c3 i l x a h:=T.k! (d.c3 i l x a h) (λc o e n=>⟨au c o (λq=>n (b c q).1) e,n⟩) λc o z e=>au c o (λq=>(b c q).2 (.inr ⟨l,ia a,z⟩)) e
 fT:=d.fT
 fz:=d.fz
theorem dy.but {wr:List aP} (f:dy T g cx env σ s.heap) (b: ∀b∈wr,cL T g b∧ ∃o bA,s.heap.get? b=I o∧o.data= .fields bA) (au: ∀b o,b∉wr→s.heap.get? b=I o→h'.get? b=I o):dy T g cx env σ h':=by
 have bJ:cS g.B s.heap g.B h':=λh o e n=>⟨au h o (λq=>n (b h q).1.1) e,n⟩
 have d: ∀a o,s.heap.get? a=I o→(∀bA,o.data≠ .fields bA)→h'.get? a=I o:=λa o e n=>au a o (λq=>jk (b a q).2 λp bA j l=>n bA (inj (e.symm.trans j)▸l)) e
 have ns: ∀m,s.heap.Ns env.locals m→h'.Ns env.locals m:=λm ⟨o,es,k,e,i,r⟩=>⟨o,es,k,d _ o e (λbA z=>by rw[i] at z;cases z),i,r⟩
 exact f.move f.loc ns (λa=>a.move ns λc ae ⟨o,e,aN⟩=>⟨ae,o,d _ o e (λbA z=>by rw[aN] at z;cases z),aN⟩) (λy m e=>⟨m,e⟩) λx v Z Z sl=>sl.move bJ rfl λa vs _ _ ae ⟨o,e,c,n,r⟩=>⟨ae,o,d _ o e (λbA z=>by rw[r] at z;cases z),c,n,r⟩
noncomputable abbrev G.news (g:G) (h h':bU):G:=⟨λb=>g.B b∨(h.get? b=ah∧ ∃o,h'.get? b=I o),g.aD⟩
theorem cS.news (k:dI h h'):cS g.B h (g.news h h').B h':=λb o e n=>⟨k b o e,λq=>q.elim n λz=>by rw[z.1] at e;exact aR e⟩
theorem bW.news (k:dI s.heap h') (a:s.toks≤t):bW T g s (g.news s.heap h') {s with heap:=h',toks:=t}:=
 ⟨λb o e Z=>k b o e,λb o e=>⟨o,k b o e⟩,λZ x=> .inl x,λb x=>x.imp id λq=>q.1,⟨[],by simp⟩,λZ x=> .inl x,rfl,rfl,a⟩
theorem aW.news (d:aW T g w s) {h':bU} {t:Nat} (k:dI s.heap h') (c:s.toks≤t):aW T (g.news s.heap h') w {s with heap:=h',toks:=t} where
 aG:=jf d.aG c
 base b o e:=⟨k b o (d.base b o e).1,λq=>q.elim (d.base b o e).2 λz=>by have:=(d.base _ _ e).1;rw[z.1] at this;exact aR this⟩
 ex b z:=z.elim (λz=>let ⟨o,e⟩:=d.ex b z;⟨o,k b o e⟩) λq=>q.2
 dG b z:= .inl (d.dG b z)
 tab:=T.m2 d.tab (cS.news k) λb o Z e=>k b o e
 len:=d.len
 c3 i a x f h:=T.k! (d.c3 i a x f h) (cS.news k) λb o Z e=>k b o e
 fT:=d.fT
 fz:=d.fz
theorem aW.aiK (d:aW T g w s) {a:aP} (h:s.heap.get? a=ah): ¬et T.dZ g.aD a:=λq=>by
 obtain ⟨o,e⟩:=d.ex a (d.dG a q)
 rw[h] at e;exact aR e
theorem G.nX (d:aW T g w s) {h':bU} {a:aP} {o:Obj} (h:s.heap.get? a=ah) (b:h'.get? a=I o):cL T (g.news s.heap h') a:=⟨.inr ⟨h,o,b⟩,d.aiK h⟩
theorem x7 (h:scope.names.lookup x=I k):
  (relabel scope env).names.lookup x=I (if (k== .free&&env.scope.kind== .function&&env.kindOf x==I .cell)=ab then .cell else k):=by
 unfold relabel
 generalize scope.names=names at h⊢
 dsimp only
 induction names with
 |nil=>exact aR h
 |cons y r a=>
  obtain ⟨n,dQ⟩:=y
  rw[nc] at h
  rw[iR]
  cases af:x==n with
  |true=>
   rw[af] at h;cases h
   obtain rfl:=dp af
   split<;>exact aj9
  |false=>
   rw[af] at h
   have:=a h
   split<;>(rw[nc,af];exact this)
def compEnv (a:Scope) (L:aP) (env:Env):Env:=
 {scope:=relabel a env,locals:=L,globals:=env.globals,cells:=cellsFrom (L+1) a.names (ip env a.names []),qual:=env.qual,func:=ah,code:=env.code,frame:=env.frame,builtins:=env.builtins}
theorem uK (h:lH sc a=ab):a.kind= .function∧(a.names.map (·.1)).Nodup∧ ∀x k,(x,k)∈a.names→(x==("__debug__":Str))=aq∧(x==("__classdict__":Str))=aq∧(k= .local∨k= .cell∨k= .globalImplicit∨(k= .free∧(sc.names.lookup x=I .cell∨sc.names.lookup x=I .free))):=by
 unfold lH at h
 rw[j3,j3,decide_eq_true_eq] at h
 refine ⟨dp h.1.1,h.1.2,λx k af=> ?_⟩
 have:=iB.mp h.2 (x,k) af
 simp only[j3,t8,bne_iff_ne,ne_eq,beq_iff_eq] at this
 obtain ⟨⟨J,aa⟩,ay⟩:=this
 refine ⟨beq_eq_false_iff_ne.mpr J,beq_eq_false_iff_ne.mpr aa,?_⟩
 rcases ay with ((ay|ay)|ay)|ay
 ·exact .inl ay
 ·exact .inr (.inl ay)
 ·exact .inr (.inr (.inl ay))
 ·exact .inr (.inr (.inr ay))
theorem x!: ∀{l:List (Str×lA)} {x:Str} {k dQ:lA},(l.map (·.1)).Nodup→(x,k)∈l→(x,dQ)∈l→k=dQ:=by
 intro d
 induction d with
 |nil=>exact @λZ Z Z Z Z h=>nomatch h
 |cons y r c=>
  intro x k dQ h J aa
  rw[iR,y'] at h
  rcases eo.mp J with b|J
  ·rcases eo.mp aa with a|aa
   ·rw[←b] at a;cases a;rfl
   ·exact bF (aka (f:=(·.1)) aa) (by rw[←b] at h;exact h.1)
  ·rcases eo.mp aa with a|aa
   ·exact bF (aka (f:=(·.1)) J) (by rw[←a] at h;exact h.1)
   ·exact c h.2 J aa
theorem Oi: ∀{l:List (Str×lA)} {x:Str} {k:lA},(l.map (·.1)).Nodup→(x,k)∈l→l.lookup x=I k:=λ{l x k} h af=>by
 obtain ⟨dQ,e⟩:=BL af
 rw[e,x! h af (mem_of_lookup e)]
theorem BU (h:dD sc x=ab):sc.names.lookup x=I .local∨sc.names.lookup x=I .cell:=(qI.mp h).imp dp dp
theorem vn (h:sc.names.lookup x=I .local∨sc.names.lookup x=I .cell):dD sc x=true:=qI.mpr (h.imp beq_iff_eq.mpr beq_iff_eq.mpr)
theorem BV (h:dD sc x=ab):(Scope.dq sc).contains x=true:=by
 unfold Scope.dq
 rw[akb,hc]
 exact (BU h).elim (λh=>⟨_,akc.mpr ⟨mem_of_lookup h,rfl⟩,rfl⟩) λh=>⟨_,akc.mpr ⟨mem_of_lookup h,rfl⟩,rfl⟩
theorem cB.cellOf (a:cB T g h env x v) (av:env.kindOf x=I .cell∨env.kindOf x=I .free): ∃c,env.cells.lookup x=I c∧h.IsCell c v∧cL T g c:=
 a.elim (λz=>av.elim (λq=>nomatch inj (z.1.symm.trans q)) λq=>nomatch inj (z.1.symm.trans q)) (·.2)
theorem w2 (ag:lH sc a=ab) (af:(x,NameKind.free)∈a.names): ∃k,sc.names.lookup x=I k∧(k= .cell∨k= .free)∧k≠ .globalImplicit:=
 ((uK ag).2.2 x _ af).2.2.elim (λh=>nomatch h) λh=>h.elim (λh=>nomatch h) λh=>h.elim (λh=>nomatch h) λh=>h.2.elim (λh=>⟨_,h,.inl rfl,nofun⟩) λh=>⟨_,h,.inr rfl,nofun⟩
theorem EU {b:Scope} (f:dy T g cx env σ s.heap) (ag:lH cx.sc b=ab): ∀x∈b.names,x.2= .free→ ∃c,env.cells.lookup x.1=I c∧(∃v,s.heap.IsCell c v)∧cL T g c∧(env.kindOf x.1=I .cell∨env.kindOf x.1=I .free):=λx af h=>
 fe (w2 ag (h▸af:(x.1,NameKind.free)∈b.names)) λk av d e=>cM (f.nm x.1 k av e) λv a Z=>(a.cellOf (f.dm x.1 k av d)).imp λc q=>⟨q.1,⟨v,q.2.1⟩,q.2.2,f.dm x.1 k av d⟩
theorem dy.comp {i:Scope} {h':bU} (f:dy T g cx env σ s.heap) (d:aW T g w s) (ag:lH cx.sc i=ab) (L:aP) (u:s.heap.objs.size≤L)
  (aV:dI s.heap h') (P:h'.Ns L λ_=>ah)
  (t: ∀n c,(n,c)∈cellsFrom (L+1) i.names (ip env i.names [])→(n,c)∈ip env i.names []∨(L+1≤c∧h'.IsCell c ah∧(n,NameKind.cell)∈i.names)):
  dy T (g.news s.heap h') {cx with sc:=i} (compEnv i L env) (σ.hide (Scope.dq i)) h'∧
   nk (λb=>b≠L∧ ∀x c,dD i x=ab→(compEnv i L env).cells.lookup x=I c→b≠c) {cx with sc:=i} (compEnv i L env)∧
   (∀x c,dD i x=ab→(compEnv i L env).cells.lookup x=I c→L<c)∧
   (∀x l,(σ.hide (Scope.dq i)).get x= .own l→(∃k,i.names.lookup x=I k∧k≠ .globalImplicit)→ ∃c a,(compEnv i L env).cells.lookup x=I c∧((compEnv i L env).kindOf x=I .cell∨(compEnv i L env).kindOf x=I .free)∧s.heap.IsCell c (I (.ref a))∧(∃o,s.heap.get? a=I o)∧cL T g c):=by
 have A:=(uK ag).2.1
 have z:=(uK ag).2.2
 have D:=EU f ag
 have j: ∀{n c},(n,c)∈ip env i.names []→(n,NameKind.free)∈i.names∧env.cells.lookup n=I c∧c<s.heap.objs.size:=λ{n c} hm=>
  (Vt (λx af hf=>(D x af hf).imp λc q=>q.1) hm).elim (λh=>nomatch h) λh=>Ae (D _ h.1 rfl) λek e Wc _ _=>⟨h.1,h.2,Wc.elim λv q=>q.elim λo r=>iA (inj (e.symm.trans h.2)▸r.1)⟩
 have kb: ∀{x},i.names.lookup x=I .cell→ ∃c,(compEnv i L env).cells.lookup x=I c∧h'.IsCell c ah∧L+1≤c:=λ{x} af=>
  have hm:=mem_of_lookup af
  (KD (lo:=L+1) (acc:=ip env i.names []) hm).elim λhE R=>(BL R).imp λc J=>⟨J,(t x c (mem_of_lookup J)).elim (λh=>nomatch x! A hm (j h).1) λh=>⟨h.2.1,h.1⟩⟩
 have FT: ∀{x},i.names.lookup x=I .free→ ∃c,(compEnv i L env).cells.lookup x=I c∧env.cells.lookup x=I c:=λ{x} af=>
  have hm:=mem_of_lookup af
  (Vs (env:=env) (acc:=[]) hm).elim λhE R=>(BL (KC (names:=i.names) (lo:=L+1) R)).imp λc J=>⟨J,(t x c (mem_of_lookup J)).elim (λh=>(j h).2.1) λh=>nomatch x! A hm h.2.2⟩
 have Mr: ∀{x},i.names.lookup x=I .local→(compEnv i L env).kindOf x=I .local:=λ{x} af=>x7 af
 have C: ∀{x},i.names.lookup x=I .cell→(compEnv i L env).kindOf x=I .cell:=λ{x} af=>x7 af
 have E: ∀{x},i.names.lookup x=I .free→(compEnv i L env).kindOf x=I .cell∨(compEnv i L env).kindOf x=I .free:=λ{x} af=>by
  rw[show (compEnv i L env).kindOf x=_ from x7 af]
  split
  ·exact .inl rfl
  ·exact .inr rfl
 have st:bW T g s (g.news s.heap h') {s with heap:=h',toks:=s.toks}:= .news aV (bh _)
 have LM: ∀{x v},i.names.lookup x=I .free→cB T g s.heap env x v→ ∃c,(compEnv i L env).cells.lookup x=I c∧s.heap.IsCell c v∧cL T g c:=λ{x v} af a=>
  cM (FT af) λc J aa=>Ae (D _ (mem_of_lookup af) rfl) λ_ _ _ _ fW=>fe (a.cellOf fW) λc5 O aN ae=>⟨c,J,by rw[inj (aa.symm.trans O)];exact ⟨aN,ae⟩⟩
 have H: ∀{x v},i.names.lookup x=I .free→cB T g s.heap env x v→cB T (g.news s.heap h') h' (compEnv i L env) x v:=λ{x v} af a=>
  fe (LM af a) λc J aN ae=>aN.elim λo q=> .inr ⟨E af,c,J,⟨o,aV _ _ q.1,q.2⟩,(ae.ba st q.1).1⟩
 have hide: ∀{x},dD i x=ab→(σ.hide (Scope.dq i)).get x= .unset:=λh=>(aA.uV ..).trans (a_ (BV h))
 have M: ∀{x l},(σ.hide (Scope.dq i)).get x= .own l→(∃k,i.names.lookup x=I k∧k≠ .globalImplicit)→i.names.lookup x=I .free∧σ.get x= .own l:=λ{x l} e q=>cM q λk av p=>by
  have nm: ¬dD i x=true:=λm=>nomatch (hide m).symm.trans e
  refine (z x _ (mem_of_lookup av)).2.2.elim (λh=>(nm (vn (.inl (h▸av)))).elim) λh=>h.elim (λh=>(nm (vn (.inr (h▸av)))).elim) λh=>h.elim (λh=>(p h).elim) λh=>⟨h.1▸av,?_⟩
  rw[aA.uV] at e
  split at e
  ·cases e
  ·exact e
 have fr:dy T (g.news s.heap h') {cx with sc:=i} (compEnv i L env) (σ.hide (Scope.dq i)) h':={
  glob:=f.glob
  bi:=f.bi
  kind:=(uK ag).1
  loc:=P.elim λo q=>hG q λes bz r=>G.nX d (kP u) r.1
  nM:=λx af=>x7 af
  ok:=λx k af=>⟨(z x k (mem_of_lookup af)).1,(z x k (mem_of_lookup af)).2.1⟩
  nm:=λx k af p=>(z x k (mem_of_lookup af)).2.2.elim (λh=>⟨ah,.inl ⟨Mr (h▸af),_,P,rfl⟩,(hide (vn (.inl (h▸af)))).symm▸trivial⟩) λh=>h.elim (λh=>fe (kb (h▸af)) λc J aa ay=>⟨ah,.inr ⟨.inl (C (h▸af)),c,J,aa,aa.elim λo q=>G.nX d (kP (cG u (hA ay))) q.1⟩,(hide (vn (.inr (h▸af)))).symm▸trivial⟩)
   λh=>h.elim (λh=>(p h).elim) λh=>fe (w2 ag (mem_of_lookup (h.1▸af))) λdQ lT _ xD=>cM (f.nm x dQ lT xD) λv a sl=>⟨v,H (h.1▸af) a,by
    rw[aA.uV]
    split
    ·trivial
    ·exact sl.ba st d⟩
  dx:=f.dx
  dict:=⟨_,P⟩
  dm:=λx k af h=>h.elim (λh=> .inl (C (h▸af))) λh=>E (h▸af)
  apart:=λx y c af a9=>by
   have b9:=mem_of_lookup af
   have qn:=mem_of_lookup a9
   have no: ∀{n},L+1≤c→(n,c)∈ip env i.names []→False:=λh a=>wc.mpr (cG u (hA h)) (j a).2.2
   exact (t x c b9).elim (λJ=>(t y c qn).elim (λaa=>f.apart x y c (j J).2.1 (j aa).2.1) λaa=>(no aa.1 J).elim)
    λJ=>U0 (lo:=L+1) (lo':=L+1) (bh _) (λn qo ek Y a b=>(wc.mpr (cG u (hA Y)) (j a).2.2).elim) (λn ek a=>m? (jf (j a).2.2 u)) J.1 b9 qn
  sep:=λx y l m a aK O c! dT rN rO=>by
   have X:=M aK c!
   have Q:=M O dT
   refine fe (w2 ag (mem_of_lookup X.1)) λbp s8 _ Z=>fe (w2 ag (mem_of_lookup Q.1)) λbK p_ _ sY=>cM (f.nm x bp s8 Z) λv1 a1 _=>cM (f.nm y bK p_ sY) λv2 a2 _=> ?_
   exact f.sep x y l m a X.2 Q.2 ⟨bp,s8,Z⟩ ⟨bK,p_,sY⟩ ((H X.1 a1).one rN▸a1) ((H Q.1 a2).one rO▸a2)}
 refine ⟨fr,λx af=>(BU af).elim (λh=> .inl ⟨Mr h,λq=>q.1 rfl⟩) λh=> .inr ⟨C h,λc Y q=>q.2 x c af Y rfl⟩,λx c af Z0=>(t x c (mem_of_lookup Z0)).elim (λh=>(BU af).elim (λq=>nomatch x! A (j h).1 (mem_of_lookup q)) λq=>nomatch x! A (j h).1 (mem_of_lookup q)) λh=>h.1,λx l e q=> ?_⟩
 have o:=M e q
 refine fe (w2 ag (mem_of_lookup o.1)) λk av _ p=>cM (f.nm x k av p) λv a sl=>iZ (o.2▸sl:gA T g s.heap (.own l) v) λad vs ev ae ai _=>fe (LM o.1 (ev▸a)) λc J aN ZD=>⟨c,ad,J,E o.1,aN,ai.imp λo q=>q.1,ZD⟩
end
section
variable {T:cA} {K K':aP→Prop} {g g':G} {w:W} {s s':aH} {n:Nat}
theorem dc.weak (x:dc T K' g s g' s') (h: ∀b,K b→K' b):dc T K g s g' s':=
 ⟨x.i5,λb o k e n=>x.old b o (h b k) e n,λb k z=>x.la b (h b k) z,x.ex,x.eJ,x.ej,x.gens,x.os,x.aG⟩
theorem dc.iI (x:dc T K g s g' s') {b:aP} (z:g'.B b):g.B b∨s.heap.get? b=Option.none:=by
 cases e:s.heap.get? b with
 |none=>exact .inr rfl
 |some o=>
  by_cases h:g.B b
  ·exact .inl h
  ·exact bF z (x.i5 b o e h).2
theorem dy.chg {h':bU} {a:aP} {p:Array az} (f:dy T g cx env σ s.heap) (ae:cL T g a) (d:dk s.heap a p) (au: ∀b o,b≠a→s.heap.get? b=I o→h'.get? b=I o)
  (t: ∀x l,σ.get x= .own l→(∃k,cx.sc.names.lookup x=I k∧k≠ .globalImplicit)→ ¬cB T g s.heap env x (I (.ref a))):dy T g cx env σ h':=by
 have bJ:cS g.B s.heap g.B h':=λj o e n=>⟨au j o (λq=>n (q▸ae.1)) e,n⟩
 have ns: ∀m,s.heap.Ns env.locals m→h'.Ns env.locals m:=λm x=>x.at λo e=>au _ _ (λq=>vw (q▸x) d.eW) e
 exact f.move f.loc ns (λn=>n.move ns λc ag aN=>⟨ag,aN.elim λo e=>⟨o,au _ _ (λq=>x5 d.eW (q▸aN)) e.1,e.2⟩⟩) (λy m e=>⟨m,e⟩)
  λx v k n sl=>sl.move bJ rfl λc vs i ev ag ⟨o,e,r⟩=>⟨ag,o,au c o (λz=>i.elim λl h=>t x l h k (z▸ev▸n)) e,r⟩
theorem Kf (h:qW sc t p σ=I σ') (x:Str):σ'.get x=σ.get x∨dD sc x=true:=
 aO h λy a9 h=>by
  rw[←inj (cy h),aA.get_set]
  by_cases af:y=x
  ·exact .inr (af▸cu h)
  ·exact .inl (a3 af)
theorem Un: ∀{ts:List Expr} {ps:List U} {σ σ':aA},pJ sc ts ps σ=I σ'→ ∀x,σ'.get x=σ.get x∨dD sc x=true:=by
 intro ts
 induction ts with
 |nil=>intro _ _ _ h x;exact inj (cy h)▸ .inl rfl
 |cons t ts a=>
  intro ps σ σ' h x
  induction ps using cj with
  |nil=>exact aR h
  |cons p ps=>exact aO h λσ1 J aa=>(a aa x).elim (λh=>(Kf J x).elim (λh'=> .inl (h.trans h')) .inr) .inr
theorem ED (h:d2 sc t p σ=I σ') (x:Str):σ'.get x=σ.get x∨dD sc x=true:=
 nA h (λZ h=>Kf h x) λts Z h=>aO h λl Z h=>Un h x
theorem Yx: ∀(ifs:List Expr),(forIn ifs aq λc r=>if r=ab then do let ok←isTrue c env (eval c env);pure (ForInStep.yield ok) else pure (ForInStep.yield r))=(pure aq:Sem Bool):=by
 intro b
 induction b with
 |nil=>
  exact rfl
 |cons c ifs a=>
  rw[RJ,a3 cv]
  exact a
theorem P2: ∀{n:Nat} {ifs:List Expr} {w w':W} {b:Bool} {g:G} {s:aH},(∀m,m≤n→da T m)→hN n cx .And ifs σ w=I (b,w')→cO T cx env σ A g w s→
  aS T A (forIn ifs ab λc r=>if r=ab then do let ok←isTrue c env (eval c env);pure (ForInStep.yield ok) else pure (ForInStep.yield r)) g s (jh T w' b):=by
 intro n
 induction n with
 |zero=>intro _ _ _ _ _ _ _ h _;exact aR h
 |succ n d=>
  intro ifs w w' b g s S h i
  induction ifs using cj with
  |nil=>exact sL h (.pure ⟨i.wd,rfl⟩)
  |cons e es=>
   exact aO h λx J h=>by
    rw[RJ,a_ rfl]
    refine aS.bind (aS.bind ((S n (jD n)).fI J i) λg1 s1 cn t1 a=> .pure (P:=λg s r=>aW T g x.2 s∧r=ForInStep.yield x.1) ⟨a.1,by rw[a.2]⟩) λg1 s1 r t1 a=>a.2▸ ?_
    have i1:=i.ba t1 a.1
    clear J a
    obtain ⟨c,w1⟩:=x
    induction c using d1 with
    |false=>exact sL h (.pM (.pure ⟨i1.wd,rfl⟩) (Yx (env:=env) es))
    |true=>exact d (λm hm=>S m (hP hm)) h i1
theorem VF (ak:Nat→aH→Prop)
  (turn: ∀n s,ak n s→ ∀E,aU (cU prog wd) A (pyNext it) (λr a=>match r with
   |none=>R (.ok .next) a
   |some v=>aU (cU prog wd) A (letOwnedTupleGo target it v) (λZ bf=>aU (cU prog wd) A (assign target env v) (λZ f=>
     aU (cU prog wd) A (forIn ifs ab λc r=>if r=ab then do let ok←isTrue c env (eval c env);pure (ForInStep.yield ok) else pure (ForInStep.yield r)) (λok b=>
      if ok=ab then aU (cU prog wd) A (eval elt env) (λx i=>
       aU (cU prog wd) A (call (.builtin "list.append") [acc,x]) (λZ e=> ∃m,m<n∧ak m e) E i) E b
      else∃m,m<n∧ak m b) E f) E bf) E a) E s)
  (n:Nat) (h:ak n s):
  codeAny (cU prog wd) A (.compLoop (.ListComp elt [⟨target,iter,ifs,0⟩] scope pos) 0 it acc env) R s:=by
 refine RL rfl ak (λn s eG=> ?_) n h
 show aU _ A ((compTurn (.ListComp elt [⟨target,iter,ifs,0⟩] scope pos) 0 it acc env).onRaise (λx=>do noteFrame x env;theTreesLotGoes x)) _ _ s
 refine RM ?_
 rw[compTurn_list]
 refine aw (fF (aw (hQ (turn n s eG _) (λr a d=> ?_) λZ Z h'=>h')))
 induction r using d5 with
 |none=>exact bj d
 |some v=>
  refine aw (hQ d (λZ bf k=>aw (hQ k (λZ f l=>aw (hQ l (λok b j=> ?_) λZ Z h'=>h')) λZ Z h'=>h')) λZ Z h'=>h')
  induction ok using d1 with
  |false=>exact bj ⟨rfl,j⟩
  |true=>
   exact aw (aw (hQ j (λx i p=>aw (hQ p (λZ e o=>bj (bj ⟨rfl,o⟩)) λZ Z h'=>h')) λZ Z h'=>h'))
noncomputable abbrev G.less (g:G) (wr:List aP):G:=⟨λb=>g.B b∧b∉wr,g.aD⟩
theorem cS.less {wr:List aP} (b: ∀b∈wr,g.B b) (au: ∀b o,b∉wr→h.get? b=I o→h'.get? b=I o):cS g.B h (g.less wr).B h':=λa o e n=>⟨au a o (λq=>n (b a q)) e,λq=>n q.1⟩
theorem aW.less (d:aW T g w s) {wr:List aP} (b: ∀b∈wr,cL T g b) (au: ∀b o,b∉wr→s.heap.get? b=I o→s'.heap.get? b=I o) (h:s.toks≤s'.toks):aW T (g.less wr) w s':=by
 have bJ:cS g.B s.heap (g.less wr).B s'.heap:= .less (λa q=>(b a q).1) au
 exact {
  aG:=jf d.aG h
  base:=λc o e=>bJ c o (d.base c o e).1 (d.base c o e).2
  ex:=λc z=>let ⟨o,e⟩:=d.ex c z.1;⟨o,au c o z.2 e⟩
  dG:=λc z=>⟨d.dG c z,λq=>(b c q).2 z⟩
  tab:=T.m2 d.tab bJ λc o z e=>au c o (λq=>(b _ q).2 (.inl z)) e
  len:=d.len
  c3:=λi l x f j=>T.k! (d.c3 i l x f j) bJ λc o z e=>au c o (λq=>(b c q).2 (.inr ⟨l,ia f,z⟩)) e
  fT:=d.fT
  fz:=d.fz}
end
structure e' (T:cA) (cx:bY) (env:Env) (σ:aA) (K:aP→Prop) (bk:G) (bf:aH) (wr:List aP) (St:Nat→bU→Prop) (D:aP) (j:Nat) (g:G) (w:W) (done:List U) (cq:List az) (s:aH):Prop where
 bw:dc T K bk bf g s
 wd:aW T g w s
 fr:dy T g cx env σ s.heap
 bd:cL T g D
 lst:dk s.heap D cq.toArray
 aX:IsL g.B g.aD s.heap done cq
 st:St j s.heap
 wr: ∀b∈wr,cL T g b
section
variable {K:aP→Prop} {j:Nat} {wr du:List aP} {St:Nat→bU→Prop} {done:List U} {cq:List az} {items:List U}
theorem e'.ba (c:e' T cx env σ K bk bf wr St D j g w done cq s) (i:kX T A tgt bk bf.heap ak items du wr St) (a: ∀b∈du,(∃o,bf.heap.get? b=I o)∧ ¬et T.dZ bk.aD b) (t:bW T g s g' s') (d:aW T g' w' s'):
  e' T cx env σ K bk bf wr St D j g' w' done cq s' where
 bw:=c.bw.trans (t.bw c.wd)
 wd:=d
 fr:=c.fr.ba t c.wd
 bd:=c.bd.vW t c.wd
 lst:=let ⟨o,f,r⟩:=c.lst;⟨o,(c.bd.ba t f).2,r⟩
 aX:=c.aX.ba t c.wd
 st:=i.frame j _ _ c.st λb ae o e=>t.keep b o e λq=>(c.bw.ej b q).elim (a b ae).2 λz=>by obtain ⟨k,h⟩:=(a b ae).1;rw[h] at z;exact aR z.symm
 wr b ae:=(c.wr b ae).vW t c.wd
theorem e'.turn {Q:Unit→aH→Prop} {E:az→aH→Prop} (cC:A.handled=ah) (c:e' T cx env σ K bk bf wr St D j g w done cq s) (h:kX T A tgt bk bf.heap ak items du wr St)
  (i: ∀b∈du,(∃o,bf.heap.get? b=I o)∧ ¬et T.dZ bk.aD b) (L: ∀b,K b→b∉wr)
  (t: ∀b,(∃o,bf.heap.get? b=I o)→K' b) (u: ∀b,K b→ ∃o,bf.heap.get? b=I o) (J:K' D) (R:bf.heap.get? D=ah) (O:nk K' cx env) (ae:d2 cx.sc tgt p σ=I σ')
  (st:St (j+1) a) (d: ∀b o,b∉wr→s.heap.get? b=I o→a.get? b=I o) (C:Is g.B g.aD a p v) (k:s.toks≤aG) (fst:St j s.heap)
  (q: ∀s',e' T cx env σ' K bk bf wr St D (j+1) g w done cq s'→Q () s'):aU T.mo A (assign tgt env v) Q E {s with heap:=a,toks:=aG}:=by
 have aJ: ∀b∈wr,∃o,a.get? b=I o:=λb ae=>let ⟨o,_,e,_⟩:=h.live _ _ st b ae;⟨o,e⟩
 have t1:dc T K g s g {s with heap:=a,toks:=aG}:= .but c.wr (λb ae z=>L b z ae) d aJ k
 have y:aW T g w {s with heap:=a,toks:=aG}:=c.wd.but c.wr d aJ k
 have f1:dy T g cx env σ a:=c.fr.but (λb ae=>⟨c.wr b ae,h.live _ _ fst b ae⟩) d
 have M:D∉wr:=λz=>by
  obtain ⟨o,bA,e,l⟩:=h.live _ _ fst D z
  obtain ⟨H,f,_,m,r⟩:=c.lst
  rw[e] at f;cases f
  rw[r] at l;cases l
 have P:cS g.B s.heap g.B a:=λb o e n=>⟨d b o (λz=>n (c.wr b z).1) e,n⟩
 refine wQ (K:=K') cC ae O f1 y C λs2 t2 f2 x Z=>q s2 ?_
 refine ⟨(c.bw.trans t1).trans (t2.weak λb z=>t b (u b z)),x,f2,c.bd,?_,?_,?_,c.wr⟩
 ·obtain ⟨o,e,r⟩:=c.lst
  exact ⟨o,t2.old D o J (d D o M e) c.bd.2,r⟩
 ·have:=c.aX.bJ P []
  rw[e0] at this
  exact this.bw t2
 ·refine h.frame _ _ _ st λb ae o e=>t2.old b o (t b (i b ae).1) e λz=>(c.bw.ej b z).elim (i b ae).2 λz=> ?_
  obtain ⟨H,f⟩:=(i b ae).1
  rw[f] at z;exact aR z.symm
inductive D6 (T:cA) (cx:bY) (env:Env) (σ:aA) (K:aP→Prop) (bk:G) (bf:aH) (wr:List aP) (St:Nat→bU→Prop) (D:aP) (elt tgt:Expr) (ifs:List Expr) (items:List U) (N:Nat) (l:List U) (w':W) (s':aH):Nat→Prop where
 |mk (rest:List U) (j m:Nat) (g:G) (w:W) (done l':List U) (cq:List az):m≤N→d! m cx elt tgt ifs rest σ w=I (l',w')→l=done++l'→items.drop j=rest→done.length≤j→j≤items.length→
  e' T cx env σ K bk bf wr St D j g w done cq s'→D6 T cx env σ K bk bf wr St D elt tgt ifs items N l w' s' rest.length
theorem e'.cast {b:Nat} {a:List U} (c:e' T cx env σ K bk bf wr St D j g w done cq s) (J:j=b) (aa:w=w') (ay:done=a):e' T cx env σ K bk bf wr St D b g w' a cq s:=by subst J aa ay;exact c
theorem drop_nil {j:Nat} (h:items.drop j=[]) (a:j≤items.length):j=items.length:=by
 have:=aQ List.length h
 rw[pf,RN] at this
 exact qN (bE a) (bE (cc (dH this) (k_ (items.length) (j))))
theorem drop_cons {j:Nat} {rest:List U} (h:items.drop j=p::rest):items[j]?=I p∧items.drop (j+1)=rest∧j+1≤items.length:=by
 have a:items[j]?=I p:=by rw[←List.head?_drop,h];rfl
 exact ⟨a,by rw[←List.drop_drop,h];rfl,(hh.mp a).1⟩
theorem e'.push {a:G} {i:W} {s5:aH} {x:az} {r:U} {d:bU} (c:e' T cx env σ K bk bf wr St D j a i done cq s5) (s:kX T A tgt bk bf.heap ak items du wr St) (u: ∀b∈du,(∃o,bf.heap.get? b=I o)∧ ¬et T.dZ bk.aD b)
  (y: ¬K D) (v:bf.heap.get? D=ah) (nY: ∀x l,σ.get x= .own l→(∃k,cx.sc.names.lookup x=I k∧k≠ .globalImplicit)→ ¬cB T a s5.heap env x (I (.ref D)))
  (f: ∀b o,b≠D→s5.heap.get? b=I o→d.get? b=I o) (g:dk d D (cq++[x]).toArray) (w:Is a.B a.aD s5.heap r x):e' T cx env σ K bk bf wr St D j a i (done++[r]) (cq++[x]) {s5 with heap:=d}:=by
 have h: ∃o,d.get? D=I o:=g.elim λo e=>⟨o,e.1⟩
 have m:cS a.B s5.heap a.B d:=λb o e n=>⟨f b o (λq=>n (q▸c.bd.1)) e,n⟩
 refine ⟨c.bw.trans (.one (t:=s5.toks) (dr:=s5.drawn) c.bd y f h (bh _)),c.wd.one c.bd f h (bh _),c.fr.chg c.bd c.lst f nY,c.bd,g,?_,?_,c.wr⟩
 ·have:=(c.aX.append (.cons w .nil)).bJ m []
  rwa [e0] at this
 ·exact s.frame _ _ _ c.st λb ae o e=>f b o (λq=>(u b ae).1.elim λz p=>Mine.nn (v.symm.trans (q▸p))) e
theorem VX {R:r9→aH→Prop}
  (Q: ∀m,m≤N→da T m) (xB:cx.sc=a7) (b7:Room (20*cx.d+20) A) (f:kX T A tgt bk bf.heap ak items du wr St) (q: ∀b∈du,(∃o,bf.heap.get? b=I o)∧ ¬et T.dZ bk.aD b)
  (L: ∀b,K b→b∉wr∧ ∃o,bf.heap.get? b=I o) (j?: ∀b,(∃o,bf.heap.get? b=I o)→K' b) (gp:K' D) (H:bf.heap.get? D=ah) (pd:nk K' cx env) (bH:items.length≤1048576)
  (qc: ∀x,dD cx.sc x=ab→σ.get x= .unset)
  (nY: ∀g w done cq s j,e' T cx env σ K bk bf wr St D j g w done cq s→ ∀x l,σ.get x= .own l→(∃k,cx.sc.names.lookup x=I k∧k≠ .globalImplicit)→ ¬cB T g s.heap env x (I (.ref D)))
  (hm:m≤N) (ag:d! m cx elt tgt ifs items σ w=I (l,w')) (n:e' T cx env σ K bk bf wr St D 0 g w [] [] s)
  (ka: ∀g' cq s' h' aG,e' T cx env σ K bk bf wr St D items.length g' w' l cq s'→(∀b o,b∉wr→s'.heap.get? b=I o→h'.get? b=I o)→s'.toks≤aG→R (.ok .next) {s' with heap:=h',toks:=aG}):
  codeAny T.mo A (.compLoop (.ListComp elt [⟨tgt,it,ifs,0⟩] a7 pos) 0 (.ref ak) (.ref D) env) R s:=by
 subst xB
 refine VF (λk s'=>D6 T cx env σ K bk bf wr St D elt tgt ifs items N l w' s' k) (λk s' h E=> ?_) items.length (.mk items 0 m g w [] l [] hm ag rfl rfl (bh _) (hC _) n)
 clear n ag hm
 induction h using D6.casesOn with
 |mk rest j m g' w1 done l' cq hm ag y hd C Z c=>
 induction m using fJ with
 |zero=>exact aR ag
 |succ m=>
 induction rest using cj with
 |nil=>
  have e:=kh ag
  have nH:=drop_nil hd Z
  exact j0 (bh _) (f.done s' _ _ (nH▸c.st) λh' aG aV a=>ka g' cq s' h' aG (c.cast nH e.2 (by rw[y,←e.1,e0])) aV a)
 |cons p rest=>
  have i:=drop_cons hd
  refine aO ag λσ' ae ag=>aO ag λb P ag=>j0 (bh _) (f.item j p g' s' _ _ i.1 c.st c.bw.i5 c.bw.eJ c.wd.ex (λb ae=>(c.wr b ae).1) λv J aG i_ go a=>go _ _ λaa ll oP cV=>
   c.turn b7.handled f q (λb z=>(L b z).1) j? (λb z=>(L b z).2) gp H pd ae ll (λb o ae e=>oP b o ae (i_ b o ae e)) cV a c.st λs3 u=>
   P2 (λk av=>Q k (cG av (hA hm))) P ⟨u.fr,u.wd,b7⟩ E _ λdJ s4 ok en M=>M.2▸ ?_)
  have gW:=u.ba f q en M.1
  have back: ∀x,σ.get x=σ'.get x∨σ.get x= .unset:=λx=>(ED ae x).elim (λh=> .inl h.symm) λh=> .inr (qc x h)
  clear P ae M u c
  refine M' (λae=> ?_) λae=>⟨rest.length,gv _,.mk rest (j+1) m dJ b.2 done l' cq (hA hm) (th ae ag) y i.2.1 (hP C) i.2.2 {gW with fr:=gW.fr.weak back}⟩
  refine aO (xU ae ag) λr he ag=>aO ag λfh lR sV=>(Q m (hA hm)).ev he ⟨gW.fr,gW.wd,b7⟩ E _ λX s5 x jA Y=> ?_
  have e:=kh sV
  have O:=gW.ba f q jA Y.1
  have t:e' T cx env σ K bk bf wr St D (j+1) X r.2 done cq s5:={O with fr:=O.fr.weak back}
  clear O gW he ag sV
  refine cM t.lst λo aZ a'=>a'.2.elim λnn Ge=> ?_
  have Gz:cq.length≤1048576:=by have:=t.aX.length;exact bE (cc (cc (cc bH C) Z) (eq1 this))
  refine I8 (hsz:=by rw[eK];exact cG Gz ar) (Ge▸aZ) λbr f3 nD=>⟨rest.length,gv _,.mk rest (j+1) m X r.2 (done++[r.1]) fh.1 (cq++[x]) (hA hm) (lR.trans (by rw[←e.2])) (by rw[y,iT,←e.1];rfl) i.2.1 (by rw[er];exact ml C) i.2.2 ?_⟩
  exact t.push f q (λz=>(L D z).2.elim λo e=>Mine.nn (H.symm.trans e)) H (nY _ _ _ _ _ _ t) (λb o ae e=>(f3.2 b ae).trans e) ⟨_,nD,rfl,nn+1,by simp⟩ Y.2
end
section
variable {T:cA} {K:aP→Prop} {g g':G} {w:W} {s s':aH} {n:Nat} {wr:List aP}
theorem Hv (h:fs n own tgt cx it σ w=I r) (x:az):foldedSetIterable it env x=pure x:=by
 induction it using eC with
 |Set=>induction n using fJ with
  |zero=>exact aR h
  |succ n=>induction n using fJ with
   |zero=>exact aR (cy h)
   |succ n=>exact aR (cy h)
 |_=>rfl
theorem dy.less (f:dy T g cx env σ s.heap) (ae: ∀b∈wr,cL T g b∧(∀i,¬dk s.heap b i)∧(∀v,¬s.heap.IsCell b v)∧b≠env.locals) (au: ∀b o,b∉wr→s.heap.get? b=I o→h'.get? b=I o):dy T (g.less wr) cx env σ h':=by
 have bJ:cS g.B s.heap (g.less wr).B h':= .less (λb j=>(ae b j).1.1) au
 have h:env.locals∉wr:=λz=>(ae _ z).2.2.2 rfl
 have ns: ∀m,s.heap.Ns env.locals m→h'.Ns env.locals m:=λm x=>x.at λo e=>au _ _ h e
 refine f.move ⟨⟨f.loc.1,h⟩,f.loc.2⟩ ns (λn=>n.move ns λc ag aN=> ?_) (λy m e=>⟨m,e⟩) λx v k n sl=>sl.move bJ rfl λc vs l ev ag d=> ?_
 ·have a:c∉wr:=λz=>(ae _ z).2.2.1 _ aN
  exact ⟨⟨⟨ag.1,a⟩,ag.2⟩,aN.elim λo e=>⟨o,au _ _ a e.1,e.2⟩⟩
 ·have a:c∉wr:=λz=>(ae _ z).2.1 _ d
  exact ⟨⟨⟨ag.1,a⟩,ag.2⟩,d.elim λo e=>⟨o,au _ _ a e.1,e.2⟩⟩
theorem dc.less {wr:List aP} {h':bU} {t:Nat} (x:dc T K g s g' s') (d:aW T g w s) (ae: ∀b∈wr,cL T g' b∧s.heap.get? b=Option.none) (au: ∀b o,b∉wr→s'.heap.get? b=I o→h'.get? b=I o) (i:s'.toks≤t):dc T K g s (g'.less wr) {s' with heap:=h',toks:=t} where
 i5 b o e n:=let ⟨a,c⟩:=x.i5 b o e n;⟨au b o (λz=>by rw[(ae b z).2] at e;exact aR e) a,λz=>c z.1⟩
 old b o j f n:=au b o (λz=>by rw[(ae b z).2] at f;exact aR f) (x.old b o j f n)
 la b e z:=⟨x.la b e z,λq=>by obtain ⟨o,e⟩:=d.ex b z;rw[(ae b q).2] at e;exact aR e⟩
 ex b o e:=let ⟨h,k⟩:=x.ex b o e;⟨h,au b h (λz=>by rw[(ae b z).2] at e;exact aR e) k⟩
 eJ:=x.eJ
 ej:=x.ej
 gens:=x.gens
 os:=x.os
 aG:=cG x.aG i
theorem bW.less (x:bW T g s g' s') (d:aW T g w s) (ae: ∀b∈wr,cL T g' b∧s.heap.get? b=Option.none) (au: ∀b o,b∉wr→s'.heap.get? b=I o→h'.get? b=I o) (c:s'.toks≤t):bW T g s (g'.less wr) {s' with heap:=h',toks:=t} where
 keep b o e n:=au b o (λz=>by rw[(ae b z).2] at e;exact aR e) (x.keep b o e n)
 ex b o e:=let ⟨a,f⟩:=x.ex b o e;⟨a,au b a (λz=>by rw[(ae b z).2] at e;exact aR e) f⟩
 hD b z:=⟨x.hD b z,λq=>by obtain ⟨o,e⟩:=d.ex b z;rw[(ae b q).2] at e;exact aR e⟩
 iI b z:=x.iI b z.1
 eJ:=x.eJ
 ej:=x.ej
 gens:=x.gens
 os:=x.os
 aG:=cG x.aG c
theorem KX (cD: ∀m,m≤n+1→da T m) {elt it:Expr} {ifs:List Expr} {pos ps:Pos} {d:Scope} {l:List U} {use:Option (az→Sem Unit)} {Q:az→aH→Prop} {E:az→aH→Prop} (ag:ei (n+1+1) cx (.ListComp elt [⟨tgt,it,ifs,0⟩] d pos) σ w=I (l,w')) (i:cO T cx env σ A g w s)
  (k: ∀g' s' D C,bW T g s g' s'→jI T s w' l g' s' (.ref D)→cL T g' C→s.heap.get? C=ah→D≠C→(∃m,s'.heap.Ns C m)→compPost T.mo A E use Q (.ref D) C (.ok .next) s'):
  aU T.mo A (comprehension (.ListComp elt [⟨tgt,it,ifs,0⟩] d pos) d env ps (newList []) aq (eval it env) use) Q E s:=by
 have gF:=cu ag
 refine aO (cy ag) λbc J q_=> ?_
 have bH:=cu q_
 replace ag:=cy q_
 clear q_
 obtain ⟨items,w1⟩:=bc
 replace ag:d! (n+1) {cx with sc:=d} elt tgt ifs items (σ.hide (Scope.dq d)) w1=I (l,w'):=ag
 replace bH:items.length≤1048576:=bH
 replace J:fs (n+1) ab tgt cx it σ w=I (items,w1):=J
 ··have wZ:=uK gF
   refine akd (use:=use) rfl (λx=>Hv J x) (KR λx af hf=>(EU i.fr gF x af hf).imp λc q=>q.1) wZ.1
    (λx af p=>by rw[Oi wZ.2.1 (k:=x.2) af,p]) ?_
   refine Bs (own:=ab) (tgt:=tgt) (λm hm=>cD m (hP hm)) J i E _ λt s2 v t2 bT=> ?_
   obtain ⟨ak,du,wr,St,M,O,n6,oL,ew,xC⟩:=bT
   have f2:dy T t cx env σ s2.heap:=i.fr.ba t2 i.wd
   refine m' (N? ?_)
   have FR: ∀b∈du,(∃o,s2.heap.get? b=I o)∧ ¬et T.dZ t.aD b:=λb ae=>⟨(ew b ae).1,(ew b ae).2.1⟩
   dsimp only
   generalize sO:s2.heap.push {cls:= .type "list",dict:=ah,data:= .seq ([]:List az).toArray}=H1
   have Y:H1.objs.size=s2.heap.objs.size+1:=by rw[←sO];exact hb ..
   have i_:dI s2.heap H1:=λb o e=>by rw[←sO];exact dE _ e
   have FC:H1.get? s2.heap.objs.size=I {cls:= .type "list",dict:=ah,data:= .seq ([]:List az).toArray}:=by rw[←sO];exact d9 _ rfl
   have k': ∀b o,H1.get? b=I o→(pushCells (H1.push {cls:= .type "dict",data:= .dict #[]}) d.names).get? b=I o:=λb o e=>Dr _ _ b o (dE _ e)
   have fV:(pushCells (H1.push {cls:= .type "dict",data:= .dict #[]}) d.names).Ns H1.objs.size λ_=>none:=(ake H1 (.type "dict")).keeps (Dr _ _)
   have iu: ∀n c,(n,c)∈cellsFrom (H1.objs.size+1) d.names (ip env d.names [])→(n,c)∈ip env d.names []∨(H1.objs.size+1≤c∧(pushCells (H1.push {cls:= .type "dict",data:= .dict #[]}) d.names).IsCell c ah∧(n,NameKind.cell)∈d.names):=λn c hm=>by
    have aC:(H1.push {cls:= .type "dict",data:= .dict #[]}).objs.size=H1.objs.size+1:=hb ..
    rw[←aC] at hm⊢
    exact KG hm
   generalize pushCells (H1.push {cls:= .type "dict",data:= .dict #[]}) d.names=f at k' fV iu
   have aV:dI s2.heap f:=λb o e=>k' b o (i_ b o e)
   have R:s2.heap.get? s2.heap.objs.size=none:=i? _
   have sQ:s2.heap.get? H1.objs.size=none:=kP (by rw[Y];exact jD _)
   have xt:s2.heap.objs.size≠H1.objs.size:=by rw[Y];exact (RI _).symm
   have sN:f.get? s2.heap.objs.size=I {cls:= .type "list",dict:=ah,data:= .seq ([]:List az).toArray}:=k' _ _ FC
   have C!:=f2.comp M gF H1.objs.size (by rw[Y];exact jD _) aV fV iu
   have D':=C!.1
   have Eg:=C!.2.1
   have w0:=C!.2.2.1
   have Gf:=C!.2.2.2
   have t3:bW T t s2 (t.news s2.heap f) {s2 with heap:=f,toks:=s2.toks}:= .news aV (bh _)
   have hj:aW T (t.news s2.heap f) w1 {s2 with heap:=f,toks:=s2.toks}:=M.news aV (bh _)
   have FD: ∀x c,dD d x=ab→(compEnv d H1.objs.size env).cells.lookup x=I c→s2.heap.objs.size≠c:=λx c af p=>hg (oh (Y▸gv _) (w0 x c af p))
   have X:e' T {cx with sc:=d} (compEnv d H1.objs.size env) (σ.hide (Scope.dq d)) (λb=>(∃o,s2.heap.get? b=I o)∧b∉wr) t s2 wr St s2.heap.objs.size 0 (t.news s2.heap f) w1 [] [] {s2 with heap:=f,toks:=s2.toks}:={
    bw:=t3.bw M
    wd:=hj
    fr:=D'
    bd:=G.nX M R sN
    lst:=⟨_,sN,rfl,0,rfl⟩
    aX:= .nil
    st:=O.frame 0 _ _ n6 λb ae o e=>aV b o e
    wr:=λb ae=>(oL b ae).1.vW t3 M}
   have loop:codeAny T.mo A (.compLoop (.ListComp elt [⟨tgt,it,ifs,0⟩] d pos) 0 (.ref ak) (.ref s2.heap.objs.size) (compEnv d H1.objs.size env))
     (compPost T.mo A E use Q (.ref s2.heap.objs.size) H1.objs.size) {s2 with heap:=f}:=by
    refine VX (cx:={cx with sc:=d}) (K:=λb=>(∃o,s2.heap.get? b=I o)∧b∉wr) (K':=λb=>b≠H1.objs.size∧ ∀x c,dD d x=ab→(compEnv d H1.objs.size env).cells.lookup x=I c→b≠c) (N:=n+1) cD rfl i.b7 O FR (λb z=>⟨z.2,z.1⟩) (λb z=> ?_) ⟨xt,λx c af p=>FD x c af p⟩ R Eg bH (λx af=> ?_) (λy amx done cq s4 j c x l af av a5=> ?_) (bh _) ag X λy cq s4 bo aG c H P=> ?_
    ·obtain ⟨o,e⟩:=z
     exact ⟨λq=>nn (sQ.symm.trans (q▸e)),λx c af p q=>nn ((kP (iS (oh (Y▸gv _) (w0 x c af p)))).symm.trans (q▸e))⟩
    ·rw[aA.uV,a_ (BV af)]
    ·refine hG (Gf x l af av) λek a q=>q.2.2.1.elim λo L=>q.2.2.2.1.elim λaei Gd=> ?_
     have p9:ek∉wr:=λz=>jk (xC ek z) λcz bA e fR=>nomatch (aQ pk (inj (L.1.symm.trans e))).symm.trans L.2|>.symm.trans fR
     have hk:=c.bw.old ek o ⟨⟨o,L.1⟩,p9⟩ L.1 q.2.2.2.2.2
     exact fe (a5.cellOf q.2.1) λc5 u aN _=>aN.elim λg8 r=>by
      have aN:I (Value.ref s2.heap.objs.size)=I (.ref a):=by
       have kx:=r.1
       rw[←inj (q.1.symm.trans u),hk] at kx
       rw[←inj kx,L.2] at r
       injection r.2.symm
      injection inj aN with aN
      exact nn (R.symm.trans (aN▸Gd))
    ·
     have q':H1.objs.size∉wr:=λz=>jk (O.live _ _ n6 _ z) λo bA e _=>nn (sQ.symm.trans e)
     have lP:s2.heap.objs.size∉wr:=λz=>jk (O.live _ _ n6 _ z) λo bA e _=>nn (R.symm.trans e)
     have pI:cL T y H1.objs.size:=c.fr.loc
     have pP:aW T (y.less wr) w' {s4 with heap:=bo,toks:=aG}:=c.wd.less c.wr H P
     have Z: ∀{b o},s.heap.get? b=I o→b∉wr:=λ{b o} e z=>nn ((oL b z).2.symm.trans e)
     have fin:bW T g s (y.less wr) {s4 with heap:=bo,toks:=aG}:={
      keep:=λb o e nw=>
       have u:=t2.keep b o e nw
       H b o (Z e) (c.bw.old b o ⟨⟨o,u⟩,Z e⟩ u λz=>(t2.ej b z).elim nw λz=>nn (z.symm.trans e))
      ex:=λb o e=>(t2.ex b o e).elim λg8 u=>(c.bw.ex b g8 u).imp λqs hk=>H b qs (Z e) hk
      hD:=λb z=>(i.wd.ex b z).elim λo e=>⟨c.bw.la b ⟨t2.ex b o e,Z e⟩ (t2.hD b z),Z e⟩
      iI:=λb z=>(c.bw.iI z.1).elim (t2.iI b) λh=> .inr (t2.none h)
      eJ:=t2.eJ.elim λa i2=>c.bw.eJ.elim λb mC=>⟨a++b,mC.trans (by rw[i2,iT])⟩
      ej:=λb z=>(c.bw.ej b z).elim (t2.ej b) λh=> .inr (t2.none h)
      gens:=c.bw.gens.trans t2.gens
      os:=c.bw.os.trans t2.os
      aG:=cG (cG t2.aG c.bw.aG) P}
     refine c.fr.dict.elim λvm u4=> ?_
     refine k _ _ _ _ fin ⟨s2.heap.objs.size,cq,rfl,t2.none R,pP,⟨⟨c.bd.1,lP⟩,c.bd.2⟩,?_,?_⟩ ⟨⟨pI.1,q'⟩,pI.2⟩ (t2.none sQ) xt ⟨vm,u4.at λo e=>H _ o q' e⟩
     ·obtain ⟨o,e,r⟩:=c.lst
      exact ⟨o,H _ o lP e,r⟩
     ·have bJ:cS y.B s4.heap (y.less wr).B bo:= .less (λb ae=>(c.wr b ae).1) H
      have:=c.aX.bJ bJ []
      rwa [e0] at this
   exact akf loop (O.self 0 _ _ _ X.st loop)
theorem adw (v: ∀m,m≤n+1→da T m) {elt it:Expr} {ifs:List Expr} {pos:Pos} {f:Scope} {l:List U} (ag:ei (n+1+1) cx (.ListComp elt [⟨tgt,it,ifs,0⟩] f pos) σ w=I (l,w')) (i:cO T cx env σ A g w s):
  aS T A (eval (.ListComp elt [⟨tgt,it,ifs,0⟩] f pos) env) g s (jI T s w' l):=by
 intro E Q k
 rw[eval_ListComp]
 refine KX v ag i λg1 s1 D C t1 q x gb j hm=> ?_
 obtain ⟨m,hm⟩:=hm
 refine ⟨m,hm,λaa f3=> ?_⟩
 obtain ⟨a,vs,e,aJ,u,h,p,aX⟩:=q
 cases e
 have ae: ∀b∈[C],cL T g1 b∧s.heap.get? b=none:=λb z=>by rw[ep] at z;subst z;exact ⟨x,gb⟩
 have c: ∀b o,b∉[C]→s1.heap.get? b=I o→aa.get? b=I o:=λb o z e=>(f3.2 b (by simpa using z)).trans e
 refine k (g1.less [C]) _ _ (t1.less (t:=s1.toks) i.wd ae c (bh _)) ⟨D,vs,rfl,aJ,u.less (λb z=>(ae b z).1) c (bh _),⟨⟨h.1,by simpa using j⟩,h.2⟩,?_,?_⟩
 ·obtain ⟨o,d⟩:=p
  have e:=d.1
  have r:=d.2
  exact ⟨o,c _ o (by simpa using j) e,r⟩
 ·have bJ:cS g1.B s1.heap (g1.less [C]).B aa:= .less (λb z=>(ae b z).1.1) c
  have:=aX.bJ bJ []
  rwa [e0] at this
end
structure bQ (T:cA) (K:aP→Prop) (cx:bY) (env:Env) (σ:aA) (A:eU) (g:G) (w:W) (s:aH):Prop where
 fr:dy T g cx env σ s.heap
 wd:aW T g w s
 b7:Room (20*cx.d+20) A
 wr:nk K cx env
 own: ∀x l a,σ.get x= .own l→(∃k,cx.sc.names.lookup x=I k∧k≠ .globalImplicit)→cB T g s.heap env x (I (.ref a))→ ¬K a
 h4: ∀b,K b→ ∃o,s.heap.get? b=I o
 sc:env.scope=cx.sc
 eb:interactive env=aq
section
variable {K:aP→Prop} {σ σ':aA} {s:aH} {n:Nat} {wr:List aP}
theorem bQ.inn (f:bQ T K cx env σ A g w s):cO T cx env σ A g w s:=⟨f.fr,f.wd,f.b7⟩
theorem bQ.ba (f:bQ T K cx env σ A g w s) (t:bW T g s g' s') (d:aW T g' w' s'):bQ T K cx env σ A g' w' s' where
 fr:=f.fr.ba t f.wd
 wd:=d
 b7:=f.b7
 wr:=f.wr
 own x l a e q z:=by
  obtain ⟨k,av,a5⟩:=id q
  obtain ⟨v,c⟩:=f.fr.nm x k av a5
  have cP:=c.1
  exact f.own x l a e q (cP.back (cP.ba t f.wd f.fr.loc) z)
 h4 b z:=let ⟨o,e⟩:=f.h4 b z;t.ex b o e
 sc:=f.sc
 eb:=f.eb
def ownAt (T:cA) (g:G) (cx:bY) (env:Env) (σ:aA) (h:bU) (a:List Str) (b:aP):Prop:=
 ∃x l,a.contains x=ab∧σ.get x= .own l∧(∃k,cx.sc.names.lookup x=I k∧k≠ .globalImplicit)∧cB T g h env x (I (.ref b))
theorem n1 (f:dy T g cx env σ s.heap) (e:σ.get x= .own l) (q: ∃k,cx.sc.names.lookup x=I k∧k≠ .globalImplicit) (n:cB T g s.heap env x (I (.ref b))):
  ∃vs,cL T g b∧dk s.heap b (mh vs)∧IsL g.B g.aD s.heap l vs:=
 cM q λk av a5=>cM (f.nm x k av a5) λv cP sl=>iZ (e▸sl:gA T g s.heap (.own l) v) λa vs ev ae c aX=>by
  cases inj (ev.symm.trans (cP.one n))
  exact ⟨vs,ae,c,aX⟩
theorem bQ.Ca (f:bQ T K cx env σ A g w s) (d: ∀{x v},cB T g s.heap env x v→cB T g' h' env x v) (h: ∀y m,σ'.get y= .own m→ ∃c,σ.get y= .own c):
  ∀x l a,σ'.get x= .own l→(∃k,cx.sc.names.lookup x=I k∧k≠ .globalImplicit)→cB T g' h' env x (I (.ref a))→ ¬K a:=
 λx l a e q z=>(h x l e).elim λm b=>cM q λk av a5=>cM (f.fr.nm x k av a5) λv cP Z=>f.own x m a b q (cP.back (d cP) z)
noncomputable def i5 (c:Bool):Slot→Slot
 | .own l=>if c then .val (.list l) else .own l
 |u=>u
theorem aA.LR (σ:aA) (a:List Str) (x:Str):(σ.freeze a).get x=i5 (a.contains x) (σ.get x):=by
 rw[aA.YW]
 cases a.contains x<;>cases σ.get x<;>rfl
theorem bQ.freeze (f:bQ T K cx env σ A g w s) (a:List Str): ∃g',dc T K g s g' s∧bQ T K cx env (σ.freeze a) A g' w s:=by
 have d3: ∀{b},ownAt T g cx env σ s.heap a b→(∃vs,cL T g b∧dk s.heap b (mh vs))∧ ¬K b:=λ{b} p=>iZ p λx l Z e q n=>⟨(n1 f.fr e q n).elim λvs r=>⟨vs,r.1,r.2.1⟩,f.own x l b e q n⟩
 generalize C:ownAt T g cx env σ s.heap a=P at d3
 have bJ:cS g.B s.heap (λb=>g.B b∧ ¬P b) s.heap:=λb o e n=>⟨e,λq=>n q.1⟩
 have bw:dc T K g s ⟨λb=>g.B b∧ ¬P b,g.aD⟩ s:=⟨bJ,λb o Z e Z=>e,λb k z=>⟨z,λp=>(d3 p).2 k⟩,λb o e=>⟨o,e⟩,⟨[],(e0 _).symm⟩,λb z=> .inl z,rfl,rfl,bh _⟩
 have h: ∀{b},et T.dZ g.aD b→ ¬P b:=λ{b} z p=>(d3 p).1.elim λZ r=>r.1.2 z
 have D: ∀{x v},cB T g s.heap env x v→cB T ⟨λb=>g.B b∧ ¬P b,g.aD⟩ s.heap env x v:=λ{x v} n=>n.move (λm x=>x) λc ae aN=>⟨⟨⟨ae.1,λp=>(d3 p).1.elim λZ r=>x5 r.2.eW aN⟩,ae.2⟩,aN⟩
 have E: ∀y m,(σ.freeze a).get y= .own m→ ∃M,σ.get y= .own M:=λy m e=>by
  rw[aA.LR] at e
  generalize σ.get y=sl at e
  induction sl using Slot.casesOn with
  |own l=>exact ⟨l,rfl⟩
  |unset=>cases e
  |val=>cases e
 refine ⟨_,bw,f.fr.move ⟨⟨f.fr.loc.1,λp=>(d3 p).1.elim λZ r=>f.fr.dict.elim λm hm=>vw hm r.2.eW⟩,f.fr.loc.2⟩ (λm x=>x) D E λx v k cP sl=> ?_,?_,f.b7,f.wr,f.Ca D E,f.h4,f.sc,f.eb⟩
 ·rw[aA.LR]
  have sep:=λy l' l c j t u d cP=>f.fr.sep x y l l' c d j k t cP u
  generalize d:σ.get x=s0 at sl
  induction s0 using Slot.casesOn with
  |own l=>
   cases af:a.contains x with
   |true=>exact iZ sl λc vs ev b1 c1 i1=>⟨.ref c,ev,.list (λz=>z.2 (C▸⟨x,l,af,d,k,ev▸cP⟩)) c1 (i1.xn bJ)⟩
   |false=>exact sl.move (sl:= .own l) bJ rfl λc vs Z ev b1 c1=>⟨⟨⟨b1.1,C▸λp=>iZ p λy l' a9 j t u=>cv (af.symm.trans (sep y l' l c j t u d (ev▸cP)▸a9))⟩,b1.2⟩,c1⟩
  |unset=>trivial
  |val p=>exact sl.move (sl:= .val p) bJ rfl λc vs L=>L.elim λl z=>by cases z
 ·exact {
   aG:=f.wd.aG
   base:=λb o e=>⟨(f.wd.base b o e).1,λq=>(f.wd.base b o e).2 q.1⟩
   ex:=λb z=>f.wd.ex b z.1
   dG:=λb z=>⟨f.wd.dG b z,h z⟩
   tab:=T.m2 f.wd.tab bJ λb o Z e=>e
   len:=f.wd.len
   c3:=λi l x H J=>T.k! (f.wd.c3 i l x H J) bJ λc o z e=>e
   fT:=f.wd.fT
   fz:=f.wd.fz}
theorem lS (h:held sc x=ab): ∃k,sc.names.lookup x=I k∧k≠ .globalImplicit:=by
 unfold held at h
 generalize sc.names.lookup x=o at h
 induction o using d5 with
 |none=>exact (cv h).elim
 |some k=>exact ⟨k,rfl,λz=>by rw[z] at h;exact cv h⟩
theorem B? (h:σ.own? sc x=I l):held sc x=ab∧σ.get x= .own l∧l.length≤1048576:=by
 refine ⟨cu h,?_⟩
 replace h:=cy h
 generalize σ.get x=sl at h
 induction sl using Slot.casesOn with
 |own l'=>exact ⟨aQ Slot.own (inj (cy h)),inj (cy h)▸cu h⟩
 |_=>exact aR h
theorem bQ.upd {l l':List U} {vs':List az} {t:Nat} (f:bQ T K cx env σ A g w s) (af:held cx.sc x=ab) (e:σ.get x= .own l) (d:cB T g s.heap env x (I (.ref a)))
  (au: ∀b o,b≠a→s.heap.get? b=I o→h'.get? b=I o) (p:dk h' a vs'.toArray) (aX:IsL g.B g.aD s.heap l' vs') (k:s.toks≤t):
  dc T K g s g {s with heap:=h',toks:=t}∧bQ T K cx env (σ.set x (.own l')) A g w {s with heap:=h',toks:=t}∧cB T g h' env x (I (.ref a))∧(∀y u,cB T g s.heap env y u→cB T g h' env y u):=by
 have q:=lS af
 refine fe (n1 f.fr e q d) λvs ae r Z=> ?_
 have bJ:cS g.B s.heap g.B h':=λH o e n=>⟨au H o (λq=>n (q▸ae.1)) e,n⟩
 have ns: ∀m,s.heap.Ns env.locals m→h'.Ns env.locals m:=λm x=>x.at λo e=>au _ _ (λq=>vw (q▸x) r.eW) e
 have h: ∀{x v},cB T g s.heap env x v→cB T g h' env x v:=λ{x v} n=>n.move ns λc ag aN=>⟨ag,aN.elim λo e=>⟨o,au _ _ (λq=>x5 r.eW (q▸aN)) e.1,e.2⟩⟩
 have aJ: ∃o,h'.get? a=I o:=p.elim λo e=>⟨o,e.1⟩
 have C: ∀y m,(σ.set x (.own l')).get y= .own m→ ∃J,σ.get y= .own J:=λy m i=>by
  rw[aA.get_set] at i
  by_cases a9:x=y
  ·exact ⟨l,a9▸e⟩
  ·rw[a3 a9] at i;exact ⟨m,i⟩
 refine ⟨.one (dr:=s.drawn) ae (f.own x l a e q d) au aJ k,⟨f.fr.move f.fr.loc ns h C λy v j cP sl=> ?_,f.wd.one ae au aJ k,f.b7,f.wr,f.Ca h C,λb z=>(f.h4 b z).elim λo M=>⟨o,au b o (λj=>f.own x l a e q d (j▸z)) M⟩,f.sc,f.eb⟩,h d,λy u n=>h n⟩
 rw[aA.get_set]
 by_cases a9:x=y
 ·rw[a_ a9]
  exact ⟨a,vs',cP.one (a9▸d),ae,p,aX.xn bJ⟩
 ·rw[a3 a9]
  exact sl.move bJ rfl λc us E ev ag L=>⟨ag,L.elim λo c1=>⟨o,au c o (λz=>E.elim λm D=>a9 (f.fr.sep x y l m c e D q j (z▸d) (ev▸cP))) c1.1,c1.2⟩⟩
end
inductive kW (g:G) (h:bU):fx→Flow→Prop
 |next:kW g h .next .next
 |brk:kW g h .brk .brk
 |cont:kW g h .cont .cont
 |ret {p v}:Is g.B g.aD h p v→kW g h (.ret p) (.ret v)
noncomputable def cH (T:cA) (K:aP→Prop) (cx:bY) (env:Env) (A:eU) (t:Sem Flow) (g:G) (s:aH) (r:fx×aA×W):Prop:=
 ∀(E:az→aH→Prop) (Q:Flow→aH→Prop),(∀g' s' fl,dc T K g s g' s'→bQ T K cx env r.2.1 A g' r.2.2 s'→kW g' s'.heap r.1 fl→Q fl s')→aU T.mo A t Q E s
section
variable {T:cA} {K:aP→Prop} {cx:bY} {env:Env} {σ σ':aA} {A:eU} {g g' g1:G} {w w' w1:W} {s s' s1:aH} {n:Nat} {tgt:Expr} {wr:List aP} {D:aP} {l:List U} {x:Str} {v:az}
theorem bQ.next (f:bQ T K cx env σ A g w s) (t:dc T K g s g' s') (fr:dy T g' cx env σ' s'.heap) (d:aW T g' w' s')
  (own: ∀x l a,σ'.get x= .own l→(∃k,cx.sc.names.lookup x=I k∧k≠ .globalImplicit)→cB T g' s'.heap env x (I (.ref a))→ ¬K a):bQ T K cx env σ' A g' w' s':=
 ⟨fr,d,f.b7,f.wr,own,λb z=>let ⟨o,e⟩:=f.h4 b z;t.ex b o e,f.sc,f.eb⟩
theorem bQ.kept (f:bQ T K cx env σ A g w s) (t:dc T K g s g s') (fr:dy T g cx env σ' s'.heap) (d:aW T g w' s') (k:Kept T g env σ σ' s s'):bQ T K cx env σ' A g w' s':=
 f.next t fr d λx l a e q z=>by
  obtain ⟨c,cP⟩:=k x l e
  obtain ⟨fW,av,a5⟩:=id q
  obtain ⟨u,h⟩:=f.fr.nm x fW av a5
  have b:=h.1
  have:=(cP u b).one z
  exact f.own x l a c q (this▸b)
theorem bQ.Hu (f:bQ T K cx env σ A g w s) {y:Str} {u:Option az} {h:bU} (n:cB T g' h env y u): ∃k,cx.sc.names.lookup y=I k∧k≠ .globalImplicit:=by
 have e: ∀k,env.kindOf y=I k→cx.sc.names.lookup y=I k:=λk h=>by rw[←f.sc];exact h
 rcases n with ⟨k,_⟩|⟨k|k,_⟩
 ·exact ⟨_,e _ k,by decide⟩
 ·exact ⟨_,e _ k,by decide⟩
 ·exact ⟨_,e _ k,by decide⟩
theorem Kj {E:az→aH→Prop} {Q:Unit→aH→Prop} (f:bQ T K cx env σ A g w s) (t1:bW T g s g1 s1) (r:jI T s w1 l g1 s1 v) (hm:dD cx.sc x=ab) (M:sh X env x)
  (q: ∀s2,dc T (λb=>K b∨X b) g1 s1 g1 s2→bQ T K cx env (σ.set x (.own l)) A g1 w1 s2→Q () s2):aU T.mo A (bindName env x v) Q E s1:=by
 obtain ⟨a,vs,rfl,aJ,H,k0,P,aX⟩:=r
 have f1:=f.ba t1 H
 obtain ⟨k,C⟩:=oU hm
 have av:=C.1
 have Z:=C.2
 have hw:sh (λb=>K b∨X b) env x:=by
  rcases f.wr x hm with ⟨bp,J⟩|⟨bp,J⟩
  ·rcases M with ⟨_,aa⟩|⟨bK,_⟩
   ·exact .inl ⟨bp,λz=>z.elim J aa⟩
   ·rw[bp] at bK;cases bK
  ·rcases M with ⟨bK,_⟩|⟨_,aa⟩
   ·rw[bp] at bK;cases bK
   ·exact .inr ⟨bp,λc ag z=>z.elim (J c ag) (aa c ag)⟩
 have x_: ∀y m,σ.get y= .own m→ ¬cB T g1 s1.heap env y (I (.ref a)):=λy m h n=>by
  have i:=f.Hu n
  obtain ⟨t,j,p⟩:=id i
  obtain ⟨u,d,_⟩:=f.fr.nm y t j p
  have:=(d.ba t1 f.wd f.fr.loc).one n
  subst this
  obtain ⟨vs,_,⟨o,e,_⟩,_⟩:=n1 f.fr h i d
  rw[aJ] at e;exact aR e
 refine rC (K:=λb=>K b∨X b) (sl:= .own l) f1.fr H av Z hw ⟨a,vs,rfl,k0,P,aX⟩ (λy l' m c a9 aK O Y=>by cases Y;exact x_ y m O) λs2 t2 f2 R aR hM=>q s2 t2 ?_
 refine f1.next (t2.weak λb z=> .inl z) f2 R λy m b h i L=> ?_
 rw[aA.get_set] at h
 split at h
 ·rename_i a9
  subst a9
  have:=aR.one L
  cases this
  intro z
  obtain ⟨o,e⟩:=f.h4 _ z
  rw[aJ] at e;cases e
 ·rename_i a9
  obtain ⟨t,j,p⟩:=id i
  obtain ⟨u,d,_⟩:=f1.fr.nm y t j p
  have:=(hM y u (gu a9) d).one L
  subst this
  exact f1.own y m b h i d
theorem mb (h:Br e=aq):swapsWith e t line env=pure false:=by
 induction e using eC<;>first|rfl|(exact bF h.symm cv;done)
theorem ajh (f:bQ T K cx env σ A g w s) (hm:dD cx.sc x=ab):sh (λZ=>False) env x:=by
 rcases f.wr x hm with ⟨bp,_⟩|⟨bp,_⟩
 ·exact .inl ⟨bp,λz=>z⟩
 ·exact .inr ⟨bp,λZ Z z=>z⟩
theorem zS {E:az→aH→Prop} {Q:Flow→aH→Prop} (au:swapsWith e (I (.Name x j)) pos.line env=pure aq) (f:bQ T K cx env σ A g w s) (hm:dD cx.sc x=ab)
  (h:aS T A (eval e env) g s (Res T w1 p)) (q: ∀g' s',dc T K g s g' s'→bQ T K cx env (σ.set x (.val p)) A g' w1 s'→Q .next s'):aU T.mo A (exec (.Assign [.Name x j] e pos) env) Q E s:=by
 rw[RO _ _ _ _ _ au]
 refine aw (fF (aw (h E _ λg1 s1 v t1 a=>aw (fF (aw ?_)))))
 have f1:=f.ba t1 a.1
 obtain ⟨k,b⟩:=oU hm
 have av:=b.1
 have d:=b.2
 refine rC (K:=K) (sl:= .val p) f1.fr a.1 av d (f.wr x hm) ⟨v,rfl,a.2⟩ (λZ Z Z Z Z z=>by cases z) λs2 t2 f2 c aR i=>bj (q _ _ ((t1.bw f.wd).trans t2) (f1.kept t2 f2 c λy l e=>Ct e λa9 e=>⟨e,λu=>i y u (gu a9)⟩))
theorem J' {E:az→aH→Prop} {Q:Flow→aH→Prop} (au:swapsWith e (I (.Name x c)) pos.line env=pure aq) (f:bQ T K cx env σ A g w s) (hm:dD cx.sc x=ab)
  (h:aS T A (eval e env) g s (jI T s w1 l)) (q: ∀g' s',dc T K g s g' s'→bQ T K cx env (σ.set x (.own l)) A g' w1 s'→Q .next s'):aU T.mo A (exec (.Assign [.Name x c] e pos) env) Q E s:=by
 rw[RO _ _ _ _ _ au]
 refine aw (fF (aw (h E _ λg1 s1 v t1 a=>aw (fF (aw ?_)))))
 exact Kj f t1 a hm (ajh f hm) λs2 t2 f2=>bj (q _ _ ((t1.bw f.wd).trans (t2.weak λb z=> .inl z)) f2)
theorem TP (cD: ∀m,m≤n+1→da T m) {E:az→aH→Prop} {Q:Flow→aH→Prop} {elt it:Expr} {ifs:List Expr} {d:Scope} {H i pos:Pos}
  (au:swapsWith (.ListComp elt [⟨tgt,it,ifs,0⟩] d H) (I (.Name x i)) pos.line env=pure ab) (f:bQ T K cx env σ A g w s) (hm:dD cx.sc x=ab)
  (ag:ei (n+1+1) cx (.ListComp elt [⟨tgt,it,ifs,0⟩] d H) σ w=I (l,w1)) (q: ∀g' s',dc T K g s g' s'→bQ T K cx env (σ.set x (.own l)) A g' w1 s'→Q .next s'):aU T.mo A (exec (.Assign [.Name x i] (.ListComp elt [⟨tgt,it,ifs,0⟩] d H) pos) env) Q E s:=by
 rw[exec_Assign_Name_used _ _ _ _ au]
 refine aw (fF (aw ?_))
 show aU _ A (do let _←comprehension (.ListComp elt [⟨tgt,it,ifs,0⟩] d H) d env _ (newList []) aq (eval it env) (I (assign (.Name x i) env))) _ _ s
 refine aw ?_
 refine KX cD ag f.inn (use:=I (assign (.Name x i) env)) λg1 s1 D C t1 bc R gb uY L=> ?_
 obtain ⟨m,L⟩:=L
 show aU _ A (assign (.Name x i) env (.ref D)) _ _ s1
 rw[aj1]
 refine aw (fF ?_)
 have J:env.locals≠C:=λz=>by
  obtain ⟨m,o,es,p,M⟩:=f.fr.dict
  have e:=M.1
  rw[z,gb] at e;exact aR e
 have Zw:sh (λb=>b=C) env x:=by
  obtain ⟨k,av,gE⟩:=oU hm
  rcases f.wr x hm with ⟨bp,_⟩|⟨bp,_⟩
  ·exact .inl ⟨bp,J⟩
  ·refine .inr ⟨bp,λc ag z=> ?_⟩
   obtain ⟨u,O⟩:=f.fr.nm x k av gE
   have t:=O.1
   rcases t with ⟨bK,_⟩|⟨_,c5,lR,⟨o,e,_⟩,_⟩
   ·rw[bp] at bK;cases bK
   ·rw[ag] at lR;cases lR
    rw[z,gb] at e;exact aR e
 refine Kj f t1 bc hm Zw λs2 t2 f2=> ?_
 have j:s2.heap.Ns C m:=by
  obtain ⟨o,es,p,e,r⟩:=L
  exact ⟨o,es,p,t2.old C o (.inr rfl) e R.2,r⟩
 refine ⟨m,j,λay f3=>bj (bj ?_)⟩
 have h: ∀b o,b∉[C]→s2.heap.get? b=I o→ay.get? b=I o:=λb o z e=>(f3.2 b (by simpa using z)).trans e
 have ae: ∀b∈[C],cL T g1 b∧s.heap.get? b=none:=λb z=>by rw[ep] at z;subst z;exact ⟨R,gb⟩
 have sU: ∀b∈[C],cL T g1 b∧(∀Z,¬dk s2.heap b Z)∧(∀v,¬s2.heap.IsCell b v)∧b≠env.locals:=λb z=>by
  rw[ep] at z;subst z
  exact ⟨R,λZ y=>vw j y.eW,λv y=>x? j y,gu J⟩
 have t3:dc T K g s (g1.less [C]) {s2 with heap:=ay,toks:=s2.toks}:=((t1.bw f.wd).trans (t2.weak λb z=> .inl z)).less f.wd ae h (bh _)
 have uU:=f2.fr.less sU h
 refine q _ _ t3 (f.next t3 uU (f2.wd.less (λb z=>(ae b z).1) h (bh _)) λy m a e kL n=> ?_)
 obtain ⟨mQ,mJ,mL⟩:=id kL
 obtain ⟨u,P⟩:=f2.fr.nm y mQ mJ mL
 have t:=P.1
 have vo:cB T (g1.less [C]) ay env y u:=by
  rcases t with ⟨k,m,hm,e⟩|⟨k,c,ag,⟨o,e,aN⟩,aC⟩
  ·obtain ⟨o,es,p,X⟩:=hm
   have w!:=X.1
   have r:=X.2
   exact .inl ⟨k,m,⟨o,es,p,h _ o (by simpa using J) w!,r⟩,e⟩
  ·have Y:c≠C:=λz=>x? (v:=u) j ⟨o,z▸e,aN⟩
   exact .inr ⟨k,c,ag,⟨o,h _ o (by simpa using Y) e,aN⟩,⟨⟨aC.1,by simpa using Y⟩,aC.2⟩⟩
 have:=vo.one n
 subst this
 exact f2.own y m a e kL t
theorem VW (f:Br e=ab) (h:ei (n+1) cx e σ w=I r): ∃a b c d,e= .ListComp a b c d:=by
 induction e using eC with
 |ListComp a b c d=>exact ⟨a,b,c,d,rfl⟩
 |Call=>exact (cv f).elim
 |List=>exact (cv f).elim
 |_=>exact aR h
theorem ad7 (a: ¬u? e=ab) (h:ev (n+1) cx e σ w=I r):Br e=false:=by
 induction e using eC with
 |ListComp=>exact (a rfl).elim
 |SetComp=>exact aR h
 |DictComp=>exact aR h
 |_=>rfl
theorem XS (j: ∀m,m≤n→da T m) {e:Expr} {i pos:Pos} {sl:Slot} (h:sC n cx e σ w=I (sl,w1)) (hm:dD cx.sc x=ab) (f:bQ T K cx env σ A g w s):cH T K cx env A (exec (.Assign [.Name x i] e pos) env) g s (.next,σ.set x sl,w1):=by
 induction n using fJ with
 |zero=>exact aR h
 |succ n=>
 refine g6 h (λk h=>aO (rh h) λr J aa=> ?_) λk h=>aO h λr J aa E Q q=> ?_
 ·have a:=kh aa
  rw[←a.1,←a.2]
  have y:=any_false (tl h)
  clear h aa a
  have own:swapsWith e (I (.Name x i)) pos.line env=pure aq→cH T K cx env A (exec (.Assign [.Name x i] e pos) env) g s (.next,σ.set x (.own r.1),r.2):=λau E Q q=>
   J' au f hm ((j n (jD n)).ei J f.inn) λg' s' t d=>q g' s' .next t d .next
  by_cases o:Br e=ab
  ·induction n using fJ with
   |zero=>exact aR J
   |succ n=>
    refine h! (VW o J) λelt c=>hG c λgens u c=>h! c λC c=> ?_
    subst c
    have z:q0 gens=none:=Option.not_isSome_iff_eq_none.mp (hB.mp y)
    refine aO (WH z J) λq p aa=> ?_
    obtain rfl:=KU p
    obtain ⟨b,ae⟩: ∃b,swapsWith (.ListComp elt [⟨q.1,q.2.1,q.2.2,0⟩] u C) (I (.Name x i)) pos.line env=pure b:=⟨_,rfl⟩
    induction b using d1 with
    |false=>exact own ae
    |true=>
     induction n using fJ with
     |zero=>exact aO (cy aa) λZ ay Z=>aR ay
     |succ n=>exact λE Q q=>TP (λm hm=>j m (by exact bE hm)) ae f hm J λg' s' t d=>q g' s' .next t d .next
  ·exact own (mb (any_false o))
 ·have a:=kh aa
  rw[←a.1,←a.2] at q
  induction n using fJ with
  |zero=>exact aR J
  |succ n=>exact zS (mb (ad7 k J)) f hm ((j _ (jD _)).ev J f.inn) λg' s' t d=>q g' s' .next t d .next
end
noncomputable def tP:List Str→List U→aA→aA
 |n::ns,p::ps,σ=>tP ns ps (σ.set n (.val p))
 |_,_,σ=>σ
set_option backward.match.sparseCases true in
noncomputable def nameOf? (env:Env) (line:Nat):Expr→Option Str
 | .Name id pos=>if (env.kindOf id==I .local&&pos.line==line)=ab then I id else ah
 |_=>ah
theorem PO {ts:List Expr} {a:Nat} {b:Pos} {e:Expr} {line:Nat} {env:Env}:swapsWithSole [.Tuple ts a b] e line env=pure false:=by induction e using eC<;>rfl
def SwOk (ts:List Expr) (env:Env) (m:Sem (Option (List Str))):Prop:= ∃line,m=pure (I (ts.filterMap (nameOf? env line)))∧(ts.filterMap (nameOf? env line)).length=ts.length∧(ts.length=2∨ts.length=3)∧(ts.filterMap (nameOf? env line)).eraseDups.length=(ts.filterMap (nameOf? env line)).length
theorem CH {c:Prop} [Decidable c] {X N:Sem (Option (List Str))} (h: ¬c→X=N∨SwOk ts env X):(if c then N else X)=N∨SwOk ts env (if c then N else X):=by
 by_cases z:c
 ·exact .inl (a_ z)
 ·rw[a3 z]
  exact h z
theorem ah0 {a b c:Bool} (h: ¬(!a||b||c)=ab):a=ab∧b=false:=by
 induction a using d1<;>induction b using d1<;>simp at h<;>exact ⟨rfl,rfl⟩
theorem ah1 {b:Bool} (h:(!b)=ab): ¬b=true:=by
 cases b
 ·exact cv
 ·exact bF h cv
theorem ah2 {ts:List Expr} {a:Nat} {b:Pos} {e:Expr} {env:Env} (h:CU e=ab):swappedStores [.Tuple ts a b] e env=pure ah∨SwOk ts env (swappedStores [.Tuple ts a b] e env):=by
 induction e using eC with
 |Tuple vs c p=>
  refine CH λJ=>CH λZ=>CH λay=>CH λd=> ?_
  have f:=(qI.mp h).elim (λh=>bF h d) λh=>h
  refine .inr ⟨_,a3 (ah1 f),?_⟩
  have J:=(ah0 J).1
  rw[t8,bne_iff_ne,bne_iff_ne,not_or,akg,akg] at ay
  rw[t8,beq_iff_eq,beq_iff_eq] at J
  exact ⟨ay.1,J,ay.2⟩
 |_=>exact .inl rfl
section
variable {T:cA} {K K' X:aP→Prop} {cx:bY} {env:Env} {σ σ':aA} {A:eU} {g g' p0 sM bk g1:G} {w w' w1:W} {s s' qx bf s1:aH} {n j:Nat} {tgt:Expr} {wr du:List aP} {St:Nat→bU→Prop} {D ak:aP} {done l:List U} {cq:List az} {items:List U} {x:Str} {v:az}
theorem Ur {E:az→aH→Prop} {Q:Unit→aH→Prop} {ns:List Str}: ∀{ps:List U} {vs:List az} {σ:aA} {s:aH},(∀n∈ns,dD cx.sc n=ab)→ns.length=ps.length→nk K cx env→dy T g cx env σ s.heap→aW T g w s→IsL g.B g.aD s.heap ps vs→
  (∀s',dc T K g s g s'→dy T g cx env (tP ns ps σ) s'.heap→aW T g w s'→Kept T g env σ (tP ns ps σ) s s'→Q () s')→aU T.mo A (assignInOrder (ns.map λn=>bindName env n) vs) Q E s:=by
 induction ns with
 |nil=>
  intro ps vs σ s hm a wr f d aX q
  induction ps using cj with
  |cons=>exact (y_ _ a.symm).elim
  |nil=>exact aX.jd▸bj (q s .refl f d λy l e=>⟨e,λu n=>n⟩)
 |cons n ns c=>
  intro ps vs σ s hm a wr f d aX q
  induction ps using cj with
  |nil=>exact (y_ _ a).elim
  |cons p ps=>
   refine fU aX.hy λv vs' ev i aX=>ev▸ ?_
   show aU _ A (do holding vs' (bindName env n v);assignInOrder (ns.map λn=>bindName env n) vs') Q E s
   have b:=hm n eQ
   exact cM (oU b) λk av H=>aw (fK (rC (K:=K) (sl:= .val p) f d av H (wr n b) ⟨v,rfl,i⟩ (λZ Z Z Z Z z=>by cases z) λs1 t1 f1 t aR J=>
    c (λm h=>hm m (fb _ h)) (pg a) wr f1 t (aX.bw t1) λs2 t2 f2 r bK=>q s2 (t1.trans t2) f2 r λy l e=>
     Ct (bK y l e).1 λa9 o=>⟨o,λu C=>(bK y l e).2 u (J y u (gu a9) C)⟩))
theorem adn {line:Nat} {t:Expr} {n:Str} (h:nameOf? env line t=I n):l1 t=I n:=by
 induction t using eC with
 |Name x p=>exact cy h
 |_=>exact aR h
theorem ads {line:Nat} {sc:Scope} {σ':aA} {ts:List Expr}: ∀{ps:List U} {σ:aA},(ts.filterMap (nameOf? env line)).length=ts.length→pJ sc ts ps σ=I σ'→
  σ'=tP (ts.filterMap (nameOf? env line)) ps σ∧(ts.filterMap (nameOf? env line)).length=ps.length∧ ∀n∈ts.filterMap (nameOf? env line),dD sc n=true:=by
 induction ts with
 |nil=>exact λZ h=>j2.mp (cu h)▸⟨(inj (cy h)).symm,rfl,λZ h=>nomatch h⟩
 |cons t ts c=>
  intro ps σ a h
  induction ps using cj with
  |nil=>exact aR h
  |cons p ps=>
   refine aO h λσ1 J aa=> ?_
   clear h
   generalize b:nameOf? env line t=o
   induction o using d5 with
   |none=>
    rw[Rr b] at a
    exact bF (ajU (nameOf? env line) ts) (by rw[a];exact RP _)
   |some n=>
    rw[Rt b] at a⊢
    have r:=c (pg a) aa
    exact aO J λx af J=>by
     cases inj ((adn b).symm.trans af)
     exact ⟨r.1.trans (aQ (tP _ ps) (inj (cy J)).symm),aQ (·+1) r.2.1,λm d=>(eo.mp d).elim (λz=>z▸cu J) (r.2.2 m)⟩
theorem G4 {α:Type} {l:List α} (h:l.length=2): ∃a b,l=[a,b]:=by
 induction l using cj with
 |nil=>exact nomatch h
 |cons a l=>
  induction l using cj with
  |nil=>exact nomatch pg h
  |cons b l=>
   induction l using cj with
   |nil=>exact ⟨a,b,rfl⟩
   |cons=>exact bF (pg (pg h)) (y_ _)
theorem NC {α:Type} {l:List α} (h:l.length=3): ∃a b c,l=[a,b,c]:=by
 induction l using cj with
 |nil=>exact nomatch h
 |cons a l=>exact hG (G4 (pg h)) λb c e=>⟨a,b,c,aQ _ e⟩
theorem ago {ns:List Str} {ps:List U} (h:ns.length=2∨ns.length=3) (e:ns.length=ps.length) (hd:ns.eraseDups.length=ns.length) (y:Str):(tP ns.reverse ps.reverse σ).get y=(tP ns ps σ).get y:=by
 rcases h with h|h
 ·obtain ⟨a,b,rfl⟩:=G4 h
  obtain ⟨p,q,rfl⟩:=G4 (e.symm.trans h)
  have f:a≠b:=by rintro rfl;simp[wg] at hd
  show ((σ.set b (.val q)).set a (.val p)).get y=((σ.set a (.val p)).set b (.val q)).get y
  rw[aA.get_set,aA.get_set,aA.get_set,aA.get_set]
  by_cases J:a=y
  ·subst J;simp[gu f]
  ·simp[J]
 ·obtain ⟨a,b,c,rfl⟩:=NC h
  obtain ⟨p,q,r,rfl⟩:=NC (e.symm.trans h)
  have d:a≠b∧a≠c∧b≠c:=by
   refine ⟨?_,?_,?_⟩
   ·rintro rfl
    rw[wg] at hd
    simp at hd
    rw[RQ] at hd
    split at hd<;>simp[wg] at hd
   ·rintro rfl
    rw[wg] at hd
    simp[RQ] at hd
    split at hd<;>simp[wg] at hd
   ·rintro rfl
    rw[wg] at hd
    simp[RQ] at hd
    split at hd<;>simp[wg] at hd
  show (((σ.set c (.val r)).set b (.val q)).set a (.val p)).get y=(((σ.set a (.val p)).set b (.val q)).set c (.val r)).get y
  rw[aA.get_set,aA.get_set,aA.get_set,aA.get_set,aA.get_set,aA.get_set]
  by_cases J:a=y
  ·subst J;simp[gu d.1,gu d.2.1]
  ·by_cases aa:b=y
   ·subst aa;simp[J,gu d.2.2]
   ·simp[J,aa]
theorem IsL.reverse {B:aP→Prop} {aD:List ih} {h:bU} {l:List U}: ∀{vs:List az},IsL B aD h l vs→IsL B aD h l.reverse vs.reverse:=by
 induction l with
 |nil=>intro vs x;exact x.jd▸ .nil
 |cons p l c=>
  intro vs x
  refine fU x.hy λu vs e a b=>e▸ ?_
  rw[I9,I9]
  exact (c b).append (.cons a .nil)
theorem XU (P: ∀m,m≤n→da T m) {e:Expr} {ts:List Expr} {a:Nat} {b pos:Pos} {p:U} (gF:CU e=ab) (h:ev n cx e σ w=I (p,w1)) (ae:d2 cx.sc (.Tuple ts a b) p σ=I σ') (f:bQ T K cx env σ A g w s):
  cH T K cx env A (exec (.Assign [.Tuple ts a b] e pos) env) g s (.next,σ',w1):=by
 intro E Q q
 rw[exec_Assign_arm]
 refine aw (fF ?_)
 rw[PO]
 refine aw (bj ?_)
 rw[a3 ar]
 refine aw ((P n (bh n)).ev h f.inn E _ λg1 s1 v t1 d=> ?_)
 have f1:=f.ba t1 d.1
 refine (ah2 (ts:=ts) (a:=a) (b:=b) (env:=env) gF).elim (λau=> ?_) λau=>Ae au λline au H O L=> ?_
 ·rw[au]
  refine aw (bj ?_)
  show aU _ A (do assignAll v [assign (.Tuple ts a b) env];pure .next) Q E s1
  exact aw (wQ f.b7.handled ae f.wr f1.fr d.1 d.2 λs2 t2 f2 o bK=>bj (q _ _ _ ((t1.bw f.wd).trans t2) (f1.kept t2 f2 o bK) .next))
 ·rw[au]
  refine aw (bj ?_)
  have c: ∀{ps:List U} {vs:List az},pJ cx.sc ts ps σ=I σ'→IsL g1.B g1.aD s1.heap ps vs→(∀k:List az→aH→Prop,(∀h',(dI s1.heap h')→k vs {s1 with heap:=h'})→aU T.mo A (unpackItems v vs.length ah) k E s1)→
    aU T.mo A (assignStores env v (I (ts.filterMap (nameOf? env line))) ((assignEach [.Tuple ts a b] env).map (·.2))) Q E s1:=λ{ps vs} r aX b0=>by
   have i:=ads H r
   have J:=λy=>ago (σ:=σ) (H▸O) i.2.1 L y
   generalize ts.filterMap (nameOf? env line)=ns at i J
   show aU _ A (do rule "assign.swapped-stores";let items←unpackItems v ns.length ah;assignInOrder (ns.reverse.map λn=>bindName env n) items.reverse;pure .next) Q E s1
   refine aw (lx (aw ?_))
   rw[i.2.1,aX.length]
   refine b0 _ λh' M=> ?_
   have t2:bW T g1 s1 g1 {s1 with heap:=h'}:= .grow (t:=s1.toks) (dr:=s1.drawn) M (bh _)
   have o:=d.1.grow (s':={s1 with heap:=h'}) M (bh _)
   have f2:=f1.ba t2 o
   exact aw (Ur (λn a5=>i.2.2 n (RR.mp a5)) (by rw[I',I',i.2.1]) f.wr f2.fr o (aX.ba t2 d.1).reverse λs3 t3 dW R dg=>bj
    (q _ _ _ (((t1.trans t2).bw f.wd).trans t3) (f2.kept t3 (dW.weak λy=> .inl ((aQ (aA.get · y) i.1).trans (J y).symm)) R λy l e=>dg y l ((J y).trans ((aQ (aA.get · y) i.1.symm).trans e))) .next))
  clear H O L
  refine aO (show (Pj p).bind (λl=>pJ cx.sc ts l σ)=I σ' from ae) λps u r=> ?_
  have i1:=d.2
  clear ae q au d h
  induction i1 using Is.casesOn with
  |tup nb C aX=>
   refine c (inj u▸r) aX λk z=> ?_
   have:=akh (prog:=T.prog) (w:=T.w) (E:=E) (Q:=k) f.b7.handled C λh' af=>z h' (xo af)
   rwa [eK] at this
  |list nb C aX=>
   refine c (inj u▸r) aX λk z=> ?_
   have:=Qs (prog:=T.prog) (wd:=T.w) (E:=E) (Q:=k) f.b7.handled C.eW λh' af=>z h' (xo af)
   rwa [eK] at this
  |_=>exact aR u
end
section
variable {T:cA} {K:aP→Prop} {cx:bY} {env:Env} {σ:aA} {A:eU} {g g1:G} {w w1:W} {s s1:aH} {n j:Nat} {wr:List aP} {l:List U} {x:Str} {v:az}
theorem bQ.ownAt (f:bQ T K cx env σ A g w s) (af:held cx.sc x=ab) (e:σ.get x= .own l): ∃a vs,cB T g s.heap env x (I (.ref a))∧cL T g a∧dk s.heap a (mh vs)∧IsL g.B g.aD s.heap l vs:=
 cM (lS af) λk av a5=>cM (f.fr.nm x k av a5) λv cP sl=>iZ (e▸sl:gA T g s.heap (.own l) v) λa vs ev ae b aX=>⟨a,vs,ev▸cP,ae,b,aX⟩
theorem dk.raw (x:dk h a b): ∃m,h.get? a=I {cls:= .type "list",data:= .seq b m}:=fe x λo e Z r=>r.elim λm q=>⟨m,q▸e⟩
theorem Yi (h:small k=ab):aki k=true:=by
 have:=rB h
 unfold aki
 simp only[j3,decide_eq_true_eq]
 exact this
theorem x8 {h:bU} {m:Nat} (c:h.get? a=I {cls:= .type "list",data:= .seq d m}) (F:Array az→Array az) (e:F d=its'):
  dk (h.update a (rY F)) a its'∧ ∀b o,b≠a→h.get? b=I o→(h.update a (rY F)).get? b=I o:=by
 subst e
 refine ⟨⟨_,PySem.IsL.update (n:=m) c F,rfl,_,rfl⟩,λb o ae e=>(t' h _ (gu ae)).trans e⟩
theorem agn {vs:List az} (h:dk s.heap a vs.toArray) (f:l7 k vs.length=I j)
  (q: ∀h',(∀b o,b≠a→s.heap.get? b=I o→h'.get? b=I o)→dk h' a (vs.set j v).toArray→Q () {s with heap:=h'}):aU T.mo A (setItem (.ref a) (.int k t) v) Q E s:=by
 refine gj h.raw λm c=> ?_
 have d:=HY (cy f)
 have bd:=rB (cu f)
 by_cases h0:0≤k
 ·have c1:=x8 c (·.setIfInBounds k.toNat v) (akj ..)
  have e:=d.2.1 h0
  exact ki_setAt c h0 bd.2 (by rw[eK];exact (IZ h0).mp (gP (dH e.symm) d.1)) (q _ c1.2 (e▸c1.1))
 ·have e:=d.2.2 (r6.mp h0)
  have c1:=x8 (its':=(vs.set j v).toArray) c (·.setIfInBounds (k+vs.toArray.size).toNat v) (by rw[eK,←e.2];exact akj ..)
  exact ki_setBack c (r6.mp h0) (by rw[eK];exact DJ (by rw[DW];exact e.1)) bd.1 (q _ c1.2 c1.1)
theorem YV {E:az→aH→Prop} {Q:az→aH→Prop} {k:Int} {vs:List az} (b:dk s.heap a vs.toArray) (c:l7 k vs.length=I j) (b0:vs[j]?=I u)
  (q:Q u s):aU T.mo A (getItem (.ref a) (.int k t)) Q E s:=by
 have d:=HY (cy c)
 have bd:=rB (cu c)
 by_cases h0:0≤k
 ·exact wpAny_getItem_list b.eW h0 bd.2 (by rw[←d.2.1 h0];exact qH.trans b0) q
 ·have e:=d.2.2 (r6.mp h0)
  exact ajS b.eW (r6.mp h0) (by rw[eK];exact DJ (by rw[DW];exact e.1)) bd.1 (by rw[eK,←e.2];exact qH.trans b0) q
theorem J? (e:qU op a b=I r) (d:aW T g w s) (eb:Is g.B g.aD s.heap a g?) (c:Is g.B g.aD s.heap b f):aS T A (inplaceOp op g? f) g s (Res T w r):=by
 refine .val d λE Q k=> ?_
 induction eb using Is.casesOn with
 |int i t=>
  refine aO e λj ae e=> ?_
  obtain ⟨u,rfl⟩:=(nu ae▸c).md
  induction op using akk with
  |Add=>exact AutoIntOps.iadd_0 (k _ _ (.gd (.int _ _) e))
  |Sub=>exact AutoIntOps.isub_0 (k _ _ (.gd (.int _ _) e))
  |_=>exact aR e
 |str x t=>
  refine aO e λy ae e=> ?_
  obtain ⟨u,rfl⟩:=(om ae▸c).h9
  induction op using akk with
  |Add=>exact iadd_str (λh aG=>k _ aG (.gd (.str _ _) (cy e))) (cG (cu e) ar)
  |_=>exact aR e
 |_=>exact aR e
theorem TU (ag:isSlice i=aq): ∀b a new,augStore i b a new=(do holding [new,b,a] (setItem b a new);release [new,b,a] [];pure .next):=by
 intro b a new
 induction i using eC with
 |Slice=>exact (cv ag.symm).elim
 |_=>rfl
theorem XX (cD: ∀m,m≤n→da T m) {e i:Expr} {op:km} {n! sp pos:Pos} {p z r O:U} {k:Int} {fC:W} (ag:isSlice i=aq) (J:ev n cx i σ w=I (z,w1)) (aa:ev n cx e σ w1=I (p,fC)) (Y:σ.own? cx.sc x=I l) (av:intOf z=I k) (C:l7 k l.length=I j)
  (X:l[j]?=I O) (b8:qU op O p=I r) (f:bQ T K cx env σ A g w s):cH T K cx env A (exec (.AugAssign (.Subscript (.Name x n!) i sp) op e pos) env) g s (.next,σ.set x (.own (l.set j r)),fC):=λE Q q=>
 have o:=B? Y
 have S:=cD n (bh n)
 iZ (f.ownAt o.1 o.2.1) λa vs M _ _ _=>cM (lS o.1) λfW ra _=>wpAny_AugAssign_SubscriptAny (nameP f.fr ra M (S.ev J f.inn E _ λg1 s1 cV t1 c=>
  have f1:=f.ba t1 c.1
  have L:=M.ba t1 f.wd f.fr.loc
  fe (n1 f1.fr o.2.1 (lS o.1) L) λrL _ mK H=>cM (H.get X) λu b0 fB=>gj (nu av▸c.2:Is g1.B g1.aD s1.heap (.int k) cV).md λt ev=>ev▸YV mK (j:=j) (H.length▸C) b0
   (S.ev aa f1.inn E _ λg2 s2 v t2 b=>
    have f2:=f1.ba t2 b.1
    have d:=L.ba t2 c.1 f1.fr.loc
    J? b8 b.1 (fB.ba t2 c.1) b.2 E _ λg3 s3 nv t3 D=>
     have dW:=f2.ba t3 D.1
     have y:=d.ba t3 b.1 f2.fr.loc
     fe (n1 dW.fr o.2.1 (lS o.1) y) λZ _ R h=>agn R (j:=j) (h.length▸C) λh' jq P=>
      have u:=dW.upd (t:=s3.toks) o.1 o.2.1 y jq P (h.set j D.2) (bh _)
      q _ _ _ ((((t1.trans t2).trans t3).bw f.wd).trans u.1) u.2.1 .next))) (TU ag)
theorem acq (f:dy T g cx env σ s.heap) (av:cx.sc.names.lookup x=I k) (a5:cB T g s.heap env x (I v)) (h:Q v s):aU T.mo A (loadName env x) Q E s:=by
 obtain ⟨J,aa⟩:=f.ok x k av
 rcases a5 with ⟨k,m,hm,e⟩|⟨k,c,ag,aN,aC⟩
 ·exact Dg f.kind k hm e h
 ·rcases k with k|k
  ·exact ajN f.kind k ag aN h
  ·exact ajO f.kind k ag aN h aa
theorem Lp (o: ∀m,m≤n→da T m) {e:Expr} {op:km} {H pos:Pos} {p r a:U} (af:dD cx.sc x=ab) (aN:valOf (σ.get x)=I a) (J:ev n cx e σ w=I (p,w1)) (b8:qU op a p=I r) (f:bQ T K cx env σ A g w s):
  cH T K cx env A (exec (.AugAssign (.Name x H) op e pos) env) g s (.next,σ.set x (.val r),w1):=by
 intro E Q q
 have S:=o n (bh n)
 have i:σ.get x= .val a:=by
  generalize σ.get x=sl at aN
  induction sl using Slot.casesOn with
  |val p=>exact aQ Slot.val (inj aN)
  |_=>exact aR aN
 refine cM (oU af) λk av d=>cM (f.fr.nm x k av d) λv aR sl=>cM (i▸sl:gA T g s.heap (.val a) v) λu eu t=> ?_
 rw[exec_AugAssign_Name]
 refine aw (fF (aw (acq f.fr av (eu▸aR) (aw (fK (S.ev J f.inn E _ λg1 s1 v t1 c=> ?_))))))
 have f1:=f.ba t1 c.1
 refine aw (fF (aw (wpAny_operating (J? b8 c.1 (t.ba t1 f.wd) c.2 E _ λL s2 nv t2 b=>aw (fF (aw ?_))))))
 have f2:=f1.ba t2 b.1
 refine rC (K:=K) (sl:= .val r) f2.fr b.1 av d (f.wr x af) ⟨nv,rfl,b.2⟩ (λZ Z Z Z Z z=>by cases z) λs3 t3 dW D h C=>bj (q _ _ _ (((t1.trans t2).bw f.wd).trans t3) (f2.kept t3 dW D λy l e=> ?_) .next)
 exact Ct e λa9 e=>⟨e,λu=>C y u (gu a9)⟩
theorem aaj (aX:IsL B aD h l vs) (j:Nat):IsL B aD h (l.eraseIdx j) (vs.eraseIdx j):=by
 rw[RS,RS]
 exact (aX.take j).append (aX.drop (j+1))
theorem Xb {vs:List az}:(vs.toArray.eraseIdxIfInBounds j)=(vs.eraseIdx j).toArray:=by simp
theorem XY (z: ∀m,m≤n→da T m) {i:Expr} {H M pos:Pos} {c:U} {k:Int} (J:ev n cx i σ w=I (c,w1)) (y:σ.own? cx.sc x=I l) (av:intOf c=I k) (d:l7 k l.length=I j) (f:bQ T K cx env σ A g w s):
  cH T K cx env A (exec (.Delete [.Subscript (.Name x H) i M] pos) env) g s (.next,σ.set x (.own (l.eraseIdx j)),w1):=λE Q q=>
 have o:=B? y
 have S:=z n (bh n)
 iZ (f.ownAt o.1 o.2.1) λa vs r Z Z Z=>cM (lS o.1) λfW L Z=>wpAny_Delete (wpAny_deleteEach_cons (wpAny_delete_Subscript (nameP f.fr L r (S.ev J f.inn E _ λg1 s1 C t1 e=>
  have f1:=f.ba t1 e.1
  have p:=r.ba t1 f.wd f.fr.loc
  fe (n1 f1.fr o.2.1 (lS o.1) p) λR Z D b=>gj D.raw λm h=>gj (nu av▸e.2:Is g1.B g1.aD s1.heap (.int k) C).md λt ev=>
   have c1:=x8 h (λO=>O.eraseIdxIfInBounds j) Xb
   ev▸P.delItem_list (n:=m) h (Yi (cu d)) (by rw[eK,←b.length];exact cy d)
    (have u:=f1.upd (t:=s1.toks) o.1 o.2.1 p c1.2 c1.1 (aaj b j) (bh _)
    wpAny_deleteEach_nil (q _ _ _ ((t1.bw f.wd).trans u.1) u.2.1 .next)) (by rw[eK,←b.length];exact cG o.2.2 ar)))))
end
section
variable {K:aP→Prop} {n:Nat} {l:List U}
theorem OD {E:az→aH→Prop} {Q:az→aH→Prop} (slot:_root_.PySem.Slot "list" m c) (ty:typeOf (.builtin c)=pure (.type "method_descriptor"))
  (j:(ap.endLine==pos.line)=ab) (a5:as.length<20) (aC:(backTo pos (starEach as env)).any (·.1)=aq) (f:bQ T K cx env σ A g w s) (af:held cx.sc x=ab) (k:σ.get x= .own l)
  (q: ∀a vs,cB T g s.heap env x (I (.ref a))→dk s.heap a (mh vs)→aU T.mo A (evalArgs (.builtin c) ab (backTo pos (starEach as env)) []) (λus s'=>aU T.mo A (call (.builtin c) (.ref a::us.pos) us.kw) Q E s') E s):
  aU T.mo A (eval (.Call (.Attribute (.Name x p) m ap) as [] pos) env) Q E s:=
 iZ (f.ownAt af k) λa vs h ae d aX=>cM (lS af) λfW r Z=>gj d.raw λt i=>Dp (pH (o:= .Name x p) rfl) (uT a5 aC) j (nameP f.fr r h
  ⟨"list",c,I5,slot,ty,d.eW.typeIs,λb e=>by cases e;exact ⟨_,i,rfl⟩,t9 aC (q a vs h d)⟩)
theorem afb:({cls:= .type "list",data:= .seq (vs.toArray.push v) m}:Obj)={cls:= .type "list",data:= .seq (vs++[v]).toArray m}:=by rw[List.push_toArray]
theorem XO (y: ∀m,m≤n→da T m) {e:Expr} {L c pos l8:Pos} {ps:List U} {p:U} (r:(c.endLine==pos.line)=ab) (J:e4 n cx [e] σ w=I (ps,w1)) (aC:oneOf ps=I p) (k:σ.own? cx.sc x=I l) (f:bQ T K cx env σ A g w s):
  cH T K cx env A (exec (.Expr (.Call (.Attribute (.Name x L) (ao "append") c) [e] [] pos) l8) env) g s (.next,σ.set x (.own (l++[p])),w1):=λE Q q=>
 have o:=B? k
 have e6:=Ao (env:=env) pos J
 I_ (OD akl akm r (show 1<20 from by decide) e6 f o.1 o.2.1 λa vs O R=>sj e6 ((y n (bh n)).e4 J pos f.inn) λg1 s1 us t1 d=>
  have f1:=f.ba t1 d.1
  have i:=O.ba t1 f.wd f.fr.loc
  fe (n1 f1.fr o.2.1 (lS o.1) i) λP Z H h=>gj H.raw λm D=>fU (qu aC▸d.2:IsL g1.B g1.aD s1.heap [p] us).hy λu vs eu C z=>by
   rw[eu,z.jd]
   exact I8 (hsz:=by rw[eK,←h.length];exact cG o.2.2 ar) D λv f3 M=>
    have j:=f1.upd (t:=s1.toks) (vs':=P++[_]) (h':=v) o.1 o.2.1 i (λb o ae e=>(f3.2 b ae).trans e) ⟨_,M,rfl,m+1,afb⟩ (h.append (.cons C .nil)) (bh _)
    q _ _ _ ((t1.bw f.wd).trans j.1) j.2.1 .next) f.eb rfl
end
structure kY (T:cA) (n:Nat):Prop where
 ex: ∀{cx st σ w r},ex n cx st σ w=I r→ ∀{K env A g s},bQ T K cx env σ A g w s→cH T K cx env A (exec st env) g s r
 cw: ∀{cx st σ w r},cw n cx st σ w=I r→ ∀{K env A g s},bQ T K cx env σ A g w s→cH T K cx env A (execs st env) g s r
section
variable {T:cA} {K K' X:aP→Prop} {cx:bY} {env:Env} {σ σ':aA} {A:eU} {g g' p0 sM bk g1:G} {w w' w1:W} {s s' qx bf s1:aH} {n j:Nat} {tgt:Expr} {wr du:List aP} {St:Nat→bU→Prop} {D ak:aP} {done l:List U} {cq:List az} {items:List U} {x y:Str} {v:az}
theorem cH.pre {t:Sem Flow} {r:fx×aA×W} (t1:dc T K g s g1 s1) (h:cH T K cx env A t g1 s1 r): ∀(E:az→aH→Prop) (Q:Flow→aH→Prop),(∀g' s' fl,dc T K g s g' s'→bQ T K cx env r.2.1 A g' r.2.2 s'→kW g' s'.heap r.1 fl→Q fl s')→aU T.mo A t Q E s1:=
 λE Q q=>h E Q λg' s' fl t f i=>q g' s' fl (t1.trans t) f i
theorem Lv {h h':bU} (b: ∀b∈wr,∃o bA,h.get? b=I o∧o.data= .fields bA) (au: ∀b o,b∉wr→h.get? b=I o→h'.get? b=I o): ∀a o,h.get? a=I o→(∀bA,o.data≠ .fields bA)→a∉wr∧h'.get? a=I o:=
 λa o e n=>have q:=λq=>jk (b a q) λf bA c d=>n bA (inj (e.symm.trans c)▸d);⟨q,au a o q e⟩
theorem cB.but {h':bU} {g':G} (b: ∀b∈wr,∃o bA,s.heap.get? b=I o∧o.data= .fields bA) (au: ∀b o,b∉wr→s.heap.get? b=I o→h'.get? b=I o) (ae: ∀c,cL T g c→c∉wr→cL T g' c) {u:Option az} (n:cB T g s.heap env x u):cB T g' h' env x u:=
 n.move (λm ⟨o,es,d,e,a,r⟩=>⟨o,es,d,(Lv b au _ o e λbA z=>by rw[a] at z;cases z).2,a,r⟩) λc ag ⟨o,e,aN⟩=>have q:=Lv b au c o e λbA z=>by rw[aN] at z;cases z
  ⟨ae c ag q.1,o,q.2,aN⟩
theorem bQ.but {h':bU} {t:Nat} (f:bQ T K cx env σ A g w s) (b: ∀b∈wr,cL T g b∧ ∃o bA,s.heap.get? b=I o∧o.data= .fields bA) (au: ∀b o,b∉wr→s.heap.get? b=I o→h'.get? b=I o) (aJ: ∀b∈wr,∃o,h'.get? b=I o) (a:s.toks≤t):
  bQ T K cx env σ A g w {s with heap:=h',toks:=t} where
 fr:=f.fr.but b au
 wd:=f.wd.but (λc ag=>(b c ag).1) au aJ a
 b7:=f.b7
 wr:=f.wr
 own:=f.Ca (λn=>n.but (λc ag=>(b c ag).2) au λc ag Z=>ag) λy m e=>⟨m,e⟩
 h4 c z:=by
  by_cases ag:c∈wr
  ·exact aJ c ag
  ·exact (f.h4 c z).elim λo e=>⟨o,au c o ag e⟩
 sc:=f.sc
 eb:=f.eb
theorem bQ.weak (f:bQ T K' cx env σ A g w s) (h: ∀b,K b→K' b):bQ T K cx env σ A g w s where
 fr:=f.fr
 wd:=f.wd
 b7:=f.b7
 wr x af:=(f.wr x af).imp (λ⟨a,c⟩=>⟨a,λz=>c (h _ z)⟩) λ⟨a,c⟩=>⟨a,λd e z=>c d e (h _ z)⟩
 own x l a e q z k:=f.own x l a e q z (h _ k)
 h4 b z:=f.h4 b (h b z)
 sc:=f.sc
 eb:=f.eb
theorem bQ.less {h':bU} {t:Nat} (f:bQ T K cx env σ A g w s) (av: ∀b∈wr,¬K b) (b: ∀b∈wr,cL T g b∧ ∃o bA,s.heap.get? b=I o∧o.data= .fields bA) (au: ∀b o,b∉wr→s.heap.get? b=I o→h'.get? b=I o) (p:s.toks≤t):
  bQ T K cx env σ A (g.less wr) w {s with heap:=h',toks:=t}:=by
 have u: ∀c∈wr,cL T g c∧(∀i,¬dk s.heap c i)∧(∀v,¬s.heap.IsCell c v)∧c≠env.locals:=λc ag=>jk (b c ag).2 λo bA e d=>by
  refine ⟨(b c ag).1,λi ⟨h,a,_,m,q⟩=> ?_,λv ⟨h,a,q⟩=> ?_,λz=> ?_⟩
  ·rw[inj (e.symm.trans a),q] at d;cases d
  ·rw[inj (e.symm.trans a),q] at d;cases d
  ·obtain ⟨m,h,es,C,k⟩:=f.fr.dict
   have a:=k.1
   have q:=k.2.1
   rw[inj (e.symm.trans (z▸a)),q] at d;cases d
 have r: ∀{x v},cB T g s.heap env x v→cB T (g.less wr) h' env x v:=λn=>cB.but (g':=g.less wr) (n:=n) (λc ag=>(b c ag).2) au λc ag z=>⟨⟨ag.1,z⟩,ag.2⟩
 exact {
  fr:=f.fr.less u au
  wd:=f.wd.less (λc ag=>(b c ag).1) au p
  b7:=f.b7
  wr:=f.wr
  own:=f.Ca r λy m e=>⟨m,e⟩
  h4:=λc z=>(f.h4 c z).elim λo e=>⟨o,au c o (λq=>av c q z) e⟩
  sc:=f.sc
  eb:=f.eb}
structure r' (T:cA) (K K':aP→Prop) (cx:bY) (env:Env) (A:eU) (bk:G) (bf:aH) (wr:List aP) (St:Nat→bU→Prop) (j:Nat) (σ:aA) (g:G) (w:W) (s:aH):Prop where
 bw:dc T K bk bf g s
 c0:bQ T K' cx env σ A g w s
 st:St j s.heap
 wr: ∀b∈wr,cL T g b
inductive D_ (T:cA) (K K':aP→Prop) (cx:bY) (env:Env) (A:eU) (bk:G) (bf:aH) (wr:List aP) (St:Nat→bU→Prop) (tgt:Expr) (body:List cK) (items:List U) (N:Nat) (r:fx×aA×W) (s':aH):Nat→Prop where
 |mk (j m:Nat) (g:G) (w:W) (rest:List U) (σ:aA):m≤N→forL m cx tgt body rest σ w=I r→items.drop j=rest→j≤items.length→r' T K K' cx env A bk bf wr St j σ g w s'→D_ T K K' cx env A bk bf wr St tgt body items N r s' rest.length
theorem r'.cast {a:Nat} {r:fx×aA×W} {f:fx} (c:r' T K K' cx env A bk bf wr St j σ g w s) (J:j=a) (aa:(f,σ,w)=r):r' T K K' cx env A bk bf wr St a r.2.1 g r.2.2 s:=J▸aa▸c
theorem YB {it:Expr} {body:List cK} {N m:Nat} {r:fx×aA×W} {R:r9→aH→Prop}
  (ij: ∀m,m≤N→kY T m) (f:kX T A tgt bk bf.heap ak items du wr St) (Y: ∀b∈du,(∃o,bf.heap.get? b=I o)∧ ¬et T.dZ bk.aD b) (iL: ∀b,K b→b∉wr) (H: ∀b,K b→K' b) (xv: ∀b∈du,K' b)
  (hm:m≤N) (ag:forL m cx tgt body items σ w=I r) (u:r' T K K' cx env A bk bf wr St 0 σ g w s)
  (ka: ∀g' s' fl,dc T K bk bf g' s'→bQ T K cx env r.2.1 A g' r.2.2 s'→kW g' s'.heap r.1 fl→R (.ok fl) s')
  (al7: ∀b∈wr,∃o bA,bf.heap.get? b=I o∧o.data= .fields bA)
  (ZQ: ∀g' s' h' aG,r' T K K' cx env A bk bf wr St items.length r.2.1 g' r.2.2 s'→r.1= .next→(∀b o,b∉wr→s'.heap.get? b=I o→h'.get? b=I o)→s'.toks≤aG→R (.ok .next) {s' with heap:=h',toks:=aG}):
  codeAny T.mo A (.forLoop tgt (.ref ak) body [] env) R s:=by
 refine akn (λk s'=>D_ T K K' cx env A bk bf wr St tgt body items N r s' k) (λk s' h=> ?_) items.length (.mk 0 m g w items σ hm ag rfl (hC _) u)
 clear u ag hm
 induction h using D_.casesOn with
 |mk j m g' w1 rest σ hm ag hd nG c=>
 induction m using fJ with
 |zero=>exact aR ag
 |succ m=>
 induction rest using cj with
 |nil=>
  have nH:=drop_nil hd nG
  have e:=inj ag
  exact j0 (bh _) (f.done s' _ _ (nH▸c.st) λh' aG i a=>mm (ZQ g' s' h' aG (c.cast nH e) (e▸rfl) i a))
 |cons p rest=>
  have q:=drop_cons hd
  refine aO ag λσ' ae ag=>aO ag λx af ag=>j0 (bh _) (f.item j p g' s' _ _ q.1 c.st c.bw.i5 c.bw.eJ c.c0.wd.ex (λb ae=>(c.wr b ae).1) λv J aG i_ go a=>go _ _ λaa L oP E=> ?_)
  have i: ∀b o,b∉wr→s'.heap.get? b=I o→aa.get? b=I o:=λb o ae e=>oP b o ae (i_ b o ae e)
  have O: ∀b∈wr,cL T g' b∧ ∃o bA,s'.heap.get? b=I o∧o.data= .fields bA:=λb ae=>⟨c.wr b ae,f.live _ _ c.st b ae⟩
  have aJ: ∀b∈wr,∃o,aa.get? b=I o:=λb ae=>jk (f.live _ _ L b ae) λo _ e _=>⟨o,e⟩
  have f1:=c.c0.but (t:=aG) O i aJ a
  have t1:dc T K g' s' g' {s' with heap:=aa,toks:=aG}:= .but c.wr (λb ae z=>iL b z ae) i aJ a
  clear i_ oP O
  refine wQ c.c0.b7.handled ae f1.wr f1.fr f1.wd E λs3 t3 uU Z dg=>(ij m (hA hm)).cw af (f1.kept t3 uU Z dg) _ _ λd s4 fl Q f4 u'=> ?_
  have C:=t3.trans Q
  have M:dc T K bk bf d s4:=(c.bw.trans t1).trans (C.weak H)
  have vV:St (j+1) s4.heap:=f.frame _ _ _ L λb ae o e=>C.old b o (xv b ae) e λz=>(c.bw.ej b z).elim (Y b ae).2 λz=>(Y b ae).1.elim λcz bL=>nn (z.symm.trans bL)
  have P:r' T K K' cx env A bk bf wr St (j+1) x.2.1 d x.2.2 s4:=⟨M,f4,vV,λb ae=>⟨C.la b (xv b (f.sub b ae)) (c.wr b ae).1,λz=>(C.ej b z).elim (c.wr b ae).2 λz=>(aJ b ae).elim λo e=>nn (z.symm.trans e)⟩⟩
  clear t3 uU Z dg Q f1 t1 i vV C ae af go L E aJ
  generalize x.1=f0 at u' ag
  induction u' using kW.casesOn with
  |next=>exact ⟨rest.length,gv _,.mk (j+1) m d _ rest _ (hA hm) (xU rfl ag) q.2.1 q.2.2 P⟩
  |cont=>exact ⟨rest.length,gv _,.mk (j+1) m d _ rest _ (hA hm) (xU rfl ag) q.2.1 q.2.2 P⟩
  |brk=>exact ka d s4 .next M (inj (th rfl ag)▸f4.weak H) (inj (th rfl ag)▸ .next)
  |ret E=>exact ka d s4 _ M (inj (th rfl ag)▸f4.weak H) (inj (th rfl ag)▸ .ret E)
theorem X1 (cD: ∀m,m≤n+1→da T m) (ij: ∀m,m≤n+1→kY T m) {it:Expr} {body:List cK} {pos:Pos} {r:fx×aA×W} (J:fs (n+1) aq tgt cx it σ w=I (items,w1)) (aa:forL (n+1) cx tgt body items σ w1=I r) (f:bQ T K cx env σ A g w s):
  cH T K cx env A (exec (.For tgt it body [] pos) env) g s r:=by
 intro E Q q
 refine wpAny_For (Bs (own:=aq) (tgt:=tgt) (λm hm=>cD m (hP hm)) J f.inn E _ λZ s2 v t2 bT=> ?_) (λx=>Hv J x)
 induction bT using iV.casesOn with
 |mk ak du wr St bX Y n6 H C xC=>
 have f2:=f.ba t2 bX
 have P: ∀b∈wr,¬K b:=λb ae z=>(f.h4 b z).elim λo e=>nn ((H b ae).2.symm.trans e)
 have M: ∀b o,Z.B b→s.heap.get? b=I o→b∉du:=λb o oH e z=>((C b z).2.2 rfl).elim (λh=>nn ((H b h).2.symm.trans e)) λh=>h oH
 have X8:bQ T (λb=>K b∨b∈du) cx env σ A Z w1 s2:={
  fr:=f2.fr
  wd:=f2.wd
  b7:=f2.b7
  wr:=λx af=>(f2.wr x af).elim (λk=> .inl ⟨k.1,λz=>z.elim k.2 (f.fr.dict.elim λm hm=>hm.elim λo q=>q.elim λ_ q=>q.elim λ_ q=>M _ o f2.fr.loc.1 q.1)⟩) λk=> .inr ⟨k.1,λc ag z=>z.elim (k.2 c ag)
   (cM (oU af) λfW av gE=>cM (f.fr.nm x fW av gE) λu d _=>d.elim (λn=>nomatch (n.1.symm.trans k.1)) λn=>fe n.2 λek ir aN ae=>aN.elim λo e=>by
    have O:=inj (ag.symm.trans ir)
    exact M c o (t2.hD c (O▸ae.1)) (O▸e.1))⟩
  own:=λx l a e L z=>cM L λk av a5=>cM (f.fr.nm x k av a5) λu d _=>fe (n1 f.fr e L (d.back (d.ba t2 f.wd f.fr.loc) z)) λvs ae ai _=>ai.elim λo aZ=>λJF=>JF.elim (f.own x l a e L (d.back (d.ba t2 f.wd f.fr.loc) z)) (M a o (t2.hD a ae.1) aZ.1)
  h4:=λb z=>z.elim (λz=>f2.h4 b z) λz=>(C b z).1
  sc:=f2.sc
  eb:=f2.eb}
 refine YB (it:=it) (N:=n+1) (K:=K) (K':=λb=>K b∨b∈du) ij Y (λb ae=>⟨(C b ae).1,(C b ae).2.1⟩) (λb z ae=>P b ae z) (λb z=> .inl z) (λb z=> .inr z) (bh _) aa ⟨.refl,X8,n6,λb ae=>(H b ae).1⟩
  (λg' s' fl t c0 i=>q g' s' fl ((t2.bw f.wd).trans t) c0 i) xC λg' s' h' aG c b8 R p=> ?_
 have A_: ∀b∈wr,cL T g' b∧ ∃o bA,s'.heap.get? b=I o∧o.data= .fields bA:=λb ae=>⟨c.wr b ae,Y.live _ _ c.st b ae⟩
 exact q _ _ _ (((t2.bw f.wd).trans c.bw).less f.wd (λb ae=>⟨c.wr b ae,(H b ae).2⟩) R p) ((c.c0.weak λb z=> .inl z).less P A_ R p) (b8▸ .next)
end
inductive gh (T:cA) (g:G) (s0:bU) (h:bU):List (List U)→List az→Prop
 |nil:gh T g s0 h [] []
 |cons {l ls a vs us}:s0.get? a=ah→cL T g a→dk h a (mh vs)→IsL g.B g.aD h l vs→ ¬Value.ref a∈us→gh T g s0 h ls us→gh T g s0 h (l::ls) (.ref a::us)
section
variable {K:aP→Prop} {n:Nat} {ls:List (List U)} {us:List az}
theorem gh.ba (x:bW T g s g' s') (d:aW T g w s) (f:gh T g s0 s.heap ls us):gh T g' s0 s'.heap ls us:=by
 induction f with
 |nil=>exact .nil
 |cons J aa ay b e _ c=>
  obtain ⟨o,a,r⟩:=ay
  exact .cons J (aa.ba x a).1 ⟨o,(aa.ba x a).2,r⟩ (b.ba x d) e c
theorem gh.from (f:gh T g s1 h ls us) (k: ∀b,s1.get? b=ah→s0.get? b=ah):gh T g s0 h ls us:=by
 induction f with
 |nil=>exact .nil
 |cons J aa ay a d _ c=>exact .cons (k _ J) aa ay a d c
theorem gh.fresh (f:gh T g s0 h ls us) {a:aP} (aJ: .ref a∈us):s0.get? a=none:=by
 induction f with
 |nil=>cases aJ
 |cons J aa ay c d _ b=>
  rcases eo.mp aJ with e|aJ
  ·cases e;exact J
  ·exact b aJ
theorem gh.list (f:gh T g s0 h ls us) {a:aP} (aJ: .ref a∈us): ∃vs,dk h a vs:=by
 induction f with
 |nil=>cases aJ
 |cons J aa ay c d _ b=>
  rcases eo.mp aJ with e|aJ
  ·cases e;exact ⟨_,ay⟩
  ·exact b aJ
theorem gh.append (f:gh T g s0 h ls us) {l:List U} {a:aP} {vs:List az} (J:s0.get? a=ah) (aa:cL T g a) (ay:dk h a vs.toArray) (c:IsL g.B g.aD h l vs) (b: ¬ .ref a∈us):gh T g s0 h (ls++[l]) (us++[.ref a]):=by
 induction f with
 |nil=>exact .cons J aa ay c (λz=>nomatch z) .nil
 |cons bp bK dg ey qg _ d=>
  refine .cons bp bK dg ey (λz=> ?_) (d λz=>b (fb _ z))
  rcases ob.mp z with z|z
  ·exact qg z
  ·exact b (ep.mp z▸eQ)
theorem gh.reverse (f:gh T g s0 h ls us):gh T g s0 h ls.reverse us.reverse:=by
 induction f with
 |nil=>exact .nil
 |cons bp bK dg ey qg _ a=>
  rw[I9,I9]
  exact a.append bp bK dg ey λz=>qg (RR.mp z)
theorem gh.length (f:gh T g s0 h ls us):ls.length=us.length:=by
 induction f with
 |nil=>rfl
 |cons _ _ _ _ _ _ a=>exact aQ (·+1) a
theorem gh.bw (t:dc T X g s g s') (b: ∀a,.ref a∈us→X a) (f:gh T g s0 s.heap ls us):gh T g s0 s'.heap ls us:=by
 induction f with
 |nil=>exact .nil
 |cons bp bK dg ey qg _ c=>
  obtain ⟨o,d,r⟩:=dg
  exact .cons bp bK ⟨o,t.old _ o (b _ eQ) d bK.2,r⟩ (ey.bw t) qg (c λa z=>b a (fb _ z))
theorem adF: ∀{n:Nat} {es:List Expr} {g:G} {w w':W} {s:aH} {ls:List (List U)} (f: ∀m,m≤n→da T m) (h:oW n cx es σ w=I (ls,w')) (pos:Pos) (i:cO T cx env σ A g w s),aS T A (spliced (backTo pos (starEach es env))) g s (λg' s' us=>aW T g' w' s'∧gh T g' s.heap s'.heap ls us):=by
 intro n
 induction n with
 |zero=>intro _ _ _ _ _ _ _ h;exact aR h
 |succ n q=>
  intro es g w w' s ls f h pos i
  induction es using cj with
  |nil=>
   obtain ⟨rfl,rfl⟩:=kh h
   exact λE Q k=>t6 (k _ _ _ .refl ⟨i.wd,.nil⟩)
  |cons e es=>
   refine aO h λx J h=>aO h λy aa ay=> ?_
   rw[←(kh ay).1,←(kh ay).2]
   have C: ∀x l,e≠ .Starred x l:=λx l e=>by subst e;induction n using fJ<;>exact nn J
   rw[qA C]
   refine H! ((f n (jD n)).ei J i) λg1 s1 v t1 u=> ?_
   obtain ⟨a,vs,rfl,aJ,j,p,t,aX⟩:=u
   refine (q (λm hm=>f m (hP hm)) aa pos (i.ba t1 j)).mono λD s2 us t2 d=>⟨d.1,?_⟩
   obtain ⟨o,c,r⟩:=t
   refine .cons aJ (p.ba t2 c).1 ⟨o,(p.ba t2 c).2,r⟩ (aX.ba t2 j) (λz=> ?_) (d.2.from λb ae=>t1.none ae)
   exact nn ((d.2.fresh z).symm.trans c)
theorem Us {E:az→aH→Prop}: ∀{ls:List (List U)} {us:List az} {σ:aA} {s:aH} {Q:Unit→aH→Prop},(∀x∈xs,dD cx.sc x=ab)→xs.length=ls.length→bQ T K cx env σ A g w s→gh T g s0 s.heap ls us→
  (∀y m a,.ref a∈us→σ.get y= .own m→ ¬cB T g s.heap env y (I (.ref a)))→(∀a,.ref a∈us→ ¬K a)→
  (∀s',dc T K g s g s'→bQ T K cx env (yw xs ls σ) A g w s'→Q () s')→aU T.mo A (assignInOrder (xs.map λx=>bindName env x) us) Q E s:=by
 induction xs with
 |nil=>
  intro ls us σ s Q hm j f fl v o q
  induction ls using cj with
  |cons=>exact (y_ _ j.symm).elim
  |nil=>cases fl;exact bj (q s .refl f)
 |cons x xs X=>
  intro ls us σ s Q hm j f fl v o q
  induction fl using gh.casesOn with
  |nil=>exact (y_ _ j).elim
  | @cons l ls a vs us bp bK dg ey qg rest=>
   show aU _ A (do holding us (bindName env x (.ref a));assignInOrder (xs.map λn=>bindName env n) us) Q E s
   have D:=hm x eQ
   obtain ⟨k,av,L⟩:=oU D
   have hw:sh (λb=>K b∨ .ref b∈us) env x:=by
    rcases f.wr x D with ⟨i,J⟩|⟨i,J⟩
    ·refine .inl ⟨i,λz=>z.elim J λz=> ?_⟩
     obtain ⟨vs',aN⟩:=rest.list z
     obtain ⟨m,hm⟩:=f.fr.dict
     exact vw hm aN.eW
    ·refine .inr ⟨i,λc ag z=>z.elim (J c ag) λz=> ?_⟩
     obtain ⟨vs',aN⟩:=rest.list z
     obtain ⟨u,d,_⟩:=f.fr.nm x k av L
     rcases d with ⟨bK,_⟩|⟨_,c5,P,R,_⟩
     ·rw[i] at bK;cases bK
     ·rw[ag] at P;cases P
      exact x5 aN.eW R
   refine aw (fK (rC (K:=λb=>K b∨ .ref b∈us) (sl:= .own l) f.fr f.wd av L hw ⟨a,vs,rfl,bK,dg,ey⟩ (λy l' m c a9 i Y dt=>by cases dt;exact v y m a eQ Y) λs2 t2 f2 Z aR M=> ?_))
   have H:dc T K g s g s2:=t2.weak λb z=> .inl z
   have C:bQ T K cx env (σ.set x (.own l)) A g w s2:=by
    refine f.next H f2 Z λy m b e O h=> ?_
    rw[aA.get_set] at e
    split at e
    ·rename_i a9
     subst a9
     have:=aR.one h
     cases this
     exact o a eQ
    ·rename_i a9
     obtain ⟨t,p,r⟩:=id O
     obtain ⟨u,d,_⟩:=f.fr.nm y t p r
     have:=(M y u (gu a9) d).one h
     subst this
     exact f.own y m b e O d
   refine X (λy a9=>hm y (fb _ a9)) (pg j) C (rest.bw t2 λb z=> .inr z) (λy m b ae e h=> ?_) (λb ae=>o b (fb _ ae)) λs3 t3 dW=>q s3 (H.trans t3) dW
   rw[aA.get_set] at e
   split at e
   ·rename_i a9
    subst a9
    have:=aR.one h
    cases this
    exact qg ae
   ·rename_i a9
    obtain ⟨t,p,r⟩:=C.Hu h
    obtain ⟨u,d,_⟩:=f.fr.nm y t p r
    have:=(M y u (gu a9) d).one h
    subst this
    exact v y m b (fb _ ae) e d
theorem adl (au:env.scope=sc):ro sc line=nameOf? env line:=by
 funext t
 induction t using eC with
 |Name x p=>show (if _ then _ else _)=(if _ then _ else _);rw[←au];rfl
 |_=>rfl
theorem ah3 (au:env.scope=sc) (av:env.scope.kind= .function) (h:namesOk ts vs (ts.filterMap (ro sc ((ts.head?.map (·.pos.line)).getD 0)))=ab):
  swappedStores [.Tuple ts a b] (.Tuple vs c p) env=pure (I (ts.filterMap (ro sc ((ts.head?.map (·.pos.line)).getD 0)))):=by
 have ag:=h
 unfold namesOk at ag
 rw[adl au] at ag⊢
 have cn:=dh ag
 have c5:=dh (c2 ag)
 have k:=dh (c2 (c2 ag))
 have gW:=dh (c2 (c2 (c2 ag)))
 have j:=dh (c2 (c2 (c2 (c2 ag))))
 have fQ:=dh (c2 (c2 (c2 (c2 (c2 ag)))))
 have d:=c2 (c2 (c2 (c2 (c2 (c2 ag)))))
 have f:(env.blockKind != .function)=false:=by
  unfold Env.blockKind
  rw[av];rfl
 unfold swappedStores
 dsimp only
 rw[a3 (by
  rw[cn,f]
  simp only[bne,c5]
  decide)]
 rw[a3 (by
  intro z
  obtain ⟨e,he,bH⟩:=ako.mp z
  have:=iB.mp j e he
  induction e using eC<;>first|(exact bF bH cv;done)|(exact bF this cv;done))]
 split
 ·rename_i z
  exfalso
  have g:(ts.filterMap (nameOf? env ((ts.head?.map (·.pos.line)).getD 0))).length=ts.length:=dp k
  have i:(ts.filterMap (nameOf? env ((ts.head?.map (·.pos.line)).getD 0))).eraseDups.length=(ts.filterMap (nameOf? env ((ts.head?.map (·.pos.line)).getD 0))).length:=dp gW
  rcases qI.mp z with z|z
  ·exact (bne_iff_ne.mp z) g
  ·exact (bne_iff_ne.mp z) i
 ·split
  ·rename_i z
   rw[z] at fQ;exact bF fQ cv
  ·split
   ·rename_i z
    rw[z] at d;exact bF d cv
   ·rfl
theorem adm {ts:List Expr} (h:x∈ts.filterMap (ro sc line)):dD sc x=true:=by
 obtain ⟨t,_,a⟩:=akp.mp h
 induction t using eC with
 |Name y p=>
  have ag:=cu (show (if _ then _ else _)=I x from a)
  have e:y=x:=inj (cy (show (if _ then _ else _)=I x from a))
  subst e
  unfold dD
  rw[dh ag]
  rfl
 |_=>exact aR a
theorem aeD (h:Cb sc t e=I q): ∃ts a b c p,t= .Tuple ts a b∧e= .Tuple q.2 c p∧namesOk ts q.2 (ts.filterMap (ro sc ((ts.head?.map (·.pos.line)).getD 0)))=ab∧q.1=ts.filterMap (ro sc ((ts.head?.map (·.pos.line)).getD 0)):=by
 refine aO h λts J aa=>aO aa λvs ay f=> ?_
 have ag:=cu f
 have he:=inj (cy f)
 subst he
 induction t using eC with
 |Tuple d a b=>
  obtain rfl:d=ts:=inj J
  induction e using eC with
  |Tuple vs' c p=>
   obtain rfl:vs'=vs:=inj ay
   exact ⟨_,a,b,c,p,rfl,rfl,ag,rfl⟩
  |_=>exact aR ay
 |_=>exact aR J
theorem adE: ∀{n:Nat} {es:List Expr} {w w':W} {ls:List (List U)},oW n cx es σ w=I (ls,w')→ls.length=es.length:=by
 intro n
 induction n with
 |zero=>intro _ _ _ _ h;exact aR h
 |succ n a=>
  intro es w w' ls h
  induction es using cj with
  |nil=>obtain ⟨rfl,rfl⟩:=kh h;rfl
  |cons e es=>exact aO h λx J h=>aO h λy aa ay=>(kh ay).1▸aQ (·+1) (a aa)
theorem XT (cD: ∀m,m≤n→da T m) {t e:Expr} {pos:Pos} {q:List Str×List Expr} (v:Cb cx.sc t e=I q) (h:oW n cx q.2 σ w=I (ls,w1)) (f:bQ T K cx env σ A g w s):
  cH T K cx env A (exec (.Assign [t] e pos) env) g s (.next,yw q.1.reverse ls.reverse σ,w1):=by
 obtain ⟨xs,vs⟩:=q
 obtain ⟨ts,a,b,c,p,rfl,rfl,ag,l⟩:=aeD v
 have l:xs=_:=l
 have hm: ∀x∈xs,dD cx.sc x=true:=λx af=>adm (l▸af)
 have H:=ah3 (a:=a) (b:=b) (c:=c) (p:=p) f.sc f.fr.kind ag
 rw[←l] at H ag
 have j:xs.length=vs.length:=(dp (dh (c2 (c2 ag)))).trans (dp (dh (c2 ag))).symm
 intro E Q k
 rw[exec_Assign_arm]
 refine aw (fF ?_)
 rw[PO]
 refine aw (bj ?_)
 rw[a3 ar]
 rw[arm_eval_Tuple]
 refine aw (aw (fF (aw (adF cD h p f.inn E _ λg1 s1 us t1 i=> ?_))))
 have r:us.length=xs.length:=by
  exact i.2.length.symm.trans ((adE h).trans j.symm)
 refine m' ?_ ?_
 ·rw[H]
  refine aw (bj ?_)
  have C: ∀d o,s1.heap.get? d=I o→(s1.heap.push {cls:= .type "tuple",data:= .seq us.toArray}).get? d=I o:=λd o e=>dE _ e
  generalize cC:s1.heap.push {cls:= .type "tuple",data:= .seq us.toArray}=aa at C
  have Z:aa.IsTuple s1.heap.objs.size us.toArray:=⟨_,by rw[←cC];exact d9 _ rfl,rfl,0,rfl⟩
  have t2:bW T g1 s1 g1 {s1 with heap:=aa}:= .grow (t:=s1.toks) (dr:=s1.drawn) C (bh _)
  have bX:=i.1.grow (s':={s1 with heap:=aa}) C (bh _)
  show aU _ A (do rule "assign.swapped-stores";let items←unpackItems (.ref s1.heap.objs.size) xs.length ah;assignInOrder (xs.reverse.map λn=>bindName env n) items.reverse;pure .next) Q E _
  refine aw (lx (aw ?_))
  rw[←r]
  have Ε:=λ(L:List az→aH→Prop) (v: ∀h',(dI aa h')→L us {s1 with heap:=h'})=>by
   have:=akh (prog:=T.prog) (w:=T.w) (E:=E) (Q:=L) (s:={s1 with heap:=aa}) f.b7.handled Z λh' af=>v h' (xo af)
   rwa [eK] at this
  refine Ε _ λay M=> ?_
  have t3:bW T g1 {s1 with heap:=aa} g1 {s1 with heap:=ay}:= .grow (s:={s1 with heap:=aa}) (t:=s1.toks) (dr:=s1.drawn) M (bh _)
  have hj:aW T g1 w1 {s1 with heap:=ay}:=bX.grow (s':={s1 with heap:=ay}) M (bh _)
  have D:=t1.trans (t2.trans t3)
  have dW:=f.ba D hj
  have fl:=(i.2.ba (t2.trans t3) i.1).reverse
  refine aw (Us (λx af=>hm x (RR.mp af)) (by rw[I',I',←r,i.2.length]) dW fl (λy m d ae fg O=> ?_) (λd ae z=> ?_) λs4 en f4=>bj (k _ _ _ ((D.bw f.wd).trans en) f4 .next))
  ·have Y:=fl.fresh ae
   obtain ⟨X,P,R⟩:=dW.Hu O
   obtain ⟨u,J,_⟩:=f.fr.nm y X P R
   have:=(J.ba D f.wd f.fr.loc).one O
   subst this
   obtain ⟨vs',_,⟨o,e,_⟩,_⟩:=n1 f.fr fg ⟨X,P,R⟩ J
   exact nn (Y.symm.trans e)
  ·obtain ⟨o,e⟩:=f.h4 d z
   exact nn ((fl.fresh ae).symm.trans e)
 ·have uX:=qI.mp (dh ag)
  have dt:ts.length=us.length:=((dp (dh (c2 (c2 ag)))).symm).trans r.symm
  show us.toArray.size≤sizeLine
  rw[eK,←dt,t_]
  rcases uX with h|h
  ·rw[dp h];decide
  ·rw[dp h];decide
end
section
variable {K:aP→Prop} {n:Nat} {l fh:List U}
theorem X0 (O: ∀m,m≤n→da T m) {e:Expr} {Y i pos l8:Pos} (D:(i.endLine==pos.line)=ab) (J:ei n cx e σ w=I (fh,w1)) (C:σ.own? cx.sc x=I l) (aa:fh.length≤1048576) (f:bQ T K cx env σ A g w s):
  cH T K cx env A (exec (.Expr (.Call (.Attribute (.Name x Y) (ao "extend") i) [e] [] pos) l8) env) g s (.next,σ.set x (.own (l++fh)),w1):=λE Q q=>by
 have o:=B? C
 have R: ∀x j,e≠ .Starred x j:=λx j e=>by subst e;induction n using fJ<;>exact nn J
 have k:starEach [e] env=[(aq,eval e env)]:=qA R
 have e6:(backTo pos (starEach [e] env)).any (·.1)=false:=by rw[k];rfl
 refine I_ (OD akq F.type_list_extend D (show 1<20 from by decide) e6 f o.1 o.2.1 λa vs Z s_=> ?_) f.eb rfl
 rw[k]
 refine we (y8 ?_)
 rw[a3 cv]
 refine (O n (bh n)).ei J f.inn E _ λg1 s1 v t1 L=>t6 ?_
 obtain ⟨b,us,rfl,ae,M,H,y,h⟩:=L
 have f1:=f.ba t1 M
 have r:=Z.ba t1 f.wd f.fr.loc
 refine fe (n1 f1.fr o.2.1 (lS o.1) r) λc _ X p=>gj X.raw λm d=>gj y.raw λP z=> ?_
 have rN:c.toArray.size≤1048576:=by rw[eK,←p.length];exact o.2.2
 have rO:us.toArray.size≤1048576:=by rw[eK,←h.length];exact aa
 have hsz:c.toArray.size+us.toArray.size≤sizeLine:=by rw[t_];exact pB rN rO rfl
 have c1:=x8 d (λxs:Array az=>xs++us.toArray) (its':=(c++us).toArray) (by simp)
 refine y9 akq ⟨_,d,rfl⟩ F.entry_list_extend (F.args_list_extend_2 _ _) (AutoSeq1.list_extend_list_list_0 a c.toArray m b us.toArray P (extend_door hsz) (cG (gw _ _) hsz) (hP hsz)) ⟨d,z,?_⟩
 have u:=f1.upd (t:=s1.toks) o.1 o.2.1 r c1.2 c1.1 (p.append h) (bh _)
 exact q _ _ _ ((t1.bw f.wd).trans u.1) u.2.1 .next
end
section
variable {T:cA} {K:aP→Prop} {cx:bY} {env:Env} {σ:aA} {A:eU} {g g1:G} {w:W} {s:aH} {n j:Nat} {tgt:Expr} {l:List U} {x y:Str} {v:az} {r:fx×aA×W}
theorem cH.got {t:Sem Flow} {a b:fx×aA×W} (e:I a=I b) (h:cH T K cx env A t g s a):cH T K cx env A t g s b:=inj e▸h
theorem cH.frozen {t:Sem Flow} (f:bQ T K cx env σ A g w s) (a:List Str) (h: ∀g1,bQ T K cx env (σ.freeze a) A g1 w s→cH T K cx env A t g1 s r):cH T K cx env A t g s r:=
 (f.freeze a).elim λg1 x E Q q=>cH.pre x.1 (h g1 x.2) E Q q
theorem XR (d: ∀m,m≤n→da T m) {ts:List Expr} {e:Expr} {pos:Pos} (h:ex (n+1) cx (.Assign ts e pos) σ w=I r) (f:bQ T K cx env σ A g w s):cH T K cx env A (exec (.Assign ts e pos) env) g s r:=
 aO h λa aJ h=>cM (TM aJ) λt o c=> .frozen f (cf 30 ab e) λg1 f1=>by
  rw[o]
  clear aJ
  induction a using wB.casesOn with
  |name x=>exact c.elim λz k=>aO (cy h) λsl J aa=>k▸ .got aa (XS d J (cu h) f1)
  |tuple u=>
   refine nA h (λZ h=> ?_) λq i h=> ?_
   ·exact aO (cy h) λp J aa=>aO aa λC aa ay=>c.1▸(c.2.elim λts q=>hG q λa b eu=>eu▸ .got ay (XU d (cu h) J (eu▸aa) f1))
   ·exact aO h λr J aa=>c.1▸ .got aa (XT d i J f1)
theorem XW (u: ∀m,m≤n→da T m) {t e:Expr} {op:km} {pos:Pos} (h:ex (n+1) cx (.AugAssign t op e pos) σ w=I r) (f:bQ T K cx env σ A g w s):cH T K cx env A (exec (.AugAssign t op e pos) env) g s r:=
 aO h λa aJ h=> .frozen f (cf 30 aq e) λg1 f1=>nA h (λa5 h=>aO (cy h) λq J aa=>aO aa λp ay b=>aO b λz c d=>(J! aJ).elim (λx=>x.elim λR o=>o.1▸ .got d (Lp u (cu h) J ay c f1))
   λx=>x.elim λ_ x=>x.elim λ_ x=>x.elim λ_ x=>aR (a5.symm.trans x.2)) λi aI h=>
  aO (rh h) λk J aa=>aO aa λp ay b=>aO b λl c d=>aO d λfW P Q=>aO Q λj X Y=>aO Y λq E H=>aO H λz L D=>(J! aJ).elim (λx=>x.elim λ_ x=>aR (x.2.symm.trans aI))
   λx=>x.elim λR x=>jk x λZ O o C=>have M:O=i:=inj (C.symm.trans aI)
    o▸M▸ .got D (XX u (any_false (tl h)) J ay c P X E L f1)
theorem XZ (c: ∀m,m≤n→da T m) {e:Expr} {pos:Pos} (h:ex (n+1) cx (.Expr e pos) σ w=I r) (f:bQ T K cx env σ A g w s):cH T K cx env A (exec (.Expr e pos) env) g s r:=
 aO h λq k h=> .frozen f (cf 30 ab e) λg1 f1=>h! (UO k) λp y=>jk y λC l8 i d=>by
  generalize o:σ.freeze (cf 30 ab e)=σ1 at f1 h
  rw[i]
  refine g6 h (λhm h=> ?_) λZ h=>g6 h (λhm h=> ?_) λZ h=>g6 h (λhm h=> ?_) λZ h=>aR h
  ·rw[jv hm]
   exact aO h λa aJ h=>(nr aJ).symm▸aO h λps J aa=>aO aa λp ay b=>aO b λl u z=> .got z (XO c d J ay u f1)
  ·rw[jv hm]
   exact aO h λa aJ h=>(nr aJ).symm▸aO h λr J aa=>aO aa λl ay b=> .got (cy b) (X0 c d J ay (cu b) f1)
  ·refine aO h λr J aa=> .got aa λE Q q=>I_ ((c n (bh n)).ev (i▸J) f1.inn E _ λD s2 v t2 t=>q _ _ _ (t2.bw f1.wd) (f1.ba t2 t.1) .next) f1.eb rfl
theorem X3 (i: ∀m,m≤n→da T m) (k: ∀m,m≤n→kY T m) {t:Expr} {a b:List cK} {pos:Pos} (h:ex (n+1) cx (.If t a b pos) σ w=I r) (f:bQ T K cx env σ A g w s):cH T K cx env A (exec (.If t a b pos) env) g s r:=
 aO h λc J aa=> .frozen f (cf 30 aq t) λg1 f1 E Q q=>y? ((i n (bh n)).fI J f1.inn E _ λo s2 b t2 d=>by
  have f2:=f1.ba t2 d.1
  have e:=k n (bh n)
  rw[show b=c.1 from d.2]
  clear J d h
  obtain ⟨c,fC⟩:=c
  induction c using d1 with
  |true=>exact cH.pre (t2.bw f1.wd) (e.cw aa f2) E Q q
  |false=>exact cH.pre (t2.bw f1.wd) (e.cw aa f2) E Q q)
theorem X4 (a: ∀m,m≤n→da T m) (i: ∀m,m≤n→kY T m) {st:cK} (h:ex (n+1) cx st σ w=I r) (f:bQ T K cx env σ A g w s):cH T K cx env A (exec st env) g s r:=by
 have S:=a n (bh n)
 induction st using I! with
 |Assign=>exact XR a h f
 |AugAssign=>exact XW a h f
 |Expr=>exact XZ a h f
 |If=>exact X3 a i h f
 |For tgt it body R pos=>
  exact aO (cy h) λx J aa=> .frozen f (cf 30 ab it) λg1 f1=>j2.mp (cu h)▸by
   induction n using fJ with
   |zero=>exact aR J
   |succ n=>exact X1 a i J aa f1
 |Return e pos=>exact aO h λC he h=>aO h λp J aa=> .frozen f (cf 30 ab C) λg1 f1=> .got aa (he.symm▸λE Q q=>Ds (S.ev J f1.inn E _ λM s2 v t2 d=>q _ _ _ (t2.bw f1.wd) (f1.ba t2 d.1) (.ret d.2)))
 |Delete ts pos=>exact aO h λq o h=>aO (rh h) λk J aa=>aO aa λl ay u=>aO u λfW D H=>aO H λj L O=>hG (Wf o) λp z P=> .frozen f [] λg1 f1=>P▸ .got O (XY a J ay D L f1)
 |Assert t m pos=>exact aO (cy h) λc J aa=>I?.mp (cu h)▸ .frozen f [] λg1 f1=> .got (cy aa) λE Q q=>wpAny_Assert_holds (S.fI J f1.inn E _ λM s2 b t2 d=>⟨d.2.trans (cu aa),q _ _ _ (t2.bw f1.wd) (f1.ba t2 d.1) .next⟩)
 |_=>exact aR h
theorem X6 (e: ∀m,m≤n→kY T m) {st:List cK} (h:cw (n+1) cx st σ w=I r) (f:bQ T K cx env σ A g w s):cH T K cx env A (execs st env) g s r:=by
 have a:=e n (bh n)
 induction st using cj with
 |nil=>exact .got h λE Q q=>mm (q _ _ _ .refl f .next)
 |cons st rest=>
  refine aO h λx J aa E Q q=>gQ (a.ex J f E _ λk s2 i t2 f2 d=> ?_)
  clear J h
  obtain ⟨fl,b⟩:=x
  have o:=b.1
  have fC:=b.2
  cases d with
  |next=>exact cH.pre t2 (a.cw aa f2) E Q q
  |brk=>exact q _ _ _ t2 (inj aa▸f2) (inj aa▸ .brk)
  |cont=>exact q _ _ _ t2 (inj aa▸f2) (inj aa▸ .cont)
  |ret c=>exact q _ _ _ t2 (inj aa▸f2) (inj aa▸ .ret c)
theorem ag6 (b: ∀m,m≤n→da T m) (a: ∀m,m≤n→kY T m):kY T (n+1):=⟨λh Z Z Z Z Z f=>X4 b a h f,λh Z Z Z Z Z f=>X6 a h f⟩
theorem ag7:kY T 0:=⟨λh Z Z Z Z Z f=>aR h,λh Z Z Z Z Z f=>aR h⟩
end
theorem ajE: ∀{ns:List Str} {us:List az} {x:Str},us.length=ns.length→x∈ns→(ns.zip us).lookup x≠none:=by
 intro ns
 induction ns with
 |nil=>intro _ _ _ h;exact nomatch h
 |cons n ns b=>
  intro us x a af
  induction us using cj with
  |nil=>exact nomatch a
  |cons u us=>
   rw[t!,nc]
   split
   ·exact nofun
   ·rename_i h
    exact b (pg a) ((eo.mp af).elim (λe=>(cv (h.symm.trans (beq_iff_eq.mpr e))).elim) id)
theorem ajF {ns:List Str} {us:List az} (a:us.length=ns.length) {l:List Str} (h: ∀n∈l,n∈ns):l.filter (λn=>((ns.zip us).lookup n).isNone)=[]:=
 List.filter_eq_nil_iff.mpr λn a5 e=>ajE a (h n a5) (I?.mp e)
theorem ajC: ∀{ns:List Str} {us:List az} {pre:List (Str×az)},us.length=ns.length→ns.Nodup→(∀n∈ns,pre.lookup n=ah)→
  ns.filterMap (λn=>((pre++ns.zip us).lookup n).map (n,·))=ns.zip us:=by
 intro ns
 induction ns with
 |nil=>intros;rfl
 |cons n ns b=>
  intro us pre a hd aC
  induction us using cj with
  |nil=>exact nomatch a
  |cons u us=>
   have hd:=y'.mp hd
   have aa:=b (us:=us) (pre:=pre++[(n,u)]) (pg a) hd.2 λm hm=>by
    rw[akr,aC m (fb _ hm)]
    rw[Option.none_or,nc]
    split
    ·rename_i h;exact (hd.1 ((dp h:m=n)▸hm)).elim
    ·rfl
   rw[iT] at aa
   rw[List.filterMap_cons,t!,akr,aC n eQ,aj9]
   exact aQ _ aa
theorem YA {α β:Type} {l:List α} {i:β} {f:α→β→Sem (ForInStep β)} (h:l=[]):forIn l i f=pure i:=by rw[h];rfl
theorem ajB {l:List α}:l.zip (Rx k ([]:List β))=[]:=by rw[JC,List.zip_nil_right]
theorem Kk {M:Model} {A:eU} {E:az→aH→Prop} {Q:List (Str×az)→aH→Prop} {s:aH} {fd:hR} {us:List az} (J:fd.params.posonlyargs=[]) (aa:fd.params.vararg=ah) (ay:fd.params.kwonlyargs=[]) (d:fd.params.kwarg=ah) (e:fd.defaults= .none)
  (b:us.length=(fd.params.args.map (·.arg)).length) (hd:(fd.params.args.map (·.arg)).Nodup) (q:Q ((fd.params.args.map (·.arg)).zip us) s):
  aU M A (bindArgs fd ⟨us,[]⟩) Q E s:=by
 obtain ⟨f1,f2,⟨po,c,g?,kw,mP,vb,f⟩,f4,j!,hn,lM,f8⟩:=fd
 dsimp only at J aa ay d e b hd q
 subst e
 subst J aa ay d
 have g:(c.map Arg.arg++[]).filterMap (λn=>(((c.map Arg.arg).zip us).lookup n).map (n,·))=(c.map Arg.arg).zip us:=by
  rw[e0];exact ajC (pre:=[]) b hd λZ Z=>rfl
 refine aw (bj (aw (bj (a:=ah) (t? (f5 λh=> ?_) (t? (f5 ?_) ?_)))))
 ·exact lz _ (b▸jH (je.mp h).1)
 ·exact λh=>cv (Ja (aQ (λl:List Str=> !l.isEmpty) (ajF b λn h=>List.mem_of_mem_take h).symm) h)
 exact aw (ua (YA ajB) (aw (bj (bj (Eq.mpr (aQ (λl=>Q l s) g) q)))))
theorem Um (af:a x=I .local): ∀{ns:List Str} {us:List az} {m:Str→Option az},ns.length=us.length→ns.Nodup→bindL a (ns.zip us) m x=((ns.zip us).lookup x).or (m x):=by
 intro ns
 induction ns with
 |nil=>intros;rfl
 |cons n ns c=>
  intro us m b hd
  cases us with
  |nil=>exact nomatch b
  |cons u us=>
   rw[y'] at hd
   rw[t!]
   show bindL a (ns.zip us) (if a n=I .local then λy=>if y=n then I u else m y else m) x=_
   rw[c (pg b) hd.2,nc]
   by_cases h:x=n
   ·subst h
    have:(ns.zip us).lookup x=none:=by
     cases e:(ns.zip us).lookup x with
     |none=>rfl
     |some v=>exact bF (RU (mem_of_lookup e)).1 hd.1
    rw[this,a_ af];simp
   ·have aa:(x==n)=false:=beq_eq_false_iff_ne.mpr h
    rw[aa]
    by_cases ay:a n=I .local
    ·rw[a_ ay];simp[h]
    ·rw[a3 ay]
theorem Ul (af:a x≠I .local): ∀{ns:List Str} {us:List az} {m:Str→Option az},ns.length=us.length→ns.Nodup→bindC a (ns.zip us) m x=((ns.zip us).lookup x).or (m x):=by
 intro ns
 induction ns with
 |nil=>intros;rfl
 |cons n ns c=>
  intro us m b hd
  cases us with
  |nil=>exact nomatch b
  |cons u us=>
   rw[y'] at hd
   rw[t!]
   show bindC a (ns.zip us) (if a n=I .local then m else λy=>if y=n then I u else m y) x=_
   rw[c (pg b) hd.2,nc]
   by_cases h:x=n
   ·subst h
    have:(ns.zip us).lookup x=none:=by
     cases e:(ns.zip us).lookup x with
     |none=>rfl
     |some v=>exact bF (RU (mem_of_lookup e)).1 hd.1
    rw[this,a3 af];simp
   ·have aa:(x==n)=false:=beq_eq_false_iff_ne.mpr h
    rw[aa]
    by_cases ay:a n=I .local
    ·rw[a_ ay]
    ·rw[a3 ay];simp[h]
theorem LU: ∀{ns:List Str} {ps:List U} {x:Str},aA.get (ns.zip (ps.map .val)) x=match (ns.zip ps).lookup x with|some p=> .val p|none=> .unset:=by
 intro ns
 induction ns with
 |nil=>intro _ x;simp[aA.get]
 |cons n ns a=>
  intro ps x
  induction ps using cj with
  |nil=>rfl
  |cons p ps=>
   rw[iR,t!,t!,nc]
   show (if (n==x)=ab then Slot.val p else aA.get (ns.zip (ps.map .val)) x)=_
   rw[a]
   by_cases h:n=x
   ·subst h;simp
   ·have J:(n==x)=false:=beq_eq_false_iff_ne.mpr h
    have aa:(x==n)=false:=beq_eq_false_iff_ne.mpr (gu h)
    rw[J,aa];rfl
theorem ajD: ∀{ns:List Str} {ps:List U} {us:List az} {x:Str} {p:U},IsL B aD h ps us→(ns.zip ps).lookup x=I p→ ∃u,(ns.zip us).lookup x=I u∧Is B aD h p u:=by
 intro ns
 induction ns with
 |nil=>intro _ _ _ _ _ e;exact nomatch e
 |cons n ns a=>
  intro ps us x p aX e
  induction aX using IsL.casesOn with
  |nil=>exact nomatch e
  |cons i aX=>
   rw[t!,nc] at e
   rw[t!,nc]
   cases ae:x==n with
   |true=>rw[ae] at e;cases e;exact ⟨_,rfl,i⟩
   |false=>rw[ae] at e;exact a aX e
theorem bW.yF (x:bW T g s g1 s1) (d:aW T g w s) (y:dc T (λb=> ∃o,s.heap.get? b=I o) g1 s1 g2 s2):bW T g s g2 s2 where
 keep b o e n:=y.old b o ⟨o,e⟩ (x.keep b o e n) λz=>(x.ej b z).elim n λz=>by rw[e] at z;exact aR z.symm
 ex b o e:=let ⟨f,c⟩:=x.ex b o e;y.ex b f c
 hD b z:=y.la b (d.ex b z) (x.hD b z)
 iI b z:=(y.iI z).elim (x.iI b) λz=> .inr (x.none z)
 eJ:=by
  obtain ⟨a,h⟩:=x.eJ
  obtain ⟨b,i⟩:=y.eJ
  exact ⟨a++b,by rw[i,h,iT]⟩
 ej b z:=(y.ej b z).elim (x.ej b) λz=> .inr (x.none z)
 gens:=y.gens.trans x.gens
 os:=y.os.trans x.os
 aG:=cG x.aG y.aG
structure S0 (d:j4):Prop where
 kind:d.scope.kind= .function
 gen:d.scope.isGenerator=aq
 V2:d.scope.isCoroutine=aq
 po:d.params.posonlyargs=[]
 g?:d.params.vararg=ah
 kw:d.params.kwonlyargs=[]
 vb:d.params.kwarg=ah
 nm: ∀x k,d.scope.names.lookup x=I k→(k= .local∨k= .cell∨k= .globalImplicit)∧(x==("__debug__":Str))=aq∧(x==("__classdict__":Str))=aq
 par: ∀x∈kI d,d.scope.names.lookup x=I .local∨d.scope.names.lookup x=I .cell
 nY:(kI d).Nodup
theorem Yo (h:Fl d=ab):S0 d:=by
 have J:=dh h
 have aa:=dh J
 have ay:=dh aa
 have a:=dh ay
 have b:=dh a
 have c:=dh b
 have e:=dh c
 have f:=dh e
 have g:=dh f
 refine ⟨dp (dh g),rZ _▸c2 g,rZ _▸c2 f,j2.mp (c2 e),I?.mp (c2 c),j2.mp (c2 b),I?.mp (c2 a),λx k av=> ?_,λx af=> ?_,jH (c2 h)⟩
 ·have q:=iB.mp (c2 aa) (x,k) (mem_of_lookup av)
  exact ⟨(qI.mp (dh (dh q))).elim (λz=>(qI.mp z).elim (λz=> .inl (dp z)) λz=> .inr (.inl (dp z))) λz=> .inr (.inr (dp z)),rZ _▸c2 (dh q),rZ _▸c2 q⟩
 ·exact (qI.mp (iB.mp (c2 J) x af)).imp dp dp
set_option backward.match.sparseCases true in
theorem xl
  (aZ:s.heap.get? a=I o) (ho:o.data= .func fd) (f1:fd.scope.kind= .function) (f2:fd.scope.isGenerator=aq) (dW:fd.scope.isCoroutine=aq) (d?:fd.body= .stmts body) (sF:fd.closure=[]) (oD:fd.globals=mainGlobals) (pW:fd.builtins=builtinsNs) (pX:fd.defaults= .none)
  (mI:s.heap.CodeRec fd.code fd.qualname) (a5:fd.params.args.map (·.arg)=ns) (f4:fd.params.posonlyargs=[]) (j!:fd.params.vararg=ah) (hn:fd.params.kwonlyargs=[]) (lM:fd.params.kwarg=ah)
  (f8: ∀x k,fd.scope.names.lookup x=I k→(k= .local∨k= .cell∨k= .globalImplicit)∧(x==("__debug__":Str))=aq∧(x==("__classdict__":Str))=aq) (pU: ∀x∈ns,fd.scope.names.lookup x=I .local∨fd.scope.names.lookup x=I .cell) (pT:ns.Nodup)
  (hw:aW T g w s) (b7:Room (20*k+30) A) (aX:IsL g.B g.aD s.heap vs us) (n:vs.length=ns.length)
  (h: ∀env g1 s1,bW T g s g1 s1→bQ T (λb=> ∃o,s.heap.get? b=I o) ⟨T.dx,k,fd.scope⟩ env (ns.zip (vs.map .val)) (A.deeper env) g1 w s1→(env.code=fd.code∧env.qual=fd.qualname++(".<locals>.":Str))→ ∀E,aU T.mo (A.deeper env) (execs body env) (λf s'=>R (.ok (.ret (match f with| .ret v=>v|_=> .none))) s') E s1):
  codeAny T.mo A (.call (.ref a) ⟨us,[]⟩) R s:=by
 have Q:us.length=ns.length:=by rw[←aX.length];exact n
 have base:dI T.cp s.heap:=λb o e=>(hw.base b o e).1
 refine aks (fd:=fd) (gP (gw _ _) b7.depth) aZ ho dW f2 d? mI ?_
 refine Kk f4 j! hn lM pX (by rw[a5];exact Q) (by rw[a5];exact pT) ?_
 rw[a5,sF]
 have L: ∀x,fd.scope.names.lookup x=I .cell→((cellsFrom (s.heap.objs.size+1) fd.scope.names []).lookup x).isSome=true:=λx af=>
  (KD (lo:=s.heap.objs.size+1) (acc:=[]) (mem_of_lookup af)).elim λc ag=>(BL ag).elim λek ir=>by rw[ir];rfl
 refine j0 (bh _) (wpAny_newFunctionEnv_cells f1 (λx af=>(pU x.1 (RU (a:=x.1) (b:=x.2) af).1).elim .inl λh=> .inr ⟨h,L x.1 h⟩) λenv he s1 d j=> ?_)
 have z:env.scope=fd.scope:=by rw[he];rfl
 have Z:env.globals=mainGlobals:=by rw[he];exact oD
 have Y:env.builtins=builtinsNs:=by rw[he];exact pW
 have iu:env.cells=cellsFrom (s.heap.objs.size+1) fd.scope.names []:=by rw[he];rfl
 have a':env.code=fd.code∧env.qual=fd.qualname++(".<locals>.":Str):=⟨by rw[he];rfl,by rw[he];rfl⟩
 clear he
 have t:=d.toInCall.keep
 have H:=d.toInCall.ns
 have C:=d.toInCall.fresh
 have X:=d.cell
 have sT:=d.apart
 have kC:=d.above
 obtain ⟨J,aG,rfl⟩:=d.toInCall.same
 clear d
 have i: ∀x,env.kindOf x=fd.scope.names.lookup x:=λx=>z▸rfl
 have nl: ∀{c},s.heap.objs.size≤c→s.heap.get? c=none:=λ{c} ag=>kP ag
 have t1:bW T g s (g.news s.heap J) {s with heap:=J,toks:=aG}:= .news t j
 have bl:aW T (g.news s.heap J) w {s with heap:=J,toks:=aG}:=hw.news t j
 have pI:cL T (g.news s.heap J) env.locals:=H.elim λo q=>q.elim λ_ q=>q.elim λ_ q=>G.nX hw (nl C) q.1
 have k9:=aX.ba t1 hw
 have P: ∀{x l},aA.get (ns.zip (vs.map .val)) x≠ .own l:=λ{x l} e=>by
  rw[LU] at e
  generalize (ns.zip vs).lookup x=o at e
  induction o using d5<;>cases e
 have M:ns.length=us.length:=Q.symm
 have O: ∀{x c},env.cells.lookup x=I c→s.heap.get? c=none:=λ{x c} ag=>nl (iS (gP C (kC x c (mem_of_lookup ag))))
 have slot: ∀x (u:Option az),u=((ns.zip us).lookup x).or ah→gA T (g.news s.heap J) J (aA.get (ns.zip (vs.map .val)) x) u:=λx u b0=>by
  rw[LU]
  generalize aC:(ns.zip vs).lookup x=o
  induction o using d5 with
  |none=>trivial
  |some p=>exact cM (ajD k9 aC) λv aN cV=>⟨v,by rw[b0,aN];rfl,cV⟩
 have fr:dy T (g.news s.heap J) ⟨T.dx,k,fd.scope⟩ env (ns.zip (vs.map .val)) J:={
  glob:=Z
  bi:=Y
  kind:=by rw[z];exact f1
  loc:=pI
  nM:=λx af=>(i x).trans af
  ok:=λx k af=>(f8 x k af).2
  nm:=λx k af b_=>(f8 x k af).1.elim (λe=>have r:=(i x).trans (e▸af);⟨_,.inl ⟨r,_,H,rfl⟩,slot x _ (Um r M pT)⟩) λe=>e.elim
   (λe=>have r:=(i x).trans (e▸af);(RV.mp (L x (e▸af))).elim λc ag=>have ag:=(aQ (RW x) iu).trans ag;(X x c ag).elim λl3 δ=>⟨_,.inr ⟨.inl r,c,ag,X x c ag,G.nX hw (O ag) δ.1⟩,slot x _ (Ul (by rw[r];decide) M pT)⟩)
   λe=>bF e b_
  dx:=rfl
  dict:=⟨_,H⟩
  dm:=λx k af h=>h.elim (λe=> .inl ((i x).trans (e▸af))) λe=> .inr ((i x).trans (e▸af))
  apart:=λx y c af a9=>name_of_addr sT (mem_of_lookup af) (mem_of_lookup a9)
  sep:=λx y l m a e=>bF e P}
 have D:Room (20*k+20) (A.deeper env):=Room.deeper (b7.less (by simp+arith only))
 have c0:bQ T (λb=> ∃o,s.heap.get? b=I o) ⟨T.dx,k,fd.scope⟩ env (ns.zip (vs.map .val)) (A.deeper env) (g.news s.heap J) w {s with heap:=J,toks:=aG}:={
  fr:=fr
  wd:=bl
  b7:=D
  wr:=λx af=>(qI.mp af).elim (λaf=> .inl ⟨(i x).trans (dp af),λ⟨o,e⟩=>nn ((nl C).symm.trans e)⟩) λaf=> .inr ⟨(i x).trans (dp af),λc ag ⟨o,e⟩=>nn ((O ag).symm.trans e)⟩
  own:=λx l a e=>bF e P
  h4:=λb ⟨o,e⟩=>⟨o,t b o e⟩
  sc:=z
  eb:=by unfold interactive;rw[z,f1];rfl}
 exact ⟨T.nolimit.keeps λb o e=>t b o (base b o e),codeAny_func (h env _ _ t1 c0 a' _)⟩
theorem Ky (t: ∀m,m≤n→kY T m) {d:j4} {vs:List U} {p:U} {us:List az} {a:aP} (h:b' (n+1) cx d vs w=I (p,w')) (l:d∈T.dx.fns) (u:cx.dx=T.dx) (hw:aW T g w s) (b7:Room (20*cx.d+10) A) (aX:IsL g.B g.aD s.heap vs us) (C:T.eh d.name=I (.ref a)):
  nh T A (.call (.ref a) ⟨us,[]⟩) g s (Res T w' p):=by
 obtain ⟨dx,k,sc⟩:=cx
 obtain rfl:dx=T.dx:=u
 have c:=dp (cu h)
 replace h:=cy h
 induction k using fJ with
 |zero=>exact aR h
 |succ k=>
 refine aO h λx af h=>aO h λH aC h=>(T.fns d l).2.elim λD y R q=>hG y λo J y=>jk y λcode doc hm z=> ?_
 have F:=Yo (T.fns d l).1
 have base:dI T.cp s.heap:=λb o e=>(hw.base b o e).1
 have e:=kh h
 cases inj (hm.symm.trans C)
 refine xl (base a o z.1) z.2.1 F.kind F.gen F.V2 rfl rfl rfl rfl rfl (z.2.2.keeps base) rfl F.po F.g? F.kw F.vb F.nm F.par F.nY hw (b7.less (by show 20*k+30≤20*(k+1)+10;exact dH rfl)) aX c λenv g1 s1 t1 c0 Z E=>(t n (bh n)).cw af c0 _ _ λi s2 fl t2 f2 j=> ?_
 rw[e.2] at f2
 have fin: ∀v,Is i.B i.aD s2.heap p v→R (.ok (.ret v)) s2:=λv f=>q i s2 v (t1.yF hw t2) ⟨f2.wd,f⟩
 clear h af
 generalize x.1=r at aC j
 induction j using kW.casesOn with
 |ret f=>exact fin _ (e.1▸inj aC▸f)
 |next=>exact fin _ (e.1▸inj aC▸ .none)
 |_=>exact aR aC
theorem UN (b: ∀m,m≤n→kY T m) {d:j4} {vs:List U} {p:U} {us:List az} {a:aP} (h:b' (n+1) cx d vs w=I (p,w')) (e:d∈T.dx.fns) (c:cx.dx=T.dx) (hw:aW T g w s) (b7:Room (20*cx.d+10) A) (aX:IsL g.B g.aD s.heap vs us) (f:T.eh d.name=I (.ref a)):
  aS T A (call (.ref a) us []) g s (Res T w' p):=(Ky b h e c hw b7 aX f).uS
theorem Lg: ∀{l:List α} {i:Nat} {x:α},l[i]?=I x→(x::l.eraseIdx i).Perm l:=by
 intro l
 induction l with
 |nil=>intro i x h;simp at h
 |cons a l b=>
  intro i x h
  induction i using fJ with
  |zero=>simp at h;subst h;exact .refl _
  |succ i=>exact (List.Perm.swap a x _).trans ((b (by simpa using h)).cons a)
set_option tactic.hygienic true in
theorem aeM (f:Nat→Nat): ∀(n k:Nat) (l:List α) (out:Array α),l.length≤n→(RX f n k l out).toList.Perm (out.toList++l):=by
 intro n
 induction n with
 |zero=>
  intro k l out h
  have:l=[]:=Dt.mp (za.mp h)
  subst this
  show out.toList.Perm (out.toList++[])
  rw[e0]
 |succ n b=>
  intro k l out h
  induction l using cj with
  |nil=>
   show out.toList.Perm (out.toList++[])
   rw[e0]
  |cons a l=>
   have c:f k%(a::l).length<(a::l).length:=iC _ (r0 _)
   have e:RX f (n+1) k (a::l) out=((a::l)[f k%(a::l).length]?).elim out λx=>RX f n (k+1) ((a::l).eraseIdx (f k%(a::l).length)) (out.push x):=aY
   have af:=ly c
   have aC:=Lg af
   rw[e,af]
   refine (b _ _ _ (by have:=aC.length_eq;rw[gR] at this;exact bE (cc h (dH this)))).trans ?_
   rw[akt,iT]
   exact aC.append_left _
theorem aeO (f:Nat→Nat) (a:Array α):(pickOrder f a).toList.Perm a.toList:=by
 have:=aeM f a.size 0 a.toList #[] (dH ub)
 simpa [pickOrder] using this
theorem aja (a5:n≠0) (h: ∀i d,i<n→Q i {s with drawn:=d}):aU (cU prog w) A (choose src n) Q E s:=λb p a=>by
 show n≠0∧_
 exact ⟨a5,h _ _ (iC _ (DX a5))⟩
theorem Wm: ∀(n:Nat) (b:List α) (s:aH) {Q:List α→aH→Prop},b.length≤n→(∀cq d,cq.Perm b→Q cq {s with drawn:=d})→aU (cU prog w) A (drawOrder n b) Q E s:=by
 intro n
 induction n with
 |zero=>
  intro b s Q h k
  have:b=[]:=Dt.mp (za.mp h)
  subst this
  exact bj (k [] s.drawn .nil)
 |succ n c=>
  intro b s Q h k
  induction b using cj with
  |nil=>exact bj (k [] s.drawn .nil)
  |cons a l=>
   refine aw (aja (y_ _) λi d aI=> ?_)
   rw[ly aI]
   have af:(a::l)[i]?=I (a::l)[i]:=ly aI
   have aC:=Lg af
   refine aw (c _ _ (by have:=aC.length_eq;rw[gR] at this;exact bE (cc h (dH this))) λcq e a9=>bj ?_)
   exact k _ e ((a9.cons _).trans aC)
theorem vS:_root_.PySem.Slot "set_iterator" "__next__" "set_iterator.__next__":=
 .of (owner:="set_iterator") (n:="__next__") (by rw[r1,r2];kernel_rfl) bx bx bx
  (by first|exact .inl bx|exact .inr bx) (by rw[wh];kernel_rfl)
theorem Pw:_root_.PySem.Slot "set_iterator" "__iter__" "set_iterator.__iter__":=
 .of (owner:="set_iterator") (n:="__iter__") (by rw[r1,r2];kernel_rfl) bx bx bx
  (by first|exact .inl bx|exact .inr bx) (by rw[wh];kernel_rfl)
theorem agO:entryFor table "set_iterator.__next__"=I qJ.«set_iterator.__next__»:=RY aY
theorem agN:entryFor table "set_iterator.__iter__"=I qJ.«dict_keyiterator.__iter__»:=
 RZ (id':="dict_keyiterator.__iter__") aY (by first|rfl|decide+kernel|(unfold R0;simp+decide [R1])) bx aY
theorem agJ (a:az):argsOk "set_iterator.__next__" ⟨[a],[]⟩:=by unfold argsOk;kernel_rfl
theorem agI (a:az):argsOk "set_iterator.__iter__" ⟨[a],[]⟩:=by unfold argsOk;kernel_rfl
theorem agr:entryFor table "set.__iter__"=I qJ.«frozenset.__iter__»:=
 RZ (id':="frozenset.__iter__") aY (by first|rfl|decide+kernel|(unfold R0;simp+decide [R1])) bx aY
theorem agq (a:az):argsOk "set.__iter__" ⟨[a],[]⟩:=by unfold argsOk;kernel_rfl
noncomputable def il (w:rS):Bool:=w.params.followText "set-order"
def jJ (prog:Dm) (w:rS) (h:bU) (a:aP) (b:List Str):Prop:=
 ∃o es c t,h.get? a=I o∧o.ExactSet∧o.data= .set es c t∧Du (strKind prog w) es.toList∧(es.toList.map λe=>strOf e.2).Perm b∧t.fits es.size=ab∧t.led= !il w∧(es.size=0∨t.plain=aq)
inductive ji (prog:Dm) (w:rS) (ak a P:aP) (vs:List az) (h:bU) (i:Nat):Prop where
 |text (o:Obj) (es:Array (Int×az)) (bz:Nat) (t:qK) (j:Int):h.get? ak=I {cls:= .type "set_iterator",data:= .fields #[.int j 0,.int i 0,.ref a,.int es.size 0,.int bz 0]}→
   h.get? a=I o→o.data= .set es bz t→t.fits es.size=ab→il w=ab→(∀k:Nat,((pickOrder (w.params.setOrder a bz) es)[k]?).map (λe:Int×az=>e.2)=vs[k]?)→ji prog w ak a P vs h i
 |drawn (o:Obj) (es:Array (Int×az)) (bz:Nat) (t:qK) (bP:List Nat):h.get? ak=I {cls:= .type "set_iterator",data:= .fields #[.ref P,.int i 0,.ref a,.int es.size 0,.int bz 0]}→
   h.get? a=I o→o.data= .set es bz t→t.fits es.size=ab→h.get? P=I {cls:= .type "tuple",data:= .seq (bP.map λ(i:Nat)=>rawInt i).toArray}→(∀k:Nat,(bP[k]?).bind (λp=>(es[p]?).map (λe:Int×az=>e.2))=vs[k]?)→(∀p∈bP,p<es.size)→ji prog w ak a P vs h i
 |one (o:Obj) (es:Array (Int×az)) (bz:Nat) (t:qK) (j:Nat):h.get? ak=I {cls:= .type "set_iterator",data:= .fields #[.int j 0,.int i 0,.ref a,.int es.size 0,.int bz 0]}→
   h.get? a=I o→o.data= .set es bz t→t.fits es.size=ab→il w=aq→t.led=ab→es.size≤1→wi t.place j=i→(∀k:Nat,(es[k]?).map (λe:Int×az=>e.2)=vs[k]?)→ji prog w ak a P vs h i
section
variable {E:az→aH→Prop} {s:aH} {vs:List az} {i:Nat}
theorem ji.at (h:ji prog w ak a P vs h0 i) {h':bU} (av: ∀b∈[ak,a,P],∀o,h0.get? b=I o→h'.get? b=I o):ji prog w ak a P vs h' i:=by
 have bp:=av ak (by simp)
 have bK:=av a (by simp)
 have dg:=av P (by simp)
 induction h using ji.casesOn with
 |text o es f t j J aa ay c d e=>exact .text o es f t j (bp _ J) (bK _ aa) ay c d e
 |drawn o es f t bP J aa ay c d e g=>exact .drawn o es f t bP (bp _ J) (bK _ aa) ay c (dg _ d) e g
 |one o es f t j J aa ay c d e g k l=>exact .one o es f t j (bp _ J) (bK _ aa) ay c d e g k l
theorem ji.type (h:ji prog w ak a P vs s.heap i):s.TypeIs (.ref ak) "set_iterator":=by
 induction h using ji.casesOn with
 |text o es b t j J=>exact ⟨_,J,rfl⟩
 |drawn o es b t bP J=>exact ⟨_,J,rfl⟩
 |one o es b t j J=>exact ⟨_,J,rfl⟩
theorem v? (h:Q (il w) s):aU (cU prog w) A setsByText Q E s:=by
 unfold setsByText
 exact aw (y6 (bj h))
theorem Cw (bZ:s.TypeIs (.ref ak) "set_iterator")
  (h:aU (cU prog w) A.in1 (qJ.«set_iterator.__next__» ⟨[.ref ak],[]⟩) (λfin s'=> ∃v,fin= .done (.ret v)∧Q (I v) s') (λe s'=>aU (cU prog w) A (do if←isInstance e (.type "StopIteration") then pure ah else throw e) Q E s') s):
  aU (cU prog w) A (pyNext (.ref ak)) Q E s:=by
 unfold pyNext
 refine aw (Dv (Jc (name:=ao "__next__") bZ vS (r3 vS bZ agO (hQ h ?_ ?_) (agJ _))))
 ·rintro fin s' ⟨v,rfl,a⟩
  exact ⟨v,rfl,bj a⟩
 ·intro e s' h'
  exact h'
theorem agu (aa:s.heap.get? a=I o) (ay:o.data= .set es d t) (b:t.fits es.size=ab) (c:il w=ab) (h:Q (pickOrder (w.params.setOrder a d) es) s):
  aU (cU prog w) A (setWalk a) Q E s:=by
 unfold setWalk
 refine aw (wj aa ay b ?_)
 refine aw (v? ?_)
 rw[c]
 exact aw (y6 (bj h))
theorem Ob (aa:s.heap.get? a=I o) (ay:o.data= .set es b t) (c:t.fits es.size=ab) (d:il w=ab) (h:Q (((pickOrder (w.params.setOrder a b) es)[i]?).map λe=>(e.2,sl)) s):
  aU (cU prog w) A (setNext a sl i b) Q E s:=by
 unfold setNext
 refine aw (wj aa ay c ?_)
 refine aw (v? ?_)
 rw[d]
 show aU _ _ (if (b !=b)=ab then _ else (setWalk a>>=_)) _ _ _
 refine t? (by simp) ?_
 exact aw (agu aa ay c d (bj h))
theorem adI (aa:s.heap.get? a=I o) (ay:o.data= .set es k t) (c:t.fits es.size=ab) (j:il w=aq) (g:t.led=ab) (J:es.size≤1) (he:es[wi t.place sl]?=I e) (b:t.place[wi t.place sl]?=I q) (h:Q (I (e.2,q+1)) s):
  aU (cU prog w) A (setNext a sl i k) Q E s:=by
 unfold setNext
 refine aw (wj aa ay c ?_)
 refine aw (v? ?_)
 rw[j]
 have d:(!t.plain&&decide (es.size>1))=false:=by rw[f5 (wc.mpr J),R2]
 have f:(!t.led&& !es.isEmpty)=false:=by rw[g];rfl
 show aU _ _ (if (!t.plain&&decide (es.size>1))=ab then _ else (do (if (!t.led&& !es.isEmpty)=ab then _ else pure ());pure _)) _ _ _
 rw[a3 (by rw[d];exact cv),a3 (by rw[f];exact cv)]
 refine aw (bj (bj ?_))
 rw[he,b]
 exact h
theorem adJ (aa:s.heap.get? a=I o) (ay:o.data= .set es g t) (b:t.fits es.size=ab) (f:il w=aq) (e:t.led=ab) (J:es.size≤1) (he:es[wi t.place sl]?=ah) (h:Q ah s):
  aU (cU prog w) A (setNext a sl i g) Q E s:=by
 unfold setNext
 refine aw (wj aa ay b ?_)
 refine aw (v? ?_)
 rw[f]
 have c:(!t.plain&&decide (es.size>1))=false:=by rw[f5 (wc.mpr J),R2]
 have d:(!t.led&& !es.isEmpty)=false:=by rw[e];rfl
 show aU _ _ (if (!t.plain&&decide (es.size>1))=ab then _ else (do (if (!t.led&& !es.isEmpty)=ab then _ else pure ());pure _)) _ _ _
 rw[a3 (by rw[c];exact cv),a3 (by rw[d];exact cv)]
 refine aw (bj (bj ?_))
 rw[he]
 exact h
theorem CY {h:bU} {ak:aP} {vs:Array az} {k:Nat} {x:az} (J:h.get? ak=I {cls:= .type "set_iterator",data:= .fields vs}):(h.update ak (Obj.mapFields (·.setIfInBounds k x))).get? ak=I {cls:= .type "set_iterator",data:= .fields (vs.setIfInBounds k x)}:=by
 refine (wk _ J (Obj.isFreed_of_fields (Obj.data_mapFields rfl _))).trans ?_
 rfl
theorem rK {h:bU} (ae:b≠ak) (e:h.get? b=I o):(h.update ak f).get? b=I o:=(t' _ _ (gu ae)).trans e
theorem T' (J:xs.size≤1) {q:Nat} (a:xs[i]?=I q):wi xs (q+1)=i+1:=by
 obtain ⟨l⟩:=xs
 induction l using cj with
 |nil=>exact aR a
 |cons x l=>
  induction l using cj with
  |cons y l=>exact bF J (DZ (zb (r0 _)))
  |nil=>
   induction i using fJ with
   |zero=>
    have a:x=q:=zt a
    subst a
    exact (show wi #[x] (x+1)=if x<x+1 then 1 else 0 from aY).trans (a_ (gv _))
   |succ i=>exact aR a
theorem T_ (J:xs.size≤1):wi xs 0=0:=by
 obtain ⟨l⟩:=xs
 induction l using cj with
 |nil=>rfl
 |cons x l=>
  induction l using cj with
  |cons y l=>exact bF J (DZ (zb (r0 _)))
  |nil=>rfl
theorem Fi {t:qK} (h:t.fits n=ab):t.place.size=n:=by
 simp only[SetTable.fits,j3,beq_iff_eq] at h
 exact h.1
theorem vq {ak b:aP} (h:b∉[ak]):b≠ak:=λe=>h (e▸List.mem_singleton_self _)
theorem N8 {ak b:aP} (h:b≠ak):b∉[ak]:=λe=>h (ep.mp e)
theorem acY {O:Option (Int×az)} (h:O.map (λe:Int×az=>e.2)=I v):O.map (λe=>(e.2,sl))=I (v,sl):=by
 induction O using d5 with
 |none=>exact aR h
 |some e=>cases h;rfl
theorem N5 {O:Option (Int×az)} (h:O.map (λe:Int×az=>e.2)=ah):O=none:=by
 induction O using d5 with
 |none=>rfl
 |some e=>exact aR h.symm
noncomputable abbrev H5 (x:az) (i a n b:Nat):Obj:={cls:= .type "set_iterator",data:= .fields #[x,.int i 0,.ref a,.int n 0,.int b 0]}
theorem Py {kH:Nat} {x:az} {j:Int} {Q:Option az→aH→Prop} (J:s.heap.get? ak=I (H5 (.int j 0) i a es.size c)) (aa:s.heap.get? a=I o) (ay:o.data= .set es c t) (d:t.fits es.size=ab)
  (a5: ∀{Q E},Q (I (x,kH)) s→aU (cU prog w) A.in1 (setNext a j.toNat i c) Q E s) (k: ∀h',h'.get? ak=I (H5 (.int kH 0) (i+1) a es.size c)→(∀b o,b∉[ak]→s.heap.get? b=I o→h'.get? b=I o)→Q (I x) {s with heap:=h'}):aU (cU prog w) A (pyNext (.ref ak)) Q E s:=by
 refine Cw ⟨_,J,rfl⟩ ?_
 show aU _ _ (fieldsOf (.ref ak)>>=_) _ _ s
 refine aw (Jd J rfl ?_)
 show aU _ _ (setEntries a>>=_) _ _ s
 refine aw (Dw aa ay d ?_)
 refine t? (by simp) ?_
 show aU _ _ (setNext a j.toNat i c>>=_) _ _ s
 refine aw (a5 ?_)
 show aU _ _ (setField (.ref ak) 0 (rawInt kH)>>=_) _ _ s
 refine aw (zc J rfl (by simp) ?_)
 have g1:=CY (k:=0) (x:=rawInt kH) J
 refine aw (zc g1 rfl (by simp) ?_)
 exact bj ⟨_,rfl,k _ (CY (k:=1) (x:=rawInt (i+1)) g1) λb o ae e=>rK (vq ae) (rK (vq ae) e)⟩
theorem aeS {bP:List Nat} (aC:bP[i]?=I p):((bP.map λ(i:Nat)=>rawInt i).toArray)[(i:Int).toNat]?=I (rawInt p):=by
 rw[Dx,qH,mj,aC]
 rfl
theorem Wo (aa:s.heap.get? a=I o) (ay:o.data= .set es d t) (c:t.fits es.size=ab) (b:es[p]?=I e) (h:Q e.2 s):aU (cU prog w) A (setNextDrawn a p d) Q E s:=by
 unfold setNextDrawn
 refine aw (wj aa ay c ?_)
 refine t? (by simp) ?_
 rw[b]
 exact bj h
theorem agP {Q:Option az→aH→Prop} (h:ji prog w ak a P vs s.heap i) (u:a≠ak) (H:P≠ak) (aN:vs[i]?=I v) (k: ∀h',ji prog w ak a P vs h' (i+1)→(∀b o,b∉[ak]→s.heap.get? b=I o→h'.get? b=I o)→Q (I v) {s with heap:=h'}):
  aU (cU prog w) A (pyNext (.ref ak)) Q E s:=by
 induction h using ji.casesOn with
 |text o es m t j J aa ay c d l=>
  exact Py J aa ay c (λq=>Ob aa ay c d (by rw[acY ((l i).trans aN)];exact q)) λh' g f=>k h' (.text o es m t _ g (f _ _ (N8 u) aa) ay c d l) f
 |drawn o es m t bP J aa ay c d l n=>
  obtain ⟨p,aC,r⟩:=Option.bind_eq_some_iff.mp ((l i).trans aN)
  obtain ⟨e,L,rfl⟩:=t5.mp r
  refine Cw ⟨_,J,rfl⟩ ?_
  show aU _ _ (fieldsOf (.ref ak)>>=_) _ _ s
  refine aw (Jd J rfl ?_)
  show aU _ _ (setEntries a>>=_) _ _ s
  refine aw (Dw aa ay c ?_)
  refine t? (by simp) ?_
  show aU _ _ (seqItems? (.ref P)>>=_) _ _ s
  refine aw (wpAny_seqItems d rfl ?_)
  dsimp only
  rw[aeS aC]
  show aU _ _ (setNextDrawn a p m>>=_) _ _ s
  refine aw (Wo aa ay c L (aw (zc J rfl (by simp) ?_)))
  exact bj ⟨_,rfl,k _ (.drawn o es m t bP (CY (k:=1) (x:=rawInt (i+1)) J) (rK u aa) ay c (rK H d) l n) λb o ae e=>rK (vq ae) e⟩
 |one o es m t j J aa ay c d l n y C=>
  obtain ⟨e,aC,rfl⟩:=t5.mp ((C i).trans aN)
  have D:i<t.place.size:=by rw[Fi c];exact (Array.getElem?_eq_some_iff.mp aC).1
  have r:t.place[i]?=I t.place[i]:=R3 D
  exact Py (j:=(j:Nat)) J aa ay c (λz=>adI aa ay c d l n (by rw[Dx,y];exact aC) (by rw[Dx,y];exact r) z) λh' g f=>k h' (.one o es m t _ g (f _ _ (N8 u) aa) ay c d l n (T' (by rw[Fi c];exact n) r) C) f
theorem H6 {α:Type} {R:α→aH→Prop} {Q:Option az→aH→Prop} (cC:A.handled=ah) (a: ∀h',(dI s.heap h')→Q ah {s with heap:=h'}):
  aU (cU prog w) A.in1 (do let e←newExc (.type "StopIteration") [];raiseNew e:Sem α) R
   (λe s'=>aU (cU prog w) A (do if←isInstance e (.type "StopIteration") then pure ah else throw e) Q E s') s:=by
 refine aw (aw (m' (aw (m:=firstArgMember _ _) (bj (m' (wpAny_raiseNew_none cC ?_) (by size_fits)))) (by size_fits)))
 refine aw (wpAny_isInstance (T:="StopIteration") (b:=ab) ⟨_,d9 _ rfl,rfl⟩ isSubtype_stop ?_)
 exact bj (a _ λb o e=>dE _ (dE _ e))
theorem Px {j:Int} {Q:Option az→aH→Prop} (J:s.heap.get? ak=I (H5 (.int j 0) i a es.size c)) (aa:s.heap.get? a=I o) (ay:o.data= .set es c t) (d:t.fits es.size=ab) (cC:A.handled=ah)
  (a5: ∀{Q E},Q ah s→aU (cU prog w) A.in1 (setNext a j.toNat i c) Q E s) (k: ∀h',(∀b o,b∉[ak]→s.heap.get? b=I o→h'.get? b=I o)→Q ah {s with heap:=h'}):aU (cU prog w) A (pyNext (.ref ak)) Q E s:=by
 refine Cw ⟨_,J,rfl⟩ ?_
 show aU _ _ (fieldsOf (.ref ak)>>=_) _ _ s
 refine aw (Jd J rfl ?_)
 show aU _ _ (setEntries a>>=_) _ _ s
 refine aw (Dw aa ay d ?_)
 refine t? (by simp) ?_
 show aU _ _ (setNext a j.toNat i c>>=_) _ _ s
 refine aw (a5 ?_)
 show aU _ _ (setField (.ref ak) 2 .none>>=_) _ _ s
 refine aw (zc J rfl (by simp) ?_)
 exact H6 cC λh' f=>k h' λb o ae e=>f b o (rK (vq ae) e)
theorem aeW {bP:List Nat} {es:Array (Int×az)} (a: ∀p∈bP,p<es.size) (h:(bP[i]?).bind (λp=>(es[p]?).map (λe:Int×az=>e.2))=ah):((bP.map λ(i:Nat)=>rawInt i).toArray)[(i:Int).toNat]?=none:=by
 rw[Dx,qH,mj]
 cases aC:bP[i]? with
 |none=>rfl
 |some p=>
  rw[aC] at h
  exact nomatch (aQ (Dd λe:Int×az=>e.2) (R3 (a p (ia aC)))).symm.trans h
theorem agL {Q:Option az→aH→Prop} (h:ji prog w ak a P vs s.heap vs.length) (cC:A.handled=ah) (k: ∀h',(∀b o,b∉[ak]→s.heap.get? b=I o→h'.get? b=I o)→Q ah {s with heap:=h'}):
  aU (cU prog w) A (pyNext (.ref ak)) Q E s:=by
 have aN:vs[vs.length]?=none:=R4 (bh _)
 induction h using ji.casesOn with
 |text o es l t j J aa ay c d f=>
  exact Px J aa ay c cC (λq=>Ob aa ay c d (by rw[N5 ((f vs.length).trans aN)];exact q)) k
 |drawn o es l t bP J aa ay c d f g=>
  refine Cw ⟨_,J,rfl⟩ ?_
  show aU _ _ (fieldsOf (.ref ak)>>=_) _ _ s
  refine aw (Jd J rfl ?_)
  show aU _ _ (setEntries a>>=_) _ _ s
  refine aw (Dw aa ay c ?_)
  refine t? (by simp) ?_
  show aU _ _ (seqItems? (.ref P)>>=_) _ _ s
  refine aw (wpAny_seqItems d rfl ?_)
  dsimp only
  rw[aeW g ((f vs.length).trans aN)]
  show aU _ _ (setField (.ref ak) 0 (rawInt 0)>>=_) _ _ s
  refine aw (zc J rfl (by simp) ?_)
  refine aw (zc (CY (k:=0) (x:=rawInt 0) J) rfl (by simp) ?_)
  exact H6 cC λh' m=>k h' λb o ae e=>m b o (rK (vq ae) (rK (vq ae) e))
 |one o es l t j J aa ay c d f g n p=>
  exact Px (j:=(j:Nat)) J aa ay c cC (λq=>adJ aa ay c d f g (by rw[Dx,n];exact N5 ((p vs.length).trans aN)) q) k
theorem agQ (cC:A.handled=ah) (e:a≠ak) (g:P≠ak):Walks prog w A ak [ak,a,P] [ak] vs.length (λi v=>vs[i]?=I v) (λi h=>ji prog w ak a P vs h i) where
 sub:=λb ae=>by simp at ae;simp[ae]
 frame:=λi h h' st av=>st.at av
 item:=λi s Q E aI st c=>agP st e g (v:=vs[i]) (ly aI) λh' f d=>c _ h' s.toks (ly aI) f d
 done:=λs Q E st c=>agL st cC λh' d=>c h' s.toks d
 self:=λi s Q E st c=>by
  refine R5 st.type Pw (r3 Pw st.type agN ?_ (agI _))
  show aU _ _ (ret (.ref ak)) _ _ s
  exact bj ⟨_,rfl,"set_iterator",_,st.type,vS.lookup,c⟩
theorem afR {es:Array (Int×az)}:((eB es.size).map λp=>((es[p]?).map λe:Int×az=>e.2).getD .none)=es.toList.map λe=>e.2:=by
 apply List.ext_getElem
 ·simp
 ·intro i J aa
  simp at J
  simp[J]
theorem Iy {es:Array (Int×az)} (d:Du (strKind prog w) es.toList) (aC:(es.toList.map λe=>strOf e.2).Perm c) (aN:vs.Perm (es.toList.map λe=>e.2)): ∃a,r4 vs a∧a.Perm c:=by
 refine ⟨vs.map strOf,strsAre_map vs λv hm=> ?_,(aN.map strOf).trans (by rw[iD];exact aC)⟩
 obtain ⟨e,he,rfl⟩:=hc.mp (aN.mem_iff.mp hm)
 obtain ⟨⟨x,af,_⟩,_⟩:=d e he
 obtain ⟨t,b⟩:=R6 (show R7 x e.2=ab from af)
 exact ⟨x,t,b⟩
theorem aaL {Q:az→aH→Prop} (h:jJ prog w s.heap a r) (x:r.length<64)
  (k: ∀ak P vs f h' d,ji prog w ak a P vs h' 0→r4 vs f→f.Perm r→a≠ak→P≠ak→P<h'.objs.size→s.heap.objs.size≤ak→(dI s.heap h')→(P=a∨s.heap.objs.size≤P)→Q (.ref ak) {s with heap:=h',drawn:=d}):
  aU (cU prog w) A (pyIter (.ref a)) Q E s:=by
 obtain ⟨o,es,l,t,aa,hex,ay,n,aC,c,u,e6⟩:=h
 have aJ:a<s.heap.objs.size:=iA aa
 have bZ:s.TypeIs (.ref a) "set":=⟨_,aa,hex.1⟩
 refine R5 bZ F.slot_set_iter (r3 F.slot_set_iter bZ agr ?_ (agq _))
 unfold qJ.«frozenset.__iter__»
 refine aw (m:=amz "__iter__" ⟨[.ref a],[]⟩) (bj ?_)
 refine aw ?_
 unfold amA
 refine aw (Dw aa ay c (bj ?_))
 refine aw ?_
 show aU _ _ (setState a>>=_) _ _ _
 refine aw (wj aa ay c ?_)
 refine aw (v? (bj ?_))
 cases ae:il w with
 |true=>
  rw[a3 (show¬((!ab&&_)=ab) from cv)]
  refine aw (bj ?_)
  refine aw (R8 aa ay c ?_)
  refine aw (m' (bj ⟨_,rfl,"set_iterator",_,⟨_,d9 _ rfl,rfl⟩,vS.lookup,?_⟩))
  have g:=(aeO (w.params.setOrder a l) es).map λe=>e.2
  obtain ⟨f,c!,dT⟩:=Iy n aC g
  refine k _ a _ f _ s.drawn (.text o es l t 0 (d9 _ rfl) (dE _ aa) ay c ae λj=> ?_) c! dT (hg aJ) (hg aJ) (by rw[hb];exact m? aJ) (bh _) (λb o e=>dE _ e) (.inl rfl)
  rw[mj,Dy]
 |false=>
  show aU _ _ (if (!t.plain&&decide (es.size>1))=ab then _ else _) _ _ _
  by_cases hd:(!t.plain&&decide (es.size>1))=ab
  ·rw[a_ hd]
   refine aw (Wm _ _ _ (by simp) λcq d a9=> ?_)
   have g:=(a9.map λp=>((es[p]?).map λe:Int×az=>e.2).getD .none)
   rw[afR] at g
   obtain ⟨f,c!,dT⟩:=Iy n aC g
   have hm: ∀p∈cq,p<es.size:=λp aC=>by simpa using a9.mem_iff.mp aC
   unfold newTuple
   refine aw (m' ?_ (by
    show (cq.map _).toArray.size≤sizeLine
    have q:=aC.length_eq
    rw[df,ub] at q
    rw[eK,df,a9.length_eq,jE,t_]
    exact bE (cc (e8 x) (dH q))))
   refine aw (R8 (dE _ aa) ay c ?_)
   refine aw (m' (bj ⟨_,rfl,"set_iterator",_,⟨_,d9 _ rfl,rfl⟩,vS.lookup,?_⟩))
   refine k _ s.heap.objs.size _ f _ d (.drawn o es l t cq (d9 _ rfl) (dE _ (dE _ aa)) ay c (dE _ (d9 _ rfl)) (λj=> ?_) hm) c! dT (by rw[hb];exact hg (m? aJ)) (by rw[hb];exact hg (gv _)) (by rw[hb,hb];exact m? (gv _)) (by rw[hb];exact jD _) (λb o e=>dE _ (dE _ e)) (.inr (bh _))
   rw[mj]
   cases v:cq[j]? with
   |none=>rfl
   |some p=>
    have:=hm p (ia v)
    simp[this]
  ·rw[a3 hd]
   have J:es.size≤1:=by
    apply Dz
    intro z
    refine hd ?_
    rw[e6.resolve_left (by exact j6 (bE (Hq z))),e1 (Nat.not_le.mp z)]
    rfl
   refine aw (bj ?_)
   refine aw (R8 aa ay c ?_)
   refine aw (m' (bj ⟨_,rfl,"set_iterator",_,⟨_,d9 _ rfl,rfl⟩,vS.lookup,?_⟩))
   obtain ⟨f,c!,dT⟩:=Iy n aC (List.Perm.refl _)
   refine k _ a _ f _ s.drawn (.one o es l t 0 (d9 _ rfl) (dE _ aa) ay c ae (by rw[u,ae];rfl) J (T_ (by rw[Fi c];exact J)) λj=> ?_) c! dT (hg aJ) (hg aJ) (by rw[hb];exact m? aJ) (bh _) (λb o e=>dE _ e) (.inl rfl)
   rw[mj,Dy]
theorem VG (h:jJ prog w s.heap a u) (X:u.length<64) (cC:A.handled=ah)
  (k: ∀vs j h' d aG,r4 vs j→j.Perm u→(dI s.heap h')→s.toks≤aG→Q vs {s with heap:=h',drawn:=d,toks:=aG}):
  aU (cU prog w) A (collect (.ref a)) Q E s:=by
 have aJ:a<s.heap.objs.size:=by obtain ⟨o,es,g,t,aa,_⟩:=h;exact iA aa
 unfold collect
 refine aw (wpAny_runValue (zd F.entry_proto_collect ?_))
 rw[DA F.plain_proto_collect _]
 show aU _ A.in1 (newList []>>=λl=>again (.builtin "list.__iadd__" ⟨[l,.ref a],[]⟩)) _ _ s
 refine aw (m' ?_)
 refine bj ⟨Je akv _,zd F.entry_list_iadd ?_⟩
 rw[DA akv _]
 have H:(s.heap.push {cls:= .type "list",data:= .seq ([]:List az).toArray}).get? s.heap.objs.size=I {cls:= .type "list",data:= .seq ([]:List az).toArray}:=d9 _ rfl
 have J:jJ prog w (s.heap.push {cls:= .type "list",data:= .seq ([]:List az).toArray}) a u:=by
  obtain ⟨o,es,g,t,aa,ay⟩:=h
  exact ⟨o,es,g,t,dE _ aa,ay⟩
 have bZ:R9 {s with heap:=s.heap.push {cls:= .type "list",data:= .seq ([]:List az).toArray}} (.ref a) "set":=by
  obtain ⟨o,es,g,t,aa,ay,_⟩:=J
  exact ⟨_,aa,ay.1⟩
 show aU _ A.in1 (akw (.ref s.heap.objs.size) (.ref a) (.ref s.heap.objs.size)) _ _ _
 unfold akw
 refine aw (wpAny_typeOf bZ ?_)
 have aK:akx (.ref s.heap.objs.size) (.ref a)=false:=by simp[akx,j6 aJ]
 rw[a3 (by rw[aK];decide)]
 refine aw (aaL J X λak P vs j h' d st c! dT sP xu alS eG f d3=> ?_)
 have Z:s.heap.objs.size≠ak:=λe=>by rw[hb] at eG;rw[←e] at eG;exact RP _ eG
 have Zs:s.heap.objs.size≠P:=λe=>by
  rw[hb] at d3
  exact d3.elim (λq=>j6 aJ (e.trans q)) λq=>RP _ (by rw[←e] at q;exact q)
 have R:s.heap.objs.size∉[ak,a,P]:=by simp[Z,Zs,j6 aJ]
 refine aw (fK ?_)
 unfold Builtin.List.listLengthHint
 have m:R9 {s with heap:=h',drawn:=d} (.ref a) "set":=by
  obtain ⟨o,es,g,t,aa,ay,_⟩:=J
  exact ⟨_,f _ _ aa,ay.1⟩
 refine aw (Rw m F.slot_set_len.lookup ?_)
 (generalize n:("set.__len__":String)=D;(fail_if_success (clear n D));wp_delta;rw[show splitId D=I ("set","__len__") from by subst n;decide+kernel];subst n)
 refine aw (wpAny_isInstance (b:=ab) m (by rw[wh];kernel_rfl) ?_)
 rw[a3 ar,a_ bx]
 refine aw (wpAny_typeOf m ?_)
 refine bj ?_
 rw[a_ ar]
 refine aw (lx ?_)
 refine aw ?_
 show aU _ A.in1 (updateSeq s.heap.objs.size (·.push .none)>>=λ_=>updateSeq s.heap.objs.size (·.pop)) _ _ _
 refine aw (wpAny_updateSeq (f _ _ H) rfl ?_)
 have L:=wk (rY (·.push Value.none)) (f _ _ H) rfl
 refine wpAny_updateSeq L rfl ?_
 have Zt:=wk (rY (·.pop)) L rfl
 have O: ∀b o,b≠s.heap.objs.size→h'.get? b=I o→((h'.update s.heap.objs.size (rY (·.push Value.none))).update s.heap.objs.size (rY (·.pop))).get? b=I o:=
  λb o ae e=>(t' _ _ (gu ae)).trans ((t' _ _ (gu ae)).trans e)
 have W:WalksS prog w A.in1 ak [ak,a,P] [ak] (λx y=>y=x) vs.length (λi v=>vs[i]?=I v) (λi s=>ji prog w ak a P vs s.heap i):=(agQ (by simp[cC]) sP xu).toS
 have c:vs.length≤sizeLine:=by
  have c1:=c!.length
  have fh:=dT.length_eq
  rw[t_]
  exact bE (cc (cc (e8 X) (dH c1)) (dH fh))
 refine bj ⟨Je F.plain_extend_loop _,codeAny_extend_loopS W c _ R _ vs.length 0 _ _ _ rfl (hC _) (st.at λb ae o e=>O b o (λh=>R (h▸ae)) e) Zt (ItemsOf.nil _) λs' C ek hm k5 M=> ?_⟩
 show aU _ A (load s.heap.objs.size>>=_) _ _ s'
 refine aw (I2 k5 ?_)
 refine bj ?_
 have i2:C.toList=vs:=by
  apply aky
  intro i
  rw[Dy]
  cases aI:C[i]? with
  |none=>
   have:C.size≤i:=by
    apply Dz
    intro z
    rw[R3 (Nat.not_le.mp z)] at aI
    exact aR aI.symm
   rw[M.1] at this
   exact (R4 this).symm
  |some v=>exact (M.2 i v aI).symm
 obtain ⟨bo,f_,T,r,p⟩:=s'
 obtain rfl:f_=s.gens:=hm.gens
 obtain rfl:T=d:=hm.drawn
 obtain rfl:p=s.os:=hm.os
 rw[i2]
 refine k vs j bo T r c! dT (λb o e=> ?_) hm.toks
 have Y:b≠s.heap.objs.size:=hg (iA e)
 have u0:b≠ak:=λz=>by
  rw[hb] at eG
  exact lz _ (jf (iA (z▸e)) (hA eG))
 exact hm.heap b o (by simp[Y,u0]) (O b o Y (f b o (dE _ e)))
end
set_option tactic.hygienic true in
theorem abK (t:qK) (es:Array (Int×az)) (h:Int) (x:az):(layNew t es h x).2.1.led=t.led∧((layNew t es h x).2.1.plain=aq∨(layNew t es h x).2.1.plain=t.plain):=by
 unfold layNew
 split
 ·rename_i slot wd au
  dsimp only
  unfold SetTable.orStandIn
  split
  ·exact ⟨rfl,.inr rfl⟩
  ·exact ⟨rfl,.inl rfl⟩
 ·exact ⟨rfl,.inl rfl⟩
theorem afE {t:qK} (h:t.relaid au wanted=I (a,ord)):a.led=t.led∧a.plain=t.plain:=by
 unfold SetTable.relaid SetTable.laid at h
 cases ag:SetTable.layClean (SetTable.sizeAbove wanted-1) au with
 |none=>rw[ag] at h;exact aR h
 |some o=>rw[ag] at h;cases h;exact ⟨rfl,rfl⟩
set_option tactic.hygienic true in
theorem afF (t:qK) (es:Array (Int×az)) (a:Nat):(relayAll t es a).2.1.led=t.led∧((relayAll t es a).2.1.plain=aq∨(relayAll t es a).2.1.plain=t.plain):=by
 unfold relayAll
 split
 ·rename_i c b b8
  dsimp only
  have:=afE b8
  split
  ·exact ⟨this.1,.inr this.2⟩
  ·exact ⟨rfl,.inl rfl⟩
 ·exact ⟨rfl,.inl rfl⟩
theorem jJ.put {h:bU} (i:h.get? a=I o) (f:o.ExactSet) (hd:o.data= .set es d t)
  {c:Array (Int×az)} {b:qK} (m:Du (strKind prog w) c.toList) (aC:(c.toList.map λe=>strOf e.2).Perm k) (l:b.fits c.size=ab) (j:b.led= !il w) (e6:b.plain=aq):
  (h.update a (DB c b)).get? a=I {o with data:= .set c (d+1) b}∧jJ prog w (h.update a (DB c b)) a k:=by
 have g:(h.update a (DB c b)).get? a=I {o with data:= .set c (d+1) b}:=by
  have:=wk (DB c b) i (by rw[putSet_of c b hd];rfl)
  rw[putSet_of c b hd] at this
  exact this
 exact ⟨g,_,c,d+1,b,g,f,rfl,m,aC,l,j,.inr e6⟩
theorem YO (b:Bool) {c:aH} {Q:Unit→aH→Prop} (a:Q () c):aU (cU prog w) A (match b with|true=>rule "set.scan.the-table-gave-way"|false=>pure ()) Q E c:=by
 cases b<;>first|exact bj a|exact lx a
theorem J1 {g:Bool→Sem Unit} (J: ∀(b:Bool) (p:aH) (n:Unit→aH→Prop),n () p→aU (cU prog w) A (g b) n E p)
  {o:Obj} {es:Array (Int×az)} {L:Nat} {t:qK} (l:s.heap.get? a=I o) (d:o.ExactSet) (hd:o.data= .set es L t)
  {c:Array (Int×az)} {t2:qK} (r:Du (strKind prog w) c.toList) (aC:(c.toList.map λe=>strOf e.2).Perm H) (ae:c.size<scanBound) (M:t2.fits c.size=ab) (m:t2.led= !il w) (e6:t2.plain=aq) {x:Bool} {R:Option Bool→aH→Prop}
  (h: ∀h',I0 a s.heap h'→jJ prog w h' a H→R (I ab) {s with heap:=h'}):
  aU (cU prog w) A (do
    storeSet a c t2
    if (!x&&t2.tooFull)=ab then do
      g (relayAll t2 c (wm c.size)).2.2
      storeSet a (relayAll t2 c (wm c.size)).1 (relayAll t2 c (wm c.size)).2.1
      pure (I ab)
     else pure (I ab)) R E s:=by
 refine aw (wpAny_storeSet_of l hd ?_ (fits_of_scanBound ae))
 obtain ⟨u,C⟩:=jJ.put (prog:=prog) (w:=w) l d hd r aC M m e6
 have k:=R' s.heap a (DB c t2)
 split
 ·have f:=relayAll_perm t2 c (wm c.size)
  have j:=relayAll_fits t2 c (wm c.size)
  have i:=afF t2 c (wm c.size)
  generalize relayAll t2 c (wm c.size)=y at f j i⊢
  obtain ⟨z,t3,D⟩:=y
  dsimp only at f j i⊢
  have hsz:z.size=c.size:=by rw[←ub,f.length_eq,ub]
  refine aw (J _ _ _ ?_)
  refine aw (wpAny_storeSet_of u rfl ?_ (fits_of_scanBound (by rw[hsz];exact ae)))
  obtain ⟨_,v⟩:=jJ.put (prog:=prog) (w:=w) u d rfl (r.perm f) ((f.map λe=>strOf e.2).trans aC) j (i.1.trans m) (i.2.elim id λq=>q.trans e6)
  exact bj (h _ (k.trans (R' _ a _)) v)
 ·exact bj (h _ k C)
theorem agp (dA:jJ prog w s.heap a d) (C:d.length+1<scanBound)
  (h: ∀b h',I0 a s.heap h'→jJ prog w h' a (g7 d x)→Q b {s with heap:=h'}):
  aU (cU prog w) A (setAddHashed a (.str x aG) ((strKind prog w).hash x)) Q E s:=by
 have R:=dA
 obtain ⟨o,es,bz,t,g,hex,hd,i,aC,hf,M,e6⟩:=dA
 have a5:es.size=d.length:=by
  have:=aC.length_eq
  rwa [df,ub] at this
 have v:(strKind prog w).is x (.str x aG)=true:=by show (x==x)=ab;simp
 have n:(Value.str x aG).scannable=true:=rfl
 have ae:es.size<scanBound:=by rw[a5];exact D3 C
 unfold setAddHashed setAddHashedIn
 refine fK (aw (wj g hd hf ?_))
 dsimp only
 rw[byScan_of n ae i]
 simp only[↓reduceIte]
 unfold setAddByScan
 refine aw ?_
 refine aw (lx ?_)
 refine aw (wpAny_setScan_of v g hd hf i ?_)
 have O:x∈d↔ ∃e∈es.toList,(strKind prog w).is x e.2=true:=by
  rw[←aC.mem_iff,hc]
  constructor
  ·rintro ⟨e,he,af⟩
   obtain ⟨⟨y,a9,_⟩,_⟩:=i e he
   obtain ⟨u,b0⟩:=R6 (show R7 y e.2=ab from a9)
   refine ⟨e,he,?_⟩
   rw[b0] at af a9
   have:y=x:=af
   rw[b0]
   show (y==x)=ab
   simp[this]
  ·rintro ⟨e,he,af⟩
   obtain ⟨u,b0⟩:=R6 (show R7 x e.2=ab from af)
   exact ⟨e,he,by rw[b0];rfl⟩
 cases b8:List.findIdx? (λe=>(strKind prog w).is x e.2) es.toList with
 |some j=>
  dsimp only
  obtain ⟨X,θ,_⟩:=aj5.mp b8
  have af:x∈d:=O.mpr ⟨es.toList[j],List.getElem_mem X,θ⟩
  refine bj (bj ?_)
  have e:s={s with heap:=s.heap}:=by cases s;rfl
  have J:=h aq s.heap (ajV a s.heap) (by unfold g7;rw[a_ af];exact R)
  rw[e]
  exact J
 |none=>
  dsimp only
  have af: ¬x∈d:=λq=>by
   obtain ⟨e,he,c⟩:=O.mp q
   have:=List.findIdx?_eq_none_iff.mp b8 e he
   rw[c] at this
   exact bF this.symm cv
  have f:=layNew_perm t es ((strKind prog w).hash x) (.str x aG)
  have l:=layNew_fits t es ((strKind prog w).hash x) (.str x aG)
  have k:=abK t es ((strKind prog w).hash x) (.str x aG)
  generalize layNew t es ((strKind prog w).hash x) (.str x aG)=L at f l k⊢
  obtain ⟨m,t1,QD,T⟩:=L
  dsimp only at f l k⊢
  rw[akt] at f
  have H:Du (strKind prog w) m.toList:=(i.push v n).perm f
  have z:(m.toList.map λe=>strOf e.2).Perm (g7 d x):=by
   unfold g7
   rw[a3 af]
   refine (f.map λe=>strOf e.2).trans ?_
   rw[kR]
   exact aC.append_right _
  have D:m.size<scanBound:=by
   rw[←ub,f.length_eq,er,ub,a5]
   exact C
  refine aw (YO _ ?_)
  split
  ·refine aw ?_
   rw[hashByValue_scannable 8 n]
   refine bj ?_
   refine J1 ?_ g hex hd H z D ?_ ?_ ?_ ?_
   ·intro b Z Y c;cases b<;>first|exact bj c|exact lx c
   ·exact SetTable.fits_plain_off l
   ·exact k.1.trans M
   ·rfl
   ·intro h' r p;dsimp only;exact bj (h _ h' r p)
  ·rename_i P
   refine aw (bj ?_)
   simp only[↓reduceIte]
   refine J1 ?_ g hex hd H z D l (k.1.trans M) (hB.mpr P) ?_
   ·intro b Z Y c;cases b<;>first|exact bj c|exact lx c
   ·intro h' r p;dsimp only;exact bj (h _ h' r p)
theorem NZ (a:List Str) (x:Str):(g7 a x).length≤a.length+1:=by
 unfold g7
 split
 ·exact jD _
 ·rw[er];exact bh _
theorem ahQ (h:r4 vs ns): ∀{i:Nat} {v:az},vs[i]?=I v→ ∃x t,v= .str x t∧ns[i]?=I x:=by
 induction h with
 |nil=>intro i v e;simp at e
 |cons a b h c=>
  intro i v e
  cases i with
  |zero=>simp at e;subst e;exact ⟨_,_,rfl,rfl⟩
  |succ i=>exact c (by simpa using e)
theorem ags (cC:A.handled=ah) (el:l≠ak) {S:aP} (n:S∉[ak,l]) (aI:r4 items.toList ns) (ae:ns.length+1<scanBound):
  ∀(k i:Nat) (s:aH),items.size-i=k→i≤items.size→s.heap.IsListIter ak l i→s.heap.IsList l items→jJ prog w s.heap S ((ns.take i).foldl g7 [])→
   (∀h' aG,(∀b o,b≠S→b≠ak→s.heap.get? b=I o→h'.get? b=I o)→s.toks≤aG→jJ prog w h' S (met ns)→R (.ok (.ret .none)) {s with heap:=h',toks:=aG})→
   codeAny (cU prog w) A (.builtin "set.update.loop" ⟨[.ref S,.ref ak],[]⟩) R s:=by
 have g: ∀i,((ns.take i).foldl g7 []).length≤i:=by
  intro i
  have: ∀(l d:List Str),(l.foldl g7 d).length≤d.length+l.length:=by
   intro l
   induction l with
   |nil=>intro d;exact bh _
   |cons x l u=>
    intro d
    exact cG (u (g7 d x)) (cG (DC (NZ d x) _) (dH (Nat.succ_add _ _)))
  have J:=this (ns.take i) []
  have aa:(ns.take i).length≤i:=by rw[R!];exact DD _ _
  simp only[RN,pj] at J
  exact cG J aa
 have a5:items.size=ns.length:=by rw[←ub];exact aI.length
 intro k
 induction k with
 |zero=>
  intro i s av c a j dA ka
  obtain rfl:i=items.size:=(by exact qN (bE c) (bE (cc (dH av) (k_ (items.size) (i)))))
  refine zd akz ?_
  rw[DA R? _]
  show aU _ A.in1 (pyNext (.ref ak)>>=_) _ _ s
  refine aw (aj0 (by exact cC) a j (by simp) λh' he=> ?_)
  show aU _ A.in1 (ret Value.none) _ _ _
  refine bj (ka h' s.toks (λb o Z p e=>he b o p e) (bh _) ?_)
  have m:jJ prog w h' S ((ns.take items.size).foldl g7 []):=by
   obtain ⟨o,es,C,t,y,r⟩:=dA
   exact ⟨o,es,C,t,he S o (λz=>n (by simp[z])) y,r⟩
  rw[a5,RD] at m
  exact m
 |succ k u=>
  intro i s av c a j dA ka
  have f:i<items.size:=(by exact Nat.lt_of_sub_eq_succ av)
  refine zd akz ?_
  rw[DA R? _]
  show aU _ A.in1 (pyNext (.ref ak)>>=_) _ _ s
  refine aw (ajX a j (x:=items[i]) (by simp[f]) λh' M D=> ?_)
  obtain ⟨x,t,af,h⟩:=ahQ aI (i:=i) (v:=items[i]) (by rw[Dy];simp[f])
  rw[af]
  have m:jJ prog w h' S ((ns.take i).foldl g7 []):=by
   obtain ⟨o,es,C,t,y,r⟩:=dA
   exact ⟨o,es,C,t,D.extBut S o (λz=>n (by simp[z])) y,r⟩
  show aU _ A.in1 (holding [Value.str x t] (setAdd S (.str x t))>>=_) _ _ _
  refine aw (fK ?_)
  unfold setAdd
  refine fK ?_
  have H:(strKind prog w).is x (.str x t)=true:=by show (x==x)=ab;simp
  refine aw ((strKind prog w).pyHash (k:=x) H ?_)
  refine agp (s:={s with heap:=h',toks:=s.toks+1}) m (by have:=g i;exact bE (cc (cc (cc (e8 ae) (dH a5)) (e8 f)) this)) λb aa q L=> ?_
  refine bj ⟨Je R? _,u (i+1) _ (by exact qN (bE (cc (cc (dH av) (k_ (items.size) (i))) (o4 (show i+1≤items.size from bE (e8 f))))) (bE (cc (cc (eq1 av) (k_ (items.size) (i+1))) (o4 (show i≤items.size from bE c))))) f (M.at λo e=>(q.2 ak (λz=>n (by simp[←z]))).trans e) ((j.extBut D.extBut el).at λo e=>(q.2 l (λz=>n (by simp[←z]))).trans e) ?_ λay aG P Q O=> ?_⟩
  ·rw[RB (by exact akA h),List.foldl_append]
   rw[ly (by exact akA h)] at h
   rw[inj h]
   exact L
  ·exact ka ay aG (λb o E p e=>P b o E p ((q.2 b E).trans (D.extBut b o p e))) (cG (jD _) Q) O
theorem adH (h:Q (.ref s.heap.objs.size) {s with heap:=s.heap.push {cls:= .type "set",dict:=ah,data:= .set #[] 0 (.fresh 0 0 (!il w))}}):aU (cU prog w) A (newSet (.type "set")) Q E s:=by
 unfold newSet
 refine aw (v? ?_)
 dsimp only
 simp only[newObj]
 exact aw (RK (bj h))
theorem agt (v:az) {Q₁:az→aH→Prop}
  (h:Q₁ (.ref s.heap.objs.size) {s with heap:=s.heap.push {cls:= .type "set",dict:=ah,data:= .set #[] 0 (.fresh 0 0 (!il w))}}):
  codeAny (cU prog w) A (.call (.builtin "set.__new__") ⟨[.type "set",v],[]⟩) (wants Q₁ E) s:=by
 refine Sa ?_
 show aU _ A.in1 (do checkBuiltinCall "set.__new__" ⟨[.type "set",v],[]⟩;again (.builtin "set.__new__" ⟨[.type "set",v],[]⟩)) _ _ s
 refine aw (ua (PySem.F.newCall_set_1 v) (bj ⟨Je akB _,zd PySem.F.entry_set_new ?_⟩))
 rw[DA akB _]
 unfold qJ.«set.__new__» amB
 have b:=PySem.sub_set_self
 obtain ⟨aC,g,d,aG,os⟩:=s
 dsimp only
 generalize a:newSet=N
 wp_walk
 subst a
 exact adH (bj h)
set_option maxHeartbeats 3200000 in
theorem UP
  (cC:A.handled=ah) (C:s.heap.IsList l items) (aI:r4 items.toList ns) (ae:ns.length+1<scanBound)
  (h: ∀(h':bU) (aG:Nat),jJ prog w h' s.heap.objs.size (met ns)→s.toks≤aG→(dI s.heap h')→Q (.ref s.heap.objs.size) {s with heap:=h',toks:=aG}):
  aU (cU prog w) A (call (.type "set") [.ref l]) Q E s:=by
 obtain ⟨c,Y,L⟩:=uc.mro
 have H:=uc.made
 have π:=uc.sub
 refine D2 (Sa ?_)
 show aU _ _ (callAny (.type "set") _) _ _ _
 refine bj ⟨Code.quiet_builtin _ bx,zd PySem.F.entry_type_call ?_⟩
 rw[Around.under_plain (weight_type_call_type "set" [.ref l] []) rfl]
 have J:=uc.notType
 have aa:=uc.canCreate
 have nF:=PySem.F.typeCall_set_1 (.ref l)
 repeat (any_goals (first|assumption|wp_step))
 refine Sb (agt (.ref l) (E:=E) (Q₁:=λobj q=>obj= .ref s.heap.objs.size∧q={s with heap:=s.heap.push {cls:= .type "set",dict:=ah,data:= .set #[] 0 (.fresh 0 0 (!il w))}}) ⟨rfl,rfl⟩) λr q b8=> ?_
 induction r using akC with
 |error e=>exact b8
 |ok fl=>
  induction fl using Flow.casesOn with
  |ret obj=>
   obtain ⟨rfl,rfl⟩:=b8
   have dA:(s.heap.push {cls:= .type "set",dict:=ah,data:= .set #[] 0 (.fresh 0 0 (!il w))}).get? s.heap.objs.size=I {cls:= .type "set",dict:=ah,data:= .set #[] 0 (.fresh 0 0 (!il w))}:=d9 _ rfl
   have bZ:R9 {s with heap:=s.heap.push {cls:= .type "set",dict:=ah,data:= .set #[] 0 (.fresh 0 0 (!il w))}} (.ref s.heap.objs.size) "set":=⟨_,dA,rfl⟩
   have D:=uc.init.lookup
   have AX:=uc.init.bind (.ref s.heap.objs.size)
   repeat (any_goals (first|assumption|wp_step))
   refine Sb (codeAny_call_builtin (R:=wants (λr bf=>r= .none∧ ∃h' aG,bf={s with heap:=h',toks:=aG}∧jJ prog w h' s.heap.objs.size (met ns)∧s.toks≤aG∧
     (dI s.heap h')) E) uc.init.plain PySem.F.entry_set_init (check_set_init_1 bZ ?_)) λg bf a=> ?_
   ·obtain ⟨ol,k,t,nl,m⟩:=C
    obtain ⟨T,d,X,f⟩:=ol
    simp only at t m
    subst t;subst m
    have η:(s.heap.push {cls:= .type "set",dict:=ah,data:= .set #[] 0 (.fresh 0 0 (!il w))}).get? l=I {cls:= .type "list",dict:=d,data:= .seq items nl,slots:=f}:=dE _ k
    have O:=PySem.F.sub_list_set
    have M:=PySem.F.sub_list_frozenset
    have el:(Value.type "list"==Value.type "dict")=false:=ar
    have u:(s.heap.push {cls:= .type "set",dict:=ah,data:= .set #[] 0 (.fresh 0 0 (!il w))}).IsList l items:=⟨_,η,rfl,nl,rfl⟩
    unfold qJ.«set.__init__» noKeywords amC
    generalize y:pyIter=P
    wp_walk
    subst y
    refine I1 u ?_
    refine aw (wpAny_runValue ?_)
    have n:l<s.heap.objs.size:=iA k
    have x:l≠(s.heap.push {cls:= .type "set",dict:=ah,data:= .set #[] 0 (.fresh 0 0 (!il w))}).objs.size:=by
     rw[hb];exact hg (m? n)
    have p7:s.heap.objs.size∉[(s.heap.push {cls:= .type "set",dict:=ah,data:= .set #[] 0 (.fresh 0 0 (!il w))}).objs.size,l]:=by
     rw[hb];simp only[eo,ep,Sd,or_false,not_or]
     exact ⟨hg (gv _),j6 n⟩
    refine ags (by simp[cC]) x p7 aI ae (items.size-0) 0 _ rfl (hC _) ⟨_,d9 _ rfl,rfl,rfl⟩ (u.push _) ?_ λh' aG z i j=> ?_
    ·refine ⟨_,#[],0,_,dE _ dA,⟨rfl,rfl,rfl⟩,rfl,λe he=>by simp at he,.nil,rfl,rfl,.inl rfl⟩
    ·show aU _ _ _ _ _ _
     refine bj ?_
     show aU _ _ (ret Value.none) _ _ _
     refine bj ⟨rfl,h',aG,rfl,j,i,λb o e=> ?_⟩
     have p:=iA e
     exact z b o (hg p) (by rw[hb];exact hg (m? p)) (dE _ (dE _ e))
   ·induction g using akC with
    |error e=>exact a
    |ok v=>
     induction v using Flow.casesOn with
     |ret r=>
      obtain ⟨rfl,h',aG,rfl,j,i,Z⟩:=a
      repeat (any_goals (first|assumption|wp_step))
      exact h _ _ j i Z
     |_=>exact a.elim
  |_=>exact b8.elim
noncomputable def js (a b:Str):Prop:= ¬b.cps.toList<a.cps.toList
theorem G2:js a b↔ltCps b.cps.toList a.cps.toList=false:=by
 unfold js
 rw[ltCps_eq,decide_eq_false_iff_not]
theorem Nx (h:js a b) (k:js b c):js a c:=List.le_trans (l₁:=a.cps.toList) (l₂:=b.cps.toList) (l₃:=c.cps.toList) h k
theorem abM (h:js a b) (k:js b a):a=b:=by
 have e:a.cps.toList=b.cps.toList:=List.le_antisymm (as:=a.cps.toList) (bs:=b.cps.toList) h k
 cases a;cases b
 exact aQ Str.mk (DE.mp e)
theorem abN (a b:Str):js a b∨js b a:=List.le_total a.cps.toList b.cps.toList
theorem afK: ∀{l:List Str} {p:Str},risingS p l=ab→(p::l).Pairwise js:=by
 intro l
 induction l with
 |nil=>intro p _;exact akD _ _
 |cons x l a=>
  intro p h
  have h:(!ltCps x.cps.toList p.cps.toList&&risingS x l)=true:=h
  rw[j3,rZ] at h
  have J:=a h.2
  refine qL.mpr ⟨λy a9=> ?_,J⟩
  have af:js p x:=G2.mpr h.1
  rcases eo.mp a9 with rfl|a9
  ·exact af
  ·exact Nx af ((qL.mp J).1 y a9)
theorem ahc: ∀{l:List Str},sortedS l=ab→l.Pairwise js
 |[],_=> .nil
 |_::_,h=>afK h
theorem aeJ: ∀{l l':List Str},l.Perm l'→l.Pairwise js→l'.Pairwise js→l=l':=by
 intro l
 induction l with
 |nil=>intro l' h _ _;exact h.nil_eq
 |cons a l c=>
  intro l' h p q
  induction l' using cj with
  |nil=>exact (List.not_perm_cons_nil h).elim
  |cons b l'=>
   have d:a=b:=by
    rcases eo.mp (h.mem_iff.mp (eQ ..):a∈b::l') with e|aJ
    ·exact e
    ·rcases eo.mp (h.mem_iff.mpr (eQ ..):b∈a::l) with e|ae
     ·exact e.symm
     ·exact abM ((qL.mp p).1 b ae) ((qL.mp q).1 a aJ)
   subst d
   rw[c h.cons_inv (qL.mp p).2 (qL.mp q).2]
theorem Nc (x:Str): ∀l:List Str,(u! x l).Perm (x::l):=by
 intro l
 induction l with
 |nil=>exact .refl _
 |cons y l a=>
  unfold u!
  split
  ·exact (a.cons y).trans (.swap x y l)
  ·exact .refl _
theorem yz: ∀l:List Str,(ma l).Perm l:=by
 intro l
 induction l with
 |nil=>exact .refl _
 |cons x l a=>exact (Nc x _).trans (a.cons x)
theorem aat (x:Str): ∀{l:List Str},l.Pairwise js→(u! x l).Pairwise js:=by
 intro l
 induction l with
 |nil=>intro _;exact akD _ _
 |cons y l c=>
  intro h
  have aC:=qL.mp h
  unfold u!
  split
  ·rename_i a
   refine qL.mpr ⟨λz bH=> ?_,c aC.2⟩
   rcases eo.mp ((Nc x l).mem_iff.mp bH) with rfl|bH
   ·refine (abN _ _).resolve_right λq=> ?_
    rw[G2] at q
    rw[q] at a
    exact bF a cv
   ·exact aC.1 z bH
  ·rename_i a
   have b:js x y:=G2.mpr (hB.mpr a)
   refine qL.mpr ⟨λz bH=> ?_,h⟩
   rcases eo.mp bH with rfl|bH
   ·exact b
   ·exact Nx b (aC.1 z bH)
theorem aha: ∀l:List Str,(ma l).Pairwise js:=by
 intro l
 induction l with
 |nil=>exact .nil
 |cons x l a=>exact aat x a
theorem ahb (h:l'.Perm l) (au:sortedS l'=ab):l'=ma l:=aeJ (h.trans (yz l).symm) (ahc au) (aha l)
theorem Hg: ∀(l a:List Str),(l.foldl g7 a).length≤a.length+l.length:=by
 intro l
 induction l with
 |nil=>intro a;exact bh _
 |cons x l b=>
  intro a
  have J:=b (g7 a x)
  have aa:=NZ a x
  rw[List.foldl_cons,gR]
  exact bE (cc J aa)
theorem ahd (h:jJ prog w s.heap a g) (p:g.length<64) (cC:A.handled=ah)
  (k: ∀l vs e h' d aG,s.heap.get? l=ah→h'.get? l=I (seqObj "list" (mh vs) e)→r4 vs (ma g)→(dI s.heap h')→s.toks≤aG→Q (.ref l) {s with heap:=h',drawn:=d,toks:=aG}):
  aU (cU prog w) A (call (.builtin "sorted") [.ref a]) Q E s:=by
 refine Calls.call_function_entry kind_sorted plain_sorted entry_sorted (args_sorted1 _) ?_
 refine aw (m:=checkCount "sorted" 1 1 _) (bj ?_)
 refine aw (VG h p (by exact cC) λvs H J y r c! dT i D=> ?_)
 have C:vs.length<64:=by
  have c1:=c!.length
  have fh:=dT.length_eq
  exact bE (cc (cc (e8 p) (dH c1)) (dH fh))
 refine aw (wpAny_newList ?_)
 have c:(J.push (seqObj "list" vs.toArray 0)).get? J.objs.size=I (seqObj "list" vs.toArray 0):=d9 _ rfl
 refine aw (fK (r3 slot_list_sort ⟨_,c,rfl⟩ entry_list_sort (list_sort_treeK strKind_oneLt c c!.keysOf (λt u rest e=>keyKind_strs (by rw[←e];exact c!)) C λq a1 a2=>⟨_,rfl,?_⟩) (args_list_sort _)))
 obtain ⟨f,x,v,z⟩:=sorted_out_str c! a1 a2
 have au:f=ma g:=ahb (v.trans dT) z
 refine bj ⟨_,rfl,?_⟩
 obtain ⟨e,he⟩:=sortedHeap_at (out:=(arrOf q).map (·.2)) c
 refine k J.objs.size ((arrOf q).map (·.2)).toList e _ y r ?_ he (au▸x) (λb o n=> ?_) D
 ·cases eq:s.heap.get? J.objs.size with
  |none=>rfl
  |some o=>exact bF (iA (i _ _ eq)) (lz _)
 ·have j:=iA (i _ _ n)
  refine (sortedHeap_old (hg j) (by show b<(J.push _).objs.size;rw[hb];exact m? j)).trans ?_
  exact dE _ (i _ _ n)
theorem agm (h:setG sc e=I q):sc.names.lookup (ao "set")=I .globalImplicit∧ ∃p pos,e= .Call (.Name (ao "set") p) [q] [] pos:=
 aO h λx af J=>hG (z1 af) λp pos a=>by
  have ag:=cu J
  have a5:=jv (dh ag)
  refine ⟨a5▸dp (c2 ag),p,pos,?_⟩
  rw[a,a5,nr (cy J)]
theorem ag8 (h:vU sc f as b=I q):
  sc.names.lookup (ao "sorted")=I .globalImplicit∧sc.names.lookup (ao "set")=I .globalImplicit∧b=[]∧ ∃p p2 l8,f= .Name (ao "sorted") p∧as=[.Call (.Name (ao "set") p2) [q] [] l8]:=
 aO h λx af J=>by
  have ag:=cu J
  have a5:=jv (dh (c2 ag))
  refine aO (cy J) λe he aa=> ?_
  obtain ⟨a,p2,l8,c⟩:=agm aa
  obtain ⟨p,d⟩:=qq af
  exact ⟨a5▸dp (c2 (c2 ag)),a,j2.mp (dh ag),p,p2,l8,a5▸d,c▸nr he⟩
theorem aaz: ∀{vs:List az} {ts:List Str},IsL B aD h l vs→rD l=I ts→r4 vs ts:=by
 induction l with
 |nil=>exact λx e=>x.jd▸(inj e)▸ .nil
 |cons p l a=>
  exact λx e=>aO e λi aI e=>i! e λm hm e=>fU x.hy λu vs eu c r=>gj (om aI▸c:Is B aD h (.str i) u).h9 λt b=>eu▸b▸e▸ .cons _ _ (a r hm)
theorem ahR (x:r4 vs ts):IsL B aD h (ts.map .str) vs:=by
 induction x with
 |nil=>exact .nil
 |cons a t _ b=>exact .cons (.str _ _) b
theorem adB (S:da T n) {f q:Expr} {as:List Expr} {z:List rU} {pos:Pos} (P:vU cx.sc f as z=I q) (h:(ei n cx q σ w).bind (λr=>(n5 r.1).bind λl=>I (l,r.2))=I (l,w')) (i:cO T cx env σ A g w s):aS T A (eval (.Call f as z pos) env) g s (jI T s w' l):=by
 obtain ⟨cP,d4,q1,p,p2,l8,w8,i2⟩:=ag8 P
 subst q1 w8 i2
 refine aO h λr J aa=>aO aa λc1 ay X=> ?_
 refine aO ay λts R C=> ?_
 have t:=cu C
 obtain rfl:=inj (cy C)
 refine Fx X λE Q k=> ?_
 have fV: ∀x D,q≠ .Starred x D:=λx D e=>by subst e;induction n using fJ<;>exact nn J
 have hp:starEach [q] env=[(aq,eval q env)]:=qA fV
 refine aw (wR i.wd i.fr cP (T.uE _ bx) bx (v:= .builtin "sorted") aY ?_)
 refine t9 rfl (we (y8 ?_))
 rw[a3 cv]
 refine aw (wR i.wd i.fr d4 (T.uE _ bx) bx (v:= .type "set") aY ?_)
 rw[hp]
 refine RH rfl (we (y8 ?_))
 rw[a3 cv]
 refine S.ei J i E _ λg1 s1 v t1 Z=>t6 ?_
 obtain ⟨a,vs,rfl,aJ,m,k0,Y,aX⟩:=Z
 have k8:=aaz aX R
 refine UP i.b7.handled Y.eW k8 (by unfold scanBound;exact ke t rfl) λAO P5 dA φ H=>t6 ?_
 refine ahd dA (gP (by have:=Hg ts [];simpa [met] using this) t) i.b7.handled λb us e j d aG a5 ae O oP χ=> ?_
 have u:dI s1.heap j:=λb o e=>oP b o (H b o e)
 have L:s1.toks≤aG:=cG φ χ
 have c:s1.heap.get? b=none:=by
  cases eq:s1.heap.get? b with
  |none=>rfl
  |some o=>exact aR (a5.symm.trans (H _ _ eq))
 have M:dk j b us.toArray:=⟨_,ae,rfl,e,rfl⟩
 refine k (g1.plus b) _ _ (t1.trans (.plus (dr:=d) u c L)) ⟨b,us,rfl,t1.none c,m.plus (s':={s1 with heap:=j,drawn:=d,toks:=aG}) u c ae L,⟨.inr rfl,λq=> ?_⟩,M,ahR O⟩
 obtain ⟨cz,y⟩:=m.ex b (m.dG b q)
 rw[c] at y
 exact aR y
noncomputable abbrev iq (t0 i0:Expr) (t1 i1:Expr) (ifs:List Expr):List Df:=[⟨t0,i0,[],0⟩,⟨t1,i1,ifs,0⟩]
theorem VR (elt t0 i0 t1 i1:Expr) (ifs:List Expr) (scope:Scope) (pos:Pos) (it acc:az) (env:Env):
  compTurn (.ListComp elt (iq t0 i0 t1 i1 ifs) scope pos) 1 it acc env=(do
   standAt i1.pos
   match←pyNext it with
   |none=>pure (.done .next)
   |some v=>
    letOwnedTupleGo t1 it v
    assign t1 env v
    let mut ok:=ab
    for c in ifs do
     if ok then ok←isTrue c env (eval c env)
    if ok then
     (do let _←call (.builtin "list.append") [acc,←eval elt env])
    again (.compLoop (.ListComp elt (iq t0 i0 t1 i1 ifs) scope pos) 1 it acc env)):=by rfl
theorem VS (elt t0 i0 t1 i1:Expr) (ifs:List Expr) (scope:Scope) (pos:Pos) (it acc:az) (env:Env):
  compTurn (.ListComp elt (iq t0 i0 t1 i1 ifs) scope pos) 0 it acc env=(do
   standAt i0.pos
   match←pyNext it with
   |none=>pure (.done .next)
   |some v=>
    letOwnedTupleGo t0 it v
    assign t0 env v
    let x←eval i1 env
    standAt i1.pos
    let x←foldedSetIterable i1 env x
    let _←runOwn (.compStart (.ListComp elt (iq t0 i0 t1 i1 ifs) scope pos) 1 (←holding [x] (pyIter x)) acc env) env
    again (.compLoop (.ListComp elt (iq t0 i0 t1 i1 ifs) scope pos) 0 it acc env)):=by rfl
theorem VQ (b:codeAny (cU prog wd) A (.compLoop (.ListComp elt (iq t0 i0 t1 i1 ifs) scope pos) 1 it acc env) R s)
  (h:aU (cU prog wd) A (pyIter it) (λa s'=>codeAny (cU prog wd) A (.compLoop (.ListComp elt (iq t0 i0 t1 i1 ifs) scope pos) 1 a acc env) R s')
   (notedBy (cU prog wd) A env λx s'=>R (.error x) s') s):
  codeAny (cU prog wd) A (.compStart (.ListComp elt (iq t0 i0 t1 i1 ifs) scope pos) 1 it acc env) R s:=by
 refine Sa ?_
 show aU _ _ ((compStart (.ListComp elt (iq t0 i0 t1 i1 ifs) scope pos) 1 it acc env).onRaise (λx=>do noteFrame x env;standAt theWindowsPlace)) _ _ s
 refine wpAny_notedAt ?_
 refine aw (y6 (IT ?_))
 split
 ·first
   |exact aw (bj (bj (And.intro rfl b)))
   |exact bj (And.intro rfl b)
 ·first
   |exact aw (lx (aw (fF (aw (hQ h (λa s' h'=>bj (And.intro rfl h')) λZ Z x=>x)))))
   |(refine aw (lx ?_);show aU _ _ (standAt i1.pos>>=_) _ _ s;exact aw (fF (aw (hQ h (λa s' h'=>bj (And.intro rfl h')) λZ Z x=>x))))
theorem VO (ak:Nat→aH→Prop)
  (turn: ∀n s,ak n s→ ∀E,aU (cU prog wd) A (pyNext it) (λr a=>match r with
   |none=>R (.ok .next) a
   |some v=>aU (cU prog wd) A (letOwnedTupleGo t1 it v) (λZ bf=>aU (cU prog wd) A (assign t1 env v) (λZ f=>
     aU (cU prog wd) A (forIn ifs ab λc r=>if r=ab then do let ok←isTrue c env (eval c env);pure (ForInStep.yield ok) else pure (ForInStep.yield r)) (λok b=>
      if ok=ab then aU (cU prog wd) A (eval elt env) (λx g=>
       aU (cU prog wd) A (call (.builtin "list.append") [acc,x]) (λZ e=> ∃m,m<n∧ak m e) E g) E b
      else∃m,m<n∧ak m b) E f) E bf) E a) E s)
  (n:Nat) (h:ak n s):
  codeAny (cU prog wd) A (.compLoop (.ListComp elt (iq t0 i0 t1 i1 ifs) scope pos) 1 it acc env) R s:=by
 refine RL rfl ak (λn s eG=> ?_) n h
 show aU _ A ((compTurn (.ListComp elt (iq t0 i0 t1 i1 ifs) scope pos) 1 it acc env).onRaise (λx=>do noteFrame x env;theTreesLotGoes x)) _ _ s
 refine RM ?_
 rw[VR]
 refine aw (fF (aw (hQ (turn n s eG _) (λr a d=> ?_) λZ Z h'=>h')))
 induction r using d5 with
 |none=>exact bj d
 |some v=>
  refine aw (hQ d (λZ bf j=>aw (hQ j (λZ f k=>aw (hQ k (λok b i=> ?_) λZ Z h'=>h')) λZ Z h'=>h')) λZ Z h'=>h')
  induction ok using d1 with
  |false=>exact bj ⟨rfl,i⟩
  |true=>
   exact aw (aw (hQ i (λx g o=>aw (hQ o (λZ e l=>bj (bj ⟨rfl,l⟩)) λZ Z h'=>h')) λZ Z h'=>h'))
theorem VP (au: ∀x,foldedSetIterable i1 env x=pure x) (ak:Nat→aH→Prop)
  (turn: ∀n s,ak n s→ ∀E,aU (cU prog wd) A (pyNext it) (λr a=>match r with
   |none=>R (.ok .next) a
   |some v=>aU (cU prog wd) A (letOwnedTupleGo t0 it v) (λZ bf=>aU (cU prog wd) A (assign t0 env v) (λZ e=>
     aU (cU prog wd) A (eval i1 env) (λx d=>aU (cU prog wd) A (pyIter x) (λj g=>
      codeAny (cU prog wd) A (.compStart (.ListComp elt (iq t0 i0 t1 i1 ifs) scope pos) 1 j acc env) (λr b=>match r with
       | .ok _=> ∃m,m<n∧ak m b
       | .error x=>cameBackBy (cU prog wd) A env E x b) g) E d) E e) E bf) E a) E s)
  (n:Nat) (h:ak n s):
  codeAny (cU prog wd) A (.compLoop (.ListComp elt (iq t0 i0 t1 i1 ifs) scope pos) 0 it acc env) R s:=by
 refine RL rfl ak (λn s eG=> ?_) n h
 show aU _ A ((compTurn (.ListComp elt (iq t0 i0 t1 i1 ifs) scope pos) 0 it acc env).onRaise (λx=>do noteFrame x env;theTreesLotGoes x)) _ _ s
 refine RM ?_
 rw[VS]
 refine aw (fF (aw (hQ (turn n s eG _) (λr a c=> ?_) λZ Z h'=>h')))
 induction r using d5 with
 |none=>exact bj c
 |some v=>
  refine aw (hQ c (λZ bf k=>aw (hQ k (λZ e l=>aw (hQ l (λx d o=> ?_) λZ Z h'=>h')) λZ Z h'=>h')) λZ Z h'=>h')
  refine aw (fF (aw (ua (au x) (aw (fK (hQ o (λj g p=> ?_) λZ Z h'=>h'))))))
  exact aw (wpAny_runOwn (Sb p λr b i=>by
   cases r with
   |ok f=>exact bj ⟨rfl,i⟩
   |error x=>exact i))
section
variable {T:cA} {K:aP→Prop} {cx:bY} {env:Env} {σ:aA} {A:eU} {bk:G} {bf:aH} {n j:Nat} {tgt:Expr} {wr du:List aP} {St:Nat→bU→Prop} {D ak:aP} {done:List U} {cq:List az} {items:List U}
theorem e'.Qi {Q:Unit→aH→Prop} {E:az→aH→Prop} (cC:A.handled=ah) (c:e' T cx env σ K bk bf wr St D j g w done cq s) (h:kX T A tgt bk bf.heap ak items du wr St)
  (k: ∀b∈du,(∃o,bf.heap.get? b=I o)∧ ¬et T.dZ bk.aD b) (J: ∀b,K b→b∉wr)
  (L: ∀b,K b→K' b) (t: ∀b∈du,K' b) (H:K' D) (O:nk K' cx env) (ae:d2 cx.sc tgt p σ=I σ')
  (st:St (j+1) a) (d: ∀b o,b∉wr→s.heap.get? b=I o→a.get? b=I o) (y:Is g.B g.aD a p v) (i:s.toks≤aG) (fst:St j s.heap)
  (q: ∀s',e' T cx env σ' K bk bf wr St D (j+1) g w done cq s'→Q () s'):aU T.mo A (assign tgt env v) Q E {s with heap:=a,toks:=aG}:=by
 have aJ: ∀b∈wr,∃o,a.get? b=I o:=λb ae=>let ⟨o,_,e,_⟩:=h.live _ _ st b ae;⟨o,e⟩
 have t1:dc T K g s g {s with heap:=a,toks:=aG}:= .but c.wr (λb ae z=>J b z ae) d aJ i
 have x:aW T g w {s with heap:=a,toks:=aG}:=c.wd.but c.wr d aJ i
 have f1:dy T g cx env σ a:=c.fr.but (λb ae=>⟨c.wr b ae,h.live _ _ fst b ae⟩) d
 have M:D∉wr:=λz=>by
  obtain ⟨o,bA,e,l⟩:=h.live _ _ fst D z
  obtain ⟨C,f,_,m,r⟩:=c.lst
  rw[e] at f;cases f
  rw[r] at l;cases l
 have P:cS g.B s.heap g.B a:=λb o e n=>⟨d b o (λz=>n (c.wr b z).1) e,n⟩
 refine wQ (K:=K') cC ae O f1 x y λs2 t2 f2 u Z=>q s2 ?_
 refine ⟨(c.bw.trans t1).trans (t2.weak L),u,f2,c.bd,?_,?_,?_,c.wr⟩
 ·obtain ⟨o,e,r⟩:=c.lst
  exact ⟨o,t2.old D o H (d D o M e) c.bd.2,r⟩
 ·have:=c.aX.bJ P []
  rw[e0] at this
  exact this.bw t2
 ·refine h.frame _ _ _ st λb ae o e=>t2.old b o (t b ae) e λz=>(c.bw.ej b z).elim (k b ae).2 λz=> ?_
  obtain ⟨C,f⟩:=(k b ae).1
  rw[f] at z;exact aR z.symm
theorem e'.ae7 {a:G} {i:W} {s5:aH} {x:az} {r:U} {d:bU} (c:e' T cx env σ K bk bf wr St D j a i done cq s5) (s:kX T A tgt bk bf.heap ak items du wr St)
  (v: ¬K D) (m:D∉du) (nY: ∀x l,σ.get x= .own l→(∃k,cx.sc.names.lookup x=I k∧k≠ .globalImplicit)→ ¬cB T a s5.heap env x (I (.ref D)))
  (f: ∀b o,b≠D→s5.heap.get? b=I o→d.get? b=I o) (g:dk d D (cq++[x]).toArray) (u:Is a.B a.aD s5.heap r x):e' T cx env σ K bk bf wr St D j a i (done++[r]) (cq++[x]) {s5 with heap:=d}:=by
 have h: ∃o,d.get? D=I o:=g.elim λo e=>⟨o,e.1⟩
 have p:cS a.B s5.heap a.B d:=λb o e n=>⟨f b o (λq=>n (q▸c.bd.1)) e,n⟩
 refine ⟨c.bw.trans (.one (t:=s5.toks) (dr:=s5.drawn) c.bd v f h (bh _)),c.wd.one c.bd f h (bh _),c.fr.chg c.bd c.lst f nY,c.bd,g,?_,?_,c.wr⟩
 ·have:=(c.aX.append (.cons u .nil)).bJ p []
  rwa [e0] at this
 ·exact s.frame _ _ _ c.st λb ae o e=>f b o (λq=>m (q▸ae)) e
inductive D7 (T:cA) (cx:bY) (env:Env) (σ:aA) (K:aP→Prop) (bk:G) (bf:aH) (wr:List aP) (St:Nat→bU→Prop) (D:aP) (elt tgt:Expr) (ifs:List Expr) (items:List U) (N fW:Nat) (l:List U) (w':W) (s':aH):Nat→Prop where
 |mk (rest:List U) (j m:Nat) (g:G) (w:W) (done l':List U) (cq:List az):m≤N→d! m cx elt tgt ifs rest σ w=I (l',w')→l=done++l'→items.drop j=rest→done.length≤fW+j→j≤items.length→
  e' T cx env σ K bk bf wr St D j g w done cq s'→D7 T cx env σ K bk bf wr St D elt tgt ifs items N fW l w' s' rest.length
theorem VV {ifs:List Expr} {N m fW:Nat} {hJ l:List U} {R:r9→aH→Prop}
  (O: ∀m,m≤N→da T m) (xB:cx.sc=a7) (b7:Room (20*cx.d+20) A) (f:kX T A tgt bk bf.heap ak items du wr St) (C: ∀b∈du,(∃o,bf.heap.get? b=I o)∧ ¬et T.dZ bk.aD b)
  (iL: ∀b,K b→b∉wr) (j?: ∀b,K b→K' b) (FH: ∀b∈du,K' b) (gp:K' D) (xr: ¬K D) (FE:D∉du) (pd:nk K' cx env) (bH:fW+items.length≤1048576)
  (qc: ∀x,dD cx.sc x=ab→(∀p σ',d2 cx.sc tgt p σ=I σ'→σ.get x=σ'.get x)∨σ.get x= .unset)
  (nY: ∀g w done cq s j,e' T cx env σ K bk bf wr St D j g w done cq s→ ∀x l,σ.get x= .own l→(∃k,cx.sc.names.lookup x=I k∧k≠ .globalImplicit)→ ¬cB T g s.heap env x (I (.ref D)))
  (hm:m≤N) (ag:d! m cx elt tgt ifs items σ w=I (l,w')) (lU:hJ.length≤fW) (q:e' T cx env σ K bk bf wr St D 0 g w hJ cq s)
  (ka: ∀g' cq s' h' aG,e' T cx env σ K bk bf wr St D items.length g' w' (hJ++l) cq s'→(∀b o,b∉wr→s'.heap.get? b=I o→h'.get? b=I o)→s'.toks≤aG→R (.ok .next) {s' with heap:=h',toks:=aG}):
  codeAny T.mo A (.compLoop (.ListComp elt (iq t0 i0 tgt i1 ifs) a7 pos) 1 (.ref ak) (.ref D) env) R s:=by
 subst xB
 refine VO (λk s'=>D7 T cx env σ K bk bf wr St D elt tgt ifs items N fW (hJ++l) w' s' k) (λk s' h E=> ?_) items.length (.mk items 0 m g w hJ l cq hm ag rfl rfl lU (hC _) q)
 clear q ag hm
 induction h using D7.casesOn with
 |mk rest j m g' w1 done l' cq hm ag y hd z X c=>
 induction m using fJ with
 |zero=>exact aR ag
 |succ m=>
 induction rest using cj with
 |nil=>
  have e:=kh ag
  have Y:=drop_nil hd X
  exact j0 (bh _) (f.done s' _ _ (Y▸c.st) λh' aG aV a=>ka g' cq s' h' aG (c.cast Y e.2 (by rw[y,←e.1,e0])) aV a)
 |cons p rest=>
  have i:=drop_cons hd
  refine aO ag λσ' ae ag=>aO ag λb M ag=>j0 (bh _) (f.item j p g' s' _ _ i.1 c.st c.bw.i5 c.bw.eJ c.wd.ex (λb ae=>(c.wr b ae).1) λv J aG i_ go a=>go _ _ λaa ll oP cV=>
   c.Qi b7.handled f C iL j? FH gp pd ae ll (λb o ae e=>oP b o ae (i_ b o ae e)) cV a c.st λs3 u=>
   P2 (λk av=>O k (cG av (hA hm))) M ⟨u.fr,u.wd,b7⟩ E _ λdJ s4 ok en H=>H.2▸ ?_)
  have gW:=u.ba f C en H.1
  have back: ∀x,σ.get x=σ'.get x∨σ.get x= .unset:=λx=>(ED ae x).elim (λh=> .inl h.symm) λh=>(qc x h).imp (λh=>h p σ' ae) id
  clear M ae H u c
  refine M' (λae=> ?_) λae=>⟨rest.length,gv _,.mk rest (j+1) m dJ b.2 done l' cq (hA hm) (th ae ag) y i.2.1 (hP z) i.2.2 {gW with fr:=gW.fr.weak back}⟩
  refine aO (xU ae ag) λr he ag=>aO ag λfh lR Z=>(O m (hA hm)).ev he ⟨gW.fr,gW.wd,b7⟩ E _ λP s5 x jA Q=> ?_
  have e:=kh Z
  have L:=gW.ba f C jA Q.1
  have t:e' T cx env σ K bk bf wr St D (j+1) P r.2 done cq s5:={L with fr:=L.fr.weak back}
  clear L gW he ag Z
  refine cM t.lst λo aZ a'=>a'.2.elim λnn Ge=> ?_
  have Gz:cq.length≤1048576:=by rw[←t.aX.length];exact cG z (cG (zr X fW) bH)
  refine I8 (hsz:=by rw[eK];exact cG Gz ar) (Ge▸aZ) λbr f3 nD=>⟨rest.length,gv _,.mk rest (j+1) m P r.2 (done++[r.1]) fh.1 (cq++[x]) (hA hm) (lR.trans (by rw[←e.2])) (by rw[y,iT,←e.1];rfl) i.2.1 (by rw[er];exact ml z) i.2.2 ?_⟩
  exact t.ae7 f xr FE (nY _ _ _ _ _ _ t) (λb o ae e=>(f3.2 b ae).trans e) ⟨_,nD,rfl,nn+1,by simp⟩ Q.2
end
section
variable {T:cA} {K K':aP→Prop} {cx:bY} {env:Env} {σ σ':aA} {A:eU} {g g' bk:G} {w w' w1 ajj:W} {s s' bf:aH} {n j:Nat} {tgt:Expr} {wr du:List aP} {St:Nat→bU→Prop} {D ak:aP} {done:List U} {cq:List az} {items:List U}
theorem Ki (h:qW sc t p σ=I σ') {x:Str} {l:List U} (e:σ'.get x= .own l):σ.get x= .own l:=
 aO h λy a9 h=>by
  rw[←inj (cy h),aA.get_set] at e
  split at e
  ·cases e
  ·exact e
theorem Up: ∀{ts:List Expr} {ps:List U} {σ σ':aA},pJ sc ts ps σ=I σ'→ ∀{x l},σ'.get x= .own l→σ.get x= .own l:=by
 intro ts
 induction ts with
 |nil=>intro _ _ _ h x l e;exact inj (cy h)▸e
 |cons t ts a=>
  intro ps σ σ' h x l e
  induction ps using cj with
  |nil=>exact aR h
  |cons p ps=>exact aO h λσ1 J aa=>Ki J (a aa e)
theorem Ut (h:d2 sc t p σ=I σ') {x:Str} {l:List U}:σ'.get x= .own l→σ.get x= .own l:=
 nA h (λZ h e=>Ki h e) λts Z h e=>aO h λl Z h=>Up h e
theorem VN: ∀{n:Nat} {elt t:Expr} {ifs:List Expr} {items l:List U} {σ:aA} {w w':W},d! n cx elt t ifs items σ w=I (l,w')→l.length≤items.length:=by
 intro n
 induction n with
 |zero=>intro _ _ _ _ _ _ _ _ h;exact aR h
 |succ n a=>
  intro elt t ifs items l σ w w' h
  induction items using cj with
  |nil=>exact (kh h).1▸bh _
  |cons p items=>
   refine aO h λσ' ae h=>aO h λb c h=> ?_
   by_cases ag:b.1=ab
   ·refine aO (xU ag h) λr he h=>aO h λfh aa ay=> ?_
    exact ((kh ay).1)▸(ml (a (l:=fh.1) (w':=fh.2) aa))
   ·exact hP (a (th (akE _▸ag) h))
inductive zw (T:cA) (cx:bY) (env:Env) (σ:aA) (K:aP→Prop) (bk:G) (bf:aH) (wr:List aP) (St:Nat→bU→Prop) (D:aP) (f:List U→Nat→W→Option (List U×W)) (items:List U) (l:List U) (w':W) (s':aH):Nat→Prop where
 |mk (rest:List U) (j fW:Nat) (g:G) (w:W) (done l':List U) (cq:List az):f rest fW w=I (l',w')→l=done++l'→items.drop j=rest→done.length≤fW→j≤items.length→
  e' T cx env σ K bk bf wr St D j g w done cq s'→zw T cx env σ K bk bf wr St D f items l w' s' rest.length
theorem VY {elt t0 i0 t1 i1:Expr} {ifs:List Expr} {pos:Pos} {a7:Scope} {m:Nat} {l:List U} {R:r9→aH→Prop}
  (cD: ∀k,k≤m+1→da T k) (xB:cx.sc=a7) (b7:Room (20*cx.d+20) A) (H:kX T A t0 bk bf.heap ak items du wr St) (L: ∀b∈du,(∃o,bf.heap.get? b=I o)∧ ¬et T.dZ bk.aD b) (Ww:aW T bk ajj bf)
  (Y: ∀b,K b→b∉wr∧ ∃o,bf.heap.get? b=I o) (j?: ∀b,(∃o,bf.heap.get? b=I o)→K' b) (gp:K' D) (iK:bf.heap.get? D=ah) (pd:nk K' cx env)
  (xv: ∀(g:G) (s:aH) σ b,dy T g cx env σ s.heap→ ¬K' b→g.B b∧ ∃o,s.heap.get? b=I o)
  (qc: ∀x,dD cx.sc x=ab→σ.get x= .unset)
  (Υ: ∀p σ',d2 cx.sc t0 p σ=I σ'→ ∀x,dD cx.sc x=ab→(∀p ur,d2 cx.sc t1 p σ'=I ur→σ'.get x=ur.get x)∨σ'.get x= .unset)
  (nY: ∀g s,dc T K bk bf g s→ ∀x l,σ.get x= .own l→(∃k,cx.sc.names.lookup x=I k∧k≠ .globalImplicit)→ ¬cB T g s.heap env x (I (.ref D)))
  (ag:ow (λp=>d2 cx.sc t0 p σ) (fs (m+1) aq t1 cx i1) (d! (m+1) cx elt t1 ifs) items 0 w=I (l,w')) (O:e' T cx env σ K bk bf wr St D 0 g w [] [] s)
  (au: ∀x,foldedSetIterable i1 env x=pure x)
  (ka: ∀g' cq s' h' aG,e' T cx env σ K bk bf wr St D items.length g' w' l cq s'→(∀b o,b∉wr→s'.heap.get? b=I o→h'.get? b=I o)→s'.toks≤aG→R (.ok .next) {s' with heap:=h',toks:=aG}):
  codeAny T.mo A (.compLoop (.ListComp elt (iq t0 i0 t1 i1 ifs) a7 pos) 0 (.ref ak) (.ref D) env) R s:=by
 subst xB
 refine VP au (λk s'=>zw T cx env σ K bk bf wr St D (ow (λp=>d2 cx.sc t0 p σ) (fs (m+1) aq t1 cx i1) (d! (m+1) cx elt t1 ifs)) items l w' s' k) (λk s' h E=> ?_) items.length (.mk items 0 0 g w [] l [] ag rfl rfl (bh _) (hC _) O)
 clear O ag
 induction h using zw.casesOn with
 |mk rest j fW g' w1 done l' cq ag ai hd b5 nG c=>
 induction rest using cj with
 |nil=>
  have e:=kh ag
  have nH:=drop_nil hd nG
  exact j0 (bh _) (H.done s' _ _ (nH▸c.st) λh' aG aV C=>ka g' cq s' h' aG (c.cast nH e.2 (by rw[ai,←e.1,e0])) aV C)
 |cons p rest=>
  have gD:=drop_cons hd
  refine aO ag λσ' ae ag=>aO ag λr aI ag=> ?_
  have bH:=cu ag
  replace ag:=cy ag
  refine aO ag λa aJ ag=>aO ag λb2 lR sV=> ?_
  have dt:=kh sV
  refine j0 (bh _) (H.item j p g' s' _ _ gD.1 c.st c.bw.i5 c.bw.eJ c.wd.ex (λb ae=>(c.wr b ae).1) λv J aG i_ go C=>go _ _ λaa ll oP cV=>
   c.Qi b7.handled H L (λb z=>(Y b z).1) (λb z=>j? b (Y b z).2) (λb z=>j? b (L b z).1) gp pd ae ll (λb o ae e=>oP b o ae (i_ b o ae e)) cV C c.st λs3 y=>
   Bs (own:=aq) (tgt:=t1) (λk av=>cD k (hP av)) aI ⟨y.fr,y.wd,b7⟩ E _ λf_ s5 amt jA n2=> ?_)
  have back: ∀x,σ.get x=σ'.get x∨σ.get x= .unset:=λx=>(ED ae x).elim (λh=> .inl h.symm) λh=> .inr (qc x h)
  have i:=y.ba H L jA (by induction n2 using iV.casesOn with|mk _ _ _ _ d=>exact d)
  induction n2 using iV.casesOn with
  |mk oi alM u Tg pP Ea PE M3 Q alZ=>
  have E?: ∀{b o},bf.heap.get? b=I o→ ∃t,s3.heap.get? b=I t:=λ{b o} e=>y.bw.ex b o e
  have nw: ∀{b o},s3.heap.get? b=I o→b∉u:=λ{b o} e z=>nn ((M3 b z).2.symm.trans e)
  have X: ∀{b o},bf.heap.get? b=I o→b∉u:=λ{b o} e=>(E? e).elim λt f=>nw f
  have sN: ∃o,s3.heap.get? D=I o:=y.lst.imp λo q=>q.1
  have lP:D∉u:=sN.elim λo e=>nw e
  have ac8: ∀{b o},bf.heap.get? b=I o→b≠D:=λ{b o} e z=>nn (iK.symm.trans (z▸e))
  have jr: ∀{b},(∃o,bf.heap.get? b=I o)→(∃o,s5.heap.get? b=I o)∧b∉u∧K' b∧b≠D:=λ{b} q=>q.elim λo e=>⟨i.bw.ex b o e,X e,j? b q,ac8 e⟩
  have ad2: ∀{b o},bf.heap.get? b=I o→ ¬et T.dZ bk.aD b→ ¬et T.dZ f_.aD b:=λ{b o} e h z=>(i.bw.ej b z).elim h λz=>nn (z.symm.trans e)
  have aax:e' T cx env σ' (λb=>(∃o,s5.heap.get? b=I o)∧b∉u∧K' b∧b≠D) f_ s5 u Tg D 0 f_ r.2 done cq s5:=
   ⟨(bW.refl ..).bw i.wd,i.wd,i.fr,i.bd,i.lst,i.aX,PE,λb ae=>(M3 b ae).1⟩
  have loop:codeAny T.mo A (.compLoop (.ListComp elt (iq t0 i0 t1 i1 ifs) cx.sc pos) 1 (.ref oi) (.ref D) env) (λr mZ=>match r with
       | .ok _=> ∃dC,dC<(p::rest).length∧zw T cx env σ K bk bf wr St D (ow (λp=>d2 cx.sc t0 p σ) (fs (m+1) aq t1 cx i1) (d! (m+1) cx elt t1 ifs)) items l w' mZ dC
       | .error x=>cameBackBy T.mo A env E x mZ) s5:=by
   refine VV (K':=K') cD rfl b7 Ea (λb ae=>⟨(Q b ae).1,(Q b ae).2.1⟩) (λb z=>z.2.1) (λb z=>z.2.2.1) (λb ae=> ?_) gp (λz=>z.2.2.2 rfl) (λz=> ?_) pd bH (Υ p σ' ae)
    (λP amy alJ QX iw al8 fQ x l af av=>nY P iw (i.bw.trans (fQ.bw.weak λb z=>jr (Y b z).2)) x l (Ut ae af) av) (bh _) aJ b5 aax λP QX iw br amr fQ M Mu=> ?_
   ·exact Dz λh=>(Q b ae).2.2 rfl|>.elim (λz=>(xv _ s3 _ b y.fr h).2.elim λo e=>nw e z) λz=>z (xv _ s5 _ b i.fr h).1
   ·exact ((Q D z).2.2 rfl).elim lP λz=>z i.bd.1
   ·have YD: ∀b∈du,∀o,s5.heap.get? b=I o→br.get? b=I o:=λb ae o e=>(L b ae).1.elim λt f=>M b o (X f) (fQ.bw.old b o (jr ⟨t,f⟩) e (ad2 f (L b ae).2))
    refine ⟨rest.length,gv _,.mk rest (j+1) (fW+r.1.length) (P.less u) a.2 (done++a.1) b2.1 QX (lR.trans (by rw[←dt.2])) (by rw[ai,iT,←dt.1]) gD.2.1 ?_ gD.2.2 ?_⟩
    ·rw[er];exact m_ b5 (VN (l:=a.1) (w':=a.2) aJ)
    ·refine ⟨(i.bw.trans (fQ.bw.weak λb z=>jr (Y b z).2)).less Ww (λb ae=>⟨fQ.wr b ae,?_⟩) M Mu,fQ.wd.less fQ.wr M Mu,(fQ.fr.less (λb ae=>⟨fQ.wr b ae,?_⟩) M).weak back,⟨⟨fQ.bd.1,lP⟩,fQ.bd.2⟩,?_,?_,?_,λb ae=> ?_⟩
     ·exact DF.mpr λo e=>X e ae
     ·refine jk (Ea.live _ _ fQ.st b ae) λo bA e fR=>⟨λgH q=> ?_,λv q=> ?_,λz=> ?_⟩
      ·obtain ⟨t,f,_,n,Z⟩:=q
       rw[e] at f;cases f
       subst Z;cases fR
      ·obtain ⟨t,f,Z⟩:=q
       rw[e] at f;cases f
       rw[fR] at Z;cases Z
      ·obtain ⟨BR,Z3⟩:=y.fr.dict
       obtain ⟨t,es,bz,ajn⟩:=Z3
       have f:=ajn.1
       exact nw f (z▸ae)
     ·exact fQ.lst.imp λo q=>⟨M D o lP q.1,q.2⟩
     ·have bJ:cS P.B iw.heap (P.less u).B br:= .less (λb ae=>(fQ.wr b ae).1) M
      have:=fQ.aX.bJ bJ []
      rwa [e0] at this
     ·exact H.frame _ _ _ i.st YD
     ·have ZE:=H.sub b ae
      exact (L b ZE).1.elim λt f=>⟨⟨fQ.bw.la b (jr ⟨t,f⟩) (i.wr b ae).1,X f⟩,λz=>(fQ.bw.ej b z).elim (i.wr b ae).2 λz=>(i.bw.ex b t f).elim λo e=>nn (z.symm.trans e)⟩
  exact VQ loop (Ea.self 0 _ _ _ PE loop)
end
theorem ad3 (h:isSet i=aq) (x:az):foldedSetIterable i env x=pure x:=by
 induction i using eC with
 |Set=>exact bF h.symm cv
 |_=>rfl
theorem TH (h:apart2 t0 t1=ab) (ae:d2 sc t0 p σ=I σ') (af:σ.get x= .unset):(∀p c,d2 sc t1 p σ'=I c→σ'.get x=c.get x)∨σ'.get x= .unset:=by
 induction t0 using eC with
 |Name a lb=>
  induction t1 using eC with
  |Name b ck=>
   have a5:a≠b:=by
    have h':(a !=b)=true:=h
    exact λe=>by rw[e,bne_self_eq_false] at h';exact bF h' cv
   have g:=ae
   by_cases f:x=b
   ·refine .inr ?_
    have g:qW sc (.Name a lb) p σ=I σ':=ae
    refine aO g λy a9 J=> ?_
    have d:a=y:=inj a9
    rw[←inj (cy J),aA.get_set,a3 (λe=>a5 (d.trans (e.trans f))),af]
   ·refine .inl λp2 c aa=> ?_
    have aa:qW sc (.Name b ck) p2 σ'=I c:=aa
    refine aO aa λy a9 J=> ?_
    have d:b=y:=inj a9
    rw[←inj (cy J),aA.get_set,a3 (λe=>f (e.symm.trans d.symm))]
  |_=>exact bF h cv
 |_=>exact bF h cv
theorem VH (cD: ∀m,m≤n+1→da T m) {elt t0 i0 t1 i1:Expr} {ifs:List Expr} {pos ps:Pos} {d:Scope} {l:List U} {use:Option (az→Sem Unit)} {Q:az→aH→Prop} {E:az→aH→Prop} {items:List U} (gF:lH cx.sc d=ab) (sT:apart2 t0 t1=ab) (Ga:isSet i1=aq) (J:fs (n+1) ab t0 cx i0 σ w=I (items,w1))
  (ag:ow (λp=>d2 d t0 p (σ.hide (Scope.dq d))) (fs (n+1) aq t1 {cx with sc:=d} i1) (d! (n+1) {cx with sc:=d} elt t1 ifs) items 0 w1=I (l,w')) (i:cO T cx env σ A g w s)
  (k: ∀g' s' D C,bW T g s g' s'→jI T s w' l g' s' (.ref D)→cL T g' C→s.heap.get? C=ah→D≠C→(∃m,s'.heap.Ns C m)→compPost T.mo A E use Q (.ref D) C (.ok .next) s'):
  aU T.mo A (comprehension (.ListComp elt (iq t0 i0 t1 i1 ifs) d pos) d env ps (newList []) aq (eval i0 env) use) Q E s:=by
 ··have wZ:=uK gF
   refine akd (use:=use) rfl (λx=>Hv J x) (KR λx af hf=>(EU i.fr gF x af hf).imp λc q=>q.1) wZ.1
    (λx af j=>by rw[Oi wZ.2.1 (k:=x.2) af,j]) ?_
   refine Bs (own:=ab) (tgt:=t0) (λm hm=>cD m (hP hm)) J i E _ λy s2 v t2 bT=> ?_
   obtain ⟨ak,du,wr,St,H,P,n6,oL,ew,xC⟩:=bT
   have f2:dy T y cx env σ s2.heap:=i.fr.ba t2 i.wd
   refine m' (N? ?_)
   have FR: ∀b∈du,(∃o,s2.heap.get? b=I o)∧ ¬et T.dZ y.aD b:=λb ae=>⟨(ew b ae).1,(ew b ae).2.1⟩
   dsimp only
   generalize sO:s2.heap.push {cls:= .type "list",dict:=ah,data:= .seq ([]:List az).toArray}=H1
   have Z:H1.objs.size=s2.heap.objs.size+1:=by rw[←sO];exact hb ..
   have i_:dI s2.heap H1:=λb o e=>by rw[←sO];exact dE _ e
   have FC:H1.get? s2.heap.objs.size=I {cls:= .type "list",dict:=ah,data:= .seq ([]:List az).toArray}:=by rw[←sO];exact d9 _ rfl
   have k': ∀b o,H1.get? b=I o→(pushCells (H1.push {cls:= .type "dict",data:= .dict #[]}) d.names).get? b=I o:=λb o e=>Dr _ _ b o (dE _ e)
   have fV:(pushCells (H1.push {cls:= .type "dict",data:= .dict #[]}) d.names).Ns H1.objs.size λ_=>none:=(ake H1 (.type "dict")).keeps (Dr _ _)
   have iu: ∀n c,(n,c)∈cellsFrom (H1.objs.size+1) d.names (ip env d.names [])→(n,c)∈ip env d.names []∨(H1.objs.size+1≤c∧(pushCells (H1.push {cls:= .type "dict",data:= .dict #[]}) d.names).IsCell c ah∧(n,NameKind.cell)∈d.names):=λn c hm=>by
    have aC:(H1.push {cls:= .type "dict",data:= .dict #[]}).objs.size=H1.objs.size+1:=hb ..
    rw[←aC] at hm⊢
    exact KG hm
   generalize pushCells (H1.push {cls:= .type "dict",data:= .dict #[]}) d.names=t at k' fV iu
   have aV:dI s2.heap t:=λb o e=>k' b o (i_ b o e)
   have X:s2.heap.get? s2.heap.objs.size=none:=i? _
   have sQ:s2.heap.get? H1.objs.size=none:=kP (by rw[Z];exact jD _)
   have xt:s2.heap.objs.size≠H1.objs.size:=by rw[Z];exact (RI _).symm
   have sN:t.get? s2.heap.objs.size=I {cls:= .type "list",dict:=ah,data:= .seq ([]:List az).toArray}:=k' _ _ FC
   have C_:=f2.comp H gF H1.objs.size (by rw[Z];exact jD _) aV fV iu
   have D':=C_.1
   have Eg:=C_.2.1
   have w0:=C_.2.2.1
   have Gf:=C_.2.2.2
   have t3:bW T y s2 (y.news s2.heap t) {s2 with heap:=t,toks:=s2.toks}:= .news aV (bh _)
   have hj:aW T (y.news s2.heap t) w1 {s2 with heap:=t,toks:=s2.toks}:=H.news aV (bh _)
   have FD: ∀x c,dD d x=ab→(compEnv d H1.objs.size env).cells.lookup x=I c→s2.heap.objs.size≠c:=λx c af j=>hg (oh (Z▸gv _) (w0 x c af j))
   have Y:e' T {cx with sc:=d} (compEnv d H1.objs.size env) (σ.hide (Scope.dq d)) (λb=>(∃o,s2.heap.get? b=I o)∧b∉wr) y s2 wr St s2.heap.objs.size 0 (y.news s2.heap t) w1 [] [] {s2 with heap:=t,toks:=s2.toks}:={
    bw:=t3.bw H
    wd:=hj
    fr:=D'
    bd:=G.nX H X sN
    lst:=⟨_,sN,rfl,0,rfl⟩
    aX:= .nil
    st:=P.frame 0 _ _ n6 λb ae o e=>aV b o e
    wr:=λb ae=>(oL b ae).1.vW t3 H}
   have loop:codeAny T.mo A (.compLoop (.ListComp elt (iq t0 i0 t1 i1 ifs) d pos) 0 (.ref ak) (.ref s2.heap.objs.size) (compEnv d H1.objs.size env))
     (compPost T.mo A E use Q (.ref s2.heap.objs.size) H1.objs.size) {s2 with heap:=t}:=by
    refine VY (cx:={cx with sc:=d}) (K:=λb=>(∃o,s2.heap.get? b=I o)∧b∉wr) (K':=λb=>b≠H1.objs.size∧ ∀x c,d.names.lookup x=I .cell→(compEnv d H1.objs.size env).cells.lookup x=I c→b≠c) (m:=n) cD rfl i.b7 P FR H (λb z=>⟨z.2,z.1⟩) (λb z=> ?_)
     ⟨xt,λx c af j=>FD x c (vn (.inr af)) j⟩ X (λx af=> ?_) (λg s σ b f h=> ?_) (λx af=> ?_) (λp σ' ae x af=> ?_) (λL s4 c x l af av a5=> ?_) ag Y (ad3 Ga) λL cq s4 bo aG c M R=> ?_
    ·obtain ⟨o,e⟩:=z
     exact ⟨λq=>nn (sQ.symm.trans (q▸e)),λx c af j q=>nn ((kP (iS (oh (Z▸gv _) (w0 x c (vn (.inr af)) j)))).symm.trans (q▸e))⟩
    ·exact (Eg x af).elim (λq=> .inl ⟨q.1,λz=>z.1 rfl⟩) λq=> .inr ⟨q.1,λc ag z=>z.2 x c ((BU af).elim (λh=>nomatch inj (q.1.symm.trans (x7 h))) id) ag rfl⟩
    ·refine Dz λno=>h ⟨λz=>no ⟨z▸f.loc.1,?_⟩,λx c af j z=>no ?_⟩
     ·obtain ⟨BR,cz,es,bz,ajy⟩:=f.dict
      have bL:=ajy.1
      exact ⟨cz,z▸bL⟩
     ·exact cM (f.nm x .cell af nofun) λv a _=>fe (a.cellOf (f.dm x .cell af (.inl rfl))) λc5 u aN ae=>(z.trans (inj (j.symm.trans u)))▸⟨ae.1,aN.imp λo q=>q.1⟩
    ·rw[aA.uV,a_ (BV af)]
    ·exact TH sT ae (by rw[aA.uV,a_ (BV af)])
    ·refine hG (Gf x l af av) λek a q=>q.2.2.1.elim λo O=>q.2.2.2.1.elim λaei Gd=> ?_
     have p9:ek∉wr:=λz=>jk (xC ek z) λcz bA e fR=>nomatch (aQ pk (inj (O.1.symm.trans e))).symm.trans O.2|>.symm.trans fR
     have hk:=c.old ek o ⟨⟨o,O.1⟩,p9⟩ O.1 q.2.2.2.2.2
     exact fe (a5.cellOf q.2.1) λc5 u aN _=>aN.elim λg8 r=>by
      have aN:I (Value.ref s2.heap.objs.size)=I (.ref a):=by
       have kx:=r.1
       rw[←inj (q.1.symm.trans u),hk] at kx
       rw[←inj kx,O.2] at r
       injection r.2.symm
      injection inj aN with aN
      exact nn (X.symm.trans (aN▸Gd))
    ·
     have q':H1.objs.size∉wr:=λz=>jk (P.live _ _ n6 _ z) λo bA e _=>nn (sQ.symm.trans e)
     have lP:s2.heap.objs.size∉wr:=λz=>jk (P.live _ _ n6 _ z) λo bA e _=>nn (X.symm.trans e)
     have pI:cL T L H1.objs.size:=c.fr.loc
     have pP:aW T (L.less wr) w' {s4 with heap:=bo,toks:=aG}:=c.wd.less c.wr M R
     have nZ: ∀{b o},s.heap.get? b=I o→b∉wr:=λ{b o} e z=>nn ((oL b z).2.symm.trans e)
     have fin:bW T g s (L.less wr) {s4 with heap:=bo,toks:=aG}:={
      keep:=λb o e nw=>
       have u:=t2.keep b o e nw
       M b o (nZ e) (c.bw.old b o ⟨⟨o,u⟩,nZ e⟩ u λz=>(t2.ej b z).elim nw λz=>nn (z.symm.trans e))
      ex:=λb o e=>(t2.ex b o e).elim λg8 u=>(c.bw.ex b g8 u).imp λqs hk=>M b qs (nZ e) hk
      hD:=λb z=>(i.wd.ex b z).elim λo e=>⟨c.bw.la b ⟨t2.ex b o e,nZ e⟩ (t2.hD b z),nZ e⟩
      iI:=λb z=>(c.bw.iI z.1).elim (t2.iI b) λh=> .inr (t2.none h)
      eJ:=t2.eJ.elim λa i2=>c.bw.eJ.elim λb mC=>⟨a++b,mC.trans (by rw[i2,iT])⟩
      ej:=λb z=>(c.bw.ej b z).elim (t2.ej b) λh=> .inr (t2.none h)
      gens:=c.bw.gens.trans t2.gens
      os:=c.bw.os.trans t2.os
      aG:=cG (cG t2.aG c.bw.aG) R}
     refine c.fr.dict.elim λvm u4=> ?_
     refine k _ _ _ _ fin ⟨s2.heap.objs.size,cq,rfl,t2.none X,pP,⟨⟨c.bd.1,lP⟩,c.bd.2⟩,?_,?_⟩ ⟨⟨pI.1,q'⟩,pI.2⟩ (t2.none sQ) xt ⟨vm,u4.at λo e=>M _ o q' e⟩
     ·obtain ⟨o,e,r⟩:=c.lst
      exact ⟨o,M _ o lP e,r⟩
     ·have bJ:cS L.B s4.heap (L.less wr).B bo:= .less (λb ae=>(c.wr b ae).1) M
      have:=c.aX.bJ bJ []
      rwa [e0] at this
   exact akf loop (P.self 0 _ _ _ Y.st loop)
theorem adx (y: ∀m,m≤n+1→da T m) {elt t0 i0 t1 i1:Expr} {ifs:List Expr} {pos:Pos} {c:Scope} {l:List U} {items:List U} (gF:lH cx.sc c=ab) (H:apart2 t0 t1=ab) (q:isSet i1=aq) (J:fs (n+1) ab t0 cx i0 σ w=I (items,w1))
  (ag:ow (λp=>d2 c t0 p (σ.hide (Scope.dq c))) (fs (n+1) aq t1 {cx with sc:=c} i1) (d! (n+1) {cx with sc:=c} elt t1 ifs) items 0 w1=I (l,w')) (i:cO T cx env σ A g w s):
  aS T A (eval (.ListComp elt (iq t0 i0 t1 i1 ifs) c pos) env) g s (jI T s w' l):=by
 intro E Q k
 rw[eval_ListComp]
 refine VH y gF H q J ag i λg1 s1 D C t1 v L gb j hm=> ?_
 obtain ⟨m,hm⟩:=hm
 refine ⟨m,hm,λaa f3=> ?_⟩
 obtain ⟨a,vs,e,aJ,x,h,u,aX⟩:=v
 cases e
 have ae: ∀b∈[C],cL T g1 b∧s.heap.get? b=none:=λb z=>by rw[ep] at z;subst z;exact ⟨L,gb⟩
 have d: ∀b o,b∉[C]→s1.heap.get? b=I o→aa.get? b=I o:=λb o z e=>(f3.2 b (by simpa using z)).trans e
 refine k (g1.less [C]) _ _ (t1.less (t:=s1.toks) i.wd ae d (bh _)) ⟨D,vs,rfl,aJ,x.less (λb z=>(ae b z).1) d (bh _),⟨⟨h.1,by simpa using j⟩,h.2⟩,?_,?_⟩
 ·obtain ⟨o,f⟩:=u
  have e:=f.1
  have r:=f.2
  exact ⟨o,d _ o (by simpa using j) e,r⟩
 ·have bJ:cS g1.B s1.heap (g1.less [C]).B aa:= .less (λb z=>(ae b z).1.1) d
  have:=aX.bJ bJ []
  rwa [e0] at this
structure qQ (T:cA):Prop where
 make: ∀{cx σ env A g s w w1 a t p p2 pos l8},cO T cx env σ A g w s→cx.sc.names.lookup (ao "_netrclex")=I .globalImplicit→cx.sc.names.lookup (ao "_law_stream")=I .globalImplicit→4≤cx.d→t.length≤1048576∧fE t=ab→
  starEach [a] env=[(aq,eval a env)]→aS T A (eval a env) g s (Res T w1 (.str t))→
  aS T A (eval (.Call (.Name (ao "_netrclex") p) [.Call (.Name (ao "_law_stream") p2) [a] [] l8] [] pos) env) g s (Res T (w1++[⟨t.cps.toList,1,[]⟩]) (.obj w1.length))
 tok: ∀{cx σ env A g s w w1 o i l ap pos},cO T cx env σ A g w s→4≤cx.d→baseOk o=ab→(ap.endLine==pos.line)=ab→aS T A (eval o env) g s (Res T w1 (.obj i))→w1[i]?=I l→
  aS T A (eval (.Call (.Attribute o (ao "get_token") ap) [] [] pos) env) g s (Res T (w1.set i l.token.2) (.str l.token.1))
 push: ∀{cx σ env A g s w w1 fC o a t i l ap pos},cO T cx env σ A g w s→4≤cx.d→baseOk o=ab→(ap.endLine==pos.line)=ab→starEach [a] env=[(aq,eval a env)]→aS T A (eval o env) g s (Res T w1 (.obj i))→(∀g1 s1,bW T g s g1 s1→aW T g1 w1 s1→aS T A (eval a env) g1 s1 (Res T fC (.str t)))→fC[i]?=I l→l.push.length<1048576→
  aS T A (eval (.Call (.Attribute o (ao "push_token") ap) [a] [] pos) env) g s (Res T (fC.set i {l with push:=l.push++[t]}) .none)
 line: ∀{cx σ env A g s w w1 o i l ap},cO T cx env σ A g w s→baseOk o=ab→aS T A (eval o env) g s (Res T w1 (.obj i))→w1[i]?=I l→
  aS T A (eval (.Attribute o (ao "lineno") ap) env) g s (Res T w1 (.int l.line))
theorem VL (h:q0 gs=I q):gs=iq q.1 q.2.1 q.2.2.1 q.2.2.2.1 q.2.2.2.2:=by
 match gs,h with
 |[g,k],h=>
  have ag:=cu (show (if _ then _ else _)=I q from h)
  have e:=inj (cy (show (if _ then _ else _)=I q from h))
  obtain ⟨t0,i0,f0,d⟩:=g
  obtain ⟨t1,i1,f1,a1⟩:=k
  subst e
  have a:d=0:=dp (dh ag)
  have b:a1=0:=dp (dh (c2 ag))
  have c:f0=[]:=j2.mp (c2 (c2 ag))
  subst a b c
  rfl
theorem adz (b: ∀m,m≤n→da T m) {e:Expr} (h:ei (n+1) cx e σ w=I (l,w')) (i:cO T cx env σ A g w s):aS T A (eval e env) g s (jI T s w' l):=by
 induction e using eC with
 |List=>exact ady (b n (bh n)) h i
 |ListComp elt gs c pos=>
  refine nA h (λj h=>aO h λq a aa=> ?_) λq a h=> ?_
  ·obtain rfl:=KU a
   induction n using fJ with
   |zero=>exact aO (cy aa) λZ ay Z=>aR ay
   |succ n=>exact adw b aa i
  ·refine aO (cy h) λx J aa=> ?_
   have ag:=cu h
   induction n using fJ with
   |zero=>exact aR J
   |succ n=>
    rw[VL a]
    exact adx b (dh ag) (dh (c2 ag)) (rZ _|>.mp (c2 (c2 ag))) J aa i
 |Call f as d pos=>exact nA h (λZ h=>adC (b n (bh n)) h i) λq a h=>adB (b n (bh n)) a h i
 |_=>exact aR h
theorem Aq (S:da T n) {e:Expr} {p:U} (h:(ei n cx e σ w).bind (λx=>I (U.list x.1,x.2))=I (p,w')) (i:cO T cx env σ A g w s):aS T A (eval e env) g s (Res T w' p):=
 aO h λx J aa=>jm aa ((S.ei J i).freeze i.wd)
theorem Hy (h:tC p=I k):p= .obj k:=by
 induction p using U.casesOn with
 |obj j=>exact aQ U.obj (inj h)
 |_=>exact aR h
theorem Xw (C:T.dx.lex=ab→qQ T) (S:da T n) {v:Expr} {a:Str} {c:Pos} {p:U} (h:ev (n+1) cx (.Attribute v a c) σ w=I (p,w')) (i:cO T cx env σ A g w s):aS T A (eval (.Attribute v a c) env) g s (Res T w' p):=
 have ag:=cu h
 have C:=C (i.fr.dx▸dh (dh ag))
 aO (cy h) λx J aa=>aO aa λk av ay=>i! ay λl b d=>jv (c2 ag)▸jm (aQ I d) (C.line i (c2 (dh ag)) (Hy av▸S.ev J i) b)
theorem XA (C:T.dx.lex=ab→qQ T) (S:da T n) {f:Str} {q pos:Pos} {as:List Expr} {c:List rU} {p:U} (h:ev (n+1) cx (.Call (.Name f q) as c pos) σ w=I (p,w')) (i:cO T cx env σ A g w s):aS T A (eval (.Call (.Name f q) as c pos) env) g s (Res T w' p):=by
 have ag:=cu h
 have b:=dp (c2 ag)
 rw[j2.mp (dh ag)]
 refine g6 (cy h) (λhm h=>aO h λu b0 h=> ?_) λZ h=>g6 h (λZ h=>j2.mp (dh ag)▸Aq S h i) λZ h=>nA h (λZ h=>aO h λr J aa=>aO aa λz ay j=>jm j (Ux S b J ay i)) λd hd h=>aO h λr J aa=>Yq S b hd J aa i
 have a:=cu h
 have C:=C (i.fr.dx▸dh (dh (dh a)))
 have sX:=jv hm
 refine aO (cy h) λx J aa=>aO aa λt e ay=>hG (ahM b0) λp2 l k=> ?_
 exact k▸sX▸(jv (c2 (dh (dh a))))▸(jm (cy ay) (C.make i (sX▸b) (jv (c2 (dh (dh a)))▸dp (c2 (dh a))) (jH (c2 a)) (cu ay) (qA (Ap J)) (om e▸S.ev J i)))
theorem Xz (C:T.dx.lex=ab→qQ T) (S:da T n) {o:Expr} {m:Str} {f pos:Pos} {as:List Expr} {j:List rU} {p:U} (h:ev (n+1) cx (.Call (.Attribute o m f) as j pos) σ w=I (p,w')) (i:cO T cx env σ A g w s):aS T A (eval (.Call (.Attribute o m f) as j pos) env) g s (Res T w' p):=by
 have ag:=cu h
 have ae:=dh (dh (c2 ag))
 have d:=c2 (dh (c2 ag))
 have a5:=jH (c2 (c2 ag))
 refine g6 (cy h) (λhm h=> ?_) λZ h=>g6 h (λhm h=> ?_) λZ h=>g6 h (λZ h=>Aq S h i) λZ h=>aO h λx J aa=>aO aa λr ay b=>aO b λz c e=>j2.mp (dh ag)▸jm e (acM S ae d a5 J ay (acL c) i)
 ·have C:=C (i.fr.dx▸dh hm)
  exact (j2.mp (dh ag))▸(j2.mp (dh (cu h)))▸(jv (c2 hm))▸(aO (cy h) λx J aa=>aO aa λk av ay=>aO ay λl b c=>jm c (C.tok i (jH (c2 (cu h))) ae d (Hy av▸S.ev J i) b))
 ·have C:=C (i.fr.dx▸dh hm)
  rw[j2.mp (dh ag),jv (c2 hm)]
  refine aO (cy h) λa aJ E=>aO E λx J aa=>aO aa λk av ay=>aO ay λy b c=>aO c λt u e=>aO e λl D q=> ?_
  exact (nr aJ)▸(jm (cy q) (C.push i (jH (cu h)) ae d (qA (Ap b)) (Hy av▸S.ev J i) (λg1 s1 t1 v=>om u▸S.ev b (i.ba t1 v)) D (cu q)))
theorem XF (C:T.dx.lex=ab→qQ T) (b: ∀m,m≤n→da T m) {e:Expr} {p:U} (h:ev (n+1) cx e σ w=I (p,w')) (i:cO T cx env σ A g w s):aS T A (eval e env) g s (Res T w' p):=by
 have S:=b n (bh n)
 induction e using eC with
 |Constant=>exact XC h i
 |Name=>exact XE h i
 |BinOp=>exact Xx S h i
 |UnaryOp=>exact XK S h i
 |BoolOp=>exact Xy S h i
 |Compare=>exact XB S h i
 |IfExp=>exact XD S h i
 |List=>exact Aq S h i
 |ListComp=>exact Aq S h i
 |Tuple=>exact XJ S h i
 |Subscript v k pos=>exact nA h (λau h=>XH S au h i) λq a h=>(agY a).elim λp e=>e▸XG S h i
 |Attribute=>exact Xw C S h i
 |Call f as c pos=>induction f using eC with
  |Name=>exact XA C S h i
  |Attribute=>exact Xz C S h i
  |_=>exact aR h
 |_=>exact aR h
theorem ag4 (C:T.dx.lex=ab→qQ T) (a: ∀m,m≤n→da T m) (b: ∀m,m≤n→kY T m):da T (n+1):=by
 have S:=a n (bh n)
 exact {
  ev:=λh Z Z Z Z i=>XF C a h i
  dN:=λh Z Z Z Z i=>aeR S h i
  iN:=λh Z Z Z Z pos i=>aeP S h pos i
  e4:=λh Z Z Z Z pos i=>Xu S h pos i
  i3:=λh Z Z Z Z i=>Xv S h i
  k1:=λh Z Z Z Z pos i=>UG S h pos i
  jM:=λh au Z Z Z Z Z pos i c=>Vw S h au pos i c
  fI:=λh Z Z Z Z i=>aiz S h i
  hN:=λh Z Z Z Z i=>aiy S h i
  ei:=λh Z Z Z Z i=>adz a h i
  b':=λh hm hd Z Z Z Z Z hw b7 aX aJ=>UN b h hm hd hw b7 aX aJ}
theorem ag5:da T 0:=⟨λh=>aR h,λh=>aR h,λh=>aR h,λh=>aR h,λh=>aR h,λh=>aR h,λh=>aR h,λh=>aR h,λh=>aR h,λh=>aR h,λh=>aR h⟩
theorem H' (C:T.dx.lex=ab→qQ T): ∀n,(∀m,m≤n→da T m)∧(∀m,m≤n→kY T m):=by
 intro e
 induction e with
 |zero=>
  exact ⟨λm h=>by obtain rfl:=za.mp h;exact ag5,λm h=>by obtain rfl:=za.mp h;exact ag7⟩
 |succ n c=>
  have a:=c.1
  have b:=c.2
  have f:=ag4 C a b
  have d:=ag6 a b
  exact ⟨λm h=>(Jf h).elim (λh=>a m (nf h)) λh=>h▸f,λm h=>(Jf h).elim (λh=>b m (nf h)) λh=>h▸d⟩
noncomputable abbrev hK (P:iE) (bp bK dg ey:Tok) (ln src ws ck:az):Obj:=
 {cls:= .type "dict",data:= .dict #[⟨j7 P (ao "lineno"),.str (ao "lineno") bp,ln⟩,⟨j7 P (ao "instream"),.str (ao "instream") bK,src⟩,
  ⟨j7 P (ao "whitespace"),.str (ao "whitespace") dg,ws⟩,⟨j7 P (ao "pushback"),.str (ao "pushback") ey,ck⟩] 4}
section
variable {K:Frag} {C:aP} {cd:ClassData} {od:Obj} {name:Str} {v:az}
theorem Ye (ag:clsIn K C=I cd) (hd:cd.hasDict=ab) (aJ:findIn K (.ref C) name=I ah) (a:lookIn name od=I (I v)):findObj K C (I od) name=I (.value v):=by
 unfold findObj
 rw[ag,aJ]
 show (akF cd (I od) name).bind _=_
 rw[show akF cd (I od) name=I (I v) from (a_ hd).trans a]
 rfl
theorem G':lookIn (ao "lineno") (hK P bp bK dg ey ln src ws ck)=I (I ln):=aY
theorem acx:lookIn (ao "instream") (hK P bp bK dg ey ln src ws ck)=I (I src):=aY
theorem acy:lookIn (ao "whitespace") (hK P bp bK dg ey ln src ws ck)=I (I ws):=aY
theorem G_:lookIn (ao "pushback") (hK P bp bK dg ey ln src ws ck)=I (I ck):=aY
theorem afi:qM (ao "lineno") (j7 P (ao "lineno")) (.str (ao "lineno") t) v (hK P bp bK dg ey ln src ws ck)=hK P bp bK dg ey v src ws ck:=aY
theorem agE:shadowIn (I (hK P bp bK dg ey ln src ws ck)) (ao "_read_char")=I false:=aY
theorem agF:shadowIn (I (hK P bp bK dg ey ln src ws ck)) (ao "get_token")=I false:=aY
end
section
variable {prog:Dm} {w:rS} {A:eU} {s:aH} {K:Frag} {x dx C:aP} {ox od ru:Obj} {name:Str} {v:az} {R:r9→aH→Prop}
set_option tactic.hygienic true in
theorem OB {aG:Tok} {es:List D1} {n:Nat} (X:K.In s.heap) (ak:InstAt s.heap x ox C (I od)) (hd:ox.dict=I dx) (aC:plainOver K C=ab) (l:takerIn K C name=I ah) (cC:(clsIn K C).any (·.hasDict)=ab)
  (d:(lookIn name od).isSome=ab) (e:qM name (j7 w.params name) (.str name s.toks) v od=ru) (i:ru.data= .dict es.toArray n) (bH:es.length≤1000)
  (h: ∀h',I0 dx s.heap h'→h'.get? dx=I ru→R (.ok (.ret .none)) {s with heap:=h',toks:=s.toks+1}):
  codeAny (cU prog w) A (.call (.builtin "object.__setattr__") ⟨[.ref x,.str name aG,v],[]⟩) R s:=by
 refine osa_open X ak aC l λb=> ?_
 obtain ⟨cd,g⟩:=any_some cC
 have ag:=g.1
 have r:=g.2
 obtain ⟨af,k,a5,D⟩:=ak
 obtain ⟨u,o,y,p⟩:=ox
 dsimp only at k hd
 subst k hd
 have D:s.heap.get? dx=I od:=D
 have j:(s.heap.update dx (qM name (j7 w.params name) (.str name s.toks) v)).get? dx=I ru:=by
  rw[wk _ D (by rw[e];obtain ⟨_,_,t,_⟩:=ru;cases i;rfl),e]
 refine aw (bj (aw (aw (wo af (aw ((looks_clsIn X ag).here ?_))))))
 rw[r]
 refine bj (a:=I dx) (aw (bj (aw ?_)))
 refine aw (aw (y6 (bj (aw (Jg (aw (wo D ?_)))))))
 unfold lookIn at d
 split at d
 ·rename_i f m q
  rw[q]
  dsimp only
  have c:(!f.any (·.key.isStr name)&&f.any (·.refKey))=false:=by
   rw[←akG,←akG]
   split at d
   ·rename_i dS he
    rw[ako.mpr ⟨dS,aj8 he,aj7 he⟩];rfl
   ·split at d
    ·exact bF d cv
    ·rename_i z;rw[akE] at z;rw[z,R2]
  rw[akH,c]
  refine wpAny_updatePart D ?_
  refine aw (wpAny_lookBehind j (by rw[i];exact pastItsLine_dict (by rw[eK,t_];exact cW bH rfl)) ?_)
  exact bj (h _ (R' ..) j)
 ·exact bF d cv
end
noncomputable def cA.bare (T:cA):cA:={T with
 dx:={T.dx with lex:=aq}
 fns:=T.fns
 consts:=T.consts
 sa:=λZ Z Z Z=>True
 sf:=λZ Z=>True
 k!:=λZ Z Z=>trivial
 m2:=λZ Z Z=>trivial
 dZ:=ah}
theorem TY (T:cA): ∀n,(∀m,m≤n→da T.bare m)∧(∀m,m≤n→kY T.bare m):=H' λh=>by exact bF h cv
noncomputable def pG (X:aP→Prop):G:=⟨X,[]⟩
theorem aW.bare (d:aW T g w s) (X:aP→Prop) (c: ∀b,X b→(∃o,s.heap.get? b=I o)∧T.cp.get? b=ah):aW T.bare (pG X) [] s where
 aG:=d.aG
 base b o e:=⟨(d.base b o e).1,λz=>bF ((c b z).2.symm.trans e) (by nofun)⟩
 ex b z:=(c b z).1
 dG b z:=z.elim (λh=>nomatch h) λ⟨a,h,_⟩=>nomatch h
 tab:=trivial
 len:=rfl
 c3 _ _ _ e:=by simp[pG] at e
 fT _ _ _ _ _ e:=by simp[pG] at e
 fz _ h:=nomatch h
noncomputable abbrev gc:Str:=ao "text"
noncomputable abbrev fH:Str:=ao "place"
noncomputable abbrev hq:Str:=ao "read"
noncomputable abbrev tu:Str:=ao "source"
noncomputable abbrev nV:Str:=ao "size"
noncomputable abbrev readBody (P:Nat→Pos):List cK:=
 [.AugAssign (.Subscript (.Name (ao "place") (P 0)) (.Constant (.int 0) 0 (P 1)) (P 2)) .Add (.Name (ao "size") (P 3)) (P 4),
  .Return (I (.Subscript (.Name (ao "text") (P 5)) (.Slice (I (.BinOp (.Subscript (.Name (ao "place") (P 6)) (.Constant (.int 0) 0 (P 7)) (P 8)) .Sub (.Name (ao "size") (P 9)) (P 10)))
   (I (.Subscript (.Name (ao "place") (P 11)) (.Constant (.int 0) 0 (P 12)) (P 13))) ah (P 14)) (P 15))) (P 16)]
structure qS (mW:ud) (fZ:List cK) (rs:Scope):Prop where
 fZ: ∃P,fZ=readBody P
 a5:mW.args.map (·.arg)=[nV]
 f4:mW.posonlyargs=[]
 j!:mW.vararg=ah
 hn:mW.kwonlyargs=[]
 lM:mW.kwarg=ah
 f8:mW.defaults=[]
 pU:mW.kw_defaults=[]
 ann: ∀env,annTrees mW ah env=[]
 bp:rs.kind= .function
 bK:rs.isGenerator=aq
 dg:rs.isCoroutine=aq
 names:rs.names=[(nV,.local),(fH,.free),(gc,.free)]
structure lG (fd:hR) (dd cT:aP):Prop where
 pv: ∃b,fd.body= .stmts b∧qS fd.params b fd.scope
 oD:fd.globals=mainGlobals
 pW:fd.builtins=builtinsNs
 pX:fd.defaults= .none
 cl:fd.closure=[(gc,dd),(fH,cT)]
 u1:dd≠cT
def hu (k:Int) (text:Str):aA:=[(nV,.val (.int 1)),(fH,.own [.int k]),(gc,.val (.str text))]
theorem HP (h:(hu k text).get x= .own l):x=fH:=by
 refine Dz λn=> ?_
 have h:(if nV==x then _ else if fH==x then _ else if gc==x then _ else _)=Slot.own l:=h
 rw[a3 (c:=(fH==x)=ab) λe=>n (dp e).symm] at h
 split at h
 ·cases h
 ·split at h<;>cases h
theorem O2:(hu k text).get fH= .own [.int k]:=aY
theorem afq:(hu k text).get gc= .val (.str text):=aY
theorem x6 {β:Type} {a x:Str} {i k:β} {l:List (Str×β)} (h:RW x ((a,i)::l)=I k):(x=a∧k=i)∨l.lookup x=I k:=by
 rw[nc] at h
 split at h
 ·rename_i ae;exact .inl ⟨dp ae,(inj h).symm⟩
 ·exact .inr h
theorem NJ {β:Type} {x:Str} {k:β} {P:Prop} (h:RW x []=I k):P:=nomatch h
section
variable {h:bU} {fd:hR} {dd cT:aP} {k:Int} {x:Str}
theorem lG.cell (F:lG fd dd cT) {c:aP} (h:fd.closure.lookup x=I c):(x=gc∧c=dd)∨(x=fH∧c=cT):=
 (x6 (F.cl▸h)).imp_right λh=>(x6 h).elim id NJ
theorem lG.kind (F:lG fd dd cT) {k:lA} (h:fd.scope.names.lookup x=I k):(x=nV∧k= .local)∨(x=fH∧k= .free)∨(x=gc∧k= .free):=
 cM F.pv λb Z D=>(x6 (D.names▸h)).imp_right λh=>(x6 h).imp_right λh=>(x6 h).elim id NJ
theorem lG.at (F:lG fd dd cT):fd.closure.lookup gc=I dd∧fd.closure.lookup fH=I cT:=by rw[F.cl];exact ⟨rfl,by kernel_rfl⟩
theorem qS.at {fZ:List cK} (D:qS a fZ rs):rs.names.lookup nV=I .local∧rs.names.lookup fH=I .free∧rs.names.lookup gc=I .free:=by rw[D.names];exact ⟨by kernel_rfl,by kernel_rfl,by kernel_rfl⟩
theorem qS.BZ {fZ:List cK} (D:qS a fZ rs): ∀x∈rs.names,x.2≠ .cell:=by
 rw[D.names]
 exact ue.mpr ⟨nofun,ue.mpr ⟨nofun,ue.mpr ⟨nofun,nofun⟩⟩⟩
theorem aft (F:lG fd dd cT) (av:fd.scope.kind= .function) (i:env.scope=fd.scope) (e:env.cells=fd.closure) (o:env.globals=mainGlobals) (j:env.builtins=builtinsNs) (v:cL T g env.locals) (f:h.Ns env.locals m) (hm:m nV=I (.int 1 t3))
  (z:h.IsCell dd (I (.str text t1))) (w:h.IsCell cT (I (.ref bP))) (p:cL T g dd) (r:cL T g cT) (qY:cL T g bP) (t:dk h bP #[.int k t2]):dy T g ⟨T.dx,n,fd.scope⟩ env (hu k text) h:=by
 have d: ∀x,env.kindOf x=fd.scope.names.lookup x:=λx=>aQ (λs:Scope=>s.names.lookup x) i
 exact {
  glob:=o
  bi:=j
  kind:=i▸av
  loc:=v
  nM:=λx af=>(d x).trans af
  ok:=λx k af=>by rcases F.kind af with ⟨rfl,_⟩|⟨rfl,_⟩|⟨rfl,_⟩<;>exact ⟨by kernel_rfl,by kernel_rfl⟩
  nm:=λx dQ af A=>(F.kind af).elim (λq=>⟨_,.inl ⟨(d x).trans (af.trans (aQ I q.2)),m,f,rfl⟩,q.1▸⟨_,hm,.int _ _⟩⟩) λq=>q.elim
   (λq=>⟨_,.inr ⟨.inr ((d x).trans (af.trans (aQ I q.2))),cT,by rw[e,q.1];exact F.at.2,w,r⟩,by rw[q.1,O2];exact ⟨bP,[.int k t2],rfl,qY,t,.cons (.int _ _) .nil⟩⟩)
   λq=>⟨_,.inr ⟨.inr ((d x).trans (af.trans (aQ I q.2))),dd,by rw[e,q.1];exact F.at.1,z,p⟩,by rw[q.1,afq];exact ⟨_,rfl,.str _ _⟩⟩
  dx:=rfl
  dict:=⟨_,f⟩
  dm:=λx k af h=>h.imp (λq=>(d x).trans (af.trans (aQ I q))) λq=>(d x).trans (af.trans (aQ I q))
  apart:=λx y c af a9=>(F.cell (e▸af)).elim (λa=>(F.cell (e▸a9)).elim (λb=>a.1.trans b.1.symm) λb=>(F.u1 (a.2.symm.trans b.2)).elim) λa=>(F.cell (e▸a9)).elim (λb=>(F.u1 (b.2.symm.trans a.2)).elim) λb=>a.1.trans b.1.symm
  sep:=λx y l m a ex u Z Z Z Z=>(HP ex).trans (HP u).symm}
theorem afs {K:aP→Prop} (F:lG fd dd cT) (av:fd.scope.kind= .function) (fr:dy T g ⟨T.dx,n,fd.scope⟩ env (hu k text) s.heap) (wd:aW T g w s) (b7:Room (20*n+20) A) (d:env.scope=fd.scope) (m:env.cells=fd.closure)
  (p: ¬K env.locals) (aC: ¬K bP) (t:s.heap.IsCell cT (I (.ref bP))) (h4: ∀b,K b→ ∃o,s.heap.get? b=I o):bQ T K ⟨T.dx,n,fd.scope⟩ env (hu k text) A g w s:=by
 have f: ∀x,env.kindOf x=fd.scope.names.lookup x:=λx=>aQ (λs:Scope=>s.names.lookup x) d
 exact {
  fr:=fr
  wd:=wd
  b7:=b7
  wr:=λx af=>(qI.mp af).elim (λaf=> .inl ⟨(f x).trans (dp af),p⟩) λaf=>(F.kind (dp af)).elim (λq=>nomatch q.2) λq=>q.elim (λq=>nomatch q.2) λq=>nomatch q.2
  own:=λx l a ex Z z=>by
   obtain rfl:=HP ex
   refine z.elim (λz=>cM F.pv λb Z D=>nomatch inj (((f fH).trans D.at.2.1).symm.trans z.1)) λz=> ?_
   ·exact fe z.2 λc ag r Z=>by
     rw[m,F.at.2] at ag
     obtain rfl:=inj ag
     obtain rfl:bP=a:=by
      obtain ⟨o,e,q⟩:=r
      obtain ⟨u,i,j⟩:=t
      rw[i] at e
      rw[←inj e,j] at q
      injection q with q
      injection q with q
      injection q
     exact aC
  h4:=h4
  sc:=d
  eb:=by unfold interactive;rw[d,av];rfl}
end
set_option backward.match.sparseCases true in
theorem afu (F:lG fd dd cT)
  (y:s.heap.get? dv=I o) (M:o.data= .func fd) (d?:fd.body= .stmts body) (D:qS fd.params body fd.scope) (mI:s.heap.CodeRec fd.code fd.qualname)
  (hw:aW T g w s) (b7:Room (20*n+30) A) (J:s.heap.IsCell dd (I (.str text t1))) (aa:s.heap.IsCell cT (I (.ref bP))) (ay:dk s.heap bP #[.int k t2]) (u:T.cp.get? dd=ah) (H:T.cp.get? cT=ah) (L:T.cp.get? bP=ah)
  (h: ∀env g1 s1,env.cells=fd.closure→dc T.bare (λb=>(∃o,s.heap.get? b=I o)∧b≠bP) (pG λb=>b=dd∨b=cT∨b=bP) s g1 s1→
   bQ T.bare (λb=>(∃o,s.heap.get? b=I o)∧b≠bP) ⟨T.bare.dx,n,fd.scope⟩ env (hu k text) (A.deeper env) g1 [] s1→
   ∀E,aU T.mo (A.deeper env) (execs body env) (λf s'=>R (.ok (.ret (match f with| .ret v=>v|_=> .none))) s') E s1):
  codeAny T.mo A (.call (.ref dv) ⟨[.int 1 t3],[]⟩) R s:=by
 have r: ∃o,s.heap.get? dd=I o:=J.imp λZ q=>q.1
 have t: ∃o,s.heap.get? cT=I o:=aa.imp λZ q=>q.1
 have l: ∃o,s.heap.get? bP=I o:=ay.imp λZ q=>q.1
 have O: ∀b,(b=dd∨b=cT∨b=bP)→(∃o,s.heap.get? b=I o)∧T.cp.get? b=none:=λb z=>z.elim (λz=>z▸⟨r,u⟩) λz=>z.elim (λz=>z▸⟨t,H⟩) λz=>z▸⟨l,L⟩
 have d:=hw.bare (λb=>b=dd∨b=cT∨b=bP) O
 have p: ∀b,(b=dd∨b=cT∨b=bP)→cL T.bare (pG λb=>b=dd∨b=cT∨b=bP) b:=λb z=>⟨z,λz=>z.elim (λh=>nomatch h) λ⟨a,m,_⟩=>nomatch m⟩
 refine aks (fd:=fd) (gP (gw _ _) b7.depth) y M D.dg D.bK d? mI ?_
 refine Kk D.f4 D.j! D.hn D.lM F.pX (by rw[D.a5];rfl) (by rw[D.a5];exact .cons (λZ h=>nomatch h) .nil) ?_
 rw[D.a5]
 refine wpAny_newFunctionEnv D.BZ (λx af=>by rw[ep.mp af];exact D.at.1) (λh' j P=> ?_) D.bp
 have c:dI s.heap h':=λb o e=>(P.2 b (hg (iA e))).trans (dE _ e)
 have st:bW T.bare (pG λb=>b=dd∨b=cT∨b=bP) s ((pG λb=>b=dd∨b=cT∨b=bP).news s.heap h') {s with heap:=h',toks:=s.toks+1}:= .news c (jD _)
 have C:aW T.bare ((pG λb=>b=dd∨b=cT∨b=bP).news s.heap h') [] {s with heap:=h',toks:=s.toks+1}:=d.news c (jD _)
 have i: ∀b,(b=dd∨b=cT∨b=bP)→cL T.bare ((pG λb=>b=dd∨b=cT∨b=bP).news s.heap h') b:=λb z=>(p b z).vW st d
 have dm: ∀{a v},s.heap.IsCell a v→h'.IsCell a v:=λq=>q.imp λo q=>⟨c _ _ q.1,q.2⟩
 exact ⟨T.nolimit.keeps λb o e=>c b o (hw.base b o e).1,codeAny_func (h _ _ _ rfl (st.bw d) (afs F D.bp (aft (t1:=t1) (t2:=t2) F D.bp rfl rfl F.oD F.pW (G.nX d (i? _) (j.choose_spec.choose_spec.choose_spec.1)) j rfl (dm J) (dm aa) (i dd (.inl rfl)) (i cT (.inr (.inl rfl))) (i bP (.inr (.inr rfl))) (ay.imp λo q=>⟨c _ _ q.1,q.2⟩)) C
  (Room.deeper (b7.less (show 20*n+20+1≤20*n+30 by simp+arith only))) rfl rfl (λz=>z.1.elim λo e=>nn ((i? _).symm.trans e)) (λz=>z.2 rfl) (dm aa) λb z=>z.1.imp (c b)) _)⟩
theorem afy (J:sc.names.lookup nV=I .local) (aa:sc.names.lookup fH=I .free) (ay:sc.names.lookup gc=I .free) (bH:text.length≤1048576):
  cw 20 ⟨dx,n,sc⟩ (readBody P) (hu k text) []=
   I (.ret (.str (hF text (I (k+1-1)) (I (k+1)))),hu (k+1) text,[]):=by
 have f: ∀k,x' ⟨dx,n,sc⟩ (hu k text) (ao "size")=I (.int 1):=λk=>by unfold x';rw[J];kernel_rfl
 have c: ∀k,tv ⟨dx,n,sc⟩ (hu k text) (ao "place")=I (.list [.int k]):=λk=>by unfold tv;rw[aa];kernel_rfl
 have d: ∀k,tv ⟨dx,n,sc⟩ (hu k text) (ao "text")=I (.str text):=λk=>by unfold tv;rw[ay];kernel_rfl
 have e:aA.own? sc (hu k text) (ao "place")=I [.int k]:=by unfold aA.own? held;rw[aa];kernel_rfl
 have g: ∀m p k w,ev (m+1) ⟨dx,n,sc⟩ (.Name (ao "size") p) (hu k text) w=I (.int 1,w):=λm p k w=>eO (f k) rfl
 have o: ∀m p k w,dN (m+1) ⟨dx,n,sc⟩ (.Name (ao "place") p) (hu k text) w=I (.list [.int k],w):=λm p k w=>eO (c k) rfl
 have b: ∀m p k w,dN (m+1) ⟨dx,n,sc⟩ (.Name (ao "text") p) (hu k text) w=I (.str text,w):=λm p k w=>eO (d k) rfl
 have h: ∀m p q r,ev (m+3) ⟨dx,n,sc⟩ (.Subscript (.Name (ao "place") p) (.Constant (.int 0) 0 q) r) (hu (k+1) text) []=I (.int (k+1),[]):=λm p q r=>eO (o _ p (k+1) _) aY
 have i:ex 19 ⟨dx,n,sc⟩ (.AugAssign (.Subscript (.Name (ao "place") (P 0)) (.Constant (.int 0) 0 (P 1)) (P 2)) .Add (.Name (ao "size") (P 3)) (P 4)) (hu k text) []=I (.next,hu (k+1) text,[]):=eO (g _ (P 3) k _) (eO e aY)
 have l:(if (ah:Option Int)=ah∧text.length≤1048576 then I (U.str (hF text (I (k+1-1)) (I (k+1)))) else ah)=I (.str (hF text (I (k+1-1)) (I (k+1)))):=a_ ⟨rfl,bH⟩
 have j:ex 18 ⟨dx,n,sc⟩ (.Return (I (.Subscript (.Name (ao "text") (P 5)) (.Slice (I (.BinOp (.Subscript (.Name (ao "place") (P 6)) (.Constant (.int 0) 0 (P 7)) (P 8)) .Sub (.Name (ao "size") (P 9)) (P 10)))
   (I (.Subscript (.Name (ao "place") (P 11)) (.Constant (.int 0) 0 (P 12)) (P 13))) ah (P 14)) (P 15))) (P 16)) (hu (k+1) text) []=I (.ret (.str (hF text (I (k+1-1)) (I (k+1)))),hu (k+1) text,[]):=
  eO (eO (b _ (P 5) (k+1) _) (eO (eO (h _ (P 6) (P 7) (P 8)) (eO (g _ (P 9) (k+1) _) rfl)) (eO (h _ (P 11) (P 12) (P 13)) (eO (a:=(U.none,([]:W))) rfl (eO l rfl))))) aY
 exact eO i (eO j rfl)
section
variable {s:aH}
theorem kW.O6 {P:Prop} (i:kW g h (.ret p) fl) (k: ∀v,fl= .ret v→Is g.B g.aD h p v→P):P:=match i with
 | .ret i=>k _ rfl i
theorem IsL.one {B:aP→Prop} {G:Prop} (i:IsL B aD h [p] vs) (k: ∀v,vs=[v]→Is B aD h p v→G):G:=
 fU i.hy λv vs ev a r=>k v (ev.trans (aQ _ r.jd)) a
theorem Is.Qz (x:Is B aD h (.raw u) v):v=u:=by cases x;rfl
theorem UZ (c:h.IsCell a v) (q:dk h a l):False:=by
 obtain ⟨o,e,c⟩:=c
 obtain ⟨d,b,_,_,q⟩:=q
 rw[←inj (e.symm.trans b)] at q
 exact nomatch c.symm.trans (aQ pk q)
theorem UY {h:bU} (x:h.IsCell a (I (.ref b))) (y:h.IsCell a (I (.ref c))):b=c:=by
 obtain ⟨o,e,x⟩:=x
 obtain ⟨f,d,y⟩:=y
 rw[←inj (e.symm.trans d)] at y
 injection x.symm.trans y with q
 injection inj q
theorem afv {K:aP→Prop} (F:lG fd dd cT) (D:qS fd.params body fd.scope) (l:env.cells=fd.closure) (i:env.scope=fd.scope) (f:bQ T K ⟨T.dx,n,fd.scope⟩ env (hu k text) A g w s')
  (c:s.heap.IsCell cT (I (.ref bP))) (b: ∀o,s.heap.get? cT=I o→s'.heap.get? cT=I o): ∃t,dk s'.heap bP #[.int k t]:=
 cM (f.fr.nm fH _ D.at.2.1 ar) λv nv jZ=>iZ (O2▸jZ:gA T g s'.heap (.own [.int k]) v) λa vs e p cc aX=>by
  obtain rfl:bP=a:=nv.elim (λz=>nomatch inj (((aQ (λs:Scope=>s.names.lookup fH) i).trans D.at.2.1).symm.trans z.1)) λz=>fe z.2 λm ag j Z=>by
   rw[l,F.at.2] at ag
   exact UY (c.imp λo q=>⟨b o q.1,q.2⟩) (inj ag▸e▸j)
  exact aX.one λv ev d=>gj d.md λt h=>⟨t,by rw[ev,h] at cc;exact cc⟩
theorem afw {R:r9→aH→Prop} (i:s.heap.get? dv=I o) (y:o.data= .func fd) (F:lG fd dd cT) (mI:s.heap.CodeRec fd.code fd.qualname)
  (hw:aW T g w s) (b7:Room 30 A) (J:s.heap.IsCell dd (I (.str text t1))) (aa:s.heap.IsCell cT (I (.ref bP))) (ay:dk s.heap bP #[.int k t2]) (f:T.cp.get? dd=ah) (j:T.cp.get? cT=ah) (l:T.cp.get? bP=ah)
  (bH:text.length≤1048576)
  (h: ∀s' d,(∀b o,b≠bP→s.heap.get? b=I o→s'.heap.get? b=I o)→(∀b o,s.heap.get? b=I o→ ∃r,s'.heap.get? b=I r)→(∃x,dk s'.heap bP #[.int (k+1) x])→s'.gens=s.gens→s'.os=s.os→s.toks≤s'.toks→
   R (.ok (.ret (.str (hF text (I (k+1-1)) (I (k+1))) d))) s'):
  codeAny T.mo A (.call (.ref dv) ⟨[.int 1 t3],[]⟩) R s:=by
 refine cM F.pv λbody d? D=> ?_
 refine afu (n:=0) F i y d? D mI hw b7 J aa ay f j l λenv g1 s1 C t c0 E=> ?_
 have run: ∃q,cw 20 ⟨T.bare.dx,0,fd.scope⟩ body (hu k text) []=I q∧q=(.ret (.str (hF text (I (k+1-1)) (I (k+1)))),hu (k+1) text,[]):=by
  exact D.fZ.elim λP e=>e▸⟨_,afy D.at.1 D.at.2.1 D.at.2.2 bH,rfl⟩
 obtain ⟨_,run,rfl⟩:=run
 refine ((TY T 20).2 20 (bh _)).cw run c0 E _ λH s2 fl t2 f2 u=> ?_
 have c:=t.trans t2
 refine u.O6 λv e p=>gj p.h9 λd ev=> ?_
 exact e▸ev▸(h s2 d (λb o ae e=>c.old b o ⟨⟨o,e⟩,ae⟩ e λz=>z.elim (λh=>nomatch h) λ⟨a,m,_⟩=>nomatch m) c.ex (afv F D C c0.sc f2 aa λo e=>c.old cT o ⟨⟨o,e⟩,λz=>UZ aa (z▸ay)⟩ e λz=>z.elim (λh=>nomatch h) λ⟨a,m,_⟩=>nomatch m) c.gens c.os c.aG)
end
theorem Fm:typeLookup (.type "function") (ao "__getattribute__")=pure (I (.builtin "object.__getattribute__")):=by rw[r1,r2];kernel_rfl
theorem Ys:typeLookup (.type "function") (ao "__getattr__")=pure none:=by rw[r1,r2];kernel_rfl
theorem Fn:typeLookup (.type "function") (ao "read")=pure none:=by rw[r1,r2];kernel_rfl
theorem LH:_root_.PySem.Slot "function" (ao "__getattribute__") "object.__getattribute__":=
 .of (owner:="object") (n:="__getattribute__") Fm bx bx bx
  (by first|exact .inl bx|exact .inr bx) (by rw[wh];kernel_rfl)
structure uw (h:bU) (f sd:aP) (m:Str→Option az):Prop where
 obj: ∃o fd,h.get? f=I o∧o.cls= .type "function"∧o.data= .func fd∧o.dict=I sd
 ns:h.Ns sd m
theorem Yr (D:uw h f sd m) (aN:m (ao "read")=I v):Looks M h (amD (.ref f) (.type "function") (ao "read")) (.value v):=by
 obtain ⟨o,fd,a,ag,hd,b⟩:=D.obj
 obtain ⟨c,od,d,os⟩:=o
 subst ag hd b
 intro A Q E s k q
 refine aw (ua Fn (aw (bj (aw (bj ?_)))))
 refine aw (aw (aw (wo (k _ _ a) ?_)))
 refine aw (wo (k _ _ a) ?_)
 refine bj ?_
 refine wpAny_nsGet (D.ns.keeps k) ?_
 exact aN▸(aw (lx (bj q)))
theorem LI (D:uw h f sd m):Looks M h (typeOf (.ref f)) (.type "function"):=by
 obtain ⟨o,fd,a⟩:=D.obj
 have b:=a.1
 have ag:=a.2.1
 exact ag▸(Looks.ld b).andThen .now
theorem Yp (D:uw s.heap f sd m) (aN:m (ao "read")=I v) (cC:handedIn v=ab) (h:Q v {s with toks:=s.toks+1}):aU (cU prog w) A (getAttr (.ref f) (ao "read") expr) Q E s:=by
 obtain ⟨aC,g,d,t,os⟩:=s
 have gy:=LI (M:=cU prog w) D
 have fy:Looks (cU prog w) aC (typeLookup (.type "function") (ao "__getattribute__")) _:=Jh Fm
 refine aw (Jg (fK (aw (gy.at (aw (fy.at ?_))))))
 dsimp only
 rw[a3 bx]
 refine aw (bj (a:=ah) (aw ?_))
 refine Dv (fK ?_)
 have el:(expr&&onTheHeap (Value.builtin "object.__getattribute__"))=false:=by induction expr using d1<;>rfl
 unfold callGetattribute
 rw[a3 (by rw[el];decide)]
 unfold boundAndCalled
 rw[LH.bind]
 refine aw (bj ?_)
 have bZ: ∀aG,(⟨aC,g,d,aG,os⟩:aH).TypeIs (.ref f) "function":=λaG=>by obtain ⟨o,fd,b,ag,_⟩:=D.obj;exact ⟨o,b,ag⟩
 refine r3 LH (bZ _) F.entry_object_getattribute ?_ (F.args_object_getattribute_2 _ _)
 refine aw (bj (aw (bj (aw (gy.at (aw ((Yr D aN).at ?_)))))))
 refine bj ⟨v,rfl,?_⟩
 show aU _ _ (handedOut v) _ _ _
 rw[handedOut_of cC];exact bj h
theorem Yt (D:uw s.heap f sd m) (aN:m (ao "read")=I v) (cC:handedIn v=ab) (h:Q (v,[]) {s with toks:=s.toks+1}):aU (cU prog w) A (getMethod (.ref f) (ao "read") bP) Q E s:=by
 obtain ⟨aC,g,d,t,os⟩:=s
 have gy:=LI (M:=cU prog w) D
 have a:=PySem.F.canon_object_ga
 refine aw (aw (gy.at ((Jh (M:=cU prog w) (h:=aC) Fm).at ?_)))
 dsimp only
 rw[a,a3 ar]
 refine aw (aw (gy.at ((Jh (M:=cU prog w) (h:=aC) Ys).at ?_)))
 refine aw (aw (gy.at ((Jh (M:=cU prog w) (h:=aC) Fn).at ?_)))
 exact aw (Yp D aN cC (bj h))
noncomputable def cA.plain (T:cA):cA:={T with
 dx:={T.dx with lex:=aq}
 fns:=T.fns
 consts:=T.consts}
theorem oZ (T:cA): ∀n,(∀m,m≤n→da T.plain m)∧(∀m,m≤n→kY T.plain m):=H' λh=>by exact bF h cv
theorem bW.gN (t:bW T g s g' s'):bW T.plain g s g' s':=⟨t.keep,t.ex,t.hD,t.iI,t.eJ,t.ej,t.gens,t.os,t.aG⟩
theorem bW.ee (t:bW T.plain g s g' s'):bW T g s g' s':=⟨t.keep,t.ex,t.hD,t.iI,t.eJ,t.ej,t.gens,t.os,t.aG⟩
theorem aW.gN (d:aW T g w s):aW T.plain g w s:=⟨d.aG,d.base,d.ex,d.dG,d.tab,d.len,d.c3,d.fT,d.fz⟩
theorem aW.ee (d:aW T.plain g w s):aW T g w s:=⟨d.aG,d.base,d.ex,d.dG,d.tab,d.len,d.c3,d.fT,d.fz⟩
theorem aS.ee (h:aS T.plain A t g s P):aS T A t g s P:=
 λE Q q=>h E Q λg' s' a x y=>q g' s' a x.ee y
theorem aS.gN (h:aS T A t g s P):aS T.plain A t g s P:=
 λE Q q=>h E Q λg' s' a x y=>q g' s' a x.gN y
noncomputable def kV (B:aP→Prop) (h:bU) (q:Str) (v:az):Prop:= ∃c o vs t,v= .ref c∧h.get? c=I o∧o.data= .fields vs∧vs[1]?=I (.str q t)∧ ¬B c
theorem kV.bJ (x:kV B h q v) (k:cS B h B' h'):kV B' h' q v:=
 x.imp λc x=>x.imp λo x=>x.imp λvs x=>x.imp λt r=>⟨r.1,(k _ _ r.2.1 r.2.2.2.2).1,r.2.2.1,r.2.2.2.1,(k _ _ r.2.1 r.2.2.2.2).2⟩
theorem kV.afC (x:kV B h q v):h.CodeRec v q:=x.imp λc x=>x.imp λo x=>x.imp λvs x=>x.imp λt r=>⟨r.1,r.2.1,r.2.2.1,r.2.2.2.1⟩
structure Ec where
 bp:Tok
 bK:Tok
 dg:Tok
 ey:Tok
 t:Tok
 eA:Tok
 t1:Tok
 t2:Tok
 src:aP
 sd:aP
 dv:aP
 dd:aP
 cT:aP
 m:Str→Option az
 fd:hR
 k:Nat
 text:Str
 kJ:List (Str×Tok)
structure iX (P:iE) (C:aP) (cp:bU) (B:aP→Prop) (h:bU) (a:ih) (x:cQ) (d:Ec):Prop where
 inst:h.get? a.x=I (instObj C a.dx)
 AE: ¬B a.x
 dict:h.get? a.dx=I (hK P d.bp d.bK d.dg d.ey (.int x.line d.t) (.ref d.src) (.str (ao "\n\t\r ") d.eA) (.ref a.ck))
 src:uw h d.src d.sd d.m
 AD: ¬B d.src
 AB: ¬B d.sd
 dv:d.m (ao "read")=I (.ref d.dv)
 fn: ∃o,h.get? d.dv=I o∧o.cls= .type "function"∧o.data= .func d.fd
 AA: ¬B d.dv
 F:lG d.fd d.dd d.cT
 code:kV B h d.fd.qualname d.fd.code
 dd:h.IsCell d.dd (I (.str d.text d.t1))
 Av: ¬B d.dd
 AJ:cp.get? d.dd=ah
 cT:h.IsCell d.cT (I (.ref a.bP))
 Au: ¬B d.cT
 AI:cp.get? d.cT=ah
 AM:cp.get? a.bP=ah
 bP:dk h a.bP #[.int d.k d.t2]
 ck:dk h a.ck (strValues d.kJ).toArray
 push:d.kJ.map (·.1)=x.push
 tF:x.push.length≤1048576
 rem:d.text.cps.toList.drop d.k=x.rem
 len:d.text.length≤1048576
 ok:fE d.text=ab
theorem iX.upd {B B':aP→Prop} {k:Nat} {kJ:List (Str×Tok)} (l:iX P C cp B h a x d) (f:cS B h B' h')
  (hd:h'.get? a.dx=I (hK P bp bK dg ey (.int y.line t) (.ref d.src) (.str (ao "\n\t\r ") eA) (.ref a.ck))) (b:dk h' a.bP #[.int k t2]) (ae:dk h' a.ck (strValues kJ).toArray) (aC:kJ.map (·.1)=y.push) (e6:y.push.length≤1048576) (b8:d.text.cps.toList.drop k=y.rem):
  iX P C cp B' h' a y ⟨bp,bK,dg,ey,t,eA,d.t1,t2,d.src,d.sd,d.dv,d.dd,d.cT,d.m,d.fd,k,d.text,kJ⟩ where
 inst:=(f _ _ l.inst l.AE).1
 AE:=(f _ _ l.inst l.AE).2
 dict:=hd
 src:=⟨l.src.1.imp λo q=>q.imp λfd r=>⟨(f _ _ r.1 l.AD).1,r.2⟩,l.src.2.imp λo q=>q.imp λes q=>q.imp λc r=>⟨(f _ _ r.1 l.AB).1,r.2⟩⟩
 AD:=hG l.src.1 λo fd r=>(f _ _ r.1 l.AD).2
 AB:=K7 l.src.2 λo es c r=>(f _ _ r.1 l.AB).2
 dv:=l.dv
 fn:=l.fn.imp λo q=>⟨(f _ _ q.1 l.AA).1,q.2⟩
 AA:=l.fn.elim λo q=>(f _ _ q.1 l.AA).2
 F:=l.F
 code:=l.code.bJ f
 dd:=l.dd.imp λo q=>⟨(f _ _ q.1 l.Av).1,q.2⟩
 Av:=l.dd.elim λo q=>(f _ _ q.1 l.Av).2
 AJ:=l.AJ
 cT:=l.cT.imp λo q=>⟨(f _ _ q.1 l.Au).1,q.2⟩
 Au:=l.cT.elim λo q=>(f _ _ q.1 l.Au).2
 AI:=l.AI
 AM:=l.AM
 bP:=b
 ck:=ae
 push:=aC
 tF:=e6
 rem:=b8
 len:=l.len
 ok:=l.ok
theorem aav (h:Data.seq #[.int k t] n=Data.seq (strValues l).toArray a):False:=by
 injection h with J
 have aa:[Value.int k t]=strValues l:=aQ Array.toList J
 induction l using cj with
 |nil=>cases aa
 |cons p l=>injection aa with ay;cases ay
theorem iX.ne (l:iX P C cp B h a x d):a.dx≠a.bP∧a.dx≠a.ck∧a.ck≠a.bP:=
 ⟨λz=>(qj (z▸l.dict) l.bP).elim λn (e:Data.dict _ _=_)=>akJ e,λz=>(qj (z▸l.dict) l.ck).elim λn (e:Data.dict _ _=_)=>akJ e,λz=>l.bP.elim λo q=>(qj q.1 l.bP).elim λn e=>(qj (z▸q.1) l.ck).elim λc b=>aav (e.symm.trans b)⟩
theorem iX.O5 (l:iX P C cp B h a x d): ∀c∈x.rem,c<0x110000:=λc ag=>by
 have:=l.ok
 unfold fE at this
 rw[Se] at this
 rw[←l.rem] at ag
 simpa using this c (by simpa using List.mem_of_mem_drop ag)
noncomputable def vl (P:iE) (C:aP) (cp:bU) (B:aP→Prop) (h:bU) (a:ih) (x:cQ):Prop:= ∃d,iX P C cp B h a x d
theorem acD (l:vl P C cp B h a x) (k:cS B h B' h') (c: ∀b o,(b=a.dx∨b=a.bP∨b=a.ck)→h.get? b=I o→h'.get? b=I o):vl P C cp B' h' a x:=
 l.imp λd l=>l.upd k (c _ _ (.inl rfl) l.dict) (l.bP.imp λo q=>⟨c _ _ (.inr (.inl rfl)) q.1,q.2⟩) (l.ck.imp λo q=>⟨c _ _ (.inr (.inr rfl)) q.1,q.2⟩) l.push l.tF l.rem
theorem BD (d:aW T g w s) (aJ:g.aD[i]?=I a) (k: ∀b o,b≠a.dx→b≠a.bP→b≠a.ck→s.heap.get? b=I o→s'.heap.get? b=I o) (ex: ∀b o,s.heap.get? b=I o→ ∃t,s'.heap.get? b=I t)
  (new:T.sa g.B s'.heap a x) (gens:s'.gens=s.gens) (os:s'.os=s.os) (aG:s.toks≤s'.toks):bW T g s g s'∧aW T g (w.set i x) s':=by
 have hm:a∈g.aD:=ia aJ
 have c: ∀b,(b=a.dx∨b=a.bP∨b=a.ck)→et T.dZ g.aD b:=λb z=> .inr ⟨a,hm,z⟩
 have bJ:cS g.B s.heap g.B s'.heap:=λb o e n=>⟨k b o (λz=>n (d.dG b (c b (.inl z)))) (λz=>n (d.dG b (c b (.inr (.inl z))))) (λz=>n (d.dG b (c b (.inr (.inr z))))) e,n⟩
 have r:=d.fz a hm
 have v:i<w.length:=by rw[←d.len];exact (hh.mp aJ).1
 refine ⟨⟨λb o e n=>k b o (λz=>n (c b (.inl z))) (λz=>n (c b (.inr (.inl z)))) (λz=>n (c b (.inr (.inr z)))) e,ex,λZ z=>z,λZ z=> .inl z,⟨[],(e0 _).symm⟩,λZ z=> .inl z,gens,os,aG⟩,?_⟩
 exact {
  aG:=jf d.aG aG
  base:=λb o e=>⟨(bJ b o (d.base b o e).1 (d.base b o e).2).1,(d.base b o e).2⟩
  ex:=λb z=>(d.ex b z).elim (ex b)
  dG:=d.dG
  tab:=T.m2 d.tab bJ λb o z e=>k b o (λq=>r.1 (q▸z)) (λq=>r.2.1 (q▸z)) (λq=>r.2.2 (q▸z)) e
  len:=by rw[List.length_set];exact d.len
  c3:=λj h u l f=>by
   rw[akK] at f
   by_cases m:i=j
   ·rw[a_ m,a_ v] at f
    rw[←m,aJ] at l
    exact (inj l)▸(inj f)▸new
   ·rw[a3 m] at f
    have p: ∀b,(b=a.dx∨b=a.bP∨b=a.ck)→ ¬(b=h.dx∨b=h.bP∨b=h.ck):=λb q z=>
     have n:=d.fT i j a h m aJ l b q
     z.elim n.1 λz=>z.elim n.2.1 n.2.2
    exact T.k! (d.c3 j h u l f) bJ λb o z e=>k b o (λq=>p b (.inl q) z) (λq=>p b (.inr (.inl q)) z) (λq=>p b (.inr (.inr q)) z) e
  fT:=d.fT
  fz:=d.fz}
structure gz where
 C:aP
 gk:aP
 q4:aP
 jQ:aP
 sD:aP
 pV:aP
 cI:aP
 tab:aP
 l6:Pos
 gL:Pos
 HM:Str
 HL:Str
noncomputable def gz.at_ (L:gz) (b:Bool):Pos:=if b then L.l6 else L.gL
noncomputable def gz.qual (L:gz) (b:Bool):Str:=if b then L.HM else L.HL
noncomputable def gz.ent (L:gz) (e:Bool×az):List az:=[rawInt (L.at_ e.1).line,rawInt (L.at_ e.1).col,e.2]
def CL (L:gz) (B:aP→Prop) (h:bU):Prop:= ∃l:List (Bool×az),h.get? L.tab=I (tabObj (l.flatMap L.ent).toArray)∧ ∀e∈l,kV B h (L.qual e.1) e.2
theorem ah6 (x:CL L B h) (k:cS B h B' h') (a: ∀b o,I L.tab=I b→h.get? b=I o→h'.get? b=I o):CL L B' h':=
 x.imp λl q=>⟨a _ _ rfl q.1,λe he=>(q.2 e he).bJ k⟩
structure eg (T:cA) (L:gz):Prop where
 u2:findIn T.K (.ref L.C) "__getattribute__"=I (I (.builtin "object.__getattribute__"))
 xE:findIn T.K (.ref L.C) "__getattr__"=I ah
 Gm:findIn T.K (.ref L.C) "__setattr__"=I (I (.builtin "object.__setattr__"))
 aC:plainOver T.K L.C=ab
 cC:(clsIn T.K L.C).any (·.hasDict)=ab
 ka:findIn T.K (.ref L.C) (ao "_read_char")=I (I (.ref L.gk))
 bZ:findIn T.K (.ref L.C) (ao "get_token")=I (I (.ref L.q4))
 Ih:typeIn T.K (.ref L.gk)=I (.type "function")
 PU:typeIn T.K (.ref L.q4)=I (.type "function")
 L?:findIn T.K (.ref L.C) (ao "push_token")=I (I (.ref L.pV))
 PT:typeIn T.K (.ref L.pV)=I (.type "function")
 mF:specialIn T.K (.ref L.gk) "__get__"=I (I (.builtin "function.__get__"))
 ri:takesIn T.K (.ref L.gk)=I aq
 aI:T.eh (ao "iter")=ah
 gb:T.eh (ao "_netrclex")=I (.ref L.C)
 dA:T.eh (ao "_law_stream")=I (.ref L.sD)
 MC:makesIn T.K L.C=ab
 Ms:keepIn T.K (.ref L.C)=ab
 eG:findIn T.K (.ref L.C) "__init__"=I (I (.ref L.jQ))
 PR:typeIn T.K (.ref L.jQ)=I (.type "function")
 cP:findIn T.K (.ref L.C) (ao "lineno")=I ah
 d4:findIn T.K (.ref L.C) (ao "instream")=I ah
 vo:findIn T.K (.ref L.C) (ao "whitespace")=I ah
 oV:findIn T.K (.ref L.C) (ao "pushback")=I ah
 s1:takerIn T.K L.C (ao "lineno")=I ah
 s2:takerIn T.K L.C (ao "instream")=I ah
 s3:takerIn T.K L.C (ao "whitespace")=I ah
 s4:takerIn T.K L.C (ao "pushback")=I ah
 tab:T.sf=CL L
 tV:T.dZ=I L.tab
 FP:CodeHd T.cp L.cI L.tab
 Mg:T.cp.BuiltinsAt T.eh L.tab
 el:((L.l6.line:Int)==(L.gL.line:Int)&&(L.l6.col:Int)==(L.gL.col:Int))=aq
 c3:T.sa=vl T.w.params L.C T.cp
section
variable {T:cA} {a:ih} {i:Nat}
theorem aW.jr (d:aW T g w s):T.K.In s.heap:=T.fc.keeps λb o e=>(d.base b o e).1
theorem eg.at_ (a4:eg T L) (d:aW T g w s) (aJ:g.aD[i]?=I a) (af:w[i]?=I x): ∃ld,iX T.w.params L.C T.cp g.B s.heap a x ld:=by
 have:=d.c3 i a x aJ af
 rw[a4.c3] at this;exact this
theorem iX.instAt (l:iX P C cp B h a x d):InstAt h a.x (instObj C a.dx) C (I (hK P d.bp d.bK d.dg d.ey (.int x.line d.t) (.ref d.src) (.str (ao "\n\t\r ") d.eA) (.ref a.ck))):=
 ⟨l.inst,rfl,rfl,l.dict⟩
theorem eg.find (a4:eg T L) {name:Str} {od:Obj} {v:az} (a5:findIn T.K (.ref L.C) name=I ah) (c:lookIn name od=I (I v)):findObj T.K L.C (I od) name=I (.value v):=by
 obtain ⟨cd,b⟩:=any_some a4.cC
 have ag:=b.1
 have hd:=b.2
 exact Ye ag hd a5 c
theorem G5 (a4:eg T L) (d:aW T g w s) (ak:InstAt s.heap a.x (instObj L.C a.dx) L.C (I od)) (a5:findIn T.K (.ref L.C) name=I ah)
  (b:lookIn name od=I (I v)) (aN:handedIn v=ab) (h:Q v {s with toks:=s.toks+1}):aU T.mo A (getAttr (.ref a.x) name expr) Q E s:=
 get_value d.jr ak a4.u2 (a4.find a5 b) aN h
theorem x2 {E:az→aH→Prop} {Q:az→aH→Prop} (a4:eg T L) (ae:baseOk o=ab) (a5:findIn T.K (.ref L.C) name=I ah) (f:lookIn name od=I (I v)) (aN:handedIn v=ab)
  (h:aU T.mo A (eval o env) (λc b=> ∃g w,aW T g w b∧c= .ref a.x∧InstAt b.heap a.x (instObj L.C a.dx) L.C (I od)∧Q v {b with toks:=b.toks+1}) E s):
  aU T.mo A (eval (.Attribute o name ap) env) Q E s:=by
 rw[Sf,pH ae]
 refine aw (hQ h (λc b j=> ?_) λZ Z e=>e)
 obtain ⟨g,w,d,rfl,ak,q⟩:=j
 refine aw (fF (aw (fK ?_)))
 exact G5 a4 d ak a5 f aN (aw (Sg (bj q)))
theorem z2 (ae:baseOk o=ab) (f:(ap.endLine==pos.line)=ab) (a5:as.length<20) (aC:(backTo pos (starEach as env)).any (·.1)=aq)
  (h:aU T.mo A (eval o env) (λc b=> ∀bP,aU T.mo A (getMethod c name bP) (λr bf=>aU T.mo A (callWith pos r.1 r.2 (backTo pos (starEach as env)) []) Q E bf) E b) E s):
  aU T.mo A (eval (.Call (.Attribute o name ap) as [] pos) env) Q E s:=by
 rw[arm_eval_Call,pH ae]
 refine aw (hQ h (λc b j=> ?_) λZ Z e=>e)
 refine aw (fF ?_)
 have d:methodCallForm (as.length+([]:List rU).length) (backTo pos (starEach as env)) (backToKw pos (keywordEach [] env))=true:=uT a5 aC
 have k:methodCallPos ab o env ap pos=pure pos:=by unfold methodCallPos;exact a_ f
 unfold methodCall
 rw[d]
 refine aw (fK ?_)
 exact hQ (j _) (λr bf g=>aw (ua k g)) λZ Z e=>e
end
theorem z5 (a n:Nat):max (0:Int) (min (if (a:Int)<0 then (a:Int)+n else a) n)=((min a n:Nat):Int):=by
 rw[a3 (uo.mpr (og a))]
 exact (Int.max_eq_right (Int.le_min.mpr ⟨og a,og n⟩)).trans (Lean.Omega.Int.ofNat_min a n).symm
theorem afn (p q:Nat):sliceRange p q 1=(eB (q-p)).map (p+·):=by
 have ag:(if (p:Int)<q then ((q:Int)-p+1-1)/1 else 0).toNat=q-p:=by
  rw[Int.ediv_one]
  by_cases h:(p:Int)<q
  ·rw[a_ h,DG];exact y! q p
  ·rw[a3 h];exact (Sh (j5.mp (uo.mp h))).symm
 exact (aQ (λk=>(eB k).map λk:Nat=>((p:Int)+1*k).toNat) ag).trans (akM λk Z=>by rw[Int.one_mul];rfl)
open PySem.Builtin.Str in
theorem aaf (a b n:Nat):strSliceIndices (I (a:Int)) (I (b:Int)) 1 n=(eB (min b n-min a n)).map (min a n+·):=
 (congr (aQ (λp q=>sliceRange p q 1) (z5 a n)) (z5 b n)).trans (afn _ _)
theorem V? (l:List Nat) (a b:Nat):(l.drop (min a l.length)).take (min b l.length-min a l.length)=(l.drop a).take (b-a):=by
 by_cases h:a≤l.length
 ·rw[DH h,List.take_eq_take_iff,pf,←Nat.sub_min_sub_right,Nat.min_assoc,Si]
 ·rw[ze (show l.length≤a by exact iS (vu h)),akN,wq (by exact iS (vu h)),JD,JD]
theorem EX (x:Str) (a b:Nat):(hF x (I (a:Int)) (I (b:Int))).cps.toList=(x.cps.toList.drop a).take (b-a):=by
 rw[←V?]
 show (if (1==(1:Int)&&_==_)=ab then x else (⟨(List.filterMap _ _).toArray⟩:Str)).cps.toList=_
 rw[aaf,df,jE]
 change _=List.take (min b x.length-min a x.length) (Rx (min a x.length) _)
 have c:x.length=x.cps.toList.length:=rfl
 have ae:min b x.length≤x.length:=DI _ _
 generalize min a x.length=p at*
 generalize min b x.length=q at*
 have key:p≤q→((eB (q-p)).map (p+·)).filterMap (x.cps.toList[·]?)=(x.cps.toList.drop p).take (q-p):=λh=>PySem.StrLaws.picks _ _ _ (by exact bE (cc (cc (dH c) ae) (o4 (show p≤q from bE h))))
 split
 ·rename_i h
  have h:q-p=x.length:=dp h
  rw[rV (by rw[pf,h];exact rW _ _)]
  by_cases h0:x.length=0
  ·rw[Dt.mp (c.symm.trans h0),JC]
  ·have d:p≤q:=iS (Nat.lt_of_sub_ne_zero (h▸h0))
   rw[show p=0 from za.mp (bE (cc (cc (o4 d) ae) (eq1 h))),Dk]
 ·by_cases h:p≤q
  ·simpa using key h
  ·rw[Sh (r5 h)]
   rfl
noncomputable def cQ.take (x:cQ):cQ:={x with rem:=x.rem.tail}
noncomputable def d7 (c:Option Nat):Str:=⟨c.toList.toArray⟩
theorem Is.vx (k:Is B aD h (.obj i) v): ∃a,aD[i]?=I a∧v= .ref a.x:=by
 cases k with
 |obj e=>exact ⟨_,e,rfl⟩
theorem ahl {ld:Ec} {t3:Tok} (a4:eg T L) (d:aW T g w s) (aJ:g.aD[i]?=I a) (af:w[i]?=I x) (l:iX T.w.params L.C T.cp g.B s.heap a x ld) (b7:Room 30 A):
  aS T A (call (.ref ld.dv) [.int 1 t3] []) g s (Res T (w.set i x.take) (.str (d7 x.rem.head?))):=by
 intro E Q q
 refine D2 (fe l.fn λo p Z r=>afw p r l.F l.code.afC d b7 l.dd l.cT l.bP l.AJ l.AI l.AM l.len λs' t c ex l2 gens os aG=>l2.elim λu l2=> ?_)
 have bJ:cS g.B s.heap g.B s'.heap:=λb o e n=>⟨c b o (λz=>n (z▸d.dG _ (.inr ⟨a,ia aJ,.inr (.inl rfl)⟩))) e,n⟩
 have new:=l.upd (y:=x.take) (k:=ld.k+1) bJ (c _ _ l.ne.1 l.dict) (by rw[mu];exact l2) (l.ck.imp λo q=>⟨c _ _ l.ne.2.2 q.1,q.2⟩) l.push l.tF (by
  show ld.text.cps.toList.drop (ld.k+1)=x.rem.tail
  rw[←l.rem,List.tail_drop])
 have f:=BD (s':=s') (x:=x.take) d aJ (λb o Z aa Z e=>c b o aa e) ex (by rw[a4.c3];exact ⟨_,new⟩) gens os aG
 have st:=f.1
 have j:=f.2
 have au:hF ld.text (I ((ld.k:Int)+1-1)) (I ((ld.k:Int)+1))=d7 x.rem.head?:=by
  have h:=EX ld.text ld.k (ld.k+1)
  rw[show ((ld.k:Int)+1-1)=(ld.k:Int) by exact DG _ _,show ((ld.k:Int)+1)=((ld.k+1:Nat):Int) by exact Int.ofNat_add_one_out _]
  rw[show ld.k+1-ld.k=1 by exact akO _ _,l.rem] at h
  have m:x.rem.take 1=x.rem.head?.toList:=by cases x.rem<;>rfl
  rw[m] at h
  unfold d7
  generalize hF ld.text _ _=z at h⊢
  obtain ⟨z⟩:=z
  dsimp only at h
  rw[←h]
 exact au▸(q g s' _ st ⟨j,.str _ _⟩)
theorem afA (a4:eg T L) (C:cO T.plain cx env σ A g w s) (au:held cx.sc (ao "self")=ab) (aN:σ.get (ao "self")= .val (.obj i)) (af:w[i]?=I x) (p:(p3.endLine==pos.line)=ab) (hd:1≤cx.d):
  aS T.plain A (eval (.Call (.Attribute (.Attribute (.Name (ao "self") p1) (ao "instream") p2) (ao "read") p3) [.Constant (.int 1) 0 O] [] pos) env) g s (Res T.plain (w.set i x.take) (.str (d7 x.rem.head?))):=by
 intro E Q q
 obtain ⟨k,f⟩:=lS au
 have av:=f.1
 have y:=f.2
 obtain ⟨u,H,m⟩:=C.fr.nm _ k av y
 rw[aN] at m
 obtain ⟨u,rfl,J⟩:=m
 obtain ⟨a,aJ,rfl⟩:=J.vx
 obtain ⟨ld,l⟩:=a4.at_ C.wd.ee aJ af
 refine z2 (T:=T) rfl p (show 1<20 from by decide) (by rfl) ?_
 refine x2 (T:=T) (a:=a) (v:= .ref ld.src) (od:=hK T.w.params ld.bp ld.bK ld.dg ld.ey (.int x.line ld.t) (.ref ld.src) (.str (ao "\n\t\r ") ld.eA) (.ref a.ck)) a4 rfl a4.d4 acx rfl ?_
 refine nameP (T:=T.plain) C.fr av H ⟨g,w,C.wd.ee,rfl,l.instAt,λbP=> ?_⟩
 refine Yt l.src l.dv rfl ?_
 obtain ⟨s1,c⟩: ∃s1:aH,s1={s with toks:=s.toks+1+1+1}:=⟨_,rfl⟩
 have t1:bW T.plain g s g s1:=c▸ .grow (h':=s.heap) (t:=s.toks+1+1+1) (dr:=s.drawn) (λb o e=>e) (by simp+arith only)
 have D:aW T.plain g w s1:=c▸C.wd.grow (λb o e=>e) (by show s.toks≤s.toks+1+1+1;simp+arith only)
 have c1:iX T.w.params L.C T.cp g.B s1.heap a x ld:=by rw[c];exact l
 have j: ∀{h:bU},(∃o,h.get? ld.dv=I o∧o.cls= .type "function"∧o.data= .func ld.fd)→FnAt ld.dv h:=λ{h} z=>by
  obtain ⟨o,n,ag,hd⟩:=z
  obtain ⟨M,od,P,sl⟩:=o
  dsimp only at ag hd
  subst ag hd
  exact ⟨_,_,_,_,n⟩
 refine callWith_F (q:=ld.dv) (j l.fn) (zf (Dh (zg ⟨j l.fn,?_⟩)))
 have:=(ahl a4 D.ee aJ af c1 (C.b7.less (show 30≤20*cx.d+20 by exact bE (lm 20 hd))) (t3:=s.toks+1+1)).gN E Q λg' s' v st r=>q g' s' v (t1.trans st) ⟨r.1.gN,r.2⟩
 rw[c] at this
 exact this
section
variable {T:cA} {K:aP→Prop} {A:eU} {g:G} {w:W} {s:aH} {cx:bY} {env:Env} {σ:aA} {st:cK} {rest:List cK} {r:fx×aA×W}
theorem adq (av:cx.sc.names.lookup nm=I k) (a:k≠ .globalImplicit) (aN:σ.get nm= .val v):x' cx σ nm=I v:=eO av ((a3 λz=>a (dp z)).trans (aQ valOf aN))
theorem adp (av:cx.sc.names.lookup nm=I k) (a:k≠ .globalImplicit) (aN:σ.get nm= .val v):tv cx σ nm=I v:=eO av ((a3 λz=>a (dp z)).trans (aQ PA aN))
theorem xd (av:cx.sc.names.lookup nm=I k) (a:k≠ .globalImplicit) (aN:σ.get nm= .val v):ev (n+1) cx (.Name nm p) σ w=I (v,w):=eO (adq av a aN) rfl
theorem aeQ (av:cx.sc.names.lookup nm=I k) (a:k≠ .globalImplicit) (aN:σ.get nm= .val v):dN (n+1) cx (.Name nm p) σ w=I (v,w):=eO (adp av a aN) rfl
theorem cH.seq (J:cH T K cx env A (exec st env) g s (.next,σ1,w1)) (aa: ∀g' s',bQ T K cx env σ1 A g' w1 s'→cH T K cx env A (execs rest env) g' s' r):cH T K cx env A (execs (st::rest) env) g s r:=by
 intro E Q q
 refine gQ (J E _ λc s2 b t2 f2 a=> ?_)
 cases a with
 |next=>exact cH.pre t2 (aa _ _ f2) E Q q
theorem cH.stop (J:cH T K cx env A (exec st env) g s r) (b8:r.1≠ .next):cH T K cx env A (execs (st::rest) env) g s r:=by
 intro E Q q
 refine gQ (J E _ λe s2 d t2 f2 c=> ?_)
 obtain ⟨fl,a⟩:=r
 have σ:=a.1
 have w:=a.2
 dsimp only at*
 induction c using kW.casesOn with
 |next=>exact bF rfl b8
 |brk=>exact q _ _ _ t2 f2 .brk
 |cont=>exact q _ _ _ t2 f2 .cont
 |ret b=>exact q _ _ _ t2 f2 (.ret b)
theorem cH.nil (f:bQ T K cx env σ A g w s):cH T K cx env A (execs [] env) g s (.next,σ,w):=λE Q q=>mm (q _ _ _ .refl f .next)
theorem cH.ite {a b:List cK} {c:Bool} (f:bQ T K cx env σ A g w s) (h:aS T A (isTrue t env (eval t env)) g s (jh T w1 c))
  (aa: ∀g' s',bQ T K cx env σ A g' w1 s'→cH T K cx env A (execs (if c then a else b) env) g' s' r):cH T K cx env A (exec (.If t a b pos) env) g s r:=by
 intro E Q q
 refine y? (h E _ λi s2 d t2 e=> ?_)
 have f2:=f.ba t2 e.1
 have ae:d=c:=e.2
 subst ae
 have:=cH.pre (t2.bw f.wd) (aa _ _ f2) E Q q
 induction d using d1<;>exact this
theorem cH.ret {e:Expr} {pos:Pos} {p:U} (f:bQ T K cx env σ A g w s) (h:aS T A (eval e env) g s (Res T w1 p)):cH T K cx env A (exec (.Return (I e) pos) env) g s (.ret p,σ,w1):=
 λE Q q=>Ds (h E _ λb s2 v t2 a=>q _ _ _ (t2.bw f.wd) (f.ba t2 a.1) (.ret a.2))
theorem UJ {p1 p2 p3 pos:Pos} (a4:eg T L) (f:bQ T.plain K cx env σ A g w s) (au:held cx.sc (ao "self")=ab) (aN:σ.get (ao "self")= .val (.obj i)) (af:w[i]?=I x):
  cH T.plain K cx env A (exec (.AugAssign (.Attribute (.Name (ao "self") p1) (ao "lineno") p2) .Add (.Constant (.int 1) 0 p3) pos) env) g s (.next,σ,w.set i {x with line:=x.line+1}):=by
 intro E Q q
 refine cM (lS au) λk av j=>cM (f.fr.nm _ k av j) λu h v=>cM (aN▸v:gA T.plain g s.heap (.val (.obj i)) u) λu eu m=>cM m.vx λa aJ p=> ?_
 rw[eu,p] at h
 refine (a4.at_ f.wd.ee aJ af).elim λld l=> ?_
 refine wpAny_AugAssign_AttributeAny (nameP (T:=T.plain) f.fr av h (G5 (T:=T) a4 f.wd.ee l.instAt a4.cP G' rfl (Dh (wpAny_iadd_int ?_))))
 refine set_plain (K:=T.K) (od:=I (hK T.w.params ld.bp ld.bK ld.dg ld.ey (.int x.line ld.t) (.ref ld.src) (.str (ao "\n\t\r ") ld.eA) (.ref a.ck))) (C:=L.C) (ox:=instObj L.C a.dx) f.wd.ee.jr l.instAt a4.Gm ?_
 refine OB (K:=T.K) (C:=L.C) (ox:=instObj L.C a.dx) (dx:=a.dx) (n:=4) f.wd.ee.jr l.instAt rfl a4.aC a4.s1 a4.cC (by rw[G'];rfl) afi rfl (by exact nd _ _) λh' f3 d=> ?_
 have c: ∀b o,b≠a.dx→s.heap.get? b=I o→h'.get? b=I o:=λb o n e=>(f3.2 b n).trans e
 have bJ:cS g.B s.heap g.B h':=λb o e n=>⟨c b o (λz=>n (z▸f.wd.dG _ (.inr ⟨a,ia aJ,.inl rfl⟩))) e,n⟩
 have S:=BD (s':={s with heap:=h',toks:=s.toks+1+1+1+1+1}) (x:={x with line:=x.line+1}) f.wd.ee aJ (λb o J Z Z e=>c b o J e) (λb o e=>if ae:b=a.dx then ⟨_,ae▸d⟩ else ⟨o,c b o ae e⟩)
  (by rw[a4.c3];exact ⟨_,l.upd bJ d (l.bP.imp λo q=>⟨c _ _ l.ne.1.symm q.1,q.2⟩) (l.ck.imp λo q=>⟨c _ _ l.ne.2.1.symm q.1,q.2⟩) l.push l.tF l.rem⟩) rfl rfl (gw s.toks 5)
 exact q _ _ .next (S.1.gN.bw f.wd) (f.ba S.1.gN S.2.gN) .next
end
theorem Pr (bH:fE z=ab):shaped (.str z)=true:=by unfold shaped;simp[DK,DL,bH]
theorem afk (x y:Str) (af:fE x=ab) (a9:fE y=ab):hs (.str x) (.str y)=I (x==y):=a_ (je.mpr ⟨Pr af,Pr a9⟩)
theorem CT (av:cx.sc.names.lookup nm=I k) (a:k≠ .globalImplicit) (aN:σ.get nm= .val (.str y)) (J:fE y=ab) (aa:fE z=ab):
  fI (n+4) cx (.Compare (.Name nm p) [.Eq] [.Constant (.str z) 0 q] r) σ w=I (y==z,w):=eO (aeQ av a aN) (eO (afk _ _ J aa) rfl)
theorem Cx (h: ∀d,c=I d→d<0x110000):fE (d7 c)=true:=by
 unfold fE d7
 induction c using d5 with
 |none=>simp
 |some d=>simpa using h d rfl
theorem sign_eq (c:Option Nat) (d:Nat):(d7 c==(⟨#[d]⟩:Str))=(c==I d):=by
 rw[jF]
 simp only[beq_iff_eq,d7,Str.mk.injEq]
 induction c using d5<;>simp
theorem ahH:ao "\n"=⟨#[10]⟩:=bx
theorem CG:ao "\""=⟨#[34]⟩:=bx
theorem ahG:ao "\\"=⟨#[92]⟩:=bx
theorem ahJ:ao "\n\t\r "=⟨#[10,9,13,32]⟩:=bx
structure f6 (cp:bU) (f:aP) (fd:hR) (ns:List Str):Prop where
 at_: ∃o,cp.get? f=I o∧o.cls= .type "function"∧o.data= .func fd
 f1:fd.scope.kind= .function
 f2:fd.scope.isGenerator=aq
 dW:fd.scope.isCoroutine=aq
 sF:fd.closure=[]
 oD:fd.globals=mainGlobals
 pW:fd.builtins=builtinsNs
 pX:fd.defaults= .none
 mI:cp.CodeRec fd.code fd.qualname
 a5:fd.params.args.map (·.arg)=ns
 f4:fd.params.posonlyargs=[]
 j!:fd.params.vararg=ah
 hn:fd.params.kwonlyargs=[]
 lM:fd.params.kwarg=ah
 f8: ∀x k,fd.scope.names.lookup x=I k→(k= .local∨k= .cell∨k= .globalImplicit)∧(x==("__debug__":Str))=aq∧(x==("__classdict__":Str))=aq
 pU: ∀x∈ns,fd.scope.names.lookup x=I .local∨fd.scope.names.lookup x=I .cell
 pT:ns.Nodup
section
variable {w:W}
theorem Yu (F:f6 T.cp f fd ns) (d?:fd.body= .stmts body) (hw:aW T g w s) (b7:Room (20*k+30) A) (aX:IsL g.B g.aD s.heap vs us) (a:vs.length=ns.length)
  (h: ∀env g1 s1,bQ T (λb=> ∃o,s.heap.get? b=I o) ⟨T.dx,k,fd.scope⟩ env (ns.zip (vs.map .val)) (A.deeper env) g1 w s1→env.globals=fd.globals→cH T (λb=> ∃o,s.heap.get? b=I o) ⟨T.dx,k,fd.scope⟩ env (A.deeper env) (execs body env) g1 s1 (fl,σ',w'))
  (m:fl= .ret p∨(fl= .next∧p= .none)):nh T A (.call (.ref f) ⟨us,[]⟩) g s (Res T w' p):=by
 intro R q
 obtain ⟨o,c⟩:=F.at_
 have j:=c.1
 have ag:=c.2.1
 have n:=c.2.2
 have base:dI T.cp s.heap:=λb o e=>(hw.base b o e).1
 refine xl (base _ _ j) n F.f1 F.f2 F.dW d? F.sF F.oD F.pW F.pX (F.mI.keeps base) F.a5 F.f4 F.j! F.hn F.lM F.f8 F.pU F.pT hw b7 aX a λenv g1 s1 t1 c0 Z r=> ?_
 refine h env g1 s1 c0 (by rw[c0.fr.glob,F.oD]) r _ λi s2 t t2 f2 d=> ?_
 rcases m with rfl|⟨rfl,rfl⟩
 ·cases d with
  |ret l=>exact q i s2 _ (t1.yF hw t2) ⟨f2.wd,l⟩
 ·cases d with
  |next=>exact q i s2 _ (t1.yF hw t2) ⟨f2.wd,.none⟩
noncomputable abbrev U7 (P:Nat→Pos):List cK:=
 [.Assign [.Name (ao "ch") (P 0)] (.Call (.Attribute (.Attribute (.Name (ao "self") (P 1)) (ao "instream") (P 2)) (ao "read") (P 3)) [.Constant (.int 1) 0 (P 4)] [] (P 5)) (P 6),
  .If (.Compare (.Name (ao "ch") (P 7)) [.Eq] [.Constant (.str (ao "\n")) 0 (P 8)] (P 9)) [.AugAssign (.Attribute (.Name (ao "self") (P 10)) (ao "lineno") (P 11)) .Add (.Constant (.int 1) 0 (P 12)) (P 13)] [] (P 14),
  .Return (I (.Name (ao "ch") (P 15))) (P 16)]
structure ni (fd:hR):Prop where
 d?: ∃P,fd.body= .stmts (U7 P)∧((P 3).endLine==(P 5).line)=ab
 au:fd.scope.names.lookup (ao "self")=I .local
 ag:fd.scope.names.lookup (ao "ch")=I .local
theorem O3 (x:cQ):x.read=match x.rem.head? with
  |none=>(ah,x)
  |some c=>(I c,if c==10 then {x.take with line:=x.take.line+1} else x.take):=by
 unfold cQ.read cQ.take
 cases h:x.rem with
 |nil=>rfl
 |cons c r=>dsimp only[List.head?,List.tail];split<;>rfl
theorem acn (l:List α) (i:Nat) (a b:α):(l.set i a).set i b=l.set i b:=by simp
def sv (i:Nat) (c:Option Nat):aA:=[(ao "self",.val (.obj i)),(ao "ch",.val (.str (d7 c)))]
theorem take_nil {x:cQ} (h:x.rem=[]):x.take=x:=by
 obtain ⟨r,l,p⟩:=x
 cases h
 rfl
theorem afx (x:cQ):x.read.1=x.rem.head?:=by rw[O3];cases x.rem.head?<;>rfl
theorem afB {w:W} (x:cQ):(if (x.rem.head?==I 10)=ab then w.set i {x.take with line:=x.take.line+1} else w.set i x.take)=w.set i x.read.2:=by
 rw[O3]
 cases h:x.rem.head? with
 |none=>exact aQ (w.set i) (take_nil (List.head?_eq_none_iff.mp h))
 |some c=>
  show _=w.set i (if c==10 then _ else _)
  by_cases ag:c=10
  ·rw[ag];rfl
  ·rw[a3 λz=>ag (dp z),a3 λz=>ag (inj (dp z))]
theorem KH {k:Nat} (a4:eg T L) (F:f6 T.cp L.gk fd [ao "self"]) (c9:ni fd) (d:aW T g w s) (aJ:g.aD[i]?=I a) (af:w[i]?=I x) (b7:Room 50 A):
  nh T.plain A (.call (.ref L.gk) ⟨[.ref a.x],[]⟩) g s (Res T.plain (w.set i x.read.2) (.str (d7 x.read.1))):=cM c9.d? λP d? m=>by
 have h:held fd.scope (ao "self")=true:=by unfold held;rw[c9.au];rfl
 have r:dD fd.scope (ao "ch")=true:=by unfold dD;rw[c9.ag];rfl
 have o:i<w.length:=(hh.mp af).1
 rw[afx]
 refine Yu (T:=T.plain) (k:=1) (vs:=[.obj i]) (fl:= .ret (.str (d7 x.rem.head?))) (σ':=sv i x.rem.head?) F d? d.gN b7 (.cons (.obj aJ) .nil) rfl (λenv g1 s1 c0 Z=> ?_) (.inl rfl)
 have S:=oZ T
 have j:aA.set ((([ao "self"]:List Str).zip ([U.obj i].map .val))) (ao "ch") (.val (.str (d7 x.rem.head?)))=sv i x.rem.head?:=aY
 refine cH.seq (σ1:=sv i x.rem.head?) (w1:=w.set i x.take) (λE Q q=>zS (mb rfl) c0 r (afA a4 c0.inn h (by rfl) af m (bh 1)) λg' s' t f=>q g' s' .next t (j▸f) .next) λy s2 f2=> ?_
 have p:(sv i x.rem.head?).get (ao "self")= .val (.obj i):=aY
 have b:(sv i x.rem.head?).get (ao "ch")= .val (.str (d7 x.rem.head?)):=aY
 have gF:fE (d7 x.rem.head?)=true:=(a4.at_ d aJ af).elim λld l=>Cx λc ag=>l.O5 c (List.mem_of_head? ag)
 have u:fI 6 ⟨T.plain.dx,1,fd.scope⟩ (.Compare (.Name (ao "ch") (P 7)) [.Eq] [.Constant (.str (ao "\n")) 0 (P 8)] (P 9)) (sv i x.rem.head?) (w.set i x.take)=I (x.rem.head?==I 10,w.set i x.take):=(CT c9.ag ar b gF aY).trans (by rw[ahH,sign_eq])
 refine cH.seq (w1:=w.set i x.read.2) (σ1:=sv i x.rem.head?) (cH.ite f2 (((S 6).1 6 (bh _)).fI u f2.inn) λn s3 dW=> ?_) λn s3 dW=>cH.stop (cH.ret dW (((S 6).1 6 (bh _)).ev (e:= .Name (ao "ch") (P 15)) (xd c9.ag ar b) dW.inn)) nofun
 rw[←afB]
 cases x.rem.head?==I 10 with
 |true=>
  have:=UJ a4 dW h p (Ji o) (p1:=P 10) (p2:=P 11) (p3:=P 12) (pos:=P 13)
  rw[acn] at this
  exact this.seq λv s4 f4=>cH.nil f4
 |false=>exact cH.nil dW
end
theorem wY:_root_.PySem.Slot "callable_iterator" "__next__" "callable_iterator.__next__":=
 .of (owner:="callable_iterator") (n:="__next__") (by rw[r1,r2];kernel_rfl) bx bx bx
  (by first|exact .inl bx|exact .inr bx) (by rw[wh];kernel_rfl)
theorem KN:_root_.PySem.Slot "callable_iterator" "__iter__" "callable_iterator.__iter__":=
 .of (owner:="callable_iterator") (n:="__iter__") (by rw[r1,r2];kernel_rfl) bx bx bx
  (by first|exact .inl bx|exact .inr bx) (by rw[wh];kernel_rfl)
theorem KL:entryFor table "callable_iterator.__next__"=I qJ.«callable_iterator.__next__»:=RY aY
theorem Vf:entryFor table "callable_iterator.__iter__"=I qJ.«dict_keyiterator.__iter__»:=
 RZ (id':="dict_keyiterator.__iter__") aY (by first|rfl|decide+kernel|(unfold R0;simp+decide [R1])) bx aY
theorem KJ (a:az):argsOk "callable_iterator.__next__" ⟨[a],[]⟩:=by unfold argsOk;kernel_rfl
theorem Ve (a:az):argsOk "callable_iterator.__iter__" ⟨[a],[]⟩:=by unfold argsOk;kernel_rfl
theorem ai9
  (ag:codeAny M A (.call f ⟨pos,[]⟩) (λr s'=>match r with| .ok (.ret v)=>Q v s'| .ok _=>False| .error e=>E e s') s):
  aU M A (callBorrowed f pos) Q E s:=λb p a=>by
 have h:=ag (b.enter (.call f ⟨pos,[]⟩) ah p) p rfl (a.enter _ ah p (by intro x;exact aR x))
 refine wpCode_mono (λr s' b8=> ?_) h
 rcases r with e|(v|_|_|_)<;>exact b8
noncomputable abbrev z4 (ed:aP) (t:Tok):Obj:={cls:= .type "callable_iterator",data:= .fields #[.ref ed,.str ⟨#[]⟩ t,.bool aq]}
noncomputable abbrev EL:Obj:={cls:= .type "callable_iterator",data:= .fields #[.none,.none,.bool ab]}
section
variable {T:cA}
theorem Vh (a:s.heap.get? ak=I o) (ag:o.cls= .type "callable_iterator") (h:Q (.ref ak) s):aU T.mo A (pyIter (.ref ak)) Q E s:=by
 have bZ:s.TypeIs (.ref ak) "callable_iterator":=⟨_,a,ag⟩
 refine R5 bZ KN (r3 KN bZ Vf ?_ (Ve _))
 exact bj ⟨_,rfl,"callable_iterator",_,bZ,wY.lookup,h⟩
theorem KP {α:Type} {P:α→aH→Prop} {Q:Option az→aH→Prop} (cC:A.handled=ah) (a: ∀h',(dI s.heap h')→Q ah {s with heap:=h'}):
  aU T.mo A.in1 (akP (α:=α)) P
   (λe s'=>aU T.mo A (do if←isInstance e (.type "StopIteration") then pure ah else throw e) Q E s') s:=H6 cC a
theorem Vg {Q:Option az→aH→Prop} (cC:A.handled=ah) (a:s.heap.get? ak=I EL) (b: ∀h',(dI s.heap h')→Q ah {s with heap:=h'}):
  aU T.mo A (pyNext (.ref ak)) Q E s:=by
 have bZ:s.TypeIs (.ref ak) "callable_iterator":=⟨_,a,rfl⟩
 refine aw (Dv (Jc (name:=ao "__next__") bZ wY
  (r3 wY bZ KL ?_ (KJ _))))
 show aU _ _ (field (.ref ak) 2>>=_) _ _ s
 refine aw (zh a rfl (x:= .bool ab) rfl ?_)
 rw[a_ (show (Value.bool ab==Value.bool ab)=ab from by decide)]
 refine aw (lx ?_)
 exact aw (KP (T:=T) (E:=E) cC b)
theorem KO {Q:Bool→aH→Prop} (hm:s.heap.get? ed=I (methodObj (.ref f) (.ref x))) (a:s.heap.get? f=I of) (hd:of.data= .func fd) (h:Q ab s):aU T.mo A (borrowsExactly (.ref ed)) Q E s:=by
 refine aw (I2 hm ?_)
 dsimp only
 rw[a_ ar]
 refine aw (I2 a ?_)
 exact hd▸(bj h)
set_option backward.match.sparseCases true in
theorem Vi {Q:Option az→aH→Prop} (cC:A.handled=ah) (d:aW T g w s) (eG:s.heap.get? ak=I (z4 ed t)) (vp: ¬et T.dZ g.aD ak) (hm:s.heap.get? ed=I (methodObj (.ref f) (.ref x))) (nm: ¬et T.dZ g.aD ed)
  (l:T.cp.get? f=I of) (hd:of.data= .func fd) (ag:nh T A.in1 (.call (.ref f) ⟨[.ref x],[]⟩) g s (Res T w' (.str c)))
  (J: ∀g' s' i,bW T g s g' s'→aW T g' w' s'→c≠⟨#[]⟩→Q (I (.str c i)) s')
  (aa: ∀g' s' h',bW T g s g' s'→aW T g' w' s'→c=⟨#[]⟩→h'.get? ak=I EL→(∀b o,b≠ak→s'.heap.get? b=I o→h'.get? b=I o)→Q ah {s' with heap:=h'}):
  aU T.mo A (pyNext (.ref ak)) Q E s:=by
 have bZ:s.TypeIs (.ref ak) "callable_iterator":=⟨_,eG,rfl⟩
 refine aw (Dv (Jc (name:=ao "__next__") bZ wY
  (r3 wY bZ KL ?_ (KJ _))))
 show aU _ _ (field (.ref ak) 2>>=_) _ _ s
 refine aw (zh eG rfl (x:= .bool aq) rfl ?_)
 rw[a3 (show¬((Value.bool aq==Value.bool ab)=ab) from by decide)]
 refine aw (zh eG rfl (x:= .ref ed) rfl ?_)
 refine aw (Dv ?_)
 refine aw (KO hm (d.base f of l).1 hd ?_)
 rw[a_ rfl]
 refine ai9 (ks_codeAny_call_bound hm (ag _ λg' s' v st r=> ?_))
 have j:=r.1
 have q:=r.2
 cases q with
 |str _ i=>
  have a:=st.keep ak _ eG vp
  have u:=st.keep ed _ hm nm
  refine aw (zh a rfl (x:= .bool aq) rfl ?_)
  rw[a3 (show¬((Value.bool aq==Value.bool ab)=ab) from by decide)]
  refine aw (zh a rfl (x:= .str ⟨#[]⟩ t) rfl ?_)
  refine aw (fK (eqBool_str ?_))
  by_cases u1:c=⟨#[]⟩
  ·subst u1
   rw[a3 ar]
   refine aw (lx ?_)
   show aU _ _ ((do slotLetsGo "callable_iterator.__next__" (←field (.ref ak) 0) (λ| .builtin "callable_iterator.__next__" x=>x.pos.head?==I (.ref ak)|_=>aq);setField (.ref ak) 0 .none;setField (.ref ak) 1 .none;setField (.ref ak) 2 (.bool ab):Sem Unit)>>=λZ=>akP) _ _ _
   refine aw (aw (zh a rfl (x:= .ref ed) rfl (aw ?_)))
   refine aw (KO u (j.base f of l).1 hd ?_)
   rw[a_ rfl]
   refine bj ?_
   refine aw (Sj a (by exact aj3 rfl) λaJ p h=> ?_)
   refine aw (Sj p (by exact Nat.one_lt_succ_succ _) λae m f3=> ?_)
   refine Sj m (by exact Nat.lt_add_one _) λag n sc=> ?_
   refine KP (T:=T) (E:=E) cC λh' k=>aa g' s' h' st j rfl (k _ _ n) λb o ae e=>k _ _ ?_
   exact (sc.2 b ae).trans ((f3.2 b ae).trans ((h.2 b ae).trans e))
  ·rw[a_ (by simpa using λz=>u1 z.symm)]
   exact aw (bj (bj ⟨_,rfl,bj (J g' s' i st j u1)⟩))
end
theorem aaH:builtinKind "iter"=none:=bx
theorem aaJ:plainId "iter"=true:=bx
theorem aaF:entryFor table "iter"=I qJ.«iter»:=RY aY
theorem aaE (a b:az):argsOk "iter" ⟨[a,b],[]⟩:=by unfold argsOk;kernel_rfl
theorem method_call:typeLookup (.type "method") (ao "__call__")=pure (I (.builtin "method.__call__")):=by rw[r1,r2];kernel_rfl
section
variable {T:cA} {K:aP→Prop} {s:aH}
theorem bQ.more {X:aP→Prop} (f:bQ T K cx env σ A g w s) (t:bW T g s g1 s1) (D:aW T g1 w1 s1) (q: ∀b,X b→s.heap.get? b=ah∧ ∃o,s1.heap.get? b=I o):bQ T (λb=>K b∨X b) cx env σ A g1 w1 s1:=by
 have f2:=f.ba t D
 have n: ∀b,(∃o,s.heap.get? b=I o)→ ¬X b:=λb ⟨o,e⟩ z=>by rw[(q b z).1] at e;exact aR e
 exact {
  fr:=f2.fr
  wd:=f2.wd
  b7:=f2.b7
  wr:=λx af=>by
   obtain ⟨k,r⟩:=oU af
   have av:=r.1
   have E:=r.2
   rcases f2.wr x af with ⟨bp,J⟩|⟨bp,J⟩
   ·refine .inl ⟨bp,λz=>z.elim J (n _ ?_)⟩
    obtain ⟨m,o,es,H,v⟩:=f.fr.dict
    have e:=v.1
    exact ⟨o,e⟩
   ·refine .inr ⟨bp,λc ag z=>z.elim (J c ag) ?_⟩
    obtain ⟨u,h⟩:=f.fr.nm x k av E
    have d:=h.1
    rcases d with ⟨bK,_⟩|⟨_,L,p,⟨o,e,_⟩,ae⟩
    ·rw[bp] at bK;cases bK
    ·rw[ag] at p;cases p
     exact n c ⟨o,e⟩
  own:=λx l a e j z=>by
   obtain ⟨k,av,a5⟩:=id j
   obtain ⟨u,i⟩:=f.fr.nm x k av a5
   have d:=i.1
   have:=(d.ba t f.wd f.fr.loc).one z
   subst this
   obtain ⟨vs,ae,⟨o,C,_⟩,_⟩:=n1 f.fr e j d
   exact λy=>y.elim (f.own x l a e j d) (n a ⟨o,C⟩)
  h4:=λb z=>z.elim (λz=>f2.h4 b z) λz=>(q b z).2
  sc:=f2.sc
  eb:=f2.eb}
theorem J9 (au:swapsWith e (I (.Name y g)) pos.line env=pure aq) (hm:dD cx.sc y=ab)
  (h:aU T.mo A (eval e env) (λv s1=> ∃K' g1 w1 p,bQ T K' cx env σ A g1 w1 s1∧Is g1.B g1.aD s1.heap p v∧ ∀s2,dc T K' g1 s1 g1 s2→bQ T K' cx env (σ.set y (.val p)) A g1 w1 s2→Q .next s2) E s):
  aU T.mo A (exec (.Assign [.Name y g] e pos) env) Q E s:=by
 rw[RO _ _ _ _ _ au]
 refine aw (fF (aw (hQ h (λv s1 J=> ?_) λ_ _ z=>z)))
 obtain ⟨K',g1,w1,p,a⟩:=J
 have f1:=a.1
 have i1:=a.2.1
 have q:=a.2.2
 refine aw (fF (aw ?_))
 obtain ⟨k,b⟩:=oU hm
 have av:=b.1
 have d:=b.2
 refine rC (K:=K') (sl:= .val p) f1.fr f1.wd av d (f1.wr y hm) ⟨v,rfl,i1⟩ (λ_ _ _ _ _ z=>by cases z) λs2 t2 f2 c aR f=>bj (q _ t2 (f1.kept t2 f2 c λi l e=> ?_))
 rw[aA.get_set] at e
 split at e
 ·cases e
 ·rename_i a9;exact ⟨e,λu=>f i u (gu a9)⟩
theorem vR (f:dy T.plain g cx env σ s.heap) (au:held cx.sc (ao "self")=ab) (aN:σ.get (ao "self")= .val (.obj i)): ∃k a,cx.sc.names.lookup (ao "self")=I k∧cB T.plain g s.heap env (ao "self") (I (.ref a.x))∧g.aD[i]?=I a:=by
 obtain ⟨k,b⟩:=lS au
 have av:=b.1
 have d:=b.2
 obtain ⟨u,e,c⟩:=f.nm _ k av d
 rw[aN] at c
 obtain ⟨u,rfl,h⟩:=c
 obtain ⟨a,aJ,rfl⟩:=h.vx
 exact ⟨k,a,av,e,aJ⟩
theorem ai8 (a4:eg T L) (C:cO T.plain cx env σ A g w s) (au:held cx.sc (ao "self")=ab) (aN:σ.get (ao "self")= .val (.obj i)) (af:w[i]?=I x):
  aS T.plain A (eval (.Attribute (.Name (ao "self") p1) (ao "whitespace") p2) env) g s (Res T.plain w (.str (ao "\n\t\r "))):=by
 intro E Q q
 obtain ⟨k,a,c⟩:=vR C.fr au aN
 have av:=c.1
 have d:=c.2.1
 have aJ:=c.2.2
 obtain ⟨ld,l⟩:=a4.at_ C.wd.ee aJ af
 refine x2 (T:=T) (a:=a) (v:= .str (ao "\n\t\r ") ld.eA) (od:=hK T.w.params ld.bp ld.bK ld.dg ld.ey (.int x.line ld.t) (.ref ld.src) (.str (ao "\n\t\r ") ld.eA) (.ref a.ck)) a4 rfl a4.vo acy rfl ?_
 refine nameP (T:=T.plain) C.fr av d ⟨g,w,C.wd.ee,rfl,l.instAt,?_⟩
 have t1:bW T.plain g s g {s with toks:=s.toks+1}:= .grow (h':=s.heap) (t:=s.toks+1) (dr:=s.drawn) (λb o e=>e) (by exact gw _ _)
 exact q g _ _ t1 ⟨C.wd.grow (λb o e=>e) (by show s.toks≤s.toks+1;exact gw _ _),.str _ _⟩
theorem aji (c:Nat):kK (.str (d7 (I c))) (.str (ao "\n\t\r "))=I (isWs c):=by
 show I (!(mf (ao "\n\t\r ") (d7 (I c)) 0 (ao "\n\t\r ").length 1).isEmpty)=_
 have:d7 (I c)=⟨#[c]⟩:=rfl
 rw[this,PySem.StrLaws.found_one,ahJ]
 unfold isWs
 congr 1
 rw[jF]
 simp[or_assoc]
theorem Qf (a4:eg T L) (C:cO T.plain cx env σ A g w s) (au:held cx.sc (ao "self")=ab) (aN:σ.get (ao "self")= .val (.obj i)) (af:w[i]?=I x)
  (av:cx.sc.names.lookup nm=I k) (f:k≠ .globalImplicit) (a5:σ.get nm= .val (.str (d7 (I c)))):
  aS T.plain A (isTrue (.Compare (.Name nm p1) [.In] [.Attribute (.Name (ao "self") p2) (ao "whitespace") p3] r) env (eval (.Compare (.Name nm p1) [.In] [.Attribute (.Name (ao "self") p2) (ao "whitespace") p3] r) env)) g s (jh T.plain w (isWs c)):=by
 rw[arm_isTrue_Compare]
 have he:ev 2 cx (.Name nm p1) σ w=I (.str (d7 (I c)),w):=xd av f a5
 refine (((oZ T 2).1 2 (bh _)).ev he C).bind λg1 s1 o t1 a=> ?_
 have d:=C.ba t1 a.1
 rw[He _ _ _ rfl]
 refine (aS.holding (ai8 a4 d au aN af)).bind λm s2 p t2 b=> .o' ?_
 refine (aS.operate (EP (op:= .In) (show e_ .In (.str (d7 (I c))) (.str (ao "\n\t\r "))=I (isWs c) from aji c) (d.ba t2 b.1) (.of (a.2.ba t2 a.1)) (.of b.2))).bind λn s3 l t3 h=> ?_
 obtain ⟨j,e⟩:=h
 cases e
 exact .holding λE Q k=>Dc (k _ _ _ .refl ⟨j,rfl⟩)
theorem afr {fd:hR} {p1 p2 pos:Pos} (a4:eg T L) (F:f6 T.cp L.gk fd [ao "self"]) (c9:ni fd) (C:cO T.plain cx env σ A g w s) (hd:2≤cx.d) (e:(p2.endLine==pos.line)=ab) (au:held cx.sc (ao "self")=ab) (aN:σ.get (ao "self")= .val (.obj i)) (af:w[i]?=I x):
  aS T.plain A (eval (.Call (.Attribute (.Name (ao "self") p1) (ao "_read_char") p2) [] [] pos) env) g s (Res T.plain (w.set i x.read.2) (.str (d7 x.read.1))):=by
 intro E Q q
 obtain ⟨k,a,av,f,aJ⟩:=vR C.fr au aN
 obtain ⟨ld,l⟩:=a4.at_ C.wd.ee aJ af
 refine z2 (T:=T) rfl e (show 0<20 from by decide) (by rfl) ?_
 refine nameP (T:=T.plain) C.fr av f λbP=> ?_
 refine method_fn (K:=T.K) (C:=L.C) C.wd.ee.jr l.instAt a4.u2 a4.xE a4.ka a4.Ih agE ?_
 obtain ⟨o,c,ag,b⟩:=F.at_
 have h:FnAt L.gk s.heap:=by
  obtain ⟨j,od,m,sl⟩:=o
  dsimp only at ag b
  subst ag b
  exact ⟨_,_,_,_,(C.wd.base _ _ c).1⟩
 exact callWith_F0 h ((KH (k:=0) a4 F c9 C.wd.ee aJ af (C.b7.less (show 50≤20*cx.d+20 by exact bE (lm 20 hd)))).uS E Q q)
end
section
variable {T:cA} {K:aP→Prop} {L:gz} {A:eU} {g:G} {w:W} {s:aH} {cx:bY} {env:Env} {σ:aA} {a:ih} {x:cQ} {i:Nat} {E:az→aH→Prop}
theorem acV {Q:az→aH→Prop} {p1 p2 p3 b pos:Pos} (a4:eg T L) (C:cO T.plain cx env σ A g w s) (aI:cx.sc.names.lookup (ao "iter")=I .globalImplicit)
  (av: ∃k,cx.sc.names.lookup (ao "self")=I k) (c:cB T.plain g s.heap env (ao "self") (I (.ref a.x))) (aJ:g.aD[i]?=I a) (af:w[i]?=I x)
  (q: ∀t h',h'=(s.heap.push (methodObj (.ref L.gk) (.ref a.x))).push (z4 s.heap.objs.size t)→Q (.ref (s.heap.objs.size+1)) {s with heap:=h',toks:=s.toks+2}):
  aU T.mo A (eval (.Call (.Name (ao "iter") p1) [.Attribute (.Name (ao "self") p2) (ao "_read_char") p3,.Constant (.str (ao "")) 0 b] [] pos) env) Q E s:=by
 obtain ⟨ld,l⟩:=a4.at_ C.wd.ee aJ af
 obtain ⟨k,av⟩:=av
 refine aw (wR (T:=T.plain) C.wd C.fr aI a4.aI bx (v:= .builtin "iter") aY ?_)
 refine t9 (by rfl) (we ?_)
 refine zf (env:=env) (e:= .Attribute (.Name (ao "self") p2) (ao "_read_char") p3) (rest:=[.Constant (.str (ao "")) 0 b]) ?_ (by rfl)
 rw[Sf,pH (by rfl)]
 refine aw (nameP (T:=T.plain) C.fr av c (aw (fF (aw (fK ?_)))))
 refine get_bind (K:=T.K) (C:=L.C) C.wd.ee.jr l.instAt a4.u2 (findObj_fn a4.cC a4.ka a4.mF a4.ri bx ?_) a4.xE ?_
 ·exact by kernel_rfl
 refine D2 (fn_get (K:=T.K) (s:={s with toks:=s.toks+1}) C.wd.ee.jr a4.Ih (handed_on rfl (aw (Sg (bj ?_)))))
 refine zf (env:=env) (e:= .Constant (.str (ao "")) 0 b) (rest:=[]) (he:=by rfl) (Rq (zg ?_))
 refine call_function_entry aaH aaJ aaF (aaE _ _) ?_
 refine aw (ua (a:=[.ref s.heap.objs.size,.str (ao "") (s.toks+1)]) (by first|rfl|kernel_rfl) ?_)
 refine aw (Rw (T:="method") ⟨_,d9 _ rfl,rfl⟩ method_call ?_)
 rw[a3 ar]
 refine aw (lx (aw ?_))
 refine m' (bj ⟨_,rfl,?_⟩) (by size_fits)
 have:=q (s.toks+1) _ rfl
 rw[hb]
 exact this
end
noncomputable abbrev de:Str:=ao "self"
noncomputable abbrev ju:Str:=ao "token"
noncomputable abbrev nU:Str:=ao "fiter"
noncomputable abbrev ft:Str:=ao "ch"
theorem ahF (a:List Nat) (c:Option Nat):(⟨a.toArray⟩:Str)++d7 c=⟨(a++c.toList).toArray⟩:=by
 show (⟨a.toArray++c.toList.toArray⟩:Str)=_
 simp
theorem str_len (a:List Nat):(⟨a.toArray⟩:Str).length=a.length:=by simp[Str.length]
theorem agT (c:Option Nat):(d7 c).length=c.toList.length:=by induction c using d5<;>rfl
structure px (sc:Scope):Prop where
 self:sc.names.lookup de=I .local
 tok:sc.names.lookup ju=I .local
 fit:sc.names.lookup nU=I .local
 ch:sc.names.lookup ft=I .local
 iter:sc.names.lookup (ao "iter")=I .globalImplicit
structure iY (i:Nat) (ak:aP) (σ:aA) (acc:List Nat):Prop where
 self:σ.get de= .val (.obj i)
 tok:σ.get ju= .val (.str ⟨acc.toArray⟩)
 fit:σ.get nU= .val (.raw (.ref ak))
theorem iY.Pk (h:iY i ak σ acc) (v:Slot):iY i ak (σ.set ft v) acc:=
 ⟨by rw[aA.get_set,a3 bx];exact h.self,by rw[aA.get_set,a3 bx];exact h.tok,by rw[aA.get_set,a3 bx];exact h.fit⟩
theorem iY.H2 (h:iY i ak σ acc) (a:List Nat):iY i ak (σ.set ju (.val (.str ⟨a.toArray⟩))) a:=
 ⟨by rw[aA.get_set,a3 bx];exact h.self,by rw[aA.get_set,a_ rfl],by rw[aA.get_set,a3 bx];exact h.fit⟩
abbrev uQ (P:Nat→Pos):cK:= .If (.Compare (.Name ft (P 5)) [.Eq] [.Constant (.str (ao "\\")) 0 (P 6)] (P 7)) [.Assign [.Name ft (P 8)] (.Call (.Attribute (.Name de (P 9)) (ao "_read_char") (P 10)) [] [] (P 11)) (P 12)] [] (P 13)
abbrev uA (P:Nat→Pos):cK:= .AugAssign (.Name ju (P 15)) .Add (.Name ft (P 16)) (P 17)
abbrev yp (P:Nat→Pos):cK:= .Return (I (.Name ju (P 3))) (P 4)
abbrev Kq (P:Nat→Pos):List cK:=[.If (.Compare (.Name ft (P 0)) [.Eq] [.Constant (.str (ao "\"")) 0 (P 1)] (P 2)) [yp P] [uQ P] (P 14),uA P]
abbrev Ko (P:Nat→Pos):List cK:=[.If (.Compare (.Name ft (P 0)) [.In] [.Attribute (.Name de (P 1)) (ao "whitespace") (P 18)] (P 2)) [yp P] [uQ P] (P 14),uA P]
def mD (c:Nat) (x:cQ) (σ:aA):aA:=if c=92 then σ.set ft (.val (.str (d7 x.read.1))) else σ
noncomputable def fG (c:Nat) (x:cQ):Option Nat×cQ:=if c=92 then x.read else (I c,x)
section
variable {T:cA} {K:aP→Prop} {i c:Nat} {E:az→aH→Prop} {acc:List Nat} {P:Nat→Pos}
theorem xb (ok:iY i ak σ acc):iY i ak (mD c x σ) acc:=by
 unfold mD
 split
 ·exact ok.Pk _
 ·exact ok
theorem Li (aN:σ.get ft= .val (.str (d7 (I c)))):(mD c x σ).get ft= .val (.str (d7 (fG c x).1)):=by
 unfold mD fG
 split
 ·rw[aA.get_set,a_ rfl]
 ·exact aN
theorem Ll (a4:eg T L) (F:f6 T.cp L.gk fd [de]) (c9:ni fd) (N:px cx.sc) (hd:2≤cx.d) (d3:((P 10).endLine==(P 11).line)=ab) (f:bQ T.plain K cx env σ A g w s) (ok:iY i ak σ acc) (ag:c<0x110000) (aN:σ.get ft= .val (.str (d7 (I c)))) (af:w[i]?=I x):
  cH T.plain K cx env A (exec (uQ P) env) g s (.next,mD c x σ,w.set i (fG c x).2):=by
 have m:held cx.sc de=true:=by unfold held;rw[N.self];rfl
 have o:dD cx.sc ft=true:=by unfold dD;rw[N.ch];rfl
 have gF:fE (d7 (I c))=true:=Cx λd e=>by cases e;exact ag
 have a:aS T.plain A (isTrue (.Compare (.Name ft (P 5)) [.Eq] [.Constant (.str (ao "\\")) 0 (P 6)] (P 7)) env (eval _ env)) g s (jh T.plain w (d7 (I c)==ao "\\")):=
  ((oZ T 4).1 4 (bh _)).fI (CT (n:=0) N.ch ar aN gF bx) f.inn
 rw[ahG,sign_eq] at a
 by_cases h:c=92
 ·subst h
  have e:fG 92 x=x.read:=by unfold fG;rw[a_ rfl]
  rw[e]
  have b:mD 92 x σ=σ.set ft (.val (.str (d7 x.read.1))):=by unfold mD;rw[a_ rfl]
  rw[b]
  refine cH.ite f a λg1 s1 f1=> ?_
  have J:((I 92:Option Nat)==I 92)=true:=ar
  rw[J,a_ rfl]
  refine cH.seq (σ1:=σ.set ft (.val (.str (d7 x.read.1)))) (w1:=w.set i x.read.2) (λE Q q=> ?_) λp s2 f2=>cH.nil f2
  exact zS (mb rfl) f1 o (afr a4 F c9 f1.inn hd d3 m ok.self af) λg' s' t f=>q g' s' .next t f .next
 ·have e:fG c x=(I c,x):=by unfold fG;rw[a3 h]
  rw[e]
  have hw:w.set i x=w:=by
   apply aky
   intro j
   rw[akK]
   split
   ·rename_i k;subst k;split
    ·exact af.symm
    ·rename_i l;rw[R4 (by exact Om l)]
   ·rfl
  have b:mD c x σ=σ:=by unfold mD;rw[a3 h]
  rw[b]
  refine cH.ite f a λg1 s1 f1=> ?_
  have J:((I c:Option Nat)==I 92)=false:=by simpa using h
  rw[J,a3 ar]
  rw[hw]
  exact cH.nil f1
theorem JZ (N:px cx.sc) (f:bQ T.plain K cx env σ A g w s) (ok:iY i ak σ acc) (aN:σ.get ft= .val (.str (d7 d))) (bH:acc.length+d.toList.length≤1048576):
  cH T.plain K cx env A (exec (uA P) env) g s (.next,σ.set ju (.val (.str ⟨(acc++d.toList).toArray⟩)),w):=by
 have b:dD cx.sc ju=true:=by unfold dD;rw[N.tok];rfl
 have a:ev 2 cx (.Name ft (P 16)) σ w=I (.str (d7 d),w):=xd N.ch ar aN
 have b8:qU .Add (.str ⟨acc.toArray⟩) (.str (d7 d))=I (.str ⟨(acc++d.toList).toArray⟩):=by
  show (if (⟨acc.toArray⟩:Str).length+(d7 d).length≤1048576 then I (U.str ((⟨acc.toArray⟩:Str)++d7 d)) else ah)=_
  rw[str_len,agT,a_ bH,ahF]
 exact Lp (n:=2) (oZ T 2).1 b (by rw[ok.tok];rfl) a b8 f
end
noncomputable def kj (stop:Nat→Bool):Nat→List Nat→cQ→List Nat×cQ
 |0,acc,x=>(acc,x)
 |n+1,acc,x=>match x.read with
  |(ah,x)=>(acc,x)
  |(I c,x)=>if stop c then (acc,x) else kj stop n (acc++(fG c x).1.toList) (fG c x).2
theorem aio: ∀n acc x,m3 n acc x=kj (·==34) n acc x:=by
 intro b
 induction b with
 |zero=>
  intro acc x
  exact rfl
 |succ n a=>
  intro acc x
  rw[m3,kj]
  generalize x.read=y
  obtain ⟨_|c,d⟩:=y
  ·rfl
  ·unfold fG
   dsimp only
   by_cases J:(c==34)=ab
   ·rw[a_ J,a_ J]
   ·rw[a3 J,a3 J]
    by_cases aa:c=92
    ·subst aa;simp only[beq_self_eq_true,if_true];exact a _ _
    ·have:(c==92)=false:=by simpa using aa
     simp only[this,aa,if_false,y5];exact a _ _
theorem P!: ∀n acc x,mc n acc x=kj isWs n acc x:=by
 intro b
 induction b with
 |zero=>
  intro acc x
  exact rfl
 |succ n a=>
  intro acc x
  rw[mc,kj]
  generalize x.read=y
  obtain ⟨_|c,d⟩:=y
  ·rfl
  ·unfold fG
   dsimp only
   by_cases J:isWs c=ab
   ·rw[a_ J,a_ J]
   ·rw[a3 J,a3 J]
    by_cases aa:c=92
    ·subst aa;simp only[beq_self_eq_true,if_true];exact a _ _
    ·have:(c==92)=false:=by simpa using aa
     simp only[this,aa,if_false,y5];exact a _ _
theorem yn {x:cQ} (h:x.rem=c::r):x.read.1=I c∧x.read.2.rem=r:=by
 unfold cQ.read;rw[h];exact ⟨rfl,rfl⟩
theorem yo {x:cQ} (h:x.rem=[]):x.read=(ah,x):=by unfold cQ.read;rw[h]
theorem afz (x:cQ):x.read.1.toList.length+x.read.2.rem.length=x.rem.length:=by
 cases h:x.rem with
 |nil=>rw[yo h];simp[h]
 |cons c r=>obtain ⟨a,b⟩:=yn h;rw[a,b];simp;exact r7 _ _
theorem E_ (c:Nat) (x:cQ):(fG c x).1.toList.length+(fG c x).2.rem.length≤1+x.rem.length∧(fG c x).2.rem.length≤x.rem.length:=by
 unfold fG
 split
 ·have:=afz x;exact ⟨bE (dH this),bE (dH this)⟩
 ·simp
structure pw (T:cA) (L:gz) (fd:hR) (cx:bY) (K K':aP→Prop) (ak ed:aP) (t:Tok) (a:ih) (i:Nat) (eP:W) (bk:G) (bf:aH):Prop where
 a4:eg T L
 F:f6 T.cp L.gk fd [de]
 c9:ni fd
 N:px cx.sc
 hd:2≤cx.d
 aI:i<eP.length
 yf:bk.aD[i]?=I a
 eG:bf.heap.get? ak=I (z4 ed t)
 hm:bf.heap.get? ed=I (methodObj (.ref L.gk) (.ref a.x))
 nx:cL T.plain bk ak
 nm: ¬et T.plain.dZ bk.aD ed
 Bv:K' ak
 aa9:K' ed
 vp: ¬K ak
 fW: ∀b,K b→K' b
structure TI (T:cA) (cx:bY) (env:Env) (A:eU) (K':aP→Prop) (ak:aP) (i:Nat) (eP:W) (bk:G) (bf:aH) (σ:aA) (acc:List Nat) (x:cQ) (g:G) (s:aH):Prop where
 bw:dc T.plain K' bk bf g s
 c0:bQ T.plain K' cx env σ A g (eP.set i x) s
 ok:iY i ak σ acc
 yC:acc.length+x.rem.length≤1048576
structure TE (T:cA) (cx:bY) (env:Env) (A:eU) (K:aP→Prop) (ak:aP) (i:Nat) (eP:W) (bk:G) (bf:aH) (σ:aA) (acc:List Nat) (x:cQ) (g:G) (s:aH):Prop where
 bw:dc T.plain K bk bf g s
 c0:bQ T.plain K cx env σ A g (eP.set i x) s
 ok:iY i ak σ acc
 dead:s.heap.get? ak=I EL
section
variable {T:cA} {K K':aP→Prop} {L:gz} {g bk:G} {eP:W} {s bf:aH} {cx:bY} {a:ih} {i:Nat} {ak ed:aP} {fd:hR} {t:Tok}
theorem pw.c3 (B:pw T L fd cx K K' ak ed t a i eP bk bf) (x:cQ):(eP.set i x)[i]?=I x:=by simp[B.aI]
theorem pw.aer (B:pw T L fd cx K K' ak ed t a i eP bk bf) (h:dc T.plain K' bk bf g s):g.aD[i]?=I a:=by
 obtain ⟨more,e⟩:=h.eJ
 rw[e,zu (hh.mp B.yf).1];exact B.yf
theorem aid {Q:Option az→aH→Prop} (B:pw T L fd cx K K' ak ed t a i eP bk bf) (f:TI T cx env A K' ak i eP bk bf σ acc x g s)
  (H:x.rem=[]→ ∀g' s',TE T cx env A K ak i eP bk bf σ acc x g' s'→Q ah s')
  (u: ∀c r,x.rem=c::r→c<0x110000→ ∀g' s' p,TI T cx env A K' ak i eP bk bf σ acc x.read.2 g' s'→Q (I (.str (d7 (I c)) p)) s'):
  aU T.mo A (pyNext (.ref ak)) Q E s:=by
 obtain ⟨of,m⟩:=B.F.at_
 have O:=m.1
 have C:=m.2.1
 have y:=m.2.2
 have eG:=f.bw.old ak _ B.Bv B.eG B.nx.2
 have hm:=f.bw.old ed _ B.aa9 B.hm B.nm
 have j: ∀{b o},bf.heap.get? b=I o→ ¬et T.plain.dZ bk.aD b→ ¬et T.plain.dZ g.aD b:=λ{b o} e n z=>(f.bw.ej b z).elim n λq=>by rw[e] at q;exact aR q.symm
 have yf:=B.aer f.bw
 have af:=B.c3 x
 obtain ⟨ld,l⟩:=B.a4.at_ f.c0.wd.ee yf af
 have w:(eP.set i x).set i x.read.2=eP.set i x.read.2:=by simp
 refine Vi (T:=T.plain) (w':=eP.set i x.read.2) (c:=d7 x.read.1) f.c0.b7.handled f.c0.wd eG (j B.eG B.nx.2) hm (j B.hm B.nm) O y ?_ ?_ ?_
 ·have:=KH (k:=0) B.a4 B.F B.c9 f.c0.wd.ee yf af ((f.c0.b7.less (show 59+1≤20*cx.d+20 by have:=B.hd;exact bE (lm 20 this))).in1.less (by exact EF rfl))
  rw[w] at this
  exact this
 ·intro g' s' p st h el
  cases b8:x.rem with
  |nil=>rw[yo b8] at el;exact bF rfl el
  |cons c r=>
   obtain ⟨J,aa⟩:=yn b8
   rw[J]
   refine u c r b8 (l.O5 c (by rw[b8];exact eQ)) g' s' p ⟨f.bw.trans (st.bw f.c0.wd),f.c0.ba st h,f.ok,?_⟩
   have:=f.yC
   rw[b8] at this
   rw[aa];simp at this;exact hA this
 ·intro g' s' h' st h he hd av
  have b8:x.rem=[]:=by
   cases b8:x.rem with
   |nil=>rfl
   |cons c r=>rw[(yn b8).1] at he;cases he
  rw[yo b8] at h
  have D:=f.c0.ba st h
  have v:cL T.plain g' ak:=by
   have b1:cL T.plain g ak:=⟨f.bw.la ak B.Bv B.nx.1,j B.eG B.nx.2⟩
   exact (b1.ba st eG).1
  have M:=st.keep ak _ eG (j B.eG B.nx.2)
  have au: ∀b o,b∉[ak]→s'.heap.get? b=I o→h'.get? b=I o:=λb o ae e=>av b o (by simpa using ae) e
  have aJ: ∀b∈[ak],∃o,h'.get? b=I o:=λb ae=>by rw[ep] at ae;subst ae;exact ⟨_,hd⟩
  refine H b8 g' _ ⟨((f.bw.trans (st.bw f.c0.wd)).weak B.fW).trans (.but (wr:=[ak]) (t:=s'.toks) (λb ae=>by rw[ep] at ae;subst ae;exact v) (λb ae z=>by rw[ep] at ae;subst ae;exact B.vp z) au aJ (bh _)),?_,f.ok,hd⟩
  exact (D.weak B.fW).but (wr:=[ak]) (t:=s'.toks) (λb ae=>by rw[ep] at ae;subst ae;exact ⟨v,_,_,M,rfl⟩) au aJ (bh _)
end
section
variable {T:cA} {K:aP→Prop} {L:gz} {A:eU} {g:G} {w:W} {s:aH} {cx:bY} {env:Env} {σ:aA} {a:ih} {x:cQ} {i c:Nat} {ak:aP} {acc:List Nat} {fd:hR} {P:Nat→Pos}
def BodyOk (T:cA) (cx:bY) (K':aP→Prop) (ak:aP) (i:Nat) (stop:Nat→Bool) (body:List cK):Prop:=
 ∀{env:Env} {σ:aA} {A:eU} {g:G} {w:W} {s:aH} {acc:List Nat} {x:cQ} {c:Nat},bQ T.plain K' cx env σ A g w s→iY i ak σ acc→c<0x110000→σ.get ft= .val (.str (d7 (I c)))→w[i]?=I x→acc.length+1+x.rem.length≤1048576→
  if stop c then cH T.plain K' cx env A (execs body env) g s (.ret (.str ⟨acc.toArray⟩),σ,w)
  else∃σ',iY i ak σ' (acc++(fG c x).1.toList)∧cH T.plain K' cx env A (execs body env) g s (.next,σ',w.set i (fG c x).2)
theorem set_set (w:W) (x y:cQ):(w.set i x).set i y=w.set i y:=Jj ..
theorem kW.Ho (i:kW g h .next fl): .next=fl:=match i with
 | .next=>rfl
theorem O4 {x:cQ} (h:x.rem=c::r):x.read=(I c,x.read.2):=by rw[←(yn h).1]
theorem TE.grow {h':bU} (b:TE T cx env A K ak i eP bk bf σ acc x g s) (d:dI s.heap h'):TE T cx env A K ak i eP bk bf σ acc x g {s with heap:=h'}:=by
 have t1:bW T.plain g s g {s with heap:=h'}:= .grow (h':=h') (t:=s.toks) (dr:=s.drawn) d (bh _)
 exact ⟨b.bw.trans (t1.bw b.c0.wd),b.c0.ba t1 (b.c0.wd.grow d (bh _)),b.ok,d _ _ b.dead⟩
theorem afI (N:px cx.sc) (f:bQ T.plain K cx env σ A g w s) (ok:iY i ak σ acc):cH T.plain K cx env A (exec (yp P) env) g s (.ret (.str ⟨acc.toArray⟩),σ,w):=by
 have b:ev 2 cx (.Name ju (P 3)) σ w=I (.str ⟨acc.toArray⟩,w):=xd N.tok ar ok.tok
 exact cH.ret f (((oZ T 2).1 2 (bh _)).ev b f.inn)
theorem PY {b:Bool} (a4:eg T L) (F:f6 T.cp L.gk fd [de]) (c9:ni fd) (N:px cx.sc) (hd:2≤cx.d) (d3:((P 10).endLine==(P 11).line)=ab) (f:bQ T.plain K cx env σ A g w s) (ok:iY i ak σ acc) (ag:c<0x110000) (aN:σ.get ft= .val (.str (d7 (I c)))) (af:w[i]?=I x) (bH:acc.length+1+x.rem.length≤1048576)
  (e:aS T.plain A (isTrue test env (eval test env)) g s (jh T.plain w b)):
  if b then cH T.plain K cx env A (execs [.If test [yp P] [uQ P] pos,uA P] env) g s (.ret (.str ⟨acc.toArray⟩),σ,w)
  else∃σ',iY i ak σ' (acc++(fG c x).1.toList)∧cH T.plain K cx env A (execs [.If test [yp P] [uQ P] pos,uA P] env) g s (.next,σ',w.set i (fG c x).2):=by
 induction b using d1 with
 |true=>
  rw[a_ rfl]
  refine cH.stop (cH.ite f e λg1 s1 f1=> ?_) (by simp)
  exact (a_ rfl)▸(cH.stop (afI N f1 ok) (by simp))
 |false=>
  rw[a3 ar]
  refine ⟨(mD c x σ).set ju (.val (.str ⟨(acc++(fG c x).1.toList).toArray⟩)),(xb ok).H2 _,?_⟩
  have hsz:=E_ c x
  refine cH.seq (σ1:=mD c x σ) (w1:=w.set i (fG c x).2) (cH.ite f e λg1 s1 f1=> ?_) λh s2 f2=> ?_
  ·rw[a3 ar]
   exact cH.seq (Ll (P:=P) a4 F c9 N hd d3 f1 ok ag aN af) λh s2 f2=>cH.nil f2
  ·exact cH.seq (JZ N f2 (xb ok) (Li aN) (by exact bE (cc bH hsz.1))) λj s3 dW=>cH.nil dW
theorem UD (a4:eg T L) (F:f6 T.cp L.gk fd [de]) (c9:ni fd) (N:px cx.sc) (hd:2≤cx.d) (d3:((P 10).endLine==(P 11).line)=ab):BodyOk T cx K ak i (·==34) (Kq P):=by
 intro env σ A g w s acc x c f ok ag aN af bH
 refine PY a4 F c9 N hd d3 f ok ag aN af bH ?_
 have gF:fE (d7 (I c))=true:=Cx λd e=>by cases e;exact ag
 have b:=((oZ T 4).1 4 (bh _)).fI (CT (n:=0) (p:=P 0) (q:=P 1) (r:=P 2) (w:=w) (z:=ao "\"") N.ch ar aN gF bx) f.inn
 rw[CG,sign_eq] at b
 rw[CG]
 exact b
theorem UB (a4:eg T L) (F:f6 T.cp L.gk fd [de]) (c9:ni fd) (N:px cx.sc) (hd:2≤cx.d) (d3:((P 10).endLine==(P 11).line)=ab):BodyOk T cx K ak i isWs (Ko P):=by
 intro env σ A g w s acc x c f ok ag aN af bH
 refine PY a4 F c9 N hd d3 f ok ag aN af bH ?_
 exact Qf a4 f.inn (by unfold held;rw[N.self];rfl) ok.self af N.ch ar aN
theorem NL {V:List Nat→cQ→Prop} (B:pw T L fd cx K K' ak ed t a i eP bk bf) (H:V acc x) (f:TI T cx env A K' ak i eP bk bf σ acc x g s)
  (m: ∀{acc x},V acc x→x.rem=[]→(acc,x)=r)
  (turn: ∀{σ acc x c g s},V acc x→x.rem=c::x.read.2.rem→c<0x110000→TI T cx env A K' ak i eP bk bf σ acc x.read.2 g s→σ.get ft= .val (.str (d7 (I c)))→acc.length+1+x.read.2.rem.length≤1048576→ ∀(E:az→aH→Prop) (Q:Flow→aH→Prop),
   (∀fl σ' j e g' s',(fl= .next∨fl= .cont)→V j e→e.rem.length≤x.read.2.rem.length→TI T cx env A K' ak i eP bk bf σ' j e g' s'→Q fl s')→(∀σ' g' s',TE T cx env A K ak i eP bk bf σ' r.1 r.2 g' s'→Q .next s')→(∀v s',R (.ok (.ret v)) s'→Q (.ret v) s')→aU T.mo A (execs body env) Q E s)
  (p: ∀σ' g' s',TE T cx env A K ak i eP bk bf σ' r.1 r.2 g' s'→R (.ok .next) s'):
  codeAny T.mo A (.forLoop (.Name ft cT) (.ref ak) body [] env) R s:=by
 refine akn (λk s'=>(∃x acc,k=x.rem.length+1∧V acc x∧ ∃σ g,TI T cx env A K' ak i eP bk bf σ acc x g s')∨(k=0∧ ∃σ g,TE T cx env A K ak i eP bk bf σ r.1 r.2 g s')) ?_ (x.rem.length+1) (.inl ⟨x,acc,rfl,H,σ,g,f⟩)
 refine λk s' h=>h.elim (λh=>fU h λx acc av v h=>hG h λσ g f=> ?_) λh=>hG h.2 λσ g d=>Vg (T:=T.plain) d.c0.b7.handled d.dead λh' u=>mm (p _ _ _ (d.grow u))
 refine aid B f (λb8 g1 s1 d=>mm (p _ _ _ (by rw[←m v b8];exact d))) λc q b8 ag g1 s1 J b=>bj ?_
 have ae:d2 cx.sc (.Name ft cT) (.str (d7 (I c))) σ=I (σ.set ft (.val (.str (d7 (I c))))):=a_ (by unfold dD;rw[B.N.ch];rfl)
 refine wQ (T:=T.plain) (K:=K') b.c0.b7.handled ae b.c0.wr b.c0.fr b.c0.wd (.str _ _) λs3 t3 D z dg=> ?_
 have l:=b8.trans (aQ _ (yn b8).2.symm)
 have au:acc.length+1+x.read.2.rem.length≤1048576:=by
  have:=f.yC
  rw[l,gR] at this
  exact bE this
 have o:x.read.2.rem.length+1<k:=by rw[av,l,gR];exact gv _
 exact turn v l ag ⟨b.bw.trans t3,b.c0.kept t3 D z dg,b.ok.Pk _,b.yC⟩ (by rw[aA.get_set,a_ rfl]) au _ _
  (λfl σ' j e g' s' y C le n=>by rcases y with rfl|rfl<;>exact ⟨_,gP (ml le) o,.inl ⟨e,j,rfl,C,σ',g',n⟩⟩)
  (λσ' g' s' d=>⟨0,gP (hC _) o,.inr ⟨rfl,σ',g',d⟩⟩) λv s' h=>h
theorem NK {R:r9→aH→Prop} (B:pw T L fd cx K K' ak ed t a i eP bk bf) (z:BodyOk T cx K' ak i stop body) (n:Nat) (a5:x.rem.length<n) (d:TI T cx env A K' ak i eP bk bf σ acc x g s)
  (o: ∀g' s' v σ',dc T.plain K' bk bf g' s'→bQ T.plain K' cx env σ' A g' (eP.set i (kj stop n acc x).2) s'→Is g'.B g'.aD s'.heap (.str ⟨(kj stop n acc x).1.toArray⟩) v→R (.ok (.ret v)) s')
  (q: ∀σ' g' s',TE T cx env A K ak i eP bk bf σ' (kj stop n acc x).1 (kj stop n acc x).2 g' s'→R (.ok .next) s'):
  codeAny T.mo A (.forLoop (.Name ft cT) (.ref ak) body [] env) R s:=by
 generalize b8:kj stop n acc x=r at o q
 refine NL (r:=r) (V:=λacc x=> ∃n,x.rem.length<n∧kj stop n acc x=r) B ⟨n,a5,b8⟩ d (λ{acc x} v e=>cM v λn a5 h=> ?_) (λ{σ acc x c g s} v af ag d aN bH E Q y J u=>cM v λn a5 h=> ?_) q
 ·obtain ⟨m,rfl⟩:=Jk (j6 (gP (hC _) a5))
  rw[kj,yo e] at h
  exact h
 ·obtain ⟨m,rfl⟩:=Jk (j6 (gP (hC _) a5))
  have h:(if stop c then (acc,x.read.2) else kj stop m (acc++(fG c x.read.2).1.toList) (fG c x.read.2).2)=r:=by rw[←h,kj,O4 af]
  have f:=z d.c0 d.ok ag aN (B.c3 x.read.2) bH
  by_cases au:stop c=ab
  ·rw[a_ au] at f h
   rw[←h] at o
   exact f _ _ λk s4 fl l f4 p=>p.O6 λv ev C=>ev▸u _ _ (o k s4 _ _ (d.bw.trans l) f4 C)
  ·rw[a3 au] at f h
   have b:=E_ c x.read.2
   rw[af,gR] at a5
   exact cM f λD j H=>H _ _ λk s4 fl l f4 p=>p.Ho▸y _ D _ _ k s4 (.inl rfl) ⟨m,by exact bE (cc (e8 a5) b.2),h⟩ b.2 ⟨d.bw.trans l,set_set _ _ _▸f4,j,by rw[er];exact bE (cc bH b.1)⟩
end
def Il (c:Nat) (x:cQ):List Nat×cQ:=if c=34 then kj (·==34) (x.rem.length+1) [] x else kj isWs ((fG c x).2.rem.length+1) (fG c x).1.toList (fG c x).2
theorem aik (n:Nat) {c:Nat} {x a:cQ} (h:x.read=(I c,a)):g! (n+1) x=if isWs c then g! n a else Il c a:=by
 rw[g!,h]
 refine ite_congr rfl (λZ=>rfl) λZ=> ?_
 unfold Il
 by_cases h:c=34
 ·rw[a_ h,h]
  exact aio _ _ _
 ·rw[a3 h,a3 λz=>h (dp z)]
  unfold fG
  by_cases aa:c=92
  ·rw[a_ aa,aa]
   exact P! _ _ _
  ·rw[a3 aa,a3 λz=>aa (dp z)]
   exact P! _ _ _
abbrev Kp (P lF lE:Nat→Pos):List cK:=
 [.If (.Compare (.Name ft (P 0)) [.In] [.Attribute (.Name de (P 1)) (ao "whitespace") (P 18)] (P 2)) [.Continue (P 3)] [] (P 4),
  .If (.Compare (.Name ft (P 19)) [.Eq] [.Constant (.str (ao "\"")) 0 (P 20)] (P 21))
   [.For (.Name ft (P 22)) (.Name nU (P 23)) (Kq lF) [] (P 24)]
   [uQ P,uA P,.For (.Name ft (P 25)) (.Name nU (P 26)) (Ko lE) [] (P 27)] (P 28)]
section
variable {T:cA} {K K':aP→Prop} {L:gz} {A:eU} {g g' bk:G} {w eP:W} {s s' bf:aH} {cx:bY} {env:Env} {σ:aA} {a:ih} {x:cQ} {i c:Nat} {E:az→aH→Prop} {ak ed:aP} {acc:List Nat} {fd:hR} {P lF lE:Nat→Pos} {t:Tok}
theorem Fq {Q:Flow→aH→Prop} {body:List cK} (N:px cx.sc) (f:bQ T.plain K cx env σ A g w s) (ok:iY i ak σ acc) (b:s.heap.get? ak=I o) (ag:o.cls= .type "callable_iterator")
  (h:codeAny T.mo A (.forLoop (.Name ft p1) (.ref ak) body [] env) (λr s'=>match r with| .ok f=>Q f s'| .error e=>cameBackBy T.mo A env E e s') s):
  aU T.mo A (exec (.For (.Name ft p1) (.Name nU p2) body [] p3) env) Q E s:=by
 exact wpAny_For (cM (f.fr.nm nU _ N.fit ar) λv nv jZ=>cM (ok.fit▸jZ:gA T.plain g s.heap (.val (.raw (.ref ak))) v) λu eu d=>nameP (T:=T.plain) f.fr N.fit (by rw[eu,d.Qz] at nv;exact nv) (Vh (T:=T.plain) b ag h)) (λZ=>rfl)
theorem acz {R:r9→aH→Prop} {cT:Pos} (B:pw T L fd cx K K' ak ed t a i eP bk bf) (J:((P 10).endLine==(P 11).line)=ab) (aa:((lF 10).endLine==(lF 11).line)=ab) (ay:((lE 10).endLine==(lE 11).line)=ab)
  (n:Nat) (a5:x.rem.length<n) (j:TI T cx env A K' ak i eP bk bf σ [] x g s)
  (H: ∀g' s' v σ',dc T.plain K' bk bf g' s'→bQ T.plain K' cx env σ' A g' (eP.set i (g! n x).2) s'→Is g'.B g'.aD s'.heap (.str ⟨(g! n x).1.toArray⟩) v→R (.ok (.ret v)) s')
  (oI: ∀σ' g' s',TE T cx env A K ak i eP bk bf σ' (g! n x).1 (g! n x).2 g' s'→R (.ok .next) s'):
  codeAny T.mo A (.forLoop (.Name ft cT) (.ref ak) (Kp P lF lE) [] env) R s:=by
 generalize b8:g! n x=r at H oI
 refine NL (r:=r) (V:=λacc x=>acc=[]∧ ∃n,x.rem.length<n∧g! n x=r) B ⟨rfl,n,a5,b8⟩ j (λ{acc x} v e=>v.1▸cM v.2 λn a5 h=> ?_) (λ{σ acc x c g s} v af ag j aN bH E Q GX M O=>cM v.2 λn a5 h=> ?_) oI
 ·obtain ⟨m,rfl⟩:=Jk (j6 (gP (hC _) a5))
  rw[g!,yo e] at h
  exact h
 ·obtain ⟨m,rfl⟩:=Jk (j6 (gP (hC _) a5))
  rw[aik _ (O4 af)] at h
  obtain ⟨rfl,_⟩:=v
  have lW:held cx.sc de=true:=by unfold held;rw[B.N.self];rfl
  have X:=B.c3 x.read.2
  refine gQ (y? (Qf B.a4 j.c0.inn lW j.ok.self X B.N.ch ar aN _ _ λdJ s4 b Z jc=>jc.2▸ ?_))
  have f4:=j.c0.ba Z jc.1
  have qB:=j.bw.trans (Z.bw j.c0.wd)
  by_cases hw:isWs c=ab
  ·rw[a_ hw] at h⊢
   rw[af,gR] at a5
   exact gQ ((arm_exec_Continue ..).symm▸aw (fF (bj (GX _ σ [] x.read.2 dJ s4 (.inr rfl) ⟨rfl,m,Sk a5,h⟩ (bh _) ⟨qB,f4,j.ok,j.yC⟩))))
  rw[a3 hw] at h⊢
  refine mm ?_
  have gF:fE (d7 (I c))=true:=Cx λd e=>inj e▸ag
  have y:=((oZ T 4).1 4 (bh _)).fI (CT (n:=0) (p:=P 19) (q:=P 20) (r:=P 21) (w:=eP.set i x.read.2) (z:=ao "\"") B.N.ch ar aN gF aY) f4.inn
  rw[CG,sign_eq] at y
  rw[CG]
  refine gQ (y? (y _ _ λf_ s5 b jA n2=>n2.2▸ ?_))
  have j!:=f4.ba jA n2.1
  have u:=qB.trans (jA.bw f4.wd)
  clear y gF f4
  unfold Il at h
  have fin: ∀{eF:Flow→aH→Prop} {σ' g' s'},TE T cx env A K ak i eP bk bf σ' r.1 r.2 g' s'→aU T.mo A (execs [] env) (λf s'=>match f with| .next=>Q .next s'|_=>eF f s') E s':=λk=>mm (M _ _ _ k)
  by_cases o:c=34
  ·rw[a_ o] at h
   rw[o,a_ ar]
   refine gQ (Fq B.N j! j.ok (u.old ak _ B.Bv B.eG B.nx.2) rfl ?_)
   refine NK B (UD B.a4 B.F B.c9 B.N B.hd aa) (x.read.2.rem.length+1) (gv _) ⟨u,j!,j.ok,j.yC⟩ ?_ ?_
   ·exact h▸(λg' s' v σ' bw c0 D=>O _ _ (H g' s' v σ' bw c0 D))
   ·exact h▸(λσ' g' s' k=>mm (mm (M _ _ _ k)))
  ·rw[a3 o] at h
   rw[a3 (c:=((I c:Option Nat)==I 34)=ab) λz=>o (inj (dp z))]
   have l:=(E_ c x.read.2).1
   refine gQ (Ll (P:=P) B.a4 B.F B.c9 B.N B.hd J j! j.ok ag aN X _ _ λlN iw fl lp hn Φ=>Φ.Ho▸ ?_)
   refine gQ (JZ (P:=P) (acc:=[]) B.N (set_set _ _ _▸hn:bQ T.plain K' cx env (mD c x.read.2 σ) A lN (eP.set i (fG c x.read.2).2) iw) (xb j.ok) (Li aN) (by exact bE (cc bH l)) _ _ λalO Cr fl C lM Χ=>Χ.Ho▸ ?_)
   have Y:=(u.trans lp).trans C
   refine gQ (Fq B.N lM ((xb (c:=c) (x:=x.read.2) j.ok).H2 ([]++(fG c x.read.2).1.toList)) (Y.old ak _ B.Bv B.eG B.nx.2) rfl ?_)
   refine NK B (UB B.a4 B.F B.c9 B.N B.hd ay) ((fG c x.read.2).2.rem.length+1) (gv _) ⟨Y,lM,(xb (c:=c) (x:=x.read.2) j.ok).H2 _,by rw[Sl];exact cG l bH⟩ ?_ ?_
   ·rw[Sl,h]
    exact λg' s' v σ' bw c0 D=>O _ _ (H g' s' v σ' bw c0 D)
   ·rw[Sl,h]
    exact λσ' g' s' k=>mm (mm (M _ _ _ k))
end
theorem ahS (l:List (Str×Tok)):(strValues l).length=l.length:=df _
theorem iX.HJ (l:iX P C cp B h a x d):(strValues d.kJ).toArray.size≤1048576:=by
 rw[eK,ahS,←df (f:=(·.1)),l.push]
 exact l.tF
theorem iX.Oa (l:iX P C cp B h a x d) (f:cS B h B h') (c: ∀b o,b≠a.ck→h.get? b=I o→h'.get? b=I o)
  (ae:dk h' a.ck (strValues kJ).toArray) (aC:kJ.map (·.1)=y) (e:y.length≤1048576):vl P C cp B h' a {x with push:=y}:=
 ⟨_,l.upd (y:={x with push:=y}) f (c _ _ l.ne.2.1 l.dict) (l.bP.imp λo q=>⟨c _ _ l.ne.2.2.symm q.1,q.2⟩) ae aC e l.rem⟩
theorem ON (a4:eg T L) (C:cO T.plain cx env σ A g w s) (au:held cx.sc de=ab) (aN:σ.get de= .val (.obj i)) (af:w[i]?=I x):
  aS T.plain A (isTrue (.Attribute (.Name de p1) (ao "pushback") p2) env (eval (.Attribute (.Name de p1) (ao "pushback") p2) env)) g s (jh T.plain w (!x.push.isEmpty)):=by
 intro E Q q
 obtain ⟨k,a,av,c,aJ⟩:=vR C.fr au aN
 obtain ⟨ld,l⟩:=a4.at_ C.wd.ee aJ af
 show aU _ A (do let v←eval (.Attribute (.Name de p1) (ao "pushback") p2) env;standAt p2;holding [v] (truthy v)) Q E s
 refine aw (x2 (T:=T) (a:=a) (v:= .ref a.ck) (od:=hK T.w.params ld.bp ld.bK ld.dg ld.ey (.int x.line ld.t) (.ref ld.src) (.str (ao "\n\t\r ") ld.eA) (.ref a.ck)) a4 rfl a4.oV G_ rfl ?_)
 refine nameP (T:=T.plain) C.fr av c ⟨g,w,C.wd.ee,rfl,l.instAt,?_⟩
 have t1:bW T.plain g s g {s with toks:=s.toks+1+1+1}:= .grow (h':=s.heap) (t:=s.toks+1+1+1) (dr:=s.drawn) (λb o e=>e) (by simp+arith only)
 refine aw (fF (fK ?_))
 have bH:=l.HJ
 refine wpAny_truthy_list (items:=(strValues ld.kJ).toArray) l.ck.eW ajz ?_
 have he:(!(strValues ld.kJ).toArray.isEmpty)=(!x.push.isEmpty):=by
  rw[←l.push]
  cases ld.kJ<;>rfl
 rw[he]
 exact q g _ _ t1 ⟨C.wd.grow (λb o e=>e) (by show s.toks≤s.toks+1+1+1;simp+arith only),rfl⟩
theorem ae2 (a4:eg T L) (C:cO T.plain cx env σ A g w s) (au:held cx.sc de=ab) (aN:σ.get de= .val (.obj i)) (af:w[i]?=I x) (aC:x.push=t::r) (O:(X.endLine==u.line)=ab):
  aS T.plain A (eval (.Call (.Attribute (.Attribute (.Name de p2) (ao "pushback") p3) (ao "pop") X) [.Constant (.int 0) 0 P] [] u) env) g s (Res T.plain (w.set i {x with push:=r}) (.str t)):=by
 intro E Q q
 obtain ⟨k,a,av,R,aJ⟩:=vR C.fr au aN
 obtain ⟨ld,l⟩:=a4.at_ C.wd.ee aJ af
 obtain ⟨⟨y,aG⟩,c,H⟩: ∃p c,ld.kJ=p::c:=by
  have:=l.push
  rw[aC] at this
  cases M:ld.kJ with
  |nil=>rw[M] at this;cases this
  |cons p c=>exact ⟨p,c,rfl⟩
 have j:=l.push
 rw[H,aC] at j
 have J:y=t:=akQ j
 have aa:c.map (·.1)=r:=List.tail_eq_of_cons_eq j
 subst J
 have D:=l.ck
 have bH:=l.HJ
 rw[H] at D bH
 refine gj D.raw λm f=> ?_
 refine Dp (pH rfl) (uT (show 1<20 from by decide) rfl) O ?_
 refine x2 (T:=T) (a:=a) (v:= .ref a.ck) (od:=hK T.w.params ld.bp ld.bK ld.dg ld.ey (.int x.line ld.t) (.ref ld.src) (.str (ao "\n\t\r ") ld.eA) (.ref a.ck)) a4 rfl a4.oV G_ rfl ?_
 refine nameP (T:=T.plain) C.fr av R ⟨g,w,C.wd.ee,rfl,l.instAt,?_⟩
 refine ⟨"list","list.pop",I5,F.slot_list_pop,F.type_list_pop,D.eW.typeIs,λb e=>by cases e;exact ⟨_,f,rfl⟩,t9 rfl (we (y8 ?_))⟩
 rw[a3 cv]
 refine Dh (t6 ?_)
 have ez:=x8 f (λd=>d.eraseIdxIfInBounds 0) (its':=(strValues c).toArray) (by simp[strValues])
 refine y9 F.slot_list_pop ⟨_,f,rfl⟩ F.entry_list_pop (F.args_list_pop_2 _ _) (MeetsSeq.list_pop_at a.ck (strValues ((y,aG)::c)).toArray m 0 _ 0 (.str y aG) bx (by simp[strValues,seqIndex?]) (by simp[strValues]) (by rw[t_];exact cW bH rfl)) ⟨f,?_⟩
 have h: ∀b o,b≠a.ck→s.heap.get? b=I o→(s.heap.update a.ck (rY λd=>d.eraseIdxIfInBounds 0)).get? b=I o:=λb o ae e=>ez.2 b o ae e
 have bJ:cS g.B s.heap g.B (s.heap.update a.ck (rY λd=>d.eraseIdxIfInBounds 0)):=λb o e n=>⟨h b o (λz=>n (z▸C.wd.dG _ (.inr ⟨a,ia aJ,.inr (.inr rfl)⟩))) e,n⟩
 have e6:=l.tF
 rw[aC,gR] at e6
 have S:=BD (s':={s with heap:=s.heap.update a.ck (rY λd=>d.eraseIdxIfInBounds 0),toks:=s.toks+1+1}) (x:={x with push:=r}) C.wd.ee aJ (λb o Z Z ay e=>h b o ay e)
  (λb o e=>if ae:b=a.ck then ez.1.imp λo q=>(aQ (Heap.get? _) ae).trans q.1 else ⟨o,h b o ae e⟩) (by rw[a4.c3];exact l.Oa bJ h ez.1 aa (hA e6)) rfl rfl (by exact gw s.toks 2)
 exact q _ _ _ S.1.gN ⟨S.2.gN,.str _ _⟩
abbrev ae8 (R:Nat→Pos):List cK:=[.Expr (.Call (.Attribute (.Attribute (.Name de (R 0)) (ao "pushback") (R 1)) (ao "append") (R 2)) [.Name (ao "token") (R 3)] [] (R 4)) (R 5)]
structure zF (fd:hR):Prop where
 d?: ∃R,fd.body= .stmts (ae8 R)∧((R 2).endLine==(R 4).line)=ab
 self:fd.scope.names.lookup de=I .local
 tok:fd.scope.names.lookup (ao "token")=I .local
theorem TJ (a4:eg T L) (C:cO T.plain cx env σ A g w s) (au:held cx.sc de=ab) (aN:σ.get de= .val (.obj i)) (f:cx.sc.names.lookup (ao "token")=I kt) (r:kt≠ .globalImplicit) (X:σ.get (ao "token")= .val (.str t)) (af:w[i]?=I x) (c:x.push.length<1048576) (y:(p2.endLine==O.line)=ab):
  aS T.plain A (eval (.Call (.Attribute (.Attribute (.Name de D) (ao "pushback") p1) (ao "append") p2) [.Name (ao "token") p3] [] O) env) g s (Res T.plain (w.set i {x with push:=x.push++[t]}) .none):=by
 intro E Q q
 obtain ⟨k,a,av,H,aJ⟩:=vR C.fr au aN
 obtain ⟨ld,l⟩:=a4.at_ C.wd.ee aJ af
 obtain ⟨ut,P,st⟩:=C.fr.nm _ kt f r
 rw[X] at st
 obtain ⟨u,rfl,J⟩:=st
 obtain ⟨aG,rfl⟩:=J.h9
 have p:=l.ck
 have bH:=l.HJ
 refine gj p.raw λm h=> ?_
 refine Dp (pH rfl) (uT (show 1<20 from by decide) rfl) y ?_
 refine x2 (T:=T) (a:=a) (v:= .ref a.ck) (od:=hK T.w.params ld.bp ld.bK ld.dg ld.ey (.int x.line ld.t) (.ref ld.src) (.str (ao "\n\t\r ") ld.eA) (.ref a.ck)) a4 rfl a4.oV G_ rfl ?_
 refine nameP (T:=T.plain) C.fr av H ⟨g,w,C.wd.ee,rfl,l.instAt,?_⟩
 have t1:bW T.plain g s g {s with toks:=s.toks+1}:= .grow (h':=s.heap) (t:=s.toks+1) (dr:=s.drawn) (λb o e=>e) (jD _)
 have R:=C.ba t1 (C.wd.grow (λb o e=>e) (by show s.toks≤s.toks+1;exact jD _))
 refine ⟨"list","list.append",I5,akl,akm,p.eW.typeIs,λb e=>by cases e;exact ⟨_,h,rfl⟩,t9 rfl (we (y8 ?_))⟩
 rw[a3 cv]
 refine nameP (T:=T.plain) R.fr f (P.ba t1 C.wd C.fr.loc) (t6 ?_)
 refine I8 (hsz:=by rw[t_];exact cW bH rfl) h λh' f3 M=> ?_
 have d: ∀b o,b≠a.ck→s.heap.get? b=I o→h'.get? b=I o:=λb o ae e=>(f3.2 b ae).trans e
 have bJ:cS g.B s.heap g.B h':=λb o e n=>⟨d b o (λz=>n (z▸C.wd.dG _ (.inr ⟨a,ia aJ,.inr (.inr rfl)⟩))) e,n⟩
 have j:dk h' a.ck (strValues (ld.kJ++[(t,aG)])).toArray:=by
  refine ⟨_,M,rfl,m+1,?_⟩
  simp[strValues]
 have S:=BD (s':={s with heap:=h',toks:=s.toks+1}) (x:={x with push:=x.push++[t]}) C.wd.ee aJ (λb o Z Z ay e=>d b o ay e)
  (λb o e=>if ae:b=a.ck then j.imp λo q=>(aQ (Heap.get? _) ae).trans q.1 else ⟨o,d b o ae e⟩) (by rw[a4.c3];exact l.Oa bJ d j (by rw[kR,l.push];rfl) (by rw[er];exact c)) rfl rfl (jD _)
 exact q _ _ _ S.1.gN ⟨S.2.gN,.none⟩
abbrev aii (P lF lE R:Nat→Pos):List cK:=
 [.If (.Attribute (.Name de (R 0)) (ao "pushback") (R 1)) [.Return (I (.Call (.Attribute (.Attribute (.Name de (R 2)) (ao "pushback") (R 3)) (ao "pop") (R 4)) [.Constant (.int 0) 0 (R 5)] [] (R 6))) (R 7)] [] (R 8),
  .Assign [.Name ju (R 9)] (.Constant (.str (ao "")) 0 (R 10)) (R 11),
  .Assign [.Name nU (R 12)] (.Call (.Name (ao "iter") (R 13)) [.Attribute (.Name de (R 14)) (ao "_read_char") (R 15),.Constant (.str (ao "")) 0 (R 16)] [] (R 17)) (R 18),
  .For (.Name ft (R 19)) (.Name nU (R 20)) (Kp P lF lE) [] (R 21),
  .Return (I (.Name ju (R 22))) (R 23)]
structure zM (fd:hR):Prop where
 d?: ∃P lF lE R,fd.body= .stmts (aii P lF lE R)∧((R 4).endLine==(R 6).line)=ab∧((P 10).endLine==(P 11).line)=ab∧((lF 10).endLine==(lF 11).line)=ab∧((lE 10).endLine==(lE 11).line)=ab
 N:px fd.scope
section
variable {T:cA} {L:gz} {A:eU} {g g' g1:G} {w w1:W} {s s' s1:aH} {cx:bY} {env:Env} {σ:aA} {a:ih} {x:cQ} {i:Nat} {E:az→aH→Prop} {fd oB:hR} {P lF lE:Nat→Pos} {t:Tok}
set_option backward.match.sparseCases true in
theorem LG {P:G→aH→az→Prop} (F:f6 T.cp f fd ns) (d?:fd.body= .stmts body) (hw:aW T g w s) (b7:Room (20*k+30) A) (aX:IsL g.B g.aD s.heap vs us) (c:vs.length=ns.length)
  (h: ∀env g1 s1,bQ T (λb=> ∃o,s.heap.get? b=I o) ⟨T.dx,k,fd.scope⟩ env (ns.zip (vs.map .val)) (A.deeper env) g1 w s1→bW T g s g1 s1→(env.code=fd.code∧env.qual=fd.qualname++(".<locals>.":Str))→ ∀(E:az→aH→Prop) (Q:Flow→aH→Prop),(∀g' s' fl,dc T (λb=> ∃o,s.heap.get? b=I o) g1 s1 g' s'→P g' s' (match fl with| .ret v=>v|_=> .none)→Q fl s')→aU T.mo (A.deeper env) (execs body env) Q E s1):
  nh T A (.call (.ref f) ⟨us,[]⟩) g s P:=by
 intro R q
 obtain ⟨o,d⟩:=F.at_
 have j:=d.1
 have ag:=d.2.1
 have n:=d.2.2
 have base:dI T.cp s.heap:=λb o e=>(hw.base b o e).1
 refine xl (base _ _ j) n F.f1 F.f2 F.dW d? F.sF F.oD F.pW F.pX (F.mI.keeps base) F.a5 F.f4 F.j! F.hn F.lM F.f8 F.pU F.pT hw b7 aX c λenv g1 s1 t1 c0 af p=> ?_
 exact h env g1 s1 c0 t1 af p _ λm s2 v t2 l=>q m s2 _ (t1.yF hw t2) l
theorem LF (F:f6 T.cp f fd ns) (d?:fd.body= .stmts body) (hw:aW T g w s) (b7:Room (20*k+30) A) (aX:IsL g.B g.aD s.heap vs us) (c:vs.length=ns.length)
  (h: ∀env g1 s1,bQ T (λb=> ∃o,s.heap.get? b=I o) ⟨T.dx,k,fd.scope⟩ env (ns.zip (vs.map .val)) (A.deeper env) g1 w s1→bW T g s g1 s1→(env.code=fd.code∧env.qual=fd.qualname++(".<locals>.":Str))→ ∀(E:az→aH→Prop) (Q:Flow→aH→Prop),(∀g' s' v,dc T (λb=> ∃o,s.heap.get? b=I o) g1 s1 g' s'→aW T g' w' s'→Is g'.B g'.aD s'.heap p v→Q (.ret v) s')→aU T.mo (A.deeper env) (execs body env) Q E s1):
  nh T A (.call (.ref f) ⟨us,[]⟩) g s (Res T w' p):=by
 intro R q
 obtain ⟨o,d⟩:=F.at_
 have j:=d.1
 have ag:=d.2.1
 have r:=d.2.2
 have base:dI T.cp s.heap:=λb o e=>(hw.base b o e).1
 refine xl (base _ _ j) r F.f1 F.f2 F.dW d? F.sF F.oD F.pW F.pX (F.mI.keeps base) F.a5 F.f4 F.j! F.hn F.lM F.f8 F.pU F.pT hw b7 aX c λenv g1 s1 t1 c0 af u=> ?_
 exact h env g1 s1 c0 t1 af u _ λn s2 v t2 l m=>q n s2 _ (t1.yF hw t2) ⟨l,m⟩
theorem iX.size {P:iE} {C:aP} {cp:bU} {B:aP→Prop} {h:bU} {d:Ec} (l:iX P C cp B h a x d):x.rem.length≤1048576:=by
 rw[←l.rem,pf]
 exact cG (rW _ _) l.len
theorem Pl {α:Type} {l:List α} {i:Nat} {x:α} (h:l[i]?=I x):l.set i x=l:=(hh.mp h).elim λaI e=>e▸List.set_getElem_self aI
theorem Wx {p q r s t:Prop} {G:Prop} (h:p∧q∧r∧s∧t) (k:p→q→r→s→t→G):G:=k h.1 h.2.1 h.2.2.1 h.2.2.2.1 h.2.2.2.2
theorem air (a4:eg T L) (F:f6 T.cp L.gk fd [de]) (c9:ni fd) (r_:f6 T.cp L.q4 oB [de]) (c:zM oB) (d:aW T g w s) (aJ:g.aD[i]?=I a) (af:w[i]?=I x) (b7:Room 70 A):
  nh T.plain A (.call (.ref L.q4) ⟨[.ref a.x],[]⟩) g s (Res T.plain (w.set i x.token.2) (.str x.token.1)):=(a4.at_ d aJ af).elim λld l=>c.d?.elim λP d?=>hG d? λlF lE d?=>h! d? λR d?=>Wx d? λd? h0 J aa ay=>by
 have O:held oB.scope de=true:=by unfold held;rw[c.N.self];rfl
 by_cases aC: ∃t r,x.push=t::r
 ·obtain ⟨t,r,aC⟩:=aC
  have M:x.token=(t,{x with push:=r}):=by
   unfold cQ.token;rw[aC]
  rw[M]
  refine LF (T:=T.plain) (k:=2) (vs:=[.obj i]) r_ d? d.gN b7 (.cons (.obj aJ) .nil) rfl λenv g1 s1 c0 st _ E Q q=> ?_
  refine gQ (y? (ON a4 c0.inn O rfl af _ _ λg2 s2 b t2 j=> ?_))
  rw[j.2,aC,a_ (show (!(t::r).isEmpty)=ab from rfl)]
  have f2:=c0.ba t2 j.1
  exact gQ (Ds (ae2 a4 f2.inn O rfl af aC h0 _ _ λlN iw v lp m=>q lN iw v ((t2.bw c0.wd).trans (lp.bw f2.wd)) m.1 m.2))
 have MO:x.push=[]:=by
  cases a':x.push with
  |nil=>rfl
  |cons t r=>exact (aC ⟨t,r,a'⟩).elim
 have M:x.token=(⟨(g! (x.rem.length+1) x).1.toArray⟩,(g! (x.rem.length+1) x).2):=by
  unfold cQ.token;rw[MO]
 rw[M]
 have hsz:=l.size
 clear l M
 refine LF (T:=T.plain) (k:=2) (vs:=[.obj i]) r_ d? d.gN b7 (.cons (.obj aJ) .nil) rfl λenv g1 s1 c0 st _ E Q q=> ?_
 refine gQ (y? (ON a4 c0.inn O rfl af _ _ λg2 s2 b t2 j=> ?_))
 rw[j.2,MO,a3 (show¬(!([]:List Str).isEmpty)=ab from cv)]
 have f2:=c0.ba t2 j.1
 refine mm ?_
 refine gQ (zS (T:=T.plain) (p:= .str (ao "")) (w1:=w) (mb rfl) f2 (by unfold dD;rw[c.N.tok];rfl) (((oZ T 1).1 1 (bh _)).ev rfl f2.inn) λf s3 t3 dW=> ?_)
 have PJ:=(t2.bw c0.wd).trans t3
 have D:aA.set (([de]:List Str).zip ([U.obj i].map .val)) ju (.val (.str (ao "")))=[(de,.val (.obj i)),(ju,.val (.str (ao "")))]:=aY
 replace dW:=D▸dW
 clear f2 t2 t3 D
 refine fU (vR dW.fr O rfl) λk hU av c' Mc=> ?_
 have h: ∀n,s3.heap.get? (s3.heap.objs.size+n)=none:=λn=>kP (gw _ _)
 refine gQ (J9 (T:=T.plain) (cx:=⟨T.plain.dx,2,oB.scope⟩) (σ:=[(de,.val (.obj i)),(ju,.val (.str (ao "")))]) (mb rfl) (by unfold dD;rw[c.N.fit];rfl) ?_)
 refine acV (T:=T) a4 dW.inn c.N.iter ⟨k,av⟩ c' Mc af λt h' C=> ?_
 have Y:dI s3.heap h':=λb o e=>C▸dE _ (dE _ e)
 have u:h'.get? (s3.heap.objs.size+1)=I (z4 s3.heap.objs.size t):=by
  exact C▸(hb s3.heap (methodObj (.ref L.gk) (.ref hU.x)))▸(d9 _ rfl)
 have y:h'.get? s3.heap.objs.size=I (methodObj (.ref L.gk) (.ref hU.x)):=C▸dE _ (d9 _ rfl)
 clear C
 have e9:bW T.plain f s3 (f.news s3.heap h') {s3 with heap:=h',toks:=s3.toks+2}:= .news Y (gw _ 2)
 have Ad:aW T.plain (f.news s3.heap h') w {s3 with heap:=h',toks:=s3.toks+2}:=dW.wd.news Y (gw _ 2)
 have fn:=dW.more (X:=λb=>b=s3.heap.objs.size+1∨b=s3.heap.objs.size) e9 Ad λb ae=>ae.elim (λe=>e▸⟨h 1,_,u⟩) λe=>e▸⟨h 0,_,y⟩
 have nx:cL T.plain (f.news s3.heap h') (s3.heap.objs.size+1):=G.nX dW.wd (h 1) u
 have bm:cL T.plain (f.news s3.heap h') s3.heap.objs.size:=G.nX dW.wd (h 0) y
 refine ⟨λb=>(∃o,s.heap.get? b=I o)∨(b=s3.heap.objs.size+1∨b=s3.heap.objs.size),_,w,.raw (.ref (s3.heap.objs.size+1)),fn,.raw _,λs4 Z f4=> ?_⟩
 have hk:aA.set [(de,.val (.obj i)),(ju,.val (.str (ao "")))] nU (.val (.raw (.ref (s3.heap.objs.size+1))))=[(de,.val (.obj i)),(ju,.val (.str (ao ""))),(nU,.val (.raw (.ref (s3.heap.objs.size+1))))]:=aY
 replace f4:=hk▸f4
 have L4:iY i (s3.heap.objs.size+1) [(de,.val (.obj i)),(ju,.val (.str (ao ""))),(nU,.val (.raw (.ref (s3.heap.objs.size+1))))] []:=⟨by kernel_rfl,by kernel_rfl,by kernel_rfl⟩
 have L8:=Z.old _ _ (.inr (.inl rfl)) u nx.2
 have qB:dc T.plain (λb=> ∃o,s.heap.get? b=I o) g1 s1 (f.news s3.heap h') s4:=(PJ.trans (e9.bw dW.wd)).trans (Z.weak λb z=> .inl z)
 have B:pw T L fd ⟨T.plain.dx,2,oB.scope⟩ (λb=> ∃o,s.heap.get? b=I o) (λb=>(∃o,s.heap.get? b=I o)∨(b=s3.heap.objs.size+1∨b=s3.heap.objs.size)) (s3.heap.objs.size+1) s3.heap.objs.size t hU i w (f.news s3.heap h') s4:=
  ⟨a4,F,c9,c.N,bh 2,(hh.mp af).1,Mc,L8,Z.old _ _ (.inr (.inr rfl)) y bm.2,nx,bm.2,.inr (.inl rfl),.inr (.inr rfl),λz=>z.elim λo e=>(st.ex _ o e).elim λhr aK=>(PJ.ex _ hr aK).elim λn0 D=>nn ((h 1).symm.trans D),λb z=> .inl z⟩
 clear Y u y e9 Ad fn nx bm h c'
 refine gQ (Fq c.N f4 L4 L8 rfl (acz (T:=T) B J aa ay (x.rem.length+1) (gv _) ⟨.refl,(Pl af).symm▸f4,L4,by rw[RN,pj];exact hsz⟩ (λg' s' v σ' jA j! cV=>q g' s' v (qB.trans (jA.weak λb z=> .inl z)) j!.wd cV) λσ' g' s' H=>gQ ?_))
 have sW:ev 2 ⟨T.plain.dx,2,oB.scope⟩ (.Name ju (R 22)) σ' (w.set i (g! (x.rem.length+1) x).2)=I (.str ⟨(g! (x.rem.length+1) x).1.toArray⟩,w.set i (g! (x.rem.length+1) x).2):=xd c.N.tok ar H.ok.tok
 exact Ds (((oZ T 2).1 2 (bh _)).ev sW H.c0.inn _ _ λlN iw v lp m=>q lN iw v ((qB.trans H.bw).trans (lp.bw H.c0.wd)) m.1 m.2)
end
theorem V8 (a4:eg T L) (C:cO T cx env σ A g w s) (ae:baseOk o=ab) (h:aS T A (eval o env) g s (Res T w1 (.obj i))) (d:w1[i]?=I l):
  aS T A (eval (.Attribute o (ao "lineno") ap) env) g s (Res T w1 (.int l.line)):=by
 intro E Q q
 rw[Sf,pH ae]
 refine aw (h E _ λg1 s1 v t1 f=> ?_)
 obtain ⟨c,i1⟩:=f
 obtain ⟨a,aJ,rfl⟩:=i1.vx
 obtain ⟨ld,li⟩:=a4.at_ c aJ d
 refine aw (fF (aw (fK ?_)))
 refine G5 a4 c li.instAt a4.cP G' rfl (aw (Sg (bj ?_)))
 have t2:bW T g1 s1 g1 {s1 with toks:=s1.toks+1}:= .grow (h':=s1.heap) (t:=s1.toks+1) (dr:=s1.drawn) (λb o e=>e) (by exact gw _ _)
 exact q g1 _ _ (t1.trans t2) ⟨c.grow (λb o e=>e) (by show s1.toks≤s1.toks+1;exact gw _ _),.int _ _⟩
theorem V_ (a4:eg T L) (F:f6 T.cp L.gk fd [de]) (c9:ni fd) (j:f6 T.cp L.q4 oB [de]) (n:zM oB) (C:cO T cx env σ A g w s) (hd:4≤cx.d) (ae:baseOk o=ab) (aC:(ap.endLine==pos.line)=ab) (h:aS T A (eval o env) g s (Res T w1 (.obj i))) (c:w1[i]?=I l):
  aS T A (eval (.Call (.Attribute o (ao "get_token") ap) [] [] pos) env) g s (Res T (w1.set i l.token.2) (.str l.token.1)):=by
 intro E Q q
 refine z2 (T:=T) ae aC (show 0<20 from by decide) (by rfl) ?_
 refine h E _ λg1 s1 v t1 k=> ?_
 obtain ⟨b,i1⟩:=k
 obtain ⟨a,aJ,rfl⟩:=i1.vx
 obtain ⟨ld,li⟩:=a4.at_ b aJ c
 intro bP
 refine method_fn (K:=T.K) (C:=L.C) b.jr li.instAt a4.u2 a4.xE a4.bZ a4.PU agF ?_
 obtain ⟨of,r,ag,f⟩:=j.at_
 have p:FnAt L.q4 s1.heap:=by
  obtain ⟨t,od,u,sl⟩:=of
  dsimp only at ag f
  subst ag f
  exact ⟨_,_,_,_,(b.base _ _ r).1⟩
 exact callWith_F0 p ((air a4 F c9 j n b aJ c (C.b7.less (show 70≤20*cx.d+20 by exact bE (lm 20 hd)))).uS.ee E Q λm s2 v t2 e=>q m s2 v (t1.trans t2) ⟨e.1.ee,e.2⟩)
theorem xi (L:gz): ∀l:List (Bool×az),TriplesOk (l.flatMap L.ent)
 |[]=>trivial
 |e::l=>xi L l
theorem Ax (L:gz) (el:((L.l6.line:Int)==(L.gL.line:Int)&&(L.l6.col:Int)==(L.gL.col:Int))=aq) (b:Bool): ∀l:List (Bool×az),codeAmong (L.at_ b) (l.flatMap L.ent)=l.lookup b:=by
 intro f
 induction f with
 |nil=>
  exact rfl
 |cons hd l e=>
  obtain ⟨a,c⟩:=hd
  show (if ((L.at_ a).line:Int)==((L.at_ b).line:Int)&&((L.at_ a).col:Int)==((L.at_ b).col:Int) then I c else codeAmong (L.at_ b) (l.flatMap L.ent))=_
  rw[nc,e]
  have d:((L.gL.line:Int)==(L.l6.line:Int)&&(L.gL.col:Int)==(L.l6.col:Int))=false:=by
   rw[hB] at el⊢
   intro h
   apply el
   simp only[j3,beq_iff_eq] at h⊢
   exact ⟨h.1.symm,h.2.symm⟩
  induction b using d1<;>cases a
  ·simp[gz.at_]
  ·show (if ((L.l6.line:Int)==(L.gL.line:Int)&&(L.l6.col:Int)==(L.gL.col:Int))=ab then I c else l.lookup aq)=_
   rw[el];rfl
  ·show (if ((L.gL.line:Int)==(L.l6.line:Int)&&(L.gL.col:Int)==(L.l6.col:Int))=ab then I c else l.lookup ab)=_
   rw[d];rfl
  ·simp[gz.at_]
theorem ah7 (d:aW T g w s) (d3:T.dZ=I P) (k: ∀b o,b≠P→s.heap.get? b=I o→s'.heap.get? b=I o) (af: ∃o,s'.heap.get? P=I o)
  (new:T.sf g.B s'.heap) (gens:s'.gens=s.gens) (os:s'.os=s.os) (aG:s.toks≤s'.toks):bW T g s g s'∧aW T g w s':=by
 have wP:et T.dZ g.aD P:= .inl d3
 have bJ:cS g.B s.heap g.B s'.heap:=λb o e n=>⟨k b o (λz=>n (z▸d.dG P wP)) e,n⟩
 have ex: ∀b o,s.heap.get? b=I o→ ∃i,s'.heap.get? b=I i:=λb o e=>by
  by_cases h:b=P
  ·subst h;exact af
  ·exact ⟨o,k b o h e⟩
 refine ⟨⟨λb o e n=>k b o (λz=>n (z▸wP)) e,ex,λZ z=>z,λZ z=> .inl z,⟨[],by simp⟩,λZ z=> .inl z,gens,os,aG⟩,?_⟩
 exact {
  aG:=jf d.aG aG
  base:=λb o e=>⟨(bJ b o (d.base b o e).1 (d.base b o e).2).1,(d.base b o e).2⟩
  ex:=λb z=>let ⟨o,e⟩:=d.ex b z;ex b o e
  dG:=d.dG
  tab:=new
  len:=d.len
  c3:=λj a x c f=>by
   have l:=d.fz a (ia c)
   exact T.k! (d.c3 j a x c f) bJ λb o z e=>k b o (λq=>by subst q;rcases z with z|z|z<;>subst z<;>simp_all) e
  fT:=d.fT
  fz:=d.fz}
theorem NY: ∀{l:List (Bool×az)},l.lookup b=I c→(b,c)∈l:=by
 intro d
 induction d with
 |nil=>exact @λh=>nomatch h
 |cons hd l a=>
  obtain ⟨e,f⟩:=hd
  intro h
  rw[nc] at h
  split at h
  ·rename_i ae;rw[dp ae];cases h;exact eQ
  ·exact fb _ (a h)
section
variable {T:cA} {L:gz} {A:eU} {E:az→aH→Prop} {Q:az→aH→Prop} {g:G} {w:W} {s s':aH} {env:Env} {name qual:Str} {params:ud} {scope:Scope} {z6:List (Str×aP)} {b:Bool} {fl:Nat}
theorem aW.ns (d:aW T g w s):s.heap.Ns mainGlobals T.eh:=T.g.keeps λb o e=>(d.base b o e).1
theorem eg.d3 (a4:eg T L) (d:aW T g w s): ∃l:List (Bool×az),s.heap.get? L.tab=I (tabObj (l.flatMap L.ent).toArray)∧ ∀e∈l,kV g.B s.heap (L.qual e.1) e.2:=by
 have:=d.tab
 rw[a4.tab] at this;exact this
theorem eg.bm (a4:eg T L) (d:aW T g w s):s.heap.BuiltinsAt T.eh L.tab:=
 a4.Mg.imp λbm q=>q.imp λo r=>⟨r.1,r.2.1,r.2.2.1,r.2.2.2.1,(d.base _ _ r.2.2.2.2.1).1,r.2.2.2.2.2⟩
structure Made (T:cA) (L:gz) (b:Bool) (fd:az→az→az→hR) (g:G) (w:W) (s:aH) (f:aP) (s':aH):Prop where
 ba:bW T g s g s'
 wd:aW T g w s'
 new:s.heap.get? f=ah
 keep: ∀b o,b≠L.tab→s.heap.get? b=I o→s'.heap.get? b=I o
 obj: ∃c doc jN,s'.heap.get? f=I {cls:= .type "function",data:= .func (fd c doc jN)}∧kV g.B s'.heap (L.qual b) c
theorem aW.fresh (d:aW T g w s) {a:aP} (h:s.heap.get? a=ah): ¬g.B a:=λz=>by
 obtain ⟨o,e⟩:=d.ex a z;rw[h] at e;exact aR e
theorem NT {h':bU} {doc f:az} (d:aW T g w s) (ag:kV g.B s.heap (L.qual b) c) (k:dI s.heap h') (bH:s.heap.objs.size≤h'.objs.size) (h:s.toks≤aG):
  Made T L b fd g w s h'.objs.size {s with heap:=h'.push {cls:= .type "function",data:= .func (fd c doc f)},toks:=aG}:=by
 have dQ: ∀b o,s.heap.get? b=I o→(h'.push {cls:= .type "function",data:= .func (fd c doc f)}).get? b=I o:=λb o e=>dE _ (k b o e)
 exact ⟨.grow (dr:=s.drawn) dQ h,d.grow dQ h,kP bH,λb o Z e=>dQ b o e,c,doc,f,d9 _ rfl,ag.bJ λa o e n=>⟨dQ a o e,n⟩⟩
theorem NU {fd:az→az→az→hR} {l:List (Bool×az)} (a4:eg T L) (d:aW T g w s) (y: ∀e∈l,kV g.B s.heap (L.qual e.1) e.2) (af:Rv L.tab s.heap h') (m:s.heap.objs.size≤f) (C:f<h'.objs.size) (H:h'.CodeRec (.ref f) (L.qual b))
  (M:h'.get? L.tab=I (tabObj ((l.flatMap L.ent).toArray++ #[rawInt (L.at_ b).line,rawInt (L.at_ b).col,.ref f]))) (v:s.toks≤aG):
  Made T L b fd g w s h'.objs.size {s with heap:=h'.push {cls:= .type "function",data:= .func (fd (.ref f) doc r)},toks:=aG}:=by
 let o:Obj:={cls:= .type "function",data:= .func (fd (.ref f) doc r)}
 have j: ∀b i,b≠L.tab→s.heap.get? b=I i→(h'.push o).get? b=I i:=λb i ae e=>dE _ (af b i ae e)
 have BZ: ¬g.B f:=d.fresh (kP m)
 have ag:kV g.B (h'.push o) (L.qual b) (.ref f):=by
  obtain ⟨c,k,vs,t,e,J,aa,ay⟩:=H
  cases e
  exact ⟨f,k,vs,t,rfl,dE _ J,aa,ay,BZ⟩
 have bZ:L.tab≠f:=λz=>by
  obtain ⟨l,O⟩:=a4.d3 d
  have e:=O.1
  rw[z,kP m] at e;exact aR e
 have D: ∀{a},¬g.B a→a≠L.tab:=λ{a} n z=>n (z▸d.dG _ (.inl a4.tV))
 have p:(h'.push o).get? L.tab=I (tabObj ((l++[(b,(Value.ref f:az))]).flatMap L.ent).toArray):=by
  rw[dE _ M]
  congr 2
  simp[gz.ent]
 obtain ⟨st,u⟩:=ah7 (s':={s with heap:=h'.push o,toks:=aG}) d a4.tV j ⟨_,p⟩ (by
  rw[a4.tab]
  refine ⟨_,p,λe he=> ?_⟩
  rcases ob.mp he with he|he
  ·obtain ⟨c,k,vs,t,h⟩:=y e he
   have x:=h.1
   have J:=h.2.1
   have aa:=h.2.2.1
   have ay:=h.2.2.2.1
   have q:=h.2.2.2.2
   exact ⟨c,k,vs,t,x,j _ _ (D q) J,aa,ay,q⟩
  ·rw[ep] at he;subst he;exact ag) rfl rfl v
 exact ⟨st,u,kP (iS (gP m C)),j,.ref f,doc,r,d9 _ rfl,ag⟩
theorem acU {body:List cK} (a4:eg T L) (d:aW T g w s) (m:closureFor scope env=pure z6) (j:env.globals=mainGlobals) (ag:env.code= .ref L.cI) (p:qual=L.qual b)
  (q: ∀f s',Made T L b (λc doc h=>fnX name qual params body scope z6 .none .none doc ((T.eh "__name__").getD .none) ah c h) g w s f s'→Q (.ref f) s'):
  aU T.mo A (makeFunction name qual params (.stmts body) scope env [] [] [] (L.at_ b) fl) Q E s:=by
 obtain ⟨l,d3,i⟩:=a4.d3 d
 have gb:CodeHd s.heap L.cI L.tab:=a4.FP.keeps λb o e=>(d.base b o e).1
 have n:mainGlobals≠L.tab:=λz=>by
  obtain ⟨o,es,x,e,hd,_⟩:=d.ns
  rw[z,d3] at e;cases e;cases hd
 subst p
 cases hf:l.lookup b with
 |some c=>
  refine j0 (bh _) (makeFunction_hit m j d.ns ag gb d3 (by simpa using xi L l) (by rw[Jl,Ax L a4.el];exact hf) (a4.bm d) λh doc h' aG k bH a=>q _ _ (NT d ?_ k bH a))
  exact i (b,c) (NY hf)
 |none=>
  exact j0 (bh _) (makeFunction_K m j d.ns ag gb d3 (by simpa using xi L l) (by rw[Jl,Ax L a4.el];exact hf) n (a4.bm d) λy h doc h' aG af t r u v a=>q _ _ (NU a4 d i af t r u v a))
theorem acW {body:Expr} (a4:eg T L) (d:aW T g w s) (m:closureFor scope env=pure z6) (j:env.globals=mainGlobals) (ag:env.code= .ref L.cI) (p:qual=L.qual b)
  (q: ∀f s',Made T L b (λc doc h=>kla_fn name qual params body scope z6 ((T.eh "__name__").getD .none) c h) g w s f s'→Q (.ref f) s'):
  aU T.mo A (makeFunction name qual params (.expr body) scope env [] [] [] (L.at_ b) fl) Q E s:=by
 obtain ⟨l,d3,i⟩:=a4.d3 d
 have gb:CodeHd s.heap L.cI L.tab:=a4.FP.keeps λb o e=>(d.base b o e).1
 have n:mainGlobals≠L.tab:=λz=>by
  obtain ⟨o,es,x,e,hd,_⟩:=d.ns
  rw[z,d3] at e;cases e;cases hd
 subst p
 cases hf:l.lookup b with
 |some c=>
  refine j0 (bh _) (kla_makeFunctionHit m j d.ns ag gb d3 (by simpa using xi L l) (by rw[Jl,Ax L a4.el];exact hf) (a4.bm d) λh h' aG k bH a=>q _ _ (NT (doc:= .none) d ?_ k bH a))
  exact i (b,c) (NY hf)
 |none=>
  exact j0 (bh _) (kla_makeFunction m j d.ns ag gb d3 (by simpa using xi L l) (by rw[Jl,Ax L a4.el];exact hf) n (a4.bm d) λy h h' aG af t r u v a=>q _ _ (NU (doc:= .none) a4 d i af t r u v a))
end
theorem ahB:StoreFacts "function" [.type "function",.type "object"] "object.__setattr__" "object" where
 mro:=aY
 slot:= .of (owner:="object") (n:="__setattr__") (by rw[r1,r2];kernel_rfl) bx bx bx
  (by first|exact .inl bx|exact .inr bx) (by rw[wh];kernel_rfl)
 entry:=PySem.F.entry_object_sa
 kind:=bx
 split:=bx
 hasOwner:=bx
 args:=λa b c=>by unfold argsOk;kernel_rfl
 passes:=λself=>aY
noncomputable abbrev CC (P:iE) (k:Tok) (v:az):Obj:={cls:= .type "dict",data:= .dict #[⟨j7 P (ao "read"),.str (ao "read") k,v⟩] 1}
theorem OO:qM (ao "read") (j7 P (ao "read")) (.str (ao "read") t) v {cls:= .type "dict",data:= .dict #[]}=CC P t v:=aY
theorem Yv (g:s.heap.get? f=I {cls:= .type "function",data:= .func fd})
  (q: ∀h' aG,s.toks≤aG→(∀b o,b≠f→s.heap.get? b=I o→h'.get? b=I o)→h'.get? f=I {cls:= .type "function",dict:=I s.heap.objs.size,data:= .func fd}→(∃k,h'.get? s.heap.objs.size=I (CC w.params k v))→Q () {s with heap:=h',toks:=aG}):
  aU (cU prog w) A (setAttr (.ref f) (ao "read") v) Q E s:=by
 have d:=ahB
 have bZ: ∀t:Nat,({s with toks:=t}:aH).TypeIs (.ref f) "function":=λt=>⟨_,g,rfl⟩
 refine aw (Jg (aw (Jc (name:=ao "__setattr__") (bZ _) d.slot (r3 d.slot (bZ _) d.entry ?_ (d.args _ _ _)))))
 rw[osa_eq,refuse_eq]
 have l: ∀{t:Nat} {i:az→aH→Prop} {n:az→aH→Prop} {m:eU},i (.type "function") {s with toks:=t}→aU (cU prog w) m (typeOf (.ref f)) i n {s with toks:=t}:=λ{t i n m} h=>by
  obtain ⟨o,r⟩:=bZ t
  have y:=r.1
  have ag:=r.2
  exact aw (wo y (bj (by rw[ag];exact h)))
 refine aw (aw (l (aw (ua d.mro ?_))))
 rw[d.passes]
 refine bj (aw (l (aw (ua Fn (aw (bj (a:=ah) ?_))))))
 refine aw (bj (a:=()) ?_)
 rw[a3 ar]
 have hd:typeHasDict (.type "function")=true:=aY
 have hsz:f≠s.heap.objs.size:=hg (iA g)
 refine aw (aw (wo g ?_))
 dsimp only
 rw[hd,a3 ar]
 refine aw (RK (aw (wpAny_update (o:={cls:= .type "function",data:= .func fd}) (dE _ g) ?_)))
 unfold dictMade
 dsimp only
 rw[a3 ar]
 refine aw (bj (bj ?_))
 have x:((s.heap.push {cls:= .type "dict",data:= .dict #[]}).update f λo=>{o with dict:=I s.heap.objs.size}).get? f=I {cls:= .type "function",dict:=I s.heap.objs.size,data:= .func fd}:=
  wk _ (dE _ g) rfl
 have j:((s.heap.push {cls:= .type "dict",data:= .dict #[]}).update f λo=>{o with dict:=I s.heap.objs.size}).get? s.heap.objs.size=I {cls:= .type "dict",data:= .dict #[]}:=
  (t' _ _ hsz).trans (d9 _ rfl)
 have u: ∀b o,b≠f→s.heap.get? b=I o→((s.heap.push {cls:= .type "dict",data:= .dict #[]}).update f λo=>{o with dict:=I s.heap.objs.size}).get? b=I o:=λb o ae e=>
  (t' _ _ (gu ae)).trans (dE _ e)
 generalize z:((s.heap.push {cls:= .type "dict",data:= .dict #[]}).update f λo=>{o with dict:=I s.heap.objs.size})=H at*
 refine aw (bj (a:=()) (aw ?_))
 refine aw (aw (y6 (bj (aw (Jg (aw (wo j ?_)))))))
 dsimp only
 have c:(!(#[]:Array D1).any (·.key.isStr (ao "read"))&&(#[]:Array D1).any (·.refKey))=false:=bx
 rw[akH,c]
 refine wpAny_updatePart j ?_
 have p:(H.update s.heap.objs.size (qM (ao "read") (j7 w.params (ao "read")) (.str (ao "read") (s.toks+1)) v)).get? s.heap.objs.size=I (CC w.params (s.toks+1) v):=by
  rw[wk _ j (by rw[OO];rfl),OO]
 refine aw (wpAny_lookBehind p (by exact pastItsLine_dict (by show 1≤_;rw[t_];exact EF rfl)) ?_)
 refine bj ⟨_,rfl,bj ?_⟩
 refine q _ (s.toks+1+1) (by exact hA (gw _ _)) (λb o ae e=> ?_) ((t' _ _ (gu hsz)).trans x) ⟨_,p⟩
 exact (t' _ _ (j6 (iA e))).trans (u b o ae e)
noncomputable abbrev Th:=(Nat→Pos)×ud×List cK×Scope×ud×Scope
abbrev ahK (L:gz) (R:Nat→Pos) (a:ud) (fZ:List cK) (rs:Scope) (b:ud) (ls:Scope):List cK:=
 [.Assign [.Name fH (R 0)] (.List [.Constant (.int 0) 0 (R 1)] (R 2)) (R 3),
  .FunctionDef hq a fZ [] ah [] rs ah hq L.l6,
  .Assign [.Name tu (R 4)] (.Lambda b (.Constant .none 0 (R 5)) ls L.gL) (R 6),
  .Assign [.Attribute (.Name tu (R 7)) hq (R 8)] (.Name hq (R 9)) (R 10),
  .Return (I (.Name tu (R 11))) (R 12)]
structure zK (L:gz) (fd:hR):Prop where
 d?: ∃t:Th,fd.body= .stmts (ahK L t.1 t.2.1 t.2.2.1 t.2.2.2.1 t.2.2.2.2.1 t.2.2.2.2.2)∧qS t.2.1 t.2.2.1 t.2.2.2.1∧(∀env,defaultsOf t.2.2.2.2.1 env=([],[]))∧t.2.2.2.2.2.names=[]
 names:fd.scope.names=[(gc,.cell),(hq,.local),(tu,.local),(fH,.cell)]
 code:fd.code= .ref L.cI
 c!:fd.qualname++(".<locals>.":Str)++hq=L.HM
 dT:fd.qualname++(".<locals>.":Str)++("<lambda>":Str)=L.HL
structure se (h0:bU) (B:aP→Prop) (h:bU) (src bP sd dv dd cT:aP) (m:Str→Option az) (fd:hR) (t1 t2:Tok) (text:Str):Prop where
 td:uw h src sd m
 yc:h0.get? src=ah
 yb:h0.get? sd=ah
 tb:m hq=I (.ref dv)
 sX: ∃o,h.get? dv=I o∧o.cls= .type "function"∧o.data= .func fd
 rq:h0.get? dv=ah
 F:lG fd dd cT
 code:kV B h fd.qualname fd.code
 nF:h.IsCell dd (I (.str text t1))
 vt:h0.get? dd=ah
 p8:h.IsCell cT (I (.ref bP))
 vr:h0.get? cT=ah
 e6:dk h bP #[.int 0 t2]
 l2:h0.get? bP=ah
 qY:B bP
noncomputable def Ee (a:bU) (B:aP→Prop) (h:bU) (v:az) (text:Str):Prop:= ∃src bP sd dv dd cT m fd t1 t2,v= .ref src∧se a B h src bP sd dv dd cT m fd t1 t2 text
theorem Ee.elim {B:aP→Prop} {G:Prop} (S:Ee h0 B h v text) (k: ∀{src bP sd dv dd cT m fd t1 t2},v= .ref src→se h0 B h src bP sd dv dd cT m fd t1 t2 text→G):G:=
 h! S λZ S=>h! S λZ S=>h! S λZ S=>h! S λZ S=>h! S λZ S=>h! S λZ S=>h! S λZ S=>h! S λZ S=>h! S λZ S=>h! S λZ S=>k S.1 S.2
theorem se.keep (S:se h0 B h src bP sd dv dd cT m fd t1 t2 text) (k: ∀{b o},h0.get? b=ah→h.get? b=I o→h'.get? b=I o) (bJ:cS B h B' h') (a: ∀{b},B b→B' b):se h0 B' h' src bP sd dv dd cT m fd t1 t2 text where
 td:=⟨S.td.1.imp λo q=>q.imp λf r=>⟨k S.yc r.1,r.2⟩,S.td.2.imp λo q=>q.imp λes q=>q.imp λc r=>⟨k S.yb r.1,r.2⟩⟩
 yc:=S.yc
 yb:=S.yb
 tb:=S.tb
 sX:=S.sX.imp λo q=>⟨k S.rq q.1,q.2⟩
 rq:=S.rq
 F:=S.F
 code:=S.code.bJ bJ
 nF:=S.nF.imp λo q=>⟨k S.vt q.1,q.2⟩
 vt:=S.vt
 p8:=S.p8.imp λo q=>⟨k S.vr q.1,q.2⟩
 vr:=S.vr
 e6:=S.e6.imp λo q=>⟨k S.l2 q.1,q.2⟩
 l2:=S.l2
 qY:=a S.qY
theorem aeb {h:bU} (e:h.get? a=I (CC P k v)): ∃m,h.Ns a m∧m hq=I v:=by
 exact ⟨λn=>nsFind #[⟨j7 P hq,.str hq k,v⟩] n,⟨_,_,_,e,rfl,λe he=>ep.mp (Array.mem_def.mp he)▸⟨_,_,rfl⟩,λn=>rfl⟩,by kernel_rfl⟩
theorem Vq (h:sc.names=[(nV,.local),(fH,.free),(gc,.free)]) (J:env.cells.lookup fH=I cT) (aa:env.cells.lookup gc=I dd):closureFor sc env=pure [(gc,dd),(fH,cT)]:=by
 unfold closureFor
 rw[h]
 simp[cellOf,J,aa]
theorem Vp (h:sc.names=[]):closureFor sc env=pure []:=by
 unfold closureFor
 rw[h];rfl
theorem Made.own (a4:eg T L) (d:aW T g w s) (M:Made T L b fd g w s f s'):bW T g s ⟨λb=>g.B b∨b=f,g.aD⟩ s'∧aW T ⟨λb=>g.B b∨b=f,g.aD⟩ w s':=by
 obtain ⟨c,doc,A,p,ag⟩:=M.obj
 have k: ∀{a},¬g.B a→a≠L.tab:=λ{a} n z=>n (z▸d.dG _ (.inl a4.tV))
 have m: ∀{a o},s.heap.get? a=I o→a≠f:=λ{a o} e z=>by rw[z,M.new] at e;exact aR e
 have bJ:cS g.B s.heap (λb=>g.B b∨b=f) s'.heap:=λa o e n=>⟨M.keep a o (k n) e,λz=>z.elim n (m e)⟩
 refine ⟨⟨M.ba.keep,M.ba.ex,λb z=> .inl z,λb z=>z.imp id λq=>by rw[q];exact M.new,M.ba.eJ,M.ba.ej,M.ba.gens,M.ba.os,M.ba.aG⟩,?_⟩
 exact {
  aG:=M.wd.aG
  base:=λb o e=>⟨(M.wd.base b o e).1,λz=>z.elim (d.base b o e).2 (m (d.base b o e).1)⟩
  ex:=λb z=>z.elim (M.wd.ex b) λq=>by rw[q];exact ⟨_,p⟩
  dG:=λb z=> .inl (d.dG b z)
  tab:=by
   have:=M.wd.tab
   rw[a4.tab] at this⊢
   obtain ⟨l,r⟩:=this
   have e:=r.1
   have y:=r.2
   refine ⟨l,e,λx af=> ?_⟩
   obtain ⟨c,o,vs,t,h,J,aa,ay,u⟩:=y x af
   refine ⟨c,o,vs,t,h,J,aa,ay,λz=>z.elim u λq=> ?_⟩
   subst q
   rw[p] at J;cases J;cases aa
  len:=d.len
  c3:=λi a x h v=>by
   have j:=d.fz a (ia h)
   refine T.k! (d.c3 i a x h v) bJ λb o z e=>M.keep b o (λq=> ?_) e
   subst q
   rw[a4.tV] at j
   rcases z with z|z|z
   ·exact j.1 (aQ I z)
   ·exact j.2.1 (aQ I z)
   ·exact j.2.2 (aQ I z)
  fT:=d.fT
  fz:=d.fz}
section
variable {T:cA} {A:eU} {g:G} {w:W} {s:aH} {K:aP→Prop} {cx:bY} {env:Env} {σ:aA} {x:Str}
theorem bQ.mP (f:bQ T K cx env σ A g w s) (x:Str):env.kindOf x=cx.sc.names.lookup x:=aQ (λs:Scope=>s.names.lookup x) f.sc
theorem bQ.cell (f:bQ T K cx env σ A g w s) (af:cx.sc.names.lookup x=I .cell): ∃c v,env.cells.lookup x=I c∧s.heap.IsCell c v∧cB T g s.heap env x v∧gA T g s.heap (σ.get x) v:=
 cM (f.fr.nm x _ af ar) λv nv jZ=>nv.elim (λz=>nomatch inj (((f.mP x).trans af).symm.trans z.1)) λz=>fe z.2 λc ag a Z=>⟨c,v,ag,a,nv,jZ⟩
theorem bQ.local (f:bQ T K cx env σ A g w s) (af:cx.sc.names.lookup x=I .local) {u:az} (aN:σ.get x= .val (.raw u)): ∃m,s.heap.Ns env.locals m∧m x=I u∧cB T g s.heap env x (I u):=
 cM (f.fr.nm x _ af ar) λv nv jZ=>cM (aN▸jZ:gA T g s.heap (.val (.raw u)) v) λb ev a=>by
  rw[ev,a.Qz] at nv
  exact nv.elim (λz=>cM z.2 λm hm h=>⟨m,hm,h,nv⟩) λz=>z.1.elim (λz=>nomatch inj (((f.mP x).trans af).symm.trans z)) λz=>nomatch inj (((f.mP x).trans af).symm.trans z)
theorem bQ.N! {h:bU} (f:bQ T (λb=> ∃o,h.get? b=I o) cx env σ A g w s) (af:cx.sc.names.lookup x=I .cell) {c:aP} (ag:env.cells.lookup x=I c):h.get? c=none:=
 (f.wr x (by unfold dD;rw[af];rfl)).elim (λz=>nomatch inj (((f.mP x).trans af).symm.trans z.1)) λz=>DF.mpr λo e=>z.2 c ag ⟨o,e⟩
theorem bQ.UU (f:bQ T K cx env σ A g w s) (af:cx.sc.names.lookup x=I .cell) {y:Str} (aN:σ.get x= .val (.str y)) {c:aP} (ag:env.cells.lookup x=I c): ∃t,s.heap.IsCell c (I (.str y t)):=
 iZ (f.cell af) λh v a b Z jZ=>cM (aN▸jZ:gA T g s.heap (.val (.str y)) v) λu eu d=>d.h9.imp λt e=>by
  rw[ag] at a
  rw[eu,e] at b
  exact inj a▸b
theorem bQ.UT (f:bQ T K cx env σ A g w s) (af:cx.sc.names.lookup x=I .cell) {i:Int} (aN:σ.get x= .own [.int i]) {c:aP} (ag:env.cells.lookup x=I c): ∃a t,s.heap.IsCell c (I (.ref a))∧cL T g a∧dk s.heap a #[.int i t]∧ ¬K a:=
 iZ (f.cell af) λk v b d nv jZ=>iZ (aN▸jZ:gA T g s.heap (.own [.int i]) v) λa vs ev j cc aX=>aX.one λu eu e=>e.md.elim λt h=>by
  rw[ag] at b
  rw[eu,h] at cc
  rw[ev] at d nv
  exact ⟨a,t,inj b▸d,j,cc,f.own x _ a aN ⟨_,af,by decide⟩ nv⟩
theorem ahC:aA.set (([gc]:List Str).zip ([U.str text].map .val)) fH (.own [.int 0])=[(gc,.val (.str text)),(fH,.own [.int 0])]:=aY
theorem ahD:aA.set [(gc,.val (.str text)),(fH,.own [.int 0])] hq (.val (.raw dv))=[(gc,.val (.str text)),(fH,.own [.int 0]),(hq,.val (.raw dv))]:=aY
theorem ahE:aA.set [(gc,.val (.str text)),(fH,.own [.int 0]),(hq,.val (.raw dv))] tu (.val (.raw src))=[(gc,.val (.str text)),(fH,.own [.int 0]),(hq,.val (.raw dv)),(tu,.val (.raw src))]:=aY
theorem LS {σ:aA} (e:(σ.set x (.val p)).get y= .own l):σ.get y= .own l∧y≠x:=by
 rw[aA.get_set] at e
 split at e
 ·cases e
 ·rename_i h;exact ⟨e,λz=>h z.symm⟩
theorem ahO {text:Str} {t:Tok} (a4:eg T L) (F:f6 T.cp L.sD fd [gc]) (f:zK L fd) (d:aW T g w s) (b7:Room 70 A):
  nh T.plain A (.call (.ref L.sD) ⟨[.str text t],[]⟩) g s (λg' s' v=>aW T.plain g' w s'∧Ee s.heap g'.B s'.heap v text):=by
 refine Ae f.d? λqE d? pv Z1 s_=> ?_
 refine LG (T:=T.plain) (k:=2) (vs:=[.str text]) F d? d.gN b7 (.cons (.str _ _) .nil) rfl λenv g1 s1 c0 st af E Q q=> ?_
 have Z:fd.scope.names.lookup gc=I .cell:=by rw[f.names];kernel_rfl
 have R:fd.scope.names.lookup fH=I .cell:=by rw[f.names];kernel_rfl
 have ri:fd.scope.names.lookup hq=I .local:=by rw[f.names];kernel_rfl
 have O:fd.scope.names.lookup tu=I .local:=by rw[f.names];kernel_rfl
 have MP:qualnameIn env hq hq=L.qual true:=by
  unfold qualnameIn
  rw[(c0.mP hq).trans ri,a3 ar,af.2]
  exact f.c!
 refine gQ (J' (T:=T.plain) (l:=[.int 0]) (w1:=w) (mb rfl) c0 (by unfold dD;rw[R];rfl) (((oZ T 4).1 4 (bh _)).ei rfl c0.inn) λj s2 t2 f2=> ?_)
 replace f2:=ahC▸f2
 refine iZ (f2.cell R) λcT _ p8 _ _ _=>iZ (f2.cell Z) λdd _ nF _ _ _=> ?_
 refine gQ ((exec_def ..).symm▸ ?_)
 refine aw (fF (aw (fK ?_)))
 rw[defaultsOf_eq,pv.f8,pv.pU,pv.ann]
 refine aw (bj (aw (fK (bj (fK (aw (bj ?_)))))))
 refine acU (T:=T) (b:=ab) a4 f2.wd.ee (Vq pv.names p8 nF) f2.fr.glob (af.1.trans f.code) MP λdv s3 M=>aw (fF (aw ?_))
 have dW:=f2.ba M.ba.gN M.wd.gN
 refine rC (T:=T.plain) (K:=λb=> ∃o,s.heap.get? b=I o) (x:=hq) (k:= .local) (sl:= .val (.raw (.ref dv))) dW.fr dW.wd ri ar (dW.wr hq (by unfold dD;rw[ri];rfl)) ⟨_,rfl,.raw _⟩ (λ_ _ _ _ _ z=>nomatch z) λs4 r YE nz oV aez=>bj ?_
 have f4:=dW.kept r YE nz λy l e=>⟨(LS e).1,λu=>aez y u (LS e).2⟩
 replace f4:=ahD▸f4
 refine K8 M.obj λcn alH alD lV q_=> ?_
 refine gQ (J9 (T:=T.plain) (cx:=⟨T.plain.dx,2,fd.scope⟩) (σ:=[(gc,.val (.str text)),(fH,.own [.int 0]),(hq,.val (.raw (.ref dv)))]) (mb rfl) (by unfold dD;rw[O];rfl) (kla_eval (Z1 env) ?_))
 refine acW (T:=T) (b:=aq) a4 f4.wd.ee (Vp s_) f4.fr.glob (af.1.trans f.code) (by rw[af.2];exact f.dT) λsrc s5 p=> ?_
 have H:=p.own a4 f4.wd.ee
 refine K8 p.obj λfP alI alE MI alU=>⟨_,_,w,.raw (.ref src),f4.more (X:=λb=>b=src) H.1.gN H.2.gN λb ae=>ae▸⟨p.new,_,MI⟩,.raw _,λD lp hn=> ?_⟩
 replace hn:=ahE▸hn
 have Y:cL T.plain ⟨λb=>j.B b∨b=src,j.aD⟩ src:=⟨.inr rfl,λz=>(f4.wd.ex src (f4.wd.dG src z)).elim λo e=>nn (p.new.symm.trans e)⟩
 have J:=lp.old src _ (.inr rfl) MI Y.2
 refine fe (hn.local ri (u:= .ref dv) aY) λamd _ _ adb=>fe (hn.local O (u:= .ref src) aY) λame My Ag ade=> ?_
 refine gQ (DM (nameP (T:=T.plain) hn.fr ri adb (nameP (T:=T.plain) hn.fr O ade (Yv (prog:=T.prog) J λh' aG C m dA gp=> ?_))) (mb rfl))
 have Zl:env.locals≠src:=λz=>gj My λo q=>fU q λes bz e fR _=>nomatch (aQ pk (inj (J.symm.trans (z▸e)))).trans fR
 refine gQ (Ds (IX (Dg hn.fr.kind ((hn.mP _).trans O) (My.imp λo q=>q.imp λes q=>q.imp λbz q=>⟨m _ _ Zl q.1,q.2⟩) Ag ?_) aY))
 show Q (.ret (.ref src)) _
 refine gj (hn.UU Z (y:=text) aY nF) λbp UW=>iZ (hn.UT R (i:=0) aY p8) λbP bK US qY e6 l2=>gj gp λal9 gp=>cM (aeb gp) λacF Z5 Z6=> ?_
 have no: ∀{a},¬(∃o,s.heap.get? a=I o)→s.heap.get? a=none:=λh=>DF.mpr λo e=>h ⟨o,e⟩
 have oV: ∀{a},s4.heap.get? a=ah→s.heap.get? a=none:=λh=>st.none (t2.none (M.ba.none (r.none h)))
 have bw:dc T.plain (λb=> ∃o,s.heap.get? b=I o) g1 s1 ⟨λb=>j.B b∨b=src,j.aD⟩ D:=(((t2.trans (M.ba.gN.bw f2.wd)).trans r).trans (H.1.gN.bw f4.wd)).trans (lp.weak λb z=> .inl z)
 have dm: ∀{a v},D.heap.IsCell a v→h'.IsCell a v:=λ{a v} c=>c.imp λo q=>⟨m _ _ (λz=>nomatch UX J (z▸c:D.heap.IsCell src v)) q.1,q.2⟩
 have rq: ¬j.B dv:=f2.wd.ee.fresh M.new
 have Nq: ∀{a o},s4.heap.get? a=I o→ ¬j.B a→h'.get? a=I o∧ ¬(j.B a∨a=src):=λ{a o} e n=>
  have P:=H.1.gN.bJ f4.wd a o e n
  ⟨m a o (λz=>P.2 (.inr z)) (lp.i5 a o P.1 P.2).1,P.2⟩
 exact q _ _ (.ret (.ref src)) (bw.trans (.one (dr:=D.drawn) Y (λz=>z.elim λo e=>nn ((oV p.new).symm.trans e)) m ⟨_,dA⟩ C)) ⟨hn.wd.one Y m ⟨_,dA⟩ C,src,bP,_,dv,dd,cT,acF,_,bp,bK,rfl,{
  td:=⟨⟨_,_,dA,rfl,rfl,rfl⟩,Z5⟩
  yc:=oV p.new
  yb:=no λz=>z.elim λo e=>(st.ex _ o e).elim λhr aK=>(bw.ex _ hr aK).elim λg8 aL=>nn ((i? _).symm.trans aL)
  tb:=Z6
  sX:=⟨_,(Nq ((r.i5 dv _ lV rq).1) rq).1,rfl,rfl⟩
  rq:=st.none (t2.none M.new)
  F:=⟨⟨_,rfl,pv⟩,rfl,rfl,rfl,rfl,λz=>nomatch f2.fr.apart gc fH dd nF (z▸p8)⟩
  code:=((MP.symm▸q_:kV j.B s3.heap (qualnameIn env hq hq) cn).bJ r.i5).bJ λa o e n=>Nq e n
  nF:=dm UW
  vt:=f2.N! Z nF
  p8:=dm US
  vr:=f2.N! R p8
  e6:=e6.imp λo q=>⟨m _ _ (λz=>qj J (z▸e6:dk D.heap src _)|>.elim λn e=>nomatch e) q.1,q.2⟩
  l2:=no λz=>l2 (.inl z)
  qY:=qY.1}⟩
end
noncomputable abbrev qp:Str:=ao "fp"
noncomputable abbrev av (P:iE) (x:Str):Int:=j7 P x
abbrev GI (P:iE) (bp:Tok) (a:az):Obj:={cls:= .type "dict",data:= .dict #[⟨av P (ao "lineno"),.str (ao "lineno") bp,a⟩] 1}
abbrev GJ (P:iE) (bp bK:Tok) (ln src:az):Obj:={cls:= .type "dict",data:= .dict #[⟨av P (ao "lineno"),.str (ao "lineno") bp,ln⟩,⟨av P (ao "instream"),.str (ao "instream") bK,src⟩] 2}
abbrev Bp (P:iE) (bp bK dg:Tok) (ln src ws:az):Obj:={cls:= .type "dict",data:= .dict #[⟨av P (ao "lineno"),.str (ao "lineno") bp,ln⟩,⟨av P (ao "instream"),.str (ao "instream") bK,src⟩,⟨av P (ao "whitespace"),.str (ao "whitespace") dg,ws⟩] 3}
theorem afe:qM (ao "lineno") (j7 P (ao "lineno")) (.str (ao "lineno") bp) ln emptyDict=GI P bp ln:=aY
theorem aff:qM (ao "instream") (j7 P (ao "instream")) (.str (ao "instream") bK) src (GI P bp ln)=GJ P bp bK ln src:=aY
theorem afg:qM (ao "whitespace") (j7 P (ao "whitespace")) (.str (ao "whitespace") dg) ws (GJ P bp bK ln src)=Bp P bp bK dg ln src ws:=aY
theorem afh:qM (ao "pushback") (j7 P (ao "pushback")) (.str (ao "pushback") ey) ck (Bp P bp bK dg ln src ws)=hK P bp bK dg ey ln src ws ck:=aY
theorem acs:(lookIn (ao "lineno") emptyDict).isSome=true:=aY
theorem acu:(lookIn (ao "instream") (GI P bp ln)).isSome=true:=aY
theorem acv:(lookIn (ao "whitespace") (GJ P bp bK ln src)).isSome=true:=aY
theorem acw:(lookIn (ao "pushback") (Bp P bp bK dg ln src ws)).isSome=true:=aY
structure zC (T:cA) (L:gz) (x dx:aP) (od:Obj) (h:bU):Prop where
 X:T.K.In h
 inst:h.get? x=I (instObj L.C dx)
 dict:h.get? dx=I od
theorem Bq {es:List D1} (a4:eg T L) (ak:zC T L x dx od s.heap) (g:takerIn T.K L.C name=I ah) (d:(lookIn name od).isSome=ab)
  (e:qM name (j7 T.w.params name) (.str name (s.toks+1)) v od=ru) (i:ru.data= .dict es.toArray n) (bH:es.length≤1000) (j:T.cp.get? dx=ah) (base:dI T.cp s.heap)
  (h: ∀h',(∀b o,b≠dx→s.heap.get? b=I o→h'.get? b=I o)→zC T L x dx ru h'→Q () {s with heap:=h',toks:=s.toks+2}):
  aU T.mo A (setAttr (.ref x) name v) Q E s:=by
 have c:InstAt s.heap x (instObj L.C dx) L.C (I od):=⟨ak.inst,rfl,rfl,ak.dict⟩
 refine set_plain (K:=T.K) (od:=I od) (C:=L.C) (ox:=instObj L.C dx) ak.X c a4.Gm ?_
 refine OB (K:=T.K) (C:=L.C) (ox:=instObj L.C dx) (dx:=dx) (s:={s with toks:=s.toks+1}) ak.X c rfl a4.aC g a4.cC d e i bH λh' f3 f=> ?_
 have a: ∀b o,b≠dx→s.heap.get? b=I o→h'.get? b=I o:=λb o ae e=>(f3.2 b ae).trans e
 have k:x≠dx:=λz=>by
  have J:=ak.inst
  rw[z,ak.dict] at J
  injection J with J
  have aa:=aQ pk J
  have ay:=d
  rw[J] at ay
  exact bF ay cv
 refine h h' a ⟨?_,a _ _ k ak.inst,f⟩
 exact T.fc.keeps λb o e=>a b o (λz=>by rw[z,j] at e;exact aR e) (base b o e)
abbrev Nb (R:Nat→Pos):List cK:=
 [.Assign [.Attribute (.Name de (R 0)) (ao "lineno") (R 1)] (.Constant (.int 1) 0 (R 2)) (R 3),
  .Assign [.Attribute (.Name de (R 4)) (ao "instream") (R 5)] (.Name qp (R 6)) (R 7),
  .Assign [.Attribute (.Name de (R 8)) (ao "whitespace") (R 9)] (.Constant (.str (ao "\n\t\r ")) 0 (R 10)) (R 11),
  .Assign [.Attribute (.Name de (R 12)) (ao "pushback") (R 13)] (.List [] (R 14)) (R 15)]
structure zB (fd:hR):Prop where
 d?: ∃R,fd.body= .stmts (Nb R)
 self:fd.scope.names.lookup de=I .local
 du:fd.scope.names.lookup qp=I .local
theorem aar (a4:eg T L) (av:env.scope.kind= .function) (bp:env.kindOf de=I .local) (bK:env.kindOf qp=I .local) (a5:s.heap.Ns env.locals m) (J:m de=I (.ref x)) (aa:m qp=I src)
  (ak:zC T L x dx emptyDict s.heap) (D:env.locals≠dx) (c:T.cp.get? dx=ah) (base:dI T.cp s.heap)
  (q: ∀h' aG t1 t2 t3 Z t eA ck,s.toks≤aG→(∀b o,b≠dx→s.heap.get? b=I o→h'.get? b=I o)→h'.get? dx=I (hK T.w.params t1 t2 t3 Z (.int 1 t) src (.str (ao "\n\t\r ") eA) (.ref ck))→dk h' ck #[]→s.heap.get? ck=ah→Q .next {s with heap:=h',toks:=aG}):
  aU T.mo A (execs (Nb R) env) Q E s:=by
 have d: ∀{h h':bU},h.Ns env.locals m→(∀b o,b≠dx→h.get? b=I o→h'.get? b=I o)→h'.Ns env.locals m:=λ{h h'} n k=>by
  obtain ⟨o,es,Y,e,r⟩:=n
  exact ⟨o,es,Y,k _ _ D e,r⟩
 have self: ∀{s':aH} {p:Pos} {a:az→aH→Prop},s'.heap.Ns env.locals m→a (.ref x) s'→aU T.mo A (eval (.Name de p) env) a E s':=λ{s' p a} n l=>IX (Dg av bp n J l) bx
 have du: ∀{s':aH} {p:Pos} {a:az→aH→Prop},s'.heap.Ns env.locals m→a src s'→aU T.mo A (eval (.Name qp p) env) a E s':=λ{s' p a} n l=>IX (Dg av bK n aa l) bx
 have u: ∀{h:bU},(∀b o,b≠dx→s.heap.get? b=I o→h.get? b=I o)→dI T.cp h:=λ{h} k b o e=>k b o (λz=>by rw[z,c] at e;exact aR e) (base b o e)
 refine gQ (DM (Dh (self a5 (Bq (s:={s with toks:=s.toks+1}) a4 ak a4.s1 acs afe rfl (by exact nd _ _) c base λaJ vb M=> ?_))) (mb rfl))
 have y:=d a5 vb
 refine gQ (DM (du y (self y (Bq (s:={s with heap:=aJ,toks:=s.toks+1+2}) a4 M a4.s2 acu aff rfl (by exact nd _ _) c (u vb) λae gI O=> ?_))) (mb rfl))
 have g: ∀b o,b≠dx→s.heap.get? b=I o→ae.get? b=I o:=λb o n e=>gI b o n (vb b o n e)
 have nb:=d a5 g
 refine gQ (DM (Rq (self nb (Bq (s:={s with heap:=ae,toks:=s.toks+1+2+2+1}) a4 O a4.s3 acv afg rfl (by exact nd _ _) c (u g) λag dm f=> ?_))) (mb rfl))
 have i: ∀b o,b≠dx→s.heap.get? b=I o→ag.get? b=I o:=λb o n e=>dm b o n (g b o n e)
 have BZ:=d a5 i
 refine gQ (DM ?_ (mb rfl))
 rw[arm_eval_List]
 refine aw (fF (aw (zg ?_)))
 refine wpAny_newList ?_ (by simp)
 have dN: ∀b o,ag.get? b=I o→(ag.push {cls:= .type "list",data:= .seq ([]:List az).toArray}).get? b=I o:=λb o e=>dE _ e
 have H:zC T L x dx (Bp T.w.params (s.toks+1+1) (s.toks+1+2+1) (s.toks+1+2+2+1+1) (.int 1 s.toks) src (.str (ao "\n\t\r ") (s.toks+1+2+2))) (ag.push {cls:= .type "list",data:= .seq ([]:List az).toArray}):=
  ⟨f.X.keeps dN,dN _ _ f.inst,dN _ _ f.dict⟩
 have j: ∀b o,b≠dx→s.heap.get? b=I o→(ag.push {cls:= .type "list",data:= .seq ([]:List az).toArray}).get? b=I o:=λb o n e=>dN b o (i b o n e)
 refine self (d a5 j) (Bq (s:={s with heap:=ag.push {cls:= .type "list",data:= .seq ([]:List az).toArray},toks:=s.toks+1+2+2+1+2}) a4 H a4.s4 acw afh rfl (by exact nd _ _) c (u j) λhe C P=>mm ?_)
 have v:ag.objs.size≠dx:=λz=>by have:=f.dict;rw[←z,kP (bh _)] at this;exact aR this
 refine q he _ _ _ _ _ _ _ ag.objs.size (by show s.toks≤s.toks+1+2+2+1+2+2;simp+arith only) (λb o n e=>C b o n (j b o n e)) P.dict ?_ ?_
 ·exact ⟨_,C _ _ v (d9 _ rfl),rfl,_,rfl⟩
 ·cases e:s.heap.get? ag.objs.size with
  |none=>rfl
  |some o=>have:=i _ o v e;rw[kP (bh _)] at this;exact aR this
theorem Room.made (r:Room (d+1) A):Room d (A.under (.builtin "type.__call__" ⟨.ref C::vals,kw⟩)):=by
 have J:(A.under (.builtin "type.__call__" ⟨.ref C::vals,kw⟩)).depth=A.depth+1:=rfl
 have aa:(A.under (.builtin "type.__call__" ⟨.ref C::vals,kw⟩)).units=A.units+1:=rfl
 exact ⟨by have:=r.depth;rw[J];exact bE (e8 this),by have:=r.units;rw[aa];exact bE (e8 this),r.handled⟩
theorem ne_data {h:bU} (e:h.get? a=I o) (c:h.get? b=I d) (n:o.data≠d.data):a≠b:=λz=>n (aQ pk (inj (e.symm.trans (z▸c))))
theorem ad8 {h:bU} {m:Str→Option az} (e:h.get? a=I emptyDict) (n:h.Ns a m) (x:Str):m x=none:=by
 obtain ⟨o,es,c,b,d,r⟩:=n
 cases inj (e.symm.trans b)
 cases d
 exact (r.2 x).symm
theorem QF (z:et tV (aD++[a]) b):et tV aD b∨b=a.dx∨b=a.bP∨b=a.ck:=
 z.elim (λz=> .inl (.inl z)) λz=>z.elim λc q=>(ob.mp q.1).elim (λh=> .inl (.inr ⟨c,h,q.2⟩)) λh=> .inr (by rw[←ep.mp h];exact q.2)
theorem AK (e:(l++[a])[j]?=I b):l[j]?=I b∨(j=l.length∧b=a):=by
 by_cases h:j<l.length
 ·rw[zu h] at e
  exact .inl e
 ·have aa:=(hh.mp e).1
  rw[er,List.length_singleton] at aa
  have ay:j=l.length:=by exact Nat.eq_of_lt_succ_of_not_lt aa h
  rw[ay,Jm (bh _),zi] at e
  exact .inr ⟨ay,(inj e).symm⟩
section
variable {m:Str→Option az} {B B':aP→Prop}
theorem ahk (S:se h0 B h src a.bP sd dv dd cT m fd t1 t2 text) (s: ∀b,h0.get? b=ah→(∃o,h.get? b=I o)→b≠a.dx→b≠a.bP→ ¬B' b) (bJ:cS B h B' h') (g: ∀b o,b≠a.dx→h.get? b=I o→h'.get? b=I o)
  (g0: ∀{b},h0.get? b=ah→cp.get? b=ah) (af:h.get? a.x=I (instObj C a.dx)) (aR:h0.get? a.x=ah) (j:h.get? a.dx=I emptyDict)
  (H:h'.get? a.dx=I (hK P bp bK dg ey (.int 1 t) (.ref src) (.str (ao "\n\t\r ") eA) (.ref a.ck))) (J:dk h' a.ck #[]) (d:text.length≤1048576) (gF:fE text=ab):vl P C cp B' h' a ⟨text.cps.toList,1,[]⟩:=by
 have y:a.bP≠a.dx:=λz=>(qj j (z▸S.e6)).elim λn e=>nomatch e
 have ok: ∀{b o},h0.get? b=ah→h.get? b=I o→o.data≠emptyDict.data→(∀i n,o.data≠ .seq i n)→h'.get? b=I o∧ ¬B' b:=λ{b o} n e D A=>
  have qr:=ne_data e j D
  ⟨g _ _ qr e,s b n ⟨_,e⟩ qr λz=>(qj (z▸e) S.e6).elim λn q=>A _ _ q⟩
 have p: ∀{b v},h0.get? b=ah→h.IsCell b v→h'.IsCell b v∧ ¬B' b:=λ{b v} n c=>c.elim λo q=>
  have r:=ok n q.1 (by rw[q.2];nofun) (by rw[q.2];nofun)
  ⟨⟨o,r.1,q.2⟩,r.2⟩
 have w:=p S.vt S.nF
 have u:=p S.vr S.p8
 have X:=ok aR af nofun nofun
 refine hG S.td.1 λos bA c!=>cM S.sX λk L dT=>K7 S.td.2 λod es E f=> ?_
 have R:=ok S.rq L (by rw[dT.2];nofun) (by rw[dT.2];nofun)
 have Q:=ok S.yc c!.1 (by rw[c!.2.2.1];nofun) (by rw[c!.2.2.1];nofun)
 have l:sd≠a.dx:=λz=>nn ((ad8 (z▸j) S.td.2 hq).symm.trans S.tb)
 exact ⟨⟨bp,bK,dg,ey,t,eA,t1,t2,src,sd,dv,dd,cT,m,fd,0,text,[]⟩,{
  inst:=X.1
  AE:=X.2
  dict:=H
  src:=⟨⟨os,bA,Q.1,c!.2⟩,od,es,E,g _ _ l f.1,f.2⟩
  AD:=Q.2
  AB:=s sd S.yb ⟨_,f.1⟩ l λz=>(qj (z▸f.1) S.e6).elim λn q=>nomatch q.symm.trans f.2.1
  dv:=S.tb
  fn:=⟨k,R.1,dT⟩
  AA:=R.2
  F:=S.F
  code:=S.code.bJ bJ
  dd:=w.1
  Av:=w.2
  AJ:=g0 S.vt
  cT:=u.1
  Au:=u.2
  AI:=g0 S.vr
  AM:=g0 S.l2
  bP:=S.e6.imp λo q=>⟨g _ _ y q.1,q.2⟩
  ck:=J
  push:=rfl
  tF:=hC _
  rem:=rfl
  len:=d
  ok:=gF}⟩
theorem aaT (a4:eg T L) (f:aW T g1 w s1) (p:aW T r w s4) (g:bW T g1 s1 r s4) (u7:r.aD=g1.aD) (S:se s1.heap r.B s4.heap src a.bP sd dv dd cT m fd t1 t2 text) (s:text.length≤1048576) (gF:fE text=ab)
  (af:s4.heap.get? a.x=I (instObj L.C a.dx)) (aR:s1.heap.get? a.x=ah) (v:s1.heap.get? a.dx=ah) (X:r.B a.dx) (Q:s4.heap.get? a.dx=I emptyDict) (O:s4.toks≤s5.toks) (b_:s5.gens=s4.gens) (aZ:s5.os=s4.os)
  (l: ∀b o,b≠a.dx→s4.heap.get? b=I o→s5.heap.get? b=I o)
  (D:s5.heap.get? a.dx=I (hK T.w.params bp bK dg ey (.int 1 t) (.ref src) (.str (ao "\n\t\r ") eA) (.ref a.ck))) (R:dk s5.heap a.ck #[]) (E:s4.heap.get? a.ck=ah):
  bW T g1 s1 ⟨λb=>g1.B b∨b=a.dx∨b=a.bP∨b=a.ck,g1.aD++[a]⟩ s5∧aW T ⟨λb=>g1.B b∨b=a.dx∨b=a.bP∨b=a.ck,g1.aD++[a]⟩ (w++[⟨text.cps.toList,1,[]⟩]) s5:=by
 have new: ∀b,(b=a.dx∨b=a.bP∨b=a.ck)→s1.heap.get? b=none:=λb z=>z.elim (λz=>z▸v) λz=>z.elim (λz=>z▸S.l2) λz=>z▸g.none E
 have u: ∀{b},s1.heap.get? b=ah→ ¬et T.dZ g1.aD b:=λ{b} h z=>(f.ex b (f.dG b z)).elim λo e=>nn (h.symm.trans e)
 have M: ∀{b o},s4.heap.get? b=I o→b≠a.ck:=λ{b o} e z=>nn (E.symm.trans (z▸e))
 have bJ:cS r.B s4.heap (λb=>g1.B b∨b=a.dx∨b=a.bP∨b=a.ck) s5.heap:=λb o e n=>⟨l b o (λz=>n (z▸X)) e,λz=>z.elim (λz=>n (g.hD b z)) λz=>z.elim (λz=>n (z▸X)) λz=>z.elim (λz=>n (z▸S.qY)) (M e)⟩
 have J: ∀b o,et T.dZ g1.aD b→s4.heap.get? b=I o→s5.heap.get? b=I o:=λb o z e=>l b o (λq=>u v (q▸z)) e
 have Z:a.bP≠a.dx:=λz=>(qj Q (z▸S.e6)).elim λn e=>nomatch e
 have H: ∀b o,s4.heap.get? b=I o→ ∃cz,s5.heap.get? b=I cz:=λb o e=>if h:b=a.dx then ⟨_,h▸D⟩ else ⟨o,l b o h e⟩
 have old: ∀{b c:aP},et T.dZ g1.aD b→(c=a.dx∨c=a.bP∨c=a.ck)→b≠c:=λz h q=>u (new _ h) (q▸z)
 refine ⟨{
  keep:=λb o e n=>l b o (λz=>nn (v.symm.trans (z▸e))) (g.keep b o e n)
  ex:=λb o e=>(g.ex b o e).elim (H b)
  hD:=λb z=> .inl z
  iI:=λb z=>z.imp id (new b)
  eJ:=⟨_,rfl⟩
  ej:=λb z=>(QF z).imp id (new b)
  gens:=b_.trans g.gens
  os:=aZ.trans g.os
  aG:=cG g.aG O},{
  aG:=jf p.aG O
  base:=λb o e=>bJ b o (p.base b o e).1 (p.base b o e).2
  ex:=λb z=>z.elim (λz=>(p.ex b (g.hD b z)).elim (H b)) λz=>z.elim (λz=>⟨_,z▸D⟩) λz=>z.elim (λz=>S.e6.imp λo q=>z▸l _ _ Z q.1) λz=>R.imp λo q=>z▸q.1
  dG:=λb z=>(QF z).imp (f.dG b) id
  tab:=T.m2 p.tab bJ λb o z e=>J b o (.inl z) e
  len:=by rw[er,er,f.len];rfl
  c3:=λj b y A k=>(AK A).elim (λh=>T.k! (p.c3 j b y (u7▸h) ((zu (f.len▸(hh.mp h).1)).symm.trans k)) bJ λc o z e=>J c o (.inr ⟨b,ia h,z⟩) e) λq=>by
   rw[q.1,f.len,Jm (bh _),zi] at k
   rw[q.2,←inj k,a4.c3]
   exact ahk S (λb n ex qr np z=>z.elim (f.fresh n) λz=>z.elim qr λz=>z.elim np (ex.elim λo e=>M e)) bJ l (λn=>DF.mpr λo e=>nn (n.symm.trans (f.base _ o e).1)) af aR Q D R s gF
  fT:=λi j c P Y A k b z=>(AK A).elim (λh=>(AK k).elim (λh'=>f.fT i j c P Y h h' b z) λq=>by
    have o:=λd=>old (c:=d) (.inr ⟨c,ia h,z⟩)
    rw[q.2]
    exact ⟨o _ (.inl rfl),o _ (.inr (.inl rfl)),o _ (.inr (.inr rfl))⟩) λq=>(AK k).elim (λh'=>by
    rw[q.2] at z
    have o:=λd h=>(old (b:=d) (.inr ⟨P,ia h',h⟩) z).symm
    exact ⟨o _ (.inl rfl),o _ (.inr (.inl rfl)),o _ (.inr (.inr rfl))⟩) λfu=>(Y (q.1.trans fu.1.symm)).elim
  fz:=λb ae=>(ob.mp ae).elim (f.fz b) λae=>by
   rw[ep.mp ae]
   exact ⟨λz=>u v (.inl z),λz=>u S.l2 (.inl z),λz=>u (g.none E) (.inl z)⟩}⟩
end
theorem agD:shadowIn (I (hK P bp bK dg ey ln src ws ck)) (ao "push_token")=I false:=aY
theorem afd (a4:eg T L) (F:f6 T.cp L.pV c [de,ao "token"]) (e:zF c) (d:aW T g w s) (aJ:g.aD[i]?=I a) (af:w[i]?=I x) (b:x.push.length<1048576) (b7:Room 70 A):
  nh T.plain A (.call (.ref L.pV) ⟨[.ref a.x,.str t aG],[]⟩) g s (Res T.plain (w.set i {x with push:=x.push++[t]}) .none):=e.d?.elim λR d?=>by
 have h:held c.scope de=true:=by unfold held;rw[e.self];rfl
 refine LG (T:=T.plain) (k:=2) (vs:=[.obj i,.str t]) F d?.1 d.gN b7 (.cons (.obj aJ) (.cons (.str _ _) .nil)) rfl λenv g1 s1 c0 st Z E Q q=> ?_
 refine gQ (I_ (TJ (cx:=⟨T.plain.dx,2,c.scope⟩) a4 c0.inn h aY e.tok ar (t:=t) aY af b d?.2 _ _ λj s2 v t2 f=> ?_) c0.eb rfl)
 refine mm ?_
 have aN:v= .none:=by cases f.2;rfl
 exact q _ _ _ (t2.bw c0.wd) (aN▸f)
theorem V' (a4:eg T L) (F:f6 T.cp L.pV M [de,ao "token"]) (O:zF M) (C:cO T cx env σ A g w s) (hd:4≤cx.d) (ae:baseOk o=ab) (aC:(ap.endLine==pos.line)=ab) (j:starEach [e] env=[(aq,eval e env)]) (h:aS T A (eval o env) g s (Res T w1 (.obj i)))
  (he: ∀g1 s1,bW T g s g1 s1→aW T g1 w1 s1→aS T A (eval e env) g1 s1 (Res T fC (.str t))) (x:fC[i]?=I l) (f:l.push.length<1048576):
  aS T A (eval (.Call (.Attribute o (ao "push_token") ap) [e] [] pos) env) g s (Res T (fC.set i {l with push:=l.push++[t]}) .none):=by
 intro E Q q
 refine z2 (T:=T) ae aC (show 1<20 from by decide) (by rw[j];rfl) ?_
 refine h E _ λg1 s1 v t1 z=> ?_
 obtain ⟨c,i1⟩:=z
 obtain ⟨a,aJ,rfl⟩:=i1.vx
 have aI:i<w1.length:=by rw[←c.len];exact (hh.mp aJ).1
 obtain ⟨ld,li⟩:=a4.at_ c aJ (ly aI)
 intro bP
 refine method_fn (K:=T.K) (C:=L.C) c.jr li.instAt a4.u2 a4.xE a4.L? a4.PT agD ?_
 obtain ⟨of,P,ag,p⟩:=F.at_
 have r: ∀{h:bU},(dI T.cp h)→FnAt L.pV h:=λ{h} k=>by
  obtain ⟨R,od,Y,sl⟩:=of
  dsimp only at ag p
  subst ag p
  exact ⟨_,_,_,_,k _ _ P⟩
 refine callWith_F (q:=L.pV) (rest:=[]) (r λb o e=>(c.base b o e).1) (zf (rest:=[]) ?_ (by rw[j];rfl)) (by rw[j];rfl) rfl
 refine he g1 s1 t1 c E _ λH s2 X t2 y=>zg ?_
 obtain ⟨m,D⟩:=y
 obtain ⟨aG,rfl⟩:=D.h9
 refine ⟨r λb o e=>(m.base b o e).1,?_⟩
 have u:H.aD[i]?=I a:=by
  obtain ⟨more,em⟩:=t2.eJ
  rw[em,zu (hh.mp aJ).1]
  exact aJ
 exact (afd a4 F O m u x f (C.b7.less (show 70≤20*cx.d+20 by exact bE (lm 20 hd)))).uS.ee E Q λJ s3 v t3 n=>q J s3 v (t1.trans (t2.trans t3)) ⟨n.1.ee,n.2⟩
section
variable {T:cA} {L:gz} {A:eU} {g:G} {w w1:W} {s:aH} {cx:bY} {env:Env} {σ:aA} {sG Aw:hR} {a:Expr} {t:Str} {p p2 pos l8:Pos}
theorem QO (t:bW T g s g' s') (d:aW T g w s) (b:aW T g' w s'):g'.aD=g.aD:=t.eJ.elim λmore e=>by
 have l:=b.len
 rw[e,er,d.len] at l
 rw[e,Dt.mp (show more.length=0 by exact mi (Nat.add_left_cancel (mi l))),e0]
theorem aaq (a4:eg T L) (c:f6 T.cp L.jQ sG [de,qp]) (i:zB sG) (d:aW T.plain g w s) (b7:Room 50 A) (af:s.heap.get? x=I (instObj L.C dx)) (hd:s.heap.get? dx=I emptyDict) (sr:cL T.plain g x) (kv:cL T.plain g dx) (E:T.cp.get? dx=ah)
  (q: ∀j s4 h' aG bp bK dg ey t eA ck,bW T.plain g s j s4→aW T.plain j w s4→s4.toks≤aG→(∀b o,b≠dx→s4.heap.get? b=I o→h'.get? b=I o)→h'.get? dx=I (hK T.w.params bp bK dg ey (.int 1 t) (.ref src) (.str (ao "\n\t\r ") eA) (.ref ck))→dk h' ck #[]→s4.heap.get? ck=ah→R (.ok (.ret .none)) {s4 with heap:=h',toks:=aG}):
  codeAny T.mo A (.call (.ref L.jQ) ⟨[.ref x,.ref src],[]⟩) R s:=gj i.d? λr d?=>fe c.at_ λQ γ O J=>by
 have base:dI T.cp s.heap:=λb o e=>(d.base b o e).1
 refine xl (T:=T.plain) (k:=1) (vs:=[.raw (.ref x),.raw (.ref src)]) (base _ _ γ) J c.f1 c.f2 c.dW d? c.sF c.oD c.pW c.pX (c.mI.keeps base) c.a5 c.f4 c.j! c.hn c.lM c.f8 c.pU c.pT d b7 (.cons (.raw _) (.cons (.raw _) .nil)) rfl λD j s4 m f rf P=> ?_
 refine fe (f.local i.self (u:= .ref x) rfl) λvm n kx _=>fe (f.local i.du (u:= .ref src) aY) λNS H v _=> ?_
 have y:D.locals≠dx:=λz=>(f.wr de (by unfold dD;show (sG.scope.names.lookup de==_||_)=ab;rw[i.self];rfl)).elim (λh=>h.2 ⟨_,z▸hd⟩) λh=>nomatch inj (((f.mP de).trans i.self).symm.trans h.1)
 exact aar (T:=T) a4 f.fr.kind ((f.mP _).trans i.self) ((f.mP _).trans i.du) n kx (Hw n H▸v) ⟨f.wd.ee.jr,m.keep _ _ af sr.2,m.keep _ _ hd kv.2⟩ y E (λb o e=>(f.wd.base b o e).1) λh' aG bp bK dg ey Z eA ck l M X Y tA=>q j s4 h' aG bp bK dg ey Z eA ck m f.wd l M X Y tA
theorem f6.fnAt (F:f6 T.cp f fd ns) (k:dI T.cp h):FnAt f h:=fe F.at_ λo b ag hd=>by
 obtain ⟨c,od,d,sl⟩:=o
 dsimp only at ag hd
 subst ag hd
 exact ⟨_,_,_,_,k _ _ b⟩
theorem V9 (a4:eg T L) (ie:f6 T.cp L.jQ sG [de,qp]) (nj:zB sG) (J:f6 T.cp L.sD Aw [gc]) (iH:zK L Aw) (i:cO T cx env σ A g w s) (hf:cx.sc.names.lookup (ao "_netrclex")=I .globalImplicit) (b_:cx.sc.names.lookup (ao "_law_stream")=I .globalImplicit)
  (hd:4≤cx.d) (bH:t.length≤1048576∧fE t=ab) (Y:starEach [a] env=[(aq,eval a env)]) (h:aS T A (eval a env) g s (Res T w1 (.str t))):
  aS T A (eval (.Call (.Name (ao "_netrclex") p) [.Call (.Name (ao "_law_stream") p2) [a] [] l8] [] pos) env) g s (Res T (w1++[⟨t.cps.toList,1,[]⟩]) (.obj w1.length)):=by
 intro E Q q
 refine aw (AL i.wd i.fr hf a4.gb (callWith_K (h₀:=T.cp) T.fc a4.Ms (zf (rest:=[]) ?_ rfl)))
 refine aw (AL i.wd i.fr b_ a4.dA (callWith_F (q:=L.sD) (rest:=[]) (J.fnAt λb o e=>(i.wd.base b o e).1) (zf (rest:=[]) ?_ (by rw[Y];rfl)) (by rw[Y];rfl) rfl))
 refine h E _ λg1 s1 v1 t1 r=>zg (gj r.2.h9 λaG ev=>ev▸⟨J.fnAt λb o e=>(r.1.base b o e).1,?_⟩)
 have X:Room 70 A:=i.b7.less (by exact bE (lm 20 hd))
 refine (ahO a4 J iH r.1 X).uS _ _ λu s2 v2 t2 D=>zg ⟨D.1.ee.jr,D.2.elim λ{src bP sd dv dd cT m fd bp bK} ev S=>ev▸D2 ?_⟩
 have j:=r.1
 have f:=D.1
 clear h i r D
 obtain ⟨aa,k,dr,c,l⟩:=s2
 refine make_core (makes_of f.ee.jr a4.MC) (looks_findIn f.ee.jr a4.eG) (λself=>bind_fn f.ee.jr self a4.PR) (.inl rfl) ?_
 have M: ∀n,aa.get? (aa.objs.size+n)=none:=λn=>kP (gw _ _)
 have P: ∀b o,aa.get? b=I o→((aa.push emptyDict).push (instObj L.C aa.objs.size)).get? b=I o:=λb o e=>dE _ (dE _ e)
 have x:((aa.push emptyDict).push (instObj L.C aa.objs.size)).get? (aa.objs.size+1)=I (instObj L.C aa.objs.size):=hb aa emptyDict▸d9 _ rfl
 have v:((aa.push emptyDict).push (instObj L.C aa.objs.size)).get? aa.objs.size=I emptyDict:=dE _ (d9 _ rfl)
 generalize (aa.push emptyDict).push (instObj L.C aa.objs.size)=ay at P x v⊢
 have e9:bW T.plain u ⟨aa,k,dr,c,l⟩ (u.news aa ay) ⟨ay,k,dr,c,l⟩:= .news (s:=⟨aa,k,dr,c,l⟩) (t:=c) P (bh _)
 have Ad:aW T.plain (u.news aa ay) w1 ⟨ay,k,dr,c,l⟩:=aW.news (s:=⟨aa,k,dr,c,l⟩) (t:=c) f P (bh _)
 have R:cL T.plain (u.news aa ay) aa.objs.size:=G.nX (s:=⟨aa,k,dr,c,l⟩) f (M 0) v
 have sr:cL T.plain (u.news aa ay) (aa.objs.size+1):=G.nX (s:=⟨aa,k,dr,c,l⟩) f (M 1) x
 have cP: ∀n,s1.heap.get? (aa.objs.size+n)=none:=λn=>t2.none (M n)
 refine aaq (dx:=aa.objs.size) a4 ie nj Ad (Room.made (X.less (by exact EF rfl))) x v sr R (DF.mpr λo e=>nn ((cP 0).symm.trans (j.base _ o e).1)) λdJ s4 h' aG bp bK dg ey kt eA ck H nz O aV gp k7 tA=>⟨rfl,?_⟩
 have y:=e9.trans H
 have Z:=t2.trans y
 have fC:=QO t2 j.gN f
 have wG:=aaT (a:=⟨aa.objs.size+1,aa.objs.size,bP,ck⟩) (s5:={s4 with heap:=h',toks:=aG}) a4 j nz.ee Z.ee (QO Z j.gN nz) (S.keep (λ{b o} n e=>y.keep b o e λz=>(j.ex b (j.dG b (fC▸z))).elim λo e=>nn (n.symm.trans e)) (y.bJ f) (y.hD _)) bH.1 bH.2 (H.keep _ _ x sr.2) (cP 1) (cP 0) (H.hD _ R.1) (H.keep _ _ v R.2) O rfl rfl aV gp k7 tA
 refine q _ _ _ (t1.trans wG.1) ⟨wG.2,.obj (a:=⟨aa.objs.size+1,aa.objs.size,bP,ck⟩) ?_⟩
 show (g1.aD++[_])[w1.length]?=_
 rw[←j.len,Jm (bh _),zi]
 rfl
theorem V7 (a4:eg T L) (j:f6 T.cp L.gk k [de]) (c9:ni k) (r:f6 T.cp L.q4 oB [de]) (o:zM oB) (n:f6 T.cp L.jQ sG [de,qp]) (q:zB sG) (e:f6 T.cp L.sD Aw [gc]) (m:zK L Aw) {d:hR} (f:f6 T.cp L.pV d [de,ao "token"]) (u:zF d):qQ T where
 make i hf l hd bH c h:=V9 a4 n q e m i hf l hd bH c h
 tok i hd ae aC h b:=V_ a4 j c9 r o i hd ae aC h b
 push i hd ae aC c h he b hlen:=V' a4 f u i hd ae aC c h he b hlen
 line i ae h b:=V8 a4 i ae h b
end
end Mine
end
noncomputable section
open PySem PySem.W PyProof.Rows PySem.Calls PySem.Spec
namespace Mine
noncomputable def fdOf (K:Frag) (a:aP):hR:=match K.lookup a with
 |some ⟨_,_,.func fd,_⟩=>fd
 |_=>{name:=ao "",qualname:=ao "",params:=⟨[],[],ah,[],[],ah,[]⟩,body:= .stmts [],scope:=default,globals:=0,closure:=[],defaults:= .none,kwdefaults:= .none,doc:= .none,pyModule:= .none,annotations:=ah,code:= .none,closureTuple:= .none,builtins:=0}
noncomputable def wX:az→aP
 | .ref c=>c
 |_=>0
noncomputable def IB:Option Obj→Array az
 |some ⟨_,_,.fields vs,_⟩=>vs
 |_=> #[]
noncomputable def aif:Option az→Tok
 |some (.str _ t)=>t
 |_=>0
structure uv (K:Frag) (f:aP) (fd:hR) (ns:List Str):Prop where
 a1:(K.lookup f).map (λo=>(o.cls,o.data))=I (.type "function",.func fd):=by kernel_rfl
 a2:(fd.scope.kind,fd.scope.isGenerator,fd.scope.isCoroutine,fd.closure,fd.globals,fd.builtins,fd.defaults)=(.function,aq,aq,[],mainGlobals,builtinsNs,.none):=by kernel_rfl
 gV:(fd.params.args.map (·.arg),fd.params.posonlyargs,fd.params.vararg,fd.params.kwonlyargs,fd.params.kwarg)=(ns,[],ah,[],ah):=by kernel_rfl
 To:fd.code= .ref (wX fd.code):=by kernel_rfl
 Tp:(K.lookup (wX fd.code)).map (·.data)=I (.fields (IB (K.lookup (wX fd.code)))):=by kernel_rfl
 Tq:(IB (K.lookup (wX fd.code)))[1]?=I (.str fd.qualname (aif (IB (K.lookup (wX fd.code)))[1]?)):=by kernel_rfl
 Tr:fd.scope.names.all (λx=>(x.2== .local||x.2== .cell||x.2== .globalImplicit)&&x.1 !=("__debug__":Str)&&x.1 !=("__classdict__":Str))=true:=by kernel_rfl
 Ts:ns.all (λx=>fd.scope.names.lookup x==I .local||fd.scope.names.lookup x==I .cell)=true:=by kernel_rfl
 Tt:decide ns.Nodup=true:=by kernel_rfl
theorem xk {K:Frag} {h:bU} (X:K.In h) {f:aP} {fd:hR} {ns:List Str} (e:uv K f fd ns):f6 h f fd ns where
 at_:=(t5.mp e.a1).elim λo q=>⟨o,X _ _ q.1,aQ (·.1) q.2,aQ (·.2) q.2⟩
 f1:=aQ (·.1) e.a2
 f2:=aQ (·.2.1) e.a2
 dW:=aQ (·.2.2.1) e.a2
 sF:=aQ (·.2.2.2.1) e.a2
 oD:=aQ (·.2.2.2.2.1) e.a2
 pW:=aQ (·.2.2.2.2.2.1) e.a2
 pX:=aQ (·.2.2.2.2.2.2) e.a2
 mI:=(t5.mp e.Tp).elim λo q=>⟨_,o,_,_,e.To,X _ _ q.1,q.2,e.Tq⟩
 a5:=aQ (·.1) e.gV
 f4:=aQ (·.2.1) e.gV
 j!:=aQ (·.2.2.1) e.gV
 hn:=aQ (·.2.2.2.1) e.gV
 lM:=aQ (·.2.2.2.2) e.gV
 f8:=λx k av=>by
  have q:=iB.mp e.Tr (x,k) (mem_of_lookup av)
  rw[j3,j3,t8,t8,beq_iff_eq,beq_iff_eq,beq_iff_eq] at q
  exact ⟨or_assoc.mp q.1.1,rZ _|>.mp q.1.2,rZ _|>.mp q.2⟩
 pU:=λx af=>by
  have q:=iB.mp e.Ts x af
  rw[t8,beq_iff_eq,beq_iff_eq] at q
  exact q
 pT:=jH e.Tt
noncomputable abbrev qC:List (aP×aP):=[(118,114)]
noncomputable abbrev G0:gz:={C:=108,gk:=91,q4:=98,jQ:=84,sD:=119,pV:=105,cI:=118,tab:=114,l6:=⟨186,4,188,45⟩,gL:=⟨189,13,189,25⟩,HM:=ao "_law_stream.<locals>.read",HL:=ao "_law_stream.<locals>.<lambda>"}
noncomputable def pE (l:List Pos) (n:Nat):Pos:=l.getD n ⟨0,0,0,0⟩
noncomputable def U9:List Pos:=[⟨148,8,148,10⟩,⟨148,13,148,17⟩,⟨148,13,148,26⟩,⟨148,13,148,31⟩,⟨148,32,148,33⟩,⟨148,13,148,34⟩,⟨148,8,148,34⟩,⟨149,11,149,13⟩,⟨149,17,149,21⟩,⟨149,11,149,21⟩,⟨150,12,150,16⟩,⟨150,12,150,23⟩,⟨150,27,150,28⟩,⟨150,12,150,28⟩,⟨149,8,150,28⟩,⟨151,15,151,17⟩,⟨151,8,151,17⟩]
noncomputable def ail:List Pos:=[⟨159,15,159,17⟩,⟨159,21,159,25⟩,⟨159,15,159,36⟩,⟨160,16,160,24⟩,⟨159,12,160,24⟩,⟨169,19,169,21⟩,⟨169,25,169,29⟩,⟨169,19,169,29⟩,⟨170,20,170,22⟩,⟨170,25,170,29⟩,⟨170,25,170,40⟩,⟨170,25,170,42⟩,⟨170,20,170,42⟩,⟨169,16,170,42⟩,⟨159,15,159,17⟩,⟨171,16,171,21⟩,⟨171,25,171,27⟩,⟨171,16,171,27⟩,⟨159,21,159,36⟩,⟨161,15,161,17⟩,⟨161,21,161,24⟩,⟨161,15,161,24⟩,⟨162,20,162,22⟩,⟨162,26,162,31⟩,⟨162,16,167,31⟩,⟨172,20,172,22⟩,⟨172,26,172,31⟩,⟨172,16,177,31⟩,⟨161,12,177,31⟩]
noncomputable def ain:List Pos:=[⟨163,23,163,25⟩,⟨163,29,163,32⟩,⟨163,23,163,32⟩,⟨164,31,164,36⟩,⟨164,24,164,36⟩,⟨165,25,165,27⟩,⟨165,31,165,35⟩,⟨165,25,165,35⟩,⟨166,24,166,26⟩,⟨166,29,166,33⟩,⟨166,29,166,44⟩,⟨166,29,166,46⟩,⟨166,24,166,46⟩,⟨165,20,166,46⟩,⟨163,20,166,46⟩,⟨167,20,167,25⟩,⟨167,29,167,31⟩,⟨167,20,167,31⟩,⟨163,23,163,25⟩]
noncomputable def aim:List Pos:=[⟨173,23,173,25⟩,⟨173,29,173,33⟩,⟨173,23,173,44⟩,⟨174,31,174,36⟩,⟨174,24,174,36⟩,⟨175,25,175,27⟩,⟨175,31,175,35⟩,⟨175,25,175,35⟩,⟨176,24,176,26⟩,⟨176,29,176,33⟩,⟨176,29,176,44⟩,⟨176,29,176,46⟩,⟨176,24,176,46⟩,⟨175,20,176,46⟩,⟨173,20,176,46⟩,⟨177,20,177,25⟩,⟨177,29,177,31⟩,⟨177,20,177,31⟩,⟨173,29,173,44⟩]
noncomputable def aiq:List Pos:=[⟨154,11,154,15⟩,⟨154,11,154,24⟩,⟨155,19,155,23⟩,⟨155,19,155,32⟩,⟨155,19,155,36⟩,⟨155,37,155,38⟩,⟨155,19,155,39⟩,⟨155,12,155,39⟩,⟨154,8,155,39⟩,⟨156,8,156,13⟩,⟨156,16,156,18⟩,⟨156,8,156,18⟩,⟨157,8,157,13⟩,⟨157,16,157,20⟩,⟨157,21,157,25⟩,⟨157,21,157,36⟩,⟨157,38,157,40⟩,⟨157,16,157,41⟩,⟨157,8,157,41⟩,⟨158,12,158,14⟩,⟨158,18,158,23⟩,⟨158,8,177,31⟩,⟨178,15,178,20⟩,⟨178,8,178,20⟩]
noncomputable def aap:List Pos:=[⟨142,8,142,12⟩,⟨142,8,142,19⟩,⟨142,22,142,23⟩,⟨142,8,142,23⟩,⟨143,8,143,12⟩,⟨143,8,143,21⟩,⟨143,24,143,26⟩,⟨143,8,143,26⟩,⟨144,8,144,12⟩,⟨144,8,144,23⟩,⟨144,26,144,35⟩,⟨144,8,144,35⟩,⟨145,8,145,12⟩,⟨145,8,145,21⟩,⟨145,24,145,26⟩,⟨145,8,145,26⟩]
noncomputable def ahN:List Pos:=[⟨184,4,184,9⟩,⟨184,13,184,14⟩,⟨184,12,184,15⟩,⟨184,4,184,15⟩,⟨189,4,189,10⟩,⟨189,21,189,25⟩,⟨189,4,189,25⟩,⟨190,4,190,10⟩,⟨190,4,190,15⟩,⟨190,18,190,22⟩,⟨190,4,190,22⟩,⟨191,11,191,17⟩,⟨191,4,191,17⟩]
noncomputable def afp:List Pos:=[⟨187,8,187,13⟩,⟨187,14,187,15⟩,⟨187,8,187,16⟩,⟨187,20,187,24⟩,⟨187,8,187,24⟩,⟨188,15,188,19⟩,⟨188,20,188,25⟩,⟨188,26,188,27⟩,⟨188,20,188,28⟩,⟨188,31,188,35⟩,⟨188,20,188,35⟩,⟨188,36,188,41⟩,⟨188,42,188,43⟩,⟨188,36,188,44⟩,⟨188,20,188,44⟩,⟨188,15,188,45⟩,⟨188,8,188,45⟩]
noncomputable def afa:List Pos:=[⟨181,8,181,12⟩,⟨181,8,181,21⟩,⟨181,8,181,28⟩,⟨181,29,181,34⟩,⟨181,8,181,35⟩,⟨181,8,181,35⟩]
theorem tw (P:iE):noTabs (dB P)=true:=aY
theorem LL: ∀x∈(["len","sum","max","min","abs","int","range","enumerate","sorted","set","iter"]:List Str),x∉startupNames∧x∉looseW gO oS∧x∉(recsOf gO).map (·.name)∧x∉(litsOf gO).map (·.1)∧x∉(clssOf gO (looseW gO oS)).map (·.name):=bx
theorem Yw: ∀d∈vJ,Fl d=true:=bx
theorem acG:PyProof.Rows.valOf gO (ao "ELLIPSIS_MARKER")=I (PyData.str (ao "...")):=aY
section
variable (P:iE)
theorem U3:uv (dB P) 91 (fdOf (dB P) 91) [de]:={}
theorem U5:uv (dB P) 98 (fdOf (dB P) 98) [de]:={}
theorem U1:uv (dB P) 84 (fdOf (dB P) 84) [de,qp]:={}
theorem U4:uv (dB P) 119 (fdOf (dB P) 119) [gc]:={}
theorem U2:uv (dB P) 105 (fdOf (dB P) 105) [de,ao "token"]:={}
theorem U8:ni (fdOf (dB P) 91) where
 d?:=⟨pE U9,by kernel_rfl,by kernel_rfl⟩
 au:=aY
 ag:=aY
theorem aij:zM (fdOf (dB P) 98) where
 d?:=⟨pE ail,pE ain,pE aim,pE aiq,by kernel_rfl,by kernel_rfl,by kernel_rfl,by kernel_rfl,by kernel_rfl⟩
 N:=⟨by kernel_rfl,by kernel_rfl,by kernel_rfl,by kernel_rfl,by kernel_rfl⟩
theorem ae9:zF (fdOf (dB P) 105) where
 d?:=⟨pE afa,by kernel_rfl,by kernel_rfl⟩
 self:=aY
 tok:=aY
theorem aao:zB (fdOf (dB P) 84) where
 d?:=⟨pE aap,by kernel_rfl⟩
 self:=aY
 du:=aY
end
noncomputable abbrev z?:List (Str×U):=[(ao "ONE_THIRD",.aj 4599676419421066581),(ao "ONE_SIXTH",.aj 4595172819793696085),(ao "TWO_THIRD",.aj 4604180019048437077),(ao "ELLIPSIS_MARKER",.str (ao "..."))]
noncomputable def vv (n:Str):Data→Option az
 | .dict es _=>nsFind es n
 |_=>ah
theorem ya {K:Frag} {h:bU} {N:aP} {eh:Str→Option az} {n:Str} {v:az} (X:K.In h) (G:h.Ns N eh) (e:(K.lookup N).map (λo=>vv n o.data)=I (I v)):eh n=I v:=by
 obtain ⟨o,es,f,a⟩:=G
 have b:=a.1
 have hd:=a.2.1
 have av:=a.2.2.1
 have d:=a.2.2.2
 obtain ⟨g,c,e⟩:=t5.mp e
 cases (X _ _ c).symm.trans b
 rw[hd] at e
 exact (d n).symm.trans e
theorem aib (P:iE):((dB P).lookup mainGlobals).map (λo=>vv (ao "ONE_THIRD") o.data)=I (I (.float 4599676419421066581 191)):=aY
theorem agU (P:iE):((dB P).lookup mainGlobals).map (λo=>vv (ao "ONE_SIXTH") o.data)=I (I (.float 4595172819793696085 195)):=aY
theorem aiF (P:iE):((dB P).lookup mainGlobals).map (λo=>vv (ao "TWO_THIRD") o.data)=I (I (.float 4604180019048437077 199)):=aY
theorem V5 {P:iE} {eh ed:Str→Option az} {a:ExcName→Option az} {h:bU} (fc:(dB P).In h) (fL:Top gO (looseW gO oS) a eh ed h): ∀q∈z?,∃v,eh q.1=I v∧ ∀B aD h,Is B aD h q.2 v:=
 ue.mpr ⟨⟨_,ya fc fL.g (aib P),λB aD h=> .aj _ _ ar⟩,ue.mpr ⟨⟨_,ya fc fL.g (agU P),λB aD h=> .aj _ _ ar⟩,ue.mpr ⟨⟨_,ya fc fL.g (aiF P),λB aD h=> .aj _ _ ar⟩,ue.mpr ⟨(fL.const _ _ acG).imp λv q=>⟨q.1,λB aD h=>by
  cases q.2 h
  exact .str _ _⟩,λZ z=>nomatch z⟩⟩⟩⟩
theorem UE (P:iE):nsIn (dB P) cStatics sharingNotToldKey=I none:=aY
def yE (w:rS) (J:bU) (eh ed:Str→Option az) {r:ExcName→Option az} (bZ:TabsAt qC J) (fc:(dB w.params).In J) (fL:Top gO (looseW gO oS) r eh ed J):cA where
 prog:=wt.row.prog
 w:=w
 cp:=ghostOf J qC
 K:=dB w.params
 eh:=eh
 ed:=ed
 dZ:=I 114
 fc:=wu bZ fc (tw w.params)
 g:=ghost_ns bZ fL.g
 b:=ghost_ns bZ fL.b
 nolimit:=(ghost_top bZ fL).nolimit
 builtins:=fL.builtins
 booked:=(ghost_top bZ fL).nolimit.elim λj q=>⟨j,q.1,ns_none_of (wu bZ fc (tw w.params)) q.1 (UE _)⟩
 dx:=⟨ab,vJ,z?⟩
 fns:=λd hd=>by
  obtain ⟨a,o,pm,code,doc,f⟩:=fL.fn d (afD▸hd)
  have i:=f.1
  have aa:=f.2.1
  have ay:=f.2.2.1
  have m:=f.2.2.2
  refine ⟨Yw d hd,a,o,pm,code,doc,i,ghost_get bZ aa (λq=>nomatch (aQ pk q).symm.trans ay),ay,?_⟩
  obtain ⟨c,n,vs,t,e,g1,g2,g3⟩:=m
  refine ⟨c,n,vs,t,e,ghost_get bZ g1 (λq=> ?_),g2,g3⟩
  cases (aQ pk q).symm.trans g2
  exact nomatch g3
 consts:=λx p aC=>V5 fc fL (x,p) (mem_of_lookup aC)
 uE:=λx af=>(LL x (akb.mp af)).elim λa q=>q.elim λb q=>q.elim λc q=>q.elim λd e=>fL.free x a b c d e
 sa:=vl w.params 108 (ghostOf J qC)
 sf:=CL G0
 k!:=λl k h=>acD l k h
 m2:=λl k h=>ah6 l k h
section
variable (P:iE)
theorem bp:findIn (dB P) (.ref 108) "__getattribute__"=I (I (.builtin "object.__getattribute__")):=aY
theorem bK:findIn (dB P) (.ref 108) "__getattr__"=I none:=aY
theorem dg:findIn (dB P) (.ref 108) "__setattr__"=I (I (.builtin "object.__setattr__")):=aY
theorem ey:plainOver (dB P) 108=true:=aY
theorem qg:(clsIn (dB P) 108).any (·.hasDict)=true:=aY
theorem aa0:findIn (dB P) (.ref 108) (ao "_read_char")=I (I (.ref 91)):=aY
theorem aa2:findIn (dB P) (.ref 108) (ao "get_token")=I (I (.ref 98)):=aY
theorem aa1:findIn (dB P) (.ref 108) (ao "push_token")=I (I (.ref 105)):=aY
theorem aa4:typeIn (dB P) (.ref 105)=I (.type "function"):=aY
theorem aa3:typeIn (dB P) (.ref 91)=I (.type "function"):=aY
theorem aa5:typeIn (dB P) (.ref 98)=I (.type "function"):=aY
theorem aaU:specialIn (dB P) (.ref 91) "__get__"=I (I (.builtin "function.__get__")):=aY
theorem aaV:takesIn (dB P) (.ref 91)=I false:=aY
theorem aaW:makesIn (dB P) 108=true:=aY
theorem aaX:keepIn (dB P) (.ref 108)=true:=aY
theorem aaY:findIn (dB P) (.ref 108) "__init__"=I (I (.ref 84)):=aY
theorem aaZ:typeIn (dB P) (.ref 84)=I (.type "function"):=aY
theorem ac3:findIn (dB P) (.ref 108) (ao "lineno")=I none:=aY
theorem ac4:findIn (dB P) (.ref 108) (ao "instream")=I none:=aY
theorem ac5:findIn (dB P) (.ref 108) (ao "whitespace")=I none:=aY
theorem ac6:findIn (dB P) (.ref 108) (ao "pushback")=I none:=aY
theorem af0:takerIn (dB P) 108 (ao "lineno")=I none:=aY
theorem af1:takerIn (dB P) 108 (ao "instream")=I none:=aY
theorem af2:takerIn (dB P) 108 (ao "whitespace")=I none:=aY
theorem af3:takerIn (dB P) 108 (ao "pushback")=I none:=aY
theorem ahL:zK G0 (fdOf (dB P) 119) where
 d?:=⟨(pE ahN,(⟨[],[⟨nV,ah,⟨186,13,186,17⟩⟩],ah,[],[],ah,[]⟩:ud),
  readBody (pE afp),
  {kind:= .function,names:=[(nV,.local),(fH,.free),(gc,.free)],isGenerator:=aq,isCoroutine:=aq,more:=[]},
  (⟨[],[],ah,[],[],ah,[]⟩:ud),{kind:= .function,names:=[],isGenerator:=aq,isCoroutine:=aq,more:=[]}),by kernel_rfl,
  ⟨⟨_,rfl⟩,rfl,rfl,rfl,rfl,rfl,rfl,rfl,λZ=>rfl,rfl,rfl,rfl,rfl⟩,λZ=>rfl,rfl⟩
 names:=aY
 code:=aY
 c!:=aY
 dT:=aY
end
section
variable {w:rS} {J:bU} {eh ed:Str→Option az} (bZ:TabsAt qC J) (fc:(dB w.params).In J) (fL:Top gO (looseW gO oS) qm eh ed J)
theorem Zh (P:iE):((dB P).lookup mainGlobals).map (λo=>vv (ao "_netrclex") o.data)=I (I (.ref 108)):=aY
theorem Zp (P:iE):((dB P).lookup mainGlobals).map (λo=>vv (ao "_law_stream") o.data)=I (I (.ref 119)):=aY
theorem aca:eg (yE w J eh ed bZ fc fL) G0 where
 u2:=bp _
 xE:=bK _
 Gm:=dg _
 aC:=ey _
 cC:=qg _
 ka:=aa0 _
 bZ:=aa2 _
 Ih:=aa3 _
 PU:=aa5 _
 L?:=aa1 _
 PT:=aa4 _
 mF:=aaU _
 ri:=aaV _
 aI:=by
  have h:=LL (ao "iter") bx
  have a:=h.1
  have b:=h.2.1
  have c:=h.2.2.1
  have d:=h.2.2.2.1
  have e:=h.2.2.2.2
  exact fL.free _ a b c d e
 gb:=ya fc fL.g (Zh _)
 dA:=ya fc fL.g (Zp _)
 MC:=aaW _
 Ms:=aaX _
 eG:=aaY _
 PR:=aaZ _
 cP:=ac3 _
 d4:=ac4 _
 vo:=ac5 _
 oV:=ac6 _
 s1:=af0 _
 s2:=af1 _
 s3:=af2 _
 s4:=af3 _
 tab:=rfl
 tV:=rfl
 FP:=(ghost_code bZ).1
 Mg:=by
  obtain ⟨bm,o,n,aa,ay,i,p,l⟩:=fL.bmain
  have e: ∀{b f},J.get? b=I f→f.cls= .type "module"→(ghostOf J qC).get? b=I f:=λ{b f} e c=>ghost_get bZ e (λq=>nomatch (aQ Obj.cls q).symm.trans c)
  have k:=(bZ (118,114) (by simp)).2
  refine ⟨bm,o,n,aa,?_,?_,e ay i,i,p,l⟩
  ·rintro rfl
   obtain ⟨f,es,r,j,m,_⟩:=fL.g
   rw[ay] at j;cases j;rw[l] at m;cases m
  ·rintro rfl
   rw[ay] at k;cases k;cases i
 el:=ar
 c3:=rfl
theorem V6:qQ (yE w J eh ed bZ fc fL):=
 V7 (aca bZ fc fL) (xk (wu bZ fc (tw w.params)) (U3 _)) (U8 _) (xk (wu bZ fc (tw w.params)) (U5 _)) (aij _) (xk (wu bZ fc (tw w.params)) (U1 _)) (aao _) (xk (wu bZ fc (tw w.params)) (U4 _)) (ahL _) (xk (wu bZ fc (tw w.params)) (U2 _)) (ae9 _)
theorem ai4 (c:0<s1.toks) (bZ:TabsAt qC s1.heap) (fc:(dB w.params).In s1.heap) (fL:Top gO (looseW gO oS) f eh ed s1.heap):aW (yE w s1.heap eh ed bZ fc fL) ⟨λb=>b=114,[]⟩ [] s1 where
 aG:=c
 base:=λb o e=>⟨of_hideAll _ e,λz=>by
  subst z
  have aa:(ghostOf s1.heap qC).get? 114=none:=hideAll_none _ (by simp)
  exact bF (aa.symm.trans e) (by nofun)⟩
 ex:=λb z=>by
  have z:b=114:=z
  subst z
  exact ⟨_,(bZ (118,114) (by simp)).2⟩
 dG:=λb z=>by
  rcases z with z|⟨a,m,_⟩
  ·cases z;rfl
  ·exact nomatch m
 tab:=⟨[],(bZ (118,114) (by simp)).2,λZ h=>nomatch h⟩
 len:=rfl
 c3:=λi a x e=>by simp at e
 fT:=λi j a d Z e=>by simp at e
 fz:=λa h=>nomatch h
end
abbrev G1:j4:=aE 22
theorem abi:G1∈vJ:=hc.mpr ⟨22,by decide,rfl⟩
theorem abj:G1.name=ao "law":=bx
abbrev K1:bY:=⟨⟨ab,vJ,z?⟩,8,default⟩
abbrev Ed:Prop:= ∀a:List Int,a.length≤63→ ∃n w',b' (n+1) K1 G1 [.list (a.map .int)] []=I (.bool ab,w')
theorem ai6: ∀{b:List Int} {vs:List az},WellAll P h vs (ofPys (b.map .int))→IsL B aD h' (b.map .int) vs:=by
 intro d
 induction d with
 |nil=>
  intro _ x
  cases x;exact .nil
 |cons i b c=>
  intro _ x
  cases x with
  |cons a r=>cases a;exact .cons (.int _ _) (c r)
theorem ae3:wt.row.claim.post args (WData.bool ab) args=true:=by first|kernel_rfl|rfl|(simp;done)|decide
set_option tactic.hygienic true in
theorem X! (H:Ed) {w:rS} {s1:aH} {eh ed:Str→Option az} {t:ExcName→Option az} {cl:Str→Option aP} {sE f:aP} {c:List Int} {args:List WData}
  (bZ:TabsAt qC s1.heap) (fc:(dB w.params).In s1.heap) (fL:Top gO (looseW gO oS) t eh ed s1.heap) (E:0<s1.toks) (A:s1.gens= #[])
  (O:eh (ao "law")=I (.ref sE)) (hw:Well w.params s1.heap (.ref f) (ofPy (.list (c.map .int)))) (g:c.length≤63):
  aU (cU wt.row.prog w) callerA (call (.ref sE) [.ref f]) (λv s'=>GoodWG wt.row.claim cl t args s1 (.ok (.ret v)) s') (λe s'=>GoodWG wt.row.claim cl t args s1 (.error e) s') s1:=by
 obtain ⟨n,w',P⟩:=H c g
 have d:=ai4 E bZ fc fL
 have D:=(H' (T:=yE w s1.heap eh ed bZ fc fL) (λ_=>V6 bZ fc fL) n).2
 have M: ∃vs,s1.heap.get? f=I {cls:= .type "list",data:= .seq (mh vs)}∧WellAll w.params s1.heap vs (ofPys (c.map .int)):=by
  generalize i:ofPy (.list (c.map .int))=q at hw
  cases hw<;>first|(cases i;done)|skip
  rename_i aa J
  injection i with i
  rw[←i] at aa
  exact ⟨_,J,aa⟩
 obtain ⟨vs,x⟩:=M
 have j:=x.1
 have Q:=x.2
 have k:s1.heap.get? 114=I (tabObj #[]):=(bZ (118,114) (by simp)).2
 have y:f≠114:=λz=>by rw[z,k] at j;cases j
 have aX:IsL (λb=>b=114) [] s1.heap [.list (c.map .int)] [.ref f]:= .cons (.list y ⟨_,j,rfl,_,rfl⟩ (ai6 Q)) .nil
 refine (Ky (T:=yE w s1.heap eh ed bZ fc fL) (cx:=K1) D P abi rfl d ⟨?_,?_,rfl⟩ aX (by rw[abj];exact O)).uS _ _ λg' s' v st r=> ?_
 ·skip
  decide+kernel
 ·skip
  decide+kernel
 ·obtain ⟨C,L⟩:=r
  cases L
  have p: ∀b,b≠114→ ¬et (I 114) ([]:List ih) b:=λb h z=>by
   rcases z with z|⟨a,m,_⟩
   ·cases z;exact h rfl
   ·exact nomatch m
  have keep: ∀b o,b≠114→s1.heap.get? b=I o→s'.heap.get? b=I o:=λb o ae e=>st.keep b o e (p b ae)
  obtain ⟨l,s⟩:=C.tab
  have u:=s.1
  refine ⟨.inl ⟨_,.bool ab,[],rfl,λ_=>rfl,.bool ab,ae3,λ_=>⟨.nil,λ_ h=>nomatch h⟩⟩,⟨λb o e=> ?_,λb o e=> ?_⟩,st.os,.of_eq (st.gens.trans A)⟩
  ·by_cases ae:b=114
   ·subst ae
    rw[k] at e
    cases e
    refine .inr (.inl ⟨(((bZ (118,114) (by simp)).1).tab k).isCodeTable,rfl,#[],_,rfl,by rw[Array.empty_append];exact u⟩)
   ·exact .inl (keep b o ae e)
  ·by_cases ae:b=114
   ·subst ae;exact ⟨_,u⟩
   ·exact ⟨o,keep b o ae e⟩
theorem abh (H:Ed):wt.Holds:=ZH (by
 intro w s0 s1 eh ed G a sE o v cd doc i l t hd mI u n m args b as L q e tb p d
 have Y:=ta.keeps w _ _ (Pa a).1 L.keeps
 have fc:=km_in_of Y
 have X:=(Ground.X G).1
 have V:=(Ground.X G).2
 refine Ground.open G ?_
 intro T B D TE s
 have f:TabsAt qC s1.heap:=ue.mpr ⟨⟨codeHd_of_K (c:=118) (P:=114) fc aY,km_tabs_of Y 114 eQ⟩,λ_ h=>nomatch h⟩
 have k:=L
 wrow_args q e tb p d
 rename_i hw g eG r j nF
 exact X! H f fc T (jf (Pa a).2 (PySem.W.X.script_toks L rfl)) m n hw (by lia))
end Mine
end
noncomputable section
open PySem PySem.W PyProof.Rows PySem.Calls PySem.Spec PySem.SeqAt
namespace Mine
theorem LN:n+c+k+1=(n+k+1)+c:=by simp+arith only
theorem KW (c:Nat) (n:Nat): ∀(items:List U),(∀p∈items,∃σ',d2 cx.sc tgt p σ=I σ'∧ ∀n,hN (n+c) cx .And ifs σ' w=I (b p,w)∧(b p=ab→ev (n+c) cx elt σ' w=I (f p,w)))→
  d! (n+c+items.length+1) cx elt tgt ifs items σ w=I ((items.filter b).map f,w):=by
 intro items
 induction items with
 |nil=>exact λh=>rfl
 |cons p items a=>
  exact λh=>cM (h p eQ) λσ' J aa=>by
   have a:=a λq d=>h q (fb _ d)
   have ay:=aa (n+items.length+1)
   rw[←LN] at ay
   refine eO J (eO ay.1 ?_)
   cases ae:b p with
   |true=>exact eO (ay.2 ae) (eO a (by rw[List.filter_cons_of_pos ae];rfl))
   |false=>exact a.trans (by rw[List.filter_cons_of_neg (by rw[ae];exact cv)])
theorem VM (c:Nat) (h: ∀p∈items,∃σ',d2 cx.sc tgt p σ=I σ'∧ ∀n,ev (n+(c+1)) cx elt σ' w=I (f p,w)) (n:Nat):
  d! (n+(c+1)+items.length+1) cx elt tgt [] items σ w=I (items.map f,w):=by
 have:=KW (b:=λZ=>ab) (f:=f) (ifs:=[]) (c+1) n items λp aC=>(h p aC).elim λσ' q=>⟨σ',q.1,λn=>⟨rfl,λZ=>q.2 n⟩⟩
 rw[List.filter_eq_self.mpr (λZ Z=>rfl)] at this
 exact this
theorem En:j+(i+1)=j+1+i:=by exact mi (ajY _ _)
theorem Fo {Inv:Nat→aA→W→Prop} (c:Nat): ∀(items:List U) (j:Nat) (σ:aA) (w:W),(∀i p σ w,items[i]?=I p→Inv (j+i) σ w→ ∃σ' fl σ1 w1,d2 cx.sc tgt p σ=I σ'∧(fl= .next∨fl= .cont)∧(∀n,cw (n+c) cx body σ' w=I (fl,σ1,w1))∧Inv (j+i+1) σ1 w1)→Inv j σ w→
  ∃σ1 w1,(∀n,forL (n+c+items.length+1) cx tgt body items σ w=I (.next,σ1,w1))∧Inv (j+items.length) σ1 w1:=by
 intro items
 induction items with
 |nil=>exact λj σ w h a=>⟨σ,w,λn=>rfl,a⟩
 |cons p items f=>
  exact λj σ w h a=>Wz (h 0 p σ w rfl a) λσ' fl σ1 w1 J aa ay d=>jk (f (j+1) σ1 w1 (λi q σ w b aI=>En (j:=j) (i:=i)▸h (i+1) q σ w b (En.symm▸aI)) d) λl fC g k=>
  ⟨l,fC,λn=>eO J (eO (LN▸ay (n+items.length+1)) ((by rcases aa with e|e<;>(subst e;exact g n)))),En.symm▸k⟩
theorem X5 {st:cK} {r:List cK} {n:Nat} (h:ex n cx st σ w=I (.next,σ1,w1)):cw (n+1) cx (st::r) σ w=cw n cx r σ1 w1:=eO h rfl
theorem X7 {st:cK} {r:List cK} {n:Nat} {p:U} (h:ex n cx st σ w=I (.ret p,σ1,w1)):cw (n+1) cx (st::r) σ w=I (.ret p,σ1,w1):=eO h rfl
theorem LJ (tgt:Expr) (body:List cK) (p:U) (items:List U):forL (n+1) cx tgt body (p::items) σ w=(d2 cx.sc tgt p σ).bind λσ'=>(cw n cx body σ' w).bind λx=>if It x.1 then forL n cx tgt body items x.2.1 x.2.2 else I (G3 x.1,x.2):=rfl
structure Sel (α:Type) where
 x:Option α
 r:α
 h:x=I r
inductive Fact where
 |go|v (s:Sel U)|b (s:Sel Bool)|c (s:Sel (U×W))|l (s:Sel (List U×W))|f (s:Sel (fx×aA×W))|n (s:Sel Nat)|u (s:Sel (List U))|p (c:Prop) (h:c)
set_option genCtorIdx true in
inductive JN (α:Type) where
 |ok (a:α) (bA:List Fact) (P:Prop)|ask (q:Prop)|bad
noncomputable abbrev eE (α:Type):=List Fact→Prop→JN α
noncomputable def ret {α:Type} (a:α):eE α:=λbA P=> .ok a bA P
noncomputable def bad {α:Type}:eE α:=λZ Z=> .bad
def aF {α β:Type} (m:eE α) (f:α→eE β):eE β:=λbA P=>match m bA P with
 | .ok a bA P=>f a bA P
 | .ask q=> .ask q
 | .bad=> .bad
def lift {α:Type} (o:Option α):eE α:=λbA P=>match o with
 |some a=> .ok a bA P
 |none=> .bad
noncomputable def Fact.Ni:Fact→Bool
 | .go=>ab
 |_=>aq
def eV {α:Type} (sel:Fact→Option (Sel α)) (x:Option α) (m:eE α):eE α:=λbA P=>match bA with
 |[]=> .ask (x=ah)
 |f::bA=>match sel f with
  |some s=> .ok s.r bA (x=s.x∧P)
  |none=>if f.Ni then m bA P else .bad
noncomputable def agk:Fact→Option (Sel U)
 | .v s=>I s
 |_=>ah
noncomputable def agg:Fact→Option (Sel Bool)
 | .b s=>I s
 |_=>ah
noncomputable def Pe:Fact→Option (Sel (U×W))
 | .c s=>I s
 |_=>ah
noncomputable def Pf:Fact→Option (Sel (List U×W))
 | .l s=>I s
 |_=>ah
noncomputable def agh:Fact→Option (Sel (fx×aA×W))
 | .f s=>I s
 |_=>ah
noncomputable def agi:Fact→Option (Sel Nat)
 | .n s=>I s
 |_=>ah
noncomputable def agj:Fact→Option (Sel (List U))
 | .u s=>I s
 |_=>ah
abbrev pD (x:Option U):eE U:=eV agk x (lift x)
abbrev zR (x:Option Bool):eE Bool:=eV agg x (lift x)
abbrev J7 (x:Option Nat):eE Nat:=eV agi x (lift x)
abbrev Ex (x:Option (List U)):eE (List U):=eV agj x (lift x)
abbrev TO (x:Option (List U×W)):eE (List U×W):=eV Pf x (lift x)
abbrev Ew (x:Option (U×W)):eE (U×W):=eV Pe x (lift x)
def need {α:Type} (c:Prop) [Decidable c] (m:eE α):eE α:=λbA P=>match bA with
 |[]=> .ask c
 |f::bA=>match f with
  | .p d _=>m bA (c=d∧P)
  | .go=>if c then m bA P else .bad
  |_=> .bad
noncomputable def Fact.Xa:Fact→Prop→Prop
 | .go,P=>P
 | .v s,P=>s.x=s.x∧P
 | .b s,P=>s.x=s.x∧P
 | .c s,P=>s.x=s.x∧P
 | .l s,P=>s.x=s.x∧P
 | .f s,P=>s.x=s.x∧P
 | .n s,P=>s.x=s.x∧P
 | .u s,P=>s.x=s.x∧P
 | .p d _,P=>d=d∧P
noncomputable def eqns:List Fact→Prop→Prop
 |[],P=>P
 |f::bA,P=>eqns bA (f.Xa P)
theorem Lf: ∀(bA:List Fact) {P:Prop},P→eqns bA P
 |[],_,h=>h
 |f::bA,P,h=>Lf bA (by cases f<;>first|exact h|exact ⟨rfl,h⟩)
def ys (sc:Scope) (σ:aA) (x:Str):eE (List U):=if held sc x then (match σ.get x with| .own l=>need (l.length≤1048576) (ret l)|_=>bad) else bad
mutual
noncomputable def rev:Nat→bY→Expr→aA→W→eE (U×W)
 |0,_,_,_,_=>bad
 |n+1,cx,e,σ,w=>match e with
  | .BinOp a op b _=>aF (rev n cx a σ w) λx=>aF (rev n cx b σ x.2) λy=>aF (pD (b? op x.1 y.1)) λr=>ret (r,y.2)
  | .UnaryOp op a _=>aF (rev n cx a σ w) λx=>aF (pD (Iw op x.1)) λr=>ret (r,x.2)
  | .BoolOp op es _=>Cj n cx op es σ w
  | .Compare l ops rs _=>if rs.any isSet then bad else aF (n4 n cx l σ w) λx=>aF (yl n cx x.1 ops rs σ x.2) λb=>ret (.bool b.1,b.2)
  | .IfExp t a b _=>aF (tL n cx t σ w) λc=>if c.1 then rev n cx a σ c.2 else rev n cx b σ c.2
  | .List es p=>aF (o3 n cx (.List es p) σ w) λr=>ret (.list r.1,r.2)
  | .ListComp a b c p=>aF (o3 n cx (.ListComp a b c p) σ w) λr=>ret (.list r.1,r.2)
  | .Tuple es _ _=>aF (o2 n cx es σ w) λr=>if r.1.length≤1048576 then ret (.tup r.1,r.2) else bad
  | .Subscript v i _=>(Cy i).elim (aF (n4 n cx v σ w) λx=>aF (rev n cx i σ x.2) λk=>aF (pD (dM x.1 k.1)) λr=>ret (r,k.2)) λq=>
   aF (n4 n cx v σ w) λx=>aF (yq n cx q.1 σ x.2) λa=>aF (yq n cx q.2.1 σ a.2) λb=>aF (yq n cx q.2.2 σ b.2) λk=>aF (pD (iO x.1 a.1 b.1 k.1)) λr=>ret (r,k.2)
  | .Call f as bM p=>match f with
   | .Name f _=>if bM.isEmpty&&(cx.sc.names.lookup f==I .globalImplicit) then
     if dX f "_netrclex" then aF (lift (Ic as)) λq=>if cx.dx.lex&&dX q.1 "_law_stream"&&cx.sc.names.lookup q.1==I .globalImplicit&&decide (4≤cx.d) then aF (rev n cx q.2 σ w) λx=>aF (lift (my x.1)) λt=>need (t.length≤1048576∧fE t=ab) (ret (.obj x.2.length,x.2++[⟨t.cps.toList,1,[]⟩])) else bad
     else if dX f "sorted" then aF (o3 n cx e σ w) λr=>ret (.list r.1,r.2)
     else (cx.dx.fns.find? (λd=>d.name==f)).elim (aF (yt n cx as σ w) λr=>aF (pD (fO f r.1)) λz=>ret (z,r.2)) λd=>
      aF (o2 n cx as σ w) λr=>eV Pe (b' n cx d r.1 r.2) (Ck n cx d r.1 r.2)
    else bad
   | .Attribute o m ap=>if bM.isEmpty&&(baseOk o&&ap.endLine==p.line&&decide (as.length<20)) then
     if cx.dx.lex&&dX m "get_token" then (if as.isEmpty&&decide (4≤cx.d) then aF (rev n cx o σ w) λx=>aF (lift (tC x.1)) λi=>Ew (m4 i x.2) else bad)
     else if cx.dx.lex&&dX m "push_token" then (if decide (4≤cx.d) then aF (lift (ku as)) λa=>aF (rev n cx o σ w) λx=>aF (lift (tC x.1)) λi=>aF (rev n cx a σ x.2) λy=>aF (lift (my y.1)) λt=>Ew (Cf i t y.2) else bad)
     else if dX m "split" then aF (o3 n cx e σ w) λr=>ret (.list r.1,r.2)
     else aF (n4 n cx o σ w) λx=>aF (yt n cx as σ x.2) λr=>aF (pD (methP m x.1 r.1)) λz=>ret (z,r.2)
    else bad
   |_=>bad
  | .Attribute v a _=>if cx.dx.lex&&baseOk v&&dX a "lineno" then aF (rev n cx v σ w) λx=>aF (lift (tC x.1)) λi=>Ew (vi i x.2) else bad
  | .Constant c _ _=>aF (lift (EV c)) λp=>ret (p,w)
  | .Name x _=>aF (lift (x' cx σ x)) λp=>ret (p,w)
  |_=>bad
noncomputable def n4:Nat→bY→Expr→aA→W→eE (U×W)
 |0,_,_,_,_=>bad
 |n+1,cx,e,σ,w=>(l1 e).elim (rev n cx e σ w) λx=>aF (lift (tv cx σ x)) λp=>ret (p,w)
noncomputable def yt:Nat→bY→List Expr→aA→W→eE (List U×W)
 |0,_,_,_,_=>bad
 |n+1,cx,es,σ,w=>match es with
  |[]=>ret ([],w)
  |e::es=>aF (n4 n cx e σ w) λp=>aF (yt n cx es σ p.2) λl=>ret (p.1::l.1,l.2)
noncomputable def o2:Nat→bY→List Expr→aA→W→eE (List U×W)
 |0,_,_,_,_=>bad
 |n+1,cx,es,σ,w=>match es with
  |[]=>ret ([],w)
  |e::es=>aF (rev n cx e σ w) λp=>aF (o2 n cx es σ p.2) λl=>ret (p.1::l.1,l.2)
noncomputable def yq:Nat→bY→Option Expr→aA→W→eE (U×W)
 |0,_,_,_,_=>bad
 |n+1,cx,e,σ,w=>e.elim (ret (.none,w)) λe=>rev n cx e σ w
noncomputable def Cj:Nat→bY→BoolOp→List Expr→aA→W→eE (U×W)
 |0,_,_,_,_,_=>bad
 |n+1,cx,op,es,σ,w=>match es with
  |[]=>bad
  |e::r=>if r.isEmpty then rev n cx e σ w else aF (rev n cx e σ w) λp=>aF (lift (zP p.1)) λb=>if CF op b then ret (.bool b,p.2) else Cj n cx op r σ p.2
noncomputable def yl:Nat→bY→U→List oa→List Expr→aA→W→eE (Bool×W)
 |0,_,_,_,_,_,_=>bad
 |n+1,cx,x,ops,es,σ,w=>match es with
  |[]=>bad
  |e::es=>match ops with
   |[]=>bad
   |op::ops=>if ops.isEmpty then (if es.isEmpty then aF (n4 n cx e σ w) λy=>aF (zR (e_ op x y.1)) λr=>ret (r,y.2) else bad)
    else aF (n4 n cx e σ w) λy=>aF (zR (e_ op x y.1)) λr=>if r then yl n cx y.1 ops es σ y.2 else ret (aq,y.2)
noncomputable def tL:Nat→bY→Expr→aA→W→eE (Bool×W)
 |0,_,_,_,_=>bad
 |n+1,cx,e,σ,w=>match e with
  | .BoolOp op es _=>vP n cx op es σ w
  | .Compare l ops rs _=>if rs.any isSet then bad else aF (n4 n cx l σ w) λx=>yl n cx x.1 ops rs σ x.2
  | .Name .. =>aF (rev n cx e σ w) λp=>aF (zR (n9 p.1)) λb=>ret (b,p.2)
  | .Call .. =>aF (rev n cx e σ w) λp=>aF (zR (n9 p.1)) λb=>ret (b,p.2)
  |_=>bad
noncomputable def vP:Nat→bY→BoolOp→List Expr→aA→W→eE (Bool×W)
 |0,_,_,_,_,_=>bad
 |n+1,cx,op,es,σ,w=>match es with
  |[]=>ret (op== .And,w)
  |e::es=>aF (tL n cx e σ w) λb=>if CF op b.1 then ret b else vP n cx op es σ b.2
noncomputable def vL:Nat→Bool→Expr→bY→Expr→aA→W→eE (List U×W)
 |0,_,_,_,_,_,_=>bad
 |n+1,own,tgt,cx,e,σ,w=>if isName tgt||kD tgt then
   (wV e).elim (Cp n own cx e σ w) λq=>
    if dX q.1 "range" then (if cx.sc.names.lookup q.1==I .globalImplicit then aF (o2 n cx q.2 σ w) λr=>aF (Ex (l_ r.1)) λl=>ret (l,r.2) else bad)
    else if dX q.1 "enumerate" then (if cx.sc.names.lookup q.1==I .globalImplicit&&kD tgt then aF (o2 n cx q.2 σ w) λr=>aF (lift (Ld r.1)) λl=>ret (l,r.2) else bad)
    else Cp n own cx e σ w
  else bad
noncomputable def Cp:Nat→Bool→bY→Expr→aA→W→eE (List U×W)
 |0,_,_,_,_,_=>bad
 |n+1,own,cx,e,σ,w=>if isSet e then bad else aF (if own then n4 n cx e σ w else rev n cx e σ w) λp=>aF (lift (GO p.1)) λl=>ret (l,p.2)
noncomputable def o3:Nat→bY→Expr→aA→W→eE (List U×W)
 |0,_,_,_,_=>bad
 |n+1,cx,e,σ,w=>match e with
  | .List es _=>aF (o2 n cx es σ w) λr=>if r.1.length≤1048576 then ret r else bad
  | .ListComp elt gs a7 _=>(q0 gs).elim (aF (lift (ET gs)) λq=>if lH cx.sc a7 then aF (vL n ab q.1 cx q.2.1 σ w) λr=>need (r.1.length≤1048576) (eV Pf (d! n {cx with sc:=a7} elt q.1 q.2.2 r.1 (σ.hide (Scope.dq a7)) r.2) (ym n {cx with sc:=a7} elt q.1 q.2.2 r.1 (σ.hide (Scope.dq a7)) r.2)) else bad) λq=>if lH cx.sc a7&&(apart2 q.1 q.2.2.1&& !isSet q.2.2.2.1) then aF (vL n ab q.1 cx q.2.1 σ w) λr=>TO (ow (λp=>d2 a7 q.1 p (σ.hide (Scope.dq a7))) (fs n aq q.2.2.1 {cx with sc:=a7} q.2.2.2.1) (d! n {cx with sc:=a7} elt q.2.2.1 q.2.2.2.2) r.1 0 r.2) else bad
  | .Call f as bM p=>(vU cx.sc f as bM).elim (aF (lift (CA f as bM p)) λq=>aF (rev n cx q.1 σ w) λx=>aF (o2 n cx [q.2] σ x.2) λy=>aF (Ex (CB x.1 y.1)) λl=>ret (l,y.2)) λq=>aF (o3 n cx q σ w) λr=>aF (Ex (n5 r.1)) λl=>ret (l,r.2)
  |_=>bad
noncomputable def ym:Nat→bY→Expr→Expr→List Expr→List U→aA→W→eE (List U×W)
 |0,_,_,_,_,_,_,_=>bad
 |n+1,cx,elt,tgt,ifs,items,σ,w=>match items with
  |[]=>ret ([],w)
  |p::items=>aF (lift (d2 cx.sc tgt p σ)) λσ'=>aF (vP n cx .And ifs σ' w) λb=>if b.1 then aF (rev n cx elt σ' b.2) λr=>aF (ym n cx elt tgt ifs items σ r.2) λl=>ret (r.1::l.1,l.2) else ym n cx elt tgt ifs items σ b.2
noncomputable def Cq:Nat→bY→List Expr→aA→W→eE (List (List U)×W)
 |0,_,_,_,_=>bad
 |n+1,cx,es,σ,w=>match es with
  |[]=>ret ([],w)
  |e::es=>aF (o3 n cx e σ w) λp=>aF (Cq n cx es σ p.2) λl=>ret (p.1::l.1,l.2)
noncomputable def Ck:Nat→bY→j4→List U→W→eE (U×W)
 |0,_,_,_,_=>bad
 |n+1,cx,d,vs,w=>if vs.length==(kI d).length then match cx.d with
   |0=>bad
   |k+1=>aF (rz n {cx with d:=k,sc:=d.scope} d.body ((kI d).zip (vs.map .val)) w) λr=>aF (lift (La r.1)) λp=>ret (p,r.2.2)
  else bad
noncomputable def Cn:Nat→bY→cK→aA→W→eE (fx×aA×W)
 |0,_,_,_,_=>bad
 |n+1,cx,st,c4,w=>match st with
  | .Assign ts e _=>aF (lift (Eu ts)) λa=>match a with
   | .name x=>if dD cx.sc x then aF (HR n cx e (c4.freeze (cf 30 ab e)) w) λs=>ret (.next,(c4.freeze (cf 30 ab e)).set x s.1,s.2) else bad
   | .tuple t=>(Cb cx.sc t e).elim (if CU e then aF (rev n cx e (c4.freeze (cf 30 ab e)) w) λp=>aF (lift (d2 cx.sc t p.1 (c4.freeze (cf 30 ab e)))) λσ=>ret (.next,σ,p.2) else bad) λq=>aF (Cq n cx q.2 (c4.freeze (cf 30 ab e)) w) λr=>ret (.next,yw q.1.reverse r.1.reverse (c4.freeze (cf 30 ab e)),r.2)
  | .AugAssign t op e _=>aF (lift (Ey t)) λa=>a.2.elim
   (if dD cx.sc a.1 then aF (lift (valOf ((c4.freeze (cf 30 aq e)).get a.1))) λq=>aF (rev n cx e (c4.freeze (cf 30 aq e)) w) λp=>aF (pD (qU op q p.1)) λr=>ret (.next,(c4.freeze (cf 30 aq e)).set a.1 (.val r),p.2) else bad) λi=>
   if isSlice i then bad else aF (rev n cx i (c4.freeze (cf 30 aq e)) w) λk=>aF (rev n cx e (c4.freeze (cf 30 aq e)) k.2) λp=>aF (ys cx.sc (c4.freeze (cf 30 aq e)) a.1) λl=>aF (lift (intOf k.1)) λi=>aF (J7 (l7 i l.length)) λj=>aF (pD (l[j]?)) λq=>aF (pD (qU op q p.1)) λr=>ret (.next,(c4.freeze (cf 30 aq e)).set a.1 (.own (l.set j r)),p.2)
  | .Expr e _=>aF (lift (EJ e)) λq=>
   if dX q.2.1 "append" then aF (lift (ku q.2.2)) λa=>aF (o2 n cx [a] (c4.freeze (cf 30 ab e)) w) λps=>aF (lift (oneOf ps.1)) λp=>aF (ys cx.sc (c4.freeze (cf 30 ab e)) q.1) λl=>ret (.next,(c4.freeze (cf 30 ab e)).set q.1 (.own (l++[p])),ps.2)
   else if dX q.2.1 "extend" then aF (lift (ku q.2.2)) λa=>aF (o3 n cx a (c4.freeze (cf 30 ab e)) w) λr=>aF (ys cx.sc (c4.freeze (cf 30 ab e)) q.1) λl=>need (r.1.length≤1048576) (ret (.next,(c4.freeze (cf 30 ab e)).set q.1 (.own (l++r.1)),r.2))
   else if dX q.2.1 "push_token" then aF (rev n cx e (c4.freeze (cf 30 ab e)) w) λr=>ret (.next,c4.freeze (cf 30 ab e),r.2)
   else bad
  | .If t a b _=>aF (tL n cx t (c4.freeze (cf 30 aq t)) w) λc=>if c.1 then rz n cx a (c4.freeze (cf 30 aq t)) c.2 else rz n cx b (c4.freeze (cf 30 aq t)) c.2
  | .For tgt it body w9 _=>if w9.isEmpty then aF (vL n aq tgt cx it (c4.freeze (cf 30 ab it)) w) λr=>eV agh (forL n cx tgt body r.1 (c4.freeze (cf 30 ab it)) r.2) (Co n cx tgt body r.1 (c4.freeze (cf 30 ab it)) r.2) else bad
  | .Return e _=>aF (lift e) λe=>aF (rev n cx e (c4.freeze (cf 30 ab e)) w) λp=>ret (.ret p.1,c4.freeze (cf 30 ab e),p.2)
  | .Delete ts _=>aF (lift (EY ts)) λq=>if isSlice q.2 then bad else aF (rev n cx q.2 (c4.freeze []) w) λk=>aF (ys cx.sc (c4.freeze []) q.1) λl=>aF (lift (intOf k.1)) λi=>aF (J7 (l7 i l.length)) λj=>ret (.next,(c4.freeze []).set q.1 (.own (l.eraseIdx j)),k.2)
  | .Assert t m _=>if m.isNone then aF (tL n cx t (c4.freeze []) w) λc=>if c.1 then ret (.next,c4.freeze [],c.2) else bad else bad
  |_=>bad
noncomputable def HR:Nat→bY→Expr→aA→W→eE (Slot×W)
 |0,_,_,_,_=>bad
 |n+1,cx,e,σ,w=>if u? e then (if Nh e then bad else aF (o3 n cx e σ w) λr=>ret (.own r.1,r.2)) else aF (rev n cx e σ w) λr=>ret (.val r.1,r.2)
noncomputable def rz:Nat→bY→List cK→aA→W→eE (fx×aA×W)
 |0,_,_,_,_=>bad
 |n+1,cx,l,σ,w=>match l with
  |[]=>ret (.next,σ,w)
  |st::r=>aF (Cn n cx st σ w) λx=>if LY x.1 then rz n cx r x.2.1 x.2.2 else ret x
noncomputable def Co:Nat→bY→Expr→List cK→List U→aA→W→eE (fx×aA×W)
 |0,_,_,_,_,_,_=>bad
 |n+1,cx,tgt,body,items,σ,w=>match items with
  |[]=>ret (.next,σ,w)
  |p::items=>aF (lift (d2 cx.sc tgt p σ)) λσ'=>aF (rz n cx body σ' w) λx=>if It x.1 then Co n cx tgt body items x.2.1 x.2.2 else ret (G3 x.1,x.2)
end
noncomputable def bR {α:Type} (m:eE α) (o:Option α):Prop:= ∀bA P a c b,m bA P= .ok a c b→b→P∧o=I a
theorem bR.ret (a:α):bR (ret a) (I a):=λbA P b d c h aC=>by cases h;exact ⟨aC,rfl⟩
theorem bR.bad (o:Option α):bR bad o:=λbA P a c b h aC=>by cases h
theorem bR.lift (o:Option α):bR (lift o) o:=λbA P b d c h aC=>by
 induction o using d5 with
 |none=>cases h
 |some a=>cases h;exact ⟨aC,rfl⟩
theorem bR.aF (h:bR m o) (k: ∀a,bR (f a) (g a)):bR (aF m f) (o.bind g):=λbA P b i d e aC=>by
 unfold Mine.aF at e
 cases q:m bA P with
 |ok a c j=>
  rw[q] at e
  obtain ⟨J,aa⟩:=k a _ _ _ _ _ e aC
  obtain ⟨ay,rfl⟩:=h _ _ _ _ _ q J
  exact ⟨ay,aa⟩
 |ask _=>rw[q] at e;cases e
 |bad=>rw[q] at e;cases e
theorem bR.ite [Decidable c] (h:bR m o) (h':bR b a):bR (if c then m else b) (if c then o else a):=by split<;>assumption
theorem bR.elim {x:Option wz} {f:wz→eE α} {b:wz→Option α} (h:bR m o) (k: ∀a,bR (f a) (b a)):bR (x.elim m f) (x.elim o b):=match x with
 |none=>h
 |some a=>k a
theorem bR.eV (h:bR m o):bR (eV sel o m) o:=λbA P a c b e aC=>by
 induction bA using cj with
 |nil=>cases e
 |cons f bA=>
  have e:(match sel f with|some s=>JN.ok s.r bA (o=s.x∧P)|none=>if f.Ni then m bA P else .bad)= .ok a c b:=e
  cases q:sel f with
  |some s=>rw[q] at e;cases e;exact ⟨aC.2,aC.1.trans s.h⟩
  |none=>
   rw[q] at e
   cases f<;>first|exact h _ _ _ _ _ e aC|cases e
theorem bR.need [Decidable c] (h:bR m o):bR (need c m) (if c then o else ah):=λbA P a i g e aC=>by
 induction bA using cj with
 |nil=>cases e
 |cons f bA=>
  induction f using Fact.casesOn with
  |go=>
   have e:(if c then m bA P else .bad)= .ok a i g:=e
   split at e
   ·rw[a_ ‹_›];exact h _ _ _ _ _ e aC
   ·cases e
  |p d hd=>
   obtain ⟨⟨b,J⟩,aa⟩:=h _ _ _ _ _ e aC
   exact ⟨J,by rw[a_ (cast b.symm hd)];exact aa⟩
  |_=>cases e
structure Eb (n:Nat):Prop where
 ev: ∀cx e σ w,bR (rev n cx e σ w) (ev n cx e σ w)
 dN: ∀cx e σ w,bR (n4 n cx e σ w) (dN n cx e σ w)
 iN: ∀cx e σ w,bR (yt n cx e σ w) (iN n cx e σ w)
 e4: ∀cx e σ w,bR (o2 n cx e σ w) (e4 n cx e σ w)
 i3: ∀cx e σ w,bR (yq n cx e σ w) (i3 n cx e σ w)
 k1: ∀cx op e σ w,bR (Cj n cx op e σ w) (k1 n cx op e σ w)
 jM: ∀cx x ops e σ w,bR (yl n cx x ops e σ w) (jM n cx x ops e σ w)
 fI: ∀cx e σ w,bR (tL n cx e σ w) (fI n cx e σ w)
 hN: ∀cx op e σ w,bR (vP n cx op e σ w) (hN n cx op e σ w)
 fs: ∀own tgt cx e σ w,bR (vL n own tgt cx e σ w) (fs n own tgt cx e σ w)
 qf: ∀own cx e σ w,bR (Cp n own cx e σ w) (qf n own cx e σ w)
 ei: ∀cx e σ w,bR (o3 n cx e σ w) (ei n cx e σ w)
 d!: ∀cx elt tgt ifs items σ w,bR (ym n cx elt tgt ifs items σ w) (d! n cx elt tgt ifs items σ w)
 oW: ∀cx e σ w,bR (Cq n cx e σ w) (oW n cx e σ w)
 b': ∀cx d vs w,bR (Ck n cx d vs w) (b' n cx d vs w)
 ex: ∀cx st σ w,bR (Cn n cx st σ w) (ex n cx st σ w)
 cw: ∀cx st σ w,bR (rz n cx st σ w) (cw n cx st σ w)
 forL: ∀cx tgt body items σ w,bR (Co n cx tgt body items σ w) (forL n cx tgt body items σ w)
 sC: ∀cx e σ w,bR (HR n cx e σ w) (sC n cx e σ w)
section
variable (ak:Eb n)
include ak
theorem abS (cx:bY) (e:Expr) (σ:aA) (w:W):bR (rev (n+1) cx e σ w) (ev (n+1) cx e σ w):=by
 induction e using eC with
 |BinOp a op b p=>exact bR.aF (ak.ev _ _ _ _) λx=>bR.aF (ak.ev _ _ _ _) λy=>bR.aF (.eV (.lift _)) λr=> .ret _
 |UnaryOp op a p=>exact bR.aF (ak.ev _ _ _ _) λx=>bR.aF (.eV (.lift _)) λr=> .ret _
 |BoolOp op es p=>exact ak.k1 _ _ _ _ _
 |Compare l ops rs p=>exact bR.ite (.bad _) (.aF (ak.dN _ _ _ _) λx=> .aF (ak.jM _ _ _ _ _ _) λb=> .ret _)
 |IfExp t a b p=>exact bR.aF (ak.fI _ _ _ _) λx=> .ite (ak.ev _ _ _ _) (ak.ev _ _ _ _)
 |List es p=>exact bR.aF (ak.ei _ _ _ _) λx=> .ret _
 |ListComp a b c p=>exact bR.aF (ak.ei _ _ _ _) λx=> .ret _
 |Tuple es k p=>exact bR.aF (ak.e4 _ _ _ _) λx=> .ite (.ret _) (.bad _)
 |Subscript v i p=>exact bR.elim (.aF (ak.dN _ _ _ _) λx=> .aF (ak.ev _ _ _ _) λy=> .aF (.eV (.lift _)) λr=> .ret _) λq=> .aF (ak.dN _ _ _ _) λx=> .aF (ak.i3 _ _ _ _) λa=> .aF (ak.i3 _ _ _ _) λa=> .aF (ak.i3 _ _ _ _) λa=> .aF (.eV (.lift _)) λr=> .ret _
 |Call f as g p=>
  induction f using eC with
  |Name f q=>exact bR.ite (.ite (.aF (.lift _) λq=> .ite (.aF (ak.ev _ _ _ _) λx=> .aF (.lift _) λt=> .need (.ret _)) (.bad _)) (.ite (.aF (ak.ei _ _ _ _) λr=> .ret _) (.elim (.aF (ak.iN _ _ _ _) λr=> .aF (.eV (.lift _)) λz=> .ret _) λd=> .aF (ak.e4 _ _ _ _) λr=> .eV (ak.b' _ _ _ _)))) (.bad _)
  |Attribute o m ap=>exact bR.ite (.ite (.ite (.aF (ak.ev _ _ _ _) λx=> .aF (.lift _) λi=> .eV (.lift _)) (.bad _)) (.ite (.ite (.aF (.lift _) λa=> .aF (ak.ev _ _ _ _) λx=> .aF (.lift _) λi=> .aF (ak.ev _ _ _ _) λy=> .aF (.lift _) λt=> .eV (.lift _)) (.bad _)) (.ite (.aF (ak.ei _ _ _ _) λr=> .ret _) (.aF (ak.dN _ _ _ _) λx=> .aF (ak.iN _ _ _ _) λr=> .aF (.eV (.lift _)) λz=> .ret _)))) (.bad _)
  |_=>exact bR.bad _
 |Attribute v a c=>exact bR.ite (.aF (ak.ev _ _ _ _) λx=> .aF (.lift _) λi=> .eV (.lift _)) (.bad _)
 |Constant a b c=>exact bR.aF (.lift _) λp=> .ret _
 |Name a b=>exact bR.aF (.lift _) λp=> .ret _
 |_=>exact .bad _
theorem ab3 (cx:bY) (e:Expr) (σ:aA) (w:W):bR (n4 (n+1) cx e σ w) (dN (n+1) cx e σ w):=bR.elim (ak.ev _ _ _ _) λx=> .aF (.lift _) λp=> .ret _
theorem ab4 (cx:bY) (e:List Expr) (σ:aA) (w:W):bR (yt (n+1) cx e σ w) (iN (n+1) cx e σ w):=by
 induction e using cj with
 |nil=>exact .ret _
 |cons e es=>exact .aF (ak.dN _ _ _ _) λx=> .aF (ak.iN _ _ _ _) λy=> .ret _
theorem abT (cx:bY) (e:List Expr) (σ:aA) (w:W):bR (o2 (n+1) cx e σ w) (e4 (n+1) cx e σ w):=by
 induction e using cj with
 |nil=>exact .ret _
 |cons e es=>exact .aF (ak.ev _ _ _ _) λx=> .aF (ak.e4 _ _ _ _) λy=> .ret _
theorem ab2 (cx:bY) (e:List Expr) (σ:aA) (w:W):bR (Cq (n+1) cx e σ w) (oW (n+1) cx e σ w):=by
 induction e using cj with
 |nil=>exact .ret _
 |cons e es=>exact .aF (ak.ei _ _ _ _) λx=> .aF (ak.oW _ _ _ _) λy=> .ret _
theorem abU (cx:bY) (e:Option Expr) (σ:aA) (w:W):bR (yq (n+1) cx e σ w) (i3 (n+1) cx e σ w):=bR.elim (.ret _) λe=>ak.ev _ _ _ _
theorem abO (cx:bY) (op:BoolOp) (e:List Expr) (σ:aA) (w:W):bR (Cj (n+1) cx op e σ w) (k1 (n+1) cx op e σ w):=by
 induction e using cj with
 |nil=>exact .bad _
 |cons e es=>exact bR.ite (ak.ev _ _ _ _) (.aF (ak.ev _ _ _ _) λx=> .aF (.lift _) λb=> .ite (.ret _) (ak.k1 _ _ _ _ _))
theorem abQ (cx:bY) (x:U) (a:List oa) (e:List Expr) (σ:aA) (w:W):bR (yl (n+1) cx x a e σ w) (jM (n+1) cx x a e σ w):=by
 induction e using cj with
 |nil=>exact .bad _
 |cons e es=>
  induction a using cj with
  |nil=>exact .bad _
  |cons op a=>exact bR.ite (.ite (.aF (ak.dN _ _ _ _) λy=> .aF (.eV (.lift _)) λr=> .ret _) (.bad _)) (.aF (ak.dN _ _ _ _) λy=> .aF (.eV (.lift _)) λr=> .ite (ak.jM _ _ _ _ _ _) (.ret _))
theorem ab5 (cx:bY) (e:Expr) (σ:aA) (w:W):bR (tL (n+1) cx e σ w) (fI (n+1) cx e σ w):=by
 induction e using eC with
 |BoolOp op es p=>exact ak.hN _ _ _ _ _
 |Compare l ops rs p=>exact bR.ite (.bad _) (.aF (ak.dN _ _ _ _) λx=>ak.jM _ _ _ _ _ _)
 |Name x p=>exact .aF (ak.ev _ _ _ _) λx=> .aF (.eV (.lift _)) λr=> .ret _
 |Call f as a p=>exact .aF (ak.ev _ _ _ _) λx=> .aF (.eV (.lift _)) λr=> .ret _
 |_=>exact .bad _
theorem ab6 (cx:bY) (op:BoolOp) (e:List Expr) (σ:aA) (w:W):bR (vP (n+1) cx op e σ w) (hN (n+1) cx op e σ w):=by
 induction e using cj with
 |nil=>exact .ret _
 |cons e es=>exact bR.aF (ak.fI _ _ _ _) λx=> .ite (.ret _) (ak.hN _ _ _ _ _)
theorem ab0 (own:Bool) (cx:bY) (e:Expr) (σ:aA) (w:W):bR (Cp (n+1) own cx e σ w) (qf (n+1) own cx e σ w):=
 bR.ite (.bad _) (.aF (.ite (ak.dN _ _ _ _) (ak.ev _ _ _ _)) λp=> .aF (.lift _) λl=> .ret _)
theorem abP (cx:bY) (d:j4) (vs:List U) (w:W):bR (Ck (n+1) cx d vs w) (b' (n+1) cx d vs w):=by
 refine bR.ite ?_ (.bad _)
 obtain ⟨dx,k,sc⟩:=cx
 induction k using fJ with
 |zero=>exact .bad _
 |succ k=>exact bR.aF (ak.cw _ _ _ _) λr=> .aF (.lift _) λp=> .ret _
theorem abX (cx:bY) (st:List cK) (σ:aA) (w:W):bR (rz (n+1) cx st σ w) (cw (n+1) cx st σ w):=by
 induction st using cj with
 |nil=>exact .ret _
 |cons st r=>exact bR.aF (ak.ex _ _ _ _) λx=> .ite (ak.cw _ _ _ _) (.ret _)
theorem abY (cx:bY) (tgt:Expr) (body:List cK) (items:List U) (σ:aA) (w:W):bR (Co (n+1) cx tgt body items σ w) (forL (n+1) cx tgt body items σ w):=by
 induction items using cj with
 |nil=>exact .ret _
 |cons p items=>exact bR.aF (.lift _) λx=> .aF (ak.cw _ _ _ _) λx=> .ite (ak.forL _ _ _ _ _ _) (.ret _)
theorem abR (cx:bY) (elt tgt:Expr) (ifs:List Expr) (items:List U) (σ:aA) (w:W):bR (ym (n+1) cx elt tgt ifs items σ w) (d! (n+1) cx elt tgt ifs items σ w):=by
 induction items using cj with
 |nil=>exact .ret _
 |cons p items=>exact bR.aF (.lift _) λx=> .aF (ak.hN _ _ _ _ _) λb=> .ite (.aF (ak.ev _ _ _ _) λr=> .aF (ak.d! _ _ _ _ _ _ _) λl=> .ret _) (ak.d! _ _ _ _ _ _ _)
theorem abV (cx:bY) (e:Expr) (σ:aA) (w:W):bR (HR (n+1) cx e σ w) (sC (n+1) cx e σ w):=bR.ite (.ite (.bad _) (.aF (ak.ei _ _ _ _) λr=> .ret _)) (.aF (ak.ev _ _ _ _) λr=> .ret _)
theorem abZ (own:Bool) (tgt:Expr) (cx:bY) (e:Expr) (σ:aA) (w:W):bR (vL (n+1) own tgt cx e σ w) (fs (n+1) own tgt cx e σ w):=
 bR.ite (.elim (ak.qf _ _ _ _ _) λq=> .ite (.ite (.aF (ak.e4 _ _ _ _) λr=> .aF (.eV (.lift _)) λl=> .ret _) (.bad _)) (.ite (.ite (.aF (ak.e4 _ _ _ _) λr=> .aF (.lift _) λl=> .ret _) (.bad _)) (ak.qf _ _ _ _ _))) (.bad _)
end
section
variable (ak:Eb n)
include ak
omit ak in
theorem BC (sc:Scope) (σ:aA) (x:Str):bR (ys sc σ x) (σ.own? sc x):=by
 refine bR.ite ?_ (.bad _)
 cases σ.get x with
 |own l=>exact .need (.ret _)
 |_=>exact .bad _
theorem ab1 (cx:bY) (e:Expr) (σ:aA) (w:W):bR (o3 (n+1) cx e σ w) (ei (n+1) cx e σ w):=by
 induction e using eC with
 |List es p=>exact .aF (ak.e4 _ _ _ _) λr=> .ite (.ret _) (.bad _)
 |ListComp elt gs a p=>exact bR.elim (.aF (.lift _) λq=> .ite (.aF (ak.fs _ _ _ _ _ _) λr=> .need (.eV (ak.d! _ _ _ _ _ _ _))) (.bad _)) λq=> .ite (.aF (ak.fs _ _ _ _ _ _) λr=> .eV (.lift _)) (.bad _)
 |Call f as b p=>exact bR.elim (.aF (.lift _) λq=> .aF (ak.ev _ _ _ _) λx=> .aF (ak.e4 _ _ _ _) λy=> .aF (.eV (.lift _)) λl=> .ret _) λq=> .aF (ak.ei _ _ _ _) λx=> .aF (.eV (.lift _)) λl=> .ret _
 |_=>exact .bad _
theorem abW (cx:bY) (st:cK) (σ:aA) (w:W):bR (Cn (n+1) cx st σ w) (ex (n+1) cx st σ w):=by
 induction st using I! with
 |Assign ts e p=>
  refine bR.aF (.lift _) λa=> ?_
  induction a using wB.casesOn with
  |name x=>exact bR.ite (.aF (ak.sC _ _ _ _) λr=> .ret _) (.bad _)
  |tuple t=>exact bR.elim (.ite (.aF (ak.ev _ _ _ _) λr=> .aF (.lift _) λs=> .ret _) (.bad _)) λq=> .aF (ak.oW _ _ _ _) λr=> .ret _
 |AugAssign t op e p=>exact bR.aF (.lift _) λa=> .elim (.ite (.aF (.lift _) λq=> .aF (ak.ev _ _ _ _) λr=> .aF (.eV (.lift _)) λj=> .ret _) (.bad _)) λi=> .ite (.bad _) (.aF (ak.ev _ _ _ _) λr=> .aF (ak.ev _ _ _ _) λk=> .aF (BC _ _ _) λl=> .aF (.lift _) λk=> .aF (.eV (.lift _)) λj=> .aF (.eV (.lift _)) λj=> .aF (.eV (.lift _)) λj=> .ret _)
 |If t a b p=>exact .aF (ak.fI _ _ _ _) λc=> .ite (ak.cw _ _ _ _) (ak.cw _ _ _ _)
 |For tgt it body d p=>exact bR.ite (.aF (ak.fs _ _ _ _ _ _) λr=> .eV (ak.forL _ _ _ _ _ _)) (.bad _)
 |Return e p=>exact bR.aF (.lift _) λe=> .aF (ak.ev _ _ _ _) λr=> .ret _
 |Delete ts p=>exact bR.aF (.lift _) λq=> .ite (.bad _) (.aF (ak.ev _ _ _ _) λr=> .aF (BC _ _ _) λl=> .aF (.lift _) λk=> .aF (.eV (.lift _)) λj=> .ret _)
 |Assert t m p=>exact bR.ite (.aF (ak.fI _ _ _ _) λc=> .ite (.ret _) (.bad _)) (.bad _)
 |Expr e p=>exact bR.aF (.lift _) λq=> .ite (.aF (.lift _) λa=> .aF (ak.e4 _ _ _ _) λr=> .aF (.lift _) λp=> .aF (BC _ _ _) λl=> .ret _) (.ite (.aF (.lift _) λa=> .aF (ak.ei _ _ _ _) λr=> .aF (BC _ _ _) λl=> .need (.ret _)) (.ite (.aF (ak.ev _ _ _ _) λr=> .ret _) (.bad _)))
 |_=>exact .bad _
end
theorem rj: ∀n,Eb n
 |0=>⟨λZ Z Z Z=> .bad _,λZ Z Z Z=> .bad _,λZ Z Z Z=> .bad _,λZ Z Z Z=> .bad _,λZ Z Z Z=> .bad _,λZ Z Z Z Z=> .bad _,λZ Z Z Z Z Z=> .bad _,λZ Z Z Z=> .bad _,λZ Z Z Z Z=> .bad _,λZ Z Z Z Z Z=> .bad _,λZ Z Z Z Z=> .bad _,λZ Z Z Z=> .bad _,λZ Z Z Z Z Z Z=> .bad _,λZ Z Z Z=> .bad _,λZ Z Z Z=> .bad _,λZ Z Z Z=> .bad _,λZ Z Z Z=> .bad _,λZ Z Z Z Z Z=> .bad _,λZ Z Z Z=> .bad _⟩
 |n+1=>have ak:=rj n;⟨abS ak,ab3 ak,ab4 ak,abT ak,abU ak,abO ak,abQ ak,ab5 ak,ab6 ak,abZ ak,ab0 ak,ab1 ak,abR ak,ab2 ak,abP ak,abW ak,abX ak,abY ak,abV ak⟩
theorem eq_not (h:hs p q=I b):e_ .NotEq p q=I (!b):=aQ (Dd λx=> !x) h
theorem GH (h:kK p q=I b):e_ .NotIn p q=I (!b):=aQ (Dd λx=> !x) h
theorem bR.run {α:Type} {m:eE α} {o:Option α} (L:bR m o) (bA:List Fact) {r:α} (h:m bA True= .ok r [] (eqns bA True)):o=I r:=(L _ _ _ _ _ h (Lf bA trivial)).2
section
variable {n:Nat} {cx:bY} {σ:aA} {w:W} (bA:List Fact)
theorem tM {e:Expr} {r:U×W} (h:rev n cx e σ w bA True= .ok r [] (eqns bA True):=by kernel_rfl):ev n cx e σ w=I r:=((rj n).ev _ _ _ _).run bA h
theorem O_ {o:Bool} {t e:Expr} {r:List U×W} (h:vL n o t cx e σ w bA True= .ok r [] (eqns bA True):=by kernel_rfl):fs n o t cx e σ w=I r:=((rj n).fs _ _ _ _ _ _).run bA h
theorem HS {e:Expr} {r:Bool×W} (h:tL n cx e σ w bA True= .ok r [] (eqns bA True):=by kernel_rfl):fI n cx e σ w=I r:=((rj n).fI _ _ _ _).run bA h
theorem HT {op:BoolOp} {e:List Expr} {r:Bool×W} (h:vP n cx op e σ w bA True= .ok r [] (eqns bA True):=by kernel_rfl):hN n cx op e σ w=I r:=((rj n).hN _ _ _ _ _).run bA h
theorem hv {d:j4} {vs:List U} {r:U×W} (h:Ck n cx d vs w bA True= .ok r [] (eqns bA True):=by kernel_rfl):b' n cx d vs w=I r:=((rj n).b' _ _ _ _).run bA h
theorem cg {st:cK} {r:fx×aA×W} (h:Cn n cx st σ w bA True= .ok r [] (eqns bA True):=by kernel_rfl):ex n cx st σ w=I r:=((rj n).ex _ _ _ _).run bA h
theorem jy {st:List cK} {r:fx×aA×W} (h:rz n cx st σ w bA True= .ok r [] (eqns bA True):=by kernel_rfl):cw n cx st σ w=I r:=((rj n).cw _ _ _ _).run bA h
end
noncomputable def aM {a:Option (U)} {b:U} (h:a=I b):Fact:= .v ⟨a,b,h⟩
noncomputable def cE {a:Option (Bool)} {b:Bool} (h:a=I b):Fact:= .b ⟨a,b,h⟩
noncomputable def cZ {a:Option (U×W)} {b:U×W} (h:a=I b):Fact:= .c ⟨a,b,h⟩
noncomputable def q3 {a:Option (List U×W)} {b:List U×W} (h:a=I b):Fact:= .l ⟨a,b,h⟩
noncomputable def mE {a:Option (fx×aA×W)} {b:fx×aA×W} (h:a=I b):Fact:= .f ⟨a,b,h⟩
noncomputable def Lu {a:Option (Nat)} {b:Nat} (h:a=I b):Fact:= .n ⟨a,b,h⟩
noncomputable def oA {a:Option (List U)} {b:List U} (h:a=I b):Fact:= .u ⟨a,b,h⟩
theorem acX (h:b≠0):b? .Mod (.int a) (.int b)=I (.int (a.fmod b)):=a_ h
theorem mod_eq (h:b≠0) (e:a.fmod b=k):b? .Mod (.int a) (.int b)=I (.int k):=e▸acX h
theorem X_ (h:b≠0) (aa:b.natAbs<1073741824):b? .FloorDiv (.int a) (.int b)=I (.int (a.fdiv b)):=a_ ⟨h,aa⟩
theorem add_str (h:x.length+y.length≤1048576):b? .Add (.str x) (.str y)=I (.str (x++y)):=a_ h
theorem acC (h: ¬a<b):e_ .Lt (.int a) (.int b)=I false:=aQ I (f5 h)
theorem Y6 (h:b<a):e_ .Gt (.int a) (.int b)=I true:=aQ I (e1 h)
theorem Y5 (h: ¬b<a):e_ .Gt (.int a) (.int b)=I false:=aQ I (f5 h)
theorem YS (h:b≤a):e_ .GtE (.int a) (.int b)=I true:=aQ I (e1 h)
noncomputable abbrev S (x:String):Str:=ao x
abbrev bq:D8:=⟨ab,vJ,z?⟩
theorem uH (h:vs.length=(kI r).length):b' (n+1) ⟨dx,d+1,sc⟩ r vs w=(cw n ⟨dx,d,r.scope⟩ r.body ((kI r).zip (vs.map .val)) w).bind λx=>match x.1 with
  | .ret p=>I (p,x.2.2)
  | .next=>I (.none,x.2.2)
  |_=>none:=by
 rw[b',a_ (by rw[h];exact ReflBEq.rfl)]
 dsimp only
 cases cw n ⟨dx,d,r.scope⟩ r.body ((kI r).zip (vs.map .val)) w with
 |none=>rfl
 |some x=>obtain ⟨f,s,w'⟩:=x;cases f<;>rfl
noncomputable def aT (n:Nat):U:= .int n
noncomputable def a6 (l:List cK) (i:Nat):cK:=l.getD i (.Pass ⟨0,0,0,0⟩)
noncomputable def Fb (l:List Expr) (i:Nat):Expr:=l.getD i (.Constant .none 0 ⟨0,0,0,0⟩)
noncomputable def jR:cK→List cK
 | .For _ _ b _ _=>b
 |_=>[]
noncomputable def GF:cK→List cK
 | .If _ b _ _=>b
 |_=>[]
noncomputable def M9:cK→List cK
 | .If _ _ b _=>b
 |_=>[]
noncomputable def valueOf:cK→Expr
 | .Assign _ e _=>e
 | .AugAssign _ _ e _=>e
 | .Return (I e) _=>e
 | .If t _ _ _=>t
 | .For _ e _ _ _=>e
 | .Expr e _=>e
 |_=> .Constant .none 0 ⟨0,0,0,0⟩
noncomputable def gf:cK→Expr
 | .For t _ _ _ _=>t
 |_=> .Constant .none 0 ⟨0,0,0,0⟩
noncomputable def ff:Expr→Expr
 | .ListComp e _ _ _=>e
 |_=> .Constant .none 0 ⟨0,0,0,0⟩
noncomputable def jj:Expr→Expr
 | .ListComp _ [⟨t,_,_,_⟩] _ _=>t
 |_=> .Constant .none 0 ⟨0,0,0,0⟩
noncomputable def sx:Expr→List Expr
 | .ListComp _ [⟨_,_,i,_⟩] _ _=>i
 |_=>[]
noncomputable def fj:Expr→Scope
 | .ListComp _ _ c _=>c
 |_=>default
theorem fuel {α:Type} {f:Nat→α} {a b:Nat} {r:α} (h: ∀n,f (n+a)=r) (c:a≤b) (n:Nat):f (n+b)=r:=by
 have:=h (n+(b-a))
 rw[show n+(b-a)+a=n+b by exact ahV c] at this
 exact this
theorem pK (a:α) (f:α→Option β):(I a).bind f=f a:=Ja (Eq.refl _) (Sm a f)
theorem OQ (a b:Int):hs (.int a) (.int b)=I (decide (a=b)):=rfl
theorem HZ {i n:Nat} (h:i<n):seqIndex? (i:Int) n=I i:=by
 unfold seqIndex?
 have J: ¬(i:Int)<0:=by exact DN _
 have aa:(decide (0≤(i:Int))&&decide ((i:Int)<(n:Int)))=true:=by simp;exact h
 rw[a3 J,a_ aa]
 rfl
theorem Ph (h:0<n):seqIndex? (-1) n=I (n-1):=by
 unfold seqIndex?
 have a:(-1+n:Int)=((n-1:Nat):Int):=by rw[oc h];exact ph _ _
 have aa:(decide (0≤(-1+n:Int))&&decide ((-1+n:Int)<(n:Int)))=true:=by
  rw[a];exact je.mpr ⟨e1 (og _),e1 (lC.mpr (Nat.sub_lt h Nat.one_pos))⟩
 have e:(if (-1:Int)<0 then-1+(n:Int) else-1)= -1+n:=a_ ar
 rw[e,a_ aa,a]
 rfl
theorem jY {i:Nat} (h:i<1152921504606846976):small (i:Int)=true:=by unfold small;simp;exact h
theorem rg {l:List U} {i:Nat} (h:l[i]?=I p) (au:i<1152921504606846976):dM (.list l) (.int i)=I p:=by
 have aI:i<l.length:=(hh.mp h).1
 show (if small (i:Int) then (seqIndex? i l.length).bind λj=>l[j]? else ah)=I p
 rw[jY au,a_ rfl,HZ aI]
 exact h
theorem GD (h:l.getLast?=I p):dM (.list l) (.int (-1))=I p:=by
 have aI:0<l.length:=by
  induction l using cj with
  |nil=>exact aR h
  |cons a l=>simp
 show (if small (-1) then (seqIndex? (-1) l.length).bind λj=>l[j]? else ah)=I p
 rw[show small (-1)=ab by decide,a_ rfl,Ph aI]
 rw[List.getLast?_eq_getElem?] at h
 exact h
section
variable {St:Type} {B:St→U→aA} {P:Nat→St→Prop} {s0:St}
theorem Az (af: ∀v σ,d2 cx.sc tgt v σ=I (σ.set x (.val v))) (o: ∀s v u,(B s v).set x (.val u)=B s u) (l: ∀v,σ.set x (.val v)=B s0 v) (d3:P 0 s0) (el:items≠[]) (m:c+items.length+1≤N)
  (b: ∀j p s,items[j]?=I p→P j s→ ∃s' fl,P (j+1) s'∧(fl= .next∨fl= .cont)∧ ∀n,cw (n+c) cx body (B s p) w=I (fl,B s' p,w)):
  ∃s v,P items.length s∧ ∀n,forL (n+N) cx tgt body items σ w=I (.next,B s v,w):=by
 have key:=Fo (cx:=cx) (tgt:=tgt) (body:=body) (Inv:=λj σ' w'=>w'=w∧ ∃s,P j s∧(∀v,σ'.set x (.val v)=B s v)∧(0<j→ ∃v,σ'=B s v)) c items 0 σ w (by
  intro i p σ' w' aI a
  rw[pj] at a
  obtain ⟨rfl,s,ay,e,d⟩:=a
  obtain ⟨s',fl,f,g,k⟩:=b i p s aI ay
  refine ⟨B s p,fl,B s' p,w',?_,g,k,rfl,s',by rw[pj];exact f,λv=>o s' p v,λZ=>⟨p,rfl⟩⟩
  rw[af,e]) ⟨rfl,s0,d3,l,λh=>bF h (lz 0)⟩
 obtain ⟨σ1,w1,J,rfl,s,ay,e,d⟩:=key
 rw[pj] at ay d
 obtain ⟨v,rfl⟩:=d (zj.mpr el)
 exact ⟨s,v,ay,@fuel _ (λn=>forL n _ _ _ _ _ _) (c+items.length+1) N _ (λn=>by have:=J n;rwa [show n+c+items.length+1=n+(c+items.length+1) by simp+arith only] at this) m⟩
theorem O8 {K j:Nat} (h:((eB K).map aT)[j]?=I p):aT j=p∧j<K:=by
 have a:j<K:=by
  have:=(hh.mp h).1
  rwa [df,jE] at this
 rw[mj,akR a] at h
 exact ⟨inj h,a⟩
theorem O9 {K:Nat}:((eB K).map aT).length=K:=by rw[df,jE]
theorem forR {K:Nat} (af: ∀v σ,d2 cx.sc tgt v σ=I (σ.set x (.val v))) (g: ∀s v u,(B s v).set x (.val u)=B s u) (d: ∀v,σ.set x (.val v)=B s0 v) (d3:P 0 s0) (f:0<K) (e:c+K+1≤N)
  (a: ∀j s,j<K→P j s→ ∃s' fl,P (j+1) s'∧(fl= .next∨fl= .cont)∧ ∀n,cw (n+c) cx body (B s (aT j)) w=I (fl,B s' (aT j),w)):
  ∃s v,P K s∧ ∀n,forL (n+N) cx tgt body ((eB K).map aT) σ w=I (.next,B s v,w):=by
 have h:=Az (items:=(eB K).map aT) (N:=N) af g d d3 (λz=>j6 f (akS.mp (Sn.mp z))) (by rw[O9];exact e) λj p s b aC=>(O8 b).1▸a j s (O8 b).2 aC
 rwa [O9] at h
end
structure Enc {α:Type} [DecidableEq α] (f:α→U) (g:α→m9) (ok:α→Prop) (m:Nat):Prop where
 toD: ∀x,ok x→toD (f x)=I (g x)
 lay: ∀x,ok x→(g x).canLay0=ab
 dep: ∀x,ok x→(g x).depth≤m
 eqv: ∀x y,ok x→ok y→lu (g x) (g y)=decide (x=y)
section
variable [DecidableEq α] {f:α→U} {g:α→m9} {ok:α→Prop} {m:Nat}
theorem Ij (E:Enc f g ok m): ∀{l:List α},(∀x∈l,ok x)→jB (l.map f)=I (l.map g):=by
 intro c
 induction c with
 |nil=>
  intro _
  exact rfl
 |cons a l b=>
  intro h
  rw[iR,jB,E.toD a (h a eQ),b λx af=>h x (fb _ af)]
  rfl
theorem Nv (E:Enc f g ok m): ∀{l:List α},(∀x∈l,ok x)→I6 (l.map g)=true:=by
 intro c
 induction c with
 |nil=>
  intro _
  rw[uf,I6]
 |cons a l b=>
  intro h
  rw[iR,I6,E.lay a (h a eQ),b λx af=>h x (fb _ af)]
  rfl
theorem K3 (E:Enc f g ok m): ∀{l:List α},(∀x∈l,ok x)→So (l.map g)≤m:=by
 intro c
 induction c with
 |nil=>
  intro _
  rw[uf,So];exact hC _
 |cons a l b=>
  intro h
  rw[iR,So]
  exact Nat.max_le.mpr ⟨E.dep a (h a eQ),b λx af=>h x (fb _ af)⟩
theorem Cv (E:Enc f g ok m) (hm:m≤60) {x:α} (h:ok x):shaped (g x)=true:=by
 have:=E.dep x h
 unfold shaped
 rw[E.lay x h,e1 (by exact bE (cc hm this))];rfl
theorem Pq (E:Enc f g ok m) (hm:m≤60) {l:List α} (h: ∀x∈l,ok x):shaped (.list (l.map g))=true:=by
 have:=K3 E h
 unfold shaped
 have J:(PyData.list (l.map g)).canLay0=true:=by rw[DK];exact Nv E h
 have aa:(PyData.list (l.map g)).depth≤64:=by rw[DL];exact bE (cc hm this)
 rw[J,e1 aa];rfl
theorem ifs (h:b=ab):(if b then x else y)=x:=a_ h
theorem Enc.eq (E:Enc f g ok m) (hm:m≤60) {x y:α} (af:ok x) (a9:ok y):hs (f x) (f y)=I (decide (x=y)):=by
 show Le (Mine.toD (f x)) (Mine.toD (f y)) _=_
 rw[E.toD x af,E.toD y a9]
 exact (ifs (by rw[Cv E hm af,Cv E hm a9];rfl)).trans (aQ I (E.eqv x y af a9))
theorem TG (E:Enc f g ok m) {x:α} (af:ok x): ∀{l:List α},(∀x∈l,ok x)→((l.map g).any λy=>lu y (g x))=decide (x∈l):=by
 intro c
 induction c with
 |nil=>
  intro _
  rfl
 |cons a l b=>
  intro h
  rw[iR,List.any_cons,E.eqv a x (h a eQ) af,b λx af=>h x (fb _ af)]
  rw[jF]
  simp only[t8,decide_eq_true_eq,eo]
  constructor
  ·rintro (h|h)
   ·exact .inl h.symm
   ·exact .inr h
  ·rintro (h|h)
   ·exact .inl h.symm
   ·exact .inr h
theorem Enc.isIn (E:Enc f g ok m) (hm:m≤60) {x:α} {l:List α} (af:ok x) (h: ∀x∈l,ok x):kK (f x) (.list (l.map f))=I (decide (x∈l)):=by
 show GG (Mine.toD (f x)) (jB (l.map f))=_
 rw[E.toD x af,Ij E h]
 exact (ifs (by rw[Cv E hm af,Pq E hm h];rfl)).trans (aQ I (TG E af h))
theorem Yc (E:Enc f g ok m) {x:α} (af:ok x): ∀{l:List α},(∀x∈l,ok x)→((l.map g).findIdx? λy=>lu y (g x))=l.findIdx? (λy=>decide (y=x)):=by
 intro c
 induction c with
 |nil=>
  intro _
  rfl
 |cons a l b=>
  intro h
  rw[iR,Dl,Dl,E.eqv a x (h a eQ) af,b λx af=>h x (fb _ af)]
theorem Enc.index (E:Enc f g ok m) (hm:m≤60) {x:α} {l:List α} (af:ok x) (h: ∀x∈l,ok x) (a:l.length≤1048576):idxOf (f x) (l.map f)=l.findIdx? (λy=>decide (y=x)):=by
 show GC _ (Mine.toD (f x)) (jB (l.map f))=_
 rw[E.toD x af,Ij E h]
 exact (ifs (by rw[Cv E hm af,Pq E hm h,df,e1 a];rfl)).trans (Yc E af h)
theorem Enc.list (E:Enc f g ok m):Enc (λl:List α=> .list (l.map f)) (λl=> .list (l.map g)) (λl=> ∀x∈l,ok x) (m+1) where
 toD l h:=by show (jB (l.map f)).map PyData.list=_;rw[Ij E h];rfl
 lay l h:=by rw[DK];exact Nv E h
 dep l h:=by rw[DL];have:=K3 E h;exact DC this _
 eqv l k J aa:=by
  rw[lu]
  induction l generalizing k with
  |nil=>induction k using cj with
   |nil=>rw[uf,Jn];rfl
   |cons b k=>rw[uf,iR,Jn];rfl
  |cons a l c=>induction k using cj with
   |nil=>rw[uf,iR,Jn];rfl
   |cons b k=>
    rw[iR,iR,Jn,E.eqv a b (J a eQ) (aa b eQ),c k (λx af=>J x (fb _ af)) (λx af=>aa x (fb _ af)),jF]
    simp
end
theorem w_:Enc aT (λn=>PyData.int n) (λZ=>True) 0 where
 toD _ _:=rfl
 lay _ _:=by rw[DK]
 dep _ _:=by rw[DL];exact bh _
 eqv x y _ _:=by
  rw[lu,jF]
  simp only[beq_iff_eq,decide_eq_true_eq]
  exact DY
theorem encStr:Enc U.str PyData.str (λx=>fE x=ab) 0 where
 toD _ _:=rfl
 lay _ h:=by rw[DK];exact h
 dep _ _:=by rw[DL];exact bh _
 eqv x y _ _:=by rw[lu,jF];rfl
noncomputable def aaA:Slot→Bool
 | .own _=>ab
 |_=>aq
theorem YF: ∀{σ:aA},σ.any (λx=>aaA x.2)=aq→σ.freeze xs=σ:=by
 intro σ
 induction σ with
 |nil=>intro _;rfl
 |cons a σ b=>
  intro h
  obtain ⟨y,u⟩:=a
  obtain ⟨J,aa⟩:=IY.mp h
  refine congr (aQ List.cons (aQ (Prod.mk y) ?_)) (b aa)
  split
  ·induction u using Slot.casesOn with
   |own=>exact (cv J.symm).elim
   |_=>rfl
  ·rfl
def TN:cK→Option Str
 | .Assign ts _ _=>(ku ts).bind l1
 |_=>ah
noncomputable def isIf:cK→Bool
 | .If .. =>ab
 |_=>aq
section
variable {cx:bY} {σ:aA} {w:W} {n:Nat} {st:cK}
theorem XQ (h:TN st=I x) (hm:dD cx.sc x=ab) (d:u? (valueOf st)=aq):ex (n+2) cx st σ w=(ev n cx (valueOf st) (σ.freeze (cf 30 ab (valueOf st))) w).bind λr=>I (.next,(σ.freeze (cf 30 ab (valueOf st))).set x (.val r.1),r.2):=by
 induction st using I! with
 |Assign ts e p=>
  refine aO h λt b h=>gj (qq h) λq a=> ?_
  have c:sC (n+1) cx e (σ.freeze (cf 30 ab e)) w=_:=a3 (by rw[show u? e=aq from d];exact cv)
  exact (nr b)▸a▸((a_ hm).trans ((aQ (bD · _) c).trans (Option.bind_assoc ..)))
 |_=>exact aR h
theorem Lq (h:isIf st=ab):ex (n+1) cx st σ w=(fI n cx (valueOf st) (σ.freeze (cf 30 aq (valueOf st))) w).bind λc=>if c.1 then cw n cx (GF st) (σ.freeze (cf 30 aq (valueOf st))) c.2 else cw n cx (M9 st) (σ.freeze (cf 30 aq (valueOf st))) c.2:=by
 induction st using I! with
 |If=>rfl
 |_=>exact (cv h).elim
end
theorem aeY {i n:Nat} (h:i<n) (a5:i<1152921504606846976):l7 (i:Int) n=I i:=by
 unfold l7
 rw[jY a5,a_ rfl,HZ h]
noncomputable def vA:Option Nat→U
 |none=> .none
 |some n=> .int n
theorem aeN (l:List U) (lo aI:Option Nat):tE l (lo.map λa=>((a:Nat):Int)) (aI.map λa=>((a:Nat):Int)) ah=(l.drop (lo.getD 0)).take ((aI.getD l.length)-lo.getD 0):=by
 unfold tE
 rw[sliceBounds_plain]
 dsimp only
 have c:((lo.map λa=>((a:Nat):Int)).elim 0 (clipAt l.length))=min (lo.getD 0) l.length:=by induction lo using d5 with
  |none=>simp
  |some a=>exact clipAt_nat _ _
 have d:((aI.map λa=>((a:Nat):Int)).elim l.length (clipAt l.length))=min (aI.getD l.length) l.length:=by induction aI using d5 with
  |none=>exact mi (Si _)
  |some a=>exact clipAt_nat _ _
 rw[c,d,sliceRange_one]
 generalize aI.getD l.length=b
 generalize lo.getD 0=a
 have h:min a l.length+(min b l.length-min a l.length)≤l.length:=by
  have J:min a l.length≤l.length:=DI _ _
  have aa:min b l.length≤l.length:=DI _ _
  exact (Nat.le_total (min a l.length) (min b l.length)).elim (λz=>(zq z).symm▸aa) λz=>(Sh z).symm▸J
 rw[StrLaws.picks l _ _ h]
 by_cases aa:a≤l.length
 ·rw[DH aa]
  by_cases ay:b≤l.length
  ·rw[DH ay]
  ·rw[ze (show l.length≤b by exact iS (vu ay)),rV (by rw[pf];exact dH rfl),rV (by rw[pf];exact bE (cc (cc (Hq ay) (k_ (b) (a))) (o4 (show a≤l.length from bE aa))))]
 ·rw[ze (show l.length≤a by exact iS (vu aa)),wq (bh _),wq (show l.length≤a by exact iS (vu aa))];simp
theorem slice_list (lo aI:Option Nat) (c:l.length≤1048576):iO (.list l) (vA lo) (vA aI) .none=I (.list ((l.drop (lo.getD 0)).take (aI.getD l.length-lo.getD 0))):=by
 have e: ∀a b,iO (.list l) (vA a) (vA b) .none=if (ah:Option Int)≠I 0∧l.length≤1048576 then I (.list (tE l (a.map λa=>((a:Nat):Int)) (b.map λa=>((a:Nat):Int)) ah)) else none:=λa b=>by induction a using d5<;>induction b using d5<;>rfl
 rw[e,a_ ⟨by decide,c⟩,aeN]
theorem sy (af: ∀v σ,d2 cx.sc tgt v σ=I (σ.set x (.val v))) (b:c+1+items.length+1≤N)
  (a: ∀p∈items,∀n,ev (n+(c+1)) cx elt (σ.set x (.val p)) w=I (f p,w)) (n:Nat):d! (n+N) cx elt tgt [] items σ w=I (items.map f,w):=by
 have:=VM (cx:=cx) (tgt:=tgt) (elt:=elt) (items:=items) (σ:=σ) (w:=w) (f:=f) c λp aC=>⟨_,af p σ,a p aC⟩
 exact @fuel _ (λn=>d! n _ _ _ _ _ _ _) (c+1+items.length+1) N _ (λn=>by have:=this n;rwa [show n+(c+1)+items.length+1=n+(c+1+items.length+1) by simp+arith only] at this) b n
theorem KV {ifs:List Expr} {items:List U} {f:U→U} {b:U→Bool} {c N:Nat} (af: ∀v σ,d2 cx.sc tgt v σ=I (σ.set x (.val v))) (e:c+items.length+1≤N)
  (d: ∀p∈items,∀n,hN (n+c) cx .And ifs (σ.set x (.val p)) w=I (b p,w)) (a: ∀p∈items,b p=ab→ ∀n,ev (n+c) cx elt (σ.set x (.val p)) w=I (f p,w)) (n:Nat):d! (n+N) cx elt tgt ifs items σ w=I ((items.filter b).map f,w):=by
 have:=KW (cx:=cx) (tgt:=tgt) (elt:=elt) (ifs:=ifs) (σ:=σ) (w:=w) (f:=f) (b:=b) c
 exact @fuel _ (λn=>d! n _ _ _ _ _ _ _) (c+items.length+1) N _ (λn=>by have:=this n items λp aC=>⟨_,af p σ,λn=>⟨d p aC n,λae=>a p aC ae n⟩⟩;rwa [show n+c+items.length+1=n+(c+items.length+1) by simp+arith only] at this) e n
theorem Uy (h:l.length≤1048576):fO (ao "len") [.list l]=I (.int l.length):=(show _=(if l.length≤1048576 then I (U.int l.length) else ah) from by kernel_rfl).trans (a_ h)
theorem qX (h:x.length≤1048576):fO (ao "len") [.str x]=I (.int x.length):=(show _=(if x.length≤1048576 then I (U.int x.length) else ah) from by kernel_rfl).trans (a_ h)
theorem Ha (h:i<6):i=0∨i=1∨i=2∨i=3∨i=4∨i=5:=by
 revert i
 decide+kernel
theorem cN {cx:bY} {st:cK} {r:List cK} {σ σ1:aA} {w w1:W} {C D:Nat} (h: ∀n,ex (n+C) cx st σ w=I (.next,σ1,w1)) (gb:C≤D) (n:Nat):cw (n+(D+1)) cx (st::r) σ w=cw (n+D) cx r σ1 w1:=
 X5 (n:=n+D) (@fuel _ (λn=>ex n cx st σ w) C D _ h gb n)
theorem lL {cx:bY} {st:cK} {r:List cK} {σ σ1:aA} {w w1:W} {p:U} {C D:Nat} (h: ∀n,ex (n+C) cx st σ w=I (.ret p,σ1,w1)) (gb:C≤D) (n:Nat):cw (n+(D+1)) cx (st::r) σ w=I (.ret p,σ1,w1):=
 X7 (n:=n+D) (@fuel _ (λn=>ex n cx st σ w) C D _ h gb n)
theorem qv:
  (∀x y,methP (ao "startswith") (.str x) [.str y]=I (.bool (ha x y)))∧(∀x y,methP (ao "endswith") (.str x) [.str y]=I (.bool (j1 x y)))∧(∀x y,methP (ao "count") (.str x) [.str y]=I (.int (Rp x y)))∧
  (∀x l,methP (ao "join") (.str x) [.list l]=(rD l).bind λts=>if JoinOk x ts then I (.str (De x ts)) else ah)∧
  (∀x y a b,methP (ao "find") (.str x) [.str y,.int a,.int b]=I (.int (match mf x y (fromIndex x.length a) (min (fromIndex x.length b) x.length) 1 with|k::_=>(k:Int)|[]=> -1)))∧
  (∀l x,methP (ao "index") (.list l) [x]=(idxOf x l).map λ(n:Nat)=> .int n):=by
 refine ⟨?_,?_,?_,?_,?_,?_⟩<;>(intros;kernel_rfl)
theorem CS (h:x.length≤1048576):n9 (.str x)=I (decide (x.length≠0)):=by
 show (if x.length≤1048576 then I ((x.length:Int) !=0) else ah)=_
 rw[a_ h]
 congr 1
 rw[jF];simp
noncomputable def hl (got:Str) (e:Nat):Nat→List Str→Bool
 |_,[]=>ab
 |s,w::ws=>match mf got w s e 1 with
  |k::_=>hl got e (k+w.length) ws
  |[]=>aq
noncomputable def E5 (got:Str):List Str→Option (List Str×Nat)
 |[]=>ah
 |w::r=>if w.length=0 then I (w::r,0) else if ha got w then I (r,w.length) else ah
def lJ (got:Str) (ws:List Str):Option (List Str×Nat):=
 let w:=ws.getLastD (S "")
 if w.length=0 then I (ws,got.length) else if j1 got w then I (ws.dropLast,got.length-w.length) else ah
def ky (ws:List Str) (got:Str):Bool:=match E5 got ws with
 |none=>aq
 |some (a,s)=>match lJ got a with
  |none=>aq
  |some (b,e)=>if e<s then aq else hl got e s b
def f' (d:Nat):bY:=⟨bq,d,(aE 11).scope⟩
def d_ (want got:Str) (ws:Slot) (s e:U):Option U→aA
 |none=>[(S "want",.val (.str want)),(S "got",.val (.str got)),(S "ws",ws),(S "startpos",.val s),(S "endpos",.val e)]
 |some w=>[(S "want",.val (.str want)),(S "got",.val (.str got)),(S "ws",ws),(S "startpos",.val s),(S "endpos",.val e),(S "w",.val w)]
section
variable {d:Nat}
theorem WM (a:Str) (r:List U) (s e:U) (c:r.length≤1000) (n:Nat):ex (n+40) (f' d) (a6 (aE 11).body 4) (d_ want got (.own (.str a::r)) s e ah) w=I (.next,d_ want got (.own (.str a::r)) s e (I (.str a)),w):=by
 have b:dM (.list (.str a::r)) (.int 0)=I (.str a):=rg (i:=0) rfl ar
 exact cg [aM b]
theorem WO (l:List U) (x:U) (s e a:U) (c:l.getLast?=I x) (n:Nat):ex (n+40) (f' d) (a6 (aE 11).body 6) (d_ want got (.own l) s e (I a)) w=I (.next,d_ want got (.own l) s e (I x),w):=by
 have b:=GD c
 exact cg [.go,aM b]
theorem WN (a:Str) (r:List U) (e:U) (aJ:a.length≤1048576) (b8:r.length≤1000) (n:Nat):ex (n+40) (f' d) (a6 (aE 11).body 5) (d_ want got (.own (.str a::r)) (.int 0) e (I (.str a))) w=
  if a.length=0 then I (.next,d_ want got (.own (.str a::r)) (.int 0) e (I (.str a)),w)
  else if ha got a then I (.next,d_ want got (.own r) (aT a.length) e (I (.str a)),w)
  else I (.ret (.bool aq),d_ want got (.own (.str a::r)) (.int 0) e (I (.str a)),w):=by
 have c:=qX aJ
 have f:l7 0 (U.str a::r).length=I 0:=aeY (i:=0) (by rw[gR];exact r0 _) ar
 have g:(U.str a::r).length≤1048576:=by rw[gR];exact pB b8 (bh _) rfl
 by_cases J:a.length=0
 ·have b:n9 (.str a)=I false:=(CS aJ).trans (aQ I (f5 λh=>h J))
  rw[a_ J]
  exact cg [cE b]
 ·have b:n9 (.str a)=I true:=(CS aJ).trans (aQ I (e1 J))
  rw[a3 J]
  cases aa:ha got a with
  |true=>
   have b4:methP (ao "startswith") (.str got) [.str a]=I (.bool ab):=by rw[qv.1,aa]
   rw[a_ rfl]
   exact cg [cE b,aM b4,.go,aM c,.p _ g,Lu f]
  |false=>
   have b4:methP (ao "startswith") (.str got) [.str a]=I (.bool aq):=by rw[qv.1,aa]
   rw[a3 ar]
   exact cg [cE b,aM b4,.go]
theorem WQ (l:List U) (x:Str) (s:U) (e:Nat) (g:l.getLast?=I (.str x)) (af:x.length≤1048576) (c:l.length≤1000) (n:Nat):ex (n+40) (f' d) (a6 (aE 11).body 7) (d_ want got (.own l) s (aT e) (I (.str x))) w=
  if x.length=0 then I (.next,d_ want got (.own l) s (aT e) (I (.str x)),w)
  else if j1 got x then I (.next,d_ want got (.own l.dropLast) s (.int ((e:Int)-x.length)) (I (.str x)),w)
  else I (.ret (.bool aq),d_ want got (.own l) s (aT e) (I (.str x)),w):=by
 have el:0<l.length:=by
  induction l using cj with
  |nil=>exact aR g
  |cons a l=>simp
 have f:=qX af
 have i:l7 (-1) l.length=I (l.length-1):=by
  unfold l7
  rw[show small (-1)=ab by decide,a_ rfl,Ph el]
 have j:l.length≤1048576:=by exact cW c rfl
 have k:l.eraseIdx (l.length-1)=l.dropLast:=by rw[RS,List.dropLast_eq_take,wq (by exact k_ _ _),e0]
 by_cases J:x.length=0
 ·have b:n9 (.str x)=I false:=(CS af).trans (aQ I (f5 λh=>h J))
  rw[a_ J]
  exact cg [cE b]
 ·have b:n9 (.str x)=I true:=(CS af).trans (aQ I (e1 J))
  rw[a3 J]
  cases aa:j1 got x with
  |true=>
   have b4:methP (ao "endswith") (.str got) [.str x]=I (.bool ab):=by rw[qv.2.1,aa]
   rw[a_ rfl,←k]
   exact cg [cE b,aM b4,.go,aM f,.go,.go,.p _ j,Lu i]
  |false=>
   have b4:methP (ao "endswith") (.str got) [.str x]=I (.bool aq):=by rw[qv.2.1,aa]
   rw[a3 ar]
   exact cg [cE b,aM b4,.go]
theorem WR (l:List U) (s e:Int) (x:U) (n:Nat):ex (n+40) (f' d) (a6 (aE 11).body 8) (d_ want got (.own l) (.int s) (.int e) (I x)) w=
  if e<s then I (.ret (.bool aq),d_ want got (.own l) (.int s) (.int e) (I x),w) else I (.next,d_ want got (.own l) (.int s) (.int e) (I x),w):=by
 by_cases h:e<s
 ·rw[a_ h]
  exact cg [cE (Y6 h)]
 ·rw[a3 h]
  exact cg [cE (Y5 h)]
theorem WV (l:U) (s e:Nat) (x:Str) (g:got.length≤1000000) (af:x.length≤1000000) (i:s≤got.length) (he:e≤got.length) (n:Nat):cw (n+40) (f' d) (jR (a6 (aE 11).body 9)) (d_ want got (.val l) (.int s) (.int e) (I (.str x))) w=
  match mf got x s e 1 with
  |k::_=>I (.next,d_ want got (.val l) (.int ((k+x.length:Nat):Int)) (.int e) (I (.str x)),w)
  |[]=>I (.ret (.bool aq),d_ want got (.val l) (.int (-1)) (.int e) (I (.str x)),w):=by
 have a:fromIndex got.length (s:Int)=s:=by unfold fromIndex;rw[a3 (by exact DN _)];exact Nat.add_zero _
 have b:min (fromIndex got.length (e:Int)) got.length=e:=by unfold fromIndex;rw[a3 (by exact DN _)];exact DH he
 have c:=qX (x:=x) (by exact cW af rfl)
 cases h:mf got x s e 1 with
 |nil=>
  have b4:methP (ao "find") (.str got) [.str x,.int s,.int e]=I (.int (-1)):=by rw[qv.2.2.2.2.1,a,b,h]
  exact jy [aM b4,.go]
 |cons k r=>
  have b4:methP (ao "find") (.str got) [.str x,.int s,.int e]=I (.int k):=by rw[qv.2.2.2.2.1,a,b,h]
  have f:e_ .Lt (.int k) (.int 0)=I false:=acC (by exact DN _)
  exact jy [aM b4,cE f,aM c,.go]
theorem ael (h:mf x y s e 1=k::r):k+y.length≤e:=(StrLaws.occ_spec x y s e 1 k (by rw[h];exact eQ)).1
theorem WW (l:U) (e:Nat) (i:got.length≤1000000) (he:e≤got.length): ∀(ws:List Str) (s:Nat) (x:U),s≤got.length→(∀y∈ws,y.length≤1000000)→ ∃s' c,∀n,forL (n+40+ws.length+1) (f' d) (gf (a6 (aE 11).body 9)) (jR (a6 (aE 11).body 9)) (ws.map .str) (d_ want got (.val l) (.int s) (.int e) (I x)) w=
  I (if hl got e s ws then .next else .ret (.bool aq),d_ want got (.val l) s' (.int e) (I c),w):=by
 intro j
 induction j with
 |nil=>
  intro s x _ _
  exact ⟨.int s,x,λn=>by rw[hl];rfl⟩
 |cons y ws b=>
  intro s x m g
  have ae: ∀σ,d2 (f' d).sc (gf (a6 (aE 11).body 9)) (.str y) σ=I (σ.set (S "w") (.val (.str y))):=by
   intro σ;kernel_rfl
  have f:(d_ want got (.val l) (.int s) (.int e) (I x)).set (S "w") (.val (.str y))=d_ want got (.val l) (.int s) (.int e) (I (.str y)):=aY
  have a:=λn=>WV (want:=want) (d:=d) (w:=w) l s e y i (g y eQ) m he n
  cases h:mf got y s e 1 with
  |nil=>
   rw[h] at a
   refine ⟨.int (-1),.str y,λn=> ?_⟩
   have aa:=a (n+ws.length+1)
   rw[show n+ws.length+1+40=n+40+(y::ws).length by simp;exact mi (ug _ _ _)] at aa
   rw[iR,LJ,ae,Sm,f,aa,hl,h]
   rfl
  |cons k r=>
   rw[h] at a
   have av:=ael h
   obtain ⟨s',c,b⟩:=b (k+y.length) (.str y) (by exact cG av he) λz bH=>g z (fb _ bH)
   refine ⟨s',c,λn=> ?_⟩
   have aa:=a (n+ws.length+1)
   have ay:=b n
   rw[show n+ws.length+1+40=n+40+(y::ws).length by simp;exact mi (ug _ _ _)] at aa
   rw[show n+40+ws.length+1=n+40+(y::ws).length by simp;exact rfl] at ay
   rw[iR,LJ,ae,Sm,f,aa,hl,h]
   exact ay
theorem WS (ws:List Str) (s e:Nat) (x:U) (b:got.length≤1000000) (f:s≤got.length) (he:e≤got.length) (hw:ws.length≤10) (a: ∀y∈ws,y.length≤1000000): ∃σ',∀n,ex (n+80) (f' d) (a6 (aE 11).body 9) (d_ want got (.own (ws.map .str)) (.int s) (.int e) (I x)) w=I (if hl got e s ws then .next else .ret (.bool aq),σ',w):=by
 obtain ⟨s',c,h⟩:=WW (want:=want) (d:=d) (w:=w) (.list (ws.map .str)) e b he ws s x f a
 refine ⟨d_ want got (.val (.list (ws.map .str))) s' (.int e) (I c),λn=> ?_⟩
 have aa:=h (n+(79-41-ws.length))
 rw[show n+(79-41-ws.length)+40+ws.length+1=n+79 by exact qN (bE (cc (o4 (show ws.length≤79-41 from bE (cc hw (k_ (79) (41))))) (o4 (show 41≤79 from by simp+arith only)))) (bE (cc (k_ (79-41) (ws.length)) (k_ (79) (41))))] at aa
 exact cg [mE aa]
theorem WI (hm:kK (.str (S "...")) (.str want)=I ab) (n:Nat):ex (n+40) (f' d) (a6 (aE 11).body 0) [(S "want",.val (.str want)),(S "got",.val (.str got))] w=I (.next,[(S "want",.val (.str want)),(S "got",.val (.str got))],w):=by
 exact cg [cE (GH hm)]
theorem WJ (c:want.length≤1000000) (ws:List Str) (hw:rT want (S "...")=ws) (aC:(IW want (mf want (S "...") 0 want.length (want.length+1)) (S "...").length).length≤1000) (n:Nat):ex (n+40) (f' d) (a6 (aE 11).body 1) [(S "want",.val (.str want)),(S "got",.val (.str got))] w=I (.next,[(S "want",.val (.str want)),(S "got",.val (.str got)),(S "ws",.own (ws.map .str))],w):=by
 have f:((S "...").length==0)=false:=ar
 have a:want.length≤1048576:=by exact cW c rfl
 have b:(IW want (mf want (S "...") 0 want.length (want.length+1)) (S "...").length).length≤1048576:=by exact cW aC rfl
 have e:CB (.str want) [.str (S "...")]=I ((rT want (S "...")).map .str):=a_ ⟨f,a,b⟩
 exact hw▸(cg [oA e])
theorem WK (ws:List Str) (hw:2≤ws.length) (c:ws.length≤1000) (n:Nat):ex (n+40) (f' d) (a6 (aE 11).body 2) [(S "want",.val (.str want)),(S "got",.val (.str got)),(S "ws",.own (ws.map .str))] w=I (.next,[(S "want",.val (.str want)),(S "got",.val (.str got)),(S "ws",.own (ws.map .str))],w):=by
 have a:=Uy (l:=ws.map U.str) (by rw[df];exact cW c rfl)
 have b:e_ .GtE (.int ((ws.map U.str).length:Int)) (.int 2)=I true:=YS (by rw[df];lia)
 exact cg [aM a,cE b]
theorem WL (b:got.length≤1000000) (ws:Slot) (c: ∃l,ws= .own l) (n:Nat):ex (n+40) (f' d) (a6 (aE 11).body 3) [(S "want",.val (.str want)),(S "got",.val (.str got)),(S "ws",ws)] w=I (.next,d_ want got ws (.int 0) (.int got.length) ah,w):=by
 obtain ⟨l,rfl⟩:=c
 have a:=qX (x:=got) (by exact cW b rfl)
 exact cg [aM a]
theorem E7 (h:j1 x y=ab):y.length≤x.length:=by
 unfold j1 at h
 have:=(je.mp h).1
 have:=jH this
 exact akT this
theorem H? (h:ha x y=ab):y.length≤x.length:=by
 unfold ha at h
 have:=(je.mp h).1
 have:=jH this
 exact akT this
theorem getLast_map {ws:List Str} (h:ws.getLast?=I y):(ws.map U.str).getLast?=I (.str y):=by rw[akU,h];rfl
theorem K_ (ws:List Str) (el:ws≠[]) (k:ws.length≤10) (ae: ∀y∈ws,y.length≤1000000) (r:got.length≤1000000) (s:Nat) (t:s≤got.length) (x:U): ∃σ',∀n,cw (n+100) (f' d) ((aE 11).body.drop 6) (d_ want got (.own (ws.map .str)) (.int s) (.int got.length) (I x)) w=
  I (.ret (.bool (match lJ got ws with|none=>aq|some (b,e)=>if e<s then aq else hl got e s b)),σ',w):=by
 have hd:(aE 11).body.drop 6=[a6 (aE 11).body 6,a6 (aE 11).body 7,a6 (aE 11).body 8,a6 (aE 11).body 9,a6 (aE 11).body 10]:=aY
 have f:ws.getLast?=I (ws.getLastD (S "")):=by
  induction ws using cj with
  |nil=>exact bF rfl el
  |cons a l=>rw[List.getLastD_cons,List.getLast?_cons];rw[List.getLastD_eq_getLast?]
 generalize a9:ws.getLastD (S "")=y at f
 have D:y.length≤1000000:=ae y (List.mem_of_getLast? f)
 have m:=WO (want:=want) (got:=got) (d:=d) (w:=w) (ws.map .str) (.str y) (.int s) (.int got.length) x (getLast_map f)
 have o:=WQ (want:=want) (got:=got) (d:=d) (w:=w) (ws.map .str) y (.int s) got.length (getLast_map f) (by exact cW D rfl) (by rw[df];exact cW k rfl)
 rw[hd]
 have go: ∀(b:List Str) (e:Nat),b.length≤10→(∀y∈b,y.length≤1000000)→e≤got.length→ ∃σ',∀n,cw (n+98) (f' d) [a6 (aE 11).body 8,a6 (aE 11).body 9,a6 (aE 11).body 10] (d_ want got (.own (b.map .str)) (.int s) (.int e) (I (.str y))) w=I (.ret (.bool (if e<s then aq else hl got e s b)),σ',w):=by
  intro b e A u he
  have q:=WR (want:=want) (got:=got) (d:=d) (w:=w) (b.map .str) s e (.str y)
  by_cases ag:e<s
  ·rw[a_ ag]
   have h: ∀n,ex (n+40) (f' d) (a6 (aE 11).body 8) (d_ want got (.own (b.map .str)) (.int s) (.int e) (I (.str y))) w=I (.ret (.bool aq),d_ want got (.own (b.map .str)) (.int s) (.int e) (I (.str y)),w):=λn=>by rw[q,a_ (by lia)]
   exact ⟨_,λn=>lL h (show 40≤97 by decide) n⟩
  ·rw[a3 ag]
   have h: ∀n,ex (n+40) (f' d) (a6 (aE 11).body 8) (d_ want got (.own (b.map .str)) (.int s) (.int e) (I (.str y))) w=I (.next,d_ want got (.own (b.map .str)) (.int s) (.int e) (I (.str y)),w):=λn=>by rw[q,a3 (by lia)]
   obtain ⟨j,i⟩:=WS (want:=want) (got:=got) (d:=d) (w:=w) b s e (.str y) r t he A u
   cases b8:hl got e s b with
   |false=>
    rw[b8] at i
    exact ⟨j,λn=>(cN h (show 40≤97 by decide) n).trans (lL (p:= .bool aq) i (show 80≤96 by decide) n)⟩
   |true=>
    rw[b8] at i
    have v: ∀n,ex (n+40) (f' d) (a6 (aE 11).body 10) j w=I (.ret (.bool ab),j.freeze [],w):=λn=>by
     kernel_rfl
    exact ⟨_,λn=>(cN h (show 40≤97 by decide) n).trans ((cN (show∀n,_=I (fx.next,_,_) from i) (show 80≤96 by decide) n).trans (lL v (show 40≤95 by decide) n))⟩
 unfold lJ
 rw[a9]
 by_cases J:y.length=0
 ·rw[a_ J]
  have c: ∀n,ex (n+40) (f' d) (a6 (aE 11).body 7) (d_ want got (.own (ws.map .str)) (.int s) (.int got.length) (I (.str y))) w=I (.next,d_ want got (.own (ws.map .str)) (.int s) (.int got.length) (I (.str y)),w):=λn=>(o n).trans (a_ J)
  obtain ⟨σ',g⟩:=go ws got.length k ae (bh _)
  exact ⟨σ',λn=>(cN m (show 40≤99 by decide) n).trans ((cN c (show 40≤98 by decide) n).trans (g n))⟩
 ·rw[a3 J]
  cases aa:j1 got y with
  |true=>
   have C:=E7 aa
   have c: ∀n,ex (n+40) (f' d) (a6 (aE 11).body 7) (d_ want got (.own (ws.map .str)) (.int s) (.int got.length) (I (.str y))) w=I (.next,d_ want got (.own (ws.dropLast.map .str)) (.int s) (.int ((got.length-y.length:Nat):Int)) (I (.str y)),w):=λn=>by
    refine (o n).trans ?_
    rw[a3 J,aa,a_ rfl,List.map_dropLast,oc C]
   obtain ⟨σ',g⟩:=go ws.dropLast (got.length-y.length) (by rw[List.length_dropLast];exact cW (PL k) rfl) (λz bH=>ae z (List.dropLast_subset _ bH)) (by exact rW _ _)
   exact ⟨σ',λn=>(cN m (show 40≤99 by decide) n).trans ((cN c (show 40≤98 by decide) n).trans (g n))⟩
  |false=>
   have c: ∀n,ex (n+40) (f' d) (a6 (aE 11).body 7) (d_ want got (.own (ws.map .str)) (.int s) (.int got.length) (I (.str y))) w=I (.ret (.bool aq),d_ want got (.own (ws.map .str)) (.int s) (.int got.length) (I (.str y)),w):=λn=>by
    refine (o n).trans ?_
    rw[a3 J,aa];rfl
   exact ⟨_,λn=>(cN m (show 40≤99 by decide) n).trans (lL c (show 40≤98 by decide) n)⟩
theorem WX (hw:want.length≤1000000) (f:got.length≤1000000) (hm:kK (.str (S "...")) (.str want)=I ab) (ws:List Str) (k:rT want (S "...")=ws) (aa:2≤ws.length) (c:ws.length≤10) (ae: ∀y∈ws,y.length≤1000000)
  (aC:(IW want (mf want (S "...") 0 want.length (want.length+1)) (S "...").length).length≤1000) {sc:Scope} (n:Nat):b' (n+200) ⟨bq,d+1,sc⟩ (aE 11) [.str want,.str got] w=I (.bool (ky ws got),w):=by
 have hd:(aE 11).body=a6 (aE 11).body 0::a6 (aE 11).body 1::a6 (aE 11).body 2::a6 (aE 11).body 3::a6 (aE 11).body 4::a6 (aE 11).body 5::(aE 11).body.drop 6:=aY
 have i:kI (aE 11)=[S "want",S "got"]:=aY
 have bH:([S "want",S "got"]:List Str).zip ([U.str want,.str got].map Slot.val)=[(S "want",.val (.str want)),(S "got",.val (.str got))]:=rfl
 have key: ∃σ',∀n,cw (n+199) (f' d) (aE 11).body [(S "want",.val (.str want)),(S "got",.val (.str got))] w=I (.ret (.bool (ky ws got)),σ',w):=by
  rw[hd]
  have hE:=λn=>cN (D:=198) (r:=a6 (aE 11).body 1::a6 (aE 11).body 2::a6 (aE 11).body 3::a6 (aE 11).body 4::a6 (aE 11).body 5::(aE 11).body.drop 6) (WI (want:=want) (got:=got) (d:=d) (w:=w) hm) ar n
  have cn:=λn=>cN (D:=197) (r:=a6 (aE 11).body 2::a6 (aE 11).body 3::a6 (aE 11).body 4::a6 (aE 11).body 5::(aE 11).body.drop 6) (WJ (want:=want) (got:=got) (d:=d) (w:=w) hw ws k aC) ar n
  have c5:=λn=>cN (D:=196) (r:=a6 (aE 11).body 3::a6 (aE 11).body 4::a6 (aE 11).body 5::(aE 11).body.drop 6) (WK (want:=want) (got:=got) (d:=d) (w:=w) ws aa (by exact cW c rfl)) ar n
  have m:=λn=>cN (D:=195) (r:=a6 (aE 11).body 4::a6 (aE 11).body 5::(aE 11).body.drop 6) (WL (want:=want) (got:=got) (d:=d) (w:=w) f (.own (ws.map .str)) ⟨_,rfl⟩) ar n
  induction ws using cj with
  |nil=>simp at aa
  |cons a r=>
   have l:=ae a eQ
   have e:r.length≤9:=by rw[gR] at c;exact nf c
   have j:1≤r.length:=by rw[gR] at aa;exact nf aa
   have gW:=λn=>cN (D:=194) (r:=a6 (aE 11).body 5::(aE 11).body.drop 6) (WM (want:=want) (got:=got) (d:=d) (w:=w) a (r.map .str) (.int 0) (.int got.length) (by rw[df];exact cW e rfl)) ar n
   have h:=WN (want:=want) (got:=got) (d:=d) (w:=w) a (r.map .str) (.int got.length) (by exact cW l rfl) (by rw[df];exact cW e rfl)
   have pre: ∀n,cw (n+199) (f' d) (a6 (aE 11).body 0::a6 (aE 11).body 1::a6 (aE 11).body 2::a6 (aE 11).body 3::a6 (aE 11).body 4::a6 (aE 11).body 5::(aE 11).body.drop 6) [(S "want",.val (.str want)),(S "got",.val (.str got))] w=cw (n+194) (f' d) (a6 (aE 11).body 5::(aE 11).body.drop 6) (d_ want got (.own (.str a::r.map .str)) (.int 0) (.int got.length) (I (.str a))) w:=λn=>(hE n).trans ((cn n).trans ((c5 n).trans ((m n).trans (gW n))))
   unfold ky
   rw[show E5 got (a::r)=if a.length=0 then I (a::r,0) else if ha got a then I (r,a.length) else ah from rfl]
   by_cases J:a.length=0
   ·rw[a_ J]
    have b: ∀n,ex (n+40) (f' d) (a6 (aE 11).body 5) (d_ want got (.own (.str a::r.map .str)) (.int 0) (.int got.length) (I (.str a))) w=I (.next,d_ want got (.own (.str a::r.map .str)) (.int 0) (.int got.length) (I (.str a)),w):=λn=>(h n).trans (a_ J)
    obtain ⟨σ',g⟩:=K_ (want:=want) (got:=got) (d:=d) (w:=w) (a::r) (by exact akW _ _) c ae f 0 (hC _) (.str a)
    exact ⟨σ',λn=>(pre n).trans ((cN b (show 40≤193 by decide) n).trans (g (n+93)))⟩
   ·rw[a3 J]
    cases ay:ha got a with
    |true=>
     rw[a_ rfl]
     have b: ∀n,ex (n+40) (f' d) (a6 (aE 11).body 5) (d_ want got (.own (.str a::r.map .str)) (.int 0) (.int got.length) (I (.str a))) w=I (.next,d_ want got (.own (r.map .str)) (.int a.length) (.int got.length) (I (.str a)),w):=λn=>by
      refine (h n).trans ?_
      rw[a3 J,ay];rfl
     obtain ⟨σ',g⟩:=K_ (want:=want) (got:=got) (d:=d) (w:=w) r (by intro z;rw[z] at j;simp at j) (by exact cW e rfl) (λy a9=>ae y (fb _ a9)) f a.length (H? ay) (.str a)
     exact ⟨σ',λn=>(pre n).trans ((cN b (show 40≤193 by decide) n).trans (g (n+93)))⟩
    |false=>
     have b: ∀n,ex (n+40) (f' d) (a6 (aE 11).body 5) (d_ want got (.own (.str a::r.map .str)) (.int 0) (.int got.length) (I (.str a))) w=I (.ret (.bool aq),d_ want got (.own (.str a::r.map .str)) (.int 0) (.int got.length) (I (.str a)),w):=λn=>by
      refine (h n).trans ?_
      rw[a3 J,ay];rfl
     exact ⟨_,λn=>(pre n).trans (lL b (show 40≤193 by decide) n)⟩
 obtain ⟨σ',key⟩:=key
 rw[uH (by rw[i];rfl),i,bH]
 have:=key n
 unfold f' at this
 rw[this];rfl
end
end Mine
end
noncomputable section
open PySem
namespace Mine
noncomputable def x3 (n acc:Nat):Nat:=Bool.rec acc (Nat.succ acc) (cm 2 n)
def BE (n acc:Nat):Nat:=Bool.rec (x3 n acc) (x3 (lB n 2) (dw acc 2)) (cm 4 n)
def BF (n acc:Nat):Nat:=Bool.rec (BE n acc) (BE (lB n 4) (dw acc 4)) (cm 16 n)
def BG (n acc:Nat):Nat:=Bool.rec (BF n acc) (BF (lB n 8) (dw acc 8)) (cm 256 n)
def BH (n acc:Nat):Nat:=Bool.rec (BG n acc) (BG (lB n 16) (dw acc 16)) (cm 65536 n)
def BI (n acc:Nat):Nat:=Bool.rec (BH n acc) (BH (lB n 32) (dw acc 32)) (cm 4294967296 n)
def G6 (n:Nat):Nat:=Bool.rec (BI n 0) (BI (lB n 64) 64) (cm 18446744073709551616 n)
theorem acr {n k:Nat} (h:2^k≤n):n.log2=(n>>>k).log2+k:=by
 have a5:n≠0:=by have:=eY k;exact j6 (bE (cc h (e8 this)))
 rw[ng]
 have hd:n/2^k≠0:=by
  have:=Sp h (eY k);exact kS this
 rw[DO a5]
 have J:2^(n/2^k).log2≤n/2^k:=(Sq hd).mp (bh _)
 have aa:n/2^k<2^((n/2^k).log2+1):=(Jo hd).mp (gv _)
 constructor
 ·rw[kl]
  exact cG (rR _ J) (Nat.div_mul_le_self n (2^k))
 ·rw[show (n/2^k).log2+k+1=(n/2^k).log2+1+k by exact ug _ _ _,kl]
  exact (akX (eY k)).mp aa
theorem acb {n:Nat} (acc:Nat) (a:n≠0) (h:n<2^2):x3 n acc=n.log2+acc:=by
 unfold x3
 cases ae:cm 2 n with
 |true=>
  have ae:=dV ae
  have:n.log2=1:=(DO a).mpr ⟨ae,h⟩
  exact qN (bE (eq1 this)) (bE (dH this))
 |false=>
  have: ¬2≤n:=λz=>by rw[mn z] at ae;exact bF ae.symm cv
  have:n=1:=by exact qN (bE (Hq this)) (bE (aee a))
  subst this
  have:Nat.log2 1=0:=(DO ar).mpr ⟨by decide,by decide⟩
  rw[this,pj]
theorem vg {f:Nat→Nat→Nat} {k p:Nat} (aC:p=2^k) (a: ∀n acc,n≠0→n<2^k→f n acc=n.log2+acc) {n:Nat} (acc:Nat) (b:n≠0) (h:n<2^(k+k)):
  (Bool.rec (f n acc) (f (lB n k) (dw acc k)) (cm p n):Nat)=n.log2+acc:=by
 subst aC
 cases ae:cm (2^k) n with
 |true=>
  have ae:=dV ae
  show f (n>>>k) (acc+k)=_
  have e:=ng n k
  rw[acr ae,a _ _ (by rw[e];have:=Sp ae (eY k);exact kS this) (by rw[e];apply (akX (eY k)).mpr;rw[←kl];exact h)]
  simp+arith only
 |false=>
  have: ¬2^k≤n:=λz=>by rw[mn z] at ae;exact bF ae.symm cv
  exact a n acc b (by exact vu this)
theorem acd {n:Nat} (acc:Nat) (a:n≠0) (h:n<2^4):BE n acc=n.log2+acc:=vg (f:=x3) (k:=2) ar (λn acc a h=>acb acc a h) acc a h
theorem ace {n:Nat} (acc:Nat) (a:n≠0) (h:n<2^8):BF n acc=n.log2+acc:=vg (f:=BE) (k:=4) ar (λn acc a h=>acd acc a h) acc a h
theorem acf {n:Nat} (acc:Nat) (a:n≠0) (h:n<2^16):BG n acc=n.log2+acc:=vg (f:=BF) (k:=8) ar (λn acc a h=>ace acc a h) acc a h
theorem acg {n:Nat} (acc:Nat) (a:n≠0) (h:n<2^32):BH n acc=n.log2+acc:=vg (f:=BG) (k:=16) ar (λn acc a h=>acf acc a h) acc a h
theorem ach {n:Nat} (acc:Nat) (a:n≠0) (h:n<2^64):BI n acc=n.log2+acc:=vg (f:=BH) (k:=32) ar (λn acc a h=>acg acc a h) acc a h
theorem G7 {n:Nat} (a:n≠0) (h:n<2^128):G6 n=n.log2:=by
 have:=vg (f:=BI) (k:=64) (p:=18446744073709551616) ar (λn acc a h=>ach acc a h) 0 a h
 rw[Nat.add_zero] at this
 exact this
noncomputable def Qv (q r h:Nat):Nat:=Bool.rec (Bool.rec q (dw q (lD q 2)) (dP r h)) (Nat.succ q) (cm (Nat.succ h) r)
def FF (n s:Nat):Nat:=Qv (lB n s) (lD n (hS 1 s)) (hS 1 (eR s 1))
def yr (n G T:Nat):Nat:=dw (gS T 4503599627370496) (Bool.rec (FF n (eR T G)) (hS n (eR G T)) (cm T G))
def n3 (n G:Nat):Nat:=yr n G (eR (dw (G6 n) G) 52)
theorem AW {n d c:Nat} (ag:0<c) (hd:0<d):oe (n*c) (d*c)=oe n d:=by
 unfold oe
 rw[Nat.mul_div_mul_right _ _ ag,Nat.mul_mod_mul_right]
 have a:(2*(n%d*c)>d*c)=(2*(n%d)>d):=by
  rw[←zk]
  exact propext ⟨λh=>Nat.lt_of_mul_lt_mul_right h,λh=>DP h ag⟩
 have b:(2*(n%d*c)==d*c)=(2*(n%d)==d):=by
  rw[←zk,jF]
  simp only[beq_iff_eq]
  exact ⟨λh=>Nat.eq_of_mul_eq_mul_right ag h,λh=>by rw[h]⟩
 simp only[a,b]
theorem ZA {q b:Nat} (ae:0<b):oe (q*b) b=q:=by
 unfold oe
 rw[Nat.mul_div_cancel _ ae,Nat.mul_mod_left]
 have J: ¬(2*0>b):=by exact Nat.not_lt_of_gt ae
 have aa:(2*0==b)=false:=by
  rw[hB];intro h;have:=dp h;exact As (cc (e8 ae) (eq1 this))
 simp[J,aa]
theorem Zj {n s:Nat} (au:0<s):FF n s=oe n (2^s):=by
 have e:hS 1 s=2^s:=by show 1<<<s=_;rw[qO,zl]
 have b:hS 1 (eR s 1)=2^(s-1):=by show 1<<<(s-1)=_;rw[qO,zl]
 have c:lB n s=n/2^s:=ng n s
 have d:lD n (2^s)=n%2^s:=rfl
 have aa:2^s=2*2^(s-1):=by
  have:s=(s-1)+1:=by exact pred_succ au
  rw[this,Nat.pow_succ,Nat.mul_comm];rfl
 unfold FF oe Qv
 rw[e,b,c,d]
 generalize n/2^s=q
 generalize n%2^s=r
 rw[aa]
 generalize 2^(s-1)=k
 by_cases cn:k<r
 ·have:cm (Nat.succ k) r=true:=mn cn
  rw[this]
  have c5:2*r>2*k:=by exact bE (lm 2 (e8 cn))
  simp[c5]
 ·have:cm (Nat.succ k) r=false:=by
   rw[hB];intro h;exact cn (dV h)
  rw[this]
  have c5: ¬2*r>2*k:=λz=>cn (Nat.lt_of_mul_lt_mul_left z)
  by_cases a:r=k
  ·subst a
   have:dP r r=true:=DQ r
   rw[this]
   show q+q%2=_
   rcases akY q with h|h<;>simp[h]
  ·have:dP r k=false:=by
    rw[hB];intro h;exact a (kQ h)
   rw[this]
   have gW: ¬2*r=2*k:=λz=>a (Nat.eq_of_mul_eq_mul_left ar z)
   simp[c5,gW]
theorem roundMag_eq {n G:Nat} (f:n≠0) (a5:n<2^128) (d:G≤1074):uh n (2^(1074-G))=min mq (n3 n G):=by
 have av:(2^(1074-G)).log2=1074-G:=Nat.log2_two_pow
 have a:2^n.log2≤n:=(Sq f).mp (bh _)
 unfold uh
 have ae:(n==0)=false:=by simpa using f
 rw[ae,a3 ar,av]
 dsimp only
 have j:(eZ n (2^(1074-G)) (-((n.log2:Int)-((1074-G:Nat):Int)))).1≥(eZ n (2^(1074-G)) (-((n.log2:Int)-((1074-G:Nat):Int)))).2:=by
  unfold eZ
  by_cases ag:n.log2≤1074-G
  ·rw[a_ (Od ag)]
   have:(-((n.log2:Int)-((1074-G:Nat):Int))).toNat=1074-G-n.log2:=CP _ _
   rw[this]
   show n*2^(1074-G-n.log2)≥2^(1074-G)
   have e:2^(1074-G)=2^n.log2*2^(1074-G-n.log2):=by rw[←kl];congr 1;exact mi (akZ ag)
   rw[e];exact rR _ a
  ·rw[a3 (Oe ag)]
   have:(- -((n.log2:Int)-((1074-G:Nat):Int))).toNat=n.log2-(1074-G):=P' _ _
   rw[this]
   show n≥2^(1074-G)*2^(n.log2-(1074-G))
   rw[←kl]
   have e:1074-G+(n.log2-(1074-G))=n.log2:=zq (r5 ag)
   rw[e];exact a
 rw[a_ j]
 generalize bZ:n.log2+G-52=T
 have he:max ((n.log2:Int)-((1074-G:Nat):Int)-52) (-1074)=(T:Int)-1074:=ac2 d bZ
 rw[he]
 have i:((T:Int)-1074+1074).toNat=T:=aih T 1074
 rw[i]
 refine aQ (min mq) ?_
 unfold n3
 rw[G7 f a5]
 have g:eR (dw n.log2 G) 52=T:=bZ
 rw[g]
 have j_:(2:Nat)^52=4503599627370496:=ar
 rw[j_]
 refine aQ (T*4503599627370496+·) ?_
 have key:oe (eZ n (2^(1074-G)) (-((T:Int)-1074))).1 (eZ n (2^(1074-G)) (-((T:Int)-1074))).2=if T≤G then n*2^(G-T) else oe n (2^(T-G)):=by
  unfold eZ
  by_cases cn:T≤1074
  ·rw[a_ (by exact Od (b:=1074) cn)]
   have:(-((T:Int)-1074)).toNat=1074-T:=CP T 1074
   rw[this]
   dsimp only
   by_cases c5:T≤G
   ·rw[a_ c5]
    have e:n*2^(1074-T)=n*2^(G-T)*2^(1074-G):=by rw[zk,←kl];congr 2;exact s3 c5 d
    rw[e,ZA (eY _)]
   ·rw[a3 c5]
    have e:2^(1074-G)=2^(T-G)*2^(1074-T):=by rw[←kl];congr 1;exact s3 (r5 c5) cn
    rw[e,AW (eY _) (eY _)]
  ·rw[a3 (by exact Oe (b:=1074) cn),a3 (λz=>cn (cG z d))]
   have:(- -((T:Int)-1074)).toNat=T-1074:=P' T 1074
   rw[this]
   dsimp only
   have e:1074-G+(T-1074)=T-G:=(s3 d (r5 cn)).symm
   rw[←kl,e]
 refine Ja key ?_
 by_cases c:T≤G
 ·rw[a_ c,mn c]
  show _=n<<<(G-T)
  rw[qO]
 ·have ae:cm T G=false:=by
   rw[hB];intro h;exact c (dV h)
  rw[a3 c,ae]
  exact (Zj (H_ c)).symm
noncomputable def bS (x:Nat):Nat:=lD (lB x 52) 2048
noncomputable def q7 (x:Nat):Nat:=lD x 4503599627370496
noncomputable def cF (x:Nat):Bool:=dP (lB x 63) 1
def bV (x:Nat):Nat:=Bool.rec (dw 4503599627370496 (q7 x)) (q7 x) (dP (bS x) 0)
def bG (x:Nat):Nat:=eR (bS x) 1
noncomputable def f3 (b:Bool) (m:Nat):Nat:=Bool.rec m (dw 9223372036854775808 m) b
theorem j_:(2:Nat)^52=4503599627370496:=ar
theorem E2:(2:Nat)^63=9223372036854775808:=ar
theorem CQ {x:Nat} (h:x<2^64):(c_ x).toNat=x:=by
 rw[UInt64.toNat_ofNat'];exact DR h
theorem fS {x:Nat} (h:x<2^64) (he:bS x≠2047):mg (c_ x)= .fin (cF x) (bV x) ((bG x:Int)-1074):=by
 unfold mg
 rw[CQ h]
 have J:x/2^52%2048=bS x:=by unfold bS;show _=(x>>>52)%2048;rw[ng]
 have aa:x%2^52=q7 x:=by unfold q7;rw[j_];rfl
 have ay:(x/2^63==1)=cF x:=by
  unfold cF
  have:lB x 63=x/2^63:=ng x 63
  rw[this,jF,beq_iff_eq]
  exact ⟨λh=>by rw[h];rfl,kQ⟩
 rw[J,aa,ay,j_]
 dsimp only
 have ae:(bS x==2047)=false:=by simpa using he
 rw[ae,a3 ar]
 unfold bV bG
 by_cases c:bS x=0
 ·have b1:(bS x==0)=true:=by simpa using c
  have b2:dP (bS x) 0=true:=by rw[c];exact DQ 0
  rw[b1,a_ rfl,b2]
  congr 1
  have:eR (bS x) 1=0:=by rw[c]
  rw[this];rfl
 ·have b1:(bS x==0)=false:=by simpa using c
  have b2:dP (bS x) 0=false:=by
   rw[hB];intro z;exact c (kQ z)
  rw[b1,a3 ar,b2]
  congr 1
  have:eR (bS x) 1=bS x-1:=rfl
  rw[this];exact Wd c
theorem pack_toNat {m:Nat} (h:m<2^63):(DS b m).toNat=f3 b m:=by
 unfold DS f3
 have a:(2:Nat)^64=2*2^63:=ar
 have:((if b then 2^63 else 0)+m)<2^64:=by
  cases b
  ·show 0+m<2^64;rw[pj];exact oh h ar
  ·exact ak0 h
 show (c_ ((if b then 2^63 else 0)+m)).toNat=_
 rw[CQ this]
 cases b
 ·simp
 ·rw[a_ rfl,E2];rfl
theorem B6 {n G:Nat} (d:n≠0) (a5:n<2^128) (a:G≤1074):(ib b n ((G:Int)-1074)).toNat=f3 b (min mq (n3 n G)):=by
 unfold ib DT
 have au:eZ n 1 ((G:Int)-1074)=(n,2^(1074-G)):=by
  unfold eZ
  by_cases c:G=1074
  ·subst c;rw[a_ (by exact Jp _)];simp
  ·rw[a3 (by exact Of (b:=1074) a c)]
   have:(-((G:Int)-1074)).toNat=1074-G:=CP G 1074
   rw[this,zl]
 rw[au]
 dsimp only
 rw[roundMag_eq d a5 a]
 exact pack_toNat (gP (DD _ _) ar)
noncomputable def wW (n:Nat):Nat:=Bool.rec 9218868437227405312 n (cm n 9218868437227405312)
def l? (b:Bool) (n G:Nat):Nat:=f3 b (Nat.rec 0 (λk Z=>wW (n3 (Nat.succ k) G)) n)
def Ep (a b:Bool) (P Q G:Nat):Nat:=
 Bool.rec (Bool.rec (Bool.rec (l? a (eR P Q) G) (l? b (eR Q P) G) (cm P Q)) 0 (dP P Q)) (l? a (dw P Q) G) (Bool.rec (Bool.rec ab aq b) b a)
theorem Kz (n:Nat):wW n=min mq n:=by
 have aI:mq=9218868437227405312:=ar
 rw[aI]
 unfold wW
 by_cases c:n≤9218868437227405312
 ·rw[mn c];exact (ze c).symm
 ·have:cm n 9218868437227405312=false:=by
   rw[hB];intro h;exact c (dV h)
  rw[this];exact (DH (iS (Dq c))).symm
theorem HQ {n G:Nat} (a:n≠0) (a5:n<2^128) (c:G≤1074):(ib b n ((G:Int)-1074)).toNat=l? b n G:=by
 rw[B6 a a5 c]
 unfold l?
 induction n using fJ with
 |zero=>exact bF rfl a
 |succ n=>rw[←Kz]
theorem Rn (b:Bool):(ic b).toNat=f3 b 0:=pack_toNat ar
theorem H4 (b:Bool):cY b 0=0:=by induction b using d1<;>rfl
theorem Pm (b:Bool) {m:Nat} (h:m≠0):(cY b m==0)=aq∧decide (cY b m<0)=b∧(cY b m).natAbs=m:=by
 cases b
 ·exact ⟨beq_eq_false_iff_ne.mpr (ak1.mpr h),f5 (DN _),rfl⟩
 ·exact ⟨beq_eq_false_iff_ne.mpr (Int.neg_ne_zero.mpr (ak1.mpr h)),e1 (akV (lC.mpr (DX h))),Tv m⟩
theorem agw (s:Bool) (P Q:Nat):cY s P+cY s Q=cY s (P+Q):=by
 cases s
 ·rfl
 ·exact (Int.neg_add (a:=P) (b:=Q)).symm
theorem Po (s:Bool) {P Q:Nat} (h:P≤Q):cY s P+cY (!s) Q=cY (!s) (Q-P):=by
 cases s
 ·exact Aa h
 ·exact (ph _ _).trans (w4 h)
theorem agx (s:Bool) {P Q:Nat} (h:Q≤P):cY s P+cY (!s) Q=cY s (P-Q):=by
 cases s
 ·exact w4 h
 ·exact (ph _ _).trans (Aa h)
theorem H3 (s:Bool) {n G:Nat} (z:UInt64) (b:n≠0) (a5:n<2^128) (c:G≤1074):(if cY s n==0 then z else ib (cY s n<0) (cY s n).natAbs ((G:Int)-1074)).toNat=l? s n G:=by
 have a:=Pm s b
 have f1:=a.1
 have f2:=a.2.1
 have dW:=a.2.2
 rw[f1,f2,dW,a3 ar]
 exact HQ b a5 c
theorem JY {P Q G:Nat} (a5:P+Q<2^128) (e:G≤1074):
  (if cY a P+cY b Q==0 then ic (a&&b) else ib (cY a P+cY b Q<0) (cY a P+cY b Q).natAbs ((G:Int)-1074)).toNat=Ep a b P Q G:=by
 have same: ∀(s:Bool),(if cY s P+cY s Q==0 then ic s else ib (cY s P+cY s Q<0) (cY s P+cY s Q).natAbs ((G:Int)-1074)).toNat=l? s (P+Q) G:=λs=>by
  rw[agw]
  by_cases c:P+Q=0
  ·rw[c,H4];exact Rn s
  ·exact H3 s _ c a5 e
 have d: ∀(s:Bool),(if cY s P+cY (!s) Q==0 then ic aq else ib (cY s P+cY (!s) Q<0) (cY s P+cY (!s) Q).natAbs ((G:Int)-1074)).toNat=
   Bool.rec (Bool.rec (l? s (eR P Q) G) (l? (!s) (eR Q P) G) (cm P Q)) 0 (dP P Q):=λs=>by
  by_cases c:P=Q
  ·subst c
   rw[Po s (bh P),zi,H4,DQ]
   exact Rn aq
  ·rw[EB c]
   by_cases c5:P≤Q
   ·rw[mn c5,Po s c5]
    exact H3 _ _ (aef c c5) (agX a5) e
   ·rw[Uv c5,agx s (r5 c5)]
    exact H3 _ _ (aeg c5) (agW a5) e
 induction a using d1<;>cases b
 ·exact same aq
 ·exact d aq
 ·exact d ab
 ·exact same ab
def Eo (a b:Bool) (m k E F:Nat):Nat:=Bool.rec (Ep a b (hS m (eR E F)) k F) (Ep a b m (hS k (eR F E)) E) (cm E F)
theorem nS {x:Nat}:bV x<2^53:=by
 have h:q7 x<4503599627370496:=iC _ ar
 have e:(2:Nat)^53=9007199254740992:=ar
 unfold bV
 cases dP (bS x) 0
 ·show 4503599627370496+q7 x<_;exact ak0 h
 ·show q7 x<_;exact oT h rfl
theorem Pu {m d:Nat} (hm:m<2^53) (hd:d≤70):m*2^d<2^123:=by
 have J:m*2^d<2^53*2^d:=DP hm (eY d)
 have aa:2^53*2^d≤2^53*2^70:=D0 _ (Jq ar hd)
 have ay:(2:Nat)^53*2^70=2^123:=ar
 exact jf J aa
theorem Tz {x y:Nat} (af:x<2^64) (a9:y<2^64) (ex:bS x≤1075) (d:bS y≤1075) (s:bG x-bG y≤70) (n:bG y-bG x≤70):
  (ct (c_ x) (c_ y)).toNat=Eo (cF x) (cF y) (bV x) (bV y) (bG x) (bG y):=by
 unfold ct
 rw[fS af (gK ex rfl),fS a9 (gK d rfl)]
 dsimp only
 have e:=nS (x:=x)
 have i:=nS (x:=y)
 have j:bG x≤1074:=by unfold bG;show bS x-1≤1074;exact ui ex
 have l:bG y≤1074:=by unfold bG;show bS y-1≤1074;exact ui d
 have o:(2:Nat)^123+2^53<2^128:=ar
 clear ex d
 generalize bV x=m at*
 generalize bV y=k at*
 generalize bG x=E at*
 generalize bG y=F at*
 have f: ∀g:Int,∀p q:Nat,g=min ((E:Int)-1074) ((F:Int)-1074)→((E:Int)-1074-g).toNat=p→((F:Int)-1074-g).toNat=q→
   gT (cF x) m ((E:Int)-1074) (cF y) k ((F:Int)-1074)=(cY (cF x) (m*2^p),cY (cF y) (k*2^q),g):=λg p q J aa ay=>by
  unfold gT
  rw[←J]
  subst aa ay
  rfl
 unfold Eo
 by_cases c:E≤F
 ·rw[mn c,f ((E:Int)-1074) 0 (F-E) (Hl _ c) (vZ _ _) (vY _ _ _)]
  have au:hS k (eR F E)=k*2^(F-E):=qO _ _
  have:=Pu i n
  have z:m*2^0=m:=mr _
  have r:=JY (a:=cF x) (b:=cF y) (P:=m*2^0) (Q:=k*2^(F-E)) (G:=E) (by rw[z];exact oh (Nat.add_lt_add e this) ar) j
  refine r.trans ?_
  rw[z,←au]
 ·have ae:cm E F=false:=by
   rw[hB];intro h;exact c (dV h)
  rw[ae,f ((F:Int)-1074) (E-F) 0 (N3 _ c) (vY _ _ _) (vZ _ _)]
  have au:hS m (eR E F)=m*2^(E-F):=qO _ _
  have:=Pu e s
  have z:k*2^0=k:=mr _
  have r:=JY (a:=cF x) (b:=cF y) (P:=m*2^(E-F)) (Q:=k*2^0) (G:=F) (by rw[z];exact oh (Nat.add_lt_add this i) ar) l
  refine r.trans ?_
  rw[z,←au]
def N6 (a b:Bool) (m k S:Nat):Nat:=l? (Bool.rec b (Bool.rec ab aq b) a) (gS m k) (eR S 1074)
theorem ac0 {x y:Nat} (af:x<2^64) (a9:y<2^64) (ex:bS x≠2047) (f:bS y≠2047) (g:bV x*bV y≠0) (d:1074≤bG x+bG y) (b:bG x+bG y≤2148):
  (c8 (c_ x) (c_ y)).toNat=N6 (cF x) (cF y) (bV x) (bV y) (bG x+bG y):=by
 unfold c8
 rw[fS af ex,fS a9 f]
 dsimp only
 have a:=nS (x:=x)
 have h:=nS (x:=y)
 have e:bV x*bV y<2^128:=by
  have J:bV x*bV y<2^53*2^53:=Nat.mul_lt_mul_of_lt_of_lt a h
  have aa:(2:Nat)^53*2^53<2^128:=ar
  exact oT J rfl
 have c:(bG x:Int)-1074+((bG y:Int)-1074)=((bG x+bG y-1074:Nat):Int)-1074:=Tx d
 rw[c,HQ g e (by exact ui b)]
 cases cF x<;>cases cF y<;>rfl
def Ox (x y:Nat):Bool:=Bool.rec aq (Bool.rec aq (Bool.rec aq (cm (eR (bG y) (bG x)) 70) (cm (eR (bG x) (bG y)) 70)) (cm (bS y) 1075)) (cm (bS x) 1075)
def xf (x y:Nat):Nat:=Bool.rec ((ct (c_ x) (c_ y)).toNat) (Eo (cF x) (cF y) (bV x) (bV y) (bG x) (bG y)) (Ox x y)
def Oz (x y:Nat):Bool:=Bool.rec aq (Bool.rec aq (Bool.rec aq (Bool.rec aq (Bool.rec ab aq (dP (gS (bV x) (bV y)) 0)) (cm (dw (bG x) (bG y)) 2148)) (cm 1074 (dw (bG x) (bG y)))) (cm (bS y) 2046)) (cm (bS x) 2046)
def xg (x y:Nat):Nat:=Bool.rec ((c8 (c_ x) (c_ y)).toNat) (N6 (cF x) (cF y) (bV x) (bV y) (dw (bG x) (bG y))) (Oz x y)
def Ff (x:Nat):Nat:=Bool.rec ((C? (c_ x)).toNat) (Nat.xor x 9223372036854775808) (cm (bS x) 2046)
theorem kM (h:(Bool.rec x y b:Bool)=ab) (af:x=aq):b=ab∧y=true:=by
 cases b
 ·rw[af] at h;exact bF h cv
 ·exact ⟨rfl,h⟩
theorem e? (x:UInt64):c_ x.toNat=x:=UInt64.ofNat_toNat
theorem fM (x:UInt64):x.toNat<2^64:=x.toNat_lt
theorem Fc (x y:UInt64):xf x.toNat y.toNat=(ct x y).toNat:=by
 unfold xf
 cases h:Ox x.toNat y.toNat with
 |false=>show (ct (c_ x.toNat) (c_ y.toNat)).toNat=_;rw[e?,e?]
 |true=>
  obtain ⟨J,h⟩:=kM h rfl
  obtain ⟨aa,h⟩:=kM h rfl
  obtain ⟨ay,a⟩:=kM h rfl
  have:=Tz (fM x) (fM y) (dV J) (dV aa) (dV ay) (dV a)
  rw[e?,e?] at this
  exact this.symm
theorem Fe (x y:UInt64):xg x.toNat y.toNat=(c8 x y).toNat:=by
 unfold xg
 cases h:Oz x.toNat y.toNat with
 |false=>show (c8 (c_ x.toNat) (c_ y.toNat)).toNat=_;rw[e?,e?]
 |true=>
  obtain ⟨J,h⟩:=kM h rfl
  obtain ⟨aa,h⟩:=kM h rfl
  obtain ⟨ay,h⟩:=kM h rfl
  obtain ⟨b,a⟩:=kM h rfl
  have b1:=dV J
  have b2:=dV aa
  have d:=dV ay
  have e:=dV b
  have c:bV x.toNat*bV y.toNat≠0:=λz=>by
   have:gS (bV x.toNat) (bV y.toNat)=0:=z
   rw[this] at a;exact bF a cv
  have:=ac0 (fM x) (fM y) (gK b1 rfl) (gK b2 rfl) c d e
  rw[e?,e?] at this
  exact this.symm
theorem X9 (x:UInt64):Ff x.toNat=(C? x).toNat:=by
 unfold Ff
 cases h:cm (bS x.toNat) 2046 with
 |false=>show (C? (c_ x.toNat)).toNat=_;rw[e?]
 |true=>
  have b:=dV h
  have hd:=fS (fM x) (gK b rfl)
  rw[e?] at hd
  show Nat.xor x.toNat 9223372036854775808=_
  unfold C?
  have a5:ak2 x=false:=by unfold ak2;rw[hd]
  rw[a5,a3 ar,UInt64.toNat_xor]
  have:(DS ab 0).toNat=9223372036854775808:=ar
  rw[this]
  rfl
noncomputable def qk (a b:Bool) (P Q:Nat):Bool:=Bool.rec (Bool.rec (cm (Nat.succ P) Q) aq b) (Bool.rec (Bool.rec ab aq (dP (dw P Q) 0)) (cm (Nat.succ Q) P) b) a
noncomputable def w? (a b:Bool) (P Q:Nat):Bool:=Bool.rec (Bool.rec (dP P Q) (dP (dw P Q) 0) b) (Bool.rec (dP (dw P Q) 0) (dP P Q) b) a
def fin2 (x y:Nat):Bool:=Bool.rec aq (cm (bS y) 2046) (cm (bS x) 2046)
noncomputable def ov (f:Bool→Bool→Nat→Nat→Bool) (a b:Bool) (m k E F:Nat):Bool:=Bool.rec (f a b (hS m (eR E F)) k) (f a b m (hS k (eR F E))) (cm E F)
def i4 (x y:Nat):Bool:=Bool.rec (hz (c_ x) (c_ y)==I Ordering.lt) (ov qk (cF x) (cF y) (bV x) (bV y) (bG x) (bG y)) (fin2 x y)
def jX (x y:Nat):Bool:=Bool.rec (hz (c_ x) (c_ y)==I Ordering.eq) (ov w? (cF x) (cF y) (bV x) (bV y) (bG x) (bG y)) (fin2 x y)
theorem VE (p q:Int):(I (compare p q)==I Ordering.lt)=decide (p<q):=by
 rw[jF]
 simp only[beq_iff_eq,RE,decide_eq_true_eq]
 unfold compare instOrdInt compareOfLessAndEq
 dsimp only
 by_cases h:p<q
 ·simp[h]
 ·by_cases aa:p=q<;>simp[h,aa]
theorem VB (p q:Int):(I (compare p q)==I Ordering.eq)=decide (p=q):=by
 rw[jF]
 simp only[beq_iff_eq,RE,decide_eq_true_eq]
 unfold compare instOrdInt compareOfLessAndEq
 dsimp only
 by_cases h:p<q
 ·simp[h];exact Int.ne_of_lt h
 ·by_cases aa:p=q<;>simp[h,aa]
theorem EE (P Q:Nat):cm (Nat.succ P) Q=decide (P<Q):=by
 by_cases c:P<Q
 ·rw[mn c,e1 c]
 ·rw[f5 c,hB];intro h;exact c (dV h)
theorem zV (P Q:Nat):dP P Q=decide (P=Q):=by
 by_cases c:P=Q
 ·subst c;rw[DQ];simp
 ·rw[f5 c,hB];intro h;exact c (kQ h)
theorem acB (a b:Bool) (P Q:Nat):decide (cY a P<cY b Q)=qk a b P Q:=by
 unfold qk cY
 rw[EE,EE,zV]
 induction a using d1<;>cases b
 ·show decide ((P:Int)<(Q:Int))=decide (P<Q)
  simp
 ·show decide ((P:Int)< -(Q:Int))=aq
  rw[hB];simp only[decide_eq_true_eq,ne_eq];exact adL P Q
 ·show decide (-(P:Int)<(Q:Int))=Bool.rec ab aq (decide (P+Q=0))
  by_cases c:P+Q=0
  ·rw[e1 c];exact f5 (adM c)
  ·rw[f5 c];exact e1 (adN c)
 ·show decide (-(P:Int)< -(Q:Int))=decide (Q<P)
  simp
theorem W? (a b:Bool) (P Q:Nat):decide (cY a P=cY b Q)=w? a b P Q:=by
 unfold w? cY
 rw[zV,zV]
 induction a using d1<;>cases b
 ·skip
  rw[jF];simp only[decide_eq_true_eq];exact DY
 ·show decide ((P:Int)= -(Q:Int))=decide (P+Q=0)
  rw[jF];simp only[decide_eq_true_eq];exact K9 P Q
 ·show decide (-(P:Int)=(Q:Int))=decide (P+Q=0)
  rw[jF];simp only[decide_eq_true_eq];exact WC P Q
 ·show decide (-(P:Int)= -(Q:Int))=decide (P=Q)
  rw[jF];simp only[decide_eq_true_eq];exact WD P Q
theorem J3 {m k E F:Nat} (f:Bool→Bool→Nat→Nat→Bool) (g:Int→Int→Bool) (d: ∀a b P Q,g (cY a P) (cY b Q)=f a b P Q):
  g (gT a m ((E:Int)-1074) b k ((F:Int)-1074)).1 (gT a m ((E:Int)-1074) b k ((F:Int)-1074)).2.1=ov f a b m k E F:=by
 have e: ∀g:Int,∀p q:Nat,g=min ((E:Int)-1074) ((F:Int)-1074)→((E:Int)-1074-g).toNat=p→((F:Int)-1074-g).toNat=q→
   gT a m ((E:Int)-1074) b k ((F:Int)-1074)=(cY a (m*2^p),cY b (k*2^q),g):=λg p q J aa ay=>by
  unfold gT
  rw[←J]
  subst aa ay
  rfl
 unfold ov
 by_cases c:E≤F
 ·rw[mn c,e ((E:Int)-1074) 0 (F-E) (Hl _ c) (vZ _ _) (vY _ _ _)]
  have au:hS k (eR F E)=k*2^(F-E):=qO _ _
  have z:m*2^0=m:=mr _
  refine (d a b (m*2^0) (k*2^(F-E))).trans ?_
  rw[z,←au]
 ·have ae:cm E F=false:=by
   rw[hB];intro h;exact c (dV h)
  rw[ae,e ((F:Int)-1074) (E-F) 0 (N3 _ c) (vY _ _ _) (vZ _ _)]
  have au:hS m (eR E F)=m*2^(E-F):=qO _ _
  have z:k*2^0=k:=mr _
  refine (d a b (m*2^(E-F)) (k*2^0)).trans ?_
  rw[z,←au]
theorem Lw {x y:Nat} (h:fin2 x y=ab):bS x≤2046∧bS y≤2046:=by
 obtain ⟨J,aa⟩:=kM h rfl
 exact ⟨dV J,dV aa⟩
theorem Fd (x y:UInt64):i4 x.toNat y.toNat=(hz x y==I Ordering.lt):=by
 unfold i4
 cases h:fin2 x.toNat y.toNat with
 |false=>show (hz (c_ x.toNat) (c_ y.toNat)==I Ordering.lt)=_;rw[e?,e?]
 |true=>
  obtain ⟨J,aa⟩:=Lw h
  have b:=fS (fM x) (gK J rfl)
  have a:=fS (fM y) (gK aa rfl)
  rw[e?] at b a
  show ov qk _ _ _ _ _ _=_
  unfold hz
  rw[b,a]
  exact ((VE _ _).trans (J3 qk (λp q=>decide (p<q)) acB)).symm
theorem ac9 (x y:UInt64):jX x.toNat y.toNat=(hz x y==I Ordering.eq):=by
 unfold jX
 cases h:fin2 x.toNat y.toNat with
 |false=>show (hz (c_ x.toNat) (c_ y.toNat)==I Ordering.eq)=_;rw[e?,e?]
 |true=>
  obtain ⟨J,aa⟩:=Lw h
  have b:=fS (fM x) (gK J rfl)
  have a:=fS (fM y) (gK aa rfl)
  rw[e?] at b a
  show ov w? _ _ _ _ _ _=_
  unfold hz
  rw[b,a]
  exact ((VB _ _).trans (J3 w? (λp q=>decide (p=q)) W?)).symm
noncomputable def st {α:Type} (n:Nat) (f:Nat→α):α:=Nat.rec (f 0) (λk Z=>f (Nat.succ k)) n
theorem bu (n:Nat) (f:Nat→α):st n f=f n:=by induction n using fJ<;>rfl
noncomputable def Qu (q r d:Nat):Nat:=Bool.rec (Bool.rec q (dw q (lD q 2)) (dP r d)) (Nat.succ q) (cm (Nat.succ d) r)
def hDiv (n d:Nat):Nat:=Qu (Nat.div n d) (gS 2 (lD n d)) d
theorem Zi (n d:Nat):hDiv n d=oe n d:=by
 unfold hDiv Qu oe
 rw[EE,zV]
 have a:Nat.div n d=n/d:=rfl
 have b:gS 2 (lD n d)=2*(n%d):=rfl
 rw[a,b]
 generalize n/d=q
 generalize n%d=r
 by_cases cn:d<2*r
 ·rw[e1 cn]
  have:2*r>d:=cn
  simp[this]
 ·rw[f5 cn]
  have cP: ¬2*r>d:=cn
  by_cases c5:2*r=d
  ·rw[e1 c5]
   show q+q%2=_
   rcases akY q with h|h<;>simp[cP,c5,h]
  ·rw[f5 c5]
   simp[cP,c5]
theorem G9 {m:Nat} (J:2^52≤m) (aa:m<2^53) (j:Nat):(m*2^j).log2=52+j:=by
 have a:m*2^j≠0:=by
  have:=Sr (show 0<m by exact Ss J) (eY j);exact kS this
 rw[DO a]
 constructor
 ·rw[kl];exact rR _ J
 ·rw[show 52+j+1=53+j by exact ug _ _ _,kl];exact DP aa (eY j)
def Ac (m k E F:Nat):Nat:=Bool.rec
 (dw (gS (eR (dw E 1021) F) 4503599627370496) (hDiv (hS m 53) k))
 (dw (gS (eR (dw E 1022) F) 4503599627370496) (hDiv (hS m 52) k)) (cm k m)
theorem shift_pos {n d:Nat} {k:Int} {j:Nat} (h:k=j):eZ n d k=(n*2^j,d):=by
 subst h
 unfold eZ
 rw[a_ (by exact og _)]
 rfl
theorem yy {n d:Nat} {k:Int} {j:Nat} (h:k= -(j:Int)) (a:0<j):eZ n d k=(n,d*2^j):=by
 subst h
 unfold eZ
 rw[a3 (adK a)]
 have:(- -(j:Int)).toNat=j:=by rw[Int.neg_neg];rfl
 rw[this]
theorem afS {m k E F:Nat} (b4:2^52≤m) (o:m<2^53) (bp:2^52≤k) (bK:k<2^53) (jS:F≤E+1021):
  uh (eZ m k ((E:Int)-F)).1 (eZ m k ((E:Int)-F)).2=min mq (Ac m k E F):=by
 have i: ∃p q:Nat,eZ m k ((E:Int)-F)=(m*2^p,k*2^q)∧(p:Int)-q=(E:Int)-F∧(p=0∨q=0):=by
  by_cases c:F≤E
  ·exact ⟨E-F,0,by rw[shift_pos (j:=E-F) (by exact mi (oc c)),uj,mr],(wy _).trans (w4 c).symm,.inr rfl⟩
  ·exact ⟨0,F-E,by rw[yy (j:=F-E) (K0 c) (H_ c),uj,mr],(Int.zero_sub _).trans (K0 c).symm,.inl rfl⟩
 obtain ⟨p,q,au,a,bH⟩:=i
 rw[au]
 dsimp only
 have g:0<m:=by have:=eY 52;exact Ss b4
 have d:0<k:=by have:=eY 52;exact Ss bp
 unfold uh
 have l:(m*2^p==0)=false:=by
  rw[hB];intro h;have:=dp h
  exact bF this (j6 (Sr g (eY p)))
 rw[l,a3 ar,G9 b4 o,G9 bp bK]
 dsimp only
 have n:((52+p:Nat):Int)-((52+q:Nat):Int)=(E:Int)-F:=(UQ 52 p q).trans a
 rw[n]
 have f:((eZ (m*2^p) (k*2^q) (-((E:Int)-F))).1≥(eZ (m*2^p) (k*2^q) (-((E:Int)-F))).2)↔k≤m:=by
  rcases bH with rfl|rfl
  ·rw[shift_pos (j:=q) (by rw[←a];exact ad1 q)]
   show k*2^q≤m*2^0*2^q↔_
   rw[uj,mr]
   exact ak3 (eY q)
  ·by_cases aC:p=0
   ·subst aC
    rw[shift_pos (j:=0) (by rw[←a];rfl)]
    show k*2^0≤m*2^0*2^0↔_
    simp
   ·rw[yy (j:=p) (by rw[←a];exact adX p) (by exact Nat.zero_lt_of_ne_zero aC)]
    show k*2^0*2^p≤m*2^p↔_
    rw[uj,mr]
    exact ak3 (eY p)
 have last: ∀s:Nat,(s=52∨s=53)→oe (eZ (m*2^p) (k*2^q) (-((E:Int)-F-s))).1 (eZ (m*2^p) (k*2^q) (-((E:Int)-F-s))).2=hDiv (hS m s) k:=λs t=>by
  have r:hS m s=m*2^s:=qO _ _
  rw[Zi,r]
  rcases bH with rfl|rfl
  ·rw[shift_pos (j:=q+s) (by rw[←a];exact adY q s)]
   dsimp only
   rw[uj,mr,kl,←zk,Su]
   exact AW (eY q) d
  ·rw[uj,mr]
   by_cases aC:p≤s
   ·rw[shift_pos (j:=s-p) (by rw[←a];exact adZ aC)]
    dsimp only
    rw[zk,←kl]
    have:p+(s-p)=s:=by exact akZ aC
    rw[this]
   ·rw[yy (j:=p-s) (by rw[←a];exact ad0 aC) (H_ aC)]
    dsimp only
    have e:m*2^p=m*2^s*2^(p-s):=by
     rw[zk,←kl]
     have:s+(p-s)=p:=ahf aC
     rw[this]
    rw[e]
    exact AW (eY _) d
 unfold Ac
 by_cases c:k≤m
 ·rw[a_ (f.mpr c),mn c]
  have he:max ((E:Int)-F-52) (-1074)=(E:Int)-F-((52:Nat):Int):=N7 52 jS rfl
  rw[he]
  refine aQ (min mq) ?_
  rw[last 52 (.inl rfl)]
  have b:((E:Int)-F-((52:Nat):Int)+1074).toNat=E+1022-F:=P0 E F _ _ rfl
  rw[b,j_]
  rfl
 ·have ae:cm k m=false:=by
   rw[hB];intro h;exact c (dV h)
  rw[a3 (λh=>c (f.mp h)),ae]
  have he:max ((E:Int)-F-53) (-1074)=(E:Int)-F-((53:Nat):Int):=N7 53 jS rfl
  rw[he]
  refine aQ (min mq) ?_
  rw[last 53 (.inr rfl)]
  have b:((E:Int)-F-((53:Nat):Int)+1074).toNat=E+1021-F:=P0 E F _ _ rfl
  rw[b,j_]
  rfl
def Oy (x y:Nat):Bool:=Bool.rec aq (Bool.rec aq (Bool.rec aq (Bool.rec aq (cm (bG y) (dw (bG x) 1021)) (cm (bS y) 2046)) (cm (bS x) 2046)) (cm 1 (bS y))) (cm 1 (bS x))
def Ar (x y:Nat):Nat:=Bool.rec ((d' (c_ x) (c_ y)).toNat) (f3 (Bool.rec (cF y) (Bool.rec ab aq (cF y)) (cF x)) (wW (Ac (bV x) (bV y) (bG x) (bG y)))) (Oy x y)
theorem mR {x:Nat} (h:1≤bS x):2^52≤bV x:=by
 unfold bV
 have:dP (bS x) 0=false:=by
  exact EB (j6 h)
 rw[this,j_]
 exact gw _ _
theorem Wh {x y:Nat} (af:x<2^64) (a9:y<2^64) (c:1≤bS x) (jC:1≤bS y) (d:bS x≤2046) (qG:bS y≤2046) (jS:bG y≤bG x+1021):
  (d' (c_ x) (c_ y)).toNat=f3 (Bool.rec (cF y) (Bool.rec ab aq (cF y)) (cF x)) (wW (Ac (bV x) (bV y) (bG x) (bG y))):=by
 unfold d'
 rw[fS af (gK d rfl),fS a9 (gK qG rfl)]
 dsimp only
 have b:=nS (x:=x)
 have f:=nS (x:=y)
 have e:=mR c
 have a:=mR jC
 generalize bV x=m at*
 generalize bV y=k at*
 generalize bG x=E at*
 generalize bG y=F at*
 have av:(k==0)=false:=by
  exact beq_eq_false_iff_ne.mpr (j6 (jf (eY 52) a))
 rw[av,a3 ar]
 have he:(E:Int)-1074-((F:Int)-1074)=(E:Int)-F:=Pb _ _ _
 rw[he]
 unfold DT
 rw[afS e b a f jS,pack_toNat (gP (DD _ _) ar),←Kz]
 cases cF x<;>cases cF y<;>rfl
theorem Lr (x y:UInt64):Ar x.toNat y.toNat=(d' x y).toNat:=by
 unfold Ar
 cases h:Oy x.toNat y.toNat with
 |false=>show (d' (c_ x.toNat) (c_ y.toNat)).toNat=_;rw[e?,e?]
 |true=>
  obtain ⟨J,h⟩:=kM h rfl
  obtain ⟨aa,h⟩:=kM h rfl
  have a:=kM h rfl
  have ay:=a.1
  have h:=a.2
  have b:=kM h rfl
  have c:=b.1
  have d:=b.2
  have:=Wh (fM x) (fM y) (dV J) (dV aa) (dV ay) (dV c) (dV d)
  rw[e?,e?] at this
  exact this.symm
noncomputable abbrev fN:Nat:=4607182418800017408
theorem Pg {m E:Nat} (J:2^52≤m) (aa:m<2^53) (c6:E≤1074):n3 m E=E*4503599627370496+m:=by
 unfold n3
 have a:m≠0:=by have:=eY 52;exact kS J
 have ae:(2:Nat)^53<2^128:=ar
 rw[G7 a (by exact oT aa rfl)]
 have:m.log2=52:=by
  have:=G9 J aa 0
  rw[uj,mr] at this
  exact this
 rw[this]
 have bZ:eR (dw 52 E) 52=E:=by show 52+E-52=E;exact akO _ _
 rw[bZ]
 unfold yr
 rw[mn (bh E)]
 have:eR E E=0:=zi E
 rw[this]
 rfl
theorem EH (x:Nat):4503599627370496*(2048*(x/9223372036854775808)+x/4503599627370496%2048)+x%4503599627370496=x:=by
 rw[show x/9223372036854775808=x/4503599627370496/2048 from (Nat.div_div_eq_div_mul x 4503599627370496 2048).symm,ak4,ak4]
theorem Kr (h:1≤e):(e-1)*M+(M+r)=M*e+r:=by
 induction e using fJ with
 |zero=>cases h
 |succ k=>exact (I3 _ _ _).symm.trans (aQ (·+r) (by rw[Nat.mul_comm M,Nat.succ_mul];rfl))
theorem UI {x:Nat} (af:x<18446744073709551616) (h: ¬x/9223372036854775808=1):x/9223372036854775808=0:=
 match x/9223372036854775808,Sv (k:=2) af,h with
 |0,_,_=>rfl
 |1,_,h=>bF rfl h
theorem Kl {x:Nat} (af:x<2^64) (J:1≤bS x) (aa:bS x≤2046):f3 (cF x) (bG x*4503599627370496+bV x)=x:=by
 have g:x>>>52=x/2^52:=ng x 52
 have au:x>>>63=x/2^63:=ng x 63
 have f:(2:Nat)^64=18446744073709551616:=ar
 rw[E2] at au
 rw[f] at af
 have ae:dP (bS x) 0=false:=by
  exact EB (j6 J)
 have b:bS x=x/4503599627370496%2048:=by
  show (x>>>52)%2048=_
  rw[g,j_]
 have e:bV x=4503599627370496+x%4503599627370496:=by
  unfold bV;rw[ae];rfl
 have d:bG x=bS x-1:=rfl
 cases a:cF x with
 |false=>
  have c: ¬x/9223372036854775808=1:=λz=>by
   unfold cF at a
   have:lB x 63=1:=au.trans z
   rw[this] at a;exact bF a.symm cv
  show bG x*4503599627370496+bV x=x
  rw[e,d,Kr J,b]
  have:=EH x
  rwa [UI af c,Nat.mul_zero,pj] at this
 |true=>
  have c:x/9223372036854775808=1:=by
   unfold cF at a
   have:lB x 63=1:=kQ a
   rw[←au];exact this
  show 9223372036854775808+(bG x*4503599627370496+bV x)=x
  rw[e,d,Kr J,b]
  have:=EH x
  rw[c,Nat.mul_add] at this
  exact (I3 _ _ _).symm.trans this
theorem Uu {x:Nat} (af:x<2^64) (au:cF x=aq) (J:1≤bS x) (aa:bS x≤2046):bG x*4503599627370496+bV x=x:=by
 have:=Kl af J aa
 rw[au] at this
 exact this
theorem HA:bS fN=1023∧cF fN=aq∧bV fN=4503599627370496∧bG fN=1022:=by
 refine ⟨?_,?_,?_,?_⟩<;>decide+kernel
theorem toNat_inj {a b:UInt64} (h:a.toNat=b.toNat):a=b:=UInt64.toNat_inj.mp h
theorem Yl {x:Nat} (af:x<2^64) (au:cF x=aq) (J:1≤bS x) (aa:bS x≤1022):uk (c_ x) (c_ fN)=c_ x:=by
 obtain ⟨e,d,f,i⟩:=HA
 have c:=mR J
 have a:=nS (x:=x)
 have ae:=Uu af au J (by exact cW aa rfl)
 have c6:bG x≤1021:=by show bS x-1≤1021;exact ui aa
 unfold uk
 rw[fS af (gK aa rfl),fS (x:=fN) ar (gK (dH e) rfl),au,d,f,i]
 dsimp only
 rw[a3 ar]
 have h:gT aq (bV x) ((bG x:Int)-1074) aq 4503599627370496 (((1022:Nat):Int)-1074)=(cY aq (bV x),cY aq (4503599627370496*2^(1022-bG x)),(bG x:Int)-1074):=by
  unfold gT
  have g:min ((bG x:Int)-1074) (((1022:Nat):Int)-1074)=(bG x:Int)-1074:=N4 _ (cW c6 rfl)
  rw[g]
  have a1:((bG x:Int)-1074-((bG x:Int)-1074)).toNat=0:=vZ _ _
  have a2:(((1022:Nat):Int)-1074-((bG x:Int)-1074)).toNat=1022-bG x:=vY _ _ _
  show (cY aq (bV x*2^((bG x:Int)-1074-((bG x:Int)-1074)).toNat),cY aq (4503599627370496*2^(((1022:Nat):Int)-1074-((bG x:Int)-1074)).toNat),(bG x:Int)-1074)=_
  rw[a1,a2]
  have:bV x*2^0=bV x:=mr _
  rw[this]
 rw[h]
 dsimp only
 have p1:(cY aq (bV x)).toNat=bV x:=rfl
 have p2:(cY aq (4503599627370496*2^(1022-bG x))).toNat=4503599627370496*2^(1022-bG x):=rfl
 rw[p1,p2]
 have b:bV x<4503599627370496*2^(1022-bG x):=by
  have:2^1≤2^(1022-bG x):=Jq ar (JA (ke c6 rfl))
  have j:(2:Nat)^53=4503599627370496*2^1:=ar
  have:=D0 4503599627370496 this
  exact jf a this
 rw[DR b]
 apply toNat_inj
 have k:(2:Nat)^53<2^128:=ar
 rw[B6 (by have:=eY 52;exact kS c) (by exact oT a rfl) (by exact cW c6 rfl),Pg c a (by exact cW c6 rfl),ae,CQ af]
 have:x≤mq:=by
  have aI:mq=9218868437227405312:=ar
  rw[aI,←ae]
  exact cG (m_ (rR _ c6) (iS a)) ar
 rw[ze this]
 rfl
theorem afH {x:Nat} (af:x<2^64) (au:cF x=aq) (J:1≤bS x) (aa:bS x≤1022):(jG (c_ x) (c_ fN)).snd=c_ x:=by
 have d:=mR J
 have hd:=fS af (gK aa rfl)
 have bH:kT (c_ x)=false:=by
  unfold kT
  rw[hd]
  have:bV x≠0:=by have:=eY 52;exact kS d
  cases hm:bV x with
  |zero=>exact bF hm this
  |succ n=>rfl
 have e:zm (c_ fN) (ic aq)=false:=bx
 have f:zm (c_ x) (ic aq)=false:=by
  have:=Fd (c_ x) (ic aq)
  unfold zm
  rw[←this,CQ af]
  have z:(ic aq).toNat=0:=ar
  rw[z]
  unfold i4
  have c:fin2 x 0=true:=by
   unfold fin2
   have a:cm (bS x) 2046=true:=mn (by exact cW aa rfl)
   have b:cm (bS 0) 2046=true:=bx
   rw[a,b]
  rw[c]
  show ov qk (cF x) (cF 0) (bV x) (bV 0) (bG x) (bG 0)=aq
  have s0:cF 0=false:=bx
  have m0:bV 0=0:=bx
  rw[au,s0,m0]
  unfold ov qk
  have g: ∀n,hS 0 n=0:=λn=>by show 0<<<n=0;simp
  cases cm (bG x) (bG 0)
  ·show cm (Nat.succ _) 0=aq;rfl
  ·show cm (Nat.succ _) (hS 0 _)=aq;rw[g];rfl
 unfold jG
 rw[Yl af au J aa]
 dsimp only
 rw[bH,e,f]
 rfl
def ye (x:Nat):Bool:=Bool.rec (Bool.rec aq (cm (bS x) 1022) (cm 1 (bS x))) aq (cF x)
def gk (x:Nat):Nat:=Bool.rec ((jG (c_ x) (c_ fN)).snd.toNat) x (ye x)
theorem Fg (x:UInt64):gk x.toNat=(jG x (c_ fN)).snd.toNat:=by
 unfold gk
 cases h:ye x.toNat with
 |false=>show (jG (c_ x.toNat) (c_ fN)).snd.toNat=_;rw[e?]
 |true=>
  unfold ye at h
  cases au:cF x.toNat with
  |true=>rw[au] at h;exact bF h cv
  |false=>
   rw[au] at h
   obtain ⟨J,aa⟩:=kM h rfl
   have:=afH (fM x) au (dV J) (dV aa)
   rw[e?] at this
   rw[this]
theorem NI {n c:Nat} (h:n≠0):(n*2^c).log2=n.log2+c:=by
 have J:n*2^c≠0:=Jr h (by have:=eY c;exact kS this)
 rw[DO J]
 have aa:2^n.log2≤n:=(Sq h).mp (bh _)
 have ay:n<2^(n.log2+1):=(Jo h).mp (gv _)
 constructor
 ·rw[kl];exact rR _ aa
 ·rw[show n.log2+c+1=n.log2+1+c by exact ug _ _ _,kl]
  exact DP ay (eY c)
theorem Pt (n d c:Nat) (k:Int):eZ (n*2^c) (d*2^c) k=((eZ n d k).1*2^c,(eZ n d k).2*2^c):=by
 unfold eZ
 split
 ·rw[Su]
 ·rw[Su]
theorem agG {n d:Nat} {k:Int} (hd:0<d):0<(eZ n d k).2:=by
 unfold eZ
 split
 ·exact hd
 ·exact Sr hd (eY _)
theorem afT {n d:Nat} (c:Nat) (a5:n≠0) (hd:d≠0):uh (n*2^c) (d*2^c)=uh n d:=by
 have f:n*2^c≠0:=Jr a5 (by have:=eY c;exact kS this)
 unfold uh
 have a:(n*2^c==0)=false:=by simpa using f
 have b:(n==0)=false:=by simpa using a5
 rw[a,b,NI a5,NI hd]
 have g:((n.log2+c:Nat):Int)-((d.log2+c:Nat):Int)=(n.log2:Int)-(d.log2:Int):=UR c _ _
 rw[g,a3 ar,a3 ar]
 dsimp only
 rw[Pt]
 generalize i:(n.log2:Int)-(d.log2:Int)=l
 have ag:((eZ n d (-l)).1*2^c≥(eZ n d (-l)).2*2^c)=((eZ n d (-l)).1≥(eZ n d (-l)).2):=propext ⟨λh=>Nat.le_of_mul_le_mul_right h (eY c),λh=>rR _ h⟩
 simp only[ag]
 generalize max (if (eZ n d (-l)).1≥(eZ n d (-l)).2 then l-52 else l-53) (-1074)=e
 rw[Pt]
 rw[AW (eY c) (agG (DX hd))]
theorem aeo {m E:Nat} (hm:m≠0) (c6:E≤1074):ib a (m*2^E) (-1074)=ib a m ((E:Int)-1074):=by
 unfold ib DT
 have s1:eZ (m*2^E) 1 (-1074)=(m*2^E,1*2^1074):=yy (j:=1074) (by rfl) ar
 have s2:eZ m 1 ((E:Int)-1074)=(m,2^(1074-E)):=by
  by_cases c:E=1074
  ·subst c;rw[shift_pos (j:=0) (by rfl)];simp
  ·rw[yy (j:=1074-E) (by exact Aa (b:=E) (a:=1074) c6) (JA (akL c6 c)),zl]
 rw[s1,s2]
 dsimp only
 have e:1*2^1074=2^(1074-E)*2^E:=by rw[zl,←kl];congr 1;exact (Dn c6).symm
 rw[e,afT E hm (by have:=eY (1074-E);exact kS this)]
theorem Ou {x:Nat} (af:x<2^64) (J:1≤bS x) (aa:bS x≤1075):(ib (cF x) (bV x) ((bG x:Int)-1074)).toNat=x:=by
 have b:=mR J
 have a:=nS (x:=x)
 have c6:bG x≤1074:=by show bS x-1≤1074;exact ui aa
 have d:(2:Nat)^53<2^128:=ar
 rw[B6 (by have:=eY 52;exact kS b) (by exact oT a rfl) c6,Pg b a c6]
 have ae:=Kl af J (by exact cW aa rfl)
 have:bG x*4503599627370496+bV x≤mq:=by
  have aI:mq=9218868437227405312:=ar
  rw[aI]
  have c:(2:Nat)^53=9007199254740992:=ar
  exact bE (cc (cc (e8 a) (lm 4503599627370496 c6)) (dH c))
 rw[ze this]
 exact ae
noncomputable def iM (x:Nat):Bool:=Bool.rec (dP x 9223372036854775808) ab (dP x 0)
def tr (x:Nat):Bool:=Bool.rec aq (cm (bS x) 1075) (cm 1 (bS x))
def tR (x y:Nat):Nat:=Bool.rec (Bool.rec 0 9223372036854775808 (cF y)) (Bool.rec 9223372036854775808 0 (cF y)) (cF x)
def f? (x y:Nat):Nat:=Bool.rec (Bool.rec (xf x y) (Bool.rec (xf x y) y (tr y)) (iM x)) (Bool.rec (xf x y) x (tr x)) (iM y)
def fA (x y:Nat):Nat:=f? x (Ff y)
def g4 (x y:Nat):Nat:=Bool.rec (Bool.rec (xg x y) (Bool.rec (xg x y) (tR x y) (cm (bS y) 2046)) (iM x)) (Bool.rec (xg x y) (tR x y) (cm (bS x) 2046)) (iM y)
def lO (x y:Nat):Nat:=Bool.rec (Ar x y) (Bool.rec (Ar x y) (tR x y) (tr y)) (iM x)
theorem tk {x:Nat} (h:iM x=ab):bV x=0∧bS x=0∧bG x=0:=by
 unfold iM at h
 cases h0:dP x 0 with
 |true=>
  have:=kQ h0
  subst this
  refine ⟨?_,?_,?_⟩<;>decide+kernel
 |false=>
  rw[h0] at h
  have:x=9223372036854775808:=kQ h
  subst this
  refine ⟨?_,?_,?_⟩<;>decide+kernel
theorem Hi {x:Nat} (h:tr x=ab):1≤bS x∧bS x≤1075:=by
 obtain ⟨J,aa⟩:=kM h rfl
 exact ⟨dV J,dV aa⟩
theorem J2 (a b:Bool) (m k:Nat) (e f:Int):gT a m e b k f=((gT b k f a m e).2.1,(gT b k f a m e).1,(gT b k f a m e).2.2):=by
 unfold gT
 rw[Int.min_comm e f]
theorem TC (a b:Bool) (m E:Nat):gT a m ((E:Int)-1074) b 0 (((0:Nat):Int)-1074)=(cY a (m*2^E),0,-1074):=by
 unfold gT
 have g:min ((E:Int)-1074) (((0:Nat):Int)-1074)= -1074:=(aku (Jb (og E) 1074)).trans rfl
 rw[g]
 have a1:((E:Int)-1074-(-1074)).toNat=E:=by rw[DW,RT];rfl
 show (cY a (m*2^((E:Int)-1074-(-1074)).toNat),cY b (0*2^(((0:Nat):Int)-1074-(-1074)).toNat),(-1074:Int))=_
 rw[a1,Js,H4]
theorem Es {m k:Nat} {e f:Int} (dx:mg x= .fin a m e) (c:mg y= .fin b k f):ct x y=if (gT a m e b k f).1+(gT a m e b k f).2.1==0 then ic (a&&b) else ib ((gT a m e b k f).1+(gT a m e b k f).2.1<0) ((gT a m e b k f).1+(gT a m e b k f).2.1).natAbs (gT a m e b k f).2.2:=by
 unfold ct
 rw[dx,c]
theorem J0 {x y:Nat} (af:x<2^64) (a9:y<2^64) (J:1≤bS x) (aa:bS x≤1075) (z:iM y=ab):(ct (c_ x) (c_ y)).toNat=x:=by
 obtain ⟨jC,qG,C4⟩:=tk z
 have f:=mR J
 have c6:bG x≤1074:=by show bS x-1≤1074;exact ui aa
 have hm:bV x≠0:=by have:=eY 52;exact kS f
 have dx:=fS af (gK aa rfl)
 have c:=fS a9 (gK (dH qG) rfl)
 rw[jC,C4] at c
 have b:bV x*2^bG x≠0:=Jr hm (by have:=eY (bG x);exact kS this)
 have au:=aeo (a:=cF x) hm c6
 have e:=Es dx c
 rw[TC] at e
 generalize bV x*2^bG x=q at e b au
 obtain ⟨f1,f2,dW⟩:=Pm (cF x) b
 have d:ct (c_ x) (c_ y)=if (cY (cF x) q+0==0)=ab then ic (cF x&&cF y) else ib (decide (cY (cF x) q+0<0)) (cY (cF x) q+0).natAbs (-1074):=e
 rw[d,Int.add_zero,f1,f2,dW,a3 ar,au]
 exact Ou af J aa
theorem TA (af:bS x.toNat≤2046) (a9:bS y.toNat≤2046):ct x y=ct y x:=by
 have dx:=fS (fM x) (gK af rfl)
 have a:=fS (fM y) (gK a9 rfl)
 rw[e?] at dx a
 rw[Es dx a,Es a dx,J2]
 generalize gT (cF y.toNat) (bV y.toNat) ((bG y.toNat:Int)-1074) (cF x.toNat) (bV x.toNat) ((bG x.toNat:Int)-1074)=p
 obtain ⟨p,q,g⟩:=p
 rw[ph q p,Bool.and_comm]
theorem h1 (x y:UInt64):f? x.toNat y.toNat=(ct x y).toNat:=by
 unfold f?
 cases a9:iM y.toNat with
 |true=>
  cases hm:tr x.toNat with
  |false=>exact Fc x y
  |true=>
   obtain ⟨a,b⟩:=Hi hm
   have:=J0 (fM x) (fM y) a b a9
   rw[e?,e?] at this
   exact this.symm
 |false=>
  cases af:iM x.toNat with
  |false=>exact Fc x y
  |true=>
   cases hm:tr y.toNat with
   |false=>exact Fc x y
   |true=>
    obtain ⟨a,b⟩:=Hi hm
    have:=J0 (fM y) (fM x) a b af
    rw[e?,e?] at this
    have c:=tk af
    have z:=c.2.1
    exact (TA (by exact cW (dH z) rfl) (by exact cW b rfl))▸this.symm
theorem gm (x y:UInt64):fA x.toNat y.toNat=(b! x y).toNat:=by
 unfold fA b!
 rw[X9,h1]
theorem Ov (b:Bool) (e:Int):ib b 0 e=ic b:=by
 unfold ib DT ic
 have:(eZ 0 1 e).1=0:=by
  unfold eZ
  split
  ·exact Js _
  ·rfl
 have h: ∀p:Nat×Nat,p.1=0→(match p with|(n,d)=>DS b (uh n d))=DS b 0:=λp aC=>by
  obtain ⟨n,d⟩:=p
  have aC:n=0:=aC
  subst aC
  rfl
 exact h _ this
theorem Pp (x y:Nat):tR x y=(ic (cF x !=cF y)).toNat:=by
 unfold tR
 cases cF x<;>cases cF y<;>decide+kernel
theorem jl (x y:UInt64):g4 x.toNat y.toNat=(c8 x y).toNat:=by
 have key:bS x.toNat≤2046→bS y.toNat≤2046→bV x.toNat*bV y.toNat=0→tR x.toNat y.toNat=(c8 x y).toNat:=λaf a9 bH=>by
  have dx:=fS (fM x) (gK af rfl)
  have e:=fS (fM y) (gK a9 rfl)
  rw[e?] at dx e
  unfold c8
  rw[dx,e]
  dsimp only
  rw[bH,Ov,Pp]
 unfold g4
 cases a9:iM y.toNat with
 |true=>
  obtain ⟨a,b,c⟩:=tk a9
  cases ae:cm (bS x.toNat) 2046 with
  |false=>exact Fe x y
  |true=>exact key (dV ae) (by exact cW (dH b) rfl) (by rw[a,Nat.mul_zero])
 |false=>
  cases af:iM x.toNat with
  |false=>exact Fe x y
  |true=>
   have d:=tk af
   have a:=d.1
   have b:=d.2.1
   have c:=d.2.2
   cases ae:cm (bS y.toNat) 2046 with
   |false=>exact Fe x y
   |true=>exact key (by exact cW (dH b) rfl) (dV ae) (by rw[a,Js])
theorem p4 (x y:UInt64):lO x.toNat y.toNat=(d' x y).toNat:=by
 unfold lO
 cases af:iM x.toNat with
 |false=>exact Lr x y
 |true=>
  have d:=tk af
  have a:=d.1
  have b:=d.2.1
  have c:=d.2.2
  cases hm:tr y.toNat with
  |false=>exact Lr x y
  |true=>
   obtain ⟨b4,h⟩:=Hi hm
   have f:=mR b4
   have av:bV y.toNat≠0:=by have:=eY 52;exact kS f
   have dx:=fS (fM x) (gK (dH b) rfl)
   have e:=fS (fM y) (gK h rfl)
   rw[e?] at dx e
   show tR x.toNat y.toNat=_
   unfold d'
   rw[dx,e,a]
   dsimp only
   have g:(bV y.toNat==0)=false:=by simpa using av
   rw[g,a3 ar,Pp]
   unfold DT ic
   have: ∀k:Int,(eZ 0 (bV y.toNat) k).1=0:=λk=>by
    unfold eZ
    split
    ·exact Js _
    ·rfl
   rw[this]
   rfl
theorem X? {v:UInt64} (J:4503599627370496≤v.toNat) (aa:v.toNat<9223372036854775808):1≤bS v.toNat∧cF v.toNat=false:=by
 have a:v.toNat/4503599627370496<2048:=Sv aa
 refine ⟨?_,?_⟩
 ·show 1≤(v.toNat>>>52)%2048
  rw[ng,j_,DR a]
  exact Sp J ar
 ·show dP (v.toNat>>>63) 1=aq
  rw[ng,E2,Nat.div_eq_of_lt aa]
  rfl
theorem Ol (J:1≤bS v.toNat) (aa:bS v.toNat≤2046):kT v=false:=by
 have hd:=fS (fM v) (gK aa rfl)
 rw[e?] at hd
 have a:=mR J
 unfold kT
 rw[hd]
 have:bV v.toNat≠0:=by have:=eY 52;exact kS a
 cases hm:bV v.toNat with
 |zero=>exact bF hm this
 |succ n=>rfl
theorem NN (J:1≤bS v.toNat) (aa:bS v.toNat≤2046):zm v (ic aq)=cF v.toNat:=by
 have i:=mR J
 have e:bV v.toNat≠0:=by have:=eY 52;exact kS i
 have:=Fd v (ic aq)
 unfold zm
 rw[←this]
 have z:(ic aq).toNat=0:=ar
 rw[z]
 unfold i4
 have g:fin2 v.toNat 0=true:=by
  unfold fin2
  have a:cm (bS v.toNat) 2046=true:=mn aa
  have b:cm (bS 0) 2046=true:=bx
  rw[a,b]
 rw[g]
 show ov qk (cF v.toNat) (cF 0) (bV v.toNat) (bV 0) (bG v.toNat) (bG 0)=cF v.toNat
 have s0:cF 0=false:=bx
 have m0:bV 0=0:=bx
 have f: ∀n,hS 0 n=0:=λn=>by show 0<<<n=0;simp
 have d: ∀n,dP (dw (hS (bV v.toNat) n) 0) 0=false:=λn=>by
  rw[hB];intro h
  have h:(bV v.toNat)<<<n=0:=kQ h
  rw[qO] at h
  exact Jr e (by have:=eY n;exact kS this) h
 have c:dP (dw (bV v.toNat) 0) 0=false:=by
  rw[hB];intro h
  exact e (kQ h)
 rw[s0,m0]
 unfold ov qk
 cases cF v.toNat with
 |false=>
  cases cm (bG v.toNat) (bG 0)
  ·show cm (Nat.succ _) 0=aq;rfl
  ·show cm (Nat.succ _) (hS 0 _)=aq;rw[f];rfl
 |true=>
  cases cm (bG v.toNat) (bG 0)
  ·show (Bool.rec ab aq (dP (dw (hS (bV v.toNat) _) 0) 0):Bool)=ab
   rw[d]
  ·show (Bool.rec ab aq (dP (dw (bV v.toNat) (hS 0 _)) 0):Bool)=ab
   rw[f,c]
theorem Ym (J:1≤bS v.toNat) (aa:bS v.toNat≤1022):uk v (c_ fN)=v:=by
 obtain ⟨j,b,e,h⟩:=HA
 have k:=mR J
 have d:=nS (x:=v.toNat)
 have c6:bG v.toNat≤1021:=by show bS v.toNat-1≤1021;exact ui aa
 have c:=fS (fM v) (gK aa rfl)
 rw[e?] at c
 unfold uk
 rw[c,fS (x:=fN) ar (by exact ak6 b),b,e,h]
 dsimp only
 rw[a3 ar]
 have f:gT aq (bV v.toNat) ((bG v.toNat:Int)-1074) aq 4503599627370496 (((1022:Nat):Int)-1074)=(cY aq (bV v.toNat),cY aq (4503599627370496*2^(1022-bG v.toNat)),(bG v.toNat:Int)-1074):=by
  unfold gT
  have g:min ((bG v.toNat:Int)-1074) (((1022:Nat):Int)-1074)=(bG v.toNat:Int)-1074:=N4 _ (cW c6 rfl)
  rw[g]
  have a1:((bG v.toNat:Int)-1074-((bG v.toNat:Int)-1074)).toNat=0:=vZ _ _
  have a2:(((1022:Nat):Int)-1074-((bG v.toNat:Int)-1074)).toNat=1022-bG v.toNat:=vY _ _ _
  show (cY aq (bV v.toNat*2^((bG v.toNat:Int)-1074-((bG v.toNat:Int)-1074)).toNat),cY aq (4503599627370496*2^(((1022:Nat):Int)-1074-((bG v.toNat:Int)-1074)).toNat),(bG v.toNat:Int)-1074)=_
  rw[a1,a2]
  have:bV v.toNat*2^0=bV v.toNat:=mr _
  rw[this]
 rw[f]
 dsimp only
 have p1:(cY aq (bV v.toNat)).toNat=bV v.toNat:=rfl
 have p2:(cY aq (4503599627370496*2^(1022-bG v.toNat))).toNat=4503599627370496*2^(1022-bG v.toNat):=rfl
 rw[p1,p2]
 have a:bV v.toNat<4503599627370496*2^(1022-bG v.toNat):=by
  have:2^1≤2^(1022-bG v.toNat):=Jq ar (JA (ke c6 rfl))
  have i:(2:Nat)^53=4503599627370496*2^1:=ar
  have:=D0 4503599627370496 this
  exact jf d this
 rw[DR a]
 exact toNat_inj (Ou (fM v) J (by exact cW aa rfl))
theorem Yn (au:cF v.toNat=aq) (h:bS v.toNat=1023):uk v (c_ fN)=ib aq (bV v.toNat-4503599627370496) (((1022:Nat):Int)-1074):=by
 obtain ⟨i,b,e,g⟩:=HA
 have a:=mR (x:=v.toNat) (h▸by decide)
 have d:=nS (x:=v.toNat)
 have c6:bG v.toNat=1022:=by show bS v.toNat-1=1022;exact mi (Nat.eq_sub_of_add_eq' (mi h))
 have c:=fS (fM v) (gK (dH h) rfl)
 rw[e?,c6,au] at c
 unfold uk
 rw[c,fS (x:=fN) ar (by exact ak6 b),b,e,g]
 dsimp only
 rw[a3 ar]
 have f:gT aq (bV v.toNat) (((1022:Nat):Int)-1074) aq 4503599627370496 (((1022:Nat):Int)-1074)=(cY aq (bV v.toNat),cY aq 4503599627370496,((1022:Nat):Int)-1074):=by
  unfold gT
  rw[Int.min_self]
  show (cY aq (bV v.toNat*2^0),cY aq (4503599627370496*2^0),((1022:Nat):Int)-1074)=_
  rw[uj,mr]
 rw[f]
 dsimp only
 have p1:(cY aq (bV v.toNat)).toNat=bV v.toNat:=rfl
 have p2:(cY aq 4503599627370496).toNat=4503599627370496:=rfl
 rw[p1,p2]
 rw[j_] at a
 have:bV v.toNat%4503599627370496=bV v.toNat-4503599627370496:=by
  rw[Nat.mod_eq_sub_mod a,DR (Sw a d)]
 rw[this]
theorem afN (n G T:Nat):T*4503599627370496≤yr n G T:=gw _ _
theorem afO {n G T:Nat} (h:T≤G):yr n G T=T*4503599627370496+n*2^(G-T):=by
 unfold yr
 rw[mn h,←qO]
 rfl
theorem afQ {n:Nat}:4503599627370496≤n3 n 1022:=by
 unfold n3
 generalize G6 n=l
 refine cG ?_ (afN _ _ _)
 have bZ:1≤eR (dw l 1022) 52:=by show 1≤l+1022-52;exact dV rfl
 have:=rR 4503599627370496 bZ
 rw[zl] at this
 exact this
theorem afP {n:Nat} (bH:n≠0) (a5:n<4503599627370496):n3 n 1022≤1024*4503599627370496:=by
 have g:(2:Nat)^52<2^128:=ar
 rw[←j_] at a5
 have a:n.log2<52:=(Jo bH).mpr a5
 have c:n<2^(n.log2+1):=(Jo bH).mp (gv _)
 unfold n3
 rw[G7 bH (oh a5 g)]
 generalize n.log2=l at c a
 have e:eR (dw l 1022) 52=l+970:=by show l+1022-52=l+970;exact mi (Nat.add_succ _ _)
 rw[e,afO (DC (iS a) 970),show 1022-(l+970)=52-l from Nat.add_sub_add_right 52 970 l]
 have b:n*2^(52-l)<2^(l+1)*2^(52-l):=DP c (eY _)
 rw[←kl,show l+1+(52-l)=53 by rw[ug,zq (iS a)]] at b
 have d:(2:Nat)^53=2*4503599627370496:=ar
 rw[d] at b
 generalize n*2^(52-l)=q at b
 have f:(l+970)*4503599627370496≤1021*4503599627370496:=rR _ (DC (nf a) 970)
 exact cG (m_ f (iS b)) ar
theorem X2 {n:Nat} (h:n≤1024*4503599627370496):bS n≤2046:=by
 show (n>>>52)%2048≤2046
 exact cG (Nat.mod_le _ _) (by rw[ng,j_];exact cG (Nat.div_le_div_right h) bx)
def mF (x:Nat):Nat:=Bool.rec (Bool.rec (Bool.rec (gk x) (l? aq (eR (bV x) 4503599627370496) 1022) (dP (bS x) 1023)) (Bool.rec (gk x) (f? x 4607182418800017408) (Bool.rec aq (cm (bS x) 1022) (cm 1 (bS x)))) (cF x)) x (ye x)
theorem NO:zm (c_ fN) (ic aq)=false:=bx
theorem Wi (au:cF x.toNat=ab) (b:1≤bS x.toNat) (a:bS x.toNat≤1022):(jG x (c_ fN)).snd=ct x (c_ fN):=by
 unfold jG
 rw[Ym b a]
 dsimp only
 rw[Ol b (by exact cW a rfl),NN b (by exact cW a rfl),au,NO]
 rfl
theorem V1:Float64.copysign (ic aq) (c_ fN)=ic false:=bx
theorem aaC:kT (ic aq)=true:=bx
theorem Wl (h:uk x (c_ fN)=ic aq):(jG x (c_ fN)).snd=ic false:=by
 unfold jG
 rw[h]
 dsimp only
 rw[aaC,a_ rfl]
 exact V1
theorem Wj (h:uk x (c_ fN)=v) (J:1≤bS v.toNat) (aa:bS v.toNat≤2046) (au:cF v.toNat=aq):(jG x (c_ fN)).snd=v:=by
 unfold jG
 rw[h]
 dsimp only
 rw[Ol J aa,NN J aa,au,NO]
 rfl
theorem agb (m:Nat):f3 aq m=m:=rfl
theorem ag2 {n:Nat} (bH:n≠0) (a5:n<4503599627370496):(ib aq n (((1022:Nat):Int)-1074)).toNat=min mq (n3 n 1022):=by
 have a:(2:Nat)^52<2^128:=ar
 rw[j_] at a
 exact (B6 bH (oh a5 a) ar).trans (agb _)
theorem ag3 {n:Nat} (bH:n≠0) (a5:n<4503599627370496):1≤bS (ib aq n (((1022:Nat):Int)-1074)).toNat∧bS (ib aq n (((1022:Nat):Int)-1074)).toNat≤2046∧cF (ib aq n (((1022:Nat):Int)-1074)).toNat=false:=by
 have e:=ag2 bH a5
 have aI:mq=9218868437227405312:=ar
 have J:4503599627370496≤(ib aq n (((1022:Nat):Int)-1074)).toNat:=by
  rw[e];exact Nat.le_min.mpr ⟨by rw[aI];decide,afQ⟩
 have aa:(ib aq n (((1022:Nat):Int)-1074)).toNat<9223372036854775808:=by
  rw[e];exact gP (DD _ _) ar
 have ay:=X? J aa
 refine ⟨ay.1,?_,ay.2⟩
 rw[e];exact X2 (cG (DI _ _) (afP bH a5))
theorem afM {n:Nat} (bH:n≠0) (a5:n<4503599627370496):(ib aq n (((1022:Nat):Int)-1074)).toNat=l? aq n 1022:=by
 have a:(2:Nat)^52<2^128:=ar
 rw[j_] at a
 exact HQ bH (oh a5 a) ar
theorem ahU {m:Nat} (J:2^52≤m) (aa:m<2^53):m-4503599627370496<4503599627370496:=by
 have a:(2:Nat)^53=9007199254740992:=ar
 rw[j_] at J
 exact Sw J aa
theorem Wk (au:cF x.toNat=aq) (h:bS x.toNat=1023):(jG x (c_ fN)).snd.toNat=l? aq (bV x.toNat-4503599627370496) 1022:=by
 have a5:=ahU (mR (x:=x.toNat) (h▸by decide)) (nS (x:=x.toNat))
 have d:=Yn au h
 generalize bV x.toNat-4503599627370496=n at a5 d
 by_cases bH:n=0
 ·subst bH
  rw[Ov] at d
  rw[Wl d]
  decide+kernel
 ·obtain ⟨a,b,c⟩:=ag3 bH a5
  exact (Wj d a b c)▸(afM bH a5)
theorem AF (x:UInt64):mF x.toNat=(jG x (c_ fN)).snd.toNat:=by
 unfold mF
 cases av:ye x.toNat with
 |true=>
  have:=Fg x
  unfold gk at this
  rw[av] at this
  exact this
 |false=>
  cases au:cF x.toNat with
  |true=>
   cases b8:(Bool.rec aq (cm (bS x.toNat) 1022) (cm 1 (bS x.toNat)):Bool) with
   |false=>exact Fg x
   |true=>
    obtain ⟨c,b⟩:=kM b8 rfl
    rw[Wi au (dV c) (dV b),←h1]
    have a:(c_ fN).toNat=fN:=ar
    rw[a]
  |false=>
   cases ae:dP (bS x.toNat) 1023 with
   |false=>exact Fg x
   |true=>exact (Wk au (kQ ae)).symm
def sI (x:Nat):Nat:=lB (bV x) (eR 1074 (bG x))
def vz (x:Nat):Bool:=Bool.rec (cm (bS x) 1075) aq (cF x)
theorem AG (h:vz x.toNat=ab): ∃m e,mg x= .fin aq m e∧t4 aq m e=(sI x.toNat:Int):=by
 unfold vz at h
 cases au:cF x.toNat with
 |true=>rw[au] at h;exact bF h cv
 |false=>
  rw[au] at h
  have h:=dV h
  have a:=fS (fM x) (gK h rfl)
  rw[e?,au] at a
  refine ⟨_,_,a,?_⟩
  have c6:bG x.toNat≤1074:=by show bS x.toNat-1≤1074;exact ui h
  unfold t4 Float64.floorOf
  rw[a3 ar]
  have bZ:sI x.toNat=bV x.toNat/2^(1074-bG x.toNat):=by
   show (bV x.toNat)>>>(1074-bG x.toNat)=_
   rw[ng]
  have d: ∀m:Nat,cY aq m=(m:Int):=λm=>rfl
  rw[bZ,d]
  by_cases c:bG x.toNat=1074
  ·rw[c,a_ (by exact Jp _)]
   have a1:(((1074:Nat):Int)-1074).toNat=0:=by exact mi (kQ rfl)
   rw[a1]
   simp
  ·rw[a3 (by exact Of (b:=1074) c6 c)]
   have a1:(-((bG x.toNat:Int)-1074)).toNat=1074-bG x.toNat:=CP _ 1074
   rw[a1]
   rw[ak7 _ (by exact Di (Int.pow_pos ar))]
   rw[ak8,Int.natCast_pow]
   rfl
noncomputable def eN (a b:UInt64):Bool:=hz a b==I Ordering.lt
noncomputable def fp (a b:UInt64):Bool:=hz a b==I Ordering.eq
noncomputable def hL (a:UInt64):Bool:= !Float64.isZero a
def jt (x:UInt64):UInt64:=(jG x (c_ fN)).snd
def rr (x:Nat):Bool:=Bool.rec ab aq (iM x)
theorem aaB (x:UInt64):kT x=iM x.toNat:=by
 by_cases he:bS x.toNat=2047
 ·have J:iM x.toNat=false:=by
   rw[hB];intro h
   exact bF ((tk h).2.1.symm.trans he) ar
  rw[J]
  have af:x.toNat/2^52%2048=2047:=by
   rw[←he];unfold bS;show _=(x.toNat>>>52)%2048;rw[ng]
  unfold kT mg
  rw[af,a_ ar]
  generalize (x.toNat%2^52==0)=b
  induction b using d1<;>rfl
 ·have hd:=fS (fM x) he
  rw[e?] at hd
  cases bH:iM x.toNat with
  |true=>
   unfold kT
   rw[hd,(tk bH).1]
   rfl
  |false=>
   unfold kT
   rw[hd]
   have hm:bV x.toNat≠0:=λa=>by
    have c:x.toNat>>>52=x.toNat/2^52:=ng _ 52
    rw[j_] at c
    have af:=fM x
    have e:(2:Nat)^64=18446744073709551616:=ar
    rw[e] at af
    unfold bV at a
    cases ae:dP (bS x.toNat) 0 with
    |false=>
     rw[ae] at a
     have a:4503599627370496+q7 x.toNat=0:=a
     exact As (dH a)
    |true=>
     rw[ae] at a
     have a:x.toNat%4503599627370496=0:=a
     have J:(x.toNat>>>52)%2048=0:=kQ ae
     rw[c] at J
     have b:=EH x.toNat
     rw[a,J] at b
     have g: ∀k,k<2→iM (4503599627370496*(2048*k+0)+0)=true:=bx
     exact nomatch bH.symm.trans ((aQ iM b.symm).trans (g _ (Sv (k:=2) af)))
   cases d:bV x.toNat with
   |zero=>exact bF d hm
   |succ n=>rfl
theorem B4 (x:UInt64):rr x.toNat=hL x:=by
 unfold rr hL
 rw[aaB]
 cases iM x.toNat<;>rfl
theorem sz (c:Bool) (a b:UInt64):cond c a.toNat b.toNat=(cond c a b).toNat:=by induction c using d1<;>rfl
theorem vk (x y:UInt64):i4 x.toNat y.toNat=eN x y:=Fd x y
theorem Al (x y:UInt64):jX x.toNat y.toNat=fp x y:=ac9 x y
theorem Hm (x:UInt64):mF x.toNat=(jt x).toNat:=AF x
noncomputable def cn:Nat:=4607182418800017408
noncomputable def c5:Nat:=4611686018427387904
noncomputable def gW:Nat:=4616189618054758400
noncomputable def fQ:Nat:=4618441417868443648
noncomputable def ch:Nat:=4602678819172646912
noncomputable def KA:Nat:=4715268809856909312
noncomputable def yD:Nat:=4599676419421066581
noncomputable def PQ:Nat:=4595172819793696085
noncomputable def Ig:Nat:=4604180019048437077
noncomputable def ah4:Nat:=4608683618675807573
noncomputable def lq:UInt64:=0
noncomputable def ez:UInt64:=4607182418800017408
noncomputable def kO:UInt64:=4611686018427387904
noncomputable def Qm:UInt64:=4616189618054758400
noncomputable def kk:UInt64:=4618441417868443648
noncomputable def pb:UInt64:=4602678819172646912
noncomputable def Iu:UInt64:=4715268809856909312
noncomputable def tX:UInt64:=4599676419421066581
noncomputable def CX:UInt64:=4595172819793696085
noncomputable def v7:UInt64:=4604180019048437077
noncomputable def Qo:UInt64:=4608683618675807573
theorem dm:(0=lq.toNat)∧(cn=ez.toNat)∧(c5=kO.toNat)∧(gW=Qm.toNat)∧(fQ=kk.toNat)∧(ch=pb.toNat)∧(KA=Iu.toNat)∧(yD=tX.toNat)∧(PQ=CX.toNat)∧(Ig=v7.toNat)∧(ah4=Qo.toNat):=by
 refine ⟨?_,?_,?_,?_,?_,?_,?_,?_,?_,?_,?_⟩<;>decide+kernel
def BS (a b c:Nat):Nat:=cond (i4 a b) (cond (i4 b c) c b) (cond (i4 a c) c a)
def BX (a b c:Nat):Nat:=cond (i4 b a) (cond (i4 c b) c b) (cond (i4 c a) c a)
def b6 (a b c:UInt64):UInt64:=cond (eN a b) (cond (eN b c) c b) (cond (eN a c) c a)
def cX (a b c:UInt64):UInt64:=cond (eN b a) (cond (eN c b) c b) (cond (eN c a) c a)
theorem NV (a b c:UInt64):BS a.toNat b.toNat c.toNat=(b6 a b c).toNat:=by
 unfold BS b6;simp only[vk,sz]
theorem N0 (a b c:UInt64):BX a.toNat b.toNat c.toNat=(cX a b c).toNat:=by
 unfold BX cX;simp only[vk,sz]
def rest (a b x:Nat):Nat:=st (fA a x) λy=>lO y b
noncomputable def ry (a b x:UInt64):UInt64:=d' (b! a x) b
theorem rest_eq (a b c:UInt64):rest a.toNat b.toNat c.toNat=(ry a b c).toNat:=by
 unfold rest ry;simp only[bu,gm,p4]
def Bk (z a b:Nat):Nat:=st a λa=>st b λb=>st (f? z a) λy=>st (fA y b) λh=>st (lO h fQ) λh=>mF h
def Gu (a b:Nat):Nat:=st a λa=>st b λb=>st (fA a b) λh=>st (lO h fQ) λh=>mF h
def Bl (z a b:UInt64):UInt64:=jt (d' (b! (ct z a) b) kk)
def Gv (a b:UInt64):UInt64:=jt (d' (b! a b) kk)
theorem Δ (a b c:UInt64):Bk a.toNat b.toNat c.toNat=(Bl a b c).toNat:=by
 unfold Bk Bl;simp only[bu,h1,gm,dm.2.2.2.2.1,p4,Hm]
theorem Γ (a b:UInt64):Gu a.toNat b.toNat=(Gv a b).toNat:=by
 unfold Gu Gv;simp only[bu,h1,gm,dm.2.2.2.2.1,p4,Hm]
def Bj (a c r g b:Nat):Nat:=cond (jX r a) (Gu (rest a c b) (rest a c g)) (cond (jX g a) (Bk c5 (rest a c r) (rest a c b)) (Bk gW (rest a c g) (rest a c r)))
def qa (a c r g b:UInt64):UInt64:=cond (fp r a) (Gv (ry a c b) (ry a c g)) (cond (fp g a) (Bl kO (ry a c r) (ry a c b)) (Bl Qm (ry a c g) (ry a c r)))
theorem M1 (a c r g b:UInt64):Bj a.toNat c.toNat r.toNat g.toNat b.toNat=(qa a c r g b).toNat:=by
 unfold Bj qa;simp only[Al,rest_eq,dm.2.2.1,dm.2.2.2.1,Γ,Δ,sz]
def CZ (b4 a h:Nat):Nat:=st (fA a b4) λd=>st (g4 d h) λe=>st (g4 e fQ) λf=>f? b4 f
def Qx (b4 a h:Nat):Nat:=st (fA Ig h) λg=>CZ b4 a g
def v8 (b4 a h:Nat):Nat:=cond (i4 h PQ) (CZ b4 a h) (cond (i4 h ch) a (cond (i4 h Ig) (Qx b4 a h) b4))
def C0 (b4 a h:UInt64):UInt64:=ct b4 (c8 (c8 (b! a b4) h) kk)
def n_ (b4 a h:UInt64):UInt64:=cond (eN h CX) (C0 b4 a h) (cond (eN h pb) a (cond (eN h v7) (C0 b4 a (b! v7 h)) b4))
theorem aiT (a b c:UInt64):CZ a.toNat b.toNat c.toNat=(C0 a b c).toNat:=by
 unfold CZ C0;simp only[bu,gm,jl,h1,dm.2.2.2.2.1]
theorem v_eq (a b c:UInt64):v8 a.toNat b.toNat c.toNat=(n_ a b c).toNat:=by
 unfold v8 Qx n_;simp only[bu,gm,dm.2.2.2.2.2.1,dm.2.2.2.2.2.2.2.2.1,dm.2.2.2.2.2.2.2.2.2.1,aiT,vk,sz]
def out (x:Nat):Nat:=st (g4 x KA) λy=>f? y ch
def HC (x:UInt64):UInt64:=ct (c8 x Iu) pb
theorem aeC (x:UInt64):out x.toNat=(HC x).toNat:=by
 unfold out HC;simp only[bu,jl,h1,dm.2.2.2.2.2.2.1,dm.2.2.2.2.2.1]
noncomputable def both (a b:Bool):Bool:=cond a b aq
theorem e3:both a b=ab↔a=ab∧b=true:=by induction a using d1<;>induction b using d1<;>(first|decide|exact Iff.symm (and_iff_left_of_imp (congrFun rfl)))
def gq (x n:Nat):Bool:=st (out x) λy=>both (vz y) (dP (sI y) (gS n 1048576))
def eD (x:UInt64) (n:Nat):Prop:= ∃m e,mg (HC x)= .fin aq m e∧t4 aq m e=((n*1048576:Nat):Int)
theorem tj {n:Nat} (h:gq x.toNat n=ab):eD x n:=by
 unfold gq at h
 rw[bu,aeC,e3] at h
 obtain ⟨m,e,J,aa⟩:=AG h.1
 refine ⟨m,e,J,?_⟩
 rw[aa,kQ h.2]
 rfl
def BB (l:Nat):Bool:=cond (i4 l ch) ab (jX l ch)
def kd (l:UInt64):Bool:=cond (eN l pb) ab (fp l pb)
theorem Nw (l:UInt64):BB l.toNat=kd l:=by
 unfold BB kd;simp only[dm.2.2.2.2.2.1,vk,Al]
def BQ (l s:Nat):Nat:=cond (BB l) (st (f? cn s) λx=>g4 l x) (st (f? l s) λx=>st (g4 l s) λy=>fA x y)
def kE (l s:UInt64):UInt64:=cond (kd l) (c8 l (ct ez s)) (b! (ct l s) (c8 l s))
theorem NR (l s:UInt64):BQ l.toNat s.toNat=(kE l s).toNat:=by
 unfold BQ kE;simp only[bu,Nw,dm.2.1,h1,jl,gm,sz]
def BP (l a:Nat):Nat:=st (g4 c5 l) λx=>fA x a
def rn (l a:UInt64):UInt64:=b! (c8 kO l) a
theorem NQ (l s:UInt64):BP l.toNat s.toNat=(rn l s).toNat:=by
 unfold BP rn;simp only[bu,dm.2.2.1,jl,gm]
def xX (b4 a h n:Nat):Bool:=st h λh=>st (mF h) λh=>st (v8 b4 a h) λx=>gq x n
theorem GL {n:Nat} (e:xX b4.toNat a.toNat h.toNat n=ab):eD (n_ b4 a (jt h)) n:=by
 unfold xX at e
 simp only[bu,Hm,v_eq] at e
 exact tj e
def F9 (b4 d h a b c:Nat):Bool:=st h λh=>both (xX b4 d (f? h yD) a) (both (xX b4 d h b) (xX b4 d (fA h yD) c))
structure ux (b4 cJ h:UInt64) (a b c:Nat):Prop where
 r:eD (n_ b4 cJ (jt (ct h tX))) a
 g:eD (n_ b4 cJ (jt h)) b
 b:eD (n_ b4 cJ (jt (b! h tX))) c
theorem Z2 {a b c:Nat} (e:F9 b4.toNat d.toNat h.toNat a b c=ab):ux b4 d h a b c:=by
 unfold F9 at e
 rw[bu,dm.2.2.2.2.2.2.2.1,h1,gm,e3,e3] at e
 exact ⟨GL e.1,GL e.2.1,GL e.2.2⟩
def den (a b:Nat):Nat:=st (fA c5 a) λx=>fA x b
def pQ (a b:UInt64):UInt64:=b! (b! kO a) b
theorem Wg (a b:UInt64):den a.toNat b.toNat=(pQ a b).toNat:=by
 unfold den pQ;simp only[bu,dm.2.2.1,gm]
def HU (c e l a b:Nat) (k:Nat→Bool):Bool:=cond (BB l) (both (rr b) (st (lO a b) k)) (st (den c e) λd=>both (rr d) (st (lO a d) k))
def o5 (b c l a d:UInt64):UInt64:=cond (kd l) (d' a d) (d' a (pQ b c))
theorem aga {k:Nat→Bool} (e:HU b.toNat f.toNat l.toNat c.toNat a.toNat k=ab):(cond (kd l) (hL a) (hL (pQ b f))=ab)∧k (o5 b f l c a).toNat=true:=by
 unfold HU at e
 rw[Nw] at e
 unfold o5
 cases h:kd l with
 |true=>
  rw[h] at e
  have e:both (rr a.toNat) (st (lO c.toNat a.toNat) k)=true:=e
  rw[e3,B4,bu,p4] at e
  exact e
 |false=>
  rw[h] at e
  have e:(st (den b.toNat f.toNat) λd=>both (rr d) (st (lO c.toNat d) k))=true:=e
  rw[bu,Wg,e3,B4,bu,p4] at e
  exact e
def Cc (v s:Nat):Nat:=st (fA cn s) λx=>g4 v x
def yj (v s f:Nat):Nat:=st (g4 s f) λx=>st (fA cn x) λy=>g4 v y
def CJ (v s f:Nat):Nat:=st (fA cn f) λz=>yj v s z
def Cd (v s:UInt64):UInt64:=c8 v (b! ez s)
def yk (v s f:UInt64):UInt64:=c8 v (b! ez (c8 s f))
def CK (v s f:UInt64):UInt64:=c8 v (b! ez (c8 s (b! ez f)))
theorem OE (v s:UInt64):Cc v.toNat s.toNat=(Cd v s).toNat:=by unfold Cc Cd;simp only[bu,dm.2.1,gm,jl]
theorem HN (v s f:UInt64):yj v.toNat s.toNat f.toNat=(yk v s f).toNat:=by unfold yj yk;simp only[bu,dm.2.1,gm,jl]
theorem PW (v s f:UInt64):CJ v.toNat s.toNat f.toNat=(CK v s f).toNat:=by
 have: ∀g,yk v s g=c8 v (b! ez (c8 s g)):=λZ=>rfl
 unfold CJ CK;simp only[bu,dm.2.1,gm,HN,this]
def Gq (i v p q t a b c:Nat):Bool:=cond (dP i 0) (both (gq v a) (both (gq t b) (gq p c))) (cond (dP i 1) (both (gq q a) (both (gq v b) (gq p c))) (cond (dP i 2) (both (gq p a) (both (gq v b) (gq t c))) (cond (dP i 3) (both (gq p a) (both (gq q b) (gq v c))) (cond (dP i 4) (both (gq t a) (both (gq p b) (gq v c))) (both (gq v a) (both (gq p b) (gq q c)))))))
def D? (i:Nat) (v p q t:UInt64) (a b c:Nat):Prop:=
 (i=0∧eD v a∧eD t b∧eD p c)∨(i=1∧eD q a∧eD v b∧eD p c)∨(i=2∧eD p a∧eD v b∧eD t c)∨(i=3∧eD p a∧eD q b∧eD v c)∨(i=4∧eD t a∧eD p b∧eD v c)∨(i=5∧eD v a∧eD p b∧eD q c)
theorem w3 {i j:Nat} (h:cond (dP i j) x y=ab):(i=j∧x=ab)∨(i≠j∧y=ab):=by
 cases ae:dP i j with
 |true=>rw[ae] at h;exact .inl ⟨kQ ae,h⟩
 |false=>rw[ae] at h;exact .inr ⟨λz=>(by subst z;rw[DQ] at ae;exact bF ae.symm cv),h⟩
theorem uF {a b c:Nat} (h:both (gq x.toNat a) (both (gq y.toNat b) (gq z.toNat c))=ab):eD x a∧eD y b∧eD z c:=by
 rw[e3,e3] at h
 exact ⟨tj h.1,tj h.2.1,tj h.2.2⟩
theorem ς {i:Nat} {a b c:Nat} (aI:i<6) (h:Gq i v.toNat p.toNat q.toNat t.toNat a b c=ab):D? i v p q t a b c:=by
 unfold Gq at h
 rcases w3 h with ⟨e,h⟩|⟨j,h⟩
 ·exact .inl ⟨e,uF h⟩
 rcases w3 h with ⟨e,h⟩|⟨d,h⟩
 ·exact .inr (.inl ⟨e,uF h⟩)
 rcases w3 h with ⟨e,h⟩|⟨f,h⟩
 ·exact .inr (.inr (.inl ⟨e,uF h⟩))
 rcases w3 h with ⟨e,h⟩|⟨g,h⟩
 ·exact .inr (.inr (.inr (.inl ⟨e,uF h⟩)))
 rcases w3 h with ⟨e,h⟩|⟨k,h⟩
 ·exact .inr (.inr (.inr (.inr (.inl ⟨e,uF h⟩))))
 ·exact .inr (.inr (.inr (.inr (.inr ⟨by lia,uF h⟩))))
noncomputable def jQ (i:Nat):Nat:=(fD i).toNat
def Gp (h s v a b c:Nat):Bool:=st (g4 h fQ) λd=>both (vz d) (st (sI d) λi=>both (cm i 100) (st (jQ i) λz=>st (fA d z) λf=>st (Cc v s) λp=>st (yj v s f) λq=>st (CJ v s f) λt=>st (lD i 6) λi=>Gq i v p q t a b c))
structure zz (h s v:UInt64) (a b c:Nat):Prop where
 ex: ∃(n m:Nat) (e:Int),mg (c8 h kk)= .fin aq m e∧t4 aq m e=(n:Int)∧n≤100∧
  D? (n%6) v (Cd v s) (yk v s (b! (c8 h kk) (fD n))) (CK v s (b! (c8 h kk) (fD n))) a b c
theorem ρ {a b c:Nat} (e:Gp h.toNat s.toNat v.toNat a b c=ab):zz h s v a b c:=by
 unfold Gp jQ at e
 rw[dm.2.2.2.2.1,jl,bu,e3,bu,e3,bu,gm,bu,bu,OE,bu,HN,bu,PW,bu] at e
 obtain ⟨m,x,d⟩:=AG e.1
 have J:=d.1
 have aa:=d.2
 exact ⟨_,m,x,J,aa,dV e.2.1,ς (iC _ ar) e.2.2⟩
structure aly (b9 dY h:UInt64) (a b c:Nat):Prop where
 nm:hL b9=ab
 rp:hL dY=ab
 s0:fp (d' dY b9) lq=aq
 m0:zz (ct h tX) (d' dY b9) b9 c a b
 b4:zz (b! ez h) (d' dY b9) b9 a c b
theorem cond_false (h:cond x aq y=ab):x=aq∧y=true:=by
 cases x
 ·exact ⟨rfl,h⟩
 ·exact bF h cv
structure S6 (b4 cJ h:UInt64) (a b c:Nat):Prop where
 amc:ux b4 cJ (b! h tX) b c a
 BR:ux b4 cJ (b! v7 h) c b a
 Hc:ux b4 cJ (b! Qo h) b a c
def fX (a b:UInt64):UInt64:=d' (ct a b) kO
structure alx (b9 eH dY h:UInt64) (a b c:Nat):Prop where
 qr:cond (kd (fX b9 eH)) (hL (ct b9 eH)) (hL (pQ b9 eH))=ab
 s0:fp (o5 b9 eH (fX b9 eH) dY (ct b9 eH)) lq=aq
 ac1:S6 (rn (fX b9 eH) (kE (fX b9 eH) (o5 b9 eH (fX b9 eH) dY (ct b9 eH)))) (kE (fX b9 eH) (o5 b9 eH (fX b9 eH) dY (ct b9 eH))) h a b c
def c7 (n:Nat):UInt64:=d' (fD ((n*1048576:Nat):Int)) Iu
def ti (n:Nat):Nat:=(c7 n).toNat
theorem u_ (n:Nat):ti n=(c7 n).toNat:=rfl
def pre (a b c:Nat) (g:Nat→Nat→Bool) (k:Nat→Nat→Nat→Nat→Bool):Bool:=
 st (ti a) λr=>st (ti b) λj=>st (ti c) λf=>st (BS r j f) λd=>st (BX r j f) λe=>cond (jX e d) (g d e) (st (fA d e) λi=>both (rr i) (st (Bj d i r j f) λh=>k d e i h))
theorem z9 (a b:α):cond aq a b=b:=rfl
theorem uL (a b:α):cond ab a b=a:=rfl
theorem ae6 {a b c:Nat} {g:Nat→Nat→Bool} {k:Nat→Nat→Nat→Nat→Bool} (e:pre a b c g k=ab):
  (fp (cX (c7 a) (c7 b) (c7 c)) (b6 (c7 a) (c7 b) (c7 c))=ab∧g (b6 (c7 a) (c7 b) (c7 c)).toNat (cX (c7 a) (c7 b) (c7 c)).toNat=ab)∨
  (fp (cX (c7 a) (c7 b) (c7 c)) (b6 (c7 a) (c7 b) (c7 c))=aq∧hL (b! (b6 (c7 a) (c7 b) (c7 c)) (cX (c7 a) (c7 b) (c7 c)))=ab∧
   k (b6 (c7 a) (c7 b) (c7 c)).toNat (cX (c7 a) (c7 b) (c7 c)).toNat (b! (b6 (c7 a) (c7 b) (c7 c)) (cX (c7 a) (c7 b) (c7 c))).toNat (qa (b6 (c7 a) (c7 b) (c7 c)) (b! (b6 (c7 a) (c7 b) (c7 c)) (cX (c7 a) (c7 b) (c7 c))) (c7 a) (c7 b) (c7 c)).toNat=ab):=by
 unfold pre at e
 rw[u_,u_,u_,bu,bu,bu,NV,bu,N0,bu,Al,gm,bu,B4,M1,bu] at e
 cases h:fp (cX (c7 a) (c7 b) (c7 c)) (b6 (c7 a) (c7 b) (c7 c)) with
 |true=>rw[h,uL] at e;exact .inl ⟨rfl,e⟩
 |false=>
  rw[h,z9] at e
  have e:=e3.mp e
  exact .inr ⟨rfl,e.1,e.2⟩
noncomputable def loop (f:Nat→Bool) (k:Nat):Bool:=Nat.rec ab (λa b=>cond (f a) b aq) k
theorem l0 {f:Nat→Bool}: ∀{k:Nat},loop f k=ab→ ∀i,i<k→f i=true:=by
 intro b
 induction b with
 |zero=>
  intro _ i h
  exact bF h (zo _)
 |succ k a=>
  intro e i h
  have e:cond (f k) (loop f k) aq=true:=e
  cases av:f k with
  |false=>rw[av] at e;exact bF e cv
  |true=>
   rw[av] at e
   rcases Jf (nf h) with h|h
   ·exact a e i h
   ·rw[h];exact av
noncomputable def JS:Nat:=4599075939470750515
noncomputable def JV:Nat:=4603489467105573601
noncomputable def JQ:Nat:=4592590756007337001
noncomputable def JW:Nat:=4604840546993784750
noncomputable def JR:Nat:=4598535507515466056
noncomputable def JU:Nat:=4602318531202457272
noncomputable def JT:Nat:=4601057523306793533
noncomputable def jC:Nat:=4606703976345377586
noncomputable def qG:Nat:=4603791717925830846
noncomputable def C4:Nat:=4598621754083818298
noncomputable def QR:Nat:=4603901015759978483
noncomputable def QS:Nat:=4607671262177584182
noncomputable def QT:Nat:=4610375502138591871
noncomputable def OV:UInt64:=4599075939470750515
noncomputable def OY:UInt64:=4603489467105573601
noncomputable def OT:UInt64:=4592590756007337001
noncomputable def O0:UInt64:=4604840546993784750
noncomputable def OU:UInt64:=4598535507515466056
noncomputable def OX:UInt64:=4602318531202457272
noncomputable def OW:UInt64:=4601057523306793533
noncomputable def rN:UInt64:=4606703976345377586
noncomputable def rO:UInt64:=4603791717925830846
noncomputable def Q_:UInt64:=4598621754083818298
noncomputable def Q?:UInt64:=4603901015759978483
noncomputable def Rd:UInt64:=4607671262177584182
noncomputable def Rg:UInt64:=4610375502138591871
theorem l9:(JS=OV.toNat)∧(JV=OY.toNat)∧(JQ=OT.toNat)∧(JW=O0.toNat)∧(JR=OU.toNat)∧(JU=OX.toNat)∧(JT=OW.toNat)∧(jC=rN.toNat)∧(qG=rO.toNat)∧(C4=Q_.toNat)∧(QR=Q?.toNat)∧(QS=Rd.toNat)∧(QT=Rg.toNat):=by
 refine ⟨?_,?_,?_,?_,?_,?_,?_,?_,?_,?_,?_,?_,?_⟩<;>decide+kernel
def clamp (x:Nat):Nat:=cond (i4 x 0) 0 (cond (i4 cn x) cn x)
def hi (x:UInt64):UInt64:=cond (eN x lq) lq (cond (eN ez x) ez x)
theorem EM (x:UInt64):clamp x.toNat=(hi x).toNat:=by
 have e:clamp x.toNat=cond (i4 x.toNat lq.toNat) lq.toNat (cond (i4 ez.toNat x.toNat) ez.toNat x.toNat):=by
  rw[←dm.1,←dm.2.1];rfl
 rw[e,vk,vk,sz,sz]
 rfl
def BJ (a x b y:Nat):Nat:=st (g4 a x) λx=>st (g4 b y) λy=>f? x y
def lim (a x b y:Nat):Nat:=st (g4 a x) λx=>st (g4 b y) λy=>fA x y
noncomputable def BK (a x b y:UInt64):UInt64:=ct (c8 a x) (c8 b y)
noncomputable def G8 (a x b y:UInt64):UInt64:=b! (c8 a x) (c8 b y)
theorem NH (a x b y:UInt64):BJ a.toNat x.toNat b.toNat y.toNat=(BK a x b y).toNat:=by unfold BJ BK;simp only[bu,jl,h1]
theorem acm (a x b y:UInt64):lim a.toNat x.toNat b.toNat y.toNat=(G8 a x b y).toNat:=by unfold lim G8;simp only[bu,jl,gm]
def IG (r g b:Nat):Nat:=st (BJ JS r JV g) λx=>st (g4 JQ b) λy=>f? x y
def GB (r b y:Nat):Nat:=st (fA r y) λr=>st (fA b y) λb=>lim JW r JR b
def GP (r b y:Nat):Nat:=st (fA r y) λr=>st (fA b y) λb=>BJ JU r JT b
def fw (r g b:UInt64):UInt64:=ct (BK OV r OY g) (c8 OT b)
def mN (r b y:UInt64):UInt64:=G8 O0 (b! r y) OU (b! b y)
def mO (r b y:UInt64):UInt64:=BK OX (b! r y) OW (b! b y)
theorem y_eq (r g b:UInt64):IG r.toNat g.toNat b.toNat=(fw r g b).toNat:=by
 unfold IG fw;rw[l9.1,l9.2.1,l9.2.2.1,NH,bu,jl,bu,h1]
theorem Ψ (r g b:UInt64):GB r.toNat g.toNat b.toNat=(mN r g b).toNat:=by
 unfold GB mN;rw[l9.2.2.2.1,l9.2.2.2.2.1,gm,bu,gm,bu,acm]
theorem aaR (r g b:UInt64):GP r.toNat g.toNat b.toNat=(mO r g b).toNat:=by
 unfold GP mO;rw[l9.2.2.2.2.2.1,l9.2.2.2.2.2.2.1,gm,bu,gm,bu,NH]
def tK (y i q:Nat):Nat:=st (g4 jC i) λi=>st (g4 qG q) λq=>st (f? y i) λx=>st (f? x q) λx=>clamp x
def sH (y i q:Nat):Nat:=st (g4 C4 i) λi=>st (g4 QR q) λq=>st (fA y i) λx=>st (fA x q) λx=>clamp x
def so (y i q:Nat):Nat:=st (g4 QS i) λi=>st (g4 QT q) λq=>st (fA y i) λx=>st (f? x q) λx=>clamp x
def lj (y i q:UInt64):UInt64:=ct (ct y (c8 rN i)) (c8 rO q)
def mG (y i q:UInt64):UInt64:=b! (b! y (c8 Q_ i)) (c8 Q? q)
def oo (y i q:UInt64):UInt64:=ct (b! y (c8 Rd i)) (c8 Rg q)
theorem HO (y i q:UInt64):tK y.toNat i.toNat q.toNat=(hi (lj y i q)).toNat:=by
 unfold tK lj;rw[l9.2.2.2.2.2.2.2.1,l9.2.2.2.2.2.2.2.2.1,jl,bu,jl,bu,h1,bu,h1,bu,EM]
theorem Fw (y i q:UInt64):sH y.toNat i.toNat q.toNat=(hi (mG y i q)).toNat:=by
 unfold sH mG;rw[l9.2.2.2.2.2.2.2.2.2.1,l9.2.2.2.2.2.2.2.2.2.2.1,jl,bu,jl,bu,gm,bu,gm,bu,EM]
theorem EA (y i q:UInt64):so y.toNat i.toNat q.toNat=(hi (oo y i q)).toNat:=by
 unfold so oo;rw[l9.2.2.2.2.2.2.2.2.2.2.2.1,l9.2.2.2.2.2.2.2.2.2.2.2.2,jl,bu,jl,bu,gm,bu,h1,bu,EM]
structure alw (r g bO:UInt64) (a b c:Nat):Prop where
 alR:fp (cX r g bO) (b6 r g bO)=ab→eD (b! ez (fX (b6 r g bO) (cX r g bO))) a∧eD (b! ez (fX (b6 r g bO) (cX r g bO))) b∧eD (b! ez (fX (b6 r g bO) (cX r g bO))) c
 rp:fp (cX r g bO) (b6 r g bO)=aq→hL (b! (b6 r g bO) (cX r g bO))=ab
 qr:fp (cX r g bO) (b6 r g bO)=aq→cond (kd (fX (b6 r g bO) (cX r g bO))) (hL (ct (b6 r g bO) (cX r g bO))) (hL (pQ (b6 r g bO) (cX r g bO)))=ab
 s0:fp (cX r g bO) (b6 r g bO)=aq→ ∀s,s=o5 (b6 r g bO) (cX r g bO) (fX (b6 r g bO) (cX r g bO)) (b! (b6 r g bO) (cX r g bO)) (ct (b6 r g bO) (cX r g bO))→fp s lq=ab→eD (b! ez (fX (b6 r g bO) (cX r g bO))) a∧eD (b! ez (fX (b6 r g bO) (cX r g bO))) b∧eD (b! ez (fX (b6 r g bO) (cX r g bO))) c
 ac1:fp (cX r g bO) (b6 r g bO)=aq→ ∀s,s=o5 (b6 r g bO) (cX r g bO) (fX (b6 r g bO) (cX r g bO)) (b! (b6 r g bO) (cX r g bO)) (ct (b6 r g bO) (cX r g bO))→fp s lq=aq→
  ux (rn (b! ez (fX (b6 r g bO) (cX r g bO))) (kE (b! ez (fX (b6 r g bO) (cX r g bO))) s)) (kE (b! ez (fX (b6 r g bO) (cX r g bO))) s) (ct (qa (b6 r g bO) (b! (b6 r g bO) (cX r g bO)) r g bO) pb) a b c
end Mine
end
noncomputable section
open PySem PySem.W PyProof.Rows PySem.Calls PySem.Spec PySem.SeqAt
namespace Mine
set_option tactic.hygienic true in
theorem cmp_swap (a b:UInt64):hz b a=(hz a b).map Ordering.swap:=by
 unfold hz
 cases mg a<;>cases mg b<;>try rfl
 ·rename_i x y;induction x using d1<;>induction y using d1<;>rfl
 ·rename_i x _ _ _;induction x using d1<;>rfl
 ·rename_i x;induction x using d1<;>rfl
 ·rename_i s m e s' d c
  dsimp only[aj6]
  rw[J2]
  rw[←Int.compare_swap]
theorem Fh (a b:UInt64):oE b a=eN a b:=by
 unfold oE eN
 rw[cmp_swap a b]
 cases hz a b with
 |none=>rfl
 |some o=>cases o<;>rfl
theorem lg (a b:UInt64):hs (.aj a) (.aj b)=I (fp a b):=rfl
theorem vF (a b:UInt64):e_ .Lt (.aj a) (.aj b)=I (eN a b):=rfl
theorem vE (a b:UInt64):e_ .Gt (.aj a) (.aj b)=I (eN b a):=aQ I (Fh b a)
theorem Qd (f:UInt64→UInt64→Bool) (p:Bool) (a b c:UInt64):(if f (if p then b else a) c then c else (if p then b else a))=cond p (cond (f b c) c b) (cond (f a c) c a):=by
 induction p using d1 with
 |true=>show (if f b c then c else b)=cond (f b c) c b;cases f b c<;>rfl
 |false=>show (if f a c then c else a)=cond (f a c) c a;cases f a c<;>rfl
theorem OF (a b c:UInt64):fO (ao "max") [.aj a,.aj b,.aj c]=I (.aj (b6 a b c)):=by
 have e:fO (ao "max") [.aj a,.aj b,.aj c]=I (.aj (if oE c (if oE b a then b else a) then c else (if oE b a then b else a))):=aY
 rw[e,Fh,Fh]
 exact aQ (λx=>I (U.aj x)) (Qd eN _ a b c)
theorem OG (a b c:UInt64):fO (ao "min") [.aj a,.aj b,.aj c]=I (.aj (cX a b c)):=
 aQ (λx=>I (U.aj x)) (Qd (λx y=>eN y x) (eN b a) a b c)
theorem w7 (h:hL b=ab):b? .Div (.aj a) (.aj b)=I (.aj (d' a b)):=by
 show (if kT b then ah else I (U.aj (d' a b)))=_
 unfold hL at h
 rw[a3]
 intro z;rw[z] at h;exact bF h cv
theorem MY (h:fp (cX r g b) (b6 r g b)=aq) (J:hL (b6 r g b)=ab) (aa:hL (b! (b6 r g b) (cX r g b))=ab):b' (n+100) ⟨bq,d+1,sc⟩ (aE 8) [.aj r,.aj g,.aj b] w=
  I (.tup [.aj (qa (b6 r g b) (b! (b6 r g b) (cX r g b)) r g b),.aj (d' (b! (b6 r g b) (cX r g b)) (b6 r g b)),.aj (b6 r g b)],w):=by
 have j: ∀a,b? .Div (.aj a) (.aj (b6 r g b))=I (.aj (d' a (b6 r g b))):=λa=>w7 J
 have c: ∀a,b? .Div (.aj a) (.aj (b! (b6 r g b) (cX r g b)))=I (.aj (d' a (b! (b6 r g b) (cX r g b)))):=λa=>w7 aa
 unfold qa
 let D:List Fact→List Fact:=λe=> .go::aM (c (b! (b6 r g b) r)):: .go::aM (c (b! (b6 r g b) g)):: .go::aM (c (b! (b6 r g b) b))::e
 let A:List Fact→List Fact:=λe=>aM (OF r g b)::aM (OG r g b):: .go::cE ((lg (cX r g b) (b6 r g b)).trans (aQ I h))::aM (j (b! (b6 r g b) (cX r g b)))::D e
 cases f:fp r (b6 r g b) with
 |true=>exact hv (A [cE ((lg r (b6 r g b)).trans (aQ I f)),.go,.go,.go])
 |false=>cases i:fp g (b6 r g b)<;>exact hv (A [cE ((lg r (b6 r g b)).trans (aQ I f)),cE ((lg g (b6 r g b)).trans (aQ I i)),.go,.go,.go,.go])
theorem abL (l:UInt64):(eN l 4602678819172646912||fp l 4602678819172646912)=kd l:=by
 unfold kd pb
 cases eN l 4602678819172646912<;>rfl
theorem HI (a:UInt64):e_ .LtE (.aj a) (.aj 4602678819172646912)=I (kd a):=aQ I (abL a)
theorem Mv (h:fp (cX r g b) (b6 r g b)=aq) (J:cond (kd (fX (b6 r g b) (cX r g b))) (hL (ct (b6 r g b) (cX r g b))) (hL (pQ (b6 r g b) (cX r g b)))=ab) (aa:hL (b! (b6 r g b) (cX r g b))=ab):b' (n+100) ⟨bq,d+1,sc⟩ (aE 5) [.aj r,.aj g,.aj b] w=
  I (.tup [.aj (qa (b6 r g b) (b! (b6 r g b) (cX r g b)) r g b),.aj (fX (b6 r g b) (cX r g b)),.aj (o5 (b6 r g b) (cX r g b) (fX (b6 r g b) (cX r g b)) (b! (b6 r g b) (cX r g b)) (ct (b6 r g b) (cX r g b)))],w):=by
 have j: ∀a,b? .Div (.aj a) (.aj (b! (b6 r g b) (cX r g b)))=I (.aj (d' a (b! (b6 r g b) (cX r g b)))):=λa=>w7 aa
 have p1:e_ .LtE (.aj (d' (ct (b6 r g b) (cX r g b)) 4611686018427387904)) (.aj 4602678819172646912)=I (kd (fX (b6 r g b) (cX r g b))):=HI _
 unfold qa o5
 let D:List Fact→List Fact:=λc=> .go::aM (j (b! (b6 r g b) r)):: .go::aM (j (b! (b6 r g b) g)):: .go::aM (j (b! (b6 r g b) b))::c
 let A:List Fact→List Fact:=λc=>aM (OF r g b)::aM (OG r g b):: .go:: .go:: .go::cE ((lg (cX r g b) (b6 r g b)).trans (aQ I h))::c
 cases f:kd (fX (b6 r g b) (cX r g b)) with
 |true=>
  rw[f,uL] at J
  have k: ∀a,b? .Div (.aj a) (.aj (ct (b6 r g b) (cX r g b)))=I (.aj (d' a (ct (b6 r g b) (cX r g b)))):=λa=>w7 J
  let B:List Fact→List Fact:=λc=>A (cE (p1.trans (aQ I f))::aM (k (b! (b6 r g b) (cX r g b)))::D c)
  cases e:fp r (b6 r g b) with
  |true=>exact hv (B [cE ((lg r (b6 r g b)).trans (aQ I e)),.go,.go,.go])
  |false=>cases i:fp g (b6 r g b)<;>exact hv (B [cE ((lg r (b6 r g b)).trans (aQ I e)),cE ((lg g (b6 r g b)).trans (aQ I i)),.go,.go,.go,.go])
 |false=>
  rw[f,z9] at J
  have k: ∀a,b? .Div (.aj a) (.aj (b! (b! 4611686018427387904 (b6 r g b)) (cX r g b)))=I (.aj (d' a (pQ (b6 r g b) (cX r g b)))):=λa=>w7 J
  let B:List Fact→List Fact:=λc=>A (cE (p1.trans (aQ I f)):: .go:: .go::aM (k (b! (b6 r g b) (cX r g b)))::D c)
  cases e:fp r (b6 r g b) with
  |true=>exact hv (B [cE ((lg r (b6 r g b)).trans (aQ I e)),.go,.go,.go])
  |false=>cases i:fp g (b6 r g b)<;>exact hv (B [cE ((lg r (b6 r g b)).trans (aQ I e)),cE ((lg g (b6 r g b)).trans (aQ I i)),.go,.go,.go,.go])
theorem aiV (b4 c h:UInt64):b' (n+60) ⟨bq,d+1,sc⟩ (aE 7) [.aj b4,.aj c,.aj h] w=I (.aj (n_ b4 c (jt h)),w):=by
 have p1:e_ .Lt (.aj (jG h 4607182418800017408).snd) (.aj 4595172819793696085)=I (eN (jt h) CX):=rfl
 have p2:e_ .Lt (.aj (jG h 4607182418800017408).snd) (.aj 4602678819172646912)=I (eN (jt h) pb):=rfl
 have p3:e_ .Lt (.aj (jG h 4607182418800017408).snd) (.aj 4604180019048437077)=I (eN (jt h) v7):=rfl
 unfold n_
 cases a:eN (jt h) CX with
 |true=>exact hv [.go,cE (p1.trans (aQ I a)),.go,.go,.go,.go]
 |false=>
  cases b:eN (jt h) pb with
  |true=>exact hv [.go,cE (p1.trans (aQ I a)),cE (p2.trans (aQ I b))]
  |false=>
   cases e:eN (jt h) v7 with
   |true=>exact hv [.go,cE (p1.trans (aQ I a)),cE (p2.trans (aQ I b)),cE (p3.trans (aQ I e)),.go,.go,.go,.go,.go]
   |false=>exact hv [.go,cE (p1.trans (aQ I a)),cE (p2.trans (aQ I b)),cE (p3.trans (aQ I e))]
theorem Qq (h l s:UInt64) (e:fp s 0=aq):b' (n+100) ⟨bq,d+2,sc⟩ (aE 6) [.aj h,.aj l,.aj s] w=
  I (.tup [.aj (n_ (rn l (kE l s)) (kE l s) (jt (ct h tX))),.aj (n_ (rn l (kE l s)) (kE l s) (jt h)),.aj (n_ (rn l (kE l s)) (kE l s) (jt (b! h tX)))],w):=by
 have aN:=λ(n:Nat) (b4 b h:UInt64)=>aiV (n:=n) (d:=d) (sc:=(aE 6).scope) (w:=w) b4 b h
 unfold kE
 cases a:kd l with
 |true=>exact hv [cE ((@lg (s) (0)).trans (aQ I e)),cE ((@HI (l)).trans (aQ I a)),.go,.go,.go,.go,.go,cZ (@aN (n+31) (b! (c8 4611686018427387904 l) (c8 l (ct 4607182418800017408 s))) (c8 l (ct 4607182418800017408 s)) (ct h 4599676419421066581)),cZ (@aN (n+30) (b! (c8 4611686018427387904 l) (c8 l (ct 4607182418800017408 s))) (c8 l (ct 4607182418800017408 s)) (h)),.go,cZ (@aN (n+29) (b! (c8 4611686018427387904 l) (c8 l (ct 4607182418800017408 s))) (c8 l (ct 4607182418800017408 s)) (b! h 4599676419421066581))]
 |false=>exact hv [cE ((@lg (s) (0)).trans (aQ I e)),cE ((@HI (l)).trans (aQ I a)),.go,.go,.go,.go,.go,.go,cZ (@aN (n+31) (b! (c8 4611686018427387904 l) (b! (ct l s) (c8 l s))) (b! (ct l s) (c8 l s)) (ct h 4599676419421066581)),cZ (@aN (n+30) (b! (c8 4611686018427387904 l) (b! (ct l s) (c8 l s))) (b! (ct l s) (c8 l s)) (h)),.go,cZ (@aN (n+29) (b! (c8 4611686018427387904 l) (b! (ct l s) (c8 l s))) (b! (ct l s) (c8 l s)) (b! h 4599676419421066581))]
theorem QV:b' (n+100) ⟨bq,d+1,sc⟩ (aE 3) [.aj r,.aj g,.aj b] w=I (.tup [.aj (fw r g b),.aj (mN r b (fw r g b)),.aj (mO r b (fw r g b))],w):=by
 exact hv [.go,.go,.go,.go,.go,.go,.go,.go,.go,.go,.go,.go,.go,.go,.go]
theorem zX (h:mg x= .fin neg m e) (aa:t4 neg m e=i):fO (ao "int") [.aj x]=I (.int i):=by
 have e:fO (ao "int") [.aj x]=truncF x:=aY
 rw[e,truncF,h,←aa]
noncomputable def HV:Nat→UInt64→UInt64→UInt64→UInt64→List U
 |0,v,p,q,t=>[.aj v,.aj t,.aj p]
 |1,v,p,q,t=>[.aj q,.aj v,.aj p]
 |2,v,p,q,t=>[.aj p,.aj v,.aj t]
 |3,v,p,q,t=>[.aj p,.aj q,.aj v]
 |4,v,p,q,t=>[.aj t,.aj p,.aj v]
 |_,v,p,q,t=>[.aj v,.aj p,.aj q]
theorem Qr (h s v:UInt64) (e:fp s 0=aq) {i m:Nat} {x:Int} (J:mg (c8 h kk)= .fin aq m x) (aa:t4 aq m x=(i:Int)) (aI:i≤100):
  b' (n+100) ⟨bq,d+1,sc⟩ (aE 9) [.aj h,.aj s,.aj v] w=I (.tup (HV (i%6) v (Cd v s) (yk v s (b! (c8 h kk) (fD i))) (CK v s (b! (c8 h kk) (fD i)))),w):=by
 have b1:=zX J aa
 have b2:b? .Sub (.aj (c8 h kk)) (.int (i:Int))=I (.aj (b! (c8 h kk) (fD i))):=by
  show (if small (i:Int) then I (U.aj (b! (c8 h kk) (fD i))) else ah)=_
  rw[jY (by exact ke aI rfl),a_ rfl]
 have b:(i:Int).fmod 6=((i%6:Nat):Int):=by
  rw[Jt _ ar]
  exact mi (Nat.ToInt.mod_congr rfl rfl)
 have c:=mod_eq ar b
 have a:i%6<6:=iC _ ar
 clear b
 generalize i%6=j at c a⊢
 let A:List Fact→List Fact:=λf=>cE ((lg s 0).trans (aQ I e)):: .go::aM b1:: .go::aM b2:: .go:: .go:: .go:: .go:: .go:: .go:: .go:: .go:: .go::aM c:: .go::f
 rcases Ha a with rfl|rfl|rfl|rfl|rfl|rfl
 ·exact hv (A [])
 ·exact hv (A [.go])
 ·exact hv (A [.go,.go])
 ·exact hv (A [.go,.go,.go])
 ·exact hv (A [.go,.go,.go,.go])
 ·exact hv (A [.go,.go,.go,.go,.go])
def lI (d:Nat):bY:=⟨bq,d,(aE 4).scope⟩
def j9 (y i q r g b:UInt64):aA:=[(S "y",.val (.aj y)),(S "i",.val (.aj i)),(S "q",.val (.aj q)),(S "r",.val (.aj r)),(S "g",.val (.aj g)),(S "b",.val (.aj b))]
def rm (x:UInt64):UInt64:=cond (eN x 0) 0 x
def q? (x:UInt64):UInt64:=cond (eN 4607182418800017408 x) 4607182418800017408 x
theorem EN (x:UInt64):q? (rm x)=hi x:=by
 unfold q? rm hi lq ez
 cases eN x 0 with
 |true=>rw[uL,uL];rw[show eN 4607182418800017408 0=aq by decide+kernel];rfl
 |false=>rfl
section
variable (y i q r g b:UInt64)
theorem aiL (n:Nat):ex (n+40) (lI d) (a6 (aE 4).body 3) (j9 y i q r g b) w=I (.next,j9 y i q (rm r) (g) (b),w):=by
 unfold rm
 cases e:eN r 0 with
 |true=>exact cg [cE ((@vF (r) (0)).trans (aQ I e))]
 |false=>exact cg [cE ((@vF (r) (0)).trans (aQ I e))]
theorem aiM (n:Nat):ex (n+40) (lI d) (a6 (aE 4).body 4) (j9 y i q r g b) w=I (.next,j9 y i q (r) (rm g) (b),w):=by
 unfold rm
 cases e:eN g 0 with
 |true=>exact cg [cE ((@vF (g) (0)).trans (aQ I e))]
 |false=>exact cg [cE ((@vF (g) (0)).trans (aQ I e))]
theorem aiN (n:Nat):ex (n+40) (lI d) (a6 (aE 4).body 5) (j9 y i q r g b) w=I (.next,j9 y i q (r) (g) (rm b),w):=by
 unfold rm
 cases e:eN b 0 with
 |true=>exact cg [cE ((@vF (b) (0)).trans (aQ I e))]
 |false=>exact cg [cE ((@vF (b) (0)).trans (aQ I e))]
theorem aiO (n:Nat):ex (n+40) (lI d) (a6 (aE 4).body 6) (j9 y i q r g b) w=I (.next,j9 y i q (q? r) (g) (b),w):=by
 unfold q?
 cases e:eN 4607182418800017408 r with
 |true=>exact cg [cE ((@vE (r) (4607182418800017408)).trans (aQ I e))]
 |false=>exact cg [cE ((@vE (r) (4607182418800017408)).trans (aQ I e))]
theorem aiP (n:Nat):ex (n+40) (lI d) (a6 (aE 4).body 7) (j9 y i q r g b) w=I (.next,j9 y i q (r) (q? g) (b),w):=by
 unfold q?
 cases e:eN 4607182418800017408 g with
 |true=>exact cg [cE ((@vE (g) (4607182418800017408)).trans (aQ I e))]
 |false=>exact cg [cE ((@vE (g) (4607182418800017408)).trans (aQ I e))]
theorem aiQ (n:Nat):ex (n+40) (lI d) (a6 (aE 4).body 8) (j9 y i q r g b) w=I (.next,j9 y i q (r) (g) (q? b),w):=by
 unfold q?
 cases e:eN 4607182418800017408 b with
 |true=>exact cg [cE ((@vE (b) (4607182418800017408)).trans (aQ I e))]
 |false=>exact cg [cE ((@vE (b) (4607182418800017408)).trans (aQ I e))]
theorem aiS (n:Nat):cw (n+99) (lI d) (aE 4).body [(S "y",.val (.aj y)),(S "i",.val (.aj i)),(S "q",.val (.aj q))] w=cw (n+96) (lI d) ((aE 4).body.drop 3) (j9 y i q (lj y i q) (mG y i q) (oo y i q)) w:=by
 have hd:(aE 4).body=a6 (aE 4).body 0::a6 (aE 4).body 1::a6 (aE 4).body 2::(aE 4).body.drop 3:=aY
 have a: ∀n,ex (n+40) (lI d) (a6 (aE 4).body 0) [(S "y",.val (.aj y)),(S "i",.val (.aj i)),(S "q",.val (.aj q))] w=I (.next,[(S "y",.val (.aj y)),(S "i",.val (.aj i)),(S "q",.val (.aj q)),(S "r",.val (.aj (lj y i q)))],w):=by
  intro n
  exact cg [.go,.go,.go,.go]
 have J: ∀n,ex (n+40) (lI d) (a6 (aE 4).body 1) [(S "y",.val (.aj y)),(S "i",.val (.aj i)),(S "q",.val (.aj q)),(S "r",.val (.aj (lj y i q)))] w=I (.next,[(S "y",.val (.aj y)),(S "i",.val (.aj i)),(S "q",.val (.aj q)),(S "r",.val (.aj (lj y i q))),(S "g",.val (.aj (mG y i q)))],w):=by
  intro n
  exact cg [.go,.go,.go,.go]
 have aa: ∀n,ex (n+40) (lI d) (a6 (aE 4).body 2) [(S "y",.val (.aj y)),(S "i",.val (.aj i)),(S "q",.val (.aj q)),(S "r",.val (.aj (lj y i q))),(S "g",.val (.aj (mG y i q)))] w=I (.next,j9 y i q (lj y i q) (mG y i q) (oo y i q),w):=by
  intro n
  exact cg [.go,.go,.go,.go]
 rw[hd,cN (D:=98) a ar,cN (D:=97) J ar,cN (D:=96) aa ar]
 rfl
theorem aiR (n:Nat):ex (n+40) (lI d) (a6 (aE 4).body 9) (j9 y i q r g b) w=I (.ret (.tup [.aj r,.aj g,.aj b]),j9 y i q r g b,w):=by
 exact cg []
theorem Qt:b' (n+100) ⟨bq,d+1,sc⟩ (aE 4) [.aj y,.aj i,.aj q] w=I (.tup [.aj (hi (lj y i q)),.aj (hi (mG y i q)),.aj (hi (oo y i q))],w):=by
 have aC:kI (aE 4)=[S "y",S "i",S "q"]:=aY
 have hd:(aE 4).body.drop 3=[a6 (aE 4).body 3,a6 (aE 4).body 4,a6 (aE 4).body 5,a6 (aE 4).body 6,a6 (aE 4).body 7,a6 (aE 4).body 8,a6 (aE 4).body 9]:=aY
 have bH:([S "y",S "i",S "q"]:List Str).zip ([U.aj y,.aj i,.aj q].map Slot.val)=[(S "y",.val (.aj y)),(S "i",.val (.aj i)),(S "q",.val (.aj q))]:=rfl
 rw[uH (by rw[aC];rfl),aC,bH]
 have h:=aiS (d:=d) (w:=w) y i q n
 rw[hd,cN (D:=95) (aiL (d:=d) (w:=w) y i q _ _ _) ar,cN (D:=94) (aiM (d:=d) (w:=w) y i q _ _ _) ar,cN (D:=93) (aiN (d:=d) (w:=w) y i q _ _ _) ar,cN (D:=92) (aiO (d:=d) (w:=w) y i q _ _ _) ar,cN (D:=91) (aiP (d:=d) (w:=w) y i q _ _ _) ar,cN (D:=90) (aiQ (d:=d) (w:=w) y i q _ _ _) ar,lL (D:=89) (aiR (d:=d) (w:=w) y i q _ _ _) ar,EN,EN,EN] at h
 unfold lI at h
 rw[h]
 rfl
end
noncomputable def wA (n:Nat):U:= .int ((n*1048576:Nat):Int)
theorem kF (h:small b=ab):b? .Mult (.int a) (.int b)=I (.int (a*b)):=a_ h
theorem qd (h:eD x n):fO (ao "int") [.aj (ct (c8 x 4715268809856909312) 4602678819172646912)]=I (wA n):=by
 obtain ⟨m,e,J,aa⟩:=h
 exact zX J aa
theorem pR (h:a<1000):b? .Div (wA a) (.aj 4715268809856909312)=I (.aj (c7 a)):=by
 show (if small ((a*1048576:Nat):Int)∧ ¬kT 4715268809856909312 then I (U.aj (d' (fD ((a*1048576:Nat):Int)) 4715268809856909312)) else ah)=_
 rw[jY (by exact bE (lm 1048576 (e8 h))),a_ ⟨rfl,by decide+kernel⟩]
 rfl
def l5 (a b c:Nat):U:= .list [wA a,wA b,wA c]
def i' (x:Nat×Nat×Nat):U:= .list [aT x.1,aT x.2.1,aT x.2.2]
theorem aeK (m k b a1 a2 c b1 b2 v:Int) (g:small b=ab) (J:small a1=ab) (aa:small a2=ab) (ay:small c=ab) (e:small b1=ab) (f:small b2=ab):b' (n+80) ⟨bq,d+1,sc⟩ (aE 16) [.list [.int m,.int k],.list [.list [.int b,.int a1,.int a2],.list [.int c,.int b1,.int b2]],.int v] w=
  I (.list [.int ((m*b+k*c+v)*1048576),.int ((m*a1+k*b1+v)*1048576),.int ((m*a2+k*b2+v)*1048576)],w):=by
 exact hv [.go,.go,.go,.go,.go,.go,aM (kF (a:=m) g),.go,.go,.go,aM (kF (a:=k) ay),.go,.go,.go,.go,.go,.go,aM (kF (a:=m) J),.go,.go,.go,aM (kF (a:=k) e),.go,.go,.go,.go,.go,.go,aM (kF (a:=m) aa),.go,.go,.go,aM (kF (a:=k) f),.go,.go,.go]
theorem IE (x y z:UInt64) (X Y Z:U) (af:fO (ao "int") [.aj (ct (c8 x 4715268809856909312) 4602678819172646912)]=I X) (a9:fO (ao "int") [.aj (ct (c8 y 4715268809856909312) 4602678819172646912)]=I Y) (bH:fO (ao "int") [.aj (ct (c8 z 4715268809856909312) 4602678819172646912)]=I Z):
  b' (n+80) ⟨bq,d+1,sc⟩ (aE 17) [.tup [.aj x,.aj y,.aj z]] w=I (.list [X,Y,Z],w):=by
 exact hv [.go,.go,.go,.go,aM af,.go,.go,aM a9,.go,.go,aM bH]
theorem yH (A B C K:U) (x y z h l s:UInt64) (b:b? .Div A (.aj 4715268809856909312)=I (.aj x)) (a:b? .Div B (.aj 4715268809856909312)=I (.aj y)) (c:b? .Div C (.aj 4715268809856909312)=I (.aj z))
  (ag: ∀n,b' (n+100) ⟨bq,d+1,(aE 18).scope⟩ (aE 5) [.aj x,.aj y,.aj z] w=I (.tup [.aj h,.aj l,.aj s],w)) (av:fO (ao "int") [.aj (ct (c8 h 4787326403894837248) 4602678819172646912)]=I K):
  b' (n+200) ⟨bq,d+2,sc⟩ (aE 18) [.list [A,B,C]] w=I (K,w):=by
 exact hv [.go,.go,aM b,aM a,aM c,cZ (ag (n+88)),.go,.go,.go,aM av]
theorem yA (A B C K:U) (x y z h l s:UInt64) (b:b? .Div A (.aj 4715268809856909312)=I (.aj x)) (a:b? .Div B (.aj 4715268809856909312)=I (.aj y)) (c:b? .Div C (.aj 4715268809856909312)=I (.aj z))
  (ag: ∀n,b' (n+100) ⟨bq,d+1,(aE 19).scope⟩ (aE 8) [.aj x,.aj y,.aj z] w=I (.tup [.aj h,.aj l,.aj s],w)) (av:fO (ao "int") [.aj (ct (c8 h 4787326403894837248) 4602678819172646912)]=I K):
  b' (n+200) ⟨bq,d+2,sc⟩ (aE 19) [.list [A,B,C]] w=I (K,w):=by
 exact hv [.go,.go,aM b,aM a,aM c,cZ (ag (n+88)),.go,.go,.go,aM av]
theorem TV (A B C P Q:U) (x y z h l s a1 b1 cn a2 b2 c5:UInt64) (e:b? .Div A (.aj 4715268809856909312)=I (.aj x)) (c:b? .Div B (.aj 4715268809856909312)=I (.aj y)) (j:b? .Div C (.aj 4715268809856909312)=I (.aj z))
  (J: ∀n,b' (n+100) ⟨bq,d+2,(aE 20).scope⟩ (aE 5) [.aj x,.aj y,.aj z] w=I (.tup [.aj h,.aj l,.aj s],w))
  (aa: ∀n,b' (n+100) ⟨bq,d+2,(aE 20).scope⟩ (aE 6) [.aj h,.aj l,.aj s] w=I (.tup [.aj a1,.aj b1,.aj cn],w))
  (g a g3:UInt64) (ay: ∀n,b' (n+100) ⟨bq,d+2,(aE 20).scope⟩ (aE 8) [.aj x,.aj y,.aj z] w=I (.tup [.aj g,.aj a,.aj g3],w))
  (b: ∀n,b' (n+100) ⟨bq,d+2,(aE 20).scope⟩ (aE 9) [.aj g,.aj a,.aj g3] w=I (.tup [.aj a2,.aj b2,.aj c5],w))
  (f: ∀n,b' (n+100) ⟨bq,d+2,(aE 20).scope⟩ (aE 17) [.tup [.aj a1,.aj b1,.aj cn]] w=I (P,w))
  (i: ∀n,b' (n+100) ⟨bq,d+2,(aE 20).scope⟩ (aE 17) [.tup [.aj a2,.aj b2,.aj c5]] w=I (Q,w)):
  b' (n+200) ⟨bq,d+3,sc⟩ (aE 20) [.list [A,B,C]] w=I (.list [P,Q],w):=by
 exact hv [.go,.go,aM e,aM c,aM j,cZ (J (n+95)),cZ (aa (n+93)),cZ (ay (n+93)),cZ (f (n+89)),cZ (b (n+86)),cZ (i (n+88))]
end Mine
end
noncomputable section
open PySem
namespace Mine
noncomputable def Ku:Nat:=4787326403894837248
noncomputable def Qn:UInt64:=4787326403894837248
theorem aa7:Ku=Qn.toNat:=bx
def B_ (h:UInt64):UInt64:=ct (c8 h Qn) pb
def B9 (h:Nat):Nat:=st (g4 h Ku) λx=>f? x ch
theorem OC (h:UInt64):B9 h.toNat=(B_ h).toNat:=by
 unfold B9 B_;rw[aa7,jl,bu,dm.2.2.2.2.2.1,h1]
def B7 (a b c:Nat):Bool:=pre a b c (λZ Z=>aq) λd g f h=>
 both (vz (B9 h)) (both (both (rr d) (st (lO f d) λs=>cond (jX s 0) aq (Gp h s d a b c)))
  (st (f? d g) λi=>st (lO i c5) λl=>HU d g l f i λs=>cond (jX s 0) aq (st (BQ l s) λe=>st (BP l e) λb4=>F9 b4 e h a b c)))
def tW (a b c:Nat):Nat:=st (ti a) λr=>st (ti b) λg=>st (ti c) λd=>st (BS r g d) λe=>st (BX r g d) λi=>st (fA e i) λf=>st (Bj e f r g d) λh=>st (B9 h) λy=>sI y
def jW (a b c:Nat):UInt64:=b6 (c7 a) (c7 b) (c7 c)
def nT (a b c:Nat):UInt64:=cX (c7 a) (c7 b) (c7 c)
def vK (a b c:Nat):UInt64:=b! (jW a b c) (nT a b c)
def Bi (a b c:Nat):UInt64:=qa (jW a b c) (vK a b c) (c7 a) (c7 b) (c7 c)
def CE (a b c:Nat):UInt64:=o5 (jW a b c) (nT a b c) (fX (jW a b c) (nT a b c)) (vK a b c) (ct (jW a b c) (nT a b c))
structure wD (a b c:Nat):Prop where
 ne:fp (nT a b c) (jW a b c)=aq
 rp:hL (vK a b c)=ab
 e9: ∃m e,mg (B_ (Bi a b c))= .fin aq m e∧t4 aq m e=(tW a b c:Int)
 nm:hL (jW a b c)=ab
 jZ:fp (d' (vK a b c) (jW a b c)) lq=aq
 bv:zz (Bi a b c) (d' (vK a b c) (jW a b c)) (jW a b c) a b c
 qr:cond (kd (fX (jW a b c) (nT a b c))) (hL (ct (jW a b c) (nT a b c))) (hL (pQ (jW a b c) (nT a b c)))=ab
 ef:fp (CE a b c) lq=aq
 EC:ux (rn (fX (jW a b c) (nT a b c)) (kE (fX (jW a b c) (nT a b c)) (CE a b c))) (kE (fX (jW a b c) (nT a b c)) (CE a b c)) (Bi a b c) a b c
theorem aiB (a b c:Nat):tW a b c=sI (B_ (Bi a b c)).toNat:=by
 unfold tW
 rw[u_,u_,u_,bu,bu,bu,NV,bu,N0,bu,gm,bu,M1,bu,OC,bu]
 rfl
theorem ES {a b c:Nat} (h:B7 a b c=ab):wD a b c:=by
 rcases ae6 h with ⟨_,h⟩|⟨J,aa,ay⟩
 ·exact bF h cv
 ·obtain ⟨t,ay⟩:=e3.mp ay
  obtain ⟨v,ay⟩:=e3.mp ay
  obtain ⟨v1,d⟩:=e3.mp v
  rw[p4,bu] at d
  obtain ⟨d,g⟩:=cond_false d
  have d:jX (d' (vK a b c) (jW a b c)).toNat lq.toNat=false:=d
  rw[h1,bu,dm.2.2.1,p4,bu] at ay
  obtain ⟨i,e⟩:=aga ay
  obtain ⟨e,f⟩:=cond_false e
  rw[NR,bu,NQ,bu] at f
  have e:jX (CE a b c).toNat lq.toNat=false:=e
  rw[OC] at t
  rw[Al] at d e
  rw[B4] at v1
  exact ⟨J,aa,aiB a b c▸AG t,v1,d,ρ g,i,e,Z2 f⟩
noncomputable def dz (i:Nat):Nat×Nat×Nat:=match i with
 |0=>(1,0,0)
 |1=>(1,1,0)
 |2=>(0,1,0)
 |3=>(0,1,1)
 |4=>(0,0,1)
 |_=>(1,0,1)
noncomputable def lh (m k e f w:Nat):Nat:=dw (dw (gS m e) (gS k f)) w
def uJ (f:Nat→Nat→Nat→Bool) (p q:Nat×Nat×Nat) (w m k:Nat):Bool:=st (lh m k p.1 q.1 w) λa=>st (lh m k p.2.1 q.2.1 w) λb=>st (lh m k p.2.2 q.2.2 w) λc=>f a b c
def tree (f:Nat→Nat→Bool) (d:Nat):Nat→Nat→Nat→Nat→Bool:=Nat.rec (λZ Z Z Z=>ab) (λZ c m k e dQ=>st (dw m e) λa=>st (dw k dQ) λb=>both (f a b) (both (c m k a b) (c a b e dQ))) d
noncomputable def firstOf (s:Nat):Nat:=s%6+s/6
noncomputable def otherOf (s:Nat):Nat:=s%6+1-s/6
def H7 (s w:Nat):Bool:=st (firstOf s%6) λi=>st (otherOf s%6) λj=>
 both (uJ B7 (dz i) (dz j) w 1 0) (both (uJ B7 (dz i) (dz j) w 0 1) (tree (λm k=>uJ B7 (dz i) (dz j) w m k) 5 1 0 0 1))
theorem U?:loop (λs=>loop (λw=>H7 s w) 4) 12=true:=bx
theorem agR {s w:Nat} (au:s<12) (hw:w<4):H7 s w=true:=l0 (l0 U? s au) w hw
noncomputable def w5:Nat:=4589168020290535424
noncomputable def cst:Nat:=4584664420663164928
noncomputable def UL:Nat:=4625196817309499392
noncomputable def yJ:UInt64:=4589168020290535424
noncomputable def yI:UInt64:=4584664420663164928
noncomputable def pa:UInt64:=4625196817309499392
theorem Nn:w5=yJ.toNat∧cst=yI.toNat∧UL=pa.toNat:=by refine ⟨?_,?_,?_⟩<;>decide+kernel
noncomputable def Pd (i v p q t:Nat) (k:Nat→Nat→Nat→Bool):Bool:=cond (dP i 0) (k v t p) (cond (dP i 1) (k q v p) (cond (dP i 2) (k p v t) (cond (dP i 3) (k p q v) (cond (dP i 4) (k t p v) (k v p q)))))
def C5 (r g b:Nat) (k:Nat→Nat→Nat→Bool):Bool:=st (IG r g b) λy=>st (GB r b y) λi=>st (GP r b y) λq=>k y i q
def BM (first rounds:Nat) (k:Nat→Nat→Nat→Bool):Bool:=st (f? (lO (jQ first) fQ) (jQ rounds)) λh=>st (g4 h fQ) λa=>both (vz a) (st (sI a) λi=>both (cm i 100) (st (jQ i) λz=>st (fA a z) λf=>
 st (Cc w5 cn) λp=>st (yj w5 cn f) λq=>st (CJ w5 cn f) λt=>st (lD i 6) λi=>Pd i w5 p q t λr g b=>C5 r g b k))
def A7 (other rounds:Nat) (k:Nat→Nat→Nat→Bool):Bool:=st (fA (lO (jQ other) fQ) (jQ rounds)) λh=>st (BQ cst cn) λa=>st (BP cst a) λb4=>
 st (mF (f? h yD)) λx=>st (v8 b4 a x) λr=>st (mF h) λx=>st (v8 b4 a x) λg=>st (mF (fA h yD)) λx=>st (v8 b4 a x) λb=>C5 r g b k
def QK (w:Nat):Nat:=(d' (fD w) pa).toNat
def KY (w y i q a b c:Nat):Bool:=st (QK w) λx=>st (f? y x) λy=>both (gq (tK y i q) a) (both (gq (sH y i q) b) (gq (so y i q) c))
def V0 (p d:Nat×Nat×Nat) (w y i q m k:Nat):Bool:=uJ (λa b c=>KY w y i q a b c) p d w m k
def z' (p a:Nat×Nat×Nat) (y i q m k:Nat):Bool:=loop (λw=>V0 p a w y i q m k) 4
def CR (g:Nat→Nat→Nat→Nat→Nat→Bool) (d:Nat):Nat→Nat→Nat→Nat→Nat→Nat→Nat→Nat→Nat→Nat→Bool:=Nat.rec (λZ Z Z Z Z Z Z Z Z Z=>ab)
 (λZ c y i q h j f m k e dQ=>st (f? y h) λY=>st (f? i j) λak=>st (f? q f) λQ=>st (dw m e) λa=>st (dw k dQ) λb=>both (g Y ak Q a b) (both (c y i q Y ak Q m k a b) (c Y ak Q h j f a b e dQ))) d
def Ks (y i q:Nat):Bool:=both (st (f? y c5) λy=>both (jX (tK y i q) cn) (both (jX (sH y i q) cn) (jX (so y i q) cn))) (st (fA y c5) λy=>both (jX (tK y i q) 0) (both (jX (sH y i q) 0) (jX (so y i q) 0)))
def H8 (s r:Nat):Bool:=st (firstOf s) λf=>st (otherOf s) λo=>BM f r λy i q=>A7 o r λb c a=>st (f%6) λf=>st (o%6) λo=>
 both (Ks y i q) (both (Ks b c a) (both (z' (dz f) (dz o) y i q 1 0) (both (z' (dz f) (dz o) b c a 0 1) (CR (z' (dz f) (dz o)) 5 y i q b c a 1 0 0 1))))
theorem Vd:loop (λs=>loop (λr=>H8 s r) 3) 12=true:=bx
theorem agS {s r:Nat} (au:s<12) (b8:r<3):H8 s r=true:=l0 (l0 Vd s au) r b8
noncomputable def o_ (b:Bool) (l:Nat×Nat):Nat×Nat:=cond b (l.1+l.2,l.2) (l.1,l.1+l.2)
def bg (w:List Bool):Nat×Nat:=w.foldr o_ (1,1)
noncomputable def gJ (p q:Nat×Nat):Nat×Nat:=(p.1+q.1,p.2+q.2)
noncomputable def sJ:List Bool→Nat×Nat→Nat×Nat→(Nat×Nat)×(Nat×Nat)
 |[],p,q=>(p,q)
 |true::w,p,q=>sJ w p (gJ p q)
 |false::w,p,q=>sJ w (gJ p q) q
noncomputable def jL:Nat→List (List Bool)
 |0=>[[]]
 |n+1=>[]::((jL n).map (ab::·)++(jL n).map (aq::·))
theorem ack: ∀w∈jL 4,gJ (sJ w (1,0) (0,1)).1 (sJ w (1,0) (0,1)).2=bg w:=bx
noncomputable def h6:List Bool→List Bool→Bool
 |[],_=>ab
 |_::_,[]=>aq
 |a::p,b::u=>(a==b)&&h6 p u
def rJ (s w m k:Nat):Nat:=st (firstOf s%6) λi=>st (otherOf s%6) λj=>st (lh m k (dz i).1 (dz j).1 w) λa=>st (lh m k (dz i).2.1 (dz j).2.1 w) λb=>st (lh m k (dz i).2.2 (dz j).2.2 w) λc=>tW a b c
noncomputable def kZ:Nat:=1099511627776
def QE (s w m k:Nat):Nat:=st (rJ s w 1 0) λz=>st (rJ s w m k) λt=>cond (cm 6 s) (lD (eR (dw z kZ) t) kZ) (lD (eR (dw t kZ) z) kZ)
def v! (s w:Nat) (l:Nat×Nat):Nat:=st l.1 λm=>st l.2 λk=>QE s w m k
noncomputable def ltN (a b:Nat):Bool:=cm (Nat.succ a) b
def PZ (s w:Nat) (p u:List Bool):Bool:=st (v! s w (sJ p (1,0) (0,1)).1) λa=>st (v! s w (bg p)) λb=>st (v! s w (sJ p (1,0) (0,1)).2) λc=>st (v! s w (bg u)) λx=>
 (both (ltN a x) (ltN x b)==h6 (p++[ab]) u)&&((both (ltN b x) (ltN x c)==h6 (p++[aq]) u)&&(both (ltN a x) (ltN x c)==h6 p u))
def OJ (s w:Nat) (p:List Bool):Bool:=st (bg p).1 λm=>st (bg p).2 λk=>st (gS (gS (rJ s w m k) 6) (dw m k)) λt=>
 st (gS (lD (cond (cm 6 s) (eR (gS (firstOf s) (dw m k)) k) (dw (gS (firstOf s) (dw m k)) k)) (gS 6 (dw m k))) kZ) λq=>
 cm (dw (eR t q) (eR q t)) (gS 6 (dw m k))
theorem KI:loop (λs=>loop (λw=>(jL 4).all λp=>OJ s w p&&(jL 4).all λu=>PZ s w p u) 4) 12=true:=bx
end Mine
end
noncomputable section
open PySem PySem.W PyProof.Rows PySem.Calls PySem.Spec PySem.SeqAt
namespace Mine
theorem agf (h:D? j v p q t a b c): ∃x y z,HV j v p q t=[.aj x,.aj y,.aj z]∧eD x a∧eD y b∧eD z c:=by
 rcases h with ⟨rfl,h⟩|⟨rfl,h⟩|⟨rfl,h⟩|⟨rfl,h⟩|⟨rfl,h⟩|⟨rfl,h⟩<;>exact ⟨_,_,_,rfl,h⟩
theorem aiD (C:wD a b c) (aJ:a<1000) (ae:b<1000) (ag:c<1000):b' (n+200) ⟨bq,d+2,sc⟩ (aE 18) [l5 a b c] w=I (aT (tW a b c),w):=by
 obtain ⟨m,e,J,aa⟩:=C.e9
 exact yH _ _ _ _ _ _ _ _ _ _ (pR aJ) (pR ae) (pR ag) (λn=>Mv (n:=n) (d:=d) (w:=w) C.ne C.qr C.rp) (zX J aa)
theorem ahe (C:wD a b c) (aJ:a<1000) (ae:b<1000) (ag:c<1000):b' (n+200) ⟨bq,d+2,sc⟩ (aE 19) [l5 a b c] w=I (aT (tW a b c),w):=by
 obtain ⟨m,e,J,aa⟩:=C.e9
 exact yA _ _ _ _ _ _ _ _ _ _ (pR aJ) (pR ae) (pR ag) (λn=>MY (n:=n) (d:=d) (w:=w) C.ne C.nm C.rp) (zX J aa)
theorem TX (C:wD a b c) (aJ:a<1000) (ae:b<1000) (ag:c<1000):b' (n+200) ⟨bq,d+3,sc⟩ (aE 20) [l5 a b c] w=I (.list [l5 a b c,l5 a b c],w):=by
 obtain ⟨i,m,e,f⟩:=C.bv.ex
 have g1:=f.1
 have j:=f.2.1
 have k:=f.2.2.1
 have h:=f.2.2.2
 obtain ⟨x,y,z,es,p,o,q⟩:=agf h
 exact TV _ _ _ _ _ _ _ _ _ _ _ _ _ _ _ _ _ (pR aJ) (pR ae) (pR ag) (λn=>Mv (n:=n) (d:=d+1) (w:=w) C.ne C.qr C.rp) (λn=>Qq (n:=n) (d:=d) (w:=w) _ _ _ C.ef) _ _ _
  (λn=>MY (n:=n) (d:=d+1) (w:=w) C.ne C.nm C.rp) (λn=>(Qr (n:=n) (d:=d+1) (w:=w) _ _ _ C.jZ g1 j k).trans (aQ (λl=>I (U.tup l,w)) es))
  (λn=>IE (n:=n+20) (d:=d+1) (w:=w) _ _ _ _ _ _ (qd C.EC.r) (qd C.EC.g) (qd C.EC.b)) (λn=>IE (n:=n+20) (d:=d+1) (w:=w) _ _ _ _ _ _ (qd p) (qd o) (qd q))
def AU (f r:Nat):UInt64:=ct (d' (fD f) kk) (fD r)
def AS (f r:Nat):UInt64:=b! (d' (fD f) kk) (fD r)
theorem ne1:fp ez 0=false:=bx
theorem age (aI:i<6) {v p q t:UInt64} {k:Nat→Nat→Nat→Bool} (h:Pd i v.toNat p.toNat q.toNat t.toNat k=ab): ∃x y z,HV i v p q t=[.aj x,.aj y,.aj z]∧k x.toNat y.toNat z.toNat=true:=by
 rcases Ha aI with rfl|rfl|rfl|rfl|rfl|rfl<;>exact ⟨_,_,_,rfl,h⟩
theorem QU (h:C5 r.toNat g.toNat b.toNat k=ab):k (fw r g b).toNat (mN r b (fw r g b)).toNat (mO r b (fw r g b)).toNat=true:=by
 unfold C5 at h
 rwa [y_eq,bu,Ψ,bu,aaR,bu] at h
theorem NM (h:BM f r k=ab): ∃R G B:UInt64,(∀{n d sc w},b' (n+100) ⟨bq,d+1,sc⟩ (aE 9) [.aj (AU f r),.aj ez,.aj yJ] w=I (.tup [.aj R,.aj G,.aj B],w))∧
  k (fw R G B).toNat (mN R B (fw R G B)).toNat (mO R B (fw R G B)).toNat=true:=by
 unfold BM jQ at h
 rw[dm.2.2.2.2.1,Nn.1,dm.2.1,p4,h1,bu,jl,bu,e3,bu,e3,bu,gm,bu,OE,bu,HN,bu,PW,bu,bu] at h
 obtain ⟨m,e,a⟩:=AG h.1
 have J:=a.1
 have aa:=a.2
 have aI:=dV h.2.1
 obtain ⟨x,y,z,es,av⟩:=age (iC _ ar) h.2.2
 refine ⟨x,y,z,λ{n d sc w}=> ?_,QU av⟩
 exact (Qr (n:=n) (d:=d) (sc:=sc) (w:=w) (AU f r) ez yJ ne1 J aa aI).trans (aQ (λl=>I (U.tup l,w)) es)
theorem Mo (h:A7 f r k=ab): ∃R G B:UInt64,(∀{n d sc w},b' (n+100) ⟨bq,d+2,sc⟩ (aE 6) [.aj (AS f r),.aj yI,.aj ez] w=I (.tup [.aj R,.aj G,.aj B],w))∧
  k (fw R G B).toNat (mN R B (fw R G B)).toNat (mO R B (fw R G B)).toNat=true:=by
 unfold A7 jQ at h
 rw[dm.2.2.2.2.1,Nn.2.1,dm.2.1,dm.2.2.2.2.2.2.2.1,p4,gm,bu,NR,bu,NQ,bu,h1,AF,bu,AF,gm,AF] at h
 have e: ∀x,(jG x (c_ fN)).snd=jt x:=λZ=>rfl
 rw[e,e,e,v_eq,bu,bu,v_eq,bu,bu,v_eq,bu] at h
 exact ⟨_,_,_,λ{n d sc w}=>Qq (n:=n) (d:=d) (sc:=sc) (w:=w) (AS f r) yI ez ne1,QU h⟩
noncomputable abbrev kq:=UInt64×UInt64×UInt64
noncomputable def jK (p q:kq):kq:=(ct p.1 q.1,ct p.2.1 q.2.1,ct p.2.2 q.2.2)
noncomputable def d6 {X:Type} (mid:X→X→X):List Bool→X→X→X×X
 |[],p,q=>(p,q)
 |true::w,p,q=>d6 mid w p (mid p q)
 |false::w,p,q=>d6 mid w (mid p q) q
theorem LP: ∀(u:List Bool) (p q:Nat×Nat),sJ u p q=d6 gJ u p q:=by
 intro u
 induction u with
 |nil=>intros;rfl
 |cons b u a=>intro p q;induction b using d1<;>exact a _ _
theorem aiu: ∀{d m k c dQ:Nat},tree f d m k c dQ=ab→ ∀u:List Bool,u.length<d→f (gJ (d6 gJ u (m,k) (c,dQ)).1 (d6 gJ u (m,k) (c,dQ)).2).1 (gJ (d6 gJ u (m,k) (c,dQ)).1 (d6 gJ u (m,k) (c,dQ)).2).2=true:=by
 intro d
 induction d with
 |zero=>intro _ _ _ _ _ u h;exact bF h (zo _)
 |succ d e=>
  intro m k c dQ h u b0
  have h:(st (dw m c) λa=>st (dw k dQ) λb=>both (f a b) (both (tree f d m k a b) (tree f d a b c dQ)))=true:=h
  rw[bu,bu,e3,e3] at h
  induction u using cj with
  |nil=>exact h.1
  |cons b u=>
   have g:u.length<d:=Sk b0
   induction b using d1 with
   |true=>exact e h.2.1 u g
   |false=>exact e h.2.2 u g
theorem ait: ∀{d:Nat} {p q:kq} {m k c dQ:Nat},CR g d p.1.toNat p.2.1.toNat p.2.2.toNat q.1.toNat q.2.1.toNat q.2.2.toNat m k c dQ=ab→ ∀u:List Bool,u.length<d→
  g (jK (d6 jK u p q).1 (d6 jK u p q).2).1.toNat (jK (d6 jK u p q).1 (d6 jK u p q).2).2.1.toNat (jK (d6 jK u p q).1 (d6 jK u p q).2).2.2.toNat (gJ (d6 gJ u (m,k) (c,dQ)).1 (d6 gJ u (m,k) (c,dQ)).2).1 (gJ (d6 gJ u (m,k) (c,dQ)).1 (d6 gJ u (m,k) (c,dQ)).2).2=true:=by
 intro d
 induction d with
 |zero=>intro _ _ _ _ _ _ _ u h;exact bF h (zo _)
 |succ d e=>
  intro p q m k c dQ h u b0
  have h:(st (f? p.1.toNat q.1.toNat) λY=>st (f? p.2.1.toNat q.2.1.toNat) λak=>st (f? p.2.2.toNat q.2.2.toNat) λQ=>st (dw m c) λa=>st (dw k dQ) λb=>both (g Y ak Q a b) (both (CR g d p.1.toNat p.2.1.toNat p.2.2.toNat Y ak Q m k a b) (CR g d Y ak Q q.1.toNat q.2.1.toNat q.2.2.toNat a b c dQ)))=true:=h
  rw[h1,bu,h1,bu,h1,bu,bu,bu,e3,e3] at h
  induction u using cj with
  |nil=>exact h.1
  |cons b u=>
   have f:u.length<d:=Sk b0
   induction b using d1 with
   |true=>exact e (p:=p) (q:=jK p q) h.2.1 u f
   |false=>exact e (p:=jK p q) (q:=q) h.2.2 u f
theorem ks: ∀{n:Nat} {u:List Bool},u.length≤n→u∈jL n:=by
 intro n
 induction n with
 |zero=>intro u h;rw[Dt.mp (za.mp h)];exact ep.mpr rfl
 |succ n a=>
  intro u h
  induction u using cj with
  |nil=>exact eQ
  |cons b u=>
   have b0:=a (um h)
   refine fb _ (ob.mpr ?_)
   induction b using d1 with
   |true=>exact .inl (hc.mpr ⟨u,b0,rfl⟩)
   |false=>exact .inr (hc.mpr ⟨u,b0,rfl⟩)
theorem Hj (h:u.length≤4):gJ (d6 gJ u (1,0) (0,1)).1 (d6 gJ u (1,0) (0,1)).2=bg u:=by
 have:=ack u (ks h)
 rwa [LP] at this
def vB (s a!:Nat) (l:Nat×Nat):Nat:=lh l.1 l.2 (dz (firstOf s%6)).1 (dz (otherOf s%6)).1 a!
def vC (s a!:Nat) (l:Nat×Nat):Nat:=lh l.1 l.2 (dz (firstOf s%6)).2.1 (dz (otherOf s%6)).2.1 a!
def vD (s a!:Nat) (l:Nat×Nat):Nat:=lh l.1 l.2 (dz (firstOf s%6)).2.2 (dz (otherOf s%6)).2.2 a!
abbrev SP (s a!:Nat) (l:Nat×Nat):Prop:=wD (vB s a! l) (vC s a! l) (vD s a! l)
theorem z8 (h:uJ f p q w m k=ab):f (lh m k p.1 q.1 w) (lh m k p.2.1 q.2.1 w) (lh m k p.2.2 q.2.2 w)=true:=by
 unfold uJ at h
 rwa [bu,bu,bu] at h
def iW (l:Nat×Nat):Prop:=l=(1,0)∨l=(0,1)∨ ∃u:List Bool,u.length≤4∧l=bg u
theorem ER (au:s<12) (hw:a!<4) {l:Nat×Nat} (a:iW l):SP s a! l:=by
 have h:=agR au hw
 unfold H7 at h
 rw[bu,bu,e3,e3] at h
 rcases a with rfl|rfl|⟨u,b0,rfl⟩
 ·exact ES (z8 h.1)
 ·exact ES (z8 h.2.1)
 ·have:=aiu h.2.2 u (Ju b0)
  rw[Hj b0] at this
  exact ES (z8 this)
theorem z!: ∀i,(dz i).1≤1∧(dz i).2.1≤1∧(dz i).2.2≤1
 |0=>ar
 |1=>ar
 |2=>ar
 |3=>ar
 |4=>ar
 |_+5=>by simp[dz]
theorem vh (a:iW l):l.1≤20∧l.2≤20∧0<l.1+l.2:=by
 rcases a with rfl|rfl|⟨u,b0,rfl⟩
 ·decide
 ·decide
 ·exact (by decide+kernel: ∀u∈jL 4,(bg u).1≤20∧(bg u).2≤20∧0<(bg u).1+(bg u).2) u (ks b0)
theorem HK (hm:m≤20) (av:k≤20) (he:e≤1) (a:f≤1) (hw:w<4):lh m k e f w<1000:=by
 have J:m*e≤20*1:=Jv hm he
 have aa:k*f≤20*1:=Jv av a
 show m*e+k*f+w<1000
 exact bE (cc (cc (e8 hw) J) aa)
theorem HE (hw:a!<4) {l:Nat×Nat} (d:iW l):vB s a! l<1000∧vC s a! l<1000∧vD s a! l<1000:=by
 have c:=vh d
 have J:=c.1
 have aa:=c.2.1
 have a:=z! (firstOf s%6)
 have b:=z! (otherOf s%6)
 exact ⟨HK J aa a.1 b.1 hw,HK J aa a.2.1 b.2.1 hw,HK J aa a.2.2 b.2.2 hw⟩
structure wF (s a!:Nat) (p:kq) (l:Nat×Nat):Prop where
 r:eD (hi (lj (ct p.1 (d' (fD a!) pa)) p.2.1 p.2.2)) (vB s a! l)
 g:eD (hi (mG (ct p.1 (d' (fD a!) pa)) p.2.1 p.2.2)) (vC s a! l)
 b:eD (hi (oo (ct p.1 (d' (fD a!) pa)) p.2.1 p.2.2)) (vD s a! l)
theorem EW (hw:a!<4) {p:kq} {l:Nat×Nat} (h:z' (dz (firstOf s%6)) (dz (otherOf s%6)) p.1.toNat p.2.1.toNat p.2.2.toNat l.1 l.2=ab):wF s a! p l:=by
 have h:=z8 (l0 h a! hw)
 unfold KY QK at h
 rw[bu,h1,bu,e3,e3,HO,Fw,EA] at h
 exact ⟨tj h.1,tj h.2.1,tj h.2.2⟩
structure D9 (s r:Nat) (p q:kq):Prop where
 low: ∃R G B:UInt64,(∀{n d sc w},b' (n+100) ⟨bq,d+1,sc⟩ (aE 9) [.aj (AU (firstOf s) r),.aj ez,.aj yJ] w=I (.tup [.aj R,.aj G,.aj B],w))∧p=(fw R G B,mN R B (fw R G B),mO R B (fw R G B))
 high: ∃R G B:UInt64,(∀{n d sc w},b' (n+100) ⟨bq,d+2,sc⟩ (aE 6) [.aj (AS (otherOf s) r),.aj yI,.aj ez] w=I (.tup [.aj R,.aj G,.aj B],w))∧q=(fw R G B,mN R B (fw R G B),mO R B (fw R G B))
 hE: ∀{a!},a!<4→wF s a! p (1,0)
 cn: ∀{a!},a!<4→wF s a! q (0,1)
 V!: ∀{a!},a!<4→ ∀u:List Bool,u.length≤4→wF s a! (jK (d6 jK u p q).1 (d6 jK u p q).2) (bg u)
theorem W8 (au:s<12) (b8:r<3): ∃p q,D9 s r p q:=by
 have h:=agS au b8
 unfold H8 at h
 rw[bu,bu] at h
 obtain ⟨R,G,B,J,h⟩:=NM h
 obtain ⟨a,b,B',aa,h⟩:=Mo h
 rw[bu,bu,e3,e3,e3,e3] at h
 refine ⟨_,_,⟨_,_,_,J,rfl⟩,⟨_,_,_,aa,rfl⟩,λhw=>EW hw h.2.2.1,λhw=>EW hw h.2.2.2.1,λhw u b0=> ?_⟩
 have:=ait (p:=(fw R G B,mN R B (fw R G B),mO R B (fw R G B))) (q:=(fw a b B',mN a B' (fw a b B'),mO a B' (fw a b B'))) h.2.2.2.2 u (Ju b0)
 rw[Hj b0] at this
 exact EW hw this
def zZ (y i q:Nat):Bool:=both (st (f? y c5) λy=>both (dP (tK y i q) cn) (both (dP (sH y i q) cn) (dP (so y i q) cn))) (st (fA y c5) λy=>both (dP (tK y i q) 0) (both (dP (sH y i q) 0) (dP (so y i q) 0)))
def Pz (s r:Nat):Bool:=BM (firstOf s) r λy i q=>A7 (otherOf s) r λb c a=>both (zZ y i q) (zZ b c a)
theorem U':loop (λs=>loop (λr=>Pz s r) 3) 12=true:=bx
structure D5 (p:kq):Prop where
 w:hi (lj (ct p.1 kO) p.2.1 p.2.2)=ez∧hi (mG (ct p.1 kO) p.2.1 p.2.2)=ez∧hi (oo (ct p.1 kO) p.2.1 p.2.2)=ez
 b:hi (lj (b! p.1 kO) p.2.1 p.2.2)=0∧hi (mG (b! p.1 kO) p.2.1 p.2.2)=0∧hi (oo (b! p.1 kO) p.2.1 p.2.2)=0
theorem v5 {x:UInt64} {n:Nat} {y:UInt64} (a9:n=y.toNat) (h:dP x.toNat n=ab):x=y:=UInt64.toNat.inj ((kQ h).trans a9)
theorem Kt (h:zZ p.1.toNat p.2.1.toNat p.2.2.toNat=ab):D5 p:=by
 unfold zZ at h
 rw[dm.2.2.1,h1,bu,gm,bu,HO,Fw,EA,HO,Fw,EA,e3,e3,e3,e3,e3] at h
 obtain ⟨⟨a1,a2,gV⟩,b1,b2,a⟩:=h
 exact ⟨⟨v5 dm.2.1 a1,v5 dm.2.1 a2,v5 dm.2.1 gV⟩,v5 rfl b1,v5 rfl b2,v5 rfl a⟩
theorem Qg {R G B a b B':UInt64} {w:W} (h:(I (U.tup [.aj R,.aj G,.aj B],w):Option (U×W))=I (U.tup [.aj a,.aj b,.aj B'],w)):R=a∧G=b∧B=B':=by
 injection h with h
 injection h with h _
 injection h with h
 injection h with J h
 injection h with aa h
 injection h with ay h
 injection J with J
 injection aa with aa
 injection ay with ay
 exact ⟨J,aa,ay⟩
theorem UK (au:s<12) (b8:r<3) {p q:kq} (E:D9 s r p q):D5 p∧D5 q:=by
 have h:=l0 (l0 U' s au) r b8
 unfold Pz at h
 obtain ⟨R,G,B,J,h⟩:=NM h
 obtain ⟨f,g,B',aa,h⟩:=Mo h
 rw[e3] at h
 obtain ⟨e,i,b,g1,rfl⟩:=E.low
 obtain ⟨a,d,c,g2,rfl⟩:=E.high
 obtain ⟨rfl,rfl,rfl⟩:=Qg ((@J 0 0 default []).symm.trans (@g1 0 0 default []))
 obtain ⟨rfl,rfl,rfl⟩:=Qg ((@aa 0 0 default []).symm.trans (@g2 0 0 default []))
 exact ⟨Kt (p:=(_,_,_)) h.1,Kt (p:=(_,_,_)) h.2⟩
def e9 (s a!:Nat) (l:Nat×Nat):Nat:=tW (vB s a! l) (vC s a! l) (vD s a! l)
theorem v3 (s a! m k:Nat):rJ s a! m k=e9 s a! (m,k):=by
 unfold rJ
 rw[bu,bu,bu,bu,bu]
 rfl
def way (s a!:Nat) (l:Nat×Nat):Nat:=v! s a! l
theorem Vb:loop (λs=>loop (λw=>both (cm (rJ s w 1 0) kZ) (both (cm (rJ s w 0 1) kZ) ((jL 4).all λu=>st (bg u).1 λm=>st (bg u).2 λk=>cm (rJ s w m k) kZ))) 4) 12=true:=bx
theorem P_ (au:s<12) (hw:a!<4) {l:Nat×Nat} (a:iW l):e9 s a! l≤kZ:=by
 have h:=l0 (l0 Vb s au) a! hw
 rw[e3,e3] at h
 rcases a with rfl|rfl|⟨u,b0,rfl⟩
 ·exact v3 _ _ _ _▸dV h.1
 ·exact v3 _ _ _ _▸dV h.2.1
 ·have:=iB.mp h.2.2 u (ks b0)
  rw[bu,bu,v3] at this
  exact dV this
def mX (s:Nat):Int:=(otherOf s:Int)-(firstOf s:Int)
theorem HX (au:s<12):mX s=if 6≤s then-1 else 1:=(bx: ∀s,s<12→mX s=if 6≤s then-1 else 1) s au
theorem LD {a b:Nat} (x:Int) (af:x=(a:Int)-(b:Int)) (ae:b≤a+1099511627776):x.fmod 1099511627776=(((a+1099511627776-b)%1099511627776:Nat):Int):=by
 rw[Jt _ ar,af,←Int.add_emod_right,Sx,Int.add_right_comm,←Sx]
 exact aQ (·%(1099511627776:Int)) (oc ae).symm
theorem ai1 (au:s<12) (hw:a!<4) {l:Nat×Nat} (c:iW l):(((e9 s a! l:Int)-(e9 s a! (1,0):Int))*mX s).fmod 1099511627776=(way s a! l:Int):=by
 have J:=P_ au hw c
 have aa:=P_ au hw (.inl rfl:iW (1,0))
 unfold way v! QE
 rw[bu,bu,bu,bu,v3,v3,HX au]
 obtain ⟨m,k⟩:=l
 generalize e9 s a! (m,k)=t at J⊢
 generalize e9 s a! (1,0)=z at aa⊢
 by_cases h:6≤s
 ·rw[a_ h,show cm 6 s=ab from Sy.mpr h,uL]
  rw[LD (a:=z) (b:=t) _ (by rw[Int.mul_neg,Rz,rX]) (by exact ak9 J)]
  rfl
 ·rw[a3 h,show cm 6 s=aq from hB.mpr λq=>h (dV q),z9]
  rw[LD (a:=t) (b:=z) _ (by exact Rz _) (by exact ak9 aa)]
  rfl
theorem BN:ltN a b=decide (a<b):=by
 rw[jF,decide_eq_true_eq]
 exact iff_of_eq Sy
theorem EG (a b:Bool):both a b=(a&&b):=by induction a using d1<;>rfl
structure Tn (s a!:Nat) (p u:List Bool):Prop where
 near:(decide (way s a! (d6 gJ p (1,0) (0,1)).1<way s a! (bg u))&&decide (way s a! (bg u)<way s a! (bg p)))=h6 (p++[ab]) u
 bE:(decide (way s a! (bg p)<way s a! (bg u))&&decide (way s a! (bg u)<way s a! (d6 gJ p (1,0) (0,1)).2))=h6 (p++[aq]) u
 all:(decide (way s a! (d6 gJ p (1,0) (0,1)).1<way s a! (bg u))&&decide (way s a! (bg u)<way s a! (d6 gJ p (1,0) (0,1)).2))=h6 p u
theorem Ii (au:s<12) (hw:a!<4) {p u:List Bool} (aC:p.length≤4) (b0:u.length≤4):Tn s a! p u:=by
 have h:=iB.mp (l0 (l0 KI s au) a! hw) p (ks aC)
 have h:=iB.mp (je.mp h).2 u (ks b0)
 unfold PZ at h
 rw[bu,bu,bu,bu,BN,BN,BN,BN,EG,EG,EG,LP] at h
 obtain ⟨J,aa⟩:=je.mp h
 obtain ⟨aa,ay⟩:=je.mp aa
 exact ⟨dp J,dp aa,dp ay⟩
theorem ae0 (t m k:Nat) (a:Nat) (X:Nat) (h:(t*6*(m+k)-(X%(6*(m+k)))*a)+((X%(6*(m+k)))*a-t*6*(m+k))≤6*(m+k)):((((t:Int)*6*((m:Int)+k)-((X:Int)).fmod (6*((m:Int)+k))*(a:Int)).natAbs:Int)≤6*((m:Int)+k)):=by
  have b:((X:Int)).fmod (6*((m:Int)+k))=((X%(6*(m+k)):Nat):Int):=by
   rw[Jt _ (by exact Jp _),ala,qP,mu]
   rfl
  rw[b]
  have c:(t:Int)*6*((m:Int)+k)=((t*6*(m+k):Nat):Int):=by rw[qP,qP,mu];rfl
  have d:((X%(6*(m+k)):Nat):Int)*(a:Int)=(((X%(6*(m+k)))*a:Nat):Int):=(qP _ _).symm
  rw[c,d]
  generalize t*6*(m+k)=A at h⊢
  generalize X%(6*(m+k))*a=B at h⊢
  have e:(6*((m:Int)+k))=((6*(m+k):Nat):Int):=by rw[qP,mu];rfl
  rw[e]
  refine j5.mpr (cG ?_ h)
  cases Nat.le_total A B with
  |inl q=>rw[←R_,rX,←oc q];exact nd _ _
  |inr q=>rw[←oc q];exact gw _ _
theorem ae1 (au:s<12) (hw:a!<4) {p:List Bool} (aC:p.length≤4):
  (((e9 s a! (bg p):Int)*6*(((bg p).1:Int)+(bg p).2)-((firstOf s:Int)*(((bg p).1:Int)+(bg p).2)+mX s*(bg p).2).fmod (6*(((bg p).1:Int)+(bg p).2))*1099511627776).natAbs:Int)≤6*(((bg p).1:Int)+(bg p).2):=by
 have h:=iB.mp (l0 (l0 KI s au) a! hw) p (ks aC)
 have h:=(je.mp h).1
 have c:=(vh (.inr (.inr ⟨p,aC,rfl⟩):iW (bg p))).2.2
 unfold OJ at h
 rw[bu,bu,bu,bu,v3] at h
 have h:=dV h
 rw[HX au]
 have e:((bg p).1,(bg p).2)=bg p:=rfl
 rw[e] at h
 generalize e9 s a! (bg p)=t at h⊢
 generalize (bg p).1=m at h c⊢
 generalize (bg p).2=k at h c⊢
 have key: ∀X:Nat,dw (eR (gS (gS t 6) (dw m k)) (gS (lD X (gS 6 (dw m k))) kZ)) (eR (gS (lD X (gS 6 (dw m k))) kZ) (gS (gS t 6) (dw m k)))≤gS 6 (dw m k)→
   ((((t:Int)*6*((m:Int)+k)-((X:Int)).fmod (6*((m:Int)+k))*(kZ:Int)).natAbs:Int)≤6*((m:Int)+k)):=λX h=>by
  generalize kZ=TT at h⊢
  exact ae0 t m k TT X h
 have dR:(1099511627776:Int)=(kZ:Int):=bx
 rw[dR]
 by_cases a:6≤s
 ·rw[show cm 6 s=ab from Sy.mpr a,uL] at h
  rw[a_ a]
  have d:1≤firstOf s:=(bx: ∀s,s<12→6≤s→1≤firstOf s) s au a
  have av:k≤firstOf s*(m+k):=cG (nd k m) (Nat.le_mul_of_pos_left _ d)
  have b:((firstOf s:Int)*((m:Int)+k)+ -1*(k:Int))=((firstOf s*(m+k)-k:Nat):Int):=by
   rw[oc av,Int.neg_one_mul,←Sx,qP,mu]
  rw[b]
  exact key _ h
 ·rw[show cm 6 s=aq from hB.mpr λq=>a (dV q),z9] at h
  rw[a3 a]
  have b:((firstOf s:Int)*((m:Int)+k)+1*(k:Int))=((firstOf s*(m+k)+k:Nat):Int):=by
   rw[Int.one_mul,mu,qP,mu]
  exact b▸(key _ h)
noncomputable def sgn (k:Nat):Nat×Nat:=([(9,10),(9,32),(10,32),(9,34),(10,34),(32,34),(9,35),(10,35),(32,35),(34,35),(9,92),(10,92),(32,92),(34,92),(35,92)]:List (Nat×Nat)).getD k (9,10)
def fa (k:Nat) (b:Bool):Nat:=cond b (sgn k).1 (sgn k).2
def cR (k:Nat) (u:List Bool):List Nat:=u.map (fa k)
def wS (k:Nat) (u:List Bool):Str:=⟨(cR k u).toArray⟩
noncomputable abbrev cI (c:Nat):Str:=⟨#[c]⟩
theorem Pn (av:k<15):(sgn k).1≠(sgn k).2:=(by decide+kernel: ∀k<15,(sgn k).1≠(sgn k).2) k av
theorem h_ (k:Nat) (u:List Bool):(wS k u).length=u.length:=by
 show (cR k u).toArray.size=_
 rw[eK]
 exact df _
theorem aiY {k:Nat} {u:List Bool} {i:Nat} {b:Bool} (h:u[i]?=I b):(wS k u).cps[i]?=I (fa k b):=by
 show (cR k u).toArray[i]?=_
 rw[qH]
 unfold cR
 rw[mj,h]
 rfl
theorem M8 (au:small i=ab) (af:x.length=n) (a:seqIndex? i n=I j) (ag:x.cps[j]?=I c):dM (.str x) (.int i)=I (.str (cI c)):=by
 show (if small i then ((seqIndex? i x.length).bind (x.cps[·]?)).map (λc=>U.str ⟨#[c]⟩) else ah)=_
 rw[a_ au,af,a]
 show Dd _ (x.cps[j]?)=_
 rw[ag]
 rfl
theorem E9 (x y:Str) (af:fE x=ab) (a9:fE y=ab):hs (.str x) (.str y)=I (decide (x=y)):=encStr.eq ar af a9
theorem Kw:cI a=cI b↔a=b:=by
 constructor
 ·intro h
  have:=aQ (λs:Str=>s.cps.toList) h
  exact akQ this
 ·rintro rfl;rfl
theorem Kx (av:k<15) (b:Bool):fE (cI (fa k b))=true:=(by decide+kernel: ∀k<15,∀b,fE (cI (fa k b))=ab) k av b
theorem adv (av:k<15) (b:Bool):hs (.str (cI (fa k b))) (.str (cI (sgn k).1))=I b:=by
 have e:(sgn k).1=fa k true:=rfl
 rw[e,E9 _ _ (Kx av _) (Kx av _)]
 congr 1
 rw[jF,decide_eq_true_eq,Kw]
 cases b
 ·exact ⟨λh=>bF h.symm (Pn av),λh=>nomatch h⟩
 ·exact ⟨λZ=>rfl,λZ=>rfl⟩
def oy (d:Nat):bY:=⟨bq,d,(aE 15).scope⟩
def uC (nm rp:U) (l:Nat×Nat):U→aA:=λv=>[(S "name",.val nm),(S "near",.val rp),(S "m",.val (aT l.1)),(S "n",.val (aT l.2)),(S "k",.val v)]
theorem acj {k:Nat} (av:k<15) {u:List Bool} {j:Nat} (a:j<u.length) (b0:u.length≤4) (l:Nat×Nat) {d:Nat} {w:W} (n:Nat):
  cw (n+40) (oy d) (jR (a6 (aE 15).body 1)) (uC (.str (wS k u)) (.str (cI (sgn k).1)) l (aT j)) w=I (.next,uC (.str (wS k u)) (.str (cI (sgn k).1)) (o_ (u.getD (u.length-1-j) ab) l) (aT j),w):=by
 have ae:u[u.length-1-j]?=I (u.getD (u.length-1-j) ab):=by rw[aj2,ly (Nat.sub_one_sub_lt_of_lt a)];rfl
 generalize u.getD (u.length-1-j) ab=b at ae⊢
 have J:dM (.str (wS k u)) (.int (-1-(j:Int)))=I (.str (cI (fa k b))):=by
  exact M8 ((bx: ∀j:Nat,j<4→small (-1-(j:Int))=ab) j (jf a b0)) (h_ k u) ((bx: ∀n:Nat,n<5→ ∀j:Nat,j<n→seqIndex? (-1-(j:Int)) n=I (n-1-j)) _ (Ju b0) j a) (aiY ae)
 have aa:=adv av b
 have x:=l.1
 have y:=l.2
 cases b
 ·exact jy [.go,.go,aM J,cE aa,.go]
 ·exact jy [.go,.go,aM J,cE aa,.go]
theorem ahA {u:List Bool} {j:Nat} (b0:u.length≤4) (a:j<u.length):(u.drop (u.length-(j+1))).foldr o_ (1,1)=o_ (u.getD (u.length-1-j) ab) ((u.drop (u.length-j)).foldr o_ (1,1)):=
 (bx: ∀u∈jL 4,∀j,j<u.length→(u.drop (u.length-(j+1))).foldr o_ (1,1)=o_ (u.getD (u.length-1-j) ab) ((u.drop (u.length-j)).foldr o_ (1,1))) u (ks b0) j a
theorem x4 {k:Nat} (av:k<15) {u:List Bool} (b0:u.length≤4) {d:Nat} {sc:Scope} {w:W} {n:Nat}:
  b' (n+100) ⟨bq,d+1,sc⟩ (aE 15) [.str (wS k u),.str (cI (sgn k).1)] w=I (.list [aT (bg u).1,aT (bg u).2],w):=by
 have aC:kI (aE 15)=[S "name",S "near"]:=aY
 have ae:(aE 15).body=[a6 (aE 15).body 0,a6 (aE 15).body 1,a6 (aE 15).body 2]:=aY
 rw[uH (by rw[aC];rfl),aC,ae]
 have bH:([S "name",S "near"]:List Str).zip ([U.str (wS k u),.str (cI (sgn k).1)].map Slot.val)=[(S "name",.val (.str (wS k u))),(S "near",.val (.str (cI (sgn k).1)))]:=rfl
 rw[bH]
 have g: ∀n,ex (n+40) (oy d) (a6 (aE 15).body 0) [(S "name",.val (.str (wS k u))),(S "near",.val (.str (cI (sgn k).1)))] w=I (.next,[(S "name",.val (.str (wS k u))),(S "near",.val (.str (cI (sgn k).1))),(S "m",.val (aT 1)),(S "n",.val (aT 1))],w):=by
  intro n
  exact cg []
 have a:fO (ao "len") [.str (wS k u)]=I (.int (u.length:Int)):=by
  rw[qX (by rw[h_];exact cW b0 rfl),h_]
 have e:l_ [.int (u.length:Int)]=I ((eB u.length).map aT):=by
  show (if small (u.length:Int) then I (intsFrom 0 (u.length:Int).toNat) else ah)=_
  rw[jY (by exact ke b0 rfl),a_ rfl]
  unfold intsFrom
  simp[aT]
 unfold oy at g
 rw[cN (D:=98) g ar]
 by_cases el:u=[]
 ·subst el
  have J: ∀n,ex (n+60) (oy d) (a6 (aE 15).body 1) [(S "name",.val (.str (wS k []))),(S "near",.val (.str (cI (sgn k).1))),(S "m",.val (aT 1)),(S "n",.val (aT 1))] w=I (.next,[(S "name",.val (.str (wS k []))),(S "near",.val (.str (cI (sgn k).1))),(S "m",.val (aT 1)),(S "n",.val (aT 1))],w):=by
   intro n
   exact cg [aM a,oA e,.go]
  have aa: ∀n,ex (n+40) (oy d) (a6 (aE 15).body 2) [(S "name",.val (.str (wS k []))),(S "near",.val (.str (cI (sgn k).1))),(S "m",.val (aT 1)),(S "n",.val (aT 1))] w=I (.ret (.list [aT 1,aT 1]),[(S "name",.val (.str (wS k []))),(S "near",.val (.str (cI (sgn k).1))),(S "m",.val (aT 1)),(S "n",.val (aT 1))],w):=by
   intro n
   exact cg []
  unfold oy at J aa
  rw[cN (D:=97) J ar,lL (D:=96) aa ar]
  rfl
 ·have i:0<u.length:=zj.mpr el
  obtain ⟨l,v,b,hf⟩:=forR (cx:=oy d) (w:=w) (σ:=[(S "name",.val (.str (wS k u))),(S "near",.val (.str (cI (sgn k).1))),(S "m",.val (aT 1)),(S "n",.val (aT 1))]) (x:=S "k") (tgt:=gf (a6 (aE 15).body 1)) (body:=jR (a6 (aE 15).body 1)) (St:=Nat×Nat) (B:=uC (.str (wS k u)) (.str (cI (sgn k).1))) (P:=λj l=>l=(u.drop (u.length-j)).foldr o_ (1,1)) (s0:=(1,1)) (c:=40) (N:=46) (K:=u.length)
   (λv σ=>aY) (λs v u=>aY) (λv=>aY) (by rw[Nat.sub_zero,akN];rfl) i (by exact bE b0)
   (λj s f au=>⟨_,.next,(by rw[ahA b0 f,←au]),.inl rfl,λn=>acj av f b0 s n⟩)
  rw[zi,Dk] at b
  have b:l=bg u:=b
  subst b
  have J: ∀n,ex (n+60) (oy d) (a6 (aE 15).body 1) [(S "name",.val (.str (wS k u))),(S "near",.val (.str (cI (sgn k).1))),(S "m",.val (aT 1)),(S "n",.val (aT 1))] w=I (.next,uC (.str (wS k u)) (.str (cI (sgn k).1)) (bg u) v,w):=by
   intro n
   have h:=hf (n+13)
   exact cg [aM a,oA e,mE h]
  have aa: ∀n,ex (n+40) (oy d) (a6 (aE 15).body 2) (uC (.str (wS k u)) (.str (cI (sgn k).1)) (bg u) v) w=I (.ret (.list [aT (bg u).1,aT (bg u).2]),uC (.str (wS k u)) (.str (cI (sgn k).1)) (bg u) v,w):=by
   intro n
   exact cg []
  unfold oy at J aa
  rw[cN (D:=97) J ar,lL (D:=96) aa ar]
  rfl
noncomputable section
open PySem.StrLaws PySem.Builtin PySem.Builtin.Str
noncomputable def fv:Str:=ao ""
theorem si (x y:Str):(x++y).cps.toList=x.cps.toList++y.cps.toList:=by rw[Str.cps_append,Array.toList_append]
theorem oQ (x:Str):x.cps.toList.length=x.length:=by simp[Str.length]
theorem rA:fv.length=0:=ar
theorem V3 (c:Nat): ∀l:List Nat,PyProof.Rows.cnt c l=(l.count c:Int):=by
 intro d
 induction d with
 |nil=>
  exact rfl
 |cons a l b=>
  rw[PyProof.Rows.cnt_cons,b,alb]
  by_cases h:a=c
  ·simp[h];exact ph _ _
  ·simp[h]
theorem V4 (x:Str):Rp x (S "\n")=(x.cps.toList.count 10:Int):=by
 have e:S "\n"=⟨#[10]⟩:=ar
 rw[e,count_is]
 exact V3 10 _
theorem GQ: ∀ts:List Str,(De fv ts).cps.toList=(ts.map λt=>t.cps.toList).flatten
 |[]=>rfl
 |[x]=>by
  show (glued fv [x]).cps.toList=_
  rw[Sz]
  simp[Str.join]
 |x::y::r=>by
  have a:=GQ (y::r)
  have a:(glued fv (y::r)).cps.toList=_:=a
  rw[Sz] at a
  show (glued fv (x::y::r)).cps.toList=_
  rw[Sz]
  show (x++fv++Str.join fv (y::r)).cps.toList=_
  rw[si,si,a]
  show x.cps.toList++[]++_=_
  rw[e0]
  rfl
theorem aaS (h:ts.length≤10) (d: ∀t∈ts,t.length≤20):JoinOk fv ts=ab∧(De fv ts).length≤200:=by
 have au: ∀ts:List Str,(∀t∈ts,t.length≤20)→(ts.map (·.length)).sum≤20*ts.length:=by
  intro ts
  induction ts with
  |nil=>intro _;exact bh _
  |cons a ts b=>
   intro h
   have:=b λt c=>h t (fb _ c)
   have:=h a eQ
   rw[iR,RA,gR]
   rw[Nat.mul_succ,r7]
   exact m_ ‹_› ‹_›
 have J:=au ts d
 constructor
 ·unfold JoinOk
  rw[joinTotal,rA]
  unfold amE sizeLine
  rw[rZ,decide_eq_false_iff_not]
  exact wc.mpr (cG J (cG (D0 20 h) ar))
 ·have: ∀ts:List Str,((ts.map λt=>t.cps.toList).flatten).length=(ts.map (·.length)).sum:=by
   intro ts
   induction ts with
   |nil=>rfl
   |cons a ts b=>rw[iR,List.flatten_cons,er,b,oQ,iR,RA]
  rw[←oQ,GQ,this]
  exact bE (cc (lm 20 h) J)
end
noncomputable def aci:Expr→Expr
 | .BinOp a _ _ _=>a
 |e=>e
noncomputable def afJ:Expr→Expr
 | .BinOp _ _ b _=>b
 |e=>e
def pC:Expr→Expr
 | .Call _ as _ _=>Fb as 0
 |e=>e
noncomputable def g5:List Nat:=[34,92]
noncomputable def e5:List Nat:=[10,9,32,92]
noncomputable def jP (h:List Nat) (c:Nat):List Nat:=if c∈h then [92,c] else [c]
def di (h l:List Nat):List Nat:=l.flatMap (jP h)
noncomputable def dU (q:Nat):Nat:=[10,9,13,32].getD q 0
noncomputable def bI (l:List Nat):Str:=⟨l.toArray⟩
def iQ (l:List Nat) (r q:Nat):List Nat:=if r=0∨l=[] then dU q::34::(di g5 l++[34]) else (if l.headD 0=34 then 92::di e5 l else di e5 l)++[dU q]
noncomputable def ix:List Nat:=[9,10,32,34,35,92]
theorem ai2 (av:k<15) (b:Bool):fa k b∈ix:=(by decide+kernel: ∀k<15,∀b,fa k b∈ix) k av b
theorem vT (h:c∈ix):c=9∨c=10∨c=32∨c=34∨c=35∨c=92:=by simpa [ix] using h
def nO:Expr:=pC (afJ (aci (valueOf (a6 (GF (a6 (aE 14).body 1)) 0))))
def nP:Expr:=pC (valueOf (a6 (aE 14).body 2))
def pO (d:Nat):bY:=⟨bq,d,(aE 14).scope⟩
def hW (nm st a!:U):aA:=[(S "name",.val nm),(S "style",.val st),(S "white",.val a!)]
theorem W3 (h:c∈ix) (nm st a!:U) {d:Nat} {w:W} (n:Nat):ev (n+21) ⟨bq,d,fj nO⟩ (ff nO) (((hW nm st a!).hide (Scope.dq (fj nO))).set (S "sign") (.val (.str (cI c)))) w=I (.str (bI (jP g5 c)),w):=by
 rcases vT h with rfl|rfl|rfl|rfl|rfl|rfl<;>kernel_rfl
theorem W4 (h:c∈ix) (nm st a!:U) {d:Nat} {w:W} (n:Nat):ev (n+21) ⟨bq,d,fj nP⟩ (ff nP) (((hW nm st a!).hide (Scope.dq (fj nP))).set (S "sign") (.val (.str (cI c)))) w=I (.str (bI (jP e5 c)),w):=by
 rcases vT h with rfl|rfl|rfl|rfl|rfl|rfl<;>kernel_rfl
def PI (f:Nat→List Nat):U→U
 | .str x=> .str (bI (f (x.cps.toList.headD 0)))
 |p=>p
theorem VJ {l:List Nat} (h: ∀c∈l,c∈ix) (a:l.length≤4) (nm st a!:U) {d:Nat} {w:W} (n:Nat):d! (n+27) ⟨bq,d,fj nO⟩ (ff nO) (jj nO) [] (l.map λc=> .str (cI c)) ((hW nm st a!).hide (Scope.dq (fj nO))) w=I (l.map λc=> .str (bI (jP g5 c)),w):=by
 have:=sy (cx:=⟨bq,d,fj nO⟩) (σ:=(hW nm st a!).hide (Scope.dq (fj nO))) (w:=w) (x:=S "sign") (tgt:=jj nO) (elt:=ff nO) (items:=l.map λc=> .str (cI c)) (f:=PI (jP g5)) (c:=20) (N:=27) (λv σ=>aY) (by rw[df];exact bE a)
  (λp aC n=>by obtain ⟨c,ag,rfl⟩:=hc.mp aC;exact W3 (h c ag) nm st a! n) n
 rw[iD] at this
 exact this
theorem VK {l:List Nat} (h: ∀c∈l,c∈ix) (a:l.length≤4) (nm st a!:U) {d:Nat} {w:W} (n:Nat):d! (n+27) ⟨bq,d,fj nP⟩ (ff nP) (jj nP) [] (l.map λc=> .str (cI c)) ((hW nm st a!).hide (Scope.dq (fj nP))) w=I (l.map λc=> .str (bI (jP e5 c)),w):=by
 have:=sy (cx:=⟨bq,d,fj nP⟩) (σ:=(hW nm st a!).hide (Scope.dq (fj nP))) (w:=w) (x:=S "sign") (tgt:=jj nP) (elt:=ff nP) (items:=l.map λc=> .str (cI c)) (f:=PI (jP e5)) (c:=20) (N:=27) (λv σ=>aY) (by rw[df];exact bE a)
  (λp aC n=>by obtain ⟨c,ag,rfl⟩:=hc.mp aC;exact W4 (h c ag) nm st a! n) n
 rw[iD] at this
 exact this
theorem strs_map (l:List Str):rD (l.map .str)=I l:=by
 induction l with
 |nil=>rfl
 |cons x l a=>
  show (rD (l.map .str)).map (x::·)=_
  rw[a];rfl
theorem Lh (h:List Nat) (c:Nat):(jP h c).length≤2:=by unfold jP;split<;>simp
theorem vX {x y:Str} (h:x.cps.toList=y.cps.toList):x=y:=by
 cases x;cases y
 exact aQ Str.mk (DE.mp h)
theorem Bu (h l:List Nat) (b:l.length≤4):methP (ao "join") (.str (ao "")) [.list (l.map λc=> .str (bI (jP h c)))]=I (.str (bI (di h l))):=by
 rw[qv.2.2.2.1]
 have e:(l.map λc=>U.str (bI (jP h c)))=(l.map λc=>bI (jP h c)).map .str:=by rw[iD];rfl
 rw[e,strs_map]
 have d:=aaS (ts:=l.map λc=>bI (jP h c)) (by rw[df];exact cW b rfl) (λt a=>by
  obtain ⟨c,_,rfl⟩:=hc.mp a
  have:=Lh h c
  show (jP h c).toArray.size≤20
  rw[eK]
  exact cW this rfl)
 show (if JoinOk fv _=ab then I (U.str (De fv _)) else ah)=_
 rw[a_ d.1]
 refine aQ (λx=>I (U.str x)) (vX ?_)
 rw[GQ,iD]
 unfold di
 rw[List.flatMap_def]
 congr 1
theorem Hk (l:List Nat):(bI l).length=l.length:=by
 exact eK ..
theorem acS (a b:List Nat):bI a++bI b=bI (a++b):=vX (by rw[si];rfl)
theorem vG (h:a.length+b.length≤1000):b? .Add (.str (bI a)) (.str (bI b))=I (.str (bI (a++b))):=by
 rw[add_str (by rw[Hk,Hk];exact cW h rfl),acS]
theorem An (h l:List Nat):(di h l).length≤2*l.length:=by
 unfold di
 induction l with
 |nil=>simp
 |cons c l a=>
  have:=Lh h c
  rw[Jw,er,gR]
  exact bE (cc a this)
theorem tq {P:Nat→Prop} {n:Nat} (a:P n) (h: ∀k,k<n→P k): ∀k,k<n+1→P k:=λk av=>(Jf (nf av)).elim (h k) λe=>e▸a
theorem Hb {P:Nat→Prop}: ∀k,k<0→P k:=λk h=>bF h (zo k)
theorem CW {P:(i:Nat)→i<2→Prop} (a:P 0 (r0 1)) (J:P 1 (gv 1)) (i:Nat) (aI:i<2):P i aI:=tq (P:=λi=> ∀aI,P i aI) (λZ=>J) (tq (λZ=>a) Hb) i aI aI
theorem Fs {P:(i:Nat)→i<4→Prop} (a: ∀z,P 0 z) (J: ∀z,P 1 z) (aa: ∀z,P 2 z) (ay: ∀z,P 3 z) (i:Nat) (aI:i<4):P i aI:=tq (P:=λi=> ∀aI,P i aI) ay (tq aa (tq J (tq a Hb))) i aI aI
theorem ai7 {q:Nat} (a:q<4):dM (.str (S "\n\t\r ")) (.int q)=I (.str (bI [dU q])):=by
 induction q,a using Fs<;>kernel_rfl
theorem Ia (h: ∀c∈l,c∈ix):fE (bI l)=true:=by
 unfold fE
 rw[Se]
 intro c ag
 have ag:c∈l:=by simpa [bI] using ag
 rcases vT (h c ag) with rfl|rfl|rfl|rfl|rfl|rfl<;>decide
theorem acT:bI a=bI b↔a=b:=by
 constructor
 ·intro h
  exact aQ (λs:Str=>s.cps.toList) h
 ·rintro rfl;rfl
theorem W! (h: ∀c∈l,c∈ix):hs (.str (bI l)) (.str (S ""))=I (decide (l=[])):=by
 rw[E9 _ _ (Ia h) bx]
 exact aQ I (decide_eq_decide.mpr (acT (b:=[])))
section
variable {l:List Nat} {d:Nat} {w:W} {r q:Nat} {st:U}
theorem ajb (b:b? .FloorDiv st (.int 2)=I e) (c:b? .Mod e (.int 4)=I (.int (q:Int))) (a:q<4) (nm:U) (n:Nat):
  ex (n+40) (pO d) (a6 (aE 14).body 0) [(S "name",.val nm),(S "style",.val st)] w=I (.next,hW nm st (.str (bI [dU q])),w):=by
 have f:=ai7 a
 exact cg [aM b,aM c,aM f]
theorem ajg (g: ∀c∈l,c∈ix) (b:l.length≤4) (n:Nat):cw (n+60) (pO d) (GF (a6 (aE 14).body 1)) (hW (.str (bI l)) st (.str (bI [dU q]))) w=I (.ret (.str (bI (([dU q,34]++di g5 l)++[34]))),hW (.str (bI l)) st (.str (bI [dU q])),w):=by
 have a:=An g5 l
 have e:bI [dU q]++ao "\""=bI [dU q,34]:=vX (by rw[si];rfl)
 have a2:b? .Add (.str (bI [dU q]++ao "\"")) (.str (bI (di g5 l)))=I (.str (bI ([dU q,34]++di g5 l))):=by rw[e];exact vG (by show 2+_≤_;exact bE (cc (lm 2 b) a))
 have gV:b? .Add (.str (bI ([dU q,34]++di g5 l))) (.str (ao "\""))=I (.str (bI (([dU q,34]++di g5 l)++[34]))):=by
  have h:ao "\""=bI [34]:=bx
  exact h▸(vG (by rw[er];show 2+_+1≤_;exact bE (cc (lm 2 b) a)))
 have ag:=VJ g b (.str (bI l)) st (.str (bI [dU q])) (d:=d) (w:=w) (n+24)
 have f:=Bu g5 l b
 clear a e
 exact jy [.go,.p ((List.map (λc=>U.str {cps:= #[c]}) l).length≤1048576) (by rw[df];exact cW b rfl),q3 ag,aM f,aM a2,aM gV]
theorem ajd (e: ∀c∈l,c∈ix) (a:l.length≤4) (n:Nat):ex (n+80) (pO d) (a6 (aE 14).body 2) (hW (.str (bI l)) st (.str (bI [dU q]))) w=I (.next,hW (.str (bI l)) st (.str (bI [dU q]))++[(S "spelled",.val (.str (bI (di e5 l))))],w):=by
 have ag:=VK e a (.str (bI l)) st (.str (bI [dU q])) (d:=d) (w:=w) (n+46)
 have b:=Bu e5 l a
 exact cg [.p ((List.map (λc=>U.str {cps:= #[c]}) l).length≤1048576) (by rw[df];exact cW a rfl),q3 ag,aM b]
theorem aje {c:Nat} {l':List Nat} (i:c∈ix) (e:List Nat) (au:e.length≤100) (n:Nat):ex (n+40) (pO d) (a6 (aE 14).body 3) (hW (.str (bI (c::l'))) st (.str (bI [dU q]))++[(S "spelled",.val (.str (bI e)))]) w=I (.next,hW (.str (bI (c::l'))) st (.str (bI [dU q]))++[(S "spelled",.val (.str (bI (if c=34 then 92::e else e))))],w):=by
 have g1:dM (.str (bI (c::l'))) (.int 0)=I (.str (cI c)):=M8 (n:=(c::l').length) (j:=0) ar (Hk _) (HZ (by simp)) rfl
 have g:hs (.str (cI c)) (.str (ao "\""))=I (decide (c=34)):=by
  have m:fE (cI c)=true:=Ia (l:=[c]) (λx af=>by rw[ep.mp af];exact i)
  have h:ao "\""=cI 34:=bx
  rw[h,E9 _ _ m bx]
  exact aQ I (decide_eq_decide.mpr (Kw (b:=34)))
 have k:b? .Add (.str (ao "\\")) (.str (bI e))=I (.str (bI (92::e))):=by
  have o:ao "\\"=bI [92]:=bx
  exact o▸(vG (a:=[92]) (by show 1+_≤_;exact pB (bh _) au rfl))
 by_cases f:c=34
 ·rw[a_ f]
  exact cg [aM g1,cE (g.trans (aQ I (e1 f))),aM k]
 ·rw[a3 f]
  exact cg [aM g1,cE (g.trans (aQ I (f5 f)))]
theorem ajf (nm a!:U) (a:List Nat) (au:a.length≤100) (n:Nat):ex (n+40) (pO d) (a6 (aE 14).body 4) (hW nm st (.str (bI [dU q]))++[(S "spelled",.val (.str (bI a)))]) w=I (.ret (.str (bI (a++[dU q]))),hW nm st (.str (bI [dU q]))++[(S "spelled",.val (.str (bI a)))],w):=by
 have b:b? .Add (.str (bI a)) (.str (bI [dU q]))=I (.str (bI (a++[dU q]))):=vG (by show _+1≤_;exact pB au (bh _) rfl)
 exact cg [aM b]
theorem ajc (g: ∀c∈l,c∈ix) (b:b? .Mod st (.int 2)=I (.int (r:Int))) (n:Nat):fI (n+79) (pO d) (valueOf (a6 (aE 14).body 1)) (hW (.str (bI l)) st (.str (bI [dU q]))) w=I (decide (r=0∨l=[]),w):=by
 have f:=W! g
 have e:hs (.int (r:Int)) (.int 0)=I (decide (r=0)):=by
  rw[OQ]
  exact aQ I (decide_eq_decide.mpr (by exact DY))
 by_cases b8:r=0
 ·rw[e1 (show r=0∨l=[] from .inl b8)]
  exact HS [aM b,cE (e.trans (aQ I (e1 b8)))]
 ·by_cases a:l=[]
  ·rw[e1 (show r=0∨l=[] from .inr a)]
   exact HS [aM b,cE (e.trans (aQ I (f5 b8))),cE (f.trans (aQ I (e1 a)))]
  ·rw[f5 (show¬(r=0∨l=[]) from λh=>h.elim b8 a)]
   exact HS [aM b,cE (e.trans (aQ I (f5 b8))),cE (f.trans (aQ I (f5 a)))]
end
theorem oC (a b:Nat) (ae:0<b) (c:b<1073741824):b? .FloorDiv (.int a) (.int b)=I (.int ((a/b:Nat):Int)):=by
 rw[X_ (SA (lC.mpr ae)) (by exact RC c)]
 refine aQ (λx=>I (U.int x)) ?_
 rw[ak7 _ (by exact og _)]
 exact (ak8 a b).symm
theorem k? (a b:Nat) (ae:0<b):b? .Mod (.int a) (.int b)=I (.int ((a%b:Nat):Int)):=mod_eq (SA (lC.mpr ae)) (by
 rw[Jt _ (by exact og _)]
 exact (ala a b).symm)
theorem QN (b: ∀c∈l,c∈ix) (a:l.length≤4) {st m:U} {r q:Nat} (s:b? .FloorDiv st (.int 2)=I m) (t:b? .Mod m (.int 4)=I (.int (q:Int))) (p:q<4) (u:b? .Mod st (.int 2)=I (.int (r:Int))) {d:Nat} {sc:Scope} {w:W} {n:Nat}:
  b' (n+100) ⟨bq,d+1,sc⟩ (aE 14) [.str (bI l),st] w=I (.str (bI (iQ l r q)),w):=by
 have aC:kI (aE 14)=[S "name",S "style"]:=aY
 have ae:(aE 14).body=[a6 (aE 14).body 0,a6 (aE 14).body 1,a6 (aE 14).body 2,a6 (aE 14).body 3,a6 (aE 14).body 4]:=aY
 rw[uH (by rw[aC];rfl),aC,ae]
 have bH:([S "name",S "style"]:List Str).zip ([U.str (bI l),st].map Slot.val)=[(S "name",.val (.str (bI l))),(S "style",.val st)]:=rfl
 rw[bH]
 have j:=λn=>ajb (w:=w) (d:=d) s t p (.str (bI l)) n
 have k: ∀o,aA.freeze (hW (.str (bI l)) st (.str (bI [dU q]))) o=hW (.str (bI l)) st (.str (bI [dU q])):=λo=>YF aY
 have g:=λn=>ajc (w:=w) (d:=d) (q:=q) (st:=st) b u n
 unfold pO at j g
 rw[cN (D:=98) j ar]
 by_cases ag:r=0∨l=[]
 ·have J: ∀n,ex (n+80) ⟨bq,d,(aE 14).scope⟩ (a6 (aE 14).body 1) (hW (.str (bI l)) st (.str (bI [dU q]))) w=I (.ret (.str (bI (([dU q,34]++di g5 l)++[34]))),hW (.str (bI l)) st (.str (bI [dU q])),w):=by
   intro n
   rw[Lq aY,k,g,e1 ag]
   have he:=ajg (w:=w) (d:=d) (st:=st) (q:=q) b a (n+19)
   unfold pO at he
   rw[show n+19+60=n+79 from rfl] at he
   rw[pK,a_ rfl]
   exact he
  rw[lL (D:=97) J ar]
  have e:iQ l r q=([dU q,34]++di g5 l)++[34]:=by unfold iQ;rw[a_ ag];rfl
  rw[e]
  rfl
 ·have J: ∀n,ex (n+80) ⟨bq,d,(aE 14).scope⟩ (a6 (aE 14).body 1) (hW (.str (bI l)) st (.str (bI [dU q]))) w=I (.next,hW (.str (bI l)) st (.str (bI [dU q])),w):=by
   intro n
   rw[Lq aY,k,g,f5 ag]
   have he:M9 (a6 (aE 14).body 1)=[]:=aY
   rw[pK,a3 (by exact cv),he]
   kernel_rfl
  have v:l≠[]:=λz=>ag (.inr z)
  obtain ⟨c,l',rfl⟩:=alc v
  have f:=An e5 (c::l')
  have aa:=λn=>ajd (w:=w) (d:=d) (st:=st) (q:=q) b a n
  have ay:=λn=>aje (w:=w) (d:=d) (st:=st) (q:=q) (l':=l') (b c eQ) (di e5 (c::l')) (by exact bE (cc (lm 2 a) f)) n
  generalize h:(if c=34 then 92::di e5 (c::l') else di e5 (c::l'))=sp at ay
  have x:sp.length≤100:=by
   rw[←h]
   split
   ·rw[gR];exact bE (cc (lm 2 a) f)
   ·exact bE (cc (lm 2 a) f)
  have i:=λn=>ajf (w:=w) (d:=d) (st:=st) (q:=q) (.str (bI (c::l'))) .none sp x n
  unfold pO at aa ay i
  rw[cN (D:=97) J ar,cN (D:=96) aa ar,cN (D:=95) ay ar,lL (D:=94) i ar]
  have e:iQ (c::l') r q=sp++[dU q]:=by
   unfold iQ
   rw[a3 ag,←h]
   rfl
  rw[e]
  rfl
noncomputable def nl (c:Nat):Int:=if c=10 then 1 else 0
noncomputable def fi (l:List Nat):Int:=(l.count 10:Int)
theorem mS (c:Nat) (l:List Nat):fi (c::l)=nl c+fi l:=by
 unfold fi nl
 rw[alb]
 by_cases h:c=10
 ·simp[h];exact ph _ _
 ·simp[h]
theorem Hr (a b:List Nat):fi (a++b)=fi a+fi b:=by
 unfold fi
 rw[List.count_append]
 push_cast
 rfl
theorem l! (c:Nat) (r:List Nat) (line:Int) (p:List Str):(⟨c::r,line,p⟩:cQ).read=(I c,⟨r,line+nl c,p⟩):=by
 unfold cQ.read nl
 dsimp only
 by_cases h:c=10
 ·rw[a_ (by simp[h]),a_ h]
 ·rw[a3 (by simp[h]),a3 h,Int.add_zero]
theorem Am (ag:c∈h) (l:List Nat):di h (c::l)=92::c::di h l:=by
 unfold di jP
 rw[Jw,a_ ag]
 rfl
theorem xc (ag: ¬c∈h) (l:List Nat):di h (c::l)=c::di h l:=by
 unfold di jP
 rw[Jw,a3 ag]
 rfl
theorem aip: ∀{l acc:List Nat} {n:Nat} {rest:List Nat} {line:Int} {p:List Str},l.length<n→m3 n acc ⟨di g5 l++34::rest,line,p⟩=(acc++l,⟨rest,line+fi (di g5 l),p⟩):=by
 intro l
 induction l with
 |nil=>
  intro acc n rest line p h
  obtain ⟨m,rfl⟩: ∃m,n=m+1:=⟨n-1,by simp at h;exact pred_succ h⟩
  show m3 (m+1) acc ⟨34::rest,line,p⟩=_
  unfold m3
  rw[l!]
  dsimp only
  rw[a_ ar]
  simp[nl,fi,di]
 |cons c l a=>
  intro acc n rest line p h
  obtain ⟨m,rfl⟩: ∃m,n=m+1:=⟨n-1,by simp at h;exact qN (bE (k_ (n) (1))) (bE (o4 (show 1≤n from bE (e8 h))))⟩
  have hm:l.length<m:=by simp at h;omega
  by_cases ag:c∈g5
  ·rw[Am ag]
   show m3 (m+1) acc ⟨92::c::(di g5 l++34::rest),line,p⟩=_
   unfold m3
   rw[l!]
   dsimp only
   rw[a3 ar,a_ ar,l!]
   dsimp only
   rw[a hm]
   rw[mS,mS]
   simp[SD,r8]
  ·rw[xc ag]
   show m3 (m+1) acc ⟨c::(di g5 l++34::rest),line,p⟩=_
   unfold m3
   rw[l!]
   dsimp only
   have J:c≠34:=λz=>ag (z▸by decide)
   have aa:c≠92:=λz=>ag (z▸by decide)
   rw[a3 (by simp[J]),a3 (by simp[aa]),a hm,mS]
   simp[r8]
theorem P? (hw:isWs a!=ab): ∀{l acc:List Nat} {n:Nat} {rest:List Nat} {line:Int} {p:List Str},(∀c∈l,c∈ix)→l.length<n→mc n acc ⟨di e5 l++a!::rest,line,p⟩=(acc++l,⟨rest,line+fi (di e5 l++[a!]),p⟩):=by
 intro l
 induction l with
 |nil=>
  intro acc n rest line p b h
  obtain ⟨m,rfl⟩: ∃m,n=m+1:=⟨n-1,by simp at h;exact pred_succ h⟩
  show mc (m+1) acc ⟨a!::rest,line,p⟩=_
  unfold mc
  rw[l!]
  dsimp only
  rw[a_ hw]
  show _=(acc++[],(⟨rest,line+fi [a!],p⟩:cQ))
  rw[e0,mS]
  simp[fi]
 |cons c l a=>
  intro acc n rest line p b h
  obtain ⟨m,rfl⟩: ∃m,n=m+1:=⟨n-1,by simp at h;exact qN (bE (k_ (n) (1))) (bE (o4 (show 1≤n from bE (e8 h))))⟩
  have hm:l.length<m:=by simp at h;omega
  have a:=λ{acc rest line p}=>a (acc:=acc) (n:=m) (rest:=rest) (line:=line) (p:=p) (λc ag=>b c (fb _ ag)) hm
  by_cases ag:c∈e5
  ·rw[Am ag]
   show mc (m+1) acc ⟨92::c::(di e5 l++a!::rest),line,p⟩=_
   unfold mc
   rw[l!]
   dsimp only
   rw[a3 ar,a_ ar,l!]
   dsimp only
   rw[a]
   show _=(acc++c::l,(⟨rest,line+fi (92::c::(di e5 l++[a!])),p⟩:cQ))
   rw[mS,mS]
   simp[SD,r8]
  ·rw[xc ag]
   show mc (m+1) acc ⟨c::(di e5 l++a!::rest),line,p⟩=_
   unfold mc
   rw[l!]
   dsimp only
   have J:isWs c=false:=by
    rcases vT (b c eQ) with rfl|rfl|rfl|rfl|rfl|rfl<;>first|rfl|exact bF ar ag
   have aa:c≠92:=λz=>ag (z▸by decide)
   rw[a3 (by rw[J];exact cv),a3 (by simp[aa]),a]
   show _=(acc++c::l,(⟨rest,line+fi (c::(di e5 l++[a!])),p⟩:cQ))
   rw[mS]
   simp[r8]
theorem ID (a:q<4):isWs (dU q)=true:=by
 induction q,a using Fs<;>rfl
theorem Lj (h l:List Nat):l.length≤(di h l).length:=by
 induction l with
 |nil=>exact hC _
 |cons c l a=>
  by_cases ag:c∈h
  ·rw[Am ag,gR,gR,gR];exact bE a
  ·rw[xc ag,gR,gR];exact DC a _
theorem Qb (i: ∀c∈l,c∈ix) {r q:Nat} (d:q<4) (rest:List Nat) (line:Int):(⟨iQ l r q++rest,line,[]⟩:cQ).token=(bI l,⟨rest,line+fi (iQ l r q),[]⟩):=by
 unfold cQ.token
 dsimp only
 suffices h:g! ((iQ l r q++rest).length+1) ⟨iQ l r q++rest,line,[]⟩=(l,⟨rest,line+fi (iQ l r q),[]⟩) by
  rw[h];rfl
 by_cases ag:r=0∨l=[]
 ·have e:iQ l r q=dU q::34::(di g5 l++[34]):=by unfold iQ;rw[a_ ag]
  rw[e]
  show g! (((di g5 l++[34]++rest).length+1)+1+1) ⟨dU q::34::(di g5 l++[34]++rest),line,[]⟩=_
  unfold g!
  rw[l!]
  dsimp only
  rw[a_ (ID d)]
  unfold g!
  rw[l!]
  dsimp only
  rw[a3 ar,a_ ar]
  have a:di g5 l++[34]++rest=di g5 l++34::rest:=by rw[iT];rfl
  rw[a]
  have b:=Lj g5 l
  rw[aip (by rw[er];exact bE b)]
  rw[mS,mS,Hr]
  simp[nl,fi,r8]
 ·have b8: ¬r=0:=λz=>ag (.inl z)
  have k:l≠[]:=λz=>ag (.inr z)
  obtain ⟨c,l',rfl⟩:=alc k
  have b:=Lj e5 l'
  have g: ∀x∈l',x∈ix:=λx af=>i x (fb _ af)
  have e:iQ (c::l') r q=(if c=34 then 92::di e5 (c::l') else di e5 (c::l'))++[dU q]:=by unfold iQ;rw[a3 ag];rfl
  by_cases ae:c=35
  ·subst ae
   rw[e,a3 ar,xc ar]
   show g! ((di e5 l'++[dU q]++rest).length+1+1) ⟨35::(di e5 l'++[dU q]++rest),line,[]⟩=_
   unfold g!
   rw[l!]
   dsimp only
   rw[a3 ar,a3 ar,a3 ar]
   have a:di e5 l'++[dU q]++rest=di e5 l'++dU q::rest:=by rw[iT];rfl
   rw[a,P? (ID d) g (by rw[er];exact bE b)]
   show _=(35::l',(⟨rest,line+fi (35::(di e5 l'++[dU q])),[]⟩:cQ))
   rw[mS]
   simp[r8]
  ·have j:(if c=34 then 92::di e5 (c::l') else di e5 (c::l'))=92::c::di e5 l':=by
    by_cases f:c=34
    ·subst f
     rw[a_ rfl,xc ar]
    ·rw[a3 f]
     refine Am ?_ l'
     rcases vT (i c eQ) with rfl|rfl|rfl|rfl|rfl|rfl<;>first|decide|exact bF rfl f|exact bF rfl ae
   rw[e,j]
   show g! ((di e5 l'++[dU q]++rest).length+1+1+1) ⟨92::c::(di e5 l'++[dU q]++rest),line,[]⟩=_
   unfold g!
   rw[l!]
   dsimp only
   rw[a3 ar,a3 ar,a_ ar,l!]
   dsimp only
   have a:di e5 l'++[dU q]++rest=di e5 l'++dU q::rest:=by rw[iT];rfl
   rw[a,P? (ID d) g (by rw[er];exact bE b)]
   show _=(c::l',(⟨rest,line+fi (92::c::(di e5 l'++[dU q])),[]⟩:cQ))
   rw[mS,mS]
   simp[SD,r8]
structure wH where
 c3:Nat
 gr:U
 dS:U
 a!:U
 pe:U
 h7:U
 iy:U
structure oj where
 a:Slot
 b:Slot
 c:Slot
 d:Slot
 e:Slot
 f:Slot
 g:Slot
def e2 (V:wH) (rs gs ws:List U) (wd t:U):aA:=[(S "lexer",.val (.obj V.c3)),(S "signs",.val V.gr),(S "ends",.val V.dS),(S "white",.val V.a!),(S "zero",.val V.pe),(S "sense",.val V.h7),(S "sought",.val V.iy),(S "rows",.own rs),(S "gaps",.own gs),(S "words",.own ws),(S "word",.val wd),(S "_",.val t)]
def yG:Option oj→aA
 |none=>[]
 |some T=>[(S "low",T.a),(S "high",T.b),(S "middle",T.c),(S "lights",T.d),(S "turns",T.e),(S "ways",T.f),(S "n",T.g)]
def P6 (a b:Slot):Option oj→aA
 |none=>[(S "low",a),(S "high",b)]
 |some T=>[(S "low",a),(S "high",b),(S "middle",T.c),(S "lights",T.d),(S "turns",T.e),(S "ways",T.f),(S "n",T.g)]
def P7 (a b c:Slot):Option oj→aA
 |none=>[(S "low",a),(S "high",b),(S "middle",c)]
 |some T=>[(S "low",a),(S "high",b),(S "middle",c),(S "lights",T.d),(S "turns",T.e),(S "ways",T.f),(S "n",T.g)]
def P8 (a b c d:Slot):Option oj→aA
 |none=>[(S "low",a),(S "high",b),(S "middle",c),(S "lights",d)]
 |some T=>[(S "low",a),(S "high",b),(S "middle",c),(S "lights",d),(S "turns",T.e),(S "ways",T.f),(S "n",T.g)]
def P9 (a b c d e:Slot):Option oj→aA
 |none=>[(S "low",a),(S "high",b),(S "middle",c),(S "lights",d),(S "turns",e)]
 |some T=>[(S "low",a),(S "high",b),(S "middle",c),(S "lights",d),(S "turns",e),(S "ways",T.f),(S "n",T.g)]
def CN (a b c d e f:Slot):Option oj→aA
 |none=>[(S "low",a),(S "high",b),(S "middle",c),(S "lights",d),(S "turns",e),(S "ways",f)]
 |some T=>[(S "low",a),(S "high",b),(S "middle",c),(S "lights",d),(S "turns",e),(S "ways",f),(S "n",T.g)]
def gC (d:Nat):bY:=⟨bq,d,(aE 21).scope⟩
def fm:List cK:=jR (a6 (aE 21).body 2)
theorem adO (a:gs.length≤100) (hw:ws.length≤100) {j:Nat} {A B:U} (J:methP (ao "index") (.list ws) [wd]=I (.int (j:Int))) (aa:dM (.list gs) (.int (j:Int))=I (.list [A,B])) (n:Nat):
  ex (n+60) (gC d) (a6 fm 0) (e2 V rs gs ws wd t++yG o) w=I (.next,e2 V rs gs ws wd t++P6 (.val A) (.val B) o,w):=by
 induction o using d5 with
 |none=>exact cg [aM J,aM aa]
 |some T=>exact cg [aM J,aM aa]
theorem adP (a:dM A (.int 0)=I (.aj c)) (f1:dM A (.int 1)=I (.aj a1)) (f2:dM A (.int 2)=I (.aj a2)) (g0:dM B (.int 0)=I (.aj e)) (g1:dM B (.int 1)=I (.aj b1)) (b:dM B (.int 2)=I (.aj b2)) (n:Nat):
  ex (n+60) (gC d) (a6 fm 1) (e2 V rs gs ws wd t++P6 (.val A) (.val B) o) w=I (.next,e2 V rs gs ws wd t++P7 (.val A) (.val B) (.own [.aj (ct c e),.aj (ct a1 b1),.aj (ct a2 b2)]) o,w):=by
 induction o using d5 with
 |none=>exact cg [.go,.go,.go,aM a,aM g0,.go,aM f1,aM g1,.go,aM f2,aM b,.go]
 |some T=>exact cg [.go,.go,.go,aM a,aM g0,.go,aM f1,aM g1,.go,aM f2,aM b,.go]
def tp:Scope:=fj (valueOf (a6 fm 2))
def Ip:Scope:=fj (valueOf (a6 fm 3))
theorem adQ (c:dM A (.int 0)=I (.aj k)) (f1:dM A (.int 1)=I (.aj a1)) (f2:dM A (.int 2)=I (.aj a2)) (e:dM B (.int 0)=I (.aj l)) (J:dM B (.int 1)=I (.aj b1)) (aa:dM B (.int 2)=I (.aj b2))
  (a:b? .Div V.a! (.aj 4625196817309499392)=I (.aj x))
  (g: ∀n,b' (n+100) ⟨bq,d,tp⟩ (aE 4) [.aj (ct k x),.aj a1,.aj a2] w=I (i,w))
  (jC: ∀n,b' (n+100) ⟨bq,d,tp⟩ (aE 4) [.aj (ct m0 x),.aj b4,.aj b] w=I (j,w))
  (qG: ∀n,b' (n+100) ⟨bq,d,tp⟩ (aE 4) [.aj (ct l x),.aj b1,.aj b2] w=I (h,w))
  (f: ∀n,b' (n+80) ⟨bq,d,tp⟩ (aE 17) [i] w=I (gy,w))
  (bp: ∀n,b' (n+80) ⟨bq,d,tp⟩ (aE 17) [j] w=I (fy,w))
  (bK: ∀n,b' (n+80) ⟨bq,d,tp⟩ (aE 17) [h] w=I (ig,w)) (n:Nat):
  ex (n+200) (gC d) (a6 fm 2) (e2 V rs gs ws wd t++P7 (.val A) (.val B) (.own [.aj m0,.aj b4,.aj b]) o) w=I (.next,e2 V rs gs ws wd t++P8 (.val A) (.val B) (.val (.list [.aj m0,.aj b4,.aj b])) (.own [gy,fy,ig]) o,w):=by
 induction o using d5 with
 |none=>exact cg [.go,.go,aM c,aM a,.go,aM f1,aM f2,cZ (@g (n+93)),cZ (@f (n+115)),.go,aM a,.go,.go,.go,cZ (@jC (n+92)),cZ (@bp (n+114)),aM e,aM a,.go,aM J,aM aa,cZ (@qG (n+91)),cZ (@bK (n+113))]
 |some T=>exact cg [.go,.go,aM c,aM a,.go,aM f1,aM f2,cZ (@g (n+93)),cZ (@f (n+115)),.go,aM a,.go,.go,.go,cZ (@jC (n+92)),cZ (@bp (n+114)),aM e,aM a,.go,aM J,aM aa,cZ (@qG (n+91)),cZ (@bK (n+113))]
theorem adR (e: ∀n,b' (n+200) ⟨bq,d,Ip⟩ (aE 18) [gy] w=I (kp,w)) (bp: ∀n,b' (n+200) ⟨bq,d,Ip⟩ (aE 18) [fy] w=I (j8,w)) (bK: ∀n,b' (n+200) ⟨bq,d,Ip⟩ (aE 18) [ig] w=I (mv,w)) (n:Nat):
  ex (n+300) (gC d) (a6 fm 3) (e2 V rs gs ws wd t++P8 (.val a) (.val b) (.val c) (.own [gy,fy,ig]) o) w=I (.next,e2 V rs gs ws wd t++P9 (.val a) (.val b) (.val c) (.own [gy,fy,ig]) (.own [kp,j8,mv]) o,w):=by
 induction o using d5 with
 |none=>exact cg [.go,.go,cZ (@e (n+95)),cZ (@bp (n+94)),cZ (@bK (n+93))]
 |some T=>exact cg [.go,.go,cZ (@e (n+95)),cZ (@bp (n+94)),cZ (@bK (n+93))]
theorem adS (s0:b? .Sub kp V.pe=I k) (s1:b? .Sub j8 V.pe=I l) (s2:b? .Sub mv V.pe=I g) (m0:b? .Mult k V.h7=I i) (b4:b? .Mult l V.h7=I j) (e:b? .Mult g V.h7=I M2) (f:b? .Mod i (.int 1099511627776)=I h) (w1:b? .Mod j (.int 1099511627776)=I W1) (fC:b? .Mod M2 (.int 1099511627776)=I m) (n:Nat):
  ex (n+60) (gC d) (a6 fm 4) (e2 V rs gs ws wd t++P9 (.val a) (.val b) (.val c) (.own L) (.own [kp,j8,mv]) o) w=I (.next,e2 V rs gs ws wd t++CN (.val a) (.val b) (.val c) (.own L) (.own [kp,j8,mv]) (.own [h,W1,m]) o,w):=by
 induction o using d5 with
 |none=>exact cg [.go,.go,aM s0,aM m0,aM f,aM s1,aM b4,aM w1,aM s2,aM e,aM fC]
 |some T=>exact cg [.go,.go,aM s0,aM m0,aM f,aM s1,aM b4,aM w1,aM s2,aM e,aM fC]
theorem adT (b8:rs.length≤100) (n:Nat):
  ex (n+60) (gC d) (a6 fm 5) (e2 V rs gs ws wd t++CN (.val a) (.val b) (.val c) (.own [gy,fy,ig]) (.own [kp,j8,mv]) (.own [e,W1,f]) o) w=I (.next,e2 V (rs++[.list [wd,fy,j8,e,f]]) gs ws wd t++CN (.val a) (.val b) (.val c) (.own [gy,fy,ig]) (.own [kp,j8,mv]) (.own [e,W1,f]) o,w):=by
 induction o using d5 with
 |none=>exact cg [.go,.go,.go,.go,.p _ (cW b8 rfl:rs.length≤1048576)]
 |some T=>exact cg [.go,.go,.go,.go,.p _ (cW b8 rfl:rs.length≤1048576)]
def rI (a b c d e f g:Slot):aA:=[(S "low",a),(S "high",b),(S "middle",c),(S "lights",d),(S "turns",e),(S "ways",f),(S "n",g)]
def xV:List cK:=jR (a6 fm 6)
structure pz where
 a:U
 b:U
 c:U
 gy:U
 fy:U
 ig:U
 kp:U
 j8:U
 mv:U
 x:Nat
 y:Nat
 z:Nat
def n7 (Y:pz) (v:U):aA:=rI (.val Y.a) (.val Y.b) (.val Y.c) (.own [Y.gy,Y.fy,Y.ig]) (.own [Y.kp,Y.j8,Y.mv]) (.own [aT Y.x,aT Y.y,aT Y.z]) (.val v)
def PV (Y:pz) (o:Option oj):aA:=CN (.val Y.a) (.val Y.b) (.val Y.c) (.own [Y.gy,Y.fy,Y.ig]) (.own [Y.kp,Y.j8,Y.mv]) (.own [aT Y.x,aT Y.y,aT Y.z]) o
theorem kf (u v:Nat):e_ .Lt (aT u) (aT v)=I (decide (u<v)):=aQ I (decide_eq_decide.mpr (by show ((u:Int)<(v:Int))↔_;exact lC))
def rl {x y p:U} {b1 b2:Bool} (cn:e_ .Lt x p=I b1) (c5:e_ .Lt p y=I b2):List Fact:= .go::cE cn::(if b1 then [.go,.go,cE c5] else [])
noncomputable def oN (x y p q:Nat):Bool:=(decide (x<p)&&decide (p<y))||(decide (x<q)&&decide (q<y))
def pz.insI (Y:pz) (i p q:Nat):Bool:=if i=0 then oN Y.x Y.y p q else oN Y.y Y.z p q
theorem qV {P:Bool→Bool→Prop} (c: ∀b,P aq b) (J:P ab aq) (aa:P ab ab) (a b:Bool):P a b:=by
 cases a
 ·exact c b
 ·cases b
  ·exact J
  ·exact aa
section
variable {V:wH} {rs gs ws:List U} {wd t:U} {d:Nat} {w:W}
theorem aal {i:Nat} (aI:i<2) {p q:Nat} (g:V.iy= .list [aT p,aT q]) (Y:pz) (h:Y.insI i p q=aq) (n:Nat):
  cw (n+100) (gC d) xV (e2 V rs gs ws wd t++n7 Y (.int i)) w=I (.next,e2 V rs gs ws wd t++n7 Y (.int i),w):=by
 obtain ⟨c3,j,dS,a!,pe,h7,iy⟩:=V
 have g:iy=_:=g
 subst g
 obtain ⟨a,b,c,gy,fy,ig,kp,j8,mv,x,y,z⟩:=Y
 induction i,aI using CW
 ·have h:oN x y p q=false:=h
  unfold oN at h
  have p1:=kf x p;have p2:=kf p y;have c!:=kf x q;have dT:=kf q y
  revert h p1 p2 c! dT
  generalize decide (x<p)=b1,decide (p<y)=b2,decide (x<q)=e,decide (q<y)=f
  induction b1,b2 using qV<;>induction e,f using qV<;>intro h p1 p2 c! dT<;>first|(exact bF h.symm cv;done)|exact jy (.go:: .go::(rl p1 p2++(rl c! dT++[.go])))
 ·have h:oN y z p q=false:=h
  unfold oN at h
  have p1:=kf y p;have p2:=kf p z;have c!:=kf y q;have dT:=kf q z
  revert h p1 p2 c! dT
  generalize decide (y<p)=b1,decide (p<z)=b2,decide (y<q)=e,decide (q<z)=f
  induction b1,b2 using qV<;>induction e,f using qV<;>intro h p1 p2 c! dT<;>first|(exact bF h.symm cv;done)|exact jy (.go:: .go::(rl p1 p2++(rl c! dT++[.go])))
theorem aam {i:Nat} (aI:i<2) {p q:Nat} (g:V.iy= .list [aT p,aT q]) (Y:pz) (h:Y.insI i p q=ab) (k:gs.length≤1048576) (hw:ws.length≤1048576)
  {gr:U} {aR:Str} {w':W} (J:dM V.gr (.int i)=I gr) (aa:b? .Add wd gr=I (.str aR)) (j:Cf V.c3 aR w=I (.none,w')) (n:Nat):
  cw (n+100) (gC (d+4)) xV (e2 V rs gs ws wd t++n7 Y (.int i)) w=
   I (.next,e2 V rs (gs++[if i=0 then .list [Y.a,Y.c] else .list [Y.c,Y.b]]) (ws++[.str aR]) wd t++n7 Y (.int i),w'):=by
 obtain ⟨c3,l,dS,a!,pe,h7,iy⟩:=V
 have g:iy=_:=g
 subst g
 obtain ⟨a,b,c,gy,fy,ig,kp,j8,mv,x,y,z⟩:=Y
 induction i,aI using CW
 ·have h:oN x y p q=true:=h
  unfold oN at h
  have p1:=kf x p;have p2:=kf p y;have c!:=kf x q;have dT:=kf q y
  revert h p1 p2 c! dT
  generalize decide (x<p)=b1,decide (p<y)=b2,decide (x<q)=e,decide (q<y)=f
  induction b1,b2 using qV<;>induction e,f using qV<;>intro h p1 p2 c! dT<;>first|(exact bF h cv;done)|exact jy (.go:: .go::(rl p1 p2++(rl c! dT++[.go,aM J,aM aa,cZ j,aM J,aM aa,.p _ hw,.go,.p _ k])))
 ·have h:oN y z p q=true:=h
  unfold oN at h
  have p1:=kf y p;have p2:=kf p z;have c!:=kf y q;have dT:=kf q z
  revert h p1 p2 c! dT
  generalize decide (y<p)=b1,decide (p<z)=b2,decide (y<q)=e,decide (q<z)=f
  induction b1,b2 using qV<;>induction e,f using qV<;>intro h p1 p2 c! dT<;>first|(exact bF h cv;done)|exact jy (.go:: .go::(rl p1 p2++(rl c! dT++[.go,aM J,aM aa,cZ j,aM J,aM aa,.p _ hw,.go,.p _ k])))
end
theorem Yz (g:d2 cx.sc tgt p σ=I a) (e: ∀n,cw (n+100) cx body a w=I (.next,σ1,w1)) (b1:d2 cx.sc tgt q σ1=I f) (c: ∀n,cw (n+100) cx body f w1=I (.next,b,fC)) (n:Nat):
  forL (n+110) cx tgt body [p,q] σ w=I (.next,b,fC):=by
 have d:=e (n+9)
 have f1:=c (n+8)
 exact eO g (eO d (eO b1 (eO f1 rfl)))
theorem adU {Y:pz} {o:Option oj} (f: ∀n,cw (n+100) (gC d) xV (e2 V rs gs ws wd t++n7 Y (.int (0:Nat))) w=I (.next,e2 V rs b a wd t++n7 Y (.int (0:Nat)),w1))
  (e: ∀n,cw (n+100) (gC d) xV (e2 V rs b a wd t++n7 Y (.int (1:Nat))) w1=I (.next,e2 V rs c g wd t++n7 Y (.int (1:Nat)),fC)) (n:Nat):
  ex (n+200) (gC d) (a6 fm 6) (e2 V rs gs ws wd t++PV Y o) w=I (.next,e2 V rs c g wd t++n7 Y (.int (1:Nat)),fC):=by
 have h:=Yz (cx:=gC d) (tgt:=gf (a6 fm 6)) (p:= .int (0:Nat)) (q:= .int (1:Nat)) (σ:=e2 V rs gs ws wd t++PV Y o) (by induction o using d5<;>kernel_rfl) f aY e
 induction o using d5<;>exact cg [.go,mE (@h (n+89))]
theorem Og {T7:Slot×Slot×Slot×Slot×Slot×Slot×Slot} {aG:Str} (h:m4 V.c3 w=I (.str aG,w1)) (n:Nat):
  ex (n+60) (gC (d+4)) (a6 fm 7) (e2 V rs gs ws wd t++rI T7.1 T7.2.1 T7.2.2.1 T7.2.2.2.1 T7.2.2.2.2.1 T7.2.2.2.2.2.1 T7.2.2.2.2.2.2) w=I (.next,e2 V rs gs ws (.str aG) t++rI T7.1 T7.2.1 T7.2.2.1 T7.2.2.2.1 T7.2.2.2.2.1 T7.2.2.2.2.2.1 T7.2.2.2.2.2.2,w1):=by
 exact cg [cZ h]
theorem adV {T7:Slot×Slot×Slot×Slot×Slot×Slot×Slot} (h:kK wd (.list ws)=I ab) (n:Nat):
  ex (n+60) (gC d) (a6 fm 8) (e2 V rs gs ws wd t++rI T7.1 T7.2.1 T7.2.2.1 T7.2.2.2.1 T7.2.2.2.2.1 T7.2.2.2.2.2.1 T7.2.2.2.2.2.2) w=I (.next,e2 V rs gs ws wd t++rI T7.1 T7.2.1 T7.2.2.1 T7.2.2.2.1 T7.2.2.2.2.1 T7.2.2.2.2.2.1 T7.2.2.2.2.2.2,w):=by
 exact cg [cE (GH h)]
theorem adW {T7:Slot×Slot×Slot×Slot×Slot×Slot×Slot} (h:kK wd (.list ws)=I aq) (b8:rs.length≤100): ∃σ',∀n,
  ex (n+60) (gC d) (a6 fm 8) (e2 V rs gs ws wd t++rI T7.1 T7.2.1 T7.2.2.1 T7.2.2.2.1 T7.2.2.2.2.1 T7.2.2.2.2.2.1 T7.2.2.2.2.2.2) w=I (.ret (.tup [.list rs,wd]),σ',w):=by
 refine ⟨[(S "lexer",.val (.obj V.c3)),(S "signs",.val V.gr),(S "ends",.val V.dS),(S "white",.val V.a!),(S "zero",.val V.pe),(S "sense",.val V.h7),(S "sought",.val V.iy),(S "rows",.val (.list rs)),(S "gaps",.own gs),(S "words",.own ws),(S "word",.val wd),(S "_",.val t)]++rI T7.1 T7.2.1 T7.2.2.1 T7.2.2.2.1 T7.2.2.2.2.1 T7.2.2.2.2.2.1 T7.2.2.2.2.2.2,λn=> ?_⟩
 exact cg [cE (GH h)]
theorem UC:fm=[a6 fm 0,a6 fm 1,a6 fm 2,a6 fm 3,a6 fm 4,a6 fm 5,a6 fm 6,a6 fm 7,a6 fm 8]:=aY
abbrev mx:=(Bool×kq)×(Nat×Nat)
def BW (a b:mx):mx:=((aq,jK a.1.2 b.1.2),gJ a.2 b.2)
theorem LQ (f:X→Y) (h: ∀a b,f (mid a b)=mid' (f a) (f b)): ∀(w:List Bool) (p q:X),d6 mid' w (f p) (f q)=(f (d6 mid w p q).1,f (d6 mid w p q).2):=by
 intro w
 induction w with
 |nil=>intros;rfl
 |cons b w c=>
  intro p q
  induction b using d1 with
  |true=>show d6 mid' w (f p) (mid' (f p) (f q))=_;rw[←h];exact c _ _
  |false=>show d6 mid' w (mid' (f p) (f q)) (f q)=_;rw[←h];exact c _ _
theorem YM: ∀(w:List Bool) (p q:X),d6 mid (w++[ab]) p q=((d6 mid w p q).1,mid (d6 mid w p q).1 (d6 mid w p q).2):=by
 intro w
 induction w with
 |nil=>intros;rfl
 |cons b w a=>intro p q;induction b using d1<;>exact a _ _
theorem YL: ∀(w:List Bool) (p q:X),d6 mid (w++[aq]) p q=(mid (d6 mid w p q).1 (d6 mid w p q).2,(d6 mid w p q).2):=by
 intro w
 induction w with
 |nil=>intros;rfl
 |cons b w a=>intro p q;induction b using d1<;>exact a _ _
theorem YN {P:X→Prop}: ∀(w:List Bool) (p q:X),P p→P q→(∀w',w'.length<w.length→P (mid (d6 mid w' p q).1 (d6 mid w' p q).2))→P (d6 mid w p q).1∧P (d6 mid w p q).2:=by
 intro w
 induction w with
 |nil=>intro p q aC a _;exact ⟨aC,a⟩
 |cons b w c=>
  intro p q aC a h
  have hm:P (mid p q):=h [] (Nat.zero_lt_succ _)
  induction b using d1 with
  |true=>exact c p (mid p q) aC hm λw' hw=>h (ab::w') (zb hw)
  |false=>exact c (mid p q) q hm a λw' hw=>h (aq::w') (zb hw)
structure c9 where
 s:Nat
 a!:Nat
 dv:Nat
 k:Nat
 u:List Bool
 v:List Bool
 p:kq
 q:kq
 au:s<12
 hw:a!<4
 b8:dv<3
 av:k<15
 b0:u.length≤4
 aN:v.length≤3
 E:D9 s dv p q
namespace c9
variable (C:c9)
def ea (x:List Bool):mx×mx:=d6 BW x ((ab,C.p),(1,0)) ((ab,C.q),(0,1))
def ql (x:List Bool):mx:=BW (C.ea x).1 (C.ea x).2
theorem AH (x:List Bool):d6 gJ x (1,0) (0,1)=((C.ea x).1.2,(C.ea x).2.2):=LQ (mid:=BW) (mid':=gJ) (λy:mx=>y.2) (λZ Z=>rfl) x ((ab,C.p),(1,0)) ((ab,C.q),(0,1))
theorem YK (x:List Bool):d6 jK x C.p C.q=((C.ea x).1.1.2,(C.ea x).2.1.2):=LQ (mid:=BW) (mid':=jK) (λy:mx=>y.1.2) (λZ Z=>rfl) x ((ab,C.p),(1,0)) ((ab,C.q),(0,1))
theorem Hd (af:x.length≤4):(C.ql x).2=bg x:=by
 have:=Hj af
 rw[C.AH] at this
 exact this
def Good (y:mx):Prop:=wF C.s C.a! y.1.2 y.2∧iW y.2
theorem LZ (af:x.length≤4):C.Good (C.ql x):=by
 have:=C.E.V! C.hw x af
 rw[C.YK] at this
 refine ⟨?_,.inr (.inr ⟨x,af,C.Hd af⟩)⟩
 rw[C.Hd af]
 exact this
theorem YZ {x:List Bool} (af:x.length≤5):C.Good (C.ea x).1∧C.Good (C.ea x).2:=
 YN (P:=C.Good) x _ _ ⟨C.E.hE C.hw,.inl rfl⟩ ⟨C.E.cn C.hw,.inr (.inl rfl)⟩ λw' hw=>C.LZ (nf (jf hw af))
noncomputable def eX (y:mx):U:=if y.1.1 then .tup [.aj y.1.2.1,.aj y.1.2.2.1,.aj y.1.2.2.2] else .list [.aj y.1.2.1,.aj y.1.2.2.1,.aj y.1.2.2.2]
theorem OP (y:mx):dM (eX y) (.int 0)=I (.aj y.1.2.1)∧dM (eX y) (.int 1)=I (.aj y.1.2.2.1)∧dM (eX y) (.int 2)=I (.aj y.1.2.2.2):=by
 unfold eX
 split<;>exact ⟨by kernel_rfl,by kernel_rfl,by kernel_rfl⟩
def nC (x:List Bool):U:= .list [eX (C.ea x).1,eX (C.ea x).2]
def gL (l:Nat×Nat):U:=l5 (vB C.s C.a! l) (vC C.s C.a! l) (vD C.s C.a! l)
def fk (l:Nat×Nat):Nat:=way C.s C.a! l
def row (x:List Bool):U:= .list [.str (wS C.k x),C.gL (bg x),aT (e9 C.s C.a! (bg x)),aT (C.fk (C.ea x).1.2),aT (C.fk (C.ea x).2.2)]
def iy:List Nat:=[C.fk (bg C.u),C.fk (bg C.v)]
def V (i:Nat):wH:=⟨i,.tup [.str (cI (sgn C.k).1),.str (cI (sgn C.k).2)],.list [eX ((ab,C.p),(1,0)),eX ((ab,C.q),(0,1))],aT C.a!,aT (e9 C.s C.a! (1,0)),.int (mX C.s),.list (C.iy.map aT)⟩
def into (x:List Bool):Bool:=h6 x C.u||h6 x C.v
noncomputable def kids (x:List Bool):List (List Bool):=(if C.into (x++[ab]) then [x++[ab]] else [])++(if C.into (x++[aq]) then [x++[aq]] else [])
theorem Y2 (x:List Bool):C.nC (x++[ab])= .list [eX (C.ea x).1,eX (C.ql x)]:=by
 unfold nC
 have:C.ea (x++[ab])=((C.ea x).1,C.ql x):=YM x _ _
 rw[this]
theorem Y1 (x:List Bool):C.nC (x++[aq])= .list [eX (C.ql x),eX (C.ea x).2]:=by
 unfold nC
 have:C.ea (x++[aq])=(C.ql x,(C.ea x).2):=YL x _ _
 rw[this]
def QW (y:mx):U:= .tup [.aj (hi (lj (ct y.1.2.1 (d' (fD C.a!) pa)) y.1.2.2.1 y.1.2.2.2)),.aj (hi (mG (ct y.1.2.1 (d' (fD C.a!) pa)) y.1.2.2.1 y.1.2.2.2)),.aj (hi (oo (ct y.1.2.1 (d' (fD C.a!) pa)) y.1.2.2.1 y.1.2.2.2))]
theorem IH (y:mx) {d:Nat} {sc:Scope} {w:W} (n:Nat):b' (n+100) ⟨bq,d+1,sc⟩ (aE 4) [.aj (ct y.1.2.1 (d' (fD C.a!) pa)),.aj y.1.2.2.1,.aj y.1.2.2.2] w=I (C.QW y,w):=Qt (n:=n) (d:=d) (sc:=sc) (w:=w) _ _ _
theorem II (h:C.Good y) {d:Nat} {sc:Scope} {w:W} (n:Nat):b' (n+80) ⟨bq,d+1,sc⟩ (aE 17) [C.QW y] w=I (C.gL y.2,w):=IE (n:=n) (d:=d) (sc:=sc) (w:=w) _ _ _ _ _ _ (qd h.1.1) (qd h.1.2) (qd h.1.3)
theorem yH (h:iW l) {d:Nat} {sc:Scope} {w:W} (n:Nat):b' (n+200) ⟨bq,d+2,sc⟩ (aE 18) [C.gL l] w=I (aT (e9 C.s C.a! l),w):=by
 have z:=HE (s:=C.s) C.hw h
 exact aiD (ER C.au C.hw h) z.1 z.2.1 z.2.2
theorem agl:small (mX C.s)=true:=by
 rw[HX C.au]
 split<;>decide
def w1 (l:Nat×Nat):U:= .int ((e9 C.s C.a! l:Int)-(e9 C.s C.a! (1,0):Int))
def fC (l:Nat×Nat):U:= .int (((e9 C.s C.a! l:Int)-(e9 C.s C.a! (1,0):Int))*mX C.s)
theorem yN (l:Nat×Nat):b? .Sub (aT (e9 C.s C.a! l)) (aT (e9 C.s C.a! (1,0)))=I (C.w1 l):=rfl
theorem yO (l:Nat×Nat):b? .Mult (C.w1 l) (.int (mX C.s))=I (C.fC l):=kF C.agl
theorem yP (h:iW l):b? .Mod (C.fC l) (.int 1099511627776)=I (aT (C.fk l)):=mod_eq ar (ai1 C.au C.hw h)
end c9
noncomputable abbrev zJ:=Slot×Slot×Slot×Slot×Slot×Slot×Slot
def CO (T7:zJ):aA:=rI T7.1 T7.2.1 T7.2.2.1 T7.2.2.2.1 T7.2.2.2.2.1 T7.2.2.2.2.2.1 T7.2.2.2.2.2.2
theorem aiZ (k:Nat) (x:List Bool) (b:Bool):wS k x++cI (fa k b)=wS k (x++[b]):=by
 refine vX ?_
 rw[si]
 show cR k x++[fa k b]=cR k (x++[b])
 unfold cR
 rw[kR]
 rfl
theorem aiX (k:Nat) {x:List Bool} (af:x.length≤4) (b:Bool):b? .Add (.str (wS k x)) (.str (cI (fa k b)))=I (.str (wS k (x++[b]))):=by
 have a:=h_ k x
 rw[add_str (by rw[a];show _+1≤_;exact pB af (bh _) rfl),aiZ]
namespace c9
variable (C:c9)
theorem aas (af:x.length≤4) (b:Bool):pz.insI ⟨d,a,c,gy,fy,ig,kp,j8,mv,C.fk (C.ea x).1.2,C.fk (bg x),C.fk (C.ea x).2.2⟩ (if b then 0 else 1) (C.fk (bg C.u)) (C.fk (bg C.v))=C.into (x++[b]):=by
 have b0:=Ii C.au C.hw af C.b0
 have aN:=Ii C.au C.hw af (hP C.aN)
 unfold into
 induction b using d1 with
 |true=>
  have J:=b0.near;have aa:=aN.near
  rw[C.AH] at J aa
  rw[←J,←aa]
  rfl
 |false=>
  have J:=b0.bE;have aa:=aN.bE
  rw[C.AH] at J aa
  rw[←J,←aa]
  rfl
def o1 (w:W) (i:Nat) (l:cQ) (K:List (List Bool)):W:=w.set i {l with push:=l.push++K.map (wS C.k)}
noncomputable def sel (x:List Bool) (b:Bool):List (List Bool):=if C.into (x++[b]) then [x++[b]] else []
def yU (x:List Bool):pz:=⟨eX (C.ea x).1,eX (C.ea x).2,eX (C.ql x),C.gL (C.ea x).1.2,C.gL (bg x),C.gL (C.ea x).2.2,aT (e9 C.s C.a! (C.ea x).1.2),aT (e9 C.s C.a! (bg x)),aT (e9 C.s C.a! (C.ea x).2.2),C.fk (C.ea x).1.2,C.fk (bg x),C.fk (C.ea x).2.2⟩
theorem half (af:x.length≤4) (b:Bool) {i:Nat} {rs gs ws:List U} (f:gs.length≤1048576) (g:ws.length≤1048576) {t:U} {w:W} {l:cQ} (c:w[i]?=I l) (e6:l.push.length<1048576) (d n:Nat):
  cw (n+100) (gC (d+4)) xV (e2 (C.V i) rs gs ws (.str (wS C.k x)) t++n7 (C.yU x) (.int ((if b then 0 else 1:Nat)))) w=
   I (.next,e2 (C.V i) rs (gs++(C.sel x b).map C.nC) (ws++(C.sel x b).map λy=> .str (wS C.k y)) (.str (wS C.k x)) t++n7 (C.yU x) (.int ((if b then 0 else 1:Nat))),C.o1 w i l (C.sel x b)):=by
 have aI:(if b then 0 else 1:Nat)<2:=by induction b using d1<;>decide
 have a:(C.yU x).insI (if b then 0 else 1) (C.fk (bg C.u)) (C.fk (bg C.v))=C.into (x++[b]):=C.aas af b
 unfold sel
 cases a5:C.into (x++[b]) with
 |false=>
  rw[aal aI rfl (C.yU x) (a.trans a5),a3 cv]
  unfold o1
  rw[uf,uf,uf,e0,e0,e0]
  exact aQ (λq=>I (fx.next,_,q)) (Pl c).symm
 |true=>
  have J:dM (C.V i).gr (.int ((if b then 0 else 1:Nat)))=I (.str (cI (fa C.k b))):=by induction b using d1<;>(show dM (.tup [_,_]) (.int _)=_;kernel_rfl)
  have e:Cf (C.V i).c3 (wS C.k (x++[b])) w=I (.none,w.set i {l with push:=l.push++[wS C.k (x++[b])]}):=by
   show (w[i]?).bind _=_
   exact c▸(a_ e6)
  rw[aam aI rfl (C.yU x) (a.trans a5) f g J (aiX C.k af b) e,a_ rfl]
  induction b using d1 with
  |true=>rw[ald,C.Y2];rfl
  |false=>rw[ald,C.Y1];rfl
theorem aiC (af:x.length≤4) {i j:Nat} {rs gs ws:List U} (z:rs.length≤50) (f:gs.length≤50) (g:ws.length≤50) (t:U) (o:Option oj) (J:methP (ao "index") (.list ws) [.str (wS C.k x)]=I (.int (j:Int))) (aa:dM (.list gs) (.int (j:Int))=I (C.nC x))
  {w:W} {l:cQ} (p:w[i]?=I l) (e6:l.push.length≤100) (d:Nat):
  ∃T7:zJ,∀n,cw (n+400) (gC (d+4)) fm (e2 (C.V i) rs gs ws (.str (wS C.k x)) t++yG o) w=
   cw (n+393) (gC (d+4)) [a6 fm 7,a6 fm 8] (e2 (C.V i) (rs++[C.row x]) (gs++(C.kids x).map C.nC) (ws++(C.kids x).map λy=> .str (wS C.k y)) (.str (wS C.k x)) t++CO T7) (C.o1 w i l (C.kids x)):=by
 have h:=C.LZ af
 have c:=C.YZ (hP af)
 have q:=C.Hd af
 have m:iW (bg x):=q▸h.2
 have bp:=λn=>C.II h (d:=d+3) (sc:=tp) (w:=w) n
 rw[q] at bp
 have a:=OP (C.ea x).1
 have b:=OP (C.ea x).2
 have H:b? .Div (C.V i).a! (.aj 4625196817309499392)=I (.aj (d' (fD C.a!) pa)):=by
  show (if small (C.a!:Int)∧ ¬kT 4625196817309499392 then I (U.aj (d' (fD (C.a!:Int)) 4625196817309499392)) else ah)=_
  rw[a_ ⟨jY (by have:=C.hw;exact oT this rfl),by decide+kernel⟩]
  rfl
 have e: ∀b,(C.sel x b).length≤1:=λb=>by
  unfold sel
  split
  ·exact bh 1
  ·exact hC 1
 have L:i<w.length:=(hh.mp p).1
 have E:=λn=>C.half af ab (rs:=rs++[C.row x]) (t:=t) (cW f rfl) (cW g rfl) p (ke e6 rfl) d n
 have A:=λn=>C.half af aq (rs:=rs++[C.row x]) (gs:=gs++(C.sel x ab).map C.nC) (ws:=ws++(C.sel x ab).map λy=> .str (wS C.k y)) (t:=t) (w:=C.o1 w i l (C.sel x ab)) (l:={l with push:=l.push++(C.sel x ab).map (wS C.k)}) (by rw[er,df];exact pB f (e ab) rfl) (by rw[er,df];exact pB g (e ab) rfl) (Ji L) (by rw[er,df];exact gP (m_ e6 (e ab)) (by decide)) d n
 have r:=λn=>adU (o:=o) E A n
 have u:C.kids x=C.sel x ab++C.sel x false:=rfl
 have v:C.o1 (C.o1 w i l (C.sel x ab)) i {l with push:=l.push++(C.sel x ab).map (wS C.k)} (C.sel x aq)=C.o1 w i l (C.kids x):=by
  rw[u]
  unfold o1
  rw[Jj,kR,iT]
 rw[v,iT,iT,←kR,←kR,←u] at r
 refine ⟨(.val (eX (C.ea x).1),.val (eX (C.ea x).2),.val (eX (C.ql x)),.own [C.gL (C.ea x).1.2,C.gL (bg x),C.gL (C.ea x).2.2],.own [aT (e9 C.s C.a! (C.ea x).1.2),aT (e9 C.s C.a! (bg x)),aT (e9 C.s C.a! (C.ea x).2.2)],.own [aT (C.fk (C.ea x).1.2),aT (C.fk (bg x)),aT (C.fk (C.ea x).2.2)],.val (.int (1:Nat))),λn=> ?_⟩
 rw[UC]
 refine (cN (D:=399) (λn=>adO (cW f rfl) (cW g rfl) J aa n) ar n).trans ?_
 refine (cN (D:=398) (λn=>adP a.1 a.2.1 a.2.2 b.1 b.2.1 b.2.2 n) ar n).trans ?_
 refine (cN (D:=397) (λn=>adQ a.1 a.2.1 a.2.2 b.1 b.2.1 b.2.2 H (C.IH _) (C.IH (C.ql x)) (C.IH _) (C.II c.1) bp (C.II c.2) n) ar n).trans ?_
 refine (cN (D:=396) (λn=>adR (C.yH c.1.2) (C.yH m) (C.yH c.2.2) n) ar n).trans ?_
 refine (cN (D:=395) (λn=>adS (C.yN _) (C.yN _) (C.yN _) (C.yO _) (C.yO _) (C.yO _) (C.yP c.1.2) (C.yP m) (C.yP c.2.2) n) ar n).trans ?_
 refine (cN (D:=394) (λn=>adT (cW z rfl) n) ar n).trans ?_
 exact cN (D:=393) r ar n
end c9
def Nf (u v x:List Bool):Bool:=h6 x u||h6 x v
def By (u v x:List Bool):List (List Bool):=(if Nf u v (x++[ab]) then [x++[ab]] else [])++(if Nf u v (x++[aq]) then [x++[aq]] else [])
noncomputable def gi (u v:List Bool):Nat→List (List Bool)
 |0=>[[]]
 |j+1=>gi u v j++(((gi u v j)[j]?).map (By u v)).getD []
def h5 (u v:List Bool):Nat:=(gi u v 9).length
noncomputable def B1:List (List Bool)→Bool
 |[]=>ab
 |x::l=> !l.contains x&&B1 l
theorem ad4: ∀l:List (List Bool),B1 l=ab↔l.Nodup:=by
 intro l
 induction l with
 |nil=>exact ⟨λZ=> .nil,λZ=>rfl⟩
 |cons x l a=>
  show (!l.contains x&&B1 l)=ab↔_
  rw[j3,a,y']
  simp
def Ke (u v:List Bool):Bool:=decide (1≤h5 u v)&&(decide (h5 u v≤8)&&((eB (h5 u v)).all (λj=>decide (j<(gi u v j).length)&&(gi u v j).length≤8)&&(decide ((gi u v (h5 u v)).length=h5 u v)&&((gi u v (h5 u v)).all (λx=>decide (x.length≤4))&&B1 (gi u v (h5 u v))))))
theorem U!:((jL 4).all λu=>(jL 3).all λv=>Ke u v)=true:=bx
structure uu (u v:List Bool):Prop where
 one:1≤h5 u v
 le:h5 u v≤8
 lt: ∀j,j<h5 u v→j<(gi u v j).length
 len:(gi u v (h5 u v)).length=h5 u v
 short: ∀x∈gi u v (h5 u v),x.length≤4
 nodup:(gi u v (h5 u v)).Nodup
theorem T? (b0:u.length≤4) (aN:v.length≤3):uu u v:=by
 have h:=iB.mp (iB.mp U! u (ks b0)) v (ks aN)
 unfold Ke at h
 simp only[j3,decide_eq_true_eq,iB,zp] at h
 obtain ⟨J,aa,ay,a,c,d⟩:=h
 exact ⟨J,aa,λj b=>(ay j b).1,a,c,(ad4 _).mp d⟩
theorem Ua (u v:List Bool) (j:Nat): ∀k,∃r,gi u v (j+k)=gi u v j++r:=by
 intro k
 induction k with
 |zero=>exact ⟨[],(e0 _).symm⟩
 |succ k a=>
  obtain ⟨r,h⟩:=a
  refine ⟨r++(((gi u v (j+k))[j+k]?).map (By u v)).getD [],?_⟩
  show gi u v (j+k)++(((gi u v (j+k))[j+k]?).map (By u v)).getD []=_
  generalize (((gi u v (j+k))[j+k]?).map (By u v)).getD []=K
  rw[h,iT]
theorem uu.sub (B:uu u v) {j:Nat} (a:j≤h5 u v): ∃r,gi u v (h5 u v)=gi u v j++r:=by
 obtain ⟨r,h⟩:=Ua u v j (h5 u v-j)
 rw[zq a] at h
 exact ⟨r,h⟩
theorem uu.ab9 (B:uu u v) {j:Nat} (a:j≤h5 u v):(gi u v j).length≤8:=by
 obtain ⟨r,h⟩:=B.sub a
 have J:=B.len
 have aa:=B.le
 rw[h,er] at J
 exact bE (cc (dH J) aa)
theorem IC (av:k<15) {x y:List Bool}:wS k x=wS k y↔x=y:=by
 constructor
 ·intro h
  have h:cR k x=cR k y:=aQ (λs:Str=>s.cps.toList) h
  unfold cR at h
  have inj: ∀a b,fa k a=fa k b→a=b:=λa b e=>by
   have:=Pn av
   induction a using d1<;>induction b using d1<;>first|rfl|exact bF e (by first|exact this|exact this.symm)
  exact (List.map_inj_right inj).mp h
 ·rintro rfl;rfl
theorem yS (av:k<15) (x:List Bool): ∀c∈cR k x,c∈ix:=λc ag=>by
 obtain ⟨b,_,rfl⟩:=hc.mp ag
 exact ai2 av b
theorem yM (av:k<15) (x:List Bool):fE (wS k x)=true:=Ia (l:=cR k x) (yS av x)
theorem Ak (av:k<15):Enc (λx:List Bool=>U.str (wS k x)) (λx=>PyData.str (wS k x)) (λZ=>True) 0 where
 toD _ _:=rfl
 lay x _:=encStr.lay _ (yM av x)
 dep x _:=encStr.dep _ (yM av x)
 eqv x y _ _:=by
  rw[encStr.eqv _ _ (yM av x) (yM av y)]
  exact decide_eq_decide.mpr (IC av)
theorem Yd: ∀{l:List (List Bool)} {j:Nat} {x:List Bool},l.Nodup→l[j]?=I x→(l.findIdx? λy=>decide (y=x))=I j:=by
 intro l
 induction l with
 |nil=>intro j x _ h;simp at h
 |cons a l b=>
  intro j x a5 h
  rw[y'] at a5
  induction j using fJ with
  |zero=>
   have:a=x:=by simpa using h
   rw[Dl,e1 this]
   rfl
  |succ j=>
   have h:l[j]?=I x:=by simpa using h
   have el: ¬a=x:=λz=>a5.1 (z▸ia h)
   rw[Dl,f5 el,b a5.2 h]
   rfl
theorem aan (av:k<15) {l:List (List Bool)} (a:l.length≤100) {j:Nat} {x:List Bool} (a5:l.Nodup) (h:l[j]?=I x):methP (ao "index") (.list (l.map λy=> .str (wS k y))) [.str (wS k x)]=I (.int (j:Int)):=by
 rw[qv.2.2.2.2.2]
 rw[(Ak av).index ar trivial (λZ Z=>trivial) (by exact cW a rfl) (x:=x),Yd a5 h]
 rfl
theorem in_words (av:k<15) (l:List (List Bool)) (x:List Bool):kK (.str (wS k x)) (.list (l.map λy=> .str (wS k y)))=I (decide (x∈l)):=((Ak av).isIn ar trivial λZ Z=>trivial).trans (aQ I (decide_eq_decide.mpr Iff.rfl))
theorem WA (av:k<15) (l:List (List Bool)):kK (.str (cI 101)) (.list (l.map λy=> .str (wS k y)))=I false:=by
 have e:(l.map λy=>U.str (wS k y))=(l.map (wS k)).map .str:=by rw[iD];rfl
 rw[e,encStr.isIn ar bx (λx af=>by obtain ⟨y,_,rfl⟩:=hc.mp af;exact yM av y)]
 refine aQ I (f5 λh=> ?_)
 obtain ⟨y,_,a9⟩:=hc.mp h
 have a9:cR k y=[101]:=aQ (λs:Str=>s.cps.toList) a9
 have:=yS av y 101 (by rw[a9];exact ep.mpr rfl)
 revert this
 decide
theorem Fp (b:d2 cx.sc tgt p σ=I σ1) (e:cw n cx body σ1 w=I (.next,a,w1)):forL (n+1) cx tgt body (p::items) σ w=forL n cx tgt body items a w1:=eO b (eO e rfl)
theorem Yy (b:d2 cx.sc tgt p σ=I σ1) (e:cw n cx body σ1 w=I (.ret q,a,w1)):forL (n+1) cx tgt body (p::items) σ w=I (.ret q,a,w1):=eO b (eO e rfl)
theorem get_map {α:Type} {f:α→U} {l:List α} {j:Nat} {x:α} (h:l[j]?=I x) (a:j<1152921504606846976):dM (.list (l.map f)) (.int (j:Int))=I (f x):=rg (by rw[mj,h];rfl) a
theorem Qa {w:W} {i:Nat} {l l':cQ} {s:Str} (aI:i<w.length) (h:l.token=(s,l')):m4 i (w.set i l)=I (.str s,w.set i l'):=by
 unfold m4
 rw[Ji aI]
 show I (U.str l.token.1,(w.set i l).set i l.token.2)=_
 rw[h,Jj]
namespace c9
variable (C:c9)
def B (j:Nat):List (List Bool):=gi C.u C.v j
def N:Nat:=h5 C.u C.v
theorem pL:uu C.u C.v:=T? C.b0 C.aN
theorem D4 (h:(C.B j)[j]?=I x):C.B (j+1)=C.B j++C.kids x:=by
 show gi C.u C.v j++_=_
 have h:(gi C.u C.v j)[j]?=I x:=h
 rw[h]
 rfl
def CD (i j:Nat) (x:List Bool) (t:U):aA:=e2 (C.V i) (((C.B j).take j).map C.row) ((C.B j).map C.nC) ((C.B j).map λy=> .str (wS C.k y)) (.str (wS C.k x)) t
def ve (rem:List Nat) (line:Int) (j:Nat):cQ:=⟨rem,line,((C.B j).drop (j+1)).map (wS C.k)⟩
theorem afc (af:(C.B j)[j]?=I x):C.o1 w i (C.ve rem line j) (C.kids x)=w.set i ⟨rem,line,((C.B (j+1)).drop (j+1)).map (wS C.k)⟩:=by
 unfold o1 ve
 have a:j+1≤(C.B j).length:=(hh.mp af).1
 rw[C.D4 af,List.drop_append_of_le_length a,kR]
theorem ah9 (af:(C.B j)[j]?=I x):((C.B j).take j).map C.row++[C.row x]=((C.B (j+1)).take (j+1)).map C.row:=by
 have a:j+1≤(C.B j).length:=(hh.mp af).1
 rw[C.D4 af,List.take_append_of_le_length a,RB a,kR]
 have:(C.B j)[j]=x:=by
  have:=(hh.mp af).2
  exact this
 rw[this]
 rfl
theorem ai5 {rs gs ws:List U} {wd t p:U} {i:Nat} (T7:zJ) {sc:Scope}: ∃o,d2 (aE 21).scope (gf (a6 (aE 21).body 2)) p (e2 (C.V i) rs gs ws wd t++CO T7)=I (e2 (C.V i) rs gs ws wd p++yG o):=
 ⟨I ⟨T7.1,T7.2.1,T7.2.2.1,T7.2.2.2.1,T7.2.2.2.2.1,T7.2.2.2.2.2.1,T7.2.2.2.2.2.2⟩,by kernel_rfl⟩
def tn (rem:List Nat) (line:Int) (j:Nat):cQ:=⟨rem,line,((C.B j).drop j).map (wS C.k)⟩
theorem Qj (rem:List Nat) (line:Int) (i d:Nat) {j:Nat} {w:W} {x:List Bool} (g:j+1≤C.N) (af:(C.B j)[j]?=I x) (hw:w[i]?=I (C.ve rem line j)) (p:U) (o:Option oj): ∃T7:zJ,∀n,cw (n+400) (gC (d+4)) fm (C.CD i j x p++yG o) w=cw (n+393) (gC (d+4)) [a6 fm 7,a6 fm 8] (C.CD i (j+1) x p++CO T7) (w.set i (C.tn rem line (j+1))):=by
 have a:=C.pL
 have c:j≤C.N:=hA g
 obtain ⟨r,b8⟩:=a.sub c
 have b:(C.B j).length≤8:=a.ab9 c
 have f:(C.B j).Nodup:=by
  have:=a.nodup
  rw[b8] at this
  exact (List.nodup_append.mp this).1
 obtain ⟨T7,e⟩:=C.aiC (a.short x (by rw[b8];exact List.mem_append_left _ (ia af))) (i:=i) (j:=j) (rs:=((C.B j).take j).map C.row) (gs:=(C.B j).map C.nC) (ws:=(C.B j).map λy=> .str (wS C.k y)) (by rw[df,R!];exact cG (DI _ _) (cW b rfl)) (by rw[df];exact cW b rfl) (by rw[df];exact cW b rfl) p o (aan C.av (by exact cW b rfl) f af) (get_map af (gP c (ke (show C.N≤8 from a.le) rfl))) hw (by show (((C.B j).drop (j+1)).map (wS C.k)).length≤100;rw[df,pf];exact cW (PL b) rfl) d
 rw[C.ah9 af,←kR,←kR,←C.D4 af,C.afc af] at e
 exact ⟨T7,e⟩
theorem aiE {rem s:List Nat} {line r:Int} (H:(⟨rem,line,[]⟩:cQ).token=(cI 101,⟨s,r,[]⟩)) (i d:Nat): ∀(m j:Nat) (items:List U) (σ:aA) (w:W) (x:List Bool),j+m+1=C.N→m+1≤items.length→(C.B j)[j]?=I x→(∀p,∃o,d2 (aE 21).scope (gf (a6 (aE 21).body 2)) p σ=I (C.CD i j x p++yG o))→w[i]?=I (C.ve rem line j)→
  ∃σ',∀n,forL (n+401+items.length) (gC (d+4)) (gf (a6 (aE 21).body 2)) fm items σ w=I (.ret (.tup [.list ((C.B C.N).map C.row),.str (cI 101)]),σ',w.set i ⟨s,r,[]⟩):=by
 have h:=C.pL
 have b:(C.B C.N).length=C.N:=h.len
 intro m
 induction m with
 |zero=>
  intro j items σ w x c a af q hw
  obtain ⟨p,items,rfl⟩:=ale a
  obtain ⟨o,ae⟩:=q p
  have f:i<w.length:=(hh.mp hw).1
  obtain ⟨T7,e⟩:=C.Qj rem line i d (dH c) af hw p o
  rw[show j+1=C.N from c] at e
  have g:C.tn rem line C.N=⟨rem,line,[]⟩:=by
   unfold tn
   rw[wq (dH b)]
   rfl
  have l:=Qa f (show (C.tn rem line C.N).token=_ from g▸H)
  obtain ⟨σ',A⟩:=adW (V:=C.V i) (rs:=((C.B C.N).take C.N).map C.row) (gs:=(C.B C.N).map C.nC) (ws:=(C.B C.N).map λy=>U.str (wS C.k y)) (wd:= .str (cI 101)) (t:=p) (d:=d+4) (w:=w.set i ⟨s,r,[]⟩) (T7:=T7) (WA C.av _) (by rw[df,R!];exact cG (DD _ _) (cW (show C.N≤8 from h.le) rfl))
  refine ⟨σ',λn=> ?_⟩
  rw[show n+401+(p::items).length=(n+1+items.length+400)+1 by rw[gR];simp+arith only]
  refine Yy ae ((e _).trans ((cN (D:=392) (λn=>Og (V:=C.V i) l n) ar _).trans ((lL (D:=391) A ar _).trans ?_)))
  rw[rV (dH b)]
 |succ m z=>
  intro j items σ w x c a af q hw
  obtain ⟨p,items,rfl⟩:=ale (jf (r0 _) a)
  obtain ⟨o,ae⟩:=q p
  have f:i<w.length:=(hh.mp hw).1
  have v:j+1<C.N:=by exact bE (dH c)
  obtain ⟨T7,e⟩:=C.Qj rem line i d (iS v) af hw p o
  have u:j+1<(C.B (j+1)).length:=h.lt (j+1) v
  obtain ⟨y,a9⟩: ∃y,(C.B (j+1))[j+1]?=I y:=⟨_,ly u⟩
  have g:C.tn rem line (j+1)=⟨rem,line,wS C.k y::((C.B (j+1)).drop (j+2)).map (wS C.k)⟩:=by
   unfold tn
   rw[Ru u,(hh.mp a9).2]
   rfl
  have l:m4 i (w.set i (C.tn rem line (j+1)))=I (.str (wS C.k y),w.set i (C.ve rem line (j+1))):=Qa f (by rw[g];rfl)
  obtain ⟨σ',E⟩:=z (j+1) items (C.CD i (j+1) y p++CO T7) (w.set i (C.ve rem line (j+1))) y ((aQ (·+1) (ug j 1 m)).trans c) (um a) a9 (λJ=>C.ai5 T7 (sc:=default)) (Ji f)
  refine ⟨σ',λn=> ?_⟩
  rw[show n+401+(p::items).length=(n+1+items.length+400)+1 by rw[gR];simp+arith only]
  refine (Fp ae ((e _).trans ((cN (D:=392) (λn=>Og (V:=C.V i) l n) ar _).trans ((cN (D:=391) (λn=>adV (V:=C.V i) ((in_words C.av _ _).trans (aQ I (e1 (ia a9)))) n) ar _).trans rfl)))).trans ?_
  rw[show n+1+items.length+400=n+401+items.length from ug _ _ _]
  exact (E n).trans (by rw[Jj])
end c9
noncomputable def P1:List U:=[.int (0:Nat),.int (1:Nat),.int (2:Nat),.int (3:Nat),.int (4:Nat),.int (5:Nat),.int (6:Nat),.int (7:Nat),.int (8:Nat),.int (9:Nat)]
def HD (V:wH):aA:=[(S "lexer",.val (.obj V.c3)),(S "signs",.val V.gr),(S "ends",.val V.dS),(S "white",.val V.a!),(S "zero",.val V.pe),(S "sense",.val V.h7),(S "sought",.val V.iy)]
def vQ (V:wH):aA:=HD V++[(S "rows",.own []),(S "gaps",.own [V.dS]),(S "words",.own [.str (ao "")])]
theorem adi (n:Nat):ex (n+60) (gC d) (a6 (aE 21).body 0) (HD V) w=I (.next,vQ V,w):=by
 exact cg []
theorem adj (n:Nat):ex (n+60) (gC d) (a6 (aE 21).body 1) (vQ V) w=I (.next,vQ V++[(S "word",.val (.str (ao "")))],w):=by
 exact cg []
theorem adk (a: ∀n,forL (n+411) (gC d) (gf (a6 (aE 21).body 2)) fm P1 (vQ V++[(S "word",.val (.str (ao "")))]) w=I (.ret q,σ',w')) (n:Nat):
  ex (n+450) (gC d) (a6 (aE 21).body 2) (vQ V++[(S "word",.val (.str (ao "")))]) w=I (.ret q,σ',w'):=by
 exact cg [.go,mE (@a (n+38))]
theorem adt (C:c9) {rem c:List Nat} {line b:Int} (e:(⟨rem,line,[]⟩:cQ).token=(cI 101,⟨c,b,[]⟩)) {i:Nat} {w:W} (hw:w[i]?=I ⟨rem,line,[]⟩) {d n:Nat} {sc:Scope}:
  b' (n+500) ⟨bq,d+5,sc⟩ (aE 21) [.obj i,(C.V i).gr,(C.V i).dS,(C.V i).a!,(C.V i).pe,(C.V i).h7,(C.V i).iy] w=I (.tup [.list ((C.B C.N).map C.row),.str (cI 101)],w.set i ⟨c,b,[]⟩):=by
 have aC:kI (aE 21)=[S "lexer",S "signs",S "ends",S "white",S "zero",S "sense",S "sought"]:=aY
 have ae:(aE 21).body=[a6 (aE 21).body 0,a6 (aE 21).body 1,a6 (aE 21).body 2,a6 (aE 21).body 3]:=aY
 rw[uH (by rw[aC];rfl),aC,ae]
 have bH:([S "lexer",S "signs",S "ends",S "white",S "zero",S "sense",S "sought"]:List Str).zip ([U.obj i,(C.V i).gr,(C.V i).dS,(C.V i).a!,(C.V i).pe,(C.V i).h7,(C.V i).iy].map Slot.val)=HD (C.V i):=rfl
 rw[bH]
 have J:=C.pL.one
 obtain ⟨σ',hf⟩:=C.aiE e i d (C.N-1) 0 P1 (vQ (C.V i)++[(S "word",.val (.str (ao "")))]) w [] (by have:1≤C.N:=J;exact qN (bE (o4 (show 1≤C.N from bE this))) (bE (k_ (C.N) (1)))) (by have:C.N≤8:=C.pL.le;show _≤10;exact bE (cc this (rW (C.N) (1)))) rfl (λp=>⟨ah,by kernel_rfl⟩) hw
 have a:=λn=>adi (V:=C.V i) (d:=d+4) (w:=w) n
 have J:=λn=>adj (V:=C.V i) (d:=d+4) (w:=w) n
 have aa:=λn=>adk (V:=C.V i) (d:=d+4) (w:=w) (λn=>hf n) n
 unfold gC at a J aa
 rw[cN (D:=498) a ar,cN (D:=497) J ar,lL (D:=496) aa ar]
 rfl
def cb:bY:=⟨bq,7,(aE 22).scope⟩
abbrev b3 (i:Nat):cK:=a6 (aE 22).body i
theorem Kn (l:List U):fO (ao "sum") [.list l]=(o! l).map .int:=aY
theorem zY (h:o! l=I s):fO (ao "sum") [.list l]=I (.int s):=(Kn l).trans (by rw[h];rfl)
theorem abb (X:U) (L:Nat→List U) (s:Nat→Int) (J: ∀n,n<4→iO X (aT n) .none (.int 4)=I (.list (L n))) (aa: ∀n,n<4→o! (L n)=I (s n)) (x0 a b c:Nat) (j:(s 0+1991).fmod 1000000=x0) (d:(s 1+53).fmod 1000000=a) (e:(s 2+30).fmod 1000000=b) (h:(s 3+42).fmod 1000000=c) (n:Nat):ex (n+100) cb (b3 0) [(S "script",.val X)] w=
  I (.next,[(S "script",.val X),(S "drawn",.own [aT x0,aT a,aT b,aT c])],w):=by
 have l:iO X (.int 0) .none (.int 4)=I (.list (L 0)):=J 0 ar
 have hE:=zY (aa 0 ar)
 have a1:iO X (.int 1) .none (.int 4)=I (.list (L 1)):=J 1 ar
 have cn:=zY (aa 1 ar)
 have a2:iO X (.int 2) .none (.int 4)=I (.list (L 2)):=J 2 ar
 have c5:=zY (aa 2 ar)
 have gV:iO X (.int 3) .none (.int 4)=I (.list (L 3)):=J 3 ar
 have i:=zY (aa 3 ar)
 have m:b? .Mod (.int (s 0+1991)) (.int 1000000)=I (aT x0):=mod_eq ar j
 have g:b? .Mod (.int (s 1+53)) (.int 1000000)=I (aT a):=mod_eq ar d
 have f:b? .Mod (.int (s 2+30)) (.int 1000000)=I (aT b):=mod_eq ar e
 have k:b? .Mod (.int (s 3+42)) (.int 1000000)=I (aT c):=mod_eq ar h
 exact cg [.go,.go,aM l,aM hE,.go,aM m,aM a1,aM cn,.go,aM g,aM a2,aM c5,.go,aM f,aM gV,aM i,.go,aM k]
def zO (X:U) (x0 a b c:Nat):aA:=[(S "script",.val X),(S "drawn",.own [aT x0,aT a,aT b,aT c])]
theorem abc (X:U) (x0 a b c:Nat) (n:Nat):ex (n+100) cb (b3 1) (zO X x0 a b c) w=I (.next,zO X x0 a b c++[(S "first",.val (.int (((x0%6:Nat):Int)+((x0/6%2:Nat):Int)))),(S "other",.val (.int (((x0%6:Nat):Int)+1-((x0/6%2:Nat):Int))))],w):=by
 have b4:=k? x0 6 ar
 have f1:=oC x0 6 ar ar
 have d:=k? (x0/6) 2 ar
 exact cg [.go,aM b4,.go,aM f1,aM d,.go,.go,aM b4,.go,.go,aM f1,aM d,.go]
theorem O? (x:Nat):x%12%6=x%6:=Nat.mod_mod_of_dvd x ⟨2,rfl⟩
theorem O! (x:Nat):x%12/6=x/6%2:=Nat.mod_mul_right_div_self x 6 2
theorem Yg (a:Nat):((a%6:Nat):Int)+((a/6%2:Nat):Int)=(firstOf (a%12):Int):=by unfold firstOf;rw[O?,O!];rfl
theorem aeA (a:Nat):((a%6:Nat):Int)+1-((a/6%2:Nat):Int)=(otherOf (a%12):Int):=by unfold otherOf;rw[O?,O!];exact (oc (cG (nf (iC _ ar)) (nd 1 _))).symm
def Eh (X:U) (x0 a b c:Nat):aA:=zO X x0 a b c++[(S "first",.val (aT (firstOf (x0%12)))),(S "other",.val (aT (otherOf (x0%12))))]
theorem abd (X:U) (x0 a b c:Nat) (n:Nat):ex (n+100) cb (b3 1) (zO X x0 a b c) w=I (.next,Eh X x0 a b c,w):=by
 rw[abc,Yg,aeA]
 rfl
def Ei (X:U) (x0 a b c:Nat):aA:=Eh X x0 a b c++[(S "white",.val (aT (x0/12%4))),(S "rounds",.val (aT (x0/48%3))),(S "sense",.val (.int (mX (x0%12))))]
theorem abe (X:U) (x0 a b c:Nat) (n:Nat):ex (n+100) cb (b3 2) (Eh X x0 a b c) w=I (.next,Ei X x0 a b c,w):=by
 have f1:=oC x0 12 ar ar
 have b4:=k? (x0/12) 4 ar
 have f2:=oC x0 48 ar ar
 have d:=k? (x0/48) 3 ar
 exact cg [.go,aM f1,aM b4,.go,aM f2,aM d,.go]
def z_:List U:=[i' (dz 0),i' (dz 1),i' (dz 2),i' (dz 3),i' (dz 4),i' (dz 5)]
def Ej (X:U) (x0 a b c:Nat):aA:=Ei X x0 a b c++[(S "corners",.own z_)]
theorem abf (X:U) (x0 a b c:Nat) (n:Nat):ex (n+100) cb (b3 3) (Ei X x0 a b c) w=I (.next,Ej X x0 a b c,w):=by
 exact cg []
theorem KZ (aI:i<6):dM (.list z_) (.int (i:Nat))=I (i' (dz i)):=by
 rcases Ha aI with rfl|rfl|rfl|rfl|rfl|rfl<;>kernel_rfl
def Ek (X:U) (x0 a b c:Nat):aA:=Ej X x0 a b c++[(S "ends",.own [i' (dz (firstOf (x0%12)%6)),i' (dz (otherOf (x0%12)%6))])]
theorem abg (X:U) (x0 d e h:Nat) (n:Nat):ex (n+100) cb (b3 4) (Ej X x0 d e h) w=I (.next,Ek X x0 d e h,w):=by
 generalize firstOf (x0%12)=f
 generalize otherOf (x0%12)=g
 have b4:=k? f 6 ar
 have i:=k? g 6 ar
 have i1:=KZ (iC f (ar:6>0))
 have c:=KZ (iC g (ar:6>0))
 generalize f%6=a at b4 i1⊢
 generalize g%6=b at i c⊢
 generalize i' (dz a)=A at i1⊢
 generalize i' (dz b)=B at c⊢
 generalize z_=cT at i1 c⊢
 exact cg [aM b4,aM i1,aM i,aM c]
noncomputable def listE:Expr→List Expr
 | .List es _=>es
 |_=>[]
def nQ:Expr:=pC (Fb (listE (valueOf (b3 6))) 0)
def nR:Expr:=pC (Fb (listE (valueOf (b3 6))) 1)
def tQ (k:Nat):U:= .tup [.str (cI (sgn k).1),.str (cI (sgn k).2)]
theorem Nm (l:List Nat) (a:l.length≤4):methP (ao "join") (.str (ao "")) [.list (l.map λc=> .str (cI c))]=I (.str (bI l)):=by
 have h:=Bu [] l a
 have e:di [] l=l:=by
  unfold di
  induction l with
  |nil=>rfl
  |cons c l b=>rw[Jw,b (hA a) (Bu [] l (hA a))];rfl
 rw[e] at h
 exact h
noncomputable def ot (y m:Nat):Bool:=decide (y/2^m%2=0)
theorem Qk (hm:m<4):b? .FloorDiv (aT y) (.int ((2:Int)^m))=I (aT (y/2^m))∧b? .Mod (aT (y/2^m)) (.int 2)=I (aT (y/2^m%2))∧dM (tQ k) (aT (y/2^m%2))=I (.str (cI (fa k (ot y m)))):=by
 refine ⟨?_,k? _ 2 ar,?_⟩
 ·have e:((2:Int)^m)=((2^m:Nat):Int):=by push_cast;rfl
  have J:0<2^m:=Nat.pow_pos ar
  have aa:2^m≤2^3:=Jq ar (by exact nf hm)
  rw[e]
  exact oC y (2^m) J (by exact ke aa rfl)
 ·unfold ot
  have aa:y/2^m%2<2:=iC _ ar
  generalize y/2^m%2=b at aa
  induction b,aa using CW
  ·show dM (.tup [_,_]) (.int 0)=_;kernel_rfl
  ·show dM (.tup [_,_]) (.int 1)=_;kernel_rfl
def pA (X:U) (x0 a b c k:Nat):aA:=Ek X x0 a b c++[(S "signs",.val (tQ k))]
theorem abF (X:U) (x0 a b c:Nat) (n:Nat):ex (n+100) cb (b3 5) (Ek X x0 a b c) w=I (.next,pA X x0 a b c (x0/144%15),w):=by
 have f1:=oC x0 144 ar ar
 have b4:=k? (x0/144) 15 ar
 have av:x0/144%15<15:=iC _ ar
 generalize x0/144%15=k at b4 av⊢
 generalize x0/144=y at f1 b4
 generalize i' (dz (firstOf (x0%12)%6))=A
 generalize i' (dz (otherOf (x0%12)%6))=B
 revert b4;revert av;revert k
 iterate 15 (refine tq (λb4=>cg [.go,.go,.go,aM f1,aM b4,.go]) ?_)
 exact Hb
theorem OK {m:Nat} (hm:m<4):b? .Pow (.int 2) (aT m)=I (.int ((2:Int)^m)):=by induction m,hm using Fs<;>kernel_rfl
theorem WE (X:U) (x0 a e f k:Nat) {m:Nat} (hm:m<4) (n:Nat):ev (n+31) ⟨bq,7,fj nQ⟩ (ff nQ) (((pA X x0 a e f k).hide (Scope.dq (fj nQ))).set (S "n") (.val (aT m))) w=I (.str (cI (fa k (ot (a/5) m))),w):=by
 obtain ⟨a1,a2,gV⟩:=Qk (y:=a/5) (k:=k) hm
 have f1:=oC a 5 ar ar
 have aC:=OK hm
 generalize cI (fa k (ot (a/5) m))=R at gV⊢
 generalize a/5/2^m%2=b at a2 gV
 generalize a/5/2^m=jC at a1 a2
 generalize (2:Int)^m=c at a1 aC
 generalize a/5=y at f1 a1
 generalize tQ k=d at gV⊢
 exact tM [.go,aM f1,aM aC,aM a1,aM a2,aM gV]
theorem WG (X:U) (x0 e a f k:Nat) {m:Nat} (hm:m<4) (n:Nat):ev (n+31) ⟨bq,7,fj nR⟩ (ff nR) (((pA X x0 e a f k).hide (Scope.dq (fj nR))).set (S "n") (.val (aT m))) w=I (.str (cI (fa k (ot (a/4) m))),w):=by
 obtain ⟨a1,a2,gV⟩:=Qk (y:=a/4) (k:=k) hm
 have f1:=oC a 4 ar ar
 have aC:=OK hm
 generalize cI (fa k (ot (a/4) m))=R at gV⊢
 generalize a/4/2^m%2=b at a2 gV
 generalize a/4/2^m=jC at a1 a2
 generalize (2:Int)^m=c at a1 aC
 generalize a/4=y at f1 a1
 generalize tQ k=d at gV⊢
 exact tM [.go,aM f1,aM aC,aM a1,aM a2,aM gV]
def m5 (a:Nat):List Bool:=(eB (a%5)).map (ot (a/5))
def m6 (a:Nat):List Bool:=(eB (a%4)).map (ot (a/4))
noncomputable def GK (f:Nat→U):U→U
 | .int i=>f i.toNat
 |p=>p
theorem VT (X:U) (x0 a b d k:Nat) (n:Nat):d! (n+37) ⟨bq,7,fj nQ⟩ (ff nQ) (jj nQ) [] ((eB (a%5)).map aT) ((pA X x0 a b d k).hide (Scope.dq (fj nQ))) w=I ((cR k (m5 a)).map λc=> .str (cI c),w):=by
 have e:a%5<5:=iC _ ar
 have:=sy (cx:=⟨bq,7,fj nQ⟩) (σ:=(pA X x0 a b d k).hide (Scope.dq (fj nQ))) (w:=w) (x:=S "n") (tgt:=jj nQ) (elt:=ff nQ) (items:=(eB (a%5)).map aT) (f:=GK λm=> .str (cI (fa k (ot (a/5) m)))) (c:=30) (N:=37) (λv σ=>aY) (by rw[df,jE];exact bE (e8 e))
  (λp aC n=>by obtain ⟨m,hm,rfl⟩:=hc.mp aC;exact WE X x0 a b d k (by have:=zp.mp hm;exact bE (cc (e8 e) (e8 this))) n) n
 rw[this,iD]
 unfold m5 cR
 rw[iD,iD]
 rfl
theorem VU (X:U) (x0 b a d k:Nat) (n:Nat):d! (n+37) ⟨bq,7,fj nR⟩ (ff nR) (jj nR) [] ((eB (a%4)).map aT) ((pA X x0 b a d k).hide (Scope.dq (fj nR))) w=I ((cR k (m6 a)).map λc=> .str (cI c),w):=by
 have e:a%4<4:=iC _ ar
 have:=sy (cx:=⟨bq,7,fj nR⟩) (σ:=(pA X x0 b a d k).hide (Scope.dq (fj nR))) (w:=w) (x:=S "n") (tgt:=jj nR) (elt:=ff nR) (items:=(eB (a%4)).map aT) (f:=GK λm=> .str (cI (fa k (ot (a/4) m)))) (c:=30) (N:=37) (λv σ=>aY) (by rw[df,jE];exact bE (e8 e))
  (λp aC n=>by obtain ⟨m,hm,rfl⟩:=hc.mp aC;exact WG X x0 b a d k (by have:=zp.mp hm;exact oh this e) n) n
 rw[this,iD]
 unfold m6 cR
 rw[iD,iD]
 rfl
theorem Qp (a:Nat):(m5 a).length≤4:=by
 unfold m5
 rw[df,jE]
 have:a%5<5:=iC _ ar
 exact nf this
theorem Qy (a:Nat):(m6 a).length≤3:=by
 unfold m6
 rw[df,jE]
 have:a%4<4:=iC _ ar
 exact nf this
theorem yQ (k:Nat) (u:List Bool):(cR k u).length=u.length:=df _
theorem QM (a:l.length≤4) (r q:Nat):(iQ l r q).length≤20:=by
 have J:=An g5 l
 have aa:=An e5 l
 unfold iQ
 split
 ·rw[gR,gR,er]
  show _+1+1+1≤20
  exact bE (cc (lm 2 a) J)
 ·rw[er]
  show _+1≤20
  split
  ·rw[gR];exact bE (cc (lm 2 a) aa)
  ·exact bE (cc (lm 2 a) aa)
noncomputable def xW (c:Nat):Bool:=[0,9,10,13,32,34,35,92,101].contains c
theorem QJ (q:Nat):xW (dU q)=true:=by
 match q with
 |0=>rfl
 |1=>rfl
 |2=>rfl
 |3=>rfl
 |_+4=>rfl
theorem E' (h:List Nat) {l:List Nat} (b: ∀c∈l,c∈ix): ∀c∈di h l,xW c=true:=by
 intro c ag
 obtain ⟨a,aJ,ag⟩:=List.mem_flatMap.mp ag
 have J:=vT (b a aJ)
 unfold jP at ag
 split at ag
 ·rcases eo.mp ag with rfl|ag
  ·rfl
  ·rw[ep.mp ag];rcases J with rfl|rfl|rfl|rfl|rfl|rfl<;>rfl
 ·rw[ep.mp ag];rcases J with rfl|rfl|rfl|rfl|rfl|rfl<;>rfl
theorem QL (a: ∀c∈l,c∈ix) (r q:Nat): ∀c∈iQ l r q,xW c=true:=by
 intro c ag
 unfold iQ at ag
 split at ag
 ·rcases eo.mp ag with rfl|ag
  ·exact QJ q
  ·rcases eo.mp ag with rfl|ag
   ·rfl
   ·rcases ob.mp ag with ag|ag
    ·exact E' _ a c ag
    ·rw[ep.mp ag];rfl
 ·rcases ob.mp ag with ag|ag
  ·split at ag
   ·rcases eo.mp ag with rfl|ag
    ·rfl
    ·exact E' _ a c ag
   ·exact E' _ a c ag
  ·rw[ep.mp ag];exact QJ q
theorem U6 (h: ∀c∈l,xW c=ab):fE (bI l)=true:=by
 unfold fE
 rw[Se]
 intro c ag
 have ag:c∈l:=by simpa [bI] using ag
 have:=h c ag
 unfold xW at this
 simp at this
 rcases this with rfl|rfl|rfl|rfl|rfl|rfl|rfl|rfl|rfl<;>decide
def El (X:U) (x0 c d e k:Nat) (a b:Str):aA:=pA X x0 c d e k++[(S "two",.own [.str a,.str b])]
theorem abG (X:U) (x0 b c e k:Nat) (n:Nat):ex (n+100) cb (b3 6) (pA X x0 b c e k) w=I (.next,El X x0 b c e k (wS k (m5 b)) (wS k (m6 c)),w):=by
 have b4:=k? b 5 ar
 have r:=k? c 4 ar
 have h:b%5<5:=iC _ ar
 have g:c%4<4:=iC _ ar
 have b8: ∀a:Nat,a<5→l_ [.int (a:Int)]=I ((eB a).map aT):=λa aJ=>by
  show (if small (a:Int) then I (intsFrom 0 (a:Int).toNat) else ah)=_
  rw[jY (by exact oT aJ rfl),a_ rfl]
  unfold intsFrom
  simp[aT]
 have q:=b8 _ h
 have o:=b8 _ (m? g)
 have cn:=VT (w:=w) X x0 b c e k
 have c5:=VU (w:=w) X x0 b c e k
 have f:=Nm (cR k (m5 b)) (by rw[yQ];exact Qp b)
 have d:=Nm (cR k (m6 c)) (by rw[yQ];exact hP (Qy c))
 have l:bI (cR k (m5 b))=wS k (m5 b):=rfl
 have m:bI (cR k (m6 c))=wS k (m6 c):=rfl
 rw[l] at f
 rw[m] at d
 generalize wS k (m5 b)=A at f⊢
 generalize wS k (m6 c)=B at d⊢
 generalize cR k (m5 b)=s at cn f
 generalize cR k (m6 c)=V at c5 d
 generalize i:(eB (b%5)).map aT=fy at q cn
 generalize j:(eB (c%4)).map aT=ig at o c5
 have c1:fy.length≤1048576:=by rw[←i,df,jE];exact cW (iS h) rfl
 have fh:ig.length≤1048576:=by rw[←j,df,jE];exact cW (iS g) rfl
 clear i j h g b8 l m
 exact cg [.go,aM b4,oA q,.p _ c1,q3 (@cn (n+54)),aM f,.go,aM r,oA o,.p _ fh,q3 (@c5 (n+53)),aM d]
def Em (X:U) (x0 c d e k:Nat) (a b t:Str):aA:=El X x0 c d e k a b++[(S "text",.val (.str t))]
theorem abH (X:U) (x0 g h d k:Nat) (a b:Str) (T0 c:List Nat) (f:Nat) (af:b? .FloorDiv (aT d) (.int 8)=I (aT f)) (i:T0.length≤20) (J:c.length≤20) (hE: ∀n,b' (n+100) ⟨bq,7,(aE 22).scope⟩ (aE 14) [.str a,aT d] w=I (.str (bI T0),w)) (cn: ∀n,b' (n+100) ⟨bq,7,(aE 22).scope⟩ (aE 14) [.str b,aT f] w=I (.str (bI c),w)) (n:Nat):
  ex (n+200) cb (b3 7) (El X x0 g h d k a b) w=I (.next,Em X x0 g h d k a b (bI (T0++c++[101,10])),w):=by
 have a1:b? .Add (.str (bI T0)) (.str (bI c))=I (.str (bI (T0++c))):=vG (by exact pB i J rfl)
 have a2:b? .Add (.str (bI (T0++c))) (.str (ao "e\n"))=I (.str (bI (T0++c++[101,10]))):=by
  have e:ao "e\n"=bI [101,10]:=bx
  rw[e]
  exact vG (by rw[er];show _+2≤_;exact bE (cc i J))
 exact cg [.go,.go,cZ (@hE (n+95)),.go,.go,aM af,cZ (@cn (n+95)),aM a1,aM a2]
def wL (X:U) (x0 c d e k:Nat) (a b t:Str):aA:=Em X x0 c d e k a b t++[(S "lexer",.val (.obj 0))]
theorem abI (X:U) (x0 c d e k:Nat) (a b:Str) (T:List Nat) (bZ:(bI T).length≤1048576∧fE (bI T)=ab) (n:Nat):
  ex (n+100) cb (b3 8) (Em X x0 c d e k a b (bI T)) []=I (.next,wL X x0 c d e k a b (bI T),[⟨T,1,[]⟩]):=by
 exact cg [.p _ bZ]
theorem abJ (X:U) (x0 c d e k:Nat) (a b:Str) (t:Str) (hJ c1 fh:cQ) (J:m4 0 [hJ]=I (.str a,[c1])) (aa:m4 0 [c1]=I (.str b,[fh])) (he:hs (.list [.str a,.str b]) (.list [.str a,.str b])=I ab) (n:Nat):
  ex (n+100) cb (b3 9) (wL X x0 c d e k a b t) [hJ]=I (.next,wL X x0 c d e k a b t,[fh]):=by
 exact cg [cZ J,cZ aa,cE (eq_not he)]
structure zy where
 X:U
 dr:List U
 pY:U
 yg:U
 a!:U
 dv:U
 h7:U
 gr:U
 qE:U
 i:Nat
def h2 (V:zy) (dS eA:Slot):aA:=[(S "script",.val V.X),(S "drawn",.own V.dr),(S "first",.val V.pY),(S "other",.val V.yg),(S "white",.val V.a!),(S "rounds",.val V.dv),(S "sense",.val V.h7),(S "corners",.own z_),(S "ends",dS),(S "signs",.val V.gr),(S "two",eA),(S "text",.val V.qE),(S "lexer",.val (.obj V.i))]
theorem Tu (X:U) (x0 c d e k:Nat) (a b t:Str):wL X x0 c d e k a b t=h2 ⟨X,[aT x0,aT c,aT d,aT e],aT (firstOf (x0%12)),aT (otherOf (x0%12)),aT (x0/12%4),aT (x0/48%3),.int (mX (x0%12)),tQ k,.str t,0⟩ (.own [i' (dz (firstOf (x0%12)%6)),i' (dz (otherOf (x0%12)%6))]) (.own [.str a,.str b]):=rfl
def jx (r g b:U):aA:=[(S "r",.val r),(S "g",.val g),(S "b",.val b)]
section
variable {V:zy} {dS eA:List U} {w:W} {r g b lo aI:U}
theorem abk {J aa:UInt64} {R G B:U} (d:b? .Div V.pY (.aj 4618441417868443648)=I (.aj J)) (a:b? .Add (.aj J) V.dv=I (.aj aa)) (c: ∀n,b' (n+100) ⟨bq,7,(aE 22).scope⟩ (aE 9) [.aj aa,.aj 4607182418800017408,.aj 4589168020290535424] w=I (.tup [R,G,B],w)) (n:Nat):
  ex (n+200) cb (b3 10) (h2 V (.own dS) (.own eA)) w=I (.next,h2 V (.own dS) (.own eA)++jx R G B,w):=by
 exact cg [aM d,aM a,cZ (@c (n+98))]
theorem abl (c: ∀n,b' (n+100) ⟨bq,7,(aE 22).scope⟩ (aE 3) [r,g,b] w=I (lo,w)) (n:Nat):
  ex (n+200) cb (b3 11) (h2 V (.own dS) (.own eA)++jx r g b) w=I (.next,h2 V (.own dS) (.own eA)++(jx r g b++[(S "low",.val lo)]),w):=by
 exact cg [cZ (@c (n+97))]
theorem abm {J aa:UInt64} {R G B:U} (d:b? .Div V.yg (.aj 4618441417868443648)=I (.aj J)) (a:b? .Sub (.aj J) V.dv=I (.aj aa)) (c: ∀n,b' (n+100) ⟨bq,7,(aE 22).scope⟩ (aE 6) [.aj aa,.aj 4584664420663164928,.aj 4607182418800017408] w=I (.tup [R,G,B],w)) (n:Nat):
  ex (n+200) cb (b3 12) (h2 V (.own dS) (.own eA)++(jx r g b++[(S "low",.val lo)])) w=I (.next,h2 V (.own dS) (.own eA)++(jx R G B++[(S "low",.val lo)]),w):=by
 exact cg [aM d,aM a,cZ (@c (n+98))]
theorem abn (c: ∀n,b' (n+100) ⟨bq,7,(aE 22).scope⟩ (aE 3) [r,g,b] w=I (aI,w)) (n:Nat):
  ex (n+200) cb (b3 13) (h2 V (.own dS) (.own eA)++(jx r g b++[(S "low",.val lo)])) w=I (.next,h2 V (.own dS) (.own eA)++(jx r g b++[(S "low",.val lo),(S "high",.val aI)]),w):=by
 exact cg [cZ (@c (n+97))]
def oR (lo aI:U) (y i q:U):aA:=[(S "low",.val lo),(S "high",.val aI),(S "y",.val y),(S "i",.val i),(S "q",.val q)]
theorem abo {c i0 a jC i1 c!:UInt64} (hE: ∀n,b' (n+100) ⟨bq,7,(aE 22).scope⟩ (aE 4) [.aj (ct c 4611686018427387904),.aj i0,.aj a] w=I (.tup [.aj 4607182418800017408,.aj 4607182418800017408,.aj 4607182418800017408],w)) (cn: ∀n,b' (n+100) ⟨bq,7,(aE 22).scope⟩ (aE 4) [.aj (b! c 4611686018427387904),.aj i0,.aj a] w=I (.tup [.aj 0,.aj 0,.aj 0],w))
  (c5: ∀n,b' (n+100) ⟨bq,7,(aE 22).scope⟩ (aE 4) [.aj (ct jC 4611686018427387904),.aj i1,.aj c!] w=I (.tup [.aj 4607182418800017408,.aj 4607182418800017408,.aj 4607182418800017408],w)) (d: ∀n,b' (n+100) ⟨bq,7,(aE 22).scope⟩ (aE 4) [.aj (b! jC 4611686018427387904),.aj i1,.aj c!] w=I (.tup [.aj 0,.aj 0,.aj 0],w)) (n:Nat):
  ex (n+200) cb (b3 14) (h2 V (.own dS) (.own eA)++(jx r g b++[(S "low",.val (.tup [.aj c,.aj i0,.aj a])),(S "high",.val (.tup [.aj jC,.aj i1,.aj c!]))])) w=
   I (.next,h2 V (.own dS) (.own eA)++(jx r g b++oR (.tup [.aj c,.aj i0,.aj a]) (.tup [.aj jC,.aj i1,.aj c!]) (.aj jC) (.aj i1) (.aj c!)),w):=by
 exact cg [.go,.go,cZ (@hE (n+91)),.go,.go,cZ (@cn (n+90)),.go,.go,cZ (@c5 (n+90)),.go,.go,cZ (@d (n+89)),.go]
def ND:Scope:=fj (valueOf (b3 15))
def Cz:Scope:=fj (valueOf (b3 17))
theorem abp {y i q a a1 gy fy s0 s1:U} (au:V.gr= .tup [s0,s1]) (hE: ∀n,b' (n+100) ⟨bq,7,ND⟩ (aE 15) [a,s0] w=I (gy,w)) (cn: ∀n,b' (n+100) ⟨bq,7,ND⟩ (aE 15) [a1,s0] w=I (fy,w)) (n:Nat):
  ex (n+200) cb (b3 15) (h2 V (.own dS) (.own [a,a1])++(jx r g b++oR lo aI y i q)) w=I (.next,h2 V (.own dS) (.own [a,a1])++(jx r g b++oR lo aI y i q++[(S "lights",.own [gy,fy])]),w):=by
 obtain ⟨X,dr,pY,yg,a!,dv,h7,gr,qE,c⟩:=V
 have au:gr=_:=au
 subst au
 exact cg [.go,.go,.go,cZ (@hE (n+95)),.go,cZ (@cn (n+94))]
theorem abq {a:List U} (hE: ∀n,b' (n+80) ⟨bq,7,(aE 22).scope⟩ (aE 16) [.list [.int 1,.int 0],.list dS,V.a!] w=I (P,w)) (cn: ∀n,b' (n+200) ⟨bq,7,(aE 22).scope⟩ (aE 19) [P] w=I (Z,w)) (n:Nat):
  ex (n+300) cb (b3 16) (h2 V (.own dS) (.own eA)++(jx r g b++oR lo aI y i q++[(S "lights",.own a)])) w=I (.next,h2 V (.val (.list dS)) (.own eA)++(jx r g b++oR lo aI y i q++[(S "lights",.own a),(S "zero",.val Z)]),w):=by
 exact cg [cZ (@hE (n+215)),cZ (@cn (n+97))]
theorem abr {y i q Z a e kp j8 j k f h d c gy fy:U} (hE: ∀n,b' (n+80) ⟨bq,7,Cz⟩ (aE 16) [gy,.list dS,V.a!] w=I (a,w)) (cn: ∀n,b' (n+80) ⟨bq,7,Cz⟩ (aE 16) [fy,.list dS,V.a!] w=I (e,w)) (l: ∀n,b' (n+200) ⟨bq,7,Cz⟩ (aE 19) [a] w=I (kp,w)) (bp: ∀n,b' (n+200) ⟨bq,7,Cz⟩ (aE 19) [e] w=I (j8,w))
  (s0:b? .Sub kp Z=I j) (s1:b? .Sub j8 Z=I k) (m0:b? .Mult j V.h7=I f) (b4:b? .Mult k V.h7=I h) (m:b? .Mod f (.int 1099511627776)=I d) (w1:b? .Mod h (.int 1099511627776)=I c) (n:Nat):
  ex (n+300) cb (b3 17) (h2 V (.val (.list dS)) (.own eA)++(jx r g b++oR lo aI y i q++[(S "lights",.own [gy,fy]),(S "zero",.val Z)])) w=I (.next,h2 V (.val (.list dS)) (.own eA)++(jx r g b++oR lo aI y i q++[(S "lights",.own [gy,fy]),(S "zero",.val Z),(S "sought",.own [d,c])]),w):=by
 exact cg [.go,.go,cZ (@hE (n+210)),cZ (@l (n+92)),aM s0,aM m0,aM m,cZ (@cn (n+209)),cZ (@bp (n+91)),aM s1,aM b4,aM w1]
theorem abt {a iy:List U} (c: ∀n,b' (n+500) ⟨bq,7,(aE 22).scope⟩ (aE 21) [.obj V.i,V.gr,.list [lo,aI],V.a!,Z,V.h7,.list iy] w=I (.tup [R,wd],w')) (n:Nat):
  ex (n+600) cb (b3 18) (h2 V (.val (.list dS)) (.own eA)++(jx r g b++oR lo aI y i q++[(S "lights",.own a),(S "zero",.val Z),(S "sought",.own iy)])) w=I (.next,h2 V (.val (.list dS)) (.own eA)++(jx r g b++oR lo aI y i q++[(S "lights",.own a),(S "zero",.val Z),(S "sought",.val (.list iy)),(S "rows",.val R),(S "word",.val wd)]),w'):=by
 exact cg [cZ (@c (n+98))]
end
open PySem.Builtin.Str in
theorem aae (b:Option Int) (n:Nat):strSliceIndices ah b 1 n=strSliceIndices (I ((0:Nat):Int)) b 1 n:=by
 have h:=z5 0 n
 rw[Nat.zero_min] at h
 exact aQ (λp=>sliceRange p _ 1) h.symm
open PySem.Builtin.Str in
theorem aac (a:Option Int) (n:Nat):strSliceIndices a ah 1 n=strSliceIndices a (I (n:Int)) 1 n:=by
 have h:=z5 n n
 rw[Si] at h
 exact aQ (λp=>sliceRange _ p 1) h.symm
theorem Wb (x:Str) (m:Nat):(hF x ah (I (m:Int))).cps.toList=x.cps.toList.take m:=by
 have e:hF x ah (I (m:Int))=hF x (I ((0:Nat):Int)) (I (m:Int)):=by
  unfold hF
  rw[aae]
 rw[e,EX,Dk,Nat.sub_zero]
theorem Wa (x:Str) (m:Nat):(hF x (I (m:Int)) ah).cps.toList=x.cps.toList.drop m:=by
 have e:hF x (I (m:Int)) ah=hF x (I (m:Int)) (I (x.length:Int)):=by
  unfold hF
  rw[aac]
 rw[e,EX,rV]
 rw[pf]
 exact bh _
theorem ah8 (k:Nat) {x:List Bool} (af:x.length≤4) (m:Nat):iO (.str (wS k x)) .none (.int m) .none=I (.str (wS k (x.take m))):=by
 show (if (ah:Option Int)=ah∧(wS k x).length≤1048576 then I (U.str (hF (wS k x) ah (I (m:Int)))) else ah)=_
 rw[a_ ⟨rfl,by rw[h_];exact cW af rfl⟩]
 refine aQ (λs=>I (U.str s)) (vX ?_)
 rw[Wb]
 show (cR k x).take m=cR k (x.take m)
 unfold cR
 rw[SE]
theorem Wq (k:Nat) {x:List Bool} (af:x.length≤4) (m:Nat):iO (.str (wS k x)) (.int m) .none .none=I (.str (wS k (x.drop m))):=by
 show (if (ah:Option Int)=ah∧(wS k x).length≤1048576 then I (U.str (hF (wS k x) (I (m:Int)) ah)) else ah)=_
 rw[a_ ⟨rfl,by rw[h_];exact cW af rfl⟩]
 refine aQ (λs=>I (U.str s)) (vX ?_)
 rw[Wa]
 show (cR k x).drop m=cR k (x.drop m)
 unfold cR
 rw[SF]
def mB (k:Nat) (u v:List Bool) (m:Nat):List Str:=(([u,v].filter λx=>decide (m≤x.length)).map λx=>wS k (x.take m))
def sq (k:Nat) (u v:List Bool) (m:Nat):List Str:=ma (met (mB k u v m))
theorem ai3: ∀k,k<15→ ∀a b,decide (fa k a<fa k b)=decide (fa 0 a<fa 0 b)∧(fa k a==fa k b)=(fa 0 a==fa 0 b):=bx
theorem acA (av:k<15): ∀y x:List Bool,ltCps (cR k y) (cR k x)=ltCps (cR 0 y) (cR 0 x):=by
 intro y
 induction y with
 |nil=>intro x;cases x<;>rfl
 |cons a y d=>
  intro x
  cases x with
  |nil=>rfl
  |cons b x=>
   have c:=ai3 k av a b
   show (decide (fa k a<fa k b)||(fa k a==fa k b&&ltCps (cR k y) (cR k x)))=_
   rw[d,c.1,c.2]
   rfl
noncomputable def zU (u v:List Bool) (m:Nat):List (List Bool):=([u,v].filter λx=>decide (m≤x.length)).map (·.take m)
def sB:List (List Bool)→List (List Bool)
 |[p,q]=>if p=q then [p] else if ltCps (cR 0 q) (cR 0 p) then [q,p] else [p,q]
 |l=>l
theorem af4 (av:k<15): ∀L:List (List Bool),L.length≤2→ma (met (L.map (wS k)))=(sB L).map (wS k)
 |[],_=>rfl
 |[p],_=>rfl
 |[p,q],_=>by
  show ma (if wS k q∈[wS k p] then [wS k p] else [wS k p]++[wS k q])=(if p=q then [p] else if ltCps (cR 0 q) (cR 0 p) then [q,p] else [p,q]).map (wS k)
  by_cases e:p=q
  ·rw[a_ (ep.mpr (aQ (wS k) e.symm)),a_ e]
   rfl
  ·rw[a3 λh=>e ((IC av).mp (ep.mp h)).symm,a3 e]
   show (if ltCps (cR k q) (cR k p) then [wS k q,wS k p] else [wS k p,wS k q])=_
   rw[acA av]
   cases ltCps (cR 0 q) (cR 0 p)<;>rfl
 |_::_::_::l,h=>bF h (DZ (zb (zb (r0 _))))
theorem U_:((jL 4).all λu=>(jL 3).all λv=>((eB 5).flatMap λm=>sB (zU u v m))==gi u v (h5 u v))=true:=bx
theorem T6 (av:k<15) {u v:List Bool} (b0:u.length≤4) (aN:v.length≤3):(eB 5).flatMap (sq k u v)=(gi u v (h5 u v)).map (wS k):=by
 rw[←dp (iB.mp (iB.mp U_ u (ks b0)) v (ks aN)),List.map_flatMap]
 refine aQ (λf=>(eB 5).flatMap f) (funext λm=> ?_)
 have e:mB k u v m=(zU u v m).map (wS k):=by
  unfold mB zU
  rw[iD]
  rfl
 unfold sq
 rw[e]
 exact af4 av _ (by unfold zU;rw[df];exact alf _ _)
end Mine
end
noncomputable section
open PySem PySem.W PyProof.Rows PySem.Calls PySem.Spec PySem.SeqAt PySem.StrLaws PySem.Builtin.Str
namespace Mine
noncomputable def dO (l:List Nat):Str:=⟨l.toArray⟩
theorem Cs (l:List Nat):(dO l).cps.toList=l:=rfl
theorem yv (l:List Nat):(dO l).length=l.length:=by show l.toArray.size=_;rw[eK]
theorem af6 (x:Str):dO x.cps.toList=x:=by unfold dO;rfl
theorem wC:At x y aI i↔i+y.length≤aI∧(x.cps.toList.drop i).take y.length=y.cps.toList:=by
 unfold At
 rw[subAt_eq,beq_iff_eq]
theorem aem (x y:Str) (lo aI:Nat):(occurrences x y lo aI 1=[]∧ ∀i,lo≤i→ ¬At x y aI i)∨ ∃a r,occurrences x y lo aI 1=a::r∧lo≤a∧At x y aI a∧ ∀i,lo≤i→i<a→ ¬At x y aI i:=by
 rw[occ_eq]
 rcases occ_first x y aI 1 (bh _) (DV lo (aI+1-lo)) lo (λi h=>(Jx.mp h).1) with ⟨J,aa⟩|⟨pre,a,post,J,aa,ay,g⟩
 ·left
  refine ⟨by rw[J],λi d c=> ?_⟩
  have:=c.1
  exact aa i (Jx.mpr ⟨d,by exact bE (cc this (k_ (aI+1) (lo)))⟩) c
 ·right
  have aJ:a∈DV lo (aI+1-lo):=by rw[J];exact List.mem_append_cons_self
  generalize (forIn (m:=Id) (DV lo (aI+1-lo)) ((#[]:Array Nat),lo) (occBody x y aI 1)).run.fst=arr at aa
  refine ⟨a,arr.toList.tail,?_,(Jx.mp aJ).1,ay,λi d f c=> ?_⟩
  ·rw[←Dy] at aa
   cases e:arr.toList with
   |nil=>rw[e] at aa;exact aR aa
   |cons b r=>rw[e] at aa;cases aa;rfl
  ·have hm:i∈DV lo (aI+1-lo):=Jx.mpr ⟨d,by have:=c.1;exact bE (cc this (k_ (aI+1) (lo)))⟩
   rw[J] at hm
   rcases ob.mp hm with hm|hm
   ·exact g i hm c
   ·rcases eo.mp hm with rfl|hm
    ·exact As (e8 f)
    ·
     have au:List.Pairwise (·<·) (DV lo (aI+1-lo)):=List.pairwise_lt_range'
     rw[J,List.pairwise_append] at au
     have:=(qL.mp au.2.1).1 i hm
     exact As (cc (e8 f) (e8 this))
theorem aej {lo aI k:Nat} (av:lo≤k) (h:At x y aI k) (c: ∀i,lo≤i→i<k→ ¬At x y aI i): ∃r,occurrences x y lo aI 1=k::r:=by
 rcases aem x y lo aI with ⟨_,aa⟩|⟨a,r,J,aa,ay,b⟩
 ·exact bF h (aa k av)
 ·refine ⟨r,?_⟩
  rw[J]
  congr 1
  rcases alg a k with z|z|z
  ·exact bF ay (c a aa z)
  ·exact z
  ·exact bF h (b k av z)
theorem aek {lo aI:Nat} (h:lo≤aI): ∃r,occurrences x fv lo aI 1=lo::r:=by
 refine aej (bh _) (wC.mpr ⟨by show lo+0≤aI;exact h,?_⟩) λi J aa=>bF (gP J aa) (lz _)
 show (x.cps.toList.drop lo).take 0=[]
 rw[List.take_zero]
theorem PF:ha x y=ab↔At x y x.length 0:=by
 unfold ha At
 rw[j3,decide_eq_true_eq]
theorem Lc:j1 x y=ab↔y.length≤x.length∧(x.cps.toList.drop (x.length-y.length))=y.cps.toList:=by
 unfold j1
 rw[j3,decide_eq_true_eq,subAt_eq,beq_iff_eq,pj]
 constructor
 ·rintro ⟨J,aa⟩
  refine ⟨J,?_⟩
  rw[←aa,rV]
  rw[pf,oQ];exact dH (Nat.sub_sub_self J)
 ·rintro ⟨J,aa⟩
  refine ⟨J,?_⟩
  rw[aa,rV]
  rw[oQ];exact dH rfl
noncomputable def j':List Nat:=[46,46,46]
noncomputable def ec:List (List Nat)→List Nat
 |[]=>[]
 |[p]=>p
 |p::q::r=>p++(j'++ec (q::r))
def gX:Str:=S "..."
theorem oz:gX.cps.toList=j'∧gX.length=3:=bx
theorem TQ (a9:y.cps.toList=c::r) (h:At x y aI k):x.cps.toList[k]?=I c:=by
 have h:=(wC.mp h).2
 have b:0<y.length:=by rw[←oQ,a9];simp
 rw[a9] at h
 have e:x.cps.toList[k]?=(x.cps.toList.drop k)[0]?:=by rw[List.getElem?_drop];rfl
 rw[e]
 have a:((x.cps.toList.drop k).take y.length)[0]?=(x.cps.toList.drop k)[0]?:=by rw[List.getElem?_take_of_lt b]
 rw[←a,h]
 rfl
theorem Oh {pre p suf:List Nat} (aC:46∉p) {aI k:Nat} (J:pre.length≤k) (aa:k<pre.length+p.length): ¬At (dO (pre++(p++suf))) gX aI k:=by
 intro h
 have h:=TQ (c:=46) (r:=[46,46]) (oz.1) h
 rw[Cs,Jm J,zu (by exact Sw J aa)] at h
 exact aC (ia h)
theorem J_ {pre p suf:List Nat}:At (dO (pre++(p++(j'++suf)))) gX (dO (pre++(p++(j'++suf)))).length (pre.length+p.length):=by
 rw[wC,oz.1,oz.2,Cs,yv]
 have e:pre++(p++(j'++suf))=(pre++p)++(j'++suf):=by rw[iT]
 have a:(pre++p).length=pre.length+p.length:=er
 constructor
 ·rw[e,er,er,er]
  exact Er (dH rfl) (gw _ _)
 ·rw[e,←a,SG]
  rfl
set_option tactic.hygienic true in
theorem aeL: ∀(ps:List (List Nat)),ps≠[]→(∀p∈ps,46∉p)→ ∀(pre:List Nat) (a:List Nat) (f:Nat),ChainG (dO (pre++ec ps)) gX (dO (pre++ec ps)).length pre.length a f→(∀k,f≤k→ ¬At (dO (pre++ec ps)) gX (dO (pre++ec ps)).length k)→partsFrom (dO (pre++ec ps)) 3 pre.length a=ps.map dO:=by
 intro ps
 induction ps with
 |nil=>intro h _ _ _ _ _ _;exact bF rfl h
 |cons p ps b=>
  intro _ aC pre a f ag m
  induction ps using cj with
  |nil=>
   have d: ∀k,pre.length≤k→ ¬At (dO (pre++ec [p])) gX (dO (pre++ec [p])).length k:=by
    intro k av i
    have e:pre++ec [p]=pre++(p++[]):=by rw[e0];rfl
    have ae:=i.1
    rw[oz.2,yv,er] at ae
    rw[e] at i
    exact Oh (aC p eQ) av (by show k<pre.length+(ec [p]).length;exact ajW ae) i
   induction a using cj with
   |nil=>
    show [strSub (dO (pre++p)) pre.length (dO (pre++p)).length]=[dO p]
    congr 1
    apply Str.ext'
    apply DE.mp
    rw[strSub_toList,Cs,yv,SG,er,alh,RD]
    rfl
   |cons c r=>exact bF ag.2.1 (d c ag.1)
  |cons q r=>
   have e:pre++ec (p::q::r)=pre++(p++(j'++ec (q::r))):=rfl
   have d: ∀k,pre.length≤k→k<pre.length+p.length→ ¬At (dO (pre++ec (p::q::r))) gX (dO (pre++ec (p::q::r))).length k:=by
    intro k av t
    rw[e]
    exact Oh (aC p eQ) av t
   have j:At (dO (pre++ec (p::q::r))) gX (dO (pre++ec (p::q::r))).length (pre.length+p.length):=by rw[e];exact J_
   induction a using cj with
   |nil=>
    have o:f=pre.length:=ag
    exact bF j (m _ (by exact Ny o (gw _ _)))
   |cons c cs=>
    have cn:=ag.1
    have c5:=ag.2.1
    have s:=ag.2.2.1
    have gW:=ag.2.2.2
    have u:c=pre.length+p.length:=by
     rcases alg c (pre.length+p.length) with z|z|z
     ·exact bF c5 (d c cn z)
     ·exact z
     ·exact bF j (s _ (by exact gw _ _) z)
    subst u
    have g:pre++ec (p::q::r)=(pre++p++j')++ec (q::r):=by rw[e];simp only[iT]
    have l:pre.length+p.length+gX.length=(pre++p++j').length:=by
     rw[oz.2,er,er];rfl
    show strSub _ pre.length (pre.length+p.length)::partsFrom _ 3 (pre.length+p.length+3) cs=_
    have n:pre.length+p.length+3=(pre++p++j').length:=by rw[←l,oz.2]
    rw[l] at gW
    have b:=b (by exact akW _ _) (λx af=>aC x (fb _ af)) (pre++p++j') cs f (by rw[←g];exact gW) (by rw[←g];exact m)
    rw[n,iR]
    congr 1
    ·apply Str.ext'
     apply DE.mp
     rw[strSub_toList,Cs,e,SG,alh,List.take_left]
     rfl
    ·rw[←g] at b;exact b
theorem Ql (h:2≤l.length): ∃p q r,l=p::q::r:=by
 induction l using cj with
 |nil=>exact bF h (ali 1)
 |cons p l=>
  induction l using cj with
  |nil=>exact bF h (show¬2≤1 by decide)
  |cons q r=>exact ⟨p,q,r,rfl⟩
theorem ahi {ps:List (List Nat)} (aa:2≤ps.length) (aC: ∀p∈ps,46∉p):rT (dO (ec ps)) gX=ps.map dO∧(partsBetween (dO (ec ps)) (occurrences (dO (ec ps)) gX 0 (dO (ec ps)).length ((dO (ec ps)).length+1)) gX.length).length=ps.length∧kK (.str gX) (.str (dO (ec ps)))=I true:=by
 obtain ⟨f,ag,hf⟩:=occ_tight (dO (ec ps)) gX (by rw[oz.2];decide)
 have el:ps≠[]:=by intro z;rw[z] at aa;simp at aa
 have key:=aeL ps el aC [] _ f (by simpa using ag) (by simpa using hf)
 have c:partsBetween (dO (ec ps)) (occurrences (dO (ec ps)) gX 0 (dO (ec ps)).length ((dO (ec ps)).length+1)) gX.length=ps.map dO:=by
  rw[partsBetween_eq,oz.2]
  simpa using key
 have b:3≤(dO (ec ps)).length:=by
  obtain ⟨p,q,r,rfl⟩:=Ql aa
  rw[yv]
  show 3≤(p++(j'++ec (q::r))).length
  rw[er,er]
  show 3≤_+(3+_)
  simp+arith only
 have e:(occurrences (dO (ec ps)) gX 0 (dO (ec ps)).length ((dO (ec ps)).length+1)).isEmpty=false:=by
  cases d:occurrences (dO (ec ps)) gX 0 (dO (ec ps)).length ((dO (ec ps)).length+1) with
  |nil=>
   rw[d] at c
   have:=aQ List.length c
   rw[df] at this
   have J:(partsBetween (dO (ec ps)) [] gX.length).length=1:=by rw[partsBetween_eq];rfl
   exact bF (cG aa (dH (this.symm.trans J))) ar
  |cons a r=>rfl
 refine ⟨?_,by rw[c,df],?_⟩
 ·unfold rT
  have ay:(decide ((dO (ec ps)).length<gX.length)||decide (Jy (dO (ec ps))<Jy gX))=false:=by
   rw[IY]
   refine ⟨f5 (by rw[oz.2];exact SH b),f5 ?_⟩
   have:Jy gX=1:=bx
   rw[this]
   unfold Jy
   split
   ·exact lz _
   ·split<;>(first|exact Nat.not_succ_lt_self|exact SH (nd _ _))
  rw[ay,e,a3 ar,a3 ar]
  exact c
 ·show I (!(occurrences (dO (ec ps)) gX 0 (dO (ec ps)).length 1).isEmpty)=I ab
  congr 1
  rw[found_iff]
  obtain ⟨p,q,r,rfl⟩:=Ql aa
  exact ⟨_,J_ (pre:=[]) (p:=p) (suf:=ec (q::r))⟩
theorem Aj (x:Str) (e s:Nat):hl x e s []=true:=by rw[hl]
theorem Ai (x:Str) {e s:Nat} (h:s≤e) (ws:List Str):hl x e s (fv::ws)=hl x e s ws:=by
 obtain ⟨r,b8⟩:=aek (x:=x) h
 rw[hl,b8]
 rfl
theorem uP (x w:Str) (r:List Str):E5 x (w::r)=if w.length=0 then I (w::r,0) else if ha x w then I (r,w.length) else none:=rfl
theorem W0 (a:f.length≠0) (ae:b.length≠0) (d:ha x f=ab) (he:j1 x b=ab):ky [f,b] x=decide (f.length≤x.length-b.length):=by
 unfold ky
 rw[uP,a3 a,d,a_ rfl]
 show (match lJ x [b] with|none=>aq|some (c,e)=>if e<f.length then aq else hl x e f.length c)=_
 unfold lJ
 rw[show [b].getLastD (S "")=b from rfl,a3 ae,he]
 show (if x.length-b.length<f.length then aq else hl x (x.length-b.length) f.length [])=_
 by_cases h:x.length-b.length<f.length
 ·rw[a_ h,f5 (by exact DZ h)]
 ·rw[a3 h,e1 (by exact Om h),Aj]
theorem WU (b:s.length≠0):ky [s,fv] x=ha x s:=by
 unfold ky
 rw[uP,a3 b]
 cases h:ha x s with
 |false=>rfl
 |true=>
  rw[a_ rfl]
  show (match lJ x [fv] with|none=>aq|some (a,e)=>if e<s.length then aq else hl x e s.length a)=_
  unfold lJ
  rw[show [fv].getLastD (S "")=fv from rfl,a_ rA]
  have:=H? h
  show (if x.length<s.length then aq else hl x x.length s.length [fv])=_
  rw[a3 (by exact SH this),Ai _ this,Aj]
theorem WT (b:s.length≠0):ky [fv,s] x=j1 x s:=by
 unfold ky
 rw[uP,a_ rA]
 show (match lJ x [fv,s] with|none=>aq|some (a,e)=>if e<0 then aq else hl x e 0 a)=_
 unfold lJ
 rw[show [fv,s].getLastD (S "")=s from rfl,a3 b]
 cases h:j1 x s with
 |false=>rfl
 |true=>
  show (if x.length-s.length<0 then aq else hl x (x.length-s.length) 0 [fv])=_
  rw[a3 (by exact zo _),Ai _ (hC _),Aj]
theorem ahI (h:x.cps.toList=l):x=dO l:=by rw[←h,af6]
theorem WY (aa:2≤ps.length) (c:ps.length≤4) (aC: ∀p∈ps,46∉p) (f: ∀p∈ps,p.length≤200) {x:Str} (af:x.length≤1000) {want:Str} (hw:want.cps.toList=ec ps) (g:want.length≤100000) {d:Nat} {sc:Scope} {w:W} (n:Nat):
  b' (n+200) ⟨bq,d+1,sc⟩ (aE 11) [.str want,.str x] w=I (.bool (ky (ps.map dO) x),w):=by
 have a:=ahi aa aC
 have s1:=a.1
 have s2:=a.2.1
 have s3:=a.2.2
 have h:=ahI hw
 subst h
 exact WX (d:=d) (by exact cW g rfl) (by exact cW af rfl) s3 (ps.map dO) s1 (by rw[df];exact aa) (by rw[df];exact cW c rfl) (λy a9=>by
  obtain ⟨p,b,rfl⟩:=hc.mp a9
  rw[yv];have:=f p b;exact cW (f _ b) rfl) (by have e:(S "...")=gX:=rfl;rw[e,s2];exact cW c rfl) n
end Mine
end
noncomputable section
open PySem PySem.W PyProof.Rows PySem.Calls PySem.Spec PySem.SeqAt
namespace Mine
structure ko where
 V:zy
 dS:List U
 iz:Str
 gM:Str
 r:U
 g:U
 b:U
 lo:U
 aI:U
 y:U
 i:U
 q:U
 hJ:U
 c1:U
 Z:U
 s0:U
 s1:U
 R:List U
def bb (H:ko) (T:aA):aA:=h2 H.V (.val (.list H.dS)) (.own [.str H.iz,.str H.gM])++(jx H.r H.g H.b++oR H.lo H.aI H.y H.i H.q++[(S "lights",.own [H.hJ,H.c1]),(S "zero",.val H.Z),(S "sought",.val (.list [H.s0,H.s1])),(S "rows",.val (.list H.R)),(S "word",.val (.str (cI 101)))])++T
def mA:Expr:=pC (pC (pC (valueOf (a6 (jR (b3 20)) 0))))
def oq:Scope:=fj mA
def vM:Expr:=match valueOf (b3 21) with
 | .BoolOp _ (.Compare a _ _ _::_) _=>a
 |e=>e
def vN:Scope:=fj vM
def qy:Expr:=valueOf (b3 23)
def o8:Scope:=fj qy
def wO (be:List U):aA:=[(S "begun",.own be)]
def f9 (be:List U) (z:U):aA:=[(S "begun",.own be),(S "size",.val z)]
theorem abu (n:Nat):ex (n+100) cb (b3 19) (bb H []) w=I (.next,bb H (wO []),w):=by
 exact cg []
theorem T8 (s:Str) (be:List U) (z:U) {L:U} {b:Bool} (J:fO (ao "len") [.str s]=I L) (aa:e_ .GtE L z=I b) (n:Nat):hN (n+30) ⟨bq,7,oq⟩ .And (sx mA) (((bb H (f9 be z)).hide (Scope.dq oq)).set (S "one") (.val (.str s))) w=I (b,w):=by
 induction b using d1<;>exact HT [aM J,cE aa]
theorem T5 (s:Str) (be:List U) (z c:U) (h:iO (.str s) .none z .none=I c) (n:Nat):ev (n+30) ⟨bq,7,oq⟩ (ff mA) (((bb H (f9 be z)).hide (Scope.dq oq)).set (S "one") (.val (.str s))) w=I (c,w):=by
 exact tM [aM h]
theorem abw (be:List U) (z:U) (cl sl:List U) (ae:be.length≤1048576) (a:sl.length≤1048576) (ag: ∀n,d! (n+33) ⟨bq,7,oq⟩ (ff mA) (jj mA) (sx mA) [.str H.iz,.str H.gM] ((bb H (f9 be z)).hide (Scope.dq oq)) w=I (cl,w)) (au:n5 cl=I sl) (n:Nat):
  cw (n+60) cb (jR (b3 20)) (bb H (f9 be z)) w=I (.next,bb H (f9 (be++sl) z),w):=by
 exact jy [.go,q3 (@ag (n+23)),oA au,.p _ ae,.p _ a]
theorem abv (b8:l_ [.int 5]=I items) (a: ∀n,forL (n+80) cb (gf (b3 20)) (jR (b3 20)) items (bb H (wO [])) w=I (.next,bb H (f9 be z),w)) (n:Nat):
  ex (n+100) cb (b3 20) (bb H (wO [])) w=I (.next,bb H (f9 be z),w):=by
 exact cg [oA b8,mE (@a (n+19))]
theorem afV (a b c d e:U) (be:List U) (z:U) (n:Nat):ev (n+31) ⟨bq,7,vN⟩ (ff vM) (((bb H (f9 be z)).hide (Scope.dq vN)).set (S "row") (.val (.list [a,b,c,d,e]))) w=I (a,w):=by
 exact tM [.go]
theorem abx (b:H.R.length≤1048576) (ag: ∀n,d! (n+60) ⟨bq,7,vN⟩ (ff vM) (jj vM) [] H.R ((bb H (f9 be z)).hide (Scope.dq vN)) w=I (be,w)) (he:hs (.list be) (.list be)=I ab) (a:m4 H.V.i w=I (.str (bI []),w')) (n:Nat):
  ex (n+100) cb (b3 21) (bb H (f9 be z)) w=I (.next,bb H (f9 be z),w'):=by
 exact cg [.p _ b,q3 (@ag (n+33)),cE (eq_not he),.go,cZ a,.go]
theorem aby (d:H.V.qE= .str t) (a:vi H.V.i w=I (.int l,w)) (ag:methP (ao "count") (.str t) [.str (ao "\n")]=I (.int c)) (he:hs (.int l) (.int (1+c))=I ab) (n:Nat):
  ex (n+100) cb (b3 22) (bb H (f9 be z)) w=I (.next,bb H (f9 be z),w):=by
 obtain ⟨⟨X,dr,pY,yg,a!,dv,h7,gr,qE,e⟩,dS,iz,gM,r,g,b,lo,aI,y,i,q,hJ,c1,Z,s0,s1,R⟩:=H
 have d:qE=_:=d
 subst d
 have a:vi e w=_:=a
 exact cg [cZ a,aM ag,.go,cE (eq_not he)]
theorem agC (s c:Str) (be:List U) (z:U) {b1 b2:Bool} (J:b? .Add (.str s) (.str (ao "..."))=I (.str c)) (aa: ∀n,b' (n+200) ⟨bq,7,o8⟩ (aE 11) [.str c,.str H.iz] w=I (.bool b1,w)) (ay: ∀n,b' (n+200) ⟨bq,7,o8⟩ (aE 11) [.str c,.str H.gM] w=I (.bool b2,w)) (n:Nat):hN (n+230) ⟨bq,7,o8⟩ .And (sx qy) (((bb H (f9 be z)).hide (Scope.dq o8)).set (S "one") (.val (.str s))) w=I (b1&&b2,w):=by
 cases b1
 ·exact HT [aM J,.go,cZ (@aa (n+25)),.go]
 ·induction b2 using d1<;>exact HT [aM J,.go,cZ (@aa (n+25)),.go,aM J,.go,cZ (@ay (n+24)),.go]
theorem agy (s:Str) (be:List U) (z:U) (n:Nat):ev (n+230) ⟨bq,7,o8⟩ (ff qy) (((bb H (f9 be z)).hide (Scope.dq o8)).set (S "one") (.val (.str s))) w=I (.str s,w):=by
 exact tM []
def Cu (be:List U) (z:U) (ef:List U):aA:=[(S "begun",.own be),(S "size",.val z),(S "shared",.own ef)]
theorem abz (a:be.length≤1048576) (ag: ∀n,d! (n+250) ⟨bq,7,o8⟩ (ff qy) (jj qy) (sx qy) be ((bb H (f9 be z)).hide (Scope.dq o8)) w=I (ef,w)) (n:Nat):
  ex (n+300) cb (b3 23) (bb H (f9 be z)) w=I (.next,bb H (Cu be z ef),w):=by
 exact cg [.p _ a,q3 (@ag (n+47))]
def G? (be:List U) (z:U) (ef:List U) (le:U):aA:=[(S "begun",.own be),(S "size",.val z),(S "shared",.own ef),(S "least",.val le)]
theorem abA (au:H.V.gr= .tup [s0,s1]) (af:dM (.list ef) (.int (-1))=I x) (ag: ∀n,b' (n+100) ⟨bq,7,(aE 22).scope⟩ (aE 15) [x,s0] w=I (le,w)) (n:Nat):
  ex (n+200) cb (b3 24) (bb H (Cu be z ef)) w=I (.next,bb H (G? be z ef le),w):=by
 obtain ⟨⟨X,dr,pY,yg,a!,dv,h7,gr,qE,d⟩,dS,iz,gM,r,g,b,lo,aI,y,i,q,hJ,c1,Z,a,c,R⟩:=H
 have au:gr=_:=au
 subst au
 exact cg [.go,aM af,.go,cZ (@ag (n+97))]
end Mine
end
noncomputable section
open PySem PySem.W PyProof.Rows PySem.Calls PySem.Spec PySem.SeqAt PySem.StrLaws PySem.Builtin.Str
namespace Mine
theorem len0 (h:f.length=0):f=fv:=by
 have aa:f.cps.toList=[]:=List.eq_nil_of_length_eq_zero (by rw[oQ];exact h)
 apply Str.ext'
 apply DE.mp
 rw[aa];rfl
theorem ahy (x:Str):ha x fv=true:=PF.mpr (wC.mpr ⟨hC _,rfl⟩)
theorem Lb (x:Str):j1 x fv=true:=Lc.mpr ⟨hC _,wq (by rw[rA,oQ];exact bh _)⟩
theorem WZ (f b x:Str):ky [f,b] x=(ha x f&&(j1 x b&&decide (f.length+b.length≤x.length))):=by
 by_cases hf:f.length=0
 ·obtain rfl:=len0 hf
  rw[ahy,rA,pj]
  by_cases ae:b.length=0
  ·obtain rfl:=len0 ae
   rw[Lb]
   unfold ky
   rw[uP,a_ rA]
   show (match lJ x [fv,fv] with|none=>aq|some (a,e)=>if e<0 then aq else hl x e 0 a)=_
   unfold lJ
   rw[show [fv,fv].getLastD (S "")=fv from rfl,a_ rA]
   show (if x.length<0 then aq else hl x x.length 0 [fv,fv])=_
   rw[a3 (zo _),Ai _ (hC _),Ai _ (hC _),Aj]
   rfl
  ·rw[WT ae]
   cases h:j1 x b with
   |false=>rfl
   |true=>rw[e1 (E7 h)];rfl
 ·by_cases ae:b.length=0
  ·obtain rfl:=len0 ae
   rw[WU hf,Lb]
   cases h:ha x f with
   |false=>rfl
   |true=>rw[e1 (by rw[rA];exact H? h)];rfl
  ·cases h:ha x f with
   |false=>
    unfold ky
    rw[uP,a3 hf,h]
    rfl
   |true=>
    cases aa:j1 x b with
    |false=>
     unfold ky
     rw[uP,a3 hf,h,a_ rfl]
     show (match lJ x [b] with|none=>aq|some (a,e)=>if e<f.length then aq else hl x e f.length a)=_
     unfold lJ
     rw[show [b].getLastD (S "")=b from rfl,a3 ae,aa]
     rfl
    |true=>
     have ay:=E7 aa
     rw[W0 hf ae h aa,Bool.true_and,Bool.true_and]
     exact decide_eq_decide.mpr ⟨λh=>(by exact Nat.add_le_of_le_sub ay h),λh=>(by exact Nat.le_sub_of_add_le h)⟩
noncomputable def tU (y u:List Bool):Bool:=decide (y.length≤u.length)&&decide (u.drop (u.length-y.length)=y)
def xh (x y u:List Bool):Bool:=h6 x u&&(tU y u&&decide (x.length+y.length≤u.length))
theorem QG (av:k<15) {x y:List Bool}:cR k x=cR k y↔x=y:=by
 refine ⟨λh=>(IC av).mp (aQ (λl=>(⟨l.toArray⟩:Str)) h),λh=>h▸rfl⟩
theorem OM: ∀{x u:List Bool},h6 x u=ab↔x.length≤u.length∧u.take x.length=x:=by
 intro x
 induction x with
 |nil=>intro u;exact ⟨λZ=>⟨hC _,rfl⟩,λZ=>rfl⟩
 |cons a x c=>
  intro u
  induction u using cj with
  |nil=>exact ⟨λh=>(nomatch h),λh=>bF h.1 (ali _)⟩
  |cons b u=>
   show (a==b&&h6 x u)=ab↔_
   rw[j3,c,beq_iff_eq,gR,gR,ajZ,List.cons.injEq]
   constructor
   ·rintro ⟨J,aa,ay⟩;exact ⟨ml aa,J.symm,ay⟩
   ·rintro ⟨J,aa,ay⟩;exact ⟨aa.symm,um J,ay⟩
theorem v_ (k:Nat) (x:List Bool):(wS k x).cps.toList=cR k x:=rfl
theorem yB (av:k<15) (x u:List Bool):ha (wS k u) (wS k x)=h6 x u:=by
 rw[jF,PF,wC,OM,h_,h_,v_,v_,Dk,pj]
 have e:(cR k u).take x.length=cR k (u.take x.length):=by unfold cR;rw[SE]
 rw[e,QG av]
theorem W7 (av:k<15) (y u:List Bool):j1 (wS k u) (wS k y)=tU y u:=by
 rw[jF,Lc,h_,h_,v_,v_]
 have e:(cR k u).drop (u.length-y.length)=cR k (u.drop (u.length-y.length)):=by unfold cR;rw[SF]
 rw[e,QG av]
 unfold tU
 rw[j3,decide_eq_true_eq,decide_eq_true_eq]
theorem W2 (av:k<15) (x y u:List Bool):ky [wS k x,wS k y] (wS k u)=xh x y u:=by
 rw[WZ,yB av,W7 av,h_,h_,h_]
 rfl
theorem Ly (x u:List Bool):xh x [] u=h6 x u:=by
 unfold xh
 cases h:h6 x u with
 |false=>rfl
 |true=>
  have J:=(OM.mp h).1
  have aa:tU [] u=true:=by
   unfold tU
   rw[j3,decide_eq_true_eq,decide_eq_true_eq]
   exact ⟨hC _,wq (bh _)⟩
  rw[aa,e1 (by exact J)]
  rfl
theorem QH (av:k<15) (x:List Bool):46∉cR k x:=λh=>by
 have:=yS av x 46 h
 revert this
 decide
theorem yR (k:Nat) (x:List Bool):(cR k x).length=x.length:=df _
theorem E6 (av:k<15) {x y u:List Bool} (af:x.length≤4) (a9:y.length≤4) (b0:u.length≤4) {want:Str} (hw:want.cps.toList=cR k x++(j'++cR k y)) {sc:Scope} {w:W} (n:Nat):
  b' (n+200) ⟨bq,7,sc⟩ (aE 11) [.str want,.str (wS k u)] w=I (.bool (xh x y u),w):=by
 have a:want.length≤100000:=by
  rw[←oQ,hw,er,er,yR,yR]
  show _+(3+_)≤_
  exact bE (cc af a9)
 have:=WY (ps:=[cR k x,cR k y]) (x:=wS k u) (want:=want) (d:=6) (sc:=sc) (w:=w) (bh 2) (by show 2≤4;decide) (λp aC=>by
  rcases eo.mp aC with rfl|aC
  ·exact QH av x
  ·rw[ep.mp aC];exact QH av y) (λp aC=>by
  rcases eo.mp aC with rfl|aC
  ·rw[yR];exact cW af rfl
  ·rw[ep.mp aC,yR];exact cW a9 rfl) (by rw[h_];exact cW b0 rfl) hw a n
 rw[this]
 have e:[cR k x,cR k y].map dO=[wS k x,wS k y]:=rfl
 rw[e,W2 av]
theorem QC (af:x.length≤4): ∃c:Str,b? .Add (.str (wS k x)) (.str (ao "..."))=I (.str c)∧c.cps.toList=cR k x++(j'++cR k []):=by
 have a:=h_ k x
 refine ⟨_,add_str (by rw[a];have:(ao "...").length=3:=bx;exact bE (cc af (dH this))),?_⟩
 rw[si]
 have:(ao "...").cps.toList=j':=oz.1
 rw[this]
 rfl
theorem ai0 (af:x.length≤4) (a9:y.length≤4): ∃c b:Str,b? .Add (.str (wS k x)) (.str (ao "..."))=I (.str c)∧b? .Add (.str c) (.str (wS k y))=I (.str b)∧b.cps.toList=cR k x++(j'++cR k y):=by
 obtain ⟨c,a⟩:=QC (k:=k) af
 have J:=a.1
 have aa:=a.2
 have d:c.length=x.length+3:=by
  rw[←oQ,aa,er,yR]
  rfl
 have e:=h_ k y
 refine ⟨c,_,J,add_str (by rw[d,e];exact bE (cc af a9)),?_⟩
 rw[si,aa,v_,iT]
 rfl
def uR (u:List Bool):List (Nat×Nat):=(eB (u.length+1)).map λj=>bg (u.drop j)
def Wu (y u:List Bool):Bool:=(eB 5).all λi=>decide (bg y∈(uR u).drop i)==(tU y u&&decide (i+y.length≤u.length))
theorem Va:((jL 4).all λy=>(jL 4).all λu=>Wu y u)=true:=bx
theorem Wv (a9:y.length≤4) (b0:u.length≤4) {i:Nat} (aI:i≤4):decide (bg y∈(uR u).drop i)=(tU y u&&decide (i+y.length≤u.length)):=by
 have h:=iB.mp (iB.mp Va y (ks a9)) u (ks b0)
 exact dp (iB.mp h i (zp.mpr (Ju aI)))
def yx (u v:List Bool):List (List Bool):=(gi u v (h5 u v)).filter λx=>h6 x u&&h6 x v
def lst (u v:List Bool):List Bool:=(yx u v).getLastD []
noncomputable def kN (m k:Nat) (l:Nat×Nat):Int:=(m:Int)*(l.2:Int)-(k:Int)*(l.1:Int)
def NA (u v:List Bool):Bool:=decide ((yx u v).getLast?=I (lst u v))&&(decide ((lst u v).length≤4)&&
 (eB ((bg (lst u v)).1+(bg (lst u v)).2-1)).all λt=>(eB (t+1)).all λm=>decide (kN (1+m) (t+1-m) (bg u)*kN (1+m) (t+1-m) (bg v)≤0)==decide (1+m=(bg (lst u v)).1∧t+1-m=(bg (lst u v)).2))
theorem Vc:((jL 4).all λu=>(jL 3).all λv=>NA u v)=true:=bx
structure S5 (u v:List Bool):Prop where
 last:(yx u v).getLast?=I (lst u v)
 len:(lst u v).length≤4
 all: ∀t,t<(bg (lst u v)).1+(bg (lst u v)).2-1→ ∀m,m<t+1→decide (kN (1+m) (t+1-m) (bg u)*kN (1+m) (t+1-m) (bg v)≤0)=decide (1+m=(bg (lst u v)).1∧t+1-m=(bg (lst u v)).2)
theorem Nz (b0:u.length≤4) (aN:v.length≤3):S5 u v:=by
 have h:=iB.mp (iB.mp Vc u (ks b0)) v (ks aN)
 unfold NA at h
 rw[j3,j3,decide_eq_true_eq,decide_eq_true_eq] at h
 obtain ⟨J,aa,ay⟩:=h
 exact ⟨J,aa,λt a m hm=>dp (iB.mp (iB.mp ay t (zp.mpr a)) m (zp.mpr hm))⟩
theorem PD (l:List Str) (h:l.length<64):n5 (l.map .str)=I ((ma (met l)).map .str):=by
 unfold n5
 rw[strs_map,pK,a_ h]
theorem acK: ∀(l b:List Str) (x:Str),x∈l.foldl g7 b→x∈b∨x∈l:=by
 intro l
 induction l with
 |nil=>intro b x h;exact .inl h
 |cons a l c=>
  intro b x h
  rcases c (g7 b a) x h with h|h
  ·unfold g7 at h
   split at h
   ·exact .inl h
   ·rcases ob.mp h with h|h
    ·exact .inl h
    ·exact .inr (ep.mp h▸eQ)
  ·exact .inr (fb _ h)
theorem acI: ∀(l b:List Str),b.length≤(l.foldl g7 b).length:=by
 intro l
 induction l with
 |nil=>intro b;exact bh _
 |cons a l c=>
  intro b
  refine cG ?_ (c (g7 b a))
  unfold g7
  split
  ·exact bh _
  ·rw[er];exact gw _ _
theorem acJ:(met (a::l)).length≠0:=by
 have h:(g7 [] a).length≤(met (a::l)).length:=acI l (g7 [] a)
 have J:g7 [] a=[a]:=by unfold g7;rw[a3 (Sd)];rfl
 rw[J] at h
 exact j6 h
theorem ag9 (h:x∈ma (met l)):x∈l:=by
 rcases acK l [] x ((yz (met l)).mem_iff.mp h) with h|h
 ·exact bF h Sd
 ·exact h
noncomputable def hx (u:List Bool):List (List Bool):=(eB (u.length+1)).map λj=>u.drop j
theorem PM (h:y∈hx u):y.length≤u.length:=by
 obtain ⟨j,_,rfl⟩:=hc.mp h
 rw[pf]
 exact rW _ _
def uI (k:Nat) (u v:List Bool):List Str:=ma (met ((hx u++hx v).map (wS k)))
theorem Vn (b0:u.length≤4) (aN:v.length≤4) {x:Str} (h:x∈uI k u v): ∃y:List Bool,y.length≤4∧x=wS k y:=by
 obtain ⟨y,a9,rfl⟩:=hc.mp (ag9 h)
 refine ⟨y,?_,rfl⟩
 rcases ob.mp a9 with a9|a9
 ·exact cG (PM a9) b0
 ·exact cG (PM a9) aN
theorem Vo:uI k u v≠[]:=by
 intro z
 have h:(uI k u v).length=(met ((hx u++hx v).map (wS k))).length:=(yz _).length_eq
 rw[z] at h
 obtain ⟨r,e⟩: ∃r,(hx u++hx v).map (wS k)=wS k u::r:=by
  unfold hx
  exact kR▸List.range_succ_eq_map▸iR▸iR▸List.cons_append▸(⟨_,rfl⟩)
 rw[e] at h
 exact acJ h.symm
theorem Vm (b0:u.length≤4) (aN:v.length≤4):(uI k u v).length≤10:=by
 have h:(uI k u v).length=(met ((hx u++hx v).map (wS k))).length:=(yz _).length_eq
 have aa:=Hg ((hx u++hx v).map (wS k)) []
 rw[df,er] at aa
 unfold hx at aa
 rw[df,df,jE,jE] at aa
 have ay:(met ((hx u++hx v).map (wS k))).length≤0+(u.length+1+(v.length+1)):=aa
 exact bE (cc (cc (cc b0 aN) (dH h)) ay)
theorem NG (u:List Bool):1≤(bg u).1∧1≤(bg u).2:=by
 unfold bg
 induction u with
 |nil=>exact ⟨bh 1,bh 1⟩
 |cons b u a=>
  rw[List.foldr_cons]
  cases b
  ·exact ⟨a.1,cG a.1 (gw _ _)⟩
  ·exact ⟨cG a.1 (gw _ _),a.2⟩
theorem Xr {u:List Bool} {j:Nat} {b:Bool} (h:u[j]?=I b):bg (u.drop j)=o_ b (bg (u.drop (j+1))):=by
 have a:=(hh.mp h)
 rw[Ru a.1,a.2]
 rfl
end Mine
end
noncomputable section
open PySem PySem.W PyProof.Rows PySem.Calls PySem.Spec PySem.SeqAt
namespace Mine
structure gU where
 be:List U
 z:U
 ef:List U
 le:U
def leB (F:gU):aA:=G? F.be F.z F.ef F.le
def agd:Option (List U)→aA
 |none=>[]
 |some l=>[(S "sides",.own l)]
def oM (F:gU) (T:U) (s:Option (List U)) (v:U):aA:=leB F++([(S "total",.val T),(S "m",.val v)]++agd s)
def acZ:Option (U×List U)→aA
 |none=>[]
 |some x=>[(S "m",.val x.1),(S "sides",.own x.2)]
def oY (F:gU) (o:Option (U×List U)) (v:U):aA:=leB F++([(S "total",.val v)]++acZ o)
def sk:List cK:=jR (b3 25)
def wU:List cK:=jR (a6 sk 0)
def qz:Expr:=valueOf (a6 wU 0)
def o9:Scope:=fj qz
theorem agM (T M a b:Int) (s:Option (List U)) (J:b? .Mult (.int M) (.int b)=I (.int (M*b))) (aa:b? .Mult (.int (T-M)) (.int a)=I (.int ((T-M)*a))) (n:Nat):
  ev (n+31) ⟨bq,7,o9⟩ (ff qz) (((bb H (oM F (.int T) s (.int M))).hide (Scope.dq o9)).set (S "light") (.val (.list [.int a,.int b]))) w=I (.int (M*b-(T-M)*a),w):=by
 induction s using d5<;>exact tM [.go,aM J,.go,.go,aM aa,.go]
theorem aak (T M A B P:Int) (s:Option (List U)) {b:Bool} (ag: ∀n,d! (n+50) ⟨bq,7,o9⟩ (ff qz) (jj qz) [] [H.hJ,H.c1] ((bb H (oM F (.int T) s (.int M))).hide (Scope.dq o9)) w=I ([.int A,.int B],w)) (aC:b? .Mult (.int A) (.int B)=I (.int P)) (ae:e_ .LtE (.int P) (.int 0)=I b) (he:hs (.list [.int M,.int (T-M)]) F.le=I b) (n:Nat):
  cw (n+100) cb wU (bb H (oM F (.int T) s (.int M))) w=I (.next,bb H (oM F (.int T) (I [.int A,.int B]) (.int M)),w):=by
 induction s using d5<;>induction b using d1<;>exact jy [.go,q3 (@ag (n+46)),.go,.go,aM aC,cE ae,.go,cE he,.go]
theorem aeB (T:U) (o a:Option (U×List U)) (items:List U) (b8:l_ [.int 1,T]=I items) (b: ∀n,forL (n+150) cb (gf (a6 sk 0)) wU items (bb H (oY F o T)) w=I (.next,bb H (oY F a T),w)) (n:Nat):
  cw (n+200) cb sk (bb H (oY F o T)) w=I (.next,bb H (oY F a T),w):=by
 induction o using d5<;>exact jy [oA b8,mE (@b (n+48))]
theorem abB (a:Int) (items:List U) (o:Option (U×List U)) (v:U) (au:fO (ao "sum") [F.le]=I (.int a)) (b8:l_ [.int 2,.int (a+1)]=I items) (b: ∀n,forL (n+300) cb (gf (b3 25)) sk items (bb H (leB F)) w=I (.next,bb H (oY F o v),w)) (n:Nat):
  ex (n+400) cb (b3 25) (bb H (leB F)) w=I (.next,bb H (oY F o v),w):=by
 exact cg [aM au,.go,oA b8,mE (@b (n+99))]
theorem adA (h:vU cx.sc f as a=I q):ei (n+1) cx (.Call f as a p) σ w=(ei n cx q σ w).bind λr=>(n5 r.1).bind λl=>I (l,r.2):=by
 show (vU cx.sc f as a).elim _ _=_
 rw[h]
 rfl
theorem adD {gs:List Df} {ifs:List Expr} (h:q0 gs=I (t0,i0,t1,i1,ifs)) (ag:(lH cx.sc a&&(apart2 t0 t1&& !isSet i1))=ab) {items:List U} (aI:fs n ab t0 cx i0 σ w=I (items,w)):
  ei (n+1) cx (.ListComp elt gs a p) σ w=ow (λp=>d2 a t0 p (σ.hide (Scope.dq a))) (fs n aq t1 {cx with sc:=a} i1) (d! n {cx with sc:=a} elt t1 ifs) items 0 w:=by
 show (q0 gs).elim _ _=_
 rw[h]
 show (if (lH cx.sc a&&(apart2 t0 t1&& !isSet i1))=ab then _ else ah)=_
 rw[a_ ag,aI]
 rfl
theorem VI (b1:bt a=I σ1) (b2:bt b=I e) (i1:it σ1 w=I (c,w)) (f:it e w=I (d,w)) (cn:inn c σ1 w=I (fy,w)) (c5:inn d e w=I (ig,w)) (h:c.length+d.length≤1048576):
  ow bt it inn [a,b] 0 w=I (fy++ig,w):=by
 show (bt a).bind (λσ=>_)=_
 rw[b1,pK,i1,pK,a_ (by show 0+c.length≤1048576;exact bE h),cn,pK]
 show ((bt b).bind λσ=>_).bind _=_
 rw[b2,pK,f,pK,a_ (by show 0+c.length+d.length≤1048576;exact bE h),c5,pK]
 show I (fy++(ig++[]),w)=_
 rw[e0]
def ou:Expr:=pC (pC (valueOf (b3 26)))
def hY:Scope:=fj ou
noncomputable def YU:Expr→List Df
 | .ListComp _ gs _ _=>gs
 |_=>[]
def YT (e:Expr):Expr×Expr×Expr×Expr×List Expr:=(q0 (YU e)).getD (e,e,e,e,[])
def hZ:Expr×Expr×Expr×Expr×List Expr:=YT ou
def h8 (F:gU) (t m:U) (sd:List U):aA:=leB F++[(S "total",.val t),(S "m",.val m),(S "sides",.own sd)]
theorem Vk (s:Str) {L:Int} {ak:List U} (J:fO (ao "len") [.str s]=I (.int L)) (aa:l_ [.int (L+1)]=I ak) (n:Nat):fs (n+30) aq hZ.2.2.1 ⟨bq,7,hY⟩ hZ.2.2.2.1 (((bb H (h8 F t m sd)).hide (Scope.dq hY)).set (S "one") (.val (.str s))) w=I (ak,w):=by
 exact O_ [aM J,.go,oA aa]
theorem Vl (n:Nat):fs (n+30) ab hZ.1 cb hZ.2.1 (bb H (h8 F t m sd)) w=I ([.str H.iz,.str H.gM],w):=by
 exact O_ []
theorem Vj (s:Str) (k c:U) (h:iO (.str s) k .none .none=I c) (n:Nat):ev (n+31) ⟨bq,7,hY⟩ (ff ou) ((((bb H (h8 F t m sd)).hide (Scope.dq hY)).set (S "one") (.val (.str s))).set (S "k") (.val k)) w=I (c,w):=by
 exact tM [aM h]
def qZ (F:gU) (t m:U) (sd:List U) (c:U):aA:=leB F++[(S "total",.val t),(S "m",.val m),(S "sides",.own sd),(S "closed",.val c)]
theorem abC {c d fy ig cl:List U} (i1: ∀n,fs (n+30) aq hZ.2.2.1 ⟨bq,7,hY⟩ hZ.2.2.2.1 (((bb H (h8 F t m sd)).hide (Scope.dq hY)).set (S "one") (.val (.str H.iz))) w=I (c,w)) (j: ∀n,fs (n+30) aq hZ.2.2.1 ⟨bq,7,hY⟩ hZ.2.2.2.1 (((bb H (h8 F t m sd)).hide (Scope.dq hY)).set (S "one") (.val (.str H.gM))) w=I (d,w))
  (cn: ∀n,d! (n+60) ⟨bq,7,hY⟩ (ff ou) hZ.2.2.1 [] c (((bb H (h8 F t m sd)).hide (Scope.dq hY)).set (S "one") (.val (.str H.iz))) w=I (fy,w)) (c5: ∀n,d! (n+60) ⟨bq,7,hY⟩ (ff ou) hZ.2.2.1 [] d (((bb H (h8 F t m sd)).hide (Scope.dq hY)).set (S "one") (.val (.str H.gM))) w=I (ig,w)) (h:c.length+d.length≤1048576)
  (au:n5 (fy++ig)=I cl) (n:Nat):ex (n+100) cb (b3 26) (bb H (h8 F t m sd)) w=I (.next,bb H (qZ F t m sd (.list cl)),w):=by
 have bH:(bb H (h8 F t m sd)).freeze (cf 30 ab (valueOf (b3 26)))=bb H (h8 F t m sd):=aY
 have f:=XQ (cx:=cb) (σ:=bb H (h8 F t m sd)) (w:=w) (n:=n+98) (st:=b3 26) (x:=S "closed") aY aY aY
 rw[f,bH]
 have s: ∀m σ,ev (m+1) cb (valueOf (b3 26)) σ w=bD (ei m cb (valueOf (b3 26)) σ w) λr=>I (.list r.1,r.2):=λm σ=>aY
 have e:ev (n+98) cb (valueOf (b3 26)) (bb H (h8 F t m sd)) w=_:=s (n+97) (bb H (h8 F t m sd))
 rw[e]
 have g:ei (n+97) cb (valueOf (b3 26)) (bb H (h8 F t m sd)) w=_:=adA (n:=n+96) (q:=ou) aY
 rw[g]
 have i:ei (n+96) cb ou (bb H (h8 F t m sd)) w=_:=adD (n:=n+95) (cx:=cb) (t0:=hZ.1) (i0:=hZ.2.1) (t1:=hZ.2.2.1) (i1:=hZ.2.2.2.1) (ifs:=[]) aY aY (Vl (n+65))
 rw[i]
 have k:=VI (w:=w) (a:= .str H.iz) (b:= .str H.gM) (bt:=λp=>d2 hY hZ.1 p ((bb H (h8 F t m sd)).hide (Scope.dq hY))) (it:=fs (n+95) aq hZ.2.2.1 ⟨bq,7,hY⟩ hZ.2.2.2.1) (inn:=d! (n+95) ⟨bq,7,hY⟩ (ff ou) hZ.2.2.1 []) aY aY (i1 (n+65)) (j (n+65)) (cn (n+35)) (c5 (n+35)) h
 refine Ja (aQ (λo:Option (List U×W)=>(((o.bind λr=>(n5 r.1).bind λl=>I (l,r.2)).bind λr=>I (U.list r.1,r.2)).bind λr=>I (fx.next,(bb H (h8 F t m sd)).set (S "closed") (.val r.1),r.2))) k) ?_
 show (((n5 (fy++ig)).bind λl=>I (l,w)).bind λr=>I (U.list r.1,r.2)).bind _=_
 rw[au]
 kernel_rfl
structure gx where
 nm:U
 lb:U
 Ir:U
 ne:U
 sE:U
def Fu (f:gx):aA:=[(S "name",.val f.nm),(S "parts",.val f.lb),(S "turn",.val f.Ir),(S "near",.val f.ne),(S "far",.val f.sE)]
def Hz:Option (U×Option U)→aA
 |none=>[]
 |some (o,ah)=>[(S "one",.val o)]
 |some (o,I d)=>[(S "one",.val o),(S "due",.val d)]
def Iv:Option (U×Option U)→aA
 |none=>[]
 |some (o,ah)=>[(S "_",.val o)]
 |some (o,I d)=>[(S "_",.val o),(S "k",.val d)]
inductive eL where
 |z (o:Option (U×Option U))
 |e! (f:gx) (od:Option (U×Option U))
 |cP (u k:U) (f:gx) (od:Option (U×Option U))
 |d4 (f:gx) (o d:U) (u:U) (k:Option U)
def agH:eL→aA
 | .z o=>Iv o
 | .e! f od=>Fu f++Hz od
 | .cP u k f od=>Iv (I (u,I k))++(Fu f++Hz od)
 | .d4 f o d u k=>Fu f++(Hz (I (o,I d))++Iv (I (u,k)))
theorem o6 {P:eL→Prop} (a1:P (.z ah)) (a2: ∀u,P (.z (I (u,ah)))) (gV: ∀u k,P (.z (I (u,I k)))) (b1: ∀f,P (.e! f ah)) (b2: ∀f o,P (.e! f (I (o,ah)))) (e: ∀f o d,P (.e! f (I (o,I d)))) (cn: ∀u k f,P (.cP u k f ah)) (c5: ∀u k f o,P (.cP u k f (I (o,ah)))) (c: ∀u k f o d,P (.cP u k f (I (o,I d)))) (b: ∀f o d u,P (.d4 f o d u ah)) (a: ∀f o d u k,P (.d4 f o d u (I k))) (s:eL):P s:=by
 rcases s with (_|⟨_,_|_⟩)|⟨_,_|⟨_,_|_⟩⟩|⟨_,_,_,_|⟨_,_|_⟩⟩|⟨_,_,_,_,_|_⟩<;>apply_assumption
noncomputable def eL.jz:eL→U→eL
 | .z ah,v=> .z (I (v,ah))
 | .z (I (_,k)),v=> .z (I (v,k))
 | .e! f (I (o,I d)),v=> .d4 f o d v ah
 | .e! f od,v=> .e! f od
 | .cP _ k f od,v=> .cP v k f od
 | .d4 f o d _ k,v=> .d4 f o d v k
noncomputable def eL.tO:eL→U→eL
 | .z (I (v,_)),k=> .z (I (v,I k))
 | .z ah,_=> .z ah
 | .e! f od,v=> .e! f od
 | .cP v _ f od,k=> .cP v k f od
 | .d4 f o d v _,k=> .d4 f o d v (I k)
noncomputable def eL.mT:eL→Bool
 | .e! _ ah=>aq
 | .e! _ (I (_,ah))=>aq
 |_=>ab
noncomputable def eL.qt:eL→Bool
 | .z (I (_,ah))=>aq
 | .d4 _ _ _ _ ah=>aq
 |_=>ab
def dR (F:gU) (t m:U) (sd:List U) (c nv:U) (eu:List U) (s:eL):aA:=qZ F t m sd c++([(S "n",.val nv),(S "euclid",.own eu)]++agH s)
def Hx (F:gU) (t m:U) (sd:List U) (c nv:U):aA:=qZ F t m sd c++[(S "n",.val nv)]
def hV:List cK:=jR (b3 27)
def Ab:List cK:=jR (a6 hV 1)
def tI:List cK:=jR (a6 hV 2)
def Bo:List cK:=jR (a6 tI 0)
theorem Xn (x:U) (h:dM (.list [H.hJ,H.c1]) nv=I x) (n:Nat):ex (n+100) cb (a6 hV 0) (bb H (Hx F t m sd c nv)) w=I (.next,bb H (dR F t m sd c nv [x] (.z ah)),w):=by
 exact cg [aM h]
theorem Xk (x:U) (h:dM (.list [H.hJ,H.c1]) nv=I x) (s:eL) (au: ∀o,s≠ .z o) (a:s.mT=ab) (av:s.qt=ab) (n:Nat):ex (n+100) cb (a6 hV 0) (bb H (dR F t m sd c nv eu s)) w=I (.next,bb H (dR F t m sd c nv [x] s),w):=by
 induction s using o6<;>first|(exact bF a cv;done)|(exact bF av cv;done)|exact (au _ rfl).elim|exact cg [aM h]
theorem Xq (s:eL) (h:dM (.list [.str H.iz,.str H.gM]) nv=I (.str x)) (a: ∀n,forL (n+100) cb (gf (a6 hV 1)) Ab (x.cps.toList.map λc=> .str ⟨#[c]⟩) (bb H (dR F t m sd c nv eu s)) w=I (.next,σ',w)) (n:Nat):ex (n+150) cb (a6 hV 1) (bb H (dR F t m sd c nv eu s)) w=I (.next,σ',w):=by
 induction s using o6<;>exact cg [aM h,mE (@a (n+49))]
noncomputable def PG (b:Bool) (x y:Int):U:=if b then .list [.int (x-y),.int y] else .list [.int x,.int (y-x)]
theorem Xl (a:eu.length≤1048576) (J:dM (.list eu) (.int (-1))=I (.list [.int x,.int y])) (aa:e_ .Gt (.int x) (.int y)=I b) (s:eL) (v:U) (au:s.mT=ab) (n:Nat):
  cw (n+50) cb Ab (bb H (dR F t m sd c nv eu (s.jz v))) w=I (.next,bb H (dR F t (.int x) sd c nv (eu++[PG b x y]) ((s.jz v).tO (.int y))),w):=by
 induction b using d1<;>induction s using o6<;>first|(exact bF au cv;done)|exact jy [.go,aM J,cE aa,.go,.p _ a]
inductive dF where
 |e! (od:Option (U×Option U))
 |cP (u k:U) (od:Option (U×Option U))
 |d4 (o d u:U) (k:Option U)
theorem kG {P:dF→Prop} (a1:P (.e! ah)) (a2: ∀o,P (.e! (I (o,ah)))) (gV: ∀o d,P (.e! (I (o,I d)))) (b1: ∀u k,P (.cP u k ah)) (b2: ∀u k o,P (.cP u k (I (o,ah)))) (a: ∀u k o d,P (.cP u k (I (o,I d)))) (cn: ∀o d u,P (.d4 o d u ah)) (c5: ∀o d u k,P (.d4 o d u (I k))) (s:dF):P s:=by
 rcases s with (_|⟨_,_|_⟩)|⟨_,_,_|⟨_,_|_⟩⟩|⟨_,_,_,_|_⟩<;>apply_assumption
noncomputable def dF.ef:dF→gx→eL
 | .e! od,f=> .e! f od
 | .cP u k od,f=> .cP u k f od
 | .d4 o d u k,f=> .d4 f o d u k
noncomputable def Ot:Option (U×Option U)→U→Option (U×Option U)
 |none,v=>I (v,ah)
 |some (_,d),v=>I (v,d)
noncomputable def Oq:Option (U×Option U)→U→Option (U×Option U)
 |none,_=>ah
 |some (o,_),d=>I (o,I d)
def dF.ki:dF→U→dF
 | .e! od,v=> .e! (Ot od v)
 | .cP u k od,v=> .cP u k (Ot od v)
 | .d4 _ d u k,v=> .d4 v d u k
def dF.tN:dF→U→dF
 | .e! od,v=> .e! (Oq od v)
 | .cP u k od,v=> .cP u k (Oq od v)
 | .d4 o _ u k,v=> .d4 o v u k
def fY (l:Nat×Nat):U:= .list [aT l.1,aT l.2]
noncomputable def eL.B8:eL→Bool
 | .z (I (_,I _))=>ab
 | .cP .. =>ab
 | .d4 _ _ _ _ (I _)=>ab
 |_=>aq
noncomputable def eL.qe:eL→Bool
 | .z _=>ab
 |_=>aq
theorem agz (s:eL) (h:s.mT=ab) (v y:U):((s.jz v).tO y).B8=ab∧((s.jz v).tO y).mT=ab∧((s.jz v).tO y).qe=s.qe∧((s.jz v).tO y).jz v=(s.jz v).tO y:=by
 induction s using o6<;>first|exact ⟨rfl,rfl,rfl,rfl⟩|exact bF h cv
theorem agB (s:eL) (h:s.B8=ab) (v:U):(s.jz v).B8=ab∧(s.jz v).mT=ab∧(s.jz v).qt=ab∧(s.jz v).qe=s.qe:=by
 induction s using o6<;>first|exact ⟨rfl,rfl,rfl,rfl⟩|exact bF h cv
theorem Xo (m v u:U) (eu:List U) (s:eL) (h:s.mT=ab):(bb H (dR F t m sd c nv eu (s.jz v))).set (S "_") (.val u)=bb H (dR F t m sd c nv eu (s.jz u)):=by
 induction s using o6<;>first|(exact bF h cv;done)|kernel_rfl
theorem Xp (m u:U) (eu:List U) (s:eL) (h:s.mT=ab):(bb H (dR F t m sd c nv eu s)).set (S "_") (.val u)=bb H (dR F t m sd c nv eu (s.jz u)):=by
 induction s using o6<;>first|(exact bF h cv;done)|kernel_rfl
def eS (u:List Bool) (j:Nat):List U:=(eB (j+1)).map λi=>fY (bg (u.drop i))
theorem Xi (u:List Bool) (j:Nat):(eS u j).getLast?=I (fY (bg (u.drop j))):=by
 unfold eS
 rw[SI,kR,List.getLast?_append]
 rfl
theorem Xj (u:List Bool) (j:Nat):eS u (j+1)=eS u j++[fY (bg (u.drop (j+1)))]:=by
 unfold eS
 rw[SI,kR]
 rfl
theorem Ln (u:List Bool) (j:Nat):(eS u j).length=j+1:=by
 unfold eS
 rw[df,jE]
theorem ahz {u:List Bool} (h:j<u.length): ∃b,e_ .Gt (.int ((bg (u.drop j)).1:Nat)) (.int ((bg (u.drop j)).2:Nat))=I b∧PG b ((bg (u.drop j)).1:Nat) ((bg (u.drop j)).2:Nat)=fY (bg (u.drop (j+1))):=by
 have e:=Xr (u:=u) (j:=j) (ly h)
 have aC:=NG (u.drop (j+1))
 rw[e]
 generalize bg (u.drop (j+1))=l at aC⊢
 obtain ⟨x,y⟩:=l
 generalize u[j]=b
 refine ⟨b,?_,?_⟩
 ·cases b
  ·show I (decide ((((x+y:Nat):Int))<((x:Nat):Int)))=I aq
   exact aQ I (f5 (uo.mpr (j5.mpr (gw _ _))))
  ·show I (decide (((y:Nat):Int)<((x+y:Nat):Int)))=I ab
   exact aQ I (e1 (lC.mpr (Nat.lt_add_of_pos_left aC.1)))
 ·cases b
  ·show U.list [.int ((x:Nat):Int),.int (((x+y:Nat):Int)-((x:Nat):Int))]=U.list [.int (x:Nat),.int (y:Nat)]
   rw[show (((x+y:Nat):Int)-((x:Nat):Int))=((y:Nat):Int) from by rw[mu,ph,DG]]
  ·show U.list [.int (((x+y:Nat):Int)-((y:Nat):Int)),.int ((y:Nat):Int)]=U.list [.int (x:Nat),.int (y:Nat)]
   rw[show (((x+y:Nat):Int)-((y:Nat):Int))=((x:Nat):Int) from by rw[mu,DG]]
abbrev SV (H:ko) (F:gU) (w:W) (t c nv:U) (sd:List U) (k:Nat) (u:List Bool) (m:U) (s:eL):Prop:= ∃a s',s'.mT=ab∧s'.qt=ab∧s'.qe=s.qe∧
  ∀n,forL (n+100) cb (gf (a6 hV 1)) Ab ((cR k u).map λc=> .str ⟨#[c]⟩) (bb H (dR F t m sd c nv [fY (bg u)] s)) w=I (.next,bb H (dR F t a sd c nv (eS u u.length) s'),w)
theorem Xm {k:Nat} {u:List Bool} (b0:u.length≤4) (m:U) (s:eL) (J:s.mT=ab) (aa:s.qt=ab):SV H F w t c nv sd k u m s:=by
 by_cases el:u=[]
 ·subst el
  exact ⟨m,s,J,aa,rfl,λn=>rfl⟩
 ·have o:u≠[]:=el
  have a:((cR k u).map λc=>U.str ⟨#[c]⟩).length=u.length:=by rw[df,yQ]
  obtain ⟨q,v,g,hf⟩:=Az (cx:=cb) (w:=w) (σ:=bb H (dR F t m sd c nv [fY (bg u)] s)) (x:=S "_") (tgt:=gf (a6 hV 1)) (body:=Ab) (items:=(cR k u).map λc=>U.str ⟨#[c]⟩) (St:={q:U×List U×eL//q.2.2.mT=ab}) (B:=λq v=>bb H (dR F t q.1.1 sd c nv q.1.2.1 (q.1.2.2.jz v))) (P:=λj q=>q.1.2.1=eS u j∧q.1.2.2.qe=s.qe∧(0<j→q.1.2.2.B8=ab)) (s0:=⟨(m,[fY (bg u)],s),J⟩) (c:=50) (N:=100)
   (λv σ=>aY) (λq v z=>Xo _ _ _ _ _ q.2) (λv=>Xp _ _ _ _ J) ⟨rfl,rfl,λh=>bF h (lz 0)⟩ (by rw[←zj,a];exact zj.mpr o) (by rw[a];exact bE b0)
   (λj p q aC ⟨e,A,Q⟩=>by
    have i:j<u.length:=by rw[←a];exact (hh.mp aC).1
    obtain ⟨⟨b4,y,s1⟩,l⟩:=q
    have e:y=eS u j:=e
    subst e
    obtain ⟨b,f⟩:=ahz i
    have cn:=f.1
    have c5:=f.2
    have d:=agz s1 l p (.int ((bg (u.drop j)).2:Nat))
    have cP:=d.1
    have d4:=d.2.1
    have vo:=d.2.2.1
    have oV:=d.2.2.2
    refine ⟨⟨(.int ((bg (u.drop j)).1:Nat),eS u (j+1),(s1.jz p).tO (.int ((bg (u.drop j)).2:Nat))),d4⟩,.next,⟨rfl,vo.trans A,λZ=>cP⟩,.inl rfl,λn=> ?_⟩
    have:=Xl (H:=H) (F:=F) (w:=w) (t:=t) (m:=b4) (c:=c) (nv:=nv) (sd:=sd) (eu:=eS u j) (by rw[Ln];exact bE (cc b0 (e8 i))) (GD (Xi u j)) cn s1 p l n
    rw[this,c5,←Xj]
    rw[oV])
  rw[a] at g
  obtain ⟨⟨D,r,s'⟩,R⟩:=q
  obtain ⟨c!,dT,M⟩:=g
  have c!:r=eS u u.length:=c!
  subst c!
  obtain ⟨O,C,E,L⟩:=agB s' (M (zj.mpr o)) v
  exact ⟨D,s'.jz v,C,E,L.trans dT,hf⟩
theorem afW (s:dF) (f:gx) (a: ∀n,forL (n+320) cb (gf (a6 tI 0)) Bo cl (bb H (dR F t m sd (.list cl) nv eu (s.ef f))) w=I (.next,σ',w)) (n:Nat):cw (n+350) cb tI (bb H (dR F t m sd (.list cl) nv eu (s.ef f))) w=I (.next,σ',w):=by
 induction s using kG<;>exact jy [mE (@a (n+28))]
theorem afY (s:eL) (a: ∀n,forL (n+370) cb (gf (a6 hV 2)) tI H.R (bb H (dR F t m sd c nv eu s)) w=I (.next,σ',w)) (n:Nat):ex (n+400) cb (a6 hV 2) (bb H (dR F t m sd c nv eu s)) w=I (.next,σ',w):=by
 induction s using o6<;>exact cg [mE (@a (n+29))]
theorem abD (a: ∀n,forL (n+450) cb (gf (b3 27)) hV [.int (0:Nat),.int (1:Nat)] (bb H (qZ F t m sd c)) w=I (.next,σ',w)) (n:Nat):ex (n+500) cb (b3 27) (bb H (qZ F t m sd c)) w=I (.next,σ',w):=by
 exact cg [.go,mE (@a (n+49))]
noncomputable def gx.eX (f:gx):U:= .list [f.nm,f.lb,f.Ir,f.ne,f.sE]
noncomputable def dF.Ow:eL→Option dF
 | .z ah=>I (.e! ah)
 | .z (I (u,I k))=>I (.cP u k ah)
 | .z (I (u,ah))=>ah
 | .e! _ od=>I (.e! od)
 | .cP u k _ od=>I (.cP u k od)
 | .d4 _ o d u k=>I (.d4 o d u k)
theorem afU (s:eL) (s':dF) (h:dF.Ow s=I s') (f:gx):d2 cb.sc (gf (a6 hV 2)) f.eX (bb H (dR F t m sd c nv eu s))=I (bb H (dR F t m sd c nv eu (s'.ef f))):=by
 induction s using o6<;>first|(exact aR h;done)|(injection h with h;subst h;kernel_rfl)
theorem aet (s:dF) (f:gx) (v u:U):(bb H (dR F t m sd c nv eu ((s.ki v).ef f))).set (S "one") (.val u)=bb H (dR F t m sd c nv eu ((s.ki u).ef f)):=by
 induction s using kG<;>kernel_rfl
theorem aeu (s:dF) (f:gx) (u:U):(bb H (dR F t m sd c nv eu (s.ef f))).set (S "one") (.val u)=bb H (dR F t m sd c nv eu ((s.ki u).ef f)):=by
 induction s using kG<;>kernel_rfl
def QQ:dF→Option (U×U)→aA
 |_,ah=>[]
 | .e! _,I (k,p)=>[(S "k",.val k),(S "place",.val p)]
 | .cP ..,I (_,p)=>[(S "place",.val p)]
 | .d4 ..,I (_,p)=>[(S "place",.val p)]
noncomputable def dF.setM:dF→U→dF
 | .e! od,_=> .e! od
 | .cP u _ od,k=> .cP u k od
 | .d4 o d u _,k=> .d4 o d u (I k)
noncomputable def dF.full:dF→Bool
 | .e! (I (_,I _))=>ab
 | .cP _ _ (I (_,I _))=>ab
 | .d4 _ _ _ (I _)=>ab
 |_=>aq
def me (F:gU) (t m:U) (sd:List U) (c nv:U) (eu:List U) (s:dF) (f:gx) (o:Option (U×U)):aA:=dR F t m sd c nv eu (s.ef f)++QQ s o
def zT:List cK:=jR (b3 28)
theorem aeV (s:dF) (au:s.full=ab) (f:gx) (o:Option (U×U)) {a b j e g h i A:Int} {g0 c! dT P:U} (r:dM H.V.gr (.int 0)=I g0) (q: ∀n,b' (n+100) ⟨bq,7,(aE 22).scope⟩ (aE 15) [f.nm,g0] w=I (.list [.int a,.int b],w))
  (b4:b? .Mult H.V.pY (.int (a+b))=I c!) (u:b? .Mult H.V.h7 (.int b)=I dT) (BR:b? .Add c! dT=I (.int j)) (Hc:b? .Mult (.int 6) (.int (a+b))=I (.int e)) (v:b? .Mod (.int j) (.int e)=I (.int g))
  (aC: ∀n,b' (n+80) ⟨bq,7,(aE 22).scope⟩ (aE 16) [.list [.int a,.int b],.list H.dS,H.V.a!] w=I (P,w)) (l:hs f.lb P=I ab) (k:b? .Mult f.Ir (.int 6)=I (.int h)) (d:b? .Mult (.int h) (.int (a+b))=I (.int i))
  (aJ:fO (ao "abs") [.int (i-g*1099511627776)]=I (.int A)) (cn:e_ .Gt (.int A) (.int e)=I aq) (ae: ∀n,b' (n+200) ⟨bq,7,(aE 22).scope⟩ (aE 20) [f.lb] w=I (.list [f.lb,f.lb],w)) (p:hs (.list [f.lb,f.lb]) (.list [f.lb,f.lb])=I ab) (n:Nat):
  cw (n+300) cb zT (bb H (me F t m sd c nv eu s f o)) w=I (.next,bb H (me F t (.int a) sd c nv eu (s.setM (.int b)) f (I (.int b,.int (g*1099511627776)))),w):=by
 induction s using kG<;>first|(exact bF au cv;done)|(rcases o with _|⟨_,_⟩<;>exact jy [aM r,cZ (@q (n+197)),.go,aM b4,aM u,aM BR,.go,aM Hc,aM v,.go,cZ (@aC (n+210)),cE (eq_not l),aM k,.go,aM d,.go,aM aJ,.go,aM Hc,cE cn,cZ (@ae (n+92)),cE (eq_not p)])
theorem aeT (s:dF) (au:s.full=ab) (f0 f:gx) (o:Option (U×U)):d2 cb.sc (gf (b3 28)) f.eX (bb H (me F t m sd c nv eu s f0 o))=I (bb H (me F t m sd c nv eu s f o)):=by
 induction s using kG<;>first|(exact bF au cv;done)|(rcases o with _|⟨_,_⟩<;>kernel_rfl)
theorem aeX (s:dF) (au:s.full=ab) (f:gx) (a: ∀n,forL (n+320) cb (gf (b3 28)) zT H.R (bb H (me F t m sd c nv eu s f ah)) w=I (.next,σ',w)) (n:Nat):ex (n+350) cb (b3 28) (bb H (me F t m sd c nv eu s f ah)) w=I (.next,σ',w):=by
 induction s using kG<;>first|(exact bF au cv;done)|exact cg [mE (@a (n+29))]
theorem abE (σ:aA): ∃σ',∀n,ex (n+10) cb (b3 29) σ w=I (.ret (.bool ab),σ',w):=⟨σ.freeze (cf 30 ab (valueOf (b3 29))),λn=>aY⟩
theorem Wt (s:dF) (f:gx) (v:U) {b1 b2 a:Bool} {iy wd g0 L N E x y:U} (au:dM (.list [H.s0,H.s1]) nv=I iy) (hw:dM (.list [.str H.iz,.str H.gM]) nv=I wd) (e:dM H.V.gr (.int 0)=I g0) (cn:e_ .Lt f.ne iy=I b1) (c5:e_ .Lt iy f.sE=I b2)
  (d: ∀n,b' (n+100) ⟨bq,7,(aE 22).scope⟩ (aE 15) [v,g0] w=I (L,w)) (a5:fO (ao "len") [f.nm]=I N) (he:iO (.list eu) N .none .none=I E) (aI:kK L E=I a) (a1:b? .Add f.nm (.str (ao "..."))=I x) (a2:b? .Add x v=I y)
  (b: ∀n,b' (n+200) ⟨bq,7,(aE 22).scope⟩ (aE 11) [y,wd] w=I (.bool (b1&&(b2&&a)),w)) (n:Nat):
  cw (n+300) cb Bo (bb H (dR F t m sd c nv eu ((s.ki v).ef f))) w=I (.next,bb H (dR F t m sd c nv eu (((s.ki v).tN (.bool (b1&&(b2&&a)))).ef f)),w):=by
 cases b1
 ·induction s using kG<;>exact jy [aM au,cE cn,aM a1,aM a2,aM hw,cZ (@b (n+94)),.go]
 cases b2
 ·induction s using kG<;>exact jy [aM au,cE cn,cE c5,aM a1,aM a2,aM hw,cZ (@b (n+94)),.go]
 induction a using d1<;>induction s using kG<;>exact jy [aM au,cE cn,cE c5,aM e,cZ (@d (n+191)),aM a5,aM he,cE aI,aM a1,aM a2,aM hw,cZ (@b (n+94)),.go]
theorem K?:Enc fY (λp=>PyData.list ([p.1,p.2].map λ(n:Nat)=>PyData.int n)) (λZ=>True) 1 where
 toD p _:=rfl
 lay p _:=w_.list.lay [p.1,p.2] (λZ Z=>trivial)
 dep p _:=w_.list.dep [p.1,p.2] (λZ Z=>trivial)
 eqv p q _ _:=by
  rw[w_.list.eqv [p.1,p.2] [q.1,q.2] (λZ Z=>trivial) (λZ Z=>trivial)]
  refine decide_eq_decide.mpr ⟨λh=> ?_,λh=>by rw[h]⟩
  injection h with J aa
  injection aa with aa _
  exact Prod.ext J aa
theorem KS (a b:Nat):e_ .Lt (aT a) (aT b)=I (decide (a<b)):=aQ I (decide_eq_decide.mpr (by show ((a:Int)<(b:Int))↔_;exact lC))
def c9.k4 (C:c9) (x:List Bool):gx:=⟨.str (wS C.k x),C.gL (bg x),aT (e9 C.s C.a! (bg x)),aT (C.fk (C.ea x).1.2),aT (C.fk (C.ea x).2.2)⟩
theorem c9.O' (C:c9) (x:List Bool):C.row x=(C.k4 x).eX:=rfl
structure pn (C:c9) (H:ko):Prop where
 iz:H.iz=wS C.k C.u
 gM:H.gM=wS C.k C.v
 gr:H.V.gr=tQ C.k
 hJ:H.hJ=fY (bg C.u)
 c1:H.c1=fY (bg C.v)
 s0:H.s0=aT (C.fk (bg C.u))
 s1:H.s1=aT (C.fk (bg C.v))
 R:H.R=(C.B C.N).map C.row
def c9.cl (C:c9):List U:=(uI C.k C.u C.v).map .str
noncomputable def c9.wd (C:c9) (i:Nat):List Bool:=if i=0 then C.u else C.v
theorem c9.QI (C:c9) (i:Nat):(C.wd i).length≤4:=by
 unfold c9.wd
 split
 ·exact C.b0
 ·exact hP C.aN
theorem pn.at (O:pn C H) {i:Nat} (aI:i<2):dM (.list [H.s0,H.s1]) (.int (i:Nat))=I (aT (C.fk (bg (C.wd i))))∧dM (.list [.str H.iz,.str H.gM]) (.int (i:Nat))=I (.str (wS C.k (C.wd i)))∧dM (.list [H.hJ,H.c1]) (.int (i:Nat))=I (fY (bg (C.wd i))):=by
 rw[O.iz,O.gM,O.hJ,O.c1,O.s0,O.s1]
 induction i,aI using CW
 ·exact ⟨rg (i:=0) rfl ar,rg (i:=0) rfl ar,rg (i:=0) rfl ar⟩
 ·exact ⟨rg (i:=1) rfl ar,rg (i:=1) rfl ar,rg (i:=1) rfl ar⟩
theorem Xh (u:List Bool):eS u u.length=(uR u).map fY:=by
 unfold eS uR
 rw[iD]
 rfl
noncomputable def dF.okN:dF→Bool
 | .d4 _ _ _ ah=>aq
 |_=>ab
noncomputable def dF.good:dF→Bool
 | .e! (I (_,I _))=>ab
 | .cP _ _ (I (_,I _))=>ab
 | .d4 _ _ _ (I _)=>ab
 |_=>aq
theorem ad9 (s:dF) (h:s.okN=ab) (v d:U):((s.ki v).tN d).good=ab∧((s.ki v).tN d).okN=ab∧((s.ki v).tN d).ki v=(s.ki v).tN d:=by
 induction s using kG<;>first|exact ⟨rfl,rfl,rfl⟩|exact bF h cv
theorem aea (s:dF) (h:s.good=ab) (v:U):(s.ki v).good=true:=by
 induction s using kG<;>first|rfl|exact bF h cv
theorem Oo (s:dF) (h:s.good=ab) (f:gx):(s.ef f).mT=ab∧(s.ef f).qt=ab∧(s.ef f).qe=false:=by
 induction s using kG<;>first|exact ⟨rfl,rfl,rfl⟩|exact bF h cv
theorem agA (s:eL) (h:s.qt=ab): ∃s',dF.Ow s=I s'∧s'.okN=true:=by
 induction s using o6<;>first|exact ⟨_,rfl,rfl⟩|exact bF h cv
section
variable (O:pn C H) {F:gU} {w:W} {t m:U} {sd:List U}
include O
theorem aes (aI:i<2) {x y:List Bool} (af:x.length≤4) (a9:y.length≤4) (s:dF): ∃d:U,∀n,cw (n+300) cb Bo (bb H (dR F t m sd (.list C.cl) (.int (i:Nat)) (eS (C.wd i) (C.wd i).length) ((s.ki (.str (wS C.k y))).ef (C.k4 x)))) w=I (.next,bb H (dR F t m sd (.list C.cl) (.int (i:Nat)) (eS (C.wd i) (C.wd i).length) (((s.ki (.str (wS C.k y))).tN d).ef (C.k4 x))),w):=by
 obtain ⟨h,g,p⟩:=O.at aI
 have bH:=C.QI i
 generalize C.wd i=z at h g p bH⊢
 have gM:=(Ii C.au C.hw af bH).all
 rw[C.AH] at gM
 have gM:(decide (C.fk (C.ea x).1.2<C.fk (bg z))&&decide (C.fk (bg z)<C.fk (C.ea x).2.2))=h6 x z:=gM
 have j:=Wv a9 bH af
 obtain ⟨cn,c5,b⟩:=ai0 (k:=C.k) af a9
 have a1:=b.1
 have a2:=b.2.1
 have gV:=b.2.2
 have f:=λn=>E6 C.av af a9 bH gV (sc:=(aE 22).scope) (w:=w) n
 have e:xh x y z=(decide (C.fk (C.ea x).1.2<C.fk (bg z))&&(decide (C.fk (bg z)<C.fk (C.ea x).2.2)&&decide (bg y∈(uR z).drop x.length))):=by
  rw[←Bool.and_assoc,gM,j]
  rfl
 rw[e] at f
 have r:kK (fY (bg y)) (.list ((eS z z.length).drop x.length))=I (decide (bg y∈(uR z).drop x.length)):=by
  rw[Xh,←SF]
  exact (K?.isIn ar trivial λZ Z=>trivial).trans (aQ I (decide_eq_decide.mpr Iff.rfl))
 have o:(eS z z.length).length=z.length+1:=Ln z z.length
 have q:iO (.list (eS z z.length)) (.int (x.length:Nat)) .none .none=I (.list ((eS z z.length).drop x.length)):=by
  have:=slice_list (l:=eS z z.length) (I x.length) ah (by exact bE (cc bH (dH o)))
  rw[show vA (I x.length)= .int (x.length:Nat) from rfl,show vA ah= .none from rfl] at this
  rw[this]
  congr 2
  rw[rV (by rw[pf];exact bh _)]
  rfl
 have a:fO (ao "len") [.str (wS C.k x)]=I (.int (x.length:Nat)):=by
  rw[qX (by rw[h_];exact cW af rfl),h_]
 exact ⟨_,λn=>Wt (H:=H) (F:=F) (w:=w) (t:=t) (m:=m) (sd:=sd) (c:= .list C.cl) s (C.k4 x) (.str (wS C.k y)) (g0:= .str (cI (sgn C.k).1)) (L:=fY (bg y)) h g (by rw[O.gr];exact (aY:dM (.tup [.str (cI (sgn C.k).1),.str (cI (sgn C.k).2)]) (.int 0)=_)) (KS _ _) (KS _ _) (λn=>x4 C.av a9 (d:=6) (n:=n)) a q r a1 a2 f n⟩
abbrev S7 (C:c9) (H:ko) (F:gU) (w:W) (t m:U) (sd:List U) (i:Nat) (x:List Bool) (s:dF):Prop:= ∃s':dF,s'.good=ab∧ ∀n,cw (n+350) cb tI (bb H (dR F t m sd (.list C.cl) (.int (i:Nat)) (eS (C.wd i) (C.wd i).length) (s.ef (C.k4 x)))) w=I (.next,bb H (dR F t m sd (.list C.cl) (.int (i:Nat)) (eS (C.wd i) (C.wd i).length) (s'.ef (C.k4 x))),w)
theorem aev (aI:i<2) {x:List Bool} (af:x.length≤4) (s:dF) (au:s.okN=ab):S7 C H F w t m sd i x s:=by
 have f:C.cl.length≤10:=by
  unfold c9.cl
  rw[df]
  exact Vm C.b0 (hP C.aN)
 have el:C.cl≠[]:=λz=>Vo (Sn.mp z)
 obtain ⟨q,v,b,hf⟩:=Az (cx:=cb) (w:=w) (σ:=bb H (dR F t m sd (.list C.cl) (.int (i:Nat)) (eS (C.wd i) (C.wd i).length) (s.ef (C.k4 x)))) (x:=S "one") (tgt:=gf (a6 tI 0)) (body:=Bo) (items:=C.cl) (St:=dF) (B:=λq v=>bb H (dR F t m sd (.list C.cl) (.int (i:Nat)) (eS (C.wd i) (C.wd i).length) ((q.ki v).ef (C.k4 x)))) (P:=λj q=>q.okN=ab∧(0<j→q.good=ab)) (s0:=s) (c:=300) (N:=320)
  (λv σ=>aY) (λq v z=>aet _ _ _ _) (λv=>aeu _ _ _) ⟨au,λh=>bF h (lz 0)⟩ el (by exact bE f)
  (λj p q aC ⟨e,u⟩=>by
   have hm:=ia aC
   obtain ⟨r,b8,rfl⟩:=hc.mp hm
   obtain ⟨y,a9,rfl⟩:=Vn C.b0 (hP C.aN) b8
   obtain ⟨d,hd⟩:=aes O (F:=F) (w:=w) (t:=t) (m:=m) (sd:=sd) aI af a9 q
   have a:=ad9 q e (.str (wS C.k y)) d
   have g1:=a.1
   have g:=a.2.1
   have l:=a.2.2
   refine ⟨(q.ki (.str (wS C.k y))).tN d,.next,⟨g,λZ=>g1⟩,.inl rfl,λn=> ?_⟩
   rw[hd n,l])
 have o:0<C.cl.length:=zj.mpr el
 exact ⟨q.ki v,aea q (b.2 o) v,afW (H:=H) s (C.k4 x) hf⟩
abbrev Ta (C:c9) (H:ko) (F:gU) (w:W) (t m:U) (sd:List U) (i:Nat) (s:eL):Prop:= ∃(s':dF) (f:gx),s'.good=ab∧ ∀n,ex (n+400) cb (a6 hV 2) (bb H (dR F t m sd (.list C.cl) (.int (i:Nat)) (eS (C.wd i) (C.wd i).length) s)) w=I (.next,bb H (dR F t m sd (.list C.cl) (.int (i:Nat)) (eS (C.wd i) (C.wd i).length) (s'.ef f)),w)
theorem afX (aI:i<2) (s:eL) (au:s.qt=ab):Ta C H F w t m sd i s:=by
 have c:=C.pL
 have b:(C.B C.N).length=C.N:=c.len
 have q:C.N≤8:=c.le
 have u:1≤C.N:=c.one
 have k:H.R.length=C.N:=by rw[O.R,df,b]
 obtain ⟨σ',w',hf,rfl,y,e,av,z⟩:=Fo (cx:=cb) (tgt:=gf (a6 hV 2)) (body:=tI) (Inv:=λj σ w'=>w'=w∧ ∃S:eL,σ=bb H (dR F t m sd (.list C.cl) (.int (i:Nat)) (eS (C.wd i) (C.wd i).length) S)∧S.qt=ab∧(0<j→ ∃(s':dF) (f:gx),s'.good=ab∧S=s'.ef f)) 350 H.R 0 (bb H (dR F t m sd (.list C.cl) (.int (i:Nat)) (eS (C.wd i) (C.wd i).length) s)) w (by
  intro j p σ w' aC a
  obtain ⟨rfl,S,rfl,av,_⟩:=a
  rw[O.R] at aC
  have hm:=ia aC
  obtain ⟨x,r,rfl⟩:=hc.mp hm
  have E:x.length≤4:=c.short x r
  obtain ⟨s1,d⟩:=agA S av
  have A:=d.1
  have v:=d.2
  obtain ⟨s2,g⟩:=aev O (F:=F) (w:=w') (t:=t) (m:=m) (sd:=sd) aI E s1 v
  have l:=g.1
  have D:=g.2
  refine ⟨_,.next,_,w',?_,.inl rfl,D,rfl,_,rfl,(Oo s2 l _).2.1,λZ=>⟨s2,_,l,rfl⟩⟩
  rw[C.O']
  exact afU S s1 A (C.k4 x)) ⟨rfl,s,rfl,au,λh=>bF h (lz 0)⟩
 obtain ⟨s',f,o,rfl⟩:=z (by exact bE (cc u (eq1 k)))
 subst e
 refine ⟨s',f,o,afY (H:=H) s ?_⟩
 exact @fuel _ (λn=>forL n _ _ _ _ _ _) (350+H.R.length+1) 370 _ (λn=>by have:=hf n;rwa [show n+350+H.R.length+1=n+(350+H.R.length+1) by simp+arith only] at this) (by exact bE (cc q (dH k)))
end
theorem Ka:hV=[a6 hV 0,a6 hV 1,a6 hV 2]:=aY
theorem adg:d2 cb.sc (gf (b3 27)) nv (bb H (qZ F t m sd c))=I (bb H (Hx F t m sd c nv)):=aY
theorem adf (s:dF) (f:gx):d2 cb.sc (gf (b3 27)) a (bb H (dR F t m sd c nv eu (s.ef f)))=I (bb H (dR F t m sd c a eu (s.ef f))):=by
 induction s using kG<;>kernel_rfl
section
variable (O:pn C H) {F:gU} {w:W} {t:U} {sd:List U}
include O
abbrev Tj (C:c9) (H:ko) (F:gU) (w:W) (t:U) (sd:List U) (m:U) (i:Nat) (s:eL):Prop:= ∃(a:U) (s':dF) (f:gx),s'.good=ab∧ ∀n,cw (n+409) cb [a6 hV 1,a6 hV 2] (bb H (dR F t m sd (.list C.cl) (.int (i:Nat)) [fY (bg (C.wd i))] s)) w=I (.next,bb H (dR F t a sd (.list C.cl) (.int (i:Nat)) (eS (C.wd i) (C.wd i).length) (s'.ef f)),w)
theorem PX (m:U) {i:Nat} (aI:i<2) (s:eL) (J:s.mT=ab) (aa:s.qt=ab):Tj C H F w t sd m i s:=by
 obtain ⟨j,e,l⟩:=O.at aI
 obtain ⟨b,s',a⟩:=Xm (H:=H) (F:=F) (w:=w) (t:=t) (c:= .list C.cl) (nv:= .int (i:Nat)) (sd:=sd) (k:=C.k) (C.QI i) m s J aa
 have a1:=a.1
 have a2:=a.2.1
 have h:=a.2.2.2
 have t1:=λn=>Xq (H:=H) (F:=F) (w:=w) (t:=t) (m:=m) (c:= .list C.cl) (nv:= .int (i:Nat)) (sd:=sd) s e h n
 obtain ⟨s2,f,d⟩:=afX O (F:=F) (w:=w) (t:=t) (m:=b) (sd:=sd) aI s' a2
 have g:=d.1
 have t2:=d.2
 refine ⟨b,s2,f,g,λn=> ?_⟩
 rw[cN (D:=408) t1 ar,cN (D:=407) t2 ar]
 rfl
abbrev Te (C:c9) (H:ko) (F:gU) (w:W) (t:U) (sd:List U) (m:U):Prop:= ∃(a:U) (s':dF) (f:gx),s'.good=ab∧ ∀n,ex (n+500) cb (b3 27) (bb H (qZ F t m sd (.list C.cl))) w=I (.next,bb H (dR F t a sd (.list C.cl) (.int (1:Nat)) (eS C.v C.v.length) (s'.ef f)),w)
theorem ahw (m:U):Te C H F w t sd m:=by
 obtain ⟨b4,s1,f1,b⟩:=PX O (F:=F) (w:=w) (t:=t) (sd:=sd) m (i:=0) ar (.z ah) rfl rfl
 have g1:=b.1
 have j:=b.2
 obtain ⟨bp,bK,dg⟩:=Oo s1 g1 f1
 obtain ⟨d,s2,f2,a⟩:=PX O (F:=F) (w:=w) (t:=t) (sd:=sd) b4 (i:=1) ar (s1.ef f1) bp bK
 have k:=a.1
 have e:=a.2
 have l:=λn=>Xn (H:=H) (F:=F) (w:=w) (t:=t) (m:=m) (c:= .list C.cl) (nv:= .int (0:Nat)) (sd:=sd) _ (O.at (i:=0) ar).2.2 n
 have f:=λn=>Xk (H:=H) (F:=F) (w:=w) (t:=t) (m:=b4) (c:= .list C.cl) (nv:= .int (1:Nat)) (sd:=sd) (eu:=eS (C.wd 0) (C.wd 0).length) _ (O.at (i:=1) ar).2.2 (s1.ef f1) (λo z=>by rw[z] at dg;exact bF dg.symm cv) bp bK n
 have g: ∀n,cw (n+410) cb hV (bb H (Hx F t m sd (.list C.cl) (.int (0:Nat)))) w=I (.next,bb H (dR F t b4 sd (.list C.cl) (.int (0:Nat)) (eS (C.wd 0) (C.wd 0).length) (s1.ef f1)),w):=λn=>by
  rw[Ka,cN (D:=409) l ar]
  exact j n
 have h: ∀n,cw (n+410) cb hV (bb H (dR F t b4 sd (.list C.cl) (.int (1:Nat)) (eS (C.wd 0) (C.wd 0).length) (s1.ef f1))) w=I (.next,bb H (dR F t d sd (.list C.cl) (.int (1:Nat)) (eS (C.wd 1) (C.wd 1).length) (s2.ef f2)),w):=λn=>by
  rw[Ka,cN (D:=409) f ar]
  exact e n
 exact ⟨d,s2,f2,k,abD (H:=H) λn=>(Fp (n:=n+449) adg (g (n+39))).trans (Fp (n:=n+448) (adf s1 f1) (h (n+38)))⟩
end
theorem PC (J:0≤x) (aa:x≤1000000):small x=true:=by
 obtain ⟨n,rfl⟩:=Int.eq_ofNat_of_zero_le J
 exact jY (gP (j5.mp aa) ar)
def K! (s:Nat):U:= .list [i' (dz (firstOf s%6)),i' (dz (otherOf s%6))]
theorem HF (m k a b v:Nat):((m:Int)*(a:Int)+(k:Int)*(b:Int)+(v:Int))*1048576=((lh m k a b v*1048576:Nat):Int):=by
 show _=(((m*a+k*b+v)*1048576:Nat):Int)
 rw[qP,mu,mu,qP,qP]
 rfl
theorem Ce (n:Nat):b' (n+80) ⟨bq,d+1,sc⟩ (aE 16) [fY l,K! s,aT a!] w=I (l5 (vB s a! l) (vC s a! l) (vD s a! l),w):=by
 obtain ⟨m,k⟩:=l
 have hE:=z! (firstOf s%6)
 have cn:=z! (otherOf s%6)
 have au: ∀x:Nat,x≤1→small (x:Int)=true:=λx h=>jY (by exact ke h rfl)
 have:=aeK (n:=n) (d:=d) (sc:=sc) (w:=w) (m:Int) (k:Int) ((dz (firstOf s%6)).1:Nat) ((dz (firstOf s%6)).2.1:Nat) ((dz (firstOf s%6)).2.2:Nat) ((dz (otherOf s%6)).1:Nat) ((dz (otherOf s%6)).2.1:Nat) ((dz (otherOf s%6)).2.2:Nat) (a!:Int) (au _ hE.1) (au _ hE.2.1) (au _ hE.2.2) (au _ cn.1) (au _ cn.2.1) (au _ cn.2.2)
 rw[HF,HF,HF] at this
 exact this
theorem aeF (a b c:Nat):hs (l5 a b c) (l5 a b c)=I true:=by
 have:=w_.list.eq ar (x:=[a*1048576,b*1048576,c*1048576]) (y:=[a*1048576,b*1048576,c*1048576]) (λZ Z=>trivial) (λZ Z=>trivial)
 rw[e1 rfl] at this
 exact this
theorem aeG (a b c:Nat):hs (.list [l5 a b c,l5 a b c]) (.list [l5 a b c,l5 a b c])=I true:=by
 have:=w_.list.list.eq ar (x:=[[a*1048576,b*1048576,c*1048576],[a*1048576,b*1048576,c*1048576]]) (y:=[[a*1048576,b*1048576,c*1048576],[a*1048576,b*1048576,c*1048576]]) (λZ Z Z Z=>trivial) (λZ Z Z Z=>trivial)
 rw[e1 rfl] at this
 exact this
theorem Uw (z:Int):fO (ao "abs") [.int z]=I (.int (z.natAbs:Int)):=by
 have:fO (ao "abs") [.int z]=I (.int (if z<0 then-z else z)):=aY
 rw[this]
 refine aQ (λx=>I (U.int x)) ?_
 split
 ·next h=>exact (Int.ofNat_natAbs_of_nonpos (Di h)).symm
 ·next h=>exact (Int.natAbs_of_nonneg (uo.mp h)).symm
theorem YH (s:dF) (h:s.good=ab):s.full=true:=by
 induction s using kG<;>first|rfl|exact bF h cv
theorem YI (s:dF) (h:s.full=ab) (k:U):(s.setM k).full=true:=by
 induction s using kG<;>first|rfl|exact bF h cv
theorem ajk (s:dF) (f:gx):me F t m sd c nv eu s f ah=dR F t m sd c nv eu (s.ef f):=by
 unfold me
 have:QQ s ah=[]:=by cases s<;>rfl
 rw[this,e0]
structure D! (C:c9) (H:ko):Prop where
 pY:H.V.pY=aT (firstOf C.s)
 h7:H.V.h7= .int (mX C.s)
 a!:H.V.a!=aT C.a!
 dS:U.list H.dS=K! C.s
section
variable (O:pn C H) (P:D! C H) {F:gU} {w:W} {t c nv:U} {sd eu:List U}
include O P
abbrev S8 (C:c9) (H:ko) (F:gU) (w:W) (t c nv:U) (sd eu:List U) (m:U) (x:List Bool) (s:dF) (o:Option (U×U)):Prop:= ∃a k p:U,∀n,cw (n+300) cb zT (bb H (me F t m sd c nv eu s (C.k4 x) o)) w=I (.next,bb H (me F t a sd c nv eu (s.setM k) (C.k4 x) (I (k,p))),w)
theorem aeU (m:U) {x:List Bool} (af:x.length≤4) (s:dF) (au:s.full=ab) (o:Option (U×U)):S8 C H F w t c nv sd eu m x s o:=by
 have lo:iW (bg x):= .inr (.inr ⟨x,af,rfl⟩)
 have f:=vh lo
 have c1:=f.1
 have fh:=f.2.1
 have i:=f.2.2
 have bP:=ae1 C.au C.hw af
 have e:small (((bg x).1:Int)+((bg x).2:Int))=true:=PC (by exact Jp _) (DU (Int.add_le_add (j5.mpr c1) (j5.mpr fh)) ar)
 have h:small ((bg x).2:Int)=true:=PC (by exact og _) (DU (j5.mpr fh) ar)
 obtain ⟨p1,g⟩:=HE C.hw lo
 have p2:=g.1
 have p3:=g.2
 refine ⟨_,_,_,λn=>aeV (H:=H) (F:=F) (w:=w) (t:=t) (m:=m) (nv:=nv) (c:=c) (sd:=sd) (eu:=eu) s au (C.k4 x) o (g0:= .str (cI (sgn C.k).1)) (a:=((bg x).1:Int)) (b:=((bg x).2:Int)) (P:=C.gL (bg x)) (by rw[O.gr];exact (aY:dM (.tup [.str (cI (sgn C.k).1),.str (cI (sgn C.k).2)]) (.int 0)=_))
  (λn=>x4 C.av af (d:=6) (n:=n)) (by rw[P.pY];exact kF e) (by rw[P.h7];exact kF h) rfl (kF e) (mod_eq (Int.mul_ne_zero ar (SA (lC.mpr i))) rfl) (λn=>by rw[P.dS,P.a!];exact Ce (d:=6) n) (aeF _ _ _) (kF ar) (kF e) (Uw _) (aQ I (f5 (uo.mpr bP))) (λn=>TX (d:=4) (ER C.au C.hw lo) p1 p2 p3) (aeG _ _ _) n⟩
abbrev Tf (H:ko) (F:gU) (w:W) (t c nv:U) (sd eu:List U) (m:U) (s:dF) (f:gx):Prop:= ∃σ':aA,∀n,ex (n+350) cb (b3 28) (bb H (me F t m sd c nv eu s f ah)) w=I (.next,σ',w)
theorem ahx (m:U) (s:dF) (au:s.full=ab) (f:gx):Tf H F w t c nv sd eu m s f:=by
 have e:=C.pL
 have d:(C.B C.N).length=C.N:=e.len
 have h:C.N≤8:=e.le
 have u:H.R.length=C.N:=by rw[O.R,df,d]
 obtain ⟨σ',w',hf,rfl,_⟩:=Fo (cx:=cb) (tgt:=gf (b3 28)) (body:=zT) (Inv:=λj σ w'=>w'=w∧ ∃m s f o,σ=bb H (me F t m sd c nv eu s f o)∧s.full=ab) 300 H.R 0 (bb H (me F t m sd c nv eu s f ah)) w (by
  intro j p σ w' aC b
  obtain ⟨rfl,b4,s1,f1,g,rfl,J⟩:=b
  rw[O.R] at aC
  obtain ⟨x,i,rfl⟩:=hc.mp (ia aC)
  have r:x.length≤4:=e.short x i
  obtain ⟨a,k,q,l⟩:=aeU O P (F:=F) (w:=w') (t:=t) (nv:=nv) (c:=c) (sd:=sd) (eu:=eu) b4 r s1 J g
  refine ⟨_,.next,_,w',?_,.inl rfl,l,rfl,_,_,_,_,rfl,YI s1 J k⟩
  rw[C.O']
  exact aeT s1 J f1 (C.k4 x) g) ⟨rfl,m,s,f,ah,rfl,au⟩
 refine ⟨σ',aeX (H:=H) s au f ?_⟩
 exact @fuel _ (λn=>forL n _ _ _ _ _ _) (300+H.R.length+1) 320 _ (λn=>by have:=hf n;rwa [show n+300+H.R.length+1=n+(300+H.R.length+1) by simp+arith only] at this) (by exact bE (cc h (dH u)))
end
namespace c9
variable (C:c9)
def mH (X:U) (dr:List U) (t:Str):zy:=⟨X,dr,aT (firstOf C.s),aT (otherOf C.s),aT C.a!,aT C.dv,.int (mX C.s),tQ C.k,.str t,0⟩
def E8:List U:=[i' (dz (firstOf C.s%6)),i' (dz (otherOf C.s%6))]
noncomputable def lo:U:= .tup [.aj C.p.1,.aj C.p.2.1,.aj C.p.2.2]
noncomputable def aI:U:= .tup [.aj C.q.1,.aj C.q.2.1,.aj C.q.2.2]
theorem G!: ∃T:kq,(∀{n d sc w},b' (n+100) ⟨bq,d+1,sc⟩ (aE 9) [.aj (AU (firstOf C.s) C.dv),.aj ez,.aj yJ] w=I (.tup [.aj T.1,.aj T.2.1,.aj T.2.2],w))∧C.p=(fw T.1 T.2.1 T.2.2,mN T.1 T.2.2 (fw T.1 T.2.1 T.2.2),mO T.1 T.2.2 (fw T.1 T.2.1 T.2.2)):=C.E.low.elim λR h=>h.elim λG h=>h.elim λB h=>⟨(R,G,B),h⟩
theorem FZ: ∃T:kq,(∀{n d sc w},b' (n+100) ⟨bq,d+2,sc⟩ (aE 6) [.aj (AS (otherOf C.s) C.dv),.aj yI,.aj ez] w=I (.tup [.aj T.1,.aj T.2.1,.aj T.2.2],w))∧C.q=(fw T.1 T.2.1 T.2.2,mN T.1 T.2.2 (fw T.1 T.2.1 T.2.2),mO T.1 T.2.2 (fw T.1 T.2.1 T.2.2)):=C.E.high.elim λR h=>h.elim λG h=>h.elim λB h=>⟨(R,G,B),h⟩
noncomputable def GZ:kq:=Jz C.G!
noncomputable def bZ:kq:=Jz C.FZ
theorem acp {d:Nat} {sc:Scope} {w:W} (n:Nat):b' (n+100) ⟨bq,d+1,sc⟩ (aE 3) [.aj C.GZ.1,.aj C.GZ.2.1,.aj C.GZ.2.2] w=I (C.lo,w):=(QV (n:=n) (d:=d)).trans (by unfold lo;rw[(wx C.G!).2];rfl)
theorem ZT {d:Nat} {sc:Scope} {w:W} (n:Nat):b' (n+100) ⟨bq,d+1,sc⟩ (aE 3) [.aj C.bZ.1,.aj C.bZ.2.1,.aj C.bZ.2.2] w=I (C.aI,w):=(QV (n:=n) (d:=d)).trans (by unfold aI;rw[(wx C.FZ).2];rfl)
def FG (X:U) (dr:List U) (t:Str):ko:=⟨C.mH X dr t,C.E8,wS C.k C.u,wS C.k C.v,.aj C.bZ.1,.aj C.bZ.2.1,.aj C.bZ.2.2,C.lo,C.aI,.aj C.q.1,.aj C.q.2.1,.aj C.q.2.2,fY (bg C.u),fY (bg C.v),aT (e9 C.s C.a! (1,0)),aT (C.fk (bg C.u)),aT (C.fk (bg C.v)),(C.B C.N).map C.row⟩
theorem gF (X:U) (dr:List U) (t:Str):pn C (C.FG X dr t):=⟨rfl,rfl,rfl,rfl,rfl,rfl,rfl,rfl⟩
theorem ζ (X:U) (dr:List U) (t:Str):D! C (C.FG X dr t):=⟨rfl,rfl,rfl,rfl⟩
theorem yA (h:iW l) {d:Nat} {sc:Scope} {w:W} (n:Nat):b' (n+200) ⟨bq,d+2,sc⟩ (aE 19) [C.gL l] w=I (aT (e9 C.s C.a! l),w):=by
 obtain ⟨a,e⟩:=HE C.hw h
 have b:=e.1
 have c:=e.2
 exact ahe (ER C.au C.hw h) a b c
end c9
theorem K4 (a:f≤12):b? .Div (aT f) (.aj 4618441417868443648)=I (.aj (d' (fD f) kk)):=by
 show (if small (f:Int)∧ ¬kT 4618441417868443648 then I (U.aj (d' (fD (f:Int)) 4618441417868443648)) else ah)=_
 rw[a_ ⟨jY (by exact ke a rfl),by decide+kernel⟩]
 rfl
theorem TB (b8:r<3):b? .Add (.aj x) (aT r)=I (.aj (ct x (fD r))):=by
 show (if small (r:Int) then I (U.aj (ct x (fD (r:Int)))) else ah)=_
 rw[a_ (jY (by exact oT b8 rfl))]
theorem ahX (b8:r<3):b? .Sub (.aj x) (aT r)=I (.aj (b! x (fD r))):=by
 show (if small (r:Int) then I (U.aj (b! x (fD (r:Int)))) else ah)=_
 rw[a_ (jY (by exact oT b8 rfl))]
theorem Yh (au:s<12):firstOf s≤12∧otherOf s≤12:=by
 revert s
 decide+kernel
theorem C3 {y i q a:UInt64} {w:W} (h:hi (lj y i q)=a∧hi (mG y i q)=a∧hi (oo y i q)=a) (n:Nat):b' (n+100) ⟨bq,7,(aE 22).scope⟩ (aE 4) [.aj y,.aj i,.aj q] w=I (.tup [.aj a,.aj a,.aj a],w):=by
 rw[Qt (n:=n) (d:=6),h.1,h.2.1,h.2.2]
theorem acQ (C:c9) (X:U) (dr:List U) (t:Str) {h:List Nat} {line g:Int} {rem:List Nat} (j:(⟨rem,line,[]⟩:cQ).token=(cI 101,⟨h,g,[]⟩)) (n:Nat):
  cw (n+990) cb ((aE 22).body.drop 10) (h2 (C.mH X dr t) (.own C.E8) (.own [.str (wS C.k C.u),.str (wS C.k C.v)])) [⟨rem,line,[]⟩]=cw (n+981) cb ((aE 22).body.drop 19) (bb (C.FG X dr t) []) [⟨h,g,[]⟩]:=by
 have f:=Yh C.au
 have b:=UK C.au C.b8 C.E
 have a:iW (1,0):= .inl rfl
 have aN:=hP C.aN
 have c:iW (bg C.u):= .inr (.inr ⟨C.u,C.b0,rfl⟩)
 have e:iW (bg C.v):= .inr (.inr ⟨C.v,aN,rfl⟩)
 have ae:(aE 22).body.drop 10=b3 10::b3 11::b3 12::b3 13::b3 14::b3 15::b3 16::b3 17::b3 18::(aE 22).body.drop 19:=aY
 rw[ae]
 refine (cN (D:=989) (λn=>abk (V:=C.mH X dr t) (K4 f.1) (TB C.b8) (λn=>(wx C.G!).1 (n:=n) (d:=6)) n) ar n).trans ?_
 refine (cN (D:=988) (λn=>abl (V:=C.mH X dr t) (C.acp (d:=6)) n) ar n).trans ?_
 refine (cN (D:=987) (λn=>abm (V:=C.mH X dr t) (K4 f.2) (ahX C.b8) (λn=>(wx C.FZ).1 (n:=n) (d:=5)) n) ar n).trans ?_
 refine (cN (D:=986) (λn=>abn (V:=C.mH X dr t) (C.ZT (d:=6)) n) ar n).trans ?_
 refine (cN (D:=985) (λn=>abo (V:=C.mH X dr t) (C3 b.1.w) (C3 b.1.b) (C3 b.2.w) (C3 b.2.b) n) ar n).trans ?_
 refine (cN (D:=984) (λn=>abp (V:=C.mH X dr t) rfl (λn=>x4 C.av C.b0 (d:=6) (n:=n)) (λn=>x4 C.av aN (d:=6) (n:=n)) n) ar n).trans ?_
 refine (cN (D:=983) (λn=>abq (V:=C.mH X dr t) (λn=>Ce (l:=(1,0)) (d:=6) n) (λn=>C.yA a (d:=5) n) n) ar n).trans ?_
 refine (cN (D:=982) (λn=>abr (V:=C.mH X dr t) (λn=>Ce (d:=6) n) (λn=>Ce (d:=6) n) (λn=>C.yA c (d:=5) n) (λn=>C.yA e (d:=5) n) (C.yN _) (C.yN _) (C.yO _) (C.yO _) (C.yP c) (C.yP e) n) ar n).trans ?_
 exact cN (D:=981) (λn=>abt (V:=C.mH X dr t) (λn=>adt C j (i:=0) (w:=[⟨rem,line,[]⟩]) rfl (d:=2) (n:=n) (sc:=(aE 22).scope)) n) ar n
def wP (k:Nat) (x:List Bool):U:= .str (wS k x)
theorem QB (k:Nat) (x:List Bool) (m:Nat):(⟨((wS k x).cps.toList.take m).toArray⟩:Str)=wS k (x.take m):=by
 rw[v_]
 show _=(⟨(cR k (x.take m)).toArray⟩:Str)
 unfold cR
 rw[SE]
theorem Kd (k:Nat) (u v:List Bool) (m:Nat):(mB k u v m).length≤2:=by
 unfold mB
 rw[df]
 exact alf _ _
theorem T3 (k:Nat) (u v:List Bool) (m:Nat):(sq k u v m).length≤2:=by
 have J:=Hg (mB k u v m) []
 have aa:(met (mB k u v m)).length≤0+(mB k u v m).length:=J
 have ay:(sq k u v m).length=(met (mB k u v m)).length:=(yz _).length_eq
 have a:=Kd k u v m
 exact bE (cc (cc aa (dH ay)) a)
section
variable (O:pn C H) {w:W}
include O
theorem T4 (be:List U) (m:Nat) (n:Nat):d! (n+33) ⟨bq,7,oq⟩ (ff mA) (jj mA) (sx mA) [.str H.iz,.str H.gM] ((bb H (f9 be (aT m))).hide (Scope.dq oq)) w=I ((mB C.k C.u C.v m).map .str,w):=by
 have aI:[U.str H.iz,.str H.gM]=[C.u,C.v].map (wP C.k):=by rw[O.iz,O.gM];rfl
 have a: ∀x∈[C.u,C.v],x.length≤4:=λx af=>by
  rcases eo.mp af with rfl|af
  ·exact C.b0
  ·rw[ep.mp af];exact hP C.aN
 let f:U→U:=λp=>match p with
  | .str s=> .str ⟨(s.cps.toList.take m).toArray⟩
  |p=>p
 let b:U→Bool:=λp=>match p with
  | .str s=>decide (m≤s.length)
  |_=>aq
 have:=KV (cx:=⟨bq,7,oq⟩) (σ:=(bb H (f9 be (aT m))).hide (Scope.dq oq)) (w:=w) (x:=S "one") (tgt:=jj mA) (elt:=ff mA) (ifs:=sx mA) (items:=[C.u,C.v].map (wP C.k)) (f:=f) (b:=b) (c:=30) (N:=33) (λv σ=>aY) (bh _)
  (λp aC n=>by
   obtain ⟨x,af,rfl⟩:=hc.mp aC
   exact T8 (wS C.k x) be (aT m) (L:= .int ((wS C.k x).length:Int)) (qX (by rw[h_];have:=a x af;exact cW (a _ af) rfl)) (aQ I (decide_eq_decide.mpr (by show ((m:Int)≤_)↔_;exact j5))) n)
  (λp aC ae n=>by
   obtain ⟨x,af,rfl⟩:=hc.mp aC
   refine T5 (wS C.k x) be (aT m) _ ?_ n
   rw[show (aT m)= .int (m:Int) from rfl,ah8 C.k (a x af) m]
   show _=I (U.str ⟨((wS C.k x).cps.toList.take m).toArray⟩)
   rw[QB]) n
 rw[aI,this]
 refine aQ (λl=>I (l,w)) ?_
 rw[alj,iD]
 unfold mB
 rw[iD]
 have d:(λx=>decide (m≤x.length):List Bool→Bool)=b∘wP C.k:=by
  funext x
  show _=decide (m≤(wS C.k x).length)
  rw[h_]
 rw[d]
 refine akM λx Z=> ?_
 show U.str ⟨((wS C.k x).cps.toList.take m).toArray⟩=_
 rw[QB]
 rfl
def gB (C:c9):List U:=(C.B C.N).map (wP C.k)
abbrev Tc (C:c9) (H:ko) (w:W):Prop:= ∃z,∀n,ex (n+100) cb (b3 20) (bb H (wO [])) w=I (.next,bb H (f9 (gB C) z),w)
theorem ahn:Tc C H w:=by
 obtain ⟨q,v,b,hf⟩:=forR (cx:=cb) (w:=w) (σ:=bb H (wO [])) (x:=S "size") (tgt:=gf (b3 20)) (body:=jR (b3 20)) (St:=List Str) (B:=λs v=>bb H (f9 (s.map .str) v)) (P:=λj s=>s=(eB j).flatMap (sq C.k C.u C.v)∧s.length≤2*j) (s0:=[]) (c:=60) (N:=80) (K:=5)
  (λv σ=>aY) (λs v u=>aY) (λv=>aY) ⟨rfl,bh _⟩ ar ar
  (λj s f ⟨d,a⟩=>by
   have ae:=T3 C.k C.u C.v j
   have hm:=Kd C.k C.u C.v j
   refine ⟨s++sq C.k C.u C.v j,.next,⟨?_,?_⟩,.inl rfl,λn=> ?_⟩
   ·rw[d,SI,List.flatMap_append]
    simp
   ·rw[er];exact Er a ae
   ·have:=abw (H:=H) (w:=w) (s.map .str) (aT j) ((mB C.k C.u C.v j).map .str) ((sq C.k C.u C.v j).map .str) (by rw[df];exact bE (cc (lm 2 (e8 f)) a)) (by rw[df];exact cW ae rfl) (T4 O (s.map .str) j) (PD _ (by exact ke hm rfl)) n
    rw[this,←kR])
 have e:=b.1
 have he:q.map U.str=gB C:=by
  rw[e,T6 C.av C.b0 C.aN,iD]
  rfl
 refine ⟨v,abv (H:=H) (w:=w) (items:=(eB 5).map aT) aY λn=> ?_⟩
 exact he▸(hf n)
theorem Kc:(gB C).length≤8:=by
 have J:(C.B C.N).length=C.N:=C.pL.len
 have aa:C.N≤8:=C.pL.le
 unfold gB
 rw[df]
 exact Ny J aa
theorem aho (e:m4 H.V.i w=I (.str (bI []),w')) (n:Nat):ex (n+100) cb (b3 21) (bb H (f9 (gB C) z)) w=I (.next,bb H (f9 (gB C) z),w'):=by
 have b:=Kc O
 have d:H.R.length=(gB C).length:=by rw[O.R];unfold gB;rw[df,df]
 let f:U→U:=λp=>match p with
  | .list (a::_)=>a
  |p=>p
 have ag:=sy (cx:=⟨bq,7,vN⟩) (σ:=(bb H (f9 (gB C) z)).hide (Scope.dq vN)) (w:=w) (x:=S "row") (tgt:=jj vM) (elt:=ff vM) (items:=H.R) (f:=f) (c:=30) (N:=60) (λv σ=>aY) (by exact bE (cc b (dH d)))
  (λp aC n=>by
   rw[O.R] at aC
   obtain ⟨x,_,rfl⟩:=hc.mp aC
   exact afV _ _ _ _ _ _ _ n)
 have hm:H.R.map f=gB C:=by
  rw[O.R,iD]
  rfl
 rw[hm] at ag
 have he:hs (.list (gB C)) (.list (gB C))=I true:=by
  have:=(Ak C.av).list.eq ar (x:=C.B C.N) (y:=C.B C.N) (λZ Z=>trivial) (λZ Z=>trivial)
  rw[e1 rfl] at this
  exact this
 exact abx (H:=H) (by exact bE (cc b (dH d))) ag he e n
def o7 (C:c9):List U:=(yx C.u C.v).map (wP C.k)
theorem ahq (n:Nat):ex (n+300) cb (b3 23) (bb H (f9 (gB C) z)) w=I (.next,bb H (Cu (gB C) z (o7 C)),w):=by
 have e:=Kc O
 let b:U→Bool:=λp=>match p with
  | .str s=>ha (wS C.k C.u) s&&ha (wS C.k C.v) s
  |_=>aq
 have ag:=KV (cx:=⟨bq,7,o8⟩) (σ:=(bb H (f9 (gB C) z)).hide (Scope.dq o8)) (w:=w) (x:=S "one") (tgt:=jj qy) (elt:=ff qy) (ifs:=sx qy) (items:=gB C) (f:=λp=>p) (b:=b) (c:=230) (N:=250) (λv σ=>aY) (by exact bE e)
  (λp aC n=>by
   obtain ⟨x,af,rfl⟩:=hc.mp aC
   have a:x.length≤4:=C.pL.short x af
   obtain ⟨c,d⟩:=QC (k:=C.k) a
   have a1:=d.1
   have a2:=d.2
   have:=agC (H:=H) (w:=w) (wS C.k x) c (gB C) z (b1:=h6 x C.u) (b2:=h6 x C.v) a1 (λn=>by rw[O.iz,E6 C.av (y:=[]) a (hC 4) C.b0 a2,Ly]) (λn=>by rw[O.gM,E6 C.av (y:=[]) a (hC 4) (hP C.aN) a2,Ly]) n
   refine this.trans ?_
   show _=I (ha (wS C.k C.u) (wS C.k x)&&ha (wS C.k C.v) (wS C.k x),w)
   rw[yB C.av,yB C.av])
  (λp aC Z n=>by
   obtain ⟨x,_,rfl⟩:=hc.mp aC
   exact agy (wS C.k x) _ _ n)
 have hm:((gB C).filter b).map (λp=>p)=o7 C:=by
  rw[List.map_id']
  unfold gB o7 yx
  rw[alj]
  congr 1
  refine List.filter_congr λx Z=> ?_
  show (ha (wS C.k C.u) (wS C.k x)&&ha (wS C.k C.v) (wS C.k x))=_
  rw[yB C.av,yB C.av]
 rw[hm] at ag
 exact abz (H:=H) (by exact cW e rfl) ag n
theorem ahr (n:Nat):ex (n+200) cb (b3 24) (bb H (Cu (gB C) z (o7 C))) w=I (.next,bb H (G? (gB C) z (o7 C) (fY (bg (lst C.u C.v)))),w):=by
 have L:=Nz C.b0 C.aN
 refine abA (H:=H) (w:=w) (s0:= .str (cI (sgn C.k).1)) (s1:= .str (cI (sgn C.k).2)) (x:=wP C.k (lst C.u C.v)) O.gr (GD ?_) (λn=>x4 C.av L.len (d:=6) (n:=n)) n
 unfold o7
 rw[akU,L.last]
 rfl
end
theorem ag1 {M k:Nat} {l:Nat×Nat} (a:M≤100) (av:k≤100) (J:l.1≤20) (aa:l.2≤20):small (kN M k l)=true:=by
 have a1:=Jv a aa
 have a2:=Jv av J
 have e:kN M k l=((M*l.2:Nat):Int)-((k*l.1:Nat):Int):=rfl
 rw[e]
 generalize M*l.2=x at*
 generalize k*l.1=y at*
 exact e1 (gP (Int.natAbs_sub_le _ _) (gP (m_ a1 a2) ar))
theorem Iq (M k:Nat):((M+k:Nat):Int)-(M:Int)=(k:Int):=by
 show (M:Int)+(k:Int)-(M:Int)=_
 rw[ph,DG]
theorem LK {a K:Nat} {cx:bY} {σ:aA} {w:W} {x:Str} {tgt:Expr} {body:List cK} {St:Type} {B:St→U→aA} {P:Nat→St→Prop} {s0:St} {c N:Nat} (af: ∀v σ,d2 cx.sc tgt v σ=I (σ.set x (.val v))) (m: ∀s v u,(B s v).set x (.val u)=B s u) (g: ∀v,σ.set x (.val v)=B s0 v) (d3:P 0 s0) (l:0<K) (k:c+K+1≤N)
  (b: ∀j s,j<K→P j s→ ∃s' fl,P (j+1) s'∧(fl= .next∨fl= .cont)∧ ∀n,cw (n+c) cx body (B s (aT (a+j))) w=I (fl,B s' (aT (a+j)),w)):
  ∃s v,P K s∧ ∀n,forL (n+N) cx tgt body ((eB K).map λi=>aT (a+i)) σ w=I (.next,B s v,w):=by
 have d:((eB K).map λi=>aT (a+i)).length=K:=by rw[df,jE]
 have h:=Az (items:=(eB K).map λi=>aT (a+i)) (N:=N) af m g d3 (λz=>j6 l (akS.mp (Sn.mp z))) (by rw[d];exact k) λj p s e aC=>by
  have f:j<K:=d▸(hh.mp e).1
  rw[mj,akR f] at e
  exact (inj e:aT (a+j)=p)▸b j s f aC
 rwa [d] at h
theorem O1 (a k:Nat) (aJ:a≤1000) (av:k≤1000):l_ [.int (a:Nat),.int ((a+k:Nat):Int)]=I ((eB k).map λi=>aT (a+i)):=by
 show (if small ((a:Nat):Int)&&small ((a+k:Nat):Int) then I (intsFrom (a:Int) (((a+k:Nat):Int)-(a:Int)).toNat) else ah)=_
 rw[jY (by exact ke aJ rfl),jY (by exact bE (cc aJ av))]
 show I (intsFrom (a:Int) (((a+k:Nat):Int)-(a:Int)).toNat)=_
 rw[Iq]
 rfl
theorem afm (k:Nat) (av:k≤1000):l_ [.int (k:Nat)]=I ((eB k).map aT):=by
 show (if small (k:Int) then I (intsFrom 0 (k:Int).toNat) else ah)=_
 rw[jY (by exact ke av rfl),a_ rfl]
 unfold intsFrom
 simp[aT]
section
variable (O:pn C H) {w:W}
include O
theorem ahp (be:List U) (z:U) (a:H.V.qE= .str (bI T)) (hw:vi H.V.i w=I (.int l,w)) (b:l=1+fi T) (n:Nat):ex (n+100) cb (b3 22) (bb H (f9 be z)) w=I (.next,bb H (f9 be z),w):=by
 refine aby (H:=H) (c:=fi T) a hw ?_ ?_ n
 ·refine (qv.2.2.1 _ _).trans ?_
  refine aQ (λx=>I (U.int x)) ?_
  exact (V4 (bI T)).trans rfl
 ·subst b
  rw[OQ,e1 rfl]
noncomputable def NF:U→Int×Int
 | .list [.int a,.int b]=>(a,b)
 |_=>(0,0)
theorem agK (F:gU) (s:Option (List U)) {M k:Nat} (n:Nat):d! (n+50) ⟨bq,7,o9⟩ (ff qz) (jj qz) [] [H.hJ,H.c1] ((bb H (oM F (aT (M+k)) s (aT M))).hide (Scope.dq o9)) w=
  I ([.int (kN M k (bg C.u)),.int (kN M k (bg C.v))],w):=by
 have a: ∀l:Nat×Nat,iW l→ ∀n,ev (n+31) ⟨bq,7,o9⟩ (ff qz) (((bb H (oM F (aT (M+k)) s (aT M))).hide (Scope.dq o9)).set (S "light") (.val (fY l))) w=I (.int (kN M k l),w):=λl b n=>by
  have h:=vh b
  exact (agM (H:=H) ((M+k:Nat):Int) (M:Int) (l.1:Nat) (l.2:Nat) s (kF (jY (ke h.2.1 rfl))) (kF (jY (ke h.1 rfl))) n).trans (by rw[Iq];rfl)
 have:=sy (cx:=⟨bq,7,o9⟩) (σ:=(bb H (oM F (aT (M+k)) s (aT M))).hide (Scope.dq o9)) (w:=w) (x:=S "light") (tgt:=jj qz) (elt:=ff qz) (items:=[fY (bg C.u),fY (bg C.v)]) (f:=λp=> .int ((M:Int)*(NF p).2-(k:Int)*(NF p).1)) (c:=30) (N:=50) (λv σ=>aY) (by exact (ar:30+1+2+1≤50))
  (λp aC n=>(eo.mp aC).elim (λe=>e▸a _ (.inr (.inr ⟨C.u,C.b0,rfl⟩)) n) λe=>ep.mp e▸a _ (.inr (.inr ⟨C.v,hP C.aN,rfl⟩)) n) n
 exact O.hJ▸O.c1▸this
theorem aht (F:gU) (s:Option (List U)) {M k a b:Nat} (jS:F.le=fY (a,b)) (d:M≤100) (av:k≤100) (hd:decide (kN M k (bg C.u)*kN M k (bg C.v)≤0)=decide (M=a∧k=b)) (n:Nat):
  cw (n+100) cb wU (bb H (oM F (aT (M+k)) s (aT M))) w=I (.next,bb H (oM F (aT (M+k)) (I [.int (kN M k (bg C.u)),.int (kN M k (bg C.v))]) (aT M)),w):=by
 have c:=vh (.inr (.inr ⟨C.v,hP C.aN,rfl⟩):iW (bg C.v))
 refine aak (H:=H) ((M+k:Nat):Int) (M:Int) _ _ _ s (agK O F s) (kF (ag1 d av c.1 c.2.1)) rfl ?_ n
 rw[jS,Iq]
 refine ((K?.eq ar (x:=(M,k)) (y:=(a,b)) trivial trivial).trans (aQ I (decide_eq_decide.mpr ?_))).trans (aQ I hd.symm)
 rw[Prod.mk.injEq]
theorem ahu (F:gU) {a b t:Nat} (jS:F.le=fY (a,b)) (d:t≤48) (hd: ∀m,m<t+1→decide (kN (1+m) (t+1-m) (bg C.u)*kN (1+m) (t+1-m) (bg C.v)≤0)=decide (1+m=a∧t+1-m=b)) (o:Option (U×List U)): ∃x,∀n,cw (n+200) cb sk (bb H (oY F o (aT (2+t)))) w=I (.next,bb H (oY F (I x) (aT (2+t))),w):=by
 have f:2+t=1+(t+1):=(r7 2 t).trans (r7 (t+1) 1)
 have h:=LK (a:=1) (K:=t+1) (cx:=cb) (w:=w) (σ:=bb H (oY F o (aT (2+t)))) (x:=S "m") (tgt:=gf (a6 sk 0)) (body:=wU) (St:=Option (List U)) (B:=λs v=>bb H (oM F (aT (2+t)) s v)) (P:=λj s=>0<j→s.isSome=ab) (s0:=o.map (·.2)) (c:=100) (N:=150)
  (λv σ=>aY) (λs v u=>by induction s using d5<;>kernel_rfl) (λv=>by induction o using d5<;>kernel_rfl) (λh=>bF h (lz 0)) (r0 t) (by exact ml (zr (ml d) 100))
  (λj s e Z=>⟨I _,.next,λZ=>rfl,.inl rfl,λn=>by
   have:=aht O (w:=w) F s (M:=1+j) (k:=t+1-j) jS (cG (zr (nf e) 1) (cG (zr d 1) ar)) (cG (rW _ _) (cG (ml d) ar)) (hd j e) n
   rw[I3,zq (iS e),←f] at this
   exact this⟩)
 obtain ⟨q,v,g,hf⟩:=h
 obtain ⟨sd,rfl⟩:=RV.mp (g (r0 t))
 exact ⟨(v,sd),λn=>aeB (H:=H) (aT (2+t)) o (I (v,sd)) _ ((aQ (λz=>l_ [.int 1,aT z]) f).trans (O1 1 (t+1) ar (cG (ml d) ar))) hf n⟩
abbrev Td (H:ko) (w:W) (F:gU):Prop:= ∃(v m:U) (sd:List U),∀n,ex (n+400) cb (b3 25) (bb H (leB F)) w=I (.next,bb H (h8 F v m sd),w)
theorem ahs (F:gU) (jS:F.le=fY (bg (lst C.u C.v))):Td H w F:=by
 have L:=Nz C.b0 C.aN
 have i:=vh (.inr (.inr ⟨lst C.u C.v,L.len,rfl⟩):iW (bg (lst C.u C.v)))
 have k:=NG (lst C.u C.v)
 have r:=L.all
 generalize bg (lst C.u C.v)=l at*
 have e:2≤l.1+l.2:=m_ k.1 k.2
 have d:l.1+l.2≤40:=m_ i.1 i.2.1
 have p:l.1+l.2=l.1+l.2-1+1:=(Dn (cG (by decide) e)).symm
 have f:fO (ao "sum") [F.le]=I (.int (((l.1+l.2:Nat):Int))):=by
  rw[jS]
  exact Kn _
 rw[p] at f e d
 generalize l.1+l.2-1=N at*
 have h:=LK (a:=2) (K:=N) (cx:=cb) (w:=w) (σ:=bb H (leB F)) (x:=S "total") (tgt:=gf (b3 25)) (body:=sk) (St:=Option (U×List U)) (B:=λs v=>bb H (oY F s v)) (P:=λj s=>0<j→s.isSome=ab) (s0:=ah) (c:=200) (N:=300)
  (λv σ=>aY) (λs v u=>by induction s using d5<;>kernel_rfl) (λv=>aY) (λh=>bF h (lz 0)) (um e) (cG (ml (zr (um d) 200)) ar)
  (λj s g Z=>by
   obtain ⟨x,af⟩:=ahu O (w:=w) F (a:=l.1) (b:=l.2) jS (cG (iS g) (cG (um d) ar)) (r j g) s
   exact ⟨I x,.next,λZ=>rfl,.inl rfl,af⟩)
 obtain ⟨q,v,o,hf⟩:=h
 obtain ⟨⟨m,sd⟩,rfl⟩:=RV.mp (o (um e))
 exact ⟨v,m,sd,λn=>abB (H:=H) _ _ (I (m,sd)) v f ((aQ (λz=>l_ [.int 2,aT z]) (r7 (N+1) 1|>.trans (Nat.add_left_comm 1 N 1|>.trans (r7 N 2)))).trans (O1 2 N ar (cG (um d) ar))) hf n⟩
theorem KQ (F:gU) (t m:U) (sd:List U) {x:List Bool} (af:x.length≤4) (n:Nat):d! (n+60) ⟨bq,7,hY⟩ (ff ou) hZ.2.2.1 [] ((eB (x.length+1)).map aT) (((bb H (h8 F t m sd)).hide (Scope.dq hY)).set (S "one") (.val (.str (wS C.k x)))) w=I ((hx x).map (wP C.k),w):=by
 have:=sy (cx:=⟨bq,7,hY⟩) (σ:=((bb H (h8 F t m sd)).hide (Scope.dq hY)).set (S "one") (.val (.str (wS C.k x)))) (w:=w) (x:=S "k") (tgt:=hZ.2.2.1) (elt:=ff ou) (items:=(eB (x.length+1)).map aT) (f:=GK λj=>wP C.k (x.drop j)) (c:=30) (N:=60) (λv σ=>aY) (by rw[df,jE];exact bE af)
  (λp aC n=>by
   obtain ⟨j,_,rfl⟩:=hc.mp aC
   exact Vj (H:=H) (wS C.k x) (aT j) _ (Wq C.k af j) n) n
 rw[this]
 unfold hx
 rw[iD,iD]
 rfl
theorem ahv (F:gU) (t m:U) (sd:List U) (n:Nat):ex (n+100) cb (b3 26) (bb H (h8 F t m sd)) w=I (.next,bb H (qZ F t m sd (.list C.cl)),w):=by
 have it: ∀x:List Bool,x.length≤4→ ∀n,fs (n+30) aq hZ.2.2.1 ⟨bq,7,hY⟩ hZ.2.2.2.1 (((bb H (h8 F t m sd)).hide (Scope.dq hY)).set (S "one") (.val (.str (wS C.k x)))) w=I ((eB (x.length+1)).map aT,w):=λx af n=>by
  refine Vk (H:=H) (wS C.k x) (L:=(x.length:Nat)) (by rw[qX (by rw[h_];exact cW af rfl),h_]) ?_ n
  exact afm (x.length+1) (by exact pB af (bh _) rfl)
 have aN:=hP C.aN
 have au:n5 ((hx C.u).map (wP C.k)++(hx C.v).map (wP C.k))=I C.cl:=by
  have e:(hx C.u).map (wP C.k)++(hx C.v).map (wP C.k)=((hx C.u++hx C.v).map (wS C.k)).map U.str:=by
   rw[kR,kR,iD,iD]
   rfl
  rw[e]
  refine PD _ ?_
  unfold hx
  rw[df,er,df,df,jE,jE]
  exact gP (m_ (ml C.b0) (ml C.aN)) ar
 refine abC (H:=H) (w:=w) (by rw[O.iz];exact it C.u C.b0) (by rw[O.gM];exact it C.v aN) (by rw[O.iz];exact KQ O F t m sd C.b0) (by rw[O.gM];exact KQ O F t m sd aN) ?_ au n
 rw[df,df,jE,jE]
 exact cG (m_ (ml C.b0) (ml C.aN)) ar
end
abbrev SY (H:ko) (w w':W):Prop:= ∃σ',∀n,cw (n+981) cb ((aE 22).body.drop 19) (bb H []) w=I (.ret (.bool ab),σ',w')
theorem Yb {C:c9} {H:ko} (O:pn C H) (P:D! C H) {w w':W} {T:List Nat} {l:Int} (af:H.V.qE= .str (bI T)) (s:m4 H.V.i w=I (.str (bI []),w')) (hw:vi H.V.i w'=I (.int l,w')) (x:l=1+fi T):SY H w w':=by
 have d:=λn=>abu (H:=H) (w:=w) n
 obtain ⟨z,j⟩:=ahn O (w:=w)
 have e:=λn=>aho O (z:=z) s n
 have h:=λn=>ahp O (w:=w') (gB C) z af hw x n
 have E:=λn=>ahq O (w:=w') (z:=z) n
 have k:=λn=>ahr O (w:=w') (z:=z) n
 obtain ⟨v,m,sd,o⟩:=ahs O (w:=w') ⟨gB C,z,o7 C,fY (bg (lst C.u C.v))⟩ rfl
 have p:=λn=>ahv O (w:=w') ⟨gB C,z,o7 C,fY (bg (lst C.u C.v))⟩ v m sd n
 obtain ⟨y,s',f,b⟩:=ahw O (F:=⟨gB C,z,o7 C,fY (bg (lst C.u C.v))⟩) (w:=w') (t:=v) (sd:=sd) m
 have g:=b.1
 have q:=b.2
 obtain ⟨σ1,a⟩:=ahx O P (F:=⟨gB C,z,o7 C,fY (bg (lst C.u C.v))⟩) (w:=w') (t:=v) (sd:=sd) (c:= .list C.cl) (nv:= .int (1:Nat)) (eu:=eS C.v C.v.length) y s' (YH s' g) f
 rw[ajk] at a
 obtain ⟨A,r⟩:=abE (w:=w') σ1
 refine ⟨A,λn=> ?_⟩
 have ae:(aE 22).body.drop 19=[b3 19,b3 20,b3 21,b3 22,b3 23,b3 24,b3 25,b3 26,b3 27,b3 28,b3 29]:=aY
 rw[ae,cN (D:=980) d ar,cN (D:=979) j ar,cN (D:=978) e ar,cN (D:=977) h ar,cN (D:=976) E ar,cN (D:=975) k ar]
 refine (cN (D:=974) o ar n).trans ?_
 refine (cN (D:=973) p ar n).trans ?_
 refine (cN (D:=972) q ar n).trans ?_
 refine (cN (D:=971) a ar n).trans ?_
 exact lL (D:=970) r ar n
theorem Im (h:a.token=(s,b)):m4 0 [a]=I (.str s,[b]):=by
 show I (U.str a.token.1,[a].set 0 a.token.2)=_
 rw[h]
 rfl
theorem aia (l:Int):(⟨[101,10],l,[]⟩:cQ).token=(cI 101,⟨[],l+1,[]⟩):=aY
theorem W6 (l:Int):(⟨[],l,[]⟩:cQ).token=(bI [],⟨[],l,[]⟩):=aY
theorem Ay {a:Int} {b:Nat} (h:0<b): ∃k:Nat,a.fmod (b:Int)=k∧k<b:=
 ⟨(a.fmod b).toNat,(Int.toNat_of_nonneg (alk a (lC.mpr h))).symm,(IZ (alk a (lC.mpr h))).mpr (Int.fmod_lt_of_pos a (lC.mpr h))⟩
theorem ahY: ∀l:List U,(∀p∈l,∃i,p= .int i)→ ∃s,o! l=I s:=by
 intro c
 induction c with
 |nil=>
  intro _
  exact ⟨0,rfl⟩
 |cons p l b=>
  intro h
  obtain ⟨i,rfl⟩:=h p eQ
  obtain ⟨s,au⟩:=b λq a=>h q (fb _ a)
  exact ⟨i+s,by rw[o!,au];rfl⟩
theorem agc (a:List Int) (h:a.length≤63) (n:Nat): ∃L s,iO (.list (a.map .int)) (aT n) .none (.int 4)=I (.list L)∧o! L=I s:=by
 have e:iO (.list (a.map .int)) (aT n) .none (.int 4)=if (I (4:Int))≠I 0∧(a.map U.int).length≤1048576 then I (.list (tE (a.map .int) (I (n:Int)) ah (I 4))) else none:=rfl
 obtain ⟨s,au⟩:=ahY (tE (a.map .int) (I (n:Int)) ah (I 4)) λp aC=>by
  obtain ⟨k,_,av⟩:=akp.mp aC
  rw[mj,t5] at av
  obtain ⟨i,_,rfl⟩:=av
  exact ⟨i,rfl⟩
 exact ⟨_,s,by rw[e,a_ ⟨by decide,by rw[df];exact cW h rfl⟩],au⟩
theorem TF (C:c9) (X:U) (x0 e f a:Nat) (es:x0%12=C.s) (z:x0/12%4=C.a!) (Y:x0/48%3=C.dv) (Q:x0/144%15=C.k) (b0:m5 e=C.u) (aN:m6 f=C.v)
  (O: ∀n,ex (n+100) cb (b3 0) [(S "script",.val X)] []=I (.next,[(S "script",.val X),(S "drawn",.own [aT x0,aT e,aT f,aT a])],[])): ∃σ' w',cw (0+1000) cb (aE 22).body [(S "script",.val X)] []=I (.ret (.bool ab),σ',w'):=by
 have g: ∀x:Nat,x%4<4:=λx=>iC _ ar
 have J:=abd (w:=[]) X x0 e f a
 have aa:=abe (w:=[]) X x0 e f a
 have ay:=abf (w:=[]) X x0 e f a
 have H:=abg (w:=[]) X x0 e f a
 have o:=abF (w:=[]) X x0 e f a
 have p:=abG (w:=[]) X x0 e f a C.k
 have dA:=Tu X x0 e f a C.k
 rw[Q] at o
 rw[b0,aN] at p
 rw[es,z,Y] at dA
 have i:=yS C.av C.u
 have h:=yS C.av C.v
 have j:(cR C.k C.u).length≤4:=by rw[yQ];exact C.b0
 have m:(cR C.k C.v).length≤4:=by rw[yQ];exact hP C.aN
 have R:=λn=>QN (d:=6) (sc:=(aE 22).scope) (w:=[]) (n:=n) i j (oC a 2 ar ar) (k? (a/2) 4 ar) (g _) (k? a 2 ar)
 have w1:=λn=>QN (d:=6) (sc:=(aE 22).scope) (w:=[]) (n:=n) h m (oC (a/8) 2 ar ar) (k? (a/8/2) 4 ar) (g _) (k? (a/8) 2 ar)
 have e!:=QM j (a%2) (a/2%4)
 have cP:=QM m (a/8%2) (a/8/2%4)
 have hE:=QL i (a%2) (a/2%4)
 have cn:=QL h (a/8%2) (a/8/2%4)
 have t0:=Qb i (r:=a%2) (g (a/2))
 have t1:=Qb h (r:=a/8%2) (g (a/8/2))
 generalize iQ (cR C.k C.u) (a%2) (a/2%4)=T0 at*
 generalize iQ (cR C.k C.v) (a/8%2) (a/8/2%4)=b at*
 have L:=abH (w:=[]) X x0 e f a C.k (wS C.k C.u) (wS C.k C.v) T0 b (a/8) (oC a 8 ar ar) e! cP R w1
 have bZ:(bI (T0++b++[101,10])).length≤1048576∧fE (bI (T0++b++[101,10]))=true:=by
  constructor
  ·rw[←oQ]
   show (T0++b++[101,10]).length≤_
   rw[er,er]
   show _+_+2≤_
   exact bE (cc e! cP)
  ·refine U6 λc ag=> ?_
   rcases ob.mp ag with ag|ag
   ·rcases ob.mp ag with ag|ag
    ·exact hE c ag
    ·exact cn c ag
   ·rcases eo.mp ag with rfl|ag
    ·rfl
    ·rw[ep.mp ag];rfl
 have M:=abI X x0 e f a C.k (wS C.k C.u) (wS C.k C.v) (T0++b++[101,10]) bZ
 have q:=t0 (b++[101,10]) 1
 rw[←iT] at q
 have bp:=t1 [101,10] (1+fi T0)
 have he:hs (.list [.str (wS C.k C.u),.str (wS C.k C.v)]) (.list [.str (wS C.k C.u),.str (wS C.k C.v)])=I true:=by
  have:=(Ak C.av).list.eq ar (x:=[C.u,C.v]) (y:=[C.u,C.v]) (λZ Z=>trivial) (λZ Z=>trivial)
  rw[e1 rfl] at this
  exact this
 have P:=abJ X x0 e f a C.k (wS C.k C.u) (wS C.k C.v) (bI (T0++b++[101,10])) _ _ _ (Im q) (Im bp) he
 have t:=acQ C X [aT x0,aT e,aT f,aT a] (bI (T0++b++[101,10])) (aia (1+fi T0+fi b))
 obtain ⟨σ',A⟩:=Yb (C.gF X [aT x0,aT e,aT f,aT a] (bI (T0++b++[101,10]))) (C.ζ X [aT x0,aT e,aT f,aT a] (bI (T0++b++[101,10]))) (w:=[⟨[],1+fi T0+fi b+1,[]⟩]) (w':=[⟨[],1+fi T0+fi b+1,[]⟩]) (l:=1+fi T0+fi b+1) (T:=T0++b++[101,10]) rfl (Im (W6 _)) rfl (by
  rw[Hr,Hr,r8 1,r8 1]
  rfl)
 have E:h2 (C.mH X [aT x0,aT e,aT f,aT a] (bI (T0++b++[101,10]))) (.own C.E8) (.own [.str (wS C.k C.u),.str (wS C.k C.v)])=wL X x0 e f a C.k (wS C.k C.u) (wS C.k C.v) (bI (T0++b++[101,10])):=by
  rw[dA]
  rfl
 rw[E] at t
 have ae:(aE 22).body=b3 0::b3 1::b3 2::b3 3::b3 4::b3 5::b3 6::b3 7::b3 8::b3 9::(aE 22).body.drop 10:=aY
 refine ⟨σ',[⟨[],1+fi T0+fi b+1,[]⟩],?_⟩
 rw[ae]
 refine (cN (D:=999) O ar 0).trans ?_
 refine (cN (D:=998) J ar 0).trans ?_
 refine (cN (D:=997) aa ar 0).trans ?_
 refine (cN (D:=996) ay ar 0).trans ?_
 refine (cN (D:=995) H ar 0).trans ?_
 refine (cN (D:=994) o ar 0).trans ?_
 refine (cN (D:=993) p ar 0).trans ?_
 refine (cN (D:=992) L ar 0).trans ?_
 refine (cN (D:=991) M ar 0).trans ?_
 refine (cN (D:=990) P ar 0).trans ?_
 exact (t 0).trans (A 0)
theorem aeZ:Ed:=by
 intro e m
 have aC:=λn=>agc e m n
 obtain ⟨L,s,j⟩: ∃L:Nat→List U,∃s:Nat→Int,∀n,iO (.list (e.map .int)) (aT n) .none (.int 4)=I (.list (L n))∧o! (L n)=I (s n):=
  ⟨λn=>Jz (aC n),λn=>Jz (wx (aC n)),λn=>wx (wx (aC n))⟩
 obtain ⟨x0,f⟩:=Ay (a:=s 0+1991) (b:=1000000) ar
 have u:=f.1
 obtain ⟨c,k⟩:=Ay (a:=s 1+53) (b:=1000000) ar
 have o:=k.1
 obtain ⟨d,l⟩:=Ay (a:=s 2+30) (b:=1000000) ar
 have r:=l.1
 obtain ⟨i,g⟩:=Ay (a:=s 3+42) (b:=1000000) ar
 have t:=g.1
 have au:x0%12<12:=iC _ ar
 have b8:x0/48%3<3:=iC _ ar
 obtain ⟨p,q,E⟩:=W8 au b8
 obtain ⟨σ',w',run⟩:=TF ⟨x0%12,x0/12%4,x0/48%3,x0/144%15,m5 c,m6 d,p,q,au,iC _ ar,b8,iC _ ar,Qp c,Qy d,E⟩ _ x0 c d i rfl rfl rfl rfl rfl rfl (abb (w:=[]) (.list (e.map .int)) L s (λn Z=>(j n).1) (λn Z=>(j n).2) x0 c d i u o r t)
 refine ⟨1000,w',?_⟩
 have h:kI (aE 22)=[S "script"]:=aY
 rw[uH (by rw[h];rfl),h]
 have run:cw 1000 ⟨bq,7,(aE 22).scope⟩ (aE 22).body (([S "script"]:List Str).zip ([U.list (e.map .int)].map Slot.val)) []=_:=run
 rw[run]
 rfl
theorem amb:wt.Holds:=abh aeZ
end Mine
end
theorem PySem.Challenge.cw_pm0050_02_holds : PySem.Challenge.rw_pm0050_02.Holds :=
 Mine.amb
