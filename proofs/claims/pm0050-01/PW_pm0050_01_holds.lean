import PyProof.Rows.All
import Wide.All
import OpenK.AllK
import Wide.FinOn
import Lean
import PySem.Challenge.RW_pm0050_01
set_option Elab.async false
set_option maxRecDepth 100000
set_option maxHeartbeats 8000000
set_option linter.all false
set_option backward.match.sparseCases false
set_option genInjectivity false
set_option genSizeOf false
set_option bootstrap.genMatcherCode false
set_option exponentiation.threshold 3000
open Nat renaming ble→cc,le_trans→c5,le_of_ble_eq_true→dm,lt_of_lt_of_le→hA,lt_of_le_of_lt→ic,add_le_add→B3,mul_le_mul_left→uW,sub_le→hC,add_assoc→uX,sub_add_cancel→x1,le_of_not_lt→xx,lt_of_not_le→Bs,beq→dy,eq_of_beq_eq_true→ia,le_of_not_le→qD,le_add_right→g4,le_add_left→ib,sub_ne_zero_of_lt→Gw,lt_of_le_of_ne→GA,sub_pos_of_lt→BJ,add_comm→kz,sub_sub_self→OF,le_succ_of_le→xQ,not_le_of_lt→OL,sub_le_of_le_add→qJ,add_sub_cancel'→uS,le_antisymm→f3,ne_of_lt→jX,pos_of_ne_zero→G2,eq_zero_of_add_eq_zero_right→afH,eq_zero_of_add_eq_zero_left→afI,not_succ_le_self→afJ,le_refl→a3,le_of_eq→b0,zero_le→e3,lt_of_succ_lt→G6,lt_trans→qP,not_lt→F5,mul_le_mul_right→sg,le_of_succ_le→i9,lt_irrefl→nT,lt_of_add_right_lt→aew,succ_add_eq_add_succ→N6,lt_of_succ_le→Gg,lt_succ_self→gF,lt_succ_of_lt→mV,succ_ne_self→aeF,le_succ→nW,succ_le_succ→Ol,le_of_lt→fK,succ_ne_zero→sq,min_eq_left→mX,le_zero→su,lt_or_eq_of_le→k',le_of_lt_succ→hV,sub_eq_zero_of_le→ae0,min_eq_right→xI,min_le_right→xJ,add_sub_self_left→ae2,lt_add_one→OE,exists_eq_succ_of_ne_zero→GC,ne_of_gt→ju,lt_of_succ_lt_succ→uN,zero_add→kA,eq_of_lt_succ_of_not_lt→ae5,sub_self→qH,add_left_cancel→OG,le_add_right_of_le→ph,add_zero→OI,sub_one_lt_of_lt→BN,lt_of_lt_of_eq→GG,add_le_add_right→uQ,not_lt_zero→GH,zero_mul→BO,add_right_comm→sx,sub_zero→OP,succ_pos→BQ,pow_le_pow_right→GN,le_of_add_left_le→afj,shiftRight→kC,add→e1,two_pow_pos→eh,shiftRight_eq_div_pow→l0,ne_zero_of_lt→jW,log2_eq_iff→BS,le_log2→OR,log2_lt→GO,pow_add→jw,div_lt_iff_lt_mul→afl,ble_eq_true_of_le→lb,mod→qL,shiftLeft→gP,sub→e2,mul→qM,mul_assoc→xU,mul_lt_mul_of_pos_right→BV,shiftLeft_eq→pj,one_mul→xV,beq_refl→BW,mod_two_eq_zero_or_one→afm,add_sub_of_le→afn,mod_eq_of_lt→GP,add_lt_of_lt_sub'→OS,min_le_left→OT,mod_lt→qN,mul_one→lh,mul_pos→OU,zero_lt_of_lt→xW,pow_zero→sA,mul_le_mul_right_iff→afp,mul_right_comm→OV,mul_ne_zero→GQ,ne_of_beq_eq_false→afr,sub_lt_left_of_lt_add→afs,lt_trichotomy→afx,add_sub_cancel_left→afA,not_lt_of_le→GV,mul_add_mod→GY,lt_add_right→OW,lt_succ_of_le→GZ,succ_le_of_lt→B1
open Bool renaming eq_false_iff→hU,and_eq_true_iff→g7,false_ne_true→hB,or_eq_false_iff→Bv,false_eq_true→Bx,or_eq_true→uG,and_eq_true→mW,or_eq_true_iff→sk,not_eq_true'→qE,not_eq_false→aeJ,eq_iff_iff→hz,noConfusion→BZ
open Int renaming neg_sub→uF,toNat_sub→xB,add_comm→nU,sub_add_cancel→Oa,sub_le_sub_right→Gj,ofNat_le→nV,min_eq_right→aeG,ofNat_sub→so,natAbs_neg→Gp,sub_eq_add_neg→aeR,ofNat_lt→nX,sub_zero→sy,ofNat_inj→uT,le_of_sub_nonneg→BU,not_le→uU,neg_neg_of_pos→afq,add_sub_add_right→afB,natCast_add→G0,not_lt→xZ,le_trans→G1,natCast_nonneg→l1,sub_neg→B2,lt_of_le_of_lt→OZ,lt_trans→sF,toNat_lt→Gb,le_of_lt→Gd,max_eq_right→aeY,add_sub_cancel→aeZ,not_ofNat_neg→xR,ofNat_ne_zero→BP,natCast_pow→afi,zero_le_ofNat→afo,fmod_eq_emod_of_nonneg→aft
open PySem renaming Stmt→bY,Program→sE,DefRec→iN,Params→f6,Addr→au,Value→af,Heap→aR,World→pn,Shared→aw,Around→bO,wpAny→bc,model→bo,wpAny_pure→b6,wpAny_bind→aM,wpAny_standAt→fL,wpAny_holding→g8,Result→m2,wpAny_call→G5,Operator→iO,wpAny_with_toks→k5,PyData→i7,Reads→kx,CmpOp→js,JoinOk→qB,Keyword→sh,NameKind→fB,wpAny_Name→F8,wpAny_loadName_local→Bu,wpAny_loadName_cell→aep,wpAny_loadName_free→aeq,holding→aes,wpAny_truthy_bool→F9,wpAny_Constant_int→F',wpAny_Constant_str→N2,wpAny_newObj_type→xA,wpAny_getItem_list_neg→aet,typeIs_str→sj,wpAny_pyIter_list→N8,assign_Name→aey,size_pos_of_not_empty→aez,call_meets→xF,wpAny_Call_method_lateS→Oc,pushCells_keeps→Og,wpAny_mono→pd,Flow→iM,exec_Assign_Name→Om,wpAny_rule→BA,wpAny_Expr_any→Ot,codeAny_forLoop_any→aeQ,wpAny_execs_nil→lY,wpAny_If→BC,wpAny_Return_some→Gq,wpAny_execs_cons→gO,FuncData→dW,wpAny_of_eq→uI,codeAny_call_function→aeT,DictEntry→Gs,wpAny_loadPart→uJ,wpAny_mkText→Gu,aRefKeyMayBeTheName_at→aeV,Arguments→pg,typeLookup_type→uK,builtinLookup_eq_fast→uL,isSubtype_type→Gv,wpAny_attempt→Gy,wpAny_call_entry→BE,Builtin→BF,arm_eval_Attribute→Oz,wpAny_letTemporaryGo→OA,wpAny_callSpecial?_slot→OC,wpAny_field→xN,wpAny_setField_rec→OD,plainObj_wpAny_Assign_Attribute→BL
open PySem.Str renaming ofString→ab,length_append→gQ,ext'→B0,cps_append→GW
open PySem.PyData renaming keyHash→cX,eqv→i8,strOk→d8,canLayAll0→Gi,canLay0→xK,depth→xM,depthAll→ON,eqvAll→GJ
open Option.some renaming inj→B4,injEq→Ob
open PySem.Obj renaming data→pk,putName→pf
open List renaming getElem?_append_left→qO,getElem?_eq_some_iff→hW,append_nil→fF,drop_nil→G3,take_nil→G4,append_assoc→jY,range→bI,isEmpty_iff→k7,toArray→mU,size_toArray→eN,getElem?_toArray→si,filterMap_cons_none→N4,filterMap_cons_some→N5,length_filterMap_le→aev,mem_of_getElem?→iK,drop_eq_getElem_cons→aex,take_succ_cons→Ge,take→By,drop→xC,drop_zero→Gf,take_of_length_le→o',findIdx?_cons→N9,mem_singleton→fs,mem_cons→d3,getElem?_map→dF,sum_cons→xD,getD_eq_getElem?_getD→iL,getElem?_eq_getElem→hy,take_length→xE,map_cons→fD,length_map→bV,find?_some→aeD,mem_of_find?_eq_some→aeE,mem_cons_self→eZ,mem_cons_of_mem→e0,forIn_cons→Of,lookup_cons→lW,lookup_cons_self→aeH,all_eq_true→pb,nodup_cons→Gn,mem_map_of_mem→Oh,contains_iff_mem→aeI,mem_map→g0,mem_filter→Oi,length→sm,length_drop→jV,length_nil→Oj,length_append→eP,eraseDups_cons→uH,filter_cons→lX,reverse_cons→aeK,length_reverse→aeL,setIfInBounds_toArray→aeM,eraseIdx_eq_take_drop_succ→Oq,zip_cons_cons→sr,lookup_append→aeS,mem_of_mem_take→Ou,of_mem_zip→Ov,lookup→Ow,forall_mem_cons→sv,mem_of_mem_drop→Oy,getElem?_set→xH,map_congr_left→BG,drop_length→ae1,drop_eq_nil_of_le→GB,length_range→fE,length_eq_zero_iff→OB,ext_getElem?→uM,getElem?_eq_none→qF,length_cons→la,nil_append→BK,mem_append→uO,toList_toArray→GD,length_singleton→xO,getElem?_append_right→qG,filter_eq_self→ae6,count_cons→qI,range_succ→lZ,map_append→mY,count_append→ae7,mem_range→kB,filter→GI,getLast?_eq_getElem?→OK,getElem_mem→uR,getLast?_map→ae8,length_pos_iff→ae9,getElem?_range→jv,map_eq_nil_iff→xS,take_succ→OM,map_nil→xT,mem_append_left→afa,nodup_append→afb,foldl_cons→OO,eq_nil_of_length_eq_zero→afc,foldl_append→GK,map_take→OQ,map→GL,map_map→qK,eraseIdx_cons_succ→afg,length_take→BR,cons_ne_nil→afk,range'→sD,range'_succ→afu,flatten_cons→afv,mem_range'_1→GR,getElem?_drop→afy,getElem?_take_of_lt→afz,drop_left→xY,take_left→GS,filter_append→uV,filter_nil→afC,getElem?_of_mem→afD,not_mem_nil→m1,take_take→afE,range_eq_range'→afF
open PySem.Builtin.Int renaming intBits→O0
open PySem.Float64 renaming add→cF,sub→bA,mul→cP,isZero→lj,div→eH,divmod→i',ofInt→mT,neg→jr,cmp→hx,decode→lV,truncOf→uE,isNaN→OH,halfEven→mZ,roundMag→sz,infMag→lg,shift→ei,pack→BX,ofBin→g5,ofFrac→BY,zero→g6,sgn→cC,align→f5,fmod→sC,lt→xX
open Nat.ToInt renaming of_le→aem,add_congr→afh
open Exists renaming elim→gZ
open PySem.Builtin.Str renaming occurrences→k6,strSliceIndices→F6,partsBetween→F7,strKind→GU,tooLong→agF
open Option renaming map→N0,bind→bf,map_eq_some_iff→o9,map_some→Gk,isNone_iff_eq_none→Gr,eq_none_iff_forall_ne_some→GF,bind_some→OJ,getD_none→afd,getD_some→afe
open PySem.AutoFloatOps renaming lt_0→aen,gt_0→aeo
open PySem.SeqAt renaming canLay_of_shaped→xy
open PyProof.Rows renaming room_in_shaped→N1,tail_any→Bw,callWith_type→aeC,spliced_more→BH,spliced_none→BI
open PySem.Txt renaming startswith→jt,endswith→ky,count→Bt,join→gq,split→qC
open PySem.Calls renaming Name_function_global→aer,spliced_cons→N3,spliced_nil→Ga,evalArgs_plain→Gl,callWith_builtin→Bz
open PySem.Heap renaming lt_size→k8,get?_push_of_some→eE,get?_push_size→eO,ExtBut→N7,size_push→pa,get?_none_of_le→k9,get?_update_other→BB,get?_update_self→Ox
open PySem.F renaming slot_str_getitem→aeu,plainAttrs_str→Gh,plainAttrs_list→aeA,slot_list_index→aeB,slot_str_split→Gm,entry_str_split→Od,args_str_split_2→Oe,slot_list_append→aeN,type_list_append→aeO,slot_list_insert→aeP
open Ne renaming symm→eg
open Eq renaming symm→fC,trans→BD
open PySem.Builtin.Range renaming rangeSize→N'
open Nat.succ renaming inj→pe
open PySem.Builtin.List renaming listFitsIndex→Oo
open Array renaming toList_inj→xG,any_toList→aeU,all_eq_true'→Gz,getElem?_toList→afw,toList_append→GX
open PySem.Builtin.ObjectAttr renaming find→aeW,ownThenClass→agA,inOwnDict→agB,ownDict→agC,storeInOwnDict→ae4,ownDictForStores→agD,storeInDict→agE
open PySem.W.Looks renaming of_pure→Gx
open PySem.Data renaming noConfusion→aeX
open PySem.Builtin.SmallTypes renaming stopIteration→ae3
open PySem.W renaming LooseAre→xP,ghost_K→BM
open PySem.Challenge renaming rw_pm0050_01→uP
open List.Perm renaming refl→aff
open UInt64 renaming ofNat→cK
open PySem.StrLaws renaming glued_eq_join→OX
open Classical renaming choose→afG,choose_spec→OY
section
namespace Mine
theorem bX {a b c:Nat} (h:a≤b) (e:cc b c=true):a≤c:=c5 h (dm e)
theorem iA {a b c:Nat} (h:a<b) (e:cc b c=true):a<c:=hA h (dm e)
theorem h6 {a b c:Nat} (h:a≤b) (e:cc b.succ c=true):a<c:=ic h (dm e)
theorem yq {a b:Nat} (e:cc a b=true):a≤b:=dm e
theorem yd {a b x y c:Nat} (h:a≤x) (h':b≤y) (e:cc (x+y) c=true):a+b≤c:=c5 (B3 h h') (dm e)
theorem u4 {a b x y:Nat} (h:a≤x) (h':b≤y):a+b≤x+y:=B3 h h'
theorem Ag {a x k:Nat} (h:a≤x):k*a≤k*x:=uW k h
theorem mz {a b x:Nat} (e:a=b) (h:b≤x):a≤x:=e▸h
theorem uj {a b c:Nat} (h:a≤b):a-c≤b:=c5 (hC a c) h
theorem acw {a b n:Nat} (h:a≤b):n+(b-a)+a=n+b:=by rw[uX,x1 h]
theorem pred_succ {a:Nat} (h:0<a):a=a-1+1:=(x1 h).symm
theorem i2 {a b:Nat} (h: ¬a<b):b≤a:=xx h
theorem t5 {a b:Nat} (h: ¬a≤b):b<a:=Bs h
theorem Qi {a b:Nat} (h: ¬a≤b):cc a b=false:=hU.mpr fun z=>h (dm z)
theorem CB {a b:Nat} (h: ¬a=b):dy a b=false:=hU.mpr fun z=>h (ia z)
theorem Be (a b:Nat):(-((a:Int)-(b:Int))).toNat=b-a:=by rw[uF];exact xB b a
theorem Nf (a b:Nat):(- -((a:Int)-(b:Int))).toNat=a-b:=by rw[Int.neg_neg];exact xB a b
theorem Mw (a b c:Int):a-c-(b-c)=a-b:=by rw[Int.sub_sub,nU c,Oa]
theorem um (a b:Nat) (c:Int):((a:Int)-c-((b:Int)-c)).toNat=a-b:=by rw[Mw];exact xB a b
theorem acR (a:Nat) (c:Int):((a:Int)-c+c).toNat=a:=by rw[Oa];rfl
theorem uo (a:Nat) (c:Int):((a:Int)-c-((a:Int)-c)).toNat=0:=by rw[Int.sub_self];rfl
theorem EM {a b:Nat} (c:Int) (h:a≤b):(a:Int)-c=min ((a:Int)-c) ((b:Int)-c):=(Int.min_eq_left (Gj (nV.mpr h) c)).symm
theorem Lf {a b:Nat} (c:Int) (h: ¬a≤b):(b:Int)-c=min ((a:Int)-c) ((b:Int)-c):=(aeG (Gj (nV.mpr (qD h)) c)).symm
theorem Lg {a b:Nat} (c:Int) (h:a≤b):min ((a:Int)-c) ((b:Int)-c)=(a:Int)-c:=(EM c h).symm
theorem s9 {a b:Nat} (h:b≤a):(a:Int)-b=((a-b:Nat):Int):=(so h).symm
theorem vo {a b:Nat} (h:b≤a):(b:Int)-a= -((a-b:Nat):Int):=by rw[so h,uF]
theorem It {a b:Nat} (h: ¬b≤a):(a:Int)-b= -((b-a:Nat):Int):=vo (qD h)
theorem afP (P Q:Nat):((P:Int)+Q).natAbs=P+Q:=rfl
theorem afQ (P Q:Nat):(-(P:Int)+ -(Q:Int)).natAbs=P+Q:=by rw[←Int.neg_add,Gp];rfl
theorem Pu {P Q:Nat} (h:Q≤P):((P:Int)+ -(Q:Int)).natAbs=P-Q:=by rw[←aeR,s9 h];rfl
theorem Pw {P Q:Nat} (h:P≤Q):((P:Int)+ -(Q:Int)).natAbs=Q-P:=by rw[←aeR,vo h,Gp];rfl
theorem afR {P Q:Nat} (h:Q≤P):(-(P:Int)+(Q:Int)).natAbs=P-Q:=by rw[nU];exact Pw h
theorem afS {P Q:Nat} (h:P≤Q):(-(P:Int)+(Q:Int)).natAbs=Q-P:=by rw[nU];exact Pu h
theorem Px (P:Nat):(-(P:Int)).natAbs=P:=Gp _
theorem abM {P Q N:Nat} (h:P+Q<N):P-Q<N:=ic (hC _ _) (ic (g4 _ _) h)
theorem abN {P Q N:Nat} (h:P+Q<N):Q-P<N:=ic (hC _ _) (ic (ib _ _) h)
theorem ZN {P Q:Nat} (h: ¬P=Q) (g:P≤Q):Q-P≠0:=Gw (GA g h)
theorem ZO {P Q:Nat} (h: ¬P≤Q):P-Q≠0:=Gw (Bs h)
theorem agk {P Q:Nat} (h: ¬P=Q) (g:P≤Q):(P:Int)+ -(Q:Int)<0:=Int.sub_neg_of_lt (nX.mpr (GA g h))
theorem abw {j c:Nat} (h:j<c):c-j=c-(j+1)+1:=(x1 (BJ h)).symm
theorem Mf {a t:Nat} (h:a≤t):1+t-(t+1-a)=a:=by rw[kz 1];exact OF (xQ h)
theorem zs {a:Nat} (s:Int):(a:Int)-((0:Nat):Int)=a:=sy _
theorem ago {a b:Nat} (h:a<b): ¬b≤a:=OL h
theorem agv {a b:Nat} (h:a≤b+1):a-1≤b:=qJ h
theorem agx {a b:Nat} (h:a≤b):a+(b-a)=b:=uS h
theorem zK (a b:Nat):((a:Int)<(b:Int))↔a<b:=nX
theorem ii (a b:Nat):((a:Int)=(b:Int))↔a=b:=uT
theorem Lq {a b:Nat} (h:a≤b): -((a:Int)-b)≥0:=by rw[uF];exact Int.sub_nonneg_of_le (nV.mpr h)
theorem Lr {a b:Nat} (h: ¬a≤b): ¬ -((a:Int)-b)≥0:=by rw[uF];exact fun z=>h (nV.mp (BU z))
theorem Ls {a b:Nat} (h:a≤b) (c: ¬a=b): ¬(a:Int)-b≥0:=fun z=>c (f3 h (nV.mp (BU z)))
theorem Zn {j:Nat} (h:0<j): ¬ -(j:Int)≥0:=uU.mpr (afq (nX.mpr h))
theorem s3 {T G N:Nat} (h:T≤G) (g:G≤N):N-T=G-T+(N-G):=by rw[kz];exact (Nat.sub_add_sub_cancel g h).symm
theorem fV {a b c:Nat} (h:a≤b) (e:cc b.succ c=true):a≠c:=jX (h6 h e)
theorem RI {a:Nat} (h: ¬a=0):(a:Int)-1075=((a-1:Nat):Int)-1074:=by
 cases a with
 |zero=>exact absurd rfl h
 |succ n=>exact afB (n:Int) 1 1074
theorem Py {a b:Nat} (h:1074≤a+b):(a:Int)-1074+((b:Int)-1074)=((a+b-1074:Nat):Int)-1074:=by rw[so h,G0];lia
theorem Zo (P Q:Nat): ¬(P:Int)< -(Q:Int):=xZ.mpr (G1 (Int.neg_nonpos_of_nonneg (l1 Q)) (l1 P))
theorem Zq {P Q:Nat} (c: ¬P+Q=0): -(P:Int)<Q:=Int.lt_of_sub_pos (by rw[B2,nU];exact nX.mpr (G2 c))
theorem Zp {P Q:Nat} (c:P+Q=0): ¬ -(P:Int)<Q:=by
 cases afH c
 cases afI c
 decide
theorem IC (P Q:Nat):(P:Int)= -(Q:Int)↔P+Q=0:=⟨fun h=>uT.mp ((congrArg (·+(Q:Int)) h).trans (Int.add_left_neg _)),fun c=>by
 cases afH c
 cases afI c
 rfl⟩
theorem R6 (P Q:Nat): -(P:Int)=(Q:Int)↔P+Q=0:=by rw[eq_comm,IC,kz]
theorem R7 (P Q:Nat): -(P:Int)= -(Q:Int)↔P=Q:=Int.neg_inj.trans uT
theorem Qt (c p q:Nat):((c+p:Nat):Int)-((c+q:Nat):Int)=(p:Int)-q:=Int.add_sub_add_left (c:Int) p q
theorem Qu (c p q:Nat):((p+c:Nat):Int)-((q+c:Nat):Int)=(p:Int)-q:=afB (p:Int) c q
theorem Zt (p:Nat): -((p:Int)-((0:Nat):Int))= -(p:Int):=congrArg _ (sy _)
theorem Zx (q:Nat): -(((0:Nat):Int)-(q:Int))=q:=(uF _ _).trans (sy _)
theorem Zu (q s:Nat): -(((0:Nat):Int)-q-s)=((q+s:Nat):Int):=by rw[Int.sub_sub,uF];exact sy _
theorem Zv {p s:Nat} (h:p≤s): -((p:Int)-((0:Nat):Int)-s)=((s-p:Nat):Int):=(congrArg (fun z=> -(z-(s:Int))) (sy _)).trans ((uF _ _).trans (s9 h))
theorem Zw {p s:Nat} (h: ¬p≤s): -((p:Int)-((0:Nat):Int)-s)= -((p-s:Nat):Int):=(congrArg (fun z=> -(z-(s:Int))) (sy _)).trans (congrArg _ (s9 (qD h)))
theorem Fu {p s:Nat} (h: ¬p≤s):0<p-s:=BJ (Bs h)
theorem abZ {p s:Nat} (h: ¬p≤s):s+(p-s)=p:=uS (qD h)
theorem lo1 {E F:Nat} (h:F≤E+1021): -1021≤(E:Int)-F:=by omega
theorem Li {E F:Nat} (s:Nat) (h:F≤E+1021) (aC:cc s 53=true):max ((E:Int)-F-(s:Int)) (-1074)=(E:Int)-F-(s:Int):=Int.max_eq_left (G1 (Int.sub_le_sub_left (nV.mpr (dm aC)) (-1021)) (Gj (lo1 h) _))
theorem Nc (E F:Nat) (a b:Int) {c:Nat} (h:b-a=c):((E:Int)-F-a+b).toNat=E+c-F:=by
 have:(E:Int)-F-a+b=((E+c:Nat):Int)-F:=by rw[G0,←h];lia
 rw[this];exact xB (E+c) F
theorem YW {l G T:Nat} (h:G≤1074) (e:l+G-52=T):max ((l:Int)-((1074-G:Nat):Int)-52) (-1074)=(T:Int)-1074:=by
 have aF:(l:Int)-((1074-G:Nat):Int)-52=((l+G:Nat):Int)-52-1074:=by rw[so h,G0];lia
 have aE:(-1074:Int)=0-1074:=rfl
 rw[aF,aE,Int.sub_max_sub_right,←Int.toNat_eq_max,←e]
 exact congrArg (fun n:Nat=>(n:Int)-1074) (xB (l+G) 52)
theorem nb {i:Int} {n:Nat} (h:i.natAbs<n): -(n:Int)<i∧i<n:=⟨Int.neg_lt_of_neg_lt (OZ Int.le_natAbs (Gp i▸nX.mpr h)),OZ Int.le_natAbs (nX.mpr h)⟩
theorem aH {a b x y:Nat} (h:x≤y) (v:a+y≤b+x:=by simp+arith only):a≤b:=Nat.le_of_add_le_add_right (c5 (Nat.add_le_add_left h a) v)
theorem yN {a b x y:Nat} (k:Nat) (h:x≤y) (v:k*a+y+1≤k*(b+1)+x:=by simp+arith only):a≤b:=xx fun z=>afJ _ (c5 v (B3 (uW k z) h))
theorem fQ {p:Prop} {x y:Nat} (h:x≤y) (v:y+1≤x:=by simp+arith only):p:=absurd h (OL v)
theorem aI {a b c d:Nat} (h:a≤b) (h':c≤d):a+c≤b+d:=B3 h h'
theorem lm {a b:Nat} (k:Nat) (h:a≤b):k*a≤k*b:=uW k h
theorem fU (a b:Nat):a≤a-b+b:=Nat.le_add_of_sub_le (a3 (a-b))
theorem eY {a b:Nat} (h:b≤a):a-b+b≤a:=b0 (x1 h)
theorem bL {a b:Nat} (h:a<b):a+1≤b:=h
theorem Zr {a b:Nat} (h: ¬a≤b):b+1≤a:=Bs h
theorem ZM {a:Nat} (h: ¬a=0):1≤a:=G2 h
theorem eq1 {a b:Nat} (h:a=b):b≤a:=b0 h.symm
end Mine
end
section
open PySem PySem.W PyProof.Rows PySem.Challenge
namespace Mine
noncomputable abbrev uf:RowW:=rw_pm0050_01.row.toRowW
noncomputable def Qm (i:Nat):bY:=pw_pm0050_01.main.body.getD i (.Pass ⟨0,0,0,0⟩)
noncomputable def fZ:sE:={pw_pm0050_01 with main:={pw_pm0050_01.main with body:=([0,2,4,5,6,7,8,9,10,11,12,13,15,16,18,19,20,21,22,23,24,25,26]:List Nat).map Qm}}
noncomputable def MY (i:Nat):bY:=fZ.main.body.getD i (.Pass ⟨0,0,0,0⟩)
noncomputable def Iv:bY→iN
 | .FunctionDef name args body _ _ _ sc _ _ pos=>⟨name,args,body,sc,pos⟩
 |_=>⟨ab "",⟨[],[],none,[],[],none,[]⟩,[],default,⟨0,0,0,0⟩⟩
noncomputable def Q5:bY→List bY
 | .ClassDef _ _ _ b .. =>b
 |_=>[]
noncomputable def aq (i:Nat):iN:=Iv (MY i)
noncomputable def lH (i j:Nat):iN:=Iv ((Q5 (MY i)).getD j (.Pass ⟨0,0,0,0⟩))
noncomputable abbrev nB:List Str:=[ab "ONE_THIRD",ab "ONE_SIXTH",ab "TWO_THIRD"]
noncomputable abbrev mA:List (Str×WData):=[(ab "ONE_THIRD",.float 4599676419421066581),(ab "ONE_SIXTH",.float 4595172819793696085),(ab "TWO_THIRD",.float 4604180019048437077)]
noncomputable def dA (P:f6):Frag:=
 [(2,{cls:=Value.none,data:=Data.dict #[]}),
  (3,{cls:=Value.type "dict",data:=Data.dict #[{hash:=cX P (ab "__name__"),key:=Value.str (ab "__name__") 165,val:=Value.str (ab "law_pm0050_01") 379},{hash:=cX P (ab "__doc__"),key:=Value.str (ab "__doc__") 166,val:=Value.none},{hash:=cX P (ab "__package__"),key:=Value.str (ab "__package__") 167,val:=Value.none},{hash:=cX P (ab "__loader__"),key:=Value.str (ab "__loader__") 168,val:=Value.builtin "__main__.__loader__#opaque"},{hash:=cX P (ab "__spec__"),key:=Value.str (ab "__spec__") 169,val:=Value.none},{hash:=cX P (ab "__annotations__"),key:=Value.str (ab "__annotations__") 170,val:=Value.ref 6},{hash:=cX P (ab "__builtins__"),key:=Value.str (ab "__builtins__") 171,val:=Value.ref 4},{hash:=cX P (ab "__file__"),key:=Value.str (ab "__file__") 173,val:=Value.str (ab "/claim/cut.py") 172},{hash:=cX P (ab "__cached__"),key:=Value.str (ab "__cached__") 174,val:=Value.none},{hash:=cX P (ab "_wall"),key:=Value.str (ab "_wall") 193,val:=Value.ref 21},{hash:=cX P (ab "_netrclex"),key:=Value.str (ab "_netrclex") 253,val:=Value.ref 59},{hash:=cX P (ab "ONE_THIRD"),key:=Value.str (ab "ONE_THIRD") 259,val:=Value.float 4599676419421066581 258},{hash:=cX P (ab "ONE_SIXTH"),key:=Value.str (ab "ONE_SIXTH") 263,val:=Value.float 4595172819793696085 262},{hash:=cX P (ab "TWO_THIRD"),key:=Value.str (ab "TWO_THIRD") 267,val:=Value.float 4604180019048437077 266},{hash:=cX P (ab "rgb_to_yiq"),key:=Value.str (ab "rgb_to_yiq") 279,val:=Value.ref 70},{hash:=cX P (ab "yiq_to_rgb"),key:=Value.str (ab "yiq_to_rgb") 291,val:=Value.ref 77},{hash:=cX P (ab "rgb_to_hls"),key:=Value.str (ab "rgb_to_hls") 310,val:=Value.ref 84},{hash:=cX P (ab "hls_to_rgb"),key:=Value.str (ab "hls_to_rgb") 321,val:=Value.ref 91},{hash:=cX P (ab "_v"),key:=Value.str (ab "_v") 330,val:=Value.ref 98},{hash:=cX P (ab "rgb_to_hsv"),key:=Value.str (ab "rgb_to_hsv") 348,val:=Value.ref 105},{hash:=cX P (ab "hsv_to_rgb"),key:=Value.str (ab "hsv_to_rgb") 362,val:=Value.ref 112},{hash:=cX P (ab "ELLIPSIS_MARKER"),key:=Value.str (ab "ELLIPSIS_MARKER") 366,val:=Value.str (ab "...") 365},{hash:=cX P (ab "_ellipsis_match"),key:=Value.str (ab "_ellipsis_match") 378,val:=Value.ref 119},{hash:=cX P (ab "_law_stream"),key:=Value.str (ab "_law_stream") 391,val:=Value.ref 126},{hash:=cX P (ab "_law_written"),key:=Value.str (ab "_law_written") 397,val:=Value.ref 131},{hash:=cX P (ab "_law_moved"),key:=Value.str (ab "_law_moved") 403,val:=Value.ref 136},{hash:=cX P (ab "_law_turned"),key:=Value.str (ab "_law_turned") 409,val:=Value.ref 141},{hash:=cX P (ab "_law_rows"),key:=Value.str (ab "_law_rows") 426,val:=Value.ref 148},{hash:=cX P (ab "_law_used"),key:=Value.str (ab "_law_used") 432,val:=Value.ref 153},{hash:=cX P (ab "_law_met"),key:=Value.str (ab "_law_met") 443,val:=Value.ref 160},{hash:=cX P (ab "_law_led_home"),key:=Value.str (ab "_law_led_home") 454,val:=Value.ref 167},{hash:=cX P (ab "law"),key:=Value.str (ab "law") 460,val:=Value.ref 172}] 32}),
  (29,{cls:=Value.type "tuple",data:=Data.seq #[]}),
  (31,{cls:=Value.type "tuple",data:=Data.seq #[Value.str (ab "self") 211,Value.str (ab "fp") 212]}),
  (32,{cls:=Value.type "tuple",data:=Data.seq #[]}),
  (34,{cls:=Value.type "code",data:=Data.fields #[Value.str (ab "__init__") 208,Value.str (ab "_netrclex.__init__") 209,Value.str (ab "/claim/cut.py") 210,Value.int 7 0,Value.int 2 0,Value.int 0 0,Value.int 0 0,Value.int 3 0,Value.ref 29,Value.bool true,Value.int 181 0,Value.ref 30,Value.none,Value.ref 31,Value.ref 32,Value.ref 33,Value.int 213 0,Value.int 7 0,Value.str (ab "/claim/cut.py") 214]}),
  (35,{cls:=Value.type "function",data:=Data.func {name:=ab "__init__",qualname:=ab "_netrclex.__init__",params:=(lH 1 0).params,body:= .stmts (lH 1 0).body,scope:=(lH 1 0).scope,globals:=3,closure:=[],defaults:=Value.none,kwdefaults:=Value.none,pyModule:=Value.str (ab "cpy313.netrc") 194,code:=Value.ref 34}}),
  (36,{cls:=Value.type "tuple",data:=Data.seq #[]}),
  (38,{cls:=Value.type "tuple",data:=Data.seq #[Value.str (ab "self") 219,Value.str (ab "ch") 220]}),
  (39,{cls:=Value.type "tuple",data:=Data.seq #[]}),
  (41,{cls:=Value.type "code",data:=Data.fields #[Value.str (ab "_read_char") 216,Value.str (ab "_netrclex._read_char") 217,Value.str (ab "/claim/cut.py") 218,Value.int 13 0,Value.int 1 0,Value.int 0 0,Value.int 0 0,Value.int 3 0,Value.ref 36,Value.bool true,Value.int 181 0,Value.ref 37,Value.none,Value.ref 38,Value.ref 39,Value.ref 40,Value.int 221 0,Value.int 13 0,Value.str (ab "/claim/cut.py") 222]}),
  (42,{cls:=Value.type "function",data:=Data.func {name:=ab "_read_char",qualname:=ab "_netrclex._read_char",params:=(lH 1 1).params,body:= .stmts (lH 1 1).body,scope:=(lH 1 1).scope,globals:=3,closure:=[],defaults:=Value.none,kwdefaults:=Value.none,pyModule:=Value.str (ab "cpy313.netrc") 194,code:=Value.ref 41}}),
  (43,{cls:=Value.type "tuple",data:=Data.seq #[]}),
  (45,{cls:=Value.type "tuple",data:=Data.seq #[Value.str (ab "self") 227,Value.str (ab "token") 228,Value.str (ab "fiter") 229,Value.str (ab "ch") 230]}),
  (46,{cls:=Value.type "tuple",data:=Data.seq #[]}),
  (48,{cls:=Value.type "code",data:=Data.fields #[Value.str (ab "get_token") 224,Value.str (ab "_netrclex.get_token") 225,Value.str (ab "/claim/cut.py") 226,Value.int 19 0,Value.int 1 0,Value.int 0 0,Value.int 0 0,Value.int 3 0,Value.ref 43,Value.bool true,Value.int 181 0,Value.ref 44,Value.none,Value.ref 45,Value.ref 46,Value.ref 47,Value.int 231 0,Value.int 19 0,Value.str (ab "/claim/cut.py") 232]}),
  (49,{cls:=Value.type "function",data:=Data.func {name:=ab "get_token",qualname:=ab "_netrclex.get_token",params:=(lH 1 2).params,body:= .stmts (lH 1 2).body,scope:=(lH 1 2).scope,globals:=3,closure:=[],defaults:=Value.none,kwdefaults:=Value.none,pyModule:=Value.str (ab "cpy313.netrc") 194,code:=Value.ref 48}}),
  (50,{cls:=Value.type "tuple",data:=Data.seq #[]}),
  (52,{cls:=Value.type "tuple",data:=Data.seq #[Value.str (ab "self") 237,Value.str (ab "token") 238]}),
  (53,{cls:=Value.type "tuple",data:=Data.seq #[]}),
  (55,{cls:=Value.type "code",data:=Data.fields #[Value.str (ab "push_token") 234,Value.str (ab "_netrclex.push_token") 235,Value.str (ab "/claim/cut.py") 236,Value.int 46 0,Value.int 2 0,Value.int 0 0,Value.int 0 0,Value.int 3 0,Value.ref 50,Value.bool true,Value.int 181 0,Value.ref 51,Value.none,Value.ref 52,Value.ref 53,Value.ref 54,Value.int 239 0,Value.int 46 0,Value.str (ab "/claim/cut.py") 240]}),
  (56,{cls:=Value.type "function",data:=Data.func {name:=ab "push_token",qualname:=ab "_netrclex.push_token",params:=(lH 1 3).params,body:= .stmts (lH 1 3).body,scope:=(lH 1 3).scope,globals:=3,closure:=[],defaults:=Value.none,kwdefaults:=Value.none,pyModule:=Value.str (ab "cpy313.netrc") 194,code:=Value.ref 55}}),
  (57,{cls:=Value.type "tuple",data:=Data.seq #[Value.str (ab "instream") 242,Value.str (ab "lineno") 243,Value.str (ab "pushback") 244,Value.str (ab "whitespace") 245]}),
  (58,{cls:=Value.type "dict",data:=Data.dict #[{hash:=cX P (ab "__module__"),key:=Value.str (ab "__module__") 203,val:=Value.str (ab "cpy313.netrc") 194},{hash:=cX P (ab "__firstlineno__"),key:=Value.str (ab "__firstlineno__") 207,val:=Value.int 5 206},{hash:=cX P (ab "__init__"),key:=Value.str (ab "__init__") 215,val:=Value.ref 35},{hash:=cX P (ab "_read_char"),key:=Value.str (ab "_read_char") 223,val:=Value.ref 42},{hash:=cX P (ab "get_token"),key:=Value.str (ab "get_token") 233,val:=Value.ref 49},{hash:=cX P (ab "push_token"),key:=Value.str (ab "push_token") 241,val:=Value.ref 56},{hash:=cX P (ab "__static_attributes__"),key:=Value.str (ab "__static_attributes__") 246,val:=Value.ref 57},{hash:=cX P (ab "__dict__"),key:=Value.str (ab "__dict__") 248,val:=Value.ref 60},{hash:=cX P (ab "__weakref__"),key:=Value.str (ab "__weakref__") 250,val:=Value.ref 61},{hash:=cX P (ab "__doc__"),key:=Value.str (ab "__doc__") 251,val:=Value.none}] 4}),
  (59,{cls:=Value.type "type",data:=Data.cls {name:=ab "_netrclex",bases:=[Value.type "object"],mro:=[Value.ref 59,Value.type "object"],ns:=58,qualname:=ab "_netrclex"},slots:= #[none,none,some (Value.str (ab "_netrclex") 196),some (Value.str (ab "_netrclex") 204),some (Value.builtin "object.__new__"),some (Value.bool true)]}),
  (60,{cls:=Value.type "getset_descriptor",data:=Data.fields #[Value.str (ab "__dict__") 247,Value.ref 59,Value.builtin "function.__dict__",Value.builtin "function.__dict__#set"]}),
  (61,{cls:=Value.type "getset_descriptor",data:=Data.fields #[Value.str (ab "__weakref__") 249,Value.ref 59,Value.builtin "ExceptionGroup.__weakref__",Value.none]}),
  (120,{cls:=Value.type "tuple",data:=Data.seq #[]}),
  (122,{cls:=Value.type "tuple",data:=Data.seq #[Value.str (ab "text") 384,Value.str (ab "read") 385,Value.str (ab "source") 386]}),
  (123,{cls:=Value.type "tuple",data:=Data.seq #[Value.str (ab "text") 387,Value.str (ab "place") 388]}),
  (125,{cls:=Value.type "code",data:=Data.fields #[Value.str (ab "_law_stream") 381,Value.str (ab "_law_stream") 382,Value.str (ab "/claim/cut.py") 383,Value.int 186 0,Value.int 1 0,Value.int 0 0,Value.int 0 0,Value.int 3 0,Value.ref 120,Value.bool true,Value.int 181 0,Value.ref 121,Value.none,Value.ref 122,Value.ref 123,Value.ref 124,Value.int 389 0,Value.int 186 0,Value.str (ab "/claim/cut.py") 390]}),
  (126,{cls:=Value.type "function",data:=Data.func {name:=ab "_law_stream",qualname:=ab "_law_stream",params:=(aq 14).params,body:= .stmts (aq 14).body,scope:=(aq 14).scope,globals:=3,closure:=[],defaults:=Value.none,kwdefaults:=Value.none,pyModule:=Value.str (ab "law_pm0050_01") 379,code:=Value.ref 125}}),
  (127,{cls:=Value.type "tuple",data:=Data.seq #[]})]
noncomputable def HE:List au:=[2,3,29,31,32,34,35,36,38,39,41,42,43,45,46,48,49,50,52,53,55,56,57,58,59,60,61,120,122,123,125,126,127]
theorem Xh (P:f6):HE=(dA P).map (·.1):=by kernel_rfl
noncomputable abbrev p4:Hook:=kmHook dA HE Xh [121]
theorem ac6:LeftO pw_pm0050_01 fZ nB (fun s=>xlAt fZ mA s&&recOk uf.records s) p4.obs p4.val 2112:=by
 intro w
 kernel_rfl
noncomputable def uc:List iN:=([0,5,6,7,8,9,10,11,13,14,15,16,17,18,19,20,21,22]:List Nat).map aq
theorem aaT:recsOf fZ=uc:=by kernel_rfl
theorem abu:rw_pm0050_01.wellSaid=true:=by kernel_rfl
theorem ZY:(chainsOk fZ&&opensWell uf.prog&&(frees uf&&uf.within.isEmpty))=true:=by kernel_rfl
theorem U5 (walk:WalkO fZ nB (XL fZ mA) p4.says uf (aq 22) [] fun f vs=>PySem.call f vs):rw_pm0050_01.Holds:=by
 w_on
 refine holds_law (l:=rw_pm0050_01) abu fun abt=> ?_
 refine holds_open (q:=fZ) (loose:=nB) (Xt:=fun s=>xlAt fZ mA s&&recOk uf.records s) (XP:=XL fZ mA) (Yf:=p4.obs) (Ya:=p4.val) (YP:=p4.says) (N:=2112) ac6 p4.of p4.keeps
  (fun s e=>xl_of s (g7.mp e).1) XL.keeps (by kernel_rfl) (by kernel_rfl) (by kernel_rfl) (fun s e=>recFacts_of (g7.mp e).2) (by kernel_rfl) abt ZY ⟨rfl,rfl,rfl,rfl,rfl,by kernel_rfl⟩ ?hw walk
 w_witness2
end Mine
end
section
open PySem PySem.W PyProof.Rows PySem.Calls PySem.Spec
namespace Mine
section
variable {α β:Type} {a b r:α} {c:Prop} {o:Option α} {f:α→Option β} {t:β} {x:Option α}
theorem nn (h:none=some a):False:=nomatch h
theorem inj (h:some a=some b):a=b:=B4 h
theorem ck {_:Decidable c} (h:(if c then x else none)=some r):c:=by
 by_cases ah:c
 ·exact ah
 ·rw[if_neg ah] at h;exact (nn h).elim
theorem cA {_:Decidable c} (h:(if c then x else none)=some r):x=some r:=(if_pos (ck h)).symm.trans h
theorem qa {_:Decidable c} (h:(if c then none else x)=some r): ¬c:=fun ah=>nn ((if_pos ah).symm.trans h)
theorem oJ {_:Decidable c} (h:(if c then none else x)=some r):x=some r:=(if_neg (qa h)).symm.trans h
theorem hp {G:Prop} {y:Option α} {_:Decidable c} (h:(if c then x else y)=some r) (bt:c→x=some r→G) (bB: ¬c→y=some r→G):G:=
 if ah:c then bt ah ((if_pos ah).symm.trans h) else bB ah ((if_neg ah).symm.trans h)
theorem Wz {b:Bool} {X Y:Prop} (J:b=true→X) (U:b=false→Y):if b=true then X else Y:=by
 cases b with
 |true=>exact J rfl
 |false=>exact U rfl
theorem D8 {b:Bool} {x y:Option α} (aa:b=true) (h:(if b=true then x else y)=some r):x=some r:=(if_pos aa).symm.trans h
theorem wj {b:Bool} {x y:Option α} (aa:b=false) (h:(if b=true then x else y)=some r):y=some r:=(if_neg (by rw[aa];exact hB)).symm.trans h
theorem w6 {a c:α} {b d:β} (h:some (a,b)=some (c,d)):a=c∧b=d:=⟨congrArg Prod.fst (B4 h),congrArg Prod.snd (B4 h)⟩
theorem eB {f:α→Option β} {r:Option β} {a:α} (h:o=some a) (k:f a=r):o.bind f=r:=h▸k
theorem aN {G:Prop} (h:o.bind f=some t) (k: ∀a,o=some a→f a=some t→G):G:=by
 cases o with
 |none=>exact (nn h).elim
 |some a=>exact k a rfl h
theorem iB {g:α→β} {G:Prop} (h:o.map g=some t) (k: ∀a,o=some a→g a=t→G):G:=by
 cases o with
 |none=>exact (nn h).elim
 |some a=>exact k a rfl (inj h)
end
section
variable {α β sG afL agG agH:Type} {G:Prop}
theorem en {P:α→Prop} (h: ∃a,P a) (k: ∀a,P a→G):G:=h.elim k
theorem b5 {P Q:α→Prop} (h: ∃a,P a∧Q a) (k: ∀a,P a→Q a→G):G:=h.elim fun a x=>k a x.1 x.2
theorem d9 {P Q R:α→Prop} (h: ∃a,P a∧Q a∧R a) (k: ∀a,P a→Q a→R a→G):G:=h.elim fun a x=>k a x.1 x.2.1 x.2.2
theorem rf {P Q R S:α→Prop} (h: ∃a,P a∧Q a∧R a∧S a) (k: ∀a,P a→Q a→R a→S a→G):G:=h.elim fun a x=>k a x.1 x.2.1 x.2.2.1 x.2.2.2
theorem gT {P:α→β→Prop} (h: ∃a b,P a b) (k: ∀a b,P a b→G):G:=h.elim fun a h=>h.elim fun b x=>k a b x
theorem jc {P Q:α→β→Prop} (h: ∃a b,P a b∧Q a b) (k: ∀a b,P a b→Q a b→G):G:=h.elim fun a h=>h.elim fun b x=>k a b x.1 x.2
theorem e5 {P Q R:α→β→Prop} (h: ∃a b,P a b∧Q a b∧R a b) (k: ∀a b,P a b→Q a b→R a b→G):G:=h.elim fun a h=>h.elim fun b x=>k a b x.1 x.2.1 x.2.2
theorem hG {P Q R S:α→β→Prop} (h: ∃a b,P a b∧Q a b∧R a b∧S a b) (k: ∀a b,P a b→Q a b→R a b→S a b→G):G:=h.elim fun a h=>h.elim fun b x=>k a b x.1 x.2.1 x.2.2.1 x.2.2.2
theorem IA {P:α→β→sG→Prop} (h: ∃a b c,P a b c) (k: ∀a b c,P a b c→G):G:=h.elim fun a h=>h.elim fun b h=>h.elim fun c x=>k a b c x
theorem IB {P Q:α→β→sG→Prop} (h: ∃a b c,P a b c∧Q a b c) (k: ∀a b c,P a b c→Q a b c→G):G:=h.elim fun a h=>h.elim fun b h=>h.elim fun c x=>k a b c x.1 x.2
theorem R1 {P Q R S:α→β→sG→afL→Prop} (h: ∃a b c d,P a b c d∧Q a b c d∧R a b c d∧S a b c d) (k: ∀a b c d,P a b c d→Q a b c d→R a b c d→S a b c d→G):G:=h.elim fun a h=>h.elim fun b h=>h.elim fun c h=>h.elim fun d x=>k a b c d x.1 x.2.1 x.2.2.1 x.2.2.2
end
section
inductive I where
 |none|bool (b:Bool)|int (i:Int)|ao (w:UInt64)|str (s:Str)|list (l:List I)|tup (l:List I)|obj (i:Nat)|raw (v:af)
structure c3 where
 x:au
 dx:au
 pl:au
 cu:au
structure cf where
 rem:List Nat
 line:Int
 push:List Str
noncomputable abbrev W:=List cf
structure G where
 B:au→Prop
 aA:List c3
noncomputable def c6 (h:aR) (a:au) (items:Array af):Prop:= ∃o,h.get? a=some o∧o.cls= .type "list"∧ ∃n,o={cls:= .type "list",data:= .seq items n}
theorem c6.eV {h:aR} {a:au} {items:Array af} (x:c6 h a items):h.IsList a items:=x.imp fun o q=>⟨q.1,q.2.1,q.2.2.imp fun n r=>congrArg pk r⟩
theorem Qz {h:aR} {a:au} {o:Obj} {v:Option af} (e:h.get? a=some o) (c:h.IsCell a v):o.data= .cell v:=c.elim fun cE q=>inj (e.symm.trans q.1)▸q.2
theorem oP {h:aR} {a:au} {o:Obj} {l:Array af} (e:h.get? a=some o) (c:c6 h a l): ∃n,o.data= .seq l n:=c.elim fun cE q=>q.2.2.imp fun n r=>(congrArg pk (inj (e.symm.trans q.1))).trans (congrArg pk r)
mutual
inductive Is (B:au→Prop) (aA:List c3) (h:aR):I→af→Prop
 |none:Is B aA h .none .none
 |bool (b:Bool):Is B aA h (.bool b) (.bool b)
 |int (i:Int) (t:Tok):Is B aA h (.int i) (.int i t)
 |ao (w:UInt64) (t:Tok):Is B aA h (.ao w) (.float w t)
 |str (x:Str) (t:Tok):Is B aA h (.str x) (.str x t)
 |list {l:List I} {a:au} {vs:List af}: ¬B a→c6 h a vs.toArray→IsL B aA h l vs→Is B aA h (.list l) (.ref a)
 |tup {l:List I} {a:au} {vs:List af}: ¬B a→h.IsTuple a vs.toArray→IsL B aA h l vs→Is B aA h (.tup l) (.ref a)
 |obj {i:Nat} {a:c3}:aA[i]?=some a→Is B aA h (.obj i) (.ref a.x)
 |raw (v:af):Is B aA h (.raw v) v
inductive IsL (B:au→Prop) (aA:List c3) (h:aR):List I→List af→Prop
 |nil:IsL B aA h [] []
 |cons {p:I} {v:af} {l:List I} {vs:List af}:Is B aA h p v→IsL B aA h l vs→IsL B aA h (p::l) (v::vs)
end
noncomputable def cH (B:au→Prop) (h:aR) (B':au→Prop) (h':aR):Prop:= ∀a o,h.get? a=some o→ ¬B a→h'.get? a=some o∧ ¬B' a
section
variable {B B':au→Prop} {aA:List c3} {h h':aR}
theorem IsL.gE {p:I} {l:List I} {us:List af} (aW:IsL B aA h (p::l) us): ∃u vs,us=u::vs∧Is B aA h p u∧IsL B aA h l vs:=by
 cases aW with
 |cons a b=>exact ⟨_,_,rfl,a,b⟩
theorem IsL.iJ {us:List af} (aW:IsL B aA h [] us):us=[]:=by cases aW;rfl
theorem Is.bF (k:cH B h B' h') (more:List c3) {p v} (x:Is B aA h p v):Is B' (aA++more) h' p v:=by
 refine Is.rec (motive_1:=fun p v _=>Is B' (aA++more) h' p v) (motive_2:=fun l vs _=>IsL B' (aA++more) h' l vs) .none .bool .int .ao .str ?_ ?_ ?_ .raw .nil (fun _ _=> .cons) x
 ·exact fun nb ai _ r=>ai.elim fun o q=> .list (k _ _ q.1 nb).2 ⟨o,(k _ _ q.1 nb).1,q.2⟩ r
 ·exact fun nb ai _ r=>ai.elim fun o q=> .tup (k _ _ q.1 nb).2 ⟨o,(k _ _ q.1 nb).1,q.2⟩ r
 ·exact fun e=> .obj ((qO (hW.mp e).1).trans e)
theorem IsL.bF (k:cH B h B' h') (more:List c3) {p:List I}: ∀{v},IsL B aA h p v→IsL B' (aA++more) h' p v:=by
 induction p with
 |nil=>exact fun x=>x.iJ▸ .nil
 |cons p l ay=>exact fun x=>e5 x.gE fun u vs e a b=>e▸ .cons (a.bF k more) (ay b)
theorem Is.th (k:cH B h B' h') {p v} (x:Is B aA h p v):Is B' aA h' p v:=fF aA▸x.bF k []
theorem IsL.th (k:cH B h B' h') {p v} (x:IsL B aA h p v):IsL B' aA h' p v:=fF aA▸x.bF k []
theorem IsL.length {l:List I}: ∀{vs:List af},IsL B aA h l vs→l.length=vs.length:=by
 induction l with
 |nil=>exact fun x=>x.iJ▸rfl
 |cons p l ay=>exact fun x=>e5 x.gE fun u vs e a b=>e▸congrArg (·+1) (ay b)
theorem IsL.get {l:List I}: ∀{vs:List af} {i:Nat} {p:I},IsL B aA h l vs→l[i]?=some p→ ∃v,vs[i]?=some v∧Is B aA h p v:=by
 induction l with
 |nil=>exact fun _ e=>(nn e).elim
 |cons q l ay=>
  intro vs i p x e
  refine e5 x.gE fun u us ev a b=>ev▸ ?_
  cases i with
  |zero=>exact ⟨u,rfl,inj e▸a⟩
  |succ i=>exact (ay b e: ∃v,us[i]?=some v∧_)
theorem IsL.append {l dM:List I} {vs vs':List af} (x:IsL B aA h l vs) (y:IsL B aA h dM vs'):IsL B aA h (l++dM) (vs++vs'):=by
 induction l generalizing vs with
 |nil=>exact x.iJ▸y
 |cons p l ay=>exact e5 x.gE fun u vs e a b=>e▸ .cons a (ay b)
theorem IsL.drop {l:List I}: ∀{vs:List af} (i:Nat),IsL B aA h l vs→IsL B aA h (l.drop i) (vs.drop i):=by
 induction l with
 |nil=>exact fun i x=>by rw[x.iJ,G3,G3];exact .nil
 |cons p l ay=>exact fun i x=>match i with
  |0=>x
  |i+1=>e5 x.gE fun u vs e a b=>e▸ay i b
theorem IsL.take {l:List I}: ∀{vs:List af} (i:Nat),IsL B aA h l vs→IsL B aA h (l.take i) (vs.take i):=by
 induction l with
 |nil=>exact fun i x=>by rw[x.iJ,G4,G4];exact .nil
 |cons p l ay=>exact fun i x=>match i with
  |0=> .nil
  |i+1=>e5 x.gE fun u vs e a b=>e▸ .cons a (ay i b)
theorem IsL.set {l:List I} {vs:List af} {q:I} {v:af} (i:Nat) (x:IsL B aA h l vs) (y:Is B aA h q v):IsL B aA h (l.set i q) (vs.set i v):=by
 induction l generalizing vs i with
 |nil=>exact x.iJ▸ .nil
 |cons p l ay=>exact e5 x.gE fun u vs e a b=>e▸match i with
  |0=> .cons y b
  |i+1=> .cons a (ay i b)
end
noncomputable def ek (dO:Option au) (aA:List c3) (b:au):Prop:=dO=some b∨ ∃a∈aA,b=a.dx∨b=a.pl∨b=a.cu
structure uZ where
 lex:Bool
 fns:List iN
 consts:List (Str×I)
noncomputable def Dh (d:iN):Bool:=
 d.scope.kind== .function&& !d.scope.isGenerator&& !d.scope.isCoroutine&&d.params.posonlyargs.isEmpty&&d.params.vararg.isNone&&d.params.kwonlyargs.isEmpty&&d.params.kwarg.isNone&&d.params.defaults.isEmpty&&
 d.scope.names.all (fun x=>(x.2== .local||x.2== .cell||x.2== .globalImplicit)&&x.1 !=("__debug__":Str)&&x.1 !=("__classdict__":Str))&&
 (d.params.args.map (·.arg)).all (fun x=>d.scope.names.lookup x==some .local||d.scope.names.lookup x==some .cell)&&decide (d.params.args.map (·.arg)).Nodup
structure bE where
 prog:sE
 w:pn
 bW:aR
 K:Frag
 c7:Str→Option af
 dt:Str→Option af
 dO:Option au
 fN:K.In bW
 g:bW.Ns mainGlobals c7
 b:bW.Ns builtinsNs dt
 nolimit:bW.NoLimit
 builtins: ∀x:Str,x≠"__name__"→dt x=bootBuiltins x
 dx:uZ
 fns: ∀d∈dx.fns,Dh d=true∧ ∃a o pm code doc,c7 d.name=some (.ref a)∧bW.get? a=some o∧o.data= .func (docDef d.name d.params d.body d.scope pm code doc)∧bW.CodeRec code d.name
 consts: ∀x p,dx.consts.lookup x=some p→ ∃v,c7 x=some v∧ ∀B aA h,Is B aA h p v
 yr: ∀x:Str,(["len","sum","max","min","abs","int","range","enumerate","sorted","set","iter"]:List Str).contains x=true→c7 x=none
 qT:(au→Prop)→aR→c3→cf→Prop
 qY:(au→Prop)→aR→Prop
 kl: ∀{B B':au→Prop} {h h':aR} {a:c3} {x:cf},qT B h a x→cH B h B' h'→(∀b o,(b=a.dx∨b=a.pl∨b=a.cu)→h.get? b=some o→h'.get? b=some o)→qT B' h' a x
 lQ: ∀{B B':au→Prop} {h h':aR},qY B h→cH B h B' h'→(∀b o,dO=some b→h.get? b=some o→h'.get? b=some o)→qY B' h'
structure aL (T:bE) (g:G) (W:W) (s:aw):Prop where
 aU:0≤s.toks
 base: ∀b o,T.bW.get? b=some o→s.heap.get? b=some o∧ ¬g.B b
 ex: ∀b,g.B b→ ∃o,s.heap.get? b=some o
 dc: ∀b,ek T.dO g.aA b→g.B b
 tab:T.qY g.B s.heap
 len:g.aA.length=W.length
 cO: ∀(i:Nat) a x,g.aA[i]?=some a→W[i]?=some x→T.qT g.B s.heap a x
 fg: ∀(i j:Nat) a gr,i≠j→g.aA[i]?=some a→g.aA[j]?=some gr→ ∀b,(b=a.dx∨b=a.pl∨b=a.cu)→b≠gr.dx∧b≠gr.pl∧b≠gr.cu
 eT: ∀a∈g.aA,T.dO≠some a.dx∧T.dO≠some a.pl∧T.dO≠some a.cu
structure bK (T:bE) (g:G) (s:aw) (g':G) (s':aw):Prop where
 keep: ∀b o,s.heap.get? b=some o→ ¬ek T.dO g.aA b→s'.heap.get? b=some o
 ex: ∀b o,s.heap.get? b=some o→ ∃cE,s'.heap.get? b=some cE
 hb: ∀b,g.B b→g'.B b
 iQ: ∀b,g'.B b→g.B b∨s.heap.get? b=none
 eG: ∃more,g'.aA=g.aA++more
 ef: ∀b,ek T.dO g'.aA b→ek T.dO g.aA b∨s.heap.get? b=none
 gens:s'.gens=s.gens
 os:s'.os=s.os
 aU:s.toks≤s'.toks
section
variable {T:bE} {g g' fh:G} {s s' fq:aw} {gb:W}
theorem bK.refl:bK T g s g s:=⟨fun _ _ e _=>e,fun _ o e=>⟨o,e⟩,fun _ x=>x,fun _ x=> .inl x,⟨[],by simp⟩,fun _ x=> .inl x,rfl,rfl,a3 _⟩
theorem bK.none (x:bK T g s g' s') {b:au} (e:s'.heap.get? b=none):s.heap.get? b=none:=by
 cases q:s.heap.get? b with
 |none=>rfl
 |some o=>obtain ⟨cE,bP⟩:=x.ex b o q;rw[e] at bP;cases bP
theorem bK.trans (x:bK T g s g' s') (y:bK T g' s' fh fq):bK T g s fh fq where
 keep b o e n:=y.keep b o (x.keep b o e n) fun q=>(x.ef b q).elim n fun z=>by rw[e] at z;cases z
 ex b o e:=(x.ex b o e).elim (y.ex b)
 hb b z:=y.hb b (x.hb b z)
 iQ b z:=(y.iQ b z).elim (x.iQ b) fun q=> .inr (x.none q)
 eG:=by
  obtain ⟨a,jE⟩:=x.eG
  obtain ⟨b,oe⟩:=y.eG
  exact ⟨a++b,by rw[oe,jE,jY]⟩
 ef b z:=(y.ef b z).elim (x.ef b) fun q=> .inr (x.none q)
 gens:=y.gens.trans x.gens
 os:=y.os.trans x.os
 aU:=c5 x.aU y.aU
theorem bK.bF (x:bK T g s g' s') (d:aL T g gb s):cH g.B s.heap g'.B s'.heap:=fun a o e n=>
 ⟨x.keep a o e fun q=>n (d.dc a q),fun q=>(x.iQ a q).elim n fun z=>by rw[e] at z;cases z⟩
theorem Is.a5 (x:bK T g s g' s') (d:aL T g gb s) {p:I} {v:af} (i:Is g.B g.aA s.heap p v):Is g'.B g'.aA s'.heap p v:=by
 obtain ⟨more,e⟩:=x.eG
 rw[e];exact i.bF (x.bF d) more
theorem IsL.a5 (x:bK T g s g' s') (d:aL T g gb s) {p:List I} {v:List af} (i:IsL g.B g.aA s.heap p v):IsL g'.B g'.aA s'.heap p v:=by
 obtain ⟨more,e⟩:=x.eG
 rw[e];exact i.bF (x.bF d) more
theorem bK.grow {h':aR} {t:Nat} {dr:Drawn} (k: ∀b o,s.heap.get? b=some o→h'.get? b=some o) (aS:s.toks≤t):bK T g s g {s with heap:=h',toks:=t,drawn:=dr}:=
 ⟨fun b o e _=>k b o e,fun b o e=>⟨o,k b o e⟩,fun _ x=>x,fun _ x=> .inl x,⟨[],by simp⟩,fun _ x=> .inl x,rfl,rfl,aS⟩
theorem aL.grow {s':aw} (d:aL T g gb s) (k: ∀b o,s.heap.get? b=some o→s'.heap.get? b=some o) (aS:s.toks≤s'.toks):aL T g gb s' where
 aU:=e3 _
 base b o e:=⟨k b o (d.base b o e).1,(d.base b o e).2⟩
 ex b z:=(d.ex b z).imp (k b)
 dc:=d.dc
 tab:=T.lQ d.tab (fun a o e n=>⟨k a o e,n⟩) fun b o _ e=>k b o e
 len:=d.len
 cO i a x aF aE:=T.kl (d.cO i a x aF aE) (fun a o e n=>⟨k a o e,n⟩) fun b o _ e=>k b o e
 fg:=d.fg
 eT:=d.eT
end
noncomputable def aK {α:Type} (T:bE) (A:bO) (t:Sem α) (g:G) (s:aw) (P:G→aw→α→Prop):Prop:=
 ∀(E:af→aw→Prop) (Q:α→aw→Prop),(∀g' s' a,bK T g s g' s'→P g' s' a→Q a s')→bc (bo T.prog T.w) A t Q E s
section
variable {α β:Type} {T:bE} {A:bO} {g:G} {s:aw}
theorem aK.pure {a:α} {P:G→aw→α→Prop} (h:P g s a):aK T A (pure a) g s P:=fun _ _ k=>b6 (k _ _ _ .refl h)
theorem aK.mono {t:Sem α} {P f9:G→aw→α→Prop} (h:aK T A t g s P) (k: ∀g' s' a,bK T g s g' s'→P g' s' a→f9 g' s' a):aK T A t g s f9:=
 fun E Q q=>h E Q fun g' s' a x y=>q g' s' a x (k g' s' a x y)
theorem aK.bind {t:Sem α} {k:α→Sem β} {P:G→aw→α→Prop} {f9:G→aw→β→Prop} (h:aK T A t g s P)
  (c: ∀g' s' a,bK T g s g' s'→P g' s' a→aK T A (k a) g' s' f9):aK T A (t>>=k) g s f9:=
 fun E Q q=>aM (h E _ fun g' s' a x y=>c g' s' a x y E Q fun fh fq b gN F3=>q fh fq b (x.trans gN) F3)
theorem aK.nO {pos:Pos} {k:Unit→Sem β} {P:G→aw→β→Prop} (h:aK T A (k ()) g s P):aK T A (standAt pos>>=k) g s P:=
 fun E Q q=>aM (fL (h E Q q))
theorem aK.holding {t:Sem α} {vs:List af} {P:G→aw→α→Prop} (h:aK T A t g s P):aK T A (holding vs t) g s P:=
 fun E Q q=>g8 (h E Q q)
end
noncomputable def m3 (T:bE) (A:bO) (c:Code) (g:G) (s:aw) (P:G→aw→af→Prop):Prop:=
 ∀(R:m2→aw→Prop),(∀g' s' v,bK T g s g' s'→P g' s' v→R (.ok (.ret v)) s')→codeAny (bo T.prog T.w) A c R s
theorem m3.vB {T:bE} {A:bO} {g:G} {s:aw} {f:af} {us:List af} {P:G→aw→af→Prop} (h:m3 T A (.call f ⟨us,[]⟩) g s P):aK T A (call f us []) g s P:=
 fun E Q q=>G5 (h _ fun g' s' v x y=>q g' s' v x y)
noncomputable def Res (T:bE) (W:W) (r:I):G→aw→af→Prop:=fun g s v=>aL T g W s∧Is g.B g.aA s.heap r v
structure Room (d:Nat) (A:bO):Prop where
 depth:A.depth+d<recursionLimit
 units:A.units+10*d<cLine
 handled:A.handled=none
theorem Room.less {d d1:Nat} {A:bO} (r:Room d A) (h:d1≤d):Room d1 A:=⟨by have:=r.depth;exact aH (aI h (bL this)),by have:=r.units;exact aH (aI (lm 10 h) (bL this)),r.handled⟩
theorem Room.in1 {d:Nat} {A:bO} (r:Room (d+1) A):Room d A.in1:=⟨by have:=r.depth;show A.depth+d<_;exact G6 this,by have:=r.units;show A.units+1+10*d<_;exact aH (bL this),r.handled⟩
theorem Room.deeper {d:Nat} {A:bO} {env:Env} (r:Room (d+1) A):Room d (A.deeper env):=⟨by have:=r.depth;show A.depth+1+d<_;exact aH (bL this),by have:=r.units;show A.units+3+10*d<_;exact aH (bL this),r.handled⟩
end
noncomputable def small (i:Int):Bool:=decide (i.natAbs<1152921504606846976)
theorem Fs {i:Int} (h:small i=true):i.natAbs<2^1023:=qP (of_decide_eq_true h) (by decide+kernel)
theorem MQ {i:Int} (h:small i=true):O0 i≤64:=by
 have h:=of_decide_eq_true h
 exact intBits_le_64 (sF (by decide) (nb h).1) (sF (nb h).2 (by decide))
noncomputable def P6:iO→Int→Int→Option I
 | .Add,a,b=>some (.int (a+b))
 | .Sub,a,b=>some (.int (a-b))
 | .Mult,a,b=>if small b then some (.int (a*b)) else none
 | .FloorDiv,a,b=>if b≠0∧b.natAbs<1073741824 then some (.int (a.fdiv b)) else none
 | .Mod,a,b=>if b≠0 then some (.int (a.fmod b)) else none
 | .Pow,a,n=>if 0≤n∧n≤1000∧small a then some (.int (a^n.toNat)) else none
 |_,_,_=>none
noncomputable def P2:iO→UInt64→UInt64→Option I
 | .Add,a,b=>some (.ao (cF a b))
 | .Sub,a,b=>some (.ao (bA a b))
 | .Mult,a,b=>some (.ao (cP a b))
 | .Div,a,b=>if lj b then none else some (.ao (eH a b))
 | .Mod,a,b=>if lj b then none else some (.ao (i' a b).snd)
 |_,_,_=>none
noncomputable def P4:iO→UInt64→Int→Option I
 | .Add,a,n=>if small n then some (.ao (cF a (mT n))) else none
 | .Sub,a,n=>if small n then some (.ao (bA a (mT n))) else none
 |_,_,_=>none
noncomputable def P5:iO→Int→UInt64→Option I
 | .Div,n,b=>if small n∧ ¬lj b then some (.ao (eH (mT n) b)) else none
 |_,_,_=>none
noncomputable def P':iO→Str→Str→Option I
 | .Add,x,y=>if x.length+y.length≤1048576 then some (.str (x++y)) else none
 |_,_,_=>none
noncomputable def P9:iO→Str→Int→Option I
 | .Mult,x,n=>if n=2∧x.length≤1000 then some (.str (Txt.mul x n)) else none
 |_,_,_=>none
noncomputable def binI (op:iO) (a:Int):I→Option I
 | .int b=>P6 op a b
 | .ao b=>P5 op a b
 |_=>none
noncomputable def P1 (op:iO) (a:UInt64):I→Option I
 | .int b=>P4 op a b
 | .ao b=>P2 op a b
 |_=>none
noncomputable def P8 (op:iO) (a:Str):I→Option I
 | .int b=>P9 op a b
 | .str b=>P' op a b
 |_=>none
noncomputable def cv (op:iO) (a b:I):Option I:=match a with
 | .int a=>binI op a b
 | .ao a=>P1 op a b
 | .str a=>P8 op a b
 |_=>none
theorem Is.fx {B:au→Prop} {aA:List c3} {h:aR} {p r:I} {v:af} (i:Is B aA h p v) (e:some p=some r):Is B aA h r v:=inj e▸i
section
variable {T:bE} {A:bO} {g:G} {s:aw} {gb:W}
theorem aK.val {t:Sem af} {r:I} (d:aL T g gb s)
  (h: ∀(E:af→aw→Prop) (Q:af→aw→Prop),(∀v aU,Is g.B g.aA s.heap r v→Q v {s with toks:=aU})→bc (bo T.prog T.w) A t Q E s):aK T A t g s (Res T gb r):=
 fun E Q k=>k5 (a3 _) (h (fun e s'=>s.toks≤s'.toks→E e s') (fun a s'=>s.toks≤s'.toks→Q a s') fun v _ i hle=>
  k g _ v (.grow (dr:=s.drawn) (fun _ _ e=>e) hle) ⟨d.grow (fun _ _ e=>e) hle,i⟩)
theorem aat {a n:Int} (h:0≤n∧n≤1000∧small a):(O0 a:Int)*n≤2^27:=by
 have J:=MQ h.2.2
 have:(O0 a:Int)*n≤64*1000:=Int.mul_le_mul (by exact aem rfl rfl J) h.2.1 h.1 (by exact l1 _)
 exact G1 this (by decide)
theorem mul_fits {x:Str} {n:Int} (h:n=2) (U:x.length≤1000):MulOk x n:=by
 subst h
 exact ⟨by decide,fun _ _=>xZ.mpr (nV.mpr (bX U rfl)),fun _ _=>decide_eq_false (F5.mpr (c5 (sg 2 U) (by decide)))⟩
theorem P7 {op:iO} {a b r:I} {eD fA:af} (e:cv op a b=some r) (d:aL T g gb s) (di:Is g.B g.aA s.heap a eD) (hn:Is g.B g.aA s.heap b fA):
  aK T A (binaryOp op eD fA) g s (Res T gb r):=by
 refine .val d fun E Q k=> ?_
 cases di with
 |int a=>cases hn with
  |int b=>cases op with
   |Add=>exact add_int (k _ _ (.fx (.int _ _) e))
   |Sub=>exact sub_int (k _ _ (.fx (.int _ _) e))
   |Mult=>exact mul_int (k _ _ (.fx (.int _ _) (cA e))) (.of_right (MQ (ck e)))
   |FloorDiv=>exact floordiv_int (ck e).1 (k _ _ (.fx (.int _ _) (cA e))) (.inl (PyProof.noPylong_small (ck e).2))
   |Mod=>exact mod_int (ck e) (k _ _ (.fx (.int _ _) (cA e)))
   |Pow=>exact pow_int (ck e).1 (aat (ck e)) (k _ _ (.fx (.int _ _) (cA e)))
   |_=>exact (nn e).elim
  |ao b=>cases op with
   |Div=>exact AutoFloatOps.truediv_if_2 (Float64.ofInt_fits (Fs (ck e).1)) (ck e).2 (k _ _ (.fx (.ao _ _) (cA e)))
   |_=>exact (nn e).elim
  |_=>exact (nn e).elim
 |ao a=>cases hn with
  |int b=>cases op with
   |Add=>exact add_fi_fits (Fs (ck e)) (k _ _ (.fx (.ao _ _) (cA e)))
   |Sub=>exact sub_fi_fits (Fs (ck e)) (k _ _ (.fx (.ao _ _) (cA e)))
   |_=>exact (nn e).elim
  |ao b=>cases op with
   |Add=>exact add_float (k _ _ (.fx (.ao _ _) e))
   |Sub=>exact sub_float (k _ _ (.fx (.ao _ _) e))
   |Mult=>exact mul_float (k _ _ (.fx (.ao _ _) e))
   |Div=>exact AutoFloatOps.truediv_1 (qa e) (k _ _ (.fx (.ao _ _) (oJ e)))
   |Mod=>exact AutoFloatOps.mod_1 (qa e) (k _ _ (.fx (.ao _ _) (oJ e)))
   |_=>exact (nn e).elim
  |_=>exact (nn e).elim
 |str x=>cases hn with
  |int b=>cases op with
   |Mult=>exact SB.mul (mul_fits (ck e).1 (ck e).2) (fun gD aU=>k _ _ (.fx (.str _ _) (cA e)))
   |_=>exact (nn e).elim
  |str b=>cases op with
   |Add=>exact add_str (fun gD aU=>k _ _ (.fx (.str _ _) (cA e))) (c5 (ck e) (by decide))
   |_=>exact (nn e).elim
  |_=>exact (nn e).elim
 |_=>exact (nn e).elim
noncomputable def adw:UnaryOp→Int→Option I
 | .USub,a=>some (.int (-a))
 |_,_=>none
noncomputable def adv:UnaryOp→UInt64→Option I
 | .USub,a=>some (.ao (jr a))
 |_,_=>none
noncomputable def FR (op:UnaryOp):I→Option I
 | .int a=>adw op a
 | .ao a=>adv op a
 |_=>none
theorem adx {op:UnaryOp} {a r:I} {eD:af} (e:FR op a=some r) (d:aL T g gb s) (di:Is g.B g.aA s.heap a eD):
  aK T A (unaryOp op eD) g s (Res T gb r):=by
 refine .val d fun E Q k=> ?_
 cases di with
 |int a=>cases op with
  |USub=>exact neg_int (k _ _ (.fx (.int _ _) e))
  |_=>exact (nn e).elim
 |ao a=>cases op with
  |USub=>exact neg_float (k _ _ (.fx (.ao _ _) e))
  |_=>exact (nn e).elim
 |_=>exact (nn e).elim
end
end Mine
end
section
open PySem PySem.W PyProof.Rows PySem.Calls PySem.Spec PySem.SeqAt
namespace Mine
section
mutual
noncomputable def toD:I→Option i7
 | .none=>some .none
 | .bool b=>some (.bool b)
 | .int i=>some (.int i)
 | .str x=>some (.str x)
 | .list l=>(iI l).map .list
 | .tup l=>(iI l).map .tuple
 | .ao _=>none
 | .obj _=>none
 | .raw _=>none
noncomputable def iI:List I→Option (List i7)
 |[]=>some []
 |p::l=>match toD p with
  |some d=>match iI l with
   |some ds=>some (d::ds)
   |none=>none
  |none=>none
end
section
variable {B:au→Prop} {aA:List c3} {h:aR}
theorem ub {v:af} {d d1:i7} {as} (x:kx h v d as) (e:some d=some d1): ∃as,kx h v d1 as:=⟨as,inj e▸x⟩
theorem AM {v:List af} {d d1:List i7} {as} (x:ReadsAll h v d as) (e:some d=some d1): ∃as,ReadsAll h v d1 as:=⟨as,inj e▸x⟩
theorem Is.reads {p:I} {v:af} (x:Is B aA h p v): ∀{d:i7},toD p=some d→ ∃as,kx h v d as:=by
 refine Is.rec (motive_1:=fun p v _=> ∀{d:i7},toD p=some d→ ∃as,kx h v d as) (motive_2:=fun l vs _=> ∀{ds:List i7},iI l=some ds→ ∃as,ReadsAll h vs ds as)
  ?_ ?_ ?_ ?_ ?_ ?_ ?_ ?_ ?_ ?_ ?_ x
 ·exact fun e=>ub .none e
 ·exact fun b d e=>ub (.bool b) e
 ·exact fun i t d e=>ub (.int i t) e
 ·exact fun _ _ _ e=>(nn e).elim
 ·exact fun x t d e=>ub (.str x t) e
 ·exact fun nb ai r ay d e=>iB e fun ds aF aE=>d9 ai.eV fun o aV ah hd=>gZ hd fun n hd=>gZ (ay aF) fun as gB=>ub (.list aV ah hd gB) (congrArg some aE)
 ·exact fun nb ai r ay d e=>iB e fun ds aF aE=>d9 ai fun o aV ah hd=>gZ hd fun n hd=>gZ (ay aF) fun as gB=>ub (.tuple aV ah hd gB) (congrArg some aE)
 ·exact fun _ _ e=>(nn e).elim
 ·exact fun _ _ e=>(nn e).elim
 ·exact fun e=>AM .nil e
 ·intro p v l vs _ _ WA WB ds e
  rw[iI] at e
  generalize ae:toD p=x at e
  generalize bl:iI l=y at e
  cases x with
  |none=>exact (nn e).elim
  |some d=>cases y with
   |none=>exact (nn e).elim
   |some RV=>exact (WA ae).elim fun as gB=>gZ (WB bl) fun bs fo=>AM (.cons gB fo) e
theorem IsL.reads: ∀{l:List I} {vs:List af} {ds:List i7},IsL B aA h l vs→iI l=some ds→ ∃as,ReadsAll h vs ds as:=by
 intro l
 induction l with
 |nil=>intro vs ds x e;cases x;exact AM .nil e
 |cons p l ay=>
  intro vs ds x e
  cases x with|cons x r=>
  rw[iI] at e
  generalize ae:toD p=gN at e
  generalize bl:iI l=y at e
  cases gN with
  |none=>exact (nn e).elim
  |some d=>cases y with
   |none=>exact (nn e).elim
   |some RV=>exact (x.reads ae).elim fun as gB=>(ay r bl).elim fun bs fo=>AM (.cons gB fo) e
end
noncomputable def IY (p q:I):Option Bool:=match p with
 | .ao a=>match q with
  | .ao b=>some (hx a b==some Ordering.eq)
  |_=>none
 |_=>none
noncomputable def IL (x y:Option i7) (f:Option Bool):Option Bool:=match x with
 |some d=>match y with
  |some e=>if shaped d&&shaped e then some (i8 d e) else none
  |none=>f
 |none=>f
noncomputable def eX (p q:I):Option Bool:=IL (toD p) (toD q) (IY p q)
noncomputable def abq (x:I) (z:Str):Option Bool:=match x with
 | .str y=>some !(k6 z y 0 z.length 1).isEmpty
 |_=>none
noncomputable def D9 (x:Option i7) (y:Option (List i7)):Option Bool:=match x with
 |some d=>match y with
  |some ds=>if shaped d&&shaped (.list ds) then some (ds.any fun y=>i8 y d) else none
  |none=>none
 |none=>none
noncomputable def iF (x c:I):Option Bool:=match c with
 | .str z=>abq x z
 | .list l=>D9 (toD x) (iI l)
 |_=>none
noncomputable def Q9:js→Int→Int→Option Bool
 | .Lt,a,b=>some (decide (a<b))
 | .LtE,a,b=>some (decide (a≤b))
 | .Gt,a,b=>some (decide (b<a))
 | .GtE,a,b=>some (decide (b≤a))
 |_,_,_=>none
noncomputable def Q8:js→UInt64→UInt64→Option Bool
 | .Lt,a,b=>some (hx a b==some Ordering.lt)
 | .LtE,a,b=>some (hx a b==some Ordering.lt||hx a b==some Ordering.eq)
 | .Gt,a,b=>some (hx a b==some Ordering.gt)
 |_,_,_=>none
noncomputable def Q6:js→Bool→Bool→Option Bool
 | .Is,a,b=>some (a==b)
 | .IsNot,a,b=>some (a !=b)
 |_,_,_=>none
noncomputable def m7:I→Option Int
 | .int i=>some i
 |_=>none
noncomputable def sU:I→Option UInt64
 | .ao i=>some i
 |_=>none
noncomputable def ye:I→Option Bool
 | .bool i=>some i
 |_=>none
noncomputable def m8:I→Option Str
 | .str x=>some x
 |_=>none
noncomputable def u6:I→Option (List I)
 | .list x=>some x
 |_=>none
noncomputable def oneOf:List I→Option I
 |[p]=>some p
 |_=>none
theorem pG {p:I} {i:Str} (h:m8 p=some i):p= .str i:=by
 cases p with
 |str j=>exact congrArg I.str (inj h)
 |_=>exact (nn h).elim
theorem yf {p:I} {i:List I} (h:u6 p=some i):p= .list i:=by
 cases p with
 |list j=>exact congrArg I.list (inj h)
 |_=>exact (nn h).elim
theorem qk {ps:List I} {p:I} (h:oneOf ps=some p):ps=[p]:=by
 cases ps with
 |nil=>exact (nn h).elim
 |cons q r=>
  cases r with
  |nil=>exact congrArg (·::[]) (inj h)
  |cons=>exact (nn h).elim
theorem kH {p:I} {i:Int} (h:m7 p=some i):p= .int i:=by
 cases p with
 |int j=>exact congrArg I.int (inj h)
 |_=>exact (nn h).elim
theorem u5 {p:I} {i:UInt64} (h:sU p=some i):p= .ao i:=by
 cases p with
 |ao j=>exact congrArg I.ao (inj h)
 |_=>exact (nn h).elim
theorem HF {p:I} {i:Bool} (h:ye p=some i):p= .bool i:=by
 cases p with
 |bool j=>exact congrArg I.bool (inj h)
 |_=>exact (nn h).elim
noncomputable def CM (op:js) (a b:I):Option Bool:=match a with
 | .int i=>(m7 b).bind (Q9 op i)
 | .ao i=>(sU b).bind (Q8 op i)
 | .bool i=>(ye b).bind (Q6 op i)
 |_=>none
noncomputable def fe (op:js) (a b:I):Option Bool:=match op with
 | .Eq=>eX a b
 | .NotEq=>(eX a b).map (!·)
 | .In=>iF a b
 | .NotIn=>(iF a b).map (!·)
 |op=>CM op a b
section
variable {T:bE} {A:bO} {g:G} {s:aw} {gb:W}
theorem L6 {a b:I} {r:Bool} {eD fA:af} {h:aR} {G:Prop} (e:eX a b=some r)
  (gB: ∀D,toD a=some D→ ∃as,kx h eD D as) (fo: ∀D,toD b=some D→ ∃as,kx h fA D as)
  (bt: ∀D jZ as bs,kx h eD D as→kx h fA jZ bs→shaped D=true→shaped jZ=true→i8 D jZ=r→G)
  (bB: ∀x y,a= .ao x→b= .ao y→(hx x y==some Ordering.eq)=r→G):G:=by
 have key:IY a b=some r→G:=fun e=>by
  cases a with
  |ao x=>cases b with
   |ao y=>exact bB x y rfl rfl (inj e)
   |_=>exact (nn e).elim
  |_=>exact (nn e).elim
 unfold eX at e
 generalize ae:toD a=x at e
 generalize bl:toD b=y at e
 cases x with
 |none=>exact key e
 |some D=>cases y with
  |none=>exact key e
  |some jZ=>
   have aC:=g7.mp (ck e)
   exact (gB D ae).elim fun as aJ=>(fo jZ bl).elim fun bs aa=>bt D jZ as bs aJ aa aC.1 aC.2 (inj (cA e))
theorem L7 {a b:I} {r:Bool} {eD fA:af} {h:aR} {G:Prop} (e:iF a b=some r)
  (gB: ∀D,toD a=some D→ ∃as,kx h eD D as) (fo: ∀D,toD b=some D→ ∃as,kx h fA D as)
  (bt: ∀D ds as bs,kx h eD D as→kx h fA (.list ds) bs→shaped D=true→shaped (.list ds)=true→(ds.any fun y=>i8 y D)=r→G)
  (bB: ∀x y,a= .str x→b= .str y→(!(k6 y x 0 y.length 1).isEmpty)=r→G):G:=by
 cases b with
 |str y=>cases a with
  |str x=>exact bB x y rfl rfl (inj e)
  |_=>exact (nn e).elim
 |list l=>
  replace e:D9 (toD a) (iI l)=some r:=e
  generalize ae:toD a=x at e
  generalize bl:iI l=y at e
  cases x with
  |none=>exact (nn e).elim
  |some D=>cases y with
   |none=>exact (nn e).elim
   |some ds=>
    have aC:=g7.mp (ck e)
    exact (gB D ae).elim fun as aJ=>(fo (.list ds) (congrArg (N0 PyData.list) bl)).elim fun bs aa=>bt D ds as bs aJ aa aC.1 aC.2 (inj (cA e))
 |_=>exact (nn e).elim
theorem Is.jS {B:au→Prop} {aA:List c3} {h:aR} {i:Int} {v:af} (x:Is B aA h (.int i) v): ∃t,v= .int i t:=by cases x;exact ⟨_,rfl⟩
theorem Is.lT {B:au→Prop} {aA:List c3} {h:aR} {i:UInt64} {v:af} (x:Is B aA h (.ao i) v): ∃t,v= .float i t:=by cases x;exact ⟨_,rfl⟩
theorem Is.h8 {B:au→Prop} {aA:List c3} {h:aR} {i:Str} {v:af} (x:Is B aA h (.str i) v): ∃t,v= .str i t:=by cases x;exact ⟨_,rfl⟩
theorem Is.Bp {B:au→Prop} {aA:List c3} {h:aR} {i:Bool} {v:af} (x:Is B aA h (.bool i) v):v= .bool i:=by cases x;rfl
theorem Ra {op:js} {a b:I} {r:Bool} {eD fA:af} {E:af→aw→Prop} {Q:af→aw→Prop} (e:CM op a b=some r) (k: ∀c:Bool,c=r→Q (.bool c) s)
  (di:(∀l,a≠ .list l)→Is g.B g.aA s.heap a eD) (hn:(∀l,b≠ .list l)→Is g.B g.aA s.heap b fA):bc (bo T.prog T.w) A (compareOp op eD fA) Q E s:=by
 have di:=di fun l h=>nn (h▸e:CM op (.list l) b=some r)
 cases di with
 |int i t=>
  refine aN e fun j aa e=> ?_
  obtain rfl:=kH aa
  obtain ⟨u,rfl⟩:=(hn nofun).jS
  cases op with
  |Lt=>exact lt_int (k _ (inj e))
  |LtE=>exact le_int (k _ (inj e))
  |Gt=>exact gt_int (k _ (inj e))
  |GtE=>exact ge_int (k _ (inj e))
  |_=>exact (nn e).elim
 |ao i t=>
  refine aN e fun j aa e=> ?_
  obtain rfl:=u5 aa
  obtain ⟨u,rfl⟩:=(hn nofun).lT
  cases op with
  |Lt=>exact aen (k _ (inj e))
  |LtE=>exact AutoFloatOps.le_0 (k _ (inj e))
  |Gt=>exact aeo (k _ (inj e))
  |_=>exact (nn e).elim
 |bool i=>
  refine aN e fun j aa e=> ?_
  obtain rfl:=HF aa
  obtain rfl:=(hn nofun).Bp
  cases op with
  |Is=>exact is_bool (k _ (inj e))
  |IsNot=>exact isnot_bool (k _ (inj e))
  |_=>exact (nn e).elim
 |_=>exact (nn e).elim
theorem Rb {op:js} {a b:I} {r:Bool} {eD fA:af} {n:Nat} (e:fe op a b=some r) (d:aL T g gb s) (bZ:Room (n+8) A)
  (gB: ∀D,toD a=some D→ ∃as,kx s.heap eD D as) (fo: ∀D,toD b=some D→ ∃as,kx s.heap fA D as) (di:(∀l,a≠ .list l)→Is g.B g.aA s.heap a eD) (hn:(∀l,b≠ .list l)→Is g.B g.aA s.heap b fA):
  aK T A (compareOp op eD fA) g s (Res T gb (.bool r)):=by
 refine .val d fun E Q k=> ?_
 have dh:A.units+65<cLine:=by have:=bZ.units;exact aH (bL this)
 replace k: ∀c:Bool,c=r→Q (.bool c) s:=fun c ah=>by subst ah;exact k _ s.toks (.bool _)
 cases op with
 |Eq=>
  refine L6 e gB fo (fun D jZ as bs aJ aa J U e=>eq_dataH aJ aa J U (by exact G6 dh) (k _ e)) fun x y J U q=> ?_
  clear e gB fo
  subst J U
  obtain ⟨t,rfl⟩:=(di nofun).lT
  obtain ⟨u,rfl⟩:=(hn nofun).lT
  exact AutoFloatOps.eq_0 (k _ q)
 |NotEq=>
  refine iB e fun c e ah=>L6 e gB fo (fun D jZ as bs aJ aa J U e=>ne_dataH aJ aa J U (by exact G6 dh) (k _ ((congrArg not e).trans ah))) fun x y J U q=> ?_
  clear e gB fo
  subst J U
  obtain ⟨t,rfl⟩:=(di nofun).lT
  obtain ⟨u,rfl⟩:=(hn nofun).lT
  exact AutoFloatOps.ne_0 (k _ ((congrArg not q).trans ah))
 |In=>
  refine L7 e gB fo (fun D ds as bs aJ aa J U e=>in_list_reads aa aJ (xy U) (xy J) (N1 J dh) (k _ e)) fun x y J U q=> ?_
  clear e gB fo
  subst J U
  obtain ⟨t,rfl⟩:=(di nofun).h8
  obtain ⟨u,rfl⟩:=(hn nofun).h8
  exact in_str (k _ q)
 |NotIn=>
  refine iB e fun c e ah=>L7 e gB fo (fun D ds as bs aJ aa J U e=>notIn_list_reads aa aJ (xy U) (xy J) (N1 J dh) (k _ ((congrArg not e).trans ah))) fun x y J U q=> ?_
  clear e gB fo
  subst J U
  obtain ⟨t,rfl⟩:=(di nofun).h8
  obtain ⟨u,rfl⟩:=(hn nofun).h8
  exact notIn_str (k _ (by rw[←ah,←q,Bool.not_not]))
 |_=>exact Ra e k di hn
end
end
inductive Slot where
 |unset|val (p:I)|own (l:List I)
noncomputable abbrev ar:=List (Str×Slot)
noncomputable def ar.get:ar→Str→Slot
 |[],_=> .unset
 |(y,v)::r,x=>if y==x then v else ar.get r x
noncomputable def ar.set:ar→Str→Slot→ar
 |[],x,v=>[(x,v)]
 |(y,u)::r,x,v=>if y==x then (y,v)::r else (y,u)::ar.set r x v
noncomputable def ar.freeze (σ:ar) (xs:List Str):ar:=σ.map fun (y,u)=>(y,if xs.contains y then (match u with| .own l=> .val (.list l)|u=>u) else u)
inductive ej where
 |next|brk|cont|ret (p:I)
noncomputable def isWs (c:Nat):Bool:=c==10||c==9||c==13||c==32
noncomputable def cf.read (x:cf):Option Nat×cf:=match x.rem with
 |[]=>(none,x)
 |c::r=>(some c,{x with rem:=r,line:=if c==10 then x.line+1 else x.line})
noncomputable def xv:Nat→List Nat→cf→List Nat×cf
 |0,acc,x=>(acc,x)
 |n+1,acc,x=>match x.read with
  |(none,x)=>(acc,x)
  |(some c,x)=>if c==34 then (acc,x) else if c==92 then (let (d,x):=x.read;xv n (acc++d.toList) x) else xv n (acc++[c]) x
noncomputable def uq:Nat→List Nat→cf→List Nat×cf
 |0,acc,x=>(acc,x)
 |n+1,acc,x=>match x.read with
  |(none,x)=>(acc,x)
  |(some c,x)=>if isWs c then (acc,x) else if c==92 then (let (d,x):=x.read;uq n (acc++d.toList) x) else uq n (acc++[c]) x
noncomputable def i6:Nat→cf→List Nat×cf
 |0,x=>([],x)
 |n+1,x=>match x.read with
  |(none,x)=>([],x)
  |(some c,x)=>if isWs c then i6 n x else if c==34 then xv (x.rem.length+1) [] x
   else if c==92 then (let (d,x):=x.read;uq (x.rem.length+1) d.toList x) else uq (x.rem.length+1) [c] x
noncomputable def cf.token (x:cf):Str×cf:=match x.push with
 |t::r=>(t,{x with push:=r})
 |[]=>let (t,x):=i6 (x.rem.length+1) x;(⟨t.toArray⟩,x)
noncomputable def gV (k:Int) (n:Nat):Option Nat:=if small k then seqIndex? k n else none
noncomputable def Wr (x:I) (i:Int):Option I:=match x with
 | .list l=>if small i then (seqIndex? i l.length).bind fun j=>l[j]? else none
 | .tup l=>if small i then (seqIndex? i l.length).bind fun j=>l[j]? else none
 | .str x=>if small i then ((seqIndex? i x.length).bind (x.cps[·]?)).map fun c=> .str ⟨#[c]⟩ else none
 |_=>none
noncomputable def cz (x k:I):Option I:=(m7 k).bind (Wr x)
noncomputable def w5:I→Option (Option Int)
 | .none=>some none
 | .int i=>some (some i)
 |_=>none
noncomputable def ql (l:List I) (lo aB st:Option Int):List I:=
 (sliceRange (sliceBounds lo aB st l.length).1 (sliceBounds lo aB st l.length).2.1 (sliceBounds lo aB st l.length).2.2).filterMap (l[·]?)
noncomputable def gS (x:Str) (lo aB:Option Int):Str:=
 if (1==(1:Int)&&(F6 lo aB 1 x.length).length==x.length)=true then x else ⟨((F6 lo aB 1 x.length).filterMap (x.cps[·]?)).toArray⟩
noncomputable def e' (v lo aB st:I):Option I:=(w5 lo).bind fun lo=>(w5 aB).bind fun aB=>(w5 st).bind fun st=>match v with
 | .list l=>if st≠some 0∧l.length≤1048576 then some (.list (ql l lo aB st)) else none
 | .str x=>if st=none∧x.length≤1048576 then some (.str (gS x lo aB)) else none
 |_=>none
noncomputable def XK:I→Option Nat
 | .list l=>some l.length
 | .tup l=>some l.length
 | .str x=>some x.length
 |_=>none
noncomputable def nP:List I→Option Int
 |[]=>some 0
 |p::l=>(m7 p).bind fun i=>(nP l).map (i+·)
noncomputable def r':List I→Option (List Str)
 |[]=>some []
 |p::l=>(m8 p).bind fun x=>(r' l).map (x::·)
noncomputable def mP:I→Option Bool
 | .bool b=>some b
 | .str x=>if x.length≤1048576 then some ((x.length:Int) !=0) else none
 |_=>none
noncomputable def nq (a b:UInt64):Bool:=hx a b==some Ordering.gt
noncomputable def vI (a b:UInt64):Bool:=hx a b==some Ordering.lt
noncomputable def D7 (n:Nat) (x:Option i7) (y:Option (List i7)):Option Nat:=match x with
 |some d=>match y with
  |some ds=>if shaped d&&shaped (.list ds)&&n≤1048576 then ds.findIdx? fun y=>i8 y d else none
  |none=>none
 |none=>none
noncomputable def idxOf (x:I) (l:List I):Option Nat:=D7 l.length (toD x) (iI l)
noncomputable def intsFrom (a:Int) (k:Nat):List I:=(bI k).map fun (i:Nat)=> .int (a+i)
noncomputable def i4 (vs:List I):Option (List I):=match vs with
 |[]=>none
 |p::r=>(m7 p).bind fun a=>match r with
  |[]=>if small a then some (intsFrom 0 a.toNat) else none
  |q::r=>if r.isEmpty then (m7 q).bind fun b=>if small a&&small b then some (intsFrom a (b-a).toNat) else none else none
noncomputable def isName:Expr→Bool
 | .Name .. =>true
 |_=>false
noncomputable def jJ:Expr→Bool
 | .Tuple .. =>true
 |_=>false
noncomputable def rh (l:List I):List I:=(l.zipIdx).map fun (p,i)=> .tup [.int i,p]
noncomputable def dT (x:Str) (s:String):Bool:=x==ab s
noncomputable def truncF (w:UInt64):Option I:=match lV w with
 | .fin neg m e=>some (.int (uE neg m e))
 |_=>none
noncomputable def FL:List I→Option (UInt64×UInt64×UInt64)
 |[a,b,c]=>(sU a).bind fun a=>(sU b).bind fun b=>(sU c).bind fun c=>some (a,b,c)
 |_=>none
noncomputable def KO (vs:List I):Option I:=(oneOf vs).bind fun v=>(XK v).bind fun n=>if n≤1048576 then some (.int n) else none
noncomputable def M3 (vs:List I):Option I:=(oneOf vs).bind fun v=>(u6 v).bind fun l=>(nP l).map .int
noncomputable def Kt (vs:List I):Option I:=(oneOf vs).bind fun v=>(sU v).bind truncF
noncomputable def K6 (vs:List I):Option I:=(FL vs).bind fun x=>let m:=if nq x.2.1 x.1 then x.2.1 else x.1;some (.ao (if nq x.2.2 m then x.2.2 else m))
noncomputable def Ld (vs:List I):Option I:=(FL vs).bind fun x=>let m:=if vI x.2.1 x.1 then x.2.1 else x.1;some (.ao (if vI x.2.2 m then x.2.2 else m))
noncomputable def gd (f:Str) (vs:List I):Option I:=
 if dT f "len" then KO vs
 else if dT f "sum" then M3 vs
 else if dT f "int" then Kt vs
 else if dT f "max" then K6 vs
 else if dT f "min" then Ld vs
 else none
noncomputable def startM (x y:Str):Option I:=some (.bool (jt x y))
noncomputable def SF (x y:Str):Option I:=some (.bool (ky x y))
noncomputable def countM (x y:Str):Option I:=some (.int (Bt x y))
noncomputable def joinM (x:Str) (l:List I):Option I:=(r' l).bind fun ts=>if qB x ts then some (.str (gq x ts)) else none
noncomputable def HC:List I→Option (Str×Int×Int)
 |[y,a,b]=>(m8 y).bind fun y=>(m7 a).bind fun a=>(m7 b).bind fun b=>some (y,a,b)
 |_=>none
noncomputable def I2 (x:Str) (q:Str×Int×Int):Option I:=some (.int (match k6 x q.1 (fromIndex x.length q.2.1) (min (fromIndex x.length q.2.2) x.length) 1 with|k::_=>(k:Int)|[]=> -1))
noncomputable def methP (m:Str) (v:I) (vs:List I):Option I:=
 if dT m "index" then (u6 v).bind fun l=>(oneOf vs).bind fun x=>(idxOf x l).map fun (n:Nat)=> .int n
 else (m8 v).bind fun x=>
 if dT m "find" then (HC vs).bind (I2 x)
 else (oneOf vs).bind fun y=>
 if dT m "join" then (u6 y).bind (joinM x)
 else (m8 y).bind fun y=>
 if dT m "startswith" then startM x y
 else if dT m "endswith" then SF x y
 else if dT m "count" then countM x y
 else none
structure a' where
 dx:uZ
 d:Nat
 sc:Scope
noncomputable def jN (d:iN):List Str:=d.params.args.map (·.arg)
noncomputable def isSet:Expr→Bool
 | .Set .. =>true
 |_=>false
noncomputable def baseOk:Expr→Bool
 | .Call (.Name _ _) [] [] _=>false
 |_=>true
noncomputable def wm:Expr→Bool
 | .List .. =>true
 | .ListComp .. =>true
 | .Call (.Attribute _ m _) _ _ _=>dT m "split"
 |_=>false
noncomputable def WK (f:Str):Bool:=(["len","sum","max","min","abs","int","range","enumerate","sorted","set"]:List String).any (dT f)
noncomputable def bG:Nat→Bool→Expr→List Str
 |0,_,_=>[]
 |n+1,top,e=>match e with
  | .Name x _=>if top then [x] else []
  | .List es _=>es.flatMap (bG n true)
  | .Tuple es _ _=>es.flatMap (bG n true)
  | .IfExp t a b _=>bG n false t++bG n true a++bG n true b
  | .BoolOp _ es _=>es.flatMap (bG n true)
  | .BinOp a _ b _=>bG n false a++bG n false b
  | .UnaryOp _ a _=>bG n false a
  | .Compare a _ es _=>bG n false a++es.flatMap (bG n false)
  | .Subscript a b _=>bG n false a++bG n false b
  | .Attribute a _ _=>bG n false a
  | .Call (.Name f _) as _ _=>as.flatMap (bG n (!WK f))
  | .Call (.Attribute o _ _) as _ _=>bG n false o++as.flatMap (bG n true)
  | .ListComp e gens _ _=>bG n true e++gens.flatMap fun g=>bG n false g.iter++g.ifs.flatMap (bG n false)
  |_=>[]
noncomputable def dq (sc:Scope) (x:Str):Bool:=sc.names.lookup x==some .local||sc.names.lookup x==some .cell
noncomputable def kV:Expr→Option Str
 | .Name x _=>some x
 |_=>none
noncomputable def Nq:Expr→Option (List Expr)
 | .Tuple ts _ _=>some ts
 |_=>none
noncomputable def MD:I→Option (List I)
 | .tup l=>some l
 | .list l=>some l
 |_=>none
noncomputable def va (sc:Scope) (t:Expr) (p:I) (σ:ar):Option ar:=(kV t).bind fun x=>if dq sc x then some (σ.set x (.val p)) else none
noncomputable def pI (sc:Scope):List Expr→List I→ar→Option ar
 |[],l,σ=>if l.isEmpty then some σ else none
 |t::ts,l,σ=>match l with
  |[]=>none
  |p::l=>(va sc t p σ).bind fun σ=>pI sc ts l σ
noncomputable def gc (sc:Scope) (t:Expr) (p:I) (σ:ar):Option ar:=(Nq t).elim (va sc t p σ) fun ts=>(MD p).bind fun l=>pI sc ts l σ
noncomputable def ar.hide (σ:ar) (xs:List Str):ar:=σ.map fun (y,u)=>(y,if xs.contains y then .unset else u)
noncomputable def Scope.dC (sc:Scope):List Str:=(sc.names.filter fun x=>x.2== .local||x.2== .cell).map (·.1)
noncomputable def rb (sc bj:Scope):Bool:=
 bj.kind== .function&&decide (bj.names.map (·.1)).Nodup&&
 bj.names.all fun x=>x.1 !=("__debug__":Str)&&x.1 !=("__classdict__":Str)&&(x.2== .local||x.2== .cell||x.2== .globalImplicit||
  (x.2== .free&&(sc.names.lookup x.1==some .cell||sc.names.lookup x.1==some .free)))
noncomputable def held (sc:Scope) (x:Str):Bool:=match sc.names.lookup x with
 |some k=>k != .globalImplicit
 |none=>false
noncomputable def ar.own? (sc:Scope) (σ:ar) (x:Str):Option (List I):=if held sc x then (match σ.get x with| .own l=>if l.length≤1048576 then some l else none|_=>none) else none
noncomputable abbrev intOf:=m7
noncomputable def valOf:Slot→Option I
 | .val p=>some p
 |_=>none
noncomputable def pairOf:List I→Option (I×I)
 |[p,q]=>some (p,q)
 |_=>none
noncomputable def rJ:Expr→Bool
 | .ListComp .. =>true
 | .SetComp .. =>true
 | .DictComp .. =>true
 |_=>false
noncomputable def isSlice:Expr→Bool
 | .Slice .. =>true
 |_=>false
noncomputable def Bj:Expr→Bool
 | .Tuple vs _ _=>vs.all (foldedForSure 8)|| !(vs.all (constantsAlone 8))
 |_=>true
noncomputable def PO:iO→Int→Int→Option I
 | .Add,a,b=>some (.int (a+b))
 | .Sub,a,b=>some (.int (a-b))
 |_,_,_=>none
noncomputable def PQ:iO→Str→Str→Option I
 | .Add,x,y=>if x.length+y.length≤1048576 then some (.str (x++y)) else none
 |_,_,_=>none
noncomputable def m' (op:iO) (a b:I):Option I:=match a with
 | .int a=>(m7 b).bind (PO op a)
 | .str a=>(m8 b).bind (PQ op a)
 |_=>none
noncomputable def CP:Const→Option I
 | .none=>some .none
 | .bool b=>some (.bool b)
 | .int i=>some (.int i)
 | .float f=>some (.ao f)
 | .str s=>some (.str s)
 |_=>none
noncomputable def MP:Slot→Option I
 | .val p=>some p
 | .own l=>some (.list l)
 | .unset=>none
noncomputable def wL (cx:a') (σ:ar) (x:Str):Option I:=(cx.sc.names.lookup x).bind fun k=>if k== .globalImplicit then cx.dx.consts.lookup x else valOf (σ.get x)
noncomputable def rU (cx:a') (σ:ar) (x:Str):Option I:=(cx.sc.names.lookup x).bind fun k=>if k== .globalImplicit then cx.dx.consts.lookup x else MP (σ.get x)
noncomputable def ab4 (x y:Str):Option (List I):=if (y.length==0)=false∧x.length≤1048576∧(F7 x (k6 x y 0 x.length (x.length+1)) y.length).length≤1048576 then some ((qC x y).map .str) else none
noncomputable def Fw (x:I) (l:List I):Option (List I):=(m8 x).bind fun x=>(oneOf l).bind fun y=>(m8 y).bind fun y=>ab4 x y
noncomputable def IK (l:List I):Option (List I):=(oneOf l).bind fun x=>(u6 x).map rh
noncomputable def Ed:I→Option (List I)
 | .list l=>some l
 | .tup l=>some l
 | .str x=>some (x.cps.toList.map fun c=> .str ⟨#[c]⟩)
 |_=>none
noncomputable def IH:ej→Option I
 | .ret p=>some p
 | .next=>some .none
 |_=>none
noncomputable def A5:BoolOp→Bool→Bool
 | .And,false=>true
 | .Or,true=>true
 |_,_=>false
noncomputable def wZ:I→Option Nat
 | .obj i=>some i
 |_=>none
noncomputable def ur (i:Nat) (w:W):Option (I×W):=(w[i]?).bind fun l=>some (.str l.token.1,w.set i l.token.2)
noncomputable def z4 (i:Nat) (w:W):Option (I×W):=(w[i]?).map fun l=>(.int l.line,w)
noncomputable def Jj:ej→Bool
 | .next=>true
 |_=>false
noncomputable def Bk:ej→Bool
 | .next=>true
 | .cont=>true
 |_=>false
noncomputable def zV:ej→ej
 | .brk=> .next
 |f=>f
noncomputable def m6:List Expr→Option Expr
 |[e]=>some e
 |_=>none
noncomputable def Ct:List Expr→Option (Expr×Expr)
 |[a,b]=>some (a,b)
 |_=>none
noncomputable def A1:Expr→Option (Option Expr×Option Expr×Option Expr)
 | .Slice lo aB st _=>some (lo,aB,st)
 |_=>none
noncomputable def yu:Expr→Option (Str×List Expr)
 | .Call f as dI _=>(kV f).bind fun x=>if dI.isEmpty then some (x,as) else none
 |_=>none
noncomputable def Fy (as:List Expr):Option (Str×Expr):=(m6 as).bind fun e=>(yu e).bind fun q=>(m6 q.2).map fun a=>(q.1,a)
noncomputable def CO:List Comprehension→Option (Expr×Expr×List Expr)
 |[g]=>if g.is_async==0 then some (g.target,g.iter,g.ifs) else none
 |_=>none
noncomputable def Fv (f:Expr) (as:List Expr) (dI:List sh) (p:Pos):Option (Expr×Expr):=match f with
 | .Attribute o m ap=>(m6 as).bind fun a=>if dI.isEmpty&&(baseOk o&&ap.endLine==p.line&&dT m "split") then some (o,a) else none
 |_=>none
inductive x3 where
 |name (x:Str)|tuple (t:Expr)|sub (x:Str) (i:Expr)
noncomputable def PK:Expr→Option x3
 | .Name x _=>some (.name x)
 | .Tuple ts a b=>some (.tuple (.Tuple ts a b))
 | .Subscript v i _=>(kV v).map fun x=> .sub x i
 |_=>none
noncomputable def Cu (ts:List Expr):Option x3:=(m6 ts).bind PK
noncomputable def Cw:Expr→Option (Str×Option Expr)
 | .Name x _=>some (x,none)
 | .Subscript v i _=>(kV v).map fun x=>(x,some i)
 |_=>none
noncomputable def yt:Expr→Option (Str×Str×List Expr)
 | .Call f as dI pos=>match f with
  | .Attribute o m ap=>(kV o).bind fun x=>if dI.isEmpty&&ap.endLine==pos.line then some (x,m,as) else none
  |_=>none
 |_=>none
noncomputable def AF (e:Expr):Option (Str×Expr):=(yt e).bind fun q=>if dT q.2.1 "pop" then (m6 q.2.2).map fun i=>(q.1,i) else none
noncomputable def RJ:Expr→Option (Str×Expr)
 | .Subscript v i _=>(kV v).map fun x=>(x,i)
 |_=>none
noncomputable def CS (ts:List Expr):Option (Str×Expr):=(m6 ts).bind RJ
mutual
noncomputable def ev:Nat→a'→Expr→ar→W→Option (I×W)
 |0,_,_,_,_=>none
 |n+1,cx,e,σ,w=>match e with
  | .BinOp a op b _=>bf (ev n cx a σ w) fun x=>bf (ev n cx b σ x.2) fun y=>bf ((cv op x.1 y.1)) fun r=>some (r,y.2)
  | .UnaryOp op a _=>bf (ev n cx a σ w) fun x=>bf ((FR op x.1)) fun r=>some (r,x.2)
  | .BoolOp op es _=>j8 n cx op es σ w
  | .Compare l ops rs _=>if rs.any isSet then none else bf (c8 n cx l σ w) fun x=>bf (iR n cx x.1 ops rs σ x.2) fun b=>some (.bool b.1,b.2)
  | .IfExp t a b _=>bf (fa n cx t σ w) fun c=>if c.1 then ev n cx a σ c.2 else ev n cx b σ c.2
  | .List es p=>bf (gj n cx (.List es p) σ w) fun r=>some (.list r.1,r.2)
  | .ListComp a b c p=>bf (gj n cx (.ListComp a b c p) σ w) fun r=>some (.list r.1,r.2)
  | .Tuple es _ _=>bf (d5 n cx es σ w) fun r=>if r.1.length≤1048576 then some (.tup r.1,r.2) else none
  | .Subscript v i _=>(A1 i).elim (bf (c8 n cx v σ w) fun x=>bf (ev n cx i σ x.2) fun k=>bf ((cz x.1 k.1)) fun r=>some (r,k.2)) fun q=>
   bf (c8 n cx v σ w) fun x=>bf (h2 n cx q.1 σ x.2) fun a=>bf (h2 n cx q.2.1 σ a.2) fun b=>bf (h2 n cx q.2.2 σ b.2) fun k=>bf ((e' x.1 a.1 b.1 k.1)) fun r=>some (r,k.2)
  | .Call f as dI p=>match f with
   | .Name f _=>if dI.isEmpty&&(cx.sc.names.lookup f==some .globalImplicit) then
     if dT f "_netrclex" then bf ((Fy as)) fun q=>if cx.dx.lex&&dT q.1 "_law_stream"&&cx.sc.names.lookup q.1==some .globalImplicit&&decide (4≤cx.d) then bf (ev n cx q.2 σ w) fun x=>bf ((m8 x.1)) fun t=>if t.length≤1048576∧d8 t=true then (some (.obj x.2.length,x.2++[⟨t.cps.toList,1,[]⟩])) else none else none
     else (cx.dx.fns.find? (fun d=>d.name==f)).elim (bf (hN n cx as σ w) fun r=>bf ((gd f r.1)) fun z=>some (z,r.2)) fun d=>
      bf (d5 n cx as σ w) fun r=>(cn n cx d r.1 r.2)
    else none
   | .Attribute o m ap=>if dI.isEmpty&&(baseOk o&&ap.endLine==p.line&&decide (as.length<20)) then
     if cx.dx.lex&&dT m "get_token" then (if as.isEmpty&&decide (4≤cx.d) then bf (ev n cx o σ w) fun x=>bf ((wZ x.1)) fun i=>(ur i x.2) else none)
     else if dT m "split" then bf (gj n cx e σ w) fun r=>some (.list r.1,r.2)
     else bf (c8 n cx o σ w) fun x=>bf (hN n cx as σ x.2) fun r=>bf ((methP m x.1 r.1)) fun z=>some (z,r.2)
    else none
   |_=>none
  | .Attribute v a _=>if cx.dx.lex&&baseOk v&&dT a "lineno" then bf (ev n cx v σ w) fun x=>bf ((wZ x.1)) fun i=>(z4 i x.2) else none
  | .Constant c _ _=>bf ((CP c)) fun p=>some (p,w)
  | .Name x _=>bf ((wL cx σ x)) fun p=>some (p,w)
  |_=>none
noncomputable def c8:Nat→a'→Expr→ar→W→Option (I×W)
 |0,_,_,_,_=>none
 |n+1,cx,e,σ,w=>(kV e).elim (ev n cx e σ w) fun x=>bf ((rU cx σ x)) fun p=>some (p,w)
noncomputable def hN:Nat→a'→List Expr→ar→W→Option (List I×W)
 |0,_,_,_,_=>none
 |n+1,cx,es,σ,w=>match es with
  |[]=>some ([],w)
  |e::es=>bf (c8 n cx e σ w) fun p=>bf (hN n cx es σ p.2) fun l=>some (p.1::l.1,l.2)
noncomputable def d5:Nat→a'→List Expr→ar→W→Option (List I×W)
 |0,_,_,_,_=>none
 |n+1,cx,es,σ,w=>match es with
  |[]=>some ([],w)
  |e::es=>bf (ev n cx e σ w) fun p=>bf (d5 n cx es σ p.2) fun l=>some (p.1::l.1,l.2)
noncomputable def h2:Nat→a'→Option Expr→ar→W→Option (I×W)
 |0,_,_,_,_=>none
 |n+1,cx,e,σ,w=>e.elim (some (.none,w)) fun e=>ev n cx e σ w
noncomputable def j8:Nat→a'→BoolOp→List Expr→ar→W→Option (I×W)
 |0,_,_,_,_,_=>none
 |n+1,cx,op,es,σ,w=>match es with
  |[]=>none
  |e::r=>if r.isEmpty then ev n cx e σ w else bf (ev n cx e σ w) fun p=>bf ((ye p.1)) fun b=>if A5 op b then some (.bool b,p.2) else j8 n cx op r σ p.2
noncomputable def iR:Nat→a'→I→List js→List Expr→ar→W→Option (Bool×W)
 |0,_,_,_,_,_,_=>none
 |n+1,cx,x,ops,es,σ,w=>match es with
  |[]=>none
  |e::es=>match ops with
   |[]=>none
   |op::ops=>if ops.isEmpty then (if es.isEmpty then bf (c8 n cx e σ w) fun y=>bf ((fe op x y.1)) fun r=>some (r,y.2) else none)
    else bf (c8 n cx e σ w) fun y=>bf ((fe op x y.1)) fun r=>if r then iR n cx y.1 ops es σ y.2 else some (false,y.2)
noncomputable def fa:Nat→a'→Expr→ar→W→Option (Bool×W)
 |0,_,_,_,_=>none
 |n+1,cx,e,σ,w=>match e with
  | .BoolOp op es _=>fY n cx op es σ w
  | .Compare l ops rs _=>if rs.any isSet then none else bf (c8 n cx l σ w) fun x=>iR n cx x.1 ops rs σ x.2
  | .Name .. =>bf (ev n cx e σ w) fun p=>bf ((mP p.1)) fun b=>some (b,p.2)
  | .Call .. =>bf (ev n cx e σ w) fun p=>bf ((mP p.1)) fun b=>some (b,p.2)
  |_=>none
noncomputable def fY:Nat→a'→BoolOp→List Expr→ar→W→Option (Bool×W)
 |0,_,_,_,_,_=>none
 |n+1,cx,op,es,σ,w=>match es with
  |[]=>some (op== .And,w)
  |e::es=>bf (fa n cx e σ w) fun b=>if A5 op b.1 then some b else fY n cx op es σ b.2
noncomputable def mr:Nat→Bool→Expr→a'→Expr→ar→W→Option (List I×W)
 |0,_,_,_,_,_,_=>none
 |n+1,own,tgt,cx,e,σ,w=>if isName tgt||jJ tgt then
   (yu e).elim (oK n own cx e σ w) fun q=>
    if dT q.1 "range" then (if cx.sc.names.lookup q.1==some .globalImplicit then bf (d5 n cx q.2 σ w) fun r=>bf ((i4 r.1)) fun l=>some (l,r.2) else none)
    else if dT q.1 "enumerate" then (if cx.sc.names.lookup q.1==some .globalImplicit&&jJ tgt then bf (d5 n cx q.2 σ w) fun r=>bf ((IK r.1)) fun l=>some (l,r.2) else none)
    else oK n own cx e σ w
  else none
noncomputable def oK:Nat→Bool→a'→Expr→ar→W→Option (List I×W)
 |0,_,_,_,_,_=>none
 |n+1,own,cx,e,σ,w=>if isSet e then none else bf (if own then c8 n cx e σ w else ev n cx e σ w) fun p=>bf ((Ed p.1)) fun l=>some (l,p.2)
noncomputable def gj:Nat→a'→Expr→ar→W→Option (List I×W)
 |0,_,_,_,_=>none
 |n+1,cx,e,σ,w=>match e with
  | .List es _=>bf (d5 n cx es σ w) fun r=>if r.1.length≤1048576 then some r else none
  | .ListComp elt oy bj _=>bf ((CO oy)) fun q=>if rb cx.sc bj then bf (mr n true q.1 cx q.2.1 σ w) fun r=>if r.1.length≤1048576 then ((gf n {cx with sc:=bj} elt q.1 q.2.2 r.1 (σ.hide (Scope.dC bj)) r.2)) else none else none
  | .Call f as dI p=>bf ((Fv f as dI p)) fun q=>bf (ev n cx q.1 σ w) fun x=>bf (d5 n cx [q.2] σ x.2) fun y=>bf ((Fw x.1 y.1)) fun l=>some (l,y.2)
  |_=>none
noncomputable def gf:Nat→a'→Expr→Expr→List Expr→List I→ar→W→Option (List I×W)
 |0,_,_,_,_,_,_,_=>none
 |n+1,cx,elt,tgt,ifs,items,σ,w=>match items with
  |[]=>some ([],w)
  |p::items=>bf ((gc cx.sc tgt p σ)) fun σ'=>bf (fY n cx .And ifs σ' w) fun b=>if b.1 then bf (ev n cx elt σ' b.2) fun r=>bf (gf n cx elt tgt ifs items σ r.2) fun l=>some (r.1::l.1,l.2) else gf n cx elt tgt ifs items σ b.2
noncomputable def cn:Nat→a'→iN→List I→W→Option (I×W)
 |0,_,_,_,_=>none
 |n+1,cx,d,vs,w=>if vs.length==(jN d).length then match cx.d with
   |0=>none
   |k+1=>bf (b1 n {cx with d:=k,sc:=d.scope} d.body ((jN d).zip (vs.map .val)) w) fun r=>bf ((IH r.1)) fun p=>some (p,r.2.2)
  else none
noncomputable def ex:Nat→a'→bY→ar→W→Option (ej×ar×W)
 |0,_,_,_,_=>none
 |n+1,cx,st,b2,w=>match st with
  | .Assign ts e _=>bf ((Cu ts)) fun a=>match a with
   | .name x=>if dq cx.sc x then bf (rj n cx e (b2.freeze (bG 30 true e)) w) fun s=>some (.next,(b2.freeze (bG 30 true e)).set x s.1,s.2) else none
   | .tuple t=>if Bj e then bf (ev n cx e (b2.freeze (bG 30 true e)) w) fun p=>bf ((gc cx.sc t p.1 (b2.freeze (bG 30 true e)))) fun σ=>some (.next,σ,p.2) else none
   | .sub x i=>if rJ e||isSlice i then none else bf (ev n cx e (b2.freeze (bG 30 true e)) w) fun p=>bf (ev n cx i (b2.freeze (bG 30 true e)) p.2) fun k=>bf (((b2.freeze (bG 30 true e)).own? cx.sc x)) fun l=>bf ((intOf k.1)) fun i=>bf ((gV i l.length)) fun j=>some (.next,(b2.freeze (bG 30 true e)).set x (.own (l.set j p.1)),k.2)
  | .AugAssign t op e _=>bf ((Cw t)) fun a=>a.2.elim
   (if dq cx.sc a.1 then bf ((valOf ((b2.freeze (bG 30 false e)).get a.1))) fun q=>bf (ev n cx e (b2.freeze (bG 30 false e)) w) fun p=>bf ((m' op q p.1)) fun r=>some (.next,(b2.freeze (bG 30 false e)).set a.1 (.val r),p.2) else none) fun i=>
   if isSlice i then none else bf (ev n cx i (b2.freeze (bG 30 false e)) w) fun k=>bf (ev n cx e (b2.freeze (bG 30 false e)) k.2) fun p=>bf (((b2.freeze (bG 30 false e)).own? cx.sc a.1)) fun l=>bf ((intOf k.1)) fun i=>bf ((gV i l.length)) fun j=>bf ((l[j]?)) fun q=>bf ((m' op q p.1)) fun r=>some (.next,(b2.freeze (bG 30 false e)).set a.1 (.own (l.set j r)),p.2)
  | .Expr e _=>bf ((yt e)) fun q=>
   if dT q.2.1 "append" then bf ((m6 q.2.2)) fun a=>(AF a).elim
     (bf (d5 n cx [a] (b2.freeze (bG 30 true e)) w) fun ps=>bf ((oneOf ps.1)) fun p=>bf (((b2.freeze (bG 30 true e)).own? cx.sc q.1)) fun l=>some (.next,(b2.freeze (bG 30 true e)).set q.1 (.own (l++[p])),ps.2)) fun mS=>
     bf (ev n cx mS.2 (b2.freeze (bG 30 true e)) w) fun k=>bf (((b2.freeze (bG 30 true e)).own? cx.sc q.1)) fun l=>bf (((b2.freeze (bG 30 true e)).own? cx.sc mS.1)) fun f=>bf ((intOf k.1)) fun i=>bf ((gV i f.length)) fun j=>bf ((f[j]?)) fun p=>if q.1==mS.1 then none else some (.next,((b2.freeze (bG 30 true e)).set mS.1 (.own (f.eraseIdx j))).set q.1 (.own (l++[p])),k.2)
   else if dT q.2.1 "insert" then bf ((Ct q.2.2)) fun di=>bf (d5 n cx [di.1,di.2] (b2.freeze (bG 30 true e)) w) fun ps=>bf ((pairOf ps.1)) fun v=>bf (((b2.freeze (bG 30 true e)).own? cx.sc q.1)) fun l=>bf ((intOf v.1)) fun k=>if 0≤k∧k≤l.length then (some (.next,(b2.freeze (bG 30 true e)).set q.1 (.own (l.take k.toNat++v.2::l.drop k.toNat)),ps.2)) else none
   else none
  | .If t a b _=>bf (fa n cx t (b2.freeze (bG 30 false t)) w) fun c=>if c.1 then b1 n cx a (b2.freeze (bG 30 false t)) c.2 else b1 n cx b (b2.freeze (bG 30 false t)) c.2
  | .For tgt it body vu _=>if vu.isEmpty then bf (mr n false tgt cx it (b2.freeze (bG 30 true it)) w) fun r=>(forL n cx tgt body r.1 (b2.freeze (bG 30 true it)) r.2) else none
  | .Return e _=>bf (e) fun e=>bf (ev n cx e (b2.freeze (bG 30 true e)) w) fun p=>some (.ret p.1,b2.freeze (bG 30 true e),p.2)
  | .Delete ts _=>bf ((CS ts)) fun q=>if isSlice q.2 then none else bf (ev n cx q.2 (b2.freeze []) w) fun k=>bf (((b2.freeze []).own? cx.sc q.1)) fun l=>bf ((intOf k.1)) fun i=>bf ((gV i l.length)) fun j=>some (.next,(b2.freeze []).set q.1 (.own (l.eraseIdx j)),k.2)
  | .Assert t m _=>if m.isNone then bf (fa n cx t (b2.freeze []) w) fun c=>if c.1 then some (.next,b2.freeze [],c.2) else none else none
  | .Break _=>some (.brk,b2.freeze [],w)
  | .Continue _=>some (.cont,b2.freeze [],w)
  | .Pass _=>some (.next,b2.freeze [],w)
  |_=>none
noncomputable def rj:Nat→a'→Expr→ar→W→Option (Slot×W)
 |0,_,_,_,_=>none
 |n+1,cx,e,σ,w=>if wm e then bf (gj n cx e σ w) fun r=>some (.own r.1,r.2) else bf (ev n cx e σ w) fun r=>some (.val r.1,r.2)
noncomputable def b1:Nat→a'→List bY→ar→W→Option (ej×ar×W)
 |0,_,_,_,_=>none
 |n+1,cx,l,σ,w=>match l with
  |[]=>some (.next,σ,w)
  |st::r=>bf (ex n cx st σ w) fun x=>if Jj x.1 then b1 n cx r x.2.1 x.2.2 else some x
noncomputable def forL:Nat→a'→Expr→List bY→List I→ar→W→Option (ej×ar×W)
 |0,_,_,_,_,_,_=>none
 |n+1,cx,tgt,body,items,σ,w=>match items with
  |[]=>some (.next,σ,w)
  |p::items=>bf ((gc cx.sc tgt p σ)) fun σ'=>bf (b1 n cx body σ' w) fun x=>if Bk x.1 then forL n cx tgt body items x.2.1 x.2.2 else some (zV x.1,x.2)
end
theorem jm {x:Str} {y:String} (h:dT x y=true):x=ab y:=eq_of_beq h
theorem dZ {a b:Bool} (h:(a&&b)=true):a=true:=(g7.mp h).1
theorem eS {a b:Bool} (h:(a&&b)=true):b=true:=(g7.mp h).2
theorem any_false {b:Bool} (h: ¬b=true):b=false:=hU.mpr h
theorem pO {α β:Type} {x:Option α} {o:Option β} {f:α→Option β} {r:Option β} {G:Prop} (h:x.elim o f=r) (bt:x=none→o=r→G) (bB: ∀a,x=some a→f a=r→G):G:=by
 cases x with
 |none=>exact bt rfl h
 |some a=>exact bB a rfl h
theorem pE {as:List Expr} {a:Expr} (h:m6 as=some a):as=[a]:=by
 cases as with
 |nil=>exact (nn h).elim
 |cons q r=>
  cases r with
  |nil=>exact congrArg (·::[]) (inj h)
  |cons=>exact (nn h).elim
theorem PF {as:List Expr} {a:Expr×Expr} (h:Ct as=some a):as=[a.1,a.2]:=by
 cases as with
 |nil=>exact (nn h).elim
 |cons q r=>
  cases r with
  |nil=>exact (nn h).elim
  |cons u r=>
   cases r with
   |nil=>exact congrArg (fun a:Expr×Expr=>[a.1,a.2]) (inj h)
   |cons=>exact (nn h).elim
theorem oW {e:Expr} {x:Str} (h:kV e=some x): ∃p,e= .Name x p:=by
 cases e with
 |Name y p=>exact ⟨p,congrArg (Expr.Name · p) (inj h)⟩
 |_=>exact (nn h).elim
theorem adp {e:Expr} {ts:List Expr} (h:Nq e=some ts): ∃a b,e= .Tuple ts a b:=by
 cases e with
 |Tuple u a b=>exact ⟨a,b,congrArg (Expr.Tuple · a b) (inj h)⟩
 |_=>exact (nn h).elim
theorem abO {e:Expr} {q:Option Expr×Option Expr×Option Expr} (h:A1 e=some q): ∃p,e= .Slice q.1 q.2.1 q.2.2 p:=by
 cases e with
 |Slice a b c p=>exact ⟨p,congrArg (fun q:Option Expr×Option Expr×Option Expr=>Expr.Slice q.1 q.2.1 q.2.2 p) (inj h)⟩
 |_=>exact (nn h).elim
theorem CG {e:Expr} {q:Str×List Expr} (h:yu e=some q): ∃p r,e= .Call (.Name q.1 p) q.2 [] r:=by
 cases e with
 |Call f as dI r=>exact aN h fun x ae h=>(oW ae).elim fun p ag=>⟨p,r,by rw[ag,k7.mp (ck h),←inj (cA h)]⟩
 |_=>exact (nn h).elim
theorem acn {as:List Expr} {q:Str×Expr} (h:Fy as=some q): ∃p r,as=[.Call (.Name q.1 p) [q.2] [] r]:=
 aN h fun e he h=>aN h fun x ae h=>iB h fun a aJ h=>gT (CG ae) fun p r aE=>⟨p,r,by rw[pE he,aE,pE aJ,←h]⟩
theorem Im {oy:List Comprehension} {q:Expr×Expr×List Expr} (h:CO oy=some q):oy=[⟨q.1,q.2.1,q.2.2,0⟩]:=match oy,h with
 |[⟨_,_,_,_⟩],h=>by rw[←inj (cA h),←(eq_of_beq (ck h):_=(0:Int))]
theorem ab3 {f:Expr} {as:List Expr} {dI:List sh} {p:Pos} {q:Expr×Expr} (h:Fv f as dI p=some q): ∃m ap,f= .Attribute q.1 m ap∧as=[q.2]∧dI=[]∧(baseOk q.1&&ap.endLine==p.line&&dT m "split")=true:=by
 cases f with
 |Attribute o m ap=>exact aN h fun a aJ h=>inj (cA h)▸⟨m,ap,rfl,pE aJ,k7.mp (dZ (ck h)),eS (ck h)⟩
 |_=>exact (nn h).elim
theorem HN {t:Expr} {a:Str×Option Expr} (h:Cw t=some a):(∃p,t= .Name a.1 p∧a.2=none)∨ ∃p r i,t= .Subscript (.Name a.1 p) i r∧a.2=some i:=by
 cases t with
 |Name x p=>exact inj h▸ .inl ⟨p,rfl,rfl⟩
 |Subscript v i r=>exact iB h fun x ae h=>(oW ae).elim fun p ag=>h▸ag▸ .inr ⟨p,r,i,rfl,rfl⟩
 |_=>exact (nn h).elim
theorem H6 {e:Expr} {q:Str×Str×List Expr} (h:yt e=some q): ∃p ap pos,e= .Call (.Attribute (.Name q.1 p) q.2.1 ap) q.2.2 [] pos∧(ap.endLine==pos.line)=true:=by
 cases e with
 |Call f as dI pos=>cases f with
  |Attribute o m ap=>exact aN h fun x ae h=>(oW ae).elim fun p ag=>⟨p,ap,pos,by rw[ag,k7.mp (dZ (ck h)),←inj (cA h)],eS (ck h)⟩
  |_=>exact (nn h).elim
 |_=>exact (nn h).elim
theorem aap {e:Expr} {q:Str×Expr} (h:AF e=some q): ∃p ap pos,e= .Call (.Attribute (.Name q.1 p) (ab "pop") ap) [q.2] [] pos∧(ap.endLine==pos.line)=true:=
 aN h fun x ae h=>iB (cA h) fun i aB U=>(H6 ae).elim fun p ag=>jc ag fun ap pos aF aE=>⟨p,ap,pos,by rw[aF,jm (ck h),pE aB,←U],aE⟩
theorem RK {ts:List Expr} {q:Str×Expr} (h:CS ts=some q): ∃p r,ts=[.Subscript (.Name q.1 p) q.2 r]:=
 aN h fun t aS h=>by
  rw[pE aS]
  cases t with
  |Subscript v i r=>exact iB h fun x ae h=>(oW ae).elim fun p ag=>h▸ag▸⟨p,r,rfl⟩
  |_=>exact (nn h).elim
noncomputable def O1 (t:Expr):x3→Prop
 | .name x=> ∃p,t= .Name x p
 | .tuple u=>t=u∧ ∃ts a b,u= .Tuple ts a b
 | .sub x i=> ∃p r,t= .Subscript (.Name x p) i r
theorem PL {ts:List Expr} {a:x3} (h:Cu ts=some a): ∃t,ts=[t]∧O1 t a:=
 aN h fun t aS h=>⟨t,pE aS,by
  cases t with
  |Name x p=>exact inj h▸⟨p,rfl⟩
  |Tuple ts a b=>exact inj h▸⟨rfl,ts,a,b,rfl⟩
  |Subscript v i r=>exact iB h fun x ae h=>(oW ae).elim fun p ag=>h▸ag▸⟨p,r,rfl⟩
  |_=>exact (nn h).elim⟩
section
variable (T:bE) (g:G)
noncomputable def cy (a:au):Prop:=g.B a∧ ¬ek T.dO g.aA a
noncomputable def cg (h:aR) (env:Env) (x:Str) (v:Option af):Prop:=
 (env.kindOf x=some .local∧ ∃m,h.Ns env.locals m∧m x=v)∨
 ((env.kindOf x=some .cell∨env.kindOf x=some .free)∧ ∃c,env.cells.lookup x=some c∧h.IsCell c v∧cy T g c)
noncomputable def fO (h:aR):Slot→Option af→Prop
 | .unset,v=>True
 | .val p,v=> ∃u,v=some u∧Is g.B g.aA h p u
 | .own l,v=> ∃a vs,v=some (.ref a)∧cy T g a∧c6 h a (mU vs)∧IsL g.B g.aA h l vs
inductive Lk (h:aR):I→af→Prop
 |of {p v}:Is g.B g.aA h p v→Lk h p v
 |own {l a vs}:cy T g a→c6 h a (mU vs)→IsL g.B g.aA h l vs→Lk h (.list l) (.ref a)
structure c2 (cx:a') (env:Env) (σ:ar) (h:aR):Prop where
 glob:env.globals=mainGlobals
 bi:env.builtins=builtinsNs
 kind:env.scope.kind= .function
 loc:cy T g env.locals
 mw: ∀x,cx.sc.names.lookup x=some .globalImplicit→env.kindOf x=some .globalImplicit
 ok: ∀x k,cx.sc.names.lookup x=some k→(x==("__debug__":Str))=false∧(x==("__classdict__":Str))=false
 nm: ∀x k,cx.sc.names.lookup x=some k→k≠ .globalImplicit→ ∃v,cg T g h env x v∧fO T g h (σ.get x) v
 dx:cx.dx=T.dx
 dict: ∃m,h.Ns env.locals m
 cW: ∀x k,cx.sc.names.lookup x=some k→(k= .cell∨k= .free)→env.kindOf x=some .cell∨env.kindOf x=some .free
 apart: ∀x y c,env.cells.lookup x=some c→env.cells.lookup y=some c→x=y
 sep: ∀x y l m a,σ.get x= .own l→σ.get y= .own m→(∃k,cx.sc.names.lookup x=some k∧k≠ .globalImplicit)→(∃k,cx.sc.names.lookup y=some k∧k≠ .globalImplicit)→cg T g h env x (some (.ref a))→cg T g h env y (some (.ref a))→x=y
end
section
variable {T:bE} {g g':G} {s s':aw} {gb:W} {cx:a'} {env:Env} {σ:ar}
theorem cy.a5 (x:bK T g s g' s') {a:au} {o:Obj} (p:cy T g a) (e:s.heap.get? a=some o):cy T g' a∧s'.heap.get? a=some o:=
 ⟨⟨x.hb a p.1,fun q=>(x.ef a q).elim p.2 fun z=>by rw[e] at z;cases z⟩,x.keep a o e p.2⟩
theorem cy.xo (x:bK T g s g' s') (d:aL T g gb s) {a:au} (p:cy T g a):cy T g' a:=by
 obtain ⟨o,e⟩:=d.ex a p.1
 exact (p.a5 x e).1
theorem cg.a5 (x:bK T g s g' s') (d:aL T g gb s) (EC:cy T g env.locals) {n:Str} {v:Option af} (h:cg T g s.heap env n v):cg T g' s'.heap env n v:=by
 rcases h with ⟨k,m,hm,e⟩|⟨k,c,ah,⟨o,e,aQ⟩,ag⟩
 ·refine .inl ⟨k,m,?_,e⟩
  obtain ⟨o,es,df,aV,r⟩:=hm
  exact ⟨o,es,df,(EC.a5 x aV).2,r⟩
 ·exact .inr ⟨k,c,ah,⟨o,(ag.a5 x e).2,aQ⟩,(ag.a5 x e).1⟩
theorem E2 {h:aR} {a:au} {m fm:Str→Option af} (x:h.Ns a m) (y:h.Ns a fm):m=fm:=by
 obtain ⟨o,es,df,e,d,_,f⟩:=x
 obtain ⟨cE,af0,afZ,bP,d1,_,kc⟩:=y
 rw[e] at bP;cases bP
 rw[d] at d1;cases d1
 funext n;rw[←f n,←kc n]
theorem cg.one {h:aR} {n:Str} {u v:Option af} (x:cg T g h env n u) (y:cg T g h env n v):u=v:=by
 rcases x with ⟨k,m,hm,e⟩|⟨k,c,ah,⟨o,e,aQ⟩,ag⟩
 ·rcases y with ⟨eL,fm,vX,bP⟩|⟨eL,_⟩
  ·rw[←e,←bP,E2 hm vX]
  ·rcases eL with eL|eL<;>rw[k] at eL<;>cases eL
 ·rcases y with ⟨eL,_⟩|⟨eL,d0,hj,⟨cE,bP,oG⟩,Ka⟩
  ·rcases k with k|k<;>rw[k] at eL<;>cases eL
  ·rw[ah] at hj;cases hj
   rw[e] at bP;cases bP
   rw[aQ] at oG;cases oG;rfl
theorem cg.back {h h':aR} {n:Str} {u v:Option af} (x:cg T g h env n u) (y:cg T g' h' env n u) (z:cg T g' h' env n v):cg T g h env n v:=y.one z▸x
theorem fO.a5 (x:bK T g s g' s') (d:aL T g gb s) {sl:Slot} {v:Option af} (h:fO T g s.heap sl v):fO T g' s'.heap sl v:=by
 cases sl with
 |unset=>trivial
 |val p=>obtain ⟨u,e,i⟩:=h;exact ⟨u,e,i.a5 x d⟩
 |own l=>
  obtain ⟨a,vs,e,p,⟨o,aV,r⟩,i⟩:=h
  exact ⟨a,vs,e,(p.a5 x aV).1,⟨o,(p.a5 x aV).2,r⟩,i.a5 x d⟩
theorem Lk.a5 (x:bK T g s g' s') (d:aL T g gb s) {p:I} {v:af} (h:Lk T g s.heap p v):Lk T g' s'.heap p v:=by
 cases h with
 |of i=>exact .of (i.a5 x d)
 |own p ai i=>
  obtain ⟨o,aV,r⟩:=ai
  exact .own (p.a5 x aV).1 ⟨o,(p.a5 x aV).2,r⟩ (i.a5 x d)
theorem cg.move {h h':aR} {n:Str} {v:Option af} (ns: ∀m,h.Ns env.locals m→h'.Ns env.locals m) (cell: ∀c,cy T g c→h.IsCell c v→cy T g' c∧h'.IsCell c v) (x:cg T g h env n v):cg T g' h' env n v:=
 x.elim (fun y=> .inl ⟨y.1,y.2.elim fun m z=>⟨m,ns m z.1,z.2⟩⟩) fun y=> .inr ⟨y.1,y.2.elim fun c z=>⟨c,z.1,(cell c z.2.2 z.2.1).2,(cell c z.2.2 z.2.1).1⟩⟩
theorem fO.move {h h':aR} {sl:Slot} {v:Option af} (bF:cH g.B h g'.B h') (tJ:g'.aA=g.aA) (own: ∀a vs,(∃l,sl= .own l)→v=some (.ref a)→cy T g a→c6 h a (mU vs)→cy T g' a∧c6 h' a (mU vs)) (x:fO T g h sl v):fO T g' h' sl v:=by
 cases sl with
 |unset=>trivial
 |val p=>exact b5 x fun u e i=>⟨u,e,tJ▸i.th bF⟩
 |own l=>exact hG x fun a vs e b ai i=>⟨a,vs,e,(own a vs ⟨l,rfl⟩ e b ai).1,(own a vs ⟨l,rfl⟩ e b ai).2,tJ▸i.th bF⟩
theorem c2.move {σ':ar} {h h':aR} (f:c2 T g cx env σ h) (loc:cy T g' env.locals) (ns: ∀m,h.Ns env.locals m→h'.Ns env.locals m) (jF: ∀{x v},cg T g h env x v→cg T g' h' env x v)
  (nK: ∀y m,σ'.get y= .own m→ ∃fm,σ.get y= .own fm) (sl: ∀x v,(∃k,cx.sc.names.lookup x=some k∧k≠ .globalImplicit)→cg T g h env x v→fO T g h (σ.get x) v→fO T g' h' (σ'.get x) v):c2 T g' cx env σ' h' where
 glob:=f.glob
 bi:=f.bi
 kind:=f.kind
 loc:=loc
 mw:=f.mw
 ok:=f.ok
 nm n k e q:=b5 (f.nm n k e q) fun v a b=>⟨v,jF a,sl n v ⟨k,e,q⟩ a b⟩
 dx:=f.dx
 dict:=f.dict.elim fun m x=>⟨m,ns m x⟩
 cW:=f.cW
 apart:=f.apart
 sep n m l dM a aF aE fX hO uD o8:=(nK n l aF).elim fun bT aF=>(nK m dM aE).elim fun cG aE=>b5 fX fun bt rz nz=>b5 hO fun bB kh p0=>b5 (f.nm n bt rz nz) fun v1 a1 _=>b5 (f.nm m bB kh p0) fun v2 a2 _=>
  f.sep n m bT cG a aF aE fX hO (a1.back (jF a1) uD) (a2.back (jF a2) o8)
theorem c2.a5 (x:bK T g s g' s') (d:aL T g gb s) (f:c2 T g cx env σ s.heap):c2 T g' cx env σ s'.heap:=
 f.move (f.loc.xo x d) (fun m ⟨o,es,df,e,r⟩=>⟨o,es,df,(f.loc.a5 x e).2,r⟩) (fun a=>a.a5 x d f.loc) (fun y m e=>⟨m,e⟩) fun _ _ _ _ b=>b.a5 x d
theorem Lk.reads {h:aR} {p:I} {v:af} {D:i7} (l:Lk T g h p v) (e:toD p=some D): ∃as,kx h v D as:=by
 cases l with
 |of i=>exact i.reads e
 |own _ ai r=>
  obtain ⟨ds,aF,rfl⟩:=o9.mp e
  obtain ⟨o,aV,ah,n,hd⟩:=ai.eV
  obtain ⟨as,gB⟩:=IsL.reads r aF
  exact ⟨_,.list aV ah hd gB⟩
theorem nameP {A:bO} {E:af→aw→Prop} {Q:af→aw→Prop} {x:Str} {k:fB} {pos:Pos} {v:af} (f:c2 T g cx env σ s.heap) (aj:cx.sc.names.lookup x=some k) (aT:cg T g s.heap env x (some v)) (h:Q v s):
  bc (bo T.prog T.w) A (eval (.Name x pos) env) Q E s:=by
 obtain ⟨J,U⟩:=f.ok x k aj
 refine F8 ?_ J
 rcases aT with ⟨k,m,hm,e⟩|⟨k,c,ah,aQ,ag⟩
 ·exact Bu f.kind k hm e h
 ·rcases k with k|k
  ·exact aep f.kind k ah aQ h
  ·exact aeq f.kind k ah aQ h U
theorem y5 {A:bO} {E:af→aw→Prop} {Q:af→aw→Prop} {x:Str} {pos:Pos} {v:af} (d:aL T g gb s) (f:c2 T g cx env σ s.heap) (aj:cx.sc.names.lookup x=some .globalImplicit) (hm:T.c7 x=some v) (h:Q v s):
  bc (bo T.prog T.w) A (eval (.Name x pos) env) Q E s:=by
 have bM:s.heap.Ns env.globals T.c7:=by rw[f.glob];exact T.g.keeps fun b o e=>(d.base b o e).1
 exact aer f.kind (f.mw x aj) (loadGlobal_global (env:=env) bM hm h) (f.ok x _ aj).1
theorem CD {A:bO} {E:af→aw→Prop} {Q:af→aw→Prop} {x:Str} {pos:Pos} {v:af} (d:aL T g gb s) (f:c2 T g cx env σ s.heap) (aj:cx.sc.names.lookup x=some .globalImplicit) (hm:T.c7 x=none) (ae:x≠"__name__") (aQ:bootBuiltins x=some v) (h:Q v s):
  bc (bo T.prog T.w) A (eval (.Name x pos) env) Q E s:=by
 have bM:s.heap.Ns env.globals T.c7:=by rw[f.glob];exact T.g.keeps fun b o e=>(d.base b o e).1
 have aa:s.heap.Ns env.builtins T.dt:=by rw[f.bi];exact T.b.keeps fun b o e=>(d.base b o e).1
 exact aer f.kind (f.mw x aj) (loadGlobal_builtin (env:=env) bM hm aa ((T.builtins x ae).trans aQ) h) (f.ok x _ aj).1
noncomputable def pA (T:bE) (W:W) (r:I):G→aw→af→Prop:=fun g s v=>aL T g W s∧Lk T g s.heap r v
theorem Res.FJ {r:I} {v:af} (h:Res T gb r g s v):pA T gb r g s v:=⟨h.1,.of h.2⟩
end
structure cD (T:bE) (cx:a') (env:Env) (σ:ar) (A:bO) (g:G) (w:W) (s:aw):Prop where
 fr:c2 T g cx env σ s.heap
 wd:aL T g w s
 bZ:Room (20*cx.d+20) A
section
variable {T:bE} {cx:a'} {env:Env} {σ:ar} {A:bO} {g g':G} {w w':W} {s s':aw}
theorem cD.a5 (i:cD T cx env σ A g w s) (x:bK T g s g' s') (d:aL T g' w' s'):cD T cx env σ A g' w' s':=⟨i.fr.a5 x i.wd,d,i.bZ⟩
end
inductive hX (T:bE) (g:G) (h:aR):List I→List af→Prop
 |nil:hX T g h [] []
 |cons {p v l vs}:Lk T g h p v→hX T g h l vs→hX T g h (p::l) (v::vs)
noncomputable def ik (T:bE) (w:W) (b:Bool):G→aw→Bool→Prop:=fun g s c=>aL T g w s∧c=b
noncomputable def x8 (T:bE) (w:W) (l:List I):G→aw→List af→Prop:=fun g s vs=>aL T g w s∧IsL g.B g.aA s.heap l vs
noncomputable def u2 (T:bE) (w:W) (l:List I):G→aw→List af→Prop:=fun g s vs=>aL T g w s∧hX T g s.heap l vs
noncomputable def j2 (T:bE) (s:aw) (w:W) (l:List I):G→aw→af→Prop:=fun g' s' v=>
 ∃a vs,v= .ref a∧s.heap.get? a=none∧aL T g' w s'∧cy T g' a∧c6 s'.heap a (mU vs)∧IsL g'.B g'.aA s'.heap l vs
structure cU (T:bE) (n:Nat):Prop where
 ev: ∀{cx e σ w p w'},ev n cx e σ w=some (p,w')→ ∀{env A g s},cD T cx env σ A g w s→aK T A (eval e env) g s (Res T w' p)
 c8: ∀{cx e σ w p w'},c8 n cx e σ w=some (p,w')→ ∀{env A g s},cD T cx env σ A g w s→aK T A (eval e env) g s (pA T w' p)
 hN: ∀{cx es σ w l w'},hN n cx es σ w=some (l,w')→ ∀{env A g s} pos,cD T cx env σ A g w s→aK T A (spliced (backTo pos (starEach es env))) g s (u2 T w' l)
 d5: ∀{cx es σ w l w'},d5 n cx es σ w=some (l,w')→ ∀{env A g s} pos,cD T cx env σ A g w s→aK T A (spliced (backTo pos (starEach es env))) g s (x8 T w' l)
 h2: ∀{cx e σ w p w'},h2 n cx e σ w=some (p,w')→ ∀{env A g s},cD T cx env σ A g w s→aK T A (evalPart e env) g s (Res T w' p)
 j8: ∀{cx op es σ w p w'},j8 n cx op es σ w=some (p,w')→ ∀{env A g s} pos,cD T cx env σ A g w s→aK T A (boolOp pos op (evalEach es env)) g s (Res T w' p)
 iR: ∀{cx x ops es σ w b w'},iR n cx x ops es σ w=some (b,w')→es.any isSet=false→ ∀{env A g s v} pos,cD T cx env σ A g w s→Lk T g s.heap x v→
  aK T A (compareChain pos v ops (markedEach ops es (evalEach es env))) g s (Res T w' (.bool b))∧aK T A (testChain pos v ops (markedEach ops es (evalEach es env))) g s (ik T w' b)
 fa: ∀{cx e σ w b w'},fa n cx e σ w=some (b,w')→ ∀{env A g s},cD T cx env σ A g w s→aK T A (isTrue e env (eval e env)) g s (ik T w' b)
 fY: ∀{cx op es σ w b w'},fY n cx op es σ w=some (b,w')→ ∀{env A g s},cD T cx env σ A g w s→aK T A (allTrue op es env) g s (ik T w' b)
 gj: ∀{cx e σ w l w'},gj n cx e σ w=some (l,w')→ ∀{env A g s},cD T cx env σ A g w s→aK T A (eval e env) g s (j2 T s w' l)
 cn: ∀{cx d vs w p w'},cn n cx d vs w=some (p,w')→d∈T.dx.fns→cx.dx=T.dx→ ∀{A g s us a},aL T g w s→Room (20*cx.d+10) A→IsL g.B g.aA s.heap vs us→T.c7 d.name=some (.ref a)→
  aK T A (call (.ref a) us []) g s (Res T w' p)
section
variable {T:bE} {cx:a'} {env:Env} {σ:ar} {A:bO} {g g':G} {w w':W} {s s':aw} {n:Nat}
theorem aK.n7 {α:Type} {t u:Sem α} {P:G→aw→α→Prop} (h:aK T A u g s P) (e:t=u):aK T A t g s P:=e▸h
theorem iU {t:Sem af} {p gA:I} (e:some (p,w)=some (gA,w')) (h:aK T A t g s (Res T w p)):aK T A t g s (Res T w' gA):=by cases e;exact h
theorem Uw {t:Sem af} {p gA:I} (e:some (p,w)=some (gA,w')) (h:aK T A t g s (pA T w p)):aK T A t g s (pA T w' gA):=by cases e;exact h
theorem Jm {t:Sem (List af)} {p gA:List I} (e:some (p,w)=some (gA,w')) (h:aK T A t g s (x8 T w p)):aK T A t g s (x8 T w' gA):=by cases e;exact h
theorem Jn {t:Sem (List af)} {p gA:List I} (e:some (p,w)=some (gA,w')) (h:aK T A t g s (u2 T w p)):aK T A t g s (u2 T w' gA):=by cases e;exact h
theorem rn {t:Sem Bool} {p gA:Bool} (e:some (p,w)=some (gA,w')) (h:aK T A t g s (ik T w p)):aK T A t g s (ik T w' gA):=by cases e;exact h
theorem Jq {t:Sem af} {p gA:Bool} (e:some (p,w)=some (gA,w')) (h:aK T A t g s (Res T w (.bool p))):aK T A t g s (Res T w' (.bool gA)):=by cases e;exact h
theorem Jp {s0:aw} {t:Sem af} {p gA:List I} (e:some (p,w)=some (gA,w')) (h:aK T A t g s (j2 T s0 w p)):aK T A t g s (j2 T s0 w' gA):=by cases e;exact h
theorem aK.bindR {β:Type} {t:Sem af} {p:I} {f:af→Sem β} {f9:G→aw→β→Prop} (h:aK T A t g s (Res T w p)) (c: ∀g' s' v,bK T g s g' s'→aL T g' w s'→Is g'.B g'.aA s'.heap p v→aK T A (f v) g' s' f9):aK T A (t>>=f) g s f9:=
 h.bind fun g' s' v t r=>c g' s' v t r.1 r.2
theorem aK.bindL {β:Type} {t:Sem af} {p:I} {f:af→Sem β} {f9:G→aw→β→Prop} (h:aK T A t g s (pA T w p)) (c: ∀g' s' v,bK T g s g' s'→aL T g' w s'→Lk T g' s'.heap p v→aK T A (f v) g' s' f9):aK T A (t>>=f) g s f9:=
 h.bind fun g' s' v t r=>c g' s' v t r.1 r.2
theorem aK.bindB {β:Type} {t:Sem Bool} {b:Bool} {f:Bool→Sem β} {f9:G→aw→β→Prop} (h:aK T A t g s (ik T w b)) (c: ∀g' s',bK T g s g' s'→aL T g' w s'→aK T A (f b) g' s' f9):aK T A (t>>=f) g s f9:=
 h.bind fun g' s' v t r=>r.2▸c g' s' t r.1
theorem aK.Nm {β:Type} {vs:List af} {b:Bool} {f:Bool→Sem β} {P:G→aw→β→Prop} (h:aK T A (f b) g s P):aK T A (aes vs (truthy (.bool b))>>=f) g s P:=
 fun E Q k=>aM (g8 (F9 (h E Q k)))
theorem aK.adl {vs:List af} {b:Bool} (d:aL T g w s):aK T A (aes vs (truthy (.bool b))) g s (ik T w b):=
 fun E Q k=>g8 (F9 (k _ _ _ .refl ⟨d,rfl⟩))
theorem aK.aaU {β:Type} {vs keep:List af} {f:Unit→Sem β} {P:G→aw→β→Prop} (h:aK T A (f ()) g s P):aK T A (PySem.release vs keep>>=f) g s P:=
 fun E Q k=>aM (wpAny_release (h E Q k))
theorem aK.operate {vs:List af} {m:Sem af} {P:G→aw→af→Prop} (h:aK T A m g s P):aK T A (operate vs m) g s P:=fun E Q k=>wpAny_operating (h E Q k)
theorem Rp {c:Const} {k:Nat} {pos:Pos} {p:I} (h:CP c=some p) (d:aL T g w s):aK T A (eval (.Constant c k pos) env) g s (Res T w p):=by
 cases c with
 |none=>exact .val d fun E Q k=>wpAny_Constant_none (k _ s.toks (.fx .none h))
 |bool=>exact .val d fun E Q k=>wpAny_Constant_bool (k _ s.toks (.fx (.bool _) h))
 |int=>exact .val d fun E Q k=>F' (k _ _ (.fx (.int _ _) h))
 |float=>exact .val d fun E Q k=>AutoFloatOps.wpAny_Constant_float (k _ _ (.fx (.ao _ _) h))
 |str=>exact .val d fun E Q k=>N2 (k _ _ (.fx (.str _ _) h))
 |_=>exact (nn h).elim
theorem S1 {c:Const} {k:Nat} {pos:Pos} {p:I} {w':W} (e:ev (n+1) cx (.Constant c k pos) σ w=some (p,w')) (i:cD T cx env σ A g w s):aK T A (eval (.Constant c k pos) env) g s (Res T w' p):=
 aN e fun q h e=>iU e (Rp h i.wd)
theorem Ll {x:Str} {pos:Pos} {k:fB} {q:I} (aT:cx.sc.names.lookup x=some k) (aj:k≠ .globalImplicit) (i:cD T cx env σ A g w s) (aG:σ.get x= .val q):aK T A (eval (.Name x pos) env) g s (Res T w q):=
 b5 (i.fr.nm x _ aT aj) fun v ht iH=>b5 (aG▸iH:fO T g s.heap (.val q) v) fun u e eW=> .val i.wd fun E Q k=>nameP i.fr aT (e▸ht) (k _ s.toks eW)
theorem Za {x:Str} {pos:Pos} {k:fB} {l:List I} (aT:cx.sc.names.lookup x=some k) (aj:k≠ .globalImplicit) (i:cD T cx env σ A g w s) (aG:σ.get x= .own l):aK T A (eval (.Name x pos) env) g s (pA T w (.list l)):=
 b5 (i.fr.nm x _ aT aj) fun v ht iH=>hG (aG▸iH:fO T g s.heap (.own l) v) fun a vs e Z6 aI aW E Q k=>nameP i.fr aT (e▸ht) (k _ _ _ .refl ⟨i.wd,.own Z6 aI aW⟩)
theorem Ji {x:Str} {pos:Pos} {q:I} (aT:cx.sc.names.lookup x=some .globalImplicit) (i:cD T cx env σ A g w s) (aG:cx.dx.consts.lookup x=some q):aK T A (eval (.Name x pos) env) g s (Res T w q):=
 en (T.consts x q (i.fr.dx▸aG)) fun v h=> .val i.wd fun E Q k=>y5 i.wd i.fr aT h.1 (k _ s.toks (h.2 _ _ _))
theorem S3 {x:Str} {pos:Pos} {p:I} {w':W} (e:ev (n+1) cx (.Name x pos) σ w=some (p,w')) (i:cD T cx env σ A g w s):aK T A (eval (.Name x pos) env) g s (Res T w' p):=
 aN e fun q h e=>iU e (aN h fun k aj h=>hp h (fun ah h=>Ji (eq_of_beq ah▸aj) i h) fun ah h=>by
  generalize aG:σ.get x=sl at h
  cases sl with
  |val r=>exact inj h▸Ll aj (fun z=>ah (beq_iff_eq.mpr z)) i aG
  |_=>exact (nn h).elim)
theorem aam (S:cU T n) {e:Expr} {p:I} {w':W} (h:c8 (n+1) cx e σ w=some (p,w')) (i:cD T cx env σ A g w s):aK T A (eval e env) g s (pA T w' p):=
 pO h (fun _ h=>(S.ev h i).mono fun g' s' a x y=>y.FJ) fun x ae e=>(oW ae).elim fun pos ag=>ag▸aN e fun q h e=>Uw e (aN h fun k aj h=>hp h (fun ah h=>(Ji (eq_of_beq ah▸aj) i h).mono fun g' s' a x y=>y.FJ) fun ah h=>by
  have ah:k≠ .globalImplicit:=fun z=>ah (beq_iff_eq.mpr z)
  generalize aG:σ.get x=sl at h
  cases sl with
  |val r=>exact inj h▸(Ll aj ah i aG).mono fun g' s' a x y=>y.FJ
  |own l=>exact inj h▸Za aj ah i aG
  |_=>exact (nn h).elim)
theorem SV (S:cU T n) {a b:Expr} {op:iO} {pos:Pos} {p:I} {w':W} (h:ev (n+1) cx (.BinOp a op b pos) σ w=some (p,w')) (i:cD T cx env σ A g w s):aK T A (eval (.BinOp a op b pos) env) g s (Res T w' p):=
 aN h fun x J h=>aN h fun y U h=>aN h fun r av h=> .n7 ((S.ev J i).bindR fun g1 s1 v1 t1 bb ea=>(aK.holding (S.ev U (i.a5 t1 bb))).bindR fun g2 s2 v2 t2 b4 fv=>
  .nO (.operate (iU h (P7 av b4 (ea.a5 t2 bb) fv)))) (arm_eval_BinOp ..)
theorem S9 (S:cU T n) {a:Expr} {op:UnaryOp} {pos:Pos} {p:I} {w':W} (h:ev (n+1) cx (.UnaryOp op a pos) σ w=some (p,w')) (i:cD T cx env σ A g w s):aK T A (eval (.UnaryOp op a pos) env) g s (Res T w' p):=
 aN h fun x J h=>aN h fun r av h=> .n7 ((S.ev J i).bindR fun g1 s1 v1 t1 bb ea=> .nO (.holding (iU h (adx av bb ea)))) (arm_eval_UnaryOp ..)
theorem S2 (S:cU T n) {t a b:Expr} {pos:Pos} {p:I} {w':W} (h:ev (n+1) cx (.IfExp t a b pos) σ w=some (p,w')) (i:cD T cx env σ A g w s):aK T A (eval (.IfExp t a b pos) env) g s (Res T w' p):=by
 refine aN h fun x J h=> .n7 ((S.fa J i).bindB fun g1 s1 t1 bb=> ?_) (arm_eval_IfExp ..)
 clear J
 obtain ⟨c,w1⟩:=x
 cases c with
 |true=>exact S.ev h (i.a5 t1 bb)
 |false=>exact S.ev h (i.a5 t1 bb)
theorem SW (S:cU T n) {op:BoolOp} {es:List Expr} {pos:Pos} {p:I} {w':W} (h:ev (n+1) cx (.BoolOp op es pos) σ w=some (p,w')) (i:cD T cx env σ A g w s):aK T A (eval (.BoolOp op es pos) env) g s (Res T w' p):=
 .n7 (S.j8 h pos i) (arm_eval_BoolOp ..)
theorem Qp (S:cU T n) {op:BoolOp} {es:List Expr} {p:I} {w':W} (h:j8 (n+1) cx op es σ w=some (p,w')) (pos:Pos) (i:cD T cx env σ A g w s):aK T A (boolOp pos op (evalEach es env)) g s (Res T w' p):=by
 cases es with
 |nil=>exact (nn h).elim
 |cons e es=>
  cases es with
  |nil=>exact S.ev h i
  |cons aE es=>
   refine aN h fun x J h=>aN h fun b aa h=>(S.ev J i).bindR fun g1 s1 v1 t1 bb ea=> .nO ?_
   obtain rfl:=(HF aa▸ea:Is g1.B g1.aA s1.heap (.bool b) v1).Bp
   clear J aa ea
   refine .Nm ?_
   cases op with
   |And=>cases b with
    |true=>exact S.j8 h pos (i.a5 t1 bb)
    |false=>exact iU h (.pure ⟨bb,.bool _⟩)
   |Or=>cases b with
    |true=>exact iU h (.pure ⟨bb,.bool _⟩)
    |false=>exact S.j8 h pos (i.a5 t1 bb)
end
theorem PZ {op:js} {e:Expr} (h:isSet e=false):behindInMarks op e=false:=by
 cases e<;>first|rfl|cases h
theorem EH (ops:List js): ∀(es:List Expr) (ts:List (Sem af)),es.any isSet=false→markedEach ops es ts=ts:=by
 induction ops with
 |nil=>exact fun _ _ _=>rfl
 |cons op ops ay=>
  intro es ts h
  cases es with
  |nil=>cases ops<;>rfl
  |cons e es=>
   have h:=Bv.mp h
   cases ts with
   |nil=>cases ops<;>cases es<;>rfl
   |cons t ts=>
    have ay:=congrArg (t::·) (ay es ts h.2)
    cases ops with
    |nil=>cases es with
     |nil=>cases ts with
      |nil=>exact congrArg (·::[]) (markedBehindIn_of_false (PZ h.1))
      |cons=>exact ay
     |cons=>exact ay
    |cons=>exact ay
section
variable {T:bE} {cx:a'} {env:Env} {σ:ar} {A:bO} {g g':G} {w w':W} {s s':aw} {n:Nat}
theorem CN {op:js} {a b:I} {r:Bool} {eD fA:af} (e:fe op a b=some r) (i:cD T cx env σ A g w s) (aI:Lk T g s.heap a eD) (KL:Lk T g s.heap b fA):
  aK T A (compareOp op eD fA) g s (Res T w (.bool r)):=by
 refine Rb (n:=0) e i.wd (i.bZ.less (by exact ib _ _)) (fun D=>aI.reads) (fun D=>KL.reads) (fun q=> ?_) (fun q=> ?_)
 ·cases aI with
  |of i=>exact i
  |own=>exact absurd rfl (q _)
 ·cases KL with
  |of i=>exact i
  |own=>exact absurd rfl (q _)
theorem yv {β:Type} {op:js} {x y:I} {r:Bool} {v:af} {t:Sem af} {pos:Pos} {X Y:af→Sem β} {P:G→aw→β→Prop} {w1:W} (h:fe op x y=some r) (i:cD T cx env σ A g w s) (lv:Lk T g s.heap x v) (aS:aK T A t g s (pA T w1 y))
  (c: ∀g2 s2 v1,bK T g s g2 s2→aL T g2 w1 s2→Lk T g2 s2.heap y v1→aK T A (if r then X v1 else Y (.bool r)) g2 s2 P):
  aK T A (do let oY←holding [v] t;standAt pos;let c←holding [v,oY] (compareOp op v oY);release [v,oY] [c];if←holding [c,oY] (truthy c) then X oY else Y c) g s P:=
 (aK.holding aS).bindL fun g1 s1 v1 t1 bb cR=> .nO ((aK.holding (CN h (i.a5 t1 bb) (lv.a5 t1 i.wd) cR)).bindR fun g2 s2 v2 t2 b4 fv=>fv.Bp▸ .aaU (.Nm (c g2 s2 v1 (t1.trans t2) b4 (cR.a5 t2 bb))))
theorem Q7 (S:cU T n) {x:I} {ops:List js} {es:List Expr} {b:Bool} {w':W} (h:iR (n+1) cx x ops es σ w=some (b,w')) (aC:es.any isSet=false) {v:af} (pos:Pos) (i:cD T cx env σ A g w s) (lv:Lk T g s.heap x v):
  aK T A (compareChain pos v ops (markedEach ops es (evalEach es env))) g s (Res T w' (.bool b))∧aK T A (testChain pos v ops (markedEach ops es (evalEach es env))) g s (ik T w' b):=by
 rw[EH _ _ _ aC]
 cases es with
 |nil=>exact (nn h).elim
 |cons e es=>
  cases ops with
  |nil=>exact (nn h).elim
  |cons op ops=>
   cases ops with
   |nil=>
    cases es with
    |nil=>
     refine aN h fun y J h=>aN h fun r U h=> ?_
     have core: ∀{g1 s1 v1},bK T g s g1 s1→aL T g1 y.2 s1→Lk T g1 s1.heap y.1 v1→aK T A (operate [v,v1] (compareOp op v v1)) g1 s1 (Res T w' (.bool b)):=fun t1 bb cR=> .operate (Jq h (CN U (i.a5 t1 bb) (lv.a5 t1 i.wd) cR))
     exact ⟨(aK.holding (S.c8 J i)).bindL fun g1 s1 v1 t1 bb cR=> .nO (core t1 bb cR),
      (aK.holding (S.c8 J i)).bindL fun g1 s1 v1 t1 bb cR=> .nO ((core t1 bb cR).bindR fun g2 s2 v2 t2 b4 fv=>fv.Bp▸ .adl b4)⟩
    |cons aE es=>exact (nn h).elim
   |cons Z0 ops=>
    have h5:=(Bv.mp aC).2
    refine aN h fun y J h=>aN h fun r U h=> ?_
    have K7:=EH (Z0::ops) es (evalEach es env) h5
    cases r with
    |true=>exact ⟨yv U i lv (S.c8 J i) fun g2 s2 v1 t2 b4 ec=>K7▸(S.iR h h5 pos (i.a5 t2 b4) ec).1,yv U i lv (S.c8 J i) fun g2 s2 v1 t2 b4 ec=>K7▸(S.iR h h5 pos (i.a5 t2 b4) ec).2⟩
    |false=>exact ⟨yv U i lv (S.c8 J i) fun g2 s2 v1 t2 b4 ec=>Jq h (.pure ⟨b4,.bool _⟩),yv U i lv (S.c8 J i) fun g2 s2 v1 t2 b4 ec=>rn h (.pure ⟨b4,rfl⟩)⟩
theorem S0 (S:cU T n) {l:Expr} {ops:List js} {rs:List Expr} {pos:Pos} {p:I} {w':W} (h:ev (n+1) cx (.Compare l ops rs pos) σ w=some (p,w')) (i:cD T cx env σ A g w s):aK T A (eval (.Compare l ops rs pos) env) g s (Res T w' p):=
 aN (oJ h) fun x J U=>aN U fun b U av=> .n7 ((S.c8 J i).bindL fun g1 s1 v1 t1 bb cR=>iU av (S.iR U (any_false (qa h)) pos (i.a5 t1 bb) cR).1) (arm_eval_Compare ..)
theorem adm {p:I} {b:Bool} {v:af} (h:mP p=some b) (d:aL T g w s) (is:Is g.B g.aA s.heap p v):aK T A (truthy v) g s (ik T w b):=by
 cases is with
 |bool c=>exact fun E Q k=>F9 (k _ _ _ .refl ⟨d,inj h⟩)
 |str x=>
  have ai:=ck h
  exact fun E Q k=>P.truthy_str (by lia) (k g {s with toks:=s.toks+1+1} _ (.grow (dr:=s.drawn) (fun _ _ e=>e) (by exact i9 (g4 _ _))) ⟨d.grow (fun _ _ e=>e) (by show s.toks≤s.toks+1+1;exact i9 (g4 _ _)),inj (cA h)⟩)
 |_=>exact (nn h).elim
theorem ado (S:cU T n) {e:Expr} {b:Bool} {w':W} (h:fa (n+1) cx e σ w=some (b,w')) (i:cD T cx env σ A g w s):aK T A (isTrue e env (eval e env)) g s (ik T w' b):=by
 have gen: ∀{e},((ev n cx e σ w).bind fun x=>(mP x.1).bind fun c=>some (c,x.2))=some (b,w')→aK T A (do let v←eval e env;standAt e.pos;holding [v] (truthy v)) g s (ik T w' b):=
  fun h=>aN h fun x J h=>aN h fun c U h=>(S.ev J i).bindR fun g1 s1 v1 t1 bb ea=> .nO (.holding (rn h (adm U bb ea)))
 cases e with
 |BoolOp=>exact S.fY h i
 |Compare=>exact aN (oJ h) fun x J U=>(S.c8 J i).bindL fun g1 s1 v1 t1 bb cR=>(S.iR U (any_false (qa h)) _ (i.a5 t1 bb) cR).2
 |Name=>exact gen h
 |Call=>exact gen h
 |_=>exact (nn h).elim
theorem adn (S:cU T n) {op:BoolOp} {es:List Expr} {b:Bool} {w':W} (h:fY (n+1) cx op es σ w=some (b,w')) (i:cD T cx env σ A g w s):aK T A (allTrue op es env) g s (ik T w' b):=by
 cases es with
 |nil=>exact rn h (.pure ⟨i.wd,rfl⟩)
 |cons e es=>
  refine aN h fun x J h=> .n7 ((S.fa J i).bindB fun g1 s1 t1 bb=> ?_) (arm_allTrue_cons ..)
  clear J
  obtain ⟨c,w1⟩:=x
  cases op with
  |And=>cases c with
   |true=>exact S.fY h (i.a5 t1 bb)
   |false=>exact rn h (.pure ⟨bb,rfl⟩)
  |Or=>cases c with
   |true=>exact rn h (.pure ⟨bb,rfl⟩)
   |false=>exact S.fY h (i.a5 t1 bb)
theorem ui {e:Expr} {es:List Expr} {env:Env} (h: ∀x p,e≠ .Starred x p):starEach (e::es) env=(false,eval e env)::starEach es env:=by
 cases e with
 |Starred=>exact absurd rfl (h _ _)
 |_=>rfl
theorem MS {P:G→aw→List af→Prop} {x:Sem af} {r:List (Bool×Sem af)} {Ce:G→aw→af→Prop} (h:aK T A x g s Ce)
  (c: ∀g1 s1 v,bK T g s g1 s1→Ce g1 s1 v→aK T A (spliced r) g1 s1 (fun g2 s2 vs=>P g2 s2 (v::vs))):aK T A (spliced ((false,x)::r)) g s P:=
 fun E Q k=>N3 (h E _ fun g1 s1 v t1 a4=>c g1 s1 v t1 a4 E _ fun g2 s2 vs t2 bH=>k g2 s2 _ (t1.trans t2) bH)
theorem yJ {e:Expr} {p:I×W} (h:ev n cx e σ w=some p): ∀x q,e≠ .Starred x q:=fun x q e=>by
 subst e
 cases n<;>exact nn h
theorem LW {e:Expr} {p:I×W} (h:c8 n cx e σ w=some p): ∀x q,e≠ .Starred x q:=fun x q e=>by
 subst e
 cases n with
 |zero=>exact nn h
 |succ n=>cases n<;>exact nn h
theorem SR (S:cU T n) {es:List Expr} {l:List I} {w':W} (h:d5 (n+1) cx es σ w=some (l,w')) (pos:Pos) (i:cD T cx env σ A g w s):aK T A (spliced (backTo pos (starEach es env))) g s (x8 T w' l):=by
 cases es with
 |nil=>exact Jm h fun E Q k=>Ga (k _ _ _ .refl ⟨i.wd,.nil⟩)
 |cons e es=>
  refine aN h fun x J h=>aN h fun y U h=>Jm h ?_
  rw[ui (yJ J)]
  exact MS (S.ev J i) fun g1 s1 v t1 a4=>(S.d5 U pos (i.a5 t1 a4.1)).mono fun g2 s2 vs t2 bH=>⟨bH.1,.cons (a4.2.a5 t2 a4.1) bH.2⟩
theorem aak (S:cU T n) {es:List Expr} {l:List I} {w':W} (h:hN (n+1) cx es σ w=some (l,w')) (pos:Pos) (i:cD T cx env σ A g w s):aK T A (spliced (backTo pos (starEach es env))) g s (u2 T w' l):=by
 cases es with
 |nil=>exact Jn h fun E Q k=>Ga (k _ _ _ .refl ⟨i.wd,.nil⟩)
 |cons e es=>
  refine aN h fun x J h=>aN h fun y U h=>Jn h ?_
  rw[ui (LW J)]
  exact MS (S.c8 J i) fun g1 s1 v t1 a4=>(S.hN U pos (i.a5 t1 a4.1)).mono fun g2 s2 vs t2 bH=>⟨bH.1,.cons (a4.2.a5 t2 a4.1) bH.2⟩
theorem SS (S:cU T n) {e:Option Expr} {p:I} {w':W} (h:h2 (n+1) cx e σ w=some (p,w')) (i:cD T cx env σ A g w s):aK T A (evalPart e env) g s (Res T w' p):=by
 cases e with
 |none=>exact iU h (.pure ⟨i.wd,.none⟩)
 |some e=>exact S.ev h i
end
section
variable {T:bE} {cx:a'} {env:Env} {σ:ar} {A:bO} {g g':G} {w w':W} {s s':aw} {n:Nat}
theorem iD (h:aR):h.get? h.objs.size=none:=by
 cases e:h.get? h.objs.size with
 |none=>rfl
 |some o=>exact absurd (k8 e) (nT _)
noncomputable abbrev G.add (g:G) (P:au→Prop):G:=⟨fun b=>g.B b∨P b,g.aA⟩
noncomputable abbrev G.plus (g:G) (a:au):G:=⟨fun b=>g.B b∨b=a,g.aA⟩
noncomputable abbrev G.minus (g:G) (a:au):G:=⟨fun b=>g.B b∧b≠a,g.aA⟩
theorem bK.add {h':aR} {t:Nat} {dr:Drawn} {P:au→Prop} (k: ∀b o,s.heap.get? b=some o→h'.get? b=some o) (aJ: ∀a,P a→s.heap.get? a=Option.none) (aS:s.toks≤t):bK T g s (g.add P) {s with heap:=h',toks:=t,drawn:=dr}:=
 ⟨fun b o e _=>k b o e,fun b o e=>⟨o,k b o e⟩,fun _ x=> .inl x,fun b x=>x.imp id (aJ b),⟨[],by simp⟩,fun _ x=> .inl x,rfl,rfl,aS⟩
theorem cH.add {h h':aR} {P:au→Prop} (k: ∀b o,h.get? b=some o→h'.get? b=some o) (aJ: ∀a,P a→h.get? a=none):cH g.B h (g.add P).B h':=fun b o e n=>⟨k b o e,fun q=>q.elim n fun z=>nn ((aJ b z).symm.trans e)⟩
theorem aL.add (d:aL T g w s) {P:au→Prop} (k: ∀b o,s.heap.get? b=some o→s'.heap.get? b=some o) (aJ: ∀a,P a→s.heap.get? a=none) (aV: ∀a,P a→ ∃o,s'.heap.get? a=some o) (aS:s.toks≤s'.toks):aL T (g.add P) w s' where
 aU:=e3 _
 base b o e:=⟨k b o (d.base b o e).1,fun q=>q.elim (d.base b o e).2 fun z=>nn ((aJ b z).symm.trans (d.base _ _ e).1)⟩
 ex b z:=z.elim (fun z=>let ⟨o,e⟩:=d.ex b z;⟨o,k b o e⟩) (aV b)
 dc b z:= .inl (d.dc b z)
 tab:=T.lQ d.tab (cH.add k aJ) fun b o _ e=>k b o e
 len:=d.len
 cO i a x aF aE:=T.kl (d.cO i a x aF aE) (cH.add k aJ) fun b o _ e=>k b o e
 fg:=d.fg
 eT:=d.eT
theorem bK.plus {h':aR} {t:Nat} {dr:Drawn} {a:au} (k: ∀b o,s.heap.get? b=some o→h'.get? b=some o) (aJ:s.heap.get? a=Option.none) (aS:s.toks≤t):bK T g s (g.plus a) {s with heap:=h',toks:=t,drawn:=dr}:= .add k (fun b z=>z▸aJ) aS
theorem cH.plus {h h':aR} {a:au} (k: ∀b o,h.get? b=some o→h'.get? b=some o) (aJ:h.get? a=none):cH g.B h (g.plus a).B h':=cH.add k fun b z=>z▸aJ
theorem aL.plus (d:aL T g w s) {a:au} (k: ∀b o,s.heap.get? b=some o→s'.heap.get? b=some o) (aJ:s.heap.get? a=none) {o:Obj} (aV:s'.heap.get? a=some o) (aS:s.toks≤s'.toks):aL T (g.plus a) w s':=d.add k (fun b z=>z▸aJ) (fun b z=>⟨o,z▸aV⟩) aS
theorem cH.minus {h:aR} {a:au}:cH g.B h (g.minus a).B h:=fun b o e n=>⟨e,fun q=>n q.1⟩
theorem aL.minus (d:aL T g w s) {a:au} (aJ: ¬ek T.dO g.aA a):aL T (g.minus a) w s where
 aU:=d.aU
 base b o e:=⟨(d.base b o e).1,fun q=>(d.base b o e).2 q.1⟩
 ex b z:=d.ex b z.1
 dc b z:=⟨d.dc b z,fun q=>aJ (q▸z)⟩
 tab:=T.lQ d.tab cH.minus fun b o _ e=>e
 len:=d.len
 cO i a x aF aE:=T.kl (d.cO i a x aF aE) cH.minus fun b o _ e=>e
 fg:=d.fg
 eT:=d.eT
theorem aK.EW {t:Sem af} {l:List I} {vs:List af} (d:aL T g w s) (aW:IsL g.B g.aA s.heap l vs)
  (h: ∀(E:af→aw→Prop) (Q:af→aw→Prop),(∀a h' aU,s.heap.get? a=none→(∀b o,s.heap.get? b=some o→h'.get? b=some o)→c6 h' a vs.toArray→Q (.ref a) {s with heap:=h',toks:=aU})→bc (bo T.prog T.w) A t Q E s):
  aK T A t g s (j2 T s w l):=
 fun E Q k=>k5 (a3 _) (h (fun e s'=>s.toks≤s'.toks→E e s') (fun a s'=>s.toks≤s'.toks→Q a s') fun a h' aU aJ aX ai hle=>by
  obtain ⟨o,aV,r⟩:=id ai
  refine k (g.plus a) _ _ (.plus (dr:=s.drawn) aX aJ hle) ⟨a,vs,rfl,aJ,d.plus aX aJ aV hle,⟨.inr rfl,fun q=> ?_⟩,ai,?_⟩
  ·obtain ⟨cE,bP⟩:=d.ex a (d.dc a q)
   rw[aJ] at bP;cases bP
  ·have:=aW.bF (cH.plus (g:=g) aX aJ) []
   rwa [fF] at this)
theorem aK.Zm {t:Sem af} {l:List I} {vs:List af} (d:aL T g w s) (aW:IsL g.B g.aA s.heap l vs)
  (h: ∀(E:af→aw→Prop) (Q:af→aw→Prop),(∀a h' aU,s.heap.get? a=none→(∀b o,s.heap.get? b=some o→h'.get? b=some o)→h'.IsTuple a vs.toArray→Q (.ref a) {s with heap:=h',toks:=aU})→bc (bo T.prog T.w) A t Q E s):
  aK T A t g s (Res T w (.tup l)):=
 fun E Q k=>k5 (a3 _) (h (fun e s'=>s.toks≤s'.toks→E e s') (fun a s'=>s.toks≤s'.toks→Q a s') fun a h' aU aJ aX ai hle=>by
  have st:bK T g s g {s with heap:=h',toks:=aU}:= .grow (dr:=s.drawn) aX hle
  refine k g _ _ st ⟨d.grow aX hle,.tup (fun q=> ?_) ai (aW.a5 st d)⟩
  obtain ⟨cE,bP⟩:=d.ex a q
  rw[aJ] at bP;cases bP)
theorem aK.freeze {t:Sem af} {l:List I} {FZ:W} (d:aL T g FZ s) (h:aK T A t g s (j2 T s w l)):aK T A t g s (Res T w (.list l)):=
 fun E Q k=>h E Q fun g' s' v x y=>gT y fun a vs y=>by
  refine y.1▸k (g'.minus a) s' _ ⟨x.keep,x.ex,fun b q=>⟨x.hb b q,fun z=> ?_⟩,fun b q=>x.iQ b q.1,x.eG,x.ef,x.gens,x.os,x.aU⟩ ⟨y.2.2.1.minus y.2.2.2.1.2,.list (fun q=>q.2 rfl) y.2.2.2.2.1 ?_⟩
  ·exact (d.ex b q).elim fun o e=>nn (y.2.1.symm.trans (z▸e))
  ·have:=y.2.2.2.2.2.bF (cH.minus (g:=g') (h:=s'.heap) (a:=a)) []
   rwa [fF] at this
theorem Fn {vs:List af} {l:List I} {B aA h} (aC:l.length≤1048576) (aW:IsL B aA h l vs):vs.toArray.size≤sizeLine:=by
 rw[eN,←aW.length];exact c5 aC (by decide)
theorem Zj (S:cU T n) {es:List Expr} {pos:Pos} {l:List I} {w':W} (h:gj (n+1) cx (.List es pos) σ w=some (l,w')) (i:cD T cx env σ A g w s):aK T A (eval (.List es pos) env) g s (j2 T s w' l):=
 aN h fun x J h=>Jp (cA h) (.n7 (.nO ((S.d5 J pos i).bind fun g1 s1 vs t1 a4=>(aK.EW a4.1 a4.2 fun E Q k=>
  xA (k _ _ _ (iD _) (fun b o e=>eE _ e) ⟨_,eO _ rfl,rfl,_,rfl⟩) (Fn (ck h) a4.2)).mono fun g2 s2 v t2 bH=>gT bH fun a us r=>⟨a,us,r.1,t1.none r.2.1,r.2.2⟩)) (arm_eval_List ..))
theorem S8 (S:cU T n) {es:List Expr} {k:Nat} {pos:Pos} {p:I} {w':W} (h:ev (n+1) cx (.Tuple es k pos) σ w=some (p,w')) (i:cD T cx env σ A g w s):aK T A (eval (.Tuple es k pos) env) g s (Res T w' p):=
 aN h fun x J h=>iU (cA h) (.n7 (.nO ((S.d5 J pos i).bind fun g1 s1 vs t1 a4=>aK.Zm a4.1 a4.2 fun E Q k=>
  xA (k _ _ _ (iD _) (fun b o e=>eE _ e) ⟨_,eO _ rfl,rfl,_,rfl⟩) (Fn (ck h) a4.2))) (arm_eval_Tuple ..))
theorem Fl {i:Int} {m j:Nat} (h:seqIndex? i m=some j):j<m∧(0≤i→j=i.toNat)∧(i<0→0≤i+m∧j=(i+m).toNat):=by
 unfold seqIndex? at h
 have ah:=g7.mp (ck h)
 have aQ:=inj (cA h)
 have J:=of_decide_eq_true ah.1
 have U:=of_decide_eq_true ah.2
 clear h ah
 by_cases h0:i<0
 ·rw[if_pos h0] at J U aQ
  exact ⟨aQ▸(Gb J).mpr U,fun z=>absurd h0 (xZ.mpr z),fun _=>⟨J,aQ.symm⟩⟩
 ·rw[if_neg h0] at J U aQ
  exact ⟨aQ▸(Gb J).mpr U,fun _=>aQ.symm,fun z=>absurd z h0⟩
theorem Lk.qe {l:List I} {v:af} {h:aR} (x:Lk T g h (.list l) v): ∃a vs,v= .ref a∧c6 h a (mU vs)∧IsL g.B g.aA h l vs:=by
 cases x with
 |of i=>cases i with|list _ ai aW=>exact ⟨_,_,rfl,ai,aW⟩
 |own _ ai aW=>exact ⟨_,_,rfl,ai,aW⟩
theorem Is.Np {l:List I} {v:af} {h:aR} {B aA} (x:Is B aA h (.tup l) v): ∃a vs,v= .ref a∧h.IsTuple a (mU vs)∧IsL B aA h l vs:=by
 cases x with|tup _ ai aW=>exact ⟨_,_,rfl,ai,aW⟩
theorem Lk.is {p:I} {v:af} {h:aR} (x:Lk T g h p v) (ag: ∀l,p≠ .list l):Is g.B g.aA h p v:=by
 cases x with
 |of i=>exact i
 |own=>exact absurd rfl (ag _)
theorem qu {i:Int} (h:small i=true): -(2^63:Int)≤i∧i<2^63:=by
 have:=of_decide_eq_true h
 exact ⟨Gd (sF (by decide) (nb this).1),sF (nb this).2 (by decide)⟩
theorem Wt {i:Int} {j:Nat} {a:au} {vs:List af} {t:Tok} {r:I} {l:List I} {E Q:af→aw→Prop} (mq:small i=true) (aP:seqIndex? i l.length=some j) (ae:l[j]?=some r) (ai:c6 s.heap a vs.toArray) (aW:IsL g.B g.aA s.heap l vs)
  (q: ∀v aU,Is g.B g.aA s.heap r v→Q v {s with toks:=aU}):bc (bo T.prog T.w) A (getItem (.ref a) (.int i t)) Q E s:=
 b5 (aW.get ae) fun v aQ cw=>by
  have KC:=Fl aP
  have hlen:=aW.length
  by_cases h0:0≤i
  ·exact wpAny_getItem_list ai.eV h0 (qu mq).2 (by rw[←KC.2.1 h0];exact si.trans aQ) (q _ s.toks cw)
  ·have KD:=KC.2.2 (uU.mp h0)
   exact aet ai.eV (uU.mp h0) (by rw[eN,←hlen];exact BU (by rw[B2];exact KD.1)) (qu mq).1 (by rw[eN,←hlen,←KD.2];exact si.trans aQ) (q _ s.toks cw)
theorem Wx {value slice:Expr} {x k r:I} {o kk:af} (h:cz x k=some r) (d:aL T g w s) (cO:Lk T g s.heap x o) (Ko:Is g.B g.aA s.heap k kk) (aC:subscripted slice false o kk=operate [o,kk] (getItem o kk)):
  aK T A (subscriptTail value slice o kk) g s (Res T w r):=
 aN h fun i aB h=>by
  obtain rfl:=kH aB
  obtain ⟨t,rfl⟩:=Ko.jS
  clear aB Ko
  refine .val d fun E Q q=> ?_
  have wI:=cO.is (p:=x)
  cases x with
  |list l=>
   refine aN (cA h) fun j aP ae=> ?_
   obtain ⟨a,vs,rfl,ai,aW⟩:=cO.qe
   exact Bw ai.eV.typeIs slot_list_getitem.lookup (Wt (ck h) aP ae ai aW q) aC
  |tup l=>
   refine aN (cA h) fun j aP ae=> ?_
   obtain ⟨a,vs,rfl,ai,aW⟩:=(wI nofun).Np
   refine b5 (aW.get ae) fun v aQ cw=> ?_
   exact Bw (T:="tuple") (let ⟨o,aV,ah,_⟩:=ai;⟨o,aV,ah⟩) slot_tuple_getitem.lookup (getItem_tuple ai (qu (ck h)).1 (qu (ck h)).2 (by rw[eN,←aW.length];exact aP) (si.trans aQ) (q _ s.toks cw)) aC
  |str y=>
   refine iB (cA h) fun c ah e=> ?_
   obtain ⟨u,rfl⟩:=(wI nofun).h8
   have:=qu (ck h)
   exact Bw (sj s _ _) aeu.lookup (getItem_str (by simp;lia) ah (q _ _ (e▸ .str _ _))) aC
  |_=>exact (nn h).elim
theorem S7 (S:cU T n) {v sl:Expr} {pos:Pos} {p:I} {w':W} (aC: ∀o kk,subscripted sl false o kk=operate [o,kk] (getItem o kk))
  (h:((c8 n cx v σ w).bind fun x=>(ev n cx sl σ x.2).bind fun y=>(cz x.1 y.1).bind fun r=>some (r,y.2))=some (p,w')) (i:cD T cx env σ A g w s):aK T A (eval (.Subscript v sl pos) env) g s (Res T w' p):=
 aN h fun x J h=>aN h fun y U h=>aN h fun r av h=>iU h fun E Q q=>Subscript_ (S.c8 J i E _ fun g1 s1 o t1 a4=>S.ev U (i.a5 t1 a4.1) E _ fun g2 s2 kk t2 bH=>
  Wx av bH.1 (a4.2.a5 t2 a4.1) bH.2 (aC o kk) E Q fun g3 s3 a t3 gk=>q g3 s3 a ((t1.trans t2).trans t3) gk)
theorem S6 (S:cU T n) {v sl:Expr} {pos:Pos} {p:I} {w':W} (hJ:A1 sl=none)
  (h:((c8 n cx v σ w).bind fun x=>(ev n cx sl σ x.2).bind fun y=>(cz x.1 y.1).bind fun r=>some (r,y.2))=some (p,w')) (i:cD T cx env σ A g w s):aK T A (eval (.Subscript v sl pos) env) g s (Res T w' p):=
 S7 S (fun o kk=>by
  cases sl with
  |Slice=>exact (nn hJ.symm).elim
  |_=>rfl) h i
end
section
variable {T:bE} {cx:a'} {env:Env} {σ:ar} {A:bO} {g g':G} {w w':W} {s s':aw} {n:Nat}
theorem IsL.picks {B:au→Prop} {aA:List c3} {h:aR} {l:List I} {vs:List af} (aW:IsL B aA h l vs): ∀idx:List Nat,IsL B aA h (idx.filterMap (l[·]?)) (idx.filterMap (vs.toArray[·]?)):=by
 intro bq
 induction bq with
 |nil=>
  exact .nil
 |cons i idx ay=>
  have ay:=ay
  cases e:l[i]? with
  |none=>
   have aE:vs.toArray[i]?=none:=by simp only[si];rw[List.getElem?_eq_none_iff] at e⊢;rw[←aW.length];exact e
   rw[N4 e,N4 aE];exact ay
  |some p=>
   obtain ⟨v,aQ,cw⟩:=aW.get e
   have aE:vs.toArray[i]?=some v:=by simpa using aQ
   rw[N5 e,N5 aE];exact .cons cw ay
theorem Fb {B:au→Prop} {aA:List c3} {h:aR} {p:I} {v:af} {k:Option Int} (i:Is B aA h p v) (e:w5 p=some k):IsPart v k:=by
 cases i with
 |none=>exact inj e▸ .none
 |int=>exact inj e▸ .int _ _
 |_=>exact (nn e).elim
theorem Fc {B:au→Prop} {aA:List c3} {h:aR} {p:I} {v:af} {k:Option Int} (i:Is B aA h p v) (e:w5 p=some k): ∃u:Option (Int×Tok),v=partValue u∧u.map (·.1)=k:=by
 cases i with
 |none=>exact ⟨none,rfl,inj e⟩
 |int i t=>exact ⟨some (i,t),rfl,inj e⟩
 |_=>exact (nn e).elim
theorem acx (sl:Expr) (lo aB st:Option Expr) (q:Pos) (o i:af): ∃ops,subscripted (.Slice lo aB st q) false o i=operate ops (getItem o i):=by
 cases st<;>exact ⟨_,rfl⟩
theorem abR {lo aB:Option (Int×Tok)} {sl:au} {y:Str} {t:Tok} {E Q:af→aw→Prop} (aC:s.heap.get? sl=some {cls:= .type "slice",data:= .fields #[partValue lo,partValue aB,partValue none]}) (hlen:y.length≤1048576)
  (q: ∀aU u,Q (.str (gS y (lo.map (·.1)) (aB.map (·.1))) u) {s with toks:=aU}):bc (bo T.prog T.w) A (getItem (.str y t) (.ref sl)) Q E s:=by
 refine wpAny_getItem_str_slice (l:=lo) (u:=aB) (st:=none) ⟨_,aC,rfl,rfl⟩ rfl ?_
 have aa:(((F6 (lo.map (·.1)) (aB.map (·.1)) 1 y.length).filterMap (y.cps[·]?)).toArray).size≤sizeLine:=by
  rw[eN]
  exact c5 (aev ..) (c5 (PyProof.Rows.indices_len_le _ _ _) (c5 hlen (by decide)))
 unfold sliceMade
 by_cases aG:(1==(1:Int)&&(F6 (lo.map (·.1)) (aB.map (·.1)) 1 y.length).length==y.length)=true
 ·have e:gS y (lo.map (·.1)) (aB.map (·.1))=y:=if_pos aG
  exact (if_pos aG).symm▸(e▸q s.toks t:Q (.str y t) s)
 ·have e:gS y (lo.map (·.1)) (aB.map (·.1))=_:=if_neg aG
  exact (if_neg aG).symm▸⟨aa,e▸q _ _⟩
theorem abQ {value:Expr} {lo aB st:Option Expr} {q:Pos} {x a b c r:I} {o eD fA uy:af} {sl:au} (h:e' x a b c=some r) (d:aL T g w s)
  (cO:Lk T g s.heap x o) (di:Is g.B g.aA s.heap a eD) (hn:Is g.B g.aA s.heap b fA) (kS:Is g.B g.aA s.heap c uy) (aC:s.heap.get? sl=some {cls:= .type "slice",data:= .fields #[eD,fA,uy]}):
  aK T A (subscriptTail value (.Slice lo aB st q) o (.ref sl)) g s (Res T w r):=
 aN h fun cR aF h=>aN h fun ec aE h=>aN h fun oN cb h=>gZ (acx (.Slice lo aB st q) lo aB st q o (.ref sl)) fun ops J'=>by
  have wI:=cO.is (p:=x)
  cases x with
  |str y=>
   have ah:=ck h
   obtain ⟨t,rfl⟩:=(wI nofun).h8
   clear cO wI
   obtain ⟨d2,rfl,rfl⟩:=Fc di aF
   obtain ⟨nR,rfl,rfl⟩:=Fc hn aE
   obtain ⟨ads,rfl,rfl⟩:=Fc kS cb
   cases ads with
   |some=>exact (nn ah.1.symm).elim
   |none=>exact .val d fun E Q k=>Bw (sj s _ _) aeu.lookup (abR aC ah.2 fun aU u=>k _ _ (.fx (.str _ _) (cA h))) J'
  |list l=>
   have ah:=ck h
   obtain ⟨a,vs,rfl,ai,aW⟩:=cO.qe
   refine inj (cA h)▸aK.freeze d (aK.EW (vs:=(slicePick vs.toArray cR ec oN).toList) d ?_ fun E Q k=>Bw ai.eV.typeIs slot_list_getitem.lookup (wpAny_getItem_list_slice ai.eV ⟨_,aC,rfl,rfl⟩ (Fb di aF) (Fb hn aE) (Fb kS cb) ah.1
    (k _ _ s.toks (iD _) (fun b o e=>eE _ e) ⟨_,eO _ rfl,rfl,_,rfl⟩) (Fn ah.2 aW)) J')
   have:=aW.picks (sliceRange (sliceBounds cR ec oN l.length).1 (sliceBounds cR ec oN l.length).2.1 (sliceBounds cR ec oN l.length).2.2)
   unfold slicePick ql
   rw[eN,←aW.length]
   simpa using this
  |_=>exact (nn h).elim
theorem S5 (S:cU T n) {v:Expr} {lo aB st:Option Expr} {q pos:Pos} {p:I} {w':W} (h:((c8 n cx v σ w).bind fun x=>(h2 n cx lo σ x.2).bind fun a=>(h2 n cx aB σ a.2).bind fun b=>(h2 n cx st σ b.2).bind fun k=>(e' x.1 a.1 b.1 k.1).bind fun r=>some (r,k.2))=some (p,w')) (i:cD T cx env σ A g w s):aK T A (eval (.Subscript v (.Slice lo aB st q) pos) env) g s (Res T w' p):=
 aN h fun x J h=>aN h fun a U h=>aN h fun b av h=>aN h fun c a0 h=>aN h fun r bp h=>iU h fun E Q k=>
  Subscript_ (S.c8 J i E _ fun g1 s1 o t1 a4=>have ea:=i.a5 t1 a4.1;wpAny_Slice (S.h2 U ea E _ fun g2 s2 eD t2 bH=>have fv:=ea.a5 t2 bH.1;S.h2 av fv E _ fun g3 s3 fA t3 gk=>have rH:=fv.a5 t3 gk.1;S.h2 a0 rH E _ fun c1 s4 uy ee hP=>
   have aX: ∀b o,s4.heap.get? b=some o→(s4.heap.push {cls:= .type "slice",data:= .fields #[eD,fA,uy]}).get? b=some o:=fun b o e=>eE _ e
   have lP:bK T c1 s4 c1 {s4 with heap:=s4.heap.push {cls:= .type "slice",data:= .fields #[eD,fA,uy]}}:= .grow (t:=s4.toks) (dr:=s4.drawn) aX (a3 _)
   have CR:aL T c1 c.2 {s4 with heap:=s4.heap.push {cls:= .type "slice",data:= .fields #[eD,fA,uy]}}:=hP.1.grow aX (a3 _)
   abQ bp CR ((((a4.2.a5 t2 a4.1).a5 t3 bH.1).a5 ee gk.1).a5 lP hP.1) (((bH.2.a5 t3 bH.1).a5 ee gk.1).a5 lP hP.1) ((gk.2.a5 ee gk.1).a5 lP hP.1) (hP.2.a5 lP hP.1) (eO _ rfl) E Q
    fun nt iG z o3 qm=>k nt iG z (((((t1.trans t2).trans t3).trans ee).trans lP).trans o3) qm))
end
theorem str_beq {x y:Str}:(x==y)=decide (x=y):=by
 by_cases h:x=y
 ·subst h;rfl
 ·rfl
theorem ar.get_set: ∀(σ:ar) (x:Str) (v:Slot) (y:Str),(σ.set x v).get y=if x=y then v else σ.get y:=by
 intro bq
 induction bq with
 |nil=>
  intro x v y
  show (if (x==y)=true then v else Slot.unset)=_
  rw[str_beq];simp[ar.get]
 |cons hd r ay=>
  obtain ⟨z,u⟩:=hd
  intro x v y
  have ay:=ay x v y
  show ar.get (if (z==x)=true then (z,v)::r else (z,u)::ar.set r x v) y=_
  rw[str_beq]
  by_cases h:z=x
  ·subst h
   simp only[decide_true,if_true]
   show (if (z==y)=true then v else ar.get r y)=if z=y then v else (if (z==y)=true then u else ar.get r y)
   rw[str_beq]
   by_cases q:z=y<;>simp[q]
  ·simp only[decide_eq_true_eq,if_neg h]
   show (if (z==y)=true then u else (ar.set r x v).get y)=if x=y then v else (if (z==y)=true then u else ar.get r y)
   rw[str_beq,ay]
   by_cases q:z=y
   ·subst q
    simp[eg h]
   ·simp[q]
theorem AY {σ:ar} {x y:Str} {p:I} {l:List I} {G:Prop} (e:(σ.set x (.val p)).get y= .own l) (k:x≠y→σ.get y= .own l→G):G:=by
 rw[ar.get_set] at e
 by_cases bl:x=y
 ·rw[if_pos bl] at e;cases e
 ·rw[if_neg bl] at e;exact k bl e
structure cV (T:bE) (K:au→Prop) (g:G) (s:aw) (g':G) (s':aw):Prop where
 ip:cH g.B s.heap g'.B s'.heap
 old: ∀b o,K b→s.heap.get? b=some o→ ¬ek T.dO g.aA b→s'.heap.get? b=some o
 lJ: ∀b,K b→g.B b→g'.B b
 ex: ∀b o,s.heap.get? b=some o→ ∃cE,s'.heap.get? b=some cE
 eG: ∃more,g'.aA=g.aA++more
 ef: ∀b,ek T.dO g'.aA b→ek T.dO g.aA b∨s.heap.get? b=none
 gens:s'.gens=s.gens
 os:s'.os=s.os
 aU:s.toks≤s'.toks
section
variable {T:bE} {K:au→Prop} {cx:a'} {env:Env} {σ:ar} {A:bO} {g g' fh:G} {w w':W} {s s' fq:aw} {n:Nat}
theorem cH.refl {B:au→Prop} {h:aR}:cH B h B h:=fun _ _ e n=>⟨e,n⟩
theorem cH.trans {B B' G9:au→Prop} {h h' mf:aR} (x:cH B h B' h') (y:cH B' h' G9 mf):cH B h G9 mf:=fun a o e n=>y a o (x a o e n).1 (x a o e n).2
theorem cV.refl:cV T K g s g s:=⟨.refl,fun _ _ _ e _=>e,fun _ _ x=>x,fun _ o e=>⟨o,e⟩,⟨[],by simp⟩,fun _ x=> .inl x,rfl,rfl,a3 _⟩
theorem cV.none (x:cV T K g s g' s') {b:au} (e:s'.heap.get? b=Option.none):s.heap.get? b=Option.none:=by
 cases q:s.heap.get? b with
 |none=>rfl
 |some o=>obtain ⟨cE,bP⟩:=x.ex b o q;rw[e] at bP;cases bP
theorem cV.trans (x:cV T K g s g' s') (y:cV T K g' s' fh fq):cV T K g s fh fq where
 ip:=x.ip.trans y.ip
 old b o aF aE n:=y.old b o aF (x.old b o aF aE n) fun q=>(x.ef b q).elim n fun z=>by rw[aE] at z;cases z
 lJ b e z:=y.lJ b e (x.lJ b e z)
 ex b o e:=let ⟨cE,bP⟩:=x.ex b o e;y.ex b cE bP
 eG:=by
  obtain ⟨a,jE⟩:=x.eG
  obtain ⟨b,oe⟩:=y.eG
  exact ⟨a++b,by rw[oe,jE,jY]⟩
 ef b z:=(y.ef b z).elim (x.ef b) fun q=> .inr (x.none q)
 gens:=y.gens.trans x.gens
 os:=y.os.trans x.os
 aU:=c5 x.aU y.aU
theorem bK.bR (x:bK T g s g' s') (d:aL T g w s):cV T K g s g' s':=
 ⟨x.bF d,fun b o _ e n=>x.keep b o e n,fun b _ z=>x.hb b z,x.ex,x.eG,x.ef,x.gens,x.os,x.aU⟩
theorem IsL.bR (x:cV T K g s g' s') {p:List I} {v:List af} (i:IsL g.B g.aA s.heap p v):IsL g'.B g'.aA s'.heap p v:=by
 obtain ⟨more,e⟩:=x.eG
 rw[e];exact i.bF x.ip more
noncomputable def sO (K:au→Prop) (env:Env) (x:Str):Prop:=
 (env.kindOf x=some .local∧ ¬K env.locals)∨(env.kindOf x=some .cell∧ ∀c,env.cells.lookup x=some c→ ¬K c)
theorem wR {h:aR} {a:au} {m:Str→Option af} {fk:Array af} (x:h.Ns a m) (y:h.IsList a fk):False:=by
 obtain ⟨o,es,df,e,d,_⟩:=x
 obtain ⟨cE,bP,_,n,d1⟩:=y
 rw[e] at bP;cases bP;rw[d] at d1;cases d1
theorem wQ {h:aR} {a:au} {m:Str→Option af} {v:Option af} (x:h.Ns a m) (y:h.IsCell a v):False:=by
 obtain ⟨o,es,df,e,d,_⟩:=x
 obtain ⟨cE,bP,d1⟩:=y
 rw[e] at bP;cases bP;rw[d] at d1;cases d1
theorem z5 {h:aR} {a:au} {fk:Array af} {v:Option af} (x:h.IsList a fk) (y:h.IsCell a v):False:=by
 obtain ⟨o,e,_,n,d⟩:=x
 obtain ⟨cE,bP,d1⟩:=y
 rw[e] at bP;cases bP;rw[d] at d1;cases d1
theorem cV.one {h':aR} {t:Nat} {dr:Drawn} {a:au} (b:cy T g a) (aV: ¬K a) (aC: ∀b o,b≠a→s.heap.get? b=some o→h'.get? b=some o) (aJ: ∃o,h'.get? a=some o) (aS:s.toks≤t):cV T K g s g {s with heap:=h',toks:=t,drawn:=dr} where
 ip aZ o e n:=⟨aC aZ o (fun q=>n (q▸b.1)) e,n⟩
 old aZ o aF aE _:=aC aZ o (fun q=>aV (q▸aF)) aE
 lJ _ _ z:=z
 ex aZ o e:=by
  by_cases q:aZ=a
  ·exact q▸aJ
  ·exact ⟨o,aC aZ o q e⟩
 eG:=⟨[],by simp⟩
 ef _ x:= .inl x
 gens:=rfl
 os:=rfl
 aU:=aS
theorem aL.one (d:aL T g w s) {a:au} (b:cy T g a) (aC: ∀b o,b≠a→s.heap.get? b=some o→s'.heap.get? b=some o) (aJ: ∃o,s'.heap.get? a=some o) (aS:s.toks≤s'.toks):aL T g w s' where
 aU:=e3 _
 base c o e:=⟨aC c o (fun q=>(d.base c o e).2 (q▸b.1)) (d.base c o e).1,(d.base c o e).2⟩
 ex c z:=by
  by_cases q:c=a
  ·exact q▸aJ
  ·obtain ⟨o,e⟩:=d.ex c z;exact ⟨o,aC c o q e⟩
 dc:=d.dc
 tab:=T.lQ d.tab (fun c o e n=>⟨aC c o (fun q=>n (q▸b.1)) e,n⟩) fun c o z e=>aC c o (fun q=>b.2 (q▸ .inl z)) e
 len:=d.len
 cO i l x aF aE:=T.kl (d.cO i l x aF aE) (fun c o e n=>⟨aC c o (fun q=>n (q▸b.1)) e,n⟩) fun c o z e=>aC c o (fun q=>b.2 (.inr ⟨l,iK aF,by rw[←q];exact z⟩)) e
 fg:=d.fg
 eT:=d.eT
theorem c2.store {sl:Slot} {v:af} {x:Str} {h':aR} {a:au} (f:c2 T g cx env σ s.heap) (aa:cy T g a)
  (aC: ∀b o,b≠a→s.heap.get? b=some o→h'.get? b=some o)
  (ae:cg T g h' env x (some v)) (p6:fO T g h' sl (some v))
  (aV: ∀y u,y≠x→cg T g s.heap env y u→cg T g h' env y u)
  (ai: ∀fk,¬c6 s.heap a fk) (U8: ∃m,h'.Ns env.locals m)
  (v': ∀y l m c,y≠x→sl= .own l→σ.get y= .own m→v= .ref c→ ¬cg T g s.heap env y (some (.ref c))):c2 T g cx env (σ.set x sl) h' where
 glob:=f.glob
 bi:=f.bi
 kind:=f.kind
 loc:=f.loc
 mw:=f.mw
 ok:=f.ok
 dx:=f.dx
 dict:=U8
 cW:=f.cW
 apart:=f.apart
 nm y k e q:=by
  by_cases bl:x=y
  ·subst bl
   exact ⟨some v,ae,by rw[ar.get_set,if_pos rfl];exact p6⟩
  ·obtain ⟨u,dH,i1⟩:=f.nm y k e q
   refine ⟨u,aV y u (eg bl) dH,?_⟩
   rw[ar.get_set,if_neg bl]
   have bF:cH g.B s.heap g.B h':=fun b o e n=>⟨aC b o (fun q=>n (q▸aa.1)) e,n⟩
   cases aG:σ.get y with
   |unset=>trivial
   |val p=>
    rw[aG] at i1
    obtain ⟨z,aF,ea⟩:=i1
    have:=ea.bF bF []
    rw[fF] at this
    exact ⟨z,aF,this⟩
   |own l=>
    rw[aG] at i1
    obtain ⟨c,vs,aF,gs,⟨o,cR,r⟩,ea⟩:=i1
    have:=ea.bF bF []
    rw[fF] at this
    exact ⟨c,vs,aF,gs,⟨o,aC c o (fun q=>ai vs.toArray (by rw[←q];exact ⟨o,cR,r⟩)) cR,r⟩,this⟩
 sep y z l m c aF aE fX hO dH i1:=by
  rw[ar.get_set] at aF aE
  by_cases bl:x=y
  ·by_cases a6:x=z
   ·rw[←bl,←a6]
   ·exfalso
    subst bl
    rw[if_pos rfl] at aF
    rw[if_neg a6] at aE
    obtain ⟨k,aj,aT⟩:=hO
    obtain ⟨u,a1,_⟩:=f.nm z k aj aT
    refine v' z l m c (eg a6) aF aE ?_ (a1.back (aV z u (eg a6) a1) i1)
    exact B4 (ae.one dH)
  ·rw[if_neg bl] at aF
   by_cases a6:x=z
   ·exfalso
    subst a6
    rw[if_pos rfl] at aE
    obtain ⟨k,aj,aT⟩:=fX
    obtain ⟨u,a1,_⟩:=f.nm y k aj aT
    refine v' y m l c (eg bl) aE aF ?_ (a1.back (aV y u (eg bl) a1) dH)
    exact B4 (ae.one i1)
   ·rw[if_neg a6] at aE
    obtain ⟨bt,rz,nz⟩:=fX
    obtain ⟨bB,kh,p0⟩:=hO
    obtain ⟨d2,a1,_⟩:=f.nm y bt rz nz
    obtain ⟨nR,a2,_⟩:=f.nm z bB kh p0
    exact f.sep y z l m c aF aE ⟨bt,rz,nz⟩ ⟨bB,kh,p0⟩ (a1.back (aV y d2 (eg bl) a1) dH) (a2.back (aV z nR (eg a6) a2) i1)
theorem r9 {E:af→aw→Prop} {Q:Unit→aw→Prop} {x:Str} {k:fB} {v:af} {sl:Slot} (f:c2 T g cx env σ s.heap) (d:aL T g w s) (aj:cx.sc.names.lookup x=some k) (gI:k≠ .globalImplicit) (wr:sO K env x)
  (p6:fO T g s.heap sl (some v)) (v': ∀y l m c,y≠x→sl= .own l→σ.get y= .own m→v= .ref c→ ¬cg T g s.heap env y (some (.ref c)))
  (q: ∀s',cV T K g s g s'→c2 T g cx env (σ.set x sl) s'.heap→aL T g w s'→cg T g s'.heap env x (some v)→(∀y u,y≠x→cg T g s.heap env y u→cg T g s'.heap env y u)→Q () s'):
  bc (bo T.prog T.w) A (bindName env x v) Q E s:=by
 refine wpAny_bindName (k5 (a3 _) ?_)
 have slot: ∀{h':aR} {a:au},cy T g a→(∀b o,b≠a→s.heap.get? b=some o→h'.get? b=some o)→(∀fk,¬c6 s.heap a fk)→fO T g h' sl (some v):=fun {h' a} aa aC ai=>by
  have bF:cH g.B s.heap g.B h':=fun b o e n=>⟨aC b o (fun q=>n (q▸aa.1)) e,n⟩
  cases sl with
  |unset=>trivial
  |val p=>
   obtain ⟨z,aF,ea⟩:=p6
   have:=ea.bF bF []
   rw[fF] at this
   exact ⟨z,aF,this⟩
  |own l=>
   obtain ⟨c,vs,aF,gs,⟨o,cR,r⟩,ea⟩:=p6
   have:=ea.bF bF []
   rw[fF] at this
   exact ⟨c,vs,aF,gs,⟨o,aC c o (fun q=>ai vs.toArray (by rw[←q];exact ⟨o,cR,r⟩)) cR,r⟩,this⟩
 rcases wr with ⟨Ei,iu⟩|⟨cW,hI⟩
 ·
  obtain ⟨u,jM,_⟩:=f.nm x k aj gI
  have hJ: ∃m,s.heap.Ns env.locals m:=by
   rcases jM with ⟨_,m,hm,_⟩|⟨q,_⟩
   ·exact ⟨m,hm⟩
   ·rcases q with q|q<;>rw[Ei] at q<;>cases q
  obtain ⟨m,hm⟩:=hJ
  refine wpAny_storeName_local Ei hm (fun h' tB h5 hle=> ?_) (by rw[f.kind];rfl)
  have aC: ∀b o,b≠env.locals→s.heap.get? b=some o→h'.get? b=some o:=fun b o aa e=>(h5.2 b aa).trans e
  have ai: ∀fk,¬c6 s.heap env.locals fk:=fun fk y=>wR hm y.eV
  have aJ: ∃o,h'.get? env.locals=some o:=let ⟨o,_,_,e,_⟩:=tB;⟨o,e⟩
  have wX:cg T g h' env x (some v):= .inl ⟨Ei,_,tB,by exact if_pos rfl⟩
  have i3: ∀y u,y≠x→cg T g s.heap env y u→cg T g h' env y u:=fun y u bl n=>by
   rcases n with ⟨bt,bT,tx,aF⟩|⟨bt,c,ah,⟨o,e,aQ⟩,ag⟩
   ·exact .inl ⟨bt,_,tB,by simp[bl];rw[E2 hm tx];exact aF⟩
   ·exact .inr ⟨bt,c,ah,⟨o,aC c o (fun q=>wQ (v:=u) hm (by rw[←q];exact ⟨o,e,aQ⟩)) e,aQ⟩,ag⟩
  exact q _ (.one (dr:=s.drawn) f.loc iu aC aJ hle) (f.store f.loc aC wX (slot f.loc aC ai) i3 ai ⟨_,tB⟩ v') (d.one f.loc aC aJ hle) wX i3
 ·obtain ⟨u,jM,_⟩:=f.nm x k aj gI
  rcases jM with ⟨fX,_⟩|⟨_,c,ah,aQ,ag⟩
  ·rw[cW] at fX;cases fX
  ·refine wpAny_storeName_cell f.kind cW ah aQ fun h' oG h5 hle=> ?_
   have aC: ∀b o,b≠c→s.heap.get? b=some o→h'.get? b=some o:=fun b o aa e=>(h5.2 b aa).trans e
   have ai: ∀fk,¬c6 s.heap c fk:=fun fk y=>z5 y.eV aQ
   have aJ: ∃o,h'.get? c=some o:=let ⟨o,e,_⟩:=oG;⟨o,e⟩
   have wX:cg T g h' env x (some v):= .inr ⟨.inl cW,c,ah,oG,ag⟩
   have dict: ∃m,h'.Ns env.locals m:=by obtain ⟨m,o,es,df,e,hh,r⟩:=f.dict;exact ⟨m,o,es,df,aC _ _ (fun q=>wQ (h:=s.heap) ⟨o,es,df,e,hh,r⟩ (by rw[q];exact aQ)) e,hh,r⟩
   have i3: ∀y u,y≠x→cg T g s.heap env y u→cg T g h' env y u:=fun y u bl n=>by
    rcases n with ⟨bt,bT,tx,aF⟩|⟨bt,dz,pW,⟨o,e,V6⟩,VG⟩
    ·obtain ⟨o,es,df,e,hh,r⟩:=tx
     exact .inl ⟨bt,bT,⟨o,es,df,aC _ _ (fun q=>wQ (h:=s.heap) ⟨o,es,df,e,hh,r⟩ (by rw[q];exact aQ)) e,hh,r⟩,aF⟩
    ·exact .inr ⟨bt,dz,pW,⟨o,aC dz o (fun q=>bl (f.apart y x c (q▸pW) ah)) e,V6⟩,VG⟩
   exact q _ (.one (t:=s.toks) (dr:=s.drawn) ag (hI c ah) aC aJ (a3 _)) (f.store ag aC wX (slot ag aC ai) i3 ai dict v') (d.one ag aC aJ (a3 _)) wX i3
end
section
variable {prog:sE} {wd:pn} {A:bO} {E:af→aw→Prop} {s:aw}
theorem RR {it t:au} {items:Array af} (eJ:t≠it): ∀(n i:Nat) (s:aw) (Q:List af→aw→Prop),s.heap.IsListIter it t i→s.heap.IsList t items→i+n≤items.size→
  (∀h',h'.IsListIter it t (i+n)→Heap.SameBut it s.heap h'→Q ((items.toList.drop i).take n) {s with heap:=h'})→bc (bo prog wd) A (draw (.ref it) n) Q E s:=by
 intro bq
 induction bq with
 |zero=>
  intro i s Q hit _ _ mh
  show bc _ _ (pure []) Q E s
  exact b6 (by simpa using mh s.heap hit (Heap.SameBut.refl ..))
 |succ n ay=>
  intro i s Q hit aS hle mh
  have dd:i<items.size:=by exact aew hle
  show bc _ _ (pyNext (.ref it)>>=_) Q E s
  refine aM (wpAny_pyNext_list_item hit aS (x:=items[i]) (by simp[dd]) fun kj DQ wb=> ?_)
  refine aM (g8 (ay (i+1) _ _ DQ (aS.extBut wb.extBut eJ) (by exact aH hle) fun hK Vi VX=>b6 ?_))
  have hd:items.toList.drop i=items[i]::items.toList.drop (i+1):=by simp[aex,dd]
  have:=mh hK (by rw[show i+(n+1)=i+1+n by exact fC (N6 _ _)];exact Vi) (wb.trans VX)
  rw[hd,Ge] at this
  exact this
theorem NA {t:au} {items:Array af} {Q:List af→aw→Prop} (cL:A.handled=none) (aS:s.heap.IsList t items)
  (mh: ∀h',N7 s.heap.objs.size s.heap h'→Q items.toList {s with heap:=h'}):bc (bo prog wd) A (unpackItems (.ref t) items.size none) Q E s:=by
 have dd:t≠s.heap.objs.size:=by obtain ⟨o,aV,_⟩:=aS;exact jX (k8 aV)
 unfold unpackItems
 refine aM ?_
 ·unfold notIterableAtAll
  refine aM (wpAny_specialOf aS.typeIs slot_list_iter.lookup ?_)
  refine b6 ?_
  simp only[Bx,if_false]
  refine aM (g8 (N8 aS ?_))
  refine aM (g8 (RR dd items.size 0 _ _ ⟨_,eO _ rfl,rfl,rfl⟩ (aS.push _) (by exact b0 (kz _ _)) fun kj DQ wb=> ?_))
  have DD:By items.size (xC 0 items.toList)=items.toList:=by
   rw[Gf];exact o' (by simp)
  rw[DD]
  rw[if_neg (by simp)]
  have V2:kj.IsList t items:=(aS.push _).extBut wb.extBut dd
  refine aM (g8 (wpAny_pyNext_list_end cL DQ V2 (by simp) fun hK U'=> ?_))
  simp only[Option.isSome_none,Bx,if_false]
  refine b6 (mh hK fun b o aa e=>U' b o aa (wb.extBut b o aa (eE _ e)))
end
theorem ar.get_map (σ:ar) (f:Str→Slot→Slot) (hf: ∀x,f x .unset= .unset) (x:Str):ar.get (σ.map fun (y,u)=>(y,f y u)) x=f x (σ.get x):=by
 induction σ with
 |nil=>exact (hf x).symm
 |cons q r ay=>
  obtain ⟨y,u⟩:=q
  show (if (y==x)=true then f y u else ar.get (r.map fun (y,u)=>(y,f y u)) x)=f x (if (y==x)=true then u else ar.get r x)
  rw[str_beq]
  by_cases h:y=x
  ·subst h;simp
  ·simp only[decide_eq_true_eq,if_neg h];exact ay
theorem ar.y4 (σ:ar) (xs:List Str) (x:Str):(σ.hide xs).get x=if xs.contains x then .unset else σ.get x:=
 ar.get_map σ (fun y u=>if xs.contains y then .unset else u) (fun x=>by split<;>rfl) x
theorem ar.Uo (σ:ar) (xs:List Str) (x:Str):(σ.freeze xs).get x=if xs.contains x then (match σ.get x with| .own l=> .val (.list l)|u=>u) else σ.get x:=
 ar.get_map σ (fun y u=>if xs.contains y then (match u with| .own l=> .val (.list l)|u=>u) else u) (fun x=>by dsimp only;split<;>rfl) x
section
variable {T:bE} {K:au→Prop} {cx:a'} {env:Env} {σ σ':ar} {A:bO} {g g' fh:G} {w w':W} {s s' fq:aw} {n:Nat}
theorem c2.weak {h:aR} (f:c2 T g cx env σ h) (k: ∀x,σ'.get x=σ.get x∨σ'.get x= .unset):c2 T g cx env σ' h where
 glob:=f.glob
 bi:=f.bi
 kind:=f.kind
 loc:=f.loc
 mw:=f.mw
 ok:=f.ok
 dx:=f.dx
 dict:=f.dict
 cW:=f.cW
 apart:=f.apart
 nm x kd e q:=by
  obtain ⟨v,a,b⟩:=f.nm x kd e q
  refine ⟨v,a,?_⟩
  rcases k x with h|h<;>rw[h]
  ·exact b
  ·trivial
 sep x y l m a aF aE:=by
  have J:σ.get x= .own l:=by rcases k x with h|h<;>rw[h] at aF;exact aF;cases aF
  have U:σ.get y= .own m:=by rcases k y with h|h<;>rw[h] at aE;exact aE;cases aE
  exact f.sep x y l m a J U
noncomputable def pD (K:au→Prop) (cx:a') (env:Env):Prop:= ∀x,dq cx.sc x=true→sO K env x
noncomputable def Kept (T:bE) (g:G) (env:Env) (σ σ':ar) (s s':aw):Prop:= ∀y l,σ'.get y= .own l→σ.get y= .own l∧ ∀u,cg T g s.heap env y u→cg T g s'.heap env y u
theorem oR {sc:Scope} {x:Str} (h:dq sc x=true): ∃k,sc.names.lookup x=some k∧k≠ .globalImplicit:=by
 unfold dq at h
 simp only[uG,beq_iff_eq] at h
 rcases h with h|h
 ·exact ⟨_,h,by decide⟩
 ·exact ⟨_,h,by decide⟩
theorem HU {E:af→aw→Prop} {Q:Unit→aw→Prop} {t:Expr} {p:I} {v:af} (h:va cx.sc t p σ=some σ') (wr:pD K cx env) (f:c2 T g cx env σ s.heap) (d:aL T g w s) (i:Is g.B g.aA s.heap p v)
  (q: ∀s',cV T K g s g s'→c2 T g cx env σ' s'.heap→aL T g w s'→Kept T g env σ σ' s s'→Q () s'):bc (bo T.prog T.w) A (assign t env v) Q E s:=
 aN h fun x ae h=>(oW ae).elim fun pos aS=>b5 (oR (ck h)) fun k aj gI=>by
  rw[aS,aey]
  exact aM (fL (r9 (sl:= .val p) f d aj gI (wr x (ck h)) ⟨v,rfl,i⟩ (fun _ _ _ _ _ z=>by cases z) fun s' gD kc d1 jM i3=>q s' gD (inj (cA h)▸kc) d1 fun y l e=>by
   exact AY (inj (cA h)▸e) fun bl e=>⟨e,fun u=>i3 y u (eg bl)⟩))
theorem HI {t:Expr} {ts:List Expr} {env:Env} (h: ∃x,kV t=some x):assignEach (t::ts) env=(false,assign t env)::assignEach ts env:=
 h.elim fun x ae=>(oW ae).elim fun p e=>by rw[e];rfl
theorem HT {sc:Scope} {t:Expr} {p:I} (h:va sc t p σ=some σ'): ∃x,kV t=some x:=aN h fun x ae _=>⟨x,ae⟩
theorem Qe {sc:Scope} {env:Env}: ∀{ts:List Expr} {ps:List I} {σ σ':ar},pI sc ts ps σ=some σ'→(assignEach ts env).length=ps.length∧(assignEach ts env).findIdx? (·.1)=none:=by
 intro ts
 induction ts with
 |nil=>intro l _ _ h;rw[k7.mp (ck h)];exact ⟨rfl,rfl⟩
 |cons t ts ay=>
  intro ps σ σ' h
  cases ps with
  |nil=>exact (nn h).elim
  |cons p ps=>
   exact aN h fun σ1 J U=>by
    have e:=ay U
    rw[HI (HT J),N9]
    exact ⟨congrArg (·+1) e.1,by simp[e.2]⟩
theorem Qd {E:af→aw→Prop} {Q:Unit→aw→Prop} {ts:List Expr}: ∀{ps:List I} {vs:List af} {σ:ar} {s:aw},pI cx.sc ts ps σ=some σ'→pD K cx env→c2 T g cx env σ s.heap→aL T g w s→IsL g.B g.aA s.heap ps vs→
  (∀s',cV T K g s g s'→c2 T g cx env σ' s'.heap→aL T g w s'→Kept T g env σ σ' s s'→Q () s')→bc (bo T.prog T.w) A (assignInOrder ((assignEach ts env).map (·.2)) vs) Q E s:=by
 induction ts with
 |nil=>
  intro ps vs σ s h wr f d aW q
  have e:=inj (cA h)
  have ev:vs=[]:=(k7.mp (ck h)▸aW:IsL g.B g.aA s.heap [] vs).iJ
  rw[ev]
  exact b6 (q s .refl (e▸f) d fun y l z=>⟨e▸z,fun u n=>n⟩)
 |cons t ts ay=>
  intro ps vs σ s h wr f d aW q
  cases ps with
  |nil=>exact (nn h).elim
  |cons p ps=>
   refine aN h fun σ1 J U=>e5 aW.gE fun v vs' ev i aW=> ?_
   rw[HI (HT J),ev]
   show bc _ A (do holding vs' (assign t env v);assignInOrder ((assignEach ts env).map (·.2)) vs') Q E s
   exact aM (g8 (HU J wr f d i fun s1 t1 f1 bb bt=>ay U wr f1 bb (aW.bR t1) fun s2 t2 f2 b4 bB=>q s2 (t1.trans t2) f2 b4 fun y l e=>⟨(bt y l (bB y l e).1).1,fun u n=>(bB y l e).2 u ((bt y l (bB y l e).1).2 u n)⟩))
theorem y8 {h':aR} (ae:N7 s.heap.objs.size s.heap h'): ∀b o,s.heap.get? b=some o→h'.get? b=some o:=fun b o e=>ae b o (jX (k8 e)) e
theorem yp {E:af→aw→Prop} {Q:Unit→aw→Prop} {t:Expr} {p:I} {v:af} (cL:A.handled=none) (h:gc cx.sc t p σ=some σ') (wr:pD K cx env) (f:c2 T g cx env σ s.heap) (d:aL T g w s) (i:Is g.B g.aA s.heap p v)
  (q: ∀s',cV T K g s g s'→c2 T g cx env σ' s'.heap→aL T g w s'→Kept T g env σ σ' s s'→Q () s'):bc (bo T.prog T.w) A (assign t env v) Q E s:=
 pO h (fun _ h=>HU h wr f d i q) fun ts aS h=>aN h fun l ai h=>gT (adp aS) fun gp pos gh=>by
  have st:=Qe (env:=env) h
  have go: ∀{h' vs},(∀b o,s.heap.get? b=some o→h'.get? b=some o)→IsL g.B g.aA s.heap l vs→bc (bo T.prog T.w) A (assignInOrder ((assignEach ts env).map (·.2)) vs) Q E {s with heap:=h'}:=fun {h' vs} aX aW=>
   have t1:bK T g s g {s with heap:=h'}:= .grow (t:=s.toks) (dr:=s.drawn) aX (a3 _)
   Qd h wr (f.a5 t1 d) (d.grow aX (a3 _)) (aW.a5 t1 d) fun s2 t2 f2 b4 bB=>q s2 ((t1.bR d).trans t2) f2 b4 fun y l e=>⟨(bB y l e).1,fun u n=>(bB y l e).2 u (n.a5 t1 d f.loc)⟩
  rw[gh]
  clear q f
  cases i with
  |tup nb aS aW=>
   have aW:=(inj ai:_=l)▸aW
   exact wpAny_assign_Tuple cL aS (by rw[st.1,eN,aW.length]) st.2 fun h' ae=>go (y8 ae) aW
  | @list Xj a vs nb aS aW=>
   have aW:=(inj ai:Xj=l)▸aW
   rw[arm_assign_Tuple]
   refine aM (fL ?_)
   unfold unpack
   rw[st.2]
   refine aM (g8 ?_)
   have hlen:(assignEach ts env).length=vs.toArray.size:=by rw[st.1,eN,aW.length]
   rw[hlen]
   exact NA cL aS.eV fun h' ae=>go (y8 ae) aW
  |_=>exact (nn ai).elim
end
structure m4 (T:bE) (A:bO) (tgt:Expr) (gw:G) (kj:aR) (az:au) (items:List I) (c9 wr:List au) (St:Nat→aR→Prop):Prop where
 sub: ∀b∈wr,b∈c9
 live: ∀i h,St i h→ ∀b∈wr,∃o bk,h.get? b=some o∧o.data= .fields bk
 frame: ∀i h h',St i h→(∀b∈c9,∀o,h.get? b=some o→h'.get? b=some o)→St i h'
 item: ∀(i:Nat) p (g:G) (s:aw) (E:af→aw→Prop) (Q:Option af→aw→Prop),items[i]?=some p→St i s.heap→cH gw.B kj g.B s.heap→(∃more,g.aA=gw.aA++more)→(∀b,g.B b→ ∃o,s.heap.get? b=some o)→(∀b∈wr,g.B b)→
  (∀v h' aU,(∀b o,b∉wr→s.heap.get? b=some o→h'.get? b=some o)→
   (∀(ig:af→aw→Prop) (eR:Unit→aw→Prop),(∀mf,St (i+1) mf→(∀b o,b∉wr→h'.get? b=some o→mf.get? b=some o)→Is g.B g.aA mf p v→eR () {s with heap:=mf,toks:=aU})→
    bc (bo T.prog T.w) A (letOwnedTupleGo tgt (.ref az) v) eR ig {s with heap:=h',toks:=aU})→Q (some v) {s with heap:=h',toks:=aU})→
  bc (bo T.prog T.w) A (pyNext (.ref az)) Q E s
 done: ∀(s:aw) (E:af→aw→Prop) (Q:Option af→aw→Prop),St items.length s.heap→(∀h' aU,(∀b o,b∉wr→s.heap.get? b=some o→h'.get? b=some o)→Q none {s with heap:=h',toks:=aU})→bc (bo T.prog T.w) A (pyNext (.ref az)) Q E s
 self: ∀i (s:aw) (E:af→aw→Prop) (Q:af→aw→Prop),St i s.heap→Q (.ref az) s→bc (bo T.prog T.w) A (pyIter (.ref az)) Q E s
section
variable {T:bE} {K:au→Prop} {cx:a'} {env:Env} {σ σ':ar} {A:bO} {g g' fh gw:G} {w w':W} {s s' fq:aw} {n:Nat} {tgt:Expr}
theorem m4.ofWalks {az:au} {c9 wr:List au} {items:List I} {P:Nat→af→Prop} {St:Nat→aR→Prop} {kj:aR} (W:Walks T.prog T.w A az c9 wr items.length P St)
  (ai: ∀i h,St i h→ ∀b∈wr,∃o bk,h.get? b=some o∧o.data= .fields bk)
  (bS: ∀(i:Nat) p v (g:G) h,items[i]?=some p→P i v→cH gw.B kj g.B h→(∃more,g.aA=gw.aA++more)→Is g.B g.aA h p v)
  (tp: ∀i v (s:aw) (E:af→aw→Prop) (Q:Unit→aw→Prop),St i s.heap→Q () s→bc (bo T.prog T.w) A (letOwnedTupleGo tgt (.ref az) v) Q E s):m4 T A tgt gw kj az items c9 wr St where
 sub:=W.sub
 live:=ai
 frame:=W.frame
 item i p g s E Q aB st bF lU q9 dc q:=by
  refine W.item i s Q E (hW.mp aB).1 st fun v h' aU k2 MT aX=>q v h' aU aX fun ig eR kn=>tp (i+1) v _ ig eR MT ?_
  refine kn h' MT (fun _ _ _ e=>e) ?_
  have:=(bS i p v g s.heap aB k2 bF lU).bF (B':=g.B) (h':=h') (fun a o e n=>⟨aX a o (fun z=>n (dc a z)) e,n⟩) []
  rwa [fF] at this
 done s E Q st q:=W.done s Q E st q
 self i s E Q st q:=W.self i s Q E st q
inductive jz (T:bE) (A:bO) (own:Bool) (tgt:Expr) (s:aw) (w:W) (items:List I) (g':G) (s':aw):af→Prop where
 |mk (az:au) (c9 wr:List au) (St:Nat→aR→Prop):aL T g' w s'→m4 T A tgt g' s'.heap az items c9 wr St→St 0 s'.heap→(∀b∈wr,cy T g' b∧s.heap.get? b=none)→
  (∀b∈c9,(∃o,s'.heap.get? b=some o)∧ ¬ek T.dO g'.aA b∧(own=false→b∈wr∨ ¬g'.B b))→(∀b∈wr,∃o bk,s'.heap.get? b=some o∧o.data= .fields bk)→jz T A own tgt s w items g' s' (.ref az)
theorem EY (d:aL T g w s) {b:au} (h:s.heap.get? b=none): ¬ek T.dO g.aA b:=fun q=>(d.ex b (d.dc b q)).elim fun o e=>nn (h.symm.trans e)
theorem Uq {az:au} {v:af} {o:Obj} {ty:String} {bk:Array af} {E:af→aw→Prop} {Q:Unit→aw→Prop} (h:(isName tgt||jJ tgt)=true) (aV:s.heap.get? az=some o) (ah:o.cls= .type ty) (hd:o.data= .fields bk)
  (aT:(["enumerate","zip","dict_itemiterator","dict_reverseitemiterator","odict_iterator","itertools.zip_longest","itertools.pairwise"]:List String).contains ty=false) (q:Q () s):bc (bo T.prog T.w) A (letOwnedTupleGo tgt (.ref az) v) Q E s:=by
 cases tgt with
 |Name=>exact b6 q
 |Tuple=>
  cases v with
  |ref x'=>
   refine aM (wpAny_load aV ?_)
   rw[ah,hd]
   show bc _ A (if ((["enumerate","zip","dict_itemiterator","dict_reverseitemiterator","odict_iterator","itertools.zip_longest","itertools.pairwise"]:List String).contains ty&&bk[0]?==some (rawInt x'))=true then _ else _) Q E s
   rw[aT,Bool.false_and,if_neg hB]
   exact b6 q
  |_=>exact b6 q
 |_=>exact (hB h).elim
theorem wq {own:Bool} {items:List I} {o:Obj} {ax:List au} {t:Nat} {P:Nat→af→Prop} {St:Nat→aR→Prop} {bk:Array af} {ty:String} (d:aL T g w s) (h':aR) (az:au) (fj:s.heap.get? az=none) (aX: ∀b o,s.heap.get? b=some o→h'.get? b=some o) (aV:h'.get? az=some o) (hd:o.data= .fields bk) (aS:s.toks≤t)
  (W:Walks T.prog T.w A az (az::ax) [az] items.length P St) (tI:St 0 h') (ai: ∀i h,St i h→ ∃o bk,h.get? az=some o∧o.cls= .type ty∧o.data= .fields bk) (zF:(["enumerate","zip","dict_itemiterator","dict_reverseitemiterator","odict_iterator","itertools.zip_longest","itertools.pairwise"]:List String).contains ty=false)
  (fS:(isName tgt||jJ tgt)=true) (vO: ∀b∈ax,(∃o,s.heap.get? b=some o)∧ ¬ek T.dO g.aA b∧(own=false→ ¬g.B b))
  (bS: ∀(i:Nat) p v (bh:G) h,items[i]?=some p→P i v→cH (g.plus az).B h' bh.B h→(∃more,bh.aA=g.aA++more)→Is bh.B bh.aA h p v):
  bK T g s (g.plus az) {s with heap:=h',toks:=t}∧jz T A own tgt s w items (g.plus az) {s with heap:=h',toks:=t} (.ref az):=by
 have tV:=EY d fj
 refine ⟨.plus (dr:=s.drawn) aX fj aS,az,az::ax,[az],St,d.plus aX fj aV aS,?_,tI,fun b aa=>(fs.mp aa).symm▸⟨⟨.inr rfl,tV⟩,fj⟩,fun b aa=> ?_,fun b aa=>⟨o,bk,(fs.mp aa).symm▸aV,hd⟩⟩
 ·exact m4.ofWalks W (fun i h st b aa=>e5 (ai i h st) fun o bk e _ hh=>⟨o,bk,(fs.mp aa).symm▸e,hh⟩) bS fun i v s E Q st q=>e5 (ai i _ st) fun o bk e ah hd=>Uq fS e ah hd zF q
 ·refine (d3.mp aa).elim (fun z=>z.symm▸⟨⟨o,aV⟩,tV,fun _=> .inl (fs.mpr rfl)⟩) fun aa=> ?_
  have h:=vO b aa
  exact h.1.elim fun cE bP=>⟨⟨cE,aX b cE bP⟩,h.2.1,fun z=> .inr fun q=>q.elim (h.2.2 z) fun z=>nn (fj.symm.trans (z▸bP))⟩
end
section
variable {T:bE} {K:au→Prop} {cx:a'} {env:Env} {σ σ':ar} {A:bO} {g g' fh gw:G} {w w':W} {s s' fq:aw} {n:Nat} {tgt:Expr}
theorem Jb {l:List I} {vs:List af} {h':aR} {az:au} (aW:IsL g.B g.aA s.heap l vs) (aX: ∀b o,s.heap.get? b=some o→h'.get? b=some o) (fj:s.heap.get? az=none) {i:Nat} {p:I} {v:af} {bh:G} {h:aR} (aB:l[i]?=some p) (aQ:vs[i]?=some v)
  (bF:cH (g.plus az).B h' bh.B h) (lU: ∃more,bh.aA=g.aA++more):Is bh.B bh.aA h p v:=by
 obtain ⟨u,dh,eW⟩:=aW.get aB
 rw[aQ] at dh;cases dh
 obtain ⟨more,e⟩:=lU
 rw[e]
 exact eW.bF ((cH.plus (g:=g) aX fj).trans bF) more
theorem Walks.cast {az:au} {c9 wr:List au} {n m:Nat} {P:Nat→af→Prop} {St:Nat→aR→Prop} (W:Walks T.prog T.w A az c9 wr n P St) (h:n=m):Walks T.prog T.w A az c9 wr m P St:=h▸W
theorem WT {own:Bool} {l:List I} {v:af} (cL:A.handled=none) (d:aL T g w s) (cO:Lk T g s.heap (.list l) v) (aa:own=false→Is g.B g.aA s.heap (.list l) v) (fS:(isName tgt||jJ tgt)=true):
  aK T A (pyIter v) g s (jz T A own tgt s w l):=by
 obtain ⟨a,vs,rfl,ai,aW⟩:=cO.qe
 intro E Q k
 refine N8 ai.eV ?_
 have eJ:a≠s.heap.objs.size:=by obtain ⟨o,aV,_⟩:=ai;exact jX (k8 aV)
 have W:=Walks.cast (Walks.list (prog:=T.prog) (w:=T.w) (A:=A) cL s.heap.objs.size a eJ vs.toArray) (m:=l.length) (by rw[eN,aW.length])
 have aX: ∀b o,s.heap.get? b=some o→(s.heap.push {cls:= .type "list_iterator",data:= .fields #[.ref a,.int 0 0]}).get? b=some o:=fun b o e=>eE _ e
 have vO: ∀b∈[a],(∃o,s.heap.get? b=some o)∧ ¬ek T.dO g.aA b∧(own=false→ ¬g.B b):=fun b h4=>by
  rw[fs] at h4
  subst h4
  obtain ⟨o,aV,_⟩:=id ai
  refine ⟨⟨o,aV⟩,?_,fun z=> ?_⟩
  ·cases cO with
   |of i=>cases i with|list nb _ _=>exact fun q=>nb (d.dc _ q)
   |own cu _ _=>exact cu.2
  ·cases aa z with|list nb _ _=>exact nb
 obtain ⟨t1,a4⟩:=wq (own:=own) (ty:="list_iterator") (tgt:=tgt) (items:=l) (ax:=[a]) (t:=s.toks) d _ s.heap.objs.size (iD _) aX (eO _ rfl) rfl (a3 _) W ⟨⟨_,eO _ rfl,rfl,rfl⟩,ai.eV.push _⟩
  (fun i h st=>let ⟨o,e,ah,hd⟩:=st.1;⟨o,_,e,ah,hd⟩) (by decide) fS vO (fun i p v bh h aB k2 bF lU=>Jb aW aX (iD _) aB (by simpa using k2) bF lU)
 exact k _ _ _ t1 a4
theorem WX {own:Bool} {l:List I} {v:af} (cL:A.handled=none) (d:aL T g w s) (nA:Is g.B g.aA s.heap (.tup l) v) (fS:(isName tgt||jJ tgt)=true):
  aK T A (pyIter v) g s (jz T A own tgt s w l):=by
 cases nA with
 |tup nb ai aW=>
  rename_i a vs
  intro E Q k
  refine wpAny_pyIter_tuple ai ?_
  have eJ:a≠s.heap.objs.size:=by obtain ⟨o,aV,_⟩:=ai;exact jX (k8 aV)
  have W:=Walks.cast (Walks.tuple (prog:=T.prog) (w:=T.w) (A:=A) cL s.heap.objs.size a eJ vs.toArray) (m:=l.length) (by rw[eN,aW.length])
  have aX: ∀b o,s.heap.get? b=some o→(s.heap.push {cls:= .type "tuple_iterator",data:= .fields #[.ref a,.int 0 0]}).get? b=some o:=fun b o e=>eE _ e
  have vO: ∀b∈[a],(∃o,s.heap.get? b=some o)∧ ¬ek T.dO g.aA b∧(own=false→ ¬g.B b):=fun b h4=>by
   rw[fs] at h4
   subst h4
   obtain ⟨o,aV,_⟩:=id ai
   exact ⟨⟨o,aV⟩,fun q=>nb (d.dc _ q),fun _=>nb⟩
  obtain ⟨t1,a4⟩:=wq (own:=own) (ty:="tuple_iterator") (tgt:=tgt) (items:=l) (ax:=[a]) (t:=s.toks) d _ s.heap.objs.size (iD _) aX (eO _ rfl) rfl (a3 _) W ⟨⟨_,eO _ rfl,rfl,rfl⟩,ai.push _⟩
   (fun i h st=>let ⟨o,e,ah,hd⟩:=st.1;⟨o,_,e,ah,hd⟩) (by decide) fS vO (fun i p v bh h aB k2 bF lU=>Jb aW aX (iD _) aB (by simpa using k2) bF lU)
  exact k _ _ _ t1 a4
theorem WW {own:Bool} {x:Str} {v:af} (cL:A.handled=none) (d:aL T g w s) (nA:Is g.B g.aA s.heap (.str x) v) (fS:(isName tgt||jJ tgt)=true):
  aK T A (pyIter v) g s (jz T A own tgt s w (x.cps.toList.map fun c=> .str ⟨#[c]⟩)):=by
 cases nA with
 |str _ t=>
  intro E Q k
  have hlen:x.cps.size=(x.cps.toList.map fun c=>I.str ⟨#[c]⟩).length:=by simp
  have bS: ∀(i:Nat) p v (bh:G) (h:aR),(x.cps.toList.map fun c=>I.str ⟨#[c]⟩)[i]?=some p→SignAt x i v→Is bh.B bh.aA h p v:=by
   rintro i p v bh h aB ⟨c,u,ah,rfl⟩
   rw[dF] at aB
   have hj:x.cps.toList[i]?=some c:=by simpa using ah
   rw[hj] at aB;cases aB
   exact .str _ _
  have aX: ∀ty,∀b o,s.heap.get? b=some o→(s.heap.push {cls:= .type ty,data:= .fields #[.str x t,.int 0 0]}).get? b=some o:=fun ty b o e=>eE _ e
  cases aJ:x.cps.all (·<128)
  ·refine wpAny_pyIter_wide aJ ?_
   obtain ⟨t1,a4⟩:=wq (own:=own) (ty:="str_iterator") (tgt:=tgt) (items:=x.cps.toList.map fun c=> .str ⟨#[c]⟩) (ax:=[]) (t:=s.toks) d _ s.heap.objs.size (iD _) (aX "str_iterator") (eO _ rfl) rfl (a3 _)
    (Walks.cast (Walks.strWide (A:=A) cL s.heap.objs.size x t) hlen) ⟨_,eO _ rfl,rfl,rfl⟩ (fun i h st=>let ⟨o,e,ah,hd⟩:=st;⟨o,_,e,ah,hd⟩) (by decide) fS (fun b h4=>nomatch h4) (fun i p v bh h aB k2 bF lU=>bS i p v bh h aB k2)
   exact k _ _ _ t1 a4
  ·refine wpAny_pyIter_ascii aJ ?_
   obtain ⟨t1,a4⟩:=wq (own:=own) (ty:="str_ascii_iterator") (tgt:=tgt) (items:=x.cps.toList.map fun c=> .str ⟨#[c]⟩) (ax:=[]) (t:=s.toks) d _ s.heap.objs.size (iD _) (aX "str_ascii_iterator") (eO _ rfl) rfl (a3 _)
    (Walks.cast (Walks.strAscii (A:=A) cL s.heap.objs.size x t) hlen) ⟨_,eO _ rfl,rfl,rfl⟩ (fun i h st=>let ⟨o,e,ah,hd⟩:=st;⟨o,_,e,ah,hd⟩) (by decide) fS (fun b h4=>nomatch h4) (fun i p v bh h aB k2 bF lU=>bS i p v bh h aB k2)
   exact k _ _ _ t1 a4
theorem WV {own:Bool} {r:au} {a b:Int} {t u z:Tok} (cL:A.handled=none) (d:aL T g w s) (a7:IsRange s.heap r a b 1 t u z) (aJ:small a=true) (aa:small b=true) (fS:(isName tgt||jJ tgt)=true):
  aK T A (pyIter (.ref r)) g s (jz T A own tgt s w (intsFrom a (b-a).toNat)):=by
 intro E Q k
 have J:=of_decide_eq_true aJ
 have U:=of_decide_eq_true aa
 refine wpAny_pyIter_range a7 (small_one (Gd (sF (by decide) (nb J).1)) (sF (nb J).2 (by decide)) (Gd (sF (by decide) (nb U).1)) (sF (nb U).2 (by decide))) ?_
 have aX: ∀aZ o,s.heap.get? aZ=some o→(s.heap.push {cls:= .type "range_iterator",data:= .fields #[rawInt a,rawInt (N' a b 1),rawInt 1]}).get? aZ=some o:=fun b o e=>eE _ e
 have hlen:(b-a).toNat=(intsFrom a (b-a).toNat).length:=by simp[intsFrom]
 have r8:IsRangeIter (s.heap.push {cls:= .type "range_iterator",data:= .fields #[rawInt a,rawInt (N' a b 1),rawInt 1]}) s.heap.objs.size (a+((0:Nat):Int)*1) (((b-a).toNat:Int)-((0:Nat):Int)) 1:=by
  have aF:a+((0:Nat):Int)*1=a:=by simp
  have aE:((b-a).toNat:Int)-((0:Nat):Int)=N' a b 1:=by rw[rangeSize_nat];rfl
  rw[aF,aE]
  exact eO _ rfl
 have bS: ∀(i:Nat) p v (bh:G) (h:aR),(intsFrom a (b-a).toNat)[i]?=some p→(∃t,v= .int (a+i*1) t)→Is bh.B bh.aA h p v:=by
  rintro i p v bh h aB ⟨gD,rfl⟩
  unfold intsFrom at aB
  rw[dF] at aB
  obtain ⟨j,aP,rfl⟩:=o9.mp aB
  obtain ⟨av,a0⟩:=hW.mp aP
  rw[List.getElem_range] at a0
  subst a0
  rw[Int.mul_one]
  exact .int _ _
 obtain ⟨t1,a4⟩:=wq (own:=own) (ty:="range_iterator") (tgt:=tgt) (items:=intsFrom a (b-a).toNat) (ax:=[]) (t:=s.toks) d _ s.heap.objs.size (iD _) aX (eO _ rfl) rfl (a3 _)
  (Walks.cast (Walks.range (A:=A) cL s.heap.objs.size a 1 (b-a).toNat) hlen) r8 (fun i h st=>⟨_,_,st,rfl,rfl⟩) (by decide) fS (fun b h4=>nomatch h4) (fun i p v bh h aB k2 bF lU=>bS i p v bh h aB k2)
 exact k _ _ _ t1 a4
end
section
variable {T:bE} {K:au→Prop} {cx:a'} {env:Env} {σ σ':ar} {A:bO} {g g' fh gw:G} {w w':W} {s s' fq:aw} {n:Nat} {tgt:Expr}
theorem aK.dropped {t:Sem af} {r:I} (d:aL T g w s)
  (h: ∀(E:af→aw→Prop) (Q:af→aw→Prop),(∀v h' aU,(∀b o,s.heap.get? b=some o→h'.get? b=some o)→(∀mf,Is g.B g.aA mf r v)→Q v {s with heap:=h',toks:=aU})→bc (bo T.prog T.w) A t Q E s):aK T A t g s (Res T w r):=
 fun E Q k=>k5 (a3 _) (h (fun e s'=>s.toks≤s'.toks→E e s') (fun a s'=>s.toks≤s'.toks→Q a s') fun v h' aU aX i hle=>
  k g _ v (.grow (dr:=s.drawn) aX hle) ⟨d.grow aX hle,i h'⟩)
theorem IsL.sums {B:au→Prop} {aA:List c3} {h:aR} {l:List I}: ∀{vs:List af} {n:Int},IsL B aA h l vs→nP l=some n→ ∃ns:List Int,IntsAre vs ns∧ns.sum=n:=by
 induction l with
 |nil=>exact fun x e=>x.iJ▸⟨[],.nil,inj e⟩
 |cons p l ay=>
  exact fun x e=>aN e fun i aB e=>iB e fun m hm e=>e5 x.gE fun u vs fH F2 r=>b5 (ay r hm) fun ns J U=>en (kH aB▸F2:Is B aA h (.int i) u).jS fun t gh=>⟨i::ns,fH▸gh▸ .cons _ _ J,by rw[xD,U,e]⟩
theorem aau (ns:List Int):preSum (fun i=>ns.getD i 0) ns.length=ns.sum:=by
 have key: ∀k,k≤ns.length→preSum (fun i=>ns.getD i 0) k=(ns.take k).sum:=by
  intro k
  induction k with
  |zero=>intro _;simp[preSum]
  |succ k ay=>
   intro aj
   rw[preSum,ay (by exact i9 aj),List.take_succ_eq_append_getElem (by exact Gg aj),List.sum_append]
   simp[iL,hy (show k<ns.length by exact Gg aj)]
 rw[key _ (a3 _),xE]
theorem WJ {vs:List af} {ns:List Int} (h:IntsAre vs ns): ∀{i:Nat} {v:af},vs[i]?=some v→ ∃t,v= .int (ns.getD i 0) t:=by
 induction h with
 |nil=>intro i v e;simp at e
 |cons a b h ay=>
  intro i v e
  cases i with
  |zero=>simp at e;subst e;exact ⟨b,by rfl⟩
  |succ i=>obtain ⟨t,bP⟩:=ay (i:=i) (by simpa using e);exact ⟨t,by simpa using bP⟩
theorem Rd {A:bO} {P:Nat→af→Prop} (val:Nat→UInt64) (we: ∀i v,P i v→ ∃t,v= .float (val i) t):CmpOf T.prog T.w A .Gt P (fun i j=>nq (val i) (val j)):=fun i j FV FX s Q E aB aP h=>by
 obtain ⟨t,rfl⟩:=we i FV aB
 obtain ⟨u,rfl⟩:=we j FX aP
 exact aeo (prog:=T.prog) (w:=T.w) (a:=val i) (b:=val j) (t:=t) (u:=u) h
theorem Rf {A:bO} {P:Nat→af→Prop} (val:Nat→UInt64) (we: ∀i v,P i v→ ∃t,v= .float (val i) t):CmpOf T.prog T.w A .Lt P (fun i j=>vI (val i) (val j)):=fun i j FV FX s Q E aB aP h=>by
 obtain ⟨t,rfl⟩:=we i FV aB
 obtain ⟨u,rfl⟩:=we j FX aP
 exact aen (prog:=T.prog) (w:=T.w) (a:=val i) (b:=val j) (t:=t) (u:=u) h
theorem P0 (l7:Nat→Nat→Bool):argBest l7 2=if l7 2 (if l7 1 0 then 1 else 0) then 2 else (if l7 1 0 then 1 else 0):=by rfl
noncomputable def three (a b c:UInt64):Nat→UInt64:=fun i=>if i=0 then a else if i=1 then b else c
theorem Bc {a b c:UInt64} {t u x:Tok} {i:Nat} {v:af} (h:(#[Value.float a t,.float b u,.float c x]:Array af)[i]?=some v): ∃k,v= .float (three a b c i) k∧(k=t∨k=u∨k=x):=by
 match i,h with
 |0,h=>cases h;exact ⟨t,rfl,.inl rfl⟩
 |1,h=>cases h;exact ⟨u,rfl,.inr (.inl rfl)⟩
 |2,h=>cases h;exact ⟨x,rfl,.inr (.inr rfl)⟩
 |i+3,h=>simp at h
theorem Le {a b c:af} {op:js} (cL:A.handled=none) {E:af→aw→Prop} {Q:af→aw→Prop} (l7:Nat→Nat→Bool) (ah:CmpOf T.prog T.w A.in1 op (fun i v=>(#[a,b,c]:Array af)[i]?=some v) l7)
  (q: ∀v h' aU,(#[a,b,c]:Array af)[argBest l7 2]?=some v→(∀b o,s.heap.get? b=some o→h'.get? b=some o)→Q v {s with heap:=h',toks:=aU}):
  bc (bo T.prog T.w) A.in1 (pyIter (.ref s.heap.objs.size)) (fun it br=> ∃az c9 wr n P St l7,it= .ref az∧Walks T.prog T.w A.in1 az c9 wr n P St∧St 0 br.heap∧(∀b∈c9,b<br.heap.objs.size)∧0<n∧CmpOf T.prog T.w A.in1 op P l7∧
   ∀v h' aU,P (argBest l7 (n-1)) v→(∀b o,b∉wr→br.heap.get? b=some o→h'.get? b=some o)→Q v {br with heap:=h',toks:=aU}) E
   {s with heap:=s.heap.push {cls:= .type "tuple",data:= .seq #[a,b,c]}}:=by
 have cB:(s.heap.push {cls:= .type "tuple",data:= .seq #[a,b,c]}).IsTuple s.heap.objs.size #[a,b,c]:=⟨_,eO _ rfl,rfl,0,rfl⟩
 refine wpAny_pyIter_tuple cB ?_
 have hsz:(s.heap.push {cls:= .type "tuple",data:= .seq #[a,b,c]}).objs.size=s.heap.objs.size+1:=pa ..
 refine ⟨_,[_,s.heap.objs.size],[_],_,_,_,l7,rfl,Walks.tuple (A:=A.in1) cL _ s.heap.objs.size (by rw[hsz];exact jX (gF _)) #[a,b,c],
  ⟨⟨_,eO _ rfl,rfl,rfl⟩,cB.push _⟩,fun d hd=> ?_,by exact aez rfl,ah,fun v h' aU bS aj=> ?_⟩
 ·show d<((s.heap.push _).push _).objs.size
  rw[pa,hsz]
  rcases d3.mp hd with rfl|hd
  ·rw[hsz];exact gF _
  ·rcases d3.mp hd with rfl|hd
   ·exact mV (gF _)
   ·cases hd
 ·refine q v h' aU bS fun d o e=> ?_
  refine aj d o (fun hm=> ?_) (eE _ (eE _ e))
  rcases d3.mp hm with aF|hm
  ·have:=k8 e;rw[aF,hsz] at this;exact nT _ (G6 this)
  ·cases hm
theorem hX.gE {h:aR} {p:I} {l:List I} {us:List af} (aW:hX T g h (p::l) us): ∃u vs,us=u::vs∧Lk T g h p u∧hX T g h l vs:=by
 cases aW with|cons x r=>exact ⟨_,_,rfl,x,r⟩
theorem hX.one {h:aR} {p:I} {us:List af} (aW:hX T g h [p] us): ∃u,us=[u]∧Lk T g h p u:=e5 aW.gE fun u vs e x r=>⟨u,by cases r;exact e,x⟩
theorem hX.three {h:aR} {a b c:I} {us:List af} (aW:hX T g h [a,b,c] us): ∃u v z,us=[u,v,z]∧Lk T g h a u∧Lk T g h b v∧Lk T g h c z:=
 e5 aW.gE fun u vs e x r=>e5 r.gE fun v vs aE y r=>b5 r.one fun z cb r=>⟨u,v,z,cb▸aE▸e,x,y,r⟩
theorem Nd {a b c:UInt64} (F:UInt64→UInt64→Bool):three a b c (argBest (fun i j=>F (three a b c i) (three a b c j)) 2)=(let m:=if F b a then b else a;if F c m then c else m):=by
 rw[P0]
 show three a b c (if F c (three a b c (if F b a then 1 else 0)) then 2 else if F b a then 1 else 0)=if F c (if F b a then b else a) then c else if F b a then b else a
 cases F b a with
 |true=>exact apply_ite ..
 |false=>exact apply_ite ..
theorem Nk {ps:List I} {x:UInt64×UInt64×UInt64} (h:FL ps=some x):ps=[.ao x.1,.ao x.2.1,.ao x.2.2]:=by
 cases ps with
 |nil=>exact (nn h).elim
 |cons a r=>
  cases r with
  |nil=>exact (nn h).elim
  |cons b r=>
   cases r with
   |nil=>exact (nn h).elim
   |cons c r=>
    cases r with
    |nil=>exact aN h fun p J h=>aN h fun q U h=>aN h fun r av h=>by rw[←inj h,u5 J,u5 U,u5 av]
    |cons=>exact (nn h).elim
theorem XM {ps:List I} {r:I} {us:List af} (h:KO ps=some r) (d:aL T g w s) (aW:hX T g s.heap ps us):aK T A (call (.builtin "len") us []) g s (Res T w r):=
 aN h fun v aQ J=>aN J fun m hm U=>by
  clear h J
  obtain rfl:=qk aQ
  obtain ⟨u,rfl,x⟩:=aW.one
  have hle:=ck U
  refine inj (cA U)▸ .val d fun E Q k=> ?_
  have is:=x.is (p:=v)
  cases v with
  |str y=>
   obtain ⟨t,rfl⟩:=(is nofun).h8
   exact P.len_str (by have:=inj hm;lia) (inj hm▸k _ _ (.int _ _))
  |list l=>
   obtain ⟨a,vs,rfl,ai,ill⟩:=x.qe
   have e:vs.toArray.size=m:=(eN ..).trans (ill.length.symm.trans (inj hm))
   exact call_len_list ai.eV (by lia) (e▸k _ _ (.int _ _))
  |tup l=>
   obtain ⟨a,vs,rfl,ai,ill⟩:=(is nofun).Np
   have e:vs.toArray.size=m:=(eN ..).trans (ill.length.symm.trans (inj hm))
   exact len_tuple ai (by lia) (e▸k _ _ (.int _ _))
  |_=>exact (nn hm).elim
theorem acz {ps:List I} {r:I} {us:List af} (cL:A.handled=none) (h:M3 ps=some r) (d:aL T g w s) (aW:hX T g s.heap ps us):aK T A (call (.builtin "sum") us []) g s (Res T w r):=
 aN h fun v aQ J=>aN J fun l ai U=>iB U fun m hm e=>by
  clear h J U
  obtain rfl:=qk aQ
  obtain rfl:=yf ai
  obtain ⟨u,rfl,x⟩:=aW.one
  obtain ⟨a,vs,rfl,ai,ill⟩:=x.qe
  refine e▸b5 (ill.sums hm) fun ns aB aC=> .dropped d fun E Q k=>call_sum_walkG (N8 ai.eV ?_)
  have dd:a<s.heap.objs.size:=ai.elim fun o aV=>k8 aV.1
  refine ⟨_,[_,a],[_],_,_,_,fun i=>ns.getD i 0,rfl,Walks.list (A:=A.in1) cL _ a (jX dd) vs.toArray,⟨⟨_,eO _ rfl,rfl,rfl⟩,ai.eV.push _⟩,fun b aa=> ?_,fun i v k2=>WJ aB (by simpa using k2),fun h' aU gD aX=> ?_⟩
  ·rw[pa]
   exact (d3.mp aa).elim (fun e=>e▸gF _) fun aa=>fs.mp aa▸mV dd
  ·rw[eN,aB.length,aau,aC]
   exact k _ h' aU (fun b o e=>aX b o (fun z=>jX (k8 e) (fs.mp z)) (eE _ e)) fun _=> .int _ _
theorem WI {ps:List I} {r:I} {us:List af} (h:Kt ps=some r) (d:aL T g w s) (aW:hX T g s.heap ps us):aK T A (call (.type "int") us []) g s (Res T w r):=
 aN h fun v aQ J=>aN J fun x ae U=>by
  clear h J
  obtain rfl:=qk aQ
  obtain rfl:=u5 ae
  obtain ⟨u,rfl,x⟩:=aW.one
  obtain ⟨t,rfl⟩:=(x.is nofun).lT
  unfold truncF at U
  split at U
  ·rename_i hd
   exact .val d fun E Q k=>call_int_float hd (k _ _ (.fx (.int _ _) U))
  ·exact (nn U).elim
theorem Yr {ps:List I} {r:I} {us:List af} (cL:A.handled=none) (h:K6 ps=some r) (d:aL T g w s) (aW:hX T g s.heap ps us):aK T A (call (.builtin "max") us []) g s (Res T w r):=
 aN h fun ⟨a,b,c⟩ ae J=>by
  clear h
  obtain rfl:=Nk ae
  obtain ⟨u,v,z,rfl,x,y,z⟩:=aW.three
  obtain ⟨t,rfl⟩:=(x.is nofun).lT
  obtain ⟨u,rfl⟩:=(y.is nofun).lT
  obtain ⟨v,rfl⟩:=(z.is nofun).lT
  refine inj J▸ .dropped d fun E Q k=>call_max_three (Le cL (fun i j=>nq (three a b c i) (three a b c j)) (Rd (three a b c) fun i v h=>let ⟨k,e,_⟩:=Bc h;⟨k,e⟩) fun v h' aU oG aX=>k v h' aU aX fun mf=> ?_)
  obtain ⟨eL,rfl,oC⟩:=Bc oG
  exact Nd nq▸ .ao _ _
theorem YG {ps:List I} {r:I} {us:List af} (cL:A.handled=none) (h:Ld ps=some r) (d:aL T g w s) (aW:hX T g s.heap ps us):aK T A (call (.builtin "min") us []) g s (Res T w r):=
 aN h fun ⟨a,b,c⟩ ae J=>by
  clear h
  obtain rfl:=Nk ae
  obtain ⟨u,v,z,rfl,x,y,z⟩:=aW.three
  obtain ⟨t,rfl⟩:=(x.is nofun).lT
  obtain ⟨u,rfl⟩:=(y.is nofun).lT
  obtain ⟨v,rfl⟩:=(z.is nofun).lT
  refine inj J▸ .dropped d fun E Q k=>call_min_three (Le cL (fun i j=>vI (three a b c i) (three a b c j)) (Rf (three a b c) fun i v h=>let ⟨k,e,_⟩:=Bc h;⟨k,e⟩) fun v h' aU oG aX=>k v h' aU aX fun mf=> ?_)
  obtain ⟨eL,rfl,oC⟩:=Bc oG
  exact Nd vI▸ .ao _ _
noncomputable def G' (T:bE) (f:Str) (ps:List I) (r:I):Prop:=
 ∃b,bootBuiltins f=some b∧T.c7 f=none∧((∃id,b= .builtin id)∨ ∃t,b= .type t)∧f≠("__name__":Str)∧ ∀{A:bO} {g:G} {w:W} {s:aw} {us:List af},A.handled=none→aL T g w s→hX T g s.heap ps us→aK T A (call b us []) g s (Res T w r)
theorem vc {f:Str} {y:String} {b:af} {ps:List I} {r:I} (hf:dT f y=true) (J:bootBuiltins (ab y)=some b) (U:(["len","sum","max","min","abs","int","range","enumerate","sorted","set","iter"]:List Str).contains (ab y)=true)
  (av:(∃id,b= .builtin id)∨ ∃t,b= .type t) (a0:ab y≠("__name__":Str)) (bp: ∀{A:bO} {g:G} {w:W} {s:aw} {us:List af},A.handled=none→aL T g w s→hX T g s.heap ps us→aK T A (call b us []) g s (Res T w r)):G' T f ps r:=
 jm hf▸⟨b,J,T.yr _ U,av,a0,bp⟩
theorem Qk {f:Str} {ps:List I} {r:I} (h:gd f ps=some r):G' T f ps r:=
 hp h (fun hf h=>vc hf (by kernel_rfl) (by decide+kernel) (.inl ⟨_,rfl⟩) (by decide+kernel) fun _ d aW=>XM h d aW) fun _ h=>
 hp h (fun hf h=>vc hf (by kernel_rfl) (by decide+kernel) (.inl ⟨_,rfl⟩) (by decide+kernel) fun cL d aW=>acz cL h d aW) fun _ h=>
 hp h (fun hf h=>vc hf (by kernel_rfl) (by decide+kernel) (.inr ⟨_,rfl⟩) (by decide+kernel) fun cL d aW=>WI h d aW) fun _ h=>
 hp h (fun hf h=>vc hf (by kernel_rfl) (by decide+kernel) (.inl ⟨_,rfl⟩) (by decide+kernel) fun cL d aW=>Yr cL h d aW) fun _ h=>
 hp h (fun hf h=>vc hf (by kernel_rfl) (by decide+kernel) (.inl ⟨_,rfl⟩) (by decide+kernel) fun cL d aW=>YG cL h d aW) fun _ h=>(nn h).elim
end
section
variable {T:bE} {K:au→Prop} {cx:a'} {env:Env} {σ σ':ar} {A:bO} {g g' fh gw:G} {w w':W} {s s' fq:aw} {n:Nat} {tgt:Expr}
open PySem.Builtin PySem.Builtin.Str in
theorem Up (x y:Str) (i j:Int) (t u v z:Tok):Gives («str.find» ⟨[.str x t,.str y u,.int i v,.int j z],[]⟩) (.int (match occurrences x y (fromIndex x.length i) (min (fromIndex x.length j) x.length) 1 with|k::_=>(k:Int)|[]=> -1)):=by
 show Gives (match occurrences x y (fromIndex x.length i) (min (fromIndex x.length j) x.length) 1 with|k::_=>retInt k|[]=>(do rule "str.find.not-found";retInt (-1))) _
 cases occurrences x y (fromIndex x.length i) (min (fromIndex x.length j) x.length) 1 with
 |nil=>exact .rule (.of_eq rfl)
 |cons k _=>exact .of_eq rfl
theorem IsL.strs {B:au→Prop} {aA:List c3} {h:aR} {l:List I}: ∀{vs:List af} {ts:List Str},IsL B aA h l vs→r' l=some ts→ ∃dM:List (Str×Tok),vs=strValues dM∧dM.map (·.1)=ts:=by
 induction l with
 |nil=>exact fun x e=>⟨[],x.iJ,inj e⟩
 |cons p l ay=>
  exact fun x e=>aN e fun y bl e=>iB e fun m hm e=>e5 x.gE fun u vs fH F2 r=>b5 (ay r hm) fun dM J U=>en (pG bl▸F2:Is B aA h (.str y) u).h8 fun t gh=>⟨(y,t)::dM,by rw[fH,gh,J];rfl,by rw[fD,U,e]⟩
noncomputable def sN (T:bE) (m:Str) (x:I) (ps:List I) (r:I):Prop:=
 ∃ty id,PlainAttrs ty∧_root_.PySem.Slot ty m id∧typeOf (.builtin id)=pure (.type "method_descriptor")∧
  (∀{g:G} {h:aR} {v:af} {s:aw},s.heap=h→Lk T g h x v→s.TypeIs v ty∧ ∀a,v= .ref a→ ∃qj,h.get? a=some qj∧qj.dict=none)∧
  (∀{n:Nat} {A:bO} {g:G} {s:aw} {w:W} {v:af} {us:List af},Room (n+8) A→aL T g w s→Lk T g s.heap x v→hX T g s.heap ps us→aK T A (call (.builtin id) (v::us) []) g s (Res T w r))
theorem Fx {x:Str} {g:G} {h:aR} {v:af} {s:aw} (e:s.heap=h) (l:Lk T g h (.str x) v):s.TypeIs v "str"∧ ∀a,v= .ref a→ ∃qj,h.get? a=some qj∧qj.dict=none:=by
 cases l.is (by nofun)
 exact ⟨sj _ _ _,fun a q=>by cases q⟩
theorem X5 {x:List I} {g:G} {h:aR} {v:af} {s:aw} (e:s.heap=h) (l:Lk T g h (.list x) v):s.TypeIs v "list"∧ ∀a,v= .ref a→ ∃qj,h.get? a=some qj∧qj.dict=none:=by
 subst e
 obtain ⟨a,vs,rfl,ai,_⟩:=l.qe
 refine ⟨ai.eV.typeIs,fun b q=> ?_⟩
 cases q
 obtain ⟨o,e,_,n,q⟩:=ai
 exact ⟨o,e,by rw[q]⟩
theorem PG {ps:List I} {x:Str×Int×Int} (h:HC ps=some x):ps=[.str x.1,.int x.2.1,.int x.2.2]:=by
 cases ps with
 |nil=>exact (nn h).elim
 |cons a r=>
  cases r with
  |nil=>exact (nn h).elim
  |cons b r=>
   cases r with
   |nil=>exact (nn h).elim
   |cons c r=>
    cases r with
    |nil=>exact aN h fun p J h=>aN h fun q U h=>aN h fun r av h=>by rw[←inj h,pG J,kH U,kH av]
    |cons=>exact (nn h).elim
theorem EK {m:Str} {y:String} {id:String} {x z:Str} {r q:I} (hf:dT m y=true) (J:_root_.PySem.Slot "str" (ab y) id) (U:typeOf (.builtin id)=pure (.type "method_descriptor"))
  (h:some q=some r) (c: ∀{A:bO} {s:aw} {t u:Tok} {E Q:af→aw→Prop},(∀v aU,(∀B aA h,Is B aA h q v)→Q v {s with toks:=aU})→bc (bo T.prog T.w) A (call (.builtin id) [.str x t,.str z u] []) Q E s):sN T m (.str x) [.str z] r:=
 jm hf▸inj h▸⟨"str",id,Gh,J,U,Fx,fun bZ d cO aW=>b5 aW.one fun u e a=>en (cO.is nofun).h8 fun t gh=>en (a.is nofun).h8 fun gD SN=> .val d fun E Q k=>gh▸e▸SN▸c fun v aU i=>k v aU (i _ _ _)⟩
theorem YF {m:Str} {x:Str} {l:List I} {r:I} (hf:dT m "join"=true) (h:joinM x l=some r):sN T m (.str x) [.list l] r:=
 aN h fun ts VZ h=>jm hf▸inj (cA h)▸⟨"str","str.join",Gh,F.slot_str_join,F.type_str_join,Fx,fun {n A g s w v us} bZ d cO aW=>b5 aW.one fun u e a=>en (cO.is nofun).h8 fun t gh=>
  e5 a.qe fun c vs kb ai ill=>b5 (ill.strs VZ) fun dM vr bP=> .val d fun E Q k=>gh▸e▸kb▸SC.join (vr▸ai.eV) bP (ck h) fun gD aU=>k _ _ (.str _ _)⟩
theorem YD {m:Str} {x:Str} {q:Str×Int×Int} {r:I} (hf:dT m "find"=true) (h:I2 x q=some r):sN T m (.str x) [.str q.1,.int q.2.1,.int q.2.2] r:=
 jm hf▸inj h▸⟨"str","str.find",Gh,F.slot_str_find,F.type_str_find,Fx,fun {n A g s w v us} bZ d cO aW=>by
  obtain ⟨a,b,c,rfl,di,hn,kS⟩:=aW.three
  obtain ⟨_,rfl⟩:=(cO.is nofun).h8
  obtain ⟨_,rfl⟩:=(di.is nofun).h8
  obtain ⟨_,rfl⟩:=(hn.is nofun).jS
  obtain ⟨_,rfl⟩:=(kS.is nofun).jS
  exact .val d fun E Q k=>call_gives F.slot_str_find (sj _ _ _) F.entry_str_find (F.args_str_find_4 _ _ _ _) (Up _ _ _ _ _ _ _ _) (k _ _ (.int _ _))⟩
theorem Wq {n j:Nat} {a:Option i7} {b:Option (List i7)} {G:Prop} (h:D7 n a b=some j) (k: ∀d ds,a=some d→b=some ds→shaped d=true→shaped (.list ds)=true→n≤1048576→(ds.findIdx? fun y=>i8 y d)=some j→G):G:=by
 cases a with
 |none=>exact (nn h).elim
 |some d=>cases b with
  |none=>exact (nn h).elim
  |some ds=>
   have aC:=g7.mp (ck h)
   have kQ:=g7.mp aC.1
   exact k d ds rfl rfl kQ.1 kQ.2 (of_decide_eq_true aC.2) (cA h)
theorem YE {m:Str} {l:List I} {y r:I} (hf:dT m "index"=true) (h:((idxOf y l).map fun (n:Nat)=>I.int n)=some r):sN T m (.list l) [y] r:=
 iB h fun j aP e=>Wq aP fun dx ds aF aE kQ VP age tq=>jm hf▸e▸⟨"list","list.index",aeA,aeB,F.type_list_index,X5,fun {n A g s w v us} bZ d cO aW=>by
  obtain ⟨u,rfl,a⟩:=aW.one
  obtain ⟨c,vs,rfl,ai,ill⟩:=cO.qe
  refine en (a.reads aF) fun as gB=>en (IsL.reads ill aE) fun bs fo=>b5 ai fun o aV ah=>gZ ah.2 fun nn vw=> ?_
  have zh:Gi ds=true:=xy VP
  have dh:=bZ.units
  have J4:=readsAll_map ds vs bs zh fo
  have gy:=List.findIdx?_eq_some_iff_getElem.mp tq
  have hlen:vs.length=ds.length:=by rw[←J4,bV]
  have Ke: ∀(k:Nat) (J:k<vs.length) (U:k<ds.length),readOf s.heap vs[k]=ds[k]:=fun k J U=>by
   have:=congrArg (·[k]?) J4
   simp only[dF,hy J,hy U,Gk,Ob] at this
   exact this
  subst vw
  refine .val d fun E Q k=>xF aeB ⟨_,aV,rfl⟩ F.entry_list_index (F.args_list_index_2 _ _)
   (list_indexAt c vs.toArray nn none #[] _ (fun y=>i8 (readOf s.heap y) dx) j (by rw[eN,hlen];exact gy.elim fun q _=>q) (by have:=ill.length;lia) ?_ fun m hm dd=> ?_) ⟨aV,items_eqAt (by simpa using fo) gB zh (xy kQ) (N1 kQ (by exact aH (bL dh))),k _ _ (.int _ _)⟩
  ·exact (congrArg (i8 · dx) (Ke j (by rw[hlen];exact gy.elim fun q _=>q) (gy.elim fun q _=>q))).trans (gy.elim fun _ q=>q.1)
  ·have hm:m<vs.length:=by rw[←eN];exact hm
   exact (congrArg (i8 · dx) (Ke m hm (by rw[←hlen];exact hm))).trans (any_false (gy.elim fun _ q=>q.2 m dd))⟩
theorem YB {m:Str} {x r:I} {ps:List I} (h:methP m x ps=some r):sN T m x ps r:=
 hp h (fun hf h=>aN h fun l ai h=>aN h fun y bl h=>yf ai▸qk bl▸YE hf h) fun _ h=>
 aN h fun x ae h=>pG ae▸hp h (fun hf h=>aN h fun q aG h=>PG aG▸YD hf h) fun _ h=>
 aN h fun y bl h=>qk bl▸hp h (fun hf h=>aN h fun l ai h=>yf ai▸YF hf h) fun _ h=>
 aN h fun z a6 h=>pG a6▸hp h (fun hf h=>EK hf F.slot_str_startswith F.type_str_startswith h fun {A s t u E Q} k=>SC.startswith (k _ s.toks fun _ _ _=> .bool _)) fun _ h=>
 hp h (fun hf h=>EK hf F.slot_str_endswith F.type_str_endswith h fun {A s t u E Q} k=>SC.endswith (k _ s.toks fun _ _ _=> .bool _)) fun _ h=>
 hp h (fun hf h=>EK hf F.slot_str_count F.type_str_count h fun k=>SC.count (k _ _ fun _ _ _=> .int _ _)) fun _ h=>(nn h).elim
end
section
variable {T:bE} {K:au→Prop} {cx:a'} {env:Env} {σ σ':ar} {A:bO} {g g' fh gw:G} {w w':W} {s s' fq:aw} {n:Nat} {tgt:Expr}
theorem vz: ∀{n:Nat} {es:List Expr} {w:W} {r:List I×W} (pos:Pos),d5 n cx es σ w=some r→(backTo pos (starEach es env)).any (·.1)=false:=by
 intro n
 induction n with
 |zero=>intro _ _ _ _ h;exact (nn h).elim
 |succ n ay=>
  intro es w r pos h
  cases es with
  |nil=>rfl
  |cons e es=>exact aN h fun x J h=>aN h fun y U h=>ui (es:=es) (env:=env) (yJ J)▸ay pos U
theorem LV: ∀{n:Nat} {es:List Expr} {w:W} {r:List I×W} (pos:Pos),hN n cx es σ w=some r→(backTo pos (starEach es env)).any (·.1)=false:=by
 intro n
 induction n with
 |zero=>intro _ _ _ _ h;exact (nn h).elim
 |succ n ay=>
  intro es w r pos h
  cases es with
  |nil=>rfl
  |cons e es=>exact aN h fun x J h=>aN h fun y U h=>ui (es:=es) (env:=env) (LW J)▸ay pos U
theorem pF {trees:List (Bool×Sem af)} {f:af} {P:G→aw→List af→Prop} (ag:trees.any (·.1)=false) (h:aK T A (spliced trees) g s P) {E:af→aw→Prop} {Q:Args→aw→Prop}
  (q: ∀g' s' us,bK T g s g' s'→P g' s' us→Q ⟨us,[]⟩ s'):bc (bo T.prog T.w) A (evalArgs f true trees []) Q E s:=by
 cases trees with
 |nil=>
  unfold evalArgs
  show bc _ A (spliced []>>=_) Q E s
  refine aM (h E _ fun g' s' us x y=>aM (b6 ?_))
  refine g8 ?_
  exact aM (b6 (aM (b6 (b6 (q g' s' us x y)))))
 |cons x r=>
  obtain ⟨b,t⟩:=x
  have aa:b=false:=by cases b with|false=>rfl|true=>simp at ag
  subst aa
  exact Gl (h E _ q)
theorem q7 {o:Expr} {name:Str} {t:Sem af} (h:baseOk o=true):attributeBase o name env t=t:=by
 cases o with
 |Call f as dI p=>cases f with
  |Name=>cases as with
   |nil=>cases dI with
    |nil=>exact (hB h).elim
    |cons=>rfl
   |cons=>rfl
  |_=>rfl
 |_=>rfl
theorem yS {as:List Expr} {pos:Pos} (h:as.length<20) (ag:(backTo pos (starEach as env)).any (·.1)=false):
  ((backTo pos (starEach as env)).all (fun x=> !x.1)&&(backToKw pos (keywordEach [] env)).all (fun x=>x.1.isSome)
   &&decide (as.length+([]:List sh).length+(if ([]:List sh).isEmpty then 0 else 1)<30))=true:=by
 have J:(backTo pos (starEach as env)).all (fun x=> !x.1)=true:=by
  rw[List.all_eq_not_any_not]
  simp only[Bool.not_not]
  rw[ag];rfl
 exact g7.mpr ⟨g7.mpr ⟨J,rfl⟩,decide_eq_true (show as.length+0+0<30 by exact iA h rfl)⟩
theorem YC (S:cU T n) {o:Expr} {m:Str} {ap pos:Pos} {as:List Expr} {x r:I} {ps:List I} {w1 h9:W} (aa:baseOk o=true) (ai:(ap.endLine==pos.line)=true) (aT:as.length<20)
  (J:c8 n cx o σ w=some (x,w1)) (U:hN n cx as σ w1=some (ps,h9)) (M:sN T m x ps r) (i:cD T cx env σ A g w s):aK T A (eval (.Call (.Attribute o m ap) as [] pos) env) g s (Res T h9 r):=
 have ag:=LV (env:=env) pos U
 gT M fun ty id M E Q k=>Oc (q7 aa) (yS aT ag) ai (S.c8 J i E _ fun g1 s1 kY t1 a4=>
  ⟨ty,id,M.1,M.2.1,M.2.2.1,(M.2.2.2.1 rfl a4.2).1,(M.2.2.2.1 rfl a4.2).2,Bz ag (pF ag (S.hN U pos (i.a5 t1 a4.1)) fun g2 s2 us t2 bH=>
   M.2.2.2.2 (n:=0) (i.bZ.less (by exact ib _ _)) bH.1 (a4.2.a5 t2 a4.1) bH.2 E Q fun g3 s3 v t3 gk=>k g3 s3 v ((t1.trans t2).trans t3) gk)⟩)
open PySem.Builtin PySem.Builtin.Str in
theorem ab6 {x y:Str} {t u:Tok} (d:aL T g w s) (bl:(y.length==0)=false) (ae:x.length≤1048576) (aT:(partsBetween x (occurrences x y 0 x.length (x.length+1)) y.length).length≤1048576):
  aK T A (call (.builtin "str.split") [.str x t,.str y u] []) g s (j2 T s w ((qC x y).map .str)):=by
 have rG:x.length≤sizeLine:=c5 ae (by decide)
 have tB:=c5 aT (show 1048576≤sizeLine by decide)
 have acq: ∀(l:List (Str×Tok)) (B:au→Prop) (aA:List c3) (h:aR),IsL B aA h ((l.map (·.1)).map .str) (strValues l):=by
  intro l B aA h
  induction l with
  |nil=>exact .nil
  |cons a l ay=>exact .cons (.str _ _) ay
 have own: ∀(l:List (Str×Tok)),l.map (·.1)=qC x y→(∀(E:af→aw→Prop) (Q:af→aw→Prop),(∀a h' aU,s.heap.get? a=none→(∀b o,s.heap.get? b=some o→h'.get? b=some o)→c6 h' a (strValues l).toArray→Q (.ref a) {s with heap:=h',toks:=aU})→bc (bo T.prog T.w) A (call (.builtin "str.split") [.str x t,.str y u] []) Q E s)→
   aK T A (call (.builtin "str.split") [.str x t,.str y u] []) g s (j2 T s w ((qC x y).map .str)):=fun l ai h=> .EW d (by rw[←ai];exact acq l _ _ _) h
 cases J:(decide (x.length<y.length)||decide (strKind x<strKind y))
 ·cases hf:(occurrences x y 0 x.length (x.length+1)).isEmpty
  ·refine own (numbered s.toks (partsBetween x (occurrences x y 0 x.length (x.length+1)) y.length)) ((numbered_texts _ _).trans ((if_neg (ne_true_of_eq_false J)).trans (if_neg (ne_true_of_eq_false hf))).symm) fun E Q k=> ?_
   refine xF Gm (sj _ _ _) Od (Oe _ _) (meets_str_split_sep x y t u J bl hf rG tB) ?_
   show wants Q E _ {s with toks:=_,heap:=s.heap.push {cls:= .type "list",data:= .seq (strsFrom s.toks (partsBetween x (occurrences x y 0 x.length (x.length+1)) y.length)).toArray}}
   rw[strsFrom_eq]
   exact k _ _ _ (iD _) (fun b o e=>eE _ e) ⟨_,eO _ rfl,rfl,_,rfl⟩
  ·refine own [(x,t)] (((if_neg (ne_true_of_eq_false J)).trans (if_pos hf)).symm) fun E Q k=> ?_
   exact xF Gm (sj _ _ _) Od (Oe _ _) (meets_str_split_not_found x y t u J bl hf)
    (k _ _ s.toks (iD _) (fun b o e=>eE _ e) ⟨_,eO _ rfl,rfl,_,rfl⟩)
 ·refine own [(x,t)] ((if_pos J).symm) fun E Q k=> ?_
  exact xF Gm (sj _ _ _) Od (Oe _ _) (meets_str_split_cannot_occur x y t u J)
   (k _ _ s.toks (iD _) (fun b o e=>eE _ e) ⟨_,eO _ rfl,rfl,_,rfl⟩)
theorem Zl (S:cU T n) {f:Expr} {as:List Expr} {dI:List sh} {pos:Pos} {l:List I} {w':W} (h:gj (n+1) cx (.Call f as dI pos) σ w=some (l,w')) (i:cD T cx env σ A g w s):aK T A (eval (.Call f as dI pos) env) g s (j2 T s w' l):=
 aN h fun q aG h0=>aN h0 fun x J h0=>aN h0 fun y U h0=>aN h0 fun z av h0=>aN av fun xs ae a0=>aN a0 fun sf We bp=>aN bp fun dV bl bQ=>hG (ab3 aG) fun m ap R4 jE R8 ah=>by
  clear h av a0 bp aG
  subst R4 jE R8
  rw[jm (eS ah)]
  have ag:=vz (env:=env) pos U
  refine Jp h0 fun E Q k=>Oc (q7 (dZ (dZ ah))) (yS (show 1<20 from by decide) ag) (eS (dZ ah)) (S.ev J i E _ fun g1 s1 kY t1 a4=> ?_)
  obtain ⟨t,rfl⟩:=(pG ae▸a4.2).h8
  refine ⟨"str","str.split",Gh,Gm,F.type_str_split,sj _ _ _,(fun a q=>by cases q),Bz ag (pF ag (S.d5 U pos (i.a5 t1 a4.1)) fun g2 s2 us t2 bH=> ?_)⟩
  refine e5 ((pG bl▸qk We)▸bH.2:IsL g2.B g2.aA s2.heap [.str dV] us).gE fun u vs fH eW cw=>gZ eW.h8 fun gD gh=> ?_
  have SQ:us=[.str dV gD]:=by rw[fH,gh,cw.iJ]
  have aj:=ck bQ
  exact SQ▸ab6 bH.1 aj.1 aj.2.1 aj.2.2 E Q fun g3 s3 v t3 gk=>k g3 s3 v ((t1.trans t2).trans t3) (inj (cA bQ)▸gT gk fun c us r=>⟨c,us,r.1,(t1.trans t2).none r.2.1,r.2.2⟩)
theorem Qj (S:cU T n) {f:Str} {p pos:Pos} {as:List Expr} {r:I} {ps:List I} {w1:W} (hf:cx.sc.names.lookup f=some .globalImplicit) (J:hN n cx as σ w=some (ps,w1)) (U:gd f ps=some r) (i:cD T cx env σ A g w s):
  aK T A (eval (.Call (.Name f p) as [] pos) env) g s (Res T w1 r):=by
 have ag:=LV (env:=env) pos J
 intro E Q k
 show bc _ A (do callWith pos (←eval (.Name f p) env) [] (backTo pos (starEach as env)) (backToKw pos (keywordEach [] env))) Q E s
 refine gZ (Qk (T:=T) U) fun b B=>aM (CD i.wd i.fr hf B.2.1 B.2.2.2.1 B.1 ?_)
 have fin: ∀g1 s1 us,bK T g s g1 s1→u2 T w1 ps g1 s1 us→bc (bo T.prog T.w) A (call b us []) Q E s1:=fun g1 s1 us t1 a4=>B.2.2.2.2 i.bZ.handled a4.1 a4.2 E Q fun g2 s2 v t2 bH=>k g2 s2 v (t1.trans t2) bH
 rcases B.2.2.1 with ⟨id,rfl⟩|⟨t,rfl⟩
 ·exact Bz ag (pF ag (S.hN J pos i) fin)
 ·exact aeC ag (pF ag (S.hN J pos i) fin)
theorem TP (S:cU T n) {f:Str} {p pos:Pos} {as:List Expr} {r:I} {ps:List I} {w1 h9:W} {d:iN} (hf:cx.sc.names.lookup f=some .globalImplicit) (hd:cx.dx.fns.find? (fun d=>d.name==f)=some d) (J:d5 n cx as σ w=some (ps,w1)) (U:cn n cx d ps w1=some (r,h9)) (i:cD T cx env σ A g w s):
  aK T A (eval (.Call (.Name f p) as [] pos) env) g s (Res T h9 r):=by
 have ag:=vz (env:=env) pos J
 have Vu:d.name=f:=eq_of_beq (aeD (p:=fun d:iN=>d.name==f) hd)
 have lD:d∈T.dx.fns:=by rw[←i.fr.dx];exact aeE hd
 obtain ⟨_,a,o,pm,code,doc,hm,aV,hk,_⟩:=T.fns d lD
 intro E Q k
 show bc _ A (do callWith pos (←eval (.Name f p) env) [] (backTo pos (starEach as env)) (backToKw pos (keywordEach [] env))) Q E s
 refine aM (y5 i.wd i.fr hf (by rw[←Vu];exact hm) ?_)
 refine callWith_function (o:=o) (fd:=docDef d.name d.params d.body d.scope pm code doc) (pF ag (S.d5 J pos i) fun g1 s1 us t1 a4=>⟨⟨(a4.1.base a o aV).1,hk⟩,?_⟩)
 exact S.cn U lD i.fr.dx a4.1 (i.bZ.less (by exact u4 (b0 rfl) (ib _ _))) a4.2 hm E Q fun g2 s2 v t2 bH=>k g2 s2 v (t1.trans t2) bH
end
section
variable {T:bE} {K:au→Prop} {cx:a'} {env:Env} {σ σ':ar} {A:bO} {g g' fh gw:G} {w w':W} {s s' fq:aw} {n:Nat} {tgt:Expr}
noncomputable def pw (T:bE) (A:bO) (own:Bool) (tgt:Expr) (t:Sem af) (g:G) (s:aw) (w:W) (items:List I):Prop:=
 ∀(E:af→aw→Prop) (Q:af→aw→Prop),(∀g' s' v,bK T g s g' s'→jz T A own tgt s w items g' s' v→Q v s')→bc (bo T.prog T.w) A t (fun x hQ=>bc (bo T.prog T.w) A (pyIter x) Q E hQ) E s
theorem jz.before {own:Bool} {items:List I} {v:af} (t:bK T g s g' s') (h:jz T A own tgt s' w items fh fq v):jz T A own tgt s w items fh fq v:=by
 cases h with
 |mk az c9 wr St d it st J U av=>exact .mk az c9 wr St d it st (fun b aa=>⟨(J b aa).1,t.none (J b aa).2⟩) U av
theorem pw.of {own:Bool} {t:Sem af} {items:List I} {P:G→aw→af→Prop} (h:aK T A t g s P) (c: ∀g' s' v,bK T g s g' s'→P g' s' v→aK T A (pyIter v) g' s' (jz T A own tgt s' w items)):pw T A own tgt t g s w items:=
 fun E Q k=>h E _ fun g1 s1 v t1 a4=>c g1 s1 v t1 a4 E Q fun g2 s2 v2 t2 bH=>k g2 s2 v2 (t1.trans t2) (bH.before t1)
theorem Kz {own:Bool} {p:I} {items:List I} {v:af} (cL:A.handled=none) (fS:(isName tgt||jJ tgt)=true) (h:Ed p=some items) (d:aL T g w s) (l:Lk T g s.heap p v) (b:own=false→Is g.B g.aA s.heap p v):aK T A (pyIter v) g s (jz T A own tgt s w items):=by
 have is:=l.is (p:=p)
 cases p with
 |str=>exact inj h▸WW cL d (is nofun) fS
 |list=>exact inj h▸WT cL d l b fS
 |tup=>exact inj h▸WX cL d (is nofun) fS
 |_=>exact (nn h).elim
theorem WY (S:cU T n) {own:Bool} {e:Expr} {items:List I} {w':W} (fS:(isName tgt||jJ tgt)=true) (h:oK (n+1) own cx e σ w=some (items,w')) (i:cD T cx env σ A g w s):pw T A own tgt (eval e env) g s w' items:=
 aN (oJ h) fun x J h=>aN h fun l ai h=>by
  obtain ⟨x,w1⟩:=x
  cases h
  cases own with
  |true=>exact .of (S.c8 J i) fun g1 s1 v t1 a4=>Kz i.bZ.handled fS ai a4.1 a4.2 nofun
  |false=>exact .of (S.ev J i) fun g1 s1 v t1 a4=>Kz i.bZ.handled fS ai a4.1 (.of a4.2) fun _=>a4.2
theorem SH {l:List I} {i:Nat} {p:I} (h:(rh l)[i]?=some p): ∃q,l[i]?=some q∧p= .tup [.int i,q]:=by
 unfold rh at h
 rw[dF,List.getElem?_zipIdx] at h
 exact iB h fun x ae e=>iB ae fun a aJ aE=>⟨a,aJ,by rw[←e,←aE];simp⟩
theorem SI {e it a:au} {l:List I} {vs:List af} {h J:aR} {oq g1:G} (cL:A.handled=none) (nF:e≠it) (dH:a≠e) (i1:a≠it) (aW:IsL oq.B oq.aA h l vs) (ti:cH oq.B h g1.B J) (tJ:g1.aA=oq.aA) (fS:jJ tgt=true):
  m4 T A tgt g1 J e (rh l) [e,it,a] [e,it] (fun i h=>(∃old,IsEnum h e it i old)∧h.IsListIter it a i∧h.IsList a vs.toArray):=by
 have W:=WalksT.enumerate (prog:=T.prog) (w:=T.w) cL e it a nF dH i1 vs.toArray
 have hlen:(rh l).length=vs.toArray.size:=by simp[rh,aW.length]
 refine ⟨W.sub,fun i h qv b aa=> ?_,W.frame,fun i p bh br ig eR aB qv bF lU q9 dc q=> ?_,fun br ig eR qv q=>W.done br eR ig (hlen▸qv) q,fun i br ig eR qv q=>W.self i br eR ig qv q⟩
 ·exact (d3.mp aa).elim (fun z=>qv.1.elim fun old aF=>⟨_,_,z.symm▸aF,rfl⟩) fun aa=>qv.2.1.elim fun o k=>⟨o,_,(fs.mp aa).symm▸k.1,k.2.2⟩
 ·refine b5 (SH aB) fun kn aG df=>b5 (aW.get aG) fun u dh eW=>W.item i br eR ig (hlen▸(hW.mp aB).1) qv fun x' vals hK aU aQ cB V1 J5 KI=>q _ hK aU KI fun O4 Pk aaB=> ?_
  have DE:=W.apart _ _ _ J5
  have fin: ∀oI,(∀b o,b∉[e,it]→hK.get? b=some o→oI.get? b=some o)→Is bh.B bh.aA oI p (.ref x'):=fun oI wA=>by
   have T':cH oq.B h bh.B oI:=fun b o e n=>
    have a4:=ti b o e n
    have bH:=bF b o a4.1 a4.2
    have nw:=fun z=>bH.2 (dc b z)
    ⟨wA b o nw (KI b o nw bH.1),bH.2⟩
   refine jc aQ fun t x ae ev=>lU.elim fun more e=> ?_
   have Wc:x=u:=inj ((si.symm.trans ae).symm.trans dh)
   rw[df,e,tJ]
   refine .tup (vs:=[.int i t,x]) (fun z=>(q9 _ z).elim fun o e=>absurd (k8 e) (F5.mpr cB)) ?_ (.cons (.int _ _) (.cons (Wc▸eW.bF T' more) .nil))
   exact (ev▸V1).elim fun o r=>⟨o,wA _ o DE r.1,r.2⟩
  cases tgt with
  |Tuple elts c pos=>exact W.go elts c pos i x' _ Pk O4 J5 fun oI acu wA=>aaB oI acu wA (fin oI wA)
  |_=>exact (hB fS).elim
theorem WR {own:Bool} {l:List I} {v:af} (cL:A.handled=none) (d:aL T g w s) (nA:Is g.B g.aA s.heap (.list l) v) (fS:jJ tgt=true) (E:af→aw→Prop) (Q:af→aw→Prop)
  (k: ∀g' s' jo,bK T g s g' s'→jz T A own tgt s w (rh l) g' s' jo→Q jo s'):
  bc (bo T.prog T.w) A (call (.type "enumerate") [v] []) (fun x hQ=>bc (bo T.prog T.w) A (pyIter x) Q E hQ) E s:=by
 cases nA with
 |list nb ai aW=>
  rename_i a vs
  refine call_enumerate_list ai.eV fun h' he hit hsz aX=>wpAny_pyIter_enum he ?_
  have aJ: ∃o,s.heap.get? a=some o:=ai.elim fun o e=>⟨o,e.1⟩
  have dd:a<s.heap.objs.size:=aJ.elim fun o e=>k8 e
  have Zg:s.heap.objs.size+1≠s.heap.objs.size:=aeF _
  have dH:a≠s.heap.objs.size+1:=jX (mV dd)
  have i1:a≠s.heap.objs.size:=jX dd
  clear dd
  have ZD:s.heap.get? s.heap.objs.size=none:=iD _
  have ZE:s.heap.get? (s.heap.objs.size+1)=none:=k9 (nW _)
  generalize s.heap.objs.size+1=pP at*
  generalize s.heap.objs.size=it at*
  have new: ∀b,b∈[pP,it]→s.heap.get? b=none∧ ∃o bk,h'.get? b=some o∧o.data= .fields bk:=fun b aa=>
   (d3.mp aa).elim (fun z=>z.symm▸⟨ZE,_,_,he,rfl⟩) fun aa=>(fs.mp aa).symm▸⟨ZD,hit.elim fun o q=>⟨o,_,q.1,q.2.2⟩⟩
  have st:bK T g s (g.add (·∈[pP,it])) {s with heap:=h'}:= .add (t:=s.toks) (dr:=s.drawn) aX (fun b z=>(new b z).1) (a3 _)
  have ti:=st.bF d
  refine k _ _ _ st (.mk pP [pP,it,a] [pP,it] _ (d.add aX (fun b z=>(new b z).1) (fun b z=>jc (new b z).2 fun o _ e _=>⟨o,e⟩) (a3 _)) (SI cL Zg dH i1 aW ti rfl fS) ⟨⟨_,he⟩,hit,ai.eV.at fun o e=>aX a o e⟩ (fun b aa=>⟨⟨.inr aa,EY d (new b aa).1⟩,(new b aa).1⟩) (fun b aa=> ?_) fun b aa=>(new b aa).2)
  by_cases h4:b∈[pP,it]
  ·exact ⟨jc (new b h4).2 fun o _ e _=>⟨o,e⟩,EY d (new b h4).1,fun _=> .inl h4⟩
  ·have U1:b=a:=(d3.mp aa).elim (fun z=>absurd (z.symm▸eZ ..) h4) fun aa=>(d3.mp aa).elim (fun z=>absurd (e0 _ (fs.mpr z)) h4) fs.mp
   exact U1.symm▸aJ.elim fun o e=>⟨⟨o,aX _ o e⟩,fun z=>nb (d.dc _ z),fun _=> .inr (ti _ o e nb).2⟩
theorem aaE {own:Bool} {vs:List I} {items:List I} {us:List af} (cL:A.handled=none) (fS:(isName tgt||jJ tgt)=true) (h:i4 vs=some items) (d:aL T g w s) (aW:IsL g.B g.aA s.heap vs us) (E:af→aw→Prop) (Q:af→aw→Prop)
  (k: ∀g' s' jo,bK T g s g' s'→jz T A own tgt s w items g' s' jo→Q jo s'):
  bc (bo T.prog T.w) A (call (.type "range") us []) (fun x hQ=>bc (bo T.prog T.w) A (pyIter x) Q E hQ) E s:=by
 have fin: ∀(a b:Int) (t u z:Tok) (aU:Nat),small a=true→small b=true→items=intsFrom a (b-a).toNat→s.toks≤aU→
   bc (bo T.prog T.w) A (pyIter (.ref s.heap.objs.size)) Q E {s with heap:=s.heap.push {cls:= .type "range",data:= .fields #[.int a t,.int b u,.int 1 z]},toks:=aU}:=fun a b t u z aU aJ aa ai aS=>
  have aX: ∀aZ o,s.heap.get? aZ=some o→(s.heap.push {cls:= .type "range",data:= .fields #[.int a t,.int b u,.int 1 z]}).get? aZ=some o:=fun aZ o e=>eE _ e
  have t2:bK T g s g {s with heap:=s.heap.push {cls:= .type "range",data:= .fields #[.int a t,.int b u,.int 1 z]},toks:=aU}:= .grow (dr:=s.drawn) aX aS
  have b4:aL T g w {s with heap:=s.heap.push {cls:= .type "range",data:= .fields #[.int a t,.int b u,.int 1 z]},toks:=aU}:=d.grow aX aS
  WV (own:=own) cL b4 (IsRange.new s.heap a b 1 t u z) aJ aa fS E Q fun g3 s3 v t3 gk=>k g3 s3 v (t2.trans t3) (ai▸gk.before t2)
 clear k d
 cases vs with
 |nil=>exact (nn h).elim
 |cons p r=>
  refine aN h fun a aJ h=>e5 aW.gE fun u vs fH eW cw=> ?_
  obtain ⟨t,rfl⟩:=(kH aJ▸eW).jS
  cases r with
  |nil=>exact fH▸cw.iJ▸call_range_1 (fin 0 a _ _ _ _ (by decide) (ck h) ((inj (cA h)).symm.trans (by rw[sy])) (g4 _ 2))
  |cons q r=>
   refine aN (cA h) fun b aa U=>e5 cw.gE fun nR Bq SO WZ W0=> ?_
   obtain ⟨t2,rfl⟩:=(kH aa▸WZ).jS
   have C4:Bq=[]:=(k7.mp (ck h)▸W0:IsL g.B g.aA s.heap [] Bq).iJ
   exact fH▸SO▸C4▸call_range_2 (fin a b _ _ _ _ (dZ (ck U)) (eS (ck U)) (inj (cA U)).symm (nW _))
theorem HZ (S:cU T n) {own:Bool} {f:Str} {ty:String} {as:List Expr} {p q:Pos} {ps:List I} {w1:W} {items:List I} (hf:(cx.sc.names.lookup f==some .globalImplicit)=true) (aT:f=ab ty) (h0:T.c7 (ab ty)=none) (J:ab ty≠("__name__":Str)) (U:bootBuiltins (ab ty)=some (.type ty))
  (h:d5 n cx as σ w=some (ps,w1)) (i:cD T cx env σ A g w s)
  (c: ∀g1 s1 us (E:af→aw→Prop) (Q:af→aw→Prop),aL T g1 w1 s1→IsL g1.B g1.aA s1.heap ps us→(∀g' s' jo,bK T g1 s1 g' s'→jz T A own tgt s1 w1 items g' s' jo→Q jo s')→bc (bo T.prog T.w) A (call (.type ty) us []) (fun x hQ=>bc (bo T.prog T.w) A (pyIter x) Q E hQ) E s1):
  pw T A own tgt (eval (.Call (.Name f p) as [] q) env) g s w1 items:=by
 have ag:=vz (env:=env) q h
 intro E Q k
 show bc _ A (do callWith q (←eval (.Name f p) env) [] (backTo q (starEach as env)) (backToKw q (keywordEach [] env))) _ E s
 exact aM (CD i.wd i.fr (eq_of_beq hf) (aT▸h0) (aT▸J) (aT▸U) (aeC ag (pF ag (S.d5 h q i) fun g1 s1 us t1 a4=>c g1 s1 us E Q a4.1 a4.2 fun g2 s2 v t2 bH=>k g2 s2 v (t1.trans t2) (bH.before t1))))
theorem Jo {own:Bool} {t:Sem af} {items Ky:List I} (e:some (items,w)=some (Ky,w')) (h:pw T A own tgt t g s w items):pw T A own tgt t g s w' Ky:=by cases e;exact h
theorem KA (S: ∀m,m≤n→cU T m) {own:Bool} {e:Expr} {items:List I} {w':W} (h:mr (n+1) own tgt cx e σ w=some (items,w')) (i:cD T cx env σ A g w s):pw T A own tgt (eval e env) g s w' items:=by
 have Ho:=S n (a3 _)
 have fS:=ck h
 have plain:oK n own cx e σ w=some (items,w')→pw T A own tgt (eval e env) g s w' items:=fun h=>by
  cases n with
  |zero=>exact (nn h).elim
  |succ n=>exact WY (S n (nW _)) fS h i
 refine pO (cA h) (fun _ h=>plain h) fun q aG U=>hp U (fun hf av=> ?_) fun _ av=>hp av (fun hf a0=> ?_) fun _ a0=>plain a0
 ·exact aN (cA av) fun x J bp=>aN bp fun l ai bQ=>gT (CG aG) fun p r e=>e▸Jo bQ (HZ Ho (ck av) (jm hf) (T.yr _ (by decide+kernel)) (by decide+kernel) (by kernel_rfl) J i
   fun g1 s1 us E Q bb aW k=>aaE i.bZ.handled fS ai bb aW E Q k)
 ·exact aN (cA a0) fun x J bp=>aN bp fun l ai bQ=>aN ai fun y bl ai=>iB ai fun dM vV vr=>gT (CG aG) fun p r e=>e▸Jo bQ (HZ Ho (dZ (ck a0)) (jm hf) (T.yr _ (by decide+kernel)) (by decide+kernel) (by kernel_rfl) J i
   fun g1 s1 us E Q bb aW k=>e5 ((yf vV▸qk bl)▸aW:IsL g1.B g1.aA s1.heap [.list dM] us).gE fun u vs fH eW cw=>fH▸cw.iJ▸WR (own:=own) i.bZ.handled bb eW (eS (ck a0)) E Q (vr.symm▸k))
end
noncomputable def h1 (env:Env):List (Str×fB)→List (Str×au)→List (Str×au)
 |[],acc=>acc
 |(n,k)::r,acc=>if k== .free then h1 env r ((n,(env.cells.lookup n).getD 0)::acc) else h1 env r acc
theorem Q4 {scope:Scope} {env:Env} (h: ∀x∈scope.names,x.2= .free→ ∃c,env.cells.lookup x.1=some c):closureFor scope env=pure (h1 env scope.names []):=by
 have key: ∀(names:List (Str×fB)) (acc:List (Str×au)),(∀x∈names,x.2= .free→ ∃c,env.cells.lookup x.1=some c)→
   (forIn names acc fun (x:Str×fB) (r:List (Str×au))=>(if (x.2==NameKind.free)=true then do let c←cellOf env x.1;pure (ForInStep.yield ((x.1,c)::r)) else pure (ForInStep.yield r):Sem (ForInStep (List (Str×au)))))=(pure (h1 env names acc):Sem _):=by
  intro names
  induction names with
  |nil=>intro acc _;rfl
  |cons x r ay=>
   intro acc ae
   obtain ⟨n,k⟩:=x
   rw[Of]
   unfold h1
   dsimp only
   by_cases aj:(k==NameKind.free)=true
   ·obtain ⟨c,ah⟩:=ae (n,k) eZ (eq_of_beq aj)
    have U3:cellOf env n=pure c:=by unfold cellOf;rw[ah]
    rw[if_pos aj,if_pos aj,U3,ah]
    exact ay _ fun x rG=>ae x (e0 _ rG)
   ·rw[if_neg aj,if_neg aj]
    exact ay _ fun x rG=>ae x (e0 _ rG)
 unfold closureFor
 exact congrArg (·>>=fun cs=>pure cs) (key scope.names [] h)
theorem Q3 {env:Env}: ∀{names:List (Str×fB)} {acc:List (Str×au)} {n:Str} {c:au},(∀x∈names,x.2= .free→ ∃c,env.cells.lookup x.1=some c)→(n,c)∈h1 env names acc→(n,c)∈acc∨((n,NameKind.free)∈names∧env.cells.lookup n=some c):=by
 intro bq
 induction bq with
 |nil=>
  intro _ _ _ _ h
  exact .inl h
 |cons hd r ay=>
  obtain ⟨m,k⟩:=hd
  intro acc n c ae h
  unfold h1 at h
  have a7: ∀x∈r,x.2= .free→ ∃c,env.cells.lookup x.1=some c:=fun x rG=>ae x (e0 _ rG)
  by_cases aj:(k==NameKind.free)=true
  ·rw[if_pos aj] at h
   rcases ay a7 h with h|⟨h,e⟩
   ·rcases d3.mp h with e|h
    ·cases e
     obtain ⟨c,ah⟩:=ae (m,k) eZ (eq_of_beq aj)
     refine .inr ⟨?_,by rw[ah];rfl⟩
     rw[eq_of_beq aj];exact eZ
    ·exact .inl h
   ·exact .inr ⟨e0 _ h,e⟩
  ·rw[if_neg aj] at h
   rcases ay a7 h with h|⟨h,e⟩
   ·exact .inl h
   ·exact .inr ⟨e0 _ h,e⟩
theorem Q1 {env:Env}: ∀{names:List (Str×fB)} {acc:List (Str×au)} {x:Str×au},x∈acc→x∈h1 env names acc:=by
 intro bq
 induction bq with
 |nil=>
  intro _ _ h
  exact h
 |cons hd r ay=>
  obtain ⟨m,k⟩:=hd
  intro acc x h
  unfold h1
  split
  ·exact ay (e0 _ h)
  ·exact ay h
theorem Q2 {env:Env}: ∀{names:List (Str×fB)} {acc:List (Str×au)} {n:Str},(n,NameKind.free)∈names→ ∃c,(n,c)∈h1 env names acc:=by
 intro bq
 induction bq with
 |nil=>exact @fun _ _ h=>nomatch h
 |cons hd r ay=>
  obtain ⟨m,k⟩:=hd
  intro acc n h
  unfold h1
  rcases d3.mp h with e|h
  ·cases e
   exact ⟨_,Q1 eZ⟩
  ·split
   ·exact ay h
   ·exact ay h
theorem z6 {α:Type}: ∀{l:List (Str×α)} {n:Str} {c:α},(n,c)∈l→ ∃d0,l.lookup n=some d0:=by
 intro bq
 induction bq with
 |nil=>exact @fun _ _ h=>nomatch h
 |cons hd r ay=>
  obtain ⟨k,v⟩:=hd
  intro n c h
  rw[lW]
  cases aa:n==k with
  |true=>exact ⟨v,rfl⟩
  |false=>
   rcases d3.mp h with e|h
   ·cases e;simp at aa
   ·exact ay h
theorem H9: ∀{names:List (Str×fB)} {lo:Nat} {acc:List (Str×au)} {x:Str×au},x∈acc→x∈cellsFrom lo names acc:=by
 intro bq
 induction bq with
 |nil=>
  intro _ _ _ h
  exact h
 |cons hd r ay=>
  obtain ⟨m,k⟩:=hd
  intro lo acc x h
  unfold cellsFrom
  split
  ·exact ay (e0 _ h)
  ·exact ay h
theorem QC: ∀{names:List (Str×fB)} {h:aR} {acc:List (Str×au)} {n:Str} {c:au},(n,c)∈cellsFrom h.objs.size names acc→(n,c)∈acc∨(h.objs.size≤c∧(pushCells h names).IsCell c none∧(n,NameKind.cell)∈names):=by
 intro bq
 induction bq with
 |nil=>
  intro _ _ _ _ h
  exact .inl h
 |cons hd r ay=>
  obtain ⟨m,k⟩:=hd
  intro h acc n c hm
  unfold cellsFrom at hm
  unfold pushCells
  split at hm
  ·rename_i aj
   rw[if_pos aj]
   have aC:(h.push {cls:= .type "cell",data:= .cell none}).objs.size=h.objs.size+1:=pa ..
   rw[←aC] at hm
   rcases ay hm with hm|⟨J,U,av⟩
   ·rcases d3.mp hm with e|hm
    ·cases e
     refine .inr ⟨a3 _,⟨{cls:= .type "cell",data:= .cell none},Og _ _ _ _ (eO _ rfl),rfl⟩,?_⟩
     rw[eq_of_beq aj];exact eZ
    ·exact .inl hm
   ·rw[aC] at J
    exact .inr ⟨i9 J,U,e0 _ av⟩
  ·rename_i aj
   rw[if_neg aj]
   rcases ay hm with hm|⟨J,U,av⟩
   ·exact .inl hm
   ·exact .inr ⟨J,U,e0 _ av⟩
theorem H': ∀{names:List (Str×fB)} {lo:Nat} {acc:List (Str×au)} {n:Str},(n,NameKind.cell)∈names→ ∃c,(n,c)∈cellsFrom lo names acc:=by
 intro bq
 induction bq with
 |nil=>exact @fun _ _ _ h=>nomatch h
 |cons hd r ay=>
  obtain ⟨m,k⟩:=hd
  intro lo acc n h
  unfold cellsFrom
  rcases d3.mp h with e|h
  ·cases e
   exact ⟨_,H9 eZ⟩
  ·split
   ·exact ay h
   ·exact ay h
theorem QD: ∀{names:List (Str×fB)} {lo lo':Nat} {acc:List (Str×au)} {n qg:Str} {c:au},lo'≤lo→(∀n qg c,lo'≤c→(n,c)∈acc→(qg,c)∈acc→n=qg)→(∀n c,(n,c)∈acc→c<lo)→lo'≤c→(n,c)∈cellsFrom lo names acc→(qg,c)∈cellsFrom lo names acc→n=qg:=by
 intro bq
 induction bq with
 |nil=>
  intro lo lo' _ _ _ _ _ aJ ai ah J U
  exact aJ _ _ _ ah J U
 |cons hd r ay=>
  obtain ⟨m,k⟩:=hd
  intro lo lo' acc n qg c zv aJ ai ah J U
  unfold cellsFrom at J U
  split at J
  ·rename_i aj
   rw[if_pos aj] at U
   refine ay (lo':=lo') (xQ zv) (fun a b c ah x y=> ?_) (fun a c x=> ?_) ah J U
   ·rcases d3.mp x with e|x
    ·cases e
     rcases d3.mp y with e|y
     ·cases e;rfl
     ·exact absurd (ai _ _ y) (nT _)
    ·rcases d3.mp y with e|y
     ·cases e;exact absurd (ai _ _ x) (nT _)
     ·exact aJ _ _ _ ah x y
   ·rcases d3.mp x with e|x
    ·cases e;exact gF _
    ·exact mV (ai _ _ x)
  ·rename_i aj
   rw[if_neg aj] at U
   exact ay zv aJ ai ah J U
theorem Zh {M:Model} {A:bO} {E:af→aw→Prop} {s:aw} {scope:Scope} {env:Env} {globals:au} {cl:List (Str×au)} {qual:Str} {Q:Env→aw→Prop}
  (mh:Q {scope,locals:=s.heap.objs.size,globals,cells:=cellsFrom (s.heap.objs.size+1) scope.names cl,qual,func:=none,code:=env.code,frame:=env.frame,builtins:=env.builtins}
   {s with heap:=pushCells (s.heap.push {cls:= .type "dict",data:= .dict #[]}) scope.names}):
  bc M A (newFunctionEnv scope globals cl [] qual none .none (some env)) Q E s:=by
 simp only[newFunctionEnv,Option.isSome_some,if_true]
 refine aM (wpAny_alloc ?_)
 refine aM (wpAny_layCells _ (fun name kind cells=>by cases tu:kind==NameKind.cell<;>rfl) _ _ _ _ ?_)
 rw[show ({s with heap:=s.heap.push {cls:= .type "dict",data:= .dict #[]}}:aw).heap.objs.size=s.heap.objs.size+1 from pa ..]
 exact aM (b6 (b6 mh))
section
variable {T:bE} {K:au→Prop} {cx:a'} {env:Env} {σ σ':ar} {A:bO} {g g' fh gw:G} {w w':W} {s s' fq:aw} {n:Nat} {tgt:Expr}
theorem cV.but {h':aR} {t:Nat} {wr:List au} (b: ∀b∈wr,cy T g b) (aV: ∀b∈wr,¬K b) (aC: ∀b o,b∉wr→s.heap.get? b=some o→h'.get? b=some o) (aJ: ∀b∈wr,∃o,h'.get? b=some o) (aS:s.toks≤t):cV T K g s g {s with heap:=h',toks:=t} where
 ip aZ o e n:=⟨aC aZ o (fun q=>n (b aZ q).1) e,n⟩
 old aZ o aF aE _:=aC aZ o (fun q=>aV aZ q aF) aE
 lJ _ _ z:=z
 ex aZ o e:=by
  by_cases q:aZ∈wr
  ·exact aJ aZ q
  ·exact ⟨o,aC aZ o q e⟩
 eG:=⟨[],by simp⟩
 ef _ x:= .inl x
 gens:=rfl
 os:=rfl
 aU:=aS
theorem aL.but (d:aL T g w s) {wr:List au} (b: ∀b∈wr,cy T g b) (aC: ∀b o,b∉wr→s.heap.get? b=some o→s'.heap.get? b=some o) (aJ: ∀b∈wr,∃o,s'.heap.get? b=some o) (aS:s.toks≤s'.toks):aL T g w s' where
 aU:=e3 _
 base c o e:=⟨aC c o (fun q=>(d.base c o e).2 (b c q).1) (d.base c o e).1,(d.base c o e).2⟩
 ex c z:=by
  by_cases q:c∈wr
  ·exact aJ c q
  ·obtain ⟨o,e⟩:=d.ex c z;exact ⟨o,aC c o q e⟩
 dc:=d.dc
 tab:=T.lQ d.tab (fun c o e n=>⟨aC c o (fun q=>n (b c q).1) e,n⟩) fun c o z e=>aC c o (fun q=>(b _ q).2 (.inl z)) e
 len:=d.len
 cO i l x aF aE:=T.kl (d.cO i l x aF aE) (fun c o e n=>⟨aC c o (fun q=>n (b c q).1) e,n⟩) fun c o z e=>aC c o (fun q=>(b c q).2 (.inr ⟨l,iK aF,z⟩)) e
 fg:=d.fg
 eT:=d.eT
theorem c2.but {h':aR} {wr:List au} (f:c2 T g cx env σ s.heap) (b: ∀b∈wr,cy T g b∧ ∃o bk,s.heap.get? b=some o∧o.data= .fields bk) (aC: ∀b o,b∉wr→s.heap.get? b=some o→h'.get? b=some o):c2 T g cx env σ h':=by
 have bF:cH g.B s.heap g.B h':=fun aZ o e n=>⟨aC aZ o (fun q=>n (b aZ q).1.1) e,n⟩
 have no: ∀a o,s.heap.get? a=some o→(∀bk,o.data≠ .fields bk)→h'.get? a=some o:=fun a o e n=>aC a o (fun q=>jc (b a q).2 fun cE bk bP d1=>n bk (inj (e.symm.trans bP)▸d1)) e
 have ns: ∀m,s.heap.Ns env.locals m→h'.Ns env.locals m:=fun m ⟨o,es,df,e,hh,r⟩=>⟨o,es,df,no _ o e (fun bk z=>by rw[hh] at z;cases z),hh,r⟩
 exact f.move f.loc ns (fun a=>a.move ns fun c aa ⟨o,e,aQ⟩=>⟨aa,o,no _ o e (fun bk z=>by rw[aQ] at z;cases z),aQ⟩) (fun y m e=>⟨m,e⟩) fun x v _ _ sl=>sl.move bF rfl fun a vs _ _ aa ⟨o,e,c,n,r⟩=>⟨aa,o,no _ o e (fun bk z=>by rw[r] at z;cases z),c,n,r⟩
noncomputable abbrev G.news (g:G) (h h':aR):G:=⟨fun b=>g.B b∨(h.get? b=none∧ ∃o,h'.get? b=some o),g.aA⟩
theorem cH.news {h h':aR} (k: ∀b o,h.get? b=some o→h'.get? b=some o):cH g.B h (g.news h h').B h':=fun b o e n=>⟨k b o e,fun q=>q.elim n fun z=>by rw[z.1] at e;cases e⟩
theorem bK.news {h':aR} {t:Nat} (k: ∀b o,s.heap.get? b=some o→h'.get? b=some o) (aS:s.toks≤t):bK T g s (g.news s.heap h') {s with heap:=h',toks:=t}:=
 ⟨fun b o e _=>k b o e,fun b o e=>⟨o,k b o e⟩,fun _ x=> .inl x,fun b x=>x.imp id fun q=>q.1,⟨[],by simp⟩,fun _ x=> .inl x,rfl,rfl,aS⟩
theorem aL.news (d:aL T g w s) {h':aR} {t:Nat} (k: ∀b o,s.heap.get? b=some o→h'.get? b=some o) (aS:s.toks≤t):aL T (g.news s.heap h') w {s with heap:=h',toks:=t} where
 aU:=e3 _
 base b o e:=⟨k b o (d.base b o e).1,fun q=>q.elim (d.base b o e).2 fun z=>by have:=(d.base _ _ e).1;rw[z.1] at this;cases this⟩
 ex b z:=z.elim (fun z=>let ⟨o,e⟩:=d.ex b z;⟨o,k b o e⟩) fun q=>q.2
 dc b z:= .inl (d.dc b z)
 tab:=T.lQ d.tab (cH.news k) fun b o _ e=>k b o e
 len:=d.len
 cO i a x aF aE:=T.kl (d.cO i a x aF aE) (cH.news k) fun b o _ e=>k b o e
 fg:=d.fg
 eT:=d.eT
theorem aL.ady (d:aL T g w s) {a:au} (h:s.heap.get? a=none): ¬ek T.dO g.aA a:=fun q=>by
 obtain ⟨o,e⟩:=d.ex a (d.dc a q)
 rw[h] at e;cases e
theorem G.nG (d:aL T g w s) {h':aR} {a:au} {o:Obj} (h:s.heap.get? a=none) (aV:h'.get? a=some o):cy T (g.news s.heap h') a:=⟨.inr ⟨h,o,aV⟩,d.ady h⟩
theorem z7 {scope:Scope} {env:Env} {x:Str} {k:fB} (h:scope.names.lookup x=some k):
  (relabel scope env).names.lookup x=some (if (k== .free&&env.scope.kind== .function&&env.kindOf x==some .cell)=true then .cell else k):=by
 unfold relabel
 generalize scope.names=names at h⊢
 dsimp only
 induction names with
 |nil=>cases h
 |cons y r ay=>
  obtain ⟨n,eL⟩:=y
  rw[lW] at h
  rw[fD]
  cases ae:x==n with
  |true=>
   rw[ae] at h;cases h
   obtain rfl:=eq_of_beq ae
   dsimp only
   split<;>exact aeH
  |false=>
   rw[ae] at h
   have:=ay h
   dsimp only
   split<;>(rw[lW,ae];exact this)
noncomputable def compEnv (bj:Scope) (L:au) (env:Env):Env:=
 {scope:=relabel bj env,locals:=L,globals:=env.globals,cells:=cellsFrom (L+1) bj.names (h1 env bj.names []),qual:=env.qual,func:=none,code:=env.code,frame:=env.frame,builtins:=env.builtins}
theorem vl {sc bj:Scope} (h:rb sc bj=true):bj.kind= .function∧(bj.names.map (·.1)).Nodup∧ ∀x k,(x,k)∈bj.names→(x==("__debug__":Str))=false∧(x==("__classdict__":Str))=false∧(k= .local∨k= .cell∨k= .globalImplicit∨(k= .free∧(sc.names.lookup x=some .cell∨sc.names.lookup x=some .free))):=by
 unfold rb at h
 rw[mW,mW,decide_eq_true_eq] at h
 refine ⟨eq_of_beq h.1.1,h.1.2,fun x k ae=> ?_⟩
 have:=pb.mp h.2 (x,k) ae
 simp only[mW,uG,bne_iff_ne,ne_eq,beq_iff_eq] at this
 obtain ⟨⟨J,U⟩,av⟩:=this
 refine ⟨beq_eq_false_iff_ne.mpr J,beq_eq_false_iff_ne.mpr U,?_⟩
 rcases av with ((av|av)|av)|av
 ·exact .inl av
 ·exact .inr (.inl av)
 ·exact .inr (.inr (.inl av))
 ·exact .inr (.inr (.inr av))
theorem wO: ∀{l:List (Str×fB)} {x:Str} {k eL:fB},(l.map (·.1)).Nodup→(x,k)∈l→(x,eL)∈l→k=eL:=by
 intro bq
 induction bq with
 |nil=>exact @fun _ _ _ _ _ h=>nomatch h
 |cons y r ay=>
  intro x k eL h J U
  rw[fD,Gn] at h
  rcases d3.mp J with aF|J
  ·rcases d3.mp U with aE|U
   ·rw[←aF] at aE;cases aE;rfl
   ·exact absurd (Oh (f:=(·.1)) U) (by rw[←aF] at h;exact h.1)
  ·rcases d3.mp U with aE|U
   ·exact absurd (Oh (f:=(·.1)) J) (by rw[←aE] at h;exact h.1)
   ·exact ay h.2 J U
theorem ZC: ∀{l:List (Str×fB)} {x:Str} {k:fB},(l.map (·.1)).Nodup→(x,k)∈l→l.lookup x=some k:=fun {l x k} h ae=>by
 obtain ⟨eL,e⟩:=z6 ae
 rw[e,wO h ae (mem_of_lookup e)]
theorem EI {sc:Scope} {x:Str} (h:dq sc x=true):sc.names.lookup x=some .local∨sc.names.lookup x=some .cell:=(sk.mp h).imp eq_of_beq eq_of_beq
theorem Ac {sc:Scope} {x:Str} (h:sc.names.lookup x=some .local∨sc.names.lookup x=some .cell):dq sc x=true:=sk.mpr (h.imp beq_iff_eq.mpr beq_iff_eq.mpr)
theorem K9 {sc:Scope} {x:Str} (h:dq sc x=true):(Scope.dC sc).contains x=true:=by
 unfold Scope.dC
 rw[aeI,g0]
 exact (EI h).elim (fun h=>⟨_,Oi.mpr ⟨mem_of_lookup h,rfl⟩,rfl⟩) fun h=>⟨_,Oi.mpr ⟨mem_of_lookup h,rfl⟩,rfl⟩
theorem cg.cellOf {h:aR} {x:Str} {v:Option af} (a:cg T g h env x v) (aj:env.kindOf x=some .cell∨env.kindOf x=some .free): ∃c,env.cells.lookup x=some c∧h.IsCell c v∧cy T g c:=
 a.elim (fun z=>aj.elim (fun q=>nomatch inj (z.1.symm.trans q)) fun q=>nomatch inj (z.1.symm.trans q)) (·.2)
theorem vm {sc bj:Scope} {x:Str} (ah:rb sc bj=true) (ae:(x,NameKind.free)∈bj.names): ∃k,sc.names.lookup x=some k∧(k= .cell∨k= .free)∧k≠ .globalImplicit:=
 ((vl ah).2.2 x _ ae).2.2.elim (fun h=>nomatch h) fun h=>h.elim (fun h=>nomatch h) fun h=>h.elim (fun h=>nomatch h) fun h=>h.2.elim (fun h=>⟨_,h,.inl rfl,nofun⟩) fun h=>⟨_,h,.inr rfl,nofun⟩
theorem Iq {bj:Scope} (f:c2 T g cx env σ s.heap) (ah:rb cx.sc bj=true): ∀x∈bj.names,x.2= .free→ ∃c,env.cells.lookup x.1=some c∧(∃v,s.heap.IsCell c v)∧cy T g c∧(env.kindOf x.1=some .cell∨env.kindOf x.1=some .free):=fun x ae hf=>
 d9 (vm ah (hf▸ae:(x.1,NameKind.free)∈bj.names)) fun k aj ny gI=>b5 (f.nm x.1 k aj gI) fun v a _=>(a.cellOf (f.cW x.1 k aj ny)).imp fun c q=>⟨q.1,⟨v,q.2.1⟩,q.2.2,f.cW x.1 k aj ny⟩
theorem c2.comp {bj:Scope} {h':aR} (f:c2 T g cx env σ s.heap) (d:aL T g w s) (ah:rb cx.sc bj=true) (L:au) (iu:s.heap.objs.size≤L)
  (aX: ∀b o,s.heap.get? b=some o→h'.get? b=some o) (hJ:h'.Ns L fun _=>none)
  (iv: ∀n c,(n,c)∈cellsFrom (L+1) bj.names (h1 env bj.names [])→(n,c)∈h1 env bj.names []∨(L+1≤c∧h'.IsCell c none∧(n,NameKind.cell)∈bj.names)):
  c2 T (g.news s.heap h') {cx with sc:=bj} (compEnv bj L env) (σ.hide (Scope.dC bj)) h'∧
   pD (fun b=>b≠L∧ ∀x c,dq bj x=true→(compEnv bj L env).cells.lookup x=some c→b≠c) {cx with sc:=bj} (compEnv bj L env)∧
   (∀x c,dq bj x=true→(compEnv bj L env).cells.lookup x=some c→L<c)∧
   (∀x l,(σ.hide (Scope.dC bj)).get x= .own l→(∃k,bj.names.lookup x=some k∧k≠ .globalImplicit)→ ∃c a,(compEnv bj L env).cells.lookup x=some c∧((compEnv bj L env).kindOf x=some .cell∨(compEnv bj L env).kindOf x=some .free)∧s.heap.IsCell c (some (.ref a))∧(∃o,s.heap.get? a=some o)∧cy T g c):=by
 have yz:=(vl ah).2.1
 have ca:=(vl ah).2.2
 have CI:=Iq f ah
 have n8: ∀{n c},(n,c)∈h1 env bj.names []→(n,NameKind.free)∈bj.names∧env.cells.lookup n=some c∧c<s.heap.objs.size:=fun {n c} hm=>
  (Q3 (fun x ae hf=>(CI x ae hf).imp fun c q=>q.1) hm).elim (fun h=>nomatch h) fun h=>rf (CI _ h.1 rfl) fun d0 e RH _ _=>⟨h.1,h.2,RH.elim fun v q=>q.elim fun o r=>k8 (inj (e.symm.trans h.2)▸r.1)⟩
 have dp: ∀{x},bj.names.lookup x=some .cell→ ∃c,(compEnv bj L env).cells.lookup x=some c∧h'.IsCell c none∧L+1≤c:=fun {x} ae=>
  have hm:=mem_of_lookup ae
  (H' (lo:=L+1) (acc:=h1 env bj.names []) hm).elim fun l8 h0=>(z6 h0).imp fun c J=>⟨J,(iv x c (mem_of_lookup J)).elim (fun h=>nomatch wO yz hm (n8 h).1) fun h=>⟨h.2.1,h.1⟩⟩
 have Ve: ∀{x},bj.names.lookup x=some .free→ ∃c,(compEnv bj L env).cells.lookup x=some c∧env.cells.lookup x=some c:=fun {x} ae=>
  have hm:=mem_of_lookup ae
  (Q2 (env:=env) (acc:=[]) hm).elim fun l8 h0=>(z6 (H9 (names:=bj.names) (lo:=L+1) h0)).imp fun c J=>⟨J,(iv x c (mem_of_lookup J)).elim (fun h=>(n8 h).2.1) fun h=>nomatch wO yz hm h.2.2⟩
 have kP: ∀{x},bj.names.lookup x=some .local→(compEnv bj L env).kindOf x=some .local:=fun {x} ae=>z7 ae
 have tu: ∀{x},bj.names.lookup x=some .cell→(compEnv bj L env).kindOf x=some .cell:=fun {x} ae=>z7 ae
 have DS: ∀{x},bj.names.lookup x=some .free→(compEnv bj L env).kindOf x=some .cell∨(compEnv bj L env).kindOf x=some .free:=fun {x} ae=>by
  rw[show (compEnv bj L env).kindOf x=_ from z7 ae]
  split
  ·exact .inl rfl
  ·exact .inr rfl
 have st:bK T g s (g.news s.heap h') {s with heap:=h',toks:=s.toks}:= .news aX (a3 _)
 have I': ∀{x v},bj.names.lookup x=some .free→cg T g s.heap env x v→ ∃c,(compEnv bj L env).cells.lookup x=some c∧s.heap.IsCell c v∧cy T g c:=fun {x v} ae a=>
  b5 (Ve ae) fun c J U=>rf (CI _ (mem_of_lookup ae) rfl) fun _ _ _ _ jk=>d9 (a.cellOf jk) fun de aE aQ aa=>⟨c,J,by rw[inj (U.symm.trans aE)];exact ⟨aQ,aa⟩⟩
 have Dm: ∀{x v},bj.names.lookup x=some .free→cg T g s.heap env x v→cg T (g.news s.heap h') h' (compEnv bj L env) x v:=fun {x v} ae a=>
  d9 (I' ae a) fun c J aQ aa=>aQ.elim fun o q=> .inr ⟨DS ae,c,J,⟨o,aX _ _ q.1,q.2⟩,(aa.a5 st q.1).1⟩
 have hide: ∀{x},dq bj x=true→(σ.hide (Scope.dC bj)).get x= .unset:=fun h=>(ar.y4 ..).trans (if_pos (K9 h))
 have E7: ∀{x l},(σ.hide (Scope.dC bj)).get x= .own l→(∃k,bj.names.lookup x=some k∧k≠ .globalImplicit)→bj.names.lookup x=some .free∧σ.get x= .own l:=fun {x l} e q=>b5 q fun k aj bM=>by
  have nm: ¬dq bj x=true:=fun m=>nomatch (hide m).symm.trans e
  refine (ca x _ (mem_of_lookup aj)).2.2.elim (fun h=>(nm (Ac (.inl (h▸aj)))).elim) fun h=>h.elim (fun h=>(nm (Ac (.inr (h▸aj)))).elim) fun h=>h.elim (fun h=>(bM h).elim) fun h=>⟨h.1▸aj,?_⟩
  rw[ar.y4] at e
  split at e
  ·cases e
  ·exact e
 have fr:c2 T (g.news s.heap h') {cx with sc:=bj} (compEnv bj L env) (σ.hide (Scope.dC bj)) h':={
  glob:=f.glob
  bi:=f.bi
  kind:=(vl ah).1
  loc:=hJ.elim fun o q=>gT q fun es df r=>G.nG d (k9 iu) r.1
  mw:=fun x ae=>z7 ae
  ok:=fun x k ae=>⟨(ca x k (mem_of_lookup ae)).1,(ca x k (mem_of_lookup ae)).2.1⟩
  nm:=fun x k ae bM=>(ca x k (mem_of_lookup ae)).2.2.elim (fun h=>⟨none,.inl ⟨kP (h▸ae),_,hJ,rfl⟩,(hide (Ac (.inl (h▸ae)))).symm▸trivial⟩) fun h=>h.elim (fun h=>d9 (dp (h▸ae)) fun c J U av=>⟨none,.inr ⟨.inl (tu (h▸ae)),c,J,U,U.elim fun o q=>G.nG d (k9 (c5 iu (i9 av))) q.1⟩,(hide (Ac (.inr (h▸ae)))).symm▸trivial⟩)
   fun h=>h.elim (fun h=>(bM h).elim) fun h=>d9 (vm ah (mem_of_lookup (h.1▸ae))) fun eL oC _ DM=>b5 (f.nm x eL oC DM) fun v a sl=>⟨v,Dm (h.1▸ae) a,by
    rw[ar.y4]
    split
    ·trivial
    ·exact sl.a5 st d⟩
  dx:=f.dx
  dict:=⟨_,hJ⟩
  cW:=fun x k ae h=>h.elim (fun h=> .inl (tu (h▸ae))) fun h=>DS (h▸ae)
  apart:=fun x y c ae bl=>by
   have a8:=mem_of_lookup ae
   have oT:=mem_of_lookup bl
   have no: ∀{n},L+1≤c→(n,c)∈h1 env bj.names []→False:=fun h a=>F5.mpr (c5 iu (i9 h)) (n8 a).2.2
   exact (iv x c a8).elim (fun J=>(iv y c oT).elim (fun U=>f.apart x y c (n8 J).2.1 (n8 U).2.1) fun U=>(no U.1 J).elim)
    fun J=>QD (lo:=L+1) (lo':=L+1) (a3 _) (fun n qg d0 hj a b=>(F5.mpr (c5 iu (i9 hj)) (n8 a).2.2).elim) (fun n d0 a=>mV (hA (n8 a).2.2 iu)) J.1 a8 oT
  sep:=fun x y l m a aF aE fX hO uD o8=>by
   have kX:=E7 aF fX
   have gL:=E7 aE hO
   refine d9 (vm ah (mem_of_lookup kX.1)) fun bt rz _ JL=>d9 (vm ah (mem_of_lookup gL.1)) fun bB kh _ JM=>b5 (f.nm x bt rz JL) fun v1 a1 _=>b5 (f.nm y bB kh JM) fun v2 a2 _=> ?_
   exact f.sep x y l m a kX.2 gL.2 ⟨bt,rz,JL⟩ ⟨bB,kh,JM⟩ ((Dm kX.1 a1).one uD▸a1) ((Dm gL.1 a2).one o8▸a2)}
 refine ⟨fr,fun x ae=>(EI ae).elim (fun h=> .inl ⟨kP h,fun q=>q.1 rfl⟩) fun h=> .inr ⟨tu h,fun c hj q=>q.2 x c ae hj rfl⟩,fun x c ae Vm=>(iv x c (mem_of_lookup Vm)).elim (fun h=>(EI ae).elim (fun q=>nomatch wO yz (n8 h).1 (mem_of_lookup q)) fun q=>nomatch wO yz (n8 h).1 (mem_of_lookup q)) fun h=>h.1,fun x l e q=> ?_⟩
 have o:=E7 e q
 refine d9 (vm ah (mem_of_lookup o.1)) fun k aj _ bM=>b5 (f.nm x k aj bM) fun v a sl=>hG (o.2▸sl:fO T g s.heap (.own l) v) fun ad vs ev aa ai _=>d9 (I' o.1 (ev▸a)) fun c J aQ U2=>⟨c,ad,J,DS o.1,aQ,ai.imp fun o q=>q.1,U2⟩
end
section
variable {T:bE} {K K':au→Prop} {cx:a'} {env:Env} {σ σ':ar} {A:bO} {g g' fh gw:G} {w w':W} {s s' fq:aw} {n:Nat} {tgt:Expr}
theorem cV.weak (x:cV T K' g s g' s') (h: ∀b,K b→K' b):cV T K g s g' s':=
 ⟨x.ip,fun b o k e n=>x.old b o (h b k) e n,fun b k z=>x.lJ b (h b k) z,x.ex,x.eG,x.ef,x.gens,x.os,x.aU⟩
theorem cV.iQ (x:cV T K g s g' s') {b:au} (z:g'.B b):g.B b∨s.heap.get? b=Option.none:=by
 cases e:s.heap.get? b with
 |none=>exact .inr rfl
 |some o=>
  by_cases h:g.B b
  ·exact .inl h
  ·exact absurd z (x.ip b o e h).2
theorem c2.chg {h':aR} {a:au} {fk:Array af} (f:c2 T g cx env σ s.heap) (aa:cy T g a) (ai:c6 s.heap a fk) (aC: ∀b o,b≠a→s.heap.get? b=some o→h'.get? b=some o)
  (no: ∀x l,σ.get x= .own l→(∃k,cx.sc.names.lookup x=some k∧k≠ .globalImplicit)→ ¬cg T g s.heap env x (some (.ref a))):c2 T g cx env σ h':=by
 have bF:cH g.B s.heap g.B h':=fun aZ o e n=>⟨aC aZ o (fun q=>n (q▸aa.1)) e,n⟩
 have ns: ∀m,s.heap.Ns env.locals m→h'.Ns env.locals m:=fun m x=>x.at fun o e=>aC _ _ (fun q=>wR (q▸x) ai.eV) e
 exact f.move f.loc ns (fun n=>n.move ns fun c ah aQ=>⟨ah,aQ.elim fun o e=>⟨o,aC _ _ (fun q=>z5 ai.eV (q▸aQ)) e.1,e.2⟩⟩) (fun y m e=>⟨m,e⟩)
  fun x v k n sl=>sl.move bF rfl fun c vs aV ev ah ⟨o,e,r⟩=>⟨ah,o,aC c o (fun z=>aV.elim fun l aG=>no x l aG k (z▸ev▸n)) e,r⟩
theorem HS {sc:Scope} {t:Expr} {p:I} (h:va sc t p σ=some σ') (x:Str):σ'.get x=σ.get x∨dq sc x=true:=
 aN h fun y bl h=>by
  rw[←inj (cA h),ar.get_set]
  by_cases ae:y=x
  ·exact .inr (ae▸ck h)
  ·exact .inl (if_neg ae)
theorem Qc {sc:Scope}: ∀{ts:List Expr} {ps:List I} {σ σ':ar},pI sc ts ps σ=some σ'→ ∀x,σ'.get x=σ.get x∨dq sc x=true:=by
 intro ts
 induction ts with
 |nil=>intro _ _ _ h x;exact inj (cA h)▸ .inl rfl
 |cons t ts ay=>
  intro ps σ σ' h x
  cases ps with
  |nil=>exact (nn h).elim
  |cons p ps=>exact aN h fun σ1 J U=>(ay U x).elim (fun h=>(HS J x).elim (fun h'=> .inl (h.trans h')) .inr) .inr
theorem Qg {sc:Scope} {t:Expr} {p:I} (h:gc sc t p σ=some σ') (x:Str):σ'.get x=σ.get x∨dq sc x=true:=
 pO h (fun _ h=>HS h x) fun ts _ h=>aN h fun l _ h=>Qc h x
theorem T1 {env:Env}: ∀(ifs:List Expr),(forIn ifs false fun c r=>if r=true then do let ok←isTrue c env (eval c env);pure (ForInStep.yield ok) else pure (ForInStep.yield r))=(pure false:Sem Bool):=by
 intro bq
 induction bq with
 |nil=>
  exact rfl
 |cons c ifs ay=>
  rw[Of,if_neg hB]
  exact ay
theorem acH: ∀{n:Nat} {ifs:List Expr} {w w':W} {b:Bool} {g:G} {s:aw},(∀m,m≤n→cU T m)→fY n cx .And ifs σ w=some (b,w')→cD T cx env σ A g w s→
  aK T A (forIn ifs true fun c r=>if r=true then do let ok←isTrue c env (eval c env);pure (ForInStep.yield ok) else pure (ForInStep.yield r)) g s (ik T w' b):=by
 intro n
 induction n with
 |zero=>intro _ _ _ _ _ _ _ h _;exact (nn h).elim
 |succ n ay=>
  intro ifs w w' b g s S h i
  cases ifs with
  |nil=>exact rn h (.pure ⟨i.wd,rfl⟩)
  |cons e es=>
   exact aN h fun x J h=>by
    rw[Of,if_pos rfl]
    refine aK.bind (aK.bind ((S n (nW n)).fa J i) fun g1 s1 dz t1 a4=> .pure (P:=fun g s r=>aL T g x.2 s∧r=ForInStep.yield x.1) ⟨a4.1,by rw[a4.2]⟩) fun g1 s1 r t1 a4=>a4.2▸ ?_
    have ea:=i.a5 t1 a4.1
    clear J a4
    obtain ⟨c,w1⟩:=x
    cases c with
    |false=>exact rn h (.n7 (.pure ⟨ea.wd,rfl⟩) (T1 (env:=env) es))
    |true=>exact ay (fun m hm=>S m (xQ hm)) h ea
theorem Rj {prog:sE} {wd:pn} {R:m2→aw→Prop} {elt target iter:Expr} {ifs:List Expr} {scope:Scope} {pos:Pos} {it acc:af} (az:Nat→aw→Prop)
  (turn: ∀n s,az n s→ ∀E,bc (bo prog wd) A (pyNext it) (fun r hQ=>match r with
   |none=>R (.ok .next) hQ
   |some v=>bc (bo prog wd) A (letOwnedTupleGo target it v) (fun _ br=>bc (bo prog wd) A (assign target env v) (fun _ M4=>
     bc (bo prog wd) A (forIn ifs true fun c r=>if r=true then do let ok←isTrue c env (eval c env);pure (ForInStep.yield ok) else pure (ForInStep.yield r)) (fun ok FA=>
      if ok=true then bc (bo prog wd) A (eval elt env) (fun x M5=>
       bc (bo prog wd) A (call (.builtin "list.append") [acc,x]) (fun _ M6=> ∃m,m<n∧az m M6) E M5) E FA
      else∃m,m<n∧az m FA) E M4) E br) E hQ) E s)
  (n:Nat) (h:az n s):
  codeAny (bo prog wd) A (.compLoop (.ListComp elt [⟨target,iter,ifs,0⟩] scope pos) 0 it acc env) R s:=by
 refine codeAny_loop rfl az (fun n s fj=> ?_) n h
 show bc _ A ((compTurn (.ListComp elt [⟨target,iter,ifs,0⟩] scope pos) 0 it acc env).onRaise (fun x=>do noteFrame x env;theTreesLotGoes x)) _ _ s
 refine wpAny_noted ?_
 rw[compTurn_list]
 refine aM (fL (aM (pd (turn n s fj _) (fun r hQ kj=> ?_) fun _ _ h'=>h')))
 cases r with
 |none=>exact b6 kj
 |some v=>
  refine aM (pd kj (fun _ br hK=>aM (pd hK (fun _ M4 oI=>aM (pd oI (fun ok FA Kl=> ?_) fun _ _ h'=>h')) fun _ _ h'=>h')) fun _ _ h'=>h')
  cases ok with
  |false=>exact b6 ⟨rfl,Kl⟩
  |true=>
   exact aM (aM (pd Kl (fun x M5 Wk=>aM (pd Wk (fun _ M6 Wl=>b6 (b6 ⟨rfl,Wl⟩)) fun _ _ h'=>h')) fun _ _ h'=>h'))
noncomputable abbrev G.less (g:G) (wr:List au):G:=⟨fun b=>g.B b∧b∉wr,g.aA⟩
theorem cH.less {h h':aR} {wr:List au} (b: ∀b∈wr,g.B b) (aC: ∀b o,b∉wr→h.get? b=some o→h'.get? b=some o):cH g.B h (g.less wr).B h':=fun a o e n=>⟨aC a o (fun q=>n (b a q)) e,fun q=>n q.1⟩
theorem aL.less (d:aL T g w s) {wr:List au} (b: ∀b∈wr,cy T g b) (aC: ∀b o,b∉wr→s.heap.get? b=some o→s'.heap.get? b=some o) (aS:s.toks≤s'.toks):aL T (g.less wr) w s':=by
 have bF:cH g.B s.heap (g.less wr).B s'.heap:= .less (fun a q=>(b a q).1) aC
 exact {
  aU:=e3 _
  base:=fun c o e=>bF c o (d.base c o e).1 (d.base c o e).2
  ex:=fun c z=>let ⟨o,e⟩:=d.ex c z.1;⟨o,aC c o z.2 e⟩
  dc:=fun c z=>⟨d.dc c z,fun q=>(b c q).2 z⟩
  tab:=T.lQ d.tab bF fun c o z e=>aC c o (fun q=>(b _ q).2 (.inl z)) e
  len:=d.len
  cO:=fun i l x aF aE=>T.kl (d.cO i l x aF aE) bF fun c o z e=>aC c o (fun q=>(b c q).2 (.inr ⟨l,iK aF,z⟩)) e
  fg:=d.fg
  eT:=d.eT}
end
structure ie (T:bE) (cx:a') (env:Env) (σ:ar) (K:au→Prop) (bh:G) (br:aw) (wr:List au) (St:Nat→aR→Prop) (D:au) (j:Nat) (g:G) (w:W) (done:List I) (dV:List af) (s:aw):Prop where
 bR:cV T K bh br g s
 wd:aL T g w s
 fr:c2 T g cx env σ s.heap
 bd:cy T g D
 lst:c6 s.heap D dV.toArray
 aW:IsL g.B g.aA s.heap done dV
 st:St j s.heap
 wr: ∀b∈wr,cy T g b
section
variable {T:bE} {K K':au→Prop} {cx:a'} {env:Env} {σ σ':ar} {A:bO} {g g' fh gw bh:G} {w w' w1:W} {s s' fq br:aw} {n j:Nat} {tgt:Expr} {wr c9:List au} {St:Nat→aR→Prop} {D az:au} {done:List I} {dV:List af} {items:List I}
theorem ie.a5 (c:ie T cx env σ K bh br wr St D j g w done dV s) (eQ:m4 T A tgt bh br.heap az items c9 wr St) (gx: ∀b∈c9,(∃o,br.heap.get? b=some o)∧ ¬ek T.dO bh.aA b) (t:bK T g s g' s') (d:aL T g' w' s'):
  ie T cx env σ K bh br wr St D j g' w' done dV s' where
 bR:=c.bR.trans (t.bR c.wd)
 wd:=d
 fr:=c.fr.a5 t c.wd
 bd:=c.bd.xo t c.wd
 lst:=let ⟨o,aV,r⟩:=c.lst;⟨o,(c.bd.a5 t aV).2,r⟩
 aW:=c.aW.a5 t c.wd
 st:=eQ.frame j _ _ c.st fun b aa o e=>t.keep b o e fun q=>(c.bR.ef b q).elim (gx b aa).2 fun z=>by obtain ⟨cE,bP⟩:=(gx b aa).1;rw[bP] at z;cases z
 wr b aa:=(c.wr b aa).xo t c.wd
theorem ie.turn {Q:Unit→aw→Prop} {E:af→aw→Prop} {p:I} {v:af} {hK:aR} {aU:Nat} (cL:A.handled=none) (c:ie T cx env σ K bh br wr St D j g w done dV s) (eQ:m4 T A tgt bh br.heap az items c9 wr St)
  (gx: ∀b∈c9,(∃o,br.heap.get? b=some o)∧ ¬ek T.dO bh.aA b) (cj: ∀b,K b→b∉wr)
  (pU: ∀b,(∃o,br.heap.get? b=some o)→K' b) (UP: ∀b,K b→ ∃o,br.heap.get? b=some o) (ir:K' D) (lA:br.heap.get? D=none) (F1:pD K' cx env) (aa:gc cx.sc tgt p σ=some σ')
  (st:St (j+1) hK) (aX: ∀b o,b∉wr→s.heap.get? b=some o→hK.get? b=some o) (cw:Is g.B g.aA hK p v) (aS:s.toks≤aU) (fst:St j s.heap)
  (q: ∀s',ie T cx env σ' K bh br wr St D (j+1) g w done dV s'→Q () s'):bc (bo T.prog T.w) A (assign tgt env v) Q E {s with heap:=hK,toks:=aU}:=by
 have aJ: ∀b∈wr,∃o,hK.get? b=some o:=fun b aa=>let ⟨o,_,e,_⟩:=eQ.live _ _ st b aa;⟨o,e⟩
 have t1:cV T K g s g {s with heap:=hK,toks:=aU}:= .but c.wr (fun b aa z=>cj b z aa) aX aJ aS
 have bb:aL T g w {s with heap:=hK,toks:=aU}:=c.wd.but c.wr aX aJ aS
 have f1:c2 T g cx env σ hK:=c.fr.but (fun b aa=>⟨c.wr b aa,eQ.live _ _ fst b aa⟩) aX
 have zd:D∉wr:=fun z=>by
  obtain ⟨o,bk,e,hh⟩:=eQ.live _ _ fst D z
  obtain ⟨cE,bP,_,m,r⟩:=c.lst
  rw[e] at bP;cases bP
  rw[r] at hh;cases hh
 have ti:cH g.B s.heap g.B hK:=fun b o e n=>⟨aX b o (fun z=>n (c.wr b z).1) e,n⟩
 refine yp (K:=K') cL aa F1 f1 bb cw fun s2 t2 f2 b4 _=>q s2 ?_
 refine ⟨(c.bR.trans t1).trans (t2.weak fun b z=>pU b (UP b z)),b4,f2,c.bd,?_,?_,?_,c.wr⟩
 ·obtain ⟨o,e,r⟩:=c.lst
  exact ⟨o,t2.old D o ir (aX D o zd e) c.bd.2,r⟩
 ·have:=c.aW.bF ti []
  rw[fF] at this
  exact this.bR t2
 ·refine eQ.frame _ _ _ st fun b aa o e=>t2.old b o (pU b (gx b aa).1) e fun z=>(c.bR.ef b z).elim (gx b aa).2 fun z=> ?_
  obtain ⟨cE,bP⟩:=(gx b aa).1
  rw[bP] at z;cases z
inductive Hc (T:bE) (cx:a') (env:Env) (σ:ar) (K:au→Prop) (bh:G) (br:aw) (wr:List au) (St:Nat→aR→Prop) (D:au) (elt tgt:Expr) (ifs:List Expr) (items:List I) (N:Nat) (l:List I) (w':W) (s':aw):Nat→Prop where
 |mk (rest:List I) (j m:Nat) (g:G) (w:W) (done dM:List I) (dV:List af):m≤N→gf m cx elt tgt ifs rest σ w=some (dM,w')→l=done++dM→items.drop j=rest→done.length≤j→j≤items.length→
  ie T cx env σ K bh br wr St D j g w done dV s'→Hc T cx env σ K bh br wr St D elt tgt ifs items N l w' s' rest.length
theorem ie.cast {wt:Nat} {Iy:List I} (c:ie T cx env σ K bh br wr St D j g w done dV s) (J:j=wt) (U:w=w') (av:done=Iy):ie T cx env σ K bh br wr St D wt g w' Iy dV s:=by subst J U av;exact c
theorem drop_nil {j:Nat} (h:items.drop j=[]) (aP:j≤items.length):j=items.length:=by
 have:=congrArg sm h
 rw[jV,Oj] at this
 exact f3 (aH aP) (aH (aI (b0 this) (fU (items.length) (j))))
theorem drop_cons {j:Nat} {p:I} {rest:List I} (h:items.drop j=p::rest):items[j]?=some p∧items.drop (j+1)=rest∧j+1≤items.length:=by
 have JQ:items[j]?=some p:=by rw[←List.head?_drop,h];rfl
 exact ⟨JQ,by rw[←List.drop_drop,h];rfl,(hW.mp JQ).1⟩
theorem ie.push {jG:G} {NM:W} {s5:aw} {x:af} {r:I} {bQ:aR} (c:ie T cx env σ K bh br wr St D j jG NM done dV s5) (eQ:m4 T A tgt bh br.heap az items c9 wr St) (gx: ∀b∈c9,(∃o,br.heap.get? b=some o)∧ ¬ek T.dO bh.aA b)
  (UK: ¬K D) (lA:br.heap.get? D=none) (wN: ∀x l,σ.get x= .own l→(∃k,cx.sc.names.lookup x=some k∧k≠ .globalImplicit)→ ¬cg T jG s5.heap env x (some (.ref D)))
  (v9: ∀b o,b≠D→s5.heap.get? b=some o→bQ.get? b=some o) (pT:c6 bQ D (dV++[x]).toArray) (nA:Is jG.B jG.aA s5.heap r x):ie T cx env σ K bh br wr St D j jG NM (done++[r]) (dV++[x]) {s5 with heap:=bQ}:=by
 have IV: ∃o,bQ.get? D=some o:=pT.elim fun o e=>⟨o,e.1⟩
 have T9:cH jG.B s5.heap jG.B bQ:=fun b o e n=>⟨v9 b o (fun q=>n (q▸c.bd.1)) e,n⟩
 refine ⟨c.bR.trans (.one (t:=s5.toks) (dr:=s5.drawn) c.bd UK v9 IV (a3 _)),c.wd.one c.bd v9 IV (a3 _),c.fr.chg c.bd c.lst v9 wN,c.bd,pT,?_,?_,c.wr⟩
 ·have:=(c.aW.append (.cons nA .nil)).bF T9 []
  rwa [fF] at this
 ·exact eQ.frame _ _ _ c.st fun b aa o e=>v9 b o (fun q=>(gx b aa).1.elim fun cE bP=>Mine.nn (lA.symm.trans (q▸bP))) e
theorem Ro {elt it:Expr} {ifs:List Expr} {pos:Pos} {bj:Scope} {N m:Nat} {l:List I} {R:m2→aw→Prop}
  (cJ: ∀m,m≤N→cU T m) (U4:cx.sc=bj) (bZ:Room (20*cx.d+20) A) (eQ:m4 T A tgt bh br.heap az items c9 wr St) (gx: ∀b∈c9,(∃o,br.heap.get? b=some o)∧ ¬ek T.dO bh.aA b)
  (cj: ∀b,K b→b∉wr∧ ∃o,br.heap.get? b=some o) (pU: ∀b,(∃o,br.heap.get? b=some o)→K' b) (ir:K' D) (lA:br.heap.get? D=none) (F1:pD K' cx env) (a6:items.length≤1048576)
  (zJ: ∀x,dq cx.sc x=true→σ.get x= .unset)
  (wN: ∀g w done dV s j,ie T cx env σ K bh br wr St D j g w done dV s→ ∀x l,σ.get x= .own l→(∃k,cx.sc.names.lookup x=some k∧k≠ .globalImplicit)→ ¬cg T g s.heap env x (some (.ref D)))
  (hm:m≤N) (ah:gf m cx elt tgt ifs items σ w=some (l,w')) (inv:ie T cx env σ K bh br wr St D 0 g w [] [] s)
  (mi: ∀g' dV s' h' aU,ie T cx env σ K bh br wr St D items.length g' w' l dV s'→(∀b o,b∉wr→s'.heap.get? b=some o→h'.get? b=some o)→s'.toks≤aU→R (.ok .next) {s' with heap:=h',toks:=aU}):
  codeAny (bo T.prog T.w) A (.compLoop (.ListComp elt [⟨tgt,it,ifs,0⟩] bj pos) 0 (.ref az) (.ref D) env) R s:=by
 subst U4
 refine Rj (fun k s'=>Hc T cx env σ K bh br wr St D elt tgt ifs items N l w' s' k) (fun k s' h E=> ?_) items.length (.mk items 0 m g w [] l [] hm ah rfl rfl (a3 _) (e3 _) inv)
 clear inv ah hm
 cases h with
 |mk rest j m g' w1 done dM dV hm ah ai hd aP tq c=>
 cases m with
 |zero=>exact (nn ah).elim
 |succ m=>
 cases rest with
 |nil=>
  have e:=w6 ah
  have vS:=drop_nil hd tq
  exact k5 (a3 _) (eQ.done s' _ _ (vS▸c.st) fun h' aU aX hle=>mi g' dV s' h' aU (c.cast vS e.2 (by rw[ai,←e.1,fF])) aX hle)
 |cons p rest=>
  have jh:=drop_cons hd
  refine aN ah fun σ' aa ah=>aN ah fun b aS ah=>k5 (a3 _) (eQ.item j p g' s' _ _ jh.1 c.st c.bR.ip c.bR.eG c.wd.ex (fun b aa=>(c.wr b aa).1) fun v J aU tP go hle=>go _ _ fun U xn zS cw=>
   c.turn bZ.handled eQ gx (fun b z=>(cj b z).1) pU (fun b z=>(cj b z).2) ir lA F1 aa xn (fun b o aa e=>zS b o aa (tP b o aa e)) cw hle c.st fun s3 eu=>
   acH (fun k aj=>cJ k (c5 aj (i9 hm))) aS ⟨eu.fr,eu.wd,bZ⟩ E _ fun c1 s4 ok ee hP=>hP.2▸ ?_)
  have hc:=eu.a5 eQ gx ee hP.1
  have back: ∀x,σ.get x=σ'.get x∨σ.get x= .unset:=fun x=>(Qg aa x).elim (fun h=> .inl h.symm) fun h=> .inr (zJ x h)
  clear aS aa hP eu c
  refine Wz (fun aa=> ?_) fun aa=>⟨rest.length,gF _,.mk rest (j+1) m c1 b.2 done dM dV (i9 hm) (wj aa ah) ai jh.2.1 (xQ aP) jh.2.2 {hc with fr:=hc.fr.weak back}⟩
  refine aN (D8 aa ah) fun r he ah=>aN ah fun ec rr ey=>(cJ m (i9 hm)).ev he ⟨hc.fr,hc.wd,bZ⟩ E _ fun jG s5 x lP oX=> ?_
  have e:=w6 ey
  have CF:=hc.a5 eQ gx lP oX.1
  have n6:ie T cx env σ K bh br wr St D (j+1) jG r.2 done dV s5:={CF with fr:=CF.fr.weak back}
  clear CF hc he ah ey
  refine b5 n6.lst fun o aV aG=>aG.2.elim fun nn VD=> ?_
  have Wh:dV.length≤1048576:=by have:=n6.aW.length;exact aH (aI (aI (aI a6 aP) tq) (eq1 this))
  refine append_at (hsz:=by rw[eN];exact c5 Wh (by decide)) (VD▸aV) fun bQ gm pT=>⟨rest.length,gF _,.mk rest (j+1) m jG r.2 (done++[r.1]) ec.1 (dV++[x]) (i9 hm) (rr.trans (by rw[←e.2])) (by rw[ai,jY,←e.1];rfl) jh.2.1 (by rw[eP];exact Ol aP) jh.2.2 ?_⟩
  exact n6.push eQ gx (fun z=>(cj D z).2.elim fun o e=>Mine.nn (lA.symm.trans e)) lA (wN _ _ _ _ _ _ n6) (fun b o aa e=>(gm.2 b aa).trans e) ⟨_,pT,rfl,nn+1,by simp⟩ oX.2
end
section
variable {T:bE} {K K':au→Prop} {cx:a'} {env:Env} {σ σ':ar} {A:bO} {g g' fh gw bh:G} {w w' w1:W} {s s' fq br:aw} {n j:Nat} {tgt:Expr} {wr c9:List au} {St:Nat→aR→Prop} {D az:au} {done:List I} {dV:List af} {items:List I}
theorem Ly {own:Bool} {it:Expr} {r:List I×W} (h:mr n own tgt cx it σ w=some r) (x:af):foldedSetIterable it env x=pure x:=by
 cases it with
 |Set=>cases n with
  |zero=>exact (nn h).elim
  |succ n=>cases n with
   |zero=>exact (nn (cA h)).elim
   |succ n=>exact (nn (cA h)).elim
 |_=>rfl
theorem c2.less {h':aR} {wr:List au} (f:c2 T g cx env σ s.heap) (aa: ∀b∈wr,cy T g b∧(∀fk,¬c6 s.heap b fk)∧(∀v,¬s.heap.IsCell b v)∧b≠env.locals) (aC: ∀b o,b∉wr→s.heap.get? b=some o→h'.get? b=some o):c2 T (g.less wr) cx env σ h':=by
 have bF:cH g.B s.heap (g.less wr).B h':= .less (fun b h4=>(aa b h4).1.1) aC
 have iu:env.locals∉wr:=fun z=>(aa _ z).2.2.2 rfl
 have ns: ∀m,s.heap.Ns env.locals m→h'.Ns env.locals m:=fun m x=>x.at fun o e=>aC _ _ iu e
 refine f.move ⟨⟨f.loc.1,iu⟩,f.loc.2⟩ ns (fun n=>n.move ns fun c ah aQ=> ?_) (fun y m e=>⟨m,e⟩) fun x v k n sl=>sl.move bF rfl fun c vs aV ev ah ai=> ?_
 ·have rt:c∉wr:=fun z=>(aa _ z).2.2.1 _ aQ
  exact ⟨⟨⟨ah.1,rt⟩,ah.2⟩,aQ.elim fun o e=>⟨o,aC _ _ rt e.1,e.2⟩⟩
 ·have rt:c∉wr:=fun z=>(aa _ z).2.1 _ ai
  exact ⟨⟨⟨ah.1,rt⟩,ah.2⟩,ai.elim fun o e=>⟨o,aC _ _ rt e.1,e.2⟩⟩
theorem cV.less {wr:List au} {h':aR} {t:Nat} (x:cV T K g s g' s') (d:aL T g w s) (aa: ∀b∈wr,cy T g' b∧s.heap.get? b=Option.none) (aC: ∀b o,b∉wr→s'.heap.get? b=some o→h'.get? b=some o) (aS:s'.toks≤t):cV T K g s (g'.less wr) {s' with heap:=h',toks:=t} where
 ip b o e n:=let ⟨a,c⟩:=x.ip b o e n;⟨aC b o (fun z=>by rw[(aa b z).2] at e;cases e) a,fun z=>c z.1⟩
 old b o aF aE n:=aC b o (fun z=>by rw[(aa b z).2] at aE;cases aE) (x.old b o aF aE n)
 lJ b e z:=⟨x.lJ b e z,fun q=>by obtain ⟨o,e⟩:=d.ex b z;rw[(aa b q).2] at e;cases e⟩
 ex b o e:=let ⟨cE,bP⟩:=x.ex b o e;⟨cE,aC b cE (fun z=>by rw[(aa b z).2] at e;cases e) bP⟩
 eG:=x.eG
 ef:=x.ef
 gens:=x.gens
 os:=x.os
 aU:=c5 x.aU aS
theorem bK.less {wr:List au} {h':aR} {t:Nat} (x:bK T g s g' s') (d:aL T g w s) (aa: ∀b∈wr,cy T g' b∧s.heap.get? b=Option.none) (aC: ∀b o,b∉wr→s'.heap.get? b=some o→h'.get? b=some o) (aS:s'.toks≤t):bK T g s (g'.less wr) {s' with heap:=h',toks:=t} where
 keep b o e n:=aC b o (fun z=>by rw[(aa b z).2] at e;cases e) (x.keep b o e n)
 ex b o e:=let ⟨cE,bP⟩:=x.ex b o e;⟨cE,aC b cE (fun z=>by rw[(aa b z).2] at e;cases e) bP⟩
 hb b z:=⟨x.hb b z,fun q=>by obtain ⟨o,e⟩:=d.ex b z;rw[(aa b q).2] at e;cases e⟩
 iQ b z:=x.iQ b z.1
 eG:=x.eG
 ef:=x.ef
 gens:=x.gens
 os:=x.os
 aU:=c5 x.aU aS
theorem Ir (cJ: ∀m,m≤n+1→cU T m) {elt it:Expr} {ifs:List Expr} {pos ps:Pos} {bj:Scope} {l:List I} {use:Option (af→Sem Unit)} {Q:af→aw→Prop} {E:af→aw→Prop} (ah:gj (n+1+1) cx (.ListComp elt [⟨tgt,it,ifs,0⟩] bj pos) σ w=some (l,w')) (i:cD T cx env σ A g w s)
  (k: ∀g' s' D C,bK T g s g' s'→j2 T s w' l g' s' (.ref D)→cy T g' C→s.heap.get? C=none→D≠C→(∃m,s'.heap.Ns C m)→compPost (bo T.prog T.w) A E use Q (.ref D) C (.ok .next) s'):
  bc (bo T.prog T.w) A (comprehension (.ListComp elt [⟨tgt,it,ifs,0⟩] bj pos) bj env ps (newList []) false (eval it env) use) Q E s:=by
 have ix:=ck ah
 refine aN (cA ah) fun a4 J pW=> ?_
 have a6:=ck pW
 replace ah:=cA pW
 clear pW
 obtain ⟨items,w1⟩:=a4
 replace ah:gf (n+1) {cx with sc:=bj} elt tgt ifs items (σ.hide (Scope.dC bj)) w1=some (l,w'):=ah
 replace a6:items.length≤1048576:=a6
 replace J:mr (n+1) true tgt cx it σ w=some (items,w1):=J
 ··have Ii:=vl ix
   refine wpAny_comprehension_free (use:=use) rfl (fun x=>Ly J x) (Q4 fun x ae hf=>(Iq i.fr ix x ae hf).imp fun c q=>q.1) Ii.1
    (fun x ae ai=>by rw[ZC Ii.2.1 (k:=x.2) ae,ai]) ?_
   refine KA (own:=true) (tgt:=tgt) (fun m hm=>cJ m (xQ hm)) J i E _ fun g2 s2 v t2 bH=> ?_
   obtain ⟨az,c9,wr,St,b4,eQ,r8,rF,gx,DK⟩:=bH
   have f2:c2 T g2 cx env σ s2.heap:=i.fr.a5 t2 i.wd
   refine xA (Zh ?_)
   have Vd: ∀b∈c9,(∃o,s2.heap.get? b=some o)∧ ¬ek T.dO g2.aA b:=fun b aa=>⟨(gx b aa).1,(gx b aa).2.1⟩
   dsimp only
   generalize Dx:s2.heap.push {cls:= .type "list",dict:=none,data:= .seq ([]:List af).toArray}=H1
   have wa:H1.objs.size=s2.heap.objs.size+1:=by rw[←Dx];exact pa ..
   have tP: ∀b o,s2.heap.get? b=some o→H1.get? b=some o:=fun b o e=>by rw[←Dx];exact eE _ e
   have UJ:H1.get? s2.heap.objs.size=some {cls:= .type "list",dict:=none,data:= .seq ([]:List af).toArray}:=by rw[←Dx];exact eO _ rfl
   have rN: ∀b o,H1.get? b=some o→(pushCells (H1.push {cls:= .type "dict",data:= .dict #[]}) bj.names).get? b=some o:=fun b o e=>Og _ _ b o (eE _ e)
   have hJ:(pushCells (H1.push {cls:= .type "dict",data:= .dict #[]}) bj.names).Ns H1.objs.size fun _=>none:=(Heap.Ns.new H1 (.type "dict")).keeps (Og _ _)
   have iv: ∀n c,(n,c)∈cellsFrom (H1.objs.size+1) bj.names (h1 env bj.names [])→(n,c)∈h1 env bj.names []∨(H1.objs.size+1≤c∧(pushCells (H1.push {cls:= .type "dict",data:= .dict #[]}) bj.names).IsCell c none∧(n,NameKind.cell)∈bj.names):=fun n c hm=>by
    have ag:(H1.push {cls:= .type "dict",data:= .dict #[]}).objs.size=H1.objs.size+1:=pa ..
    rw[←ag] at hm⊢
    exact QC hm
   generalize pushCells (H1.push {cls:= .type "dict",data:= .dict #[]}) bj.names=ih at rN hJ iv
   have aX: ∀b o,s2.heap.get? b=some o→ih.get? b=some o:=fun b o e=>rN b o (tP b o e)
   have lA:s2.heap.get? s2.heap.objs.size=none:=iD _
   have Dz:s2.heap.get? H1.objs.size=none:=k9 (by rw[wa];exact nW _)
   have Jv:s2.heap.objs.size≠H1.objs.size:=by rw[wa];exact (aeF _).symm
   have Ju:ih.get? s2.heap.objs.size=some {cls:= .type "list",dict:=none,data:= .seq ([]:List af).toArray}:=rN _ _ UJ
   obtain ⟨O7,Pn,Il,VF⟩:=f2.comp b4 ix H1.objs.size (by rw[wa];exact nW _) aX hJ iv
   have t3:bK T g2 s2 (g2.news s2.heap ih) {s2 with heap:=ih,toks:=s2.toks}:= .news aX (a3 _)
   have hg:aL T (g2.news s2.heap ih) w1 {s2 with heap:=ih,toks:=s2.toks}:=b4.news aX (a3 _)
   have UL: ∀x c,dq bj x=true→(compEnv bj H1.objs.size env).cells.lookup x=some c→s2.heap.objs.size≠c:=fun x c ae ai=>jX (qP (wa▸gF _) (Il x c ae ai))
   have inv:ie T {cx with sc:=bj} (compEnv bj H1.objs.size env) (σ.hide (Scope.dC bj)) (fun b=>(∃o,s2.heap.get? b=some o)∧b∉wr) g2 s2 wr St s2.heap.objs.size 0 (g2.news s2.heap ih) w1 [] [] {s2 with heap:=ih,toks:=s2.toks}:={
    bR:=t3.bR b4
    wd:=hg
    fr:=O7
    bd:=G.nG b4 lA Ju
    lst:=⟨_,Ju,rfl,0,rfl⟩
    aW:= .nil
    st:=eQ.frame 0 _ _ r8 fun b aa o e=>aX b o e
    wr:=fun b aa=>(rF b aa).1.xo t3 b4}
   have loop:codeAny (bo T.prog T.w) A (.compLoop (.ListComp elt [⟨tgt,it,ifs,0⟩] bj pos) 0 (.ref az) (.ref s2.heap.objs.size) (compEnv bj H1.objs.size env))
     (compPost (bo T.prog T.w) A E use Q (.ref s2.heap.objs.size) H1.objs.size) {s2 with heap:=ih}:=by
    refine Ro (cx:={cx with sc:=bj}) (K:=fun b=>(∃o,s2.heap.get? b=some o)∧b∉wr) (K':=fun b=>b≠H1.objs.size∧ ∀x c,dq bj x=true→(compEnv bj H1.objs.size env).cells.lookup x=some c→b≠c) (N:=n+1) cJ rfl i.bZ eQ Vd (fun b z=>⟨z.2,z.1⟩) (fun b z=> ?_) ⟨Jv,fun x c ae ai=>UL x c ae ai⟩ lA Pn a6 (fun x ae=> ?_) (fun c1 agz done dV s4 j c x l ae aj aT=> ?_) (a3 _) ah inv fun c1 dV s4 bp aU c tQ hle=> ?_
    ·obtain ⟨o,e⟩:=z
     exact ⟨fun q=>nn (Dz.symm.trans (q▸e)),fun x c ae ai q=>nn ((k9 (fK (qP (wa▸gF _) (Il x c ae ai)))).symm.trans (q▸e))⟩
    ·rw[ar.y4,if_pos (K9 ae)]
    ·refine gT (VF x l ae aj) fun d0 a q=>q.2.2.1.elim fun o aV=>q.2.2.2.1.elim fun ags VA=> ?_
     have rt:d0∉wr:=fun z=>jc (DK d0 z) fun cE bk e hh=>nomatch (congrArg pk (inj (aV.1.symm.trans e))).symm.trans aV.2|>.symm.trans hh
     have eo:=c.bR.old d0 o ⟨⟨o,aV.1⟩,rt⟩ aV.1 q.2.2.2.2.2
     exact d9 (aT.cellOf q.2.1) fun de aE aQ _=>aQ.elim fun gL r=>by
      have aQ:some (Value.ref s2.heap.objs.size)=some (.ref a):=by
       have gG:=r.1
       rw[←inj (q.1.symm.trans aE),eo] at gG
       rw[←inj gG,aV.2] at r
       injection r.2.symm
      injection inj aQ with aQ
      exact nn (lA.symm.trans (aQ▸VA))
    ·
     have vN:H1.objs.size∉wr:=fun z=>jc (eQ.live _ _ r8 _ z) fun o bk e _=>nn (Dz.symm.trans e)
     have zd:s2.heap.objs.size∉wr:=fun z=>jc (eQ.live _ _ r8 _ z) fun o bk e _=>nn (lA.symm.trans e)
     have sV:cy T c1 H1.objs.size:=c.fr.loc
     have CR:aL T (c1.less wr) w' {s4 with heap:=bp,toks:=aU}:=c.wd.less c.wr tQ hle
     have wW: ∀{b o},s.heap.get? b=some o→b∉wr:=fun {b o} e z=>nn ((rF b z).2.symm.trans e)
     have fin:bK T g s (c1.less wr) {s4 with heap:=bp,toks:=aU}:={
      keep:=fun b o e nw=>
       have aE:=t2.keep b o e nw
       tQ b o (wW e) (c.bR.old b o ⟨⟨o,aE⟩,wW e⟩ aE fun z=>(t2.ef b z).elim nw fun z=>nn (z.symm.trans e))
      ex:=fun b o e=>(t2.ex b o e).elim fun gL aE=>(c.bR.ex b gL aE).imp fun rX eo=>tQ b rX (wW e) eo
      hb:=fun b z=>(i.wd.ex b z).elim fun o e=>⟨c.bR.lJ b ⟨t2.ex b o e,wW e⟩ (t2.hb b z),wW e⟩
      iQ:=fun b z=>(c.bR.iQ z.1).elim (t2.iQ b) fun h=> .inr (t2.none h)
      eG:=t2.eG.elim fun a jE=>c.bR.eG.elim fun b oe=>⟨a++b,oe.trans (by rw[jE,jY])⟩
      ef:=fun b z=>(c.bR.ef b z).elim (t2.ef b) fun h=> .inr (t2.none h)
      gens:=c.bR.gens.trans t2.gens
      os:=c.bR.os.trans t2.os
      aU:=c5 (c5 t2.aU c.bR.aU) hle}
     refine c.fr.dict.elim fun K1 zy=> ?_
     refine k _ _ _ _ fin ⟨s2.heap.objs.size,dV,rfl,t2.none lA,CR,⟨⟨c.bd.1,zd⟩,c.bd.2⟩,?_,?_⟩ ⟨⟨sV.1,vN⟩,sV.2⟩ (t2.none Dz) Jv ⟨K1,zy.at fun o e=>tQ _ o vN e⟩
     ·obtain ⟨o,e,r⟩:=c.lst
      exact ⟨o,tQ _ o zd e,r⟩
     ·have bF:cH c1.B s4.heap (c1.less wr).B bp:= .less (fun b aa=>(c.wr b aa).1) tQ
      have:=c.aW.bF bF []
      rwa [fF] at this
   exact codeAny_compStart_list loop (eQ.self 0 _ _ _ inv.st loop)
theorem Zi (cJ: ∀m,m≤n+1→cU T m) {elt it:Expr} {ifs:List Expr} {pos:Pos} {bj:Scope} {l:List I} (ah:gj (n+1+1) cx (.ListComp elt [⟨tgt,it,ifs,0⟩] bj pos) σ w=some (l,w')) (i:cD T cx env σ A g w s):
  aK T A (eval (.ListComp elt [⟨tgt,it,ifs,0⟩] bj pos) env) g s (j2 T s w' l):=by
 intro E Q k
 rw[eval_ListComp]
 refine Ir cJ ah i fun g1 s1 D C t1 a4 j6 hI Dv hm=> ?_
 obtain ⟨m,hm⟩:=hm
 refine ⟨m,hm,fun U gm=> ?_⟩
 obtain ⟨a,vs,e,aJ,bb,q6,ai,aW⟩:=a4
 cases e
 have aa: ∀b∈[C],cy T g1 b∧s.heap.get? b=none:=fun b z=>by rw[fs] at z;subst z;exact ⟨j6,hI⟩
 have aX: ∀b o,b∉[C]→s1.heap.get? b=some o→U.get? b=some o:=fun b o z e=>(gm.2 b (by simpa using z)).trans e
 refine k (g1.less [C]) _ _ (t1.less (t:=s1.toks) i.wd aa aX (a3 _)) ⟨D,vs,rfl,aJ,bb.less (fun b z=>(aa b z).1) aX (a3 _),⟨⟨q6.1,by simpa using Dv⟩,q6.2⟩,?_,?_⟩
 ·obtain ⟨o,e,r⟩:=ai
  exact ⟨o,aX _ o (by simpa using Dv) e,r⟩
 ·have bF:cH g1.B s1.heap (g1.less [C]).B U:= .less (fun b z=>(aa b z).1.1) aX
  have:=aW.bF bF []
  rwa [fF] at this
end
structure bz (T:bE) (K:au→Prop) (cx:a') (env:Env) (σ:ar) (A:bO) (g:G) (w:W) (s:aw):Prop where
 fr:c2 T g cx env σ s.heap
 wd:aL T g w s
 bZ:Room (20*cx.d+20) A
 wr:pD K cx env
 own: ∀x l a,σ.get x= .own l→(∃k,cx.sc.names.lookup x=some k∧k≠ .globalImplicit)→cg T g s.heap env x (some (.ref a))→ ¬K a
 hq: ∀b,K b→ ∃o,s.heap.get? b=some o
 sc:env.scope=cx.sc
 di:interactive env=false
section
variable {T:bE} {K K':au→Prop} {cx:a'} {env:Env} {σ σ':ar} {A:bO} {g g' fh gw bh:G} {w w' w1:W} {s s' fq br:aw} {n j:Nat} {tgt:Expr} {wr c9:List au} {St:Nat→aR→Prop} {D az:au} {done:List I} {dV:List af} {items:List I}
theorem bz.eK (f:bz T K cx env σ A g w s):cD T cx env σ A g w s:=⟨f.fr,f.wd,f.bZ⟩
theorem bz.a5 (f:bz T K cx env σ A g w s) (t:bK T g s g' s') (d:aL T g' w' s'):bz T K cx env σ A g' w' s' where
 fr:=f.fr.a5 t f.wd
 wd:=d
 bZ:=f.bZ
 wr:=f.wr
 own x l a e q z:=by
  obtain ⟨k,aj,aT⟩:=id q
  obtain ⟨v,dH,_⟩:=f.fr.nm x k aj aT
  exact f.own x l a e q (dH.back (dH.a5 t f.wd f.fr.loc) z)
 hq b z:=let ⟨o,e⟩:=f.hq b z;t.ex b o e
 sc:=f.sc
 di:=f.di
noncomputable def ownAt (T:bE) (g:G) (cx:a') (env:Env) (σ:ar) (h:aR) (xs:List Str) (b:au):Prop:=
 ∃x l,xs.contains x=true∧σ.get x= .own l∧(∃k,cx.sc.names.lookup x=some k∧k≠ .globalImplicit)∧cg T g h env x (some (.ref b))
theorem kZ {x:Str} {l:List I} {b:au} (f:c2 T g cx env σ s.heap) (e:σ.get x= .own l) (q: ∃k,cx.sc.names.lookup x=some k∧k≠ .globalImplicit) (n:cg T g s.heap env x (some (.ref b))):
  ∃vs,cy T g b∧c6 s.heap b (mU vs)∧IsL g.B g.aA s.heap l vs:=
 b5 q fun k aj aT=>b5 (f.nm x k aj aT) fun v dH sl=>hG (e▸sl:fO T g s.heap (.own l) v) fun a vs ev aa ai aW=>by
  cases inj (ev.symm.trans (dH.one n))
  exact ⟨vs,aa,ai,aW⟩
theorem bz.Au {h':aR} (f:bz T K cx env σ A g w s) (jF: ∀{x v},cg T g s.heap env x v→cg T g' h' env x v) (nK: ∀y m,σ'.get y= .own m→ ∃fm,σ.get y= .own fm):
  ∀x l a,σ'.get x= .own l→(∃k,cx.sc.names.lookup x=some k∧k≠ .globalImplicit)→cg T g' h' env x (some (.ref a))→ ¬K a:=
 fun x l a e q z=>(nK x l e).elim fun m aE=>b5 q fun k aj aT=>b5 (f.fr.nm x k aj aT) fun v dH _=>f.own x m a aE q (dH.back (jF dH) z)
noncomputable def ip (c:Bool):Slot→Slot
 | .own l=>if c then .val (.list l) else .own l
 |u=>u
theorem ar.Jf (σ:ar) (xs:List Str) (x:Str):(σ.freeze xs).get x=ip (xs.contains x) (σ.get x):=by
 rw[ar.Uo]
 cases xs.contains x<;>cases σ.get x<;>rfl
theorem bz.freeze (f:bz T K cx env σ A g w s) (xs:List Str): ∃g',cV T K g s g' s∧bz T K cx env (σ.freeze xs) A g' w s:=by
 have bS: ∀{b},ownAt T g cx env σ s.heap xs b→(∃vs,cy T g b∧c6 s.heap b (mU vs))∧ ¬K b:=fun {b} p=>hG p fun x l _ e q n=>⟨(kZ f.fr e q n).elim fun vs r=>⟨vs,r.1,r.2.1⟩,f.own x l b e q n⟩
 generalize JB:ownAt T g cx env σ s.heap xs=P at bS
 have bF:cH g.B s.heap (fun b=>g.B b∧ ¬P b) s.heap:=fun b o e n=>⟨e,fun q=>n q.1⟩
 have bR:cV T K g s ⟨fun b=>g.B b∧ ¬P b,g.aA⟩ s:=⟨bF,fun b o _ e _=>e,fun b k z=>⟨z,fun p=>(bS p).2 k⟩,fun b o e=>⟨o,e⟩,⟨[],(fF _).symm⟩,fun b z=> .inl z,rfl,rfl,a3 _⟩
 have Y6: ∀{b},ek T.dO g.aA b→ ¬P b:=fun {b} z p=>(bS p).1.elim fun _ r=>r.1.2 z
 have jF: ∀{x v},cg T g s.heap env x v→cg T ⟨fun b=>g.B b∧ ¬P b,g.aA⟩ s.heap env x v:=fun {x v} n=>n.move (fun m x=>x) fun c aa aQ=>⟨⟨⟨aa.1,fun p=>(bS p).1.elim fun _ r=>z5 r.2.eV aQ⟩,aa.2⟩,aQ⟩
 have nK: ∀y m,(σ.freeze xs).get y= .own m→ ∃fm,σ.get y= .own fm:=fun y m e=>by
  rw[ar.Jf] at e
  generalize σ.get y=sl at e
  cases sl with
  |own l=>exact ⟨l,rfl⟩
  |unset=>cases e
  |val=>cases e
 refine ⟨_,bR,f.fr.move ⟨⟨f.fr.loc.1,fun p=>(bS p).1.elim fun _ r=>f.fr.dict.elim fun m hm=>wR hm r.2.eV⟩,f.fr.loc.2⟩ (fun m x=>x) jF nK fun x v k dH sl=> ?_,?_,f.bZ,f.wr,f.Au jF nK,f.hq,f.sc,f.di⟩
 ·rw[ar.Jf]
  have sep:=fun y dM l c iT lL t6 aG dH=>f.fr.sep x y l dM c aG iT k lL dH t6
  generalize aG:σ.get x=s0 at sl
  cases s0 with
  |own l=>
   cases ae:xs.contains x with
   |true=>exact hG sl fun c vs ev gs cR ea=>⟨.ref c,ev,.list (fun z=>z.2 (JB▸⟨x,l,ae,aG,k,ev▸dH⟩)) cR (ea.th bF)⟩
   |false=>exact sl.move (sl:= .own l) bF rfl fun c vs _ ev gs cR=>⟨⟨⟨gs.1,JB▸fun p=>hG p fun y dM bl iT lL t6=>hB (ae.symm.trans (sep y dM l c iT lL t6 aG (ev▸dH)▸bl))⟩,gs.2⟩,cR⟩
  |unset=>trivial
  |val p=>exact sl.move (sl:= .val p) bF rfl fun c vs aV=>aV.elim fun l z=>by cases z
 ·exact {
   aU:=f.wd.aU
   base:=fun b o e=>⟨(f.wd.base b o e).1,fun q=>(f.wd.base b o e).2 q.1⟩
   ex:=fun b z=>f.wd.ex b z.1
   dc:=fun b z=>⟨f.wd.dc b z,Y6 z⟩
   tab:=T.lQ f.wd.tab bF fun b o _ e=>e
   len:=f.wd.len
   cO:=fun i l x aF aE=>T.kl (f.wd.cO i l x aF aE) bF fun c o z e=>e
   fg:=f.wd.fg
   eT:=f.wd.eT}
theorem iV {sc:Scope} {x:Str} (h:held sc x=true): ∃k,sc.names.lookup x=some k∧k≠ .globalImplicit:=by
 unfold held at h
 generalize sc.names.lookup x=o at h
 cases o with
 |none=>exact (hB h).elim
 |some k=>exact ⟨k,rfl,fun z=>by rw[z] at h;exact hB h⟩
theorem rZ {sc:Scope} {x:Str} {l:List I} (h:σ.own? sc x=some l):held sc x=true∧σ.get x= .own l∧l.length≤1048576:=by
 refine ⟨ck h,?_⟩
 replace h:=cA h
 generalize σ.get x=sl at h
 cases sl with
 |own dM=>exact ⟨congrArg Slot.own (inj (cA h)),inj (cA h)▸ck h⟩
 |_=>exact (nn h).elim
theorem bz.upd {x:Str} {l dM:List I} {a:au} {vs':List af} {h':aR} {t:Nat} (f:bz T K cx env σ A g w s) (ae:held cx.sc x=true) (e:σ.get x= .own l) (na:cg T g s.heap env x (some (.ref a)))
  (aC: ∀b o,b≠a→s.heap.get? b=some o→h'.get? b=some o) (ai:c6 h' a vs'.toArray) (aW:IsL g.B g.aA s.heap dM vs') (aS:s.toks≤t):
  cV T K g s g {s with heap:=h',toks:=t}∧bz T K cx env (σ.set x (.own dM)) A g w {s with heap:=h',toks:=t}∧cg T g h' env x (some (.ref a))∧(∀y u,cg T g s.heap env y u→cg T g h' env y u):=by
 have q:=iV ae
 refine d9 (kZ f.fr e q na) fun vs aa JV _=> ?_
 have bF:cH g.B s.heap g.B h':=fun aZ o e n=>⟨aC aZ o (fun q=>n (q▸aa.1)) e,n⟩
 have ns: ∀m,s.heap.Ns env.locals m→h'.Ns env.locals m:=fun m x=>x.at fun o e=>aC _ _ (fun q=>wR (q▸x) JV.eV) e
 have jF: ∀{x v},cg T g s.heap env x v→cg T g h' env x v:=fun {x v} n=>n.move ns fun c ah aQ=>⟨ah,aQ.elim fun o e=>⟨o,aC _ _ (fun q=>z5 JV.eV (q▸aQ)) e.1,e.2⟩⟩
 have aJ: ∃o,h'.get? a=some o:=ai.elim fun o e=>⟨o,e.1⟩
 have nK: ∀y m,(σ.set x (.own dM)).get y= .own m→ ∃fm,σ.get y= .own fm:=fun y m bP=>by
  rw[ar.get_set] at bP
  by_cases bl:x=y
  ·exact ⟨l,bl▸e⟩
  ·rw[if_neg bl] at bP;exact ⟨m,bP⟩
 refine ⟨.one (dr:=s.drawn) aa (f.own x l a e q na) aC aJ aS,⟨f.fr.move f.fr.loc ns jF nK fun y v kn dH sl=> ?_,f.wd.one aa aC aJ aS,f.bZ,f.wr,f.Au jF nK,fun b z=>(f.hq b z).elim fun o vw=>⟨o,aC b o (fun kn=>f.own x l a e q na (kn▸z)) vw⟩,f.sc,f.di⟩,jF na,fun y u n=>jF n⟩
 rw[ar.get_set]
 by_cases bl:x=y
 ·rw[if_pos bl]
  exact ⟨a,vs',dH.one (bl▸na),aa,ai,aW.th bF⟩
 ·rw[if_neg bl]
  exact sl.move bF rfl fun c us aV ev ah lc=>⟨ah,lc.elim fun o cR=>⟨o,aC c o (fun z=>aV.elim fun m aG=>bl (f.fr.sep x y l m c e aG q kn (z▸na) (ev▸dH))) cR.1,cR.2⟩⟩
end
inductive l3 (g:G) (h:aR):ej→iM→Prop
 |next:l3 g h .next .next
 |brk:l3 g h .brk .brk
 |cont:l3 g h .cont .cont
 |ret {p v}:Is g.B g.aA h p v→l3 g h (.ret p) (.ret v)
noncomputable def b' (T:bE) (K:au→Prop) (cx:a') (env:Env) (A:bO) (t:Sem iM) (g:G) (s:aw) (r:ej×ar×W):Prop:=
 ∀(E:af→aw→Prop) (Q:iM→aw→Prop),(∀g' s' fl,cV T K g s g' s'→bz T K cx env r.2.1 A g' r.2.2 s'→l3 g' s'.heap r.1 fl→Q fl s')→bc (bo T.prog T.w) A t Q E s
section
variable {T:bE} {K K' X:au→Prop} {cx:a'} {env:Env} {σ σ':ar} {A:bO} {g g' fh gw bh g1:G} {w w' w1:W} {s s' fq br s1:aw} {n j:Nat} {tgt:Expr} {wr c9:List au} {St:Nat→aR→Prop} {D az:au} {done l:List I} {dV:List af} {items:List I} {x:Str} {v:af}
theorem bz.next (f:bz T K cx env σ A g w s) (t:cV T K g s g' s') (fr:c2 T g' cx env σ' s'.heap) (d:aL T g' w' s')
  (own: ∀x l a,σ'.get x= .own l→(∃k,cx.sc.names.lookup x=some k∧k≠ .globalImplicit)→cg T g' s'.heap env x (some (.ref a))→ ¬K a):bz T K cx env σ' A g' w' s':=
 ⟨fr,d,f.bZ,f.wr,own,fun b z=>let ⟨o,e⟩:=f.hq b z;t.ex b o e,f.sc,f.di⟩
theorem bz.kept (f:bz T K cx env σ A g w s) (t:cV T K g s g s') (fr:c2 T g cx env σ' s'.heap) (d:aL T g w' s') (k:Kept T g env σ σ' s s'):bz T K cx env σ' A g w' s':=
 f.next t fr d fun x l a e q z=>by
  obtain ⟨aF,dH⟩:=k x l e
  obtain ⟨jk,aj,aT⟩:=id q
  obtain ⟨u,dw,_⟩:=f.fr.nm x jk aj aT
  have:=(dH u dw).one z
  exact f.own x l a aF q (this▸dw)
theorem bz.ZF (f:bz T K cx env σ A g w s) {y:Str} {u:Option af} {h:aR} (n:cg T g' h env y u): ∃k,cx.sc.names.lookup y=some k∧k≠ .globalImplicit:=by
 have e: ∀k,env.kindOf y=some k→cx.sc.names.lookup y=some k:=fun k h=>by rw[←f.sc];exact h
 rcases n with ⟨k,_⟩|⟨k|k,_⟩
 ·exact ⟨_,e _ k,by decide⟩
 ·exact ⟨_,e _ k,by decide⟩
 ·exact ⟨_,e _ k,by decide⟩
theorem HV {E:af→aw→Prop} {Q:Unit→aw→Prop} (f:bz T K cx env σ A g w s) (t1:bK T g s g1 s1) (r:j2 T s w1 l g1 s1 v) (hm:dq cx.sc x=true) (kO:sO X env x)
  (q: ∀s2,cV T (fun b=>K b∨X b) g1 s1 g1 s2→bz T K cx env (σ.set x (.own l)) A g1 w1 s2→Q () s2):bc (bo T.prog T.w) A (bindName env x v) Q E s1:=by
 obtain ⟨a,vs,rfl,aJ,bb,q6,ai,aW⟩:=r
 have f1:=f.a5 t1 bb
 obtain ⟨k,aj,gI⟩:=oR hm
 have hw:sO (fun b=>K b∨X b) env x:=by
  rcases f.wr x hm with ⟨bt,J⟩|⟨bt,J⟩
  ·rcases kO with ⟨_,U⟩|⟨bB,_⟩
   ·exact .inl ⟨bt,fun z=>z.elim J U⟩
   ·rw[bt] at bB;cases bB
  ·rcases kO with ⟨bB,_⟩|⟨_,U⟩
   ·rw[bt] at bB;cases bB
   ·exact .inr ⟨bt,fun c ah z=>z.elim (J c ah) (U c ah)⟩
 have Zz: ∀y m,σ.get y= .own m→ ¬cg T g1 s1.heap env y (some (.ref a)):=fun y m iT n=>by
  have lL:=f.ZF n
  obtain ⟨wB,vU,v5⟩:=id lL
  obtain ⟨u,dw,_⟩:=f.fr.nm y wB vU v5
  have:=(dw.a5 t1 f.wd f.fr.loc).one n
  subst this
  obtain ⟨vs,_,⟨o,e,_⟩,_⟩:=kZ f.fr iT lL dw
  rw[aJ] at e;cases e
 refine r9 (K:=fun b=>K b∨X b) (sl:= .own l) f1.fr bb aj gI hw ⟨a,vs,rfl,q6,ai,aW⟩ (fun y dM m c bl aF aE cb=>by cases cb;exact Zz y m aE) fun s2 t2 f2 b4 jM i3=>q s2 t2 ?_
 refine f1.next (t2.weak fun b z=> .inl z) f2 b4 fun y m b iT lL t6=> ?_
 rw[ar.get_set] at iT
 split at iT
 ·rename_i bl
  subst bl
  have:=jM.one t6
  cases this
  intro z
  obtain ⟨o,e⟩:=f.hq _ z
  rw[aJ] at e;cases e
 ·rename_i bl
  obtain ⟨wB,vU,v5⟩:=id lL
  obtain ⟨u,dw,_⟩:=f1.fr.nm y wB vU v5
  have:=(i3 y u (eg bl) dw).one t6
  subst this
  exact f1.own y m b iT lL dw
theorem kr {e:Expr} {t:Option Expr} {line:Nat} (h:rJ e=false):swapsWith e t line env=pure false:=by
 cases e<;>first|rfl|(cases h;done)
theorem ad9 (f:bz T K cx env σ A g w s) (hm:dq cx.sc x=true):sO (fun _=>False) env x:=by
 rcases f.wr x hm with ⟨bt,_⟩|⟨bt,_⟩
 ·exact .inl ⟨bt,fun z=>z⟩
 ·exact .inr ⟨bt,fun _ _ z=>z⟩
theorem yi {E:af→aw→Prop} {Q:iM→aw→Prop} {e:Expr} {gM pos:Pos} {p:I} (aC:swapsWith e (some (.Name x gM)) pos.line env=pure false) (f:bz T K cx env σ A g w s) (hm:dq cx.sc x=true)
  (h:aK T A (eval e env) g s (Res T w1 p)) (q: ∀g' s',cV T K g s g' s'→bz T K cx env (σ.set x (.val p)) A g' w1 s'→Q .next s'):bc (bo T.prog T.w) A (exec (.Assign [.Name x gM] e pos) env) Q E s:=by
 rw[Om _ _ _ _ _ aC]
 refine aM (fL (aM (h E _ fun g1 s1 v t1 a4=>aM (fL (aM ?_)))))
 have f1:=f.a5 t1 a4.1
 obtain ⟨k,aj,gI⟩:=oR hm
 refine r9 (K:=K) (sl:= .val p) f1.fr a4.1 aj gI (f.wr x hm) ⟨v,rfl,a4.2⟩ (fun _ _ _ _ _ z=>by cases z) fun s2 t2 f2 b4 jM i3=>b6 (q _ _ ((t1.bR f.wd).trans t2) (f1.kept t2 f2 b4 fun y l e=>AY e fun bl e=>⟨e,fun u=>i3 y u (eg bl)⟩))
theorem HK {E:af→aw→Prop} {Q:iM→aw→Prop} {e:Expr} {gM pos:Pos} (aC:swapsWith e (some (.Name x gM)) pos.line env=pure false) (f:bz T K cx env σ A g w s) (hm:dq cx.sc x=true)
  (h:aK T A (eval e env) g s (j2 T s w1 l)) (q: ∀g' s',cV T K g s g' s'→bz T K cx env (σ.set x (.own l)) A g' w1 s'→Q .next s'):bc (bo T.prog T.w) A (exec (.Assign [.Name x gM] e pos) env) Q E s:=by
 rw[Om _ _ _ _ _ aC]
 refine aM (fL (aM (h E _ fun g1 s1 v t1 a4=>aM (fL (aM ?_)))))
 exact HV f t1 a4 hm (ad9 f hm) fun s2 t2 f2=>b6 (q _ _ ((t1.bR f.wd).trans (t2.weak fun b z=> .inl z)) f2)
theorem PN (cJ: ∀m,m≤n+1→cU T m) {E:af→aw→Prop} {Q:iM→aw→Prop} {elt it:Expr} {ifs:List Expr} {bj:Scope} {s8 gM pos:Pos}
  (aC:swapsWith (.ListComp elt [⟨tgt,it,ifs,0⟩] bj s8) (some (.Name x gM)) pos.line env=pure true) (f:bz T K cx env σ A g w s) (hm:dq cx.sc x=true)
  (ah:gj (n+1+1) cx (.ListComp elt [⟨tgt,it,ifs,0⟩] bj s8) σ w=some (l,w1)) (q: ∀g' s',cV T K g s g' s'→bz T K cx env (σ.set x (.own l)) A g' w1 s'→Q .next s'):bc (bo T.prog T.w) A (exec (.Assign [.Name x gM] (.ListComp elt [⟨tgt,it,ifs,0⟩] bj s8) pos) env) Q E s:=by
 rw[exec_Assign_Name_used _ _ _ _ aC]
 refine aM (fL (aM ?_))
 show bc _ A (do let _←comprehension (.ListComp elt [⟨tgt,it,ifs,0⟩] bj s8) bj env _ (newList []) false (eval it env) (some (assign (.Name x gM) env))) _ _ s
 refine aM ?_
 refine Ir cJ ah f.eK (use:=some (assign (.Name x gM) env)) fun g1 s1 D C t1 a4 j6 hI Dv DU=> ?_
 obtain ⟨m,DU⟩:=DU
 show bc _ A (assign (.Name x gM) env (.ref D)) _ _ s1
 rw[aey]
 refine aM (fL ?_)
 have Dy:env.locals≠C:=fun z=>by
  obtain ⟨m,o,es,df,e,_⟩:=f.fr.dict
  rw[z,hI] at e;cases e
 have UY:sO (fun b=>b=C) env x:=by
  obtain ⟨k,aj,gI⟩:=oR hm
  rcases f.wr x hm with ⟨bt,_⟩|⟨bt,_⟩
  ·exact .inl ⟨bt,Dy⟩
  ·refine .inr ⟨bt,fun c ah z=> ?_⟩
   obtain ⟨u,dw,_⟩:=f.fr.nm x k aj gI
   rcases dw with ⟨bB,_⟩|⟨_,de,rr,⟨o,e,_⟩,_⟩
   ·rw[bt] at bB;cases bB
   ·rw[ah] at rr;cases rr
    rw[z,hI] at e;cases e
 refine HV f t1 a4 hm UY fun s2 t2 f2=> ?_
 have zc:s2.heap.Ns C m:=by
  obtain ⟨o,es,df,e,r⟩:=DU
  exact ⟨o,es,df,t2.old C o (.inr rfl) e j6.2,r⟩
 refine ⟨m,zc,fun av gm=>b6 (b6 ?_)⟩
 have aX: ∀b o,b∉[C]→s2.heap.get? b=some o→av.get? b=some o:=fun b o z e=>(gm.2 b (by simpa using z)).trans e
 have aa: ∀b∈[C],cy T g1 b∧s.heap.get? b=none:=fun b z=>by rw[fs] at z;subst z;exact ⟨j6,hI⟩
 have ro: ∀b∈[C],cy T g1 b∧(∀fk,¬c6 s2.heap b fk)∧(∀v,¬s2.heap.IsCell b v)∧b≠env.locals:=fun b z=>by
  rw[fs] at z;subst z
  exact ⟨j6,fun fk y=>wR zc y.eV,fun v y=>wQ zc y,eg Dy⟩
 have t3:cV T K g s (g1.less [C]) {s2 with heap:=av,toks:=s2.toks}:=((t1.bR f.wd).trans (t2.weak fun b z=> .inl z)).less f.wd aa aX (a3 _)
 have tg:=f2.fr.less ro aX
 refine q _ _ t3 (f.next t3 tg (f2.wd.less (fun b z=>(aa b z).1) aX (a3 _)) fun y m a e lL n=> ?_)
 obtain ⟨wB,vU,v5⟩:=id lL
 obtain ⟨u,dw,_⟩:=f2.fr.nm y wB vU v5
 have tU:cg T (g1.less [C]) av env y u:=by
  rcases dw with ⟨k,m,hm,e⟩|⟨k,c,ah,⟨o,e,aQ⟩,ag⟩
  ·obtain ⟨o,es,df,vw,r⟩:=hm
   exact .inl ⟨k,m,⟨o,es,df,aX _ o (by simpa using Dy) vw,r⟩,e⟩
  ·have JE:c≠C:=fun z=>wQ (v:=u) zc ⟨o,z▸e,aQ⟩
   exact .inr ⟨k,c,ah,⟨o,aX _ o (by simpa using JE) e,aQ⟩,⟨⟨ag.1,by simpa using JE⟩,ag.2⟩⟩
 have:=tU.one n
 subst this
 exact f2.own y m a e lL dw
theorem Rn {e:Expr} {r:List I×W} (pX:rJ e=true) (h:gj (n+1) cx e σ w=some r): ∃a b c d,e= .ListComp a b c d:=by
 cases e with
 |ListComp a b c d=>exact ⟨a,b,c,d,rfl⟩
 |Call=>exact (hB pX).elim
 |List=>exact (hB pX).elim
 |_=>exact (nn h).elim
theorem ZG {e:Expr} {r:I×W} (hf: ¬wm e=true) (h:ev (n+1) cx e σ w=some r):rJ e=false:=by
 cases e with
 |ListComp=>exact (hf rfl).elim
 |SetComp=>exact (nn h).elim
 |DictComp=>exact (nn h).elim
 |_=>rfl
theorem Th (cJ: ∀m,m≤n→cU T m) {e:Expr} {gM pos:Pos} {sl:Slot} (h:rj n cx e σ w=some (sl,w1)) (hm:dq cx.sc x=true) (f:bz T K cx env σ A g w s):b' T K cx env A (exec (.Assign [.Name x gM] e pos) env) g s (.next,σ.set x sl,w1):=by
 cases n with
 |zero=>exact (nn h).elim
 |succ n=>
 refine hp h (fun hf h=>aN h fun r J U=> ?_) fun hf h=>aN h fun r J U E Q q=> ?_
 ·have aE:=w6 U
  rw[←aE.1,←aE.2]
  clear h U aE
  have own:swapsWith e (some (.Name x gM)) pos.line env=pure false→b' T K cx env A (exec (.Assign [.Name x gM] e pos) env) g s (.next,σ.set x (.own r.1),r.2):=fun aC E Q q=>
   HK aC f hm ((cJ n (nW n)).gj J f.eK) fun g' s' t kc=>q g' s' .next t kc .next
  by_cases pX:rJ e=true
  ·cases n with
   |zero=>exact (nn J).elim
   |succ n=>
    refine gZ (Rn pX J) fun elt ge=>gT ge fun gens bj ge=>gZ ge fun s8 ge=> ?_
    subst ge
    refine aN J fun q aG U=> ?_
    obtain rfl:=Im aG
    obtain ⟨b,aa⟩: ∃b,swapsWith (.ListComp elt [⟨q.1,q.2.1,q.2.2,0⟩] bj s8) (some (.Name x gM)) pos.line env=pure b:=⟨_,rfl⟩
    cases b with
    |false=>exact own aa
    |true=>
     cases n with
     |zero=>exact aN (cA U) fun _ av _=>(nn av).elim
     |succ n=>exact fun E Q q=>PN (fun m hm=>cJ m (by exact aH hm)) aa f hm J fun g' s' t kc=>q g' s' .next t kc .next
  ·exact own (kr (any_false pX))
 ·have aE:=w6 U
  rw[←aE.1,←aE.2] at q
  cases n with
  |zero=>exact (nn J).elim
  |succ n=>exact yi (kr (ZG hf J)) f hm ((cJ _ (nW _)).ev J f.eK) fun g' s' t kc=>q g' s' .next t kc .next
end
noncomputable def r4:List Str→List I→ar→ar
 |n::ns,p::ps,σ=>r4 ns ps (σ.set n (.val p))
 |_,_,σ=>σ
set_option backward.match.sparseCases true in
noncomputable def nameOf? (env:Env) (line:Nat):Expr→Option Str
 | .Name id pos=>if (env.kindOf id==some .local&&pos.line==line)=true then some id else none
 |_=>none
theorem acB {ts:List Expr} {a:Nat} {b:Pos} {e:Expr} {line:Nat} {env:Env}:swapsWithSole [.Tuple ts a b] e line env=pure false:=by cases e<;>rfl
theorem acA {ts:List Expr} {a:Nat} {b:Pos} {e:Expr} {env:Env} (h:Bj e=true):
  swappedStores [.Tuple ts a b] e env=pure none∨ ∃line,swappedStores [.Tuple ts a b] e env=pure (some (ts.filterMap (nameOf? env line)))∧(ts.filterMap (nameOf? env line)).length=ts.length∧(ts.length=2∨ts.length=3)∧(ts.filterMap (nameOf? env line)).eraseDups.length=(ts.filterMap (nameOf? env line)).length:=by
 cases e with
 |Tuple vs c p=>
  unfold swappedStores
  dsimp only
  split
  ·exact .inl rfl
  ·rename_i J
   split
   ·exact .inl rfl
   ·split
    ·exact .inl rfl
    ·rename_i av
     split
     ·exact .inl rfl
     ·rename_i a0
      split
      ·rename_i bp
       exact ((sk.mp h).elim a0 fun h=>by rw[bp] at h;exact hB h).elim
      ·simp only[uG,bne_iff_ne,ne_eq,not_or,Classical.not_not,qE,aeJ,beq_iff_eq] at J av
       exact .inr ⟨_,rfl,av.1,J.1.1,av.2⟩
 |_=>exact .inl rfl
section
variable {T:bE} {K K' X:au→Prop} {cx:a'} {env:Env} {σ σ':ar} {A:bO} {g g' fh gw bh g1:G} {w w' w1:W} {s s' fq br s1:aw} {n j:Nat} {tgt:Expr} {wr c9:List au} {St:Nat→aR→Prop} {D az:au} {done l:List I} {dV:List af} {items:List I} {x:Str} {v:af}
theorem Qf {E:af→aw→Prop} {Q:Unit→aw→Prop} {ns:List Str}: ∀{ps:List I} {vs:List af} {σ:ar} {s:aw},(∀n∈ns,dq cx.sc n=true)→ns.length=ps.length→pD K cx env→c2 T g cx env σ s.heap→aL T g w s→IsL g.B g.aA s.heap ps vs→
  (∀s',cV T K g s g s'→c2 T g cx env (r4 ns ps σ) s'.heap→aL T g w s'→Kept T g env σ (r4 ns ps σ) s s'→Q () s')→bc (bo T.prog T.w) A (assignInOrder (ns.map fun n=>bindName env n) vs) Q E s:=by
 induction ns with
 |nil=>
  intro ps vs σ s hm ai wr f d aW q
  cases ps with
  |cons=>exact (sq _ ai.symm).elim
  |nil=>exact aW.iJ▸b6 (q s .refl f d fun y l e=>⟨e,fun u n=>n⟩)
 |cons n ns ay=>
  intro ps vs σ s hm ai wr f d aW q
  cases ps with
  |nil=>exact (sq _ ai).elim
  |cons p ps=>
   refine e5 aW.gE fun v vs' ev i aW=>ev▸ ?_
   show bc _ A (do holding vs' (bindName env n v);assignInOrder (ns.map fun n=>bindName env n) vs') Q E s
   have vY:=hm n eZ
   exact b5 (oR vY) fun k aj gI=>aM (g8 (r9 (K:=K) (sl:= .val p) f d aj gI (wr n vY) ⟨v,rfl,i⟩ (fun _ _ _ _ _ z=>by cases z) fun s1 t1 f1 bb jM i3=>
    ay (fun m h=>hm m (e0 _ h)) (pe ai) wr f1 bb (aW.bR t1) fun s2 t2 f2 b4 bB=>q s2 (t1.trans t2) f2 b4 fun y l e=>
     AY (bB y l e).1 fun bl aF=>⟨aF,fun u dw=>(bB y l e).2 u (i3 y u (eg bl) dw)⟩))
theorem Y' {line:Nat} {t:Expr} {n:Str} (h:nameOf? env line t=some n):kV t=some n:=by
 cases t with
 |Name x p=>exact cA h
 |_=>exact (nn h).elim
theorem Ze {line:Nat} {sc:Scope} {σ':ar} {ts:List Expr}: ∀{ps:List I} {σ:ar},(ts.filterMap (nameOf? env line)).length=ts.length→pI sc ts ps σ=some σ'→
  σ'=r4 (ts.filterMap (nameOf? env line)) ps σ∧(ts.filterMap (nameOf? env line)).length=ps.length∧ ∀n∈ts.filterMap (nameOf? env line),dq sc n=true:=by
 induction ts with
 |nil=>exact fun _ h=>k7.mp (ck h)▸⟨(inj (cA h)).symm,rfl,fun _ h=>nomatch h⟩
 |cons t ts ay=>
  intro ps σ ai h
  cases ps with
  |nil=>exact (nn h).elim
  |cons p ps=>
   refine aN h fun σ1 J U=> ?_
   clear h
   generalize aS:nameOf? env line t=o
   cases o with
   |none=>
    rw[N4 aS] at ai
    exact absurd (aev (nameOf? env line) ts) (by rw[ai];exact afJ _)
   |some n=>
    rw[N5 aS] at ai⊢
    have r:=ay (pe ai) U
    exact aN J fun x ae J=>by
     cases inj ((Y' aS).symm.trans ae)
     exact ⟨r.1.trans (congrArg (r4 _ ps) (inj (cA J)).symm),congrArg (·+1) r.2.1,fun m vX=>(d3.mp vX).elim (fun z=>z▸ck J) (r.2.2 m)⟩
theorem Es {α:Type} {l:List α} (h:l.length=2): ∃a b,l=[a,b]:=by
 cases l with
 |nil=>exact nomatch h
 |cons a l=>
  cases l with
  |nil=>exact nomatch pe h
  |cons b l=>
   cases l with
   |nil=>exact ⟨a,b,rfl⟩
   |cons=>exact absurd (pe (pe h)) (sq _)
theorem KP {α:Type} {l:List α} (h:l.length=3): ∃a b c,l=[a,b,c]:=by
 cases l with
 |nil=>exact nomatch h
 |cons a l=>exact gT (Es (pe h)) fun b c e=>⟨a,b,c,congrArg _ e⟩
theorem abE {ns:List Str} {ps:List I} (h:ns.length=2∨ns.length=3) (ai:ns.length=ps.length) (hd:ns.eraseDups.length=ns.length) (y:Str):(r4 ns.reverse ps.reverse σ).get y=(r4 ns ps σ).get y:=by
 rcases h with h|h
 ·obtain ⟨a,b,rfl⟩:=Es h
  obtain ⟨p,q,rfl⟩:=Es (ai.symm.trans h)
  have dv:a≠b:=by rintro rfl;simp[uH] at hd
  show ((σ.set b (.val q)).set a (.val p)).get y=((σ.set a (.val p)).set b (.val q)).get y
  rw[ar.get_set,ar.get_set,ar.get_set,ar.get_set]
  by_cases J:a=y
  ·subst J;simp[eg dv]
  ·simp[J]
 ·obtain ⟨a,b,c,rfl⟩:=KP h
  obtain ⟨p,q,r,rfl⟩:=KP (ai.symm.trans h)
  have DI:a≠b∧a≠c∧b≠c:=by
   refine ⟨?_,?_,?_⟩
   ·rintro rfl
    rw[uH] at hd
    simp at hd
    rw[lX] at hd
    split at hd<;>simp[uH] at hd
   ·rintro rfl
    rw[uH] at hd
    simp[lX] at hd
    split at hd<;>simp[uH] at hd
   ·rintro rfl
    rw[uH] at hd
    simp[lX] at hd
    split at hd<;>simp[uH] at hd
  show (((σ.set c (.val r)).set b (.val q)).set a (.val p)).get y=(((σ.set a (.val p)).set b (.val q)).set c (.val r)).get y
  rw[ar.get_set,ar.get_set,ar.get_set,ar.get_set,ar.get_set,ar.get_set]
  by_cases J:a=y
  ·subst J;simp[eg DI.1,eg DI.2.1]
  ·by_cases U:b=y
   ·subst U;simp[J,eg DI.2.2]
   ·simp[J,U]
theorem IsL.reverse {B:au→Prop} {aA:List c3} {h:aR} {l:List I}: ∀{vs:List af},IsL B aA h l vs→IsL B aA h l.reverse vs.reverse:=by
 induction l with
 |nil=>intro vs x;exact x.iJ▸ .nil
 |cons p l ay=>
  intro vs x
  refine e5 x.gE fun u vs e a b=>e▸ ?_
  rw[aeK,aeK]
  exact (ay b).append (.cons a .nil)
theorem Tj (cJ: ∀m,m≤n→cU T m) {e:Expr} {ts:List Expr} {a:Nat} {b pos:Pos} {p:I} (ix:Bj e=true) (h:ev n cx e σ w=some (p,w1)) (aa:gc cx.sc (.Tuple ts a b) p σ=some σ') (f:bz T K cx env σ A g w s):
  b' T K cx env A (exec (.Assign [.Tuple ts a b] e pos) env) g s (.next,σ',w1):=by
 intro E Q q
 rw[exec_Assign_arm]
 refine aM (fL ?_)
 rw[acB]
 refine aM (b6 ?_)
 rw[if_neg (by decide)]
 refine aM ((cJ n (a3 n)).ev h f.eK E _ fun g1 s1 v t1 a4=> ?_)
 have f1:=f.a5 t1 a4.1
 refine (acA (ts:=ts) (a:=a) (b:=b) (env:=env) ix).elim (fun aC=> ?_) fun aC=>rf aC fun line aC ai Jt JI=> ?_
 ·rw[aC]
  refine aM (b6 ?_)
  show bc _ A (do assignAll v [assign (.Tuple ts a b) env];pure .next) Q E s1
  exact aM (yp f.bZ.handled aa f.wr f1.fr a4.1 a4.2 fun s2 t2 f2 b4 bB=>b6 (q _ _ _ ((t1.bR f.wd).trans t2) (f1.kept t2 f2 b4 bB) .next))
 ·rw[aC]
  refine aM (b6 ?_)
  have step: ∀{ps:List I} {vs:List af},pI cx.sc ts ps σ=some σ'→IsL g1.B g1.aA s1.heap ps vs→(∀eR:List af→aw→Prop,(∀h',(∀b o,s1.heap.get? b=some o→h'.get? b=some o)→eR vs {s1 with heap:=h'})→bc (bo T.prog T.w) A (unpackItems v vs.length none) eR E s1)→
    bc (bo T.prog T.w) A (assignStores env v (some (ts.filterMap (nameOf? env line))) ((assignEach [.Tuple ts a b] env).map (·.2))) Q E s1:=fun {ps vs} rp aW dh=>by
   have na:=Ze ai rp
   have bM:=fun y=>abE (σ:=σ) (ai▸Jt) na.2.1 JI y
   generalize ts.filterMap (nameOf? env line)=ns at na bM
   show bc _ A (do rule "assign.swapped-stores";let items←unpackItems v ns.length none;assignInOrder (ns.reverse.map fun n=>bindName env n) items.reverse;pure .next) Q E s1
   refine aM (BA (aM ?_))
   rw[na.2.1,aW.length]
   refine dh _ fun h' aX=> ?_
   have t2:bK T g1 s1 g1 {s1 with heap:=h'}:= .grow (t:=s1.toks) (dr:=s1.drawn) aX (a3 _)
   have b4:=a4.1.grow (s':={s1 with heap:=h'}) aX (a3 _)
   have f2:=f1.a5 t2 b4
   exact aM (Qf (fun n aT=>na.2.2 n (List.mem_reverse.mp aT)) (by rw[aeL,aeL,na.2.1]) f.wr f2.fr b4 (aW.a5 t2 a4.1).reverse fun s3 t3 dn hg c4=>b6
    (q _ _ _ (((t1.trans t2).bR f.wd).trans t3) (f2.kept t3 (dn.weak fun y=> .inl ((congrArg (ar.get · y) na.1).trans (bM y).symm)) hg fun y l e=>c4 y l ((bM y).trans ((congrArg (ar.get · y) na.1.symm).trans e))) .next))
  clear ai Jt JI
  refine aN (show (MD p).bind (fun l=>pI cx.sc ts l σ)=some σ' from aa) fun ps tF rp=> ?_
  have ea:=a4.2
  clear aa q aC a4 h
  cases ea with
  |tup nb aS aW=>
   refine step (inj tF▸rp) aW fun eR aG=> ?_
   have:=wpAny_unpackItems_tuple (prog:=T.prog) (w:=T.w) (E:=E) (Q:=eR) f.bZ.handled aS fun h' ae=>aG h' (y8 ae)
   rwa [eN] at this
  |list nb aS aW=>
   refine step (inj tF▸rp) aW fun eR aG=> ?_
   have:=NA (prog:=T.prog) (wd:=T.w) (E:=E) (Q:=eR) f.bZ.handled aS.eV fun h' ae=>aG h' (y8 ae)
   rwa [eN] at this
  |_=>exact (nn tF).elim
end
section
variable {T:bE} {K K' X:au→Prop} {cx:a'} {env:Env} {σ σ':ar} {A:bO} {g g' fh gw bh g1:G} {w w' w1:W} {s s' fq br s1:aw} {n j:Nat} {tgt:Expr} {wr c9:List au} {St:Nat→aR→Prop} {D az:au} {done l:List I} {dV:List af} {items:List I} {x:Str} {v:af}
theorem bz.ownAt (f:bz T K cx env σ A g w s) (ae:held cx.sc x=true) (e:σ.get x= .own l): ∃a vs,cg T g s.heap env x (some (.ref a))∧cy T g a∧c6 s.heap a (mU vs)∧IsL g.B g.aA s.heap l vs:=
 b5 (iV ae) fun k aj aT=>b5 (f.fr.nm x k aj aT) fun v dH sl=>hG (e▸sl:fO T g s.heap (.own l) v) fun a vs ev aa ai aW=>⟨a,vs,ev▸dH,aa,ai,aW⟩
theorem c6.raw {h:aR} {a:au} {fk:Array af} (x:c6 h a fk): ∃m,h.get? a=some {cls:= .type "list",data:= .seq fk m}:=d9 x fun o e _ r=>r.elim fun m q=>⟨m,q▸e⟩
theorem I3 {k:Int} (h:small k=true):Oo k=true:=by
 have:=qu h
 unfold Oo
 simp only[mW,decide_eq_true_eq]
 exact this
theorem wH {h:aR} {a:au} {fk its':Array af} {m:Nat} (ai:h.get? a=some {cls:= .type "list",data:= .seq fk m}) (F:Array af→Array af) (e:F fk=its'):
  c6 (h.update a (Obj.mapSeq F)) a its'∧ ∀b o,b≠a→h.get? b=some o→(h.update a (Obj.mapSeq F)).get? b=some o:=by
 subst e
 refine ⟨⟨_,PySem.IsL.update (n:=m) ai F,rfl,_,rfl⟩,fun b o aa e=>(BB h _ (eg aa)).trans e⟩
theorem MF {E:af→aw→Prop} {Q:Unit→aw→Prop} {a:au} {k:Int} {t:Tok} {vs:List af} (ai:c6 s.heap a vs.toArray) (aP:gV k vs.length=some j)
  (q: ∀h',(∀b o,b≠a→s.heap.get? b=some o→h'.get? b=some o)→c6 h' a (vs.set j v).toArray→Q () {s with heap:=h'}):bc (bo T.prog T.w) A (setItem (.ref a) (.int k t) v) Q E s:=by
 refine en ai.raw fun m aV=> ?_
 have oL:=Fl (cA aP)
 have bd:=qu (ck aP)
 by_cases h0:0≤k
 ·have cR:=wH aV (·.setIfInBounds k.toNat v) (aeM ..)
  have e:=oL.2.1 h0
  exact ki_setAt aV h0 bd.2 (by rw[eN];exact (Gb h0).mp (ic (b0 e.symm) oL.1)) (q _ cR.2 (e▸cR.1))
 ·have e:=oL.2.2 (uU.mp h0)
  have cR:=wH (its':=(vs.set j v).toArray) aV (·.setIfInBounds (k+vs.toArray.size).toNat v) (by rw[eN,←e.2];exact aeM ..)
  exact ki_setBack aV (uU.mp h0) (by rw[eN];exact BU (by rw[B2];exact e.1)) bd.1 (q _ cR.2 cR.1)
theorem Un {E:af→aw→Prop} {Q:af→aw→Prop} {a:au} {k:Int} {t:Tok} {vs:List af} {u:af} (ai:c6 s.heap a vs.toArray) (aP:gV k vs.length=some j) (dh:vs[j]?=some u)
  (q:Q u s):bc (bo T.prog T.w) A (getItem (.ref a) (.int k t)) Q E s:=by
 have oL:=Fl (cA aP)
 have bd:=qu (ck aP)
 by_cases h0:0≤k
 ·exact wpAny_getItem_list ai.eV h0 bd.2 (by rw[←oL.2.1 h0];exact si.trans dh) q
 ·have e:=oL.2.2 (uU.mp h0)
  exact aet ai.eV (uU.mp h0) (by rw[eN];exact BU (by rw[B2];exact e.1)) bd.1 (by rw[eN,←e.2];exact si.trans dh) q
theorem Ti (cJ: ∀m,m≤n→cU T m) {e i:Expr} {jq sp pos:Pos} {p aX:I} {k:Int} {h9:W} (ah:rJ e=false) (J:ev n cx e σ w=some (p,w1)) (U:ev n cx i σ w1=some (aX,h9)) (aV:σ.own? cx.sc x=some l) (aj:intOf aX=some k) (aP:gV k l.length=some j)
  (f:bz T K cx env σ A g w s):b' T K cx env A (exec (.Assign [.Subscript (.Name x jq) i sp] e pos) env) g s (.next,σ.set x (.own (l.set j p)),h9):=fun E Q q=>
 have o:=rZ aV
 have S:=cJ n (a3 n)
 wpAny_Assign_Subscript (S.ev J f.eK E _ fun g1 s1 v t1 a4=>have f1:=f.a5 t1 a4.1;hG (f1.ownAt o.1 o.2.1) fun a vs na _ _ _=>b5 (iV o.1) fun jk ny _=>nameP f1.fr ny na (S.ev U f1.eK E _ fun g2 s2 cw t2 bH=>
  have f2:=f1.a5 t2 bH.1
  have tW:=na.a5 t2 a4.1 f1.fr.loc
  d9 (kZ f2.fr o.2.1 (iV o.1) tW) fun Bq _ oD Kp=>en (kH aj▸bH.2:Is g2.B g2.aA s2.heap (.int k) cw).jS fun t ev=>ev▸MF oD (j:=j) (Kp.length▸aP) fun h' h5 vV=>
   have u:=f2.upd (t:=s2.toks) o.1 o.2.1 tW h5 vV (Kp.set j (a4.2.a5 t2 a4.1)) (a3 _)
   q _ _ _ (((t1.trans t2).bR f.wd).trans u.1) u.2.1 .next)) (kr ah)
theorem HO {op:iO} {a b r:I} {eD fA:af} (e:m' op a b=some r) (d:aL T g w s) (di:Is g.B g.aA s.heap a eD) (hn:Is g.B g.aA s.heap b fA):aK T A (inplaceOp op eD fA) g s (Res T w r):=by
 refine .val d fun E Q k=> ?_
 cases di with
 |int i t=>
  refine aN e fun j aa e=> ?_
  obtain ⟨u,rfl⟩:=(kH aa▸hn).jS
  cases op with
  |Add=>exact AutoIntOps.iadd_0 (k _ _ (.fx (.int _ _) e))
  |Sub=>exact AutoIntOps.isub_0 (k _ _ (.fx (.int _ _) e))
  |_=>exact (nn e).elim
 |str x t=>
  refine aN e fun y aa e=> ?_
  obtain ⟨u,rfl⟩:=(pG aa▸hn).h8
  cases op with
  |Add=>exact iadd_str (fun gD aU=>k _ aU (.fx (.str _ _) (cA e))) (c5 (ck e) (by decide))
  |_=>exact (nn e).elim
 |_=>exact (nn e).elim
theorem PR {i:Expr} (ah:isSlice i=false): ∀kY cw new,augStore i kY cw new=(do holding [new,kY,cw] (setItem kY cw new);release [new,kY,cw] [];pure .next):=by
 intro kY cw new
 cases i with
 |Slice=>exact (hB ah.symm).elim
 |_=>rfl
theorem To (cJ: ∀m,m≤n→cU T m) {e i:Expr} {op:iO} {jq sp pos:Pos} {p aX r lK:I} {k:Int} {h9:W} (ah:isSlice i=false) (J:ev n cx i σ w=some (aX,w1)) (U:ev n cx e σ w1=some (p,h9)) (aV:σ.own? cx.sc x=some l) (aj:intOf aX=some k) (aP:gV k l.length=some j)
  (aG:l[j]?=some lK) (a7:m' op lK p=some r) (f:bz T K cx env σ A g w s):b' T K cx env A (exec (.AugAssign (.Subscript (.Name x jq) i sp) op e pos) env) g s (.next,σ.set x (.own (l.set j r)),h9):=fun E Q q=>
 have o:=rZ aV
 have S:=cJ n (a3 n)
 hG (f.ownAt o.1 o.2.1) fun a vs na _ _ _=>b5 (iV o.1) fun jk ny _=>wpAny_AugAssign_SubscriptAny (nameP f.fr ny na (S.ev J f.eK E _ fun g1 s1 cw t1 a4=>
  have f1:=f.a5 t1 a4.1
  have mF:=na.a5 t1 f.wd f.fr.loc
  d9 (kZ f1.fr o.2.1 (iV o.1) mF) fun xw _ mm ho=>b5 (ho.get aG) fun u dh eW=>en (kH aj▸a4.2:Is g1.B g1.aA s1.heap (.int k) cw).jS fun t ev=>ev▸Un mm (j:=j) (ho.length▸aP) dh
   (S.ev U f1.eK E _ fun g2 s2 v t2 bH=>
    have f2:=f1.a5 t2 bH.1
    have tW:=mF.a5 t2 a4.1 f1.fr.loc
    HO a7 bH.1 (eW.a5 t2 a4.1) bH.2 E _ fun g3 s3 ht t3 gk=>
     have dn:=f2.a5 t3 gk.1
     have Lj:=tW.a5 t3 bH.1 f2.fr.loc
     d9 (kZ dn.fr o.2.1 (iV o.1) Lj) fun NL _ vW wk=>MF vW (j:=j) (wk.length▸aP) fun h' h5 vV=>
      have u:=dn.upd (t:=s3.toks) o.1 o.2.1 Lj h5 vV (wk.set j gk.2) (a3 _)
      q _ _ _ ((((t1.trans t2).trans t3).bR f.wd).trans u.1) u.2.1 .next))) (PR ah)
theorem X7 {E:af→aw→Prop} {Q:af→aw→Prop} {k:fB} (f:c2 T g cx env σ s.heap) (aj:cx.sc.names.lookup x=some k) (aT:cg T g s.heap env x (some v)) (h:Q v s):bc (bo T.prog T.w) A (loadName env x) Q E s:=by
 obtain ⟨J,U⟩:=f.ok x k aj
 rcases aT with ⟨k,m,hm,e⟩|⟨k,c,ah,aQ,ag⟩
 ·exact Bu f.kind k hm e h
 ·rcases k with k|k
  ·exact aep f.kind k ah aQ h
  ·exact aeq f.kind k ah aQ h U
theorem IW (cJ: ∀m,m≤n→cU T m) {e:Expr} {op:iO} {jq pos:Pos} {p r lK:I} (ae:dq cx.sc x=true) (aQ:valOf (σ.get x)=some lK) (J:ev n cx e σ w=some (p,w1)) (a7:m' op lK p=some r) (f:bz T K cx env σ A g w s):
  b' T K cx env A (exec (.AugAssign (.Name x jq) op e pos) env) g s (.next,σ.set x (.val r),w1):=by
 intro E Q q
 have S:=cJ n (a3 n)
 have bM:σ.get x= .val lK:=by
  generalize σ.get x=sl at aQ
  cases sl with
  |val p=>exact congrArg Slot.val (inj aQ)
  |_=>exact (nn aQ).elim
 refine b5 (oR ae) fun k aj gI=>b5 (f.fr.nm x k aj gI) fun v jM sl=>b5 (bM▸sl:fO T g s.heap (.val lK) v) fun u fH eW=> ?_
 rw[exec_AugAssign_Name]
 refine aM (fL (aM (X7 f.fr aj (fH▸jM) (aM (g8 (S.ev J f.eK E _ fun g1 s1 v t1 a4=> ?_))))))
 have f1:=f.a5 t1 a4.1
 refine aM (fL (aM (wpAny_operating (HO a7 a4.1 (eW.a5 t1 f.wd) a4.2 E _ fun g2 s2 ht t2 bH=>aM (fL (aM ?_))))))
 have f2:=f1.a5 t2 bH.1
 refine r9 (K:=K) (sl:= .val r) f2.fr bH.1 aj gI (f.wr x ae) ⟨ht,rfl,bH.2⟩ (fun _ _ _ _ _ z=>by cases z) fun s3 t3 dn hg agp i3=>b6 (q _ _ _ (((t1.trans t2).bR f.wd).trans t3) (f2.kept t3 dn hg fun y l e=> ?_) .next)
 exact AY e fun bl e=>⟨e,fun u=>i3 y u (eg bl)⟩
theorem Kq {B:au→Prop} {aA:List c3} {h:aR} {vs:List af} (aW:IsL B aA h l vs) (j:Nat):IsL B aA h (l.eraseIdx j) (vs.eraseIdx j):=by
 rw[Oq,Oq]
 exact (aW.take j).append (aW.drop (j+1))
theorem IP {vs:List af} {j:Nat}:(vs.toArray.eraseIdxIfInBounds j)=(vs.eraseIdx j).toArray:=by simp
theorem Tp (cJ: ∀m,m≤n→cU T m) {i:Expr} {jq sp pos:Pos} {aX:I} {k:Int} (J:ev n cx i σ w=some (aX,w1)) (aV:σ.own? cx.sc x=some l) (aj:intOf aX=some k) (aP:gV k l.length=some j) (f:bz T K cx env σ A g w s):
  b' T K cx env A (exec (.Delete [.Subscript (.Name x jq) i sp] pos) env) g s (.next,σ.set x (.own (l.eraseIdx j)),w1):=fun E Q q=>
 have o:=rZ aV
 have S:=cJ n (a3 n)
 hG (f.ownAt o.1 o.2.1) fun a vs na _ _ _=>b5 (iV o.1) fun jk ny _=>wpAny_Delete (wpAny_deleteEach_cons (wpAny_delete_Subscript (nameP f.fr ny na (S.ev J f.eK E _ fun g1 s1 cw t1 a4=>
  have f1:=f.a5 t1 a4.1
  have mF:=na.a5 t1 f.wd f.fr.loc
  d9 (kZ f1.fr o.2.1 (iV o.1) mF) fun xw _ mm ho=>en mm.raw fun m ki=>en (kH aj▸a4.2:Is g1.B g1.aA s1.heap (.int k) cw).jS fun t ev=>
   have cR:=wH ki (fun xs=>xs.eraseIdxIfInBounds j) IP
   ev▸P.delItem_list (n:=m) ki (I3 (ck aP)) (by rw[eN,←ho.length];exact cA aP)
    (have u:=f1.upd (t:=s1.toks) o.1 o.2.1 mF cR.2 cR.1 (Kq ho j) (a3 _)
    wpAny_deleteEach_nil (q _ _ _ ((t1.bR f.wd).trans u.1) u.2.1 .next)) (by rw[eN,←ho.length];exact c5 o.2.2 (by decide))))))
end
section
variable {T:bE} {K K' X:au→Prop} {cx:a'} {env:Env} {σ σ':ar} {A:bO} {g g' fh gw bh g1:G} {w w' w1:W} {s s' fq br s1:aw} {n j:Nat} {tgt:Expr} {wr c9:List au} {St:Nat→aR→Prop} {D az:au} {done l:List I} {dV:List af} {items:List I} {x y:Str} {v:af}
theorem Av {E:af→aw→Prop} {Q:af→aw→Prop} {m:Str} {u':String} {as:List Expr} {jq ap pos:Pos} (slot:_root_.PySem.Slot "list" m u') (ty:typeOf (.builtin u')=pure (.type "method_descriptor"))
  (ai:(ap.endLine==pos.line)=true) (aT:as.length<20) (ag:(backTo pos (starEach as env)).any (·.1)=false) (f:bz T K cx env σ A g w s) (ae:held cx.sc x=true) (bM:σ.get x= .own l)
  (q: ∀a vs,cg T g s.heap env x (some (.ref a))→c6 s.heap a (mU vs)→bc (bo T.prog T.w) A (evalArgs (.builtin u') true (backTo pos (starEach as env)) []) (fun us s'=>bc (bo T.prog T.w) A (call (.builtin u') (.ref a::us.pos) us.kw) Q E s') E s):
  bc (bo T.prog T.w) A (eval (.Call (.Attribute (.Name x jq) m ap) as [] pos) env) Q E s:=
 hG (f.ownAt ae bM) fun a vs na aa pZ aW=>b5 (iV ae) fun jk ny _=>en pZ.raw fun fm aV=>Oc (q7 (o:= .Name x jq) rfl) (yS aT ag) ai (nameP f.fr ny na
  ⟨"list",u',aeA,slot,ty,pZ.eV.typeIs,fun b e=>by cases e;exact ⟨_,aV,rfl⟩,Bz ag (q a vs na pZ)⟩)
theorem Z7 {ps:List I} {p:I×I} (h:pairOf ps=some p):ps=[p.1,p.2]:=by
 cases ps with
 |nil=>exact (nn h).elim
 |cons q r=>
  cases r with
  |nil=>exact (nn h).elim
  |cons u r=>
   cases r with
   |nil=>exact congrArg (fun p:I×I=>[p.1,p.2]) (inj h)
   |cons=>exact (nn h).elim
theorem L3 {vs:List af} {v:af} {m:Nat}:({cls:= .type "list",data:= .seq (vs.toArray.push v) m}:Obj)={cls:= .type "list",data:= .seq (vs++[v]).toArray m}:=by rw[List.push_toArray]
theorem Td (cJ: ∀m,m≤n→cU T m) {e:Expr} {jq ap pos km:Pos} {ps:List I} {p:I} (ai:(ap.endLine==pos.line)=true) (J:d5 n cx [e] σ w=some (ps,w1)) (ag:oneOf ps=some p) (aV:σ.own? cx.sc x=some l) (f:bz T K cx env σ A g w s):
  b' T K cx env A (exec (.Expr (.Call (.Attribute (.Name x jq) (ab "append") ap) [e] [] pos) km) env) g s (.next,σ.set x (.own (l++[p])),w1):=fun E Q q=>
 have o:=rZ aV
 have hl:=vz (env:=env) pos J
 Ot (Av aeN aeO ai (show 1<20 from by decide) hl f o.1 o.2.1 fun a vs na pZ=>pF hl ((cJ n (a3 n)).d5 J pos f.eK) fun g1 s1 us t1 a4=>
  have f1:=f.a5 t1 a4.1
  have mF:=na.a5 t1 f.wd f.fr.loc
  d9 (kZ f1.fr o.2.1 (iV o.1) mF) fun xw _ mm ho=>en mm.raw fun m ki=>e5 (qk ag▸a4.2:IsL g1.B g1.aA s1.heap [p] us).gE fun u vs fH eW cw=>by
   rw[fH,cw.iJ]
   exact append_at (hsz:=by rw[eN,←ho.length];exact c5 o.2.2 (by decide)) ki fun bQ gm pT=>
    have up:=f1.upd (t:=s1.toks) (vs':=xw++[_]) (h':=bQ) o.1 o.2.1 mF (fun b o aa e=>(gm.2 b aa).trans e) ⟨_,pT,rfl,m+1,L3⟩ (ho.append (.cons eW .nil)) (a3 _)
    q _ _ _ ((t1.bR f.wd).trans up.1) up.2.1 .next) f.di rfl
theorem WH {k:Int} {v:af} {vs:List af} (h0:0≤k) (J:k≤vs.length):(fun xs:Array af=>have eL:=if k<0 then (k+(xs.size:Int)).toNat else min k.toNat xs.size;(xs.extract 0 eL).push v++xs.extract eL) vs.toArray=(vs.take k.toNat++v::vs.drop k.toNat).toArray:=by
 dsimp only
 rw[if_neg (xZ.mpr h0),eN,mX (Int.toNat_le.mpr J)]
 apply xG.mp
 simp
 exact o' (by rw[jV];exact b0 rfl)
theorem TJ {k:Int} (h0:0≤k) (J:k≤1048576): ¬(!Builtin.List.listFitsIndex k)=true:=by
 unfold Oo
 simp only[qE,aeJ,mW,decide_eq_true_eq]
 exact ⟨G1 (by decide) h0,OZ J (by decide)⟩
theorem Tu (cJ: ∀m,m≤n→cU T m) {e i:Expr} {jq ap pos km:Pos} {ps:List I} {aX:I×I} {k:Int} (ai:(ap.endLine==pos.line)=true) (J:d5 n cx [i,e] σ w=some (ps,w1)) (ag:pairOf ps=some aX) (aV:σ.own? cx.sc x=some l) (aj:intOf aX.1=some k) (h0:0≤k∧k≤l.length) (f:bz T K cx env σ A g w s):
  b' T K cx env A (exec (.Expr (.Call (.Attribute (.Name x jq) (ab "insert") ap) [i,e] [] pos) km) env) g s (.next,σ.set x (.own (l.take k.toNat++aX.2::l.drop k.toNat)),w1):=fun E Q q=>
 have o:=rZ aV
 have hl:=vz (env:=env) pos J
 Ot (Av aeP F.type_list_insert ai (show 2<20 from by decide) hl f o.1 o.2.1 fun a vs na pZ=>pF hl ((cJ n (a3 n)).d5 J pos f.eK) fun g1 s1 us t1 a4=>
  have f1:=f.a5 t1 a4.1
  have mF:=na.a5 t1 f.wd f.fr.loc
  d9 (kZ f1.fr o.2.1 (iV o.1) mF) fun xw _ mm ho=>en mm.raw fun m ki=>e5 (Z7 ag▸a4.2:IsL g1.B g1.aA s1.heap [aX.1,aX.2] us).gE fun u vs fH eW cw=>e5 cw.gE fun v vs' ev cw W2=>en (kH aj▸eW:Is g1.B g1.aA s1.heap (.int k) u).jS fun t gh=>by
   rw[fH,ev,W2.iJ,gh]
   have cR:=wH ki (fun xs:Array af=>have eL:=if k<0 then (k+(xs.size:Int)).toNat else min k.toNat xs.size;(xs.extract 0 eL).push v++xs.extract eL) (WH h0.1 (ho.length▸h0.2))
   exact xF aeP ⟨_,ki,rfl⟩ F.entry_list_insert (F.args_list_insert_3 _ _ _) (AutoSeq1.list_insert_list_int_val_1 a xw.toArray m k t v (TJ h0.1 (by have:=o.2.2;lia)) (by rw[eN,←ho.length];exact c5 o.2.2 (by decide))) ⟨ki,
    have up:=f1.upd (t:=s1.toks) o.1 o.2.1 mF cR.2 cR.1 ((ho.take k.toNat).append (.cons cw (ho.drop k.toNat))) (a3 _)
    q _ _ _ ((t1.bR f.wd).trans up.1) up.2.1 .next⟩) f.di rfl
theorem Te (cJ: ∀m,m≤n→cU T m) {e i:Expr} {jq ap pos km:Pos} {aX p:I} {k:Int} {ec:List I} (ai:(ap.endLine==pos.line)=true) (VK:AF e=some (y,i)) (J:ev n cx i σ w=some (aX,w1)) (aV:σ.own? cx.sc x=some l) (Vx:σ.own? cx.sc y=some ec) (aj:intOf aX=some k)
  (aP:gV k ec.length=some j) (ag:ec[j]?=some p) (Wd:(x==y)=false) (f:bz T K cx env σ A g w s):
  b' T K cx env A (exec (.Expr (.Call (.Attribute (.Name x jq) (ab "append") ap) [e] [] pos) km) env) g s (.next,(σ.set y (.own (ec.eraseIdx j))).set x (.own (l++[p])),w1):=by
 intro E Q q
 have o:=rZ aV
 have gL:=rZ Vx
 have S:=cJ n (a3 n)
 have kQ:starEach [i] env=[(false,eval i env)]:=ui (yJ J)
 have gi:(σ.set y (.own (ec.eraseIdx j))).get x= .own l:=by rw[ar.get_set,if_neg (fun z=>by subst z;simp at Wd)];exact o.2.1
 refine gZ (aap VK) fun aed h=>jc h fun PE aaq C0 oD=> ?_
 rw[show e= .Call (.Attribute (.Name y aed) (ab "pop") PE) [i] [] aaq from C0]
 refine Ot ?_ f.di rfl
 refine Av aeN aeO ai (show 1<20 from by decide) rfl f o.1 o.2.1 fun a vs na pZ=> ?_
 refine Gl (N3 ?_)
 rw[if_neg hB]
 refine Av (as:=[i]) F.slot_list_pop F.type_list_pop oD (show 1<20 from by decide) (by rw[kQ];rfl) f gL.1 gL.2.1 fun a2 Bq tW agb=> ?_
 rw[kQ]
 refine Gl (N3 ?_)
 rw[if_neg hB]
 refine S.ev J f.eK E _ fun g1 s1 kk t1 a4=>Ga ?_
 have f1:=f.a5 t1 a4.1
 have LB:=tW.a5 t1 f.wd f.fr.loc
 have ZL:=na.a5 t1 f.wd f.fr.loc
 refine d9 (kZ f1.fr gL.2.1 (iV gL.1) LB) fun us _ mm ho=>en mm.raw fun m ki=>en (kH aj▸a4.2:Is g1.B g1.aA s1.heap (.int k) kk).jS fun t gh=>b5 (ho.get ag) fun v aQ cw=> ?_
 have d2:=wH ki (fun xs=>xs.eraseIdxIfInBounds j) IP
 rw[gh]
 refine xF F.slot_list_pop ⟨_,ki,rfl⟩ F.entry_list_pop (F.args_list_pop_2 _ _) (MeetsSeq.list_pop_at a2 us.toArray m k t j v (I3 (ck aP)) (by rw[eN,←ho.length];exact cA aP) (si.trans aQ) (by rw[eN,←ho.length];exact c5 gL.2.2 (by decide))) ⟨ki,?_⟩
 have up:=f1.upd (t:=s1.toks) gL.1 gL.2.1 LB d2.2 d2.1 (Kq ho j) (a3 _)
 have LA:=up.2.2.2 x _ ZL
 refine d9 (kZ up.2.1.fr gi (iV o.1) LA) fun NL _ vW wk=>en vW.raw fun rR Vy=>Ga ?_
 exact append_at (hsz:=by rw[eN,←wk.length];exact c5 o.2.2 (by decide)) Vy fun bQ gm pT=>
  have NB:=up.2.1.upd (t:=s1.toks) (vs':=NL++[_]) (h':=bQ) o.1 gi LA (fun b o aa e=>(gm.2 b aa).trans e) ⟨_,pT,rfl,rR+1,L3⟩ (wk.append (.cons (cw.th up.1.ip) .nil)) (a3 _)
  q _ _ _ (((t1.bR f.wd).trans up.1).trans NB.1) NB.2.1 .next
end
structure j3 (T:bE) (n:Nat):Prop where
 ex: ∀{cx st σ w r},ex n cx st σ w=some r→ ∀{K env A g s},bz T K cx env σ A g w s→b' T K cx env A (exec st env) g s r
 b1: ∀{cx st σ w r},b1 n cx st σ w=some r→ ∀{K env A g s},bz T K cx env σ A g w s→b' T K cx env A (execs st env) g s r
section
variable {T:bE} {K K' X:au→Prop} {cx:a'} {env:Env} {σ σ':ar} {A:bO} {g g' fh gw bh g1:G} {w w' w1:W} {s s' fq br s1:aw} {n j:Nat} {tgt:Expr} {wr c9:List au} {St:Nat→aR→Prop} {D az:au} {done l:List I} {dV:List af} {items:List I} {x y:Str} {v:af}
theorem b'.pre {t:Sem iM} {r:ej×ar×W} (t1:cV T K g s g1 s1) (h:b' T K cx env A t g1 s1 r): ∀(E:af→aw→Prop) (Q:iM→aw→Prop),(∀g' s' fl,cV T K g s g' s'→bz T K cx env r.2.1 A g' r.2.2 s'→l3 g' s'.heap r.1 fl→Q fl s')→bc (bo T.prog T.w) A t Q E s1:=
 fun E Q q=>h E Q fun g' s' fl t f i=>q g' s' fl (t1.trans t) f i
theorem I0 {h h':aR} (b: ∀b∈wr,∃o bk,h.get? b=some o∧o.data= .fields bk) (aC: ∀b o,b∉wr→h.get? b=some o→h'.get? b=some o): ∀a o,h.get? a=some o→(∀bk,o.data≠ .fields bk)→a∉wr∧h'.get? a=some o:=
 fun a o e n=>have q:=fun q=>jc (b a q) fun cE bk bP d1=>n bk (inj (e.symm.trans bP)▸d1);⟨q,aC a o q e⟩
theorem cg.but {h':aR} {g':G} (b: ∀b∈wr,∃o bk,s.heap.get? b=some o∧o.data= .fields bk) (aC: ∀b o,b∉wr→s.heap.get? b=some o→h'.get? b=some o) (aa: ∀c,cy T g c→c∉wr→cy T g' c) {u:Option af} (n:cg T g s.heap env x u):cg T g' h' env x u:=
 n.move (fun m ⟨o,es,df,e,hh,r⟩=>⟨o,es,df,(I0 b aC _ o e fun bk z=>by rw[hh] at z;cases z).2,hh,r⟩) fun c ah ⟨o,e,aQ⟩=>have q:=I0 b aC c o e fun bk z=>by rw[aQ] at z;cases z
  ⟨aa c ah q.1,o,q.2,aQ⟩
theorem bz.but {h':aR} {t:Nat} (f:bz T K cx env σ A g w s) (b: ∀b∈wr,cy T g b∧ ∃o bk,s.heap.get? b=some o∧o.data= .fields bk) (aC: ∀b o,b∉wr→s.heap.get? b=some o→h'.get? b=some o) (aJ: ∀b∈wr,∃o,h'.get? b=some o) (aS:s.toks≤t):
  bz T K cx env σ A g w {s with heap:=h',toks:=t} where
 fr:=f.fr.but b aC
 wd:=f.wd.but (fun c ah=>(b c ah).1) aC aJ aS
 bZ:=f.bZ
 wr:=f.wr
 own:=f.Au (fun n=>n.but (fun c ah=>(b c ah).2) aC fun c ah _=>ah) fun y m e=>⟨m,e⟩
 hq c z:=by
  by_cases ah:c∈wr
  ·exact aJ c ah
  ·exact (f.hq c z).elim fun o e=>⟨o,aC c o ah e⟩
 sc:=f.sc
 di:=f.di
theorem bz.weak (f:bz T K' cx env σ A g w s) (h: ∀b,K b→K' b):bz T K cx env σ A g w s where
 fr:=f.fr
 wd:=f.wd
 bZ:=f.bZ
 wr x ae:=(f.wr x ae).imp (fun ⟨a,c⟩=>⟨a,fun z=>c (h _ z)⟩) fun ⟨a,c⟩=>⟨a,fun d e z=>c d e (h _ z)⟩
 own x l a e q z k:=f.own x l a e q z (h _ k)
 hq b z:=f.hq b (h b z)
 sc:=f.sc
 di:=f.di
theorem bz.less {h':aR} {t:Nat} (f:bz T K cx env σ A g w s) (aj: ∀b∈wr,¬K b) (b: ∀b∈wr,cy T g b∧ ∃o bk,s.heap.get? b=some o∧o.data= .fields bk) (aC: ∀b o,b∉wr→s.heap.get? b=some o→h'.get? b=some o) (aS:s.toks≤t):
  bz T K cx env σ A (g.less wr) w {s with heap:=h',toks:=t}:=by
 have ro: ∀c∈wr,cy T g c∧(∀fk,¬c6 s.heap c fk)∧(∀v,¬s.heap.IsCell c v)∧c≠env.locals:=fun c ah=>jc (b c ah).2 fun o bk e d=>by
  refine ⟨(b c ah).1,fun fk ⟨cE,bP,_,m,q⟩=> ?_,fun v ⟨cE,bP,q⟩=> ?_,fun z=> ?_⟩
  ·rw[inj (e.symm.trans bP),q] at d;cases d
  ·rw[inj (e.symm.trans bP),q] at d;cases d
  ·obtain ⟨m,cE,es,df,bP,q,_⟩:=f.fr.dict
   rw[inj (e.symm.trans (z▸bP)),q] at d;cases d
 have jF: ∀{x v},cg T g s.heap env x v→cg T (g.less wr) h' env x v:=fun n=>cg.but (g':=g.less wr) (n:=n) (fun c ah=>(b c ah).2) aC fun c ah z=>⟨⟨ah.1,z⟩,ah.2⟩
 exact {
  fr:=f.fr.less ro aC
  wd:=f.wd.less (fun c ah=>(b c ah).1) aC aS
  bZ:=f.bZ
  wr:=f.wr
  own:=f.Au jF fun y m e=>⟨m,e⟩
  hq:=fun c z=>(f.hq c z).elim fun o e=>⟨o,aC c o (fun q=>aj c q z) e⟩
  sc:=f.sc
  di:=f.di}
structure qR (T:bE) (K K':au→Prop) (cx:a') (env:Env) (A:bO) (bh:G) (br:aw) (wr:List au) (St:Nat→aR→Prop) (j:Nat) (σ:ar) (g:G) (w:W) (s:aw):Prop where
 bR:cV T K bh br g s
 cN:bz T K' cx env σ A g w s
 st:St j s.heap
 wr: ∀b∈wr,cy T g b
inductive Hd (T:bE) (K K':au→Prop) (cx:a') (env:Env) (A:bO) (bh:G) (br:aw) (wr:List au) (St:Nat→aR→Prop) (tgt:Expr) (body:List bY) (items:List I) (N:Nat) (r:ej×ar×W) (s':aw):Nat→Prop where
 |mk (j m:Nat) (g:G) (w:W) (rest:List I) (σ:ar):m≤N→forL m cx tgt body rest σ w=some r→items.drop j=rest→j≤items.length→qR T K K' cx env A bh br wr St j σ g w s'→Hd T K K' cx env A bh br wr St tgt body items N r s' rest.length
theorem qR.cast {wt:Nat} {r:ej×ar×W} {f:ej} (c:qR T K K' cx env A bh br wr St j σ g w s) (J:j=wt) (U:(f,σ,w)=r):qR T K K' cx env A bh br wr St wt r.2.1 g r.2.2 s:=J▸U▸c
theorem T5 {it:Expr} {body:List bY} {N m:Nat} {r:ej×ar×W} {R:m2→aw→Prop}
  (ha: ∀m,m≤N→j3 T m) (eQ:m4 T A tgt bh br.heap az items c9 wr St) (gx: ∀b∈c9,(∃o,br.heap.get? b=some o)∧ ¬ek T.dO bh.aA b) (cj: ∀b,K b→b∉wr) (pU: ∀b,K b→K' b) (Jz: ∀b∈c9,K' b)
  (hm:m≤N) (ah:forL m cx tgt body items σ w=some r) (inv:qR T K K' cx env A bh br wr St 0 σ g w s)
  (mi: ∀g' s' fl,cV T K bh br g' s'→bz T K cx env r.2.1 A g' r.2.2 s'→l3 g' s'.heap r.1 fl→R (.ok fl) s')
  (agf: ∀b∈wr,∃o bk,br.heap.get? b=some o∧o.data= .fields bk)
  (Vb: ∀g' s' h' aU,qR T K K' cx env A bh br wr St items.length r.2.1 g' r.2.2 s'→r.1= .next→(∀b o,b∉wr→s'.heap.get? b=some o→h'.get? b=some o)→s'.toks≤aU→R (.ok .next) {s' with heap:=h',toks:=aU}):
  codeAny (bo T.prog T.w) A (.forLoop tgt (.ref az) body [] env) R s:=by
 refine aeQ (fun k s'=>Hd T K K' cx env A bh br wr St tgt body items N r s' k) (fun k s' h=> ?_) items.length (.mk 0 m g w items σ hm ah rfl (e3 _) inv)
 clear inv ah hm
 cases h with
 |mk j m g' w1 rest σ hm ah hd tq c=>
 cases m with
 |zero=>exact (nn ah).elim
 |succ m=>
 cases rest with
 |nil=>
  have vS:=drop_nil hd tq
  have e:=inj ah
  exact k5 (a3 _) (eQ.done s' _ _ (vS▸c.st) fun h' aU aX hle=>lY (Vb g' s' h' aU (c.cast vS e) (e▸rfl) aX hle))
 |cons p rest=>
  have jh:=drop_cons hd
  refine aN ah fun σ' aa ah=>aN ah fun x ae ah=>k5 (a3 _) (eQ.item j p g' s' _ _ jh.1 c.st c.bR.ip c.bR.eG c.cN.wd.ex (fun b aa=>(c.wr b aa).1) fun v J aU tP go hle=>go _ _ fun U xn zS cw=> ?_)
  have aX: ∀b o,b∉wr→s'.heap.get? b=some o→U.get? b=some o:=fun b o aa e=>zS b o aa (tP b o aa e)
  have zu: ∀b∈wr,cy T g' b∧ ∃o bk,s'.heap.get? b=some o∧o.data= .fields bk:=fun b aa=>⟨c.wr b aa,eQ.live _ _ c.st b aa⟩
  have aJ: ∀b∈wr,∃o,U.get? b=some o:=fun b aa=>jc (eQ.live _ _ xn b aa) fun o _ e _=>⟨o,e⟩
  have f1:=c.cN.but (t:=aU) zu aX aJ hle
  have t1:cV T K g' s' g' {s' with heap:=U,toks:=aU}:= .but c.wr (fun b aa z=>cj b z aa) aX aJ hle
  clear tP zS zu
  refine yp c.cN.bZ.handled aa f1.wr f1.fr f1.wd cw fun s3 t3 tg hg c4=>(ha m (i9 hm)).b1 ae (f1.kept t3 tg hg c4) _ _ fun c1 s4 fl ee f4 tK=> ?_
  have tt:=t3.trans ee
  have o1:cV T K bh br c1 s4:=(c.bR.trans t1).trans (tt.weak pU)
  have uh:St (j+1) s4.heap:=eQ.frame _ _ _ xn fun b aa o e=>tt.old b o (Jz b aa) e fun z=>(c.bR.ef b z).elim (gx b aa).2 fun z=>(gx b aa).1.elim fun cE bP=>nn (z.symm.trans bP)
  have Ku:qR T K K' cx env A bh br wr St (j+1) x.2.1 c1 x.2.2 s4:=⟨o1,f4,uh,fun b aa=>⟨tt.lJ b (Jz b (eQ.sub b aa)) (c.wr b aa).1,fun z=>(tt.ef b z).elim (c.wr b aa).2 fun z=>(aJ b aa).elim fun o e=>nn (z.symm.trans e)⟩⟩
  clear t3 tg hg c4 ee f1 t1 aX uh tt aa ae go xn cw aJ
  generalize x.1=f0 at tK ah
  cases tK with
  |next=>exact ⟨rest.length,gF _,.mk (j+1) m c1 _ rest _ (i9 hm) (D8 rfl ah) jh.2.1 jh.2.2 Ku⟩
  |cont=>exact ⟨rest.length,gF _,.mk (j+1) m c1 _ rest _ (i9 hm) (D8 rfl ah) jh.2.1 jh.2.2 Ku⟩
  |brk=>exact mi c1 s4 .next o1 (inj (wj rfl ah)▸f4.weak pU) (inj (wj rfl ah)▸ .next)
  |ret cw=>exact mi c1 s4 _ o1 (inj (wj rfl ah)▸f4.weak pU) (inj (wj rfl ah)▸ .ret cw)
theorem Tr (cJ: ∀m,m≤n+1→cU T m) (ha: ∀m,m≤n+1→j3 T m) {it:Expr} {body:List bY} {pos:Pos} {r:ej×ar×W} (J:mr (n+1) false tgt cx it σ w=some (items,w1)) (U:forL (n+1) cx tgt body items σ w1=some r) (f:bz T K cx env σ A g w s):
  b' T K cx env A (exec (.For tgt it body [] pos) env) g s r:=by
 intro E Q q
 refine wpAny_For (KA (own:=false) (tgt:=tgt) (fun m hm=>cJ m (xQ hm)) J f.eK E _ fun g2 s2 v t2 bH=> ?_) (fun x=>Ly J x)
 cases bH with
 |mk az c9 wr St b4 eQ r8 rF gx DK=>
 have f2:=f.a5 t2 b4
 have JA: ∀b∈wr,¬K b:=fun b aa z=>(f.hq b z).elim fun o e=>nn ((rF b aa).2.symm.trans e)
 have rV: ∀b o,g2.B b→s.heap.get? b=some o→b∉c9:=fun b o kf e z=>((gx b z).2.2 rfl).elim (fun h=>nn ((rF b h).2.symm.trans e)) fun h=>h kf
 have TB:bz T (fun b=>K b∨b∈c9) cx env σ A g2 w1 s2:={
  fr:=f2.fr
  wd:=f2.wd
  bZ:=f2.bZ
  wr:=fun x ae=>(f2.wr x ae).elim (fun k=> .inl ⟨k.1,fun z=>z.elim k.2 (f.fr.dict.elim fun m hm=>hm.elim fun o q=>q.elim fun _ q=>q.elim fun _ q=>rV _ o f2.fr.loc.1 q.1)⟩) fun k=> .inr ⟨k.1,fun c ah z=>z.elim (k.2 c ah)
   (b5 (oR ae) fun jk aj gI=>b5 (f.fr.nm x jk aj gI) fun u dw _=>dw.elim (fun n=>nomatch (n.1.symm.trans k.1)) fun n=>d9 n.2 fun d0 hj aQ aa=>aQ.elim fun o e=>by
    have kb:=inj (ah.symm.trans hj)
    exact rV c o (t2.hb c (kb▸aa.1)) (kb▸e.1))⟩
  own:=fun x l a e jO z=>b5 jO fun k aj aT=>b5 (f.fr.nm x k aj aT) fun u dw _=>d9 (kZ f.fr e jO (dw.back (dw.a5 t2 f.wd f.fr.loc) z)) fun vs aa ai _=>ai.elim fun o aV=>fun G7=>G7.elim (f.own x l a e jO (dw.back (dw.a5 t2 f.wd f.fr.loc) z)) (rV a o (t2.hb a aa.1) aV.1)
  hq:=fun b z=>z.elim (fun z=>f2.hq b z) fun z=>(gx b z).1
  sc:=f2.sc
  di:=f2.di}
 refine T5 (it:=it) (N:=n+1) (K:=K) (K':=fun b=>K b∨b∈c9) ha eQ (fun b aa=>⟨(gx b aa).1,(gx b aa).2.1⟩) (fun b z aa=>JA b aa z) (fun b z=> .inl z) (fun b z=> .inr z) (a3 _) U ⟨.refl,TB,r8,fun b aa=>(rF b aa).1⟩
  (fun g' s' fl t cN i=>q g' s' fl ((t2.bR f.wd).trans t) cN i) DK fun g' s' h' aU c a7 aX hle=> ?_
 have zu: ∀b∈wr,cy T g' b∧ ∃o bk,s'.heap.get? b=some o∧o.data= .fields bk:=fun b aa=>⟨c.wr b aa,eQ.live _ _ c.st b aa⟩
 exact q _ _ _ (((t2.bR f.wd).trans c.bR).less f.wd (fun b aa=>⟨c.wr b aa,(rF b aa).2⟩) aX hle) ((c.cN.weak fun b z=> .inl z).less JA zu aX hle) (a7▸ .next)
end
section
variable {T:bE} {K K' X:au→Prop} {cx:a'} {env:Env} {σ σ':ar} {A:bO} {g g' fh gw bh g1:G} {w w' w1:W} {s s' fq br s1:aw} {n j:Nat} {tgt:Expr} {wr c9:List au} {St:Nat→aR→Prop} {D az:au} {done l:List I} {dV:List af} {items:List I} {x y:Str} {v:af} {r:ej×ar×W}
theorem b'.got {t:Sem iM} {a b:ej×ar×W} (e:some a=some b) (h:b' T K cx env A t g s a):b' T K cx env A t g s b:=inj e▸h
theorem b'.frozen {t:Sem iM} (f:bz T K cx env σ A g w s) (xs:List Str) (h: ∀g1,bz T K cx env (σ.freeze xs) A g1 w s→b' T K cx env A t g1 s r):b' T K cx env A t g s r:=
 (f.freeze xs).elim fun g1 x E Q q=>b'.pre x.1 (h g1 x.2) E Q q
theorem Tg (cJ: ∀m,m≤n→cU T m) {ts:List Expr} {e:Expr} {pos:Pos} (h:ex (n+1) cx (.Assign ts e pos) σ w=some r) (f:bz T K cx env σ A g w s):b' T K cx env A (exec (.Assign ts e pos) env) g s r:=
 aN h fun a aJ h=>b5 (PL aJ) fun t gh at'=> .frozen f (bG 30 true e) fun g1 f1=>by
  rw[gh]
  clear aJ
  cases a with
  |name x=>exact at'.elim fun gM df=>aN (cA h) fun sl J U=>df▸ .got U (Th cJ J (ck h) f1)
  |tuple u=>exact aN (cA h) fun p J U=>aN U fun x2 U av=>at'.1▸(at'.2.elim fun ts q=>gT q fun a b fH=>fH▸ .got av (Tj cJ (ck h) J (fH▸U) f1))
  |sub x i=>exact have hm:=Bv.mp (any_false (qa h));gT at' fun gM r df=>aN (oJ h) fun p J U=>aN U fun k av a0=>aN a0 fun l bp bQ=>aN bQ fun jk er ew=>aN ew fun j fR mg=>df▸ .got mg (Ti cJ hm.1 J av bp er fR f1)
theorem Tn (cJ: ∀m,m≤n→cU T m) {t e:Expr} {op:iO} {pos:Pos} (h:ex (n+1) cx (.AugAssign t op e pos) σ w=some r) (f:bz T K cx env σ A g w s):b' T K cx env A (exec (.AugAssign t op e pos) env) g s r:=
 aN h fun a aJ h=> .frozen f (bG 30 false e) fun g1 f1=>pO h (fun aT h=>aN (cA h) fun q J U=>aN U fun p av a0=>aN a0 fun z bp bQ=>(HN aJ).elim (fun x=>x.elim fun gM df=>df.1▸ .got bQ (IW cJ (ck h) J av bp f1))
   fun x=>x.elim fun _ x=>x.elim fun _ x=>x.elim fun _ x=>(nn (aT.symm.trans x.2)).elim) fun i aB h=>
  aN (oJ h) fun k J U=>aN U fun p av a0=>aN a0 fun l bp bQ=>aN bQ fun jk er ew=>aN ew fun j fR mg=>aN mg fun q Du y'=>aN y' fun z UC UD=>(HN aJ).elim (fun x=>x.elim fun _ x=>(nn (x.2.symm.trans aB)).elim)
   fun x=>x.elim fun gM x=>jc x fun pr fv df R5=>have aE:fv=i:=inj (R5.symm.trans aB)
    df▸aE▸ .got UD (To cJ (any_false (qa h)) J av bp er fR Du UC f1)
theorem Tq (cJ: ∀m,m≤n→cU T m) {e:Expr} {pos:Pos} (h:ex (n+1) cx (.Expr e pos) σ w=some r) (f:bz T K cx env σ A g w s):b' T K cx env A (exec (.Expr e pos) env) g s r:=
 aN h fun q aG h=> .frozen f (bG 30 true e) fun g1 f1=>gZ (H6 aG) fun p y=>jc y fun ap km C0 ai=>by
  generalize aga:σ.freeze (bG 30 true e)=σ1 at f1 h
  rw[C0]
  refine hp h (fun hm h=> ?_) fun _ h=>hp h (fun hm h=> ?_) fun _ h=>(nn h).elim
  ·rw[jm hm]
   refine aN h fun a aJ h=>(pE aJ).symm▸pO h (fun ag h=> ?_) fun mS ag h=> ?_
   ·exact aN h fun ps J U=>aN U fun p av a0=>aN a0 fun l bp bQ=> .got bQ (Td cJ ai J av bp f1)
   ·exact aN h fun k J U=>aN U fun l av a0=>aN a0 fun ec bp bQ=>aN bQ fun jk er ew=>aN ew fun j fR mg=>aN mg fun p Du y'=> .got (oJ y') (Te cJ ai ag J av bp er fR Du (any_false (qa y')) f1)
  ·rw[jm hm]
   exact aN h fun a aJ h=>(PF aJ).symm▸aN h fun ps J U=>aN U fun v av a0=>aN a0 fun l bp bQ=>aN bQ fun k er ew=> .got (cA ew) (Tu cJ ai J av bp er (ck ew) f1)
theorem Tt (cJ: ∀m,m≤n→cU T m) (ha: ∀m,m≤n→j3 T m) {t:Expr} {a b:List bY} {pos:Pos} (h:ex (n+1) cx (.If t a b pos) σ w=some r) (f:bz T K cx env σ A g w s):b' T K cx env A (exec (.If t a b pos) env) g s r:=
 aN h fun c J U=> .frozen f (bG 30 false t) fun g1 f1 E Q q=>BC ((cJ n (a3 n)).fa J f1.eK E _ fun g2 s2 b t2 bH=>by
  have f2:=f1.a5 t2 bH.1
  have u3:=ha n (a3 n)
  rw[show b=c.1 from bH.2]
  clear J bH h
  obtain ⟨c,h9⟩:=c
  cases c with
  |true=>exact b'.pre (t2.bR f1.wd) (u3.b1 U f2) E Q q
  |false=>exact b'.pre (t2.bR f1.wd) (u3.b1 U f2) E Q q)
theorem Tv (cJ: ∀m,m≤n→cU T m) (ha: ∀m,m≤n→j3 T m) {st:bY} (h:ex (n+1) cx st σ w=some r) (f:bz T K cx env σ A g w s):b' T K cx env A (exec st env) g s r:=by
 have S:=cJ n (a3 n)
 cases st with
 |Assign=>exact Tg cJ h f
 |AugAssign=>exact Tn cJ h f
 |Expr=>exact Tq cJ h f
 |If=>exact Tt cJ ha h f
 |For tgt it body vu pos=>
  exact aN (cA h) fun x J U=> .frozen f (bG 30 true it) fun g1 f1=>k7.mp (ck h)▸by
   cases n with
   |zero=>exact (nn J).elim
   |succ n=>exact Tr cJ ha J U f1
 |Return e pos=>exact aN h fun aE he h=>aN h fun p J U=> .frozen f (bG 30 true aE) fun g1 f1=> .got U (he.symm▸fun E Q q=>Gq (S.ev J f1.eK E _ fun g2 s2 v t2 bH=>q _ _ _ (t2.bR f1.wd) (f1.a5 t2 bH.1) (.ret bH.2)))
 |Delete ts pos=>exact aN h fun q aG h=>aN (oJ h) fun k J U=>aN U fun l av a0=>aN a0 fun jk bp bQ=>aN bQ fun j er ew=>gT (RK aG) fun p z gh=> .frozen f [] fun g1 f1=>gh▸ .got ew (Tp cJ J av bp er f1)
 |Assert t m pos=>exact aN (cA h) fun c J U=>Gr.mp (ck h)▸ .frozen f [] fun g1 f1=> .got (cA U) fun E Q q=>wpAny_Assert_holds (S.fa J f1.eK E _ fun g2 s2 b t2 bH=>⟨bH.2.trans (ck U),q _ _ _ (t2.bR f1.wd) (f1.a5 t2 bH.1) .next⟩)
 |Break=>exact .frozen f [] fun g1 f1=> .got h fun E Q q=>arm_exec_Break .. ▸aM (fL (b6 (q _ _ _ .refl f1 .brk)))
 |Continue=>exact .frozen f [] fun g1 f1=> .got h fun E Q q=>arm_exec_Continue .. ▸aM (fL (b6 (q _ _ _ .refl f1 .cont)))
 |Pass=>exact .frozen f [] fun g1 f1=> .got h fun E Q q=>arm_exec_Pass .. ▸aM (fL (b6 (q _ _ _ .refl f1 .next)))
 |_=>exact (nn h).elim
theorem Tz (ha: ∀m,m≤n→j3 T m) {st:List bY} (h:b1 (n+1) cx st σ w=some r) (f:bz T K cx env σ A g w s):b' T K cx env A (execs st env) g s r:=by
 have u3:=ha n (a3 n)
 cases st with
 |nil=>exact .got h fun E Q q=>lY (q _ _ _ .refl f .next)
 |cons st rest=>
  refine aN h fun x J U E Q q=>gO (u3.ex J f E _ fun g2 s2 Dg t2 f2 fv=> ?_)
  clear J h
  obtain ⟨fl,x2,h9⟩:=x
  cases fv with
  |next=>exact b'.pre t2 (u3.b1 U f2) E Q q
  |brk=>exact q _ _ _ t2 (inj U▸f2) (inj U▸ .brk)
  |cont=>exact q _ _ _ t2 (inj U▸f2) (inj U▸ .cont)
  |ret cw=>exact q _ _ _ t2 (inj U▸f2) (inj U▸ .ret cw)
theorem abX (cJ: ∀m,m≤n→cU T m) (ha: ∀m,m≤n→j3 T m):j3 T (n+1):=⟨fun h _ _ _ _ _ f=>Tv cJ ha h f,fun h _ _ _ _ _ f=>Tz ha h f⟩
theorem abY:j3 T 0:=⟨fun h _ _ _ _ _ f=>(nn h).elim,fun h _ _ _ _ _ f=>(nn h).elim⟩
end
theorem aej: ∀{ns:List Str} {us:List af} {x:Str},us.length=ns.length→x∈ns→(ns.zip us).lookup x≠none:=by
 intro ns
 induction ns with
 |nil=>intro _ _ _ h;exact nomatch h
 |cons n ns ay=>
  intro us x ai ae
  cases us with
  |nil=>exact nomatch ai
  |cons u us=>
   rw[sr,lW]
   split
   ·exact nofun
   ·rename_i h
    exact ay (pe ai) ((d3.mp ae).elim (fun e=>(hB (h.symm.trans (beq_iff_eq.mpr e))).elim) id)
theorem aek {ns:List Str} {us:List af} (ai:us.length=ns.length) {l:List Str} (h: ∀n∈l,n∈ns):l.filter (fun n=>((ns.zip us).lookup n).isNone)=[]:=
 List.filter_eq_nil_iff.mpr fun n aT e=>aej ai (h n aT) (Gr.mp e)
theorem aeh: ∀{ns:List Str} {us:List af} {pre:List (Str×af)},us.length=ns.length→ns.Nodup→(∀n∈ns,pre.lookup n=none)→
  ns.filterMap (fun n=>((pre++ns.zip us).lookup n).map (n,·))=ns.zip us:=by
 intro ns
 induction ns with
 |nil=>intros;rfl
 |cons n ns ay=>
  intro us pre ai hd ag
  cases us with
  |nil=>exact nomatch ai
  |cons u us=>
   have hd:=Gn.mp hd
   have U:=ay (us:=us) (pre:=pre++[(n,u)]) (pe ai) hd.2 fun m hm=>by
    rw[aeS,ag m (e0 _ hm)]
    rw[Option.none_or,lW]
    split
    ·rename_i h;exact (hd.1 ((eq_of_beq h:m=n)▸hm)).elim
    ·rfl
   rw[jY] at U
   rw[List.filterMap_cons,sr,aeS,ag n eZ,aeH]
   exact congrArg _ U
theorem T3 {α β:Type} {l:List α} {i:β} {f:α→β→Sem (ForInStep β)} (h:l=[]):forIn l i f=pure i:=by rw[h];rfl
theorem aeg {α β:Type} {l:List α} {k:Nat}:l.zip (xC k ([]:List β))=[]:=by rw[G3,List.zip_nil_right]
theorem HW {M:Model} {A:bO} {E:af→aw→Prop} {Q:List (Str×af)→aw→Prop} {s:aw} {fd:dW} {us:List af} (J:fd.params.posonlyargs=[]) (U:fd.params.vararg=none) (av:fd.params.kwonlyargs=[]) (a0:fd.params.kwarg=none) (bp:fd.defaults= .none)
  (ai:us.length=(fd.params.args.map (·.arg)).length) (hd:(fd.params.args.map (·.arg)).Nodup) (q:Q ((fd.params.args.map (·.arg)).zip us) s):
  bc M A (bindArgs fd ⟨us,[]⟩) Q E s:=by
 obtain ⟨f1,f2,⟨po,Cs,eD,kw,kd,tN,afW⟩,f4,je,gv,kM,f8⟩:=fd
 dsimp only at J U av a0 bp ai hd q
 subst bp
 subst J U av a0
 have cb:(Cs.map Arg.arg++[]).filterMap (fun n=>(((Cs.map Arg.arg).zip us).lookup n).map (n,·))=(Cs.map Arg.arg).zip us:=by
  rw[fF];exact aeh (pre:=[]) ai hd fun _ _=>rfl
 refine aM (b6 (aM (b6 (a:=none) (wpAny_ite_false (decide_eq_false fun h=> ?_) (wpAny_ite_false (decide_eq_false ?_) ?_)))))
 ·exact nT _ (ai▸of_decide_eq_true (g7.mp h).1)
 ·exact fun h=>hB (BD (congrArg (fun l:List Str=> !l.isEmpty) (aek ai fun n h=>Ou h).symm) h)
 exact aM (uI (T3 aeg) (aM (b6 (b6 (Eq.mpr (congrArg (fun l=>Q l s) cb) q)))))
theorem Qb {mu:Str→Option fB} {x:Str} (ae:mu x=some .local): ∀{ns:List Str} {us:List af} {m:Str→Option af},ns.length=us.length→ns.Nodup→bindL mu (ns.zip us) m x=((ns.zip us).lookup x).or (m x):=by
 intro ns
 induction ns with
 |nil=>intros;rfl
 |cons n ns ay=>
  intro us m ai hd
  cases us with
  |nil=>exact nomatch ai
  |cons u us=>
   rw[Gn] at hd
   rw[sr]
   show bindL mu (ns.zip us) (if mu n=some .local then fun y=>if y=n then some u else m y else m) x=_
   rw[ay (pe ai) hd.2,lW]
   by_cases h:x=n
   ·subst h
    have:(ns.zip us).lookup x=none:=by
     cases e:(ns.zip us).lookup x with
     |none=>rfl
     |some v=>exact absurd (Ov (mem_of_lookup e)).1 hd.1
    rw[this,if_pos ae];simp
   ·have U:(x==n)=false:=beq_eq_false_iff_ne.mpr h
    rw[U]
    by_cases av:mu n=some .local
    ·rw[if_pos av];simp[h]
    ·rw[if_neg av]
theorem Qa {mu:Str→Option fB} {x:Str} (ae:mu x≠some .local): ∀{ns:List Str} {us:List af} {m:Str→Option af},ns.length=us.length→ns.Nodup→bindC mu (ns.zip us) m x=((ns.zip us).lookup x).or (m x):=by
 intro ns
 induction ns with
 |nil=>intros;rfl
 |cons n ns ay=>
  intro us m ai hd
  cases us with
  |nil=>exact nomatch ai
  |cons u us=>
   rw[Gn] at hd
   rw[sr]
   show bindC mu (ns.zip us) (if mu n=some .local then m else fun y=>if y=n then some u else m y) x=_
   rw[ay (pe ai) hd.2,lW]
   by_cases h:x=n
   ·subst h
    have:(ns.zip us).lookup x=none:=by
     cases e:(ns.zip us).lookup x with
     |none=>rfl
     |some v=>exact absurd (Ov (mem_of_lookup e)).1 hd.1
    rw[this,if_neg ae];simp
   ·have U:(x==n)=false:=beq_eq_false_iff_ne.mpr h
    rw[U]
    by_cases av:mu n=some .local
    ·rw[if_pos av]
    ·rw[if_neg av];simp[h]
theorem Jh: ∀{ns:List Str} {ps:List I} {x:Str},ar.get (ns.zip (ps.map .val)) x=match (ns.zip ps).lookup x with|some p=> .val p|none=> .unset:=by
 intro ns
 induction ns with
 |nil=>intro _ x;simp[ar.get]
 |cons n ns ay=>
  intro ps x
  cases ps with
  |nil=>rfl
  |cons p ps=>
   rw[fD,sr,sr,lW]
   show (if (n==x)=true then Slot.val p else ar.get (ns.zip (ps.map .val)) x)=_
   rw[ay]
   by_cases h:n=x
   ·subst h;simp
   ·have J:(n==x)=false:=beq_eq_false_iff_ne.mpr h
    have U:(x==n)=false:=beq_eq_false_iff_ne.mpr (eg h)
    rw[J,U];rfl
theorem aei {B:au→Prop} {aA:List c3} {h:aR}: ∀{ns:List Str} {ps:List I} {us:List af} {x:Str} {p:I},IsL B aA h ps us→(ns.zip ps).lookup x=some p→ ∃u,(ns.zip us).lookup x=some u∧Is B aA h p u:=by
 intro ns
 induction ns with
 |nil=>intro _ _ _ _ _ e;exact nomatch e
 |cons n ns ay=>
  intro ps us x p aW e
  cases aW with
  |nil=>exact nomatch e
  |cons i aW=>
   rw[sr,lW] at e
   rw[sr,lW]
   cases aa:x==n with
   |true=>rw[aa] at e;cases e;exact ⟨_,rfl,i⟩
   |false=>rw[aa] at e;exact ay aW e
section
variable {T:bE} {K K' X:au→Prop} {cx:a'} {env:Env} {σ σ':ar} {A:bO} {g g' fh gw bh g1 g2:G} {w w' w1:W} {s s' fq br s1 s2:aw} {n j:Nat} {tgt:Expr} {wr c9:List au} {St:Nat→aR→Prop} {D az:au} {done l:List I} {dV:List af} {items:List I} {x y:Str} {v:af} {r:ej×ar×W}
theorem bK.xu (x:bK T g s g1 s1) (d:aL T g w s) (y:cV T (fun b=> ∃o,s.heap.get? b=some o) g1 s1 g2 s2):bK T g s g2 s2 where
 keep b o e n:=y.old b o ⟨o,e⟩ (x.keep b o e n) fun z=>(x.ef b z).elim n fun z=>by rw[e] at z;cases z
 ex b o e:=let ⟨kX,aF⟩:=x.ex b o e;y.ex b kX aF
 hb b z:=y.lJ b (d.ex b z) (x.hb b z)
 iQ b z:=(y.iQ z).elim (x.iQ b) fun z=> .inr (x.none z)
 eG:=by
  obtain ⟨a,jE⟩:=x.eG
  obtain ⟨b,oe⟩:=y.eG
  exact ⟨a++b,by rw[oe,jE,jY]⟩
 ef b z:=(y.ef b z).elim (x.ef b) fun z=> .inr (x.none z)
 gens:=y.gens.trans x.gens
 os:=y.os.trans x.os
 aU:=c5 x.aU y.aU
structure O9 (d:iN):Prop where
 kind:d.scope.kind= .function
 gen:d.scope.isGenerator=false
 Rr:d.scope.isCoroutine=false
 po:d.params.posonlyargs=[]
 eD:d.params.vararg=none
 kw:d.params.kwonlyargs=[]
 tN:d.params.kwarg=none
 nm: ∀x k,d.scope.names.lookup x=some k→(k= .local∨k= .cell∨k= .globalImplicit)∧(x==("__debug__":Str))=false∧(x==("__classdict__":Str))=false
 par: ∀x∈jN d,d.scope.names.lookup x=some .local∨d.scope.names.lookup x=some .cell
 wN:(jN d).Nodup
theorem TN {d:iN} (h:Dh d=true):O9 d:=by
 have J:=dZ h
 have U:=dZ J
 have av:=dZ U
 have a0:=dZ av
 have bp:=dZ a0
 have bQ:=dZ bp
 have er:=dZ bQ
 have ew:=dZ er
 have fR:=dZ ew
 refine ⟨eq_of_beq (dZ fR),qE _▸eS fR,qE _▸eS ew,k7.mp (eS er),Gr.mp (eS bQ),k7.mp (eS bp),Gr.mp (eS a0),fun x k aj=> ?_,fun x ae=> ?_,of_decide_eq_true (eS h)⟩
 ·have q:=pb.mp (eS U) (x,k) (mem_of_lookup aj)
  exact ⟨(sk.mp (dZ (dZ q))).elim (fun z=>(sk.mp z).elim (fun z=> .inl (eq_of_beq z)) fun z=> .inr (.inl (eq_of_beq z))) fun z=> .inr (.inr (eq_of_beq z)),qE _▸eS (dZ q),qE _▸eS q⟩
 ·exact (sk.mp (pb.mp (eS J) x ae)).imp eq_of_beq eq_of_beq
set_option backward.match.sparseCases true in
theorem vJ {fd:dW} {body:List bY} {vs:List I} {us:List af} {a:au} {o:Obj} {k:Nat} {ns:List Str} {R:m2→aw→Prop}
  (aV:s.heap.get? a=some o) (hk:o.data= .func fd) (f1:fd.scope.kind= .function) (f2:fd.scope.isGenerator=false) (dn:fd.scope.isCoroutine=false) (ep:fd.body= .stmts body) (rl:fd.closure=[]) (nk:fd.globals=mainGlobals) (oi:fd.builtins=builtinsNs) (oj:fd.defaults= .none)
  (lB:s.heap.CodeRec fd.code fd.qualname) (aT:fd.params.args.map (·.arg)=ns) (f4:fd.params.posonlyargs=[]) (je:fd.params.vararg=none) (gv:fd.params.kwonlyargs=[]) (kM:fd.params.kwarg=none)
  (f8: ∀x k,fd.scope.names.lookup x=some k→(k= .local∨k= .cell∨k= .globalImplicit)∧(x==("__debug__":Str))=false∧(x==("__classdict__":Str))=false) (oh: ∀x∈ns,fd.scope.names.lookup x=some .local∨fd.scope.names.lookup x=some .cell) (og:ns.Nodup)
  (hw:aL T g w s) (bZ:Room (20*k+30) A) (aW:IsL g.B g.aA s.heap vs us) (hlen:vs.length=ns.length)
  (h: ∀env g1 s1,bK T g s g1 s1→bz T (fun b=> ∃o,s.heap.get? b=some o) ⟨T.dx,k,fd.scope⟩ env (ns.zip (vs.map .val)) (A.deeper env) g1 w s1→(env.code=fd.code∧env.qual=fd.qualname++(".<locals>.":Str))→ ∀E,bc (bo T.prog T.w) (A.deeper env) (execs body env) (fun f s'=>R (.ok (.ret (match f with| .ret v=>v|_=> .none))) s') E s1):
  codeAny (bo T.prog T.w) A (.call (.ref a) ⟨us,[]⟩) R s:=by
 have ai:us.length=ns.length:=by rw[←aW.length];exact hlen
 have base: ∀b o,T.bW.get? b=some o→s.heap.get? b=some o:=fun b o e=>(hw.base b o e).1
 refine aeT (fd:=fd) (ic (g4 _ _) bZ.depth) aV hk dn f2 ep lB ?_
 refine HW f4 je gv kM oj (by rw[aT];exact ai) (by rw[aT];exact og) ?_
 rw[aT,rl]
 have JF: ∀x,fd.scope.names.lookup x=some .cell→((cellsFrom (s.heap.objs.size+1) fd.scope.names []).lookup x).isSome=true:=fun x ae=>
  (H' (lo:=s.heap.objs.size+1) (acc:=[]) (mem_of_lookup ae)).elim fun c ah=>(z6 ah).elim fun d0 hj=>by rw[hj];rfl
 refine k5 (a3 _) (wpAny_newFunctionEnv_cells f1 (fun x ae=>(oh x.1 (Ov (a:=x.1) (b:=x.2) ae).1).elim .inl fun h=> .inr ⟨h,JF x.1 h⟩) fun env he s1 kS hle=> ?_)
 have kR:env.scope=fd.scope:=by rw[he];rfl
 have DP:env.globals=mainGlobals:=by rw[he];exact nk
 have DF:env.builtins=builtinsNs:=by rw[he];exact oi
 have iv:env.cells=cellsFrom (s.heap.objs.size+1) fd.scope.names []:=by rw[he];rfl
 have aG:env.code=fd.code∧env.qual=fd.qualname++(".<locals>.":Str):=⟨by rw[he];rfl,by rw[he];rfl⟩
 clear he
 have aX:=kS.toInCall.keep
 have hJ:=kS.toInCall.ns
 have DL:=kS.toInCall.fresh
 have dp:=kS.cell
 have DE:=kS.apart
 have dv:=kS.above
 obtain ⟨J,aU,rfl⟩:=kS.toInCall.same
 clear kS
 have iW: ∀x,env.kindOf x=fd.scope.names.lookup x:=fun x=>kR▸rfl
 have nl: ∀{c},s.heap.objs.size≤c→s.heap.get? c=none:=fun {c} ah=>k9 ah
 have t1:bK T g s (g.news s.heap J) {s with heap:=J,toks:=aU}:= .news aX hle
 have bb:aL T (g.news s.heap J) w {s with heap:=J,toks:=aU}:=hw.news aX hle
 have sV:cy T (g.news s.heap J) env.locals:=hJ.elim fun o q=>q.elim fun _ q=>q.elim fun _ q=>G.nG hw (nl DL) q.1
 have ho:=aW.a5 t1 hw
 have Lw: ∀{x l},ar.get (ns.zip (vs.map .val)) x≠ .own l:=fun {x l} e=>by
  rw[Jh] at e
  generalize (ns.zip vs).lookup x=o at e
  cases o<;>cases e
 have J1:ns.length=us.length:=ai.symm
 have Ln: ∀{x c},env.cells.lookup x=some c→s.heap.get? c=none:=fun {x c} ah=>nl (fK (ic DL (dv x c (mem_of_lookup ah))))
 have slot: ∀x (u:Option af),u=((ns.zip us).lookup x).or none→fO T (g.news s.heap J) J (ar.get (ns.zip (vs.map .val)) x) u:=fun x u dh=>by
  rw[Jh]
  generalize ag:(ns.zip vs).lookup x=o
  cases o with
  |none=>trivial
  |some p=>exact b5 (aei ho ag) fun v aQ cw=>⟨v,by rw[dh,aQ];rfl,cw⟩
 have fr:c2 T (g.news s.heap J) ⟨T.dx,k,fd.scope⟩ env (ns.zip (vs.map .val)) J:={
  glob:=DP
  bi:=DF
  kind:=by rw[kR];exact f1
  loc:=sV
  mw:=fun x ae=>(iW x).trans ae
  ok:=fun x k ae=>(f8 x k ae).2
  nm:=fun x k ae bM=>(f8 x k ae).1.elim (fun e=>have oC:=(iW x).trans (e▸ae);⟨_,.inl ⟨oC,_,hJ,rfl⟩,slot x _ (Qb oC J1 og)⟩) fun e=>e.elim
   (fun e=>have oC:=(iW x).trans (e▸ae);(Option.isSome_iff_exists.mp (JF x (e▸ae))).elim fun c ah=>have ah:=(congrArg (Ow x) iv).trans ah;(dp x c ah).elim fun lI VB=>⟨_,.inr ⟨.inl oC,c,ah,dp x c ah,G.nG hw (Ln ah) VB.1⟩,slot x _ (Qa (by rw[oC];decide) J1 og)⟩)
   fun e=>absurd e bM
  dx:=rfl
  dict:=⟨_,hJ⟩
  cW:=fun x k ae h=>h.elim (fun e=> .inl ((iW x).trans (e▸ae))) fun e=> .inr ((iW x).trans (e▸ae))
  apart:=fun x y c ae bl=>name_of_addr DE (mem_of_lookup ae) (mem_of_lookup bl)
  sep:=fun x y l m a e=>absurd e Lw}
 have aa8:Room (20*k+20) (A.deeper env):=Room.deeper (bZ.less (by simp+arith only))
 have cN:bz T (fun b=> ∃o,s.heap.get? b=some o) ⟨T.dx,k,fd.scope⟩ env (ns.zip (vs.map .val)) (A.deeper env) (g.news s.heap J) w {s with heap:=J,toks:=aU}:={
  fr:=fr
  wd:=bb
  bZ:=aa8
  wr:=fun x ae=>(sk.mp ae).elim (fun ae=> .inl ⟨(iW x).trans (eq_of_beq ae),fun ⟨o,e⟩=>nn ((nl DL).symm.trans e)⟩) fun ae=> .inr ⟨(iW x).trans (eq_of_beq ae),fun c ah ⟨o,e⟩=>nn ((Ln ah).symm.trans e)⟩
  own:=fun x l a e=>absurd e Lw
  hq:=fun b ⟨o,e⟩=>⟨o,aX b o e⟩
  sc:=kR
  di:=by unfold interactive;rw[kR,f1];rfl}
 exact ⟨T.nolimit.keeps fun b o e=>aX b o (base b o e),codeAny_func (h env _ _ t1 cN aG _)⟩
theorem H5 (ha: ∀m,m≤n→j3 T m) {d:iN} {vs:List I} {p:I} {us:List af} {a:au} (h:cn (n+1) cx d vs w=some (p,w')) (lD:d∈T.dx.fns) (iw:cx.dx=T.dx) (hw:aL T g w s) (bZ:Room (20*cx.d+10) A) (aW:IsL g.B g.aA s.heap vs us) (rA:T.c7 d.name=some (.ref a)):
  m3 T A (.call (.ref a) ⟨us,[]⟩) g s (Res T w' p):=by
 obtain ⟨dx,k,sc⟩:=cx
 obtain rfl:dx=T.dx:=iw
 have hlen:=eq_of_beq (ck h)
 replace h:=cA h
 cases k with
 |zero=>exact (nn h).elim
 |succ k=>
 refine aN h fun x ae h=>aN h fun gA ag h=>(T.fns d lD).2.elim fun gr y R q=>gT y fun o pm y=>jc y fun code doc hm z=> ?_
 have F:=TN (T.fns d lD).1
 have base: ∀b o,T.bW.get? b=some o→s.heap.get? b=some o:=fun b o e=>(hw.base b o e).1
 have e:=w6 h
 cases inj (hm.symm.trans rA)
 refine vJ (base a o z.1) z.2.1 F.kind F.gen F.Rr rfl rfl rfl rfl rfl (z.2.2.keeps base) rfl F.po F.eD F.kw F.tN F.nm F.par F.wN hw (bZ.less (by show 20*k+30≤20*(k+1)+10;exact b0 rfl)) aW hlen fun env g1 s1 t1 cN _ E=>(ha n (a3 n)).b1 ae cN _ _ fun g2 s2 fl t2 f2 fv=> ?_
 rw[e.2] at f2
 have fin: ∀v,Is g2.B g2.aA s2.heap p v→R (.ok (.ret v)) s2:=fun v cw=>q g2 s2 v (t1.xu hw t2) ⟨f2.wd,cw⟩
 clear h ae
 generalize x.1=af1 at ag fv
 cases fv with
 |ret cw=>exact fin _ (e.1▸inj ag▸cw)
 |next=>exact fin _ (e.1▸inj ag▸ .none)
 |_=>exact (nn ag).elim
theorem Qs (ha: ∀m,m≤n→j3 T m) {d:iN} {vs:List I} {p:I} {us:List af} {a:au} (h:cn (n+1) cx d vs w=some (p,w')) (lD:d∈T.dx.fns) (iw:cx.dx=T.dx) (hw:aL T g w s) (bZ:Room (20*cx.d+10) A) (aW:IsL g.B g.aA s.heap vs us) (rA:T.c7 d.name=some (.ref a)):
  aK T A (call (.ref a) us []) g s (Res T w' p):=(H5 ha h lD iw hw bZ aW rA).vB
end
structure pv (T:bE):Prop where
 make: ∀{cx σ env A g s w w1 a t p p2 pos km},cD T cx env σ A g w s→cx.sc.names.lookup (ab "_netrclex")=some .globalImplicit→cx.sc.names.lookup (ab "_law_stream")=some .globalImplicit→4≤cx.d→t.length≤1048576∧d8 t=true→
  starEach [a] env=[(false,eval a env)]→aK T A (eval a env) g s (Res T w1 (.str t))→
  aK T A (eval (.Call (.Name (ab "_netrclex") p) [.Call (.Name (ab "_law_stream") p2) [a] [] km] [] pos) env) g s (Res T (w1++[⟨t.cps.toList,1,[]⟩]) (.obj w1.length))
 tok: ∀{cx σ env A g s w w1 o i l ap pos},cD T cx env σ A g w s→4≤cx.d→baseOk o=true→(ap.endLine==pos.line)=true→aK T A (eval o env) g s (Res T w1 (.obj i))→w1[i]?=some l→
  aK T A (eval (.Call (.Attribute o (ab "get_token") ap) [] [] pos) env) g s (Res T (w1.set i l.token.2) (.str l.token.1))
 line: ∀{cx σ env A g s w w1 o i l ap},cD T cx env σ A g w s→baseOk o=true→aK T A (eval o env) g s (Res T w1 (.obj i))→w1[i]?=some l→
  aK T A (eval (.Attribute o (ab "lineno") ap) env) g s (Res T w1 (.int l.line))
section
variable {T:bE} {K K' X:au→Prop} {cx:a'} {env:Env} {σ σ':ar} {A:bO} {g g' fh gw bh g1 g2:G} {w w' w1:W} {s s' fq br s1 s2:aw} {n j:Nat} {tgt:Expr} {wr c9:List au} {St:Nat→aR→Prop} {D az:au} {done l:List I} {dV:List af} {items:List I} {x y:Str} {v:af} {r:ej×ar×W}
theorem Zk (cJ: ∀m,m≤n→cU T m) {e:Expr} (h:gj (n+1) cx e σ w=some (l,w')) (i:cD T cx env σ A g w s):aK T A (eval e env) g s (j2 T s w' l):=by
 cases e with
 |List=>exact Zj (cJ n (a3 n)) h i
 |ListComp elt oy bj pos=>
  refine aN h fun q aG U=> ?_
  obtain rfl:=Im aG
  cases n with
  |zero=>exact aN (cA U) fun _ av _=>(nn av).elim
  |succ n=>exact Zi cJ h i
 |Call=>exact Zl (cJ n (a3 n)) h i
 |_=>exact (nn h).elim
theorem C6 (S:cU T n) {e:Expr} {p:I} (h:(gj n cx e σ w).bind (fun x=>some (I.list x.1,x.2))=some (p,w')) (i:cD T cx env σ A g w s):aK T A (eval e env) g s (Res T w' p):=
 aN h fun x J U=>iU U ((S.gj J i).freeze i.wd)
theorem LC {p:I} {k:Nat} (h:wZ p=some k):p= .obj k:=by
 cases p with
 |obj j=>exact congrArg I.obj (inj h)
 |_=>exact (nn h).elim
theorem SU (C:T.dx.lex=true→pv T) (S:cU T n) {v:Expr} {a:Str} {c:Pos} {p:I} (h:ev (n+1) cx (.Attribute v a c) σ w=some (p,w')) (i:cD T cx env σ A g w s):aK T A (eval (.Attribute v a c) env) g s (Res T w' p):=
 have ah:=ck h
 have C:=C (i.fr.dx▸dZ (dZ ah))
 aN (cA h) fun x J U=>aN U fun k aj av=>iB av fun l a0 bp=>jm (eS ah)▸iU (congrArg some bp) (C.line i (eS (dZ ah)) (LC aj▸S.ev J i) a0)
theorem SY (C:T.dx.lex=true→pv T) (S:cU T n) {f:Str} {q pos:Pos} {as:List Expr} {dI:List sh} {p:I} (h:ev (n+1) cx (.Call (.Name f q) as dI pos) σ w=some (p,w')) (i:cD T cx env σ A g w s):aK T A (eval (.Call (.Name f q) as dI pos) env) g s (Res T w' p):=by
 have ah:=ck h
 have hf:=eq_of_beq (eS ah)
 rw[k7.mp (dZ ah)]
 refine hp (cA h) (fun hm h=>aN h fun u dh h=> ?_) fun _ h=>pO h (fun _ h=>aN h fun r J U=>aN U fun z av a0=>iU a0 (Qj S hf J av i)) fun d hd h=>aN h fun r J U=>TP S hf hd J U i
 have bM:=ck h
 have C:=C (i.fr.dx▸dZ (dZ (dZ bM)))
 have rv:=jm hm
 refine aN (cA h) fun x J U=>aN U fun t aS av=>gT (acn dh) fun p2 bH jE=> ?_
 rw[jE,rv,jm (eS (dZ (dZ bM)))]
 exact iU (cA av) (C.make i (rv▸hf) (jm (eS (dZ (dZ bM)))▸eq_of_beq (eS (dZ bM))) (of_decide_eq_true (eS bM)) (ck av) (ui (yJ J)) (pG aS▸S.ev J i))
theorem SX (C:T.dx.lex=true→pv T) (S:cU T n) {o:Expr} {m:Str} {ap pos:Pos} {as:List Expr} {dI:List sh} {p:I} (h:ev (n+1) cx (.Call (.Attribute o m ap) as dI pos) σ w=some (p,w')) (i:cD T cx env σ A g w s):aK T A (eval (.Call (.Attribute o m ap) as dI pos) env) g s (Res T w' p):=by
 have ah:=ck h
 have aa:=dZ (dZ (eS ah))
 have ai:=eS (dZ (eS ah))
 have aT:=of_decide_eq_true (eS (eS ah))
 refine hp (cA h) (fun hm h=> ?_) fun _ h=>hp h (fun _ h=>C6 S h i) fun _ h=>aN h fun x J U=>aN U fun r av a0=>aN a0 fun z bp bQ=>k7.mp (dZ ah)▸iU bQ (YC S aa ai aT J av (YB bp) i)
 have C:=C (i.fr.dx▸dZ hm)
 rw[k7.mp (dZ ah),k7.mp (dZ (ck h)),jm (eS hm)]
 exact aN (cA h) fun x J U=>aN U fun k aj av=>aN av fun l a0 bp=>iU bp (C.tok i (of_decide_eq_true (eS (ck h))) aa ai (LC aj▸S.ev J i) a0)
theorem S4 (C:T.dx.lex=true→pv T) (cJ: ∀m,m≤n→cU T m) {e:Expr} {p:I} (h:ev (n+1) cx e σ w=some (p,w')) (i:cD T cx env σ A g w s):aK T A (eval e env) g s (Res T w' p):=by
 have S:=cJ n (a3 n)
 cases e with
 |Constant=>exact S1 h i
 |Name=>exact S3 h i
 |BinOp=>exact SV S h i
 |UnaryOp=>exact S9 S h i
 |BoolOp=>exact SW S h i
 |Compare=>exact S0 S h i
 |IfExp=>exact S2 S h i
 |List=>exact C6 S h i
 |ListComp=>exact C6 S h i
 |Tuple=>exact S8 S h i
 |Subscript v k pos=>exact pO h (fun aC h=>S6 S aC h i) fun q aG h=>(abO aG).elim fun p e=>e▸S5 S h i
 |Attribute=>exact SU C S h i
 |Call f as dI pos=>cases f with
  |Name=>exact SY C S h i
  |Attribute=>exact SX C S h i
  |_=>exact (nn h).elim
 |_=>exact (nn h).elim
theorem abV (C:T.dx.lex=true→pv T) (cJ: ∀m,m≤n→cU T m) (ha: ∀m,m≤n→j3 T m):cU T (n+1):=by
 have S:=cJ n (a3 n)
 exact {
  ev:=fun h _ _ _ _ i=>S4 C cJ h i
  c8:=fun h _ _ _ _ i=>aam S h i
  hN:=fun h _ _ _ _ pos i=>aak S h pos i
  d5:=fun h _ _ _ _ pos i=>SR S h pos i
  h2:=fun h _ _ _ _ i=>SS S h i
  j8:=fun h _ _ _ _ pos i=>Qp S h pos i
  iR:=fun h aC _ _ _ _ _ pos i lv=>Q7 S h aC pos i lv
  fa:=fun h _ _ _ _ i=>ado S h i
  fY:=fun h _ _ _ _ i=>adn S h i
  gj:=fun h _ _ _ _ i=>Zk cJ h i
  cn:=fun h hm hd _ _ _ _ _ hw bZ aW aJ=>Qs ha h hm hd hw bZ aW aJ}
theorem abW:cU T 0:=⟨fun h=>(nn h).elim,fun h=>(nn h).elim,fun h=>(nn h).elim,fun h=>(nn h).elim,fun h=>(nn h).elim,fun h=>(nn h).elim,fun h=>(nn h).elim,fun h=>(nn h).elim,fun h=>(nn h).elim,fun h=>(nn h).elim,fun h=>(nn h).elim⟩
theorem Ft (C:T.dx.lex=true→pv T): ∀n,(∀m,m≤n→cU T m)∧(∀m,m≤n→j3 T m):=by
 intro bq
 induction bq with
 |zero=>
  exact ⟨fun m h=>by obtain rfl:=su.mp h;exact abW,fun m h=>by obtain rfl:=su.mp h;exact abY⟩
 |succ n ay=>
  obtain ⟨a,b⟩:=ay
  have gr:=abV C a b
  have aZ:=abX a b
  exact ⟨fun m h=>(k' h).elim (fun h=>a m (hV h)) fun h=>h▸gr,fun m h=>(k' h).elim (fun h=>b m (hV h)) fun h=>h▸aZ⟩
end
noncomputable abbrev hL (P:f6) (bt bB c4 d6:Tok) (ln src ws cu:af):Obj:=
 {cls:= .type "dict",data:= .dict #[⟨cX P (ab "lineno"),.str (ab "lineno") bt,ln⟩,⟨cX P (ab "instream"),.str (ab "instream") bB,src⟩,
  ⟨cX P (ab "whitespace"),.str (ab "whitespace") c4,ws⟩,⟨cX P (ab "pushback"),.str (ab "pushback") d6,cu⟩] 4}
section
variable {K:Frag} {C:au} {cd:ClassData} {od:Obj} {name:Str} {v:af} {P:f6} {bt bB c4 d6:Tok} {ln src ws cu:af}
theorem TH (ah:clsIn K C=some cd) (hd:cd.hasDict=true) (aJ:findIn K (.ref C) name=some none) (ai:lookIn name od=some (some v)):findObj K C (some od) name=some (.value v):=by
 unfold findObj
 rw[ah,aJ]
 simp[PySem.W.ownOf,hd,ai]
theorem EA:lookIn (ab "lineno") (hL P bt bB c4 d6 ln src ws cu)=some (some ln):=by kernel_rfl
theorem Ye:lookIn (ab "instream") (hL P bt bB c4 d6 ln src ws cu)=some (some src):=by kernel_rfl
theorem Yg:lookIn (ab "whitespace") (hL P bt bB c4 d6 ln src ws cu)=some (some ws):=by kernel_rfl
theorem Yd:lookIn (ab "pushback") (hL P bt bB c4 d6 ln src ws cu)=some (some cu):=by kernel_rfl
theorem aaz {t:Tok} {v:af}:pf (ab "lineno") (cX P (ab "lineno")) (.str (ab "lineno") t) v (hL P bt bB c4 d6 ln src ws cu)=hL P bt bB c4 d6 v src ws cu:=by kernel_rfl
theorem abI:shadowIn (some (hL P bt bB c4 d6 ln src ws cu)) (ab "_read_char")=some false:=by kernel_rfl
theorem abJ:shadowIn (some (hL P bt bB c4 d6 ln src ws cu)) (ab "get_token")=some false:=by kernel_rfl
end
section
variable {prog:sE} {w:pn} {A:bO} {E:af→aw→Prop} {s:aw} {K:Frag} {x dx C:au} {ox od nJ:Obj} {name:Str} {v:af} {R:m2→aw→Prop}
theorem LQ {aU:Tok} {es:List Gs} {n:Nat} (X:K.In s.heap) (az:InstAt s.heap x ox C (some od)) (hd:ox.dict=some dx) (ag:plainOver K C=true) (aS:takerIn K C name=some none) (cL:(clsIn K C).any (·.hasDict)=true)
  (ai:(lookIn name od).isSome=true) (e:pf name (cX w.params name) (.str name s.toks) v od=nJ) (bP:nJ.data= .dict es.toArray n) (a6:es.length≤1000)
  (h: ∀h',Heap.SameBut dx s.heap h'→h'.get? dx=some nJ→R (.ok (.ret .none)) {s with heap:=h',toks:=s.toks+1}):
  codeAny (bo prog w) A (.call (.builtin "object.__setattr__") ⟨[.ref x,.str name aU,v],[]⟩) R s:=by
 refine osa_open X az ag aS fun b=> ?_
 obtain ⟨cd,ah,jh⟩:=any_some cL
 obtain ⟨ae,dp,aT,D⟩:=az
 obtain ⟨lI,agt,w0,agu⟩:=ox
 dsimp only at dp hd
 subst dp hd
 have D:s.heap.get? dx=some od:=D
 have jZ:(s.heap.update dx (pf name (cX w.params name) (.str name s.toks) v)).get? dx=some nJ:=by
  rw[Ox _ D (by rw[e];obtain ⟨_,_,hh,_⟩:=nJ;cases bP;rfl),e]
 refine aM (b6 (aM (aM (uJ ae (aM ((looks_clsIn X ah).here ?_))))))
 rw[jh]
 refine b6 (a:=some dx) (aM (b6 (aM ?_)))
 unfold nsSet
 refine aM (aM (wpAny_askSetting (b6 (aM (Gu (aM (uJ D ?_)))))))
 unfold lookIn at ai
 split at ai
 ·rename_i IT agq q
  rw[q]
  dsimp only
  have c:(!IT.any (·.key.isStr name)&&IT.any (·.refKey))=false:=by
   rw[←aeU,←aeU]
   split at ai
   ·rename_i pP he
    rw[List.any_eq_true.mpr ⟨pP,aeE he,aeD he⟩];rfl
   ·split at ai
    ·cases ai
    ·rename_i z;rw[Bool.not_eq_true] at z;rw[z,Bool.and_false]
  rw[aeV,c]
  refine wpAny_updatePart D ?_
  refine aM (wpAny_lookBehind jZ (by rw[bP];exact pastItsLine_dict (by rw[eN,sizeLine_eq];exact bX a6 rfl)) ?_)
  exact b6 (h _ (Heap.SameBut.update ..) jZ)
 ·cases ai
end
noncomputable def bE.bare (T:bE):bE:={T with
 dx:={T.dx with lex:=false}
 fns:=T.fns
 consts:=T.consts
 qT:=fun _ _ _ _=>True
 qY:=fun _ _=>True
 kl:=fun _ _ _=>trivial
 lQ:=fun _ _ _=>trivial
 dO:=none}
theorem PV (T:bE): ∀n,(∀m,m≤n→cU T.bare m)∧(∀m,m≤n→j3 T.bare m):=Ft fun h=>by cases h
section
variable {T:bE} {A:bO} {g:G} {w:W} {s s':aw}
noncomputable def n5 (X:au→Prop):G:=⟨X,[]⟩
theorem aL.bare (d:aL T g w s) (X:au→Prop) (kO: ∀b,X b→(∃o,s.heap.get? b=some o)∧T.bW.get? b=none):aL T.bare (n5 X) [] s where
 aU:=d.aU
 base b o e:=⟨(d.base b o e).1,fun z=>absurd ((kO b z).2.symm.trans e) (by nofun)⟩
 ex b z:=(kO b z).1
 dc b z:=z.elim (fun h=>nomatch h) fun ⟨a,h,_⟩=>nomatch h
 tab:=trivial
 len:=rfl
 cO _ _ _ e:=by simp[n5] at e
 fg _ _ _ _ _ e:=by simp[n5] at e
 eT _ h:=nomatch h
end
noncomputable abbrev fw:Str:=ab "text"
noncomputable abbrev e8:Str:=ab "place"
noncomputable abbrev gz:Str:=ab "read"
noncomputable abbrev rT:Str:=ab "source"
noncomputable abbrev mE:Str:=ab "size"
noncomputable abbrev readBody (P:Nat→Pos):List bY:=
 [.AugAssign (.Subscript (.Name (ab "place") (P 0)) (.Constant (.int 0) 0 (P 1)) (P 2)) .Add (.Name (ab "size") (P 3)) (P 4),
  .Return (some (.Subscript (.Name (ab "text") (P 5)) (.Slice (some (.BinOp (.Subscript (.Name (ab "place") (P 6)) (.Constant (.int 0) 0 (P 7)) (P 8)) .Sub (.Name (ab "size") (P 9)) (P 10)))
   (some (.Subscript (.Name (ab "place") (P 11)) (.Constant (.int 0) 0 (P 12)) (P 13))) none (P 14)) (P 15))) (P 16)]
structure pz (kp:pg) (fo:List bY) (rs:Scope):Prop where
 fo: ∃P,fo=readBody P
 aT:kp.args.map (·.arg)=[mE]
 f4:kp.posonlyargs=[]
 je:kp.vararg=none
 gv:kp.kwonlyargs=[]
 kM:kp.kwarg=none
 f8:kp.defaults=[]
 oh:kp.kw_defaults=[]
 ann: ∀env,annTrees kp none env=[]
 bt:rs.kind= .function
 bB:rs.isGenerator=false
 c4:rs.isCoroutine=false
 names:rs.names=[(mE,.local),(e8,.free),(fw,.free)]
structure kG (fd:dW) (ct b7:au):Prop where
 nZ: ∃b,fd.body= .stmts b∧pz fd.params b fd.scope
 nk:fd.globals=mainGlobals
 oi:fd.builtins=builtinsNs
 oj:fd.defaults= .none
 cl:fd.closure=[(fw,ct),(e8,b7)]
 tn:ct≠b7
noncomputable def gC (k:Int) (text:Str):ar:=[(mE,.val (.int 1)),(e8,.own [.int k]),(fw,.val (.str text))]
theorem Fh {k:Int} {text x:Str} {l:List I} (h:(gC k text).get x= .own l):x=e8:=by
 refine Classical.byContradiction fun n=> ?_
 have h:(if mE==x then _ else if e8==x then _ else if fw==x then _ else _)=Slot.own l:=h
 rw[if_neg (c:=(e8==x)=true) fun e=>n (eq_of_beq e).symm] at h
 split at h
 ·cases h
 ·split at h<;>cases h
theorem Mg {k:Int} {text:Str}:(gC k text).get e8= .own [.int k]:=by kernel_rfl
theorem aaG {k:Int} {text:Str}:(gC k text).get fw= .val (.str text):=by kernel_rfl
theorem wG {β:Type} {a x:Str} {i k:β} {l:List (Str×β)} (h:Ow x ((a,i)::l)=some k):(x=a∧k=i)∨l.lookup x=some k:=by
 rw[lW] at h
 split at h
 ·rename_i aa;exact .inl ⟨eq_of_beq aa,(inj h).symm⟩
 ·exact .inr h
theorem KU {β:Type} {x:Str} {k:β} {P:Prop} (h:Ow x []=some k):P:=nomatch h
section
variable {T:bE} {A:bO} {g:G} {w:W} {s:aw} {h:aR} {fd:dW} {ct b7 pl:au} {k:Int} {text x:Str} {t1 t2 t3:Tok} {env:Env} {m:Str→Option af} {n:Nat}
theorem kG.cell (F:kG fd ct b7) {c:au} (h:fd.closure.lookup x=some c):(x=fw∧c=ct)∨(x=e8∧c=b7):=
 (wG (F.cl▸h)).imp_right fun h=>(wG h).elim id KU
theorem kG.kind (F:kG fd ct b7) {k:fB} (h:fd.scope.names.lookup x=some k):(x=mE∧k= .local)∨(x=e8∧k= .free)∨(x=fw∧k= .free):=
 b5 F.nZ fun b _ D=>(wG (D.names▸h)).imp_right fun h=>(wG h).imp_right fun h=>(wG h).elim id KU
theorem kG.at (F:kG fd ct b7):fd.closure.lookup fw=some ct∧fd.closure.lookup e8=some b7:=by rw[F.cl];exact ⟨rfl,by kernel_rfl⟩
theorem pz.at {kp:pg} {fo:List bY} {rs:Scope} (D:pz kp fo rs):rs.names.lookup mE=some .local∧rs.names.lookup e8=some .free∧rs.names.lookup fw=some .free:=by rw[D.names];exact ⟨by kernel_rfl,by kernel_rfl,by kernel_rfl⟩
theorem pz.Ai {kp:pg} {fo:List bY} {rs:Scope} (D:pz kp fo rs): ∀x∈rs.names,x.2≠ .cell:=by
 rw[D.names]
 exact sv.mpr ⟨nofun,sv.mpr ⟨nofun,sv.mpr ⟨nofun,nofun⟩⟩⟩
theorem aaJ (F:kG fd ct b7) (aj:fd.scope.kind= .function) (kR:env.scope=fd.scope) (iv:env.cells=fd.closure) (DP:env.globals=mainGlobals) (DF:env.builtins=builtinsNs) (sV:cy T g env.locals) (hJ:h.Ns env.locals m) (hm:m mE=some (.int 1 t3))
  (ys:h.IsCell ct (some (.str text t1))) (sY:h.IsCell b7 (some (.ref pl))) (PX:cy T g ct) (PW:cy T g b7) (pJ:cy T g pl) (ai:c6 h pl #[.int k t2]):c2 T g ⟨T.dx,n,fd.scope⟩ env (gC k text) h:=by
 have iW: ∀x,env.kindOf x=fd.scope.names.lookup x:=fun x=>congrArg (fun s:Scope=>s.names.lookup x) kR
 exact {
  glob:=DP
  bi:=DF
  kind:=kR▸aj
  loc:=sV
  mw:=fun x ae=>(iW x).trans ae
  ok:=fun x k ae=>by rcases F.kind ae with ⟨rfl,_⟩|⟨rfl,_⟩|⟨rfl,_⟩<;>exact ⟨by kernel_rfl,by kernel_rfl⟩
  nm:=fun x eL ae bM=>(F.kind ae).elim (fun q=>⟨_,.inl ⟨(iW x).trans (ae.trans (congrArg some q.2)),m,hJ,rfl⟩,q.1▸⟨_,hm,.int _ _⟩⟩) fun q=>q.elim
   (fun q=>⟨_,.inr ⟨.inr ((iW x).trans (ae.trans (congrArg some q.2))),b7,by rw[iv,q.1];exact F.at.2,sY,PW⟩,by rw[q.1,Mg];exact ⟨pl,[.int k t2],rfl,pJ,ai,.cons (.int _ _) .nil⟩⟩)
   fun q=>⟨_,.inr ⟨.inr ((iW x).trans (ae.trans (congrArg some q.2))),ct,by rw[iv,q.1];exact F.at.1,ys,PX⟩,by rw[q.1,aaG];exact ⟨_,rfl,.str _ _⟩⟩
  dx:=rfl
  dict:=⟨_,hJ⟩
  cW:=fun x k ae h=>h.imp (fun q=>(iW x).trans (ae.trans (congrArg some q))) fun q=>(iW x).trans (ae.trans (congrArg some q))
  apart:=fun x y c ae bl=>(F.cell (iv▸ae)).elim (fun a=>(F.cell (iv▸bl)).elim (fun b=>a.1.trans b.1.symm) fun b=>(F.tn (a.2.symm.trans b.2)).elim) fun a=>(F.cell (iv▸bl)).elim (fun b=>(F.tn (b.2.symm.trans a.2)).elim) fun b=>a.1.trans b.1.symm
  sep:=fun x y l m a ex iT _ _ _ _=>(Fh ex).trans (Fh iT).symm}
theorem aaI {K:au→Prop} (F:kG fd ct b7) (aj:fd.scope.kind= .function) (fr:c2 T g ⟨T.dx,n,fd.scope⟩ env (gC k text) s.heap) (wd:aL T g w s) (bZ:Room (20*n+20) A) (kR:env.scope=fd.scope) (iv:env.cells=fd.closure)
  (iu: ¬K env.locals) (ag: ¬K pl) (sY:s.heap.IsCell b7 (some (.ref pl))) (hq: ∀b,K b→ ∃o,s.heap.get? b=some o):bz T K ⟨T.dx,n,fd.scope⟩ env (gC k text) A g w s:=by
 have iW: ∀x,env.kindOf x=fd.scope.names.lookup x:=fun x=>congrArg (fun s:Scope=>s.names.lookup x) kR
 exact {
  fr:=fr
  wd:=wd
  bZ:=bZ
  wr:=fun x ae=>(sk.mp ae).elim (fun ae=> .inl ⟨(iW x).trans (eq_of_beq ae),iu⟩) fun ae=>(F.kind (eq_of_beq ae)).elim (fun q=>nomatch q.2) fun q=>q.elim (fun q=>nomatch q.2) fun q=>nomatch q.2
  own:=fun x l a ex _ z=>by
   obtain rfl:=Fh ex
   refine z.elim (fun z=>b5 F.nZ fun b _ D=>nomatch inj (((iW e8).trans D.at.2.1).symm.trans z.1)) fun z=> ?_
   ·exact d9 z.2 fun c ah l9 _=>by
     rw[iv,F.at.2] at ah
     obtain rfl:=inj ah
     obtain rfl:pl=a:=by
      obtain ⟨o,e,q⟩:=l9
      obtain ⟨cE,bP,kn⟩:=sY
      rw[bP] at e
      rw[←inj e,kn] at q
      injection q with q
      injection q with q
      injection q
     exact ag
  hq:=hq
  sc:=kR
  di:=by unfold interactive;rw[kR,aj];rfl}
end
section
variable {T:bE} {A:bO} {g:G} {w:W} {s:aw}
set_option backward.match.sparseCases true in
theorem aaK {fd:dW} {body:List bY} {dj ct b7 pl:au} {o:Obj} {k:Int} {text:Str} {t1 t2 t3:Tok} {R:m2→aw→Prop} {n:Nat} (F:kG fd ct b7)
  (aV:s.heap.get? dj=some o) (hk:o.data= .func fd) (ep:fd.body= .stmts body) (D:pz fd.params body fd.scope) (lB:s.heap.CodeRec fd.code fd.qualname)
  (hw:aL T g w s) (bZ:Room (20*n+30) A) (J:s.heap.IsCell ct (some (.str text t1))) (U:s.heap.IsCell b7 (some (.ref pl))) (av:c6 s.heap pl #[.int k t2]) (a0:T.bW.get? ct=none) (bp:T.bW.get? b7=none) (bQ:T.bW.get? pl=none)
  (h: ∀env g1 s1,env.cells=fd.closure→cV T.bare (fun b=>(∃o,s.heap.get? b=some o)∧b≠pl) (n5 fun b=>b=ct∨b=b7∨b=pl) s g1 s1→
   bz T.bare (fun b=>(∃o,s.heap.get? b=some o)∧b≠pl) ⟨T.bare.dx,n,fd.scope⟩ env (gC k text) (A.deeper env) g1 [] s1→
   ∀E,bc (bo T.prog T.w) (A.deeper env) (execs body env) (fun f s'=>R (.ok (.ret (match f with| .ret v=>v|_=> .none))) s') E s1):
  codeAny (bo T.prog T.w) A (.call (.ref dj) ⟨[.int 1 t3],[]⟩) R s:=by
 have S': ∃o,s.heap.get? ct=some o:=J.imp fun _ q=>q.1
 have Ta: ∃o,s.heap.get? b7=some o:=U.imp fun _ q=>q.1
 have Tb: ∃o,s.heap.get? pl=some o:=av.imp fun _ q=>q.1
 have kO: ∀b,(b=ct∨b=b7∨b=pl)→(∃o,s.heap.get? b=some o)∧T.bW.get? b=none:=fun b z=>z.elim (fun z=>z▸⟨S',a0⟩) fun z=>z.elim (fun z=>z▸⟨Ta,bp⟩) fun z=>z▸⟨Tb,bQ⟩
 have yD:=hw.bare (fun b=>b=ct∨b=b7∨b=pl) kO
 have PY: ∀b,(b=ct∨b=b7∨b=pl)→cy T.bare (n5 fun b=>b=ct∨b=b7∨b=pl) b:=fun b z=>⟨z,fun z=>z.elim (fun h=>nomatch h) fun ⟨a,m,_⟩=>nomatch m⟩
 refine aeT (fd:=fd) (ic (g4 _ _) bZ.depth) aV hk D.c4 D.bB ep lB ?_
 refine HW D.f4 D.je D.gv D.kM F.oj (by rw[D.aT];rfl) (by rw[D.aT];exact .cons (fun _ h=>nomatch h) .nil) ?_
 rw[D.aT]
 refine wpAny_newFunctionEnv D.Ai (fun x ae=>by rw[fs.mp ae];exact D.at.1) (fun h' hJ VQ=> ?_) D.bt
 have aX: ∀b o,s.heap.get? b=some o→h'.get? b=some o:=fun b o e=>(VQ.2 b (jX (k8 e))).trans (eE _ e)
 have st:bK T.bare (n5 fun b=>b=ct∨b=b7∨b=pl) s ((n5 fun b=>b=ct∨b=b7∨b=pl).news s.heap h') {s with heap:=h',toks:=s.toks+1}:= .news aX (nW _)
 have bb:aL T.bare ((n5 fun b=>b=ct∨b=b7∨b=pl).news s.heap h') [] {s with heap:=h',toks:=s.toks+1}:=yD.news aX (nW _)
 have CE: ∀b,(b=ct∨b=b7∨b=pl)→cy T.bare ((n5 fun b=>b=ct∨b=b7∨b=pl).news s.heap h') b:=fun b z=>(PY b z).xo st yD
 have cW: ∀{a v},s.heap.IsCell a v→h'.IsCell a v:=fun q=>q.imp fun o q=>⟨aX _ _ q.1,q.2⟩
 exact ⟨T.nolimit.keeps fun b o e=>aX b o (hw.base b o e).1,codeAny_func (h _ _ _ rfl (st.bR yD) (aaI F D.bt (aaJ (t1:=t1) (t2:=t2) F D.bt rfl rfl F.nk F.oi (G.nG yD (iD _) (hJ.choose_spec.choose_spec.choose_spec.1)) hJ rfl (cW J) (cW U) (CE ct (.inl rfl)) (CE b7 (.inr (.inl rfl))) (CE pl (.inr (.inr rfl))) (av.imp fun o q=>⟨aX _ _ q.1,q.2⟩)) bb
  (Room.deeper (bZ.less (show 20*n+20+1≤20*n+30 by simp+arith only))) rfl rfl (fun z=>z.1.elim fun o e=>nn ((iD _).symm.trans e)) (fun z=>z.2 rfl) (cW U) fun b z=>z.1.imp (aX b)) _)⟩
end
theorem aaO {dx:uZ} {n:Nat} {sc:Scope} {k:Int} {text:Str} {P:Nat→Pos} (J:sc.names.lookup mE=some .local) (U:sc.names.lookup e8=some .free) (av:sc.names.lookup fw=some .free) (a6:text.length≤1048576):
  b1 20 ⟨dx,n,sc⟩ (readBody P) (gC k text) []=
   some (.ret (.str (gS text (some (k+1-1)) (some (k+1)))),gC (k+1) text,[]):=by
 have adP: ∀k,wL ⟨dx,n,sc⟩ (gC k text) (ab "size")=some (.int 1):=fun k=>by unfold wL;rw[J];kernel_rfl
 have Z3: ∀k,rU ⟨dx,n,sc⟩ (gC k text) (ab "place")=some (.list [.int k]):=fun k=>by unfold rU;rw[U];kernel_rfl
 have Z4: ∀k,rU ⟨dx,n,sc⟩ (gC k text) (ab "text")=some (.str text):=fun k=>by unfold rU;rw[av];kernel_rfl
 have ZP:ar.own? sc (gC k text) (ab "place")=some [.int k]:=by unfold ar.own? held;rw[U];kernel_rfl
 have yI: ∀m p k w,ev (m+1) ⟨dx,n,sc⟩ (.Name (ab "size") p) (gC k text) w=some (.int 1,w):=fun m p k w=>eB (adP k) rfl
 have tM: ∀m p k w,c8 (m+1) ⟨dx,n,sc⟩ (.Name (ab "place") p) (gC k text) w=some (.list [.int k],w):=fun m p k w=>eB (Z3 k) rfl
 have Xf: ∀m p k w,c8 (m+1) ⟨dx,n,sc⟩ (.Name (ab "text") p) (gC k text) w=some (.str text,w):=fun m p k w=>eB (Z4 k) rfl
 have nA: ∀m p q r,ev (m+3) ⟨dx,n,sc⟩ (.Subscript (.Name (ab "place") p) (.Constant (.int 0) 0 q) r) (gC (k+1) text) []=some (.int (k+1),[]):=fun m p q r=>eB (tM _ p (k+1) _) (by kernel_rfl)
 have aF:ex 19 ⟨dx,n,sc⟩ (.AugAssign (.Subscript (.Name (ab "place") (P 0)) (.Constant (.int 0) 0 (P 1)) (P 2)) .Add (.Name (ab "size") (P 3)) (P 4)) (gC k text) []=some (.next,gC (k+1) text,[]):=eB (yI _ (P 3) k _) (eB ZP (by kernel_rfl))
 have p6:(if (none:Option Int)=none∧text.length≤1048576 then some (I.str (gS text (some (k+1-1)) (some (k+1)))) else none)=some (.str (gS text (some (k+1-1)) (some (k+1)))):=if_pos ⟨rfl,a6⟩
 have aE:ex 18 ⟨dx,n,sc⟩ (.Return (some (.Subscript (.Name (ab "text") (P 5)) (.Slice (some (.BinOp (.Subscript (.Name (ab "place") (P 6)) (.Constant (.int 0) 0 (P 7)) (P 8)) .Sub (.Name (ab "size") (P 9)) (P 10)))
   (some (.Subscript (.Name (ab "place") (P 11)) (.Constant (.int 0) 0 (P 12)) (P 13))) none (P 14)) (P 15))) (P 16)) (gC (k+1) text) []=some (.ret (.str (gS text (some (k+1-1)) (some (k+1)))),gC (k+1) text,[]):=
  eB (eB (Xf _ (P 5) (k+1) _) (eB (eB (nA _ (P 6) (P 7) (P 8)) (eB (yI _ (P 9) (k+1) _) rfl)) (eB (nA _ (P 11) (P 12) (P 13)) (eB (a:=(I.none,([]:W))) rfl (eB p6 rfl))))) (by kernel_rfl)
 exact eB aF (eB aE rfl)
section
variable {T:bE} {A:bO} {g:G} {w:W} {s:aw}
theorem l3.Mk {g:G} {h:aR} {p:I} {fl:iM} {P:Prop} (i:l3 g h (.ret p) fl) (k: ∀v,fl= .ret v→Is g.B g.aA h p v→P):P:=match i with
 | .ret i=>k _ rfl i
theorem IsL.one {B:au→Prop} {aA:List c3} {h:aR} {p:I} {vs:List af} {G:Prop} (i:IsL B aA h [p] vs) (k: ∀v,vs=[v]→Is B aA h p v→G):G:=
 e5 i.gE fun v vs ev cw r=>k v (ev.trans (congrArg _ r.iJ)) cw
theorem Is.NK {B:au→Prop} {aA:List c3} {h:aR} {u v:af} (x:Is B aA h (.raw u) v):v=u:=by cases x;rfl
theorem QB {h:aR} {a:au} {v:Option af} {l:Array af} (c:h.IsCell a v) (q:c6 h a l):False:=by
 obtain ⟨o,e,c⟩:=c
 obtain ⟨cE,bP,_,_,q⟩:=q
 rw[←inj (e.symm.trans bP)] at q
 exact nomatch c.symm.trans (congrArg pk q)
theorem QA {h:aR} {a b c:au} (x:h.IsCell a (some (.ref b))) (y:h.IsCell a (some (.ref c))):b=c:=by
 obtain ⟨o,e,x⟩:=x
 obtain ⟨cE,bP,y⟩:=y
 rw[←inj (e.symm.trans bP)] at y
 injection x.symm.trans y with q
 injection inj q
theorem aaL {fd:dW} {ct b7 pl:au} {k:Int} {text:Str} {K:au→Prop} {env:Env} {body:List bY} {n:Nat} {s':aw} (F:kG fd ct b7) (D:pz fd.params body fd.scope) (vP:env.cells=fd.closure) (kR:env.scope=fd.scope) (f:bz T K ⟨T.dx,n,fd.scope⟩ env (gC k text) A g w s')
  (c:s.heap.IsCell b7 (some (.ref pl))) (aX: ∀o,s.heap.get? b7=some o→s'.heap.get? b7=some o): ∃t,c6 s'.heap pl #[.int k t]:=
 b5 (f.fr.nm e8 _ D.at.2.1 (by decide)) fun v ht iH=>hG (Mg▸iH:fO T g s'.heap (.own [.int k]) v) fun a vs e q6 aI aW=>by
  obtain rfl:pl=a:=ht.elim (fun z=>nomatch inj (((congrArg (fun s:Scope=>s.names.lookup e8) kR).trans D.at.2.1).symm.trans z.1)) fun z=>d9 z.2 fun d0 ah l9 _=>by
   rw[vP,F.at.2] at ah
   exact QA (c.imp fun o q=>⟨aX o q.1,q.2⟩) (inj ah▸e▸l9)
  exact aW.one fun v ev cw=>en cw.jS fun t gh=>⟨t,by rw[ev,gh] at aI;exact aI⟩
theorem aaM {fd:dW} {dj ct b7 pl:au} {o:Obj} {k:Int} {text:Str} {t1 t2 t3:Tok} {R:m2→aw→Prop} (aV:s.heap.get? dj=some o) (hk:o.data= .func fd) (F:kG fd ct b7) (lB:s.heap.CodeRec fd.code fd.qualname)
  (hw:aL T g w s) (bZ:Room 30 A) (J:s.heap.IsCell ct (some (.str text t1))) (U:s.heap.IsCell b7 (some (.ref pl))) (av:c6 s.heap pl #[.int k t2]) (a0:T.bW.get? ct=none) (bp:T.bW.get? b7=none) (bQ:T.bW.get? pl=none)
  (a6:text.length≤1048576)
  (h: ∀s' gD,(∀b o,b≠pl→s.heap.get? b=some o→s'.heap.get? b=some o)→(∀b o,s.heap.get? b=some o→ ∃cE,s'.heap.get? b=some cE)→(∃ee,c6 s'.heap pl #[.int (k+1) ee])→s'.gens=s.gens→s'.os=s.os→s.toks≤s'.toks→
   R (.ok (.ret (.str (gS text (some (k+1-1)) (some (k+1))) gD))) s'):
  codeAny (bo T.prog T.w) A (.call (.ref dj) ⟨[.int 1 t3],[]⟩) R s:=by
 refine b5 F.nZ fun body ep D=> ?_
 refine aaK (n:=0) F aV hk ep D lB hw bZ J U av a0 bp bQ fun env g1 s1 vP t cN E=> ?_
 have run: ∃q,b1 20 ⟨T.bare.dx,0,fd.scope⟩ body (gC k text) []=some q∧q=(.ret (.str (gS text (some (k+1-1)) (some (k+1)))),gC (k+1) text,[]):=by
  exact D.fo.elim fun P e=>e▸⟨_,aaO D.at.1 D.at.2.1 D.at.2.2 a6,rfl⟩
 obtain ⟨_,run,rfl⟩:=run
 refine ((PV T 20).2 20 (a3 _)).b1 run cN E _ fun g2 s2 fl t2 f2 fv=> ?_
 have tt:=t.trans t2
 refine fv.Mk fun v e cw=>en cw.h8 fun gD ev=> ?_
 rw[e,ev]
 exact h s2 gD (fun b o aa e=>tt.old b o ⟨⟨o,e⟩,aa⟩ e fun z=>z.elim (fun h=>nomatch h) fun ⟨a,m,_⟩=>nomatch m) tt.ex (aaL F D vP cN.sc f2 U fun o e=>tt.old b7 o ⟨⟨o,e⟩,fun z=>QB U (z▸av)⟩ e fun z=>z.elim (fun h=>nomatch h) fun ⟨a,m,_⟩=>nomatch m) tt.gens tt.os tt.aU
end
theorem Di:typeLookup (.type "function") (ab "__getattribute__")=pure (some (.builtin "object.__getattribute__")):=by rw[uK,uL];kernel_rfl
theorem TU:typeLookup (.type "function") (ab "__getattr__")=pure none:=by rw[uK,uL];kernel_rfl
theorem Dj:typeLookup (.type "function") (ab "read")=pure none:=by rw[uK,uL];kernel_rfl
theorem I4:_root_.PySem.Slot "function" (ab "__getattribute__") "object.__getattribute__":=
 .of (owner:="object") (n:="__getattribute__") Di (by decide+kernel) (by decide+kernel) (by decide+kernel)
  (by first|exact .inl (by decide+kernel)|exact .inr (by decide+kernel)) (by rw[Gv];kernel_rfl)
structure sJ (h:aR) (f e9:au) (m:Str→Option af):Prop where
 obj: ∃o fd,h.get? f=some o∧o.cls= .type "function"∧o.data= .func fd∧o.dict=some e9
 ns:h.Ns e9 m
theorem TQ {M:Model} {h:aR} {f e9:au} {m:Str→Option af} {v:af} (D:sJ h f e9 m) (aQ:m (ab "read")=some v):Looks M h (aeW (.ref f) (.type "function") (ab "read")) (.value v):=by
 obtain ⟨o,fd,aV,ah,hd,JG⟩:=D.obj
 obtain ⟨lI,od,w0,os⟩:=o
 dsimp only at ah hd JG
 subst ah hd JG
 intro A Q E s k q
 unfold aeW
 refine aM (uI Dj (aM (b6 (aM (b6 ?_)))))
 unfold agA agB agC
 refine aM (aM (aM (uJ (k _ _ aV) ?_)))
 unfold instanceDict
 refine aM (uJ (k _ _ aV) ?_)
 refine b6 ?_
 refine wpAny_nsGet (D.ns.keeps k) ?_
 rw[aQ]
 exact aM (BA (b6 q))
section
variable {prog:sE} {w:pn} {A:bO} {E:af→aw→Prop} {s:aw} {f e9:au} {m:Str→Option af} {v:af} {expr:Bool} {Q:af→aw→Prop}
theorem I5 {M:Model} {h:aR} (D:sJ h f e9 m):Looks M h (typeOf (.ref f)) (.type "function"):=by
 obtain ⟨o,fd,aV,ah,_⟩:=D.obj
 exact ah▸(Looks.ld aV).andThen .now
theorem TO (D:sJ s.heap f e9 m) (aQ:m (ab "read")=some v) (cL:handedIn v=true) (h:Q v {s with toks:=s.toks+1}):bc (bo prog w) A (getAttr (.ref f) (ab "read") expr) Q E s:=by
 obtain ⟨ag,g,d,t,os⟩:=s
 have sL:=I5 (M:=bo prog w) D
 have Pg:Looks (bo prog w) ag (typeLookup (.type "function") (ab "__getattribute__")) _:=Gx Di
 unfold getAttr getAttrBy
 refine aM (Gu (g8 (aM (sL.at (aM (Pg.at ?_))))))
 dsimp only
 rw[if_neg (by decide+kernel)]
 unfold getAttrByItsOwn
 refine aM (b6 (a:=none) (aM ?_))
 refine Gy (g8 ?_)
 have eJ:(expr&&onTheHeap (Value.builtin "object.__getattribute__"))=false:=by cases expr<;>rfl
 unfold callGetattribute
 rw[if_neg (by rw[eJ];decide)]
 unfold boundAndCalled
 rw[I4.bind]
 refine aM (b6 ?_)
 have cB: ∀aU,(⟨ag,g,d,aU,os⟩:aw).TypeIs (.ref f) "function":=fun aU=>by obtain ⟨o,fd,aV,ah,_⟩:=D.obj;exact ⟨o,aV,ah⟩
 refine BE I4 (cB _) F.entry_object_getattribute ?_ (F.args_object_getattribute_2 _ _)
 unfold BF.«object.__getattribute__»
 refine aM (b6 (aM (b6 (aM (sL.at (aM ((TQ D aQ).at ?_)))))))
 refine b6 ⟨v,rfl,?_⟩
 show bc _ _ (handedOut v) _ _ _
 rw[handedOut_of cL];exact b6 h
end
section
variable {prog:sE} {w:pn} {A:bO} {E:af→aw→Prop} {s:aw} {f e9:au} {m:Str→Option af} {v:af}
theorem TV {pl:Sem Bool} {Q:af×List af→aw→Prop} (D:sJ s.heap f e9 m) (aQ:m (ab "read")=some v) (cL:handedIn v=true) (h:Q (v,[]) {s with toks:=s.toks+1}):bc (bo prog w) A (getMethod (.ref f) (ab "read") pl) Q E s:=by
 obtain ⟨ag,g,d,t,os⟩:=s
 have sL:=I5 (M:=bo prog w) D
 have zh:=PySem.F.canon_object_ga
 unfold getMethod specialOf
 refine aM (aM (sL.at ((Gx (M:=bo prog w) (h:=ag) Di).at ?_)))
 dsimp only
 rw[zh,if_neg (by decide)]
 refine aM (aM (sL.at ((Gx (M:=bo prog w) (h:=ag) TU).at ?_)))
 refine aM (aM (sL.at ((Gx (M:=bo prog w) (h:=ag) Dj).at ?_)))
 exact aM (TO D aQ cL (b6 h))
end
noncomputable def bE.plain (T:bE):bE:={T with
 dx:={T.dx with lex:=false}
 fns:=T.fns
 consts:=T.consts}
theorem nL (T:bE): ∀n,(∀m,m≤n→cU T.plain m)∧(∀m,m≤n→j3 T.plain m):=Ft fun h=>by cases h
section
variable {T:bE} {A:bO} {g g':G} {w:W} {s s':aw} {cx:a'} {env:Env} {σ:ar}
theorem bK.hR (t:bK T g s g' s'):bK T.plain g s g' s':=⟨t.keep,t.ex,t.hb,t.iQ,t.eG,t.ef,t.gens,t.os,t.aU⟩
theorem bK.ed (t:bK T.plain g s g' s'):bK T g s g' s':=⟨t.keep,t.ex,t.hb,t.iQ,t.eG,t.ef,t.gens,t.os,t.aU⟩
theorem aL.hR (d:aL T g w s):aL T.plain g w s:=⟨d.aU,d.base,d.ex,d.dc,d.tab,d.len,d.cO,d.fg,d.eT⟩
theorem aL.ed (d:aL T.plain g w s):aL T g w s:=⟨d.aU,d.base,d.ex,d.dc,d.tab,d.len,d.cO,d.fg,d.eT⟩
theorem aK.ed {α:Type} {t:Sem α} {P:G→aw→α→Prop} (h:aK T.plain A t g s P):aK T A t g s P:=
 fun E Q q=>h E Q fun g' s' a x y=>q g' s' a x.ed y
theorem aK.hR {α:Type} {t:Sem α} {P:G→aw→α→Prop} (h:aK T A t g s P):aK T.plain A t g s P:=
 fun E Q q=>h E Q fun g' s' a x y=>q g' s' a x.hR y
end
noncomputable def j0 (B:au→Prop) (h:aR) (q:Str) (v:af):Prop:= ∃c o vs t,v= .ref c∧h.get? c=some o∧o.data= .fields vs∧vs[1]?=some (.str q t)∧ ¬B c
theorem j0.bF {B B':au→Prop} {h h':aR} {q:Str} {v:af} (x:j0 B h q v) (k:cH B h B' h'):j0 B' h' q v:=
 x.imp fun c x=>x.imp fun o x=>x.imp fun vs x=>x.imp fun t r=>⟨r.1,(k _ _ r.2.1 r.2.2.2.2).1,r.2.2.1,r.2.2.2.1,(k _ _ r.2.1 r.2.2.2.2).2⟩
theorem j0.aaS {B:au→Prop} {h:aR} {q:Str} {v:af} (x:j0 B h q v):h.CodeRec v q:=x.imp fun c x=>x.imp fun o x=>x.imp fun vs x=>x.imp fun t r=>⟨r.1,r.2.1,r.2.2.1,r.2.2.2.1⟩
structure qU where
 bt:Tok
 bB:Tok
 c4:Tok
 d6:Tok
 t:Tok
 hv:Tok
 t1:Tok
 t2:Tok
 src:au
 e9:au
 dj:au
 ct:au
 b7:au
 m:Str→Option af
 fd:dW
 k:Nat
 text:Str
structure jA (P:f6) (C:au) (bW:aR) (B:au→Prop) (h:aR) (a:c3) (x:cf) (d:qU):Prop where
 inst:h.get? a.x=some (instObj C a.dx)
 yZ: ¬B a.x
 dict:h.get? a.dx=some (hL P d.bt d.bB d.c4 d.d6 (.int x.line d.t) (.ref d.src) (.str (ab "\n\t\r ") d.hv) (.ref a.cu))
 src:sJ h d.src d.e9 d.m
 yY: ¬B d.src
 yX: ¬B d.e9
 dj:d.m (ab "read")=some (.ref d.dj)
 fn: ∃o,h.get? d.dj=some o∧o.cls= .type "function"∧o.data= .func d.fd
 yW: ¬B d.dj
 F:kG d.fd d.ct d.b7
 code:j0 B h d.fd.qualname d.fd.code
 ct:h.IsCell d.ct (some (.str d.text d.t1))
 yP: ¬B d.ct
 y2:bW.get? d.ct=none
 b7:h.IsCell d.b7 (some (.ref a.pl))
 yO: ¬B d.b7
 y1:bW.get? d.b7=none
 y7:bW.get? a.pl=none
 pl:c6 h a.pl #[.int d.k d.t2]
 cu:c6 h a.cu #[]
 push:x.push=[]
 rem:d.text.cps.toList.drop d.k=x.rem
 len:d.text.length≤1048576
 ok:d8 d.text=true
theorem jA.upd {P:f6} {C:au} {bW:aR} {B B':au→Prop} {h h':aR} {a:c3} {x y:cf} {d:qU} {bt bB c4 d6 t hv t2:Tok} {k:Nat} (l:jA P C bW B h a x d) (f:cH B h B' h')
  (hd:h'.get? a.dx=some (hL P bt bB c4 d6 (.int y.line t) (.ref d.src) (.str (ab "\n\t\r ") hv) (.ref a.cu))) (ai:c6 h' a.pl #[.int k t2]) (aa:c6 h' a.cu #[]) (ag:y.push=[]) (a7:d.text.cps.toList.drop k=y.rem):
  jA P C bW B' h' a y ⟨bt,bB,c4,d6,t,hv,d.t1,t2,d.src,d.e9,d.dj,d.ct,d.b7,d.m,d.fd,k,d.text⟩ where
 inst:=(f _ _ l.inst l.yZ).1
 yZ:=(f _ _ l.inst l.yZ).2
 dict:=hd
 src:=⟨l.src.1.imp fun o q=>q.imp fun fd r=>⟨(f _ _ r.1 l.yY).1,r.2⟩,l.src.2.imp fun o q=>q.imp fun es q=>q.imp fun df r=>⟨(f _ _ r.1 l.yX).1,r.2⟩⟩
 yY:=gT l.src.1 fun o fd r=>(f _ _ r.1 l.yY).2
 yX:=IA l.src.2 fun o es df r=>(f _ _ r.1 l.yX).2
 dj:=l.dj
 fn:=l.fn.imp fun o q=>⟨(f _ _ q.1 l.yW).1,q.2⟩
 yW:=l.fn.elim fun o q=>(f _ _ q.1 l.yW).2
 F:=l.F
 code:=l.code.bF f
 ct:=l.ct.imp fun o q=>⟨(f _ _ q.1 l.yP).1,q.2⟩
 yP:=l.ct.elim fun o q=>(f _ _ q.1 l.yP).2
 y2:=l.y2
 b7:=l.b7.imp fun o q=>⟨(f _ _ q.1 l.yO).1,q.2⟩
 yO:=l.b7.elim fun o q=>(f _ _ q.1 l.yO).2
 y1:=l.y1
 y7:=l.y7
 pl:=ai
 cu:=aa
 push:=ag
 rem:=a7
 len:=l.len
 ok:=l.ok
theorem jA.ne {P:f6} {C:au} {bW:aR} {B:au→Prop} {h:aR} {a:c3} {x:cf} {d:qU} (l:jA P C bW B h a x d):a.dx≠a.pl∧a.dx≠a.cu∧a.cu≠a.pl:=
 ⟨fun z=>(oP (z▸l.dict) l.pl).elim fun n (e:Data.dict _ _=_)=>aeX e,fun z=>(oP (z▸l.dict) l.cu).elim fun n (e:Data.dict _ _=_)=>aeX e,fun z=>l.pl.elim fun o q=>(oP q.1 l.pl).elim fun n e=>(oP (z▸q.1) l.cu).elim fun qg bP=>nomatch e.symm.trans bP⟩
theorem jA.Mj {P:f6} {C:au} {bW:aR} {B:au→Prop} {h:aR} {a:c3} {x:cf} {d:qU} (l:jA P C bW B h a x d): ∀c∈x.rem,c<0x110000:=fun c ah=>by
 have:=l.ok
 unfold d8 at this
 rw[Gz] at this
 rw[←l.rem] at ah
 simpa using this c (by simpa using Oy ah)
noncomputable def wJ (P:f6) (C:au) (bW:aR) (B:au→Prop) (h:aR) (a:c3) (x:cf):Prop:= ∃d,jA P C bW B h a x d
theorem Yk {P:f6} {C:au} {bW:aR} {B B':au→Prop} {h h':aR} {a:c3} {x:cf} (l:wJ P C bW B h a x) (k:cH B h B' h') (dI: ∀b o,(b=a.dx∨b=a.pl∨b=a.cu)→h.get? b=some o→h'.get? b=some o):wJ P C bW B' h' a x:=
 l.imp fun d l=>l.upd k (dI _ _ (.inl rfl) l.dict) (l.pl.imp fun o q=>⟨dI _ _ (.inr (.inl rfl)) q.1,q.2⟩) (l.cu.imp fun o q=>⟨dI _ _ (.inr (.inr rfl)) q.1,q.2⟩) l.push l.rem
section
variable {T:bE} {A:bO} {g g':G} {w:W} {s s':aw} {cx:a'} {env:Env} {σ:ar} {a:c3} {x:cf} {i:Nat}
theorem KQ (d:aL T g w s) (aJ:g.aA[i]?=some a) (k: ∀b o,b≠a.dx→b≠a.pl→b≠a.cu→s.heap.get? b=some o→s'.heap.get? b=some o) (ex: ∀b o,s.heap.get? b=some o→ ∃cE,s'.heap.get? b=some cE)
  (new:T.qT g.B s'.heap a x) (gens:s'.gens=s.gens) (os:s'.os=s.os) (aU:s.toks≤s'.toks):bK T g s g s'∧aL T g (w.set i x) s':=by
 have hm:a∈g.aA:=iK aJ
 have jC: ∀b,(b=a.dx∨b=a.pl∨b=a.cu)→ek T.dO g.aA b:=fun b z=> .inr ⟨a,hm,z⟩
 have bF:cH g.B s.heap g.B s'.heap:=fun b o e n=>⟨k b o (fun z=>n (d.dc b (jC b (.inl z)))) (fun z=>n (d.dc b (jC b (.inr (.inl z))))) (fun z=>n (d.dc b (jC b (.inr (.inr z))))) e,n⟩
 have ob:=d.eT a hm
 have DR:i<w.length:=by rw[←d.len];exact (hW.mp aJ).1
 refine ⟨⟨fun b o e n=>k b o (fun z=>n (jC b (.inl z))) (fun z=>n (jC b (.inr (.inl z)))) (fun z=>n (jC b (.inr (.inr z)))) e,ex,fun _ z=>z,fun _ z=> .inl z,⟨[],(fF _).symm⟩,fun _ z=> .inl z,gens,os,aU⟩,?_⟩
 exact {
  aU:=e3 _
  base:=fun b o e=>⟨(bF b o (d.base b o e).1 (d.base b o e).2).1,(d.base b o e).2⟩
  ex:=fun b z=>(d.ex b z).elim (ex b)
  dc:=d.dc
  tab:=T.lQ d.tab bF fun b o z e=>k b o (fun q=>ob.1 (q▸z)) (fun q=>ob.2.1 (q▸z)) (fun q=>ob.2.2 (q▸z)) e
  len:=by rw[List.length_set];exact d.len
  cO:=fun j gr gN aF aE=>by
   rw[xH] at aE
   by_cases ry:i=j
   ·rw[if_pos ry,if_pos DR] at aE
    rw[←ry,aJ] at aF
    rw[←inj aF,←inj aE]
    exact new
   ·rw[if_neg ry] at aE
    have ap: ∀b,(b=a.dx∨b=a.pl∨b=a.cu)→ ¬(b=gr.dx∨b=gr.pl∨b=gr.cu):=fun b q z=>
     have n:=d.fg i j a gr ry aJ aF b q
     z.elim n.1 fun z=>z.elim n.2.1 n.2.2
    exact T.kl (d.cO j gr gN aF aE) bF fun b o z e=>k b o (fun q=>ap b (.inl q) z) (fun q=>ap b (.inr (.inl q)) z) (fun q=>ap b (.inr (.inr q)) z) e
  fg:=d.fg
  eT:=d.eT}
end
structure dQ where
 C:au
 fI:au
 pQ:au
 nj:au
 rk:au
 q':au
 tab:au
 k1:Pos
 k0:Pos
 Ff:Str
 Fe:Str
noncomputable def dQ.at_ (L:dQ) (b:Bool):Pos:=if b then L.k1 else L.k0
noncomputable def dQ.qual (L:dQ) (b:Bool):Str:=if b then L.Ff else L.Fe
noncomputable def dQ.ent (L:dQ) (e:Bool×af):List af:=[rawInt (L.at_ e.1).line,rawInt (L.at_ e.1).col,e.2]
noncomputable def Bb (L:dQ) (B:au→Prop) (h:aR):Prop:= ∃l:List (Bool×af),h.get? L.tab=some (tabObj (l.flatMap L.ent).toArray)∧ ∀e∈l,j0 B h (L.qual e.1) e.2
theorem acE {L:dQ} {B B':au→Prop} {h h':aR} (x:Bb L B h) (k:cH B h B' h') (kt: ∀b o,some L.tab=some b→h.get? b=some o→h'.get? b=some o):Bb L B' h':=
 x.imp fun l q=>⟨kt _ _ rfl q.1,fun e he=>(q.2 e he).bF k⟩
structure dX (T:bE) (L:dQ):Prop where
 vR:findIn T.K (.ref L.C) "__getattribute__"=some (some (.builtin "object.__getattribute__"))
 zp:findIn T.K (.ref L.C) "__getattr__"=some none
 D0:findIn T.K (.ref L.C) "__setattr__"=some (some (.builtin "object.__setattr__"))
 ag:plainOver T.K L.C=true
 cL:(clsIn T.K L.C).any (·.hasDict)=true
 mi:findIn T.K (.ref L.C) (ab "_read_char")=some (some (.ref L.fI))
 cB:findIn T.K (.ref L.C) (ab "get_token")=some (some (.ref L.pQ))
 FE:typeIn T.K (.ref L.fI)=some (.type "function")
 M':typeIn T.K (.ref L.pQ)=some (.type "function")
 ov:specialIn T.K (.ref L.fI) "__get__"=some (some (.builtin "function.__get__"))
 qc:takesIn T.K (.ref L.fI)=some false
 aB:T.c7 (ab "iter")=none
 hI:T.c7 (ab "_netrclex")=some (.ref L.C)
 tl:T.c7 (ab "_law_stream")=some (.ref L.rk)
 gJ:makesIn T.K L.C=true
 JU:keepIn T.K (.ref L.C)=true
 fj:findIn T.K (.ref L.C) "__init__"=some (some (.ref L.nj))
 M9:typeIn T.K (.ref L.nj)=some (.type "function")
 dH:findIn T.K (.ref L.C) (ab "lineno")=some none
 i1:findIn T.K (.ref L.C) (ab "instream")=some none
 tU:findIn T.K (.ref L.C) (ab "whitespace")=some none
 qh:findIn T.K (.ref L.C) (ab "pushback")=some none
 s1:takerIn T.K L.C (ab "lineno")=some none
 s2:takerIn T.K L.C (ab "instream")=some none
 s3:takerIn T.K L.C (ab "whitespace")=some none
 s4:takerIn T.K L.C (ab "pushback")=some none
 tab:T.qY=Bb L
 qz:T.dO=some L.tab
 DH:CodeHd T.bW L.q' L.tab
 JD:T.bW.BuiltinsAt T.c7 L.tab
 eJ:((L.k1.line:Int)==(L.k0.line:Int)&&(L.k1.col:Int)==(L.k0.col:Int))=false
 cO:T.qT=wJ T.w.params L.C T.bW
section
variable {T:bE} {L:dQ} {A:bO} {g g':G} {w:W} {s s':aw} {cx:a'} {env:Env} {σ:ar} {a:c3} {x:cf} {i:Nat}
theorem aL.lF (d:aL T g w s):T.K.In s.heap:=T.fN.keeps fun b o e=>(d.base b o e).1
theorem dX.at_ (aY:dX T L) (d:aL T g w s) (aJ:g.aA[i]?=some a) (ae:w[i]?=some x): ∃ld,jA T.w.params L.C T.bW g.B s.heap a x ld:=by
 have:=d.cO i a x aJ ae
 rw[aY.cO] at this;exact this
theorem jA.instAt {P:f6} {C:au} {bW:aR} {B:au→Prop} {h:aR} {d:qU} (l:jA P C bW B h a x d):InstAt h a.x (instObj C a.dx) C (some (hL P d.bt d.bB d.c4 d.d6 (.int x.line d.t) (.ref d.src) (.str (ab "\n\t\r ") d.hv) (.ref a.cu))):=
 ⟨l.inst,rfl,rfl,l.dict⟩
theorem dX.find (aY:dX T L) {name:Str} {od:Obj} {v:af} (aT:findIn T.K (.ref L.C) name=some none) (ai:lookIn name od=some (some v)):findObj T.K L.C (some od) name=some (.value v):=by
 obtain ⟨cd,ah,hd⟩:=any_some aY.cL
 exact TH ah hd aT ai
theorem Eu {E:af→aw→Prop} {Q:af→aw→Prop} {name:Str} {v:af} {od:Obj} {expr:Bool} (aY:dX T L) (d:aL T g w s) (az:InstAt s.heap a.x (instObj L.C a.dx) L.C (some od)) (aT:findIn T.K (.ref L.C) name=some none)
  (ai:lookIn name od=some (some v)) (aQ:handedIn v=true) (h:Q v {s with toks:=s.toks+1}):bc (bo T.prog T.w) A (getAttr (.ref a.x) name expr) Q E s:=
 get_value d.lF az aY.vR (aY.find aT ai) aQ h
theorem Et {E:af→aw→Prop} {Q:af→aw→Prop} {name:Str} {v:af} {od:Obj} {o:Expr} {ap:Pos} (aY:dX T L) (aa:baseOk o=true) (aT:findIn T.K (.ref L.C) name=some none) (ai:lookIn name od=some (some v)) (aQ:handedIn v=true)
  (h:bc (bo T.prog T.w) A (eval o env) (fun kY hQ=> ∃g w,aL T g w hQ∧kY= .ref a.x∧InstAt hQ.heap a.x (instObj L.C a.dx) L.C (some od)∧Q v {hQ with toks:=hQ.toks+1}) E s):
  bc (bo T.prog T.w) A (eval (.Attribute o name ap) env) Q E s:=by
 rw[Oz,q7 aa]
 refine aM (pd h (fun kY hQ kj=> ?_) fun _ _ e=>e)
 obtain ⟨g,w,d,rfl,az,q⟩:=kj
 refine aM (fL (aM (g8 ?_)))
 exact Eu aY d az aT ai aQ (aM (OA (b6 q)))
theorem CH {E:af→aw→Prop} {Q:af→aw→Prop} {o:Expr} {name:Str} {ap pos:Pos} {as:List Expr} (aa:baseOk o=true) (ai:(ap.endLine==pos.line)=true) (aT:as.length<20) (ag:(backTo pos (starEach as env)).any (·.1)=false)
  (h:bc (bo T.prog T.w) A (eval o env) (fun kY hQ=> ∀pl,bc (bo T.prog T.w) A (getMethod kY name pl) (fun r br=>bc (bo T.prog T.w) A (callWith pos r.1 r.2 (backTo pos (starEach as env)) []) Q E br) E hQ) E s):
  bc (bo T.prog T.w) A (eval (.Call (.Attribute o name ap) as [] pos) env) Q E s:=by
 rw[arm_eval_Call,q7 aa]
 refine aM (pd h (fun kY hQ kj=> ?_) fun _ _ e=>e)
 refine aM (fL ?_)
 have Vc:methodCallForm (as.length+([]:List sh).length) (backTo pos (starEach as env)) (backToKw pos (keywordEach [] env))=true:=yS aT ag
 have VL:methodCallPos true o env ap pos=pure pos:=by unfold methodCallPos;exact if_pos ai
 unfold methodCall
 rw[Vc]
 refine aM (g8 ?_)
 exact pd (kj _) (fun r br hK=>aM (uI VL hK)) fun _ _ e=>e
end
theorem Ij (a n:Nat):max (0:Int) (min (if (a:Int)<0 then (a:Int)+n else a) n)=((min a n:Nat):Int):=by
 rw[if_neg (xZ.mpr (l1 a))]
 exact (aeY (Int.le_min.mpr ⟨l1 a,l1 n⟩)).trans (Lean.Omega.Int.ofNat_min a n).symm
theorem aaD (p q:Nat):sliceRange p q 1=(bI (q-p)).map (p+·):=by
 have ah:(if (p:Int)<q then ((q:Int)-p+1-1)/1 else 0).toNat=q-p:=by
  rw[Int.ediv_one]
  by_cases h:(p:Int)<q
  ·rw[if_pos h,aeZ];exact xB q p
  ·rw[if_neg h];exact (ae0 (nV.mp (xZ.mp h))).symm
 exact (congrArg (fun k=>(bI k).map fun k:Nat=>((p:Int)+1*k).toNat) ah).trans (BG fun k _=>by rw[Int.one_mul];rfl)
open PySem.Builtin.Str in
theorem Ww (a b n:Nat):strSliceIndices (some (a:Int)) (some (b:Int)) 1 n=(bI (min b n-min a n)).map (min a n+·):=
 (congr (congrArg (fun p q=>sliceRange p q 1) (Ij a n)) (Ij b n)).trans (aaD _ _)
theorem RE (l:List Nat) (a b:Nat):(l.drop (min a l.length)).take (min b l.length-min a l.length)=(l.drop a).take (b-a):=by
 by_cases h:a≤l.length
 ·rw[mX h,List.take_eq_take_iff,jV,←Nat.sub_min_sub_right,Nat.min_assoc,Nat.min_self]
 ·rw[xI (show l.length≤a by exact fK (t5 h)),ae1,GB (by exact fK (t5 h)),G4,G4]
theorem yC (x:Str) (a b:Nat):(gS x (some (a:Int)) (some (b:Int))).cps.toList=(x.cps.toList.drop a).take (b-a):=by
 rw[←RE]
 show (if (1==(1:Int)&&_==_)=true then x else (⟨(List.filterMap _ _).toArray⟩:Str)).cps.toList=_
 rw[Ww,bV,fE]
 change _=By (min b x.length-min a x.length) (xC (min a x.length) _)
 have ai:x.length=x.cps.toList.length:=rfl
 have aa:min b x.length≤x.length:=xJ _ _
 generalize min a x.length=p at*
 generalize min b x.length=q at*
 have key:p≤q→((bI (q-p)).map (p+·)).filterMap (x.cps.toList[·]?)=(x.cps.toList.drop p).take (q-p):=fun h=>PySem.StrLaws.picks _ _ _ (by exact aH (aI (aI (b0 ai) aa) (eY (show p≤q from aH h))))
 split
 ·rename_i h
  have h:q-p=x.length:=eq_of_beq h
  rw[o' (by rw[jV,h];exact hC _ _)]
  by_cases h0:x.length=0
  ·rw[OB.mp (ai.symm.trans h0),G3]
  ·have iX:p≤q:=fK (Nat.lt_of_sub_ne_zero (h▸h0))
   rw[show p=0 from su.mp (aH (aI (aI (eY iX) aa) (eq1 h))),Gf]
 ·by_cases h:p≤q
  ·simpa using key h
  ·rw[ae0 (qD h)]
   rfl
noncomputable def cf.take (x:cf):cf:={x with rem:=x.rem.tail}
noncomputable def dD (c:Option Nat):Str:=⟨c.toList.toArray⟩
section
variable {T:bE} {L:dQ} {A:bO} {g g':G} {w:W} {s s':aw} {cx:a'} {env:Env} {σ:ar} {a:c3} {x:cf} {i:Nat}
theorem Is.wY {B:au→Prop} {aA:List c3} {h:aR} {v:af} (k:Is B aA h (.obj i) v): ∃a,aA[i]?=some a∧v= .ref a.x:=by
 cases k with
 |obj e=>exact ⟨_,e,rfl⟩
theorem ab8 {ld:qU} {t3:Tok} (aY:dX T L) (d:aL T g w s) (aJ:g.aA[i]?=some a) (ae:w[i]?=some x) (l:jA T.w.params L.C T.bW g.B s.heap a x ld) (bZ:Room 30 A):
  aK T A (call (.ref ld.dj) [.int 1 t3] []) g s (Res T (w.set i x.take) (.str (dD x.rem.head?))):=by
 intro E Q q
 refine G5 (d9 l.fn fun o aV _ hk=>aaM aV hk l.F l.code.aaS d bZ l.ct l.b7 l.pl l.y2 l.y1 l.y7 l.len fun s' gD jj ex kW gens os aU=>kW.elim fun ee kW=> ?_)
 have bF:cH g.B s.heap g.B s'.heap:=fun b o e n=>⟨jj b o (fun z=>n (z▸d.dc _ (.inr ⟨a,iK aJ,.inr (.inl rfl)⟩))) e,n⟩
 have new:=l.upd (y:=x.take) (k:=ld.k+1) bF (jj _ _ l.ne.1 l.dict) (by rw[G0];exact kW) (l.cu.imp fun o q=>⟨jj _ _ l.ne.2.2 q.1,q.2⟩) l.push (by
  show ld.text.cps.toList.drop (ld.k+1)=x.rem.tail
  rw[←l.rem,List.tail_drop])
 obtain ⟨st,CV⟩:=KQ (s':=s') (x:=x.take) d aJ (fun b o _ U _ e=>jj b o U e) ex (by rw[aY.cO];exact ⟨_,new⟩) gens os aU
 have aC:gS ld.text (some ((ld.k:Int)+1-1)) (some ((ld.k:Int)+1))=dD x.rem.head?:=by
  have h:=yC ld.text ld.k (ld.k+1)
  rw[show ((ld.k:Int)+1-1)=(ld.k:Int) by exact aeZ _ _,show ((ld.k:Int)+1)=((ld.k+1:Nat):Int) by exact Int.ofNat_add_one_out _]
  rw[show ld.k+1-ld.k=1 by exact ae2 _ _,l.rem] at h
  have aE:x.rem.take 1=x.rem.head?.toList:=by cases x.rem<;>rfl
  rw[aE] at h
  unfold dD
  generalize gS ld.text _ _=z at h⊢
  obtain ⟨z⟩:=z
  dsimp only at h
  rw[←h]
 rw[aC]
 exact q g s' _ st ⟨CV,.str _ _⟩
theorem aaQ {σ:ar} {p1 p2 p3 w4 pos:Pos} (aY:dX T L) (C:cD T.plain cx env σ A g w s) (aC:held cx.sc (ab "self")=true) (aQ:σ.get (ab "self")= .val (.obj i)) (ae:w[i]?=some x) (ai:(p3.endLine==pos.line)=true) (hd:1≤cx.d):
  aK T.plain A (eval (.Call (.Attribute (.Attribute (.Name (ab "self") p1) (ab "instream") p2) (ab "read") p3) [.Constant (.int 1) 0 w4] [] pos) env) g s (Res T.plain (w.set i x.take) (.str (dD x.rem.head?))):=by
 intro E Q q
 obtain ⟨k,aj,bM⟩:=iV aC
 obtain ⟨u,dw,sa⟩:=C.fr.nm _ k aj bM
 rw[aQ] at sa
 obtain ⟨u,rfl,eW⟩:=sa
 obtain ⟨a,aJ,rfl⟩:=eW.wY
 obtain ⟨ld,l⟩:=aY.at_ C.wd.ed aJ ae
 refine CH (T:=T) rfl ai (show 1<20 from by decide) (by rfl) ?_
 refine Et (T:=T) (a:=a) (v:= .ref ld.src) (od:=hL T.w.params ld.bt ld.bB ld.c4 ld.d6 (.int x.line ld.t) (.ref ld.src) (.str (ab "\n\t\r ") ld.hv) (.ref a.cu)) aY rfl aY.i1 Ye rfl ?_
 refine nameP (T:=T.plain) C.fr aj dw ⟨g,w,C.wd.ed,rfl,l.instAt,fun pl=> ?_⟩
 refine TV l.src l.dj rfl ?_
 obtain ⟨s1,kQ⟩: ∃s1:aw,s1={s with toks:=s.toks+1+1+1}:=⟨_,rfl⟩
 have t1:bK T.plain g s g s1:=kQ▸ .grow (h':=s.heap) (t:=s.toks+1+1+1) (dr:=s.drawn) (fun b o e=>e) (by simp+arith only)
 have bb:aL T.plain g w s1:=kQ▸C.wd.grow (fun b o e=>e) (by show s.toks≤s.toks+1+1+1;simp+arith only)
 have cR:jA T.w.params L.C T.bW g.B s1.heap a x ld:=by rw[kQ];exact l
 have sH: ∀{h:aR},(∃o,h.get? ld.dj=some o∧o.cls= .type "function"∧o.data= .func ld.fd)→FnAt ld.dj h:=fun {h} z=>by
  obtain ⟨o,aV,ah,hd⟩:=z
  obtain ⟨lI,od,w0,sl⟩:=o
  dsimp only at ah hd
  subst ah hd
  exact ⟨_,_,_,_,aV⟩
 refine callWith_F (q:=ld.dj) (sH l.fn) (BH (F' (BI ⟨sH l.fn,?_⟩)))
 have:=(ab8 aY bb.ed aJ ae cR (C.bZ.less (show 30≤20*cx.d+20 by exact aH (lm 20 hd))) (t3:=s.toks+1+1)).hR E Q fun g' s' v st r=>q g' s' v (t1.trans st) ⟨r.1.hR,r.2⟩
 rw[kQ] at this
 exact this
end
section
variable {T:bE} {K:au→Prop} {L:dQ} {A:bO} {g g' g1:G} {w w1:W} {s s' s1:aw} {cx:a'} {env:Env} {σ σ1:ar} {a:c3} {x:cf} {i:Nat} {st:bY} {rest:List bY} {r:ej×ar×W}
theorem Zc {nm:Str} {k:fB} {v:I} (aj:cx.sc.names.lookup nm=some k) (bM:k≠ .globalImplicit) (aQ:σ.get nm= .val v):wL cx σ nm=some v:=eB aj ((if_neg fun z=>bM (eq_of_beq z)).trans (congrArg valOf aQ))
theorem Zb {nm:Str} {k:fB} {v:I} (aj:cx.sc.names.lookup nm=some k) (bM:k≠ .globalImplicit) (aQ:σ.get nm= .val v):rU cx σ nm=some v:=eB aj ((if_neg fun z=>bM (eq_of_beq z)).trans (congrArg MP aQ))
theorem vA {nm:Str} {k:fB} {v:I} {n:Nat} {p:Pos} (aj:cx.sc.names.lookup nm=some k) (bM:k≠ .globalImplicit) (aQ:σ.get nm= .val v):ev (n+1) cx (.Name nm p) σ w=some (v,w):=eB (Zc aj bM aQ) rfl
theorem aal {nm:Str} {k:fB} {v:I} {n:Nat} {p:Pos} (aj:cx.sc.names.lookup nm=some k) (bM:k≠ .globalImplicit) (aQ:σ.get nm= .val v):c8 (n+1) cx (.Name nm p) σ w=some (v,w):=eB (Zb aj bM aQ) rfl
theorem b'.seq (J:b' T K cx env A (exec st env) g s (.next,σ1,w1)) (U: ∀g' s',bz T K cx env σ1 A g' w1 s'→b' T K cx env A (execs rest env) g' s' r):b' T K cx env A (execs (st::rest) env) g s r:=by
 intro E Q q
 refine gO (J E _ fun g2 s2 Dg t2 f2 fv=> ?_)
 cases fv with
 |next=>exact b'.pre t2 (U _ _ f2) E Q q
theorem b'.stop (J:b' T K cx env A (exec st env) g s r) (a7:r.1≠ .next):b' T K cx env A (execs (st::rest) env) g s r:=by
 intro E Q q
 refine gO (J E _ fun g2 s2 Dg t2 f2 fv=> ?_)
 obtain ⟨fl,σ,w⟩:=r
 dsimp only at*
 cases fv with
 |next=>exact absurd rfl a7
 |brk=>exact q _ _ _ t2 f2 .brk
 |cont=>exact q _ _ _ t2 f2 .cont
 |ret cw=>exact q _ _ _ t2 f2 (.ret cw)
theorem b'.nil (f:bz T K cx env σ A g w s):b' T K cx env A (execs [] env) g s (.next,σ,w):=fun E Q q=>lY (q _ _ _ .refl f .next)
theorem b'.ite {t:Expr} {a b:List bY} {pos:Pos} {c:Bool} (f:bz T K cx env σ A g w s) (h:aK T A (isTrue t env (eval t env)) g s (ik T w1 c))
  (U: ∀g' s',bz T K cx env σ A g' w1 s'→b' T K cx env A (execs (if c then a else b) env) g' s' r):b' T K cx env A (exec (.If t a b pos) env) g s r:=by
 intro E Q q
 refine BC (h E _ fun g2 s2 aZ t2 bH=> ?_)
 have f2:=f.a5 t2 bH.1
 have aa:aZ=c:=bH.2
 subst aa
 have:=b'.pre (t2.bR f.wd) (U _ _ f2) E Q q
 cases aZ<;>exact this
theorem b'.ret {e:Expr} {pos:Pos} {p:I} (f:bz T K cx env σ A g w s) (h:aK T A (eval e env) g s (Res T w1 p)):b' T K cx env A (exec (.Return (some e) pos) env) g s (.ret p,σ,w1):=
 fun E Q q=>Gq (h E _ fun g2 s2 v t2 bH=>q _ _ _ (t2.bR f.wd) (f.a5 t2 bH.1) (.ret bH.2))
theorem Qr {p1 p2 p3 pos:Pos} (aY:dX T L) (f:bz T.plain K cx env σ A g w s) (aC:held cx.sc (ab "self")=true) (aQ:σ.get (ab "self")= .val (.obj i)) (ae:w[i]?=some x):
  b' T.plain K cx env A (exec (.AugAssign (.Attribute (.Name (ab "self") p1) (ab "lineno") p2) .Add (.Constant (.int 1) 0 p3) pos) env) g s (.next,σ,w.set i {x with line:=x.line+1}):=by
 intro E Q q
 refine b5 (iV aC) fun k aj bM=>b5 (f.fr.nm _ k aj bM) fun u dw sa=>b5 (aQ▸sa:fO T.plain g s.heap (.val (.obj i)) u) fun u fH eW=>b5 eW.wY fun a aJ jE=> ?_
 rw[fH,jE] at dw
 refine (aY.at_ f.wd.ed aJ ae).elim fun ld l=> ?_
 refine wpAny_AugAssign_AttributeAny (nameP (T:=T.plain) f.fr aj dw (Eu (T:=T) aY f.wd.ed l.instAt aY.dH EA rfl (F' (wpAny_iadd_int ?_))))
 refine set_plain (K:=T.K) (od:=some (hL T.w.params ld.bt ld.bB ld.c4 ld.d6 (.int x.line ld.t) (.ref ld.src) (.str (ab "\n\t\r ") ld.hv) (.ref a.cu))) (C:=L.C) (ox:=instObj L.C a.dx) f.wd.ed.lF l.instAt aY.D0 ?_
 refine LQ (K:=T.K) (C:=L.C) (ox:=instObj L.C a.dx) (dx:=a.dx) (n:=4) f.wd.ed.lF l.instAt rfl aY.ag aY.s1 aY.cL (by rw[EA];rfl) aaz rfl (by exact ib _ _) fun h' gm zm=> ?_
 have jj: ∀b o,b≠a.dx→s.heap.get? b=some o→h'.get? b=some o:=fun b o n e=>(gm.2 b n).trans e
 have bF:cH g.B s.heap g.B h':=fun b o e n=>⟨jj b o (fun z=>n (z▸f.wd.dc _ (.inr ⟨a,iK aJ,.inl rfl⟩))) e,n⟩
 have S:=KQ (s':={s with heap:=h',toks:=s.toks+1+1+1+1+1}) (x:={x with line:=x.line+1}) f.wd.ed aJ (fun b o J _ _ e=>jj b o J e) (fun b o e=>if aa:b=a.dx then ⟨_,aa▸zm⟩ else ⟨o,jj b o aa e⟩)
  (by rw[aY.cO];exact ⟨_,l.upd bF zm (l.pl.imp fun o q=>⟨jj _ _ l.ne.1.symm q.1,q.2⟩) (l.cu.imp fun o q=>⟨jj _ _ l.ne.2.1.symm q.1,q.2⟩) l.push l.rem⟩) rfl rfl (g4 s.toks 5)
 exact q _ _ .next (S.1.hR.bR f.wd) (f.a5 S.1.hR S.2.hR) .next
end
theorem MK {z:Str} (a6:d8 z=true):shaped (.str z)=true:=by unfold shaped;simp[xK,xM,a6]
theorem AH (x y:Str) (ae:d8 x=true) (bl:d8 y=true):eX (.str x) (.str y)=some (x==y):=if_pos (g7.mpr ⟨MK ae,MK bl⟩)
theorem Bi {cx:a'} {σ:ar} {w:W} {z y:Str} {nm:Str} {k:fB} {n:Nat} {p q r:Pos} (aj:cx.sc.names.lookup nm=some k) (bM:k≠ .globalImplicit) (aQ:σ.get nm= .val (.str y)) (J:d8 y=true) (U:d8 z=true):
  fa (n+4) cx (.Compare (.Name nm p) [.Eq] [.Constant (.str z) 0 q] r) σ w=some (y==z,w):=eB (aal aj bM aQ) (eB (AH _ _ J U) rfl)
theorem A0 {c:Option Nat} (h: ∀d,c=some d→d<0x110000):d8 (dD c)=true:=by
 unfold d8 dD
 cases c with
 |none=>simp
 |some d=>simpa using h d rfl
theorem sign_eq (c:Option Nat) (d:Nat):(dD c==(⟨#[d]⟩:Str))=(c==some d):=by
 rw[hz]
 simp only[beq_iff_eq,dD,Str.mk.injEq]
 cases c<;>simp
theorem aci:ab "\n"=⟨#[10]⟩:=by decide+kernel
theorem A7:ab "\""=⟨#[34]⟩:=by decide+kernel
theorem ach:ab "\\"=⟨#[92]⟩:=by decide+kernel
theorem acj:ab "\n\t\r "=⟨#[10,9,13,32]⟩:=by decide+kernel
structure f7 (bW:aR) (f:au) (fd:dW) (ns:List Str):Prop where
 at_: ∃o,bW.get? f=some o∧o.cls= .type "function"∧o.data= .func fd
 f1:fd.scope.kind= .function
 f2:fd.scope.isGenerator=false
 dn:fd.scope.isCoroutine=false
 rl:fd.closure=[]
 nk:fd.globals=mainGlobals
 oi:fd.builtins=builtinsNs
 oj:fd.defaults= .none
 lB:bW.CodeRec fd.code fd.qualname
 aT:fd.params.args.map (·.arg)=ns
 f4:fd.params.posonlyargs=[]
 je:fd.params.vararg=none
 gv:fd.params.kwonlyargs=[]
 kM:fd.params.kwarg=none
 f8: ∀x k,fd.scope.names.lookup x=some k→(k= .local∨k= .cell∨k= .globalImplicit)∧(x==("__debug__":Str))=false∧(x==("__classdict__":Str))=false
 oh: ∀x∈ns,fd.scope.names.lookup x=some .local∨fd.scope.names.lookup x=some .cell
 og:ns.Nodup
section
variable {T:bE} {K:au→Prop} {L:dQ} {A:bO} {g g' g1:G} {w w' w1:W} {s s' s1:aw} {cx:a'} {env:Env} {σ σ1:ar} {a:c3} {x:cf} {i:Nat} {st:bY} {rest:List bY} {r:ej×ar×W}
theorem TX {f:au} {fd:dW} {ns:List Str} {body:List bY} {k:Nat} {vs:List I} {us:List af} {fl:ej} {σ':ar} {p:I} (F:f7 T.bW f fd ns) (ep:fd.body= .stmts body) (hw:aL T g w s) (bZ:Room (20*k+30) A) (aW:IsL g.B g.aA s.heap vs us) (hlen:vs.length=ns.length)
  (h: ∀env g1 s1,bz T (fun b=> ∃o,s.heap.get? b=some o) ⟨T.dx,k,fd.scope⟩ env (ns.zip (vs.map .val)) (A.deeper env) g1 w s1→env.globals=fd.globals→b' T (fun b=> ∃o,s.heap.get? b=some o) ⟨T.dx,k,fd.scope⟩ env (A.deeper env) (execs body env) g1 s1 (fl,σ',w'))
  (hf:fl= .ret p∨(fl= .next∧p= .none)):m3 T A (.call (.ref f) ⟨us,[]⟩) g s (Res T w' p):=by
 intro R q
 obtain ⟨o,aV,ah,hk⟩:=F.at_
 have base: ∀b o,T.bW.get? b=some o→s.heap.get? b=some o:=fun b o e=>(hw.base b o e).1
 refine vJ (base _ _ aV) hk F.f1 F.f2 F.dn ep F.rl F.nk F.oi F.oj (F.lB.keeps base) F.aT F.f4 F.je F.gv F.kM F.f8 F.oh F.og hw bZ aW hlen fun env g1 s1 t1 cN _ ig=> ?_
 refine h env g1 s1 cN (by rw[cN.fr.glob,F.nk]) ig _ fun g2 s2 Dg t2 f2 fv=> ?_
 rcases hf with rfl|⟨rfl,rfl⟩
 ·cases fv with
  |ret cw=>exact q g2 s2 _ (t1.xu hw t2) ⟨f2.wd,cw⟩
 ·cases fv with
  |next=>exact q g2 s2 _ (t1.xu hw t2) ⟨f2.wd,.none⟩
noncomputable abbrev QI (P:Nat→Pos):List bY:=
 [.Assign [.Name (ab "ch") (P 0)] (.Call (.Attribute (.Attribute (.Name (ab "self") (P 1)) (ab "instream") (P 2)) (ab "read") (P 3)) [.Constant (.int 1) 0 (P 4)] [] (P 5)) (P 6),
  .If (.Compare (.Name (ab "ch") (P 7)) [.Eq] [.Constant (.str (ab "\n")) 0 (P 8)] (P 9)) [.AugAssign (.Attribute (.Name (ab "self") (P 10)) (ab "lineno") (P 11)) .Add (.Constant (.int 1) 0 (P 12)) (P 13)] [] (P 14),
  .Return (some (.Name (ab "ch") (P 15))) (P 16)]
structure l2 (fd:dW):Prop where
 ep: ∃P,fd.body= .stmts (QI P)∧((P 3).endLine==(P 5).line)=true
 aC:fd.scope.names.lookup (ab "self")=some .local
 ah:fd.scope.names.lookup (ab "ch")=some .local
theorem Mh (x:cf):x.read=match x.rem.head? with
  |none=>(none,x)
  |some c=>(some c,if c==10 then {x.take with line:=x.take.line+1} else x.take):=by
 unfold cf.read cf.take
 cases h:x.rem with
 |nil=>rfl
 |cons c r=>dsimp only[List.head?,List.tail];split<;>rfl
theorem X4 {α:Type} (l:List α) (i:Nat) (a b:α):(l.set i a).set i b=l.set i b:=by simp
noncomputable def ra (i:Nat) (c:Option Nat):ar:=[(ab "self",.val (.obj i)),(ab "ch",.val (.str (dD c)))]
theorem take_nil {x:cf} (h:x.rem=[]):x.take=x:=by
 obtain ⟨r,l,p⟩:=x
 cases h
 rfl
theorem aaN (x:cf):x.read.1=x.rem.head?:=by rw[Mh];cases x.rem.head?<;>rfl
theorem aaR {w:W} {i:Nat} (x:cf):(if (x.rem.head?==some 10)=true then w.set i {x.take with line:=x.take.line+1} else w.set i x.take)=w.set i x.read.2:=by
 rw[Mh]
 cases h:x.rem.head? with
 |none=>exact congrArg (w.set i) (take_nil (List.head?_eq_none_iff.mp h))
 |some c=>
  show _=w.set i (if c==10 then _ else _)
  by_cases ah:c=10
  ·rw[ah];rfl
  ·rw[if_neg fun z=>ah (eq_of_beq z),if_neg fun z=>ah (inj (eq_of_beq z))]
theorem yw {k:Nat} {fd:dW} (aY:dX T L) (F:f7 T.bW L.fI fd [ab "self"]) (fM:l2 fd) (d:aL T g w s) (aJ:g.aA[i]?=some a) (ae:w[i]?=some x) (bZ:Room 50 A):
  m3 T.plain A (.call (.ref L.fI) ⟨[.ref a.x],[]⟩) g s (Res T.plain (w.set i x.read.2) (.str (dD x.read.1))):=b5 fM.ep fun P ep ai=>by
 have oE:held fd.scope (ab "self")=true:=by unfold held;rw[fM.aC];rfl
 have vZ:dq fd.scope (ab "ch")=true:=by unfold dq;rw[fM.ah];rfl
 have DR:i<w.length:=(hW.mp ae).1
 rw[aaN]
 refine TX (T:=T.plain) (k:=1) (vs:=[.obj i]) (fl:= .ret (.str (dD x.rem.head?))) (σ':=ra i x.rem.head?) F ep d.hR bZ (.cons (.obj aJ) .nil) rfl (fun env g1 s1 cN _=> ?_) (.inl rfl)
 have S:=nL T
 have aF:ar.set ((([ab "self"]:List Str).zip ([I.obj i].map .val))) (ab "ch") (.val (.str (dD x.rem.head?)))=ra i x.rem.head?:=by kernel_rfl
 refine b'.seq (σ1:=ra i x.rem.head?) (w1:=w.set i x.take) (fun E Q q=>yi (kr rfl) cN vZ (aaQ aY cN.eK oE (by rfl) ae ai (a3 1)) fun g' s' t f=>q g' s' .next t (aF▸f) .next) fun g2 s2 f2=> ?_
 have Vf:(ra i x.rem.head?).get (ab "self")= .val (.obj i):=by kernel_rfl
 have JO:(ra i x.rem.head?).get (ab "ch")= .val (.str (dD x.rem.head?)):=by kernel_rfl
 have ix:d8 (dD x.rem.head?)=true:=(aY.at_ d aJ ae).elim fun ld l=>A0 fun c ah=>l.Mj c (List.mem_of_head? ah)
 have V0:fa 6 ⟨T.plain.dx,1,fd.scope⟩ (.Compare (.Name (ab "ch") (P 7)) [.Eq] [.Constant (.str (ab "\n")) 0 (P 8)] (P 9)) (ra i x.rem.head?) (w.set i x.take)=some (x.rem.head?==some 10,w.set i x.take):=(Bi fM.ah (by decide) JO ix (by kernel_rfl)).trans (by rw[aci,sign_eq])
 refine b'.seq (w1:=w.set i x.read.2) (σ1:=ra i x.rem.head?) (b'.ite f2 (((S 6).1 6 (a3 _)).fa V0 f2.eK) fun g3 s3 dn=> ?_) fun g3 s3 dn=>b'.stop (b'.ret dn (((S 6).1 6 (a3 _)).ev (e:= .Name (ab "ch") (P 15)) (vA fM.ah (by decide) JO) dn.eK)) nofun
 rw[←aaR]
 cases x.rem.head?==some 10 with
 |true=>
  have:=Qr aY dn oE Vf (List.getElem?_set_self DR) (p1:=P 10) (p2:=P 11) (p3:=P 12) (pos:=P 13)
  rw[X4] at this
  exact this.seq fun c1 s4 f4=>b'.nil f4
 |false=>exact b'.nil dn
end
theorem vj:_root_.PySem.Slot "callable_iterator" "__next__" "callable_iterator.__next__":=
 .of (owner:="callable_iterator") (n:="__next__") (by rw[uK,uL];kernel_rfl) (by decide+kernel) (by decide+kernel) (by decide+kernel)
  (by first|exact .inl (by decide+kernel)|exact .inr (by decide+kernel)) (by rw[Gv];kernel_rfl)
theorem Ic:_root_.PySem.Slot "callable_iterator" "__iter__" "callable_iterator.__iter__":=
 .of (owner:="callable_iterator") (n:="__iter__") (by rw[uK,uL];kernel_rfl) (by decide+kernel) (by decide+kernel) (by decide+kernel)
  (by first|exact .inl (by decide+kernel)|exact .inr (by decide+kernel)) (by rw[Gv];kernel_rfl)
theorem Ib:entryFor table "callable_iterator.__next__"=some BF.«callable_iterator.__next__»:=entryFor_of_tree (by kernel_rfl)
theorem QV:entryFor table "callable_iterator.__iter__"=some BF.«dict_keyiterator.__iter__»:=
 entryFor_alias (id':="dict_keyiterator.__iter__") (by kernel_rfl) (by first|rfl|decide+kernel|(unfold String.splitOn;simp+decide [String.splitOnAux])) (by decide+kernel) (by kernel_rfl)
theorem Ia (a:af):argsOk "callable_iterator.__next__" ⟨[a],[]⟩:=by unfold argsOk;kernel_rfl
theorem QU (a:af):argsOk "callable_iterator.__iter__" ⟨[a],[]⟩:=by unfold argsOk;kernel_rfl
theorem ad3 {M:Model} {A:bO} {E:af→aw→Prop} {s:aw} {f:af} {pos:List af} {Q:af→aw→Prop}
  (ah:codeAny M A (.call f ⟨pos,[]⟩) (fun r s'=>match r with| .ok (.ret v)=>Q v s'| .ok _=>False| .error e=>E e s') s):
  bc M A (callBorrowed f pos) Q E s:=fun afK p Wj=>by
 have h:=ah (afK.enter (.call f ⟨pos,[]⟩) none p) p rfl (Wj.enter _ none p (by intro x;cases x))
 unfold callBorrowed
 show wpCode _ _ _ _ _
 refine wpCode_mono (fun r s' a7=> ?_) h
 rcases r with e|(v|_|_|_)<;>exact a7
noncomputable abbrev yx (dt:au) (t:Tok):Obj:={cls:= .type "callable_iterator",data:= .fields #[.ref dt,.str ⟨#[]⟩ t,.bool false]}
noncomputable abbrev CJ:Obj:={cls:= .type "callable_iterator",data:= .fields #[.none,.none,.bool true]}
section
variable {T:bE} {K:au→Prop} {L:dQ} {A:bO} {g g' g1:G} {w w' w1:W} {s s' s1:aw} {E:af→aw→Prop} {az dt f x:au} {t:Tok}
theorem QX {Q:af→aw→Prop} {o:Obj} (aV:s.heap.get? az=some o) (ah:o.cls= .type "callable_iterator") (h:Q (.ref az) s):bc (bo T.prog T.w) A (pyIter (.ref az)) Q E s:=by
 have cB:s.TypeIs (.ref az) "callable_iterator":=⟨_,aV,ah⟩
 refine wpAny_pyIter_slot cB Ic (BE Ic cB QV ?_ (QU _))
 show bc _ _ (ret (.ref az)) _ _ s
 exact b6 ⟨_,rfl,"callable_iterator",_,cB,vj.lookup,h⟩
theorem Ig {α:Type} {P:α→aw→Prop} {Q:Option af→aw→Prop} (cL:A.handled=none) (mh: ∀h',(∀b o,s.heap.get? b=some o→h'.get? b=some o)→Q none {s with heap:=h'}):
  bc (bo T.prog T.w) A.in1 (ae3 (α:=α)) P
   (fun e s'=>bc (bo T.prog T.w) A (do if←isInstance e (.type "StopIteration") then pure none else throw e) Q E s') s:=by
 show bc _ _ (newExc (.type "StopIteration") []>>=_) _ _ _
 refine aM ?_
 simp only[newExc,newTuple]
 refine aM (xA ?_ (by size_fits))
 refine aM (m:=firstArgMember _ _) (uI (a:=Value.none) (by first|rfl|(simp only[firstArgMember];rfl)) ?_)
 refine xA ?_ (by size_fits)
 simp only[raiseNew]
 refine aM (wpAny_handled ?_)
 first|rw[show A.in1.handled=none from cL]|rw[cL]
 refine aM (b6 (wpAny_throw ?_))
 refine aM (wpAny_isInstance (T:="StopIteration") (b:=true) ⟨_,eO _ rfl,rfl⟩ isSubtype_stop ?_)
 exact b6 (mh _ fun b o e=>eE _ (eE _ e))
theorem QW {Q:Option af→aw→Prop} (cL:A.handled=none) (aV:s.heap.get? az=some CJ) (mh: ∀h',(∀b o,s.heap.get? b=some o→h'.get? b=some o)→Q none {s with heap:=h'}):
  bc (bo T.prog T.w) A (pyNext (.ref az)) Q E s:=by
 have cB:s.TypeIs (.ref az) "callable_iterator":=⟨_,aV,rfl⟩
 unfold pyNext
 refine aM (Gy (OC (name:=ab "__next__") cB vj
  (BE vj cB Ib ?_ (Ia _))))
 show bc _ _ (field (.ref az) 2>>=_) _ _ s
 refine aM (xN aV rfl (x:= .bool true) rfl ?_)
 dsimp only
 rw[if_pos (show (Value.bool true==Value.bool true)=true from by decide)]
 refine aM (BA ?_)
 exact aM (Ig (T:=T) (E:=E) cL mh)
theorem Ie {Q:Bool→aw→Prop} {of:Obj} {fd:dW} (hm:s.heap.get? dt=some (methodObj (.ref f) (.ref x))) (hf:s.heap.get? f=some of) (hd:of.data= .func fd) (h:Q true s):bc (bo T.prog T.w) A (borrowsExactly (.ref dt)) Q E s:=by
 unfold borrowsExactly
 refine aM (wpAny_load hm ?_)
 dsimp only
 rw[if_pos (by decide)]
 refine aM (wpAny_load hf ?_)
 rw[hd]
 exact b6 h
set_option backward.match.sparseCases true in
theorem QY {Q:Option af→aw→Prop} {of:Obj} {fd:dW} {c:Str} (cL:A.handled=none) (d:aL T g w s) (fj:s.heap.get? az=some (yx dt t)) (tV: ¬ek T.dO g.aA az) (hm:s.heap.get? dt=some (methodObj (.ref f) (.ref x))) (nm: ¬ek T.dO g.aA dt)
  (hf:T.bW.get? f=some of) (hd:of.data= .func fd) (ah:m3 T A.in1 (.call (.ref f) ⟨[.ref x],[]⟩) g s (Res T w' (.str c)))
  (J: ∀g' s' gD,bK T g s g' s'→aL T g' w' s'→c≠⟨#[]⟩→Q (some (.str c gD)) s')
  (U: ∀g' s' h',bK T g s g' s'→aL T g' w' s'→c=⟨#[]⟩→h'.get? az=some CJ→(∀b o,b≠az→s'.heap.get? b=some o→h'.get? b=some o)→Q none {s' with heap:=h'}):
  bc (bo T.prog T.w) A (pyNext (.ref az)) Q E s:=by
 have cB:s.TypeIs (.ref az) "callable_iterator":=⟨_,fj,rfl⟩
 unfold pyNext
 refine aM (Gy (OC (name:=ab "__next__") cB vj
  (BE vj cB Ib ?_ (Ia _))))
 show bc _ _ (field (.ref az) 2>>=_) _ _ s
 refine aM (xN fj rfl (x:= .bool false) rfl ?_)
 dsimp only
 rw[if_neg (show¬((Value.bool false==Value.bool true)=true) from by decide)]
 refine aM (xN fj rfl (x:= .ref dt) rfl ?_)
 refine aM (Gy ?_)
 unfold callOutOfASlot
 refine aM (Ie hm (d.base f of hf).1 hd ?_)
 rw[if_pos rfl]
 refine ad3 (ks_codeAny_call_bound hm (ah _ fun g' s' v st r=> ?_))
 obtain ⟨d1,D5⟩:=r
 cases D5 with
 |str _ gD=>
  have tk:=st.keep az _ fj tV
  have vX:=st.keep dt _ hm nm
  dsimp only
  refine aM (xN tk rfl (x:= .bool false) rfl ?_)
  rw[if_neg (show¬((Value.bool false==Value.bool true)=true) from by decide)]
  refine aM (xN tk rfl (x:= .str ⟨#[]⟩ t) rfl ?_)
  refine aM (g8 (eqBool_str ?_))
  by_cases tn:c=⟨#[]⟩
  ·subst tn
   rw[if_neg (by decide)]
   refine aM (BA ?_)
   show bc _ _ ((do slotLetsGo "callable_iterator.__next__" (←field (.ref az) 0) (fun| .builtin "callable_iterator.__next__" x=>x.pos.head?==some (.ref az)|_=>false);setField (.ref az) 0 .none;setField (.ref az) 1 .none;setField (.ref az) 2 (.bool true):Sem Unit)>>=fun _=>ae3) _ _ _
   refine aM (aM (xN tk rfl (x:= .ref dt) rfl (aM ?_)))
   unfold slotLetsGo
   refine aM (Ie vX (d1.base f of hf).1 hd ?_)
   rw[if_pos rfl]
   refine b6 ?_
   refine aM (OD tk (by exact aez rfl) fun aJ ga abr=> ?_)
   refine aM (OD ga (by exact Nat.one_lt_succ_succ _) fun aa Ud gm=> ?_)
   refine OD Ud (by exact OE _) fun ah Ue sc=> ?_
   refine Ig (T:=T) (E:=E) cL fun h' aX=>U g' s' h' st d1 rfl (aX _ _ Ue) fun b o aa e=>aX _ _ ?_
   exact (sc.2 b aa).trans ((gm.2 b aa).trans ((abr.2 b aa).trans e))
  ·rw[if_pos (by simpa using fun z=>tn z.symm)]
   exact aM (b6 (b6 ⟨_,rfl,b6 (J g' s' gD st d1 tn)⟩))
end
theorem WS:builtinKind "iter"=none:=by decide+kernel
theorem WU:plainId "iter"=true:=by decide+kernel
theorem WQ:entryFor table "iter"=some BF.«iter»:=entryFor_of_tree (by kernel_rfl)
theorem WO (a b:af):argsOk "iter" ⟨[a,b],[]⟩:=by unfold argsOk;kernel_rfl
theorem method_call:typeLookup (.type "method") (ab "__call__")=pure (some (.builtin "method.__call__")):=by rw[uK,uL];kernel_rfl
section
variable {T:bE} {K:au→Prop} {L:dQ} {A:bO} {g g' g1:G} {w w' w1:W} {s s' s1:aw} {cx:a'} {env:Env} {σ σ1:ar} {a:c3} {x:cf} {i:Nat} {E:af→aw→Prop}
theorem bz.more {X:au→Prop} (f:bz T K cx env σ A g w s) (t:bK T g s g1 s1) (bb:aL T g1 w1 s1) (kO: ∀b,X b→s.heap.get? b=none∧ ∃o,s1.heap.get? b=some o):bz T (fun b=>K b∨X b) cx env σ A g1 w1 s1:=by
 have f2:=f.a5 t bb
 have rV: ∀b,(∃o,s.heap.get? b=some o)→ ¬X b:=fun b ⟨o,e⟩ z=>by rw[(kO b z).1] at e;cases e
 exact {
  fr:=f2.fr
  wd:=f2.wd
  bZ:=f2.bZ
  wr:=fun x ae=>by
   obtain ⟨k,aj,gI⟩:=oR ae
   rcases f2.wr x ae with ⟨bt,J⟩|⟨bt,J⟩
   ·refine .inl ⟨bt,fun z=>z.elim J (rV _ ?_)⟩
    obtain ⟨m,o,es,df,e,_⟩:=f.fr.dict
    exact ⟨o,e⟩
   ·refine .inr ⟨bt,fun c ah z=>z.elim (J c ah) ?_⟩
    obtain ⟨u,dw,_⟩:=f.fr.nm x k aj gI
    rcases dw with ⟨bB,_⟩|⟨_,d0,hj,⟨o,e,_⟩,aa⟩
    ·rw[bt] at bB;cases bB
    ·rw[ah] at hj;cases hj
     exact rV c ⟨o,e⟩
  own:=fun x l a e jO z=>by
   obtain ⟨k,aj,aT⟩:=id jO
   obtain ⟨u,dw,_⟩:=f.fr.nm x k aj aT
   have:=(dw.a5 t f.wd f.fr.loc).one z
   subst this
   obtain ⟨vs,aa,⟨o,aV,_⟩,_⟩:=kZ f.fr e jO dw
   exact fun G7=>G7.elim (f.own x l a e jO dw) (rV a ⟨o,aV⟩)
  hq:=fun b z=>z.elim (fun z=>f2.hq b z) fun z=>(kO b z).2
  sc:=f2.sc
  di:=f2.di}
theorem HJ {Q:iM→aw→Prop} {e:Expr} {y:Str} {gM pos:Pos} (aC:swapsWith e (some (.Name y gM)) pos.line env=pure false) (hm:dq cx.sc y=true)
  (h:bc (bo T.prog T.w) A (eval e env) (fun v s1=> ∃K' g1 w1 p,bz T K' cx env σ A g1 w1 s1∧Is g1.B g1.aA s1.heap p v∧ ∀s2,cV T K' g1 s1 g1 s2→bz T K' cx env (σ.set y (.val p)) A g1 w1 s2→Q .next s2) E s):
  bc (bo T.prog T.w) A (exec (.Assign [.Name y gM] e pos) env) Q E s:=by
 rw[Om _ _ _ _ _ aC]
 refine aM (fL (aM (pd h (fun v s1 J=> ?_) fun _ _ z=>z)))
 obtain ⟨K',g1,w1,p,f1,ea,q⟩:=J
 refine aM (fL (aM ?_))
 obtain ⟨k,aj,gI⟩:=oR hm
 refine r9 (K:=K') (sl:= .val p) f1.fr f1.wd aj gI (f1.wr y hm) ⟨v,rfl,ea⟩ (fun _ _ _ _ _ z=>by cases z) fun s2 t2 f2 b4 jM i3=>b6 (q _ t2 (f1.kept t2 f2 b4 fun F3 l e=> ?_))
 rw[ar.get_set] at e
 split at e
 ·cases e
 ·rename_i bl;exact ⟨e,fun u=>i3 F3 u (eg bl)⟩
theorem AX (f:c2 T.plain g cx env σ s.heap) (aC:held cx.sc (ab "self")=true) (aQ:σ.get (ab "self")= .val (.obj i)): ∃k a,cx.sc.names.lookup (ab "self")=some k∧cg T.plain g s.heap env (ab "self") (some (.ref a.x))∧g.aA[i]?=some a:=by
 obtain ⟨k,aj,bM⟩:=iV aC
 obtain ⟨u,dw,sa⟩:=f.nm _ k aj bM
 rw[aQ] at sa
 obtain ⟨u,rfl,eW⟩:=sa
 obtain ⟨a,aJ,rfl⟩:=eW.wY
 exact ⟨k,a,aj,dw,aJ⟩
theorem ad0 {p1 p2:Pos} (aY:dX T L) (C:cD T.plain cx env σ A g w s) (aC:held cx.sc (ab "self")=true) (aQ:σ.get (ab "self")= .val (.obj i)) (ae:w[i]?=some x):
  aK T.plain A (eval (.Attribute (.Name (ab "self") p1) (ab "whitespace") p2) env) g s (Res T.plain w (.str (ab "\n\t\r "))):=by
 intro E Q q
 obtain ⟨k,a,aj,dw,aJ⟩:=AX C.fr aC aQ
 obtain ⟨ld,l⟩:=aY.at_ C.wd.ed aJ ae
 refine Et (T:=T) (a:=a) (v:= .str (ab "\n\t\r ") ld.hv) (od:=hL T.w.params ld.bt ld.bB ld.c4 ld.d6 (.int x.line ld.t) (.ref ld.src) (.str (ab "\n\t\r ") ld.hv) (.ref a.cu)) aY rfl aY.tU Yg rfl ?_
 refine nameP (T:=T.plain) C.fr aj dw ⟨g,w,C.wd.ed,rfl,l.instAt,?_⟩
 have t1:bK T.plain g s g {s with toks:=s.toks+1}:= .grow (h':=s.heap) (t:=s.toks+1) (dr:=s.drawn) (fun b o e=>e) (by exact g4 _ _)
 exact q g _ _ t1 ⟨C.wd.grow (fun b o e=>e) (by show s.toks≤s.toks+1;exact g4 _ _),.str _ _⟩
theorem aeb (c:Nat):iF (.str (dD (some c))) (.str (ab "\n\t\r "))=some (isWs c):=by
 show some (!(k6 (ab "\n\t\r ") (dD (some c)) 0 (ab "\n\t\r ").length 1).isEmpty)=_
 have:dD (some c)=⟨#[c]⟩:=rfl
 rw[this,PySem.StrLaws.found_one,acj]
 unfold isWs
 congr 1
 rw[hz]
 simp[or_assoc]
theorem Nn {c:Nat} {nm:Str} {k:fB} {p1 p2 p3 r:Pos} (aY:dX T L) (C:cD T.plain cx env σ A g w s) (aC:held cx.sc (ab "self")=true) (aQ:σ.get (ab "self")= .val (.obj i)) (ae:w[i]?=some x)
  (aj:cx.sc.names.lookup nm=some k) (bM:k≠ .globalImplicit) (aT:σ.get nm= .val (.str (dD (some c)))):
  aK T.plain A (isTrue (.Compare (.Name nm p1) [.In] [.Attribute (.Name (ab "self") p2) (ab "whitespace") p3] r) env (eval (.Compare (.Name nm p1) [.In] [.Attribute (.Name (ab "self") p2) (ab "whitespace") p3] r) env)) g s (ik T.plain w (isWs c)):=by
 rw[arm_isTrue_Compare]
 have he:ev 2 cx (.Name nm p1) σ w=some (.str (dD (some c)),w):=vA aj bM aT
 refine (((nL T 2).1 2 (a3 _)).ev he C).bind fun g1 s1 v1 t1 a4=> ?_
 have Hb:=C.a5 t1 a4.1
 rw[EH _ _ _ rfl]
 show aK T.plain A (testChain r v1 [.In] [eval _ env]) g1 s1 _
 refine (aK.holding (ad0 aY Hb aC aQ ae)).bind fun g2 s2 v2 t2 bH=> .nO ?_
 refine (aK.operate (CN (op:= .In) (show fe .In (.str (dD (some c))) (.str (ab "\n\t\r "))=some (isWs c) from aeb c) (Hb.a5 t2 bH.1) (.of (a4.2.a5 t2 a4.1)) (.of bH.2))).bind fun g3 s3 agy t3 gk=> ?_
 obtain ⟨hg,rH⟩:=gk
 cases rH
 exact .holding fun E Q k=>F9 (k _ _ _ .refl ⟨hg,rfl⟩)
theorem aaH {fd:dW} {p1 p2 pos:Pos} (aY:dX T L) (F:f7 T.bW L.fI fd [ab "self"]) (fM:l2 fd) (C:cD T.plain cx env σ A g w s) (hd:2≤cx.d) (ai:(p2.endLine==pos.line)=true) (aC:held cx.sc (ab "self")=true) (aQ:σ.get (ab "self")= .val (.obj i)) (ae:w[i]?=some x):
  aK T.plain A (eval (.Call (.Attribute (.Name (ab "self") p1) (ab "_read_char") p2) [] [] pos) env) g s (Res T.plain (w.set i x.read.2) (.str (dD x.read.1))):=by
 intro E Q q
 obtain ⟨k,a,aj,dw,aJ⟩:=AX C.fr aC aQ
 obtain ⟨ld,l⟩:=aY.at_ C.wd.ed aJ ae
 refine CH (T:=T) rfl ai (show 0<20 from by decide) (by rfl) ?_
 refine nameP (T:=T.plain) C.fr aj dw fun pl=> ?_
 refine method_fn (K:=T.K) (C:=L.C) C.wd.ed.lF l.instAt aY.vR aY.zp aY.mi aY.FE abI ?_
 obtain ⟨o,aV,ah,hk⟩:=F.at_
 have sH:FnAt L.fI s.heap:=by
  obtain ⟨lI,od,w0,sl⟩:=o
  dsimp only at ah hk
  subst ah hk
  exact ⟨_,_,_,_,(C.wd.base _ _ aV).1⟩
 exact callWith_F0 sH ((yw (k:=0) aY F fM C.wd.ed aJ ae (C.bZ.less (show 50≤20*cx.d+20 by exact aH (lm 20 hd)))).vB E Q q)
end
section
variable {T:bE} {K:au→Prop} {L:dQ} {A:bO} {g g' g1:G} {w w' w1:W} {s s' s1:aw} {cx:a'} {env:Env} {σ σ1:ar} {a:c3} {x:cf} {i:Nat} {E:af→aw→Prop}
theorem YI {Q:af→aw→Prop} {p1 p2 p3 w4 pos:Pos} (aY:dX T L) (C:cD T.plain cx env σ A g w s) (aB:cx.sc.names.lookup (ab "iter")=some .globalImplicit)
  (aj: ∃k,cx.sc.names.lookup (ab "self")=some k) (dw:cg T.plain g s.heap env (ab "self") (some (.ref a.x))) (aJ:g.aA[i]?=some a) (ae:w[i]?=some x)
  (q: ∀t h',h'=(s.heap.push (methodObj (.ref L.fI) (.ref a.x))).push (yx s.heap.objs.size t)→Q (.ref (s.heap.objs.size+1)) {s with heap:=h',toks:=s.toks+2}):
  bc (bo T.prog T.w) A (eval (.Call (.Name (ab "iter") p1) [.Attribute (.Name (ab "self") p2) (ab "_read_char") p3,.Constant (.str (ab "")) 0 w4] [] pos) env) Q E s:=by
 obtain ⟨ld,l⟩:=aY.at_ C.wd.ed aJ ae
 obtain ⟨k,aj⟩:=aj
 show bc _ A (do callWith pos (←eval (.Name (ab "iter") p1) env) [] (backTo pos (starEach _ env)) (backToKw pos (keywordEach [] env))) Q E s
 refine aM (CD (T:=T.plain) C.wd C.fr aB aY.aB (by decide+kernel) (v:= .builtin "iter") (by kernel_rfl) ?_)
 refine Bz (by rfl) (Gl ?_)
 refine BH (env:=env) (e:= .Attribute (.Name (ab "self") p2) (ab "_read_char") p3) (rest:=[.Constant (.str (ab "")) 0 w4]) ?_ (by rfl)
 rw[Oz,q7 (by rfl)]
 refine aM (nameP (T:=T.plain) C.fr aj dw (aM (fL (aM (g8 ?_)))))
 refine get_bind (K:=T.K) (C:=L.C) C.wd.ed.lF l.instAt aY.vR (findObj_fn aY.cL aY.mi aY.ov aY.qc (by decide+kernel) ?_) aY.zp ?_
 ·exact by kernel_rfl
 refine G5 (fn_get (K:=T.K) (s:={s with toks:=s.toks+1}) C.wd.ed.lF aY.FE (handed_on rfl (aM (OA (b6 ?_)))))
 refine BH (env:=env) (e:= .Constant (.str (ab "")) 0 w4) (rest:=[]) (he:=by rfl) (N2 (BI ?_))
 refine call_function_entry WS WU WQ (WO _ _) ?_
 unfold BF.«iter»
 refine aM (uI (a:=[.ref s.heap.objs.size,.str (ab "") (s.toks+1)]) (by first|rfl|kernel_rfl) ?_)
 dsimp only
 refine aM (wpAny_specialOf (T:="method") ⟨_,eO _ rfl,rfl⟩ method_call ?_)
 dsimp only[Option.isNone]
 rw[if_neg (by decide)]
 refine aM (BA (aM ?_))
 show bc _ _ (newObj (.type "callable_iterator") (.fields #[.ref s.heap.objs.size,.str (ab "") (s.toks+1),.bool false])) _ _ _
 refine xA (b6 ⟨_,rfl,?_⟩) (by size_fits)
 have:=q (s.toks+1) _ rfl
 rw[pa]
 exact this
end
noncomputable abbrev da:Str:=ab "self"
noncomputable abbrev iC:Str:=ab "token"
noncomputable abbrev mD:Str:=ab "fiter"
noncomputable abbrev eM:Str:=ab "ch"
theorem acg (a:List Nat) (c:Option Nat):(⟨a.toArray⟩:Str)++dD c=⟨(a++c.toList).toArray⟩:=by
 show (⟨a.toArray++c.toList.toArray⟩:Str)=_
 simp
theorem str_len (a:List Nat):(⟨a.toArray⟩:Str).length=a.length:=by simp[Str.length]
theorem abL (c:Option Nat):(dD c).length=c.toList.length:=by cases c<;>rfl
structure n1 (sc:Scope):Prop where
 self:sc.names.lookup da=some .local
 tok:sc.names.lookup iC=some .local
 fit:sc.names.lookup mD=some .local
 ch:sc.names.lookup eM=some .local
 iter:sc.names.lookup (ab "iter")=some .globalImplicit
structure hY (i:Nat) (az:au) (σ:ar) (acc:List Nat):Prop where
 self:σ.get da= .val (.obj i)
 tok:σ.get iC= .val (.str ⟨acc.toArray⟩)
 fit:σ.get mD= .val (.raw (.ref az))
theorem hY.ME {i:Nat} {az:au} {σ:ar} {acc:List Nat} (h:hY i az σ acc) (v:Slot):hY i az (σ.set eM v) acc:=
 ⟨by rw[ar.get_set,if_neg (by decide+kernel)];exact h.self,by rw[ar.get_set,if_neg (by decide+kernel)];exact h.tok,by rw[ar.get_set,if_neg (by decide+kernel)];exact h.fit⟩
theorem hY.Fo {i:Nat} {az:au} {σ:ar} {acc:List Nat} (h:hY i az σ acc) (q1:List Nat):hY i az (σ.set iC (.val (.str ⟨q1.toArray⟩))) q1:=
 ⟨by rw[ar.get_set,if_neg (by decide+kernel)];exact h.self,by rw[ar.get_set,if_pos rfl],by rw[ar.get_set,if_neg (by decide+kernel)];exact h.fit⟩
noncomputable abbrev td (P:Nat→Pos):bY:= .If (.Compare (.Name eM (P 5)) [.Eq] [.Constant (.str (ab "\\")) 0 (P 6)] (P 7)) [.Assign [.Name eM (P 8)] (.Call (.Attribute (.Name da (P 9)) (ab "_read_char") (P 10)) [] [] (P 11)) (P 12)] [] (P 13)
noncomputable abbrev sS (P:Nat→Pos):bY:= .AugAssign (.Name iC (P 15)) .Add (.Name eM (P 16)) (P 17)
noncomputable abbrev xg (P:Nat→Pos):bY:= .Return (some (.Name iC (P 3))) (P 4)
noncomputable abbrev H3 (P:Nat→Pos):List bY:=[.If (.Compare (.Name eM (P 0)) [.Eq] [.Constant (.str (ab "\"")) 0 (P 1)] (P 2)) [xg P] [td P] (P 14),sS P]
noncomputable abbrev H0 (P:Nat→Pos):List bY:=[.If (.Compare (.Name eM (P 0)) [.In] [.Attribute (.Name da (P 1)) (ab "whitespace") (P 18)] (P 2)) [xg P] [td P] (P 14),sS P]
noncomputable def lx (c:Nat) (x:cf) (σ:ar):ar:=if c=92 then σ.set eM (.val (.str (dD x.read.1))) else σ
noncomputable def e7 (c:Nat) (x:cf):Option Nat×cf:=if c=92 then x.read else (some c,x)
section
variable {T:bE} {K:au→Prop} {L:dQ} {A:bO} {g g' g1:G} {w w' w1:W} {s s' s1:aw} {cx:a'} {env:Env} {σ σ1:ar} {a:c3} {x:cf} {i c:Nat} {E:af→aw→Prop} {az:au} {acc:List Nat} {fd:dW} {P:Nat→Pos}
theorem vy (ok:hY i az σ acc):hY i az (lx c x σ) acc:=by
 unfold lx
 split
 ·exact ok.ME _
 ·exact ok
theorem IQ (aQ:σ.get eM= .val (.str (dD (some c)))):(lx c x σ).get eM= .val (.str (dD (e7 c x).1)):=by
 unfold lx e7
 split
 ·rw[ar.get_set,if_pos rfl]
 ·exact aQ
theorem IS (aY:dX T L) (F:f7 T.bW L.fI fd [da]) (fM:l2 fd) (N:n1 cx.sc) (hd:2≤cx.d) (bS:((P 10).endLine==(P 11).line)=true) (f:bz T.plain K cx env σ A g w s) (ok:hY i az σ acc) (ah:c<0x110000) (aQ:σ.get eM= .val (.str (dD (some c)))) (ae:w[i]?=some x):
  b' T.plain K cx env A (exec (td P) env) g s (.next,lx c x σ,w.set i (e7 c x).2):=by
 have oE:held cx.sc da=true:=by unfold held;rw[N.self];rfl
 have vZ:dq cx.sc eM=true:=by unfold dq;rw[N.ch];rfl
 have ix:d8 (dD (some c))=true:=A0 fun d e=>by cases e;exact ah
 have aS:aK T.plain A (isTrue (.Compare (.Name eM (P 5)) [.Eq] [.Constant (.str (ab "\\")) 0 (P 6)] (P 7)) env (eval _ env)) g s (ik T.plain w (dD (some c)==ab "\\")):=
  ((nL T 4).1 4 (a3 _)).fa (Bi (n:=0) N.ch (by decide) aQ ix (by decide+kernel)) f.eK
 rw[ach,sign_eq] at aS
 by_cases h:c=92
 ·subst h
  have e:e7 92 x=x.read:=by unfold e7;rw[if_pos rfl]
  rw[e]
  have aE:lx 92 x σ=σ.set eM (.val (.str (dD x.read.1))):=by unfold lx;rw[if_pos rfl]
  rw[aE]
  refine b'.ite f aS fun g1 s1 f1=> ?_
  have J:((some 92:Option Nat)==some 92)=true:=by decide
  rw[J,if_pos rfl]
  refine b'.seq (σ1:=σ.set eM (.val (.str (dD x.read.1)))) (w1:=w.set i x.read.2) (fun E Q q=> ?_) fun g2 s2 f2=>b'.nil f2
  exact yi (kr rfl) f1 vZ (aaH aY F fM f1.eK hd bS oE ok.self ae) fun g' s' t f=>q g' s' .next t f .next
 ·have e:e7 c x=(some c,x):=by unfold e7;rw[if_neg h]
  rw[e]
  have hw:w.set i x=w:=by
   apply uM
   intro j
   rw[xH]
   split
   ·rename_i aP;subst aP;split
    ·exact ae.symm
    ·rename_i dd;rw[qF (by exact i2 dd)]
   ·rfl
  have aE:lx c x σ=σ:=by unfold lx;rw[if_neg h]
  rw[aE]
  refine b'.ite f aS fun g1 s1 f1=> ?_
  have J:((some c:Option Nat)==some 92)=false:=by simpa using h
  rw[J,if_neg (by decide)]
  show b' T.plain K cx env A (execs [] env) g1 s1 (.next,σ,w.set i x)
  rw[hw]
  exact b'.nil f1
theorem Hy {d:Option Nat} (N:n1 cx.sc) (f:bz T.plain K cx env σ A g w s) (ok:hY i az σ acc) (aQ:σ.get eM= .val (.str (dD d))) (a6:acc.length+d.toList.length≤1048576):
  b' T.plain K cx env A (exec (sS P) env) g s (.next,σ.set iC (.val (.str ⟨(acc++d.toList).toArray⟩)),w):=by
 have vZ:dq cx.sc iC=true:=by unfold dq;rw[N.tok];rfl
 have ru:ev 2 cx (.Name eM (P 16)) σ w=some (.str (dD d),w):=vA N.ch (by decide) aQ
 have a7:m' .Add (.str ⟨acc.toArray⟩) (.str (dD d))=some (.str ⟨(acc++d.toList).toArray⟩):=by
  show (if (⟨acc.toArray⟩:Str).length+(dD d).length≤1048576 then some (I.str ((⟨acc.toArray⟩:Str)++dD d)) else none)=_
  rw[str_len,abL,if_pos a6,acg]
 exact IW (n:=2) (nL T 2).1 vZ (by rw[ok.tok];rfl) ru a7 f
end
noncomputable def jn (stop:Nat→Bool):Nat→List Nat→cf→List Nat×cf
 |0,acc,x=>(acc,x)
 |n+1,acc,x=>match x.read with
  |(none,x)=>(acc,x)
  |(some c,x)=>if stop c then (acc,x) else jn stop n (acc++(e7 c x).1.toList) (e7 c x).2
theorem acY: ∀n acc x,xv n acc x=jn (·==34) n acc x:=by
 intro bq
 induction bq with
 |zero=>
  intro acc x
  exact rfl
 |succ n ay=>
  intro acc x
  rw[xv,jn]
  generalize x.read=y
  obtain ⟨_|c,gN⟩:=y
  ·rfl
  ·unfold e7
   dsimp only
   by_cases J:(c==34)=true
   ·rw[if_pos J,if_pos J]
   ·rw[if_neg J,if_neg J]
    by_cases U:c=92
    ·subst U;simp only[beq_self_eq_true,if_true];exact ay _ _
    ·have:(c==92)=false:=by simpa using U
     simp only[this,U,if_false,Bx];exact ay _ _
theorem Ng: ∀n acc x,uq n acc x=jn isWs n acc x:=by
 intro bq
 induction bq with
 |zero=>
  intro acc x
  exact rfl
 |succ n ay=>
  intro acc x
  rw[uq,jn]
  generalize x.read=y
  obtain ⟨_|c,gN⟩:=y
  ·rfl
  ·unfold e7
   dsimp only
   by_cases J:isWs c=true
   ·rw[if_pos J,if_pos J]
   ·rw[if_neg J,if_neg J]
    by_cases U:c=92
    ·subst U;simp only[beq_self_eq_true,if_true];exact ay _ _
    ·have:(c==92)=false:=by simpa using U
     simp only[this,U,if_false,Bx];exact ay _ _
theorem xe {x:cf} {c:Nat} {r:List Nat} (h:x.rem=c::r):x.read.1=some c∧x.read.2.rem=r:=by
 unfold cf.read;rw[h];exact ⟨rfl,rfl⟩
theorem xf {x:cf} (h:x.rem=[]):x.read=(none,x):=by unfold cf.read;rw[h]
theorem aaP (x:cf):x.read.1.toList.length+x.read.2.rem.length=x.rem.length:=by
 cases h:x.rem with
 |nil=>rw[xf h];simp[h]
 |cons c r=>obtain ⟨a,b⟩:=xe h;rw[a,b];simp;exact kz _ _
theorem C5 (c:Nat) (x:cf):(e7 c x).1.toList.length+(e7 c x).2.rem.length≤1+x.rem.length∧(e7 c x).2.rem.length≤x.rem.length:=by
 unfold e7
 split
 ·have:=aaP x;exact ⟨aH (b0 this),aH (b0 this)⟩
 ·simp
structure n0 (T:bE) (L:dQ) (fd:dW) (cx:a') (K K':au→Prop) (az dt:au) (t:Tok) (a:c3) (i:Nat) (dU:W) (bh:G) (br:aw):Prop where
 aY:dX T L
 F:f7 T.bW L.fI fd [da]
 fM:l2 fd
 N:n1 cx.sc
 hd:2≤cx.d
 aB:i<dU.length
 w3:bh.aA[i]?=some a
 fj:br.heap.get? az=some (yx dt t)
 hm:br.heap.get? dt=some (methodObj (.ref L.fI) (.ref a.x))
 l6:cy T.plain bh az
 nm: ¬ek T.plain.dO bh.aA dt
 zP:K' az
 Xi:K' dt
 tV: ¬K az
 jk: ∀b,K b→K' b
structure TI (T:bE) (cx:a') (env:Env) (A:bO) (K':au→Prop) (az:au) (i:Nat) (dU:W) (bh:G) (br:aw) (σ:ar) (acc:List Nat) (x:cf) (g:G) (s:aw):Prop where
 bR:cV T.plain K' bh br g s
 cN:bz T.plain K' cx env σ A g (dU.set i x) s
 ok:hY i az σ acc
 xp:acc.length+x.rem.length≤1048576
structure TE (T:bE) (cx:a') (env:Env) (A:bO) (K:au→Prop) (az:au) (i:Nat) (dU:W) (bh:G) (br:aw) (σ:ar) (acc:List Nat) (x:cf) (g:G) (s:aw):Prop where
 bR:cV T.plain K bh br g s
 cN:bz T.plain K cx env σ A g (dU.set i x) s
 ok:hY i az σ acc
 dead:s.heap.get? az=some CJ
section
variable {T:bE} {K K':au→Prop} {L:dQ} {A:bO} {g g' g1 bh:G} {w w' w1 dU:W} {s s' s1 br:aw} {cx:a'} {env:Env} {σ σ1:ar} {a:c3} {x:cf} {i c:Nat} {E:af→aw→Prop} {az dt:au} {acc:List Nat} {fd:dW} {P:Nat→Pos} {t:Tok}
theorem n0.cO (B:n0 T L fd cx K K' az dt t a i dU bh br) (x:cf):(dU.set i x)[i]?=some x:=by simp[B.aB]
theorem n0.ZZ (B:n0 T L fd cx K K' az dt t a i dU bh br) (h:cV T.plain K' bh br g s):g.aA[i]?=some a:=by
 obtain ⟨more,e⟩:=h.eG
 rw[e,qO (hW.mp B.w3).1];exact B.w3
theorem acN {Q:Option af→aw→Prop} (B:n0 T L fd cx K K' az dt t a i dU bh br) (dk:TI T cx env A K' az i dU bh br σ acc x g s)
  (nx:x.rem=[]→ ∀g' s',TE T cx env A K az i dU bh br σ acc x g' s'→Q none s')
  (hit: ∀c r,x.rem=c::r→c<0x110000→ ∀g' s' gD,TI T cx env A K' az i dU bh br σ acc x.read.2 g' s'→Q (some (.str (dD (some c)) gD)) s'):
  bc (bo T.prog T.w) A (pyNext (.ref az)) Q E s:=by
 obtain ⟨of,DV,af8,U7⟩:=B.F.at_
 have fj:=dk.bR.old az _ B.zP B.fj B.l6.2
 have hm:=dk.bR.old dt _ B.Xi B.hm B.nm
 have nw: ∀{b o},br.heap.get? b=some o→ ¬ek T.plain.dO bh.aA b→ ¬ek T.plain.dO g.aA b:=fun {b o} e n z=>(dk.bR.ef b z).elim n fun q=>by rw[e] at q;cases q
 have w3:=B.ZZ dk.bR
 have ae:=B.cO x
 obtain ⟨ld,l⟩:=B.aY.at_ dk.cN.wd.ed w3 ae
 have zD:(dU.set i x).set i x.read.2=dU.set i x.read.2:=by simp
 refine QY (T:=T.plain) (w':=dU.set i x.read.2) (c:=dD x.read.1) dk.cN.bZ.handled dk.cN.wd fj (nw B.fj B.l6.2) hm (nw B.hm B.nm) DV U7 ?_ ?_ ?_
 ·have:=yw (k:=0) B.aY B.F B.fM dk.cN.wd.ed w3 ae ((dk.cN.bZ.less (show 59+1≤20*cx.d+20 by have:=B.hd;exact aH (lm 20 this))).in1.less (by exact yq rfl))
  rw[zD] at this
  exact this
 ·intro g' s' gD st d1 eJ
  cases a7:x.rem with
  |nil=>rw[xf a7] at eJ;exact absurd rfl eJ
  |cons c r=>
   obtain ⟨J,U⟩:=xe a7
   rw[J]
   refine hit c r a7 (l.Mj c (by rw[a7];exact eZ)) g' s' gD ⟨dk.bR.trans (st.bR dk.cN.wd),dk.cN.a5 st d1,dk.ok,?_⟩
   have:=dk.xp
   rw[a7] at this
   rw[U];simp at this;exact i9 this
 ·intro g' s' h' st d1 he hd aj
  have a7:x.rem=[]:=by
   cases a7:x.rem with
   |nil=>rfl
   |cons c r=>rw[(xe a7).1] at he;cases he
  rw[xf a7] at d1
  have kc:=dk.cN.a5 st d1
  have HQ:cy T.plain g' az:=by
   have gs:cy T.plain g az:=⟨dk.bR.lJ az B.zP B.l6.1,nw B.fj B.l6.2⟩
   exact (gs.a5 st fj).1
  have tk:=st.keep az _ fj (nw B.fj B.l6.2)
  have aC: ∀b o,b∉[az]→s'.heap.get? b=some o→h'.get? b=some o:=fun b o aa e=>aj b o (by simpa using aa) e
  have aJ: ∀b∈[az],∃o,h'.get? b=some o:=fun b aa=>by rw[fs] at aa;subst aa;exact ⟨_,hd⟩
  refine nx a7 g' _ ⟨((dk.bR.trans (st.bR dk.cN.wd)).weak B.jk).trans (.but (wr:=[az]) (t:=s'.toks) (fun b aa=>by rw[fs] at aa;subst aa;exact HQ) (fun b aa z=>by rw[fs] at aa;subst aa;exact B.tV z) aC aJ (a3 _)),?_,dk.ok,hd⟩
  exact (kc.weak B.jk).but (wr:=[az]) (t:=s'.toks) (fun b aa=>by rw[fs] at aa;subst aa;exact ⟨HQ,_,_,tk,rfl⟩) aC aJ (a3 _)
end
section
variable {T:bE} {K K':au→Prop} {L:dQ} {A:bO} {g g' g1 bh:G} {w w' w1 dU:W} {s s' s1 br:aw} {cx:a'} {env:Env} {σ σ1:ar} {a:c3} {x:cf} {i c:Nat} {E:af→aw→Prop} {az dt:au} {acc:List Nat} {fd:dW} {P:Nat→Pos} {t:Tok} {stop:Nat→Bool}
noncomputable def BodyOk (T:bE) (cx:a') (K':au→Prop) (az:au) (i:Nat) (stop:Nat→Bool) (body:List bY):Prop:=
 ∀{env:Env} {σ:ar} {A:bO} {g:G} {w:W} {s:aw} {acc:List Nat} {x:cf} {c:Nat},bz T.plain K' cx env σ A g w s→hY i az σ acc→c<0x110000→σ.get eM= .val (.str (dD (some c)))→w[i]?=some x→acc.length+1+x.rem.length≤1048576→
  if stop c then b' T.plain K' cx env A (execs body env) g s (.ret (.str ⟨acc.toArray⟩),σ,w)
  else∃σ',hY i az σ' (acc++(e7 c x).1.toList)∧b' T.plain K' cx env A (execs body env) g s (.next,σ',w.set i (e7 c x).2)
theorem set_set (w:W) (x y:cf):(w.set i x).set i y=w.set i y:=List.set_set ..
theorem l3.EX {g:G} {h:aR} {fl:iM} (i:l3 g h .next fl): .next=fl:=match i with
 | .next=>rfl
theorem Mi {x:cf} {c:Nat} {r:List Nat} (h:x.rem=c::r):x.read=(some c,x.read.2):=by rw[←(xe h).1]
theorem TE.grow {h':aR} (gn:TE T cx env A K az i dU bh br σ acc x g s) (aX: ∀b o,s.heap.get? b=some o→h'.get? b=some o):TE T cx env A K az i dU bh br σ acc x g {s with heap:=h'}:=by
 have t1:bK T.plain g s g {s with heap:=h'}:= .grow (h':=h') (t:=s.toks) (dr:=s.drawn) aX (a3 _)
 exact ⟨gn.bR.trans (t1.bR gn.cN.wd),gn.cN.a5 t1 (gn.cN.wd.grow aX (a3 _)),gn.ok,aX _ _ gn.dead⟩
theorem aaY (N:n1 cx.sc) (f:bz T.plain K cx env σ A g w s) (ok:hY i az σ acc):b' T.plain K cx env A (exec (xg P) env) g s (.ret (.str ⟨acc.toArray⟩),σ,w):=by
 have ru:ev 2 cx (.Name iC (P 3)) σ w=some (.str ⟨acc.toArray⟩,w):=vA N.tok (by decide) ok.tok
 exact b'.ret f (((nL T 2).1 2 (a3 _)).ev ru f.eK)
theorem Na {test:Expr} {pos:Pos} {b:Bool} (aY:dX T L) (F:f7 T.bW L.fI fd [da]) (fM:l2 fd) (N:n1 cx.sc) (hd:2≤cx.d) (bS:((P 10).endLine==(P 11).line)=true) (f:bz T.plain K cx env σ A g w s) (ok:hY i az σ acc) (ah:c<0x110000) (aQ:σ.get eM= .val (.str (dD (some c)))) (ae:w[i]?=some x) (a6:acc.length+1+x.rem.length≤1048576)
  (aS:aK T.plain A (isTrue test env (eval test env)) g s (ik T.plain w b)):
  if b then b' T.plain K cx env A (execs [.If test [xg P] [td P] pos,sS P] env) g s (.ret (.str ⟨acc.toArray⟩),σ,w)
  else∃σ',hY i az σ' (acc++(e7 c x).1.toList)∧b' T.plain K cx env A (execs [.If test [xg P] [td P] pos,sS P] env) g s (.next,σ',w.set i (e7 c x).2):=by
 cases b with
 |true=>
  rw[if_pos rfl]
  refine b'.stop (b'.ite f aS fun g1 s1 f1=> ?_) (by simp)
  rw[if_pos rfl]
  exact b'.stop (aaY N f1 ok) (by simp)
 |false=>
  rw[if_neg (by decide)]
  refine ⟨(lx c x σ).set iC (.val (.str ⟨(acc++(e7 c x).1.toList).toArray⟩)),(vy ok).Fo _,?_⟩
  have hsz:=C5 c x
  refine b'.seq (σ1:=lx c x σ) (w1:=w.set i (e7 c x).2) (b'.ite f aS fun g1 s1 f1=> ?_) fun g2 s2 f2=> ?_
  ·rw[if_neg (by decide)]
   exact b'.seq (IS (P:=P) aY F fM N hd bS f1 ok ah aQ ae) fun g2 s2 f2=>b'.nil f2
  ·exact b'.seq (Hy N f2 (vy ok) (IQ aQ) (by exact aH (aI a6 hsz.1))) fun g3 s3 dn=>b'.nil dn
theorem Qo (aY:dX T L) (F:f7 T.bW L.fI fd [da]) (fM:l2 fd) (N:n1 cx.sc) (hd:2≤cx.d) (bS:((P 10).endLine==(P 11).line)=true):BodyOk T cx K az i (·==34) (H3 P):=by
 intro env σ A g w s acc x c f ok ah aQ ae a6
 refine Na aY F fM N hd bS f ok ah aQ ae a6 ?_
 have ix:d8 (dD (some c))=true:=A0 fun d e=>by cases e;exact ah
 have aS:=((nL T 4).1 4 (a3 _)).fa (Bi (n:=0) (p:=P 0) (q:=P 1) (r:=P 2) (w:=w) (z:=ab "\"") N.ch (by decide) aQ ix (by decide+kernel)) f.eK
 rw[A7,sign_eq] at aS
 rw[A7]
 exact aS
theorem Qn (aY:dX T L) (F:f7 T.bW L.fI fd [da]) (fM:l2 fd) (N:n1 cx.sc) (hd:2≤cx.d) (bS:((P 10).endLine==(P 11).line)=true):BodyOk T cx K az i isWs (H0 P):=by
 intro env σ A g w s acc x c f ok ah aQ ae a6
 refine Na aY F fM N hd bS f ok ah aQ ae a6 ?_
 exact Nn aY f.eK (by unfold held;rw[N.self];rfl) ok.self ae N.ch (by decide) aQ
theorem KW {body:List bY} {R:m2→aw→Prop} {b7:Pos} {r:List Nat×cf} {V:List Nat→cf→Prop} (B:n0 T L fd cx K K' az dt t a i dU bh br) (v0:V acc x) (dk:TI T cx env A K' az i dU bh br σ acc x g s)
  (adR: ∀{acc x},V acc x→x.rem=[]→(acc,x)=r)
  (turn: ∀{σ acc x c g s},V acc x→x.rem=c::x.read.2.rem→c<0x110000→TI T cx env A K' az i dU bh br σ acc x.read.2 g s→σ.get eM= .val (.str (dD (some c)))→acc.length+1+x.read.2.rem.length≤1048576→ ∀(E:af→aw→Prop) (Q:iM→aw→Prop),
   (∀fl σ' q1 gN g' s',(fl= .next∨fl= .cont)→V q1 gN→gN.rem.length≤x.read.2.rem.length→TI T cx env A K' az i dU bh br σ' q1 gN g' s'→Q fl s')→(∀σ' g' s',TE T cx env A K az i dU bh br σ' r.1 r.2 g' s'→Q .next s')→(∀v s',R (.ok (.ret v)) s'→Q (.ret v) s')→bc (bo T.prog T.w) A (execs body env) Q E s)
  (nx: ∀σ' g' s',TE T cx env A K az i dU bh br σ' r.1 r.2 g' s'→R (.ok .next) s'):
  codeAny (bo T.prog T.w) A (.forLoop (.Name eM b7) (.ref az) body [] env) R s:=by
 refine aeQ (fun k s'=>(∃x acc,k=x.rem.length+1∧V acc x∧ ∃σ g,TI T cx env A K' az i dU bh br σ acc x g s')∨(k=0∧ ∃σ g,TE T cx env A K az i dU bh br σ r.1 r.2 g s')) ?_ (x.rem.length+1) (.inl ⟨x,acc,rfl,v0,σ,g,dk⟩)
 refine fun k s' h=>h.elim (fun h=>e5 h fun x acc aj v h=>gT h fun σ g dk=> ?_) fun h=>gT h.2 fun σ g gn=>QW (T:=T.plain) gn.cN.bZ.handled gn.dead fun h' aX=>lY (nx _ _ _ (gn.grow aX))
 refine acN B dk (fun a7 g1 s1 gn=>lY (nx _ _ _ (by rw[←adR v a7];exact gn))) fun c q a7 ah g1 s1 gD qw=>b6 ?_
 have aa:gc cx.sc (.Name eM b7) (.str (dD (some c))) σ=some (σ.set eM (.val (.str (dD (some c))))):=if_pos (by unfold dq;rw[B.N.ch];rfl)
 refine yp (T:=T.plain) (K:=K') qw.cN.bZ.handled aa qw.cN.wr qw.cN.fr qw.cN.wd (.str _ _) fun s3 t3 tg hg c4=> ?_
 have DY:=a7.trans (congrArg _ (xe a7).2.symm)
 have aC:acc.length+1+x.read.2.rem.length≤1048576:=by
  have:=dk.xp
  rw[DY,la] at this
  exact aH this
 have ai:x.read.2.rem.length+1<k:=by rw[aj,DY,la];exact gF _
 exact turn v DY ah ⟨qw.bR.trans t3,qw.cN.kept t3 tg hg c4,qw.ok.ME _,qw.xp⟩ (by rw[ar.get_set,if_pos rfl]) aC _ _
  (fun fl σ' q1 gN g' s' hf jo le acM=>by rcases hf with rfl|rfl<;>exact ⟨_,ic (Ol le) ai,.inl ⟨gN,q1,rfl,jo,σ',g',acM⟩⟩)
  (fun σ' g' s' gn=>⟨0,ic (e3 _) ai,.inr ⟨rfl,σ',g',gn⟩⟩) fun v s' h=>h
theorem KV {body:List bY} {R:m2→aw→Prop} {b7:Pos} (B:n0 T L fd cx K K' az dt t a i dU bh br) (O2:BodyOk T cx K' az i stop body) (n:Nat) (aT:x.rem.length<n) (dk:TI T cx env A K' az i dU bh br σ acc x g s)
  (rD: ∀g' s' v σ',cV T.plain K' bh br g' s'→bz T.plain K' cx env σ' A g' (dU.set i (jn stop n acc x).2) s'→Is g'.B g'.aA s'.heap (.str ⟨(jn stop n acc x).1.toArray⟩) v→R (.ok (.ret v)) s')
  (nx: ∀σ' g' s',TE T cx env A K az i dU bh br σ' (jn stop n acc x).1 (jn stop n acc x).2 g' s'→R (.ok .next) s'):
  codeAny (bo T.prog T.w) A (.forLoop (.Name eM b7) (.ref az) body [] env) R s:=by
 generalize a7:jn stop n acc x=r at rD nx
 refine KW (r:=r) (V:=fun acc x=> ∃n,x.rem.length<n∧jn stop n acc x=r) B ⟨n,aT,a7⟩ dk (fun {acc x} v e=>b5 v fun n aT h=> ?_) (fun {σ acc x c g s} v ae ah dk aQ a6 E Q Ej rM zT=>b5 v fun n aT h=> ?_) nx
 ·obtain ⟨m,rfl⟩:=GC (ju (ic (e3 _) aT))
  rw[jn,xf e] at h
  exact h
 ·obtain ⟨m,rfl⟩:=GC (ju (ic (e3 _) aT))
  have h:(if stop c then (acc,x.read.2) else jn stop m (acc++(e7 c x.read.2).1.toList) (e7 c x.read.2).2)=r:=by rw[←h,jn,Mi ae]
  have zb:=O2 dk.cN dk.ok ah aQ (B.cO x.read.2) a6
  by_cases aC:stop c=true
  ·rw[if_pos aC] at zb h
   rw[←h] at rD
   exact zb _ _ fun c1 s4 fl ee f4 tK=>tK.Mk fun v ev cw=>ev▸zT _ _ (rD c1 s4 _ _ (dk.bR.trans ee) f4 cw)
  ·rw[if_neg aC] at zb h
   have hle:=C5 c x.read.2
   rw[ae,la] at aT
   exact b5 zb fun x2 ZT oH=>oH _ _ fun c1 s4 fl ee f4 tK=>tK.EX▸Ej _ x2 _ _ c1 s4 (.inl rfl) ⟨m,by exact aH (aI (bL aT) hle.2),h⟩ hle.2 ⟨dk.bR.trans ee,set_set _ _ _▸f4,ZT,by rw[eP];exact aH (aI a6 hle.1)⟩
end
noncomputable def FK (c:Nat) (x:cf):List Nat×cf:=if c=34 then jn (·==34) (x.rem.length+1) [] x else jn isWs ((e7 c x).2.rem.length+1) (e7 c x).1.toList (e7 c x).2
theorem acU (n:Nat) {c:Nat} {x gN:cf} (h:x.read=(some c,gN)):i6 (n+1) x=if isWs c then i6 n gN else FK c gN:=by
 rw[i6,h]
 refine ite_congr rfl (fun _=>rfl) fun _=> ?_
 unfold FK
 by_cases h:c=34
 ·rw[if_pos h,h]
  exact acY _ _ _
 ·rw[if_neg h,if_neg fun z=>h (eq_of_beq z)]
  unfold e7
  by_cases U:c=92
  ·rw[if_pos U,U]
   exact Ng _ _ _
  ·rw[if_neg U,if_neg fun z=>U (eq_of_beq z)]
   exact Ng _ _ _
noncomputable abbrev H2 (P kF kE:Nat→Pos):List bY:=
 [.If (.Compare (.Name eM (P 0)) [.In] [.Attribute (.Name da (P 1)) (ab "whitespace") (P 18)] (P 2)) [.Continue (P 3)] [] (P 4),
  .If (.Compare (.Name eM (P 19)) [.Eq] [.Constant (.str (ab "\"")) 0 (P 20)] (P 21))
   [.For (.Name eM (P 22)) (.Name mD (P 23)) (H3 kF) [] (P 24)]
   [td P,sS P,.For (.Name eM (P 25)) (.Name mD (P 26)) (H0 kE) [] (P 27)] (P 28)]
section
variable {T:bE} {K K':au→Prop} {L:dQ} {A:bO} {g g' g1 bh:G} {w w' w1 dU:W} {s s' s1 br:aw} {cx:a'} {env:Env} {σ σ1:ar} {a:c3} {x:cf} {i c:Nat} {E:af→aw→Prop} {az dt:au} {acc:List Nat} {fd:dW} {P kF kE:Nat→Pos} {t:Tok} {stop:Nat→Bool}
theorem Dl {Q:iM→aw→Prop} {p1 p2 p3:Pos} {body:List bY} {o:Obj} (N:n1 cx.sc) (f:bz T.plain K cx env σ A g w s) (ok:hY i az σ acc) (aV:s.heap.get? az=some o) (ah:o.cls= .type "callable_iterator")
  (h:codeAny (bo T.prog T.w) A (.forLoop (.Name eM p1) (.ref az) body [] env) (fun r s'=>match r with| .ok f=>Q f s'| .error e=>cameBackBy (bo T.prog T.w) A env E e s') s):
  bc (bo T.prog T.w) A (exec (.For (.Name eM p1) (.Name mD p2) body [] p3) env) Q E s:=by
 exact wpAny_For (b5 (f.fr.nm mD _ N.fit (by decide)) fun v ht iH=>b5 (ok.fit▸iH:fO T.plain g s.heap (.val (.raw (.ref az))) v) fun u fH eW=>nameP (T:=T.plain) f.fr N.fit (by rw[fH,eW.NK] at ht;exact ht) (QX (T:=T.plain) aV ah h)) (fun _=>rfl)
theorem Yh {R:m2→aw→Prop} {b7:Pos} (B:n0 T L fd cx K K' az dt t a i dU bh br) (J:((P 10).endLine==(P 11).line)=true) (U:((kF 10).endLine==(kF 11).line)=true) (av:((kE 10).endLine==(kE 11).line)=true)
  (n:Nat) (aT:x.rem.length<n) (dk:TI T cx env A K' az i dU bh br σ [] x g s)
  (rD: ∀g' s' v σ',cV T.plain K' bh br g' s'→bz T.plain K' cx env σ' A g' (dU.set i (i6 n x).2) s'→Is g'.B g'.aA s'.heap (.str ⟨(i6 n x).1.toArray⟩) v→R (.ok (.ret v)) s')
  (nx: ∀σ' g' s',TE T cx env A K az i dU bh br σ' (i6 n x).1 (i6 n x).2 g' s'→R (.ok .next) s'):
  codeAny (bo T.prog T.w) A (.forLoop (.Name eM b7) (.ref az) (H2 P kF kE) [] env) R s:=by
 generalize a7:i6 n x=r at rD nx
 refine KW (r:=r) (V:=fun acc x=>acc=[]∧ ∃n,x.rem.length<n∧i6 n x=r) B ⟨rfl,n,aT,a7⟩ dk (fun {acc x} v e=>v.1▸b5 v.2 fun n aT h=> ?_) (fun {σ acc x c g s} v ae ah dk aQ a6 E Q Ej rM zT=>b5 v.2 fun n aT h=> ?_) nx
 ·obtain ⟨m,rfl⟩:=GC (ju (ic (e3 _) aT))
  rw[i6,xf e] at h
  exact h
 ·obtain ⟨m,rfl⟩:=GC (ju (ic (e3 _) aT))
  rw[acU _ (Mi ae)] at h
  obtain ⟨rfl,_⟩:=v
  have oE:held cx.sc da=true:=by unfold held;rw[B.N.self];rfl
  have J0:=B.cO x.read.2
  refine gO (BC (Nn B.aY dk.cN.eK oE dk.ok.self J0 B.N.ch (by decide) aQ _ _ fun c1 s4 b ee hP=>hP.2▸ ?_))
  have f4:=dk.cN.a5 ee hP.1
  have o1:=dk.bR.trans (ee.bR dk.cN.wd)
  by_cases hw:isWs c=true
  ·rw[if_pos hw] at h⊢
   rw[ae,la] at aT
   exact gO ((arm_exec_Continue ..).symm▸aM (fL (b6 (Ej _ σ [] x.read.2 c1 s4 (.inr rfl) ⟨rfl,m,uN aT,h⟩ (a3 _) ⟨o1,f4,dk.ok,dk.xp⟩))))
  rw[if_neg hw] at h⊢
  refine lY ?_
  have ix:d8 (dD (some c))=true:=A0 fun d e=>inj e▸ah
  have aS:=((nL T 4).1 4 (a3 _)).fa (Bi (n:=0) (p:=P 19) (q:=P 20) (r:=P 21) (w:=dU.set i x.read.2) (z:=ab "\"") B.N.ch (by decide) aQ ix (by kernel_rfl)) f4.eK
  rw[A7,sign_eq] at aS
  rw[A7]
  refine gO (BC (aS _ _ fun jG s5 b lP oX=>oX.2▸ ?_))
  have je:=f4.a5 lP oX.1
  have Fz:=o1.trans (lP.bR f4.wd)
  clear aS ix f4
  unfold FK at h
  have fin: ∀{eR:iM→aw→Prop} {σ' g' s'},TE T cx env A K az i dU bh br σ' r.1 r.2 g' s'→bc (bo T.prog T.w) A (execs [] env) (fun f s'=>match f with| .next=>Q .next s'|_=>eR f s') E s':=fun gn=>lY (rM _ _ _ gn)
  by_cases aG:c=34
  ·rw[if_pos aG] at h
   rw[aG,if_pos (by decide)]
   refine gO (Dl B.N je dk.ok (Fz.old az _ B.zP B.fj B.l6.2) rfl ?_)
   refine KV B (Qo B.aY B.F B.fM B.N B.hd U) (x.read.2.rem.length+1) (gF _) ⟨Fz,je,dk.ok,dk.xp⟩ ?_ ?_
   ·rw[h]
    exact fun g' s' v σ' bR cN cw=>zT _ _ (rD g' s' v σ' bR cN cw)
   ·rw[h]
    exact fun σ' g' s' gn=>lY (lY (rM _ _ _ gn))
  ·rw[if_neg aG] at h
   rw[if_neg (c:=((some c:Option Nat)==some 34)=true) fun z=>aG (inj (eq_of_beq z))]
   have hle:=(C5 c x.read.2).1
   refine gO (IS (P:=P) B.aY B.F B.fM B.N B.hd J je dk.ok ah aQ J0 _ _ fun nt iG fl o3 gv Wm=>Wm.EX▸ ?_)
   refine gO (Hy (P:=P) (acc:=[]) B.N (set_set _ _ _▸gv:bz T.plain K' cx env (lx c x.read.2 σ) A nt (dU.set i (e7 c x.read.2).2) iG) (vy dk.ok) (IQ aQ) (by exact aH (aI a6 hle)) _ _ fun Dp agw fl acC kM Wn=>Wn.EX▸ ?_)
   have M1:=(Fz.trans o3).trans acC
   refine gO (Dl B.N kM ((vy (c:=c) (x:=x.read.2) dk.ok).Fo ([]++(e7 c x.read.2).1.toList)) (M1.old az _ B.zP B.fj B.l6.2) rfl ?_)
   refine KV B (Qn B.aY B.F B.fM B.N B.hd av) ((e7 c x.read.2).2.rem.length+1) (gF _) ⟨M1,kM,(vy (c:=c) (x:=x.read.2) dk.ok).Fo _,by rw[BK];exact c5 hle a6⟩ ?_ ?_
   ·rw[BK,h]
    exact fun g' s' v σ' bR cN cw=>zT _ _ (rD g' s' v σ' bR cN cw)
   ·rw[BK,h]
    exact fun σ' g' s' gn=>lY (lY (rM _ _ _ gn))
end
noncomputable abbrev acS (P kF kE R:Nat→Pos):List bY:=
 [.If (.Attribute (.Name da (R 0)) (ab "pushback") (R 1)) [.Return (some (.Call (.Attribute (.Attribute (.Name da (R 2)) (ab "pushback") (R 3)) (ab "pop") (R 4)) [.Constant (.int 0) 0 (R 5)] [] (R 6))) (R 7)] [] (R 8),
  .Assign [.Name iC (R 9)] (.Constant (.str (ab "")) 0 (R 10)) (R 11),
  .Assign [.Name mD (R 12)] (.Call (.Name (ab "iter") (R 13)) [.Attribute (.Name da (R 14)) (ab "_read_char") (R 15),.Constant (.str (ab "")) 0 (R 16)] [] (R 17)) (R 18),
  .For (.Name eM (R 19)) (.Name mD (R 20)) (H2 P kF kE) [] (R 21),
  .Return (some (.Name iC (R 22))) (R 23)]
structure yc (fd:dW):Prop where
 ep: ∃P kF kE R,fd.body= .stmts (acS P kF kE R)∧((P 10).endLine==(P 11).line)=true∧((kF 10).endLine==(kF 11).line)=true∧((kE 10).endLine==(kE 11).line)=true
 N:n1 fd.scope
section
variable {T:bE} {K K':au→Prop} {L:dQ} {A:bO} {g g' g1 bh:G} {w w' w1 dU:W} {s s' s1 br:aw} {cx:a'} {env:Env} {σ σ1:ar} {a:c3} {x:cf} {i c:Nat} {E:af→aw→Prop} {az dt:au} {acc:List Nat} {fd ly:dW} {P kF kE:Nat→Pos} {t:Tok} {stop:Nat→Bool}
set_option backward.match.sparseCases true in
theorem TS {f:au} {fd:dW} {ns:List Str} {body:List bY} {k:Nat} {vs:List I} {us:List af} {P:G→aw→af→Prop} (F:f7 T.bW f fd ns) (ep:fd.body= .stmts body) (hw:aL T g w s) (bZ:Room (20*k+30) A) (aW:IsL g.B g.aA s.heap vs us) (hlen:vs.length=ns.length)
  (h: ∀env g1 s1,bz T (fun b=> ∃o,s.heap.get? b=some o) ⟨T.dx,k,fd.scope⟩ env (ns.zip (vs.map .val)) (A.deeper env) g1 w s1→bK T g s g1 s1→(env.code=fd.code∧env.qual=fd.qualname++(".<locals>.":Str))→ ∀(E:af→aw→Prop) (Q:iM→aw→Prop),(∀g' s' fl,cV T (fun b=> ∃o,s.heap.get? b=some o) g1 s1 g' s'→P g' s' (match fl with| .ret v=>v|_=> .none)→Q fl s')→bc (bo T.prog T.w) (A.deeper env) (execs body env) Q E s1):
  m3 T A (.call (.ref f) ⟨us,[]⟩) g s P:=by
 intro R q
 obtain ⟨o,aV,ah,hk⟩:=F.at_
 have base: ∀b o,T.bW.get? b=some o→s.heap.get? b=some o:=fun b o e=>(hw.base b o e).1
 refine vJ (base _ _ aV) hk F.f1 F.f2 F.dn ep F.rl F.nk F.oi F.oj (F.lB.keeps base) F.aT F.f4 F.je F.gv F.kM F.f8 F.oh F.og hw bZ aW hlen fun env g1 s1 t1 cN ae ig=> ?_
 exact h env g1 s1 cN t1 ae ig _ fun g2 s2 v t2 b4=>q g2 s2 _ (t1.xu hw t2) b4
theorem TR {f:au} {fd:dW} {ns:List Str} {body:List bY} {k:Nat} {vs:List I} {us:List af} {p:I} (F:f7 T.bW f fd ns) (ep:fd.body= .stmts body) (hw:aL T g w s) (bZ:Room (20*k+30) A) (aW:IsL g.B g.aA s.heap vs us) (hlen:vs.length=ns.length)
  (h: ∀env g1 s1,bz T (fun b=> ∃o,s.heap.get? b=some o) ⟨T.dx,k,fd.scope⟩ env (ns.zip (vs.map .val)) (A.deeper env) g1 w s1→bK T g s g1 s1→(env.code=fd.code∧env.qual=fd.qualname++(".<locals>.":Str))→ ∀(E:af→aw→Prop) (Q:iM→aw→Prop),(∀g' s' v,cV T (fun b=> ∃o,s.heap.get? b=some o) g1 s1 g' s'→aL T g' w' s'→Is g'.B g'.aA s'.heap p v→Q (.ret v) s')→bc (bo T.prog T.w) (A.deeper env) (execs body env) Q E s1):
  m3 T A (.call (.ref f) ⟨us,[]⟩) g s (Res T w' p):=by
 intro R q
 obtain ⟨o,aV,ah,hk⟩:=F.at_
 have base: ∀b o,T.bW.get? b=some o→s.heap.get? b=some o:=fun b o e=>(hw.base b o e).1
 refine vJ (base _ _ aV) hk F.f1 F.f2 F.dn ep F.rl F.nk F.oi F.oj (F.lB.keeps base) F.aT F.f4 F.je F.gv F.kM F.f8 F.oh F.og hw bZ aW hlen fun env g1 s1 t1 cN ae ig=> ?_
 exact h env g1 s1 cN t1 ae ig _ fun g2 s2 v t2 b4 cw=>q g2 s2 _ (t1.xu hw t2) ⟨b4,cw⟩
theorem Zy {p1 p2:Pos} (aY:dX T L) (C:cD T.plain cx env σ A g w s) (aC:held cx.sc da=true) (aQ:σ.get da= .val (.obj i)) (ae:w[i]?=some x):
  aK T.plain A (isTrue (.Attribute (.Name da p1) (ab "pushback") p2) env (eval (.Attribute (.Name da p1) (ab "pushback") p2) env)) g s (ik T.plain w false):=by
 intro E Q q
 obtain ⟨k,a,aj,dw,aJ⟩:=AX C.fr aC aQ
 obtain ⟨ld,l⟩:=aY.at_ C.wd.ed aJ ae
 show bc _ A (do let v←eval (.Attribute (.Name da p1) (ab "pushback") p2) env;standAt p2;holding [v] (truthy v)) Q E s
 refine aM (Et (T:=T) (a:=a) (v:= .ref a.cu) (od:=hL T.w.params ld.bt ld.bB ld.c4 ld.d6 (.int x.line ld.t) (.ref ld.src) (.str (ab "\n\t\r ") ld.hv) (.ref a.cu)) aY rfl aY.qh Yd rfl ?_)
 refine nameP (T:=T.plain) C.fr aj dw ⟨g,w,C.wd.ed,rfl,l.instAt,?_⟩
 have t1:bK T.plain g s g {s with toks:=s.toks+1+1+1}:= .grow (h':=s.heap) (t:=s.toks+1+1+1) (dr:=s.drawn) (fun b o e=>e) (by simp+arith only)
 refine aM (fL (g8 ?_))
 refine wpAny_truthy_list (items:= #[]) l.cu.eV (by decide) ?_
 exact q g _ _ t1 ⟨C.wd.grow (fun b o e=>e) (by show s.toks≤s.toks+1+1+1;simp+arith only),rfl⟩
theorem jA.size {P:f6} {C:au} {bW:aR} {B:au→Prop} {h:aR} {d:qU} (l:jA P C bW B h a x d):x.rem.length≤1048576:=by
 rw[←l.rem,jV]
 exact c5 (hC _ _) l.len
theorem abF {α:Type} {l:List α} {i:Nat} {x:α} (h:l[i]?=some x):l.set i x=l:=(hW.mp h).elim fun aB e=>e▸List.set_getElem_self aB
theorem ac4 (aY:dX T L) (F:f7 T.bW L.fI fd [da]) (fM:l2 fd) (sI:f7 T.bW L.pQ ly [da]) (ll:yc ly) (d:aL T g w s) (aJ:g.aA[i]?=some a) (ae:w[i]?=some x) (bZ:Room 70 A):
  m3 T.plain A (.call (.ref L.pQ) ⟨[.ref a.x],[]⟩) g s (Res T.plain (w.set i x.token.2) (.str x.token.1)):=(aY.at_ d aJ ae).elim fun ld l=>ll.ep.elim fun P ep=>gT ep fun kF kE ep=>rf ep fun R ep J U av=>by
 have Kh:x.token=(⟨(i6 (x.rem.length+1) x).1.toArray⟩,(i6 (x.rem.length+1) x).2):=by
  unfold cf.token;rw[l.push]
 rw[Kh]
 have hsz:=l.size
 clear l Kh
 have oE:held ly.scope da=true:=by unfold held;rw[ll.N.self];rfl
 refine TR (T:=T.plain) (k:=2) (vs:=[.obj i]) sI ep d.hR bZ (.cons (.obj aJ) .nil) rfl fun env g1 s1 cN st _ E Q q=> ?_
 refine gO (BC (Zy aY cN.eK oE rfl ae _ _ fun g2 s2 b t2 bH=> ?_))
 rw[bH.2,if_neg hB]
 have f2:=cN.a5 t2 bH.1
 refine lY ?_
 refine gO (yi (T:=T.plain) (p:= .str (ab "")) (w1:=w) (kr rfl) f2 (by unfold dq;rw[ll.N.tok];rfl) (((nL T 1).1 1 (a3 _)).ev rfl f2.eK) fun g3 s3 t3 dn=> ?_)
 have M0:=(t2.bR cN.wd).trans t3
 have cb:ar.set (([da]:List Str).zip ([I.obj i].map .val)) iC (.val (.str (ab "")))=[(da,.val (.obj i)),(iC,.val (.str (ab "")))]:=by kernel_rfl
 replace dn:=cb▸dn
 clear f2 t2 t3 cb
 refine e5 (AX dn.fr oE rfl) fun k gr aj dw JC=> ?_
 have tC: ∀n,s3.heap.get? (s3.heap.objs.size+n)=none:=fun n=>k9 (g4 _ _)
 refine gO (HJ (T:=T.plain) (cx:=⟨T.plain.dx,2,ly.scope⟩) (σ:=[(da,.val (.obj i)),(iC,.val (.str (ab "")))]) (kr rfl) (by unfold dq;rw[ll.N.fit];rfl) ?_)
 refine YI (T:=T) aY dn.eK ll.N.iter ⟨k,aj⟩ dw JC ae fun t h' zq=> ?_
 have aX: ∀b o,s3.heap.get? b=some o→h'.get? b=some o:=fun b o e=>zq▸eE _ (eE _ e)
 have zl:h'.get? (s3.heap.objs.size+1)=some (yx s3.heap.objs.size t):=by
  rw[zq,←pa s3.heap (methodObj (.ref L.fI) (.ref gr.x))]
  exact eO _ rfl
 have zo:h'.get? s3.heap.objs.size=some (methodObj (.ref L.fI) (.ref gr.x)):=zq▸eE _ (eO _ rfl)
 clear zq
 have mN:bK T.plain g3 s3 (g3.news s3.heap h') {s3 with heap:=h',toks:=s3.toks+2}:= .news aX (g4 _ 2)
 have yG:aL T.plain (g3.news s3.heap h') w {s3 with heap:=h',toks:=s3.toks+2}:=dn.wd.news aX (g4 _ 2)
 have fn:=dn.more (X:=fun b=>b=s3.heap.objs.size+1∨b=s3.heap.objs.size) mN yG fun b aa=>aa.elim (fun e=>e▸⟨tC 1,_,zl⟩) fun e=>e▸⟨tC 0,_,zo⟩
 have l6:cy T.plain (g3.news s3.heap h') (s3.heap.objs.size+1):=G.nG dn.wd (tC 1) zl
 have bm:cy T.plain (g3.news s3.heap h') s3.heap.objs.size:=G.nG dn.wd (tC 0) zo
 refine ⟨fun b=>(∃o,s.heap.get? b=some o)∨(b=s3.heap.objs.size+1∨b=s3.heap.objs.size),_,w,.raw (.ref (s3.heap.objs.size+1)),fn,.raw _,fun s4 ee f4=> ?_⟩
 have eo:ar.set [(da,.val (.obj i)),(iC,.val (.str (ab "")))] mD (.val (.raw (.ref (s3.heap.objs.size+1))))=[(da,.val (.obj i)),(iC,.val (.str (ab ""))),(mD,.val (.raw (.ref (s3.heap.objs.size+1))))]:=by kernel_rfl
 replace f4:=eo▸f4
 have Js:hY i (s3.heap.objs.size+1) [(da,.val (.obj i)),(iC,.val (.str (ab ""))),(mD,.val (.raw (.ref (s3.heap.objs.size+1))))] []:=⟨by kernel_rfl,by kernel_rfl,by kernel_rfl⟩
 have Jx:=ee.old _ _ (.inr (.inl rfl)) zl l6.2
 have o1:cV T.plain (fun b=> ∃o,s.heap.get? b=some o) g1 s1 (g3.news s3.heap h') s4:=(M0.trans (mN.bR dn.wd)).trans (ee.weak fun b z=> .inl z)
 have B:n0 T L fd ⟨T.plain.dx,2,ly.scope⟩ (fun b=> ∃o,s.heap.get? b=some o) (fun b=>(∃o,s.heap.get? b=some o)∨(b=s3.heap.objs.size+1∨b=s3.heap.objs.size)) (s3.heap.objs.size+1) s3.heap.objs.size t gr i w (g3.news s3.heap h') s4:=
  ⟨aY,F,fM,ll.N,a3 2,(hW.mp ae).1,JC,Jx,ee.old _ _ (.inr (.inr rfl)) zo bm.2,l6,bm.2,.inr (.inl rfl),.inr (.inr rfl),fun z=>z.elim fun o e=>(st.ex _ o e).elim fun kX aF=>(M0.ex _ kX aF).elim fun t8 cb=>nn ((tC 1).symm.trans cb),fun b z=> .inl z⟩
 clear aX zl zo mN yG fn l6 bm tC dw
 refine gO (Dl ll.N f4 Js Jx rfl (Yh (T:=T) B J U av (x.rem.length+1) (gF _) ⟨.refl,(abF ae).symm▸f4,Js,by rw[Oj,kA];exact hsz⟩ (fun g' s' v σ' lP je cw=>q g' s' v (o1.trans (lP.weak fun b z=> .inl z)) je.wd cw) fun σ' g' s' gn=>gO ?_))
 have ru:ev 2 ⟨T.plain.dx,2,ly.scope⟩ (.Name iC (R 22)) σ' (w.set i (i6 (x.rem.length+1) x).2)=some (.str ⟨(i6 (x.rem.length+1) x).1.toArray⟩,w.set i (i6 (x.rem.length+1) x).2):=vA ll.N.tok (by decide) gn.ok.tok
 exact Gq (((nL T 2).1 2 (a3 _)).ev ru gn.cN.eK _ _ fun nt iG v o3 qm=>q nt iG v ((o1.trans gn.bR).trans (o3.bR gn.cN.wd)) qm.1 qm.2)
end
section
variable {T:bE} {L:dQ} {A:bO} {g:G} {w w1:W} {s:aw} {cx:a'} {env:Env} {σ:ar} {l:cf} {i:Nat} {fd ly:dW} {o:Expr} {ap pos:Pos}
theorem RB (aY:dX T L) (C:cD T cx env σ A g w s) (aa:baseOk o=true) (h:aK T A (eval o env) g s (Res T w1 (.obj i))) (ai:w1[i]?=some l):
  aK T A (eval (.Attribute o (ab "lineno") ap) env) g s (Res T w1 (.int l.line)):=by
 intro E Q q
 rw[Oz,q7 aa]
 refine aM (h E _ fun g1 s1 v t1 a4=> ?_)
 obtain ⟨bb,ea⟩:=a4
 obtain ⟨a,aJ,rfl⟩:=ea.wY
 obtain ⟨ld,li⟩:=aY.at_ bb aJ ai
 refine aM (fL (aM (g8 ?_)))
 refine Eu aY bb li.instAt aY.dH EA rfl (aM (OA (b6 ?_)))
 have t2:bK T g1 s1 g1 {s1 with toks:=s1.toks+1}:= .grow (h':=s1.heap) (t:=s1.toks+1) (dr:=s1.drawn) (fun b o e=>e) (by exact g4 _ _)
 exact q g1 _ _ (t1.trans t2) ⟨bb.grow (fun b o e=>e) (by show s1.toks≤s1.toks+1;exact g4 _ _),.int _ _⟩
theorem RD (aY:dX T L) (F:f7 T.bW L.fI fd [da]) (fM:l2 fd) (sI:f7 T.bW L.pQ ly [da]) (ll:yc ly) (C:cD T cx env σ A g w s) (hd:4≤cx.d) (aa:baseOk o=true) (ag:(ap.endLine==pos.line)=true) (h:aK T A (eval o env) g s (Res T w1 (.obj i))) (ai:w1[i]?=some l):
  aK T A (eval (.Call (.Attribute o (ab "get_token") ap) [] [] pos) env) g s (Res T (w1.set i l.token.2) (.str l.token.1)):=by
 intro E Q q
 refine CH (T:=T) aa ag (show 0<20 from by decide) (by rfl) ?_
 refine h E _ fun g1 s1 v t1 a4=> ?_
 obtain ⟨bb,ea⟩:=a4
 obtain ⟨a,aJ,rfl⟩:=ea.wY
 obtain ⟨ld,li⟩:=aY.at_ bb aJ ai
 intro pl
 refine method_fn (K:=T.K) (C:=L.C) bb.lF li.instAt aY.vR aY.zp aY.cB aY.M' abJ ?_
 obtain ⟨of,DV,ah,hk⟩:=sI.at_
 have sH:FnAt L.pQ s1.heap:=by
  obtain ⟨lI,od,w0,sl⟩:=of
  dsimp only at ah hk
  subst ah hk
  exact ⟨_,_,_,_,(bb.base _ _ DV).1⟩
 exact callWith_F0 sH ((ac4 aY F fM sI ll bb aJ ai (C.bZ.less (show 70≤20*cx.d+20 by exact aH (lm 20 hd)))).vB.ed E Q fun g2 s2 v t2 bH=>q g2 s2 v (t1.trans t2) ⟨bH.1.ed,bH.2⟩)
end
theorem vH (L:dQ): ∀l:List (Bool×af),TriplesOk (l.flatMap L.ent)
 |[]=>trivial
 |e::l=>vH L l
theorem yT (L:dQ) (eJ:((L.k1.line:Int)==(L.k0.line:Int)&&(L.k1.col:Int)==(L.k0.col:Int))=false) (b:Bool): ∀l:List (Bool×af),codeAmong (L.at_ b) (l.flatMap L.ent)=l.lookup b:=by
 intro bq
 induction bq with
 |nil=>
  exact rfl
 |cons hd l ay=>
  obtain ⟨aZ,c⟩:=hd
  show (if ((L.at_ aZ).line:Int)==((L.at_ b).line:Int)&&((L.at_ aZ).col:Int)==((L.at_ b).col:Int) then some c else codeAmong (L.at_ b) (l.flatMap L.ent))=_
  rw[lW,ay]
  have Vw:((L.k0.line:Int)==(L.k1.line:Int)&&(L.k0.col:Int)==(L.k1.col:Int))=false:=by
   rw[hU] at eJ⊢
   intro h
   apply eJ
   simp only[mW,beq_iff_eq] at h⊢
   exact ⟨h.1.symm,h.2.symm⟩
  cases b<;>cases aZ
  ·simp[dQ.at_]
  ·show (if ((L.k1.line:Int)==(L.k0.line:Int)&&(L.k1.col:Int)==(L.k0.col:Int))=true then some c else l.lookup false)=_
   rw[eJ];rfl
  ·show (if ((L.k0.line:Int)==(L.k1.line:Int)&&(L.k0.col:Int)==(L.k1.col:Int))=true then some c else l.lookup true)=_
   rw[Vw];rfl
  ·simp[dQ.at_]
section
variable {T:bE} {L:dQ} {A:bO} {g:G} {w w1:W} {s s':aw} {P:au}
theorem acF (d:aL T g w s) (bS:T.dO=some P) (k: ∀b o,b≠P→s.heap.get? b=some o→s'.heap.get? b=some o) (ae: ∃o,s'.heap.get? P=some o)
  (new:T.qY g.B s'.heap) (gens:s'.gens=s.gens) (os:s'.os=s.os) (aU:s.toks≤s'.toks):bK T g s g s'∧aL T g w s':=by
 have wP:ek T.dO g.aA P:= .inl bS
 have bF:cH g.B s.heap g.B s'.heap:=fun b o e n=>⟨k b o (fun z=>n (z▸d.dc P wP)) e,n⟩
 have ex: ∀b o,s.heap.get? b=some o→ ∃cE,s'.heap.get? b=some cE:=fun b o e=>by
  by_cases h:b=P
  ·subst h;exact ae
  ·exact ⟨o,k b o h e⟩
 refine ⟨⟨fun b o e n=>k b o (fun z=>n (z▸wP)) e,ex,fun _ z=>z,fun _ z=> .inl z,⟨[],by simp⟩,fun _ z=> .inl z,gens,os,aU⟩,?_⟩
 exact {
  aU:=e3 _
  base:=fun b o e=>⟨(bF b o (d.base b o e).1 (d.base b o e).2).1,(d.base b o e).2⟩
  ex:=fun b z=>let ⟨o,e⟩:=d.ex b z;ex b o e
  dc:=d.dc
  tab:=new
  len:=d.len
  cO:=fun j a x aF aE=>by
   have ob:=d.eT a (iK aF)
   exact T.kl (d.cO j a x aF aE) bF fun b o z e=>k b o (fun q=>by subst q;rcases z with z|z|z<;>subst z<;>simp_all) e
  fg:=d.fg
  eT:=d.eT}
end
theorem K8 {b:Bool} {c:af}: ∀{l:List (Bool×af)},l.lookup b=some c→(b,c)∈l:=by
 intro bq
 induction bq with
 |nil=>exact @fun h=>nomatch h
 |cons hd l ay=>
  obtain ⟨aZ,d0⟩:=hd
  intro h
  rw[lW] at h
  split at h
  ·rename_i aa;rw[eq_of_beq aa];cases h;exact eZ
  ·exact e0 _ (ay h)
section
variable {T:bE} {L:dQ} {A:bO} {E:af→aw→Prop} {Q:af→aw→Prop} {g:G} {w w1:W} {s s':aw} {env:Env} {name qual:Str} {params:pg} {scope:Scope} {yy:List (Str×au)} {b:Bool} {fl:Nat}
theorem aL.ns (d:aL T g w s):s.heap.Ns mainGlobals T.c7:=T.g.keeps fun b o e=>(d.base b o e).1
theorem dX.bS (aY:dX T L) (d:aL T g w s): ∃l:List (Bool×af),s.heap.get? L.tab=some (tabObj (l.flatMap L.ent).toArray)∧ ∀e∈l,j0 g.B s.heap (L.qual e.1) e.2:=by
 have:=d.tab
 rw[aY.tab] at this;exact this
theorem dX.bm (aY:dX T L) (d:aL T g w s):s.heap.BuiltinsAt T.c7 L.tab:=
 aY.JD.imp fun bm q=>q.imp fun o r=>⟨r.1,r.2.1,r.2.2.1,r.2.2.2.1,(d.base _ _ r.2.2.2.2.1).1,r.2.2.2.2.2⟩
structure Made (T:bE) (L:dQ) (b:Bool) (fd:af→af→af→dW) (g:G) (w:W) (s:aw) (f:au) (s':aw):Prop where
 a5:bK T g s g s'
 wd:aL T g w s'
 new:s.heap.get? f=none
 keep: ∀b o,b≠L.tab→s.heap.get? b=some o→s'.heap.get? b=some o
 obj: ∃c doc il,s'.heap.get? f=some {cls:= .type "function",data:= .func (fd c doc il)}∧j0 g.B s'.heap (L.qual b) c
theorem aL.fresh (d:aL T g w s) {a:au} (h:s.heap.get? a=none): ¬g.B a:=fun z=>by
 obtain ⟨o,e⟩:=d.ex a z;rw[h] at e;cases e
theorem K2 {c:af} {fd:af→af→af→dW} {h':aR} {aU:Tok} {doc il:af} (d:aL T g w s) (ah:j0 g.B s.heap (L.qual b) c) (k: ∀b o,s.heap.get? b=some o→h'.get? b=some o) (a6:s.heap.objs.size≤h'.objs.size) (aS:s.toks≤aU):
  Made T L b fd g w s h'.objs.size {s with heap:=h'.push {cls:= .type "function",data:= .func (fd c doc il)},toks:=aU}:=by
 have eL: ∀b o,s.heap.get? b=some o→(h'.push {cls:= .type "function",data:= .func (fd c doc il)}).get? b=some o:=fun b o e=>eE _ (k b o e)
 exact ⟨.grow (dr:=s.drawn) eL aS,d.grow eL aS,k9 a6,fun b o _ e=>eL b o e,c,doc,il,eO _ rfl,ah.bF fun a o e n=>⟨eL a o e,n⟩⟩
theorem K3 {fd:af→af→af→dW} {h':aR} {aU:Tok} {doc il:af} {d0:au} {l:List (Bool×af)} (aY:dX T L) (d:aL T g w s) (ai: ∀e∈l,j0 g.B s.heap (L.qual e.1) e.2) (ae:N7 L.tab s.heap h') (rx:s.heap.objs.size≤d0) (dd:d0<h'.objs.size) (v8:h'.CodeRec (.ref d0) (L.qual b))
  (wc:h'.get? L.tab=some (tabObj ((l.flatMap L.ent).toArray++ #[rawInt (L.at_ b).line,rawInt (L.at_ b).col,.ref d0]))) (aS:s.toks≤aU):
  Made T L b fd g w s h'.objs.size {s with heap:=h'.push {cls:= .type "function",data:= .func (fd (.ref d0) doc il)},toks:=aU}:=by
 let o:Obj:={cls:= .type "function",data:= .func (fd (.ref d0) doc il)}
 have Ek: ∀b cE,b≠L.tab→s.heap.get? b=some cE→(h'.push o).get? b=some cE:=fun b cE aa e=>eE _ (ae b cE aa e)
 have Ai: ¬g.B d0:=d.fresh (k9 rx)
 have ah:j0 g.B (h'.push o) (L.qual b) (.ref d0):=by
  obtain ⟨c,lI,vs,t,e,J,U,av⟩:=v8
  cases e
  exact ⟨d0,lI,vs,t,rfl,eE _ J,U,av,Ai⟩
 have cB:L.tab≠d0:=fun z=>by
  obtain ⟨l,e,_⟩:=aY.bS d
  rw[z,k9 rx] at e;cases e
 have ZJ: ∀{a},¬g.B a→a≠L.tab:=fun {a} n z=>n (z▸d.dc _ (.inl aY.qz))
 have Kg:(h'.push o).get? L.tab=some (tabObj ((l++[(b,(Value.ref d0:af))]).flatMap L.ent).toArray):=by
  rw[eE _ wc]
  congr 2
  simp[dQ.ent]
 obtain ⟨st,CV⟩:=acF (s':={s with heap:=h'.push o,toks:=aU}) d aY.qz Ek ⟨_,Kg⟩ (by
  rw[aY.tab]
  refine ⟨_,Kg,fun e he=> ?_⟩
  rcases uO.mp he with he|he
  ·obtain ⟨c,lI,vs,t,aF,J,U,av,a0⟩:=ai e he
   exact ⟨c,lI,vs,t,aF,Ek _ _ (ZJ a0) J,U,av,a0⟩
  ·rw[fs] at he;subst he;exact ah) rfl rfl aS
 exact ⟨st,CV,k9 (fK (ic rx dd)),Ek,.ref d0,doc,il,eO _ rfl,ah⟩
theorem YH {body:List bY} (aY:dX T L) (d:aL T g w s) (dp:closureFor scope env=pure yy) (bM:env.globals=mainGlobals) (ah:env.code= .ref L.q') (aG:qual=L.qual b)
  (q: ∀f s',Made T L b (fun c doc il=>fnX name qual params body scope yy .none .none doc ((T.c7 "__name__").getD .none) none c il) g w s f s'→Q (.ref f) s'):
  bc (bo T.prog T.w) A (makeFunction name qual params (.stmts body) scope env [] [] [] (L.at_ b) fl) Q E s:=by
 obtain ⟨l,bS,ai⟩:=aY.bS d
 have hI:CodeHd s.heap L.q' L.tab:=aY.DH.keeps fun b o e=>(d.base b o e).1
 have DN:mainGlobals≠L.tab:=fun z=>by
  obtain ⟨o,es,df,e,hd,_⟩:=d.ns
  rw[z,bS] at e;cases e;cases hd
 subst aG
 cases hf:l.lookup b with
 |some c=>
  refine k5 (a3 _) (makeFunction_hit dp bM d.ns ah hI bS (by simpa using vH L l) (by rw[GD,yT L aY.eJ];exact hf) (aY.bm d) fun il doc h' aU k a6 hle=>q _ _ (K2 d ?_ k a6 hle))
  exact ai (b,c) (K8 hf)
 |none=>
  exact k5 (a3 _) (makeFunction_K dp bM d.ns ah hI bS (by simpa using vH L l) (by rw[GD,yT L aY.eJ];exact hf) DN (aY.bm d) fun d0 il doc h' aU ae rx dd v8 wc hle=>q _ _ (K3 aY d ai ae rx dd v8 wc hle))
theorem YJ {body:Expr} (aY:dX T L) (d:aL T g w s) (dp:closureFor scope env=pure yy) (bM:env.globals=mainGlobals) (ah:env.code= .ref L.q') (aG:qual=L.qual b)
  (q: ∀f s',Made T L b (fun c doc il=>kla_fn name qual params body scope yy ((T.c7 "__name__").getD .none) c il) g w s f s'→Q (.ref f) s'):
  bc (bo T.prog T.w) A (makeFunction name qual params (.expr body) scope env [] [] [] (L.at_ b) fl) Q E s:=by
 obtain ⟨l,bS,ai⟩:=aY.bS d
 have hI:CodeHd s.heap L.q' L.tab:=aY.DH.keeps fun b o e=>(d.base b o e).1
 have DN:mainGlobals≠L.tab:=fun z=>by
  obtain ⟨o,es,df,e,hd,_⟩:=d.ns
  rw[z,bS] at e;cases e;cases hd
 subst aG
 cases hf:l.lookup b with
 |some c=>
  refine k5 (a3 _) (kla_makeFunctionHit dp bM d.ns ah hI bS (by simpa using vH L l) (by rw[GD,yT L aY.eJ];exact hf) (aY.bm d) fun il h' aU k a6 hle=>q _ _ (K2 (doc:= .none) d ?_ k a6 hle))
  exact ai (b,c) (K8 hf)
 |none=>
  exact k5 (a3 _) (kla_makeFunction dp bM d.ns ah hI bS (by simpa using vH L l) (by rw[GD,yT L aY.eJ];exact hf) DN (aY.bm d) fun d0 il h' aU ae rx dd v8 wc hle=>q _ _ (K3 (doc:= .none) aY d ai ae rx dd v8 wc hle))
end
theorem acb:StoreFacts "function" [.type "function",.type "object"] "object.__setattr__" "object" where
 mro:=by kernel_rfl
 slot:= .of (owner:="object") (n:="__setattr__") (by rw[uK,uL];kernel_rfl) (by decide+kernel) (by decide+kernel) (by decide+kernel)
  (by first|exact .inl (by decide+kernel)|exact .inr (by decide+kernel)) (by rw[Gv];kernel_rfl)
 entry:=PySem.F.entry_object_sa
 kind:=by decide+kernel
 split:=by decide+kernel
 hasOwner:=by decide+kernel
 args:=fun a b c=>by unfold argsOk;kernel_rfl
 passes:=fun self=>by kernel_rfl
noncomputable abbrev A4 (P:f6) (k:Tok) (v:af):Obj:={cls:= .type "dict",data:= .dict #[⟨cX P (ab "read"),.str (ab "read") k,v⟩] 1}
theorem L4 {P:f6} {t:Tok} {v:af}:pf (ab "read") (cX P (ab "read")) (.str (ab "read") t) v {cls:= .type "dict",data:= .dict #[]}=A4 P t v:=by kernel_rfl
section
variable {prog:sE} {w:pn} {A:bO} {E:af→aw→Prop} {s:aw} {f:au} {v:af} {fd:dW}
theorem TY {Q:Unit→aw→Prop} (hf:s.heap.get? f=some {cls:= .type "function",data:= .func fd})
  (q: ∀h' aU,s.toks≤aU→(∀b o,b≠f→s.heap.get? b=some o→h'.get? b=some o)→h'.get? f=some {cls:= .type "function",dict:=some s.heap.objs.size,data:= .func fd}→(∃k,h'.get? s.heap.objs.size=some (A4 w.params k v))→Q () {s with heap:=h',toks:=aU}):
  bc (bo prog w) A (setAttr (.ref f) (ab "read") v) Q E s:=by
 have hD:=acb
 have cB: ∀t:Nat,({s with toks:=t}:aw).TypeIs (.ref f) "function":=fun t=>⟨_,hf,rfl⟩
 unfold setAttr
 refine aM (Gu (aM (OC (name:=ab "__setattr__") (cB _) hD.slot (BE hD.slot (cB _) hD.entry ?_ (hD.args _ _ _)))))
 rw[osa_eq,refuse_eq]
 have zF: ∀{t:Nat} {eR:af→aw→Prop} {ig:af→aw→Prop} {uY:bO},eR (.type "function") {s with toks:=t}→bc (bo prog w) uY (typeOf (.ref f)) eR ig {s with toks:=t}:=fun {t eR ig uY} h=>by
  obtain ⟨o,aV,ah⟩:=cB t
  exact aM (uJ aV (b6 (by rw[ah];exact h)))
 refine aM (aM (zF (aM (uI hD.mro ?_))))
 rw[hD.passes]
 refine b6 (aM (zF (aM (uI Dj (aM (b6 (a:=none) ?_))))))
 show bc _ _ (ae4 (.ref f) (.type "function") (.str (ab "read") s.toks) (ab "read") v false) _ _ _
 unfold ae4
 refine aM (b6 (a:=()) ?_)
 dsimp only
 rw[if_neg (by decide)]
 unfold agD
 dsimp only
 unfold instanceDict
 have hd:typeHasDict (.type "function")=true:=by kernel_rfl
 have hsz:f≠s.heap.objs.size:=jX (k8 hf)
 refine aM (aM (uJ hf ?_))
 dsimp only
 rw[hd,if_neg (by decide)]
 refine aM (wpAny_alloc (aM (wpAny_update (o:={cls:= .type "function",data:= .func fd}) (eE _ hf) ?_)))
 unfold dictMade
 dsimp only
 rw[if_neg (by decide)]
 refine aM (b6 (b6 ?_))
 dsimp only
 have O':((s.heap.push {cls:= .type "dict",data:= .dict #[]}).update f fun o=>{o with dict:=some s.heap.objs.size}).get? f=some {cls:= .type "function",dict:=some s.heap.objs.size,data:= .func fd}:=
  Ox _ (eE _ hf) rfl
 have B6:((s.heap.push {cls:= .type "dict",data:= .dict #[]}).update f fun o=>{o with dict:=some s.heap.objs.size}).get? s.heap.objs.size=some {cls:= .type "dict",data:= .dict #[]}:=
  (BB _ _ hsz).trans (eO _ rfl)
 have Pa: ∀b o,b≠f→s.heap.get? b=some o→((s.heap.push {cls:= .type "dict",data:= .dict #[]}).update f fun o=>{o with dict:=some s.heap.objs.size}).get? b=some o:=fun b o aa e=>
  (BB _ _ (eg aa)).trans (eE _ e)
 generalize af5:((s.heap.push {cls:= .type "dict",data:= .dict #[]}).update f fun o=>{o with dict:=some s.heap.objs.size})=H at*
 unfold agE
 refine aM (b6 (a:=()) (aM ?_))
 unfold nsSet
 refine aM (aM (wpAny_askSetting (b6 (aM (Gu (aM (uJ B6 ?_)))))))
 dsimp only
 have c:(!(#[]:Array Gs).any (·.key.isStr (ab "read"))&&(#[]:Array Gs).any (·.refKey))=false:=by decide+kernel
 rw[aeV,c]
 refine wpAny_updatePart B6 ?_
 have jZ:(H.update s.heap.objs.size (pf (ab "read") (cX w.params (ab "read")) (.str (ab "read") (s.toks+1)) v)).get? s.heap.objs.size=some (A4 w.params (s.toks+1) v):=by
  rw[Ox _ B6 (by rw[L4];rfl),L4]
 refine aM (wpAny_lookBehind jZ (by exact pastItsLine_dict (by show 1≤_;rw[sizeLine_eq];exact yq rfl)) ?_)
 refine b6 ⟨_,rfl,b6 ?_⟩
 refine q _ (s.toks+1+1) (by exact i9 (g4 _ _)) (fun b o aa e=> ?_) ((BB _ _ (eg hsz)).trans O') ⟨_,jZ⟩
 exact (BB _ _ (ju (k8 e))).trans (Pa b o aa e)
end
noncomputable abbrev Pl:=(Nat→Pos)×pg×List bY×Scope×pg×Scope
noncomputable abbrev ack (L:dQ) (R:Nat→Pos) (kp:pg) (fo:List bY) (rs:Scope) (EC:pg) (ls:Scope):List bY:=
 [.Assign [.Name e8 (R 0)] (.List [.Constant (.int 0) 0 (R 1)] (R 2)) (R 3),
  .FunctionDef gz kp fo [] none [] rs none gz L.k1,
  .Assign [.Name rT (R 4)] (.Lambda EC (.Constant .none 0 (R 5)) ls L.k0) (R 6),
  .Assign [.Attribute (.Name rT (R 7)) gz (R 8)] (.Name gz (R 9)) (R 10),
  .Return (some (.Name rT (R 11))) (R 12)]
structure x9 (L:dQ) (fd:dW):Prop where
 ep: ∃t:Pl,fd.body= .stmts (ack L t.1 t.2.1 t.2.2.1 t.2.2.2.1 t.2.2.2.2.1 t.2.2.2.2.2)∧pz t.2.1 t.2.2.1 t.2.2.2.1∧(∀env,defaultsOf t.2.2.2.2.1 env=([],[]))∧t.2.2.2.2.2.names=[]
 names:fd.scope.names=[(fw,.cell),(gz,.local),(rT,.local),(e8,.cell)]
 code:fd.code= .ref L.q'
 fX:fd.qualname++(".<locals>.":Str)++gz=L.Ff
 hO:fd.qualname++(".<locals>.":Str)++("<lambda>":Str)=L.Fe
structure qX (h0:aR) (B:au→Prop) (h:aR) (src pl e9 dj ct b7:au) (m:Str→Option af) (fd:dW) (t1 t2:Tok) (text:Str):Prop where
 rE:sJ h src e9 m
 wV:h0.get? src=none
 wU:h0.get? e9=none
 rC:m gz=some (.ref dj)
 rv: ∃o,h.get? dj=some o∧o.cls= .type "function"∧o.data= .func fd
 qi:h0.get? dj=none
 F:kG fd ct b7
 code:j0 B h fd.qualname fd.code
 nu:h.IsCell ct (some (.str text t1))
 tY:h0.get? ct=none
 oB:h.IsCell b7 (some (.ref pl))
 tX:h0.get? b7=none
 hl:c6 h pl #[.int 0 t2]
 kW:h0.get? pl=none
 pJ:B pl
noncomputable def Cg (h0:aR) (B:au→Prop) (h:aR) (v:af) (text:Str):Prop:= ∃src pl e9 dj ct b7 m fd t1 t2,v= .ref src∧qX h0 B h src pl e9 dj ct b7 m fd t1 t2 text
theorem Cg.elim {h0 h:aR} {B:au→Prop} {v:af} {text:Str} {G:Prop} (S:Cg h0 B h v text) (k: ∀{src pl e9 dj ct b7 m fd t1 t2},v= .ref src→qX h0 B h src pl e9 dj ct b7 m fd t1 t2 text→G):G:=
 gZ S fun _ S=>gZ S fun _ S=>gZ S fun _ S=>gZ S fun _ S=>gZ S fun _ S=>gZ S fun _ S=>gZ S fun _ S=>gZ S fun _ S=>gZ S fun _ S=>gZ S fun _ S=>k S.1 S.2
theorem qX.keep {h0 h h':aR} {B B':au→Prop} {src pl e9 dj ct b7:au} {m:Str→Option af} {fd:dW} {t1 t2:Tok} {text:Str} (S:qX h0 B h src pl e9 dj ct b7 m fd t1 t2 text) (k: ∀{b o},h0.get? b=none→h.get? b=some o→h'.get? b=some o) (bF:cH B h B' h') (Qq: ∀{b},B b→B' b):qX h0 B' h' src pl e9 dj ct b7 m fd t1 t2 text where
 rE:=⟨S.rE.1.imp fun o q=>q.imp fun f r=>⟨k S.wV r.1,r.2⟩,S.rE.2.imp fun o q=>q.imp fun es q=>q.imp fun df r=>⟨k S.wU r.1,r.2⟩⟩
 wV:=S.wV
 wU:=S.wU
 rC:=S.rC
 rv:=S.rv.imp fun o q=>⟨k S.qi q.1,q.2⟩
 qi:=S.qi
 F:=S.F
 code:=S.code.bF bF
 nu:=S.nu.imp fun o q=>⟨k S.tY q.1,q.2⟩
 tY:=S.tY
 oB:=S.oB.imp fun o q=>⟨k S.tX q.1,q.2⟩
 tX:=S.tX
 hl:=S.hl.imp fun o q=>⟨k S.kW q.1,q.2⟩
 kW:=S.kW
 pJ:=Qq S.pJ
theorem ZI {P:f6} {h:aR} {a:au} {k:Tok} {v:af} (e:h.get? a=some (A4 P k v)): ∃m,h.Ns a m∧m gz=some v:=by
 exact ⟨fun n=>nsFind #[⟨cX P gz,.str gz k,v⟩] n,⟨_,_,_,e,rfl,fun e he=>fs.mp (Array.mem_def.mp he)▸⟨_,_,rfl⟩,fun n=>rfl⟩,by kernel_rfl⟩
theorem Q0 {env:Env} {sc:Scope} {ct b7:au} (h:sc.names=[(mE,.local),(e8,.free),(fw,.free)]) (J:env.cells.lookup e8=some b7) (U:env.cells.lookup fw=some ct):closureFor sc env=pure [(fw,ct),(e8,b7)]:=by
 unfold closureFor
 rw[h]
 simp[cellOf,J,U]
theorem QZ {env:Env} {sc:Scope} (h:sc.names=[]):closureFor sc env=pure []:=by
 unfold closureFor
 rw[h];rfl
section
variable {T:bE} {L:dQ} {b:Bool} {fd:af→af→af→dW} {g:G} {w:W} {s s':aw} {f:au}
theorem Made.own (aY:dX T L) (d:aL T g w s) (M:Made T L b fd g w s f s'):bK T g s ⟨fun b=>g.B b∨b=f,g.aA⟩ s'∧aL T ⟨fun b=>g.B b∨b=f,g.aA⟩ w s':=by
 obtain ⟨c,doc,il,aV,ah⟩:=M.obj
 have Y4: ∀{a},¬g.B a→a≠L.tab:=fun {a} n z=>n (z▸d.dc _ (.inl aY.qz))
 have Lp: ∀{a o},s.heap.get? a=some o→a≠f:=fun {a o} e z=>by rw[z,M.new] at e;cases e
 have bF:cH g.B s.heap (fun b=>g.B b∨b=f) s'.heap:=fun a o e n=>⟨M.keep a o (Y4 n) e,fun z=>z.elim n (Lp e)⟩
 refine ⟨⟨M.a5.keep,M.a5.ex,fun b z=> .inl z,fun b z=>z.imp id fun q=>by rw[q];exact M.new,M.a5.eG,M.a5.ef,M.a5.gens,M.a5.os,M.a5.aU⟩,?_⟩
 exact {
  aU:=M.wd.aU
  base:=fun b o e=>⟨(M.wd.base b o e).1,fun z=>z.elim (d.base b o e).2 (Lp (d.base b o e).1)⟩
  ex:=fun b z=>z.elim (M.wd.ex b) fun q=>by rw[q];exact ⟨_,aV⟩
  dc:=fun b z=> .inl (d.dc b z)
  tab:=by
   have:=M.wd.tab
   rw[aY.tab] at this⊢
   obtain ⟨l,e,ai⟩:=this
   refine ⟨l,e,fun x ae=> ?_⟩
   obtain ⟨c,o,vs,t,aF,J,U,av,a0⟩:=ai x ae
   refine ⟨c,o,vs,t,aF,J,U,av,fun z=>z.elim a0 fun q=> ?_⟩
   subst q
   rw[aV] at J;cases J;cases U
  len:=d.len
  cO:=fun i a x aF aE=>by
   have ob:=d.eT a (iK aF)
   refine T.kl (d.cO i a x aF aE) bF fun b o z e=>M.keep b o (fun q=> ?_) e
   subst q
   rw[aY.qz] at ob
   rcases z with z|z|z
   ·exact ob.1 (congrArg some z)
   ·exact ob.2.1 (congrArg some z)
   ·exact ob.2.2 (congrArg some z)
  fg:=d.fg
  eT:=d.eT}
end
section
variable {T:bE} {L:dQ} {A:bO} {g:G} {w:W} {s:aw} {fd:dW} {K:au→Prop} {cx:a'} {env:Env} {σ σ':ar} {x:Str}
theorem bz.kd (f:bz T K cx env σ A g w s) (x:Str):env.kindOf x=cx.sc.names.lookup x:=congrArg (fun s:Scope=>s.names.lookup x) f.sc
theorem bz.cell (f:bz T K cx env σ A g w s) (ae:cx.sc.names.lookup x=some .cell): ∃c v,env.cells.lookup x=some c∧s.heap.IsCell c v∧cg T g s.heap env x v∧fO T g s.heap (σ.get x) v:=
 b5 (f.fr.nm x _ ae (by decide)) fun v ht iH=>ht.elim (fun z=>nomatch inj (((f.kd x).trans ae).symm.trans z.1)) fun z=>d9 z.2 fun c ah l9 _=>⟨c,v,ah,l9,ht,iH⟩
theorem bz.local (f:bz T K cx env σ A g w s) (ae:cx.sc.names.lookup x=some .local) {u:af} (aQ:σ.get x= .val (.raw u)): ∃m,s.heap.Ns env.locals m∧m x=some u∧cg T g s.heap env x (some u):=
 b5 (f.fr.nm x _ ae (by decide)) fun v ht iH=>b5 (aQ▸iH:fO T g s.heap (.val (.raw u)) v) fun jo ev cw=>by
  rw[ev,cw.NK] at ht
  exact ht.elim (fun z=>b5 z.2 fun m hm h=>⟨m,hm,h,ht⟩) fun z=>z.1.elim (fun z=>nomatch inj (((f.kd x).trans ae).symm.trans z)) fun z=>nomatch inj (((f.kd x).trans ae).symm.trans z)
theorem bz.Lo {h:aR} (f:bz T (fun b=> ∃o,h.get? b=some o) cx env σ A g w s) (ae:cx.sc.names.lookup x=some .cell) {c:au} (ah:env.cells.lookup x=some c):h.get? c=none:=
 (f.wr x (by unfold dq;rw[ae];rfl)).elim (fun z=>nomatch inj (((f.kd x).trans ae).symm.trans z.1)) fun z=>GF.mpr fun o e=>z.2 c ah ⟨o,e⟩
theorem bz.Qx (f:bz T K cx env σ A g w s) (ae:cx.sc.names.lookup x=some .cell) {y:Str} (aQ:σ.get x= .val (.str y)) {c:au} (ah:env.cells.lookup x=some c): ∃t,s.heap.IsCell c (some (.str y t)):=
 hG (f.cell ae) fun d0 v hj l9 _ iH=>b5 (aQ▸iH:fO T g s.heap (.val (.str y)) v) fun u fH eW=>eW.h8.imp fun t gh=>by
  rw[ah] at hj
  rw[fH,gh] at l9
  exact inj hj▸l9
theorem bz.Qw (f:bz T K cx env σ A g w s) (ae:cx.sc.names.lookup x=some .cell) {i:Int} (aQ:σ.get x= .own [.int i]) {c:au} (ah:env.cells.lookup x=some c): ∃a t,s.heap.IsCell c (some (.ref a))∧cy T g a∧c6 s.heap a #[.int i t]∧ ¬K a:=
 hG (f.cell ae) fun d0 v hj l9 ht iH=>hG (aQ▸iH:fO T g s.heap (.own [.int i]) v) fun a vs ev q6 aI aW=>aW.one fun u fH eW=>eW.jS.elim fun t gh=>by
  rw[ah] at hj
  rw[fH,gh] at aI
  rw[ev] at l9 ht
  exact ⟨a,t,inj hj▸l9,q6,aI,f.own x _ a aQ ⟨_,ae,by decide⟩ ht⟩
theorem acd {text:Str}:ar.set (([fw]:List Str).zip ([I.str text].map .val)) e8 (.own [.int 0])=[(fw,.val (.str text)),(e8,.own [.int 0])]:=by kernel_rfl
theorem ace {text:Str} {dj:af}:ar.set [(fw,.val (.str text)),(e8,.own [.int 0])] gz (.val (.raw dj))=[(fw,.val (.str text)),(e8,.own [.int 0]),(gz,.val (.raw dj))]:=by kernel_rfl
theorem acf {text:Str} {dj src:af}:ar.set [(fw,.val (.str text)),(e8,.own [.int 0]),(gz,.val (.raw dj))] rT (.val (.raw src))=[(fw,.val (.str text)),(e8,.own [.int 0]),(gz,.val (.raw dj)),(rT,.val (.raw src))]:=by kernel_rfl
theorem Jg {σ:ar} {x y:Str} {p:I} {l:List I} (e:(σ.set x (.val p)).get y= .own l):σ.get y= .own l∧y≠x:=by
 rw[ar.get_set] at e
 split at e
 ·cases e
 ·rename_i h;exact ⟨e,fun z=>h z.symm⟩
theorem acp {text:Str} {t:Tok} (aY:dX T L) (F:f7 T.bW L.rk fd [fw]) (hD:x9 L fd) (d:aL T g w s) (bZ:Room 70 A):
  m3 T.plain A (.call (.ref L.rk) ⟨[.str text t],[]⟩) g s (fun g' s' v=>aL T.plain g' w s'∧Cg s.heap g'.B s'.heap v text):=by
 refine rf hD.ep fun fJ ep nZ Vn pZ=> ?_
 refine TS (T:=T.plain) (k:=2) (vs:=[.str text]) F ep d.hR bZ (.cons (.str _ _) .nil) rfl fun env g1 s1 cN st ae E Q q=> ?_
 have Ef:fd.scope.names.lookup fw=some .cell:=by rw[hD.names];kernel_rfl
 have tM:fd.scope.names.lookup e8=some .cell:=by rw[hD.names];kernel_rfl
 have qc:fd.scope.names.lookup gz=some .local:=by rw[hD.names];kernel_rfl
 have zQ:fd.scope.names.lookup rT=some .local:=by rw[hD.names];kernel_rfl
 have Kc:qualnameIn env gz gz=L.qual true:=by
  unfold qualnameIn
  rw[(cN.kd gz).trans qc,if_neg (by decide),ae.2]
  exact hD.fX
 refine gO (HK (T:=T.plain) (l:=[.int 0]) (w1:=w) (kr rfl) cN (by unfold dq;rw[tM];rfl) (((nL T 4).1 4 (a3 _)).gj rfl cN.eK) fun g2 s2 t2 f2=> ?_)
 replace f2:=acd▸f2
 refine hG (f2.cell tM) fun b7 _ oB _ _ _=>hG (f2.cell Ef) fun ct _ nu _ _ _=> ?_
 refine gO ((exec_def ..).symm▸ ?_)
 refine aM (fL (aM (g8 ?_)))
 rw[defaultsOf_eq,nZ.f8,nZ.oh,nZ.ann]
 refine aM (b6 (aM (g8 (b6 (g8 (aM (b6 ?_)))))))
 refine YH (T:=T) (b:=true) aY f2.wd.ed (Q0 nZ.names oB nu) f2.fr.glob (ae.1.trans hD.code) Kc fun dj s3 M=>aM (fL (aM ?_))
 have dn:=f2.a5 M.a5.hR M.wd.hR
 refine r9 (T:=T.plain) (K:=fun b=> ∃o,s.heap.get? b=some o) (x:=gz) (k:= .local) (sl:= .val (.raw (.ref dj))) dn.fr dn.wd qc (by decide) (dn.wr gz (by unfold dq;rw[qc];rfl)) ⟨_,rfl,.raw _⟩ (fun _ _ _ _ _ z=>nomatch z) fun s4 ee T7 nh qh Z1=>b6 ?_
 have f4:=dn.kept ee T7 nh fun y l e=>⟨(Jg e).1,fun u=>Z1 y u (Jg e).2⟩
 replace f4:=ace▸f4
 refine IB M.obj fun dz afX afT ki pW=> ?_
 refine gO (HJ (T:=T.plain) (cx:=⟨T.plain.dx,2,fd.scope⟩) (σ:=[(fw,.val (.str text)),(e8,.own [.int 0]),(gz,.val (.raw (.ref dj)))]) (kr rfl) (by unfold dq;rw[zQ];rfl) (kla_eval (Vn env) ?_))
 refine YJ (T:=T) (b:=false) aY f4.wd.ed (QZ pZ) f4.fr.glob (ae.1.trans hD.code) (by rw[ae.2];exact hD.hO) fun src s5 sM=> ?_
 have As:=sM.own aY f4.wd.ed
 refine IB sM.obj fun n6 afY afU J7 af6=>⟨_,_,w,.raw (.ref src),f4.more (X:=fun b=>b=src) As.1.hR As.2.hR fun b aa=>aa▸⟨sM.new,_,J7⟩,.raw _,fun iG o3 gv=> ?_⟩
 replace gv:=acf▸gv
 have Cz:cy T.plain ⟨fun b=>g2.B b∨b=src,g2.aA⟩ src:=⟨.inr rfl,fun z=>(f4.wd.ex src (f4.wd.dc src z)).elim fun o e=>nn (sM.new.symm.trans e)⟩
 have zz:=o3.old src _ (.inr rfl) J7 Cz.2
 refine d9 (gv.local qc (u:= .ref dj) (by kernel_rfl)) fun agm _ _ Y7=>d9 (gv.local zQ (u:= .ref src) (by kernel_rfl)) fun agn J2 yI Y8=> ?_
 refine gO (BL (nameP (T:=T.plain) gv.fr qc Y7 (nameP (T:=T.plain) gv.fr zQ Y8 (TY (prog:=T.prog) zz fun h' aU hle aX tl ir=> ?_))) (kr rfl))
 have UQ:env.locals≠src:=fun z=>en J2 fun o q=>e5 q fun es df e hh _=>nomatch (congrArg pk (inj (zz.symm.trans (z▸e)))).trans hh
 refine gO (Gq (F8 (Bu gv.fr.kind ((gv.kd _).trans zQ) (J2.imp fun o q=>q.imp fun es q=>q.imp fun df q=>⟨aX _ _ UQ q.1,q.2⟩) yI ?_) (by kernel_rfl)))
 show Q (.ret (.ref src)) _
 refine en (gv.Qx Ef (y:=text) (by kernel_rfl) nu) fun bt Qy=>hG (gv.Qw tM (i:=0) (by kernel_rfl) oB) fun pl bB Qv pJ hl kW=>en ir fun agh ir=>b5 (ZI ir) fun Ym Vp Vs=> ?_
 have no: ∀{a},¬(∃o,s.heap.get? a=some o)→s.heap.get? a=none:=fun h=>GF.mpr fun o e=>h ⟨o,e⟩
 have qh: ∀{a},s4.heap.get? a=none→s.heap.get? a=none:=fun h=>st.none (t2.none (M.a5.none (ee.none h)))
 have bR:cV T.plain (fun b=> ∃o,s.heap.get? b=some o) g1 s1 ⟨fun b=>g2.B b∨b=src,g2.aA⟩ iG:=(((t2.trans (M.a5.hR.bR f2.wd)).trans ee).trans (As.1.hR.bR f4.wd)).trans (o3.weak fun b z=> .inl z)
 have cW: ∀{a v},iG.heap.IsCell a v→h'.IsCell a v:=fun {a v} c=>c.imp fun o q=>⟨aX _ _ (fun z=>nomatch Qz zz (z▸c:iG.heap.IsCell src v)) q.1,q.2⟩
 have qi: ¬g2.B dj:=f2.wd.ed.fresh M.new
 have KH: ∀{a o},s4.heap.get? a=some o→ ¬g2.B a→h'.get? a=some o∧ ¬(g2.B a∨a=src):=fun {a o} e n=>
  have bp:=As.1.hR.bF f4.wd a o e n
  ⟨aX a o (fun z=>bp.2 (.inr z)) (o3.ip a o bp.1 bp.2).1,bp.2⟩
 exact q _ _ (.ret (.ref src)) (bR.trans (.one (dr:=iG.drawn) Cz (fun z=>z.elim fun o e=>nn ((qh sM.new).symm.trans e)) aX ⟨_,tl⟩ hle)) ⟨gv.wd.one Cz aX ⟨_,tl⟩ hle,src,pl,_,dj,ct,b7,Ym,_,bt,bB,rfl,{
  rE:=⟨⟨_,_,tl,rfl,rfl,rfl⟩,Vp⟩
  wV:=qh sM.new
  wU:=no fun z=>z.elim fun o e=>(st.ex _ o e).elim fun kX aF=>(bR.ex _ kX aF).elim fun gL aE=>nn ((iD _).symm.trans aE)
  rC:=Vs
  rv:=⟨_,(KH ((ee.ip dj _ ki qi).1) qi).1,rfl,rfl⟩
  qi:=st.none (t2.none M.new)
  F:=⟨⟨_,rfl,nZ⟩,rfl,rfl,rfl,rfl,fun z=>nomatch f2.fr.apart fw e8 ct nu (z▸oB)⟩
  code:=((Kc.symm▸pW:j0 g2.B s3.heap (qualnameIn env gz gz) dz).bF ee.ip).bF fun a o e n=>KH e n
  nu:=cW Qy
  tY:=f2.Lo Ef nu
  oB:=cW Qv
  tX:=f2.Lo tM oB
  hl:=hl.imp fun o q=>⟨aX _ _ (fun z=>oP zz (z▸hl:c6 iG.heap src _)|>.elim fun n e=>nomatch e) q.1,q.2⟩
  kW:=no fun z=>kW (.inl z)
  pJ:=pJ.1}⟩
end
noncomputable abbrev oV:Str:=ab "fp"
noncomputable abbrev aj (P:f6) (x:Str):Int:=cX P x
noncomputable abbrev D' (P:f6) (bt:Tok) (ln:af):Obj:={cls:= .type "dict",data:= .dict #[⟨aj P (ab "lineno"),.str (ab "lineno") bt,ln⟩] 1}
noncomputable abbrev Ea (P:f6) (bt bB:Tok) (ln src:af):Obj:={cls:= .type "dict",data:= .dict #[⟨aj P (ab "lineno"),.str (ab "lineno") bt,ln⟩,⟨aj P (ab "instream"),.str (ab "instream") bB,src⟩] 2}
noncomputable abbrev zM (P:f6) (bt bB c4:Tok) (ln src ws:af):Obj:={cls:= .type "dict",data:= .dict #[⟨aj P (ab "lineno"),.str (ab "lineno") bt,ln⟩,⟨aj P (ab "instream"),.str (ab "instream") bB,src⟩,⟨aj P (ab "whitespace"),.str (ab "whitespace") c4,ws⟩] 3}
section
variable {P:f6} {bt bB c4 d6:Tok} {ln src ws cu:af}
theorem aav:pf (ab "lineno") (cX P (ab "lineno")) (.str (ab "lineno") bt) ln emptyDict=D' P bt ln:=by kernel_rfl
theorem aaw:pf (ab "instream") (cX P (ab "instream")) (.str (ab "instream") bB) src (D' P bt ln)=Ea P bt bB ln src:=by kernel_rfl
theorem aax:pf (ab "whitespace") (cX P (ab "whitespace")) (.str (ab "whitespace") c4) ws (Ea P bt bB ln src)=zM P bt bB c4 ln src ws:=by kernel_rfl
theorem aay:pf (ab "pushback") (cX P (ab "pushback")) (.str (ab "pushback") d6) cu (zM P bt bB c4 ln src ws)=hL P bt bB c4 d6 ln src ws cu:=by kernel_rfl
theorem X9:(lookIn (ab "lineno") emptyDict).isSome=true:=by kernel_rfl
theorem X':(lookIn (ab "instream") (D' P bt ln)).isSome=true:=by kernel_rfl
theorem Yb:(lookIn (ab "whitespace") (Ea P bt bB ln src)).isSome=true:=by kernel_rfl
theorem Yc:(lookIn (ab "pushback") (zM P bt bB c4 ln src ws)).isSome=true:=by kernel_rfl
end
section
variable {T:bE} {L:dQ} {A:bO} {E:af→aw→Prop} {s:aw} {x dx:au} {name:Str} {v:af} {od nJ:Obj}
structure x7 (T:bE) (L:dQ) (x dx:au) (od:Obj) (h:aR):Prop where
 X:T.K.In h
 inst:h.get? x=some (instObj L.C dx)
 dict:h.get? dx=some od
theorem zN {Q:Unit→aw→Prop} {es:List Gs} {n:Nat} (aY:dX T L) (az:x7 T L x dx od s.heap) (aS:takerIn T.K L.C name=some none) (ai:(lookIn name od).isSome=true)
  (e:pf name (cX T.w.params name) (.str name (s.toks+1)) v od=nJ) (bP:nJ.data= .dict es.toArray n) (a6:es.length≤1000) (iw:T.bW.get? dx=none) (base: ∀b o,T.bW.get? b=some o→s.heap.get? b=some o)
  (h: ∀h',(∀b o,b≠dx→s.heap.get? b=some o→h'.get? b=some o)→x7 T L x dx nJ h'→Q () {s with heap:=h',toks:=s.toks+2}):
  bc (bo T.prog T.w) A (setAttr (.ref x) name v) Q E s:=by
 have Hk:InstAt s.heap x (instObj L.C dx) L.C (some od):=⟨az.inst,rfl,rfl,az.dict⟩
 refine set_plain (K:=T.K) (od:=some od) (C:=L.C) (ox:=instObj L.C dx) az.X Hk aY.D0 ?_
 refine LQ (K:=T.K) (C:=L.C) (ox:=instObj L.C dx) (dx:=dx) (s:={s with toks:=s.toks+1}) az.X Hk rfl aY.ag aS aY.cL ai e bP a6 fun h' gm zm=> ?_
 have jj: ∀b o,b≠dx→s.heap.get? b=some o→h'.get? b=some o:=fun b o aa e=>(gm.2 b aa).trans e
 have Wb:x≠dx:=fun z=>by
  have J:=az.inst
  rw[z,az.dict] at J
  injection J with J
  have U:=congrArg pk J
  have av:=ai
  rw[J] at av
  cases av
 refine h h' jj ⟨?_,jj _ _ Wb az.inst,zm⟩
 exact T.fN.keeps fun b o e=>jj b o (fun z=>by rw[z,iw] at e;cases e) (base b o e)
end
noncomputable abbrev Ks (R:Nat→Pos):List bY:=
 [.Assign [.Attribute (.Name da (R 0)) (ab "lineno") (R 1)] (.Constant (.int 1) 0 (R 2)) (R 3),
  .Assign [.Attribute (.Name da (R 4)) (ab "instream") (R 5)] (.Name oV (R 6)) (R 7),
  .Assign [.Attribute (.Name da (R 8)) (ab "whitespace") (R 9)] (.Constant (.str (ab "\n\t\r ")) 0 (R 10)) (R 11),
  .Assign [.Attribute (.Name da (R 12)) (ab "pushback") (R 13)] (.List [] (R 14)) (R 15)]
structure x6 (fd:dW):Prop where
 ep: ∃R,fd.body= .stmts (Ks R)
 self:fd.scope.names.lookup da=some .local
 c9:fd.scope.names.lookup oV=some .local
section
variable {T:bE} {L:dQ} {A:bO} {E:af→aw→Prop} {s:aw} {x dx:au} {name:Str} {v src:af} {od nJ:Obj} {env:Env} {m:Str→Option af} {R:Nat→Pos}
theorem WG {Q:iM→aw→Prop} (aY:dX T L) (aj:env.scope.kind= .function) (bt:env.kindOf da=some .local) (bB:env.kindOf oV=some .local) (aT:s.heap.Ns env.locals m) (J:m da=some (.ref x)) (U:m oV=some src)
  (az:x7 T L x dx emptyDict s.heap) (DT:env.locals≠dx) (iw:T.bW.get? dx=none) (base: ∀b o,T.bW.get? b=some o→s.heap.get? b=some o)
  (q: ∀h' aU t1 t2 t3 ee t hv cu,s.toks≤aU→(∀b o,b≠dx→s.heap.get? b=some o→h'.get? b=some o)→h'.get? dx=some (hL T.w.params t1 t2 t3 ee (.int 1 t) src (.str (ab "\n\t\r ") hv) (.ref cu))→c6 h' cu #[]→s.heap.get? cu=none→Q .next {s with heap:=h',toks:=aU}):
  bc (bo T.prog T.w) A (execs (Ks R) env) Q E s:=by
 have Am: ∀{h h':aR},h.Ns env.locals m→(∀b o,b≠dx→h.get? b=some o→h'.get? b=some o)→h'.Ns env.locals m:=fun {h h'} n k=>by
  obtain ⟨o,es,df,e,r⟩:=n
  exact ⟨o,es,df,k _ _ DT e,r⟩
 have self: ∀{s':aw} {p:Pos} {eR:af→aw→Prop},s'.heap.Ns env.locals m→eR (.ref x) s'→bc (bo T.prog T.w) A (eval (.Name da p) env) eR E s':=fun {s' p eR} n kn=>F8 (Bu aj bt n J kn) (by decide+kernel)
 have c9: ∀{s':aw} {p:Pos} {eR:af→aw→Prop},s'.heap.Ns env.locals m→eR src s'→bc (bo T.prog T.w) A (eval (.Name oV p) env) eR E s':=fun {s' p eR} n kn=>F8 (Bu aj bB n U kn) (by decide+kernel)
 have dR: ∀{h:aR},(∀b o,b≠dx→s.heap.get? b=some o→h.get? b=some o)→ ∀b o,T.bW.get? b=some o→h.get? b=some o:=fun {h} k b o e=>k b o (fun z=>by rw[z,iw] at e;cases e) (base b o e)
 refine gO (BL (F' (self aT (zN (s:={s with toks:=s.toks+1}) aY az aY.s1 X9 aav rfl (by exact ib _ _) iw base fun aJ tN Pd=> ?_))) (kr rfl))
 have na:=Am aT tN
 refine gO (BL (c9 na (self na (zN (s:={s with heap:=aJ,toks:=s.toks+1+2}) aY Pd aY.s2 X' aaw rfl (by exact ib _ _) iw (dR tN) fun aa jj Pe=> ?_))) (kr rfl))
 have Eg: ∀b o,b≠dx→s.heap.get? b=some o→aa.get? b=some o:=fun b o n e=>jj b o n (tN b o n e)
 have nb:=Am aT Eg
 refine gO (BL (N2 (self nb (zN (s:={s with heap:=aa,toks:=s.toks+1+2+2+1}) aY Pe aY.s3 Yb aax rfl (by exact ib _ _) iw (dR Eg) fun ah cW x5=> ?_))) (kr rfl))
 have Eh: ∀b o,b≠dx→s.heap.get? b=some o→ah.get? b=some o:=fun b o n e=>cW b o n (Eg b o n e)
 have Ai:=Am aT Eh
 refine gO (BL ?_ (kr rfl))
 rw[arm_eval_List]
 refine aM (fL (aM (BI ?_)))
 refine wpAny_newList ?_ (by simp)
 have c8: ∀b o,ah.get? b=some o→(ah.push {cls:= .type "list",data:= .seq ([]:List af).toArray}).get? b=some o:=fun b o e=>eE _ e
 have Id:x7 T L x dx (zM T.w.params (s.toks+1+1) (s.toks+1+2+1) (s.toks+1+2+2+1+1) (.int 1 s.toks) src (.str (ab "\n\t\r ") (s.toks+1+2+2))) (ah.push {cls:= .type "list",data:= .seq ([]:List af).toArray}):=
  ⟨x5.X.keeps c8,c8 _ _ x5.inst,c8 _ _ x5.dict⟩
 have wz: ∀b o,b≠dx→s.heap.get? b=some o→(ah.push {cls:= .type "list",data:= .seq ([]:List af).toArray}).get? b=some o:=fun b o n e=>c8 b o (Eh b o n e)
 refine self (Am aT wz) (zN (s:={s with heap:=ah.push {cls:= .type "list",data:= .seq ([]:List af).toArray},toks:=s.toks+1+2+2+1+2}) aY Id aY.s4 Yc aay rfl (by exact ib _ _) iw (dR wz) fun he rM Pf=>lY ?_)
 have mn:ah.objs.size≠dx:=fun z=>by have:=x5.dict;rw[←z,k9 (a3 _)] at this;cases this
 refine q he _ _ _ _ _ _ _ ah.objs.size (by show s.toks≤s.toks+1+2+2+1+2+2;simp+arith only) (fun b o n e=>rM b o n (wz b o n e)) Pf.dict ?_ ?_
 ·exact ⟨_,rM _ _ mn (eO _ rfl),rfl,_,rfl⟩
 ·cases e:s.heap.get? ah.objs.size with
  |none=>rfl
  |some o=>have:=Eh _ o mn e;rw[k9 (a3 _)] at this;cases this
end
theorem Room.made {d:Nat} {A:bO} {C:au} {vals:List af} {kw:List (Str×af)} (r:Room (d+1) A):Room d (A.under (.builtin "type.__call__" ⟨.ref C::vals,kw⟩)):=by
 have J:(A.under (.builtin "type.__call__" ⟨.ref C::vals,kw⟩)).depth=A.depth+1:=rfl
 have U:(A.under (.builtin "type.__call__" ⟨.ref C::vals,kw⟩)).units=A.units+1:=rfl
 exact ⟨by have:=r.depth;rw[J];exact aH (bL this),by have:=r.units;rw[U];exact aH (bL this),r.handled⟩
theorem ne_data {h:aR} {a b:au} {o cE:Obj} (e:h.get? a=some o) (bP:h.get? b=some cE) (n:o.data≠cE.data):a≠b:=fun z=>n (congrArg pk (inj (e.symm.trans (z▸bP))))
theorem ZH {h:aR} {a:au} {m:Str→Option af} (e:h.get? a=some emptyDict) (n:h.Ns a m) (x:Str):m x=none:=by
 obtain ⟨o,es,df,bP,d,r⟩:=n
 cases inj (e.symm.trans bP)
 cases d
 exact (r.2 x).symm
theorem NN {qz:Option au} {aA:List c3} {a:c3} {b:au} (z:ek qz (aA++[a]) b):ek qz aA b∨b=a.dx∨b=a.pl∨b=a.cu:=
 z.elim (fun z=> .inl (.inl z)) fun z=>z.elim fun c q=>(uO.mp q.1).elim (fun h=> .inl (.inr ⟨c,h,q.2⟩)) fun h=> .inr (by rw[←fs.mp h];exact q.2)
theorem y3 {α:Type} {l:List α} {a b:α} {j:Nat} (e:(l++[a])[j]?=some b):l[j]?=some b∨(j=l.length∧b=a):=by
 by_cases h:j<l.length
 ·rw[qO h] at e
  exact .inl e
 ·have U:=(hW.mp e).1
  rw[eP,xO] at U
  have av:j=l.length:=by exact ae5 U h
  rw[av,qG (a3 _),qH] at e
  exact .inr ⟨av,(inj e).symm⟩
section
variable {T:bE} {L:dQ} {A:bO} {E:af→aw→Prop} {g g1 c1:G} {w:W} {s s1 s4 s5:aw} {a:c3} {src e9 dj ct b7:au} {m:Str→Option af} {fd:dW} {t1 t2:Tok} {text:Str} {bt bB c4 d6 t hv:Tok} {h0 h h' bW:aR} {B B':au→Prop} {P:f6} {C:au}
theorem ab7 (S:qX h0 B h src a.pl e9 dj ct b7 m fd t1 t2 text) (kf: ∀b,h0.get? b=none→(∃o,h.get? b=some o)→b≠a.dx→b≠a.pl→ ¬B' b) (bF:cH B h B' h') (aX: ∀b o,b≠a.dx→h.get? b=some o→h'.get? b=some o)
  (oq: ∀{b},h0.get? b=none→bW.get? b=none) (ae:h.get? a.x=some (instObj C a.dx)) (jM:h0.get? a.x=none) (iw:h.get? a.dx=some emptyDict)
  (ir:h'.get? a.dx=some (hL P bt bB c4 d6 (.int 1 t) (.ref src) (.str (ab "\n\t\r ") hv) (.ref a.cu))) (mn:c6 h' a.cu #[]) (hlen:text.length≤1048576) (ix:d8 text=true):wJ P C bW B' h' a ⟨text.cps.toList,1,[]⟩:=by
 have CU:a.pl≠a.dx:=fun z=>(oP iw (z▸S.hl)).elim fun n e=>nomatch e
 have ok: ∀{b o},h0.get? b=none→h.get? b=some o→o.data≠emptyDict.data→(∀i n,o.data≠ .seq i n)→h'.get? b=some o∧ ¬B' b:=fun {b o} n e bb b4=>
  have mG:=ne_data e iw bb
  ⟨aX _ _ mG e,kf b n ⟨_,e⟩ mG fun z=>(oP (z▸e) S.hl).elim fun n q=>b4 _ _ q⟩
 have LP: ∀{b v},h0.get? b=none→h.IsCell b v→h'.IsCell b v∧ ¬B' b:=fun {b v} n c=>c.elim fun o q=>
  have r:=ok n q.1 (by rw[q.2];nofun) (by rw[q.2];nofun)
  ⟨⟨o,r.1,q.2⟩,r.2⟩
 have ys:=LP S.tY S.nu
 have sY:=LP S.tX S.oB
 have X:=ok jM ae nofun nofun
 refine gT S.rE.1 fun os bk fX=>b5 S.rv fun orr C4 hO=>IA S.rE.2 fun od es df xa=> ?_
 have R:=ok S.qi C4 (by rw[hO.2];nofun) (by rw[hO.2];nofun)
 have Q:=ok S.wV fX.1 (by rw[fX.2.2.1];nofun) (by rw[fX.2.2.1];nofun)
 have Iz:e9≠a.dx:=fun z=>nn ((ZH (z▸iw) S.rE.2 gz).symm.trans S.rC)
 exact ⟨⟨bt,bB,c4,d6,t,hv,t1,t2,src,e9,dj,ct,b7,m,fd,0,text⟩,{
  inst:=X.1
  yZ:=X.2
  dict:=ir
  src:=⟨⟨os,bk,Q.1,fX.2⟩,od,es,df,aX _ _ Iz xa.1,xa.2⟩
  yY:=Q.2
  yX:=kf e9 S.wU ⟨_,xa.1⟩ Iz fun z=>(oP (z▸xa.1) S.hl).elim fun n q=>nomatch q.symm.trans xa.2.1
  dj:=S.rC
  fn:=⟨orr,R.1,hO⟩
  yW:=R.2
  F:=S.F
  code:=S.code.bF bF
  ct:=ys.1
  yP:=ys.2
  y2:=oq S.tY
  b7:=sY.1
  yO:=sY.2
  y1:=oq S.tX
  y7:=oq S.kW
  pl:=S.hl.imp fun o q=>⟨aX _ _ CU q.1,q.2⟩
  cu:=mn
  push:=rfl
  rem:=rfl
  len:=hlen
  ok:=ix}⟩
theorem W6 (aY:dX T L) (bb:aL T g1 w s1) (nh:aL T c1 w s4) (lO:bK T g1 s1 c1 s4) (tJ:c1.aA=g1.aA) (S:qX s1.heap c1.B s4.heap src a.pl e9 dj ct b7 m fd t1 t2 text) (hlen:text.length≤1048576) (ix:d8 text=true)
  (ae:s4.heap.get? a.x=some (instObj L.C a.dx)) (jM:s1.heap.get? a.x=none) (Aj:s1.heap.get? a.dx=none) (jC:c1.B a.dx) (iw:s4.heap.get? a.dx=some emptyDict) (aS:s4.toks≤s5.toks) (bM:s5.gens=s4.gens) (aV:s5.os=s4.os)
  (aX: ∀b o,b≠a.dx→s4.heap.get? b=some o→s5.heap.get? b=some o)
  (ir:s5.heap.get? a.dx=some (hL T.w.params bt bB c4 d6 (.int 1 t) (.ref src) (.str (ab "\n\t\r ") hv) (.ref a.cu))) (mn:c6 s5.heap a.cu #[]) (rW:s4.heap.get? a.cu=none):
  bK T g1 s1 ⟨fun b=>g1.B b∨b=a.dx∨b=a.pl∨b=a.cu,g1.aA++[a]⟩ s5∧aL T ⟨fun b=>g1.B b∨b=a.dx∨b=a.pl∨b=a.cu,g1.aA++[a]⟩ (w++[⟨text.cps.toList,1,[]⟩]) s5:=by
 have new: ∀b,(b=a.dx∨b=a.pl∨b=a.cu)→s1.heap.get? b=none:=fun b z=>z.elim (fun z=>z▸Aj) fun z=>z.elim (fun z=>z▸S.kW) fun z=>z▸lO.none rW
 have nw: ∀{b},s1.heap.get? b=none→ ¬ek T.dO g1.aA b:=fun {b} h z=>(bb.ex b (bb.dc b z)).elim fun o e=>nn (h.symm.trans e)
 have L1: ∀{b o},s4.heap.get? b=some o→b≠a.cu:=fun {b o} e z=>nn (rW.symm.trans (z▸e))
 have bF:cH c1.B s4.heap (fun b=>g1.B b∨b=a.dx∨b=a.pl∨b=a.cu) s5.heap:=fun b o e n=>⟨aX b o (fun z=>n (z▸jC)) e,fun z=>z.elim (fun z=>n (lO.hb b z)) fun z=>z.elim (fun z=>n (z▸jC)) fun z=>z.elim (fun z=>n (z▸S.pJ)) (L1 e)⟩
 have KG: ∀b o,ek T.dO g1.aA b→s4.heap.get? b=some o→s5.heap.get? b=some o:=fun b o z e=>aX b o (fun q=>nw Aj (q▸z)) e
 have CU:a.pl≠a.dx:=fun z=>(oP iw (z▸S.hl)).elim fun n e=>nomatch e
 have IU: ∀b o,s4.heap.get? b=some o→ ∃cE,s5.heap.get? b=some cE:=fun b o e=>if h:b=a.dx then ⟨_,h▸ir⟩ else ⟨o,aX b o h e⟩
 have old: ∀{b c:au},ek T.dO g1.aA b→(c=a.dx∨c=a.pl∨c=a.cu)→b≠c:=fun z h q=>nw (new _ h) (q▸z)
 refine ⟨{
  keep:=fun b o e n=>aX b o (fun z=>nn (Aj.symm.trans (z▸e))) (lO.keep b o e n)
  ex:=fun b o e=>(lO.ex b o e).elim (IU b)
  hb:=fun b z=> .inl z
  iQ:=fun b z=>z.imp id (new b)
  eG:=⟨_,rfl⟩
  ef:=fun b z=>(NN z).imp id (new b)
  gens:=bM.trans lO.gens
  os:=aV.trans lO.os
  aU:=c5 lO.aU aS},{
  aU:=e3 _
  base:=fun b o e=>bF b o (nh.base b o e).1 (nh.base b o e).2
  ex:=fun b z=>z.elim (fun z=>(nh.ex b (lO.hb b z)).elim (IU b)) fun z=>z.elim (fun z=>⟨_,z▸ir⟩) fun z=>z.elim (fun z=>S.hl.imp fun o q=>z▸aX _ _ CU q.1) fun z=>mn.imp fun o q=>z▸q.1
  dc:=fun b z=>(NN z).imp (bb.dc b) id
  tab:=T.lQ nh.tab bF fun b o z e=>KG b o (.inl z) e
  len:=by rw[eP,eP,bb.len];rfl
  cO:=fun j b y aF aE=>(y3 aF).elim (fun h=>T.kl (nh.cO j b y (tJ▸h) ((qO (bb.len▸(hW.mp h).1)).symm.trans aE)) bF fun c o z e=>KG c o (.inr ⟨b,iK h,z⟩) e) fun q=>by
   rw[q.1,bb.len,qG (a3 _),qH] at aE
   rw[q.2,←inj aE,aY.cO]
   exact ab7 S (fun b n ex mG np z=>z.elim (bb.fresh n) fun z=>z.elim mG fun z=>z.elim np (ex.elim fun o e=>L1 e)) bF aX (fun n=>GF.mpr fun o e=>nn (n.symm.trans (bb.base _ o e).1)) ae jM iw ir mn hlen ix
  fg:=fun i j c d0 ry aF aE b z=>(y3 aF).elim (fun h=>(y3 aE).elim (fun h'=>bb.fg i j c d0 ry h h' b z) fun q=>by
    have o:=fun d=>old (c:=d) (.inr ⟨c,iK h,z⟩)
    rw[q.2]
    exact ⟨o _ (.inl rfl),o _ (.inr (.inl rfl)),o _ (.inr (.inr rfl))⟩) fun q=>(y3 aE).elim (fun h'=>by
    rw[q.2] at z
    have o:=fun d h=>(old (b:=d) (.inr ⟨d0,iK h',h⟩) z).symm
    exact ⟨o _ (.inl rfl),o _ (.inr (.inl rfl)),o _ (.inr (.inr rfl))⟩) fun kn=>(ry (q.1.trans kn.1.symm)).elim
  eT:=fun b aa=>(uO.mp aa).elim (bb.eT b) fun aa=>by
   rw[fs.mp aa]
   exact ⟨fun z=>nw Aj (.inl z),fun z=>nw S.kW (.inl z),fun z=>nw (lO.none rW) (.inl z)⟩}⟩
end
section
variable {T:bE} {L:dQ} {A:bO} {g:G} {w w1:W} {s:aw} {cx:a'} {env:Env} {σ:ar} {IZ ly rm yQ:dW} {a:Expr} {t:Str} {p p2 pos km:Pos}
theorem NQ {g':G} {s':aw} (t:bK T g s g' s') (d:aL T g w s) (d1:aL T g' w s'):g'.aA=g.aA:=t.eG.elim fun more e=>by
 have l:=d1.len
 rw[e,eP,d.len] at l
 rw[e,OB.mp (show more.length=0 by exact fC (OG (fC l))),fF]
theorem WE {x dx src:au} {R:m2→aw→Prop} (aY:dX T L) (g9:f7 T.bW L.nj rm [da,oV]) (l4:x6 rm) (d:aL T.plain g w s) (bZ:Room 50 A) (ae:s.heap.get? x=some (instObj L.C dx)) (hd:s.heap.get? dx=some emptyDict) (q9:cy T.plain g x) (jC:cy T.plain g dx) (Ul:T.bW.get? dx=none)
  (q: ∀c1 s4 h' aU bt bB c4 d6 t hv cu,bK T.plain g s c1 s4→aL T.plain c1 w s4→s4.toks≤aU→(∀b o,b≠dx→s4.heap.get? b=some o→h'.get? b=some o)→h'.get? dx=some (hL T.w.params bt bB c4 d6 (.int 1 t) (.ref src) (.str (ab "\n\t\r ") hv) (.ref cu))→c6 h' cu #[]→s4.heap.get? cu=none→R (.ok (.ret .none)) {s4 with heap:=h',toks:=aU}):
  codeAny (bo T.prog T.w) A (.call (.ref L.nj) ⟨[.ref x,.ref src],[]⟩) R s:=en l4.ep fun r ep=>d9 g9.at_ fun agr Vz af7 U6=>by
 have base: ∀b o,T.bW.get? b=some o→s.heap.get? b=some o:=fun b o e=>(d.base b o e).1
 refine vJ (T:=T.plain) (k:=1) (vs:=[.raw (.ref x),.raw (.ref src)]) (base _ _ Vz) U6 g9.f1 g9.f2 g9.dn ep g9.rl g9.nk g9.oi g9.oj (g9.lB.keeps base) g9.aT g9.f4 g9.je g9.gv g9.kM g9.f8 g9.oh g9.og d bZ (.cons (.raw _) (.cons (.raw _) .nil)) rfl fun SJ c1 s4 uh nr agg afM=> ?_
 refine d9 (nr.local l4.self (u:= .ref x) rfl) fun K1 zy gG _=>d9 (nr.local l4.c9 (u:= .ref src) (by kernel_rfl)) fun agl Vo ka _=> ?_
 have DT:SJ.locals≠dx:=fun z=>(nr.wr da (by unfold dq;show (rm.scope.names.lookup da==_||_)=true;rw[l4.self];rfl)).elim (fun h=>h.2 ⟨_,z▸hd⟩) fun h=>nomatch inj (((nr.kd da).trans l4.self).symm.trans h.1)
 exact WG (T:=T) aY nr.fr.kind ((nr.kd _).trans l4.self) ((nr.kd _).trans l4.c9) zy gG (E2 zy Vo▸ka) ⟨nr.wd.ed.lF,uh.keep _ _ ae q9.2,uh.keep _ _ hd jC.2⟩ DT Ul (fun b o e=>(nr.wd.base b o e).1) fun h' aU bt bB c4 d6 kt hv cu hle aX ir mn rW=>q c1 s4 h' aU bt bB c4 d6 kt hv cu uh nr.wd hle aX ir mn rW
theorem f7.fnAt {h:aR} {f:au} {fd:dW} {ns:List Str} (F:f7 T.bW f fd ns) (k: ∀b o,T.bW.get? b=some o→h.get? b=some o):FnAt f h:=d9 F.at_ fun o aV ah hd=>by
 obtain ⟨lI,od,w0,sl⟩:=o
 dsimp only at ah hd
 subst ah hd
 exact ⟨_,_,_,_,k _ _ aV⟩
theorem RC (aY:dX T L) (g9:f7 T.bW L.nj rm [da,oV]) (l4:x6 rm) (FS:f7 T.bW L.rk yQ [fw]) (hD:x9 L yQ) (i:cD T cx env σ A g w s) (hf:cx.sc.names.lookup (ab "_netrclex")=some .globalImplicit) (bM:cx.sc.names.lookup (ab "_law_stream")=some .globalImplicit)
  (hd:4≤cx.d) (a6:t.length≤1048576∧d8 t=true) (tI:starEach [a] env=[(false,eval a env)]) (h:aK T A (eval a env) g s (Res T w1 (.str t))):
  aK T A (eval (.Call (.Name (ab "_netrclex") p) [.Call (.Name (ab "_law_stream") p2) [a] [] km] [] pos) env) g s (Res T (w1++[⟨t.cps.toList,1,[]⟩]) (.obj w1.length)):=by
 intro E Q q
 show bc _ A (do callWith pos (←eval (.Name (ab "_netrclex") p) env) [] (backTo pos (starEach [.Call (.Name (ab "_law_stream") p2) [a] [] km] env)) (backToKw pos (keywordEach [] env))) Q E s
 refine aM (y5 i.wd i.fr hf aY.hI (callWith_K (h₀:=T.bW) T.fN aY.JU (BH (rest:=[]) ?_ rfl)))
 show bc _ A (do callWith km (←eval (.Name (ab "_law_stream") p2) env) [] (backTo km (starEach [a] env)) (backToKw km (keywordEach [] env))) _ E s
 refine aM (y5 i.wd i.fr bM aY.tl (callWith_F (q:=L.rk) (rest:=[]) (FS.fnAt fun b o e=>(i.wd.base b o e).1) (BH (rest:=[]) ?_ (by rw[tI];rfl)) (by rw[tI];rfl) rfl))
 refine h E _ fun g1 s1 v1 t1 a4=>BI (en a4.2.h8 fun aU ev=>ev▸⟨FS.fnAt fun b o e=>(a4.1.base b o e).1,?_⟩)
 have Mn:Room 70 A:=i.bZ.less (by exact aH (lm 20 hd))
 refine (acp aY FS hD a4.1 Mn).vB _ _ fun g2 s2 v2 t2 bH=>BI ⟨bH.1.ed.lF,bH.2.elim fun {src pl e9 dj ct b7 m fd bt bB} ev S=>ev▸G5 ?_⟩
 have bb:=a4.1
 have b4:=bH.1
 clear h i a4 bH
 obtain ⟨U,me,dr,o5,rY⟩:=s2
 refine make_core (makes_of b4.ed.lF aY.gJ) (looks_findIn b4.ed.lF aY.fj) (fun self=>bind_fn b4.ed.lF self aY.M9) (.inl rfl) ?_
 have EZ: ∀n,U.get? (U.objs.size+n)=none:=fun n=>k9 (g4 _ _)
 have rN: ∀b o,U.get? b=some o→((U.push emptyDict).push (instObj L.C U.objs.size)).get? b=some o:=fun b o e=>eE _ (eE _ e)
 have zI:((U.push emptyDict).push (instObj L.C U.objs.size)).get? (U.objs.size+1)=some (instObj L.C U.objs.size):=pa U emptyDict▸eO _ rfl
 have zk:((U.push emptyDict).push (instObj L.C U.objs.size)).get? U.objs.size=some emptyDict:=eE _ (eO _ rfl)
 generalize (U.push emptyDict).push (instObj L.C U.objs.size)=av at rN zI zk⊢
 have mN:bK T.plain g2 ⟨U,me,dr,o5,rY⟩ (g2.news U av) ⟨av,me,dr,o5,rY⟩:= .news (s:=⟨U,me,dr,o5,rY⟩) (t:=o5) rN (a3 _)
 have yG:aL T.plain (g2.news U av) w1 ⟨av,me,dr,o5,rY⟩:=aL.news (s:=⟨U,me,dr,o5,rY⟩) (t:=o5) b4 rN (a3 _)
 have jC:cy T.plain (g2.news U av) U.objs.size:=G.nG (s:=⟨U,me,dr,o5,rY⟩) b4 (EZ 0) zk
 have q9:cy T.plain (g2.news U av) (U.objs.size+1):=G.nG (s:=⟨U,me,dr,o5,rY⟩) b4 (EZ 1) zI
 have dH: ∀n,s1.heap.get? (U.objs.size+n)=none:=fun n=>t2.none (EZ n)
 refine WE (dx:=U.objs.size) aY g9 l4 yG (Room.made (Mn.less (by exact yq rfl))) zI zk q9 jC (GF.mpr fun o e=>nn ((dH 0).symm.trans (bb.base _ o e).1)) fun c1 s4 h' aU bt bB c4 d6 kt hv cu ee nh hle aX ir mn rW=>⟨rfl,?_⟩
 have A9:=mN.trans ee
 have lO:=t2.trans A9
 have h9:=NQ t2 bb.hR b4
 have qS:=W6 (a:=⟨U.objs.size+1,U.objs.size,pl,cu⟩) (s5:={s4 with heap:=h',toks:=aU}) aY bb nh.ed lO.ed (NQ lO bb.hR nh) (S.keep (fun {b o} n e=>A9.keep b o e fun z=>(bb.ex b (bb.dc b (h9▸z))).elim fun o e=>nn (n.symm.trans e)) (A9.bF b4) (A9.hb _)) a6.1 a6.2 (ee.keep _ _ zI q9.2) (dH 1) (dH 0) (ee.hb _ jC.1) (ee.keep _ _ zk jC.2) hle rfl rfl aX ir mn rW
 refine q _ _ _ (t1.trans qS.1) ⟨qS.2,.obj (a:=⟨U.objs.size+1,U.objs.size,pl,cu⟩) ?_⟩
 show (g1.aA++[_])[w1.length]?=_
 rw[←bb.len,qG (a3 _),qH]
 rfl
theorem RA (aY:dX T L) (O8:f7 T.bW L.fI IZ [da]) (fM:l2 IZ) (sI:f7 T.bW L.pQ ly [da]) (ll:yc ly) (g9:f7 T.bW L.nj rm [da,oV]) (l4:x6 rm) (FS:f7 T.bW L.rk yQ [fw]) (hD:x9 L yQ):pv T where
 make i hf bM hd a6 tI h:=RC aY g9 l4 FS hD i hf bM hd a6 tI h
 tok i hd aa ag h ai:=RD aY O8 fM sI ll i hd aa ag h ai
 line i aa h ai:=RB aY i aa h ai
end
end Mine
end
section
open PySem PySem.W PyProof.Rows PySem.Calls PySem.Spec
namespace Mine
noncomputable def fdOf (K:Frag) (a:au):dW:=match K.lookup a with
 |some ⟨_,_,.func fd,_⟩=>fd
 |_=>{name:=ab "",qualname:=ab "",params:=⟨[],[],none,[],[],none,[]⟩,body:= .stmts [],scope:=default,globals:=0,closure:=[],defaults:= .none,kwdefaults:= .none,doc:= .none,pyModule:= .none,annotations:=none,code:= .none,closureTuple:= .none,builtins:=0}
noncomputable def vi:af→au
 | .ref c=>c
 |_=>0
noncomputable def FY:Option Obj→Array af
 |some ⟨_,_,.fields vs,_⟩=>vs
 |_=> #[]
noncomputable def acO:Option af→Tok
 |some (.str _ t)=>t
 |_=>0
structure u0 (K:Frag) (f:au) (fd:dW) (ns:List Str):Prop where
 a1:(K.lookup f).map (fun o=>(o.cls,o.data))=some (.type "function",.func fd):=by kernel_rfl
 a2:(fd.scope.kind,fd.scope.isGenerator,fd.scope.isCoroutine,fd.closure,fd.globals,fd.builtins,fd.defaults)=(.function,false,false,[],mainGlobals,builtinsNs,.none):=by kernel_rfl
 j4:(fd.params.args.map (·.arg),fd.params.posonlyargs,fd.params.vararg,fd.params.kwonlyargs,fd.params.kwarg)=(ns,[],none,[],none):=by kernel_rfl
 sP:fd.code= .ref (vi fd.code):=by kernel_rfl
 sQ:(K.lookup (vi fd.code)).map (·.data)=some (.fields (FY (K.lookup (vi fd.code)))):=by kernel_rfl
 Pp:(FY (K.lookup (vi fd.code)))[1]?=some (.str fd.qualname (acO (FY (K.lookup (vi fd.code)))[1]?)):=by kernel_rfl
 Pq:fd.scope.names.all (fun x=>(x.2== .local||x.2== .cell||x.2== .globalImplicit)&&x.1 !=("__debug__":Str)&&x.1 !=("__classdict__":Str))=true:=by kernel_rfl
 Pr:ns.all (fun x=>fd.scope.names.lookup x==some .local||fd.scope.names.lookup x==some .cell)=true:=by kernel_rfl
 Pt:decide ns.Nodup=true:=by kernel_rfl
theorem yU {K:Frag} {h:aR} (X:K.In h) {f:au} {fd:dW} {ns:List Str} (e:u0 K f fd ns):f7 h f fd ns where
 at_:=(o9.mp e.a1).elim fun o q=>⟨o,X _ _ q.1,congrArg (·.1) q.2,congrArg (·.2) q.2⟩
 f1:=congrArg (·.1) e.a2
 f2:=congrArg (·.2.1) e.a2
 dn:=congrArg (·.2.2.1) e.a2
 rl:=congrArg (·.2.2.2.1) e.a2
 nk:=congrArg (·.2.2.2.2.1) e.a2
 oi:=congrArg (·.2.2.2.2.2.1) e.a2
 oj:=congrArg (·.2.2.2.2.2.2) e.a2
 lB:=(o9.mp e.sQ).elim fun o q=>⟨_,o,_,_,e.sP,X _ _ q.1,q.2,e.Pp⟩
 aT:=congrArg (·.1) e.j4
 f4:=congrArg (·.2.1) e.j4
 je:=congrArg (·.2.2.1) e.j4
 gv:=congrArg (·.2.2.2.1) e.j4
 kM:=congrArg (·.2.2.2.2) e.j4
 f8:=fun x k aj=>by
  have q:=pb.mp e.Pq (x,k) (mem_of_lookup aj)
  rw[mW,mW,uG,uG,beq_iff_eq,beq_iff_eq,beq_iff_eq] at q
  exact ⟨or_assoc.mp q.1.1,qE _|>.mp q.1.2,qE _|>.mp q.2⟩
 oh:=fun x ae=>by
  have q:=pb.mp e.Pr x ae
  rw[uG,beq_iff_eq,beq_iff_eq] at q
  exact q
 og:=of_decide_eq_true e.Pt
noncomputable abbrev o4:List (au×au):=[(125,121)]
noncomputable abbrev Eo:dQ:={C:=59,fI:=42,pQ:=49,nj:=35,rk:=126,q':=125,tab:=121,k1:=⟨189,4,191,45⟩,k0:=⟨192,13,192,25⟩,Ff:=ab "_law_stream.<locals>.read",Fe:=ab "_law_stream.<locals>.<lambda>"}
noncomputable def pH (l:List Pos) (n:Nat):Pos:=l.getD n ⟨0,0,0,0⟩
noncomputable def QK:List Pos:=[⟨14,8,14,10⟩,⟨14,13,14,17⟩,⟨14,13,14,26⟩,⟨14,13,14,31⟩,⟨14,32,14,33⟩,⟨14,13,14,34⟩,⟨14,8,14,34⟩,⟨15,11,15,13⟩,⟨15,17,15,21⟩,⟨15,11,15,21⟩,⟨16,12,16,16⟩,⟨16,12,16,23⟩,⟨16,27,16,28⟩,⟨16,12,16,28⟩,⟨15,8,16,28⟩,⟨17,15,17,17⟩,⟨17,8,17,17⟩]
noncomputable def acV:List Pos:=[⟨25,15,25,17⟩,⟨25,21,25,25⟩,⟨25,15,25,36⟩,⟨26,16,26,24⟩,⟨25,12,26,24⟩,⟨35,19,35,21⟩,⟨35,25,35,29⟩,⟨35,19,35,29⟩,⟨36,20,36,22⟩,⟨36,25,36,29⟩,⟨36,25,36,40⟩,⟨36,25,36,42⟩,⟨36,20,36,42⟩,⟨35,16,36,42⟩,⟨25,15,25,17⟩,⟨37,16,37,21⟩,⟨37,25,37,27⟩,⟨37,16,37,27⟩,⟨25,21,25,36⟩,⟨27,15,27,17⟩,⟨27,21,27,24⟩,⟨27,15,27,24⟩,⟨28,20,28,22⟩,⟨28,26,28,31⟩,⟨28,16,33,31⟩,⟨38,20,38,22⟩,⟨38,26,38,31⟩,⟨38,16,43,31⟩,⟨27,12,43,31⟩]
noncomputable def acX:List Pos:=[⟨29,23,29,25⟩,⟨29,29,29,32⟩,⟨29,23,29,32⟩,⟨30,31,30,36⟩,⟨30,24,30,36⟩,⟨31,25,31,27⟩,⟨31,31,31,35⟩,⟨31,25,31,35⟩,⟨32,24,32,26⟩,⟨32,29,32,33⟩,⟨32,29,32,44⟩,⟨32,29,32,46⟩,⟨32,24,32,46⟩,⟨31,20,32,46⟩,⟨29,20,32,46⟩,⟨33,20,33,25⟩,⟨33,29,33,31⟩,⟨33,20,33,31⟩,⟨29,23,29,25⟩]
noncomputable def acW:List Pos:=[⟨39,23,39,25⟩,⟨39,29,39,33⟩,⟨39,23,39,44⟩,⟨40,31,40,36⟩,⟨40,24,40,36⟩,⟨41,25,41,27⟩,⟨41,31,41,35⟩,⟨41,25,41,35⟩,⟨42,24,42,26⟩,⟨42,29,42,33⟩,⟨42,29,42,44⟩,⟨42,29,42,46⟩,⟨42,24,42,46⟩,⟨41,20,42,46⟩,⟨39,20,42,46⟩,⟨43,20,43,25⟩,⟨43,29,43,31⟩,⟨43,20,43,31⟩,⟨39,29,39,44⟩]
noncomputable def acZ:List Pos:=[⟨20,11,20,15⟩,⟨20,11,20,24⟩,⟨21,19,21,23⟩,⟨21,19,21,32⟩,⟨21,19,21,36⟩,⟨21,37,21,38⟩,⟨21,19,21,39⟩,⟨21,12,21,39⟩,⟨20,8,21,39⟩,⟨22,8,22,13⟩,⟨22,16,22,18⟩,⟨22,8,22,18⟩,⟨23,8,23,13⟩,⟨23,16,23,20⟩,⟨23,21,23,25⟩,⟨23,21,23,36⟩,⟨23,38,23,40⟩,⟨23,16,23,41⟩,⟨23,8,23,41⟩,⟨24,12,24,14⟩,⟨24,18,24,23⟩,⟨24,8,43,31⟩,⟨44,15,44,20⟩,⟨44,8,44,20⟩]
noncomputable def WD:List Pos:=[⟨8,8,8,12⟩,⟨8,8,8,19⟩,⟨8,22,8,23⟩,⟨8,8,8,23⟩,⟨9,8,9,12⟩,⟨9,8,9,21⟩,⟨9,24,9,26⟩,⟨9,8,9,26⟩,⟨10,8,10,12⟩,⟨10,8,10,23⟩,⟨10,26,10,35⟩,⟨10,8,10,35⟩,⟨11,8,11,12⟩,⟨11,8,11,21⟩,⟨11,24,11,26⟩,⟨11,8,11,26⟩]
noncomputable def aco:List Pos:=[⟨187,4,187,9⟩,⟨187,13,187,14⟩,⟨187,12,187,15⟩,⟨187,4,187,15⟩,⟨192,4,192,10⟩,⟨192,21,192,25⟩,⟨192,4,192,25⟩,⟨193,4,193,10⟩,⟨193,4,193,15⟩,⟨193,18,193,22⟩,⟨193,4,193,22⟩,⟨194,11,194,17⟩,⟨194,4,194,17⟩]
noncomputable def aaF:List Pos:=[⟨190,8,190,13⟩,⟨190,14,190,15⟩,⟨190,8,190,16⟩,⟨190,20,190,24⟩,⟨190,8,190,24⟩,⟨191,15,191,19⟩,⟨191,20,191,25⟩,⟨191,26,191,27⟩,⟨191,20,191,28⟩,⟨191,31,191,35⟩,⟨191,20,191,35⟩,⟨191,36,191,41⟩,⟨191,42,191,43⟩,⟨191,36,191,44⟩,⟨191,20,191,44⟩,⟨191,15,191,45⟩,⟨191,8,191,45⟩]
theorem wM (P:f6):noTabs (dA P)=true:=by kernel_rfl
theorem I9: ∀x∈(["len","sum","max","min","abs","int","range","enumerate","sorted","set","iter"]:List Str),x∉startupNames∧x∉looseW fZ nB∧x∉(recsOf fZ).map (·.name)∧x∉(litsOf fZ).map (·.1)∧x∉(clssOf fZ (looseW fZ nB)).map (·.name):=by decide+kernel
theorem TZ: ∀d∈uc,Dh d=true:=by decide+kernel
theorem Yq:PyProof.Rows.valOf fZ (ab "ELLIPSIS_MARKER")=some (PyData.str (ab "...")):=by kernel_rfl
section
variable (P:f6)
theorem QF:u0 (dA P) 42 (fdOf (dA P) 42) [da]:={}
theorem QH:u0 (dA P) 49 (fdOf (dA P) 49) [da]:={}
theorem QE:u0 (dA P) 35 (fdOf (dA P) 35) [da,oV]:={}
theorem QG:u0 (dA P) 126 (fdOf (dA P) 126) [fw]:={}
theorem QJ:l2 (fdOf (dA P) 42) where
 ep:=⟨pH QK,by kernel_rfl,by kernel_rfl⟩
 aC:=by kernel_rfl
 ah:=by kernel_rfl
theorem acT:yc (fdOf (dA P) 49) where
 ep:=⟨pH acV,pH acX,pH acW,pH acZ,by kernel_rfl,by kernel_rfl,by kernel_rfl,by kernel_rfl⟩
 N:=⟨by kernel_rfl,by kernel_rfl,by kernel_rfl,by kernel_rfl,by kernel_rfl⟩
theorem WC:x6 (fdOf (dA P) 35) where
 ep:=⟨pH WD,by kernel_rfl⟩
 self:=by kernel_rfl
 c9:=by kernel_rfl
end
noncomputable abbrev yB:List (Str×I):=[(ab "ONE_THIRD",.ao 4599676419421066581),(ab "ONE_SIXTH",.ao 4595172819793696085),(ab "TWO_THIRD",.ao 4604180019048437077),(ab "ELLIPSIS_MARKER",.str (ab "..."))]
theorem EB {c7:Str→Option af} {h:aR} {x:Str} {b:UInt64} (V:xP mA c7 h) (m:(x,WData.float b)∈mA) (aa:OH b=false): ∃v,c7 x=some v∧ ∀B aA h,Is B aA h (.ao b) v:=by
 obtain ⟨v,aQ,r⟩:=V.val _ m
 obtain ⟨aZ,t,rfl,ah,_⟩:=readsW_float_inv r
 refine ⟨_,aQ,fun B aA h=> ?_⟩
 have:aZ=b:=by
  unfold canon at ah
  split at ah
  ·rw[←ah] at aa;exact absurd aa (by decide+kernel)
  ·exact ah
 subst this
 exact .ao _ _
theorem Ry {c7 dt:Str→Option af} {nD:ExcName→Option af} {h:aR} (V:xP mA c7 h) (f':Top fZ (looseW fZ nB) nD c7 dt h): ∀q∈yB,∃v,c7 q.1=some v∧ ∀B aA h,Is B aA h q.2 v:=
 sv.mpr ⟨EB V (.head _) (by kernel_rfl),sv.mpr ⟨EB V (.tail _ (.head _)) (by kernel_rfl),sv.mpr ⟨EB V (.tail _ (.tail _ (.head _))) (by kernel_rfl),sv.mpr ⟨(f'.const _ _ Yq).imp fun v q=>⟨q.1,fun B aA h=>by
  cases q.2 h
  exact .str _ _⟩,fun _ z=>nomatch z⟩⟩⟩⟩
noncomputable def xt (w:pn) (J:aR) (c7 dt:Str→Option af) {nD:ExcName→Option af} (cB:TabsAt o4 J) (fN:(dA w.params).In J) (f':Top fZ (looseW fZ nB) nD c7 dt J) (V:xP mA c7 J):bE where
 prog:=uP.row.prog
 w:=w
 bW:=ghostOf J o4
 K:=dA w.params
 c7:=c7
 dt:=dt
 dO:=some 121
 fN:=BM cB fN (wM w.params)
 g:=ghost_ns cB f'.g
 b:=ghost_ns cB f'.b
 nolimit:=(ghost_top cB f').nolimit
 builtins:=f'.builtins
 dx:=⟨true,uc,yB⟩
 fns:=fun d hd=>by
  obtain ⟨a,o,pm,code,doc,Dt,U,av,a0⟩:=f'.fn d (aaT▸hd)
  refine ⟨TZ d hd,a,o,pm,code,doc,Dt,ghost_get cB U (fun q=>nomatch (congrArg pk q).symm.trans av),av,?_⟩
  obtain ⟨c,lI,vs,t,e,g1,g2,g3⟩:=a0
  refine ⟨c,lI,vs,t,e,ghost_get cB g1 (fun q=> ?_),g2,g3⟩
  cases (congrArg pk q).symm.trans g2
  exact nomatch g3
 consts:=fun x p ag=>Ry V f' (x,p) (mem_of_lookup ag)
 yr:=fun x ae=>(I9 x (aeI.mp ae)).elim fun a q=>q.elim fun b q=>q.elim fun c q=>q.elim fun d e=>f'.free x a b c d e
 qT:=wJ w.params 59 (ghostOf J o4)
 qY:=Bb Eo
 kl:=fun l k dI=>Yk l k dI
 lQ:=fun l k dI=>acE l k dI
section
variable (P:f6)
theorem bt:findIn (dA P) (.ref 59) "__getattribute__"=some (some (.builtin "object.__getattribute__")):=by kernel_rfl
theorem bB:findIn (dA P) (.ref 59) "__getattr__"=some none:=by kernel_rfl
theorem c4:findIn (dA P) (.ref 59) "__setattr__"=some (some (.builtin "object.__setattr__")):=by kernel_rfl
theorem d6:plainOver (dA P) 59=true:=by kernel_rfl
theorem wy:(clsIn (dA P) 59).any (·.hasDict)=true:=by kernel_rfl
theorem iZ:findIn (dA P) (.ref 59) (ab "_read_char")=some (some (.ref 42)):=by kernel_rfl
theorem Xc:findIn (dA P) (.ref 59) (ab "get_token")=some (some (.ref 49)):=by kernel_rfl
theorem Xd:typeIn (dA P) (.ref 42)=some (.type "function"):=by kernel_rfl
theorem Xe:typeIn (dA P) (.ref 49)=some (.type "function"):=by kernel_rfl
theorem W7:specialIn (dA P) (.ref 42) "__get__"=some (some (.builtin "function.__get__")):=by kernel_rfl
theorem W8:takesIn (dA P) (.ref 42)=some false:=by kernel_rfl
theorem W9:makesIn (dA P) 59=true:=by kernel_rfl
theorem W':keepIn (dA P) (.ref 59)=true:=by kernel_rfl
theorem Xa:findIn (dA P) (.ref 59) "__init__"=some (some (.ref 35)):=by kernel_rfl
theorem Xb:typeIn (dA P) (.ref 35)=some (.type "function"):=by kernel_rfl
theorem YX:findIn (dA P) (.ref 59) (ab "lineno")=some none:=by kernel_rfl
theorem YY:findIn (dA P) (.ref 59) (ab "instream")=some none:=by kernel_rfl
theorem Y1:findIn (dA P) (.ref 59) (ab "whitespace")=some none:=by kernel_rfl
theorem Y2:findIn (dA P) (.ref 59) (ab "pushback")=some none:=by kernel_rfl
theorem abm:takerIn (dA P) 59 (ab "lineno")=some none:=by kernel_rfl
theorem abn:takerIn (dA P) 59 (ab "instream")=some none:=by kernel_rfl
theorem abo:takerIn (dA P) 59 (ab "whitespace")=some none:=by kernel_rfl
theorem abp:takerIn (dA P) 59 (ab "pushback")=some none:=by kernel_rfl
theorem acm:x9 Eo (fdOf (dA P) 126) where
 ep:=⟨(pH aco,(⟨[],[⟨mE,none,⟨189,13,189,17⟩⟩],none,[],[],none,[]⟩:pg),
  readBody (pH aaF),
  {kind:= .function,names:=[(mE,.local),(e8,.free),(fw,.free)],isGenerator:=false,isCoroutine:=false,more:=[]},
  (⟨[],[],none,[],[],none,[]⟩:pg),{kind:= .function,names:=[],isGenerator:=false,isCoroutine:=false,more:=[]}),by kernel_rfl,
  ⟨⟨_,rfl⟩,rfl,rfl,rfl,rfl,rfl,rfl,rfl,fun _=>rfl,rfl,rfl,rfl,rfl⟩,fun _=>rfl,rfl⟩
 names:=by kernel_rfl
 code:=by kernel_rfl
 fX:=by kernel_rfl
 hO:=by kernel_rfl
end
noncomputable def E1 (n:Str):Data→Option af
 | .dict es _=>nsFind es n
 |_=>none
theorem Lz {K:Frag} {h:aR} {N:au} {c7:Str→Option af} {n:Str} {v:af} (X:K.In h) (G:h.Ns N c7) (e:(K.lookup N).map (fun o=>E1 n o.data)=some (some v)):c7 n=some v:=by
 obtain ⟨o,es,df,aV,hd,aj,hf⟩:=G
 obtain ⟨cE,ai,e⟩:=o9.mp e
 cases (X _ _ ai).symm.trans aV
 rw[hd] at e
 exact (hf n).symm.trans e
section
variable {w:pn} {J:aR} {c7 dt:Str→Option af} {nD:ExcName→Option af} (cB:TabsAt o4 J) (fN:(dA w.params).In J) (f':Top fZ (looseW fZ nB) nD c7 dt J) (V:xP mA c7 J)
theorem UI (P:f6):((dA P).lookup mainGlobals).map (fun o=>E1 (ab "_netrclex") o.data)=some (some (.ref 59)):=by kernel_rfl
theorem UR (P:f6):((dA P).lookup mainGlobals).map (fun o=>E1 (ab "_law_stream") o.data)=some (some (.ref 126)):=by kernel_rfl
theorem XN:dX (xt w J c7 dt cB fN f' V) Eo where
 vR:=bt _
 zp:=bB _
 D0:=c4 _
 ag:=d6 _
 cL:=wy _
 mi:=iZ _
 cB:=Xc _
 FE:=Xd _
 M':=Xe _
 ov:=W7 _
 qc:=W8 _
 aB:=by
  obtain ⟨a,b,c,d,e⟩:=I9 (ab "iter") (by decide+kernel)
  exact f'.free _ a b c d e
 hI:=Lz fN f'.g (UI _)
 tl:=Lz fN f'.g (UR _)
 gJ:=W9 _
 JU:=W' _
 fj:=Xa _
 M9:=Xb _
 dH:=YX _
 i1:=YY _
 tU:=Y1 _
 qh:=Y2 _
 s1:=abm _
 s2:=abn _
 s3:=abo _
 s4:=abp _
 tab:=rfl
 qz:=rfl
 DH:=(ghost_code cB).1
 JD:=by
  obtain ⟨bm,o,Dt,U,av,a0,bp,bQ⟩:=f'.bmain
  have e: ∀{b cE},J.get? b=some cE→cE.cls= .type "module"→(ghostOf J o4).get? b=some cE:=fun {b cE} e c=>ghost_get cB e (fun q=>nomatch (congrArg Obj.cls q).symm.trans c)
  have aS:=(cB (125,121) (by simp)).2
  refine ⟨bm,o,Dt,U,?_,?_,e av a0,a0,bp,bQ⟩
  ·rintro rfl
   obtain ⟨cE,es,df,J6,jh,_⟩:=f'.g
   rw[av] at J6;cases J6;rw[bQ] at jh;cases jh
  ·rintro rfl
   rw[av] at aS;cases aS;cases a0
 eJ:=by decide
 cO:=rfl
theorem Rz:pv (xt w J c7 dt cB fN f' V):=
 RA (XN cB fN f' V) (yU (BM cB fN (wM w.params)) (QF _)) (QJ _) (yU (BM cB fN (wM w.params)) (QH _)) (acT _) (yU (BM cB fN (wM w.params)) (QE _)) (WC _) (yU (BM cB fN (wM w.params)) (QG _)) (acm _)
theorem adV {s1:aw} (cB:TabsAt o4 s1.heap) (fN:(dA w.params).In s1.heap) (f':Top fZ (looseW fZ nB) nD c7 dt s1.heap) (V:xP mA c7 s1.heap):aL (xt w s1.heap c7 dt cB fN f' V) ⟨fun b=>b=121,[]⟩ [] s1 where
 aU:=e3 _
 base:=fun b o e=>⟨of_hideAll _ e,fun z=>by
  subst z
  have U:(ghostOf s1.heap o4).get? 121=none:=hideAll_none _ (by simp)
  exact absurd (U.symm.trans e) (by nofun)⟩
 ex:=fun b z=>by
  have z:b=121:=z
  subst z
  exact ⟨_,(cB (125,121) (by simp)).2⟩
 dc:=fun b z=>by
  rcases z with z|⟨a,m,_⟩
  ·cases z;rfl
  ·exact nomatch m
 tab:=⟨[],(cB (125,121) (by simp)).2,fun _ h=>nomatch h⟩
 len:=rfl
 cO:=fun i a x e=>by simp at e
 fg:=fun i j a gr _ e=>by simp at e
 eT:=fun a h=>nomatch h
end
noncomputable abbrev Ep:iN:=aq 22
theorem Xl:Ep∈uc:=g0.mpr ⟨22,by decide,rfl⟩
theorem Xm:Ep.name=ab "law":=by decide+kernel
noncomputable abbrev Iu:a':=⟨⟨true,uc,yB⟩,8,default⟩
noncomputable abbrev Cf:Prop:= ∀Mx:List Int,Mx.length≤63→ ∃n w',cn (n+1) Iu Ep [.list (Mx.map .int)] []=some (.bool true,w')
theorem adW {P:f6} {h h':aR} {B:au→Prop} {aA:List c3}: ∀{dB:List Int} {vs:List af},WellAll P h vs (ofPys (dB.map .int))→IsL B aA h' (dB.map .int) vs:=by
 intro bq
 induction bq with
 |nil=>
  intro _ x
  cases x;exact .nil
 |cons i dB ay=>
  intro _ x
  cases x with
  |cons a r=>cases a;exact .cons (.int _ _) (ay r)
theorem aar {args:List WData}:uP.row.claim.post args (WData.bool true) args=true:=by first|kernel_rfl|rfl|(simp;done)|decide
theorem TC (H:Cf) {w:pn} {s1:aw} {c7 dt:Str→Option af} {nD:ExcName→Option af} {cl:Str→Option au} {De ad:au} {dB:List Int} {args:List WData}
  (cB:TabsAt o4 s1.heap) (fN:(dA w.params).In s1.heap) (f':Top fZ (looseW fZ nB) nD c7 dt s1.heap) (V:xP mA c7 s1.heap) (bM:s1.gens= #[])
  (rA:c7 (ab "law")=some (.ref De)) (hw:Well w.params s1.heap (.ref ad) (ofPy (.list (dB.map .int)))) (hlen:dB.length≤63):
  bc (bo uP.row.prog w) callerA (call (.ref De) [.ref ad]) (fun v s'=>GoodWG uP.row.claim cl nD args s1 (.ok (.ret v)) s') (fun e s'=>GoodWG uP.row.claim cl nD args s1 (.error e) s') s1:=by
 obtain ⟨n,w',ru⟩:=H dB hlen
 have d:=adV cB fN f' V
 have ha:=(Ft (T:=xt w s1.heap c7 dt cB fN f' V) (fun _=>Rz cB fN f' V) n).2
 have tp: ∃vs,s1.heap.get? ad=some {cls:= .type "list",data:= .seq (mU vs)}∧WellAll w.params s1.heap vs (ofPys (dB.map .int)):=by
  generalize aG:ofPy (.list (dB.map .int))=q at hw
  cases hw<;>first|(cases aG;done)|skip
  rename_i U J
  injection aG with aG
  rw[←aG] at U
  exact ⟨_,J,U⟩
 obtain ⟨vs,DB,DD⟩:=tp
 have D2:s1.heap.get? 121=some (tabObj #[]):=(cB (125,121) (by simp)).2
 have UZ:ad≠121:=fun z=>by rw[z,D2] at DB;cases DB
 have aW:IsL (fun b=>b=121) [] s1.heap [.list (dB.map .int)] [.ref ad]:= .cons (.list UZ ⟨_,DB,rfl,_,rfl⟩ (adW DD)) .nil
 refine (H5 (T:=xt w s1.heap c7 dt cB fN f' V) (cx:=Iu) ha ru Xl rfl d ⟨?_,?_,rfl⟩ aW (by rw[Xm];exact rA)).vB _ _ fun g' s' v st r=> ?_
 ·show callerA.depth+(20*8+10)<recursionLimit
  decide+kernel
 ·show callerA.units+10*(20*8+10)<cLine
  decide+kernel
 ·obtain ⟨d1,D5⟩:=r
  cases D5
  have ZK: ∀b,b≠121→ ¬ek (some 121) ([]:List c3) b:=fun b h z=>by
   rcases z with z|⟨a,m,_⟩
   ·cases z;exact h rfl
   ·exact nomatch m
  have keep: ∀b o,b≠121→s1.heap.get? b=some o→s'.heap.get? b=some o:=fun b o aa e=>st.keep b o e (ZK b aa)
  obtain ⟨l,ai,_⟩:=d1.tab
  refine ⟨.inl ⟨_,.bool true,[],rfl,fun _=>rfl,.bool true,aar,fun _=>⟨.nil,fun _ h=>nomatch h⟩⟩,⟨fun b o e=> ?_,fun b o e=> ?_⟩,st.os,.of_eq (st.gens.trans bM)⟩
  ·by_cases aa:b=121
   ·subst aa
    rw[D2] at e
    cases e
    refine .inr (.inl ⟨(((cB (125,121) (by simp)).1).tab D2).isCodeTable,rfl,#[],_,rfl,by rw[Array.empty_append];exact ai⟩)
   ·exact .inl (keep b o aa e)
  ·by_cases aa:b=121
   ·subst aa;exact ⟨_,ai⟩
   ·exact ⟨o,keep b o aa e⟩
theorem Xk (H:Cf):uP.Holds:=U5 (by
 intro w s0 s1 c7 dt G Y De o pm cd doc afV agi aV hd lB ir rA bM args vals as VN Vl rC lE zv
 have fN:=km_in_of Y
 have X:=(Ground.X G).1
 have V:=(Ground.X G).2
 refine Ground.open G ?_
 intro T B D TE TW
 have UT:TabsAt o4 s1.heap:=sv.mpr ⟨⟨codeHd_of_K (c:=125) (P:=121) fN (by kernel_rfl),km_tabs_of Y 121 eZ⟩,fun _ h=>nomatch h⟩
 wrow_args VN Vl rC lE zv
 rename_i hw agc fj agd af9 nu
 exact TC H UT fN T V bM rA hw (by lia))
end Mine
end
section
open PySem PySem.W PyProof.Rows PySem.Calls PySem.Spec PySem.SeqAt
namespace Mine
section
variable {cx:a'} {σ σ' σ1:ar} {w w1:W} {tgt elt:Expr} {ifs:List Expr} {body:List bY} {items:List I}
theorem Dn {n c k:Nat}:n+c+k+1=(n+k+1)+c:=by simp+arith only
theorem Ip {f:I→I} {b:I→Bool} (c:Nat) (n:Nat): ∀(items:List I),(∀p∈items,∃σ',gc cx.sc tgt p σ=some σ'∧ ∀n,fY (n+c) cx .And ifs σ' w=some (b p,w)∧(b p=true→ev (n+c) cx elt σ' w=some (f p,w)))→
  gf (n+c+items.length+1) cx elt tgt ifs items σ w=some ((items.filter b).map f,w):=by
 intro items
 induction items with
 |nil=>exact fun h=>rfl
 |cons p items ay=>
  exact fun h=>b5 (h p eZ) fun σ' J U=>by
   have ay:=ay fun q aG=>h q (e0 _ aG)
   have av:=U (n+items.length+1)
   rw[←Dn] at av
   refine eB J (eB av.1 ?_)
   cases aa:b p with
   |true=>exact eB (av.2 aa) (eB ay (by rw[List.filter_cons_of_pos aa];rfl))
   |false=>exact ay.trans (by rw[List.filter_cons_of_neg (by rw[aa];exact hB)])
theorem Rk {f:I→I} (c:Nat) (h: ∀p∈items,∃σ',gc cx.sc tgt p σ=some σ'∧ ∀n,ev (n+(c+1)) cx elt σ' w=some (f p,w)) (n:Nat):
  gf (n+(c+1)+items.length+1) cx elt tgt [] items σ w=some (items.map f,w):=by
 have:=Ip (b:=fun _=>true) (f:=f) (ifs:=[]) (c+1) n items fun p ag=>(h p ag).elim fun σ' q=>⟨σ',q.1,fun n=>⟨rfl,fun _=>q.2 n⟩⟩
 rw[ae6.mpr (fun _ _=>rfl)] at this
 exact this
theorem sR {j i:Nat}:j+(i+1)=j+1+i:=by exact fC (N6 _ _)
theorem T2 {Inv:Nat→ar→W→Prop} (c:Nat): ∀(items:List I) (j:Nat) (σ:ar) (w:W),(∀i p σ w,items[i]?=some p→Inv (j+i) σ w→ ∃σ' fl σ1 w1,gc cx.sc tgt p σ=some σ'∧(fl= .next∨fl= .cont)∧(∀n,b1 (n+c) cx body σ' w=some (fl,σ1,w1))∧Inv (j+i+1) σ1 w1)→Inv j σ w→
  ∃σ1 w1,(∀n,forL (n+c+items.length+1) cx tgt body items σ w=some (.next,σ1,w1))∧Inv (j+items.length) σ1 w1:=by
 intro items
 induction items with
 |nil=>exact fun j σ w h h0=>⟨σ,w,fun n=>rfl,h0⟩
 |cons p items ay=>
  exact fun j σ w h h0=>R1 (h 0 p σ w rfl h0) fun σ' fl σ1 w1 J U av a0=>jc (ay (j+1) σ1 w1 (fun i q σ w aG aB=>sR (j:=j) (i:=i)▸h (i+1) q σ w aG (sR.symm▸aB)) a0) fun x2 h9 bp bQ=>
  ⟨x2,h9,fun n=>eB J (eB (Dn▸av (n+items.length+1)) ((by rcases U with e|e<;>(subst e;exact bp n)))),sR.symm▸bQ⟩
theorem I8 {Inv:Nat→ar→W→Prop} {Out:ej×ar×W→Prop} (c:Nat): ∀(items:List I) (j:Nat) (σ:ar) (w:W),
  (∀i p σ w,items[i]?=some p→Inv (j+i) σ w→ ∃σ' r,gc cx.sc tgt p σ=some σ'∧(∀n,b1 (n+c) cx body σ' w=some r)∧
   match r.1 with
   | .next=>Inv (j+i+1) r.2.1 r.2.2
   | .cont=>Inv (j+i+1) r.2.1 r.2.2
   | .brk=>Out (.next,r.2)
   | .ret p=>Out r)→(∀σ w,Inv (j+items.length) σ w→Out (.next,σ,w))→Inv j σ w→
  ∃r,(∀n,forL (n+c+items.length+1) cx tgt body items σ w=some r)∧Out r:=by
 intro items
 induction items with
 |nil=>exact fun j σ w h he h0=>⟨(.next,σ,w),fun n=>rfl,he σ w h0⟩
 |cons p items ay=>
  exact fun j σ w h he h0=>e5 (h 0 p σ w rfl h0) fun σ' r J av a0=>by
   have go:=fun σ1 w1=>ay (j+1) σ1 w1 (fun i q σ w aG aB=>sR (j:=j) (i:=i)▸h (i+1) q σ w aG (sR.symm▸aB)) (fun σ w aB=>he σ w (sR.symm▸aB))
   have st: ∀{x n},(if Bk r.1 then forL (n+c+items.length+1) cx tgt body items r.2.1 r.2.2 else some (zV r.1,r.2))=some x→forL (n+c+(items.length+1)+1) cx tgt body (p::items) σ w=some x:=fun {x n} k=>eB J (eB (Dn▸av (n+items.length+1)) k)
   clear h av he
   obtain ⟨fl,σ1,w1⟩:=r
   cases fl with
   |next=>exact b5 (go σ1 w1 a0) fun r a7 aV=>⟨r,fun n=>st (a7 n),aV⟩
   |cont=>exact b5 (go σ1 w1 a0) fun r a7 aV=>⟨r,fun n=>st (a7 n),aV⟩
   |brk=>exact ⟨(.next,σ1,w1),fun n=>st rfl,a0⟩
   |ret q=>exact ⟨(.ret q,σ1,w1),fun n=>st rfl,a0⟩
theorem Tx {st:bY} {r:List bY} {n:Nat} (h:ex n cx st σ w=some (.next,σ1,w1)):b1 (n+1) cx (st::r) σ w=b1 n cx r σ1 w1:=eB h rfl
theorem TA {st:bY} {r:List bY} {n:Nat} {p:I} (h:ex n cx st σ w=some (.ret p,σ1,w1)):b1 (n+1) cx (st::r) σ w=some (.ret p,σ1,w1):=eB h rfl
end
section
variable {cx:a'} {σ:ar} {w:W} {n:Nat}
theorem yK:b1 (n+1) cx [] σ w=some (.next,σ,w):=rfl
theorem Rm {elt tgt:Expr} {ifs:List Expr}:gf (n+1) cx elt tgt ifs [] σ w=some ([],w):=rfl
theorem Rl {elt tgt:Expr} {ifs:List Expr} {p:I} {items:List I}:gf (n+1) cx elt tgt ifs (p::items) σ w=(gc cx.sc tgt p σ).bind fun σ'=>(fY n cx .And ifs σ' w).bind fun b=>if b.1 then (ev n cx elt σ' b.2).bind fun r=>(gf n cx elt tgt ifs items σ r.2).bind fun l=>some (r.1::l.1,l.2) else gf n cx elt tgt ifs items σ b.2:=rfl
theorem I7 (tgt:Expr) (body:List bY) (p:I) (items:List I):forL (n+1) cx tgt body (p::items) σ w=(gc cx.sc tgt p σ).bind fun σ'=>(b1 n cx body σ' w).bind fun x=>if Bk x.1 then forL n cx tgt body items x.2.1 x.2.2 else some (zV x.1,x.2):=rfl
end
end Mine
end
section
open PySem PySem.W PyProof.Rows PySem.Calls PySem.Spec
namespace Mine
noncomputable abbrev S (x:String):Str:=ab x
noncomputable abbrev bw:uZ:=⟨true,uc,yB⟩
theorem sZ {n d:Nat} {dx:uZ} {sc:Scope} {r:iN} {vs:List I} {w:W} (h:vs.length=(jN r).length):cn (n+1) ⟨dx,d+1,sc⟩ r vs w=(b1 n ⟨dx,d,r.scope⟩ r.body ((jN r).zip (vs.map .val)) w).bind fun x=>match x.1 with
  | .ret p=>some (p,x.2.2)
  | .next=>some (.none,x.2.2)
  |_=>none:=by
 rw[cn,if_pos (by rw[h];exact ReflBEq.rfl)]
 dsimp only
 cases b1 n ⟨dx,d,r.scope⟩ r.body ((jN r).zip (vs.map .val)) w with
 |none=>rfl
 |some x=>obtain ⟨f,s,w'⟩:=x;cases f<;>rfl
noncomputable def ak (n:Nat):I:= .int n
noncomputable def bJ (l:List Nat):I:= .list (l.map ak)
noncomputable def cp (l:List (List Nat)):I:= .list (l.map bJ)
end Mine
end
section
namespace Mine
noncomputable def cnt (f:Nat→Nat):Nat→Nat→Nat
 |0,_=>0
 |n+1,p=>cnt f n p+if f n=p then 1 else 0
noncomputable def b9 (g:Nat→Nat):Nat→Nat
 |0=>0
 |n+1=>b9 g n+g n
noncomputable def bump (u:Nat→Nat) (p:Nat):Nat→Nat:=fun q=>if q=p then u q+1 else u q
noncomputable def arr (go:Nat→Nat→Nat) (K:Nat) (u:Nat→Nat) (p:Nat):Nat:=b9 (fun q=>cnt (go q) (u q) p) K
theorem vk {f:Nat→Nat} {p:Nat}: ∀{n m:Nat},n≤m→cnt f n p≤cnt f m p:=by
 intro n m
 induction m with
 |zero=>intro h;obtain rfl:=su.mp h;exact a3 _
 |succ m ay=>
  intro h
  rcases k' h with h|h
  ·have:=ay (hV h)
   rw[cnt];exact ph this
  ·rw[h];exact a3 _
theorem qy {f g:Nat→Nat}: ∀{K:Nat},(∀q,q<K→f q≤g q)→b9 f K≤b9 g K:=by
 intro K
 induction K with
 |zero=>intro _;exact a3 _
 |succ K ay=>
  intro h
  have:=ay fun q aG=>h q (mV aG)
  have:=h K (gF _)
  rw[b9,b9];exact u4 (by assumption) this
theorem lR {f g:Nat→Nat} {K:Nat} (h: ∀q,q<K→f q=g q):b9 f K=b9 g K:=
 f3 (qy fun q aG=>b0 (h q aG)) (qy fun q aG=>b0 (h q aG).symm)
theorem sd {f g:Nat→Nat}: ∀{K:Nat},b9 (fun q=>f q+g q) K=b9 f K+b9 g K:=by
 intro bq
 induction bq with
 |zero=>
  exact rfl
 |succ K ay=>
  rw[b9,b9,b9,ay];exact Nat.add_add_add_comm _ _ _ _
theorem se: ∀{K:Nat},b9 (fun _=>0) K=0
 |0=>rfl
 |K+1=>by rw[b9,se]
theorem o6 {f:Nat→Nat} {p:Nat}: ∀{K:Nat},p<K→b9 (fun q=>if q=p then f q else 0) K=f p:=by
 intro bq
 induction bq with
 |zero=>
  intro h
  exact f3 (fQ (bL h)) (fQ (bL h))
 |succ K ay=>
  intro h
  rw[b9]
  by_cases ag:K=p
  ·subst ag
   rw[if_pos rfl,lR (g:=fun _=>0) fun q aG=>if_neg (by exact jX aG),se];exact kz _ _
  ·rw[if_neg ag,ay (by lia),OI]
theorem ac8 {f g:Nat→Nat} {p K:Nat} (h: ∀q,q<K→f q≤g q) (ag:p<K) (ai:f p<g p):b9 f K<b9 g K:=by
 have:b9 (fun q=>f q+if q=p then 1 else 0) K≤b9 g K:=qy fun q aG=>by
  by_cases e:q=p
  ·subst e;rw[if_pos rfl];exact ai
  ·rw[if_neg e];exact h q aG
 rw[sd,o6 ag] at this
 exact Gg this
theorem adb {f:Nat→Nat→Nat} {K:Nat}: ∀{L:Nat},b9 (fun p=>b9 (fun q=>f q p) K) L=b9 (fun q=>b9 (fun p=>f q p) L) K:=by
 intro L
 induction L with
 |zero=>exact (se (K:=K)).symm
 |succ L ay=>
  rw[b9,ay,←sd]
  exact lR fun q aG=>rfl
theorem ac7 {f:Nat→Nat} {K:Nat}: ∀{n:Nat},(∀j,j<n→f j<K)→b9 (fun p=>cnt f n p) K=n:=by
 intro bq
 induction bq with
 |zero=>
  intro _
  exact se
 |succ n ay=>
  intro h
  have e:b9 (fun p=>cnt f (n+1) p) K=b9 (fun p=>cnt f n p+if f n=p then 1 else 0) K:=rfl
  rw[e,sd,ay fun j aP=>h j (mV aP)]
  have:b9 (fun p=>if f n=p then 1 else 0) K=b9 (fun q=>if q=f n then (fun _=>1) q else 0) K:=lR fun q aG=>by
   by_cases e:f n=q
   ·rw[if_pos e,if_pos e.symm]
   ·rw[if_neg e,if_neg fun z=>e z.symm]
  rw[this,o6 (h n (gF _))]
section
variable {go:Nat→Nat→Nat} {K c:Nat}
theorem HD {u v:Nat→Nat} {p:Nat} (h: ∀q,q<K→u q≤v q):arr go K u p≤arr go K v p:=qy fun q aG=>vk (h q aG)
theorem sT {u:Nat→Nat} {p q:Nat} (aG:q<K):arr go K (bump u q) p=arr go K u p+if go q (u q)=p then 1 else 0:=by
 have:arr go K (bump u q) p=b9 (fun r=>cnt (go r) (u r) p+if r=q then (fun r=>if go r (u r)=p then 1 else 0) r else 0) K:=lR fun r a7=>by
  unfold bump
  by_cases e:r=q
  ·rw[if_pos e,if_pos e];rfl
  ·rw[if_neg e,if_neg e];rfl
 rw[this,sd,o6 aG]
 rfl
structure gR (go:Nat→Nat→Nat) (K c:Nat):Prop where
 pos:0<K
 one:0<c
 range: ∀q j,q<K→j<c→go q j<K
 zL: ∀p,p<K→b9 (fun q=>cnt (go q) c p) K=c
noncomputable def start (m:Nat):Nat→Nat:=fun q=>if q=0 then m else 0
inductive Reach (go:Nat→Nat→Nat) (K m:Nat):(Nat→Nat)→Prop
 |start:Reach go K m (start m)
 |step {u p}:Reach go K m u→p≠0→p<K→u p<arr go K u p→Reach go K m (bump u p)
theorem Reach.tD {m:Nat} {u:Nat→Nat} (r:Reach go K m u):u 0=m:=by
 induction r with
 |start=>rfl
 |step r J U av ay=>unfold bump;rw[if_neg (eg J)];exact ay
theorem Reach.Er {m:Nat} {u:Nat→Nat} (r:Reach go K m u): ∀p,p≠0→u p≤arr go K u p:=by
 induction r with
 |start=>intro p ag;unfold Mine.start;rw[if_neg ag];exact e3 _
 | @step u q r J U av ay=>
  intro p ag
  rw[sT U]
  unfold bump
  have:=ay p ag
  by_cases e:p=q
  ·rw[if_pos e];subst e;exact ph av
  ·rw[if_neg e];exact ph (ay _ ag)
theorem Reach.least {m:Nat} {u v:Nat→Nat} (r:Reach go K m u) (h0:v 0=m) (aQ: ∀p,p≠0→p<K→arr go K v p≤v p): ∀p,p<K→u p≤v p:=by
 induction r with
 |start=>
  intro p ag
  unfold Mine.start
  split
  ·rename_i e;rw[e,h0];exact a3 _
  ·exact e3 _
 | @step u q r J U av ay=>
  intro p ag
  unfold bump
  by_cases e:p=q
  ·rw[if_pos e];subst e
   have a0:=aQ p J U
   have bp:arr go K u p≤arr go K v p:=HD ay
   exact aH (aI (aI (bL av) a0) bp)
  ·rw[if_neg e];exact ay p ag
theorem Reach.my {m:Nat} {u:Nat→Nat} (E:gR go K c) (r:Reach go K m u) (hm:m≤c): ∀p,p<K→u p≤c:=by
 have:=r.least (v:=fun q=>if q=0 then m else c) rfl fun p ag aj=>by
  rw[if_neg ag]
  have h:=E.zL p aj
  have U:arr go K (fun q=>if q=0 then m else c) p≤b9 (fun q=>cnt (go q) c p) K:=qy fun q aG=>vk (by dsimp only;split<;>(first|exact hm|exact b0 rfl))
  exact le_of_le_of_eq U h
 intro p ag
 have:=this p ag
 split at this<;>(first|exact c5 this hm|exact this)
theorem PI {u:Nat→Nat} (E:gR go K c) (h: ∀p,p<K→u p≤c) {p:Nat} (ag:p<K):arr go K u p≤c:=by
 have:=E.zL p ag
 have U:arr go K u p≤b9 (fun q=>cnt (go q) c p) K:=qy fun q aG=>vk (h q aG)
 exact le_of_le_of_eq U this
noncomputable def pB (go:Nat→Nat→Nat) (K:Nat) (u:Nat→Nat):Prop:= ∀p,p≠0→p<K→arr go K u p≤u p
theorem Reach.unique {m:Nat} {u v:Nat→Nat} (r:Reach go K m u) (s:pB go K u) (dJ:Reach go K m v) (s':pB go K v): ∀p,p<K→u p=v p:=fun p ag=>
 f3 (r.least dJ.tD s' p ag) (dJ.least r.tD s p ag)
theorem Reach.more {m fm:Nat} {u:Nat→Nat} (r:Reach go K m u) (h:m≤fm): ∃v,Reach go K fm v∧v 0=fm∧ ∀p,p≠0→v p=u p:=by
 induction r with
 |start=>exact ⟨_,.start,rfl,fun p ag=>by unfold Mine.start;rw[if_neg ag,if_neg ag]⟩
 | @step u q r J U av ay=>
  obtain ⟨v,oY,aQ,e⟩:=ay
  have hle:arr go K u q≤arr go K v q:=HD fun p ag=>by
   by_cases z:p=0
   ·subst z;rw[aQ,r.tD];exact h
   ·rw[e p z];exact a3 _
  refine ⟨bump v q,.step oY J U (by rw[e q J];exact hA av hle),by unfold bump;rw[if_neg (eg J)];exact aQ,fun p ag=> ?_⟩
  unfold bump
  by_cases z:p=q
  ·rw[if_pos z,if_pos z,e p ag]
  ·rw[if_neg z,if_neg z,e p ag]
theorem PH {m:Nat} {u:Nat→Nat} (E:gR go K c) (r:Reach go K m u) (hm:m≤c) (s:pB go K u):arr go K u 0=m:=by
 have hle:=r.my E hm
 have J:b9 (fun p=>arr go K u p) K=b9 u K:=by
  have:b9 (fun p=>arr go K u p) K=b9 (fun q=>b9 (fun p=>cnt (go q) (u q) p) K) K:=adb
  rw[this]
  exact lR fun q aG=>ac7 fun j aP=>E.range q j aG (hA aP (hle q aG))
 have U:b9 (fun p=>if p=0 then (fun p=>arr go K u p) p else 0) K=arr go K u 0:=o6 E.pos
 have av:b9 (fun p=>if p=0 then u p else 0) K=u 0:=o6 E.pos
 have a0:b9 (fun p=>arr go K u p) K=b9 (fun p=>(if p=0 then (fun p=>arr go K u p) p else 0)+if p=0 then 0 else u p) K:=lR fun p ag=>by
  by_cases z:p=0
  ·rw[if_pos z,if_pos z];rfl
  ·rw[if_neg z,if_neg z,kA];exact f3 (s p z ag) (r.Er p z)
 have bp:b9 u K=b9 (fun p=>(if p=0 then u p else 0)+if p=0 then 0 else u p) K:=lR fun p ag=>by
  by_cases z:p=0
  ·rw[if_pos z,if_pos z];rfl
  ·rw[if_neg z,if_neg z,kA]
 rw[sd] at a0 bp
 have:=r.tD
 exact f3 (aH (aI (aI (aI (aI (aI (b0 J) (eq1 U)) (b0 av)) (eq1 a0)) (b0 bp)) (b0 this))) (aH (aI (aI (aI (aI (aI (eq1 J) (b0 U)) (eq1 av)) (b0 a0)) (eq1 bp)) (eq1 this)))
end
noncomputable def back (go:Nat→Nat→Nat) (c p:Nat):Nat:=if p=0 then 0 else go p (c-1)
noncomputable def trail (go:Nat→Nat→Nat) (c:Nat):Nat→Nat→Nat
 |0,p=>p
 |k+1,p=>back go c (trail go c k p)
theorem adg {go:Nat→Nat→Nat} {c:Nat}: ∀k,trail go c k 0=0:=by
 intro bq
 induction bq with
 |zero=>
  exact rfl
 |succ k ay=>
  rw[trail,ay];rfl
theorem adf {go:Nat→Nat→Nat} {c p:Nat}: ∀k,trail go c (k+1) p=trail go c k (back go c p):=by
 intro bq
 induction bq with
 |zero=>
  exact rfl
 |succ k ay=>
  rw[trail,ay,trail]
theorem adh {go:Nat→Nat→Nat} {c p:Nat}: ∀{k j},k≤j→trail go c k p=0→trail go c j p=0:=by
 intro k bq
 induction bq generalizing k with
 |zero=>
  intro h e
  obtain rfl:=su.mp h;exact e
 |succ j ay=>
  intro h e
  rcases k' h with h|h
  ·rw[trail,ay (hV h) e];rfl
  ·rw[←h];exact e
section
variable {go:Nat→Nat→Nat} {K c:Nat} {u:Nat→Nat}
theorem CA (E:gR go K c) {p:Nat} (ag:p<K):back go c p<K:=by
 unfold back
 split
 ·exact E.pos
 ·exact E.range p _ ag (by have:=E.one;exact BN this)
theorem T8 (E:gR go K c) (r:Reach go K c u) (s:pB go K u): ∀k n,n<K→trail go c k n=0→u n=c:=by
 intro bq
 induction bq with
 |zero=>
  intro n aT e
  have:n=0:=e
  rw[this];exact r.tD
 |succ k ay=>
  intro n aT e
  by_cases z:n=0
  ·rw[z];exact r.tD
  rw[adf] at e
  have ay:=ay _ (CA E aT) e
  have hle:=r.my E (a3 c)
  have J:=hle n aT
  rcases k' J with J|J
  ·exfalso
   have aa:back go c n=go n (c-1):=by unfold back;rw[if_neg z]
   have DG:=CA E aT
   have U:arr go K u (back go c n)<c:=by
    have h:=E.zL _ DG
    have:arr go K u (back go c n)<b9 (fun q=>cnt (go q) c (back go c n)) K:=ac8 (p:=n) (fun q aG=>vk (hle q aG)) aT (by
     have av:cnt (go n) (u n) (back go c n)≤cnt (go n) (c-1) (back go c n):=vk (by exact Nat.le_sub_one_of_lt J)
     have a0:cnt (go n) (c-1+1) (back go c n)=cnt (go n) (c-1) (back go c n)+1:=by rw[cnt,if_pos aa.symm]
     have bp:c-1+1=c:=by have:=E.one;exact x1 this
     rw[bp] at a0
     show cnt (go n) (u n) (back go c n)<cnt (go n) c (back go c n)
     exact aH (aI av (eq1 a0)))
    exact GG this h
   by_cases o8:back go c n=0
   ·rw[o8,PH E r (a3 c) s] at U;exact fQ (bL U)
   ·have:=r.Er _ o8;exact fQ (aI (aI (eq1 ay) (bL U)) this)
  ·exact J
noncomputable def spent (u:Nat→Nat) (c:Nat):Nat→Nat
 |0=>0
 |q+1=>spent u c q+if q≠0∧u q=c then 1 else 0
theorem ab1: ∀q,spent u c q≤q:=by
 intro q
 induction q with
 |zero=>exact a3 _
 |succ q this=>rw[spent];split<;>(first|exact uQ this _|exact ph this)
theorem MR {v:Nat→Nat}: ∀{q:Nat},(∀p,p<q→p≠0→(u p=c↔v p=c))→spent u c q=spent v c q:=by
 intro bq
 induction bq with
 |zero=>
  intro _
  exact rfl
 |succ q ay=>
  intro h
  rw[spent,spent,ay fun p ag=>h p (mV ag)]
  congr 1
  by_cases z:q≠0
  ·have:=h q (gF _) z
   by_cases e:u q=c
   ·rw[if_pos ⟨z,e⟩,if_pos ⟨z,this.mp e⟩]
   ·rw[if_neg fun x=>e x.2,if_neg fun x=>e (this.mpr x.2)]
  ·rw[if_neg fun x=>z x.1,if_neg fun x=>z x.1]
theorem ab2 {v:Nat→Nat} {r:Nat}: ∀{q:Nat},r<q→r≠0→u r≠c→v r=c→(∀p,p<q→p≠0→p≠r→(u p=c↔v p=c))→spent v c q=spent u c q+1:=by
 intro q
 induction q with
 |zero=>intro h _ _ _ _;exact absurd h (GH _)
 |succ q ay=>
  intro h h0 J U av
  rw[spent,spent]
  by_cases e:r=q
  ·subst e
   rw[MR fun p ag a6=>av p (mV ag) a6 (by exact jX ag),if_pos ⟨h0,U⟩,if_neg fun x=>J x.2]
  ·rw[ay (by lia) h0 J U fun p ag=>av p (mV ag)]
   by_cases z:q≠0
   ·have:=av q (gF _) z (eg e)
    by_cases bP:u q=c
    ·rw[if_pos ⟨z,this.mp bP⟩,if_pos ⟨z,bP⟩]
    ·rw[if_neg fun x=>bP (this.mpr x.2),if_neg fun x=>bP x.2]
   ·rw[if_neg fun x=>z x.1,if_neg fun x=>z x.1]
theorem ade (E:gR go K c) {m:Nat} (hm:m≤c) (r:Reach go K m u): ∀p,p≠0→p<K→u p=c→ ∃i,i≤spent u c K∧(trail go c i p=0∨u (trail go c i p)<c):=by
 induction r with
 |start=>intro p ag _ h;unfold Mine.start at h;rw[if_neg ag] at h;have:=E.one;lia
 | @step u q r J U av ay=>
  have hle:=r.my E hm
  have JW:=(Reach.step r J U av).my E hm
  have ve:bump u q q=u q+1:=by unfold bump;rw[if_pos rfl]
  have q8: ∀{p},p≠q→bump u q p=u p:=fun {p} h=>by unfold bump;rw[if_neg h]
  have aG:=JW q U
  rw[ve] at aG
  intro p ag aj tE
  rcases k' aG with aG|aG
  ·
   have iX:p≠q:=fun z=>by rw[z,ve] at tE;exact fQ (aI (eq1 tE) (bL aG))
   rw[q8 iX] at tE
   obtain ⟨i,aB,ae⟩:=ay p ag aj tE
   have aC:spent (bump u q) c K=spent u c K:=(MR fun x ae a6=>by
    by_cases e:x=q
    ·subst e;rw[ve];constructor<;>intro h<;>lia
    ·rw[q8 e]).symm
   refine ⟨i,by rw[aC];exact aB,ae.imp id fun ae=> ?_⟩
   by_cases e:trail go c i p=q
   ·rw[e,ve];exact aG
   ·rw[q8 e];exact ae
  ·
   have aC:spent (bump u q) c K=spent u c K+1:=ab2 U J (by exact jX (by assumption)) (by rw[ve];exact aG) fun x _ _ ae=>by rw[q8 ae]
   have aa:back go c q=go q (u q):=by unfold back;rw[if_neg J];congr 1;exact fC (Nat.eq_sub_of_add_eq aG)
   have JK:back go c q=0∨bump u q (back go c q)<c:=by
    by_cases z:back go c q=0
    ·exact .inl z
    ·right
     have DG:=CA E U
     have a0:=PI (u:=bump u q) E JW DG
     rw[sT U,if_pos aa.symm] at a0
     by_cases e:back go c q=q
     ·rw[e] at a0;lia
     ·rw[q8 e]
      have:=r.Er _ z
      exact ic this a0
   by_cases iX:p=q
   ·subst iX
    exact ⟨1,by exact aH (eq1 aC),JK⟩
   ·rw[q8 iX] at tE
    obtain ⟨i,aB,ae⟩:=ay p ag aj tE
    rcases ae with ae|ae
    ·exact ⟨i,by lia,.inl ae⟩
    ·by_cases e:trail go c i p=q
     ·refine ⟨i+1,by lia,?_⟩
      rw[trail,e];exact JK
     ·exact ⟨i,by lia,.inr (by rw[q8 e];exact ae)⟩
theorem best (E:gR go K c) (r:Reach go K c u) (s:pB go K u) {met:Nat→Prop} (aj: ∀p,met p→p<K) (dp: ∀p,met p→p≠0→met (back go c p)):
  (∀p,met p→u p=c)↔ ∀p,met p→trail go c K p=0:=by
 constructor
 ·intro h p ag
  by_cases z:p=0
  ·subst z;exact adg K
  have hm: ∀i,met (trail go c i p)∨trail go c i p=0:=fun i=>by
   induction i with
   |zero=>exact .inl ag
   |succ i ay=>
    rcases ay with ay|ay
    ·by_cases z:trail go c i p=0
     ·right;rw[trail,z];rfl
     ·left;rw[trail];exact dp _ ay z
    ·right;rw[trail,ay];rfl
  obtain ⟨i,aB,ae⟩:=ade E (a3 c) r p z (aj p ag) (h p ag)
  refine adh (c5 aB (ab1 K)) ?_
  rcases ae with ae|ae
  ·exact ae
  ·rcases hm i with aB|aB
   ·have:=h _ aB;exact f3 (fQ (aI (bL ae) (eq1 this))) (by simp+arith only)
   ·exact aB
 ·intro h p ag
  exact T8 E r s K p (aj p ag) (h p ag)
end
noncomputable abbrev pC:=Nat×(Nat→Nat)
noncomputable def MX (go:Nat→Nat→Nat) (x:pC):pC:=(go x.1 (x.2 x.1),bump x.2 x.1)
noncomputable def mL (go:Nat→Nat→Nat):Nat→pC
 |0=>(0,fun _=>0)
 |i+1=>MX go (mL go i)
noncomputable def pL (c:Nat) (x:pC):Prop:=x.1=0∧x.2 0=c
section
variable {go:Nat→Nat→Nat} {K c:Nat}
structure qZ (go:Nat→Nat→Nat) (K c:Nat) (x:pC):Prop where
 lt:x.1<K
 le:x.2 0≤c
 reach:Reach go K (x.2 0) x.2
 j9: ∀p,p≠0→p<K→arr go K x.2 p=x.2 p+if x.1=p then 1 else 0
theorem PJ: ∀{K:Nat} {p:Nat},arr go K (fun _=>0) p=0:=fun {K p}=>by
 unfold arr
 have:b9 (fun q=>cnt (go q) 0 p) K=b9 (fun _=>0) K:=lR fun q _=>rfl
 rw[this,se]
theorem ad1 (E:gR go K c):qZ go K c (mL go 0) where
 lt:=E.pos
 le:=e3 _
 reach:=by
  have:(fun _=>0:Nat→Nat)=start 0:=by funext q;unfold start;split<;>rfl
  show Reach go K 0 (fun _=>0)
  rw[this];exact .start
 j9 p ag _:=by
  show arr go K (fun _=>0) p=0+if 0=p then 1 else 0
  rw[PJ,if_neg (eg ag)]
theorem F0 (E:gR go K c) {x:pC} (h:qZ go K c x) (aT: ¬pL c x):qZ go K c (MX go x)∧x.2 x.1<c:=by
 obtain ⟨pos,u⟩:=x
 have dd:=h.lt
 have hle:=h.le
 have a7:=h.reach
 have zi:=h.j9
 dsimp only at dd hle a7 zi
 have af3:=a7.my E hle
 by_cases ag:pos=0
 ·subst ag
  have hm:u 0<c:=GA hle fun z=>aT ⟨rfl,z⟩
  obtain ⟨v,oY,aQ,e⟩:=a7.more (nW (u 0))
  have V7:v=bump u 0:=by
   funext q
   unfold bump
   by_cases z:q=0
   ·subst z;rw[if_pos rfl];exact aQ
   ·rw[if_neg z];exact e q z
  subst V7
  refine ⟨{lt:=E.range 0 _ E.pos hm,le:= ?_,reach:= ?_,j9:=fun p ag aj=> ?_},hm⟩
  ·show bump u 0 0≤c
   rw[aQ];exact hm
  ·show Reach go K (bump u 0 0) (bump u 0)
   rw[aQ];exact oY
  ·show arr go K (bump u 0) p=bump u 0 p+if go 0 (u 0)=p then 1 else 0
   rw[sT E.pos,zi p ag aj,if_neg (eg ag)]
   have:bump u 0 p=u p:=by unfold bump;rw[if_neg ag]
   rw[this];rfl
 ·have aC:u pos<arr go K u pos:=by rw[zi pos ag dd,if_pos rfl];exact OE _
  have rB:=Reach.step a7 ag dd aC
  have hf:=rB.my E hle pos dd
  have aa:bump u pos pos=u pos+1:=by unfold bump;rw[if_pos rfl]
  rw[aa] at hf
  have h0:bump u pos 0=u 0:=by unfold bump;rw[if_neg (eg ag)]
  refine ⟨{lt:=E.range pos _ dd hf,le:= ?_,reach:= ?_,j9:=fun p Ka aj=> ?_},hf⟩
  ·show bump u pos 0≤c
   rw[h0];exact hle
  ·show Reach go K (bump u pos 0) (bump u pos)
   rw[h0];exact rB
  ·show arr go K (bump u pos) p=bump u pos p+if go pos (u pos)=p then 1 else 0
   rw[sT dd,zi p Ka aj]
   unfold bump
   by_cases z:pos=p
   ·subst z;rw[if_pos rfl,if_pos rfl]
   ·rw[if_neg z,if_neg (eg z)];rfl
noncomputable def nY (go:Nat→Nat→Nat) (c i:Nat):Prop:= ∀j,j<i→ ¬pL c (mL go j)
theorem uA (E:gR go K c): ∀i,nY go c i→qZ go K c (mL go i)
 |0,_=>ad1 E
 |i+1,h=>(F0 E (uA E i fun j aP=>h j (mV aP)) (h i (gF _))).1
theorem Nh {u:Nat→Nat} {p:Nat} (ag:p<K):b9 (bump u p) K=b9 u K+1:=by
 have:b9 (bump u p) K=b9 (fun q=>u q+if q=p then (fun _=>1) q else 0) K:=lR fun q _=>by
  unfold bump
  by_cases e:q=p
  ·rw[if_pos e,if_pos e]
  ·rw[if_neg e,if_neg e];rfl
 rw[this,sd,o6 ag]
theorem ac9 (E:gR go K c): ∀i,nY go c i→b9 (mL go i).2 K=i:=by
 intro bq
 induction bq with
 |zero=>
  intro _
  exact se
 |succ i ay=>
  intro h
  have h':nY go c i:=fun j aP=>h j (mV aP)
  show b9 (bump (mL go i).2 (mL go i).1) K=i+1
  rw[Nh (uA E i h').lt,ay h']
theorem Ni {a:Nat}: ∀{K:Nat},b9 (fun _=>a) K=K*a:=by
 intro bq
 induction bq with
 |zero=>
  rw[b9];exact fC (BO _)
 |succ K ay=>
  rw[b9,ay,Nat.succ_mul]
theorem Jl (E:gR go K c) {i:Nat} (h:nY go c i):i≤K*c:=by
 rw[←ac9 E i h,←Ni]
 have w:=uA E i h
 exact qy fun q aG=>w.reach.my E w.le q aG
theorem J8 {x:pC} (h:qZ go K c x) (h0:x.1=0):pB go K x.2:=fun p ag aj=>by
 rw[h.j9 p ag aj,h0,if_neg (eg ag)];exact a3 _
theorem adK (E:gR go K c) {i m:Nat} {v:Nat→Nat} (aB:nY go c i) (h0:(mL go i).1=0) (hm:(mL go i).2 0=m) (r:Reach go K m v) (s:pB go K v): ∀p,p<K→(mL go i).2 p=v p:=by
 have w:=uA E i aB
 have a7:=w.reach
 rw[hm] at a7
 exact a7.unique (J8 w h0) r s
end
noncomputable def mv (go:Nat→Nat→Nat):List Nat→(Nat→Nat)→List Nat×(Nat→Nat)
 |[],u=>([],u)
 |p::r,u=>if p=0 then mv go r u else (go p (u p)::(mv go r (bump u p)).1,(mv go r (bump u p)).2)
noncomputable def rounds (go:Nat→Nat→Nat):Nat→List Nat×(Nat→Nat)→List Nat×(Nat→Nat)
 |0,x=>x
 |n+1,x=>rounds go n (mv go x.1 x.2)
noncomputable def gu (go:Nat→Nat→Nat) (m:Nat):List Nat:=(bI m).map (go 0)
section
variable {go:Nat→Nat→Nat} {K c m:Nat}
structure j1 (go:Nat→Nat→Nat) (K m:Nat) (r:List Nat) (e:Nat→Nat) (u:Nat→Nat):Prop where
 reach:Reach go K m u
 lt: ∀p∈r,p<K
 j9: ∀p,p≠0→p<K→arr go K u p=u p+r.count p+e p
noncomputable def away (r:List Nat):Nat:=(r.filter (·≠0)).length
theorem YV (E:gR go K c) (hm:m≤c): ∀(r:List Nat) (e u:Nat→Nat),j1 go K m r e u→j1 go K m (mv go r u).1 e (mv go r u).2∧b9 (mv go r u).2 K=b9 u K+away r:=by
 intro bq
 induction bq with
 |nil=>
  intro e u h
  exact ⟨h,rfl⟩
 |cons p r ay=>
  intro e u h
  by_cases ag:p=0
  ·subst ag
   have h':j1 go K m r e u:=⟨h.reach,fun q aG=>h.lt q (e0 _ aG),fun q h0 aj=>by
    have:=h.j9 q h0 aj
    rw[qI] at this
    rw[this]
    have:(0==q)=false:=by simpa using eg h0
    rw[this];rfl⟩
   have:=ay e u h'
   rw[mv,if_pos rfl]
   exact ⟨this.1,by rw[this.2];rfl⟩
  ·have aj:=h.lt p eZ
   have dd:u p<arr go K u p:=by
    have:=h.j9 p ag aj
    rw[qI] at this
    simp at this
    exact aH (eq1 this)
   have a7:=Reach.step h.reach ag aj dd
   have aa:bump u p p=u p+1:=by unfold bump;rw[if_pos rfl]
   have hf:u p<c:=by
    have:=a7.my E hm p aj
    rw[aa] at this;exact this
   have aG:=E.range p _ aj hf
   have h':j1 go K m r (fun q=>e q+if go p (u p)=q then 1 else 0) (bump u p):=⟨a7,fun q aG=>h.lt q (e0 _ aG),fun q h0 vT=>by
    rw[sT aj,h.j9 q h0 vT,qI]
    unfold bump
    by_cases z:q=p
    ·subst z;simp;simp+arith only
    ·have:(p==q)=false:=by simpa using eg z
     rw[this,if_neg z];simp;exact uX _ _ _⟩
   obtain ⟨g,aS⟩:=ay _ _ h'
   rw[mv,if_neg ag]
   refine ⟨⟨g.reach,fun q DX=> ?_,fun q h0 vT=> ?_⟩,?_⟩
   ·rcases d3.mp DX with rfl|DX
    ·exact aG
    ·exact g.lt q DX
   ·rw[g.j9 q h0 vT,qI]
    by_cases z:go p (u p)=q
    ·rw[if_pos z];simp[z];exact fC (N6 _ _)
    ·rw[if_neg z]
     have:(go p (u p)==q)=false:=by simpa using z
     rw[this];rfl
   ·rw[aS,Nh aj]
    simp[away,ag];exact sx _ _ _
theorem Mq (E:gR go K c) (hm:m≤c): ∀(n:Nat) (r:List Nat) (u:Nat→Nat),j1 go K m r (fun _=>0) u→
  j1 go K m (rounds go n (r,u)).1 (fun _=>0) (rounds go n (r,u)).2∧(away (rounds go n (r,u)).1=0∨b9 u K+n≤b9 (rounds go n (r,u)).2 K):=by
 intro bq
 induction bq with
 |zero=>
  intro r u h
  exact ⟨h,.inr (a3 _)⟩
 |succ n ay=>
  intro r u h
  obtain ⟨g,aS⟩:=YV E hm r _ u h
  obtain ⟨g2,U⟩:=ay _ _ g
  refine ⟨g2,?_⟩
  by_cases z:away r=0
  ·
   have aT: ∀(r:List Nat),away r=0→ ∀u,mv go r u=([],u):=fun r=>by
    induction r with
    |nil=>intro _ u;rfl
    |cons p r ay=>
     intro a6 u
     by_cases ag:p=0
     ·subst ag
      rw[mv,if_pos rfl]
      exact ay (by simpa [away] using a6) u
     ·simp[away,ag] at a6
   have p0: ∀n u,rounds go n ([],u)=([],u):=fun n=>by
    induction n with
    |zero=>intro u;rfl
    |succ n ay=>intro u;rw[rounds];exact ay u
   left
   show away (rounds go n (mv go r u)).1=0
   rw[aT r z u,p0];rfl
  ·rcases U with U|U
   ·exact .inl U
   ·right
    show b9 u K+(n+1)≤b9 (rounds go n (mv go r u)).2 K
    have:b9 (mv go r u).2 K+n≤b9 (rounds go n (mv go r u)).2 K:=U
    exact aH (aI (aI (eq1 aS) (ZM z)) this)
theorem CQ {f:Nat→Nat} {p:Nat}: ∀m,((bI m).map f).count p=cnt f m p:=by
 intro bq
 induction bq with
 |zero=>
  exact rfl
 |succ m ay=>
  rw[lZ,mY,ae7,ay,cnt]
  simp[qI]
theorem abg (E:gR go K c) (ah:c≤3) (hm:m≤c):Reach go K m (rounds go (3*K) (gu go m,start m)).2∧pB go K (rounds go (3*K) (gu go m,start m)).2:=by
 have h0:j1 go K m (gu go m) (fun _=>0) (start m):=⟨.start,fun p ag=>by
   obtain ⟨j,aP,rfl⟩:=g0.mp ag
   exact E.range 0 j E.pos (hA (kB.mp aP) hm),fun p ag aj=>by
   have:arr go K (start m) p=b9 (fun q=>if q=0 then (fun q=>cnt (go q) m p) q else 0) K:=lR fun q _=>by
    unfold start
    by_cases z:q=0
    ·rw[if_pos z,if_pos z]
    ·rw[if_neg z,if_neg z];rfl
   rw[this,o6 E.pos]
   unfold gu start
   rw[CQ,if_neg ag];simp+arith only⟩
 obtain ⟨g,h⟩:=Mq E hm (3*K) _ _ h0
 have fin:away (rounds go (3*K) (gu go m,start m)).1=0:=by
  rcases h with h|h
  ·exact h
  ·have hle:b9 (rounds go (3*K) (gu go m,start m)).2 K≤K*c:=by
    have J:b9 (rounds go (3*K) (gu go m,start m)).2 K≤b9 (fun _=>c) K:=qy (g.reach.my E hm)
    rw[Ni] at J;exact J
   have aC:b9 (start m) K=m:=by
    have:b9 (start m) K=b9 (fun q=>if q=0 then (fun _=>m) q else 0) K:=rfl
    rw[this,o6 E.pos]
   have tu:K*c≤K*3:=uW K ah
   have tw:m=0:=by exact f3 (aH (aI (aI (aI h hle) (eq1 aC)) tu)) (by simp+arith only)
   subst tw
   have p0: ∀n u,rounds go n ([],u)=([],u):=fun n=>by
    induction n with
    |zero=>intro u;rfl
    |succ n ay=>intro u;rw[rounds];exact ay u
   show away (rounds go (3*K) ([],start 0)).1=0
   rw[p0];rfl
 refine ⟨g.reach,fun p ag aj=> ?_⟩
 rw[g.j9 p ag aj]
 have:(rounds go (3*K) (gu go m,start m)).1.count p=0:=by
  rw[List.count_eq_zero]
  intro lD
  have:(GI (·≠0) (rounds go (3*K) (gu go m,start m)).1)=[]:=OB.mp fin
  have U:p∈GI (·≠0) (rounds go (3*K) (gu go m,start m)).1:=Oi.mpr ⟨lD,by simpa using ag⟩
  rw[this] at U;cases U
 exact aH (b0 this)
end
end Mine
end
section
open PySem PySem.W PyProof.Rows PySem.Calls PySem.Spec PySem.SeqAt
namespace Mine
noncomputable def aO (l:List bY) (i:Nat):bY:=l.getD i (.Pass ⟨0,0,0,0⟩)
noncomputable def Tc (l:List Expr) (i:Nat):Expr:=l.getD i (.Constant .none 0 ⟨0,0,0,0⟩)
noncomputable def c0:bY→List bY
 | .For _ _ b _ _=>b
 |_=>[]
noncomputable def Kn:bY→List bY
 | .If _ b _ _=>b
 |_=>[]
noncomputable def Wy:bY→List bY
 | .If _ _ b _=>b
 |_=>[]
noncomputable def valueOf:bY→Expr
 | .Assign _ e _=>e
 | .AugAssign _ _ e _=>e
 | .Return (some e) _=>e
 | .If t _ _ _=>t
 | .For _ e _ _ _=>e
 | .Expr e _=>e
 |_=> .Constant .none 0 ⟨0,0,0,0⟩
noncomputable def hu:bY→Expr
 | .For t _ _ _ _=>t
 |_=> .Constant .none 0 ⟨0,0,0,0⟩
noncomputable def mc:Expr→Expr
 | .ListComp e _ _ _=>e
 |_=> .Constant .none 0 ⟨0,0,0,0⟩
noncomputable def n':Expr→Expr
 | .ListComp _ [⟨t,_,_,_⟩] _ _=>t
 |_=> .Constant .none 0 ⟨0,0,0,0⟩
noncomputable def Ih:Expr→List Expr
 | .ListComp _ [⟨_,_,i,_⟩] _ _=>i
 |_=>[]
noncomputable def oZ:Expr→Scope
 | .ListComp _ _ c _=>c
 |_=>default
theorem fuel {α:Type} {f:Nat→α} {a b:Nat} {r:α} (h: ∀n,f (n+a)=r) (dv:a≤b) (n:Nat):f (n+b)=r:=by
 have:=h (n+(b-a))
 rw[show n+(b-a)+a=n+b by exact acw dv] at this
 exact this
theorem yo {α β:Type} (a:α) (f:α→Option β):(some a).bind f=f a:=BD (Eq.refl _) (OJ a f)
theorem AG (a b:Int):eX (.int a) (.int b)=some (decide (a=b)):=rfl
theorem Fm {i n:Nat} (h:i<n):seqIndex? (i:Int) n=some i:=by
 unfold seqIndex?
 have J: ¬(i:Int)<0:=by exact xR _
 have U:(decide (0≤(i:Int))&&decide ((i:Int)<(n:Int)))=true:=by simp;exact h
 dsimp only
 rw[if_neg J,if_pos U]
 rfl
theorem MC {n:Nat} (h:0<n):seqIndex? (-1) n=some (n-1):=by
 unfold seqIndex?
 have gg:(-1+n:Int)=((n-1:Nat):Int):=by rw[so h];exact nU _ _
 have U:(decide (0≤(-1+n:Int))&&decide ((-1+n:Int)<(n:Int)))=true:=by
  rw[gg];exact g7.mpr ⟨decide_eq_true (l1 _),decide_eq_true (nX.mpr (Nat.sub_lt h Nat.one_pos))⟩
 dsimp only
 have e:(if (-1:Int)<0 then-1+(n:Int) else-1)= -1+n:=if_pos (by decide)
 rw[e,if_pos U,gg]
 rfl
theorem r7 {i:Nat} (h:i<1152921504606846976):small (i:Int)=true:=by unfold small;simp;exact h
theorem iY {l:List I} {i:Nat} {p:I} (h:l[i]?=some p) (aC:i<1152921504606846976):cz (.list l) (.int i)=some p:=by
 have aB:i<l.length:=(hW.mp h).1
 show (if small (i:Int) then (seqIndex? i l.length).bind fun j=>l[j]? else none)=some p
 rw[r7 aC,if_pos rfl,Fm aB]
 exact h
theorem Km {l:List I} {p:I} (h:l.getLast?=some p):cz (.list l) (.int (-1))=some p:=by
 have aB:0<l.length:=by
  cases l with
  |nil=>cases h
  |cons a l=>simp
 show (if small (-1) then (seqIndex? (-1) l.length).bind fun j=>l[j]? else none)=some p
 rw[show small (-1)=true by decide,if_pos rfl,MC aB]
 rw[OK] at h
 exact h
structure Sel (α:Type) where
 x:Option α
 r:α
 h:x=some r
inductive Fact where
 |go|v (s:Sel I)|b (s:Sel Bool)|c (s:Sel (I×W))|l (s:Sel (List I×W))|f (s:Sel (ej×ar×W))|n (s:Sel Nat)|u (s:Sel (List I))|p (c:Prop) (h:c)
inductive Hn (α:Type) where
 |ok (a:α) (bk:List Fact) (P:Prop)|ask (q:Prop)|bad
noncomputable abbrev dY (α:Type):=List Fact→Prop→Hn α
noncomputable def ret {α:Type} (a:α):dY α:=fun bk P=> .ok a bk P
noncomputable def bad {α:Type}:dY α:=fun _ _=> .bad
noncomputable def aD {α β:Type} (m:dY α) (f:α→dY β):dY β:=fun bk P=>match m bk P with
 | .ok a bk P=>f a bk P
 | .ask q=> .ask q
 | .bad=> .bad
noncomputable def lift {α:Type} (o:Option α):dY α:=fun bk P=>match o with
 |some a=> .ok a bk P
 |none=> .bad
noncomputable def Fact.Kx:Fact→Bool
 | .go=>true
 |_=>false
noncomputable def el {α:Type} (sel:Fact→Option (Sel α)) (x:Option α) (m:dY α):dY α:=fun bk P=>match bk with
 |[]=> .ask (x=none)
 |f::bk=>match sel f with
  |some s=> .ok s.r bk (x=s.x∧P)
  |none=>if f.Kx then m bk P else .bad
noncomputable def abD:Fact→Option (Sel I)
 | .v s=>some s
 |_=>none
noncomputable def aby:Fact→Option (Sel Bool)
 | .b s=>some s
 |_=>none
noncomputable def MA:Fact→Option (Sel (I×W))
 | .c s=>some s
 |_=>none
noncomputable def abA:Fact→Option (Sel (List I×W))
 | .l s=>some s
 |_=>none
noncomputable def abz:Fact→Option (Sel (ej×ar×W))
 | .f s=>some s
 |_=>none
noncomputable def abB:Fact→Option (Sel Nat)
 | .n s=>some s
 |_=>none
noncomputable def abC:Fact→Option (Sel (List I))
 | .u s=>some s
 |_=>none
noncomputable abbrev m9 (x:Option I):dY I:=el abD x (lift x)
noncomputable abbrev yg (x:Option Bool):dY Bool:=el aby x (lift x)
noncomputable abbrev yh (x:Option Nat):dY Nat:=el abB x (lift x)
noncomputable abbrev HH (x:Option (List I)):dY (List I):=el abC x (lift x)
noncomputable abbrev HG (x:Option (I×W)):dY (I×W):=el MA x (lift x)
noncomputable def need {α:Type} (c:Prop) [Decidable c] (m:dY α):dY α:=fun bk P=>match bk with
 |[]=> .ask c
 |f::bk=>match f with
  | .p d _=>m bk (c=d∧P)
  | .go=>if c then m bk P else .bad
  |_=> .bad
noncomputable def Fact.SM:Fact→Prop→Prop
 | .go,P=>P
 | .v s,P=>s.x=s.x∧P
 | .b s,P=>s.x=s.x∧P
 | .c s,P=>s.x=s.x∧P
 | .l s,P=>s.x=s.x∧P
 | .f s,P=>s.x=s.x∧P
 | .n s,P=>s.x=s.x∧P
 | .u s,P=>s.x=s.x∧P
 | .p d _,P=>d=d∧P
noncomputable def eqns:List Fact→Prop→Prop
 |[],P=>P
 |f::bk,P=>eqns bk (f.SM P)
theorem IM: ∀(bk:List Fact) {P:Prop},P→eqns bk P
 |[],_,h=>h
 |f::bk,P,h=>IM bk (by cases f<;>first|exact h|exact ⟨rfl,h⟩)
noncomputable def qq (sc:Scope) (σ:ar) (x:Str):dY (List I):=if held sc x then (match σ.get x with| .own l=>need (l.length≤1048576) (ret l)|_=>bad) else bad
mutual
noncomputable def rev:Nat→a'→Expr→ar→W→dY (I×W)
 |0,_,_,_,_=>bad
 |n+1,cx,e,σ,w=>match e with
  | .BinOp a op b _=>aD (rev n cx a σ w) fun x=>aD (rev n cx b σ x.2) fun y=>aD (m9 (cv op x.1 y.1)) fun r=>ret (r,y.2)
  | .UnaryOp op a _=>aD (rev n cx a σ w) fun x=>aD (m9 (FR op x.1)) fun r=>ret (r,x.2)
  | .BoolOp op es _=>AK n cx op es σ w
  | .Compare l ops rs _=>if rs.any isSet then bad else aD (mK n cx l σ w) fun x=>aD (xc n cx x.1 ops rs σ x.2) fun b=>ret (.bool b.1,b.2)
  | .IfExp t a b _=>aD (r3 n cx t σ w) fun c=>if c.1 then rev n cx a σ c.2 else rev n cx b σ c.2
  | .List es p=>aD (ue n cx (.List es p) σ w) fun r=>ret (.list r.1,r.2)
  | .ListComp a b c p=>aD (ue n cx (.ListComp a b c p) σ w) fun r=>ret (.list r.1,r.2)
  | .Tuple es _ _=>aD (mI n cx es σ w) fun r=>if r.1.length≤1048576 then ret (.tup r.1,r.2) else bad
  | .Subscript v i _=>(A1 i).elim (aD (mK n cx v σ w) fun x=>aD (rev n cx i σ x.2) fun k=>aD (m9 (cz x.1 k.1)) fun r=>ret (r,k.2)) fun q=>
   aD (mK n cx v σ w) fun x=>aD (xh n cx q.1 σ x.2) fun a=>aD (xh n cx q.2.1 σ a.2) fun b=>aD (xh n cx q.2.2 σ b.2) fun k=>aD (m9 (e' x.1 a.1 b.1 k.1)) fun r=>ret (r,k.2)
  | .Call f as dI p=>match f with
   | .Name f _=>if dI.isEmpty&&(cx.sc.names.lookup f==some .globalImplicit) then
     if dT f "_netrclex" then aD (lift (Fy as)) fun q=>if cx.dx.lex&&dT q.1 "_law_stream"&&cx.sc.names.lookup q.1==some .globalImplicit&&decide (4≤cx.d) then aD (rev n cx q.2 σ w) fun x=>aD (lift (m8 x.1)) fun t=>need (t.length≤1048576∧d8 t=true) (ret (.obj x.2.length,x.2++[⟨t.cps.toList,1,[]⟩])) else bad
     else (cx.dx.fns.find? (fun d=>d.name==f)).elim (aD (xk n cx as σ w) fun r=>aD (m9 (gd f r.1)) fun z=>ret (z,r.2)) fun d=>
      aD (mI n cx as σ w) fun r=>el MA (cn n cx d r.1 r.2) (AL n cx d r.1 r.2)
    else bad
   | .Attribute o m ap=>if dI.isEmpty&&(baseOk o&&ap.endLine==p.line&&decide (as.length<20)) then
     if cx.dx.lex&&dT m "get_token" then (if as.isEmpty&&decide (4≤cx.d) then aD (rev n cx o σ w) fun x=>aD (lift (wZ x.1)) fun i=>HG (ur i x.2) else bad)
     else if dT m "split" then aD (ue n cx e σ w) fun r=>ret (.list r.1,r.2)
     else aD (mK n cx o σ w) fun x=>aD (xk n cx as σ x.2) fun r=>aD (m9 (methP m x.1 r.1)) fun z=>ret (z,r.2)
    else bad
   |_=>bad
  | .Attribute v a _=>if cx.dx.lex&&baseOk v&&dT a "lineno" then aD (rev n cx v σ w) fun x=>aD (lift (wZ x.1)) fun i=>HG (z4 i x.2) else bad
  | .Constant c _ _=>aD (lift (CP c)) fun p=>ret (p,w)
  | .Name x _=>aD (lift (wL cx σ x)) fun p=>ret (p,w)
  |_=>bad
noncomputable def mK:Nat→a'→Expr→ar→W→dY (I×W)
 |0,_,_,_,_=>bad
 |n+1,cx,e,σ,w=>(kV e).elim (rev n cx e σ w) fun x=>aD (lift (rU cx σ x)) fun p=>ret (p,w)
noncomputable def xk:Nat→a'→List Expr→ar→W→dY (List I×W)
 |0,_,_,_,_=>bad
 |n+1,cx,es,σ,w=>match es with
  |[]=>ret ([],w)
  |e::es=>aD (mK n cx e σ w) fun p=>aD (xk n cx es σ p.2) fun l=>ret (p.1::l.1,l.2)
noncomputable def mI:Nat→a'→List Expr→ar→W→dY (List I×W)
 |0,_,_,_,_=>bad
 |n+1,cx,es,σ,w=>match es with
  |[]=>ret ([],w)
  |e::es=>aD (rev n cx e σ w) fun p=>aD (mI n cx es σ p.2) fun l=>ret (p.1::l.1,l.2)
noncomputable def xh:Nat→a'→Option Expr→ar→W→dY (I×W)
 |0,_,_,_,_=>bad
 |n+1,cx,e,σ,w=>e.elim (ret (.none,w)) fun e=>rev n cx e σ w
noncomputable def AK:Nat→a'→BoolOp→List Expr→ar→W→dY (I×W)
 |0,_,_,_,_,_=>bad
 |n+1,cx,op,es,σ,w=>match es with
  |[]=>bad
  |e::r=>if r.isEmpty then rev n cx e σ w else aD (rev n cx e σ w) fun p=>aD (lift (ye p.1)) fun b=>if A5 op b then ret (.bool b,p.2) else AK n cx op r σ p.2
noncomputable def xc:Nat→a'→I→List js→List Expr→ar→W→dY (Bool×W)
 |0,_,_,_,_,_,_=>bad
 |n+1,cx,x,ops,es,σ,w=>match es with
  |[]=>bad
  |e::es=>match ops with
   |[]=>bad
   |op::ops=>if ops.isEmpty then (if es.isEmpty then aD (mK n cx e σ w) fun y=>aD (yg (fe op x y.1)) fun r=>ret (r,y.2) else bad)
    else aD (mK n cx e σ w) fun y=>aD (yg (fe op x y.1)) fun r=>if r then xc n cx y.1 ops es σ y.2 else ret (false,y.2)
noncomputable def r3:Nat→a'→Expr→ar→W→dY (Bool×W)
 |0,_,_,_,_=>bad
 |n+1,cx,e,σ,w=>match e with
  | .BoolOp op es _=>ug n cx op es σ w
  | .Compare l ops rs _=>if rs.any isSet then bad else aD (mK n cx l σ w) fun x=>xc n cx x.1 ops rs σ x.2
  | .Name .. =>aD (rev n cx e σ w) fun p=>aD (yg (mP p.1)) fun b=>ret (b,p.2)
  | .Call .. =>aD (rev n cx e σ w) fun p=>aD (yg (mP p.1)) fun b=>ret (b,p.2)
  |_=>bad
noncomputable def ug:Nat→a'→BoolOp→List Expr→ar→W→dY (Bool×W)
 |0,_,_,_,_,_=>bad
 |n+1,cx,op,es,σ,w=>match es with
  |[]=>ret (op== .And,w)
  |e::es=>aD (r3 n cx e σ w) fun b=>if A5 op b.1 then ret b else ug n cx op es σ b.2
noncomputable def AP:Nat→Bool→Expr→a'→Expr→ar→W→dY (List I×W)
 |0,_,_,_,_,_,_=>bad
 |n+1,own,tgt,cx,e,σ,w=>if isName tgt||jJ tgt then
   (yu e).elim (AQ n own cx e σ w) fun q=>
    if dT q.1 "range" then (if cx.sc.names.lookup q.1==some .globalImplicit then aD (mI n cx q.2 σ w) fun r=>aD (HH (i4 r.1)) fun l=>ret (l,r.2) else bad)
    else if dT q.1 "enumerate" then (if cx.sc.names.lookup q.1==some .globalImplicit&&jJ tgt then aD (mI n cx q.2 σ w) fun r=>aD (lift (IK r.1)) fun l=>ret (l,r.2) else bad)
    else AQ n own cx e σ w
  else bad
noncomputable def AQ:Nat→Bool→a'→Expr→ar→W→dY (List I×W)
 |0,_,_,_,_,_=>bad
 |n+1,own,cx,e,σ,w=>if isSet e then bad else aD (if own then mK n cx e σ w else rev n cx e σ w) fun p=>aD (lift (Ed p.1)) fun l=>ret (l,p.2)
noncomputable def ue:Nat→a'→Expr→ar→W→dY (List I×W)
 |0,_,_,_,_=>bad
 |n+1,cx,e,σ,w=>match e with
  | .List es _=>aD (mI n cx es σ w) fun r=>if r.1.length≤1048576 then ret r else bad
  | .ListComp elt oy bj _=>aD (lift (CO oy)) fun q=>if rb cx.sc bj then aD (AP n true q.1 cx q.2.1 σ w) fun r=>need (r.1.length≤1048576) (el abA (gf n {cx with sc:=bj} elt q.1 q.2.2 r.1 (σ.hide (Scope.dC bj)) r.2) (xd n {cx with sc:=bj} elt q.1 q.2.2 r.1 (σ.hide (Scope.dC bj)) r.2)) else bad
  | .Call f as dI p=>aD (lift (Fv f as dI p)) fun q=>aD (rev n cx q.1 σ w) fun x=>aD (mI n cx [q.2] σ x.2) fun y=>aD (HH (Fw x.1 y.1)) fun l=>ret (l,y.2)
  |_=>bad
noncomputable def xd:Nat→a'→Expr→Expr→List Expr→List I→ar→W→dY (List I×W)
 |0,_,_,_,_,_,_,_=>bad
 |n+1,cx,elt,tgt,ifs,items,σ,w=>match items with
  |[]=>ret ([],w)
  |p::items=>aD (lift (gc cx.sc tgt p σ)) fun σ'=>aD (ug n cx .And ifs σ' w) fun b=>if b.1 then aD (rev n cx elt σ' b.2) fun r=>aD (xd n cx elt tgt ifs items σ r.2) fun l=>ret (r.1::l.1,l.2) else xd n cx elt tgt ifs items σ b.2
noncomputable def AL:Nat→a'→iN→List I→W→dY (I×W)
 |0,_,_,_,_=>bad
 |n+1,cx,d,vs,w=>if vs.length==(jN d).length then match cx.d with
   |0=>bad
   |k+1=>aD (qo n {cx with d:=k,sc:=d.scope} d.body ((jN d).zip (vs.map .val)) w) fun r=>aD (lift (IH r.1)) fun p=>ret (p,r.2.2)
  else bad
noncomputable def AN:Nat→a'→bY→ar→W→dY (ej×ar×W)
 |0,_,_,_,_=>bad
 |n+1,cx,st,b2,w=>match st with
  | .Assign ts e _=>aD (lift (Cu ts)) fun a=>match a with
   | .name x=>if dq cx.sc x then aD (Fj n cx e (b2.freeze (bG 30 true e)) w) fun s=>ret (.next,(b2.freeze (bG 30 true e)).set x s.1,s.2) else bad
   | .tuple t=>if Bj e then aD (rev n cx e (b2.freeze (bG 30 true e)) w) fun p=>aD (lift (gc cx.sc t p.1 (b2.freeze (bG 30 true e)))) fun σ=>ret (.next,σ,p.2) else bad
   | .sub x i=>if rJ e||isSlice i then bad else aD (rev n cx e (b2.freeze (bG 30 true e)) w) fun p=>aD (rev n cx i (b2.freeze (bG 30 true e)) p.2) fun k=>aD (qq cx.sc (b2.freeze (bG 30 true e)) x) fun l=>aD (lift (intOf k.1)) fun i=>aD (yh (gV i l.length)) fun j=>ret (.next,(b2.freeze (bG 30 true e)).set x (.own (l.set j p.1)),k.2)
  | .AugAssign t op e _=>aD (lift (Cw t)) fun a=>a.2.elim
   (if dq cx.sc a.1 then aD (lift (valOf ((b2.freeze (bG 30 false e)).get a.1))) fun q=>aD (rev n cx e (b2.freeze (bG 30 false e)) w) fun p=>aD (m9 (m' op q p.1)) fun r=>ret (.next,(b2.freeze (bG 30 false e)).set a.1 (.val r),p.2) else bad) fun i=>
   if isSlice i then bad else aD (rev n cx i (b2.freeze (bG 30 false e)) w) fun k=>aD (rev n cx e (b2.freeze (bG 30 false e)) k.2) fun p=>aD (qq cx.sc (b2.freeze (bG 30 false e)) a.1) fun l=>aD (lift (intOf k.1)) fun i=>aD (yh (gV i l.length)) fun j=>aD (m9 (l[j]?)) fun q=>aD (m9 (m' op q p.1)) fun r=>ret (.next,(b2.freeze (bG 30 false e)).set a.1 (.own (l.set j r)),p.2)
  | .Expr e _=>aD (lift (yt e)) fun q=>
   if dT q.2.1 "append" then aD (lift (m6 q.2.2)) fun a=>(AF a).elim
     (aD (mI n cx [a] (b2.freeze (bG 30 true e)) w) fun ps=>aD (lift (oneOf ps.1)) fun p=>aD (qq cx.sc (b2.freeze (bG 30 true e)) q.1) fun l=>ret (.next,(b2.freeze (bG 30 true e)).set q.1 (.own (l++[p])),ps.2)) fun mS=>
     aD (rev n cx mS.2 (b2.freeze (bG 30 true e)) w) fun k=>aD (qq cx.sc (b2.freeze (bG 30 true e)) q.1) fun l=>aD (qq cx.sc (b2.freeze (bG 30 true e)) mS.1) fun f=>aD (lift (intOf k.1)) fun i=>aD (yh (gV i f.length)) fun j=>aD (m9 (f[j]?)) fun p=>if q.1==mS.1 then bad else ret (.next,((b2.freeze (bG 30 true e)).set mS.1 (.own (f.eraseIdx j))).set q.1 (.own (l++[p])),k.2)
   else if dT q.2.1 "insert" then aD (lift (Ct q.2.2)) fun di=>aD (mI n cx [di.1,di.2] (b2.freeze (bG 30 true e)) w) fun ps=>aD (lift (pairOf ps.1)) fun v=>aD (qq cx.sc (b2.freeze (bG 30 true e)) q.1) fun l=>aD (lift (intOf v.1)) fun k=>need (0≤k∧k≤l.length) (ret (.next,(b2.freeze (bG 30 true e)).set q.1 (.own (l.take k.toNat++v.2::l.drop k.toNat)),ps.2))
   else bad
  | .If t a b _=>aD (r3 n cx t (b2.freeze (bG 30 false t)) w) fun c=>if c.1 then qo n cx a (b2.freeze (bG 30 false t)) c.2 else qo n cx b (b2.freeze (bG 30 false t)) c.2
  | .For tgt it body vu _=>if vu.isEmpty then aD (AP n false tgt cx it (b2.freeze (bG 30 true it)) w) fun r=>el abz (forL n cx tgt body r.1 (b2.freeze (bG 30 true it)) r.2) (AO n cx tgt body r.1 (b2.freeze (bG 30 true it)) r.2) else bad
  | .Return e _=>aD (lift e) fun e=>aD (rev n cx e (b2.freeze (bG 30 true e)) w) fun p=>ret (.ret p.1,b2.freeze (bG 30 true e),p.2)
  | .Delete ts _=>aD (lift (CS ts)) fun q=>if isSlice q.2 then bad else aD (rev n cx q.2 (b2.freeze []) w) fun k=>aD (qq cx.sc (b2.freeze []) q.1) fun l=>aD (lift (intOf k.1)) fun i=>aD (yh (gV i l.length)) fun j=>ret (.next,(b2.freeze []).set q.1 (.own (l.eraseIdx j)),k.2)
  | .Assert t m _=>if m.isNone then aD (r3 n cx t (b2.freeze []) w) fun c=>if c.1 then ret (.next,b2.freeze [],c.2) else bad else bad
  | .Break _=>ret (.brk,b2.freeze [],w)
  | .Continue _=>ret (.cont,b2.freeze [],w)
  | .Pass _=>ret (.next,b2.freeze [],w)
  |_=>bad
noncomputable def Fj:Nat→a'→Expr→ar→W→dY (Slot×W)
 |0,_,_,_,_=>bad
 |n+1,cx,e,σ,w=>if wm e then aD (ue n cx e σ w) fun r=>ret (.own r.1,r.2) else aD (rev n cx e σ w) fun r=>ret (.val r.1,r.2)
noncomputable def qo:Nat→a'→List bY→ar→W→dY (ej×ar×W)
 |0,_,_,_,_=>bad
 |n+1,cx,l,σ,w=>match l with
  |[]=>ret (.next,σ,w)
  |st::r=>aD (AN n cx st σ w) fun x=>if Jj x.1 then qo n cx r x.2.1 x.2.2 else ret x
noncomputable def AO:Nat→a'→Expr→List bY→List I→ar→W→dY (ej×ar×W)
 |0,_,_,_,_,_,_=>bad
 |n+1,cx,tgt,body,items,σ,w=>match items with
  |[]=>ret (.next,σ,w)
  |p::items=>aD (lift (gc cx.sc tgt p σ)) fun σ'=>aD (qo n cx body σ' w) fun x=>if Bk x.1 then AO n cx tgt body items x.2.1 x.2.2 else ret (zV x.1,x.2)
end
noncomputable def bC {α:Type} (m:dY α) (o:Option α):Prop:= ∀bk P a oo f9,m bk P= .ok a oo f9→f9→P∧o=some a
section
variable {α β:Type} {m fm:dY α} {o cE:Option α}
theorem bC.ret (a:α):bC (ret a) (some a):=fun bk P gr oo f9 h ag=>by cases h;exact ⟨ag,rfl⟩
theorem bC.bad (o:Option α):bC bad o:=fun bk P gr oo f9 h ag=>by cases h
theorem bC.lift (o:Option α):bC (lift o) o:=fun bk P gr oo f9 h ag=>by
 cases o with
 |none=>cases h
 |some a=>cases h;exact ⟨ag,rfl⟩
theorem bC.aD {f:α→dY β} {g:α→Option β} (h:bC m o) (k: ∀a,bC (f a) (g a)):bC (aD m f) (o.bind g):=fun bk P b oo f9 e ag=>by
 unfold Mine.aD at e
 cases q:m bk P with
 |ok a af2 Ce=>
  rw[q] at e
  obtain ⟨J,U⟩:=k a _ _ _ _ _ e ag
  obtain ⟨av,rfl⟩:=h _ _ _ _ _ q J
  exact ⟨av,U⟩
 |ask _=>rw[q] at e;cases e
 |bad=>rw[q] at e;cases e
theorem bC.ite {c:Prop} [Decidable c] (h:bC m o) (h':bC fm cE):bC (if c then m else fm) (if c then o else cE):=by split<;>assumption
theorem bC.elim {sG:Type} {x:Option sG} {f:sG→dY α} {kc:sG→Option α} (h:bC m o) (k: ∀a,bC (f a) (kc a)):bC (x.elim m f) (x.elim o kc):=match x with
 |none=>h
 |some a=>k a
theorem bC.el {sel:Fact→Option (Sel α)} (h:bC m o):bC (el sel o m) o:=fun bk P a oo f9 e ag=>by
 cases bk with
 |nil=>cases e
 |cons f bk=>
  have e:(match sel f with|some s=>Hn.ok s.r bk (o=s.x∧P)|none=>if f.Kx then m bk P else .bad)= .ok a oo f9:=e
  cases q:sel f with
  |some s=>rw[q] at e;cases e;exact ⟨ag.2,ag.1.trans s.h⟩
  |none=>
   rw[q] at e
   cases f<;>first|exact h _ _ _ _ _ e ag|cases e
theorem bC.need {c:Prop} [Decidable c] (h:bC m o):bC (need c m) (if c then o else none):=fun bk P a oo f9 e ag=>by
 cases bk with
 |nil=>cases e
 |cons f bk=>
  cases f with
  |go=>
   have e:(if c then m bk P else .bad)= .ok a oo f9:=e
   split at e
   ·rw[if_pos ‹_›];exact h _ _ _ _ _ e ag
   ·cases e
  |p d hd=>
   obtain ⟨⟨aF,J⟩,U⟩:=h _ _ _ _ _ e ag
   exact ⟨J,by rw[if_pos (cast aF.symm hd)];exact U⟩
  |_=>cases e
end
structure Cc (n:Nat):Prop where
 ev: ∀cx e σ w,bC (rev n cx e σ w) (ev n cx e σ w)
 c8: ∀cx e σ w,bC (mK n cx e σ w) (c8 n cx e σ w)
 hN: ∀cx e σ w,bC (xk n cx e σ w) (hN n cx e σ w)
 d5: ∀cx e σ w,bC (mI n cx e σ w) (d5 n cx e σ w)
 h2: ∀cx e σ w,bC (xh n cx e σ w) (h2 n cx e σ w)
 j8: ∀cx op e σ w,bC (AK n cx op e σ w) (j8 n cx op e σ w)
 iR: ∀cx x ops e σ w,bC (xc n cx x ops e σ w) (iR n cx x ops e σ w)
 fa: ∀cx e σ w,bC (r3 n cx e σ w) (fa n cx e σ w)
 fY: ∀cx op e σ w,bC (ug n cx op e σ w) (fY n cx op e σ w)
 mr: ∀own tgt cx e σ w,bC (AP n own tgt cx e σ w) (mr n own tgt cx e σ w)
 oK: ∀own cx e σ w,bC (AQ n own cx e σ w) (oK n own cx e σ w)
 gj: ∀cx e σ w,bC (ue n cx e σ w) (gj n cx e σ w)
 gf: ∀cx elt tgt ifs items σ w,bC (xd n cx elt tgt ifs items σ w) (gf n cx elt tgt ifs items σ w)
 cn: ∀cx d vs w,bC (AL n cx d vs w) (cn n cx d vs w)
 ex: ∀cx st σ w,bC (AN n cx st σ w) (ex n cx st σ w)
 b1: ∀cx st σ w,bC (qo n cx st σ w) (b1 n cx st σ w)
 forL: ∀cx tgt body items σ w,bC (AO n cx tgt body items σ w) (forL n cx tgt body items σ w)
 rj: ∀cx e σ w,bC (Fj n cx e σ w) (rj n cx e σ w)
section
variable {n:Nat} (az:Cc n)
include az
theorem Xs (cx:a') (e:Expr) (σ:ar) (w:W):bC (rev (n+1) cx e σ w) (ev (n+1) cx e σ w):=by
 cases e with
 |BinOp a op b p=>exact bC.aD (az.ev _ _ _ _) fun x=>bC.aD (az.ev _ _ _ _) fun y=>bC.aD (.el (.lift _)) fun r=> .ret _
 |UnaryOp op a p=>exact bC.aD (az.ev _ _ _ _) fun x=>bC.aD (.el (.lift _)) fun r=> .ret _
 |BoolOp op es p=>exact az.j8 _ _ _ _ _
 |Compare l ops rs p=>exact bC.ite (.bad _) (.aD (az.c8 _ _ _ _) fun x=> .aD (az.iR _ _ _ _ _ _) fun b=> .ret _)
 |IfExp t a b p=>exact bC.aD (az.fa _ _ _ _) fun x=> .ite (az.ev _ _ _ _) (az.ev _ _ _ _)
 |List es p=>exact bC.aD (az.gj _ _ _ _) fun x=> .ret _
 |ListComp a b c p=>exact bC.aD (az.gj _ _ _ _) fun x=> .ret _
 |Tuple es k p=>exact bC.aD (az.d5 _ _ _ _) fun x=> .ite (.ret _) (.bad _)
 |Subscript v i p=>exact bC.elim (.aD (az.c8 _ _ _ _) fun x=> .aD (az.ev _ _ _ _) fun y=> .aD (.el (.lift _)) fun r=> .ret _) fun q=> .aD (az.c8 _ _ _ _) fun x=> .aD (az.h2 _ _ _ _) fun a=> .aD (az.h2 _ _ _ _) fun a=> .aD (az.h2 _ _ _ _) fun a=> .aD (.el (.lift _)) fun r=> .ret _
 |Call f as dI p=>
  cases f with
  |Name f q=>exact bC.ite (.ite (.aD (.lift _) fun q=> .ite (.aD (az.ev _ _ _ _) fun x=> .aD (.lift _) fun t=> .need (.ret _)) (.bad _)) (.elim (.aD (az.hN _ _ _ _) fun r=> .aD (.el (.lift _)) fun z=> .ret _) fun d=> .aD (az.d5 _ _ _ _) fun r=> .el (az.cn _ _ _ _))) (.bad _)
  |Attribute o m ap=>exact bC.ite (.ite (.ite (.aD (az.ev _ _ _ _) fun x=> .aD (.lift _) fun i=> .el (.lift _)) (.bad _)) (.ite (.aD (az.gj _ _ _ _) fun r=> .ret _) (.aD (az.c8 _ _ _ _) fun x=> .aD (az.hN _ _ _ _) fun r=> .aD (.el (.lift _)) fun z=> .ret _))) (.bad _)
  |_=>exact bC.bad _
 |Attribute v a c=>exact bC.ite (.aD (az.ev _ _ _ _) fun x=> .aD (.lift _) fun i=> .el (.lift _)) (.bad _)
 |Constant a b c=>exact bC.aD (.lift _) fun p=> .ret _
 |Name a b=>exact bC.aD (.lift _) fun p=> .ret _
 |_=>exact .bad _
theorem XD (cx:a') (e:Expr) (σ:ar) (w:W):bC (mK (n+1) cx e σ w) (c8 (n+1) cx e σ w):=bC.elim (az.ev _ _ _ _) fun x=> .aD (.lift _) fun p=> .ret _
theorem XE (cx:a') (e:List Expr) (σ:ar) (w:W):bC (xk (n+1) cx e σ w) (hN (n+1) cx e σ w):=by
 cases e with
 |nil=>exact .ret _
 |cons e es=>exact .aD (az.c8 _ _ _ _) fun x=> .aD (az.hN _ _ _ _) fun y=> .ret _
theorem Xu (cx:a') (e:List Expr) (σ:ar) (w:W):bC (mI (n+1) cx e σ w) (d5 (n+1) cx e σ w):=by
 cases e with
 |nil=>exact .ret _
 |cons e es=>exact .aD (az.ev _ _ _ _) fun x=> .aD (az.d5 _ _ _ _) fun y=> .ret _
theorem Xv (cx:a') (e:Option Expr) (σ:ar) (w:W):bC (xh (n+1) cx e σ w) (h2 (n+1) cx e σ w):=bC.elim (.ret _) fun e=>az.ev _ _ _ _
theorem Xo (cx:a') (op:BoolOp) (e:List Expr) (σ:ar) (w:W):bC (AK (n+1) cx op e σ w) (j8 (n+1) cx op e σ w):=by
 cases e with
 |nil=>exact .bad _
 |cons e es=>exact bC.ite (az.ev _ _ _ _) (.aD (az.ev _ _ _ _) fun x=> .aD (.lift _) fun b=> .ite (.ret _) (az.j8 _ _ _ _ _))
theorem Xq (cx:a') (x:I) (ops:List js) (e:List Expr) (σ:ar) (w:W):bC (xc (n+1) cx x ops e σ w) (iR (n+1) cx x ops e σ w):=by
 cases e with
 |nil=>exact .bad _
 |cons e es=>
  cases ops with
  |nil=>exact .bad _
  |cons op ops=>exact bC.ite (.ite (.aD (az.c8 _ _ _ _) fun y=> .aD (.el (.lift _)) fun r=> .ret _) (.bad _)) (.aD (az.c8 _ _ _ _) fun y=> .aD (.el (.lift _)) fun r=> .ite (az.iR _ _ _ _ _ _) (.ret _))
theorem XF (cx:a') (e:Expr) (σ:ar) (w:W):bC (r3 (n+1) cx e σ w) (fa (n+1) cx e σ w):=by
 cases e with
 |BoolOp op es p=>exact az.fY _ _ _ _ _
 |Compare l ops rs p=>exact bC.ite (.bad _) (.aD (az.c8 _ _ _ _) fun x=>az.iR _ _ _ _ _ _)
 |Name x p=>exact .aD (az.ev _ _ _ _) fun x=> .aD (.el (.lift _)) fun r=> .ret _
 |Call f as dI p=>exact .aD (az.ev _ _ _ _) fun x=> .aD (.el (.lift _)) fun r=> .ret _
 |_=>exact .bad _
theorem XG (cx:a') (op:BoolOp) (e:List Expr) (σ:ar) (w:W):bC (ug (n+1) cx op e σ w) (fY (n+1) cx op e σ w):=by
 cases e with
 |nil=>exact .ret _
 |cons e es=>exact bC.aD (az.fa _ _ _ _) fun x=> .ite (.ret _) (az.fY _ _ _ _ _)
theorem XB (own:Bool) (cx:a') (e:Expr) (σ:ar) (w:W):bC (AQ (n+1) own cx e σ w) (oK (n+1) own cx e σ w):=
 bC.ite (.bad _) (.aD (.ite (az.c8 _ _ _ _) (az.ev _ _ _ _)) fun p=> .aD (.lift _) fun l=> .ret _)
theorem Xp (cx:a') (d:iN) (vs:List I) (w:W):bC (AL (n+1) cx d vs w) (cn (n+1) cx d vs w):=by
 refine bC.ite ?_ (.bad _)
 obtain ⟨dx,k,sc⟩:=cx
 cases k with
 |zero=>exact .bad _
 |succ k=>exact bC.aD (az.b1 _ _ _ _) fun r=> .aD (.lift _) fun p=> .ret _
theorem Xy (cx:a') (st:List bY) (σ:ar) (w:W):bC (qo (n+1) cx st σ w) (b1 (n+1) cx st σ w):=by
 cases st with
 |nil=>exact .ret _
 |cons st r=>exact bC.aD (az.ex _ _ _ _) fun x=> .ite (az.b1 _ _ _ _) (.ret _)
theorem Xz (cx:a') (tgt:Expr) (body:List bY) (items:List I) (σ:ar) (w:W):bC (AO (n+1) cx tgt body items σ w) (forL (n+1) cx tgt body items σ w):=by
 cases items with
 |nil=>exact .ret _
 |cons p items=>exact bC.aD (.lift _) fun x=> .aD (az.b1 _ _ _ _) fun x=> .ite (az.forL _ _ _ _ _ _) (.ret _)
theorem Xr (cx:a') (elt tgt:Expr) (ifs:List Expr) (items:List I) (σ:ar) (w:W):bC (xd (n+1) cx elt tgt ifs items σ w) (gf (n+1) cx elt tgt ifs items σ w):=by
 cases items with
 |nil=>exact .ret _
 |cons p items=>exact bC.aD (.lift _) fun x=> .aD (az.fY _ _ _ _ _) fun b=> .ite (.aD (az.ev _ _ _ _) fun r=> .aD (az.gf _ _ _ _ _ _ _) fun l=> .ret _) (az.gf _ _ _ _ _ _ _)
theorem Xw (cx:a') (e:Expr) (σ:ar) (w:W):bC (Fj (n+1) cx e σ w) (rj (n+1) cx e σ w):=bC.ite (.aD (az.gj _ _ _ _) fun r=> .ret _) (.aD (az.ev _ _ _ _) fun r=> .ret _)
theorem XA (own:Bool) (tgt:Expr) (cx:a') (e:Expr) (σ:ar) (w:W):bC (AP (n+1) own tgt cx e σ w) (mr (n+1) own tgt cx e σ w):=
 bC.ite (.elim (az.oK _ _ _ _ _) fun q=> .ite (.ite (.aD (az.d5 _ _ _ _) fun r=> .aD (.el (.lift _)) fun l=> .ret _) (.bad _)) (.ite (.ite (.aD (az.d5 _ _ _ _) fun r=> .aD (.lift _) fun l=> .ret _) (.bad _)) (az.oK _ _ _ _ _))) (.bad _)
end
section
variable {n:Nat} (az:Cc n)
include az
omit az in
theorem rP (sc:Scope) (σ:ar) (x:Str):bC (qq sc σ x) (σ.own? sc x):=by
 refine bC.ite ?_ (.bad _)
 cases σ.get x with
 |own l=>exact .need (.ret _)
 |_=>exact .bad _
theorem XC (cx:a') (e:Expr) (σ:ar) (w:W):bC (ue (n+1) cx e σ w) (gj (n+1) cx e σ w):=by
 cases e with
 |List es p=>exact .aD (az.d5 _ _ _ _) fun r=> .ite (.ret _) (.bad _)
 |ListComp elt oy bj p=>exact bC.aD (.lift _) fun q=> .ite (.aD (az.mr _ _ _ _ _ _) fun r=> .need (.el (az.gf _ _ _ _ _ _ _))) (.bad _)
 |Call f as dI p=>exact bC.aD (.lift _) fun q=> .aD (az.ev _ _ _ _) fun x=> .aD (az.d5 _ _ _ _) fun y=> .aD (.el (.lift _)) fun l=> .ret _
 |_=>exact .bad _
theorem Xx (cx:a') (st:bY) (σ:ar) (w:W):bC (AN (n+1) cx st σ w) (ex (n+1) cx st σ w):=by
 cases st with
 |Assign ts e p=>
  refine bC.aD (.lift _) fun a=> ?_
  cases a with
  |name x=>exact bC.ite (.aD (az.rj _ _ _ _) fun r=> .ret _) (.bad _)
  |tuple t=>exact bC.ite (.aD (az.ev _ _ _ _) fun r=> .aD (.lift _) fun s=> .ret _) (.bad _)
  |sub x i=>exact bC.ite (.bad _) (.aD (az.ev _ _ _ _) fun r=> .aD (az.ev _ _ _ _) fun k=> .aD (rP _ _ _) fun l=> .aD (.lift _) fun k=> .aD (.el (.lift _)) fun j=> .ret _)
 |AugAssign t op e p=>exact bC.aD (.lift _) fun a=> .elim (.ite (.aD (.lift _) fun q=> .aD (az.ev _ _ _ _) fun r=> .aD (.el (.lift _)) fun j=> .ret _) (.bad _)) fun i=> .ite (.bad _) (.aD (az.ev _ _ _ _) fun r=> .aD (az.ev _ _ _ _) fun k=> .aD (rP _ _ _) fun l=> .aD (.lift _) fun k=> .aD (.el (.lift _)) fun j=> .aD (.el (.lift _)) fun j=> .aD (.el (.lift _)) fun j=> .ret _)
 |If t a b p=>exact .aD (az.fa _ _ _ _) fun c=> .ite (az.b1 _ _ _ _) (az.b1 _ _ _ _)
 |For tgt it body vu p=>exact bC.ite (.aD (az.mr _ _ _ _ _ _) fun r=> .el (az.forL _ _ _ _ _ _)) (.bad _)
 |Return e p=>exact bC.aD (.lift _) fun e=> .aD (az.ev _ _ _ _) fun r=> .ret _
 |Delete ts p=>exact bC.aD (.lift _) fun q=> .ite (.bad _) (.aD (az.ev _ _ _ _) fun r=> .aD (rP _ _ _) fun l=> .aD (.lift _) fun k=> .aD (.el (.lift _)) fun j=> .ret _)
 |Assert t m p=>exact bC.ite (.aD (az.fa _ _ _ _) fun c=> .ite (.ret _) (.bad _)) (.bad _)
 |Break p=>exact .ret _
 |Continue p=>exact .ret _
 |Pass p=>exact .ret _
 |Expr e p=>exact bC.aD (.lift _) fun q=> .ite (.aD (.lift _) fun a=> .elim (.aD (az.d5 _ _ _ _) fun r=> .aD (.lift _) fun p=> .aD (rP _ _ _) fun l=> .ret _) fun mS=> .aD (az.ev _ _ _ _) fun r=> .aD (rP _ _ _) fun l=> .aD (rP _ _ _) fun f=> .aD (.lift _) fun p=> .aD (.el (.lift _)) fun j=> .aD (.el (.lift _)) fun j=> .ite (.bad _) (.ret _)) (.ite (.aD (.lift _) fun di=> .aD (az.d5 _ _ _ _) fun r=> .aD (.lift _) fun p=> .aD (rP _ _ _) fun l=> .aD (.lift _) fun k=> .need (.ret _)) (.bad _))
 |_=>exact .bad _
end
theorem rO: ∀n,Cc n
 |0=>⟨fun _ _ _ _=> .bad _,fun _ _ _ _=> .bad _,fun _ _ _ _=> .bad _,fun _ _ _ _=> .bad _,fun _ _ _ _=> .bad _,fun _ _ _ _ _=> .bad _,fun _ _ _ _ _ _=> .bad _,fun _ _ _ _=> .bad _,fun _ _ _ _ _=> .bad _,fun _ _ _ _ _ _=> .bad _,fun _ _ _ _ _=> .bad _,fun _ _ _ _=> .bad _,fun _ _ _ _ _ _ _=> .bad _,fun _ _ _ _=> .bad _,fun _ _ _ _=> .bad _,fun _ _ _ _=> .bad _,fun _ _ _ _ _ _=> .bad _,fun _ _ _ _=> .bad _⟩
 |n+1=>have az:=rO n;⟨Xs az,XD az,XE az,Xu az,Xv az,Xo az,Xq az,XF az,XG az,XA az,XB az,XC az,Xr az,Xp az,Xx az,Xy az,Xz az,Xw az⟩
theorem eq_not {p q:I} {b:Bool} (h:eX p q=some b):fe .NotEq p q=some (!b):=congrArg (N0 fun x=> !x) h
theorem p9 {p q:I} {b:Bool} (h:iF p q=some b):fe .NotIn p q=some (!b):=congrArg (N0 fun x=> !x) h
theorem bC.run {α:Type} {m:dY α} {o:Option α} (L:bC m o) (bk:List Fact) {r:α} (h:m bk True= .ok r [] (eqns bk True)):o=some r:=(L _ _ _ _ _ h (IM bk trivial)).2
section
variable {n:Nat} {cx:a'} {σ:ar} {w:W} (bk:List Fact)
theorem qr {e:Expr} {r:I×W} (h:rev n cx e σ w bk True= .ok r [] (eqns bk True):=by kernel_rfl):ev n cx e σ w=some r:=((rO n).ev _ _ _ _).run bk h
theorem abl {e:Expr} {r:Bool×W} (h:r3 n cx e σ w bk True= .ok r [] (eqns bk True):=by kernel_rfl):fa n cx e σ w=some r:=((rO n).fa _ _ _ _).run bk h
theorem Mu {op:BoolOp} {e:List Expr} {r:Bool×W} (h:ug n cx op e σ w bk True= .ok r [] (eqns bk True):=by kernel_rfl):fY n cx op e σ w=some r:=((rO n).fY _ _ _ _ _).run bk h
theorem fy {d:iN} {vs:List I} {r:I×W} (h:AL n cx d vs w bk True= .ok r [] (eqns bk True):=by kernel_rfl):cn n cx d vs w=some r:=((rO n).cn _ _ _ _).run bk h
theorem cq {st:bY} {r:ej×ar×W} (h:AN n cx st σ w bk True= .ok r [] (eqns bk True):=by kernel_rfl):ex n cx st σ w=some r:=((rO n).ex _ _ _ _).run bk h
theorem fp {st:List bY} {r:ej×ar×W} (h:qo n cx st σ w bk True= .ok r [] (eqns bk True):=by kernel_rfl):b1 n cx st σ w=some r:=((rO n).b1 _ _ _ _).run bk h
end
theorem YM {a b:Int} (h:b≠0):cv .Mod (.int a) (.int b)=some (.int (a.fmod b)):=if_pos h
theorem mod_eq {a b k:Int} (h:b≠0) (e:a.fmod b=k):cv .Mod (.int a) (.int b)=some (.int k):=e▸YM h
theorem yR {a b:Int} (h:b≠0) (U:b.natAbs<1073741824):cv .FloorDiv (.int a) (.int b)=some (.int (a.fdiv b)):=if_pos ⟨h,U⟩
theorem add_str {x y:Str} (h:x.length+y.length≤1048576):cv .Add (.str x) (.str y)=some (.str (x++y)):=if_pos h
theorem Yj {a b:Int} (h: ¬a<b):fe .Lt (.int a) (.int b)=some false:=congrArg some (decide_eq_false h)
theorem UB {a b:Int} (h:b<a):fe .Gt (.int a) (.int b)=some true:=congrArg some (decide_eq_true h)
theorem UA {a b:Int} (h: ¬b<a):fe .Gt (.int a) (.int b)=some false:=congrArg some (decide_eq_false h)
theorem Um {a b:Int} (h:b≤a):fe .GtE (.int a) (.int b)=some true:=congrArg some (decide_eq_true h)
noncomputable def dg (goes:List (List Nat)):Nat→Nat→Nat:=fun q j=>(goes.getD q []).getD j 0
structure hZ (goes:List (List Nat)) (c:Nat):Prop where
 pos:0<goes.length
 le:goes.length≤6
 one:0<c
 eu:c≤3
 row: ∀r∈goes,r.length=c
 lt: ∀r∈goes,∀x∈r,x<goes.length
section
variable {goes:List (List Nat)} {c:Nat} {p:Nat}
theorem hZ.get (T:hZ goes c) (ag:p<goes.length): ∃row,goes[p]?=some row∧row.length=c∧row∈goes∧(∀j,dg goes p j=row.getD j 0):=by
 refine ⟨goes[p],hy ag,T.row _ (uR ag),uR ag,fun j=> ?_⟩
 unfold dg
 have:goes.getD p []=goes[p]:=by rw[iL,hy ag];rfl
 rw[this]
theorem hZ.range (T:hZ goes c) (ag:p<goes.length) {j:Nat} (aP:j<c):dg goes p j<goes.length:=by
 obtain ⟨row,J,U,av,a0⟩:=T.get ag
 rw[a0,iL,hy (U▸aP)]
 exact T.lt _ av _ (uR _)
theorem hZ.PU (T:hZ goes c) (ag:p<goes.length):back (dg goes) c p<goes.length:=by
 unfold back
 split
 ·exact T.pos
 ·exact T.range ag (by have:=T.one;exact BN this)
theorem hZ.Nj (T:hZ goes c) (ag:p<goes.length): ∀k,trail (dg goes) c k p<goes.length
 |0=>ag
 |k+1=>T.PU (T.Nj ag k)
end
theorem aaA (a b:Nat):eX (ak a) (.int b)=some (decide (a=b)):=by
 unfold ak
 rw[AG]
 congr 1
 rw[decide_eq_decide]
 exact uT
theorem nM (a:Nat):eX (ak a) (.int 0)=some (decide (a=0)):=aaA a 0
theorem w7 {goes:List (List Nat)} {p:Nat} {row:List Nat} (h:goes[p]?=some row) (ag:p<1000):cz (cp goes) (ak p)=some (bJ row):=
 iY (by rw[dF,h];rfl) (by exact iA ag rfl)
theorem LY {l:List Nat} {p x:Nat} (h:l[p]?=some x) (ag:p<1000):cz (bJ l) (ak p)=some (ak x):=
 iY (by rw[dF,h];rfl) (by exact iA ag rfl)
theorem LZ {l:List Nat} {x:Nat} (h:l.getLast?=some x):cz (bJ l) (.int (-1))=some (ak x):=
 Km (by rw[ae8,h];rfl)
theorem XI {goes:List (List Nat)} {c p:Nat} (T:hZ goes c) (ag:p<goes.length) {n d:Nat} {w:W} (met pl t:I):b1 (n+30) ⟨bw,d,(aq 21).scope⟩ (c0 (aO (c0 (aO (aq 21).body 0)) 1)) [(S "goes",.val (cp goes)),(S "met",.val met),(S "place",.val pl),(S "spot",.val (ak p)),(S "_",.val t)] w=some (.next,[(S "goes",.val (cp goes)),(S "met",.val met),(S "place",.val pl),(S "spot",.val (ak (back (dg goes) c p))),(S "_",.val t)],w):=by
 unfold back
 by_cases h:p=0
 ·subst h
  rw[if_pos rfl]
  exact fp [.b ⟨_,_,(eq_not (@nM (0)))⟩]
 ·obtain ⟨row,J,U,av,a0⟩:=T.get ag
  have ai:row.getLast?=some (dg goes p (c-1)):=by
   have:=T.one
   rw[OK,U,a0,iL,hy (by exact aH (aI (eq1 U) (eY (show 1≤c from aH (bL this)))))]
   rfl
  have VH:p<1000:=by have:=T.le;exact aH (aI (bL ag) this)
  rw[if_neg h]
  exact fp [.b ⟨_,_,(eq_not ((@nM (p)).trans (congrArg some (decide_eq_false h))))⟩,.v ⟨_,_,@w7 _ _ _ J VH⟩,.go,.v ⟨_,_,@LZ _ _ ai⟩]
section
variable {cx:a'} {σ:ar} {w:W} {x:Str} {tgt:Expr} {body:List bY} {items:List I} {St:Type} {B:St→I→ar} {P:Nat→St→Prop} {s0:St} {c N:Nat}
theorem tf (ae: ∀v σ,gc cx.sc tgt v σ=some (σ.set x (.val v))) (kf: ∀s v u,(B s v).set x (.val u)=B s u) (h0: ∀v,σ.set x (.val v)=B s0 v) (bS:P 0 s0) (eJ:items≠[]) (oA:c+items.length+1≤N)
  (step: ∀j p s,items[j]?=some p→P j s→ ∃s' fl,P (j+1) s'∧(fl= .next∨fl= .cont)∧ ∀n,b1 (n+c) cx body (B s p) w=some (fl,B s' p,w)):
  ∃s v,P items.length s∧ ∀n,forL (n+N) cx tgt body items σ w=some (.next,B s v,w):=by
 have key:=T2 (cx:=cx) (tgt:=tgt) (body:=body) (Inv:=fun j σ' w'=>w'=w∧ ∃s,P j s∧(∀v,σ'.set x (.val v)=B s v)∧(0<j→ ∃v,σ'=B s v)) c items 0 σ w (by
  intro i p σ' w' aB hinv
  rw[kA] at hinv
  obtain ⟨rfl,s,av,a0,bp⟩:=hinv
  obtain ⟨s',fl,bQ,er,ew⟩:=step i p s aB av
  refine ⟨B s p,fl,B s' p,w',?_,er,ew,rfl,s',by rw[kA];exact bQ,fun v=>kf s' p v,fun _=>⟨p,rfl⟩⟩
  rw[ae,a0]) ⟨rfl,s0,bS,h0,fun h=>absurd h (nT 0)⟩
 obtain ⟨σ1,w1,J,rfl,s,av,a0,bp⟩:=key
 rw[kA] at av bp
 obtain ⟨v,rfl⟩:=bp (ae9.mpr eJ)
 exact ⟨s,v,av,@fuel _ (fun n=>forL n _ _ _ _ _ _) (c+items.length+1) N _ (fun n=>by have:=J n;rwa [show n+c+items.length+1=n+(c+items.length+1) by simp+arith only] at this) oA⟩
theorem Mo {K j:Nat} {p:I} (h:((bI K).map ak)[j]?=some p):ak j=p∧j<K:=by
 have aP:j<K:=by
  have:=(hW.mp h).1
  rwa [bV,fE] at this
 rw[dF,jv aP] at h
 exact ⟨inj h,aP⟩
theorem Mp {K:Nat}:((bI K).map ak).length=K:=by rw[bV,fE]
theorem forR {K:Nat} (ae: ∀v σ,gc cx.sc tgt v σ=some (σ.set x (.val v))) (kf: ∀s v u,(B s v).set x (.val u)=B s u) (h0: ∀v,σ.set x (.val v)=B s0 v) (bS:P 0 s0) (cj:0<K) (oA:c+K+1≤N)
  (step: ∀j s,j<K→P j s→ ∃s' fl,P (j+1) s'∧(fl= .next∨fl= .cont)∧ ∀n,b1 (n+c) cx body (B s (ak j)) w=some (fl,B s' (ak j),w)):
  ∃s v,P K s∧ ∀n,forL (n+N) cx tgt body ((bI K).map ak) σ w=some (.next,B s v,w):=by
 have h:=tf (items:=(bI K).map ak) (N:=N) ae kf h0 bS (fun z=>ju cj (List.range_eq_nil.mp (xS.mp z))) (by rw[Mp];exact oA) fun j p s aP ag=>(Mo aP).1▸step j s (Mo aP).2 ag
 rwa [Mp] at h
theorem T4 {Out:ej×ar×W→Prop} (ae: ∀v σ,gc cx.sc tgt v σ=some (σ.set x (.val v))) (kf: ∀s v u,(B s v).set x (.val u)=B s u) (h0: ∀v,σ.set x (.val v)=B s0 v) (bS:P 0 s0) (eJ:items≠[]) (oA:c+items.length+1≤N)
  (step: ∀j p s,items[j]?=some p→P j s→ ∃r,(∀n,b1 (n+c) cx body (B s p) w=some r)∧((∃s',P (j+1) s'∧(r.1= .next∨r.1= .cont)∧r.2=(B s' p,w))∨(∃v,r.1= .ret v∧Out r)∨(r.1= .brk∧Out (.next,r.2))))
  (fin: ∀s v,P items.length s→Out (.next,B s v,w)):
  ∃r,(∀n,forL (n+N) cx tgt body items σ w=some r)∧Out r:=by
 have key:=I8 (cx:=cx) (tgt:=tgt) (body:=body) (Out:=Out) (Inv:=fun j σ' w'=>w'=w∧ ∃s,P j s∧(∀v,σ'.set x (.val v)=B s v)∧(0<j→ ∃v,σ'=B s v)) c items 0 σ w (by
  intro i p σ' w' aB hinv
  rw[kA] at hinv
  obtain ⟨rfl,s,av,a0,bp⟩:=hinv
  obtain ⟨r,bQ,er⟩:=step i p s aB av
  refine ⟨B s p,r,by rw[ae,a0],bQ,?_⟩
  obtain ⟨fl,bH⟩:=r
  rcases er with ⟨s',ew,fR,mg⟩|⟨v,ew,fR⟩|⟨ew,fR⟩
  ·have mg:bH=(B s' p,w'):=mg
   subst mg
   have inv:(w'=w'∧ ∃s,P (0+i+1) s∧(∀v,(B s' p).set x (.val v)=B s v)∧(0<0+i+1→ ∃v,B s' p=B s v)):=⟨rfl,s',by rw[kA];exact ew,fun v=>kf s' p v,fun _=>⟨p,rfl⟩⟩
   rcases fR with fR|fR<;>(have fR:fl=_:=fR;subst fR;exact inv)
  ·have ew:fl=_:=ew
   subst ew;exact fR
  ·have ew:fl=_:=ew
   subst ew;exact fR) (by
  intro σ' w' hinv
  obtain ⟨rfl,s,av,a0,bp⟩:=hinv
  rw[kA] at av bp
  obtain ⟨v,rfl⟩:=bp (ae9.mpr eJ)
  exact fin s v av) ⟨rfl,s0,bS,h0,fun h=>absurd h (nT 0)⟩
 obtain ⟨r,J,U⟩:=key
 exact ⟨r,@fuel _ (fun n=>forL n _ _ _ _ _ _) (c+items.length+1) N _ (fun n=>by have:=J n;rwa [show n+c+items.length+1=n+(c+items.length+1) by simp+arith only] at this) oA,U⟩
end
theorem XJ {goes:List (List Nat)} {c:Nat} (T:hZ goes c) {met:List Nat} (hm: ∀p∈met,p<goes.length) (eJ:met≠[]) (Vq:met.length≤6) {n d:Nat} {sc:Scope} {w:W}:
  cn (n+100) ⟨bw,d+1,sc⟩ (aq 21) [cp goes,bJ met] w=some (.bool (decide (∀p∈met,trail (dg goes) c goes.length p=0)),w):=by
 have key: ∀s:Option (I×I),∀p<goes.length,∃t,∀n,b1 (n+60) ⟨bw,d,(aq 21).scope⟩ (c0 (aO (aq 21).body 0)) (match s with|none=>[(S "goes",.val (cp goes)),(S "met",.val (bJ met)),(S "place",.val (ak p))]|some (a,b)=>[(S "goes",.val (cp goes)),(S "met",.val (bJ met)),(S "place",.val (ak p)),(S "spot",.val a),(S "_",.val b)]) w=
   some (if trail (dg goes) c goes.length p=0 then ej.next else .ret (.bool false),[(S "goes",.val (cp goes)),(S "met",.val (bJ met)),(S "place",.val (ak p)),(S "spot",.val (ak (trail (dg goes) c goes.length p))),(S "_",.val t)],w):=by
  intro s p ag
  obtain ⟨sp,t,J,U⟩:=tf (cx:=⟨bw,d,(aq 21).scope⟩) (σ:=match s with|none=>[(S "goes",.val (cp goes)),(S "met",.val (bJ met)),(S "place",.val (ak p)),(S "spot",.val (ak p))]|some (a,b)=>[(S "goes",.val (cp goes)),(S "met",.val (bJ met)),(S "place",.val (ak p)),(S "spot",.val (ak p)),(S "_",.val b)]) (w:=w) (x:=S "_") (tgt:=hu (aO (c0 (aO (aq 21).body 0)) 1)) (body:=c0 (aO (c0 (aO (aq 21).body 0)) 1)) (items:=goes.map bJ) (s0:=p) (c:=30) (N:=40)
   (B:=fun s v=>[(S "goes",.val (cp goes)),(S "met",.val (bJ met)),(S "place",.val (ak p)),(S "spot",.val (ak s)),(S "_",.val v)])
   (P:=fun j s=>s=trail (dg goes) c j p) (by intros;kernel_rfl) (by intros;kernel_rfl) (by intro v;cases s<;>kernel_rfl) rfl (by
    have:=T.pos
    intro z;rw[xS] at z;rw[z] at this;exact absurd this (nT 0)) (by have:=T.le;rw[bV];exact aH this) (fun j q s' _ h=>⟨_,.next,rfl,.inl rfl,fun n=>by
     subst h
     exact XI T (T.Nj ag _) _ _ _⟩)
  rw[bV] at J
  subst J
  refine ⟨t,fun n=> ?_⟩
  by_cases a6:trail (dg goes) c goes.length p=0
  ·rw[if_pos a6]
   cases s with
   |none=>exact fp [.f ⟨_,_,(@U (n+17))⟩,.b ⟨_,_,(eq_not ((@nM (trail (dg goes) c goes.length p)).trans (congrArg some (decide_eq_true a6))))⟩]
   |some Co=>obtain ⟨a,b⟩:=Co;exact fp [.f ⟨_,_,(@U (n+17))⟩,.b ⟨_,_,(eq_not ((@nM (trail (dg goes) c goes.length p)).trans (congrArg some (decide_eq_true a6))))⟩]
  ·rw[if_neg a6]
   cases s with
   |none=>exact fp [.f ⟨_,_,(@U (n+17))⟩,.b ⟨_,_,(eq_not ((@nM (trail (dg goes) c goes.length p)).trans (congrArg some (decide_eq_false a6))))⟩]
   |some Co=>obtain ⟨a,b⟩:=Co;exact fp [.f ⟨_,_,(@U (n+17))⟩,.b ⟨_,_,(eq_not ((@nM (trail (dg goes) c goes.length p)).trans (congrArg some (decide_eq_false a6))))⟩]
 obtain ⟨r,J,U⟩:=T4 (cx:=⟨bw,d,(aq 21).scope⟩) (σ:=[(S "goes",.val (cp goes)),(S "met",.val (bJ met))]) (w:=w) (x:=S "place") (tgt:=hu (aO (aq 21).body 0)) (body:=c0 (aO (aq 21).body 0)) (items:=met.map ak) (St:=Option (I×I)) (s0:=none) (c:=60) (N:=80)
  (B:=fun s v=>match s with|none=>[(S "goes",.val (cp goes)),(S "met",.val (bJ met)),(S "place",.val v)]|some (a,b)=>[(S "goes",.val (cp goes)),(S "met",.val (bJ met)),(S "place",.val v),(S "spot",.val a),(S "_",.val b)])
  (P:=fun j s=> ∀p∈met.take j,trail (dg goes) c goes.length p=0)
  (Out:=fun r=> ∃σ',r=(if decide (∀p∈met,trail (dg goes) c goes.length p=0) then ej.next else .ret (.bool false),σ',w))
  (by intros;kernel_rfl) (by intro s v u;rcases s with _|⟨a,b⟩<;>kernel_rfl) (by intros;kernel_rfl) (by intro p ag;cases ag) (by intro z;exact eJ (xS.mp z)) (by rw[bV];exact aH Vq)
  (by
   intro j v s aP bS
   rw[dF,o9] at aP
   obtain ⟨p,aP,rfl⟩:=aP
   have lD:=iK aP
   obtain ⟨t,aS⟩:=key s p (hm p lD)
   refine ⟨_,aS,?_⟩
   by_cases a6:trail (dg goes) c goes.length p=0
   ·left
    refine ⟨some (_,_),fun q aG=> ?_,.inl (if_pos a6),rfl⟩
    rw[OM,aP] at aG
    rcases uO.mp aG with aG|aG
    ·exact bS q aG
    ·rw[fs.mp aG];exact a6
   ·right;left
    refine ⟨.bool false,if_neg a6,[(S "goes",.val (cp goes)),(S "met",.val (bJ met)),(S "place",.val (ak p)),(S "spot",.val (ak (trail (dg goes) c goes.length p))),(S "_",.val t)],?_⟩
    have: ¬ ∀p∈met,trail (dg goes) c goes.length p=0:=fun z=>a6 (z p lD)
    rw[if_neg a6,decide_eq_false this];rfl)
  (by
   intro s v bS
   rw[bV,xE] at bS
   exact ⟨_,by rw[decide_eq_true bS];rfl⟩)
 obtain ⟨σ',rfl⟩:=U
 clear key
 cases a6:decide (∀p∈met,trail (dg goes) c goes.length p=0) with
 |true=>
  rw[a6] at J
  exact fy [.f ⟨_,_,(@J (n+17))⟩]
 |false=>
  rw[a6] at J
  exact fy [.f ⟨_,_,(@J (n+17))⟩]
structure Enc {α:Type} [DecidableEq α] (f:α→I) (g:α→i7) (ok:α→Prop) (m:Nat):Prop where
 toD: ∀x,ok x→toD (f x)=some (g x)
 lay: ∀x,ok x→(g x).canLay0=true
 dep: ∀x,ok x→(g x).depth≤m
 eqv: ∀x y,ok x→ok y→i8 (g x) (g y)=decide (x=y)
section
variable {α:Type} [DecidableEq α] {f:α→I} {g:α→i7} {ok:α→Prop} {m:Nat}
theorem FI (E:Enc f g ok m): ∀{l:List α},(∀x∈l,ok x)→iI (l.map f)=some (l.map g):=by
 intro bq
 induction bq with
 |nil=>
  intro _
  exact rfl
 |cons a l ay=>
  intro h
  rw[fD,iI,E.toD a (h a eZ),ay fun x ae=>h x (e0 _ ae)]
  rfl
theorem KJ (E:Enc f g ok m): ∀{l:List α},(∀x∈l,ok x)→Gi (l.map g)=true:=by
 intro bq
 induction bq with
 |nil=>
  intro _
  rw[xT,Gi]
 |cons a l ay=>
  intro h
  rw[fD,Gi,E.lay a (h a eZ),ay fun x ae=>h x (e0 _ ae)]
  rfl
theorem Iw (E:Enc f g ok m): ∀{l:List α},(∀x∈l,ok x)→ON (l.map g)≤m:=by
 intro bq
 induction bq with
 |nil=>
  intro _
  rw[xT,ON];exact e3 _
 |cons a l ay=>
  intro h
  rw[fD,ON]
  exact Nat.max_le.mpr ⟨E.dep a (h a eZ),ay fun x ae=>h x (e0 _ ae)⟩
theorem AZ (E:Enc f g ok m) (hm:m≤60) {x:α} (h:ok x):shaped (g x)=true:=by
 have:=E.dep x h
 unfold shaped
 rw[E.lay x h,decide_eq_true (by exact aH (aI hm this))];rfl
theorem MJ (E:Enc f g ok m) (hm:m≤60) {l:List α} (h: ∀x∈l,ok x):shaped (.list (l.map g))=true:=by
 have:=Iw E h
 unfold shaped
 have J:(PyData.list (l.map g)).canLay0=true:=by rw[xK];exact KJ E h
 have U:(PyData.list (l.map g)).depth≤64:=by rw[xM];exact aH (aI hm this)
 rw[J,decide_eq_true U];rfl
theorem ifs {b:Bool} {α:Type} {x y:α} (h:b=true):(if b then x else y)=x:=if_pos h
theorem Enc.eq (E:Enc f g ok m) (hm:m≤60) {x y:α} (ae:ok x) (bl:ok y):eX (f x) (f y)=some (decide (x=y)):=by
 show IL (Mine.toD (f x)) (Mine.toD (f y)) _=_
 rw[E.toD x ae,E.toD y bl]
 exact (ifs (by rw[AZ E hm ae,AZ E hm bl];rfl)).trans (congrArg some (E.eqv x y ae bl))
theorem PD (E:Enc f g ok m) {x:α} (ae:ok x): ∀{l:List α},(∀x∈l,ok x)→((l.map g).any fun y=>i8 y (g x))=decide (x∈l):=by
 intro bq
 induction bq with
 |nil=>
  intro _
  rfl
 |cons a l ay=>
  intro h
  rw[fD,List.any_cons,E.eqv a x (h a eZ) ae,ay fun x ae=>h x (e0 _ ae)]
  rw[hz]
  simp only[uG,decide_eq_true_eq,d3]
  constructor
  ·rintro (h|h)
   ·exact .inl h.symm
   ·exact .inr h
  ·rintro (h|h)
   ·exact .inl h.symm
   ·exact .inr h
theorem Enc.isIn (E:Enc f g ok m) (hm:m≤60) {x:α} {l:List α} (ae:ok x) (h: ∀x∈l,ok x):iF (f x) (.list (l.map f))=some (decide (x∈l)):=by
 show D9 (Mine.toD (f x)) (iI (l.map f))=_
 rw[E.toD x ae,FI E h]
 exact (ifs (by rw[AZ E hm ae,MJ E hm h];rfl)).trans (congrArg some (PD E ae h))
theorem TG (E:Enc f g ok m) {x:α} (ae:ok x): ∀{l:List α},(∀x∈l,ok x)→((l.map g).findIdx? fun y=>i8 y (g x))=l.findIdx? (fun y=>decide (y=x)):=by
 intro bq
 induction bq with
 |nil=>
  intro _
  rfl
 |cons a l ay=>
  intro h
  rw[fD,N9,N9,E.eqv a x (h a eZ) ae,ay fun x ae=>h x (e0 _ ae)]
theorem Enc.index (E:Enc f g ok m) (hm:m≤60) {x:α} {l:List α} (ae:ok x) (h: ∀x∈l,ok x) (ai:l.length≤1048576):idxOf (f x) (l.map f)=l.findIdx? (fun y=>decide (y=x)):=by
 show D7 _ (Mine.toD (f x)) (iI (l.map f))=_
 rw[E.toD x ae,FI E h]
 exact (ifs (by rw[AZ E hm ae,MJ E hm h,bV,decide_eq_true ai];rfl)).trans (TG E ae h)
theorem Enc.list (E:Enc f g ok m):Enc (fun l:List α=> .list (l.map f)) (fun l=> .list (l.map g)) (fun l=> ∀x∈l,ok x) (m+1) where
 toD l h:=by show (iI (l.map f)).map PyData.list=_;rw[FI E h];rfl
 lay l h:=by rw[xK];exact KJ E h
 dep l h:=by rw[xM];have:=Iw E h;exact uQ this _
 eqv l k J U:=by
  rw[i8]
  induction l generalizing k with
  |nil=>cases k with
   |nil=>rw[xT,GJ];rfl
   |cons b k=>rw[xT,fD,GJ];rfl
  |cons a l ay=>cases k with
   |nil=>rw[xT,fD,GJ];rfl
   |cons b k=>
    rw[fD,fD,GJ,E.eqv a b (J a eZ) (U b eZ),ay k (fun x ae=>J x (e0 _ ae)) (fun x ae=>U x (e0 _ ae)),hz]
    simp
end
theorem vv:Enc ak (fun n=>PyData.int n) (fun _=>True) 0 where
 toD _ _:=rfl
 lay _ _:=by rw[xK]
 dep _ _:=by rw[xM];exact a3 _
 eqv x y _ _:=by
  rw[i8,hz]
  simp only[beq_iff_eq,decide_eq_true_eq]
  exact uT
theorem encStr:Enc I.str PyData.str (fun x=>d8 x=true) 0 where
 toD _ _:=rfl
 lay _ h:=by rw[xK];exact h
 dep _ _:=by rw[xM];exact a3 _
 eqv x y _ _:=by rw[i8,hz];rfl
theorem w9 (a:Nat) (l:List Nat):iF (ak a) (.list (l.map ak))=some (decide (a∈l)):=vv.isIn (by decide) trivial fun _ _=>trivial
noncomputable def WL:Slot→Bool
 | .own _=>true
 |_=>false
theorem Ja {xs:List Str}: ∀{σ:ar},σ.any (fun x=>WL x.2)=false→σ.freeze xs=σ:=by
 intro σ
 induction σ with
 |nil=>intro _;rfl
 |cons aee σ ay=>
  intro h
  obtain ⟨y,u⟩:=aee
  obtain ⟨J,U⟩:=Bv.mp h
  refine congr (congrArg List.cons (congrArg (Prod.mk y) ?_)) (ay U)
  split
  ·cases u with
   |own=>exact (hB J.symm).elim
   |_=>rfl
  ·rfl
noncomputable def PM:bY→Option Str
 | .Assign ts _ _=>(m6 ts).bind kV
 |_=>none
noncomputable def isIf:bY→Bool
 | .If .. =>true
 |_=>false
section
variable {cx:a'} {σ:ar} {w:W} {n:Nat} {st:bY} {x:Str}
theorem Tf (h:PM st=some x) (hm:dq cx.sc x=true) (hf:wm (valueOf st)=false):ex (n+2) cx st σ w=(ev n cx (valueOf st) (σ.freeze (bG 30 true (valueOf st))) w).bind fun r=>some (.next,(σ.freeze (bG 30 true (valueOf st))).set x (.val r.1),r.2):=by
 cases st with
 |Assign ts e p=>
  refine aN h fun t aS h=>en (oW h) fun q aG=> ?_
  have aE:rj (n+1) cx e (σ.freeze (bG 30 true e)) w=_:=if_neg (by rw[show wm e=false from hf];exact hB)
  rw[pE aS,aG]
  exact (if_pos hm).trans ((congrArg (bf · _) aE).trans (Option.bind_assoc ..))
 |_=>exact (nn h).elim
theorem Tw (h:isIf st=true):ex (n+1) cx st σ w=(fa n cx (valueOf st) (σ.freeze (bG 30 false (valueOf st))) w).bind fun c=>if c.1 then b1 n cx (Kn st) (σ.freeze (bG 30 false (valueOf st))) c.2 else b1 n cx (Wy st) (σ.freeze (bG 30 false (valueOf st))) c.2:=by
 cases st with
 |If=>rfl
 |_=>exact (hB h).elim
end
theorem AD {i n:Nat} (h:i<n) (aT:i<1152921504606846976):gV (i:Int) n=some i:=by
 unfold gV
 rw[r7 aT,if_pos rfl,Fm h]
noncomputable def mC (p:Nat) (met:List Nat) (o:Nat):List Nat:=if p∈met∧o∉met then met++[o] else met
theorem Yx {n d:Nat} {w:W} (G t:I) (met:List Nat) (hm:met.length≤1000) (p o:Nat):b1 (n+40) ⟨bw,d,(aq 20).scope⟩ (c0 (aO (c0 (aO (c0 (aO (aq 20).body 1)) 0)) 0)) [(S "goes",.val G),(S "met",.own (met.map ak)),(S "_",.val t),(S "place",.val (ak p)),(S "other",.val (ak o))] w=
  some (.next,[(S "goes",.val G),(S "met",.own ((mC p met o).map ak)),(S "_",.val t),(S "place",.val (ak p)),(S "other",.val (ak o))],w):=by
 have ai:(met.map ak).length≤1048576:=by rw[bV];exact bX hm rfl
 by_cases J:p∈met
 ·by_cases U:o∈met
  ·rw[show mC p met o=met from if_neg fun h=>h.2 U]
   exact fp [.b ⟨_,_,((@w9 (p) (met)).trans (congrArg some (decide_eq_true J)))⟩,.b ⟨_,_,(p9 ((@w9 (o) (met)).trans (congrArg some (decide_eq_true U))))⟩]
  ·rw[show mC p met o=met++[o] from if_pos ⟨J,U⟩,mY]
   exact fp [.b ⟨_,_,((@w9 (p) (met)).trans (congrArg some (decide_eq_true J)))⟩,.b ⟨_,_,(p9 ((@w9 (o) (met)).trans (congrArg some (decide_eq_false U))))⟩,.p _ ai]
 ·rw[show mC p met o=met from if_neg fun h=>J h.1]
  exact fp [.b ⟨_,_,((@w9 (p) (met)).trans (congrArg some (decide_eq_false J)))⟩]
theorem i5 {k:Nat} (h:k<1000000):i4 [.int (k:Int)]=some ((bI k).map ak):=by
 show (if small (k:Int) then some (intsFrom 0 (k:Int).toNat) else none)=_
 rw[r7 (by exact iA h rfl),if_pos rfl]
 unfold intsFrom
 congr 1
 apply BG
 intro i _
 show I.int (0+(i:Int))= .int (i:Int)
 rw[Int.zero_add]
theorem nd {l:List I} (h:l.length≤1048576):gd (ab "len") [.list l]=some (.int l.length):=(show _=(if l.length≤1048576 then some (I.int l.length) else none) from by kernel_rfl).trans (if_pos h)
theorem vd {x:Str} (h:x.length≤1048576):gd (ab "len") [.str x]=some (.int x.length):=(show _=(if x.length≤1048576 then some (I.int x.length) else none) from by kernel_rfl).trans (if_pos h)
noncomputable def oS (p:Nat) (met row:List Nat):List Nat:=row.foldl (mC p) met
noncomputable def jL (goes:List (List Nat)) (met:List Nat):List Nat:=(bI goes.length).foldl (fun m p=>oS p m (goes.getD p [])) met
noncomputable def hM (goes:List (List Nat)):Nat→List Nat
 |0=>[0]
 |k+1=>jL goes (hM goes k)
structure ij (K:Nat) (met:List Nat):Prop where
 mG:met.Nodup
 lt: ∀x∈met,x<K
 zero:0∈met
theorem ZA {K:Nat}: ∀{l:List Nat},l.Nodup→(∀x∈l,x<K)→l.length≤K:=by
 induction K with
 |zero=>intro l _ h;cases l with
  |nil=>exact a3 _
  |cons a l=>exact absurd (h a eZ) (GH _)
 |succ K ay=>
  intro l aT h
  have J:(l.erase K).Nodup:=aT.erase K
  have U:=ay J fun x ae=>by
   have av:=(List.Nodup.mem_erase_iff aT).mp ae
   have a0:=h x av.2
   have bp:=av.1
   lia
  have av:l.length-1≤(l.erase K).length:=by
   rw[List.length_erase];split<;>(first|exact b0 rfl|exact hC _ _)
  exact aH (aI (aI U av) (fU (l.length) (1)))
theorem ij.len {K:Nat} {met:List Nat} (h:ij K met):met.length≤K:=ZA h.mG h.lt
theorem ij.step {K:Nat} {met:List Nat} (h:ij K met) {p o:Nat} (aV:o<K):ij K (mC p met o):=by
 unfold mC
 split
 ·rename_i ah
  refine ⟨?_,?_,afa _ h.zero⟩
  ·rw[afb]
   refine ⟨h.mG,by simp,fun a aJ b aa=> ?_⟩
   rw[fs.mp aa]
   intro z;rw[z] at aJ;exact ah.2 aJ
  ·intro x ae
   rcases uO.mp ae with ae|ae
   ·exact h.lt x ae
   ·rw[fs.mp ae];exact aV
 ·exact h
theorem Lb (p:Nat) (met:List Nat) (o:Nat): ∃l,mC p met o=met++l:=by
 unfold mC
 split
 ·exact ⟨_,rfl⟩
 ·exact ⟨[],(fF _).symm⟩
theorem ij.row {K:Nat} {p:Nat}: ∀{row met:List Nat},ij K met→(∀o∈row,o<K)→ij K (oS p met row):=by
 intro row
 induction row with
 |nil=>exact fun h _=>h
 |cons o row ay=>exact fun h aV=>ay (h.step (p:=p) (aV o eZ)) fun x ae=>aV x (e0 _ ae)
theorem Dk {β:Type} {f:List Nat→β→List Nat} (h: ∀m b,∃l,f m b=m++l): ∀(bs:List β) (m:List Nat),∃l,bs.foldl f m=m++l:=by
 intro bq
 induction bq with
 |nil=>
  intro m
  exact ⟨[],(fF _).symm⟩
 |cons b bs ay=>
  intro m
  obtain ⟨l,e⟩:=h m b
  obtain ⟨ec,aE⟩:=ay (f m b)
  exact ⟨l++ec,by rw[OO,aE,e,jY]⟩
theorem La (p:Nat) (met row:List Nat): ∃l,oS p met row=met++l:=Dk (Lb p) row met
theorem I6 {β:Type} {f:List Nat→β→List Nat} (h: ∀m b,∃l,f m b=m++l): ∀(bs:List β) (m:List Nat),bs.foldl f m=m→ ∀b∈bs,f m b=m:=by
 intro bq
 induction bq with
 |nil=>
  intro _ _ b aa
  cases aa
 |cons b bs ay=>
  intro m e aZ aa
  rw[OO] at e
  obtain ⟨l,aF⟩:=h m b
  obtain ⟨ec,aE⟩:=Dk h bs (f m b)
  have ai:l=[]:=by
   have:=congrArg sm (aE.symm.trans e)
   rw[aF] at this
   simp only[eP] at this
   exact afc (by exact f3 (aH (b0 this)) (by simp+arith only))
  have cb:f m b=m:=by rw[aF,ai,fF]
  rcases d3.mp aa with rfl|aa
  ·exact cb
  ·rw[cb] at e
   exact ay m e aZ aa
theorem Ys {goes:List (List Nat)} {met:List Nat} (h:jL goes met=met) {p:Nat} (ag:p<goes.length) (hm:p∈met): ∀o∈goes.getD p [],o∈met:=by
 have J:=I6 (f:=fun m p=>oS p m (goes.getD p [])) (fun m b=>La b m _) (bI goes.length) met h p (kB.mpr ag)
 intro o aV
 have U:=I6 (Lb p) (goes.getD p []) met J o aV
 by_cases z:o∈met
 ·exact z
 ·unfold mC at U
  rw[if_pos ⟨hm,z⟩] at U
  have:=congrArg sm U
  simp at this
theorem ij.all {K:Nat} {goes:List (List Nat)} (bM: ∀r∈goes,∀x∈r,x<K) {met:List Nat} (h:ij K met):ij K (jL goes met):=by
 unfold jL
 generalize bI goes.length=bs
 induction bs generalizing met with
 |nil=>exact h
 |cons b bs ay=>
  rw[OO]
  apply ay
  apply h.row
  intro o aV
  rw[iL] at aV
  cases e:goes[b]? with
  |none=>rw[e] at aV;cases aV
  |some r=>rw[e] at aV;exact bM r (iK e) o aV
theorem EJ {goes:List (List Nat)} {c:Nat} (T:hZ goes c): ∀k,ij goes.length (hM goes k):=by
 intro bq
 induction bq with
 |zero=>
  exact ⟨by simp[hM],fun x ae=>by rw[fs.mp ae];exact T.pos,fs.mpr rfl⟩
 |succ k ay=>
  exact (ay).all T.lt
theorem Yu {goes:List (List Nat)}: ∀k,jL goes (hM goes k)=hM goes k∨k+1≤(hM goes k).length:=by
 intro bq
 induction bq with
 |zero=>
  exact .inr (a3 _)
 |succ k ay=>
  by_cases z:jL goes (hM goes k)=hM goes k
  ·left;show jL goes (jL goes (hM goes k))=jL goes (hM goes k);rw[z,z]
  ·right
   have:=(ay).resolve_left z
   obtain ⟨l,e⟩: ∃l,jL goes (hM goes k)=hM goes k++l:=Dk (fun m b=>La b m _) _ _
   show k+1+1≤(jL goes (hM goes k)).length
   cases l with
   |nil=>rw[fF] at e;exact absurd e z
   |cons a l=>rw[e,eP,la];exact u4 this (ib _ _)
theorem Yt {goes:List (List Nat)} {c:Nat} (T:hZ goes c):jL goes (hM goes goes.length)=hM goes goes.length:=by
 rcases Yu (goes:=goes) goes.length with h|h
 ·exact h
 ·have:=(EJ T goes.length).len;lia
noncomputable def n2 (G:I) (m:List Nat) (t:I):Option (I×Option I)→ar
 |none=>[(S "goes",.val G),(S "met",.own (m.map ak)),(S "_",.val t)]
 |some (p,none)=>[(S "goes",.val G),(S "met",.own (m.map ak)),(S "_",.val t),(S "place",.val p)]
 |some (p,some o)=>[(S "goes",.val G),(S "met",.own (m.map ak)),(S "_",.val t),(S "place",.val p),(S "other",.val o)]
theorem YA {goes:List (List Nat)} {c:Nat} (T:hZ goes c) {p:Nat} (ag:p<goes.length) {m:List Nat} (hm:ij goes.length m) {d:Nat} {w:W} (t:I) (o:Option I):
  ∃v,∀n,b1 (n+60) ⟨bw,d,(aq 20).scope⟩ (c0 (aO (c0 (aO (aq 20).body 1)) 0)) (n2 (cp goes) m t (some (ak p,o))) w=some (.next,n2 (cp goes) (oS p m (goes.getD p [])) t (some (ak p,some v)),w):=by
 obtain ⟨row,J,U,av,a0⟩:=T.get ag
 have tH:goes.getD p []=row:=by rw[iL,J];rfl
 have cj:=T.le
 obtain ⟨fm,v,bp,bQ⟩:=tf (cx:=⟨bw,d,(aq 20).scope⟩) (σ:=n2 (cp goes) m t (some (ak p,o))) (w:=w) (x:=S "other") (tgt:=hu (aO (c0 (aO (c0 (aO (aq 20).body 1)) 0)) 0)) (body:=c0 (aO (c0 (aO (c0 (aO (aq 20).body 1)) 0)) 0)) (items:=row.map ak) (s0:=m) (c:=40) (N:=50)
  (B:=fun s v=>n2 (cp goes) s t (some (ak p,some v))) (P:=fun j s=>s=oS p m (row.take j)∧ij goes.length s)
  (by intros;kernel_rfl) (by intros;kernel_rfl) (by intro v;cases o<;>kernel_rfl) ⟨rfl,hm⟩ (by
   intro z;rw[xS] at z;rw[z] at U;have:=T.one;simp at U;exact fQ (aI (eq1 U) (bL this))) (by rw[bV,U];have:=T.eu;exact aH this)
  (fun j q s aP bS=>by
   rw[dF,o9] at aP
   obtain ⟨x,aP,rfl⟩:=aP
   refine ⟨mC p s x,.next,⟨?_,bS.2.step (T.lt row av x (iK aP))⟩,.inl rfl,fun n=>Yx _ _ _ (by have:=bS.2.len;exact aH (aI cj this)) _ _⟩
   rw[bS.1,OM,aP]
   unfold oS
   rw[GK];rfl)
 rw[bV,xE] at bp
 refine ⟨v,fun n=> ?_⟩
 rw[tH,←bp.1]
 have aF:bJ row= .list (row.map ak):=rfl
 have VM:=w7 J (by exact aH (aI (bL ag) cj):p<1000)
 cases o<;>exact fp [.v ⟨_,_,@VM⟩,.f ⟨_,_,(@bQ (n+8))⟩]
theorem Yy {goes:List (List Nat)} {c:Nat} (T:hZ goes c) {m:List Nat} (hm:ij goes.length m) {d:Nat} {w:W} (t:I) (o:Option (I×Option I)):
  ∃v,∀n,b1 (n+100) ⟨bw,d,(aq 20).scope⟩ (c0 (aO (aq 20).body 1)) (n2 (cp goes) m t o) w=some (.next,n2 (cp goes) (jL goes m) t (some v),w):=by
 have cj:=T.le
 have gU:=T.pos
 obtain ⟨fm,v,bp,bQ⟩:=forR (cx:=⟨bw,d,(aq 20).scope⟩) (σ:=n2 (cp goes) m t o) (w:=w) (x:=S "place") (tgt:=hu (aO (c0 (aO (aq 20).body 1)) 0)) (body:=c0 (aO (c0 (aO (aq 20).body 1)) 0)) (K:=goes.length) (s0:=(m,match o with|some (_,x)=>x|none=>none)) (c:=60) (N:=70)
  (B:=fun s v=>n2 (cp goes) s.1 t (some (v,s.2))) (P:=fun j s=>s.1=(bI j).foldl (fun m p=>oS p m (goes.getD p [])) m∧ij goes.length s.1)
  (by intros;kernel_rfl) (by rintro ⟨m,_|_⟩ v u<;>kernel_rfl) (by rcases o with _|⟨p,_|o⟩<;>(intro v;kernel_rfl)) ⟨rfl,hm⟩ (by exact gU) (by exact aH cj)
  (fun j s gy bS=>by
   obtain ⟨v,aQ⟩:=YA T gy bS.2 (d:=d) (w:=w) t s.2
   refine ⟨(oS j s.1 (goes.getD j []),some v),.next,⟨?_,bS.2.row fun o aV=> ?_⟩,.inl rfl,aQ⟩
   ·rw[lZ,GK,←bS.1];rfl
   ·rw[iL,hy gy] at aV
    exact T.lt _ (uR gy) o aV)
 refine ⟨(v,fm.2),fun n=> ?_⟩
 have gg:jL goes m=fm.1:=bp.1.symm
 rw[gg]
 have aF:gd (ab "len") [cp goes]=some (.int goes.length):=by
  have:=nd (l:=goes.map bJ) (by rw[bV];exact bX cj rfl)
  rw[bV] at this;exact this
 have aE:=i5 (k:=goes.length) (by exact h6 cj rfl)
 obtain ⟨fm,x⟩:=fm
 rcases o with _|⟨p,_|o⟩<;>rcases x with _|x<;>exact fp [.v ⟨_,_,@aF⟩,.u ⟨_,_,@aE⟩,.f ⟨_,_,(@bQ (n+28))⟩]
theorem Yz {goes:List (List Nat)} {c:Nat} (T:hZ goes c) {n d:Nat} {sc:Scope} {w:W}:cn (n+200) ⟨bw,d+1,sc⟩ (aq 20) [cp goes] w=some (bJ (hM goes goes.length),w):=by
 have cj:=T.le
 have gU:=T.pos
 obtain ⟨fm,v,bp,bQ⟩:=tf (cx:=⟨bw,d,(aq 20).scope⟩) (σ:=[(S "goes",.val (cp goes)),(S "met",.own [ak 0])]) (w:=w) (x:=S "_") (tgt:=hu (aO (aq 20).body 1)) (body:=c0 (aO (aq 20).body 1)) (items:=goes.map bJ) (s0:=([0],none)) (c:=100) (N:=110)
  (B:=fun (s:List Nat×Option (I×Option I)) v=>n2 (cp goes) s.1 v s.2) (P:=fun j s=>s.1=hM goes j)
  (by intros;kernel_rfl) (by rintro ⟨m,_|⟨p,_|o⟩⟩ v u<;>kernel_rfl) (by intro v;kernel_rfl) rfl (by
   intro z;rw[xS] at z;rw[z] at gU;exact absurd gU (nT 0)) (by rw[bV];exact aH cj)
  (fun j q s aP bS=>by
   obtain ⟨v,aQ⟩:=Yy T (m:=s.1) (by rw[bS];exact EJ T j) (d:=d) (w:=w) q s.2
   exact ⟨(jL goes s.1,some v),.next,by rw[bS];rfl,.inl rfl,aQ⟩)
 rw[bV] at bp
 rw[←bp]
 have aF:cp goes= .list (goes.map bJ):=rfl
 rcases fm with ⟨fm,_|⟨p,_|o⟩⟩<;>exact fy [.f ⟨_,_,(@bQ (n+86))⟩]
theorem Mr {go:Nat→Nat→Nat}: ∀(n:Nat) (x:List Nat×(Nat→Nat)),rounds go (n+1) x=mv go (rounds go n x).1 (rounds go n x).2:=by
 intro bq
 induction bq with
 |zero=>
  intro x
  exact rfl
 |succ n ay=>
  intro x
  rw[rounds,ay];rfl
theorem YU {go:Nat→Nat→Nat}: ∀(r:List Nat) (u:Nat→Nat),(mv go r u).1.length≤r.length:=by
 intro bq
 induction bq with
 |nil=>
  intro u
  exact a3 _
 |cons p r ay=>
  intro u
  rw[mv]
  split
  ·have:=ay u;simp;exact ph this
  ·have:=ay (bump u p);simp;exact this
section
variable {go:Nat→Nat→Nat} {K c m:Nat}
theorem aaj {r:List Nat} {e u:Nat→Nat} (h:j1 go K m (0::r) e u):j1 go K m r e u:=⟨h.reach,fun q aG=>h.lt q (e0 _ aG),fun q h0 aj=>by
 have:=h.j9 q h0 aj
 rw[qI] at this
 rw[this]
 have:(0==q)=false:=by simpa using eg h0
 rw[this];rfl⟩
theorem LU (E:gR go K c) (hm:m≤c) {p:Nat} {r:List Nat} {e u:Nat→Nat} (h:j1 go K m (p::r) e u) (ag:p≠0):u p<c∧p<K∧j1 go K m r (fun q=>e q+if go p (u p)=q then 1 else 0) (bump u p):=by
 have aj:=h.lt p eZ
 have dd:u p<arr go K u p:=by
  have:=h.j9 p ag aj
  rw[qI] at this
  simp at this
  exact aH (eq1 this)
 have a7:=Reach.step h.reach ag aj dd
 have aa:bump u p p=u p+1:=by unfold bump;rw[if_pos rfl]
 have hf:u p<c:=by
  have:=a7.my E hm p aj
  rw[aa] at this;exact this
 refine ⟨hf,aj,a7,fun q aG=>h.lt q (e0 _ aG),fun q h0 vT=> ?_⟩
 rw[sT aj,h.j9 q h0 vT,qI]
 unfold bump
 by_cases z:q=p
 ·subst z;simp;simp+arith only
 ·have:(p==q)=false:=by simpa using eg z
  rw[this,if_neg z];simp;exact uX _ _ _
end
noncomputable def gY (u:Nat→Nat) (K:Nat):List I:=(bI K).map fun q=>ak (u q)
theorem FQ {u:Nat→Nat} {K p:Nat} (h:p<K):(gY u K)[p]?=some (ak (u p)):=by
 unfold gY
 rw[dF,jv h];rfl
theorem Nx {u:Nat→Nat} {K:Nat}:(gY u K).length=K:=by unfold gY;rw[bV,fE]
theorem adu {u:Nat→Nat} {K p:Nat}:(gY u K).set p (ak (u p+1))=gY (bump u p) K:=by
 apply uM
 intro i
 rw[xH]
 unfold gY
 by_cases h:i<K
 ·rw[dF,dF,jv h]
  unfold bump
  by_cases z:p=i
  ·subst z;rw[if_pos rfl];simp[h]
  ·rw[if_neg z];simp[eg z]
 ·have aF:(bI K)[i]?=none:=by rw[qF];rw[fE];exact i2 h
  rw[dF,dF,aF]
  by_cases z:p=i
  ·subst z;rw[if_pos rfl];simp;exact i2 h
  ·rw[if_neg z];rfl
noncomputable def q5 (G M:I) (ul:List I) (cr:List Nat) (t:I):Option (Slot×Option I)→ar
 |none=>[(S "goes",.val G),(S "walkers",.val M),(S "used",.own ul),(S "crowd",.val (bJ cr)),(S "_",.val t)]
 |some (a,none)=>[(S "goes",.val G),(S "walkers",.val M),(S "used",.own ul),(S "crowd",.val (bJ cr)),(S "_",.val t),(S "ahead",a)]
 |some (a,some p)=>[(S "goes",.val G),(S "walkers",.val M),(S "used",.own ul),(S "crowd",.val (bJ cr)),(S "_",.val t),(S "ahead",a),(S "place",.val p)]
theorem PS (a:Nat):m' .Add (ak a) (.int 1)=some (ak (a+1)):=by
 show some (I.int ((a:Int)+1))=some (.int ((a+1:Nat):Int))
 congr 1
theorem adL {goes:List (List Nat)} {c:Nat} (T:hZ goes c) {n d:Nat} {w:W} (M t:I) (cr al:List Nat) (u:Nat→Nat) (p:Nat) (DC:al.length≤1000) (h:p≠0→p<goes.length∧u p<c):
  b1 (n+40) ⟨bw,d,(aq 19).scope⟩ (c0 (aO (c0 (aO (aq 19).body 3)) 1)) (q5 (cp goes) M (gY u goes.length) cr t (some (.own (al.map ak),some (ak p)))) w=
  some (.next,q5 (cp goes) M (gY (if p=0 then u else bump u p) goes.length) cr t (some (.own ((if p=0 then al else al++[dg goes p (u p)]).map ak),some (ak p))),w):=by
 have cj:=T.le
 by_cases h0:p=0
 ·rw[if_pos h0,if_pos h0]
  exact fp [.b ⟨_,_,(eq_not ((@nM (p)).trans (congrArg some (decide_eq_true h0))))⟩]
 ·obtain ⟨aj,dh⟩:=h h0
  obtain ⟨row,J,U,av,a0⟩:=T.get aj
  have ah:=T.eu
  have aF:=w7 J (by exact aH (aI cj (bL aj)):p<1000)
  have aE:cz (bJ row) (ak (u p))=some (ak (dg goes p (u p))):=LY (by
   rw[a0,iL,hy (by exact GG dh (fC U))];rfl) (by exact aH (aI (bL dh) ah))
  have cb:cz (.list (gY u goes.length)) (ak p)=some (ak (u p)):=iY (FQ aj) (by exact aH (aI cj (bL aj)))
  have eo:gV (p:Int) (gY u goes.length).length=some p:=by rw[Nx];exact AD aj (by exact aH (aI cj (bL aj)))
  have gG:(al.map ak).length≤1048576:=by rw[bV];exact bX DC rfl
  have ka:(gY u goes.length).length≤1048576:=by rw[Nx];exact bX cj rfl
  have kL:=FQ (u:=u) aj
  rw[if_neg h0,if_neg h0,mY,←adu]
  exact fp [.b ⟨_,_,(eq_not ((@nM (p)).trans (congrArg some (decide_eq_false h0))))⟩,.v ⟨_,_,@aF⟩,.v ⟨_,_,@cb⟩,.v ⟨_,_,@aE⟩,.p _ @gG,.p _ @ka,.n ⟨_,_,@eo⟩,.v ⟨_,_,@kL⟩,.v ⟨_,_,(@PS (u p))⟩]
theorem RU {l:List Nat} {j x:Nat} (h:l[j]?=some x):l.drop j=x::l.drop (j+1):=by
 obtain ⟨J,U⟩:=hW.mp h
 rw[aex J,U]
theorem adN {goes:List (List Nat)} {c:Nat} (T:hZ goes c) (E:gR (dg goes) goes.length c) {m:Nat} (hm:m≤c) {cr:List Nat} (dp:cr.length≤3) {u e:Nat→Nat} (bS:j1 (dg goes) goes.length m cr e u) {d:Nat} {w:W} (M t:I) (x:Option (I×Option I)):
  ∃y:I×Option I,∀n,b1 (n+60) ⟨bw,d,(aq 19).scope⟩ (c0 (aO (aq 19).body 3)) (q5 (cp goes) M (gY u goes.length) cr t (x.map fun y=>(.val y.1,y.2))) w=
  some (.next,q5 (cp goes) M (gY (mv (dg goes) cr u).2 goes.length) (mv (dg goes) cr u).1 t (some (.val y.1,y.2)),w):=by
 cases cr with
 |nil=>
  refine ⟨(.list [],match x with|some (_,y)=>y|none=>none),fun n=> ?_⟩
  have aF:bJ []= .list []:=rfl
  rcases x with _|⟨a,_|p⟩<;>exact fp [.go]
 |cons E9 Rx=>
  generalize zj:E9::Rx=cr at*
  obtain ⟨s,v,bp,bQ⟩:=tf (cx:=⟨bw,d,(aq 19).scope⟩) (σ:=q5 (cp goes) M (gY u goes.length) cr t (some (.own [],match x with|some (_,y)=>y|none=>none))) (w:=w) (x:=S "place") (tgt:=hu (aO (c0 (aO (aq 19).body 3)) 1)) (body:=c0 (aO (c0 (aO (aq 19).body 3)) 1)) (items:=cr.map ak) (s0:=([],u)) (c:=40) (N:=50)
   (B:=fun s v=>q5 (cp goes) M (gY s.2 goes.length) cr t (some (.own (s.1.map ak),some v)))
   (P:=fun j s=>mv (dg goes) cr u=(s.1++(mv (dg goes) (cr.drop j) s.2).1,(mv (dg goes) (cr.drop j) s.2).2)∧s.1.length≤j∧ ∃e,j1 (dg goes) goes.length m (cr.drop j) e s.2)
   (by intros;kernel_rfl) (by intros;kernel_rfl) (by rcases x with _|⟨a,_|p⟩<;>(intro v;kernel_rfl)) (by exact ⟨rfl,a3 _,e,bS⟩) (by rw[←zj];intro z;cases z) (by rw[bV];exact aH dp)
   (fun j q s aP bS=>by
    rw[dF,o9] at aP
    obtain ⟨p,aP,rfl⟩:=aP
    have Vj:=(hW.mp aP).1
    obtain ⟨J,U,e,av⟩:=bS
    rw[RU aP] at J av
    refine ⟨(if p=0 then s.1 else s.1++[dg goes p (s.2 p)],if p=0 then s.2 else bump s.2 p),.next,?_,.inl rfl,fun n=>adL T _ _ _ _ _ _ (by exact aH (aI (aI dp (bL Vj)) U)) fun h0=> ?_⟩
    ·by_cases h0:p=0
     ·rw[if_pos h0,if_pos h0]
      subst h0
      rw[mv,if_pos rfl] at J
      exact ⟨J,by dsimp only;exact ph U,e,aaj av⟩
     ·rw[if_neg h0,if_neg h0]
      rw[mv,if_neg h0] at J
      refine ⟨?_,by dsimp only;rw[eP,xO];exact uQ U _,_,(LU E hm av h0).2.2⟩
      rw[J,jY];rfl
    ·have:=LU E hm av h0
     exact ⟨this.2.1,this.1⟩)
  rw[bV,ae1] at bp
  have er:mv (dg goes) cr u=s:=by rw[bp.1];simp[mv]
  refine ⟨(.list (s.1.map ak),some v),fun n=> ?_⟩
  rw[er]
  have aF:bJ cr= .list (cr.map ak):=rfl
  have aE:bJ s.1= .list (s.1.map ak):=rfl
  rcases x with _|⟨a,_|p⟩<;>exact fp [.f ⟨_,_,(@bQ (n+7))⟩]
noncomputable def Aw:Option Nat→I
 |none=> .none
 |some n=> .int n
theorem aad (l:List I) (lo aB:Option Nat):ql l (lo.map fun a=>((a:Nat):Int)) (aB.map fun a=>((a:Nat):Int)) none=(l.drop (lo.getD 0)).take ((aB.getD l.length)-lo.getD 0):=by
 unfold ql
 rw[sliceBounds_plain]
 dsimp only
 have aF:((lo.map fun a=>((a:Nat):Int)).elim 0 (clipAt l.length))=min (lo.getD 0) l.length:=by cases lo with
  |none=>simp
  |some a=>exact clipAt_nat _ _
 have aE:((aB.map fun a=>((a:Nat):Int)).elim l.length (clipAt l.length))=min (aB.getD l.length) l.length:=by cases aB with
  |none=>exact fC (Nat.min_self _)
  |some a=>exact clipAt_nat _ _
 rw[aF,aE,sliceRange_one]
 generalize aB.getD l.length=b
 generalize lo.getD 0=a
 have h:min a l.length+(min b l.length-min a l.length)≤l.length:=by
  have J:min a l.length≤l.length:=xJ _ _
  have U:min b l.length≤l.length:=xJ _ _
  lia
 rw[StrLaws.picks l _ _ h]
 by_cases U:a≤l.length
 ·rw[mX U]
  by_cases av:b≤l.length
  ·rw[mX av]
  ·rw[xI (show l.length≤b by exact fK (t5 av)),o' (by rw[jV];exact b0 rfl),o' (by rw[jV];exact aH (aI (aI (Zr av) (fU (b) (a))) (eY (show a≤l.length from aH U))))]
 ·rw[xI (show l.length≤a by exact fK (t5 U)),GB (a3 _),GB (show l.length≤a by exact fK (t5 U))];simp
theorem slice_list {l:List I} (lo aB:Option Nat) (ai:l.length≤1048576):e' (.list l) (Aw lo) (Aw aB) .none=some (.list ((l.drop (lo.getD 0)).take (aB.getD l.length-lo.getD 0))):=by
 have e: ∀a b,e' (.list l) (Aw a) (Aw b) .none=if (none:Option Int)≠some 0∧l.length≤1048576 then some (.list (ql l (a.map fun a=>((a:Nat):Int)) (b.map fun a=>((a:Nat):Int)) none)) else none:=fun a b=>by cases a<;>cases b<;>rfl
 rw[e,if_pos ⟨by decide,ai⟩,aad]
theorem s6 {cx:a'} {σ:ar} {w:W} {x:Str} {tgt elt:Expr} {items:List I} {f:I→I} {c N:Nat} (ae: ∀v σ,gc cx.sc tgt v σ=some (σ.set x (.val v))) (oA:c+1+items.length+1≤N)
  (step: ∀p∈items,∀n,ev (n+(c+1)) cx elt (σ.set x (.val p)) w=some (f p,w)) (n:Nat):gf (n+N) cx elt tgt [] items σ w=some (items.map f,w):=by
 have:=Rk (cx:=cx) (tgt:=tgt) (elt:=elt) (items:=items) (σ:=σ) (w:=w) (f:=f) c fun p ag=>⟨_,ae p σ,step p ag⟩
 exact @fuel _ (fun n=>gf n _ _ _ _ _ _ _) (c+1+items.length+1) N _ (fun n=>by have:=this n;rwa [show n+(c+1)+items.length+1=n+(c+1+items.length+1) by simp+arith only] at this) oA n
theorem Io {cx:a'} {σ:ar} {w:W} {x:Str} {tgt elt:Expr} {ifs:List Expr} {items:List I} {f:I→I} {b:I→Bool} {c N:Nat} (ae: ∀v σ,gc cx.sc tgt v σ=some (σ.set x (.val v))) (oA:c+items.length+1≤N)
  (test: ∀p∈items,∀n,fY (n+c) cx .And ifs (σ.set x (.val p)) w=some (b p,w)) (step: ∀p∈items,b p=true→ ∀n,ev (n+c) cx elt (σ.set x (.val p)) w=some (f p,w)) (n:Nat):gf (n+N) cx elt tgt ifs items σ w=some ((items.filter b).map f,w):=by
 have:=Ip (cx:=cx) (tgt:=tgt) (elt:=elt) (ifs:=ifs) (σ:=σ) (w:=w) (f:=f) (b:=b) c
 exact @fuel _ (fun n=>gf n _ _ _ _ _ _ _) (c+items.length+1) N _ (fun n=>by have:=this n items fun p ag=>⟨_,ae p σ,fun n=>⟨test p ag n,fun aa=>step p ag aa n⟩⟩;rwa [show n+c+items.length+1=n+(c+items.length+1) by simp+arith only] at this) oA n
theorem aai {go:Nat→Nat→Nat} {K c m:Nat} (E:gR go K c) (hm:m≤c):j1 go K m (gu go m) (fun _=>0) (start m):=⟨.start,fun p ag=>by
   obtain ⟨j,aP,rfl⟩:=g0.mp ag
   exact E.range 0 j E.pos (hA (kB.mp aP) hm),fun p ag aj=>by
   have:arr go K (start m) p=b9 (fun q=>if q=0 then (fun q=>cnt (go q) m p) q else 0) K:=lR fun q _=>by
    unfold start
    by_cases z:q=0
    ·rw[if_pos z,if_pos z]
    ·rw[if_neg z,if_neg z];rfl
   rw[this,o6 E.pos]
   unfold gu start
   rw[CQ,if_neg ag];simp+arith only⟩
theorem adM {goes:List (List Nat)} {c:Nat} (T:hZ goes c) (E:gR (dg goes) goes.length c) {m:Nat} (hm:m≤c) {n d:Nat} {sc:Scope} {w:W}:cn (n+200) ⟨bw,d+1,sc⟩ (aq 19) [cp goes,ak m] w=some (.list (gY (rounds (dg goes) (3*goes.length) (gu (dg goes) m,start m)).2 goes.length),w):=by
 have cj:=T.le
 have gU:=T.pos
 have ey:=T.eu
 have h0:=aai E hm
 obtain ⟨s,v,bp,bQ⟩:=forR (cx:=⟨bw,d,(aq 19).scope⟩) (σ:=[(S "goes",.val (cp goes)),(S "walkers",.val (ak m)),(S "used",.own (gY (start m) goes.length)),(S "crowd",.val (bJ (gu (dg goes) m)))]) (w:=w) (x:=S "_") (tgt:=hu (aO (aq 19).body 3)) (body:=c0 (aO (aq 19).body 3)) (K:=(3*goes.length)) (St:=(List Nat×(Nat→Nat))×Option (I×Option I)) (s0:=((gu (dg goes) m,start m),none)) (c:=60) (N:=100)
  (B:=fun s v=>q5 (cp goes) (ak m) (gY s.1.2 goes.length) s.1.1 v (s.2.map fun y=>(.val y.1,y.2))) (P:=fun j s=>s.1=rounds (dg goes) j (gu (dg goes) m,start m))
  (by intros;kernel_rfl) (by rintro ⟨s,_|⟨a,_|p⟩⟩ v u<;>kernel_rfl) (by intro v;kernel_rfl) rfl (by exact Nat.succ_mul_pos _ gU) (by exact aH (lm 3 cj))
  (fun j s aP bS=>by
   have a7:=Mq E hm j _ _ h0
   rw[←bS] at a7
   have hlen:s.1.1.length≤3:=by
    rw[bS]
    clear a7 aP bS
    induction j with
    |zero=>show (gu (dg goes) m).length≤3;unfold gu;rw[bV,fE];exact c5 hm ey
    |succ j ay=>rw[Mr];exact c5 (YU _ _) ay
   obtain ⟨y,bl⟩:=adN T E hm hlen a7.1 (d:=d) (w:=w) (ak m) (ak j) s.2
   exact ⟨(mv (dg goes) s.1.1 s.1.2,some y),.next,by rw[Mr,←bS],.inl rfl,bl⟩)
 have dp:=s6 (cx:=⟨bw,d,oZ (valueOf (aO (aq 19).body 0))⟩) (σ:=[(S "goes",.val (cp goes)),(S "walkers",.val (ak m))]) (w:=w) (x:=S "row") (tgt:=n' (valueOf (aO (aq 19).body 0))) (elt:=mc (valueOf (aO (aq 19).body 0))) (items:=goes.map bJ) (f:=fun _=>ak 0) (c:=20) (N:=40)
  (by intros;kernel_rfl) (by rw[bV];exact aH cj) (by intros;kernel_rfl)
 rw[←bp]
 have aF:cp goes= .list (goes.map bJ):=rfl
 obtain ⟨row,a4,bH,gk,hP⟩:=T.get gU
 have zj:bJ (row.take m)=bJ (gu (dg goes) m):=by
  congr 1
  unfold gu
  apply uM
  intro i
  rw[List.getElem?_take]
  by_cases aB:i<m
  ·rw[if_pos aB,dF,jv aB,Gk,hP,iL,hy (by exact aH (aI (aI hm (eq1 bH)) (bL aB)))];rfl
  ·rw[if_neg aB,dF,qF (by rw[fE];exact i2 aB)];rfl
 have aE:cz (.list (goes.map bJ)) (.int 0)=some (bJ row):=w7 a4 (by decide)
 have cb:e' (bJ row) .none (ak m) .none=some (bJ (gu (dg goes) m)):=by
  have:=slice_list (l:=row.map ak) none (some m) (by rw[bV];exact aH (aI ey (b0 bH)))
  rw[←zj]
  simp only[afd,afe,Gf,OP,←OQ] at this
  exact this
 have eo:i4 [.int (3*(goes.length:Int))]=some ((bI (3*goes.length)).map ak):=i5 (k:=3*goes.length) (by exact h6 (Ag cj) rfl)
 have gG:(GL (fun _=>ak 0) (goes.map bJ)).set 0 (ak m)=gY (start m) goes.length:=by
  apply uM
  intro i
  rw[xH]
  unfold gY start
  cases i with
  |zero=>rw[if_pos rfl,dF,jv gU,if_pos (by rw[bV,bV];exact gU)];rfl
  |succ i=>
   rw[if_neg (by exact Nat.zero_ne_add_one _),qK,dF,dF]
   by_cases aB:i+1<goes.length
   ·rw[jv aB,hy aB];rfl
   ·rw[qF (by exact i2 aB),qF (by rw[fE];exact i2 aB)];rfl
 have ka:cv .Mult (.int 3) (.int goes.length)=some (.int (3*goes.length)):=if_pos (r7 (by exact h6 cj rfl))
 have kL:(goes.map bJ).length≤1048576:=by rw[bV];exact bX cj rfl
 have pN:((goes.map bJ).map fun _=>ak 0).length≤1048576:=by rw[bV];exact kL
 have lu:gV 0 ((goes.map bJ).map fun _=>ak 0).length=some 0:=AD (i:=0) (by rw[bV,bV];exact gU) (by decide)
 have oc:=nd (l:=goes.map bJ) (by rw[bV];exact bX cj rfl)
 rw[bV] at oc
 rw[←gG] at bQ
 clear zj
 rcases s with ⟨s,_|⟨a,_|p⟩⟩<;>exact fy [.p _ @kL,.l ⟨_,_,(@dp (n+155))⟩,.p _ pN,.n ⟨_,_,@lu⟩,.v ⟨_,_,@aE⟩,.v ⟨_,_,@cb⟩,.v ⟨_,_,@oc⟩,.v ⟨_,_,@ka⟩,.u ⟨_,_,@eo⟩,.f ⟨_,_,(@bQ (n+94))⟩]
theorem om {a:Int} {b:Nat} (h:0<b): ∃k:Nat,a.fmod (b:Int)=k∧k<b:=by
 have J:0≤a.fmod (b:Int):=Int.fmod_nonneg_of_pos a (nX.mpr h)
 have U:a.fmod (b:Int)<b:=Int.fmod_lt_of_pos a (nX.mpr h)
 exact ⟨(a.fmod b).toNat,(Int.toNat_of_nonneg J).symm,(Gb J).mpr U⟩
theorem aac {l:List Nat} {k x:Nat} (h:l[k]?=some x):(x::l.eraseIdx k).Perm l:=by
 induction l generalizing k with
 |nil=>cases h
 |cons a l ay=>
  cases k with
  |zero=>cases h;exact aff _
  |succ k=>exact (List.Perm.swap a x _).trans ((ay h).cons a)
noncomputable def yl (pick order size:I) (fr pi:List Nat) (code n:I):ar:=[(S "pick",.val pick),(S "order",.val order),(S "size",.val size),(S "free",.own (fr.map ak)),(S "picked",.own (pi.map ak)),(S "code",.val code),(S "n",.val n)]
theorem Yp {l:List Nat} {k:Nat}:(l.map ak).eraseIdx k=(l.eraseIdx k).map ak:=by
 induction l generalizing k with
 |nil=>rfl
 |cons a l ay=>cases k with
  |zero=>rfl
  |succ k=>rw[fD,afg,afg,fD,ay]
theorem aag {n d:Nat} {w:W} (pick order size:I) (fr pi:List Nat) (code:Int) (j:Nat) (aP:j<3) (hf:fr.length=6-j) (ag:pi.length≤3):
  ∃k x,fr[k]?=some x∧ ∃n9:Int,∀n,b1 (n+40) ⟨bw,d,(aq 18).scope⟩ (c0 (aO (aq 18).body 3)) (yl pick order size fr pi (.int code) (ak j)) w=
  some (.next,yl pick order size (fr.eraseIdx k) (pi++[x]) (.int n9) (ak j),w):=by
 obtain ⟨k,aj,dd⟩:=om (a:=code) (b:=6-j) (by exact aH (aI (bL aP) (fU (6) (j))))
 have JS:j<6:=iA aP rfl
 have ah:((6-j:Nat):Int)=6-(j:Int):=so (fK JS)
 have a6:(6-(j:Int))≠0:=ah▸BP.mpr (Gw JS)
 rw[ah] at aj
 have kP:k<fr.length:=by exact GG dd (fC hf)
 have gg:ak j= .int (j:Int):=rfl
 have aF:(fr.map ak)[k]?=some (ak fr[k]):=by rw[dF,hy kP];rfl
 have aE:gV (k:Int) fr.length=some k:=AD kP (by exact aH (aI (bL dd) (hC (6) (j))))
 have cb:fr.length≤1048576:=by exact mz hf (uj (ib _ _))
 have eo:pi.length≤1048576:=by exact bX ag rfl
 have gG:cv .Mod (.int code) (.int (6-(j:Int)))=some (.int (k:Int)):=mod_eq a6 aj
 have ka:cv .FloorDiv (.int code) (.int (6-(j:Int)))=some (.int (code.fdiv (6-j))):=yR a6 (ah▸(h6 (hC 6 j) rfl:((6-j:Nat):Int).natAbs<1073741824))
 rw[←bV (f:=ak)] at aE cb eo
 refine ⟨k,fr[k],hy kP,code.fdiv (6-j),fun n=> ?_⟩
 unfold yl
 rw[←Yp,mY]
 exact fp [.go,.v ⟨_,_,gG⟩,.p _ eo,.p _ cb,.n ⟨_,_,aE⟩,.v ⟨_,_,aF⟩,.go,.v ⟨_,_,ka⟩]
noncomputable def acQ:Option (Slot×Option I)→ar
 |none=>[]
 |some (r,none)=>[(S "row",r)]
 |some (r,some k)=>[(S "row",r),(S "kind",.val k)]
noncomputable def n3 (pick order size:I) (fr:List Nat) (pi:Slot) (n:I) (rows:List (List Nat)) (code v:I) (o:Option (Slot×Option I)):ar:=
 (S "pick",.val pick)::(S "order",.val order)::(S "size",.val size)::(S "free",.own (fr.map ak))::(S "picked",pi)::(S "code",.val code)::(S "n",.val n)::(S "rows",.own (rows.map bJ))::(S "place",.val v)::acQ o
theorem abh {d:Nat} {w:W} (pick order size n v:I) (fr pi row:List Nat) (rows:List (List Nat)) (code:Int) (x:Nat) (a7:row.length≤10):
  ∃(AS:List Nat) (n9:Int),AS.Perm (x::row)∧ ∀m,b1 (m+40) ⟨bw,d,(aq 18).scope⟩ (c0 (aO (c0 (aO (aq 18).body 5)) 2)) (n3 pick order size fr (.val (bJ pi)) n rows (.int code) v (some (.own (row.map ak),some (ak x)))) w=
  some (.next,n3 pick order size fr (.val (bJ pi)) n rows (.int n9) v (some (.own (AS.map ak),some (ak x))),w):=by
 obtain ⟨k,aj,dd⟩:=om (a:=code) (b:=row.length+1) (by exact BQ _)
 have kP:k≤row.length:=by exact hV dd
 refine ⟨row.take k++x::row.drop k,code.fdiv ((row.length:Int)+1),?_,fun m=> ?_⟩
 ·refine List.perm_middle.trans ?_
  rw[List.take_append_drop]
 ·have aF:=nd (l:=row.map ak) (by rw[bV];exact bX a7 rfl)
  rw[bV] at aF
  have aj:code.fmod ((row.length:Int)+1)=k:=aj
  have a6:((row.length:Int)+1)≠0:=BP.mpr (sq row.length)
  have aE:cv .Mod (.int code) (.int ((row.length:Int)+1))=some (.int (k:Int)):=mod_eq a6 aj
  have cb:(0:Int)≤(k:Int)∧(k:Int)≤(row.map ak).length:=by rw[bV];exact ⟨l1 k,nV.mpr kP⟩
  have eo:(row.map ak).length≤1048576:=by rw[bV];exact bX a7 rfl
  have gG:(By k (row.map ak)++ak x::xC k (row.map ak))=(row.take k++x::row.drop k).map ak:=by
   rw[mY,fD,OQ,List.map_drop]
  have kL:(By k row++x::xC k row).length=row.length+1:=by
   rw[eP,la,List.length_take_of_le kP,jV,←uX,uS kP]
  have lu:=nd (l:=(row.take k++x::row.drop k).map ak) (by rw[bV,kL];exact yd a7 (a3 _) rfl)
  rw[bV,kL] at lu
  have oc:(((row.length+1:Nat):Int))=(row.length:Int)+1:=by exact afh rfl rfl
  rw[oc,←gG] at lu
  have lu:gd (ab "len") [.list (By (k:Int).toNat (row.map ak)++ak x::xC (k:Int).toNat (row.map ak))]=some (.int ((row.length:Int)+1)):=lu
  have pN:cv .FloorDiv (.int code) (.int ((row.length:Int)+1))=some (.int (code.fdiv ((row.length:Int)+1))):=yR a6 (h6 (Ol a7) rfl:row.length+1<1073741824)
  unfold n3
  rw[←gG]
  exact fp [.v ⟨_,_,@aF⟩,.go,.v ⟨_,_,@aE⟩,.p _ @eo,.p _ cb,.v ⟨_,_,@lu⟩,.v ⟨_,_,@pN⟩]
theorem L0 {p b:Nat} (h:p≤6) (aa:0<b) (ro:b≤20):((b:Int)^p≠0)∧((b:Int)^p).natAbs<1073741824:=by
 have J:b^p≤20^6:=c5 (Nat.pow_le_pow_left ro p) (GN (by decide) h)
 have U:0<b^p:=Nat.pow_pos aa
 have av:(b:Int)^p=((b^p:Nat):Int):=(afi b p).symm
 have a0:(20:Nat)^6=64000000:=by decide
 rw[av]
 exact ⟨BP.mpr (ju U),h6 (a0▸J) rfl⟩
theorem abi {d:Nat} {w:W} (pick size n:I) (order:Int) (fr pi:List Nat) (VI:pi≠[]) (hl:pi.length≤3) (X:Bool) (rows:List (List Nat)) (p5:rows.length≤100) (Ri:I) (p:Nat) (ag:p≤6) (o:Option (I×Option I)):
  ∃(row:List Nat) (code:I) (k:I),row.Perm pi∧ ∀m,b1 (m+80) ⟨bw,d,(aq 18).scope⟩ (c0 (aO (aq 18).body 5)) (n3 pick (.int order) size fr (if X then .own (pi.map ak) else .val (bJ pi)) n rows Ri (ak p) (o.map fun y=>(.val y.1,y.2))) w=
  some (.next,n3 pick (.int order) size fr (.val (bJ pi)) n (rows++[row]) code (ak p) (some (.val (bJ row),some k)),w):=by
 obtain ⟨s,v,bp,bQ⟩:=tf (cx:=⟨bw,d,(aq 18).scope⟩) (σ:=n3 pick (.int order) size fr (.val (bJ pi)) n rows (.int (order.fdiv (6^p))) (ak p) (some (.own [],match o with|some (_,y)=>y|none=>none))) (w:=w) (x:=S "kind") (tgt:=hu (aO (c0 (aO (aq 18).body 5)) 2)) (body:=c0 (aO (c0 (aO (aq 18).body 5)) 2)) (items:=pi.map ak) (s0:=([],order.fdiv (6^p))) (c:=40) (N:=50)
  (B:=fun (s:List Nat×Int) v=>n3 pick (.int order) size fr (.val (bJ pi)) n rows (.int s.2) (ak p) (some (.own (s.1.map ak),some v)))
  (P:=fun j s=>s.1.Perm (pi.take j))
  (by intros;kernel_rfl) (by intros;kernel_rfl) (by rcases o with _|⟨a,_|p⟩<;>(intro v;kernel_rfl)) (by exact List.Perm.nil) (by intro z;exact VI (xS.mp z)) (by rw[bV];exact aH hl)
  (fun j q s aP bS=>by
   rw[dF,o9] at aP
   obtain ⟨x,aP,rfl⟩:=aP
   have hlen:=bS.length_eq
   rw[BR] at hlen
   obtain ⟨AS,n9,J,U⟩:=abh (d:=d) (w:=w) pick (.int order) size n (ak p) fr pi s.1 rows s.2 x (c5 (b0 hlen) (c5 (xJ _ _) (bX hl rfl)))
   refine ⟨(AS,n9),.next,?_,.inl rfl,U⟩
   rw[OM,aP]
   exact (J.trans (bS.cons x)).trans (List.perm_append_singleton x _).symm)
 rw[bV,xE] at bp
 refine ⟨s.1,.int s.2,v,bp,fun m=> ?_⟩
 have aF:bJ pi= .list (pi.map ak):=rfl
 have aE:bJ s.1= .list (s.1.map ak):=rfl
 obtain ⟨cb,eo⟩:=L0 (b:=6) ag (by decide) (by decide)
 have cb:(6:Int)^p≠0:=cb
 have eo:((6:Int)^p).natAbs<1073741824:=eo
 have gG:cv .Pow (.int 6) (ak p)=some (.int (6^p)):=by
  have:cv .Pow (.int 6) (ak p)=if 0≤(p:Int)∧(p:Int)≤1000∧small 6 then some (.int (6^(p:Int).toNat)) else none:=rfl
  rw[this,if_pos ⟨l1 _,nV.mpr (bX ag rfl),by decide⟩];rfl
 have ka:(rows.map bJ).length≤1048576:=by rw[bV];exact bX p5 rfl
 have kL:cv .FloorDiv (.int order) (.int (6^p))=some (.int (order.fdiv (6^p))):=yR cb eo
 unfold n3
 rw[mY]
 rcases o with _|⟨a,_|p2⟩<;>cases X<;>exact fp [.v ⟨_,_,@gG⟩,.v ⟨_,_,@kL⟩,.f ⟨_,_,(@bQ (m+26))⟩,.p _ @ka]
theorem abk {pick order:Int} {size:Nat} (J:0<size) (bQ:size≤6) {d:Nat} {sc:Scope} {w:W}: ∃(rows:List (List Nat)) (pi:List Nat),rows.length=size∧pi.Nodup∧(∀k∈pi,k<6)∧(pi.length:Int)=2+pick.fmod 2∧(∀r∈rows,r.Perm pi)∧
  ∀n,cn (n+200) ⟨bw,d+1,sc⟩ (aq 18) [.int pick,.int order,.int size] w=some (cp rows,w):=by
 obtain ⟨bB,kh,ml⟩:=om (a:=pick) (b:=2) (by decide)
 have kh:pick.fmod 2=bB:=kh
 obtain ⟨s,v,bp,UG⟩:=forR (cx:=⟨bw,d,(aq 18).scope⟩) (σ:=[(S "pick",.val (.int pick)),(S "order",.val (.int order)),(S "size",.val (.int size)),(S "free",.own ([0,1,2,3,4,5].map ak)),(S "picked",.own []),(S "code",.val (.int (pick.fdiv 2)))]) (w:=w) (x:=S "n") (tgt:=hu (aO (aq 18).body 3)) (body:=c0 (aO (aq 18).body 3)) (K:=(2+bB)) (s0:=([0,1,2,3,4,5],[],pick.fdiv 2)) (c:=40) (N:=50)
  (B:=fun (s:List Nat×List Nat×Int) v=>yl (.int pick) (.int order) (.int size) s.1 s.2.1 (.int s.2.2) v)
  (P:=fun j s=>s.1.length=6-j∧s.2.1.length=j∧(s.2.1++s.1).Perm [0,1,2,3,4,5])
  (by intros;kernel_rfl) (by intros;kernel_rfl) (by intro v;kernel_rfl) (by exact ⟨rfl,rfl,aff _⟩) (by exact Nat.pos_of_neZero _) (by exact aH (bL ml))
  (fun j s gy bS=>by
   obtain ⟨p1,p2,p3⟩:=bS
   obtain ⟨k,y,g1,n9,g2⟩:=aag (n:=0) (d:=d) (w:=w) (.int pick) (.int order) (.int size) s.1 s.2.1 s.2.2 j (by exact aH (aI (bL ml) (bL gy))) p1 (by exact aH (aI (aI (bL ml) (bL gy)) (b0 p2)))
   have kP:=(hW.mp g1).1
   refine ⟨(s.1.eraseIdx k,s.2.1++[y],n9),.next,⟨?_,?_,?_⟩,.inl rfl,g2⟩
   ·show (s.1.eraseIdx k).length=_
    rw[List.length_eraseIdx,if_pos kP];exact f3 (aH (aI (aI (aI (b0 p1) (fU (6) (j+1))) (eY (show j≤6 from aH (aI (bL ml) (bL gy))))) (eY (show 1≤s.fst.length from aH (bL kP))))) (aH (aI (aI (aI (eq1 p1) (fU (6) (j))) (fU (s.fst.length) (1))) (eY (show j+1≤6 from aH (aI (bL ml) (bL gy))))))
   ·show (s.2.1++[y]).length=_
    rw[eP,xO];exact congrFun (congrArg _ p2) _
   ·show ((s.2.1++[y])++s.1.eraseIdx k).Perm _
    rw[jY]
    exact ((aac g1).append_left _).trans p3)
 obtain ⟨fr,pi,code⟩:=s
 obtain ⟨p1,p2,p3⟩:=bp
 have p1:fr.length=6-(2+bB):=p1
 have p2:pi.length=2+bB:=p2
 have p3:(pi++fr).Perm [0,1,2,3,4,5]:=p3
 have VJ:pi≠[]:=by intro z;rw[z] at p2;simp at p2;exact fQ (eq1 p2)
 obtain ⟨s,v2,er,ew⟩:=forR (cx:=⟨bw,d,(aq 18).scope⟩) (σ:=[(S "pick",.val (.int pick)),(S "order",.val (.int order)),(S "size",.val (.int size)),(S "free",.own (fr.map ak)),(S "picked",.own (pi.map ak)),(S "code",.val (.int code)),(S "n",.val v),(S "rows",.own [])]) (w:=w) (x:=S "place") (tgt:=hu (aO (aq 18).body 5)) (body:=c0 (aO (aq 18).body 5)) (K:=size) (s0:=(true,[],.int code,none)) (c:=80) (N:=90)
  (B:=fun (s:Bool×List (List Nat)×I×Option (I×Option I)) u=>n3 (.int pick) (.int order) (.int size) fr (if s.1 then .own (pi.map ak) else .val (bJ pi)) v s.2.1 s.2.2.1 u (s.2.2.2.map fun y=>(.val y.1,y.2)))
  (P:=fun j s=>s.2.1.length=j∧ ∀r∈s.2.1,r.Perm pi)
  (by intros;kernel_rfl) (by rintro ⟨x,r,c,_|⟨a,_|b⟩⟩ u z<;>kernel_rfl) (by intro v;kernel_rfl) (by exact ⟨rfl,fun _ h=>nomatch h⟩) (by exact J) (by exact aH bQ)
  (fun j s gy bS=>by
   obtain ⟨x,rows,l8,o⟩:=s
   obtain ⟨fX,hO⟩:=bS
   have fX:rows.length=j:=fX
   obtain ⟨row,n9,k,g1,g2⟩:=abi (d:=d) (w:=w) (.int pick) (.int size) v order fr pi VJ (by exact aH (aI (bL ml) (b0 p2))) x rows (by exact aH (aI (aI bQ (bL gy)) (b0 fX))) l8 j (by exact aH (aI bQ (bL gy))) o
   refine ⟨(false,rows++[row],n9,some (bJ row,some k)),.next,⟨?_,?_⟩,.inl rfl,g2⟩
   ·show (rows++[row]).length=_
    rw[eP,xO];exact congrFun (congrArg _ (by assumption)) _
   ·intro r a7
    have a7:r∈rows++[row]:=a7
    rcases uO.mp a7 with a7|a7
    ·exact hO r a7
    ·rw[fs.mp a7];exact g1)
 obtain ⟨x,rows,l8,o⟩:=s
 have Vv:(pi++fr).Nodup:=p3.nodup_iff.mpr (by decide)
 refine ⟨rows,pi,er.1,(afb.mp Vv).1,fun k aj=> ?_,by rw[kh];lia,er.2,fun n=> ?_⟩
 ·have:=p3.mem_iff.mp (afa _ aj)
  exact (by decide: ∀k∈[0,1,2,3,4,5],k<6) k this
 ·have aE:i4 [.int ((2:Int)+(bB:Int))]=some ((bI (2+bB)).map ak):=by
   have:=i5 (k:=2+bB) (by exact aH (eY (show 2+bB≤6 from aH (bL ml))))
   rw[←this];congr 2
  have cb:i4 [.int (size:Int)]=some ((bI size).map ak):=i5 (by exact h6 bQ rfl)
  have gG:cv .Mod (.int pick) (.int 2)=some (.int (bB:Int)):=mod_eq (by decide) kh
  exact fy [.go,.v ⟨_,_,@gG⟩,.go,.u ⟨_,_,@aE⟩,.f ⟨_,_,(@UG (n+144))⟩,.u ⟨_,_,@cb⟩,.f ⟨_,_,(@ew (n+102))⟩]
noncomputable def turn {α:Type}:Nat→α→α→α→List α
 |0,a,b,c=>[c,a,b]
 |1,a,b,c=>[a,c,b]
 |2,a,b,c=>[b,c,a]
 |3,a,b,c=>[c,b,a]
 |4,a,b,c=>[b,a,c]
 |_,a,b,c=>[a,b,c]
@[elab_as_elim] theorem vf {P : Nat → Prop} (h0 : P 0) (J : P 1) {i : Nat} (h : i < 2) : P i := by
 rcases i with _|_|i
 ·exact h0
 ·exact J
 ·exact absurd (uN (uN h)) (GH i)
@[elab_as_elim] theorem H4 {P : Nat → Prop} (h0 : P 0) (J : P 1) (U : P 2) {i : Nat} (h : i < 3) : P i := by
 cases i with
 |zero=>exact h0
 |succ i=>exact vf (P:=fun i=>P (i+1)) J U (uN h)
@[elab_as_elim] theorem by4 {P : Nat → Prop} (h0 : P 0) (J : P 1) (U : P 2) (av : P 3) {i : Nat} (h : i < 4) : P i := by
 cases i with
 |zero=>exact h0
 |succ i=>exact H4 (P:=fun i=>P (i+1)) J U av (uN h)
@[elab_as_elim] theorem sX {P : Nat → Prop} (h0 : P 0) (J : P 1) (U : P 2) (av : P 3) (a0 : P 4) (bp : P 5) {i : Nat} (h : i < 6) : P i := by
 rcases i with _|_|i
 ·exact h0
 ·exact J
 ·exact by4 (P:=fun i=>P (i+2)) U av a0 bp (uN (uN h))
theorem FN {k:Nat} (aj:k<6) {n d:Nat} {sc:Scope} {w:W} (a b c:I):cn (n+60) ⟨bw,d+1,sc⟩ (aq 17) [ak k,.list [a,b,c]] w=some (.list (turn k a b c),w):=by
 refine sX ?_ ?_ ?_ ?_ ?_ ?_ aj<;>kernel_rfl
noncomputable def eA (i:Nat):Str:=[S "\" ",S "\\\"",S " \\",S "#\n",S "\n\"",S "\t#"].getD i (S "")
noncomputable def hT (q:Nat):Str:=⟨#[[10,9,13,32].getD q 0]⟩
noncomputable def jI (i:Nat):Nat→Str
 |0=>eA i
 |1=>S "\"\\"
 |_=>S "\n\t \\"
noncomputable def spS (i h:Nat):Str:=⟨((eA i).cps.toList.flatMap fun c=>if c∈(jI i h).cps.toList then [92,c] else [c]).toArray⟩
noncomputable def jU (i r q:Nat) (last:Bool):Str:=
 let sp:=spS i (if q=2 then 0 else r+1)
 if r=0 then hT q++hT q++S "\""++sp++(if last then S "" else S "\"")
 else (if sp.cps.toList.headD 0=34 then S "\\"++sp else sp)++(if last then S "" else hT q)
noncomputable def lr (d:Nat):a':=⟨bw,d,(aq 15).scope⟩
theorem nC {i:Nat} (h:i<6):i=0∨i=1∨i=2∨i=3∨i=4∨i=5:=by lia
theorem ED {i:Nat} (h:i<3):i=0∨i=1∨i=2:=by lia
theorem z8 {i:Nat} (h:i<2):i=0∨i=1:=by lia
theorem ab0 {i h:Nat} (aB:i<6) (cL:h<3) {n d:Nat} {w:W} (st aI adX:I):ev (n+60) (lr d) (valueOf (aO (aq 15).body 2)) [(S "name",.val (.str (eA i))),(S "style",.val st),(S "last",.val aI),(S "white",.val adX),(S "held",.val (.str (jI i h)))] w=some (.str (spS i h),w):=by
 refine sX ?_ ?_ ?_ ?_ ?_ ?_ aB<;>refine H4 ?_ ?_ ?_ cL<;>kernel_rfl
theorem ad5 {i q:Nat} (aB:i<6) (aG:q<4) (b:Bool) {n d:Nat} {w:W} (st:I) (hd:Str):b1 (n+60) (lr d) (Kn (aO (aq 15).body 3)) [(S "name",.val (.str (eA i))),(S "style",.val st),(S "last",.val (.bool b)),(S "white",.val (.str (hT q))),(S "held",.val (.str hd)),(S "spelled",.val (.str (spS i (if q=2 then 0 else 1))))] w=some (.ret (.str (jU i 0 q b)),[(S "name",.val (.str (eA i))),(S "style",.val st),(S "last",.val (.bool b)),(S "white",.val (.str (hT q))),(S "held",.val (.str hd)),(S "spelled",.val (.str (spS i (if q=2 then 0 else 1))))],w):=by
 refine sX ?_ ?_ ?_ ?_ ?_ ?_ aB<;>refine by4 ?_ ?_ ?_ ?_ aG<;>cases b<;>kernel_rfl
theorem ad6 {i q:Nat} (aB:i<6) (aG:q<4) (b:Bool) {n d:Nat} {w:W} (st:I) (hd:Str): ∃σ',∀n,b1 (n+60) (lr d) ((aq 15).body.drop 4) [(S "name",.val (.str (eA i))),(S "style",.val st),(S "last",.val (.bool b)),(S "white",.val (.str (hT q))),(S "held",.val (.str hd)),(S "spelled",.val (.str (spS i (if q=2 then 0 else 2))))] w=some (.ret (.str (jU i 1 q b)),σ',w):=by
 refine ⟨[(S "name",.val (.str (eA i))),(S "style",.val st),(S "last",.val (.bool b)),(S "white",.val (.str (hT q))),(S "held",.val (.str hd)),(S "spelled",.val (.str (if (spS i (if q=2 then 0 else 2)).cps.toList.headD 0=34 then S "\\"++spS i (if q=2 then 0 else 2) else spS i (if q=2 then 0 else 2))))],fun n=> ?_⟩
 refine sX ?_ ?_ ?_ ?_ ?_ ?_ aB<;>refine by4 ?_ ?_ ?_ ?_ aG<;>cases b<;>kernel_rfl
theorem adY {q:Nat} (aG:q<4):cz (.str (S "\n\t\r ")) (.int q)=some (.str (hT q)):=by
 refine by4 ?_ ?_ ?_ ?_ aG<;>kernel_rfl
theorem adZ {q:Nat} (aG:q<4):eX (.str (hT q)) (.str (S "\r"))=some (decide (q=2)):=by
 refine by4 ?_ ?_ ?_ ?_ aG<;>kernel_rfl
theorem U9 {r:Nat} (a7:r<2):cz (.list [.str (S "\"\\"),.str (S "\n\t \\")]) (.int r)=some (.str (jI 0 (r+1))):=by
 refine vf ?_ ?_ a7<;>kernel_rfl
theorem cZ {cx:a'} {st:bY} {r:List bY} {σ σ1:ar} {w w1:W} {C D:Nat} (h: ∀n,ex (n+C) cx st σ w=some (.next,σ1,w1)) (hI:C≤D) (n:Nat):b1 (n+(D+1)) cx (st::r) σ w=b1 (n+D) cx r σ1 w1:=
 Tx (n:=n+D) (@fuel _ (fun n=>ex n cx st σ w) C D _ h hI n)
theorem ni {cx:a'} {st:bY} {r:List bY} {σ σ1:ar} {w w1:W} {p:I} {C D:Nat} (h: ∀n,ex (n+C) cx st σ w=some (.ret p,σ1,w1)) (hI:C≤D) (n:Nat):b1 (n+(D+1)) cx (st::r) σ w=some (.ret p,σ1,w1):=
 TA (n:=n+D) (@fuel _ (fun n=>ex n cx st σ w) C D _ h hI n)
theorem ad8 {i:Nat} (aB:i<6) {r q:Nat} {st:Int} (a7:st.fmod 2=r) (aG:(st.fdiv 2).fmod 4=q) (rB:r<2) (zC:q<4) (b:Bool) {d:Nat} {sc:Scope} {w:W} {n:Nat}:
  cn (n+100) ⟨bw,d+1,sc⟩ (aq 15) [.str (eA i),.int st,.bool b] w=some (.str (jU i r q b),w):=by
 have aF:cv .FloorDiv (.int st) (.int 2)=some (.int (st.fdiv 2)):=yR (by decide) (by decide)
 have aE:cv .Mod (.int (st.fdiv 2)) (.int 4)=some (.int (q:Int)):=mod_eq (by decide) aG
 have cb:cv .Mod (.int st) (.int 2)=some (.int (r:Int)):=mod_eq (by decide) a7
 have FZ:=adY zC
 have w1:=adZ zC
 have h9:=U9 rB
 have h0: ∀n,ex (n+40) (lr d) (aO (aq 15).body 0) [(S "name",.val (.str (eA i))),(S "style",.val (.int st)),(S "last",.val (.bool b))] w=some (.next,[(S "name",.val (.str (eA i))),(S "style",.val (.int st)),(S "last",.val (.bool b)),(S "white",.val (.str (hT q)))],w):=by
  intro n
  exact cq [.v ⟨_,_,aF⟩,.v ⟨_,_,aE⟩,.v ⟨_,_,FZ⟩]
 have J: ∀n,ex (n+40) (lr d) (aO (aq 15).body 1) [(S "name",.val (.str (eA i))),(S "style",.val (.int st)),(S "last",.val (.bool b)),(S "white",.val (.str (hT q)))] w=some (.next,[(S "name",.val (.str (eA i))),(S "style",.val (.int st)),(S "last",.val (.bool b)),(S "white",.val (.str (hT q))),(S "held",.val (.str (jI i (if q=2 then 0 else r+1))))],w):=by
  intro n
  by_cases zB:q=2
  ·rw[if_pos zB]
   exact cq [.b ⟨_,_,(w1.trans (congrArg some (decide_eq_true zB)))⟩]
  ·have:jI 0 (r+1)=jI i (r+1):=by refine vf ?_ ?_ rB<;>rfl
   rw[if_neg zB,←this]
   exact cq [.b ⟨_,_,(w1.trans (congrArg some (decide_eq_false zB)))⟩,.v ⟨_,_,cb⟩,.v ⟨_,_,h9⟩]
 have U: ∀n,ex (n+80) (lr d) (aO (aq 15).body 2) [(S "name",.val (.str (eA i))),(S "style",.val (.int st)),(S "last",.val (.bool b)),(S "white",.val (.str (hT q))),(S "held",.val (.str (jI i (if q=2 then 0 else r+1))))] w=some (.next,[(S "name",.val (.str (eA i))),(S "style",.val (.int st)),(S "last",.val (.bool b)),(S "white",.val (.str (hT q))),(S "held",.val (.str (jI i (if q=2 then 0 else r+1)))),(S "spelled",.val (.str (spS i (if q=2 then 0 else r+1))))],w):=by
  intro n
  have aQ:= @ab0 i (if q=2 then 0 else r+1) aB (by split<;>(first|exact BQ _|exact Nat.add_lt_of_lt_sub rB)) (n+18) d w (.int st) (.bool b) (.str (hT q))
  rw[Tf (x:=S "spelled") (by kernel_rfl) (by show dq (aq 15).scope _=true;kernel_rfl) (by kernel_rfl)]
  rw[Ja (by rfl)]
  exact eB aQ rfl
 have aa:(aq 15).body=aO (aq 15).body 0::aO (aq 15).body 1::aO (aq 15).body 2::aO (aq 15).body 3::(aq 15).body.drop 4:=by kernel_rfl
 have ag:jN (aq 15)=[S "name",S "style",S "last"]:=by kernel_rfl
 rw[sZ (by rw[ag];rfl),ag,aa]
 have a6:([S "name",S "style",S "last"]:List Str).zip ([I.str (eA i),.int st,.bool b].map Slot.val)=[(S "name",.val (.str (eA i))),(S "style",.val (.int st)),(S "last",.val (.bool b))]:=rfl
 rw[a6]
 have h0:=cZ (r:=aO (aq 15).body 1::aO (aq 15).body 2::aO (aq 15).body 3::(aq 15).body.drop 4) (D:=98) h0 (by decide) n
 have J:=cZ (r:=aO (aq 15).body 2::aO (aq 15).body 3::(aq 15).body.drop 4) (D:=97) J (by decide) n
 have U:=cZ (r:=aO (aq 15).body 3::(aq 15).body.drop 4) (D:=96) U (by decide) n
 unfold lr at h0 J U
 rw[h0,J,U]
 rcases z8 rB with rfl|rfl
 ·have av: ∀n,ex (n+80) (lr d) (aO (aq 15).body 3) [(S "name",.val (.str (eA i))),(S "style",.val (.int st)),(S "last",.val (.bool b)),(S "white",.val (.str (hT q))),(S "held",.val (.str (jI i (if q=2 then 0 else 0+1)))),(S "spelled",.val (.str (spS i (if q=2 then 0 else 0+1))))] w=some (.ret (.str (jU i 0 q b)),[(S "name",.val (.str (eA i))),(S "style",.val (.int st)),(S "last",.val (.bool b)),(S "white",.val (.str (hT q))),(S "held",.val (.str (jI i (if q=2 then 0 else 0+1)))),(S "spelled",.val (.str (spS i (if q=2 then 0 else 0+1))))],w):=by
   intro n
   have a0:=ad5 aB zC b (n:=n+19) (d:=d) (w:=w) (.int st) (jI i (if q=2 then 0 else 1))
   rw[Tw (by kernel_rfl)]
   have aS:fa (n+79) (lr d) (valueOf (aO (aq 15).body 3)) (ar.freeze [(S "name",.val (.str (eA i))),(S "style",.val (.int st)),(S "last",.val (.bool b)),(S "white",.val (.str (hT q))),(S "held",.val (.str (jI i (if q=2 then 0 else 0+1)))),(S "spelled",.val (.str (spS i (if q=2 then 0 else 0+1))))] (bG 30 false (valueOf (aO (aq 15).body 3)))) w=some (true,w):=by exact abl [.v ⟨_,_,cb⟩,.b ⟨_,_,(@AG (↑0) (0))⟩]
   refine eB aS ((if_pos rfl).trans ?_)
   rw[Ja (by rfl)]
   exact a0
  have av:=ni (r:=(aq 15).body.drop 4) (D:=95) av (by decide) n
  unfold lr at av
  rw[av];rfl
 ·have av: ∀n,ex (n+80) (lr d) (aO (aq 15).body 3) [(S "name",.val (.str (eA i))),(S "style",.val (.int st)),(S "last",.val (.bool b)),(S "white",.val (.str (hT q))),(S "held",.val (.str (jI i (if q=2 then 0 else 1+1)))),(S "spelled",.val (.str (spS i (if q=2 then 0 else 1+1))))] w=some (.next,[(S "name",.val (.str (eA i))),(S "style",.val (.int st)),(S "last",.val (.bool b)),(S "white",.val (.str (hT q))),(S "held",.val (.str (jI i (if q=2 then 0 else 1+1)))),(S "spelled",.val (.str (spS i (if q=2 then 0 else 1+1))))],w):=by
   intro n
   exact cq [.v ⟨_,_,cb⟩,.b ⟨_,_,(@AG (↑1) (0))⟩]
  have av:=cZ (r:=(aq 15).body.drop 4) (D:=95) av (by decide) n
  obtain ⟨σ',a0⟩:=ad6 aB zC b (n:=0) (d:=d) (w:=w) (.int st) (jI i (if q=2 then 0 else 1+1))
  have a0:=a0 (n+35)
  unfold lr at av a0
  rw[av,a0];rfl
theorem lM:
  (∀x y,methP (ab "startswith") (.str x) [.str y]=some (.bool (jt x y)))∧(∀x y,methP (ab "endswith") (.str x) [.str y]=some (.bool (ky x y)))∧(∀x y,methP (ab "count") (.str x) [.str y]=some (.int (Bt x y)))∧
  (∀x l,methP (ab "join") (.str x) [.list l]=(r' l).bind fun ts=>if qB x ts then some (.str (gq x ts)) else none)∧
  (∀x y a b,methP (ab "find") (.str x) [.str y,.int a,.int b]=some (.int (match k6 x y (fromIndex x.length a) (min (fromIndex x.length b) x.length) 1 with|k::_=>(k:Int)|[]=> -1)))∧
  (∀l x,methP (ab "index") (.list l) [x]=(idxOf x l).map fun (n:Nat)=> .int n):=by
 refine ⟨?_,?_,?_,?_,?_,?_⟩<;>(intros;kernel_rfl)
theorem Bh {x:Str} (h:x.length≤1048576):mP (.str x)=some (decide (x.length≠0)):=by
 show (if x.length≤1048576 then some ((x.length:Int) !=0) else none)=_
 rw[if_pos h]
 congr 1
 rw[hz];simp
noncomputable def d4 (got:Str) (e:Nat):Nat→List Str→Bool
 |_,[]=>true
 |s,w::ws=>match k6 got w s e 1 with
  |k::_=>d4 got e (k+w.length) ws
  |[]=>false
noncomputable def C1 (got:Str):List Str→Option (List Str×Nat)
 |[]=>none
 |w::r=>if w.length=0 then some (w::r,0) else if jt got w then some (r,w.length) else none
noncomputable def iS (got:Str) (ws:List Str):Option (List Str×Nat):=
 let w:=ws.getLastD (S "")
 if w.length=0 then some (ws,got.length) else if ky got w then some (ws.dropLast,got.length-w.length) else none
noncomputable def eU (ws:List Str) (got:Str):Bool:=match C1 got ws with
 |none=>false
 |some (aea,s)=>match iS got aea with
  |none=>false
  |some (fb,e)=>if e<s then false else d4 got e s fb
noncomputable def e4 (d:Nat):a':=⟨bw,d,(aq 13).scope⟩
noncomputable def dG (want got:Str) (ws:Slot) (s e:I):Option I→ar
 |none=>[(S "want",.val (.str want)),(S "got",.val (.str got)),(S "ws",ws),(S "startpos",.val s),(S "endpos",.val e)]
 |some w=>[(S "want",.val (.str want)),(S "got",.val (.str got)),(S "ws",ws),(S "startpos",.val s),(S "endpos",.val e),(S "w",.val w)]
section
variable {want got:Str} {d:Nat} {w:W}
theorem Se (a:Str) (r:List I) (s e:I) (ai:r.length≤1000) (n:Nat):ex (n+40) (e4 d) (aO (aq 13).body 4) (dG want got (.own (.str a::r)) s e none) w=some (.next,dG want got (.own (.str a::r)) s e (some (.str a)),w):=by
 have aF:cz (.list (.str a::r)) (.int 0)=some (.str a):=iY (i:=0) rfl (by decide)
 exact cq [.v ⟨_,_,aF⟩]
theorem Sg (l:List I) (x:I) (s e a:I) (ai:l.getLast?=some x) (n:Nat):ex (n+40) (e4 d) (aO (aq 13).body 6) (dG want got (.own l) s e (some a)) w=some (.next,dG want got (.own l) s e (some x),w):=by
 have aF:=Km ai
 exact cq [.go,.v ⟨_,_,aF⟩]
theorem Sf (a:Str) (r:List I) (e:I) (aJ:a.length≤1048576) (a7:r.length≤1000) (n:Nat):ex (n+40) (e4 d) (aO (aq 13).body 5) (dG want got (.own (.str a::r)) (.int 0) e (some (.str a))) w=
  if a.length=0 then some (.next,dG want got (.own (.str a::r)) (.int 0) e (some (.str a)),w)
  else if jt got a then some (.next,dG want got (.own r) (ak a.length) e (some (.str a)),w)
  else some (.ret (.bool false),dG want got (.own (.str a::r)) (.int 0) e (some (.str a)),w):=by
 have aE:=vd aJ
 have cb:gV 0 (I.str a::r).length=some 0:=AD (i:=0) (by rw[la];exact BQ _) (by decide)
 have eo:(I.str a::r).length≤1048576:=by rw[la];exact yd a7 (a3 _) rfl
 by_cases J:a.length=0
 ·have aF:mP (.str a)=some false:=(Bh aJ).trans (congrArg some (decide_eq_false fun h=>h J))
  rw[if_pos J]
  exact cq [.b ⟨_,_,aF⟩]
 ·have aF:mP (.str a)=some true:=(Bh aJ).trans (congrArg some (decide_eq_true J))
  rw[if_neg J]
  cases U:jt got a with
  |true=>
   have bT:methP (ab "startswith") (.str got) [.str a]=some (.bool true):=by rw[lM.1,U]
   rw[if_pos rfl]
   exact cq [.b ⟨_,_,aF⟩,.v ⟨_,_,bT⟩,.go,.v ⟨_,_,aE⟩,.p _ eo,.n ⟨_,_,cb⟩]
  |false=>
   have bT:methP (ab "startswith") (.str got) [.str a]=some (.bool false):=by rw[lM.1,U]
   rw[if_neg (by decide)]
   exact cq [.b ⟨_,_,aF⟩,.v ⟨_,_,bT⟩,.go]
theorem Sh (l:List I) (x:Str) (s:I) (e:Nat) (ai:l.getLast?=some (.str x)) (ae:x.length≤1048576) (hle:l.length≤1000) (n:Nat):ex (n+40) (e4 d) (aO (aq 13).body 7) (dG want got (.own l) s (ak e) (some (.str x))) w=
  if x.length=0 then some (.next,dG want got (.own l) s (ak e) (some (.str x)),w)
  else if ky got x then some (.next,dG want got (.own l.dropLast) s (.int ((e:Int)-x.length)) (some (.str x)),w)
  else some (.ret (.bool false),dG want got (.own l) s (ak e) (some (.str x)),w):=by
 have eJ:0<l.length:=by
  cases l with
  |nil=>cases ai
  |cons a l=>simp
 have aE:=vd ae
 have cb:gV (-1) l.length=some (l.length-1):=by
  unfold gV
  rw[show small (-1)=true by decide,if_pos rfl,MC eJ]
 have eo:l.length≤1048576:=by exact bX hle rfl
 have gG:l.eraseIdx (l.length-1)=l.dropLast:=by rw[Oq,List.dropLast_eq_take,GB (by exact fU _ _),fF]
 by_cases J:x.length=0
 ·have aF:mP (.str x)=some false:=(Bh ae).trans (congrArg some (decide_eq_false fun h=>h J))
  rw[if_pos J]
  exact cq [.b ⟨_,_,aF⟩]
 ·have aF:mP (.str x)=some true:=(Bh ae).trans (congrArg some (decide_eq_true J))
  rw[if_neg J]
  cases U:ky got x with
  |true=>
   have bT:methP (ab "endswith") (.str got) [.str x]=some (.bool true):=by rw[lM.2.1,U]
   rw[if_pos rfl,←gG]
   exact cq [.b ⟨_,_,aF⟩,.v ⟨_,_,bT⟩,.go,.v ⟨_,_,aE⟩,.go,.go,.p _ eo,.n ⟨_,_,cb⟩]
  |false=>
   have bT:methP (ab "endswith") (.str got) [.str x]=some (.bool false):=by rw[lM.2.1,U]
   rw[if_neg (by decide)]
   exact cq [.b ⟨_,_,aF⟩,.v ⟨_,_,bT⟩,.go]
theorem Si (l:List I) (s e:Int) (x:I) (n:Nat):ex (n+40) (e4 d) (aO (aq 13).body 8) (dG want got (.own l) (.int s) (.int e) (some x)) w=
  if e<s then some (.ret (.bool false),dG want got (.own l) (.int s) (.int e) (some x),w) else some (.next,dG want got (.own l) (.int s) (.int e) (some x),w):=by
 by_cases h:e<s
 ·rw[if_pos h]
  exact cq [.b ⟨_,_,UB h⟩]
 ·rw[if_neg h]
  exact cq [.b ⟨_,_,UA h⟩]
theorem Sv (l:I) (s e:Nat) (x:Str) (bM:got.length≤1000000) (ae:x.length≤1000000) (h5:s≤got.length) (he:e≤got.length) (n:Nat):b1 (n+40) (e4 d) (c0 (aO (aq 13).body 9)) (dG want got (.val l) (.int s) (.int e) (some (.str x))) w=
  match k6 got x s e 1 with
  |k::_=>some (.next,dG want got (.val l) (.int ((k+x.length:Nat):Int)) (.int e) (some (.str x)),w)
  |[]=>some (.ret (.bool false),dG want got (.val l) (.int (-1)) (.int e) (some (.str x)),w):=by
 have aF:fromIndex got.length (s:Int)=s:=by unfold fromIndex;rw[if_neg (by exact xR _)];exact OI _
 have aE:min (fromIndex got.length (e:Int)) got.length=e:=by unfold fromIndex;rw[if_neg (by exact xR _)];exact mX he
 have cb:=vd (x:=x) (by exact bX ae rfl)
 cases h:k6 got x s e 1 with
 |nil=>
  have bT:methP (ab "find") (.str got) [.str x,.int s,.int e]=some (.int (-1)):=by rw[lM.2.2.2.2.1,aF,aE,h]
  exact fp [.v ⟨_,_,bT⟩,.go]
 |cons k r=>
  have bT:methP (ab "find") (.str got) [.str x,.int s,.int e]=some (.int k):=by rw[lM.2.2.2.2.1,aF,aE,h]
  have eo:fe .Lt (.int k) (.int 0)=some false:=Yj (by exact xR _)
  exact fp [.v ⟨_,_,bT⟩,.b ⟨_,_,eo⟩,.v ⟨_,_,cb⟩,.go]
theorem ZR {x y:Str} {s e k:Nat} {r:List Nat} (h:k6 x y s e 1=k::r):k+y.length≤e:=(StrLaws.occ_spec x y s e 1 k (by rw[h];exact eZ)).1
theorem Sw (l:I) (e:Nat) (bM:got.length≤1000000) (he:e≤got.length): ∀(ws:List Str) (s:Nat) (x:I),s≤got.length→(∀y∈ws,y.length≤1000000)→ ∃s' gN,∀n,forL (n+40+ws.length+1) (e4 d) (hu (aO (aq 13).body 9)) (c0 (aO (aq 13).body 9)) (ws.map .str) (dG want got (.val l) (.int s) (.int e) (some x)) w=
  some (if d4 got e s ws then .next else .ret (.bool false),dG want got (.val l) s' (.int e) (some gN),w):=by
 intro bq
 induction bq with
 |nil=>
  intro s x _ _
  exact ⟨.int s,x,fun n=>by rw[d4];rfl⟩
 |cons y ws ay=>
  intro s x h5 ai
  have aa: ∀σ,gc (e4 d).sc (hu (aO (aq 13).body 9)) (.str y) σ=some (σ.set (S "w") (.val (.str y))):=by
   intro σ;kernel_rfl
  have zD:(dG want got (.val l) (.int s) (.int e) (some x)).set (S "w") (.val (.str y))=dG want got (.val l) (.int s) (.int e) (some (.str y)):=by kernel_rfl
  have kg:=fun n=>Sv (want:=want) (d:=d) (w:=w) l s e y bM (ai y eZ) h5 he n
  cases h:k6 got y s e 1 with
  |nil=>
   rw[h] at kg
   refine ⟨.int (-1),.str y,fun n=> ?_⟩
   have U:=kg (n+ws.length+1)
   rw[show n+ws.length+1+40=n+40+(y::ws).length by simp;exact fC (sx _ _ _)] at U
   rw[fD,I7,aa,OJ,zD,U,d4,h]
   rfl
  |cons k r=>
   rw[h] at kg
   have aj:=ZR h
   obtain ⟨s',gN,ay⟩:=ay (k+y.length) (.str y) (by exact c5 aj he) fun z a6=>ai z (e0 _ a6)
   refine ⟨s',gN,fun n=> ?_⟩
   have U:=kg (n+ws.length+1)
   have av:=ay n
   rw[show n+ws.length+1+40=n+40+(y::ws).length by simp;exact fC (sx _ _ _)] at U
   rw[show n+40+ws.length+1=n+40+(y::ws).length by simp;exact rfl] at av
   rw[fD,I7,aa,OJ,zD,U,d4,h]
   exact av
theorem Sj (ws:List Str) (s e:Nat) (x:I) (bM:got.length≤1000000) (h5:s≤got.length) (he:e≤got.length) (hw:ws.length≤10) (ai: ∀y∈ws,y.length≤1000000): ∃σ',∀n,ex (n+80) (e4 d) (aO (aq 13).body 9) (dG want got (.own (ws.map .str)) (.int s) (.int e) (some x)) w=some (if d4 got e s ws then .next else .ret (.bool false),σ',w):=by
 obtain ⟨s',gN,h⟩:=Sw (want:=want) (d:=d) (w:=w) (.list (ws.map .str)) e bM he ws s x h5 ai
 refine ⟨dG want got (.val (.list (ws.map .str))) s' (.int e) (some gN),fun n=> ?_⟩
 have U:=h (n+(79-41-ws.length))
 rw[show n+(79-41-ws.length)+40+ws.length+1=n+79 by exact f3 (aH (aI (eY (show ws.length≤79-41 from aH (aI hw (fU (79) (41))))) (eY (show 41≤79 from by simp+arith only)))) (aH (aI (fU (79-41) (ws.length)) (fU (79) (41))))] at U
 exact cq [.f ⟨_,_,U⟩]
theorem R9 (hm:iF (.str (S "...")) (.str want)=some true) (n:Nat):ex (n+40) (e4 d) (aO (aq 13).body 0) [(S "want",.val (.str want)),(S "got",.val (.str got))] w=some (.next,[(S "want",.val (.str want)),(S "got",.val (.str got))],w):=by
 exact cq [.b ⟨_,_,(p9 hm)⟩]
theorem R' (hm:iF (.str (S "...")) (.str want)=some false) (b:Bool) (aG:eX (.str want) (.str got)=some b) (n:Nat):ex (n+40) (e4 d) (aO (aq 13).body 0) [(S "want",.val (.str want)),(S "got",.val (.str got))] w=some (.ret (.bool b),[(S "want",.val (.str want)),(S "got",.val (.str got))],w):=by
 exact cq [.b ⟨_,_,(p9 hm)⟩,.b ⟨_,_,aG⟩]
theorem Sa (ai:want.length≤1000000) (ws:List Str) (hw:qC want (S "...")=ws) (ag:(F7 want (k6 want (S "...") 0 want.length (want.length+1)) (S "...").length).length≤1000) (n:Nat):ex (n+40) (e4 d) (aO (aq 13).body 1) [(S "want",.val (.str want)),(S "got",.val (.str got))] w=some (.next,[(S "want",.val (.str want)),(S "got",.val (.str got)),(S "ws",.own (ws.map .str))],w):=by
 have gg:((S "...").length==0)=false:=by decide
 have aF:want.length≤1048576:=by exact bX ai rfl
 have aE:(F7 want (k6 want (S "...") 0 want.length (want.length+1)) (S "...").length).length≤1048576:=by exact bX ag rfl
 have cb:Fw (.str want) [.str (S "...")]=some ((qC want (S "...")).map .str):=if_pos ⟨gg,aF,aE⟩
 rw[←hw]
 exact cq [.u ⟨_,_,cb⟩]
theorem Sb (ws:List Str) (hw:2≤ws.length) (V8:ws.length≤1000) (n:Nat):ex (n+40) (e4 d) (aO (aq 13).body 2) [(S "want",.val (.str want)),(S "got",.val (.str got)),(S "ws",.own (ws.map .str))] w=some (.next,[(S "want",.val (.str want)),(S "got",.val (.str got)),(S "ws",.own (ws.map .str))],w):=by
 have aF:=nd (l:=ws.map I.str) (by rw[bV];exact bX V8 rfl)
 have aE:fe .GtE (.int ((ws.map I.str).length:Int)) (.int 2)=some true:=Um (by rw[bV];lia)
 exact cq [.v ⟨_,_,aF⟩,.b ⟨_,_,aE⟩]
theorem Sd (bM:got.length≤1000000) (ws:Slot) (V': ∃l,ws= .own l) (n:Nat):ex (n+40) (e4 d) (aO (aq 13).body 3) [(S "want",.val (.str want)),(S "got",.val (.str got)),(S "ws",ws)] w=some (.next,dG want got ws (.int 0) (.int got.length) none,w):=by
 obtain ⟨l,rfl⟩:=V'
 have aF:=vd (x:=got) (by exact bX bM rfl)
 exact cq [.v ⟨_,_,aF⟩]
theorem SG {x y:Str} (h:ky x y=true):y.length≤x.length:=by
 unfold ky at h
 have:=(g7.mp h).1
 have:=of_decide_eq_true this
 exact afj this
theorem MW {x y:Str} (h:jt x y=true):y.length≤x.length:=by
 unfold jt at h
 have:=(g7.mp h).1
 have:=of_decide_eq_true this
 exact afj this
theorem getLast_map {ws:List Str} {y:Str} (h:ws.getLast?=some y):(ws.map I.str).getLast?=some (.str y):=by rw[ae8,h];rfl
theorem IG (ws:List Str) (eJ:ws≠[]) (ai:ws.length≤10) (aa: ∀y∈ws,y.length≤1000000) (bM:got.length≤1000000) (s:Nat) (h5:s≤got.length) (x:I): ∃σ',∀n,b1 (n+100) (e4 d) ((aq 13).body.drop 6) (dG want got (.own (ws.map .str)) (.int s) (.int got.length) (some x)) w=
  some (.ret (.bool (match iS got ws with|none=>false|some (fb,e)=>if e<s then false else d4 got e s fb)),σ',w):=by
 have hd:(aq 13).body.drop 6=[aO (aq 13).body 6,aO (aq 13).body 7,aO (aq 13).body 8,aO (aq 13).body 9,aO (aq 13).body 10]:=by kernel_rfl
 have zt:ws.getLast?=some (ws.getLastD (S "")):=by
  cases ws with
  |nil=>exact absurd rfl eJ
  |cons a l=>rw[List.getLastD_cons,List.getLast?_cons];rw[List.getLastD_eq_getLast?]
 generalize bl:ws.getLastD (S "")=y at zt
 have Wg:y.length≤1000000:=aa y (List.mem_of_getLast? zt)
 have bQ:=Sg (want:=want) (got:=got) (d:=d) (w:=w) (ws.map .str) (.str y) (.int s) (.int got.length) x (getLast_map zt)
 have er:=Sh (want:=want) (got:=got) (d:=d) (w:=w) (ws.map .str) y (.int s) got.length (getLast_map zt) (by exact bX Wg rfl) (by rw[bV];exact bX ai rfl)
 rw[hd]
 have go: ∀(fb:List Str) (e:Nat),fb.length≤10→(∀y∈fb,y.length≤1000000)→e≤got.length→ ∃σ',∀n,b1 (n+98) (e4 d) [aO (aq 13).body 8,aO (aq 13).body 9,aO (aq 13).body 10] (dG want got (.own (fb.map .str)) (.int s) (.int e) (some (.str y))) w=some (.ret (.bool (if e<s then false else d4 got e s fb)),σ',w):=by
  intro fb e oD ro he
  have ew:=Si (want:=want) (got:=got) (d:=d) (w:=w) (fb.map .str) s e (.str y)
  by_cases ah:e<s
  ·rw[if_pos ah]
   have za: ∀n,ex (n+40) (e4 d) (aO (aq 13).body 8) (dG want got (.own (fb.map .str)) (.int s) (.int e) (some (.str y))) w=some (.ret (.bool false),dG want got (.own (fb.map .str)) (.int s) (.int e) (some (.str y)),w):=fun n=>by rw[ew,if_pos (by lia)]
   exact ⟨_,fun n=>ni za (show 40≤97 by decide) n⟩
  ·rw[if_neg ah]
   have za: ∀n,ex (n+40) (e4 d) (aO (aq 13).body 8) (dG want got (.own (fb.map .str)) (.int s) (.int e) (some (.str y))) w=some (.next,dG want got (.own (fb.map .str)) (.int s) (.int e) (some (.str y)),w):=fun n=>by rw[ew,if_neg (by lia)]
   obtain ⟨G8,fR⟩:=Sj (want:=want) (got:=got) (d:=d) (w:=w) fb s e (.str y) bM h5 he oD ro
   cases a7:d4 got e s fb with
   |false=>
    rw[a7] at fR
    exact ⟨G8,fun n=>(cZ za (show 40≤97 by decide) n).trans (ni (p:= .bool false) fR (show 80≤96 by decide) n)⟩
   |true=>
    rw[a7] at fR
    have mg: ∀n,ex (n+40) (e4 d) (aO (aq 13).body 10) G8 w=some (.ret (.bool true),G8.freeze [],w):=fun n=>by
     kernel_rfl
    exact ⟨_,fun n=>(cZ za (show 40≤97 by decide) n).trans ((cZ (show∀n,_=some (ej.next,_,_) from fR) (show 80≤96 by decide) n).trans (ni mg (show 40≤95 by decide) n))⟩
 unfold iS
 rw[bl]
 dsimp only
 by_cases J:y.length=0
 ·rw[if_pos J]
  have vM: ∀n,ex (n+40) (e4 d) (aO (aq 13).body 7) (dG want got (.own (ws.map .str)) (.int s) (.int got.length) (some (.str y))) w=some (.next,dG want got (.own (ws.map .str)) (.int s) (.int got.length) (some (.str y)),w):=fun n=>(er n).trans (if_pos J)
  obtain ⟨σ',g⟩:=go ws got.length ai aa (a3 _)
  exact ⟨σ',fun n=>(cZ bQ (show 40≤99 by decide) n).trans ((cZ vM (show 40≤98 by decide) n).trans (g n))⟩
 ·rw[if_neg J]
  cases U:ky got y with
  |true=>
   have Wf:=SG U
   have vM: ∀n,ex (n+40) (e4 d) (aO (aq 13).body 7) (dG want got (.own (ws.map .str)) (.int s) (.int got.length) (some (.str y))) w=some (.next,dG want got (.own (ws.dropLast.map .str)) (.int s) (.int ((got.length-y.length:Nat):Int)) (some (.str y)),w):=fun n=>by
    refine (er n).trans ?_
    rw[if_neg J,U,if_pos rfl,List.map_dropLast,so Wf]
   obtain ⟨σ',g⟩:=go ws.dropLast (got.length-y.length) (by rw[List.length_dropLast];exact bX (uj ai) rfl) (fun z a6=>aa z (List.dropLast_subset _ a6)) (by exact hC _ _)
   exact ⟨σ',fun n=>(cZ bQ (show 40≤99 by decide) n).trans ((cZ vM (show 40≤98 by decide) n).trans (g n))⟩
  |false=>
   have vM: ∀n,ex (n+40) (e4 d) (aO (aq 13).body 7) (dG want got (.own (ws.map .str)) (.int s) (.int got.length) (some (.str y))) w=some (.ret (.bool false),dG want got (.own (ws.map .str)) (.int s) (.int got.length) (some (.str y)),w):=fun n=>by
    refine (er n).trans ?_
    rw[if_neg J,U];rfl
   exact ⟨_,fun n=>(cZ bQ (show 40≤99 by decide) n).trans (ni vM (show 40≤98 by decide) n)⟩
theorem Sy (hw:want.length≤1000000) (bM:got.length≤1000000) (hm:iF (.str (S "...")) (.str want)=some true) (ws:List Str) (VT:qC want (S "...")=ws) (U:2≤ws.length) (ai:ws.length≤10) (aa: ∀y∈ws,y.length≤1000000)
  (ag:(F7 want (k6 want (S "...") 0 want.length (want.length+1)) (S "...").length).length≤1000) {sc:Scope} (n:Nat):cn (n+200) ⟨bw,d+1,sc⟩ (aq 13) [.str want,.str got] w=some (.bool (eU ws got),w):=by
 have hd:(aq 13).body=aO (aq 13).body 0::aO (aq 13).body 1::aO (aq 13).body 2::aO (aq 13).body 3::aO (aq 13).body 4::aO (aq 13).body 5::(aq 13).body.drop 6:=by kernel_rfl
 have v7:jN (aq 13)=[S "want",S "got"]:=by kernel_rfl
 have a6:([S "want",S "got"]:List Str).zip ([I.str want,.str got].map Slot.val)=[(S "want",.val (.str want)),(S "got",.val (.str got))]:=rfl
 have key: ∃σ',∀n,b1 (n+199) (e4 d) (aq 13).body [(S "want",.val (.str want)),(S "got",.val (.str got))] w=some (.ret (.bool (eU ws got)),σ',w):=by
  rw[hd]
  have l8:=fun n=>cZ (D:=198) (r:=aO (aq 13).body 1::aO (aq 13).body 2::aO (aq 13).body 3::aO (aq 13).body 4::aO (aq 13).body 5::(aq 13).body.drop 6) (R9 (want:=want) (got:=got) (d:=d) (w:=w) hm) (by decide) n
  have dz:=fun n=>cZ (D:=197) (r:=aO (aq 13).body 2::aO (aq 13).body 3::aO (aq 13).body 4::aO (aq 13).body 5::(aq 13).body.drop 6) (Sa (want:=want) (got:=got) (d:=d) (w:=w) hw ws VT ag) (by decide) n
  have de:=fun n=>cZ (D:=196) (r:=aO (aq 13).body 3::aO (aq 13).body 4::aO (aq 13).body 5::(aq 13).body.drop 6) (Sb (want:=want) (got:=got) (d:=d) (w:=w) ws U (by exact bX ai rfl)) (by decide) n
  have eu:=fun n=>cZ (D:=195) (r:=aO (aq 13).body 4::aO (aq 13).body 5::(aq 13).body.drop 6) (Sd (want:=want) (got:=got) (d:=d) (w:=w) bM (.own (ws.map .str)) ⟨_,rfl⟩) (by decide) n
  cases ws with
  |nil=>simp at U
  |cons a r=>
   have DC:=aa a eZ
   have p5:r.length≤9:=by rw[la] at ai;exact hV ai
   have Kd:1≤r.length:=by rw[la] at U;exact hV U
   have hc:=fun n=>cZ (D:=194) (r:=aO (aq 13).body 5::(aq 13).body.drop 6) (Se (want:=want) (got:=got) (d:=d) (w:=w) a (r.map .str) (.int 0) (.int got.length) (by rw[bV];exact bX p5 rfl)) (by decide) n
   have bp:=Sf (want:=want) (got:=got) (d:=d) (w:=w) a (r.map .str) (.int got.length) (by exact bX DC rfl) (by rw[bV];exact bX p5 rfl)
   have pre: ∀n,b1 (n+199) (e4 d) (aO (aq 13).body 0::aO (aq 13).body 1::aO (aq 13).body 2::aO (aq 13).body 3::aO (aq 13).body 4::aO (aq 13).body 5::(aq 13).body.drop 6) [(S "want",.val (.str want)),(S "got",.val (.str got))] w=b1 (n+194) (e4 d) (aO (aq 13).body 5::(aq 13).body.drop 6) (dG want got (.own (.str a::r.map .str)) (.int 0) (.int got.length) (some (.str a))) w:=fun n=>(l8 n).trans ((dz n).trans ((de n).trans ((eu n).trans (hc n))))
   unfold eU
   rw[show C1 got (a::r)=if a.length=0 then some (a::r,0) else if jt got a then some (r,a.length) else none from rfl]
   by_cases J:a.length=0
   ·rw[if_pos J]
    have vL: ∀n,ex (n+40) (e4 d) (aO (aq 13).body 5) (dG want got (.own (.str a::r.map .str)) (.int 0) (.int got.length) (some (.str a))) w=some (.next,dG want got (.own (.str a::r.map .str)) (.int 0) (.int got.length) (some (.str a)),w):=fun n=>(bp n).trans (if_pos J)
    obtain ⟨σ',g⟩:=IG (want:=want) (got:=got) (d:=d) (w:=w) (a::r) (by exact afk _ _) ai aa bM 0 (e3 _) (.str a)
    exact ⟨σ',fun n=>(pre n).trans ((cZ vL (show 40≤193 by decide) n).trans (g (n+93)))⟩
   ·rw[if_neg J]
    cases av:jt got a with
    |true=>
     rw[if_pos rfl]
     have vL: ∀n,ex (n+40) (e4 d) (aO (aq 13).body 5) (dG want got (.own (.str a::r.map .str)) (.int 0) (.int got.length) (some (.str a))) w=some (.next,dG want got (.own (r.map .str)) (.int a.length) (.int got.length) (some (.str a)),w):=fun n=>by
      refine (bp n).trans ?_
      rw[if_neg J,av];rfl
     obtain ⟨σ',g⟩:=IG (want:=want) (got:=got) (d:=d) (w:=w) r (by intro z;rw[z] at Kd;simp at Kd) (by exact bX p5 rfl) (fun y bl=>aa y (e0 _ bl)) bM a.length (MW av) (.str a)
     exact ⟨σ',fun n=>(pre n).trans ((cZ vL (show 40≤193 by decide) n).trans (g (n+93)))⟩
    |false=>
     have vL: ∀n,ex (n+40) (e4 d) (aO (aq 13).body 5) (dG want got (.own (.str a::r.map .str)) (.int 0) (.int got.length) (some (.str a))) w=some (.ret (.bool false),dG want got (.own (.str a::r.map .str)) (.int 0) (.int got.length) (some (.str a)),w):=fun n=>by
      refine (bp n).trans ?_
      rw[if_neg J,av];rfl
     exact ⟨_,fun n=>(pre n).trans (ni vL (show 40≤193 by decide) n)⟩
 obtain ⟨σ',key⟩:=key
 rw[sZ (by rw[v7];rfl),v7,a6]
 have:=key n
 unfold e4 at this
 rw[this];rfl
theorem Sz (hm:iF (.str (S "...")) (.str want)=some false) (b:Bool) (aG:eX (.str want) (.str got)=some b) {sc:Scope} (n:Nat):cn (n+200) ⟨bw,d+1,sc⟩ (aq 13) [.str want,.str got] w=some (.bool b,w):=by
 have hd:(aq 13).body=aO (aq 13).body 0::(aq 13).body.drop 1:=by kernel_rfl
 have v7:jN (aq 13)=[S "want",S "got"]:=by kernel_rfl
 have a6:([S "want",S "got"]:List Str).zip ([I.str want,.str got].map Slot.val)=[(S "want",.val (.str want)),(S "got",.val (.str got))]:=rfl
 have l8:=ni (D:=198) (r:=(aq 13).body.drop 1) (R' (want:=want) (got:=got) (d:=d) (w:=w) hm b aG) (by decide) n
 rw[sZ (by rw[v7];rfl),v7,a6,hd]
 unfold e4 at l8
 rw[l8];rfl
end
end Mine
end
section
open PySem
namespace Mine
noncomputable def wF (n acc:Nat):Nat:=Bool.rec acc (Nat.succ acc) (cc 2 n)
noncomputable def zX (n acc:Nat):Nat:=Bool.rec (wF n acc) (wF (kC n 2) (e1 acc 2)) (cc 4 n)
noncomputable def zY (n acc:Nat):Nat:=Bool.rec (zX n acc) (zX (kC n 4) (e1 acc 4)) (cc 16 n)
noncomputable def zZ (n acc:Nat):Nat:=Bool.rec (zY n acc) (zY (kC n 8) (e1 acc 8)) (cc 256 n)
noncomputable def z0 (n acc:Nat):Nat:=Bool.rec (zZ n acc) (zZ (kC n 16) (e1 acc 16)) (cc 65536 n)
noncomputable def z1 (n acc:Nat):Nat:=Bool.rec (z0 n acc) (z0 (kC n 32) (e1 acc 32)) (cc 4294967296 n)
noncomputable def Ew (n:Nat):Nat:=Bool.rec (z1 n 0) (z1 (kC n 64) 64) (cc 18446744073709551616 n)
theorem X8 {n k:Nat} (h:2^k≤n):n.log2=(n>>>k).log2+k:=by
 have aT:n≠0:=by have:=eh k;lia
 rw[l0]
 have hd:n/2^k≠0:=by
  have:=Nat.div_pos h (eh k);exact jW this
 rw[BS aT]
 have J:2^(n/2^k).log2≤n/2^k:=(OR hd).mp (a3 _)
 have U:n/2^k<2^((n/2^k).log2+1):=(GO hd).mp (gF _)
 constructor
 ·rw[jw]
  exact c5 (sg _ J) (Nat.div_mul_le_self n (2^k))
 ·rw[show (n/2^k).log2+k+1=(n/2^k).log2+1+k by exact sx _ _ _,jw]
  exact (afl (eh k)).mp U
theorem XU {n:Nat} (acc:Nat) (h0:n≠0) (h:n<2^2):wF n acc=n.log2+acc:=by
 unfold wF
 cases aa:cc 2 n with
 |true=>
  have aa:=dm aa
  have:n.log2=1:=(BS h0).mpr ⟨aa,h⟩
  show Nat.succ acc=_
  lia
 |false=>
  have: ¬2≤n:=fun z=>by rw[lb z] at aa;cases aa
  have:n=1:=by lia
  subst this
  have:Nat.log2 1=0:=(BS (by decide)).mpr ⟨by decide,by decide⟩
  show acc=_
  lia
theorem tR {f:Nat→Nat→Nat} {k p:Nat} (ag:p=2^k) (hf: ∀n acc,n≠0→n<2^k→f n acc=n.log2+acc) {n:Nat} (acc:Nat) (h0:n≠0) (h:n<2^(k+k)):
  (Bool.rec (f n acc) (f (kC n k) (e1 acc k)) (cc p n):Nat)=n.log2+acc:=by
 subst ag
 cases aa:cc (2^k) n with
 |true=>
  have aa:=dm aa
  show f (n>>>k) (acc+k)=_
  have e:=l0 n k
  rw[X8 aa,hf _ _ (by rw[e];have:=Nat.div_pos aa (eh k);exact jW this) (by rw[e];apply (afl (eh k)).mpr;rw[←jw];exact h)]
  lia
 |false=>
  have: ¬2^k≤n:=fun z=>by rw[lb z] at aa;cases aa
  exact hf n acc h0 (by exact t5 this)
theorem XW {n:Nat} (acc:Nat) (h0:n≠0) (h:n<2^4):zX n acc=n.log2+acc:=tR (f:=wF) (k:=2) (by decide) (fun n acc h0 h=>XU acc h0 h) acc h0 h
theorem XX {n:Nat} (acc:Nat) (h0:n≠0) (h:n<2^8):zY n acc=n.log2+acc:=tR (f:=zX) (k:=4) (by decide) (fun n acc h0 h=>XW acc h0 h) acc h0 h
theorem XY {n:Nat} (acc:Nat) (h0:n≠0) (h:n<2^16):zZ n acc=n.log2+acc:=tR (f:=zY) (k:=8) (by decide) (fun n acc h0 h=>XX acc h0 h) acc h0 h
theorem XZ {n:Nat} (acc:Nat) (h0:n≠0) (h:n<2^32):z0 n acc=n.log2+acc:=tR (f:=zZ) (k:=16) (by decide) (fun n acc h0 h=>XY acc h0 h) acc h0 h
theorem X0 {n:Nat} (acc:Nat) (h0:n≠0) (h:n<2^64):z1 n acc=n.log2+acc:=tR (f:=z0) (k:=32) (by decide) (fun n acc h0 h=>XZ acc h0 h) acc h0 h
theorem Ex {n:Nat} (h0:n≠0) (h:n<2^128):Ew n=n.log2:=by
 have:=tR (f:=z1) (k:=64) (p:=18446744073709551616) (by decide) (fun n acc h0 h=>X0 acc h0 h) 0 h0 h
 rw[OI] at this
 exact this
noncomputable def ND (q r h:Nat):Nat:=Bool.rec (Bool.rec q (e1 q (qL q 2)) (dy r h)) (Nat.succ q) (cc (Nat.succ h) r)
noncomputable def Dw (n s:Nat):Nat:=ND (kC n s) (qL n (gP 1 s)) (gP 1 (e2 s 1))
noncomputable def ud (n G T:Nat):Nat:=e1 (qM T 4503599627370496) (Bool.rec (Dw n (e2 T G)) (gP n (e2 G T)) (cc T G))
noncomputable def mJ (n G:Nat):Nat:=ud n G (e2 (e1 (Ew n) G) 52)
theorem zg {n d c:Nat} (ah:0<c) (hd:0<d):mZ (n*c) (d*c)=mZ n d:=by
 unfold mZ
 rw[Nat.mul_div_mul_right _ _ ah,Nat.mul_mod_mul_right]
 have aF:(2*(n%d*c)>d*c)=(2*(n%d)>d):=by
  rw[←xU]
  exact propext ⟨fun h=>Nat.lt_of_mul_lt_mul_right h,fun h=>BV h ah⟩
 have aE:(2*(n%d*c)==d*c)=(2*(n%d)==d):=by
  rw[←xU,hz]
  simp only[beq_iff_eq]
  exact ⟨fun h=>Nat.eq_of_mul_eq_mul_right ah h,fun h=>by rw[h]⟩
 simp only[aF,aE]
theorem U0 {q b:Nat} (aa:0<b):mZ (q*b) b=q:=by
 unfold mZ
 rw[Nat.mul_div_cancel _ aa,Nat.mul_mod_left]
 have J: ¬(2*0>b):=by exact Nat.not_lt_of_gt aa
 have U:(2*0==b)=false:=by
  rw[hU];intro h;have:=eq_of_beq h;lia
 simp[J,U]
theorem UN {n s:Nat} (aC:0<s):Dw n s=mZ n (2^s):=by
 have e:gP 1 s=2^s:=by show 1<<<s=_;rw[pj,xV]
 have aF:gP 1 (e2 s 1)=2^(s-1):=by show 1<<<(s-1)=_;rw[pj,xV]
 have aE:kC n s=n/2^s:=l0 n s
 have cb:qL n (2^s)=n%2^s:=rfl
 have U:2^s=2*2^(s-1):=by
  have:s=(s-1)+1:=by exact pred_succ aC
  rw[this,Nat.pow_succ,Nat.mul_comm];rfl
 unfold Dw mZ ND
 rw[e,aF,aE,cb]
 generalize n/2^s=q
 generalize n%2^s=r
 rw[U]
 generalize 2^(s-1)=k
 by_cases dz:k<r
 ·have:cc (Nat.succ k) r=true:=lb dz
  rw[this]
  have de:2*r>2*k:=by lia
  simp[de]
 ·have:cc (Nat.succ k) r=false:=by
   rw[hU];intro h;exact dz (dm h)
  rw[this]
  have de: ¬2*r>2*k:=by lia
  by_cases eu:r=k
  ·subst eu
   have:dy r r=true:=BW r
   rw[this]
   show q+q%2=_
   rcases afm q with h|h<;>simp[h]
  ·have:dy r k=false:=by
    rw[hU];intro h;exact eu (ia h)
   rw[this]
   have hc: ¬2*r=2*k:=by lia
   show q=_
   simp[de,hc]
theorem roundMag_eq {n G:Nat} (h0:n≠0) (aT:n<2^128) (jH:G≤1074):sz n (2^(1074-G))=min lg (mJ n G):=by
 have aj:(2^(1074-G)).log2=1074-G:=Nat.log2_two_pow
 have hle:2^n.log2≤n:=(OR h0).mp (a3 _)
 unfold sz
 have aa:(n==0)=false:=by simpa using h0
 rw[aa,if_neg (by decide),aj]
 dsimp only
 have dv:(ei n (2^(1074-G)) (-((n.log2:Int)-((1074-G:Nat):Int)))).1≥(ei n (2^(1074-G)) (-((n.log2:Int)-((1074-G:Nat):Int)))).2:=by
  unfold ei
  by_cases ah:n.log2≤1074-G
  ·rw[if_pos (Lq ah)]
   have:(-((n.log2:Int)-((1074-G:Nat):Int))).toNat=1074-G-n.log2:=Be _ _
   rw[this]
   show n*2^(1074-G-n.log2)≥2^(1074-G)
   have e:2^(1074-G)=2^n.log2*2^(1074-G-n.log2):=by rw[←jw];congr 1;exact fC (afn ah)
   rw[e];exact sg _ hle
  ·rw[if_neg (Lr ah)]
   have:(- -((n.log2:Int)-((1074-G:Nat):Int))).toNat=n.log2-(1074-G):=Nf _ _
   rw[this]
   show n≥2^(1074-G)*2^(n.log2-(1074-G))
   rw[←jw]
   have e:1074-G+(n.log2-(1074-G))=n.log2:=uS (qD ah)
   rw[e];exact hle
 rw[if_pos dv]
 generalize cB:n.log2+G-52=T
 have he:max ((n.log2:Int)-((1074-G:Nat):Int)-52) (-1074)=(T:Int)-1074:=YW jH cB
 rw[he]
 have aS:((T:Int)-1074+1074).toNat=T:=acR T 1074
 rw[aS]
 refine congrArg (min lg) ?_
 unfold mJ
 rw[Ex h0 aT]
 have US:e2 (e1 n.log2 G) 52=T:=cB
 rw[US]
 unfold ud
 have jd:(2:Nat)^52=4503599627370496:=by decide
 rw[jd]
 show T*4503599627370496+_=T*4503599627370496+_
 refine congrArg (T*4503599627370496+·) ?_
 have key:mZ (ei n (2^(1074-G)) (-((T:Int)-1074))).1 (ei n (2^(1074-G)) (-((T:Int)-1074))).2=if T≤G then n*2^(G-T) else mZ n (2^(T-G)):=by
  unfold ei
  by_cases dz:T≤1074
  ·rw[if_pos (by exact Lq (b:=1074) dz)]
   have:(-((T:Int)-1074)).toNat=1074-T:=Be T 1074
   rw[this]
   dsimp only
   by_cases de:T≤G
   ·rw[if_pos de]
    have e:n*2^(1074-T)=n*2^(G-T)*2^(1074-G):=by rw[xU,←jw];congr 2;exact s3 de jH
    rw[e,U0 (eh _)]
   ·rw[if_neg de]
    have e:2^(1074-G)=2^(T-G)*2^(1074-T):=by rw[←jw];congr 1;exact s3 (qD de) dz
    rw[e,zg (eh _) (eh _)]
  ·rw[if_neg (by exact Lr (b:=1074) dz),if_neg (fun z=>dz (c5 z jH))]
   have:(- -((T:Int)-1074)).toNat=T-1074:=Nf T 1074
   rw[this]
   dsimp only
   have e:1074-G+(T-1074)=T-G:=(s3 jH (qD dz)).symm
   rw[←jw,e]
 refine BD key ?_
 by_cases c:T≤G
 ·rw[if_pos c,lb c]
  show _=n<<<(G-T)
  rw[pj]
 ·have aa:cc T G=false:=by
   rw[hU];intro h;exact c (dm h)
  rw[if_neg c,aa]
  exact (UN (Fu c)).symm
noncomputable def bx (x:Nat):Nat:=qL (kC x 52) 2048
noncomputable def pR (x:Nat):Nat:=qL x 4503599627370496
noncomputable def b8 (x:Nat):Bool:=dy (kC x 63) 1
noncomputable def bD (x:Nat):Nat:=Bool.rec (e1 4503599627370496 (pR x)) (pR x) (dy (bx x) 0)
noncomputable def bg (x:Nat):Nat:=e2 (bx x) 1
noncomputable def gm (b:Bool) (m:Nat):Nat:=Bool.rec m (e1 9223372036854775808 m) b
theorem jd:(2:Nat)^52=4503599627370496:=by decide
theorem CW:(2:Nat)^63=9223372036854775808:=by decide
theorem Bf {x:Nat} (h:x<2^64):(cK x).toNat=x:=by
 rw[UInt64.toNat_ofNat'];exact GP h
theorem ff {x:Nat} (h:x<2^64) (he:bx x≠2047):lV (cK x)= .fin (b8 x) (bD x) ((bg x:Int)-1074):=by
 unfold lV
 rw[Bf h]
 have J:x/2^52%2048=bx x:=by unfold bx;show _=(x>>>52)%2048;rw[l0]
 have U:x%2^52=pR x:=by unfold pR;rw[jd];rfl
 have av:(x/2^63==1)=b8 x:=by
  unfold b8
  have:kC x 63=x/2^63:=l0 x 63
  rw[this,hz,beq_iff_eq]
  exact ⟨fun h=>by rw[h];rfl,ia⟩
 rw[J,U,av,jd]
 dsimp only
 have aa:(bx x==2047)=false:=by simpa using he
 rw[aa,if_neg (by decide)]
 unfold bD bg
 by_cases c:bx x=0
 ·have gs:(bx x==0)=true:=by simpa using c
  have j5:dy (bx x) 0=true:=by rw[c];exact BW 0
  rw[gs,if_pos rfl,j5]
  congr 1
  have:e2 (bx x) 1=0:=by rw[c]
  rw[this];rfl
 ·have gs:(bx x==0)=false:=by simpa using c
  have j5:dy (bx x) 0=false:=by
   rw[hU];intro z;exact c (ia z)
  rw[gs,if_neg (by decide),j5]
  congr 1
  have:e2 (bx x) 1=bx x-1:=rfl
  rw[this];exact RI c
theorem pack_toNat {b:Bool} {m:Nat} (h:m<2^63):(BX b m).toNat=gm b m:=by
 unfold BX gm
 have af4:(2:Nat)^64=2*2^63:=by decide
 have:((if b then 2^63 else 0)+m)<2^64:=by
  cases b
  ·show 0+m<2^64;rw[kA];exact qP h (by decide)
  ·exact OS h
 show (cK ((if b then 2^63 else 0)+m)).toNat=_
 rw[Bf this]
 cases b
 ·simp
 ·rw[if_pos rfl,CW];rfl
theorem Ap {b:Bool} {n G:Nat} (h0:n≠0) (aT:n<2^128) (jH:G≤1074):(g5 b n ((G:Int)-1074)).toNat=gm b (min lg (mJ n G)):=by
 unfold g5 BY
 have aC:ei n 1 ((G:Int)-1074)=(n,2^(1074-G)):=by
  unfold ei
  by_cases c:G=1074
  ·subst c;rw[if_pos (by exact afo _)];simp
  ·rw[if_neg (by exact Ls (b:=1074) jH c)]
   have:(-((G:Int)-1074)).toNat=1074-G:=Be G 1074
   rw[this,xV]
 rw[aC]
 dsimp only
 rw[roundMag_eq h0 aT jH]
 exact pack_toNat (ic (OT _ _) (by decide))
noncomputable def vh (n:Nat):Nat:=Bool.rec 9218868437227405312 n (cc n 9218868437227405312)
noncomputable def k4 (b:Bool) (n G:Nat):Nat:=gm b (Nat.rec 0 (fun k _=>vh (mJ (Nat.succ k) G)) n)
noncomputable def Cq (a b:Bool) (P Q G:Nat):Nat:=
 Bool.rec (Bool.rec (Bool.rec (k4 a (e2 P Q) G) (k4 b (e2 Q P) G) (cc P Q)) 0 (dy P Q)) (k4 a (e1 P Q) G) (Bool.rec (Bool.rec true false b) b a)
theorem H7 (n:Nat):vh n=min lg n:=by
 have aB:lg=9218868437227405312:=by decide
 rw[aB]
 unfold vh
 by_cases c:n≤9218868437227405312
 ·rw[lb c];exact (xI c).symm
 ·have:cc n 9218868437227405312=false:=by
   rw[hU];intro h;exact c (dm h)
  rw[this];exact (mX (fK (Bs c))).symm
theorem Fi {b:Bool} {n G:Nat} (h0:n≠0) (aT:n<2^128) (jH:G≤1074):(g5 b n ((G:Int)-1074)).toNat=k4 b n G:=by
 rw[Ap h0 aT jH]
 unfold k4
 cases n with
 |zero=>exact absurd rfl h0
 |succ n=>rw[←H7]
theorem NZ (b:Bool):(g6 b).toNat=gm b 0:=pack_toNat (by decide)
theorem Fq (b:Bool):cC b 0=0:=by cases b<;>rfl
theorem MG (b:Bool) {m:Nat} (h:m≠0):(cC b m==0)=false∧decide (cC b m<0)=b∧(cC b m).natAbs=m:=by
 cases b
 ·exact ⟨beq_eq_false_iff_ne.mpr (BP.mpr h),decide_eq_false (xR _),rfl⟩
 ·exact ⟨beq_eq_false_iff_ne.mpr (Int.neg_ne_zero.mpr (BP.mpr h)),decide_eq_true (afq (nX.mpr (G2 h))),Px m⟩
theorem abG (s:Bool) (P Q:Nat):cC s P+cC s Q=cC s (P+Q):=by
 cases s
 ·rfl
 ·exact (Int.neg_add (a:=P) (b:=Q)).symm
theorem MH (s:Bool) {P Q:Nat} (h:P≤Q):cC s P+cC (!s) Q=cC (!s) (Q-P):=by
 cases s
 ·exact vo h
 ·exact (nU _ _).trans (s9 h)
theorem abH (s:Bool) {P Q:Nat} (h:Q≤P):cC s P+cC (!s) Q=cC s (P-Q):=by
 cases s
 ·exact s9 h
 ·exact (nU _ _).trans (vo h)
theorem Fp (s:Bool) {n G:Nat} (z:UInt64) (h0:n≠0) (aT:n<2^128) (jH:G≤1074):(if cC s n==0 then z else g5 (cC s n<0) (cC s n).natAbs ((G:Int)-1074)).toNat=k4 s n G:=by
 obtain ⟨f1,f2,dn⟩:=MG s h0
 rw[f1,f2,dn,if_neg (by decide)]
 exact Fi h0 aT jH
theorem Hx {a b:Bool} {P Q G:Nat} (aT:P+Q<2^128) (jH:G≤1074):
  (if cC a P+cC b Q==0 then g6 (a&&b) else g5 (cC a P+cC b Q<0) (cC a P+cC b Q).natAbs ((G:Int)-1074)).toNat=Cq a b P Q G:=by
 have same: ∀(s:Bool),(if cC s P+cC s Q==0 then g6 s else g5 (cC s P+cC s Q<0) (cC s P+cC s Q).natAbs ((G:Int)-1074)).toNat=k4 s (P+Q) G:=fun s=>by
  rw[abG]
  by_cases c:P+Q=0
  ·rw[c,Fq];exact NZ s
  ·exact Fp s _ c aT jH
 have diff: ∀(s:Bool),(if cC s P+cC (!s) Q==0 then g6 false else g5 (cC s P+cC (!s) Q<0) (cC s P+cC (!s) Q).natAbs ((G:Int)-1074)).toNat=
   Bool.rec (Bool.rec (k4 s (e2 P Q) G) (k4 (!s) (e2 Q P) G) (cc P Q)) 0 (dy P Q):=fun s=>by
  by_cases c:P=Q
  ·subst c
   rw[MH s (a3 P),qH,Fq,BW]
   exact NZ false
  ·rw[CB c]
   by_cases de:P≤Q
   ·rw[lb de,MH s de]
    exact Fp _ _ (ZN c de) (abN aT) jH
   ·rw[Qi de,abH s (qD de)]
    exact Fp _ _ (ZO de) (abM aT) jH
 cases a<;>cases b
 ·exact same false
 ·exact diff false
 ·exact diff true
 ·exact same true
noncomputable def Cp (a b:Bool) (m k E F:Nat):Nat:=Bool.rec (Cq a b (gP m (e2 E F)) k F) (Cq a b m (gP k (e2 F E)) E) (cc E F)
theorem mB {x:Nat}:bD x<2^53:=by
 have h:pR x<4503599627370496:=qN _ (by decide)
 have e:(2:Nat)^53=9007199254740992:=by decide
 unfold bD
 cases dy (bx x) 0
 ·show 4503599627370496+pR x<_;exact OS h
 ·show pR x<_;exact iA h rfl
theorem MM {m d:Nat} (hm:m<2^53) (hd:d≤70):m*2^d<2^123:=by
 have J:m*2^d<2^53*2^d:=BV hm (eh d)
 have U:2^53*2^d≤2^53*2^70:=uW _ (GN (by decide) hd)
 have av:(2:Nat)^53*2^70=2^123:=by decide
 exact hA J U
theorem PA {x y:Nat} (ae:x<2^64) (bl:y<2^64) (ex:bx x≤1075) (iT:bx y≤1075) (bb:bg x-bg y≤70) (b4:bg y-bg x≤70):
  (cF (cK x) (cK y)).toNat=Cp (b8 x) (b8 y) (bD x) (bD y) (bg x) (bg y):=by
 unfold cF
 rw[ff ae (fV ex rfl),ff bl (fV iT rfl)]
 dsimp only
 have a8:=mB (x:=x)
 have oT:=mB (x:=y)
 have O5:bg x≤1074:=by unfold bg;show bx x-1≤1074;exact qJ ex
 have O6:bg y≤1074:=by unfold bg;show bx y-1≤1074;exact qJ iT
 have big:(2:Nat)^123+2^53<2^128:=by decide
 clear ex iT
 generalize bD x=m at*
 generalize bD y=k at*
 generalize bg x=E at*
 generalize bg y=F at*
 have mO: ∀g:Int,∀p q:Nat,g=min ((E:Int)-1074) ((F:Int)-1074)→((E:Int)-1074-g).toNat=p→((F:Int)-1074-g).toNat=q→
   f5 (b8 x) m ((E:Int)-1074) (b8 y) k ((F:Int)-1074)=(cC (b8 x) (m*2^p),cC (b8 y) (k*2^q),g):=fun g p q J U av=>by
  unfold f5
  rw[←J]
  subst U av
  rfl
 unfold Cp
 by_cases c:E≤F
 ·rw[lb c,mO ((E:Int)-1074) 0 (F-E) (EM _ c) (uo _ _) (um _ _ _)]
  have aC:gP k (e2 F E)=k*2^(F-E):=pj _ _
  have:=MM oT b4
  have z:m*2^0=m:=lh _
  have r:=Hx (a:=b8 x) (b:=b8 y) (P:=m*2^0) (Q:=k*2^(F-E)) (G:=E) (by rw[z];exact qP (Nat.add_lt_add a8 this) (by decide)) O5
  refine r.trans ?_
  rw[z,←aC]
 ·have aa:cc E F=false:=by
   rw[hU];intro h;exact c (dm h)
  rw[aa,mO ((F:Int)-1074) (E-F) 0 (Lf _ c) (um _ _ _) (uo _ _)]
  have aC:gP m (e2 E F)=m*2^(E-F):=pj _ _
  have:=MM a8 bb
  have z:k*2^0=k:=lh _
  have r:=Hx (a:=b8 x) (b:=b8 y) (P:=m*2^(E-F)) (Q:=k*2^0) (G:=F) (by rw[z];exact qP (Nat.add_lt_add this oT) (by decide)) O6
  refine r.trans ?_
  rw[z,←aC]
noncomputable def EV (a b:Bool) (m k S:Nat):Nat:=k4 (Bool.rec b (Bool.rec true false b) a) (qM m k) (e2 S 1074)
theorem YT {x y:Nat} (ae:x<2^64) (bl:y<2^64) (ex:bx x≠2047) (iT:bx y≠2047) (h0:bD x*bD y≠0) (bb:1074≤bg x+bg y) (b4:bg x+bg y≤2148):
  (cP (cK x) (cK y)).toNat=EV (b8 x) (b8 y) (bD x) (bD y) (bg x+bg y):=by
 unfold cP
 rw[ff ae ex,ff bl iT]
 dsimp only
 have a8:=mB (x:=x)
 have oT:=mB (x:=y)
 have dd:bD x*bD y<2^128:=by
  have J:bD x*bD y<2^53*2^53:=Nat.mul_lt_mul_of_lt_of_lt a8 oT
  have U:(2:Nat)^53*2^53<2^128:=by decide
  exact iA J rfl
 have bM:(bg x:Int)-1074+((bg y:Int)-1074)=((bg x+bg y-1074:Nat):Int)-1074:=Py bb
 rw[bM,Fi h0 dd (by exact qJ b4)]
 unfold EV
 cases b8 x<;>cases b8 y<;>rfl
noncomputable def LJ (x y:Nat):Bool:=Bool.rec false (Bool.rec false (Bool.rec false (cc (e2 (bg y) (bg x)) 70) (cc (e2 (bg x) (bg y)) 70)) (cc (bx y) 1075)) (cc (bx x) 1075)
noncomputable def vC (x y:Nat):Nat:=Bool.rec ((cF (cK x) (cK y)).toNat) (Cp (b8 x) (b8 y) (bD x) (bD y) (bg x) (bg y)) (LJ x y)
noncomputable def LN (x y:Nat):Bool:=Bool.rec false (Bool.rec false (Bool.rec false (Bool.rec false (Bool.rec true false (dy (qM (bD x) (bD y)) 0)) (cc (e1 (bg x) (bg y)) 2148)) (cc 1074 (e1 (bg x) (bg y)))) (cc (bx y) 2046)) (cc (bx x) 2046)
noncomputable def vD (x y:Nat):Nat:=Bool.rec ((cP (cK x) (cK y)).toNat) (EV (b8 x) (b8 y) (bD x) (bD y) (e1 (bg x) (bg y))) (LN x y)
noncomputable def vE (x:Nat):Nat:=Bool.rec ((jr (cK x)).toNat) (Nat.xor x 9223372036854775808) (cc (bx x) 2046)
theorem jP {b:Bool} {x y:Bool} (h:(Bool.rec x y b:Bool)=true) (ae:x=false):b=true∧y=true:=by
 cases b
 ·rw[ae] at h;cases h
 ·exact ⟨rfl,h⟩
theorem eC (x:UInt64):cK x.toNat=x:=UInt64.ofNat_toNat
theorem fc (x:UInt64):x.toNat<2^64:=x.toNat_lt
theorem C7 (x y:UInt64):vC x.toNat y.toNat=(cF x y).toNat:=by
 unfold vC
 cases h:LJ x.toNat y.toNat with
 |false=>show (cF (cK x.toNat) (cK y.toNat)).toNat=_;rw[eC,eC]
 |true=>
  obtain ⟨J,h⟩:=jP h rfl
  obtain ⟨U,h⟩:=jP h rfl
  obtain ⟨av,a0⟩:=jP h rfl
  have:=PA (fc x) (fc y) (dm J) (dm U) (dm av) (dm a0)
  rw[eC,eC] at this
  exact this.symm
theorem C9 (x y:UInt64):vD x.toNat y.toNat=(cP x y).toNat:=by
 unfold vD
 cases h:LN x.toNat y.toNat with
 |false=>show (cP (cK x.toNat) (cK y.toNat)).toNat=_;rw[eC,eC]
 |true=>
  obtain ⟨J,h⟩:=jP h rfl
  obtain ⟨U,h⟩:=jP h rfl
  obtain ⟨av,h⟩:=jP h rfl
  obtain ⟨a0,bp⟩:=jP h rfl
  have gs:=dm J
  have j5:=dm U
  have yj:=dm av
  have yk:=dm a0
  have h0:bD x.toNat*bD y.toNat≠0:=fun z=>by
   have:qM (bD x.toNat) (bD y.toNat)=0:=z
   rw[this] at bp;cases bp
  have:=YT (fc x) (fc y) (fV gs rfl) (fV j5 rfl) h0 yj yk
  rw[eC,eC] at this
  exact this.symm
theorem C' (x:UInt64):vE x.toNat=(jr x).toNat:=by
 unfold vE
 cases h:cc (bx x.toNat) 2046 with
 |false=>show (jr (cK x.toNat)).toNat=_;rw[eC]
 |true=>
  have b:=dm h
  have hd:=ff (fc x) (fV b rfl)
  rw[eC] at hd
  show Nat.xor x.toNat 9223372036854775808=_
  unfold jr
  have aT:OH x=false:=by unfold OH;rw[hd]
  rw[aT,if_neg (by decide),UInt64.toNat_xor]
  have:(BX true 0).toNat=9223372036854775808:=by decide
  rw[this]
  rfl
noncomputable def oQ (a b:Bool) (P Q:Nat):Bool:=Bool.rec (Bool.rec (cc (Nat.succ P) Q) false b) (Bool.rec (Bool.rec true false (dy (e1 P Q) 0)) (cc (Nat.succ Q) P) b) a
noncomputable def vx (a b:Bool) (P Q:Nat):Bool:=Bool.rec (Bool.rec (dy P Q) (dy (e1 P Q) 0) b) (Bool.rec (dy (e1 P Q) 0) (dy P Q) b) a
noncomputable def fin2 (x y:Nat):Bool:=Bool.rec false (cc (bx y) 2046) (cc (bx x) 2046)
noncomputable def ng (f:Bool→Bool→Nat→Nat→Bool) (a b:Bool) (m k E F:Nat):Bool:=Bool.rec (f a b (gP m (e2 E F)) k) (f a b m (gP k (e2 F E))) (cc E F)
noncomputable def h3 (x y:Nat):Bool:=Bool.rec (hx (cK x) (cK y)==some Ordering.lt) (ng oQ (b8 x) (b8 y) (bD x) (bD y) (bg x) (bg y)) (fin2 x y)
noncomputable def kU (x y:Nat):Bool:=Bool.rec (hx (cK x) (cK y)==some Ordering.eq) (ng vx (b8 x) (b8 y) (bD x) (bD y) (bg x) (bg y)) (fin2 x y)
theorem Rg (p q:Int):(some (compare p q)==some Ordering.lt)=decide (p<q):=by
 rw[hz]
 simp only[beq_iff_eq,Ob,decide_eq_true_eq]
 unfold compare instOrdInt compareOfLessAndEq
 dsimp only
 by_cases h:p<q
 ·simp[h]
 ·by_cases U:p=q<;>simp[h,U]
theorem Rc (p q:Int):(some (compare p q)==some Ordering.eq)=decide (p=q):=by
 rw[hz]
 simp only[beq_iff_eq,Ob,decide_eq_true_eq]
 unfold compare instOrdInt compareOfLessAndEq
 dsimp only
 by_cases h:p<q
 ·simp[h];exact Int.ne_of_lt h
 ·by_cases U:p=q<;>simp[h,U]
theorem CC (P Q:Nat):cc (Nat.succ P) Q=decide (P<Q):=by
 by_cases c:P<Q
 ·rw[lb c,decide_eq_true c]
 ·rw[decide_eq_false c,hU];intro h;exact c (dm h)
theorem yn (P Q:Nat):dy P Q=decide (P=Q):=by
 by_cases c:P=Q
 ·subst c;rw[BW];simp
 ·rw[decide_eq_false c,hU];intro h;exact c (ia h)
theorem Yi (a b:Bool) (P Q:Nat):decide (cC a P<cC b Q)=oQ a b P Q:=by
 unfold oQ cC
 rw[CC,CC,yn]
 cases a<;>cases b
 ·show decide ((P:Int)<(Q:Int))=decide (P<Q)
  simp
 ·show decide ((P:Int)< -(Q:Int))=false
  rw[hU];simp only[decide_eq_true_eq,ne_eq];exact Zo P Q
 ·show decide (-(P:Int)<(Q:Int))=Bool.rec true false (decide (P+Q=0))
  by_cases c:P+Q=0
  ·rw[decide_eq_true c];exact decide_eq_false (Zp c)
  ·rw[decide_eq_false c];exact decide_eq_true (Zq c)
 ·show decide (-(P:Int)< -(Q:Int))=decide (Q<P)
  simp
theorem SK (a b:Bool) (P Q:Nat):decide (cC a P=cC b Q)=vx a b P Q:=by
 unfold vx cC
 rw[yn,yn]
 cases a<;>cases b
 ·show decide ((P:Int)=(Q:Int))=decide (P=Q)
  rw[hz];simp only[decide_eq_true_eq];exact uT
 ·show decide ((P:Int)= -(Q:Int))=decide (P+Q=0)
  rw[hz];simp only[decide_eq_true_eq];exact IC P Q
 ·show decide (-(P:Int)=(Q:Int))=decide (P+Q=0)
  rw[hz];simp only[decide_eq_true_eq];exact R6 P Q
 ·show decide (-(P:Int)= -(Q:Int))=decide (P=Q)
  rw[hz];simp only[decide_eq_true_eq];exact R7 P Q
theorem HB {a b:Bool} {m k E F:Nat} (f:Bool→Bool→Nat→Nat→Bool) (g:Int→Int→Bool) (hf: ∀a b P Q,g (cC a P) (cC b Q)=f a b P Q):
  g (f5 a m ((E:Int)-1074) b k ((F:Int)-1074)).1 (f5 a m ((E:Int)-1074) b k ((F:Int)-1074)).2.1=ng f a b m k E F:=by
 have mO: ∀g:Int,∀p q:Nat,g=min ((E:Int)-1074) ((F:Int)-1074)→((E:Int)-1074-g).toNat=p→((F:Int)-1074-g).toNat=q→
   f5 a m ((E:Int)-1074) b k ((F:Int)-1074)=(cC a (m*2^p),cC b (k*2^q),g):=fun g p q J U av=>by
  unfold f5
  rw[←J]
  subst U av
  rfl
 unfold ng
 by_cases c:E≤F
 ·rw[lb c,mO ((E:Int)-1074) 0 (F-E) (EM _ c) (uo _ _) (um _ _ _)]
  have aC:gP k (e2 F E)=k*2^(F-E):=pj _ _
  have z:m*2^0=m:=lh _
  refine (hf a b (m*2^0) (k*2^(F-E))).trans ?_
  rw[z,←aC]
 ·have aa:cc E F=false:=by
   rw[hU];intro h;exact c (dm h)
  rw[aa,mO ((F:Int)-1074) (E-F) 0 (Lf _ c) (um _ _ _) (uo _ _)]
  have aC:gP m (e2 E F)=m*2^(E-F):=pj _ _
  have z:k*2^0=k:=lh _
  refine (hf a b (m*2^(E-F)) (k*2^0)).trans ?_
  rw[z,←aC]
theorem I1 {x y:Nat} (h:fin2 x y=true):bx x≤2046∧bx y≤2046:=by
 obtain ⟨J,U⟩:=jP h rfl
 exact ⟨dm J,dm U⟩
theorem C8 (x y:UInt64):h3 x.toNat y.toNat=(hx x y==some Ordering.lt):=by
 unfold h3
 cases h:fin2 x.toNat y.toNat with
 |false=>show (hx (cK x.toNat) (cK y.toNat)==some Ordering.lt)=_;rw[eC,eC]
 |true=>
  obtain ⟨J,U⟩:=I1 h
  have bb:=ff (fc x) (fV J rfl)
  have b4:=ff (fc y) (fV U rfl)
  rw[eC] at bb b4
  show ng oQ _ _ _ _ _ _=_
  unfold hx
  rw[bb,b4]
  exact ((Rg _ _).trans (HB oQ (fun p q=>decide (p<q)) Yi)).symm
theorem Y5 (x y:UInt64):kU x.toNat y.toNat=(hx x y==some Ordering.eq):=by
 unfold kU
 cases h:fin2 x.toNat y.toNat with
 |false=>show (hx (cK x.toNat) (cK y.toNat)==some Ordering.eq)=_;rw[eC,eC]
 |true=>
  obtain ⟨J,U⟩:=I1 h
  have bb:=ff (fc x) (fV J rfl)
  have b4:=ff (fc y) (fV U rfl)
  rw[eC] at bb b4
  show ng vx _ _ _ _ _ _=_
  unfold hx
  rw[bb,b4]
  exact ((Rc _ _).trans (HB vx (fun p q=>decide (p=q)) SK)).symm
noncomputable def st {α:Type} (n:Nat) (f:Nat→α):α:=Nat.rec (f 0) (fun k _=>f (Nat.succ k)) n
theorem bU {α:Type} (n:Nat) (f:Nat→α):st n f=f n:=by cases n<;>rfl
noncomputable def NC (q r d:Nat):Nat:=Bool.rec (Bool.rec q (e1 q (qL q 2)) (dy r d)) (Nat.succ q) (cc (Nat.succ d) r)
noncomputable def hDiv (n d:Nat):Nat:=NC (Nat.div n d) (qM 2 (qL n d)) d
theorem UM (n d:Nat):hDiv n d=mZ n d:=by
 unfold hDiv NC mZ
 rw[CC,yn]
 have aF:Nat.div n d=n/d:=rfl
 have aE:qM 2 (qL n d)=2*(n%d):=rfl
 rw[aF,aE]
 generalize n/d=q
 generalize n%d=r
 by_cases dz:d<2*r
 ·rw[decide_eq_true dz]
  have:2*r>d:=dz
  simp[this]
 ·rw[decide_eq_false dz]
  have dH: ¬2*r>d:=dz
  by_cases de:2*r=d
  ·rw[decide_eq_true de]
   show q+q%2=_
   rcases afm q with h|h<;>simp[dH,de,h]
  ·rw[decide_eq_false de]
   show q=_
   simp[dH,de]
theorem Ez {m:Nat} (J:2^52≤m) (U:m<2^53) (j:Nat):(m*2^j).log2=52+j:=by
 have h0:m*2^j≠0:=by
  have:=OU (show 0<m by exact xW J) (eh j);exact jW this
 rw[BS h0]
 constructor
 ·rw[jw];exact sg _ J
 ·rw[show 52+j+1=53+j by exact sx _ _ _,jw];exact BV U (eh j)
noncomputable def yF (m k E F:Nat):Nat:=Bool.rec
 (e1 (qM (e2 (e1 E 1021) F) 4503599627370496) (hDiv (gP m 53) k))
 (e1 (qM (e2 (e1 E 1022) F) 4503599627370496) (hDiv (gP m 52) k)) (cc k m)
theorem shift_pos {n d:Nat} {k:Int} {j:Nat} (h:k=j):ei n d k=(n*2^j,d):=by
 subst h
 unfold ei
 rw[if_pos (by exact l1 _)]
 rfl
theorem xm {n d:Nat} {k:Int} {j:Nat} (h:k= -(j:Int)) (aP:0<j):ei n d k=(n,d*2^j):=by
 subst h
 unfold ei
 rw[if_neg (Zn aP)]
 have:(- -(j:Int)).toNat=j:=by rw[Int.neg_neg];rfl
 rw[this]
theorem abe {m k E F:Nat} (bT:2^52≤m) (cG:m<2^53) (bt:2^52≤k) (bB:k<2^53) (ze:F≤E+1021):
  sz (ei m k ((E:Int)-F)).1 (ei m k ((E:Int)-F)).2=min lg (yF m k E F):=by
 have T6: ∃p q:Nat,ei m k ((E:Int)-F)=(m*2^p,k*2^q)∧(p:Int)-q=(E:Int)-F∧(p=0∨q=0):=by
  by_cases c:F≤E
  ·exact ⟨E-F,0,by rw[shift_pos (j:=E-F) (by exact fC (so c)),sA,lh],(sy _).trans (s9 c).symm,.inr rfl⟩
  ·exact ⟨0,F-E,by rw[xm (j:=F-E) (It c) (Fu c),sA,lh],(Int.zero_sub _).trans (It c).symm,.inl rfl⟩
 obtain ⟨p,q,aC,iX,a6⟩:=T6
 rw[aC]
 dsimp only
 have tw:0<m:=by have:=eh 52;exact xW bT
 have tr:0<k:=by have:=eh 52;exact xW bt
 unfold sz
 have Vt:(m*2^p==0)=false:=by
  rw[hU];intro h;have:=eq_of_beq h
  exact absurd this (ju (OU tw (eh p)))
 rw[Vt,if_neg (by decide),Ez bT cG,Ez bt bB]
 dsimp only
 have ai:((52+p:Nat):Int)-((52+q:Nat):Int)=(E:Int)-F:=(Qt 52 p q).trans iX
 rw[ai]
 have pX:((ei (m*2^p) (k*2^q) (-((E:Int)-F))).1≥(ei (m*2^p) (k*2^q) (-((E:Int)-F))).2)↔k≤m:=by
  rcases a6 with rfl|rfl
  ·rw[shift_pos (j:=q) (by rw[←iX];exact Zx q)]
   show k*2^q≤m*2^0*2^q↔_
   rw[sA,lh]
   exact afp (eh q)
  ·by_cases ag:p=0
   ·subst ag
    rw[shift_pos (j:=0) (by rw[←iX];rfl)]
    show k*2^0≤m*2^0*2^0↔_
    simp
   ·rw[xm (j:=p) (by rw[←iX];exact Zt p) (by exact Nat.zero_lt_of_ne_zero ag)]
    show k*2^0*2^p≤m*2^p↔_
    rw[sA,lh]
    exact afp (eh p)
 have last: ∀s:Nat,(s=52∨s=53)→mZ (ei (m*2^p) (k*2^q) (-((E:Int)-F-s))).1 (ei (m*2^p) (k*2^q) (-((E:Int)-F-s))).2=hDiv (gP m s) k:=fun s h5=>by
  have VS:gP m s=m*2^s:=pj _ _
  rw[UM,VS]
  rcases a6 with rfl|rfl
  ·rw[shift_pos (j:=q+s) (by rw[←iX];exact Zu q s)]
   dsimp only
   rw[sA,lh,jw,←xU,OV]
   exact zg (eh q) tr
  ·rw[sA,lh]
   by_cases ag:p≤s
   ·rw[shift_pos (j:=s-p) (by rw[←iX];exact Zv ag)]
    dsimp only
    rw[xU,←jw]
    have:p+(s-p)=s:=by exact afn ag
    rw[this]
   ·rw[xm (j:=p-s) (by rw[←iX];exact Zw ag) (Fu ag)]
    dsimp only
    have e:m*2^p=m*2^s*2^(p-s):=by
     rw[xU,←jw]
     have:s+(p-s)=p:=abZ ag
     rw[this]
    rw[e]
    exact zg (eh _) tr
 unfold yF
 by_cases c:k≤m
 ·rw[if_pos (pX.mpr c),lb c]
  have he:max ((E:Int)-F-52) (-1074)=(E:Int)-F-((52:Nat):Int):=Li 52 ze rfl
  rw[he]
  refine congrArg (min lg) ?_
  rw[last 52 (.inl rfl)]
  have aS:((E:Int)-F-((52:Nat):Int)+1074).toNat=E+1022-F:=Nc E F _ _ rfl
  rw[aS,jd]
  rfl
 ·have aa:cc k m=false:=by
   rw[hU];intro h;exact c (dm h)
  rw[if_neg (fun h=>c (pX.mp h)),aa]
  have he:max ((E:Int)-F-53) (-1074)=(E:Int)-F-((53:Nat):Int):=Li 53 ze rfl
  rw[he]
  refine congrArg (min lg) ?_
  rw[last 53 (.inr rfl)]
  have aS:((E:Int)-F-((53:Nat):Int)+1074).toNat=E+1021-F:=Nc E F _ _ rfl
  rw[aS,jd]
  rfl
noncomputable def LM (x y:Nat):Bool:=Bool.rec false (Bool.rec false (Bool.rec false (Bool.rec false (cc (bg y) (e1 (bg x) 1021)) (cc (bx y) 2046)) (cc (bx x) 2046)) (cc 1 (bx y))) (cc 1 (bx x))
noncomputable def yL (x y:Nat):Nat:=Bool.rec ((eH (cK x) (cK y)).toNat) (gm (Bool.rec (b8 y) (Bool.rec true false (b8 y)) (b8 x)) (vh (yF (bD x) (bD y) (bg x) (bg y)))) (LM x y)
theorem lG {x:Nat} (h:1≤bx x):2^52≤bD x:=by
 unfold bD
 have:dy (bx x) 0=false:=by
  exact CB (ju h)
 rw[this,jd]
 exact g4 _ _
theorem RM {x y:Nat} (ae:x<2^64) (bl:y<2^64) (gp:1≤bx x) (sf:1≤bx y) (mR:bx x≤2046) (uC:bx y≤2046) (ze:bg y≤bg x+1021):
  (eH (cK x) (cK y)).toNat=gm (Bool.rec (b8 y) (Bool.rec true false (b8 y)) (b8 x)) (vh (yF (bD x) (bD y) (bg x) (bg y))):=by
 unfold eH
 rw[ff ae (fV mR rfl),ff bl (fV uC rfl)]
 dsimp only
 have a8:=mB (x:=x)
 have oT:=mB (x:=y)
 have gi:=lG gp
 have y9:=lG sf
 generalize bD x=m at*
 generalize bD y=k at*
 generalize bg x=E at*
 generalize bg y=F at*
 have aj:(k==0)=false:=by
  exact beq_eq_false_iff_ne.mpr (ju (hA (eh 52) y9))
 rw[aj,if_neg (by decide)]
 have he:(E:Int)-1074-((F:Int)-1074)=(E:Int)-F:=Mw _ _ _
 rw[he]
 unfold BY
 rw[abe gi a8 y9 oT ze,pack_toNat (ic (OT _ _) (by decide)),←H7]
 cases b8 x<;>cases b8 y<;>rfl
theorem IX (x y:UInt64):yL x.toNat y.toNat=(eH x y).toNat:=by
 unfold yL
 cases h:LM x.toNat y.toNat with
 |false=>show (eH (cK x.toNat) (cK y.toNat)).toNat=_;rw[eC,eC]
 |true=>
  obtain ⟨J,h⟩:=jP h rfl
  obtain ⟨U,h⟩:=jP h rfl
  obtain ⟨av,h⟩:=jP h rfl
  obtain ⟨a0,bp⟩:=jP h rfl
  have:=RM (fc x) (fc y) (dm J) (dm U) (dm av) (dm a0) (dm bp)
  rw[eC,eC] at this
  exact this.symm
noncomputable abbrev fu:Nat:=4607182418800017408
theorem MB {m E:Nat} (J:2^52≤m) (U:m<2^53) (hi:E≤1074):mJ m E=E*4503599627370496+m:=by
 unfold mJ
 have h0:m≠0:=by have:=eh 52;exact jW J
 have aa:(2:Nat)^53<2^128:=by decide
 rw[Ex h0 (by exact iA U rfl)]
 have:m.log2=52:=by
  have:=Ez J U 0
  rw[sA,lh] at this
  exact this
 rw[this]
 have cB:e2 (e1 52 E) 52=E:=by show 52+E-52=E;exact ae2 _ _
 rw[cB]
 unfold ud
 rw[lb (a3 E)]
 have:e2 E E=0:=qH E
 rw[this]
 rfl
theorem HX {x:Nat} (ae:x<2^64) (J:1≤bx x) (U:bx x≤2046):gm (b8 x) (bg x*4503599627370496+bD x)=x:=by
 have aG:x>>>52=x/2^52:=l0 x 52
 have aC:x>>>63=x/2^63:=l0 x 63
 have CX:(2:Nat)^64=18446744073709551616:=by decide
 rw[CW] at aC
 rw[CX] at ae
 have aa:dy (bx x) 0=false:=by
  exact CB (ju J)
 have hex:bx x=x/4503599627370496%2048:=by
  unfold bx
  show (x>>>52)%2048=_
  rw[aG,jd]
 have J3:bD x=4503599627370496+x%4503599627370496:=by
  unfold bD;rw[aa];rfl
 have JJ:bg x=bx x-1:=rfl
 cases bM:b8 x with
 |false=>
  have DM: ¬x/9223372036854775808=1:=fun z=>by
   unfold b8 at bM
   have:kC x 63=1:=aC.trans z
   rw[this] at bM;cases bM
  show bg x*4503599627370496+bD x=x
  rw[J3,JJ]
  lia
 |true=>
  have DM:x/9223372036854775808=1:=by
   unfold b8 at bM
   have:kC x 63=1:=ia bM
   rw[←aC];exact this
  show 9223372036854775808+(bg x*4503599627370496+bD x)=x
  rw[J3,JJ]
  lia
theorem Qh {x:Nat} (ae:x<2^64) (aC:b8 x=false) (J:1≤bx x) (U:bx x≤2046):bg x*4503599627370496+bD x=x:=by
 have:=HX ae J U
 rw[aC] at this
 exact this
theorem E6:bx fu=1023∧b8 fu=false∧bD fu=4503599627370496∧bg fu=1022:=by
 refine ⟨?_,?_,?_,?_⟩<;>decide+kernel
theorem toNat_inj {a b:UInt64} (h:a.toNat=b.toNat):a=b:=UInt64.toNat_inj.mp h
theorem TK {x:Nat} (ae:x<2^64) (aC:b8 x=false) (J:1≤bx x) (U:bx x≤1022):sC (cK x) (cK fu)=cK x:=by
 obtain ⟨kX,gL,t8,rX⟩:=E6
 have gi:=lG J
 have a8:=mB (x:=x)
 have aa:=Qh ae aC J (by exact bX U rfl)
 have hi:bg x≤1021:=by show bx x-1≤1021;exact qJ U
 unfold sC
 rw[ff ae (fV U rfl),ff (x:=fu) (by decide) (fV (b0 kX) rfl),aC,gL,t8,rX]
 dsimp only
 rw[if_neg (by decide)]
 have mO:f5 false (bD x) ((bg x:Int)-1074) false 4503599627370496 (((1022:Nat):Int)-1074)=(cC false (bD x),cC false (4503599627370496*2^(1022-bg x)),(bg x:Int)-1074):=by
  unfold f5
  have g:min ((bg x:Int)-1074) (((1022:Nat):Int)-1074)=(bg x:Int)-1074:=Lg _ (bX hi rfl)
  rw[g]
  have a1:((bg x:Int)-1074-((bg x:Int)-1074)).toNat=0:=uo _ _
  have a2:(((1022:Nat):Int)-1074-((bg x:Int)-1074)).toNat=1022-bg x:=um _ _ _
  show (cC false (bD x*2^((bg x:Int)-1074-((bg x:Int)-1074)).toNat),cC false (4503599627370496*2^(((1022:Nat):Int)-1074-((bg x:Int)-1074)).toNat),(bg x:Int)-1074)=_
  rw[a1,a2]
  have:bD x*2^0=bD x:=lh _
  rw[this]
 rw[mO]
 dsimp only
 have p1:(cC false (bD x)).toNat=bD x:=rfl
 have p2:(cC false (4503599627370496*2^(1022-bg x))).toNat=4503599627370496*2^(1022-bg x):=rfl
 rw[p1,p2]
 have big:bD x<4503599627370496*2^(1022-bg x):=by
  have:2^1≤2^(1022-bg x):=GN (by decide) (BJ (h6 hi rfl))
  have UE:(2:Nat)^53=4503599627370496*2^1:=by decide
  have:=uW 4503599627370496 this
  exact hA a8 this
 rw[GP big]
 apply toNat_inj
 have oz:(2:Nat)^53<2^128:=by decide
 rw[Ap (by have:=eh 52;exact jW gi) (by exact iA a8 rfl) (by exact bX hi rfl),MB gi a8 (by exact bX hi rfl),aa,Bf ae]
 have:x≤lg:=by
  have aB:lg=9218868437227405312:=by decide
  rw[aB]
  have vq:(2:Nat)^53=9007199254740992:=by decide
  lia
 rw[xI this]
 rfl
theorem aaW {x:Nat} (ae:x<2^64) (aC:b8 x=false) (J:1≤bx x) (U:bx x≤1022):(i' (cK x) (cK fu)).snd=cK x:=by
 have gi:=lG J
 have hd:=ff ae (fV U rfl)
 have a6:lj (cK x)=false:=by
  unfold lj
  rw[hd]
  have:bD x≠0:=by have:=eh 52;exact jW gi
  cases hm:bD x with
  |zero=>exact absurd hm this
  |succ n=>rfl
 have mm:xX (cK fu) (g6 false)=false:=by decide+kernel
 have oD:xX (cK x) (g6 false)=false:=by
  have:=C8 (cK x) (g6 false)
  unfold xX
  rw[←this,Bf ae]
  have z:(g6 false).toNat=0:=by decide
  rw[z]
  unfold h3
  have hf:fin2 x 0=true:=by
   unfold fin2
   have a:cc (bx x) 2046=true:=lb (by exact bX U rfl)
   have b:cc (bx 0) 2046=true:=by decide+kernel
   rw[a,b]
  rw[hf]
  show ng oQ (b8 x) (b8 0) (bD x) (bD 0) (bg x) (bg 0)=false
  have s0:b8 0=false:=by decide+kernel
  have m0:bD 0=0:=by decide+kernel
  rw[aC,s0,m0]
  unfold ng oQ
  have zs: ∀n,gP 0 n=0:=fun n=>by show 0<<<n=0;simp
  cases cc (bg x) (bg 0)
  ·show cc (Nat.succ _) 0=false;rfl
  ·show cc (Nat.succ _) (gP 0 _)=false;rw[zs];rfl
 unfold i'
 rw[TK ae aC J U]
 dsimp only
 rw[a6,mm,oD]
 rfl
noncomputable def w2 (x:Nat):Bool:=Bool.rec (Bool.rec false (cc (bx x) 1022) (cc 1 (bx x))) false (b8 x)
noncomputable def fI (x:Nat):Nat:=Bool.rec ((i' (cK x) (cK fu)).snd.toNat) x (w2 x)
theorem Dd (x:UInt64):fI x.toNat=(i' x (cK fu)).snd.toNat:=by
 unfold fI
 cases h:w2 x.toNat with
 |false=>show (i' (cK x.toNat) (cK fu)).snd.toNat=_;rw[eC]
 |true=>
  unfold w2 at h
  cases aC:b8 x.toNat with
  |true=>rw[aC] at h;cases h
  |false=>
   rw[aC] at h
   obtain ⟨J,U⟩:=jP h rfl
   have:=aaW (fc x) aC (dm J) (dm U)
   rw[eC] at this
   rw[this]
theorem KS {n c:Nat} (h:n≠0):(n*2^c).log2=n.log2+c:=by
 have J:n*2^c≠0:=GQ h (by have:=eh c;exact jW this)
 rw[BS J]
 have U:2^n.log2≤n:=(OR h).mp (a3 _)
 have av:n<2^(n.log2+1):=(GO h).mp (gF _)
 constructor
 ·rw[jw];exact sg _ U
 ·rw[show n.log2+c+1=n.log2+1+c by exact sx _ _ _,jw]
  exact BV av (eh c)
theorem ML (n d c:Nat) (k:Int):ei (n*2^c) (d*2^c) k=((ei n d k).1*2^c,(ei n d k).2*2^c):=by
 unfold ei
 split
 ·rw[OV]
 ·rw[OV]
theorem abK {n d:Nat} {k:Int} (hd:0<d):0<(ei n d k).2:=by
 unfold ei
 split
 ·exact hd
 ·exact OU hd (eh _)
theorem abf {n d:Nat} (c:Nat) (aT:n≠0) (hd:d≠0):sz (n*2^c) (d*2^c)=sz n d:=by
 have nz:n*2^c≠0:=GQ aT (by have:=eh c;exact jW this)
 unfold sz
 have aF:(n*2^c==0)=false:=by simpa using nz
 have aE:(n==0)=false:=by simpa using aT
 rw[aF,aE,KS aT,KS hd]
 have vr:((n.log2+c:Nat):Int)-((d.log2+c:Nat):Int)=(n.log2:Int)-(d.log2:Int):=Qu c _ _
 rw[vr,if_neg (by decide),if_neg (by decide)]
 dsimp only
 rw[ML]
 dsimp only
 generalize ai:(n.log2:Int)-(d.log2:Int)=l
 have ah:((ei n d (-l)).1*2^c≥(ei n d (-l)).2*2^c)=((ei n d (-l)).1≥(ei n d (-l)).2):=propext ⟨fun h=>Nat.le_of_mul_le_mul_right h (eh c),fun h=>sg _ h⟩
 simp only[ah]
 generalize max (if (ei n d (-l)).1≥(ei n d (-l)).2 then l-52 else l-53) (-1074)=e
 rw[ML]
 dsimp only
 rw[zg (eh c) (abK (G2 hd))]
theorem ZS {a:Bool} {m E:Nat} (hm:m≠0) (hi:E≤1074):g5 a (m*2^E) (-1074)=g5 a m ((E:Int)-1074):=by
 unfold g5 BY
 have s1:ei (m*2^E) 1 (-1074)=(m*2^E,1*2^1074):=xm (j:=1074) (by rfl) (by decide)
 have s2:ei m 1 ((E:Int)-1074)=(m,2^(1074-E)):=by
  by_cases c:E=1074
  ·subst c;rw[shift_pos (j:=0) (by rfl)];simp
  ·rw[xm (j:=1074-E) (by exact vo (b:=E) (a:=1074) hi) (BJ (GA hi c)),xV]
 rw[s1,s2]
 dsimp only
 have e:1*2^1074=2^(1074-E)*2^E:=by rw[xV,←jw];congr 1;exact (x1 hi).symm
 rw[e,abf E hm (by have:=eh (1074-E);exact jW this)]
theorem LG {x:Nat} (ae:x<2^64) (J:1≤bx x) (U:bx x≤1075):(g5 (b8 x) (bD x) ((bg x:Int)-1074)).toNat=x:=by
 have gi:=lG J
 have a8:=mB (x:=x)
 have hi:bg x≤1074:=by show bx x-1≤1074;exact qJ U
 have oz:(2:Nat)^53<2^128:=by decide
 rw[Ap (by have:=eh 52;exact jW gi) (by exact iA a8 rfl) hi,MB gi a8 hi]
 have aa:=HX ae J (by exact bX U rfl)
 have:bg x*4503599627370496+bD x≤lg:=by
  have aB:lg=9218868437227405312:=by decide
  rw[aB]
  have vq:(2:Nat)^53=9007199254740992:=by decide
  lia
 rw[xI this]
 exact aa
noncomputable def iy (x:Nat):Bool:=Bool.rec (dy x 9223372036854775808) true (dy x 0)
noncomputable def rS (x:Nat):Bool:=Bool.rec false (cc (bx x) 1075) (cc 1 (bx x))
noncomputable def r5 (x y:Nat):Nat:=Bool.rec (Bool.rec 0 9223372036854775808 (b8 y)) (Bool.rec 9223372036854775808 0 (b8 y)) (b8 x)
noncomputable def hH (x y:Nat):Nat:=Bool.rec (Bool.rec (vC x y) (Bool.rec (vC x y) y (rS y)) (iy x)) (Bool.rec (vC x y) x (rS x)) (iy y)
noncomputable def eI (x y:Nat):Nat:=hH x (vE y)
noncomputable def gH (x y:Nat):Nat:=Bool.rec (Bool.rec (vD x y) (Bool.rec (vD x y) (r5 x y) (cc (bx y) 2046)) (iy x)) (Bool.rec (vD x y) (r5 x y) (cc (bx x) 2046)) (iy y)
noncomputable def kN (x y:Nat):Nat:=Bool.rec (yL x y) (Bool.rec (yL x y) (r5 x y) (rS y)) (iy x)
theorem rK {x:Nat} (h:iy x=true):bD x=0∧bx x=0∧bg x=0:=by
 unfold iy at h
 cases h0:dy x 0 with
 |true=>
  have:=ia h0
  subst this
  refine ⟨?_,?_,?_⟩<;>decide+kernel
 |false=>
  rw[h0] at h
  have:x=9223372036854775808:=ia h
  subst this
  refine ⟨?_,?_,?_⟩<;>decide+kernel
theorem EL {x:Nat} (h:rS x=true):1≤bx x∧bx x≤1075:=by
 obtain ⟨J,U⟩:=jP h rfl
 exact ⟨dm J,dm U⟩
theorem HA (a b:Bool) (m k:Nat) (e f:Int):f5 a m e b k f=((f5 b k f a m e).2.1,(f5 b k f a m e).1,(f5 b k f a m e).2.2):=by
 unfold f5
 rw[Int.min_comm e f]
theorem PC (a b:Bool) (m E:Nat):f5 a m ((E:Int)-1074) b 0 (((0:Nat):Int)-1074)=(cC a (m*2^E),0,-1074):=by
 unfold f5
 have g:min ((E:Int)-1074) (((0:Nat):Int)-1074)= -1074:=(aeG (Gj (l1 E) 1074)).trans rfl
 rw[g]
 have a1:((E:Int)-1074-(-1074)).toNat=E:=by rw[B2,Oa];rfl
 show (cC a (m*2^((E:Int)-1074-(-1074)).toNat),cC b (0*2^(((0:Nat):Int)-1074-(-1074)).toNat),(-1074:Int))=_
 rw[a1,BO,Fq]
theorem Cr {x y:UInt64} {a b:Bool} {m k:Nat} {e f:Int} (dx:lV x= .fin a m e) (j':lV y= .fin b k f):cF x y=if (f5 a m e b k f).1+(f5 a m e b k f).2.1==0 then g6 (a&&b) else g5 ((f5 a m e b k f).1+(f5 a m e b k f).2.1<0) ((f5 a m e b k f).1+(f5 a m e b k f).2.1).natAbs (f5 a m e b k f).2.2:=by
 unfold cF
 rw[dx,j']
theorem Hz {x y:Nat} (ae:x<2^64) (bl:y<2^64) (J:1≤bx x) (U:bx x≤1075) (z:iy y=true):(cF (cK x) (cK y)).toNat=x:=by
 obtain ⟨sf,uC,Br⟩:=rK z
 have gi:=lG J
 have hi:bg x≤1074:=by show bx x-1≤1074;exact qJ U
 have hm:bD x≠0:=by have:=eh 52;exact jW gi
 have dx:=ff ae (fV U rfl)
 have j':=ff bl (fV (b0 uC) rfl)
 rw[sf,Br] at j'
 have zx:bD x*2^bg x≠0:=GQ hm (by have:=eh (bg x);exact jW this)
 have aC:=ZS (a:=b8 x) hm hi
 have e:=Cr dx j'
 rw[PC] at e
 generalize bD x*2^bg x=q at e zx aC
 obtain ⟨f1,f2,dn⟩:=MG (b8 x) zx
 have aE:cF (cK x) (cK y)=if (cC (b8 x) q+0==0)=true then g6 (b8 x&&b8 y) else g5 (decide (cC (b8 x) q+0<0)) (cC (b8 x) q+0).natAbs (-1074):=e
 rw[aE,Int.add_zero,f1,f2,dn,if_neg (by decide),aC]
 exact LG ae J U
theorem PB {x y:UInt64} (ae:bx x.toNat≤2046) (bl:bx y.toNat≤2046):cF x y=cF y x:=by
 have dx:=ff (fc x) (fV ae rfl)
 have j':=ff (fc y) (fV bl rfl)
 rw[eC] at dx j'
 rw[Cr dx j',Cr j' dx,HA]
 generalize f5 (b8 y.toNat) (bD y.toNat) ((bg y.toNat:Int)-1074) (b8 x.toNat) (bD x.toNat) ((bg x.toNat:Int)-1074)=p
 obtain ⟨p,q,g⟩:=p
 dsimp only
 rw[nU q p,Bool.and_comm]
theorem iq (x y:UInt64):hH x.toNat y.toNat=(cF x y).toNat:=by
 unfold hH
 cases bl:iy y.toNat with
 |true=>
  cases hm:rS x.toNat with
  |false=>exact C7 x y
  |true=>
   obtain ⟨a,b⟩:=EL hm
   have:=Hz (fc x) (fc y) a b bl
   rw[eC,eC] at this
   exact this.symm
 |false=>
  cases ae:iy x.toNat with
  |false=>exact C7 x y
  |true=>
   cases hm:rS y.toNat with
   |false=>exact C7 x y
   |true=>
    obtain ⟨a,b⟩:=EL hm
    have:=Hz (fc y) (fc x) a b ae
    rw[eC,eC] at this
    obtain ⟨_,z,_⟩:=rK ae
    rw[PB (by exact bX (b0 z) rfl) (by exact bX b rfl)]
    exact this.symm
theorem fi (x y:UInt64):eI x.toNat y.toNat=(bA x y).toNat:=by
 unfold eI bA
 rw[C',iq]
theorem LH (b:Bool) (e:Int):g5 b 0 e=g6 b:=by
 unfold g5 BY g6
 have:(ei 0 1 e).1=0:=by
  unfold ei
  split
  ·exact BO _
  ·rfl
 have h: ∀p:Nat×Nat,p.1=0→(match p with|(n,d)=>BX b (sz n d))=BX b 0:=fun p ag=>by
  obtain ⟨n,d⟩:=p
  have ag:n=0:=ag
  subst ag
  rfl
 exact h _ this
theorem MI (x y:Nat):r5 x y=(g6 (b8 x !=b8 y)).toNat:=by
 unfold r5
 cases b8 x<;>cases b8 y<;>decide+kernel
theorem jf (x y:UInt64):gH x.toNat y.toNat=(cP x y).toNat:=by
 have key:bx x.toNat≤2046→bx y.toNat≤2046→bD x.toNat*bD y.toNat=0→r5 x.toNat y.toNat=(cP x y).toNat:=fun ae bl a6=>by
  have dx:=ff (fc x) (fV ae rfl)
  have j':=ff (fc y) (fV bl rfl)
  rw[eC] at dx j'
  unfold cP
  rw[dx,j']
  dsimp only
  rw[a6,LH,MI]
 unfold gH
 cases bl:iy y.toNat with
 |true=>
  obtain ⟨a,b,c⟩:=rK bl
  cases aa:cc (bx x.toNat) 2046 with
  |false=>exact C9 x y
  |true=>exact key (dm aa) (by exact bX (b0 b) rfl) (by rw[a,Nat.mul_zero])
 |false=>
  cases ae:iy x.toNat with
  |false=>exact C9 x y
  |true=>
   obtain ⟨a,b,c⟩:=rK ae
   cases aa:cc (bx y.toNat) 2046 with
   |false=>exact C9 x y
   |true=>exact key (by exact bX (b0 b) rfl) (dm aa) (by rw[a,BO])
theorem ou (x y:UInt64):kN x.toNat y.toNat=(eH x y).toNat:=by
 unfold kN
 cases ae:iy x.toNat with
 |false=>exact IX x y
 |true=>
  obtain ⟨a,b,c⟩:=rK ae
  cases hm:rS y.toNat with
  |false=>exact IX x y
  |true=>
   obtain ⟨bT,cG⟩:=EL hm
   have y9:=lG bT
   have aj:bD y.toNat≠0:=by have:=eh 52;exact jW y9
   have dx:=ff (fc x) (fV (b0 b) rfl)
   have j':=ff (fc y) (fV cG rfl)
   rw[eC] at dx j'
   show r5 x.toNat y.toNat=_
   unfold eH
   rw[dx,j',a]
   dsimp only
   have aF:(bD y.toNat==0)=false:=by simpa using aj
   rw[aF,if_neg (by decide),MI]
   unfold BY g6
   have: ∀k:Int,(ei 0 (bD y.toNat) k).1=0:=fun k=>by
    unfold ei
    split
    ·exact BO _
    ·rfl
   rw[this]
   rfl
theorem TF {v:UInt64} (J:4503599627370496≤v.toNat) (U:v.toNat<9223372036854775808):1≤bx v.toNat∧b8 v.toNat=false:=by
 have aG:v.toNat>>>52=v.toNat/2^52:=l0 _ 52
 have aC:v.toNat>>>63=v.toNat/2^63:=l0 _ 63
 rw[jd] at aG
 rw[CW] at aC
 constructor
 ·unfold bx
  show 1≤(v.toNat>>>52)%2048
  rw[aG]
  lia
 ·unfold b8
  rw[hU]
  intro z
  have:v.toNat>>>63=1:=ia z
  lia
theorem Lx {v:UInt64} (J:1≤bx v.toNat) (U:bx v.toNat≤2046):lj v=false:=by
 have hd:=ff (fc v) (fV U rfl)
 rw[eC] at hd
 have gi:=lG J
 unfold lj
 rw[hd]
 have:bD v.toNat≠0:=by have:=eh 52;exact jW gi
 cases hm:bD v.toNat with
 |zero=>exact absurd hm this
 |succ n=>rfl
theorem KX {v:UInt64} (J:1≤bx v.toNat) (U:bx v.toNat≤2046):xX v (g6 false)=b8 v.toNat:=by
 have gi:=lG J
 have tw:bD v.toNat≠0:=by have:=eh 52;exact jW gi
 have:=C8 v (g6 false)
 unfold xX
 rw[←this]
 have z:(g6 false).toNat=0:=by decide
 rw[z]
 unfold h3
 have hf:fin2 v.toNat 0=true:=by
  unfold fin2
  have a:cc (bx v.toNat) 2046=true:=lb U
  have b:cc (bx 0) 2046=true:=by decide+kernel
  rw[a,b]
 rw[hf]
 show ng oQ (b8 v.toNat) (b8 0) (bD v.toNat) (bD 0) (bg v.toNat) (bg 0)=b8 v.toNat
 have s0:b8 0=false:=by decide+kernel
 have m0:bD 0=0:=by decide+kernel
 have zs: ∀n,gP 0 n=0:=fun n=>by show 0<<<n=0;simp
 have ael: ∀n,dy (e1 (gP (bD v.toNat) n) 0) 0=false:=fun n=>by
  rw[hU];intro h
  have h:(bD v.toNat)<<<n=0:=ia h
  rw[pj] at h
  exact GQ tw (by have:=eh n;exact jW this) h
 have aef:dy (e1 (bD v.toNat) 0) 0=false:=by
  rw[hU];intro h
  exact tw (ia h)
 rw[s0,m0]
 unfold ng oQ
 cases b8 v.toNat with
 |false=>
  cases cc (bg v.toNat) (bg 0)
  ·show cc (Nat.succ _) 0=false;rfl
  ·show cc (Nat.succ _) (gP 0 _)=false;rw[zs];rfl
 |true=>
  cases cc (bg v.toNat) (bg 0)
  ·show (Bool.rec true false (dy (e1 (gP (bD v.toNat) _) 0) 0):Bool)=true
   rw[ael]
  ·show (Bool.rec true false (dy (e1 (bD v.toNat) (gP 0 _)) 0):Bool)=true
   rw[zs,aef]
theorem TL {v:UInt64} (J:1≤bx v.toNat) (U:bx v.toNat≤1022):sC v (cK fu)=v:=by
 obtain ⟨kX,gL,t8,rX⟩:=E6
 have gi:=lG J
 have a8:=mB (x:=v.toNat)
 have hi:bg v.toNat≤1021:=by show bx v.toNat-1≤1021;exact qJ U
 have pM:=ff (fc v) (fV U rfl)
 rw[eC] at pM
 unfold sC
 rw[pM,ff (x:=fu) (by decide) (by exact afr gL),gL,t8,rX]
 dsimp only
 rw[if_neg (by decide)]
 have mO:f5 false (bD v.toNat) ((bg v.toNat:Int)-1074) false 4503599627370496 (((1022:Nat):Int)-1074)=(cC false (bD v.toNat),cC false (4503599627370496*2^(1022-bg v.toNat)),(bg v.toNat:Int)-1074):=by
  unfold f5
  have g:min ((bg v.toNat:Int)-1074) (((1022:Nat):Int)-1074)=(bg v.toNat:Int)-1074:=Lg _ (bX hi rfl)
  rw[g]
  have a1:((bg v.toNat:Int)-1074-((bg v.toNat:Int)-1074)).toNat=0:=uo _ _
  have a2:(((1022:Nat):Int)-1074-((bg v.toNat:Int)-1074)).toNat=1022-bg v.toNat:=um _ _ _
  show (cC false (bD v.toNat*2^((bg v.toNat:Int)-1074-((bg v.toNat:Int)-1074)).toNat),cC false (4503599627370496*2^(((1022:Nat):Int)-1074-((bg v.toNat:Int)-1074)).toNat),(bg v.toNat:Int)-1074)=_
  rw[a1,a2]
  have:bD v.toNat*2^0=bD v.toNat:=lh _
  rw[this]
 rw[mO]
 dsimp only
 have p1:(cC false (bD v.toNat)).toNat=bD v.toNat:=rfl
 have p2:(cC false (4503599627370496*2^(1022-bg v.toNat))).toNat=4503599627370496*2^(1022-bg v.toNat):=rfl
 rw[p1,p2]
 have big:bD v.toNat<4503599627370496*2^(1022-bg v.toNat):=by
  have:2^1≤2^(1022-bg v.toNat):=GN (by decide) (BJ (h6 hi rfl))
  have UE:(2:Nat)^53=4503599627370496*2^1:=by decide
  have:=uW 4503599627370496 this
  exact hA a8 this
 rw[GP big]
 exact toNat_inj (LG (fc v) J (by exact bX U rfl))
theorem TM {v:UInt64} (aC:b8 v.toNat=false) (h:bx v.toNat=1023):sC v (cK fu)=g5 false (bD v.toNat-4503599627370496) (((1022:Nat):Int)-1074):=by
 obtain ⟨kX,gL,t8,rX⟩:=E6
 have gi:=lG (x:=v.toNat) (h▸by decide)
 have a8:=mB (x:=v.toNat)
 have hi:bg v.toNat=1022:=by show bx v.toNat-1=1022;exact fC (Nat.eq_sub_of_add_eq' (fC h))
 have pM:=ff (fc v) (fV (b0 h) rfl)
 rw[eC,hi,aC] at pM
 unfold sC
 rw[pM,ff (x:=fu) (by decide) (by exact afr gL),gL,t8,rX]
 dsimp only
 rw[if_neg (by decide)]
 have mO:f5 false (bD v.toNat) (((1022:Nat):Int)-1074) false 4503599627370496 (((1022:Nat):Int)-1074)=(cC false (bD v.toNat),cC false 4503599627370496,((1022:Nat):Int)-1074):=by
  unfold f5
  rw[Int.min_self]
  show (cC false (bD v.toNat*2^0),cC false (4503599627370496*2^0),((1022:Nat):Int)-1074)=_
  rw[sA,lh]
 rw[mO]
 dsimp only
 have p1:(cC false (bD v.toNat)).toNat=bD v.toNat:=rfl
 have p2:(cC false 4503599627370496).toNat=4503599627370496:=rfl
 rw[p1,p2]
 rw[jd] at gi
 have vq:(2:Nat)^53=9007199254740992:=by decide
 have:bD v.toNat%4503599627370496=bD v.toNat-4503599627370496:=by lia
 rw[this]
theorem aba (n G T:Nat):T*4503599627370496≤ud n G T:=g4 _ _
theorem abb {n G T:Nat} (h:T≤G):ud n G T=T*4503599627370496+n*2^(G-T):=by
 unfold ud
 rw[lb h,←pj]
 rfl
theorem abd {n:Nat}:4503599627370496≤mJ n 1022:=by
 unfold mJ
 generalize Ew n=l
 refine c5 ?_ (aba _ _ _)
 have cB:1≤e2 (e1 l 1022) 52:=by show 1≤l+1022-52;exact dm rfl
 have:=sg 4503599627370496 cB
 rw[xV] at this
 exact this
theorem abc {n:Nat} (a6:n≠0) (aT:n<4503599627370496):mJ n 1022≤1024*4503599627370496:=by
 have oz:(2:Nat)^52<2^128:=by decide
 rw[←jd] at aT
 have bQ:n.log2<52:=(GO a6).mpr aT
 have bp:n<2^(n.log2+1):=(GO a6).mp (gF _)
 unfold mJ
 rw[Ex a6 (qP aT oz)]
 generalize n.log2=l at bp bQ
 have e:e2 (e1 l 1022) 52=l+970:=by show l+1022-52=l+970;exact fC (Nat.add_succ _ _)
 rw[e,abb (uQ (fK bQ) 970),show 1022-(l+970)=52-l from Nat.add_sub_add_right 52 970 l]
 have er:n*2^(52-l)<2^(l+1)*2^(52-l):=BV bp (eh _)
 rw[←jw,show l+1+(52-l)=53 by rw[sx,uS (fK bQ)]] at er
 have vq:(2:Nat)^53=2*4503599627370496:=by decide
 rw[vq] at er
 generalize n*2^(52-l)=q at er
 have ew:(l+970)*4503599627370496≤1021*4503599627370496:=sg _ (uQ (hV bQ) 970)
 exact c5 (B3 ew (fK er)) (by decide)
theorem Ts {n:Nat} (h:n≤1024*4503599627370496):bx n≤2046:=by
 unfold bx
 show (n>>>52)%2048≤2046
 rw[l0,jd]
 lia
noncomputable def ov (x:Nat):Nat:=Bool.rec (Bool.rec (Bool.rec (fI x) (k4 false (e2 (bD x) 4503599627370496) 1022) (dy (bx x) 1023)) (Bool.rec (fI x) (hH x 4607182418800017408) (Bool.rec false (cc (bx x) 1022) (cc 1 (bx x)))) (b8 x)) x (w2 x)
theorem KY:xX (cK fu) (g6 false)=false:=by decide+kernel
theorem RN {x:UInt64} (aC:b8 x.toNat=true) (a4:1≤bx x.toNat) (bH:bx x.toNat≤1022):(i' x (cK fu)).snd=cF x (cK fu):=by
 unfold i'
 rw[TL a4 bH]
 dsimp only
 rw[Lx a4 (by exact bX bH rfl),KX a4 (by exact bX bH rfl),aC,KY]
 rfl
theorem Rq:Float64.copysign (g6 false) (cK fu)=g6 false:=by decide+kernel
theorem WN:lj (g6 false)=true:=by decide+kernel
theorem RQ {x:UInt64} (h:sC x (cK fu)=g6 false):(i' x (cK fu)).snd=g6 false:=by
 unfold i'
 rw[h]
 dsimp only
 rw[WN,if_pos rfl]
 dsimp only
 exact Rq
theorem RO {x v:UInt64} (h:sC x (cK fu)=v) (J:1≤bx v.toNat) (U:bx v.toNat≤2046) (aC:b8 v.toNat=false):(i' x (cK fu)).snd=v:=by
 unfold i'
 rw[h]
 dsimp only
 rw[Lx J U,KX J U,aC,KY]
 rfl
theorem abv (m:Nat):gm false m=m:=rfl
theorem abT {n:Nat} (a6:n≠0) (aT:n<4503599627370496):(g5 false n (((1022:Nat):Int)-1074)).toNat=min lg (mJ n 1022):=by
 have oz:(2:Nat)^52<2^128:=by decide
 rw[jd] at oz
 exact (Ap a6 (qP aT oz) (by decide)).trans (abv _)
theorem abU {n:Nat} (a6:n≠0) (aT:n<4503599627370496):1≤bx (g5 false n (((1022:Nat):Int)-1074)).toNat∧bx (g5 false n (((1022:Nat):Int)-1074)).toNat≤2046∧b8 (g5 false n (((1022:Nat):Int)-1074)).toNat=false:=by
 have e:=abT a6 aT
 have aB:lg=9218868437227405312:=by decide
 have J:4503599627370496≤(g5 false n (((1022:Nat):Int)-1074)).toNat:=by
  rw[e];exact Nat.le_min.mpr ⟨by rw[aB];decide,abd⟩
 have U:(g5 false n (((1022:Nat):Int)-1074)).toNat<9223372036854775808:=by
  rw[e];exact ic (OT _ _) (by decide)
 have av:=TF J U
 refine ⟨av.1,?_,av.2⟩
 rw[e];exact Ts (c5 (xJ _ _) (abc a6 aT))
theorem aa9 {n:Nat} (a6:n≠0) (aT:n<4503599627370496):(g5 false n (((1022:Nat):Int)-1074)).toNat=k4 false n 1022:=by
 have oz:(2:Nat)^52<2^128:=by decide
 rw[jd] at oz
 exact Fi a6 (qP aT oz) (by decide)
theorem acv {m:Nat} (J:2^52≤m) (U:m<2^53):m-4503599627370496<4503599627370496:=by
 have vq:(2:Nat)^53=9007199254740992:=by decide
 rw[jd] at J
 exact afs J U
theorem RP {x:UInt64} (aC:b8 x.toNat=false) (h:bx x.toNat=1023):(i' x (cK fu)).snd.toNat=k4 false (bD x.toNat-4503599627370496) 1022:=by
 have aT:=acv (lG (x:=x.toNat) (h▸by decide)) (mB (x:=x.toNat))
 have hf:=TM aC h
 generalize bD x.toNat-4503599627370496=n at aT hf
 by_cases a6:n=0
 ·subst a6
  rw[LH] at hf
  rw[RQ hf]
  decide+kernel
 ·obtain ⟨a,b,c⟩:=abU a6 aT
  rw[RO hf a b c]
  exact aa9 a6 aT
theorem Ub (x:UInt64):ov x.toNat=(i' x (cK fu)).snd.toNat:=by
 unfold ov
 cases aj:w2 x.toNat with
 |true=>
  have:=Dd x
  unfold fI at this
  rw[aj] at this
  exact this
 |false=>
  cases aC:b8 x.toNat with
  |true=>
   cases a7:(Bool.rec false (cc (bx x.toNat) 1022) (cc 1 (bx x.toNat)):Bool) with
   |false=>exact Dd x
   |true=>
    obtain ⟨a4,bH⟩:=jP a7 rfl
    rw[RN aC (dm a4) (dm bH),←iq]
    have aF:(cK fu).toNat=fu:=by decide
    rw[aF]
  |false=>
   cases aa:dy (bx x.toNat) 1023 with
   |false=>exact Dd x
   |true=>exact (RP aC (ia aa)).symm
noncomputable def vK (x:Nat):Nat:=kC (bD x) (e2 1074 (bg x))
noncomputable def Ar (x:Nat):Bool:=Bool.rec (cc (bx x) 1075) false (b8 x)
theorem Je {x:UInt64} (h:Ar x.toNat=true): ∃m e,lV x= .fin false m e∧uE false m e=(vK x.toNat:Int):=by
 unfold Ar at h
 cases aC:b8 x.toNat with
 |true=>rw[aC] at h;cases h
 |false=>
  rw[aC] at h
  have h:=dm h
  have pM:=ff (fc x) (fV h rfl)
  rw[eC,aC] at pM
  refine ⟨_,_,pM,?_⟩
  have hi:bg x.toNat≤1074:=by show bx x.toNat-1≤1074;exact qJ h
  unfold uE Float64.floorOf
  rw[if_neg (by decide)]
  have cB:vK x.toNat=bD x.toNat/2^(1074-bg x.toNat):=by
   unfold vK
   show (bD x.toNat)>>>(1074-bg x.toNat)=_
   rw[l0]
  have VR: ∀m:Nat,cC false m=(m:Int):=fun m=>rfl
  rw[cB,VR]
  by_cases c:bg x.toNat=1074
  ·rw[c,if_pos (by exact afo _)]
   have a1:(((1074:Nat):Int)-1074).toNat=0:=by exact fC (ia rfl)
   rw[a1]
   simp
  ·rw[if_neg (by exact Ls (b:=1074) hi c)]
   have a1:(-((bg x.toNat:Int)-1074)).toNat=1074-bg x.toNat:=Be _ 1074
   rw[a1]
   rw[Int.fdiv_eq_ediv_of_nonneg _ (by exact Gd (Int.pow_pos (by decide)))]
   rw[Int.natCast_ediv,afi]
   rfl
noncomputable def d7 (a b:UInt64):Bool:=hx a b==some Ordering.lt
noncomputable def d' (a b:UInt64):Bool:=hx a b==some Ordering.eq
noncomputable def gK (a:UInt64):Bool:= !Float64.isZero a
noncomputable def i0 (x:UInt64):UInt64:=(i' x (cK fu)).snd
noncomputable def nI (x:Nat):Bool:=Bool.rec true false (iy x)
theorem WM (x:UInt64):lj x=iy x.toNat:=by
 by_cases he:bx x.toNat=2047
 ·have J:iy x.toNat=false:=by
   rw[hU];intro h
   have:=(rK h).2.1
   lia
  rw[J]
  have ae:x.toNat/2^52%2048=2047:=by
   rw[←he];unfold bx;show _=(x.toNat>>>52)%2048;rw[l0]
  unfold lj lV
  dsimp only
  rw[ae,if_pos (by decide)]
  split
  ·rename_i h;split at h<;>cases h
  ·rfl
 ·have hd:=ff (fc x) he
  rw[eC] at hd
  cases a6:iy x.toNat with
  |true=>
   unfold lj
   rw[hd,(rK a6).1]
   rfl
  |false=>
   unfold lj
   rw[hd]
   have hm:bD x.toNat≠0:=fun h0=>by
    have aG:x.toNat>>>52=x.toNat/2^52:=l0 _ 52
    rw[jd] at aG
    have ae:=fc x
    have CX:(2:Nat)^64=18446744073709551616:=by decide
    rw[CX] at ae
    unfold bD at h0
    cases aa:dy (bx x.toNat) 0 with
    |false=>
     rw[aa] at h0
     have h0:4503599627370496+pR x.toNat=0:=h0
     lia
    |true=>
     rw[aa] at h0
     have h0:x.toNat%4503599627370496=0:=h0
     have J:(x.toNat>>>52)%2048=0:=ia aa
     rw[aG] at J
     have:x.toNat=0∨x.toNat=9223372036854775808:=by lia
     rcases this with h|h<;>(rw[h] at a6;revert a6;decide+kernel)
   cases zx:bD x.toNat with
   |zero=>exact absurd zx hm
   |succ n=>rfl
theorem t7 (x:UInt64):nI x.toNat=gK x:=by
 unfold nI gK
 rw[WM]
 cases iy x.toNat<;>rfl
theorem rd (c:Bool) (a b:UInt64):cond c a.toNat b.toNat=(cond c a b).toNat:=by cases c<;>rfl
theorem tS (x y:UInt64):h3 x.toNat y.toNat=d7 x y:=C8 x y
theorem ri (x y:UInt64):kU x.toNat y.toNat=d' x y:=Y5 x y
theorem EN (x:UInt64):ov x.toNat=(i0 x).toNat:=Ub x
noncomputable def dz:Nat:=4607182418800017408
noncomputable def de:Nat:=4611686018427387904
noncomputable def hc:Nat:=4616189618054758400
noncomputable def vg:Nat:=4618441417868443648
noncomputable def ch:Nat:=4602678819172646912
noncomputable def H8:Nat:=4715268809856909312
noncomputable def xq:Nat:=4599676419421066581
noncomputable def M7:Nat:=4595172819793696085
noncomputable def A8:Nat:=4604180019048437077
noncomputable def M8:Nat:=4608683618675807573
noncomputable def gX:UInt64:=0
noncomputable def d2:UInt64:=4607182418800017408
noncomputable def nR:UInt64:=4611686018427387904
noncomputable def Nv:UInt64:=4616189618054758400
noncomputable def kv:UInt64:=4618441417868443648
noncomputable def lS:UInt64:=4602678819172646912
noncomputable def FP:UInt64:=4715268809856909312
noncomputable def ku:UInt64:=4599676419421066581
noncomputable def Bl:UInt64:=4595172819793696085
noncomputable def nS:UInt64:=4604180019048437077
noncomputable def uv:UInt64:=4608683618675807573
theorem cW:(0=gX.toNat)∧(dz=d2.toNat)∧(de=nR.toNat)∧(hc=Nv.toNat)∧(vg=kv.toNat)∧(ch=lS.toNat)∧(H8=FP.toNat)∧(xq=ku.toNat)∧(M7=Bl.toNat)∧(A8=nS.toNat)∧(M8=uv.toNat):=by
 refine ⟨?_,?_,?_,?_,?_,?_,?_,?_,?_,?_,?_⟩<;>decide+kernel
theorem Bm:eH 4616189618054758400 4613937818241073152=uv∧eH 4607182418800017408 4613937818241073152=ku∧eH 4611686018427387904 4613937818241073152=nS:=by
 refine ⟨?_,?_,?_⟩<;>decide+kernel
noncomputable def Ab (a b c:Nat):Nat:=cond (h3 a b) (cond (h3 b c) c b) (cond (h3 a c) c a)
noncomputable def Ad (a b c:Nat):Nat:=cond (h3 b a) (cond (h3 c b) c b) (cond (h3 c a) c a)
noncomputable def ba (a b c:UInt64):UInt64:=cond (d7 a b) (cond (d7 b c) c b) (cond (d7 a c) c a)
noncomputable def bN (a b c:UInt64):UInt64:=cond (d7 b a) (cond (d7 c b) c b) (cond (d7 c a) c a)
theorem K5 (a b c:UInt64):Ab a.toNat b.toNat c.toNat=(ba a b c).toNat:=by
 unfold Ab ba;simp only[tS,rd]
theorem Lc (a b c:UInt64):Ad a.toNat b.toNat c.toNat=(bN a b c).toNat:=by
 unfold Ad bN;simp only[tS,rd]
noncomputable def rest (a8 cI x:Nat):Nat:=st (eI a8 x) fun y=>kN y cI
noncomputable def qn (a8 cI x:UInt64):UInt64:=eH (bA a8 x) cI
theorem rest_eq (a b c:UInt64):rest a.toNat b.toNat c.toNat=(qn a b c).toNat:=by
 unfold rest qn;simp only[bU,fi,ou]
noncomputable def zG (z a b:Nat):Nat:=st a fun a=>st b fun b=>st (hH z a) fun y=>st (eI y b) fun h=>st (kN h vg) fun h=>ov h
noncomputable def D3 (a b:Nat):Nat:=st a fun a=>st b fun b=>st (eI a b) fun h=>st (kN h vg) fun h=>ov h
noncomputable def zH (z a b:UInt64):UInt64:=i0 (eH (bA (cF z a) b) kv)
noncomputable def D4 (a b:UInt64):UInt64:=i0 (eH (bA a b) kv)
theorem V4 (a b c:UInt64):zG a.toNat b.toNat c.toNat=(zH a b c).toNat:=by
 unfold zG zH;simp only[bU,iq,fi,cW.2.2.2.2.1,ou,EN]
theorem V3 (a b:UInt64):D3 a.toNat b.toNat=(D4 a b).toNat:=by
 unfold D3 D4;simp only[bU,iq,fi,cW.2.2.2.2.1,ou,EN]
noncomputable def p8 (a8 cI r g b:Nat):Nat:=cond (kU r a8) (D3 (rest a8 cI b) (rest a8 cI g)) (cond (kU g a8) (zG de (rest a8 cI r) (rest a8 cI b)) (zG hc (rest a8 cI g) (rest a8 cI r)))
noncomputable def oF (a8 cI r g b:UInt64):UInt64:=cond (d' r a8) (D4 (qn a8 cI b) (qn a8 cI g)) (cond (d' g a8) (zH nR (qn a8 cI r) (qn a8 cI b)) (zH Nv (qn a8 cI g) (qn a8 cI r)))
theorem Kj (a8 cI r g b:UInt64):p8 a8.toNat cI.toNat r.toNat g.toNat b.toNat=(oF a8 cI r g b).toNat:=by
 unfold p8 oF;simp only[ri,rest_eq,cW.2.2.1,cW.2.2.2.1,V3,V4,rd]
noncomputable def Bn (bT cG h:Nat):Nat:=st (eI cG bT) fun d=>st (gH d h) fun e=>st (gH e vg) fun f=>hH bT f
noncomputable def NH (bT cG h:Nat):Nat:=st (eI A8 h) fun g=>Bn bT cG g
noncomputable def FU (bT cG h:Nat):Nat:=cond (h3 h M7) (Bn bT cG h) (cond (h3 h ch) cG (cond (h3 h A8) (NH bT cG h) bT))
noncomputable def Bo (bT cG h:UInt64):UInt64:=cF bT (cP (cP (bA cG bT) h) kv)
noncomputable def mQ (bT cG h:UInt64):UInt64:=cond (d7 h Bl) (Bo bT cG h) (cond (d7 h lS) cG (cond (d7 h nS) (Bo bT cG (bA nS h)) bT))
theorem adO (a b c:UInt64):Bn a.toNat b.toNat c.toNat=(Bo a b c).toNat:=by
 unfold Bn Bo;simp only[bU,fi,jf,iq,cW.2.2.2.2.1]
theorem v_eq (a b c:UInt64):FU a.toNat b.toNat c.toNat=(mQ a b c).toNat:=by
 unfold FU NH mQ;simp only[bU,fi,cW.2.2.2.2.2.1,cW.2.2.2.2.2.2.2.2.1,cW.2.2.2.2.2.2.2.2.2.1,adO,tS,rd]
noncomputable def out (x:Nat):Nat:=st (gH x H8) fun y=>hH y ch
noncomputable def E8 (x:UInt64):UInt64:=cF (cP x FP) lS
theorem Z2 (x:UInt64):out x.toNat=(E8 x).toNat:=by
 unfold out E8;simp only[bU,jf,iq,cW.2.2.2.2.2.2.1,cW.2.2.2.2.2.1]
noncomputable def both (a b:Bool):Bool:=cond a b false
theorem hF {a b:Bool}:both a b=true↔a=true∧b=true:=by cases a<;>cases b<;>(first|decide|exact Iff.symm (and_iff_left_of_imp (congrFun rfl)))
noncomputable def eb (x n:Nat):Bool:=st (out x) fun y=>both (Ar y) (dy (vK y) (qM n 1048576))
noncomputable def dP (x:UInt64) (n:Nat):Prop:= ∃m e,lV (E8 x)= .fin false m e∧uE false m e=((n*1048576:Nat):Int)
theorem zO {x:UInt64} {n:Nat} (h:eb x.toNat n=true):dP x n:=by
 unfold eb at h
 rw[bU,Z2,hF] at h
 obtain ⟨m,e,J,U⟩:=Je h.1
 refine ⟨m,e,J,?_⟩
 rw[U,ia h.2]
 rfl
noncomputable def zU (l:Nat):Bool:=cond (h3 l ch) true (kU l ch)
noncomputable def jK (l:UInt64):Bool:=cond (d7 l lS) true (d' l lS)
theorem KN (l:UInt64):zU l.toNat=jK l:=by
 unfold zU jK;simp only[cW.2.2.2.2.2.1,tS,ri]
noncomputable def z' (l s:Nat):Nat:=cond (zU l) (st (hH dz s) fun x=>gH l x) (st (hH l s) fun x=>st (gH l s) fun y=>eI x y)
noncomputable def kT (l s:UInt64):UInt64:=cond (jK l) (cP l (cF d2 s)) (bA (cF l s) (cP l s))
theorem K0 (l s:UInt64):z' l.toNat s.toNat=(kT l s).toNat:=by
 unfold z' kT;simp only[bU,KN,cW.2.1,iq,jf,fi,rd]
noncomputable def z9 (l cG:Nat):Nat:=st (gH de l) fun x=>eI x cG
noncomputable def rQ (l cG:UInt64):UInt64:=bA (cP nR l) cG
theorem KZ (l s:UInt64):z9 l.toNat s.toNat=(rQ l s).toNat:=by
 unfold z9 rQ;simp only[bU,cW.2.2.1,jf,fi]
noncomputable def wo (bT cG h n:Nat):Bool:=st h fun h=>st (ov h) fun h=>st (FU bT cG h) fun x=>eb x n
theorem Ec {bT cG h:UInt64} {n:Nat} (e:wo bT.toNat cG.toNat h.toNat n=true):dP (mQ bT cG (i0 h)) n:=by
 unfold wo at e
 simp only[bU,EN,v_eq] at e
 exact zO e
noncomputable def tv (bT cG h a b c:Nat):Bool:=st h fun h=>both (wo bT cG (hH h xq) a) (both (wo bT cG h b) (wo bT cG (eI h xq) c))
structure u1 (bT cG h:UInt64) (a b c:Nat):Prop where
 r:dP (mQ bT cG (i0 (cF h ku))) a
 g:dP (mQ bT cG (i0 h)) b
 b:dP (mQ bT cG (i0 (bA h ku))) c
theorem zw {bT cG h:UInt64} {a b c:Nat} (e:tv bT.toNat cG.toNat h.toNat a b c=true):u1 bT cG h a b c:=by
 unfold tv at e
 rw[bU,cW.2.2.2.2.2.2.2.1,iq,fi,hF,hF] at e
 exact ⟨Ec e.1,Ec e.2.1,Ec e.2.2⟩
noncomputable def den (a8 cS:Nat):Nat:=st (eI de a8) fun x=>eI x cS
noncomputable def pK (a8 cS:UInt64):UInt64:=bA (bA nR a8) cS
theorem RL (a b:UInt64):den a.toNat b.toNat=(pK a b).toNat:=by
 unfold den pK;simp only[bU,cW.2.2.1,fi]
noncomputable def AW (a8 cS l cI cT:Nat) (k:Nat→Bool):Bool:=cond (zU l) (both (nI cT) (st (kN cI cT) k)) (st (den a8 cS) fun d=>both (nI d) (st (kN cI d) k))
noncomputable def lN (a8 cS l cI cT:UInt64):UInt64:=cond (jK l) (eH cI cT) (eH cI (pK a8 cS))
theorem Mv {a8 cS l cI cT:UInt64} {k:Nat→Bool} (e:AW a8.toNat cS.toNat l.toNat cI.toNat cT.toNat k=true):(cond (jK l) (gK cT) (gK (pK a8 cS))=true)∧k (lN a8 cS l cI cT).toNat=true:=by
 unfold AW at e
 rw[KN] at e
 unfold lN
 cases h:jK l with
 |true=>
  rw[h] at e
  have e:both (nI cT.toNat) (st (kN cI.toNat cT.toNat) k)=true:=e
  rw[hF,t7,bU,ou] at e
  exact e
 |false=>
  rw[h] at e
  have e:(st (den a8.toNat cS.toNat) fun d=>both (nI d) (st (kN cI.toNat d) k))=true:=e
  rw[bU,RL,hF,t7,bU,ou] at e
  exact e
noncomputable def E' (v s:Nat):Nat:=st (eI dz s) fun x=>gH v x
noncomputable def AI (v s f:Nat):Nat:=st (gH s f) fun x=>st (eI dz x) fun y=>gH v y
noncomputable def FD (v s f:Nat):Nat:=st (eI dz f) fun z=>AI v s z
noncomputable def Ax (v s:UInt64):UInt64:=cP v (bA d2 s)
noncomputable def xb (v s f:UInt64):UInt64:=cP v (bA d2 (cP s f))
noncomputable def Ba (v s f:UInt64):UInt64:=cP v (bA d2 (cP s (bA d2 f)))
theorem Z5 (v s:UInt64):E' v.toNat s.toNat=(Ax v s).toNat:=by unfold E' Ax;simp only[bU,cW.2.1,fi,jf]
theorem Me (v s f:UInt64):AI v.toNat s.toNat f.toNat=(xb v s f).toNat:=by unfold AI xb;simp only[bU,cW.2.1,fi,jf]
theorem acD (v s f:UInt64):FD v.toNat s.toNat f.toNat=(Ba v s f).toNat:=by
 have: ∀g,xb v s g=cP v (bA d2 (cP s g)):=fun _=>rfl
 unfold FD Ba;simp only[bU,cW.2.1,fi,Me,this]
noncomputable def D1 (i v p q t a b c:Nat):Bool:=cond (dy i 0) (both (eb v a) (both (eb t b) (eb p c))) (cond (dy i 1) (both (eb q a) (both (eb v b) (eb p c))) (cond (dy i 2) (both (eb p a) (both (eb v b) (eb t c))) (cond (dy i 3) (both (eb p a) (both (eb q b) (eb v c))) (cond (dy i 4) (both (eb t a) (both (eb p b) (eb v c))) (both (eb v a) (both (eb p b) (eb q c)))))))
noncomputable def Cb (i:Nat) (v p q t:UInt64) (a b c:Nat):Prop:=
 (i=0∧dP v a∧dP t b∧dP p c)∨(i=1∧dP q a∧dP v b∧dP p c)∨(i=2∧dP p a∧dP v b∧dP t c)∨(i=3∧dP p a∧dP q b∧dP v c)∨(i=4∧dP t a∧dP p b∧dP v c)∨(i=5∧dP v a∧dP p b∧dP q c)
theorem vn {i j:Nat} {x y:Bool} (h:cond (dy i j) x y=true):(i=j∧x=true)∨(i≠j∧y=true):=by
 cases aa:dy i j with
 |true=>rw[aa] at h;exact .inl ⟨ia aa,h⟩
 |false=>rw[aa] at h;exact .inr ⟨fun z=>(by subst z;rw[BW] at aa;cases aa),h⟩
theorem nf {x y z:UInt64} {a b c:Nat} (h:both (eb x.toNat a) (both (eb y.toNat b) (eb z.toNat c))=true):dP x a∧dP y b∧dP z c:=by
 rw[hF,hF] at h
 exact ⟨zO h.1,zO h.2.1,zO h.2.2⟩
theorem VU {i:Nat} {v p q t:UInt64} {a b c:Nat} (aB:i<6) (h:D1 i v.toNat p.toNat q.toNat t.toNat a b c=true):Cb i v p q t a b c:=by
 unfold D1 at h
 rcases vn h with ⟨e,h⟩|⟨gg,h⟩
 ·exact .inl ⟨e,nf h⟩
 rcases vn h with ⟨e,h⟩|⟨aF,h⟩
 ·exact .inr (.inl ⟨e,nf h⟩)
 rcases vn h with ⟨e,h⟩|⟨aE,h⟩
 ·exact .inr (.inr (.inl ⟨e,nf h⟩))
 rcases vn h with ⟨e,h⟩|⟨cb,h⟩
 ·exact .inr (.inr (.inr (.inl ⟨e,nf h⟩)))
 rcases vn h with ⟨e,h⟩|⟨eo,h⟩
 ·exact .inr (.inr (.inr (.inr (.inl ⟨e,nf h⟩))))
 ·exact .inr (.inr (.inr (.inr (.inr ⟨by lia,nf h⟩))))
noncomputable def nj (i:Nat):Nat:=(mT i).toNat
noncomputable def zE (h s v a b c:Nat):Bool:=st (gH h vg) fun bQ=>both (Ar bQ) (st (vK bQ) fun i=>both (cc i 100) (st (nj i) fun z=>st (eI bQ z) fun f=>st (E' v s) fun p=>st (AI v s f) fun q=>st (FD v s f) fun t=>st (qL i 6) fun i=>D1 i v p q t a b c))
structure Ca (h s v:UInt64) (a b c:Nat):Prop where
 ex: ∃(n m:Nat) (e:Int),lV (cP h kv)= .fin false m e∧uE false m e=(n:Int)∧n≤100∧
  Cb (n%6) v (Ax v s) (xb v s (bA (cP h kv) (mT n))) (Ba v s (bA (cP h kv) (mT n))) a b c
theorem Kf {h s v:UInt64} {a b c:Nat} (e:zE h.toNat s.toNat v.toNat a b c=true):Ca h s v a b c:=by
 unfold zE nj at e
 rw[cW.2.2.2.2.1,jf,bU,hF,bU,hF,bU,fi,bU,bU,Z5,bU,Me,bU,acD,bU] at e
 obtain ⟨m,x,J,U⟩:=Je e.1
 exact ⟨_,m,x,J,U,dm e.2.1,VU (qN _ (by decide)) e.2.2⟩
noncomputable def E5 (a8 cI h a b c:Nat):Bool:=both (nI a8) (both (nI cI) (st (kN cI a8) fun s=>cond (kU s 0) false (both (st (hH h xq) fun h=>zE h s a8 c a b) (st (eI dz h) fun h=>zE h s a8 a c b))))
structure Pj (a8 cI h:UInt64) (a b c:Nat):Prop where
 nm:gK a8=true
 E0:gK cI=true
 s0:d' (eH cI a8) gX=false
 m0:Ca (cF h ku) (eH cI a8) a8 c a b
 bT:Ca (bA d2 h) (eH cI a8) a8 a c b
theorem cond_false {x y:Bool} (h:cond x false y=true):x=false∧y=true:=by
 cases x
 ·exact ⟨rfl,h⟩
 ·cases h
theorem ZX {a8 cI h:UInt64} {a b c:Nat} (e:E5 a8.toNat cI.toNat h.toNat a b c=true):Pj a8 cI h a b c:=by
 unfold E5 at e
 rw[hF,hF,t7,t7,bU,ou,cW.2.2.2.2.2.2.2.1,iq,bU,cW.2.1,fi,bU] at e
 obtain ⟨aF,aE,cb⟩:=e
 obtain ⟨cb,eo⟩:=cond_false cb
 rw[hF] at eo
 have cb:kU (eH cI a8).toNat gX.toNat=false:=cb
 rw[ri] at cb
 exact ⟨aF,aE,cb,Kf eo.1,Kf eo.2⟩
noncomputable def EO (bT cG h a b c:Nat):Bool:=both (st (eI h xq) fun h=>tv bT cG h b c a) (both (st (eI A8 h) fun h=>tv bT cG h c b a) (st (eI M8 h) fun h=>tv bT cG h b a c))
structure Hl (bT cG h:UInt64) (a b c:Nat):Prop where
 EF:u1 bT cG (bA h ku) b c a
 rR:u1 bT cG (bA nS h) c b a
 EG:u1 bT cG (bA uv h) b a c
theorem YN {bT cG h:UInt64} {a b c:Nat} (e:EO bT.toNat cG.toNat h.toNat a b c=true):Hl bT cG h a b c:=by
 unfold EO at e
 rw[cW.2.2.2.2.2.2.2.1,cW.2.2.2.2.2.2.2.2.2.1,cW.2.2.2.2.2.2.2.2.2.2,fi,fi,fi,bU,bU,bU,hF,hF] at e
 exact ⟨zw e.1,zw e.2.1,zw e.2.2⟩
noncomputable def E4 (a8 cS cI h a b c:Nat):Bool:=st (hH a8 cS) fun cT=>st (kN cT de) fun l=>AW a8 cS l cI cT fun s=>cond (kU s 0) false (st (z' l s) fun cG=>st (z9 l cG) fun bT=>EO bT cG h a b c)
noncomputable def ez (a8 cS:UInt64):UInt64:=eH (cF a8 cS) nR
structure Ph (a8 cS cI h:UInt64) (a b c:Nat):Prop where
 mG:cond (jK (ez a8 cS)) (gK (cF a8 cS)) (gK (pK a8 cS))=true
 s0:d' (lN a8 cS (ez a8 cS) cI (cF a8 cS)) gX=false
 mv:Hl (rQ (ez a8 cS) (kT (ez a8 cS) (lN a8 cS (ez a8 cS) cI (cF a8 cS)))) (kT (ez a8 cS) (lN a8 cS (ez a8 cS) cI (cF a8 cS))) h a b c
theorem ZW {a8 cS cI h:UInt64} {a b c:Nat} (e:E4 a8.toNat cS.toNat cI.toNat h.toNat a b c=true):Ph a8 cS cI h a b c:=by
 unfold E4 at e
 rw[bU,iq,cW.2.2.1,ou,bU] at e
 obtain ⟨aF,aE⟩:=Mv e
 obtain ⟨aE,cb⟩:=cond_false aE
 rw[K0,bU,KZ,bU] at cb
 have aE:kU (lN a8 cS (ez a8 cS) cI (cF a8 cS)).toNat gX.toNat=false:=aE
 rw[ri] at aE
 exact ⟨aF,aE,YN cb⟩
noncomputable def a9 (n:Nat):UInt64:=eH (mT ((n*1048576:Nat):Int)) FP
noncomputable def rI (n:Nat):Nat:=(a9 n).toNat
theorem tL (n:Nat):rI n=(a9 n).toNat:=rfl
noncomputable def pre (a b c:Nat) (g:Nat→Nat→Bool) (k:Nat→Nat→Nat→Nat→Bool):Bool:=
 st (rI a) fun r=>st (rI b) fun me=>st (rI c) fun aZ=>st (Ab r me aZ) fun a8=>st (Ad r me aZ) fun cS=>cond (kU cS a8) (g a8 cS) (st (eI a8 cS) fun cI=>both (nI cI) (st (p8 a8 cI r me aZ) fun h=>k a8 cS cI h))
theorem yA {α:Type} (a b:α):cond false a b=b:=rfl
theorem s7 {α:Type} (a b:α):cond true a b=a:=rfl
theorem L2 {a b c:Nat} {g:Nat→Nat→Bool} {k:Nat→Nat→Nat→Nat→Bool} (e:pre a b c g k=true):
  (d' (bN (a9 a) (a9 b) (a9 c)) (ba (a9 a) (a9 b) (a9 c))=true∧g (ba (a9 a) (a9 b) (a9 c)).toNat (bN (a9 a) (a9 b) (a9 c)).toNat=true)∨
  (d' (bN (a9 a) (a9 b) (a9 c)) (ba (a9 a) (a9 b) (a9 c))=false∧gK (bA (ba (a9 a) (a9 b) (a9 c)) (bN (a9 a) (a9 b) (a9 c)))=true∧
   k (ba (a9 a) (a9 b) (a9 c)).toNat (bN (a9 a) (a9 b) (a9 c)).toNat (bA (ba (a9 a) (a9 b) (a9 c)) (bN (a9 a) (a9 b) (a9 c))).toNat (oF (ba (a9 a) (a9 b) (a9 c)) (bA (ba (a9 a) (a9 b) (a9 c)) (bN (a9 a) (a9 b) (a9 c))) (a9 a) (a9 b) (a9 c)).toNat=true):=by
 unfold pre at e
 rw[tL,tL,tL,bU,bU,bU,K5,bU,Lc,bU,ri,fi,bU,t7,Kj,bU] at e
 cases h:d' (bN (a9 a) (a9 b) (a9 c)) (ba (a9 a) (a9 b) (a9 c)) with
 |true=>rw[h,s7] at e;exact .inl ⟨rfl,e⟩
 |false=>
  rw[h,yA] at e
  have e:=hF.mp e
  exact .inr ⟨rfl,e.1,e.2⟩
noncomputable def Jr (a b c a8:Nat):Bool:=both (eb a8 a) (both (eb a8 b) (eb a8 c))
noncomputable def Ds (a b c a8 cS:Nat):Bool:=st (hH a8 cS) fun s=>st (kN s de) fun l=>both (eb l a) (both (eb l b) (eb l c))
noncomputable def LK (a b c:Nat):Bool:=pre a b c (fun a8 _=>both (both (dy a b) (dy b c)) (Jr a b c a8)) fun a8 cS cI h=>E5 a8 cI h a b c
noncomputable def LL (a b c:Nat):Bool:=pre a b c (fun a8 cS=>both (both (dy a b) (dy b c)) (Ds a b c a8 cS)) fun a8 cS cI h=>E4 a8 cS cI h a b c
theorem Uz {a b c:Nat} {a8:UInt64} (h:both (both (dy a b) (dy b c)) (Jr a b c a8.toNat)=true):a=b∧b=c∧dP a8 a:=by
 rw[hF,hF] at h
 exact ⟨ia h.1.1,ia h.1.2,(nf h.2).1⟩
theorem Uy {a b c:Nat} {a8 cS:UInt64} (h:both (both (dy a b) (dy b c)) (Ds a b c a8.toNat cS.toNat)=true):a=b∧b=c∧dP (ez a8 cS) a:=by
 unfold Ds at h
 rw[hF,hF,iq,bU,cW.2.2.1,ou,bU] at h
 exact ⟨ia h.1.1,ia h.1.2,(nf h.2).1⟩
noncomputable def loop (f:Nat→Bool) (k:Nat):Bool:=Nat.rec true (fun a ay=>cond (f a) ay false) k
theorem oO {f:Nat→Bool}: ∀{k:Nat},loop f k=true→ ∀i,i<k→f i=true:=by
 intro bq
 induction bq with
 |zero=>
  intro _ i h
  lia
 |succ k ay=>
  intro e i h
  have e:cond (f k) (loop f k) false=true:=e
  cases aj:f k with
  |false=>rw[aj] at e;cases e
  |true=>
   rw[aj] at e
   rcases k' (hV h) with h|h
   ·exact ay e i h
   ·rw[h];exact aj
noncomputable def Hs:Nat:=4599075939470750515
noncomputable def Hv:Nat:=4603489467105573601
noncomputable def Hq:Nat:=4592590756007337001
noncomputable def Hw:Nat:=4604840546993784750
noncomputable def Hr:Nat:=4598535507515466056
noncomputable def Hu:Nat:=4602318531202457272
noncomputable def Ht:Nat:=4601057523306793533
noncomputable def sf:Nat:=4606703976345377586
noncomputable def uC:Nat:=4603791717925830846
noncomputable def Br:Nat:=4598621754083818298
noncomputable def NR:Nat:=4603901015759978483
noncomputable def NS:Nat:=4607671262177584182
noncomputable def NT:Nat:=4610375502138591871
noncomputable def L':UInt64:=4599075939470750515
noncomputable def Mc:UInt64:=4603489467105573601
noncomputable def L8:UInt64:=4592590756007337001
noncomputable def Md:UInt64:=4604840546993784750
noncomputable def L9:UInt64:=4598535507515466056
noncomputable def Mb:UInt64:=4602318531202457272
noncomputable def Ma:UInt64:=4601057523306793533
noncomputable def uD:UInt64:=4606703976345377586
noncomputable def o8:UInt64:=4603791717925830846
noncomputable def NV:UInt64:=4598621754083818298
noncomputable def NW:UInt64:=4603901015759978483
noncomputable def NX:UInt64:=4607671262177584182
noncomputable def NY:UInt64:=4610375502138591871
theorem k3:(Hs=L'.toNat)∧(Hv=Mc.toNat)∧(Hq=L8.toNat)∧(Hw=Md.toNat)∧(Hr=L9.toNat)∧(Hu=Mb.toNat)∧(Ht=Ma.toNat)∧(sf=uD.toNat)∧(uC=o8.toNat)∧(Br=NV.toNat)∧(NR=NW.toNat)∧(NS=NX.toNat)∧(NT=NY.toNat):=by
 refine ⟨?_,?_,?_,?_,?_,?_,?_,?_,?_,?_,?_,?_,?_⟩<;>decide+kernel
noncomputable def clamp (x:Nat):Nat:=cond (h3 x 0) 0 (cond (h3 dz x) dz x)
noncomputable def jD (x:UInt64):UInt64:=cond (d7 x gX) gX (cond (d7 d2 x) d2 x)
theorem CK (x:UInt64):clamp x.toNat=(jD x).toNat:=by
 have e:clamp x.toNat=cond (h3 x.toNat gX.toNat) gX.toNat (cond (h3 d2.toNat x.toNat) d2.toNat x.toNat):=by
  rw[←cW.1,←cW.2.1];rfl
 rw[e,tS,tS,rd,rd]
 rfl
noncomputable def z2 (a x b y:Nat):Nat:=st (gH a x) fun x=>st (gH b y) fun y=>hH x y
noncomputable def lim (a x b y:Nat):Nat:=st (gH a x) fun x=>st (gH b y) fun y=>eI x y
noncomputable def z3 (a x b y:UInt64):UInt64:=cF (cP a x) (cP b y)
noncomputable def Ey (a x b y:UInt64):UInt64:=bA (cP a x) (cP b y)
theorem KR (a x b y:UInt64):z2 a.toNat x.toNat b.toNat y.toNat=(z3 a x b y).toNat:=by unfold z2 z3;simp only[bU,jf,iq]
theorem X1 (a x b y:UInt64):lim a.toNat x.toNat b.toNat y.toNat=(Ey a x b y).toNat:=by unfold lim Ey;simp only[bU,jf,fi]
noncomputable def F4 (r g b:Nat):Nat:=st (z2 Hs r Hv g) fun x=>st (gH Hq b) fun y=>hH x y
noncomputable def D6 (r b y:Nat):Nat:=st (eI r y) fun r=>st (eI b y) fun b=>lim Hw r Hr b
noncomputable def Ee (r b y:Nat):Nat:=st (eI r y) fun r=>st (eI b y) fun b=>z2 Hu r Ht b
noncomputable def o7 (r g b:UInt64):UInt64:=cF (z3 L' r Mc g) (cP L8 b)
noncomputable def wi (r b y:UInt64):UInt64:=Ey Md (bA r y) L9 (bA b y)
noncomputable def wu (r b y:UInt64):UInt64:=z3 Mb (bA r y) Ma (bA b y)
theorem y_eq (r g b:UInt64):F4 r.toNat g.toNat b.toNat=(o7 r g b).toNat:=by
 unfold F4 o7;rw[k3.1,k3.2.1,k3.2.2.1,KR,bU,jf,bU,iq]
theorem Wo (r g b:UInt64):D6 r.toNat g.toNat b.toNat=(wi r g b).toNat:=by
 unfold D6 wi;rw[k3.2.2.2.1,k3.2.2.2.2.1,fi,bU,fi,bU,X1]
theorem W3 (r g b:UInt64):Ee r.toNat g.toNat b.toNat=(wu r g b).toNat:=by
 unfold Ee wu;rw[k3.2.2.2.2.2.1,k3.2.2.2.2.2.2.1,fi,bU,fi,bU,KR]
noncomputable def Fg (y i q:Nat):Nat:=st (gH sf i) fun i=>st (gH uC q) fun q=>st (hH y i) fun x=>st (hH x q) fun x=>clamp x
noncomputable def Dr (y i q:Nat):Nat:=st (gH Br i) fun i=>st (gH NR q) fun q=>st (eI y i) fun x=>st (eI x q) fun x=>clamp x
noncomputable def Cx (y i q:Nat):Nat:=st (gH NS i) fun i=>st (gH NT q) fun q=>st (eI y i) fun x=>st (hH x q) fun x=>clamp x
noncomputable def mH (y i q:UInt64):UInt64:=cF (cF y (cP uD i)) (cP o8 q)
noncomputable def ow (y i q:UInt64):UInt64:=bA (bA y (cP NV i)) (cP NW q)
noncomputable def q4 (y i q:UInt64):UInt64:=cF (bA y (cP NX i)) (cP NY q)
theorem aaC (y i q:UInt64):Fg y.toNat i.toNat q.toNat=(jD (mH y i q)).toNat:=by
 unfold Fg mH;rw[k3.2.2.2.2.2.2.2.1,k3.2.2.2.2.2.2.2.2.1,jf,bU,jf,bU,iq,bU,iq,bU,CK]
theorem Uc (y i q:UInt64):Dr y.toNat i.toNat q.toNat=(jD (ow y i q)).toNat:=by
 unfold Dr ow;rw[k3.2.2.2.2.2.2.2.2.2.1,k3.2.2.2.2.2.2.2.2.2.2.1,jf,bU,jf,bU,fi,bU,fi,bU,CK]
theorem PT (y i q:UInt64):Cx y.toNat i.toNat q.toNat=(jD (q4 y i q)).toNat:=by
 unfold Cx q4;rw[k3.2.2.2.2.2.2.2.2.2.2.2.1,k3.2.2.2.2.2.2.2.2.2.2.2.2,jf,bU,jf,bU,fi,bU,iq,bU,CK]
noncomputable def E3 (r g aZ a b c:Nat):Bool:=st (Ab r g aZ) fun a8=>st (Ad r g aZ) fun cS=>st (hH a8 cS) fun cT=>st (kN cT de) fun l=>st (eI dz l) fun dM=>cond (kU cS a8) (both (eb dM a) (both (eb dM b) (eb dM c))) (
 st (eI a8 cS) fun cI=>both (nI cI) (st (p8 a8 cI r g aZ) fun h=>AW a8 cS l cI cT fun s=>cond (kU s 0) (both (eb dM a) (both (eb dM b) (eb dM c))) (st (z' dM s) fun cG=>st (z9 dM cG) fun bT=>st (hH h ch) fun h=>tv bT cG h a b c)))
structure Hm (r g aZ:UInt64) (a b c:Nat):Prop where
 Ux:d' (bN r g aZ) (ba r g aZ)=true→dP (bA d2 (ez (ba r g aZ) (bN r g aZ))) a∧dP (bA d2 (ez (ba r g aZ) (bN r g aZ))) b∧dP (bA d2 (ez (ba r g aZ) (bN r g aZ))) c
 E0:d' (bN r g aZ) (ba r g aZ)=false→gK (bA (ba r g aZ) (bN r g aZ))=true
 mG:d' (bN r g aZ) (ba r g aZ)=false→cond (jK (ez (ba r g aZ) (bN r g aZ))) (gK (cF (ba r g aZ) (bN r g aZ))) (gK (pK (ba r g aZ) (bN r g aZ)))=true
 s0:d' (bN r g aZ) (ba r g aZ)=false→ ∀s,s=lN (ba r g aZ) (bN r g aZ) (ez (ba r g aZ) (bN r g aZ)) (bA (ba r g aZ) (bN r g aZ)) (cF (ba r g aZ) (bN r g aZ))→d' s gX=true→dP (bA d2 (ez (ba r g aZ) (bN r g aZ))) a∧dP (bA d2 (ez (ba r g aZ) (bN r g aZ))) b∧dP (bA d2 (ez (ba r g aZ) (bN r g aZ))) c
 mv:d' (bN r g aZ) (ba r g aZ)=false→ ∀s,s=lN (ba r g aZ) (bN r g aZ) (ez (ba r g aZ) (bN r g aZ)) (bA (ba r g aZ) (bN r g aZ)) (cF (ba r g aZ) (bN r g aZ))→d' s gX=false→
  u1 (rQ (bA d2 (ez (ba r g aZ) (bN r g aZ))) (kT (bA d2 (ez (ba r g aZ) (bN r g aZ))) s)) (kT (bA d2 (ez (ba r g aZ) (bN r g aZ))) s) (cF (oF (ba r g aZ) (bA (ba r g aZ) (bN r g aZ)) r g aZ) lS) a b c
theorem ZV {r g aZ:UInt64} {a b c:Nat} (e:E3 r.toNat g.toNat aZ.toNat a b c=true):Hm r g aZ a b c:=by
 unfold E3 at e
 rw[K5,bU,Lc,bU,iq,bU,cW.2.2.1,ou,bU,cW.2.1,fi,bU,ri,fi,bU,t7,Kj,bU] at e
 have ai:eH (cF (ba r g aZ) (bN r g aZ)) nR=ez (ba r g aZ) (bN r g aZ):=rfl
 rw[ai] at e
 cases h:d' (bN r g aZ) (ba r g aZ) with
 |true=>
  rw[h,s7] at e
  exact ⟨fun _=>nf e,fun z=>(BZ (z.symm.trans h)),fun z=>(BZ (z.symm.trans h)),fun z=>(BZ (z.symm.trans h)),fun z=>(BZ (z.symm.trans h))⟩
 |false=>
  rw[h,yA] at e
  obtain ⟨aF,aE⟩:=hF.mp e
  obtain ⟨aE,cb⟩:=Mv aE
  rw[K0,bU,KZ,bU,cW.2.2.2.2.2.1,iq,bU,cW.1,ri] at cb
  refine ⟨fun z=>(BZ (z.symm.trans h)),fun _=>aF,fun _=>aE,fun _ s aC h0=> ?_,fun _ s aC h0=> ?_⟩
  ·rw[←aC,h0,s7] at cb
   exact nf cb
  ·rw[←aC,h0,yA] at cb
   exact zw cb
noncomputable def LI (y i q a b c:Nat):Bool:=st (eI dz y) fun y=>st (vE i) fun i=>st (vE q) fun q=>st (Fg y i q) fun r=>st (Dr y i q) fun g=>st (Cx y i q) fun aZ=>E3 r g aZ a b c
noncomputable def Aq (a b c:Nat):Bool:=
 st (rI a) fun r=>st (rI b) fun g=>st (rI c) fun aZ=>st (F4 r g aZ) fun y=>st (D6 r aZ y) fun i=>st (Ee r aZ y) fun q=>LI y i q a b c
theorem ZU {a b c:Nat} (e:Aq a b c=true) (y i q:UInt64) (bl:y=bA d2 (o7 (a9 a) (a9 b) (a9 c))) (aB:i=jr (wi (a9 a) (a9 c) (o7 (a9 a) (a9 b) (a9 c)))) (aG:q=jr (wu (a9 a) (a9 c) (o7 (a9 a) (a9 b) (a9 c)))):
  Hm (jD (mH y i q)) (jD (ow y i q)) (jD (q4 y i q)) a b c:=by
 unfold Aq LI at e
 rw[tL,tL,tL,bU,bU,bU,y_eq,bU,Wo,bU,W3,bU,cW.2.1,fi,bU,C',bU,C',bU,←bl,←aB,←aG,aaC,bU,Uc,bU,PT,bU] at e
 exact ZV e
end Mine
end
section
open PySem PySem.W PyProof.Rows PySem.Calls PySem.Spec PySem.SeqAt
namespace Mine
theorem cmp_swap (a b:UInt64):hx b a=(hx a b).map Ordering.swap:=by
 unfold hx
 cases lV a<;>cases lV b<;>try rfl
 ·rename_i x y;cases x<;>cases y<;>rfl
 ·rename_i x _ _ _;cases x<;>rfl
 ·rename_i x;cases x<;>rfl
 ·rename_i s m e s' fm bP
  dsimp only[Gk]
  rw[HA]
  dsimp only
  rw[←Int.compare_swap]
theorem Df (a b:UInt64):nq b a=d7 a b:=by
 unfold nq d7
 rw[cmp_swap a b]
 cases hx a b with
 |none=>rfl
 |some o=>cases o<;>rfl
theorem iE (a b:UInt64):eX (.ao a) (.ao b)=some (d' a b):=rfl
theorem t' (a b:UInt64):fe .Lt (.ao a) (.ao b)=some (d7 a b):=rfl
theorem t9 (a b:UInt64):fe .Gt (.ao a) (.ao b)=some (d7 b a):=congrArg some (Df b a)
theorem Nl (f:UInt64→UInt64→Bool) (p:Bool) (a b c:UInt64):(if f (if p then b else a) c then c else (if p then b else a))=cond p (cond (f b c) c b) (cond (f a c) c a):=by
 cases p with
 |true=>show (if f b c then c else b)=cond (f b c) c b;cases f b c<;>rfl
 |false=>show (if f a c then c else a)=cond (f a c) c a;cases f a c<;>rfl
theorem Ay (a b c:UInt64):gd (ab "max") [.ao a,.ao b,.ao c]=some (.ao (ba a b c)):=by
 have e:gd (ab "max") [.ao a,.ao b,.ao c]=some (.ao (if nq c (if nq b a then b else a) then c else (if nq b a then b else a))):=by kernel_rfl
 rw[e,Df,Df]
 exact congrArg (fun x=>some (I.ao x)) (Nl d7 _ a b c)
theorem Az (a b c:UInt64):gd (ab "min") [.ao a,.ao b,.ao c]=some (.ao (bN a b c)):=
 congrArg (fun x=>some (I.ao x)) (Nl (fun x y=>d7 y x) (d7 b a) a b c)
theorem oa {a b:UInt64} (h:gK b=true):cv .Div (.ao a) (.ao b)=some (.ao (eH a b)):=by
 show (if lj b then none else some (I.ao (eH a b)))=_
 unfold gK at h
 rw[if_neg]
 intro z;rw[z] at h;cases h
theorem An:gK 4618441417868443648=true∧gK 4611686018427387904=true∧gK 4715268809856909312=true∧gK 4613937818241073152=true:=by
 refine ⟨?_,?_,?_,?_⟩<;>decide+kernel
section
variable {r g b:UInt64} {n d:Nat} {sc:Scope} {w:W}
theorem VV (h:d' (bN r g b) (ba r g b)=true):cn (n+100) ⟨bw,d+1,sc⟩ (aq 10) [.ao r,.ao g,.ao b] w=some (.tup [.ao gX,.ao gX,.ao (ba r g b)],w):=by
 exact fy [.v ⟨_,_,(@Ay (r) (g) (b))⟩,.v ⟨_,_,(@Az (r) (g) (b))⟩,.go,.b ⟨_,_,((@iE (bN r g b) (ba r g b)).trans (congrArg some h))⟩]
theorem VW (h:d' (bN r g b) (ba r g b)=false) (J:gK (ba r g b)=true) (U:gK (bA (ba r g b) (bN r g b))=true):cn (n+100) ⟨bw,d+1,sc⟩ (aq 10) [.ao r,.ao g,.ao b] w=
  some (.tup [.ao (oF (ba r g b) (bA (ba r g b) (bN r g b)) r g b),.ao (eH (bA (ba r g b) (bN r g b)) (ba r g b)),.ao (ba r g b)],w):=by
 have bb: ∀a,cv .Div (.ao a) (.ao (ba r g b))=some (.ao (eH a (ba r g b))):=fun a=>oa J
 have b4: ∀a,cv .Div (.ao a) (.ao (bA (ba r g b) (bN r g b)))=some (.ao (eH a (bA (ba r g b) (bN r g b)))):=fun a=>oa U
 unfold oF
 let D:List Fact→List Fact:=fun dJ=> .go:: .v ⟨_,_,b4 (bA (ba r g b) r)⟩:: .go:: .v ⟨_,_,b4 (bA (ba r g b) g)⟩:: .go:: .v ⟨_,_,b4 (bA (ba r g b) b)⟩::dJ
 let A:List Fact→List Fact:=fun dJ=> .v ⟨_,_,Ay r g b⟩:: .v ⟨_,_,Az r g b⟩:: .go:: .b ⟨_,_,(iE (bN r g b) (ba r g b)).trans (congrArg some h)⟩:: .v ⟨_,_,bb (bA (ba r g b) (bN r g b))⟩::D dJ
 cases aF:d' r (ba r g b) with
 |true=>exact fy (A [.b ⟨_,_,(iE r (ba r g b)).trans (congrArg some aF)⟩,.go,.go,.go])
 |false=>cases aE:d' g (ba r g b)<;>exact fy (A [.b ⟨_,_,(iE r (ba r g b)).trans (congrArg some aF)⟩,.b ⟨_,_,(iE g (ba r g b)).trans (congrArg some aE)⟩,.go,.go,.go,.go])
theorem Xn (l:UInt64):(d7 l 4602678819172646912||d' l 4602678819172646912)=jK l:=by
 unfold jK lS
 cases d7 l 4602678819172646912<;>rfl
theorem Fd (a:UInt64):fe .LtE (.ao a) (.ao 4602678819172646912)=some (jK a):=congrArg some (Xn a)
theorem JY (h:d' (bN r g b) (ba r g b)=true):cn (n+100) ⟨bw,d+1,sc⟩ (aq 7) [.ao r,.ao g,.ao b] w=some (.tup [.ao gX,.ao (ez (ba r g b) (bN r g b)),.ao gX],w):=by
 exact fy [.v ⟨_,_,(@Ay (r) (g) (b))⟩,.v ⟨_,_,(@Az (r) (g) (b))⟩,.go,.go,.go,.b ⟨_,_,((@iE (bN r g b) (ba r g b)).trans (congrArg some h))⟩]
theorem JZ (h:d' (bN r g b) (ba r g b)=false) (J:cond (jK (ez (ba r g b) (bN r g b))) (gK (cF (ba r g b) (bN r g b))) (gK (pK (ba r g b) (bN r g b)))=true) (U:gK (bA (ba r g b) (bN r g b))=true):cn (n+100) ⟨bw,d+1,sc⟩ (aq 7) [.ao r,.ao g,.ao b] w=
  some (.tup [.ao (oF (ba r g b) (bA (ba r g b) (bN r g b)) r g b),.ao (ez (ba r g b) (bN r g b)),.ao (lN (ba r g b) (bN r g b) (ez (ba r g b) (bN r g b)) (bA (ba r g b) (bN r g b)) (cF (ba r g b) (bN r g b)))],w):=by
 have b4: ∀a,cv .Div (.ao a) (.ao (bA (ba r g b) (bN r g b)))=some (.ao (eH a (bA (ba r g b) (bN r g b)))):=fun a=>oa U
 have p1:fe .LtE (.ao (eH (cF (ba r g b) (bN r g b)) 4611686018427387904)) (.ao 4602678819172646912)=some (jK (ez (ba r g b) (bN r g b))):=Fd _
 unfold oF lN
 let D:List Fact→List Fact:=fun dJ=> .go:: .v ⟨_,_,b4 (bA (ba r g b) r)⟩:: .go:: .v ⟨_,_,b4 (bA (ba r g b) g)⟩:: .go:: .v ⟨_,_,b4 (bA (ba r g b) b)⟩::dJ
 let A:List Fact→List Fact:=fun dJ=> .v ⟨_,_,Ay r g b⟩:: .v ⟨_,_,Az r g b⟩:: .go:: .go:: .go:: .b ⟨_,_,(iE (bN r g b) (ba r g b)).trans (congrArg some h)⟩::dJ
 cases gg:jK (ez (ba r g b) (bN r g b)) with
 |true=>
  rw[gg,s7] at J
  have bb: ∀a,cv .Div (.ao a) (.ao (cF (ba r g b) (bN r g b)))=some (.ao (eH a (cF (ba r g b) (bN r g b)))):=fun a=>oa J
  let B:List Fact→List Fact:=fun dJ=>A (.b ⟨_,_,p1.trans (congrArg some gg)⟩:: .v ⟨_,_,bb (bA (ba r g b) (bN r g b))⟩::D dJ)
  cases aF:d' r (ba r g b) with
  |true=>exact fy (B [.b ⟨_,_,(iE r (ba r g b)).trans (congrArg some aF)⟩,.go,.go,.go])
  |false=>cases aE:d' g (ba r g b)<;>exact fy (B [.b ⟨_,_,(iE r (ba r g b)).trans (congrArg some aF)⟩,.b ⟨_,_,(iE g (ba r g b)).trans (congrArg some aE)⟩,.go,.go,.go,.go])
 |false=>
  rw[gg,yA] at J
  have bb: ∀a,cv .Div (.ao a) (.ao (bA (bA 4611686018427387904 (ba r g b)) (bN r g b)))=some (.ao (eH a (pK (ba r g b) (bN r g b)))):=fun a=>oa J
  let B:List Fact→List Fact:=fun dJ=>A (.b ⟨_,_,p1.trans (congrArg some gg)⟩:: .go:: .go:: .v ⟨_,_,bb (bA (ba r g b) (bN r g b))⟩::D dJ)
  cases aF:d' r (ba r g b) with
  |true=>exact fy (B [.b ⟨_,_,(iE r (ba r g b)).trans (congrArg some aF)⟩,.go,.go,.go])
  |false=>cases aE:d' g (ba r g b)<;>exact fy (B [.b ⟨_,_,(iE r (ba r g b)).trans (congrArg some aF)⟩,.b ⟨_,_,(iE g (ba r g b)).trans (congrArg some aE)⟩,.go,.go,.go,.go])
theorem adQ (bT cG h:UInt64):cn (n+60) ⟨bw,d+1,sc⟩ (aq 9) [.ao bT,.ao cG,.ao h] w=some (.ao (mQ bT cG (i0 h)),w):=by
 have p1:fe .Lt (.ao (i' h 4607182418800017408).snd) (.ao 4595172819793696085)=some (d7 (i0 h) Bl):=rfl
 have p2:fe .Lt (.ao (i' h 4607182418800017408).snd) (.ao 4602678819172646912)=some (d7 (i0 h) lS):=rfl
 have p3:fe .Lt (.ao (i' h 4607182418800017408).snd) (.ao 4604180019048437077)=some (d7 (i0 h) nS):=rfl
 unfold mQ
 cases aF:d7 (i0 h) Bl with
 |true=>exact fy [.go,.b ⟨_,_,(p1.trans (congrArg some aF))⟩,.go,.go,.go,.go]
 |false=>
  cases aE:d7 (i0 h) lS with
  |true=>exact fy [.go,.b ⟨_,_,(p1.trans (congrArg some aF))⟩,.b ⟨_,_,(p2.trans (congrArg some aE))⟩]
  |false=>
   cases cb:d7 (i0 h) nS with
   |true=>exact fy [.go,.b ⟨_,_,(p1.trans (congrArg some aF))⟩,.b ⟨_,_,(p2.trans (congrArg some aE))⟩,.b ⟨_,_,(p3.trans (congrArg some cb))⟩,.go,.go,.go,.go,.go]
   |false=>exact fy [.go,.b ⟨_,_,(p1.trans (congrArg some aF))⟩,.b ⟨_,_,(p2.trans (congrArg some aE))⟩,.b ⟨_,_,(p3.trans (congrArg some cb))⟩]
theorem FT (h l s:UInt64) (e:d' s 0=true):cn (n+100) ⟨bw,d+2,sc⟩ (aq 8) [.ao h,.ao l,.ao s] w=some (.tup [.ao l,.ao l,.ao l],w):=by
 exact fy [.b ⟨_,_,((@iE (s) (0)).trans (congrArg some e))⟩]
theorem Ny (h l s:UInt64) (e:d' s 0=false):cn (n+100) ⟨bw,d+2,sc⟩ (aq 8) [.ao h,.ao l,.ao s] w=
  some (.tup [.ao (mQ (rQ l (kT l s)) (kT l s) (i0 (cF h ku))),.ao (mQ (rQ l (kT l s)) (kT l s) (i0 h)),.ao (mQ (rQ l (kT l s)) (kT l s) (i0 (bA h ku)))],w):=by
 have aQ:=fun (n:Nat) (bT cG h:UInt64)=>adQ (n:=n) (d:=d) (sc:=(aq 8).scope) (w:=w) bT cG h
 unfold kT
 cases aF:jK l with
 |true=>exact fy [.b ⟨_,_,((@iE (s) (0)).trans (congrArg some e))⟩,.b ⟨_,_,((@Fd (l)).trans (congrArg some aF))⟩,.go,.go,.go,.go,.go,.c ⟨_,_,(@aQ (n+31) (bA (cP 4611686018427387904 l) (cP l (cF 4607182418800017408 s))) (cP l (cF 4607182418800017408 s)) (cF h 4599676419421066581))⟩,.c ⟨_,_,(@aQ (n+30) (bA (cP 4611686018427387904 l) (cP l (cF 4607182418800017408 s))) (cP l (cF 4607182418800017408 s)) (h))⟩,.go,.c ⟨_,_,(@aQ (n+29) (bA (cP 4611686018427387904 l) (cP l (cF 4607182418800017408 s))) (cP l (cF 4607182418800017408 s)) (bA h 4599676419421066581))⟩]
 |false=>exact fy [.b ⟨_,_,((@iE (s) (0)).trans (congrArg some e))⟩,.b ⟨_,_,((@Fd (l)).trans (congrArg some aF))⟩,.go,.go,.go,.go,.go,.go,.c ⟨_,_,(@aQ (n+31) (bA (cP 4611686018427387904 l) (bA (cF l s) (cP l s))) (bA (cF l s) (cP l s)) (cF h 4599676419421066581))⟩,.c ⟨_,_,(@aQ (n+30) (bA (cP 4611686018427387904 l) (bA (cF l s) (cP l s))) (bA (cF l s) (cP l s)) (h))⟩,.go,.c ⟨_,_,(@aQ (n+29) (bA (cP 4611686018427387904 l) (bA (cF l s) (cP l s))) (bA (cF l s) (cP l s)) (bA h 4599676419421066581))⟩]
theorem aec:cn (n+100) ⟨bw,d+1,sc⟩ (aq 5) [.ao r,.ao g,.ao b] w=some (.tup [.ao (o7 r g b),.ao (wi r b (o7 r g b)),.ao (wu r b (o7 r g b))],w):=by
 exact fy [.go,.go,.go,.go,.go,.go,.go,.go,.go,.go,.go,.go,.go,.go,.go]
end
theorem HY {x:UInt64} {neg:Bool} {m:Nat} {e i:Int} (h:lV x= .fin neg m e) (U:uE neg m e=i):gd (ab "int") [.ao x]=some (.int i):=by
 have e:gd (ab "int") [.ao x]=truncF x:=by kernel_rfl
 rw[e,truncF,h,←U]
noncomputable def My:Nat→UInt64→UInt64→UInt64→UInt64→List I
 |0,v,p,q,t=>[.ao v,.ao t,.ao p]
 |1,v,p,q,t=>[.ao q,.ao v,.ao p]
 |2,v,p,q,t=>[.ao p,.ao v,.ao t]
 |3,v,p,q,t=>[.ao p,.ao q,.ao v]
 |4,v,p,q,t=>[.ao t,.ao p,.ao v]
 |_,v,p,q,t=>[.ao v,.ao p,.ao q]
section
variable {n d:Nat} {sc:Scope} {w:W}
theorem adz (h s v:UInt64) (e:d' s 0=true):cn (n+100) ⟨bw,d+1,sc⟩ (aq 11) [.ao h,.ao s,.ao v] w=some (.tup [.ao v,.ao v,.ao v],w):=by
 exact fy [.b ⟨_,_,((@iE (s) (0)).trans (congrArg some e))⟩]
theorem Nz (h s v:UInt64) (e:d' s 0=false) {i m:Nat} {x:Int} (J:lV (cP h kv)= .fin false m x) (U:uE false m x=(i:Int)) (aB:i≤100):
  cn (n+100) ⟨bw,d+1,sc⟩ (aq 11) [.ao h,.ao s,.ao v] w=some (.tup (My (i%6) v (Ax v s) (xb v s (bA (cP h kv) (mT i))) (Ba v s (bA (cP h kv) (mT i)))),w):=by
 have gs:=HY J U
 have j5:cv .Sub (.ao (cP h kv)) (.int (i:Int))=some (.ao (bA (cP h kv) (mT i))):=by
  show (if small (i:Int) then some (I.ao (bA (cP h kv) (mT i))) else none)=_
  rw[r7 (by exact h6 aB rfl),if_pos rfl]
 have yj:(i:Int).fmod 6=((i%6:Nat):Int):=by
  rw[aft _ (by decide)]
  exact fC (Nat.ToInt.mod_congr rfl rfl)
 have yk:=mod_eq (by decide) yj
 unfold kv at gs j5
 have dd:i%6<6:=qN _ (by decide)
 clear yj
 generalize i%6=j at yk dd⊢
 let A:List Fact→List Fact:=fun dJ=> .b ⟨_,_,(iE s 0).trans (congrArg some e)⟩:: .go:: .v ⟨_,_,gs⟩:: .go:: .v ⟨_,_,j5⟩:: .go:: .go:: .go:: .go:: .go:: .go:: .go:: .go:: .go:: .v ⟨_,_,yk⟩:: .go::dJ
 rcases nC dd with rfl|rfl|rfl|rfl|rfl|rfl
 ·exact fy (A [])
 ·exact fy (A [.go])
 ·exact fy (A [.go,.go])
 ·exact fy (A [.go,.go,.go])
 ·exact fy (A [.go,.go,.go,.go])
 ·exact fy (A [.go,.go,.go,.go,.go])
end
noncomputable def kK (d:Nat):a':=⟨bw,d,(aq 6).scope⟩
noncomputable def jb (y i q r g b:UInt64):ar:=[(S "y",.val (.ao y)),(S "i",.val (.ao i)),(S "q",.val (.ao q)),(S "r",.val (.ao r)),(S "g",.val (.ao g)),(S "b",.val (.ao b))]
noncomputable def qf (x:UInt64):UInt64:=cond (d7 x 0) 0 x
noncomputable def pY (x:UInt64):UInt64:=cond (d7 4607182418800017408 x) 4607182418800017408 x
theorem CL (x:UInt64):pY (qf x)=jD x:=by
 unfold pY qf jD gX d2
 cases d7 x 0 with
 |true=>rw[s7,s7];rw[show d7 4607182418800017408 0=false by decide+kernel];rfl
 |false=>rfl
section
variable {d:Nat} {w:W} (y i q r g b:UInt64)
theorem adA (n:Nat):ex (n+40) (kK d) (aO (aq 6).body 3) (jb y i q r g b) w=some (.next,jb y i q (qf r) (g) (b),w):=by
 unfold qf
 cases e:d7 r 0 with
 |true=>exact cq [.b ⟨_,_,((@t' (r) (0)).trans (congrArg some e))⟩]
 |false=>exact cq [.b ⟨_,_,((@t' (r) (0)).trans (congrArg some e))⟩]
theorem adB (n:Nat):ex (n+40) (kK d) (aO (aq 6).body 4) (jb y i q r g b) w=some (.next,jb y i q (r) (qf g) (b),w):=by
 unfold qf
 cases e:d7 g 0 with
 |true=>exact cq [.b ⟨_,_,((@t' (g) (0)).trans (congrArg some e))⟩]
 |false=>exact cq [.b ⟨_,_,((@t' (g) (0)).trans (congrArg some e))⟩]
theorem adC (n:Nat):ex (n+40) (kK d) (aO (aq 6).body 5) (jb y i q r g b) w=some (.next,jb y i q (r) (g) (qf b),w):=by
 unfold qf
 cases e:d7 b 0 with
 |true=>exact cq [.b ⟨_,_,((@t' (b) (0)).trans (congrArg some e))⟩]
 |false=>exact cq [.b ⟨_,_,((@t' (b) (0)).trans (congrArg some e))⟩]
theorem adD (n:Nat):ex (n+40) (kK d) (aO (aq 6).body 6) (jb y i q r g b) w=some (.next,jb y i q (pY r) (g) (b),w):=by
 unfold pY
 cases e:d7 4607182418800017408 r with
 |true=>exact cq [.b ⟨_,_,((@t9 (r) (4607182418800017408)).trans (congrArg some e))⟩]
 |false=>exact cq [.b ⟨_,_,((@t9 (r) (4607182418800017408)).trans (congrArg some e))⟩]
theorem adE (n:Nat):ex (n+40) (kK d) (aO (aq 6).body 7) (jb y i q r g b) w=some (.next,jb y i q (r) (pY g) (b),w):=by
 unfold pY
 cases e:d7 4607182418800017408 g with
 |true=>exact cq [.b ⟨_,_,((@t9 (g) (4607182418800017408)).trans (congrArg some e))⟩]
 |false=>exact cq [.b ⟨_,_,((@t9 (g) (4607182418800017408)).trans (congrArg some e))⟩]
theorem adF (n:Nat):ex (n+40) (kK d) (aO (aq 6).body 8) (jb y i q r g b) w=some (.next,jb y i q (r) (g) (pY b),w):=by
 unfold pY
 cases e:d7 4607182418800017408 b with
 |true=>exact cq [.b ⟨_,_,((@t9 (b) (4607182418800017408)).trans (congrArg some e))⟩]
 |false=>exact cq [.b ⟨_,_,((@t9 (b) (4607182418800017408)).trans (congrArg some e))⟩]
theorem adI (n:Nat):b1 (n+99) (kK d) (aq 6).body [(S "y",.val (.ao y)),(S "i",.val (.ao i)),(S "q",.val (.ao q))] w=b1 (n+96) (kK d) ((aq 6).body.drop 3) (jb y i q (mH y i q) (ow y i q) (q4 y i q)) w:=by
 have hd:(aq 6).body=aO (aq 6).body 0::aO (aq 6).body 1::aO (aq 6).body 2::(aq 6).body.drop 3:=by kernel_rfl
 have h0: ∀n,ex (n+40) (kK d) (aO (aq 6).body 0) [(S "y",.val (.ao y)),(S "i",.val (.ao i)),(S "q",.val (.ao q))] w=some (.next,[(S "y",.val (.ao y)),(S "i",.val (.ao i)),(S "q",.val (.ao q)),(S "r",.val (.ao (mH y i q)))],w):=by
  intro n
  exact cq [.go,.go,.go,.go]
 have J: ∀n,ex (n+40) (kK d) (aO (aq 6).body 1) [(S "y",.val (.ao y)),(S "i",.val (.ao i)),(S "q",.val (.ao q)),(S "r",.val (.ao (mH y i q)))] w=some (.next,[(S "y",.val (.ao y)),(S "i",.val (.ao i)),(S "q",.val (.ao q)),(S "r",.val (.ao (mH y i q))),(S "g",.val (.ao (ow y i q)))],w):=by
  intro n
  exact cq [.go,.go,.go,.go]
 have U: ∀n,ex (n+40) (kK d) (aO (aq 6).body 2) [(S "y",.val (.ao y)),(S "i",.val (.ao i)),(S "q",.val (.ao q)),(S "r",.val (.ao (mH y i q))),(S "g",.val (.ao (ow y i q)))] w=some (.next,jb y i q (mH y i q) (ow y i q) (q4 y i q),w):=by
  intro n
  exact cq [.go,.go,.go,.go]
 rw[hd,cZ (D:=98) h0 (by decide),cZ (D:=97) J (by decide),cZ (D:=96) U (by decide)]
 rfl
theorem adG (n:Nat):ex (n+40) (kK d) (aO (aq 6).body 9) (jb y i q r g b) w=some (.ret (.tup [.ao r,.ao g,.ao b]),jb y i q r g b,w):=by
 exact cq []
theorem adH {sc:Scope} {n:Nat}:cn (n+100) ⟨bw,d+1,sc⟩ (aq 6) [.ao y,.ao i,.ao q] w=some (.tup [.ao (jD (mH y i q)),.ao (jD (ow y i q)),.ao (jD (q4 y i q))],w):=by
 have ag:jN (aq 6)=[S "y",S "i",S "q"]:=by kernel_rfl
 have hd:(aq 6).body.drop 3=[aO (aq 6).body 3,aO (aq 6).body 4,aO (aq 6).body 5,aO (aq 6).body 6,aO (aq 6).body 7,aO (aq 6).body 8,aO (aq 6).body 9]:=by kernel_rfl
 have a6:([S "y",S "i",S "q"]:List Str).zip ([I.ao y,.ao i,.ao q].map Slot.val)=[(S "y",.val (.ao y)),(S "i",.val (.ao i)),(S "q",.val (.ao q))]:=rfl
 rw[sZ (by rw[ag];rfl),ag,a6]
 have h:=adI (d:=d) (w:=w) y i q n
 rw[hd,cZ (D:=95) (adA (d:=d) (w:=w) y i q _ _ _) (by decide),cZ (D:=94) (adB (d:=d) (w:=w) y i q _ _ _) (by decide),cZ (D:=93) (adC (d:=d) (w:=w) y i q _ _ _) (by decide),cZ (D:=92) (adD (d:=d) (w:=w) y i q _ _ _) (by decide),cZ (D:=91) (adE (d:=d) (w:=w) y i q _ _ _) (by decide),cZ (D:=90) (adF (d:=d) (w:=w) y i q _ _ _) (by decide),ni (D:=89) (adG (d:=d) (w:=w) y i q _ _ _) (by decide),CL,CL,CL] at h
 unfold kK at h
 rw[h]
 rfl
end
noncomputable def cY (n:Nat):I:= .int ((n*1048576:Nat):Int)
noncomputable def l' (d:Nat):a':=⟨bw,d,(aq 16).scope⟩
noncomputable def q3 (k ps r g b:I):ar:=[(S "kind",.val k),(S "parts",.val ps),(S "r",.val r),(S "g",.val g),(S "b",.val b)]
theorem CT {a:Nat} (h:a<1000):cv .Div (cY a) (.ao 4715268809856909312)=some (.ao (a9 a)):=by
 show (if small ((a*1048576:Nat):Int)∧ ¬lj 4715268809856909312 then some (I.ao (eH (mT ((a*1048576:Nat):Int)) 4715268809856909312)) else none)=_
 rw[r7 (by lia),if_pos ⟨rfl,by decide+kernel⟩]
 rfl
theorem Eb {x:UInt64} {n:Nat} (h:dP x n):gd (ab "int") [.ao (cF (cP x 4715268809856909312) 4602678819172646912)]=some (cY n):=by
 obtain ⟨m,e,J,U⟩:=h
 exact HY J U
section
variable {d:Nat} {w:W} {k:Nat} {a b c:Nat}
theorem YQ (A B C uY B' Ha K:I) (bb:cv .Div A (.ao 4715268809856909312)=some uY) (b4:cv .Div B (.ao 4715268809856909312)=some B') (hg:cv .Div C (.ao 4715268809856909312)=some Ha) (n:Nat):ex (n+60) (l' d) (aO (aq 16).body 0) [(S "kind",.val K),(S "parts",.val (.list [A,B,C]))] w=some (.next,q3 K (.list [A,B,C]) uY B' Ha,w):=by
 exact cq [.go,.go,.v ⟨_,_,bb⟩,.v ⟨_,_,b4⟩,.v ⟨_,_,hg⟩]
theorem YO (aJ:a<17) (aa:b<17) (ah:c<17) (n:Nat):ex (n+60) (l' d) (aO (aq 16).body 0) [(S "kind",.val (ak k)),(S "parts",.val (.list [cY a,cY b,cY c]))] w=some (.next,q3 (ak k) (.list [cY a,cY b,cY c]) (.ao (a9 a)) (.ao (a9 b)) (.ao (a9 c)),w):=
 YQ _ _ _ _ _ _ _ (CT (by exact iA aJ rfl)) (CT (by exact iA aa rfl)) (CT (by exact iA ah rfl)) n
noncomputable def lq (k ps r g b:I) (l:I) (rest:ar):ar:=q3 k ps r g b++rest++[(S "light",.val l)]
noncomputable def jy (x:UInt64) (X:I):Prop:=gd (ab "int") [.ao (cF (cP x 4715268809856909312) 4602678819172646912)]=some X
theorem ES (K ps R G B u v t:I) (x y z:UInt64) (X Y Z:I) (ae:jy x X) (bl:jy y Y) (a6:jy z Z) (n:Nat):ex (n+60) (l' d) (aO (aq 16).body 2) (lq K ps R G B (.tup [.ao x,.ao y,.ao z]) [(S "hue",.val u),(S "share",.val v),(S "level",.val t)]) w=some (.ret (.list [X,Y,Z]),lq K ps R G B (.tup [.ao x,.ao y,.ao z]) [(S "hue",.val u),(S "share",.val v),(S "level",.val t)],w):=by
 unfold jy at ae bl a6
 exact cq [.go,.go,.go,.go,.v ⟨_,_,ae⟩,.go,.go,.v ⟨_,_,bl⟩,.go,.go,.v ⟨_,_,a6⟩]
theorem Af (K ps R G B u v t:I) (x y z:UInt64) (X Y Z:I) (ae:jy x X) (bl:jy y Y) (a6:jy z Z) (n:Nat):ex (n+60) (l' d) (aO (aq 16).body 2) (lq K ps R G B (.tup [.ao x,.ao y,.ao z]) [(S "hue",.val u),(S "level",.val v),(S "share",.val t)]) w=some (.ret (.list [X,Y,Z]),lq K ps R G B (.tup [.ao x,.ao y,.ao z]) [(S "hue",.val u),(S "level",.val v),(S "share",.val t)],w):=by
 unfold jy at ae bl a6
 exact cq [.go,.go,.go,.go,.v ⟨_,_,ae⟩,.go,.go,.v ⟨_,_,bl⟩,.go,.go,.v ⟨_,_,a6⟩]
theorem ET (K ps R G B u v t NU i q:I) (x y z:UInt64) (X Y Z:I) (ae:jy x X) (bl:jy y Y) (a6:jy z Z) (n:Nat):ex (n+60) (l' d) (aO (aq 16).body 2) (lq K ps R G B (.tup [.ao x,.ao y,.ao z]) [(S "y",.val NU),(S "i",.val i),(S "q",.val q),(S "hue",.val u),(S "level",.val v),(S "share",.val t)]) w=some (.ret (.list [X,Y,Z]),lq K ps R G B (.tup [.ao x,.ao y,.ao z]) [(S "y",.val NU),(S "i",.val i),(S "q",.val q),(S "hue",.val u),(S "level",.val v),(S "share",.val t)],w):=by
 unfold jy at ae bl a6
 exact cq [.go,.go,.go,.go,.v ⟨_,_,ae⟩,.go,.go,.v ⟨_,_,bl⟩,.go,.go,.v ⟨_,_,a6⟩]
theorem EP (j:Nat) (aP:j<2) (K ps:I) (cj:K=ak j) (r g b H s v x y z ja:UInt64)
  (J: ∀n,cn (n+100) ⟨bw,d+2,(aq 16).scope⟩ (aq 10) [.ao r,.ao g,.ao b] w=some (.tup [.ao H,.ao s,.ao v],w))
  (jg:ja=[cF H ku,bA d2 H].getD j 0)
  (U: ∀n,cn (n+100) ⟨bw,d+2,(aq 16).scope⟩ (aq 11) [.ao ja,.ao s,.ao v] w=some (.tup [.ao x,.ao y,.ao z],w)) (n:Nat):
  ex (n+160) (l' (d+2)) (aO (aq 16).body 1) (q3 K ps (.ao r) (.ao g) (.ao b)) w=some (.next,lq K ps (.ao r) (.ao g) (.ao b) (.tup [.ao x,.ao y,.ao z]) [(S "hue",.val (.ao H)),(S "share",.val (.ao s)),(S "level",.val (.ao v))],w):=by
 have hg:cv .Div (.ao 4607182418800017408) (.ao 4613937818241073152)=some (.ao ku):=by rw[oa An.2.2.2,Bm.2.1]
 rcases z8 aP with rfl|rfl
 ·have jg:ja=cF H ku:=jg
  have cj:K= .int 0:=cj
  subst jg cj
  exact cq [.go,.c ⟨_,_,(@J (n+56))⟩,.v ⟨_,_,hg⟩,.go,.go,.go,.c ⟨_,_,(@U (n+54))⟩]
 ·have jg:ja=bA d2 H:=jg
  have cj:K= .int 1:=cj
  subst jg cj
  unfold d2 at U
  exact cq [.go,.c ⟨_,_,(@J (n+56))⟩,.v ⟨_,_,hg⟩,.go,.go,.go,.c ⟨_,_,(@U (n+54))⟩]
theorem Ae (j:Nat) (aP:j<3) (K ps:I) (cj:K=ak (j+2)) (r g b H l s x y z ja:UInt64)
  (J: ∀n,cn (n+100) ⟨bw,d+2,(aq 16).scope⟩ (aq 7) [.ao r,.ao g,.ao b] w=some (.tup [.ao H,.ao l,.ao s],w))
  (jg:ja=[bA H ku,bA nS H,bA uv H].getD j 0)
  (U: ∀n,cn (n+100) ⟨bw,d+2,(aq 16).scope⟩ (aq 8) [.ao ja,.ao l,.ao s] w=some (.tup [.ao x,.ao y,.ao z],w)) (n:Nat):
  ex (n+160) (l' (d+2)) (aO (aq 16).body 1) (q3 K ps (.ao r) (.ao g) (.ao b)) w=some (.next,lq K ps (.ao r) (.ao g) (.ao b) (.tup [.ao x,.ao y,.ao z]) [(S "hue",.val (.ao H)),(S "level",.val (.ao l)),(S "share",.val (.ao s))],w):=by
 have bb:cv .Div (.ao 4607182418800017408) (.ao 4613937818241073152)=some (.ao ku):=by rw[oa An.2.2.2,Bm.2.1]
 have b4:cv .Div (.ao 4611686018427387904) (.ao 4613937818241073152)=some (.ao nS):=by rw[oa An.2.2.2,Bm.2.2]
 have hg:cv .Div (.ao 4616189618054758400) (.ao 4613937818241073152)=some (.ao uv):=by rw[oa An.2.2.2,Bm.1]
 rcases ED aP with rfl|rfl|rfl
 ·have jg:ja=bA H ku:=jg
  have cj:K= .int 2:=cj
  subst jg cj
  exact cq [.go,.go,.c ⟨_,_,(@J (n+54))⟩,.v ⟨_,_,bb⟩,.go,.v ⟨_,_,b4⟩,.go,.v ⟨_,_,hg⟩,.go,.go,.go,.c ⟨_,_,(@U (n+52))⟩]
 ·have jg:ja=bA nS H:=jg
  have cj:K= .int 3:=cj
  subst jg cj
  exact cq [.go,.go,.c ⟨_,_,(@J (n+54))⟩,.v ⟨_,_,bb⟩,.go,.v ⟨_,_,b4⟩,.go,.v ⟨_,_,hg⟩,.go,.go,.go,.c ⟨_,_,(@U (n+52))⟩]
 ·have jg:ja=bA uv H:=jg
  have cj:K= .int 4:=cj
  subst jg cj
  exact cq [.go,.go,.c ⟨_,_,(@J (n+54))⟩,.v ⟨_,_,bb⟩,.go,.v ⟨_,_,b4⟩,.go,.v ⟨_,_,hg⟩,.go,.go,.go,.c ⟨_,_,(@U (n+52))⟩]
theorem ER (ps:I) (r g b y i q dJ g' aZ H l s x Y Z:UInt64)
  (J: ∀n,cn (n+100) ⟨bw,d+2,(aq 16).scope⟩ (aq 5) [.ao r,.ao g,.ao b] w=some (.tup [.ao y,.ao i,.ao q],w))
  (U: ∀n,cn (n+100) ⟨bw,d+2,(aq 16).scope⟩ (aq 6) [.ao (bA 4607182418800017408 y),.ao (jr i),.ao (jr q)] w=some (.tup [.ao dJ,.ao g',.ao aZ],w))
  (av: ∀n,cn (n+100) ⟨bw,d+2,(aq 16).scope⟩ (aq 7) [.ao dJ,.ao g',.ao aZ] w=some (.tup [.ao H,.ao l,.ao s],w))
  (a0: ∀n,cn (n+100) ⟨bw,d+2,(aq 16).scope⟩ (aq 8) [.ao (cF H 4602678819172646912),.ao (bA 4607182418800017408 l),.ao s] w=some (.tup [.ao x,.ao Y,.ao Z],w)) (n:Nat):
  ex (n+160) (l' (d+2)) (aO (aq 16).body 1) (q3 (.int 5) ps (.ao r) (.ao g) (.ao b)) w=some (.next,lq (.int 5) ps (.ao dJ) (.ao g') (.ao aZ) (.tup [.ao x,.ao Y,.ao Z]) [(S "y",.val (.ao y)),(S "i",.val (.ao i)),(S "q",.val (.ao q)),(S "hue",.val (.ao H)),(S "level",.val (.ao l)),(S "share",.val (.ao s))],w):=by
 exact cq [.go,.go,.c ⟨_,_,(@J (n+54))⟩,.go,.go,.go,.c ⟨_,_,(@U (n+53))⟩,.c ⟨_,_,(@av (n+52))⟩,.go,.go,.c ⟨_,_,(@a0 (n+50))⟩]
end
end Mine
end
section
open PySem
namespace Mine
theorem QO:loop (fun a=>loop (fun b=>loop (fun c=>LK a b c) 17) 17) 17=true:=by decide+kernel
theorem QQ:loop (fun a=>loop (fun b=>loop (fun c=>LL a b c) 17) 17) 17=true:=by decide+kernel
theorem QS:loop (fun a=>loop (fun b=>loop (fun c=>Aq a b c) 17) 17) 17=true:=by decide+kernel
theorem QP {a b c:Nat} (aJ:a<17) (aa:b<17) (ah:c<17):LK a b c=true:=oO (oO (oO QO a aJ) b aa) c ah
theorem QR {a b c:Nat} (aJ:a<17) (aa:b<17) (ah:c<17):LL a b c=true:=oO (oO (oO QQ a aJ) b aa) c ah
theorem QT {a b c:Nat} (aJ:a<17) (aa:b<17) (ah:c<17):Aq a b c=true:=oO (oO (oO QS a aJ) b aa) c ah
end Mine
end
section
open PySem PySem.W PyProof.Rows PySem.Calls PySem.Spec PySem.SeqAt
namespace Mine
section
variable {d:Nat} {w:W} {sc:Scope} {a b c:Nat}
theorem nE (aJ:a<17) (aa:b<17) (ah:c<17) (k:Nat) (ps:I) (K:I) (R G B:I) (x y z:UInt64) (rest:ar) (gr aZ d0:Nat)
  (a7: ∀X Y Z,jy x X→jy y Y→jy z Z→ ∀n,ex (n+60) (l' (d+2)) (aO (aq 16).body 2) (lq K ps R G B (.tup [.ao x,.ao y,.ao z]) rest) w=some (.ret (.list [X,Y,Z]),lq K ps R G B (.tup [.ao x,.ao y,.ao z]) rest,w))
  (cj:K=ak k) (tF:ps= .list [cY a,cY b,cY c])
  (J: ∀n,ex (n+160) (l' (d+2)) (aO (aq 16).body 1) (q3 K ps (.ao (a9 a)) (.ao (a9 b)) (.ao (a9 c))) w=some (.next,lq K ps R G B (.tup [.ao x,.ao y,.ao z]) rest,w))
  (ae:dP x gr) (bl:dP y aZ) (a6:dP z d0) (n:Nat):cn (n+300) ⟨bw,d+3,sc⟩ (aq 16) [ak k,.list [cY a,cY b,cY c]] w=some (.list [cY gr,cY aZ,cY d0],w):=by
 have ag:jN (aq 16)=[S "kind",S "parts"]:=by kernel_rfl
 have hd:(aq 16).body=[aO (aq 16).body 0,aO (aq 16).body 1,aO (aq 16).body 2]:=by kernel_rfl
 have h0:=YO (d:=d+2) (w:=w) (k:=k) aJ aa ah
 rw[←tF,←cj] at h0
 have U:=a7 _ _ _ (Eb ae) (Eb bl) (Eb a6)
 have a6:([S "kind",S "parts"]:List Str).zip ([ak k,.list [cY a,cY b,cY c]].map Slot.val)=[(S "kind",.val K),(S "parts",.val ps)]:=by rw[cj,tF];rfl
 rw[sZ (by rw[ag];rfl),ag,a6,hd]
 have e:=(cZ (r:=[aO (aq 16).body 1,aO (aq 16).body 2]) (D:=298) h0 (by decide) n).trans ((cZ (r:=[aO (aq 16).body 2]) (D:=297) J (by decide) n).trans (ni (r:=[]) (D:=296) U (by decide) n))
 unfold l' at e
 rw[e]
 rfl
theorem Ug (a b c:UInt64):a=[a,b].getD 0 c:=rfl
theorem Uh (a b c:UInt64):b=[a,b].getD 1 c:=rfl
theorem Ui (a b e c:UInt64):a=[a,b,e].getD 0 c:=rfl
theorem Uj (a b e c:UInt64):b=[a,b,e].getD 1 c:=rfl
theorem Uk (a b e c:UInt64):e=[a,b,e].getD 2 c:=rfl
theorem C3:d' gX 0=true:=by decide+kernel
theorem Mz {i:Nat} {v p q t:UInt64} {a b c:Nat} (h:Cb i v p q t a b c): ∃x y z,My i v p q t=[.ao x,.ao y,.ao z]∧dP x a∧dP y b∧dP z c:=by
 rcases h with ⟨rfl,h⟩|⟨rfl,h⟩|⟨rfl,h⟩|⟨rfl,h⟩|⟨rfl,h⟩|⟨rfl,h⟩<;>exact ⟨_,_,_,rfl,h.1,h.2.1,h.2.2⟩
theorem Lh (aJ:a<17) (aa:b<17) (ah:c<17) (j:Nat) (aP:j<2) (n:Nat):cn (n+300) ⟨bw,d+3,sc⟩ (aq 16) [ak j,.list [cY a,cY b,cY c]] w=some (.list (turn j (cY a) (cY b) (cY c)),w):=by
 rcases L2 (QP aJ aa ah) with ⟨J,U⟩|⟨J,U,av⟩
 ·obtain ⟨rfl,rfl,av⟩:=Uz U
  have aQ:=fun n=>VV (n:=n) (d:=d+1) (sc:=(aq 16).scope) (w:=w) J
  have:=fun ja n=>adz (n:=n) (d:=d+1) (sc:=(aq 16).scope) (w:=w) ja gX (ba (a9 a) (a9 a) (a9 a)) C3
  have key:=nE (sc:=sc) aJ aa ah j _ _ _ _ _ _ _ _ _ _ _ _ (ES _ _ _ _ _ _ _ _ _ _ _) rfl rfl (EP (d:=d) (w:=w) j aP (ak j) _ rfl _ _ _ _ _ _ _ _ _ _ aQ rfl (this _)) av av av n
  rw[key]
  rcases z8 aP with rfl|rfl<;>rfl
 ·have o:=ZX av
  have aQ:=fun n=>VW (n:=n) (d:=d+1) (sc:=(aq 16).scope) (w:=w) J o.nm o.E0
  rcases z8 aP with rfl|rfl
  ·obtain ⟨i,m,e,g1,g2,g3,c1⟩:=o.m0.ex
   obtain ⟨x,y,z,gi,ea,fv,rH⟩:=Mz c1
   have dh:=fun n=>Nz (n:=n) (d:=d+1) (sc:=(aq 16).scope) (w:=w) _ _ (ba (a9 a) (a9 b) (a9 c)) o.s0 g1 g2 g3
   rw[gi] at dh
   exact nE (sc:=sc) aJ aa ah 0 _ _ _ _ _ _ _ _ _ _ _ _ (ES _ _ _ _ _ _ _ _ _ _ _) rfl rfl (EP (d:=d) (w:=w) 0 aP (ak 0) _ rfl _ _ _ _ _ _ _ _ _ _ aQ (Ug _ _ _) dh) ea fv rH n
  ·obtain ⟨i,m,e,g1,g2,g3,c1⟩:=o.bT.ex
   obtain ⟨x,y,z,gi,ea,fv,rH⟩:=Mz c1
   have dh:=fun n=>Nz (n:=n) (d:=d+1) (sc:=(aq 16).scope) (w:=w) _ _ (ba (a9 a) (a9 b) (a9 c)) o.s0 g1 g2 g3
   rw[gi] at dh
   exact nE (sc:=sc) aJ aa ah 1 _ _ _ _ _ _ _ _ _ _ _ _ (ES _ _ _ _ _ _ _ _ _ _ _) rfl rfl (EP (d:=d) (w:=w) 1 aP (ak 1) _ rfl _ _ _ _ _ _ _ _ _ _ aQ (Uh _ _ _) dh) ea fv rH n
theorem EU (aJ:a<17) (aa:b<17) (ah:c<17) (j:Nat) (aP:j<3) (n:Nat):cn (n+300) ⟨bw,d+3,sc⟩ (aq 16) [ak (j+2),.list [cY a,cY b,cY c]] w=some (.list (turn (j+2) (cY a) (cY b) (cY c)),w):=by
 rcases L2 (QR aJ aa ah) with ⟨J,U⟩|⟨J,U,av⟩
 ·obtain ⟨rfl,rfl,av⟩:=Uy U
  have aQ:=fun n=>JY (n:=n) (d:=d+1) (sc:=(aq 16).scope) (w:=w) J
  have:=fun ja n=>FT (n:=n) (d:=d) (sc:=(aq 16).scope) (w:=w) ja (ez (ba (a9 a) (a9 a) (a9 a)) (bN (a9 a) (a9 a) (a9 a))) gX C3
  have key:=nE (sc:=sc) aJ aa ah (j+2) _ _ _ _ _ _ _ _ _ _ _ _ (Af _ _ _ _ _ _ _ _ _ _ _) rfl rfl (Ae (d:=d) (w:=w) j aP (ak (j+2)) _ rfl _ _ _ _ _ _ _ _ _ _ aQ rfl (this _)) av av av n
  rw[key]
  rcases ED aP with rfl|rfl|rfl<;>rfl
 ·have o:=ZW av
  have aQ:=fun n=>JZ (n:=n) (d:=d+1) (sc:=(aq 16).scope) (w:=w) J o.mG U
  have dh:=fun (ja:UInt64) (n:Nat)=>Ny (n:=n) (d:=d) (sc:=(aq 16).scope) (w:=w) ja (ez (ba (a9 a) (a9 b) (a9 c)) (bN (a9 a) (a9 b) (a9 c))) (lN (ba (a9 a) (a9 b) (a9 c)) (bN (a9 a) (a9 b) (a9 c)) (ez (ba (a9 a) (a9 b) (a9 c)) (bN (a9 a) (a9 b) (a9 c))) (bA (ba (a9 a) (a9 b) (a9 c)) (bN (a9 a) (a9 b) (a9 c))) (cF (ba (a9 a) (a9 b) (a9 c)) (bN (a9 a) (a9 b) (a9 c)))) o.s0
  rcases ED aP with rfl|rfl|rfl
  ·exact nE (sc:=sc) aJ aa ah 2 _ _ _ _ _ _ _ _ _ _ _ _ (Af _ _ _ _ _ _ _ _ _ _ _) rfl rfl (Ae (d:=d) (w:=w) 0 aP (ak 2) _ rfl _ _ _ _ _ _ _ _ _ _ aQ (Ui _ _ _ _) (dh _)) o.mv.EF.r o.mv.EF.g o.mv.EF.b n
  ·exact nE (sc:=sc) aJ aa ah 3 _ _ _ _ _ _ _ _ _ _ _ _ (Af _ _ _ _ _ _ _ _ _ _ _) rfl rfl (Ae (d:=d) (w:=w) 1 aP (ak 3) _ rfl _ _ _ _ _ _ _ _ _ _ aQ (Uj _ _ _ _) (dh _)) o.mv.rR.r o.mv.rR.g o.mv.rR.b n
  ·exact nE (sc:=sc) aJ aa ah 4 _ _ _ _ _ _ _ _ _ _ _ _ (Af _ _ _ _ _ _ _ _ _ _ _) rfl rfl (Ae (d:=d) (w:=w) 2 aP (ak 4) _ rfl _ _ _ _ _ _ _ _ _ _ aQ (Uk _ _ _ _) (dh _)) o.mv.EG.r o.mv.EG.g o.mv.EG.b n
theorem YR (aJ:a<17) (aa:b<17) (ah:c<17) (n:Nat):cn (n+300) ⟨bw,d+3,sc⟩ (aq 16) [ak 5,.list [cY a,cY b,cY c]] w=some (.list (turn 5 (cY a) (cY b) (cY c)),w):=by
 have o:=ZU (QT aJ aa ah) _ _ _ rfl rfl rfl
 have J:=fun n=>aec (r:=a9 a) (g:=a9 b) (b:=a9 c) (n:=n) (d:=d+1) (sc:=(aq 16).scope) (w:=w)
 generalize o7 (a9 a) (a9 b) (a9 c)=y at o J
 generalize wi (a9 a) (a9 c) y=i at o J
 generalize wu (a9 a) (a9 c) y=q at o J
 have U:=fun n=>adH (d:=d+1) (w:=w) (bA d2 y) (jr i) (jr q) (sc:=(aq 16).scope) (n:=n)
 generalize jD (mH (bA d2 y) (jr i) (jr q))=dJ at o U
 generalize jD (ow (bA d2 y) (jr i) (jr q))=g' at o U
 generalize jD (q4 (bA d2 y) (jr i) (jr q))=aZ at o U
 cases bM:d' (bN dJ g' aZ) (ba dJ g' aZ) with
 |true=>
  have av:=fun n=>JY (n:=n) (d:=d+1) (sc:=(aq 16).scope) (w:=w) bM
  have a0:=fun n=>FT (n:=n) (d:=d) (sc:=(aq 16).scope) (w:=w) (cF gX lS) (bA d2 (ez (ba dJ g' aZ) (bN dJ g' aZ))) gX C3
  obtain ⟨gp,mR,uB⟩:=o.Ux bM
  exact nE (sc:=sc) aJ aa ah 5 _ _ _ _ _ _ _ _ _ _ _ _ (ET _ _ _ _ _ _ _ _ _ _ _ _ _ _) rfl rfl (ER (d:=d) (w:=w) _ _ _ _ _ _ _ _ _ _ _ _ _ _ _ _ J U av a0) gp mR uB n
 |false=>
  have av:=fun n=>JZ (n:=n) (d:=d+1) (sc:=(aq 16).scope) (w:=w) bM (o.mG bM) (o.E0 bM)
  have DZ:=o.s0 bM _ rfl
  have tA:=o.mv bM _ rfl
  generalize lN (ba dJ g' aZ) (bN dJ g' aZ) (ez (ba dJ g' aZ) (bN dJ g' aZ)) (bA (ba dJ g' aZ) (bN dJ g' aZ)) (cF (ba dJ g' aZ) (bN dJ g' aZ))=s at av DZ tA
  generalize oF (ba dJ g' aZ) (bA (ba dJ g' aZ) (bN dJ g' aZ)) dJ g' aZ=H at av tA
  generalize ez (ba dJ g' aZ) (bN dJ g' aZ)=l at av DZ tA
  cases he:d' s gX with
  |true=>
   have a0:=fun n=>FT (n:=n) (d:=d) (sc:=(aq 16).scope) (w:=w) (cF H lS) (bA d2 l) s he
   obtain ⟨gp,mR,uB⟩:=DZ he
   exact nE (sc:=sc) aJ aa ah 5 _ _ _ _ _ _ _ _ _ _ _ _ (ET _ _ _ _ _ _ _ _ _ _ _ _ _ _) rfl rfl (ER (d:=d) (w:=w) _ _ _ _ _ _ _ _ _ _ _ _ _ _ _ _ J U av a0) gp mR uB n
  |false=>
   have a0:=fun n=>Ny (n:=n) (d:=d) (sc:=(aq 16).scope) (w:=w) (cF H lS) (bA d2 l) s he
   have hm:=tA he
   exact nE (sc:=sc) aJ aa ah 5 _ _ _ _ _ _ _ _ _ _ _ _ (ET _ _ _ _ _ _ _ _ _ _ _ _ _ _) rfl rfl (ER (d:=d) (w:=w) _ _ _ _ _ _ _ _ _ _ _ _ _ _ _ _ J U av a0) hm.r hm.g hm.b n
theorem YS (aJ:a<17) (aa:b<17) (ah:c<17) {k:Nat} (aj:k<6) (n:Nat):cn (n+300) ⟨bw,d+3,sc⟩ (aq 16) [ak k,.list [cY a,cY b,cY c]] w=some (.list (turn k (cY a) (cY b) (cY c)),w):=by
 rcases nC aj with rfl|rfl|rfl|rfl|rfl|rfl
 ·exact Lh aJ aa ah 0 (by decide) n
 ·exact Lh aJ aa ah 1 (by decide) n
 ·exact EU aJ aa ah 0 (by decide) n
 ·exact EU aJ aa ah 1 (by decide) n
 ·exact EU aJ aa ah 2 (by decide) n
 ·exact YR aJ aa ah n
end
noncomputable def cQ:a':=⟨bw,7,(aq 22).scope⟩
noncomputable abbrev lw (i:Nat):bY:=aO (aq 22).body i
section
variable {w:W}
theorem vG {b:Int} (h:b≠0∧b.natAbs<1073741824) (a:Int):cv .FloorDiv (.int a) (.int b)=some (.int (a.fdiv b)):=if_pos h
theorem aas {a:Int} {n:Nat} (h:n≤1000) (aJ:small a=true):cv .Pow (.int a) (ak n)=some (.int (a^n)):=by
 show (if 0≤(n:Int)∧(n:Int)≤1000∧small a then some (I.int (a^(n:Int).toNat)) else none)=_
 rw[if_pos ⟨by exact l1 _,by exact aem rfl rfl h,aJ⟩]
 rfl
theorem Ql (l:List I):gd (ab "sum") [.list l]=(nP l).map .int:=by kernel_rfl
theorem sW {l:List I} {s:Int} (h:nP l=some s):gd (ab "sum") [.list l]=some (.int s):=(Ql l).trans (by rw[h];rfl)
theorem RS (X:I) (L:Nat→List I) (s:Nat→Int) (J: ∀n,n<6→e' X (ak n) .none (.int 6)=some (.list (L n))) (U: ∀n,n<6→nP (L n)=some (s n)) (n:Nat):ex (n+100) cQ (lw 0) [(S "script",.val X)] w=
  some (.next,[(S "script",.val X),(S "drawn",.own [.int ((s 0+1796).fmod 1000000),.int ((s 1+204).fmod 1000000),.int ((s 2+2475).fmod 1000000),.int ((s 3+50734).fmod 1000000),.int ((s 4+160081).fmod 1000000),.int ((s 5+240920).fmod 1000000)])],w):=by
 have Po:e' X (.int 0) .none (.int 6)=some (.list (L 0)):=J 0 (by decide)
 have l8:=sW (U 0 (by decide))
 have a1:e' X (.int 1) .none (.int 6)=some (.list (L 1)):=J 1 (by decide)
 have dz:=sW (U 1 (by decide))
 have a2:e' X (.int 2) .none (.int 6)=some (.list (L 2)):=J 2 (by decide)
 have de:=sW (U 2 (by decide))
 have j4:e' X (.int 3) .none (.int 6)=some (.list (L 3)):=J 3 (by decide)
 have eu:=sW (U 3 (by decide))
 have sP:e' X (.int 4) .none (.int 6)=some (.list (L 4)):=J 4 (by decide)
 have hc:=sW (U 4 (by decide))
 have sQ:e' X (.int 5) .none (.int 6)=some (.list (L 5)):=J 5 (by decide)
 have n6:=sW (U 5 (by decide))
 exact cq [.go,.go,.v ⟨_,_,Po⟩,.v ⟨_,_,l8⟩,.go,.go,.v ⟨_,_,a1⟩,.v ⟨_,_,dz⟩,.go,.go,.v ⟨_,_,a2⟩,.v ⟨_,_,de⟩,.go,.go,.v ⟨_,_,j4⟩,.v ⟨_,_,eu⟩,.go,.go,.v ⟨_,_,sP⟩,.v ⟨_,_,hc⟩,.go,.go,.v ⟨_,_,sQ⟩,.v ⟨_,_,n6⟩,.go,.go]
theorem aa0 (X:I) (ds:List I) (A B C:I) (x0 gp mR uB:Int) (J:(x0.fdiv 1).fmod 17=gp) (U:(x0.fdiv 17).fmod 17=mR) (av:(x0.fdiv 289).fmod 17=uB) (n:Nat):ex (n+100) cQ (lw 1) [(S "script",.val X),(S "drawn",.own (.int x0::ds))] w=
  some (.next,[(S "script",.val X),(S "drawn",.own (.int x0::ds)),(S "ring",.own [.list [.int (gp*1048576),.int (mR*1048576),.int (uB*1048576)]])],w):=by
 have zK:cz (.list (.int x0::ds)) (.int 0)=some (.int x0):=iY (i:=0) rfl (by decide)
 have m0:=mod_eq (by decide) J
 have bT:=mod_eq (by decide) U
 have cG:=mod_eq (by decide) av
 have f0:cv .FloorDiv (.int x0) (.int 1)=some (.int (x0.fdiv 1)):=vG (by decide) _
 have f1:cv .FloorDiv (.int x0) (.int 17)=some (.int (x0.fdiv 17)):=vG (by decide) _
 have f2:cv .FloorDiv (.int x0) (.int 289)=some (.int (x0.fdiv 289)):=vG (by decide) _
 exact cq [.go,.go,.go,.v ⟨_,_,zK⟩,.go,.v ⟨_,_,f0⟩,.v ⟨_,_,m0⟩,.go,.v ⟨_,_,zK⟩,.go,.v ⟨_,_,f1⟩,.v ⟨_,_,bT⟩,.go,.v ⟨_,_,zK⟩,.go,.v ⟨_,_,f2⟩,.v ⟨_,_,cG⟩,.go]
end
theorem SE:Enc cY (fun n=>PyData.int ((n*1048576:Nat):Int)) (fun _=>True) 0 where
 toD _ _:=rfl
 lay _ _:=by rw[xK]
 dep _ _:=by rw[xM];exact a3 _
 eqv x y _ _:=by
  rw[i8,hz]
  simp only[beq_iff_eq,decide_eq_true_eq]
  exact uT.trans (Nat.mul_left_inj (by decide))
noncomputable def cM (l:List Nat):I:= .list (l.map cY)
theorem C2:Enc cM (fun l=> .list (l.map fun n=>PyData.int ((n*1048576:Nat):Int))) (fun l=> ∀x∈l,True) 1:=SE.list
theorem adk (x:List Nat) (R:List (List Nat)):iF (cM x) (.list (R.map cM))=some (decide (x∈R)):=(C2.isIn (by decide) (fun _ _=>trivial) fun _ _ _ _=>trivial).trans (congrArg some (decide_eq_decide.mpr Iff.rfl))
theorem adi (x y:List Nat):eX (cM x) (cM y)=some (decide (x=y)):=C2.eq (by decide) (fun _ _=>trivial) fun _ _=>trivial
theorem adj (x:List Nat) (R:List (List Nat)) (h:R.length≤1000):idxOf (cM x) (R.map cM)=R.findIdx? (fun y=>decide (y=x)):=C2.index (by decide) (fun _ _=>trivial) (fun _ _ _ _=>trivial) (by exact bX h rfl)
theorem uu {α β:Type} (f:α→β) (k:Nat) (a b c:α):turn k (f a) (f b) (f c)=(turn k a b c).map f:=by
 unfold turn
 split<;>rfl
section
variable {w:W}
noncomputable def u9 (X D:Slot) (R:List I) (k:I):ar:=[(S "script",X),(S "drawn",D),(S "ring",.own R),(S "kind",.val k)]
theorem aa2 (X:I) (D qW:List I) (K T0 Tk:I) (b:Bool) (ai:qW.length≤1000) (aB:cz (.list qW) (.int 0)=some T0) (ah: ∀n,cn (n+60) ⟨bw,7,(aq 22).scope⟩ (aq 17) [K,T0] w=some (Tk,w)) (kg:iF Tk (.list qW)=some b) (n:Nat):
  b1 (n+90) cQ (c0 (lw 2)) (u9 (.val X) (.own D) qW K) w=some (.next,u9 (.val X) (.own D) (if b then qW else qW++[Tk]) K,w):=by
 have oD:qW.length≤1048576:=by exact bX ai rfl
 cases b with
 |true=>exact fp [.v ⟨_,_,aB⟩,.c ⟨_,_,(@ah (n+25))⟩,.b ⟨_,_,(p9 kg)⟩]
 |false=>exact fp [.v ⟨_,_,aB⟩,.c ⟨_,_,(@ah (n+25))⟩,.b ⟨_,_,(p9 kg)⟩,.v ⟨_,_,aB⟩,.c ⟨_,_,(@ah (n+24))⟩,.p _ oD]
noncomputable def ko (a b c:Nat) (R:List (List Nat)) (k:Nat):List (List Nat):=if turn k a b c∈R then R else R++[turn k a b c]
noncomputable def h7 (a b c:Nat):List (List Nat):=(bI 5).foldl (ko a b c) [[a,b,c]]
theorem aa3 (a b c:Nat): ∀j,((bI j).foldl (ko a b c) [[a,b,c]]).length≤j+1∧ ∃R,(bI j).foldl (ko a b c) [[a,b,c]]=[a,b,c]::R:=by
 intro bq
 induction bq with
 |zero=>
  exact ⟨a3 _,[],rfl⟩
 |succ j ay=>
  obtain ⟨h,R,e⟩:=ay
  rw[lZ,GK]
  generalize (bI j).foldl (ko a b c) [[a,b,c]]=Q at h e
  subst e
  show (ko a b c ([a,b,c]::R) j).length≤_∧ ∃afN,ko a b c ([a,b,c]::R) j=_
  unfold ko
  split
  ·exact ⟨by exact ph h,R,rfl⟩
  ·exact ⟨by rw[eP,xO];exact uQ h _,R++[turn j a b c],rfl⟩
theorem aa4 (X:I) (D:List I) (a b c:Nat): ∃v,∀n,ex (n+120) cQ (lw 2) [(S "script",.val X),(S "drawn",.own D),(S "ring",.own [cM [a,b,c]])] w=some (.next,u9 (.val X) (.own D) ((h7 a b c).map cM) v,w):=by
 obtain ⟨s,v,J,U⟩:=forR (cx:=cQ) (σ:=[(S "script",.val X),(S "drawn",.own D),(S "ring",.own [cM [a,b,c]])]) (w:=w) (x:=S "kind") (tgt:=hu (lw 2)) (body:=c0 (lw 2)) (K:=5) (s0:=[[a,b,c]]) (c:=90) (N:=100)
  (B:=fun s v=>u9 (.val X) (.own D) (s.map cM) v) (P:=fun j s=>s=(bI j).foldl (ko a b c) [[a,b,c]])
  (by intros;kernel_rfl) (by intros;kernel_rfl) (by intro v;kernel_rfl) rfl (by decide) (by decide)
  (fun j s gy bS=>by
   obtain ⟨ai,R,e⟩:=aa3 a b c j
   rw[←bS] at ai e
   have ah: ∀n,cn (n+60) ⟨bw,7,(aq 22).scope⟩ (aq 17) [ak j,cM [a,b,c]] w=some (cM (turn j a b c),w):=fun n=>by
    have:=FN (k:=j) (by exact iA gy rfl) (n:=n) (d:=6) (sc:=(aq 22).scope) (w:=w) (cY a) (cY b) (cY c)
    rw[uu] at this
    exact this
   refine ⟨ko a b c s j,.next,?_,.inl rfl,fun n=> ?_⟩
   ·rw[lZ,GK,←bS];rfl
   ·have:=aa2 (w:=w) X D (s.map cM) (ak j) (cM [a,b,c]) (cM (turn j a b c)) (decide (turn j a b c∈s)) (by rw[bV];exact aH (aI (bL gy) ai)) (by rw[e];exact iY (i:=0) rfl (by decide)) ah (adk _ _) n
    rw[this]
    unfold ko
    by_cases hm:turn j a b c∈s
    ·rw[if_pos hm,decide_eq_true hm,if_pos rfl]
    ·rw[if_neg hm,decide_eq_false hm,if_neg (by decide),mY];rfl)
 have J:s=h7 a b c:=J
 subst J
 refine ⟨v,fun n=> ?_⟩
 have oX:i4 [.int 5]=some ((bI 5).map ak):=i5 (k:=5) (by decide)
 exact cq [.u ⟨_,_,oX⟩,.f ⟨_,_,(@U (n+19))⟩]
end
structure Ring (R:List (List Nat)) (K:Nat) (et:Nat→Nat→Nat):Prop where
 len:R.length=K
 oM:0<K
 iZ:K≤6
 three: ∀n,n<K→ ∃a b c,R[n]?=some [a,b,c]∧a<17∧b<17∧c<17∧ ∀k,k<6→et k n<K∧R[et k n]?=some (turn k a b c)∧R.findIdx? (fun y=>decide (y=turn k a b c))=some (et k n)
 perm: ∀k,k<6→ ∀q,q<K→b9 (fun n=>if et k n=q then 1 else 0) K=1
noncomputable def xr (l:List (List Nat)) (k n:Nat):Nat:=(l.getD k []).getD n 0
noncomputable def aaZ (R:List (List Nat)) (m K n:Nat) (l:List (List Nat)) (x:List Nat):Bool:=x.length==3&&x.all (fun u=>decide (u<m))&&(bI 6).all fun k=>let t:=turn k (x.getD 0 0) (x.getD 1 0) (x.getD 2 0)
 decide (xr l k n<K)&&R[xr l k n]?==some t&&R.findIdx? (fun y=>decide (y=t))==some (xr l k n)
noncomputable def Ml (x y z m K:Nat) (l:List (List Nat)):Bool:=(h7 x y z).length==K&&(h7 x y z)[0]?==some [x,y,z]&&(bI K).all (fun n=>match (h7 x y z)[n]? with
 |some q=>aaZ (h7 x y z) m K n l q
 |none=>false)&&(bI 6).all fun k=>(bI K).all fun q=>b9 (fun n=>if xr l k n=q then 1 else 0) K==1
section
variable {f:Nat→Nat}
theorem K4 (hf: ∀x y,f x=f y→x=y): ∀{a b:List Nat},a.map f=b.map f→a=b:=by
 intro a
 induction a with
 |nil=>intro b h;cases b with
  |nil=>rfl
  |cons=>exact nomatch h
 |cons x a ay=>intro b h;cases b with
  |nil=>exact nomatch h
  |cons y b=>rw[hf x y (List.head_eq_of_cons_eq h),ay (List.tail_eq_of_cons_eq h)]
theorem aa5 (hf: ∀x y,f x=f y→x=y) (x y z:Nat):h7 (f x) (f y) (f z)=(h7 x y z).map (GL f):=by
 have key: ∀(l:List Nat) (R:List (List Nat)),l.foldl (ko (f x) (f y) (f z)) (R.map (GL f))=(l.foldl (ko x y z) R).map (GL f):=fun l=>by
  induction l with
  |nil=>exact fun R=>rfl
  |cons k l ay=>
   intro R
   refine BD (congrArg (l.foldl _) ?_) (ay (ko x y z R k))
   unfold ko
   rw[uu]
   by_cases h:turn k x y z∈R
   ·rw[if_pos h,if_pos (Oh h)]
   ·rw[if_neg h,if_neg fun h'=>(g0.mp h').elim fun a q=>h (by rw[←K4 hf q.2];exact q.1),mY];rfl
 exact key (bI 5) [[x,y,z]]
theorem aa6 (hf: ∀x y,f x=f y→x=y) {m:Nat} (hm: ∀x,x<m→f x<17) {x y z K:Nat} {l:List (List Nat)} (h0:0<K) (bQ:K≤6) (h:Ml x y z m K l=true): ∃K et,Ring (h7 (f x) (f y) (f z)) K et∧(h7 (f x) (f y) (f z))[0]?=some [f x,f y,f z]:=by
 have J:=g7.mp h
 have U:=g7.mp J.1
 have av:=g7.mp U.1
 rw[aa5 hf]
 refine ⟨K,xr l,⟨(bV _).trans (eq_of_beq av.1),h0,bQ,fun n aT=> ?_,fun k aj q aG=>eq_of_beq (pb.mp (pb.mp J.2 k (kB.mpr aj)) q (kB.mpr aG))⟩,by rw[dF,eq_of_beq av.2];rfl⟩
 have a0:=pb.mp U.2 n (kB.mpr aT)
 clear h J U av
 generalize aG:(h7 x y z)[n]?=q at a0
 match q,a0 with
 |some [u,v,w],a0=>
  have bp:=g7.mp a0
  have aa:=fun i aB=>hm i (of_decide_eq_true (pb.mp (g7.mp bp.1).2 i aB))
  refine ⟨f u,f v,f w,by rw[dF,aG];rfl,aa u (.head _),aa v (.tail _ (.head _)),aa w (.tail _ (.tail _ (.head _))),fun k aj=> ?_⟩
  have bQ:=g7.mp (pb.mp bp.2 k (kB.mpr aj))
  have er:=g7.mp bQ.1
  rw[uu,dF,List.findIdx?_map,eq_of_beq er.2]
  refine ⟨of_decide_eq_true er.1,rfl,(congrArg (List.findIdx? · _) (funext fun s=>decide_eq_decide.mpr ⟨K4 hf,congrArg _⟩)).trans (eq_of_beq bQ.2)⟩
end
noncomputable def ke (l:List Nat) (n:Nat):Nat:=l.getD n (n+17)
theorem Dc {l:List Nat} {n:Nat} (h:n<l.length):ke l n=l[n]:=by unfold ke;rw[iL,hy h];rfl
theorem yM {l:List Nat} {n:Nat} (h: ¬n<l.length):ke l n=n+17:=by unfold ke;rw[iL,qF (xx h)];rfl
theorem xi {l:List Nat} (hd:l.Nodup) (ai: ∀a∈l,a<17) {x y z K:Nat} {t:List (List Nat)} (h0:0<K) (bQ:K≤6) (h:Ml x y z l.length K t=true): ∃K et,Ring (h7 (ke l x) (ke l y) (ke l z)) K et∧(h7 (ke l x) (ke l y) (ke l z))[0]?=some [ke l x,ke l y,ke l z]:=by
 have lt: ∀{n},n<l.length→ke l n<17:=fun h=>by rw[Dc h];exact ai _ (uR h)
 refine aa6 (fun i j e=> ?_) (fun x=>lt) h0 bQ h
 by_cases aB:i<l.length
 ·by_cases aP:j<l.length
  ·rw[Dc aB,Dc aP] at e
   exact (List.getElem_inj hd).mp e
  ·have:=lt aB
   rw[yM aP] at e
   exact f3 (aH (aI (bL aB) (i2 aP))) (fQ (aI (eq1 e) (bL this)))
 ·by_cases aP:j<l.length
  ·have:=lt aP
   rw[yM aB] at e
   exact f3 (fQ (aI (b0 e) (bL this))) (aH (aI (i2 aB) (bL aP)))
  ·rw[yM aB,yM aP] at e
   exact Nat.add_right_cancel e
theorem aa1 {a b c:Nat} (aJ:a<17) (aa:b<17) (ah:c<17): ∃K et,Ring (h7 a b c) K et∧(h7 a b c)[0]?=some [a,b,c]:=by
 by_cases J:a=b
 ·subst J
  by_cases U:a=c
  ·subst U;exact xi (l:=[a]) (x:=0) (y:=0) (z:=0) (K:=1) (t:=[[0],[0],[0],[0],[0],[0]]) (by simp) (by simp[*]) (by decide) (by decide) (by kernel_rfl)
  ·exact xi (l:=[a,c]) (x:=0) (y:=0) (z:=1) (K:=3) (t:=[[1,2,0],[2,1,0],[2,0,1],[1,0,2],[0,2,1],[0,1,2]]) (by simp[*]) (by simp[*]) (by decide) (by decide) (by kernel_rfl)
 ·by_cases U:a=c
  ·subst U;exact xi (l:=[a,b]) (x:=0) (y:=1) (z:=0) (K:=3) (t:=[[1,2,0],[1,0,2],[2,0,1],[0,2,1],[2,1,0],[0,1,2]]) (by simp[*]) (by simp[*]) (by decide) (by decide) (by kernel_rfl)
  ·by_cases av:b=c
   ·subst av;exact xi (l:=[a,b]) (x:=0) (y:=1) (z:=1) (K:=3) (t:=[[1,2,0],[0,2,1],[2,0,1],[2,1,0],[1,0,2],[0,1,2]]) (by simp[*]) (by simp[*]) (by decide) (by decide) (by kernel_rfl)
   ·exact xi (l:=[a,b,c]) (x:=0) (y:=1) (z:=2) (K:=6) (t:=[[1,3,5,0,2,4],[2,4,0,5,1,3],[3,0,4,1,5,2],[4,5,3,2,0,1],[5,2,1,4,3,0],[0,1,2,3,4,5]]) (by simp[*]) (by simp[*]) (by decide) (by decide) (by kernel_rfl)
theorem tZ {i:Nat} (h:i<6):cz (.list [.str (ab "\" "),.str (ab "\\\""),.str (ab " \\"),.str (ab "#\n"),.str (ab "\n\""),.str (ab "\t#")]) (.int (i:Int))=some (.str (eA i)):=by
 rcases nC h with rfl|rfl|rfl|rfl|rfl|rfl<;>kernel_rfl
noncomputable def nm (s k:Nat):Str:=eA ((k+s)%6)
noncomputable def nc (X:I) (D R:List I) (k:I) (N:Slot):ar:=[(S "script",.val X),(S "drawn",.own D),(S "ring",.own R),(S "kind",.val k),(S "names",N)]
section
variable {w:W}
theorem Zd (X:I) (D R:List I) (v:I) (gp:Int) (q:Int) (i:Nat→Nat) (aB: ∀k,k<6→i k<6) (J:cz (.list D) (.int 1)=some (.int gp)) (aG:gp.fdiv 240=q) (aj: ∀k:Nat,k<6→((k:Int)+q).fmod 6=(i k:Int)) (n:Nat):ex (n+120) cQ (lw 3) (u9 (.val X) (.own D) R v) w=
  some (.next,nc X D R v (.own [.str (eA (i 0)),.str (eA (i 1)),.str (eA (i 2)),.str (eA (i 3)),.str (eA (i 4)),.str (eA (i 5))]),w):=by
 have f1:cv .FloorDiv (.int gp) (.int 240)=some (.int q):=(vG (by decide) gp).trans (by rw[aG])
 have oM:cv .Mod (.int (0+q)) (.int 6)=some (.int (i 0)):=mod_eq (by decide) (aj 0 (by decide))
 have nF:=tZ (aB 0 (by decide))
 have bt:cv .Mod (.int (1+q)) (.int 6)=some (.int (i 1)):=mod_eq (by decide) (aj 1 (by decide))
 have dH:=tZ (aB 1 (by decide))
 have bB:cv .Mod (.int (2+q)) (.int 6)=some (.int (i 2)):=mod_eq (by decide) (aj 2 (by decide))
 have i1:=tZ (aB 2 (by decide))
 have c4:cv .Mod (.int (3+q)) (.int 6)=some (.int (i 3)):=mod_eq (by decide) (aj 3 (by decide))
 have tU:=tZ (aB 3 (by decide))
 have d6:cv .Mod (.int (4+q)) (.int 6)=some (.int (i 4)):=mod_eq (by decide) (aj 4 (by decide))
 have qh:=tZ (aB 4 (by decide))
 have wy:cv .Mod (.int (5+q)) (.int 6)=some (.int (i 5)):=mod_eq (by decide) (aj 5 (by decide))
 have Y3:=tZ (aB 5 (by decide))
 have qm:i4 [.int 6]=some [.int 0,.int 1,.int 2,.int 3,.int 4,.int 5]:=by kernel_rfl
 unfold nc
 exact cq [.u ⟨_,_,qm⟩,.go,.go,.v ⟨_,_,J⟩,.v ⟨_,_,f1⟩,.go,.v ⟨_,_,oM⟩,.v ⟨_,_,nF⟩,.v ⟨_,_,J⟩,.v ⟨_,_,f1⟩,.go,.v ⟨_,_,bt⟩,.v ⟨_,_,dH⟩,.v ⟨_,_,J⟩,.v ⟨_,_,f1⟩,.go,.v ⟨_,_,bB⟩,.v ⟨_,_,i1⟩,.v ⟨_,_,J⟩,.v ⟨_,_,f1⟩,.go,.v ⟨_,_,c4⟩,.v ⟨_,_,tU⟩,.v ⟨_,_,J⟩,.v ⟨_,_,f1⟩,.go,.v ⟨_,_,d6⟩,.v ⟨_,_,qh⟩,.v ⟨_,_,J⟩,.v ⟨_,_,f1⟩,.go,.v ⟨_,_,wy⟩,.v ⟨_,_,Y3⟩]
noncomputable def ym (X:I) (D R:List I) (k:I) (N:List I) (rows:I):ar:=nc X D R k (.own N)++[(S "rows",.val rows)]
theorem abj (X:I) (D R N:List I) (v gp mR K rows:I) (J:cz (.list D) (.int 1)=some gp) (U:cz (.list D) (.int 2)=some mR) (av:gd (ab "len") [.list R]=some K)
  (a0: ∀n,cn (n+200) ⟨bw,7,(aq 22).scope⟩ (aq 18) [gp,mR,K] w=some (rows,w)) (n:Nat):ex (n+320) cQ (lw 4) (nc X D R v (.own N)) w=some (.next,ym X D R v N rows,w):=by
 exact cq [.v ⟨_,_,J⟩,.v ⟨_,_,U⟩,.v ⟨_,_,av⟩,.c ⟨_,_,(@a0 (n+117))⟩]
noncomputable def j6 (X:I) (D R:List I) (k:I) (N:List I) (rows cnt:I):ar:=nc X D R k (.own N)++[(S "rows",.val rows),(S "count",.val cnt)]
theorem Rv (X:I) (D R N Ms:List I) (v cnt rows:I) (J:cz rows (.int 0)=some (.list Ms)) (av:gd (ab "len") [.list Ms]=some cnt) (n:Nat):ex (n+80) cQ (lw 5) (ym X D R v N rows) w=some (.next,j6 X D R v N rows cnt,w):=by
 exact cq [.v ⟨_,_,J⟩,.v ⟨_,_,av⟩]
end
noncomputable def te (g:Nat→I):I→I
 | .int i=>g i.toNat
 |p=>p
theorem vF (g:Nat→I) (l:List Nat):(l.map ak).map (te g)=l.map g:=by
 rw[qK];rfl
noncomputable abbrev ot:Scope:=oZ (valueOf (lw 6))
noncomputable abbrev y0:Expr:=mc (valueOf (lw 6))
noncomputable abbrev pS:Scope:=oZ (mc (valueOf (lw 6)))
noncomputable abbrev Dq:Expr:=mc (mc (valueOf (lw 6)))
section
variable {w:W}
theorem Us (X:I) (D R N:List I) (v cnt rows:I) (a k T Tk:I) (t:Nat) (cB:cz (.list R) a=some T) (ah: ∀m,cn (m+60) ⟨bw,7,pS⟩ (aq 17) [k,T] w=some (Tk,w)) (aB:idxOf Tk R=some t) (m:Nat):
  ev (m+90) ⟨bw,7,pS⟩ Dq ((ar.hide ((ar.hide (j6 X D R v N rows cnt) (Scope.dC ot)).set (S "n") (.val a)) (Scope.dC pS)).set (S "kind") (.val k)) w=some (ak t,w):=by
 have hm:methP (ab "index") (.list R) [Tk]=some (ak t):=(lM.2.2.2.2.2 R Tk).trans (by rw[aB];rfl)
 exact qr [.v ⟨_,_,cB⟩,.c ⟨_,_,(@ah (m+26))⟩,.v ⟨_,_,hm⟩]
theorem Ut (X:I) (D R N:List I) (v cnt rows a:I) (row:List Nat) (p5:row.length≤10) (g:Nat→Nat) (tH:cz rows a=some (bJ row)) (kg: ∀k∈row,∀m,ev (m+90) ⟨bw,7,pS⟩ Dq ((ar.hide ((ar.hide (j6 X D R v N rows cnt) (Scope.dC ot)).set (S "n") (.val a)) (Scope.dC pS)).set (S "kind") (.val (ak k))) w=some (ak (g k),w)) (m:Nat):
  ev (m+130) ⟨bw,7,ot⟩ y0 ((ar.hide (j6 X D R v N rows cnt) (Scope.dC ot)).set (S "n") (.val a)) w=some (bJ (row.map g),w):=by
 have dp:=s6 (cx:=⟨bw,7,pS⟩) (σ:=ar.hide ((ar.hide (j6 X D R v N rows cnt) (Scope.dC ot)).set (S "n") (.val a)) (Scope.dC pS)) (w:=w) (x:=S "kind") (tgt:=n' y0) (elt:=Dq) (items:=row.map ak) (f:=te fun k=>ak (g k)) (c:=89) (N:=105)
  (by intros;kernel_rfl) (by rw[bV];exact aH p5) (fun p ag m=>by
   obtain ⟨k,aj,rfl⟩:=g0.mp ag
   exact kg k aj m)
 rw[vF] at dp
 have e:bJ (row.map g)= .list (row.map fun k=>ak (g k)):=by unfold bJ;rw[qK];rfl
 rw[e]
 have ai:(row.map ak).length≤1048576:=by rw[bV];exact bX p5 rfl
 clear kg e
 exact qr [.v ⟨_,_,tH⟩,.p _ ai,.l ⟨_,_,(@dp (m+23))⟩]
noncomputable def u7 (X:I) (D R:List I) (k:I) (N:List I) (rows cnt:I) (G:Slot):ar:=nc X D R k (.own N)++[(S "rows",.val rows),(S "count",.val cnt),(S "goes",G)]
theorem Ur (X:I) (D R N:List I) (v cnt rows:I) (K:Nat) (cj:K≤6) (hlen:gd (ab "len") [.list R]=some (.int (K:Int))) (go:Nat→List Nat)
  (tH: ∀n,n<K→ ∀m,ev (m+130) ⟨bw,7,ot⟩ y0 ((ar.hide (j6 X D R v N rows cnt) (Scope.dC ot)).set (S "n") (.val (ak n))) w=some (bJ (go n),w)) (m:Nat):
  ex (m+200) cQ (lw 6) (j6 X D R v N rows cnt) w=some (.next,u7 X D R v N rows cnt (.own ((bI K).map fun n=>bJ (go n))),w):=by
 have dp:=s6 (cx:=⟨bw,7,ot⟩) (σ:=ar.hide (j6 X D R v N rows cnt) (Scope.dC ot)) (w:=w) (x:=S "n") (tgt:=n' (valueOf (lw 6))) (elt:=y0) (items:=(bI K).map ak) (f:=te fun n=>bJ (go n)) (c:=129) (N:=140)
  (by intros;kernel_rfl) (by rw[bV,fE];exact aH cj) (fun p ag m=>by
   obtain ⟨k,aj,rfl⟩:=g0.mp ag
   exact tH k (kB.mp aj) m)
 rw[vF] at dp
 have a7:=i5 (k:=K) (by exact h6 cj rfl)
 have ai:((bI K).map ak).length≤1048576:=by rw[bV,fE];exact bX cj rfl
 clear tH
 exact cq [.v ⟨_,_,hlen⟩,.u ⟨_,_,a7⟩,.p _ ai,.l ⟨_,_,(@dp (m+57))⟩]
end
noncomputable abbrev xl:bY:=aO (c0 (lw 8)) 0
noncomputable abbrev qs:Scope:=oZ (valueOf xl)
noncomputable abbrev AU:Expr:=mc (valueOf xl)
noncomputable abbrev FF:bY:=aO (c0 (lw 8)) 1
noncomputable abbrev FC:Expr:=match valueOf FF with| .Call _ as _ _=>Tc as 0|e=>e
noncomputable abbrev nQ:Scope:=oZ FC
noncomputable abbrev A':Expr:=mc FC
noncomputable def jB (X:I) (D R:List I) (k:I) (N:List I) (rows cnt:I) (G T:List I) (n:I):Option (List I)→ar
 |none=>nc X D R k (.own N)++[(S "rows",.val rows),(S "count",.val cnt),(S "goes",.own G),(S "texts",.own T),(S "n",.val n)]
 |some St=>nc X D R k (.own N)++[(S "rows",.val rows),(S "count",.val cnt),(S "goes",.own G),(S "texts",.own T),(S "n",.val n),(S "styles",.own St)]
section
variable {w:W}
theorem acK (X:I) (D R N:List I) (v cnt rows:I) (G:List I) (n:Nat):ex (n+60) cQ (lw 7) (u7 X D R v N rows cnt (.own G)) w=some (.next,u7 X D R v N rows cnt (.own G)++[(S "texts",.own [])],w):=by
 exact cq []
theorem acs (X:I) (D R N:List I) (v cnt rows:I) (G T:List I) (o:Option (List I)) (j p:Nat) (x q:Int) (a LR:I) (aP:I.int (3+(j:Int))=a) (J:cz (.list D) a=some (.int x)) (U:cv .Pow (.int 8) (ak p)=some LR) (av:cv .FloorDiv (.int x) LR=some (.int q)) (m:Nat):
  ev (m+60) ⟨bw,7,qs⟩ AU ((ar.hide (jB X D R v N rows cnt G T (ak p) o) (Scope.dC qs)).set (S "j") (.val (.int (j:Int)))) w=some (.int q,w):=by
 subst aP
 cases o<;>exact qr [.go,.v ⟨_,_,J⟩,.v ⟨_,_,U⟩,.v ⟨_,_,av⟩]
theorem acr (X:I) (D R N:List I) (v rows:I) (G T:List I) (o:Option (List I)) (c p:Nat) (ah:c≤3) (st:Nat→Int) (h: ∀j,j<c→ ∀m,ev (m+60) ⟨bw,7,qs⟩ AU ((ar.hide (jB X D R v N rows (ak c) G T (ak p) o) (Scope.dC qs)).set (S "j") (.val (.int (j:Int)))) w=some (.int (st j),w)) (m:Nat):
  ex (m+100) cQ xl (jB X D R v N rows (ak c) G T (ak p) o) w=some (.next,jB X D R v N rows (ak c) G T (ak p) (some ((bI c).map fun j=> .int (st j))),w):=by
 have dp:=s6 (cx:=⟨bw,7,qs⟩) (σ:=ar.hide (jB X D R v N rows (ak c) G T (ak p) o) (Scope.dC qs)) (w:=w) (x:=S "j") (tgt:=n' (valueOf xl)) (elt:=AU) (items:=(bI c).map ak) (f:=te fun j=> .int (st j)) (c:=59) (N:=70)
  (by intros;kernel_rfl) (by rw[bV,fE];exact aH ah) (fun p ag m=>by
   obtain ⟨k,aj,rfl⟩:=g0.mp ag
   exact h k (kB.mp aj) m)
 rw[vF] at dp
 have a7:i4 [ak c]=some ((bI c).map ak):=i5 (k:=c) (by exact h6 ah rfl)
 have ai:((bI c).map ak).length≤1048576:=by rw[bV,fE];exact bX ah rfl
 clear h
 cases o<;>exact cq [.u ⟨_,_,a7⟩,.p _ ai,.l ⟨_,_,(@dp (m+27))⟩]
theorem acJ (X:I) (D R N:List I) (v cnt rows:I) (G T St:List I) (P qS row k Al iH t:I) (b:Bool) (J:cz rows P=some row) (U:cz row qS=some k) (av:cz (.list N) k=some Al) (a0:cz (.list St) qS=some iH) (oL:I) (bp:cv .Add qS (.int 1)=some oL) (bQ:eX oL cnt=some b) (er: ∀m,cn (m+100) ⟨bw,7,nQ⟩ (aq 15) [Al,iH,.bool b] w=some (t,w)) (m:Nat):
  ev (m+130) ⟨bw,7,nQ⟩ A' ((ar.hide (jB X D R v N rows cnt G T P (some St)) (Scope.dC nQ)).set (S "j") (.val qS)) w=some (t,w):=by
 exact qr [.v ⟨_,_,J⟩,.v ⟨_,_,U⟩,.v ⟨_,_,av⟩,.v ⟨_,_,a0⟩,.v ⟨_,_,bp⟩,.b ⟨_,_,bQ⟩,.c ⟨_,_,(@er (m+29))⟩]
theorem acI (X:I) (D R N:List I) (v rows:I) (G T St:List I) (P:I) (c:Nat) (ah:c≤3) (cB:T.length≤1000) (fJ:Nat→I) (h: ∀j,j<c→ ∀m,ev (m+130) ⟨bw,7,nQ⟩ A' ((ar.hide (jB X D R v N rows (ak c) G T P (some St)) (Scope.dC nQ)).set (S "j") (.val (ak j))) w=some (fJ j,w)) (m:Nat):
  ex (m+160) cQ FF (jB X D R v N rows (ak c) G T P (some St)) w=some (.next,jB X D R v N rows (ak c) G (T++[.list ((bI c).map fJ)]) P (some St),w):=by
 have dp:=s6 (cx:=⟨bw,7,nQ⟩) (σ:=ar.hide (jB X D R v N rows (ak c) G T P (some St)) (Scope.dC nQ)) (w:=w) (x:=S "j") (tgt:=n' FC) (elt:=A') (items:=(bI c).map ak) (f:=te fJ) (c:=129) (N:=140)
  (by intros;kernel_rfl) (by rw[bV,fE];exact aH ah) (fun p ag m=>by
   obtain ⟨k,aj,rfl⟩:=g0.mp ag
   exact h k (kB.mp aj) m)
 rw[vF] at dp
 have a7:i4 [ak c]=some ((bI c).map ak):=i5 (k:=c) (by exact h6 ah rfl)
 have ai:((bI c).map ak).length≤1048576:=by rw[bV,fE];exact bX ah rfl
 have DA:T.length≤1048576:=by exact bX cB rfl
 clear h
 exact cq [.u ⟨_,_,a7⟩,.p _ ai,.l ⟨_,_,(@dp (m+16))⟩,.p _ DA]
end
section
variable {w:W}
theorem acL (X:I) (D R N:List I) (v rows:I) (G:List I) (c K:Nat) (ah:c≤3) (cj:K≤6) (gU:0<K) (hlen:gd (ab "len") [.list R]=some (.int (K:Int))) (fJ:Nat→Nat→I) (st:Nat→Nat→Int)
  (aC: ∀p,p<K→ ∀T o j,j<c→ ∀m,ev (m+60) ⟨bw,7,qs⟩ AU ((ar.hide (jB X D R v N rows (ak c) G T (ak p) o) (Scope.dC qs)).set (S "j") (.val (.int (j:Int)))) w=some (.int (st p j),w))
  (aS: ∀p,p<K→ ∀T j,j<c→ ∀m,ev (m+130) ⟨bw,7,nQ⟩ A' ((ar.hide (jB X D R v N rows (ak c) G T (ak p) (some ((bI c).map fun j=> .int (st p j)))) (Scope.dC nQ)).set (S "j") (.val (ak j))) w=some (fJ p j,w)):
  ∃u o,∀n,ex (n+260) cQ (lw 8) (u7 X D R v N rows (ak c) (.own G)++[(S "texts",.own [])]) w=some (.next,jB X D R v N rows (ak c) G ((bI K).map fun p=> .list ((bI c).map (fJ p))) u (some o),w):=by
 have rq:c0 (lw 8)=[xl,FF]:=by kernel_rfl
 obtain ⟨s,u,J,U⟩:=forR (cx:=cQ) (σ:=u7 X D R v N rows (ak c) (.own G)++[(S "texts",.own [])]) (w:=w) (x:=S "n") (tgt:=hu (lw 8)) (body:=c0 (lw 8)) (K:=K) (s0:=([],none)) (c:=200) (N:=220)
  (B:=fun (s:List I×Option (List I)) jo=>jB X D R v N rows (ak c) G s.1 jo s.2) (P:=fun j s=>s.1=((bI j).map fun p=> .list ((bI c).map (fJ p)))∧(j=0∨ ∃o,s.2=some o))
  (by intros;kernel_rfl) (by rintro ⟨T,_|o⟩ u z<;>kernel_rfl) (by intro v;kernel_rfl) (by exact ⟨rfl,.inl rfl⟩) (by exact gU) (by exact aH cj)
  (fun j s gy bS=>by
   obtain ⟨T,o⟩:=s
   have UW:T.length=j:=by have:=congrArg sm bS.1;simpa using this
   have a1:=acr (w:=w) X D R N v rows G T o c j ah (st j) (aC j gy T o)
   have a2:=acI (w:=w) X D R N v rows G T ((bI c).map fun i=> .int (st j i)) (ak j) c ah (by exact aH (aI (aI cj (bL gy)) (b0 UW))) (fJ j) (aS j gy T)
   refine ⟨(T++[.list ((bI c).map (fJ j))],some ((bI c).map fun i=> .int (st j i))),.next,⟨?_,.inr ⟨_,rfl⟩⟩,.inl rfl,fun n=> ?_⟩
   ·show T++_=_
    rw[lZ,mY,←bS.1];rfl
   ·rw[rq,cZ (D:=199) a1 (by decide),cZ (D:=198) a2 (by decide)]
    rw[yK])
 obtain ⟨T,o⟩:=s
 obtain ⟨aF,aE⟩:=J
 rcases aE with aE|⟨cE,aE⟩
 ·exact absurd aE (ju (by assumption))
 ·have aF:T=_:=aF
  have aE:o=_:=aE
  subst aF aE
  refine ⟨u,cE,fun n=> ?_⟩
  have a7:=i5 (k:=K) (by exact h6 cj rfl)
  clear aC aS
  exact cq [.v ⟨_,_,hlen⟩,.u ⟨_,_,a7⟩,.f ⟨_,_,(@U (n+39))⟩]
end
noncomputable def q2 (l:Int):Nat→Int
 |0=>l
 |n+1=>q2 l n+1
theorem Pz (l:Int): ∀n:Nat,q2 l n=l+n:=by
 intro bq
 induction bq with
 |zero=>
  rw[q2];simp
 |succ n ay=>
  rw[q2,ay];lia
noncomputable def Ak (x:Str):Nat:=x.cps.toList.count 10
theorem ac2 {i r q:Nat} (aB:i<6) (a7:r<2) (aG:q<4) (rest:List Nat) (line:Int):(⟨(jU i r q false).cps.toList++rest,line,[]⟩:cf).token=(eA i,⟨rest,q2 line (Ak (jU i r q false)),[]⟩):=by
 refine sX ?_ ?_ ?_ ?_ ?_ ?_ aB<;>refine vf ?_ ?_ a7<;>refine by4 ?_ ?_ ?_ ?_ aG<;>kernel_rfl
theorem ac1 {i r q:Nat} (aB:i<6) (a7:r<2) (aG:q<4) (line:Int):(⟨(jU i r q true).cps.toList,line,[]⟩:cf).token=(eA i,⟨[],q2 line (Ak (jU i r q true)),[]⟩):=by
 refine sX ?_ ?_ ?_ ?_ ?_ ?_ aB<;>refine vf ?_ ?_ a7<;>refine by4 ?_ ?_ ?_ ?_ aG<;>kernel_rfl
theorem ac3 (line:Int):(⟨[],line,[]⟩:cf).token=(S "",⟨[],line,[]⟩):=by kernel_rfl
theorem ad4: ∀i,i<6→ ∀r,r<2→ ∀q,q<4→ ∀b:Bool,(jU i r q b).length≤10∧d8 (jU i r q b)=true:=by decide+kernel
theorem ad7 {i r q:Nat} (aB:i<6) (a7:r<2) (aG:q<4) (b:Bool):(jU i r q b).length≤10∧d8 (jU i r q b)=true:=ad4 i aB r a7 q aG b
theorem MZ: ∀ts:List Str,r' (ts.map .str)=some ts:=by
 intro bq
 induction bq with
 |nil=>
  exact rfl
 |cons x ts ay=>
  rw[fD,r',ay];rfl
noncomputable abbrev mx:Scope:=oZ (valueOf (lw 9))
noncomputable abbrev Em:Expr:=mc (valueOf (lw 9))
noncomputable abbrev En:Expr:=n' (valueOf (lw 9))
noncomputable def cm:Str:=ab ""
noncomputable def hE (X:I) (D R:List I) (k:I) (N:List I) (rows cnt:I) (G T:List I) (n:I) (St:List I) (more:ar):ar:=nc X D R k (.own N)++[(S "rows",.val rows),(S "count",.val cnt),(S "goes",.own G),(S "texts",.own T),(S "n",.val n),(S "styles",.own St)]++more
section
variable (X:I) (D R N:List I) (v cnt rows:I) (G T:List I) (u:I) (St:List I)
theorem XS (ts:List Str) (w:W) (aP:qB cm ts=true) (ai:(gq cm ts).length≤1048576) (aV:d8 (gq cm ts)=true) (n:Nat):
  ev (n+60) ⟨bw,7,mx⟩ Em ((ar.hide (hE X D R v N rows cnt G T u St []) (Scope.dC mx)).set (S "one") (.val (.list (ts.map .str)))) w=some (.obj w.length,w++[⟨(gq cm ts).cps.toList,1,[]⟩]):=by
 have hm:methP (ab "join") (.str (ab "")) [.list (ts.map .str)]=some (.str (gq cm ts)):=(lM.2.2.2.1 _ _).trans (by rw[MZ];exact if_pos aP)
 have U:(gq cm ts).length≤1048576∧d8 (gq cm ts)=true:=⟨ai,aV⟩
 exact qr [.v ⟨_,_,hm⟩,.p _ U]
theorem XR (ts:List (List Str)) (h: ∀t∈ts,qB cm t=true∧(gq cm t).length≤1048576∧d8 (gq cm t)=true):
  ∀(w:W) (n:Nat),gf (n+60+ts.length+1) ⟨bw,7,mx⟩ Em En [] (ts.map fun t=> .list (t.map .str)) (ar.hide (hE X D R v N rows cnt G T u St []) (Scope.dC mx)) w=some ((sD w.length ts.length).map .obj,w++ts.map fun t=>⟨(gq cm t).cps.toList,1,[]⟩):=by
 have ae: ∀jo,gc mx En jo (ar.hide (hE X D R v N rows cnt G T u St []) (Scope.dC mx))=some ((ar.hide (hE X D R v N rows cnt G T u St []) (Scope.dC mx)).set (S "one") (.val jo)):=by intros;kernel_rfl
 have vQ:=XS X D R N v cnt rows G T u St
 generalize ar.hide (hE X D R v N rows cnt G T u St []) (Scope.dC mx)=σ at ae vQ⊢
 induction ts with
 |nil=>intro w n;rw[xT,Rm];simp
 |cons t ts ay=>
  intro w n
  obtain ⟨a,b,c⟩:=h t eZ
  have aF:=vQ t w a b c (n+ts.length+1)
  have aE:=ay (fun x ae=>h x (e0 _ ae)) (w++[⟨(gq cm t).cps.toList,1,[]⟩]) n
  rw[show n+ts.length+1+60=n+60+(t::ts).length by simp;exact fC (sx _ _ _)] at aF
  rw[show n+60+ts.length+1=n+60+(t::ts).length by simp;exact rfl] at aE
  rw[fD,Rl,ae,yo]
  have gg:fY (n+60+(t::ts).length) ⟨bw,7,mx⟩ .And [] (σ.set (S "one") (.val (.list (t.map .str)))) w=some (true,w):=by
   rw[show n+60+(t::ts).length=(n+60+ts.length)+1 by simp;exact rfl]
   rfl
  rw[gg,yo,if_pos rfl,aF,yo,aE,yo]
  simp only[eP,xO,la,Oj,kA,afu,fD,jY,List.singleton_append]
end
section
variable {w w1:W}
theorem XT (X:I) (D R N:List I) (v cnt rows:I) (G T:List I) (u:I) (St L:List I) (cB:T.length≤1000)
  (dp: ∀n,gf (n+100) ⟨bw,7,mx⟩ Em En [] T (ar.hide (hE X D R v N rows cnt G T u St []) (Scope.dC mx)) w=some (L,w1)) (n:Nat):
  ex (n+160) cQ (lw 9) (jB X D R v N rows cnt G T u (some St)) w=some (.next,hE X D R v N rows cnt G T u St [(S "lexers",.own L)],w1):=by
 have DA:T.length≤1048576:=by exact bX cB rfl
 exact cq [.p _ DA,.l ⟨_,_,(@dp (n+57))⟩]
theorem acG (X:I) (D R N:List I) (v cnt rows:I) (G T:List I) (u:I) (St L:List I) (n:Nat):
  ex (n+60) cQ (lw 10) (hE X D R v N rows cnt G T u St [(S "lexers",.own L)]) w=some (.next,hE X D R v N rows cnt G T u St [(S "lexers",.own L),(S "tape",.val (.str (S "a"))),(S "place",.val (.int 0))],w):=by
 exact cq []
end
noncomputable def wK (L:List I) (tape:Str) (pl:I) (t:I):Option (I×I)→ar
 |none=>[(S "lexers",.own L),(S "tape",.val (.str tape)),(S "place",.val pl),(S "_",.val t)]
 |some (a,b)=>[(S "lexers",.own L),(S "tape",.val (.str tape)),(S "place",.val pl),(S "_",.val t),(S "word",.val a),(S "moved",.val b)]
section
variable {w w1:W}
theorem aca (X:I) (D R N:List I) (v cnt rows:I) (G T:List I) (u:I) (St L:List I) (tape:Str) (pl t:I) (o:Option (I×I)) (i:Nat) (l:cf) (word:Str) (dM:cf) (kd T0 Tk:I) (k gA:Nat) (qd:Str)
  (iu:cz (.list L) pl=some (.obj i)) (hw:w[i]?=some l) (aS:l.token=(word,dM)) (wg:w.set i dM=w1) (kg:iF (.str word) (.list N)=some true) (JR:idxOf (.str word) N=some k) (JT:I.int (k:Int)=kd) (mi:cz (.list R) pl=some T0)
  (tA: ∀n,cn (n+300) ⟨bw,7,(aq 22).scope⟩ (aq 16) [kd,T0] w1=some (Tk,w1)) (VY: ∀n,cn (n+60) ⟨bw,7,(aq 22).scope⟩ (aq 17) [kd,T0] w1=some (Tk,w1)) (heq:eX Tk Tk=some true) (ag:idxOf Tk R=some gA) (lK:I) (iX:I.int (gA:Int)=lK) (dd:cz (.str (S "abcdef")) lK=some (.str qd))
  (a1:word.length+qd.length≤1048576) (a2:tape.length+(word++qd).length≤1048576) (n:Nat):
  b1 (n+400) cQ (c0 (lw 11)) (hE X D R v N rows cnt G T u St (wK L tape pl t o)) w=some (.next,hE X D R kd N rows cnt G T u St (wK L (tape++(word++qd)) lK t (some (.str word,Tk))),w1):=by
 have aJ:m' .Add (.str tape) (.str (word++qd))=some (.str (tape++(word++qd))):=if_pos a2
 have aa:cv .Add (.str word) (.str qd)=some (.str (word++qd)):=add_str a1
 have aj:ur i w=some (.str word,w1):=by unfold ur;rw[hw,←wg];show some (I.str l.token.1,w.set i l.token.2)=_;rw[aS]
 have Wa:methP (ab "index") (.list N) [.str word]=some kd:=(lM.2.2.2.2.2 N _).trans (by rw[JR,←JT];rfl)
 have oH:methP (ab "index") (.list R) [Tk]=some lK:=(lM.2.2.2.2.2 R _).trans (by rw[ag,←iX];rfl)
 clear hw aS wg JR JT ag iX
 rcases o with _|⟨a,b⟩<;>exact fp [.v ⟨_,_,iu⟩,.c ⟨_,_,aj⟩,.b ⟨_,_,(p9 kg)⟩,.v ⟨_,_,Wa⟩,.v ⟨_,_,mi⟩,.c ⟨_,_,(@tA (n+93))⟩,.v ⟨_,_,mi⟩,.c ⟨_,_,(@VY (n+330))⟩,.b ⟨_,_,(eq_not heq)⟩,.v ⟨_,_,oH⟩,.v ⟨_,_,dd⟩,.v ⟨_,_,aa⟩,.v ⟨_,_,aJ⟩]
theorem ab9 (X:I) (D R N:List I) (v cnt rows:I) (G T:List I) (u:I) (St L:List I) (tape:Str) (pl t a b:I) (i:Nat) (l:cf) (word:Str) (dM:cf)
  (iu:cz (.list L) pl=some (.obj i)) (hw:w[i]?=some l) (aS:l.token=(word,dM)) (wg:w.set i dM=w1) (kg:iF (.str word) (.list N)=some false) (n:Nat):
  b1 (n+400) cQ (c0 (lw 11)) (hE X D R v N rows cnt G T u St (wK L tape pl t (some (a,b)))) w=some (.brk,hE X D R v N rows cnt G T u St (wK L tape pl t (some (.str word,b))),w1):=by
 have aj:ur i w=some (.str word,w1):=by unfold ur;rw[hw,←wg];show some (I.str l.token.1,w.set i l.token.2)=_;rw[aS]
 clear hw aS wg
 exact fp [.v ⟨_,_,iu⟩,.c ⟨_,_,aj⟩,.b ⟨_,_,(p9 kg)⟩]
end
structure Cfg where
 K:Nat
 c:Nat
 s:Nat
 R:List (List Nat)
 et:Nat→Nat→Nat
 rows:List (List Nat)
 pi:List Nat
 r2:Nat→Nat→Nat
 jO:Nat→Nat→Nat
 ring:Ring R K et
 de:2≤c
 eu:c≤3
 iG:s<6
 aa7:rows.length=K
 perm: ∀r∈rows,r.Perm pi
 aao:pi.Nodup
 AE: ∀k∈pi,k<6
 LX:pi.length=c
 AR: ∀p j,r2 p j<2
 AJ: ∀p j,jO p j<4
namespace Cfg
variable (C:Cfg)
noncomputable def row (p:Nat):List Nat:=C.rows.getD p []
noncomputable def kd (p j:Nat):Nat:=(C.row p).getD j 0
noncomputable def goes:List (List Nat):=(bI C.K).map fun p=>(C.row p).map fun k=>C.et k p
noncomputable def go:Nat→Nat→Nat:=dg C.goes
variable {C}
theorem r1 {p:Nat} (h:p<C.K):C.rows[p]?=some (C.row p)∧C.row p∈C.rows:=by
 have ai:p<C.rows.length:=by rw[C.aa7];exact h
 have e:C.row p=C.rows[p]:=by unfold row;rw[iL,hy ai];rfl
 rw[e]
 exact ⟨hy ai,uR ai⟩
theorem qp {p:Nat} (h:p<C.K):(C.row p).length=C.c:=by rw[(C.perm _ (r1 h).2).length_eq,C.LX]
theorem rL {p j:Nat} (h:p<C.K) (aP:j<C.c):(C.row p)[j]?=some (C.kd p j):=by
 unfold kd
 rw[iL,hy (by rw[qp h];exact aP)];rfl
theorem tO {p j:Nat} (h:p<C.K) (aP:j<C.c):C.kd p j<6:=C.AE _ ((C.perm _ (r1 h).2).mem_iff.mp (iK (rL h aP)))
theorem lz:C.goes.length=C.K:=by unfold goes;rw[bV,fE]
theorem Jk {p:Nat} (h:p<C.K):C.goes[p]?=some ((C.row p).map fun k=>C.et k p):=by
 unfold goes
 rw[dF,jv h];rfl
theorem go_eq {p j:Nat} (h:p<C.K) (aP:j<C.c):C.go p j=C.et (C.kd p j) p:=by
 unfold go dg
 have e:C.goes.getD p []=(C.row p).map fun k=>C.et k p:=by rw[iL,Jk h];rfl
 rw[e,iL,dF,rL h aP];rfl
theorem tb_lt {p k:Nat} (h:p<C.K) (aj:k<6):C.et k p<C.K:=by
 obtain ⟨a,b,c,_,_,_,_,bp⟩:=C.ring.three p h
 exact (bp k aj).1
theorem uk:hZ C.goes C.c where
 pos:=by rw[lz];exact C.ring.oM
 le:=by rw[lz];exact C.ring.iZ
 one:=by have:=C.de;exact xW this
 eu:=C.eu
 row r a7:=by
  obtain ⟨p,ag,rfl⟩:=g0.mp a7
  rw[bV,qp (kB.mp ag)]
 lt r a7 x ae:=by
  obtain ⟨p,ag,rfl⟩:=g0.mp a7
  obtain ⟨k,aj,rfl⟩:=g0.mp ae
  have ag:=kB.mp ag
  rw[lz]
  exact tb_lt ag (C.AE _ ((C.perm _ (r1 ag).2).mem_iff.mp aj))
theorem Rh {f:Nat→Nat} {q:Nat}: ∀(l:List Nat),cnt (fun j=>f (l.getD j 0)) l.length q=l.countP (fun k=>f k==q):=by
 intro l
 have J:(bI l.length).map (fun j=>f (l.getD j 0))=l.map f:=by
  apply uM
  intro i
  rw[dF,dF]
  by_cases aB:i<l.length
  ·rw[jv aB,hy aB,Gk,iL,hy aB];rfl
  ·rw[qF (by rw[fE];exact i2 aB),qF (by exact i2 aB)];rfl
 rw[←CQ,J,List.count_eq_countP,List.countP_map]
 rfl
theorem ada {f:Nat→Nat→Nat} {K:Nat}: ∀(l:List Nat),b9 (fun q=>(l.map fun k=>f k q).sum) K=(l.map fun k=>b9 (f k) K).sum:=by
 intro bq
 induction bq with
 |nil=>
  simp[se]
 |cons k l ay=>
  simp only[fD,xD]
  rw[sd,ay]
theorem Ru {f:Nat→Nat} {q:Nat}: ∀l:List Nat,l.countP (fun k=>f k==q)=(l.map fun k=>if f k=q then 1 else 0).sum:=by
 intro bq
 induction bq with
 |nil=>
  exact rfl
 |cons k l ay=>
  rw[List.countP_cons,ay,fD,xD]
  by_cases h:f k=q
  ·simp[h];exact kz _ _
  ·simp[h]
theorem md:gR C.go C.K C.c where
 pos:=C.ring.oM
 one:=by have:=C.de;exact xW this
 range q j aG aP:=by
  have:=(uk (C:=C)).range (p:=q) (by rw[lz];exact aG) aP
  rw[lz] at this
  exact this
 zL p ag:=by
  have e: ∀q,q<C.K→cnt (C.go q) C.c p=(C.pi.map fun k=>if C.et k q=p then 1 else 0).sum:=fun q aG=>by
   have aF:cnt (C.go q) C.c p=cnt (fun j=>(fun k=>C.et k q) ((C.row q).getD j 0)) (C.row q).length p:=by
    rw[qp aG]
    have: ∀n,n≤C.c→cnt (C.go q) n p=cnt (fun j=>C.et ((C.row q).getD j 0) q) n p:=by
     intro n
     induction n with
     |zero=>intro _;rfl
     |succ n ay=>
      intro aT
      rw[cnt,cnt,ay (by exact i9 aT),go_eq aG (by exact Gg aT)]
      rfl
    exact this _ (a3 _)
   rw[aF,Rh (f:=fun k=>C.et k q),(C.perm _ (r1 aG).2).countP_eq,Ru]
  rw[lR e,ada (f:=fun k q=>if C.et k q=p then 1 else 0)]
  have:(C.pi.map fun k=>b9 (fun q=>if C.et k q=p then 1 else 0) C.K)=C.pi.map fun _=>1:=BG fun k aj=>C.ring.perm k (C.AE k aj) p ag
  rw[this]
  have: ∀l:List Nat,(l.map fun _=>1).sum=l.length:=fun l=>by induction l with
   |nil=>rfl
   |cons a l ay=>rw[fD,xD,ay,la];exact kz _ _
  rw[this,C.LX]
variable (C)
noncomputable def fJ (p j:Nat):Str:=jU ((C.kd p j+C.s)%6) (C.r2 p j) (C.jO p j) (decide (j+1=C.c))
noncomputable def ln (p:Nat):Nat→Int
 |0=>1
 |j+1=>q2 (ln p j) (Ak (C.fJ p j))
noncomputable def nN (p j:Nat):List Nat:=((sD j (C.c-j)).map fun i=>(C.fJ p i).cps.toList).flatten
noncomputable def iz (p j:Nat):cf:=⟨C.nN p j,C.ln p j,[]⟩
noncomputable def word (p j:Nat):Str:=nm C.s (C.kd p j)
variable {C}
theorem ac0 {p j:Nat} (ag:p<C.K) (aP:j<C.c):(C.iz p j).token=(C.word p j,C.iz p (j+1)):=by
 have hm:(C.kd p j+C.s)%6<6:=qN _ (by decide)
 have e:C.nN p j=(C.fJ p j).cps.toList++C.nN p (j+1):=by
  unfold nN
  rw[show C.c-j=(C.c-(j+1))+1 by exact abw aP,afu,fD,afv]
 unfold iz word nm
 rw[e]
 by_cases h:j+1=C.c
 ·have aE:C.nN p (j+1)=[]:=by unfold nN;rw[h,qH];rfl
  have cb:C.fJ p j=jU ((C.kd p j+C.s)%6) (C.r2 p j) (C.jO p j) true:=by unfold fJ;rw[decide_eq_true h]
  rw[aE,fF,ln,cb]
  exact ac1 hm (C.AR p j) (C.AJ p j) _
 ·have cb:C.fJ p j=jU ((C.kd p j+C.s)%6) (C.r2 p j) (C.jO p j) false:=by unfold fJ;rw[decide_eq_false h]
  rw[ln,cb]
  exact ac2 hm (C.AR p j) (C.AJ p j) _ _
theorem ac5 (p:Nat):(C.iz p C.c).token=(S "",C.iz p C.c):=by
 have aE:C.nN p C.c=[]:=by unfold nN;rw[qH];rfl
 unfold iz
 rw[aE]
 exact ac3 _
variable (C)
noncomputable def dN (u:Nat→Nat):W:=(bI C.K).map fun p=>C.iz p (u p)
variable {C}
theorem zW {u:Nat→Nat} {p:Nat} (h:p<C.K):(C.dN u)[p]?=some (C.iz p (u p)):=by
 unfold dN
 rw[dF,jv h];rfl
theorem XQ {u:Nat→Nat} {p:Nat}:(C.dN u).set p (C.iz p (u p+1))=C.dN (bump u p):=by
 apply uM
 intro i
 rw[xH]
 unfold dN
 by_cases h:i<C.K
 ·rw[dF,dF,jv h]
  unfold bump
  by_cases z:p=i
  ·subst z;rw[if_pos rfl];simp[h]
  ·rw[if_neg z];simp[eg z]
 ·have aF:(bI C.K)[i]?=none:=by rw[qF];rw[fE];exact i2 h
  rw[dF,dF,aF]
  by_cases z:p=i
  ·subst z;rw[if_pos rfl];simp;exact i2 h
  ·rw[if_neg z];rfl
theorem XO {u:Nat→Nat} {p:Nat} (h:p<C.K):(C.dN u).set p (C.iz p (u p))=C.dN u:=by
 apply uM
 intro i
 rw[xH]
 by_cases z:p=i
 ·subst z;rw[if_pos rfl,zW h];unfold dN;simp[h]
 ·rw[if_neg z]
noncomputable def dK (s:Nat):List Str:=(bI 6).map fun k=>nm s k
theorem qV: ∀{s:Nat},s<6→(∀x∈dK s,d8 x=true)∧(∀k,k<6→(dK s).findIdx? (fun y=>decide (y=nm s k))=some k)∧S ""∉dK s∧(∀k,k<6→nm s k∈dK s):=by decide+kernel
theorem Lu: ∀k,k<6→((eA k).length=2∧d8 (eA k)=true)∧ ∀ch∈(eA k).cps.toList,ch<97∧ch≠46:=by decide+kernel
theorem nH {s k:Nat}:(nm s k).length=2∧d8 (nm s k)=true:=(Lu _ (qN _ (by decide))).1
theorem Kr {s:Nat} (h:s<6) {x:Str} (ae:d8 x=true):iF (.str x) (.list ((dK s).map .str))=some (decide (x∈dK s)):=(encStr.isIn (by decide) ae (qV h).1).trans (congrArg some (decide_eq_decide.mpr Iff.rfl))
theorem Wv {s k:Nat} (h:s<6) (aj:k<6):idxOf (.str (nm s k)) ((dK s).map .str)=some k:=by
 rw[encStr.index (by decide) nH.2 (qV h).1 (by unfold dK;simp)]
 exact (qV h).2.1 k aj
noncomputable def jl (p:Nat):Str:=⟨#[97+p]⟩
theorem EE {p:Nat} (h:p<6):cz (.str (S "abcdef")) (ak p)=some (.str (jl p)):=by
 rcases nC h with rfl|rfl|rfl|rfl|rfl|rfl<;>kernel_rfl
variable (C)
noncomputable def dE (i:Nat):pC:=mL C.go i
noncomputable def tape:Nat→Str
 |0=>S "a"
 |i+1=>tape i++(C.word (C.dE i).1 ((C.dE i).2 (C.dE i).1)++jl (C.dE (i+1)).1)
variable {C}
theorem mM: ∀i,(C.tape i).length=1+3*i:=by
 intro bq
 induction bq with
 |zero=>
  show (S "a").length=1;decide
 |succ i ay=>
  rw[tape,gQ,gQ,ay]
  have h:(C.word (C.dE i).1 ((C.dE i).2 (C.dE i).1)).length=2:=nH.1
  have U:(jl (C.dE (i+1)).1).length=1:=rfl
  exact f3 (aH (aI (b0 h) (b0 U))) (aH (aI (eq1 h) (eq1 U)))
end Cfg
noncomputable def fT (K:Nat):List I:=(bI K).map .obj
section
variable {C:Cfg}
theorem NO (i:Nat):C.dE (i+1)=(C.go (C.dE i).1 ((C.dE i).2 (C.dE i).1),bump (C.dE i).2 (C.dE i).1):=rfl
theorem Mm {p:Nat} (h:p<C.K): ∃T,C.R[p]?=some T∧cz (.list (C.R.map cM)) (ak p)=some (cM T)∧(∀k,k<6→ ∃a b c,T=[a,b,c]∧a<17∧b<17∧c<17∧idxOf (cM (turn k a b c)) (C.R.map cM)=some (C.et k p)):=by
 obtain ⟨a,b,c,J,U,av,a0,bp⟩:=C.ring.three p h
 refine ⟨_,J,iY (by rw[dF,J];rfl) (by have:=C.ring.iZ;exact aH (aI (bL h) this)),fun k aj=>⟨a,b,c,rfl,U,av,a0,?_⟩⟩
 rw[adj _ _ (by rw[C.ring.len];have:=C.ring.iZ;exact bX this rfl)]
 exact (bp k aj).2.2
noncomputable def jT (C:Cfg) (X:I) (D:List I) (kd rows cnt:I) (G T:List I) (u:I) (St:List I) (tape:Str) (pl t:I) (o:Option (I×I)):ar:=hE X D (C.R.map cM) kd ((Cfg.dK C.s).map .str) rows cnt G T u St (wK (fT C.K) tape pl t o)
theorem adU (X:I) (D:List I) (v rows cnt:I) (G T:List I) (u:I) (St:List I) (t:I) (o:Option (I×I)) (i:Nat) (h:qZ C.go C.K C.c (C.dE i)) (aT: ¬pL C.c (C.dE i)) (aB:i≤100):
  ∃kd a b,∀n,b1 (n+400) cQ (c0 (lw 11)) (jT C X D v rows cnt G T u St (C.tape i) (ak (C.dE i).1) t o) (C.dN (C.dE i).2)=some (.next,jT C X D kd rows cnt G T u St (C.tape (i+1)) (ak (C.dE (i+1)).1) t (some (a,b)),C.dN (C.dE (i+1)).2):=by
 have hw:=(F0 Cfg.md h aT).2
 have ag:=h.lt
 generalize DW:(C.dE i).1=p at hw ag
 generalize p8:(C.dE i).2=ft at hw
 have aj:=Cfg.tO ag hw
 obtain ⟨Tl,a4,bH,gk⟩:=Mm ag
 obtain ⟨a,b,c,rfl,aJ,aa,ah,hP⟩:=gk (C.kd p (ft p)) aj
 have tp:(C.dE (i+1)).1=C.et (C.kd p (ft p)) p:=by rw[NO,DW,p8];exact Cfg.go_eq ag hw
 have dd:=Cfg.tb_lt (C:=C) ag aj
 have zr:=C.ring.iZ
 have hlen:(C.tape i).length=1+3*i:=Cfg.mM i
 have lE:(C.word p (ft p)).length=2:=Cfg.nH.1
 refine ⟨ak (C.kd p (ft p)),.str (C.word p (ft p)),cM (turn (C.kd p (ft p)) a b c),fun n=> ?_⟩
 have aF:C.tape (i+1)=C.tape i++(C.word p (ft p)++Cfg.jl (C.et (C.kd p (ft p)) p)):=by
  rw[Cfg.tape,DW,p8,tp]
 have aE:C.dN (C.dE (i+1)).2=C.dN (bump ft p):=by rw[NO,DW,p8]
 rw[aF,aE,tp]
 unfold jT
 have mv:=fun n=>YS (d:=4) (w:=C.dN (bump ft p)) (sc:=(aq 22).scope) aJ aa ah aj n
 have mN:=fun n=>FN aj (n:=n) (d:=6) (sc:=(aq 22).scope) (w:=C.dN (bump ft p)) (cY a) (cY b) (cY c)
 rw[uu] at mN
 simp only[uu] at mv
 refine aca X D (C.R.map cM) ((Cfg.dK C.s).map .str) v cnt rows G T u St (fT C.K) (C.tape i) (ak p) t o p (C.iz p (ft p)) (C.word p (ft p)) (C.iz p (ft p+1)) (ak (C.kd p (ft p))) (cM [a,b,c]) (cM (turn (C.kd p (ft p)) a b c)) (C.kd p (ft p)) (C.et (C.kd p (ft p)) p) (Cfg.jl (C.et (C.kd p (ft p)) p))
  ?_ (Cfg.zW ag) (Cfg.ac0 ag hw) Cfg.XQ ?_ (Cfg.Wv C.iG aj) rfl bH mv mN ?_ hP _ rfl (Cfg.EE (by exact hA dd zr)) ?_ ?_ n
 ·exact iY (by unfold fT;rw[dF,jv ag];rfl) (by lia)
 ·exact (Cfg.Kr C.iG (x:=C.word p (ft p)) Cfg.nH.2).trans (congrArg some (decide_eq_true ((Cfg.qV C.iG).2.2.2 _ aj)))
 ·rw[adi,decide_eq_true rfl]
 ·rw[lE];show 2+1≤_;decide
 ·rw[gQ,hlen,lE]
  show 1+3*i+(2+1)≤_
  exact aH (lm 3 aB)
theorem adS (X:I) (D:List I) (v rows cnt:I) (G T:List I) (u:I) (St:List I) (t a b:I) (i:Nat) (hd:pL C.c (C.dE i)) (n:Nat):
  b1 (n+400) cQ (c0 (lw 11)) (jT C X D v rows cnt G T u St (C.tape i) (ak (C.dE i).1) t (some (a,b))) (C.dN (C.dE i).2)=some (.brk,jT C X D v rows cnt G T u St (C.tape i) (ak 0) t (some (.str (S ""),b)),C.dN (C.dE i).2):=by
 obtain ⟨J,U⟩:=hd
 have tr:=C.ring.oM
 generalize (C.dE i).2=ft at U
 rw[J]
 unfold jT
 refine ab9 X D (C.R.map cM) ((Cfg.dK C.s).map .str) v cnt rows G T u St (fT C.K) (C.tape i) (ak 0) t a b 0 (C.iz 0 (ft 0)) (S "") (C.iz 0 (ft 0)) ?_ (Cfg.zW tr) ?_ (Cfg.XO tr) ?_ n
 ·exact iY (i:=0) (by unfold fT;rw[dF,jv tr];rfl) (by decide)
 ·rw[U];exact Cfg.ac5 0
 ·exact (Cfg.Kr C.iG (x:=S "") (by decide+kernel)).trans (congrArg some (decide_eq_false (Cfg.qV C.iG).2.2.1))
theorem adT (X:I) (D:List I) (v rows cnt:I) (G T:List I) (u:I) (St:List I):
  ∃t kd z b,nY C.go C.c t∧pL C.c (C.dE t)∧ ∀n,ex (n+500) cQ (lw 11) (hE X D (C.R.map cM) v ((Cfg.dK C.s).map .str) rows cnt G T u St [(S "lexers",.own (fT C.K)),(S "tape",.val (.str (S "a"))),(S "place",.val (.int 0))]) (C.dN fun _=>0)=
   some (.next,jT C X D kd rows cnt G T u St (C.tape t) (ak 0) z (some (.str (S ""),b)),C.dN (C.dE t).2):=by
 have ae: ∀v σ,gc cQ.sc (hu (lw 11)) v σ=some (σ.set (S "_") (.val v)):=by intros;kernel_rfl
 have kf: ∀kd tape pl a b o,(jT C X D kd rows cnt G T u St tape pl a o).set (S "_") (.val b)=jT C X D kd rows cnt G T u St tape pl b o:=by
  intro kd tape pl a b o
  rcases o with _|⟨x,y⟩<;>kernel_rfl
 have h0: ∀b,(hE X D (C.R.map cM) v ((Cfg.dK C.s).map .str) rows cnt G T u St [(S "lexers",.own (fT C.K)),(S "tape",.val (.str (S "a"))),(S "place",.val (.int 0))]).set (S "_") (.val b)=jT C X D v rows cnt G T u St (C.tape 0) (ak (C.dE 0).1) b none:=by
  intro b
  kernel_rfl
 have key:=I8 (cx:=cQ) (tgt:=hu (lw 11)) (body:=c0 (lw 11))
  (Inv:=fun i σ w=>nY C.go C.c i∧w=C.dN (C.dE i).2∧ ∃kd o,(∀b,σ.set (S "_") (.val b)=jT C X D kd rows cnt G T u St (C.tape i) (ak (C.dE i).1) b o)∧(0<i→ ∃x,o=some x))
  (Out:=fun r=>r.1= .next∧ ∃t kd z b,nY C.go C.c t∧pL C.c (C.dE t)∧r.2=(jT C X D kd rows cnt G T u St (C.tape t) (ak 0) z (some (.str (S ""),b)),C.dN (C.dE t).2))
  400 ((bI 19).map ak) 0 (hE X D (C.R.map cM) v ((Cfg.dK C.s).map .str) rows cnt G T u St [(S "lexers",.own (fT C.K)),(S "tape",.val (.str (S "a"))),(S "place",.val (.int 0))]) (C.dN fun _=>0) (by
   intro i q σ w aB hinv
   rw[kA] at hinv
   obtain ⟨g,rfl,kd,o,zJ,aV⟩:=hinv
   have Vh:i<19:=by
    have:=(hW.mp aB).1
    rw[bV,fE] at this;exact this
   by_cases hd:pL C.c (C.dE i)
   ·have Vg:0<i:=by
     rcases Nat.eq_zero_or_pos i with h|h
     ·subst h
      have U:0=C.c:=hd.2
      have:=C.de;exact fQ (aI (eq1 U) this)
     ·exact h
    obtain ⟨⟨a,b⟩,rfl⟩:=aV Vg
    exact ⟨jT C X D kd rows cnt G T u St (C.tape i) (ak (C.dE i).1) q (some (a,b)),_,by rw[ae,zJ],adS X D kd rows cnt G T u St q a b i hd,rfl,i,kd,q,b,g,hd,rfl⟩
   ·obtain ⟨wz,a,b,aC⟩:=adU X D kd rows cnt G T u St q o i (uA Cfg.md i g) hd (by exact bX (fK Vh) rfl)
    refine ⟨jT C X D kd rows cnt G T u St (C.tape i) (ak (C.dE i).1) q o,_,by rw[ae,zJ],aC,?_⟩
    dsimp only
    rw[kA]
    refine ⟨fun j aP=> ?_,rfl,wz,some (a,b),fun y=>kf _ _ _ _ y _,fun _=>⟨_,rfl⟩⟩
    rcases k' (hV aP) with aP|rfl
    ·exact g j aP
    ·exact hd) (by
   intro σ w hinv
   exfalso
   have:=Jl Cfg.md hinv.1
   rw[kA,bV,fE] at this
   have J:=C.ring.iZ
   have U:=C.eu
   have av:C.K*C.c≤6*3:=Nat.mul_le_mul J U
   exact fQ (aI this av)) ⟨fun j aP=>by lia,rfl,v,none,h0,fun h=>absurd h (nT 0)⟩
 obtain ⟨⟨fl,r⟩,J,rfl,t,kd,z,b,g1,g2,rfl⟩:=key
 refine ⟨t,kd,z,b,g1,g2,fun n=> ?_⟩
 have a7:i4 [.int 19]=some ((bI 19).map ak):=i5 (k:=19) (by decide)
 rw[bV,fE] at J
 have U:=fun k=>J (k+0)
 clear ae kf h0
 exact cq [.u ⟨_,_,a7⟩,.f ⟨_,_,(@U (n+79))⟩]
end
end Mine
end
section
open PySem PySem.W PyProof.Rows PySem.Calls PySem.Spec PySem.SeqAt PySem.StrLaws PySem.Builtin.Str
namespace Mine
noncomputable def bu (l:List Nat):Str:=⟨l.toArray⟩
theorem jQ (l:List Nat):(bu l).cps.toList=l:=rfl
theorem fz (l:List Nat):(bu l).length=l.length:=by show l.toArray.size=_;rw[eN]
theorem AV (x:Str):bu x.cps.toList=x:=by unfold bu;rfl
theorem hr (x:Str):x.cps.toList.length=x.length:=by simp[Str.length]
theorem pq {x y:Str} {aB i:Nat}:At x y aB i↔i+y.length≤aB∧(x.cps.toList.drop i).take y.length=y.cps.toList:=by
 unfold At
 rw[subAt_eq,beq_iff_eq]
theorem Ao (x y:Str) (lo aB:Nat):(occurrences x y lo aB 1=[]∧ ∀i,lo≤i→ ¬At x y aB i)∨ ∃a r,occurrences x y lo aB 1=a::r∧lo≤a∧At x y aB a∧ ∀i,lo≤i→i<a→ ¬At x y aB i:=by
 rw[occ_eq]
 rcases occ_first x y aB 1 (a3 _) (sD lo (aB+1-lo)) lo (fun i h=>(GR.mp h).1) with ⟨J,U⟩|⟨pre,a,post,J,U,av,a0⟩
 ·left
  refine ⟨by rw[J],fun i ji e6=> ?_⟩
  have:=e6.1
  exact U i (GR.mpr ⟨ji,by exact aH (aI this (fU (aB+1) (lo)))⟩) e6
 ·right
  have aJ:a∈sD lo (aB+1-lo):=by rw[J];exact List.mem_append_cons_self
  generalize (forIn (m:=Id) (sD lo (aB+1-lo)) ((#[]:Array Nat),lo) (occBody x y aB 1)).run.fst=arr at U
  refine ⟨a,arr.toList.tail,?_,(GR.mp aJ).1,av,fun i ji JP e6=> ?_⟩
  ·rw[←afw] at U
   cases e:arr.toList with
   |nil=>rw[e] at U;cases U
   |cons b r=>rw[e] at U;cases U;rfl
  ·have hm:i∈sD lo (aB+1-lo):=GR.mpr ⟨ji,by have:=e6.1;exact aH (aI this (fU (aB+1) (lo)))⟩
   rw[J] at hm
   rcases uO.mp hm with hm|hm
   ·exact a0 i hm e6
   ·rcases d3.mp hm with rfl|hm
    ·exact fQ (bL JP)
    ·
     have aC:List.Pairwise (·<·) (sD lo (aB+1-lo)):=List.pairwise_lt_range'
     rw[J,List.pairwise_append] at aC
     have:=(List.pairwise_cons.mp aC.2.1).1 i hm
     exact fQ (aI (bL JP) (bL this))
theorem LF {x y:Str} {lo aB:Nat} (h: ∀i,lo≤i→ ¬At x y aB i):occurrences x y lo aB 1=[]:=by
 rcases Ao x y lo aB with ⟨J,_⟩|⟨a,r,_,U,av,_⟩
 ·exact J
 ·exact absurd av (h a U)
theorem LD {x y:Str} {lo aB k:Nat} (aj:lo≤k) (h:At x y aB k) (hf: ∀i,lo≤i→i<k→ ¬At x y aB i): ∃r,occurrences x y lo aB 1=k::r:=by
 rcases Ao x y lo aB with ⟨_,U⟩|⟨a,r,J,U,av,a0⟩
 ·exact absurd h (U k aj)
 ·refine ⟨r,?_⟩
  rw[J]
  congr 1
  rcases afx a k with z|z|z
  ·exact absurd av (hf a U z)
  ·exact z
  ·exact absurd h (a0 k aj z)
theorem ZQ {x:Str} {lo aB:Nat} (h:lo≤aB): ∃r,occurrences x cm lo aB 1=lo::r:=by
 refine LD (a3 _) (pq.mpr ⟨by show lo+0≤aB;exact h,?_⟩) fun i J U=>by lia
 show (x.cps.toList.drop lo).take 0=[]
 rw[List.take_zero]
theorem MU {x y:Str}:jt x y=true↔At x y x.length 0:=by
 unfold jt At
 rw[mW,decide_eq_true_eq]
theorem IJ {x y:Str}:ky x y=true↔y.length≤x.length∧(x.cps.toList.drop (x.length-y.length))=y.cps.toList:=by
 unfold ky
 rw[mW,decide_eq_true_eq,subAt_eq,beq_iff_eq,kA]
 constructor
 ·rintro ⟨J,U⟩
  refine ⟨J,?_⟩
  rw[←U,o']
  rw[jV,hr];exact b0 (OF J)
 ·rintro ⟨J,U⟩
  refine ⟨J,?_⟩
  rw[U,o']
  rw[hr];exact b0 rfl
noncomputable def dS:List Nat:=[46,46,46]
noncomputable def c':List (List Nat)→List Nat
 |[]=>[]
 |[p]=>p
 |p::q::r=>p++(dS++c' (q::r))
noncomputable def fP:Str:=S "..."
theorem ma:fP.cps.toList=dS∧fP.length=3:=by decide+kernel
theorem HM {x y:Str} {aB k c:Nat} {r:List Nat} (bl:y.cps.toList=c::r) (h:At x y aB k):x.cps.toList[k]?=some c:=by
 have h:=(pq.mp h).2
 have ai:0<y.length:=by rw[←hr,bl];simp
 rw[bl] at h
 have e:x.cps.toList[k]?=(x.cps.toList.drop k)[0]?:=by rw[afy];rfl
 rw[e]
 have aE:((x.cps.toList.drop k).take y.length)[0]?=(x.cps.toList.drop k)[0]?:=by rw[afz ai]
 rw[←aE,h]
 rfl
theorem Lv {pre p suf:List Nat} (ag:46∉p) {aB k:Nat} (J:pre.length≤k) (U:k<pre.length+p.length): ¬At (bu (pre++(p++suf))) fP aB k:=by
 intro h
 have h:=HM (c:=46) (r:=[46,46]) (ma.1) h
 rw[jQ,qG J,qO (by exact afs J U)] at h
 exact ag (iK h)
theorem HL {pre p suf:List Nat}:At (bu (pre++(p++(dS++suf)))) fP (bu (pre++(p++(dS++suf)))).length (pre.length+p.length):=by
 rw[pq,ma.1,ma.2,jQ,fz]
 have e:pre++(p++(dS++suf))=(pre++p)++(dS++suf):=by rw[jY]
 have ai:(pre++p).length=pre.length+p.length:=eP
 constructor
 ·rw[e,eP,eP,eP]
  show _+_+3≤_+_+(3+_)
  exact u4 (b0 rfl) (g4 _ _)
 ·rw[e,←ai,xY]
  rfl
theorem aab: ∀(ps:List (List Nat)),ps≠[]→(∀p∈ps,46∉p)→ ∀(pre:List Nat) (vp:List Nat) (f:Nat),ChainG (bu (pre++c' ps)) fP (bu (pre++c' ps)).length pre.length vp f→(∀k,f≤k→ ¬At (bu (pre++c' ps)) fP (bu (pre++c' ps)).length k)→partsFrom (bu (pre++c' ps)) 3 pre.length vp=ps.map bu:=by
 intro ps
 induction ps with
 |nil=>intro h _ _ _ _ _ _;exact absurd rfl h
 |cons p ps ay=>
  intro _ ag pre vp f ah hf
  cases ps with
  |nil=>
   have v3: ∀k,pre.length≤k→ ¬At (bu (pre++c' [p])) fP (bu (pre++c' [p])).length k:=by
    intro k aj e6
    have e:pre++c' [p]=pre++(p++[]):=by rw[fF];rfl
    have aa:=e6.1
    rw[ma.2,fz,eP] at aa
    rw[e] at e6
    exact Lv (ag p eZ) aj (by show k<pre.length+(c' [p]).length;exact aew aa) e6
   cases vp with
   |nil=>
    show [strSub (bu (pre++p)) pre.length (bu (pre++p)).length]=[bu p]
    congr 1
    apply B0
    apply xG.mp
    rw[strSub_toList,jQ,fz,xY,eP,afA,xE]
    rfl
   |cons c r=>exact absurd ah.2.1 (v3 c ah.1)
  |cons q r=>
   have e:pre++c' (p::q::r)=pre++(p++(dS++c' (q::r))):=rfl
   have v3: ∀k,pre.length≤k→k<pre.length+p.length→ ¬At (bu (pre++c' (p::q::r))) fP (bu (pre++c' (p::q::r))).length k:=by
    intro k aj kh
    rw[e]
    exact Lv (ag p eZ) aj kh
   have pV:At (bu (pre++c' (p::q::r))) fP (bu (pre++c' (p::q::r))).length (pre.length+p.length):=by rw[e];exact HL
   cases vp with
   |nil=>
    have DJ:f=pre.length:=ah
    exact absurd pV (hf _ (by exact mz DJ (g4 _ _)))
   |cons c cs=>
    obtain ⟨dz,de,eu,hc⟩:=ah
    have vP:c=pre.length+p.length:=by
     rcases afx c (pre.length+p.length) with z|z|z
     ·exact absurd de (v3 c dz z)
     ·exact z
     ·exact absurd pV (eu _ (by exact g4 _ _) z)
    subst vP
    have aE:pre++c' (p::q::r)=(pre++p++dS)++c' (q::r):=by rw[e];simp only[jY]
    have ai:pre.length+p.length+fP.length=(pre++p++dS).length:=by
     rw[ma.2,eP,eP];rfl
    show strSub _ pre.length (pre.length+p.length)::partsFrom _ 3 (pre.length+p.length+3) cs=_
    have vW:pre.length+p.length+3=(pre++p++dS).length:=by rw[←ai,ma.2]
    rw[ai] at hc
    have ay:=ay (by exact afk _ _) (fun x ae=>ag x (e0 _ ae)) (pre++p++dS) cs f (by rw[←aE];exact hc) (by rw[←aE];exact hf)
    rw[vW,fD]
    congr 1
    ·apply B0
     apply xG.mp
     rw[strSub_toList,jQ,e,xY,afA,GS]
     rfl
    ·rw[←aE] at ay;exact ay
theorem Nr {α:Type} {l:List α} (h:2≤l.length): ∃p q r,l=p::q::r:=by
 cases l with
 |nil=>exact absurd h (Nat.not_succ_le_zero 1)
 |cons p l=>
  cases l with
  |nil=>exact absurd h (show¬2≤1 by decide)
  |cons q r=>exact ⟨p,q,r,rfl⟩
theorem ab5 {ps:List (List Nat)} (U:2≤ps.length) (ag: ∀p∈ps,46∉p):qC (bu (c' ps)) fP=ps.map bu∧(partsBetween (bu (c' ps)) (occurrences (bu (c' ps)) fP 0 (bu (c' ps)).length ((bu (c' ps)).length+1)) fP.length).length=ps.length∧iF (.str fP) (.str (bu (c' ps)))=some true:=by
 obtain ⟨f,ah,hf⟩:=occ_tight (bu (c' ps)) fP (by rw[ma.2];decide)
 have eJ:ps≠[]:=by intro z;rw[z] at U;simp at U
 have key:=aab ps eJ ag [] _ f (by simpa using ah) (by simpa using hf)
 have zR:partsBetween (bu (c' ps)) (occurrences (bu (c' ps)) fP 0 (bu (c' ps)).length ((bu (c' ps)).length+1)) fP.length=ps.map bu:=by
  rw[partsBetween_eq,ma.2]
  simpa using key
 have hlen:3≤(bu (c' ps)).length:=by
  obtain ⟨p,q,r,rfl⟩:=Nr U
  rw[fz]
  show 3≤(p++(dS++c' (q::r))).length
  rw[eP,eP]
  show 3≤_+(3+_)
  simp+arith only
 have VC:(occurrences (bu (c' ps)) fP 0 (bu (c' ps)).length ((bu (c' ps)).length+1)).isEmpty=false:=by
  cases aV:occurrences (bu (c' ps)) fP 0 (bu (c' ps)).length ((bu (c' ps)).length+1) with
  |nil=>
   rw[aV] at zR
   have:=congrArg sm zR
   rw[bV] at this
   have J:(partsBetween (bu (c' ps)) [] fP.length).length=1:=by rw[partsBetween_eq];rfl
   lia
  |cons a r=>rfl
 refine ⟨?_,by rw[zR,bV],?_⟩
 ·unfold qC
  have av:(decide ((bu (c' ps)).length<fP.length)||decide (GU (bu (c' ps))<GU fP))=false:=by
   rw[Bv]
   refine ⟨decide_eq_false (by rw[ma.2];exact GV hlen),decide_eq_false ?_⟩
   have:GU fP=1:=by decide+kernel
   rw[this]
   unfold GU
   split
   ·exact nT _
   ·split<;>(first|exact Nat.not_succ_lt_self|exact GV (ib _ _))
  rw[av,VC,if_neg (by decide),if_neg (by decide)]
  exact zR
 ·show some (!(occurrences (bu (c' ps)) fP 0 (bu (c' ps)).length 1).isEmpty)=some true
  congr 1
  rw[found_iff]
  obtain ⟨p,q,r,rfl⟩:=Nr U
  exact ⟨_,HL (pre:=[]) (p:=p) (suf:=c' (q::r))⟩
theorem vt (x:Str) (e s:Nat):d4 x e s []=true:=by rw[d4]
theorem tb (x:Str) {e s:Nat} (h:s≤e) (ws:List Str):d4 x e s (cm::ws)=d4 x e s ws:=by
 obtain ⟨r,a7⟩:=ZQ (x:=x) h
 rw[d4,a7]
 rfl
theorem IE {x y:Str} {e s:Nat} (h: ∀i,s≤i→ ¬At x y e i) (ws:List Str):d4 x e s (y::ws)=false:=by
 rw[d4,LF h]
theorem ID {x y:Str} {e s k:Nat} (aj:s≤k) (h:At x y e k) (hf: ∀i,s≤i→i<k→ ¬At x y e i) (ws:List Str):d4 x e s (y::ws)=d4 x e (k+y.length) ws:=by
 obtain ⟨r,a7⟩:=LD aj h hf
 rw[d4,a7]
theorem IF {x y:Str} {e s:Nat}:d4 x e s [y]=true↔ ∃i,s≤i∧At x y e i:=by
 rcases Ao x y s e with ⟨J,U⟩|⟨a,r,J,U,av,_⟩
 ·rw[d4,J]
  constructor
  ·intro z;cases z
  ·rintro ⟨i,aB,e6⟩;exact absurd e6 (U i aB)
 ·rw[d4,J]
  exact ⟨fun _=>⟨a,U,av⟩,fun _=>vt _ _ _⟩
theorem rg (x w:Str) (r:List Str):C1 x (w::r)=if w.length=0 then some (w::r,0) else if jt x w then some (r,w.length) else none:=rfl
theorem qt:cm.length=0:=by decide
section
variable {x:Str}
theorem Sx {p:Str} (ag:p.length≠0):eU [cm,p,cm] x=true↔ ∃i,At x p x.length i:=by
 have e:eU [cm,p,cm] x=d4 x x.length 0 [cm,p,cm]:=by
  unfold eU
  rw[rg,if_pos qt]
  show (match iS x [cm,p,cm] with|none=>false|some (fb,e)=>if e<0 then false else d4 x e 0 fb)=_
  unfold iS
  rw[show [cm,p,cm].getLastD (S "")=cm from rfl,if_pos qt]
  rfl
 rw[e,tb _ (e3 _)]
 rcases Ao x p 0 x.length with ⟨J,U⟩|⟨a,r,J,U,av,a0⟩
 ·rw[IE U]
  constructor
  ·intro z;cases z
  ·rintro ⟨i,e6⟩;exact absurd e6 (U i (e3 _))
 ·rw[ID U av a0,tb _ av.1,vt]
  exact ⟨fun _=>⟨a,av⟩,fun _=>rfl⟩
theorem Sr {f p b:Str} (ag:p.length≠0) (aa:b.length≠0) (hf:jt x f=true) (he:ky x b=true) (hle:f.length≤x.length-b.length):eU [f,p,b] x=true↔ ∃i,f.length≤i∧At x p (x.length-b.length) i:=by
 by_cases h:f.length=0
 ·have e:eU [f,p,b] x=d4 x (x.length-b.length) 0 [f,p]:=by
   unfold eU
   rw[rg,if_pos h]
   show (match iS x [f,p,b] with|none=>false|some (fb,e)=>if e<0 then false else d4 x e 0 fb)=_
   unfold iS
   rw[show [f,p,b].getLastD (S "")=b from rfl,if_neg aa,he]
   rfl
  have DJ:f=cm:=by
   have U:f.cps.toList=[]:=afc (by rw[hr];exact h)
   apply B0
   apply xG.mp
   rw[U];rfl
  rw[e,DJ,tb _ (e3 _),IF,qt]
 ·have e:eU [f,p,b] x=d4 x (x.length-b.length) f.length [p]:=by
   unfold eU
   rw[rg,if_neg h,hf,if_pos rfl]
   show (match iS x [p,b] with|none=>false|some (fb,e)=>if e<f.length then false else d4 x e f.length fb)=_
   unfold iS
   rw[show [p,b].getLastD (S "")=b from rfl,if_neg aa,he]
   show (if x.length-b.length<f.length then false else d4 x (x.length-b.length) f.length [p])=_
   rw[if_neg (by exact GV hle)]
  rw[e,IF]
theorem SD {f b:Str} (Va:f.length≠0) (aa:b.length≠0) (hf:jt x f=true) (he:ky x b=true):eU [f,b] x=decide (f.length≤x.length-b.length):=by
 unfold eU
 rw[rg,if_neg Va,hf,if_pos rfl]
 show (match iS x [b] with|none=>false|some (fb,e)=>if e<f.length then false else d4 x e f.length fb)=_
 unfold iS
 rw[show [b].getLastD (S "")=b from rfl,if_neg aa,he]
 show (if x.length-b.length<f.length then false else d4 x (x.length-b.length) f.length [])=_
 by_cases h:x.length-b.length<f.length
 ·rw[if_pos h,decide_eq_false (by exact OL h)]
 ·rw[if_neg h,decide_eq_true (by exact i2 h),vt]
theorem Su {s:Str} (h0:s.length≠0):eU [s,cm] x=jt x s:=by
 unfold eU
 rw[rg,if_neg h0]
 cases h:jt x s with
 |false=>rfl
 |true=>
  rw[if_pos rfl]
  show (match iS x [cm] with|none=>false|some (fb,e)=>if e<s.length then false else d4 x e s.length fb)=_
  unfold iS
  rw[show [cm].getLastD (S "")=cm from rfl,if_pos qt]
  have:=MW h
  show (if x.length<s.length then false else d4 x x.length s.length [cm])=_
  rw[if_neg (by exact GV this),tb _ this,vt]
theorem Ss {s:Str} (h0:s.length≠0):eU [cm,s] x=ky x s:=by
 unfold eU
 rw[rg,if_pos qt]
 show (match iS x [cm,s] with|none=>false|some (fb,e)=>if e<0 then false else d4 x e 0 fb)=_
 unfold iS
 rw[show [cm,s].getLastD (S "")=s from rfl,if_neg h0]
 cases h:ky x s with
 |false=>rfl
 |true=>
  show (if x.length-s.length<0 then false else d4 x (x.length-s.length) 0 [cm])=_
  rw[if_neg (by exact GH _),tb _ (e3 _),vt]
theorem SA {s b:Str} {k:Nat} (aj:At x s x.length k) (hf: ∀i,i<k→ ¬At x s x.length i) (aT: ∀i,k+s.length≤i→ ¬At x b x.length i):eU [cm,s,b,cm] x=false:=by
 have e:eU [cm,s,b,cm] x=d4 x x.length 0 [cm,s,b,cm]:=by
  unfold eU
  rw[rg,if_pos qt]
  show (match iS x [cm,s,b,cm] with|none=>false|some (fb,e)=>if e<0 then false else d4 x e 0 fb)=_
  unfold iS
  rw[show [cm,s,b,cm].getLastD (S "")=cm from rfl,if_pos qt]
  rfl
 rw[e,tb _ (e3 _),ID (e3 _) aj fun i _ h=>hf i h,IE aT]
end
namespace Cfg
section
variable (C:Cfg)
noncomputable def ps (i:Nat):Nat:=(C.dE i).1
noncomputable def us (i:Nat):Nat→Nat:=(C.dE i).2
noncomputable def du (i:Nat):List Nat:=(C.tape i).cps.toList
noncomputable def aL (i:Nat):List Nat:=(C.word (C.ps i) (C.us i (C.ps i))).cps.toList
noncomputable def r0:Nat→List Nat
 |0=>[]
 |i+1=>C.du i++C.aL i
end
variable {C:Cfg}
theorem yb (i:Nat):C.du (i+1)=C.du i++(C.aL i++[97+C.ps (i+1)]):=by
 unfold du
 rw[tape,GW,GX,GW,GX]
 rfl
theorem Ck: ∀i,C.du i=C.r0 i++[97+C.ps i]
 |0=>rfl
 |i+1=>by rw[yb,r0,jY]
theorem q0 (i:Nat):(C.aL i).length=2:=by
 unfold aL
 rw[hr]
 exact nH.1
theorem l5 (i:Nat):(C.du i).length=1+3*i:=by
 unfold du
 rw[hr,mM]
theorem w8 (i:Nat):(C.r0 i).length=3*i:=by
 have:=congrArg sm (Ck (C:=C) i)
 rw[l5,eP] at this
 simp at this
 exact f3 (aH (eq1 this)) (aH (b0 this))
theorem Hp {i t:Nat} (h:i≤t): ∃suf,C.du t=C.du i++suf:=by
 induction t with
 |zero=>obtain rfl:=su.mp h;exact ⟨[],(fF _).symm⟩
 |succ t ay=>
  rcases k' h with h|rfl
  ·obtain ⟨suf,e⟩:=ay (hV h)
   exact ⟨suf++(C.aL t++[97+C.ps (t+1)]),by rw[yb,e,jY]⟩
  ·exact ⟨[],(fF _).symm⟩
theorem Ci {i t:Nat} (h:i<t): ∃suf,C.du t=C.r0 i++((97+C.ps i)::(C.aL i++suf)):=by
 obtain ⟨suf,e⟩:=Hp (C:=C) (show i+1≤t from h)
 refine ⟨[97+C.ps (i+1)]++suf,?_⟩
 rw[e,yb,Ck]
 simp only[jY,List.cons_append,BK]
theorem Pm {i t:Nat} (h:i≤t):(C.du t)[3*i]?=some (97+C.ps i):=by
 obtain ⟨suf,e⟩:=Hp (C:=C) h
 rw[e,Ck,jY,qG (by rw[w8];exact b0 rfl),w8,qH]
 rfl
theorem Lm {s k:Nat}: ∀ch∈(nm s k).cps.toList,ch<97∧ch≠46:=(Lu _ (qN _ (by decide))).2
theorem YK {i k:Nat} (J: ¬k<1+3*i) (U:k-(1+3*i)<2) (z:k%3=0):False:=by
 have e:=uS (xx J)
 generalize k-(1+3*i)=d at e U
 rw[←e,kz 1,uX,GY,GP (Nat.add_lt_add_left U 1)] at z
 exact sq d ((kz d 1).trans z)
theorem YL {i k:Nat} (J: ¬k<1+3*i) (U: ¬k-(1+3*i)<2) (av:k-(1+3*i)-2=0):k%3=0:=by
 have e:=uS (xx J)
 rw[f3 (Nat.sub_eq_zero_iff_le.mp av) (xx U)] at e
 rw[←e,kz 1,uX,GY]
theorem ya: ∀i k ch,(∀j,j≤i→C.ps j<6)→(C.du i)[k]?=some ch→ch<128∧ch≠46∧(k%3=0→97≤ch∧ch<103)∧(k%3≠0→ch<97):=by
 intro bq
 induction bq with
 |zero=>
  intro k ch ag h
  have e:C.du 0=[97]:=rfl
  rw[e] at h
  cases k with
  |zero=>cases h;decide
  |succ k=>simp at h
 |succ i ay=>
  intro k ch ag h
  rw[yb] at h
  by_cases J:k<(C.du i).length
  ·rw[qO J] at h
   exact ay k ch (fun j aP=>ag j (by exact ph aP)) h
  ·rw[qG (by exact i2 J),l5] at h
   rw[l5] at J
   by_cases U:k-(1+3*i)<(C.aL i).length
   ·rw[qO U] at h
    rw[q0] at U
    have:=Lm ch (iK h)
    exact ⟨by exact aH (bL this.1),this.2,fun z=>(YK J U z).elim,fun _=>this.1⟩
   ·rw[qG (by exact i2 U),q0] at h
    rw[q0] at U
    have ai:k-(1+3*i)-2=0:=by
     have:=(hW.mp h).1
     simp at this
     exact this
    rw[ai] at h
    cases h
    have:=ag (i+1) (a3 _)
    exact ⟨by exact aH (bL this),by exact ju (by simp+arith only),fun _=>⟨by exact g4 _ _,by exact OS this⟩,fun z=>absurd (YL J U ai) z⟩
structure b3 (C:Cfg) (t:Nat):Prop where
 y6:nY C.go C.c t
 done:pL C.c (C.dE t)
section
variable {t:Nat}
theorem b3.inv (h:b3 C t) {i:Nat} (aB:i≤t):qZ C.go C.K C.c (C.dE i):=uA md i fun j aP=>h.y6 j (by exact hA aP aB)
theorem b3.lt (h:b3 C t) {i:Nat} (aB:i≤t):C.ps i<C.K:=(h.inv aB).lt
theorem b3.nC (h:b3 C t) {i:Nat} (aB:i≤t):C.ps i<6:=hA (h.lt aB) C.ring.iZ
theorem b3.step (h:b3 C t) {i:Nat} (aB:i<t):C.us i (C.ps i)<C.c∧C.us (i+1)=bump (C.us i) (C.ps i):=⟨(F0 md (h.inv (fK aB)) (h.y6 i aB)).2,rfl⟩
theorem b3.le (h:b3 C t) {i:Nat} (aB:i≤t) {q:Nat} (aG:q<C.K):C.us i q≤C.c:=(h.inv aB).reach.my md (h.inv aB).le q aG
theorem NF {i j:Nat} (h:i≤j) (q:Nat):C.us i q≤C.us j q:=by
 induction j with
 |zero=>obtain rfl:=su.mp h;exact a3 _
 |succ j ay=>
  rcases k' h with h|rfl
  ·refine c5 (ay (hV h)) ?_
   show C.us j q≤bump (C.us j) (C.ps j) q
   unfold bump
   split<;>(first|exact g4 _ _|exact b0 rfl)
  ·exact a3 _
theorem NG (q j:Nat) (a:Nat): ∀b,a≤b→((∃i,a≤i∧i<b∧C.ps i=q∧C.us i q=j)↔C.us a q≤j∧j<C.us b q):=by
 intro bq
 induction bq with
 |zero=>
  intro h
  obtain rfl:=su.mp h
  constructor
  ·rintro ⟨i,_,U,_⟩;exact ⟨fQ (bL U),fQ (bL U)⟩
  ·intro h;omega
 |succ b ay=>
  intro h
  rcases k' h with h|rfl
  ·have ay:=ay (hV h)
   have e:C.us (b+1) q=if q=C.ps b then C.us b q+1 else C.us b q:=rfl
   have hm:=NF (C:=C) (hV h) q
   constructor
   ·rintro ⟨i,J,U,av,a0⟩
    rcases k' (hV U) with U|rfl
    ·obtain ⟨g1,g2⟩:=ay.mp ⟨i,J,U,av,a0⟩
     exact ⟨g1,by rw[e];split<;>(first|exact OW _ g2|exact g2)⟩
    ·rw[e,if_pos av.symm]
     exact ⟨by exact le_of_le_of_eq hm a0,by exact aH (eq1 a0)⟩
   ·rintro ⟨g1,g2⟩
    by_cases aa:j<C.us b q
    ·obtain ⟨i,J,U,av⟩:=ay.mpr ⟨g1,aa⟩
     exact ⟨i,J,by exact OW _ U,av⟩
    ·rw[e] at g2
     split at g2
     ·rename_i aG;exact ⟨b,hV h,gF _,aG.symm,by exact fC (ae5 g2 aa)⟩
     ·omega
  ·constructor
   ·rintro ⟨i,J,U,_⟩;exact ⟨fQ (aI J (bL U)),fQ (aI J (bL U))⟩
   ·intro h;omega
end
end Cfg
theorem aaf {p:Nat→Bool}: ∀{n m i:Nat},((bI n).filter p)[m]?=some i→i<n∧p i=true∧((bI i).filter p).length=m:=by
 intro bq
 induction bq with
 |zero=>
  intro m i h
  simp at h
 |succ n ay=>
  intro m i h
  rw[lZ,uV] at h
  by_cases hm:m<((bI n).filter p).length
  ·rw[qO hm] at h
   obtain ⟨a,b,c⟩:=ay h
   exact ⟨by exact OW _ a,b,c⟩
  ·rw[qG (by exact i2 hm)] at h
   cases ag:p n with
   |false=>rw[lX,ag] at h;simp at h
   |true=>
    rw[lX,ag,if_pos rfl,afC] at h
    have ai:=(hW.mp h).1
    have ai:m-((bI n).filter p).length=0:=by
     simp at ai;exact ai
    rw[ai] at h
    cases h
    exact ⟨by exact OE _,ag,by exact f3 (aH (i2 hm)) (aH (aI (b0 ai) (fU (m) ((GI p (bI n)).length))))⟩
theorem aae {p:Nat→Bool} {n i:Nat} (aB:i<n) (ag:p i=true):((bI n).filter p)[((bI i).filter p).length]?=some i:=by
 induction n with
 |zero=>lia
 |succ n ay=>
  rw[lZ,uV]
  rcases k' (hV aB) with h|rfl
  ·have:=ay h
   rw[qO (hW.mp this).1]
   exact this
  ·rw[qG (a3 _),qH,lX,ag,if_pos rfl]
   rfl
namespace Cfg
section
variable (C:Cfg)
noncomputable def uz (t:Nat):List Nat:=(bI (t+1)).filter fun i=>decide (C.ps i=0)
noncomputable def H (t m:Nat):Nat:=(C.uz t).getD m 0
end
variable {C:Cfg} {t:Nat}
theorem FW: ∀i,((bI i).filter fun i=>decide (C.ps i=0)).length=C.us i 0:=by
 intro bq
 induction bq with
 |zero=>
  exact rfl
 |succ i ay=>
  rw[lZ,uV,eP,ay,lX]
  have e:C.us (i+1) 0=if 0=C.ps i then C.us i 0+1 else C.us i 0:=rfl
  rw[e]
  by_cases h:C.ps i=0
  ·rw[decide_eq_true h,if_pos rfl,if_pos h.symm];rfl
  ·rw[decide_eq_false h,if_neg (by decide),if_neg (fun z=>h z.symm)];rfl
theorem b3.pt (h:b3 C t):C.ps t=0:=h.done.1
theorem b3.ut (h:b3 C t):C.us t 0=C.c:=h.done.2
theorem b3.NJ (h:b3 C t):(C.uz t).length=C.c+1:=by
 unfold uz
 rw[FW]
 have e:C.us (t+1) 0=if 0=C.ps t then C.us t 0+1 else C.us t 0:=rfl
 rw[e,h.pt,if_pos rfl,h.ut]
theorem b3.Hh (h:b3 C t) {m:Nat} (hm:m≤C.c):(C.uz t)[m]?=some (C.H t m):=by
 unfold H
 rw[iL,hy (by rw[h.NJ];exact GZ hm)]
 rfl
theorem b3.kD (h:b3 C t) {m:Nat} (hm:m≤C.c):C.H t m≤t∧C.ps (C.H t m)=0∧C.us (C.H t m) 0=m:=by
 obtain ⟨a,b,c⟩:=aaf (h.Hh hm)
 rw[FW] at c
 exact ⟨by exact hV a,of_decide_eq_true b,c⟩
theorem b3.B9 (h:b3 C t) {i:Nat} (aB:i≤t) (ag:C.ps i=0):C.H t (C.us i 0)=i:=by
 have:=aae (p:=fun i=>decide (C.ps i=0)) (n:=t+1) (i:=i) (by exact GZ aB) (decide_eq_true ag)
 rw[FW] at this
 unfold H
 rw[iL]
 show ((GI _ _)[C.us i 0]?).getD 0=i
 rw[this];rfl
theorem b3.px (h:b3 C t) {m n:Nat} (vY:m<n) (aT:n≤C.c):C.H t m<C.H t n:=by
 obtain ⟨_,_,a⟩:=h.kD (c5 (fK vY) aT)
 obtain ⟨_,_,b⟩:=h.kD aT
 rcases Nat.lt_or_ge (C.H t m) (C.H t n) with z|z
 ·exact z
 ·have:=NF (C:=C) z 0
  exact fQ (aI (aI (aI (bL vY) (b0 a)) (eq1 b)) this)
theorem b3.Pc (h:b3 C t):C.H t 0=0:=h.B9 (e3 _) rfl
theorem b3.Hg (h:b3 C t):C.H t C.c=t:=by
 have:=h.B9 (a3 t) h.pt
 rw[h.ut] at this
 exact this
theorem b3.used (h:b3 C t) {m:Nat} (hm:m≤C.c) {q:Nat} (aG:q<C.K):(rounds C.go (3*C.K) (gu C.go m,start m)).2 q=C.us (C.H t m) q:=by
 obtain ⟨a,b,c⟩:=h.kD hm
 obtain ⟨r,s⟩:=abg md C.eu hm
 exact (adK md (fun j aP=>h.y6 j (by exact hA aP a)) b c r s q aG).symm
theorem b3.best (h:b3 C t) {met:List Nat} (aj: ∀p∈met,p<C.K) (dp: ∀p∈met,p≠0→back C.go C.c p∈met):(∀p∈met,C.us t p=C.c)↔ ∀p∈met,trail C.go C.c C.K p=0:=by
 have w:=h.inv (a3 t)
 have r:=w.reach
 have e:(C.dE t).2 0=C.c:=h.done.2
 rw[e] at r
 exact Mine.best md r (J8 w h.done.1) aj dp
theorem Zs {s k l:Nat} (aC:s<6) (aj:k<6) (ai:l<6) (h:nm s k=nm s l):k=l:=by
 have a:=(qV aC).2.1 k aj
 have b:=(qV aC).2.1 l ai
 rw[h,b] at a
 cases a;rfl
theorem Xg {p i j:Nat} (ag:p<C.K) (aB:i<C.c) (aP:j<C.c) (h:C.kd p i=C.kd p j):i=j:=by
 have aT:(C.row p).Nodup:=(C.perm _ (r1 ag).2).nodup_iff.mpr C.aao
 have a:=rL ag aB
 have b:=rL ag aP
 rw[h] at a
 exact (List.getElem?_inj (by rw[qp ag];exact aB) aT).mp (a.trans b.symm)
theorem NP {p i j:Nat} (ag:p<C.K) (aB:i<C.c) (aP:j<C.c) (h:C.word p i=C.word p j):i=j:=Xg ag aB aP (Zs C.iG (tO ag aB) (tO ag aP) h)
noncomputable def eF (C:Cfg) (q j:Nat):Str:=jl q++C.word q j
theorem AB (q j:Nat):(C.eF q j).cps.toList=(97+q)::(C.word q j).cps.toList:=by
 unfold eF
 rw[GW,GX];rfl
theorem ua (q j:Nat):(C.eF q j).length=3:=by
 unfold eF
 rw[gQ]
 have:(C.word q j).length=2:=nH.1
 rw[this];rfl
theorem Nb (h:b3 C t) {k q:Nat} {r:List Nat} (aG:q<6) (a7:((C.du t).drop k).take 3=(97+q)::r) (ai:r.length=2): ∃i,i<t∧k=3*i∧C.ps i=q∧C.aL i=r:=by
 have h0:(C.du t)[k]?=some (97+q):=by
  have e:(((C.du t).drop k).take 3)[0]?=(C.du t)[k]?:=by rw[afz (by decide),afy];rfl
  rw[←e,a7];rfl
 have hlen:=congrArg sm a7
 rw[BR,jV,l5,la,ai] at hlen
 have ah:=ya t k _ (fun j aP=>h.nC aP) h0
 have av:k%3=0:=by
  by_cases z:k%3=0
  ·exact z
  ·have:=ah.2.2.2 z;exact f3 (fQ (bL this)) (by simp+arith only)
 have nv:k/3<t:=Nat.div_lt_of_lt_mul (aH (bL (Nat.lt_sub_iff_add_lt.mp (c5 (b0 hlen.symm) (xJ 3 (1+3*t-k))))))
 have ml:k=3*(k/3):=(Nat.mul_div_cancel' (Nat.dvd_of_mod_eq_zero av)).symm
 refine ⟨k/3,nv,ml,?_⟩
 obtain ⟨suf,e⟩:=Ci (C:=C) nv
 rw[e] at a7
 have aj:k=(C.r0 (k/3)).length:=by rw[w8];exact ml
 clear ml nv
 generalize k/3=i at a7 aj
 rw[aj,xY] at a7
 have cb:((97+C.ps i)::(C.aL i++suf)).take 3=(97+C.ps i)::C.aL i:=by
  rw[Ge]
  congr 1
  rw[show 2=(C.aL i).length from (q0 i).symm,GS]
 rw[cb] at a7
 injection a7 with a b
 exact ⟨by exact OG a,b⟩
theorem b3.AA (h:b3 C t) {q j e k:Nat} (aG:q<C.K) (aP:j<C.c) (he:e≤(C.tape t).length):At (C.tape t) (C.eF q j) e k↔ ∃i,k=3*i∧3*i+3≤e∧i<t∧C.ps i=q∧C.us i q=j:=by
 have VO:q<6:=hA aG C.ring.iZ
 rw[pq,ua,AB]
 constructor
 ·rintro ⟨J,U⟩
  obtain ⟨i,aB,aj,ag,hw⟩:=Nb h VO U (by rw[hr];exact nH.1)
  refine ⟨i,aj,by exact mz (congrFun (congrArg _ (fC aj)) _) J,aB,ag,?_⟩
  have dh:=(h.step aB).1
  unfold aL at hw
  rw[ag] at hw dh
  refine NP aG dh aP ?_
  apply B0
  apply xG.mp
  exact hw
 ·rintro ⟨i,rfl,J,aB,ag,dh⟩
  refine ⟨J,?_⟩
  obtain ⟨suf,e⟩:=Ci (C:=C) aB
  show ((C.du t).drop (3*i)).take 3=_
  have aj:3*i=(C.r0 i).length:=by rw[w8]
  rw[e,aj,xY,Ge,ag]
  congr 1
  rw[show 2=(C.aL i).length from (q0 i).symm,GS]
  unfold aL
  rw[ag,dh]
end Cfg
namespace Cfg
variable {C:Cfg} {t:Nat}
noncomputable def isA (l:List Nat) (n:Nat):Bool:=decide (l[n]?=some 97)
noncomputable def jx (C:Cfg) (t:Nat):List Nat:=(bI (3*t+1)).filter (isA (C.du t))
theorem b3.Kv (h:b3 C t) {i:Nat} (aB:i≤t):isA (C.du t) (3*i)=decide (C.ps i=0):=by
 unfold isA
 rw[Pm aB,decide_eq_decide]
 constructor
 ·intro z;injection z with z;exact OG z
 ·intro z;rw[z]
theorem b3.Kw (h:b3 C t) {k:Nat} (aj:k%3≠0):isA (C.du t) k=false:=by
 unfold isA
 rw[decide_eq_false_iff_not]
 intro z
 have:=(ya t k _ (fun j aP=>h.nC aP) z).2.2.2 aj
 exact fQ (bL this)
theorem b3.He (h:b3 C t):C.jx t=(C.uz t).map (3*·):=by
 unfold jx uz
 have: ∀n,n≤t→(bI (3*n+1)).filter (isA (C.du t))=((bI (n+1)).filter fun i=>decide (C.ps i=0)).map (3*·):=by
  intro n
  induction n with
  |zero=>
   intro _
   have e:isA (C.du t) 0=decide (C.ps 0=0):=h.Kv (e3 t)
   have gg:C.ps 0=0:=rfl
   have aF:bI (3*0+1)=[0]:=rfl
   rw[aF,lX,lX,e,gg]
   rfl
  |succ n ay=>
   intro aT
   rw[show 3*(n+1)+1=3*n+1+1+1+1 by exact rfl,lZ,lZ,lZ,uV,uV,uV,ay (by exact i9 aT)]
   rw[lZ (n:=n+1),uV,mY]
   have aF:isA (C.du t) (3*n+1)=false:=h.Kw (by rw[GY];decide)
   have aE:isA (C.du t) (3*n+1+1)=false:=h.Kw (by rw[uX,GY];decide)
   have cb:isA (C.du t) (3*n+1+1+1)=decide (C.ps (n+1)=0):=by
    rw[show 3*n+1+1+1=3*(n+1) by exact rfl]
    exact h.Kv aT
   rw[lX,lX,lX,lX,aF,aE,cb]
   simp only[afC,Bx,if_false,fF]
   by_cases ag:C.ps (n+1)=0
   ·rw[decide_eq_true ag,if_pos rfl,if_pos rfl];rfl
   ·rw[decide_eq_false ag,if_neg (by decide),if_neg (by decide)];rfl
 exact this t (a3 _)
theorem b3.Hf (h:b3 C t):(C.jx t).length=C.c+1:=by rw[h.He,bV,h.NJ]
theorem b3.Pb (h:b3 C t) {m:Nat} (hm:m≤C.c):(C.jx t)[m]?=some (3*C.H t m):=by rw[h.He,dF,h.Hh hm];rfl
theorem QM (ch:Nat):((⟨#[ch]⟩:Str)==S "a")=decide (ch=97):=by
 rw[hz,beq_iff_eq,decide_eq_true_eq]
 constructor
 ·intro h
  have:(#[ch]:Array Nat)=(S "a").cps:=congrArg Str.cps h
  have e:(S "a").cps= #[97]:=by decide
  rw[e] at this
  simpa using this
 ·intro h;rw[h];rfl
theorem yw {ch:Nat} (h:ch<128):d8 (⟨#[ch]⟩:Str)=true:=by
 unfold d8
 simp
 exact iA h rfl
end Cfg
noncomputable abbrev tj:Scope:=oZ (valueOf (lw 12))
noncomputable abbrev Jw:Expr:=mc (valueOf (lw 12))
noncomputable abbrev Jy:List Expr:=Ih (valueOf (lw 12))
noncomputable abbrev UU:Expr:=n' (valueOf (lw 12))
noncomputable def Cy (g:Nat→Bool):I→Bool
 | .int i=>g i.toNat
 |_=>false
theorem HR (g:Nat→Bool) (l:List Nat):(l.map ak).filter (Cy g)=(l.filter g).map ak:=by
 rw[List.filter_map];rfl
noncomputable def n4 (X:I) (D R:List I) (kd:I) (N:List I) (rows cnt:I) (G T:List I) (u:I) (St L:List I) (tape:Str) (pl z wd mv:I) (more:ar):ar:=hE X D R kd N rows cnt G T u St ([(S "lexers",.own L),(S "tape",.val (.str tape)),(S "place",.val pl),(S "_",.val z),(S "word",.val wd),(S "moved",.val mv)]++more)
section
variable {w:W} {X:I} {D R:List I} {kd:I} {N:List I} {rows cnt:I} {G T:List I} {u:I} {St L:List I} {tape:Str} {pl z wd mv:I}
theorem J9 (P ch:I) (b:Bool) (J:cz (.str tape) P=some ch) (U:eX ch (.str (S "a"))=some b) (n:Nat):fY (n+50) ⟨bw,7,tj⟩ .And Jy ((ar.hide (n4 X D R kd N rows cnt G T u St L tape pl z wd mv []) (Scope.dC tj)).set (S "n") (.val P)) w=some (b,w)∧ev (n+50) ⟨bw,7,tj⟩ Jw ((ar.hide (n4 X D R kd N rows cnt G T u St L tape pl z wd mv []) (Scope.dC tj)).set (S "n") (.val P)) w=some (P,w):=by
 constructor
 ·cases b<;>exact Mu [.v ⟨_,_,J⟩,.b ⟨_,_,U⟩]
 ·exact qr []
theorem VE (len:Nat) (hlen:tape.length=len) (ai:len≤100) (g:Nat→Bool) (aS: ∀k,k<len→ ∃ch,cz (.str tape) (ak k)=some ch∧eX ch (.str (S "a"))=some (g k)) (n:Nat):
  ex (n+300) cQ (lw 12) (n4 X D R kd N rows cnt G T u St L tape pl z wd mv []) w=some (.next,n4 X D R kd N rows cnt G T u St L tape pl z wd mv [(S "homes",.own (((bI len).filter g).map ak))],w):=by
 have dp:=Io (cx:=⟨bw,7,tj⟩) (σ:=ar.hide (n4 X D R kd N rows cnt G T u St L tape pl z wd mv []) (Scope.dC tj)) (w:=w) (x:=S "n") (tgt:=UU) (elt:=Jw) (ifs:=Jy) (items:=(bI len).map ak) (f:=id) (b:=Cy g) (c:=50) (N:=160)
  (by intros;kernel_rfl) (by rw[bV,fE];exact aH ai) (fun p ag m=>by
   obtain ⟨k,aj,rfl⟩:=g0.mp ag
   obtain ⟨ch,J,U⟩:=aS k (kB.mp aj)
   exact (J9 _ ch _ J U m).1) (fun p ag aa m=>by
   obtain ⟨k,aj,rfl⟩:=g0.mp ag
   obtain ⟨ch,J,U⟩:=aS k (kB.mp aj)
   exact (J9 _ ch _ J U m).2)
 rw[HR,List.map_id] at dp
 have a7:=i5 (k:=len) (by exact h6 ai rfl)
 have rp:=vd (x:=tape) (by exact aH (aI (b0 hlen) ai))
 rw[hlen] at rp
 have lC:((bI len).map ak).length≤1048576:=by rw[bV,fE];exact bX ai rfl
 clear aS
 exact cq [.v ⟨_,_,rp⟩,.u ⟨_,_,a7⟩,.p _ lC,.l ⟨_,_,(@dp (n+137))⟩]
theorem QN (ai:I) (B8:List I) (gs j5:Bool) (dz:I) (J:eX wd (.str (S ""))=some true) (U:eX pl (.int 0)=some true) (av:gd (ab "len") [.list B8]=some ai) (a0:cv .Add cnt (.int 1)=some dz) (bp:eX ai dz=some true) (n:Nat):
  ex (n+60) cQ (lw 13) (n4 X D R kd N rows cnt G T u St L tape pl z wd mv [(S "homes",.own B8)]) w=some (.next,n4 X D R kd N rows cnt G T u St L tape pl z wd mv [(S "homes",.own B8)],w):=by
 exact cq [.b ⟨_,_,(eq_not J)⟩,.b ⟨_,_,(eq_not U)⟩,.v ⟨_,_,av⟩,.v ⟨_,_,a0⟩,.b ⟨_,_,(eq_not bp)⟩]
end
noncomputable def iP (X:I) (D R:List I) (kd:I) (N:List I) (rows cnt G:I) (T:List I) (u:I) (St L:List I) (tape:Str) (pl z wd mv:I) (HP:List I) (more:ar):ar:=
 nc X D R kd (.own N)++[(S "rows",.val rows),(S "count",.val cnt),(S "goes",.val G),(S "texts",.own T),(S "n",.val u),(S "styles",.own St),(S "lexers",.own L),(S "tape",.val (.str tape)),(S "place",.val pl),(S "_",.val z),(S "word",.val wd),(S "moved",.val mv),(S "homes",.own HP)]++more
theorem L5 (a b:Bool):eX (.bool a) (.bool b)=some (a==b):=by
 show (if shaped (.bool a)&&shaped (.bool b) then some (i8 (.bool a) (.bool b)) else none)=_
 have h: ∀b,shaped (.bool b)=true:=fun _=>rfl
 rw[h,h,i8]
 rfl
noncomputable abbrev mb:Scope:=oZ (valueOf (lw 15))
noncomputable abbrev CY:Expr:=mc (valueOf (lw 15))
noncomputable abbrev CZ:List Expr:=Ih (valueOf (lw 15))
noncomputable abbrev R2:Expr:=n' (valueOf (lw 15))
noncomputable abbrev uw:Scope:=oZ (valueOf (lw 17))
noncomputable abbrev Nw:Expr:=mc (valueOf (lw 17))
noncomputable abbrev adt:Expr:=n' (valueOf (lw 17))
section
variable {w:W} {X:I} {D R:List I} {kd:I} {N:List I} {rows cnt G:I} {T:List I} {u:I} {St L:List I} {tape:Str} {pl z wd mv:I} {HP:List I}
theorem Yv (B7:List I) (M:I) (h: ∀n,cn (n+200) ⟨bw,7,(aq 22).scope⟩ (aq 20) [.list B7] w=some (M,w)) (n:Nat):
  ex (n+300) cQ (lw 14) (n4 X D R kd N rows cnt B7 T u St L tape pl z wd mv [(S "homes",.own HP)]) w=some (.next,iP X D R kd N rows cnt (.list B7) T u St L tape pl z wd mv HP [(S "met",.val M)],w):=by
 exact cq [.c ⟨_,_,(@h (n+97))⟩]
theorem Uv (P row k Al M:I) (a fW:Str) (b:Bool) (J:cz (.str (S "abcdef")) P=some (.str a)) (U:cz rows P=some row) (av:cz row (.int (-1))=some k) (a0:cz (.list N) k=some (.str fW)) (cR:3+a.length≤1000) (ec:(S "..."++a).length+fW.length≤1000) (oN:(S "..."++a++fW).length+3≤1000)
  (bp: ∀n,cn (n+200) ⟨bw,7,mb⟩ (aq 13) [.str (S "..."++a++fW++S "..."),.str tape] w=some (.bool b,w)) (n:Nat):
  fY (n+260) ⟨bw,7,mb⟩ .And CZ ((ar.hide (iP X D R kd N rows cnt G T u St L tape pl z wd mv HP [(S "met",.val M)]) (Scope.dC mb)).set (S "n") (.val P)) w=some (b,w)∧ev (n+260) ⟨bw,7,mb⟩ CY ((ar.hide (iP X D R kd N rows cnt G T u St L tape pl z wd mv HP [(S "met",.val M)]) (Scope.dC mb)).set (S "n") (.val P)) w=some (P,w):=by
 have bb:(S "...").length=3:=by decide
 have wC:cv .Add (.str (S "...")) (.str a)=some (.str (S "..."++a)):=add_str (by exact aH (aI cR (b0 bb)))
 have wD:cv .Add (.str (S "..."++a)) (.str fW)=some (.str (S "..."++a++fW)):=add_str (by exact bX ec rfl)
 have El:cv .Add (.str (S "..."++a++fW)) (.str (S "..."))=some (.str (S "..."++a++fW++S "...")):=add_str (by exact aH (aI oN (b0 bb)))
 constructor
 ·cases b<;>exact Mu [.v ⟨_,_,J⟩,.v ⟨_,_,wC⟩,.v ⟨_,_,U⟩,.go,.v ⟨_,_,av⟩,.v ⟨_,_,a0⟩,.v ⟨_,_,wD⟩,.v ⟨_,_,El⟩,.c ⟨_,_,(@bp (n+57))⟩,.go]
 ·exact qr []
theorem Uu (met:List Nat) (ai:met.length≤10) (g:Nat→Bool) (aS: ∀k∈met,∀n,fY (n+260) ⟨bw,7,mb⟩ .And CZ ((ar.hide (iP X D R kd N rows cnt G T u St L tape pl z wd mv HP [(S "met",.val (bJ met))]) (Scope.dC mb)).set (S "n") (.val (ak k))) w=some (g k,w)∧ev (n+260) ⟨bw,7,mb⟩ CY ((ar.hide (iP X D R kd N rows cnt G T u St L tape pl z wd mv HP [(S "met",.val (bJ met))]) (Scope.dC mb)).set (S "n") (.val (ak k))) w=some (ak k,w)) (n:Nat):
  ex (n+400) cQ (lw 15) (iP X D R kd N rows cnt G T u St L tape pl z wd mv HP [(S "met",.val (bJ met))]) w=some (.next,iP X D R kd N rows cnt G T u St L tape pl z wd mv HP [(S "met",.val (bJ met)),(S "gone",.own ((met.filter g).map ak))],w):=by
 have dp:=Io (cx:=⟨bw,7,mb⟩) (σ:=ar.hide (iP X D R kd N rows cnt G T u St L tape pl z wd mv HP [(S "met",.val (bJ met))]) (Scope.dC mb)) (w:=w) (x:=S "n") (tgt:=R2) (elt:=CY) (ifs:=CZ) (items:=met.map ak) (f:=id) (b:=Cy g) (c:=260) (N:=280)
  (by intros;kernel_rfl) (by rw[bV];exact aH ai) (fun p ag m=>by
   obtain ⟨k,aj,rfl⟩:=g0.mp ag
   exact (aS k aj m).1) (fun p ag aa m=>by
   obtain ⟨k,aj,rfl⟩:=g0.mp ag
   exact (aS k aj m).2)
 rw[HR,List.map_id] at dp
 have lC:(met.map ak).length≤1048576:=by rw[bV];exact bX ai rfl
 clear aS
 exact cq [.p _ lC,.l ⟨_,_,(@dp (n+117))⟩]
theorem XH (M:I) (Go:List I) (b:Bool) (J:eX (.list Go) M=some b) (U: ∀n,cn (n+100) ⟨bw,7,(aq 22).scope⟩ (aq 21) [G,M] w=some (.bool b,w)) (n:Nat):
  ex (n+300) cQ (lw 16) (iP X D R kd N rows cnt G T u St L tape pl z wd mv HP [(S "met",.val M),(S "gone",.own Go)]) w=some (.next,iP X D R kd N rows cnt G T u St L tape pl z wd mv HP [(S "met",.val M),(S "gone",.own Go)],w):=by
 cases b with
 |true=>exact cq [.b ⟨_,_,J⟩,.c ⟨_,_,(@U (n+195))⟩,.b ⟨_,_,(eq_not (@L5 (true) (true)))⟩]
 |false=>exact cq [.b ⟨_,_,J⟩,.c ⟨_,_,(@U (n+195))⟩,.b ⟨_,_,(eq_not (@L5 (false) (false)))⟩]
theorem adJ (more:ar) (Vr:more=[(S "met",.val M),(S "gone",.own Go)]) (c:Nat) (ah:c≤3) (mj:cnt=ak c) (us:Nat→I) (h: ∀m,m≤c→ ∀n,cn (n+200) ⟨bw,7,uw⟩ (aq 19) [G,ak m] w=some (us m,w)) (n:Nat):
  ex (n+400) cQ (lw 17) (iP X D R kd N rows cnt G T u St L tape pl z wd mv HP more) w=some (.next,iP X D R kd N rows cnt G T u St L tape pl z wd mv HP (more++[(S "used",.own ((bI (c+1)).map us))]),w):=by
 subst Vr mj
 have vQ: ∀m,m≤c→ ∀n,ev (n+230) ⟨bw,7,uw⟩ Nw ((ar.hide (iP X D R kd N rows (ak c) G T u St L tape pl z wd mv HP [(S "met",.val M),(S "gone",.own Go)]) (Scope.dC uw)).set (S "walkers") (.val (ak m))) w=some (us m,w):=by
  intro m hm n
  have cL:=h m hm
  exact qr [.c ⟨_,_,(@cL (n+29))⟩]
 have dp:=s6 (cx:=⟨bw,7,uw⟩) (σ:=ar.hide (iP X D R kd N rows (ak c) G T u St L tape pl z wd mv HP [(S "met",.val M),(S "gone",.own Go)]) (Scope.dC uw)) (w:=w) (x:=S "walkers") (tgt:=adt) (elt:=Nw) (items:=(bI (c+1)).map ak) (f:=te us) (c:=229) (N:=250)
  (by intros;kernel_rfl) (by rw[bV,fE];exact aH ah) (fun p ag m=>by
   obtain ⟨k,aj,rfl⟩:=g0.mp ag
   exact vQ k (by have:=kB.mp aj;exact hV this) m)
 rw[vF] at dp
 have aJ:cv .Add (ak c) (.int 1)=some (ak (c+1)):=rfl
 have a7:i4 [ak (c+1)]=some ((bI (c+1)).map ak):=i5 (k:=c+1) (by exact aH ah)
 have lC:((bI (c+1)).map ak).length≤1048576:=by rw[bV,fE];exact yd ah (a3 _) rfl
 clear h vQ
 exact cq [.v ⟨_,_,aJ⟩,.u ⟨_,_,a7⟩,.p _ lC,.l ⟨_,_,(@dp (n+147))⟩]
end
theorem Q' (a b:Nat):fe .LtE (ak a) (ak b)=some (decide (a≤b)):=by
 show some (decide ((a:Int)≤(b:Int)))=_
 congr 1
 rw[decide_eq_decide];exact nV
theorem Ik (a b:Nat):fe .Lt (ak a) (ak b)=some (decide (a<b)):=by
 show some (decide ((a:Int)<(b:Int)))=_
 congr 1
 rw[decide_eq_decide];exact nX
theorem p' (b:Bool):fe .IsNot (.bool b) (.bool b)=some false:=by cases b<;>rfl
noncomputable def ks:Option (I×Option (I×Option (I×Option I)))→ar
 |none=>[]
 |some (j,none)=>[(S "j",.val j)]
 |some (j,some (p,none))=>[(S "j",.val j),(S "piece",.val p)]
 |some (j,some (p,some (m,none)))=>[(S "j",.val j),(S "piece",.val p),(S "m",.val m)]
 |some (j,some (p,some (m,some d)))=>[(S "j",.val j),(S "piece",.val p),(S "m",.val m),(S "due",.val d)]
noncomputable abbrev qb:List bY:=c0 (aO (c0 (lw 18)) 1)
noncomputable abbrev Aa:List bY:=c0 (aO qb 1)
structure qQ where
 X:I
 D:List I
 R:List I
 kd:I
 N:List I
 rows:I
 cnt:I
 G:I
 T:List I
 St:List I
 L:List I
 tape:Str
 pl:I
 z:I
 wd:I
 mv:I
 HP:List I
 M:I
 Go:List I
 ft:List I
section
variable {w:W} {V:qQ}
noncomputable def fG (V:qQ) (n:I) (jR:ar):ar:=iP V.X V.D V.R V.kd V.N V.rows V.cnt V.G V.T n V.St V.L V.tape V.pl V.z V.wd V.mv V.HP ([(S "met",.val V.M),(S "gone",.own V.Go),(S "used",.own V.ft)]++jR)
theorem Yo (n j m:I) (eF f b:Str) (d:Option I) (ul NI a1 a2 bT h0 J:I) (fX hO q:Bool)
  (aF:cz (.list V.ft) m=some ul) (aE:cz ul n=some a1) (cb:fe .LtE a1 j=some fX) (eo:cv .Add m (.int 1)=some bT) (gG:cz (.list V.ft) bT=some NI) (ka:cz NI n=some a2) (kL:fe .Lt j a2=some hO) (aG:q=(fX&&hO))
  (lu:cz (.list V.HP) m=some h0) (oc:cz (.list V.HP) bT=some J) (pN:e' (.str V.tape) .none h0 .none=some (.str f)) (en:e' (.str V.tape) J .none .none=some (.str b)) (cR:f.length+eF.length≤1048576) (ec:(f++eF).length+b.length≤1048576)
  (ah: ∀n,cn (n+200) ⟨bw,7,(aq 22).scope⟩ (aq 13) [.str (f++eF++b),.str V.tape] w=some (.bool q,w)) (i:Nat):
  b1 (i+300) cQ Aa (fG V n (ks (some (j,some (.str eF,some (m,d)))))) w=some (.next,fG V n (ks (some (j,some (.str eF,some (m,some (.bool q)))))),w):=by
 have gs:=add_str cR
 have j5:=add_str ec
 clear cR ec
 cases fX with
 |true=>
  have aG:q=hO:=by rw[aG];rfl
  subst aG
  cases d<;>exact fp [.v ⟨_,_,aF⟩,.v ⟨_,_,aE⟩,.b ⟨_,_,cb⟩,.v ⟨_,_,eo⟩,.v ⟨_,_,gG⟩,.v ⟨_,_,ka⟩,.b ⟨_,_,kL⟩,.v ⟨_,_,lu⟩,.v ⟨_,_,pN⟩,.v ⟨_,_,gs⟩,.v ⟨_,_,eo⟩,.v ⟨_,_,oc⟩,.v ⟨_,_,en⟩,.v ⟨_,_,j5⟩,.c ⟨_,_,(@ah (i+94))⟩,.b ⟨_,_,(@p' (q))⟩]
 |false=>
  have aG:q=false:=by rw[aG];rfl
  subst aG
  cases d<;>exact fp [.v ⟨_,_,aF⟩,.v ⟨_,_,aE⟩,.b ⟨_,_,cb⟩,.v ⟨_,_,lu⟩,.v ⟨_,_,pN⟩,.v ⟨_,_,gs⟩,.v ⟨_,_,eo⟩,.v ⟨_,_,oc⟩,.v ⟨_,_,en⟩,.v ⟨_,_,j5⟩,.c ⟨_,_,(@ah (i+94))⟩,.b ⟨_,_,(@p' (false))⟩]
theorem aah (n j row k Al:I) (a fW:Str) (o:Option (I×I×I)) (J:cz (.str (S "abcdef")) n=some (.str a)) (U:cz V.rows n=some row) (av:cz row j=some k) (a0:cz (.list V.N) k=some (.str fW)) (cR:3+a.length≤1000) (ec:(S "..."++a).length+fW.length≤1000) (oN:(S "..."++a++fW).length+3≤1000) (i:Nat):
  ex (i+60) cQ (aO qb 0) (fG V n (ks (some (j,o.map fun x=>(x.1,some (x.2.1,some x.2.2)))))) w=
   some (.next,fG V n (ks (some (j,some (.str (S "..."++a++fW++S "..."),o.map fun x=>(x.2.1,some x.2.2))))),w):=by
 have bb:(S "...").length=3:=by decide
 have wC:cv .Add (.str (S "...")) (.str a)=some (.str (S "..."++a)):=add_str (by exact aH (aI cR (b0 bb)))
 have wD:cv .Add (.str (S "..."++a)) (.str fW)=some (.str (S "..."++a++fW)):=add_str (by exact bX ec rfl)
 have El:cv .Add (.str (S "..."++a++fW)) (.str (S "..."))=some (.str (S "..."++a++fW++S "...")):=add_str (by exact aH (aI oN (b0 bb)))
 clear cR ec oN
 rcases o with _|⟨p,m,d⟩<;>exact cq [.v ⟨_,_,J⟩,.v ⟨_,_,wC⟩,.v ⟨_,_,U⟩,.v ⟨_,_,av⟩,.v ⟨_,_,a0⟩,.v ⟨_,_,wD⟩,.v ⟨_,_,El⟩]
theorem Yn (n j:I) (eF:Str) (c:Nat) (ey:c≤3) (tm:0<c) (mj:V.cnt=ak c) (o:Option (I×I)) (q:Nat→Bool)
  (h: ∀m,m<c→ ∀d i,b1 (i+300) cQ Aa (fG V n (ks (some (j,some (.str eF,some (ak m,d)))))) w=some (.next,fG V n (ks (some (j,some (.str eF,some (ak m,some (.bool (q m))))))),w)):
  ∃m d,∀i,ex (i+400) cQ (aO qb 1) (fG V n (ks (some (j,some (.str eF,o.map fun x=>(x.1,some x.2)))))) w=some (.next,fG V n (ks (some (j,some (.str eF,some (m,some d))))),w):=by
 obtain ⟨s,v,J,U⟩:=forR (cx:=cQ) (σ:=fG V n (ks (some (j,some (.str eF,o.map fun x=>(x.1,some x.2)))))) (w:=w) (x:=S "m") (tgt:=hu (aO qb 1)) (body:=Aa) (K:=c) (s0:=o.map (·.2)) (c:=300) (N:=310)
  (B:=fun (s:Option I) v=>fG V n (ks (some (j,some (.str eF,some (v,s)))))) (P:=fun i s=>i=0∨ ∃d,s=some d)
  (by intros;kernel_rfl) (by intro s v u;cases s<;>kernel_rfl) (by rcases o with _|⟨a,b⟩<;>(intro v;kernel_rfl)) (.inl rfl) (by exact tm) (by exact aH ey)
  (fun i s ji bS=>by
   exact ⟨some (.bool (q i)),.next,.inr ⟨_,rfl⟩,.inl rfl,h i ji s⟩)
 rcases J with J|⟨d,rfl⟩
 ·exact absurd J (ju tm)
 refine ⟨v,d,fun i=> ?_⟩
 have a7:i4 [V.cnt]=some ((bI c).map ak):=by rw[mj];exact i5 (k:=c) (by exact h6 ey rfl)
 clear h
 rcases o with _|⟨a,b⟩<;>exact cq [.u ⟨_,_,a7⟩,.f ⟨_,_,(@U (i+89))⟩]
end
noncomputable abbrev Tl:=I×I×I×I
noncomputable def Bd (x:Tl):ar:=ks (some (x.1,some (x.2.1,some (x.2.2.1,some x.2.2.2))))
noncomputable def qx:Option Tl→ar
 |none=>[]
 |some x=>Bd x
noncomputable abbrev oU:List bY:=c0 (lw 18)
section
variable {w:W} {V:qQ}
theorem W4 (n:I) (c:Nat) (ey:c≤3) (tm:0<c) (mj:V.cnt=ak c) (o:Option Tl) (row:I) (k:Nat→I) (a:Str) (fW:Nat→Str) (q:Nat→Nat→Bool)
  (g1:cz (.str (S "abcdef")) n=some (.str a)) (g2:cz V.rows n=some row) (g3: ∀j,j<c→cz row (ak j)=some (k j)) (c1: ∀j,j<c→cz (.list V.N) (k j)=some (.str (fW j))) (cR:a.length=1) (ec: ∀j,(fW j).length=2)
  (h: ∀j,j<c→ ∀m,m<c→ ∀d i,b1 (i+300) cQ Aa (fG V n (ks (some (ak j,some (.str (S "..."++a++fW j++S "..."),some (ak m,d)))))) w=some (.next,fG V n (ks (some (ak j,some (.str (S "..."++a++fW j++S "..."),some (ak m,some (.bool (q j m))))))),w)):
  ∃x,∀i,ex (i+700) cQ (aO oU 1) (fG V n (qx o)) w=some (.next,fG V n (Bd x),w):=by
 have rq:qb=[aO qb 0,aO qb 1]:=by kernel_rfl
 have bb:(S "...").length=3:=by decide
 obtain ⟨s,v,J,U⟩:=forR (cx:=cQ) (σ:=fG V n (qx o)) (w:=w) (x:=S "j") (tgt:=hu (aO oU 1)) (body:=qb) (K:=c) (s0:=o.map (·.2)) (c:=500) (N:=510)
  (B:=fun (s:Option (I×I×I)) v=>fG V n (ks (some (v,s.map fun x=>(x.1,some (x.2.1,some x.2.2)))))) (P:=fun i s=>i=0∨ ∃d,s=some d)
  (by intros;kernel_rfl) (by intro s v u;cases s<;>kernel_rfl) (by rcases o with _|⟨a,b⟩<;>(intro v;kernel_rfl)) (.inl rfl) (by exact tm) (by exact aH ey)
  (fun i s ji bS=>by
   have E9:=aah (w:=w) (V:=V) n (ak i) row (k i) (.str (fW i)) a (fW i) s g1 g2 (g3 i ji) (c1 i ji) (by rw[cR];decide) (by rw[gQ,bb,cR,ec];decide) (by rw[gQ,gQ,bb,cR,ec];decide)
   obtain ⟨m,d,p1⟩:=Yn (w:=w) (V:=V) n (ak i) (S "..."++a++fW i++S "...") c ey tm mj (s.map (·.2)) (q i) (h i ji)
   refine ⟨some (.str (S "..."++a++fW i++S "..."),m,d),.next,.inr ⟨_,rfl⟩,.inl rfl,fun y=> ?_⟩
   have e:(s.map fun x=>(x.2.1,some x.2.2))=((s.map (·.2)).map fun x=>(x.1,some x.2)):=by cases s<;>rfl
   rw[←e] at p1
   rw[rq,cZ (D:=499) E9 (by decide),cZ (D:=498) p1 (by decide)]
   rw[yK]
   rfl)
 rcases J with J|⟨d,rfl⟩
 ·exact absurd J (ju tm)
 refine ⟨(v,d.1,d.2.1,d.2.2),fun i=> ?_⟩
 have a7:i4 [V.cnt]=some ((bI c).map ak):=by rw[mj];exact i5 (k:=c) (by exact h6 ey rfl)
 clear h g1 g2 g3 c1
 rcases o with _|⟨a,b⟩<;>exact cq [.u ⟨_,_,a7⟩,.f ⟨_,_,(@U (i+189))⟩]
theorem X2 (n:I) (o:Option Tl) (i:Nat) (cO:cf) (ul a:I) (jR FH:List I) (ts:List Str) (ct:Int) (g1:cz (.list V.L) n=some (.obj i)) (g2:w[i]?=some cO) (g3:cz (.list V.T) n=some (.list jR)) (c1:cz (.list V.ft) V.cnt=some ul) (jG:cz ul n=some a) (nt:e' (.list jR) .none a .none=some (.list FH)) (Dp:r' FH=some ts) (Jc:qB cm ts=true) (Jd:Bt (gq cm ts) (S "\n")=ct) (Ua:eX (.int cO.line) (.int (1+ct))=some true) (m:Nat):
  ex (m+100) cQ (aO oU 0) (fG V n (qx o)) w=some (.next,fG V n (qx o),w):=by
 have hm:methP (ab "join") (.str (ab "")) [.list FH]=some (.str (gq cm ts)):=(lM.2.2.2.1 _ _).trans (by rw[Dp];exact if_pos Jc)
 have ah:methP (ab "count") (.str (gq cm ts)) [.str (S "\n")]=some (.int ct):=(lM.2.2.1 _ _).trans (by rw[←Jd])
 have aj:z4 i w=some (.int cO.line,w):=by unfold z4;rw[g2];rfl
 clear Dp Jc Jd
 rcases o with _|⟨x,p,m,d⟩<;>exact cq [.v ⟨_,_,g1⟩,.c ⟨_,_,aj⟩,.v ⟨_,_,g3⟩,.v ⟨_,_,c1⟩,.v ⟨_,_,jG⟩,.v ⟨_,_,nt⟩,.v ⟨_,_,hm⟩,.v ⟨_,_,ah⟩,.go,.b ⟨_,_,(eq_not Ua)⟩]
end
section
variable {w:W} {V:qQ}
theorem Y9 (u:I) (K:Nat) (gU:0<K) (cj:K≤6) (hlen:gd (ab "len") [.list V.R]=some (.int (K:Int)))
  (ai: ∀n,n<K→ ∀o m,ex (m+100) cQ (aO oU 0) (fG V (ak n) (qx o)) w=some (.next,fG V (ak n) (qx o),w))
  (aP: ∀n,n<K→ ∀o,∃x,∀i,ex (i+700) cQ (aO oU 1) (fG V (ak n) (qx o)) w=some (.next,fG V (ak n) (Bd x),w)):
  ∃n x,∀i,ex (i+1000) cQ (lw 18) (fG V u []) w=some (.next,fG V n (Bd x),w):=by
 have rq:oU=[aO oU 0,aO oU 1]:=by kernel_rfl
 obtain ⟨s,v,J,U⟩:=forR (cx:=cQ) (σ:=fG V u []) (w:=w) (x:=S "n") (tgt:=hu (lw 18)) (body:=oU) (K:=K) (s0:=none) (c:=750) (N:=760)
  (B:=fun (s:Option Tl) v=>fG V v (qx s)) (P:=fun i s=>i=0∨ ∃d,s=some d)
  (by intros;kernel_rfl) (by rintro (_|⟨a,b,c,d⟩) v u<;>kernel_rfl) (by intro v;kernel_rfl) (.inl rfl) (by exact gU) (by exact aH cj)
  (fun i s ji bS=>by
   obtain ⟨x,oH⟩:=aP i ji s
   refine ⟨some x,.next,.inr ⟨_,rfl⟩,.inl rfl,fun y=> ?_⟩
   rw[rq,cZ (D:=749) (ai i ji s) (by decide),cZ (D:=748) oH (by decide)]
   rw[yK]
   rfl)
 rcases J with J|⟨d,rfl⟩
 ·exact absurd J (ju gU)
 refine ⟨v,d,fun i=> ?_⟩
 have a7:=i5 (k:=K) (by exact h6 cj rfl)
 clear ai aP
 exact cq [.v ⟨_,_,hlen⟩,.u ⟨_,_,a7⟩,.f ⟨_,_,(@U (i+239))⟩]
noncomputable abbrev tT:List bY:=c0 (lw 19)
noncomputable abbrev Ah:List bY:=c0 (aO tT 0)
noncomputable def acP:Option (I×Option I)→ar
 |none=>[]
 |some (b,none)=>[(S "behind",.val b)]
 |some (b,some s)=>[(S "behind",.val b),(S "stretch",.val s)]
noncomputable def j7 (V:qQ) (n j p m d:I) (o:Option (I×Option I)):ar:=fG V n ([(S "j",.val j),(S "piece",.val p),(S "m",.val m),(S "due",.val d)]++acP o)
theorem Y0 (n j p m d aT hm tx:I) (kI fr st:Str) (o:Option (I×Option I)) (q gg kb:Bool)
  (g1:cz (.list V.HP) n=some aT) (g2:e' (.str V.tape) aT .none .none=some (.str kI)) (g3:cz (.list V.HP) m=some hm) (c1:cv .Add hm (.int 1)=some tx) (jG:e' (.str V.tape) .none tx .none=some (.str fr)) (cR:fr.length+3≤1000) (ec:(fr++S "...").length+kI.length≤1000)
  (dz: ∀n,cn (n+200) ⟨bw,7,(aq 22).scope⟩ (aq 13) [.str (fr++S "..."++kI),.str V.tape] w=some (.bool q,w)) (nt:fe .Lt m n=some q)
  (aG:q=true→ ∃nz,cv .Add aT (.int 1)=some nz∧e' (.str V.tape) hm nz .none=some (.str st)∧st.length≤200∧kI.length≤200∧eX m (.int 0)=some gg∧eX n V.cnt=some kb∧
   (∀n,cn (n+200) ⟨bw,7,(aq 22).scope⟩ (aq 13) [.str st,.str V.tape] w=some (.bool (gg&&kb),w))∧
   (∀n,cn (n+200) ⟨bw,7,(aq 22).scope⟩ (aq 13) [.str (st++S "..."),.str V.tape] w=some (.bool gg,w))∧
   (∀n,cn (n+200) ⟨bw,7,(aq 22).scope⟩ (aq 13) [.str (S "..."++st),.str V.tape] w=some (.bool kb,w))∧
   (∀n,cn (n+200) ⟨bw,7,(aq 22).scope⟩ (aq 13) [.str (S "..."++st++S "..."++kI++S "..."),.str V.tape] w=some (.bool false,w))):
  ∃x,∀i,b1 (i+400) cQ Ah (j7 V n j p m d o) w=some (.next,j7 V n j p m d (some x),w):=by
 have bb:(S "...").length=3:=by decide
 have wC:cv .Add (.str fr) (.str (S "..."))=some (.str (fr++S "...")):=add_str (by exact aH (aI cR (b0 bb)))
 have wD:cv .Add (.str (fr++S "...")) (.str kI)=some (.str (fr++S "..."++kI)):=add_str (by exact bX ec rfl)
 clear cR ec
 let A:Nat→List Fact→List Fact:=fun i dJ=> .v ⟨_,_,g1⟩:: .v ⟨_,_,g2⟩:: .v ⟨_,_,g3⟩:: .v ⟨_,_,c1⟩:: .v ⟨_,_,jG⟩:: .v ⟨_,_,wC⟩:: .v ⟨_,_,wD⟩:: .c ⟨_,_,(@dz (i+194))⟩:: .b ⟨_,_,nt⟩:: .b ⟨_,_,(@p' (q))⟩:: .b ⟨_,_,nt⟩::dJ
 cases q with
 |false=>
  refine ⟨(.str kI,match o with|some (_,s)=>s|none=>none),fun i=> ?_⟩
  clear aG
  rcases o with _|⟨b,_|s⟩<;>exact fp (A i [])
 |true=>
  obtain ⟨nz,a1,a2,j4,Cn,sP,sQ,de,eu,hc,n6⟩:=aG rfl
  refine ⟨(.str kI,some (.str st)),fun i=> ?_⟩
  have bt:cv .Add (.str st) (.str (S "..."))=some (.str (st++S "...")):=add_str (by exact aH (aI (b0 bb) j4))
  have bB:cv .Add (.str (S "...")) (.str st)=some (.str (S "..."++st)):=add_str (by exact aH (aI (b0 bb) j4))
  have c4:cv .Add (.str (S "..."++st)) (.str (S "..."))=some (.str (S "..."++st++S "...")):=add_str (by rw[gQ];exact aH (aI (lm 2 (b0 bb)) j4))
  have d6:cv .Add (.str (S "..."++st++S "...")) (.str kI)=some (.str (S "..."++st++S "..."++kI)):=add_str (by rw[gQ,gQ];exact aH (aI (aI (lm 2 (b0 bb)) j4) Cn))
  have wy:cv .Add (.str (S "..."++st++S "..."++kI)) (.str (S "..."))=some (.str (S "..."++st++S "..."++kI++S "...")):=add_str (by rw[gQ,gQ,gQ];exact aH (aI (aI (lm 3 (b0 bb)) j4) Cn))
  clear j4 Cn bb
  let B:List Fact→List Fact:=fun dJ=>A i (.v ⟨_,_,g3⟩:: .v ⟨_,_,g1⟩:: .v ⟨_,_,a1⟩:: .v ⟨_,_,a2⟩:: .c ⟨_,_,(@de (i+190))⟩:: .b ⟨_,_,sP⟩::dJ)
  let C:List Fact:=[.v ⟨_,_,bt⟩,.c ⟨_,_,(@eu (i+189))⟩,.b ⟨_,_,sP⟩,.b ⟨_,_,(@p' (gg))⟩,.v ⟨_,_,bB⟩,.c ⟨_,_,(@hc (i+188))⟩,.b ⟨_,_,sQ⟩,.b ⟨_,_,(@p' (kb))⟩,.v ⟨_,_,bB⟩,.v ⟨_,_,c4⟩,.v ⟨_,_,d6⟩,.v ⟨_,_,wy⟩,.c ⟨_,_,(@n6 (i+187))⟩,.b ⟨_,_,(@p' (false))⟩]
  cases gg with
  |true=>let E:List Fact:= .b ⟨_,_,sQ⟩:: .b ⟨_,_,p' kb⟩::C;cases kb<;>rcases o with _|⟨b,_|s⟩<;>exact fp (B E)
  |false=>cases kb<;>rcases o with _|⟨b,_|s⟩<;>exact fp (B (.b ⟨_,_,p' false⟩::C))
end
section
variable {w:W} {V:qQ}
theorem YZ (nF j p d:I) (m:I) (c:Nat) (ey:c≤3) (mj:V.cnt=ak c) (o:Option (I×Option I))
  (h: ∀n,n≤c→ ∀o,∃x,∀i,b1 (i+400) cQ Ah (j7 V (ak n) j p m d o) w=some (.next,j7 V (ak n) j p m d (some x),w)):
  ∃n x,∀i,ex (i+500) cQ (aO tT 0) (j7 V nF j p m d o) w=some (.next,j7 V n j p m d x,w):=by
 obtain ⟨s,v,J,U⟩:=forR (cx:=cQ) (σ:=j7 V nF j p m d o) (w:=w) (x:=S "n") (tgt:=hu (aO tT 0)) (body:=Ah) (K:=(c+1)) (s0:=o) (c:=400) (N:=410)
  (B:=fun (s:Option (I×Option I)) v=>j7 V v j p m d s) (P:=fun i s=>True)
  (by intros;kernel_rfl) (by rintro (_|⟨a,_|b⟩) v u<;>kernel_rfl) (by rcases o with _|⟨a,_|b⟩<;>(intro v;kernel_rfl)) trivial (by exact BQ _) (by exact aH ey)
  (fun i s ji bS=>by
   obtain ⟨x,oH⟩:=h i (by exact hV ji) s
   exact ⟨some x,.next,trivial,.inl rfl,oH⟩)
 refine ⟨v,s,fun i=> ?_⟩
 have aJ:cv .Add V.cnt (.int 1)=some (ak (c+1)):=by rw[mj];rfl
 have a7:i4 [ak (c+1)]=some ((bI (c+1)).map ak):=i5 (k:=c+1) (by exact aH ey)
 clear h
 rcases o with _|⟨a,_|b⟩<;>exact cq [.v ⟨_,_,aJ⟩,.u ⟨_,_,a7⟩,.f ⟨_,_,(@U (i+89))⟩]
theorem Yl (nF m0 j p d:I) (c:Nat) (ey:c≤3) (mj:V.cnt=ak c)
  (h: ∀m,m≤c→ ∀n,n≤c→ ∀o,∃x,∀i,b1 (i+400) cQ Ah (j7 V (ak n) j p (ak m) d o) w=some (.next,j7 V (ak n) j p (ak m) d (some x),w)):
  ∃σ',∀i,ex (i+600) cQ (lw 19) (j7 V nF j p m0 d none) w=some (.next,σ',w):=by
 have rq:tT=[aO tT 0]:=by kernel_rfl
 obtain ⟨s,v,J,U⟩:=forR (cx:=cQ) (σ:=j7 V nF j p m0 d none) (w:=w) (x:=S "m") (tgt:=hu (lw 19)) (body:=tT) (K:=(c+1)) (s0:=(nF,none)) (c:=510) (N:=520)
  (B:=fun (s:I×Option (I×Option I)) v=>j7 V s.1 j p v d s.2) (P:=fun i s=>True)
  (by intros;kernel_rfl) (by rintro ⟨n,_|⟨a,_|b⟩⟩ v u<;>kernel_rfl) (by intro v;kernel_rfl) trivial (by exact BQ _) (by exact aH ey)
  (fun i s ji bS=>by
   obtain ⟨n,x,oH⟩:=YZ (w:=w) (V:=V) s.1 j p d (ak i) c ey mj s.2 (h i (by exact hV ji))
   refine ⟨(n,x),.next,trivial,.inl rfl,fun y=> ?_⟩
   rw[rq,cZ (D:=509) oH (by decide)]
   rw[yK])
 refine ⟨j7 V s.1 j p v d s.2,fun i=> ?_⟩
 have aJ:cv .Add V.cnt (.int 1)=some (ak (c+1)):=by rw[mj];rfl
 have a7:i4 [ak (c+1)]=some ((bI (c+1)).map ak):=i5 (k:=c+1) (by exact aH ey)
 clear h
 exact cq [.v ⟨_,_,aJ⟩,.u ⟨_,_,a7⟩,.f ⟨_,_,(@U (i+79))⟩]
theorem aaX (σ:ar) (i:Nat):ex (i+20) cQ (lw 20) σ w=some (.ret (.bool true),σ.freeze [],w):=by
 kernel_rfl
end
theorem Wu (aB:Option Int) (n:Nat):strSliceIndices none aB 1 n=strSliceIndices (some ((0:Nat):Int)) aB 1 n:=by
 unfold strSliceIndices
 have:max (0:Int) (min (if ((0:Nat):Int)<0 then ((0:Nat):Int)+n else ((0:Nat):Int)) (n:Int))=0:=by
  rw[if_neg (by decide)];exact Int.max_self _
 simp only[show ((1:Int)>0)=True from by exact eq_true_of_decide rfl,if_true,this]
theorem Ws (lo:Option Int) (n:Nat):strSliceIndices lo none 1 n=strSliceIndices lo (some (n:Int)) 1 n:=by
 unfold strSliceIndices
 have:max (0:Int) (min (if (n:Int)<0 then (n:Int)+n else (n:Int)) (n:Int))=n:=by
  rw[if_neg (by exact xR _),Int.min_self];exact aeY (l1 n)
 simp only[show ((1:Int)>0)=True from by exact eq_true_of_decide rfl,if_true,this]
theorem RG (x:Str) (aB:Option Int):gS x none aB=gS x (some ((0:Nat):Int)) aB:=by unfold gS;rw[Wu]
theorem RF (x:Str) (lo:Option Int):gS x lo none=gS x lo (some (x.length:Int)):=by unfold gS;rw[Ws]
theorem A6 {x:Str} {l:List Nat} (h:x.cps.toList=l):x=bu l:=by rw[←h,AV]
theorem MO {x:Str} (h:x.length≤1000) (k:Nat):e' (.str x) .none (ak k) .none=some (.str (bu (x.cps.toList.take k))):=by
 have e:e' (.str x) .none (ak k) .none=if (none:Option Int)=none∧x.length≤1048576 then some (.str (gS x none (some (k:Int)))) else none:=rfl
 rw[e,if_pos ⟨rfl,by exact bX h rfl⟩,RG]
 congr 2
 exact A6 (by rw[yC];rfl)
theorem MN {x:Str} (h:x.length≤1000) (k:Nat):e' (.str x) (ak k) .none .none=some (.str (bu (x.cps.toList.drop k))):=by
 have e:e' (.str x) (ak k) .none .none=if (none:Option Int)=none∧x.length≤1048576 then some (.str (gS x (some (k:Int)) none)) else none:=rfl
 rw[e,if_pos ⟨rfl,by exact bX h rfl⟩,RF]
 congr 2
 exact A6 (by rw[yC,o' (by rw[jV,hr];exact b0 rfl)])
theorem abP {x:Str} (h:x.length≤1000) (a b:Nat):e' (.str x) (ak a) (ak b) .none=some (.str (bu ((x.cps.toList.drop a).take (b-a)))):=by
 have e:e' (.str x) (ak a) (ak b) .none=if (none:Option Int)=none∧x.length≤1048576 then some (.str (gS x (some (a:Int)) (some (b:Int)))) else none:=rfl
 rw[e,if_pos ⟨rfl,by exact bX h rfl⟩]
 congr 2
 exact A6 (by rw[yC])
theorem tc {ps:List (List Nat)} (U:2≤ps.length) (a0:ps.length≤4) (ag: ∀p∈ps,46∉p) (ai: ∀p∈ps,p.length≤200) {x:Str} (ae:x.length≤1000) {want:Str} (hw:want.cps.toList=c' ps) (lE:want.length≤100000) {sc:Scope} {w:W} (n:Nat):
  cn (n+200) ⟨bw,7,sc⟩ (aq 13) [.str want,.str x] w=some (.bool (eU (ps.map bu) x),w):=by
 obtain ⟨s1,s2,s3⟩:=ab5 U ag
 have V9:=A6 hw
 subst V9
 exact Sy (d:=6) (by exact bX lE rfl) (by exact bX ae rfl) s3 (ps.map bu) s1 (by rw[bV];exact U) (by rw[bV];exact bX a0 rfl) (fun y bl=>by
  obtain ⟨p,Kb,rfl⟩:=g0.mp bl
  rw[fz];have:=ai p Kb;exact bX (ai _ Kb) rfl) (by have e:(S "...")=fP:=rfl;rw[e,s2];exact bX a0 rfl) n
theorem ta:(S "...").cps.toList=dS:=ma.1
theorem m5 (x y:Str):(x++y).cps.toList=x.cps.toList++y.cps.toList:=by rw[GW,GX]
namespace Cfg
variable {C:Cfg} {t:Nat}
theorem b3.o2 (h:b3 C t):t≤18:=by
 have:=Jl md h.y6
 have J:=C.ring.iZ
 have U:=C.eu
 have av:C.K*C.c≤6*3:=Nat.mul_le_mul J U
 exact c5 this av
theorem b3.sb (h:b3 C t):(C.tape t).length≤100:=by rw[mM];have:=h.o2;exact aH (lm 3 this)
theorem b3.t4 (h:b3 C t):46∉C.du t:=fun hm=>by
 obtain ⟨k,aj⟩:=afD hm
 exact (ya t k _ (fun j aP=>h.nC aP) aj).2.1 rfl
theorem ad2 (q j:Nat):46∉(C.word q j).cps.toList:=fun hm=>(Lm 46 hm).2 rfl
theorem LS {q j:Nat}:46∉(C.eF q j).cps.toList:=by
 rw[AB]
 intro hm
 rcases d3.mp hm with h|h
 ·exact fQ (eq1 h)
 ·exact ad2 q j h
theorem FG {l:List Nat} (h:46∉l) (k:Nat):46∉l.take k:=fun hm=>h (Ou hm)
theorem yH {l:List Nat} (h:46∉l) (k:Nat):46∉l.drop k:=fun hm=>h (Oy hm)
theorem b3.Sk (h:b3 C t) {q j:Nat} (aG:q<C.K) (aP:j<C.c) {sc:Scope} {w:W} (n:Nat):cn (n+200) ⟨bw,7,sc⟩ (aq 13) [.str (S "..."++jl q++C.word q j++S "..."),.str (C.tape t)] w=some (.bool (decide (j<C.us t q)),w):=by
 have hw:(S "..."++jl q++C.word q j++S "...").cps.toList=c' [[],(C.eF q j).cps.toList,[]]:=by
  rw[m5,m5,m5,ta,AB]
  show dS++[97+q]++(C.word q j).cps.toList++dS=[]++(dS++(((97+q)::(C.word q j).cps.toList)++(dS++[])))
  rfl
 have ai:(S "..."++jl q++C.word q j++S "...").length=9:=by
  rw[←hr,hw]
  show ([]++(dS++((C.eF q j).cps.toList++(dS++[])))).length=9
  have:=ua (C:=C) q j
  rw[←hr] at this
  simp only[eP,this]
  rfl
 rw[tc (ps:=[[],(C.eF q j).cps.toList,[]]) (by exact dm rfl) (by exact ib _ _) (fun p ag=>by
  simp only[d3,m1,or_false] at ag
  rcases ag with rfl|rfl|rfl
  ·simp
  ·exact LS
  ·simp) (fun p ag=>by
  simp only[d3,m1,or_false] at ag
  rcases ag with rfl|rfl|rfl
  ·simp
  ·rw[hr,ua];decide
  ·simp) (by have:=h.sb;exact bX this rfl) hw (by exact bX (b0 ai) rfl) n]
 congr 3
 have e:eU ([[],(C.eF q j).cps.toList,[]].map bu) (C.tape t)=eU [cm,C.eF q j,cm] (C.tape t):=by
  show eU [bu [],bu (C.eF q j).cps.toList,bu []] _=_
  rw[AV];rfl
 rw[e,hz,Sx (by rw[ua];decide),decide_eq_true_eq]
 have dh:=NG (C:=C) q j 0 t (e3 _)
 have h0:C.us 0 q=0:=rfl
 constructor
 ·rintro ⟨k,aj⟩
  obtain ⟨i,_,_,a,b,c⟩:=(h.AA aG aP (a3 _)).mp aj
  exact (dh.mp ⟨i,e3 _,a,b,c⟩).2
 ·intro dd
  obtain ⟨i,_,a,b,c⟩:=dh.mpr ⟨by exact mz h0 (ib _ _),dd⟩
  exact ⟨3*i,(h.AA aG aP (a3 _)).mpr ⟨i,rfl,by rw[mM];exact aH (lm 3 (bL a)),a,b,c⟩⟩
end Cfg
theorem MV {x:Str} {k:Nat} (h:k≤x.length):jt x (bu (x.cps.toList.take k))=true:=by
 rw[MU,pq,fz,jQ,BR,hr,mX h]
 exact ⟨by exact aH h,by rfl⟩
theorem II {x:Str} {k:Nat} (h:k≤x.length):ky x (bu (x.cps.toList.drop k))=true:=by
 rw[IJ,fz,jQ,jV,hr]
 exact ⟨by exact hC _ _,by congr 1;exact OF h⟩
namespace Cfg
variable {C:Cfg} {t:Nat}
noncomputable def fr (C:Cfg) (t k:Nat):List Nat:=(C.du t).take k
noncomputable def dR (C:Cfg) (t k:Nat):List Nat:=(C.du t).drop k
theorem b3.ih (h:b3 C t) {m:Nat} (hm:m≤C.c):3*C.H t m≤3*t:=by have:=(h.kD hm).1;exact Ag this
theorem yV {k:Nat} (h:k≤3*t+1):(C.fr t k).length=k:=by unfold fr;rw[BR,l5];exact mX (kz 1 (3*t)▸h)
theorem vb {k:Nat}:(C.dR t k).length=3*t+1-k:=by unfold dR;rw[jV,l5,kz]
theorem b3.Sl (h:b3 C t) {q j m:Nat} (aG:q<C.K) (aP:j<C.c) (hm:m<C.c) {sc:Scope} {w:W} (n:Nat):cn (n+200) ⟨bw,7,sc⟩ (aq 13) [.str (bu (C.fr t (3*C.H t m))++(S "..."++jl q++C.word q j++S "...")++bu (C.dR t (3*C.H t (m+1)))),.str (C.tape t)] w=some (.bool (decide (C.us (C.H t m) q≤j)&&decide (j<C.us (C.H t (m+1)) q)),w):=by
 have J:=h.ih (m:=m) (by exact fK hm)
 have U:=h.ih (m:=m+1) (by exact B1 hm)
 have av:=h.px (gF m) (by exact B1 hm)
 have aS:=h.o2
 have kO:(C.tape t).cps.toList=C.du t:=rfl
 generalize e6:C.H t m=a at*
 generalize kf:C.H t (m+1)=b at*
 have fl:(C.fr t (3*a)).length=3*a:=yV (by exact ph J)
 have kJ:(C.dR t (3*b)).length=3*t+1-3*b:=vb
 have hw:(bu (C.fr t (3*a))++(S "..."++jl q++C.word q j++S "...")++bu (C.dR t (3*b))).cps.toList=c' [C.fr t (3*a),(C.eF q j).cps.toList,C.dR t (3*b)]:=by
  simp only[m5,ta,AB,jQ]
  show C.fr t (3*a)++(dS++[97+q]++(C.word q j).cps.toList++dS)++C.dR t (3*b)=C.fr t (3*a)++(dS++(((97+q)::(C.word q j).cps.toList)++(dS++C.dR t (3*b))))
  simp
 have pl:(C.eF q j).cps.toList.length=3:=by rw[hr,ua]
 rw[tc (ps:=[C.fr t (3*a),(C.eF q j).cps.toList,C.dR t (3*b)]) (by exact dm rfl) (by exact ib _ _) (fun p ag=>by
  simp only[d3,m1,or_false] at ag
  rcases ag with rfl|rfl|rfl
  ·exact FG h.t4 _
  ·exact LS
  ·exact yH h.t4 _) (fun p ag=>by
  simp only[d3,m1,or_false] at ag
  rcases ag with rfl|rfl|rfl
  ·exact aH (aI (aI (lm 3 aS) J) (b0 fl))
  ·exact bX (b0 pl) rfl
  ·exact aH (aI (aI (lm 3 aS) (b0 kJ)) (hC (3*t+1) (3*b)))) (by have:=h.sb;exact bX this rfl) hw (by
   rw[←hr,hw]
   show (C.fr t (3*a)++(dS++((C.eF q j).cps.toList++(dS++C.dR t (3*b))))).length≤_
   simp only[eP,fl,kJ,pl]
   show 3*a+(3+(3+(3+_)))≤_
   exact aH (aI (aI (lm 3 aS) (lm 3 (bL av))) (eY (show 3*b≤3*t+1 from aH U)))) n]
 congr 3
 have e:eU ([C.fr t (3*a),(C.eF q j).cps.toList,C.dR t (3*b)].map bu) (C.tape t)=eU [bu (C.fr t (3*a)),C.eF q j,bu (C.dR t (3*b))] (C.tape t):=by
  show eU [bu _,bu (C.eF q j).cps.toList,bu _] _=_
  rw[AV]
 have jR:(C.tape t).length=1+3*t:=mM t
 have p7:(C.tape t).length-(bu (C.dR t (3*b))).length=3*b:=by rw[fz,kJ,jR];exact Mf U
 have key:=Sr (x:=C.tape t) (f:=bu (C.fr t (3*a))) (p:=C.eF q j) (b:=bu (C.dR t (3*b))) (by rw[ua];decide) (by rw[fz,kJ];exact Gw (GZ U)) (MV (x:=C.tape t) (k:=3*a) (by exact aH (aI J (eq1 jR)))) (II (x:=C.tape t) (k:=3*b) (by exact mz (fC p7) (uj (a3 _)))) (by rw[p7,fz,fl];exact Ag (fK av))
 rw[p7,fz,fl] at key
 rw[e,hz,key,mW,decide_eq_true_eq,decide_eq_true_eq,←NG q j a b (fK av)]
 constructor
 ·rintro ⟨k,aj,e6⟩
  obtain ⟨i,rfl,g1,g2,g3,c1⟩:=(h.AA aG aP (by exact mz (fC p7) (uj (a3 _)))).mp e6
  exact ⟨i,by lia,by lia,g3,c1⟩
 ·rintro ⟨i,g1,g2,g3,c1⟩
  exact ⟨3*i,by exact Ag g1,(h.AA aG aP (by exact mz (fC p7) (uj (a3 _)))).mpr ⟨i,rfl,by lia,by lia,g3,c1⟩⟩
theorem b3.Sm (h:b3 C t) {m k:Nat} (hm:m≤C.c) (aj:k≤C.c) {sc:Scope} {w:W} (n:Nat):cn (n+200) ⟨bw,7,sc⟩ (aq 13) [.str (bu (C.fr t (3*C.H t m+1))++S "..."++bu (C.dR t (3*C.H t k))),.str (C.tape t)] w=some (.bool (decide (m<k)),w):=by
 have J:=h.ih hm
 have U:=h.ih aj
 have aS:=h.o2
 have gJ:(3*C.H t m+1≤3*C.H t k)↔m<k:=by
  constructor
  ·intro z
   rcases Nat.lt_or_ge m k with y|y
   ·exact y
   ·rcases k' y with y|y
    ·have:=h.px y hm;exact fQ (aI z (lm 3 (bL this)))
    ·subst y;exact fQ z
  ·intro z;have:=h.px z aj;exact aH (lm 3 (bL this))
 generalize C.H t m=a at*
 generalize C.H t k=b at*
 have fl:(C.fr t (3*a+1)).length=3*a+1:=yV (by exact uQ J _)
 have kJ:(C.dR t (3*b)).length=3*t+1-3*b:=vb
 have hw:(bu (C.fr t (3*a+1))++S "..."++bu (C.dR t (3*b))).cps.toList=c' [C.fr t (3*a+1),C.dR t (3*b)]:=by
  simp only[m5,ta,jQ]
  show C.fr t (3*a+1)++dS++C.dR t (3*b)=C.fr t (3*a+1)++(dS++C.dR t (3*b))
  simp
 rw[tc (ps:=[C.fr t (3*a+1),C.dR t (3*b)]) (by exact dm rfl) (by exact ib _ _) (fun p ag=>by
  simp only[d3,m1,or_false] at ag
  rcases ag with rfl|rfl
  ·exact FG h.t4 _
  ·exact yH h.t4 _) (fun p ag=>by
  simp only[d3,m1,or_false] at ag
  rcases ag with rfl|rfl
  ·exact aH (aI (aI (lm 3 aS) J) (b0 fl))
  ·exact aH (aI (aI (lm 3 aS) (b0 kJ)) (hC (3*t+1) (3*b)))) (by have:=h.sb;exact bX this rfl) hw (by
   rw[←hr,hw]
   show (C.fr t (3*a+1)++(dS++C.dR t (3*b))).length≤_
   simp only[eP,fl,kJ]
   show 3*a+1+(3+_)≤_
   exact aH (aI (aI (lm 6 aS) J) (hC (3*t+1) (3*b)))) n]
 congr 3
 have jR:(C.tape t).length=1+3*t:=mM t
 have p7:(C.tape t).length-(bu (C.dR t (3*b))).length=3*b:=by rw[fz,kJ,jR];exact Mf U
 have key:=SD (x:=C.tape t) (f:=bu (C.fr t (3*a+1))) (b:=bu (C.dR t (3*b))) (by rw[fz,fl];exact sq _) (by rw[fz,kJ];exact ju (aH (aI U (fU (3*t+1) (3*b))))) (MV (x:=C.tape t) (k:=3*a+1) (by exact aH (aI J (eq1 jR)))) (II (x:=C.tape t) (k:=3*b) (by exact mz (fC p7) (uj (a3 _))))
 rw[p7,fz,fl] at key
 show eU [bu _,bu _] _=_
 rw[key,decide_eq_decide]
 exact gJ
end Cfg
namespace Cfg
variable {C:Cfg} {t:Nat}
noncomputable def cT (C:Cfg) (t a b:Nat):List Nat:=((C.du t).drop (3*a)).take (3*b+1-3*a)
theorem r6 {a b:Nat} (dv:a<b) (aa:b≤t):(C.cT t a b).length=3*(b-a)+1:=by
 unfold cT
 rw[BR,jV,l5,mX (Nat.sub_le_sub_right (aH (lm 3 aa)) _),Nat.mul_sub]
 exact Nat.sub_add_comm (lm 3 (fK dv))
theorem abS {a b:Nat} (dv:a<b) (aa:b≤t) (ag:C.ps a=0):(C.cT t a b).take 3=(97+0)::C.aL a:=by
 obtain ⟨suf,e⟩:=Ci (C:=C) (show a<t by exact hA dv aa)
 unfold cT
 have aj:3*a=(C.r0 a).length:=by rw[w8]
 rw[afE,mX (by exact aH (aI (lm 3 (bL dv)) (fU (3*b+1) (3*a)))),e,aj,xY,Ge,ag]
 congr 1
 rw[show 2=(C.aL a).length from (q0 a).symm,GS]
theorem b3.Cv (h:b3 C t) {m b i:Nat} (hm:m<C.c) (dv:C.H t m<b) (aa:b≤t) (e6:((C.du t).drop i).take (C.cT t (C.H t m) b).length=C.cT t (C.H t m) b):i=3*C.H t m:=by
 obtain ⟨g1,g2,g3⟩:=h.kD (m:=m) (by exact fK hm)
 generalize UH:C.H t m=a at*
 have ai:=r6 (C:=C) dv aa
 have av:((C.du t).drop i).take 3=(97+0)::C.aL a:=by
  rw[←abS dv aa g2,←e6,afE,mX (by exact aH (aI (aI (lm 3 (bL dv)) (eq1 ai)) (lm 3 (fU (b) (a)))))]
 obtain ⟨k,aj,rfl,ag,hw⟩:=Nb h (by decide) av (q0 a)
 have dh:=(h.step aj).1
 have Ki:=(h.step (show a<t by exact hA dv aa)).1
 unfold aL at hw
 rw[ag] at hw dh
 rw[g2] at hw Ki
 have hw:C.us k 0=C.us a 0:=by
  refine NP C.ring.oM dh Ki ?_
  apply B0
  apply xG.mp
  exact hw
 rw[g3] at hw
 have:=h.B9 (fK aj) ag
 rw[hw,UH] at this
 exact congrArg _ (fC this)
theorem A2 {a b:Nat} (dv:a<b) (aa:b≤t):((C.du t).drop (3*a)).take (C.cT t a b).length=C.cT t a b:=by
 rw[r6 dv aa]
 unfold cT
 congr 1
 exact f3 (aH (aI (fU (3*b+1) (3*a)) (lm 3 (eY (show a≤b from aH (bL dv)))))) (aH (aI (lm 3 (fU (b) (a))) (eY (show 3*a≤3*b+1 from aH (lm 3 (eY (show a≤b from aH (bL dv))))))))
theorem A3 (h:b3 C t) {a b:Nat}:46∉C.cT t a b:=FG (yH h.t4 _) _
theorem b3.Hj (h:b3 C t) {m:Nat} (hm:m≤C.c):C.H t m=0↔m=0:=by
 obtain ⟨_,_,g3⟩:=h.kD hm
 constructor
 ·intro z
  rw[z] at g3
  have:C.us 0 0=0:=rfl
  lia
 ·intro z;rw[z];exact h.Pc
theorem b3.Hi (h:b3 C t) {m:Nat} (hm:m≤C.c):C.H t m=t↔m=C.c:=by
 obtain ⟨_,_,g3⟩:=h.kD hm
 constructor
 ·intro z
  rw[z,h.ut] at g3
  exact fC g3
 ·intro z;rw[z];exact h.Hg
section
variable {m k:Nat} {sc:Scope} {w:W}
theorem b3.Sn (h:b3 C t) (gJ:m<k) (aj:k≤C.c) (n:Nat):cn (n+200) ⟨bw,7,sc⟩ (aq 13) [.str (bu (C.cT t (C.H t m) (C.H t k))++S "..."),.str (C.tape t)] w=some (.bool (decide (m=0)),w):=by
 have dv:=h.px gJ aj
 have aa:=(h.kD aj).1
 have a6:=h.Hj (m:=m) (by exact aH (aI (bL gJ) aj))
 have aS:=h.o2
 have pV:=fun i=>h.Cv (i:=i) (show m<C.c by exact hA gJ aj) dv aa
 have ai:=r6 (C:=C) dv aa
 have mq:=A2 (C:=C) dv aa
 generalize C.H t m=a at*
 generalize C.H t k=b at*
 have hw:(bu (C.cT t a b)++S "...").cps.toList=c' [C.cT t a b,[]]:=by
  simp only[m5,ta,jQ]
  show C.cT t a b++dS=C.cT t a b++(dS++[])
  simp
 rw[tc (ps:=[C.cT t a b,[]]) (by exact dm rfl) (by exact ib _ _) (fun p ag=>by
  simp only[d3,m1,or_false] at ag
  rcases ag with rfl|rfl
  ·exact A3 h
  ·simp) (fun p ag=>by
  simp only[d3,m1,or_false] at ag
  rcases ag with rfl|rfl
  ·exact aH (aI (aI (aI (lm 3 aS) (lm 3 aa)) (b0 ai)) (lm 3 (eY (show a≤b from aH (bL dv)))))
  ·simp) (by have:=h.sb;exact bX this rfl) hw (by
   rw[←hr,hw]
   show (C.cT t a b++(dS++[])).length≤_
   simp only[eP,ai]
   show 3*(b-a)+1+(3+0)≤_
   exact aH (aI (aI (lm 3 aS) (lm 3 aa)) (lm 3 (hC (b) (a))))) n]
 congr 3
 show eU [bu (C.cT t a b),cm] _=_
 rw[Su (by rw[fz,ai];exact sq _),hz,MU,pq,fz,jQ,decide_eq_true_eq,←a6]
 constructor
 ·rintro ⟨_,g⟩
  have:=pV 0 g
  exact f3 (yN 3 (eq1 this)) (by simp+arith only)
 ·intro z
  subst z
  refine ⟨by rw[ai,mM];exact aH (aI (lm 3 aa) (lm 3 (eY (show 0≤b from by simp+arith only)))),?_⟩
  exact mq
theorem b3.So (h:b3 C t) (gJ:m<k) (aj:k≤C.c) (n:Nat):cn (n+200) ⟨bw,7,sc⟩ (aq 13) [.str (S "..."++bu (C.cT t (C.H t m) (C.H t k))),.str (C.tape t)] w=some (.bool (decide (k=C.c)),w):=by
 have dv:=h.px gJ aj
 have aa:=(h.kD aj).1
 have a6:=h.Hi (m:=k) aj
 have aS:=h.o2
 have pV:=fun i=>h.Cv (i:=i) (show m<C.c by exact hA gJ aj) dv aa
 have ai:=r6 (C:=C) dv aa
 have mq:=A2 (C:=C) dv aa
 generalize C.H t m=a at*
 generalize C.H t k=b at*
 have hw:(S "..."++bu (C.cT t a b)).cps.toList=c' [[],C.cT t a b]:=by
  simp only[m5,ta,jQ]
  rfl
 rw[tc (ps:=[[],C.cT t a b]) (by exact dm rfl) (by exact ib _ _) (fun p ag=>by
  simp only[d3,m1,or_false] at ag
  rcases ag with rfl|rfl
  ·simp
  ·exact A3 h) (fun p ag=>by
  simp only[d3,m1,or_false] at ag
  rcases ag with rfl|rfl
  ·simp
  ·exact aH (aI (aI (aI (lm 3 aS) (lm 3 aa)) (b0 ai)) (lm 3 (eY (show a≤b from aH (bL dv)))))) (by have:=h.sb;exact bX this rfl) hw (by
   rw[←hr,hw]
   show ([]++(dS++C.cT t a b)).length≤_
   simp only[eP,ai]
   show 0+(3+(3*(b-a)+1))≤_
   exact aH (aI (aI (lm 3 aS) (lm 3 aa)) (lm 3 (hC (b) (a))))) n]
 congr 3
 show eU [cm,bu (C.cT t a b)] _=_
 have jR:(C.tape t).length=1+3*t:=mM t
 rw[Ss (by rw[fz,ai];exact sq _),hz,IJ,fz,jQ,decide_eq_true_eq,←a6,ai,jR]
 constructor
 ·rintro ⟨_,g⟩
  have g:(C.du t).drop (1+3*t-(3*(b-a)+1))=C.cT t a b:=g
  have:=pV _ (by rw[g,xE])
  exact f3 (aH aa) (yN 3 (aI (aI (b0 this) (fU (1+3*t) (3*(b-a)+1))) (lm 3 (eY (show a≤b from aH (bL dv))))))
 ·intro z
  subst z
  refine ⟨by exact aH (lm 3 (hC (b) (a))),?_⟩
  have e:1+3*b-(3*(b-a)+1)=3*a:=by exact f3 (aH (aI (lm 3 (fU (b) (a))) (eY (show 3*(b-a)+1≤1+3*b from aH (lm 3 (hC (b) (a))))))) (aH (aI (fU (1+3*b) (3*(b-a)+1)) (lm 3 (eY (show a≤b from aH (bL dv))))))
  show (C.du b).drop _=_
  rw[e,←mq,o']
  rw[jV,l5,ai];exact aH (aI (aI (b0 e) (fU (1+3*b) (3*(b-a)+1))) (eY (show 3*a≤1+3*b from aH (aI (eq1 e) (eY (show 3*(b-a)+1≤1+3*b from aH (lm 3 (eY (show a≤b from aH (bL dv))))))))))
theorem b3.Sp (h:b3 C t) (gJ:m<k) (aj:k≤C.c) (n:Nat):cn (n+200) ⟨bw,7,sc⟩ (aq 13) [.str (S "..."++bu (C.cT t (C.H t m) (C.H t k))++S "..."++bu (C.dR t (3*C.H t k))++S "..."),.str (C.tape t)] w=some (.bool false,w):=by
 have dv:=h.px gJ aj
 have aa:=(h.kD aj).1
 have aS:=h.o2
 have pV:=fun i=>h.Cv (i:=i) (show m<C.c by exact hA gJ aj) dv aa
 have ai:=r6 (C:=C) dv aa
 have mq:=A2 (C:=C) dv aa
 generalize C.H t m=a at*
 generalize C.H t k=b at*
 have kJ:(C.dR t (3*b)).length=3*t+1-3*b:=vb
 have hw:(S "..."++bu (C.cT t a b)++S "..."++bu (C.dR t (3*b))++S "...").cps.toList=c' [[],C.cT t a b,C.dR t (3*b),[]]:=by
  simp only[m5,ta,jQ]
  show dS++C.cT t a b++dS++C.dR t (3*b)++dS=[]++(dS++(C.cT t a b++(dS++(C.dR t (3*b)++(dS++[])))))
  simp
 rw[tc (ps:=[[],C.cT t a b,C.dR t (3*b),[]]) (by exact dm rfl) (by exact ib _ _) (fun p ag=>by
  simp only[d3,m1,or_false] at ag
  rcases ag with rfl|rfl|rfl|rfl
  ·simp
  ·exact A3 h
  ·exact yH h.t4 _
  ·simp) (fun p ag=>by
  simp only[d3,m1,or_false] at ag
  rcases ag with rfl|rfl|rfl|rfl
  ·simp
  ·exact aH (aI (aI (aI (lm 3 aS) (b0 ai)) (lm 3 (eY (show a≤b from aH (bL dv))))) (eY (show 3*b≤3*t+1 from aH (lm 3 aa))))
  ·exact aH (aI (aI (lm 3 aS) (b0 kJ)) (hC (3*t+1) (3*b)))
  ·simp) (by have:=h.sb;exact bX this rfl) hw (by
   rw[←hr,hw]
   show ([]++(dS++(C.cT t a b++(dS++(C.dR t (3*b)++(dS++[])))))).length≤_
   simp only[eP,ai,kJ]
   show 0+(3+(3*(b-a)+1+(3+(3*t+1-3*b+(3+0)))))≤_
   exact aH (aI (aI (lm 3 aS) (lm 3 (eY (show a≤b from aH (bL dv))))) (eY (show 3*b≤3*t+1 from aH (lm 3 aa))))) n]
 congr 3
 have jR:(C.tape t).length=1+3*t:=mM t
 show eU [cm,bu (C.cT t a b),bu (C.dR t (3*b)),cm] _=_
 refine SA (k:=3*a) (pq.mpr ?_) (fun i aB e6=> ?_) fun i aB e6=> ?_
 ·rw[fz,jQ,ai,jR]
  refine ⟨by exact aH (aI (lm 3 aa) (lm 3 (eY (show a≤b from aH (bL dv))))),?_⟩
  rw[ai] at mq;exact mq
 ·have e6:=(pq.mp e6).2
  rw[fz,jQ] at e6
  have:=pV i e6
  exact fQ (aI (bL aB) (eq1 this))
 ·have e6:=e6.1
  rw[fz,kJ,jR] at e6
  rw[fz,ai] at aB
  exact fQ (aI (aI (aI aB e6) (lm 3 (fU (b) (a)))) (fU (3*t+1) (3*b)))
theorem Cj (h:b3 C t): ∀x∈C.du t,x<128:=fun x ae=>by
 obtain ⟨k,aj⟩:=afD ae
 exact (ya t k _ (fun j aP=>h.nC aP) aj).1
theorem LO {l:List Nat} (h: ∀x∈l,x<128):d8 (bu l)=true:=by
 unfold d8
 rw[Gz]
 intro x ae
 have:=h x (by simpa [bu] using ae)
 exact decide_eq_true (by exact iA this rfl)
theorem b3.Sq (h:b3 C t) (gJ:m<k) (aj:k≤C.c) (n:Nat):cn (n+200) ⟨bw,7,sc⟩ (aq 13) [.str (bu (C.cT t (C.H t m) (C.H t k))),.str (C.tape t)] w=some (.bool (decide (m=0)&&decide (k=C.c)),w):=by
 have dv:=h.px gJ aj
 have aa:=(h.kD aj).1
 have Wi:=h.Hj (m:=m) (by exact aH (aI (bL gJ) aj))
 have a6:=h.Hi (m:=k) aj
 have ai:=r6 (C:=C) dv aa
 have mq:=A2 (C:=C) dv aa
 generalize C.H t m=a at*
 generalize C.H t k=b at*
 have kO:C.tape t=bu (C.du t):=(AV _).symm
 have v3:iF (.str (S "...")) (.str (bu (C.cT t a b)))=some false:=by
  show some (!(occurrences (bu (C.cT t a b)) fP 0 (bu (C.cT t a b)).length 1).isEmpty)=some false
  rw[LF]
  ·rfl
  ·intro i _ e6
   have:=HM (c:=46) (r:=[46,46]) ma.1 e6
   exact A3 h (iK this)
 have heq:eX (.str (bu (C.cT t a b))) (.str (C.tape t))=some (decide (m=0)&&decide (k=C.c)):=by
  have aV:d8 (bu (C.cT t a b))=true:=LO fun x ae=>Cj h x (Oy (Ou ae))
  rw[kO,AH _ _ aV (LO (Cj h))]
  congr 1
  rw[hz,beq_iff_eq,mW,decide_eq_true_eq,decide_eq_true_eq,←a6,←Wi]
  constructor
  ·intro z
   have e:C.cT t a b=C.du t:=congrArg (fun x:Str=>x.cps.toList) z
   have:=congrArg sm e
   rw[ai,l5] at this
   exact ⟨f3 (yN 3 (aI (aI (lm 3 aa) (eq1 this)) (lm 3 (eY (show a≤b from aH (bL dv)))))) (by simp+arith only),f3 (aH aa) (yN 3 (aI (eq1 this) (lm 3 (eY (show a≤b from aH (bL dv))))))⟩
  ·rintro ⟨rfl,rfl⟩
   congr 1
   rw[←mq,ai,o']
   ·rfl
   ·rw[jV,l5];exact b0 (kz _ _)
 exact Sz (d:=6) v3 _ heq n
end
end Cfg
theorem Rt (c:Nat): ∀l:List Nat,PyProof.Rows.cnt c l=(l.count c:Int):=by
 intro bq
 induction bq with
 |nil=>
  exact rfl
 |cons a l ay=>
  rw[PyProof.Rows.cnt_cons,ay,qI]
  by_cases h:a=c
  ·simp[h];exact nU _ _
  ·simp[h]
theorem Rw (x:Str):Bt x (S "\n")=(x.cps.toList.count 10:Int):=by
 have e:S "\n"=⟨#[10]⟩:=by decide
 rw[e,count_is]
 exact Rt 10 _
theorem wx: ∀ts:List Str,(gq cm ts).cps.toList=(ts.map fun t=>t.cps.toList).flatten
 |[]=>rfl
 |[x]=>by
  show (glued cm [x]).cps.toList=_
  rw[OX]
  simp[Str.join]
 |x::y::r=>by
  have ay:=wx (y::r)
  have ay:(glued cm (y::r)).cps.toList=_:=ay
  rw[OX] at ay
  show (glued cm (x::y::r)).cps.toList=_
  rw[OX]
  show (x++cm++Str.join cm (y::r)).cps.toList=_
  rw[m5,m5,ay]
  show x.cps.toList++[]++_=_
  rw[fF]
  rfl
theorem W5 {ts:List Str} (h:ts.length≤10) (ai: ∀t∈ts,t.length≤20):qB cm ts=true∧(gq cm ts).length≤200:=by
 have aC: ∀ts:List Str,(∀t∈ts,t.length≤20)→(ts.map (·.length)).sum≤20*ts.length:=by
  intro ts
  induction ts with
  |nil=>intro _;exact a3 _
  |cons a ts ay=>
   intro h
   have:=ay fun t aS=>h t (e0 _ aS)
   have:=h a eZ
   rw[fD,xD,la]
   lia
 have J:=aC ts ai
 constructor
 ·unfold qB
  rw[joinTotal,qt]
  unfold agF sizeLine
  rw[qE,decide_eq_false_iff_not]
  lia
 ·have: ∀ts:List Str,((ts.map fun t=>t.cps.toList).flatten).length=(ts.map (·.length)).sum:=by
   intro ts
   induction ts with
   |nil=>rfl
   |cons a ts ay=>rw[fD,afv,eP,ay,hr,fD,xD]
  rw[←hr,wx,this]
  exact aH (aI (lm 20 h) J)
namespace Cfg
variable {C:Cfg} {t:Nat}
theorem Nt {p j:Nat}:(C.fJ p j).length≤10∧d8 (C.fJ p j)=true:=ad7 (qN _ (by decide)) (C.AR p j) (C.AJ p j) _
noncomputable def hS (C:Cfg) (p u:Nat):List Str:=(bI u).map (C.fJ p)
theorem X6 (p:Nat): ∀u,C.ln p u=1+(((C.hS p u).map fun t=>t.cps.toList).flatten.count 10:Nat):=by
 intro bq
 induction bq with
 |zero=>
  exact rfl
 |succ u ay=>
  rw[ln,Pz,ay]
  unfold hS
  rw[lZ,mY,mY,List.flatten_append,ae7]
  unfold Ak
  simp
  exact Int.add_assoc _ _ _
theorem X3 (p u:Nat):eX (.int (C.iz p u).line) (.int (1+Bt (gq cm (C.hS p u)) (S "\n")))=some true:=by
 rw[AG,Rw,wx]
 show some (decide (C.ln p u=_))=_
 rw[X6,decide_eq_true rfl]
theorem Nu (p u:Nat) (dh:u≤3):qB cm (C.hS p u)=true∧(gq cm (C.hS p u)).length≤200:=W5 (by unfold hS;rw[bV,fE];exact bX dh rfl) fun t aS=>by
 obtain ⟨j,_,rfl⟩:=g0.mp aS
 have:=(Nt (C:=C) (p:=p) (j:=j)).1
 exact bX this rfl
theorem adq (p u:Nat):d8 (gq cm (C.hS p u))=true:=by
 unfold d8
 rw[Gz]
 intro x ae
 have ae:x∈(gq cm (C.hS p u)).cps.toList:=by simpa using ae
 rw[wx,List.mem_flatten] at ae
 obtain ⟨l,ai,ae⟩:=ae
 obtain ⟨s,aC,rfl⟩:=g0.mp ai
 obtain ⟨j,_,rfl⟩:=g0.mp aC
 have:=(Nt (C:=C) (p:=p) (j:=j)).2
 unfold d8 at this
 rw[Gz] at this
 exact this x (by simpa using ae)
theorem aaV (p:Nat):C.nN p 0=(gq cm (C.hS p C.c)).cps.toList:=by
 rw[wx]
 unfold nN hS
 rw[qK,OP,afF]
 rfl
end Cfg
theorem acy: ∀l:List I,(∀p∈l,∃i,p= .int i)→ ∃s,nP l=some s:=by
 intro bq
 induction bq with
 |nil=>
  intro _
  exact ⟨0,rfl⟩
 |cons p l ay=>
  intro h
  obtain ⟨i,rfl⟩:=h p eZ
  obtain ⟨s,aC⟩:=ay fun q aG=>h q (e0 _ aG)
  exact ⟨i+s,by rw[nP,aC];rfl⟩
theorem abx (dB:List Int) (h:dB.length≤1000) (n:Nat): ∃L s,e' (.list (dB.map .int)) (ak n) .none (.int 6)=some (.list L)∧nP L=some s:=by
 have e:e' (.list (dB.map .int)) (ak n) .none (.int 6)=if (some (6:Int))≠some 0∧(dB.map I.int).length≤1048576 then some (.list (ql (dB.map .int) (some (n:Int)) none (some 6))) else none:=rfl
 obtain ⟨s,aC⟩:=acy (ql (dB.map .int) (some (n:Int)) none (some 6)) fun p ag=>by
  unfold ql at ag
  obtain ⟨k,_,aj⟩:=List.mem_filterMap.mp ag
  rw[dF,o9] at aj
  obtain ⟨i,_,rfl⟩:=aj
  exact ⟨i,rfl⟩
 exact ⟨_,s,by rw[e,if_pos ⟨by decide,by rw[bV];exact bX h rfl⟩],aC⟩
theorem B5 (a:Nat):I.int ((a:Int)*1048576)=cY a:=by
 unfold cY
 congr 1
structure O3 (dB:List Int) (d:Nat→Int):Prop where
 ex: ∀n,ex (n+100) cQ (lw 0) [(S "script",.val (.list (dB.map .int)))] []=some (.next,[(S "script",.val (.list (dB.map .int))),(S "drawn",.own [.int (d 0),.int (d 1),.int (d 2),.int (d 3),.int (d 4),.int (d 5)])],[])
theorem RT (dB:List Int) (h:dB.length≤63): ∃d,O3 dB d:=by
 have ag:=fun n=>abx dB (by exact bX h rfl) n
 have dz: ∃L:Nat→List I,∃s:Nat→Int,∀n,e' (.list (dB.map .int)) (ak n) .none (.int 6)=some (.list (L n))∧nP (L n)=some (s n):=by
  refine ⟨fun n=>afG (ag n),fun n=>afG (OY (ag n)),fun n=>OY (OY (ag n))⟩
 obtain ⟨L,s,vN⟩:=dz
 have key:=RS (w:=[]) (.list (dB.map .int)) L s (fun n _=>(vN n).1) (fun n _=>(vN n).2)
 exact ⟨fun k=>[(s 0+1796).fmod 1000000,(s 1+204).fmod 1000000,(s 2+2475).fmod 1000000,(s 3+50734).fmod 1000000,(s 4+160081).fmod 1000000,(s 5+240920).fmod 1000000].getD k 0,⟨key⟩⟩
noncomputable def dL (d:Nat→Int):List I:=[.int (d 0),.int (d 1),.int (d 2),.int (d 3),.int (d 4),.int (d 5)]
theorem yE (d:Nat→Int) {k:Nat} (h:k<6):cz (.list (dL d)) (.int (k:Int))=some (.int (d k)):=by
 refine iY ?_ (by exact iA h rfl)
 rcases nC h with rfl|rfl|rfl|rfl|rfl|rfl<;>rfl
theorem Zf {k s:Nat} {q:Int} (h:q.fmod 6=s):((k:Int)+q).fmod 6=(((k+s)%6:Nat):Int):=by
 rw[aft _ (by decide)] at h⊢
 rw[nU,←Int.emod_add_emod,h,nU]
 rfl
noncomputable def kq (d:Nat→Int) (p j:Nat):Int:=(d (3+j)).fdiv (8^p)
theorem Bg {x:Int} {b:Nat} (h:0<b):x.fmod b=((x.fmod b).toNat:Int)∧(x.fmod b).toNat<b:=by
 obtain ⟨k,J,U⟩:=om (a:=x) h
 rw[J]
 exact ⟨by simp,by simpa using U⟩
noncomputable abbrev lp (dB:List Int):I:= .list (dB.map .int)
theorem Z8 (dB:List Int) (h:dB.length≤63): ∃(d:Nat→Int) (C:Cfg) (v:I),(∀p j,C.r2 p j=((kq d p j).fmod 2).toNat)∧(∀p j,C.jO p j=(((kq d p j).fdiv 2).fmod 4).toNat)∧
  ∀n,b1 (n+1999) cQ (aq 22).body [(S "script",.val (lp dB))] []=b1 (n+1994) cQ ((aq 22).body.drop 5) (ym (lp dB) (dL d) (C.R.map cM) v ((Cfg.dK C.s).map .str) (cp C.rows)) []:=by
 obtain ⟨d,⟨gg⟩⟩:=RT dB h
 obtain ⟨a,a1,a2⟩:=om (a:=(d 0).fdiv 1) (b:=17) (by decide)
 obtain ⟨b,gs,j5⟩:=om (a:=(d 0).fdiv 17) (b:=17) (by decide)
 obtain ⟨c,dz,de⟩:=om (a:=(d 0).fdiv 289) (b:=17) (by decide)
 have aF:=aa0 (w:=[]) (lp dB) [.int (d 1),.int (d 2),.int (d 3),.int (d 4),.int (d 5)] .none .none .none (d 0) (a:Int) (b:Int) (c:Int) a1 gs dz
 rw[B5,B5,B5] at aF
 obtain ⟨v,aE⟩:=aa4 (w:=[]) (lp dB) (dL d) a b c
 obtain ⟨K,et,R,afO⟩:=aa1 a2 j5 de
 obtain ⟨s,s1,s2⟩:=om (a:=(d 1).fdiv 240) (b:=6) (by decide)
 have cb:=Zd (w:=[]) (lp dB) (dL d) ((h7 a b c).map cM) v (d 1) ((d 1).fdiv 240) (fun k=>(k+s)%6) (fun k _=>qN _ (by decide)) (yE d (k:=1) (by decide)) rfl (fun k _=>Zf s1)
 obtain ⟨rows,pi,a4,bH,gk,hP,oX,qm⟩:=abk (pick:=d 1) (order:=d 2) R.oM R.iZ (d:=6) (sc:=(aq 22).scope) (w:=[])
 obtain ⟨d0,eu,hc⟩:=om (a:=d 1) (b:=2) (by decide)
 have eu:(d 1).fmod 2=d0:=eu
 have hlen:=nd (l:=(h7 a b c).map cM) (by rw[bV,R.len];have:=R.iZ;exact bX this rfl)
 rw[bV,R.len] at hlen
 have eo:=abj (w:=[]) (lp dB) (dL d) ((h7 a b c).map cM) ((Cfg.dK s).map .str) v (.int (d 1)) (.int (d 2)) (.int (K:Int)) (cp rows) (yE d (k:=1) (by decide)) (yE d (k:=2) (by decide)) hlen qm
 refine ⟨d,⟨K,pi.length,s,h7 a b c,et,rows,pi,fun p j=>((kq d p j).fmod 2).toNat,fun p j=>(((kq d p j).fdiv 2).fmod 4).toNat,R,by omega,by omega,s2,a4,oX,bH,gk,rfl,fun p j=>(Bg (by decide)).2,fun p j=>(Bg (by decide)).2⟩,v,fun _ _=>rfl,fun _ _=>rfl,fun n=> ?_⟩
 have aa:(aq 22).body=lw 0::lw 1::lw 2::lw 3::lw 4::(aq 22).body.drop 5:=by kernel_rfl
 rw[aa,cZ (D:=1998) gg (by decide)]
 rw[cZ (D:=1997) aF (by decide)]
 have g2:=cZ (D:=1996) (r:=lw 3::lw 4::(aq 22).body.drop 5) aE (by decide) n
 refine g2.trans ?_
 have g3:=cZ (D:=1995) (r:=lw 4::(aq 22).body.drop 5) cb (by decide) n
 refine g3.trans ?_
 have c1:=cZ (D:=1994) (r:=(aq 22).body.drop 5) eo (by decide) n
 exact c1
section
variable {C:Cfg}
theorem xj {p:Nat} (h:p<C.K):cz (cp C.rows) (ak p)=some (bJ (C.row p)):=w7 (Cfg.r1 h).1 (by have:=C.ring.iZ;exact aH (aI (bL h) this))
theorem Mt {p j:Nat} (h:p<C.K) (aP:j<C.c):cz (bJ (C.row p)) (ak j)=some (ak (C.kd p j)):=LY (Cfg.rL h aP) (by have:=C.eu;exact aH (aI (bL aP) this))
theorem Cd {s k:Nat} (aj:k<6):cz (.list ((Cfg.dK s).map .str)) (ak k)=some (.str (nm s k)):=iY (by unfold Cfg.dK;rw[dF,dF,jv aj];rfl) (by exact iA aj rfl)
noncomputable def gW (C:Cfg):List I:=(bI C.K).map fun p=> .list ((bI C.c).map fun j=> .str (C.fJ p j))
theorem Z9 (d:Nat→Int) (a7: ∀p j,C.r2 p j=((kq d p j).fmod 2).toNat) (aG: ∀p j,C.jO p j=(((kq d p j).fdiv 2).fmod 4).toNat) (X v:I): ∃u St,∀n,
  b1 (n+1994) cQ ((aq 22).body.drop 5) (ym X (dL d) (C.R.map cM) v ((Cfg.dK C.s).map .str) (cp C.rows)) []=
  b1 (n+1988) cQ ((aq 22).body.drop 11) (hE X (dL d) (C.R.map cM) v ((Cfg.dK C.s).map .str) (cp C.rows) (ak C.c) (C.goes.map bJ) (gW C) u St [(S "lexers",.own (fT C.K)),(S "tape",.val (.str (S "a"))),(S "place",.val (.int 0))]) (C.dN fun _=>0):=by
 have cj:=C.ring.iZ
 have gU:=C.ring.oM
 have ey:=C.eu
 have zf:gd (ab "len") [.list (C.R.map cM)]=some (.int (C.K:Int)):=by
  have:=nd (l:=C.R.map cM) (by rw[bV,C.ring.len];exact bX cj rfl)
  rw[bV,C.ring.len] at this
  exact this
 have gG:=Rv (w:=[]) X (dL d) (C.R.map cM) ((Cfg.dK C.s).map .str) ((C.row 0).map ak) v (ak C.c) (cp C.rows) (xj gU) (by
  have:=nd (l:=(C.row 0).map ak) (by rw[bV,Cfg.qp gU];exact bX ey rfl)
  rw[bV,Cfg.qp gU] at this
  exact this)
 have ka:=Ur (w:=[]) X (dL d) (C.R.map cM) ((Cfg.dK C.s).map .str) v (ak C.c) (cp C.rows) C.K cj zf (fun p=>(C.row p).map fun k=>C.et k p) (fun p ag m=>by
  refine Ut X (dL d) (C.R.map cM) ((Cfg.dK C.s).map .str) v (ak C.c) (cp C.rows) (ak p) (C.row p) (by rw[Cfg.qp ag];exact bX ey rfl) (fun k=>C.et k p) (xj ag) (fun k aj m=> ?_) m
  have zr:k<6:=C.AE _ ((C.perm _ (Cfg.r1 ag).2).mem_iff.mp aj)
  obtain ⟨Tl,a4,bH,gk⟩:=Mm ag
  obtain ⟨a,b,c,rfl,aJ,aa,ah,hP⟩:=gk k zr
  have mN:=fun n=>FN zr (n:=n) (d:=6) (sc:=pS) (w:=[]) (cY a) (cY b) (cY c)
  rw[uu] at mN
  exact Us X (dL d) (C.R.map cM) ((Cfg.dK C.s).map .str) v (ak C.c) (cp C.rows) (ak p) (ak k) (cM [a,b,c]) (cM (turn k a b c)) (C.et k p) bH mN hP m)
 have DO:((bI C.K).map fun p=>bJ ((C.row p).map fun k=>C.et k p))=C.goes.map bJ:=by
  unfold Cfg.goes
  rw[qK];rfl
 rw[DO] at ka
 have kL:=acK (w:=[]) X (dL d) (C.R.map cM) ((Cfg.dK C.s).map .str) v (ak C.c) (cp C.rows) (C.goes.map bJ)
 obtain ⟨u,o,lu⟩:=acL (w:=[]) X (dL d) (C.R.map cM) ((Cfg.dK C.s).map .str) v (cp C.rows) (C.goes.map bJ) C.c C.K ey cj gU zf (fun p j=> .str (C.fJ p j)) (kq d)
  (fun p ag T o j aP m=>by
   have ew:cv .Pow (.int 8) (ak p)=some (.int (8^p)):=aas (by exact aH (aI cj (bL ag))) (by decide)
   have fR:cv .FloorDiv (.int (d (3+j))) (.int (8^p))=some (.int (kq d p j)):=by
    have:=L0 (p:=p) (b:=8) (by exact aH (aI cj (bL ag))) (by decide) (by decide)
    exact vG this _
   have av:cz (.list (dL d)) (.int ((3:Int)+(j:Int)))=some (.int (d (3+j))):=by
    have:=yE d (k:=3+j) (by exact aH (aI ey (bL aP)))
    rw[show (((3+j:Nat):Int))=(3:Int)+(j:Int) by exact afh rfl rfl] at this
    exact this
   exact acs X (dL d) (C.R.map cM) ((Cfg.dK C.s).map .str) v (ak C.c) (cp C.rows) (C.goes.map bJ) T o j p (d (3+j)) (kq d p j) _ _ rfl av ew fR m)
  (fun p ag T j aP m=>by
   have aj:=Cfg.tO ag aP
   have g1:=Bg (x:=kq d p j) (b:=2) (by decide)
   have g2:=Bg (x:=(kq d p j).fdiv 2) (b:=4) (by decide)
   have hw:=fun m=>ad8 (i:=(C.kd p j+C.s)%6) (qN _ (by decide)) (r:=C.r2 p j) (q:=C.jO p j) (st:=kq d p j) (by rw[a7];exact g1.1) (by rw[aG];exact g2.1) (C.AR p j) (C.AJ p j) (decide (j+1=C.c)) (d:=6) (sc:=nQ) (w:=[]) (n:=m)
   exact acJ X (dL d) (C.R.map cM) ((Cfg.dK C.s).map .str) v (ak C.c) (cp C.rows) (C.goes.map bJ) T ((bI C.c).map fun j=> .int (kq d p j)) (ak p) (ak j) (bJ (C.row p)) (ak (C.kd p j)) (.str (nm C.s (C.kd p j))) (.int (kq d p j)) (.str (C.fJ p j)) (decide (j+1=C.c)) (xj ag) (Mt ag aP) (Cd aj)
    (iY (by rw[dF,jv aP];rfl) (by exact aH (aI ey (bL aP)))) (ak (j+1)) rfl (vv.eq (by decide) trivial trivial) hw m)
 have aS: ∀t∈(bI C.K).map fun p=>C.hS p C.c,qB cm t=true∧(gq cm t).length≤1048576∧d8 (gq cm t)=true:=fun t aS=>by
  obtain ⟨p,_,rfl⟩:=g0.mp aS
  have:=Cfg.Nu (C:=C) p C.c ey
  exact ⟨this.1,by exact aH this.2,Cfg.adq p C.c⟩
 have lc:=XR X (dL d) (C.R.map cM) ((Cfg.dK C.s).map .str) v (ak C.c) (cp C.rows) (C.goes.map bJ) (gW C) u o ((bI C.K).map fun p=>C.hS p C.c) aS []
 have cB:((bI C.K).map fun p=>C.hS p C.c).map (fun t=>I.list (t.map .str))=gW C:=by
  unfold gW Cfg.hS
  rw[qK]
  apply BG
  intro p _
  show I.list (((bI C.c).map (C.fJ p)).map .str)=_
  rw[qK];rfl
 have UX:([]:W)++((bI C.K).map fun p=>C.hS p C.c).map (fun t=>(⟨(gq cm t).cps.toList,1,[]⟩:cf))=C.dN fun _=>0:=by
  unfold Cfg.dN
  rw[BK,qK]
  apply BG
  intro p _
  show (⟨(gq cm (C.hS p C.c)).cps.toList,1,[]⟩:cf)=C.iz p 0
  unfold Cfg.iz
  rw[Cfg.aaV];rfl
 have iu:(sD ([]:W).length ((bI C.K).map fun p=>C.hS p C.c).length).map I.obj=fT C.K:=by
  unfold fT
  rw[bV,fE,afF];rfl
 rw[cB,UX,iu,bV,fE] at lc
 have oc:=XT (w:=[]) (w1:=C.dN fun _=>0) X (dL d) (C.R.map cM) ((Cfg.dK C.s).map .str) v (ak C.c) (cp C.rows) (C.goes.map bJ) (gW C) u o (fT C.K) (by unfold gW;rw[bV,fE];exact bX cj rfl) (fun n=>by
  have:=lc (n+(39-C.K))
  rw[show n+(39-C.K)+60+C.K+1=n+100 by exact f3 (aH (eY (show C.K≤39 from aH cj))) (aH (fU (39) (C.K)))] at this
  exact this)
 have pN:=acG (w:=C.dN fun _=>0) X (dL d) (C.R.map cM) ((Cfg.dK C.s).map .str) v (ak C.c) (cp C.rows) (C.goes.map bJ) (gW C) u o (fT C.K)
 refine ⟨u,o,fun n=> ?_⟩
 have aa:(aq 22).body.drop 5=lw 5::lw 6::lw 7::lw 8::lw 9::lw 10::(aq 22).body.drop 11:=by kernel_rfl
 rw[aa]
 refine (cZ (D:=1993) gG (by decide) n).trans ?_
 refine (cZ (D:=1992) ka (by decide) n).trans ?_
 refine (cZ (D:=1991) kL (by decide) n).trans ?_
 refine (cZ (D:=1990) lu (by decide) n).trans ?_
 refine (cZ (D:=1989) oc (by decide) n).trans ?_
 exact cZ (D:=1988) pN (by decide) n
end
section
variable {C:Cfg} {t:Nat}
theorem x4 (h:Cfg.b3 C t) {m:Nat} (hm:m≤C.c):cz (.list ((C.jx t).map ak)) (ak m)=some (ak (3*C.H t m)):=iY (by rw[dF,h.Pb hm];rfl) (by have:=C.eu;exact aH (aI hm this))
theorem QL (h:Cfg.b3 C t) {k:Nat} (aj:k<3*t+1): ∃ch,cz (.str (C.tape t)) (ak k)=some ch∧eX ch (.str (S "a"))=some (Cfg.isA (C.du t) k):=by
 have ai:k<(C.du t).length:=by rw[Cfg.l5];exact aH (bL aj)
 have ah:(C.tape t).cps[k]?=some (C.du t)[k]:=by
  rw[←afw]
  exact hy ai
 have aS:=h.o2
 refine ⟨.str ⟨#[(C.du t)[k]]⟩,?_,?_⟩
 ·show (if small (k:Int) then ((seqIndex? (k:Int) (C.tape t).length).bind ((C.tape t).cps[·]?)).map fun c=>I.str ⟨#[c]⟩ else none)=_
  rw[r7 (by exact aH (aI (bL aj) (lm 3 aS))),if_pos rfl,Fm (by rw[Cfg.mM];exact aH (bL aj))]
  show ((C.tape t).cps[k]?).map _=_
  rw[ah];rfl
 ·rw[AH _ _ (Cfg.yw (Cfg.Cj h _ (uR ai))) (by decide+kernel),Cfg.QM]
  unfold Cfg.isA
  rw[hy ai]
  congr 1
  rw[decide_eq_decide]
  constructor
  ·intro z;rw[z]
  ·intro z;injection z
theorem Z' (d:Nat→Int) (X v u:I) (St:List I): ∃t kd z mv,Cfg.b3 C t∧ ∀n,
  b1 (n+1988) cQ ((aq 22).body.drop 11) (hE X (dL d) (C.R.map cM) v ((Cfg.dK C.s).map .str) (cp C.rows) (ak C.c) (C.goes.map bJ) (gW C) u St [(S "lexers",.own (fT C.K)),(S "tape",.val (.str (S "a"))),(S "place",.val (.int 0))]) (C.dN fun _=>0)=
  b1 (n+1984) cQ ((aq 22).body.drop 15) (iP X (dL d) (C.R.map cM) kd ((Cfg.dK C.s).map .str) (cp C.rows) (ak C.c) (cp C.goes) (gW C) u St (fT C.K) (C.tape t) (ak 0) z (.str (S "")) mv ((C.jx t).map ak) [(S "met",.val (bJ (hM C.goes C.goes.length)))]) (C.dN (C.us t)):=by
 obtain ⟨t,kd,z,mv,g1,g2,en⟩:=adT (C:=C) X (dL d) v (cp C.rows) (ak C.c) (C.goes.map bJ) (gW C) u St
 have h:Cfg.b3 C t:=⟨g1,g2⟩
 have aS:=h.o2
 have ey:=C.eu
 have V5:(C.dE t).2=C.us t:=rfl
 rw[V5] at en
 have hw: ∀b,jT C X (dL d) kd (cp C.rows) (ak C.c) (C.goes.map bJ) (gW C) u St (C.tape t) (ak 0) z (some (.str (S ""),b))=n4 X (dL d) (C.R.map cM) kd ((Cfg.dK C.s).map .str) (cp C.rows) (ak C.c) (C.goes.map bJ) (gW C) u St (fT C.K) (C.tape t) (ak 0) z (.str (S "")) b []:=fun _=>rfl
 rw[hw] at en
 have b5:=VE (w:=C.dN (C.us t)) (X:=X) (D:=dL d) (R:=C.R.map cM) (kd:=kd) (N:=(Cfg.dK C.s).map .str) (rows:=cp C.rows) (cnt:=ak C.c) (G:=C.goes.map bJ) (T:=gW C) (u:=u) (St:=St) (L:=fT C.K) (tape:=C.tape t) (pl:=ak 0) (z:=z) (wd:= .str (S "")) (mv:=mv) (3*t+1) (by rw[Cfg.mM];exact kz _ _) (by exact aH (lm 3 aS)) (Cfg.isA (C.du t)) (fun k aj=>QL h aj)
 have UO:(bI (3*t+1)).filter (Cfg.isA (C.du t))=C.jx t:=rfl
 rw[UO] at b5
 have JX:=nd (l:=(C.jx t).map ak) (by rw[bV,h.Hf];exact yd ey (a3 _) rfl)
 rw[bV,h.Hf] at JX
 have d9:=QN (w:=C.dN (C.us t)) (X:=X) (D:=dL d) (R:=C.R.map cM) (kd:=kd) (N:=(Cfg.dK C.s).map .str) (rows:=cp C.rows) (cnt:=ak C.c) (G:=C.goes.map bJ) (T:=gW C) (u:=u) (St:=St) (L:=fT C.K) (tape:=C.tape t) (pl:=ak 0) (z:=z) (wd:= .str (S "")) (mv:=mv) _ ((C.jx t).map ak) true true (ak (C.c+1)) (by rw[AH _ _ (by decide+kernel) (by decide+kernel)];rfl) (nM 0) JX rfl ((vv.eq (x:=C.c+1) (y:=C.c+1) (by decide) trivial trivial).trans (congrArg some (decide_eq_true rfl)))
 have rf:=Yv (w:=C.dN (C.us t)) (X:=X) (D:=dL d) (R:=C.R.map cM) (kd:=kd) (N:=(Cfg.dK C.s).map .str) (rows:=cp C.rows) (cnt:=ak C.c) (T:=gW C) (u:=u) (St:=St) (L:=fT C.K) (tape:=C.tape t) (pl:=ak 0) (z:=z) (wd:= .str (S "")) (mv:=mv) (HP:=(C.jx t).map ak) (C.goes.map bJ) (bJ (hM C.goes C.goes.length)) (fun n=>Yz Cfg.uk (n:=n) (d:=6) (sc:=(aq 22).scope))
 refine ⟨t,kd,z,mv,h,fun n=> ?_⟩
 have aa:(aq 22).body.drop 11=lw 11::lw 12::lw 13::lw 14::(aq 22).body.drop 15:=by kernel_rfl
 rw[aa]
 refine (cZ (D:=1987) en (by decide) n).trans ?_
 refine (cZ (D:=1986) b5 (by decide) n).trans ?_
 refine (cZ (D:=1985) d9 (by decide) n).trans ?_
 exact cZ (D:=1984) rf (by decide) n
end
section
variable {C:Cfg} {t:Nat}
noncomputable def qA (C:Cfg) (m:Nat):I:= .list (gY (rounds C.go (3*C.K) (gu C.go m,start m)).2 C.K)
theorem FO (h:Cfg.b3 C t) {m q:Nat} (hm:m≤C.c) (aG:q<C.K):cz (qA C m) (ak q)=some (ak (C.us (C.H t m) q)):=by
 have:=iY (FQ (u:=(rounds C.go (3*C.K) (gu C.go m,start m)).2) aG) (by have:=C.ring.iZ;exact aH (aI (bL aG) this))
 rw[h.used hm aG] at this
 exact this
theorem Cm {m:Nat} (hm:m≤C.c):cz (.list ((bI (C.c+1)).map (qA C))) (ak m)=some (qA C m):=iY (by rw[dF,jv (by exact GZ hm)];rfl) (by have:=C.eu;exact aH (aI hm this))
noncomputable def hs (C:Cfg):List Nat:=hM C.goes C.goes.length
theorem Yw:ij C.K (hs C)∧(hs C).length≤6∧(∀p∈hs C,p≠0→back C.go C.c p∈hs C):=by
 have J:=EJ (Cfg.uk (C:=C)) C.goes.length
 rw[Cfg.lz] at J
 have J:ij C.K (hs C):=by unfold hs;rw[Cfg.lz];exact J
 refine ⟨J,c5 J.len C.ring.iZ,fun p ag h0=> ?_⟩
 have zA:=J.lt p ag
 have dp:=Ys (Yt (Cfg.uk (C:=C))) (p:=p) (by rw[Cfg.lz];exact zA) ag
 apply dp
 unfold back
 rw[if_neg h0,Cfg.go_eq zA (by have:=C.de;exact BN this)]
 have e:C.goes.getD p []=(C.row p).map fun k=>C.et k p:=by rw[iL,Cfg.Jk zA];rfl
 rw[e]
 exact g0.mpr ⟨_,iK (Cfg.rL zA (by have:=C.de;exact BN this)),rfl⟩
theorem SP:gR (dg C.goes) C.goes.length C.c:=by rw[Cfg.lz];exact Cfg.md
noncomputable def ux (C:Cfg) (t:Nat) (X:I) (D:List I) (kd:I) (St:List I) (z mv:I):qQ:=⟨X,D,C.R.map cM,kd,(Cfg.dK C.s).map .str,cp C.rows,ak C.c,cp C.goes,gW C,St,fT C.K,C.tape t,ak 0,z,.str (S ""),mv,(C.jx t).map ak,bJ (hs C),((hs C).filter fun q=>decide (C.c-1<C.us t q)).map ak,(bI (C.c+1)).map (qA C)⟩
theorem aaa (h:Cfg.b3 C t) (D:List I) (X kd u z mv:I) (St:List I): ∃σ',∀n,
  b1 (n+1984) cQ ((aq 22).body.drop 15) (iP X D (C.R.map cM) kd ((Cfg.dK C.s).map .str) (cp C.rows) (ak C.c) (cp C.goes) (gW C) u St (fT C.K) (C.tape t) (ak 0) z (.str (S "")) mv ((C.jx t).map ak) [(S "met",.val (bJ (hs C)))]) (C.dN (C.us t))=some (.ret (.bool true),σ',C.dN (C.us t)):=by
 obtain ⟨bT,cG,rR⟩:=Yw (C:=C)
 have rr:=C.de
 have ey:=C.eu
 have cj:=C.ring.iZ
 have gU:=C.ring.oM
 have aS:=h.o2
 have aP:C.c-1<C.c:=by exact BN rr
 have RW:=Uu (w:=C.dN (C.us t)) (X:=X) (D:=D) (R:=C.R.map cM) (kd:=kd) (N:=(Cfg.dK C.s).map .str) (rows:=cp C.rows) (cnt:=ak C.c) (G:=cp C.goes) (T:=gW C) (u:=u) (St:=St) (L:=fT C.K) (tape:=C.tape t) (pl:=ak 0) (z:=z) (wd:= .str (S "")) (mv:=mv) (HP:=(C.jx t).map ak) (hs C) (by exact bX cG rfl) (fun q=>decide (C.c-1<C.us t q)) (fun q aG n=>by
  have tG:=bT.lt q aG
  have ai:(C.row q).getLast?=some (C.kd q (C.c-1)):=by rw[OK,Cfg.qp tG];exact Cfg.rL tG aP
  have lE:(nm C.s (C.kd q (C.c-1))).length=2:=Cfg.nH.1
  have lC:(Cfg.jl q).length=1:=rfl
  have nv:(S "...").length=3:=by decide
  exact Uv (ak q) (bJ (C.row q)) (ak (C.kd q (C.c-1))) (.str (nm C.s (C.kd q (C.c-1)))) (bJ (hs C)) (Cfg.jl q) (nm C.s (C.kd q (C.c-1))) _ (Cfg.EE (by exact hA tG cj)) (xj tG) (LZ ai) (Cd (Cfg.tO tG aP)) (by exact mz (congrArg _ lC) (ib _ _)) (by rw[gQ];exact aH (aI (aI (b0 lE) (b0 lC)) (b0 nv))) (by rw[gQ,gQ];exact aH (aI (aI (b0 lE) (b0 lC)) (b0 nv)))
   (fun n=>h.Sk tG aP n) n)
 have DO:eX (.list (((hs C).filter fun q=>decide (C.c-1<C.us t q)).map ak)) (bJ (hs C))=some (decide (∀p∈hs C,trail C.go C.c C.K p=0)):=by
  refine (vv.list.eq (x:=(hs C).filter fun q=>decide (C.c-1<C.us t q)) (y:=hs C) (by decide) (fun _ _=>trivial) (fun _ _=>trivial)).trans ?_
  congr 1
  rw[decide_eq_decide,ae6,←h.best (fun p ag=>bT.lt p ag) rR]
  constructor
  ·intro g p ag
   exact f3 (h.le (a3 t) (bT.lt p ag)) (Nat.le_of_pred_lt (of_decide_eq_true (g p ag)))
  ·intro g p ag
   have:=g p ag
   exact decide_eq_true (by exact GG aP (fC this))
 have RX:=XH (w:=C.dN (C.us t)) (X:=X) (D:=D) (R:=C.R.map cM) (kd:=kd) (N:=(Cfg.dK C.s).map .str) (rows:=cp C.rows) (cnt:=ak C.c) (G:=cp C.goes) (T:=gW C) (u:=u) (St:=St) (L:=fT C.K) (tape:=C.tape t) (pl:=ak 0) (z:=z) (wd:= .str (S "")) (mv:=mv) (HP:=(C.jx t).map ak) (bJ (hs C)) (((hs C).filter fun q=>decide (C.c-1<C.us t q)).map ak) _ DO (fun n=>by
  have:=XJ (Cfg.uk (C:=C)) (met:=hs C) (fun p ag=>by rw[Cfg.lz];exact bT.lt p ag) (fun e=>by have:=bT.zero;rw[e] at this;cases this) cG (n:=n) (d:=6) (sc:=(aq 22).scope) (w:=C.dN (C.us t))
  rw[Cfg.lz] at this
  exact this)
 have RY:=adJ (w:=C.dN (C.us t)) (X:=X) (D:=D) (R:=C.R.map cM) (kd:=kd) (N:=(Cfg.dK C.s).map .str) (rows:=cp C.rows) (cnt:=ak C.c) (G:=cp C.goes) (T:=gW C) (u:=u) (St:=St) (L:=fT C.K) (tape:=C.tape t) (pl:=ak 0) (z:=z) (wd:= .str (S "")) (mv:=mv) (HP:=(C.jx t).map ak) (M:=bJ (hs C)) (Go:=((hs C).filter fun q=>decide (C.c-1<C.us t q)).map ak) _ rfl C.c ey rfl (qA C) (fun m hm n=>by
  have:=adM (Cfg.uk (C:=C)) SP hm (n:=n) (d:=6) (sc:=uw) (w:=C.dN (C.us t))
  rw[Cfg.lz] at this
  exact this)
 have zf:gd (ab "len") [.list (C.R.map cM)]=some (.int (C.K:Int)):=by
  have:=nd (l:=C.R.map cM) (by rw[bV,C.ring.len];exact bX cj rfl)
  rw[bV,C.ring.len] at this
  exact this
 have Kk: ∀p,p<C.K→C.us t p≤C.c:=fun p ag=>h.le (a3 t) ag
 have wh:(C.tape t).length≤1000:=by have:=h.sb;exact bX this rfl
 obtain ⟨dH,gp,RZ⟩:=Y9 (w:=C.dN (C.us t)) (V:=ux C t X D kd St z mv) u C.K gU cj zf
  (fun p ag o m=>by
   have aC:e' (.list ((bI C.c).map fun j=>I.str (C.fJ p j))) .none (ak (C.us t p)) .none=some (.list ((C.hS p (C.us t p)).map .str)):=by
    have:=slice_list (l:=(bI C.c).map fun j=>I.str (C.fJ p j)) none (some (C.us t p)) (by rw[bV,fE];exact bX ey rfl)
    simp only[afd,afe,Gf,OP] at this
    refine BD this ?_
    congr 2
    unfold Cfg.hS
    rw[←OQ,List.take_range,mX (Kk p ag),qK]
    rfl
   have JN:=FO h (a3 C.c) ag
   rw[h.Hg] at JN
   exact X2 (V:=ux C t X D kd St z mv) (ak p) o p (C.iz p (C.us t p)) (qA C C.c) (ak (C.us t p)) _ _ (C.hS p (C.us t p)) _ (iY (by show (fT C.K)[p]?=_;unfold fT;rw[dF,jv ag];rfl) (by exact aH (aI cj (bL ag)))) (Cfg.zW ag) (iY (by show (gW C)[p]?=_;unfold gW;rw[dF,jv ag];rfl) (by exact aH (aI cj (bL ag)))) (Cm (a3 _)) JN aC (MZ _) (Cfg.Nu p _ (c5 (Kk p ag) ey)).1 rfl (Cfg.X3 p _) m)
  (fun p ag o=>W4 (V:=ux C t X D kd St z mv) (ak p) C.c ey (by exact xW rr) rfl o (bJ (C.row p)) (fun j=>ak (C.kd p j)) (Cfg.jl p) (fun j=>nm C.s (C.kd p j)) (fun j m=>decide (C.us (C.H t m) p≤j)&&decide (j<C.us (C.H t (m+1)) p)) (Cfg.EE (by exact hA ag cj)) (xj ag) (fun j aP=>Mt ag aP) (fun j aP=>Cd (Cfg.tO ag aP)) rfl (fun j=>Cfg.nH.1)
   (fun j aP m hm d i=>by
    have lE:(nm C.s (C.kd p j)).length=2:=Cfg.nH.1
    have lC:(Cfg.jl p).length=1:=rfl
    have nv:(S "...").length=3:=by decide
    have JH:(ab "...").length=3:=nv
    have f1:(bu (C.fr t (3*C.H t m))).length=3*C.H t m:=by rw[fz];exact Cfg.yV (by have:=h.ih (m:=m) (by exact fK hm);exact ph this)
    have f2:(bu (C.dR t (3*C.H t (m+1)))).length=3*t+1-3*C.H t (m+1):=by rw[fz];exact Cfg.vb
    have dn:=h.ih (m:=m) (by exact fK hm)
    exact Yo (V:=ux C t X D kd St z mv) (ak p) (ak j) (ak m) (S "..."++Cfg.jl p++nm C.s (C.kd p j)++S "...") (bu (C.fr t (3*C.H t m))) (bu (C.dR t (3*C.H t (m+1)))) d (qA C m) (qA C (m+1)) (ak (C.us (C.H t m) p)) (ak (C.us (C.H t (m+1)) p)) (ak (m+1)) (ak (3*C.H t m)) (ak (3*C.H t (m+1))) _ _ _
     (Cm (by exact fK hm)) (FO h (by exact fK hm) ag) (Q' _ _) rfl (Cm (by exact B1 hm)) (FO h (by exact B1 hm) ag) (Ik _ _) rfl (x4 h (by exact fK hm)) (x4 h (by exact B1 hm)) (MO wh _) (MN wh _)
     (by rw[f1,gQ,gQ,gQ,JH,lC,lE];exact aH (aI (lm 3 aS) dn)) (by rw[gQ,gQ,gQ,gQ,f1,f2,JH,lC,lE];exact aH (aI (aI (lm 3 aS) dn) (aI (lm 3 aS) (hC (3*t+1) (3*C.H t (m+1)))))) (fun n=>h.Sl ag aP hm n) i))
 obtain ⟨σ',R0⟩:=Yl (w:=C.dN (C.us t)) (V:=ux C t X D kd St z mv) dH gp.2.2.1 gp.1 gp.2.1 gp.2.2.2 C.c ey rfl
  (fun m hm k aj o=>by
   have nv:(S "...").length=3:=by decide
   have f1:(bu (C.fr t (3*C.H t m+1))).length=3*C.H t m+1:=by rw[fz];exact Cfg.yV (by have:=h.ih hm;exact u4 this (yq rfl))
   have f2:(bu (C.dR t (3*C.H t k))).length=3*t+1-3*C.H t k:=by rw[fz];exact Cfg.vb
   have dn:=h.ih hm
   exact Y0 (V:=ux C t X D kd St z mv) (ak k) gp.1 gp.2.1 (ak m) gp.2.2.2 (ak (3*C.H t k)) (ak (3*C.H t m)) (ak (3*C.H t m+1)) (bu (C.dR t (3*C.H t k))) (bu (C.fr t (3*C.H t m+1))) (bu (C.cT t (C.H t m) (C.H t k))) o _ (decide (m=0)) (decide (k=C.c))
    (x4 h aj) (MN wh _) (x4 h hm) rfl (MO wh _) (by rw[f1];exact aH (aI (lm 3 aS) dn)) (by rw[gQ];exact aH (aI (aI (aI (aI (aI (lm 6 aS) (b0 nv)) (b0 f1)) (b0 f2)) dn) (hC (3*t+1) (3*C.H t k)))) (fun n=>h.Sm hm aj n) (Ik _ _)
    (fun aG=>by
     have gJ:m<k:=of_decide_eq_true aG
     have p6:(bu (C.cT t (C.H t m) (C.H t k))).length=3*(C.H t k-C.H t m)+1:=by rw[fz];exact Cfg.r6 (h.px gJ aj) (h.kD aj).1
     have:=(h.kD aj).1
     exact ⟨ak (3*C.H t k+1),rfl,abP wh _ _,mz p6 (aH (aI (aI (lm 3 aS) (lm 3 this)) (lm 3 (hC (C.H t k) (C.H t m))))),mz f2 (aH (aI (lm 3 aS) (hC (3*t+1) (3*C.H t k)))),nM m,vv.eq (by decide) trivial trivial,fun n=>h.Sq gJ aj n,fun n=>h.Sn gJ aj n,fun n=>h.So gJ aj n,fun n=>h.Sp gJ aj n⟩))
 refine ⟨σ'.freeze [],fun n=> ?_⟩
 have aa:(aq 22).body.drop 15=[lw 15,lw 16,lw 17,lw 18,lw 19,lw 20]:=by kernel_rfl
 rw[aa]
 refine (cZ (D:=1983) RW (by decide) n).trans ?_
 refine (cZ (D:=1982) RX (by decide) n).trans ?_
 refine (cZ (D:=1981) RY (by decide) n).trans ?_
 refine (cZ (D:=1980) RZ (by decide) n).trans ?_
 refine (cZ (D:=1979) R0 (by decide) n).trans ?_
 exact ni (D:=1978) (aaX σ') (by decide) n
end
theorem aan:Cf:=by
 intro dB Vk
 obtain ⟨d,C,v,a7,aG,jE⟩:=Z8 dB Vk
 obtain ⟨u,St,oe⟩:=Z9 d a7 aG (lp dB) v
 obtain ⟨t,kd,z,mv,h,kb⟩:=Z' d (lp dB) v u St
 obtain ⟨σ',R3⟩:=aaa h (dL d) (lp dB) kd u z mv St
 have key:b1 (0+1999) cQ (aq 22).body [(S "script",.val (lp dB))] []=some (.ret (.bool true),σ',C.dN (C.us t)):=(jE 0).trans ((oe 0).trans ((kb 0).trans (R3 0)))
 refine ⟨1999,C.dN (C.us t),?_⟩
 have ag:jN (aq 22)=[S "script"]:=by kernel_rfl
 have a6:([S "script"]:List Str).zip ([lp dB].map Slot.val)=[(S "script",.val (lp dB))]:=rfl
 rw[sZ (d:=7) (by rw[ag];rfl),ag,a6]
 unfold cQ at key
 rw[show (1999:Nat)=0+1999 from rfl,key]
 rfl
theorem agj:uP.Holds:=Xk aan
end Mine
end
theorem PySem.Challenge.cw_pm0050_01_holds : PySem.Challenge.rw_pm0050_01.Holds :=
 Mine.agj
