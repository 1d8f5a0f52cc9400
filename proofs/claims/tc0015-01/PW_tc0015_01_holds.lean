import PyProof.Rows.All
import Wide.All
import OpenK.AllK
import Wide.FinOn
import PySem.Challenge.RW_tc0015_01
set_option Elab.async false
set_option maxRecDepth 100000
set_option maxHeartbeats 8000000
set_option linter.all false
set_option tactic.hygienic false
noncomputable section
local macro_rules | `(∅) => `(by kernel_rfl)
open List renaming length_append→be,length_map→xJ,mem_append_left→yg,range→zd,mem_singleton→Ab,mem_append→AZ,length_cons→Bb,all_eq_true→Bi,getElem?_eq_some_iff→Bm,mem_cons→C1,mem_append_right→D1,mem_cons_of_mem→D2,mem_range→D5,append_nil→DN,mem_map→DT,not_mem_nil→E4,append_assoc→Eg,length_nil→EQ,map_map→ER,map_cons→EV,getElem?_append_left→EY,range'→F7,take_of_length_le→F9,flatMap_cons→Fe,getElem?_eq_getElem→Fh,mem_cons_self→FK,map_congr_left→FL,mem_of_getElem?→FM,getElem?_map→FS,length_singleton→Gd,flatten_cons→Gq,replicate→Gv,getElem?_eq_none_iff→GB,length_filter_le→GW,set_set→Hb,getElem?_append_right→I7,length_range→Ib,map_append→IQ,nodup_cons→Jy,filter_cons→Ko,filter_append→KR,cons_append→KV,length_range'→L3,mem_flatMap→L5,length_replicate→Lc,nil_append→Lf,getElem?_set_ne→Lj,range_eq_range'→Ll,length_set→Lr,flatten_append→Lx,range_succ_eq_map→LB,getD_eq_getElem?_getD→LD,length_take→LG,take_length→LI,flatten_nil→LJ,take_append_drop→LM,map_nil→LQ,pairwise_iff_getElem→LX,filterMap_cons_some→L_,find?_cons→M6,all_cons→Me,getElem?_zipWith_eq_some→Mi,take_append_of_le_length→Mj,drop_eq_nil_of_le→Mp,getElem?_set_self→Ms,pairwise_cons→Mu,contains_eq_mem→MP,nodup_nil→MQ,drop_eq_getElem_cons→MX,mem_of_find?_eq_some→Ni,lookup_cons→Nw,drop_append→NG,replicate_succ→NJ,length→NM,filterMap_cons→NX,getElem?_range→O6,map_eq_nil_iff→O9,getElem?_cons_succ→Oi,mem_filter→Ou,mem_filterMap→Ow,length_eq_zero_iff→OF,filter_map→OG,size_toArray→O_,mem_range'_1→P4,take_left→P8,lookup_cons_self→Pb,getElem?_eq_none→Pe,sum_cons→Pq,mem_map_of_mem→PA,set_cons_succ→PR,getElem?_drop→PX,drop_left→Qf,sublist_append_right→Qh,getElem?_set→Qn,filterMap_cons_none→Qr,nodup_append→QD,getElem?_take_of_lt→QG,getElem?_replicate→QZ,set_comm→R1,map_take→Rc,length_drop→Rg,range'_succ→Rh,getElem_cons_drop→Rs,zipWith→Rx,singleton_append→RD,sum_append→RH,sum_nil→RI,all_append→RL,set_append_left→Sc,drop_zero→Sk,length_zipWith→Sr,set_cons_zero→SL,drop→T1,map_drop→T9,all_eq_false→Tq,ext_getElem?→Tt,map_id'→TC,mem_flatten→TT,isEmpty_iff→U0,getElem_mem→U1,forIn_cons→U5,head?_drop→Ui,append_inj→Ul,drop_drop→Uw
open Nat renaming le_of_ble_eq_true→xF,le_refl→DW,le_add_right→Fi,add_sub_cancel_left→KO,le_trans→KQ,zero_add→Lp,zero_le→Lw,le_of_not_lt→LF,ne_of_lt→LK,succ_ne_self→Nr,lt_of_lt_of_le→Om,le_succ→P1,lt_succ_of_lt→P3,lor→Pk,ne_of_gt→PT,pow_succ→Q6,beq→Qg,lt_trichotomy→Qw,add_assoc→R9,lt_succ_self→Rf,div_div_eq_div_mul→Rq,min_eq_left→Rz,sub_zero→RK,pow_le_pow_right→Sb,succ_eq_add_one→SK,le_of_eq→Tu,pow_zero→TG,add_zero→TM,min_le_left→Uj,two_pow_pos→Ur,mod→Vd,succ→Vf
open PySem renaming wpAny_bind→yK,wpAny_mono→D3,wpAny_pure→Ez,wpAny_newObj_type→HA,wpAny_callSpecial?_slot→Ii,wpAny_execs_cons→Kd,wpAny_field→KP,seg_execs_cons→KU,wpAny_holding→KZ,slot_listiter_next→K_,wpAny_call_entry→L4,wpAny_standAt→L9,wpAny_specialOf→Ls,wpAny_pyIter_list→M3,wpAny_Assign_Name→M4,wpAny_of_eq→M8,wpAny_seqItems→MR,wpAny_raiseNew_none→NN,wpAny_rule→Ob,wpAny_updateSeq→Oj,wpAny_setField_rec→Ol,wpAny_truthy_bool→OX,wpAny_setField→P5,wpAny_storeName_local→P9,wpAny_pyIter_zip→Ph,wpAny_loadName_local→Pl,wpAny_pyNext_list_end→Pv,entry_listiter_next→PG,wpAny_letOwnedTupleGo_enum→PQ,args_listiter_next→PW,wpAny_letOwnedTupleGo_zip→Qa,slot_list_getitem→Qp,wpAny_getItem_list_slice→Qs,wpAny_pyIter_enum→Qz,wpAny_assign_Name→QA,getMethod_builtin→QH,wpAny_list_append_plain→QV,Builtin→Q_,wpAny_isInstance→Rd,wpAny_pyNext_list_item→Ri,wpAny_isTrue_Compare1→Rt,wpAny_execs_nil→RA,seg_wrap→RT,wpAny_newFunctionEnv→RY,baseText→Se,isSubtype_stop→Sh,isSubtype_type→Sl,wpAny_letGo→Sv,wpAny_onRaise→SP,wpAny_attempt→SQ,seg_again→Uc,wpAny_Name→UA,call_meets→UG
open PySem.Heap renaming get?_push_of_some→Bt,get?_push_size→Dp,get?_update_self→Fj,SameBut→Lb,size_push→LZ,lt_size→M7,ExtBut→P2,MadeExcOf→Qd,get?_update_other→Rn,HeldW→Ti,IsList→U7,get?→UY
open PySem.Builtin renaming bitAnd→Dd,bitXor→HX,bitOr→Mb
open Eq renaming symm→ES,trans→LA
open PySem.PyData renaming int→EW,tuple→Im,canLayAll0→KX,str→Lh,eqv→Ml,list→O1,canLay0→Qb,strOk→Tv,depth→Tz,depthAll→Uu,eqvAll→UR
open Bool renaming and_eq_true→E_,false_ne_true→G_,not_eq_true'→MF,false_eq_true→Oy,false_or→Pn,or_eq_true→PB,eq_iff_iff→PO,not_true→Ra,true_and→T6,not_false→Ux,or_false→UN
open PySem.Calls renaming Name_function_global→F6,loadGlobal_global→L6,loadGlobal_builtin→Lg,callWith_function→MB,docDef→Of,callWith_builtin→OR,call_function_entry→PE,spliced_cons→Rw,evalArgs_plain→Sd,spliced_nil→So
open Int renaming fmod_nonneg_of_pos→Fa,toNat_natCast→Fd,fmod_lt_of_pos→HC,eq_ofNat_of_zero_le→L2,toNat_of_nonneg→Lz
open Option.some renaming inj→Ff
open PySem.Builtin.Int renaming intBits→H1
open Option renaming map_eq_some_iff→HU,bind_eq_some_iff→KH,elim→SB
open PySem.Env renaming kindOf→IC
open PySem.Builtin.Str renaming strSliceIndices→IL,occurrences→Ln,partsBetween→Og,strSub→OL,strKind→Sy
open PySem.F renaming slot_str_join→I_,type_str_join→Jb,plain_extend_loop→NV,slot_str_ascii_iterator_next→Pc,slot_list_extend→Qx,slot_str_iterator_next→QI,plainAttrs_str→Rl,slot_enumerate_next→RC,entry_extend_loop→Sw
open PySem.Str renaming ofString→Jg,cps_append→P7,join→U4,ext'→UP
open PySem.Builtin.Range renaming small→JB,rangeSize→M9
open PySem.Builtin.SmallTypes renaming nextOf→KT,ownedTupleHandOut→MV,ownedTupleIsFree→NL,stopIteration→OQ
open PySem.Heap.SameBut renaming update→KW
open Array renaming getElem?_toList→KY,getElem?_eq_some_iff→LC,getElem?_setIfInBounds_ne→M5,getElem?_eq_getElem→N6,toList_append→Pr,mem_toList_iff→Sa,find?_toList→T2,toList_push→Tb
open PySem.Obj renaming data_mapFields→L0,isFreed_of_fields→LO,mapSeq→M0,cls_mapFields→Td
open PySem.Value renaming none→L7,ref→Lu,isInt→PN,isStrOf→QT,type→Te,str→UX
open PySem.Challenge renaming rw_tc0015_01→Lm,pw_tc0015_01→Mt
open PySem.Txt renaming join→Lo,split→PC
open PySem.Sem renaming bind_eq_wrap'→Lq,wrap_wrap→MH,bind_eq_wrap→TQ,wrap→UJ
open ForInStep renaming yield→Lv
open PySem.NameKind renaming free→LL,cell→Oo
open Ne renaming symm→Mv
open PySem.Builtin.List renaming listExtendWith→Mz,listTooLong→Qj,listSameRef→QL,listItems→Ro
open Function renaming comp_def→MO
open PySem.Around renaming frames_deeper→Pm,under_plainId→S7
open PySem.Heap.IsSliceOf renaming new→PS
open PyProof.Rows renaming assignInOrder_cons→PV,MethodCall_→QU,tail_any→RQ,slot_tuple_getitem→SM,assign_Tuple_tuple→SW,Subscript_→Ta,isTrue_and→UE
open PySem.SeqAt renaming in_list_reads→Q9,shaped→RN,eqv_refl→Uz
open PySem.Builtin.Generator renaming genWake→Qc
open List.Sublist renaming refl→QS,append→SH,nodup→SY
open PySem.Shared renaming heap→QW
open Classical renaming propDecidable→QY,em→UU
open PySem.Heap.UpToSlots renaming of_keeps→R0
open PySem.StrLaws renaming partsBetween_eq→Rb,glued_eq_join→RE,At→RU,partsFrom→To
open PySem.Heap.IsList renaming push→Re
open Prod.mk renaming injEq→SX
open Prod renaming fst→U2,snd→U3
open And renaming intro→U9
open List.cons renaming injEq→Uk,inj→UH
open PySem.IsRange renaming new→V5
namespace Mine
open PySem PySem.W PySem.Calls PyProof.Rows
universe u0 u1 u2 u3 u4 u5 u6 u7 u8 u9
section
variable{X0:Sort u0}{X1:Sort u1}{X2:Sort u2}{X3:Sort u3}{X4:Sort u4}{X5:Sort u5}{A0 A1 A2 A3 A4 A5 A6 A7 A8 A9 A10 A11 A12 A13 R G:Prop}
theorem fY(h:A0∧R)(k:A0→R→G):G:=by obtain ⟨h0,hr⟩:=h;exact k h0 hr
theorem dU(h:A0∧A1∧R)(k:A0→A1→R→G):G:=by obtain ⟨h0,h1,hr⟩:=h;exact k h0 h1 hr
theorem mA(h:A0∧A1∧A2∧R)(k:A0→A1→A2→R→G):G:=by obtain ⟨h0,h1,h2,hr⟩:=h;exact k h0 h1 h2 hr
theorem ij(h:A0∧A1∧A2∧A3∧R)(k:A0→A1→A2→A3→R→G):G:=by obtain ⟨h0,h1,h2,h3,hr⟩:=h;exact k h0 h1 h2 h3 hr
theorem mG(h:A0∧A1∧A2∧A3∧A4∧A5∧R)(k:A0→A1→A2→A3→A4→A5→R→G):G:=by obtain ⟨h0,h1,h2,h3,h4,h5,hr⟩:=h;exact k h0 h1 h2 h3 h4 h5 hr
theorem HN{A5 R:X0→X1→Prop}(h:A0∧A1∧A2∧∃x0 x1,A5 x0 x1∧R x0 x1)(k:A0→A1→A2→∀x0 x1,A5 x0 x1→R x0 x1→G):G:=by obtain ⟨h0,h1,h2,x0,x1,h5,hr⟩:=h;exact k h0 h1 h2 x0 x1 h5 hr
theorem ug{R:X0→X1→Prop}(h:A0∧A1∧∃x0 x1,R x0 x1)(k:A0→A1→∀x0 x1,R x0 x1→G):G:=by obtain ⟨h0,h1,x0,x1,hr⟩:=h;exact k h0 h1 x0 x1 hr
theorem oS{R:X0→X1→X2→Prop}(h:A0∧A1∧∃x0 x1 x2,R x0 x1 x2)(k:A0→A1→∀x0 x1 x2,R x0 x1 x2→G):G:=by obtain ⟨h0,h1,x0,x1,x2,hr⟩:=h;exact k h0 h1 x0 x1 x2 hr
theorem zw{R:X0→Prop}(h:A0∧∃x0,R x0)(k:A0→∀x0,R x0→G):G:=by obtain ⟨h0,x0,hr⟩:=h;exact k h0 x0 hr
theorem ic{A2 R:X0→Prop}(h:A0∧∃x0,A2 x0∧R x0)(k:A0→∀x0,A2 x0→R x0→G):G:=by obtain ⟨h0,x0,h2,hr⟩:=h;exact k h0 x0 h2 hr
theorem UZ{A3 R:X0→X1→Prop}(h:A0∧∃x0 x1,A3 x0 x1∧R x0 x1)(k:A0→∀x0 x1,A3 x0 x1→R x0 x1→G):G:=by obtain ⟨h0,x0,x1,h3,hr⟩:=h;exact k h0 x0 x1 h3 hr
theorem Nu{A3 A4 R:X0→X1→Prop}(h:A0∧∃x0 x1,A3 x0 x1∧A4 x0 x1∧R x0 x1)(k:A0→∀x0 x1,A3 x0 x1→A4 x0 x1→R x0 x1→G):G:=by obtain ⟨h0,x0,x1,h3,h4,hr⟩:=h;exact k h0 x0 x1 h3 h4 hr
theorem D6{A4 A5 A6 R:X0→X1→X2→Prop}(h:A0∧∃x0 x1 x2,A4 x0 x1 x2∧A5 x0 x1 x2∧A6 x0 x1 x2∧R x0 x1 x2)(k:A0→∀x0 x1 x2,A4 x0 x1 x2→A5 x0 x1 x2→A6 x0 x1 x2→R x0 x1 x2→G):G:=by obtain ⟨h0,x0,x1,x2,h4,h5,h6,hr⟩:=h;exact k h0 x0 x1 x2 h4 h5 h6 hr
theorem bP{R:X0→Prop}(h:∃x0,R x0)(k:∀x0,R x0→G):G:=by obtain ⟨x0,hr⟩:=h;exact k x0 hr
theorem au{A1 R:X0→Prop}(h:∃x0,A1 x0∧R x0)(k:∀x0,A1 x0→R x0→G):G:=by obtain ⟨x0,h1,hr⟩:=h;exact k x0 h1 hr
theorem cm{A1 A2 R:X0→Prop}(h:∃x0,A1 x0∧A2 x0∧R x0)(k:∀x0,A1 x0→A2 x0→R x0→G):G:=by obtain ⟨x0,h1,h2,hr⟩:=h;exact k x0 h1 h2 hr
theorem eB{A1 A2 A3 R:X0→Prop}(h:∃x0,A1 x0∧A2 x0∧A3 x0∧R x0)(k:∀x0,A1 x0→A2 x0→A3 x0→R x0→G):G:=by obtain ⟨x0,h1,h2,h3,hr⟩:=h;exact k x0 h1 h2 h3 hr
theorem Ju{A1 A2 A3 A4 A5 R:X0→Prop}(h:∃x0,A1 x0∧A2 x0∧A3 x0∧A4 x0∧A5 x0∧R x0)(k:∀x0,A1 x0→A2 x0→A3 x0→A4 x0→A5 x0→R x0→G):G:=by obtain ⟨x0,h1,h2,h3,h4,h5,hr⟩:=h;exact k x0 h1 h2 h3 h4 h5 hr
theorem IX{A1 A2 A3:X0→Prop}{A5 R:X0→X1→Prop}(h:∃x0,A1 x0∧A2 x0∧A3 x0∧∃x1,A5 x0 x1∧R x0 x1)(k:∀x0,A1 x0→A2 x0→A3 x0→∀x1,A5 x0 x1→R x0 x1→G):G:=by obtain ⟨x0,h1,h2,h3,x1,h5,hr⟩:=h;exact k x0 h1 h2 h3 x1 h5 hr
theorem As{A1 A2:X0→Prop}{R:X0→X1→Prop}(h:∃x0,A1 x0∧A2 x0∧∃x1,R x0 x1)(k:∀x0,A1 x0→A2 x0→∀x1,R x0 x1→G):G:=by obtain ⟨x0,h1,h2,x1,hr⟩:=h;exact k x0 h1 h2 x1 hr
theorem lC{R:X0→X1→Prop}(h:∃x0 x1,R x0 x1)(k:∀x0 x1,R x0 x1→G):G:=by obtain ⟨x0,x1,hr⟩:=h;exact k x0 x1 hr
theorem jV{A2 R:X0→X1→Prop}(h:∃x0 x1,A2 x0 x1∧R x0 x1)(k:∀x0 x1,A2 x0 x1→R x0 x1→G):G:=by obtain ⟨x0,x1,h2,hr⟩:=h;exact k x0 x1 h2 hr
theorem bq{A2 A3 R:X0→X1→Prop}(h:∃x0 x1,A2 x0 x1∧A3 x0 x1∧R x0 x1)(k:∀x0 x1,A2 x0 x1→A3 x0 x1→R x0 x1→G):G:=by obtain ⟨x0,x1,h2,h3,hr⟩:=h;exact k x0 x1 h2 h3 hr
theorem kR{A2 A3 A4 R:X0→X1→Prop}(h:∃x0 x1,A2 x0 x1∧A3 x0 x1∧A4 x0 x1∧R x0 x1)(k:∀x0 x1,A2 x0 x1→A3 x0 x1→A4 x0 x1→R x0 x1→G):G:=by obtain ⟨x0,x1,h2,h3,h4,hr⟩:=h;exact k x0 x1 h2 h3 h4 hr
theorem CV{A2 A3 A4 A5 A6 R:X0→X1→Prop}(h:∃x0 x1,A2 x0 x1∧A3 x0 x1∧A4 x0 x1∧A5 x0 x1∧A6 x0 x1∧R x0 x1)(k:∀x0 x1,A2 x0 x1→A3 x0 x1→A4 x0 x1→A5 x0 x1→A6 x0 x1→R x0 x1→G):G:=by obtain ⟨x0,x1,h2,h3,h4,h5,h6,hr⟩:=h;exact k x0 x1 h2 h3 h4 h5 h6 hr
theorem jE{R:X0→X1→X2→Prop}(h:∃x0 x1 x2,R x0 x1 x2)(k:∀x0 x1 x2,R x0 x1 x2→G):G:=by obtain ⟨x0,x1,x2,hr⟩:=h;exact k x0 x1 x2 hr
theorem fy{A3 R:X0→X1→X2→Prop}(h:∃x0 x1 x2,A3 x0 x1 x2∧R x0 x1 x2)(k:∀x0 x1 x2,A3 x0 x1 x2→R x0 x1 x2→G):G:=by obtain ⟨x0,x1,x2,h3,hr⟩:=h;exact k x0 x1 x2 h3 hr
theorem jq{A3 A4 R:X0→X1→X2→Prop}(h:∃x0 x1 x2,A3 x0 x1 x2∧A4 x0 x1 x2∧R x0 x1 x2)(k:∀x0 x1 x2,A3 x0 x1 x2→A4 x0 x1 x2→R x0 x1 x2→G):G:=by obtain ⟨x0,x1,x2,h3,h4,hr⟩:=h;exact k x0 x1 x2 h3 h4 hr
theorem dj{A3 A4 A5 R:X0→X1→X2→Prop}(h:∃x0 x1 x2,A3 x0 x1 x2∧A4 x0 x1 x2∧A5 x0 x1 x2∧R x0 x1 x2)(k:∀x0 x1 x2,A3 x0 x1 x2→A4 x0 x1 x2→A5 x0 x1 x2→R x0 x1 x2→G):G:=by obtain ⟨x0,x1,x2,h3,h4,h5,hr⟩:=h;exact k x0 x1 x2 h3 h4 h5 hr
theorem i7{A3 A4 A5 A6 R:X0→X1→X2→Prop}(h:∃x0 x1 x2,A3 x0 x1 x2∧A4 x0 x1 x2∧A5 x0 x1 x2∧A6 x0 x1 x2∧R x0 x1 x2)(k:∀x0 x1 x2,A3 x0 x1 x2→A4 x0 x1 x2→A5 x0 x1 x2→A6 x0 x1 x2→R x0 x1 x2→G):G:=by obtain ⟨x0,x1,x2,h3,h4,h5,h6,hr⟩:=h;exact k x0 x1 x2 h3 h4 h5 h6 hr
theorem Gy{R:X0→X1→X2→X3→Prop}(h:∃x0 x1 x2 x3,R x0 x1 x2 x3)(k:∀x0 x1 x2 x3,R x0 x1 x2 x3→G):G:=by obtain ⟨x0,x1,x2,x3,hr⟩:=h;exact k x0 x1 x2 x3 hr
theorem qP{A4 A5 R:X0→X1→X2→X3→Prop}(h:∃x0 x1 x2 x3,A4 x0 x1 x2 x3∧A5 x0 x1 x2 x3∧R x0 x1 x2 x3)(k:∀x0 x1 x2 x3,A4 x0 x1 x2 x3→A5 x0 x1 x2 x3→R x0 x1 x2 x3→G):G:=by obtain ⟨x0,x1,x2,x3,h4,h5,hr⟩:=h;exact k x0 x1 x2 x3 h4 h5 hr
theorem nr{A4 A5 A6 R:X0→X1→X2→X3→Prop}(h:∃x0 x1 x2 x3,A4 x0 x1 x2 x3∧A5 x0 x1 x2 x3∧A6 x0 x1 x2 x3∧R x0 x1 x2 x3)(k:∀x0 x1 x2 x3,A4 x0 x1 x2 x3→A5 x0 x1 x2 x3→A6 x0 x1 x2 x3→R x0 x1 x2 x3→G):G:=by obtain ⟨x0,x1,x2,x3,h4,h5,h6,hr⟩:=h;exact k x0 x1 x2 x3 h4 h5 h6 hr
theorem oA{A4 A5 A6 A7 A8 R:X0→X1→X2→X3→Prop}(h:∃x0 x1 x2 x3,A4 x0 x1 x2 x3∧A5 x0 x1 x2 x3∧A6 x0 x1 x2 x3∧A7 x0 x1 x2 x3∧A8 x0 x1 x2 x3∧R x0 x1 x2 x3)(k:∀x0 x1 x2 x3,A4 x0 x1 x2 x3→A5 x0 x1 x2 x3→A6 x0 x1 x2 x3→A7 x0 x1 x2 x3→A8 x0 x1 x2 x3→R x0 x1 x2 x3→G):G:=by obtain ⟨x0,x1,x2,x3,h4,h5,h6,h7,h8,hr⟩:=h;exact k x0 x1 x2 x3 h4 h5 h6 h7 h8 hr
theorem ft{A5 A6 A7 R:X0→X1→X2→X3→X4→Prop}(h:∃x0 x1 x2 x3 x4,A5 x0 x1 x2 x3 x4∧A6 x0 x1 x2 x3 x4∧A7 x0 x1 x2 x3 x4∧R x0 x1 x2 x3 x4)(k:∀x0 x1 x2 x3 x4,A5 x0 x1 x2 x3 x4→A6 x0 x1 x2 x3 x4→A7 x0 x1 x2 x3 x4→R x0 x1 x2 x3 x4→G):G:=by obtain ⟨x0,x1,x2,x3,x4,h5,h6,h7,hr⟩:=h;exact k x0 x1 x2 x3 x4 h5 h6 h7 hr
theorem gv{A5 A6 A7 A8 A9 A10 R:X0→X1→X2→X3→X4→Prop}(h:∃x0 x1 x2 x3 x4,A5 x0 x1 x2 x3 x4∧A6 x0 x1 x2 x3 x4∧A7 x0 x1 x2 x3 x4∧A8 x0 x1 x2 x3 x4∧A9 x0 x1 x2 x3 x4∧A10 x0 x1 x2 x3 x4∧R x0 x1 x2 x3 x4)(k:∀x0 x1 x2 x3 x4,A5 x0 x1 x2 x3 x4→A6 x0 x1 x2 x3 x4→A7 x0 x1 x2 x3 x4→A8 x0 x1 x2 x3 x4→A9 x0 x1 x2 x3 x4→A10 x0 x1 x2 x3 x4→R x0 x1 x2 x3 x4→G):G:=by obtain ⟨x0,x1,x2,x3,x4,h5,h6,h7,h8,h9,h10,hr⟩:=h;exact k x0 x1 x2 x3 x4 h5 h6 h7 h8 h9 h10 hr
theorem jY{A5 A6 A7 A8 A9 A10 A11 R:X0→X1→X2→X3→X4→Prop}(h:∃x0 x1 x2 x3 x4,A5 x0 x1 x2 x3 x4∧A6 x0 x1 x2 x3 x4∧A7 x0 x1 x2 x3 x4∧A8 x0 x1 x2 x3 x4∧A9 x0 x1 x2 x3 x4∧A10 x0 x1 x2 x3 x4∧A11 x0 x1 x2 x3 x4∧R x0 x1 x2 x3 x4)(k:∀x0 x1 x2 x3 x4,A5 x0 x1 x2 x3 x4→A6 x0 x1 x2 x3 x4→A7 x0 x1 x2 x3 x4→A8 x0 x1 x2 x3 x4→A9 x0 x1 x2 x3 x4→A10 x0 x1 x2 x3 x4→A11 x0 x1 x2 x3 x4→R x0 x1 x2 x3 x4→G):G:=by obtain ⟨x0,x1,x2,x3,x4,h5,h6,h7,h8,h9,h10,h11,hr⟩:=h;exact k x0 x1 x2 x3 x4 h5 h6 h7 h8 h9 h10 h11 hr
theorem gW{A6 A7 A8 A9 R:X0→X1→X2→X3→X4→X5→Prop}(h:∃x0 x1 x2 x3 x4 x5,A6 x0 x1 x2 x3 x4 x5∧A7 x0 x1 x2 x3 x4 x5∧A8 x0 x1 x2 x3 x4 x5∧A9 x0 x1 x2 x3 x4 x5∧R x0 x1 x2 x3 x4 x5)(k:∀x0 x1 x2 x3 x4 x5,A6 x0 x1 x2 x3 x4 x5→A7 x0 x1 x2 x3 x4 x5→A8 x0 x1 x2 x3 x4 x5→A9 x0 x1 x2 x3 x4 x5→R x0 x1 x2 x3 x4 x5→G):G:=by obtain ⟨x0,x1,x2,x3,x4,x5,h6,h7,h8,h9,hr⟩:=h;exact k x0 x1 x2 x3 x4 x5 h6 h7 h8 h9 hr
theorem nk{A6 A7 A8 A9 A10 A11 A12 A13 R:X0→X1→X2→X3→X4→X5→Prop}(h:∃x0 x1 x2 x3 x4 x5,A6 x0 x1 x2 x3 x4 x5∧A7 x0 x1 x2 x3 x4 x5∧A8 x0 x1 x2 x3 x4 x5∧A9 x0 x1 x2 x3 x4 x5∧A10 x0 x1 x2 x3 x4 x5∧A11 x0 x1 x2 x3 x4 x5∧A12 x0 x1 x2 x3 x4 x5∧A13 x0 x1 x2 x3 x4 x5∧R x0 x1 x2 x3 x4 x5)(k:∀x0 x1 x2 x3 x4 x5,A6 x0 x1 x2 x3 x4 x5→A7 x0 x1 x2 x3 x4 x5→A8 x0 x1 x2 x3 x4 x5→A9 x0 x1 x2 x3 x4 x5→A10 x0 x1 x2 x3 x4 x5→A11 x0 x1 x2 x3 x4 x5→A12 x0 x1 x2 x3 x4 x5→A13 x0 x1 x2 x3 x4 x5→R x0 x1 x2 x3 x4 x5→G):G:=by obtain ⟨x0,x1,x2,x3,x4,x5,h6,h7,h8,h9,h10,h11,h12,h13,hr⟩:=h;exact k x0 x1 x2 x3 x4 x5 h6 h7 h8 h9 h10 h11 h12 h13 hr
theorem fm(h0:A0)(h1:A1)(hr:R):A0∧A1∧R:=⟨h0,h1,hr⟩
theorem lj(h0:A0)(h1:A1)(h2:A2)(hr:R):A0∧A1∧A2∧R:=⟨h0,h1,h2,hr⟩
theorem ue(h0:A0)(h1:A1)(h2:A2)(h3:A3)(hr:R):A0∧A1∧A2∧A3∧R:=⟨h0,h1,h2,h3,hr⟩
theorem KC(h0:A0)(h1:A1)(h2:A2)(h3:A3)(h4:A4)(h5:A5)(hr:R):A0∧A1∧A2∧A3∧A4∧A5∧R:=⟨h0,h1,h2,h3,h4,h5,hr⟩
theorem Ie{A5 R:X0→X1→Prop}(h0:A0)(h1:A1)(h2:A2)(x0:X0)(x1:X1)(h5:A5 x0 x1)(hr:R x0 x1):A0∧A1∧A2∧∃x0 x1,A5 x0 x1∧R x0 x1:=⟨h0,h1,h2,x0,x1,h5,hr⟩
theorem j6{R:X0→Prop}(h0:A0)(x0:X0)(hr:R x0):A0∧∃x0,R x0:=⟨h0,x0,hr⟩
theorem gO{A2 R:X0→Prop}(h0:A0)(x0:X0)(h2:A2 x0)(hr:R x0):A0∧∃x0,A2 x0∧R x0:=⟨h0,x0,h2,hr⟩
theorem Tn{A3 R:X0→X1→Prop}(h0:A0)(x0:X0)(x1:X1)(h3:A3 x0 x1)(hr:R x0 x1):A0∧∃x0 x1,A3 x0 x1∧R x0 x1:=⟨h0,x0,x1,h3,hr⟩
theorem Nm{A3 A4 R:X0→X1→Prop}(h0:A0)(x0:X0)(x1:X1)(h3:A3 x0 x1)(h4:A4 x0 x1)(hr:R x0 x1):A0∧∃x0 x1,A3 x0 x1∧A4 x0 x1∧R x0 x1:=⟨h0,x0,x1,h3,h4,hr⟩
theorem aZ{A1 R:X0→Prop}(x0:X0)(h1:A1 x0)(hr:R x0):∃x0,A1 x0∧R x0:=⟨x0,h1,hr⟩
theorem cJ{A1 A2 R:X0→Prop}(x0:X0)(h1:A1 x0)(h2:A2 x0)(hr:R x0):∃x0,A1 x0∧A2 x0∧R x0:=⟨x0,h1,h2,hr⟩
theorem c_{A1 A2 A3 R:X0→Prop}(x0:X0)(h1:A1 x0)(h2:A2 x0)(h3:A3 x0)(hr:R x0):∃x0,A1 x0∧A2 x0∧A3 x0∧R x0:=⟨x0,h1,h2,h3,hr⟩
theorem jd{A1 A2 A3:X0→Prop}{A5 R:X0→X1→Prop}(x0:X0)(h1:A1 x0)(h2:A2 x0)(h3:A3 x0)(x1:X1)(h5:A5 x0 x1)(hr:R x0 x1):∃x0,A1 x0∧A2 x0∧A3 x0∧∃x1,A5 x0 x1∧R x0 x1:=⟨x0,h1,h2,h3,x1,h5,hr⟩
theorem VX{A1 A2:X0→Prop}{R:X0→X1→Prop}(x0:X0)(h1:A1 x0)(h2:A2 x0)(x1:X1)(hr:R x0 x1):∃x0,A1 x0∧A2 x0∧∃x1,R x0 x1:=⟨x0,h1,h2,x1,hr⟩
theorem AC{A1 A2:X0→Prop}{R:X0→X1→X2→Prop}(x0:X0)(h1:A1 x0)(h2:A2 x0)(x1:X1)(x2:X2)(hr:R x0 x1 x2):∃x0,A1 x0∧A2 x0∧∃x1 x2,R x0 x1 x2:=⟨x0,h1,h2,x1,x2,hr⟩
theorem zO{A1:X0→Prop}{A5 A6 A7 R:X0→X1→X2→X3→Prop}(x0:X0)(h1:A1 x0)(x1:X1)(x2:X2)(x3:X3)(h5:A5 x0 x1 x2 x3)(h6:A6 x0 x1 x2 x3)(h7:A7 x0 x1 x2 x3)(hr:R x0 x1 x2 x3):∃x0,A1 x0∧∃x1 x2 x3,A5 x0 x1 x2 x3∧A6 x0 x1 x2 x3∧A7 x0 x1 x2 x3∧R x0 x1 x2 x3:=⟨x0,h1,x1,x2,x3,h5,h6,h7,hr⟩
theorem jK{R:X0→X1→Prop}(x0:X0)(x1:X1)(hr:R x0 x1):∃x0 x1,R x0 x1:=⟨x0,x1,hr⟩
theorem fX{A2 R:X0→X1→Prop}(x0:X0)(x1:X1)(h2:A2 x0 x1)(hr:R x0 x1):∃x0 x1,A2 x0 x1∧R x0 x1:=⟨x0,x1,h2,hr⟩
theorem dw{A2 A3 R:X0→X1→Prop}(x0:X0)(x1:X1)(h2:A2 x0 x1)(h3:A3 x0 x1)(hr:R x0 x1):∃x0 x1,A2 x0 x1∧A3 x0 x1∧R x0 x1:=⟨x0,x1,h2,h3,hr⟩
theorem tM{A2 A3 A4 R:X0→X1→Prop}(x0:X0)(x1:X1)(h2:A2 x0 x1)(h3:A3 x0 x1)(h4:A4 x0 x1)(hr:R x0 x1):∃x0 x1,A2 x0 x1∧A3 x0 x1∧A4 x0 x1∧R x0 x1:=⟨x0,x1,h2,h3,h4,hr⟩
theorem D4{A2 A3 A4 A5 A6 R:X0→X1→Prop}(x0:X0)(x1:X1)(h2:A2 x0 x1)(h3:A3 x0 x1)(h4:A4 x0 x1)(h5:A5 x0 x1)(h6:A6 x0 x1)(hr:R x0 x1):∃x0 x1,A2 x0 x1∧A3 x0 x1∧A4 x0 x1∧A5 x0 x1∧A6 x0 x1∧R x0 x1:=⟨x0,x1,h2,h3,h4,h5,h6,hr⟩
theorem BW{A2 A3:X0→X1→Prop}{R:X0→X1→X2→Prop}(x0:X0)(x1:X1)(h2:A2 x0 x1)(h3:A3 x0 x1)(x2:X2)(hr:R x0 x1 x2):∃x0 x1,A2 x0 x1∧A3 x0 x1∧∃x2,R x0 x1 x2:=⟨x0,x1,h2,h3,x2,hr⟩
theorem EP{A2 A3:X0→X1→Prop}{R:X0→X1→X2→X3→X4→Prop}(x0:X0)(x1:X1)(h2:A2 x0 x1)(h3:A3 x0 x1)(x2:X2)(x3:X3)(x4:X4)(hr:R x0 x1 x2 x3 x4):∃x0 x1,A2 x0 x1∧A3 x0 x1∧∃x2 x3 x4,R x0 x1 x2 x3 x4:=⟨x0,x1,h2,h3,x2,x3,x4,hr⟩
theorem jC{R:X0→X1→X2→Prop}(x0:X0)(x1:X1)(x2:X2)(hr:R x0 x1 x2):∃x0 x1 x2,R x0 x1 x2:=⟨x0,x1,x2,hr⟩
theorem lG{A3 R:X0→X1→X2→Prop}(x0:X0)(x1:X1)(x2:X2)(h3:A3 x0 x1 x2)(hr:R x0 x1 x2):∃x0 x1 x2,A3 x0 x1 x2∧R x0 x1 x2:=⟨x0,x1,x2,h3,hr⟩
theorem pj{A3 A4 R:X0→X1→X2→Prop}(x0:X0)(x1:X1)(x2:X2)(h3:A3 x0 x1 x2)(h4:A4 x0 x1 x2)(hr:R x0 x1 x2):∃x0 x1 x2,A3 x0 x1 x2∧A4 x0 x1 x2∧R x0 x1 x2:=⟨x0,x1,x2,h3,h4,hr⟩
theorem dy{A3 A4 A5 R:X0→X1→X2→Prop}(x0:X0)(x1:X1)(x2:X2)(h3:A3 x0 x1 x2)(h4:A4 x0 x1 x2)(h5:A5 x0 x1 x2)(hr:R x0 x1 x2):∃x0 x1 x2,A3 x0 x1 x2∧A4 x0 x1 x2∧A5 x0 x1 x2∧R x0 x1 x2:=⟨x0,x1,x2,h3,h4,h5,hr⟩
theorem i0{A3 A4 A5 A6 R:X0→X1→X2→Prop}(x0:X0)(x1:X1)(x2:X2)(h3:A3 x0 x1 x2)(h4:A4 x0 x1 x2)(h5:A5 x0 x1 x2)(h6:A6 x0 x1 x2)(hr:R x0 x1 x2):∃x0 x1 x2,A3 x0 x1 x2∧A4 x0 x1 x2∧A5 x0 x1 x2∧A6 x0 x1 x2∧R x0 x1 x2:=⟨x0,x1,x2,h3,h4,h5,h6,hr⟩
theorem Ai{R:X0→X1→X2→X3→Prop}(x0:X0)(x1:X1)(x2:X2)(x3:X3)(hr:R x0 x1 x2 x3):∃x0 x1 x2 x3,R x0 x1 x2 x3:=⟨x0,x1,x2,x3,hr⟩
theorem NZ{A4 R:X0→X1→X2→X3→Prop}(x0:X0)(x1:X1)(x2:X2)(x3:X3)(h4:A4 x0 x1 x2 x3)(hr:R x0 x1 x2 x3):∃x0 x1 x2 x3,A4 x0 x1 x2 x3∧R x0 x1 x2 x3:=⟨x0,x1,x2,x3,h4,hr⟩
theorem rj{A4 A5 R:X0→X1→X2→X3→Prop}(x0:X0)(x1:X1)(x2:X2)(x3:X3)(h4:A4 x0 x1 x2 x3)(h5:A5 x0 x1 x2 x3)(hr:R x0 x1 x2 x3):∃x0 x1 x2 x3,A4 x0 x1 x2 x3∧A5 x0 x1 x2 x3∧R x0 x1 x2 x3:=⟨x0,x1,x2,x3,h4,h5,hr⟩
theorem DQ{A4 A5 A6 R:X0→X1→X2→X3→Prop}(x0:X0)(x1:X1)(x2:X2)(x3:X3)(h4:A4 x0 x1 x2 x3)(h5:A5 x0 x1 x2 x3)(h6:A6 x0 x1 x2 x3)(hr:R x0 x1 x2 x3):∃x0 x1 x2 x3,A4 x0 x1 x2 x3∧A5 x0 x1 x2 x3∧A6 x0 x1 x2 x3∧R x0 x1 x2 x3:=⟨x0,x1,x2,x3,h4,h5,h6,hr⟩
theorem oy{A4 A5 A6 A7 A8 R:X0→X1→X2→X3→Prop}(x0:X0)(x1:X1)(x2:X2)(x3:X3)(h4:A4 x0 x1 x2 x3)(h5:A5 x0 x1 x2 x3)(h6:A6 x0 x1 x2 x3)(h7:A7 x0 x1 x2 x3)(h8:A8 x0 x1 x2 x3)(hr:R x0 x1 x2 x3):∃x0 x1 x2 x3,A4 x0 x1 x2 x3∧A5 x0 x1 x2 x3∧A6 x0 x1 x2 x3∧A7 x0 x1 x2 x3∧A8 x0 x1 x2 x3∧R x0 x1 x2 x3:=⟨x0,x1,x2,x3,h4,h5,h6,h7,h8,hr⟩
theorem i8{A5 A6 A7 R:X0→X1→X2→X3→X4→Prop}(x0:X0)(x1:X1)(x2:X2)(x3:X3)(x4:X4)(h5:A5 x0 x1 x2 x3 x4)(h6:A6 x0 x1 x2 x3 x4)(h7:A7 x0 x1 x2 x3 x4)(hr:R x0 x1 x2 x3 x4):∃x0 x1 x2 x3 x4,A5 x0 x1 x2 x3 x4∧A6 x0 x1 x2 x3 x4∧A7 x0 x1 x2 x3 x4∧R x0 x1 x2 x3 x4:=⟨x0,x1,x2,x3,x4,h5,h6,h7,hr⟩
theorem mq{A5 A6 A7 A8 A9 R:X0→X1→X2→X3→X4→Prop}(x0:X0)(x1:X1)(x2:X2)(x3:X3)(x4:X4)(h5:A5 x0 x1 x2 x3 x4)(h6:A6 x0 x1 x2 x3 x4)(h7:A7 x0 x1 x2 x3 x4)(h8:A8 x0 x1 x2 x3 x4)(h9:A9 x0 x1 x2 x3 x4)(hr:R x0 x1 x2 x3 x4):∃x0 x1 x2 x3 x4,A5 x0 x1 x2 x3 x4∧A6 x0 x1 x2 x3 x4∧A7 x0 x1 x2 x3 x4∧A8 x0 x1 x2 x3 x4∧A9 x0 x1 x2 x3 x4∧R x0 x1 x2 x3 x4:=⟨x0,x1,x2,x3,x4,h5,h6,h7,h8,h9,hr⟩
theorem j1{A5 A6 A7 A8 A9 A10 R:X0→X1→X2→X3→X4→Prop}(x0:X0)(x1:X1)(x2:X2)(x3:X3)(x4:X4)(h5:A5 x0 x1 x2 x3 x4)(h6:A6 x0 x1 x2 x3 x4)(h7:A7 x0 x1 x2 x3 x4)(h8:A8 x0 x1 x2 x3 x4)(h9:A9 x0 x1 x2 x3 x4)(h10:A10 x0 x1 x2 x3 x4)(hr:R x0 x1 x2 x3 x4):∃x0 x1 x2 x3 x4,A5 x0 x1 x2 x3 x4∧A6 x0 x1 x2 x3 x4∧A7 x0 x1 x2 x3 x4∧A8 x0 x1 x2 x3 x4∧A9 x0 x1 x2 x3 x4∧A10 x0 x1 x2 x3 x4∧R x0 x1 x2 x3 x4:=⟨x0,x1,x2,x3,x4,h5,h6,h7,h8,h9,h10,hr⟩
theorem iz{A5 A6 A7 A8 A9 A10 A11 R:X0→X1→X2→X3→X4→Prop}(x0:X0)(x1:X1)(x2:X2)(x3:X3)(x4:X4)(h5:A5 x0 x1 x2 x3 x4)(h6:A6 x0 x1 x2 x3 x4)(h7:A7 x0 x1 x2 x3 x4)(h8:A8 x0 x1 x2 x3 x4)(h9:A9 x0 x1 x2 x3 x4)(h10:A10 x0 x1 x2 x3 x4)(h11:A11 x0 x1 x2 x3 x4)(hr:R x0 x1 x2 x3 x4):∃x0 x1 x2 x3 x4,A5 x0 x1 x2 x3 x4∧A6 x0 x1 x2 x3 x4∧A7 x0 x1 x2 x3 x4∧A8 x0 x1 x2 x3 x4∧A9 x0 x1 x2 x3 x4∧A10 x0 x1 x2 x3 x4∧A11 x0 x1 x2 x3 x4∧R x0 x1 x2 x3 x4:=⟨x0,x1,x2,x3,x4,h5,h6,h7,h8,h9,h10,h11,hr⟩
theorem oR{A5 A6 A7 A8 A9 A10 A11 A12 R:X0→X1→X2→X3→X4→Prop}(x0:X0)(x1:X1)(x2:X2)(x3:X3)(x4:X4)(h5:A5 x0 x1 x2 x3 x4)(h6:A6 x0 x1 x2 x3 x4)(h7:A7 x0 x1 x2 x3 x4)(h8:A8 x0 x1 x2 x3 x4)(h9:A9 x0 x1 x2 x3 x4)(h10:A10 x0 x1 x2 x3 x4)(h11:A11 x0 x1 x2 x3 x4)(h12:A12 x0 x1 x2 x3 x4)(hr:R x0 x1 x2 x3 x4):∃x0 x1 x2 x3 x4,A5 x0 x1 x2 x3 x4∧A6 x0 x1 x2 x3 x4∧A7 x0 x1 x2 x3 x4∧A8 x0 x1 x2 x3 x4∧A9 x0 x1 x2 x3 x4∧A10 x0 x1 x2 x3 x4∧A11 x0 x1 x2 x3 x4∧A12 x0 x1 x2 x3 x4∧R x0 x1 x2 x3 x4:=⟨x0,x1,x2,x3,x4,h5,h6,h7,h8,h9,h10,h11,h12,hr⟩
theorem eK{A6 A7 A8 A9 R:X0→X1→X2→X3→X4→X5→Prop}(x0:X0)(x1:X1)(x2:X2)(x3:X3)(x4:X4)(x5:X5)(h6:A6 x0 x1 x2 x3 x4 x5)(h7:A7 x0 x1 x2 x3 x4 x5)(h8:A8 x0 x1 x2 x3 x4 x5)(h9:A9 x0 x1 x2 x3 x4 x5)(hr:R x0 x1 x2 x3 x4 x5):∃x0 x1 x2 x3 x4 x5,A6 x0 x1 x2 x3 x4 x5∧A7 x0 x1 x2 x3 x4 x5∧A8 x0 x1 x2 x3 x4 x5∧A9 x0 x1 x2 x3 x4 x5∧R x0 x1 x2 x3 x4 x5:=⟨x0,x1,x2,x3,x4,x5,h6,h7,h8,h9,hr⟩
theorem nU{A6 A7 A8 A9 A10 A11 A12 A13 R:X0→X1→X2→X3→X4→X5→Prop}(x0:X0)(x1:X1)(x2:X2)(x3:X3)(x4:X4)(x5:X5)(h6:A6 x0 x1 x2 x3 x4 x5)(h7:A7 x0 x1 x2 x3 x4 x5)(h8:A8 x0 x1 x2 x3 x4 x5)(h9:A9 x0 x1 x2 x3 x4 x5)(h10:A10 x0 x1 x2 x3 x4 x5)(h11:A11 x0 x1 x2 x3 x4 x5)(h12:A12 x0 x1 x2 x3 x4 x5)(h13:A13 x0 x1 x2 x3 x4 x5)(hr:R x0 x1 x2 x3 x4 x5):∃x0 x1 x2 x3 x4 x5,A6 x0 x1 x2 x3 x4 x5∧A7 x0 x1 x2 x3 x4 x5∧A8 x0 x1 x2 x3 x4 x5∧A9 x0 x1 x2 x3 x4 x5∧A10 x0 x1 x2 x3 x4 x5∧A11 x0 x1 x2 x3 x4 x5∧A12 x0 x1 x2 x3 x4 x5∧A13 x0 x1 x2 x3 x4 x5∧R x0 x1 x2 x3 x4 x5:=⟨x0,x1,x2,x3,x4,x5,h6,h7,h8,h9,h10,h11,h12,h13,hr⟩
@[elab_as_elim] theorem cA {A:Type u0} {P:A→Prop} {a b:A} (h:some a=some b) (k:P a):P b:=by cases h;exact k
@[elab_as_elim] theorem cg {A:Type u0} {B:Type u1} {P:A→B→Prop} {a a':A} {b b':B} (h:some (a,b)=some (a',b')) (k:P a b):P a' b':=by cases h;exact k
@[elab_as_elim] theorem gp {A:Type u0} {B:Type u1} {D:Type u2} {P:A→B→D→Prop} {a a':A} {b b':B} {c c':D} (h:some (a,b,c)=some (a',b',c')) (k:P a b c):P a' b' c':=by cases h;exact k
theorem ct{A:Type u0}{a:A}(h:none=some a):G:=by cases h
@[elab_as_elim] theorem bH {A:Sort u0} {P:A→Prop} {a b:A} (h:a=b) (k:P a):P b:=h▸k
@[elab_as_elim] theorem rA {A:Sort u0} {P:A→Prop} {a b:A} (h:a=b) (k:P b):P a:=h▸k
@[elab_as_elim] theorem rB {A:Sort u0} {P:A→Prop} {a b:A} (h:b=a) (k:P b):P a:=h▸k
theorem eC{p:Prop}(h:∀q:Prop,(p→q)→q):p:=h p id
end
noncomputable def keep:List Nat:=[1,2,3,4,6,7,8]++F7 10 54++F7 65 9
noncomputable def vq:Program:=view Mt keep
noncomputable def loose:List Str:=["COMPILER_FLAG_NAMES","EXACT_TOKEN_TYPES"]
noncomputable def SC:List Str:=(["!","!=","%","%=","&","&=","(",")","*","**","**=","*=","+","+=",",","-","-=","->",".","...","/","//","//=","/=",":",":=",";","<","<<","<<=","<=","=","==",">",">=",">>",">>=","@","@=","[","]","^","^=","{","|","|=","}","~"]:List String).map Jg
noncomputable def tyV:Value→Option String
 | .type T=>some T
 |_=>none
noncomputable def I8:Value→Option Str
 | .str x _=>some x
 |_=>none
noncomputable def NI:Value→Option Int
 | .int i _=>some i
 |_=>none
noncomputable def D7(e:DictEntry):Option (Int×Str):=(NI e.key).bind λx=>(I8 e.val).bind λy=>if e.hash=hashInt x then some (x,y) else none
theorem Hq{v:Value}{x:Str}(h:I8 v=some x):∃t,v=.str x t:=by cases v<;>first|exact ct h| (refine cA h ?_;exact ⟨_,rfl⟩)
theorem Gl{v:Value}{x:Int}(h:NI v=some x):∃t,v=.int x t:=by cases v<;>first|exact ct h| (refine cA h ?_;exact ⟨_,rfl⟩)
theorem YZ{v:Value}{x:String}(h:tyV v=some x):v=.type x:=by cases v<;>first|exact ct h| (refine cA h ?_;rfl)
noncomputable def SG:Value→Option Addr
 | .ref a=>some a
 |_=>none
noncomputable def YA:Data→Option (List DictEntry)
 | .dict es _=>some es.toList
 |_=>none
noncomputable def Q8(h:Heap)(a:Addr):Option (List DictEntry):=(h.get? a).bind λo=>if tyV o.cls=some "dict"∧o.dict=none∧o.slots.size=0 then YA o.data else none
theorem VU{v:Data}{l:List DictEntry}(h:YA v=some l):∃es n,v=.dict es n∧es.toList=l:=by cases v<;>first|exact ct h| (refine cA h ?_;exact ⟨_,_,rfl,rfl⟩)
theorem ZC{o:Obj}{c:Value}{d:Option Addr}{D:Data}(h1:o.cls=c)(h2:o.dict=d)(h3:o.data=D)(h4:o.slots= #[]):o=⟨c,d,D,#[]⟩:=by subst h1 h2 h3;rw [←h4]
theorem vP{h:Heap}{a:Addr}{l:List DictEntry}(e:Q8 h a=some l):∃es n,h.get? a=some ⟨.type "dict",none,.dict es n,#[]⟩∧es.toList=l:=by
 obtain ⟨o,e1,e2⟩:=KH.mp e
 by_cases q:tyV o.cls=some "dict"∧o.dict=none∧o.slots.size=0
 ·obtain ⟨es,n,ed,el⟩:=VU ((if_pos q).symm.trans e2)
  exact ⟨es,n,e1.trans (congrArg some (ZC (YZ q.1) q.2.1 ed (Array.eq_empty_of_size_eq_zero q.2.2))),el⟩
 ·exact ct ((if_neg q).symm.trans e2)
theorem xj{h h':Heap}{a:Addr}{l:List DictEntry}(e:Q8 h a=some l)(k:∀b o,h.get? b=some o→h'.get? b=some o):Q8 h' a=some l:=by
 obtain ⟨o,e1,e2⟩:=KH.mp e;unfold Q8;rw [k _ _ e1];exact e2
noncomputable def v1(l:List DictEntry):List (Option Str×Int):=l.map λe=>(I8 e.key,e.hash)
noncomputable def v2(l:List DictEntry):List (Option Int):=(["|","*","(",")"]:List Str).map λx=>((l.find? λe=>QT x e.key).map (·.val)).bind NI
noncomputable def k1(w:World):List (Option Str×Int):=SC.map λx=>(some x,PyData.keyHash w.params x)
noncomputable def Yw:List (Int×Str):=[(1,"OPTIMIZED"),(2,"NEWLOCALS"),(4,"VARARGS"),(8,"VARKEYWORDS"),(16,"NESTED"),(32,"GENERATOR"),(64,"NOFREE"),(128,"COROUTINE"),(256,"ITERABLE_COROUTINE"),(512,"ASYNC_GENERATOR")]
noncomputable def yf(s:Shared):=((Q8 s.heap 58).map λl=>(v1 l,v2 l),(Q8 s.heap 43).map λl=>l.map D7)
noncomputable def ya(w:World):=(some (k1 w,[some (18:Int),some 16,some 7,some 8]),some (Yw.map some))
def zC(w:World)(h:Heap):Prop:=∃l1 l2,Q8 h 58=some l1∧Q8 h 43=some l2∧v1 l1=k1 w∧v2 l1=[some 18,some 16,some 7,some 8]∧l2.map D7=Yw.map some
theorem LR(w:World)(s:Shared)(e:yf s=ya w):zC w s.heap:=by
 have e1:=congrArg U2 e;have e2:=congrArg U3 e;obtain ⟨l1,a1,b1⟩:=HU.mp e1;obtain ⟨l2,a2,b2⟩:=HU.mp e2;exact ⟨l1,l2,a1,a2,congrArg U2 b1,congrArg U3 b1,b2⟩
theorem El(w:World)(h h':Heap)(t:zC w h)(k:∀b o,h.get? b=some o→h'.get? b=some o):zC w h':=by
 obtain ⟨l1,l2,a1,a2,r⟩:=t;exact ⟨l1,l2,xj a1 k,xj a2 k,r⟩
noncomputable def mgB(mg:Str→Option Value):Bool:=(mg "EXACT_TOKEN_TYPES").bind SG==some 58&&(mg "COMPILER_FLAG_NAMES").bind SG==some 43
noncomputable def xt(s:Shared):Bool:=xlAt vq [] s&&recOk [] s&&mgB (s.heap.nsMap mainGlobals)
def ZX(mg:Str→Option Value)(h:Heap):Prop:=XL vq [] mg h∧mgB mg=true
theorem XT(s:Shared)(e:xt s=true):ZX (s.heap.nsMap mainGlobals) s.heap:=by
 unfold xt at e
 rw [E_,E_] at e
 exact ⟨xl_of s e.1.1,e.2⟩
theorem MT(mg:Str→Option Value)(h h':Heap)(x:ZX mg h)(k:∀b o,h.get? b=some o→h'.get? b=some o):ZX mg h':=⟨XL.keeps mg h h' x.1 k,x.2⟩
theorem Ix{v:Option Value}{a:Addr}(e:v.bind SG=some a):v=some (.ref a):=by
 obtain ⟨x,rfl,e⟩:=KH.mp e;cases x<;>first|exact ct e| (refine cA e ?_;rfl)
theorem mg_of2{mg:Str→Option Value}(e:mgB mg=true):mg "EXACT_TOKEN_TYPES"=some (.ref 58)∧mg "COMPILER_FLAG_NAMES"=some (.ref 43):=by
 unfold mgB at e
 rw [E_,beq_iff_eq,beq_iff_eq] at e
 exact ⟨Ix e.1,Ix e.2⟩
theorem tZ{v:Option Value}{i:Int}(e:v.bind NI=some i):∃t,v=some (.int i t):=by
 obtain ⟨x,rfl,e⟩:=KH.mp e;obtain ⟨t,q⟩:=Gl e;exact ⟨t,congrArg some q⟩
noncomputable def Us:Str:="law"
theorem Kx:(defOf vq Us).isSome=true:= ∅
noncomputable def dd:DefRec×List (Str×Expr):=(defOf vq Us).get Kx
theorem Z7:defOf vq Us=some (dd.1,dd.2):=(Option.some_get Kx).symm
noncomputable abbrev P:=Mt
abbrev PU(w:World)(b:Bool):Prop:=(openEnds treeTable P (w.withFollow "special-get-raises" b) 4366).map (λs=>(openSeen vq loose (importedModules P.main.body) xt true s,yf s))=some (openGood vq loose,ya (w.withFollow "special-get-raises" b))
theorem Yn(w:World):PU w false:= ∅
theorem Z6(w:World):PU w true:= ∅
theorem XN:LeftO P vq loose xt yf ya 4366:=byRow2 "special-get-raises" (P:= λw=>(openEnds treeTable Mine.P w 4366).map (λs=>(openSeen vq loose (importedModules Mine.P.main.body) xt true s,yf s))=some (openGood vq loose,ya w)) Yn Z6
theorem HY:Lm.wellSaid=true:= ∅
abbrev RR:=Lm.row
theorem Pj:RR.toRowW.promised:=by w_witness2
theorem V4:RR.prog.theDef RR.name=some (dd.1.params,dd.1.body,dd.1.scope):= ∅
theorem aa6:kwWritten? dd.1.params.kwonlyargs dd.1.params.kw_defaults=some dd.2:= ∅
theorem Tk:(chainsOk vq&&opensWell RR.prog&&(frees RR.toRowW&&RR.within.isEmpty))=true:= ∅
end Mine
namespace Mine
open PySem PySem.W PySem.Calls PyProof.Rows
variable {Cn D L TI TO a fa i1 i2 i3 z : Addr} {A : Around} {items zs : Array Value} {sh tup : Bool} {cenv env : Env} {mean : ExcName → Option Value} {e e1 e2 elt iter target test : Expr} {h h' : Heap} {y : Int} {M M' O T T' W wr α α' α1 α₀ : List Addr} {es : List Expr} {K cs ns os rest : List Int} {gi ls m ps : List Nat} {X acc acc' ds xs ys : List PyData} {body orelse : List Stmt} {vs : List Value} {b i j ja jt k kk low mask n p q tk : Nat} {o : Obj} {op : Operator} {hi lo : Option Expr} {gg : Option Nat} {apos pos px py sp tp xp : Pos} {prog : Program} {G : Prop} {d : PyData} {sc scope : Scope} {s s' s'' s1 s₀ : Shared} {st : Stmt} {name x : Str} {u : Tok} {cd cls doc fv it pm v : Value} {E Q : Value → Shared → Prop} {w : World}
def fZ(W:List Addr)(h h':Heap):Prop:=∀b o,h.get? b=some o→(b∈W→False)→h'.get? b=some o
theorem fZ.refl(W:List Addr)(h:Heap):fZ W h h:= λzz zz e zz=>e
theorem fZ.of_keeps(hk:∀b o,h.get? b=some o→h'.get? b=some o):fZ W h h':= λb o e zz=>hk b o e
theorem fZ.mono{W':List Addr}(x:fZ W h h')(hs:∀a∈W,a∈W'∨h.get? a=none):fZ W' h h':= λb o e ht=>x b o e λhb=>by
 rcases hs b hb with q|q
 ·exact ht q
 ·rw [e] at q;exact ct (ES q)
theorem fZ.trans{h'':Heap}(x:fZ W h h')(y:fZ W h' h''):fZ W h h'':= λb o e ht=>y b o (x b o e ht) ht
def SeqAt(h:Heap)(a:Addr):Prop:=∃o vs n,h.get? a=some o∧o.data=.seq vs n
theorem fG{vs:Array Value}(p:h.PlainList a vs):SeqAt h a:=let ⟨n,e⟩:=p;(lG _ vs n e rfl)
theorem h_{vs:Array Value}(p:h.IsTuple a vs):SeqAt h a:=let ⟨o,e,_,n,d⟩:=p;⟨o,vs,n,e,d⟩
theorem SeqAt.ext(x:fZ W h h')(ha:a∉W)(q:SeqAt h a):SeqAt h' a:=by
 refine fy q λo vs n e d=>?_;exact (lG o vs n (x _ _ e (λhm=>absurd hm ha)) d)
mutual
inductive aJ (h:Heap) (M:List Addr):Value→PyData→Prop
 |cnone:aJ h M .none .none
 |cbool (b:Bool):aJ h M (.bool b) (.bool b)
 |cint (i:Int) (t:Tok):aJ h M (.int i t) (.int i)
 |cstr (x:Str) (t:Tok):aJ h M (.str x t) (.str x)
 |clist {a:Addr} {vs:Array Value} {xs:List PyData}:h.PlainList a vs→a∉M→aw h M vs.toList xs→aJ h M (.ref a) (.list xs)
 |ctuple {a:Addr} {vs:Array Value} {xs:List PyData}:h.IsTuple a vs→a∉M→aw h M vs.toList xs→aJ h M (.ref a) (.tuple xs)
inductive aw (h:Heap) (M:List Addr):List Value→List PyData→Prop
 |cnil:aw h M [] []
 |ccons {v:Value} {vs:List Value} {d:PyData} {ds:List PyData}:aJ h M v d→aw h M vs ds→aw h M (v::vs) (d::ds)
end
theorem jX{vs:Array Value}(p:h.IsTuple a vs)(x:fZ W h h')(ha:a∉W):h'.IsTuple a vs:=let ⟨o,e,q⟩:=p;⟨o,x _ _ e (λz=>ha z),q⟩
theorem eP{vs:Array Value}(p:h.PlainList a vs)(x:fZ W h h')(ha:a∉W):h'.PlainList a vs:=let ⟨n,e⟩:=p;⟨n,x _ _ e (λz=>ha z)⟩
theorem fO(q:SeqAt h a):h.get? a≠none:=by
 refine fy q λo zz zz e zz=>?_;rw [e];simp
theorem aJ.step(r:aJ h M v d)(x:fZ W h h')(hw:∀a∈W,SeqAt h a→a∈M)(hm:∀a∈M',a∈M∨h.get? a=none):aJ h' M' v d:=by
 refine aJ.rec (motive_1:= λv d zz=>aJ h' M' v d) (motive_2:= λvs ds zz=>aw h' M' vs ds) .cnone .cbool .cint .cstr ?_ ?_ .cnil ?_ r
 ·intro a vs xs p ha _ ih
  exact .clist (eP p x λq=>ha (hw a q (fG p))) (λq=>(hm a q).elim ha λz=>fO (fG p) z) ih
 ·intro a vs xs p ha _ ih
  exact .ctuple (jX p x λq=>ha (hw a q (h_ p))) (λq=>(hm a q).elim ha λz=>fO (h_ p) z) ih
 ·intro v vs d ds _ _ i1 i2;exact .ccons i1 i2
theorem aw.step(x:fZ W h h')(hw:∀a∈W,SeqAt h a→a∈M)(hm:∀a∈M',a∈M∨h.get? a=none):∀ {vs:List Value} {ds:List PyData},aw h M vs ds→aw h' M' vs ds
 |_,_,.cnil=>.cnil
 |_,_,.ccons r rs=>.ccons (r.step x hw hm) (aw.step x hw hm rs)
theorem aJ.keeps(r:aJ h M v d)(hk:∀b o,h.get? b=some o→h'.get? b=some o):aJ h' M v d:=
 r.step (W:=[]) (fZ.of_keeps hk) (by simp) λa ha=>.inl ha
theorem aw.keeps{v:List Value}{d:List PyData}(r:aw h M v d)(hk:∀b o,h.get? b=some o→h'.get? b=some o):aw h' M v d:=
 aw.step (W:=[]) (fZ.of_keeps hk) (by simp) (λa ha=>.inl ha) r
theorem aJ.mono(r:aJ h M v d)(hm:∀a∈M',a∈M):aJ h M' v d:=r.step (W:=[]) (fZ.refl _ _) (by simp) λa ha=>.inl (hm a ha)
theorem aw.mono{v:List Value}{d:List PyData}(r:aw h M v d)(hm:∀a∈M',a∈M):aw h M' v d:=aw.step (W:=[]) (fZ.refl _ _) (by simp) (λa ha=>.inl (hm a ha)) r
theorem v5{vs:Array Value}{as:List Addr}(p:h.IsTuple a vs)(r:ReadsAll h vs.toList xs as):Reads h (.ref a) (.tuple xs) as:=let ⟨_,e,c,_,d⟩:=p;.tuple e c d r
theorem aJ.reads(r:aJ h M v d):∃as,Reads h v d as:=by
 refine aJ.rec (motive_1:= λv d zz=>∃as,Reads h v d as) (motive_2:= λvs ds zz=>∃as,ReadsAll h vs ds as) ⟨_,.none⟩ (λb=>⟨_,.bool b⟩) (λi t=>⟨_,.int i t⟩) (λx t=>⟨_,.str x t⟩) ?_ ?_ ⟨_,.nil⟩ ?_ r
 ·intro a vs xs zi0 ha _ zi1
  refine bP zi0 λn e=>?_;refine bP zi1 λas ih=>?_;exact ⟨_,.list e rfl rfl ih⟩
 ·intro a vs xs p ha _ zi2
  refine bP zi2 λas ih=>?_;exact ⟨_,v5 p ih⟩
 ·rintro v vs d ds _ _ ⟨as,i1⟩ ⟨bs,i2⟩;exact ⟨_,.cons i1 i2⟩
theorem aw.readsAll:∀ {vs:List Value} {ds:List PyData},aw h M vs ds→∃as,ReadsAll h vs ds as
 |_,_,.cnil=>⟨_,.nil⟩
 |_,_,.ccons r rs=>let ⟨_,a⟩:=r.reads;let ⟨_,b⟩:=rs.readsAll;⟨_,.cons a b⟩
theorem aJ.none(h:Heap)(M:List Addr):aJ h M .none .none:=.cnone
theorem aJ.bool(h:Heap)(M:List Addr)(b:Bool):aJ h M (.bool b) (.bool b):=.cbool b
theorem aJ.int(h:Heap)(M:List Addr)(i:Int)(t:Tok):aJ h M (.int i t) (.int i):=.cint i t
theorem aJ.str(h:Heap)(M:List Addr)(x:Str)(t:Tok):aJ h M (.str x t) (.str x):=.cstr x t
theorem aw.nil(h:Heap)(M:List Addr):aw h M [] []:=.cnil
theorem aw.cons(r:aJ h M v d)(rs:aw h M vs ds):aw h M (v::vs) (d::ds):=.ccons r rs
theorem aw.uncons(r:aw h M (v::vs) (d::ds)):aJ h M v d∧aw h M vs ds:=by
 cases r with
 |ccons r1 r2=>exact ⟨r1,r2⟩
theorem aw.length:∀ {vs:List Value} {ds:List PyData},aw h M vs ds→vs.length=ds.length
 |_,_,.cnil=>rfl
 |_,_,.ccons _ r=>by simp [r.length]
theorem aw.append:∀ {vs ws:List Value} {ds es:List PyData},aw h M vs ds→aw h M ws es→aw h M (vs++ws) (ds++es)
 | [],ws,ds,es,r,r'=>by
  have:=r.length
  cases ds with
  |nil=>exact r'
  |cons _ _=>simp at this
 |v::vs,ws,[],es,r,_=>by have:=r.length;simp at this
 |v::vs,ws,d::ds,es,r,r'=>by
  refine fY r.uncons λa b=>?_;exact .cons a (b.append r')
theorem aw.get:∀ {vs:List Value} {ds:List PyData},aw h M vs ds→∀ {i:Nat} {d:PyData},ds[i]? =some d→∃v,vs[i]? =some v∧aJ h M v d
 | [],[],_,i,d,e=>by simp at e
 | [],_::_,r,_,_,_=>by have:=r.length;simp at this
 |_::_,[],r,_,_,_=>by have:=r.length;simp at this
 |v::vs,d::ds,r,i,d',e=>by
  refine fY r.uncons λa b=>?_;cases i with
  |zero=>simp at e;subst e;exact (aZ v (by simp) a)
  |succ i=>simpa using b.get (by simpa using e)
theorem aw.get':∀ {vs:List Value} {ds:List PyData},aw h M vs ds→∀ {i:Nat} {v:Value},vs[i]? =some v→∃d,ds[i]? =some d∧aJ h M v d
 | [],[],_,i,d,e=>by simp at e
 | [],_::_,r,_,_,_=>by have:=r.length;simp at this
 |_::_,[],r,_,_,_=>by have:=r.length;simp at this
 |v::vs,d::ds,r,i,v',e=>by
  refine fY r.uncons λa b=>?_;cases i with
  |zero=>simp at e;subst e;exact (aZ d (by simp) a)
  |succ i=>simpa using b.get' (by simpa using e)
theorem aw.drop:∀ (k:Nat) {vs:List Value} {ds:List PyData},aw h M vs ds→aw h M (vs.drop k) (ds.drop k)
 |0,_,_,r=>r
 |k+1,[],[],r=>by simpa using r
 |_+1,[],_::_,r=>by have:=r.length;simp at this
 |_+1,_::_,[],r=>by have:=r.length;simp at this
 |k+1,_::_,_::_,r=>r.uncons.2.drop k
theorem aw.take:∀ (k:Nat) {vs:List Value} {ds:List PyData},aw h M vs ds→aw h M (vs.take k) (ds.take k)
 |0,_,_,_=>by simpa using aw.nil h M
 |k+1,[],[],r=>by simpa using r
 |_+1,[],_::_,r=>by have:=r.length;simp at this
 |_+1,_::_,[],r=>by have:=r.length;simp at this
 |k+1,_::_,_::_,r=>by simpa using aw.cons r.uncons.1 (r.uncons.2.take k)
theorem aw.set:∀ {vs:List Value} {ds:List PyData} (k:Nat) {v:Value} {d:PyData},aw h M vs ds→aJ h M v d→aw h M (vs.set k v) (ds.set k d)
 | [],[],_,_,_,r,_=>by simpa using r
 | [],_::_,_,_,_,r,_=>by have:=r.length;simp at this
 |_::_,[],_,_,_,r,_=>by have:=r.length;simp at this
 |_::_,_::_,0,_,_,r,r'=>by simpa using aw.cons r' r.uncons.2
 |_::_,_::_,k+1,_,_,r,r'=>by simpa using aw.cons r.uncons.1 (r.uncons.2.set k r')
theorem aw.reverse:∀ {vs:List Value} {ds:List PyData},aw h M vs ds→aw h M vs.reverse ds.reverse
 | [],[],r=>by simpa using r
 | [],_::_,r=>by have:=r.length;simp at this
 |_::_,[],r=>by have:=r.length;simp at this
 |_::_,_::_,r=>by simpa using r.uncons.2.reverse.append (aw.cons r.uncons.1 (aw.nil h M))
theorem aJ.tuple{vs:Array Value}(ho:h.get? a=some o)(hc:o.cls=.type "tuple")(hd:o.data=.seq vs n)(r:aw h M vs.toList ds)(hM:a∉M):aJ h M (.ref a) (.tuple ds):=.ctuple (VX o ho hc n hd) hM r
theorem aJ.list{vs:Array Value}(hp:h.PlainList a vs)(r:aw h M vs.toList ds)(hM:a∉M):aJ h M (.ref a) (.list ds):=.clist hp hM r
theorem aJ.of_list(r:aJ h M v (.list ds)):∃a items,v=.ref a∧h.PlainList a items∧aw h M items.toList ds∧a∉M:=by
 cases r with
 |clist p ha r=>exact (tM _ _ rfl p r ha)
theorem aJ.of_tuple(r:aJ h M v (.tuple ds)):∃a items,v=.ref a∧h.IsTuple a items∧aw h M items.toList ds:=by
 cases r with
 |ctuple p ha r=>exact (dw _ _ rfl p r)
theorem aJ.of_int{i:Int}(r:aJ h M v (.int i)):∃t,v=.int i t:=by
 cases r with
 |cint _ t=>exact ⟨t,rfl⟩
theorem aJ.of_bool{i:Bool}(r:aJ h M v (.bool i)):v=.bool i:=by
 cases r;rfl
theorem aJ.of_none(r:aJ h M v .none):v=.none:=by
 cases r;rfl
theorem aJ.of_str{i:Str}(r:aJ h M v (.str i)):∃t,v=.str i t:=by
 cases r with
 |cstr _ t=>exact ⟨t,rfl⟩
inductive ah where
 |live (xs:List PyData)
 |frozen (xs:List PyData)
 |iter (xs:List PyData)
noncomputable def ah.isMut:ah→Bool
 | .frozen _=>false
 |_=>true
inductive AV where
 |d (x:PyData)
 |c (i:Nat)
 |rng (a b:Int)
 |ty (T:String)
noncomputable def ai:List Addr→List ah→List Addr
 |a::α,c::μ=>if c.isMut then a::ai α μ else ai α μ
 |_,_=>[]
theorem va:∀ {μ:List ah},ai [] μ=[]
 | []=>rfl
 |_::_=>rfl
theorem qv{c:ah}{μ:List ah}:ai (a::α) (c::μ)=if c.isMut then a::ai α μ else ai α μ:=rfl
theorem db:∀ {α:List Addr} {μ:List ah} {a:Addr},a∈ai α μ→a∈α
 | [],_,_,h=>(E4 (va▸h)).elim
 |_::_,[],_,h=>(E4 h).elim
 |b::α,c::μ,a,h=>by
  rw [qv] at h
  split at h
  ·rcases C1.mp h with rfl|h
   ·exact FK ..
   ·exact D2 _ (db h)
  ·exact D2 _ (db h)
theorem pS:∀ {α:List Addr} {μ:List ah} {i:Nat} {a:Addr} {c:ah},α[i]? =some a→μ[i]? =some c→c.isMut=true→a∈ai α μ
 | [],_,_,_,_,h,_,_=>by simp at h
 |_::_,[],_,_,_,_,h,_=>by simp at h
 |b::α,c::μ,0,a,c',h1,h2,h3=>by
  simp at h1 h2;subst h1;subst h2
  rw [qv,if_pos h3];exact FK ..
 |b::α,c::μ,i+1,a,c',h1,h2,h3=>by
  have:=pS (α:=α) (μ:=μ) (i:=i) (by simpa using h1) (by simpa using h2) h3
  rw [qv];split
  ·exact D2 _ this
  ·exact this
theorem rE:∀ {α δ:List Addr} {μ κ:List ah},α.length=μ.length→ai (α++δ) (μ++κ)=ai α μ++ai δ κ
 | [],_,[],_,_=>rfl
 | [],_,_::_,_,h=>by simp at h
 |_::_,_,[],_,h=>by simp at h
 |a::α,δ,c::μ,κ,h=>by
  refine (?_:(if c.isMut then a::ai (α++δ) (μ++κ) else ai (α++δ) (μ++κ))=(if c.isMut then a::ai α μ else ai α μ)++ai δ κ);rw [rE (by simpa using h)]
  split<;>rfl
theorem rh:∀ {α:List Addr} {μ:List ah} {i:Nat} {c:ah} {a:Addr},a∈ai α (μ.set i c)→(∀c₀,μ[i]? =some c₀→c.isMut=true→c₀.isMut=true)→a∈ai α μ
 | [],_,_,_,_,h,_=>(E4 (va▸h)).elim
 |_::_,[],_,_,_,h,_=>h
 |b::α,c::μ,0,c',a,h,q=>by
  simp only [SL] at h
  rw [qv] at h⊢
  split at h
  ·rename_i hc
   rw [if_pos (q c rfl hc)];exact h
  ·split
   ·exact D2 _ h
   ·exact h
 |b::α,c::μ,i+1,c',a,h,q=>by
  simp only [PR] at h
  rw [qv] at h⊢
  split at h
  ·rename_i hc
   rw [if_pos hc]
   rcases C1.mp h with rfl|h
   ·exact FK ..
   ·exact D2 _ (rh h λc₀ e=>q c₀ (by simpa using e))
  ·rename_i hc
   rw [if_neg hc];exact rh h λc₀ e=>q c₀ (by simpa using e)
def G9(h:Heap)(a:Addr):Prop:=∃o k,h.get? a=some o∧o.cls=.type "list_iterator"∧o.data=.fields #[.none,k]
noncomputable def dX(h:Heap)(M:List Addr)(a:Addr):ah→Prop
 | .live xs=>∃items,h.PlainList a items∧aw h M items.toList xs
 | .frozen xs=>aJ h M (.ref a) (.list xs)
 | .iter xs=>(∃l k items,h.IsListIter a l k∧h.PlainList l items∧l∉M∧k≤items.size∧aw h M (items.toList.drop k) xs)∨(xs=[]∧G9 h a)
noncomputable def bm(h:Heap)(α M:List Addr)(v:Value):AV→Prop
 | .d x=>aJ h M v x
 | .c i=>∃a,α[i]? =some a∧v=.ref a
 | .rng a b=>∃r t u w,v=.ref r∧IsRange h r a b 1 t u w∧r∉M
 | .ty T=>v=.type T
set_option genInjectivity false in
structure gK where
 prog:Program
 w:World
 B:Heap
 os:OsState
 mg:Str→Option Value
 mb:Str→Option Value
 g:B.Ns mainGlobals mg
 b:B.Ns builtinsNs mb
 bt:∀x:Str,x≠"__name__"→mb x=bootBuiltins x
 nolim:B.NoLimit
structure bl (C:gK) (T α:List Addr) (μ:List ah) (s:Shared):Prop where
 keep:∀b o,C.B.get? b=some o→s.heap.get? b=some o
 len:α.length=μ.length
 cells:∀ (i:Nat) a c,α[i]? =some a→μ[i]? =some c→dX s.heap (T++ai α μ) a c
 nodup:α.Nodup
 apart:∀a∈T,a∉α
 tdom:∀a∈T,∃o,s.heap.get? a=some o
 tnew:∀a∈T,C.B.get? a=none
 new:∀a∈α,C.B.get? a=none
 gens:AllBare s.gens
 os:s.os=C.os
structure aV (O α:List Addr) (μ:List ah) (s:Shared) (α':List Addr) (μ':List ah) (s':Shared):Prop where
 pre:∃δ,α'=α++δ∧∀a∈δ,s.heap.get? a=none
 ext:fZ (O++ai α μ) s.heap s'.heap
 mts:∀a∈ai α' μ',a∈ai α μ∨s.heap.get? a=none
 dom:∀a o,s.heap.get? a=some o→∃o',s'.heap.get? a=some o'
 gens:∀ (i:Nat) (x:GenState),s.gens[i]? =some x→s'.gens[i]? =some x
theorem dW(d:∀a o,h.get? a=some o→∃o',h'.get? a=some o')(e:h'.get? a=none):h.get? a=none:=by
 cases q:h.get? a with
 |none=>rfl
 |some o=>refine bP (d a o q) λo' z=>?_;rw [e] at z;exact ct z
theorem aV.refl(O α:List Addr)(μ:List ah)(s:Shared):aV O α μ s α μ s:=
 ⟨(aZ ([]) (by simp) (by simp)),fZ.refl _ _,λzz h=>.inl h,λzz o e=>⟨o,e⟩,λzz zz e=>e⟩
theorem aV.trans{α'':List Addr}{μ μ' μ'':List ah}(x:aV O α μ s α' μ' s')(y:aV O α' μ' s' α'' μ'' s''):aV O α μ s α'' μ'' s'':=by
 refine au x.pre λδ e1 d1=>?_;refine au y.pre λδ' e2 d2=>?_;refine ⟨(aZ (δ++δ') (by rw [e2,e1,Eg]) (λa ha=>?_)),λb o e ht=>y.ext b o (x.ext b o e ht) λhb=>?_,λa ha=>?_,λa o e=>?_,λi z e=>y.gens i z (x.gens i z e)⟩
 ·rcases AZ.mp ha with h|h
  ·exact d1 a h
  ·exact dW x.dom (d2 a h)
 ·rcases AZ.mp hb with h|h
  ·exact ht (yg _ h)
  ·rcases x.mts b h with q|q
   ·exact ht (D1 _ q)
   ·rw [e] at q;exact ct (ES q)
 ·rcases y.mts a ha with q|q
  ·exact x.mts a q
  ·exact .inr (dW x.dom q)
 ·refine bP (x.dom a o e) λo' e'=>?_
  exact y.dom a o' e'
theorem aV.weak{O':List Addr}{μ μ':List ah}(x:aV O α μ s α' μ' s')(h:∀a∈O,a∈O'∨s.heap.get? a=none):aV O' α μ s α' μ' s':=
 ⟨x.pre,x.ext.mono λa ha=>by
  rcases AZ.mp ha with q|q
  ·rcases h a q with z|z
   ·exact .inl (yg _ z)
   ·exact .inr z
  ·exact .inl (D1 _ q),x.mts,x.dom,x.gens⟩
theorem aV.up{μ μ':List ah}(x:aV [] α μ s α' μ' s'):aV O α μ s α' μ' s':=x.weak (by simp)
def bW(h:Heap)(a:Addr):Prop:=∃o,h.get? a=some o∧((∃es n,o.data=.dict es n)∨(∃v,o.data=.cell v))
theorem bW.notSeq(x:bW h a):¬SeqAt h a:=by
 intro zi0;refine fy zi0 λo vs n e d=>?_;refine au x λo' e' q=>?_;rw [e] at e';cases e'
 rcases q with ⟨es,n',q⟩| ⟨v,q⟩<;>rw [d] at q<;>cases q
theorem bW.notRange{r:Addr}(x:bW h r){t w:Tok}{p q z:Int}(hr:IsRange h r p q z t u w):False:=by
 refine au x λo' e' k=>?_;rw [hr] at e';cases e'
 rcases k with ⟨es,n',q⟩| ⟨v,q⟩<;>cases q
def iH(O T:List Addr)(h:Heap):Prop:=∀a∈O,h.get? a=none∨bW h a∨a∈T
theorem iH.nil(T:List Addr)(h:Heap):iH [] T h:= λa ha=>by cases ha
theorem iH.seq(k:iH W M h):∀a∈W,SeqAt h a→a∈M:= λa ha q=>(k a ha).elim (λz=>absurd z (fO q)) λz=>z.elim (λz=>absurd q z.notSeq) λz=>z
theorem iH.app{N:List Addr}(k:iH O T h):iH (O++N) (T++N) h:= λa ha=>(AZ.mp ha).elim (λz=>(k a z).imp id (Or.imp id (yg _))) λz=>.inr (.inr (D1 _ z))
theorem aV.hm{μ μ':List ah}(x:aV O α μ s α' μ' s')(hT:∀a∈T',a∈T∨s.heap.get? a=none):∀a∈T'++ai α' μ',a∈T++ai α μ∨s.heap.get? a=none:= λa ha=>
 (AZ.mp ha).elim (λh=>(hT a h).imp_left (yg _)) λh=>(x.mts a h).imp_left (D1 _)
section
theorem aJ.ext(r:aJ h M v d)(x:fZ W h h')(k:iH W M h)(hm:∀a∈M',a∈M∨h.get? a=.none):aJ h' M' v d:=r.step x k.seq hm
theorem aw.ext{v:List Value}{d:List PyData}(r:aw h M v d)(x:fZ W h h')(k:iH W M h)(hm:∀a∈M',a∈M∨h.get? a=none):aw h' M' v d:=aw.step x k.seq hm r
theorem bm.ext{V:AV}(r:bm h α M v V)(x:fZ W h h')(k:iH W M h)(hα:∀ (i:Nat) a,α[i]? =some a→α'[i]? =some a)(hm:∀a∈M',a∈M∨h.get? a=none):bm h' α' M' v V:=by
 cases V with
 |d y=>exact aJ.ext (d:=y) r x k hm
 |c i=>exact au r λa e z=>aZ a (hα i a e) z
 |ty T=>exact r
 |rng p q=>
  refine qP r λr t u w z hr hM=>?_;have dm:h.get? r≠none:= λz=>ct (z.symm.trans hr);exact rj r t u w z (x _ _ hr λhb=>(k r hb).elim dm λz=>z.elim (λz=>z.notRange hr) hM) (λq=>(hm r q).elim hM dm)
theorem dX.ext{c:ah}(y:dX h M a c)(x:fZ W h h')(k:iH W M h)(hm:∀a∈M',a∈M∨h.get? a=none)(ha:c.isMut=true→a∈W→False):dX h' M' a c:=by
 cases c with
 |live xs=>exact au y λitems p r=>aZ items (eP p x (ha rfl)) (r.ext x k hm)
 |frozen xs=>exact aJ.ext y x k hm
 |iter xs=>
  refine y.imp (λz=>i7 z λl k' items z p2 hl hk r=>?_) λz=>Nu z λz1 o k' e q d=>Nm z1 o k' (x _ _ e (ha rfl)) q d;refine i0 l k' items (au z λo e q=>aZ o (x _ _ e (ha rfl)) q) (eP p2 x λq=>hl (k.seq _ q (fG p2))) (λq=>(hm l q).elim hl (fO (fG p2))) hk (r.ext x k hm)
end
theorem dX.dom{c:ah}(x:dX h M a c)(q:h.get? a=none):False:=by
 cases c with
 |live xs=>exact au x λitems p r=>fO (fG p) q
 |frozen xs=>exact bq (aJ.of_list x) λl items e p zz=>by cases e;exact fO (fG p) q
 |iter xs=>exact x.elim (λz=>i7 z λl k items z zz zz zz zz=>au z λo e zz=>ct (q.symm.trans e)) λz=>UZ z λzz o k e zz=>ct (q.symm.trans e)
theorem aV.at{μ μ':List ah}(x:aV O α μ s α' μ' s')(i:Nat)(a:Addr)(e:α[i]? =some a):α'[i]? =some a:=
 au x.pre λδ e1 zz=>by rw [e1,EY (Bm.mp e).1];exact e
theorem bm.stepO{μ μ':List ah}{V:AV}(r:bm s.heap α (T++ai α μ) v V)(x:aV O α μ s α' μ' s')(hO:iH O T s.heap)(hT:∀a∈T',a∈T∨s.heap.get? a=none):
 bm s'.heap α' (T'++ai α' μ') v V:=r.ext x.ext hO.app x.at (x.hm hT)
theorem bm.step0{μ μ':List ah}{V:AV}(r:bm s.heap α (T++ai α μ) v V)(x:aV [] α μ s α' μ' s'):bm s'.heap α' (T++ai α' μ') v V:=r.stepO x (iH.nil _ _) λa ha=>.inl ha
theorem aJ.step0{μ μ':List ah}(r:aJ s.heap (T++ai α μ) v d)(x:aV [] α μ s α' μ' s'):aJ s'.heap (T++ai α' μ') v d:=bm.step0 (V:=.d d) r x
theorem aw.stepO{μ μ':List ah}{v:List Value}{d:List PyData}(r:aw s.heap (T++ai α μ) v d)(x:aV O α μ s α' μ' s')(hO:iH O T s.heap)(hT:∀a∈T',a∈T∨s.heap.get? a=none):aw s'.heap (T'++ai α' μ') v d:=
 r.ext x.ext hO.app (x.hm hT)
theorem aw.step0{μ μ':List ah}{v:List Value}{d:List PyData}(r:aw s.heap (T++ai α μ) v d)(x:aV [] α μ s α' μ' s'):aw s'.heap (T++ai α' μ') v d:=r.stepO x (iH.nil _ _) λa ha=>.inl ha
variable {V V' : AV} {c c' : ah} {C : gK} {Vs : List AV} {Mid : List Addr → List Addr → List Addr → List ah → Nat → Value → Shared → Prop} {μ μ' μ'' μ1 μ2 μ3 μ₀ : List ah} {ha ke td te tx : Option AV}
noncomputable abbrev d0:=List (Option AV)
set_option genInjectivity false in
structure Cx where
 scope:Scope
 names:List (Str×Nat)
structure Ql (cx:Cx) (env:Env) (O:List Addr) (ρ:d0) (h:Heap) (α M:List Addr) (cad:Nat→Addr):Prop where
 look:∀ (i:Nat) x k,cx.names[i]? =some (x,k)→2≤k→env.cells.lookup x=some (cad i)
 has:∀ (i:Nat) x k,cx.names[i]? =some (x,k)→2≤k→∃o,h.IsCell (cad i) o∧∀V,ρ[i]? =some (some V)→∃v,o=some v∧bm h α M v V
 own:∀ (i:Nat) x,cx.names[i]? =some (x,2)→cad i∈O
 inj:∀ (i j:Nat) x y k l,cx.names[i]? =some (x,k)→cx.names[j]? =some (y,l)→2≤k→2≤l→cad i=cad j→i=j
def En(cx:Cx)(env:Env)(a:Addr):Prop:=a=env.locals∨∃ (i:Nat) (x:Str) (k:Nat),cx.names[i]? =some (x,k)∧2≤k∧env.cells.lookup x=some a
structure bh (C:gK) (cx:Cx) (env:Env) (O:List Addr) (ρ:d0) (h:Heap) (α M:List Addr):Prop where
 sc:env.scope=cx.scope
 gl:env.globals=mainGlobals
 bn:env.builtins=builtinsNs
 len:ρ.length=cx.names.length
 loc:∃m,h.Ns env.locals m∧∀ (i:Nat) x V,cx.names[i]? =some (x,1)→ρ[i]? =some (some V)→∃v,m x=some v∧bm h α M v V
 cel:∃cad,Ql cx env O ρ h α M cad
 own:∀a∈O,bW h a∧C.B.get? a=none
 lo:env.locals∈O
 off:∀a∈M,¬ (En cx env a∨a∈O)
 nd:∀ (i j:Nat) x,cx.names[i]? =some (x,1)→cx.names[j]? =some (x,1)→i=j
theorem qO{c:Addr}{o:Option Value}(hc:h.IsCell c o)(x:fZ W h h')(hn:c∉W):h'.IsCell c o:=by
 refine au hc λob e d=>?_;exact (aZ ob (x _ _ e λq=>absurd q hn) d)
theorem zV{c:Addr}{m:Str→Option Value}(hc:h.Ns c m)(x:fZ W h h')(hn:c∉W):h'.Ns c m:=by
 refine fy hc λob es ep e d=>?_;exact (lG ob es ep (x _ _ e λq=>absurd q hn) d)
theorem dX.notFrame(x:dX h M a c):¬bW h a:=by
 intro zi0;refine au zi0 λo e q=>?_;cases c with
 |live xs=>
  refine au x λitems zp1 zz=>?_;refine bP zp1 λn e'=>?_;rw [e'] at e;cases e
  rcases q with ⟨es,n',q⟩| ⟨v,q⟩<;>cases q
 |frozen xs=>
  refine bq (aJ.of_list x) λl items e1 zp3 zz=>?_;refine bP zp3 λn e'=>?_;cases e1;rw [e'] at e;cases e
  rcases q with ⟨es,n',q⟩| ⟨v,q⟩<;>cases q
 |iter xs=>
  rcases x with ⟨l,k,items,⟨o',e',_,ed⟩,_⟩| ⟨_,o',k,e',_,ed⟩
  all_goals
   rw [e'] at e;cases e
   rcases q with ⟨es,n',q⟩| ⟨v,q⟩<;>rw [ed] at q<;>cases q
theorem iD{α:Type}{l:List α}{a:α}(h:a∈l):∃i:Nat,l[i]? =some a:=by
 obtain ⟨i,hi,e⟩:=List.mem_iff_getElem.mp h;exact ⟨i,by rw [Fh hi,e]⟩
theorem bl.at(I:bl C T α μ s)(ha:a∈α):∃c,dX s.heap (T++ai α μ) a c:=
 bP (iD ha) λi e=>⟨_,I.cells i a _ e (Fh (I.len▸(Bm.mp e).1))⟩
theorem bl.cdom(I:bl C T α μ s)(ha:a∈α)(q:s.heap.get? a=none):False:=bP (I.at ha) λzz z=>z.dom q
theorem bl.notFrame(I:bl C T α μ s)(ha:a∈α):¬bW s.heap a:=bP (I.at ha) λzz z=>z.notFrame
theorem hH{c:Addr}{o:Option Value}(x:h.IsCell c o):bW h c:=let ⟨ob,e,d⟩:=x;⟨ob,e,.inr ⟨o,d⟩⟩
theorem fT{c:Addr}{m:Str→Option Value}(x:h.Ns c m):bW h c:=let ⟨ob,es,ep,e,d,_⟩:=x;⟨ob,e,.inl (jK es ep d)⟩
theorem bW.ext(x:bW h a)(e:fZ W h h')(hn:a∉W):bW h' a:=let ⟨o,ho,q⟩:=x;⟨o,e _ _ ho λz=>absurd z hn,q⟩
theorem bh.inFr{cx:Cx}{ρ:d0}(F:bh C cx env O ρ h α M)(ha:En cx env a):bW h a:=by
 rcases ha with rfl| ⟨i,x,k,e,hk,hl⟩
 ·exact (F.own _ F.lo).1
 ·refine bP F.cel λcad hc=>?_
  have:=hc.look i x k e hk
  rw [hl] at this;refine cA (ES this) ?_
  refine au (hc.has i x k e hk) λo ho zz=>?_;exact hH ho
theorem bh.frA{cx:Cx}{ρ:d0}(F:bh C cx env O ρ h α M)(ha:En cx env a∨a∈O):bW h a:=ha.elim F.inFr λq=>(F.own a q).1
theorem bW.dom(x:bW h a):h.get? a≠none:=by
 refine au x λo e zz=>?_;rw [e];simp
theorem bh.ext{cx:Cx}{ρ:d0}(F:bh C cx env O ρ h α M)(x:fZ W h h')(k:iH W M h)(hα:∀ (i:Nat) a,α[i]? =some a→α'[i]? =some a)(hm:∀a∈M',a∈M∨h.get? a=none)(nf:∀a,En cx env a∨a∈O→a∈W→False):bh C cx env O ρ h' α' M':=by
 refine ⟨F.sc,F.gl,F.bn,F.len,au F.loc λm hq hl=>aZ m (zV hq x (nf _ (.inl (.inl rfl)))) λi y V h1 h2=>au (hl i y V h1 h2) λv e r=>aZ v e (r.ext x k hα hm),bP F.cel λcad hc=>⟨cad,hc.look,λi y j h1 h2=>?_,hc.own,hc.inj⟩,λa ha=>⟨(F.own a ha).1.ext x (nf _ (.inr ha)),(F.own a ha).2⟩,F.lo,λa ha q=>(hm a ha).elim (λz=>F.off a z q) (F.frA q).dom,F.nd⟩;refine au (hc.has i y j h1 h2) λo ho hv=>aZ o (qO ho x (nf _ (.inl (.inr (pj i y j h1 h2 (hc.look i y j h1 h2)))))) λV h3=>au (hv V h3) λv e r=>aZ v e (r.ext x k hα hm)
theorem bh.step{cx:Cx}{ρ:d0}(F:bh C cx env O ρ s.heap α (T++ai α μ))(I:bl C T α μ s)(x:aV [] α μ s α' μ' s'):
  bh C cx env O ρ s'.heap α' (T++ai α' μ'):=
 F.ext x.ext (iH.nil T _).app x.at (x.hm λzz h=>.inl h) λzz q h=>I.notFrame (db h) (F.frA q)
structure cP (A:Around) (n:Nat):Prop where
 depth:A.depth+4*n<600
 units:A.units+200*n+400<cLine
 handled:A.handled=none
theorem cP.mono{m:Nat}(r:cP A n)(h:m≤n):cP A m:=⟨by have:=r.depth;lia,by have:=r.units;have:200*m≤200*n:=Nat.mul_le_mul_left _ h;lia,r.handled⟩
noncomputable def bI(C:gK)(T α:List Addr)(μ:List ah)(s:Shared)(μ':List ah)(V:AV):Value→Shared→Prop:= λv s'=>
 ∃α',bl C T α' μ' s'∧aV [] α μ s α' μ' s'∧bm s'.heap α' (T++ai α' μ') v V
noncomputable abbrev EF:=d0→List ah→Option (AV×List ah)
structure ab (C:gK) (n:Nat) (cx:Cx) (e:Expr) (f:EF):Prop where
 of::
 run:∀A env O T ρ α μ s E V μ',cP A n→bl C T α μ s→bh C cx env O ρ s.heap α (T++ai α μ)→f ρ μ=some (V,μ')→
  wpAny (model C.prog C.w) A (eval e env) (bI C T α μ s μ' V) E s
section
theorem dX.stepO(x:dX s.heap (T++ai α μ) a c)(y:aV O α μ s α' μ' s')(hO:iH O T s.heap)(hT:∀a∈T',a∈T∨s.heap.get? a=none)(ha:c.isMut=true→a∈O++ai α μ→False):dX s'.heap (T'++ai α' μ') a c:=x.ext y.ext hO.app (y.hm hT) ha
theorem bl.ext(I:bl C T α μ s)(x:fZ W s.heap h')(hB:∀a∈W,C.B.get? a=none)(k:iH W T s.heap)(hα:∀a∈α,a∈W→False)(hT:∀a∈T',a∈T)(hd:∀a∈T',∃o,h'.get? a=some o)(hs:s'.heap=h')(hg:AllBare s'.gens)(ho:s'.os=s.os):bl C T' α μ s':=by
 subst hs;have k':iH W (T++ai α μ) s.heap:= λa ha=>(k a ha).imp id (Or.imp id (yg _));exact ⟨λb o e=>x b o (I.keep b o e) λq=>ct ((hB b q).symm.trans e),I.len,λi a c h1 h2=>(I.cells i a c h1 h2).ext x k' (λa ha=>.inl ((AZ.mp ha).elim (λq=>yg _ (hT a q)) (D1 _))) λzz=>hα a (FM h1),I.nodup,λa ha=>I.apart a (hT a ha),hd,λa ha=>I.tnew a (hT a ha),I.new,hg,ho.trans I.os⟩
theorem bl.keeps(I:bl C T α μ s)(hk:∀b o,s.heap.get? b=some o→h'.get? b=some o):bl C T α μ {s with heap:=h',toks:=tk}:=
 I.ext (W:=[]) (fZ.of_keeps hk) (λzz h=>nomatch h) (iH.nil _ _) (λzz zz h=>nomatch h) (λzz h=>h) (λa ha=>(I.tdom a ha).imp λo e=>hk a o e) rfl I.gens rfl
theorem aV.keeps(hk:∀b o,s.heap.get? b=some o→h'.get? b=some o):aV [] α μ s α μ {s with heap:=h',toks:=tk}:=
 ⟨(aZ ([]) (by simp) (by simp)),fZ.of_keeps hk,λzz h=>.inl h,λa o e=>⟨o,hk a o e⟩,λzz zz e=>e⟩
theorem bI.of_keeps(I:bl C T α μ s)(hk:∀b o,s.heap.get? b=some o→h'.get? b=some o)(hv:bm h' α (T++ai α μ) v V):bI C T α μ s μ V v {s with heap:=h',toks:=tk}:=
 (cJ α (I.keeps hk) (aV.keeps hk) hv)
theorem bI.tok(I:bl C T α μ s)(hv:bm s.heap α (T++ai α μ) v V):bI C T α μ s μ V v {s with toks:=tk}:=bI.of_keeps (h':=s.heap) I (λzz zz e=>e) hv
theorem bI.same(I:bl C T α μ s)(hv:bm s.heap α (T++ai α μ) v V):bI C T α μ s μ V v s:=(cJ α I (aV.refl _ _ _ _) hv)
theorem bI.trans(x:aV [] α μ s α' μ' s')(p:bI C T α' μ' s' μ'' V v s''):bI C T α μ s μ'' V v s'':=by
 refine cm p λα'' I y r=>?_;exact (cJ α'' I (x.trans y) r)
end
section
variable {cx:Cx}
theorem ab.go{f:EF}{ρ:d0}(hf:ab C n cx e f)(R:cP A n)(I:bl C T α μ s)(F:bh C cx env O ρ s.heap α (T++ai α μ))(q:f ρ μ=some (V,μ'))
  (k:∀v s' α',bl C T α' μ' s'→aV [] α μ s α' μ' s'→bm s'.heap α' (T++ai α' μ') v V→Q v s'):wpAny (model C.prog C.w) A (eval e env) Q E s:=
 D3 (hf.run A env O T ρ α μ s E V μ' R I F q) (λv s' p=>cm p λα' I' S' r=>k v s' α' I' S' r) λzz zz x=>x
theorem ab.goF{f:EF}{ρ:d0}(hf:ab C n cx e f)(R:cP A n)(I:bl C T α μ s)(F:bh C cx env O ρ s.heap α (T++ai α μ))(q:f ρ μ=some (V,μ'))
  (k:∀v s' α',bl C T α' μ' s'→aV [] α μ s α' μ' s'→bh C cx env O ρ s'.heap α' (T++ai α' μ')→bm s'.heap α' (T++ai α' μ') v V→Q v s'):wpAny (model C.prog C.w) A (eval e env) Q E s:=
 hf.go R I F q λv s' α' I' S' r=>k v s' α' I' S' (F.step I S') r
theorem SZ{i:Int}:ab C n cx (.Constant (.int i) k pos) (λzz μ=>some (.d (.int i),μ)):=by
 refine .of ?_;intro A env O T ρ α μ s E V μ' _ I _ h;refine cg h ?_;exact λzz zz zz=>bI.tok I (aJ.int ..)
theorem Gj:ab C n cx (.Constant (.str x) k pos) (λzz μ=>some (.d (.str x),μ)):=by
 refine .of ?_;intro A env O T ρ α μ s E V μ' _ I _ h;refine cg h ?_;exact λzz zz zz=>bI.tok I (aJ.str ..)
theorem N5{b:Bool}:ab C n cx (.Constant (.bool b) k pos) (λzz μ=>some (.d (.bool b),μ)):=by
 refine .of ?_;intro A env O T ρ α μ s E V μ' _ I _ h;refine cg h ?_;exact Ez (bI.same I (aJ.bool ..))
theorem LY:ab C n cx (.Constant .none k pos) (λzz μ=>some (.d .none,μ)):=by
 refine .of ?_;intro A env O T ρ α μ s E V μ' _ I _ h;refine cg h ?_;exact Ez (bI.same I (aJ.none ..))
def a9(i:Nat):EF:= λρ μ=>(ρ[i]?.bind id).bind λV=>some (V,μ)
theorem zK{ρ:d0}(h:a9 i ρ μ=some (V,μ'))(k:ρ[i]? =some (some V)→μ=μ'→G):G:=by
 unfold a9 at h
 cases q:ρ[i]? with
 |none=>rw [q] at h;exact ct h
 |some o=>
  cases o with
  |none=>rw [q] at h;exact ct h
  |some W=>rw [q] at h;cases h;exact k q rfl
theorem qT(i:Nat)(hn:cx.names[i]? =some (x,1))(hl:cx.scope.names.lookup x=some .local)(hk:cx.scope.kind=.function)(hd:(x==("__debug__":Str))=false):ab C n cx (.Name x pos) (a9 i):=by
 refine .of ?_;intro A env O T ρ α μ s E V μ' _ I F h;refine au F.loc λm hm hq=>?_;refine zK h λe z=>?_;subst z;refine au (hq i x V hn e) λv e1 r=>?_;exact UA (Pl (by rw [F.sc];exact hk) (by unfold IC;rw [F.sc];exact hl) hm e1 (bI.same I r)) hd
theorem bE(i:Nat)(k:Nat)(hn:cx.names[i]? =some (x,k))(h2:2≤k)(hl:cx.scope.names.lookup x=some .cell)(hk:cx.scope.kind=.function)(hd:(x==("__debug__":Str))=false):ab C n cx (.Name x pos) (a9 i):=by
 refine .of ?_;intro A env O T ρ α μ s E V μ' _ I F h;refine bP F.cel λcad hc=>?_;refine zK h λe z=>?_;subst z;refine au (hc.has i x k hn h2) λo ho hv=>?_;refine au (hv _ e) λv zq1 r=>?_;subst zq1;exact UA (wpAny_loadName_cell (by rw [F.sc];exact hk) (by unfold IC;rw [F.sc];exact hl) (hc.look i x k hn h2) ho (bI.same I r)) hd
theorem Oa{i:Int}{t:Tok}(hg:C.mg x=some (.int i t))(hl:cx.scope.names.lookup x=some .globalImplicit)(hk:cx.scope.kind=.function)(hd:(x==("__debug__":Str))=false):ab C n cx (.Name x pos) (λzz μ=>some (.d (.int i),μ)):=by
 refine .of ?_;intro A env O T ρ α μ s E V μ' _ I F h;refine cg h ?_;exact F6 (by rw [F.sc];exact hk) (by unfold IC;rw [F.sc];exact hl) (L6 (by rw [F.gl];exact C.g.keeps I.keep) hg (bI.same I (aJ.int ..))) hd
end
variable {cx : Cx} {f fi fo g : EF} {fs : List EF} {ρ ρ' ρ1 ρ2 : d0} {tf : d0 → PyData → Option d0}
noncomputable def bp{X:Type u0}{Y:Type u1}{Z:Type u2}(o:Option (X×Y))(k:X→Y→Option Z):Option Z:=o.rec none λp=>k p.1 p.2
noncomputable def bo{X:Type u0}{Z:Type u2}(o:Option X)(k:X→Option Z):Option Z:=o.rec none k
noncomputable def oe{X:Type u0}{Y:Type u1}{Z:Type u2}(o:Option X)(p:Option Y)(k:X→Y→Z)(e:Z):Z:=o.rec e λa=>p.rec e λb=>k a b
theorem aD{X:Type u0}{Y:Type u1}{Z:Type u2}{o:Option (X×Y)}{k:X→Y→Option Z}{r:Z}(h:bp o k=some r)(q:∀a b,o=some (a,b)→k a b=some r→G):G:=by
 cases o with
 |none=>exact ct h
 |some p=>exact q p.1 p.2 rfl h
theorem ax{X:Type u0}{Z:Type u2}{o:Option X}{k:X→Option Z}{r:Z}(h:bo o k=some r)(q:∀a,o=some a→k a=some r→G):G:=by
 cases o with
 |none=>exact ct h
 |some p=>exact q p rfl h
theorem bV{X:Type u0}{Y:Type u1}{Z:Type u2}{o:Option X}{p:Option Y}{k:X→Y→Option Z}{e:Option Z}{r:Z}(h:oe o p k e=some r)(q:∀a b,o=some a→p=some b→k a b=some r→G)(q':e=some r→G):G:=by
 cases o with
 |none=>exact q' h
 |some a=>
  cases p with
  |none=>exact q' h
  |some b=>exact q a b rfl rfl h
theorem i6{c:Prop}{i:Decidable c}{Z:Type u0}{x:Option Z}{r:Z}{G:Prop}(h:(if c then x else none)=some r)(q:c→x=some r→G):G:=by
 by_cases hc:c
 ·rw [if_pos hc] at h;exact q hc h
 ·rw [if_neg hc] at h;exact ct h
theorem ifB{c:Prop}{i:Decidable c}{Z:Type u0}{x y:Option Z}{r:Z}(h:(if c then x else y)=some r)(q:c→x=some r→G)(q':¬c→y=some r→G):G:=by
 by_cases hc:c
 ·rw [if_pos hc] at h;exact q hc h
 ·rw [if_neg hc] at h;exact q' hc h
theorem bpS{X:Type u0}{Y:Type u1}{Z:Type u2}{a:X}{b:Y}{k:X→Y→Option Z}:bp (some (a,b)) k=k a b:=rfl
theorem bpN{X:Type u0}{Y:Type u1}{Z:Type u2}{k:X→Y→Option Z}:bp none k=none:=rfl
theorem boS{X:Type u0}{Z:Type u2}{a:X}{k:X→Option Z}:bo (some a) k=k a:=rfl
theorem boN{X:Type u0}{Z:Type u2}{k:X→Option Z}:bo none k=none:=rfl
noncomputable def dI:PyData→Option Int
 | .int x=>some x
 |_=>none
noncomputable def dS:PyData→Option Str
 | .str x=>some x
 |_=>none
noncomputable def dB:PyData→Option Bool
 | .bool x=>some x
 |_=>none
noncomputable def dN:PyData→Option Unit
 | .none=>some ()
 |_=>none
noncomputable def dT:PyData→Option (List PyData)
 | .tuple x=>some x
 |_=>none
noncomputable def dL:PyData→Option (List PyData)
 | .list x=>some x
 |_=>none
noncomputable def v7:AV→Option PyData
 | .d x=>some x
 |_=>none
noncomputable def EX:AV→Option Nat
 | .c x=>some x
 |_=>none
noncomputable def VK:AV→Option String
 | .ty x=>some x
 |_=>none
noncomputable def jI(V:AV):Option Int:=bo (v7 V) dI
noncomputable def mn(V:AV):Option Str:=bo (v7 V) dS
noncomputable def MJ(V:AV):Option Bool:=bo (v7 V) dB
noncomputable def MN(V:AV):Option Unit:=bo (v7 V) dN
noncomputable def Ke(V:AV):Option (List PyData):=bo (v7 V) dT
noncomputable def Yl(V:AV):Option (List PyData):=bo (v7 V) dL
theorem TL{x:Int}(h:dI d=some x):d=.int x:=by cases d<;>first|exact ct h| (cases h;rfl)
theorem YQ(h:dS d=some x):d=.str x:=by cases d<;>first|exact ct h| (cases h;rfl)
theorem al9{x:Bool}(h:dB d=some x):d=.bool x:=by cases d<;>first|exact ct h| (cases h;rfl)
theorem ak0{x:Unit}(h:dN d=some x):d=.none:=by cases d<;>first|exact ct h|rfl
theorem T8{x:List PyData}(h:dT d=some x):d=.tuple x:=by cases d<;>first|exact ct h| (cases h;rfl)
theorem Vm{x:List PyData}(h:dL d=some x):d=.list x:=by cases d<;>first|exact ct h| (cases h;rfl)
theorem iN{x:PyData}(h:v7 V=some x):V=.d x:=by cases V<;>first|exact ct h| (cases h;rfl)
theorem Ch{x:Nat}(h:EX V=some x):V=.c x:=by cases V<;>first|exact ct h| (cases h;rfl)
theorem Ub{x:String}(h:VK V=some x):V=.ty x:=by cases V<;>first|exact ct h| (cases h;rfl)
section
theorem fJ{x:Int}(e:jI V=some x)(r:bm h α M v V):∃t,v=.int x t:=
 ax e λzz e1 e2=>aJ.of_int (M:=M) (h:=h) (by rw [iN e1,TL e2] at r;exact r)
theorem j2(e:mn V=some x)(r:bm h α M v V):∃t,v=.str x t:=
 ax e λzz e1 e2=>aJ.of_str (M:=M) (h:=h) (by rw [iN e1,YQ e2] at r;exact r)
theorem wa{x:Bool}(e:MJ V=some x)(r:bm h α M v V):v=.bool x:=
 ax e λzz e1 e2=>aJ.of_bool (M:=M) (h:=h) (by rw [iN e1,al9 e2] at r;exact r)
theorem CB{x:Unit}(e:MN V=some x)(r:bm h α M v V):v=.none:=
 ax e λzz e1 e2=>aJ.of_none (M:=M) (h:=h) (by rw [iN e1,ak0 e2] at r;exact r)
theorem K5{x:List PyData}(e:Ke V=some x)(r:bm h α M v V):∃a items,v=.ref a∧h.IsTuple a items∧aw h M items.toList x:=
 ax e λzz e1 e2=>aJ.of_tuple (M:=M) (h:=h) (by rw [iN e1,T8 e2] at r;exact r)
theorem Mf{x:List PyData}(e:Yl V=some x)(r:bm h α M v V):aJ h M v (.list x):=
 ax e λzz e1 e2=>(by rw [iN e1,Vm e2] at r;exact r)
theorem Gg{x:Nat}(e:EX V=some x)(r:bm h α M v V):∃a,α[x]? =some a∧v=.ref a:=(by rw [Ch e] at r;exact r)
theorem Zf{x:String}(e:VK V=some x)(r:bm h α M v V):v=.type x:=(by rw [Ub e] at r;exact r)
end
noncomputable def l1{X:Type u0}:List X→Option X
 | [a]=>some a
 |_=>none
noncomputable def l2{X:Type u0}:List X→Option (X×X)
 | [a,b]=>some (a,b)
 |_=>none
theorem Wa{X:Type u0}{l:List X}{a:X}(h:l1 l=some a):l=[a]:=by
 match l,h with
 | [b],h=>exact congrArg (λx=>[x]) (Ff h)
theorem zJ{X:Type u0}{l:List X}{a b:X}(h:l2 l=some (a,b)):l=[a,b]:=by
 match l,h with
 | [c,d],h=>cases h;rfl
noncomputable def S8:ah→Option (List PyData)
 | .live xs=>some xs
 | .frozen xs=>some xs
 | .iter _=>none
noncomputable def da(μ:List ah)(V:AV):Option (List PyData):=oe (Yl V) (some ()) (λxs zz=>some xs) (bo (EX V) λi=>bo μ[i]? S8)
section
theorem bm.isList(I:bl C T α μ s)(r:bm s.heap α (T++ai α μ) v V)(h:da μ V=some xs):
  ∃a items,v=.ref a∧s.heap.PlainList a items∧aw s.heap (T++ai α μ) items.toList xs:=by
 refine bV h (λxs' zz e zz h=>?_) λh=>ax h λi ei h=>ax h λc ec h=>?_
 ·refine cA (show some xs'=some xs from h) ?_
  exact kR (aJ.of_list (Mf e r)) λa items e hl r zz=>dw a items e hl r
 ·refine au (Gg ei r) λa ha z=>?_
  have q:=I.cells i a c ha ec;cases c with
  |live ys=>refine cA (show some ys=some xs from h) ?_;exact au q λitems hp r=>dw a items z hp r
  |frozen ys=>refine cA (show some ys=some xs from h) ?_;exact kR (aJ.of_list q) λa' items e' hl r zz=>dw a' items (z.trans e') hl r
  |iter ys=>exact ct h
end
def je(C:gK)(n:Nat)(op:Operator)(o:AV→AV→List ah→Option (AV×List ah)):Prop:=∀A T α μ s E a b Va Vb V μ',cP A n→bl C T α μ s→
 bm s.heap α (T++ai α μ) a Va→bm s.heap α (T++ai α μ) b Vb→o Va Vb μ=some (V,μ')→wpAny (model C.prog C.w) A (binaryOp op a b) (bI C T α μ s μ' V) E s
def gQ(C:gK)(n:Nat)(op:CmpOp)(o:AV→AV→List ah→Option Bool):Prop:=∀A T α μ s E a b Va Vb r,cP A n→bl C T α μ s→
 bm s.heap α (T++ai α μ) a Va→bm s.heap α (T++ai α μ) b Vb→o Va Vb μ=some r→wpAny (model C.prog C.w) A (compareOp op a b) (λv s'=>v=.bool r∧∃tk,s'= {s with toks:=tk}) E s
structure gN (C:gK) (n:Nat) (cx:Cx) (e:Expr) (f:d0→List ah→Option (Bool×List ah)):Prop where
 of::
 run:∀A env O T ρ α μ s E r μ',cP A n→bl C T α μ s→bh C cx env O ρ s.heap α (T++ai α μ)→f ρ μ=some (r,μ')→
  wpAny (model C.prog C.w) A (isTrue e env (eval e env)) (λb s'=>b=r∧∃α',bl C T α' μ' s'∧aV [] α μ s α' μ' s') E s
section
variable {k:EF}
theorem o0{l r:Expr}{Va Vb:AV}{Q:Value→Value→Shared→Prop}
  (hl:ab C n cx l f) (hr:ab C n cx r g) (R:cP A n) (I:bl C T α μ s) (F:bh C cx env O ρ s.heap α (T++ai α μ)) (e1:f ρ μ=some (Va,μ1)) (e2:g ρ μ1=some (Vb,μ2))
  (h:∀a b s2 α2,bl C T α2 μ2 s2→aV [] α μ s α2 μ2 s2→bm s2.heap α2 (T++ai α2 μ2) a Va→bm s2.heap α2 (T++ai α2 μ2) b Vb→Q a b s2):
  wpAny (model C.prog C.w) A (eval l env) (λa s1=>wpAny (model C.prog C.w) A (eval r env) (λb s2=>Q a b s2) E s1) E s:=by
 refine D3 (hl.run A env O T ρ α μ s E Va μ1 R I F e1) (λa s1 p1=>?_) λzz zz x=>x;refine cm p1 λα1 I1 S1 r1=>?_;refine D3 (hr.run A env O T ρ α1 μ1 s1 E Vb μ2 R I1 (F.step I S1) e2) (λb s2 p2=>?_) λzz zz x=>x;refine cm p2 λα2 I2 S2 r2=>?_;exact h a b s2 α2 I2 (S1.trans S2) (r1.step0 S2) r2
def aj(f g:EF)(o:AV→AV→List ah→Option (AV×List ah)):EF:= λρ μ=>bp (f ρ μ) λa μ1=>bp (g ρ μ1) λb μ2=>o a b μ2
theorem av{l r:Expr}{o:AV→AV→List ah→Option (AV×List ah)}(hl:ab C n cx l f)(hr:ab C n cx r g)(ho:je C n op o):ab C n cx (.BinOp l op r pos) (aj f g o):=by
 refine .of ?_;intro A env O T ρ α μ s E V μ' R I F h;refine aD h λVa μ1 e1 h=>?_;refine aD h λVb μ2 e2 h=>?_;refine wpAny_BinOp (o0 hl hr R I F e1 e2 λa b s2 α2 I2 S2 ra rb=>?_);exact D3 (ho A T α2 μ2 s2 E a b Va Vb V μ' R I2 ra rb h) (λv s3 p=>bI.trans S2 p) λzz zz x=>x
def dZ(f g:EF)(o:AV→AV→List ah→Option Bool):EF:= λρ μ=>bp (f ρ μ) λa μ1=>bp (g ρ μ1) λb μ2=>bo (o a b μ2) λr=>some (.d (.bool r),μ2)
noncomputable def bA(f g:EF)(o:AV→AV→List ah→Option Bool):d0→List ah→Option (Bool×List ah):= λρ μ=>bp (f ρ μ) λa μ1=>bp (g ρ μ1) λb μ2=>bo (o a b μ2) λr=>some (r,μ2)
theorem fq{l r:Expr}{op:CmpOp}{o:AV→AV→List ah→Option Bool}(hl:ab C n cx l f)(hr:ab C n cx r g)(ho:gQ C n op o)(hm:behindInMarks op r=false):ab C n cx (.Compare l [op] [r] pos) (dZ f g o):=by
 refine .of ?_;intro A env O T ρ α μ s E V μ' R I F h;refine aD h λVa μ1 e1 h=>?_;refine aD h λVb μ2 e2 h=>?_;refine ax h λb e3 h=>?_;refine cg h ?_;refine wpAny_Compare1 (o0 hl hr R I F e1 e2 λa b s2 α2 I2 S2 ra rb=>?_) hm;refine D3 (ho A T α2 _ s2 E a b Va Vb _ R I2 ra rb e3) (λv s3 p=>?_) λzz zz x=>x;refine zw p λzq0 tk zq2=>?_;refine bH (ES zq0) ?_;refine bH (ES zq2) ?_;exact bI.trans S2 (bI.tok I2 (aJ.bool ..))
theorem cj{l r:Expr}{op:CmpOp}{o:AV→AV→List ah→Option Bool}(hl:ab C n cx l f)(hr:ab C n cx r g)(ho:gQ C n op o)(hm:behindInMarks op r=false):gN C n cx (.Compare l [op] [r] pos) (bA f g o):=by
 refine .of ?_;intro A env O T ρ α μ s E b μ' R I F h;refine aD h λVa μ1 e1 h=>?_;refine aD h λVb μ2 e2 h=>?_;refine ax h λb e3 h=>?_;refine cg h ?_;refine Rt (o0 hl hr R I F e1 e2 λa b s2 α2 I2 S2 ra rb=>?_) hm;refine D3 (ho A T α2 _ s2 E a b Va Vb _ R I2 ra rb e3) (λv s3 p=>?_) λzz zz x=>x;refine zw p λzq0 tk zq2=>?_;refine bH (ES zq0) ?_;refine bH (ES zq2) ?_;have z:=S2.trans (aV.keeps (s:=s2) (h':=s2.heap) (tk:=tk) λzz zz e=>e);exact OX (gO rfl α2 (I2.keeps (h':=s2.heap) λzz zz e=>e) z)
noncomputable def jN(V:AV)(μ:List ah):Option Bool:=oe (MJ V) (some ()) (λb zz=>some b) (oe (jI V) (some ()) (λi zz=>some (i != 0)) (oe (MN V) (some ()) (λzz zz=>some false) (oe (mn V) (some ()) (λx zz=>if x.length≤sizeLine then some ((x.length:Int) != 0) else none) (bo (da μ V) λxs=>if xs.length<2^24 then some (!xs.isEmpty) else none))))
theorem mu{b:Bool}(I:bl C T α μ s)(r:bm s.heap α (T++ai α μ) v V)(h:jN V μ=some b):
  wpAny (model C.prog C.w) A (truthy v) (λb' s'=>b'=b∧∃tk,s'= {s with toks:=tk}) E s:=by
 refine bV h (λb' zz e zz h=>?_) λh=>bV h (λi zz e zz h=>?_) λh=>bV h (λb' zz e zz h=>?_) λh=>bV h (λx zz e zz h=>?_) λh=>?_
 ·refine cA h ?_
  rw [wa e r];exact OX (j6 rfl _ rfl)
 ·refine cA h ?_
  refine bP (fJ e r) λt zq1=>?_;refine bH (ES zq1) ?_;exact PyProof.Rows.truthy_int (j6 rfl s.toks rfl)
 ·refine cA h ?_
  rw [CB e r];exact truthy_none (j6 rfl s.toks rfl)
 ·refine i6 h λhz h=>?_
  refine cA h ?_;refine bP (j2 e r) λt zq1=>?_;refine bH (ES zq1) ?_;exact PySem.P.truthy_str (by unfold sizeLine at hz;lia) (j6 rfl _ rfl)
 ·refine ax h λxs e h=>?_
  refine i6 h λhlen h=>?_;refine cA h ?_;refine bq (r.isList I e) λa items zq2 hl rr=>?_;refine bH (ES zq2) ?_;have hs:items.size=xs.length:=by rw [←rr.length];simp
  refine wpAny_truthy_list hl.isList (by lia) (j6 ?_ _ rfl);have e1:items.isEmpty=xs.isEmpty:=by
   rw [Array.isEmpty,hs];cases xs<;>simp
  rw [e1]
noncomputable def ga(f:EF):d0→List ah→Option (Bool×List ah):= λρ μ=>bp (f ρ μ) λV μ1=>bo (jN V μ1) λb=>some (b,μ1)
theorem iC(he:∀env whole,isTrue e env whole=(do let v←whole;standAt e.pos;holding [v] (truthy v)))(hf:ab C n cx e f):gN C n cx e (ga f):=by
 refine .of ?_;intro A env O T ρ α μ s E b μ' R I F h;refine aD h λV μ1 e1 h=>?_;refine ax h λb' e2 h=>?_;refine cg h ?_;refine isTrue_plain (D3 (hf.run A env O T ρ α μ s E V _ R I F e1) (λv s1 p=>?_) λzz zz x=>x) (he _ _);refine cm p λα1 I1 S1 r1=>?_;refine D3 (mu I1 r1 e2) (λc s2 q=>?_) λzz zz x=>x;refine zw q λzq0 tk zq2=>?_;refine bH zq0 ?_;refine bH (ES zq2) ?_;exact (gO rfl α1 (I1.keeps (h':=s1.heap) λzz zz e=>e) (S1.trans (aV.keeps (s:=s1) (h':=s1.heap) (tk:=tk) λzz zz e=>e)))
noncomputable abbrev TF:=d0→List ah→Option (Bool×List ah)
def tW(f:TF):TF:= λρ μ=>bp (f ρ μ) λb μ1=>some (!b,μ1)
theorem K4{x:Expr}{t:TF}(h:gN C n cx x t):gN C n cx (.UnaryOp .Not x pos) (tW t):=by
 refine .of ?_;intro A env O T ρ α μ s E b μ' R I F q;refine aD q λb1 μ1 e1 q=>?_;refine cg q ?_;refine wpAny_isTrue_Not (D3 (h.run A env O T ρ α μ s E b1 _ R I F e1) (λc s1 p=>?_) λzz zz x=>x);obtain ⟨rfl,p⟩:=p;exact ⟨rfl,p⟩
def FT(f g:TF):TF:= λρ μ=>bp (f ρ μ) λb μ1=>cond b (g ρ μ1) (some (false,μ1))
theorem T3{x y:Expr}{t u:TF}(h:gN C n cx x t)(h':gN C n cx y u):gN C n cx (.BoolOp .And [x,y] pos) (FT t u):=by
 refine .of ?_;intro A env O T ρ α μ s E b μ' R I F q;refine aD q λb1 μ1 e1 q=>?_;cases b1 with
 |true=>
  refine UE (D3 (h.run A env O T ρ α μ s E true μ1 R I F e1) (λc s1 p=>?_) λzz zz x=>x);refine ic p λzq0 α1 I1 S1=>?_;refine bH (ES zq0) ?_;rw [if_pos rfl];refine UE (D3 (h'.run A env O T ρ α1 μ1 s1 E b μ' R I1 (F.step I S1) q) (λc s2 p=>?_) λzz zz x=>x);refine ic p λzq0 α2 I2 S2=>?_;refine bH zq0 ?_;cases c
  ·exact (gO rfl α2 I2 (S1.trans S2))
  ·exact isTrue_and_nil (gO rfl α2 I2 (S1.trans S2))
 |false=>
  refine cg q ?_;refine UE (D3 (h.run A env O T ρ α μ s E false _ R I F e1) (λc s1 p=>?_) λzz zz x=>x);refine ic p λzq0 α1 I1 S1=>?_;refine bH (ES zq0) ?_;exact (gO rfl α1 I1 S1)
def dx(t:TF)(f g:EF):EF:= λρ μ=>bp (t ρ μ) λb μ1=>cond b (f ρ μ1) (g ρ μ1)
theorem fN{x y z:Expr}{t:TF}(h:gN C n cx x t)(hf:ab C n cx y f)(hg:ab C n cx z g):ab C n cx (.IfExp x y z pos) (dx t f g):=by
 refine .of ?_;intro A env O T ρ α μ s E V μ' R I F q;refine aD q λb1 μ1 e1 q=>?_;refine wpAny_IfExp (D3 (h.run A env O T ρ α μ s E b1 μ1 R I F e1) (λc s1 p=>?_) λzz zz x=>x);refine ic p λzq0 α1 I1 S1=>?_;refine bH (ES zq0) ?_;cases b1 with
 |true=>
  rw [if_pos rfl];exact D3 (hf.run A env O T ρ α1 μ1 s1 E V μ' R I1 (F.step I S1) q) (λv s2 p=>bI.trans S1 p) λzz zz x=>x
 |false=>
  rw [if_neg G_];exact D3 (hg.run A env O T ρ α1 μ1 s1 E V μ' R I1 (F.step I S1) q) (λv s2 p=>bI.trans S1 p) λzz zz x=>x
def rM(f g:EF):EF:= λρ μ=>bp (f ρ μ) λV μ1=>bo (jN V μ1) λb=>cond b (g ρ μ1) (some (V,μ1))
def Yi(f g:EF):EF:= λρ μ=>bp (f ρ μ) λV μ1=>bo (jN V μ1) λb=>cond b (some (V,μ1)) (g ρ μ1)
end
end Mine
namespace Mine
open PySem PySem.W PySem.Calls PyProof.Rows PySem.SeqAt
variable {V V' : AV} {Cn D L TI TO a fa i1 i2 i3 z : Addr} {A : Around} {items zs : Array Value} {sh tup : Bool} {c c' : ah} {C : gK} {cx : Cx} {f fi fo g : EF} {cenv env : Env} {mean : ExcName → Option Value} {e e1 e2 elt iter target test : Expr} {h h' : Heap} {y : Int} {Vs : List AV} {M M' O T T' W wr α α' α1 α₀ : List Addr} {Mid : List Addr → List Addr → List Addr → List ah → Nat → Value → Shared → Prop} {μ μ' μ'' μ1 μ2 μ3 μ₀ : List ah} {fs : List EF} {es : List Expr} {K cs ns os rest : List Int} {gi ls m ps : List Nat} {X acc acc' ds xs ys : List PyData} {body orelse : List Stmt} {vs : List Value} {ρ ρ' ρ1 ρ2 : d0} {tf : d0 → PyData → Option d0} {b i j ja jt k kk low mask n p q tk : Nat} {o : Obj} {op : Operator} {ha ke td te tx : Option AV} {hi lo : Option Expr} {gg : Option Nat} {apos pos px py sp tp xp : Pos} {prog : Program} {G : Prop} {d : PyData} {sc scope : Scope} {s s' s'' s1 s₀ : Shared} {st : Stmt} {name x : Str} {t : TF} {u : Tok} {cd cls doc fv it pm v : Value} {E Q : Value → Shared → Prop} {w : World}
section
theorem bb(h:Heap)(o:Obj):∀b ob,h.get? b=some ob→(h.push o).get? b=some ob:= λzz zz e=>Bt _ e
theorem io(h:Heap):h.get? h.objs.size=none:=by
 cases e:h.get? h.objs.size with
 |none=>rfl
 |some o=>exact absurd (M7 e) (Nat.lt_irrefl _)
theorem eD(I:bl C T α μ s)(ha:s.heap.get? a=none):a∉T++ai α μ:= λh=>by
 rcases AZ.mp h with h|h
 ·refine bP (I.tdom _ h) λo e=>?_
  rw [ha] at e;exact ct e
 ·refine bP (iD (db h)) λi e=>?_
  have:i<μ.length:=I.len▸(Bm.mp e).1
  have z:=I.cells i a μ[i] e (Fh this);generalize μ[i]=c at z
  cases c with
  |live xs=>refine au z λzz zp1 zz=>?_;obtain ⟨_,e⟩:=zp1;rw [ha] at e;exact ct e
  |frozen xs=>refine bq (aJ.of_list z) λzz zz e1 zp3 zz=>?_;obtain ⟨_,e⟩:=zp3;cases e1;rw [ha] at e;exact ct e
  |iter xs=>rcases z with ⟨_,_,_,⟨_,e,_⟩,_⟩| ⟨_,_,_,e,_⟩<;>rw [ha] at e<;>exact ct e
end
theorem bI.newList(I:bl C T α μ s)(hr:aw s.heap (T++ai α μ) items.toList xs):
  bI C T α μ s μ (.d (.list xs)) (.ref s.heap.objs.size) {s with heap:=s.heap.push {cls:=.type "list",data:=.seq items},toks:=tk}:=by
 refine bI.of_keeps I (bb _ _) ?_;have hf:=io s.heap;refine aJ.list (vs:=items) ⟨_,Dp _ rfl⟩ (hr.keeps (bb _ _)) (eD I hf)
noncomputable def aT(a b:AV)(μ:List ah):Option (AV×List ah):=oe (jI a) (jI b) (λx y=>some (.d (.int (x+y)),μ)) (oe (mn a) (mn b) (λx y=>if x.length+y.length≤sizeLine then some (.d (.str (x++y)),μ) else none) (bo (da μ a) λxs=>bo (da μ b) λys=>if xs.length+ys.length≤sizeLine then some (.d (.list (xs++ys)),μ) else none))
theorem br:je C n .Add aT:=by
 intro A T α μ s E a b Va Vb V μ' R I ra rb h;refine bV h (λx y ea eb h=>?_) λh=>bV h (λx y ea eb h=>i6 h λhz h=>?_) λh=>ax h λxs e1 h=>ax h λys e2 h=>i6 h λhz h=>?_
 ·refine cg h ?_
  refine bP (fJ ea ra) λt zq1=>?_;refine bH (ES zq1) ?_;refine bP (fJ eb rb) λu zq1=>?_;refine bH (ES zq1) ?_;exact PyProof.Rows.add_int (bI.tok I (aJ.int ..))
 ·refine cg h ?_
  refine bP (j2 ea ra) λt zq1=>?_;refine bH (ES zq1) ?_;refine bP (j2 eb rb) λu zq1=>?_;refine bH (ES zq1) ?_;exact PyProof.Rows.add_str (λt' tk=>bI.tok I (aJ.str ..)) hz
 ·refine cg h ?_
  refine bq (ra.isList I e1) λl i1 zq2 zp3 r1=>?_;refine bH (ES zq2) ?_;refine bP zp3 λn1 h1=>?_;refine bq (rb.isList I e2) λl2 i2 zq2 zp3 r2=>?_;refine bH (ES zq2) ?_;refine bP zp3 λn2 h2=>?_;refine P.add_list h1 h2 ?_ (by have:=r1.length;have:=r2.length;simp at*;lia);exact bI.newList (tk:=s.toks) I (by rw [Pr];exact r1.append r2)
noncomputable def aR(o:Int→Int→Option Int)(a b:AV)(μ:List ah):Option (AV×List ah):=bo (jI a) λx=>bo (jI b) λy=>bo (o x y) λz=>some (.d (.int z),μ)
theorem kt{o:Int→Int→Option Int}(h:∀ (A:Around) (s:Shared) (E:Value→Shared→Prop) (x y z:Int) (t u:Tok) (Q:Value→Shared→Prop),o x y=some z→Q (.int z s.toks) {s with toks:=s.toks+1}→wpAny (model C.prog C.w) A (binaryOp op (.int x t) (.int y u)) Q E s):je C n op (aR o):=by
 intro A T α μ s E a b Va Vb V μ' R I ra rb q;refine ax q λx ea q=>ax q λy eb q=>ax q λz e q=>?_;refine cg q ?_;refine bP (fJ ea ra) λt zq1=>?_;refine bH (ES zq1) ?_;refine bP (fJ eb rb) λu zq1=>?_;refine bH (ES zq1) ?_;exact h A s E x y z t u _ e (bI.tok I (aJ.int ..))
noncomputable def cN(x y:Int):Option Int:=if y=0∨2^64≤y.natAbs then none else some (x.fdiv y)
noncomputable def co(x y:Int):Option Int:=if y=0 then none else some (x.fmod y)
noncomputable def gu(x y:Int):Option Int:=if 0≤y∧y≤1000000∧x.natAbs<2^64 then some (x^y.toNat) else none
noncomputable def E9(x y:Int):Option Int:=if 0≤y∧y≤1000000∧x.natAbs<2^64 then some (x*2^y.toNat) else none
theorem iX:je C n .Sub (aR λx y=>some (x-y)):=kt λA s E x y z t u Q e=>cA e λq=>PyProof.Rows.sub_int q
theorem eO:je C n .FloorDiv (aR cN):=kt λA s E x y z t u Q e=>by
 by_cases h:y=0∨2^64≤y.natAbs
 ·exact ct ((if_pos h).symm.trans e)
 ·refine cA ((if_neg h).symm.trans e) λq=>?_
  refine PyProof.Rows.floordiv_int (λz=>h (.inl z)) q (.inl (PyProof.noPylong_of_log2 ?_))
  by_cases hz:y.natAbs=0
  ·rw [hz];decide
  ·have:y.natAbs.log2<64:=(Nat.log2_lt hz).mpr (by lia)
   lia
theorem dk:je C n .Mod (aR co):=kt λA s E x y z t u Q e=>by
 by_cases h:y=0
 ·exact ct ((if_pos h).symm.trans e)
 ·exact cA ((if_neg h).symm.trans e) λq=>PyProof.Rows.mod_int h q
theorem iY:je C n .Pow (aR gu):=kt λA s E x y z t u Q e=>by
 exact i6 e λh e=>cA e λq=>pow_int_small h.1 h.2.1 h.2.2 q
theorem UM:je C n .LShift (aR E9):=kt λA s E x y z t u Q e=>by
 exact i6 e λh e=>cA e λq=>lshift_int_small h.1 h.2.1 h.2.2 q
theorem qj:je C n .BitAnd (aR λx y=>some (Dd x y)):=kt λA s E x y z t u Q e=>cA e λq=>PyProof.Rows.and_int q
noncomputable def oj(xs:List PyData):Nat→List PyData
 |0=>[]
 |k+1=>xs++oj xs k
noncomputable def l8(a b:AV)(μ:List ah):Option (AV×List ah):=bo (jI b) λy=>oe (jI a) (some ()) (λx zz=>if x.natAbs<2^64∨y.natAbs<2^64 then some (.d (.int (x*y)),μ) else none) (bo (da μ a) λxs=>if xs.length*y.toNat≤2^24∧y.natAbs<2^63 then some (.d (.list (oj xs y.toNat)),μ) else none)
theorem G0(xs:List PyData):∀k,(oj xs k).length=xs.length*k
 |0=>by simp [oj]
 |k+1=>by rw [oj,be,G0 xs k,Nat.mul_succ,Nat.add_comm]
theorem vc(vs:Array Value):∀ (k:Nat) (acc:Array Value),(List.foldl (λa b=>a++b) acc (Gv k vs)).toList=acc.toList++(Gv k vs.toList).flatten
 |0,acc=>by simp
 |k+1,acc=>by
  rw [NJ,List.foldl_cons,vc vs k,Pr,NJ,Gq,Eg]
theorem t8(r:aw h M vs xs):∀k,aw h M (Gv k vs).flatten (oj xs k)
 |0=>by simpa [oj] using aw.nil h M
 |k+1=>by rw [NJ,Gq,oj];exact r.append (t8 r k)
theorem r5{l:Addr}{x:Int}
  (hl:s.heap.get? l=some {cls:=.type "list",dict:=none,data:=.seq items k,slots:= #[]})
  (hlo: -(2^63:Int)≤x) (hhi:x<2^63) (hsz:items.size*x.toNat≤2^24)
  (h:Q (.ref s.heap.objs.size) {s with heap:=s.heap.push {cls:=.type "list",data:=.seq (List.foldl (λx1 x2=>x1++x2) #[] (Gv (if items.isEmpty=true then 0 else x.toNat) items))}}):
  wpAny (model prog w) A (binaryOp .Mult (.ref l) (.int x u)) Q E s:=
 wpAny_binaryOp_repeat_ref (T:="list") (U:="int") (by decide) ⟨_,hl,rfl⟩ (λs'=>typeIs_int s' x u) noFill_list_mul F.fills_int_mul F.slot_int_rmul repeat_list F.slot_int_index.lookup
  (UG F.slot_int_rmul (typeIs_int s x u) F.entry_int_rmul (F.args_int_rmul_2 _ _) (int___rmul___int_list x u l items k)
   ⟨hl,rfl,⟨_,hl,rfl⟩,UG F.slot_list_mul ⟨_,hl,rfl⟩ F.entry_list_mul (F.args_list_mul_2 _ _)
    (AutoListH.list___mul___list_int_3 l items k x u (by simp [Builtin.List.listFitsIndex];lia) (by lia) (by simp [Qj,sizeLine];lia))
    ⟨hl,h⟩⟩)
theorem Gx{x:Int}(h:x.natAbs<2^64):H1 x≤64:=intBits_le_64 (by omega) (by omega)
theorem pv:je C n .Mult l8:=by
 intro A T α μ s E a b Va Vb V μ' R I ra rb h;refine ax h λy eb h=>bV h (λx zz ea zz h=>i6 h λhz h=>?_) λh=>ax h λxs e1 h=>i6 h λhz h=>?_
 ·refine cg h ?_
  refine bP (fJ ea ra) λt zq1=>?_;refine bH (ES zq1) ?_;refine bP (fJ eb rb) λu zq1=>?_;refine bH (ES zq1) ?_;refine PyProof.Rows.mul_int (bI.tok I (aJ.int ..)) ?_;exact hz.elim (λhz=>IntMulOk.of_left (Gx hz)) λhz=>IntMulOk.of_right (Gx hz)
 ·refine cg h ?_
  refine bq (ra.isList I e1) λl i1 zq2 zp3 r1=>?_;refine bH (ES zq2) ?_;refine bP zp3 λn1 h1=>?_;refine bP (fJ eb rb) λu zq1=>?_;refine bH (ES zq1) ?_;have hs:i1.size=xs.length:=by rw [←r1.length];simp
  refine r5 h1 (by omega) (by omega) (by rw [hs];exact hz.1) ?_;refine bI.newList (tk:=s.toks) I ?_;rw [vc];have e2:(#[]:Array Value).toList++(Gv (if i1.isEmpty=true then 0 else y.toNat) i1.toList).flatten=(Gv y.toNat i1.toList).flatten:=by
   by_cases he:i1.isEmpty=true
   ·have:i1= #[]:=by simpa using he
    refine bH (ES this) ?_;simp
   ·rw [if_neg he];rfl
  rw [e2];exact t8 r1 _
noncomputable def d_(o:Int→Int→Bool)(a b:AV)(_:List ah):Option Bool:=bo (jI a) λx=>bo (jI b) λy=>some (o x y)
theorem pn{op:CmpOp}{o:Int→Int→Bool}(h:∀ (A:Around) (s:Shared) (E:Value→Shared→Prop) (x y:Int) (t u:Tok) (Q:Value→Shared→Prop),Q (.bool (o x y)) s→wpAny (model C.prog C.w) A (compareOp op (.int x t) (.int y u)) Q E s):gQ C n op (d_ o):=by
 intro A T α μ s E a b Va Vb r R I ra rb q;refine ax q λx ea q=>ax q λy eb q=>?_;refine cA q ?_;refine bP (fJ ea ra) λt zq1=>?_;refine bH (ES zq1) ?_;refine bP (fJ eb rb) λu zq1=>?_;refine bH (ES zq1) ?_;exact h A s E x y t u _ ⟨rfl,s.toks,rfl⟩
theorem pL:gQ C n .Lt (d_ λx y=>decide (x<y)):=pn λA s E x y t u Q q=>PyProof.Rows.lt_int q
theorem Hr:gQ C n .Gt (d_ λx y=>decide (y<x)):=pn λA s E x y t u Q q=>PyProof.Rows.gt_int q
theorem Sn:gQ C n .GtE (d_ λx y=>decide (y≤x)):=pn λA s E x y t u Q q=>PyProof.Rows.ge_int q
noncomputable def Vl(μ:List ah)(V:AV):Option PyData:=oe (v7 V) (some ()) (λx zz=>some x) (bo (da μ V) λxs=>some (.list xs))
theorem bm.readsL(I:bl C T α μ s)(r:bm s.heap α (T++ai α μ) v V)(h:da μ V=some xs):∃as,Reads s.heap v (.list xs) as:=by
 refine bq (r.isList I h) λa items zq2 zp3 rr=>?_;refine bH (ES zq2) ?_;refine bP zp3 λn e1=>?_;refine bP rr.readsAll λas rr=>?_;exact ⟨_,.list e1 rfl rfl rr⟩
theorem bm.reads(I:bl C T α μ s)(r:bm s.heap α (T++ai α μ) v V)(h:Vl μ V=some d):∃as,Reads s.heap v d as:=by
 refine bV h (λx zz ex zz h=>?_) λh=>ax h λxs e h=>?_
 ·refine cA h ?_
  rw [iN ex] at r
  exact aJ.reads r
 ·refine cA h ?_
  exact r.readsL I e
noncomputable def dH(a b:AV)(μ:List ah):Option Bool:=oe (jI a) (jI b) (λx y=>some (x==y)) (oe (mn a) (mn b) (λx y=>some (x==y)) (oe (MJ a) (MJ b) (λx y=>some (x==y)) (oe (Vl μ a) (Vl μ b) (λx y=>if shaped x=true∧shaped y=true then some (Ml x y) else none) none)))
noncomputable def oY(a b:AV)(μ:List ah):Option Bool:=bo (dH a b μ) λr=>some (!r)
theorem dJ:gQ C n .Eq dH:=by
 intro A T α μ s E a b Va Vb r R I ra rb h;refine bV h (λx y ea eb h=>?_) λh=>bV h (λx y ea eb h=>?_) λh=>bV h (λx y ea eb h=>?_) λh=>bV h (λx y e1 e2 h=>i6 h λhs h=>?_) λh=>ct h
 ·refine cA h ?_
  refine bP (fJ ea ra) λt zq1=>?_;refine bH (ES zq1) ?_;refine bP (fJ eb rb) λu zq1=>?_;refine bH (ES zq1) ?_;exact PyProof.Rows.eq_int (j6 rfl s.toks rfl)
 ·refine cA h ?_
  refine bP (j2 ea ra) λt zq1=>?_;refine bH (ES zq1) ?_;refine bP (j2 eb rb) λu zq1=>?_;refine bH (ES zq1) ?_;exact PyProof.Rows.eq_str (j6 rfl s.toks rfl)
 ·refine cA h ?_
  rw [wa ea ra,wa eb rb];exact PyProof.Rows.eq_bool (j6 rfl s.toks rfl)
 ·refine cA h ?_
  refine bP (ra.reads I e1) λas r1=>?_;refine bP (rb.reads I e2) λbs r2=>?_;exact compareEq_shaped r1 r2 hs.1 hs.2 (by have:=R.units;lia) (j6 rfl s.toks rfl)
theorem sk:gQ C n .NotEq oY:=by
 intro A T α μ s E a b Va Vb r R I ra rb h;refine ax h λr1 h1 h=>cA h ?_;refine bV h1 (λx y ea eb h=>?_) λh=>bV h (λx y ea eb h=>?_) λh=>bV h (λx y ea eb h=>?_) λh=>bV h (λx y e1 e2 h=>i6 h λhs h=>?_) λh=>ct h
 ·refine cA h ?_
  refine bP (fJ ea ra) λt zq1=>?_;refine bH (ES zq1) ?_;refine bP (fJ eb rb) λu zq1=>?_;refine bH (ES zq1) ?_;exact PyProof.Rows.ne_int (j6 rfl s.toks rfl)
 ·refine cA h ?_
  refine bP (j2 ea ra) λt zq1=>?_;refine bH (ES zq1) ?_;refine bP (j2 eb rb) λu zq1=>?_;refine bH (ES zq1) ?_;exact PyProof.Rows.ne_str (j6 rfl s.toks rfl)
 ·refine cA h ?_
  rw [wa ea ra,wa eb rb];exact PyProof.Rows.ne_bool (j6 rfl s.toks rfl)
 ·refine cA h ?_
  refine bP (ra.reads I e1) λas r1=>?_;refine bP (rb.reads I e2) λbs r2=>?_;exact compareNe_shaped r1 r2 hs.1 hs.2 (by have:=R.units;lia) (j6 rfl s.toks rfl)
noncomputable def Xh(a b:AV)(μ:List ah):Option Bool:=oe (mn a) (mn b) (λx y=>some (!(Ln y x 0 y.length 1).isEmpty)) (oe (v7 a) (da μ b) (λx ys=>if KX ys=true∧shaped x=true then some (ys.any λy=>Ml y x) else none) none)
noncomputable def lD(a b:AV)(μ:List ah):Option Bool:=bo (Xh a b μ) λr=>some (!r)
theorem ZK:gQ C n .In Xh:=by
 intro A T α μ s E a b Va Vb r R I ra rb h;refine bV h (λx y ea eb h=>?_) λh=>bV h (λx ys e1 e h=>i6 h λhs h=>?_) λh=>ct h
 ·refine cA h ?_
  refine bP (j2 ea ra) λt zq1=>?_;refine bH (ES zq1) ?_;refine bP (j2 eb rb) λu zq1=>?_;refine bH (ES zq1) ?_;exact PyProof.Rows.in_str (j6 rfl s.toks rfl)
 ·refine cA h ?_
  rw [iN e1] at ra
  refine bP (aJ.reads ra) λas r1=>?_;refine bP (rb.readsL I e) λbs r2=>?_;exact Q9 r2 r1 hs.1 (canLay_of_shaped hs.2) (by have:=R.units;have:=depth_of_shaped hs.2;lia) (j6 rfl s.toks rfl)
theorem xC:gQ C n .NotIn lD:=by
 intro A T α μ s E a b Va Vb r R I ra rb h;refine ax h λr1 h1 h=>cA h ?_;refine bV h1 (λx y ea eb h=>?_) λh=>bV h (λx ys e1 e h=>i6 h λhs h=>?_) λh=>ct h
 ·refine cA h ?_
  refine bP (j2 ea ra) λt zq1=>?_;refine bH (ES zq1) ?_;refine bP (j2 eb rb) λu zq1=>?_;refine bH (ES zq1) ?_;exact PyProof.Rows.notIn_str (j6 rfl s.toks rfl)
 ·refine cA h ?_
  rw [iN e1] at ra
  refine bP (aJ.reads ra) λas r1=>?_;refine bP (rb.readsL I e) λbs r2=>?_;exact PySem.SeqAt.notIn_list_reads r2 r1 hs.1 (canLay_of_shaped hs.2) (by have:=R.units;have:=depth_of_shaped hs.2;lia) (j6 rfl s.toks rfl)
noncomputable def LH(a b:AV)(_:List ah):Option Bool:=oe (MJ a) (MJ b) (λx y=>some (x==y)) (oe (MN a) (MN b) (λzz zz=>some true) (oe (jI a) (MN b) (λzz zz=>some false) none))
theorem vG:gQ C n .Is LH:=by
 intro A T α μ s E a b Va Vb r R I ra rb h;refine bV h (λx y ea eb h=>?_) λh=>bV h (λx y ea eb h=>?_) λh=>bV h (λx y ea eb h=>?_) λh=>ct h
 ·refine cA h ?_
  rw [wa ea ra,wa eb rb];exact PyProof.Rows.is_bool (j6 rfl s.toks rfl)
 ·refine cA h ?_
  rw [CB ea ra,CB eb rb];exact is_none_gen (j6 rfl s.toks rfl)
 ·refine cA h ?_
  refine bP (fJ ea ra) λt zq1=>?_;refine bH (ES zq1) ?_;rw [CB eb rb];exact is_none_gen (j6 rfl s.toks rfl)
section
variable {k:EF}
def jk(f:EF):EF:= λρ μ=>bp (f ρ μ) λV μ1=>bo (jI V) λx=>some (.d (.int (-x)),μ1)
theorem nz{x:Expr}(hf:ab C n cx x f):ab C n cx (.UnaryOp .USub x pos) (jk f):=by
 refine .of ?_;intro A env O T ρ α μ s E V μ' R I F h;refine aD h λV1 μ1 e1 h=>ax h λx ex h=>?_;refine cg h ?_;refine wpAny_UnaryOp (D3 (hf.run A env O T ρ α μ s E _ _ R I F e1) (λv s1 p=>?_) λzz zz x=>x);refine cm p λα1 I1 S1 r1=>?_;refine bP (fJ ex r1) λt zq1=>?_;refine bH (ES zq1) ?_;exact PyProof.Rows.neg_int (bI.trans S1 (bI.tok I1 (aJ.int ..)))
def yb(f:EF):EF:= λρ μ=>bp (f ρ μ) λV μ1=>bo (jN V μ1) λb=>some (.d (.bool (!b)),μ1)
theorem Ug{x:Expr}(hf:ab C n cx x f):ab C n cx (.UnaryOp .Not x pos) (yb f):=by
 refine .of ?_;intro A env O T ρ α μ s E V μ' R I F h;refine aD h λV1 μ1 e1 h=>?_;refine ax h λb e2 h=>?_;refine cg h ?_;refine wpAny_UnaryOp (D3 (hf.run A env O T ρ α μ s E _ _ R I F e1) (λv s1 p=>?_) λzz zz x=>x);refine cm p λα1 I1 S1 r1=>?_;refine not_of (D3 (mu I1 r1 e2) (λc s2 q=>?_) λzz zz x=>x);refine zw q λzq0 tk zq2=>?_;refine bH zq0 ?_;refine bH (ES zq2) ?_;exact bI.trans S1 (bI.tok I1 (aJ.bool ..))
theorem zM{x y:Expr}(hf:ab C n cx x f)(hg:ab C n cx y g):ab C n cx (.BoolOp .And [x,y] pos) (rM f g):=by
 refine .of ?_;intro A env O T ρ α μ s E V μ' R I F h;refine (?_:wpAny _ A (do let v←eval x env;standAt pos;let t←holding [v] (truthy v);match BoolOp.And,t with| .And,false| .Or,true=>pure v|_,_=>boolOp pos .And [eval y env]) _ _ s);refine aD h λV1 μ1 e1 h=>ax h λb e2 h=>?_;refine yK (D3 (hf.run A env O T ρ α μ s E _ _ R I F e1) (λv s1 p=>?_) λzz zz x=>x);refine cm p λα1 I1 S1 r1=>?_;refine yK (L9 (yK (KZ ?_)));refine D3 (mu I1 r1 e2) (λc s2 q=>?_) λzz zz x=>x;refine zw q λzq0 tk zq2=>?_;refine bH (ES zq0) ?_;refine bH (ES zq2) ?_;have S2:=aV.keeps (α:=α1) (μ:=μ1) (s:=s1) (h':=s1.heap) (tk:=tk) λzz zz e=>e;cases b with
 |true=>
  refine D3 (hg.run A env O T ρ α1 μ1 _ E V μ' R (I1.keeps (h':=s1.heap) λzz zz e=>e) ((F.step I S1).step I1 S2) h) (λv2 s3 p=>bI.trans (S1.trans S2) p) λzz zz x=>x
 |false=>
  refine cg h ?_;exact Ez (bI.trans S1 (bI.tok I1 r1))
theorem Y7{x y:Expr}(hf:ab C n cx x f)(hg:ab C n cx y g):ab C n cx (.BoolOp .Or [x,y] pos) (Yi f g):=by
 refine .of ?_;intro A env O T ρ α μ s E V μ' R I F h;refine (?_:wpAny _ A (do let v←eval x env;standAt pos;let t←holding [v] (truthy v);match BoolOp.Or,t with| .And,false| .Or,true=>pure v|_,_=>boolOp pos .Or [eval y env]) _ _ s);refine aD h λV1 μ1 e1 h=>ax h λb e2 h=>?_;refine yK (D3 (hf.run A env O T ρ α μ s E _ _ R I F e1) (λv s1 p=>?_) λzz zz x=>x);refine cm p λα1 I1 S1 r1=>?_;refine yK (L9 (yK (KZ ?_)));refine D3 (mu I1 r1 e2) (λc s2 q=>?_) λzz zz x=>x;refine zw q λzq0 tk zq2=>?_;refine bH (ES zq0) ?_;refine bH (ES zq2) ?_;have S2:=aV.keeps (α:=α1) (μ:=μ1) (s:=s1) (h':=s1.heap) (tk:=tk) λzz zz e=>e;cases b with
 |true=>
  refine cg h ?_;exact Ez (bI.trans S1 (bI.tok I1 r1))
 |false=>
  refine D3 (hg.run A env O T ρ α1 μ1 _ E V μ' R (I1.keeps (h':=s1.heap) λzz zz e=>e) ((F.step I S1).step I1 S2) h) (λv2 s3 p=>bI.trans (S1.trans S2) p) λzz zz x=>x
end
noncomputable def eZ(h:Heap)(α M:List Addr):List Value→List AV→Prop
 | [],[]=>True
 |v::vs,V::Vs=>bm h α M v V∧eZ h α M vs Vs
 |_,_=>False
theorem eZ.step0(x:aV [] α μ s α' μ' s'):∀ {vs:List Value} {Vs:List AV},eZ s.heap α (T++ai α μ) vs Vs→eZ s'.heap α' (T++ai α' μ') vs Vs
 | [],[],_=>trivial
 |_::_,_::_,r=>⟨r.1.step0 x,eZ.step0 x r.2⟩
 | [],_::_,r=>r.elim
 |_::_,[],r=>r.elim
noncomputable def eY:List EF→d0→List ah→Option (List AV×List ah)
 | [],_,μ=>some ([],μ)
 |f::fs,ρ,μ=>bp (f ρ μ) λV μ1=>bp (eY fs ρ μ1) λVs μ2=>some (V::Vs,μ2)
theorem zb(h:f ρ μ=some (V,μ')):eY [f] ρ μ=some ([V],μ'):=by
 refine (?_:bp (f ρ μ) _=_);refine rA h ?_;rfl
structure de (C:gK) (n:Nat) (cx:Cx) (es:List Expr) (fs:List EF):Prop where
 of::
 run:∀A env O T ρ α μ s E Vs μ' pos,cP A n→bl C T α μ s→bh C cx env O ρ s.heap α (T++ai α μ)→eY fs ρ μ=some (Vs,μ')→
  wpAny (model C.prog C.w) A (spliced (backTo pos (starEach es env))) (λvs s'=>∃α',bl C T α' μ' s'∧aV [] α μ s α' μ' s'∧eZ s'.heap α' (T++ai α' μ') vs Vs) E s
section
theorem ae:de C n cx [] []:=by
 refine .of ?_;intro A env O T ρ α μ s E Vs μ' pos R I F h;refine cg h ?_;exact So (cJ α I (aV.refl _ _ _ _) trivial)
theorem dz(hs:∀env,starEach (e::es) env=(false,eval e env)::starEach es env)(hf:ab C n cx e f)(hg:de C n cx es fs):de C n cx (e::es) (f::fs):=by
 refine .of ?_;intro A env O T ρ α μ s E Vs μ' pos R I F h;refine aD h λV μ1 e1 h=>?_;refine aD h λVs2 μ2 e2 h=>?_;refine cg h ?_;rw [hs env];refine Rw (D3 (hf.run A env O T ρ α μ s E V μ1 R I F e1) (λv s1 p=>?_) λzz zz x=>x);refine cm p λα1 I1 S1 r1=>?_;refine D3 (hg.run A env O T ρ α1 μ1 s1 E _ _ pos R I1 (F.step I S1) e2) (λvs s2 p=>?_) λzz zz x=>x;refine cm p λα2 I2 S2 r2=>?_;exact (c_ α2 I2 (S1.trans S2) (r1.step0 S2) r2)
end
theorem mL:∀ {α:List Addr} {μ:List ah} {i:Nat} {a:Addr} {c:ah},α.Nodup→α[i]? =some a→c.isMut=false→a∉ai α (μ.set i c)
 | [],_,_,_,_,_,h,_=>by simp at h
 |_::_,[],_,_,_,_,_,_=>by simp [ai]
 |b::α,c₀::μ,0,a,c,hn,h,hc=>by
  simp at h;refine bH h ?_
  simp only [SL,ai,hc];intro q;exact (Jy.mp hn).1 (db q)
 |b::α,c₀::μ,i+1,a,c,hn,h,hc=>by
  simp only [PR,ai];have h':α[i]? =some a:=by simpa using h
  have ha:a∈α:=FM h';have q:=mL (μ:=μ) (c:=c) (Jy.mp hn).2 h' hc
  split
  ·intro z
   rcases C1.mp z with rfl|z
   ·exact (Jy.mp hn).1 ha
   ·exact q z
  ·exact q
theorem BS(h:(μ.set i c)[j]? =some c'):(j=i∧c'=c)∨(j≠i∧μ[j]? =some c'):=by
 rw [Qn] at h
 by_cases q:i=j
 ·rw [if_pos q] at h
  split at h
  ·exact .inl ⟨q.symm,(Ff h).symm⟩
  ·exact ct h
 ·rw [if_neg q] at h
  exact .inr ⟨λz=>q z.symm,h⟩
noncomputable def ap0(μ:List ah)(i:Nat):ah→Option (PyData×List ah)
 | .live xs=>some (.list xs,μ.set i (.frozen xs))
 | .frozen xs=>some (.list xs,μ)
 | .iter _=>none
noncomputable def wg(V:AV)(μ:List ah):Option (PyData×List ah):=oe (v7 V) (some ()) (λx zz=>some (x,μ)) (bo (EX V) λi=>bo (μ[i]?) λc=>ap0 μ i c)
theorem dX.mono(x:dX h M a c)(hm:∀a∈M',a∈M):dX h M' a c:=by
 cases c with
 |live xs=>refine au x λitems p r=>?_;exact (aZ items p (r.mono hm))
 |frozen xs=>exact aJ.mono x hm
 |iter xs=>
  rcases x with ⟨l,k,items,p,q,hl,hk,r⟩|x
  ·exact .inl (i0 l k items p q (λz=>hl (hm _ z)) hk (r.mono hm))
  ·exact .inr x
theorem tR(I:bl C T α μ s)(r:bm s.heap α (T++ai α μ) v V)(h:wg V μ=some (d,μ')):
  bl C T α μ' s∧aV [] α μ s α μ' s∧aJ s.heap (T++ai α μ') v d:=by
 refine bV h (λx zz ex zz h=>?_) λh=>ax h λi ei h=>ax h λc e h=>?_
 ·refine cg h ?_
  rw [iN ex] at r
  exact (fm I (aV.refl _ _ _ _) r)
 refine au (Gg ei r) λa ha zq2=>?_;refine bH (ES zq2) ?_;cases c with
 |live xs=>
  refine cg h ?_;have sub:∀b∈ai α (μ.set i (.frozen xs)),b∈ai α μ:= λb hb=>rh hb λc₀ e0 q=>by cases q
  have subT:∀b∈T++ai α (μ.set i (.frozen xs)),b∈T++ai α μ:= λb hb=>(AZ.mp hb).elim (λq=>yg _ q) λq=>D1 _ (sub b q);refine au (I.cells i a _ ha e) λitems hp rr=>?_;have key:aJ s.heap (T++ai α (μ.set i (.frozen xs))) (.ref a) (.list xs):=aJ.list hp (rr.mono subT) λz=>by
   rcases AZ.mp z with z|z
   ·exact I.apart a z (FM ha)
   ·exact mL I.nodup ha rfl z
  refine (fm ⟨I.keep,by rw [Lr];exact I.len,λj b c h1 h2=>?_,I.nodup,I.apart,I.tdom,I.tnew,I.new,I.gens,I.os⟩ (⟨⟨[],by simp,by simp⟩,fZ.refl _ _,λb hb=>.inl (sub b hb),λzz o e=>⟨o,e⟩,λzz zz e=>e⟩) key)
  rcases BS h2 with ⟨rfl,rfl⟩| ⟨_,h2⟩
  ·rw [ha] at h1;refine cA h1 ?_
   exact key
  ·exact (I.cells j b c h1 h2).mono subT
 |frozen xs=>
  refine cg h ?_;exact (fm I (aV.refl _ _ _ _) (I.cells i a _ ha e))
 |iter xs=>exact ct h
noncomputable def lJ:List AV→List ah→Option (List PyData×List ah)
 | [],μ=>some ([],μ)
 |V::Vs,μ=>bp (wg V μ) λd μ1=>bp (lJ Vs μ1) λds μ2=>some (d::ds,μ2)
theorem jl:∀ {vs:List Value} {Vs:List AV} {μ μ':List ah} {ds:List PyData},bl C T α μ s→eZ s.heap α (T++ai α μ) vs Vs→lJ Vs μ=some (ds,μ')→
  bl C T α μ' s∧aV [] α μ s α μ' s∧aw s.heap (T++ai α μ') vs ds
 | [],[],μ,μ',ds,I,r,h=>by refine cg h ?_;exact (fm I (aV.refl _ _ _ _) (aw.nil _ _))
 | [],_::_,_,_,_,_,r,_=>r.elim
 |_::_,[],_,_,_,_,r,_=>r.elim
 |v::vs,V::Vs,μ,μ',ds,I,r,h=>by
  refine aD h λd μ1 e1 h=>?_;refine aD h λds2 μ2 e2 h=>?_;refine cg h ?_;refine dU (tR I r.1 e1) λI1 S1 r1=>?_;refine dU (jl I1 (eZ.step0 S1 r.2) e2) λI2 S2 r2=>?_;exact (fm I2 (S1.trans S2) (.cons (r1.step0 S2) r2))
def cX(fs:List EF):EF:= λρ μ=>bp (eY fs ρ μ) λVs μ1=>bp (lJ Vs μ1) λds μ2=>if ds.length≤sizeLine then some (.d (.tuple ds),μ2) else none
def aU(fs:List EF):EF:= λρ μ=>bp (eY fs ρ μ) λVs μ1=>bp (lJ Vs μ1) λds μ2=>if ds.length≤sizeLine then some (.d (.list ds),μ2) else none
section
theorem cU(h:de C n cx es fs):ab C n cx (.Tuple es k pos) (cX fs):=by
 refine .of ?_;intro A env O T ρ α μ s E V μ' R I F q;refine aD q λVs μ1 e1 q=>?_;refine aD q λds μ2 e2 q=>?_;refine i6 q λhz q=>?_;refine cg q ?_;refine Tuple_ (D3 (h.run A env O T ρ α μ s E Vs μ1 pos R I F e1) (λvs s1 p=>?_) λzz zz x=>x);refine cm p λα1 I1 S1 r1=>?_;refine dU (jl I1 r1 e2) λI2 S2 r2=>?_;refine HA (bI.trans (S1.trans S2) (bI.of_keeps (tk:=s1.toks) I2 (bb _ _) ?_)) (by show vs.toArray.size≤sizeLine;rw [O_,r2.length];exact hz);exact aJ.tuple (Dp _ rfl) rfl rfl ((by simpa using r2:aw s1.heap (T++ai α1 _) vs.toArray.toList ds).keeps (bb _ _)) (eD I2 (io _))
theorem bc(h:de C n cx es fs):ab C n cx (.List es pos) (aU fs):=by
 refine .of ?_;intro A env O T ρ α μ s E V μ' R I F q;refine aD q λVs μ1 e1 q=>?_;refine aD q λds μ2 e2 q=>?_;refine i6 q λhz q=>?_;refine cg q ?_;refine List_ (D3 (h.run A env O T ρ α μ s E Vs μ1 pos R I F e1) (λvs s1 p=>?_) λzz zz x=>x);refine cm p λα1 I1 S1 r1=>?_;refine dU (jl I1 r1 e2) λI2 S2 r2=>?_;exact HA (bI.trans (S1.trans S2) (bI.newList (tk:=s1.toks) I2 (by simpa using r2))) (by show vs.toArray.size≤sizeLine;rw [O_,r2.length];exact hz)
end
noncomputable def uR(μ:List ah)(V:AV):Option (List PyData):=oe (Ke V) (some ()) (λxs zz=>some xs) (da μ V)
noncomputable def IP(V:AV)(k:Int)(μ:List ah):Option PyData:=if-(2^63)≤k∧k<2^63 then bo (uR μ V) λxs=>bo (seqIndex? k xs.length) λj=>xs[j]? else none
theorem nG{l:Addr}{k:Int}{t:Tok}{x:Value}
  (hl:s.heap.IsList l items) (hlo: -(2^63)≤k) (hhi:k<2^63) (hj:seqIndex? k items.size=some j) (hx:items[j]? =some x) (h:Q x s):wpAny (model prog w) A (getItem (.ref l) (.int k t)) Q E s:=by
 unfold seqIndex? at hj
 by_cases hk:k<0
 ·rw [if_pos hk] at hj
  refine i6 hj λq hj=>?_;cases hj;simp only [E_,decide_eq_true_eq] at q
  exact wpAny_getItem_list_neg hl hk (by lia) hlo hx h
 ·rw [if_neg hk] at hj
  refine i6 hj λq hj=>?_;cases hj;exact wpAny_getItem_list hl (by lia) hhi hx h
theorem OC{k:Int}{t:Tok}{value slice:Expr}(I:bl C T α μ s)(r:bm s.heap α (T++ai α μ) v V)(h:IP V k μ=some d)
  (hs:∀o i,subscripted slice false o i=operate [o,i] (getItem o i)):wpAny (model C.prog C.w) A (subscriptTail value slice v (.int k t)) (λv' s'=>s'=s∧aJ s.heap (T++ai α μ) v' d) E s:=by
 refine i6 h λhk h=>ax h λxs e1 h=>ax h λj e2 h=>?_;refine bV e1 (λxs' zz ex zz q=>?_) λe1=>?_
 ·have q':=Ff q
  subst q';refine bq (K5 ex r) λa items zq2 ht r1=>?_;refine bH (ES zq2) ?_;refine au (r1.get h) λx e3 r2=>?_;have e4:items[j]? =some x:=by simpa using e3
  refine RQ (o:=.ref a) (T:="tuple") (by refine cm ht λo ho hc zz=>?_;exact (aZ o ho hc)) SM.lookup (PyProof.Rows.getItem_tuple ht hk.1 hk.2 (j:=j) ?_ e4 ⟨rfl,r2⟩) (hs _ _);rw [show items.size=xs'.length from by rw [←r1.length];simp];exact e2
 ·refine bq (r.isList I e1) λa items zq2 hl r1=>?_
  refine bH (ES zq2) ?_;refine au (r1.get h) λx e3 r2=>?_;have e4:items[j]? =some x:=by simpa using e3
  refine RQ hl.isList.typeIs Qp.lookup (nG hl.isList hk.1 hk.2 (j:=j) ?_ e4 ⟨rfl,r2⟩) (hs _ _);rw [show items.size=xs.length from by rw [←r1.length];simp];exact e2
def aF(f g:EF):EF:= λρ μ=>bp (f ρ μ) λV μ1=>bp (g ρ μ1) λK μ2=>bo (jI K) λk=>bo (IP V k μ2) λd=>some (.d d,μ2)
section
theorem bj{x y:Expr}(hf:ab C n cx x f)(hg:ab C n cx y g)(hs:∀o i,subscripted y false o i=operate [o,i] (getItem o i)):ab C n cx (.Subscript x y pos) (aF f g):=by
 refine .of ?_;intro A env O T ρ α μ s E V μ' R I F h;refine aD h λV1 μ1 e1 h=>aD h λK μ2 e2 h=>ax h λk ek h=>ax h λd e3 h=>?_;refine cg h ?_;refine Ta (o0 hf hg R I F e1 e2 λa b s2 α2 I2 S2 ra rb=>?_);refine bP (fJ ek rb) λt zq1=>?_;refine bH (ES zq1) ?_;refine D3 (OC I2 ra e3 hs) (λv s3 p=>?_) λzz zz x=>x;refine fY p λzq0 r=>?_;refine bH (ES zq0) ?_;exact (cJ α2 I2 S2 r)
end
noncomputable abbrev PF:=d0→List ah→Option (Option Int×List ah)
structure ln (C:gK) (n:Nat) (cx:Cx) (e:Option Expr) (f:PF):Prop where
 of::
 run:∀A env O T ρ α μ s E k μ',cP A n→bl C T α μ s→bh C cx env O ρ s.heap α (T++ai α μ)→f ρ μ=some (k,μ')→
  wpAny (model C.prog C.w) A (evalPart e env) (λv s'=>∃α',bl C T α' μ' s'∧aV [] α μ s α' μ' s'∧IsPart v k) E s
def aL(f:EF):PF:= λρ μ=>bp (f ρ μ) λV μ1=>oe (jI V) (some ()) (λk zz=>some (some k,μ1)) (oe (MN V) (some ()) (λzz zz=>some (none,μ1)) none)
def ba:PF:= λzz μ=>some (none,μ)
section
variable {p q r:PF}
theorem dE:ln C n cx none ba:=by
 refine .of ?_;intro A env O T ρ α μ s E k μ' R I F h;refine cg h ?_;exact Ez (cJ α I (aV.refl _ _ _ _) .none)
theorem cw(hf:ab C n cx e f):ln C n cx (some e) (aL f):=by
 refine .of ?_;intro A env O T ρ α μ s E k μ' R I F h;refine aD h λV μ1 e1 h=>?_;refine D3 (hf.run A env O T ρ α μ s E _ _ R I F e1) (λv s1 p=>?_) λzz zz x=>x;refine cm p λα1 I1 S1 r1=>?_;refine bV h (λk1 zz ek zz h=>?_) λh=>bV h (λzz zz ek zz h=>?_) λh=>ct h
 ·refine cg h ?_
  refine bP (fJ ek r1) λt zq1=>?_;refine bH (ES zq1) ?_;exact (cJ α1 I1 S1 (.int _ _))
 ·refine cg h ?_
  rw [CB ek r1];exact (cJ α1 I1 S1 .none)
theorem w7{x:Expr}{st:Option Expr}{μ4:List ah}{kl kh ks:Option Int}{Q:Value→Value→Shared→Prop}
  (hf:ab C n cx x f) (hp:ln C n cx lo p) (hq:ln C n cx hi q) (hr:ln C n cx st r) (R:cP A n) (I:bl C T α μ s) (F:bh C cx env O ρ s.heap α (T++ai α μ))
  (e1:f ρ μ=some (V,μ1)) (e2:p ρ μ1=some (kl,μ2)) (e3:q ρ μ2=some (kh,μ3)) (e4:r ρ μ3=some (ks,μ4))
  (h:∀a vl vu vs s4 α4,bl C T α4 μ4 s4→aV [] α μ s α4 μ4 s4→bm s4.heap α4 (T++ai α4 μ4) a V→IsPart vl kl→IsPart vu kh→IsPart vs ks→Q a (.ref s4.heap.objs.size) {s4 with heap:=s4.heap.push {cls:=.type "slice",data:=.fields #[vl,vu,vs]}}):
  wpAny (model C.prog C.w) A (eval x env) (λa s1=>wpAny (model C.prog C.w) A (eval (.Slice lo hi st sp) env) (λb s2=>Q a b s2) E s1) E s:=by
 refine D3 (hf.run A env O T ρ α μ s E V μ1 R I F e1) (λa s1 p1=>?_) λzz zz x=>x;refine cm p1 λα1 I1 S1 r1=>?_;refine wpAny_Slice (D3 (hp.run A env O T ρ α1 μ1 s1 E kl μ2 R I1 (F.step I S1) e2) (λvl s2 p2=>?_) λzz zz x=>x);refine cm p2 λα2 I2 S2 r2=>?_;refine D3 (hq.run A env O T ρ α2 μ2 s2 E kh μ3 R I2 ((F.step I S1).step I1 S2) e3) (λvu s3 p3=>?_) λzz zz x=>x;refine cm p3 λα3 I3 S3 r3=>?_;refine D3 (hr.run A env O T ρ α3 μ3 s3 E ks μ4 R I3 (((F.step I S1).step I1 S2).step I2 S3) e4) (λvs s4 p4=>?_) λzz zz x=>x;refine cm p4 λα4 I4 S4 r4=>?_;exact h a vl vu vs s4 α4 I4 (((S1.trans S2).trans S3).trans S4) (((r1.step0 S2).step0 S3).step0 S4) r2 r3 r4
end
noncomputable def fA{X:Type}(xs:List X)(lo hi:Option Int):List X:=(xs.drop (lo.elim 0 (clipAt xs.length))).take (hi.elim xs.length (clipAt xs.length)-lo.elim 0 (clipAt xs.length))
noncomputable def iJ{X:Type}(xs:List X)(lo hi st:Option Int):List X:=(sliceRange (sliceBounds lo hi st xs.length).1 (sliceBounds lo hi st xs.length).2.1 (sliceBounds lo hi st xs.length).2.2).filterMap (xs[·]?)
noncomputable def oD(x:Str)(lo hi:Option Int):Str:=if ((IL lo hi 1 x.length).length==x.length)=true then x else ⟨((IL lo hi 1 x.length).filterMap (x.cps[·]?)).toArray⟩
theorem qG(r:aw h M vs xs):∀is:List Nat,aw h M (is.filterMap (vs[·]?)) (is.filterMap (xs[·]?))
 | []=>by simpa using aw.nil h M
 |i::is=>by
  have ih:=qG r is;cases e:xs[i]? with
  |some d=>
   refine au (r.get e) λv e' rv=>?_;rw [L_ e',L_ e];exact .cons rv ih
  |none=>
   have e':vs[i]? =none:=by
    rw [GB] at e⊢
    rw [r.length];exact e
   rw [Qr e',Qr e];exact ih
def ce(f:EF)(p q:PF):EF:= λρ μ=>bp (f ρ μ) λV μ1=>bp (p ρ μ1) λlo μ2=>bp (q ρ μ2) λhi μ3=>oe (mn V) (some ()) (λx zz=>if x.length≤sizeLine∧(oD x lo hi).length≤sizeLine then some (.d (.str (oD x lo hi)),μ3) else none)
 (oe (Ke V) lo (λxs k=>if hi=none∧1≤k∧k≤xs.length∧xs.length≤sizeLine then some (.d (.tuple (xs.drop k.toNat)),μ3) else none)
  (bo (da μ3 V) λxs=>if xs.length≤sizeLine then some (.d (.list (fA xs lo hi)),μ3) else none))
def vm(f:EF)(p q r:PF):EF:= λρ μ=>bp (f ρ μ) λV μ1=>bp (p ρ μ1) λlo μ2=>bp (q ρ μ2) λhi μ3=>bp (r ρ μ3) λso μ4=>bo so λst=>bo (da μ4 V) λxs=>if xs.length≤sizeLine∧st≠0 then some (.d (.list (iJ xs lo hi (some st))),μ4) else none
theorem rD(items:Array Value)(lo hi:Option Int):(slicePick items lo hi none).toList=fA items.toList lo hi:=by
 rw [slicePick_plain];simp [fA]
theorem vB(r:aw h M vs xs)(lo hi:Option Int):aw h M (fA vs lo hi) (fA xs lo hi):=by
 unfold fA;rw [r.length];exact (r.drop _).take _
section
variable {p q r:PF}
theorem Ox{x:Expr}{st:Option Expr}(hf:ab C n cx x f)(hp:ln C n cx lo p)(hq:ln C n cx hi q)(hr:ln C n cx st r)
  (hs:∀o i,subscripted (.Slice lo hi st sp) false o i=operate [o,i] (getItem o i)):ab C n cx (.Subscript x (.Slice lo hi st sp) pos) (vm f p q r):=by
 refine .of ?_;intro A env O T ρ α μ s E V μ' R I F h;refine aD h λV1 μ1 e1 h=>aD h λkl μ2 e2 h=>aD h λkh μ3 e3 h=>aD h λso μ4 e4 h=>ax h λks es h=>ax h λxs e5 h=>i6 h λhz h=>?_;refine cg h ?_;rw [es] at e4
 refine Ta (w7 hf hp hq hr R I F e1 e2 e3 e4 λa vl vu vs s4 α4 I4 S4 ra pl pu ps=>?_);refine bq (ra.isList I4 e5) λl items zq2 zp3 rr=>?_;refine bH (ES zq2) ?_;refine bP zp3 λn1 hl=>?_;have hsz:items.size=xs.length:=by rw [←rr.length];simp
 have I5:=I4.keeps (tk:=s4.toks) (bb s4.heap {cls:=.type "slice",data:=.fields #[vl,vu,vs]});have S5:=aV.keeps (α:=α4) (μ:=μ4) (s:=s4) (tk:=s4.toks) (bb s4.heap {cls:=.type "slice",data:=.fields #[vl,vu,vs]});have hl':(s4.heap.push {cls:=.type "slice",data:=.fields #[vl,vu,vs]}).PlainList l items:=⟨n1,bb _ _ _ _ hl⟩;refine RQ (s:= {s4 with heap:=s4.heap.push {cls:=.type "slice",data:=.fields #[vl,vu,vs]}}) hl'.isList.typeIs Qp.lookup (Qs hl'.isList (PS ..) pl pu ps (by intro q;cases q;exact hz.2 rfl) ?_ (by lia)) (hs _ _);refine bI.trans (S4.trans S5) (bI.newList (tk:=s4.toks) I5 ?_)
 have:=qG (rr.keeps (bb s4.heap {cls:=.type "slice",data:=.fields #[vl,vu,vs]})) (sliceRange (sliceBounds kl kh (some ks) xs.length).1 (sliceBounds kl kh (some ks) xs.length).2.1 (sliceBounds kl kh (some ks) xs.length).2.2)
 unfold slicePick iJ;rw [hsz]
 simpa using this
end
theorem l7{t sl:Addr}{a:Nat}
 (ht:IsTup s.heap t items) (hs:s.heap.IsSliceOf sl (.int a u) .none .none) (h1:1≤a) (ha:a≤items.size)
 (h:Q (.ref s.heap.objs.size) {s with heap:=s.heap.push {cls:=.type "tuple",data:=.seq (items.toList.drop a).toArray}}) (hsz:items.size≤sizeLine):
 wpAny (model prog w) A (getItem (.ref t) (.ref sl)) Q E s:=getItem_tuple_from ht hs h1 ha h hsz
section
variable {p q r:PF}
theorem dP{x:Expr}(hf:ab C n cx x f)(hp:ln C n cx lo p)(hq:ln C n cx hi q):ab C n cx (.Subscript x (.Slice lo hi none sp) pos) (ce f p q):=by
 refine .of ?_;intro A env O T ρ α μ s E V μ' R I F h;have hs:∀o i,subscripted (.Slice lo hi none sp) false o i=operate [i,o] (getItem o i):= λo i=>rfl;refine aD h λV1 μ1 e1 h=>aD h λkl μ2 e2 h=>aD h λkh μ3 e3 h=>?_;refine Ta (w7 hf hp hq dE R I F e1 e2 e3 rfl λa vl vu vs s4 α4 I4 S4 ra pl pu ps=>?_);have I5:=I4.keeps (tk:=s4.toks) (bb s4.heap {cls:=.type "slice",data:=.fields #[vl,vu,vs]});have S5:=aV.keeps (α:=α4) (μ:=μ3) (s:=s4) (tk:=s4.toks) (bb s4.heap {cls:=.type "slice",data:=.fields #[vl,vu,vs]});cases ps;refine bV h (λx zz ex zz h=>i6 h λhz h=>?_) λh=>bV h (λxs k ex ek h=>i6 h λhz h=>?_) λh=>ax h λxs e5 h=>i6 h λhz h=>?_
 ·refine cg h ?_
  refine bP (j2 ex ra) λt zq1=>?_;subst zq1;have hlk:typeLookup (.type "str") "__getitem__"=pure (some (.builtin "str.__getitem__")):=PySem.F.slot_str_getitem.lookup;have part:∀ {v:Value} {k:Option Int},IsPart v k→∃l:Option (Int×Tok),v=partValue l∧l.map (·.1)=k:=by
   intro v k pk;cases pk with
   |none=>exact (aZ none rfl rfl)
   |int i t=>exact (aZ (some (i,t)) rfl rfl)
  refine au (part pl) λl zq1 hl=>?_;subst zq1;refine au (part pu) λu zq1 hu=>?_;subst zq1;refine RQ (s:= {s4 with heap:=s4.heap.push {cls:=.type "slice",data:=.fields #[partValue l,partValue u,.none]}}) (T:="str") (typeIs_str _ x t) hlk (wpAny_getItem_str_slice (l:=l) (u:=u) (st:=none) (cJ _ (Dp _ rfl) rfl rfl) rfl ?_) (hs _ _);unfold sliceMade;have e9:slicePicked x l u none=IL kl kh 1 x.length:=by unfold slicePicked;rw [hl,hu];rfl
  rw [e9];unfold oD at hz⊢
  by_cases hc:((IL kl kh 1 x.length).length==x.length)=true
  ·rw [if_pos (by simpa using hc)]
   refine bI.trans (S4.trans S5) (bI.same I5 ?_);rw [if_pos hc];exact aJ.str ..
  ·rw [if_neg (by simpa using hc)]
   refine ⟨?_,bI.trans (S4.trans S5) (bI.tok I5 ?_)⟩
   ·have:=hz.2
    rwa [if_neg hc] at this
   ·rw [if_neg hc]
    exact aJ.str ..
 ·refine cg h ?_
  refine fY hz λhh hz=>?_;subst hh;subst ek;refine bq (K5 ex ra) λa' items zq2 ht rr=>?_;subst zq2;have hsz:items.size=xs.length:=by rw [←rr.length];simp
  cases pl with
  |int _ u=>
  cases pu;obtain ⟨m,rfl⟩:∃m:Nat,k=m:=⟨k.toNat,by lia⟩;have hk:=bb s4.heap {cls:=.type "slice",data:=.fields #[.int m u,.none,.none]};have ht':(s4.heap.push {cls:=.type "slice",data:=.fields #[.int m u,.none,.none]}).IsTuple a' items:=by refine au ht λo ho q=>?_;exact (aZ o (hk _ _ ho) q)
  refine RQ (s:= {s4 with heap:=s4.heap.push {cls:=.type "slice",data:=.fields #[.int m u,.none,.none]}}) (o:=.ref a') (T:="tuple") (by refine cm ht' λo ho hc zz=>?_;exact (aZ o ho hc)) SM.lookup (l7 ht' (PS ..) (by lia) (by lia) ?_ (by lia)) (hs _ _);refine bI.trans (S4.trans S5) (bI.of_keeps (tk:=s4.toks) I5 (bb _ _) ?_);refine aJ.tuple (Dp _ rfl) rfl rfl (aw.keeps ?_ (bb _ _)) (eD I5 (io _))
  simpa using (rr.keeps hk).drop m
 ·refine cg h ?_
  refine bq (ra.isList I4 e5) λl items zq2 zp3 rr=>?_;subst zq2;refine bP zp3 λn1 hl=>?_;have hsz:items.size=xs.length:=by rw [←rr.length];simp
  have hl':(s4.heap.push {cls:=.type "slice",data:=.fields #[vl,vu,.none]}).PlainList l items:=⟨n1,bb _ _ _ _ hl⟩;refine RQ (s:= {s4 with heap:=s4.heap.push {cls:=.type "slice",data:=.fields #[vl,vu,.none]}}) hl'.isList.typeIs Qp.lookup (Qs hl'.isList (PS ..) pl pu .none (by intro q;exact ct q) ?_ (by lia)) (hs _ _);refine bI.trans (S4.trans S5) (bI.newList (tk:=s4.toks) I5 ?_);rw [rD];exact vB (rr.keeps (bb s4.heap {cls:=.type "slice",data:=.fields #[vl,vu,.none]})) _ _
end
noncomputable abbrev a_:=List AV→List ah→Option (AV×List ah)
def af(fs:List EF)(spec:a_):EF:= λρ μ=>bp (eY fs ρ μ) λVs μ1=>spec Vs μ1
def eF(C:gK)(n:Nat)(f:Value)(spec:a_):Prop:=∀A T α μ s E vs Vs V μ',cP A n→bl C T α μ s→eZ s.heap α (T++ai α μ) vs Vs→spec Vs μ=some (V,μ')→
 wpAny (model C.prog C.w) A (call f vs) (bI C T α μ s μ' V) E s
def kW(f:Value):Prop:=∀ (M:Model) (A:Around) (E:Value→Shared→Prop) (s:Shared) (pos:Pos) (first:List Value) (args:List (Bool×Sem Value)) (Q:Value→Shared→Prop),args.any (·.1)=false→
 wpAny M A (evalArgs f true args []) (λa s₁=>wpAny M A (call f (first++a.pos) a.kw) Q E s₁) E s→wpAny M A (callWith pos f first args []) Q E s
theorem bf(id:String):kW (.builtin id):= λzz zz zz zz zz zz zz zz hp h=>OR hp h
theorem bD(T:String):kW (.type T):= λzz zz zz zz zz zz zz zz hp h=>PyProof.Rows.callWith_type hp h
section
variable {spec:a_}
theorem ee{Q:Args→Shared→Prop}
  (hs:starEach (e::es) env=(false,eval e env)::starEach es env) (ha:de C n cx (e::es) fs) (R:cP A n) (I:bl C T α μ s) (F:bh C cx env O ρ s.heap α (T++ai α μ)) (h:eY fs ρ μ=some (Vs,μ1))
  (k:∀vs s1 α1,bl C T α1 μ1 s1→aV [] α μ s α1 μ1 s1→eZ s1.heap α1 (T++ai α1 μ1) vs Vs→Q ⟨vs,[]⟩ s1):
  wpAny (model C.prog C.w) A (evalArgs fv true (backTo pos (starEach (e::es) env)) []) Q E s:=by
 have z:=ha.run A env O T ρ α μ s E Vs μ1 pos R I F h;rw [hs] at z⊢
 refine Sd (D3 z (λvs s1 p=>?_) λzz zz x=>x);refine cm p λα1 I1 S1 r1=>?_;exact k vs s1 α1 I1 S1 r1
theorem MA{fd:FuncData}(hg:C.mg x=some (.ref fa))(ho:C.B.get? fa=some o)(hd:o.data=.func fd)(hf:eF C n (.ref fa) spec)
  (ha:de C n cx (e::es) fs) (hs:∀env,starEach (e::es) env=(false,eval e env)::starEach es env)
  (hl:cx.scope.names.lookup x=some .globalImplicit) (hk:cx.scope.kind=.function) (hdb:(x==("__debug__":Str))=false):
  ab C n cx (.Call (.Name x xp) (e::es) [] pos) (af fs spec):=by
 refine .of ?_;intro A env O T ρ α μ s E V μ' R I F h;refine aD h λVs μ1 e1 h=>?_;refine (?_:wpAny _ A (do callWith pos (←eval (.Name x xp) env) [] (backTo pos (starEach (e::es) env)) []) _ _ s);refine yK (F6 (by rw [F.sc];exact hk) (by unfold IC;rw [F.sc];exact hl) (L6 (by rw [F.gl];exact C.g.keeps I.keep) hg ?_) hdb);refine MB (o:=o) (fd:=fd) (ee (hs env) ha R I F e1 λvs s1 α1 I1 S1 r1=>⟨⟨I1.keep _ _ ho,hd⟩,?_⟩);exact D3 (hf A T α1 μ1 s1 E vs Vs V μ' R I1 r1 h) (λv s2 p=>bI.trans S1 p) λzz zz x=>x
theorem SA(hg:C.mg x=none)(hb:bootBuiltins x=some fv)(hx:x≠"__name__")(hn:kW fv)(hf:eF C n fv spec)
  (ha:de C n cx (e::es) fs) (hs:∀env,starEach (e::es) env=(false,eval e env)::starEach es env) (hp:∀env,(backTo pos (starEach (e::es) env)).any (·.1)=false)
  (hl:cx.scope.names.lookup x=some .globalImplicit) (hk:cx.scope.kind=.function) (hdb:(x==("__debug__":Str))=false):
  ab C n cx (.Call (.Name x xp) (e::es) [] pos) (af fs spec):=by
 refine .of ?_;intro A env O T ρ α μ s E V μ' R I F h;refine aD h λVs μ1 e1 h=>?_;refine (?_:wpAny _ A (do callWith pos (←eval (.Name x xp) env) [] (backTo pos (starEach (e::es) env)) []) _ _ s);refine yK (F6 (by rw [F.sc];exact hk) (by unfold IC;rw [F.sc];exact hl) (Lg (by rw [F.gl];exact C.g.keeps I.keep) hg (by rw [F.bn];exact C.b.keeps I.keep) ((C.bt x hx).trans hb) ?_) hdb);refine hn _ _ _ _ _ _ _ _ (hp env) (ee (hs env) ha R I F e1 λvs s1 α1 I1 S1 r1=>?_);exact D3 (hf A T α1 μ1 s1 E vs Vs V μ' R I1 r1 h) (λv s2 p=>bI.trans S1 p) λzz zz x=>x
end
noncomputable def dD:a_:= λVs μ=>bo (l1 Vs) λV=>oe (mn V) (some ()) (λx zz=>if x.length≤sizeLine then some (.d (.int x.length),μ) else none)
 (bo (uR μ V) λxs=>if xs.length≤sizeLine then some (.d (.int xs.length),μ) else none)
theorem Qt(e:l1 Vs=some V)(r:eZ h α M vs Vs):∃v,vs=[v]∧bm h α M v V:=by
 rw [Wa e] at r
 cases vs with
 |nil=>exact r.elim
 |cons v vs=>
  cases vs with
  |nil=>exact aZ v rfl r.1
  |cons w vs=>exact r.2.elim
theorem vr2{W:AV}(e:l2 Vs=some (V,W))(r:eZ h α M vs Vs):∃v w,vs=[v,w]∧bm h α M v V∧bm h α M w W:=by
 rw [zJ e] at r
 cases vs with
 |nil=>exact r.elim
 |cons v vs=>
  refine au (Qt rfl r.2) λw e2 q=>?_;refine bH (ES e2) ?_;exact dw v w rfl r.1 q
theorem eR:eF C n (.builtin "len") dD:=by
 intro A T α μ s E vs Vs V μ' R I r h;refine ax h λV1 e1 h=>?_;refine au (Qt e1 r) λv zq1 r=>?_;refine bH (ES zq1) ?_;refine bV h (λx zz ex zz h=>i6 h λhz h=>?_) λh=>ax h λxs e h=>i6 h λhz h=>?_
 ·refine cg h ?_
  refine bP (j2 ex r) λt zq1=>?_;refine bH (ES zq1) ?_;exact PyProof.Rows.len_str (by unfold sizeLine at hz;lia) (bI.tok I (aJ.int ..))
 ·refine cg h ?_
  unfold sizeLine at hz
  refine bV e (λx zz ex zz q=>?_) λe=>?_
  ·have q':=Ff q
   subst q';refine bq (K5 ex r) λa items zq2 ht rr=>?_;refine bH (ES zq2) ?_;have hsz:items.size=x.length:=by rw [←rr.length];simp
   refine PyProof.Rows.len_tuple ht (by lia) ?_;rw [hsz];exact bI.tok I (aJ.int ..)
  ·refine bq (r.isList I e) λa items zq2 hl rr=>?_
   refine bH (ES zq2) ?_;have hsz:items.size=xs.length:=by rw [←rr.length];simp
   refine call_len_list hl.isList (by lia) ?_;rw [hsz];exact bI.tok I (aJ.int ..)
variable {spec : a_}
theorem lm:∀ {α:List Addr} {μ:List ah} {i:Nat} {c c₀:ah},μ[i]? =some c₀→c.isMut=c₀.isMut→ai α (μ.set i c)=ai α μ
 | [],_,_,_,_,_,_=>by simp [ai]
 |_::_,[],_,_,_,h,_=>by simp at h
 |b::α,c₁::μ,0,c,c₀,h,q=>by
  simp at h;subst h
  simp [ai,q]
 |b::α,c₁::μ,i+1,c,c₀,h,q=>by
  simp only [PR,ai];rw [lm (by simpa using h) q]
theorem Ex(hn:α.Nodup)(h1:α[i]? =some a)(h2:α[j]? =some a):i=j:=by
 refine bP (Bm.mp h1) λp e1=>?_;refine bP (Bm.mp h2) λq e2=>?_
 rcases Qw i j with h|h|h
 ·exact absurd (e1.trans e2.symm) (LX.mp hn i j p q h)
 ·exact h
 ·exact absurd (e2.trans e1.symm) (LX.mp hn j i q p h)
theorem bl.setCell{c₀:ah}(I:bl C T α μ s)(ha:α[i]? =some a)(hc:μ[i]? =some c₀)(hm:c₀.isMut=true)(hm':c.isMut=true)
  (hs:∀b o,b≠a→s.heap.get? b=some o→h'.get? b=some o) (hd:∃o,h'.get? a=some o) (hcell:(∀ {v:List Value} {ds:List PyData},aw s.heap (T++ai α μ) v ds→aw h' (T++ai α μ) v ds)→dX h' (T++ai α μ) a c):
  bl C T α (μ.set i c) {s with heap:=h',toks:=tk}∧aV [] α μ s α (μ.set i c) {s with heap:=h',toks:=tk}:=by
 have hme:ai α (μ.set i c)=ai α μ:=lm hc (by rw [hm,hm']);have ham:a∈ai α μ:=pS ha hc hm;have X:fZ ([]++ai α μ) s.heap h':= λb o e ht=>by
  by_cases q:b=a
  ·subst q;exact (ht (by simpa using ham)).elim
  ·exact hs b o q e
 have St:aV [] α μ s α (μ.set i c) {s with heap:=h',toks:=tk}:=by
  refine ⟨(aZ ([]) (by simp) (by simp)),X,λb hb=>.inl (hme▸hb),λb o e=>?_,λzz zz e=>e⟩
  by_cases q:b=a
  ·subst q;exact hd
  ·exact ⟨o,hs b o q e⟩
 refine ⟨⟨λb o e=>hs b o (λq=>?_) (I.keep b o e),by rw [Lr];exact I.len,λj b c' h1 h2=>?_,I.nodup,I.apart,λb hb=>?_,I.tnew,I.new,I.gens,I.os⟩,St⟩
 ·have:=I.new a (FM ha)
  rw [q,this] at e;exact ct e
 ·rw [hme]
  rcases BS h2 with ⟨rfl,rfl⟩| ⟨hne,h2⟩
  ·rw [ha] at h1;refine cA h1 ?_
   refine hcell λ{v ds} r=>?_
   have:=aw.step0 (T:=T) r St
   rwa [hme] at this
  ·have hba:b≠a:= λq=>hne (Ex I.nodup h1 (q▸ha))
   have z:=I.cells j b c' h1 h2;have kd:∀ {v:Value} {d:PyData},aJ s.heap (T++ai α μ) v d→aJ h' (T++ai α μ) v d:= λ{v d} r=>by
    have:=aJ.step0 (T:=T) r St
    rwa [hme] at this
   have kds:∀ {v:List Value} {d:List PyData},aw s.heap (T++ai α μ) v d→aw h' (T++ai α μ) v d:= λ{v d} r=>by
    have:=aw.step0 (T:=T) r St
    rwa [hme] at this
   cases c' with
   |live xs=>
    refine eC λGG kG=>?_;refine au z λitems zp1 r=>?_;obtain ⟨n,e'⟩:=zp1;refine kG ?_;exact (aZ items ⟨n,hs _ _ hba e'⟩ (kds r))
   |frozen xs=>exact kd z
   |iter xs=>
    rcases z with ⟨l,k,items,⟨o',e',q⟩,⟨n2,e2⟩,hl,hk,r⟩| ⟨rfl,o',k,e',q⟩
    ·exact .inl (i0 l k items ⟨o',hs _ _ hba e',q⟩ ⟨n2,hs _ _ (λz=>hl (z▸D1 _ ham)) e2⟩ hl hk (kds r))
    ·exact .inr (Tn rfl o' k (hs _ _ hba e') q)
 ·by_cases q:b=a
  ·subst q;exact hd
  ·exact (I.tdom b hb).imp λo e=>hs b o q e
theorem jW{M:Model}{l:Addr}{id:String}{pl:Sem Bool}{Q:Value×List Value→Shared→Prop}(ho:s.heap.PlainList l items)
  (hl:typeLookup (.type "list") name=pure (some (.builtin id))) (ht:typeOf (.builtin id)=pure (.type "method_descriptor")) (h:Q (.builtin id,[.ref l]) s):wpAny M A (getMethod (.ref l) name pl) Q E s:=by
 refine bP ho λn ho=>?_;have hT:s.TypeIs (.ref l) "list":=(aZ _ ho rfl);unfold getMethod;refine yK (Ls hT list_getattribute ?_);refine (?_:wpAny M A (if (Manifest.canonical "list.__getattribute__" != "object.__getattribute__")=true then _ else _) Q E s);rw [canon_list_getattribute,if_neg G_];refine yK (Ls hT list_getattr_none ?_);refine yK (Ls hT hl ?_);refine yK (M8 ht ?_);refine yK (wpAny_load ho ?_);exact yK (Ob (Ez h))
abbrev mV(o:Expr)(name:Str)(apos:Pos)(args:List Expr)(pos:Pos):Prop:=∀env,eval (.Call (.Attribute o name apos) args [] pos) env=(do
 let ov←eval o env
 standAt apos.atName
 let (f,first)←holding [ov] (getMethod ov name (do return (←importBound o env).getD true))
 callWith pos f first (backTo pos (starEach args env)) [])
noncomputable def B0:ah→Option (List PyData)
 | .live xs=>some xs
 |_=>none
theorem Mg(h:B0 c=some xs):c=.live xs:=by cases c<;>first|exact ct h| (cases h;rfl)
theorem Kh(e:μ[i]? =some c)(h:B0 c=some xs):μ[i]? =some (.live xs):=e.trans (congrArg some (Mg h))
def ef(f g:EF):EF:= λρ μ=>bp (f ρ μ) λV0 μ1=>bo (EX V0) λi=>bo (da μ1 (.c i)) λzz=>bp (g ρ μ1) λV μ2=>bp (wg V μ2) λd μ3=>bo (μ3[i]?) λc=>bo (B0 c) λxs=>if xs.length≤sizeLine then some (.d .none,μ3.set i (.live (xs++[d]))) else none
section
theorem cv{o:Expr}(hm:mV o "append" apos [e] pos)(hf:ab C n cx o f)(hg:ab C n cx e g)(hs:∀env,starEach [e] env=[(false,eval e env)]):
  ab C n cx (.Call (.Attribute o "append" apos) [e] [] pos) (ef f g):=by
 refine .of ?_;intro A env O T ρ α μ s E V μ' R I F h;refine aD h λV0 μ1 e1 h=>ax h λi ei h=>ax h λxs0 e0 h=>aD h λV2 μ2 e2 h=>aD h λd μ3 e3 h=>ax h λc ec h=>ax h λxs el h=>i6 h λhz h=>?_;rw [Ch ei] at e1
 have e4:=Kh ec el;refine cg h ?_;refine QU (D3 (hf.run A env O T ρ α μ s E _ _ R I F e1) (λv s1 p=>?_) λzz zz x=>x) (hm env);refine eC λGG kG=>?_;refine cm p λα1 I1 S1 r1=>?_;refine au r1 λa ha zq2=>?_;subst zq2;refine bq (bm.isList (V:=.c i) I1 (aZ a ha rfl) e0) λzz its1 e9 hp1 zz=>?_;cases e9;refine kG ?_;refine jW hp1 slot_list_append.lookup type_list_append ?_;have es1:de C n cx [e] [g]:=dz (by intro env;exact hs env) hg ae;refine OR (by rw [hs env];rfl) (ee (fs:=[g]) (hs env) es1 R I1 (F.step I S1) (zb e2) λvs s2 α2 I2 S2 r2=>?_);refine au (Qt rfl r2) λv zq r2=>?_;refine bH (ES zq) ?_;refine eC λGG kG=>?_;refine dU (tR I2 r2 e3) λI3 S3 r3=>?_;refine au S2.pre λδ hδ zz=>?_;have ha2:α2[i]? =some a:=by rw [hδ,EY (Bm.mp ha).1];exact ha
 refine au (I3.cells i a _ ha2 e4) λitems hp rr=>?_;refine kG ?_;have hsz:items.size=xs.length:=by rw [←rr.length];simp
 refine QV hp (λh' hl' hs'=>?_) (by lia);obtain ⟨I4,S4⟩:=I3.setCell (c:=.live (xs++[d])) (h':=h') (tk:=s2.toks) ha2 e4 rfl rfl (λb o q e=>(hs'.2 b q).trans e) (by refine bP hl' λk e=>?_;exact ⟨_,e⟩) λkd=>(aZ _ hl' (by
  rw [Tb];exact kd (rr.append (.cons r3 (aw.nil _ _)))))
 exact bI.trans (S1.trans (S2.trans S3)) (cJ α2 I4 S4 (aJ.none _ _))
def rT(f g:EF):EF:= λρ μ=>bp (f ρ μ) λV0 μ1=>bo (EX V0) λi=>bo (da μ1 (.c i)) λzz=>bp (g ρ μ1) λV μ2=>bo (Yl V) λys=>bo (μ2[i]?) λc=>bo (B0 c) λxs=>if xs.length+ys.length≤sizeLine then some (.d .none,μ2.set i (.live (xs++ys))) else none
theorem kU{o:Expr}(hm:mV o "extend" apos [e] pos)(hf:ab C n cx o f)(hg:ab C n cx e g)(hs:∀env,starEach [e] env=[(false,eval e env)]):
  ab C n cx (.Call (.Attribute o "extend" apos) [e] [] pos) (rT f g):=by
 refine .of ?_;intro A env O T ρ α μ s E V μ' R I F h;refine aD h λV0 μ1 e1 h=>ax h λi ei h=>ax h λxs0 e0 h=>aD h λV2 μ2 e2 h=>ax h λys ey h=>ax h λc ec h=>ax h λxs el h=>i6 h λhz h=>?_;rw [Ch ei] at e1
 have e4:=Kh ec el;refine cg h ?_;refine QU (D3 (hf.run A env O T ρ α μ s E _ _ R I F e1) (λv s1 p=>?_) λzz zz x=>x) (hm env);refine eC λGG kG=>?_;refine cm p λα1 I1 S1 r1=>?_;refine au r1 λa ha zq2=>?_;subst zq2;refine bq (bm.isList (V:=.c i) I1 (aZ a ha rfl) e0) λzz its1 e9 hp1 zz=>?_;cases e9;refine kG ?_;refine jW hp1 Qx.lookup PySem.F.type_list_extend ?_;have es1:de C n cx [e] [g]:=dz (by intro env;exact hs env) hg ae;refine OR (by rw [hs env];rfl) (ee (fs:=[g]) (hs env) es1 R I1 (F.step I S1) (zb e2) λvs s2 α2 I2 S2 r2=>?_);refine au (Qt rfl r2) λv zq r2=>?_;refine bH (ES zq) ?_;refine eC λGG kG=>?_;refine kR (aJ.of_list (Mf ey r2)) λb its2 zq2 zp3 rr2 hbM=>?_;subst zq2;obtain ⟨n2,hb⟩:=zp3;refine au S2.pre λδ hδ zz=>?_;have ha2:α2[i]? =some a:=by rw [hδ,EY (Bm.mp ha).1];exact ha
 refine au (I2.cells i a _ ha2 e4) λitems zp1 rr=>?_;obtain ⟨n1,hp⟩:=zp1;refine kG ?_;have hsz:items.size=xs.length:=by rw [←rr.length];simp
 have hsz2:its2.size=ys.length:=by rw [←rr2.length];simp
 refine UG Qx (aZ _ hp rfl) PySem.F.entry_list_extend (PySem.F.args_list_extend_2 _ _) (PySem.AutoSeq1.list_extend_list_list_0 a items n1 b its2 n2 ?_ (by lia) (by lia)) (fm hp hb ?_)
 ·simp only [Qj]
  simp
  intro _;lia
 ·have hnew:(s2.heap.update a (M0 λx=>x++its2)).PlainList a (items++its2):=⟨_,Fj _ hp rfl⟩
  obtain ⟨I4,S4⟩:=I2.setCell (c:=.live (xs++ys)) (h':=s2.heap.update a (M0 λx=>x++its2)) (tk:=s2.toks) ha2 e4 rfl rfl (λb o q e=>((KW ..).2 b q).trans e) (by refine bP hnew λk e=>?_;exact ⟨_,e⟩) λkd=>(aZ _ hnew (by
   rw [Pr];exact kd (rr.append rr2)))
  exact bI.trans (S1.trans S2) (cJ α2 I4 S4 (aJ.none _ _))
end
noncomputable def qp:List PyData→Option (List Int)
 | []=>some []
 |x::r=>bo (dI x) λi=>bo (qp r) λl=>some (i::l)
noncomputable def nI:List PyData→Option (List Str)
 | []=>some []
 |x::r=>bo (dS x) λi=>bo (nI r) λl=>some (i::l)
theorem uz:∀ {vs:List Value} {xs:List PyData} {ns:List Int},aw h M vs xs→qp xs=some ns→IntsAre vs ns
 | [],[],ns,_,e=>by refine cA e ?_;exact .nil
 | [],_::_,_,r,_=>by have:=r.length;simp at this
 |_::_,[],_,r,_=>by have:=r.length;simp at this
 |v::vs,x::xs,ns,r,e=>by
  refine ax e λi ei e=>ax e λl e2 e=>?_;refine cA e ?_;refine fY r.uncons λr1 r2=>?_;rw [TL ei] at r1
  refine bP (aJ.of_int r1) λt e3=>?_;refine bH (ES e3) ?_;exact .cons _ _ (uz r2 e2)
theorem C6:∀ {vs:List Value} {xs:List PyData} {ns:List Str},aw h M vs xs→nI xs=some ns→StrsAre vs ns
 | [],[],ns,_,e=>by refine cA e ?_;exact .nil
 | [],_::_,_,r,_=>by have:=r.length;simp at this
 |_::_,[],_,r,_=>by have:=r.length;simp at this
 |v::vs,x::xs,ns,r,e=>by
  refine ax e λi ei e=>ax e λl e2 e=>?_;refine cA e ?_;refine fY r.uncons λr1 r2=>?_;rw [YQ ei] at r1
  refine bP (aJ.of_str r1) λt e3=>?_;refine bH (ES e3) ?_;exact .cons _ _ (C6 r2 e2)
theorem yw(r:IntsAre vs ns):aw h M vs (ns.map .int):=by
 induction r with
 |nil=>exact aw.nil h M
 |cons i t r ih=>exact .cons (aJ.int ..) ih
theorem H4(r:eZ h α M vs [V]):∃v,vs=[v]∧bm h α M v V:=Qt rfl r
theorem VM{W:AV}(r:eZ h α M vs [V,W]):∃v w,vs=[v,w]∧bm h α M v V∧bm h α M w W:=vr2 rfl r
noncomputable def fg:a_:= λVs μ=>bp (l2 Vs) λU V=>bo (mn U) λx=>bo (da μ V) λxs=>bo (nI xs) λys=>if (ys.map (·.length)).sum+ys.length*x.length≤16777216 then some (.d (.str (Lo x ys)),μ) else none
theorem hU:eF C n (.builtin "str.join") fg:=by
 intro A T α μ s E vs Vs V μ' R I r h;refine aD h λU V1 eU h=>ax h λx ex h=>ax h λxs e1 h=>ax h λys e2 h=>i6 h λhz h=>?_;refine cg h ?_;refine bq (vr2 eU r) λv w zq2 r1 r2=>?_;refine bH (ES zq2) ?_;refine bP (j2 ex r1) λt zq1=>?_;refine bH (ES zq1) ?_;refine bq (r2.isList I e1) λa items zq2 hl rr=>?_;refine bH (ES zq2) ?_;exact PyProof.Rows.join_list hl.isList (C6 rr e2) hz λt' k=>bI.tok I (aJ.str ..)
noncomputable def oP:a_:= λVs μ=>bo (l1 Vs) λV=>bo (jI V) λi=>if (Se "0x" 16 i).length≤sizeLine then some (.d (.str (Se "0x" 16 i)),μ) else none
theorem tQ:eF C n (.builtin "hex") oP:=by
 intro A T α μ s E vs Vs V μ' R I r h;refine ax h λV1 e1 h=>ax h λi ei h=>i6 h λhz h=>?_;refine cg h ?_;refine au (Qt e1 r) λv zq1 r1=>?_;refine bH (ES zq1) ?_;refine bP (fJ ei r1) λt zq1=>?_;refine bH (ES zq1) ?_;exact PySem.P.hex_of_int (bI.tok I (aJ.str ..)) hz
noncomputable def gw:a_:= λVs μ=>bp (l2 Vs) λV W=>bo (VK W) λT=>oe (jI V) (some ()) (λzz zz=>if T="int" then some (.d (.bool true),μ) else if T="bool" then some (.d (.bool false),μ) else none)
 (oe (MJ V) (some ()) (λzz zz=>if T="int" then some (.d (.bool true),μ) else if T="bool" then some (.d (.bool true),μ) else none) none)
theorem sj:eF C n (.builtin "isinstance") gw:=by
 intro A T α μ s E vs Vs V μ' R I r h;refine aD h λV1 W eV h=>ax h λT' eT h=>?_;refine bq (vr2 eV r) λv w zq2 r1 r2=>?_;refine bH (ES zq2) ?_;refine bH (ES (Zf eT r2)) ?_;refine bV h (λi zz ei zz h=>?_) λh=>bV h (λi zz ei zz h=>?_) λh=>ct h
 ·refine bP (fJ ei r1) λt zq1=>?_
  refine bH (ES zq1) ?_;refine ifB h (λe h=>?_) λzz h=>i6 h λe h=>?_
  ·refine cg h ?_;refine bH (ES e) ?_
   exact PySem.IsiPair.int_int (bI.same I (aJ.bool ..))
  ·refine cg h ?_;refine bH (ES e) ?_
   exact PySem.IsiPair.int_bool (bI.tok I (aJ.bool ..))
 ·refine bH (ES (wa ei r1)) ?_
  refine ifB h (λe h=>?_) λzz h=>i6 h λe h=>?_
  ·refine cg h ?_;refine bH (ES e) ?_
   exact PySem.IsiPair.bool_int (bI.same I (aJ.bool ..))
  ·refine cg h ?_;refine bH (ES e) ?_
   exact PySem.IsiPair.bool_bool (bI.same I (aJ.bool ..))
noncomputable def cH:a_:= λVs μ=>oe (l1 Vs) (some ()) (λV zz=>bo (jI V) λb=>some (.rng 0 b,μ)) (bp (l2 Vs) λV W=>bo (jI V) λa=>bo (jI W) λb=>some (.rng a b,μ))
theorem dM:eF C n (.type "range") cH:=by
 intro A T α μ s E vs Vs V μ' R I r h;refine bV h (λV1 zz eV zz h=>ax h λb eb h=>?_) λh=>aD h λV1 W eV h=>ax h λa ea h=>ax h λb eb h=>?_
 ·refine cg h ?_
  refine au (Qt eV r) λv zq1 r1=>?_;refine bH (ES zq1) ?_;refine bP (fJ eb r1) λt zq1=>?_;refine bH (ES zq1) ?_;refine call_range_1 ?_;refine bI.of_keeps I (bb _ _) (rj _ _ _ _ rfl (V5 ..) (eD I (io _)))
 ·refine cg h ?_
  refine bq (vr2 eV r) λv w zq2 r1 r2=>?_;refine bH (ES zq2) ?_;refine bP (fJ ea r1) λt zq1=>?_;refine bH (ES zq1) ?_;refine bP (fJ eb r2) λu zq1=>?_;refine bH (ES zq1) ?_;refine call_range_2 ?_;refine bI.of_keeps I (bb _ _) (rj _ _ _ _ rfl (V5 ..) (eD I (io _)))
noncomputable def iV:List Int→List Int
 | []=>[]
 |x::r=>ins x (iV r)
where ins (x:Int):List Int→List Int
 | []=>[x]
 |y::r=>if x≤y then x::y::r else y::ins x r
theorem q9(x:Int):∀l,(iV.ins x l).Perm (x::l)
 | []=>.refl _
 |y::r=>by
  unfold iV.ins;split
  ·exact .refl _
  ·exact ((q9 x r).cons y).trans (.swap x y r)
theorem qI:∀l,(iV l).Perm l
 | []=>.refl _
 |x::r=>(q9 x _).trans ((qI r).cons x)
theorem qx(x:Int):∀l:List Int,l.Pairwise (· ≤ ·)→(iV.ins x l).Pairwise (· ≤ ·)
 | [],_=>by simp [iV.ins]
 |y::r,h=>by
  refine fY (Mu.mp h) λh1 h2=>?_;unfold iV.ins;split
  ·rename_i q
   refine Mu.mpr ⟨λz hz=>?_,h⟩
   rcases C1.mp hz with rfl|hz
   ·exact q
   ·exact Int.le_trans q (h1 z hz)
  ·rename_i q
   refine Mu.mpr ⟨λz hz=>?_,qx x r h2⟩
   rcases C1.mp ((q9 x r).mem_iff.mp hz) with rfl|hz
   ·lia
   ·exact h1 z hz
theorem me:∀l,(iV l).Pairwise (· ≤ ·)
 | []=>by simp [iV]
 |x::r=>qx x _ (me r)
theorem rS{a b:List Int}(h1:a.Pairwise (· ≤ ·))(h2:b.Pairwise (· ≤ ·))(p:a.Perm b):a=b:=by
 induction a generalizing b with
 |nil=>exact (List.nil_perm.mp p).symm
 |cons x r ih=>
  cases b with
  |nil=>exact absurd p.symm (by simp)
  |cons y t=>
   refine fY (Mu.mp h1) λa1 a2=>?_;refine fY (Mu.mp h2) λb1 b2=>?_;have hx:x∈y::t:=p.mem_iff.mp (FK ..);have hy:y∈x::r:=p.mem_iff.mpr (FK ..)
   have:x=y:=by
    rcases C1.mp hx with e|e
    ·exact e
    ·rcases C1.mp hy with e'|e'
     ·exact e'.symm
     ·exact Int.le_antisymm (a1 y e') (b1 x e)
   subst this;rw [ih a2 b2 (List.perm_cons x |>.mp p)]
noncomputable def k_:a_:= λVs μ=>bo (l1 Vs) λV=>bo (da μ V) λxs=>bo (qp xs) λns=>if xs.length<64 then some (.d (.list ((iV ns).map .int)),μ) else none
theorem Ew:eF C n (.builtin "sorted") k_:=by
 intro A T α μ s E vs Vs V μ' R I r h;refine ax h λV1 eV h=>ax h λxs e1 h=>ax h λns e2 h=>i6 h λhz h=>?_;refine cg h ?_;refine au (Qt eV r) λv zq1 r1=>?_;subst zq1;refine bq (r1.isList I e1) λa items zq2 hl rr=>?_;subst zq2;refine PyProof.Rows.sorted_ints (vs:=items.toList) (by simpa using hl.isList) (uz rr e2) (by rw [rr.length];exact hz) λout ns' hi hp hs=>?_;have e9:ns'=iV ns:=rS hs (me ns) (hp.trans (qI ns).symm);subst e9;refine bP (sortedAll_at s.heap items.toList out) λk hk=>?_;have keep:∀b o,s.heap.get? b=some o→(sortedAll s.heap items.toList out).get? b=some o:= λb o e=>sortedAll_old e;refine bI.of_keeps (tk:=s.toks) I keep (aJ.list (vs:=out) ⟨k,hk⟩ (yw hi) (eD I ?_));cases e:s.heap.get? (s.heap.objs.size+1) with
 |none=>rfl
 |some o=>exact absurd (M7 e) (Nat.not_lt.mpr (P1 _))
end Mine
namespace Mine
open PySem PySem.W PySem.Calls PyProof.Rows
variable {V V' : AV} {Cn D L TI TO a fa i1 i2 i3 z : Addr} {A : Around} {items zs : Array Value} {sh tup : Bool} {c c' : ah} {C : gK} {cx : Cx} {f fi fo g : EF} {cenv env : Env} {mean : ExcName → Option Value} {e e1 e2 elt iter target test : Expr} {h h' : Heap} {y : Int} {Vs : List AV} {M M' O T T' W wr α α' α1 α₀ : List Addr} {Mid : List Addr → List Addr → List Addr → List ah → Nat → Value → Shared → Prop} {μ μ' μ'' μ1 μ2 μ3 μ₀ : List ah} {fs : List EF} {es : List Expr} {K cs ns os rest : List Int} {gi ls m ps : List Nat} {X acc acc' ds xs ys : List PyData} {body orelse : List Stmt} {vs : List Value} {ρ ρ' ρ1 ρ2 : d0} {tf : d0 → PyData → Option d0} {b i j ja jt k kk low mask n p q tk : Nat} {o : Obj} {op : Operator} {ha ke td te tx : Option AV} {hi lo : Option Expr} {gg : Option Nat} {apos pos px py sp tp xp : Pos} {prog : Program} {G : Prop} {d : PyData} {sc scope : Scope} {s s' s'' s1 s₀ : Shared} {spec : a_} {st : Stmt} {name x : Str} {t : TF} {u : Tok} {cd cls doc fv it pm v : Value} {E Q : Value → Shared → Prop} {w : World}
structure aG (wr:List Addr) (gi:List Nat) (s s':Shared):Prop where
 heap:∀b o,b∉wr→s.heap.get? b=some o→s'.heap.get? b=some o
 gens:∀ (i:Nat) (x:GenState),i∉gi→s.gens[i]? =some x→s'.gens[i]? =some x
 os:s'.os=s.os
 bare:AllBare s.gens→AllBare s'.gens
theorem aG.refl(wr:List Addr)(gi:List Nat)(s:Shared):aG wr gi s s:=⟨λzz zz zz e=>e,λzz zz zz e=>e,rfl,λh=>h⟩
theorem aG.trans(x:aG wr gi s s')(y:aG wr gi s' s''):aG wr gi s s'':=
 ⟨λb o hb e=>y.heap b o hb (x.heap b o hb e),λi z hi e=>y.gens i z hi (x.gens i z hi e),y.os.trans x.os,λh=>y.bare (x.bare h)⟩
theorem aG.of_heap(hk:∀b o,b∉wr→s.heap.get? b=some o→h'.get? b=some o):aG wr gi s {s with heap:=h',toks:=tk}:=
 ⟨hk,λzz zz zz e=>e,rfl,λh=>h⟩
theorem aG.ext(x:aG wr gi s s'):fZ wr s.heap s'.heap:= λb o e hb=>x.heap b o (λq=>hb q) e
theorem iR(hw:∀b∈W,b∈T):iH W T h:= λa ha=>.inr (.inr (hw a ha))
theorem nX{N:List Addr}(k:iH W T h):iH W (T++N) h:= λa ha=>(k a ha).imp id (Or.imp id (yg _))
theorem bl.moves'(I:bl C T α μ s)(x:aG wr gi s s')(hw:∀b∈wr,b∈T)(hT:∀a∈T',a∈T)(hd:∀a∈T',∃o,s'.heap.get? a=some o):bl C T' α μ s':=
 I.ext x.ext (λa ha=>I.tnew a (hw a ha)) (iR hw) (λa ha q=>I.apart a (hw a q) ha) hT hd rfl (x.bare I.gens) x.os
theorem bl.moves(I:bl C T α μ s)(x:aG wr gi s s')(hw:∀b∈wr,b∈T)(hd:∀a∈wr,∃o,s'.heap.get? a=some o):bl C T α μ s':=
 I.moves' x hw (λzz h=>h) λa ha=>by
  by_cases q:a∈wr
  ·exact hd a q
  ·refine bP (I.tdom a ha) λo e=>?_
   exact ⟨o,x.heap a o q e⟩
theorem aJ.moves(r:aJ s.heap (T++ai α μ) v d)(x:aG wr gi s s')(hw:∀b∈wr,b∈T):aJ s'.heap (T++ai α μ) v d:=r.ext x.ext (nX (iR hw)) λzz=>.inl
theorem aw.moves{v:List Value}{d:List PyData}(r:aw s.heap (T++ai α μ) v d)(x:aG wr gi s s')(hw:∀b∈wr,b∈T):aw s'.heap (T++ai α μ) v d:=r.ext x.ext (nX (iR hw)) λzz=>.inl
theorem bm.moves(r:bm s.heap α (T++ai α μ) v V)(x:aG wr gi s s')(hw:∀b∈wr,b∈T):bm s'.heap α (T++ai α μ) v V:=r.ext x.ext (nX (iR hw)) (λzz zz=>id) λzz=>.inl
theorem aV.moves(x:aV O α μ s₀ α' μ' s)(y:aG wr gi s s')(hw:∀b∈wr,s₀.heap.get? b=none)(hg:∀i∈gi,s₀.gens[i]? =none):aV O α μ s₀ α' μ' s':=
 ⟨x.pre,λb o e hb=>y.heap b o (λq=>by rw [hw b q] at e;exact ct e) (x.ext b o e hb),x.mts,λa o e=>let ⟨o',e'⟩:=x.dom a o e;⟨o',y.heap a o' (λq=>by rw [hw a q] at e;exact ct e) e'⟩,λi z e=>y.gens i z (λq=>by rw [hg i q] at e;exact ct e) (x.gens i z e)⟩
def cu(g:Option Nat)(xs:List PyData)(μ:List ah):Prop:=∀j,g=some j→da μ (.c j)=some xs
def fk(tup:Bool)(h:Heap)(M:List Addr)(v:Value)(x:PyData):Prop:=match tup with
 |true=>∃a items ds,v=.ref a∧x=.tuple ds∧h.IsTuple a items∧aw h M items.toList ds
 |false=>aJ h M v x
def Jf(tup:Bool)(t:Expr):Prop:=match tup with
 |true=>∃elts k pos,t=.Tuple elts k pos
 |false=>∃x pos,t=.Name x pos
noncomputable abbrev xH:=List Addr→List Addr→List ah→Nat→Shared→Prop
structure lf (C:gK) (it:Value) (wr:List Addr) (gi:List Nat) (xs:List PyData) (g:Option Nat) (tup:Bool) (St:xH) (Mid:List Addr→List Addr→List ah→Nat→Value→Shared→Prop):Prop where
 frame:∀ {O T T' α α':List Addr} {μ μ':List ah} {i:Nat} {s s':Shared},St T α μ i s→aV O α μ s α' μ' s'→iH O T s.heap→(∀a∈O,a∉wr)→(∀a∈T',a∈T∨s.heap.get? a=none)→(∀b∈wr,b∈T)→bl C T α μ s→bl C T' α' μ' s'→cu g xs μ'→St T' α' μ' i s'
 item:∀ {A:Around} {T α:List Addr} {μ:List ah} {i:Nat} {x:PyData} {s:Shared} {Q:Option Value→Shared→Prop} {E:Value→Shared→Prop},cP A 2→bl C T α μ s→(∀b∈wr,b∈T)→St T α μ i s→xs[i]? =some x→
  (∀v s',aG wr gi s s'→bl C T α μ s'→fk tup s'.heap (T++ai α μ) v x→Mid T α μ i v s'→Q (some v) s')→wpAny (model C.prog C.w) A (pyNext it) Q E s
 go:∀ {A:Around} {T α:List Addr} {μ:List ah} {i:Nat} {x:PyData} {v:Value} {t:Expr} {s:Shared} {Q:Unit→Shared→Prop} {E:Value→Shared→Prop},bl C T α μ s→(∀b∈wr,b∈T)→Mid T α μ i v s→Jf tup t→fk tup s.heap (T++ai α μ) v x→
  (∀s',aG wr gi s s'→bl C T α μ s'→fk tup s'.heap (T++ai α μ) v x→St T α μ (i+1) s'→Q () s')→wpAny (model C.prog C.w) A (letOwnedTupleGo t it v) Q E s
 done:∀ {A:Around} {T α:List Addr} {μ:List ah} {i:Nat} {s:Shared} {Q:Option Value→Shared→Prop} {E:Value→Shared→Prop},cP A 2→bl C T α μ s→(∀b∈wr,b∈T)→St T α μ i s→xs[i]? =none→
  (∀s',aG wr gi s s'→(∀T',(∀a∈T',a∈T∧a∉wr)→bl C T' α μ s')→Q none s')→wpAny (model C.prog C.w) A (pyNext it) Q E s
 self:∀ {A:Around} {T α:List Addr} {μ:List ah} {i:Nat} {s:Shared} {Q:Value→Shared→Prop} {E:Value→Shared→Prop},St T α μ i s→Q it s→wpAny (model C.prog C.w) A (pyIter it) Q E s
structure gY (C:gK) (it:Value) (gi:List Nat) (xs:List PyData) (g:Option Nat) (tup:Bool) (St:List Addr→xH) (Mid:List Addr→List Addr→List Addr→List ah→Nat→Value→Shared→Prop):Prop where
 frame:∀ {wr O T T' α α':List Addr} {μ μ':List ah} {i:Nat} {s s':Shared},St wr T α μ i s→aV O α μ s α' μ' s'→iH O T s.heap→(∀a∈O,a∉wr)→(∀a∈T',a∈T∨s.heap.get? a=none)→(∀b∈wr,b∈T)→bl C T α μ s→bl C T' α' μ' s'→cu g xs μ'→St wr T' α' μ' i s'
 item:∀ {A:Around} {wr T α:List Addr} {μ:List ah} {i:Nat} {x:PyData} {s:Shared} {Q:Option Value→Shared→Prop} {E:Value→Shared→Prop},cP A 2→bl C (wr++T) α μ s→St wr (wr++T) α μ i s→xs[i]? =some x→
  (∀v s' wr',aG wr gi s s'→(∀b∈wr',b∈wr∨s.heap.get? b=none)→bl C (wr'++T) α μ s'→fk tup s'.heap ((wr'++T)++ai α μ) v x→Mid wr' (wr'++T) α μ i v s'→Q (some v) s')→wpAny (model C.prog C.w) A (pyNext it) Q E s
 go:∀ {A:Around} {wr T α:List Addr} {μ:List ah} {i:Nat} {x:PyData} {v:Value} {t:Expr} {s:Shared} {Q:Unit→Shared→Prop} {E:Value→Shared→Prop},bl C (wr++T) α μ s→Mid wr (wr++T) α μ i v s→Jf tup t→fk tup s.heap ((wr++T)++ai α μ) v x→
  (∀s',aG wr gi s s'→bl C (wr++T) α μ s'→fk tup s'.heap ((wr++T)++ai α μ) v x→St wr (wr++T) α μ (i+1) s'→Q () s')→wpAny (model C.prog C.w) A (letOwnedTupleGo t it v) Q E s
 done:∀ {A:Around} {wr T α:List Addr} {μ:List ah} {i:Nat} {s:Shared} {Q:Option Value→Shared→Prop} {E:Value→Shared→Prop},cP A 2→bl C (wr++T) α μ s→St wr (wr++T) α μ i s→xs[i]? =none→
  (∀s',aG wr gi s s'→(∀T',(∀a∈T',a∈wr++T∧a∉wr)→bl C T' α μ s')→Q none s')→wpAny (model C.prog C.w) A (pyNext it) Q E s
 self:∀ {A:Around} {wr T α:List Addr} {μ:List ah} {i:Nat} {s:Shared} {Q:Value→Shared→Prop} {E:Value→Shared→Prop},St wr T α μ i s→Q it s→wpAny (model C.prog C.w) A (pyIter it) Q E s
noncomputable def StW(w0:List Addr)(St:xH):List Addr→xH:= λwr T α μ i s=>wr=w0∧St T α μ i s
noncomputable def Yd(w0:List Addr)(Mid:List Addr→List Addr→List ah→Nat→Value→Shared→Prop):List Addr→List Addr→List Addr→List ah→Nat→Value→Shared→Prop:= λwr T α μ i v s=>wr=w0∧Mid T α μ i v s
theorem lf.walk{g:Option Nat}{St:xH}{Mid:List Addr→List Addr→List ah→Nat→Value→Shared→Prop}(W:lf C it wr gi xs g tup St Mid):gY C it gi xs g tup (StW wr St) (Yd wr Mid) where
 frame:=by
  intro wr' O T T' α α' μ μ' i s s' zi0 S h1 h2 h3 h4 I I' hg;refine fY zi0 λzq0 st=>?_;subst zq0;exact ⟨rfl,W.frame st S h1 h2 h3 h4 I I' hg⟩
 item:=by
  intro A wr' T α μ i x s Q E R I zi1 e k;refine fY zi1 λzq0 st=>?_;subst zq0;exact W.item R I (λb hb=>yg _ hb) st e λv s' mv I' ir md=>k v s' wr' mv (λb hb=>.inl hb) I' ir ⟨rfl,md⟩
 go:=by
  intro A wr' T α μ i x v t s Q E I zi2 tg ir k;refine fY zi2 λzq0 md=>?_;subst zq0;exact W.go I (λb hb=>yg _ hb) md tg ir λs' mv I' ir' st=>k s' mv I' ir' ⟨rfl,st⟩
 done:=by
  intro A wr' T α μ i s Q E R I zi3 e k;refine fY zi3 λzq0 st=>?_;subst zq0;exact W.done R I (λb hb=>yg _ hb) st e λs' mv h=>k s' mv h
 self:=by
  intro A wr' T α μ i s Q E zi4 h;refine fY zi4 λzq0 st=>?_;subst zq0;exact W.self st h
variable {St : List Addr → xH}
theorem in1{X:Type}{a:X}{l:List X}:a∈a::l:=FK ..
theorem Nh{X:Type}{a b:X}{l:List X}:b∈a::b::l:=D2 _ in1
theorem yY{X:Type}{a b c:X}{l:List X}:c∈a::b::c::l:=D2 _ Nh
theorem AJ{X:Type}{a b c d:X}{l:List X}:d∈a::b::c::d::l:=D2 _ yY
theorem Kz{X:Type}{a b c d e:X}{l:List X}:e∈a::b::c::d::e::l:=D2 _ AJ
theorem in6{X:Type}{a b c d e f:X}{l:List X}:f∈a::b::c::d::e::f::l:=D2 _ Kz
theorem Ak{X:Type}{x a:X}{l:List X}(h:x∈a::l)(k:x=a→G)(k':x∈l→G):G:=(C1.mp h).elim k k'
theorem EH{b c d e x:Addr}{P:Addr→Prop}(ha:P a)(hb:P b)(hc:P c)(hd:P d)(he:P e)(h:x∈[a,b,c,d,e]):P x:=
 Ak h (λq=>q▸ha) λh=>Ak h (λq=>q▸hb) λh=>Ak h (λq=>q▸hc) λh=>Ak h (λq=>q▸hd) λh=>Ab.mp h▸he
theorem TR{b c d e f x:Addr}{P:Addr→Prop}(ha:P a)(hb:P b)(hc:P c)(hd:P d)(he:P e)(hf:P f)(h:x∈[a,b,c,d,e,f]):P x:=Ak h (λq=>q▸ha) (EH hb hc hd he hf)
theorem jA(I0:bl C T α μ s)(S:aV O α μ s α' μ' s')(hwr:∀a∈O,a∉wr)(hwT:∀b∈wr,b∈T){b:Addr}(hb:b∈wr)(o:Obj)(e:s.heap.get? b=some o):s'.heap.get? b=some o:=
 S.ext _ _ e λq=>(AZ.mp q).elim (λq=>hwr b q hb) λq=>I0.apart b (hwT b hb) (db q)
theorem fH{vs:Array Value}(r:aw h M vs.toList xs)(e:xs[i]? =none):vs[i]? =none:=by
 rw [←KY,GB,r.length];exact GB.mp e
theorem j7{vs:Array Value}(r:aw h M vs.toList xs){x:PyData}(e:xs[i]? =some x):∃v,vs[i]? =some v∧aJ h M v x:=
 au (r.get e) λv e1 e2=>aZ v (KY.symm.trans e1) e2
theorem bl.done(I:bl C T α μ s)(mv:aG wr gi s s')(hw:∀b∈wr,b∈T)(h:∀a∈T',a∈T∧a∉wr):bl C T' α μ s':=
 I.moves' mv hw (λa ha=>(h a ha).1) λa ha=>(I.tdom a (h a ha).1).imp λo e=>mv.heap a o (h a ha).2 e
noncomputable def EZ:AV→Option Nat
 | .c j=>some j
 |_=>none
theorem yv(h:da μ V=some xs)(g:cu (EZ V) xs μ'):da μ' V=some xs:=by
 cases V with
 |d x=>cases x<;>first|exact h|cases h
 |c j=>exact g j rfl
 |rng a b=>exact ct h
 |ty T=>exact ct h
theorem bv{I l:Addr}(x:h.IsListIter I l i)(e:∀o,h.get? I=some o→h'.get? I=some o):h'.IsListIter I l i:=let ⟨o,ho,r⟩:=x;⟨o,e o ho,r⟩
noncomputable def nE(xs:List PyData):Bool:=xs.all λ| .tuple _=>true|_=>false
theorem Ae(h:nE xs=true){x:PyData}(e:xs[i]? =some x):∃ds,x=.tuple ds:=by
 have:=Bi.mp h x (FM e)
 cases x<;>first|exact ⟨_,rfl⟩|exact (G_ this).elim
theorem re{A:Type}{f:A→PyData}{l:List A}(h:∀a,∃ds,f a=.tuple ds):nE (l.map f)=true:=
 Bi.mpr λx hx=>au (DT.mp hx) λa zz e=>bP (h a) λds q=>by rw [←e,q]
theorem zZ{x:PyData}(r:aJ h M v x)(ht:tup=true→∃ds,x=.tuple ds):fk tup h M v x:=by
 cases tup with
 |false=>exact r
 |true=>
  refine bP (ht rfl) λds zq1=>?_;subst zq1;refine bq r.of_tuple λa items zq2 p rr=>?_;subst zq2;exact (dy a items ds rfl rfl p rr)
theorem fk.moves{x:PyData}(r:fk tup s.heap (T++ai α μ) v x)(y:aG wr gi s s')(hw:∀b∈wr,b∈T)(hv:tup=true→∀a,v=.ref a→∀o,s.heap.get? a=some o→s'.heap.get? a=some o):fk tup s'.heap (T++ai α μ) v x:=by
 cases tup with
 |false=>exact aJ.moves (d:=x) r y hw
 |true=>
  refine dj r λa items ds zq3 zq4 zp5 rr=>?_;subst zq3;subst zq4;obtain ⟨o,e,q⟩:=zp5;exact (dy a items ds rfl rfl ⟨o,hv rfl a rfl o e,q⟩ (rr.moves y hw))
section
variable {I l:Addr}
noncomputable def Kg(I l:Addr)(V:AV)(xs:List PyData):xH:= λT α μ i s=>s.heap.IsListIter I l i∧bm s.heap α (T++ai α μ) (.ref l) V∧da μ V=some xs
theorem gY.list(hne:l≠I)(ht:tup=true→nE xs=true):lf C (.ref I) [I] [] xs (EZ V) tup (Kg I l V xs) (λT α μ i v s=>Kg I l V xs T α μ (i+1) s) where
 frame:=by
  intro O T T' α α' μ μ' i s s' st S hO hwr hT hwT I0 I1 hg;exact dU st λh1 h2 h3=>⟨bv h1 (jA I0 S hwr hwT in1),h2.stepO S hO hT,yv h3 hg⟩
 item:=by
  intro A T α μ i x s Q E R Iv hw st e k;refine dU st λh1 h2 h3=>?_;refine bq (h2.isList Iv h3) λa items e1 hp rr=>?_;cases e1;refine au (rr.get e) λv e2 r=>?_;refine Ri h1 hp.isList (x:=v) (KY.symm.trans e2) λh' hit' hs'=>?_;have mv:aG [I] [] s {s with heap:=h'}:=aG.of_heap (tk:=s.toks) (λb o hb e=>(hs'.2 b λq=>hb (q▸in1)).trans e);have J:=Iv.moves mv hw λb hb=>Ab.mp hb▸au hit' λo e zz=>⟨o,e⟩;exact k v _ mv J (zZ (r.moves mv hw) λq=>Ae (ht q) e) ⟨hit',h2.moves mv hw,h3⟩
 go:=by
  intro A T α μ i x v t s Q E Iv hw md tg ir k;cases tup with
  |false=>
   refine lC tg λx pos zq2=>?_;subst zq2;exact Ez (k s (aG.refl _ _ _) Iv ir md)
  |true=>
   refine jE tg λelts kk pos zq3=>?_;subst zq3;refine dj ir λa items ds zq3 zq4 p rr=>?_;subst zq3;subst zq4;exact wpAny_letOwnedTupleGo_listiter md.1 (k s (aG.refl _ _ _) Iv ⟨a,items,ds,rfl,rfl,p,rr⟩ md)
 done:=by
  intro A T α μ i s Q E R Iv hw st e k;refine dU st λh1 h2 h3=>bq (h2.isList Iv h3) λa items e1 hp rr=>?_;cases e1;refine Pv R.handled h1 hp.isList (fH rr e) λh' he'=>?_;have mv:aG [I] [] s {s with heap:=h'}:=aG.of_heap (tk:=s.toks) (λb o hb e=>he' b o (λq=>hb (q▸in1)) e);exact k _ mv λT' hT'=>Iv.done mv hw hT'
 self:=by
  intro A T α μ i s Q E st h;exact wpAny_pyIter_listiter st.1 h
end
theorem uU{I l:Addr}(x:h.IsTupleIter I l i)(e:∀o,h.get? I=some o→h'.get? I=some o):h'.IsTupleIter I l i:=let ⟨o,ho,r⟩:=x;⟨o,e o ho,r⟩
section
variable {I l:Addr}
noncomputable def RS(I l:Addr)(items:Array Value)(xs:List PyData):xH:= λT α μ i s=>s.heap.IsTupleIter I l i∧s.heap.IsTuple l items∧aw s.heap (T++ai α μ) items.toList xs∧l∉T++ai α μ
theorem gY.tuple(hne:l≠I):lf C (.ref I) [I] [] xs none false (RS I l items xs) (λT α μ i v s=>RS I l items xs T α μ (i+1) s) where
 frame:=by
  intro O T T' α α' μ μ' i s s' st S hO hwr hT hwT I0 I1 hg;exact mA st λh1 h2 h3 h4=>⟨uU h1 (jA I0 S hwr hwT in1),jX h2 S.ext λq=>h4 (hO.app.seq _ q (h_ h2)),h3.stepO S hO hT,λq=>(S.hm hT l q).elim h4 (fO (h_ h2))⟩
 item:=by
  intro A T α μ i x s Q E R Iv hw st e k;refine mA st λh1 h2 h3 h4=>au (h3.get e) λv e2 r=>?_;refine wpAny_pyNext_tuple_item h1 h2 (x:=v) (KY.symm.trans e2) λh' hit' hs'=>?_;have mv:aG [I] [] s {s with heap:=h'}:=aG.of_heap (tk:=s.toks) (λb o hb e=>(hs'.2 b λq=>hb (q▸in1)).trans e);have J:=Iv.moves mv hw λb hb=>Ab.mp hb▸au hit' λo e zz=>⟨o,e⟩;exact k v _ mv J (r.moves mv hw) ⟨hit',h2.extBut hs'.extBut hne,h3.moves mv hw,h4⟩
 go:=by
  intro A T α μ i x v t s Q E Iv hw md tg ir k;refine lC tg λx pos zq2=>?_;subst zq2;exact Ez (k s (aG.refl _ _ _) Iv ir md)
 done:=by
  intro A T α μ i s Q E R Iv hw st e k;refine mA st λh1 h2 h3 h4=>wpAny_pyNext_tuple_end R.handled h1 h2 (fH h3 e) λh' he'=>?_;have mv:aG [I] [] s {s with heap:=h'}:=aG.of_heap (tk:=s.toks) (λb o hb e=>he' b o (λq=>hb (q▸in1)) e);exact k _ mv λT' hT'=>Iv.done mv hw hT'
 self:=by
  intro A T α μ i s Q E st h;exact wpAny_pyIter_tupleiter st.1 h
end
noncomputable def fI(a:Int):Nat→List PyData
 |0=>[]
 |n+1=>.int a::fI (a+1) n
theorem wM(a:Int):∀n,(fI a n).length=n
 |0=>rfl
 |n+1=>by simp [fI,wM (a+1) n]
theorem w4:∀ (a:Int) (n i:Nat) (x:PyData),(fI a n)[i]? =some x→x=.int (a+i)∧i<n
 |_,0,_,_,h=>by simp [fI] at h
 |a,n+1,0,x,h=>by simp [fI] at h;simp [←h]
 |a,n+1,i+1,x,h=>by
  simp only [fI,Oi] at h
  refine fY (w4 (a+1) n i x h) λe q=>?_;refine ⟨?_,by lia⟩;rw [e];congr 1;push_cast;lia
section
variable {I:Addr}
noncomputable def R6(I:Addr)(a:Int)(n:Nat):xH:= λzz zz zz i s=>IsRangeIter s.heap I (a+(i:Nat)*1) ((n:Int)-(i:Nat)) 1
theorem gY.range{a:Int}:lf C (.ref I) [I] [] (fI a n) none false (R6 I a n) (λT α μ i v s=>R6 I a n T α μ (i+1) s) where
 frame:=by
  intro O T T' α α' μ μ' i s s' h1 S hO hwr hT hwT I0 I1 hg;exact jA I0 S hwr hwT in1 _ h1
 item:=by
  intro A T α μ i x s Q E R Iv hw h1 e k;refine fY (w4 _ _ _ _ e) λzq0 hi=>?_;subst zq0;refine (Walks.range (prog:=C.prog) (w:=C.w) R.handled I a 1 n).item i s Q E hi h1 λv h' tk hv hst hk=>?_;have mv:aG [I] [] s {s with heap:=h',toks:=tk}:=aG.of_heap hk;have J:=Iv.moves mv hw λb hb=>Ab.mp hb▸⟨_,hst⟩;refine bP hv λt zq1=>?_;subst zq1;rw [show a+(i:Int)*1=a+i by lia];exact k _ _ mv J (aJ.int ..) hst
 go:=by
  intro A T α μ i x v t s Q E Iv hw md tg ir k;refine lC tg λx pos zq2=>?_;subst zq2;exact Ez (k s (aG.refl _ _ _) Iv ir md)
 done:=by
  intro A T α μ i s Q E R Iv hw h1 e k;rw [GB,wM] at e
  refine wpAny_pyNext_range_end R.handled h1 (by lia) λh' he'=>?_;have mv:aG [I] [] s {s with heap:=h'}:=aG.of_heap (tk:=s.toks) (λb o hb e=>he' b o (λq=>hb (q▸in1)) e);exact k _ mv λT' hT'=>Iv.done mv hw hT'
 self:=by
  intro A T α μ i s Q E h1 h;exact wpAny_pyIter_rangeiter h1 h
end
noncomputable def cL:Nat→List PyData→List PyData
 |_,[]=>[]
 |k,x::r=>.tuple [.int k,x]::cL (k+1) r
theorem n8:∀ (k:Nat) (xs:List PyData) (i:Nat),(cL k xs)[i]? =(xs[i]?).map λx=>.tuple [.int (k+i),x]
 |_,[],_=>by simp [cL]
 |k,x::r,0=>by simp [cL]
 |k,x::r,i+1=>by
  simp only [cL,Oi,n8 (k+1) r i]
  congr 1;funext x;congr 3;push_cast;lia
section
variable {e it l:Addr}
noncomputable def Tm(e it l:Addr)(xs:List PyData):xH:= λT α μ i s=>(∃old,IsEnum s.heap e it i old)∧s.heap.IsListIter it l i∧bm s.heap α (T++ai α μ) (.ref l) (.d (.list xs))
noncomputable def NC(e it l:Addr)(xs:List PyData):List Addr→List Addr→List ah→Nat→Value→Shared→Prop:= λT α μ i v s=>∃a,v=.ref a∧(∃x,IsEnumOut s.heap e it ((i:Int)+1) x a)∧s.heap.IsListIter it l (i+1)∧bm s.heap α (T++ai α μ) (.ref l) (.d (.list xs))∧a≠e∧a≠it
theorem gY.enum(hei:e≠it)(hle:l≠e)(hli:l≠it):lf C (.ref e) [e,it] [] (cL 0 xs) none true (Tm e it l xs) (NC e it l xs) where
 frame:=by
  intro O T T' α α' μ μ' i s s' st S hO hwr hT hwT I0 I1 hg;exact dU st λh0 h1 h2=>⟨bP h0 λold h0=>⟨old,jA I0 S hwr hwT in1 _ h0⟩,bv h1 (jA I0 S hwr hwT Nh),h2.stepO S hO hT⟩
 item:=by
  intro A T α μ i x s Q E R Iv hw st ex k;refine dU st λh0 h1 h2=>?_;refine bq (h2.isList Iv rfl) λa items e1 hp rr=>?_;cases e1;rw [n8,HU] at ex
  refine au ex λy ey zq2=>?_;subst zq2;refine au (rr.get ey) λv ev r=>?_;have ev':items[i]? =some v:=KY.symm.trans ev;refine (WalksT.enumerate (prog:=C.prog) (w:=C.w) R.handled e it l hei hle hli items).item i s Q E (LC.mp ev').1 ⟨h0,h1,hp.isList⟩ λa' vals h' tk hP hsz hT' hM hk=>?_;have mv:aG [e,it] [] s {s with heap:=h',toks:=tk}:=aG.of_heap hk;refine ij hM λm0 m1 m2 m3 m4=>?_;have J:=Iv.moves mv hw λb hb=>Ak hb (λq=>q▸bP m0 λzz z=>⟨_,z⟩) λhb=>Ab.mp hb▸au m1 λo z zz=>⟨o,z⟩;refine jV hP λt x1 e2 zq3=>?_;subst zq3;rw [ev'] at e2;cases e2
  refine k _ _ mv J ⟨a',_,_,rfl,rfl,hT',?_⟩ ⟨a',rfl,m0,m1,h2.moves mv hw,m3,m4⟩;simp only [Int.natCast_zero,Int.zero_add];exact .cons (aJ.int ..) (.cons (r.moves mv hw) (aw.nil _ _))
 go:=by
  intro A T α μ i x v t s Q E Iv hw st tg ir k;refine Ju st λa hv m0 m1 m2 m4 m5=>bP m0 λx0 m0=>?_;subst hv;refine jE tg λelts kk pos zq3=>?_;subst zq3;refine PQ m0 λh' he' hs'=>?_;have mv:aG [e,it] [] s {s with heap:=h'}:=aG.of_heap (tk:=s.toks) (λb o hb z=>(hs'.2 b λq=>hb (q▸in1)).trans z);have hit':h'.IsListIter it l (i+1):=bv m1 λo z=>(hs'.2 it hei.symm).trans z;have J:=Iv.moves mv hw λb hb=>Ak hb (λq=>q▸⟨_,he'⟩) λhb=>Ab.mp hb▸au hit' λo z zz=>⟨o,z⟩;refine k _ mv J (ir.moves mv hw λzz a2 q o z=>?_) ⟨⟨x0,by simpa using he'⟩,hit',m2.moves mv hw⟩;cases q;exact (hs'.2 a m4).trans z
 done:=by
  intro A T α μ i s Q E R Iv hw st ex k;refine dU st λh0 h1 h2=>bP h0 λold h0=>bq (h2.isList Iv rfl) λa items e1 hp rr=>?_;cases e1;rw [n8,Option.map_eq_none_iff] at ex
  refine wpAny_pyNext_enum_end R.handled h0 h1 hp.isList (fH rr ex) λh' hx=>?_;have mv:aG [e,it] [] s {s with heap:=h'}:=aG.of_heap (tk:=s.toks) (λb o hb z=>hx b o (λq=>hb (q▸Nh)) z);exact k _ mv λT' hT'=>Iv.done mv hw hT'
 self:=by
  intro A T α μ i s Q E st h;exact bP st.1 λold h0=>Qz h0 h
end
noncomputable def mM(xs ys:List PyData):List PyData:=Rx (λx y=>.tuple [x,y]) xs ys
theorem vY{x:PyData}(e:(mM xs ys)[i]? =some x)(k:∀x1 x2,xs[i]? =some x1→ys[i]? =some x2→x=.tuple [x1,x2]→G):G:=
 bq (Mi.mp e) λx1 x2 e1 e2 e3=>k x1 x2 e1 e2 e3.symm
theorem uI{X Y Z:Type}{f:X→Y→Z}{xs:List X}{ys:List Y}(e:(Rx f xs ys)[i]? =none):xs[i]? =none∨ys[i]? =none:=by
 rw [GB,Sr] at e
 rw [GB,GB];exact (Nat.le_total xs.length ys.length).imp (λh=>by rw [Rz h] at e;exact e) λh=>by rw [Nat.min_eq_right h] at e;exact e
noncomputable def vb(xs ys zs:List PyData):List PyData:=Rx (λx p=>.tuple [x,p.1,p.2]) xs (Rx Prod.mk ys zs)
theorem Ha{zs:List PyData}{x:PyData}(e:(vb xs ys zs)[i]? =some x)(k:∀x1 x2 x3,xs[i]? =some x1→ys[i]? =some x2→zs[i]? =some x3→x=.tuple [x1,x2,x3]→G):G:=
 bq (Mi.mp e) λx1 p e1 e2 e3=>bq (Mi.mp e2) λx2 x3 f2 f3 f4=>k x1 x2 x3 e1 f2 f3 (by rw [←e3,←f4])
section
variable {l1 l2:Addr}
noncomputable def Jo(z TI TO i1 i2 l1 l2:Addr)(f0:Value)(xs ys:List PyData):xH:= λT α μ i s=>(IsZip s.heap z TI TO f0∧IsPair s.heap TI (.ref i1) (.ref i2)∧∃a b,IsPair s.heap TO a b)∧s.heap.IsListIter i1 l1 i∧s.heap.IsListIter i2 l2 i∧bm s.heap α (T++ai α μ) (.ref l1) (.d (.list xs))∧bm s.heap α (T++ai α μ) (.ref l2) (.d (.list ys))
theorem gY.zip2(D:ZipApart z TI TO i1 i2 l1 l2)(hTIl:TI≠l1∧TI≠l2):lf C (.ref z) [z,TI,TO,i1,i2] [] (mM xs ys) none true (Jo z TI TO i1 i2 l1 l2 .none xs ys)
  (λT α μ i v s=>∃a,v=.ref a∧Jo z TI TO i1 i2 l1 l2 (rawInt a) xs ys T α μ (i+1) s∧a∉[z,TI,TO,i1,i2]) where
 frame:=by
  intro O T T' α α' μ μ' i s s' st S hO hwr hT hwT I0 I1 hg;refine ij st λz0 h3 h4 h5 h6=>ug z0 λh0 h1 a b h2=>?_;have kp:= λ{b}=>jA I0 S hwr hwT (b:=b);exact ⟨⟨kp in1 _ h0,kp Nh _ h1,a,b,kp yY _ h2⟩,bv h3 (kp AJ),bv h4 (kp Kz),h5.stepO S hO hT,h6.stepO S hO hT⟩
 item:=by
  intro A T α μ i x s Q E R Iv hw st ex k;refine ij st λz0 h3 h4 h5 h6=>ug z0 λh0 h1 a0 b0 h2=>?_;refine bq (h5.isList Iv rfl) λzz its1 e1 hp1 rr1=>bq (h6.isList Iv rfl) λzz its2 e2 hp2 rr2=>?_;cases e1;cases e2;refine vY ex λx1 x2 ex1 ex2 zx=>au (j7 rr1 ex1) λv1 ev1 r1=>au (j7 rr2 ex2) λv2 ev2 r2=>?_;subst zx;refine wpAny_pyNext_zip_item D h0 h1 h2 h3 h4 hp1.isList hp2.isList ev1 ev2 λh' a1 a2 a3 a4 a5 a6 a7=>?_;have mv:aG [z,TI,TO,i1,i2] [] s {s with heap:=h'}:=aG.of_heap (tk:=s.toks) λb o hb e=>a7 b o (λq=>hb (q▸in1)) (λq=>hb (q▸yY)) (λq=>hb (q▸AJ)) (λq=>hb (q▸Kz)) e;have hTI:IsPair h' TI (.ref i1) (.ref i2):=a7 _ _ D.TIz D.TITO D.TIi1 D.TIi2 h1;have J:=Iv.moves mv hw λb hb=>EH (P:= λb=>∃o,h'.get? b=some o) ⟨_,a1⟩ ⟨_,hTI⟩ ⟨_,a2⟩ (au a3 λo e zz=>⟨o,e⟩) (au a4 λo e zz=>⟨o,e⟩) hb;have lt:∀ {c o},s.heap.get? c=some o→s.heap.objs.size≠c:= λe=>PT (M7 e);exact k _ _ mv J ⟨_,_,_,rfl,rfl,⟨_,a5,rfl,_,rfl⟩,.cons (r1.moves mv hw) (.cons (r2.moves mv hw) (aw.nil _ _))⟩ ⟨_,rfl,⟨⟨a1,hTI,_,_,a2⟩,a3,a4,h5.moves mv hw,h6.moves mv hw⟩,λhb=>EH (P:= λb=>s.heap.objs.size≠b) (lt h0) (lt h1) (lt h2) (au h3 λo e zz=>lt e) (au h4 λo e zz=>lt e) hb rfl⟩
 go:=by
  intro A T α μ i x v t s Q E Iv hw st tg ir k;refine cm st λa hv st ha=>ij st λz0 h3 h4 h5 h6=>ug z0 λh0 h1 a0 b0 h2=>jE tg λelts kk pos zq3=>?_;subst hv;subst zq3;refine Qa h0 λh' he' hs'=>?_;have mv:aG [z,TI,TO,i1,i2] [] s {s with heap:=h'}:=aG.of_heap (tk:=s.toks) (λb o hb e=>(hs'.2 b λq=>hb (q▸in1)).trans e);have kp:∀b,b≠z→∀o,s.heap.get? b=some o→h'.get? b=some o:= λb hb o e=>(hs'.2 b hb).trans e;have hTI:IsPair h' TI (.ref i1) (.ref i2):=kp _ D.TIz _ h1;have hTO:IsPair h' TO a0 b0:=kp _ D.TOz _ h2;have q3:h'.IsListIter i1 l1 (i+1):=bv h3 (kp _ D.i1z);have q4:h'.IsListIter i2 l2 (i+1):=bv h4 (kp _ D.i2z);have J:=Iv.moves mv hw λb hb=>EH (P:= λb=>∃o,h'.get? b=some o) ⟨_,he'⟩ ⟨_,hTI⟩ ⟨_,hTO⟩ (au q3 λo e zz=>⟨o,e⟩) (au q4 λo e zz=>⟨o,e⟩) hb;exact k _ mv J (ir.moves mv hw λzz a2 q o z=>by cases q;exact kp _ (λq=>ha (q▸in1)) _ z) ⟨⟨he',hTI,a0,b0,hTO⟩,q3,q4,h5.moves mv hw,h6.moves mv hw⟩
 done:=by
  intro A T α μ i s Q E R Iv hw st ex k;refine ij st λz0 h3 h4 h5 h6=>ug z0 λh0 h1 a0 b0 h2=>bq (h5.isList Iv rfl) λzz its1 e1 hp1 rr1=>bq (h6.isList Iv rfl) λzz its2 e2 hp2 rr2=>?_;cases e1;cases e2;refine wpAny_pyNext_zip_end R.handled D h0 h1 h2 h3 h4 hp1.isList hp2.isList ((uI ex).imp (fH rr1) (fH rr2)) λh' hx=>?_;have mv:aG [z,TI,TO,i1,i2] [] s {s with heap:=h'}:=aG.of_heap (tk:=s.toks) (λb o hb e=>hx b o (λq=>hb (q▸in1)) (λq=>hb (q▸yY)) (λq=>hb (q▸AJ)) (λq=>hb (q▸Kz)) e);exact k _ mv λT' hT'=>Iv.done mv hw hT'
 self:=by
  intro A T α μ i s Q E st h;exact Ph st.1.1 h
end
abbrev eo(h:Heap)(T:Addr)(a b c:Value):Prop:=h.get? T=some {cls:=.type "tuple",data:=.seq #[a,b,c]}
structure kM (z TI TO i1 i2 i3 l1 l2 l3:Addr):Prop where
 nodup:[z,TI,TO,i1,i2,i3].Nodup
 d1:l1∉[z,TI,TO,i1,i2,i3]
 d2:l2∉[z,TI,TO,i1,i2,i3]
 d3:l3∉[z,TI,TO,i1,i2,i3]
section
theorem qS{T:Addr}{a b c x:Value}{Q:Unit→Shared→Prop}(hT:eo s.heap T a b c)
  (h:∀h',h'.get? T=some {cls:=.type "tuple",data:=.seq ((#[a,b,c]:Array Value).setIfInBounds k x)}→Lb T s.heap h'→Q () {s with heap:=h'}):
  wpAny (model prog w) A (updateSeq T (·.setIfInBounds k x)) Q E s:=by
 refine Oj hT rfl (h _ ?_ (KW ..));rw [Fj _ hT rfl]
 simp [M0]
end
namespace F3
theorem typeCall_zip_3(a b c:Value):checkTypeCall "zip" ⟨[a,b,c],[]⟩=pure ():= ∅
theorem newCall_zip_3(a b c:Value):checkBuiltinCall "zip.__new__" ⟨[.type "zip",a,b,c],[]⟩=pure ():= ∅
theorem args_object_init_4(a b c d:Value):argsOk "object.__init__" ⟨[a,b,c,d],[]⟩:=by
 unfold argsOk;rw [signature?_of (id:="object.__init__") (n:=['_','_','t','i','n','i','_','_']) (o:=['t','c','e','j','b','o']) ∅ F.owner_object];kernel_rfl
end F3
section
abbrev BL(h:Heap)(T:Addr)(vs:Array Value):Prop:=h.get? T=some {cls:=.type "tuple",data:=.seq vs}
abbrev FP(h:Heap)(e:Addr):Prop:=∃o,h.get? e=some o∧o.cls=.type "StopIteration"
abbrev Zz{β:Type}(prog:Program)(w:World)(A:Around)(E:Value→Shared→Prop)(s:Shared)(f:Value×Nat→β→Sem (ForInStep β))(b0:β)(z TI TO:Addr)(k:Nat):Prop:=
 ∀ (it l:Addr) (ws:Array Value) (a b c:Value) (m:Nat) (h:Heap) (Q:ForInStep β→Shared→Prop),IsZip h z TI TO .ellipsis→BL h TO #[a,b,c]→h.IsListIter it l k→h.IsList l ws→z≠it→TO≠it→z≠TO→
  (∀x,ws[k]? =some x→∀h',BL h' TO (#[a,b,c].setIfInBounds m x)→h'.IsListIter it l (k+1)→(∀c,c≠TO→c≠it→h'.get? c=h.get? c)→h'.objs.size=h.objs.size→Q (.yield b0) {s with heap:=h'})→
  (ws[k]? =none→∀h' e,(∀c o,c≠z→c≠it→h.get? c=some o→h'.get? c=some o)→FP h' e→E (.ref e) {s with heap:=h'})→
  wpAny (model prog w) A (f (.ref it,m) b0) Q E {s with heap:=h}
theorem ac6{β:Type}{f:Value×Nat→β→Sem (ForInStep β)}{b0:β}{l1 l2 l3:Addr}{xs ys:Array Value}{a b c:Value}{Q:β→Shared→Prop}(S:Zz prog w A E s f b0 z TI TO k)(D:kM z TI TO i1 i2 i3 l1 l2 l3)
  (hz:IsZip h z TI TO .ellipsis) (hTO:BL h TO #[a,b,c])
  (h1:h.IsListIter i1 l1 k) (h2:h.IsListIter i2 l2 k) (h3:h.IsListIter i3 l3 k) (hl1:h.IsList l1 xs) (hl2:h.IsList l2 ys) (hl3:h.IsList l3 zs)
  (hQ:∀x y u,xs[k]? =some x→ys[k]? =some y→zs[k]? =some u→∀h',BL h' TO #[x,y,u]→h'.IsListIter i1 l1 (k+1)→h'.IsListIter i2 l2 (k+1)→h'.IsListIter i3 l3 (k+1)→(∀c,c∉[TO,i1,i2,i3]→h'.get? c=h.get? c)→h'.objs.size=h.objs.size→Q b0 {s with heap:=h'})
  (hE:(xs[k]? =none∨ys[k]? =none∨zs[k]? =none)→∀h' e,(∀c o,c∉[z,TI,TO,i1,i2,i3]→h.get? c=some o→h'.get? c=some o)→FP h' e→E (.ref e) {s with heap:=h'}):
  wpAny (model prog w) A (forIn [(Lu i1,0),(Lu i2,1),(Lu i3,2)] b0 f) Q E {s with heap:=h}:=by
 have nd:=D.nodup;simp only [Jy,C1,E4,or_false,not_or,not_false_eq_true,MQ,and_true] at nd
 have apart:∀ {l c:Addr} {L:List Addr},l∉L→c∈L→l≠c:= λn q e=>n (e▸q);simp only [U5,List.forIn_nil];refine ij nd λza tia toa i1a i23=>ij za λzz zTO zi1 zi2 zi3=>dU toa λTO1 TO2 TO3=>fY i1a λi12 i13=>?_;refine yK (S i1 l1 xs a b c 0 h _ hz hTO h1 hl1 zi1 TO1 zTO (λx ex h₁ t₁ f1 k1 n1=>?_) λq h' e kp st=>hE (.inl q) h' e (λc o hc=>kp c o (apart hc in1) (apart hc AJ)) st);refine yK (S i2 l2 ys x b c 1 h₁ _ ((k1 _ zTO zi1).trans hz) t₁ (bv h2 λo=>(k1 _ (Mv TO2) (Mv i12)).trans) (hl2.at λo=>(k1 _ (apart D.d2 yY) (apart D.d2 AJ)).trans) zi2 TO2 zTO (λy ey h₂ t₂ f2 k2 n2=>?_)
  λq h' e kp st=>hE (.inr (.inl q)) h' e (λc o hc e=>kp c o (apart hc in1) (apart hc Kz) ((k1 _ (apart hc yY) (apart hc AJ)).trans e)) st)
 refine yK (S i3 l3 zs x y c 2 h₂ _ ((k2 _ zTO zi2).trans ((k1 _ zTO zi1).trans hz)) t₂ (bv h3 λo e=>(k2 _ (Mv TO3) (Mv i23)).trans ((k1 _ (Mv TO3) (Mv i13)).trans e)) (hl3.at λo e=>(k2 _ (apart D.d3 yY) (apart D.d3 Kz)).trans ((k1 _ (apart D.d3 yY) (apart D.d3 AJ)).trans e)) zi3 TO3 zTO (λu eu h₃ t₃ f3 k3 n3=>?_)
  λq h' e kp st=>hE (.inr (.inr q)) h' e (λc o hc e=>kp c o (apart hc in1) (apart hc in6) ((k2 _ (apart hc yY) (apart hc Kz)).trans ((k1 _ (apart hc yY) (apart hc AJ)).trans e))) st)
 exact Ez (hQ x y u ex ey eu h₃ t₃ (bv f1 λo e=>(k3 _ (Mv TO1) i13).trans ((k2 _ (Mv TO1) i12).trans e)) (bv f2 λo=>(k3 _ (Mv TO2) i23).trans) f3
  (λc hc=>(k3 c (apart hc in1) (apart hc AJ)).trans ((k2 c (apart hc in1) (apart hc yY)).trans (k1 c (apart hc in1) (apart hc Nh)))) (n3.trans (n2.trans n1)))
theorem Ds{l1 l2 l3:Addr}{xs ys:Array Value}{a b c:Value}(hh:A.handled=none)(D:kM z TI TO i1 i2 i3 l1 l2 l3)
  (hz:IsZip s.heap z TI TO .none) (hTI:eo s.heap TI (.ref i1) (.ref i2) (.ref i3)) (hTO:eo s.heap TO a b c)
  (h1:s.heap.IsListIter i1 l1 k) (h2:s.heap.IsListIter i2 l2 k) (h3:s.heap.IsListIter i3 l3 k) (hl1:s.heap.IsList l1 xs) (hl2:s.heap.IsList l2 ys) (hl3:s.heap.IsList l3 zs)
  (hQ:∀x y u,xs[k]? =some x→ys[k]? =some y→zs[k]? =some u→∀h',IsZip h' z TI TO (rawInt s.heap.objs.size)→eo h' TO x y u→h'.IsListIter i1 l1 (k+1)→h'.IsListIter i2 l2 (k+1)→h'.IsListIter i3 l3 (k+1)→eo h' s.heap.objs.size x y u→
   (∀c o,c∉[z,TI,TO,i1,i2,i3]→s.heap.get? c=some o→h'.get? c=some o)→h'.get? TI=s.heap.get? TI→Q (.ref s.heap.objs.size) {s with heap:=h'})
  (hE:(xs[k]? =none∨ys[k]? =none∨zs[k]? =none)→∀h' e,(∀c o,c∉[z,TI,TO,i1,i2,i3]→s.heap.get? c=some o→h'.get? c=some o)→(∃o,h'.get? e=some o∧o.cls=.type "StopIteration")→E (.ref e) {s with heap:=h'}):
  wpAny (model prog w) A (Builtin.«zip.__next__» ⟨[.ref z],[]⟩) (λfin s'=>∃v,fin=.done (.ret v)∧Q v s') E s:=by
 have apart:∀ {l c:Addr} {L:List Addr},l∉L→c∈L→l≠c:= λn q e=>n (e▸q);have nd:=Jy.mp D.nodup;have nd2:=Jy.mp nd.2;have zx:∀ {c},c∈[TI,TO,i1,i2,i3]→c≠z:= λq e=>nd.1 (e▸q);have TOx:∀ {c},c∈[i1,i2,i3]→c≠TO:= λq e=>(Jy.mp nd2.2).1 (e▸q);refine (?_:wpAny _ _ (field (.ref z) 2>>=_) _ _ _);refine yK (KP hz rfl (x:=.bool false) rfl ?_);refine (?_:wpAny _ _ (field (.ref z) 3>>=_) _ _ _);refine yK (KP hz rfl (x:=.ref TI) rfl ?_);refine yK (MR hTI rfl ?_);refine (?_:wpAny _ _ (NL (.ref z)>>=_) _ _ _);refine yK ?_;unfold NL;refine yK (KP hz rfl (x:=.none) rfl (Ez ?_));simp only [if_true];refine yK (Ob ?_);refine yK (KP hz rfl (x:=.ref TO) rfl ?_);refine yK (Ol hz (by simp) λh₁ hz₁ hs₁=>?_);replace hz₁:IsZip h₁ z TI TO .ellipsis:=hz₁;have K1:∀ {c},c∈[TI,TO,i1,i2,i3]→∀o,s.heap.get? c=some o→h₁.get? c=some o:= λq o e=>(hs₁.2 _ (zx q)).trans e;refine yK (ac6 ?_ D hz₁ (K1 Nh _ hTO) (bv h1 (K1 yY)) (bv h2 (K1 AJ)) (bv h3 (K1 Kz)) (hl1.at λo=>(hs₁.2 _ (apart D.d1 in1)).trans) (hl2.at λo=>(hs₁.2 _ (apart D.d2 in1)).trans) (hl3.at λo=>(hs₁.2 _ (apart D.d3 in1)).trans) (λx y u hx hy hu h₇ hTO₇ f1 f2 f3 K7 hsz=>?_) λq h' e kp=>hE q h' e λc o hc e=>kp c o hc ((hs₁.2 c (apart hc in1)).trans e))
 ·intro it l ws a b c m h Q hz ht hi hl zi toi zto k1 k2
  refine yK (SP ?_);refine (?_:wpAny _ _ (KT (.ref it)>>=_) _ _ _);cases hx:ws[k]? with
  |none=>
   refine yK (wpAny_nextOf_list_end hh hi hl hx λh₂ e hs₂ he=>?_);have hz₂:IsZip h₂ z TI TO .ellipsis:=hs₂ _ _ zi hz;refine Ol hz₂ (by simp) λh₃ zz hs₃=>k2 hx h₃ e (λc o q q' x=>(hs₃.2 c q).trans (hs₂ _ _ q' x)) (au he λo ho hc=>⟨o,(hs₃.2 e λq=>?_).trans ho,hc⟩);subst q;cases hz₂.symm.trans ho;simp at hc
  |some x=>
   refine yK (wpAny_nextOf_list_item hi hl hx λh₂ h1₂ hs₂=>Ez ?_);have ht₂:eo h₂ TO a b c:=(hs₂.2 _ toi).trans ht;refine yK (MR ht₂ rfl ?_);refine yK (qS ht₂ λh₃ ht₃ hs₃=>?_);exact yK (Sv (Ez (k1 x hx h₃ ht₃ (bv h1₂ λo=>(hs₃.2 _ (Mv toi)).trans) (λc q q'=>(hs₃.2 c q).trans (hs₂.2 c q')) (hs₃.1.trans hs₂.1))))
 refine yK (MR hTO₇ rfl ?_);refine yK (wpAny_newTuple ?_);have hsz:h₇.objs.size=s.heap.objs.size:=hsz.trans hs₁.1;have hz₇:IsZip h₇ z TI TO .ellipsis:=(K7 _ λq=>nd.1 (D2 _ q)).trans hz₁;have hzlt:z<h₇.objs.size:=M7 hz₇;refine (?_:wpAny _ _ (MV (.ref z) (.ref h₇.objs.size)>>=_) _ _ _);refine yK ?_;unfold MV;have hz₈:IsZip (h₇.push {cls:=.type "tuple",data:=.seq #[x,y,u]}) z TI TO .ellipsis:=Bt _ hz₇;refine yK (Ol hz₈ (by simp) λh₉ hz₉ hs₉=>?_);replace hz₉:IsZip h₉ z TI TO (rawInt h₇.objs.size):=hz₉;refine Ol hz₉ (by simp) λh₀ hz₀ hs₀=>?_;replace hz₀:IsZip h₀ z TI TO (rawInt h₇.objs.size):=hz₀;have up:∀c o,c≠z→h₇.get? c=some o→h₀.get? c=some o:= λc o c1 e=>hs₀.extBut _ _ c1 (hs₉.extBut _ _ c1 (Bt _ e));have hT₈:eo h₀ h₇.objs.size x y u:=hs₀.extBut _ _ (PT hzlt) (hs₉.extBut _ _ (PT hzlt) (Dp _ rfl));rw [hsz] at hz₀ hT₈
 refine Ez (aZ _ rfl ?_);refine (?_:Q (.ref h₇.objs.size) _);rw [hsz];refine hQ _ _ _ hx hy hu h₀ hz₀ (up _ _ (zx Nh) hTO₇) (bv f1 λo e=>up _ o (zx yY) e) (bv f2 λo e=>up _ o (zx AJ) e) (bv f3 λo e=>up _ o (zx Kz) e) hT₈ (λc o hc e=>?_) ?_
 ·exact up c o (apart hc in1) ((K7 c λq=>hc (D2 _ (D2 _ q))).trans ((hs₁.2 c (apart hc in1)).trans e))
 ·exact (up _ _ (zx in1) ((K7 _ nd2.1).trans (K1 in1 _ hTI))).trans hTI.symm
theorem ot{l1 l2 l3:Addr}{xs ys:Array Value}{a b c:Value}{Q:Option Value→Shared→Prop}(hh:A.handled=none)(D:kM z TI TO i1 i2 i3 l1 l2 l3)
  (hz:IsZip s.heap z TI TO .none) (hTI:eo s.heap TI (.ref i1) (.ref i2) (.ref i3)) (hTO:eo s.heap TO a b c)
  (h1:s.heap.IsListIter i1 l1 k) (h2:s.heap.IsListIter i2 l2 k) (h3:s.heap.IsListIter i3 l3 k) (hl1:s.heap.IsList l1 xs) (hl2:s.heap.IsList l2 ys) (hl3:s.heap.IsList l3 zs)
  (hQ:∀x y u,xs[k]? =some x→ys[k]? =some y→zs[k]? =some u→∀h',IsZip h' z TI TO (rawInt s.heap.objs.size)→eo h' TO x y u→h'.IsListIter i1 l1 (k+1)→h'.IsListIter i2 l2 (k+1)→h'.IsListIter i3 l3 (k+1)→eo h' s.heap.objs.size x y u→
   (∀c o,c∉[z,TI,TO,i1,i2,i3]→s.heap.get? c=some o→h'.get? c=some o)→h'.get? TI=s.heap.get? TI→Q (some (.ref s.heap.objs.size)) {s with heap:=h'})
  (hE:(xs[k]? =none∨ys[k]? =none∨zs[k]? =none)→∀h',(∀c o,c∉[z,TI,TO,i1,i2,i3]→s.heap.get? c=some o→h'.get? c=some o)→Q none {s with heap:=h'}):wpAny (model prog w) A (pyNext (.ref z)) Q E s:=by
 have hT:s.TypeIs (.ref z) "zip":=(aZ _ hz rfl);unfold pyNext;refine yK (SQ (Ii (name:=Jg "__next__") hT F.slot_zip_next
  (L4 F.slot_zip_next hT F.entry_zip_next (Ds hh D hz hTI hTO h1 h2 h3 hl1 hl2 hl3 (λx y u ex ey eu h' a1 a2 a3 a4 a5 a6 a7 a8=>Ez (hQ x y u ex ey eu h' a1 a2 a3 a4 a5 a6 a7 a8)) λq h' e hk he=>?_) (F.args_zip_next_1 _))))
 refine au he λo ho hc=>?_;refine yK (Rd (T:="StopIteration") (b:=true) (aZ o ho hc) Sh ?_);exact Ez (hE q _ hk)
end
noncomputable abbrev oQ(h:Heap)(l1:Addr):Heap:=h.push {cls:=.type "list_iterator",data:=.fields #[.ref l1,.int 0 0]}
noncomputable abbrev OT(h:Heap)(l1 l2 l3:Addr):Heap:=oQ (oQ (oQ h l1) l2) l3
noncomputable abbrev Pt(h:Heap)(l1 l2 l3:Addr):Heap:=(OT h l1 l2 l3).push {cls:=.type "tuple",data:=.seq #[.ref h.objs.size,.ref (oQ h l1).objs.size,.ref (oQ (oQ h l1) l2).objs.size]}
noncomputable abbrev LS(h:Heap)(l1 l2 l3:Addr):Heap:=(Pt h l1 l2 l3).push {cls:=.type "tuple",data:=.seq #[.none,.none,.none]}
noncomputable abbrev yA(h:Heap)(l1 l2 l3:Addr):Heap:=(LS h l1 l2 l3).push {cls:=.type "zip",data:=.fields #[.none,.bool false,.bool false,.ref (OT h l1 l2 l3).objs.size,.ref (Pt h l1 l2 l3).objs.size]}
theorem qE(l1 l2 l3:Addr)(xs ys zs:Array Value):
  Meets (Builtin.«zip.__new__» ⟨[.type "zip",.ref l1,.ref l2,.ref l3],[]⟩) (λzz R s=>s.heap.IsList l1 xs∧s.heap.IsList l2 ys∧s.heap.IsList l3 zs∧
   R (.ok (.ret (.ref (LS s.heap l1 l2 l3).objs.size))) {s with heap:=yA s.heap l1 l2 l3}):=
 .of_wp λprog w A R s h=>by
  obtain ⟨hp,g,d,tk,os⟩:=s;refine mA h λhl1 hl2 hl3 h=>?_;have hsub:=sub_zip;have hL1:U7 (QW ⟨hp,g,d,tk,os⟩) l1 xs:=hl1;have hL2:U7 (QW ⟨hp.push {cls:=.type "list_iterator",data:=.fields #[.ref l1,.int 0 0]},g,d,tk,os⟩) l2 ys:=Re hl2 _;have hL3:U7 (QW ⟨(hp.push {cls:=.type "list_iterator",data:=.fields #[.ref l1,.int 0 0]}).push {cls:=.type "list_iterator",data:=.fields #[.ref l2,.int 0 0]},g,d,tk,os⟩) l3 zs:=Re (Re hl3 _) _
  wp_walk using M3 hL1,M3 hL2,M3 hL3
  exact (aZ _ rfl h)
section
theorem Ar{l1 l2 l3:Addr}{xs ys:Array Value}(hl1:s.heap.IsList l1 xs)(hl2:s.heap.IsList l2 ys)(hl3:s.heap.IsList l3 zs)
  (h:∀h',IsZip h' (s.heap.objs.size+5) (s.heap.objs.size+3) (s.heap.objs.size+4) .none→eo h' (s.heap.objs.size+3) (.ref s.heap.objs.size) (.ref (s.heap.objs.size+1)) (.ref (s.heap.objs.size+2))→
   eo h' (s.heap.objs.size+4) .none .none .none→h'.IsListIter s.heap.objs.size l1 0→h'.IsListIter (s.heap.objs.size+1) l2 0→h'.IsListIter (s.heap.objs.size+2) l3 0→
   (∀c o,s.heap.get? c=some o→h'.get? c=some o)→Q (.ref (s.heap.objs.size+5)) {s with heap:=h'}):
  wpAny (model prog w) A (call (.type "zip") [.ref l1,.ref l2,.ref l3]) Q E s:=by
 refine callType_new F.called_zip (by decide) (F3.typeCall_zip_3 _ _ _) (F3.newCall_zip_3 _ _ _) (λobj=>F3.args_object_init_4 obj _ _ _) F.entry_zip_new
  (qE l1 l2 l3 xs ys zs) (lj hl1 hl2 hl3 ?_)
 have z1:(oQ s.heap l1).objs.size=s.heap.objs.size+1:=LZ ..;have z2:(oQ (oQ s.heap l1) l2).objs.size=s.heap.objs.size+2:=by rw [LZ,z1]
 have z3:(OT s.heap l1 l2 l3).objs.size=s.heap.objs.size+3:=by rw [LZ,z2]
 have z4:(Pt s.heap l1 l2 l3).objs.size=s.heap.objs.size+4:=by rw [LZ,z3]
 have z5:(LS s.heap l1 l2 l3).objs.size=s.heap.objs.size+5:=by rw [LZ,z4]
 have g6:(yA s.heap l1 l2 l3).get? (LS s.heap l1 l2 l3).objs.size=some _:=Dp _ rfl;have g5:(yA s.heap l1 l2 l3).get? (Pt s.heap l1 l2 l3).objs.size=some _:=Bt _ (Dp _ rfl);have g4:(yA s.heap l1 l2 l3).get? (OT s.heap l1 l2 l3).objs.size=some _:=Bt _ (Bt _ (Dp _ rfl));have g3:(yA s.heap l1 l2 l3).get? (oQ (oQ s.heap l1) l2).objs.size=some _:=Bt _ (Bt _ (Bt _ (Dp _ rfl)));have g2:(yA s.heap l1 l2 l3).get? (oQ s.heap l1).objs.size=some _:=Bt _ (Bt _ (Bt _ (Bt _ (Dp _ rfl))));have g1:(yA s.heap l1 l2 l3).get? s.heap.objs.size=some _:=Bt _ (Bt _ (Bt _ (Bt _ (Bt _ (Dp _ rfl)))));refine (?_:_∧_);rw [z3,z4,z5] at g6
 rw [z4] at g5
 rw [z1,z2,z3] at g4
 rw [z2] at g3
 rw [z1] at g2
 rw [z5];exact ⟨(aZ _ g6 rfl),h _ g6 g4 g5 (cJ _ g1 rfl rfl) (cJ _ g2 rfl rfl) (cJ _ g3 rfl rfl) λc o x=>
  Bt _ (Bt _ (Bt _ (Bt _ (Bt _ (Bt _ x)))))⟩
end
section
variable {l1 l2 l3:Addr} {zs:List PyData}
noncomputable def FO(z TI TO i1 i2 i3 l1 l2 l3:Addr)(f0:Value)(xs ys zs:List PyData):xH:= λT α μ i s=>(IsZip s.heap z TI TO f0∧eo s.heap TI (.ref i1) (.ref i2) (.ref i3)∧∃a b c,eo s.heap TO a b c)∧s.heap.IsListIter i1 l1 i∧s.heap.IsListIter i2 l2 i∧s.heap.IsListIter i3 l3 i∧bm s.heap α (T++ai α μ) (.ref l1) (.d (.list xs))∧bm s.heap α (T++ai α μ) (.ref l2) (.d (.list ys))∧bm s.heap α (T++ai α μ) (.ref l3) (.d (.list zs))
theorem gY.zip3(D:kM z TI TO i1 i2 i3 l1 l2 l3):lf C (.ref z) [z,TI,TO,i1,i2,i3] [] (vb xs ys zs) none true (FO z TI TO i1 i2 i3 l1 l2 l3 .none xs ys zs)
  (λT α μ i v s=>∃a,v=.ref a∧FO z TI TO i1 i2 i3 l1 l2 l3 (rawInt a) xs ys zs T α μ (i+1) s∧a∉[z,TI,TO,i1,i2,i3]) where
 frame:=by
  intro O T T' α α' μ μ' i s s' st S hO hwr hT hwT I0 I1 hg;refine mG st λz0 h3 h4 h7 h5 h6 h8=>oS z0 λh0 h1 a b c h2=>?_;have kp:= λ{b}=>jA I0 S hwr hwT (b:=b);exact ⟨⟨kp in1 _ h0,kp Nh _ h1,a,b,c,kp yY _ h2⟩,bv h3 (kp AJ),bv h4 (kp Kz),bv h7 (kp in6),h5.stepO S hO hT,h6.stepO S hO hT,h8.stepO S hO hT⟩
 item:=by
  intro A T α μ i x s Q E R Iv hw st ex k;refine mG st λz0 h3 h4 h7 h5 h6 h8=>oS z0 λh0 h1 a0 b0 c0 h2=>?_;refine bq (h5.isList Iv rfl) λzz its1 e1 hp1 rr1=>bq (h6.isList Iv rfl) λzz its2 e2 hp2 rr2=>bq (h8.isList Iv rfl) λzz its3 e3 hp3 rr3=>?_;cases e1;cases e2;cases e3;refine Ha ex λx1 x2 x3 ex1 ex2 ex3 zx=>au (j7 rr1 ex1) λv1 ev1 r1=>au (j7 rr2 ex2) λv2 ev2 r2=>au (j7 rr3 ex3) λv3 ev3 r3=>?_;subst zx;refine ot R.handled D h0 h1 h2 h3 h4 h7 hp1.isList hp2.isList hp3.isList (λx' y' u' ex ey eu h' a1 a2 a3 a4 a5 a6 a7 a8=>?_) (λq=>q.elim (λq=>ct (q.symm.trans ev1)) λq=>q.elim (λq=>ct (q.symm.trans ev2)) λq=>ct (q.symm.trans ev3));have r1:=Ff (ev1.symm.trans ex)▸r1;have r2:=Ff (ev2.symm.trans ey)▸r2;have r3:=Ff (ev3.symm.trans eu)▸r3;have mv:aG [z,TI,TO,i1,i2,i3] [] s {s with heap:=h'}:=aG.of_heap (tk:=s.toks) λb o hb e=>a7 b o hb e;have hTI:eo h' TI (.ref i1) (.ref i2) (.ref i3):=a8.trans h1;have J:=Iv.moves mv hw λb hb=>TR (P:= λb=>∃o,h'.get? b=some o) ⟨_,a1⟩ ⟨_,hTI⟩ ⟨_,a2⟩ (au a3 λo e zz=>⟨o,e⟩) (au a4 λo e zz=>⟨o,e⟩) (au a5 λo e zz=>⟨o,e⟩) hb;have lt:∀ {c o},s.heap.get? c=some o→s.heap.objs.size≠c:= λe=>PT (M7 e);exact k _ _ mv J ⟨_,_,_,rfl,rfl,⟨_,a6,rfl,_,rfl⟩,.cons (r1.moves mv hw) (.cons (r2.moves mv hw) (.cons (r3.moves mv hw) (aw.nil _ _)))⟩ ⟨_,rfl,⟨⟨a1,hTI,_,_,_,a2⟩,a3,a4,a5,h5.moves mv hw,h6.moves mv hw,h8.moves mv hw⟩,λhb=>TR (P:= λb=>s.heap.objs.size≠b) (lt h0) (lt h1) (lt h2) (au h3 λo e zz=>lt e) (au h4 λo e zz=>lt e) (au h7 λo e zz=>lt e) hb rfl⟩
 go:=by
  intro A T α μ i x v t s Q E Iv hw st tg ir k;refine cm st λa hv st ha=>mG st λz0 h3 h4 h7 h5 h6 h8=>oS z0 λh0 h1 a0 b0 c0 h2=>jE tg λelts kk pos zq3=>?_;subst hv;subst zq3;have hnd:z∉[TI,TO,i1,i2,i3]:=(Jy.mp D.nodup).1;refine Qa h0 λh' he' hs'=>?_;have mv:aG [z,TI,TO,i1,i2,i3] [] s {s with heap:=h'}:=aG.of_heap (tk:=s.toks) (λb o hb e=>(hs'.2 b λq=>hb (q▸in1)).trans e);have kp:∀b,b≠z→∀o,s.heap.get? b=some o→h'.get? b=some o:= λb hb o e=>(hs'.2 b hb).trans e;have hTI:eo h' TI (.ref i1) (.ref i2) (.ref i3):=kp _ (λq=>hnd (q▸in1)) _ h1;have hTO:eo h' TO a0 b0 c0:=kp _ (λq=>hnd (q▸Nh)) _ h2;have q3:h'.IsListIter i1 l1 (i+1):=bv h3 (kp _ λq=>hnd (q▸yY));have q4:h'.IsListIter i2 l2 (i+1):=bv h4 (kp _ λq=>hnd (q▸AJ));have q7:h'.IsListIter i3 l3 (i+1):=bv h7 (kp _ λq=>hnd (q▸Kz));have J:=Iv.moves mv hw λb hb=>TR (P:= λb=>∃o,h'.get? b=some o) ⟨_,he'⟩ ⟨_,hTI⟩ ⟨_,hTO⟩ (au q3 λo e zz=>⟨o,e⟩) (au q4 λo e zz=>⟨o,e⟩) (au q7 λo e zz=>⟨o,e⟩) hb;exact k _ mv J (ir.moves mv hw λzz a2 q o z=>by cases q;exact kp _ (λq=>ha (q▸in1)) _ z) ⟨⟨he',hTI,a0,b0,c0,hTO⟩,q3,q4,q7,h5.moves mv hw,h6.moves mv hw,h8.moves mv hw⟩
 done:=by
  intro A T α μ i s Q E R Iv hw st ex k;refine mG st λz0 h3 h4 h7 h5 h6 h8=>oS z0 λh0 h1 a0 b0 c0 h2=>bq (h5.isList Iv rfl) λzz its1 e1 hp1 rr1=>bq (h6.isList Iv rfl) λzz its2 e2 hp2 rr2=>bq (h8.isList Iv rfl) λzz its3 e3 hp3 rr3=>?_;cases e1;cases e2;cases e3;have hend:its1[i]? =none∨its2[i]? =none∨its3[i]? =none:=(uI ex).imp (fH rr1) λq=>(uI q).imp (fH rr2) (fH rr3);refine ot R.handled D h0 h1 h2 h3 h4 h7 hp1.isList hp2.isList hp3.isList (λx' y' u' ex ey eu=>hend.elim (λq=>ct (q.symm.trans ex)) λq=>q.elim (λq=>ct (q.symm.trans ey)) λq=>ct (q.symm.trans eu)) (λzz h' hx=>?_);have mv:aG [z,TI,TO,i1,i2,i3] [] s {s with heap:=h'}:=aG.of_heap (tk:=s.toks) (λb o hb e=>hx b o hb e);exact k _ mv λT' hT'=>Iv.done mv hw hT'
 self:=by
  intro A T α μ i s Q E st h;exact Ph st.1.1 h
end
section
theorem aJ.frames(hx:fZ O h h')(hO:∀a∈O,bW h a)(r:aJ h M v d):aJ h' M v d:=r.ext hx (λa ha=>.inr (.inl (hO a ha))) λzz=>.inl
theorem aw.frames(hx:fZ O h h')(hO:∀a∈O,bW h a){v:List Value}{d:List PyData}(r:aw h M v d):aw h' M v d:=r.ext hx (λa ha=>.inr (.inl (hO a ha))) λzz=>.inl
theorem bm.frames(hx:fZ O h h')(hO:∀a∈O,bW h a)(r:bm h α M v V):bm h' α M v V:=r.ext hx (λa ha=>.inr (.inl (hO a ha))) (λzz zz=>id) λzz=>.inl
theorem bl.frames(I:bl C T α μ s)(hx:fZ O s.heap h')(hO:∀a∈O,bW s.heap a∧C.B.get? a=none)(hd:∀a∈O,∃o,h'.get? a=some o):
  bl C T α μ {s with heap:=h',toks:=tk}∧aV O α μ s α μ {s with heap:=h',toks:=tk}:=by
 have dm:∀a o,s.heap.get? a=some o→∃o',h'.get? a=some o':= λa o e=>(UU (a∈O)).elim (hd a) λq=>⟨o,hx a o e q⟩;exact ⟨I.ext hx (λa ha=>(hO a ha).2) (λa ha=>.inr (.inl (hO a ha).1)) (λa ha q=>I.notFrame ha (hO a q).1) (λzz=>id) (λa ha=>(I.tdom a ha).elim (dm a)) rfl I.gens rfl,aZ [] (DN _).symm (λzz h=>nomatch h),λb o e ht=>hx b o e λq=>ht (yg _ q),λzz h=>.inl h,dm,λzz zz e=>e⟩
theorem bl.frames'(I:bl C T α μ s)(hx:fZ O s.heap h')(hO:∀a∈O,bW s.heap a∧C.B.get? a=none)(hd:∀a∈O,a∉T):bl C T α μ {s with heap:=h',toks:=tk}:=
 I.ext hx (λa ha=>(hO a ha).2) (λa ha=>.inr (.inl (hO a ha).1)) (λa ha q=>I.notFrame ha (hO a q).1) (λzz=>id) (λa ha=>(I.tdom a ha).imp λo e=>hx a o e λq=>hd a q ha) rfl I.gens rfl
def gn(C:gK)(cx:Cx)(env:Env)(O T α:List Addr)(μ:List ah)(ρ':d0)(s s':Shared):Prop:=
 bl C T α μ s'∧aV O α μ s α μ s'∧bh C cx env O ρ' s'.heap α (T++ai α μ)
theorem lI{m:Str→Option Value}{o:Option Value}(x:h.Ns a m)(y:h.IsCell a o):False:=by
 refine jq x λob es ep e d zz=>?_;refine au y λob' e' d'=>?_;rw [e] at e';cases e'
 rw [d] at d';cases d'
theorem qM{W:AV}(h:(ρ.set i (some V))[j]? =some (some W))(k:j=i→W=V→G)(k':j≠i→ρ[j]? =some (some W)→G):G:=by
 rw [Qn] at h
 by_cases q:i=j
 ·rw [if_pos q] at h
  by_cases z:i<ρ.length
  ·rw [if_pos z] at h;exact k q.symm (Ff (Ff h)).symm
  ·rw [if_neg z] at h;exact ct h
 ·rw [if_neg q] at h
  exact k' (λz=>q z.symm) h
theorem bW.but{b:Addr}(x:bW h b)(hs:Lb a h h')(ha:bW h' a):bW h' b:=by
 by_cases q:b=a
 ·subst q;exact ha
 ·refine au x λo e z=>?_
  exact (aZ o ((hs.2 b q).trans e) z)
theorem iS(hs:Lb a h h'):fZ [a] h h':= λb o e hb=>(hs.2 b λq=>hb (by simp [q])).trans e
theorem sR(I:bl C T α μ s)(F:bh C cx env O ρ s.heap α (T++ai α μ))(ha:a∈O)(hs:Lb a s.heap h')(hf:bW h' a)(hl:ρ'.length=ρ.length)
  (loc:∀m,s.heap.Ns env.locals m→(∀ (i:Nat) x V,cx.names[i]? =some (x,1)→ρ[i]? =some (some V)→∃v,m x=some v∧bm s.heap α (T++ai α μ) v V)→(∀ {v V},bm s.heap α (T++ai α μ) v V→bm h' α (T++ai α μ) v V)→∃m,h'.Ns env.locals m∧∀ (i:Nat) x V,cx.names[i]? =some (x,1)→ρ'[i]? =some (some V)→∃v,m x=some v∧bm h' α (T++ai α μ) v V)
  (cel:∀cad,Ql cx env O ρ s.heap α (T++ai α μ) cad→(∀ {v V},bm s.heap α (T++ai α μ) v V→bm h' α (T++ai α μ) v V)→∀ (i:Nat) x k,cx.names[i]? =some (x,k)→2≤k→∃o,h'.IsCell (cad i) o∧∀V,ρ'[i]? =some (some V)→∃v,o=some v∧bm h' α (T++ai α μ) v V):gn C cx env O T α μ ρ' s {s with heap:=h',toks:=tk}:=by
 have hO1:∀b∈[a],bW s.heap b∧C.B.get? b=none:= λb hb=>(Ab.mp hb)▸F.own a ha;have mv:∀ {v V},bm s.heap α (T++ai α μ) v V→bm h' α (T++ai α μ) v V:=bm.frames (iS hs) λb hb=>(hO1 b hb).1;refine fY (I.frames (tk:=tk) (iS hs) hO1 λb hb=>(Ab.mp hb)▸(au hf λo e zz=>⟨o,e⟩)) λI' S'=>?_;exact ⟨I',S'.weak λb hb=>.inl ((Ab.mp hb)▸ha),F.sc,F.gl,F.bn,hl.trans F.len,au F.loc λm hm hq=>loc m hm hq mv,bP F.cel λcad hc=>⟨cad,hc.look,cel cad hc mv,hc.own,hc.inj⟩,λb hb=>⟨(F.own b hb).1.but hs hf,(F.own b hb).2⟩,F.lo,F.off,F.nd⟩
theorem s_(i:Nat)(hn:cx.names[i]? =some (x,1))(hl:cx.scope.names.lookup x=some .local)(hk:cx.scope.kind=.function)
  (I:bl C T α μ s) (F:bh C cx env O ρ s.heap α (T++ai α μ)) (r:bm s.heap α (T++ai α μ) v V):
  wpAny (model C.prog C.w) A (storeName env x v) (λzz s'=>gn C cx env O T α μ (ρ.set i (some V)) s s') E s:=by
 refine au F.loc λm0 hm0 hq0=>?_;refine P9 (by unfold IC;rw [F.sc];exact hl) hm0 (λh' hn' hs'=>?_) (by rw [F.sc,hk];rfl);refine sR I F F.lo hs' (fT hn') Lr (λzz hm zz mv=>aZ _ hn' λj y W h1 h2=>qM h2 (λe1 e2=>?_) λhj h2=>?_) λcad hc mv j y k h1 h2=>?_
 ·subst e1;subst e2
  rw [hn] at h1;refine cg h1 ?_
  exact aZ v (if_pos rfl) (mv r)
 ·have hy:y≠x:= λq=>hj (F.nd j i x (q▸h1) hn)
  exact au (hq0 j y W h1 h2) λu e ru=>aZ u ((if_neg hy).trans e) (mv ru)
 ·refine au (hc.has j y k h1 h2) λo ho hv=>aZ o (qO ho (iS hs') λq=>lI hm0 ((Ab.mp q)▸ho)) λW h3=>qM h3 (λe1 e2=>?_) λhj h3=>au (hv W h3) λu e ru=>aZ u e (mv ru)
  subst e1;cases hn.symm.trans h1;exact absurd h2 (by decide)
theorem DZ(i:Nat)(hn:cx.names[i]? =some (x,2))(hl:cx.scope.names.lookup x=some .cell)(hk:cx.scope.kind=.function)
  (I:bl C T α μ s) (F:bh C cx env O ρ s.heap α (T++ai α μ)) (r:bm s.heap α (T++ai α μ) v V):
  wpAny (model C.prog C.w) A (storeName env x v) (λzz s'=>gn C cx env O T α μ (ρ.set i (some V)) s s') E s:=by
 refine bP F.cel λcad0 hc0=>?_;refine au (hc0.has i x 2 hn (DW _)) λo ho hv=>?_;have hlk:=hc0.look i x 2 hn (DW _);refine wpAny_storeName_cell (by rw [F.sc];exact hk) (by unfold IC;rw [F.sc];exact hl) hlk ho λh' hn' hs'=>?_;refine sR (tk:=s.toks) I F (hc0.own i x hn) hs' (hH hn') Lr (λm hm hq mv=>aZ m (zV hm (iS hs') λq=>lI hm ((Ab.mp q)▸ho)) λj y W h1 h2=>qM h2 (λe1 e2=>?_) λhj h2=>?_) λcad hc mv j y k h1 h2=>?_
 ·subst e1
  rw [hn] at h1;cases h1
 ·exact au (hq j y W h1 h2) λu e ru=>aZ u e (mv ru)
 ·have ec:cad i=cad0 i:=Ff ((hc.look i x 2 hn (DW _)).symm.trans hlk)
  by_cases hji:j=i
  ·subst hji
   refine aZ (some v) (ec▸hn') λW h3=>aZ v rfl (qM h3 (λzz e2=>?_) λhj zz=>absurd rfl hj);rw [e2];exact mv r
  ·refine au (hc.has j y k h1 h2) λo' ho' hv'=>aZ o' (qO ho' (iS hs') λq=>hji (hc.inj j i y x k 2 h1 hn h2 (DW _) ((Ab.mp q).trans ec.symm))) λW h3=>qM h3 (λhj zz=>absurd hj hji) λzz h3=>au (hv' W h3) λu e ru=>aZ u e (mv ru)
end
def nM(C:gK)(cx:Cx)(tgt:Expr)(tup:Bool)(tf:d0→PyData→Option d0):Prop:=Jf tup tgt∧∀A env O T ρ α μ s E v x ρ',A.handled=none→bl C T α μ s→bh C cx env O ρ s.heap α (T++ai α μ)→
 fk tup s.heap (T++ai α μ) v x→tf ρ x=some ρ'→wpAny (model C.prog C.w) A (assign tgt env v) (λzz s'=>gn C cx env O T α μ ρ' s s') E s
def aA(C:gK)(cx:Cx)(x:Str)(i:Nat):Prop:=∀A env O T ρ α μ s E v V,bl C T α μ s→bh C cx env O ρ s.heap α (T++ai α μ)→bm s.heap α (T++ai α μ) v V→
 wpAny (model C.prog C.w) A (storeName env x v) (λzz s'=>gn C cx env O T α μ (ρ.set i (some V)) s s') E s
noncomputable def du(i:Nat):d0→PyData→Option d0:= λρ x=>some (ρ.set i (some (.d x)))
noncomputable def l3{X:Type}:List X→Option (X×X×X)
 | [a,b,c]=>some (a,b,c)
 |_=>none
theorem Yo{X:Type}{l:List X}{p:X×X×X}(h:l3 l=some p):l=[p.1,p.2.1,p.2.2]:=by
 cases l with
 |nil=>exact ct h
 |cons a l=>
  cases l with
  |nil=>exact ct h
  |cons b l=>
   cases l with
   |nil=>exact ct h
   |cons c l=>
    cases l with
    |nil=>cases h;rfl
    |cons d l=>exact ct h
noncomputable def ji(i j:Nat):d0→PyData→Option d0:= λρ d=>bp ((dT d).bind l2) λa b=>some ((ρ.set i (some (.d a))).set j (some (.d b)))
noncomputable def ZB(i j k:Nat):d0→PyData→Option d0:= λρ d=>bp ((dT d).bind l3) λa p=>some (((ρ.set i (some (.d a))).set j (some (.d p.1))).set k (some (.d p.2)))
theorem Qk{X:Type}{f:List PyData→Option X}{p:X}(h:(dT d).bind f=some p)(k:∀ds,d=.tuple ds→f ds=some p→G):G:=by
 cases q:dT d with
 |none=>rw [q] at h;exact ct h
 |some ds=>rw [q] at h;exact k ds (T8 q) h
theorem ib(r:aw h M vs (d::ds))(k:∀v us,vs=v::us→aJ h M v d→aw h M us ds→G):G:=by
 cases r with
 |ccons r rs=>exact k _ _ rfl r rs
theorem kC(r:aw h M vs []):vs=[]:=by
 cases r with
 |cnil=>rfl
section
theorem ti(i:Nat)(hn:cx.names[i]? =some (x,1))(hl:cx.scope.names.lookup x=some .local)(hk:cx.scope.kind=.function):aA C cx x i:= λzz zz zz zz zz zz zz zz zz zz zz I F r=>s_ i hn hl hk I F r
theorem eW(i:Nat)(hn:cx.names[i]? =some (x,2))(hl:cx.scope.names.lookup x=some .cell)(hk:cx.scope.kind=.function):aA C cx x i:= λzz zz zz zz zz zz zz zz zz zz zz I F r=>DZ i hn hl hk I F r
theorem bM(h:aA C cx x i):nM C cx (.Name x pos) false (du i):=by
 refine ⟨(jK x pos rfl),λA env O T ρ α μ s E v x ρ' hh I F r e=>?_⟩;refine cA e ?_;exact QA (h A env O T ρ α μ s E v (.d x) I F r)
theorem gn.trans{s2:Shared}(x:gn C cx env O T α μ ρ1 s s1)(y:gn C cx env O T α μ ρ2 s1 s2):gn C cx env O T α μ ρ2 s s2:=(fm y.1 (x.2.1.trans y.2.1) y.2.2)
theorem gT(x:P2 h.objs.size h h'):∀b o,h.get? b=some o→h'.get? b=some o:= λb o e=>x b o (LK (M7 e)) e
theorem bh.keeps(F:bh C cx env O ρ s.heap α (T++ai α μ))(I:bl C T α μ s)(hk:∀b o,s.heap.get? b=some o→h'.get? b=some o):bh C cx env O ρ h' α (T++ai α μ):=
 F.step (s':= {s with heap:=h'}) I (aV.keeps (tk:=s.toks) hk)
section
variable {s0:Shared}
theorem Jm{elts:List Expr}{Q:Unit→Shared→Prop}(hh:A.handled=none)(I:bl C T α μ s)(F:bh C cx env O ρ s.heap α (T++ai α μ))(r:fk true s.heap (T++ai α μ) v d)(e:d=.tuple ds)(hn:(assignEach elts env).length=ds.length)(hstar:(assignEach elts env).findIdx? (·.1)=none)
  (k:∀vs s1,bl C T α μ s1→bh C cx env O ρ s1.heap α (T++ai α μ)→aV O α μ s α μ s1→aw s1.heap (T++ai α μ) vs ds→wpAny (model C.prog C.w) A (assignInOrder ((assignEach elts env).map (·.2)) vs) Q E s1):wpAny (model C.prog C.w) A (assign (.Tuple elts kk pos) env v) Q E s:=by
 refine dj r λa items ds' zq3 zq4 ht rr=>?_;subst zq3;cases e.symm.trans zq4;refine SW hh ht (hn.trans (rr.length.symm.trans (Array.length_toList))) hstar λh' he=>?_;have hk:=gT he;exact k _ _ (I.keeps (tk:=s.toks) hk) (F.keeps I hk) (aV.keeps (tk:=s.toks) hk).up (rr.keeps hk)
theorem jZ{t:Value→Sem Unit}{ts:List (Value→Sem Unit)}{Q:Unit→Shared→Prop}(ht:∀v (Q:Unit→Shared→Prop),wpAny (model C.prog C.w) A (storeName env x v) Q E s→wpAny (model C.prog C.w) A (t v) Q E s)(hx:aA C cx x i)(I:bl C T α μ s)(F:bh C cx env O ρ s.heap α (T++ai α μ))(S:aV O α μ s0 α μ s)(r:aw s.heap (T++ai α μ) vs (d::ds))
  (k:∀us s1,bl C T α μ s1→bh C cx env O (ρ.set i (some (.d d))) s1.heap α (T++ai α μ)→aV O α μ s0 α μ s1→aw s1.heap (T++ai α μ) us ds→wpAny (model C.prog C.w) A (assignInOrder ts us) Q E s1):wpAny (model C.prog C.w) A (assignInOrder (t::ts) vs) Q E s:=
 ib r λv us e r rs=>e▸PV (ht v _ (D3 (hx A env O T ρ α μ _ E v (.d d) I F r) (λzz s2 st=>k us s2 st.1 st.2.2 (S.trans st.2.1) (rs.ext st.2.1.ext (iH.app λa ha=>.inr (.inl (F.own a ha).1)) λzz=>.inl)) λzz zz x=>x))
theorem fu{ts:List (Value→Sem Unit)}{Q:Unit→Shared→Prop}(hx:aA C cx x i)(I:bl C T α μ s)(F:bh C cx env O ρ s.heap α (T++ai α μ))(S:aV O α μ s0 α μ s)(r:aw s.heap (T++ai α μ) vs (d::ds))
  (k:∀us s1,bl C T α μ s1→bh C cx env O (ρ.set i (some (.d d))) s1.heap α (T++ai α μ)→aV O α μ s0 α μ s1→aw s1.heap (T++ai α μ) us ds→wpAny (model C.prog C.w) A (assignInOrder ts us) Q E s1):wpAny (model C.prog C.w) A (assignInOrder (assign (.Name x px) env::ts) vs) Q E s:=
 jZ (λzz zz h=>QA h) hx I F S r k
theorem kZ(I:bl C T α μ s)(F:bh C cx env O ρ s.heap α (T++ai α μ))(S:aV O α μ s0 α μ s)(r:aw s.heap (T++ai α μ) vs []):wpAny (model C.prog C.w) A (assignInOrder [] vs) (λzz s'=>gn C cx env O T α μ ρ s0 s') E s:=
 kC r▸assignInOrder_nil (fm I S F)
end
theorem eS{y:Str}(hx:aA C cx x i)(hy:aA C cx y j):nM C cx (.Tuple [.Name x px,.Name y py] kk pos) true (ji i j):=
 ⟨jC _ _ _ rfl,λA env O T ρ α μ s E v d ρ' hh I F r e=>aD e λa b q e=>Qk q λds ed q=>cA e (Jm hh I F r (ed.trans (congrArg _ (zJ q))) rfl rfl λzz zz I F S r=>fu hx I F S r λzz zz I F S r=>fu hy I F S r λzz zz I F S r=>kZ I F S r)⟩
theorem HV{y z:Str}{pz:Pos}(hx:aA C cx x i)(hy:aA C cx y j)(hz:aA C cx z k):nM C cx (.Tuple [.Name x px,.Name y py,.Name z pz] kk pos) true (ZB i j k):=
 ⟨jC _ _ _ rfl,λA env O T ρ α μ s E v d ρ' hh I F r e=>aD e λa b q e=>Qk q λds ed q=>cA e (Jm hh I F r (ed.trans (congrArg _ (Yo q))) rfl rfl λzz zz I F S r=>fu hx I F S r λzz zz I F S r=>fu hy I F S r λzz zz I F S r=>fu hz I F S r λzz zz I F S r=>kZ I F S r)⟩
end
def cQ(C:gK)(T α:List Addr)(μ:List ah)(s:Shared)(xs:List PyData)(g:Option Nat)(tup:Bool)(μ':List ah)(it:Value)(s':Shared):Prop:=
 ∃wr gi St Mid α',gY C it gi xs g tup St Mid∧bl C (wr++T) α' μ' s'∧aV [] α μ s α' μ' s'∧St wr (wr++T) α' μ' 0 s'∧(∀b∈wr,s.heap.get? b=none)∧(∀i∈gi,s.gens[i]? =none)∧cu g xs μ'
noncomputable abbrev IF:=d0→List ah→Option (List PyData×Option Nat×List ah)
structure lT (C:gK) (n:Nat) (cx:Cx) (e:Expr) (tup:Bool) (f:IF):Prop where
 of::
 run:∀A env O T ρ α μ s E xs g μ',cP A n→bl C T α μ s→bh C cx env O ρ s.heap α (T++ai α μ)→f ρ μ=some (xs,g,μ')→
  wpAny (model C.prog C.w) A (eval e env) (λv s1=>wpAny (model C.prog C.w) A (pyIter v) (cQ C T α μ s xs g tup μ') E s1) E s
section
theorem Er{g g':Array GenState}(h:∀ (i:Nat) (x:GenState),g[i]? =some x→g'[i]? =some x)(e:g'[i]? =none):g[i]? =none:=by
 cases q:g[i]? with
 |none=>rfl
 |some x=>rw [h i x q] at e;exact ct (ES e)
theorem cQ.trans{g:Option Nat}(x:aV [] α μ s α' μ' s')(p:cQ C T α' μ' s' xs g tup μ'' it s''):cQ C T α μ s xs g tup μ'' it s'':=by
 refine gv p λwr gi St Mid α'' W I S st hw hg hgd=>?_;exact (j1 wr gi St Mid α'' W I (x.trans S) st (λb hb=>dW x.dom (hw b hb)) (λi hi=>Er x.gens (hg i hi)) hgd)
theorem lA(hW:∀a∈W,s.heap.get? a=none):∀a∈(W++T)++ai α μ,a∈T++ai α μ∨s.heap.get? a=none:= λa ha=>
 (AZ.mp ha).elim (λh=>(AZ.mp h).elim (λh=>.inr (hW a h)) λh=>.inl (yg _ h)) λh=>.inl (D1 _ h)
theorem aJ.grow(r:aJ s.heap (T++ai α μ) v d)(hk:∀b o,s.heap.get? b=some o→s'.heap.get? b=some o)(hW:∀a∈W,s.heap.get? a=.none):aJ s'.heap ((W++T)++ai α μ) v d:=
 r.ext (W:=[]) (fZ.of_keeps hk) (iH.nil _ _) (lA hW)
theorem aw.grow{v:List Value}{d:List PyData}(r:aw s.heap (T++ai α μ) v d)(hk:∀b o,s.heap.get? b=some o→s'.heap.get? b=some o)(hW:∀a∈W,s.heap.get? a=none):aw s'.heap ((W++T)++ai α μ) v d:=
 r.ext (W:=[]) (fZ.of_keeps hk) (iH.nil _ _) (lA hW)
theorem bm.grow(r:bm s.heap α (T++ai α μ) v V)(hk:∀b o,s.heap.get? b=some o→s'.heap.get? b=some o)(hW:∀a∈W,s.heap.get? a=none):bm s'.heap α ((W++T)++ai α μ) v V:=
 r.ext (W:=[]) (fZ.of_keeps hk) (iH.nil _ _) (λzz zz=>id) (lA hW)
theorem bl.grow(I:bl C T α μ s)(hk:∀b o,s.heap.get? b=some o→s'.heap.get? b=some o)(hos:s'.os=s.os)(hb:AllBare s.gens→AllBare s'.gens)(hW:∀a∈W,s.heap.get? a=none)(hd:∀a∈W,∃o,s'.heap.get? a=some o):bl C (W++T) α μ s':=by
 refine ⟨λb o e=>hk b o (I.keep b o e),I.len,λi a c h1 h2=>(I.cells i a c h1 h2).ext (W:=[]) (fZ.of_keeps hk) (iH.nil _ _) (lA hW) (λzz q=>nomatch q),I.nodup,λa ha q=>(AZ.mp ha).elim (λh=>I.cdom q (hW a h)) (λh=>I.apart a h q),λa ha=>(AZ.mp ha).elim (hd a) (λh=>(I.tdom a h).imp λo e=>hk a o e),λa ha=>(AZ.mp ha).elim (λh=>?_) (I.tnew a),I.new,hb I.gens,hos.trans I.os⟩;cases e:C.B.get? a with
 |none=>rfl
 |some o=>exact ct ((hW a h).symm.trans (I.keep a o e))
theorem bh.grow(F:bh C cx env O ρ s.heap α (T++ai α μ))(hk:∀b o,s.heap.get? b=some o→s'.heap.get? b=some o)(hW:∀a∈W,s.heap.get? a=none):bh C cx env O ρ s'.heap α ((W++T)++ai α μ):=
 F.ext (W:=[]) (fZ.of_keeps hk) (iH.nil _ _) (λzz zz=>id) (lA hW) λzz zz q=>nomatch q
theorem aV.of_keeps(hk:∀b o,s.heap.get? b=some o→s'.heap.get? b=some o)(hg:∀ (i:Nat) (x:GenState),s.gens[i]? =some x→s'.gens[i]? =some x):aV [] α μ s α μ s':=
 ⟨(aZ ([]) (by simp) (by simp)),fZ.of_keeps hk,λzz h=>.inl h,λa o e=>⟨o,hk a o e⟩,hg⟩
theorem cQ.new{g:Option Nat}{St:xH}{Mid:List Addr→List Addr→List ah→Nat→Value→Shared→Prop}(I:bl C T α μ s)(W:lf C it wr [] xs g tup St Mid)
  (hk:∀b o,s.heap.get? b=some o→h'.get? b=some o) (hw:∀a∈wr,s.heap.get? a=none) (hd:∀a∈wr,∃o,h'.get? a=some o) (hg:cu g xs μ)
  (st:St (wr++T) α μ 0 {s with heap:=h',toks:=tk}):cQ C T α μ s xs g tup μ it {s with heap:=h',toks:=tk}:=
 (j1 wr ([]) (StW wr St) (Yd wr Mid) α W.walk (I.grow (s':= {s with heap:=h',toks:=tk}) hk rfl (λh=>h) hw hd) (aV.of_keeps hk λzz zz e=>e) ⟨rfl,st⟩ hw (by simp) hg)
theorem bw(ha:h.objs.size≤a):h.get? a=none:=by
 cases e:h.get? a with
 |none=>rfl
 |some o'=>exact absurd (M7 e) (Nat.not_lt.mpr ha)
theorem x_(h:da μ V=some xs):cu (EZ V) xs μ:=by
 intro j e;cases V with
 |c i=>refine cA e ?_;exact h
 |d x=>exact ct e
 |rng a b=>exact ct e
 |ty T=>exact ct e
theorem Db:∀b∈[h.objs.size],h.get? b=none:= λzz hb=>(Ab.mp hb)▸bw (DW _)
theorem cQ.push{g:Option Nat}{St:xH}{Mid:List Addr→List Addr→List ah→Nat→Value→Shared→Prop}(I:bl C T α μ s)(W:lf C (.ref s.heap.objs.size) [s.heap.objs.size] [] xs g tup St Mid)(hg:cu g xs μ)(hf:o.isFreed=false)
  (st:St ([s.heap.objs.size]++T) α μ 0 {s with heap:=s.heap.push o}):cQ C T α μ s xs g tup μ (.ref s.heap.objs.size) {s with heap:=s.heap.push o}:=
 cQ.new (tk:=s.toks) I W (bb _ _) Db (λb hb=>(Ab.mp hb)▸⟨_,Dp _ hf⟩) hg st
theorem CO(I:bl C T α μ s)(r:bm s.heap α (T++ai α μ) v V)(h:da μ V=some xs)(ht:tup=false∨nE xs=true):
  wpAny (model C.prog C.w) A (pyIter v) (cQ C T α μ s xs (EZ V) tup μ) E s:=by
 refine bq (r.isList I h) λa items zq2 hp rr=>?_;subst zq2;refine M3 hp.isList ?_;exact cQ.push I (gY.list (V:=V) (λq=>fO (fG hp) (bw (Tu q.symm))) λq=>ht.elim (λz=>nomatch q.symm.trans z) id) (x_ h) rfl (fm (cJ _ (Dp _ rfl) rfl rfl) (r.grow (s':= {s with heap:=_}) (bb _ _) Db) h)
theorem yX(I:bl C T α μ s)(r:bm s.heap α (T++ai α μ) v (.d (.tuple xs))):
  wpAny (model C.prog C.w) A (pyIter v) (cQ C T α μ s xs none false μ) E s:=by
 cases r with
 | @ctuple a items _ hp haM rr=>
 refine wpAny_pyIter_tuple hp ?_;exact cQ.push I (gY.tuple (items:=items) λq=>fO (h_ hp) (bw (Tu q.symm))) (λzz e=>nomatch e) rfl (lj (cJ _ (Dp _ rfl) rfl rfl) (jX hp (W:=[]) (fZ.of_keeps (bb _ _)) (λq=>nomatch q)) (rr.grow (s':= {s with heap:=_}) (bb _ _) Db) (λq=>(lA Db a q).elim haM (fO (h_ hp))))
theorem zT{a b:Int}(I:bl C T α μ s)(r:bm s.heap α (T++ai α μ) v (.rng a b))(hsm:JB a b 1=true):
  wpAny (model C.prog C.w) A (pyIter v) (cQ C T α μ s (fI a (b-a).toNat) none false μ) E s:=by
 refine qP r λr t u w zq4 hr hM=>?_;subst zq4;refine wpAny_pyIter_range hr hsm ?_;have hz:M9 a b 1=((b-a).toNat:Int)-(0:Nat):=by
  unfold M9;simp only [show (1:Int)>0 by decide,if_true]
  split<;>lia
 refine cQ.push I gY.range (λzz e=>nomatch e) rfl (?_:IsRangeIter _ s.heap.objs.size (a+((0:Nat):Int)*1) (((b-a).toNat:Int)-(0:Nat)) 1);rw [←hz,show a+((0:Nat):Int)*1=a by lia];exact Dp _ rfl
end
theorem aa2(h:Ke V=some xs):V=.d (.tuple xs):=ax h λd e1 e2=>(iN e1).trans (congrArg _ (T8 e2))
noncomputable def XF:AV→Option (Int×Int)
 | .rng a b=>some (a,b)
 |_=>none
theorem Rk{p:Int×Int}(h:XF V=some p):V=.rng p.1 p.2:=by
 cases V with
 |rng a b=>cases h;rfl
 |_=>exact ct h
def aK(tup:Bool)(f:EF):IF:= λρ μ=>bp (f ρ μ) λV μ1=>oe (Ke V) (some ()) (λxs zz=>if tup=false then some (xs,none,μ1) else none) (oe (XF V) (some ()) (λr zz=>if tup=false∧JB r.1 r.2 1=true then some (fI r.1 (r.2-r.1).toNat,none,μ1) else none)
 (bo (da μ1 V) λxs=>if tup=false∨nE xs=true then some (xs,EZ V,μ1) else none))
section
theorem c5(hf:ab C n cx e f):lT C n cx e tup (aK tup f):=by
 refine .of ?_;intro A env O T ρ α μ s E xs g μ' R I F h;refine aD h λV μ1 e1 h=>hf.go R I F e1 λv s1 α1 I1 S1 r1=>?_;refine bV h (λys zz e2 zz h=>i6 h λhq h=>?_) λh=>bV h (λp zz e2 zz h=>i6 h λhq h'=>?_) λh=>ax h λys e2 h=>i6 h λhq h=>?_
 ·subst hq
  exact gp h (D3 (yX I1 (aa2 e2▸r1)) (λzz zz q=>cQ.trans S1 q) λzz zz x=>x)
 ·refine fY hq λz hsm=>?_
  subst z;exact gp h' (D3 (zT I1 (Rk e2▸r1) hsm) (λzz zz q=>cQ.trans S1 q) λzz zz x=>x)
 ·exact gp h (D3 (CO I1 r1 e2 hq) (λzz zz q=>cQ.trans S1 q) λzz zz x=>x)
noncomputable abbrev iT:=List AV→List ah→Option (List PyData×Option Nat×List ah)
def ii(C:gK)(n:Nat)(f:Value)(tup:Bool)(spec:iT):Prop:=∀A T α μ s E vs Vs xs g μ',cP A n→bl C T α μ s→eZ s.heap α (T++ai α μ) vs Vs→spec Vs μ=some (xs,g,μ')→
 wpAny (model C.prog C.w) A (call f vs) (λv s1=>wpAny (model C.prog C.w) A (pyIter v) (cQ C T α μ s xs g tup μ') E s1) E s
def b_(fs:List EF)(spec:iT):IF:= λρ μ=>bp (eY fs ρ μ) spec
variable {spec:iT}
theorem SU(hg:C.mg x=none)(hb:bootBuiltins x=some fv)(hx:x≠"__name__")(hn:kW fv)(hf:ii C n fv tup spec)
  (ha:de C n cx (e::es) fs) (hs:∀env,starEach (e::es) env=(false,eval e env)::starEach es env) (hp:∀env,(backTo pos (starEach (e::es) env)).any (·.1)=false)
  (hl:cx.scope.names.lookup x=some .globalImplicit) (hk:cx.scope.kind=.function) (hdb:(x==("__debug__":Str))=false):
  lT C n cx (.Call (.Name x xp) (e::es) [] pos) tup (b_ fs spec):=by
 refine .of ?_;intro A env O T ρ α μ s E xs g μ' R I F h;refine aD h λVs μ1 e1 h=>?_
 ·refine (?_:wpAny _ A (do callWith pos (←eval (.Name x xp) env) [] (backTo pos (starEach (e::es) env)) []) _ _ s)
  refine yK (F6 (by rw [F.sc];exact hk) (by unfold IC;rw [F.sc];exact hl) (Lg (by rw [F.gl];exact C.g.keeps I.keep) hg (by rw [F.bn];exact C.b.keeps I.keep) ((C.bt x hx).trans hb) ?_) hdb);refine hn _ _ _ _ _ _ _ _ (hp env) (ee (hs env) ha R I F e1 λvs s1 α1 I1 S1 r1=>?_);exact D3 (hf A T α1 μ1 s1 E vs Vs xs g μ' R I1 r1 h) (λv s2 p=>D3 p (λzz zz q=>cQ.trans S1 q) λzz zz x=>x) λzz zz x=>x
theorem LP{fd:FuncData}(hg:C.mg x=some (.ref fa))(ho:C.B.get? fa=some o)(hd:o.data=.func fd)(hf:ii C n (.ref fa) tup spec)
  (ha:de C n cx (e::es) fs) (hs:∀env,starEach (e::es) env=(false,eval e env)::starEach es env)
  (hl:cx.scope.names.lookup x=some .globalImplicit) (hk:cx.scope.kind=.function) (hdb:(x==("__debug__":Str))=false):
  lT C n cx (.Call (.Name x xp) (e::es) [] pos) tup (b_ fs spec):=by
 refine .of ?_;intro A env O T ρ α μ s E xs g μ' R I F h;refine aD h λVs μ1 e1 h=>?_
 ·refine (?_:wpAny _ A (do callWith pos (←eval (.Name x xp) env) [] (backTo pos (starEach (e::es) env)) []) _ _ s)
  refine yK (F6 (by rw [F.sc];exact hk) (by unfold IC;rw [F.sc];exact hl) (L6 (by rw [F.gl];exact C.g.keeps I.keep) hg ?_) hdb);refine MB (o:=o) (fd:=fd) (ee (hs env) ha R I F e1 λvs s1 α1 I1 S1 r1=>⟨⟨I1.keep _ _ ho,hd⟩,?_⟩);exact D3 (hf A T α1 μ1 s1 E vs Vs xs g μ' R I1 r1 h) (λv s2 p=>D3 p (λzz zz q=>cQ.trans S1 q) λzz zz x=>x) λzz zz x=>x
end
variable {itf : IF}
noncomputable def f_:iT:= λVs μ=>bo (l1 Vs) λV=>bp (wg V μ) λd μ1=>bo (dL d) λxs=>some (cL 0 xs,none,μ1)
theorem Ij(r:aJ h M v (.list xs)):∃a items,v=.ref a∧h.PlainList a items∧a<h.objs.size:=
 bq r.of_list λa items z hp zz=>dw a items z hp (bP hp λn e=>M7 e)
theorem gE(r:eZ h α M vs Vs)(e:l1 Vs=some V)(k:∀v,vs=[v]→bm h α M v V→G):G:=by
 rw [Wa e] at r
 exact au (H4 r) k
theorem uY{a:Nat}(h:a<k)(j:Nat):a≠k+j:=LK (Om h (Fi ..))
theorem iO:ii C n (.type "enumerate") true f_:=by
 intro A T α μ s E vs Vs xs g μ' R I r h;refine ax h λV eV h=>aD h λd μ1 e1 h=>ax h λys ed h=>gp h (gE r eV λv zq1 r1=>?_);subst zq1;refine dU (tR I r1 e1) λI1 S1 r2=>?_;rw [Vm ed] at r2
 refine bq (Ij r2) λa items zq2 hp hlt=>?_;subst zq2;refine call_enumerate_list hp.isList λh' he hi hsz hk=>Qz he (cQ.trans S1 ?_);have hw:∀b∈[s.heap.objs.size+1,s.heap.objs.size],s.heap.get? b=none∧∃o,h'.get? b=some o:= λb hb=>(C1.mp hb).elim (λq=>q▸⟨bw (P1 _),_,he⟩) λq=>(Ab.mp q)▸⟨bw (DW _),au hi λo e zz=>⟨o,e⟩⟩;exact cQ.new (tk:=s.toks) I1 (gY.enum (e:=s.heap.objs.size+1) (it:=s.heap.objs.size) (l:=a) (Nr _) (uY hlt 1) (uY hlt 0)) hk (λb hb=>(hw b hb).1) (λb hb=>(hw b hb).2) (λzz e=>nomatch e) (fm ⟨_,he⟩ hi (bm.grow (V:=.d (.list ys)) (s':= {s with heap:=h'}) r2 hk λb hb=>(hw b hb).1))
noncomputable def lg:iT:= λVs μ=>bp (lJ Vs μ) λds μ1=>bp (l2 ds) λx y=>oe (dL x) (dL y) (λxs ys=>some (mM xs ys,none,μ1)) none
noncomputable def BQ:iT:= λVs μ=>bp (lJ Vs μ) λds μ1=>bp (l3 ds) λx p=>oe (dL x) (dL p.1) (λxs ys=>bo (dL p.2) λzs=>some (vb xs ys zs,none,μ1)) none
theorem iy(r:aw h M vs (d::ds))(e:dL d=some xs)(k:∀a items us,vs=.ref a::us→aJ h M (.ref a) (.list xs)→h.PlainList a items→a<h.objs.size→aw h M us ds→G):G:=by
 rw [Vm e] at r
 exact ib r λv us z r1 rs=>bq (Ij r1) λa items zv hp hl=>k a items us (zv▸z) (zv▸r1) hp hl rs
theorem AS:ii C n (.type "zip") true lg:=by
 intro A T α μ s E vs Vs xs g μ' R I r h;refine aD h λds μ1 e1 h=>aD h λx y el h=>bV h (λxs1 ys1 ex ey h=>gp h ?_) λh=>ct h;refine dU (jl I r e1) λI1 S1 r2=>?_;rw [zJ el] at r2
 refine iy r2 ex λa its1 us zu q1 hp1 hl1 r2=>iy r2 ey λb its2 us2 zu2 q2 hp2 hl2 r2=>?_;cases kC r2;subst zu2;subst zu;refine call_zip_2 hp1.isList hp2.isList λh' hz hTI hTO i1 i2 hsz hk=>Ph hz (cQ.trans S1 ?_);have hw:∀b∈[s.heap.objs.size+4,s.heap.objs.size+2,s.heap.objs.size+3,s.heap.objs.size,s.heap.objs.size+1],s.heap.get? b=none∧∃o,h'.get? b=some o:= λb hb=>EH (P:= λb=>s.heap.get? b=none∧∃o,h'.get? b=some o) ⟨bw (Fi ..),_,hz⟩ ⟨bw (Fi ..),_,hTI⟩ ⟨bw (Fi ..),_,hTO⟩ ⟨bw (DW _),au i1 λo e zz=>⟨o,e⟩⟩ ⟨bw (Fi ..),au i2 λo e zz=>⟨o,e⟩⟩ hb;have hw1:= λb hb=>(hw b hb).1;have na:=uY hl1;have nb:=uY hl2;have D:ZipApart (s.heap.objs.size+4) (s.heap.objs.size+2) (s.heap.objs.size+3) s.heap.objs.size (s.heap.objs.size+1) a b:=by
  constructor<;>first|exact na _|exact nb _|exact na 0|exact nb 0| (refine LK ?_;lia)| (refine PT ?_;lia)
 exact cQ.new (tk:=s.toks) I1 (gY.zip2 (xs:=xs1) (ys:=ys1) D ⟨(na 2).symm,(nb 2).symm⟩) hk hw1 (λc hc=>(hw c hc).2) (λzz e=>nomatch e) (ue ⟨hz,hTI,_,_,hTO⟩ i1 i2 (bm.grow (V:=.d (.list xs1)) (s':= {s with heap:=h'}) q1 hk hw1) (bm.grow (V:=.d (.list ys1)) (s':= {s with heap:=h'}) q2 hk hw1))
theorem nd6(k:Nat):([k+5,k+3,k+4,k,k+1,k+2]:List Nat).Nodup:=by
 simp only [Jy,C1,E4,or_false,not_false_eq_true,MQ,and_true];lia
theorem Tp{a:Nat}(h:a<k):a∉([k+5,k+3,k+4,k,k+1,k+2]:List Nat):=by
 simp only [C1,E4,or_false];lia
theorem Mk:ii C n (.type "zip") true BQ:=by
 intro A T α μ s E vs Vs xs g μ' R I r h;refine aD h λds μ1 e1 h=>aD h λx p el h=>bV h (λxs1 ys1 ex ey h=>ax h λzs1 ez h=>gp h ?_) λh=>ct h;refine dU (jl I r e1) λI1 S1 r2=>?_;rw [Yo el] at r2
 refine iy r2 ex λa its1 us zu q1 hp1 hl1 r2=>iy r2 ey λb its2 us2 zu2 q2 hp2 hl2 r2=>iy r2 ez λc its3 us3 zu3 q3 hp3 hl3 r2=>?_;cases kC r2;subst zu3;subst zu2;subst zu;refine Ar hp1.isList hp2.isList hp3.isList λh' hz hTI hTO i1 i2 i3 hk=>Ph hz (cQ.trans S1 ?_);have hw:∀b∈[s.heap.objs.size+5,s.heap.objs.size+3,s.heap.objs.size+4,s.heap.objs.size,s.heap.objs.size+1,s.heap.objs.size+2],s.heap.get? b=none∧∃o,h'.get? b=some o:= λb hb=>(C1.mp hb).elim (λq=>q▸⟨bw (Fi ..),_,hz⟩) (EH (P:= λb=>s.heap.get? b=none∧∃o,h'.get? b=some o) ⟨bw (Fi ..),_,hTI⟩ ⟨bw (Fi ..),_,hTO⟩ ⟨bw (DW _),au i1 λo e zz=>⟨o,e⟩⟩ ⟨bw (Fi ..),au i2 λo e zz=>⟨o,e⟩⟩ ⟨bw (Fi ..),au i3 λo e zz=>⟨o,e⟩⟩);have hw1:= λb hb=>(hw b hb).1;exact cQ.new (tk:=s.toks) I1 (gY.zip3 (xs:=xs1) (ys:=ys1) (zs:=zs1) ⟨nd6 _,Tp hl1,Tp hl2,Tp hl3⟩) hk hw1 (λc hc=>(hw c hc).2) (λzz e=>nomatch e) (KC ⟨hz,hTI,_,_,_,hTO⟩ i1 i2 i3 (bm.grow (V:=.d (.list xs1)) (s':= {s with heap:=h'}) q1 hk hw1) (bm.grow (V:=.d (.list ys1)) (s':= {s with heap:=h'}) q2 hk hw1) (bm.grow (V:=.d (.list zs1)) (s':= {s with heap:=h'}) q3 hk hw1))
section
variable {O2:List Addr}
theorem Ct(hT:∀a∈T',a∈T∨s.heap.get? a=none):∀a∈T'++ai α μ,a∈T++ai α μ∨s.heap.get? a=none:= λa ha=>
 (AZ.mp ha).elim (λh=>(hT a h).imp_left (yg _)) λh=>.inl (D1 _ h)
theorem aw.movesG{v:List Value}{d:List PyData}(r:aw s.heap (T++ai α μ) v d)(x:aG wr gi s s')(hw:∀b∈wr,b∈T)(hT:∀a∈T',a∈T∨s.heap.get? a=none):aw s'.heap (T'++ai α μ) v d:=r.ext x.ext (nX (iR hw)) (Ct hT)
theorem bm.movesG(r:bm s.heap α (T++ai α μ) v V)(x:aG wr gi s s')(hw:∀b∈wr,b∈T)(hT:∀a∈T',a∈T∨s.heap.get? a=none):bm s'.heap α (T'++ai α μ) v V:=r.ext x.ext (nX (iR hw)) (λzz zz=>id) (Ct hT)
theorem bh.movesG(F:bh C cx env O ρ s.heap α (T++ai α μ))(x:aG wr gi s s')(hw:∀a∈wr,a∈T)(hT:∀a∈T',a∈T∨s.heap.get? a=none):bh C cx env O ρ s'.heap α (T'++ai α μ):=
 F.ext x.ext (nX (iR hw)) (λzz zz=>id) (Ct hT) λa ha h=>F.off a (yg _ (hw a h)) ha
theorem bh.moves(F:bh C cx env O ρ s.heap α (T++ai α μ))(x:aG wr gi s s')(hw:∀a∈wr,a∈T):bh C cx env O ρ s'.heap α (T++ai α μ):=F.movesG x hw λzz=>.inl
def dt(D:Addr)(acc:List PyData)(T α:List Addr)(μ:List ah)(s:Shared):Prop:=∃items,s.heap.PlainList D items∧aw s.heap (T++ai α μ) items.toList acc
theorem dt.stepO(x:dt D acc T α μ s)(I:bl C T α μ s)(hD:D∈T)(y:aV O2 α μ s α' μ' s')(hO:iH O2 T s.heap)(hn:D∉O2):dt D acc T α' μ' s':=by
 refine au x λitems p r=>?_;exact (aZ items (eP p y.ext λq=>(AZ.mp q).elim hn λq=>I.apart D hD (db q)) (r.stepO y hO λa ha=>.inl ha))
theorem dt.moves(x:dt D acc T α μ s)(y:aG wr gi s s')(hw:∀a∈wr,a∈T)(hn:D∉wr):dt D acc T α μ s':=by
 refine au x λitems p r=>?_;exact (aZ items (eP p y.ext hn) (r.moves y hw))
theorem dt.movesG(x:dt D acc T α μ s)(y:aG wr gi s s')(hw:∀a∈wr,a∈T)(hn:D∉wr)(hT:∀a∈T',a∈T∨s.heap.get? a=none):dt D acc T' α μ s':=by
 refine au x λitems p r=>?_;exact (aZ items (eP p y.ext hn) (r.movesG y hw hT))
theorem aV.of_moves(x:aG wr [] s s')(hd:∀a∈wr,∃o,s'.heap.get? a=some o):aV wr α μ s α μ s':=
 ⟨aZ [] (DN _).symm (λzz h=>nomatch h),λb o e ht=>x.heap b o (λq=>ht (yg _ q)) e,λzz=>.inl,λa o e=>(UU (a∈wr)).elim (hd a) λq=>⟨o,x.heap a o q e⟩,λi z e=>x.gens i z (λh=>nomatch h) e⟩
end
noncomputable abbrev CF:=d0→List ah→List PyData→Option (d0×List ah×List PyData)
def Bx(C:gK)(cx:Cx)(T α:List Addr)(μ:List ah)(s:Shared)(cenv:Env)(Cn D:Addr)(ρ':d0)(μ':List ah)(acc':List PyData)(s':Shared):Prop:=
 ∃α',bl C T α' μ' s'∧aV [Cn,D] α μ s α' μ' s'∧bh C cx cenv [Cn] ρ' s'.heap α' (T++ai α' μ')∧dt D acc' T α' μ' s'
structure Y3 (C:gK) (n:Nat) (cx:Cx) (m:Value→Env→Sem Unit) (cf:CF):Prop where
 of::
 run:∀A cenv Cn D T ρ α μ s E acc ρ' μ' acc',cP A n→D∈T→bl C T α μ s→bh C cx cenv [Cn] ρ s.heap α (T++ai α μ)→dt D acc T α μ s→cf ρ μ acc=some (ρ',μ',acc')→
  wpAny (model C.prog C.w) A (m (.ref D) cenv) (λzz s'=>Bx C cx T α μ s cenv Cn D ρ' μ' acc' s') E s
noncomputable def Ru(elt:Expr):Value→Env→Sem Unit:= λacc env=>do let _←call (.builtin "list.append") [acc,←eval elt env]
def aY(f:EF):CF:= λρ μ acc=>bp (f ρ μ) λV μ1=>bp (wg V μ1) λd μ2=>if acc.length≤sizeLine then some (ρ,μ2,acc++[d]) else none
section
theorem OJ(hf:ab C n cx elt f):Y3 C n cx (Ru elt) (aY f):=by
 refine .of ?_;intro A cenv Cn D T ρ α μ s E acc ρ' μ' acc' R hD I F ac h;refine aD h λV μ1 e1 h=>aD h λd μ2 e2 h=>i6 h λhz h=>gp h ?_;refine yK (hf.go R I F e1 λv s1 α1 I1 S1 r1=>?_);refine dU (tR I1 r1 e2) λI2 S2 r2=>?_;have S12:=S1.trans S2;refine au (ac.stepO I hD S12 (iH.nil _ _) (E4)) λitems hp rr=>?_;refine yK (QV hp (λh' hl' hs'=>Ez ?_) (by rw [show items.size=acc.length from by rw [←rr.length];simp];exact hz));have mv:aG [D] [] s1 {s1 with heap:=h'}:=aG.of_heap (tk:=s1.toks) λb o hb e=>(hs'.2 b λq=>hb (Ab.mpr q)).trans e;have hw:∀b∈[D],b∈T:= λb hb=>Ab.mp hb▸hD;have hd:∀b∈[D],∃o,h'.get? b=some o:= λb hb=>Ab.mp hb▸bP hl' λk e=>⟨_,e⟩;exact (jd α1 (I2.moves mv hw hd) ((S12.up).trans ((aV.of_moves mv hd).weak λa ha=>.inl (D2 _ ha))) ((F.step I S12).moves mv hw) _ hl' (by rw [Tb];exact (rr.moves mv hw).append (.cons (r2.moves mv hw) (aw.nil _ _))))
structure iZ (C:gK) (n:Nat) (cx:Cx) (ifs:List Expr) (t:TF):Prop where
 of::
 run:∀A env O T ρ α μ s E r μ',cP A n→bl C T α μ s→bh C cx env O ρ s.heap α (T++ai α μ)→t ρ μ=some (r,μ')→
  wpAny (model C.prog C.w) A (forIn ifs true λc r=>if r=true then do let ok←isTrue c env (eval c env);pure (Lv ok) else pure (Lv r)) (λb s'=>b=r∧∃α',bl C T α' μ' s'∧aV [] α μ s α' μ' s') E s
def bg:TF:= λzz μ=>some (true,μ)
theorem cG:iZ C n cx [] bg:=by
 refine .of ?_;intro A env O T ρ α μ s E r μ' R I F h;refine cg h ?_;exact wpAny_tests_nil (gO rfl α I (aV.refl _ _ _ _))
theorem j3{c:Expr}(ht:gN C n cx c t):iZ C n cx [c] t:=by
 refine .of ?_;intro A env O T ρ α μ s E r μ' R I F h;exact wpAny_tests_one (ht.run A env O T ρ α μ s E r μ' R I F h)
def cW(t:TF)(cf:CF):CF:= λρ μ acc=>bp (t ρ μ) λb μ1=>cond b (cf ρ μ1 acc) (some (ρ,μ1,acc))
end
open Classical in
def f5(tf:d0→PyData→Option d0)(cf:CF)(g:Option Nat)(xs:List PyData)(r:List PyData):CF:=
 r.foldr (λx k ρ μ acc=>bo (tf ρ x) λρ1=>bp (cf ρ1 μ acc) λρ2 p=>if cu g xs p.1 then k ρ2 p.1 p.2 else none) λρ μ acc=>some (ρ,μ,acc)
open Classical in
theorem pT{cf:CF}{g:Option Nat}{r:List PyData}{x:PyData}:f5 tf cf g xs (x::r) ρ μ acc=bo (tf ρ x) λρ1=>bp (cf ρ1 μ acc) λρ2 p=>if cu g xs p.1 then f5 tf cf g xs r ρ2 p.1 p.2 else none:=rfl
abbrev gG(elt:Expr)(gens:List Comprehension)(scope:Scope)(pos:Pos)(d:Nat)(target iter:Expr)(ifs:List Expr)(K:Value→Env→Sem Fin→Sem Fin):Prop:=∀it acc env,
 compTurn (.ListComp elt gens scope pos) d it acc env=(standAt iter.pos>>= λzz=>pyNext it>>= λr=>match r with
  |none=>pure (.done .next)
  |some v=>letOwnedTupleGo target it v>>= λzz=>assign target env v>>= λzz=>
   (forIn ifs true λc r=>if r=true then do let ok←isTrue c env (eval c env);pure (Lv ok) else pure (Lv r))>>= λok=>
    if ok=true then K acc env (again (.compLoop (.ListComp elt gens scope pos) d it acc env)) else again (.compLoop (.ListComp elt gens scope pos) d it acc env))
noncomputable def KB(elt:Expr):Value→Env→Sem Fin→Sem Fin:= λacc env k=>Ru elt acc env>>= λzz=>k
theorem bN(elt target iter:Expr)(ifs:List Expr)(scope:Scope)(pos:Pos):gG elt [⟨target,iter,ifs,0⟩] scope pos 0 target iter ifs (KB elt):= λzz zz zz=>rfl
theorem CQ(elt target iter:Expr)(ifs:List Expr)(scope:Scope)(pos:Pos)(g:Comprehension):gG elt [g,⟨target,iter,ifs,0⟩] scope pos 1 target iter ifs (KB elt):= λzz zz zz=>rfl
noncomputable def Hl(e:Expr)(iter:Expr):Value→Env→Sem Fin→Sem Fin:= λacc env k=>do
 let x←eval iter env
 standAt iter.pos
 let x←foldedSetIterable iter env x
 let it←holding [x] (pyIter x)
 let _←runOwn (.compStart e 1 it acc env) env
 k
theorem ie(elt target iter:Expr)(ifs:List Expr)(scope:Scope)(pos:Pos)(target' iter':Expr)(ifs':List Expr):
 gG elt [⟨target,iter,ifs,0⟩,⟨target',iter',ifs',0⟩] scope pos 0 target iter ifs (Hl (.ListComp elt [⟨target,iter,ifs,0⟩,⟨target',iter',ifs',0⟩] scope pos) iter'):= λzz zz zz=>rfl
variable {cf : CF}
structure lz (C:gK) (n:Nat) (cx:Cx) (K:Value→Env→Sem Fin→Sem Fin) (cf:CF):Prop where
 of::
 run:∀A cenv Cn D T ρ α μ s E Q k acc ρ' μ' acc',cP A n→D∈T→bl C T α μ s→bh C cx cenv [Cn] ρ s.heap α (T++ai α μ)→dt D acc T α μ s→cf ρ μ acc=some (ρ',μ',acc')→
  (∀s',Bx C cx T α μ s cenv Cn D ρ' μ' acc' s'→wpAny (model C.prog C.w) A k Q E s')→wpAny (model C.prog C.w) A (K (.ref D) cenv k) Q E s
section
theorem bZ(hf:ab C n cx elt f):lz C n cx (KB elt) (aY f):=by
 refine .of ?_;intro A cenv Cn D T ρ α μ s E Q k acc ρ' μ' acc' R hD I F ac h hk;exact yK (D3 ((OJ hf).run A cenv Cn D T ρ α μ s E acc ρ' μ' acc' R hD I F ac h) (λzz s' p=>hk s' p) λzz zz x=>x)
theorem bh.mono(F:bh C cx env O ρ h α M)(hm:∀a∈M',a∈M):bh C cx env O ρ h α M':=
 F.ext (fZ.refl [] h) (iH.nil _ _) (λzz zz=>id) (λa ha=>.inl (hm a ha)) λzz zz q=>nomatch q
theorem mj{m:List Addr}:∀a∈T++m,a∈(wr++T)++m:= λa ha=>(AZ.mp ha).elim (λh=>yg _ (D1 _ h)) (D1 _)
theorem vr{x:PyData}(e:xs[i]? =some x):xs.drop i=x::xs.drop (i+1):=by
 refine bP (Bm.mp e) λh e'=>?_;rw [MX h,e']
variable {gens:List Comprehension} {d:Nat} {ifs:List Expr} {K:Value→Env→Sem Fin→Sem Fin}
theorem GT{g:Option Nat}{r:List PyData}{x:PyData}{P:Prop}(h:f5 tf (cW t cf) g xs (x::r) ρ μ acc=some (ρ',μ',acc'))
  (H:∀ρ1 b μ1 ρ2 μ2 acc2,tf ρ x=some ρ1→t ρ1 μ=some (b,μ1)→(if b=true then cf ρ1 μ1 acc=some (ρ2,μ2,acc2) else ρ2=ρ1∧μ2=μ1∧acc2=acc)→cu g xs μ2→f5 tf (cW t cf) g xs r ρ2 μ2 acc2=some (ρ',μ',acc')→P):P:=by
 refine ax h λρ1 e1 h=>aD h λρ2 p e2 h=> @i6 _ (QY _) _ _ _ _ h λq h=>?_;refine aD e2 λb μ1 e3 e2=>?_;cases b with
 |true=>exact H ρ1 true μ1 ρ2 p.1 p.2 e1 e3 (by rw [if_pos rfl];exact e2) q h
 |false=>exact H ρ1 false μ1 ρ2 p.1 p.2 e1 e3 (by rw [if_neg G_];exact gp e2 (fm rfl rfl rfl)) q h
abbrev Xc(C:gK)(cx:Cx)(T:List Addr)(cenv:Env)(Cn D:Addr)(α₀:List Addr)(μ₀:List ah)(s₀:Shared)(St:List Addr→xH)(xs:List PyData)(F:List PyData→d0→List ah→List PyData→Prop)(k:Nat)(s:Shared):Prop:=
 ∃wr i ρ α μ acc,(Cn∉wr∧(∀a∈T,a∉wr)∧∀b∈wr,s₀.heap.get? b=none)∧k=xs.length+1-i∧i≤xs.length∧bl C (wr++T) α μ s∧bh C cx cenv [Cn] ρ s.heap α ((wr++T)++ai α μ)∧dt D acc (wr++T) α μ s∧St wr (wr++T) α μ i s∧aV [Cn,D] α₀ μ₀ s₀ α μ s∧F (xs.drop i) ρ μ acc
theorem Xc.mk{F:List PyData→d0→List ah→List PyData→Prop}
  (h1:Cn∉wr) (h2:∀a∈T,a∉wr) (h3:∀b∈wr,s₀.heap.get? b=none) (hk:k=xs.length+1-i) (hi:i≤xs.length) (I:bl C (wr++T) α μ s) (Fr:bh C cx cenv [Cn] ρ s.heap α ((wr++T)++ai α μ)) (ac:dt D acc (wr++T) α μ s) (st:St wr (wr++T) α μ i s) (S:aV [Cn,D] α₀ μ₀ s₀ α μ s) (h:F (xs.drop i) ρ μ acc):Xc C cx T cenv Cn D α₀ μ₀ s₀ St xs F k s:=
 (nU wr i ρ α μ acc ⟨h1,h2,h3⟩ hk hi I Fr ac st S h)
theorem Cu{wr1:List Addr}{h0:Heap}(hfr:∀b∈wr1,b∈wr∨h.get? b=none):(∀a∈wr1++T,a∈wr++T∨h.get? a=none)∧((∀b∈wr,h0.get? b=none)→(∀b o,h0.get? b=some o→∃o',h.get? b=some o')→∀b∈wr1,h0.get? b=none)∧∀a,a∉wr→(∃o,h.get? a=some o)→a∉wr1:=
 fm (λa ha=>(AZ.mp ha).elim (λq=>(hfr a q).imp_left (yg _)) λq=>.inl (D1 _ q)) (λhw hd b hb=>(hfr b hb).elim (hw b) (dW hd)) λa hn ho q=>(hfr a q).elim hn λq=>bP ho λo e=>ct (q.symm.trans e)
theorem AK{a:Nat}(h:i<a):a+1-(i+1)<a+1-i:=Nat.sub_lt_sub_left (P3 h) (Rf i)
theorem iZ.go{Q:Bool→Shared→Prop}{r:Bool}(ht:iZ C n cx ifs t)(R:cP A n)(I:bl C T α μ s)(F:bh C cx env O ρ s.heap α (T++ai α μ))(e:t ρ μ=some (r,μ'))
  (k:∀α' s',bl C T α' μ' s'→aV [] α μ s α' μ' s'→Q r s'):wpAny (model C.prog C.w) A (forIn ifs true λc r=>if r=true then do let ok←isTrue c env (eval c env);pure (Lv ok) else pure (Lv r)) Q E s:=
 D3 (ht.run A env O T ρ α μ s E r μ' R I F e) (λzz s' p=>ic p λq α' I' S'=>q▸k α' s' I' S') λzz zz x=>x
theorem DU{g:Option Nat}{Q:Fin→Shared→Prop}
  (turn:gG elt gens scope pos d target iter ifs K) (tg:nM C cx target tup tf) (ts:iZ C n cx ifs t) (ck:lz C n cx K cf) (R:cP A n) (hn2:2≤n) (hD:D∈T) (W:gY C it gi xs g tup St Mid)
  (hCw:Cn∉wr) (hCD:Cn≠D) (hTw:∀a∈T,a∉wr) (hw0:∀b∈wr,s₀.heap.get? b=none) (hg0:∀i∈gi,s₀.gens[i]? =none)
  (I:bl C (wr++T) α μ s) (F:bh C cx cenv [Cn] ρ s.heap α ((wr++T)++ai α μ)) (ac:dt D acc (wr++T) α μ s) (st:St wr (wr++T) α μ i s) (S:aV [Cn,D] α₀ μ₀ s₀ α μ s)
  (h:f5 tf (cW t cf) g xs (xs.drop i) ρ μ acc=some (ρ',μ',acc')) (kD:∀s',Bx C cx T α₀ μ₀ s₀ cenv Cn D ρ' μ' acc' s'→Q (.done .next) s')
  (kN:∀s',i<xs.length→Xc C cx T cenv Cn D α₀ μ₀ s₀ St xs (λr ρ μ acc=>f5 tf (cW t cf) g xs r ρ μ acc=some (ρ',μ',acc')) (xs.length+1-(i+1)) s'→Q (.again (.compLoop (.ListComp elt gens scope pos) d it (.ref D) cenv)) s'):
  wpAny (model C.prog C.w) A ((compTurn (.ListComp elt gens scope pos) d it (.ref D) cenv).onRaise (λx=>do noteFrame x cenv;theTreesLotGoes x)) Q E s:=by
 have hwT:∀b∈wr,b∈wr++T:= λb hb=>yg _ hb;refine wpAny_noted ?_;rw [turn];refine yK (L9 (yK ?_));cases ex:xs[i]? with
 |none=>
  rw [Mp (GB.mp ex)] at h
  cases (h:some (ρ,μ,acc)=some (ρ',μ',acc'));refine W.done (R.mono hn2) I st ex λs1 mv hI=>Ez (kD s1 (c_ α (hI T λa ha=>⟨D1 _ ha,hTw a ha⟩) (S.moves mv hw0 hg0) ((F.moves mv hwT).mono mj) ?_));refine au (ac.moves mv hwT (hTw D hD)) λitems p r=>?_;exact (aZ items p (r.mono mj))
 |some x=>
  rw [vr ex] at h
  refine GT h λρ1 b μ1 ρ2 μ2 acc2 e1 e3 e2 hgd h'=>?_;clear h;refine W.item (R.mono hn2) I st ex λv s1 wr1 mv1 hfr I1 ir1 md1=>?_;refine yK (W.go I1 md1 tg.1 ir1 λs2 mv2 I2 ir2 st2=>?_);refine dU (Cu (T:=T) (h0:=s₀.heap) hfr) λhT1 hw1' hn1=>?_;have hwT1:∀b∈wr1,b∈wr1++T:= λb hb=>yg _ hb;have hDT:D∈wr1++T:=D1 _ hD;have hCw1:Cn∉wr1:=hn1 Cn hCw (by
   refine au ((F.own Cn (FK ..)).1) λo e zz=>?_;exact ⟨o,e⟩)
  have hTw1:∀a∈T,a∉wr1:= λa ha=>hn1 a (hTw a ha) (I.tdom a (D1 _ ha));have hw1:=hw1' hw0 S.dom;have F2:=(F.movesG mv1 hwT hT1).moves mv2 hwT1;have ac2:=(ac.movesG mv1 hwT (hTw D hD) hT1).moves mv2 hwT1 (hTw1 D hD);have S2:=(S.moves mv1 hw0 hg0).moves mv2 hw1 hg0;refine yK (D3 (tg.2 A cenv [Cn] (wr1++T) ρ α μ s2 _ v x ρ1 R.handled I2 F2 ir2 e1) (λzz s3 sd=>?_) λzz zz x=>x);have hO3:iH [Cn] (wr1++T) s2.heap:= λa ha=>.inr (.inl (F2.own a ha).1);have ac3:dt D acc (wr1++T) α μ s3:=ac2.stepO I2 hDT sd.2.1 hO3 λq=>hCD (by simpa using q:D=Cn).symm;have fin:∀s5 α5,bl C (wr1++T) α5 μ2 s5→aV [Cn,D] α μ s3 α5 μ2 s5→bh C cx cenv [Cn] ρ2 s5.heap α5 ((wr1++T)++ai α5 μ2)→dt D acc2 (wr1++T) α5 μ2 s5→Q (.again (.compLoop (.ListComp elt gens scope pos) d it (.ref D) cenv)) s5:= λs5 α5 I5 S5 F5 ac5=>by
   have S25:aV [Cn,D] α μ s2 α5 μ2 s5:=(sd.2.1.weak λa ha=>.inl (C1.mpr (.inl (Ab.mp ha)))).trans S5;have hlt:=(Bm.mp ex).1;refine kN s5 hlt (Xc.mk hCw1 hTw1 hw1 rfl hlt I5 F5 ac5 (W.frame st2 S25 (λa ha=>?_) (λa ha=>?_) (λa ha=>.inl ha) hwT1 I2 I5 hgd) (S2.trans S25) h')
   ·rcases C1.mp ha with q|ha
    ·exact .inr (.inl (q▸(F2.own Cn (FK ..)).1))
    ·exact .inr (.inr (Ab.mp ha▸hDT))
   ·rcases C1.mp ha with q|ha
    ·exact q▸hCw1
    ·exact Ab.mp ha▸hTw1 D hD
  refine yK (ts.go R sd.1 sd.2.2 e3 λα4 s4 I4 S4=>?_);have F4:=sd.2.2.step sd.1 S4;have ac4:=ac3.stepO sd.1 hDT S4 (iH.nil _ _) (E4);cases b with
  |true=>
   rw [if_pos rfl] at e2⊢
   exact ck.run A cenv Cn D (wr1++T) ρ1 α4 μ1 s4 _ _ _ acc ρ2 μ2 acc2 R hDT I4 F4 ac4 e2 λs5 p5=>eB p5 λα5 I5 S5 F5 ac5=>Ez (fin s5 α5 I5 (S4.up.trans S5) F5 ac5)
  |false=>
   rw [if_neg G_] at e2⊢
   refine eC λGG kG=>?_;refine dU e2 λzq0 zq1 zq2=>?_;subst zq0;subst zq1;subst zq2;refine kG ?_;exact Ez (fin s4 α4 I4 S4.up F4 ac4)
theorem sa{g:Option Nat}{RR:Result→Shared→Prop}
  (turn:gG elt gens scope pos d target iter ifs K) (tg:nM C cx target tup tf) (ts:iZ C n cx ifs t) (ck:lz C n cx K cf) (R:cP A n) (hn2:2≤n) (hD:D∈T) (W:gY C it gi xs g tup St Mid)
  (hCw:Cn∉wr) (hCD:Cn≠D) (hTw:∀a∈T,a∉wr) (hw0:∀b∈wr,s₀.heap.get? b=none) (hg0:∀i∈gi,s₀.gens[i]? =none)
  (I:bl C (wr++T) α μ s) (F:bh C cx cenv [Cn] ρ s.heap α ((wr++T)++ai α μ)) (ac:dt D acc (wr++T) α μ s) (st:St wr (wr++T) α μ 0 s) (S:aV [Cn,D] α₀ μ₀ s₀ α μ s)
  (h:f5 tf (cW t cf) g xs xs ρ μ acc=some (ρ',μ',acc')) (hR:∀s',Bx C cx T α₀ μ₀ s₀ cenv Cn D ρ' μ' acc' s'→RR (.ok .next) s'):
  codeAny (model C.prog C.w) A (.compLoop (.ListComp elt gens scope pos) d it (.ref D) cenv) RR s:=by
 refine codeAny_loop rfl (Xc C cx T cenv Cn D α₀ μ₀ s₀ St xs λr ρ μ acc=>f5 tf (cW t cf) g xs r ρ μ acc=some (ρ',μ',acc')) (λk s=>?_) (xs.length+1) (Xc.mk (i:=0) hCw hTw hw0 rfl (Lw _) I F ac st S h);clear hCw hTw hw0 I F ac st S h;intro p;refine nk p λwr i ρ α μ acc q zk hi I F ac st S h=>?_;refine bH (ES zk) ?_;refine dU q λhCw hTw hw0=>?_;exact DU (A:=A) turn tg ts ck R hn2 hD W hCw hCD hTw hw0 hg0 I F ac st S h hR λs' hl p=>(gO rfl _ (AK hl) p)
end
theorem rU{R:Result→Shared→Prop}{ifs:List Expr}{g:Comprehension}{acc:Value}
  (h0:codeAny (model prog w) A (.compLoop (.ListComp elt [g,⟨target,iter,ifs,0⟩] scope pos) 1 it acc env) R s)
  (h:wpAny (model prog w) A (pyIter it) (λit' s'=>codeAny (model prog w) A (.compLoop (.ListComp elt [g,⟨target,iter,ifs,0⟩] scope pos) 1 it' acc env) R s')
   (notedBy (model prog w) A env λx s'=>R (.error x) s') s):
  codeAny (model prog w) A (.compStart (.ListComp elt [g,⟨target,iter,ifs,0⟩] scope pos) 1 it acc env) R s:=by
 refine codeAny_of_tree ?_;refine (?_:wpAny _ _ ((compStart (.ListComp elt [g,⟨target,iter,ifs,0⟩] scope pos) 1 it acc env).onRaise (λx=>do noteFrame x env;standAt theWindowsPlace)) _ _ s);refine wpAny_notedAt ?_;unfold compStart;refine (?_:wpAny _ _ (ask>>=_) _ _ s);refine yK (wpAny_askSetting (wpAny_ite ?_))
 split
 ·first
   |exact yK (Ez (Ez (U9 rfl h0)))
   |exact Ez (U9 rfl h0)
 ·first
   |exact yK (Ob (yK (L9 (yK (D3 h (λit' s' h'=>Ez (U9 rfl h')) λzz zz x=>x)))))
   | (refine yK (Ob ?_);show wpAny _ _ (standAt iter.pos>>=_) _ _ s;exact yK (L9 (yK (D3 h (λit' s' h'=>Ez (U9 rfl h')) λzz zz x=>x))))
def gf(itf:IF)(tf:d0→PyData→Option d0)(cf:CF):CF:= λρ μ acc=>bp (itf ρ μ) λxs p=>f5 tf cf p.1 xs xs ρ p.2 acc
section
theorem BB(F:bh C cx env O ρ h α M)(hw:∀b∈wr,h.get? b=none):∀a∈O,a∉wr:= λa ha q=>(F.own a ha).1.dom (hw a q)
theorem bh.growStep(F:bh C cx env O ρ s.heap α (T++ai α μ))(I:bl C T α μ s)(S:aV [] α μ s α' μ' s')(hw:∀b∈wr,s.heap.get? b=none):
  bh C cx env O ρ s'.heap α' ((wr++T)++ai α' μ'):=
 F.ext S.ext (iH.nil T _).app S.at (S.hm λa ha=>(AZ.mp ha).elim (λq=>.inr (hw a q)) .inl) λzz q h=>I.notFrame (db h) (F.frA q)
variable {iter' target':Expr} {ifs ifs':List Expr}
theorem kv(hn2:2≤n)(hit:lT C n cx iter' tup itf)(tg:nM C cx target' tup tf)(ts:iZ C n cx ifs' t)(hf:ab C n cx elt f)(hs:∀env x,foldedSetIterable iter' env x=pure x):
  lz C n cx (Hl (.ListComp elt [⟨target,iter,ifs,0⟩,⟨target',iter',ifs',0⟩] scope pos) iter') (gf itf tf (cW t (aY f))):=by
 refine .of ?_;intro A cenv Cn D T ρ α μ s E Q k acc ρ' μ' acc' R hD I F ac h hk;refine aD h λxs pp e1 h=>?_;refine yK (D3 (hit.run A cenv [Cn] T ρ α μ s _ xs pp.1 pp.2 R I F e1) (λx s1 p=>?_) λzz zz x=>x);refine yK (L9 (yK (M8 (hs cenv x) (yK (KZ (D3 p (λit s2 q=>?_) λzz zz x=>x))))));refine gv q λwr gi St Mid α1 W I1 S1 st hw hg hgd=>?_;have hCw:=BB F hw Cn (Ab.mpr rfl);have hTw:∀a∈T,a∉wr:= λa ha q=>bP (I.tdom a ha) λo e=>ct ((hw a q).symm.trans e);have hCD:Cn≠D:= λq=>F.off D (yg _ hD) (.inr (by simp [q]));have F1:bh C cx cenv [Cn] ρ s2.heap α1 ((wr++T)++ai α1 pp.2):=F.growStep I S1 hw;have ac1:dt D acc (wr++T) α1 pp.2 s2:=by
  refine au ac λitems hp rr=>?_;exact (aZ items (eP hp S1.ext λq=>I.apart D hD (db (by simpa using q))) (rr.stepO S1 (iH.nil _ _) λa ha=>(AZ.mp ha).elim (λq=>.inr (hw a q)) .inl))
 have loop:codeAny (model C.prog C.w) A (.compLoop (.ListComp elt [⟨target,iter,ifs,0⟩,⟨target',iter',ifs',0⟩] scope pos) 1 it (.ref D) cenv)
   (λr s'=>match r with| .ok f=>wpAny (model C.prog C.w) A k Q E s'| .error e=>cameBackBy (model C.prog C.w) A cenv E e s') s2:=
  sa (CQ _ _ _ _ _ _ _) tg ts (bZ hf) R hn2 hD W hCw hCD hTw hw hg I1 F1 ac1 st S1.up h λs' cp=>hk s' cp
 exact yK (wpAny_runOwn (rU loop (W.self st loop)))
end
noncomputable def ui(env:Env)(p:Str×NameKind)(cs:List (Str×Addr)):List (Str×Addr):=if (p.2== .free)=true then (env.cells.lookup p.1).elim cs λc=>(p.1,c)::cs else cs
noncomputable def mx(env:Env)(l:List (Str×NameKind))(cs:List (Str×Addr)):List (Str×Addr):=l.foldl (λcs p=>ui env p cs) cs
theorem CE(env:Env)(l:List (Str×NameKind))(cs:List (Str×Addr))(h:∀x∈l,x.2=.free→∃c,env.cells.lookup x.1=some c):
  (forIn l cs λ(p:Str×NameKind) r=>if (p.2== .free)=true then do let a←cellOf env p.1;pure (Lv ((p.1,a)::r)) else pure (Lv r):Sem _)=pure (mx env l cs):=by
 induction l generalizing cs with
 |nil=>rfl
 |cons p r ih=>
  rw [U5];have ih':=ih (ui env p cs) λy hy=>h y (D2 _ hy);refine LA ?_ ih'
  by_cases hk:(p.2==LL)=true
  ·refine bP (h p (FK ..) (eq_of_beq hk)) λc hc=>?_
   rw [if_pos hk,show ui env p cs=(p.1,c)::cs from (if_pos hk).trans (by rw [hc];rfl),show cellOf env p.1=pure c by unfold cellOf;rw [hc]];rfl
  ·rw [if_neg hk,show ui env p cs=cs from if_neg hk]
   rfl
theorem zY(env:Env)(l:List (Str×NameKind))(cs:List (Str×Addr))(x:Str)(c:Addr)(he:env.cells.lookup x=some c)(h:cs.lookup x=some c):(mx env l cs).lookup x=some c:=by
 induction l generalizing cs with
 |nil=>exact h
 |cons p r ih=>
  refine ih _ ?_;refine (?_:(ui env p cs).lookup x=some c)
  by_cases hk:(p.2==LL)=true
  ·rw [show ui env p cs=_ from if_pos hk]
   cases e:env.cells.lookup p.1 with
   |none=>exact h
   |some c'=>
    refine (Nw).trans ?_;cases q:x==p.1 with
    |true=>rw [←eq_of_beq q] at e;exact e.symm.trans he
    |false=>exact h
  ·rw [show ui env p cs=cs from if_neg hk];exact h
theorem sA(env:Env)(l:List (Str×NameKind))(cs:List (Str×Addr))(x:Str)(c:Addr)(he:env.cells.lookup x=some c)(h:(x,LL)∈l):(mx env l cs).lookup x=some c:=by
 induction l generalizing cs with
 |nil=>exact nomatch h
 |cons p r ih=>
  refine (C1.mp h).elim (λq=>zY env r _ _ c he ?_) λq=>ih _ q;subst q;refine (?_:(ui env (x,LL) cs).lookup x=some c);rw [show ui env (x,LL) cs=(x,c)::cs from (if_pos rfl).trans (by rw [he];rfl)];exact Pb
theorem zS(h:∀x∈scope.names,x.2=.free→∃c,env.cells.lookup x.1=some c):closureFor scope env=pure (mx env scope.names []):=by
 unfold closureFor;rw [←CE env scope.names [] h]
 simp
def N9(scope s0:Scope):Scope:= {scope with names:=scope.names.map λ(n,k)=>if (k== .free&&s0.kind== .function&&s0.names.lookup n==some .cell) then (n,.cell) else (n,k)}
def bR(cx:Cx)(scope:Scope):Cx:= {scope:=N9 scope cx.scope,names:=(cx.names.map λp=>(p.1,if decide (2≤p.2)&&scope.names.contains (p.1,.free) then 3 else 0))++(scope.names.filter (λx=>x.2== .local&&x.1 != (".0":Str))).map λx=>(x.1,1)}
noncomputable def bG(scope:Scope)(ρ:d0):d0:=ρ++Gv (scope.names.filter (λx=>x.2== .local&&x.1 != (".0":Str))).length none
noncomputable def vQ(cx:Cx)(scope:Scope):Bool:=scope.names.all λx=>x.2 != .free||cx.names.any λp=>p.1==x.1&&decide (2≤p.2)
theorem EG(h:vQ cx scope=true){x:Str×NameKind}(hx:x∈scope.names)(hf:x.2=.free):∃ (i k:Nat),cx.names[i]? =some (x.1,k)∧2≤k:=by
 have:=Bi.mp h x hx
 simp only [hf,bne_self_eq_false,Pn,List.any_eq_true,E_,beq_iff_eq,decide_eq_true_eq] at this
 refine cm this λzp0 hp hy hk=>?_;obtain ⟨y,k⟩:=zp0;refine bP (iD hp) λi e=>?_;exact (fX i k (by rw [e];simp at hy;rw [hy]) hk)
theorem gj(h:(bR cx scope).names[i]? =some (x,k))(hi:i<cx.names.length):(k=0∨(k=3∧(x,LL)∈scope.names))∧∃k0,cx.names[i]? =some (x,k0)∧(k=3→2≤k0):=by
 unfold bR at h
 simp only at h
 rw [EY (by simpa using hi),FS,HU] at h
 obtain ⟨⟨y,k0⟩,e,q⟩:=h;simp only [SX] at q
 obtain ⟨rfl,q⟩:=q
 split at q
 ·rename_i hc
  simp only [E_,decide_eq_true_eq] at hc
  exact (gO (.inr ⟨q.symm,by simpa using hc.2⟩) k0 e (λzz=>hc.1))
 ·exact (gO (.inl q.symm) k0 e (λz=>by lia))
theorem E5(h:(bR cx scope).names[i]? =some (x,k))(hi:¬i<cx.names.length):k=1:=by
 unfold bR at h
 simp only at h
 rw [I7 (by simpa using LF hi),FS,HU] at h
 refine au h λzz zz q=>?_;cases q;rfl
section
theorem bh.sub{m:Str→Option Value}(F:bh C cx env O ρ h α M)(hcap:vQ cx scope=true)(hn:h.Ns Cn m)(hM:Cn∉M)(hB:C.B.get? Cn=none)
  (hnd:∀ (i j:Nat) x,(bR cx scope).names[i]? =some (x,1)→(bR cx scope).names[j]? =some (x,1)→i=j):
  bh C (bR cx scope) (compEnvC scope (mx env scope.names []) Cn env) [Cn] (bG scope ρ) h α M:=by
 refine bP F.cel λcad hc=>?_;have old:∀ {i:Nat} {x k},(bR cx scope).names[i]? =some (x,k)→2≤k→i<cx.names.length:= λ{i x k} e hk=>by
  by_cases hi:i<cx.names.length
  ·exact hi
  ·have:=E5 e hi;lia
 have rho:∀i,i<cx.names.length→(bG scope ρ)[i]? =ρ[i]? := λi hi=>by
  unfold bG;rw [EY (by rw [F.len];exact hi)]
 refine ⟨by show N9 scope env.scope=N9 scope cx.scope;rw [F.sc],F.gl,F.bn,?_,(aZ m hn (λi x V h1 h2=>?_)),⟨cad,λi x k h1 h2=>?_,λi x k h1 h2=>?_,λi x h1=>?_,λi j x y k l h1 h2 h3 h4=>?_⟩,λa ha=>?_,Ab.mpr rfl,λa ha q=>?_,hnd⟩
 ·simp [bG,bR,F.len]
 ·by_cases hi:i<cx.names.length
  ·have:=(gj h1 hi).1;lia
  ·unfold bG at h2
   rw [I7 (by rw [F.len];exact LF hi),QZ] at h2
   split at h2<;>cases h2
 ·have hi:=old h1 h2
  refine ic (gj h1 hi) λq k0 e hk0=>?_;obtain ⟨rfl,hf⟩:k=3∧(x,LL)∈scope.names:=q.elim (λz=>by lia) id;exact sA env _ _ _ _ (hc.look i x k0 e (hk0 rfl)) hf
 ·have hi:=old h1 h2
  refine ic (gj h1 hi) λq k0 e hk0=>?_;obtain ⟨rfl,hf⟩:k=3∧(x,LL)∈scope.names:=q.elim (λz=>by lia) id;rw [rho i hi];exact hc.has i x k0 e (hk0 rfl)
 ·have hi:=old h1 (DW _)
  have:=(gj h1 hi).1
  lia
 ·have hi:=old h1 h3
  have hj:=old h2 h4;refine ic (gj h1 hi) λq k0 e hk0=>?_;refine ic (gj h2 hj) λq' l0 e' hl0=>?_;exact hc.inj i j x y k0 l0 e e' (hk0 (by lia)) (hl0 (by lia))
 ·obtain rfl:a=Cn:=by simpa using ha
  exact ⟨fT hn,hB⟩
 ·have hCa:a≠Cn:= λz=>hM (z▸ha)
  rcases q with (q| ⟨i,x,k,h1,h2,h3⟩)|q
  ·exact hCa q
  ·have hi:=old h1 h2
   refine ic (gj h1 hi) λq k0 e hk0=>?_;obtain ⟨rfl,hf⟩:k=3∧(x,LL)∈scope.names:=q.elim (λz=>by lia) id;have hl:=hc.look i x k0 e (hk0 rfl)
   have:(mx env scope.names []).lookup x=some a:=h3
   rw [sA env _ _ _ _ hl hf] at this
   cases this;exact F.off _ ha (.inl (.inr (pj i x k0 e (hk0 rfl) hl)))
  ·exact hCa (by simpa using q)
end
section
theorem bl.mdom(I:bl C T α μ s):∀a∈T++ai α μ,s.heap.get? a≠none:= λa ha=>
 (AZ.mp ha).elim (λh q=>bP (I.tdom a h) λo e=>ct (q.symm.trans e)) λh=>I.cdom (db h)
theorem bl.sub(I:bl C T α μ s)(h:∀a∈T',a∈T):bl C T' α μ s:=
 I.moves' (aG.refl [] [] s) (λzz q=>nomatch q) h λa ha=>I.tdom a (h a ha)
theorem bl.fresh(I:bl C T α μ s)(h:s.heap.get? a=none):C.B.get? a=none:=by
 cases e:C.B.get? a with
 |none=>rfl
 |some o=>exact ct (h.symm.trans (I.keep a o e))
theorem dt.mono(x:dt D acc T α μ s)(h:∀a∈T',a∈T):dt D acc T' α μ s:=
 au x λitems p r=>aZ items p (r.mono λa ha=>(AZ.mp ha).elim (λq=>yg _ (h a q)) (D1 _))
variable {rest:List Comprehension} {ifs:List Expr} {K:Value→Env→Sem Fin→Sem Fin}
theorem xZ(hn2:2≤n){s2:Shared}{g:Option Nat}{RR:Value→Addr→Result→Shared→Prop}
  (turn:gG elt (⟨target,iter,ifs,0⟩::rest) scope pos 0 target iter ifs K) (tg:nM C (bR cx scope) target tup tf) (ts:iZ C n (bR cx scope) ifs t) (ck:lz C n (bR cx scope) K cf)
  (hcap:vQ cx scope=true) (hcell:∀y∈scope.names,y.2≠ .cell) (hkind:scope.kind=.function)
  (hnd:∀ (i j:Nat) x,(bR cx scope).names[i]? =some (x,1)→(bR cx scope).names[j]? =some (x,1)→i=j)
  (R:cP A n) (I:bl C T α μ s) (F:bh C cx env O ρ s.heap α (T++ai α μ)) (ia:cQ C T α μ s xs g tup μ1 it s2)
  (h:f5 tf (cW t cf) g xs xs (bG scope ρ) μ1 []=some (ρ',μ',acc'))
  (hRR:∀D Cn α' s' m,bl C (D::T) α' μ' s'→aV [Cn,D] α μ s α' μ' s'→s.heap.get? D=none→s.heap.get? Cn=none→D≠Cn→dt D acc' (D::T) α' μ' s'→s'.heap.Ns Cn m→RR (.ref D) Cn (.ok .next) s'):
  wpAny (model C.prog C.w) A (newList []) (λacc s₃=>wpAny (model C.prog C.w) A (newFunctionEnv scope env.globals (mx env scope.names []) [] env.qual none .none (some env)) (λcenv s₄=>
   codeAny (model C.prog C.w) A (.compStart (.ListComp elt (⟨target,iter,ifs,0⟩::rest) scope pos) 0 it acc {cenv with scope:=relabel scope env}) (RR acc cenv.locals) s₄) E s₃) E s2:=by
 refine gv ia λwr gi St Mid α1 W I1 S1 st hw hg hgd=>?_;have F1:bh C cx env O ρ s2.heap α1 ((wr++T)++ai α1 μ1):=F.growStep I S1 hw;refine HA (RY hcell (by intro y hy;simp at hy) (λh₁ hns₁ hsb₁=>?_) hkind);dsimp only at hns₁ hsb₁⊢
 generalize hH2:s2.heap.push {cls:=.type "list",dict:=none,data:=.seq ([]:List Value).toArray}=H2 at hns₁ hsb₁⊢
 generalize hDD:s2.heap.objs.size=D;have hCz:H2.objs.size=D+1:=by rw [←hH2,LZ,hDD]
 generalize hCC:H2.objs.size=Cn at hns₁ hsb₁ hCz⊢
 have hDf:s2.heap.get? D=none:=bw (Tu hDD);have hCf:s2.heap.get? Cn=none:=bw (by rw [hDD,hCz];exact P1 _);have hCD:Cn≠D:=by rw [hCz];exact Nr _
 have hk:∀b o,s2.heap.get? b=some o→h₁.get? b=some o:= λb o e=>by
  have hb:b≠Cn:= λq=>by rw [q,hCf] at e;exact ct e
  exact (hsb₁.2 b hb).trans (Bt _ (hH2▸Bt _ e))
 have hacc:h₁.PlainList D #[]:=⟨_,(hsb₁.2 D hCD.symm).trans (Bt _ (hH2▸hDD▸Dp _ rfl))⟩;have hk':∀b o,s2.heap.get? b=some o→(QW {s2 with heap:=h₁,toks:=s2.toks+([]:List (Str×Value)).length}).get? b=some o:=hk;have hW1:∀a∈[D],s2.heap.get? a=none:= λa ha=>Ab.mp ha▸hDf;have I4':bl C ([D]++(wr++T)) α1 μ1 {s2 with heap:=h₁,toks:=s2.toks+([]:List (Str×Value)).length}:=I1.grow hk' rfl (λh=>h) hW1 λa ha=>Ab.mp ha▸bP hacc λk e=>⟨_,e⟩;have perm:∀a,a∈wr++(D::T)→a∈[D]++(wr++T):= λa ha=>(AZ.mp ha).elim (λh=>D1 _ (yg _ h)) λh=>(C1.mp h).elim (λq=>yg _ (Ab.mpr q)) λh=>D1 _ (D1 _ h);have perm':∀ {m:List Addr} a,a∈(wr++(D::T))++m→a∈([D]++(wr++T))++m:= λ{m} a ha=>(AZ.mp ha).elim (λq=>yg _ (perm a q)) λq=>D1 _ q;have I4:=I4'.sub perm;have F4:bh C cx env O ρ h₁ α1 ((wr++(D::T))++ai α1 μ1):=(F1.grow (s':= {s2 with heap:=h₁,toks:=s2.toks+([]:List (Str×Value)).length}) hk' hW1).mono perm';have S24:aV [] α1 μ1 s2 α1 μ1 {s2 with heap:=h₁,toks:=s2.toks+([]:List (Str×Value)).length}:=aV.of_keeps hk' λzz zz e=>e;have st4:=W.frame (T':=wr++(D::T)) st S24 (iH.nil _ _) (λzz q=>nomatch q) (λa ha=>(AZ.mp ha).elim (λq=>.inl (yg _ q)) λq=>(C1.mp q).elim (λq=>.inr (q▸hDf)) λq=>.inl (D1 _ q)) (λb hb=>yg _ hb) I1 I4 hgd;have hTs:∀a∈T,s.heap.get? a≠none:= λa ha=>I.mdom a (yg _ ha);have hwd:∀b∈wr,s2.heap.get? b≠none:= λb hb=>I1.mdom b (yg _ (yg _ hb));have hDw:D∉wr:= λq=>hwd D q hDf;have hCw:Cn∉wr:= λq=>hwd Cn q hCf;have hDs:s.heap.get? D=none:=dW S1.dom hDf;have hCs:s.heap.get? Cn=none:=dW S1.dom hCf;have hCM:Cn∉(wr++(D::T))++ai α1 μ1:= λq=>(AZ.mp (perm' _ q)).elim (λz=>(AZ.mp z).elim (λz=>hCD (Ab.mp z)) λz=>I1.mdom Cn (yg _ z) hCf) λz=>I1.mdom Cn (D1 _ z) hCf;have Fc:=F4.sub hcap hns₁ hCM (I1.fresh hCf) hnd;have S4:aV [Cn,D] α μ s α1 μ1 {s2 with heap:=h₁,toks:=s2.toks+([]:List (Str×Value)).length}:=(S1.trans S24).up;have ac4:dt D [] (wr++(D::T)) α1 μ1 {s2 with heap:=h₁,toks:=s2.toks+([]:List (Str×Value)).length}:=(aZ (#[]) hacc (aw.nil _ _));have loop:codeAny (model C.prog C.w) A (.compLoop (.ListComp elt (⟨target,iter,ifs,0⟩::rest) scope pos) 0 it (.ref D) (compEnvC scope (mx env scope.names []) Cn env)) (RR (.ref D) Cn)
   {s2 with heap:=h₁,toks:=s2.toks+([]:List (Str×Value)).length}:=
  sa turn tg ts ck R hn2 (FK ..) W hCw hCD (λa ha q=>(C1.mp ha).elim (λz=>hDw (z▸q)) λha=>hTs a ha (hw a q)) hw hg I4 Fc ac4 st4 S4 h λs' cp=>eB cp λα' I' S' F' ac'=>au F'.loc λm' hm' zz=>hRR D Cn α' s' m' I' S' hDs hCs hCD.symm ac' hm'
 exact codeAny_compStart_list loop (W.self st4 loop)
theorem ql{m:List Addr}:∀a∈T++m,a∈(D::T)++m:= λa ha=>(AZ.mp ha).elim (λq=>yg _ (D2 _ q)) λq=>D1 _ q
theorem sK(I:bl C (D::T) α' μ' s')(ac:dt D acc (D::T) α' μ' s')(hDT:D∉T):bl C T α' μ' s'∧aJ s'.heap (T++ai α' μ') (.ref D) (.list acc):=
 au ac λitems p r=>⟨I.sub λa ha=>D2 _ ha,aJ.list p (r.mono ql) λq=>(AZ.mp q).elim hDT λq=>I.apart D (FK ..) (db q)⟩
theorem tX{X:Type}{l:List X}{a y:X}(h:(l++[y])[i]? =some a)(k:i<l.length→l[i]? =some a→G)(k':i=l.length→y=a→G):G:=by
 by_cases hi:i<l.length
 ·rw [EY hi] at h;exact k hi h
 ·rw [I7 (LF hi)] at h
  cases e:i-l.length with
  |zero=>rw [e] at h;exact k' (Nat.le_antisymm (Nat.le_of_sub_eq_zero e) (LF hi)) (Ff h)
  |succ j=>rw [e] at h;exact ct h
theorem GU(I:bl C (D::T) α' μ' s')(hc:c.isMut=true)(ca:dX s'.heap ((D::T)++ai α' μ') D c)(hDT:D∉T):
  bl C T (α'++[D]) (μ'++[c]) s'∧ai (α'++[D]) (μ'++[c])=ai α' μ'++[D]∧(∀a,a∈T++ai (α'++[D]) (μ'++[c])→a∈(D::T)++ai α' μ'):=by
 have hDa:D∉α':=I.apart D (FK ..);have hm:ai (α'++[D]) (μ'++[c])=ai α' μ'++[D]:=(rE I.len).trans (congrArg _ (if_pos hc));have hs:∀a,a∈T++ai (α'++[D]) (μ'++[c])→a∈(D::T)++ai α' μ':= λa ha=>by
  rw [hm] at ha
  exact (AZ.mp ha).elim (λh=>yg _ (D2 _ h)) λh=>(AZ.mp h).elim (D1 _) λh=>yg _ (C1.mpr (.inl (Ab.mp h)))
 refine fm ⟨I.keep,by rw [be,be,I.len];rfl,λi a c h1 h2=>tX h1 (λhi h1=>tX h2 (λzz h2=>(I.cells i a c h1 h2).mono hs) λq zz=>absurd (q.trans I.len.symm) (LK hi)) λhi h1=>tX h2 (λhi2 zz=>absurd (hi.trans I.len) (LK hi2)) λzz h2=>?_,QD.mpr (fm I.nodup (List.pairwise_singleton _ _) λa ha b hb q=>hDa ((Ab.mp hb)▸q▸ha)),λa ha q=>(AZ.mp q).elim (I.apart a (D2 _ ha)) λq=>hDT ((Ab.mp q)▸ha),λa ha=>I.tdom a (D2 _ ha),λa ha=>I.tnew a (D2 _ ha),λa ha=>(AZ.mp ha).elim (I.new a) λq=>I.tnew a (C1.mpr (.inl (Ab.mp q))),I.gens,I.os⟩ hm hs;subst h1;subst h2;exact ca.mono hs
theorem DF(I:bl C (D::T) α' μ' s')(ac:dt D acc (D::T) α' μ' s')(hDT:D∉T):
 bl C T (α'++[D]) (μ'++[.live acc]) s'∧ai (α'++[D]) (μ'++[.live acc])=ai α' μ'++[D]∧(∀a,a∈T++ai (α'++[D]) (μ'++[.live acc])→a∈(D::T)++ai α' μ'):=GU I rfl ac hDT
theorem NF{m:Str→Option Value}(I:bl C (D::T) α' μ' s')(S:aV [Cn,D] α μ s α' μ' s')(hD:s.heap.get? D=none)(hC:s.heap.get? Cn=none)(hDC:D≠Cn)
  (ac:dt D acc (D::T) α' μ' s') (hn:s'.heap.Ns Cn m) (hB:C.B.get? Cn=none) (hs:Lb Cn s'.heap h') (hCT:Cn∉T):
  bl C (D::T) α' μ' {s' with heap:=h'}∧aV [] α μ s α' μ' {s' with heap:=h'}∧dt D acc (D::T) α' μ' {s' with heap:=h'}:=by
 have hx:=iS hs;have hO:∀a∈[Cn],bW s'.heap a∧C.B.get? a=none:= λa ha=>Ab.mp ha▸⟨fT hn,hB⟩;have I':bl C (D::T) α' μ' {s' with heap:=h'}:=bl.frames' (tk:=s'.toks) I hx hO λa ha q=>(C1.mp q).elim (λz=>hDC (z.symm.trans (Ab.mp ha))) λq=>hCT (Ab.mp ha▸q);have mv:aG [Cn] [] s' {s' with heap:=h'}:=aG.of_heap (tk:=s'.toks) λb o hb e=>(hs.2 b λq=>hb (Ab.mpr q)).trans e;exact fm I' ((S.weak λa ha=>.inr ((C1.mp ha).elim (λq=>q▸hC) λha=>Ab.mp ha▸hD)).moves mv (λb hb=>Ab.mp hb▸hC) (λzz q=>nomatch q)) (au ac λitems p r=>aZ items (eP p hx λq=>hDC (Ab.mp q)) (r.frames hx λa ha=>(hO a ha).1))
noncomputable def eX(scope:Scope)(itf:IF)(tf:d0→PyData→Option d0)(cf:CF):d0→List ah→Option (List PyData×List ah):= λρ μ=>bp (itf ρ μ) λxs p=>bp (f5 tf cf p.1 xs xs (bG scope ρ) p.2 []) λzz q=>some (q.2,q.1)
def cb(scope:Scope)(itf:IF)(tf:d0→PyData→Option d0)(cf:CF):EF:= λρ μ=>bp (eX scope itf tf cf ρ μ) λacc μ2=>some (.d (.list acc),μ2)
structure Cp (C:gK) (n:Nat) (cx:Cx) (elt target iter:Expr) (ifs:List Expr) (rest:List Comprehension) (scope:Scope) (pos:Pos) (itf:IF) (tf:d0→PyData→Option d0) (cf:CF):Prop where
 intro::
 run:∃tup t cf0 K,cf=cW t cf0∧gG elt (⟨target,iter,ifs,0⟩::rest) scope pos 0 target iter ifs K∧nM C (bR cx scope) target tup tf∧iZ C n (bR cx scope) ifs t∧lz C n (bR cx scope) K cf0∧lT C n cx iter tup itf
 cap:vQ cx scope=true
 cell:∀y∈scope.names,y.2≠ .cell
 kind:scope.kind=.function
 nd:∀ (i j:Nat) x,(bR cx scope).names[i]? =some (x,1)→(bR cx scope).names[j]? =some (x,1)→i=j
 loc:∀x∈scope.names,x.2=.local→scope.names.lookup x.1=some .local
 set:∀env x,foldedSetIterable iter env x=pure x
 two:2≤n
theorem wW{use:Option (Value→Sem Unit)}
  (c:Cp C n cx elt target iter ifs rest scope pos itf tf cf) (R:cP A n) (I:bl C T α μ s) (F:bh C cx env O ρ s.heap α (T++ai α μ)) (h:eX scope itf tf cf ρ μ=some (acc',μ'))
  (hRR:∀D Cn α' s' m,bl C (D::T) α' μ' s'→aV [Cn,D] α μ s α' μ' s'→s.heap.get? D=none→s.heap.get? Cn=none→D≠Cn→dt D acc' (D::T) α' μ' s'→s'.heap.Ns Cn m→compPost (model C.prog C.w) A E use Q (.ref D) Cn (.ok .next) s') (pos':Pos):
  wpAny (model C.prog C.w) A (comprehension (.ListComp elt (⟨target,iter,ifs,0⟩::rest) scope pos) scope env pos' (newList []) false (eval iter env) use) Q E s:=by
 refine aD h λxs p e1 h=>aD h λρ2 q e2 hq=>?_;refine oA c.run λtup t cf0 K zq4 turn tg ts ck it=>?_;subst zq4;have hcl:closureFor scope env=pure (mx env scope.names []):=zS λx hx hf=>jV (EG c.cap hx hf) λi k e hk=>bP F.cel λcad hc=>⟨_,hc.look i x.1 k e hk⟩;refine wpAny_comprehension_free rfl (c.set env) hcl c.kind c.loc (D3 (it.run A env O T ρ α μ s E xs p.1 p.2 R I F e1) (λv s1 pp=>D3 pp (λit s2 ia=>?_) λzz zz x=>x) λzz zz x=>x);cases (hq:some (q.2,q.1)=some (acc',μ'));exact xZ c.two (RR:= λacc Cn=>compPost (model C.prog C.w) A E use Q acc Cn) turn tg ts ck c.cap c.cell c.kind c.nd R I F ia e2 hRR
theorem cD(c:Cp C n cx elt target iter ifs rest scope pos itf tf cf):ab C n cx (.ListComp elt (⟨target,iter,ifs,0⟩::rest) scope pos) (cb scope itf tf cf):=by
 refine .of ?_;intro A env O T ρ α μ s E V μ' R I F h;refine aD h λacc μ2 e h=>cg h ?_;rw [eval_ListComp];refine wW (use:=none) c R I F e (λD Cn α' s' m I' S' hD hCn hDC ac hn=>(aZ m hn (λh' hs=>?_))) _;have hT:∀a,s.heap.get? a=none→a∉T:= λa e q=>I.mdom a (yg _ q) e;exact dU (NF I' S' hD hCn hDC ac hn (I.fresh hCn) hs (hT Cn hCn)) λI2 S2 ac2=>fY (sK I2 ac2 (hT D hD)) λI3 r3=>cJ α' I3 S2 r3
end
inductive Fl where
 |next
 |brk
 |ret (V:AV)
noncomputable def AW(h:Heap)(α M:List Addr):Fl→Flow→Prop
 | .next,f=>f=.next
 | .brk,f=>f=.brk
 | .ret V,f=>∃v,f=.ret v∧bm h α M v V
def ig(C:gK)(cx:Cx)(env:Env)(O T α:List Addr)(μ:List ah)(s:Shared)(fl:Fl)(ρ':d0)(μ':List ah)(f:Flow)(s':Shared):Prop:=
 ∃α',bl C T α' μ' s'∧aV O α μ s α' μ' s'∧bh C cx env O ρ' s'.heap α' (T++ai α' μ')∧AW s'.heap α' (T++ai α' μ') fl f
noncomputable abbrev SF:=d0→List ah→Option (Fl×d0×List ah)
structure aQ (C:gK) (n:Nat) (cx:Cx) (st:Stmt) (f:SF):Prop where
 of::
 run:∀A env O T ρ α μ s E fl ρ' μ',cP A n→bl C T α μ s→bh C cx env O ρ s.heap α (T++ai α μ)→f ρ μ=some (fl,ρ',μ')→
  wpAny (model C.prog C.w) A (exec st env) (ig C cx env O T α μ s fl ρ' μ') E s
structure cB (C:gK) (n:Nat) (cx:Cx) (sts:List Stmt) (f:SF):Prop where
 of::
 run:∀A env O T ρ α μ s E fl ρ' μ',cP A n→bl C T α μ s→bh C cx env O ρ s.heap α (T++ai α μ)→f ρ μ=some (fl,ρ',μ')→
  wpAny (model C.prog C.w) A (execs sts env) (ig C cx env O T α μ s fl ρ' μ') E s
def aP:SF:= λρ μ=>some (.next,ρ,μ)
noncomputable def flC{Z:Type}(fl:Fl)(a b:Z):Z:=Fl.rec a b (λzz=>b) fl
def ap(f g:SF):SF:= λρ μ=>bp (f ρ μ) λfl p=>flC fl (g p.1 p.2) (some (fl,p))
section
variable {f g:SF}
theorem aQ.go{Q:Flow→Shared→Prop}{fl:Fl}(hb:aQ C n cx st f)(R:cP A n)(I:bl C T α μ s)(F:bh C cx env O ρ s.heap α (T++ai α μ))(e:f ρ μ=some (fl,ρ',μ'))
  (k:∀α' fw s',bl C T α' μ' s'→aV O α μ s α' μ' s'→bh C cx env O ρ' s'.heap α' (T++ai α' μ')→AW s'.heap α' (T++ai α' μ') fl fw→Q fw s'):wpAny (model C.prog C.w) A (exec st env) Q E s:=
 D3 (hb.run A env O T ρ α μ s E _ _ _ R I F e) (λfw s' p=>eB p λα' I' S' F' r=>k α' fw s' I' S' F' r) λzz zz x=>x
theorem cB.go{sts:List Stmt}{Q:Flow→Shared→Prop}{fl:Fl}(hb:cB C n cx sts f)(R:cP A n)(I:bl C T α μ s)(F:bh C cx env O ρ s.heap α (T++ai α μ))(e:f ρ μ=some (fl,ρ',μ'))
  (k:∀α' fw s',bl C T α' μ' s'→aV O α μ s α' μ' s'→bh C cx env O ρ' s'.heap α' (T++ai α' μ')→AW s'.heap α' (T++ai α' μ') fl fw→Q fw s'):wpAny (model C.prog C.w) A (execs sts env) Q E s:=
 D3 (hb.run A env O T ρ α μ s E _ _ _ R I F e) (λfw s' p=>eB p λα' I' S' F' r=>k α' fw s' I' S' F' r) λzz zz x=>x
theorem aN:cB C n cx [] aP:=by
 refine .of ?_;intro A env O T ρ α μ s E fl ρ' μ' R I F h;refine gp h ?_;exact RA (c_ α I (aV.refl _ _ _ _) F rfl)
theorem ak{rest:List Stmt}(hf:aQ C n cx st f)(hg:cB C n cx rest g):cB C n cx (st::rest) (ap f g):=by
 refine .of ?_;intro A env O T ρ α μ s E fl ρ' μ' R I F h;refine aD h λfl1 p e1 h=>Kd (hf.go R I F e1 λα1 fw s1 I1 S1 F1 r1=>?_);cases fl1 with
 |next=>subst r1;exact hg.go R I1 F1 h λα2 fw s2 I2 S2 F2 r2=>c_ α2 I2 (S1.trans S2) F2 r2
 |brk=>subst r1;exact gp h (c_ α1 I1 S1 F1 rfl)
 |ret V=>exact au r1 λv zq1 rv=>by subst zq1;exact gp h (jd α1 I1 S1 F1 v rfl rv)
def ci(f:EF):SF:= λρ μ=>bp (f ρ μ) λV μ1=>oe (MN V) (some ()) (λzz zz=>some (.next,ρ,μ1)) (bo (jI V) λzz=>some (.next,ρ,μ1))
theorem cK{f:EF}(hf:ab C n cx e f)(hk:cx.scope.kind=.function)(hs:∀env,swapsWith e none pos.line env=pure false):aQ C n cx (.Expr e pos) (ci f):=by
 refine .of ?_;intro A env O T ρ α μ s E fl ρ' μ' R I F h;have hi:interactive env=false:=by unfold interactive;rw [F.sc,hk];rfl
 refine aD h λV μ1 e1 h=>wpAny_Expr (hf.goF R I F e1 λv s1 α1 I1 S1 F1 r1=>?_) hi (hs env);refine bV h (λzz zz e2 zz h=>gp h ?_) λh=>ax h λzz e2 h=>gp h (bP (fJ e2 r1) λt zq1=>?_)
 ·rw [CB e2 r1];exact c_ α1 I1 S1.up F1 rfl
 ·subst zq1;exact c_ α1 I1 S1.up F1 rfl
def c6(i:Nat)(f:EF):SF:= λρ μ=>bp (f ρ μ) λV μ1=>some (.next,ρ.set i (some V),μ1)
theorem kb{s2:Shared}(S1:aV O α μ s α1 μ1 s1)(st:gn C cx env O T α1 μ1 ρ' s1 s2):ig C cx env O T α μ s .next ρ' μ1 .next s2:=
 (c_ α1 st.1 (S1.trans st.2.1) st.2.2 rfl)
theorem bF{f:EF}(hf:ab C n cx e f)(hx:aA C cx x i)(hs:∀env,env.scope=cx.scope→swapsWith e (some (.Name x px)) pos.line env=pure false):aQ C n cx (.Assign [.Name x px] e pos) (c6 i f):=by
 refine .of ?_;intro A env O T ρ α μ s E fl ρ' μ' R I F h;refine aD h λV μ1 e1 h=>gp h (M4 (hf.goF R I F e1 λv s1 α1 I1 S1 F1 r1=>?_) (hs env F.sc));exact D3 (hx A env O T ρ α1 _ s1 E v V I1 F1 r1) (λzz s2 st=>kb S1.up st) λzz zz x=>x
end
variable {fl : Fl}
section
theorem Ks(I:bl C T α μ s)(hk:∀b o,s.heap.get? b=some o→h'.get? b=some o)(hD:s.heap.get? D=none)(hd:∃o,h'.get? D=some o)(hc:c.isMut=true)(ca:dX h' ((D::T)++ai α μ) D c):
  bI C T α μ s (μ++[c]) (.c μ.length) (.ref D) {s with heap:=h',toks:=tk}:=by
 have h1:∀b∈[D],s.heap.get? b=none:= λb hb=>Ab.mp hb▸hD;have I1:bl C ([D]++T) α μ {s with heap:=h',toks:=tk}:=I.grow hk rfl id h1 λb hb=>Ab.mp hb▸hd;refine dU (GU I1 hc ca λq=>I.mdom _ (yg _ q) hD) λI2 hm hsub=>?_;exact (cJ (α++[D]) I2 (⟨⟨[D],rfl,h1⟩,fZ.of_keeps hk,λa ha=>(AZ.mp (hm▸ha)).elim .inl λh=>.inr (h1 a h),λa o e=>⟨o,hk a o e⟩,λzz zz e=>e⟩) ⟨D,by rw [←I.len];simp,rfl⟩)
theorem J0{vs:Array Value}(I:bl C T α μ s)(r:aw s.heap (T++ai α μ) vs.toList xs):
  bI C T α μ s (μ++[.live xs]) (.c μ.length) (.ref s.heap.objs.size) {s with heap:=s.heap.push {cls:=.type "list",data:=.seq vs},toks:=tk}:=
 Ks I (bb _ _) (bw (DW _)) ⟨_,Dp _ rfl⟩ rfl (aZ vs ⟨_,Dp _ rfl⟩ (r.grow (s':= {s with heap:=s.heap.push {cls:=.type "list",data:=.seq vs}}) (bb _ _) Db))
def mZ(fs:List EF):EF:= λρ μ=>bp (eY fs ρ μ) λVs μ1=>bp (lJ Vs μ1) λds μ2=>if ds.length≤sizeLine then some (.c μ2.length,μ2++[.live ds]) else none
theorem jB(h:de C n cx es fs):ab C n cx (.List es pos) (mZ fs):=by
 refine .of ?_;intro A env O T ρ α μ s E V μ' R I F q;refine aD q λVs μ1 e1 q=>aD q λds μ2 e2 q=>i6 q λhz q=>cg q ?_;refine List_ (D3 (h.run A env O T ρ α μ s E Vs μ1 pos R I F e1) (λvs s1 p=>cm p λα1 I1 S1 r1=>dU (jl I1 r1 e2) λI2 S2 r2=>?_) λzz zz x=>x);exact HA (bI.trans (S1.trans S2) (J0 (tk:=s1.toks) I2 (by simpa using r2))) (by show vs.toArray.size≤sizeLine;rw [O_,r2.length];exact hz)
theorem bh.letgo(F:bh C cx env O ρ h α M)(hs:Lb Cn h h')(hf:bW h Cn)(hni:¬ (En cx env Cn∨Cn∈O)):bh C cx env O ρ h' α M:=
 F.ext (iS hs) (λa ha=>.inr (.inl (Ab.mp ha▸hf))) (λzz zz=>id) (λzz=>.inl) λa ha q=>hni (Ab.mp q▸ha)
variable {rest:List Comprehension} {ifs:List Expr}
def g9(i:Nat)(scope:Scope)(itf:IF)(tf:d0→PyData→Option d0)(cf:CF)(cell:Bool):SF:= λρ μ=>bp (eX scope itf tf cf ρ μ) λacc μ2=>if cell=true then some (.next,ρ.set i (some (.c μ2.length)),μ2++[.live acc]) else some (.next,ρ.set i (some (.d (.list acc))),μ2)
theorem Ev(cell:Bool)(I:bl C T α μ s)(F:bh C cx env O ρ s.heap α (T++ai α μ))(I':bl C (D::T) α' μ' s')(S':aV [Cn,D] α μ s α' μ' s')(hD:s.heap.get? D=none)
  (hCn:s.heap.get? Cn=none) (ac:dt D acc (D::T) α' μ' s'):∃α2,bl C T α2 (if cell=true then μ'++[.live acc] else μ') s'∧aV [] α μ s α2 (if cell=true then μ'++[.live acc] else μ') s'∧
   bh C cx env O ρ s'.heap α2 (T++ai α2 (if cell=true then μ'++[.live acc] else μ'))∧bm s'.heap α2 (T++ai α2 (if cell=true then μ'++[.live acc] else μ')) (.ref D) (if cell=true then .c μ'.length else .d (.list acc)):=by
 have S0:aV [] α μ s α' μ' s':=S'.weak λa ha=>.inr ((C1.mp ha).elim (λq=>q▸hCn) λha=>Ab.mp ha▸hD);have hDT:D∉T:= λq=>I.mdom D (yg _ q) hD;have F':bh C cx env O ρ s'.heap α' ((D::T)++ai α' μ'):=F.growStep (wr:=[D]) I S0 λb hb=>Ab.mp hb▸hD;cases cell with
 |false=>
  refine fY (sK I' ac hDT) λI2 r2=>?_;exact (c_ α' I2 S0 (F'.mono ql) r2)
 |true=>
  refine dU (DF I' ac hDT) λI2 hm hsub=>?_;refine (c_ (α'++[D]) I2 (au S0.pre λδ e d=>⟨aZ (δ++[D]) (by rw [e,Eg]) (λa ha=>(AZ.mp ha).elim (d a) λq=>Ab.mp q▸hD),S0.ext,λa ha=>(AZ.mp (hm▸ha)).elim (S0.mts a) λq=>.inr (Ab.mp q▸hD),S0.dom,S0.gens⟩) ?_ ⟨D,by rw [←I'.len];simp,rfl⟩);exact F'.ext (fZ.refl [] _) (iH.nil _ _) (λi a e=>(EY (Bm.mp e).1).trans e) (λa ha=>.inl (hsub a ha)) λzz zz q=>nomatch q
theorem gy{spos:Pos}(cell:Bool)(c:Cp C n cx elt target iter ifs rest scope pos itf tf cf)(hx:aA C cx x i)
  (hs:∀env,env.scope=cx.scope→swapsWith (.ListComp elt (⟨target,iter,ifs,0⟩::rest) scope pos) (some (.Name x px)) spos.line env=pure true):
  aQ C n cx (.Assign [.Name x px] (.ListComp elt (⟨target,iter,ifs,0⟩::rest) scope pos) spos) (g9 i scope itf tf cf cell):=by
 refine .of ?_;intro A env O T ρ α μ s E fl ρ' μ' R I F h;refine aD h λacc μ2 e h=>?_;rw [exec_Assign_Name_used _ _ _ _ (hs env F.sc)];refine yK (L9 (yK ?_));refine (?_:wpAny _ A (do let _←comprehension (.ListComp elt (⟨target,iter,ifs,0⟩::rest) scope pos) scope env _ (newList []) false (eval iter env) (some (assign (.Name x px) env))) _ _ s);have key:fl=.next∧ρ'=ρ.set i (some (if cell=true then .c μ2.length else .d (.list acc)))∧μ'=(if cell=true then μ2++[.live acc] else μ2):=by
  cases cell<;>exact gp h (fm rfl rfl rfl)
 refine dU key λzq0 zq1 zq2=>?_;refine bH (ES zq0) ?_;refine bH (ES zq1) ?_;refine bH (ES zq2) ?_;refine yK (D3 (wW (use:=some (assign (.Name x px) env)) (Q:= λzz s'=>ig C cx env O T α μ s .next (ρ.set i (some (if cell=true then .c μ2.length else .d (.list acc)))) (if cell=true then μ2++[.live acc] else μ2) .next s') c R I F e
  (λD Cn α' s' m I' S' hD hCn hDC ac hn=>?_) _) (λzz s' hq=>Ez (Ez hq)) λzz zz e=>e)
 refine eB (Ev cell I F I' S' hD hCn ac) λα2 I2 S2 F2 r2=>?_;have hfr:∀a,En cx env a∨a∈O→a≠Cn:= λa ha q=>(F.frA ha).dom (q▸hCn);refine (?_:wpAny _ A (assign (.Name x px) env (.ref D)) _ _ _);refine QA (D3 (hx A env O T ρ α2 _ s' E _ _ I2 F2 r2) (λzz s3 st=>?_) λzz zz x=>x);have hnO:Cn∉O++ai α2 (if cell=true then μ2++[.live acc] else μ2):= λq=>(AZ.mp q).elim (λq=>hfr Cn (.inr q) rfl) λq=>I2.notFrame (db q) (fT hn);have hn3:=zV hn st.2.1.ext hnO;refine (aZ m hn3 (λh' hs'=>?_));have hx1:=iS hs';exact (c_ α2 (bl.frames' (tk:=s3.toks) st.1 hx1 (λa ha=>Ab.mp ha▸⟨fT hn3,I.fresh hCn⟩) λa ha q=>I.mdom a (yg _ q) (Ab.mp ha▸hCn)) (((S2.up).trans st.2.1).moves (wr:=[Cn]) (gi:=[]) (aG.of_heap (tk:=s3.toks) λb o hb e=>(hs'.2 b λq=>hb (Ab.mpr q)).trans e) (λb hb=>Ab.mp hb▸hCn) (λzz q=>nomatch q)) (st.2.2.letgo hs' (fT hn3) λq=>hfr Cn q rfl) rfl)
theorem f6{line:Nat}(hl:cx.scope.names.lookup x=some .local)(hk:cx.scope.kind=.function)(hp:px.line=pos.line)(hn:scope.names.any (λ(n,k)=>n==x&&(k== .local||k== .cell))=false):
  ∀env,env.scope=cx.scope→swapsWith (.ListComp elt rest scope pos) (some (.Name x px)) line env=pure true:=by
 intro env he
 show (pure (env.blockKind== .function&&env.kindOf x==some .local&&px.line==pos.line&&!(scope.names.any λ(n,k)=>n==x&&(k== .local||k== .cell))):Sem Bool)=pure true
 have h1:env.blockKind=.function:=by unfold Env.blockKind;rw [he,hk];rfl
 have h2:env.kindOf x=some .local:=by unfold IC;rw [he];exact hl
 rw [h1,h2,hp,hn]
 simp
theorem oU{line:Nat}(hl:cx.scope.names.lookup x=some .cell):
  ∀env,env.scope=cx.scope→swapsWith (.ListComp elt rest scope pos) (some (.Name x px)) line env=pure false:=by
 intro env he
 show (pure (env.blockKind== .function&&env.kindOf x==some .local&&px.line==pos.line&&!(scope.names.any λ(n,k)=>n==x&&(k== .local||k== .cell))):Sem Bool)=pure false
 have h2:env.kindOf x=some .cell:=by unfold IC;rw [he];exact hl
 rw [h2,show (some Oo==some NameKind.local)=false from rfl]
 simp
end
def fe(f:EF):SF:= λρ μ=>bp (f ρ μ) λV μ1=>some (.ret V,ρ,μ1)
def On:SF:= λρ μ=>some (.brk,ρ,μ)
def jG(t:TF)(f g:SF):SF:= λρ μ=>bp (t ρ μ) λb μ1=>cond b (f ρ μ1) (g ρ μ1)
noncomputable def Q3(fl:Fl)(a:Option (Fl×d0×List ah))(p:d0×List ah):Option (Fl×d0×List ah):=Fl.rec a (some (.next,p)) (λV=>some (.ret V,p)) fl
def j0(t:TF)(f:SF)(k:Nat):SF:=Nat.rec (λzz zz=>none) (λzz w ρ μ=>bp (t ρ μ) λb μ1=>cond b (bp (f ρ μ1) λfl p=>Q3 fl (w p.1 p.2) p) (some (.next,ρ,μ1))) k
theorem iP{f:SF}:j0 t f (k+1) ρ μ=bp (t ρ μ) λb μ1=>cond b (bp (f ρ μ1) λfl p=>Q3 fl (j0 t f k p.1 p.2) p) (some (.next,ρ,μ1)):=rfl
open Classical in
def fS(tf:d0→PyData→Option d0)(f e:SF)(g:Option Nat)(xs r:List PyData):SF:=
 r.foldr (λx k ρ μ=>bo (tf ρ x) λρ1=>bp (f ρ1 μ) λfl p=>Q3 fl (if cu g xs p.2 then k p.1 p.2 else none) p) e
open Classical in
theorem nB{f e:SF}{g:Option Nat}{r:List PyData}{x:PyData}:fS tf f e g xs (x::r) ρ μ=bo (tf ρ x) λρ1=>bp (f ρ1 μ) λfl p=>Q3 fl (if cu g xs p.2 then fS tf f e g xs r p.1 p.2 else none) p:=rfl
def jH(itf:IF)(tf:d0→PyData→Option d0)(f e:SF):SF:= λρ μ=>bp (itf ρ μ) λxs p=>fS tf f e p.1 xs xs ρ p.2
def iA(i:Nat)(f:EF)(o:AV→AV→List ah→Option (AV×List ah)):SF:= λρ μ=>bo (ρ[i]?.bind id) λV=>bp (f ρ μ) λW μ1=>bp (o V W μ1) λr μ2=>some (.next,ρ.set i (some r),μ2)
def rg(C:gK)(n:Nat)(op:Operator)(o:AV→AV→List ah→Option (AV×List ah)):Prop:=∀A T α μ s E a b Va Vb V μ',cP A n→bl C T α μ s→
 bm s.heap α (T++ai α μ) a Va→bm s.heap α (T++ai α μ) b Vb→o Va Vb μ=some (V,μ')→wpAny (model C.prog C.w) A (inplaceOp op a b) (bI C T α μ s μ' V) E s
section
variable {f g:SF}
theorem d6{f:EF}(hf:ab C n cx e f):aQ C n cx (.Return (some e) pos) (fe f):=by
 refine .of ?_;intro A env O T ρ α μ s E fl ρ' μ' R I F h;exact aD h λV μ1 e1 h=>gp h (rA (exec_Return_some ..) (yK (L9 (yK (hf.goF R I F e1 λv s1 α1 I1 S1 F1 r1=>Ez (jd α1 I1 S1.up F1 v rfl r1))))))
theorem W9:aQ C n cx (.Break pos) On:=by
 refine .of ?_;intro A env O T ρ α μ s E fl ρ' μ' R I F h;refine gp h ?_;rw [arm_exec_Break];exact yK (L9 (Ez (c_ α I (aV.refl _ _ _ _) F rfl)))
theorem gN.go{Q:Bool→Shared→Prop}{r:Bool}(ht:gN C n cx test t)(R:cP A n)(I:bl C T α μ s)(F:bh C cx env O ρ s.heap α (T++ai α μ))(e:t ρ μ=some (r,μ'))
  (k:∀α' s',bl C T α' μ' s'→aV [] α μ s α' μ' s'→Q r s'):wpAny (model C.prog C.w) A (isTrue test env (eval test env)) Q E s:=
 D3 (ht.run A env O T ρ α μ s E r μ' R I F e) (λzz s' p=>ic p λq α' I' S'=>q▸k α' s' I' S') λzz zz x=>x
theorem ig.trans{fw:Flow}(S:aV O α μ s α1 μ1 s1)(p:ig C cx env O T α1 μ1 s1 fl ρ' μ' fw s'):ig C cx env O T α μ s fl ρ' μ' fw s':=
 eB p λα2 I2 S2 F2 r2=>c_ α2 I2 (S.trans S2) F2 r2
theorem g8(ht:gN C n cx test t)(hf:cB C n cx body f)(hg:cB C n cx orelse g):aQ C n cx (.If test body orelse pos) (jG t f g):=by
 refine .of ?_;intro A env O T ρ α μ s E fl ρ' μ' R I F h;refine aD h λb μ1 e1 h=>wpAny_If (ht.go R I F e1 λα1 s1 I1 S1=>?_);cases b with
 |true=>exact D3 (hf.run A env O T ρ α1 μ1 s1 E fl ρ' μ' R I1 (F.step I S1) h) (λr s2 p=>ig.trans S1.up p) λzz zz x=>x
 |false=>exact D3 (hg.run A env O T ρ α1 μ1 s1 E fl ρ' μ' R I1 (F.step I S1) h) (λr s2 p=>ig.trans S1.up p) λzz zz x=>x
theorem Nz{X:Type}{o:Option (Option X)}{V:X}(h:o.bind id=some V):o=some (some V):=by
 cases o with
 |none=>exact ct h
 |some o=>exact congrArg some h
theorem nO{f:EF}{o:AV→AV→List ah→Option (AV×List ah)}(hn:cx.names[i]? =some (x,1))(hl:cx.scope.names.lookup x=some .local)(hk:cx.scope.kind=.function)(hf:ab C n cx e f)(ho:rg C n op o):
  aQ C n cx (.AugAssign (.Name x px) op e pos) (iA i f o):=by
 refine .of ?_;intro A env O T ρ α μ s E fl ρ' μ' R I F h;refine ax h λV eV h=>aD h λW μ1 e1 h=>aD h λr μ2 e2 h=>gp h (au F.loc λm hm hq=>?_);refine au (hq i x V hn (Nz eV)) λv e3 rv=>?_;refine wpAny_AugAssign_Name (Pl (by rw [F.sc];exact hk) (by unfold IC;rw [F.sc];exact hl) hm e3 (hf.go R I F e1 λw s1 α1 I1 S1 r1=>?_));refine D3 (ho A T α1 μ1 s1 E v w V W r μ2 R I1 (rv.step0 S1) r1 e2) (λu s2 p=>cm p λα2 I2 S2 r2=>?_) λzz zz x=>x;have S12:=S1.trans S2;exact D3 (s_ i hn hl hk I2 (F.step I S12) r2) (λzz s3 st=>kb S12.up st) λzz zz x=>x
def Fw(fl2 fl:Fl):Prop:=(fl2=.brk∧fl=.next)∨∃V,fl2=.ret V∧fl=.ret V
theorem Sq{fl':Fl}{a:Option (Fl×d0×List ah)}{p:d0×List ah}(h:Q3 fl a p=some (fl',ρ',μ'))(k1:fl=.next→a=some (fl',ρ',μ')→G)(k2:Fw fl fl'→p=(ρ',μ')→G):G:=by
 cases fl with
 |next=>exact k1 rfl h
 |brk=>exact k2 (.inl ⟨rfl,(congrArg U2 (Ff h)).symm⟩) (congrArg U3 (Ff h))
 |ret V=>exact k2 (.inr ⟨V,rfl,(congrArg U2 (Ff h)).symm⟩) (congrArg U3 (Ff h))
theorem Fw.el{fl2:Fl}{fw:Flow}(q:Fw fl2 fl)(r:AW h α M fl2 fw)(k1:fl=.next→fw=.brk→G)(k2:∀V v,fl=.ret V→fw=.ret v→bm h α M v V→G):G:=
 q.elim (λz=>by cases z.1;exact k1 z.2 r) λz=>au z λV z1 z2=>by cases z1;exact au r λv e rv=>k2 V v z2 e rv
abbrev WLI(C:gK)(cx:Cx)(env:Env)(O T α₀:List Addr)(μ₀:List ah)(s₀:Shared)(F:Nat→d0→List ah→Prop)(k:Nat)(s:Shared):Prop:=
 ∃ρ α μ,bl C T α μ s∧aV O α₀ μ₀ s₀ α μ s∧bh C cx env O ρ s.heap α (T++ai α μ)∧F k ρ μ
theorem I9(N:Nat)(ht:gN C n cx test t)(hf:cB C n cx body f):aQ C n cx (.While test body [] pos) (j0 t f N):=by
 refine .of ?_;intro A env O T ρ α μ s E fl ρ' μ' R I F h;refine wpAny_While (codeAny_whileLoop (WLI C cx env O T α μ s λk ρ μ=>j0 t f k ρ μ=some (fl,ρ',μ')) (λk s1 p=>?_) N (dy ρ α μ I (aV.refl _ _ _ _) F h));refine dj p λρ1 α1 μ1 I1 S1 F1 h=>?_;cases k with
 |zero=>exact ct h
 |succ k=>
  refine aD (iP.symm.trans h) λb μ2 e1 h=>ht.go R I1 F1 e1 λα2 s2 I2 S2=>?_;cases b with
  |true=>
   refine aD (o:=f ρ1 μ2) (k:= λfl p=>Q3 fl (j0 t f k p.1 p.2) p) h λfl2 q e3 h=>hf.go R I2 (F1.step I1 S2) e3 λα3 fw s3 I3 S3 F3 r3=>?_;have S13:=S1.trans (S2.up.trans S3);refine Sq h (λz h=>?_) λz zz=>?_
   ·subst z
    subst r3;exact zO k (Rf _) q.1 α3 q.2 I3 S13 F3 h
   ·subst zz
    refine z.el r3 (λz z2=>?_) λV v z z2 rv=>?_
    ·subst z;subst z2;exact c_ α3 I3 S13 F3 rfl
    ·subst z;subst z2;exact jd α3 I3 S13 F3 v rfl rv
  |false=>exact gp h (RA (c_ α2 I2 (S1.trans S2.up) (F1.step I1 S2) rfl))
theorem bm.mono(r:bm h α M v V)(hm:∀a∈M',a∈M):bm h α M' v V:=r.ext (fZ.refl [] h) (iH.nil _ _) (λzz zz=>id) λa ha=>.inl (hm a ha)
abbrev Wt(C:gK)(cx:Cx)(env:Env)(O T α₀:List Addr)(μ₀:List ah)(s₀:Shared)(St:List Addr→xH)(xs:List PyData)(F:List PyData→d0→List ah→Prop)(k:Nat)(s:Shared):Prop:=
 ∃wr i ρ α μ,((∀a∈O,a∉wr)∧(∀a∈T,a∉wr)∧∀b∈wr,s₀.heap.get? b=none)∧k=xs.length+1-i∧i≤xs.length∧bl C (wr++T) α μ s∧bh C cx env O ρ s.heap α ((wr++T)++ai α μ)∧St wr (wr++T) α μ i s∧aV O α₀ μ₀ s₀ α μ s∧F (xs.drop i) ρ μ
theorem Wt.mk{F:List PyData→d0→List ah→Prop}
  (h1:∀a∈O,a∉wr) (h2:∀a∈T,a∉wr) (h3:∀b∈wr,s₀.heap.get? b=none) (hk:k=xs.length+1-i) (hi:i≤xs.length) (I:bl C (wr++T) α μ s) (Fr:bh C cx env O ρ s.heap α ((wr++T)++ai α μ)) (st:St wr (wr++T) α μ i s) (S:aV O α₀ μ₀ s₀ α μ s) (h:F (xs.drop i) ρ μ):Wt C cx env O T α₀ μ₀ s₀ St xs F k s:=
 (iz wr i ρ α μ ⟨h1,h2,h3⟩ hk hi I Fr st S h)
theorem Jl{g0:Option Nat}{Q:Fin→Shared→Prop}
  (tg:nM C cx target tup tf) (hb:cB C n cx body f) (R:cP A n) (hn2:2≤n) (W:gY C it gi xs g0 tup St Mid)
  (hOw:∀a∈O,a∉wr) (hTw:∀a∈T,a∉wr) (hw0:∀b∈wr,s₀.heap.get? b=none) (hg0:∀i∈gi,s₀.gens[i]? =none)
  (I:bl C (wr++T) α μ s) (F:bh C cx env O ρ s.heap α ((wr++T)++ai α μ)) (st:St wr (wr++T) α μ i s) (S:aV O α₀ μ₀ s₀ α μ s)
  (h:fS tf f g g0 xs (xs.drop i) ρ μ=some (fl,ρ',μ'))
  (kD:∀s1,bl C T α μ s1→bh C cx env O ρ s1.heap α (T++ai α μ)→aV O α₀ μ₀ s₀ α μ s1→g ρ μ=some (fl,ρ',μ')→Q (.again (.block orelse env)) s1)
  (kN:∀s4,i<xs.length→Wt C cx env O T α₀ μ₀ s₀ St xs (λr ρ μ=>fS tf f g g0 xs r ρ μ=some (fl,ρ',μ')) (xs.length+1-(i+1)) s4→Q (.again (.forLoop target it body orelse env)) s4)
  (kX:∀fw s4,ig C cx env O T α₀ μ₀ s₀ fl ρ' μ' fw s4→Q (.done fw) s4):wpAny (model C.prog C.w) A ((forTurn target it body orelse env).onRaise (λx=>do noteFrame x env;theTreesLotGoes x)) Q E s:=by
 have hwT:∀b∈wr,b∈wr++T:= λb hb=>yg _ hb;refine wpAny_noted ?_;simp only [forTurn];refine yK (L9 (yK (SP ?_)));cases ex:xs[i]? with
 |none=>
  rw [Mp (GB.mp ex)] at h
  exact W.done (R.mono hn2) I st ex λs1 mv hI=>Ez (kD s1 (hI T λa ha=>⟨D1 _ ha,hTw a ha⟩) ((F.moves mv hwT).mono mj) (S.moves mv hw0 hg0) h)
 |some x=>
  rw [vr ex] at h
  refine ax h λρ1 e1 h=>aD h λfl2 p e2 hh=>?_;clear h;refine W.item (R.mono hn2) I st ex λv s1 wr1 mv1 hfr I1 ir1 md1=>?_;refine yK (W.go I1 md1 tg.1 ir1 λs2 mv2 I2 ir2 st2=>?_);refine dU (Cu (T:=T) (h0:=s₀.heap) hfr) λhT1 hw1' hn1=>?_;have hwT1:∀b∈wr1,b∈wr1++T:= λb hb=>yg _ hb;have hOw1:∀a∈O,a∉wr1:= λa ha=>hn1 a (hOw a ha) (au ((F.own a ha).1) λo e zz=>⟨o,e⟩);have hTw1:∀a∈T,a∉wr1:= λa ha=>hn1 a (hTw a ha) (I.tdom a (D1 _ ha));have hw1:=hw1' hw0 S.dom;have F2:=(F.movesG mv1 hwT hT1).moves mv2 hwT1;have S2:=(S.moves mv1 hw0 hg0).moves mv2 hw1 hg0;refine yK (D3 (tg.2 A env O (wr1++T) ρ α μ s2 _ v x ρ1 R.handled I2 F2 ir2 e1) (λzz s3 sd=>?_) λzz zz x=>x);refine yK (hb.go R sd.1 sd.2.2 e2 λα4 fw s4 I4 S4 F4 r4=>?_);have S24:=sd.2.1.trans S4;refine Sq hh (λz h=>?_) λz zz=>?_
  ·subst z
   subst r4;have hlt:=(Bm.mp ex).1;exact @i6 _ (QY _) _ _ _ _ h λhgd h=>Ez (kN s4 hlt (Wt.mk hOw1 hTw1 hw1 rfl hlt I4 F4 (W.frame st2 S24 (λa ha=>.inr (.inl (F2.own a ha).1)) hOw1 (λa ha=>.inl ha) hwT1 I2 I4 hgd) (S2.trans S24) h))
  ·have I5:=I4.sub (T':=T) λa ha=>D1 _ ha
   have F5:=F4.mono (M':=T++ai α4 p.2) mj;subst zz;refine z.el r4 (λz z2=>?_) λV v z z2 rv=>?_
   ·subst z;subst z2;exact Ez (kX _ s4 (c_ α4 I5 (S2.trans S24) F5 rfl))
   ·subst z;subst z2;exact Ez (kX _ s4 (jd α4 I5 (S2.trans S24) F5 v rfl (rv.mono mj)))
theorem GS{g0:Option Nat}{RR:Result→Shared→Prop}
  (tg:nM C cx target tup tf) (hb:cB C n cx body f) (he:cB C n cx orelse g) (R:cP A n) (hn2:2≤n) (W:gY C it gi xs g0 tup St Mid)
  (hOw:∀a∈O,a∉wr) (hTw:∀a∈T,a∉wr) (hw0:∀b∈wr,s₀.heap.get? b=none) (hg0:∀i∈gi,s₀.gens[i]? =none)
  (I:bl C (wr++T) α μ s) (F:bh C cx env O ρ s.heap α ((wr++T)++ai α μ)) (st:St wr (wr++T) α μ 0 s) (S:aV O α₀ μ₀ s₀ α μ s)
  (h:fS tf f g g0 xs xs ρ μ=some (fl,ρ',μ')) (hR:∀fw s',ig C cx env O T α₀ μ₀ s₀ fl ρ' μ' fw s'→RR (.ok fw) s'):
  codeAny (model C.prog C.w) A (.forLoop target it body orelse env) RR s:=by
 refine codeAny_loop' rfl (Wt C cx env O T α₀ μ₀ s₀ St xs λr ρ μ=>fS tf f g g0 xs r ρ μ=some (fl,ρ',μ')) (λk s=>?_) (xs.length+1) (Wt.mk (i:=0) hOw hTw hw0 rfl (Lw _) I F st S h);clear hOw hTw hw0 I F st S h;intro p;refine jY p λwr i ρ α μ q zk hi I F st S h=>?_;refine bH (ES zk) ?_;refine dU q λhOw hTw hw0=>?_;exact Jl (A:=A) tg hb R hn2 W hOw hTw hw0 hg0 I F st S h (λs1 I1 F1 S1 e=>.inr ⟨rfl,codeAny_block (he.go R I1 F1 e λα2 fw s2 I2 S2 F2 r2=>hR fw s2 (c_ α2 I2 (S1.trans S2) F2 r2))⟩) (λs4 hl p=>.inl (gO rfl _ (AK hl) p)) hR
theorem gb(hn2:2≤n)(hit:lT C n cx iter tup itf)(tg:nM C cx target tup tf)(hb:cB C n cx body f)(he:cB C n cx orelse g)(hs:∀env x,foldedSetIterable iter env x=pure x):aQ C n cx (.For target iter body orelse pos) (jH itf tf f g):=by
 refine .of ?_;intro A env O T ρ α μ s E fl ρ' μ' R I F h;refine aD h λxs p e1 h=>wpAny_For (D3 (hit.run A env O T ρ α μ s _ xs p.1 p.2 R I F e1) (λx s1 pp=>D3 pp (λit s2 q=>?_) λzz zz x=>x) λzz zz x=>x) (hs env);refine gv q λwr gi St Mid α1 W I1 S1 st hw hg hgd=>?_;exact GS tg hb he R hn2 W (BB F hw) (λa ha q=>I.mdom a (yg _ ha) (hw a q)) hw hg I1 (F.growStep I S1 hw) st S1.up h λfw s' p=>p
end
def df(scope:Scope):Cx:= {scope:=scope,names:=(scope.names.filter λx=>x.2== .local||x.2== .cell).map λx=>(x.1,if x.2== .local then 1 else 2)}
noncomputable def cC(scope:Scope)(Vs:List AV):d0:=Vs.map some++Gv ((df scope).names.length-Vs.length) none
theorem lZ{l:List (Str×NameKind)}{k:NameKind}(hn:(l.map (·.1)).Nodup)(h:(x,k)∈l):l.lookup x=some k:=by
 induction l with
 |nil=>exact nomatch h
 |cons p r ih=>
  have hn':=Jy.mp hn;refine (C1.mp h).elim (λq=>q▸Pb) λq=>?_;have hxy:(x==p.1)=false:=by simpa using λz:x=p.1=>hn'.1 (by show p.1∈_;rw [←z];exact PA (f:=(·.1)) q)
  refine (Nw).trans ?_;rw [hxy];exact ih hn'.2 q
theorem my(h:(df scope).names[i]? =some (x,k)):(k=1∧(x,NameKind.local)∈scope.names)∨(k=2∧(x,Oo)∈scope.names):=by
 unfold df at h
 simp only [FS,HU] at h
 obtain ⟨⟨y,j⟩,e,q⟩:=h;have hm:=Ou.mp (FM e);simp only [SX] at q
 obtain ⟨rfl,q⟩:=q;simp only [PB,beq_iff_eq] at hm
 rcases hm.2 with z|z
 ·subst z;exact .inl ⟨by simpa using q.symm,hm.1⟩
 ·subst z;exact .inr ⟨by simpa using q.symm,hm.1⟩
theorem j8{β:Type}{l:List (Str×β)}(p:Str×β→Bool)(h:(l.map (·.1)).Nodup):((l.filter p).map (·.1)).Nodup:=
 SY (List.Sublist.map _ List.filter_sublist) h
theorem qY(hn:(scope.names.map (·.1)).Nodup){l:Nat}(h1:(df scope).names[i]? =some (x,k))(h2:(df scope).names[j]? =some (x,l)):i=j:=by
 have hnd:((df scope).names.map (·.1)).Nodup:=by
  unfold df;simp only [ER];exact j8 _ hn
 have e1:((df scope).names.map (·.1))[i]? =some x:=by rw [FS,h1];rfl
 have e2:((df scope).names.map (·.1))[j]? =some x:=by rw [FS,h2];rfl
 refine bP (Bm.mp e1) λp q1=>?_;refine bP (Bm.mp e2) λp' q2=>?_
 rcases Qw i j with h|h|h
 ·exact absurd (q1.trans q2.symm) (LX.mp hnd i j p p' h)
 ·exact h
 ·exact absurd (q2.trans q1.symm) (LX.mp hnd j i p' p h)
theorem pN{names:List (Str×NameKind)}{acc:List (Str×Addr)}(h:∃c,acc.lookup x=some c):∃c,(cellsFrom n names acc).lookup x=some c:=by
 induction names generalizing n acc with
 |nil=>exact h
 |cons p r ih=>
  refine (?_:∃c,(if p.2== .cell then cellsFrom (n+1) r ((p.1,n)::acc) else cellsFrom n r acc).lookup x=some c)
  by_cases q:(p.2== .cell)=true
  ·rw [if_pos q]
   refine ih ?_;rw [Nw];cases x==p.1 with
   |true=>exact ⟨_,rfl⟩
   |false=>exact h
  ·rw [if_neg q];exact ih h
theorem kg{names:List (Str×NameKind)}(n:Nat)(acc:List (Str×Addr))(x:Str)(h:(x,Oo)∈names):∃c,(cellsFrom n names acc).lookup x=some c:=by
 induction names generalizing n acc with
 |nil=>exact nomatch h
 |cons p r ih=>
  refine (?_:∃c,(if p.2== .cell then cellsFrom (n+1) r ((p.1,n)::acc) else cellsFrom n r acc).lookup x=some c);refine (C1.mp h).elim (λq=>q▸pN ⟨n,Pb⟩) λq=>?_
  by_cases z:(p.2== .cell)=true
  ·rw [if_pos z];exact ih _ _ q
  ·rw [if_neg z];exact ih _ _ q
section
variable {kd:Str→Option NameKind} {ps:List Str} {m:Str→Option Value}
theorem CP(h:x∉ps):bindL kd (ps.zip vs) m x=m x:=by
 induction ps generalizing vs m with
 |nil=>rfl
 |cons p ps ih=>
  cases vs with
  |nil=>rfl
  |cons v vs=>
   refine (ih λq=>h (D2 _ q)).trans ?_
   by_cases q:kd p=some .local
   ·rw [if_pos q];exact if_neg λq=>h (C1.mpr (.inl q))
   ·rw [if_neg q]
theorem Ee(h:x∉ps):bindC kd (ps.zip vs) m x=m x:=by
 induction ps generalizing vs m with
 |nil=>rfl
 |cons p ps ih=>
  cases vs with
  |nil=>rfl
  |cons v vs=>
   refine (ih λq=>h (D2 _ q)).trans ?_
   by_cases q:kd p=some .local
   ·rw [if_pos q]
   ·rw [if_neg q];exact if_neg λq=>h (C1.mpr (.inl q))
theorem F_{G:List (Str×Value)→(Str→Option Value)→Prop}(hn:ps.Nodup)(h1:ps[i]? =some x)(h2:vs[i]? =some v)(b:∀ (qs:List Str) (us:List Value) m,x∉qs→G ((x,v)::qs.zip us) m)(k:∀p l m,(∀m,G l m)→G (p::l) m):G (ps.zip vs) m:=by
 induction ps generalizing vs m i with
 |nil=>exact ct h1
 |cons p ps ih=>
  cases vs with
  |nil=>exact ct h2
  |cons w vs=>
   have hn':=Jy.mp hn;cases i with
   |zero=>cases h1;cases h2;exact b ps vs m hn'.1
   |succ i=>exact k _ _ m λm=>ih hn'.2 h1 h2
theorem EI(hn:ps.Nodup)(h1:ps[i]? =some x)(h2:vs[i]? =some v)(hk:kd x=some .local):bindL kd (ps.zip vs) m x=some v:=
 F_ (G:= λl m=>bindL kd l m x=some v) hn h1 h2 (λzz zz zz hq=>(CP hq).trans (by rw [if_pos hk];exact if_pos rfl)) λzz zz zz h=>h _
theorem CL(hn:ps.Nodup)(h1:ps[i]? =some x)(h2:vs[i]? =some v)(hk:kd x≠some .local):bindC kd (ps.zip vs) m x=some v:=
 F_ (G:= λl m=>bindC kd l m x=some v) hn h1 h2 (λzz zz zz hq=>(Ee hq).trans (by rw [if_neg hk];exact if_pos rfl)) λzz zz zz h=>h _
end
theorem E2(r:eZ h α M vs Vs)(e:Vs[i]? =some V):∃v,vs[i]? =some v∧bm h α M v V:=by
 induction Vs generalizing vs i with
 |nil=>exact ct e
 |cons W Vs ih=>
  cases vs with
  |nil=>exact r.elim
  |cons v vs=>
   cases i with
   |zero=>exact ⟨v,rfl,Ff e▸r.1⟩
   |succ i=>exact ih (vs:=vs) (i:=i) r.2 e
theorem Dt(r:eZ h α M vs Vs):vs.length=Vs.length:=by
 induction Vs generalizing vs with
 |nil=>cases vs with
  |nil=>rfl
  |cons _ _=>exact r.elim
 |cons W Vs ih=>cases vs with
  |nil=>exact r.elim
  |cons _ _=>exact congrArg Vf (ih r.2)
theorem EE(h:(cC scope Vs)[i]? =some (some V)):Vs[i]? =some V:=by
 unfold cC at h
 by_cases hi:i<Vs.length
 ·rw [EY (by simpa using hi),FS,HU] at h
  exact au h λW e q=>e.trans q
 ·rw [I7 (by simpa using LF hi),QZ] at h
  by_cases q:i-(Vs.map some).length< (df scope).names.length-Vs.length
  ·rw [if_pos q] at h;exact ct (Ff h)
  ·rw [if_neg q] at h;exact ct h
theorem bl.drop{α₁ δ:List Addr}{μ₁ κ:List ah}(I:bl C T (α₁++δ) (μ₁++κ) s)(hl:α₁.length=μ₁.length):bl C T α₁ μ₁ s∧(∀a,a∈T++ai α₁ μ₁→a∈T++ai (α₁++δ) (μ₁++κ)):=by
 have hm:∀a,a∈T++ai α₁ μ₁→a∈T++ai (α₁++δ) (μ₁++κ):= λa ha=>by
  rw [rE hl];exact (AZ.mp ha).elim (yg _) λh=>D1 _ (yg _ h)
 exact ⟨⟨I.keep,hl,λi a c h1 h2=>(I.cells i a c ((EY (Bm.mp h1).1).trans h1) ((EY (Bm.mp h2).1).trans h2)).mono hm,(QD.mp I.nodup).1,λa ha q=>I.apart a ha (yg _ q),I.tdom,I.tnew,λa ha=>I.new a (yg _ ha),I.gens,I.os⟩,hm⟩
noncomputable def Zg(fl:Fl)(μ μ':List ah):Option (AV×List ah):=Fl.rec (some (.d .none,μ'.take μ.length)) none (λV=>oe (v7 V) (some ()) (λx zz=>some (.d x,μ'.take μ.length)) (some (V,μ'))) fl
theorem HG{W:AV}:Zg (.ret W) μ μ'=oe (v7 W) (some ()) (λx zz=>some (.d x,μ'.take μ.length)) (some (W,μ')):=rfl
noncomputable def XY(scope:Scope)(f:SF):a_:= λVs μ=>bp (f (cC scope Vs) μ) λfl p=>Zg fl μ p.2
noncomputable def cy(k:Nat)(scope:Scope)(f:SF):a_:= λVs μ=>if Vs.length=k then XY scope f Vs μ else none
theorem sw{x:PyData}(I:bl C T α μ s)(I':bl C T α' μ' s')(S:aV [] α μ s α' μ' s')(r:aJ s'.heap (T++ai α' μ') v x):bI C T α μ s (μ'.take μ.length) (.d x) v s':=by
 refine au S.pre λδ e hd=>?_;have hlen:μ.length≤μ'.length:=by rw [←I.len,←I'.len,e];simp
 have hμ:μ'=μ'.take μ.length++μ'.drop μ.length:=(LM _ _).symm;have hl:α.length=(μ'.take μ.length).length:=by rw [LG,Rz hlen];exact I.len
 have I2:bl C T (α++δ) (μ'.take μ.length++μ'.drop μ.length) s':=by rw [←e,←hμ];exact I'
 refine fY (I2.drop hl) λI3 hm=>?_;rw [←e,←hμ] at hm
 exact (cJ α I3 (⟨aZ [] (DN _).symm (λzz h=>nomatch h),S.ext,λa ha=>(AZ.mp (hm a (D1 _ ha))).elim (λq=>absurd (e▸yg _ (db ha)) (I'.apart a q)) (S.mts a),S.dom,S.gens⟩) (r.mono hm))
section
variable {f:SF}
set_option tactic.hygienic true in
theorem mH{params:Arguments}(ps:List Str)(ho:C.B.get? fa=some o)(hdata:o.data=.func (Of name params body scope pm cd doc))(hcd:C.B.CodeRec cd name)
  (hbind:∀args:List Value,args.length=ps.length→bindArgs (Of name params body scope pm cd doc) ⟨args,[]⟩=pure (ps.zip args)) (hnd:(scope.names.map (·.1)).Nodup) (hps:((df scope).names.map (·.1)).take ps.length=ps)
  (hco:scope.isCoroutine=false) (hgen:scope.isGenerator=false) (hk:scope.kind=.function)
      (hd:A.depth<recursionLimit) (I:bl C T α μ s) (r:eZ s.heap α (T++ai α μ) vs Vs) (hVl:Vs.length=ps.length)
  (kont:∀L O h₁ tk,s.heap.get? L=none→L∈O→(∀a∈O,s.heap.get? a=none)→bl C T α μ {s with heap:=h₁,toks:=tk}→aV [] α μ s α μ {s with heap:=h₁,toks:=tk}→
   bh C (df scope) (envOfC name scope L fa cd) O (cC scope Vs) h₁ α (T++ai α μ)→(∀b o,s.heap.get? b=some o→h₁.get? b=some o)→
   wpAny (model C.prog C.w) (A.deeper (envOfC name scope L fa cd)) (execs body (envOfC name scope L fa cd)) (λf s'=>Q (match f with| .ret v=>v|_=>.none) s')
    (λe s'=>wpAny (model C.prog C.w) (A.deeper (envOfC name scope L fa cd)) (leaving (envOfC name scope L fa cd) e) (λzz s''=>E e s'') (λe' s''=>E e' s'') s') {s with heap:=h₁,toks:=tk}):
  wpAny (model C.prog C.w) A (call (.ref fa) vs) Q E s:=by
 have hvl:vs.length=ps.length:=(Dt r).trans hVl;have hpget:∀i x,ps[i]? =some x→∃k,(df scope).names[i]? =some (x,k):= λi x e=>by
  rw [←hps] at e
  refine bP (Bm.mp e) λhi zz=>?_;rw [LG] at hi
  rw [QG (by lia),FS,HU] at e
  refine au e λzp0 e q=>?_;obtain ⟨y,k⟩:=zp0;exact ⟨k,by rw [e];simp at q;rw [q]⟩
 have hplt:∀i x k,(df scope).names[i]? =some (x,k)→i<ps.length→ps[i]? =some x:= λi x k e hi=>by
  rw [←hps,QG hi,FS,e];rfl
 have hpnd:ps.Nodup:=by
  rw [←hps];refine SY (List.take_sublist _ _) ?_;unfold df;simp only [ER];exact j8 _ hnd
 have kindL:∀x,(x,NameKind.local)∈scope.names→scope.names.lookup x=some .local:= λx hx=>lZ hnd hx;have kindC:∀x,(x,Oo)∈scope.names→scope.names.lookup x=some .cell:= λx hx=>lZ hnd hx;refine wpAny_call (call_cells (name:=name) (params:=params) (body:=body) (scope:=scope) (pm:=pm) (cd:=cd) (doc:=doc) hd (I.keep _ _ ho) hdata (C.nolim.keeps I.keep) (hcd.keeps I.keep) (hbind vs hvl) (λx hx=>?_) (λh₁ tk Fr₁ Cl₁=>?_) hco hgen hk)
 ·refine bP (iD (List.of_mem_zip hx).1) λi e=>?_
  refine bP (hpget i x.1 e) λk e'=>?_
  rcases my e' with ⟨_,q⟩| ⟨_,q⟩
  ·exact .inl (kindL _ q)
  ·refine .inr ⟨kindC _ q,?_⟩
   refine bP (kg (s.heap.objs.size+1) [] x.1 q) λc e=>?_;rw [e];rfl
 ·generalize hL:s.heap.objs.size=L at Fr₁ Cl₁⊢
  have above:∀ {a},L≤a→s.heap.get? a=none:= λ{a} ha=>bw (by rw [hL];exact ha);have hLf:s.heap.get? L=none:=above (DW _);generalize hcs:cellsFrom (L+1) scope.names []=cs at Cl₁
  have csome:∀x,(x,Oo)∈scope.names→∃c,cs.lookup x=some c:= λx hx=>hcs▸kg (L+1) [] x hx;obtain ⟨cad,hcad⟩:∃cad:Nat→Addr,∀i x k,(df scope).names[i]? =some (x,k)→2≤k→cs.lookup x=some (cad i):=by
   refine ⟨λi=>(((df scope).names[i]?).bind λp=>cs.lookup p.1).getD 0,λi x k e h2=>?_⟩
   rcases my e with ⟨rfl,_⟩| ⟨_,q⟩
   ·lia
   ·refine bP (csome x q) λc hc=>?_
    show _=some ((((df scope).names[i]?).bind λp=>cs.lookup p.1).getD 0)
    rw [e]
    show _=some ((cs.lookup x).getD 0)
    rw [hc];rfl
  have hcf:∀i x k,(df scope).names[i]? =some (x,k)→2≤k→s.heap.get? (cad i)=none:= λi x k e h2=>above (Nat.le_of_lt (Cl₁.above x (cad i) (mem_of_lookup (hcad i x k e h2))));have I₁:bl C T α μ {s with heap:=h₁,toks:=tk}:=I.keeps Fr₁.keep;have S₁:aV [] α μ s α μ {s with heap:=h₁,toks:=tk}:=aV.keeps Fr₁.keep;have hkL:∀x,(x,NameKind.local)∈scope.names→(envOfC name scope L fa cd).kindOf x=some .local:= λx hx=>kindL x hx;have hkC:∀x,(x,Oo)∈scope.names→(envOfC name scope L fa cd).kindOf x≠some .local:= λx hx q=>by
   have:scope.names.lookup x=some .local:=q
   rw [kindC x hx] at this;cases this
  obtain ⟨O,hO1,hO2⟩:∃O:List Addr,L∈O∧(∀i x,(df scope).names[i]? =some (x,2)→cad i∈O)∧∀a∈O,a=L∨∃ (i:Nat) (x:Str),(df scope).names[i]? =some (x,2)∧a=cad i:=by
   refine (cJ (L::(zd (df scope).names.length).filterMap λi=>((df scope).names[i]?).bind λp=>if p.2=2 then some (cad i) else none) (FK ..) (λi x e=>D2 _ (Ow.mpr ⟨i,D5.mpr (Bm.mp e).1,by rw [e];rfl⟩)) (λa ha=>?_))
   rcases C1.mp ha with q|q
   ·exact .inl q
   ·refine au (Ow.mp q) λi zz e=>?_
    refine au (KH.mp e) λp e' e=>i6 e λq2 e=>?_;refine cA e ?_;exact .inr (fX i p.1 (by rw [e',←q2]) rfl)
  have hOf:∀a∈O,s.heap.get? a=none:= λa ha=>by
   rcases hO2.2 a ha with rfl| ⟨i,x,e,rfl⟩
   ·exact hLf
   ·exact hcf i x 2 e (DW _)
  have arg:∀i x k V,(df scope).names[i]? =some (x,k)→(cC scope Vs)[i]? =some (some V)→∃v,ps[i]? =some x∧vs[i]? =some v∧bm h₁ α (T++ai α μ) v V:= λi x k V e1 e2=>by
   have e3:=EE e2;refine au (E2 r e3) λv e4 rv=>?_;have hi:i<ps.length:=by rw [←hVl];exact (Bm.mp e3).1
   exact (cJ v (hplt i x k e1 hi) e4 (rv.step0 S₁))
  have F₁:bh C (df scope) (envOfC name scope L fa cd) O (cC scope Vs) h₁ α (T++ai α μ):=by
   refine ⟨rfl,rfl,rfl,?_,(aZ _ Fr₁.ns (λi x V e1 e2=>?_)),⟨cad,λi x k e hk=>by show (cellsFrom (L+1) scope.names []).lookup x=some (cad i);rw [hcs];exact hcad i x k e hk,λi x k e hk=>(aZ _ (Cl₁.cell x (cad i) (hcad i x k e hk)) (λV e2=>?_)),hO2.1,λi j x y k l e1 e2 hk hl q=>?_⟩,λa ha=>⟨?_,I.fresh (hOf a ha)⟩,hO1,λa ha q=>?_,λi j x e1 e2=>qY hnd e1 e2⟩
   ·have:ps.length≤(df scope).names.length:=by
     have:=congrArg NM hps
     rw [LG,xJ] at this
     lia
    unfold cC;simp only [be,xJ,Lc];lia
   ·refine cm (arg i x 1 V e1 e2) λv p1 p2 rv=>?_
    rcases my e1 with ⟨_,q⟩| ⟨q,_⟩
    ·exact (aZ v (EI hpnd p1 p2 (hkL x q)) rv)
    ·cases q
   ·refine cm (arg i x k V e e2) λv p1 p2 rv=>?_
    rcases my e with ⟨q,_⟩| ⟨_,q⟩
    ·lia
    ·exact (aZ v (CL hpnd p1 p2 (hkC x q)) rv)
   ·have m1:=mem_of_lookup (hcad i x k e1 hk)
    have m2:=mem_of_lookup (hcad j y l e2 hl);have hxy:x=y:=name_of_addr Cl₁.apart m1 (q▸m2);subst hxy;exact qY hnd e1 e2
   ·rcases hO2.2 a ha with rfl| ⟨i,x,e,rfl⟩
    ·exact fT Fr₁.ns
    ·exact hH (Cl₁.cell x (cad i) (hcad i x 2 e (DW _)))
   ·have hM:=I.mdom a ha
    rcases q with (q| ⟨i,x,k,e,hk,q⟩)|q
    ·exact hM (q▸hLf)
    ·have q':cs.lookup x=some a:=by rw [←hcs];exact q
     rw [hcad i x k e hk] at q';cases q'
     exact hM (hcf i x k e hk)
    ·exact hM (hOf a q)
  exact kont L O h₁ tk hLf hO1 hOf I₁ S₁ F₁ Fr₁.keep
theorem ZT{params:Arguments}(ps:List Str)(ho:C.B.get? fa=some o)(hdata:o.data=.func (Of name params body scope pm cd doc))(hcd:C.B.CodeRec cd name)
  (hbind:∀args:List Value,args.length=ps.length→bindArgs (Of name params body scope pm cd doc) ⟨args,[]⟩=pure (ps.zip args)) (hnd:(scope.names.map (·.1)).Nodup) (hps:((df scope).names.map (·.1)).take ps.length=ps)
  (hco:scope.isCoroutine=false) (hgen:scope.isGenerator=false) (hk:scope.kind=.function) (hb:cB C n (df scope) body f):
  eF C (n+1) (.ref fa) (cy ps.length scope f):=by
 intro A T α μ s E vs Vs V μ' R I r h;refine i6 h λhVl h=>aD h λfl p e h=>?_;refine mH ps ho hdata hcd hbind hnd hps hco hgen hk (by have:=R.depth;unfold recursionLimit;omega) I r hVl λL O h₁ tk hL hLO hOf I₁ S₁ F₁ hk1=>?_;have R':cP (A.deeper (envOfC name scope L fa cd)) n:=⟨by have:=R.depth;show A.depth+1+4*n<600;omega,by have:=R.units;show A.units+3+200*n+400<cLine;omega,R.handled⟩;refine hb.go R' I₁ F₁ e λα' fw s' I' S' F' r'=>?_;have fin:aV [] α μ s α' p.2 s':=((S₁.up (O:=O)).trans S').weak λa ha=>.inr (hOf a ha);cases fl with
 |next=>subst r';exact cg h (sw I I' fin (aJ.none _ _))
 |brk=>exact ct h
 |ret W=>
  refine au r' λv z rv=>?_;subst z;exact bV (HG.symm.trans h) (λx zz ex zz h=>cg h (sw I I' fin (by rw [iN ex] at rv;exact rv))) λh=>cg h (cJ α' I' fin rv)
end
noncomputable def Ho:a_:= λVs μ=>bp (l2 Vs) λV W=>oe (jI V) (jI W) (λa b=>some (.d (.int (if b<a then b else a)),μ)) none
theorem GQ{W:AV}(r:eZ h α M vs Vs)(e:l2 Vs=some (V,W))(k:∀v w,vs=[v,w]→bm h α M v V→bm h α M w W→G):G:=by
 rw [zJ e] at r
 exact bq (VM r) k
theorem HW:eF C n (.builtin "min") Ho:=by
 intro A T α μ s E vs Vs V μ' R I r h;refine aD h λV1 W1 el h=>bV h (λa b ea eb h=>cg h (GQ r el λv w z r1 r2=>?_)) λh=>ct h;subst z;refine bP (fJ ea r1) λt z1=>bP (fJ eb r2) λu z2=>?_;subst z1;subst z2;refine min_two_ints R.handled λh' tk hk=>?_
 by_cases hc:b<a
 ·rw [if_pos hc,if_pos hc];exact bI.of_keeps I hk (aJ.int ..)
 ·rw [if_neg hc,if_neg hc];exact bI.of_keeps I hk (aJ.int ..)
noncomputable def wy:a_:= λVs μ=>bo (l1 Vs) λV=>bo (da μ V) λxs=>bo (qp xs) λns=>some (.d (.int ns.sum),μ)
theorem zg(h:IntsAre vs ns):∃xs:Array (Int×Tok),vs.toArray=intItems xs∧ns.sum=preSum (numAt xs) xs.size:=by
 refine bP (AllInts.items (h.allInts)) λxs e=>?_;refine (aZ xs e ?_);have h2:=h.numsOf
 have:numsOf (intItems xs).toList=ns:=by rw [←e];simpa using h2
 rw [nums_intItems] at this
 rw [preSum_eq,F9 (by simp),this]
theorem zo:eF C n (.builtin "sum") wy:=by
 intro A T α μ s E vs Vs V μ' R I r h;refine ax h λV1 el h=>ax h λxs e1 h=>ax h λns e2 h=>cg h (gE r el λv z r1=>?_);subst z;refine bq (r1.isList I e1) λa items zq2 hl rr=>?_;subst zq2;refine au (zg (uz rr e2)) λys e3 e4=>?_;refine sum_intListG R.handled (e3▸hl.isList:s.heap.IsList a (intItems ys)) λh' tk t' hk=>?_;rw [←e4];exact bI.of_keeps I hk (aJ.int ..)
theorem bI.list{vs:Array Value}{c:Nat}(I:bl C T α μ s)(hk:∀b o,s.heap.get? b=some o→h'.get? b=some o)
  (hn:h'.get? s.heap.objs.size=some {cls:=.type "list",dict:=none,data:=.seq vs c,slots:= #[]}) (r:aw h' (T++ai α μ) vs.toList xs):bI C T α μ s μ (.d (.list xs)) (.ref s.heap.objs.size) {s with heap:=h',toks:=tk}:=
 bI.of_keeps I hk (aJ.list ⟨c,hn⟩ r (eD I (bw (DW _))))
theorem wl{a:Int}:∀ {n:Nat} {acc:Array Value},ItemsOf (λi v=>∃t,v=.int (a+(i:Int)*1) t) acc n→aw h M acc.toList (fI a n):=by
 intro n acc H;have hl:acc.toList.length=n:=by simpa using H.1
 have hg:∀ (i:Nat) (v:Value),acc.toList[i]? =some v→∃t,v=Value.int (a+(i:Int)) t:= λi v e=>by
  refine bP (H.2 i v (by rw [←KY];exact e)) λt e'=>?_;exact ⟨t,by rw [e',show a+(i:Int)*1=a+(i:Int) by lia]⟩
 clear H
 revert hl hg
 generalize acc.toList=l;intro hl hg
 induction l generalizing a n with
 |nil=>simp at hl;refine bH hl ?_;exact aw.nil _ _
 |cons v l ih=>
  cases n with
  |zero=>simp at hl
  |succ n=>
   refine bP (hg 0 v (by simp)) λt zq1=>?_;refine bH (ES zq1) ?_;refine .ccons ?_ (ih (by simpa using hl) λi v e=>?_)
   ·rw [show a+((0:Nat):Int)=a by lia];exact aJ.int ..
   ·refine bP (hg (i+1) v (by simpa using e)) λt e'=>?_
    exact ⟨t,by rw [e'];congr 1;push_cast;lia⟩
noncomputable def mw:a_:= λVs μ=>bo (l1 Vs) λV=>oe (XF V) (some ()) (λp zz=>if JB p.1 p.2 1=true∧(p.2-p.1).toNat≤2^24 then some (.d (.list (fI p.1 (p.2-p.1).toNat)),μ) else none) (bo (da μ V) λxs=>if xs.length≤sizeLine then some (.d (.list xs),μ) else none)
theorem zW(a b:Int):M9 a b 1=(b-a).toNat:=by
 unfold M9;simp only [show (1:Int)>0 by decide,if_true]
 split<;>lia
theorem ua:eF C n (.type "list") mw:=by
 intro A T α μ s E vs Vs V μ' R I r h;refine ax h λV1 el h=>gE r el λv z r1=>?_;subst z;refine bV h (λp zz e1 zz h=>i6 h λhc h=>cg h ?_) λh=>ax h λxs e1 h=>i6 h λhz h=>cg h ?_
 ·rw [Rk e1] at r1
  refine qP r1 λra t u w zq4 hr hM=>?_;subst zq4;exact call_list_range R.handled hr hc.1 (n:=(p.2-p.1).toNat) (zW _ _) hc.2 λh' tk acc' c' hk hn hit=>bI.list I hk hn (wl hit)
 ·refine bq (r1.isList I e1) λa items zq2 zp3 rr=>bP zp3 λk hl=>?_
  subst zq2;refine call_list_seq a (.inl rfl) hl rfl rfl (λh' c' hk hn=>?_) (by have:=rr.length;simp at this;lia);exact bI.list (tk:=s.toks) I hk hn (rr.keeps hk)
section
noncomputable abbrev Be:AV→AV→List ah→Option (AV×List ah):=aR λx y=>some (x+y)
noncomputable abbrev AF:AV→AV→List ah→Option (AV×List ah):=aR λx y=>some (x-y)
noncomputable abbrev AN:AV→AV→List ah→Option (AV×List ah):=aR λx y=>some (HX x y)
noncomputable abbrev T4:AV→AV→List ah→Option (AV×List ah):=aR λx y=>some (Mb x y)
noncomputable abbrev qa:AV→AV→List ah→Option (AV×List ah):=aR λa b=>if 0≤b∧(H1 a:Int)+b≤2^27 then some (a*2^b.toNat) else none
theorem rq{o:Int→Int→Option Int}(h:∀ (A:Around) (s:Shared) (E:Value→Shared→Prop) (x y z:Int) (t u:Tok) (Q:Value→Shared→Prop),o x y=some z→Q (.int z s.toks) {s with toks:=s.toks+1}→wpAny (model C.prog C.w) A (inplaceOp op (.int x t) (.int y u)) Q E s):rg C n op (aR o):=by
 intro A T α μ s E a b Va Vb V μ' R I ra rb q;refine ax q λx ea q=>ax q λy eb q=>ax q λz e q=>cg q (bP (fJ ea ra) λt z1=>bP (fJ eb rb) λu z2=>?_);subst z1;subst z2;exact h A s E x y z t u _ e (bI.tok I (aJ.int ..))
theorem OM:rg C n .Add Be:=rq λA s E x y z t u Q e=>cA e λq=>wpAny_iadd_int q
theorem Oz:rg C n .Sub AF:=rq λA s E x y z t u Q e=>cA e λq=>isub_int q
theorem Op:rg C n .BitXor AN:=rq λA s E x y z t u Q e=>cA e λq=>ixor_int q
theorem SN:rg C n .BitOr T4:=rq λA s E x y z t u Q e=>cA e λq=>ior_int q
theorem Bp:rg C n .LShift qa:=rq λA s E x y z t u Q e=>i6 e λhc e=>cA e λq=>ilshift_int hc.1 hc.2 q
end
def dv(f:EF)(fs:List EF)(spec:a_):EF:= λρ μ=>bp (f ρ μ) λV μ1=>bo (mn V) λx=>bp (eY fs ρ μ1) λVs μ2=>spec (.d (.str x)::Vs) μ2
section
theorem fQ{o:Expr}{id:String}(hm:mV o name apos (e::es) pos)(slot:Slot "str" name id)(hty:typeOf (.builtin id)=pure (.type "method_descriptor"))(hok:eF C n (.builtin id) spec)
  (hf:ab C n cx o f) (ha:de C n cx (e::es) fs) (hs:∀env,starEach (e::es) env=(false,eval e env)::starEach es env) (hp:∀env,(backTo pos (starEach (e::es) env)).any (·.1)=false):
  ab C n cx (.Call (.Attribute o name apos) (e::es) [] pos) (dv f fs spec):=by
 refine .of ?_;intro A env O T ρ α μ s E V μ' R I F h;refine aD h λW μ1 e1 h=>ax h λx ex h=>aD h λVs μ2 e2 h=>?_;refine QU (hf.goF R I F e1 λv s1 α1 I1 S1 F1 r1=>bP (j2 ex r1) λt z=>?_) (hm env);subst z;refine QH rfl Rl slot hty (λa e=>nomatch e) ?_;refine bf id _ _ _ _ _ _ _ _ (hp env) (ee (hs env) ha R I1 F1 e2 λvs s2 α2 I2 S2 r2=>?_);exact D3 (hok A T α2 μ2 s2 E (.str x t::vs) (.d (.str x)::Vs) V μ' R I2 ⟨aJ.str ..,r2⟩ h) (λv s3 p=>bI.trans (S1.trans S2) p) λzz zz x=>x
def jF(tbl:Str→Option Int)(g:EF):EF:= λρ μ=>bp (g ρ μ) λV μ1=>bo (mn V) λx=>bo (tbl x) λi=>some (.d (.int i),μ1)
theorem kc{K:Type} [DecidableEq K] {knd:KeyKind prog w K}{f:K→Option Value}(hm:h.MapOf knd a f)(hk:∀b o,h.get? b=some o→h'.get? b=some o):h'.MapOf knd a f:=
 let ⟨o,es,ep,ho,r⟩:=hm;⟨o,es,ep,hk _ _ ho,r⟩
theorem Nx{d:Addr}{m:Str→Option Value}{tbl:Str→Option Int}(hg:C.mg x=some (.ref d))(hm:C.B.MapOf (strKind C.prog C.w) d m)(ht:∀y i,tbl y=some i→∃t,m y=some (.int i t))(hf:ab C n cx e g)
  (hs:∀o i,subscripted e false o i=operate [o,i] (getItem o i))
  (hl:cx.scope.names.lookup x=some .globalImplicit) (hk:cx.scope.kind=.function) (hdb:(x==("__debug__":Str))=false):ab C n cx (.Subscript (.Name x xp) e pos) (jF tbl g):=by
 refine .of ?_;intro A env O T ρ α μ s E V μ' R I F h;refine aD h λW μ1 e1 h=>ax h λy ey h=>ax h λi e2 h=>cg h (Ta ?_);refine F6 (by rw [F.sc];exact hk) (by unfold IC;rw [F.sc];exact hl) (L6 (by rw [F.gl];exact C.g.keeps I.keep) hg ?_) hdb;refine hf.go R I F e1 λv s1 α1 I1 S1 r1=>bP (j2 ey r1) λt z=>bP (ht y i e2) λu hu=>?_;subst z;have hm':=kc hm I1.keep;exact RQ (T:="dict") hm'.typeIs slot_dict_getitem.lookup (wpAny_getItem_of (k:=y) (strKind_is ..) hm' hu (bI.trans S1 (bI.tok I1 (aJ.int ..)))) (hs _ _)
def sS(tbl:Int→Option Str)(f g:EF):EF:= λρ μ=>bp (f ρ μ) λV μ1=>bo (jI V) λk=>bp (g ρ μ1) λW μ2=>bo (mn W) λx=>some (.d (.str ((tbl k).getD x)),μ2)
theorem Pp{d:Addr}{m:Int→Option Value}{tbl:Int→Option Str}(hmeth:mV (.Name x xp) "get" apos [e1,e2] pos)(hg:C.mg x=some (.ref d))(hm:C.B.MapOf (intKind C.prog C.w) d m)
  (ht:∀k,(∃y t,tbl k=some y∧m k=some (.str y t))∨(tbl k=none∧m k=none)) (hd:(d==sysModules)=false) (hf:ab C n cx e1 f) (hg2:ab C n cx e2 g)
  (hs:∀env,backTo pos (starEach [e1,e2] env)=[(false,eval e1 env),(false,eval e2 env)])
  (hl:cx.scope.names.lookup x=some .globalImplicit) (hk:cx.scope.kind=.function) (hdb:(x==("__debug__":Str))=false):ab C n cx (.Call (.Attribute (.Name x xp) "get" apos) [e1,e2] [] pos) (sS tbl f g):=by
 refine .of ?_;intro A env O T ρ α μ s E V μ' R I F h;refine aD h λV1 μ1 q1 h=>ax h λk ek h=>aD h λV2 μ2 q2 h=>ax h λy ey h=>cg h (QU ?_ (hmeth env));refine F6 (by rw [F.sc];exact hk) (by unfold IC;rw [F.sc];exact hl) (L6 (by rw [F.gl];exact C.g.keeps I.keep) hg ?_) hdb;have hm0:=kc hm I.keep;refine QH hm0.typeIs PySem.F.plainAttrs_dict PySem.F.slot_dict_get PySem.F.type_dict_get hm0.noDict ?_;rw [hs env];refine wpAny_dict_get2 (knd:=intKind C.prog C.w) hd (hf.goF R I F q1 λv s1 α1 I1 S1 F1 r1=>bP (fJ ek r1) λt z=>hg2.go R I1 F1 q2 λw s2 α2 I2 S2 r2=>bP (j2 ey r2) λu z2=>?_);subst z;subst z2;refine (dw k m (intKind_is ..) (kc hm I2.keep) (bI.trans (S1.trans S2) (bI.tok I2 ?_)));exact (ht k).elim (λz=>jV z λz t' h1 h2=>by rw [h1,h2];exact aJ.str ..) λz=>by rw [z.1,z.2];exact aJ.str ..
theorem Zm{T:String}(hg:C.mg x=none)(hb:bootBuiltins x=some (.type T))(hx:x≠"__name__")(hl:cx.scope.names.lookup x=some .globalImplicit)(hk:cx.scope.kind=.function)(hd:(x==("__debug__":Str))=false):
  ab C n cx (.Name x pos) (λzz μ=>some (.ty T,μ)):=by
 refine .of ?_;intro A env O T' ρ α μ s E V μ' R I F h;refine cg h ?_;exact F6 (by rw [F.sc];exact hk) (by unfold IC;rw [F.sc];exact hl) (Lg (by rw [F.gl];exact C.g.keeps I.keep) hg (by rw [F.bn];exact C.b.keeps I.keep) ((C.bt x hx).trans hb) (bI.same I rfl)) hd
def n6(f g:EF)(sep:Str):TF:= λρ μ=>bp (f ρ μ) λV μ1=>bo (mn V) λw=>bp (g ρ μ1) λW μ2=>bo (mn W) λx=>
 if x.length≤sizeLine∧(Og x (Ln x sep 0 x.length (x.length+1)) sep.length).length≤sizeLine∧KX ((PC x sep).map .str)=true∧Tv w=true then some (((PC x sep).map Lh).any λy=>Ml y (.str w),μ2) else none
theorem pI:∀ (l:List (Str×Tok)),∃as,ReadsAll h (strValues l) (l.map λp=>.str p.1) as
 | []=>⟨_,.nil⟩
 | (x,t)::r=>let ⟨_,q⟩:=pI r;⟨_,.cons (.str x t) q⟩
theorem IG{o:Expr}{sep:Str}{cpos spos:Pos}(hmeth:mV o "split" apos [.Constant (.str sep) k cpos] pos)(hf:ab C n cx e1 f)(hg:ab C n cx o g)(hsep:(sep.length==0)=false):
  gN C n cx (.Compare e1 [.In] [.Call (.Attribute o "split" apos) [.Constant (.str sep) k cpos] [] pos] spos) (n6 f g sep):=by
 refine .of ?_;intro A env O T ρ α μ s E b μ' R I F h;refine aD h λV1 μ1 q1 h=>ax h λw ew h=>aD h λV2 μ2 q2 h=>ax h λx ex h=>i6 h λhz h=>cg h ?_;refine Rt (hf.goF R I F q1 λv s1 α1 I1 S1 F1 r1=>?_) (by with_unfolding_all rfl);refine QU (hg.goF R I1 F1 q2 λv2 s2 α2 I2 S2 F2 r2=>bP (j2 ex r2) λt z=>bP (j2 ew (r1.step0 S2)) λt1 z1=>?_) (hmeth env);subst z;subst z1;refine QH rfl Rl PySem.F.slot_str_split PySem.F.type_str_split (λa e=>nomatch e) ?_;have es1:de C n cx [.Constant (.str sep) k cpos] [λzz μ=>some (.d (.str sep),μ)]:=dz (by intro env;rfl) Gj ae;refine bf "str.split" _ _ _ _ _ _ _ _ rfl (ee (by rfl) es1 R I2 F2 (show eY [λzz μ=>some (.d (.str sep),μ)] ρ μ2=some ([.d (.str sep)],μ2) from rfl) λvs s3 α3 I3 S3 r3=>?_);refine au (H4 r3) λv3 z r4=>bP (aJ.of_str r4) λu z1=>?_;subst z;subst z1;refine SCH.split1 (P:= λh'=>∀b o,s3.heap.get? b=some o→h'.get? b=some o) (λh ob hp b o e=>Bt _ (hp b o e)) (λzz zz e=>e) hsep (λD l h' kk hl hk hD=>?_) hz.1 hz.2.1;refine As hD λod hod hcd nd hdd=>bP (pI (h:=h') l) λas ra=>?_;have hxs:(l.map λp=>Lh p.1)=(PC x sep).map Lh:=by rw [←hl,ER];rfl
 have rc:Reads h' (.ref D) (.list ((PC x sep).map Lh)) _:=.list hod hcd hdd (by rw [←hxs];simpa using ra);refine Q9 (s:= {s3 with heap:=h',toks:=kk}) rc (.str w t1) hz.2.2.1 (by simpa [Qb] using hz.2.2.2) (by have:=R.units;have h9:(Lh w).depth≤1:=(by simp [Tz]);lia) ?_;exact OX (gO rfl α3 (I3.keeps hk) (S1.trans (S2.trans (S3.trans (aV.keeps hk)))))
end
noncomputable def QQ:a_:= λVs μ=>bo (l1 Vs) λV=>bo (Yl V) λxs=>some (.c μ.length,μ++[.iter xs])
section
theorem Iy(I:bl C T α μ s)(r:aJ s.heap (T++ai α μ) (.ref a) (.list xs)):
  bI C T α μ s (μ++[.iter xs]) (.c μ.length) (.ref s.heap.objs.size) {s with heap:=s.heap.push {cls:=.type "list_iterator",data:=.fields #[.ref a,.int 0 0]}}:=by
 refine kR r.of_list λzz items e1 hp rr haM=>?_;cases e1;have hw:∀b∈[s.heap.objs.size],s.heap.get? b=none:=Db;exact Ks (tk:=s.toks) I (bb _ _) (bw (DW _)) ⟨_,Dp _ rfl⟩ rfl (.inl (i0 a 0 items (cJ _ (Dp _ rfl) rfl rfl) (eP hp (W:=[]) (fZ.of_keeps (bb _ _)) (λq=>nomatch q)) (λq=>(lA hw a q).elim haM (fO (fG hp))) (Lw _) (rr.grow (s':= {s with heap:=s.heap.push {cls:=.type "list_iterator",data:=.fields #[.ref a,.int 0 0]}}) (bb _ _) hw)))
theorem OO:eF C n (.builtin "iter") QQ:=by
 intro A T α μ s E vs Vs V μ' R I r h;refine ax h λW el h=>ax h λxs ex h=>cg h (gE r el λv z r1=>?_);subst z;have r2:=Mf ex r1;refine bq r2.of_list λa items zq2 hp zz=>?_;subst zq2;refine PE (by decide+kernel) (by decide+kernel) kdk_entry_iter (kdk_args_iter _) ?_;unfold Builtin.«iter»;refine yK (m:=someArgs "iter" 1 2 _) (M8 (a:=[Lu a]) (by first|rfl|kernel_rfl!) ?_);refine (?_:wpAny _ _ (pyIter (.ref a)>>=_) _ _ _);exact yK (M3 hp.isList (Ez (aZ _ rfl (Iy I r2))))
noncomputable def Qv:ah→Option (List PyData)
 | .iter xs=>some xs
 |_=>none
theorem ab6(h:Qv c=some xs):c=.iter xs:=by
 cases c with
 |iter _=>exact congrArg _ (Ff h)
 |_=>exact ct h
noncomputable def uncons{X:Type}(l:List X):Option (X×List X):=List.rec none (λx r zz=>some (x,r)) l
theorem JW{X:Type}{l r:List X}{x:X}(h:uncons l=some (x,r)):l=x::r:=by
 cases l with
 |nil=>exact ct h
 |cons y t=>cases h;rfl
noncomputable def km:a_:= λVs μ=>bo (l1 Vs) λV=>bo (EX V) λi=>bo (μ[i]?.bind Qv) λxs=>bp (uncons xs) λx r=>some (.d x,μ.set i (.iter r))
theorem u_{o:Option ah}(h:o.bind Qv=some xs):o=some (.iter xs):=by
 cases o with
 |none=>exact ct h
 |some c=>exact congrArg some (ab6 h)
theorem mm{it l:Addr}{x:Value}{Q:Option Value→Shared→Prop}(hit:s.heap.IsListIter it l i)(hl:s.heap.IsList l items)(hx:items[i]? =some x)
  (hQ:∀h',h'.IsListIter it l (i+1)→Lb it s.heap h'→Q (some x) {s with heap:=h'}):wpAny (model C.prog C.w) A (callSpecial? (.ref it) (Jg "__next__")) Q E s:=by
 refine cm (id hit) λo ho hc hd=>?_;refine As hl λol hol zz nl hdl=>?_;refine Ii (name:=Jg "__next__") hit.typeIs K_
  (L4 K_ hit.typeIs PG ?_ (PW _))
 refine (?_:wpAny _ _ (field (.ref it) 0>>=_) _ _ s);refine yK (KP ho hd (x:=.ref l) rfl ?_);refine (?_:wpAny _ _ (if (Lu l==L7)=true then _ else _) _ _ s);rw [if_neg (show ¬ ((Lu l==L7)=true) from G_)];refine (?_:wpAny _ _ (field (.ref it) 1>>=_) _ _ s);refine yK (KP ho hd (x:=.int i 0) rfl ?_);refine (?_:wpAny _ _ (seqItems? (.ref l)>>=_) _ _ s);refine yK (MR hol hdl ?_);simp only [Fd,hx];refine yK (P5 ho hd (by simp) (Ez (aZ x rfl (hQ _ ?_ (KW ..)))));exact (cJ _ (Fj _ ho (LO (L0 hd _))) ((Td ..).trans hc) (by
  rw [L0 hd];simp [rawInt]))
theorem BU:eF C n (.builtin "next") km:=by
 intro A T α μ s E vs Vs V μ' R I r h;refine ax h λW el h=>ax h λi ei h=>ax h λxs e h=>aD h λx rst eu h=>cg h (gE r el λv z r1=>?_);subst z;refine au (Gg ei r1) λa ha z=>?_;subst z;have e:=u_ e;rw [JW eu] at e
 refine (I.cells i a _ ha e).elim (λz=>i7 z λl k items hit hp hl hk rr=>?_) λz=>nomatch z.1;refine PE (by decide+kernel) (by decide+kernel) kdk_entry_next (kdk_args_next _) ?_;unfold Builtin.«next»
 refine yK (m:=someArgs "next" 1 2 _) (M8 (a:=[Lu a]) (by first|rfl|kernel_rfl!) ?_);dsimp only;refine yK (Ls (name:=Jg "__next__") hit.typeIs K_.lookup ?_);refine wpAny_ite_split (λhab=>absurd hab (by decide)) (λzz=>?_);refine ib rr λv us hd rv rs=>?_;have hk':k<items.toList.length:=Nat.lt_of_not_le λq=>by rw [Mp q] at hd;exact nomatch hd
 have hd2:=(MX hk').symm.trans hd;have e2:items[k]? =some v:=by rw [←KY,Fh hk'];exact congrArg some (UH hd2).1
 refine yK (mm (C:=C) hit hp.isList e2 λh' hit' hs=>Ez (aZ _ rfl ?_));have hla:l≠a:= λq=>hl (q▸D1 _ (pS ha e rfl));refine fY (I.setCell (c:=.iter rst) (h':=h') (tk:=s.toks) ha e rfl rfl (λb o q e=>(hs.2 b q).trans e) (au hit' λo z zz=>⟨o,z⟩) λkd=>.inl (i0 l (k+1) items hit' (bP hp λm z=>⟨m,(hs.2 l hla).trans z⟩) hl (Nat.succ_le_of_lt (by simpa using hk')) (kd ((UH hd2).2▸rs)))) λI' S'=>?_;exact cJ α I' S' (aJ.step0 (T:=T) rv S')
end
section
theorem CC{it t:Addr}(hne:t≠it)(n i:Nat)(s:Shared)(Q:List Value→Shared→Prop)(hit:s.heap.IsListIter it t i)(ht:s.heap.IsList t items)(hle:i+n≤items.size)
  (hQ:∀h',h'.IsListIter it t (i+n)→Lb it s.heap h'→Q ((items.toList.drop i).take n) {s with heap:=h'}):wpAny (model prog w) A (draw (.ref it) n) Q E s:=by
 induction n generalizing i s Q with
 |zero=>
  refine (?_:wpAny _ _ (pure []) Q E s);exact Ez (by simpa using hQ s.heap hit (Lb.refl ..))
 |succ n ih=>
  have hlt:i<items.size:=Om (Nat.lt_add_of_pos_right (Nat.succ_pos n)) hle;refine (?_:wpAny _ _ (pyNext (.ref it)>>=_) Q E s);refine yK (Ri hit ht (x:=items[i]) (N6 hlt) λh₁ hit₁ hs₁=>?_);have e:i+(n+1)=i+1+n:=by lia
  refine yK (KZ (ih (i+1) _ _ hit₁ (ht.extBut hs₁.extBut hne) (e▸hle) λh₂ hit₂ hs₂=>Ez ?_));have z:=hQ h₂ (e▸hit₂) (hs₁.trans hs₂);rw [show items.toList.drop i=items[i]::items.toList.drop (i+1) by simp [MX,hlt],List.take_succ_cons] at z
  exact z
theorem n7{t:Addr}{Q:List Value→Shared→Prop}(hh:A.handled=none)(ht:s.heap.IsList t items)
  (hQ:∀h',P2 s.heap.objs.size s.heap h'→Q items.toList {s with heap:=h'}):wpAny (model prog w) A (unpackItems (.ref t) items.size none) Q E s:=by
 have hlt:t≠s.heap.objs.size:=by refine au ht λo ho zz=>?_;exact LK (M7 ho)
 unfold unpackItems;refine yK ?_
 ·unfold notIterableAtAll
  refine yK (Ls ht.typeIs slot_list_iter.lookup ?_);refine Ez ?_;simp only [Oy,if_false];refine yK (KZ (M3 ht ?_));refine yK (KZ (CC hlt items.size 0 _ _ (cJ _ (Dp _ rfl) rfl rfl) (ht.push _) (by lia) λh₁ hit₁ hs₁=>?_));have hall:List.take items.size (T1 0 items.toList)=items.toList:=by
   rw [Sk];exact F9 (by simp)
  rw [hall];rw [if_neg (by simp)];have ht₁:h₁.IsList t items:=(ht.push _).extBut hs₁.extBut hlt;refine yK (KZ (Pv hh hit₁ ht₁ (by simp) λh₂ he₂=>?_));simp only [Option.isSome_none,Oy,if_false];refine Ez (hQ h₂ λb o hb e=>he₂ b o hb (hs₁.extBut b o hb (Bt _ e)))
theorem mD{elts:List Expr}{x1}{t:Addr}{Q:Unit→Shared→Prop}(hh:A.handled=none)(ht:s.heap.IsList t items)
  (hn:(assignEach elts env).length=items.size) (hstar:(assignEach elts env).findIdx? (·.1)=none)
  (h:∀h',P2 s.heap.objs.size s.heap h'→wpAny (model prog w) A (assignInOrder ((assignEach elts env).map (·.2)) items.toList) Q E {s with heap:=h'}):
  wpAny (model prog w) A (assign (.Tuple elts x1 pos) env (.ref t)) Q E s:=by
 rw [PyProof.Rows.assign_Tuple];refine yK (L9 ?_);unfold unpack;rw [hn,hstar];exact yK (KZ (n7 hh ht h))
end
def VE(i j:Nat)(f:EF):SF:= λρ μ=>bp (f ρ μ) λV μ1=>bo (Yl V) λds=>bp (l2 ds) λa b=>some (.next,(ρ.set i (some (.d a))).set j (some (.d b)),μ1)
def vh(i j:Nat)(f:EF):SF:= λρ μ=>bp (f ρ μ) λV μ1=>bo (Ke V) λds=>bp (l2 ds) λa b=>some (.next,(ρ.set j (some (.d b))).set i (some (.d a)),μ1)
section
theorem om{a b:PyData}(r:aw h M items.toList [a,b])(k:∀v1 v2,items= #[v1,v2]→aJ h M v1 a→aJ h M v2 b→G):G:=
 ib r λv1 us e r1 r=>ib r λv2 us2 e2 r2 r=>k v1 v2 (by rw [←Array.toArray_toList (xs:=items),e,e2,kC r]) r1 r2
theorem TB{y:Str}(hf:ab C n cx e f)(hx:aA C cx x i)(hy:aA C cx y j)
  (hs:∀env,swapsWithSole [.Tuple [.Name x px,.Name y py] kk tp] e pos.line env=pure false) (hw:∀env,swappedStores [.Tuple [.Name x px,.Name y py] kk tp] e env=pure none):
  aQ C n cx (.Assign [.Tuple [.Name x px,.Name y py] kk tp] e pos) (VE i j f):=by
 refine .of ?_;intro A env O T ρ α μ s E fl ρ' μ' R I F h;refine aD h λV μ1 e1 h=>ax h λds ed h=>aD h λa b el h=>gp h (Assign_Tuple (hf.goF R I F e1 λv s1 α1 I1 S1 F1 r1=>?_) (hs env) (hw env));refine kR (Mf ed r1).of_list λl items zq2 hp rr zz=>?_;subst zq2;rw [zJ el] at rr
 refine om rr λv1 v2 z r1 r2=>?_;subst z;refine mD R.handled hp.isList rfl rfl λh' he=>?_;have hk:=gT he;exact D3 (fu hx (I1.keeps (tk:=s1.toks) hk) (F1.keeps I1 hk) (aV.keeps (tk:=s1.toks) hk).up (rr.keeps hk) λzz zz I F S r=>fu hy I F S r λzz zz I F S r=>kZ I F S r) (λzz zz st=>kb S1.up st) λzz zz x=>x
theorem AQ{y:Str}(hf:ab C n cx e f)(hx:aA C cx x i)(hy:aA C cx y j)
  (hs:∀env,swapsWithSole [.Tuple [.Name x px,.Name y py] kk tp] e pos.line env=pure false) (hw:∀env,env.scope=cx.scope→swappedStores [.Tuple [.Name x px,.Name y py] kk tp] e env=pure (some [x,y])):
  aQ C n cx (.Assign [.Tuple [.Name x px,.Name y py] kk tp] e pos) (vh i j f):=by
 refine .of ?_;intro A env O T ρ α μ s E fl ρ' μ' R I F h;refine aD h λV μ1 e1 h=>ax h λds ed h=>aD h λa b el h=>gp h (Assign_Tuple_swapped (hf.goF R I F e1 λv s1 α1 I1 S1 F1 r1=>?_) (hs env) (hw env F.sc));refine bq (K5 ed r1) λl items zq2 hp rr=>?_;subst zq2;rw [zJ el] at rr
 refine om rr λv1 v2 z r1 r2=>?_;subst z;refine (?_:wpAny _ A (unpackItems (.ref l) (#[v1,v2]:Array Value).size none) _ _ _);refine PyProof.Rows.unpackItems_tuple R.handled hp λh' he=>?_;have hk:=gT he
 show wpAny _ A (assignInOrder [λv=>bindName env y v,λv=>bindName env x v] [v2,v1]) _ _ _
 exact D3 (jZ (λzz zz h=>wpAny_bindName h) hy (I1.keeps (tk:=s1.toks) hk) (F1.keeps I1 hk) (aV.keeps (tk:=s1.toks) hk).up (.cons (r2.keeps hk) (.cons (r1.keeps hk) (aw.nil _ _))) λzz zz I F S r=>jZ (λzz zz h=>wpAny_bindName h) hx I F S r λzz zz I F S r=>kZ I F S r) (λzz zz st=>kb S1.up st) λzz zz x=>x
theorem rK{l:Addr}{k:Int}{t:Tok}{Q:Unit→Shared→Prop}(hp:s.heap.PlainList l items)
  (h0:0≤k) (hfit:k<2^63) (hn:k<items.size)
  (hQ:∀h',h'.PlainList l (items.setIfInBounds k.toNat v)→Lb l s.heap h'→Q () {s with heap:=h'}):
  wpAny (model prog w) A (setItem (.ref l) (.int k t) v) Q E s:=by
 have hl:=hp.isList;refine bP hp λne ho=>?_;unfold setItem
 try with_reducible refine KZ ?_
 first|refine yK (Ez ?_)|skip
 refine yK (wpAny_sequenceKey hl.typeIs (by decide) ?_);refine yK (Ii (name:=Jg "__setitem__") hl.typeIs slot_list_setitem
  (L4 slot_list_setitem hl.typeIs entry_list_setitem ?_ (args_list_setitem _ _ _)))
 refine (?_:wpAny _ _ (Builtin.List.listSubscript? (.int k t)>>=_) _ _ s);refine yK (wpAny_listSubscript_int (fitsIndex_of h0 hfit) ?_);clear hfit;refine bP (L2 h0) λj zq1=>?_;subst zq1;have hj:j<items.size:=by lia
 have hx':items[j]? =some items[j]:=N6 hj
 show wpAny _ _ ((seqItemAt l j>>= λr=>pure (r.map (j,·)))>>=_) _ _ s
 refine yK (yK (wpAny_seqItemAt ho rfl (Ez ?_)));rw [hx'];refine (?_:wpAny _ _ (setSeqItemAt l j v>>=_) _ _ s);have hfin:∃n',(s.heap.update l (M0 (·.setIfInBounds j v))).get? l=some {cls:=.type "list",data:=.seq (items.setIfInBounds j v) n'}:=by
  rw [Fj _ ho rfl];exact ⟨_,rfl⟩
 refine yK (wpAny_setSeqItemAt ho rfl ?_)
 first
  |exact yK (Ez (Ez (aZ .none rfl (Ez (hQ _ hfin (KW ..))))))
  |exact Ez ⟨.none,rfl,Ez (hQ _ hfin (KW ..))⟩
noncomputable def liC:ah→Option (List PyData)
 | .live xs=>some xs
 |_=>none
theorem Bc{o:Option ah}(h:o.bind liC=some xs):o=some (.live xs):=by
 cases o with
 |none=>exact ct h
 |some c=>
  cases c with
  |live _=>exact congrArg (λx=>some (ah.live x)) (Ff h)
  |_=>exact ct h
noncomputable def Yb(i:Nat)(k:Int)(d:PyData)(μ:List ah):Option (List ah):=bo (μ[i]?.bind liC) λxs=>if 0≤k∧k<xs.length∧k<2^63 then some (μ.set i (.live (xs.set k.toNat d))) else none
theorem CX{k:Int}{t:Tok}(I:bl C T α μ s)(ha:α[i]? =some a)(r:aJ s.heap (T++ai α μ) v d)(h:Yb i k d μ=some μ'):
  wpAny (model C.prog C.w) A (setItem (.ref a) (.int k t) v) (λzz s'=>bl C T α μ' s'∧aV [] α μ s α μ' s') E s:=by
 refine ax h λxs e h=>i6 h λhc h=>cA h (au (I.cells i a _ ha (Bc e)) λitems hp rr=>?_);refine rK hp hc.1 hc.2.2 (by rw [show items.size=xs.length from by rw [←rr.length];simp];exact hc.2.1) λh' hpl hs=>?_;exact I.setCell (c:=.live (xs.set k.toNat d)) (h':=h') (tk:=s.toks) ha (Bc e) rfl rfl (λb o q e=>(hs.2 b q).trans e) (bP hpl λk z=>⟨_,z⟩) λkd=>(aZ _ hpl (by
  rw [Array.toList_setIfInBounds];exact kd (rr.set _ r)))
end
theorem r0{M:Model}{o i:Expr}{Q:Unit→Shared→Prop}
 (h:wpAny M A (eval o env) (λov s₂=>wpAny M A (eval i env) (λiv s₃=>wpAny M A (setItem ov iv v) Q E s₃) E s₂) E s):wpAny M A (assign (.Subscript o i pos) env v) Q E s:=kas_sub h
noncomputable def wG(fo fi:EF)(d:PyData):d0→List ah→Option (List ah):= λρ μ=>bp (fo ρ μ) λV μ1=>bo (EX V) λi=>bp (fi ρ μ1) λW μ2=>bo (jI W) λk=>Yb i k d μ2
def Ua(fv fo fi:EF):SF:= λρ μ=>bp (fv ρ μ) λV μ1=>bo (v7 V) λd=>bo (wG fo fi d ρ μ1) λμ2=>some (.next,ρ,μ2)
def Hi(fv fo fi fo' fi':EF):SF:= λρ μ=>bp (fv ρ μ) λV μ1=>bo (Ke V) λds=>bp (l2 ds) λa b=>bo (wG fo fi a ρ μ1) λμ2=>bo (wG fo' fi' b ρ μ2) λμ3=>some (.next,ρ,μ3)
section
theorem qt{o i:Expr}(ho:ab C n cx o fo)(hi:ab C n cx i fi){Q:Unit→Shared→Prop}(R:cP A n)(I:bl C T α μ s)(F:bh C cx env O ρ s.heap α (T++ai α μ))
  (r:aJ s.heap (T++ai α μ) v d) (h:wG fo fi d ρ μ=some μ') (k:∀α' s',bl C T α' μ' s'→aV [] α μ s α' μ' s'→bh C cx env O ρ s'.heap α' (T++ai α' μ')→Q () s'):
  wpAny (model C.prog C.w) A (eval o env) (λov s₂=>wpAny (model C.prog C.w) A (eval i env) (λiv s₃=>wpAny (model C.prog C.w) A (setItem ov iv v) Q E s₃) E s₂) E s:=by
 refine aD h λV μ1 e1 h=>ax h λj ej h=>aD h λW μ2 e2 h=>ax h λkk ek h=>o0 ho hi R I F e1 e2 λa b s2 α2 I2 S2 ra rb=>?_;refine au (Gg ej ra) λad ha z=>bP (fJ ek rb) λt z1=>?_;subst z;subst z1;exact D3 (CX I2 ha (aJ.step0 (T:=T) r S2) h) (λzz s3 p=>k α2 s3 p.1 (S2.trans p.2) (F.step I (S2.trans p.2))) λzz zz x=>x
theorem Tj{o i:Expr}{pos':Pos}{fv:EF}(hv:ab C n cx e fv)(ho:ab C n cx o fo)(hi:ab C n cx i fi)(hs:∀env,swapsWith e (some (.Subscript o i pos')) pos.line env=pure false):aQ C n cx (.Assign [.Subscript o i pos'] e pos) (Ua fv fo fi):=by
 refine .of ?_;intro A env O T ρ α μ s E fl ρ' μ' R I F h;refine aD h λV μ1 e1 h=>ax h λd ed h=>ax h λμ2 e2 h=>gp h (wpAny_Assign_Subscript (hv.goF R I F e1 λv s1 α1 I1 S1 F1 r1=>?_) (hs env));rw [iN ed] at r1
 exact qt ho hi R I1 F1 r1 e2 λα2 s2 I2 S2 F2=>c_ α2 I2 (S1.up.trans S2.up) F2 rfl
theorem Nf{o i o' i':Expr}{p1 p2:Pos}{fv fo' fi':EF}(hv:ab C n cx e fv)(ho:ab C n cx o fo)(hi:ab C n cx i fi)(ho':ab C n cx o' fo')(hi':ab C n cx i' fi')
  (hs:∀env,swapsWithSole [.Tuple [.Subscript o i p1,.Subscript o' i' p2] kk tp] e pos.line env=pure false) (hw:∀env,swappedStores [.Tuple [.Subscript o i p1,.Subscript o' i' p2] kk tp] e env=pure none):
  aQ C n cx (.Assign [.Tuple [.Subscript o i p1,.Subscript o' i' p2] kk tp] e pos) (Hi fv fo fi fo' fi'):=by
 refine .of ?_;intro A env O T ρ α μ s E fl ρ' μ' R I F h;refine aD h λV μ1 e1 h=>ax h λds ed h=>aD h λa b el h=>ax h λμ2 e2 h=>ax h λμ3 e3 h=>gp h (Assign_Tuple (hv.goF R I F e1 λv s1 α1 I1 S1 F1 r1=>?_) (hs env) (hw env));refine bq (K5 ed r1) λl items zq2 hp rr=>?_;subst zq2;rw [zJ el] at rr
 refine om rr λv1 v2 z r1 r2=>?_;subst z;refine SW R.handled hp rfl rfl λh' he=>?_;have hk:=gT he;refine PV (r0 (qt ho hi R (I1.keeps (tk:=s1.toks) hk) (F1.keeps I1 hk) (r1.keeps hk) e2 λα4 s4 I4 S4 F4=>?_));have r2':aJ s4.heap (T++ai α4 μ2) v2 b:=aJ.step0 (s:= {s1 with heap:=h'}) (T:=T) (r2.keeps hk) S4;exact PV (r0 (qt ho' hi' R I4 F4 r2' e3 λα5 s5 I5 S5 F5=>assignInOrder_nil (c_ α5 I5 ((S1.trans ((aV.keeps (tk:=s1.toks) hk).trans (S4.trans S5))).up) F5 rfl)))
end
def kI(i:Int):EF:= λzz μ=>some (.d (.int i),μ)
def kS(x:Str):EF:= λzz μ=>some (.d (.str x),μ)
def kB(b:Bool):EF:= λzz μ=>some (.d (.bool b),μ)
def kN:EF:= λzz μ=>some (.d .none,μ)
def kT(T:String):EF:= λzz μ=>some (.ty T,μ)
section
theorem am{i:Int}:ab C n cx (.Constant (.int i) k pos) (kI i):=SZ
theorem bT:ab C n cx (.Constant (.str x) k pos) (kS x):=Gj
theorem dh{b:Bool}:ab C n cx (.Constant (.bool b) k pos) (kB b):=N5
theorem y5:ab C n cx (.Constant .none k pos) kN:=LY
noncomputable def Uv:Expr→Bool| .Starred .. =>true|_=>false
theorem NU(h:Uv e=false):∀env,starEach (e::es) env=(false,eval e env)::starEach es env:=by
 intro env;cases e<;>first|rfl|cases h
theorem ag(h:Uv e=false)(he:ab C n cx e f)(hs:de C n cx es fs):de C n cx (e::es) (f::fs):=dz (NU h) he hs
noncomputable def NK(cx:Cx)(x:Str)(i:Nat):Bool:=decide (cx.names[i]? =some (x,1))&&(cx.scope.names.lookup x==some .local)&&(cx.scope.kind== .function)&&!(x==("__debug__":Str))
theorem IW(h:NK cx x i=true)(k:cx.names[i]? =some (x,1)→cx.scope.names.lookup x=some .local→cx.scope.kind=.function→(x==("__debug__":Str))=false→G):G:=by
 unfold NK at h
 simp only [E_,MF,beq_iff_eq,decide_eq_true_eq] at h
 exact k h.1.1.1 h.1.1.2 h.1.2 (by simpa using h.2)
theorem b9(i:Nat)(h:NK cx x i=true):ab C n cx (.Name x pos) (a9 i):=IW h λa b c d=>qT i a b c d
theorem bu(i:Nat)(h:NK cx x i=true):aA C cx x i:=IW h λa b c zz=>ti i a b c
def Ck(f g h:EF)(o o':AV→AV→List ah→Option Bool):TF:= λρ μ=>bp (f ρ μ) λa μ1=>bp (g ρ μ1) λb μ2=>bo (o a b μ2) λr=>cond r (bp (h ρ μ2) λc μ3=>bo (o' b c μ3) λr=>some (r,μ3)) (some (false,μ2))
theorem gQ.go{op:CmpOp}{o:AV→AV→List ah→Option Bool}{a b:Value}{Va Vb:AV}{r:Bool}{Q:Bool→Shared→Prop}(ho:gQ C n op o)(R:cP A n)(I:bl C T α μ s)(ra:bm s.heap α (T++ai α μ) a Va)(rb:bm s.heap α (T++ai α μ) b Vb)(h:o Va Vb μ=some r)
  (k:∀tk,bl C T α μ {s with toks:=tk}→aV [] α μ s α μ {s with toks:=tk}→Q r {s with toks:=tk}):wpAny (model C.prog C.w) A (compareOp op a b) (λv s3=>wpAny (model C.prog C.w) A (truthy v) Q E s3) E s:=
 D3 (ho A T α μ s E a b Va Vb r R I ra rb h) (λv s3 p=>zw p λz tk z2=>by subst z;subst z2;exact OX (k tk (I.keeps (h':=s.heap) λzz zz e=>e) (aV.keeps (h':=s.heap) λzz zz e=>e))) λzz zz x=>x
theorem V6{Z:Type}{x y z:Z}(h:cond true x y=z):x=z:=h
theorem MC{l r r':Expr}{op op':CmpOp}{h:EF}{o o':AV→AV→List ah→Option Bool}(hl:ab C n cx l f)(hr:ab C n cx r g)(hr':ab C n cx r' h)(ho:gQ C n op o)(ho':gQ C n op' o')(hm:lastMarks [op,op'] [r,r']=false):
  gN C n cx (.Compare l [op,op'] [r,r'] pos) (Ck f g h o o'):=by
 refine .of ?_;intro A env O T ρ α μ s E b μ' R I F q;refine aD q λVa μ1 e1 q=>aD q λVb μ2 e2 q=>ax q λr e3 q=>?_;have two:=o0 (E:=E) (Q:= λa b s2=>∃α2,bl C T α2 μ2 s2∧aV [] α μ s α2 μ2 s2∧bm s2.heap α2 (T++ai α2 μ2) a Va∧bm s2.heap α2 (T++ai α2 μ2) b Vb) hl hr R I F e1 e2 λa b s2 α2 I2 S2 ra rb=>(c_ α2 I2 S2 ra rb);refine isTrue_chain (D3 two (λa s1 p1=>test_link (D3 p1 (λb2 s2 p2=>eB p2 λα2 I2 S2 ra rb=>ho.go R I2 ra rb e3 λtk I3 S3=>?_) λzz zz x=>x)) λzz zz x=>x) hm;cases r with
 |true=>
  refine aD (V6 q) λVc μ3 e4 q=>ax q λb' e5 q=>cg q ?_;have F3:bh C cx env O ρ (QW {s2 with toks:=tk}) α2 (T++ai α2 μ2):=F.step I (S2.trans S3);rw [if_pos rfl];exact test_last (hr'.go R I3 F3 e4 λc s4 α4 I4 S4 rc=>ho'.go R I4 ((rb.step0 S3).step0 S4) rc e5 λtk' I5 S5=>gO rfl α4 I5 (S2.trans (S3.trans (S4.trans S5))))
 |false=>
  refine cg q ?_;rw [if_neg G_];exact gO rfl α2 I3 (S2.trans S3)
end
noncomputable def PM(cx:Cx)(scope:Scope):Bool:=vQ cx scope&&(scope.names.all λy=>y.2 != .cell)&&(scope.kind== .function)&&decide ((((bR cx scope).names.filter λp=>p.2==1).map (·.1)).Nodup)&&(scope.names.all λx=>x.2 != .local||scope.names.lookup x.1==some .local)
theorem ae4{l:List (Str×Nat)}:((l.filter λp=>p.2==1).map (·.1)).Nodup→∀ (i j:Nat) x,l[i]? =some (x,1)→l[j]? =some (x,1)→i=j:=by
 induction l with
 |nil=>intro _ i j x h;simp at h
 |cons p l ih=>
  intro h i j x h1 h2;obtain ⟨y,k⟩:=p
  by_cases hk:k=1
  ·subst hk
   simp only [Ko,beq_self_eq_true,if_true,EV,Jy] at h
   have nm:∀ (m:Nat),l[m]? =some (y,1)→False:= λm e=>h.1 (DT.mpr (aZ (y,1) (Ou.mpr ⟨FM e,rfl⟩) rfl));cases i with
   |zero=>
    simp at h1;subst h1
    cases j with
    |zero=>rfl
    |succ j=>exact (nm j (by simpa using h2)).elim
   |succ i=>
    cases j with
    |zero=>simp at h2;subst h2;exact (nm i (by simpa using h1)).elim
    |succ j=>rw [ih h.2 i j x (by simpa using h1) (by simpa using h2)]
  ·have hk':(k==1)=false:=by simpa using hk
   simp only [Ko,hk',Oy,if_false] at h
   cases i with
   |zero=>simp at h1;exact (hk h1.2).elim
   |succ i=>
    cases j with
    |zero=>simp at h2;exact (hk h2.2).elim
    |succ j=>rw [ih h i j x (by simpa using h1) (by simpa using h2)]
theorem bx{ifs:List Expr}{rest:List Comprehension}{K:Value→Env→Sem Fin→Sem Fin}
  (hB:PM cx scope=true) (h2:2≤n) (hs:∀env x,foldedSetIterable iter env x=pure x) (turn:gG elt (⟨target,iter,ifs,0⟩::rest) scope pos 0 target iter ifs K) (it:lT C n cx iter tup itf) (tg:nM C (bR cx scope) target tup tf) (ts:iZ C n (bR cx scope) ifs t) (ck:lz C n (bR cx scope) K cf):
  Cp C n cx elt target iter ifs rest scope pos itf tf (cW t cf):=by
 unfold PM at hB
 simp only [E_,beq_iff_eq,decide_eq_true_eq] at hB
 refine fY hB λz h6=>fY z λz h5=>fY z λz h4=>fY z λh1 h3=>?_;refine ⟨(oy tup t cf K rfl turn tg ts ck it),h1,λy hy=>?_,h4,ae4 h5,λx hx hl=>?_,hs,h2⟩
 ·simpa using Bi.mp h3 y hy
 ·simpa [hl] using Bi.mp h6 x hx
noncomputable def dC:List Stmt→Nat→Stmt
 |s::_,0=>s
 |_::r,k+1=>dC r k
 | [],_=>.Pass ⟨0,0,0,0⟩
noncomputable def aq:Stmt→List Stmt
 | .FunctionDef _ _ b _ _ _ _ _ _ _=>b
 |_=>[]
noncomputable def ao:Stmt→Scope
 | .FunctionDef _ _ _ _ _ _ s _ _ _=>s
 |_=> {kind:=.function,names:=[],isGenerator:=false,isCoroutine:=false,more:=[]}
noncomputable def lO:Stmt→Arguments
 | .FunctionDef _ a _ _ _ _ _ _ _ _=>a
 |_=> {posonlyargs:=[],args:=[],vararg:=none,kwonlyargs:=[],kw_defaults:=[],kwarg:=none,defaults:=[]}
noncomputable def ay(k:Nat):Stmt:=dC Mt.main.body k
def jM(names:List (Str×NameKind)):Scope:= {kind:=.function,names:=names,isGenerator:=false,isCoroutine:=false,more:=[]}
def di(C:gK)(x:Str)(k:Nat):Prop:=∃fa o pm cd doc,C.mg x=some (.ref fa)∧C.B.get? fa=some o∧o.data=.func (Of x (lO (ay k)) (aq (ay k)) (ao (ay k)) pm cd doc)∧C.B.CodeRec cd x
def aI(C:gK)(n:Nat)(x:Str)(spec:a_):Prop:=∃fa o fd,C.mg x=some (.ref fa)∧C.B.get? fa=some o∧o.data=.func fd∧eF C n (.ref fa) spec
def gL(C:gK)(n:Nat)(x:Str)(spec:iT):Prop:=∃fa o fd,C.mg x=some (.ref fa)∧C.B.get? fa=some o∧o.data=.func fd∧ii C n (.ref fa) true spec
section
variable {m:Nat} {ispec:iT}
theorem aI.mono(h:aI C n x spec)(hm:n≤m):aI C m x spec:=by
 refine dj h λfa o fd h1 h2 h3 h4=>?_;exact (dy fa o fd h1 h2 h3 (λA T α μ s E vs Vs V μ' R I r q=>h4 A T α μ s E vs Vs V μ' (R.mono hm) I r q))
theorem gL.mono(h:gL C n x ispec)(hm:n≤m):gL C m x ispec:=by
 refine dj h λfa o fd h1 h2 h3 h4=>?_;exact (dy fa o fd h1 h2 h3 (λA T α μ s E vs Vs xs g μ' R I r q=>h4 A T α μ s E vs Vs xs g μ' (R.mono hm) I r q))
theorem cc(h:aI C n x spec)(ha:de C n cx (e::es) fs)(hs:∀env,starEach (e::es) env=(false,eval e env)::starEach es env)
  (hl:cx.scope.names.lookup x=some .globalImplicit) (hk:cx.scope.kind=.function) (hdb:(x==("__debug__":Str))=false):ab C n cx (.Call (.Name x xp) (e::es) [] pos) (af fs spec):=by
 refine dj h λfa o fd h1 h2 h3 h4=>?_;exact MA h1 h2 h3 h4 ha hs hl hk hdb
theorem zl(h:gL C n x ispec)(ha:de C n cx (e::es) fs)(hs:∀env,starEach (e::es) env=(false,eval e env)::starEach es env)
  (hl:cx.scope.names.lookup x=some .globalImplicit) (hk:cx.scope.kind=.function) (hdb:(x==("__debug__":Str))=false):lT C n cx (.Call (.Name x xp) (e::es) [] pos) true (b_ fs ispec):=by
 refine dj h λfa o fd h1 h2 h3 h4=>?_;exact LP h1 h2 h3 h4 ha hs hl hk hdb
theorem zA{i:Int}(hg:∃t,C.mg x=some (.int i t))(hl:cx.scope.names.lookup x=some .globalImplicit)(hk:cx.scope.kind=.function)(hd:(x==("__debug__":Str))=false):ab C n cx (.Name x pos) (kI i):=by
 refine bP hg λt h=>?_;exact Oa h hl hk hd
theorem gP{f:SF}(ps:List Str)(h:di C x k)(hb:cB C n (df (ao (ay k))) (aq (ay k)) f)
  (hbind:∀ (pm cd doc:Value) (args:List Value),args.length=ps.length→bindArgs (Of x (lO (ay k)) (aq (ay k)) (ao (ay k)) pm cd doc) ⟨args,[]⟩=pure (ps.zip args))
  (hnd:decide (((ao (ay k)).names.map (·.1)).Nodup)=true) (hps:((df (ao (ay k))).names.map (·.1)).take ps.length=ps) (hco:(ao (ay k)).isCoroutine=false) (hgen:(ao (ay k)).isGenerator=false) (hk:(ao (ay k)).kind=.function):
  aI C (n+1) x (cy ps.length (ao (ay k)) f):=by
 refine ft h λfa o pm cd doc h1 h2 h3 h4=>?_;exact (dy fa o _ h1 h2 h3 (ZT ps h2 h3 h4 (hbind pm cd doc) (of_decide_eq_true hnd) hps hco hgen hk hb))
end
noncomputable def ki(x:Str):Option Int:=([("|",18),("*",16),("(",7),(")",8)]:List (Str×Int)).lookup x
noncomputable def rV(k:Int):Option Str:=([(1,"OPTIMIZED"),(2,"NEWLOCALS"),(4,"VARARGS"),(8,"VARKEYWORDS"),(16,"NESTED"),(32,"GENERATOR"),(64,"NOFREE"),(128,"COROUTINE"),(256,"ITERABLE_COROUTINE"),(512,"ASYNC_GENERATOR")]:List (Int×Str)).lookup k
structure cI (C:gK):Prop where
 no:∀x:Str,((["len","min","range","enumerate","zip","list","sum","iter","next","sorted","isinstance","hex","int","bool","StopIteration"]:List Str).contains x)=true→C.mg x=none
 ext:∃d m,C.mg "EXACT_TOKEN_TYPES"=some (.ref d)∧C.B.MapOf (strKind C.prog C.w) d m∧∀y i,ki y=some i→∃t,m y=some (.int i t)
 cfn:∃d m,C.mg "COMPILER_FLAG_NAMES"=some (.ref d)∧C.B.MapOf (intKind C.prog C.w) d m∧(∀k,(∃y t,rV k=some y∧m k=some (.str y t))∨(rV k=none∧m k=none))∧(d==sysModules)=false
 nt:∃t,C.mg "NT_OFFSET"=some (.int 256 t)
 em:∃t,C.mg "ENDMARKER"=some (.int 0 t)
section
variable {ispec:iT}
theorem jS{y:Str}(h:(x==y)=false):x≠y:=by simpa using h
theorem cn(hg:C.mg x=none)(hb:bootBuiltins x=some fv)(hx:(x==("__name__":Str))=false)(hn:kW fv)(hf:eF C n fv spec)
 (ha:de C n cx (e::es) fs) (hs:∀env,starEach (e::es) env=(false,eval e env)::starEach es env) (hp:∀env,(backTo pos (starEach (e::es) env)).any (·.1)=false)
 (hl:cx.scope.names.lookup x=some .globalImplicit) (hk:cx.scope.kind=.function) (hdb:(x==("__debug__":Str))=false):
 ab C n cx (.Call (.Name x xp) (e::es) [] pos) (af fs spec):=SA hg hb (jS hx) hn hf ha hs hp hl hk hdb
theorem k9(hg:C.mg x=none)(hb:bootBuiltins x=some fv)(hx:(x==("__name__":Str))=false)(hn:kW fv)(hf:ii C n fv tup ispec)
 (ha:de C n cx (e::es) fs) (hs:∀env,starEach (e::es) env=(false,eval e env)::starEach es env) (hp:∀env,(backTo pos (starEach (e::es) env)).any (·.1)=false)
 (hl:cx.scope.names.lookup x=some .globalImplicit) (hk:cx.scope.kind=.function) (hdb:(x==("__debug__":Str))=false):
 lT C n cx (.Call (.Name x xp) (e::es) [] pos) tup (b_ fs ispec):=SU hg hb (jS hx) hn hf ha hs hp hl hk hdb
theorem Yg{T:String}(hg:C.mg x=none)(hb:bootBuiltins x=some (.type T))(hx:(x==("__name__":Str))=false)(hl:cx.scope.names.lookup x=some .globalImplicit)(hk:cx.scope.kind=.function)(hd:(x==("__debug__":Str))=false):
 ab C n cx (.Name x pos) (kT T):=Zm hg hb (jS hx) hl hk hd
theorem KL(G:cI C)(hf:ab C n cx e g)(hs:∀o i,subscripted e false o i=operate [o,i] (getItem o i))(hl:cx.scope.names.lookup ("EXACT_TOKEN_TYPES":Str)=some .globalImplicit)(hk:cx.scope.kind=.function):
  ab C n cx (.Subscript (.Name "EXACT_TOKEN_TYPES" xp) e pos) (jF ki g):=by
 refine bq G.ext λd m h1 h2 h3=>?_;exact Nx h1 h2 h3 hf hs hl hk ∅
theorem ae0(G:cI C)(hmeth:mV (.Name "COMPILER_FLAG_NAMES" xp) "get" apos [e1,e2] pos)(hf:ab C n cx e1 f)(hg2:ab C n cx e2 g)
  (hs:∀env,backTo pos (starEach [e1,e2] env)=[(false,eval e1 env),(false,eval e2 env)]) (hl:cx.scope.names.lookup ("COMPILER_FLAG_NAMES":Str)=some .globalImplicit) (hk:cx.scope.kind=.function):
  ab C n cx (.Call (.Attribute (.Name "COMPILER_FLAG_NAMES" xp) "get" apos) [e1,e2] [] pos) (sS rV f g):=by
 refine kR G.cfn λd m h1 h2 h3 h4=>?_;exact Pp hmeth h1 h2 h3 h4 hf hg2 hs hl hk ∅
end
theorem jD{α:Type}{P:List α→Prop}(h:∀a,P [a]):∀l:List α,l.length=1→P l
 | [a],_=>h a
 | [],h=>by simp at h
 |_::_::_,h=>by simp at h
theorem Jz{α:Type}{P:List α→Prop}(h:∀a b,P [a,b]):∀l:List α,l.length=2→P l
 | [a,b],_=>h a b
 | [],h=>by simp at h
 | [_],h=>by simp at h
 |_::_::_::_,h=>by simp at h
theorem PH{α:Type}{P:List α→Prop}(h:∀a b c,P [a,b,c]):∀l:List α,l.length=3→P l
 | [a,b,c],_=>h a b c
 | [],h=>by simp at h
 | [_],h=>by simp at h
 | [_,_],h=>by simp at h
 |_::_::_::_::_,h=>by simp at h
theorem Rr{α:Type}{P:List α→Prop}(h:∀a b c d,P [a,b,c,d]):∀l:List α,l.length=4→P l
 | [a,b,c,d],_=>h a b c d
 | [],h=>by simp at h
 | [_],h=>by simp at h
 | [_,_],h=>by simp at h
 | [_,_,_],h=>by simp at h
 |_::_::_::_::_::_,h=>by simp at h
theorem DI{a b c d x y:Expr}{p q vp:Pos}{k':Nat}:∀env,swappedStores [.Tuple [.Subscript a b p,.Subscript c d q] k tp] (.Tuple [x,y] k' vp) env=pure none:=by
 have gen:∀ (b c:Bool),(if b=true then pure none else if c=true then pure none else pure none:Sem (Option (List Str)))=pure none:= λb c=>by cases b<;>cases c<;>rfl
 exact λenv=>gen _ _
theorem xv{y:Str}{vp:Pos}{k':Nat}(hk:cx.scope.kind=.function)(h1:cx.scope.names.lookup x=some .local)(h2:cx.scope.names.lookup y=some .local)(hxy:(x==y)=false)(hline:(px.line==py.line)=true)
  (hs:[e1,e2].any Uv=false) (hf:[e1,e2].all (foldedForSure 8)=false) (hc:[e1,e2].all (constantsAlone 8)=false):
  ∀env,env.scope=cx.scope→swappedStores [.Tuple [.Name x px,.Name y py] k tp] (.Tuple [e1,e2] k' vp) env=pure (some [x,y]):=by
 intro env he;have hb:env.blockKind=.function:=by unfold Env.blockKind;rw [he,hk];rfl
 have k1:env.kindOf x=some .local:=by unfold IC;rw [he];exact h1
 have k2:env.kindOf y=some .local:=by unfold IC;rw [he];exact h2
 have hne:x≠y:=by simpa using hxy
 have hlen:([x,y]:List Str).eraseDups.length=2:=by
  simp [List.eraseDups_cons,show (y==x)=false by simpa using hne.symm]
 have gen:∀ (b s:Bool) (names:List Str) (f c:Bool) (u:Sem PUnit),b=false→s=false→names=[x,y]→f=false→c=false→
   (if b=true then pure none else if s=true then pure none else if (names.length != 2||names.eraseDups.length != names.length)=true then pure none else if f=true then pure none else if c=true then u>>= λzz=>pure (some names) else pure (some names):Sem (Option (List Str)))=pure (some [x,y]):=by
  intro b s names f c u hb hs hn hf hc;rw [hb,hs,hn,hf,hc,hlen];rfl
 refine gen _ _ _ _ _ _ ?_ hs ?_ hf hc
 ·rw [hb];rfl
 ·refine (L_ (b:=x) ?_).trans (congrArg (x:: ·) ((L_ (b:=y) ?_).trans (congrArg (y:: ·) List.filterMap_nil)))
  ·exact (if_pos (by rw [k1];exact beq_self_eq_true px.line):(if (env.kindOf x==some .local&&px.line==px.line)=true then some x else none)=some x)
  ·exact (if_pos (by rw [k2,show py.line=px.line from (eq_of_beq hline).symm];exact beq_self_eq_true px.line):(if (env.kindOf y==some .local&&py.line==px.line)=true then some y else none)=some y)
noncomputable def er:List Nat→Nat→Bool→List PyData
 | [],pos,true=>[.tuple [.int ((pos:Int)-1),.str ⟨#[92]⟩]]
 | [],_,false=>[]
 |c::r,pos,true=>.tuple [.int pos,.str ⟨#[92,c]⟩]::er r (pos+1) false
 |c::r,pos,false=>if c=92 then er r (pos+1) true else .tuple [.int pos,.str ⟨#[c]⟩]::er r (pos+1) false
theorem yS{c:Nat}{r:List Nat}:er (c::r) p false=if c=92 then er r (p+1) true else .tuple [.int p,.str ⟨#[c]⟩]::er r (p+1) false:=rfl
noncomputable def aE:iT:= λVs μ=>bo (l1 Vs) λV=>bo (mn V) λx=>some (er x.cps.toList 0 false,none,μ)
def Cs(C:gK)(n:Nat)(x:Str)(spec:iT):Prop:=∃fa o fd,C.mg x=some (.ref fa)∧C.B.get? fa=some o∧o.data=.func fd∧∀A T α μ s E vs Vs xs g μ',cP A n→bl C T α μ s→eZ s.heap α (T++ai α μ) vs Vs→spec Vs μ=some (xs,g,μ')→xs.length≤sizeLine→
 wpAny (model C.prog C.w) A (call (.ref fa) vs) (λv s1=>wpAny (model C.prog C.w) A (call (.type "list") [v]) (bI C T α μ s μ' (.d (.list xs))) E s1) E s
def yh(fs:List EF)(spec:iT):EF:= λρ μ=>bp (eY fs ρ μ) λVs μ1=>bp (spec Vs μ1) λxs p=>if xs.length≤sizeLine then some (.d (.list xs),p.2) else none
section
variable {ispec:iT}
theorem Eh{lp lpos:Pos}(hg:C.mg "list"=none)(h:Cs C n x ispec)(ha:de C n cx (e::es) fs)(hs:∀env,starEach (e::es) env=(false,eval e env)::starEach es env)
  (hll:cx.scope.names.lookup ("list":Str)=some .globalImplicit) (hl:cx.scope.names.lookup x=some .globalImplicit) (hk:cx.scope.kind=.function) (hdb:(x==("__debug__":Str))=false):
  ab C n cx (.Call (.Name "list" lp) [.Call (.Name x xp) (e::es) [] pos] [] lpos) (yh fs ispec):=by
 refine dj h λfa o fd h1 h2 h3 h4=>?_;refine .of ?_;intro A env O T ρ α μ s E V μ' R I F q;refine aD q λVs μ1 e1 q=>aD q λxs p e2 q=>i6 q λhsz q=>cg q ?_;refine (?_:wpAny _ A (do callWith lpos (←eval (.Name "list" lp) env) [] (backTo lpos (starEach [.Call (.Name x xp) (e::es) [] pos] env)) []) _ _ s);refine yK (F6 (by rw [F.sc];exact hk) (by unfold IC;rw [F.sc];exact hll) (Lg (by rw [F.gl];exact C.g.keeps I.keep) hg (by rw [F.bn];exact C.b.keeps I.keep) ((C.bt _ (by decide+kernel)).trans (∅ :bootBuiltins "list"=some (.type "list"))) ?_) ∅);refine bD "list" _ _ _ _ _ _ _ _ ∅ ?_
 refine Sd (Rw ?_);refine (?_:wpAny _ A (do callWith pos (←eval (.Name x xp) env) [] (backTo pos (starEach (e::es) env)) []) _ _ s);refine yK (F6 (by rw [F.sc];exact hk) (by unfold IC;rw [F.sc];exact hl) (L6 (by rw [F.gl];exact C.g.keeps I.keep) h1 ?_) hdb);refine MB (o:=o) (fd:=fd) (ee (hs env) ha R I F e1 λvs s1 α1 I1 S1 r1=>⟨⟨I1.keep _ _ h2,h3⟩,?_⟩);refine D3 (h4 A T α1 μ1 s1 E vs Vs xs p.1 p.2 R I1 r1 e2 hsz) (λv s2 pp=>So ?_) λzz zz x=>x;exact D3 pp (λw s3 p=>bI.trans S1 p) λzz zz x=>x
theorem uP(h:di C x k):aI C n x (λzz zz=>none):=by
 refine ft h λfa o pm cd doc h1 h2 h3 h4=>?_;exact (dy fa o _ h1 h2 h3 (λA T α μ s E vs Vs V μ' R I r q=>by exact ct q))
end
section
abbrev U8:Cx:=df (ao (ay 61))
theorem aa1:ab C n U8 (.Name "x" pos) (a9 0):=b9 0 ∅
def Q1:SF:=(fe (dZ (a9 0) (kI 256) (d_ λx y=>decide (x<y))))
theorem Il(G:cI C)(h2:2≤n):aQ C n U8 (dC (aq (ay 61)) 0) Q1:=(d6 (fq aa1 (zA G.nt ∅ ∅ ∅) pL ∅))
def f61:SF:=(ap Q1 aP)
theorem b61(G:cI C)(h2:2≤n):cB C n U8 (aq (ay 61)) f61:=(ak (Il G h2) aN)
theorem c61(G:cI C)(h2:2≤n)(h:di C "ISTERMINAL" 61):aI C (n+1) "ISTERMINAL" (cy 1 (ao (ay 61)) f61):=
 gP ["x"] h (b61 G h2) (λzz zz zz=>jD λzz=> ∅) ∅ ∅ ∅ ∅ ∅
noncomputable def cq:a_:=cy 1 (ao (ay 61)) f61
abbrev Sx:Cx:=df (ao (ay 62))
theorem ZH:ab C n Sx (.Name "x" pos) (a9 0):=b9 0 ∅
def Rp:SF:=(fe (dZ (a9 0) (kI 256) (d_ λx y=>decide (y≤x))))
theorem Js(G:cI C)(h2:2≤n):aQ C n Sx (dC (aq (ay 62)) 0) Rp:=(d6 (fq ZH (zA G.nt ∅ ∅ ∅) Sn ∅))
def f62:SF:=(ap Rp aP)
theorem b62(G:cI C)(h2:2≤n):cB C n Sx (aq (ay 62)) f62:=(ak (Js G h2) aN)
theorem c62(G:cI C)(h2:2≤n)(h:di C "ISNONTERMINAL" 62):aI C (n+1) "ISNONTERMINAL" (cy 1 (ao (ay 62)) f62):=
 gP ["x"] h (b62 G h2) (λzz zz zz=>jD λzz=> ∅) ∅ ∅ ∅ ∅ ∅
noncomputable def bQ:a_:=cy 1 (ao (ay 62)) f62
abbrev VC:Cx:=df (ao (ay 63))
theorem ae1:ab C n VC (.Name "x" pos) (a9 0):=b9 0 ∅
def Sp:SF:=(fe (dZ (a9 0) (kI 0) dH))
theorem J3(G:cI C)(h2:2≤n):aQ C n VC (dC (aq (ay 63)) 0) Sp:=(d6 (fq ae1 (zA G.em ∅ ∅ ∅) dJ ∅))
def f63:SF:=(ap Sp aP)
theorem b63(G:cI C)(h2:2≤n):cB C n VC (aq (ay 63)) f63:=(ak (J3 G h2) aN)
theorem c63(G:cI C)(h2:2≤n)(h:di C "ISEOF" 63):aI C (n+1) "ISEOF" (cy 1 (ao (ay 63)) f63):=
 gP ["x"] h (b63 G h2) (λzz zz zz=>jD λzz=> ∅) ∅ ∅ ∅ ∅ ∅
noncomputable def fx:a_:=cy 1 (ao (ay 63)) f63
abbrev pH:Cx:=df (ao (ay 72))
theorem NB:aA C pH "one" 2:=eW 2 ∅ ∅ ∅
theorem Oc:aA C pH "two" 3:=eW 3 ∅ ∅ ∅
theorem CN:ab C n pH (.Name "edges" pos) (a9 1):=b9 1 ∅
theorem jp:ab C n pH (.Name "labels" pos) (a9 0):=bE 0 2 ∅ (by decide) ∅ ∅ ∅
theorem O5:ab C n pH (.Name "one" pos) (a9 2):=bE 2 2 ∅ (by decide) ∅ ∅ ∅
theorem O0:ab C n pH (.Name "two" pos) (a9 3):=bE 3 2 ∅ (by decide) ∅ ∅ ∅
theorem yc:aA C pH "labels" 0:=eW 0 ∅ ∅ ∅
abbrev qd:Scope:=jM [(".0",.local),("label",.local),("labels",.free),("one",.free),("two",.free)]
abbrev qz:Cx:=bR pH qd
theorem wU:aA C qz "label" 4:=bu 4 ∅
theorem oI:ab C n qz (.Name "label" pos) (a9 4):=b9 4 ∅
theorem lW:ab C n qz (.Name "labels" pos) (a9 0):=bE 0 3 ∅ (by decide) ∅ ∅ ∅
theorem DC:ab C n qz (.Name "two" pos) (a9 3):=bE 3 3 ∅ (by decide) ∅ ∅ ∅
theorem CM:ab C n qz (.Name "one" pos) (a9 2):=bE 2 3 ∅ (by decide) ∅ ∅ ∅
def BX:SF:=(jH (aK true (a9 1)) (ji 2 3) (ap (jG (bA (aF (a9 0) (a9 2)) (aF (a9 0) (a9 3)) dH) (ap (fe (aU [])) aP) aP) (ap (c6 0 (cb qd (aK false (a9 0)) (du 4) (cW bg (aY (dx (bA (a9 4) (aF (a9 0) (a9 3)) dH) (aF (a9 0) (a9 2)) (a9 4)))))) aP)) aP)
theorem GJ(G:cI C)(h2:2≤n):aQ C n pH (dC (aq (ay 72)) 0) BX:=(gb h2 (c5 CN) (eS NB Oc) (ak (g8 (cj (bj jp O5 (λzz zz=>rfl)) (bj jp O0 (λzz zz=>rfl)) dJ ∅) (ak (d6 (bc ae)) aN) aN) (ak (bF (cD (bx ∅ h2 (λzz zz=>rfl) (bN _ _ _ _ _ _) (c5 jp) (bM wU) cG (bZ (fN (cj oI (bj lW DC (λzz zz=>rfl)) dJ ∅) (bj lW CM (λzz zz=>rfl)) oI)))) yc (oU ∅)) aN)) aN (λzz zz=>rfl))
def GN:SF:=(fe (a9 0))
theorem HB(G:cI C)(h2:2≤n):aQ C n pH (dC (aq (ay 72)) 1) GN:=(d6 jp)
def f72:SF:=(ap BX (ap GN aP))
theorem b72(G:cI C)(h2:2≤n):cB C n pH (aq (ay 72)) f72:=(ak (GJ G h2) (ak (HB G h2) aN))
theorem c72(G:cI C)(h2:2≤n)(h:di C "_law_joined" 72):aI C (n+1) "_law_joined" (cy 2 (ao (ay 72)) f72):=
 gP ["labels","edges"] h (b72 G h2) (λzz zz zz=>Jz λzz zz=> ∅) ∅ ∅ ∅ ∅ ∅
noncomputable def dc:a_:=cy 2 (ao (ay 72)) f72
abbrev oM:Cx:=df (ao (ay 71))
theorem iU:ab C n oM (.Name "formula" pos) (a9 0):=b9 0 ∅
def sb(aW:a_):SF:=(jG (bA (af [(a9 0)] dD) (kI 2) dH) (ap (fe (aF (aF (a9 0) (kI 1)) (kI 0))) aP) aP)
theorem Ki{aW:a_}(G:cI C)(h2:2≤n):aQ C n oM (dC (aq (ay 71)) 0) (sb aW):=(g8 (cj (cn (fv:=.builtin "len") (G.no _ ∅) ∅ ∅ (bf _) eR (ag rfl iU ae) (λzz=>rfl) (λzz=>rfl) ∅ ∅ ∅) am dJ ∅) (ak (d6 (bj (bj iU am (λzz zz=>rfl)) am (λzz zz=>rfl))) aN) aN)
theorem IT:aA C oM "left" 2:=bu 2 ∅
theorem EN:aA C oM "right" 3:=bu 3 ∅
abbrev rl:Scope:=jM [(".0",.local),("part",.local),("_law_graph",.globalImplicit),("joins",.free)]
abbrev yr:Cx:=bR oM rl
theorem Aw:aA C yr "part" 4:=bu 4 ∅
theorem Aa:ab C n yr (.Name "part" pos) (a9 4):=b9 4 ∅
theorem wY:ab C n yr (.Name "joins" pos) (a9 1):=bE 1 3 ∅ (by decide) ∅ ∅ ∅
def Kb(aW:a_):SF:=(VE 2 3 (cb rl (aK false (ce (a9 0) (aL (kI 2)) ba)) (du 4) (cW bg (aY (af [(a9 4),(a9 1)] aW)))))
theorem ID{aW:a_}(G:cI C)(h2:2≤n)(h_law_graph:aI C n "_law_graph" aW):aQ C n oM (dC (aq (ay 71)) 1) (Kb aW):=(TB (cD (bx ∅ h2 (λzz zz=>rfl) (bN _ _ _ _ _ _) (c5 (dP iU (cw am) dE)) (bM Aw) cG (bZ (cc h_law_graph (ag rfl Aa (ag rfl wY ae)) (λzz=>rfl) ∅ ∅ ∅)))) IT EN (λzz=>rfl) (λzz=>rfl))
theorem m_:ab C n oM (.Name "joins" pos) (a9 1):=bE 1 2 ∅ (by decide) ∅ ∅ ∅
theorem Kc:ab C n oM (.Name "left" pos) (a9 2):=b9 2 ∅
theorem DS:ab C n oM (.Name "right" pos) (a9 3):=b9 3 ∅
def Bz(aW:a_):SF:=(ci (ef (a9 1) (cX [(aF (a9 0) (kI 0)),(aj (kI 6) (af [(a9 1)] dD) aT),(a9 2),(a9 3)])))
theorem JQ{aW:a_}(G:cI C)(h2:2≤n)(h_law_graph:aI C n "_law_graph" aW):aQ C n oM (dC (aq (ay 71)) 2) (Bz aW):=(cK (cv (λzz=>rfl) m_ (cU (ag rfl (bj iU am (λzz zz=>rfl)) (ag rfl (av am (cn (fv:=.builtin "len") (G.no _ ∅) ∅ ∅ (bf _) eR (ag rfl m_ ae) (λzz=>rfl) (λzz=>rfl) ∅ ∅ ∅) br) (ag rfl Kc (ag rfl DS ae))))) (λzz=>rfl)) ∅ (λzz=>rfl))
def Kn(aW:a_):SF:=(fe (aj (kI 5) (af [(a9 1)] dD) aT))
theorem IM{aW:a_}(G:cI C)(h2:2≤n)(h_law_graph:aI C n "_law_graph" aW):aQ C n oM (dC (aq (ay 71)) 3) (Kn aW):=(d6 (av am (cn (fv:=.builtin "len") (G.no _ ∅) ∅ ∅ (bf _) eR (ag rfl m_ ae) (λzz=>rfl) (λzz=>rfl) ∅ ∅ ∅) br))
def f71(aW:a_):SF:=(ap (sb aW) (ap (Kb aW) (ap (Bz aW) (ap (Kn aW) aP))))
theorem b71{aW:a_}(G:cI C)(h2:2≤n)(h_law_graph:aI C n "_law_graph" aW):cB C n oM (aq (ay 71)) (f71 aW):=(ak (Ki G h2) (ak (ID G h2 h_law_graph) (ak (JQ G h2 h_law_graph) (ak (IM G h2 h_law_graph) aN))))
theorem c71{aW:a_}(G:cI C)(h2:2≤n)(h_law_graph:aI C n "_law_graph" aW)(h:di C "_law_graph" 71):aI C (n+1) "_law_graph" (cy 2 (ao (ay 71)) (f71 aW)):=
 gP ["formula","joins"] h (b71 G h2 h_law_graph) (λzz zz zz=>Jz λzz zz=> ∅) ∅ ∅ ∅ ∅ ∅
noncomputable def F8:Nat→a_
 |0=> λzz zz=>none
 |m+1=>cy 2 (ao (ay 71)) (f71 (F8 m))
theorem d71(G:cI C)(h2:2≤n)(h:di C "_law_graph" 71):∀m,aI C (n+m) "_law_graph" (F8 m)
 |0=>uP h
 |m+1=>c71 G (KQ h2 (Fi ..)) (d71 G h2 h m) h
noncomputable def aW:a_:=F8 12
abbrev Eo:Cx:=df (ao (ay 8))
theorem ae6:aA C Eo "b" 1:=bu 1 ∅
theorem iQ:ab C n Eo (.Name "iterator" pos) (a9 0):=b9 0 ∅
def EK:SF:=(c6 1 (af [(a9 0)] km))
theorem B_(G:cI C)(h2:2≤n):aQ C n Eo (dC (aq (ay 8)) 0) EK:=(bF (cn (fv:=.builtin "next") (G.no _ ∅) ∅ ∅ (bf _) BU (ag rfl iQ ae) (λzz=>rfl) (λzz=>rfl) ∅ ∅ ∅) ae6 (λzz zz=> ∅))
theorem Vk:aA C Eo "val" 2:=bu 2 ∅
theorem Pz:ab C n Eo (.Name "b" pos) (a9 1):=b9 1 ∅
def HP:SF:=(c6 2 (aj (a9 1) (kI 63) (aR λx y=>some (Dd x y))))
theorem BE(G:cI C)(h2:2≤n):aQ C n Eo (dC (aq (ay 8)) 1) HP:=(bF (av Pz am qj) Vk (λzz zz=> ∅))
def Md:SF:=(j0 (ga (aj (a9 1) (kI 64) (aR λx y=>some (Dd x y)))) (ap (iA 2 (kI 6) qa) (ap (c6 1 (af [(a9 0)] km)) (ap (iA 2 (aj (a9 1) (kI 63) (aR λx y=>some (Dd x y))) T4) aP))) 64)
theorem Ny(G:cI C)(h2:2≤n):aQ C n Eo (dC (aq (ay 8)) 2) Md:=(I9 64 (iC (λzz zz=>rfl) (av Pz am qj)) (ak (nO (i:=2) ∅ ∅ ∅ am Bp) (ak (bF (cn (fv:=.builtin "next") (G.no _ ∅) ∅ ∅ (bf _) BU (ag rfl iQ ae) (λzz=>rfl) (λzz=>rfl) ∅ ∅ ∅) ae6 (λzz zz=> ∅)) (ak (nO (i:=2) ∅ ∅ ∅ (av Pz am qj) SN) aN))))
theorem Uo:ab C n Eo (.Name "val" pos) (a9 2):=b9 2 ∅
def T0:SF:=(fe (a9 2))
theorem MW(G:cI C)(h2:2≤n):aQ C n Eo (dC (aq (ay 8)) 3) T0:=(d6 Uo)
def f8:SF:=(ap EK (ap HP (ap Md (ap T0 aP))))
theorem b8(G:cI C)(h2:2≤n):cB C n Eo (aq (ay 8)) f8:=(ak (B_ G h2) (ak (BE G h2) (ak (Ny G h2) (ak (MW G h2) aN))))
theorem c8(G:cI C)(h2:2≤n)(h:di C "_parse_varint" 8):aI C (n+1) "_parse_varint" (cy 1 (ao (ay 8)) f8):=
 gP ["iterator"] h (b8 G h2) (λzz zz zz=>jD λzz=> ∅) ∅ ∅ ∅ ∅ ∅
noncomputable def aS:a_:=cy 1 (ao (ay 8)) f8
abbrev Hj:Cx:=df (ao (ay 7))
theorem Hp:aA C Hj "names" 1:=bu 1 ∅
def Mm:SF:=(c6 1 (mZ []))
theorem Nq(G:cI C)(h2:2≤n):aQ C n Hj (dC (aq (ay 7)) 0) Mm:=(bF (jB ae) Hp (λzz zz=> ∅))
theorem aj4:aA C Hj "i" 2:=bu 2 ∅
theorem Nt:aA C Hj "flag" 3:=bu 3 ∅
theorem ao5:ab C n Hj (.Name "i" pos) (a9 2):=b9 2 ∅
theorem qk:ab C n Hj (.Name "flags" pos) (a9 0):=b9 0 ∅
theorem p7:ab C n Hj (.Name "flag" pos) (a9 3):=b9 3 ∅
theorem qV:ab C n Hj (.Name "names" pos) (a9 1):=b9 1 ∅
def Nk:SF:=(jH (aK false (af [(kI 32)] cH)) (du 2) (ap (c6 3 (aj (kI 1) (a9 2) (aR E9))) (ap (jG (ga (aj (a9 0) (a9 3) (aR λx y=>some (Dd x y)))) (ap (ci (ef (a9 1) (sS rV (a9 3) (af [(a9 3)] oP)))) (ap (iA 0 (a9 3) AN) (ap (jG (tW (ga (a9 0))) (ap On aP) aP) aP))) aP) aP)) (ap (ci (ef (a9 1) (af [(a9 0)] oP))) aP))
theorem OP(G:cI C)(h2:2≤n):aQ C n Hj (dC (aq (ay 7)) 1) Nk:=(gb h2 (c5 (cn (fv:=.type "range") (G.no _ ∅) ∅ ∅ (bD _) dM (ag rfl am ae) (λzz=>rfl) (λzz=>rfl) ∅ ∅ ∅)) (bM aj4) (ak (bF (av am ao5 UM) Nt (λzz zz=> ∅)) (ak (g8 (iC (λzz zz=>rfl) (av qk p7 qj)) (ak (cK (cv (λzz=>rfl) qV (ae0 G (λzz=>rfl) p7 (cn (fv:=.builtin "hex") (G.no _ ∅) ∅ ∅ (bf _) tQ (ag rfl p7 ae) (λzz=>rfl) (λzz=>rfl) ∅ ∅ ∅) (λzz=>rfl) ∅ ∅) (λzz=>rfl)) ∅ (λzz=>rfl)) (ak (nO (i:=0) ∅ ∅ ∅ p7 Op) (ak (g8 (K4 (iC (λzz zz=>rfl) qk)) (ak W9 aN) aN) aN))) aN) aN)) (ak (cK (cv (λzz=>rfl) qV (cn (fv:=.builtin "hex") (G.no _ ∅) ∅ ∅ (bf _) tQ (ag rfl qk ae) (λzz=>rfl) (λzz=>rfl) ∅ ∅ ∅) (λzz=>rfl)) ∅ (λzz=>rfl)) aN) (λzz zz=>rfl))
def No:SF:=(fe (dv (kS ", ") [(a9 1)] fg))
theorem Od(G:cI C)(h2:2≤n):aQ C n Hj (dC (aq (ay 7)) 2) No:=(d6 (fQ (λzz=>rfl) I_ Jb hU bT (ag rfl qV ae) (λzz=>rfl) (λzz=>rfl)))
def f7:SF:=(ap Mm (ap Nk (ap No aP)))
theorem b7(G:cI C)(h2:2≤n):cB C n Hj (aq (ay 7)) f7:=(ak (Nq G h2) (ak (OP G h2) (ak (Od G h2) aN)))
theorem c7(G:cI C)(h2:2≤n)(h:di C "pretty_flags" 7):aI C (n+1) "pretty_flags" (cy 1 (ao (ay 7)) f7):=
 gP ["flags"] h (b7 G h2) (λzz zz zz=>jD λzz=> ∅) ∅ ∅ ∅ ∅ ∅
noncomputable def cM:a_:=cy 1 (ao (ay 7)) f7
abbrev la:Cx:=df (ao (ay 66))
theorem zX:aA C la "octets" 3:=bu 3 ∅
def Jj:SF:=(c6 3 (mZ []))
theorem GZ(G:cI C)(h2:2≤n):aQ C n la (dC (aq (ay 66)) 0) Jj:=(bF (jB ae) zX (λzz zz=> ∅))
theorem ZY:aA C la "k" 4:=bu 4 ∅
theorem yn:aA C la "number" 5:=eW 5 ∅ ∅ ∅
theorem wz:ab C n la (.Name "numbers" pos) (a9 0):=b9 0 ∅
theorem jy:ab C n la (.Name "octets" pos) (a9 3):=b9 3 ∅
theorem E0:ab C n la (.Name "cells" pos) (a9 1):=b9 1 ∅
theorem Zt:ab C n la (.Name "k" pos) (a9 4):=b9 4 ∅
abbrev pO:Scope:=jM [(".0",.local),("high",.local),("number",.free)]
abbrev zf:Cx:=bR la pO
theorem yd:aA C zf "high" 6:=bu 6 ∅
theorem lQ:ab C n zf (.Name "number" pos) (a9 5):=bE 5 3 ∅ (by decide) ∅ ∅ ∅
theorem rF:ab C n zf (.Name "high" pos) (a9 6):=b9 6 ∅
theorem xX:ab C n la (.Name "number" pos) (a9 5):=bE 5 2 ∅ (by decide) ∅ ∅ ∅
def Ge:SF:=(jH (b_ [(a9 0)] f_) (ji 4 5) (ap (ci (rT (a9 3) (aj (aU [(kI 64)]) (aj (aj (aF (a9 1) (aj (a9 4) (kI 6) (aR co))) (kI 420) (aR cN)) (kI 3) (aR co)) l8))) (ap (ci (rT (a9 3) (aj (cb pO (aK false (aU [(kI 5),(kI 4),(kI 3),(kI 2),(kI 1)])) (du 6) (cW (bA (a9 5) (aj (kI 64) (a9 6) (aR gu)) (d_ λx y=>decide (y≤x))) (aY (aj (aj (aj (a9 5) (aj (kI 64) (a9 6) (aR gu)) (aR cN)) (kI 64) (aR co)) (kI 64) aT)))) (aU [(aj (a9 5) (kI 64) (aR co))]) aT))) aP)) aP)
theorem J_(G:cI C)(h2:2≤n):aQ C n la (dC (aq (ay 66)) 1) Ge:=(gb h2 (k9 (fv:=.type "enumerate") (G.no _ ∅) ∅ ∅ (bD _) iO (ag rfl wz ae) (λzz=>rfl) (λzz=>rfl) ∅ ∅ ∅) (eS ZY yn) (ak (cK (kU (λzz=>rfl) jy (av (bc (ag rfl am ae)) (av (av (bj E0 (av Zt am dk) (λzz zz=>rfl)) am eO) am dk) pv) (λzz=>rfl)) ∅ (λzz=>rfl)) (ak (cK (kU (λzz=>rfl) jy (av (cD (bx ∅ h2 (λzz zz=>rfl) (bN _ _ _ _ _ _) (c5 (bc (ag rfl am (ag rfl am (ag rfl am (ag rfl am (ag rfl am ae))))))) (bM yd) (j3 (cj lQ (av am rF iY) Sn ∅)) (bZ (av (av (av lQ (av am rF iY) eO) am dk) am br)))) (bc (ag rfl (av xX am dk) ae)) br) (λzz=>rfl)) ∅ (λzz=>rfl)) aN)) aN (λzz zz=>rfl))
theorem EM:ab C n la (.Name "total" pos) (a9 2):=bE 2 2 ∅ (by decide) ∅ ∅ ∅
def GP:SF:=(ci (ef (a9 3) (aj (kI 64) (aj (a9 2) (kI 64) (aR co)) aT)))
theorem GH(G:cI C)(h2:2≤n):aQ C n la (dC (aq (ay 66)) 2) GP:=(cK (cv (λzz=>rfl) jy (av am (av EM am dk) br) (λzz=>rfl)) ∅ (λzz=>rfl))
abbrev v4:Scope:=jM [(".0",.local),("place",.local),("octet",.local),("total",.free)]
abbrev qr:Cx:=bR la v4
theorem vS:aA C qr "place" 6:=bu 6 ∅
theorem vF:aA C qr "octet" 7:=bu 7 ∅
theorem wc:ab C n qr (.Name "place" pos) (a9 6):=b9 6 ∅
theorem wv:ab C n qr (.Name "total" pos) (a9 2):=bE 2 3 ∅ (by decide) ∅ ∅ ∅
theorem oE:ab C n qr (.Name "octet" pos) (a9 7):=b9 7 ∅
def Ja:SF:=(fe (cb v4 (b_ [(a9 3)] f_) (ji 6 7) (cW bg (aY (dx (bA (aj (aj (a9 6) (a9 2) aT) (kI 3) (aR co)) (kI 0) dH) (aj (a9 7) (kI 128) aT) (a9 7))))))
theorem Kt(G:cI C)(h2:2≤n):aQ C n la (dC (aq (ay 66)) 3) Ja:=(d6 (cD (bx ∅ h2 (λzz zz=>rfl) (bN _ _ _ _ _ _) (k9 (fv:=.type "enumerate") (G.no _ ∅) ∅ ∅ (bD _) iO (ag rfl jy ae) (λzz=>rfl) (λzz=>rfl) ∅ ∅ ∅) (eS vS vF) cG (bZ (fN (cj (av (av wc wv br) am dk) am dJ ∅) (av oE am br) oE)))))
def f66:SF:=(ap Jj (ap Ge (ap GP (ap Ja aP))))
theorem b66(G:cI C)(h2:2≤n):cB C n la (aq (ay 66)) f66:=(ak (GZ G h2) (ak (J_ G h2) (ak (GH G h2) (ak (Kt G h2) aN))))
theorem c66(G:cI C)(h2:2≤n)(h:di C "_law_octets" 66):aI C (n+1) "_law_octets" (cy 3 (ao (ay 66)) f66):=
 gP ["numbers","cells","total"] h (b66 G h2) (λzz zz zz=>PH λzz zz zz=> ∅) ∅ ∅ ∅ ∅ ∅
noncomputable def fV:a_:=cy 3 (ao (ay 66)) f66
abbrev s9:Cx:=df (ao (ay 67))
theorem zj:aA C s9 "pieces" 4:=eW 4 ∅ ∅ ∅
def FH:SF:=(c6 4 (aU [(aU []),(aU [(kS "\\(")]),(aU [(kS "\""),(kS ")"),(kS "\"")]),(aU [(kS "\\\\")]),(aU [(kS "\""),(kS "\\\""),(kS ")"),(kS "\"")]),(aU [(kS "a"),(kS "\\\"")]),(aU [(kS "\""),(kS "\"")])]))
theorem K8(G:cI C)(h2:2≤n):aQ C n s9 (dC (aq (ay 67)) 0) FH:=(bF (bc (ag rfl (bc ae) (ag rfl (bc (ag rfl bT ae)) (ag rfl (bc (ag rfl bT (ag rfl bT (ag rfl bT ae)))) (ag rfl (bc (ag rfl bT ae)) (ag rfl (bc (ag rfl bT (ag rfl bT (ag rfl bT (ag rfl bT ae))))) (ag rfl (bc (ag rfl bT (ag rfl bT ae))) (ag rfl (bc (ag rfl bT (ag rfl bT ae))) ae)))))))) zj (λzz zz=> ∅))
theorem zQ:aA C s9 "picked" 5:=bu 5 ∅
theorem yQ:ab C n s9 (.Name "places" pos) (a9 0):=b9 0 ∅
abbrev lF:Scope:=jM [(".0",.local),("place",.local),("cells",.free),("mates",.free),("pieces",.free)]
abbrev pW:Cx:=bR s9 lF
theorem xl:aA C pW "place" 6:=bu 6 ∅
theorem ur:ab C n pW (.Name "pieces" pos) (a9 4):=bE 4 3 ∅ (by decide) ∅ ∅ ∅
theorem vv:ab C n pW (.Name "cells" pos) (a9 2):=bE 2 3 ∅ (by decide) ∅ ∅ ∅
theorem jR:ab C n pW (.Name "place" pos) (a9 6):=b9 6 ∅
theorem vO:ab C n pW (.Name "mates" pos) (a9 1):=bE 1 3 ∅ (by decide) ∅ ∅ ∅
def HK:SF:=(g9 5 lF (aK false (a9 0)) (du 6) (cW bg (aY (cX [(aF (a9 4) (aj (aj (aF (a9 2) (a9 6)) (kI 60) (aR cN)) (kI 7) (aR co))),(dx (bA (aF (a9 1) (a9 6)) (a9 6) (d_ λx y=>decide (y<x))) (kS "(") (kS ")"))]))) false)
theorem GX(G:cI C)(h2:2≤n):aQ C n s9 (dC (aq (ay 67)) 1) HK:=(gy false (bx ∅ h2 (λzz zz=>rfl) (bN _ _ _ _ _ _) (c5 yQ) (bM xl) cG (bZ (cU (ag rfl (bj ur (av (av (bj vv jR (λzz zz=>rfl)) am eO) am dk) (λzz zz=>rfl)) (ag rfl (fN (cj (bj vO jR (λzz zz=>rfl)) jR Hr ∅) bT bT) ae))))) zQ (f6 ∅ ∅ ∅ ∅))
theorem yO:ab C n s9 (.Name "picked" pos) (a9 5):=b9 5 ∅
abbrev Av:Scope:=jM [(".0",.local),("piece",.local),("sign",.local),("unit",.local),("shorn",.free)]
abbrev lr:Cx:=bR s9 Av
theorem vU:aA C lr "piece" 6:=bu 6 ∅
theorem zG:aA C lr "sign" 7:=bu 7 ∅
theorem vE:ab C n lr (.Name "shorn" pos) (a9 3):=bE 3 3 ∅ (by decide) ∅ ∅ ∅
theorem oJ:ab C n lr (.Name "piece" pos) (a9 6):=b9 6 ∅
theorem xU:ab C n lr (.Name "sign" pos) (a9 7):=b9 7 ∅
theorem zU:aA C lr "unit" 8:=bu 8 ∅
theorem Ap:ab C n lr (.Name "unit" pos) (a9 8):=b9 8 ∅
def Ku:SF:=(fe (cb Av (aK true (a9 5)) (ji 6 7) (cW bg (gf (aK false (aj (dx (FT (ga (a9 3)) (bA (ce (a9 6) ba (aL (kI 1))) (aU [(kS "\"")]) dH)) (aU []) (a9 6)) (aU [(a9 7)]) aT)) (du 8) (cW bg (aY (a9 8)))))))
theorem Hy(G:cI C)(h2:2≤n):aQ C n s9 (dC (aq (ay 67)) 2) Ku:=(d6 (cD (bx ∅ h2 (λzz zz=>rfl) (ie _ _ _ _ _ _ _ _ _) (c5 yO) (eS vU zG) cG (kv h2 (c5 (av (fN (T3 (iC (λzz zz=>rfl) vE) (cj (dP oJ dE (cw am)) (bc (ag rfl bT ae)) dJ ∅)) (bc ae) oJ) (bc (ag rfl xU ae)) br)) (bM zU) cG Ap (λzz zz=>rfl)))))
def f67:SF:=(ap FH (ap HK (ap Ku aP)))
theorem b67(G:cI C)(h2:2≤n):cB C n s9 (aq (ay 67)) f67:=(ak (K8 G h2) (ak (GX G h2) (ak (Hy G h2) aN)))
theorem c67(G:cI C)(h2:2≤n)(h:di C "_law_units" 67):aI C (n+1) "_law_units" (cy 4 (ao (ay 67)) f67):=
 gP ["places","mates","cells","shorn"] h (b67 G h2) (λzz zz zz=>Rr λzz zz zz zz=> ∅) ∅ ∅ ∅ ∅ ∅
noncomputable def bB:a_:=cy 4 (ao (ay 67)) f67
abbrev fM:Cx:=df (ao (ay 65))
theorem sT:aA C fM "roots" 3:=bu 3 ∅
abbrev zh:Scope:=jM [(".0",.local),("place",.local)]
abbrev GV:Cx:=bR fM zh
theorem vH:aA C GV "place" 10:=bu 10 ∅
theorem vf:ab C n GV (.Name "place" pos) (a9 10):=b9 10 ∅
def Bq:SF:=(g9 3 zh (aK false (af [(kI 6)] cH)) (du 10) (cW bg (aY (aU [(a9 10)]))) false)
theorem Kq(G:cI C)(h2:2≤n):aQ C n fM (dC (aq (ay 65)) 0) Bq:=(gy false (bx ∅ h2 (λzz zz=>rfl) (bN _ _ _ _ _ _) (c5 (cn (fv:=.type "range") (G.no _ ∅) ∅ ∅ (bD _) dM (ag rfl am ae) (λzz=>rfl) (λzz=>rfl) ∅ ∅ ∅)) (bM vH) cG (bZ (bc (ag rfl vf ae)))) sT (f6 ∅ ∅ ∅ ∅))
theorem sx:aA C fM "parts" 4:=eW 4 ∅ ∅ ∅
abbrev y9:Scope:=jM [(".0",.local),("place",.local),("min",.globalImplicit),("mates",.free)]
abbrev ye:Cx:=bR fM y9
theorem xb:aA C ye "place" 10:=bu 10 ∅
theorem ox:ab C n ye (.Name "place" pos) (a9 10):=b9 10 ∅
theorem xu:ab C n ye (.Name "mates" pos) (a9 2):=bE 2 3 ∅ (by decide) ∅ ∅ ∅
def C3:SF:=(c6 4 (cb y9 (aK false (af [(kI 6)] cH)) (du 10) (cW bg (aY (af [(a9 10),(aF (a9 2) (a9 10))] Ho)))))
theorem KF(G:cI C)(h2:2≤n):aQ C n fM (dC (aq (ay 65)) 1) C3:=(bF (cD (bx ∅ h2 (λzz zz=>rfl) (bN _ _ _ _ _ _) (c5 (cn (fv:=.type "range") (G.no _ ∅) ∅ ∅ (bD _) dM (ag rfl am ae) (λzz=>rfl) (λzz=>rfl) ∅ ∅ ∅)) (bM xb) cG (bZ (cn (fv:=.builtin "min") (G.no _ ∅) ∅ ∅ (bf _) HW (ag rfl ox (ag rfl (bj xu ox (λzz zz=>rfl)) ae)) (λzz=>rfl) (λzz=>rfl) ∅ ∅ ∅)))) sx (oU ∅))
theorem CU:aA C fM "kinds" 5:=eW 5 ∅ ∅ ∅
def BH:SF:=(c6 5 (mZ []))
theorem FR(G:cI C)(h2:2≤n):aQ C n fM (dC (aq (ay 65)) 2) BH:=(bF (jB ae) CU (λzz zz=> ∅))
theorem KG:aA C fM "turn" 6:=bu 6 ∅
theorem kP:ab C n fM (.Name "total" pos) (a9 1):=b9 1 ∅
theorem aa9:aA C fM "k" 7:=eW 7 ∅ ∅ ∅
theorem DE:ab C n fM (.Name "cells" pos) (a9 0):=b9 0 ∅
theorem wJ:ab C n fM (.Name "turn" pos) (a9 6):=b9 6 ∅
theorem i5:ab C n fM (.Name "roots" pos) (a9 3):=b9 3 ∅
theorem eg:ab C n fM (.Name "kinds" pos) (a9 5):=bE 5 2 ∅ (by decide) ∅ ∅ ∅
theorem n0:ab C n fM (.Name "parts" pos) (a9 4):=bE 4 2 ∅ (by decide) ∅ ∅ ∅
theorem t7:ab C n fM (.Name "k" pos) (a9 7):=bE 7 2 ∅ (by decide) ∅ ∅ ∅
abbrev oa:Scope:=jM [(".0",.local),("n",.local),("part",.local),("k",.free),("parts",.free)]
abbrev nP:Cx:=bR fM oa
theorem OY:aA C nP "n" 10:=bu 10 ∅
theorem Al:aA C nP "part" 11:=bu 11 ∅
theorem Mr:ab C n nP (.Name "n" pos) (a9 10):=b9 10 ∅
theorem uc:ab C n nP (.Name "k" pos) (a9 7):=bE 7 3 ∅ (by decide) ∅ ∅ ∅
theorem qC:ab C n nP (.Name "part" pos) (a9 11):=b9 11 ∅
theorem oC:ab C n nP (.Name "parts" pos) (a9 4):=bE 4 3 ∅ (by decide) ∅ ∅ ∅
def BM:SF:=(jH (aK false (af [(aF (aU [(kI 5),(kI 5),(kI 4),(kI 3)]) (aj (aj (a9 1) (kI 25) (aR cN)) (kI 4) (aR co)))] cH)) (du 6) (ap (c6 7 (aj (aF (a9 0) (a9 6)) (aj (af [(a9 3)] dD) (kI 1) (aR λx y=>some (x-y))) (aR co))) (ap (ci (ef (a9 5) (dx (bA (aF (a9 4) (a9 7)) (aF (a9 4) (aj (a9 7) (kI 1) aT)) dH) (kI 274) (kI 272)))) (ap (c6 4 (cb oa (b_ [(a9 4)] f_) (ji 10 11) (cW (bA (a9 10) (a9 7) oY) (aY (dx (bA (a9 11) (aF (a9 4) (aj (a9 7) (kI 1) aT)) dH) (aF (a9 4) (a9 7)) (a9 11)))))) (ap (c6 3 (aj (aj (ce (a9 3) ba (aL (a9 7))) (aU [(aj (aj (aU [(aj (jk (kI 1)) (a9 6) (aR λx y=>some (x-y)))]) (aF (a9 3) (a9 7)) aT) (aF (a9 3) (aj (a9 7) (kI 1) aT)) aT)]) aT) (ce (a9 3) (aL (aj (a9 7) (kI 2) aT)) ba) aT)) aP)))) aP)
theorem HF(G:cI C)(h2:2≤n):aQ C n fM (dC (aq (ay 65)) 3) BM:=(gb h2 (c5 (cn (fv:=.type "range") (G.no _ ∅) ∅ ∅ (bD _) dM (ag rfl (bj (bc (ag rfl am (ag rfl am (ag rfl am (ag rfl am ae))))) (av (av kP am eO) am dk) (λzz zz=>rfl)) ae) (λzz=>rfl) (λzz=>rfl) ∅ ∅ ∅)) (bM KG) (ak (bF (av (bj DE wJ (λzz zz=>rfl)) (av (cn (fv:=.builtin "len") (G.no _ ∅) ∅ ∅ (bf _) eR (ag rfl i5 ae) (λzz=>rfl) (λzz=>rfl) ∅ ∅ ∅) am iX) dk) aa9 (λzz zz=> ∅)) (ak (cK (cv (λzz=>rfl) eg (fN (cj (bj n0 t7 (λzz zz=>rfl)) (bj n0 (av t7 am br) (λzz zz=>rfl)) dJ ∅) am am) (λzz=>rfl)) ∅ (λzz=>rfl)) (ak (bF (cD (bx ∅ h2 (λzz zz=>rfl) (bN _ _ _ _ _ _) (k9 (fv:=.type "enumerate") (G.no _ ∅) ∅ ∅ (bD _) iO (ag rfl n0 ae) (λzz=>rfl) (λzz=>rfl) ∅ ∅ ∅) (eS OY Al) (j3 (cj Mr uc sk ∅)) (bZ (fN (cj qC (bj oC (av uc am br) (λzz zz=>rfl)) dJ ∅) (bj oC uc (λzz zz=>rfl)) qC)))) sx (oU ∅)) (ak (bF (av (av (dP i5 dE (cw t7)) (bc (ag rfl (av (av (bc (ag rfl (av (nz am) wJ iX) ae)) (bj i5 t7 (λzz zz=>rfl)) br) (bj i5 (av t7 am br) (λzz zz=>rfl)) br) ae)) br) (dP i5 (cw (av t7 am br)) dE) br) sT (λzz zz=> ∅)) aN)))) aN (λzz zz=>rfl))
theorem O7:aA C fM "one" 8:=bu 8 ∅
theorem NR:aA C fM "two" 9:=bu 9 ∅
def BF:SF:=(vh 8 9 (cX [(aj (aj (a9 1) (kI 100) (aR cN)) (af [(a9 5)] dD) (aR co)),(aj (aj (a9 1) (kI 500) (aR cN)) (af [(a9 5)] dD) (aR co))]))
theorem Kj(G:cI C)(h2:2≤n):aQ C n fM (dC (aq (ay 65)) 4) BF:=(AQ (cU (ag rfl (av (av kP am eO) (cn (fv:=.builtin "len") (G.no _ ∅) ∅ ∅ (bf _) eR (ag rfl eg ae) (λzz=>rfl) (λzz=>rfl) ∅ ∅ ∅) dk) (ag rfl (av (av kP am eO) (cn (fv:=.builtin "len") (G.no _ ∅) ∅ ∅ (bf _) eR (ag rfl eg ae) (λzz=>rfl) (λzz=>rfl) ∅ ∅ ∅) dk) ae))) O7 NR (λzz=>rfl) (xv ∅ ∅ ∅ ∅ ∅ ∅ ∅ ∅))
theorem C0:ab C n fM (.Name "two" pos) (a9 9):=b9 9 ∅
theorem lM:ab C n fM (.Name "one" pos) (a9 8):=b9 8 ∅
def Bd:SF:=(Hi (cX [(aF (a9 5) (a9 9)),(aF (a9 5) (a9 8))]) (a9 5) (a9 8) (a9 5) (a9 9))
theorem GK(G:cI C)(h2:2≤n):aQ C n fM (dC (aq (ay 65)) 5) Bd:=(Nf (cU (ag rfl (bj eg C0 (λzz zz=>rfl)) (ag rfl (bj eg lM (λzz zz=>rfl)) ae))) eg lM eg C0 (λzz=>rfl) DI)
def BJ:SF:=(Ua (dx (bA (aj (aj (a9 1) (kI 2500) (aR cN)) (kI 4) (aR co)) (kI 3) dH) (aj (kI 546) (aF (a9 5) (a9 8)) (aR λx y=>some (x-y))) (aF (a9 5) (a9 8))) (a9 5) (a9 8))
theorem H6(G:cI C)(h2:2≤n):aQ C n fM (dC (aq (ay 65)) 6) BJ:=(Tj (fN (cj (av (av kP am eO) am dk) am dJ ∅) (av am (bj eg lM (λzz zz=>rfl)) iX) (bj eg lM (λzz zz=>rfl))) eg lM (λzz=>rfl))
abbrev pC:Scope:=jM [(".0",.local),("root",.local),("sign",.local),("kinds",.free),("mates",.free)]
abbrev nR:Cx:=bR fM pC
theorem xV:aA C nR "root" 10:=bu 10 ∅
theorem zR:ab C n nR (.Name "root" pos) (a9 10):=b9 10 ∅
theorem Ad:aA C nR "sign" 11:=bu 11 ∅
theorem jx:ab C n nR (.Name "sign" pos) (a9 11):=b9 11 ∅
theorem xz:ab C n nR (.Name "kinds" pos) (a9 5):=bE 5 3 ∅ (by decide) ∅ ∅ ∅
theorem wE:ab C n nR (.Name "mates" pos) (a9 2):=bE 2 3 ∅ (by decide) ∅ ∅ ∅
def AD:SF:=(fe (aj (cb pC (aK false (a9 3)) (du 10) (cW bg (gf (aK false (a9 10)) (du 11) (cW bg (aY (dx (bA (a9 11) (kI 0) (d_ λx y=>decide (x<y))) (aF (a9 5) (aj (jk (kI 1)) (a9 11) (aR λx y=>some (x-y)))) (dx (bA (aF (a9 2) (a9 11)) (a9 11) (d_ λx y=>decide (y<x))) (kI 7) (kI 8)))))))) (aU [(kI 0)]) aT))
theorem JG(G:cI C)(h2:2≤n):aQ C n fM (dC (aq (ay 65)) 7) AD:=(d6 (av (cD (bx ∅ h2 (λzz zz=>rfl) (ie _ _ _ _ _ _ _ _ _) (c5 i5) (bM xV) cG (kv h2 (c5 zR) (bM Ad) cG (fN (cj jx am pL ∅) (bj xz (av (nz am) jx iX) (λzz zz=>rfl)) (fN (cj (bj wE jx (λzz zz=>rfl)) jx Hr ∅) am am)) (λzz zz=>rfl)))) (bc (ag rfl am ae)) br))
def f65:SF:=(ap Bq (ap C3 (ap BH (ap BM (ap BF (ap Bd (ap BJ (ap AD aP))))))))
theorem b65(G:cI C)(h2:2≤n):cB C n fM (aq (ay 65)) f65:=(ak (Kq G h2) (ak (KF G h2) (ak (FR G h2) (ak (HF G h2) (ak (Kj G h2) (ak (GK G h2) (ak (H6 G h2) (ak (JG G h2) aN))))))))
theorem c65(G:cI C)(h2:2≤n)(h:di C "_law_numbers" 65):aI C (n+1) "_law_numbers" (cy 3 (ao (ay 65)) f65):=
 gP ["cells","total","mates"] h (b65 G h2) (λzz zz zz=>PH λzz zz zz=> ∅) ∅ ∅ ∅ ∅ ∅
noncomputable def gz:a_:=cy 3 (ao (ay 65)) f65
end
section
abbrev uH:Cx:=df (ao (ay 2))
theorem l4:ab C n uH (.Name "addr" pos) (a9 0):=b9 0 ∅
def IB:SF:=(jG (bA (kS "\"") (a9 0) lD) (ap (fe (a9 0)) aP) aP)
theorem Mn(G:cI C)(h2:2≤n):aQ C n uH (dC (aq (ay 2)) 0) IB:=(g8 (cj bT l4 xC ∅) (ak (d6 l4) aN) aN)
theorem v_:aA C uH "start" 1:=bu 1 ∅
def TA:SF:=(c6 1 (kI 0))
theorem Po(G:cI C)(h2:2≤n):aQ C n uH (dC (aq (ay 2)) 1) TA:=(bF am v_ (λzz zz=> ∅))
theorem kq:aA C uH "open_pos" 2:=bu 2 ∅
def UK:SF:=(c6 2 kN)
theorem Nv(G:cI C)(h2:2≤n):aQ C n uH (dC (aq (ay 2)) 2) UK:=(bF y5 kq (λzz zz=> ∅))
theorem CI:aA C uH "result" 3:=bu 3 ∅
def NP:SF:=(c6 3 (mZ []))
theorem N1(G:cI C)(h2:2≤n):aQ C n uH (dC (aq (ay 2)) 3) NP:=(bF (jB ae) CI (λzz zz=> ∅))
theorem UI:aA C uH "pos" 4:=bu 4 ∅
theorem YR:aA C uH "ch" 5:=bu 5 ∅
theorem Z0:ab C n uH (.Name "ch" pos) (a9 5):=b9 5 ∅
theorem kn:ab C n uH (.Name "open_pos" pos) (a9 2):=b9 2 ∅
theorem Ip:ab C n uH (.Name "pos" pos) (a9 4):=b9 4 ∅
theorem mF:ab C n uH (.Name "start" pos) (a9 1):=b9 1 ∅
theorem mT:ab C n uH (.Name "result" pos) (a9 3):=b9 3 ∅
def Os:SF:=(jH (b_ [(a9 0)] aE) (ji 4 5) (ap (jG (bA (a9 5) (kS "\"") dH) (ap (jG (bA (a9 2) kN LH) (ap (c6 2 (a9 4)) aP) (ap (jG (bA (a9 1) (a9 2) oY) (ap (ci (ef (a9 3) (ce (a9 0) (aL (a9 1)) (aL (a9 2))))) aP) aP) (ap (c6 1 (aj (a9 4) (kI 1) aT)) (ap (c6 2 kN) aP)))) aP) aP) aP) aP)
theorem MZ(G:cI C)(h2:2≤n)(h_iter_escaped_chars:gL C n "_iter_escaped_chars" aE):aQ C n uH (dC (aq (ay 2)) 4) Os:=(gb h2 (zl h_iter_escaped_chars (ag rfl l4 ae) (λzz=>rfl) ∅ ∅ ∅) (eS UI YR) (ak (g8 (cj Z0 bT dJ ∅) (ak (g8 (cj kn y5 vG ∅) (ak (bF Ip kq (λzz zz=> ∅)) aN) (ak (g8 (cj mF kn sk ∅) (ak (cK (cv (λzz=>rfl) mT (dP l4 (cw mF) (cw kn)) (λzz=>rfl)) ∅ (λzz=>rfl)) aN) aN) (ak (bF (av Ip am br) v_ (λzz zz=> ∅)) (ak (bF y5 kq (λzz zz=> ∅)) aN)))) aN) aN) aN) aN (λzz zz=>rfl))
def ON:SF:=(jG (bA (a9 1) (af [(a9 0)] dD) (d_ λx y=>decide (x<y))) (ap (ci (ef (a9 3) (ce (a9 0) (aL (a9 1)) ba))) aP) aP)
theorem NQ(G:cI C)(h2:2≤n)(h_iter_escaped_chars:gL C n "_iter_escaped_chars" aE):aQ C n uH (dC (aq (ay 2)) 5) ON:=(g8 (cj mF (cn (fv:=.builtin "len") (G.no _ ∅) ∅ ∅ (bf _) eR (ag rfl l4 ae) (λzz=>rfl) (λzz=>rfl) ∅ ∅ ∅) pL ∅) (ak (cK (cv (λzz=>rfl) mT (dP l4 (cw mF) dE) (λzz=>rfl)) ∅ (λzz=>rfl)) aN) aN)
def MM:SF:=(fe (dv (kS "") [(a9 3)] fg))
theorem N_(G:cI C)(h2:2≤n)(h_iter_escaped_chars:gL C n "_iter_escaped_chars" aE):aQ C n uH (dC (aq (ay 2)) 6) MM:=(d6 (fQ (λzz=>rfl) I_ Jb hU bT (ag rfl mT ae) (λzz=>rfl) (λzz=>rfl)))
def f2:SF:=(ap IB (ap TA (ap UK (ap NP (ap Os (ap ON (ap MM aP)))))))
theorem b2(G:cI C)(h2:2≤n)(h_iter_escaped_chars:gL C n "_iter_escaped_chars" aE):cB C n uH (aq (ay 2)) f2:=(ak (Mn G h2) (ak (Po G h2) (ak (Nv G h2) (ak (N1 G h2) (ak (MZ G h2 h_iter_escaped_chars) (ak (NQ G h2 h_iter_escaped_chars) (ak (N_ G h2 h_iter_escaped_chars) aN)))))))
theorem c2(G:cI C)(h2:2≤n)(h_iter_escaped_chars:gL C n "_iter_escaped_chars" aE)(h:di C "_strip_quoted_realnames" 2):aI C (n+1) "_strip_quoted_realnames" (cy 1 (ao (ay 2)) f2):=
 gP ["addr"] h (b2 G h2 h_iter_escaped_chars) (λzz zz zz=>jD λzz=> ∅) ∅ ∅ ∅ ∅ ∅
noncomputable def aM:a_:=cy 1 (ao (ay 2)) f2
abbrev Fk:Cx:=df (ao (ay 3))
theorem Ov:aA C Fk "addr" 0:=bu 0 ∅
theorem AR:ab C n Fk (.Name "addr" pos) (a9 0):=b9 0 ∅
def Nc:SF:=(c6 0 (af [(a9 0)] aM))
theorem Pd(G:cI C)(h2:2≤n)(h_strip_quoted_realnames:aI C n "_strip_quoted_realnames" aM):aQ C n Fk (dC (aq (ay 3)) 0) Nc:=(bF (cc h_strip_quoted_realnames (ag rfl AR ae) (λzz=>rfl) ∅ ∅ ∅) Ov (λzz zz=> ∅))
theorem KM:aA C Fk "opens" 1:=bu 1 ∅
def UC:SF:=(c6 1 (kI 0))
theorem NA(G:cI C)(h2:2≤n)(h_strip_quoted_realnames:aI C n "_strip_quoted_realnames" aM):aQ C n Fk (dC (aq (ay 3)) 1) UC:=(bF am KM (λzz zz=> ∅))
theorem Tx:aA C Fk "pos" 2:=bu 2 ∅
theorem XR:aA C Fk "ch" 3:=bu 3 ∅
theorem PZ:ab C n Fk (.Name "ch" pos) (a9 3):=b9 3 ∅
theorem vn:ab C n Fk (.Name "opens" pos) (a9 1):=b9 1 ∅
def PD:SF:=(jH (b_ [(a9 0)] aE) (ji 2 3) (ap (jG (bA (a9 3) (kS "(") dH) (ap (iA 1 (kI 1) Be) aP) (ap (jG (bA (a9 3) (kS ")") dH) (ap (iA 1 (kI 1) AF) (ap (jG (bA (a9 1) (kI 0) (d_ λx y=>decide (x<y))) (ap (fe (kB false)) aP) aP) aP)) aP) aP)) aP) aP)
theorem OD(G:cI C)(h2:2≤n)(h_strip_quoted_realnames:aI C n "_strip_quoted_realnames" aM)(h_iter_escaped_chars:gL C n "_iter_escaped_chars" aE):aQ C n Fk (dC (aq (ay 3)) 2) PD:=(gb h2 (zl h_iter_escaped_chars (ag rfl AR ae) (λzz=>rfl) ∅ ∅ ∅) (eS Tx XR) (ak (g8 (cj PZ bT dJ ∅) (ak (nO (i:=1) ∅ ∅ ∅ am OM) aN) (ak (g8 (cj PZ bT dJ ∅) (ak (nO (i:=1) ∅ ∅ ∅ am Oz) (ak (g8 (cj vn am pL ∅) (ak (d6 dh) aN) aN) aN)) aN) aN)) aN) aN (λzz zz=>rfl))
def Th:SF:=(fe (dZ (a9 1) (kI 0) dH))
theorem MY(G:cI C)(h2:2≤n)(h_strip_quoted_realnames:aI C n "_strip_quoted_realnames" aM)(h_iter_escaped_chars:gL C n "_iter_escaped_chars" aE):aQ C n Fk (dC (aq (ay 3)) 3) Th:=(d6 (fq vn am dJ ∅))
def f3:SF:=(ap Nc (ap UC (ap PD (ap Th aP))))
theorem b3(G:cI C)(h2:2≤n)(h_strip_quoted_realnames:aI C n "_strip_quoted_realnames" aM)(h_iter_escaped_chars:gL C n "_iter_escaped_chars" aE):cB C n Fk (aq (ay 3)) f3:=(ak (Pd G h2 h_strip_quoted_realnames) (ak (NA G h2 h_strip_quoted_realnames) (ak (OD G h2 h_strip_quoted_realnames h_iter_escaped_chars) (ak (MY G h2 h_strip_quoted_realnames h_iter_escaped_chars) aN))))
theorem c3(G:cI C)(h2:2≤n)(h_strip_quoted_realnames:aI C n "_strip_quoted_realnames" aM)(h_iter_escaped_chars:gL C n "_iter_escaped_chars" aE)(h:di C "_check_parenthesis" 3):aI C (n+1) "_check_parenthesis" (cy 1 (ao (ay 3)) f3):=
 gP ["addr"] h (b3 G h2 h_strip_quoted_realnames h_iter_escaped_chars) (λzz zz zz=>jD λzz=> ∅) ∅ ∅ ∅ ∅ ∅
noncomputable def ar:a_:=cy 1 (ao (ay 3)) f3
abbrev Pu:Cx:=df (ao (ay 4))
theorem lL:aA C Pu "accepted_values" 1:=bu 1 ∅
def Ng:SF:=(c6 1 (mZ []))
theorem OZ(G:cI C)(h2:2≤n):aQ C n Pu (dC (aq (ay 4)) 0) Ng:=(bF (jB ae) lL (λzz zz=> ∅))
theorem Zo:aA C Pu "v" 2:=bu 2 ∅
theorem jm:ab C n Pu (.Name "email_header_fields" pos) (a9 0):=b9 0 ∅
theorem Ys:ab C n Pu (.Name "v" pos) (a9 2):=b9 2 ∅
theorem i9:ab C n Pu (.Name "accepted_values" pos) (a9 1):=b9 1 ∅
def ND:SF:=(jH (aK false (a9 0)) (du 2) (ap (jG (tW (ga (af [(a9 2)] ar))) (ap (c6 2 (kS "('', '')")) aP) aP) (ap (ci (ef (a9 1) (a9 2))) aP)) aP)
theorem OS(G:cI C)(h2:2≤n)(h_check_parenthesis:aI C n "_check_parenthesis" ar):aQ C n Pu (dC (aq (ay 4)) 1) ND:=(gb h2 (c5 jm) (bM Zo) (ak (g8 (K4 (iC (λzz zz=>rfl) (cc h_check_parenthesis (ag rfl Ys ae) (λzz=>rfl) ∅ ∅ ∅))) (ak (bF bT Zo (λzz zz=> ∅)) aN) aN) (ak (cK (cv (λzz=>rfl) i9 Ys (λzz=>rfl)) ∅ (λzz=>rfl)) aN)) aN (λzz zz=>rfl))
def Yk:SF:=(fe (a9 1))
theorem OA(G:cI C)(h2:2≤n)(h_check_parenthesis:aI C n "_check_parenthesis" ar):aQ C n Pu (dC (aq (ay 4)) 2) Yk:=(d6 i9)
def f4:SF:=(ap Ng (ap ND (ap Yk aP)))
theorem b4(G:cI C)(h2:2≤n)(h_check_parenthesis:aI C n "_check_parenthesis" ar):cB C n Pu (aq (ay 4)) f4:=(ak (OZ G h2) (ak (OS G h2 h_check_parenthesis) (ak (OA G h2 h_check_parenthesis) aN)))
theorem c4(G:cI C)(h2:2≤n)(h_check_parenthesis:aI C n "_check_parenthesis" ar)(h:di C "_pre_parse_validation" 4):aI C (n+1) "_pre_parse_validation" (cy 1 (ao (ay 4)) f4):=
 gP ["email_header_fields"] h (b4 G h2 h_check_parenthesis) (λzz zz zz=>jD λzz=> ∅) ∅ ∅ ∅ ∅ ∅
noncomputable def aX:a_:=cy 1 (ao (ay 4)) f4
end
section
abbrev lH:Cx:=df (ao (ay 68))
theorem zr:aA C lH "number" 2:=bu 2 ∅
theorem r8:ab C n lH (.Name "tape" pos) (a9 0):=b9 0 ∅
def vR(aC:a_):SF:=(c6 2 (af [(a9 0)] aS))
theorem Hu{aC:a_}(G:cI C)(h2:2≤n)(h_parse_varint:aI C n "_parse_varint" aS):aQ C n lH (dC (aq (ay 68)) 0) (vR aC):=(bF (cc h_parse_varint (ag rfl r8 ae) (λzz=>rfl) ∅ ∅ ∅) zr (λzz zz=> ∅))
theorem mI:ab C n lH (.Name "told" pos) (a9 1):=b9 1 ∅
theorem iB:ab C n lH (.Name "number" pos) (a9 2):=b9 2 ∅
def wL(aC:a_):SF:=(ci (ef (a9 1) (a9 2)))
theorem Gp{aC:a_}(G:cI C)(h2:2≤n)(h_parse_varint:aI C n "_parse_varint" aS):aQ C n lH (dC (aq (ay 68)) 1) (wL aC):=(cK (cv (λzz=>rfl) mI iB (λzz=>rfl)) ∅ (λzz=>rfl))
def lh(aC:a_):SF:=(jG (ga (af [(a9 2)] fx)) (ap (fe (cX [])) aP) aP)
theorem J2{aC:a_}(G:cI C)(h2:2≤n)(h_parse_varint:aI C n "_parse_varint" aS)(hISEOF:aI C n "ISEOF" fx):aQ C n lH (dC (aq (ay 68)) 2) (lh aC):=(g8 (iC (λzz zz=>rfl) (cc hISEOF (ag rfl iB ae) (λzz=>rfl) ∅ ∅ ∅)) (ak (d6 (cU ae)) aN) aN)
theorem H7:aA C lH "left" 3:=bu 3 ∅
theorem CD:aA C lH "right" 4:=bu 4 ∅
theorem wu:ab C n lH (.Name "left" pos) (a9 3):=b9 3 ∅
theorem sW:ab C n lH (.Name "right" pos) (a9 4):=b9 4 ∅
def oq(aC:a_):SF:=(jG (ga (af [(a9 2)] bQ)) (ap (c6 3 (af [(a9 0),(a9 1)] aC)) (ap (c6 4 (af [(a9 0),(a9 1)] aC)) (ap (fe (cX [(aj (a9 2) (kI 256) (aR λx y=>some (x-y))),(aj (aF (a9 3) (kI 1)) (aF (a9 4) (kI 1)) aT),(a9 3),(a9 4)])) aP))) aP)
theorem J4{aC:a_}(G:cI C)(h2:2≤n)(h_parse_varint:aI C n "_parse_varint" aS)(hISEOF:aI C n "ISEOF" fx)(hISNONTERMINAL:aI C n "ISNONTERMINAL" bQ)(h_law_formula:aI C n "_law_formula" aC):aQ C n lH (dC (aq (ay 68)) 3) (oq aC):=(g8 (iC (λzz zz=>rfl) (cc hISNONTERMINAL (ag rfl iB ae) (λzz=>rfl) ∅ ∅ ∅)) (ak (bF (cc h_law_formula (ag rfl r8 (ag rfl mI ae)) (λzz=>rfl) ∅ ∅ ∅) H7 (λzz zz=> ∅)) (ak (bF (cc h_law_formula (ag rfl r8 (ag rfl mI ae)) (λzz=>rfl) ∅ ∅ ∅) CD (λzz zz=> ∅)) (ak (d6 (cU (ag rfl (av iB am iX) (ag rfl (av (bj wu am (λzz zz=>rfl)) (bj sW am (λzz zz=>rfl)) br) (ag rfl wu (ag rfl sW ae)))))) aN))) aN)
abbrev tV:Scope:=jM [(".0",.local),("one",.local),("ISTERMINAL",.globalImplicit)]
abbrev GE:Cx:=bR lH tV
theorem Do:aA C GE "one" 5:=bu 5 ∅
theorem t4:ab C n GE (.Name "one" pos) (a9 5):=b9 5 ∅
def sP(aC:a_):SF:=(fe (cX [(a9 2),(aU [(aj (af [(cb tV (aK false (a9 1)) (du 5) (cW (ga (af [(a9 5)] cq)) (aY (a9 5))))] dD) (kI 1) (aR λx y=>some (x-y)))])]))
theorem H3{aC:a_}(G:cI C)(h2:2≤n)(h_parse_varint:aI C n "_parse_varint" aS)(hISEOF:aI C n "ISEOF" fx)(hISNONTERMINAL:aI C n "ISNONTERMINAL" bQ)(h_law_formula:aI C n "_law_formula" aC)(hISTERMINAL:aI C n "ISTERMINAL" cq):aQ C n lH (dC (aq (ay 68)) 4) (sP aC):=(d6 (cU (ag rfl iB (ag rfl (bc (ag rfl (av (cn (fv:=.builtin "len") (G.no _ ∅) ∅ ∅ (bf _) eR (ag rfl (cD (bx ∅ h2 (λzz zz=>rfl) (bN _ _ _ _ _ _) (c5 mI) (bM Do) (j3 (iC (λzz zz=>rfl) (cc hISTERMINAL (ag rfl t4 ae) (λzz=>rfl) ∅ ∅ ∅))) (bZ t4))) ae) (λzz=>rfl) (λzz=>rfl) ∅ ∅ ∅) am iX) ae)) ae))))
def f68(aC:a_):SF:=(ap (vR aC) (ap (wL aC) (ap (lh aC) (ap (oq aC) (ap (sP aC) aP)))))
theorem b68{aC:a_}(G:cI C)(h2:2≤n)(h_parse_varint:aI C n "_parse_varint" aS)(hISEOF:aI C n "ISEOF" fx)(hISNONTERMINAL:aI C n "ISNONTERMINAL" bQ)(h_law_formula:aI C n "_law_formula" aC)(hISTERMINAL:aI C n "ISTERMINAL" cq):cB C n lH (aq (ay 68)) (f68 aC):=(ak (Hu G h2 h_parse_varint) (ak (Gp G h2 h_parse_varint) (ak (J2 G h2 h_parse_varint hISEOF) (ak (J4 G h2 h_parse_varint hISEOF hISNONTERMINAL h_law_formula) (ak (H3 G h2 h_parse_varint hISEOF hISNONTERMINAL h_law_formula hISTERMINAL) aN)))))
theorem c68{aC:a_}(G:cI C)(h2:2≤n)(h_parse_varint:aI C n "_parse_varint" aS)(hISEOF:aI C n "ISEOF" fx)(hISNONTERMINAL:aI C n "ISNONTERMINAL" bQ)(h_law_formula:aI C n "_law_formula" aC)(hISTERMINAL:aI C n "ISTERMINAL" cq)(h:di C "_law_formula" 68):aI C (n+1) "_law_formula" (cy 2 (ao (ay 68)) (f68 aC)):=
 gP ["tape","told"] h (b68 G h2 h_parse_varint hISEOF hISNONTERMINAL h_law_formula hISTERMINAL) (λzz zz zz=>Jz λzz zz=> ∅) ∅ ∅ ∅ ∅ ∅
noncomputable def vI:Nat→a_
 |0=> λzz zz=>none
 |m+1=>cy 2 (ao (ay 68)) (f68 (vI m))
theorem d68(G:cI C)(h2:2≤n)(h_parse_varint:aI C n "_parse_varint" aS)(hISEOF:aI C n "ISEOF" fx)(hISNONTERMINAL:aI C n "ISNONTERMINAL" bQ)(hISTERMINAL:aI C n "ISTERMINAL" cq)(h:di C "_law_formula" 68):∀m,aI C (n+m) "_law_formula" (vI m)
 |0=>uP h
 |m+1=>c68 G (KQ h2 (Fi ..)) (h_parse_varint.mono (Fi ..)) (hISEOF.mono (Fi ..)) (hISNONTERMINAL.mono (Fi ..)) (d68 G h2 h_parse_varint hISEOF hISNONTERMINAL hISTERMINAL h m) (hISTERMINAL.mono (Fi ..)) h
noncomputable def aC:a_:=vI 12
abbrev dO:Cx:=df (ao (ay 70))
theorem H_:aA C dO "turn" 4:=bu 4 ∅
theorem EO:aA C dO "roots" 0:=eW 0 ∅ ∅ ∅
theorem fF:ab C n dO (.Name "roots" pos) (a9 0):=bE 0 2 ∅ (by decide) ∅ ∅ ∅
abbrev uk:Scope:=jM [(".0",.local),("one",.local),("part",.local),("EXACT_TOKEN_TYPES",.globalImplicit)]
abbrev tb:Cx:=bR dO uk
theorem Es:aA C tb "one" 16:=bu 16 ∅
theorem nV:ab C n tb (.Name "one" pos) (a9 16):=b9 16 ∅
theorem Ao:aA C tb "part" 17:=bu 17 ∅
theorem zE:ab C n tb (.Name "part" pos) (a9 17):=b9 17 ∅
def AI(aO:a_):SF:=(jH (aK false (af [(kI 5)] cH)) (du 4) (ap (c6 0 (cb uk (aK false (a9 0)) (du 16) (cW bg (gf (aK false (dx (bA (aF (a9 16) (kI 0)) (jF ki (kS "|")) dH) (ce (a9 16) (aL (kI 2)) ba) (cX [(a9 16)]))) (du 17) (cW bg (aY (a9 17))))))) aP) aP)
theorem Gf{aO:a_}(G:cI C)(h2:2≤n):aQ C n dO (dC (aq (ay 70)) 0) (AI aO):=(gb h2 (c5 (cn (fv:=.type "range") (G.no _ ∅) ∅ ∅ (bD _) dM (ag rfl am ae) (λzz=>rfl) (λzz=>rfl) ∅ ∅ ∅)) (bM H_) (ak (bF (cD (bx ∅ h2 (λzz zz=>rfl) (ie _ _ _ _ _ _ _ _ _) (c5 fF) (bM Es) cG (kv h2 (c5 (fN (cj (bj nV am (λzz zz=>rfl)) (KL G bT (λzz zz=>rfl) ∅ ∅) dJ ∅) (dP nV (cw am) dE) (cU (ag rfl nV ae)))) (bM Ao) cG zE (λzz zz=>rfl)))) EO (oU ∅)) aN) aN (λzz zz=>rfl))
abbrev tz:Scope:=jM [(".0",.local),("one",.local),("len",.globalImplicit)]
abbrev KI:Cx:=bR dO tz
theorem Di:aA C KI "one" 16:=bu 16 ∅
theorem CH:ab C n KI (.Name "one" pos) (a9 16):=b9 16 ∅
theorem KJ:aA C dO "pair" 6:=bu 6 ∅
abbrev zD:Scope:=jM [(".0",.local),("places",.local),("_law_units",.globalImplicit),("cells",.free),("mates",.free)]
abbrev ux:Cx:=bR dO zD
theorem uD:aA C ux "places" 16:=bu 16 ∅
theorem uE:ab C n ux (.Name "places" pos) (a9 16):=b9 16 ∅
theorem ve:ab C n ux (.Name "mates" pos) (a9 1):=bE 1 3 ∅ (by decide) ∅ ∅ ∅
theorem vX:ab C n ux (.Name "cells" pos) (a9 2):=bE 2 3 ∅ (by decide) ∅ ∅ ∅
theorem kA:ab C n dO (.Name "asked" pos) (a9 3):=b9 3 ∅
theorem w9:ab C n dO (.Name "pair" pos) (a9 6):=b9 6 ∅
def sr(aO:a_):SF:=(jG (bA (cb tz (aK false (a9 0)) (du 16) (cW bg (aY (af [(a9 16)] dD)))) (aU [(kI 2),(kI 2)]) dH) (ap (g9 6 zD (aK false (cX [(aj (aF (aF (a9 0) (kI 0)) (kI 1)) (aF (aF (a9 0) (kI 1)) (kI 1)) aT),(aj (aF (aF (a9 0) (kI 1)) (kI 1)) (aF (aF (a9 0) (kI 0)) (kI 1)) aT)])) (du 16) (cW bg (aY (dv (kS "") [(af [(a9 16),(a9 1),(a9 2),(kB false)] bB)] fg))) false) (ap (ci (ef (a9 3) (cX [(aU [(dZ (af [(aF (a9 6) (kI 0))] ar) (kB true) LH),(dZ (af [(aF (a9 6) (kI 1))] ar) (kB false) LH)]),(aU [(kB true),(kB true)])]))) (ap (fe (kB true)) aP))) aP)
theorem Io{aO:a_}(G:cI C)(h2:2≤n)(h_law_units:aI C n "_law_units" bB)(h_check_parenthesis:aI C n "_check_parenthesis" ar):aQ C n dO (dC (aq (ay 70)) 1) (sr aO):=(g8 (cj (cD (bx ∅ h2 (λzz zz=>rfl) (bN _ _ _ _ _ _) (c5 fF) (bM Di) cG (bZ (cn (fv:=.builtin "len") (G.no _ ∅) ∅ ∅ (bf _) eR (ag rfl CH ae) (λzz=>rfl) (λzz=>rfl) ∅ ∅ ∅)))) (bc (ag rfl am (ag rfl am ae))) dJ ∅) (ak (gy false (bx ∅ h2 (λzz zz=>rfl) (bN _ _ _ _ _ _) (c5 (cU (ag rfl (av (bj (bj fF am (λzz zz=>rfl)) am (λzz zz=>rfl)) (bj (bj fF am (λzz zz=>rfl)) am (λzz zz=>rfl)) br) (ag rfl (av (bj (bj fF am (λzz zz=>rfl)) am (λzz zz=>rfl)) (bj (bj fF am (λzz zz=>rfl)) am (λzz zz=>rfl)) br) ae)))) (bM uD) cG (bZ (fQ (λzz=>rfl) I_ Jb hU bT (ag rfl (cc h_law_units (ag rfl uE (ag rfl ve (ag rfl vX (ag rfl dh ae)))) (λzz=>rfl) ∅ ∅ ∅) ae) (λzz=>rfl) (λzz=>rfl)))) KJ (f6 ∅ ∅ ∅ ∅)) (ak (cK (cv (λzz=>rfl) kA (cU (ag rfl (bc (ag rfl (fq (cc h_check_parenthesis (ag rfl (bj w9 am (λzz zz=>rfl)) ae) (λzz=>rfl) ∅ ∅ ∅) dh vG ∅) (ag rfl (fq (cc h_check_parenthesis (ag rfl (bj w9 am (λzz zz=>rfl)) ae) (λzz=>rfl) ∅ ∅ ∅) dh vG ∅) ae))) (ag rfl (bc (ag rfl dh (ag rfl dh ae))) ae))) (λzz=>rfl)) ∅ (λzz=>rfl)) (ak (d6 dh) aN))) aN)
theorem YH:aA C dO "k" 7:=eW 7 ∅ ∅ ∅
theorem NS:aA C dO "one" 5:=eW 5 ∅ ∅ ∅
theorem MD:ab C n dO (.Name "one" pos) (a9 5):=bE 5 2 ∅ (by decide) ∅ ∅ ∅
theorem Jw:aA C dO "ways" 8:=bu 8 ∅
theorem QC:ab C n dO (.Name "k" pos) (a9 7):=bE 7 2 ∅ (by decide) ∅ ∅ ∅
abbrev n5:Scope:=jM [(".0",.local),("j",.local),("k",.free),("one",.free),("roots",.free)]
abbrev rH:Cx:=bR dO n5
theorem Mw:aA C rH "j" 16:=bu 16 ∅
theorem k5:ab C n rH (.Name "roots" pos) (a9 0):=bE 0 3 ∅ (by decide) ∅ ∅ ∅
theorem AP:ab C n rH (.Name "j" pos) (a9 16):=b9 16 ∅
theorem AL:ab C n rH (.Name "k" pos) (a9 7):=bE 7 3 ∅ (by decide) ∅ ∅ ∅
theorem sQ:ab C n rH (.Name "one" pos) (a9 5):=bE 5 3 ∅ (by decide) ∅ ∅ ∅
theorem rn:ab C n dO (.Name "ways" pos) (a9 8):=b9 8 ∅
abbrev nc:Scope:=jM [(".0",.local),("j",.local),("k",.free),("one",.free),("roots",.free)]
abbrev ry:Cx:=bR dO nc
theorem Pi:aA C ry "j" 16:=bu 16 ∅
theorem sV:ab C n ry (.Name "one" pos) (a9 5):=bE 5 3 ∅ (by decide) ∅ ∅ ∅
theorem jQ:ab C n ry (.Name "roots" pos) (a9 0):=bE 0 3 ∅ (by decide) ∅ ∅ ∅
theorem Bo:ab C n ry (.Name "k" pos) (a9 7):=bE 7 3 ∅ (by decide) ∅ ∅ ∅
theorem Cf:ab C n ry (.Name "j" pos) (a9 16):=b9 16 ∅
theorem r_:aA C dO "stretches" 10:=bu 10 ∅
abbrev nj:Scope:=jM [(".0",.local),("way",.local)]
abbrev An:Cx:=bR dO nj
theorem Et:aA C An "way" 16:=bu 16 ∅
theorem CG:ab C n An (.Name "way" pos) (a9 16):=b9 16 ∅
abbrev n4:Scope:=jM [(".0",.local),("part",.local),("place",.local)]
abbrev tB:Cx:=bR An n4
theorem yV:aA C tB "part" 17:=bu 17 ∅
theorem zp:ab C n tB (.Name "part" pos) (a9 17):=b9 17 ∅
theorem wT:aA C tB "place" 18:=bu 18 ∅
theorem wx:ab C n tB (.Name "place" pos) (a9 18):=b9 18 ∅
theorem CZ:aA C dO "texts" 11:=bu 11 ∅
theorem ll:ab C n dO (.Name "stretches" pos) (a9 10):=b9 10 ∅
abbrev rI:Scope:=jM [(".0",.local),("stretch",.local),("_law_units",.globalImplicit),("cells",.free),("mates",.free)]
abbrev uf:Cx:=bR dO rI
theorem rX:aA C uf "stretch" 16:=bu 16 ∅
theorem rZ:ab C n uf (.Name "stretch" pos) (a9 16):=b9 16 ∅
theorem vL:ab C n uf (.Name "mates" pos) (a9 1):=bE 1 3 ∅ (by decide) ∅ ∅ ∅
theorem v9:ab C n uf (.Name "cells" pos) (a9 2):=bE 2 3 ∅ (by decide) ∅ ∅ ∅
theorem yP:aA C dO "handed" 12:=bu 12 ∅
theorem kF:ab C n dO (.Name "texts" pos) (a9 11):=b9 11 ∅
theorem FJ:aA C dO "told" 13:=bu 13 ∅
theorem pE:ab C n dO (.Name "handed" pos) (a9 12):=b9 12 ∅
theorem qK:ab C n dO (.Name "told" pos) (a9 13):=b9 13 ∅
abbrev nZ:Scope:=jM [(".0",.local),("text",.local),("stretch",.local),("sorted",.globalImplicit),("mates",.free)]
abbrev qU:Cx:=bR dO nZ
theorem yx:aA C qU "text" 16:=bu 16 ∅
theorem rY:aA C qU "stretch" 17:=bu 17 ∅
theorem li:ab C n qU (.Name "stretch" pos) (a9 17):=b9 17 ∅
abbrev ly:Scope:=jM [(".0",.local),("place",.local),("mates",.free)]
abbrev yk:Cx:=bR qU ly
theorem xm:aA C yk "place" 18:=bu 18 ∅
theorem wI:ab C n yk (.Name "mates" pos) (a9 1):=bE 1 3 ∅ (by decide) ∅ ∅ ∅
theorem xi:ab C n yk (.Name "place" pos) (a9 18):=b9 18 ∅
theorem yE:ab C n qU (.Name "text" pos) (a9 16):=b9 16 ∅
theorem Oh:aA C dO "way" 9:=bu 9 ∅
theorem Fx:aA C dO "text" 14:=bu 14 ∅
theorem IE:aA C dO "kept" 15:=bu 15 ∅
theorem Jx:ab C n dO (.Name "kept" pos) (a9 15):=b9 15 ∅
theorem FC:ab C n dO (.Name "text" pos) (a9 14):=b9 14 ∅
theorem Cj:ab C n dO (.Name "way" pos) (a9 9):=b9 9 ∅
theorem sX:ab C n dO (.Name "mates" pos) (a9 1):=bE 1 2 ∅ (by decide) ∅ ∅ ∅
theorem sv:ab C n dO (.Name "cells" pos) (a9 2):=bE 2 2 ∅ (by decide) ∅ ∅ ∅
def Cm(aO:a_):SF:=(jH (b_ [(a9 0)] f_) (ji 7 5) (ap (jG (bA (aF (a9 5) (kI 0)) (jF ki (kS "*")) dH) (ap (g9 8 n5 (aK false (af [(aj (a9 7) (kI 1) aT)] cH)) (du 16) (cW bg (aY (cX [(aj (ce (a9 0) (aL (a9 16)) (aL (a9 7))) (aU [(aF (a9 5) (kI 2))]) aT),(aj (aj (ce (a9 0) ba (aL (a9 16))) (aU [(aF (a9 5) (kI 3))]) aT) (ce (a9 0) (aL (aj (a9 7) (kI 1) aT)) ba) aT)]))) true) (ap (ci (rT (a9 8) (cb nc (aK false (af [(aj (a9 7) (kI 1) aT),(aj (af [(a9 0)] dD) (kI 1) aT)] cH)) (du 16) (cW bg (aY (cX [(aj (aU [(aF (a9 5) (kI 3))]) (ce (a9 0) (aL (aj (a9 7) (kI 1) aT)) (aL (a9 16))) aT),(aj (aj (ce (a9 0) ba (aL (a9 7))) (aU [(aF (a9 5) (kI 2))]) aT) (ce (a9 0) (aL (a9 16)) ba) aT)])))))) (ap (g9 10 nj (aK false (a9 8)) (du 16) (cW bg (aY (cb n4 (aK false (aF (a9 16) (kI 0))) (du 17) (cW bg (gf (aK false (aF (a9 17) (kI 1))) (du 18) (cW bg (aY (a9 18)))))))) false) (ap (g9 11 rI (aK false (a9 10)) (du 16) (cW bg (aY (dv (kS "") [(af [(a9 16),(a9 1),(a9 2),(kB false)] bB)] fg))) false) (ap (c6 12 (af [(a9 11)] mw)) (ap (c6 13 (af [(a9 12)] aX)) (ap (ci (rT (a9 3) (aU [(cX [(af [(a9 13)] mw),(cb nZ (b_ [(a9 11),(a9 10)] lg) (ji 16 17) (cW bg (aY (dx (bA (af [(cb ly (aK false (a9 17)) (du 18) (cW bg (aY (aF (a9 1) (a9 18)))))] k_) (a9 17) dH) (a9 16) (kS "('', '')")))))]),(cX [(a9 12),(a9 11)])]))) (ap (ci (ef (a9 13) (kS ""))) (ap (jH (b_ [(a9 8),(a9 11),(a9 13)] BQ) (ZB 9 14 15) (ap (jG (bA (a9 15) (a9 14) dH) (ap (fe (rM (af [(aF (a9 9) (kI 0)),(a9 1),(a9 2),(a9 3)] aO) (af [(aF (a9 9) (kI 1)),(a9 1),(a9 2),(a9 3)] aO))) aP) aP) aP) aP) aP))))))))) aP) aP) aP)
theorem JM{aO:a_}(G:cI C)(h2:2≤n)(h_law_units:aI C n "_law_units" bB)(h_check_parenthesis:aI C n "_check_parenthesis" ar)(h_pre_parse_validation:aI C n "_pre_parse_validation" aX)(h_law_proved:aI C n "_law_proved" aO):aQ C n dO (dC (aq (ay 70)) 2) (Cm aO):=(gb h2 (k9 (fv:=.type "enumerate") (G.no _ ∅) ∅ ∅ (bD _) iO (ag rfl fF ae) (λzz=>rfl) (λzz=>rfl) ∅ ∅ ∅) (eS YH NS) (ak (g8 (cj (bj MD am (λzz zz=>rfl)) (KL G bT (λzz zz=>rfl) ∅ ∅) dJ ∅) (ak (gy true (bx ∅ h2 (λzz zz=>rfl) (bN _ _ _ _ _ _) (c5 (cn (fv:=.type "range") (G.no _ ∅) ∅ ∅ (bD _) dM (ag rfl (av QC am br) ae) (λzz=>rfl) (λzz=>rfl) ∅ ∅ ∅)) (bM Mw) cG (bZ (cU (ag rfl (av (dP k5 (cw AP) (cw AL)) (bc (ag rfl (bj sQ am (λzz zz=>rfl)) ae)) br) (ag rfl (av (av (dP k5 dE (cw AP)) (bc (ag rfl (bj sQ am (λzz zz=>rfl)) ae)) br) (dP k5 (cw (av AL am br)) dE) br) ae))))) Jw (f6 ∅ ∅ ∅ ∅)) (ak (cK (kU (λzz=>rfl) rn (cD (bx ∅ h2 (λzz zz=>rfl) (bN _ _ _ _ _ _) (c5 (cn (fv:=.type "range") (G.no _ ∅) ∅ ∅ (bD _) dM (ag rfl (av QC am br) (ag rfl (av (cn (fv:=.builtin "len") (G.no _ ∅) ∅ ∅ (bf _) eR (ag rfl fF ae) (λzz=>rfl) (λzz=>rfl) ∅ ∅ ∅) am br) ae)) (λzz=>rfl) (λzz=>rfl) ∅ ∅ ∅)) (bM Pi) cG (bZ (cU (ag rfl (av (bc (ag rfl (bj sV am (λzz zz=>rfl)) ae)) (dP jQ (cw (av Bo am br)) (cw Cf)) br) (ag rfl (av (av (dP jQ dE (cw Bo)) (bc (ag rfl (bj sV am (λzz zz=>rfl)) ae)) br) (dP jQ (cw Cf) dE) br) ae)))))) (λzz=>rfl)) ∅ (λzz=>rfl)) (ak (gy false (bx ∅ h2 (λzz zz=>rfl) (bN _ _ _ _ _ _) (c5 rn) (bM Et) cG (bZ (cD (bx ∅ h2 (λzz zz=>rfl) (ie _ _ _ _ _ _ _ _ _) (c5 (bj CG am (λzz zz=>rfl))) (bM yV) cG (kv h2 (c5 (bj zp am (λzz zz=>rfl))) (bM wT) cG wx (λzz zz=>rfl)))))) r_ (f6 ∅ ∅ ∅ ∅)) (ak (gy false (bx ∅ h2 (λzz zz=>rfl) (bN _ _ _ _ _ _) (c5 ll) (bM rX) cG (bZ (fQ (λzz=>rfl) I_ Jb hU bT (ag rfl (cc h_law_units (ag rfl rZ (ag rfl vL (ag rfl v9 (ag rfl dh ae)))) (λzz=>rfl) ∅ ∅ ∅) ae) (λzz=>rfl) (λzz=>rfl)))) CZ (f6 ∅ ∅ ∅ ∅)) (ak (bF (cn (fv:=.type "list") (G.no _ ∅) ∅ ∅ (bD _) ua (ag rfl kF ae) (λzz=>rfl) (λzz=>rfl) ∅ ∅ ∅) yP (λzz zz=> ∅)) (ak (bF (cc h_pre_parse_validation (ag rfl pE ae) (λzz=>rfl) ∅ ∅ ∅) FJ (λzz zz=> ∅)) (ak (cK (kU (λzz=>rfl) kA (bc (ag rfl (cU (ag rfl (cn (fv:=.type "list") (G.no _ ∅) ∅ ∅ (bD _) ua (ag rfl qK ae) (λzz=>rfl) (λzz=>rfl) ∅ ∅ ∅) (ag rfl (cD (bx ∅ h2 (λzz zz=>rfl) (bN _ _ _ _ _ _) (k9 (fv:=.type "zip") (G.no _ ∅) ∅ ∅ (bD _) AS (ag rfl kF (ag rfl ll ae)) (λzz=>rfl) (λzz=>rfl) ∅ ∅ ∅) (eS yx rY) cG (bZ (fN (cj (cn (fv:=.builtin "sorted") (G.no _ ∅) ∅ ∅ (bf _) Ew (ag rfl (cD (bx ∅ h2 (λzz zz=>rfl) (bN _ _ _ _ _ _) (c5 li) (bM xm) cG (bZ (bj wI xi (λzz zz=>rfl))))) ae) (λzz=>rfl) (λzz=>rfl) ∅ ∅ ∅) li dJ ∅) yE bT)))) ae))) (ag rfl (cU (ag rfl pE (ag rfl kF ae))) ae))) (λzz=>rfl)) ∅ (λzz=>rfl)) (ak (cK (cv (λzz=>rfl) qK bT (λzz=>rfl)) ∅ (λzz=>rfl)) (ak (gb h2 (k9 (fv:=.type "zip") (G.no _ ∅) ∅ ∅ (bD _) Mk (ag rfl rn (ag rfl kF (ag rfl qK ae))) (λzz=>rfl) (λzz=>rfl) ∅ ∅ ∅) (HV Oh Fx IE) (ak (g8 (cj Jx FC dJ ∅) (ak (d6 (zM (cc h_law_proved (ag rfl (bj Cj am (λzz zz=>rfl)) (ag rfl sX (ag rfl sv (ag rfl kA ae)))) (λzz=>rfl) ∅ ∅ ∅) (cc h_law_proved (ag rfl (bj Cj am (λzz zz=>rfl)) (ag rfl sX (ag rfl sv (ag rfl kA ae)))) (λzz=>rfl) ∅ ∅ ∅))) aN) aN) aN) aN (λzz zz=>rfl)) aN))))))))) aN) aN) aN (λzz zz=>rfl))
def Iq(aO:a_):SF:=(fe (kB false))
theorem Kv{aO:a_}(G:cI C)(h2:2≤n)(h_law_units:aI C n "_law_units" bB)(h_check_parenthesis:aI C n "_check_parenthesis" ar)(h_pre_parse_validation:aI C n "_pre_parse_validation" aX)(h_law_proved:aI C n "_law_proved" aO):aQ C n dO (dC (aq (ay 70)) 3) (Iq aO):=(d6 dh)
def f70(aO:a_):SF:=(ap (AI aO) (ap (sr aO) (ap (Cm aO) (ap (Iq aO) aP))))
theorem b70{aO:a_}(G:cI C)(h2:2≤n)(h_law_units:aI C n "_law_units" bB)(h_check_parenthesis:aI C n "_check_parenthesis" ar)(h_pre_parse_validation:aI C n "_pre_parse_validation" aX)(h_law_proved:aI C n "_law_proved" aO):cB C n dO (aq (ay 70)) (f70 aO):=(ak (Gf G h2) (ak (Io G h2 h_law_units h_check_parenthesis) (ak (JM G h2 h_law_units h_check_parenthesis h_pre_parse_validation h_law_proved) (ak (Kv G h2 h_law_units h_check_parenthesis h_pre_parse_validation h_law_proved) aN))))
theorem c70{aO:a_}(G:cI C)(h2:2≤n)(h_law_units:aI C n "_law_units" bB)(h_check_parenthesis:aI C n "_check_parenthesis" ar)(h_pre_parse_validation:aI C n "_pre_parse_validation" aX)(h_law_proved:aI C n "_law_proved" aO)(h:di C "_law_proved" 70):aI C (n+1) "_law_proved" (cy 4 (ao (ay 70)) (f70 aO)):=
 gP ["roots","mates","cells","asked"] h (b70 G h2 h_law_units h_check_parenthesis h_pre_parse_validation h_law_proved) (λzz zz zz=>Rr λzz zz zz zz=> ∅) ∅ ∅ ∅ ∅ ∅
noncomputable def Ih:Nat→a_
 |0=> λzz zz=>none
 |m+1=>cy 4 (ao (ay 70)) (f70 (Ih m))
theorem d70(G:cI C)(h2:2≤n)(h_law_units:aI C n "_law_units" bB)(h_check_parenthesis:aI C n "_check_parenthesis" ar)(h_pre_parse_validation:aI C n "_pre_parse_validation" aX)(h:di C "_law_proved" 70):∀m,aI C (n+m) "_law_proved" (Ih m)
 |0=>uP h
 |m+1=>c70 G (KQ h2 (Fi ..)) (h_law_units.mono (Fi ..)) (h_check_parenthesis.mono (Fi ..)) (h_pre_parse_validation.mono (Fi ..)) (d70 G h2 h_law_units h_check_parenthesis h_pre_parse_validation h m) h
noncomputable def aO:a_:=Ih 12
end
noncomputable def pQ(μ:List ah)(i:Nat):Option (List ah):=bo (μ[i]?.bind Qv) λxs=>oe (uncons xs) (some ()) (λp zz=>oe (dI p.1) (uncons p.2) (λzz zz=>none) (bo (dI p.1) λb=>if Dd b 64≠0∧(H1 (Dd b 63):Int)+6≤2^27 then some (μ.set i (.iter [])) else none)) (some (μ.set i (.iter [])))
theorem N3(h:pQ μ i=some μ')(k1:μ[i]? =some (.iter [])→μ'=μ.set i (.iter [])→G)
  (k2:∀b,μ[i]? =some (.iter [.int b])→Dd b 64≠0∧(H1 (Dd b 63):Int)+6≤2^27→μ'=μ.set i (.iter [])→G):G:=by
 refine ax h λxs e h=>?_;cases xs with
 |nil=>exact k1 (u_ e) (Ff h).symm
 |cons d t=>
  have h:oe (dI d) (uncons t) (λzz zz=>none) (bo (dI d) λb=>if Dd b 64≠0∧(H1 (Dd b 63):Int)+6≤2^27 then some (μ.set i (.iter [])) else none)=some μ':=h;cases hd:dI d with
  |none=>rw [hd] at h;exact ct h
  |some b=>
   rw [hd] at h
   cases t with
   |nil=>exact i6 h λhc h=>k2 b (by rw [TL hd] at e;exact u_ e) hc (Ff h).symm
   |cons _ _=>exact ct h
noncomputable def cO:a_:= λVs μ=>bo (l1 Vs) λV=>bo (EX V) λi=>(aS [.c i] μ).elim (bo (pQ μ i) λμ'=>some (.d (.list []),μ')) (λp=>bo (v7 p.1) λx=>some (.d (.list [x]),p.2))
end Mine
namespace Mine
open PySem PySem.W PySem.Calls PyProof.Rows
open Sem (wp)
variable {V V' : AV} {Cn D L TI TO a fa i1 i2 i3 z : Addr} {A : Around} {items zs : Array Value} {sh tup : Bool} {cf : CF} {c c' : ah} {C : gK} {cx : Cx} {f fi fo g : EF} {cenv env : Env} {mean : ExcName → Option Value} {e e1 e2 elt iter target test : Expr} {fl : Fl} {h h' : Heap} {itf : IF} {y : Int} {Vs : List AV} {M M' O T T' W wr α α' α1 α₀ : List Addr} {Mid : List Addr → List Addr → List Addr → List ah → Nat → Value → Shared → Prop} {St : List Addr → xH} {μ μ' μ'' μ1 μ2 μ3 μ₀ : List ah} {fs : List EF} {es : List Expr} {K cs ns os rest : List Int} {gi ls m ps : List Nat} {X acc acc' ds xs ys : List PyData} {body orelse : List Stmt} {vs : List Value} {ρ ρ' ρ1 ρ2 : d0} {tf : d0 → PyData → Option d0} {b i j ja jt k kk low mask n p q tk : Nat} {o : Obj} {op : Operator} {ha ke td te tx : Option AV} {hi lo : Option Expr} {gg : Option Nat} {apos pos px py sp tp xp : Pos} {prog : Program} {G : Prop} {d : PyData} {sc scope : Scope} {s s' s'' s1 s₀ : Shared} {spec : a_} {st : Stmt} {name x : Str} {t : TF} {u : Tok} {cd cls doc fv it pm v : Value} {E Q : Value → Shared → Prop} {w : World}
section
variable {M:Model} {R:GenEnd} {Y:Protocol} {c:Code} {fs:List Frame}
 {K:Flow→Sem Fin} {H:Value→Sem Fin} {gd:Bool→Bool} {lv:List Value→List Value}
theorem pM(h:wpAny M (A.over c fs) (exec st env) (λf s'=>Seg M A R Y n s₀ c (K f) fs s') (λx s'=>Seg M A R Y n s₀ c (H x) fs s') s):
 Seg M A R Y n s₀ c ((exec st env).wrap K H gd lv) fs s:=RT h
theorem Uq
  (h:wpAny M (A.over c fs) (isTrue test env (eval test env)) (λb s'=>if b=true then Seg M A R Y n s₀ c ((execs body env).wrap K H gd lv) fs s' else Seg M A R Y n s₀ c ((execs orelse env).wrap K H gd lv) fs s') (λx s'=>Seg M A R Y n s₀ c (H x) fs s') s):
  Seg M A R Y n s₀ c ((exec (.If test body orelse pos) env).wrap K H gd lv) fs s:=by
 rw [exec_If];refine seg_at ?_
 show Seg M A R Y n s₀ c (UJ K H gd lv (isTrue test env (eval test env)>>= λb=>if b=true then execs body env else execs orelse env)) fs s
 rw [Lq,MH];refine RT (D3 h (λb s' hb=>?_) λzz zz x=>x);cases b with
 |true=>simpa using hb
 |false=>simpa using hb
theorem MG(hs:∀x,foldedSetIterable iter env x=pure x)
  (h:wpAny M (A.over c fs) (eval iter env) (λx s1=>wpAny M (A.over c fs) (pyIter x) (λit s2=>∀p,Seg M A R Y n s₀ (.forLoop target it body orelse env) (M.den (.forLoop target it body orelse env))
   (.ret (λr=>((match r with| .ok f=>(.pure f:Sem Flow)| .error e=>.raise e).onRaise λ(x:Value)=>do
    if (←field x 1)==L7 then unsupported "frame.own-activation:exception-without-traceback"
    setFlight x env.frame).wrap K H gd lv) none (gd false) (lv []) c p []::fs) s2) (λx s'=>Seg M A R Y n s₀ c (H x) fs s') s1) (λx s'=>Seg M A R Y n s₀ c (H x) fs s') s):
  Seg M A R Y n s₀ c ((exec (.For target iter body orelse pos) env).wrap K H gd lv) fs s:=by
 rw [exec_For];refine seg_at ?_
 show Seg M A R Y n s₀ c (UJ K H gd lv (eval iter env>>= λx=>foldedSetIterable iter env x>>= λx=>standAt iter.pos>>= λzz=>holding [x] (pyIter x)>>= λit=>runOwn (.forLoop target it body orelse env) env)) fs s
 rw [Lq,MH];refine RT (D3 h (λx s1 h1=>?_) λzz zz x=>x);rw [hs]
 show Seg M A R Y n s₀ c (.at iter.pos λzz=>UJ K H gd lv (holding [x] (pyIter x)>>= λit=>runOwn (.forLoop target it body orelse env) env)) fs s1
 refine seg_at ?_;rw [Lq,MH];refine RT (KZ (D3 h1 (λit s2 h2=>?_) λzz zz x=>x));exact seg_call h2
end
section
variable {R:GenEnd} {Y:Protocol} {fs:List Frame}
theorem oF
  (h:wpAny (model prog w) (A.over (.forLoop target it body orelse env) fs) (pyNext it) (λr s1=>match r with
   |none=>Seg (model prog w) A R Y n s₀ (.block orelse env) ((model prog w).den (.block orelse env)) fs s1
   |some v=>wpAny (model prog w) (A.over (.forLoop target it body orelse env) fs) (letOwnedTupleGo target it v) (λzz s2=>wpAny (model prog w) (A.over (.forLoop target it body orelse env) fs) (assign target env v) (λzz s3=>
     Seg (model prog w) A R Y n s₀ (.forLoop target it body orelse env) ((execs body env).wrap (λf=>match f with
      | .next| .cont=>.pure (.again (.forLoop target it body orelse env))
      | .brk=>.pure (.done .next)
      | .ret v=>.pure (.done (.ret v))) (λe=>(do noteFrame e env;theTreesLotGoes e:Sem Unit).wrap (λzz=>.raise e) .raise id id) id id) fs s3) (λzz zz=>False) s2) (λzz zz=>False) s1) (λzz zz=>False) s):
  Seg (model prog w) A R Y n s₀ (.forLoop target it body orelse env) ((model prog w).den (.forLoop target it body orelse env)) fs s:=by
 refine (?_:Seg _ A R Y n s₀ _ ((forTurn target it body orelse env).onRaise (λx=>do noteFrame x env;theTreesLotGoes x)) fs s);unfold forTurn;rw [Sem.onRaise_eq_wrap];refine seg_at ?_;refine (?_:Seg _ A R Y n s₀ _ (UJ .pure _ id id (((pyNext it).onRaise _)>>=_)) fs s);rw [Lq,MH];refine RT (SP (D3 h (λr s1 h1=>?_) λzz zz x=>x.elim));cases r with
 |none=>exact Uc rfl h1
 |some v=>
  dsimp only at h1⊢
  rw [Lq,MH];refine RT (D3 h1 (λzz s2 h2=>?_) λzz zz x=>x.elim);rw [Lq,MH];refine RT (D3 h2 (λzz s3 h3=>?_) λzz zz x=>x.elim);rw [Lq,MH];rw [Sem.wrap_congr (execs body env) _ _ (K':= λf=>match f with
      | .next| .cont=>.pure (.again (.forLoop target it body orelse env))
      | .brk=>.pure (.done .next)
      | .ret v=>.pure (.done (.ret v))) (H':=(λe=>(do noteFrame e env;theTreesLotGoes e:Sem Unit).wrap (λzz=>.raise e) .raise id id))
    (λf=>by cases f<;>rfl)
    (λe=>by first|exact TQ _ _| (show (do noteFrame e env;theTreesLotGoes e:Sem Unit).bind (λzz=>.raise e)=_;rw [TQ]))]
  exact h3
end
noncomputable def A0:Around:=⟨none,591,none,none,9099⟩
theorem ZS{Γ:Ctx}(R:cP A 2)(h:Γ.In A):Γ.In A0:=by
 refine ij h λh1 h2 h3 h4 h5=>?_;have d:=R.depth;have u:=R.units;unfold cLine at u
 refine (ue (by rw [h1,R.handled];rfl) ?_ (λl e=>by exact ct e) (λg e=>by exact ct e) ?_)
 ·show _≤591;lia
 ·show _≤9099;lia
theorem xo{M:Model}{α:Type}{m:Sem α}{Q:α→Shared→Prop}(R:cP A 2)(h:wpAny M A0 m Q E s):wpAny M A m Q E s:=
 λΓ p hΓ=>h Γ p (ZS R hΓ)
section
theorem oz{g:Nat}{gs:GenState}{P:Nat→Shared→Shared→Prop}{Y:Protocol}{Q:Option Value→Shared→Prop}(hh:A.handled=none)
  (hl:s.heap.NoLimit) (hroom:A.depth<recursionLimit)
  (hg:s.heap.IsGen a g) (hgs:s.gens[g]? =some gs)
  (hgo:gs.Goes (model prog w) A.in1 (λn s₀ r s₁=>r=.ok (.ret .none)∧P n s₀ s₁) Y n (.send .none) (s.setGen g .running))
  (hY:∀v s₁ gs',gs'.bare=true→Y (n-1) (s.setGen g .running) v s₁ (λr' s''=>match n with
    |0=>False
    |m+1=>gs'.Goes (model prog w) A.in1 (λn s₀ r s₁=>r=.ok (.ret .none)∧P n s₀ s₁) Y m r' s'')→Q (some v) (s₁.setGen g gs'))
  (hP:∀s₁,P n (s.setGen g .running) s₁→∀h',(∀b o,s₁.heap.get? b=some o→h'.get? b=some o)→Q none {s₁.setGen g .finished with heap:=h'}):
  wpAny (model prog w) A (pyNext (.ref a)) Q E s:=by
 unfold pyNext;refine yK (SQ (Ii (name:=Jg "__next__") hg.typeIs slot_gen_next
  (L4 slot_gen_next hg.typeIs entry_gen_next ?_ (args_gen_next _))))
 refine (?_:wpAny _ A.in1 (Qc (.ref a) (.send .none)) _ _ s);unfold Qc;refine yK (KZ (wpAny_genNumber hg (yK (wpAny_genState hgs ?_))));cases gs with
 |running=>exact hgo.elim
 |finished=>exact hgo.elim
 |_=>
  refine yK (wpAny_roomToWake hl hroom ?_);refine (?_:wpAny _ A.in1 (.resume g (.send .none) [] _) _ _ s);refine wpAny_resumeQ hgs hgo (λx s₁ hx=>?_) (λv s₁ gs' hb hv=>?_)
  ·refine fY hx λzq0 hp=>?_
   refine bH (ES zq0) ?_;refine (?_:wpAny _ A.in1 (newExc (.type "StopIteration") []>>=_) _ _ _);refine yK ?_;simp only [newExc,newTuple];refine yK (HA ?_ (by size_fits));refine yK (m:=firstArgMember _ _) (M8 (a:=L7) (by first|rfl| (simp only [firstArgMember];rfl)) ?_);refine HA ?_ (by size_fits);refine yK (NN hh ?_);refine yK (Rd (T:="StopIteration") (b:=true) (aZ _ (Dp _ rfl) rfl) Sh ?_);exact Ez (hP s₁ hp _ λb o hb=>Bt _ (Bt _ hb))
  ·exact Ez (aZ v rfl (Ez (hY v s₁ gs' hb hv)))
theorem Uy{g:Nat}{t:Expr}{Q:Unit→Shared→Prop}(hg:s.heap.IsGen a g)(h:Q () s):wpAny (model prog w) A (letOwnedTupleGo t (.ref a) v) Q E s:=by
 have key:∀t:Expr,letOwnedTupleGo t (.ref a) v=letOwnedTupleGo (.List [] ⟨0,0,0,0⟩) (.ref a) v∨letOwnedTupleGo t (.ref a) v=pure ():= λt=>by cases t<;>first|exact .inr rfl|exact .inl rfl
 refine (key t).elim (λe=>?_) λe=>?_
 ·rw [e]
  cases v with
  |ref b=>
   refine dj hg λo nm qn ho hc hd hsl=>?_;refine (?_:wpAny _ A (load a>>=_) _ _ s);refine yK (wpAny_load ho ?_);rw [hc,hd];refine (?_:wpAny _ A (if (["enumerate","zip","dict_itemiterator","dict_reverseitemiterator","odict_iterator","itertools.zip_longest","itertools.pairwise"].contains "generator"&&_)=true then _ else _) _ _ s);rw [if_neg (by simp)];exact Ez h
  |_=>exact Ez h
 ·rw [e];exact Ez h
end
section
variable {M:Model} {R:GenEnd} {Y:Protocol} {fs:List Frame}
theorem rN{k:Result→Sem Fin}{h:Option Value}{g:Bool}{l:List Value}{c₁:Code}{p₁:Pos}{kp:List Value}
  (hk:Seg (model prog w) A R Y n s₀ c₁ (k (.ok .next)) fs s):Seg (model prog w) A R Y n s₀ (.block [] env) ((model prog w).den (.block [] env)) (.ret k h g l c₁ p₁ kp::fs) s:=by
 have:(model prog w).den (.block [] env)=leafOf (.ok .next):=rfl
 rw [this];exact seg_leaf (.ok .next) hk
end
theorem bl.movesG(I:bl C T α μ s)(x:aG wr gi s s')(hw:∀b∈wr,b∈T∨s.heap.get? b=none)(hT:∀a∈T',a∈T∨s.heap.get? a=none)(hd:∀a∈T',∃o,s'.heap.get? a=some o):bl C T' α μ s':=by
 have nw:∀b,b∈T∨s.heap.get? b=none→C.B.get? b=none:= λb hb=>hb.elim (I.tnew b) I.fresh;have nα:∀b,b∈T∨s.heap.get? b=none→b∉α:= λb hb q=>hb.elim (λz=>I.apart b z q) (I.cdom q);have k:iH wr (T++ai α μ) s.heap:= λa ha=>(hw a ha).elim (λz=>.inr (.inr (yg _ z))) .inl;exact ⟨λb o e=>x.ext b o (I.keep b o e) λq=>ct ((nw b (hw b q)).symm.trans e),I.len,λi a c h1 h2=>(I.cells i a c h1 h2).ext x.ext k (Ct hT) (λzz q=>nα a (hw a q) (FM h1)),I.nodup,λa ha=>nα a (hT a ha),hd,λa ha=>nw a (hT a ha),I.new,x.bare I.gens,x.os.trans I.os⟩
theorem bl.base(I:bl C T α μ s)(hT:∀a∈T',a∈T):bl C T' [] [] s:=
 ⟨I.keep,rfl,λi a c h1 zz=>ct h1,MQ,λa zz h=>(nomatch h),λa ha=>I.tdom a (hT a ha),λa ha=>I.tnew a (hT a ha),λa h=>(nomatch h),I.gens,I.os⟩
theorem wR{gens:Array GenState}{g:Nat}{x:GenState}(h:AllBare gens)(hx:x.bare=true):AllBare (gens.setIfInBounds g x):= λy hy=>by
 obtain ⟨i,hi,rfl⟩:=Array.mem_iff_getElem.mp hy;have hi':i<gens.size:=by simpa using hi
 rw [Array.getElem_setIfInBounds hi']
 split
 ·exact hx
 ·exact h _ (Array.getElem_mem hi')
theorem bl.setGen{g:Nat}{x:GenState}(I:bl C T α μ s)(hx:x.bare=true):bl C T α μ (s.setGen g x):=
 ⟨I.keep,I.len,I.cells,I.nodup,I.apart,I.tdom,I.tnew,I.new,wR I.gens hx,I.os⟩
theorem aG.setGen{g:Nat}{x:GenState}(hx:x.bare=true):aG [] [g] s (s.setGen g x):=
 ⟨λzz zz zz e=>e,λi y hi e=>by
  refine (?_:(s.gens.setIfInBounds g x)[i]? =some y);rw [M5 (λq=>hi (by simp [q]))];exact e,rfl,λh=>wR h hx⟩
theorem aG.mono{wr':List Addr}{gi':List Nat}(x:aG wr gi s s')(h:∀a∈wr,a∈wr'∨s.heap.get? a=none)(hg:∀a∈gi,a∈gi'):aG wr' gi' s s':=
 ⟨λb o hb e=>x.heap b o (λq=>(h b q).elim hb λz=>by rw [z] at e;exact ct e) e,λi y hi e=>x.gens i y (λq=>hi (hg i q)) e,x.os,x.bare⟩
theorem aG.of_step(S:aV O [] [] s [] [] s')(I:bl C T [] [] s)(I':bl C T' [] [] s'):aG O [] s s':=
 ⟨λb o hb e=>S.ext b o e λq=>hb (by simpa [ai] using q),λi x zz e=>S.gens i x e,I'.os.trans I.os.symm,λzz=>I'.gens⟩
abbrev rO:Cx:=df (ao (ay 1))
theorem kE:rO.names=([("addr",1),("pos",1),("escape",1),("ch",1)]:List (Str×Nat)):= ∅
structure zH (env:Env) (L:Addr):Prop where
 lo:env.locals=L
 sc:env.scope=rO.scope
 gl:env.globals=mainGlobals
 bn:env.builtins=builtinsNs
def QN(x:Str)(i:Nat)(v:Value):Prop:=∃c u,x.cps[i]? =some c∧v=UX ⟨#[c]⟩ u
noncomputable def ms(x:Str)(p:Int)(esc:Bool)(c:Option AV):d0:=[some (.d (.str x)),some (.d (.int p)),some (.d (.bool esc)),c]
theorem XS{m:Str→Option Value}(G:zH env L)(hn:h.Ns L m)(hb:C.B.get? L=none)(hL:L∉T)(hl:ρ.length=4)
  (hv:∀ (i:Nat) x V,rO.names[i]? =some (x,1)→ρ[i]? =some (some V)→∃v,m x=some v∧bm h [] (T++ai [] []) v V):bh C rO env [L] ρ h [] (T++ai [] []):=by
 have hk1:∀ (i:Nat) x k,rO.names[i]? =some (x,k)→k=1:= λi x k e=>by
  rw [kE] at e
  have:=FM e
  simp only [C1,SX,E4,or_false] at this
  rcases this with ⟨_,q⟩| ⟨_,q⟩| ⟨_,q⟩| ⟨_,q⟩<;>exact q
 refine ⟨G.sc,G.gl,G.bn,by rw [hl,kE];rfl,(aZ m (by rw [G.lo];exact hn) hv),⟨λzz=>0,λi x k e h2=>?_,λi x k e h2=>?_,λi x e=>?_,λi j x y k l e1 e2 h1 h2 q=>?_⟩,λa ha=>?_,by rw [G.lo];simp,λa ha q=>?_,λi j x e1 e2=>?_⟩
 ·have:=hk1 i x k e;lia
 ·have:=hk1 i x k e;lia
 ·have:=hk1 i x 2 e;lia
 ·have:=hk1 i x k e1;lia
 ·obtain rfl:a=L:=by simpa using ha
  exact ⟨fT hn,hb⟩
 ·have ha':a∈T:=by simpa [ai] using ha
  rcases q with (q| ⟨i,x,k,e,h2,_⟩)|q
  ·rw [G.lo] at q;exact hL (q▸ha')
  ·have:=hk1 i x k e;lia
  ·obtain rfl:a=L:=by simpa using q
   exact hL ha'
 ·exact qY (scope:=ao (ay 1)) (of_decide_eq_true ∅) e1 e2
noncomputable def gq:Option AV→Prop
 |some (.d (.str _))=>True
 |some (.d (.int _))=>True
 |some (.d (.bool _))=>True
 |none=>True
 |_=>False
theorem VS{i:Int}:∀d∈([.int i,.str x]:List PyData),gq (some (.d d)):= λd h=>by
 rcases C1.mp h with h|h
 ·rw [h];trivial
 ·rw [Ab.mp h];trivial
theorem qh(h:gq (some V)){h1 h2:Heap}{α2 M1 M2:List Addr}(r:bm h1 α1 M1 v V):bm h2 α2 M2 v V:=by
 match V,h,r with
 | .d (.str _),_,r=>refine bP (aJ.of_str r) λt zq1=>?_;refine bH (ES zq1) ?_;exact aJ.str ..
 | .d (.int _),_,r=>refine bP (aJ.of_int r) λt zq1=>?_;refine bH (ES zq1) ?_;exact aJ.int ..
 | .d (.bool _),_,r=>obtain rfl:=aJ.of_bool r;exact aJ.bool ..
theorem tG{m:Str→Option Value}(hn:h.Ns L m)(hs:∀o,h.get? L=some o→h'.get? L=some o):h'.Ns L m:=by
 refine fy hn λob es ep e d=>?_;exact (lG ob es ep (hs _ e) d)
theorem bh.same(G:zH env L)(F:bh C rO env [L] ρ h [] (T++ai [] []))(hs:∀o,h.get? L=some o→h'.get? L=some o)(hsm:∀V∈ρ,gq V):bh C rO env [L] ρ h' [] (T++ai [] []):=by
 refine au F.loc λm hm hq=>?_;rw [G.lo] at hm
 refine XS G (tG hm hs) (F.own L (by simp)).2 (λq=>F.off L (yg _ q) (.inr (by simp))) (by rw [F.len,kE];rfl) λi x V e1 e2=>?_;refine au (hq i x V e1 e2) λv e r=>?_;exact (aZ v e (qh (hsm _ (FM e2)) r))
section
open PySem.Builtin PySem.Builtin.Str in
theorem ma{it:Addr}{t:Tok}(hh:A.handled=none)
  (hit:s.heap.IsStrIter it "str_ascii_iterator" x t i) (hx:x.cps[i]? =none)
  (hE:∀h' e,P2 it s.heap h'→(∃o,h'.get? it=some o)→(∃o,h'.get? e=some o∧o.cls=.type "StopIteration")→E (.ref e) {s with heap:=h'}):
  wpAny (model prog w) A (KT (.ref it)) Q E s:=by
 refine cm (id hit) λo ho hc hd=>?_;unfold KT;refine yK (Ii (name:=Jg "__next__") hit.typeIs Pc
  (L4 Pc hit.typeIs F.entry_str_ascii_iterator_next ?_ (F.args_str_ascii_iterator_next_1 _)))
 refine (?_:wpAny _ _ (field (.ref it) 0>>=_) _ _ s);refine yK (KP ho hd (x:=.str x t) rfl ?_);refine (?_:wpAny _ _ (field (.ref it) 1>>=_) _ _ s);refine yK (KP ho hd (x:=.int i 0) rfl ?_);simp only [Fd,hx];refine yK (Ob (yK (P5 ho hd (by simp) (yK (Sv ?_)))));refine (?_:wpAny _ _ (newExc (.type "StopIteration") []>>=_) _ _ _);refine yK ?_;simp only [newExc,newTuple];refine yK (HA ?_ (by size_fits));refine yK (m:=firstArgMember _ _) (M8 (a:=L7) (by first|rfl| (simp only [firstArgMember];rfl)) ?_);refine HA ?_ (by size_fits);refine NN hh ?_;exact hE _ _ (((KW ..).extBut.push _).push _) ⟨_,Bt _ (Bt _ (Fj _ ho (LO (L0 hd _))))⟩ (aZ _ (Dp _ rfl) rfl)
open PySem.Builtin PySem.Builtin.Str in
theorem mR{it:Addr}{t:Tok}(hh:A.handled=none)
  (hit:s.heap.IsStrIter it "str_iterator" x t i) (hx:x.cps[i]? =none)
  (hE:∀h' e,P2 it s.heap h'→(∃o,h'.get? it=some o)→(∃o,h'.get? e=some o∧o.cls=.type "StopIteration")→E (.ref e) {s with heap:=h'}):
  wpAny (model prog w) A (KT (.ref it)) Q E s:=by
 refine cm (id hit) λo ho hc hd=>?_;unfold KT;refine yK (Ii (name:=Jg "__next__") hit.typeIs QI
  (L4 QI hit.typeIs F.entry_str_iterator_next ?_ (F.args_str_iterator_next_1 _)))
 refine (?_:wpAny _ _ (field (.ref it) 0>>=_) _ _ s);refine yK (KP ho hd (x:=.str x t) rfl ?_);refine (?_:wpAny _ _ (field (.ref it) 1>>=_) _ _ s);refine yK (KP ho hd (x:=.int i 0) rfl ?_);simp only [Fd,hx];refine yK (Ob (yK (P5 ho hd (by simp) (yK (Sv ?_)))));refine (?_:wpAny _ _ (newExc (.type "StopIteration") []>>=_) _ _ _);refine yK ?_;simp only [newExc,newTuple];refine yK (HA ?_ (by size_fits));refine yK (m:=firstArgMember _ _) (M8 (a:=L7) (by first|rfl| (simp only [firstArgMember];rfl)) ?_);refine HA ?_ (by size_fits);refine NN hh ?_;exact hE _ _ (((KW ..).extBut.push _).push _) ⟨_,Bt _ (Bt _ (Fj _ ho (LO (L0 hd _))))⟩ (aZ _ (Dp _ rfl) rfl)
def Au(prog:Program)(w:World)(it:Addr)(n:Nat)(St:Nat→Heap→Prop):Prop:=∀ (A:Around) (s:Shared) (Q:Value→Shared→Prop) (E:Value→Shared→Prop),A.handled=none→St n s.heap→
 (∀h' e,P2 it s.heap h'→(∃o,h'.get? it=some o)→(∃o,h'.get? e=some o∧o.cls=.type "StopIteration")→E (.ref e) {s with heap:=h'})→wpAny (model prog w) A (KT (.ref it)) Q E s
theorem nF{e it:Addr}{St:Nat→Heap→Prop}{i:Int}{old:Value}{Q:Option Value→Shared→Prop}
  (D:Au prog w it n St) (hh:A.handled=none) (he:IsEnum s.heap e it i old) (hst:St n s.heap)
  (hQ:∀h',P2 it s.heap h'→(∃o,h'.get? it=some o)→Q none {s with heap:=h'}):wpAny (model prog w) A (pyNext (.ref e)) Q E s:=by
 have hT:s.TypeIs (.ref e) "enumerate":=(aZ _ he rfl);unfold pyNext;refine yK (SQ (Ii (name:=Jg "__next__") hT RC
  (L4 RC hT F.entry_enumerate_next ?_ (F.args_enumerate_next_1 _))))
 refine (?_:wpAny _ _ (field (.ref e) 2>>=_) _ _ _);refine yK (KP he rfl (x:=.ref it) rfl ?_);refine yK (D _ _ _ _ hh hst λh' x he' hl hx'=>?_);refine au hx' λo ho hc=>?_;refine yK (Rd (T:="StopIteration") (b:=true) (aZ o ho hc) Sh ?_);exact Ez (hQ _ he' hl)
end
structure tF (C:gK) (env:Env) (L e it:Addr) (x:Str) (St:Nat→Heap→Prop) (al:Bool) (k:Nat) (ρ:d0) (s:Shared):Prop where
 inv:bl C [e,it] [] [] s
 fr:bh C rO env [L] ρ s.heap [] ([e,it]++ai [] [])
 en:al=true→∃old,IsEnum s.heap e it k old
 st:al=true→St k s.heap
structure RB (C:gK) (env:Env) (L e it:Addr) (x:Str) (St:Nat→Heap→Prop):Prop where
 ge:zH env L
 dr:∀A':Around,A'.handled=none→Draws C.prog C.w A' it [it] x.cps.size (QN x) St
 dn:Au C.prog C.w it x.cps.size St
 ei:e≠it
 Le:L≠e
 Li:L≠it
theorem fB{k:Result→Sem Fin}{g:Bool}{l:List Value}{p:Pos}{kp:List Value}{t:Expr}{fb:List Stmt}{env':Env}:
  cP (A0.in1.over (.forLoop t v body orelse env) [.ret k none g l (.func fb env') p kp]) 1:=by
 refine ⟨?_,?_,?_⟩
 ·refine (?_:A0.in1.depth+_+_+4*1<600)
  exact of_decide_eq_true rfl
 ·refine (?_:A0.in1.units+_+_+200*1+400<cLine)
  exact of_decide_eq_true rfl
 ·rfl
theorem qf{fb:List Stmt}{env':Env}:cP (A0.in1.over (.func fb env') []) 1:=by
 refine ⟨?_,?_,?_⟩
 ·refine (?_:A0.in1.depth+_+_+4*1<600)
  exact of_decide_eq_true rfl
 ·refine (?_:A0.in1.units+_+_+200*1+400<cLine)
  exact of_decide_eq_true rfl
 ·rfl
end Mine
namespace Mine
open PySem PySem.W PySem.Calls PyProof.Rows PySem.SeqAt
open Sem (wp)
variable {V V' : AV} {Cn D L TI TO a fa i1 i2 i3 z : Addr} {A : Around} {items zs : Array Value} {sh tup : Bool} {cf : CF} {c c' : ah} {C : gK} {cx : Cx} {f fi fo g : EF} {cenv env : Env} {mean : ExcName → Option Value} {e e1 e2 elt iter target test : Expr} {fl : Fl} {h h' : Heap} {itf : IF} {y : Int} {Vs : List AV} {M M' O T T' W wr α α' α1 α₀ : List Addr} {Mid : List Addr → List Addr → List Addr → List ah → Nat → Value → Shared → Prop} {St : List Addr → xH} {μ μ' μ'' μ1 μ2 μ3 μ₀ : List ah} {fs : List EF} {es : List Expr} {K cs ns os rest : List Int} {gi ls m ps : List Nat} {X acc acc' ds xs ys : List PyData} {body orelse : List Stmt} {vs : List Value} {ρ ρ' ρ1 ρ2 : d0} {tf : d0 → PyData → Option d0} {b i j ja jt k kk low mask n p q tk : Nat} {o : Obj} {op : Operator} {ha ke td te tx : Option AV} {hi lo : Option Expr} {gg : Option Nat} {apos pos px py sp tp xp : Pos} {prog : Program} {G : Prop} {d : PyData} {sc scope : Scope} {s s' s'' s1 s₀ : Shared} {spec : a_} {st : Stmt} {name x : Str} {t : TF} {u : Tok} {cd cls doc fv it pm v : Value} {E Q : Value → Shared → Prop} {w : World}
noncomputable def RG(L e it:Addr):GenEnd:= λn s₀ r s₁=>r=.ok (.ret .none)∧(n=0∧aG [L,e,it] [] s₀ s₁)
def Y8(s₀ s:Shared)(v:Value)(d:PyData):Prop:=∃a items ds,v=.ref a∧d=.tuple ds∧s.heap.IsTuple a items∧(∀h M,aw h M items.toList ds)∧s₀.heap.get? a=none
noncomputable def YG(C:gK)(L e it:Addr)(out:List PyData):Protocol:= λm s₀ v s kap=>(∃d,out[out.length-1-m]? =some d∧Y8 s₀ s v d∧∀a,v=.ref a→a∉[L,e,it])∧aG [L,e,it] [] s₀ s∧bl C [e,it] [] [] s∧(∃o,s.heap.get? L=some o)∧
 ∀s'',(∀b∈[L,e,it],∀o,s.heap.get? b=some o→s''.heap.get? b=some o)→bl C [e,it] [] [] s''→kap (.send .none) s''
section
variable {e it:Addr} {St:Nat→Heap→Prop} {al:Bool} {out:List PyData} {c:Code} {fs:List Frame}
 {K:Flow→Sem Fin} {H:Value→Sem Fin} {gd:Bool→Bool} {lv:List Value→List Value}
theorem tF.step(G:RB C env L e it x St)(I:tF C env L e it x St al k ρ s)(S:aV [L] [] [] s [] [] s')(I':bl C [e,it] [] [] s')(F':bh C rO env [L] ρ' s'.heap [] ([e,it]++ai [] [])):tF C env L e it x St al k ρ' s':=by
 refine ⟨I',F',λha=>?_,λha=>(G.dr A0 rfl).frame _ _ _ (I.st ha) λb hb o y=>S.ext _ _ y λq=>?_⟩
 ·refine bP (I.en ha) λold he=>?_
  exact ⟨old,S.ext _ _ he λq=>G.Le.symm (by simpa [ai] using q)⟩
 ·obtain rfl:b=it:=by simpa using hb
  exact G.Li.symm (by simpa [ai] using q)
theorem aG.up1(x:aG [L] [] s s'):aG [L,e,it] [] s s':=x.mono (λzz ha=>.inl (Ab.mp ha▸FK ..)) λzz h=>h
theorem lB(I:bl C T α [] s):α=[]:=by
 have:=I.len
 exact OF.mp (by simpa using this)
theorem tF.same(G:RB C env L e it x St)(I:tF C env L e it x St al k ρ s)(hs:∀b∈[L,e,it],∀o,s.heap.get? b=some o→s'.heap.get? b=some o)(I':bl C [e,it] [] [] s')(hρ:∀V∈ρ,gq V):tF C env L e it x St al k ρ s':=by
 refine ⟨I',bh.same G.ge I.fr (hs L (by simp)) hρ,λha=>?_,λha=>(G.dr A0 rfl).frame _ _ _ (I.st ha) λb hb o y=>hs b (D2 _ (D2 _ hb)) o y⟩;refine bP (I.en ha) λold he=>?_;exact ⟨old,hs e (by simp) _ he⟩
theorem IR(R:cP (A0.in1.over c fs) 1)(G:RB C env L e it x St)(I:tF C env L e it x St al k ρ s)(mv:aG [L,e,it] [] s₀ s){f:SF}(h:aQ C 1 rO st f)(q:f ρ []=some (.next,ρ',[]))
  (next:∀s',tF C env L e it x St al k ρ' s'→aG [L,e,it] [] s₀ s'→Seg (model C.prog C.w) A0.in1 (RG L e it) (YG C L e it out) n s₀ c (K .next) fs s'):
  Seg (model C.prog C.w) A0.in1 (RG L e it) (YG C L e it out) n s₀ c ((exec st env).wrap K H gd lv) fs s:=by
 refine pM (D3 (h.run _ env [L] [e,it] ρ [] [] s _ _ _ _ R I.inv I.fr q) (λfw s' p=>?_) λzz zz x=>x);refine eB p λα' I' S' F' zq4=>?_;subst zq4;obtain rfl:=lB I';exact next s' (I.step G S' I' F') (mv.trans (aG.of_step S' I.inv I').up1)
theorem t_(R:cP (A0.in1.over c fs) 1)(G:RB C env L e it x St)(I:tF C env L e it x St al k ρ s)(mv:aG [L,e,it] [] s₀ s){t:d0→List ah→Option (Bool×List ah)}{b:Bool}(h:gN C 1 rO test t)(q:t ρ []=some (b,[]))
  (next:∀s',tF C env L e it x St al k ρ s'→aG [L,e,it] [] s₀ s'→if b=true then Seg (model C.prog C.w) A0.in1 (RG L e it) (YG C L e it out) n s₀ c ((execs body env).wrap K H gd lv) fs s' else Seg (model C.prog C.w) A0.in1 (RG L e it) (YG C L e it out) n s₀ c ((execs orelse env).wrap K H gd lv) fs s'):
  Seg (model C.prog C.w) A0.in1 (RG L e it) (YG C L e it out) n s₀ c ((exec (.If test body orelse pos) env).wrap K H gd lv) fs s:=by
 refine Uq (D3 (h.run _ env [L] [e,it] ρ [] [] s _ _ _ R I.inv I.fr q) (λfw s' p=>?_) λzz zz x=>x);refine ic p λzq0 α' I' S'=>?_;subst zq0;obtain rfl:=lB I';have S2:aV [L] [] [] s [] [] s':=S'.up;exact next s' (I.step G S2 I' (I.fr.step I.inv S')) (mv.trans (aG.of_step S2 I.inv I').up1)
theorem oL:∀ {vs:List Value} {ds:List PyData} {h1 h2:Heap} {M1 M2:List Addr},(∀d∈ds,gq (some (.d d)))→aw h1 M1 vs ds→aw h2 M2 vs ds
 | [],[],_,_,_,_,_,_=>aw.nil _ _
 | [],_::_,_,_,_,_,_,r=>by have:=r.length;simp at this
 |_::_,[],_,_,_,_,_,r=>by have:=r.length;simp at this
 |v::vs,d::ds,h1,h2,M1,M2,hd,r=>by
  refine fY r.uncons λa b=>?_;exact .ccons (qh (V:=.d d) (α1:=[]) (α2:=[]) (hd d (by simp)) a) (oL (λd hd'=>hd d (by simp [hd'])) b)
theorem v6(R:cP (A0.in1.over c fs) 1)(G:RB C env L e it x St)(I:tF C env L e it x St al k ρ s)(mv:aG [L,e,it] [] s₀ s){yp:Pos}{gs:List EF}
  (h:de C 1 rO es gs) (q:eY gs ρ []=some (Vs,[])) (q2:lJ Vs []=some (ds,[])) (hsz:ds.length≤sizeLine) (hds:∀d∈ds,gq (some (.d d))) (hρ:∀V∈ρ,gq V) (hout:out[out.length-1-n]? =some (.tuple ds))
  (hfs:splitAtGen fs=none) (hgd:gd false=false) (hfg:fs.any Frame.guarded=false)
  (next:∀s',tF C env L e it x St al k ρ s'→Seg (model C.prog C.w) A0.in1 (RG L e it) (YG C L e it out) n s' c (K .next) fs s'):
  Seg (model C.prog C.w) A0.in1 (RG L e it) (YG C L e it out) (n+1) s₀ c ((exec (.Expr (.Yield (some (.Tuple es kk tp)) yp) pos) env).wrap K H gd lv) fs s:=by
 refine seg_Expr_Yield hfs hgd hfg ?_ (by rw [G.ge.sc];kernel_rfl) (by unfold interactive;rw [G.ge.sc];kernel_rfl);refine Tuple_ (D3 (h.run _ env [L] [e,it] ρ [] [] s _ Vs [] tp R I.inv I.fr q) (λvs s1 p=>?_) λzz zz x=>x);refine cm p λα1 I1 S1 r1=>?_;obtain rfl:=lB I1;refine dU (jl I1 r1 q2) λI2 S2 r2=>?_;refine HA ?_ (by show vs.toArray.size≤sizeLine;rw [O_,r2.length];exact hsz);intro kap hk;have S12:aV [L] [] [] s [] [] s1:=S1.up;have I3:=I2.keeps (tk:=s1.toks) (bb s1.heap {cls:=.type "tuple",data:=.seq vs.toArray});have S3:aV [L] [] [] s1 [] [] {s1 with heap:=s1.heap.push {cls:=.type "tuple",data:=.seq vs.toArray},toks:=s1.toks}:=(aV.keeps (bb s1.heap _)).up;have S4:=S12.trans S3;have GI1:tF C env L e it x St al k ρ s1:=I.step G S12 I1 (I.fr.step I.inv S1);have GI:tF C env L e it x St al k ρ {s1 with heap:=s1.heap.push {cls:=.type "tuple",data:=.seq vs.toArray},toks:=s1.toks}:=GI1.step G S3 I3 (GI1.fr.step I1 (aV.keeps (bb s1.heap _)));have hnew:s1.heap.objs.size∉[L,e,it]:= λhb=>by
  have hdom:∀b∈[L,e,it],∃o,s1.heap.get? b=some o:= λb hb=>by
   simp only [C1,E4,or_false] at hb
   rcases hb with rfl|rfl|rfl
   ·refine au ((GI1.fr.own b (by simp)).1) λo ho zz=>?_
    exact ⟨o,ho⟩
   ·exact GI1.inv.tdom b (by simp)
   ·exact GI1.inv.tdom b (by simp)
  refine bP (hdom _ hb) λo ho=>?_;rw [bw (DW _)] at ho;exact ct ho
 refine (ue (⟨_,hout,⟨s1.heap.objs.size,vs.toArray,ds,rfl,rfl,⟨_,Dp _ rfl,rfl,_,rfl⟩,λh M=>oL hds (by simpa using r2),?_⟩,λa ha=>by cases ha;exact hnew⟩) (mv.trans (aG.of_step S4 I.inv I3).up1) I3 ((let ⟨o,ho,_⟩:=(GI.fr.own L (by simp)).1;⟨o,ho⟩)) (λs'' hs I''=>?_))
 ·have h1:s.heap.get? s1.heap.objs.size=none:=dW S1.dom (bw (DW _))
  cases q:s₀.heap.get? s1.heap.objs.size with
  |none=>rfl
  |some o=>
   have:=mv.heap _ o hnew q
   rw [h1] at this;exact ct this
 ·refine hk .none s'' ?_
  exact next s'' (GI.same G hs I'' hρ)
end
noncomputable def KN:Stmt→Expr
 | .For t _ _ _ _=>t
 |_=>.Constant .none 0 ⟨0,0,0,0⟩
noncomputable def ZN:Stmt→List Stmt
 | .For _ _ b _ _=>b
 |_=>[]
noncomputable abbrev Fo:Stmt:=dC (aq (ay 1)) 2
section
theorem GO:ab C n rO (.Name "pos" pos) (a9 1):=qT 1 ∅ ∅ ∅ ∅
theorem Ss:ab C n rO (.Name "escape" pos) (a9 2):=qT 2 ∅ ∅ ∅ ∅
theorem Oe:ab C n rO (.Name "ch" pos) (a9 3):=qT 3 ∅ ∅ ∅ ∅
theorem Uh:aA C rO "pos" 1:=ti 1 ∅ ∅ ∅
theorem Fn:aA C rO "escape" 2:=ti 2 ∅ ∅ ∅
theorem ab0:aA C rO "ch" 3:=ti 3 ∅ ∅ ∅
theorem ZV:nM C rO (KN Fo) true (ji 1 3):=eS Uh ab0
end
theorem gD{p:Int}{b:Bool}{c:Option AV}(h:gq c):∀V∈ms x p b c,gq V:= λV hV=>by
 simp only [ms,C1,E4,or_false] at hV
 rcases hV with rfl|rfl|rfl|rfl
 ·trivial
 ·trivial
 ·trivial
 ·exact h
theorem Y9(c:Nat)(μ:List ah):aT (.d (.str "\\")) (.d (.str ⟨#[c]⟩)) μ=some (.d (.str ⟨#[92,c]⟩),μ):=by
 refine (?_:(if ("\\":Str).length+(⟨#[c]⟩:Str).length≤sizeLine then some (AV.d (.str (("\\":Str)++⟨#[c]⟩)),μ) else none)=_);refine rA (if_pos (show ("\\":Str).length+(⟨#[c]⟩:Str).length≤sizeLine by show ("\\":Str).length+1≤sizeLine;decide+kernel)) ?_;rfl
theorem ap2{k:Int}{b:Bool}(c:Nat):eY [a9 1,aj (kS "\\") (a9 3) aT] (ms x k b (some (.d (.str ⟨#[c]⟩)))) []=some ([.d (.int k),.d (.str ⟨#[92,c]⟩)],[]):=by
 have hb:aj (kS "\\") (a9 3) aT (ms x k b (some (.d (.str ⟨#[c]⟩)))) []=some (.d (.str ⟨#[92,c]⟩),[]):=Y9 c [];have ha:a9 1 (ms x k b (some (.d (.str ⟨#[c]⟩)))) []=some (.d (.int k),[]):=rfl;simp only [eY,ha,hb,bpS]
theorem aj3{k:Int}{b:Bool}{c:Nat}(h:¬c=92):bA (a9 3) (kS "\\") dH (ms x k b (some (.d (.str ⟨#[c]⟩)))) []=some (false,[]):=by
 refine (?_:some ((⟨#[c]⟩:Str)==("\\":Str),([]:List ah))=_)
 have:((⟨#[c]⟩:Str)==("\\":Str))=false:=by
  rw [beq_eq_false_iff_ne];intro q
  have:(⟨#[c]⟩:Str)=⟨#[92]⟩:=q
  injection this with this
  have:=congrArg Array.toList this
  simp at this
  exact h this
 rw [this]
theorem zc{out r:List PyData}(h:out.drop (out.length-(d::r).length)=d::r):out[out.length-1-r.length]? =some d∧out.drop (out.length-r.length)=r:=by
 have hl:(out.drop (out.length-(d::r).length)).length=(d::r).length:=by rw [h]
 rw [Rg,Bb] at hl
 have hlen:r.length+1≤out.length:=by lia
 have e:out.length-1-r.length=out.length-(d::r).length:=by rw [Bb];lia
 constructor
 ·rw [e,←Ui,h];rfl
 ·have:out.length-r.length=1+(out.length-(d::r).length):=by rw [Bb];lia
  rw [Nat.add_comm] at this
  rw [this,←Uw,h];rfl
section
variable {e it:Addr} {St:Nat→Heap→Prop} {out:List PyData} {kf:Result→Sem Fin} {g:Bool} {l:List Value} {kp:List Value}
theorem Eb{p:Pos}(hg:g=false)(G:RB C env L e it x St)
  (tail:∀k pp esc och s₀ s,tF C env L e it x St false k (ms x pp esc och) s→gq och→pp=(k:Int)-1∨esc=false→aG [L,e,it] [] s₀ s→out.drop (out.length-(er [] k esc).length)=er [] k esc→
   Seg (model C.prog C.w) A0.in1 (RG L e it) (YG C L e it out) (er [] k esc).length s₀ (.func (aq (ay 1)) env) (kf (.ok .next)) [] s):
  ∀ (r:List Nat) (k:Nat) (pp:Int) (esc:Bool) (och:Option AV) (s₀ s:Shared),x.cps.toList.drop k=r→k≤x.cps.size→tF C env L e it x St true k (ms x pp esc och) s→gq och→pp=(k:Int)-1∨esc=false→aG [L,e,it] [] s₀ s→
   out.drop (out.length-(er r k esc).length)=er r k esc→
   Seg (model C.prog C.w) A0.in1 (RG L e it) (YG C L e it out) (er r k esc).length s₀ (.forLoop (KN Fo) (.ref e) (ZN Fo) [] env) ((model C.prog C.w).den (.forLoop (KN Fo) (.ref e) (ZN Fo) [] env)) [.ret kf none g l (.func (aq (ay 1)) env) p kp] s:=by
 subst hg;intro r
 induction r with
 |nil=>
  intro k pp esc och s₀ s hx hk I ho hp mv hout;have hkz:k=x.cps.size:=by
   have:=congrArg NM hx
   simp at this;lia
  refine oF ?_;refine bP (I.en rfl) λold he=>?_;refine nF G.dn rfl he (hkz▸I.st rfl) λh' hx' hlv=>rN ?_;have mv':aG [it] [] s {s with heap:=h'}:=aG.of_heap (tk:=s.toks) λb o hb z=>hx' b o (λq=>hb (by simp [q])) z;have mv2:aG [L,e,it] [] s₀ {s with heap:=h'}:=mv.trans (mv'.mono (λa ha=>.inl (by simp at ha;simp [ha])) λzz h=>h);have I':bl C [e,it] [] [] {s with heap:=h'}:=I.inv.moves mv' (λb hb=>by simp at hb;simp [hb]) λb hb=>?_
  ·have F':=bh.same G.ge I.fr (h':=h') (λo z=>hx' L o G.Li z) (gD ho)
   exact tail k pp esc och s₀ _ ⟨I',F',λq=>(by cases q),λq=>(by cases q)⟩ ho hp mv2 hout
  ·simp only [C1,E4,or_false] at hb
   obtain rfl:=hb;exact hlv
 |cons c r ih=>
  intro k pp esc och s₀ s hx hk I ho hp mv hout;have hc:x.cps[k]? =some c:=by
   have:=congrArg List.head? hx
   rw [Ui] at this
   simpa using this
  have hlt:k<x.cps.size:=(LC.mp hc).1;have hx2:x.cps.toList.drop (k+1)=r:=by
   rw [←Uw,hx];rfl
  refine oF ?_;refine bP (I.en rfl) λold he=>?_;refine wpAny_pyNext_enum_itemD (G.dr _ rfl) he (I.st rfl) hlt G.ei (by simpa using G.ei) λv h' tk hP ho' hs' hT hsz hkp=>?_;refine jV hP λc' u hc' zq3=>?_;subst zq3;rw [hc] at hc';cases hc'
  refine PQ ho' λh2 he2 hsb=>?_;have mv':aG [e,it] [] s {s with heap:=h2,toks:=tk+1}:=aG.of_heap λb o hb z=>by
   simp only [C1,E4,or_false,not_or] at hb
   exact (hsb.2 b hb.1).trans (hkp b o hb.1 hb.2 z)
  have st2:St (k+1) h2:=(G.dr A0 rfl).frame _ _ _ hs' λb hb o y=>by
   obtain rfl:b=it:=by simpa using hb
   exact (hsb.2 b G.ei.symm).trans y
  have I2:bl C [e,it] [] [] {s with heap:=h2,toks:=tk+1}:=I.inv.moves mv' (λb hb=>hb) λb hb=>by
   simp only [C1,E4,or_false] at hb
   rcases hb with rfl|rfl
   ·exact ⟨_,he2⟩
   ·exact (G.dr A0 rfl).live _ _ st2
  have F2:=bh.same G.ge I.fr (h':=h2) (λo z=>mv'.heap L o (by simp [G.Le,G.Li]) z) (gD ho);have G2:tF C env L e it x St true (k+1) (ms x pp esc och) {s with heap:=h2,toks:=tk+1}:=⟨I2,F2,λzz=>⟨_,by simpa using he2⟩,λzz=>st2⟩;have hae:s.heap.objs.size≠e:= λq=>by rw [←q] at he;rw [show IsEnum s.heap s.heap.objs.size it (k:Int) old=(s.heap.get? s.heap.objs.size=some _) from rfl,bw (DW _)] at he;cases he
  refine D3 (ZV.2 _ env [L] [e,it] (ms x pp esc och) [] [] _ _ (.ref s.heap.objs.size) (.tuple [.int k,.str ⟨#[c]⟩]) (ms x k esc (some (.d (.str ⟨#[c]⟩)))) rfl I2 F2
   (dy _ (#[.int k tk,.str ⟨#[c]⟩ u]) _ rfl rfl ⟨_,(hsb.2 _ hae).trans hT,rfl,_,rfl⟩ (.ccons (aJ.int ..) (.ccons (aJ.str ..) (aw.nil _ _)))) rfl) (λzz s3 st=>?_) λzz zz x=>x
  refine dU st λI3 S3 F3=>?_;have G3:=G2.step G S3 I3 F3;have mv3:aG [L,e,it] [] s₀ s3:=(mv.trans (mv'.mono (λa ha=>.inl (D2 _ ha)) λzz h=>h)).trans (aG.of_step S3 I2 I3).up1;have ho3:gq (some (.d (.str ⟨#[c]⟩))):=trivial;have hk1:(k:Int)=((k+1:Nat):Int)-1:=by push_cast;lia
  refine KU (t_ fB G G3 mv3 (iC (λzz zz=>rfl) Ss) rfl λs4 G4 mv4=>?_);cases esc with
  |true=>
   rw [if_pos rfl];have ho:=zc (show out.drop (out.length-(Im [.int k,.str ⟨#[92,c]⟩]::er r (k+1) false).length)=_ from hout);refine KU (v6 (n:=(er r (k+1) false).length) fB G G4 mv4 (dz (λzz=> ∅) GO (dz (λzz=> ∅) (av bT Oe br) ae)) (Vs:=[.d (.int k),.d (.str ⟨#[92,c]⟩)]) (ap2 c) rfl (by show 2≤sizeLine;decide) VS (gD ho3) ho.1 rfl rfl rfl λs5 G5=>?_);refine KU (IR fB G G5 (aG.refl _ _ _) (bF dh Fn (λzz zz=> ∅)) rfl λs6 G6 mv6=>?_);exact Uc rfl (ih (k+1) k false _ _ _ hx2 hlt G6 ho3 (.inl hk1) mv6 ho.2)
  |false=>
   rw [if_neg (by decide)]
   by_cases h92:c=92
   ·have hout':out.drop (out.length-(er r (k+1) true).length)=er r (k+1) true:=by simpa [yS,h92] using hout
    have hlen:(er (c::r) k false).length=(er r (k+1) true).length:=by simp [yS,h92]
    rw [hlen];refine KU (t_ fB G G4 mv4 (b:=true) (cj Oe bT dJ ∅) (by subst h92;rfl) λs5 G5 mv5=>?_);rw [if_pos rfl];refine KU (IR fB G G5 mv5 (bF dh Fn (λzz zz=> ∅)) rfl λs6 G6 mv6=>?_);exact Uc rfl (ih (k+1) k true _ _ _ hx2 hlt G6 ho3 (.inl hk1) mv6 hout')
   ·have hesc:er (c::r) k false=.tuple [.int k,.str ⟨#[c]⟩]::er r (k+1) false:=by simp [yS,h92]
    rw [hesc] at hout⊢
    have ho:=zc hout;refine KU (t_ fB G G4 mv4 (b:=false) (cj Oe bT dJ ∅) (aj3 h92) λs5 G5 mv5=>?_);rw [if_neg (by decide)];refine KU (v6 (n:=(er r (k+1) false).length) fB G G5 mv5 (dz (λzz=> ∅) GO (dz (λzz=> ∅) Oe ae)) (Vs:=[.d (.int k),.d (.str ⟨#[c]⟩)]) rfl rfl (by show 2≤sizeLine;decide) VS (gD ho3) ho.1 rfl rfl rfl λs6 G6=>?_);exact Uc rfl (ih (k+1) k false _ _ _ hx2 hlt G6 ho3 (.inl hk1) (aG.refl _ _ _) ho.2)
end
theorem It{it:Addr}{t:Tok}(hit:h'.IsStrIter it (strIterType x) x t 0):∃St:Nat→Heap→Prop,(∀A':Around,A'.handled=none→Draws C.prog C.w A' it [it] x.cps.size (QN x) St)∧Au C.prog C.w it x.cps.size St∧St 0 h':=by
 cases ha:x.cps.all (· <128)
 ·have hit':h'.IsStrIter it "str_iterator" x t 0:=by simpa [strIterType,ha] using hit
  exact (cJ (λi h=>h.IsStrIter it "str_iterator" x t i) (λA' hA=>Draws.strWide hA it x t) (λA s Q E hh hst hE=>mR hh hst (by simp) hE) hit')
 ·have hit':h'.IsStrIter it "str_ascii_iterator" x t 0:=by simpa [strIterType,ha] using hit
  exact (cJ (λi h=>h.IsStrIter it "str_ascii_iterator" x t i) (λA' hA=>Draws.strAscii hA it x t) (λA s Q E hh hst hE=>ma hh hst (by simp) hE) hit')
theorem NH{i:Int}(h:Q (.int i s.toks) {s with toks:=s.toks+1}):wpAny (model prog w) A (eval (.Constant (.int i) k pos) env) Q E s:= λzz zz zz=>h
section
variable {e it:Addr} {St:Nat→Heap→Prop} {out:List PyData}
theorem Em{K:Flow→Sem Fin}{H:Value→Sem Fin}{gd:Bool→Bool}{lv:List Value→List Value}(hgd:gd false=false)(hK:K .next=leafOf (.ok (.ret .none)))(G:RB C env L e it x St){pp:Int}{esc:Bool}{och:Option AV}(I:tF C env L e it x St false k (ms x pp esc och) s)(ho:gq och)(hp:pp=(k:Int)-1∨esc=false)(mv:aG [L,e,it] [] s₀ s)
  (hout:out.drop (out.length-(er [] k esc).length)=er [] k esc):
  Seg (model C.prog C.w) A0.in1 (RG L e it) (YG C L e it out) (er [] k esc).length s₀ (.func (aq (ay 1)) env) ((execs [dC (aq (ay 1)) 3] env).wrap K H gd lv) [] s:=by
 refine KU (t_ qf G I mv (iC (λzz zz=>rfl) Ss) rfl λs4 G4 mv4=>?_);cases esc with
 |true=>
  rw [if_pos rfl];obtain rfl:pp=(k:Int)-1:=by simpa using hp
  have ho2:=zc (show out.drop (out.length-(Im [.int ((k:Int)-1),.str ⟨#[92]⟩]::[]).length)=_ from hout);refine KU (v6 (n:=0) qf G G4 mv4 (dz (λzz=> ∅) GO (dz (λzz=> ∅) bT ae)) (Vs:=[.d (.int ((k:Int)-1)),.d (.str "\\")]) rfl rfl (by show 2≤sizeLine;decide) VS (gD ho) ho2.1 rfl hgd rfl λs5 G5=>?_);refine (?_:Seg _ _ _ _ _ _ _ (K .next) _ _);rw [hK];exact seg_end _ (fm rfl rfl (aG.refl _ _ _))
 |false=>
  rw [if_neg (by decide)];refine (?_:Seg _ _ _ _ _ _ _ (K .next) _ _);rw [hK];exact seg_end _ (fm rfl rfl mv4)
theorem z8(hg:C.mg "enumerate"=none)(G:zH env L)(hLb:C.B.get? L=none){t:Tok}{m:Str→Option Value}(I:bl C [] [] [] s)(hn:s.heap.Ns L m)(hm:m "addr"=some (.str x t)):
  ∃e it,s.heap.get? e=none∧s.heap.get? it=none∧e≠it∧L≠e∧L≠it∧
   Seg (model C.prog C.w) A0.in1 (RG L e it) (YG C L e it (er x.cps.toList 0 false)) (er x.cps.toList 0 false).length s (.func (aq (ay 1)) env) ((model C.prog C.w).den (.func (aq (ay 1)) env)) [] s:=by
 have hLs:L<s.heap.objs.size:=hn.lt;refine (D4 (s.heap.objs.size+1) s.heap.objs.size (bw (P1 _)) (bw (DW _)) (Nr _) (LK (P3 hLs)) (LK hLs) ?_);have hkk:(env.scope.kind== .class||(env.scope.kind== .module&&env.locals != env.globals))=false:=by rw [G.sc];kernel_rfl
 have kl:∀y,rO.scope.names.lookup y=some .local→env.kindOf y=some .local:= λy h=>by unfold IC;rw [G.sc];exact h
 have hn0:s.heap.Ns env.locals m:=by rw [G.lo];exact hn
 refine seg_func (KU (pM (M4 (NH ?_) ∅)));refine P9 (m:=m) (kl _ ∅) hn0 (λh1 hn1 hs1=>?_) hkk;refine KU (pM (M4 (Ez ?_) ∅));refine P9 (kl _ ∅) hn1 (λh2 hn2 hs2=>?_) hkk;refine KU (MG (λzz=>rfl) ?_);have hsz2:h2.objs.size=s.heap.objs.size:=hs2.1.trans hs1.1;have hk2:∀b o,b≠L→s.heap.get? b=some o→h2.get? b=some o:= λb o hb z=>(hs2.2 b (by rw [G.lo];exact hb)).trans ((hs1.2 b (by rw [G.lo];exact hb)).trans z);have hg2:h2.Ns mainGlobals C.mg:=by
  refine (C.g.keeps I.keep).at' λo z=>hk2 _ _ (λq=>?_) z;refine fy C.g λob zz zz z' zz=>?_;rw [←q,z'] at hLb;exact ct (ES hLb)
 have hb2:h2.Ns builtinsNs C.mb:=by
  refine (C.b.keeps I.keep).at' λo z=>hk2 _ _ (λq=>?_) z;refine fy C.b λob zz zz z' zz=>?_;rw [←q,z'] at hLb;exact ct (ES hLb)
 refine yK (m:=eval (.Name "enumerate" _) env) (F6 (by rw [G.sc];kernel_rfl) (by unfold IC;rw [G.sc];kernel_rfl) (Lg (by rw [G.gl];exact hg2) hg (by rw [G.bn];exact hb2) ((C.bt _ (by decide+kernel)).trans (∅ :bootBuiltins "enumerate"=some (.type "enumerate"))) ?_) ∅);refine bD "enumerate" _ _ _ _ _ _ _ _ ∅ ?_
 refine Sd (Rw ?_);refine UA (Pl (by rw [G.sc];kernel_rfl) (kl _ ∅) hn2 (v:=.str x t) (by rw [if_neg (by decide+kernel),if_neg (by decide+kernel)];exact hm) ?_) ∅
 refine So ?_;refine call_enumerate_str λh3 he3 hit3 hsz3 hk3=>?_;replace he3:IsEnum h3 (h2.objs.size+1) h2.objs.size 0 .none:=he3;replace hit3:h3.IsStrIter h2.objs.size (strIterType x) x t 0:=hit3;rw [hsz2] at he3 hit3
 refine (?_:wpAny _ _ (pyIter (.ref (h2.objs.size+1))) _ _ _);rw [hsz2];refine Qz he3 λp=>?_;refine cm (It (C:=C) hit3) λSt hD hdn hst=>?_;have hLn:h3.Ns L _:=tG (by rw [←G.lo];exact hn2) λo z=>hk3 _ _ z;have hk03:∀b o,b≠L→s.heap.get? b=some o→h3.get? b=some o:= λb o hb z=>hk3 b o (hk2 b o hb z);have GC:RB C env L (s.heap.objs.size+1) s.heap.objs.size x St:=⟨G,hD,hdn,Nr _,LK (P3 hLs),LK hLs⟩;have hLg:s.heap.get? L≠none:= λq=>by
  refine fy hn λob zz zz z zz=>?_;rw [q] at z;exact ct z
 have mv:aG [L] [] s {s with heap:=h3,toks:=s.toks+1+1+1}:=aG.of_heap λb o hb z=>hk03 b o (λq=>hb (by simp [q])) z;have I3:bl C [s.heap.objs.size+1,s.heap.objs.size] [] [] {s with heap:=h3,toks:=s.toks+1+1+1}:=by
  have I0:bl C [L] [] [] s:=⟨I.keep,rfl,λi a c h1 zz=>by simp at h1,MQ,λa zz h=>by simp at h,λa ha=>by
   obtain rfl:a=L:=by simpa using ha
   exact Option.ne_none_iff_exists'.mp hLg,λa ha=>by
   obtain rfl:a=L:=by simpa using ha
   exact hLb,λa h=>by simp at h,I.gens,I.os⟩
  refine I0.movesG mv (λb hb=>.inl hb) (λa ha=>.inr ?_) λa ha=>?_
  ·simp only [C1,E4,or_false] at ha
   rcases ha with rfl|rfl
   ·exact bw (P1 _)
   ·exact bw (DW _)
  ·simp only [C1,E4,or_false] at ha
   rcases ha with rfl|rfl
   ·exact ⟨_,he3⟩
   ·refine au hit3 λo z zz=>?_;exact ⟨o,z⟩
 have F3:bh C rO env [L] (ms x 0 false none) h3 [] ([s.heap.objs.size+1,s.heap.objs.size]++ai [] []):=by
  refine XS G hLn hLb (by simp [GC.Le,GC.Li]) rfl λi y V e1 e2=>?_;rw [kE] at e1
  match i,e1,e2 with
  |0,e1,e2=>cases e1;cases e2;exact (aZ _ (by rw [if_neg (by decide+kernel),if_neg (by decide+kernel)];exact hm) (aJ.str ..))
  |1,e1,e2=>cases e1;cases e2;exact (aZ _ (by rw [if_neg (by decide+kernel),if_pos rfl]) (aJ.int ..))
  |2,e1,e2=>cases e1;cases e2;exact (aZ _ (by rw [if_pos rfl]) (aJ.bool ..))
  |3,e1,e2=>cases e2
 have GI:tF C env L (s.heap.objs.size+1) s.heap.objs.size x St true 0 (ms x 0 false none) {s with heap:=h3,toks:=s.toks+1+1+1}:=⟨I3,F3,λzz=>⟨_,he3⟩,λzz=>hst⟩;exact Eb (out:=er x.cps.toList 0 false) rfl GC (λk pp esc och s₀ s I ho hp mv hout=>Em rfl rfl GC I ho hp mv hout) x.cps.toList 0 0 false none _ _ rfl (Lw _) GI trivial (.inr rfl) mv.up1 (by simp)
end
noncomputable abbrev oO(x:Str):List PyData:=er x.cps.toList 0 false
def GSt(C:gK)(a L:Addr)(g:Nat)(env:Env)(x:Str)(wr:List Addr)(i:Nat)(s:Shared):Prop:=
 (i=0∧wr=[a,L]∧s.gens[g]? =some (.fresh (.func (aq (ay 1)) env))∧∃m t,s.heap.Ns L m∧m "addr"=some (.str x t))∨
 (0<i∧∃e it gs,wr=[a,L,e,it]∧a∉[L,e,it]∧s.gens[g]? =some gs∧∀s'',(∀b∈[L,e,it],∀o,s.heap.get? b=some o→s''.heap.get? b=some o)→bl C [e,it] [] [] s''→
  gs.Goes (model C.prog C.w) A0.in1 (RG L e it) (YG C L e it (oO x)) ((oO x).length-i) (.send .none) s'')
noncomputable def Qm(C:gK)(a L:Addr)(g:Nat)(env:Env)(x:Str):List Addr→xH:= λwr zz zz zz i s=>s.heap.IsGen a g∧GSt C a L g env x wr i s
noncomputable def V7(C:gK)(a L:Addr)(g:Nat)(env:Env)(x:Str):List Addr→List Addr→List Addr→List ah→Nat→Value→Shared→Prop:= λwr T α μ i v s=>(s.heap.IsGen a g∧GSt C a L g env x wr (i+1) s)∧∀a',v=.ref a'→a'∉T++ai α μ
section
variable {g:Nat}
theorem aG.running{s₁:Shared}{gs':GenState}{g:Nat}(mv:aG W [] (s.setGen g .running) s₁)(hb:gs'.bare=true):aG W [g] s (s₁.setGen g gs'):=
 ((aG.setGen (g:=g) (x:=.running) rfl).mono (λzz h=>by simp at h) λzz h=>h).trans ((mv.mono (λzz h=>.inl h) λzz h=>by simp at h).trans ((aG.setGen hb).mono (λzz h=>by simp at h) λzz h=>h))
theorem vg(hg:C.mg "enumerate"=none)(G:zH env L)(hLb:C.B.get? L=none)(haL:a≠L)(I:bl C (wr++T) α μ s)(st:s.heap.IsGen a g∧GSt C a L g env x wr i s):
  ∃e it gs,s.gens[g]? =some gs∧a∉[L,e,it]∧(∀b∈[a,L,e,it],b∈wr∨s.heap.get? b=none)∧(∀b∈wr,b∈[a,L,e,it])∧gs.Goes (model C.prog C.w) A0.in1 (RG L e it) (YG C L e it (oO x)) ((oO x).length-i) (.send .none) (s.setGen g .running):=by
 obtain ⟨ho,h|h⟩:=st
 ·refine HN h λzq0 zq1 hgs m t hn hm=>?_
  subst zq0;subst zq1;refine CV (z8 hg G hLb (s:=s.setGen g .running) ((I.base (T':=[]) (λzz h=>by simp at h)).setGen rfl) hn hm) λe it he hi hei hLe hLi sg=>?_;have hae:a≠e:= λq=>by refine fy ho λo zz zz z zz=>?_;rw [q] at z;rw [show s.heap.get? e=none from he] at z;exact ct z
  have hai:a≠it:= λq=>by refine fy ho λo zz zz z zz=>?_;rw [q] at z;rw [show s.heap.get? it=none from hi] at z;exact ct z
  refine ⟨e,it,_,hgs,by simp [haL,hae,hai],λb hb=>?_,λb hb=>?_,rfl,sg⟩
  ·simp only [C1,E4,or_false] at hb
   rcases hb with rfl|rfl|rfl|rfl
   ·exact .inl (by simp)
   ·exact .inl (by simp)
   ·exact .inr he
   ·exact .inr hi
  ·simp only [C1,E4,or_false] at hb
   rcases hb with rfl|rfl<;>simp
 ·refine D6 h λhi0 e it gs zq4 han hgs hk=>?_
  subst zq4;exact (i0 e it gs hgs han (λb hb=>.inl hb) (λb hb=>hb) (hk _ (λzz zz zz z=>z) ((I.base (T':=[e,it]) (λb hb=>yg _ (D2 _ (D2 _ hb)))).setGen rfl)))
theorem gY.gen(hg:C.mg "enumerate"=none)(G:zH env L)(hLb:C.B.get? L=none)(haL:a≠L):gY C (.ref a) [g] (oO x) none true (Qm C a L g env x) (V7 C a L g env x) where
 frame:=by
  intro wr O T T' α α' μ μ' i s s' st S hO hwr hT hwT I I' hgd;refine fY st λho h=>?_;have hkeep:∀b∈wr,∀o,s.heap.get? b=some o→s'.heap.get? b=some o:= λb hb o z=>S.ext b o z λq=>(AZ.mp q).elim (λq=>hwr b q hb) λq=>I.apart b (hwT b hb) (db q);have haw:a∈wr:=by
   rcases h with ⟨_,rfl,_⟩| ⟨_,e,it,gs,rfl,_⟩<;>simp
  refine ⟨let ⟨o,nm,qn,z,r⟩:=ho;⟨o,nm,qn,hkeep a haw o z,r⟩,?_⟩
  rcases h with ⟨rfl,rfl,hgs,m,t,hn,hm⟩| ⟨hi0,e,it,gs,rfl,han,hgs,hk⟩
  ·exact .inl ⟨rfl,rfl,S.gens _ _ hgs,m,t,tG hn λo z=>hkeep L (by simp) o z,hm⟩
  ·exact .inr ⟨hi0,e,it,gs,rfl,han,S.gens _ _ hgs,λs'' hs I''=>hk s'' (λb hb o z=>hs b hb o (hkeep b (D2 _ hb) o z)) I''⟩
 item:=by
  intro A wr T α μ i d s Q E R I st ed k;refine i7 (vg hg G hLb haL I st) λe it gs hgs han hwf hww hgo=>?_;have hlt:i< (oO x).length:=(Bm.mp ed).1;obtain ⟨m,hm⟩:∃m,(oO x).length-i=m+1:=⟨(oO x).length-i-1,by lia⟩;rw [hm] at hgo
  refine xo R (oz (P:= λn s₀ s₁=>n=0∧aG [L,e,it] [] s₀ s₁) rfl (C.nolim.keeps I.keep) (by show 591<1000;decide) st.1 hgs hgo (λv s₁ gs' hb hv=>?_) λs₁ hp h' hk=>absurd hp.1 (Nat.succ_ne_zero m));refine ij hv λzp0 mv I1 hL1 hk=>?_;obtain ⟨d',hd',hit,hna⟩:=zp0;have hidx:(oO x).length-1-(m+1-1)=i:=by lia
  rw [hidx,ed] at hd'
  cases hd';refine i7 hit λa' items ds zq3 zq4 htup hrel hfr=>?_;subst zq3;subst zq4;have mv':aG [L,e,it] [g] s (s₁.setGen g gs'):=mv.running hb;have hdom:∀b∈[L,e,it],∃o,s₁.heap.get? b=some o:= λb hb=>by
   rcases C1.mp hb with rfl|hb
   ·exact hL1
   ·exact I1.tdom b hb
  have hgens:s₁.gens[g]? =some .running:=mv.gens g _ (by simp) (setGen_self hgs);have hIg:(s₁.setGen g gs').heap.IsGen a g:=let ⟨o,nm,qn,z,r⟩:=st.1;⟨o,nm,qn,mv'.heap a o han z,r⟩
  refine k (.ref a') _ [a,L,e,it] (mv'.mono (λb hb=>hwf b (D2 _ hb)) λzz h=>h) hwf (I.movesG mv' (λb hb=>(hwf b (D2 _ hb)).imp (yg _) id) (λb hb=>?_) λb hb=>?_) ⟨a',items,ds,rfl,rfl,htup,hrel _ _⟩ ⟨⟨hIg,.inr ⟨Nat.succ_pos _,e,it,gs',rfl,han,setGen_self hgens,λs'' hs I''=>?_⟩⟩,λa2 ha2 hm=>?_⟩
  ·rcases AZ.mp hb with h|h
   ·exact (hwf b h).imp (yg _) id
   ·exact .inl (D1 _ h)
  ·by_cases q:b∈[L,e,it]
   ·exact hdom b q
   ·rcases AZ.mp hb with h|h
    ·rcases C1.mp h with rfl|h
     ·refine fy hIg λo zz zz z zz=>?_;exact ⟨o,z⟩
     ·exact absurd h q
    ·refine bP (I.tdom b (D1 _ h)) λo z=>?_
     exact ⟨o,mv'.heap b o q z⟩
  ·rw [show (oO x).length-(i+1)=m by lia]
   exact hk s'' hs I''
  ·cases ha2
   have hdn:s.heap.get? a'=none:=hfr
   rcases AZ.mp hm with h|h
   ·rcases AZ.mp h with h|h
    ·rcases C1.mp h with rfl|h
     ·refine fy st.1 λo zz zz z zz=>?_;rw [hdn] at z;cases z
     ·exact hna a' rfl h
    ·refine bP (I.tdom a' (D1 _ h)) λo z=>?_
     rw [hdn] at z;cases z
   ·exact I.mdom a' (D1 _ h) hdn
 go:=by
  intro A wr T α μ i d v t s Q E I md tg ir k;exact Uy md.1.1 (k s (aG.refl _ _ _) I ir md.1)
 done:=by
  intro A wr T α μ i s Q E R I st ed k;refine i7 (vg hg G hLb haL I st) λe it gs hgs han hwf hww hgo=>?_;have hle:(oO x).length≤i:=GB.mp ed;have hz:(oO x).length-i=0:=by lia
  rw [hz] at hgo
  refine xo R (oz (P:= λn s₀ s₁=>n=0∧aG [L,e,it] [] s₀ s₁) rfl (C.nolim.keeps I.keep) (by show 591<1000;decide) st.1 hgs hgo (λv s₁ gs' hb hv=>?_) λs₁ hp h' hkp=>?_)
  ·refine ij hv λzz mv I1 hL1 hk=>?_
   exact (hk s₁ (λzz zz zz z=>z) I1).elim
  ·have mv':aG [L,e,it] [g] s {s₁.setGen g .finished with heap:=h'}:=(hp.2.running (gs':=.finished) rfl).trans (aG.mono (wr:=[]) (gi:=[]) ⟨λb o zz z=>hkp b o z,λzz zz zz z=>z,rfl,λh=>h⟩ (λzz h=>by simp at h) λzz h=>by simp at h)
   refine k _ (mv'.mono (λb hb=>hwf b (D2 _ hb)) λzz h=>h) λT' hT'=>I.movesG mv' (λb hb=>(hwf b (D2 _ hb)).imp (yg _) id) (λb hb=>.inl (hT' b hb).1) λb hb=>?_;refine bP (I.tdom b (hT' b hb).1) λo z=>?_;refine ⟨o,mv'.heap b o (λq=>?_) z⟩
   rcases hwf b (D2 _ q) with y|y
   ·exact (hT' b hb).2 y
   ·rw [y] at z;cases z
 self:=by
  intro A wr T α μ i s Q E st h;exact wpAny_pyIter_gen st.1 h
end
section
theorem vz(h:di C "_iter_escaped_chars" 1)(hg:C.mg "enumerate"=none):∃fa o fd,C.mg "_iter_escaped_chars"=some (.ref fa)∧C.B.get? fa=some o∧o.data=.func fd∧
  ∀ (A:Around) (T α:List Addr) (μ:List ah) (s:Shared) (E:Value→Shared→Prop) (x:Str) (t:Tok) (Q:Value→Shared→Prop),A.depth<recursionLimit→bl C T α μ s→
   (∀a L g env s',zH env L→C.B.get? L=none→a≠L→s.heap.get? a=none→s.heap.get? L=none→s.gens[g]? =none→(∀b o,s.heap.get? b=some o→s'.heap.get? b=some o)→(∀ (i:Nat) (x:GenState),s.gens[i]? =some x→s'.gens[i]? =some x)→bl C ([a,L]++T) α μ s'→
    Qm C a L g env x [a,L] ([a,L]++T) α μ 0 s'→Q (.ref a) s')→wpAny (model C.prog C.w) A (call (.ref fa) [.str x t]) Q E s:=by
 refine ft h λfa o pm cd doc h1 h2 h3 h4=>?_;refine (dy fa o _ h1 h2 h3 (λA T α μ s E x t Q hd I k=>?_));refine wpAny_call (codeAny_call_generator (body:=aq (ay 1)) hd (I.keep _ _ h2) h3 ∅ ∅ rfl (h4.keeps I.keep) ?_);refine M8 (a:=([("addr",UX x t)]:List (Str×Value))) ∅ ?_
 refine RY (λy hy=>?_) (λy hy=>?_) (λh' hn hs=>?_) ∅
 ·have:((ao (ay 1)).names.all λy=>y.2 != .cell)=true:= ∅
  simpa using Bi.mp this y hy
 ·obtain rfl:y=(("addr",UX x t):Str×Value):=by simpa using hy
  kernel_rfl
 ·have hz:h'.objs.size=s.heap.objs.size+1:=by rw [hs.1,LZ]
  have hk1:∀b o,s.heap.get? b=some o→h'.get? b=some o:= λb o z=>(hs.2 b (λq=>by rw [q,bw (DW _)] at z;exact ct z)).trans (Bt _ z);have hgn:∀ (i:Nat) (y:GenState),s.gens[i]? =some y→(s.gens.push (.fresh (.func (aq (ay 1)) (newEnv (ao (ay 1)) s.heap.objs.size mainGlobals [] ("_iter_escaped_chars"++".<locals>.") (some fa) cd none builtinsNs))))[i]? =some y:= λi y z=>by
   rw [Array.getElem?_push_lt (LC.mp z).1];exact (N6 _).symm.trans z
  have hk2:∀b o,s.heap.get? b=some o→(h'.push {cls:=.type "generator",data:=.fields #[.int s.gens.size 0,.str "_iter_escaped_chars" (s.toks+1),.str "_iter_escaped_chars" (s.toks+1+1)]}).get? b=some o:= λb o z=>Bt _ (hk1 b o z);have haf:s.heap.get? h'.objs.size=none:=bw (by rw [hz];exact P1 _);have hLf:s.heap.get? s.heap.objs.size=none:=bw (DW _);have nb:∀b,s.heap.get? b=none→C.B.get? b=none:= λb=>I.fresh;refine ⟨(C.nolim.keeps I.keep).keeps hk1,k h'.objs.size s.heap.objs.size s.gens.size (newEnv (ao (ay 1)) s.heap.objs.size mainGlobals [] ("_iter_escaped_chars"++".<locals>.") (some fa) cd none builtinsNs) _ ⟨rfl,rfl,rfl,rfl⟩ (nb _ hLf) (by rw [hz];exact Nr _) haf hLf (Array.getElem?_size ..) hk2 hgn ?_ ⟨(dy _ _ _ (Dp _ rfl) rfl rfl rfl),.inl (Ie rfl rfl (Array.getElem?_push_size ..) _ t (hn.keeps λb o z=>Bt _ z) rfl)⟩⟩;refine I.grow hk2 rfl (λhb=>hb.push rfl) (λb hb=>?_) λb hb=>?_
  ·simp only [C1,E4,or_false] at hb
   rcases hb with rfl|rfl
   ·exact haf
   ·exact hLf
  ·simp only [C1,E4,or_false] at hb
   rcases hb with rfl|rfl
   ·exact ⟨_,Dp _ rfl⟩
   ·refine fy hn λo zz zz z zz=>?_
    exact ⟨o,Bt _ z⟩
theorem c1(h:di C "_iter_escaped_chars" 1)(hg:C.mg "enumerate"=none):gL C (n+1) "_iter_escaped_chars" aE:=by
 refine dj (vz h hg) λfa o fd h1 h2 h3 hc=>?_;refine (dy fa o fd h1 h2 h3 ?_);intro A T α μ s E vs Vs xs g μ' R I r q;refine ax q λW el q=>ax q λx ex q=>gp q (gE r el λv z rv=>bP (j2 ex rv) λt z1=>?_);subst z;subst z1;refine hc A T α μ s E x t _ (by have:=R.depth;unfold recursionLimit;lia) I λa L g env s' G hLb haL haf hLf hgf hk hgk I' st=>?_;exact wpAny_pyIter_gen st.1 (j1 ([a,L]) ([g]) _ _ α (gY.gen hg G hLb haL) I' (aV.of_keeps hk hgk) st (λb hb=>(C1.mp hb).elim (λq=>q▸haf) λq=>Ab.mp q▸hLf) (λi hi=>Ab.mp hi▸hgf) (λzz e=>nomatch e))
end
def KS(s₀ s:Shared):Prop:=(∀b o,s₀.heap.get? b=some o→s.heap.get? b=some o)∧∀ (i:Nat) (x:GenState),s₀.gens[i]? =some x→s.gens[i]? =some x
theorem KS.moves(k:KS s₀ s)(x:aG wr gi s s')(hw:∀b∈wr,s₀.heap.get? b=none)(hg:∀i∈gi,s₀.gens[i]? =none):KS s₀ s':=
 ⟨λb o e=>x.heap b o (λq=>by rw [hw b q] at e;exact ct e) (k.1 b o e),λi y e=>x.gens i y (λq=>by rw [hg i q] at e;exact ct e) (k.2 i y e)⟩
theorem KS.fresh(k:KS s₀ s){b:Addr}(h:s.heap.get? b=none):s₀.heap.get? b=none:=by
 cases q:s₀.heap.get? b with
 |none=>rfl
 |some o=>rw [k.1 b o q] at h;exact ct (ES h)
section
theorem wi{S:Addr}{f:Obj→Obj}(I:bl C (wr++S::T) α μ s)(hS:s.heap.get? S=some o)(hf:(f o).isFreed=false):
  aG [S] [] s {s with heap:=s.heap.update S f}∧bl C (wr++S::T) α μ {s with heap:=s.heap.update S f}:=by
 have mv:aG [S] [] s {s with heap:=s.heap.update S f}:=aG.of_heap (tk:=s.toks) λb o hb z=>(Rn _ _ (λq:S=b=>hb (by simp [q]))).trans z;refine ⟨mv,I.moves mv (λb hb=>?_) λb hb=>?_⟩
 ·obtain rfl:b=S:=by simpa using hb
  simp
 ·obtain rfl:b=S:=by simpa using hb
  exact ⟨_,Fj _ hS hf⟩
theorem aG.stepS{S:Addr}(x:aG [S] [] s s')(hd:∃o,s'.heap.get? S=some o):aV [S] α μ s α μ s':=
 ⟨⟨[],by simp,by simp⟩,λb o e hb=>x.heap b o (λq=>hb (yg _ q)) e,λzz h=>.inl h,λb o e=>by
  by_cases q:b=S
  ·exact q▸hd
  ·exact ⟨o,x.heap b o (by simpa using q) e⟩,λi y e=>x.gens i y (by simp) e⟩
theorem CK{R:Result→Shared→Prop}(W:gY C (.ref a) gi xs none true St Mid)(toSt:∀wr T α μ i v s,Mid wr T α μ i v s→St wr T α μ (i+1) s)
  (fresh:∀wr T α μ i v s,Mid wr T α μ i v s→∀a',v=.ref a'→a'∉T++ai α μ) (S:Addr) (hn:xs.length≤sizeLine) (Rm:cP A.in1 2) (hSf:s₀.heap.get? S=none) (hgi:∀i∈gi,s₀.gens[i]? =none) (hTd:∀b∈T,s₀.heap.get? b≠none) (res:Value):
  ∀ (k i:Nat) (s:Shared) (acc:Array Value) (c:Nat) (wr:List Addr),xs.length-i=k→i≤xs.length→St wr (wr++S::T) α μ i s→bl C (wr++S::T) α μ s→S∉wr→s.heap.get? S=some {cls:=.type "list",dict:=none,data:=.seq acc c,slots:= #[]}→
   aw s.heap ((wr++S::T)++ai α μ) acc.toList (xs.take i)→KS s₀ s→(∀b∈wr,s₀.heap.get? b=none)→
  (∀s' acc' c',bl C (S::T) α μ s'→s'.heap.get? S=some {cls:=.type "list",dict:=none,data:=.seq acc' c',slots:= #[]}→aw s'.heap ((S::T)++ai α μ) acc'.toList xs→KS s₀ s'→R (.ok (.ret res)) s')→
  codeAny (model C.prog C.w) A (.builtin "list.extend.loop" ⟨[.ref S,.ref a,res],[]⟩) R s:=by
 intro k
 induction k with
 |zero=>
  intro i s acc c wr hk hi st I hSw hS hacc ks hwr hR;have hin:i=xs.length:=by lia
  subst hin;refine codeAny_builtin Sw ?_;rw [S7 NV _];refine (?_:wpAny _ A.in1 (pyNext (.ref a)>>=_) _ _ s);refine yK (W.done Rm I st (by simp) λs' mv hI=>?_);refine Ez (hR s' acc c (hI (S::T) λb hb=>⟨D1 _ hb,λq=>?_⟩) (mv.heap S _ hSw hS) ?_ (ks.moves mv hwr hgi))
  ·rcases C1.mp hb with rfl|hb
   ·exact hSw q
   ·exact hTd b hb (hwr b q)
  ·rw [LI] at hacc
   refine aw.step (W:=wr) (λb o e hb=>mv.heap b o (λq=>hb q) e) (λb hb zz=>yg _ (yg _ hb)) (λb hb=>.inl ?_) hacc
   rcases AZ.mp hb with h|h
   ·exact yg _ (D1 _ h)
   ·exact D1 _ h
 |succ k ih=>
  intro i s acc c wr hk hi st I hSw hS hacc ks hwr hR;have hlt:i<xs.length:=by lia
  have hacs:acc.size=i:=by
   have:=hacc.length
   rw [LG,Rz hi] at this
   simpa using this
  refine codeAny_builtin Sw ?_;rw [S7 NV _];refine (?_:wpAny _ A.in1 (pyNext (.ref a)>>=_) _ _ s);refine yK (W.item Rm I st (x:=xs[i]) (Fh hlt) λv s' wr' mv hwr' I' ir md=>?_);have hSw':S∉wr':= λq=>by
   rcases hwr' S q with h|h
   ·exact hSw h
   ·rw [hS] at h;exact ct (ES h)
  have hS':=mv.heap S _ hSw hS;have ks':=ks.moves mv hwr hgi;have hwf':∀b∈wr',s₀.heap.get? b=none:= λb hb=>(hwr' b hb).elim (hwr b) ks.fresh;refine dj ir λa' items ds zq3 hxi htup hrel=>?_;subst zq3;have hit:aJ s'.heap ((wr'++S::T)++ai α μ) (.ref a') xs[i]:=by
   rw [hxi];exact .ctuple htup (fresh _ _ _ _ _ _ _ md a' rfl) hrel
  have hacc':aw s'.heap ((wr'++S::T)++ai α μ) acc.toList (xs.take i):=aw.step (W:=wr) (λb o e hb=>mv.heap b o (λq=>hb q) e) (λb hb zz=>yg _ (yg _ hb)) (λb hb=>by
   rcases AZ.mp hb with h|h
   ·rcases AZ.mp h with h|h
    ·exact (hwr' b h).imp (λz=>yg _ (yg _ z)) id
    ·exact .inl (yg _ (D1 _ h))
   ·exact .inl (D1 _ h)) hacc
  refine (?_:wpAny _ A.in1 (updateSeq S (·.push (.ref a'))>>=_) _ _ _);refine yK ?_;have hSn:=Fj (M0 (·.push (Lu a'))) hS' rfl;refine fY (wi (f:=M0 (·.push (Lu a'))) I' hS' rfl) λmv2 I2=>?_;refine Oj hS' rfl (Ez ⟨plainId_quiet NV _,ih (i+1) _ (acc.push (.ref a')) _ wr' (by lia) hlt (W.frame (O:=[S]) (toSt _ _ _ _ _ _ _ md) (mv2.stepS ⟨_,hSn⟩) (λb hb=>.inr (.inr ?_)) (λb hb q=>?_) (λb hb=>.inl hb) (λb hb=>yg _ hb) I' I2 λzz e=>by exact ct e) I2 hSw' hSn ?_ (ks'.moves mv2 (λb hb=>?_) λzz h=>by simp at h) hwf' hR⟩)
   (by rw [hacs];lia) (by show (acc.push _).size≤sizeLine+1;rw [Array.size_push,hacs];lia)
  ·obtain rfl:b=S:=by simpa using hb
   simp
  ·obtain rfl:b=S:=by simpa using hb
   exact hSw' q
  ·have:=(hacc'.append (aw.cons hit (aw.nil _ _))).moves (T:=wr'++S::T) mv2 (λb hb=>by
    obtain rfl:b=S:=by simpa using hb
    simp)
   rw [show xs.take (i+1)=xs.take i++[xs[i]] from List.take_succ_eq_append_getElem hlt]
   simpa using this
  ·obtain rfl:b=S:=by simpa using hb
   exact hSf
end
section
theorem Hc(W:gY C (.ref a) gi xs none true St Mid)(toSt:∀wr T α μ i v s,Mid wr T α μ i v s→St wr T α μ (i+1) s)
  (fresh:∀wr T α μ i v s,Mid wr T α μ i v s→∀a',v=.ref a'→a'∉T++ai α μ) (hT:∀wr T α μ i s,St wr T α μ i s→s.TypeIs (.ref a) "generator") (hn:xs.length≤sizeLine) (Rm:cP A.in1.in1 2)
  (ks:KS s₀ s) (hgi:∀i∈gi,s₀.gens[i]? =none) (hwr:∀b∈wr,s₀.heap.get? b=none) (hTd:∀b∈T,s₀.heap.get? b≠none) (st:St wr (wr++T) α μ 0 s) (I:bl C (wr++T) α μ s)
  (hQ:∀S s' acc' c',s₀.heap.get? S=none→bl C (S::T) α μ s'→s'.heap.get? S=some {cls:=.type "list",dict:=none,data:=.seq acc' c',slots:= #[]}→aw s'.heap ((S::T)++ai α μ) acc'.toList xs→KS s₀ s'→Q (.ref S) s'):
  wpAny (model C.prog C.w) A (call (.type "list") [.ref a]) Q E s:=by
 have hSf:s.heap.get? s.heap.objs.size=none:=bw (DW _);generalize hSe:s.heap.objs.size=S at hSf
 have hS0:s₀.heap.get? S=none:=ks.fresh hSf;refine callType_codes (Q₁:= λobj s₁=>obj=.ref s.heap.objs.size∧s₁= {s with heap:=s.heap.push {cls:=.type "list",data:=.seq #[]}}) F.called_list (F.typeCall_list_1 _) F.entry_list_init
  (code_list_new _ ⟨rfl,rfl⟩) λobj s₁ h₁=>?_
 refine fY h₁ λzq0 zq1=>?_;refine bH (ES zq0) ?_;refine bH (ES zq1) ?_;have hS:(s.heap.push {cls:=.type "list",data:=.seq #[]}).get? s.heap.objs.size=some {cls:=.type "list",data:=.seq #[]}:=Dp _ rfl;rw [hSe] at hS⊢
 have hk1:∀b o,s.heap.get? b=some o→(s.heap.push {cls:=.type "list",data:=.seq #[]}).get? b=some o:=bb _ _;have mv1:aG [] [] s {s with heap:=s.heap.push {cls:=.type "list",data:=.seq #[]}}:=aG.of_heap (tk:=s.toks) λb o zz z=>hk1 b o z;have I1:bl C (wr++S::T) α μ {s with heap:=s.heap.push {cls:=.type "list",data:=.seq #[]}}:=I.movesG mv1 (λb hb=>by simp at hb) (λb hb=>by
  rcases AZ.mp hb with h|h
  ·exact .inl (yg _ h)
  ·rcases C1.mp h with rfl|h
   ·exact .inr hSf
   ·exact .inl (D1 _ h)) λb hb=>by
  rcases AZ.mp hb with h|h
  ·exact (I.tdom b (yg _ h)).imp λo z=>hk1 b o z
  ·rcases C1.mp h with rfl|h
   ·exact ⟨_,hS⟩
   ·exact (I.tdom b (D1 _ h)).imp λo z=>hk1 b o z
 have hSw:S∉wr:= λq=>by
  refine bP (I.tdom S (yg _ q)) λo z=>?_;rw [hSf] at z;exact ct z
 have st1:St wr (wr++S::T) α μ 0 {s with heap:=s.heap.push {cls:=.type "list",data:=.seq #[]}}:=W.frame (O:=[]) st (aV.keeps (tk:=s.toks) hk1) (iH.nil _ _) (λzz h=>by simp at h) (λb hb=>by
  rcases AZ.mp hb with h|h
  ·exact .inl (yg _ h)
  ·rcases C1.mp h with rfl|h
   ·exact .inr hSf
   ·exact .inl (D1 _ h)) (λb hb=>yg _ hb) I I1 λzz e=>by exact ct e
 have upd:∀ {s1:Shared} {o:Obj} {f:Obj→Obj},St wr (wr++S::T) α μ 0 s1→bl C (wr++S::T) α μ s1→s1.heap.get? S=some o→(f o).isFreed=false→
   St wr (wr++S::T) α μ 0 {s1 with heap:=s1.heap.update S f}∧bl C (wr++S::T) α μ {s1 with heap:=s1.heap.update S f}∧(KS s₀ s1→KS s₀ {s1 with heap:=s1.heap.update S f}):= λ{s1 o f} st1 I1 h1 hf=>by
  refine fY (wi (f:=f) I1 h1 hf) λmv2 I2=>?_;refine (fm (W.frame (O:=[S]) st1 (mv2.stepS ⟨_,Fj _ h1 hf⟩) (λb hb=>.inr (.inr ?_)) (λb hb q=>?_) (λb hb=>.inl hb) (λb hb=>yg _ hb) I1 I2 (λzz e=>by exact ct e)) I2 (λk=>KS.moves k mv2 (λb hb=>?_) λzz h=>by simp at h))
  ·obtain rfl:b=S:=by simpa using hb
   simp
  ·obtain rfl:b=S:=by simpa using hb
   exact hSw q
  ·obtain rfl:b=S:=by simpa using hb
   exact hS0
 refine (fm ⟨_,hS,rfl⟩ (F.args_list_init_2 _ _) ?_);refine (?_:wpAny _ A.in1.in1 (do let old←Ro (.ref S);Builtin.List.listUpdate (.ref S) (λzz=> #[]);letGo old.toList.reverse;Mz (.ref S) (.ref a) .none) _ _ _);refine yK ?_;unfold Ro;refine yK (MR hS rfl (Ez ?_))
 show wpAny _ A.in1.in1 (updateSeq S (λzz=> #[])>>= λzz=>letGo (#[]:Array Value).toList.reverse>>= λzz=>Mz (.ref S) (.ref a) .none) _ _ _
 refine yK (Oj hS rfl ?_);have hS₂:=Fj (M0 (λzz=>(#[]:Array Value))) hS rfl;refine dU (upd (f:=M0 (λzz=>(#[]:Array Value))) st1 I1 hS rfl) λst2 I2 k2=>?_;refine yK (Sv ?_);have hSI:S≠a:= λe=>by
  refine au (hT _ _ _ _ _ _ st1) λo z q=>?_;rw [←e] at z
  rw [hS] at z;cases z;exact absurd q (by decide)
 unfold Mz;refine yK (wpAny_typeOf (hT _ _ _ _ _ _ st2) ?_);have h1:QL (.ref S) (.ref a)=false:=by simp [QL,hSI]
 have h2:(Te "generator"==Te "list")=false:=by decide
 have h3:(Te "generator"==Te "tuple")=false:=by decide
 simp only [h1,h2,h3,UN,Oy,if_false];refine yK (W.self st2 ?_);refine yK (KZ ?_);unfold Builtin.List.listLengthHint;refine yK (Ls (hT _ _ _ _ _ _ st2) F.gen_no_len ?_);refine (?_:wpAny _ A.in1.in1 (specialOf (Lu a) (Jg "__length_hint__")>>=_) _ _ _);refine yK (Ls (hT _ _ _ _ _ _ st2) F.gen_no_hint ?_);refine Ez ?_
 show wpAny _ A.in1.in1 (rule "list.extend.makes-room">>= λzz=>Builtin.List.listTouch (.ref S)>>= λzz=>
  again (.builtin "list.extend.loop" ⟨[.ref S,.ref a,.none],[]⟩)) _ _ _
 refine yK (Ob ?_);refine yK ?_
 show wpAny _ A.in1.in1 (updateSeq S (·.push .none)>>= λzz=>updateSeq S (·.pop)) _ _ _
 refine yK (Oj hS₂ rfl ?_);have hS₃:=Fj (M0 (·.push L7)) hS₂ rfl;refine dU (upd (f:=M0 (·.push L7)) st2 I2 hS₂ rfl) λst3 I3 k3=>?_;refine Oj (hz:=by seq_fits) hS₃ rfl ?_;have hS₄:=Fj (M0 (·.pop)) hS₃ rfl;refine dU (upd (f:=M0 (·.pop)) st3 I3 hS₃ rfl) λst4 I4 k4=>?_;have ks4:=k4 (k3 (k2 (ks.moves mv1 (λzz h=>by simp at h) λzz h=>by simp at h)));refine Ez ⟨plainId_quiet NV _,CK W toSt fresh S hn Rm hS0 hgi hTd .none _ 0 _ _ _ wr rfl (Lw _) st4 I4 hSw hS₄ (by simpa using aw.nil _ _) ks4 hwr λs' acc' c' I' hS' hd hk=>?_⟩;exact ⟨rfl,hQ S s' acc' c' hS0 I' hS' hd hk⟩
end
theorem c1L(h:di C "_iter_escaped_chars" 1)(hg:C.mg "enumerate"=none):Cs C (n+3) "_iter_escaped_chars" aE:=by
 refine dj (vz h hg) λfa o fd h1 h2 h3 hc=>?_;refine (dy fa o fd h1 h2 h3 ?_);intro A T α μ s E vs Vs xs g μ' R I r q hsz;refine ax q λW el q=>ax q λx ex q=>?_;cases (q:some (er x.cps.toList 0 false,none,μ)=some (xs,g,μ'));refine gE r el λv z rv=>bP (j2 ex rv) λt z1=>?_;subst z;subst z1;refine hc A T α μ s E x t _ (by have:=R.depth;unfold recursionLimit;lia) I λa L g env s' G hLb haL haf hLf hgf hk hgk I' st=>?_;refine Hc (T:=T) (α:=α) (wr:=[a,L]) (μ:=μ) (s₀:=s) (gY.gen (x:=x) (env:=env) (g:=g) hg G hLb haL) (λwr T α μ i v s md=>md.1) (λwr T α μ i v s md=>md.2) (λwr T α μ i s st=>st.1.typeIs) hsz ⟨?_,?_,R.handled⟩ ⟨hk,hgk⟩ (λi hi=>Ab.mp hi▸hgf) (λb hb=>(C1.mp hb).elim (λq=>q▸haf) λq=>Ab.mp q▸hLf) (λb hb q=>I.mdom b (yg _ hb) q) st I' λS s2 acc c hS I2 hS2 hd ks=>?_
 ·have:=R.depth
  show A.depth+4*2<600;lia
 ·have:=R.units
  show A.units+1+1+200*2+400<cLine;lia
 ·exact (cJ α (I2.sub λb hb=>D2 _ hb) (aV.of_keeps ks.1 ks.2) (aJ.list (vs:=acc) ⟨_,hS2⟩ (hd.mono ql) λq=>I.mdom S q hS))
theorem Yu(h:Heap)(S:List Addr):∃b:Heap,(∀a,a∉S→b.get? a=h.get? a)∧∀a∈S,b.get? a=none:=by
 induction S with
 |nil=>exact (aZ h (λzz zz=>rfl) (λzz q=>by cases q))
 |cons x S ih=>
  refine au ih λb h1 h2=>?_;refine ⟨{b with objs:=b.objs.setIfInBounds x {cls:=.none,data:=.freed}},λa ha=>?_,λa ha=>?_⟩
  ·simp only [C1,not_or] at ha
   rw [←h1 a ha.2];unfold UY;dsimp only;rw [M5 (Mv ha.1)]
  ·by_cases q:a=x
   ·refine bH q ?_
    unfold UY;dsimp only
    by_cases hlt:a<b.objs.size
    ·rw [Array.getElem?_setIfInBounds_self_of_lt hlt]
    ·rw [Array.getElem?_eq_none (by simpa using hlt)]
   ·rw [←h2 a ((C1.mp ha).resolve_left q)]
    unfold UY;dsimp only;rw [M5 (Mv q)]
section
theorem mS{it:Addr}{Q:Option Value→Shared→Prop}(hh:A.handled=none)(hit:dX s.heap M it (.iter []))
  (hE:∀h1 h' e,G9 h1 it→Lb it s.heap h1→Qd h1 h' e (.type "StopIteration") []→E (.ref e) {s with heap:=h'}):wpAny (model C.prog C.w) A (callSpecial? (.ref it) (Jg "__next__")) Q E s:=by
 have fin:∀ {β:Type} (Q':β→Shared→Prop) (h1:Heap),G9 h1 it→Lb it s.heap h1→wpAny (model C.prog C.w) A.in1 (OQ (α:=β)) Q' E {s with heap:=h1}:= λQ' h1 hs hb=>by
  unfold OQ;refine yK ?_;simp only [newExc,newTuple];refine yK (HA ?_ (by size_fits));refine yK (m:=firstArgMember _ _) (M8 (a:=L7) (by first|rfl| (simp only [firstArgMember];rfl)) ?_);refine HA ?_ (by size_fits);refine NN hh ?_;refine hE h1 _ _ hs hb ⟨λb o z=>Bt _ (Bt _ z),bw (by show h1.objs.size≤(h1.push _).objs.size;rw [LZ];exact P1 _),h1.objs.size,Dp _ rfl,bw (DW _),Bt _ (Dp _ rfl)⟩
 rcases hit with ⟨l,k,items,hli,hp,hl,hk,rr⟩| ⟨_,o,k,ho,hc,hd⟩
 ·refine cm (id hli) λo ho hc hd=>?_
  refine As hp.isList λol hol zz nl hdl=>?_;have hx:items[k]? =none:=by
   have:=rr.length
   simp at this⊢;lia
  refine Ii (name:=Jg "__next__") hli.typeIs K_
   (L4 K_ hli.typeIs PG ?_ (PW _))
  refine (?_:wpAny _ _ (field (.ref it) 0>>=_) _ _ s);refine yK (KP ho hd (x:=.ref l) rfl ?_);refine (?_:wpAny _ _ (if (Lu l==L7)=true then _ else _) _ _ s);rw [if_neg (show ¬ ((Lu l==L7)=true) from G_)];refine (?_:wpAny _ _ (field (.ref it) 1>>=_) _ _ s);refine yK (KP ho hd (x:=.int k 0) rfl ?_);refine (?_:wpAny _ _ (seqItems? (.ref l)>>=_) _ _ s);refine yK (MR hol hdl ?_);simp only [Fd,hx];refine yK (Ob (yK (P5 ho hd (by simp) ?_)));exact fin _ _ (dw _ _ (Fj _ ho (LO (L0 hd _))) ((Td ..).trans hc) (by rw [L0 hd];rfl)) (KW ..)
 ·refine Ii (name:=Jg "__next__") (T:="list_iterator") (aZ o ho hc) K_
   (L4 K_ (aZ o ho hc) PG ?_ (PW _))
  refine (?_:wpAny _ _ (field (.ref it) 0>>=_) _ _ s);refine yK (KP ho hd (x:=.none) rfl ?_);refine (?_:wpAny _ _ (if (L7==L7)=true then _ else _) _ _ s);rw [if_pos (by decide)];refine yK (Ob ?_);exact yK (fin _ s.heap (dw o k ho hc hd) ⟨rfl,λzz zz=>rfl⟩)
end
section
end
noncomputable abbrev Jh:Value:=.type "StopIteration"
def Ld(h:Heap)(L:Addr):Prop:=∃o es n,h.get? L=some o∧o.data=.dict es n
def FF(h:Heap)(l:List Env):Prop:=∀env∈l,env.scope.kind≠ .module∧∃L,env.frame=some L∧Ld h L
theorem FF.fun{base:Heap}:∀ {l:List Env},FF h l→(∀L∈l.filterMap (·.frame),base.get? L=none)→h.FunFrames base l
 | [],_,_=>trivial
 |env::l,f,hb=>by
  obtain ⟨hk,L,hL,o,es,n,ho,hd⟩:=f env (by simp);refine (fm hk ⟨L,o,hL,hb L ?_,ho,λvs q=>by rw [hd] at q;cases q⟩ (FF.fun (λe he=>f e (D2 _ he)) λL' hL'=>hb L' ?_))
  ·rw [NX,hL];simp
  ·rw [NX,hL];exact D2 _ hL'
theorem Ld.ext(x:Ld h L)(e:fZ W h h')(hn:L∉W):Ld h' L:=by
 refine fy x λo es n ho hd=>?_;exact (lG o es n (e L o ho λq=>absurd q hn) hd)
theorem Ld.frameAt(x:Ld h L):bW h L:=let ⟨o,es,n,ho,hd⟩:=x;⟨o,ho,.inl (jK es n hd)⟩
theorem FF.step{l:List Env}(f:FF s.heap l)(I:bl C T α μ s)(S:aV O α μ s α' μ' s')(hO:∀L∈l.filterMap (·.frame),L∉O):FF s'.heap l:= λenv he=>by
 refine ic (f env he) λhk L hL hd=>?_;refine (gO hk L hL (hd.ext S.ext λq=>?_))
 rcases AZ.mp q with q|q
 ·exact hO L (Ow.mpr (aZ env he hL)) q
 ·exact I.notFrame (db q) hd.frameAt
theorem FF.mem{l:List Env}(f:FF h l)(hL:L∈l.filterMap (·.frame)):Ld h L:=by
 refine au (Ow.mp hL) λenv he q=>?_;refine ic (f env he) λzz L' q' hd=>?_;rw [q] at q';cases q'
 exact hd
section
variable {M:Model}
theorem Dm{base:Heap}{outer:List Env}{e:Addr}{args:List Value}{Q:Unit→Shared→Prop}
  (hfr:A.frames=some (env::outer)) (hf:env.frame=some L) (hkb:base.StaysIn h) (hl:h.FunFrames base (env::outer)) (hx:Qd h s.heap e cls args)
  (hQ:∀h' t,Ti base (env::outer) e cls (.ref t) L h'→s.heap.UpToSlots h'→Q () {s with heap:=h'}):wpAny M A (noteFrame (.ref e) env) Q E s:=by
 refine cm hx.there λt he htn ht=>?_;have fresh:∀b,h.get? b=none→base.get? b=none:= λb hb=>by
  cases hq:base.get? b with
  |none=>rfl
  |some o'=>have:=hkb b o' hq;rw [hb] at this;exact ct this
 unfold noteFrame;simp only [hf];refine yK (KP he rfl (x:=.none) rfl ?_);rw [if_neg (by decide)];refine wpAny_entryW (vs:= #[.ref t,.none,.none,.none,.bool false,.none]) hfr (hl.of_keeps λb o hb zz=>(aZ o (hx.keeps b o hb) rfl)) hf he (λb o hb=>hx.keeps b o (hkb b o hb)) (fresh e hx.new) rfl (by show 1<6;decide) rfl λh' hN=>?_;refine mA hN λk1 k2 k3 k4=>?_;exact hQ h' t (lj k1 (fresh e hx.new) k2 k3) k4
theorem CT{base:Heap}{l:List Env}{e:Addr}{a0:Value}(hf:env.frame=some L)(hh:Ti base l e cls a0 L s.heap)
  (hQ:∀h',Ti base l e cls a0 L h'→s.heap.UpToSlots h'→Q (.ref e) {s with heap:=h'}):cameBackBy M A env Q (.ref e) s:=by
 obtain ⟨hkb,hen,hl,oe,vs,T,oT,ts,he,hcls,hd,h1,hnT,hTe,hT,hdT,h3⟩:=hh;have hsz3:3<ts.size:=(LC.mp h3).1;have other:∀b,b≠T→(s.heap.update T (Obj.mapFields (·.setIfInBounds 3 ((some L:Option Addr).elim L7 λf=>rawInt f)))).get? b=s.heap.get? b:=
  λb hb=>Rn _ _ (Mv hb)
 have noRecord:∀b o,s.heap.get? b=some o→(∀vs,o.data≠ .fields vs)→b≠T:= λb o hb hnf q=>by
  rw [q,hT] at hb;injection hb with hb;subst hb;exact hnf ts hdT
 unfold cameBackBy;refine yK (KP he hd h1 ?_);rw [if_neg (show ¬ ((Lu T==L7)=true) from by simp)];unfold setFlight;refine yK (KP he hd h1 ?_);rw [if_pos (show (Lu T != L7)=true from by simp),hf];refine P5 hT hdT hsz3 (hQ _ (lj (λb o hbo=>(other b λq=>by rw [q,hnT] at hbo;exact ct hbo).trans (hkb b o hbo)) hen (hl.of_keeps λb o hb hnf=>⟨o,(other b (noRecord b o hb hnf)).trans hb,rfl⟩) ?_) λb o hb hnf=>⟨o.slots,(other b (noRecord b o hb hnf)).trans hb⟩);exact (oR oe vs T _ _ ((other e (Mv hTe)).trans he) hcls hd h1 hnT hTe (Fj _ hT (LO (L0 hdT _))) (L0 hdT _) (by simp [hsz3]))
theorem wO{base:Heap}{outer:List Env}{e:Addr}{a0:Value}{Q:Unit→Shared→Prop}(hf:env.frame=some L)
  (hh:Ti base (env::outer) e cls a0 L s.heap) (hQ:∀h',Heap.FlyingW base outer e cls a0 h'→s.heap.UpToSlots h'→Q () {s with heap:=h'}):wpAny M A (leaving env (.ref e)) Q E s:=by
 unfold leaving;refine yK (wpAny_noteFrame_againW hf hh.2.2.2 ?_);refine wpAny_landsW hh λh' hfl hu=>?_;refine mA hfl λk1 k2 zp2 k4=>?_;refine dU zp2 λzz zz k3=>?_;exact hQ h' (lj k1 k2 k3 k4) hu
end
section
theorem lP(hg:C.mg "next"=none)
  (ha:de C n cx [e] [f]) (hs:∀env,starEach [e] env=(false,eval e env)::starEach [] env) (hp:∀env,(backTo pos (starEach [e] env)).any (·.1)=false)
  (hl:cx.scope.names.lookup ("next":Str)=some .globalImplicit) (hk:cx.scope.kind=.function)
  (R:cP A n) (I:bl C T α μ s) (F:bh C cx env O ρ s.heap α (T++ai α μ)) (hf:f ρ μ=some (.c i,μ)) (hc:μ[i]? =some (.iter []))
  (hE:∀α1 s1 h' ex,bl C T α1 (μ.set i (.iter [])) s1→aV [] α μ s α1 (μ.set i (.iter [])) s1→Qd s1.heap h' ex Jh []→E (.ref ex) {s1 with heap:=h'}):
  wpAny (model C.prog C.w) A (eval (.Call (.Name "next" xp) [e] [] pos) env) Q E s:=by
 refine (?_:wpAny _ A (do callWith pos (←eval (.Name "next" xp) env) [] (backTo pos (starEach [e] env)) []) _ _ s);refine yK (F6 (by rw [F.sc];exact hk) (by unfold IC;rw [F.sc];exact hl) (Lg (by rw [F.gl];exact C.g.keeps I.keep) hg (by rw [F.bn];exact C.b.keeps I.keep) ((C.bt _ (by decide+kernel)).trans (∅ :bootBuiltins "next"=some (.builtin "next"))) ?_) ∅);refine bf "next" _ _ _ _ _ _ _ _ (hp env) (ee (hs env) ha R I F (show eY [f] ρ μ=some ([.c i],μ) by simp [eY,hf,bpS,bpN,boS,boN]) λvs s1 α1 I1 S1 r1=>?_)
 match vs,r1 with
 | [v],r1=>
 obtain ⟨a,hαi,rfl⟩:=r1.1;refine PE (by decide+kernel) (by decide+kernel) kdk_entry_next (kdk_args_next _) ?_;unfold Builtin.«next»
 refine yK (m:=someArgs "next" 1 2 _) (M8 (a:=[Lu a]) (by first|rfl|kernel_rfl!) ?_);dsimp only;have hcell:=I1.cells i a _ hαi hc;have hty:s1.TypeIs (.ref a) "list_iterator":=by
  rcases hcell with ⟨l,k,items,⟨o,ho,hcl,hd⟩,_⟩| ⟨_,o,k,ho,hcl,hd⟩
  ·exact (aZ o ho hcl)
  ·exact (aZ o ho hcl)
 refine yK (Ls (name:=Jg "__next__") hty K_.lookup ?_);refine wpAny_ite_split (λhab=>absurd hab (by decide)) (λzz=>?_);refine yK (mS (C:=C) R.handled hcell λh1 h' ex hsp hsb hx=>?_);obtain ⟨I2,S2⟩:=I1.setCell (c:=.iter []) (h':=h1) (tk:=s1.toks) hαi hc rfl rfl (λb o q z=>(hsb.2 b q).trans z) (by obtain ⟨o,k,z,_⟩:=hsp;exact ⟨o,z⟩) λkd=>.inr ⟨rfl,hsp⟩;exact hE α1 {s1 with heap:=h1} h' ex I2 (S1.trans S2) hx
end
def Fly(C:gK)(T α:List Addr)(μ μ':List ah)(s:Shared)(outer:List Env)(e:Addr)(s':Shared):Prop:=
 ∃s1 h' base t LV,s'= {s1 with heap:=h'}∧bl C T α μ' s1∧aV [] α μ s α μ' s1∧s.heap.get? LV=none∧bW s1.heap LV∧(∀b,b∉LV::outer.filterMap (·.frame)→base.get? b=s1.heap.get? b)∧Heap.FlyingW base outer e Jh (.ref t) h'∧s1.heap.UpToSlots h'
theorem JK{v b:Int}(h0:0≤b)(h:(H1 v:Int)+b≤2^27):qa (.d (.int v)) (.d (.int b)) μ=some (.d (.int (v*2^b.toNat)),μ):=by
 refine (?_:bo (if 0≤b∧(H1 v:Int)+b≤2^27 then some (v*2^b.toNat) else none) (λz=>some (AV.d (.int z),μ))=_);rw [if_pos ⟨h0,h⟩];rfl
theorem xf{x:PyData}{r:List PyData}(hc:μ[i]? =some (.iter (x::r))):km [.c i] μ=some (.d x,μ.set i (.iter r)):=by
 refine (?_:bo (μ[i]?.bind Qv) (λxs=>bp (uncons xs) λx r=>some (AV.d x,μ.set i (.iter r)))=_);rw [hc];rfl
theorem GL{o:AV→AV→List ah→Option (AV×List ah)}{v w:Int}(e:ρ[2]? =some (some (.d (.int v))))(h:o (.d (.int v)) (.d (.int 6)) μ=some (.d (.int w),μ)):iA 2 (kI 6) o ρ μ=some (.next,ρ.set 2 (some (.d (.int w))),μ):=by
 refine (?_:bo (ρ[2]?.bind id) (λV=>bp (o V (.d (.int 6)) μ) λr μ2=>some (Fl.next,ρ.set 2 (some r),μ2))=_);rw [e];refine (?_:bp (o (.d (.int v)) (.d (.int 6)) μ) (λr μ2=>some (Fl.next,ρ.set 2 (some r),μ2))=_);rw [h];rfl
theorem oG:(0:Int)≤6:=by decide
theorem NT{v:Int}(e:ρ[2]? =some (some (.d (.int v))))(h:(H1 v:Int)+6≤2^27):∃w,iA 2 (kI 6) qa ρ μ=some (.next,ρ.set 2 (some (.d (.int w))),μ):=by
 have:∃w,qa (.d (.int v)) (.d (.int 6)) μ=some (.d (.int w),μ):=⟨_,JK oG h⟩
 refine bP this λw hw=>?_;exact ⟨w,GL e hw⟩
section
theorem Nd(G:cI C)(h:di C "_parse_varint" 8):∃fa o fd,C.mg "_parse_varint"=some (.ref fa)∧C.B.get? fa=some o∧o.data=.func fd∧
  ∀ (A:Around) (T α:List Addr) (μ μ':List ah) (s:Shared) (i:Nat) (a:Addr) (outer:List Env) (Q E:Value→Shared→Prop),cP A 3→bl C T α μ s→α[i]? =some a→pQ μ i=some μ'→A.frames=some outer→FF s.heap outer→
   (∀e s',Fly C T α μ μ' s outer e s'→E (.ref e) s')→wpAny (model C.prog C.w) A (call (.ref fa) [.ref a]) Q E s:=by
 refine ft h λfa o pm cd doc h1 h2 h3 h4=>?_;refine (dy fa o _ h1 h2 h3 (λA T α μ μ' s i a outer Q E R I ha hst hfr hff hE=>?_));refine mH (Vs:=[.c i]) ["iterator"] h2 h3 h4 (jD λzz=> ∅) (of_decide_eq_true ∅) ∅ ∅ ∅ ∅ (by have:=R.depth;unfold recursionLimit;lia) I ⟨(aZ a ha rfl),trivial⟩ rfl λL O h₁ tk hL hLO hO I1 S1 F1 hk1=>?_
 generalize henv:envOfC "_parse_varint" (ao (ay 8)) L fa cd=env at F1⊢
 have hef:env.frame=some L:=by rw [←henv];rfl
 have hek:env.scope.kind≠ .module:=by rw [←henv];show (ao (ay 8)).kind≠ .module;rw [show (ao (ay 8)).kind=.function from ∅];decide
 have R2:cP (A.deeper env) 2:=⟨by have:=R.depth;show A.depth+1+4*2<600;lia,by have:=R.units;show A.units+3+200*2+400<cLine;lia,R.handled⟩;have hfr2:(A.deeper env).frames=some (env::outer):=Pm hfr;have hLout:∀L'∈outer.filterMap (·.frame),L'∉O:= λL' hL' q=>(hff.mem hL').frameAt.dom (hO L' q);have hff1:FF h₁ outer:= λenv' he=>by
  obtain ⟨hk,L',hL',o',es,m,ho',hd⟩:=hff env' he;exact ⟨hk,L',hL',o',es,m,hk1 _ _ ho',hd⟩
 have hnext:C.mg "next"=none:=G.no _ ∅
 
 have made:∀ {α1 μ1 s1 h' ex},bl C T α1 μ1 s1→aV O α μ {s with heap:=h₁,toks:=tk} α1 μ1 s1→α1=α→Ld s1.heap L→Qd s1.heap h' ex Jh []→
   ∃base,(∀b,b∉L::outer.filterMap (·.frame)→base.get? b=s1.heap.get? b)∧base.StaysIn s1.heap∧s1.heap.FunFrames base (env::outer)∧aV [] α μ s α μ1 s1:= λ{α1 μ1 s1 h' ex} I' S' hα hLd hx=>by
  subst hα;refine au (Yu s1.heap (L::outer.filterMap (·.frame))) λbase g1 g2=>?_;have hfs:FF s1.heap (env::outer):= λenv' he=>by
   rcases C1.mp he with rfl|he
   ·exact (gO hek L hef hLd)
   ·exact FF.step (s:= {s with heap:=h₁,toks:=tk}) hff1 I1 S' hLout env' he
  refine (c_ base g1 (λb o z=>?_) (hfs.fun λL' hL'=>g2 L' ?_) (((S1.up (O:=O)).trans S').weak λb hb=>.inr (hO b hb)))
  ·by_cases q:b∈L::outer.filterMap (·.frame)
   ·rw [g2 b q] at z;cases z
   ·rw [←g1 b q];exact z
  ·rwa [NX,hef] at hL'
 have hnsD:∀ {ρ:d0} {s1:Shared} {α1:List Addr} {M:List Addr},bh C Eo env O ρ s1.heap α1 M→Ld s1.heap L:= λF=>by
  refine au F.loc λm zp1 zz=>?_;refine jq zp1 λob es ep z d zz=>?_;rw [show env.locals=L by rw [←henv];rfl] at z
  exact (lG ob es ep z d)
 have sameα:∀ {α1:List Addr} {μ0 μ1:List ah} {s0 s1:Shared},bl C T α1 μ1 s1→aV O α μ s0 α1 μ1 s1→μ1.length=μ.length→α1=α:= λ{α1 μ0 μ1 s0 s1} I' S' hl=>by
  refine au S'.pre λδ e zz=>?_
  have:=I'.len
  rw [hl,←I.len,e,be] at this
  have hz:δ=[]:=OF.mp (by lia);rw [e,hz,DN]
 refine N3 hst (λhc z=>?_) λb hc hb z=>?_
 ·subst z
  refine Kd (M4 (lP (cx:=Eo) (f:=a9 0) (n:=2) hnext (dz (λzz=> ∅) iQ ae) (λzz=> ∅) (λzz=>rfl) ∅ ∅ R2 I1 F1 rfl hc λα1 s1 h' ex I' S' hx=>?_) ∅);have hα:α1=α:=sameα (μ0:=μ) (s0:= {s with heap:=h₁,toks:=tk}) I' S'.up (by simp);subst hα;refine eB (made I' S'.up rfl (hnsD (F1.step I1 S')) hx) λbase g1 hkb hl hSt=>?_;refine wpAny_leaves_madeW hfr2 hef hkb hl hx λh'' t fly zz zz up=>?_;exact hE ex _ (iz s1 h'' base t L rfl I' hSt hL ((hnsD (F1.step I1 S')).frameAt) g1 fly ((R0 hx.keeps).trans up))
 ·subst z
  have hlen:i<μ.length:=(Bm.mp hc).1;refine Kd (D3 ((B_ G (DW 2)).run _ env O T _ α μ _ _ .next ((cC (ao (ay 8)) [.c i]).set 1 (some (.d (.int b)))) (μ.set i (.iter [])) R2 I1 F1 ?_) (λfw s2 p=>?_) λzz zz x=>x)
  ·refine (?_:bp (km [.c i] μ) (λV μ1=>some (Fl.next,(cC (ao (ay 8)) [.c i]).set 1 (some V),μ1))=_)
   rw [xf hc];rfl
  refine eB p λα2 I2 S2 F2 zq4=>?_;subst zq4;refine Kd (D3 ((BE G (DW 2)).run _ env O T _ α2 _ _ _ .next (((cC (ao (ay 8)) [.c i]).set 1 (some (.d (.int b)))).set 2 (some (.d (.int (Dd b 63))))) (μ.set i (.iter [])) R2 I2 F2 ?_) (λfw s3 p=>?_) λzz zz x=>x)
  ·rfl
  refine eB p λα3 I3 S3 F3 zq4=>?_;subst zq4;refine Kd (wpAny_While (codeAny_whileLoop (λk s'=>s'=s3) ?_ 0 rfl))
  rintro k s' rfl
  refine D3 ((iC (λzz zz=>rfl) (av Pz am qj)).run _ env O T _ α3 _ _ _ true (μ.set i (.iter [])) R2 I3 F3 ?_) (λb' s4 p=>?_) λzz zz x=>x
  ·refine (?_:some (Dd b 64 != 0,μ.set i (.iter []))=_)
   rw [bne_iff_ne.mpr hb.1]
  refine ic p λzq0 α4 I4 S4=>?_;subst zq0;rw [if_pos rfl];have F4:=F3.step I3 S4;refine bP (NT (ρ:=((cC (ao (ay 8)) [.c i]).set 1 (some (.d (.int b)))).set 2 (some (.d (.int (Dd b 63))))) (μ:=μ.set i (.iter [])) rfl hb.2) λw hw=>?_;refine Kd (D3 ((nO (i:=2) ∅ ∅ ∅ am Bp).run _ env O T _ α4 _ _ _ .next _ _ R2 I4 F4 hw) (λfw s5 p=>?_) λzz zz x=>x);refine eB p λα5 I5 S5 F5 zq4=>?_;subst zq4;have hc5:(μ.set i (.iter []))[i]? =some (.iter []):=by simp [hlen]
  refine Kd (M4 (lP (cx:=Eo) (f:=a9 0) (n:=2) hnext (dz (λzz=> ∅) iQ ae) (λzz=> ∅) (λzz=>rfl) ∅ ∅ R2 I5 F5 rfl hc5 λα6 s6 h' ex I6 S6 hx=>?_) ∅);have SS:=((S2.trans (S3.trans (S4.up (O:=O)))).trans S5).trans (S6.up (O:=O));rw [Hb] at I6 S6 SS
  have hα:α6=α:=sameα (μ0:=μ) (s0:= {s with heap:=h₁,toks:=tk}) I6 SS (by simp);subst hα;have hLd:=hnsD (F5.step I5 S6);refine eB (made I6 SS rfl hLd hx) λbase g1 hkb hl hSt=>?_;refine Dm hfr2 hef hkb hl hx λh7 t held up7=>?_;refine CT hef held λh8 held8 up8=>?_;refine wO hef held8 λh9 fly up9=>?_;exact hE ex _ (iz s6 h9 base t L rfl I6 hSt hL hLd.frameAt g1 fly ((((R0 hx.keeps).trans up7).trans up8).trans up9))
end
section
variable {f:SF}
theorem TH{h₀:ExceptHandler}{hs:List ExceptHandler}(hf:cB C n cx body f):aQ C n cx (.Try body (h₀::hs) [] [] pos) f:=by
 refine .of ?_;intro A env O T ρ α μ s E fl ρ' μ' R I F h;refine wpAny_Try_except (D3 (hf.run A env O T ρ α μ s _ fl ρ' μ' R I F h) (λfw s1 p=>?_) λzz zz x=>x);have p':=p;refine eB p λα1 I1 S1 F1 r1=>?_;cases fl with
 |next=>cases r1;exact RA p'
 |brk=>cases r1;exact p'
 |ret V=>refine au r1 λv zq1 rv=>?_;subst zq1;exact p'
abbrev UF:Cx:=df (ao (ay 69))
theorem xd:ab C n UF (.Name "tape" pos) (a9 0):=qT 0 ∅ ∅ ∅ ∅
def f69:SF:=ap (fe (aU [af [a9 0] aS])) aP
theorem b69(hp:aI C n "_parse_varint" aS):cB C n UF (aq (ay 69)) (ap f69 aP):=
 ak (TH (ak (d6 (bc (dz (λzz=> ∅) (cc hp (dz (λzz=> ∅) xd ae) (λzz=>rfl) ∅ ∅ ∅) ae))) aN)) aN
theorem ao1(hp:aI C n "_parse_varint" aS)(h:di C "_law_beyond" 69):aI C (n+1) "_law_beyond" (cy 1 (ao (ay 69)) (ap f69 aP)):=
 gP ["tape"] h (b69 hp) (λzz zz zz=>jD λzz=> ∅) ∅ ∅ ∅ ∅ ∅
end
section
theorem xg(G:cI C)(hv:di C "_parse_varint" 8)(h:di C "_law_beyond" 69):∃fa o fd,C.mg "_law_beyond"=some (.ref fa)∧C.B.get? fa=some o∧o.data=.func fd∧
  ∀ (A:Around) (T α:List Addr) (μ μ':List ah) (s:Shared) (i:Nat) (a:Addr) (outer:List Env) (Q:Value→Shared→Prop) (E:Value→Shared→Prop),cP A 4→bl C T α μ s→α[i]? =some a→pQ μ i=some μ'→A.frames=some outer→FF s.heap outer→(∀L∈outer.filterMap (·.frame),L∉T∧C.B.get? L=none)→
   (∀r s1 s',bl C T α μ' s1→aV [] α μ s α μ' s1→bl C T α μ' s'→s1.gens=s'.gens→(∀b,b∉outer.filterMap (·.frame)→s.heap.get? b≠none→∀o,s1.heap.get? b=some o→s'.heap.get? b=some o)→(∀b o,s1.heap.get? b=some o→(∀vs,o.data≠ .fields vs)→∃sl,s'.heap.get? b=some {o with slots:=sl})→aJ s'.heap (T++ai α μ') (.ref r) (.list [])→Q (.ref r) s')→
    wpAny (model C.prog C.w) A (call (.ref fa) [.ref a]) Q E s:=by
 refine dj (Nd G hv) λfv ov fdv g1 g2 g3 pvs=>?_;refine ft h λfa o pm cd doc h1 h2 h3 h4=>?_;refine (dy fa o _ h1 h2 h3 (λA T α μ μ' s i a outer Q E R I ha hst hfr hff hout hQ=>?_));refine mH (Vs:=[.c i]) ["tape"] h2 h3 h4 (jD λzz=> ∅) (of_decide_eq_true ∅) ∅ ∅ ∅ ∅ (by have:=R.depth;unfold recursionLimit;lia) I ⟨(aZ a ha rfl),trivial⟩ rfl λL O h₁ tk hL hLO hO I1 S1 F1 hk1=>?_
 generalize henv:envOfC "_law_beyond" (ao (ay 69)) L fa cd=env at F1⊢
 have hef:env.frame=some L:=by rw [←henv];rfl
 have hek:env.scope.kind≠ .module:=by rw [←henv];show (ao (ay 69)).kind≠ .module;rw [show (ao (ay 69)).kind=.function from ∅];decide
 have R2:cP (A.deeper env) 3:=⟨by have:=R.depth;show A.depth+1+4*3<600;lia,by have:=R.units;show A.units+3+200*3+400<cLine;lia,R.handled⟩;have hfr2:(A.deeper env).frames=some (env::outer):=Pm hfr;have hnsD:∀ {ρ:d0} {s1:Shared} {α1:List Addr} {M:List Addr},bh C UF env O ρ s1.heap α1 M→Ld s1.heap L:= λF=>by
  refine au F.loc λm zp1 zz=>?_;refine jq zp1 λob es ep z d zz=>?_;rw [show env.locals=L by rw [←henv];rfl] at z
  exact (lG ob es ep z d)
 have hff1:FF h₁ (env::outer):= λenv' he=>by
  rcases C1.mp he with rfl|he
  ·exact (gO hek L hef (hnsD (s1:= {s with heap:=h₁}) F1))
  ·obtain ⟨hk,L',hL',o',es,m,ho',hd⟩:=hff env' he
   exact ⟨hk,L',hL',o',es,m,hk1 _ _ ho',hd⟩
 have hstop:C.mg "StopIteration"=none:=G.no _ ∅
 refine Kd (wpAny_Try_except ?_);refine Kd (wpAny_Return_some (List_ ?_));refine Rw ?_;refine yK (m:=eval (.Name "_parse_varint" _) env) (F6 (by rw [F1.sc];kernel_rfl) (by unfold IC;rw [F1.sc];kernel_rfl) (L6 (by rw [F1.gl];exact C.g.keeps I1.keep) g1 ?_) ∅);refine MB (o:=ov) (fd:=fdv) (ee (n:=3) (fs:=[a9 0]) ∅ (dz (λzz=> ∅) xd ae) R2 I1 F1 (Vs:=[.c i]) (μ1:=μ) rfl λvs s2 α2 I2 S2 r2=>⟨⟨I2.keep _ _ g2,g3⟩,?_⟩);have hα:α2=α:=by
  refine au S2.pre λδ e zz=>?_
  have:=I2.len
  rw [←I.len,e,be] at this
  have hz:δ=[]:=OF.mp (by lia);rw [e,hz,DN]
 subst hα
 match vs,r2 with
 | [v],r2=>
 refine au r2.1 λa' ha' zq2=>?_;subst zq2;rw [ha] at ha';cases ha'
 have S02:aV [] α2 μ s α2 μ s2:=S1.trans S2;have hff2:FF s2.heap (env::outer):=FF.step (s:= {s with heap:=h₁,toks:=tk}) hff1 I1 S2 (λzz zz q=>by simp at q);refine pvs _ T α2 μ μ' s2 i a (env::outer) _ _ R2 I2 ha hst hfr2 hff2 λe s' fly=>?_;refine jY fly λs1 h' base t LV zq5 I3 S3 hLV hLVf hgh hfl hup=>?_;subst zq5;refine wpAny_looks_onW hfr2 hef hfl λh5 held up5=>?_;refine wpAny_landsW held λh6 fly6 up6=>?_;have nb:∀b,s.heap.get? b=none→C.B.get? b=none:= λb z=>by
  cases q:C.B.get? b with
  |none=>rfl
  |some o=>have:=I.keep b o q;rw [z] at this;cases this
 have hLV0:s.heap.get? LV=none:=dW S02.dom hLV;have hS:∀b,b∈LV::(env::outer).filterMap (·.frame)→b=LV∨b=L∨b∈outer.filterMap (·.frame):= λb hb=>by
  rw [NX,hef] at hb
  simpa using hb
 have hSb:∀b,b∈LV::(env::outer).filterMap (·.frame)→C.B.get? b=none:= λb hb=>by
  rcases hS b hb with rfl|rfl|hb
  ·exact nb _ hLV0
  ·exact nb _ hL
  ·exact (hout b hb).2
 have keepB:∀ {hh:Heap},base.StaysIn hh→∀b o,C.B.get? b=some o→hh.get? b=some o:= λ{hh} st b o z=>st b o ((hgh b λq=>by rw [hSb b q] at z;cases z).trans (I3.keep b o z));refine wpAny_handleBy_builtin (X:="StopIteration") (T:="StopIteration") (b:=true) (by rw [Sl];kernel_rfl) (by rw [Sl];kernel_rfl) (by rw [Sl];kernel_rfl) ?_;refine F6 (by rw [F1.sc];kernel_rfl) (by unfold IC;rw [F1.sc];kernel_rfl) (Lg (by rw [F1.gl];exact C.g.keeps (keepB fly6.1)) hstop (by rw [F1.bn];exact C.b.keeps (keepB fly6.1)) ((C.bt _ (by decide+kernel)).trans (∅ :bootBuiltins "StopIteration"=some (.type "StopIteration"))) ?_) ∅
 refine (fm rfl fly6.there ?_);rw [if_pos rfl];refine lands_againW fly6 λh7 fly7 up7=>?_;refine Kd (wpAny_Return_some (List_ (So (HA ?_ (by size_fits)))));have hup7:s1.heap.UpToSlots h7:=((hup.trans up5).trans up6).trans up7;have hff3:FF s1.heap (env::outer):=FF.step hff2 I2 S3 (λzz zz q=>by simp at q);have hkeep:∀b o,b∉LV::(env::outer).filterMap (·.frame)→s1.heap.get? b=some o→(h7.push {cls:=.type "list",data:=.seq ([]:List Value).toArray}).get? b=some o:= λb o hb z=>Bt _ (fly7.1 b o ((hgh b hb).trans z));have I4:=I3.frames' (O:=LV::(env::outer).filterMap (·.frame)) (h':=h7.push {cls:=.type "list",data:=.seq ([]:List Value).toArray}) (tk:=s1.toks) (λb o z hb=>hkeep b o (λq=>hb q) z) (λb hb=>⟨?_,hSb b hb⟩) λb hb hT=>?_
 ·refine hQ _ s1 _ I3 (S02.trans S3) I4 rfl (λb hb hd o z=>hkeep b o (λq=>?_) z) (λb o z hn=>?_) ?_
  ·rcases hS b q with rfl|rfl|q
   ·exact hd hLV0
   ·exact hd hL
   ·exact hb q
  ·refine bP (hup7 b o z hn) λsl z'=>?_
   exact ⟨sl,Bt _ z'⟩
  ·refine aJ.list (vs:= #[]) ⟨0,Dp _ rfl⟩ (by simpa using aw.nil _ _) λq=>?_
   have hn:h7.get? h7.objs.size=none:=bw (DW _)
   have:=I3.mdom _ q
   cases z:s1.heap.get? h7.objs.size with
   |none=>exact this z
   |some o=>
    by_cases hv:∀vs,o.data≠ .fields vs
    ·refine bP (hup7 _ _ z hv) λsl z'=>?_
     rw [hn] at z';cases z'
    ·by_cases hm:h7.objs.size∈LV::(env::outer).filterMap (·.frame)
     ·rcases C1.mp hm with q|hm
      ·refine au hLVf λo' z' q'=>?_
       rw [←q,z] at z';cases z'
       rcases q' with ⟨es,m,d⟩| ⟨w,d⟩<;>exact hv λvs q2=>by rw [d] at q2;cases q2
      ·refine fy (FF.mem hff3 hm) λo' es m z' d=>?_
       rw [z] at z';cases z'
       exact hv λvs q2=>by rw [d] at q2;cases q2
     ·have:=fly7.1 _ _ ((hgh _ hm).trans z)
      rw [hn] at this;cases this
 ·rcases C1.mp hb with rfl|hb
  ·exact hLVf
  ·exact (FF.mem hff3 hb).frameAt
 ·rcases hS b hb with rfl|rfl|hb
  ·refine bP (I.tdom _ hT) λo z=>?_;rw [hLV0] at z;cases z
  ·refine bP (I.tdom _ hT) λo z=>?_;rw [hL] at z;cases z
  ·exact (hout b hb).1 hT
end
noncomputable def ab9(C:gK)(cx:Cx)(env:Env)(O T α:List Addr)(μ:List ah)(s:Shared)(ρ:d0)(μ':List ah)(V:AV):Value→Shared→Prop:= λv s'=>
 ∃α',bl C T α' μ' s'∧aV O α μ s α' μ' s'∧bh C cx env O ρ s'.heap α' (T++ai α' μ')∧bm s'.heap α' (T++ai α' μ') v V
structure vx (C:gK) (n:Nat) (cx:Cx) (e:Expr) (f:EF):Prop where
 of::
 run:∀A env O T ρ α μ s E V μ',cP A n→A.frames=some [env]→env.frame=some env.locals→bl C T α μ s→bh C cx env O ρ s.heap α (T++ai α μ)→f ρ μ=some (V,μ')→
  wpAny (model C.prog C.w) A (eval e env) (ab9 C cx env O T α μ s ρ μ' V) E s
structure Bf (C:gK) (n:Nat) (cx:Cx) (st:Stmt) (f:SF):Prop where
 of::
 run:∀A env O T ρ α μ s E fl ρ' μ',cP A n→A.frames=some [env]→env.frame=some env.locals→bl C T α μ s→bh C cx env O ρ s.heap α (T++ai α μ)→f ρ μ=some (fl,ρ',μ')→
  wpAny (model C.prog C.w) A (exec st env) (ig C cx env O T α μ s fl ρ' μ') E s
structure qF (C:gK) (n:Nat) (cx:Cx) (sts:List Stmt) (f:SF):Prop where
 of::
 run:∀A env O T ρ α μ s E fl ρ' μ',cP A n→A.frames=some [env]→env.frame=some env.locals→bl C T α μ s→bh C cx env O ρ s.heap α (T++ai α μ)→f ρ μ=some (fl,ρ',μ')→
  wpAny (model C.prog C.w) A (execs sts env) (ig C cx env O T α μ s fl ρ' μ') E s
section
theorem dq{f:SF}(h:aQ C n cx st f):Bf C n cx st f:=.of λA env O T ρ α μ s E fl ρ' μ' R zz zz I F q=>h.run A env O T ρ α μ s E fl ρ' μ' R I F q
theorem Tc:qF C n cx [] aP:=.of λA env O T ρ α μ s E fl ρ' μ' R zz zz I F q=>aN.run A env O T ρ α μ s E fl ρ' μ' R I F q
theorem c9{rest:List Stmt}{f g:SF}(hf:Bf C n cx st f)(hg:qF C n cx rest g):qF C n cx (st::rest) (ap f g):=by
 refine .of ?_;intro A env O T ρ α μ s E fl ρ' μ' R hA hef I F h;refine aD h λfl1 p e1 h=>Kd (D3 (hf.run A env O T ρ α μ s E _ _ _ R hA hef I F e1) (λr s1 pp=>eB pp λα1 I1 S1 F1 r1=>?_) λzz zz x=>x);cases fl1 with
 |next=>subst r1;exact D3 (hg.run A env O T p.1 α1 p.2 s1 E fl ρ' μ' R hA hef I1 F1 h) (λr s2 p=>ig.trans S1 p) λzz zz x=>x
 |brk=>subst r1;exact gp h (c_ α1 I1 S1 F1 rfl)
 |ret V=>exact au r1 λv zq1 rv=>by subst zq1;exact gp h (jd α1 I1 S1 F1 v rfl rv)
theorem pG(hO:∀a∈O,bW h a∧C.B.get? a=none):iH O T h:= λa ha=>.inr (.inl (hO a ha).1)
theorem K3{l r:Expr}{o:AV→AV→List ah→Option (AV×List ah)}(hl:vx C n cx l f)(hr:vx C n cx r g)(ho:je C n op o):vx C n cx (.BinOp l op r pos) (aj f g o):=by
 refine .of ?_;intro A env O T ρ α μ s E V μ' R hA hef I F h;refine aD h λVa μ1 e1 h=>aD h λVb μ2 e2 h=>?_;refine wpAny_BinOp (D3 (hl.run A env O T ρ α μ s E Va μ1 R hA hef I F e1) (λa s1 p1=>?_) λzz zz x=>x);refine eB p1 λα1 I1 S1 F1 r1=>?_;refine D3 (hr.run A env O T ρ α1 μ1 s1 E Vb μ2 R hA hef I1 F1 e2) (λb s2 p2=>?_) λzz zz x=>x;refine eB p2 λα2 I2 S2 F2 r2=>?_;refine D3 (ho A T α2 μ2 s2 E a b Va Vb V μ' R I2 (r1.stepO S2 (pG F1.own) λa ha=>.inl ha) r2 h) (λv s3 p=>?_) λzz zz x=>x;refine cm p λα3 I3 S3 r3=>?_;exact (c_ α3 I3 ((S1.trans S2).trans S3.up) (F2.step I2 S3) r3)
theorem Tf(hf:vx C n cx e f)(hx:aA C cx x i)(hs:∀env,env.scope=cx.scope→swapsWith e (some (.Name x px)) pos.line env=pure false):Bf C n cx (.Assign [.Name x px] e pos) (c6 i f):=by
 refine .of ?_;intro A env O T ρ α μ s E fl ρ' μ' R hA hef I F h;refine aD h λV μ1 e1 h=>gp h (M4 (D3 (hf.run A env O T ρ α μ s E _ _ R hA hef I F e1) (λv s1 p=>eB p λα1 I1 S1 F1 r1=>?_) λzz zz x=>x) (hs env F.sc));exact D3 (hx A env O T ρ α1 _ s1 E v V I1 F1 r1) (λzz s2 st=>kb S1 st) λzz zz x=>x
end
theorem JZ{f:SF}{x:PyData}(h:cy k sc f Vs μ=some (.d x,μ')):μ'.length≤μ.length:=by
 have t:∀ν:List ah,(ν.take μ.length).length≤μ.length:= λν=>by rw [LG];exact Uj ..
 refine i6 h λzz h=>aD h λfl p zz h=>?_;cases fl with
 |next=>cases (h:some (AV.d .none,p.2.take μ.length)=some (.d x,μ'));exact t p.2
 |brk=>exact ct h
 |ret W=>
  cases W with
  |d y=>cases (h:some (AV.d y,p.2.take μ.length)=some (.d x,μ'));exact t p.2
  |_=>exact nomatch (Ff h)
def UV(C:gK)(n:Nat):Prop:=cI C∧di C "_parse_varint" 8∧di C "_law_beyond" 69∧aI C n "_law_beyond" (cy 1 (ao (ay 69)) (ap f69 aP))∧4≤n
theorem rL{x:PyData}(h:aS [.c i] μ=some (.d x,μ')):cy 1 (ao (ay 69)) (ap f69 aP) [.c i] μ=some (.d (.list [x]),μ'):=by
 have hl:μ'.take μ.length=μ':=F9 (JZ h);have ec:af [a9 0] aS (cC (ao (ay 69)) [.c i]) μ=some (.d x,μ'):=h;have e1:aU [af [a9 0] aS] (cC (ao (ay 69)) [.c i]) μ=some (.d (.list [x]),μ'):=by
  refine (?_:bp (eY [af [a9 0] aS] _ _) _=_);refine rA (zb ec) ?_;exact if_pos (e:=none) (by show 1≤sizeLine;decide)
 have e2:ap f69 aP (cC (ao (ay 69)) [.c i]) μ=some (.ret (.d (.list [x])),cC (ao (ay 69)) [.c i],μ'):=by
  simp only [ap,f69,fe,e1,bpS];rfl
 unfold cy XY;rw [if_pos (show [AV.c i].length=1 from rfl),e2];exact congrArg (λz=>some (AV.d (.list [x]),z)) hl
theorem bh.slots(F:bh C cx env O ρ s.heap α (T++ai α μ))(I:bl C T α μ s)(S1:aV [] α μ s α μ' s1)
  (S:aV O α μ s α μ' s') (keep:∀b,b≠env.locals→s.heap.get? b≠none→∀o,s1.heap.get? b=some o→s'.heap.get? b=some o) (up:∀b o,s1.heap.get? b=some o→(∀vs,o.data≠ .fields vs)→∃sl,s'.heap.get? b=some {o with slots:=sl}):bh C cx env O ρ s'.heap α (T++ai α μ'):=by
 have hOk:=pG F.own (T:=T);have fr:∀a o,s.heap.get? a=some o→bW s.heap a→s1.heap.get? a=some o:= λa o z fa=>S1.ext a o z λq=>I.notFrame (db q) fa;have mv:∀ {v V},bm s.heap α (T++ai α μ) v V→bm s'.heap α (T++ai α μ') v V:= λr=>r.stepO S hOk λzz=>.inl;refine ⟨F.sc,F.gl,F.bn,F.len,au F.loc λm hm hl=>aZ m (jq (id hm) λob es ep z d r=>bP (up _ ob (fr _ _ z (fT hm)) λvs q=>nomatch d.symm.trans q) λsl z'=>pj _ es ep z' d r) λi y V h1 h2=>au (hl i y V h1 h2) λv e r=>aZ v e (mv r),au F.loc λm hm zz=>bP F.cel λcad hc=>⟨cad,hc.look,λi y k h1 h2=>au (hc.has i y k h1 h2) λo ho hv=>aZ o (au (id ho) λob z d=>aZ ob (keep _ (λq=>lI hm (q▸ho)) (λq=>nomatch q.symm.trans z) ob (fr _ _ z (hH ho))) d) λV h3=>au (hv V h3) λv e r=>aZ v e (mv r),hc.own,hc.inj⟩,λa ha=>⟨?_,(F.own a ha).2⟩,F.lo,λa ha q=>(S.hm (T:=T) (λzz=>.inl) a ha).elim (λz=>F.off a z q) (F.frA q).dom,F.nd⟩;refine au ((F.own a ha).1) λo z q=>?_;refine bP (up _ o (fr _ _ z (F.own a ha).1) λvs q2=>by rcases q with ⟨es,n,q⟩| ⟨v,q⟩<;>rw [q] at q2<;>cases q2) λsl z'=>?_;exact (aZ _ z' q)
theorem oc(B:UV C n)(he:ab C n cx e f)(hs:∀env,starEach [e] env=(false,eval e env)::starEach [] env)
  (hl:cx.scope.names.lookup ("_law_beyond":Str)=some .globalImplicit) (hk:cx.scope.kind=.function):vx C n cx (.Call (.Name "_law_beyond" xp) [e] [] pos) (af [f] cO):=by
 refine ij B λG hv hb hn h4=>?_;refine .of ?_;intro A env O T ρ α μ s E V μ' R hA hef I F h;refine aD h λVs μ1 hev h=>ax h λV0 el h=>ax h λi ei h=>?_;cases e1:aS [.c i] μ1 with
 |some p=>
  rw [e1] at h
  refine ax h λx ex h=>cg h ?_;have e2:aS [.c i] μ1=some (.d x,p.2):=by rw [e1,←iN ex]
  refine (cc (xp:=xp) (pos:=pos) hn (dz hs he ae) hs hl hk ∅).go R I F ?_ λv s1 α1 I1 S1 r1=>c_ α1 I1 S1.up (F.step I S1) r1;refine (?_:bp (eY [f] ρ μ) _=_);rw [hev,Wa el,Ch ei];exact rL e2
 |none=>
  rw [e1] at h
  refine ax h λμ2 e2 h=>?_;cases (h:some (AV.d (.list []),μ2)=some (V,μ'));refine dj (xg G hv hb) λfa o fd g1 g2 g3 st=>?_;refine (?_:wpAny _ A (do callWith pos (←eval (.Name "_law_beyond" xp) env) [] (backTo pos (starEach [e] env)) []) _ _ s);refine yK (F6 (by rw [F.sc];exact hk) (by unfold IC;rw [F.sc];exact hl) (L6 (by rw [F.gl];exact C.g.keeps I.keep) g1 ?_) ∅);refine MB (o:=o) (fd:=fd) (ee (fs:=[f]) (hs env) (dz hs he ae) R I F hev λvs s1 α1 I1 S1 r1=>⟨⟨I1.keep _ _ g2,g3⟩,?_⟩);refine gE r1 el λv z rv=>au (Gg ei rv) λa ha z2=>?_;subst z;subst z2;have F1:=F.step I S1;have hfm:∀L,L∈[env].filterMap (·.frame)→L=env.locals:= λL hL=>by simpa [hef] using hL
  refine st A T α1 μ1 μ' s1 i a [env] _ _ (R.mono h4) I1 ha e2 hA (λenv' he'=>?_) (λL hL=>?_) λr s2 s' I2 S2 I' hgn keep up rel=>?_
  ·obtain rfl:env'=env:=by simpa using he'
   refine au F1.loc λm zp1 zz=>?_;refine jq zp1 λob es ep z d zz=>?_;exact ⟨by rw [F.sc,hk];decide,env'.locals,hef,ob,es,ep,z,d⟩
  ·rw [hfm L hL]
   exact ⟨λq=>F1.off _ (yg _ q) (.inr F1.lo),(F1.own _ F1.lo).2⟩
  ·have keep':∀b,b≠env.locals→s1.heap.get? b≠none→∀o,s2.heap.get? b=some o→s'.heap.get? b=some o:= λb hb=>keep b (λq=>hb (hfm b q))
   have S':aV O α1 μ1 s1 α1 μ' s':=⟨S2.pre,λb o z hb=>keep' b (λq=>hb (yg _ (q▸F1.lo))) (by rw [z];simp) o (S2.ext b o z λq=>hb (D1 _ (by simpa using q))),S2.mts,λb o z=>by
    by_cases q:b=env.locals
    ·refine bH (ES q) ?_
     refine au ((F1.step I1 S2).loc) λm zp1 zz=>?_;refine jq zp1 λob es ep z' d zz=>?_;refine bP (up _ ob z' λvs q=>by rw [d] at q;cases q) λsl z2=>?_;exact ⟨_,z2⟩
    ·refine bP (S2.dom b o z) λo' z'=>?_
     exact ⟨o',keep' b q (by rw [z];simp) o' z'⟩,λi x z=>by rw [←hgn];exact S2.gens i x z⟩
   exact (c_ α1 I' (S1.up.trans S') (F1.slots I1 S2 S' keep' up) rel)
end Mine
namespace Mine
open PySem PySem.W PySem.Calls PyProof.Rows
variable {V V' : AV} {Cn D L TI TO a fa i1 i2 i3 z : Addr} {A : Around} {items zs : Array Value} {sh tup : Bool} {cf : CF} {c c' : ah} {C : gK} {cx : Cx} {f fi fo g : EF} {cenv env : Env} {mean : ExcName → Option Value} {e e1 e2 elt iter target test : Expr} {fl : Fl} {h h' : Heap} {itf : IF} {y : Int} {Vs : List AV} {M M' O T T' W wr α α' α1 α₀ : List Addr} {Mid : List Addr → List Addr → List Addr → List ah → Nat → Value → Shared → Prop} {St : List Addr → xH} {μ μ' μ'' μ1 μ2 μ3 μ₀ : List ah} {fs : List EF} {es : List Expr} {K cs ns os rest : List Int} {gi ls m ps : List Nat} {X acc acc' ds xs ys : List PyData} {body orelse : List Stmt} {vs : List Value} {ρ ρ' ρ1 ρ2 : d0} {tf : d0 → PyData → Option d0} {b i j ja jt k kk low mask n p q tk : Nat} {o : Obj} {op : Operator} {ha ke td te tx : Option AV} {hi lo : Option Expr} {gg : Option Nat} {apos pos px py sp tp xp : Pos} {prog : Program} {G : Prop} {d : PyData} {sc scope : Scope} {s s' s'' s1 s₀ : Shared} {spec : a_} {st : Stmt} {name x : Str} {t : TF} {u : Tok} {cd cls doc fv it pm v : Value} {E Q : Value → Shared → Prop} {w : World}
section
set_option genInjectivity false in
structure mB (C:gK) (n:Nat):Prop where
 h_law_numbers:aI C n "_law_numbers" gz
 h_law_octets:aI C n "_law_octets" fV
 h_law_formula:aI C n "_law_formula" aC
 h_law_beyond:UV C n
 hISTERMINAL:aI C n "ISTERMINAL" cq
 hISNONTERMINAL:aI C n "ISNONTERMINAL" bQ
 hISEOF:aI C n "ISEOF" fx
 h_law_units:aI C n "_law_units" bB
 hL:Cs C n "_iter_escaped_chars" aE
 h_strip_quoted_realnames:aI C n "_strip_quoted_realnames" aM
 h_iter_escaped_chars:gL C n "_iter_escaped_chars" aE
 h_check_parenthesis:aI C n "_check_parenthesis" ar
 h_pre_parse_validation:aI C n "_pre_parse_validation" aX
 h_law_proved:aI C n "_law_proved" aO
 h_law_graph:aI C n "_law_graph" aW
 h_law_joined:aI C n "_law_joined" dc
 hpretty_flags:aI C n "pretty_flags" cM
abbrev bC:Cx:=df (ao (ay 73))
theorem E1:aA C bC "cells" 1:=bu 1 ∅
abbrev tm:Scope:=jM [(".0",.local),("k",.local),("cell",.local),("sum",.globalImplicit),("script",.free)]
abbrev o9:Cx:=bR bC tm
theorem Nb:aA C o9 "k" 31:=bu 31 ∅
theorem yW:aA C o9 "cell" 32:=bu 32 ∅
theorem zn:ab C n o9 (.Name "cell" pos) (a9 32):=b9 32 ∅
theorem tA:ab C n o9 (.Name "script" pos) (a9 0):=bE 0 3 ∅ (by decide) ∅ ∅ ∅
theorem Ps:ab C n o9 (.Name "k" pos) (a9 31):=b9 31 ∅
abbrev uu:Scope:=jM [(".0",.local),("x",.local)]
abbrev J6:Cx:=bR o9 uu
theorem N4:aA C J6 "x" 33:=bu 33 ∅
theorem Mo:ab C n J6 (.Name "x" pos) (a9 33):=b9 33 ∅
def xr:SF:=(g9 1 tm (b_ [(aU [(kI 125),(kI 9),(kI 187),(kI 70),(kI 428),(kI 191)])] f_) (ji 31 32) (cW bg (aY (aj (a9 32) (af [(cb uu (aK false (vm (a9 0) (aL (a9 31)) (aL (kI 60)) (aL (kI 6)))) (du 33) (cW bg (aY (aj (a9 33) (kI 5040) (aR co)))))] wy) aT))) false)
theorem Fz(G:cI C)(h2:2≤n):aQ C n bC (dC (aq (ay 73)) 0) xr:=(gy false (bx ∅ h2 (λzz zz=>rfl) (bN _ _ _ _ _ _) (k9 (fv:=.type "enumerate") (G.no _ ∅) ∅ ∅ (bD _) iO (ag rfl (bc (ag rfl am (ag rfl am (ag rfl am (ag rfl am (ag rfl am (ag rfl am ae))))))) ae) (λzz=>rfl) (λzz=>rfl) ∅ ∅ ∅) (eS Nb yW) cG (bZ (av zn (cn (fv:=.builtin "sum") (G.no _ ∅) ∅ ∅ (bf _) zo (ag rfl (cD (bx ∅ h2 (λzz zz=>rfl) (bN _ _ _ _ _ _) (c5 (Ox tA (cw Ps) (cw am) (cw am) (λzz zz=>rfl))) (bM N4) cG (bZ (av Mo am dk)))) ae) (λzz=>rfl) (λzz=>rfl) ∅ ∅ ∅) br))) E1 (f6 ∅ ∅ ∅ ∅))
theorem Dz:aA C bC "total" 2:=bu 2 ∅
theorem i4:ab C n bC (.Name "cells" pos) (a9 1):=b9 1 ∅
def wC:SF:=(c6 2 (af [(a9 1)] wy))
theorem GM(G:cI C)(h2:2≤n):aQ C n bC (dC (aq (ay 73)) 1) wC:=(bF (cn (fv:=.builtin "sum") (G.no _ ∅) ∅ ∅ (bf _) zo (ag rfl i4 ae) (λzz=>rfl) (λzz=>rfl) ∅ ∅ ∅) Dz (λzz zz=> ∅))
theorem DP:aA C bC "mates" 3:=bu 3 ∅
theorem gc:ab C n bC (.Name "total" pos) (a9 2):=b9 2 ∅
def vd:SF:=(c6 3 (aF (aU [(aU [(kI 5),(kI 4),(kI 3),(kI 2),(kI 1),(kI 0)]),(aU [(kI 5),(kI 2),(kI 1),(kI 4),(kI 3),(kI 0)]),(aU [(kI 3),(kI 2),(kI 1),(kI 0),(kI 5),(kI 4)]),(aU [(kI 1),(kI 0),(kI 5),(kI 4),(kI 3),(kI 2)]),(aU [(kI 1),(kI 0),(kI 3),(kI 2),(kI 5),(kI 4)])]) (aj (aj (a9 2) (kI 5) (aR cN)) (kI 5) (aR co))))
theorem HQ(G:cI C)(h2:2≤n):aQ C n bC (dC (aq (ay 73)) 2) vd:=(bF (bj (bc (ag rfl (bc (ag rfl am (ag rfl am (ag rfl am (ag rfl am (ag rfl am (ag rfl am ae))))))) (ag rfl (bc (ag rfl am (ag rfl am (ag rfl am (ag rfl am (ag rfl am (ag rfl am ae))))))) (ag rfl (bc (ag rfl am (ag rfl am (ag rfl am (ag rfl am (ag rfl am (ag rfl am ae))))))) (ag rfl (bc (ag rfl am (ag rfl am (ag rfl am (ag rfl am (ag rfl am (ag rfl am ae))))))) (ag rfl (bc (ag rfl am (ag rfl am (ag rfl am (ag rfl am (ag rfl am (ag rfl am ae))))))) ae)))))) (av (av gc am eO) am dk) (λzz zz=>rfl)) DP (λzz zz=> ∅))
theorem vA:aA C bC "numbers" 4:=bu 4 ∅
theorem j5:ab C n bC (.Name "mates" pos) (a9 3):=b9 3 ∅
def vo:SF:=(c6 4 (af [(a9 1),(a9 2),(a9 3)] gz))
theorem KD(G:cI C)(h2:2≤n)(H:mB C n):aQ C n bC (dC (aq (ay 73)) 3) vo:=(bF (cc H.h_law_numbers (ag rfl i4 (ag rfl gc (ag rfl j5 ae))) (λzz=>rfl) ∅ ∅ ∅) vA (λzz zz=> ∅))
theorem NE:aA C bC "low" 5:=bu 5 ∅
theorem N2:aA C bC "far" 6:=bu 6 ∅
def xD:SF:=(vh 5 6 (cX [(aj (a9 2) (kI 13) (aR co)),(aj (aj (aj (aj (a9 2) (kI 13) (aR cN)) (kI 5) (aR co)) (kI 3) (aR λx y=>some (x-y))) (aj (kI 2) (kI 32) (aR gu)) l8)]))
theorem G8(G:cI C)(h2:2≤n)(H:mB C n):aQ C n bC (dC (aq (ay 73)) 4) xD:=(AQ (cU (ag rfl (av gc am dk) (ag rfl (av (av (av (av gc am eO) am dk) am iX) (av am am iY) pv) ae))) NE N2 (λzz=>rfl) (xv ∅ ∅ ∅ ∅ ∅ ∅ ∅ ∅))
theorem Ef:aA C bC "great" 7:=bu 7 ∅
theorem iW:ab C n bC (.Name "numbers" pos) (a9 4):=b9 4 ∅
abbrev tl:Scope:=jM [(".0",.local),("number",.local)]
abbrev JD:Cx:=bR bC tl
theorem um:aA C JD "number" 31:=bu 31 ∅
theorem mO:ab C n JD (.Name "number" pos) (a9 31):=b9 31 ∅
theorem oZ:ab C n bC (.Name "low" pos) (a9 5):=b9 5 ∅
def vJ:SF:=(c6 7 (aj (aj (aj (aj (kI 2) (af [(cb tl (aK false (a9 4)) (du 31) (cW (bA (a9 31) (kI 274) dH) (aY (a9 31))))] dD) (aR gu)) (kI 1) (aR λx y=>some (x-y))) (aj (kI 2) (a9 5) (aR gu)) l8) (aj (kI 2) (kI 31) (aR gu)) aT))
theorem IA(G:cI C)(h2:2≤n)(H:mB C n):aQ C n bC (dC (aq (ay 73)) 5) vJ:=(bF (av (av (av (av am (cn (fv:=.builtin "len") (G.no _ ∅) ∅ ∅ (bf _) eR (ag rfl (cD (bx ∅ h2 (λzz zz=>rfl) (bN _ _ _ _ _ _) (c5 iW) (bM um) (j3 (cj mO am dJ ∅)) (bZ mO))) ae) (λzz=>rfl) (λzz=>rfl) ∅ ∅ ∅) iY) am iX) (av am oZ iY) pv) (av am am iY) br) Ef (λzz zz=> ∅))
theorem GD:aA C bC "tape" 8:=eW 8 ∅ ∅ ∅
theorem sY:ab C n bC (.Name "great" pos) (a9 7):=b9 7 ∅
def vC:SF:=(c6 8 (af [(af [(aj (a9 4) (aU [(a9 7)]) aT),(a9 1),(a9 2)] fV)] QQ))
theorem JS(G:cI C)(h2:2≤n)(H:mB C n):aQ C n bC (dC (aq (ay 73)) 6) vC:=(bF (cn (fv:=.builtin "iter") (G.no _ ∅) ∅ ∅ (bf _) OO (ag rfl (cc H.h_law_octets (ag rfl (av iW (bc (ag rfl sY ae)) br) (ag rfl i4 (ag rfl gc ae))) (λzz=>rfl) ∅ ∅ ∅) ae) (λzz=>rfl) (λzz=>rfl) ∅ ∅ ∅) GD (λzz zz=> ∅))
theorem Jd:aA C bC "told" 9:=eW 9 ∅ ∅ ∅
def wH:SF:=(c6 9 (mZ []))
theorem H9(G:cI C)(h2:2≤n)(H:mB C n):aQ C n bC (dC (aq (ay 73)) 7) wH:=(bF (jB ae) Jd (λzz zz=> ∅))
theorem FG:aA C bC "read" 10:=bu 10 ∅
abbrev Ac:Scope:=jM [(".0",.local),("turn",.local),("_law_formula",.globalImplicit),("tape",.free),("told",.free)]
abbrev y8:Cx:=bR bC Ac
theorem yl:aA C y8 "turn" 31:=bu 31 ∅
theorem yt:ab C n y8 (.Name "tape" pos) (a9 8):=bE 8 3 ∅ (by decide) ∅ ∅ ∅
theorem yT:ab C n y8 (.Name "told" pos) (a9 9):=bE 9 3 ∅ (by decide) ∅ ∅ ∅
def Br:SF:=(g9 10 Ac (aK false (af [(aF (aU [(kI 2),(kI 2),(kI 3),(kI 4)]) (aj (aj (a9 2) (kI 25) (aR cN)) (kI 4) (aR co)))] cH)) (du 31) (cW bg (aY (af [(a9 8),(a9 9)] aC))) false)
theorem K6(G:cI C)(h2:2≤n)(H:mB C n):aQ C n bC (dC (aq (ay 73)) 8) Br:=(gy false (bx ∅ h2 (λzz zz=>rfl) (bN _ _ _ _ _ _) (c5 (cn (fv:=.type "range") (G.no _ ∅) ∅ ∅ (bD _) dM (ag rfl (bj (bc (ag rfl am (ag rfl am (ag rfl am (ag rfl am ae))))) (av (av gc am eO) am dk) (λzz zz=>rfl)) ae) (λzz=>rfl) (λzz=>rfl) ∅ ∅ ∅)) (bM yl) cG (bZ (cc H.h_law_formula (ag rfl yt (ag rfl yT ae)) (λzz=>rfl) ∅ ∅ ∅))) FG (f6 ∅ ∅ ∅ ∅))
theorem yi:aA C bC "beyond" 11:=bu 11 ∅
theorem pR:ab C n bC (.Name "tape" pos) (a9 8):=bE 8 2 ∅ (by decide) ∅ ∅ ∅
def wj:SF:=(c6 11 (aj (aj (af [(a9 8)] cO) (af [(a9 8)] cO) aT) (af [(a9 8)] cO) aT))
theorem Hn(G:cI C)(h2:2≤n)(H:mB C n):Bf C n bC (dC (aq (ay 73)) 9) wj:=(Tf (K3 (K3 (oc H.h_law_beyond pR (λzz=> ∅) ∅ ∅) (oc H.h_law_beyond pR (λzz=> ∅) ∅ ∅) br) (oc H.h_law_beyond pR (λzz=> ∅) ∅ ∅) br) yi (λzz zz=> ∅))
theorem D9:aA C bC "asked" 12:=bu 12 ∅
theorem wF:ab C n bC (.Name "told" pos) (a9 9):=bE 9 2 ∅ (by decide) ∅ ∅ ∅
theorem lu:ab C n bC (.Name "beyond" pos) (a9 11):=b9 11 ∅
def pV:SF:=(c6 12 (mZ [(cX [(a9 9),(a9 4)]),(cX [(a9 11),(aU [(a9 7)])])]))
theorem EB(G:cI C)(h2:2≤n)(H:mB C n):aQ C n bC (dC (aq (ay 73)) 10) pV:=(bF (jB (ag rfl (cU (ag rfl wF (ag rfl iW ae))) (ag rfl (cU (ag rfl lu (ag rfl (bc (ag rfl sY ae)) ae))) ae))) D9 (λzz zz=> ∅))
theorem zN:aA C bC "symbol" 13:=bu 13 ∅
theorem Du:aA C bC "tests" 14:=bu 14 ∅
theorem eE:ab C n bC (.Name "symbol" pos) (a9 13):=b9 13 ∅
theorem eM:ab C n bC (.Name "asked" pos) (a9 12):=b9 12 ∅
theorem se:ab C n bC (.Name "tests" pos) (a9 14):=b9 14 ∅
abbrev mW:Scope:=jM [(".0",.local),("one",.local),("isinstance",.globalImplicit),("bool",.globalImplicit)]
abbrev Jv:Cx:=bR bC mW
theorem D_:aA C Jv "one" 31:=bu 31 ∅
theorem Dx:ab C n Jv (.Name "one" pos) (a9 31):=b9 31 ∅
def p_:SF:=(jH (aK false (aj (aj (a9 9) (a9 11) aT) (aU [(kI 255),(kI 256),(jk (kI 256)),(aj (a9 2) (kI 2000) (aR λx y=>some (x-y)))]) aT)) (du 13) (ap (c6 14 (aU [(af [(a9 13)] cq),(af [(a9 13)] bQ),(af [(a9 13)] fx)])) (ap (ci (ef (a9 12) (cX [(aj (aj (aU [(af [(a9 13),(kT "int")] gw)]) (cb mW (aK false (aj (aU [(a9 13)]) (a9 14) aT)) (du 31) (cW bg (aY (af [(a9 31),(kT "bool")] gw)))) aT) (a9 14) aT),(aU [(kB true),(kB false),(kB true),(kB true),(kB true),(dZ (aj (a9 13) (kI 256) (aR cN)) (kI 1) (d_ λx y=>decide (x<y))),(dZ (aj (a9 13) (kI 256) (aR cN)) (kI 0) (d_ λx y=>decide (y<x))),(yb (a9 13))])]))) aP)) aP)
theorem Dc(G:cI C)(h2:2≤n)(H:mB C n):aQ C n bC (dC (aq (ay 73)) 11) p_:=(gb h2 (c5 (av (av wF lu br) (bc (ag rfl am (ag rfl am (ag rfl (nz am) (ag rfl (av gc am iX) ae))))) br)) (bM zN) (ak (bF (bc (ag rfl (cc H.hISTERMINAL (ag rfl eE ae) (λzz=>rfl) ∅ ∅ ∅) (ag rfl (cc H.hISNONTERMINAL (ag rfl eE ae) (λzz=>rfl) ∅ ∅ ∅) (ag rfl (cc H.hISEOF (ag rfl eE ae) (λzz=>rfl) ∅ ∅ ∅) ae)))) Du (λzz zz=> ∅)) (ak (cK (cv (λzz=>rfl) eM (cU (ag rfl (av (av (bc (ag rfl (cn (fv:=.builtin "isinstance") (G.no _ ∅) ∅ ∅ (bf _) sj (ag rfl eE (ag rfl (Yg (G.no _ ∅) ∅ ∅ ∅ ∅ ∅) ae)) (λzz=>rfl) (λzz=>rfl) ∅ ∅ ∅) ae)) (cD (bx ∅ h2 (λzz zz=>rfl) (bN _ _ _ _ _ _) (c5 (av (bc (ag rfl eE ae)) se br)) (bM D_) cG (bZ (cn (fv:=.builtin "isinstance") (G.no _ ∅) ∅ ∅ (bf _) sj (ag rfl Dx (ag rfl (Yg (G.no _ ∅) ∅ ∅ ∅ ∅ ∅) ae)) (λzz=>rfl) (λzz=>rfl) ∅ ∅ ∅)))) br) se br) (ag rfl (bc (ag rfl dh (ag rfl dh (ag rfl dh (ag rfl dh (ag rfl dh (ag rfl (fq (av eE am eO) am pL ∅) (ag rfl (fq (av eE am eO) am Hr ∅) (ag rfl (Ug eE) ae))))))))) ae))) (λzz=>rfl)) ∅ (λzz=>rfl)) aN)) aN (λzz zz=>rfl))
theorem E6:aA C bC "units" 15:=eW 15 ∅ ∅ ∅
def nW:SF:=(c6 15 (aj (af [(af [(kI 6)] cH),(a9 3),(a9 1),(kB false)] bB) (aU [(kS "\\")]) aT))
theorem Ep(G:cI C)(h2:2≤n)(H:mB C n):aQ C n bC (dC (aq (ay 73)) 12) nW:=(bF (av (cc H.h_law_units (ag rfl (cn (fv:=.type "range") (G.no _ ∅) ∅ ∅ (bD _) dM (ag rfl am ae) (λzz=>rfl) (λzz=>rfl) ∅ ∅ ∅) (ag rfl j5 (ag rfl i4 (ag rfl dh ae)))) (λzz=>rfl) ∅ ∅ ∅) (bc (ag rfl bT ae)) br) E6 (λzz zz=> ∅))
theorem J7:aA C bC "text" 16:=bu 16 ∅
theorem sM:ab C n bC (.Name "units" pos) (a9 15):=bE 15 2 ∅ (by decide) ∅ ∅ ∅
def nH:SF:=(c6 16 (dv (kS "") [(ce (a9 15) ba (aL (jk (kI 1))))] fg))
theorem Dv(G:cI C)(h2:2≤n)(H:mB C n):aQ C n bC (dC (aq (ay 73)) 13) nH:=(bF (fQ (λzz=>rfl) I_ Jb hU bT (ag rfl (dP sM dE (cw (nz am))) ae) (λzz=>rfl) (λzz=>rfl)) J7 (λzz zz=> ∅))
theorem DD:aA C bC "shorn" 17:=bu 17 ∅
def nh:SF:=(c6 17 (dv (kS "") [(af [(af [(kI 6)] cH),(a9 3),(a9 1),(kB true)] bB)] fg))
theorem Dj(G:cI C)(h2:2≤n)(H:mB C n):aQ C n bC (dC (aq (ay 73)) 14) nh:=(bF (fQ (λzz=>rfl) I_ Jb hU bT (ag rfl (cc H.h_law_units (ag rfl (cn (fv:=.type "range") (G.no _ ∅) ∅ ∅ (bD _) dM (ag rfl am ae) (λzz=>rfl) (λzz=>rfl) ∅ ∅ ∅) (ag rfl j5 (ag rfl i4 (ag rfl dh ae)))) (λzz=>rfl) ∅ ∅ ∅) ae) (λzz=>rfl) (λzz=>rfl)) DD (λzz zz=> ∅))
theorem ku:ab C n bC (.Name "text" pos) (a9 16):=b9 16 ∅
abbrev ut:Scope:=jM [(".0",.local),("k",.local),("unit",.local),("len",.globalImplicit),("units",.free)]
abbrev qB:Cx:=bR bC ut
theorem Mh:aA C qB "k" 31:=bu 31 ∅
theorem yz:aA C qB "unit" 32:=bu 32 ∅
theorem vD:ab C n qB (.Name "units" pos) (a9 15):=bE 15 3 ∅ (by decide) ∅ ∅ ∅
theorem NO:ab C n qB (.Name "k" pos) (a9 31):=b9 31 ∅
theorem yI:ab C n qB (.Name "unit" pos) (a9 32):=b9 32 ∅
def n9:SF:=(ci (ef (a9 12) (cX [(yh [(aj (a9 16) (kS "\\") aT)] aE),(cb ut (b_ [(a9 15)] f_) (ji 31 32) (cW bg (aY (cX [(aj (af [(dv (kS "") [(ce (a9 15) ba (aL (aj (a9 31) (kI 1) aT)))] fg)] dD) (kI 1) (aR λx y=>some (x-y))),(a9 32)]))))])))
theorem DV(G:cI C)(h2:2≤n)(H:mB C n):aQ C n bC (dC (aq (ay 73)) 15) n9:=(cK (cv (λzz=>rfl) eM (cU (ag rfl (Eh (G.no _ ∅) H.hL (ag rfl (av ku bT br) ae) (λzz=> ∅) ∅ ∅ ∅ ∅) (ag rfl (cD (bx ∅ h2 (λzz zz=>rfl) (bN _ _ _ _ _ _) (k9 (fv:=.type "enumerate") (G.no _ ∅) ∅ ∅ (bD _) iO (ag rfl sM ae) (λzz=>rfl) (λzz=>rfl) ∅ ∅ ∅) (eS Mh yz) cG (bZ (cU (ag rfl (av (cn (fv:=.builtin "len") (G.no _ ∅) ∅ ∅ (bf _) eR (ag rfl (fQ (λzz=>rfl) I_ Jb hU bT (ag rfl (dP vD dE (cw (av NO am br))) ae) (λzz=>rfl) (λzz=>rfl)) ae) (λzz=>rfl) (λzz=>rfl) ∅ ∅ ∅) am iX) (ag rfl yI ae)))))) ae))) (λzz=>rfl)) ∅ (λzz=>rfl))
theorem on:ab C n bC (.Name "shorn" pos) (a9 17):=b9 17 ∅
def np:SF:=(ci (ef (a9 12) (cX [(aU [(af [(a9 16)] aM),(af [(aj (a9 16) (kS "\"(") aT)] aM)]),(aU [(a9 17),(aj (a9 17) (kS "\"(") aT)])])))
theorem Dr(G:cI C)(h2:2≤n)(H:mB C n):aQ C n bC (dC (aq (ay 73)) 16) np:=(cK (cv (λzz=>rfl) eM (cU (ag rfl (bc (ag rfl (cc H.h_strip_quoted_realnames (ag rfl ku ae) (λzz=>rfl) ∅ ∅ ∅) (ag rfl (cc H.h_strip_quoted_realnames (ag rfl (av ku bT br) ae) (λzz=>rfl) ∅ ∅ ∅) ae))) (ag rfl (bc (ag rfl on (ag rfl (av on bT br) ae))) ae))) (λzz=>rfl)) ∅ (λzz=>rfl))
abbrev zI:Scope:=jM [(".0",.local),("place",.local),("unit",.local),("EXACT_TOKEN_TYPES",.globalImplicit)]
abbrev zF:Cx:=bR bC zI
theorem vV:aA C zF "place" 31:=bu 31 ∅
theorem y4:aA C zF "unit" 32:=bu 32 ∅
theorem rz:ab C n zF (.Name "unit" pos) (a9 32):=b9 32 ∅
abbrev yM:Scope:=jM [(".0",.local),("number",.local)]
abbrev Iw:Cx:=bR bC yM
theorem uZ:aA C Iw "number" 31:=bu 31 ∅
theorem mE:ab C n Iw (.Name "number" pos) (a9 31):=b9 31 ∅
def nu:SF:=(ci (ef (a9 12) (cX [(cb zI (b_ [(a9 17)] aE) (ji 31 32) (cW (bA (a9 32) (aU [(kS "("),(kS ")")]) Xh) (aY (jF ki (a9 32))))),(cb yM (aK false (a9 4)) (du 31) (cW (Ck (kI 0) (a9 31) (kI 256) (d_ λx y=>decide (x<y)) (d_ λx y=>decide (x<y))) (aY (a9 31))))])))
theorem Ei(G:cI C)(h2:2≤n)(H:mB C n):aQ C n bC (dC (aq (ay 73)) 17) nu:=(cK (cv (λzz=>rfl) eM (cU (ag rfl (cD (bx ∅ h2 (λzz zz=>rfl) (bN _ _ _ _ _ _) (zl H.h_iter_escaped_chars (ag rfl on ae) (λzz=>rfl) ∅ ∅ ∅) (eS vV y4) (j3 (cj rz (bc (ag rfl bT (ag rfl bT ae))) ZK ∅)) (bZ (KL G rz (λzz zz=>rfl) ∅ ∅)))) (ag rfl (cD (bx ∅ h2 (λzz zz=>rfl) (bN _ _ _ _ _ _) (c5 iW) (bM uZ) (j3 (MC am mE am pL pL ∅)) (bZ mE))) ae))) (λzz=>rfl)) ∅ (λzz=>rfl))
def nC:SF:=(ci (ef (a9 12) (cX [(aU [(dZ (af [(aj (a9 16) (kS "\"()\\") aT)] ar) (kB true) LH),(dZ (af [(aj (a9 16) (kS "\"(") aT)] ar) (kB false) LH),(af [(aU [])] aX)]),(aU [(kB true),(kB true),(aU [])])])))
theorem Ey(G:cI C)(h2:2≤n)(H:mB C n):aQ C n bC (dC (aq (ay 73)) 18) nC:=(cK (cv (λzz=>rfl) eM (cU (ag rfl (bc (ag rfl (fq (cc H.h_check_parenthesis (ag rfl (av ku bT br) ae) (λzz=>rfl) ∅ ∅ ∅) dh vG ∅) (ag rfl (fq (cc H.h_check_parenthesis (ag rfl (av ku bT br) ae) (λzz=>rfl) ∅ ∅ ∅) dh vG ∅) (ag rfl (cc H.h_pre_parse_validation (ag rfl (bc ae) ae) (λzz=>rfl) ∅ ∅ ∅) ae)))) (ag rfl (bc (ag rfl dh (ag rfl dh (ag rfl (bc ae) ae)))) ae))) (λzz=>rfl)) ∅ (λzz=>rfl))
theorem DK:aA C bC "proof" 18:=bu 18 ∅
theorem vN:ab C n bC (.Name "read" pos) (a9 10):=b9 10 ∅
def oi:SF:=(c6 18 (af [(ce (a9 10) ba (aL (jk (kI 1)))),(a9 3),(a9 1),(a9 12)] aO))
theorem D0(G:cI C)(h2:2≤n)(H:mB C n):aQ C n bC (dC (aq (ay 73)) 19) oi:=(bF (cc H.h_law_proved (ag rfl (dP vN dE (cw (nz am))) (ag rfl j5 (ag rfl i4 (ag rfl eM ae)))) (λzz=>rfl) ∅ ∅ ∅) DK (λzz zz=> ∅))
theorem Ej:aA C bC "joins" 19:=bu 19 ∅
def mX:SF:=(c6 19 (mZ []))
theorem Dw(G:cI C)(h2:2≤n)(H:mB C n):aQ C n bC (dC (aq (ay 73)) 20) mX:=(bF (jB ae) Ej (λzz zz=> ∅))
theorem vw:aA C bC "formula" 20:=bu 20 ∅
theorem wN:ab C n bC (.Name "formula" pos) (a9 20):=b9 20 ∅
theorem kz:ab C n bC (.Name "joins" pos) (a9 19):=b9 19 ∅
def o3:SF:=(jH (aK false (ce (a9 10) ba (aL (jk (kI 1))))) (du 20) (ap (ci (af [(a9 20),(a9 19)] aW)) aP) aP)
theorem E3(G:cI C)(h2:2≤n)(H:mB C n):aQ C n bC (dC (aq (ay 73)) 21) o3:=(gb h2 (c5 (dP vN dE (cw (nz am)))) (bM vw) (ak (cK (cc H.h_law_graph (ag rfl wN (ag rfl kz ae)) (λzz=>rfl) ∅ ∅ ∅) ∅ (λzz=>rfl)) aN) aN (λzz zz=>rfl))
theorem Dn:aA C bC "forks" 21:=bu 21 ∅
abbrev y_:Scope:=jM [(".0",.local),("join",.local)]
abbrev JI:Cx:=bR bC y_
theorem zB:aA C JI "join" 31:=bu 31 ∅
theorem qW:ab C n JI (.Name "join" pos) (a9 31):=b9 31 ∅
def og:SF:=(g9 21 y_ (aK false (a9 19)) (du 31) (cW (bA (aF (a9 31) (kI 0)) (kI 18) dH) (aY (a9 31))) false)
theorem DX(G:cI C)(h2:2≤n)(H:mB C n):aQ C n bC (dC (aq (ay 73)) 22) og:=(gy false (bx ∅ h2 (λzz zz=>rfl) (bN _ _ _ _ _ _) (c5 kz) (bM zB) (j3 (cj (bj qW am (λzz zz=>rfl)) am dJ ∅)) (bZ qW)) Dn (f6 ∅ ∅ ∅ ∅))
theorem E7:aA C bC "start" 22:=bu 22 ∅
abbrev Aj:Scope:=jM [(".0",.local),("place",.local),("mate",.local),("min",.globalImplicit)]
abbrev v0:Cx:=bR bC Aj
theorem xq:aA C v0 "place" 31:=bu 31 ∅
theorem yq:aA C v0 "mate" 32:=bu 32 ∅
theorem we:ab C n v0 (.Name "place" pos) (a9 31):=b9 31 ∅
theorem yC:ab C n v0 (.Name "mate" pos) (a9 32):=b9 32 ∅
def ng:SF:=(c6 22 (aj (cb Aj (b_ [(a9 3)] f_) (ji 31 32) (cW bg (aY (af [(a9 31),(a9 32)] Ho)))) (af [(af [(kI 6),(aj (kI 6) (af [(a9 19)] dD) aT)] cH)] mw) aT))
theorem EC(G:cI C)(h2:2≤n)(H:mB C n):aQ C n bC (dC (aq (ay 73)) 23) ng:=(bF (av (cD (bx ∅ h2 (λzz zz=>rfl) (bN _ _ _ _ _ _) (k9 (fv:=.type "enumerate") (G.no _ ∅) ∅ ∅ (bD _) iO (ag rfl j5 ae) (λzz=>rfl) (λzz=>rfl) ∅ ∅ ∅) (eS xq yq) cG (bZ (cn (fv:=.builtin "min") (G.no _ ∅) ∅ ∅ (bf _) HW (ag rfl we (ag rfl yC ae)) (λzz=>rfl) (λzz=>rfl) ∅ ∅ ∅)))) (cn (fv:=.type "list") (G.no _ ∅) ∅ ∅ (bD _) ua (ag rfl (cn (fv:=.type "range") (G.no _ ∅) ∅ ∅ (bD _) dM (ag rfl am (ag rfl (av am (cn (fv:=.builtin "len") (G.no _ ∅) ∅ ∅ (bf _) eR (ag rfl kz ae) (λzz=>rfl) (λzz=>rfl) ∅ ∅ ∅) br) ae)) (λzz=>rfl) (λzz=>rfl) ∅ ∅ ∅) ae) (λzz=>rfl) (λzz=>rfl) ∅ ∅ ∅) br) E7 (λzz zz=> ∅))
theorem y6:aA C bC "labels" 23:=bu 23 ∅
theorem CS:ab C n bC (.Name "start" pos) (a9 22):=b9 22 ∅
abbrev ul:Scope:=jM [(".0",.local),("join",.local),("part",.local)]
abbrev pd:Cx:=bR bC ul
theorem xk:aA C pd "join" 31:=bu 31 ∅
theorem jT:ab C n pd (.Name "join" pos) (a9 31):=b9 31 ∅
theorem wS:aA C pd "part" 32:=bu 32 ∅
theorem w_:ab C n pd (.Name "part" pos) (a9 32):=b9 32 ∅
def oh:SF:=(c6 23 (af [(a9 22),(cb ul (aK false (a9 19)) (du 31) (cW (bA (aF (a9 31) (kI 0)) (kI 16) dH) (gf (aK false (ce (a9 31) (aL (kI 2)) ba)) (du 32) (cW bg (aY (cX [(aF (a9 31) (kI 1)),(a9 32)]))))))] dc))
theorem CA(G:cI C)(h2:2≤n)(H:mB C n):aQ C n bC (dC (aq (ay 73)) 24) oh:=(bF (cc H.h_law_joined (ag rfl CS (ag rfl (cD (bx ∅ h2 (λzz zz=>rfl) (ie _ _ _ _ _ _ _ _ _) (c5 kz) (bM xk) (j3 (cj (bj jT am (λzz zz=>rfl)) am dJ ∅)) (kv h2 (c5 (dP jT (cw am) dE)) (bM wS) cG (cU (ag rfl (bj jT am (λzz zz=>rfl)) (ag rfl w_ ae))) (λzz zz=>rfl)))) ae)) (λzz=>rfl) ∅ ∅ ∅) y6 (λzz zz=> ∅))
theorem Ea:aA C bC "names" 24:=bu 24 ∅
def nA:SF:=(c6 24 (aU [(kS "OPTIMIZED"),(kS "NEWLOCALS"),(kS "VARARGS"),(kS "VARKEYWORDS"),(kS "NESTED"),(kS "GENERATOR"),(kS "NOFREE"),(kS "COROUTINE"),(kS "ITERABLE_COROUTINE"),(kS "ASYNC_GENERATOR")]))
theorem Eu(G:cI C)(h2:2≤n)(H:mB C n):aQ C n bC (dC (aq (ay 73)) 25) nA:=(bF (bc (ag rfl bT (ag rfl bT (ag rfl bT (ag rfl bT (ag rfl bT (ag rfl bT (ag rfl bT (ag rfl bT (ag rfl bT (ag rfl bT ae))))))))))) Ea (λzz zz=> ∅))
theorem C_:aA C bC "words" 25:=bu 25 ∅
theorem CR:ab C n bC (.Name "names" pos) (a9 24):=b9 24 ∅
abbrev tH:Scope:=jM [(".0",.local),("place",.local),("hex",.globalImplicit)]
abbrev Cc:Cx:=bR bC tH
theorem uv:aA C Cc "place" 31:=bu 31 ∅
theorem tO:ab C n Cc (.Name "place" pos) (a9 31):=b9 31 ∅
theorem mY:ab C n bC (.Name "forks" pos) (a9 21):=b9 21 ∅
def o8:SF:=(c6 25 (ce (aj (a9 24) (cb tH (aK false (af [(kI 10),(kI 17)] cH)) (du 31) (cW bg (aY (af [(aj (kI 2) (a9 31) (aR gu))] oP)))) aT) (aL (a9 5)) (aL (aj (a9 5) (af [(a9 21)] dD) aT))))
theorem DB(G:cI C)(h2:2≤n)(H:mB C n):aQ C n bC (dC (aq (ay 73)) 26) o8:=(bF (dP (av CR (cD (bx ∅ h2 (λzz zz=>rfl) (bN _ _ _ _ _ _) (c5 (cn (fv:=.type "range") (G.no _ ∅) ∅ ∅ (bD _) dM (ag rfl am (ag rfl am ae)) (λzz=>rfl) (λzz=>rfl) ∅ ∅ ∅)) (bM uv) cG (bZ (cn (fv:=.builtin "hex") (G.no _ ∅) ∅ ∅ (bf _) tQ (ag rfl (av am tO iY) ae) (λzz=>rfl) (λzz=>rfl) ∅ ∅ ∅)))) br) (cw oZ) (cw (av oZ (cn (fv:=.builtin "len") (G.no _ ∅) ∅ ∅ (bf _) eR (ag rfl mY ae) (λzz=>rfl) (λzz=>rfl) ∅ ∅ ∅) br))) C_ (λzz zz=> ∅))
theorem DM:aA C bC "trees" 26:=bu 26 ∅
def ny:SF:=(c6 26 (mZ []))
theorem Ec(G:cI C)(h2:2≤n)(H:mB C n):aQ C n bC (dC (aq (ay 73)) 27) ny:=(bF (jB ae) DM (λzz zz=> ∅))
theorem HT:aA C bC "mask" 27:=eW 27 ∅ ∅ ∅
theorem J1:aA C bC "said" 28:=eW 28 ∅ ∅ ∅
theorem Ka:ab C n bC (.Name "mask" pos) (a9 27):=bE 27 2 ∅ (by decide) ∅ ∅ ∅
theorem FQ:ab C n bC (.Name "said" pos) (a9 28):=bE 28 2 ∅ (by decide) ∅ ∅ ∅
theorem mU:ab C n bC (.Name "words" pos) (a9 25):=b9 25 ∅
abbrev m7:Scope:=jM [(".0",.local),("k",.local),("word",.local),("mask",.free)]
abbrev lR:Cx:=bR bC m7
theorem JF:aA C lR "k" 31:=bu 31 ∅
theorem wn:aA C lR "word" 32:=bu 32 ∅
theorem xB:ab C n lR (.Name "mask" pos) (a9 27):=bE 27 3 ∅ (by decide) ∅ ∅ ∅
theorem J9:ab C n lR (.Name "k" pos) (a9 31):=b9 31 ∅
theorem xx:ab C n lR (.Name "word" pos) (a9 32):=b9 32 ∅
theorem zm:aA C bC "chosen" 29:=bu 29 ∅
abbrev l5:Scope:=jM [(".0",.local),("word",.local),("fork",.local),("said",.free)]
abbrev mi:Cx:=bR bC l5
theorem xE:aA C mi "word" 31:=bu 31 ∅
theorem vk:aA C mi "fork" 32:=bu 32 ∅
theorem k6:ab C n mi (.Name "fork" pos) (a9 32):=b9 32 ∅
theorem w5:ab C n mi (.Name "word" pos) (a9 31):=b9 31 ∅
theorem xe:ab C n mi (.Name "said" pos) (a9 28):=bE 28 3 ∅ (by decide) ∅ ∅ ∅
theorem y7:aA C bC "joined" 30:=bu 30 ∅
theorem rC:ab C n bC (.Name "labels" pos) (a9 23):=b9 23 ∅
theorem ze:ab C n bC (.Name "chosen" pos) (a9 29):=b9 29 ∅
theorem sE:ab C n bC (.Name "trees" pos) (a9 26):=b9 26 ∅
theorem jz:ab C n bC (.Name "joined" pos) (a9 30):=b9 30 ∅
def nv:SF:=(jH (aK false (af [(aj (kI 2) (af [(a9 21)] dD) (aR gu))] cH)) (du 27) (ap (c6 28 (af [(aj (a9 27) (aj (kI 2) (a9 5) (aR gu)) l8)] cM)) (ap (ci (ef (a9 12) (cX [(a9 28),(Yi (dv (kS ", ") [(cb m7 (b_ [(a9 25)] f_) (ji 31 32) (cW (bA (aj (aj (a9 27) (aj (kI 2) (a9 31) (aR gu)) (aR cN)) (kI 2) (aR co)) (kI 1) dH) (aY (a9 32))))] fg) (kS "0x0"))]))) (ap (g9 29 l5 (b_ [(a9 25),(a9 21)] lg) (ji 31 32) (cW bg (aY (cX [(aF (a9 32) (kI 1)),(dx (n6 (a9 31) (a9 28) ", ") (aF (a9 32) (kI 3)) (aF (a9 32) (kI 2)))]))) false) (ap (c6 30 (dx (bA (a9 23) (aU []) oY) (af [(a9 23),(a9 29)] dc) (aU []))) (ap (ci (ef (a9 26) (rM (dZ (a9 30) (aU []) oY) (dZ (a9 30) (aj (ce (a9 30) ba (aL (kI 1))) (af [(a9 30)] dD) l8) dH)))) aP))))) aP)
theorem DL(G:cI C)(h2:2≤n)(H:mB C n):aQ C n bC (dC (aq (ay 73)) 28) nv:=(gb h2 (c5 (cn (fv:=.type "range") (G.no _ ∅) ∅ ∅ (bD _) dM (ag rfl (av am (cn (fv:=.builtin "len") (G.no _ ∅) ∅ ∅ (bf _) eR (ag rfl mY ae) (λzz=>rfl) (λzz=>rfl) ∅ ∅ ∅) iY) ae) (λzz=>rfl) (λzz=>rfl) ∅ ∅ ∅)) (bM HT) (ak (bF (cc H.hpretty_flags (ag rfl (av Ka (av am oZ iY) pv) ae) (λzz=>rfl) ∅ ∅ ∅) J1 (λzz zz=> ∅)) (ak (cK (cv (λzz=>rfl) eM (cU (ag rfl FQ (ag rfl (Y7 (fQ (λzz=>rfl) I_ Jb hU bT (ag rfl (cD (bx ∅ h2 (λzz zz=>rfl) (bN _ _ _ _ _ _) (k9 (fv:=.type "enumerate") (G.no _ ∅) ∅ ∅ (bD _) iO (ag rfl mU ae) (λzz=>rfl) (λzz=>rfl) ∅ ∅ ∅) (eS JF wn) (j3 (cj (av (av xB (av am J9 iY) eO) am dk) am dJ ∅)) (bZ xx))) ae) (λzz=>rfl) (λzz=>rfl)) bT) ae))) (λzz=>rfl)) ∅ (λzz=>rfl)) (ak (gy false (bx ∅ h2 (λzz zz=>rfl) (bN _ _ _ _ _ _) (k9 (fv:=.type "zip") (G.no _ ∅) ∅ ∅ (bD _) AS (ag rfl mU (ag rfl mY ae)) (λzz=>rfl) (λzz=>rfl) ∅ ∅ ∅) (eS xE vk) cG (bZ (cU (ag rfl (bj k6 am (λzz zz=>rfl)) (ag rfl (fN (IG (λzz=>rfl) w5 xe ∅) (bj k6 am (λzz zz=>rfl)) (bj k6 am (λzz zz=>rfl))) ae))))) zm (f6 ∅ ∅ ∅ ∅)) (ak (bF (fN (cj rC (bc ae) sk ∅) (cc H.h_law_joined (ag rfl rC (ag rfl ze ae)) (λzz=>rfl) ∅ ∅ ∅) (bc ae)) y7 (λzz zz=> ∅)) (ak (cK (cv (λzz=>rfl) sE (zM (fq jz (bc ae) sk ∅) (fq jz (av (dP jz dE (cw am)) (cn (fv:=.builtin "len") (G.no _ ∅) ∅ ∅ (bf _) eR (ag rfl jz ae) (λzz=>rfl) (λzz=>rfl) ∅ ∅ ∅) pv) dJ ∅)) (λzz=>rfl)) ∅ (λzz=>rfl)) aN))))) aN (λzz zz=>rfl))
theorem tw:ab C n bC (.Name "far" pos) (a9 6):=b9 6 ∅
def n_:SF:=(ci (ef (a9 12) (cX [(af [(aj (af [(a9 11)] wy) (a9 6) aT)] cM),(dv (kS ", ") [(aj (aj (a9 25) (aU [(kS "0x80000000")]) aT) (dx (bA (a9 6) (kI 0) oY) (aU [(af [(a9 6)] oP)]) (aU [])) aT)] fg)])))
theorem CW(G:cI C)(h2:2≤n)(H:mB C n):aQ C n bC (dC (aq (ay 73)) 29) n_:=(cK (cv (λzz=>rfl) eM (cU (ag rfl (cc H.hpretty_flags (ag rfl (av (cn (fv:=.builtin "sum") (G.no _ ∅) ∅ ∅ (bf _) zo (ag rfl lu ae) (λzz=>rfl) (λzz=>rfl) ∅ ∅ ∅) tw br) ae) (λzz=>rfl) ∅ ∅ ∅) (ag rfl (fQ (λzz=>rfl) I_ Jb hU bT (ag rfl (av (av mU (bc (ag rfl bT ae)) br) (fN (cj tw am sk ∅) (bc (ag rfl (cn (fv:=.builtin "hex") (G.no _ ∅) ∅ ∅ (bf _) tQ (ag rfl tw ae) (λzz=>rfl) (λzz=>rfl) ∅ ∅ ∅) ae)) (bc ae)) br) ae) (λzz=>rfl) (λzz=>rfl)) ae))) (λzz=>rfl)) ∅ (λzz=>rfl))
abbrev o_:Scope:=jM [(".0",.local),("one",.local)]
abbrev BD:Cx:=bR bC o_
theorem yJ:aA C BD "one" 31:=bu 31 ∅
theorem lE:ab C n BD (.Name "one" pos) (a9 31):=b9 31 ∅
theorem EL:ab C n bC (.Name "proof" pos) (a9 18):=b9 18 ∅
def o5:SF:=(fe (rM (dZ (cb o_ (aK false (a9 12)) (du 31) (cW (bA (aF (a9 31) (kI 0)) (aF (a9 31) (kI 1)) oY) (aY (a9 31)))) (aU []) dH) (dZ (a9 18) (dZ (kB false) (a9 26) lD) dH)))
theorem Dl(G:cI C)(h2:2≤n)(H:mB C n):aQ C n bC (dC (aq (ay 73)) 30) o5:=(d6 (zM (fq (cD (bx ∅ h2 (λzz zz=>rfl) (bN _ _ _ _ _ _) (c5 eM) (bM yJ) (j3 (cj (bj lE am (λzz zz=>rfl)) (bj lE am (λzz zz=>rfl)) sk ∅)) (bZ lE))) (bc ae) dJ ∅) (fq EL (fq dh sE xC ∅) dJ ∅)))
def Wv:SF:=(ap xr (ap wC (ap vd (ap vo (ap xD (ap vJ (ap vC (ap wH (ap Br (ap wj (ap pV (ap p_ (ap nW (ap nH (ap nh (ap n9 (ap np (ap nu (ap nC (ap oi (ap mX (ap o3 (ap og (ap ng (ap oh (ap nA (ap o8 (ap ny (ap nv (ap n_ (ap o5 aP)))))))))))))))))))))))))))))))
theorem b73(G:cI C)(h2:2≤n)(H:mB C n):qF C n bC (aq (ay 73)) Wv:=(c9 (dq (Fz G h2)) (c9 (dq (GM G h2)) (c9 (dq (HQ G h2)) (c9 (dq (KD G h2 H)) (c9 (dq (G8 G h2 H)) (c9 (dq (IA G h2 H)) (c9 (dq (JS G h2 H)) (c9 (dq (H9 G h2 H)) (c9 (dq (K6 G h2 H)) (c9 (Hn G h2 H) (c9 (dq (EB G h2 H)) (c9 (dq (Dc G h2 H)) (c9 (dq (Ep G h2 H)) (c9 (dq (Dv G h2 H)) (c9 (dq (Dj G h2 H)) (c9 (dq (DV G h2 H)) (c9 (dq (Dr G h2 H)) (c9 (dq (Ei G h2 H)) (c9 (dq (Ey G h2 H)) (c9 (dq (D0 G h2 H)) (c9 (dq (Dw G h2 H)) (c9 (dq (E3 G h2 H)) (c9 (dq (DX G h2 H)) (c9 (dq (EC G h2 H)) (c9 (dq (CA G h2 H)) (c9 (dq (Eu G h2 H)) (c9 (dq (DB G h2 H)) (c9 (dq (Ec G h2 H)) (c9 (dq (DL G h2 H)) (c9 (dq (CW G h2 H)) (c9 (dq (Dl G h2 H)) Tc)))))))))))))))))))))))))))))))
end
structure Qi (C:gK):Prop where
 f1:di C "_iter_escaped_chars" 1
 f2:di C "_strip_quoted_realnames" 2
 f3:di C "_check_parenthesis" 3
 f4:di C "_pre_parse_validation" 4
 f7:di C "pretty_flags" 7
 f8:di C "_parse_varint" 8
 f61:di C "ISTERMINAL" 61
 f62:di C "ISNONTERMINAL" 62
 f63:di C "ISEOF" 63
 f65:di C "_law_numbers" 65
 f66:di C "_law_octets" 66
 f67:di C "_law_units" 67
 f68:di C "_law_formula" 68
 f69:di C "_law_beyond" 69
 f70:di C "_law_proved" 70
 f71:di C "_law_graph" 71
 f72:di C "_law_joined" 72
theorem Gu(G:cI C)(F:Qi C):qF C 18 bC (aq (ay 73)) Wv:=by
 have he:C.mg "enumerate"=none:=G.no _ ∅
 have k61:aI C 3 "ISTERMINAL" cq:=c61 G (DW 2) F.f61;have k62:aI C 3 "ISNONTERMINAL" bQ:=c62 G (DW 2) F.f62;have k63:aI C 3 "ISEOF" fx:=c63 G (DW 2) F.f63;have k72:aI C 3 "_law_joined" dc:=c72 G (DW 2) F.f72;have k71:aI C 14 "_law_graph" aW:=d71 G (DW 2) F.f71 12;have k8:aI C 3 "_parse_varint" aS:=c8 G (DW 2) F.f8;have k7:aI C 3 "pretty_flags" cM:=c7 G (DW 2) F.f7;have k66:aI C 3 "_law_octets" fV:=c66 G (DW 2) F.f66;have k67:aI C 3 "_law_units" bB:=c67 G (DW 2) F.f67;have k65:aI C 3 "_law_numbers" gz:=c65 G (DW 2) F.f65;have k1:gL C 3 "_iter_escaped_chars" aE:=c1 F.f1 he;have k1L:Cs C 18 "_iter_escaped_chars" aE:=c1L F.f1 he;have k2:aI C 4 "_strip_quoted_realnames" aM:=c2 G (by decide) k1 F.f2;have k3:aI C 5 "_check_parenthesis" ar:=c3 G (by decide) k2 (k1.mono (by decide)) F.f3;have k4:aI C 6 "_pre_parse_validation" aX:=c4 G (by decide) k3 F.f4;have k68:aI C 15 "_law_formula" aC:=d68 G (by decide) k8 k63 k62 k61 F.f68 12;have k70:aI C 18 "_law_proved" aO:=d70 G (by decide) (k67.mono (by decide)) (k3.mono (by decide)) k4 F.f70 12;have k69:UV C 18:=(ue G F.f8 F.f69 (ao1 (n:=17) (k8.mono (by decide)) F.f69) (by decide));exact b73 G (by decide) ⟨k65.mono (by decide),k66.mono (by decide),k68.mono (by decide),k69,k61.mono (by decide),k62.mono (by decide),k63.mono (by decide),k67.mono (by decide),k1L,k2.mono (by decide),k1.mono (by decide),k3.mono (by decide),k4.mono (by decide),k70,k71.mono (by decide),k72.mono (by decide),k7.mono (by decide)⟩
theorem law_call(G:cI C)(F:Qi C)(ho:C.B.get? fa=some o)(hd:o.data=.func (Of "law" (lO (ay 73)) (aq (ay 73)) (ao (ay 73)) pm cd doc))(hcd:C.B.CodeRec cd "law")
   {l:Addr} (I:bl C [] [] [] s) (hl:aJ s.heap [] (.ref l) (.list xs))
  (h:Wv (cC (ao (ay 73)) [.d (.list xs)]) []=some (.ret (.d (.bool true)),ρ',μ')):
  wpAny (model C.prog C.w) callerA (call (.ref fa) [.ref l]) (λv s'=>v=.bool true∧(∀b o,C.B.get? b=some o→s'.heap.get? b=some o)∧s'.os=C.os∧AllBare s'.gens) E s:=by
 refine mH (Vs:=[.d (.list xs)]) ["script"] ho hd hcd (jD λzz=> ∅) (of_decide_eq_true ∅) ∅ ∅ ∅ ∅ (by decide) I ⟨hl,trivial⟩ rfl λL O h₁ tk hL hLO hO I1 S1 F1 hk1=>?_
 refine D3 ((Gu G F).run _ _ O [] _ [] [] _ _ _ ρ' μ' ⟨of_decide_eq_true rfl,of_decide_eq_true rfl,rfl⟩ (Pm rfl) rfl I1 F1 h) (λfw s' p=>?_) λzz zz x=>x;refine IX p λα' I' S' F' v zq5 rv=>?_;refine bH (ES zq5) ?_;exact (lj (aJ.of_bool rv) I'.keep I'.os I'.gens)
theorem fnAt_of{p:Program}{loose:List Str}(T:Top p loose mean C.mg C.mb C.B)(k:Nat)(x:Str)
  (e:(((recsOf p).find? λd=>d.name==x).map λd=>(d.name,d.params,d.body,d.scope))=some (x,lO (ay k),aq (ay k),ao (ay k))):di C x k:=by
 rw [HU] at e
 refine au e λzp0 e q=>?_;obtain ⟨n,ps,bd,sc,pos⟩:=zp0;cases q;refine ft (T.fn _ (Ni e)) λa o pm cd doc h1 h2 h3 h4=>?_;exact (i8 a o pm cd doc h1 h2 h3 h4)
theorem noneOf{p:Program}{loose:List Str}(T:Top p loose mean C.mg C.mb C.B)(l:List Str)
  (e:(l.all λx=>!startupNames.contains x&&!loose.contains x&&!((recsOf p).map (·.name)).contains x&&!((litsOf p).map (·.1)).contains x&&!((clssOf p loose).map (·.name)).contains x)=true):∀x:Str,l.contains x=true→C.mg x=none:= λx hx=>by
 have:=Bi.mp e x (by simpa using hx)
 simp only [E_,MF,MP,decide_eq_false_iff_not] at this
 refine fY this λzp0 h5=>?_;refine fY zp0 λzp0 h4=>?_;obtain ⟨⟨h1,h2⟩,h3⟩:=zp0;exact T.free x h1 h2 h3 h4 h5
theorem constOf{p:Program}{loose:List Str}(T:Top p loose mean C.mg C.mb C.B)(x:Str)(i:Int)(e:valOf p x=some (.int i)):∃t,C.mg x=some (.int i t):=by
 refine au (T.const x _ e) λv h1 h2=>?_
 have:=h2 C.B
 cases this;exact ⟨_,h1⟩
theorem sm{P:Params}:∀ {vs:List Value} {xs:List Int},WellAll P h vs (ofPys (xs.map EW))→aw h [] vs (xs.map EW)
 | [],[],_=>aw.nil _ _
 | [],_::_,x=>by cases x
 |_::_,[],x=>by cases x
 |v::vs,i::xs,x=>by
  cases x with
  |cons a b=>
   refine .ccons ?_ (sm b);cases a;exact aJ.int ..
theorem well_list{P:Params}{xs:List Int}(x:Well P h (.ref a) (ofPy (O1 (xs.map EW)))):aJ h [] (.ref a) (.list (xs.map EW)):=by
 have x':Well P h (.ref a) (.list (ofPys (xs.map EW))):=x;cases x' with
 |list e q=>exact aJ.list ⟨0,e⟩ (by simpa using sm q) (by simp)
theorem sZ{e:DictEntry}{x:Int}{y:Str}(h:D7 e=some (x,y)):∃t u,e.key=.int x t∧e.val=.str y u∧e.hash=hashInt x:=by
 refine au (KH.mp h) λa ea h=>au (KH.mp h) λb eb h=>?_
 by_cases q:e.hash=hashInt a
 ·refine cg ((if_pos q).symm.trans h) ?_
  exact bP (Gl ea) λt e1=>bP (Hq eb) λu e2=>dw t u e1 e2 q
 ·exact ct ((if_neg q).symm.trans h)
theorem xL{es:List DictEntry}{l:List (Int×Str)}(h:es.map D7=l.map some):∀e∈es,∃x t,e.key=.int x t∧e.hash=hashInt x:= λe he=>by
 have:D7 e∈l.map some:=h▸PA he
 refine au (DT.mp this) λzp0 zz q=>?_;obtain ⟨x,y⟩:=zp0;refine bq (sZ q.symm) λt u e1 e2 e3=>?_;exact (fX x t e1 e3)
theorem AH{k x:Int}{t:Tok}:PN k (.int x t)=(x==k):=rfl
theorem qc:∀ {es:List DictEntry} {l:List (Int×Str)} (k:Int),es.map D7=l.map some→
  (∃y t,l.lookup k=some y∧(es.find? λe=>PN k e.key).map (·.val)=some (.str y t))∨(l.lookup k=none∧(es.find? λe=>PN k e.key).map (·.val)=none)
 | [],[],k,_=>.inr ⟨rfl,rfl⟩
 | [],_::_,_,h=>by simp at h
 |e::es,[],k,h=>by simp at h
 |e::es,(x,y)::l,k,h=>by
  simp only [EV,Uk] at h
  refine bq (sZ h.1) λt u e1 e2 e3=>?_
  by_cases q:k=x
  ·subst q
   exact .inl (fX y u (by simp) (by simp [e1,e2,AH]))
  ·have hn:PN k e.key=false:=by
    rw [e1];exact AH.trans (beq_eq_false_iff_ne.mpr (Mv q))
   rw [Nw,show (k==x)=false by simpa using q,M6,hn];exact qc k h.2
theorem z_{y:Str}{i:Int}(h:ki y=some i):(y="|"∧i=18)∨(y="*"∧i=16)∨(y="("∧i=7)∨(y=")"∧i=8):=by
 unfold ki at h
 simp only [Nw,List.lookup_nil] at h
 repeat' split at h
 all_goals first| (cases h;rename_i q;simp only [beq_iff_eq] at q;refine bH (ES q) ?_;simp;done)|exact ct h
end Mine
namespace Mine
open PySem PySem.W PySem.Calls PyProof.Rows
theorem ext2{C:gK}(t:zC C.w C.B)(hm:C.mg "EXACT_TOKEN_TYPES"=some (.ref 58)):
  ∃d m,C.mg "EXACT_TOKEN_TYPES"=some (.ref d)∧C.B.MapOf (strKind C.prog C.w) d m∧∀y i,ki y=some i→∃t,m y=some (.int i t):=by
 obtain ⟨l1,l2,a1,_,b1,b2,_⟩:=t;obtain ⟨es,n,g,rfl⟩:=vP a1;refine ⟨58,λk=>findBy QT es k,hm,⟨_,es,n,g,⟨rfl,rfl,rfl⟩,rfl,λe he=>?_,λzz=>rfl⟩,λy i q=>?_⟩
 ·have:(I8 e.key,e.hash)∈k1 C.w:=b1▸PA (f:= λe:DictEntry=>(I8 e.key,e.hash)) (Sa.mpr he)
  obtain ⟨x,_,q⟩:=DT.mp this;have q1:=congrArg U2 q;have q2:=congrArg U3 q;refine ⟨x,?_,q2.symm⟩;dsimp only at q1
  obtain ⟨t,hk⟩:=Hq q1.symm;rw [hk];exact strKind_is C.prog C.w _ _
 ·have fb:∀x:Str,findBy QT es x=((es.toList.find? λe=>QT x e.key).map (·.val)):= λx=>by
   unfold findBy;rw [←T2]
  have hv:v2 es.toList=[some 18,some 16,some 7,some 8]:=b2;unfold v2 at hv
  simp only [EV,LQ,←fb,Uk] at hv
  rcases z_ q with ⟨rfl,rfl⟩| ⟨rfl,rfl⟩| ⟨rfl,rfl⟩| ⟨rfl,rfl⟩
  ·exact tZ hv.1
  ·exact tZ hv.2.1
  ·exact tZ hv.2.2.1
  ·exact tZ hv.2.2.2.1
theorem cfn2{C:gK}(t:zC C.w C.B)(hm:C.mg "COMPILER_FLAG_NAMES"=some (.ref 43)):
  ∃d m,C.mg "COMPILER_FLAG_NAMES"=some (.ref d)∧C.B.MapOf (intKind C.prog C.w) d m∧(∀k,(∃y t,rV k=some y∧m k=some (.str y t))∨(rV k=none∧m k=none))∧(d==sysModules)=false:=by
 obtain ⟨l1,l2,_,a2,_,_,b⟩:=t;obtain ⟨es,n,g,rfl⟩:=vP a2;have hk:=xL b;refine ⟨43,λk=>findBy PN es k,hm,⟨_,es,n,g,⟨rfl,rfl,rfl⟩,rfl,λe he=>?_,λzz=>rfl⟩,λk=>?_,by decide⟩
 ·obtain ⟨x,t,e1,e2⟩:=hk e (Sa.mpr he)
  exact ⟨x,by rw [e1];simp [intKind,PN],e2⟩
 ·have:=qc k b
  dsimp only;unfold findBy;rw [←T2];exact this
theorem hd2(call:WalkO vq loose ZX zC RR.toRowW dd.1 dd.2 λf vs=>PySem.call f vs):Lm.Holds:=
 holds_law HY λsaid=>holds_open (q:=vq) (loose:=loose) (Xt:=xt) (XP:=ZX) (Yf:=yf) (Ya:=ya) (YP:=zC) (N:=4366) XN LR El XT MT Z7 V4 aa6
  (λs e=>recFacts_of (by unfold xt at e;rw [E_,E_] at e;exact e.1.2)) rfl said Tk ⟨rfl,rfl,rfl,rfl,rfl,∅⟩ Pj call
end Mine
namespace Mine
open PySem PySem.W PySem.Calls PyProof.Rows
variable {V V' : AV} {Cn D L TI TO a fa i1 i2 i3 z : Addr} {A : Around} {items zs : Array Value} {sh tup : Bool} {cf : CF} {c c' : ah} {C : gK} {cx : Cx} {f fi fo g : EF} {cenv env : Env} {mean : ExcName → Option Value} {e e1 e2 elt iter target test : Expr} {fl : Fl} {h h' : Heap} {itf : IF} {y : Int} {Vs : List AV} {M M' O T T' W wr α α' α1 α₀ : List Addr} {Mid : List Addr → List Addr → List Addr → List ah → Nat → Value → Shared → Prop} {St : List Addr → xH} {μ μ' μ'' μ1 μ2 μ3 μ₀ : List ah} {fs : List EF} {es : List Expr} {K cs ns os rest : List Int} {gi ls m ps : List Nat} {X acc acc' ds xs ys : List PyData} {body orelse : List Stmt} {vs : List Value} {ρ ρ' ρ1 ρ2 : d0} {tf : d0 → PyData → Option d0} {b i j ja jt k kk low mask n p q tk : Nat} {o : Obj} {op : Operator} {ha ke td te tx : Option AV} {hi lo : Option Expr} {gg : Option Nat} {apos pos px py sp tp xp : Pos} {prog : Program} {G : Prop} {d : PyData} {sc scope : Scope} {s s' s'' s1 s₀ : Shared} {spec : a_} {st : Stmt} {name x : Str} {t : TF} {u : Tok} {cd cls doc fv it pm v : Value} {E Q : Value → Shared → Prop} {w : World}
section
theorem b5{X:Type u0}{Y:Type u1}{Z:Type u2}{o:Option (X×Y)}{k:X→Y→Option Z}{a:X}{b:Y}(h:o=some (a,b)):bp o k=k a b:=by rw [h];rfl
theorem bU{X:Type u0}{Z:Type u2}{o:Option X}{k:X→Option Z}{a:X}(h:o=some a):bo o k=k a:=by rw [h];rfl
theorem oN{X:Type u0}{Y:Type u1}{Z:Type u2}{o:Option X}{p:Option Y}{k:X→Y→Z}{e:Z}{a:X}{b:Y}(h:o=some a)(h':p=some b):oe o p k e=k a b:=by rw [h,h'];rfl
theorem Jk{X:Type u0}{Y:Type u1}{Z:Type u2}{o:Option (X×Y)}{k:X→Y→Option Z}(h:o=none):bp o k=none:=by rw [h];rfl
theorem e_{X:Type u0}{Y:Type u1}{Z:Type u2}{o:Option X}{p:Option Y}{k:X→Y→Z}{e:Z}(h:o=none):oe o p k e=e:=by rw [h];rfl
end
section
variable {h:EF} {sf sg:SF} {W:AV}
theorem xa(e:t ρ μ=some (true,μ1)):dx t f g ρ μ=f ρ μ1:=b5 e
theorem sI(e:t ρ μ=some (false,μ1)):dx t f g ρ μ=g ρ μ1:=b5 e
theorem xN(e:t ρ μ=some (true,μ1)):jG t sf sg ρ μ=sf ρ μ1:=b5 e
theorem Dh(e:t ρ μ=some (false,μ1)):jG t sf sg ρ μ=sg ρ μ1:=b5 e
theorem aB(e:sf ρ μ=some (.next,ρ1,μ1)):ap sf sg ρ μ=sg ρ1 μ1:=b5 e
theorem cT(e:sf ρ μ=some (.ret V,ρ1,μ1)):ap sf sg ρ μ=some (.ret V,ρ1,μ1):=b5 e
theorem JJ(e:sf ρ μ=some (.brk,ρ1,μ1)):ap sf sg ρ μ=some (.brk,ρ1,μ1):=b5 e
theorem bO(e:f ρ μ=some (V,μ1)):c6 i f ρ μ=some (.next,ρ.set i (some V),μ1):=b5 e
theorem dY(e:f ρ μ=some (V,μ1)):fe f ρ μ=some (.ret V,ρ,μ1):=b5 e
theorem bK:aP ρ μ=some (.next,ρ,μ):=rfl
theorem nq{b:Bool}(e:f ρ μ=some (V,μ1))(h:jN V μ1=some b):ga f ρ μ=some (b,μ1):=(b5 e).trans (bU h)
theorem Ca{o:AV→AV→List ah→Option (AV×List ah)}{W r:AV}(e:ρ[i]? =some (some V))(e1:f ρ μ=some (W,μ1))(h:o V W μ1=some (r,μ2)):iA i f o ρ μ=some (.next,ρ.set i (some r),μ2):=
 (bU (show ρ[i]?.bind id=some V by rw [e];rfl)).trans ((b5 e1).trans (b5 h))
end
theorem az(xs:List PyData)(μ:List ah):cu none xs μ:= λzz e=>by exact ct e
def YD(tf:d0→PyData→Option d0)(ρ0 ρ:d0):Prop:=∀y,tf ρ y=tf ρ0 y
theorem RJ(i:Nat)(ρ0:d0)(v:Option AV):YD (du i) ρ0 (ρ0.set i v):= λy=>by simp [du,Hb]
theorem IN{g:Option Nat}{ρ0:d0}(hg:cu g xs μ)(out:PyData→List PyData)(r:List PyData)(ρ:d0)(acc:List PyData)(hb:YD tf ρ0 ρ)(h:∀x∈r,∀acc,∃ρ1 ρ2,tf ρ0 x=some ρ1∧(acc.length+(out x).length≤sizeLine→cf ρ1 μ acc=some (ρ2,μ,acc++out x))∧YD tf ρ0 ρ2)(hz:acc.length+(r.flatMap out).length≤sizeLine):
  ∃ρ',f5 tf cf g xs r ρ μ acc=some (ρ',μ,acc++r.flatMap out):=by
 induction r generalizing ρ acc with
 |nil=>exact ⟨ρ,congrArg (λz=>some (ρ,μ,z)) (DN _).symm⟩
 |cons x r ih=>
  refine bq (h x (FK ..) acc) λρ1 ρ2 e1 e2 e3=>?_;rw [Fe,be] at hz
  refine bP (ih ρ2 (acc++out x) e3 (λy hy=>h y (D2 _ hy)) (by rw [be];lia)) λρ' e=>⟨ρ',?_⟩;refine pT.trans ((bU ((hb x).trans e1)).trans ((b5 (e2 (by lia))).trans ((if_pos hg).trans (e.trans ?_))));rw [Fe,Eg]
theorem m6{g:Option Nat}(hi:itf ρ μ=some (xs,g,μ1))(hg:cu g xs μ1)(out:PyData→List PyData)
  (h:∀x∈xs,∀acc,∃ρ1 ρ2,tf (bG sc ρ) x=some ρ1∧(acc.length+(out x).length≤sizeLine→cf ρ1 μ1 acc=some (ρ2,μ1,acc++out x))∧YD tf (bG sc ρ) ρ2) (hz:(xs.flatMap out).length≤sizeLine):
  eX sc itf tf cf ρ μ=some (xs.flatMap out,μ1):=by
 refine bP (IN hg out xs (bG sc ρ) [] (λzz=>rfl) h (by simpa using hz)) λρ' e=>?_;exact (b5 hi).trans (b5 e)
theorem r9{g:Option Nat}(h:itf ρ μ=some (xs,g,μ1))(h':f5 tf cf g xs xs (bG sc ρ) μ1 []=some (ρ',μ2,acc)):eX sc itf tf cf ρ μ=some (acc,μ2):=(b5 h).trans (b5 h')
theorem oW{g:Option Nat}{r acc2:List PyData}{x:PyData}(e:tf ρ x=some ρ1)(e':cf ρ1 μ acc=some (ρ2,μ2,acc2))(hg:cu g xs μ2):f5 tf cf g xs (x::r) ρ μ acc=f5 tf cf g xs r ρ2 μ2 acc2:=
 pT.trans ((bU e).trans ((b5 e').trans (if_pos hg)))
theorem Vp{a b:PyData}(h:f ρ μ=some (.d (.list [a,b]),μ1)):VE i j f ρ μ=some (.next,(ρ.set i (some (.d a))).set j (some (.d b)),μ1):=b5 h
theorem AO{a b:PyData}(h:f ρ μ=some (.d (.tuple [a,b]),μ1)):vh i j f ρ μ=some (.next,(ρ.set j (some (.d b))).set i (some (.d a)),μ1):=b5 h
theorem bY(h:eX sc itf tf cf ρ μ=some (acc,μ1)):cb sc itf tf cf ρ μ=some (.d (.list acc),μ1):=b5 h
theorem YI(e:t ρ μ=some (true,μ1)):cW t cf ρ μ acc=cf ρ μ1 acc:=b5 e
theorem ae5(e:t ρ μ=some (false,μ1)):cW t cf ρ μ acc=some (ρ,μ1,acc):=b5 e
theorem wQ{e:EF}(h:e ρ μ=some (.d d,μ))(acc:List PyData)(hz:acc.length+1≤sizeLine):aY e ρ μ acc=some (ρ,μ,acc++[d]):=
 (b5 h).trans ((b5 (rfl:wg (.d d) μ=some (d,μ))).trans (if_pos (Nat.le_of_succ_le hz)))
theorem pe{e:EF}(h:e ρ μ=some (.d d,μ))(acc:List PyData)(hz:acc.length+1≤sizeLine):cW bg (aY e) ρ μ acc=some (ρ,μ,acc++[d]):=wQ h acc hz
theorem Bs{e:EF}{b:Bool}(ht:t ρ μ=some (b,μ))(h:b=true→e ρ μ=some (.d d,μ))(acc:List PyData)(hz:acc.length+(if b then [d] else []).length≤sizeLine):cW t (aY e) ρ μ acc=some (ρ,μ,acc++if b then [d] else []):=by
 refine (b5 ht).trans ?_;cases b with
 |true=>exact wQ (h rfl) acc hz
 |false=>exact congrArg (λz=>some (ρ,μ,z)) (DN _).symm
theorem ip{e:EF}{g:Option Nat}(i:Nat)(f:PyData→PyData)(hi:itf ρ μ=some (xs,g,μ1))(hg:cu g xs μ1)
  (h:∀x∈xs,e ((bG sc ρ).set i (some (.d x))) μ1=some (.d (f x),μ1)) (hz:xs.length≤sizeLine):eX sc itf (du i) (cW bg (aY e)) ρ μ=some (xs.map f,μ1):=by
 have hl:∀l:List PyData,l.flatMap (λx=>[f x])=l.map f:= λl=>by
  induction l with
  |nil=>rfl
  |cons x l ih=>refine rA Fe ?_;refine rA ih ?_;rfl
 have:=m6 (sc:=sc) (tf:=du i) (cf:=cW bg (aY e)) hi hg (λx=>[f x]) (λx hx acc=>(dw _ _ rfl (λhz=>pe (h x hx) acc (by simpa using hz)) (RJ i _ _))) (by refine rA (hl _) ?_;refine rA (xJ _) ?_;exact hz)
 refine rA this ?_;exact rA (hl _) rfl
theorem jc{e:EF}{g:Option Nat}(i:Nat)(p:PyData→Bool)(f:PyData→PyData)(hi:itf ρ μ=some (xs,g,μ1))(hg:cu g xs μ1)
  (ht:∀x∈xs,t ((bG sc ρ).set i (some (.d x))) μ1=some (p x,μ1)) (h:∀x∈xs,p x=true→e ((bG sc ρ).set i (some (.d x))) μ1=some (.d (f x),μ1)) (hz:xs.length≤sizeLine):
  eX sc itf (du i) (cW t (aY e)) ρ μ=some ((xs.filter p).map f,μ1):=by
 have hl:∀l:List PyData,l.flatMap (λx=>if p x then [f x] else [])=(l.filter p).map f:= λl=>by
  induction l with
  |nil=>rfl
  |cons x l ih=>
   refine rA Fe ?_;refine rA ih ?_;refine rA Ko ?_
   split<;>simp
 have:=m6 (sc:=sc) (tf:=du i) (cf:=cW t (aY e)) hi hg (λx=>if p x then [f x] else []) (λx hx acc=>(dw _ _ rfl (λhz=>Bs (ht x hx) (h x hx) acc hz) (RJ i _ _))) (by
  refine rA (hl _) ?_;refine rA (xJ _) ?_;exact KQ (GW ..) hz)
 refine rA this ?_;exact rA (hl _) rfl
theorem cZ{f:SF}{x:PyData}(hl:Vs.length=k)(h:f (cC sc Vs) μ=some (.ret (.d x),ρ',μ')):cy k sc f Vs μ=some (.d x,μ'.take μ.length):=
 (if_pos hl).trans (b5 h)
theorem s61{x:Int}:cq [.d (.int x)] μ=some (.d (.bool (decide (x<256))),μ):=by
 refine (cZ (k:=1) rfl (rfl:f61 (cC (ao (ay 61)) [.d (.int x)]) μ=some (.ret (.d (.bool (decide (x<256)))),cC (ao (ay 61)) [.d (.int x)],μ))).trans ?_;rw [LI]
theorem s62{x:Int}:bQ [.d (.int x)] μ=some (.d (.bool (decide (256≤x))),μ):=by
 refine (cZ (k:=1) rfl (rfl:f62 (cC (ao (ay 62)) [.d (.int x)]) μ=some (.ret (.d (.bool (decide (256≤x)))),cC (ao (ay 62)) [.d (.int x)],μ))).trans ?_;rw [LI]
theorem s63{x:Int}:fx [.d (.int x)] μ=some (.d (.bool (x==0)),μ):=by
 refine (cZ (k:=1) rfl (rfl:f63 (cC (ao (ay 63)) [.d (.int x)]) μ=some (.ret (.d (.bool (x==0))),cC (ao (ay 63)) [.d (.int x)],μ))).trans ?_;rw [LI]
noncomputable def E8:Nat→Int→Int→List Int→Option (Int×List Int)
 |0,_,_,_=>none
 |k+1,b,val,os=>if Dd b 64≠0 then
   (match os with
   |b'::os'=>if 0≤val∧val<4294967296 then E8 k b' (Mb (val*64) (Dd b' 63)) os' else none
   | []=>none)
  else some (val,os)
noncomputable def rd:List Int→Option (Int×List Int)
 | []=>none
 |b::os=>E8 64 b (Dd b 63) os
noncomputable abbrev iL(l:List Int):List PyData:=l.map .int
noncomputable def L8(i:Nat)(b val:Int):d0:=[some (.c i),some (.d (.int b)),some (.d (.int val))]
theorem tj{x:PyData}{r:List PyData}(h0:a9 0 ρ μ=some (.c i,μ))(hc:μ[i]? =some (.iter (x::r))):af [a9 0] km ρ μ=some (.d x,μ.set i (.iter r)):=by
 refine (?_:bp (bp (a9 0 ρ μ) λV μ1=>bp (some ([],μ1)) λVs μ2=>some (V::Vs,μ2)) km=_);rw [h0];exact xf hc
theorem cz(h:i<μ.length):(μ.set i c)[i]? =some c:=Ms h
theorem eJ(h:μ[i]? =some c):μ.set i c=μ:=by
 obtain ⟨hlt,e⟩:=Bm.mp h;refine rB e ?_;exact rA (List.set_getElem_self _) rfl
section
variable {o1 o2:AV→AV→List ah→Option (AV×List ah)}
theorem US(h1:∀ (v:Int) (μ:List ah),0≤v→v<4294967296→o1 (.d (.int v)) (.d (.int 6)) μ=some (.d (.int (v*64)),μ))(h2:∀ (a b:Int) (μ:List ah),o2 (.d (.int a)) (.d (.int b)) μ=some (.d (.int (Mb a b)),μ))(k:Nat)(b val:Int)(os rest:List Int)(μ:List ah)(v:Int)(hc:μ[i]? =some (.iter (iL os)))(h:E8 k b val os=some (v,rest)):
  ∃b',j0 (ga (aj (a9 1) (kI 64) (aR λx y=>some (Dd x y)))) (ap (iA 2 (kI 6) o1) (ap (c6 1 (af [a9 0] km)) (ap (iA 2 (aj (a9 1) (kI 63) (aR λx y=>some (Dd x y))) o2) aP))) k (L8 i b val) μ
   =some (.next,L8 i b' v,μ.set i (.iter (iL rest))):=by
 induction k generalizing b val os μ with
 |zero=>exact ct h
 |succ k ih=>
  have hlt:i<μ.length:=(Bm.mp hc).1;have ht:ga (aj (a9 1) (kI 64) (aR λx y=>some (Dd x y))) (L8 i b val) μ=some (Dd b 64 != 0,μ):=rfl;refine ifB h (λhb h=>?_) λhb h=>?_
  ·cases os with
   |nil=>exact ct h
   |cons b1 os=>
    refine i6 h λhz h=>?_;have e1:iA 2 (kI 6) o1 (L8 i b val) μ=some (.next,L8 i b (val*64),μ):=GL (v:=val) (w:=val*64) rfl (h1 _ _ hz.1 hz.2);have e2:c6 1 (af [a9 0] km) (L8 i b (val*64)) μ=some (.next,L8 i b1 (val*64),μ.set i (.iter (iL os))):=b5 (tj (i:=i) rfl hc);have e3:iA 2 (aj (a9 1) (kI 63) (aR λx y=>some (Dd x y))) o2 (L8 i b1 (val*64)) (μ.set i (.iter (iL os)))=some (.next,L8 i b1 (Mb (val*64) (Dd b1 63)),μ.set i (.iter (iL os))):=Ca (V:=.d (.int (val*64))) (W:=.d (.int (Dd b1 63))) (μ1:=μ.set i (.iter (iL os))) rfl rfl (h2 _ _ _);refine bP (ih b1 (Mb (val*64) (Dd b1 63)) os (μ.set i (.iter (iL os))) (cz hlt) h) λb' ih=>⟨b',?_⟩;have e4:ap (iA 2 (kI 6) o1) (ap (c6 1 (af [a9 0] km)) (ap (iA 2 (aj (a9 1) (kI 63) (aR λx y=>some (Dd x y))) o2) aP)) (L8 i b val) μ=some (.next,L8 i b1 (Mb (val*64) (Dd b1 63)),μ.set i (.iter (iL os))):=(aB e1).trans ((aB e2).trans (aB e3));refine iP.trans ((b5 ht).trans ?_);rw [bne_iff_ne.mpr hb];refine (?_:bp (ap _ _ _ _) (λfl p=>Q3 fl (j0 _ _ _ p.1 p.2) p)=_);exact (b5 e4).trans (ih.trans (by rw [Hb]))
  ·refine cg h ⟨b,iP.trans ((b5 ht).trans ?_)⟩
   rw [show (Dd b 64 != 0)=false by simpa using hb,eJ hc];rfl
end
theorem aa8(v:Int)(μ:List ah)(h0:0≤v)(h1:v<4294967296):qa (.d (.int v)) (.d (.int 6)) μ=some (.d (.int (v*64)),μ):=by
 have hb:(H1 v:Int)+6≤2^27:=by
  have hb:H1 v≤33:=by
   unfold H1
   split
   ·lia
   ·rename_i hz
    have hz':v≠0:=by simpa using hz
    have:v.natAbs.log2<32:=(Nat.log2_lt (by lia)).mpr (by lia)
    lia
  have e27:(2:Int)^27=134217728:=by decide
  refine rA e27 ?_;lia
 have e:v*2^ (6:Int).toNat=v*64:=by
  exact congrArg (v* ·) (by decide:(2:Int)^6=64)
 refine rB e ?_;exact JK oG hb
theorem an6(a b:Int)(μ:List ah):T4 (.d (.int a)) (.d (.int b)) μ=some (.d (.int (Mb a b)),μ):=rfl
theorem s8{v:Int}(hc:μ[i]? =some (.iter (iL os)))(h:rd os=some (v,rest)):aS [.c i] μ=some (.d (.int v),μ.set i (.iter (iL rest))):=by
 have hlt:i<μ.length:=(Bm.mp hc).1;cases os with
 |nil=>exact ct h
 |cons b os=>
  obtain ⟨b',e⟩:=US aa8 an6 64 b (Dd b 63) os rest (μ.set i (.iter (iL os))) v (cz hlt) h;have e0:EK (cC (ao (ay 8)) [.c i]) μ=some (.next,[some (.c i),some (.d (.int b)),none],μ.set i (.iter (iL os))):=by
   exact bO (tj (i:=i) (ρ:=cC (ao (ay 8)) [.c i]) rfl hc)
  have e1:HP [some (.c i),some (.d (.int b)),none] (μ.set i (.iter (iL os)))=some (.next,L8 i b (Dd b 63),μ.set i (.iter (iL os))):=rfl;have e2:Md (L8 i b (Dd b 63)) (μ.set i (.iter (iL os)))=some (.next,L8 i b' v,μ.set i (.iter (iL rest))):=by
   exact e.trans (by rw [Hb])
  have e3:T0 (L8 i b' v) (μ.set i (.iter (iL rest)))=some (.ret (.d (.int v)),L8 i b' v,μ.set i (.iter (iL rest))):=rfl
  have:f8 (cC (ao (ay 8)) [.c i]) μ=some (.ret (.d (.int v)),L8 i b' v,μ.set i (.iter (iL rest))):=by
   exact (aB e0).trans ((aB e1).trans ((aB e2).trans (cT e3)))
  unfold aS;refine rA (cZ (k:=1) rfl this) ?_;exact rA (F9 (by simp)) rfl
section
theorem p63:(2:Int)^63=9223372036854775808:=by decide
theorem OI{k:Int}(hs:uR μ V=some xs)(hk:0≤k)(hx:xs[k.toNat]? =some d)(hl:xs.length≤sizeLine):IP V k μ=some d:=by
 have h24:sizeLine=16777216:=by decide
 have hlt:k.toNat<xs.length:=(Bm.mp hx).1;have e:seqIndex? k xs.length=some k.toNat:=by
  unfold seqIndex?;dsimp only;refine rA (if_neg (show ¬k<0 by lia)) ?_;exact rA (if_pos (by simp only [E_,decide_eq_true_eq];lia)) rfl
 exact (if_pos (by rw [p63];lia)).trans ((bU hs).trans ((bU e).trans hx))
theorem cF{k:Int}(hf:f ρ μ=some (V,μ))(hg:g ρ μ=some (.d (.int k),μ))(hs:uR μ V=some xs)(hk:0≤k)(hx:xs[k.toNat]? =some d)(hl:xs.length≤sizeLine):aF f g ρ μ=some (.d d,μ):=
 (b5 hf).trans ((b5 hg).trans (bU (OI hs hk hx hl)))
theorem bX:eY [] ρ μ=some ([],μ):=rfl
theorem an(h:f ρ μ=some (V,μ1))(hs:eY fs ρ μ1=some (Vs,μ2)):eY (f::fs) ρ μ=some (V::Vs,μ2):=(b5 h).trans (b5 hs)
theorem wb(h:f ρ μ=some (V,μ1)):eY [f] ρ μ=some ([V],μ1):=an h bX
theorem zL(h:f ρ μ=some (V,μ1))(h':g ρ μ1=some (V',μ2)):eY [f,g] ρ μ=some ([V,V'],μ2):=an h (wb h')
theorem d4{W:AV}(hf:f ρ μ=some (V,μ))(hs:spec [V] μ=some (W,μ')):af [f] spec ρ μ=some (W,μ'):=(b5 (wb hf)).trans hs
theorem iM{W:AV}(hf:f ρ μ=some (V,μ))(hg:g ρ μ=some (V',μ))(hs:spec [V,V'] μ=some (W,μ')):af [f,g] spec ρ μ=some (W,μ'):=(b5 (zL hf hg)).trans hs
theorem qR{o:AV→AV→List ah→Option (AV×List ah)}{W R:AV}(hf:f ρ μ=some (V,μ1))(hg:g ρ μ1=some (W,μ2))(h:o V W μ2=some (R,μ3)):aj f g o ρ μ=some (R,μ3):=(b5 hf).trans ((b5 hg).trans h)
theorem cR{x:Int}(hf:f ρ μ=some (.d (.int x),μ))(hg:g ρ μ=some (.d (.int y),μ)):aj f g aT ρ μ=some (.d (.int (x+y)),μ):=qR hf hg rfl
theorem lw(h:da μ V=some xs):jI V=none∧mn V=none∧Ke V=none∧XF V=none∧MJ V=none∧MN V=none:=by
 cases V with
 |d x=>cases x<;>first|exact ct h|exact ⟨rfl,rfl,rfl,rfl,rfl,rfl⟩
 |rng _ _=>exact ct h
 |_=>exact ⟨rfl,rfl,rfl,rfl,rfl,rfl⟩
theorem eN(hc:μ[j]? =some (.live xs)):da μ (.c j)=some xs:=(bU (k:=S8) hc:_)
theorem cS{W:AV}(hf:f ρ μ=some (V,μ))(hg:g ρ μ=some (W,μ))(hV:da μ V=some xs)(hW:da μ W=some ys)(hz:xs.length+ys.length≤sizeLine):aj f g aT ρ μ=some (.d (.list (xs++ys)),μ):=
 qR hf hg ((e_ (lw hV).1).trans ((e_ (lw hV).2.1).trans ((bU hV).trans ((bU hW).trans (if_pos hz)))))
theorem cY{o:Int→Int→Option Int}{x z:Int}(hf:f ρ μ=some (.d (.int x),μ))(hg:g ρ μ=some (.d (.int y),μ))(h:o x y=some z):aj f g (aR o) ρ μ=some (.d (.int z),μ):=qR hf hg (bU (k:= λz=>some (AV.d (.int z),μ)) h)
theorem ta(ds:List PyData):lJ (ds.map .d) μ=some (ds,μ):=by
 induction ds with
 |nil=>rfl
 |cons d ds ih=>exact (b5 (rfl:wg (.d d) μ=some (d,μ))).trans (b5 ih)
theorem d8(h:eY fs ρ μ=some (ds.map .d,μ))(hz:ds.length≤sizeLine):cX fs ρ μ=some (.d (.tuple ds),μ):=(b5 h).trans ((b5 (ta ds)).trans (if_pos hz))
theorem dF(h:eY fs ρ μ=some (ds.map .d,μ))(hz:ds.length≤sizeLine):aU fs ρ μ=some (.d (.list ds),μ):=(b5 h).trans ((b5 (ta ds)).trans (if_pos hz))
theorem uJ:aU [] ρ μ=some (.d (.list []),μ):=dF (ds:=[]) rfl (Lw _)
theorem kr(hf:f ρ μ=some (.d d,μ)):aU [f] ρ μ=some (.d (.list [d]),μ):=dF (ds:=[d]) (wb hf) (show 1≤sizeLine by decide)
theorem qu(hc:μ[j]? =some (.live xs)):wg (.c j) μ=some (.list xs,μ.set j (.frozen xs)):=(e_ (rfl:v7 (.c j)=none)).trans ((bU (rfl:EX (.c j)=some j)).trans (bU hc))
theorem fE(h:wg V μ=some (d,μ1))(hs:lJ Vs μ1=some (ds,μ2)):lJ (V::Vs) μ=some (d::ds,μ2):=(b5 h).trans (b5 hs)
theorem Hd(h:eY fs ρ μ=some (Vs,μ1))(h':lJ Vs μ1=some (ds,μ2))(hz:ds.length≤sizeLine):mZ fs ρ μ=some (.c μ2.length,μ2++[.live ds]):=(b5 h).trans ((b5 h').trans (if_pos hz))
theorem SV(h:eY fs ρ μ=some (Vs,μ1))(h':lJ Vs μ1=some (ds,μ2))(hz:ds.length≤sizeLine):aU fs ρ μ=some (.d (.list ds),μ2):=(b5 h).trans ((b5 h').trans (if_pos hz))
theorem Ir(h:eY fs ρ μ=some (Vs,μ1))(h':lJ Vs μ1=some (ds,μ2))(hz:ds.length≤sizeLine):cX fs ρ μ=some (.d (.tuple ds),μ2):=(b5 h).trans ((b5 h').trans (if_pos hz))
theorem Je(hf:f ρ μ=some (.d (.str x),μ1))(ha:eY fs ρ μ1=some (Vs,μ2)):dv f fs spec ρ μ=spec (.d (.str x)::Vs) μ2:=(b5 hf).trans ((bU (rfl:mn (.d (.str x))=some x)).trans (b5 ha))
theorem B7{ys:List Str}(hf:f ρ μ=some (V,μ))(hp:da μ V=some xs)(ha:nI xs=some ys)(hz:(ys.map (·.length)).sum+ys.length*x.length≤16777216):dv (kS x) [f] fg ρ μ=some (.d (.str (Lo x ys)),μ):=
 (Je (x:=x) rfl (wb hf)).trans ((b5 (rfl:l2 [.d (.str x),V]=some (.d (.str x),V))).trans ((bU (rfl:mn (.d (.str x))=some x)).trans ((bU hp).trans ((bU ha).trans (if_pos hz)))))
theorem len_str(hz:x.length≤sizeLine):dD [.d (.str x)] μ=some (.d (.int x.length),μ):=(bU (rfl:l1 [AV.d (.str x)]=some _)).trans ((oN (rfl:mn (.d (.str x))=some x) rfl).trans (if_pos hz))
theorem gk(hf:f ρ μ=some (.c j,μ))(hg:g ρ μ=some (.d d,μ))(hc:μ[j]? =some (.live xs))(hz:xs.length≤sizeLine):ef f g ρ μ=some (.d .none,μ.set j (.live (xs++[d]))):=
 (b5 hf).trans ((bU (eN hc)).trans ((b5 hg).trans ((b5 (rfl:wg (.d d) μ=some (d,μ))).trans ((bU hc).trans (if_pos hz)))))
theorem oV(hf:f ρ μ=some (.c j,μ))(hg:g ρ μ=some (.d (.list ys),μ))(hc:μ[j]? =some (.live xs))(hz:xs.length+ys.length≤sizeLine):rT f g ρ μ=some (.d .none,μ.set j (.live (xs++ys))):=
 (b5 hf).trans ((bU (eN hc)).trans ((b5 hg).trans ((bU hc).trans (if_pos hz))))
theorem d7(hf:f ρ μ=some (V,μ))(hp:da μ V=some xs):aK false f ρ μ=some (xs,EZ V,μ):=
 (b5 hf).trans ((e_ (lw hp).2.2.1).trans ((e_ (lw hp).2.2.2.1).trans ((bU hp).trans (if_pos (.inl rfl)))))
theorem mN(hf:f ρ μ=some (.d (.tuple xs),μ)):aK false f ρ μ=some (xs,none,μ):=b5 hf
theorem BP(hf:f ρ μ=some (V,μ))(hp:da μ V=some xs)(ht:nE xs=true):aK true f ρ μ=some (xs,EZ V,μ):=
 (b5 hf).trans ((e_ (lw hp).2.2.1).trans ((e_ (lw hp).2.2.2.1).trans ((bU hp).trans (if_pos (.inr ht)))))
theorem nK{a b:Int}(hf:f ρ μ=some (.rng a b,μ))(hs:JB a b 1=true):aK false f ρ μ=some (fI a (b-a).toNat,none,μ):=
 (b5 hf).trans ((e_ (rfl:Ke (.rng a b)=none)).trans ((oN (rfl:XF (.rng a b)=some (a,b)) rfl).trans (if_pos ⟨rfl,hs⟩)))
theorem AT(hp:da μ V=some xs)(hz:xs.length≤sizeLine):mw [V] μ=some (.d (.list xs),μ):=
 (bU (rfl:l1 [V]=some V)).trans ((e_ (lw hp).2.2.2.1).trans ((bU hp).trans (if_pos hz)))
theorem TP(h:uR μ V=some xs):mn V=none:=by
 cases V with
 |d x=>cases x<;>first|exact ct h|rfl
 |_=>rfl
theorem gF(hf:f ρ μ=some (V,μ))(hs:uR μ V=some xs)(hz:xs.length≤sizeLine):af [f] dD ρ μ=some (.d (.int xs.length),μ):=
 d4 hf ((bU (rfl:l1 [V]=some V)).trans ((e_ (TP hs)).trans ((bU hs).trans (if_pos hz))))
end
theorem aa(h:n≤100000):n≤sizeLine:=by
 have h24:sizeLine=16777216:=by decide
 lia
section
variable {h:EF} {sf sg:SF} {W:AV}
theorem eA(e:f ρ μ=some (.d .none,μ1)):ci f ρ μ=some (.next,ρ,μ1):=b5 e
theorem SD{i:Int}(e:f ρ μ=some (.d (.int i),μ1)):ci f ρ μ=some (.next,ρ,μ1):=b5 e
theorem UQ:On ρ μ=some (.brk,ρ,μ):=rfl
theorem not_of{b:Bool}(e:t ρ μ=some (b,μ1)):tW t ρ μ=some (!b,μ1):=b5 e
theorem Y_{t':TF}(e:t ρ μ=some (true,μ1)):FT t t' ρ μ=t' ρ μ1:=b5 e
theorem Yy{t':TF}(e:t ρ μ=some (false,μ1)):FT t t' ρ μ=some (false,μ1):=b5 e
theorem dG{o:AV→AV→List ah→Option Bool}{r:Bool}(e:f ρ μ=some (V,μ1))(e':g ρ μ1=some (W,μ2))(h:o V W μ2=some r):bA f g o ρ μ=some (r,μ2):=(b5 e).trans ((b5 e').trans (bU h))
theorem gX{o:AV→AV→List ah→Option Bool}{r:Bool}(e:f ρ μ=some (V,μ1))(e':g ρ μ1=some (W,μ2))(h:o V W μ2=some r):dZ f g o ρ μ=some (.d (.bool r),μ2):=(b5 e).trans ((b5 e').trans (bU h))
theorem gJ(e:itf ρ μ=some (xs,gg,μ1)):jH itf tf sf sg ρ μ=fS tf sf sg gg xs xs ρ μ1:=b5 e
theorem dQ{r:List PyData}{x:PyData}(e:tf ρ x=some ρ1)(e':sf ρ1 μ=some (.next,ρ2,μ2))(hg:cu gg xs μ2):fS tf sf sg gg xs (x::r) ρ μ=fS tf sf sg gg xs r ρ2 μ2:=nB.trans ((bU e).trans ((b5 e').trans (if_pos hg)))
theorem qy{r:List PyData}{x:PyData}(e:tf ρ x=some ρ1)(e':sf ρ1 μ=some (.ret V,ρ2,μ2)):fS tf sf sg gg xs (x::r) ρ μ=some (.ret V,ρ2,μ2):=nB.trans ((bU e).trans (b5 e'))
theorem TU{r:List PyData}{x:PyData}(e:tf ρ x=some ρ1)(e':sf ρ1 μ=some (.brk,ρ2,μ2)):fS tf sf sg gg xs (x::r) ρ μ=some (.next,ρ2,μ2):=nB.trans ((bU e).trans (b5 e'))
theorem FD:fS tf sf sg gg xs [] ρ μ=sg ρ μ:=rfl
theorem o4{x:Int}(hf:f ρ μ=some (.d (.int x),μ))(hg:g ρ μ=some (.d (.int y),μ)):bA f g dH ρ μ=some (x==y,μ):=dG hf hg rfl
theorem ju(e:eX sc itf tf cf ρ μ=some (acc,μ1)):g9 i sc itf tf cf false ρ μ=some (.next,ρ.set i (some (.d (.list acc))),μ1):=b5 e
theorem V9(e:eX sc itf tf cf ρ μ=some (acc,μ1)):g9 i sc itf tf cf true ρ μ=some (.next,ρ.set i (some (.c μ1.length)),μ1++[.live acc]):=b5 e
end
theorem gB{sf sg:SF}{b:Bool}(e:t ρ μ=some (b,μ))(h:b=true):jG t sf sg ρ μ=sf ρ μ:=xN (e.trans (by exact rA h rfl))
theorem gS{sf sg:SF}{b:Bool}(e:t ρ μ=some (b,μ))(h:b=false):jG t sf sg ρ μ=sg ρ μ:=Dh (e.trans (by exact rA h rfl))
inductive Fm where
 |at (i:Nat)
 |bin (par:Bool) (l r:Fm)
noncomputable def sg(m:List Nat)(i:Nat):Int:=if i<m.getD i 0 then 7 else 8
noncomputable def Fm.pre(m:List Nat):Fm→List Int
 | .at i=>[sg m i]
 | .bin p l r=>(if p then 274 else 272)::(l.pre m++r.pre m)
noncomputable def Fm.pl:Fm→List Nat
 | .at i=>[i]
 | .bin _ l r=>l.pl++r.pl
noncomputable def nL(l:List Nat):List PyData:=l.map λ(i:Nat)=>EW (i:Int)
noncomputable def Fm.enc(m:List Nat):Fm→PyData
 | .at i=>.tuple [.int (sg m i),.list [.int i]]
 | .bin p l r=>.tuple [.int (if p then 18 else 16),.list (nL (l.pl++r.pl)),l.enc m,r.enc m]
noncomputable def Fm.ht:Fm→Nat
 | .at _=>1
 | .bin _ l r=>max l.ht r.ht+1
inductive xO:List Int→List Int→List Int→Prop
 |nil (os:List Int):xO os [] os
 |cons {os os1 os2:List Int} {n:Int} {ns:List Int}:rd os=some (n,os1)→xO os1 ns os2→xO os (n::ns) os2
theorem xO.split:∀ {os os2 a b:List Int},xO os (a++b) os2→∃os1,xO os a os1∧xO os1 b os2
 |os,os2,[],b,h=>(aZ os (.nil _) h)
 |os,os2,n::a,b,h=>by
  cases h with
  |cons e h=>
   refine au (xO.split (a:=a) h) λos1 h1 h2=>?_;exact (aZ os1 (.cons e h1) h2)
noncomputable def pX(l:List Int):Nat:=(l.filter λx=>decide (x<256)).length
theorem mf(a b:List Int):pX (a++b)=pX a+pX b:=by simp [pX]
theorem gA(m:List Nat)(i:Nat):sg m i=7∨sg m i=8:=by
 unfold sg;split
 ·exact .inl rfl
 ·exact .inr rfl
theorem kY(m:List Nat):∀f:Fm,pX (f.pre m)=f.pl.length
 | .at i=>by
  rcases gA m i with h|h<;>simp [Fm.pre,Fm.pl,pX,h]
 | .bin p l r=>by
  have h:pX ((if p then (274:Int) else 272)::(l.pre m++r.pre m))=pX (l.pre m++r.pre m):=by
   cases p<;>simp [pX]
  simp only [Fm.pre,Fm.pl,be];refine rA h ?_;refine rA (mf _ _) ?_;refine rA (kY m l) ?_;exact rA (kY m r) rfl
theorem EJ(m:List Nat)(f:Fm):∃a ds,f.enc m=.tuple (a::.list (nL f.pl)::ds):=by
 cases f with
 |«at» i=>exact (jK _ ([]) rfl)
 |bin p l r=>exact (jK _ _ rfl)
theorem qQ{F:Fm}(hf:f ρ μ=some (.d (F.enc m),μ)):aF f (kI 1) ρ μ=some (.d (.list (nL F.pl)),μ):=by
 refine lC (EJ m F) λa ds e=>?_;rw [e] at hf
 refine cF (k:=1) hf rfl (xs:=a::.list (nL F.pl)::ds) rfl (by decide) rfl ?_;cases F with
 |«at» i=>cases e;exact aa (by simp)
 |bin p l r=>cases e;exact aa (by simp)
noncomputable def gV(μ:List ah)(i j:Nat)(os td:List Int):List ah:=(μ.set i (.iter (iL os))).set j (.live (iL td))
section
variable {td os' td':List Int}
theorem ZM(hi:i<μ.length)(hij:i≠j):(gV μ i j os td)[i]? =some (.iter (iL os)):=by
 unfold gV;rw [Lj hij.symm,Ms hi]
theorem QE(hj:j<μ.length):(gV μ i j os td)[j]? =some (.live (iL td)):=by
 unfold gV;rw [Ms (by simpa using hj)]
theorem SJ(hij:i≠j):(gV μ i j os td).set i (.iter (iL os'))=gV μ i j os' td:=by
 unfold gV;refine rA (R1 _ _ hij.symm) ?_;exact rA (Hb _) rfl
theorem VL:(gV μ i j os td).set j (.live (iL td'))=gV μ i j os td':=by
 unfold gV;exact rA (Hb _) rfl
theorem ky:(gV μ i j os td).length=μ.length:=by simp [gV]
end
noncomputable def ow(i j:Nat)(n l r:Option AV):d0:=[some (.c i),some (.c j),n,l,r]
theorem lq(a b:List Int):iL a++iL b=iL (a++b):=by simp [iL]
theorem Ue{b:Bool}(h:f ρ μ=some (.d (.bool b),μ)):ga f ρ μ=some (b,μ):=(b5 h).trans (bU rfl)
theorem FA{n:Int}(h:a9 k ρ μ=some (.d (.int n),μ)):ga (af [a9 k] fx) ρ μ=some (n==0,μ):=by
 exact Ue (d4 h s63)
theorem Qe{n:Int}(h:a9 k ρ μ=some (.d (.int n),μ)):ga (af [a9 k] bQ) ρ μ=some (decide (256≤n),μ):=by
 exact Ue (d4 h s62)
theorem YV{n:Int}(h:a9 k ρ μ=some (.d (.int n),μ)):ga (af [a9 k] cq) ρ μ=some (decide (n<256),μ):=by
 exact Ue (d4 h s61)
noncomputable def tmD:PyData→Bool
 | .int y=>decide (y<256)
 |_=>false
theorem OK(l:List Int):((iL l).filter tmD).length=pX l:=by
 unfold pX iL;refine rA OG ?_;refine rA (xJ _) ?_;rfl
theorem qq{s:a_}{os1 td:List Int}{n:Int}(hi:i<μ.length)(hj:j<μ.length)(hij:i≠j)(h:rd os=some (n,os1))(hz:td.length≤100000):
  ap (vR s) (ap (wL s) (ap (lh s) (ap (oq s) (ap (sP s) aP)))) (cC (ao (ay 68)) [.c i,.c j]) (gV μ i j os td)
   =ap (lh s) (ap (oq s) (ap (sP s) aP)) (ow i j (some (.d (.int n))) none none) (gV μ i j os1 (td++[n])):=by
 have e0:vR s (cC (ao (ay 68)) [.c i,.c j]) (gV μ i j os td)=some (.next,ow i j (some (.d (.int n))) none none,gV μ i j os1 td):=by
  unfold vR;refine rA (bO (d4 (f:=a9 0) (V:=.c i) rfl (s8 (ZM hi hij) h))) ?_;refine rA (SJ hij) ?_;rfl
 have e1:wL s (ow i j (some (.d (.int n))) none none) (gV μ i j os1 td)=some (.next,ow i j (some (.d (.int n))) none none,gV μ i j os1 (td++[n])):=by
  unfold wL;refine rA (eA (gk (j:=j) (d:=.int n) (xs:=iL td) rfl rfl (QE hj) (by rw [xJ];exact aa hz))) ?_;refine rA (show iL td++[EW n]=iL (td++[n]) by simp [iL]) ?_;exact rA VL rfl
 exact (aB e0).trans (aB e1)
set_option tactic.hygienic true in
theorem s68(hi:i<μ.length)(hj:j<μ.length)(hij:i≠j)(m:List Nat):∀ (F:Fm) (k:Nat) (os os' td:List Int),F.ht≤k→xO os (F.pre m) os'→F.pl=F7 (pX td) F.pl.length→td.length+(F.pre m).length≤1000→
  vI k [.c i,.c j] (gV μ i j os td)=some (.d (F.enc m),gV μ i j os' (td++F.pre m))
 |F,0,os,os',td,hk,_,_,_=>by cases F<;>simp [Fm.ht] at hk
 | .at p,k+1,os,os',td,hk,h,hp,hz=>by
  cases h with
  |cons e h=>
  cases h;have hz':td.length+1≤1000:=by simpa [Fm.pre] using hz
  have hpp:p=pX td:=by simpa [Fm.pl] using hp
  have hsg:=gA m p;have e2:lh (vI k) (ow i j (some (.d (.int (sg m p)))) none none) (gV μ i j os' (td++[sg m p]))=some (.next,ow i j (some (.d (.int (sg m p)))) none none,gV μ i j os' (td++[sg m p])):=by
   unfold lh;exact (gS (FA (n:=sg m p) rfl) (by rcases hsg with q|q<;>rw [q]<;>rfl)).trans bK
  have e3:oq (vI k) (ow i j (some (.d (.int (sg m p)))) none none) (gV μ i j os' (td++[sg m p]))=some (.next,ow i j (some (.d (.int (sg m p)))) none none,gV μ i j os' (td++[sg m p])):=by
   unfold oq;exact (gS (Qe (n:=sg m p) rfl) (by rcases hsg with q|q<;>rw [q]<;>rfl)).trans bK
  have e4:sP (vI k) (ow i j (some (.d (.int (sg m p)))) none none) (gV μ i j os' (td++[sg m p]))=some (.ret (.d (.tuple [.int (sg m p),.list [.int p]])),ow i j (some (.d (.int (sg m p)))) none none,gV μ i j os' (td++[sg m p])):=by
   have hpk:da (gV μ i j os' (td++[sg m p])) (.c j)=some (iL (td++[sg m p])):=eN (QE hj);have hc:=jc (sc:=tV) (itf:=aK false (a9 1)) (t:=ga (af [a9 5] cq)) (e:=a9 5) (ρ:=ow i j (some (.d (.int (sg m p)))) none none) (μ:=gV μ i j os' (td++[sg m p])) 5 tmD id (d7 (V:=.c j) rfl hpk) (λj' e=>by refine cA e ?_;exact hpk) (λx hx=>by
    refine au (DT.mp hx) λy zz zq2=>?_;subst zq2;exact YV (n:=y) rfl) (λx zz zz=>rfl) (by refine rA (xJ _) ?_;refine rA be ?_;exact aa (by simp;lia))
   have hlen:=gF (f:=cb tV (aK false (a9 1)) (du 5) (cW (ga (af [a9 5] cq)) (aY (a9 5)))) (bY hc) rfl (by
    refine rA (xJ _) ?_;exact aa (KQ (GW ..) (by refine rA (xJ _) ?_;refine rA be ?_;simp;lia)))
   have hl2:=cY (o:= λx y=>some (x-y)) hlen (rfl:kI 1 _ _=some (.d (.int 1),_)) rfl;have hn:((((iL (td++[sg m p])).filter tmD).map id).length:Int)-1=p:=by
    have:pX [sg m p]=1:=by rcases hsg with q|q<;>rw [q]<;>rfl
    refine rA (xJ _) ?_;refine rA (OK _) ?_;refine rA (mf _ _) ?_;refine rA this ?_;refine rA hpp ?_;lia
   rw [hn] at hl2
   have ht:=d8 (ds:=[.int (sg m p),.list [.int p]]) (an (f:=a9 2) (V:=.d (.int (sg m p))) (ρ:=ow i j (some (.d (.int (sg m p)))) none none) (μ:=gV μ i j os' (td++[sg m p])) rfl (an (kr hl2) bX)) (aa (xF rfl));unfold sP;exact dY ht
  have:f68 (vI k) (cC (ao (ay 68)) [.c i,.c j]) (gV μ i j os td)=some (.ret (.d (.tuple [.int (sg m p),.list [.int p]])),ow i j (some (.d (.int (sg m p)))) none none,gV μ i j os' (td++[sg m p])):=by
   unfold f68;exact (qq hi hj hij e (by omega)).trans ((aB e2).trans ((aB e3).trans (cT e4)))
  refine (?_:cy 2 _ _ _ _=_);refine rA (cZ (k:=2) rfl this) ?_;refine rA (F9 (by rw [ky,ky];exact DW _)) ?_;rfl
 | .bin p l r,k+1,os,os',td,hk,h,hp,hz=>by
  have hk':l.ht≤k∧r.ht≤k:=by simp only [Fm.ht] at hk;lia
  cases h with
  |cons e h=>
  rename_i os1;refine au h.split λos2 hl hr=>?_;have hn:(if p then (274:Int) else 272)=274∨(if p then (274:Int) else 272)=272:=by cases p<;>simp
  generalize hN:(if p then (274:Int) else 272)=N at e hn
  simp only [Fm.pre,Bb,be,hN] at hz
  have htn:pX (td++[N])=pX td:=by
   refine rA (mf _ _) ?_
   rcases hn with q|q<;>rw [q]<;>rfl
  simp only [Fm.pl,be] at hp
  rw [←List.range'_append] at hp
  refine fY (Ul hp (by simp)) λhpl hpr=>?_;have il:=s68 hi hj hij m l k _ os2 (td++[N]) hk'.1 hl (by refine rA htn ?_;exact hpl) (by refine rA be ?_;refine rA Gd ?_;lia);have htl:pX (td++[N]++l.pre m)=pX td+l.pl.length:=by refine rA (mf _ _) ?_;refine rA htn ?_;exact rA (kY _ _) rfl
  have ir:=s68 hi hj hij m r k os2 os' (td++[N]++l.pre m) hk'.2 hr (by refine rA htl ?_;simpa using hpr) (by simp only [be,Gd];lia);have e2:∀ (μ0:List ah),lh (vI k) (ow i j (some (.d (.int N))) none none) μ0=some (.next,ow i j (some (.d (.int N))) none none,μ0):= λμ0=>by
   unfold lh;exact (gS (FA (n:=N) rfl) (by rcases hn with q|q<;>rw [q]<;>rfl)).trans bK
  have hlz:(nL l.pl).length≤1000∧(nL r.pl).length≤1000:=by
   have h1:=kY m l;have h2:=kY m r;have h3:pX (l.pre m)≤(l.pre m).length:=GW ..;have h4:pX (r.pre m)≤(r.pre m).length:=GW ..;simp only [nL,xJ];lia
  have hv:(Im [.int (N-256),.list (nL l.pl++nL r.pl),l.enc m,r.enc m])=(Fm.bin p l r).enc m:=by
   simp only [Fm.enc];refine rA (show N-256=(if p then (18:Int) else 16) by rw [←hN];cases p<;>rfl) ?_;exact rA (show nL (l.pl++r.pl)=nL l.pl++nL r.pl by simp [nL]) rfl
  have e3:oq (vI k) (ow i j (some (.d (.int N))) none none) (gV μ i j os1 (td++[N]))=some (.ret (.d ((Fm.bin p l r).enc m)),ow i j (some (.d (.int N))) (some (.d (l.enc m))) (some (.d (r.enc m))),gV μ i j os' (td++[N]++l.pre m++r.pre m)):=by
   unfold oq;refine (gB (Qe (n:=N) rfl) (by rcases hn with q|q<;>rw [q]<;>rfl)).trans ?_;have a1:c6 3 (af [a9 0,a9 1] (vI k)) (ow i j (some (.d (.int N))) none none) (gV μ i j os1 (td++[N]))=some (.next,ow i j (some (.d (.int N))) (some (.d (l.enc m))) none,gV μ i j os2 (td++[N]++l.pre m)):=by
    exact (bO (iM (f:=a9 0) (g:=a9 1) (V:=.c i) (V':=.c j) rfl rfl il)).trans rfl
   have a2:c6 4 (af [a9 0,a9 1] (vI k)) (ow i j (some (.d (.int N))) (some (.d (l.enc m))) none) (gV μ i j os2 (td++[N]++l.pre m))=some (.next,ow i j (some (.d (.int N))) (some (.d (l.enc m))) (some (.d (r.enc m))),gV μ i j os' (td++[N]++l.pre m++r.pre m)):=by
    exact (bO (iM (f:=a9 0) (g:=a9 1) (V:=.c i) (V':=.c j) rfl rfl ir)).trans rfl
   refine (aB a1).trans ((aB a2).trans ?_);have ht:=d8 (ds:=[.int (N-256),.list (nL l.pl++nL r.pl),l.enc m,r.enc m]) (ρ:=ow i j (some (.d (.int N))) (some (.d (l.enc m))) (some (.d (r.enc m)))) (μ:=gV μ i j os' (td++[N]++l.pre m++r.pre m))
    (an (cY (f:=a9 2) (g:=kI 256) (o:= λx y=>some (x-y)) (x:=N) rfl rfl rfl) (an (cS (qQ (f:=a9 3) (F:=l) rfl) (qQ (f:=a9 4) (F:=r) rfl) rfl rfl (aa (by lia))) (an (f:=a9 3) (V:=.d (l.enc m)) rfl (an (f:=a9 4) (V:=.d (r.enc m)) rfl bX)))) (aa (xF rfl))
   rw [hv] at ht
   exact cT (dY ht)
  have:f68 (vI k) (cC (ao (ay 68)) [.c i,.c j]) (gV μ i j os td)=some (.ret (.d ((Fm.bin p l r).enc m)),ow i j (some (.d (.int N))) (some (.d (l.enc m))) (some (.d (r.enc m))),gV μ i j os' (td++[N]++l.pre m++r.pre m)):=by
   unfold f68;exact (qq hi hj hij e (by omega)).trans ((aB (e2 _)).trans (cT e3))
  refine (?_:cy 2 _ _ _ _=_);refine rA (cZ (k:=2) rfl this) ?_;refine rA (F9 (by rw [ky,ky];exact DW _)) ?_;simp only [Fm.pre,hN,Eg,KV,Lf]
variable {F l r : Fm} {B : List Fm} {rc : List Fm → Bool}
structure Jn where
 par:Bool
 nd:Nat
 a:Nat
 b:Nat
noncomputable def Jn.enc(x:Jn):PyData:=.tuple [.int (if x.par then 18 else 16),.int x.nd,.int x.a,.int x.b]
noncomputable def gr:Fm→Nat→Nat×List Jn
 | .at i,_=>(i,[])
 | .bin p l r,n=>
  let x:=gr l n
  let y:=gr r (n+x.2.length)
  (6+(n+x.2.length+y.2.length),x.2++y.2++[⟨p,6+(n+x.2.length+y.2.length),x.1,y.1⟩])
theorem Hh:gr (.at i) n=(i,[]):=rfl
theorem Ag{p:Bool}:gr (.bin p l r) n=(6+(n+(gr l n).2.length+(gr r (n+(gr l n).2.length)).2.length),(gr l n).2++(gr r (n+(gr l n).2.length)).2++[⟨p,6+(n+(gr l n).2.length+(gr r (n+(gr l n).2.length)).2.length),(gr l n).1,(gr r (n+(gr l n).2.length)).1⟩]):=rfl
noncomputable def jL(l:List Jn):List PyData:=l.map Jn.enc
noncomputable def rR(F:PyData)(j:Nat)(l r:Option AV):d0:=[some (.d F),some (.c j),l,r]
theorem uh(hc:μ[j]? =some (.live xs)):uR μ (.c j)=some xs:=eN hc
theorem UW{J:List Jn}(hk:a9 k ρ μ=some (.c j,μ))(hc:μ[j]? =some (.live (jL J)))(hz:J.length≤1000):af [a9 k] dD ρ μ=some (.d (.int J.length),μ):=by
 have:=gF hk (uh hc) (by rw [jL];refine rA (xJ _) ?_;exact aa (by lia))
 refine rA this ?_;rw [jL];exact rA (xJ _) rfl
theorem uo(k:Nat)(hf:f ρ μ=some (.d (.tuple xs),μ))(h1:1≤k)(h2:k≤xs.length)(hz:xs.length≤sizeLine):ce f (aL (kI k)) ba ρ μ=some (.d (.tuple (xs.drop k)),μ):=
 (b5 hf).trans ((b5 (rfl:aL (kI k) ρ μ=some (some (k:Int),μ))).trans ((b5 (rfl:ba ρ μ=some (none,μ))).trans (if_pos (by lia))))
theorem p9{e:EF}(h:e ρ μ=some (.d d,μ1))(acc:List PyData)(hz:acc.length≤sizeLine):cW bg (aY e) ρ μ acc=some (ρ,μ1,acc++[d]):=
 (show aY e ρ μ acc=some (ρ,μ1,acc++[d]) from (b5 h).trans ((b5 (rfl:wg (.d d) μ1=some (d,μ1))).trans (if_pos hz)))
theorem s71(m:List Nat):∀ (F:Fm) (k:Nat) (μ:List ah) (J:List Jn),F.ht≤k→μ[j]? =some (.live (jL J))→J.length+(gr F J.length).2.length≤1000→
  F8 k [.d (F.enc m),.c j] μ=some (.d (.int (gr F J.length).1),μ.set j (.live (jL (J++(gr F J.length).2))))
 |F,0,μ,J,hk,_,_=>by cases F<;>simp [Fm.ht] at hk
 | .at p,k+1,μ,J,hk,hc,hz=>by
  have e0:sb (F8 k) (rR ((Fm.at p).enc m) j none none) μ=some (.ret (.d (.int p)),rR ((Fm.at p).enc m) j none none,μ):=by
   have ht:bA (af [a9 0] dD) (kI 2) dH (rR ((Fm.at p).enc m) j none none) μ=some (true,μ):=by
    exact dG (gF (f:=a9 0) (xs:=[.int (sg m p),.list [.int p]]) rfl rfl (aa (xF rfl))) rfl rfl
   have hi:=cF (f:=aF (a9 0) (kI 1)) (g:=kI 0) (k:=0) (xs:=[.int p]) (d:=.int p) (ρ:=rR ((Fm.at p).enc m) j none none) (μ:=μ) (cF (f:=a9 0) (g:=kI 1) (k:=1) (xs:=[.int (sg m p),.list [.int p]]) rfl rfl rfl (by decide) rfl (aa (xF rfl))) rfl rfl (by decide) rfl (aa (xF rfl));unfold sb;exact (xN ht).trans (cT (dY hi))
  have:f71 (F8 k) (cC (ao (ay 71)) [.d ((Fm.at p).enc m),.c j]) μ=some (.ret (.d (.int p)),rR ((Fm.at p).enc m) j none none,μ):=by
   unfold f71;exact cT e0
  refine (?_:cy 2 _ _ _ _=_);refine rA (cZ (k:=2) rfl this) ?_;refine rA (F9 (DW _)) ?_;simp only [Hh,DN];exact rA (eJ hc) rfl
 | .bin p l r,k+1,μ,J,hk,hc,hz=>by
  have hk':l.ht≤k∧r.ht≤k:=by simp only [Fm.ht] at hk;lia
  have hlt:j<μ.length:=(Bm.mp hc).1;simp only [Ag,be,Gd] at hz
  generalize hx:gr l J.length=x at hz
  generalize hy:gr r (J.length+x.2.length)=y at hz
  have il:=s71 m l k μ J hk'.1 hc (by refine rA hx ?_;lia);rw [hx] at il
  have ir:=s71 m r k (μ.set j (.live (jL (J++x.2)))) (J++x.2) hk'.2 (cz hlt) (by refine rA be ?_;refine rA hy ?_;lia);rw [be,hy,Hb] at ir
  have e0:sb (F8 k) (rR ((Fm.bin p l r).enc m) j none none) μ=some (.next,rR ((Fm.bin p l r).enc m) j none none,μ):=by
   have ht:bA (af [a9 0] dD) (kI 2) dH (rR ((Fm.bin p l r).enc m) j none none) μ=some (false,μ):=by
    exact dG (gF (f:=a9 0) (xs:=[.int (if p then 18 else 16),.list (nL (l.pl++r.pl)),l.enc m,r.enc m]) rfl rfl (aa (xF rfl))) rfl rfl
   unfold sb;exact (Dh ht).trans bK
  have e1:Kb (F8 k) (rR ((Fm.bin p l r).enc m) j none none) μ=some (.next,rR ((Fm.bin p l r).enc m) j (some (.d (.int x.1))) (some (.d (.int y.1))),μ.set j (.live (jL (J++x.2++y.2)))):=by
   have hs:aK false (ce (a9 0) (aL (kI 2)) ba) (rR ((Fm.bin p l r).enc m) j none none) μ=some ([l.enc m,r.enc m],none,μ):=
    mN (uo (xs:=[.int (if p then 18 else 16),.list (nL (l.pl++r.pl)),l.enc m,r.enc m]) 2 rfl (by decide) (by simp) (aa (xF rfl)))
   have c1:=p9 (iM (f:=a9 4) (g:=a9 1) (V:=.d (l.enc m)) (V':=.c j) (ρ:=(bG rl (rR ((Fm.bin p l r).enc m) j none none)).set 4 (some (.d (l.enc m)))) rfl rfl il) [] (aa (xF rfl));have c2:=p9 (iM (f:=a9 4) (g:=a9 1) (V:=.d (r.enc m)) (V':=.c j) (ρ:=((bG rl (rR ((Fm.bin p l r).enc m) j none none)).set 4 (some (.d (l.enc m)))).set 4 (some (.d (r.enc m)))) rfl rfl ir) ([]++[.int x.1]) (aa (xF rfl));have hc:eX rl (aK false (ce (a9 0) (aL (kI 2)) ba)) (du 4) (cW bg (aY (af [a9 4,a9 1] (F8 k)))) (rR ((Fm.bin p l r).enc m) j none none) μ=some ([.int x.1,.int y.1],μ.set j (.live (jL (J++x.2++y.2)))):=by
    exact r9 hs ((oW rfl c1 (az _ _)).trans (oW rfl c2 (az _ _)))
   exact Vp (bY hc)
  have hJ:(μ.set j (.live (jL (J++x.2++y.2))))[j]? =some (.live (jL (J++x.2++y.2))):=cz hlt;have hjl:(J++x.2++y.2).length≤1000:=by simp only [be];lia
  have hnd:(6:Int)+((J++x.2++y.2).length:Nat)=((6+(J.length+x.2.length+y.2.length):Nat):Int):=by simp only [be];push_cast;lia
  have e2:Bz (F8 k) (rR ((Fm.bin p l r).enc m) j (some (.d (.int x.1))) (some (.d (.int y.1)))) (μ.set j (.live (jL (J++x.2++y.2))))=some (.next,rR ((Fm.bin p l r).enc m) j (some (.d (.int x.1))) (some (.d (.int y.1))),
    μ.set j (.live (jL (J++(x.2++y.2++[⟨p,6+(J.length+x.2.length+y.2.length),x.1,y.1⟩]))))):=by
   have ht:=d8 (ds:=[.int (if p then 18 else 16),.int (6+((J++x.2++y.2).length:Nat)),.int x.1,.int y.1]) (ρ:=rR ((Fm.bin p l r).enc m) j (some (.d (.int x.1))) (some (.d (.int y.1)))) (μ:=μ.set j (.live (jL (J++x.2++y.2))))
    (an (cF (f:=a9 0) (g:=kI 0) (k:=0) (xs:=[.int (if p then 18 else 16),.list (nL (l.pl++r.pl)),l.enc m,r.enc m]) rfl rfl rfl (by decide) rfl (aa (xF rfl))) (an (cR (f:=kI 6) rfl (UW (k:=1) rfl hJ hjl)) (an (f:=a9 2) (V:=.d (.int x.1)) rfl (an (f:=a9 3) (V:=.d (.int y.1)) rfl bX)))) (aa (xF rfl))
   unfold Bz;refine rA (eA (gk (f:=a9 1) (j:=j) rfl ht hJ (by rw [jL,xJ];exact aa (by omega)))) ?_;refine rA (Hb _) ?_;refine rA hnd ?_
   simp [jL,Jn.enc]
  have hJ2:(μ.set j (.live (jL (J++(x.2++y.2++[⟨p,6+(J.length+x.2.length+y.2.length),x.1,y.1⟩])))))[j]? =some (.live (jL (J++(x.2++y.2++[⟨p,6+(J.length+x.2.length+y.2.length),x.1,y.1⟩])))):=cz hlt;have e3:Kn (F8 k) (rR ((Fm.bin p l r).enc m) j (some (.d (.int x.1))) (some (.d (.int y.1)))) (μ.set j (.live (jL (J++(x.2++y.2++[⟨p,6+(J.length+x.2.length+y.2.length),x.1,y.1⟩])))))=some (.ret (.d (.int ((6+(J.length+x.2.length+y.2.length):Nat):Int))),rR ((Fm.bin p l r).enc m) j (some (.d (.int x.1))) (some (.d (.int y.1))),
    μ.set j (.live (jL (J++(x.2++y.2++[⟨p,6+(J.length+x.2.length+y.2.length),x.1,y.1⟩]))))):=by
   have h5:=cR (f:=kI 5) (x:=5) (ρ:=rR ((Fm.bin p l r).enc m) j (some (.d (.int x.1))) (some (.d (.int y.1)))) rfl (UW (k:=1) rfl hJ2 (by simp only [be,Gd];lia));exact (dY h5).trans (congrArg (λz=>some (Fl.ret (.d (.int z)),_,_)) (show (5:Int)+((J++(x.2++y.2++[(⟨p,6+(J.length+x.2.length+y.2.length),x.1,y.1⟩:Jn)])).length:Nat)=((6+(J.length+x.2.length+y.2.length):Nat):Int) by simp only [be,Gd];push_cast;lia))
  have:f71 (F8 k) (cC (ao (ay 71)) [.d ((Fm.bin p l r).enc m),.c j]) μ=some (.ret (.d (.int ((6+(J.length+x.2.length+y.2.length):Nat):Int))),rR ((Fm.bin p l r).enc m) j (some (.d (.int x.1))) (some (.d (.int y.1))),
    μ.set j (.live (jL (J++(x.2++y.2++[⟨p,6+(J.length+x.2.length+y.2.length),x.1,y.1⟩]))))):=by
   exact (aB e0).trans ((aB e1).trans ((aB e2).trans (cT e3)))
  refine (?_:cy 2 _ _ _ _=_);refine rA (cZ (k:=2) rfl this) ?_;refine rA (F9 (by simp)) ?_;simp only [Ag,hx,hy]
variable {J S : List Jn}
noncomputable def dg:List Nat→List (Nat×Nat)→List Nat
 |ls,[]=>ls
 |ls,(a,b)::r=>if ls.getD a 0=ls.getD b 0 then [] else dg (ls.map λx=>if x=ls.getD b 0 then ls.getD a 0 else x) r
theorem Bw{l:List Nat}{a:Nat}{r:List (Nat×Nat)}:dg l ((a,b)::r)=if l.getD a 0=l.getD b 0 then [] else dg (l.map λx=>if x=l.getD b 0 then l.getD a 0 else x) r:=rfl
noncomputable def eL(es:List (Nat×Nat)):List PyData:=es.map λp=>.tuple [.int p.1,.int p.2]
noncomputable def xc(ls:List Nat)(E:List PyData)(o t:Option AV):d0:=[some (.d (.list (nL ls))),some (.d (.list E)),o,t]
theorem tU{a:Nat}(h:a<ls.length):(nL ls)[a]? =some (.int (ls.getD a 0)):=by
 simp [nL,FS,Fh h]
theorem BC{a:Nat}(hf:f ρ μ=some (.d (.list (nL ls)),μ))(hg:g ρ μ=some (.d (.int a),μ))(h:a<ls.length)(hz:ls.length≤1000):aF f g ρ μ=some (.d (.int (ls.getD a 0)),μ):=
 cF hf hg rfl (by lia) (by simpa using tU h) (by rw [nL];refine rA (xJ _) ?_;exact aa (by lia))
abbrev ub:SF:=(ap (jG (bA (aF (a9 0) (a9 2)) (aF (a9 0) (a9 3)) dH) (ap (fe (aU [])) aP) aP) (ap (c6 0 (cb qd (aK false (a9 0)) (du 4) (cW bg (aY (dx (bA (a9 4) (aF (a9 0) (a9 3)) dH) (aF (a9 0) (a9 2)) (a9 4)))))) aP))
noncomputable def NY(u v:Int):PyData→PyData
 | .int y=>.int (if y=u then v else y)
 |x=>x
theorem IK{u v:Int}:NY u v (.int y)=.int (if y=u then v else y):=rfl
theorem R_{E:List PyData}{a:Nat}(h:a<ls.length)(hz:ls.length≤1000):aF (a9 0) (a9 2) (xc ls E (some (.d (.int a))) (some (.d (.int b)))) μ=some (.d (.int (ls.getD a 0)),μ):=BC rfl rfl h hz
theorem Si{E:List PyData}{a:Nat}(h:b<ls.length)(hz:ls.length≤1000):aF (a9 0) (a9 3) (xc ls E (some (.d (.int a))) (some (.d (.int b)))) μ=some (.d (.int (ls.getD b 0)),μ):=BC rfl rfl h hz
noncomputable def G7(ls:List Nat)(E:List PyData)(a b:Nat)(y:Int):d0:=[some (.d (.list (nL ls))),some (.d (.list E)),some (.d (.int a)),some (.d (.int b)),some (.d (.int y))]
theorem Ut{E:List PyData}{a:Nat}(h:a<ls.length)(hz:ls.length≤1000):aF (a9 0) (a9 2) (G7 ls E a b y) μ=some (.d (.int (ls.getD a 0)),μ):=BC rfl rfl h hz
theorem U_{E:List PyData}{a:Nat}(h:b<ls.length)(hz:ls.length≤1000):aF (a9 0) (a9 3) (G7 ls E a b y) μ=some (.d (.int (ls.getD b 0)),μ):=BC rfl rfl h hz
theorem Dk{E:List PyData}{a:Nat}(ha:a<ls.length)(hb:b<ls.length)(hz:ls.length≤1000)(q:ls.getD a 0=ls.getD b 0):
  ub (xc ls E (some (.d (.int a))) (some (.d (.int b)))) μ=some (.ret (.d (.list [])),xc ls E (some (.d (.int a))) (some (.d (.int b))),μ):=by
 have hcmp:=o4 (R_ (E:=E) (b:=b) (μ:=μ) ha hz) (Si hb hz);rw [q,beq_self_eq_true] at hcmp
 exact cT ((xN hcmp).trans (cT (dY uJ)))
theorem Zd{E:List PyData}{a:Nat}(ha:a<ls.length)(hb:b<ls.length)(hz:ls.length≤1000):dx (bA (a9 4) (aF (a9 0) (a9 3)) dH) (aF (a9 0) (a9 2)) (a9 4) (G7 ls E a b y) μ=some (.d (NY (ls.getD b 0) (ls.getD a 0) (.int y)),μ):=by
 have k3:bA (a9 4) (aF (a9 0) (a9 3)) dH (G7 ls E a b y) μ=some (y==(ls.getD b 0:Int),μ):=o4 rfl (U_ hb hz);have k4:a9 4 (G7 ls E a b y) μ=some (.d (.int y),μ):=rfl
 by_cases z:y=(ls.getD b 0:Int)
 ·rw [show (y==(ls.getD b 0:Int))=true from beq_iff_eq.mpr z] at k3
  refine rA (xa k3) ?_;refine rA (Ut ha hz) ?_;refine rA IK ?_;exact rA (if_pos z) rfl
 ·rw [show (y==(ls.getD b 0:Int))=false from beq_eq_false_iff_ne.mpr z] at k3
  refine rA (sI k3) ?_;refine rA k4 ?_;refine rA IK ?_;exact rA (if_neg z) rfl
theorem Z9(ls:List Nat)(u v:Nat):(nL ls).map (NY u v)=nL (ls.map λx=>if x=u then v else x):=by
 simp only [nL,ER];refine FL λy zz=>?_;refine (?_:EW (if (y:Int)=(u:Int) then (v:Int) else (y:Int))=EW ((if y=u then v else y:Nat):Int))
 by_cases z:y=u
 ·refine rA (if_pos z) ?_;exact rA (if_pos (by rw [z])) rfl
 ·refine rA (if_neg z) ?_;exact rA (if_neg (λq=>z (by exact_mod_cast q))) rfl
theorem DH{E:List PyData}{a:Nat}(ha:a<ls.length)(hb:b<ls.length)(hz:ls.length≤1000)(q:¬ls.getD a 0=ls.getD b 0):
  ub (xc ls E (some (.d (.int a))) (some (.d (.int b)))) μ=some (.next,xc (ls.map λx=>if x=ls.getD b 0 then ls.getD a 0 else x) E (some (.d (.int a))) (some (.d (.int b))),μ):=by
 have hcmp:=o4 (R_ (E:=E) (b:=b) (μ:=μ) ha hz) (Si hb hz);rw [show ((ls.getD a 0:Int)==(ls.getD b 0:Int))=false from beq_eq_false_iff_ne.mpr λz=>q (by exact_mod_cast z)] at hcmp
 have hi:aK false (a9 0) (xc ls E (some (.d (.int a))) (some (.d (.int b)))) μ=some (nL ls,none,μ):=d7 (V:=.d (.list (nL ls))) rfl rfl;have hc:=ip (sc:=qd) (e:=dx (bA (a9 4) (aF (a9 0) (a9 3)) dH) (aF (a9 0) (a9 2)) (a9 4)) 4 (NY (ls.getD b 0) (ls.getD a 0)) hi (az _ _) (λx hx=>by
  refine au (DT.mp hx) λy zz zq2=>?_;subst zq2;exact Zd ha hb hz) (by rw [nL];refine rA (xJ _) ?_;exact aa (by lia))
 rw [Z9] at hc
 have hd:=bY hc;have ha:c6 0 (cb qd (aK false (a9 0)) (du 4) (cW bg (aY (dx (bA (a9 4) (aF (a9 0) (a9 3)) dH) (aF (a9 0) (a9 2)) (a9 4))))) (xc ls E (some (.d (.int a))) (some (.d (.int b)))) μ=some (.next,xc (ls.map λx=>if x=ls.getD b 0 then ls.getD a 0 else x) E (some (.d (.int a))) (some (.d (.int b))),μ):=by
  exact bO hd
 exact (aB ((Dh hcmp).trans bK)).trans ((aB ha).trans bK)
theorem Q7(E:List PyData)(xs:List PyData)(μ:List ah):∀ (es:List (Nat×Nat)) (ls:List Nat) (o t:Option AV),ls.length≤1000→(∀p∈es,p.1<ls.length∧p.2<ls.length)→
  ∃ρ',ap (fS (ji 2 3) ub aP none xs (eL es)) (ap GN aP) (xc ls E o t) μ=some (.ret (.d (.list (nL (dg ls es)))),ρ',μ)
 | [],ls,o,t,hz,_=>⟨_,rfl⟩
 | (a,b)::es,ls,o,t,hz,hp=>by
  refine fY (hp (a,b) (by simp)) λha hb=>?_;have htf:ji 2 3 (xc ls E o t) (.tuple [.int a,.int b])=some (xc ls E (some (.d (.int a))) (some (.d (.int b)))):=rfl
  by_cases q:ls.getD a 0=ls.getD b 0
  ·refine ⟨xc ls E (some (.d (.int a))) (some (.d (.int b))),?_⟩
   refine rA Bw ?_;refine rA (if_pos q) ?_;exact cT (qy htf (Dk ha hb hz q))
  ·refine bP (Q7 E xs μ es (ls.map λx=>if x=ls.getD b 0 then ls.getD a 0 else x) (some (.d (.int a))) (some (.d (.int b))) (by simpa using hz) (λp hp'=>by simpa using hp p (D2 _ hp'))) λρ' ih=>?_
   refine ⟨ρ',?_⟩;refine rA Bw ?_;refine rA (if_neg q) ?_;refine rB ih ?_;rw [ap,ap];refine rA (show eL ((a,b)::es)=.tuple [.int a,.int b]::eL es from rfl) ?_;rw [dQ htf (DH ha hb hz q) (az _ _)]
theorem s72{es:List (Nat×Nat)}(hz:ls.length≤1000)(hp:∀p∈es,p.1<ls.length∧p.2<ls.length):dc [.d (.list (nL ls)),.d (.list (eL es))] μ=some (.d (.list (nL (dg ls es))),μ):=by
 refine bP (Q7 (eL es) (eL es) μ es ls none none hz hp) λρ' h=>?_;have hi:aK true (a9 1) (xc ls (eL es) none none) μ=some (eL es,none,μ):=BP (V:=.d (.list (eL es))) rfl rfl (re λzz=>⟨_,rfl⟩)
 have:f72 (cC (ao (ay 72)) [.d (.list (nL ls)),.d (.list (eL es))]) μ=some (.ret (.d (.list (nL (dg ls es)))),ρ',μ):=by
  refine rB h ?_;refine rA (show cC (ao (ay 72)) [.d (.list (nL ls)),.d (.list (eL es))]=xc ls (eL es) none none from rfl) ?_;unfold f72;rw [ap,ap]
  have:BX (xc ls (eL es) none none) μ=fS (ji 2 3) ub aP none (eL es) (eL es) (xc ls (eL es) none none) μ:=by
   unfold BX jH;exact rA hi rfl
  exact rA this rfl
 unfold dc;refine rA (cZ (k:=2) rfl this) ?_;exact rA (F9 (DW _)) rfl
theorem RP(hij:i≠j)(ρ0:d0)(u v:Option AV):YD (ji i j) ρ0 ((ρ0.set i u).set j v):= λy=>by
 refine congrArg (bp ((dT y).bind l2)) (funext λa=>funext λb=>?_);rw [R1 _ _ hij.symm,Hb,Hb]
theorem fC{X Y:Type}(f:X→Y)(l:List X):l.flatMap (λx=>[f x])=l.map f:=by
 induction l with
 |nil=>rfl
 |cons x l ih=>refine rA Fe ?_;refine rA ih ?_;rfl
theorem BI{X Y:Type}(p:X→Bool)(f:X→Y)(l:List X):l.flatMap (λx=>if p x then [f x] else [])=(l.filter p).map f:=by
 induction l with
 |nil=>rfl
 |cons x l ih=>
  refine rA Fe ?_;refine rA ih ?_;refine rA Ko ?_
  split<;>simp
theorem si{e:EF}{g:Option Nat}(i j:Nat)(hij:i≠j)(f:PyData→PyData)(hi:itf ρ μ=some (xs,g,μ1))(hg:cu g xs μ1)
  (h:∀x∈xs,∃a b,x=.tuple [a,b]∧e (((bG sc ρ).set i (some (.d a))).set j (some (.d b))) μ1=some (.d (f x),μ1)) (hz:xs.length≤sizeLine):eX sc itf (ji i j) (cW bg (aY e)) ρ μ=some (xs.map f,μ1):=by
 have:=m6 (sc:=sc) (tf:=ji i j) (cf:=cW bg (aY e)) hi hg (λx=>[f x]) (λx hx acc=>by
  refine jV (h x hx) λa b zq2 he=>?_;subst zq2;exact (dw _ _ rfl (λhz=>pe he acc (by simpa using hz)) (RP hij _ _ _))) (by refine rA (fC _ _) ?_;refine rA (xJ _) ?_;exact hz)
 refine rA this ?_;exact rA (fC _ _) rfl
theorem q_{e:EF}{g:Option Nat}(i j:Nat)(hij:i≠j)(p:PyData→Bool)(f:PyData→PyData)(hi:itf ρ μ=some (xs,g,μ1))(hg:cu g xs μ1)
  (h:∀x∈xs,∃a b,x=.tuple [a,b]∧t (((bG sc ρ).set i (some (.d a))).set j (some (.d b))) μ1=some (p x,μ1)∧(p x=true→e (((bG sc ρ).set i (some (.d a))).set j (some (.d b))) μ1=some (.d (f x),μ1))) (hz:xs.length≤sizeLine):eX sc itf (ji i j) (cW t (aY e)) ρ μ=some ((xs.filter p).map f,μ1):=by
 have:=m6 (sc:=sc) (tf:=ji i j) (cf:=cW t (aY e)) hi hg (λx=>if p x then [f x] else []) (λx hx acc=>by
  refine bq (h x hx) λa b zq2 ht he=>?_;subst zq2;exact (dw _ _ rfl (λhz=>Bs ht he acc hz) (RP hij _ _ _))) (by
   refine rA (BI _ _ _) ?_;refine rA (xJ _) ?_;exact KQ (GW ..) hz)
 refine rA this ?_;exact rA (BI _ _ _) rfl
theorem jU(hf:f ρ μ=some (V,μ))(h:wg V μ=some (.list xs,μ1)):b_ [f] f_ ρ μ=some (cL 0 xs,none,μ1):=by
 exact (b5 (wb hf)).trans ((bU (rfl:l1 [V]=some V)).trans (b5 h))
theorem fj{x:Int}(h:y≠0):co x y=some (x.fmod y):=if_neg h
theorem kL{x:Int}(h:¬(y=0∨2^64≤y.natAbs)):cN x y=some (x.fdiv y):=if_neg h
theorem AM(hf:f ρ μ=some (.d (.list xs),μ))(hg:g ρ μ=some (.d (.int y),μ))(h:xs.length*y.toNat≤16777216∧y.natAbs<9223372036854775808):aj f g l8 ρ μ=some (.d (.list (oj xs y.toNat)),μ):=by
 have e24:(2:Nat)^24=16777216:=by decide
 have e63:(2:Nat)^63=9223372036854775808:=by decide
 exact qR hf hg ((bU (rfl:jI (.d (.int y))=some y)).trans ((e_ (rfl:jI (.d (.list xs))=none)).trans ((bU (rfl:da μ (.d (.list xs))=some xs)).trans (if_pos (by rw [e24,e63];exact h)))))
noncomputable def rf(n:Int):List Int:=(([5,4,3,2,1]:List Int).filter λh=>decide (64^h.toNat≤n)).map (λh=>(n.fdiv (64^h.toNat)).fmod 64+64)++[n.fmod 64]
noncomputable def zt(cs:List Int)(k:Nat):Nat:=(((cs.getD (k%6) 0).fdiv 420).fmod 3).toNat
noncomputable def gt(cs:List Int):Nat→List Int→List Int
 |_,[]=>[]
 |k,n::ns=>(Gv (zt cs k) 64++rf n)++gt cs (k+1) ns
noncomputable def rQ(ns cs:List Int)(T:Int)(j:Nat)(a b:Option AV):d0:=[some (.d (.list (iL ns))),some (.d (.list (iL cs))),some (.d (.int T)),some (.c j),a,b]
theorem RO(h:Int)(hh:h∈([5,4,3,2,1]:List Int)):gu 64 h=some (64^h.toNat)∧¬((64:Int)^h.toNat=0∨2^64≤((64:Int)^h.toNat).natAbs):=by
 simp only [C1,E4,or_false] at hh
 rcases hh with rfl|rfl|rfl|rfl|rfl<;>exact ⟨by decide,by decide⟩
theorem PJ:∀k:Nat,oj [.int 64] k=iL (Gv k 64)
 |0=>rfl
 |k+1=>by rw [oj];refine rA (PJ k) ?_;rfl
abbrev XO:EF:=aj (aU [kI 64]) (aj (aj (aF (a9 1) (aj (a9 4) (kI 6) (aR co))) (kI 420) (aR cN)) (kI 3) (aR co)) l8
abbrev Zi:TF:=bA (a9 5) (aj (kI 64) (a9 6) (aR gu)) (d_ λx y=>decide (y≤x))
abbrev XU:EF:=aj (aj (aj (a9 5) (aj (kI 64) (a9 6) (aR gu)) (aR cN)) (kI 64) (aR co)) (kI 64) aT
abbrev ad4:EF:=aj (cb pO (aK false (aU [(kI 5),(kI 4),(kI 3),(kI 2),(kI 1)])) (du 6) (cW Zi (aY XU))) (aU [(aj (a9 5) (kI 64) (aR co))]) aT
theorem TS{T:Int}{b:Option AV}(hc:cs.length=6):XO (rQ ns cs T j (some (.d (.int k))) b) μ=some (.d (.list (iL (Gv (zt cs k) 64))),μ):=by
 have h6:k%6<cs.length:=by lia
 have hm:((k:Int).fmod 6)=((k%6:Nat):Int):=by refine rA (Int.fmod_eq_emod_of_nonneg _ (by decide)) ?_;rfl
 have e1:aj (a9 4) (kI 6) (aR co) (rQ ns cs T j (some (.d (.int k))) b) μ=some (.d (.int ((k%6:Nat):Int)),μ):=by
  refine rB hm ?_;exact cY (f:=a9 4) (x:=k) rfl rfl (fj (by decide))
 have e2:aF (a9 1) (aj (a9 4) (kI 6) (aR co)) (rQ ns cs T j (some (.d (.int k))) b) μ=some (.d (.int (cs.getD (k%6) 0)),μ):=
  cF (f:=a9 1) (V:=.d (.list (iL cs))) rfl e1 rfl (by lia) (by refine rA (Fd _) ?_;simp [iL,Fh h6]) (by refine rA (xJ _) ?_;exact aa (by lia))
 have e3:=cY (cY e2 (rfl:kI 420 _ _=some (.d (.int 420),_)) (kL (by decide))) (rfl:kI 3 _ _=some (.d (.int 3),_)) (fj (by decide));have h0:0≤((cs.getD (k%6) 0).fdiv 420).fmod 3:=Fa _ (by decide);have h3:((cs.getD (k%6) 0).fdiv 420).fmod 3<3:=HC _ (by decide)
 have:=AM (f:=aU [kI 64]) (xs:=[.int 64]) (kr rfl) e3 ⟨by simp only [Gd];lia,by lia⟩
 rw [PJ] at this
 exact this
noncomputable def YW(n:Int):PyData→Bool
 | .int h=>decide (64^h.toNat≤n)
 |_=>false
noncomputable def an9(n:Int):PyData→PyData
 | .int h=>.int ((n.fdiv (64^h.toNat)).fmod 64+64)
 |x=>x
theorem W3{T n:Int}{a:Option AV}:ad4 (rQ ns cs T j a (some (.d (.int n)))) μ=some (.d (.list (iL (rf n))),μ):=by
 have hi:aK false (aU [(kI 5),(kI 4),(kI 3),(kI 2),(kI 1)]) (rQ ns cs T j a (some (.d (.int n)))) μ=some (iL [5,4,3,2,1],none,μ):=
  d7 (V:=.d (.list (iL [5,4,3,2,1]))) (dF (ds:=[.int 5,.int 4,.int 3,.int 2,.int 1]) rfl (aa (xF rfl))) rfl
 have hpw:∀h∈([5,4,3,2,1]:List Int),aj (kI 64) (a9 6) (aR gu) ((bG pO (rQ ns cs T j a (some (.d (.int n))))).set 6 (some (.d (.int h)))) μ=some (.d (.int (64^h.toNat)),μ):= λh hh=>cY (f:=kI 64) (g:=a9 6) (x:=64) (y:=h) rfl rfl (RO h hh).1;have hc:=jc (sc:=pO) (t:=Zi) (e:=XU) 6 (YW n) (an9 n) hi (az _ _) (λx hx=>by
  refine au (DT.mp hx) λh hh zq2=>?_;subst zq2;exact dG (f:=a9 5) (V:=.d (.int n)) rfl (hpw h hh) rfl) (λx hx zz=>by
  refine au (DT.mp hx) λh hh zq2=>?_;subst zq2;exact cR (cY (cY (f:=a9 5) (x:=n) rfl (hpw h hh) (kL (RO h hh).2)) (rfl:kI 64 _ _=some (.d (.int 64),_)) (fj (by decide))) rfl) (by refine rA (xJ _) ?_;exact aa (by simp))
 have hd:=bY hc;have hl:=kr (cY (f:=a9 5) (g:=kI 64) (o:=co) (ρ:=rQ ns cs T j a (some (.d (.int n)))) (μ:=μ) (x:=n) (y:=64) rfl rfl (fj (by decide)))
 have:=cS hd hl rfl rfl (aa (by
  refine rA (xJ _) ?_
  have:=GW (YW n) (iL [5,4,3,2,1])
  simp only [xJ,Bb,EQ] at this⊢
  lia))
 refine this.trans ?_;refine congrArg (λl=>some (AV.d (.list l),μ)) ?_;unfold iL rf;rw [IQ,OG,ER,ER];rfl
abbrev Vi:SF:=(ap (ci (rT (a9 3) XO)) (ap (ci (rT (a9 3) ad4)) aP))
theorem qZ(n:Int):(rf n).length≤6:=by
 unfold rf;rw [be,xJ]
 have:=GW (λh:Int=>decide (64^h.toNat≤n)) [5,4,3,2,1]
 simp only [Bb,EQ] at this⊢
 lia
theorem po(cs:List Int)(k:Nat):zt cs k≤2:=by
 unfold zt;have h0:0≤((cs.getD (k%6) 0).fdiv 420).fmod 3:=Fa _ (by decide);have h3:((cs.getD (k%6) 0).fdiv 420).fmod 3<3:=HC _ (by decide);lia
theorem xA(cs:List Int):∀ (ns:List Int) (k:Nat),(gt cs k ns).length≤8*ns.length
 | [],k=>by simp [gt]
 |n::ns,k=>by
  have:=xA cs ns (k+1)
  have:=qZ n
  have:=po cs k
  simp only [gt,be,Lc,Bb];lia
theorem Su{nn:List Int}{T:Int}(hc:cs.length=6):∀ (ns:List Int) (k:Nat) (acc:List Int) (a b:Option AV) (μ:List ah),μ[j]? =some (.live (iL acc))→acc.length+8*ns.length≤10000→
  ∃a' b',fS (ji 4 5) Vi aP none xs (cL k (iL ns)) (rQ nn cs T j a b) μ=some (.next,rQ nn cs T j a' b',μ.set j (.live (iL (acc++gt cs k ns))))
 | [],k,acc,a,b,μ,hm,_=>(jK a b (by
  refine rA (show cL k (iL [])=[] from rfl) ?_;refine rA FD ?_;rw [gt];refine rA (DN _) ?_;refine rA (eJ hm) ?_;rfl))
 |n::ns,k,acc,a,b,μ,hm,hz=>by
  have hlt:j<μ.length:=(Bm.mp hm).1;have hd:=qZ n;have hp:=po cs k;simp only [Bb] at hz
  have e1:=eA (oV (f:=a9 3) (j:=j) rfl (TS (ns:=nn) (T:=T) (j:=j) (k:=k) (b:=some (.d (.int n))) (μ:=μ) hc) hm (by simp only [xJ,Lc];exact aa (by lia)));rw [lq] at e1
  have e2:=eA (oV (f:=a9 3) (j:=j) rfl (W3 (ns:=nn) (cs:=cs) (T:=T) (n:=n) (j:=j) (a:=some (.d (.int k))) (μ:=μ.set j (.live (iL (acc++Gv (zt cs k) 64))))) (cz hlt) (by simp only [xJ,be,Lc];exact aa (by lia)));rw [lq,Hb] at e2
  obtain ⟨a',b',ih⟩:=Su hc ns (k+1) (acc++Gv (zt cs k) 64++rf n) (some (.d (.int k))) (some (.d (.int n))) (μ.set j (.live (iL (acc++Gv (zt cs k) 64++rf n)))) (cz hlt) (by simp only [be,Lc];lia);refine (jK a' b' ?_);rw [Hb] at ih
  refine rA (show cL k (iL (n::ns))=.tuple [.int k,.int n]::cL (k+1) (iL ns) from rfl) ?_;refine rA (dQ (ρ1:=rQ nn cs T j (some (.d (.int k))) (some (.d (.int n)))) rfl ((aB e1).trans ((aB e2).trans bK)) (az _ _)) ?_;refine rA ih ?_;rw [gt];simp only [Eg]
noncomputable def mk(T:Int):Nat→List Int→List Int
 |_,[]=>[]
 |p,o::r=>(if ((p:Int)+T).fmod 3=0 then o+128 else o)::mk T (p+1) r
noncomputable def mkF(T:Int):PyData→PyData
 | .tuple [.int p,.int o]=>.int (if (p+T).fmod 3=0 then o+128 else o)
 |x=>x
theorem QO(T p o:Int):mkF T (.tuple [.int p,.int o])=.int (if (p+T).fmod 3=0 then o+128 else o):=rfl
theorem Jt(T:Int):∀ (l:List Int) (k:Nat),(cL k (iL l)).map (mkF T)=iL (mk T k l)
 | [],k=>rfl
 |o::l,k=>by
  refine rA (show cL k (iL (o::l))=.tuple [.int k,.int o]::cL (k+1) (iL l) from rfl) ?_;refine rA EV ?_;refine rA (Jt T l (k+1)) ?_;rfl
theorem lS:∀ (l:List Int) (k:Nat) {x:PyData},x∈cL k (iL l)→∃p o:Int,x=.tuple [.int p,.int o]
 | [],k,x,h=>by cases h
 |o::l,k,x,h=>by
  rw [show cL k (iL (o::l))=.tuple [.int k,.int o]::cL (k+1) (iL l) from rfl] at h
  rcases C1.mp h with rfl|h
  ·exact (jK _ _ rfl)
  ·exact lS l (k+1) h
theorem ik:∀ (l:List PyData) (k:Nat),(cL k l).length=l.length
 | [],k=>rfl
 |o::l,k=>by simp [cL,ik l (k+1)]
theorem vZ:mZ [] ρ μ=some (.c μ.length,μ++[.live []]):=by
 exact Hd rfl rfl (Lw _)
theorem dp:(μ++[c])[μ.length]? =some c:=by simp
theorem fh:(μ++[c]).set μ.length c'=μ++[c']:=by simp
theorem l_:(μ++[c]).take μ.length=μ:=by simp
theorem s66{T:Int}(hc:cs.length=6)(hz:ns.length≤1000):
  fV [.d (.list (iL ns)),.d (.list (iL cs)),.d (.int T)] μ=some (.d (.list (iL (mk T 0 (gt cs 0 ns++[64+T.fmod 64])))),μ):=by
 have hol:=xA cs ns 0;have e0:Jj (cC (ao (ay 66)) [.d (.list (iL ns)),.d (.list (iL cs)),.d (.int T)]) μ=some (.next,rQ ns cs T μ.length none none,μ++[.live (iL [])]):=bO vZ;refine lC (Su (nn:=ns) (T:=T) (xs:=cL 0 (iL ns)) hc ns 0 [] none none (μ++[.live (iL [])]) dp (by simp only [EQ];lia)) λa b h1=>?_;rw [fh,Lf] at h1
 have e1:Ge (rQ ns cs T μ.length none none) (μ++[.live (iL [])])=some (.next,rQ ns cs T μ.length a b,μ++[.live (iL (gt cs 0 ns))]):=(gJ (jU (f:=a9 0) rfl rfl)).trans h1;have e2:GP (rQ ns cs T μ.length a b) (μ++[.live (iL (gt cs 0 ns))])=some (.next,rQ ns cs T μ.length a b,μ++[.live (iL (gt cs 0 ns++[64+T.fmod 64]))]):=by
  have h:=gk (f:=a9 3) (g:=aj (kI 64) (aj (a9 2) (kI 64) (aR co)) aT) (j:=μ.length) (d:=.int (64+T.fmod 64)) (ρ:=rQ ns cs T μ.length a b) (μ:=μ++[.live (iL (gt cs 0 ns))]) rfl (cR (f:=kI 64) rfl (cY (f:=a9 2) (x:=T) rfl (rfl:kI 64 _ _=some (.d (.int 64),_)) (fj (by decide)))) dp (by refine rA (xJ _) ?_;exact aa (by lia));rw [fh,show iL (gt cs 0 ns)++[EW (64+T.fmod 64)]=iL (gt cs 0 ns++[64+T.fmod 64]) by simp [iL]] at h
  exact eA h
 have hfr:wg (.c μ.length) (μ++[.live (iL (gt cs 0 ns++[64+T.fmod 64]))])=some (.list (iL (gt cs 0 ns++[64+T.fmod 64])),μ++[.frozen (iL (gt cs 0 ns++[64+T.fmod 64]))]):=by
  exact (qu dp).trans (by rw [fh])
 have hcm:=si (sc:=v4) (e:=dx (bA (aj (aj (a9 6) (a9 2) aT) (kI 3) (aR co)) (kI 0) dH) (aj (a9 7) (kI 128) aT) (a9 7)) 6 7 (by decide) (mkF T) (jU (f:=a9 3) (ρ:=rQ ns cs T μ.length a b) rfl hfr) (az _ _) (λx hx=>by
  refine lC (lS _ _ hx) λp o zq2=>?_;subst zq2;refine (fX _ _ rfl ?_);have hcmp:bA (aj (aj (a9 6) (a9 2) aT) (kI 3) (aR co)) (kI 0) dH (((bG v4 (rQ ns cs T μ.length a b)).set 6 (some (.d (.int p)))).set 7 (some (.d (.int o)))) (μ++[.frozen (iL (gt cs 0 ns++[64+T.fmod 64]))])=some ((p+T).fmod 3==0,_):=
   o4 (cY (cR (f:=a9 6) (g:=a9 2) rfl rfl) (rfl:kI 3 _ _=some (.d (.int 3),_)) (fj (by decide))) rfl
  by_cases z:(p+T).fmod 3=0
  ·rw [show ((p+T).fmod 3==0)=true from beq_iff_eq.mpr z] at hcmp
   refine rA (xa hcmp) ?_;refine rA (QO _ _ _) ?_;refine rA (if_pos z) ?_;exact cR (f:=a9 7) (g:=kI 128) rfl rfl
  ·rw [show ((p+T).fmod 3==0)=false from beq_eq_false_iff_ne.mpr z] at hcmp
   refine rA (sI hcmp) ?_;refine rA (QO _ _ _) ?_;refine rA (if_neg z) ?_;rfl) (by refine rA (ik _ _) ?_;refine rA (xJ _) ?_;exact aa (by simp;lia))
 rw [Jt] at hcm
 have e3:Ja (rQ ns cs T μ.length a b) (μ++[.live (iL (gt cs 0 ns++[64+T.fmod 64]))])=some (.ret (.d (.list (iL (mk T 0 (gt cs 0 ns++[64+T.fmod 64]))))),rQ ns cs T μ.length a b,μ++[.frozen (iL (gt cs 0 ns++[64+T.fmod 64]))]):=dY (bY hcm)
 have:f66 (cC (ao (ay 66)) [.d (.list (iL ns)),.d (.list (iL cs)),.d (.int T)]) μ=some (.ret (.d (.list (iL (mk T 0 (gt cs 0 ns++[64+T.fmod 64]))))),rQ ns cs T μ.length a b,μ++[.frozen (iL (gt cs 0 ns++[64+T.fmod 64]))]):=
  (aB e0).trans ((aB e1).trans ((aB e2).trans (cT e3)))
 unfold fV;refine rA (cZ (k:=3) rfl this) ?_;exact rA l_ rfl
noncomputable def YL:Int→Int→List Int→Option (Int×List Int)
 |o,val,[]=>if 64≤o then none else some (val,[])
 |o,val,o'::os=>if 64≤o then (if 0≤val∧val<4294967296 then YL o' (val*64+o'%64) os else none) else some (val,o'::os)
noncomputable def rdF:List Int→Option (Int×List Int)
 | []=>none
 |o::os=>YL o (o%64) os
theorem My:(zd 128).all (λo=>Dd (o:Int) 64==(if 64≤(o:Int) then 64 else 0)&&Dd ((o:Int)+128) 64==(if 64≤(o:Int) then 64 else 0)&&Dd (o:Int) 63==(o:Int)%64&&Dd ((o:Int)+128) 63==(o:Int)%64)=true:=by decide+kernel
theorem jb{o m:Int}(h0:0≤o)(h1:o<128)(hm:m=o∨m=o+128):Dd m 64=(if 64≤o then 64 else 0)∧Dd m 63=o%64:=by
 refine bP (L2 h0) λn zq1=>?_;subst zq1
 have:=Bi.mp My n (D5.mpr (by lia))
 simp only [E_,beq_iff_eq] at this
 refine fY this λzp0 d=>?_;refine fY zp0 λzp0 c=>?_;obtain ⟨a,b⟩:=zp0
 rcases hm with rfl|rfl
 ·exact ⟨a,c⟩
 ·exact ⟨b,d⟩
theorem am3{v d:Int}(h0:0≤v)(h1:0≤d)(h2:d<64):Mb (v*64) d=v*64+d:=by
 have hz:Dd (v*64) d=0:=by
  refine bP (L2 h0) λa zq1=>?_;subst zq1;refine bP (L2 h1) λb zq1=>?_;subst zq1;have hb:b<64:=by lia
  have hn:(a*64) &&& b=0:=by
   apply Nat.eq_of_testBit_eq;intro i;refine rA (Nat.testBit_and _ _ _) ?_;refine rA (Nat.zero_testBit _) ?_;refine rA (show a*64=a <<< 6 by rw [Nat.shiftLeft_eq]) ?_;refine rA (Nat.testBit_shiftLeft _) ?_
   by_cases hi:6≤i
   ·refine rA (Nat.testBit_lt_two_pow (x:=b) (i:=i) (Om hb (Sb (n:=2) (by decide) hi))) ?_
    simp
   ·simp [hi]
  have e:Dd ((a:Int)*64) (b:Int)=(((a*64) &&& b:Nat):Int):=by
   unfold Dd;refine rA (decide_eq_true (show (0:Int)≤(a:Int)*64 by lia)) ?_;refine rA (decide_eq_true (show (0:Int)≤(b:Int) by lia)) ?_;dsimp only;refine rA (show ((a:Int)*64).toNat=a*64 by lia) ?_;exact rA (Fd _) rfl
  refine rA e ?_;refine rA hn ?_;rfl
 refine rA (PyProof.Rows.bitOr_and _ _) ?_;refine rA hz ?_;lia
theorem QF(T:Int)(rest:List Int):∀ (os:List Int) (o val:Int) (p k:Nat) (v:Int),os.length<k→0≤o→o<128→(∀x∈os,0≤x∧x<128)→YL o val os=some (v,[])→∀m,m=o∨m=o+128→∃p',E8 k m val (mk T p (os++rest))=some (v,mk T p' rest)
 |os,o,val,p,0,v,hk,_,_,_,_,_,_=>by lia
 | [],o,val,p,k+1,v,hk,h0,h1,ho,h,m,hm=>by
  unfold YL at h
  split at h
  ·exact ct h
  ·rename_i hq
   cases h;refine ⟨p,?_⟩;unfold E8;refine rA ((jb h0 h1 hm).1) ?_;refine rA (if_neg hq) ?_;refine rA (if_neg (by decide)) ?_;rfl
 |o'::os,o,val,p,k+1,v,hk,h0,h1,ho,h,m,hm=>by
  unfold YL at h
  split at h
  ·rename_i hq
   split at h
   ·rename_i hv
    have h':=ho o' (by simp);have hm':(if ((p:Int)+T).fmod 3=0 then o'+128 else o')=o'∨(if ((p:Int)+T).fmod 3=0 then o'+128 else o')=o'+128:=by
     split
     ·exact .inr rfl
     ·exact .inl rfl
    refine bP (QF T rest os o' (val*64+o'%64) (p+1) k v (by simp at hk;lia) h'.1 h'.2 (λx hx=>ho x (D2 _ hx)) h _ hm') λp' ih=>?_;refine ⟨p',?_⟩;refine rA KV ?_;rw [mk];unfold E8;refine rA ((jb h0 h1 hm).1) ?_;refine rA (if_pos hq) ?_;refine rA (if_pos (by decide)) ?_;dsimp only;refine rA (if_pos hv) ?_;refine rA ((jb h'.1 h'.2 hm').2) ?_;refine rA (am3 hv.1 (Int.emod_nonneg _ (by decide)) (Int.emod_lt_of_pos _ (by decide))) ?_;exact ih
   ·exact ct h
  ·cases h
theorem UT{T:Int}{blk:List Int}{v:Int}(hz:blk.length≤60)(hb:∀x∈blk,0≤x∧x<128)(h:rdF blk=some (v,[])):∃p',rd (mk T p (blk++rest))=some (v,mk T p' rest):=by
 cases blk with
 |nil=>exact ct h
 |cons o os=>
  have h':=hb o (by simp);have hm':(if ((p:Int)+T).fmod 3=0 then o+128 else o)=o∨(if ((p:Int)+T).fmod 3=0 then o+128 else o)=o+128:=by
   split
   ·exact .inr rfl
   ·exact .inl rfl
  refine bP (QF T rest os o (o%64) (p+1) 64 v (by simp at hz;lia) h'.1 h'.2 (λx hx=>hb x (D2 _ hx)) h _ hm') λp' e=>?_;refine ⟨p',?_⟩;refine rA KV ?_;rw [mk,rd];refine rA ((jb h'.1 h'.2 hm').2) ?_;exact e
noncomputable def ou:List Int:=[0,7,8,272,274]++(zd 6).flatMap λf=>(zd 13).map λlow=>(2^f-1)*2^low+2^31
theorem NW:(ou.all λn=>(zd 3).all λq=>rdF (Gv q 64++rf n)==some (n,[]))=true:=by decide+kernel
theorem Hx:(ou.all λn=>(rf n).all λo=>decide (0≤o∧o<128))=true:=by decide+kernel
theorem JN{n:Int}(hn:n∈ou)(hq:q≤2):rdF (Gv q 64++rf n)=some (n,[])∧∀x∈Gv q 64++rf n,0≤x∧x<128:=by
 refine ⟨?_,λx hx=>?_⟩
 ·have:=Bi.mp (Bi.mp NW n hn) q (D5.mpr (by lia))
  simpa using this
 ·rcases AZ.mp hx with h|h
  ·have:=List.eq_of_mem_replicate h
   lia
  ·have:=Bi.mp (Bi.mp Hx n hn) x h
   simpa using this
theorem vy(T:Int)(cs tail:List Int):∀ (ns:List Int) (k p:Nat),(∀n∈ns,n∈ou)→∃p',xO (mk T p (gt cs k ns++tail)) ns (mk T p' tail)
 | [],k,p,_=>⟨p,.nil _⟩
 |n::ns,k,p,h=>by
  refine fY (JN (h n (by simp)) (po cs k)) λg1 g2=>?_;have hd:=qZ n;have hp:=po cs k;refine bP (UT (T:=T) (rest:=gt cs (k+1) ns++tail) (p:=p) (by refine rA be ?_;refine rA Lc ?_;lia) g2 g1) λp1 e1=>?_;refine bP (vy T cs tail ns (k+1) p1 λx hx=>h x (D2 _ hx)) λp2 e2=>?_;refine ⟨p2,.cons ?_ e2⟩;rw [gt];refine rA (Eg _ _ _) ?_;exact e1
theorem nQ{g:Option Nat}(hg:cu g xs μ)(Good:d0→Prop)(out:PyData→List PyData)
  (r:List PyData) (ρ:d0) (acc:List PyData) (hb:Good ρ) (h:∀x∈r,∀ρ,Good ρ→∀acc,acc.length+(out x).length≤sizeLine→∃ρ1 ρ2,tf ρ x=some ρ1∧cf ρ1 μ acc=some (ρ2,μ,acc++out x)∧Good ρ2) (hz:acc.length+(r.flatMap out).length≤sizeLine):
   ∃ρ',Good ρ'∧f5 tf cf g xs r ρ μ acc=some (ρ',μ,acc++r.flatMap out):=by
 induction r generalizing ρ acc with
 |nil=>exact aZ ρ hb (congrArg (λz=>some (ρ,μ,z)) (DN _).symm)
 |cons x r ih=>
  rw [Fe,be] at hz
  refine bq (h x (FK ..) ρ hb acc (by lia)) λρ1 ρ2 e1 e2 e3=>?_;refine au (ih ρ2 (acc++out x) e3 (λy hy=>h y (D2 _ hy)) (by rw [be];lia)) λρ' hb' e=>aZ ρ' hb' ?_;refine (oW e1 e2 hg).trans (e.trans ?_);rw [Fe,Eg]
theorem wV{g:Option Nat}(hi:itf ρ μ=some (xs,g,μ1))(hg:cu g xs μ1)(Good:d0→Prop)(out:PyData→List PyData)(h0:Good (bG sc ρ))
  (h:∀x∈xs,∀ρ,Good ρ→∀acc,acc.length+(out x).length≤sizeLine→∃ρ1 ρ2,tf ρ x=some ρ1∧cf ρ1 μ1 acc=some (ρ2,μ1,acc++out x)∧Good ρ2) (hz:(xs.flatMap out).length≤sizeLine):
  eX sc itf tf cf ρ μ=some (xs.flatMap out,μ1):=by
 refine au (nQ hg Good out xs (bG sc ρ) [] h0 h (by simpa using hz)) λρ' zz e=>?_;exact r9 hi e
theorem Gn:cW bg cf ρ μ acc=cf ρ μ acc:=rfl
theorem xw{g:Option Nat}(hi:itf ρ μ=some (xs,g,μ1)):gf itf tf cf ρ μ acc=f5 tf cf g xs xs ρ μ1 acc:=b5 hi
noncomputable abbrev U:=List Nat
noncomputable def uS(u:U):PyData:=.str ⟨u.toArray⟩
noncomputable def uL(l:List U):List PyData:=l.map uS
noncomputable def nx:Nat→List U
 |0=>[]
 |1=>[[92,40]]
 |2=>[[34],[41],[34]]
 |3=>[[92,92]]
 |4=>[[34],[92,34],[41],[34]]
 |5=>[[97],[92,34]]
 |_=>[[34],[34]]
noncomputable def iE(cs:List Int)(p:Nat):Nat:=(((cs.getD p 0).fdiv 60).fmod 7).toNat
noncomputable def sq(m:List Nat)(p:Nat):U:=if p<m.getD p 0 then [40] else [41]
noncomputable def UO(l:List U):Bool:=l.head?==some [34]
noncomputable def eI(m:List Nat)(cs:List Int)(sh:Bool)(p:Nat):List U:=(if sh&&UO (nx (iE cs p)) then [] else nx (iE cs p))++[sq m p]
noncomputable def units(m:List Nat)(cs:List Int)(sh:Bool)(pl:List Nat):List U:=pl.flatMap (eI m cs sh)
noncomputable def ml:PyData:=.list ((zd 7).map λi=>.list (uL (nx i)))
noncomputable def Fg(M C:PyData)(V:AV)(sh:Bool)(pieces picked:Option AV):d0:=[some V,some (.d M),some (.d C),some (.d (.bool sh)),pieces,picked]
theorem J5{M C:PyData}:FH [some V,some (.d M),some (.d C),some (.d (.bool sh)),none,none] μ=some (.next,Fg M C V sh (some (.d ml)) none,μ):=rfl
noncomputable def fW(m:List Nat)(cs:List Int)(p:Nat):PyData:=.tuple [.list (uL (nx (iE cs p))),uS (sq m p)]
noncomputable def RW(m:List Nat)(cs:List Int):PyData→PyData
 | .int i=>fW m cs i.toNat
 |x=>x
theorem jv(cs:List Int)(p:Nat):iE cs p<7:=by
 unfold iE;have h0:0≤((cs.getD p 0).fdiv 60).fmod 7:=Fa _ (by decide);have h7:((cs.getD p 0).fdiv 60).fmod 7<7:=HC _ (by decide);lia
theorem Gk{pl:List Nat}{g:Option Nat}(hm:m.length=6)(hc:cs.length=6)(hp:∀p∈pl,p<6)(hz:pl.length≤1000)
  (hi:aK false (a9 0) (Fg (.list (nL m)) (.list (iL cs)) V sh (some (.d ml)) none) μ=some (nL pl,g,μ)) (hg:cu g (nL pl) μ):
  HK (Fg (.list (nL m)) (.list (iL cs)) V sh (some (.d ml)) none) μ=some (.next,Fg (.list (nL m)) (.list (iL cs)) V sh (some (.d ml)) (some (.d (.list (pl.map (fW m cs))))),μ):=by
 have hcm:=ip (sc:=lF) (e:=cX [(aF (a9 4) (aj (aj (aF (a9 2) (a9 6)) (kI 60) (aR cN)) (kI 7) (aR co))),(dx (bA (aF (a9 1) (a9 6)) (a9 6) (d_ λx y=>decide (y<x))) (kS "(") (kS ")"))]) 6 (RW m cs) hi hg (λx hx=>by
  refine au (DT.mp hx) λp hpm zq2=>?_;subst zq2;have h6:=hp p hpm;have e1:aF (a9 2) (a9 6) ((bG lF (Fg (.list (nL m)) (.list (iL cs)) V sh (some (.d ml)) none)).set 6 (some (.d (.int (p:Int))))) μ=some (.d (.int (cs.getD p 0)),μ):=
   cF (f:=a9 2) (V:=.d (.list (iL cs))) (k:=p) rfl rfl rfl (by lia) (by refine rA (Fd _) ?_;simp [iL,Fh (hc.symm▸h6:p<cs.length)]) (by refine rA (xJ _) ?_;exact aa (by lia))
  have e2:=cY (cY e1 (rfl:kI 60 _ _=some (.d (.int 60),_)) (kL (by decide))) (rfl:kI 7 _ _=some (.d (.int 7),_)) (fj (by decide));have h0:0≤((cs.getD p 0).fdiv 60).fmod 7:=Fa _ (by decide);have hq:=jv cs p;have e3:=cF (f:=a9 4) (V:=.d ml) (xs:=(zd 7).map λi=>.list (uL (nx i))) (d:=.list (uL (nx (iE cs p)))) rfl e2 rfl h0 (by
   show ((zd 7).map λi=>O1 (uL (nx i)))[iE cs p]? =_
   rw [FS,O6 hq];rfl) (by refine rA (xJ _) ?_;refine rA Ib ?_;exact aa (by decide))
  have e4:aF (a9 1) (a9 6) ((bG lF (Fg (.list (nL m)) (.list (iL cs)) V sh (some (.d ml)) none)).set 6 (some (.d (.int (p:Int))))) μ=some (.d (.int (m.getD p 0)),μ):=
   cF (f:=a9 1) (V:=.d (.list (nL m))) (k:=p) rfl rfl rfl (by lia) (by refine rA (Fd _) ?_;exact tU (by lia)) (by rw [nL];refine rA (xJ _) ?_;exact aa (by lia))
  have e5:bA (aF (a9 1) (a9 6)) (a9 6) (d_ λx y=>decide (y<x)) ((bG lF (Fg (.list (nL m)) (.list (iL cs)) V sh (some (.d ml)) none)).set 6 (some (.d (.int (p:Int))))) μ=some (decide ((p:Int)< (m.getD p 0:Nat)),μ):=dG e4 (rfl:a9 6 _ _=some (.d (.int p),_)) rfl;have e6:dx (bA (aF (a9 1) (a9 6)) (a9 6) (d_ λx y=>decide (y<x))) (kS "(") (kS ")") ((bG lF (Fg (.list (nL m)) (.list (iL cs)) V sh (some (.d ml)) none)).set 6 (some (.d (.int (p:Int))))) μ=some (.d (uS (sq m p)),μ):=by
   unfold sq
   by_cases z:p<m.getD p 0
   ·rw [decide_eq_true (show (p:Int)< (m.getD p 0:Nat) by lia)] at e5
    refine rA (xa e5) ?_;refine rA (if_pos z) ?_;rfl
   ·rw [decide_eq_false (show ¬ (p:Int)< (m.getD p 0:Nat) by lia)] at e5
    refine rA (sI e5) ?_;refine rA (if_neg z) ?_;rfl
  exact d8 (ds:=[.list (uL (nx (iE cs p))),uS (sq m p)]) (an e3 (an e6 bX)) (aa (xF rfl))) (by rw [nL];refine rA (xJ _) ?_;exact aa (by lia))
 rw [show (nL pl).map (RW m cs)=pl.map (fW m cs) by rw [nL,ER];rfl] at hcm
 exact ju hcm
noncomputable abbrev Q4(M C:PyData)(V:AV)(sh:Bool)(K:PyData)(a b c:Option AV):d0:=[some V,some (.d M),some (.d C),some (.d (.bool sh)),some (.d ml),some (.d K),a,b,c]
abbrev pcE:EF:=dx (FT (ga (a9 3)) (bA (ce (a9 6) ba (aL (kI 1))) (aU [(kS "\"")]) dH)) (aU []) (a9 6)
theorem Jc(hq:q<7):dH (.d (.list (uL ((nx q).take 1)))) (.d (.list [.str "\""])) μ=some (UO (nx q)):=by
 match q,hq with
 |0,_=>kernel_rfl
 |1,_=>kernel_rfl
 |2,_=>kernel_rfl
 |3,_=>kernel_rfl
 |4,_=>kernel_rfl
 |5,_=>kernel_rfl
 |6,_=>kernel_rfl
theorem Zq{M C:PyData}{K:PyData}{s c:Option AV}(hq:q<7):pcE (Q4 M C V sh K (some (.d (.list (uL (nx q))))) s c) μ=some (.d (.list (uL (if sh&&UO (nx q) then [] else nx q))),μ):=by
 cases sh with
 |false=>exact (sI (Yy (nq (V:=.d (.bool false)) rfl rfl))).trans rfl
 |true=>
  have hv:ga (a9 3) (Q4 M C V true K (some (.d (.list (uL (nx q))))) s c) μ=some (true,μ):=nq (V:=.d (.bool true)) rfl rfl;have hc:bA (ce (a9 6) ba (aL (kI 1))) (aU [(kS "\"")]) dH (Q4 M C V true K (some (.d (.list (uL (nx q))))) s c) μ=some (UO (nx q),μ):=by
   have hs:ce (a9 6) ba (aL (kI 1)) (Q4 M C V true K (some (.d (.list (uL (nx q))))) s c) μ=some (.d (.list (uL ((nx q).take 1))),μ):=by
    match q,hq with
    |0,_=>rfl
    |1,_=>rfl
    |2,_=>rfl
    |3,_=>rfl
    |4,_=>rfl
    |5,_=>rfl
    |6,_=>rfl
   exact dG hs (kr (f:=kS "\"") rfl) (Jc hq)
  have ha:=(Y_ (t':=bA (ce (a9 6) ba (aL (kI 1))) (aU [(kS "\"")]) dH) hv).trans hc;cases hqq:UO (nx q) with
  |true=>rw [hqq] at ha;exact (xa ha).trans uJ
  |false=>rw [hqq] at ha;exact (sI ha).trans rfl
noncomputable def VR:List PyData→Bool
 | .str x::_=>x.cps.toList==[34]
 |_=>false
theorem O4(l:List U):VR (uL l)=UO l:=by
 cases l with
 |nil=>rfl
 |cons u l=>
  refine (?_:(u.toArray.toList==[34])=(some u==some [34]));refine rA (show u.toArray.toList=u by simp) ?_;rfl
noncomputable def z7(sh:Bool):PyData→List PyData
 | .tuple [.list ps,s]=>(if sh&&VR ps then [] else ps)++[s]
 |_=>[]
theorem C5(m:List Nat)(cs:List Int)(sh:Bool)(p:Nat):z7 sh (fW m cs p)=uL (eI m cs sh p):=by
 refine (?_:(if sh&&VR (uL (nx (iE cs p))) then [] else uL (nx (iE cs p)))++[uS (sq m p)]=_);refine rA (O4 _) ?_;rw [eI,uL,uL];refine rA IQ ?_
 split<;>rfl
theorem BN(q:Nat):(nx q).length≤4:=by
 match q with
 |0=>decide
 |1=>decide
 |2=>decide
 |3=>decide
 |4=>decide
 |5=>decide
 | (n+6)=>exact (by decide:2≤4)
theorem xR(m:List Nat)(cs:List Int)(sh:Bool)(p:Nat):(eI m cs sh p).length≤5:=by
 unfold eI
 have:=BN (iE cs p)
 refine rA be ?_;refine rA Gd ?_
 split
 ·simp
 ·lia
theorem hZ(m:List Nat)(cs:List Int)(sh:Bool):∀pl:List Nat,(units m cs sh pl).length≤5*pl.length
 | []=>by simp [units]
 |p::pl=>by
  have h1:=xR m cs sh p;have h2:=hZ m cs sh pl;simp only [units,Fe,be,Bb] at h2⊢
  lia
theorem uB(m:List Nat)(cs:List Int)(sh:Bool):∀pl:List Nat,(pl.map (fW m cs)).flatMap (z7 sh)=uL (units m cs sh pl)
 | []=>rfl
 |p::pl=>by
  refine rA EV ?_;refine rA Fe ?_;refine rA (uB m cs sh pl) ?_;refine rA (C5 _ _ _ _) ?_
  simp [units,uL]
theorem GY{pl:List Nat}{M C:PyData}(hz:pl.length≤1000):
  Ku (Fg M C V sh (some (.d ml)) (some (.d (.list (pl.map (fW m cs)))))) μ=some (.ret (.d (.list (uL (units m cs sh pl)))),Fg M C V sh (some (.d ml)) (some (.d (.list (pl.map (fW m cs))))),μ):=by
 have hi:aK true (a9 5) (Fg M C V sh (some (.d ml)) (some (.d (.list (pl.map (fW m cs)))))) μ=some (pl.map (fW m cs),none,μ):=BP (V:=.d (.list (pl.map (fW m cs)))) rfl rfl (re λzz=>⟨_,rfl⟩);have hul:=hZ m cs sh pl;have hcm:=wV (sc:=Av) (tf:=ji 6 7) (cf:=cW bg (gf (aK false (aj pcE (aU [(a9 7)]) aT)) (du 8) (cW bg (aY (a9 8))))) hi (az _ _) (λρ=>∃a b c,ρ=Q4 M C V sh (.list (pl.map (fW m cs))) a b c) (z7 sh) (jC none none none rfl) (λx hx ρ hρ acc hacc=>by
  refine au (DT.mp hx) λp hp zq2=>?_;subst zq2;refine jE hρ λa b c zq3=>?_;subst zq3;have hadd:=cS (Zq (M:=M) (C:=C) (V:=V) (sh:=sh) (K:=.list (pl.map (fW m cs))) (s:=some (.d (uS (sq m p)))) (c:=c) (μ:=μ) (jv cs p)) (kr (f:=a9 7) (d:=uS (sq m p)) rfl) rfl rfl (aa (by
   have:=BN (iE cs p)
   refine rA Gd ?_;rw [uL];refine rA (xJ _) ?_
   split
   ·simp
   ·lia))
  have hl:uL (if sh&&UO (nx (iE cs p)) then [] else nx (iE cs p))++[uS (sq m p)]=z7 sh (fW m cs p):=by
   refine rA (C5 _ _ _ _) ?_;rw [eI,uL,uL];refine rA IQ ?_;rfl
  rw [hl] at hadd
  obtain ⟨ρ',⟨w,hw⟩,hf⟩:=nQ (tf:=du 8) (cf:=cW bg (aY (a9 8))) (μ:=μ) (xs:=z7 sh (fW m cs p)) (az _ _) (λρ=>∃w,ρ=Q4 M C V sh (.list (pl.map (fW m cs))) (some (.d (.list (uL (nx (iE cs p)))))) (some (.d (uS (sq m p)))) w) (λx=>[x]) (z7 sh (fW m cs p)) _ acc ⟨c,rfl⟩ (λy zz ρ hρ acc hacc=>by
   refine bP hρ λw zq1=>?_;subst zq1;exact (BW _ _ rfl (pe (d:=y) rfl acc hacc) _ rfl)) (by simpa [fC] using hacc)
  rw [fC,TC] at hf
  subst hw;refine (EP (Q4 M C V sh (.list (pl.map (fW m cs))) (some (.d (.list (uL (nx (iE cs p)))))) (some (.d (uS (sq m p)))) c) (Q4 M C V sh (.list (pl.map (fW m cs))) (some (.d (.list (uL (nx (iE cs p)))))) (some (.d (uS (sq m p)))) w) rfl ?_ _ _ _ rfl);refine LA Gn ?_;refine LA (xw (d7 (V:=.d (.list (z7 sh (fW m cs p)))) hadd rfl)) ?_;exact hf) (by refine rA (uB _ _ _ _) ?_;rw [uL];refine rA (xJ _) ?_;exact aa (by lia))
 rw [uB] at hcm
 exact dY (bY hcm)
theorem s67{pl:List Nat}{g:Option Nat}(hm:m.length=6)(hc:cs.length=6)(hp:∀p∈pl,p<6)(hz:pl.length≤1000)
  (hi:aK false (a9 0) (Fg (.list (nL m)) (.list (iL cs)) V sh (some (.d ml)) none) μ=some (nL pl,g,μ)) (hg:cu g (nL pl) μ):
  bB [V,.d (.list (nL m)),.d (.list (iL cs)),.d (.bool sh)] μ=some (.d (.list (uL (units m cs sh pl))),μ):=by
 have:f67 (cC (ao (ay 67)) [V,.d (.list (nL m)),.d (.list (iL cs)),.d (.bool sh)]) μ=_:=(aB J5).trans ((aB (Gk hm hc hp hz hi hg)).trans (cT (GY hz)))
 unfold bB;refine LA (cZ (k:=4) rfl this) ?_;exact rA (F9 (DW _)) rfl
theorem Zu{pl:List Nat}(hm:m.length=6)(hc:cs.length=6)(hp:∀p∈pl,p<6)(hz:pl.length≤1000):
 bB [.d (.list (nL pl)),.d (.list (nL m)),.d (.list (iL cs)),.d (.bool sh)] μ=some (.d (.list (uL (units m cs sh pl))),μ):=s67 hm hc hp hz (d7 (V:=.d (.list (nL pl))) rfl rfl) (az _ _)
theorem Sg(hm:m.length=6)(hc:cs.length=6):
 bB [.rng 0 6,.d (.list (nL m)),.d (.list (iL cs)),.d (.bool sh)] μ=some (.d (.list (uL (units m cs sh (zd 6)))),μ):=s67 (pl:=zd 6) hm hc (λp hp=>D5.mp hp) (by decide) rfl (az _ _)
noncomputable def tS(l:List Nat):Str:=⟨l.toArray⟩
theorem eh(l:List Nat):(tS l).length=l.length:=by simp [tS,Str.length]
theorem fR(l:List Nat):(tS l).cps.toList=l:=by simp [tS]
noncomputable def wf:U→Bool
 | [c]=>c != 92
 | [a,_]=>a==92
 |_=>false
theorem Ji:∀ {u:U},wf u=true→(∃c,u=[c]∧c≠92)∨∃c,u=[92,c]
 | [c],h=>.inl ⟨c,rfl,bne_iff_ne.mp h⟩
 | [a,c],h=>.inr ⟨c,by exact rA (show a=92 from beq_iff_eq.mp h) rfl⟩
noncomputable def l6:Nat→List U→List PyData
 |_,[]=>[]
 |k,u::r=>.tuple [.int ((k+u.length:Nat)-1),uS u]::l6 (k+u.length) r
theorem tK:∀ (us:List U) (k:Nat) (tail:List Nat),(us.all wf)=true→er (us.flatten++tail) k false=l6 k us++er tail (k+us.flatten.length) false
 | [],k,tail,_=>by simp [l6]
 |u::us,k,tail,h=>by
  simp only [Me,E_] at h
  have ih:=tK us (k+u.length) tail h.2
  rcases Ji h.1 with ⟨c,rfl,hc⟩| ⟨c,rfl⟩
  ·refine rA Gq ?_;refine rA (Eg _ _ _) ?_;refine rA RD ?_;rw [er];refine rA (if_neg hc) ?_;refine rA be ?_
   simp only [Gd] at ih⊢
   refine rA ih ?_;rw [l6];refine rA KV ?_;refine rA Gd ?_;refine rB (R9 _ _ _) ?_
   congr 3
   simp
  ·refine rA Gq ?_;refine rA (Eg _ _ _) ?_
   refine (?_:er (92::c::(us.flatten++tail)) k false=_);rw [er];refine rA (if_pos rfl) ?_;rw [er];simp only [Bb,EQ,Lp,Nat.reduceAdd] at ih
   refine rA (show k+1+1=k+2 from rfl) ?_;refine rA ih ?_;rw [l6];refine rA KV ?_;refine rA be ?_;simp only [Bb,EQ,Lp,Nat.reduceAdd];refine rB (R9 _ _ _) ?_
   congr 3
   congr 1
   lia
theorem xW{us:List U}(hf:f ρ μ=some (.d (.str (tS us.flatten)),μ))(hw:us.all wf=true):b_ [f] aE ρ μ=some (l6 0 us,none,μ):=by
 have:=tK us 0 [] hw
 simp only [DN] at this
 refine (b5 (wb hf)).trans (congrArg (λl=>some (l,none,μ)) ?_);rw [fR,this];exact DN _
theorem TV(u:U)(c:Nat):((tS u)==(⟨#[c]⟩:Str))=decide (u=[c]):=by
 by_cases h:u=[c]
 ·subst h
  refine rA (decide_eq_true rfl) ?_;exact beq_self_eq_true _
 ·refine rA (decide_eq_false h) ?_;refine rA (propext (beq_eq_false_iff_ne)) ?_
  intro q
  have:=congrArg (λs:Str=>s.cps.toList) q
  simp [tS] at this
  exact h this
theorem Cg{u:U}{c:Nat}(hf:f ρ μ=some (.d (uS u),μ))(hg:g ρ μ=some (.d (.str ⟨#[c]⟩),μ)):bA f g dH ρ μ=some (decide (u=[c]),μ):=
 (dG hf hg rfl).trans (by refine rB (TV _ _) ?_;rfl)
theorem JP(l:List Nat){a:Nat}(hab:a≤b)(hb:b≤l.length):oD (tS l) (some (a:Int)) (some (b:Int))=tS ((l.drop a).take (b-a)):=by
 unfold oD;refine rA (eh _) ?_;refine rA (StrLaws.strSliceIndices_plain hab hb) ?_
 split
 ·rename_i h
  simp only [xJ,Ib,beq_iff_eq] at h
  have h0:a=0:=by lia
  have h1:b=l.length:=by lia
  subst h0 h1
  simp
 ·have:=StrLaws.picks l (b-a) a (by lia)
  unfold tS
  congr 2
  simpa using this
theorem HS{a len:Nat}:IL (some (a:Int)) none 1 len=IL (some (a:Int)) (some (len:Int)) 1 len:=by
 have h1:¬ ((len:Int)<0):=by lia
 have e1:max (0:Int) (min (len:Int) (len:Int))=len:=by lia
 simp only [IL,h1,if_false,e1,show ((1:Int)>0)=True from by simp,if_true]
theorem Px(l:List Nat){a:Nat}(ha:a≤l.length):oD (tS l) (some (a:Int)) none=tS (l.drop a):=by
 have:=JP l ha (DW _)
 unfold oD at this⊢
 rw [eh] at this⊢
 refine rA HS ?_;refine rA this ?_;exact rA (F9 (by rw [Rg];exact DW _)) rfl
theorem BG:∀us:List U,nI (uL us)=some (us.map tS)
 | []=>rfl
 |u::us=>by
  exact (bU (rfl:dS (uS u)=some (tS u))).trans (bU (BG us))
theorem II:∀us:List U,U4 "" (us.map tS)=tS us.flatten
 | []=>rfl
 | [u]=>by simp [U4,tS]
 |u::v::us=>by
  have ih:=II (v::us);refine (?_:tS u++("":Str)++U4 "" ((v::us).map tS)=_);refine rA ih ?_;apply UP;refine rA (P7 _ _) ?_;refine rA (P7 _ _) ?_;have e0:(Jg "").cps= #[]:=by decide
  simp [tS,e0]
theorem lY{us:List U}(hf:f ρ μ=some (V,μ))(hp:da μ V=some (uL us))(hz:us.flatten.length≤100000):dv (kS "") [f] fg ρ μ=some (.d (.str (tS us.flatten)),μ):=by
 have hs:((us.map tS).map (·.length)).sum=us.flatten.length:=by
  refine rA ER ?_;refine rA List.length_flatten ?_
  congr 1
 refine (B7 hf hp (BG us) (by rw [hs,show ("":Str).length=0 from rfl];lia)).trans ?_;refine (?_:some (AV.d (.str (Builtin.Str.glued "" (us.map tS))),μ)=_);refine rA (RE _ _) ?_;exact rA (II _) rfl
theorem C8{p q:PF}{l:List Nat}{lo hi:Option Int}{l':List Nat}(hf:f ρ μ=some (.d (.str (tS l)),μ))(hp:p ρ μ=some (lo,μ))(hq:q ρ μ=some (hi,μ))(h:oD (tS l) lo hi=tS l')(hz:l.length≤100000)(hz':l'.length≤100000):ce f p q ρ μ=some (.d (.str (tS l')),μ):=by
 exact (b5 hf).trans ((b5 hp).trans ((b5 hq).trans ((oN (rfl:mn (.d (.str (tS l)))=some (tS l)) rfl).trans ((if_pos ⟨by rw [eh];exact aa hz,by rw [h,eh];exact aa hz'⟩).trans (by rw [h])))))
def WF(vs:List U):Prop:=∃us t,vs=us++t∧us.all wf=true∧(t=[]∨t=[[92]])
theorem Cb:∀ (us:List U) (k:Nat) (t:List U),l6 k (us++t)=l6 k us++l6 (k+us.flatten.length) t
 | [],k,t=>by simp [l6]
 |u::us,k,t=>by
  simp only [KV,l6,Cb us,Gq,be,R9]
theorem pg{vs:List U}(hf:f ρ μ=some (.d (.str (tS vs.flatten)),μ))(hw:WF vs):b_ [f] aE ρ μ=some (l6 0 vs,none,μ):=by
 refine bq hw λus t zq2 h q=>?_;subst zq2
 rcases q with rfl|rfl
 ·rw [DN] at hf⊢;exact xW hf h
 ·have e:=tK us 0 [92] h
  refine (b5 (wb hf)).trans (congrArg (λl=>some (l,none,μ)) ?_);simp only [fR,Lx,Gq,LJ,DN,Cb];refine rA e ?_;simp only [er,l6,Bb,EQ,uS,Lp];have h0:(((us.flatten.length+1:Nat):Int)-1)=(us.flatten.length:Int):=by lia
  refine rA (if_pos trivial) ?_;exact rA h0 rfl
noncomputable def clean:Option (List U)→List U→List U
 |none,[]=>[]
 |some q,[]=>[34]::q
 |none,u::r=>if u=[34] then clean (some []) r else u::clean none r
 |some q,u::r=>if u=[34] then clean none r else clean (some (q++[u])) r
noncomputable def js:Option (List U)→List Nat
 |none=>[]
 |some q=>34::q.flatten
noncomputable def opV:Option (List U)→Nat→AV
 |none,_=>.d .none
 |some _,k=>.d (.int k)
noncomputable def R2(t:List Nat)(st:Nat)(op:AV)(i:Nat)(a b:Option AV):d0:=[some (.d (.str (tS t))),some (.d (.int st)),some op,some (.c i),a,b]
abbrev PY:SF:=(ap (jG (bA (a9 1) (a9 2) oY) (ap (ci (ef (a9 3) (ce (a9 0) (aL (a9 1)) (aL (a9 2))))) aP) aP) (ap (c6 1 (aj (a9 4) (kI 1) aT)) (ap (c6 2 kN) aP)))
abbrev PK:SF:=(ap (jG (bA (a9 5) (kS "\"") dH) (ap (jG (bA (a9 2) kN LH) (ap (c6 2 (a9 4)) aP) PY) aP) aP) aP)
theorem neI{x:Int}(hf:f ρ μ=some (.d (.int x),μ))(hg:g ρ μ=some (.d (.int y),μ)):bA f g oY ρ μ=some (!(x==y),μ):=dG hf hg rfl
theorem dA{x:Int}(hf:f ρ μ=some (.d (.int x),μ)):aL f ρ μ=some (some x,μ):=by
 exact b5 hf
theorem OB{t:List Nat}{st:Nat}{b:Option AV}{op:Nat}{Ws Ws':List U}(hc:μ[i]? =some (.live (uL Ws)))(ht:t.length≤100000)(h1:st≤op)(h2:op≤t.length)(hl:Ws.length≤1000)
  (hw:Ws'=if st=op then Ws else Ws++[(t.drop st).take (op-st)]):
  PY (R2 t st (.d (.int op)) i (some (.d (.int k))) b) μ=some (.next,R2 t (k+1) (.d .none) i (some (.d (.int k))) b,μ.set i (.live (uL Ws'))):=by
 have e1:(jG (bA (a9 1) (a9 2) oY) (ap (ci (ef (a9 3) (ce (a9 0) (aL (a9 1)) (aL (a9 2))))) aP) aP) (R2 t st (.d (.int op)) i (some (.d (.int k))) b) μ=some (.next,R2 t st (.d (.int op)) i (some (.d (.int k))) b,μ.set i (.live (uL Ws'))):=by
  by_cases q:st=op
  ·rw [if_pos q] at hw
   subst hw;refine rA (Dh (μ1:=μ) ((neI (x:=st) (y:=op) rfl rfl).trans (by simp [q]))) ?_;refine rA (eJ hc) ?_;exact bK
  ·rw [if_neg q] at hw
   subst hw;have q':¬ ((st:Int)=(op:Int)):=by lia
   refine rA (xN (μ1:=μ) ((neI (x:=st) (y:=op) rfl rfl).trans (by simp [q']))) ?_;refine rA (aB (eA (gk (j:=i) (d:=uS ((t.drop st).take (op-st))) rfl (C8 (l:=t) rfl (dA rfl) (dA rfl) (JP t h1 h2) ht (by rw [LG];lia)) hc (aa (by simp [uL];lia))))) ?_;refine rA bK ?_
   simp [uL]
 refine (aB e1).trans ?_;refine rA (aB (bO (cR (x:=k) (y:=1) rfl rfl))) ?_;refine rA (aB (bO rfl)) ?_;rfl
theorem QM{u:U}(h:a9 n ρ μ=some (.d (uS u),μ)):bA (a9 n) (kS "\"") dH ρ μ=some (decide (u=[34]),μ):=Cg h rfl
theorem FX(h:a9 n ρ μ=some (.d (uS [34]),μ)):bA (a9 n) (kS "\"") dH ρ μ=some (true,μ):=(QM h).trans (by simp)
theorem wA{t:List Nat}(ht:t.length≤100000)(xs:List PyData)(i:Nat)(μ0:List ah)(hi:i=μ0.length):∀ (r:List U) (op:Option (List U)) (P C:List Nat) (Ws:List U) (a b:Option AV),
  t=P++C++js op++r.flatten→Ws.length+r.length≤1000→Ws.flatten.length≤P.length→
  ∃ (op':AV) (P' C':List Nat) (Ws':List U) (a' b':Option AV),t=P'++C'∧Ws'.length≤1000∧Ws'.flatten.length≤P'.length∧Ws'.flatten++C'=Ws.flatten++C++(clean op r).flatten∧
   fS (ji 4 5) PK aP none xs (l6 (P.length+C.length+(js op).length) r) (R2 t P.length (opV op (P.length+C.length)) i a b) (μ0++[.live (uL Ws)])=some (.next,R2 t P'.length op' i a' b',μ0++[.live (uL Ws')])
 | [],none,P,C,Ws,a,b,h,hn,hw=>(eK _ P C Ws a b (by simpa [js] using h) (by simpa using hn) hw (by simp [clean]) rfl)
 | [],some q,P,C,Ws,a,b,h,hn,hw=>(eK _ P (C++js (some q)) Ws a b (by simpa [js] using h) (by simpa using hn) hw (by simp [clean,js]) rfl)
 |u::r,op,P,C,Ws,a,b,h,hn,hw=>by
  simp only [Bb] at hn
  have hcell:(μ0++[ah.live (uL Ws)])[i]? =some (.live (uL Ws)):=by subst hi;exact dp
  generalize hk:P.length+C.length+(js op).length=k;have hk1:((k+u.length:Nat):Int)-1=((k+u.length-1:Nat):Int)∨u=[]:=by
   cases u with
   |nil=>exact .inr rfl
   |cons c l=>left;simp only [Bb];lia
  by_cases hu:u=[34]
  ·subst hu
   have hk2:((k+([34]:U).length:Nat):Int)-1=(k:Int):=by simp
   cases op with
   |none=>
    have hk0:k=P.length+C.length:=by simpa [js] using hk.symm
    refine gW (wA ht xs i μ0 hi r (some []) P C Ws (some (.d (.int k))) (some (.d (uS [34]))) (by simpa [js] using h) (by lia) hw) λop' P' C' Ws' a' b' g1 g2 g3 g4 g5=>?_;refine (eK op' P' C' Ws' a' b' g1 g2 g3 (by simpa [clean] using g4) ?_);rw [l6];refine rA hk2 ?_;refine LA (dQ (ρ1:=R2 t P.length (.d .none) i (some (.d (.int k))) (some (.d (uS [34])))) rfl ?_ (az _ _)) (by
     have e:P.length+C.length+(js (some ([]:List U))).length=k+([34]:U).length:=by simp [js,hk0]
     rw [e] at g5
     exact g5)
    refine (aB (ρ1:=R2 t P.length (.d (.int k)) i (some (.d (.int k))) (some (.d (uS [34])))) (μ1:=μ0++[ah.live (uL Ws)]) ?_).trans ?_
    rotate_left
    ·refine rA bK ?_
     simp only [opV,hk0]
    ·refine rA (xN (μ1:=μ0++[ah.live (uL Ws)]) (FX rfl)) ?_;rw [aB (ρ1:=R2 t P.length (.d (.int k)) i (some (.d (.int k))) (some (.d (uS [34])))) (μ1:=μ0++[ah.live (uL Ws)])]
     ·exact bK
     ·refine rA (xN (μ1:=μ0++[ah.live (uL Ws)]) (dG (V:=.d .none) (W:=.d .none) rfl rfl rfl)) ?_;refine rA (aB (bO rfl)) ?_
      rfl
   |some q=>
    have hk0:k=P.length+C.length+(q.flatten.length+1):=by simpa [js] using hk.symm
    have ht2:t.length=P.length+C.length+(q.flatten.length+1)+(1+r.flatten.length):=by refine rA h ?_;simp [js];lia
    have hd:(t.drop P.length).take (P.length+C.length-P.length)=C:=by
     refine rA h ?_;refine rA (Eg _ _ _) ?_;refine rA (Eg _ _ _) ?_;refine rA Qf ?_;refine rA (KO _ _) ?_;exact rA P8 rfl
    obtain ⟨op',P',C',Ws',a',b',g1,g2,g3,g4,g5⟩:=wA ht xs i μ0 hi r none (P++C++js (some q)++[34]) [] (if P.length=P.length+C.length then Ws else Ws++[C]) (some (.d (.int k))) (some (.d (uS [34])))
     (by refine rA h ?_;simp [js]) (by split<;>(try simp only [be,Bb,EQ])<;>lia) (by split<;>simp only [js,Lx,Gq,LJ,be,Bb,EQ,DN]<;>lia)
    have hC:(if P.length=P.length+C.length then Ws else Ws++[C]).flatten=Ws.flatten++C:=by
     split
     ·have:C=[]:=List.eq_nil_of_length_eq_zero (by lia)
      simp [this]
     ·simp
    refine (eK op' P' C' Ws' a' b' g1 g2 g3 (by refine rA g4 ?_;refine rA hC ?_;simp [clean]) ?_);rw [l6];refine rA hk2 ?_;have hP:(P++C++js (some q)++[34]).length=k+1:=by simp [js,hk0];lia
    refine LA (dQ (ρ1:=R2 t P.length (.d (.int ((P.length+C.length:Nat):Int))) i (some (.d (.int k))) (some (.d (uS [34])))) rfl ?_ (az _ _)) (by
     have e:(P++C++js (some q)++[34]).length+([]:List Nat).length+(js (none:Option (List U))).length=k+([34]:U).length:=by refine rA hP ?_;simp [js]
     rw [e,hP] at g5
     exact g5)
    have hcl:=OB (t:=t) (st:=P.length) (k:=k) (i:=i) (b:=some (.d (uS [34]))) (μ:=μ0++[ah.live (uL Ws)]) (op:=P.length+C.length) (Ws:=Ws) (Ws':=if P.length=P.length+C.length then Ws else Ws++[C]) hcell ht (by lia) (by lia) (by lia) (by exact rA hd rfl);refine (aB (ρ1:=R2 t (k+1) (.d .none) i (some (.d (.int k))) (some (.d (uS [34])))) (μ1:=μ0++[ah.live (uL (if P.length=P.length+C.length then Ws else Ws++[C]))]) ?_).trans ?_
    rotate_left
    ·refine rA bK ?_;rfl
    ·refine rA (xN (μ1:=μ0++[ah.live (uL Ws)]) (FX rfl)) ?_;rw [aB (ρ1:=R2 t (k+1) (.d .none) i (some (.d (.int k))) (some (.d (uS [34])))) (μ1:=μ0++[ah.live (uL (if P.length=P.length+C.length then Ws else Ws++[C]))])]
     ·exact bK
     ·refine rA (Dh (μ1:=μ0++[ah.live (uL Ws)]) (dG (V:=.d (.int ((P.length+C.length:Nat):Int))) (W:=.d .none) rfl rfl rfl)) ?_;refine rA hcl ?_
      exact rA (show (μ0++[ah.live (uL Ws)]).set i (.live (uL (if P.length=P.length+C.length then Ws else Ws++[C])))=μ0++[ah.live (uL (if P.length=P.length+C.length then Ws else Ws++[C]))] by subst hi;exact fh) rfl
  ·have step:PK (R2 t P.length (opV op (P.length+C.length)) i (some (.d (.int (((k+u.length:Nat):Int)-1)))) (some (.d (uS u)))) (μ0++[.live (uL Ws)])=some (.next,R2 t P.length (opV op (P.length+C.length)) i (some (.d (.int (((k+u.length:Nat):Int)-1)))) (some (.d (uS u))),μ0++[.live (uL Ws)]):=by
    refine (aB ?_).trans bK;refine rA (Dh (μ1:=μ0++[ah.live (uL Ws)]) ((QM rfl).trans (by simp [hu]))) ?_;exact bK
   cases op with
   |none=>
    refine gW (wA ht xs i μ0 hi r none P (C++u) Ws (some (.d (.int (((k+u.length:Nat):Int)-1)))) (some (.d (uS u))) (by refine rA h ?_;simp [js]) (by lia) hw) λop' P' C' Ws' a' b' g1 g2 g3 g4 g5=>?_;refine (eK op' P' C' Ws' a' b' g1 g2 g3 (by refine rA g4 ?_;rw [clean];refine rA (if_neg hu) ?_;simp) ?_);rw [l6];refine LA (dQ rfl step (az _ _)) ?_;have e:P.length+(C++u).length+(js (none:Option (List U))).length=k+u.length:=by refine rB hk ?_;refine rA be ?_;simp [js];lia
    rw [e] at g5
    exact g5
   |some q=>
    refine gW (wA ht xs i μ0 hi r (some (q++[u])) P C Ws (some (.d (.int (((k+u.length:Nat):Int)-1)))) (some (.d (uS u))) (by refine rA h ?_;simp [js]) (by lia) hw) λop' P' C' Ws' a' b' g1 g2 g3 g4 g5=>?_;refine (eK op' P' C' Ws' a' b' g1 g2 g3 (by refine rA g4 ?_;rw [clean];exact rA (if_neg hu) rfl) ?_);rw [l6];refine LA (dQ rfl step (az _ _)) ?_;have e:P.length+C.length+(js (some (q++[u]))).length=k+u.length:=by refine rB hk ?_;simp [js];lia
    rw [e] at g5
    exact g5
theorem xn:∀ (vs:List U),(∀u∈vs,u≠[34])→clean none vs=vs
 | [],_=>rfl
 |u::r,h=>by
  rw [clean];refine rA (if_neg (h u (by simp))) ?_;exact rA (xn r λv hv=>h v (by simp [hv])) rfl
theorem jO(t:List U)(ht:t=[]∨t=[[92]]):∀ (us:List U) (op:Option (List U)),us.all wf=true→(∀q,op=some q→q.all wf=true)→∃X,clean op (us++t)=X++t∧X.all wf=true
 | [],none,_,_=>by
  rcases ht with rfl|rfl
  ·exact (aZ ([]) rfl rfl)
  ·exact (aZ ([]) (by decide) rfl)
 | [],some q,_,h=>by
  have hq:=h q rfl
  rcases ht with rfl|rfl
  ·exact (aZ ([34]::q) (by simp [clean]) hq)
  ·exact (aZ ([34]::q) (by simp [clean]) hq)
 |u::us,none,hu,_=>by
  simp only [Me,E_] at hu
  by_cases q:u=[34]
  ·refine au (jO t ht us (some []) hu.2 (λq e=>by refine cA e ?_;rfl)) λX e w=>?_
   exact (aZ X (by refine rA KV ?_;rw [clean];refine rA (if_pos q) ?_;exact rA e rfl) w)
  ·refine au (jO t ht us none hu.2 (λq e=>by exact ct e)) λX e w=>?_
   exact (aZ (u::X) (by refine rA KV ?_;rw [clean];refine rA (if_neg q) ?_;refine rA e ?_;rfl) (by simp [hu.1,w]))
 |u::us,some q,hu,h=>by
  simp only [Me,E_] at hu
  have hq:=h q rfl
  by_cases z:u=[34]
  ·refine au (jO t ht us none hu.2 (λq e=>by exact ct e)) λX e w=>?_
   exact (aZ X (by refine rA KV ?_;rw [clean];refine rA (if_pos z) ?_;exact rA e rfl) w)
  ·refine au (jO t ht us (some (q++[u])) hu.2 (λq' e=>by refine cA e ?_;simp [hq,hu.1])) λX e w=>?_
   exact (aZ X (by refine rA KV ?_;rw [clean];refine rA (if_neg z) ?_;exact rA e rfl) w)
theorem WF.clean{vs:List U}(h:WF vs):WF (clean none vs):=by
 refine bq h λus t zq2 hu ht=>?_;subst zq2;refine au (jO t ht us none hu (λq e=>by exact ct e)) λX e w=>?_;exact (dw X t e w ht)
theorem kO:∀ (vs:List U) (op:Option (List U)),(clean op vs).length≤vs.length+(match op with|none=>0|some q=>q.length+1)
 | [],none=>by simp [clean]
 | [],some q=>by simp [clean]
 |u::r,none=>by
  rw [clean];split
  ·have:=kO r (some []);simp only [EQ] at this;simp only [Bb];lia
  ·have:=kO r none;simp only at this;simp only [Bb];lia
 |u::r,some q=>by
  rw [clean];split
  ·have:=kO r none;simp only at this;simp only [Bb];lia
  ·have:=kO r (some (q++[u]));simp only [be,Bb,EQ] at this;simp only [Bb];lia
theorem iu:∀ (vs:List U) (op:Option (List U)),(clean op vs).flatten.length≤vs.flatten.length+(js op).length
 | [],none=>by simp [clean]
 | [],some q=>by simp [clean,js]
 |u::r,none=>by
  rw [clean];split
  ·rename_i h;subst h;have:=iu r (some []);simp only [js,LJ,Bb,EQ] at this;simp only [Gq,be,Bb,EQ,js];lia
  ·have:=iu r none;simp only [js,EQ] at this;simp only [Gq,be,js,EQ];lia
 |u::r,some q=>by
  rw [clean];split
  ·have:=iu r none;simp only [js,EQ] at this;simp only [Gq,be,js,Bb];lia
  ·have:=iu r (some (q++[u]));simp only [js,Lx,Gq,LJ,be,Bb,DN] at this;simp only [Gq,be,js,Bb];lia
theorem t9{t:List Nat}(hf:f ρ μ=some (.d (.str (tS t)),μ)):bA (kS "\"") f lD ρ μ=some (!decide (34∈t),μ):=by
 refine dG (V:=.d (.str ⟨#[34]⟩)) (W:=.d (.str (tS t))) rfl hf ?_
 have:=StrLaws.found_one (tS t) 34
 rw [fR] at this
 refine (?_:some (!(!(Ln (tS t) ⟨#[34]⟩ 0 (tS t).length 1).isEmpty))=_);exact rA this rfl
theorem ltI{x:Int}(hf:f ρ μ=some (.d (.int x),μ))(hg:g ρ μ=some (.d (.int y),μ)):bA f g (d_ λx y=>decide (x<y)) ρ μ=some (decide (x<y),μ):=dG hf hg rfl
theorem gtI{x:Int}(hf:f ρ μ=some (.d (.int x),μ))(hg:g ρ μ=some (.d (.int y),μ)):bA f g (d_ λx y=>decide (y<x)) ρ μ=some (decide (y<x),μ):=dG hf hg rfl
noncomputable def Q2(t:List Nat):d0:=[some (.d (.str (tS t))),none,none,none,none,none]
theorem s2{vs:List U}(hw:WF vs)(hz:vs.flatten.length≤100000)(hn:vs.length≤1000):aM [.d (.str (tS vs.flatten))] μ=some (.d (.str (tS (clean none vs).flatten)),μ):=by
 by_cases h34:34∈vs.flatten
 ·refine gW (wA hz (l6 0 vs) μ.length μ rfl vs none [] [] [] none none (by simp [js]) (by simpa using hn) (by simp)) λop' P' C' Ws' a' b' g1 g2 g3 g4 g5=>?_
  have e5:ON (R2 vs.flatten P'.length op' μ.length a' b') (μ++[.live (uL Ws')])=some (.next,R2 vs.flatten P'.length op' μ.length a' b',μ++[.live (uL (if C'=[] then Ws' else Ws'++[C']))]):=by
   unfold ON;have el:af [a9 0] dD (R2 vs.flatten P'.length op' μ.length a' b') (μ++[.live (uL Ws')])=some (.d (.int vs.flatten.length),μ++[.live (uL Ws')]):=by
    refine d4 (V:=.d (.str (tS vs.flatten))) rfl ?_;exact (len_str (by rw [eh];exact aa hz)).trans (by rw [eh])
   have hcm:=ltI (f:=a9 1) (g:=af [a9 0] dD) (ρ:=R2 vs.flatten P'.length op' μ.length a' b') (x:=P'.length) rfl el;have hl:vs.flatten.length=P'.length+C'.length:=by refine rA g1 ?_;exact rA be rfl
   by_cases q:C'=[]
   ·subst q
    refine rA (if_pos rfl) ?_;refine rA (gS hcm (by simp [hl])) ?_;exact rA bK rfl
   ·have:0<C'.length:=List.length_pos_iff.mpr q
    refine rA (if_neg q) ?_;refine rA (gB hcm (decide_eq_true (by lia))) ?_;refine (aB (eA (gk (j:=μ.length) (d:=uS C') rfl (C8 (l:=vs.flatten) rfl (dA rfl) rfl (l':=C') ?_ hz (by lia)) dp (aa (by simp [uL];lia))))).trans ?_
    ·refine rA (Px _ (by lia)) ?_;refine rA g1 ?_;exact rA Qf rfl
    ·refine rA bK ?_;refine rA fh ?_
     simp [uL]
  have e6:MM (R2 vs.flatten P'.length op' μ.length a' b') (μ++[.live (uL (if C'=[] then Ws' else Ws'++[C']))])=some (.ret (.d (.str (tS (clean none vs).flatten))),R2 vs.flatten P'.length op' μ.length a' b',μ++[.live (uL (if C'=[] then Ws' else Ws'++[C']))]):=by
   unfold MM;have hfl:(if C'=[] then Ws' else Ws'++[C']).flatten=(clean none vs).flatten:=by
    have:(if C'=[] then Ws' else Ws'++[C']).flatten=Ws'.flatten++C':=by split<;>simp_all
    refine rA this ?_;refine rA g4 ?_;simp
   have:=iu vs none
   simp only [js,EQ] at this
   refine rA (dY (lY (f:=a9 3) (V:=.c μ.length) (us:=if C'=[] then Ws' else Ws'++[C']) rfl (eN dp) (by rw [hfl];lia))) ?_;exact rA hfl rfl
  refine (cZ (ρ':=R2 vs.flatten P'.length op' μ.length a' b') (μ':=μ++[.live (uL (if C'=[] then Ws' else Ws'++[C']))]) (x:=.str (tS (clean none vs).flatten)) rfl ?_).trans (by exact rA l_ rfl);refine (?_:f2 (Q2 vs.flatten) μ=_);unfold f2;have e0:IB (Q2 vs.flatten) μ=some (.next,Q2 vs.flatten,μ):=by
   unfold IB;refine rA (gS (t9 (t:=vs.flatten) rfl) (by simp only [h34,decide_true,Ra])) ?_;exact bK
  have e1:TA (Q2 vs.flatten) μ=some (.next,(Q2 vs.flatten).set 1 (some (.d (.int 0))),μ):=rfl;have e2:UK ((Q2 vs.flatten).set 1 (some (.d (.int 0)))) μ=some (.next,[some (.d (.str (tS vs.flatten))),some (.d (.int 0)),some (.d .none),none,none,none],μ):=rfl;have e3:NP [some (.d (.str (tS vs.flatten))),some (.d (.int 0)),some (.d .none),none,none,none] μ=some (.next,R2 vs.flatten 0 (.d .none) μ.length none none,μ++[.live []]):=by
   unfold NP;refine rA (bO vZ) ?_;rfl
  have e4:Os (R2 vs.flatten 0 (.d .none) μ.length none none) (μ++[.live []])=some (.next,R2 vs.flatten P'.length op' μ.length a' b',μ++[.live (uL Ws')]):=by
   unfold Os;refine rA (gJ (pg (vs:=vs) rfl hw)) ?_;exact g5
  refine rA (aB e0) ?_;refine rA (aB e1) ?_;refine rA (aB e2) ?_;refine rA (aB e3) ?_;refine rA (aB e4) ?_;refine rA (aB e5) ?_;exact rA (cT e6) rfl
 ·refine (cZ (ρ':=Q2 vs.flatten) (μ':=μ) (x:=.str (tS vs.flatten)) rfl ?_).trans ?_
  ·refine (?_:f2 (Q2 vs.flatten) μ=_)
   unfold f2;refine cT ?_;unfold IB;refine rA (gB (t9 (t:=vs.flatten) rfl) (by simp only [h34,decide_false,Ux])) ?_;exact cT (dY rfl)
  ·refine rA LI ?_;exact rA (xn vs λu hu q=>h34 (TT.mpr (aZ u hu (by simp [q])))) rfl
noncomputable def lU:Int→List U→Option Int
 |n,[]=>some n
 |n,u::r=>if u=[40] then lU (n+1) r else if u=[41] then (if n-1<0 then none else lU (n-1) r) else lU n r
noncomputable def L1(vs:List U):Bool:=match lU 0 (clean none vs) with
 |some m=>m==0
 |none=>false
noncomputable def R3(t:List Nat)(n:Int)(a b:Option AV):d0:=[some (.d (.str (tS t))),some (.d (.int n)),a,b]
abbrev ao6:SF:=(jG (bA (a9 3) (kS ")") dH) (ap (iA 1 (kI 1) AF) (ap (jG (bA (a9 1) (kI 0) (d_ λx y=>decide (x<y))) (ap (fe (kB false)) aP) aP) aP)) aP)
abbrev RZ:SF:=(ap (jG (bA (a9 3) (kS "(") dH) (ap (iA 1 (kI 1) Be) aP) (ap ao6 aP)) aP)
theorem JE{u:U}(c:Nat){s:Str}(hs:s=⟨#[c]⟩)(h:a9 n ρ μ=some (.d (uS u),μ)):bA (a9 n) (kS s) dH ρ μ=some (decide (u=[c]),μ):=Cg h (by refine rA hs ?_;rfl)
theorem an0{t:List Nat}{n:Int}{a b:Option AV}:(iA 1 (kI 1) Be) (R3 t n a b) μ=some (.next,R3 t (n+1) a b,μ):=rfl
theorem ab8{t:List Nat}{n:Int}{a b:Option AV}:(iA 1 (kI 1) AF) (R3 t n a b) μ=some (.next,R3 t (n-1) a b,μ):=rfl
theorem C2(t:List Nat)(xs:List PyData)(μ:List ah):∀ (r:List U) (k:Nat) (n:Int) (a b:Option AV),∃a' b' n',
  fS (ji 2 3) RZ aP none xs (l6 k r) (R3 t n a b) μ=(match lU n r with|some m=>some (.next,R3 t m a' b',μ)|none=>some (.ret (.d (.bool false)),R3 t n' a' b',μ))
 | [],k,n,a,b=>(jC a b n rfl)
 |u::r,k,n,a,b=>by
  have tf:ji 2 3 (R3 t n a b) (.tuple [.int (((k+u.length:Nat):Int)-1),uS u])=some (R3 t n (some (.d (.int (((k+u.length:Nat):Int)-1)))) (some (.d (uS u)))):=rfl;rw [l6,lU];generalize hA:(some (AV.d (.int (((k+u.length:Nat):Int)-1))))=A at tf
  have hL:=JE (ρ:=R3 t n A (some (.d (uS u)))) (μ:=μ) (u:=u) (n:=3) 40 (s:="(") (by decide) rfl;have hR:=JE (ρ:=R3 t n A (some (.d (uS u)))) (μ:=μ) (u:=u) (n:=3) 41 (s:=")") (by decide) rfl
  by_cases q:u=[40]
  ·refine rA (if_pos q) ?_
   refine jE (C2 t xs μ r (k+u.length) (n+1) A (some (.d (uS u)))) λa' b' n' e=>?_;refine (jC a' b' n' (LA (dQ tf ?_ (az _ _)) e));refine (aB ?_).trans bK;refine rA (gB hL (decide_eq_true q)) ?_;refine rA (aB an0) ?_;exact rA bK rfl
  ·refine rA (if_neg q) ?_
   by_cases z:u=[41]
   ·refine rA (if_pos z) ?_
    by_cases w:n-1<0
    ·refine rA (if_pos w) ?_
     refine (jC A (some (.d (uS u))) (n-1) (qy tf ?_));refine cT ?_;refine rA (gS hL (decide_eq_false q)) ?_;refine cT ?_;refine (gB hR (decide_eq_true z)).trans ?_;refine rA (aB ab8) ?_;refine cT ?_;refine rA (gB (ltI (x:=n-1) (y:=0) rfl rfl) (decide_eq_true w)) ?_;exact cT rfl
    ·refine rA (if_neg w) ?_
     refine jE (C2 t xs μ r (k+u.length) (n-1) A (some (.d (uS u)))) λa' b' n' e=>?_;refine (jC a' b' n' (LA (dQ tf ?_ (az _ _)) e));refine (aB ?_).trans bK;refine rA (gS hL (decide_eq_false q)) ?_;refine (aB ?_).trans bK;refine (gB hR (decide_eq_true z)).trans ?_;refine rA (aB ab8) ?_;refine (aB ?_).trans bK;refine rA (gS (ltI (x:=n-1) (y:=0) rfl rfl) (decide_eq_false w)) ?_;exact bK
   ·refine rA (if_neg z) ?_
    refine jE (C2 t xs μ r (k+u.length) n A (some (.d (uS u)))) λa' b' n' e=>?_;refine (jC a' b' n' (LA (dQ tf ?_ (az _ _)) e));refine (aB ?_).trans bK;refine rA (gS hL (decide_eq_false q)) ?_;refine (aB ?_).trans bK;refine (gS hR (decide_eq_false z)).trans bK
theorem s3{vs:List U}(hw:WF vs)(hz:vs.flatten.length≤100000)(hn:vs.length≤1000):ar [.d (.str (tS vs.flatten))] μ=some (.d (.bool (L1 vs)),μ):=by
 refine jE (C2 (clean none vs).flatten (l6 0 (clean none vs)) μ (clean none vs) 0 0 none none) λa' b' n' e=>?_;have e0:Nc [some (.d (.str (tS vs.flatten))),none,none,none] μ=some (.next,[some (.d (.str (tS (clean none vs).flatten))),none,none,none],μ):=by
  unfold Nc;refine rA (bO (d4 (V:=.d (.str (tS vs.flatten))) rfl (s2 hw hz hn))) ?_;rfl
 have e1:UC [some (.d (.str (tS (clean none vs).flatten))),none,none,none] μ=some (.next,R3 (clean none vs).flatten 0 none none,μ):=rfl;have e2:PD (R3 (clean none vs).flatten 0 none none) μ=fS (ji 2 3) RZ aP none (l6 0 (clean none vs)) (l6 0 (clean none vs)) (R3 (clean none vs).flatten 0 none none) μ:=by
  unfold PD;exact rA (gJ (pg (vs:=clean none vs) rfl hw.clean)) rfl
 rw [e] at e2
 unfold L1;cases hc:lU 0 (clean none vs) with
 |none=>
  rw [hc] at e2
  refine (cZ (ρ':=R3 (clean none vs).flatten n' a' b') (μ':=μ) (x:=.bool false) rfl ?_).trans (by exact rA LI rfl);refine (?_:f3 [some (.d (.str (tS vs.flatten))),none,none,none] μ=_);unfold f3;refine rA (aB e0) ?_;refine rA (aB e1) ?_;exact rA (cT e2) rfl
 |some m=>
  rw [hc] at e2
  refine (cZ (ρ':=R3 (clean none vs).flatten m a' b') (μ':=μ) (x:=.bool (m==0)) rfl ?_).trans (by exact rA LI rfl);refine (?_:f3 [some (.d (.str (tS vs.flatten))),none,none,none] μ=_);unfold f3;refine rA (aB e0) ?_;refine rA (aB e1) ?_;refine rA (aB e2) ?_;refine cT ?_;unfold Th;exact dY (gX (V:=.d (.int m)) (W:=.d (.int 0)) rfl rfl rfl)
theorem V_{f:SF}(hl:Vs.length=k)(h:f (cC sc Vs) μ=some (.ret (.c j),ρ',μ')):cy k sc f Vs μ=some (.c j,μ'):=by
 exact (if_pos hl).trans (b5 h)
noncomputable def j_(vs:List U):PyData:=if L1 vs then .str (tS vs.flatten) else .str "('', '')"
noncomputable def R4(T:PyData)(i:Nat)(a:Option AV):d0:=[some (.d T),some (.c i),a]
abbrev XX:SF:=(ap (jG (tW (ga (af [(a9 2)] ar))) (ap (c6 2 (kS "('', '')")) aP) aP) (ap (ci (ef (a9 1) (a9 2))) aP))
theorem Ry(T:PyData)(xs:List PyData)(μ:List ah)(i:Nat)(hi:i=μ.length):∀ (r:List (List U)) (acc:List PyData) (a:Option AV),(∀vs∈r,WF vs∧vs.flatten.length≤100000∧vs.length≤1000)→acc.length+r.length≤1000→∃a',
  fS (du 2) XX aP none xs (r.map λvs=>.str (tS vs.flatten)) (R4 T i a) (μ++[.live acc])=some (.next,R4 T i a',μ++[.live (acc++r.map j_)])
 | [],acc,a,_,_=>⟨a,congrArg (λz=>some (Fl.next,R4 T i a,μ++[ah.live z])) (DN _).symm⟩
 |vs::r,acc,a,h,hz=>by
  simp only [Bb] at hz
  refine dU (h vs (by simp)) λh1 h2 h3=>?_;refine bP (Ry T xs μ i hi r (acc++[j_ vs]) (some (.d (j_ vs))) (λv hv=>h v (by simp [hv])) (by simp only [be,Bb,EQ];lia)) λa' e=>?_;refine ⟨a',?_⟩;refine rA EV ?_;refine rA EV ?_;refine rA (show acc++j_ vs::r.map j_=acc++[j_ vs]++r.map j_ by simp) ?_;refine LA (dQ (ρ1:=R4 T i (some (.d (.str (tS vs.flatten))))) rfl ?_ (az _ _)) e;have hv:tW (ga (af [a9 2] ar)) (R4 T i (some (.d (.str (tS vs.flatten))))) (μ++[.live acc])=some (!(L1 vs),μ++[.live acc]):=
   not_of (nq (V:=.d (.bool (L1 vs))) (d4 (V:=.d (.str (tS vs.flatten))) rfl (s3 h1 h2 h3)) rfl)
  have e1:(jG (tW (ga (af [(a9 2)] ar))) (ap (c6 2 (kS "('', '')")) aP) aP) (R4 T i (some (.d (.str (tS vs.flatten))))) (μ++[.live acc])=some (.next,R4 T i (some (.d (j_ vs))),μ++[.live acc]):=by
   by_cases q:L1 vs=true
   ·refine rA (gS hv (by rw [q];rfl)) ?_;refine rA bK ?_
    simp only [j_,q,if_true]
   ·refine rA (gB hv (by simp [q])) ?_;refine rA (aB (bO rfl)) ?_;refine rA bK ?_
    simp only [j_,q];rfl
  refine (aB e1).trans ?_;refine rA (aB (eA (gk (j:=i) (d:=j_ vs) rfl rfl (by subst hi;exact dp) (aa (by lia))))) ?_;refine rA bK ?_;subst hi;exact rA fh rfl
theorem s4{vss:List (List U)}(h:∀vs∈vss,WF vs∧vs.flatten.length≤100000∧vs.length≤1000)(hz:vss.length≤1000):
  aX [.d (.list (vss.map λvs=>.str (tS vs.flatten)))] μ=some (.c μ.length,μ++[.live (vss.map j_)]):=by
 refine bP (Ry (.list (vss.map λvs=>.str (tS vs.flatten))) (vss.map λvs=>.str (tS vs.flatten)) μ μ.length rfl vss [] none h (by simpa using hz)) λa' e=>?_;have e0:Ng [some (.d (.list (vss.map λvs=>.str (tS vs.flatten)))),none,none] μ=some (.next,R4 (.list (vss.map λvs=>.str (tS vs.flatten))) μ.length none,μ++[.live []]):=by
  unfold Ng;refine rA (bO vZ) ?_;rfl
 have e1:ND (R4 (.list (vss.map λvs=>.str (tS vs.flatten))) μ.length none) (μ++[.live []])=some (.next,R4 (.list (vss.map λvs=>.str (tS vs.flatten))) μ.length a',μ++[.live (vss.map j_)]):=by
  unfold ND;refine rA (gJ (d7 (V:=.d (.list (vss.map λvs=>.str (tS vs.flatten)))) rfl rfl)) ?_;exact e
 have:f4 [some (.d (.list (vss.map λvs=>.str (tS vs.flatten)))),none,none] μ=some (.ret (.c μ.length),R4 (.list (vss.map λvs=>.str (tS vs.flatten))) μ.length a',μ++[.live (vss.map j_)]):=by
  unfold f4;refine rA (aB e0) ?_;refine rA (aB e1) ?_;exact cT (dY rfl)
 exact V_ rfl this
noncomputable def hx(i:Int):Str:=Se "0x" 16 i
noncomputable def qJ(flag:Int):Str:=(rV flag).getD (hx flag)
noncomputable def tE:List Nat→Int→List Str→Option (List Str)
 | [],fl,ns=>if (hx fl).length≤1000 then some (ns++[hx fl]) else none
 |i::r,fl,ns=>if Dd fl (1*2^i)=0 then tE r fl ns else
  if (hx (1*2^i)).length≤1000 then (if HX fl (1*2^i)=0 then some (ns++[qJ (1*2^i)]) else tE r (HX fl (1*2^i)) (ns++[qJ (1*2^i)])) else none
noncomputable def pf(fl:Int):Option Str:=match tE (zd 32) fl [] with
 |some l=>if (l.map (·.length)).sum+l.length*2≤10000 then some (Lo ", " l) else none
 |none=>none
noncomputable def R7(fl:Int)(i:Nat)(a b:Option AV):d0:=[some (.d (.int fl)),some (.c i),a,b]
theorem al0(i:Nat)(h:i<32):E9 1 i=some (1*2^i):=by
 unfold E9;refine rA (if_pos (fm (by lia) (by lia) (by decide))) ?_;rfl
theorem tY{x:Int}(hf:f ρ μ=some (.d (.int x),μ))(h:(hx x).length≤1000):af [f] oP ρ μ=some (.d (.str (hx x)),μ):=by
 exact d4 hf ((bU (rfl:l1 [AV.d (.int x)]=some _)).trans ((bU (rfl:jI (.d (.int x))=some x)).trans (if_pos (aa (KQ h (by decide))))))
abbrev ZP:SF:=(ap (c6 3 (aj (kI 1) (a9 2) (aR E9))) (ap (jG (ga (aj (a9 0) (a9 3) (aR λx y=>some (Dd x y)))) (ap (ci (ef (a9 1) (sS rV (a9 3) (af [(a9 3)] oP)))) (ap (iA 0 (a9 3) AN) (ap (jG (tW (ga (a9 0))) (ap On aP) aP) aP))) aP) aP))
abbrev ad5:SF:=(ap (ci (ef (a9 1) (af [(a9 0)] oP))) aP)
noncomputable def bS(l:List Str):List PyData:=l.map .str
theorem AG(x:Int):(x != 0)= !decide (x=0):=by
 by_cases h:x=0<;>simp [h]
theorem H5(xs:List PyData)(μ:List ah)(j:Nat)(hj:j=μ.length):∀ (r:List Nat) (fl:Int) (ns:List Str) (a b:Option AV) (l:List Str),(∀i∈r,i<32)→tE r fl ns=some l→ns.length+r.length≤100→
  ∃fl' a' b',fS (du 2) ZP ad5 none xs (r.map λ(i:Nat)=>.int i) (R7 fl j a b) (μ++[.live (bS ns)])=some (.next,R7 fl' j a' b',μ++[.live (bS l)])
 | [],fl,ns,a,b,l,_,h,hz=>by
  unfold tE at h
  split at h
  ·rename_i q
   refine cA h ?_;refine (jC fl a b ?_);refine rA LQ ?_;refine rA FD ?_;refine (aB (eA (gk (j:=j) (d:=.str (hx fl)) rfl (tY rfl q) (by subst hj;exact dp) (aa (by simp only [bS,xJ];lia))))).trans ?_;refine rA bK ?_;subst hj;refine rA fh ?_
   simp [bS]
  ·exact ct h
 |i::r,fl,ns,a,b,l,hr,h,hz=>by
  simp only [Bb] at hz
  have hi:i<32:=hr i (by simp);rw [tE] at h
  refine rA EV ?_;have tf:du 2 (R7 fl j a b) (.int (i:Int))=some (R7 fl j (some (.d (.int i))) b):=rfl;have e0:c6 3 (aj (kI 1) (a9 2) (aR E9)) (R7 fl j (some (.d (.int i))) b) (μ++[.live (bS ns)])=some (.next,R7 fl j (some (.d (.int i))) (some (.d (.int (1*2^i)))),μ++[.live (bS ns)]):=
   bO (cY (x:=1) (y:=i) rfl rfl (al0 i hi))
  have ev:ga (aj (a9 0) (a9 3) (aR λx y=>some (Dd x y))) (R7 fl j (some (.d (.int i))) (some (.d (.int (1*2^i))))) (μ++[.live (bS ns)])=some (!decide (Dd fl (1*2^i)=0),μ++[.live (bS ns)]):=by
   refine rB (AG _) ?_;exact nq (cY (x:=fl) (y:=1*2^i) rfl rfl rfl) rfl
  by_cases q:Dd fl (1*2^i)=0
  ·rw [if_pos q] at h
   refine jE (H5 xs μ j hj r fl ns (some (.d (.int i))) (some (.d (.int (1*2^i)))) l (λk hk=>hr k (by simp [hk])) h (by lia)) λfl' a' b' e=>?_;refine (jC fl' a' b' (LA (dQ tf ?_ (az _ _)) e));refine (aB e0).trans ?_;refine (aB ?_).trans bK;refine rA (gS ev (by rw [decide_eq_true q];rfl)) ?_;exact bK
  ·rw [if_neg q] at h
   by_cases hl:(hx (1*2^i)).length≤1000
   ·rw [if_pos hl] at h
    have ea:ci (ef (a9 1) (sS rV (a9 3) (af [(a9 3)] oP))) (R7 fl j (some (.d (.int i))) (some (.d (.int (1*2^i))))) (μ++[.live (bS ns)])=some (.next,R7 fl j (some (.d (.int i))) (some (.d (.int (1*2^i)))),μ++[.live (bS (ns++[qJ (1*2^i)]))]):=by
     have hd:sS rV (a9 3) (af [(a9 3)] oP) (R7 fl j (some (.d (.int i))) (some (.d (.int (1*2^i))))) (μ++[.live (bS ns)])=some (.d (.str (qJ (1*2^i))),μ++[.live (bS ns)]):=by
      have hh:=tY (f:=a9 3) (ρ:=R7 fl j (some (.d (.int i))) (some (.d (.int (1*2^i))))) (μ:=μ++[.live (bS ns)]) (x:=1*2^i) rfl hl;have hg:a9 3 (R7 fl j (some (.d (.int i))) (some (.d (.int (1*2^i))))) (μ++[.live (bS ns)])=some (.d (.int (1*2^i)),μ++[.live (bS ns)]):=rfl;exact (b5 hg).trans ((bU (rfl:jI (.d (.int (1*2^i)))=some _)).trans ((b5 hh).trans (bU rfl)))
     refine rA (eA (gk (j:=j) rfl hd (by subst hj;exact dp) (aa (by simp only [bS,xJ];lia)))) ?_;subst hj;refine rA fh ?_
     simp [bS]
    have ex:iA 0 (a9 3) AN (R7 fl j (some (.d (.int i))) (some (.d (.int (1*2^i))))) (μ++[.live (bS (ns++[qJ (1*2^i)]))])=some (.next,R7 (HX fl (1*2^i)) j (some (.d (.int i))) (some (.d (.int (1*2^i)))),μ++[.live (bS (ns++[qJ (1*2^i)]))]):=rfl;have en:tW (ga (a9 0)) (R7 (HX fl (1*2^i)) j (some (.d (.int i))) (some (.d (.int (1*2^i))))) (μ++[.live (bS (ns++[qJ (1*2^i)]))])=some (decide (HX fl (1*2^i)=0),μ++[.live (bS (ns++[qJ (1*2^i)]))]):=by
     have:=not_of (nq (f:=a9 0) (ρ:=R7 (HX fl (1*2^i)) j (some (.d (.int i))) (some (.d (.int (1*2^i))))) (μ:=μ++[.live (bS (ns++[qJ (1*2^i)]))]) (V:=.d (.int (HX fl (1*2^i)))) rfl rfl)
     rw [AG,Bool.not_not] at this
     exact this
    by_cases z:HX fl (1*2^i)=0
    ·rw [if_pos z] at h
     refine cA h ?_;refine (jC (HX fl (1*2^i)) (some (.d (.int i))) (some (.d (.int (1*2^i)))) (TU tf ?_));refine (aB e0).trans ?_;refine JJ ?_;refine rA (gB ev (by rw [decide_eq_false q];rfl)) ?_;refine rA (aB ea) ?_;refine rA (aB ex) ?_;refine JJ ?_;refine rA (gB en (decide_eq_true z)) ?_;exact JJ UQ
    ·rw [if_neg z] at h
     refine jE (H5 xs μ j hj r (HX fl (1*2^i)) (ns++[qJ (1*2^i)]) (some (.d (.int i))) (some (.d (.int (1*2^i)))) l (λk hk=>hr k (by simp [hk])) h (by simp only [be,Bb,EQ];lia)) λfl' a' b' e=>?_;refine (jC fl' a' b' (LA (dQ tf ?_ (az _ _)) e));refine (aB e0).trans ?_;refine (aB ?_).trans bK;refine rA (gB ev (by rw [decide_eq_false q];rfl)) ?_;refine rA (aB ea) ?_;refine rA (aB ex) ?_;refine (aB ?_).trans bK;refine rA (gS en (decide_eq_false z)) ?_;exact bK
   ·rw [if_neg hl] at h
    exact ct h
theorem Ay:∀l:List Str,nI (bS l)=some l
 | []=>rfl
 |x::l=>by
  exact (bU (rfl:dS (.str x)=some x)).trans (bU (Ay l))
theorem tT{l:List Str}{sep:Str}(hf:f ρ μ=some (V,μ))(hp:da μ V=some (bS l))(hz:(l.map (·.length)).sum+l.length*sep.length≤10000):dv (kS sep) [f] fg ρ μ=some (.d (.str (Lo sep l)),μ):=by
 exact B7 hf hp (Ay l) (KQ hz (by decide))
set_option tactic.hygienic true in
theorem s7{fl:Int}(h:pf fl=some x):cM [.d (.int fl)] μ=some (.d (.str x),μ):=by
 unfold pf at h
 split at h
 ·rename_i l hl
  split at h
  ·rename_i hz
   refine cA h ?_;refine jE (H5 (fI 0 32) μ μ.length rfl (zd 32) fl [] none none l (λi hi=>D5.mp hi) hl (by decide)) λfl' a' b' e=>?_;refine (cZ (k:=1) (ρ':=R7 fl' μ.length a' b') (μ':=μ++[.live (bS l)]) (x:=.str (Lo ", " l)) rfl ?_).trans (by exact rA l_ rfl);refine (?_:f7 [some (.d (.int fl)),none,none,none] μ=_);unfold f7;have e0:Mm [some (.d (.int fl)),none,none,none] μ=some (.next,R7 fl μ.length none none,μ++[.live []]):=by
    unfold Mm;refine rA (bO vZ) ?_;rfl
   have e1:Nk (R7 fl μ.length none none) (μ++[.live []])=some (.next,R7 fl' μ.length a' b',μ++[.live (bS l)]):=by
    unfold Nk;refine rA (gJ (xs:=fI 0 32) (gg:=none) (μ1:=μ++[.live []]) rfl) ?_;exact e
   have e2:No (R7 fl' μ.length a' b') (μ++[.live (bS l)])=some (.ret (.d (.str (Lo ", " l))),R7 fl' μ.length a' b',μ++[.live (bS l)]):=by
    unfold No;exact dY (tT (V:=.c μ.length) rfl (eN dp) (by refine rA (show (Jg ", ").length=2 from by decide) ?_;exact hz))
   refine rA (aB e0) ?_;refine rA (aB e1) ?_;exact rA (cT e2) rfl
  ·exact ct h
 ·exact ct h
noncomputable def wX:List (List Nat):=[[79,80,84,73,77,73,90,69,68],[78,69,87,76,79,67,65,76,83],[86,65,82,65,82,71,83],[86,65,82,75,69,89,87,79,82,68,83],[78,69,83,84,69,68],[71,69,78,69,82,65,84,79,82],[78,79,70,82,69,69],[67,79,82,79,85,84,73,78,69],[73,84,69,82,65,66,76,69,95,67,79,82,79,85,84,73,78,69],[65,83,89,78,67,95,71,69,78,69,82,65,84,79,82],[48,120,52,48,48],[48,120,56,48,48],[48,120,49,48,48,48],[48,120,50,48,48,48],[48,120,52,48,48,48],[48,120,56,48,48,48],[48,120,49,48,48,48,48],[48,120,50,48,48,48,48],[48,120,52,48,48,48,48],[48,120,56,48,48,48,48],[48,120,49,48,48,48,48,48],[48,120,50,48,48,48,48,48],[48,120,52,48,48,48,48,48],[48,120,56,48,48,48,48,48],[48,120,49,48,48,48,48,48,48],[48,120,50,48,48,48,48,48,48],[48,120,52,48,48,48,48,48,48],[48,120,56,48,48,48,48,48,48],[48,120,49,48,48,48,48,48,48,48],[48,120,50,48,48,48,48,48,48,48],[48,120,52,48,48,48,48,48,48,48],[48,120,56,48,48,48,48,48,48,48]]
noncomputable def wd(k:Nat):Str:=tS (wX.getD k [])
noncomputable def g_:Str:=", "
theorem BZ:g_=⟨#[44,32]⟩:=by decide
theorem Nj:((zd 32).all λi=>qJ (1*2^i)==wd i&&decide ((hx (1*2^i)).length≤1000))=true:=by decide+kernel
theorem ad0:(wX.all λw=>decide (w.length≤20)&&!w.contains 44)=true:=by decide+kernel
theorem HH(k:Nat):(wX.getD k []).length≤20∧44∉wX.getD k []:=by
 rw [LD];cases h:wX[k]? with
 |none=>simp
 |some w=>
  have:=Bi.mp ad0 w (FM h)
  simp only [E_,decide_eq_true_eq,MF,MP,decide_eq_false_iff_not] at this
  exact this
noncomputable def xK:List Nat→Int→List Nat×Option Int
 | [],fl=>([],some fl)
 |i::r,fl=>if Dd fl (1*2^i)=0 then xK r fl else if HX fl (1*2^i)=0 then ([i],none) else
  (i::(xK r (HX fl (1*2^i))).1,(xK r (HX fl (1*2^i))).2)
noncomputable def Kf(b:List Nat):Option Int→List Str
 |none=>b.map wd
 |some fl=>b.map wd++[hx fl]
theorem uG:∀ (r:List Nat) (fl:Int) (ns:List Str),(∀i∈r,i<32)→(∀fl',(xK r fl).2=some fl'→(hx fl').length≤1000)→tE r fl ns=some (ns++Kf (xK r fl).1 (xK r fl).2)
 | [],fl,ns,_,h=>by
  have:=h fl rfl
  simp only [tE,if_pos this,xK,Kf,LQ,Lf]
 |i::r,fl,ns,hr,h=>by
  have hw:=Bi.mp Nj i (D5.mpr (hr i (by simp)));simp only [E_,beq_iff_eq,decide_eq_true_eq] at hw
  have hr':∀i∈r,i<32:= λk hk=>hr k (by simp [hk]);rw [tE];rw [xK] at h⊢
  by_cases q:Dd fl (1*2^i)=0
  ·rw [if_pos q] at h⊢
   refine rA (if_pos q) ?_;exact uG r fl ns hr' h
  ·rw [if_neg q] at h⊢
   refine rA (if_neg q) ?_;refine rA (if_pos hw.2) ?_;refine rA hw.1 ?_
   by_cases z:HX fl (1*2^i)=0
   ·refine rA (if_pos z) ?_;refine rA (if_pos z) ?_;rfl
   ·rw [if_neg z] at h⊢
    refine rA (if_neg z) ?_;refine rA (uG r _ _ hr' h) ?_;cases (xK r (HX fl (1*2^i))).2<;>simp [Kf]
theorem uy:∀ (r:List Nat) (fl:Int),(xK r fl).1.length≤r.length
 | [],_=>by simp [xK]
 |i::r,fl=>by
  rw [xK]
  split
  ·have:=uy r fl;simp only [Bb];lia
  ·split
   ·simp
   ·have:=uy r (HX fl (1*2^i));simp only [Bb];lia
theorem uF:∀b:List Nat,((b.map wd).map (·.length)).sum≤20*b.length
 | []=>by simp
 |i::b=>by
  have:=uF b
  have h:=(HH i).1;simp only [EV,Pq,Bb]
  have:(wd i).length=(wX.getD i []).length:=eh _
  lia
theorem Zp{fl:Int}{b:List Nat}{o:Option Int}(h:xK (zd 32) fl=(b,o))(ho:∀fl',o=some fl'→(hx fl').length≤1000):pf fl=some (Lo ", " (Kf b o)):=by
 have e:=uG (zd 32) fl [] (λi hi=>D5.mp hi) (by refine rA h ?_;exact ho);have hb:=uy (zd 32) fl;rw [h] at e hb
 unfold pf;refine rA e ?_;dsimp only;refine rA (Lf _) ?_;rw [if_pos];have hs:=uF b;simp only [Ib] at hb
 cases o with
 |none=>simp only [Kf,xJ];lia
 |some fl'=>
  have:=ho fl' rfl
  simp only [Kf,be,xJ,IQ,RH,EV,LQ,Pq,RI,Bb,EQ];lia
theorem Yt{fl:Int}{b:List Nat}{o:Option Int}(h:xK (zd 32) fl=(b,o))(ho:∀fl',o=some fl'→(hx fl').length≤1000):cM [.d (.int fl)] μ=some (.d (.str (Lo ", " (Kf b o))),μ):=s7 (Zp h ho)
noncomputable def iF(mask k:Nat):Bool:=mask/2^k%2==1
noncomputable def gZ(low f mask:Nat):List Nat:=((zd f).filter (iF mask)).map λk=>low+k
theorem Kw:((zd 13).all λlow=>(zd 32).all λmask=>xK (zd 32) ((mask:Int)*2^low)==(gZ low 5 mask,if mask=0 then some 0 else none))=true:=by decide+kernel
theorem ME:((zd 6).all λf=>(zd 13).all λlow=>(zd 5).all λr=>xK (zd 32) ((2^f-1)*2^low+2^31+((r:Int)-3)*2^32)==((zd f).map (λk=>low+k)++[31],if r=3 then none else some (((r:Int)-3)*2^32)))=true:=by decide+kernel
theorem Uf:((zd 5).all λr=>decide ((hx (((r:Int)-3)*2^32)).length≤1000))=true:=by decide+kernel
theorem ac7:hx 0="0x0":=by decide+kernel
theorem ZJ:((zd 6).all λf=>(zd (2^f)).all λmask=>(zd 5).filter (iF mask)==(zd f).filter (iF mask))=true:=by decide+kernel
noncomputable def cE:List (List Nat)→List Nat
 | []=>[]
 | [w]=>w
 |w::v::r=>w++[44,32]++cE (v::r)
theorem Cd:∀ws:List (List Nat),U4 g_ (ws.map tS)=tS (cE ws)
 | []=>rfl
 | [w]=>rfl
 |w::v::r=>by
  have ih:=Cd (v::r);refine (?_:tS w++g_++U4 g_ ((v::r).map tS)=_);refine rA ih ?_;apply UP;refine rA (P7 _ _) ?_;refine rA (P7 _ _) ?_;refine rA BZ ?_
  simp [tS,cE]
theorem qX(ws:List (List Nat)):Lo g_ (ws.map tS)=tS (cE ws):=(RE _ _).trans (Cd ws)
theorem yZ(l:List Nat)(i:Nat):RU (tS l) g_ (tS l).length i↔(l[i]? =some 44∧l[i+1]? =some 32):=by
 unfold RU;refine rA (StrLaws.subAt_eq _ _ _) ?_;refine rA (eh _) ?_;refine rA (fR _) ?_;refine rA BZ ?_;refine (?_:(i+2≤l.length∧((l.drop i).take 2==[44,32])=true)↔_);have e0:l[i]? =(l.drop i)[0]? :=by rw [PX];rfl
 have e1:l[i+1]? =(l.drop i)[1]? :=by rw [PX]
 refine rA e0 ?_;refine rA e1 ?_;refine rA (propext (beq_iff_eq)) ?_;have hl:(l.drop i).length=l.length-i:=Rg;constructor
 ·intro zi0
  refine fY zi0 λh e=>?_;cases hd:l.drop i with
  |nil=>rw [hd] at e;cases e
  |cons a r=>
   cases r with
   |nil=>rw [hd] at e;simp at e
   |cons b r=>rw [hd] at e;simpa using e
 ·intro zi1
  refine fY zi1 λh e=>?_;cases hd:l.drop i with
  |nil=>rw [hd] at h;exact ct h
  |cons a r=>
   cases r with
   |nil=>rw [hd] at e;simp at e
   |cons b r=>
    rw [hd] at h e hl
    simp only [Bb] at hl
    simp only [List.getElem?_cons_zero,Oi,Option.some.injEq] at h e
    subst h e;exact ⟨by lia,rfl⟩
theorem Bn(a w b:List Nat):OL (tS (a++w++b)) a.length (a.length+w.length)=tS w:=by
 apply UP;apply Array.toList_inj.mp;refine rA (StrLaws.strSub_toList _ _ _) ?_;refine rA (fR _) ?_;refine rA (fR _) ?_;refine rA (KO _ _) ?_;refine rA (Eg _ _ _) ?_;refine rA Qf ?_;exact rA P8 rfl
theorem wh(l:List Nat):∀ (ws:List (List Nat)) (pre:List Nat) (cuts:List Nat) (f:Nat),ws≠[]→(∀w∈ws,44∉w)→l=pre++cE ws→
  StrLaws.ChainG (tS l) g_ (tS l).length pre.length cuts f→(∀k,f≤k→¬RU (tS l) g_ (tS l).length k)→To (tS l) 2 pre.length cuts=ws.map tS
 | [],_,_,_,h,_,_,_,_=>absurd rfl h
 | [w],pre,cuts,f,_,hw,hl,hG,_=>by
  cases cuts with
  |nil=>
   refine (?_:[OL (tS l) pre.length (tS l).length]=[tS w])
   have:=Bn pre w []
   rw [DN] at this
   refine rA hl ?_;refine rA (eh _) ?_;refine rA be ?_;simp only [cE] at this⊢
   exact rA this rfl
  |cons c r=>
   refine mA hG λh1 h2 zz zz=>?_;rw [yZ,hl] at h2
   have h2:=h2.1;rw [I7 h1] at h2
   exact absurd (FM h2) (hw w (by simp))
 |w::v::r,pre,cuts,f,_,hw,hl,hG,hn=>by
  have hat:RU (tS l) g_ (tS l).length (pre.length+w.length):=by
   refine rA (propext (yZ _ _)) ?_;refine rA hl ?_;simp only [cE];have e1:(pre++(w++[44,32]++cE (v::r)))=(pre++w)++([44,32]++cE (v::r)):=by simp
   have hl2:pre.length+w.length=(pre++w).length:=be.symm;refine rA e1 ?_;refine rA hl2 ?_;constructor
   ·rw [I7 (DW _)];refine rA (Nat.sub_self _) ?_;rfl
   ·rw [I7 (by lia)];refine rA (KO _ _) ?_;rfl
  have hno:∀k,pre.length≤k→k<pre.length+w.length→¬RU (tS l) g_ (tS l).length k:=by
   intro k h1 h2 h;rw [yZ,hl] at h
   have h:=h.1;simp only [cE] at h
   rw [I7 h1,Eg,EY (by lia)] at h
   exact hw w (by simp) (FM h)
  cases cuts with
  |nil=>
   have e:f=pre.length:=hG;exact absurd hat (hn _ (by lia))
  |cons c r'=>
   refine mA hG λh1 h2 h3 h4=>?_;have hc:c=pre.length+w.length:=by
    rcases Qw c (pre.length+w.length) with q|q|q
    ·exact absurd h2 (hno c h1 q)
    ·exact q
    ·exact absurd hat (h3 _ (by lia) q)
   subst hc;have hs:g_.length=2:=by decide
   rw [hs] at h4
   have hpre:(pre++w++[44,32]).length=pre.length+w.length+2:=by simp;lia
   have ih:=wh l (v::r) (pre++w++[44,32]) r' f (by simp) (λu hu=>hw u (by simp at hu⊢;exact .inr hu)) (by refine rA hl ?_;simp [cE]) (by refine rA hpre ?_;exact h4) hn;rw [hpre] at ih
   refine (?_:OL (tS l) pre.length (pre.length+w.length)::To (tS l) 2 (pre.length+w.length+2) r'=_);refine rA ih ?_;refine rA hl ?_
   have:=Bn pre w ([44,32]++cE (v::r))
   simp only [cE,EV,←Eg] at this⊢
   exact rA this rfl
theorem qH(ws:List (List Nat))(h0:ws≠[])(hw:∀w∈ws,44∉w):Og (tS (cE ws)) (Ln (tS (cE ws)) g_ 0 (tS (cE ws)).length ((tS (cE ws)).length+1)) g_.length=ws.map tS:=by
 refine au (StrLaws.occ_tight (tS (cE ws)) g_ (by decide)) λf hG hn=>?_;refine rA (Rb _ _ _) ?_;refine rA (show g_.length=2 from by decide) ?_;exact wh (cE ws) ws [] _ f h0 hw rfl hG hn
theorem y0(ws:List (List Nat))(h0:ws≠[])(hw:∀w∈ws,44∉w):PC (tS (cE ws)) g_=ws.map tS:=by
 have hp:=qH ws h0 hw;unfold PC
 split
 ·rename_i h
  simp only [PB,decide_eq_true_eq,eh,show g_.length=2 from by decide] at h
  have hk:Sy g_=1:=by decide+kernel
  rcases h with h|h
  ·match ws,h with
   | [w],_=>rfl
   |w::v::r,h=>simp [cE] at h;lia
  ·rw [hk] at h
   exfalso
   unfold Sy at h
   split at h
   ·lia
   ·split at h<;>lia
 ·split
  ·rename_i h
   rw [U0.mp h,Rb] at hp
   refine rB hp ?_;refine (?_:[_]=[OL _ 0 _]);exact rA (StrLaws.sub_whole _) rfl
  ·exact hp
noncomputable def xG:Fm→List Fm
 | .bin true l r=>[l,r]
 |F=>[F]
noncomputable def fK(G:List Fm):List Fm:=((((G.flatMap xG).flatMap xG).flatMap xG).flatMap xG).flatMap xG
noncomputable def bJ(G:List Fm):List Nat:=G.flatMap Fm.pl
noncomputable def bk(m:List Nat)(s:List Nat):Bool:=s.all λp=>s.contains (m.getD p 0)
noncomputable def gR(l r:Fm)(B:List Fm):List Fm→List Fm→List (List Fm×List Fm)
 | [],pre=>[([l],pre++r::B)]
 |F::A,pre=>(F::(A++[l]),pre++r::B)::gR l r B A (pre++[F])
noncomputable def iI(l r:Fm)(A:List Fm):List Fm→List Fm→List (List Fm×List Fm)
 | [],pre=>[(r::pre,A++[l])]
 |F::B,pre=>(r::pre,A++l::F::B)::iI l r A B (pre++[F])
theorem Vx{pre:List Fm}:gR l r B [] pre=[([l],pre++r::B)]:=rfl
theorem Ve{A pre:List Fm}:gR l r B (F::A) pre=(F::(A++[l]),pre++r::B)::gR l r B A (pre++[F]):=rfl
theorem U6{A pre:List Fm}:iI l r A [] pre=[(r::pre,A++[l])]:=rfl
theorem VB{A pre:List Fm}:iI l r A (F::B) pre=(r::pre,A++l::F::B)::iI l r A B (pre++[F]):=rfl
theorem J8:xG (.at i)=[.at i]:=rfl
theorem PI:xG (.bin true l r)=[l,r]:=rfl
theorem Qq:xG (.bin false l r)=[.bin false l r]:=rfl
noncomputable def two:List Fm→Bool
 | [.at _,.at _]=>true
 |_=>false
noncomputable def xI(m:List Nat)(rc:List Fm→Bool):List Fm→List Fm→Bool
 |_,[]=>false
 |A,F::B=>match F with
  | .bin false l r=>(match (gR l r B A []++iI l r A B []).find? (λw=>bk m (bJ w.1)) with
   |some w=>rc w.1&&rc w.2
   |none=>xI m rc (A++[F]) B)
  |_=>xI m rc (A++[F]) B
noncomputable def pr(m:List Nat):Nat→List Fm→Bool
 |0,_=>false
 |k+1,G=>two (fK G)||xI m (pr m k) [] (fK G)
noncomputable def eH:List Fm→Nat→List Jn
 | [],_=>[]
 |F::r,n=>(gr F n).2++eH r (n+(gr F n).2.length)
theorem sn{r:List Fm}:eH (F::r) n=(gr F n).2++eH r (n+(gr F n).2.length):=rfl
noncomputable def start(m:List Nat)(n:Nat):List Nat:=(zd 6).map (λi=>min i (m.getD i 0))++F7 6 n
noncomputable def iq(J:List Jn):List (Nat×Nat):=(J.filter λx=>!x.par).flatMap λx=>[(x.nd,x.a),(x.nd,x.b)]
noncomputable def sG:Nat→List Jn→List (Nat×Nat)
 |_,[]=>[]
 |k,f::r=>(f.nd,if k%2=1 then f.b else f.a)::sG (k/2) r
theorem ae7:sG k []=[]:=rfl
theorem FW{f:Jn}{r:List Jn}:sG k (f::r)=(f.nd,if k%2=1 then f.b else f.a)::sG (k/2) r:=rfl
theorem OU{l:List Nat}:dg l []=l:=rfl
noncomputable def Xm(l:List Nat):Bool:=l != []&&l.all (· ==l.headD 0)
noncomputable def j9(L:List Nat)(forks:List Jn)(mask:Nat):Bool:=Xm (if L=[] then [] else dg L (sG mask forks))
noncomputable def trees(m:List Nat)(G:List Fm):Bool:=
 (zd (2^ ((eH G 0).filter (·.par)).length)).all (j9 (dg (start m (eH G 0).length) (iq (eH G 0))) ((eH G 0).filter (·.par)))
noncomputable def aH:List (List Nat):=[[5,4,3,2,1,0],[5,2,1,4,3,0],[3,2,1,0,5,4],[1,0,5,4,3,2],[1,0,3,2,5,4]]
noncomputable def Qy:Nat→Nat→Nat→List Fm
 |0,_,_=>[]
 |_+1,a,1=>[.at a]
 |k+1,a,n=>(F7 1 (n-1)).flatMap λi=>(Qy k a i).flatMap λl=>(Qy k (a+i) (n-i)).flatMap λr=>[.bin true l r,.bin false l r]
theorem ZE{a:Nat}:∀ {n:Nat},n≠1→Qy (k+1) a n=(F7 1 (n-1)).flatMap λi=>(Qy k a i).flatMap λl=>(Qy k (a+i) (n-i)).flatMap λr=>[.bin true l r,.bin false l r]
 |0,_=>rfl
 |1,h=>absurd rfl h
 |_+2,_=>rfl
noncomputable def enG:Nat→Nat→Nat→List (List Fm)
 |0,_,n=>if n=0 then [[]] else []
 |r+1,a,n=>(F7 1 n).flatMap λi=>(Qy 6 a i).flatMap λF=>(enG r (a+i) (n-i)).map λG=>F::G
theorem ac9{r a:Nat}:enG (r+1) a n=(F7 1 n).flatMap λi=>(Qy 6 a i).flatMap λF=>(enG r (a+i) (n-i)).map λG=>F::G:=rfl
theorem nN:∀F:Fm,1≤F.pl.length
 | .at _=>DW 1
 | .bin _ l r=>by have:=nN l;simp only [Fm.pl,be];lia
theorem kx{a:Nat}{x y:List Nat}(h:x++y=F7 a n):x=F7 a x.length∧y=F7 (a+x.length) (n-x.length)∧x.length≤n:=by
 have hl:=congrArg NM h;simp only [be,L3] at hl
 have e:F7 a n=F7 a x.length++F7 (a+x.length) (n-x.length):=by
  refine rA List.range'_append_1 ?_;congr 1;lia
 rw [e] at h
 have:=Ul h (by simp)
 exact (fm this.1 this.2 (by lia))
theorem uN:∀ (F:Fm) (k a n:Nat),F.pl=F7 a n→n≤k→F∈Qy k a n
 | .at i,k,a,n,h,hk=>by
  have hl:=congrArg NM h;simp only [Fm.pl,Bb,EQ,L3] at hl
  subst hl;cases k with
  |zero=>lia
  |succ k=>
   obtain rfl:i=a:=by simpa [Fm.pl] using h
   exact Ab.mpr rfl
 | .bin p l r,k,a,n,h,hk=>by
  refine dU (kx h) λh1 h2 h3=>?_;have hl:=congrArg NM h;simp only [Fm.pl,be,L3] at hl
  have p1:=nN l;have p2:=nN r;cases k with
  |zero=>lia
  |succ k=>
   refine rA (ZE (by lia)) ?_;refine L5.mpr (aZ l.pl.length (by refine rA (propext (P4)) ?_;lia) ?_);refine L5.mpr (aZ l (uN l k a _ h1 (by lia)) ?_);refine L5.mpr (aZ r (uN r k _ _ h2 (by lia)) ?_);cases p<;>simp
theorem BY:∀ (G:List Fm) (a n:Nat),bJ G=F7 a n→n≤6→G∈enG G.length a n
 | [],a,n,h,_=>by
  have hl:=congrArg NM h;simp only [bJ,List.flatMap_nil,EQ,L3] at hl
  subst hl;exact Ab.mpr rfl
 |F::G,a,n,h,hk=>by
  have h':F.pl++bJ G=F7 a n:=h;refine dU (kx h') λh1 h2 h3=>?_;have p1:=nN F;refine rA Bb ?_;refine rA ac9 ?_;refine L5.mpr (aZ F.pl.length (by refine rA (propext (P4)) ?_;lia) ?_);refine L5.mpr (aZ F (uN F 6 a _ h1 (by lia)) ?_);exact DT.mpr (aZ G (BY G _ _ h2 (by lia)) rfl)
noncomputable def La{α:Type}(t:Nat)(k:Nat→α):α:=Nat.casesOn t (k 0) (λn=>k (Vf n))
theorem ni{α:Type}(t:Nat)(k:Nat→α):La t k=k t:=by cases t<;>rfl
theorem IU{a:Nat}(h:¬a=b):Qg a b=false:=by
 cases e:Qg a b with
 |false=>rfl
 |true=>exact absurd (Nat.eq_of_beq_eq_true e) h
noncomputable def Ft(L i:Nat):Nat:=Vd (Nat.div L (Nat.pow 16 i)) 16
noncomputable def unP(u v:Nat):Nat→Nat→Nat
 |0,_=>0
 |k+1,L=>Nat.add (bif Qg (Vd L 16) v then u else Vd L 16) (Nat.mul 16 (unP u v k (Nat.div L 16)))
noncomputable def rp(N L a b:Nat)(k:Nat→Bool):Bool:=
 La (Ft L a) λu=>La (Ft L b) λv=>bif Qg u v then false else La (unP u v N L) k
noncomputable def Ga(u:Nat):Nat→Nat→Bool
 |0,_=>true
 |k+1,L=>Qg (Vd L 16) u&&Ga u k (Nat.div L 16)
noncomputable def R8(N:Nat):List Jn→Nat→Bool
 | [],L=>Ga (Ft L 0) N L
 |f::r,L=>rp N L f.nd f.b (R8 N r)&&rp N L f.nd f.a (R8 N r)
noncomputable def stP(N:Nat):List Jn→Nat→(Nat→Bool)→Bool
 | [],L,k=>k L
 |f::r,L,k=>rp N L f.nd f.a λL=>rp N L f.nd f.b λL=>stP N r L k
noncomputable def Mq{α:Type}:Fm→Nat→List Jn→List Jn→(Nat→Nat→List Jn→List Jn→α)→α
 | .at i,n,S,P,k=>La i λi=>k i n S P
 | .bin p l r,n,S,P,k=>Mq l n S P λx n S P=>Mq r n S P λy n S P=>La (6+n) λnd=>La (n+1) λn=>bif p then k nd n S (P++[⟨true,nd,x,y⟩]) else k nd n (S++[⟨false,nd,x,y⟩]) P
noncomputable def EA{α:Type}:List Fm→Nat→List Jn→List Jn→(List Jn→List Jn→α)→α
 | [],_,S,P,k=>k S P
 |F::G,n,S,P,k=>Mq F n S P λzz n S P=>EA G n S P k
theorem SO{α:Type}{P:List Jn}{k:Nat→Nat→List Jn→List Jn→α}:Mq (.at i) n S P k=La i λi=>k i n S P:=rfl
theorem Z2{α:Type}{p:Bool}{P:List Jn}{k:Nat→Nat→List Jn→List Jn→α}:Mq (.bin p l r) n S P k=Mq l n S P λx n S P=>Mq r n S P λy n S P=>La (6+n) λnd=>La (n+1) λn=>bif p then k nd n S (P++[⟨true,nd,x,y⟩]) else k nd n (S++[⟨false,nd,x,y⟩]) P:=rfl
theorem Up{α:Type}{G:List Fm}{P:List Jn}{k:List Jn→List Jn→α}:EA (F::G) n S P k=Mq F n S P λzz n S P=>EA G n S P k:=rfl
noncomputable def f9:List Nat→Nat
 | []=>0
 |a::l=>a+16*f9 l
noncomputable def xS(N L:Nat)(G:List Fm):Bool:=EA G 0 [] [] λS P=>stP N S L (R8 N P)
theorem V8{a:Nat}{l:List Nat}:f9 (a::l)=a+16*f9 l:=rfl
theorem m9{a:Nat}{l:List Nat}(h:a<16):f9 (a::l)/16=f9 l∧f9 (a::l)%16=a:=by
 rw [V8];lia
theorem ph:∀ (l:List Nat) (i:Nat),(∀x∈l,x<16)→Ft (f9 l) i=l.getD i 0
 | [],i,_=>by
  refine (?_:0/16^i%16=0);exact rA (Nat.zero_div _) rfl
 |a::l,0,h=>by
  refine (?_:f9 (a::l)/16^0%16=a);refine rA (TG _) ?_;refine rA (Nat.div_one _) ?_;exact (m9 (h a (by simp))).2
 |a::l,i+1,h=>by
  refine (?_:f9 (a::l)/16^ (i+1)%16=_);refine rA (Q6 _ _) ?_;refine rA (Nat.mul_comm _ _) ?_;refine rB (Rq _ _ _) ?_;refine rA ((m9 (h a (by simp))).1) ?_;exact (ph l i λx hx=>h x (by simp [hx])).trans (by simp)
noncomputable def EU(ls:List Nat)(a b:Nat):List Nat:=ls.map λx=>if x=b then a else x
theorem Ky(u v:Nat):∀ (l:List Nat),(∀x∈l,x<16)→unP u v l.length (f9 l)=f9 (EU l u v)
 | [],_=>rfl
 |a::l,h=>by
  have e:=m9 (l:=l) (h a (by simp));refine (?_:(bif Qg (f9 (a::l)%16) v then u else f9 (a::l)%16)+16*unP u v l.length (f9 (a::l)/16)=_);refine rA e.1 ?_;refine rA e.2 ?_;refine rA (Ky u v l λx hx=>h x (by simp [hx])) ?_;refine (?_:_=(if a=v then u else a)+16*f9 (EU l u v))
  by_cases q:a=v
  ·refine rA (if_pos q) ?_;refine rA (show Qg a v=true from by rw [q];exact Nat.beq_refl v) ?_;rfl
  ·refine rA (if_neg q) ?_;refine rA (IU q) ?_;rfl
theorem yR{l:List Nat}{u v:Nat}(h:∀x∈l,x<16)(hu:u<16):∀x∈EU l u v,x<16:=by
 intro x hx;simp only [EU,DT] at hx
 refine au hx λy hy zq2=>?_;subst zq2
 split
 ·exact hu
 ·exact h y hy
theorem uw{l:List Nat}(h:∀x∈l,x<16)(i:Nat):l.getD i 0<16:=by
 rw [LD];cases e:l[i]? with
 |none=>simp
 |some a=>exact h a (FM e)
theorem uM{l:List Nat}{a:Nat}{k:Nat→Bool}(h:∀x∈l,x<16):rp l.length (f9 l) a b k=if l.getD a 0=l.getD b 0 then false else k (f9 (EU l (l.getD a 0) (l.getD b 0))):=by
 unfold rp;refine rA (ni _ _) ?_;refine rA (ni _ _) ?_;refine rA (ph l a h) ?_;refine rA (ph l b h) ?_;refine rA (ni _ _) ?_;refine rA (Ky _ _ l h) ?_
 by_cases q:l.getD a 0=l.getD b 0
 ·refine rA (if_pos q) ?_;refine rA q ?_;refine rA (Nat.beq_refl _) ?_;rfl
 ·refine rA (if_neg q) ?_;refine rA (IU q) ?_;rfl
theorem A_(u:Nat):∀ (l:List Nat),(∀x∈l,x<16)→Ga u l.length (f9 l)=l.all (· ==u)
 | [],_=>rfl
 |a::l,h=>by
  have e:=m9 (l:=l) (h a (by simp));refine (?_:(Qg (f9 (a::l)%16) u&&Ga u l.length (f9 (a::l)/16))=_);refine rA e.1 ?_;refine rA e.2 ?_;refine rA (A_ u l λx hx=>h x (by simp [hx])) ?_;refine rA Me ?_
  have:Qg a u=(a==u):=by
   by_cases q:a=u
   ·subst q;simp
   ·refine rA (IU q) ?_;exact rA (beq_eq_false_iff_ne.mpr q) rfl
  exact rA this rfl
theorem Cv:Xm []=false:=rfl
theorem yL{l:List Nat}{u v:Nat}(h:l≠[]):EU l u v≠[]:=by
 intro q;exact h (O9.mp q)
theorem tc{l:List Nat}{u v:Nat}:(EU l u v).length=l.length:=by simp [EU]
theorem kJ(l:List Nat)(a b:Nat)(r:List (Nat×Nat)):dg l ((a,b)::r)=if l.getD a 0=l.getD b 0 then [] else dg (EU l (l.getD a 0) (l.getD b 0)) r:=rfl
theorem HI:∀ (forks:List Jn) (l:List Nat),(∀x∈l,x<16)→l≠[]→R8 l.length forks (f9 l)=(zd (2^forks.length)).all λk=>Xm (dg l (sG k forks))
 | [],l,h,hn=>by
  refine (?_:Ga (Ft (f9 l) 0) l.length (f9 l)=_);refine rA (ph l 0 h) ?_;refine rA (A_ _ l h) ?_;simp only [EQ,TG,List.range_one,Me,List.all_nil,Bool.and_true,ae7,OU,Xm]
  have:(l != [])=true:=by simpa using hn
  refine rA this ?_;refine rA (T6 _) ?_;cases l<;>rfl
 |f::r,l,h,hn=>by
  have ih:∀ (a b:Nat),rp l.length (f9 l) a b (R8 l.length r)=(zd (2^r.length)).all λk=>Xm (dg l ((a,b)::sG k r)):=by
   intro a b;refine rA (uM h) ?_
   by_cases q:l.getD a 0=l.getD b 0
   ·refine rA (if_pos q) ?_
    symm
    refine rA (propext (Tq)) ?_;refine (aZ 0 (D5.mpr (Ur _)) ?_);refine rA (kJ _ _ _ _) ?_;refine rA (if_pos q) ?_;refine rA Cv ?_;exact G_
   ·refine rA (if_neg q) ?_
    have:=HI r (EU l (l.getD a 0) (l.getD b 0)) (yR h (uw h _)) (yL hn)
    rw [tc] at this
    refine rA this ?_
    congr 1
    funext k
    refine rA (kJ _ _ _ _) ?_;exact rA (if_neg q) rfl
  refine (?_:(rp l.length (f9 l) f.nd f.b (R8 l.length r)&&rp l.length (f9 l) f.nd f.a (R8 l.length r))=_);refine rA (ih _ _) ?_;refine rA (ih _ _) ?_;refine rA (propext (PO)) ?_;refine rA (E_ _ _) ?_;rw [Bi,Bi,Bi];simp only [D5];constructor
  ·intro zi0 k hk
   obtain ⟨h1,h2⟩:=zi0;rw [Bb,Q6] at hk
   refine rA FW ?_
   by_cases q:k%2=1
   ·refine rA (if_pos q) ?_;exact h1 (k/2) (by lia)
   ·refine rA (if_neg q) ?_;exact h2 (k/2) (by lia)
  ·intro hh
   constructor
   ·intro k hk
    have:=hh (2*k+1) (by refine rA Bb ?_;refine rA (Q6 _ _) ?_;lia)
    rw [FW] at this
    rw [if_pos (by lia),show (2*k+1)/2=k by lia] at this
    exact this
   ·intro k hk
    have:=hh (2*k) (by refine rA Bb ?_;refine rA (Q6 _ _) ?_;lia)
    rw [FW] at this
    rw [if_neg (by lia),show 2*k/2=k by lia] at this
    exact this
noncomputable def Lk(S:List Jn):List (Nat×Nat):=S.flatMap λx=>[(x.nd,x.a),(x.nd,x.b)]
theorem IV(k:Nat→Bool):∀ (S:List Jn) (l:List Nat),(∀x∈l,x<16)→l≠[]→(stP l.length S (f9 l) k=if dg l (Lk S)=[] then false else k (f9 (dg l (Lk S))))∧(dg l (Lk S)≠[]→(dg l (Lk S)).length=l.length∧∀x∈dg l (Lk S),x<16)
 | [],l,h,hn=>⟨by show k (f9 l)=_;refine rA (show dg l (Lk [])=l from rfl) ?_;exact rA (if_neg hn) rfl,λzz=>⟨rfl,h⟩⟩
 |f::r,l,h,hn=>by
  have e0:Lk (f::r)=(f.nd,f.a)::(f.nd,f.b)::Lk r:=rfl
  show (rp l.length (f9 l) f.nd f.a (λL=>rp l.length L f.nd f.b λL=>stP l.length r L k))=_∧_
  refine rA (uM h) ?_;refine rA e0 ?_;refine rA (kJ _ _ _ _) ?_
  by_cases q:l.getD f.nd 0=l.getD f.a 0
  ·refine rA (if_pos q) ?_;refine rA (if_pos q) ?_;exact ⟨rfl,λx=>absurd rfl x⟩
  ·refine rA (if_neg q) ?_;refine rA (if_neg q) ?_
   have h1:=yR (v:=l.getD f.a 0) h (uw h f.nd);have n1:=yL (u:=l.getD f.nd 0) (v:=l.getD f.a 0) hn;have e1:=tc (l:=l) (u:=l.getD f.nd 0) (v:=l.getD f.a 0);generalize EU l (l.getD f.nd 0) (l.getD f.a 0)=l1 at h1 n1 e1⊢
   refine rB e1 ?_;refine rA (uM h1) ?_;refine rA (kJ _ _ _ _) ?_
   by_cases q':l1.getD f.nd 0=l1.getD f.b 0
   ·refine rA (if_pos q') ?_;refine rA (if_pos q') ?_;exact ⟨rfl,λx=>absurd rfl x⟩
   ·refine rA (if_neg q') ?_;refine rA (if_neg q') ?_
    have h2:=yR (v:=l1.getD f.b 0) h1 (uw h1 f.nd);have n2:=yL (u:=l1.getD f.nd 0) (v:=l1.getD f.b 0) n1;have e2:=tc (l:=l1) (u:=l1.getD f.nd 0) (v:=l1.getD f.b 0);generalize EU l1 (l1.getD f.nd 0) (l1.getD f.b 0)=l2 at h2 n2 e2⊢
    refine rB e2 ?_;exact IV k r l2 h2 n2
theorem xP{α:Type}:∀ (F:Fm) (n:Nat) (S P:List Jn) (k:Nat→Nat→List Jn→List Jn→α),
  Mq F n S P k=k (gr F n).1 (n+(gr F n).2.length) (S++(gr F n).2.filter λx=>!x.par) (P++(gr F n).2.filter (·.par))
 | .at i,n,S,P,k=>by simp only [SO,ni,Hh,List.filter_nil,DN,EQ,TM]
 | .bin p l r,n,S,P,k=>by
  refine rA Z2 ?_;refine rA (xP l _ _ _ _) ?_;refine rA (xP r _ _ _ _) ?_;refine rA (ni _ _) ?_;refine rA (ni _ _) ?_;cases p<;>simp [Ag,R9]
theorem Cq{α:Type}:∀ (G:List Fm) (n:Nat) (S P:List Jn) (k:List Jn→List Jn→α),EA G n S P k=k (S++(eH G n).filter λx=>!x.par) (P++(eH G n).filter (·.par))
 | [],n,S,P,k=>by rw [show eH [] n=[] from rfl];simp [show EA [] n S P k=k S P from rfl]
 |F::G,n,S,P,k=>by
  refine rA Up ?_;rw [xP];refine rA (Cq G _ _ _ _) ?_;rw [sn]
  simp
theorem HR{G:List Fm}(hm:∀x∈start m (eH G 0).length,x<16):trees m G=xS (6+(eH G 0).length) (f9 (start m (eH G 0).length)) G:=by
 unfold xS;rw [Cq];refine rA (Lf _) ?_;refine rA (Lf _) ?_;have hl:(start m (eH G 0).length).length=6+(eH G 0).length:=by simp [start]
 have hn:start m (eH G 0).length≠[]:=by intro q;rw [q] at hl;simp at hl;lia
 refine fY (IV (R8 (6+(eH G 0).length) ((eH G 0).filter (·.par))) ((eH G 0).filter λx=>!x.par) _ hm hn) λe h=>?_;rw [hl] at e
 refine rA e ?_;unfold trees;have hs:iq (eH G 0)=Lk ((eH G 0).filter λx=>!x.par):=rfl;refine rA hs ?_;generalize dg (start m (eH G 0).length) (Lk ((eH G 0).filter λx=>!x.par))=L at h⊢
 by_cases q:L=[]
 ·refine rA (if_pos q) ?_
  refine rA (propext (Tq)) ?_;refine (aZ 0 (D5.mpr (Ur _)) ?_);unfold j9;refine rA (if_pos q) ?_;refine rA Cv ?_;exact G_
 ·refine rA (if_neg q) ?_
  refine fY (h q) λh1 h2=>?_;refine rB hl ?_;refine rB h1 ?_;refine rA (HI _ L h2 q) ?_;unfold j9;simp only [if_neg q]
noncomputable def l9:Fm→Nat
 | .at i=>Nat.pow 2 i
 | .bin _ l r=>Pk (l9 l) (l9 r)
noncomputable def tN:List Fm→Nat
 | []=>0
 |F::A=>Pk (l9 F) (tN A)
noncomputable def Fy:List Nat→Nat→Bool
 | [],_=>true
 |p::r,x=>(Qg (Nat.land x p) 0||Qg (Nat.land x p) p)&&Fy r x
noncomputable def yF(ps:List Nat)(l r:Fm)(B:List Fm):List Fm→List Fm→Option (List Fm×List Fm)
 | [],pre=>bif Fy ps (l9 l) then some ([l],pre++r::B) else none
 |F::A,pre=>bif Fy ps (Pk (l9 F) (Pk (tN A) (l9 l))) then some (F::(A++[l]),pre++r::B) else yF ps l r B A (pre++[F])
noncomputable def Ah(ps:List Nat)(l r:Fm)(A:List Fm):List Fm→List Fm→Option (List Fm×List Fm)
 | [],pre=>bif Fy ps (Pk (l9 r) (tN pre)) then some (r::pre,A++[l]) else none
 |F::B,pre=>bif Fy ps (Pk (l9 r) (tN pre)) then some (r::pre,A++l::F::B) else Ah ps l r A B (pre++[F])
noncomputable def WG(ps:List Nat)(rc:List Fm→Bool):List Fm→List Fm→Bool
 |_,[]=>false
 |A,.bin false l r::B=>match yF ps l r B A [] with
  |some w=>rc w.1&&rc w.2
  |none=>match Ah ps l r A B [] with
   |some w=>rc w.1&&rc w.2
   |none=>WG ps rc (A++[.bin false l r]) B
 |A,F::B=>WG ps rc (A++[F]) B
noncomputable def prM(ps:List Nat):Nat→List Fm→Bool
 |0,_=>false
 |k+1,G=>two (fK G)||WG ps (prM ps k) [] (fK G)
noncomputable def ET:List (List Nat):=[[33,18,12],[33,6,24],[9,6,48],[3,36,24],[3,12,48]]
def Py(x:Nat)(s:List Nat):Prop:=∀p,x.testBit p=true↔p∈s
theorem SE(i:Nat):Py (Nat.pow 2 i) [i]:= λp=>by
 refine (?_:(2^i).testBit p=true↔_);refine rA Nat.testBit_two_pow ?_;simp [eq_comm]
theorem Py.or{x y:Nat}{s t:List Nat}(h:Py x s)(h':Py y t):Py (Pk x y) (s++t):= λp=>by
 refine (?_:(x ||| y).testBit p=true↔_);refine rA (Nat.testBit_or _ _ _) ?_;refine rA (PB _ _) ?_;refine rA (propext (AZ)) ?_;refine rA (propext (h p)) ?_;rw [h' p]
theorem oH:∀F:Fm,Py (l9 F) F.pl
 | .at i=>SE i
 | .bin _ l r=>(oH l).or (oH r)
theorem C7:∀G:List Fm,Py (tN G) (bJ G)
 | []=> λp=>by show (0:Nat).testBit p=true↔_;simp [bJ]
 |F::G=>(oH F).or (C7 G)
theorem MS:((zd 5).all λi=>(zd 64).all λx=>Fy (ET.getD i []) x==(zd 6).all λp=>!x.testBit p||x.testBit ((aH.getD i []).getD p 0))=true:=by decide+kernel
theorem uC{x:Nat}{s:List Nat}(hi:i<5)(hx:Py x s)(hs:∀p∈s,p<6):Fy (ET.getD i []) x=bk (aH.getD i []) s:=by
 have hlt:x<2^6:=by
  apply Nat.lt_pow_two_of_testBit;intro j hj;cases e:x.testBit j with
  |false=>rfl
  |true=>have:=hs j ((hx j).mp e);lia
 have:=Bi.mp (Bi.mp MS i (D5.mpr hi)) x (D5.mpr hlt)
 rw [beq_iff_eq] at this
 refine rA this ?_;refine rA (propext (PO)) ?_;rw [Bi];unfold bk;rw [Bi];constructor
 ·intro h p hp
  have:=h p (D5.mpr (hs p hp))
  rw [(hx p).mpr hp] at this
  simp only [Ra,Pn] at this
  simpa using (hx _).mp this
 ·intro h p _
  cases e:x.testBit p with
  |false=>rfl
  |true=>
   have:=h p ((hx p).mp e)
   simp only [Ra,Pn];exact (hx _).mpr (by simpa using this)
abbrev P6(G:List Fm):Prop:=∀p∈bJ G,p<6
theorem d5(A B:List Fm):bJ (A++B)=bJ A++bJ B:=List.flatMap_append
theorem b6(F:Fm)(B:List Fm):bJ (F::B)=F.pl++bJ B:=rfl
theorem gx:bJ []=[]:=rfl
theorem gU:∀G:List Fm,bJ (G.flatMap xG)=bJ G
 | []=>rfl
 |F::G=>by
  refine rA Fe ?_;refine rA (d5 _ _) ?_;refine rA (gU G) ?_;refine rA (b6 _ _) ?_
  congr 1
  cases F with
  |«at» i=>simp [J8,bJ]
  |bin p l r=>cases p<;>simp [PI,Qq,bJ,Fm.pl]
theorem rG(G:List Fm):bJ (fK G)=bJ G:=by
 unfold fK;refine rA (gU _) ?_;refine rA (gU _) ?_;refine rA (gU _) ?_;refine rA (gU _) ?_;exact rA (gU _) rfl
theorem an7{pre:List Fm}:yF ps l r B [] pre=bif Fy ps (l9 l) then some ([l],pre++r::B) else none:=rfl
theorem ak7{A pre:List Fm}:yF ps l r B (F::A) pre=bif Fy ps (Pk (l9 F) (Pk (tN A) (l9 l))) then some (F::(A++[l]),pre++r::B) else yF ps l r B A (pre++[F]):=rfl
theorem an4{A pre:List Fm}:Ah ps l r A [] pre=bif Fy ps (Pk (l9 r) (tN pre)) then some (r::pre,A++[l]) else none:=rfl
theorem an3{A pre:List Fm}:Ah ps l r A (F::B) pre=bif Fy ps (Pk (l9 r) (tN pre)) then some (r::pre,A++l::F::B) else Ah ps l r A B (pre++[F]):=rfl
theorem Az(hi:i<5)(l r:Fm)(B:List Fm)(hl:∀p∈l.pl,p<6):∀ (A pre:List Fm),P6 A→yF (ET.getD i []) l r B A pre=(gR l r B A pre).find? (λw=>bk (aH.getD i []) (bJ w.1))
 | [],pre,_=>by
  have e:bJ [l]=l.pl:=by simp [bJ]
  rw [an7,Vx];refine rA (uC hi (oH l) hl) ?_;rw [M6];refine rA e ?_;cases bk (aH.getD i []) l.pl<;>rfl
 |F::A,pre,h=>by
  have hr:Py (Pk (l9 F) (Pk (tN A) (l9 l))) (bJ (F::(A++[l]))):=by
   have:=(oH F).or ((C7 A).or (oH l))
   refine rA (b6 _ _) ?_;refine rA (d5 _ _) ?_
   simpa [bJ] using this
  have hs:∀p∈bJ (F::(A++[l])),p<6:=by
   intro p hp;rw [b6,d5] at hp
   simp only [AZ] at hp
   rcases hp with q|q|q
   ·exact h p (by refine rA (b6 _ _) ?_;simp [q])
   ·exact h p (by refine rA (b6 _ _) ?_;simp [q])
   ·exact hl p (by simpa [bJ] using q)
  rw [ak7,Ve];refine rA (uC hi hr hs) ?_;rw [M6];refine rA (Az hi l r B hl A (pre++[F]) λp hp=>h p (by rw [b6];simp [hp])) ?_;cases bk (aH.getD i []) (bJ (F::(A++[l])))<;>rfl
theorem Bg(hi:i<5)(l r:Fm)(A:List Fm)(hr:∀p∈r.pl,p<6):∀ (B pre:List Fm),P6 B→P6 pre→Ah (ET.getD i []) l r A B pre=(iI l r A B pre).find? (λw=>bk (aH.getD i []) (bJ w.1))
 | [],pre,_,hp=>by
  have hs:∀p∈bJ (r::pre),p<6:=by
   intro p q;rw [b6,AZ] at q
   exact q.elim (hr p) (hp p)
  rw [an4,U6];refine rA (uC hi ((oH r).or (C7 pre)) hs) ?_;rw [M6];refine (?_:_=match bk (aH.getD i []) (r.pl++bJ pre) with|true=>_|false=>_);cases bk (aH.getD i []) (r.pl++bJ pre)<;>rfl
 |F::B,pre,h,hp=>by
  have hs:∀p∈bJ (r::pre),p<6:=by
   intro p q;rw [b6,AZ] at q
   exact q.elim (hr p) (hp p)
  rw [an3,VB,uC hi ((oH r).or (C7 pre)) hs,M6,Bg hi l r A hr B (pre++[F]) (λp hp=>h p (by refine rA (b6 _ _) ?_;simp [hp])) (by
   intro p q;rw [d5,AZ] at q
   rcases q with q|q
   ·exact hp p q
   ·exact h p (by refine rA (b6 _ _) ?_;simp [bJ] at q;simp [q]))]
  refine (?_:_=match bk (aH.getD i []) (r.pl++bJ pre) with|true=>_|false=>_);cases bk (aH.getD i []) (r.pl++bJ pre)<;>rfl
theorem wt(l r:Fm)(B:List Fm):∀ (A pre:List Fm) (w:List Fm×List Fm),w∈gR l r B A pre→∀p,(p∈bJ w.1∨p∈bJ w.2)→(p∈bJ pre∨p∈bJ A∨p∈l.pl∨p∈r.pl∨p∈bJ B)
 | [],pre,w,h,p,hp=>by
  simp only [Vx,Ab] at h
  subst h;simp only [d5,b6,gx,DN,AZ] at hp
  rcases hp with q|q|q|q<;>simp [q]
 |F::A,pre,w,h,p,hp=>by
  simp only [Ve,C1] at h
  rcases h with rfl|h
  ·simp only [d5,b6,gx,DN,AZ] at hp⊢
   rcases hp with (q|q|q)|q|q|q<;>simp [q]
  ·have:=wt l r B A (pre++[F]) w h p hp
   simp only [d5,b6,gx,DN,AZ] at this⊢
   rcases this with (q|q)|q|q|q|q<;>simp [q]
theorem w6(l r:Fm)(A:List Fm):∀ (B pre:List Fm) (w:List Fm×List Fm),w∈iI l r A B pre→∀p,(p∈bJ w.1∨p∈bJ w.2)→(p∈bJ pre∨p∈bJ A∨p∈l.pl∨p∈r.pl∨p∈bJ B)
 | [],pre,w,h,p,hp=>by
  simp only [U6,Ab] at h
  subst h;simp only [d5,b6,gx,DN,AZ] at hp⊢
  rcases hp with (q|q)|q|q<;>simp [q]
 |F::B,pre,w,h,p,hp=>by
  simp only [VB,C1] at h
  rcases h with rfl|h
  ·simp only [d5,b6,gx,DN,AZ] at hp⊢
   rcases hp with (q|q)|q|q|q|q<;>simp [q]
  ·have:=w6 l r A B (pre++[F]) w h p hp
   simp only [d5,b6,gx,DN,AZ] at this⊢
   rcases this with (q|q)|q|q|q|q<;>simp [q]
theorem tL(hi:i<5){rm:List Fm→Bool}(hrc:∀G,P6 G→rm G=rc G):∀ (B A:List Fm),P6 A→P6 B→WG (ET.getD i []) rm A B=xI (aH.getD i []) rc A B
 | [],A,_,_=>rfl
 | .at p::B,A,hA,hB=>by
  exact tL hi hrc B (A++[.at p]) (λq hq=>by rw [d5,AZ] at hq;exact hq.elim (hA q) λh=>hB q (by refine rA (b6 _ _) ?_;simp [bJ] at h;simp [Fm.pl] at h⊢;simp [h])) λq hq=>hB q (by refine rA (b6 _ _) ?_;simp [hq])
 | .bin true l r::B,A,hA,hB=>by
  exact tL hi hrc B (A++[.bin true l r]) (λq hq=>by rw [d5,AZ] at hq;exact hq.elim (hA q) λh=>hB q (by refine rA (b6 _ _) ?_;rw [b6,gx,DN] at h;simp [h])) λq hq=>hB q (by refine rA (b6 _ _) ?_;simp [hq])
 | .bin false l r::B,A,hA,hB=>by
  have hl:∀p∈l.pl,p<6:= λp hp=>hB p (by refine rA (b6 _ _) ?_;simp [Fm.pl,hp]);have hr:∀p∈r.pl,p<6:= λp hp=>hB p (by refine rA (b6 _ _) ?_;simp [Fm.pl,hp]);have hB':P6 B:= λq hq=>hB q (by refine rA (b6 _ _) ?_;simp [hq]);have hw:∀w,w∈gR l r B A []∨w∈iI l r A B []→P6 w.1∧P6 w.2:=by
   intro w h;have key:∀p,(p∈bJ w.1∨p∈bJ w.2)→p<6:=by
    intro p hp
    have:=h.elim (λh=>wt l r B A [] w h p hp) λh=>w6 l r A B [] w h p hp
    rcases this with q|q|q|q|q
    ·simp [bJ] at q
    ·exact hA p q
    ·exact hl p q
    ·exact hr p q
    ·exact hB' p q
   exact ⟨λp hp=>key p (.inl hp),λp hp=>key p (.inr hp)⟩
  refine (?_:(match yF (ET.getD i []) l r B A [] with
   |some w=>rm w.1&&rm w.2
   |none=>match Ah (ET.getD i []) l r A B [] with
    |some w=>rm w.1&&rm w.2
    |none=>WG (ET.getD i []) rm (A++[Fm.bin false l r]) B)=(match (gR l r B A []++iI l r A B []).find? (λw=>bk (aH.getD i []) (bJ w.1)) with
   |some w=>rc w.1&&rc w.2
   |none=>xI (aH.getD i []) rc (A++[Fm.bin false l r]) B))
  refine rA (Az hi l r B hl A [] hA) ?_;refine rA (Bg hi l r A hr B [] hB' (λp hp=>by simp [bJ] at hp)) ?_;simp only [List.find?_append];cases e1:(gR l r B A []).find? (λw=>bk (aH.getD i []) (bJ w.1)) with
  |some w=>
   refine fY (hw w (.inl (Ni e1))) λh1 h2=>?_;simp only [Option.some_or,hrc _ h1,hrc _ h2]
  |none=>
   simp only [Option.none_or];cases e2:(iI l r A B []).find? (λw=>bk (aH.getD i []) (bJ w.1)) with
   |some w=>
    refine fY (hw w (.inr (Ni e2))) λh1 h2=>?_;simp only [hrc _ h1,hrc _ h2]
   |none=>
    exact tL hi hrc B (A++[.bin false l r]) (λq hq=>by rw [d5,AZ] at hq;exact hq.elim (hA q) λh=>hB q (by refine rA (b6 _ _) ?_;rw [b6,gx,DN] at h;simp [h])) hB'
theorem KA(hi:i<5):∀ (k:Nat) (G:List Fm),P6 G→prM (ET.getD i []) k G=pr (aH.getD i []) k G
 |0,_,_=>rfl
 |k+1,G,h=>by
  refine (?_:(two (fK G)||WG (ET.getD i []) (prM (ET.getD i []) k) [] (fK G))=(two (fK G)||xI (aH.getD i []) (pr (aH.getD i []) k) [] (fK G)));exact rA (tL hi (λG hG=>KA hi k G hG) (fK G) [] (λp hp=>by simp [bJ] at hp) (λp hp=>h p (by rw [rG] at hp;exact hp))) rfl
theorem yU:∀ (F:Fm) (n:Nat),(gr F n).2.length+1=F.pl.length
 | .at _,_=>rfl
 | .bin p l r,n=>by
  have h1:=yU l n;have h2:=yU r (n+(gr l n).2.length);simp only [Ag,Fm.pl,be,Bb,EQ];lia
theorem kK:∀ (G:List Fm) (n:Nat),(eH G n).length+G.length=(bJ G).length
 | [],_=>rfl
 |F::G,n=>by
  have h1:=yU F n;have h2:=kK G (n+(gr F n).2.length);simp only [sn,b6,be,Bb];lia
theorem HL:((zd 5).all λi=>(zd 6).all λn=>(start (aH.getD i []) n).all λx=>decide (x<16))=true:=by decide+kernel
noncomputable def Pg(r N:Nat):Bool:=(zd 5).all λi=>(enG r 0 6).all λG=>xS N (f9 (start (aH.getD i []) (6-r))) G==prM (ET.getD i []) 12 G
theorem am6:Pg 1 11=true:=by decide+kernel
theorem al7:Pg 2 10=true:=by decide+kernel
theorem aj5:Pg 3 9=true:=by decide+kernel
theorem VJ{G:List Fm}(hi:i<5)(hp:bJ G=F7 0 6)(h1:1≤G.length)(h3:G.length≤3):trees (aH.getD i []) G=pr (aH.getD i []) 12 G:=by
 have hl:=kK G 0;rw [hp,L3] at hl
 have hn:(eH G 0).length=6-G.length:=by lia
 have hs:∀x∈start (aH.getD i []) (eH G 0).length,x<16:=by
  have:=Bi.mp (Bi.mp HL i (D5.mpr hi)) (eH G 0).length (D5.mpr (by lia))
  intro x hx
  simpa using Bi.mp this x hx
 have h6:P6 G:= λp h=>by rw [hp,P4] at h;lia
 refine rA (HR hs) ?_;refine rB (KA hi 12 G h6) ?_;refine rA hn ?_;have hm:=BY G 0 6 hp (DW _);have key:Pg G.length (6+(6-G.length))=true:=by
  have:G.length=1∨G.length=2∨G.length=3:=by lia
  rcases this with q|q|q
  ·refine rA q ?_;exact am6
  ·refine rA q ?_;exact al7
  ·refine rA q ?_;exact aj5
 have:=Bi.mp (Bi.mp key i (D5.mpr hi)) G hm
 simpa using this
theorem pt{k:Int}(h0:0≤k)(h1:k≤n):clipAt n k=k.toNat:=by
 unfold clipAt;refine rA (if_neg (by lia)) ?_
 congr 1;lia
theorem pc{X:Type}(xs:List X)(h:k≤xs.length):fA xs none (some (k:Int))=xs.take k:=by
 simp only [fA,SB,pt (n:=xs.length) (k:=k) (by lia) (by lia),Fd,Sk,RK]
theorem B4{X:Type}(xs:List X)(h:k≤xs.length):fA xs (some (k:Int)) none=xs.drop k:=by
 simp only [fA,SB,pt (n:=xs.length) (k:=k) (by lia) (by lia),Fd];exact F9 (by simp)
theorem Iu{X:Type}(xs:List X){a:Nat}(hab:a≤b)(h:b≤xs.length):fA xs (some (a:Int)) (some (b:Int))=(xs.drop a).take (b-a):=by
 simp only [fA,SB,pt (n:=xs.length) (k:=a) (by lia) (by lia),pt (n:=xs.length) (k:=b) (by lia) (by lia),Fd]
theorem fc{p q:PF}{lo hi:Option Int}(hf:f ρ μ=some (.d (.list xs),μ))(hp:p ρ μ=some (lo,μ))(hq:q ρ μ=some (hi,μ))(hz:xs.length≤sizeLine):ce f p q ρ μ=some (.d (.list (fA xs lo hi)),μ):=by
 exact (b5 hf).trans ((b5 hp).trans ((b5 hq).trans ((e_ (rfl:mn (.d (.list xs))=none)).trans ((e_ (rfl:Ke (.d (.list xs))=none)).trans ((bU (rfl:da μ (.d (.list xs))=some xs)).trans (if_pos hz))))))
theorem jP{x:Int}(hf:f ρ μ=some (.d (.int x),μ))(hg:g ρ μ=some (.d (.int y),μ)):aj f g (aR λx y=>some (x-y)) ρ μ=some (.d (.int (x-y)),μ):=cY hf hg rfl
theorem lk{b:Bool}(e:t ρ μ=some (b,μ))(ht:b=true→f ρ μ=some (V,μ))(hf:b=false→g ρ μ=some (V,μ)):dx t f g ρ μ=some (V,μ):=by
 cases b with
 |true=>refine rA (xa e) ?_;exact ht rfl
 |false=>refine rA (sI e) ?_;exact hf rfl
inductive Tr where
 |at (i:Nat)
 |nd (t:Nat) (l r:Tr)
noncomputable def Tr.code:Tr→List Int
 | .at i=>[(i:Int)]
 | .nd t l r=>(-1-(t:Int))::(l.code++r.code)
noncomputable def Tr.pl:Tr→List Nat
 | .at i=>[i]
 | .nd _ l r=>l.pl++r.pl
noncomputable def Tr.ok(n:Nat):Tr→Prop
 | .at i=>i<6
 | .nd t l r=>t<n∧l.ok n∧r.ok n
theorem Tr.ok.up:∀ {T:Tr},T.ok n→T.ok (n+1)
 | .at _,h=>h
 | .nd _ _ _,h=>(fm (P3 h.1) h.2.1.up h.2.2.up)
noncomputable def Tr.sz:Tr→Nat
 | .at _=>1
 | .nd _ l r=>l.sz+r.sz+1
theorem Tr.code_len:∀T:Tr,T.code.length+1=2*T.pl.length
 | .at _=>rfl
 | .nd _ l r=>by
  have:=l.code_len;have:=r.code_len
  simp only [Tr.code,Tr.pl,Bb,be];lia
noncomputable def gI(F:List Tr):List PyData:=F.map λT=>.list (iL T.code)
noncomputable def le(F:List Tr):List Nat:=F.flatMap Tr.pl
noncomputable def sC(C m ro pa:PyData)(T:Int)(j:Nat)(a b c d:Option AV):d0:=[some (.d C),some (.d (.int T)),some (.d m),some (.d ro),some (.d pa),some (.c j),a,b,c,d]
theorem TK{l:List Int}(h:k<l.length):(iL l)[k]? =some (.int (l.getD k 0)):=by
 simp [iL,Fh h]
theorem lK{l:List Int}(hf:f ρ μ=some (V,μ))(hs:uR μ V=some (iL l))(hg:g ρ μ=some (.d (.int k),μ))(h:k<l.length)(hz:l.length≤1000):aF f g ρ μ=some (.d (.int (l.getD k 0)),μ):=
 cF hf hg hs (by lia) (by refine rA (Fd _) ?_;exact TK h) (by refine rA (xJ _) ?_;exact aa (by lia))
theorem Zk(k:Int)(fP:PyData→PyData)(hf:∀ (n x:Int),∃y:Int,fP (.tuple [.int n,.int x])=.int y)(pP:PyData→Bool)(hp:∀ (n:Nat) (x:Int),pP (.tuple [.int n,.int x])= !((n:Int)==k)):
  ∀ (ps:List Int) (j:Nat),∃ps',((cL j (iL ps)).filter pP).map fP=iL ps'∧(((j:Int)≤k∧k<j+ps.length)→ps'.length+1=ps.length)∧(¬((j:Int)≤k∧k<j+ps.length)→ps'.length=ps.length)
 | [],j=>(cJ ([]) rfl (λh=>by simp at h;omega) (λzz=>rfl))
 |x::ps,j=>by
  refine cm (Zk k fP hf pP hp ps (j+1)) λps' e h1 h2=>?_;refine bP (hf j x) λy ey=>?_;have hc:cL j (iL (x::ps))=.tuple [.int j,.int x]::cL (j+1) (iL ps):=rfl;refine rA hc ?_;refine rA Ko ?_;refine rA (hp _ _) ?_
  by_cases q:(j:Int)=k
  ·refine (cJ ps' ?_ (λzz=>?_) (λh=>absurd ⟨by omega,by simp only [Bb];omega⟩ h))
   ·have:((j:Int)==k)=true:=by simpa using q
    refine rA this ?_;exact e
   ·refine rA (h2 (by omega)) ?_;exact rA Bb rfl
  ·refine (cJ (y::ps') ?_ (λh=>?_) (λh=>?_))
   ·have:((j:Int)==k)=false:=by simpa using q
    refine rA this ?_;simp only [Ux,if_true,EV,e,ey]
   ·simp only [Bb] at h⊢
    exact rA (h1 (by omega)) rfl
   ·simp only [Bb] at h⊢
    exact rA (h2 (by omega)) rfl
abbrev Q5:SF:=(c6 7 (aj (aF (a9 0) (a9 6)) (aj (af [(a9 3)] dD) (kI 1) (aR λx y=>some (x-y))) (aR co)))
abbrev Q0:SF:=(ci (ef (a9 5) (dx (bA (aF (a9 4) (a9 7)) (aF (a9 4) (aj (a9 7) (kI 1) aT)) dH) (kI 274) (kI 272))))
abbrev PL:SF:=(c6 4 (cb oa (b_ [(a9 4)] f_) (ji 10 11) (cW (bA (a9 10) (a9 7) oY) (aY (dx (bA (a9 11) (aF (a9 4) (aj (a9 7) (kI 1) aT)) dH) (aF (a9 4) (a9 7)) (a9 11))))))
abbrev Sm:SF:=(c6 3 (aj (aj (ce (a9 3) ba (aL (a9 7))) (aU [(aj (aj (aU [(aj (jk (kI 1)) (a9 6) (aR λx y=>some (x-y)))]) (aF (a9 3) (a9 7)) aT) (aF (a9 3) (aj (a9 7) (kI 1) aT)) aT)]) aT) (ce (a9 3) (aL (aj (a9 7) (kI 2) aT)) ba) aT))
abbrev IJ:SF:=(ap Q5 (ap Q0 (ap PL (ap Sm aP))))
noncomputable def Zy(a b:Int):PyData→PyData
 | .tuple [_,.int y]=>.int (if y=b then a else y)
 |y=>y
noncomputable def XW(k:Int):PyData→Bool
 | .tuple [.int n,_]=>!(n==k)
 |_=>false
noncomputable def yu:Int→Prop:= λx=>x=272∨x=274
theorem T5{M:PyData}{T:Int}{t:Nat}{F:List Tr}{ps:List Int}{b c d:Option AV}(hc:cs.length=6)(ht:t<6)(hF:2≤F.length)(h6:F.length≤6)(hps:ps.length=F.length)(hK:K.length≤10)
  (hpl:le F=F7 0 6) (hok:∀x∈F,x.ok t) (hj:μ[j]? =some (.live (iL K))):
  ∃F' ps' x k,IJ (sC (.list (iL cs)) M (.list (gI F)) (.list (iL ps)) T j (some (.d (.int t))) b c d) μ=some (.next,sC (.list (iL cs)) M (.list (gI F')) (.list (iL ps')) T j (some (.d (.int t))) (some (.d (.int k))) c d,μ.set j (.live (iL (K++[x]))))∧
   F'.length+1=F.length∧ps'.length=F'.length∧le F'=F7 0 6∧(∀x∈F',x.ok (t+1))∧yu x:=by
 have hz:(gI F).length≤sizeLine:=by rw [gI];refine rA (xJ _) ?_;exact aa (by lia)
 have hrl:(gI F).length=F.length:=by rw [gI];exact rA (xJ _) rfl
 
 have hm0:0≤(cs.getD t 0).fmod ((F.length:Int)-1):=Fa _ (by lia);have hm1:(cs.getD t 0).fmod ((F.length:Int)-1)< (F.length:Int)-1:=HC _ (by lia);refine eC λGG kG=>?_;refine bP (L2 hm0) λk hk=>?_;have hkF:k+1<F.length:=by lia
 obtain ⟨A,l,r,B,rfl,hA⟩:∃A l r B,F=A++l::r::B∧A.length=k:=by
  refine (NZ (F.take k) (F[k]) (F[k+1]) (F.drop (k+2)) ?_ (by refine rA LG ?_;lia));refine rA (Rs _) ?_;refine rA (Rs _) ?_;exact rA (LM _ _) rfl
 refine kG ?_;have hlen:(A++l::r::B).length=A.length+B.length+2:=by simp only [be,Bb];lia
 generalize hFF:A++l::r::B=F at*
 let ρ0:=sC (.list (iL cs)) M (.list (gI F)) (.list (iL ps)) T j (some (.d (.int t))) b c d
 let ρ1:=sC (.list (iL cs)) M (.list (gI F)) (.list (iL ps)) T j (some (.d (.int t))) (some (.d (.int k))) c d
 have e0:Q5 ρ0 μ=some (.next,ρ1,μ):=by
  refine (bO (cY (lK (f:=a9 0) (g:=a9 6) (V:=.d (.list (iL cs))) (k:=t) rfl rfl rfl (by lia) (by lia)) (jP (gF (f:=a9 3) (xs:=gI F) rfl rfl hz) rfl) (fj (by lia)))).trans ?_;refine rA hrl ?_;refine rA hk ?_;rfl
 
 have ei:∀μ,aF (a9 4) (a9 7) ρ1 μ=some (.d (.int (ps.getD k 0)),μ):= λμ=>lK (V:=.d (.list (iL ps))) rfl rfl rfl (by lia) (by lia);have ei1:∀μ,aF (a9 4) (aj (a9 7) (kI 1) aT) ρ1 μ=some (.d (.int (ps.getD (k+1) 0)),μ):= λμ=>lK (V:=.d (.list (iL ps))) rfl rfl (cR (x:=k) (y:=1) rfl rfl) (by lia) (by lia)
 let x:Int:=if ps.getD k 0=ps.getD (k+1) 0 then 274 else 272
 have ex:dx (bA (aF (a9 4) (a9 7)) (aF (a9 4) (aj (a9 7) (kI 1) aT)) dH) (kI 274) (kI 272) ρ1 μ=some (.d (.int x),μ):=by
  refine lk (o4 (ei μ) (ei1 μ)) (λh=>?_) (λh=>?_)
  ·show _=some (AV.d (.int (if _ then _ else _)),μ)
   refine rA (if_pos (by simpa using h)) ?_;rfl
  ·show _=some (AV.d (.int (if _ then _ else _)),μ)
   refine rA (if_neg (by simpa using h)) ?_;rfl
 have e1:Q0 ρ1 μ=some (.next,ρ1,μ.set j (.live (iL (K++[x])))):=by
  refine (eA (gk (j:=j) rfl ex hj (by refine rA (xJ _) ?_;exact aa (by lia)))).trans ?_;exact rA (show iL K++[EW x]=iL (K++[x]) by simp) rfl
 generalize hμ:μ.set j (.live (iL (K++[x])))=μ1 at e1⊢
 
 refine cm (Zk (k:Int) (Zy (ps.getD k 0) (ps.getD (k+1) 0)) (λn y=>⟨_,rfl⟩) (XW k) (λn y=>rfl) ps 0) λps' eps hp1 zz=>?_;have hpl':=hp1 (by lia)
 let ρ2:=sC (.list (iL cs)) M (.list (gI F)) (.list (iL ps')) T j (some (.d (.int t))) (some (.d (.int k))) c d
 have e2:PL ρ1 μ1=some (.next,ρ2,μ1):=by
  have hcm:=q_ (sc:=oa) (t:=bA (a9 10) (a9 7) oY) (e:=dx (bA (a9 11) (aF (a9 4) (aj (a9 7) (kI 1) aT)) dH) (aF (a9 4) (a9 7)) (a9 11)) (ρ:=ρ1) (μ:=μ1) 10 11 (by decide) (XW k) (Zy (ps.getD k 0) (ps.getD (k+1) 0))
   (jU (f:=a9 4) (V:=.d (.list (iL ps))) (xs:=iL ps) rfl rfl) (az _ _) (λy hy=>by
    refine eC λGG kG=>?_;refine lC (lS ps 0 hy) λn o zq2=>?_;subst zq2;refine kG ?_;refine (dw (.int n) (.int o) rfl (neI (x:=n) (y:=k) rfl rfl) (λzz=>?_));have q1:aF (a9 4) (a9 7) (((bG oa ρ1).set 10 (some (.d (.int n)))).set 11 (some (.d (.int o)))) μ1=some (.d (.int (ps.getD k 0)),μ1):=lK (V:=.d (.list (iL ps))) rfl rfl rfl (by lia) (by lia);have q2:aF (a9 4) (aj (a9 7) (kI 1) aT) (((bG oa ρ1).set 10 (some (.d (.int n)))).set 11 (some (.d (.int o)))) μ1=some (.d (.int (ps.getD (k+1) 0)),μ1):=lK (V:=.d (.list (iL ps))) rfl rfl (cR (x:=k) (y:=1) rfl rfl) (by lia) (by lia);refine lk (o4 (x:=o) rfl q2) (λh=>?_) (λh=>?_)
    ·show _=some (AV.d (.int (if _ then _ else _)),μ1)
     refine rA (if_pos (by simpa using h)) ?_;exact q1
    ·show _=some (AV.d (.int (if _ then _ else _)),μ1)
     refine rA (if_neg (by simpa using h)) ?_;rfl) (by refine rA (ik _ _) ?_;refine rA (xJ _) ?_;exact aa (by lia))
  refine (bO (bY hcm)).trans ?_;refine rA eps ?_;rfl
 
 let F':=A++.nd t l r::B
 let ρ3:=sC (.list (iL cs)) M (.list (gI F')) (.list (iL ps')) T j (some (.d (.int t))) (some (.d (.int k))) c d
 have hg:∀ (i:Nat) (T:Tr),F[i]? =some T→(gI F)[i]? =some (.list (iL T.code)):= λi T h=>by rw [gI,FS];refine rA h ?_;rfl
 have gl:F[k]? =some l:=by refine rB hFF ?_;refine rB hA ?_;simp
 have gr':F[k+1]? =some r:=by refine rB hFF ?_;refine rB hA ?_;simp
 have pll:le F=le A++(l.pl++(r.pl++le B)):=by refine rB hFF ?_;simp [le]
 have plen:=congrArg NM hpl;rw [pll] at plen
 simp only [be,L3] at plen
 have cl:=l.code_len;have cr:=r.code_len;have e3:Sm ρ2 μ1=some (.next,ρ3,μ1):=by
  have q1:ce (a9 3) ba (aL (a9 7)) ρ2 μ1=some (.d (.list (gI A)),μ1):=by
   refine (fc (f:=a9 3) (xs:=gI F) (lo:=none) (hi:=some (k:Int)) rfl rfl (dA rfl) hz).trans ?_;refine rA (pc _ (by lia)) ?_;rw [gI];refine rB Rc ?_;refine rB hFF ?_;refine rB hA ?_;refine rA P8 ?_;rfl
  have q2:aF (a9 3) (a9 7) ρ2 μ1=some (.d (.list (iL l.code)),μ1):=cF (f:=a9 3) (g:=a9 7) (V:=.d (.list (gI F))) (k:=(k:Int)) rfl rfl rfl (by lia) (by refine rA (Fd _) ?_;exact hg k l gl) hz;have q3:aF (a9 3) (aj (a9 7) (kI 1) aT) ρ2 μ1=some (.d (.list (iL r.code)),μ1):=cF (f:=a9 3) (V:=.d (.list (gI F))) (k:=(k:Int)+1) rfl (cR (x:=k) (y:=1) rfl rfl) rfl (by lia) (by refine rA (show ((k:Int)+1).toNat=k+1 by lia) ?_;exact hg (k+1) r gr') hz;have q4:ce (a9 3) (aL (aj (a9 7) (kI 2) aT)) ba ρ2 μ1=some (.d (.list (gI B)),μ1):=by
   refine (fc (f:=a9 3) (xs:=gI F) (lo:=some ((k+2:Nat):Int)) (hi:=none) rfl (dA (cR (x:=k) (y:=2) rfl rfl)) rfl hz).trans ?_;refine rA (B4 _ (by lia)) ?_;rw [gI];refine rB T9 ?_;refine rB hFF ?_;refine rB hA ?_
   have:(A++l::r::B).drop (A.length+2)=B:=by refine rA NG ?_;simp
   refine rA this ?_;rfl
  have q5:aU [(aj (jk (kI 1)) (a9 6) (aR λx y=>some (x-y)))] ρ2 μ1=some (.d (.list (iL [-1-(t:Int)])),μ1):=kr (jP (f:=jk (kI 1)) (g:=a9 6) (x:= -1) (y:=t) rfl rfl);have q6:=cS (cS q5 q2 (xs:=iL [-1-(t:Int)]) (ys:=iL l.code) rfl rfl (aa (by simp only [xJ,Bb,EQ];lia))) q3 (xs:=iL [-1-(t:Int)]++iL l.code) (ys:=iL r.code) rfl rfl (aa (by simp only [be,xJ,Bb,EQ];lia));have q7:=cS (cS q1 (kr q6) (xs:=gI A) rfl rfl (aa (by simp only [gI,xJ,Bb,EQ];lia))) q4 rfl (ys:=gI B) rfl (aa (by simp only [gI,be,xJ,Bb,EQ];lia));refine (bO q7).trans ?_
  have:gI A++[O1 (iL [-1-(t:Int)]++iL l.code++iL r.code)]++gI B=gI F':=by
   simp [F',gI,Tr.code]
  refine rA this ?_;rfl
 have hF'pl:le F'=le A++((l.pl++r.pl)++le B):=by simp [F',le,Tr.pl]
 refine (oy F' ps' x k ((aB e0).trans ((aB e1).trans ((aB e2).trans ((aB e3).trans (bK.trans (by exact rA hμ rfl)))))) (by simp only [F',be,Bb];lia) (by simp only [F',be,Bb];lia) ?_ ?_ ?_)
 ·refine rA hF'pl ?_;refine rB hpl ?_;refine rA pll ?_;simp
 ·intro y hy
  simp only [F',AZ,C1] at hy
  rcases hy with q|q|q
  ·exact (hok y (by refine rB hFF ?_;simp [q])).up
  ·subst q
   exact (fm (Rf t) ((hok l (by refine rB hFF ?_;simp)).up) ((hok r (by refine rB hFF ?_;simp)).up))
  ·exact (hok y (by refine rB hFF ?_;simp [q])).up
 ·show (if _ then (274:Int) else 272)=272∨(if _ then (274:Int) else 272)=274
  split
  ·exact .inr rfl
  ·exact .inl rfl
theorem p8{itf2:IF}{e:EF}{g:Option Nat}(i j:Nat)(hij:i≠j)(p:PyData→Bool)(ys:PyData→List PyData)(v:PyData→PyData→PyData)(hi:itf ρ μ=some (xs,g,μ1))(hg:cu g xs μ1)
  (ht:∀x∈xs,∀w,t (((bG sc ρ).set i (some (.d x))).set j w) μ1=some (p x,μ1))
  (h2:∀x∈xs,p x=true→∀w,itf2 (((bG sc ρ).set i (some (.d x))).set j w) μ1=some (ys x,none,μ1))
  (h3:∀x∈xs,p x=true→∀y∈ys x,e (((bG sc ρ).set i (some (.d x))).set j (some (.d y))) μ1=some (.d (v x y),μ1))
  (hz:(xs.flatMap λx=>if p x then (ys x).map (v x) else []).length≤sizeLine):
  eX sc itf (du i) (cW t (gf itf2 (du j) (cW bg (aY e)))) ρ μ=some (xs.flatMap λx=>if p x then (ys x).map (v x) else [],μ1):=by
 refine wV hi hg (λσ=>∃u w,σ=((bG sc ρ).set i u).set j w) (λx=>if p x then (ys x).map (v x) else []) (jK ((bG sc ρ)[i]?.join) ((bG sc ρ)[j]?.join) ?_) (λx hx σ hσ acc hacc=>?_) hz
 ·apply Tt
  intro k;simp only [Qn,Lr]
  split
  ·rename_i h;subst h
   split
   ·rename_i h;simp [Fh h]
   ·rename_i h;simp [Pe (LF h)]
  ·split
   ·rename_i h;subst h
    split
    ·rename_i h;simp [Fh h]
    ·rename_i h;simp [Pe (LF h)]
   ·rfl
 ·refine lC hσ λu w zq2=>?_
  subst zq2;have es:(((bG sc ρ).set i u).set j w).set i (some (.d x))=((bG sc ρ).set i (some (.d x))).set j w:=by
   refine rA (R1 _ _ (Mv hij)) ?_;exact rA (Hb _) rfl
  refine ⟨((bG sc ρ).set i (some (.d x))).set j w,?_⟩;cases hp:p x with
  |false=>
   refine (AC (((bG sc ρ).set i (some (.d x))).set j w) ?_ ?_ _ _ rfl)
   ·show some _=some _;exact rA es rfl
   ·refine (ae5 ((ht x hx w).trans (by rw [hp]))).trans ?_
    simp
  |true=>
   rw [hp] at hacc
   simp only [if_true,xJ] at hacc
   obtain ⟨ρ',⟨w',hw⟩,hf⟩:=nQ (tf:=du j) (cf:=cW bg (aY e)) (μ:=μ1) (xs:=ys x) (g:=none) (az _ _) (λσ=>∃w,σ=((bG sc ρ).set i (some (.d x))).set j w) (λy=>[v x y]) (ys x) _ acc ⟨w,rfl⟩ (λy hy σ hσ acc hacc=>by
    refine bP hσ λw zq1=>?_;subst zq1;refine (BW (((bG sc ρ).set i (some (.d x))).set j (some (.d y))) _ ?_ (pe (h3 x hx hp y hy) acc hacc) _ rfl)
    show some _=some _
    exact rA (Hb _) rfl) (by refine rA (fC _ _) ?_;refine rA (xJ _) ?_;exact hacc)
   rw [fC] at hf
   refine (AC ρ' ?_ ?_ _ w' hw)
   ·show some _=some _;exact rA es rfl
   ·exact (YI ((ht x hx w).trans (by rw [hp]))).trans ((xw (h2 x hx hp w)).trans hf)
theorem Gw{M:PyData}{T:Int}{μ0:List ah}(hj:j=μ0.length)(hc:cs.length=6)(xs:List PyData):∀ (n t:Nat) (F:List Tr) (ps K:List Int) (a b c d:Option AV),n+t≤5→F.length+t=6→ps.length=F.length→K.length=t→le F=F7 0 6→(∀x∈F,x.ok t)→(∀x∈K,yu x)→
  ∃F' ps' K' a' b',fS (du 6) IJ aP none xs (fI t n) (sC (.list (iL cs)) M (.list (gI F)) (.list (iL ps)) T j a b c d) (μ0++[.live (iL K)])=some (.next,sC (.list (iL cs)) M (.list (gI F')) (.list (iL ps')) T j a' b' c d,μ0++[.live (iL K')])∧
   F'.length+(n+t)=6∧K'.length=n+t∧le F'=F7 0 6∧(∀x∈F',x.ok (n+t))∧(∀x∈K',yu x)
 |0,t,F,ps,K,a,b,c,d,h,hF,hps,hK,hpl,hok,hkin=>(mq F ps K a b rfl (by lia) (by lia) hpl (by simpa using hok) hkin)
 |n+1,t,F,ps,K,a,b,c,d,h,hF,hps,hK,hpl,hok,hkin=>by
  refine eC λGG kG=>?_;refine oA (T5 (cs:=cs) (M:=M) (T:=T) (t:=t) (F:=F) (ps:=ps) (K:=K) (j:=j) (b:=b) (c:=c) (d:=d) (μ:=μ0++[.live (iL K)]) hc (by lia) (by lia) (by lia) hps (by lia) hpl hok (by subst hj;exact dp)) λF1 ps1 x k e h1 h2 h3 h4 h5=>?_;obtain ⟨F',ps',K',a',b',g,g1,g2,g3,g4,g5⟩:=Gw hj hc xs n (t+1) F1 ps1 (K++[x]) (some (.d (.int t))) (some (.d (.int k))) c d (by lia) (by lia) h2 (by simp [hK]) h3 h4 (λy hy=>by
   rcases AZ.mp hy with q|q
   ·exact hkin y q
   ·refine rA (Ab.mp q) ?_;exact h5)
  refine kG ?_;refine (mq F' ps' K' a' b' ?_ (by lia) (by lia) g3 (by refine rA (show n+1+t=n+(t+1) by lia) ?_;exact g4) g5);rw [show (μ0++[ah.live (iL K)]).set j (.live (iL (K++[x])))=μ0++[.live (iL (K++[x]))] by rw [hj];exact fh] at e
  exact LA (dQ (ρ1:=sC (.list (iL cs)) M (.list (gI F)) (.list (iL ps)) T j (some (.d (.int t))) b c d) rfl e (az _ _)) g
noncomputable def lb(K:List Int):Tr→Fm
 | .at i=>.at i
 | .nd t l r=>.bin (K.getD t 0==274) (lb K l) (lb K r)
theorem tn(K:List Int):∀T:Tr,(lb K T).pl=T.pl
 | .at _=>rfl
 | .nd _ l r=>by simp only [lb,Fm.pl,Tr.pl,tn K l,tn K r]
noncomputable def VI(K:List Int)(m:List Nat):PyData→PyData
 | .int s=>.int (if s<0 then K.getD (-1-s).toNat 0 else if (m.getD s.toNat 0:Int)>s then 7 else 8)
 |x=>x
theorem r7(K:List Int)(m:List Nat)(hK:∀x∈K,yu x):∀T:Tr,T.ok K.length→(iL T.code).map (VI K m)=iL ((lb K T).pre m)
 | .at i,_=>by
  refine (?_:[EW (if (i:Int)<0 then K.getD (-1-(i:Int)).toNat 0 else if (m.getD (i:Int).toNat 0:Int)>(i:Int) then 7 else 8)]=[EW (if i<m.getD i 0 then 7 else 8)]);refine rA (if_neg (by lia)) ?_;refine rA (Fd _) ?_
  by_cases q:i<m.getD i 0
  ·refine rA (if_pos q) ?_;exact rA (if_pos (by lia)) rfl
  ·refine rA (if_neg q) ?_;exact rA (if_neg (by lia)) rfl
 | .nd t l r,h=>by
  refine dU h λh1 h2 h3=>?_;have ek:K.getD t 0=if (K.getD t 0==274)=true then 274 else 272:=by
   have:yu (K.getD t 0):=by
    rw [LD,Fh h1];exact hK _ (U1 h1)
   rcases this with q|q<;>rw [q]<;>rfl
  simp only [Tr.code,EV,IQ,lb,Fm.pre,r7 K m hK l h2,r7 K m hK r h3]
  congr 1
  refine (?_:EW (if (-1-(t:Int))<0 then K.getD (-1-(-1-(t:Int))).toNat 0 else _)=_);refine rA (if_pos (by lia)) ?_;refine rA (show (-1-(-1-(t:Int))).toNat=t by lia) ?_;exact congrArg EW ek
noncomputable def g7(T:Int):Nat:=([5,5,4,3]:List Nat).getD ((T.fdiv 25).fmod 4).toNat 0
theorem mh(T:Int):3≤g7 T∧g7 T≤5:=by
 have h0:0≤(T.fdiv 25).fmod 4:=Fa _ (by decide);have h1:(T.fdiv 25).fmod 4<4:=HC _ (by decide);unfold g7;generalize (T.fdiv 25).fmod 4=x at*
 have:x=0∨x=1∨x=2∨x=3:=by lia
 rcases this with rfl|rfl|rfl|rfl<;>decide
theorem jr{T:Int}(a b:Int)(ha:¬(a=0∨2^64≤a.natAbs))(hb:b≠0)(hf:f ρ μ=some (.d (.int T),μ))(hg:g ρ μ=some (.d (.int b),μ)):aj (aj f (kI a) (aR cN)) g (aR co) ρ μ=some (.d (.int ((T.fdiv a).fmod b)),μ):=
 cY (cY hf (rfl:kI a _ _=some (.d (.int a),_)) (kL ha)) hg (fj hb)
theorem Ht{T:Int}(h1:a9 1 ρ μ=some (.d (.int T),μ)):aF (aU [(kI 5),(kI 5),(kI 4),(kI 3)]) (aj (aj (a9 1) (kI 25) (aR cN)) (kI 4) (aR co)) ρ μ=some (.d (.int (g7 T)),μ):=by
 have h0:0≤(T.fdiv 25).fmod 4:=Fa _ (by decide);have h4:(T.fdiv 25).fmod 4<4:=HC _ (by decide);refine cF (V:=.d (.list [.int 5,.int 5,.int 4,.int 3])) (dF (ds:=[.int 5,.int 5,.int 4,.int 3]) rfl (aa (xF rfl))) (jr 25 4 (by decide) (by decide) h1 rfl) rfl h0 ?_ (aa (xF rfl));unfold g7;generalize (T.fdiv 25).fmod 4=x at*
 have:x=0∨x=1∨x=2∨x=3:=by lia
 rcases this with rfl|rfl|rfl|rfl<;>rfl
theorem uq{x:Int}(hK:∀x∈K,yu x)(hx:yu x):∀y∈K.set i x,yu y:=by
 intro y hy
 rcases List.mem_or_eq_of_mem_set hy with q|q
 ·exact hK y q
 ·refine rA q ?_;exact hx
theorem tu(hK:∀x∈K,yu x)(hi:i<K.length):yu (K.getD i 0):=by
 rw [LD,Fh hi];exact hK _ (U1 hi)
theorem UD(K:List Int)(i:Nat)(x:Int):(iL K).set i (.int x)=iL (K.set i x):=by simp [iL,List.map_set]
theorem uA{x:Int}(hf:fo ρ μ=some (.c j,μ))(hg:fi ρ μ=some (.d (.int k),μ))(hc:μ[j]? =some (.live (iL K)))(hk:k<K.length)(hz:K.length≤1000):wG fo fi (.int x) ρ μ=some (μ.set j (.live (iL (K.set k x)))):=by
 refine (b5 hf).trans ((bU (rfl:EX (.c j)=some j)).trans ((b5 hg).trans ((bU (rfl:jI (.d (.int k))=some (k:Int))).trans ((bU (show μ[j]?.bind liC=some (iL K) by rw [hc];rfl)).trans ((if_pos (fm (by lia) (by rw [xJ];lia) (by rw [p63];lia))).trans ?_)))));rw [Fd,UD]
theorem O3{fv fo' fi':EF}{a b:PyData}(h:fv ρ μ=some (.d (.tuple [a,b]),μ1))(h1:wG fo fi a ρ μ1=some μ2)(h2:wG fo' fi' b ρ μ2=some μ3):Hi fv fo fi fo' fi' ρ μ=some (.next,ρ,μ3):=by
 exact (b5 h).trans ((bU (rfl:Ke (.d (.tuple [a,b]))=some _)).trans ((b5 (rfl:l2 [a,b]=some (a,b))).trans ((bU h1).trans (bU h2))))
theorem MU{fv:EF}{a:PyData}(h:fv ρ μ=some (.d a,μ1))(h1:wG fo fi a ρ μ1=some μ2):Ua fv fo fi ρ μ=some (.next,ρ,μ2):=by
 exact (b5 h).trans ((bU (rfl:v7 (.d a)=some a)).trans (bU h1))
theorem HJ(hk:f ρ μ=some (.c j,μ))(hc:μ[j]? =some (.live (iL K)))(hz:K.length≤1000):af [f] dD ρ μ=some (.d (.int K.length),μ):=by
 have:=gF hk (xs:=iL K) (uh hc) (by refine rA (xJ _) ?_;exact aa (by lia))
 refine rA this ?_;exact rA (xJ _) rfl
theorem yH(hf:f ρ μ=some (V,μ))(hs:uR μ V=some (nL m))(hg:g ρ μ=some (.d (.int k),μ))(h:k<m.length)(hz:m.length≤1000):aF f g ρ μ=some (.d (.int (m.getD k 0:Nat)),μ):=
 cF hf hg hs (by lia) (by refine rA (Fd _) ?_;exact tU h) (by rw [nL];refine rA (xJ _) ?_;exact aa (by lia))
theorem UL:fI 0 6=(zd 6).map λ(i:Nat)=>EW i:=rfl
theorem qm:∀ (T:Tr) (n:Nat),T.ok n→∀y∈T.code,(0≤y∧y<6)∨(y<0∧(-1-y).toNat<n)
 | .at i,n,h,y,hy=>by
  have h:i<6:=h;simp only [Tr.code,Ab] at hy
  subst hy;exact .inl ⟨by lia,by lia⟩
 | .nd t l r,n,h,y,hy=>by
  refine dU h λh1 h2 h3=>?_;simp only [Tr.code,C1,AZ] at hy
  rcases hy with q|q|q
  ·subst q;exact .inr ⟨by lia,by lia⟩
  ·exact qm l n h2 y q
  ·exact qm r n h3 y q
theorem pw:∀F:List Tr,(F.flatMap λT=>T.code).length≤2*(le F).length
 | []=>by simp [le]
 |T::F=>by
  have:=pw F
  have h:=T.code_len;simp only [le,Fe,be] at this⊢
  lia
theorem mP(K:List Int)(m:List Nat)(hK:∀x∈K,yu x):∀F:List Tr,(∀T∈F,T.ok K.length)→(gI F).flatMap (λx=>if true then ((match x with| .list l=>l|_=>[]):List PyData).map (VI K m) else [])=iL ((F.map (lb K)).flatMap λF=>F.pre m)
 | [],_=>rfl
 |T::F,h=>by
  have ih:=mP K m hK F λx hx=>h x (by simp [hx]);simp only [gI,EV,Fe,if_true] at ih⊢
  rw [ih,r7 K m hK T (h T (by simp)),lq]
theorem GA{C ps:PyData}{T:Int}{F:List Tr}{K2:List Int}{a b c d:Option AV}(hm:m.length=6)(hK2:∀x∈K2,yu x)(hok:∀T∈F,T.ok K2.length)(hkl:K2.length≤10)(hpl:(iL ((F.map (lb K2)).flatMap λF=>F.pre m)).length≤12):
  AD (sC C (.list (nL m)) (.list (gI F)) ps T μ.length a b c d) (μ++[.live (iL K2)])=some (.ret (.d (.list (iL ((F.map (lb K2)).flatMap (λF=>F.pre m)++[0])))),sC C (.list (nL m)) (.list (gI F)) ps T μ.length a b c d,μ++[.live (iL K2)]):=by
 have hcell:(μ++[ah.live (iL K2)])[μ.length]? =some (.live (iL K2)):=dp;unfold AD;have hcm:=p8 (sc:=pC) (itf:=aK false (a9 3)) (itf2:=aK false (a9 10)) (t:=bg) (e:=(dx (bA (a9 11) (kI 0) (d_ λx y=>decide (x<y))) (aF (a9 5) (aj (jk (kI 1)) (a9 11) (aR λx y=>some (x-y)))) (dx (bA (aF (a9 2) (a9 11)) (a9 11) (d_ λx y=>decide (y<x))) (kI 7) (kI 8)))) (ρ:=(sC C (.list (nL m)) (.list (gI F)) ps T μ.length a b c d)) (μ:=μ++[.live (iL K2)]) (xs:=gI F) 10 11 (by decide) (λzz=>true) (λx=>match x with| .list l=>l|_=>[]) (λzz=>VI K2 m)
  (d7 (V:=.d (.list (gI F))) rfl rfl) (az _ _) (λzz zz zz=>rfl) (λx hx zz w=>by
   refine eC λGG kG=>?_;refine au (DT.mp hx) λT hT zq2=>?_;subst zq2;refine kG ?_;exact d7 (V:=.d (.list (iL T.code))) rfl rfl) (λx hx zz y hy=>by
   refine eC λGG kG=>?_;refine au (DT.mp hx) λT' hT zq2=>?_;subst zq2;refine au (DT.mp hy) λs hs zq2=>?_;subst zq2;refine kG ?_;have hb:=qm T' _ (hok T' hT) s hs;refine (?_:_=some (AV.d (.int (if s<0 then K2.getD (-1-s).toNat 0 else if (m.getD s.toNat 0:Int)>s then 7 else 8)),_));refine lk (ltI (x:=s) (y:=0) rfl rfl) (λh=>?_) (λh=>?_)
   ·have h:=of_decide_eq_true h
    refine rA (if_pos h) ?_;have hsub:aj (jk (kI 1)) (a9 11) (aR λx y=>some (x-y)) (((bG pC (sC C (.list (nL m)) (.list (gI F)) ps T μ.length a b c d)).set 10 (some (.d (.list (iL T'.code))))).set 11 (some (.d (.int s)))) (μ++[.live (iL K2)])=some (.d (.int ((-1-s).toNat:Nat)),μ++[.live (iL K2)]):=by
     refine rA (Lz (by lia)) ?_;exact jP (x:= -1) (y:=s) rfl rfl
    exact lK (f:=a9 5) (V:=.c μ.length) rfl (uh hcell) hsub (by lia) (by lia)
   ·have h:=of_decide_eq_false h
    refine rA (if_neg h) ?_;have hg:a9 11 (((bG pC (sC C (.list (nL m)) (.list (gI F)) ps T μ.length a b c d)).set 10 (some (.d (.list (iL T'.code))))).set 11 (some (.d (.int s)))) (μ++[.live (iL K2)])=some (.d (.int (s.toNat:Nat)),μ++[.live (iL K2)]):=by
     refine rA (Lz (by lia)) ?_;rfl
    have hmt:=yH (f:=a9 2) (V:=.d (.list (nL m))) (m:=m) rfl rfl hg (by lia) (by lia);refine lk (gtI (y:=s) hmt rfl) (λh=>?_) (λh=>?_)
    ·refine rA (if_pos (of_decide_eq_true h)) ?_;rfl
    ·refine rA (if_neg (of_decide_eq_false h)) ?_;rfl) (by
   refine rA (mP K2 m hK2 F hok) ?_;exact aa (by lia))
 rw [mP K2 m hK2 F hok] at hcm
 have:=cS (bY hcm) (kr (f:=kI 0) (d:=.int 0) rfl) rfl rfl (aa (by simp only [Gd];lia))
 refine (dY this).trans ?_;exact rA (show iL ((F.map (lb K2)).flatMap λF=>F.pre m)++[EW 0]=iL ((F.map (lb K2)).flatMap (λF=>F.pre m)++[0]) by rw [←lq];rfl) rfl
theorem s65{T:Int}(hc:cs.length=6)(hm:m.length=6):
  ∃G:List Fm,bJ G=F7 0 6∧G.length+g7 T=6∧gz [.d (.list (iL cs)),.d (.int T),.d (.list (nL m))] μ=some (.d (.list (iL (G.flatMap (λF=>F.pre m)++[0]))),μ):=by
 let M:PyData:=.list (nL m)
 let F0:List Tr:=(zd 6).map Tr.at
 let ps0:List Int:=(zd 6).map λ(i:Nat)=>if (m.getD i 0:Int)<i then (m.getD i 0:Int) else i
 let ρe:d0:=[some (.d (.list (iL cs))),some (.d (.int T)),some (.d M),none,none,none,none,none,none,none]
 let ρr:d0:=[some (.d (.list (iL cs))),some (.d (.int T)),some (.d M),some (.d (.list (gI F0))),none,none,none,none,none,none]
 let ρp:d0:=[some (.d (.list (iL cs))),some (.d (.int T)),some (.d M),some (.d (.list (gI F0))),some (.d (.list (iL ps0))),none,none,none,none,none]
 have e0:Bq ρe μ=some (.next,ρr,μ):=by
  unfold Bq
  have:=ip (xs:=fI 0 6) (g:=none) (sc:=zh) (e:=aU [a9 10]) (ρ:=ρe) (μ:=μ) 10 (λx=>.list [x]) (rfl:aK false (af [kI 6] cH) ρe μ=some (fI 0 6,none,μ)) (az _ _) (λx hx=>kr rfl) (aa (by decide))
  refine rA (ju this) ?_;have e:(fI 0 6).map (λx=>O1 [x])=gI F0:=by refine rA UL ?_;rfl
  refine rA e ?_;rfl
 have e1:C3 ρr μ=some (.next,ρp,μ):=by
  unfold C3
  have:=ip (xs:=fI 0 6) (g:=none) (sc:=y9) (e:=af [(a9 10),(aF (a9 2) (a9 10))] Ho) (ρ:=ρr) (μ:=μ) 10 (λ| .int x=>.int (if (m.getD x.toNat 0:Int)<x then (m.getD x.toNat 0:Int) else x)|x=>x) (rfl:aK false (af [kI 6] cH) ρr μ=some (fI 0 6,none,μ)) (az _ _) (λx hx=>by
   rw [UL] at hx
   refine eC λGG kG=>?_;refine au (DT.mp hx) λi hi zq2=>?_;subst zq2;refine kG ?_;have hi:=D5.mp hi;exact iM (V:=.d (.int i)) rfl (yH (V:=.d M) (k:=i) rfl rfl rfl (by lia) (by lia)) rfl) (aa (by decide))
  refine rA (bO (bY this)) ?_;have e:(fI 0 6).map (λ| .int x=>EW (if (m.getD x.toNat 0:Int)<x then (m.getD x.toNat 0:Int) else x)|x=>x)=iL ps0:=by
   refine rA UL ?_;refine rA ER ?_;simp only [ps0,iL,ER];rfl
  refine rA e ?_;rfl
 have e2:BH ρp μ=some (.next,sC (.list (iL cs)) M (.list (gI F0)) (.list (iL ps0)) T μ.length none none none none,μ++[.live (iL [])]):=by
  unfold BH;refine rA (bO vZ) ?_;rfl
 refine eC λGG kG=>?_;refine fY (mh T) λt3 t5=>?_;obtain ⟨F,ps,K,a,b,g,g1,g2,g3,g4,g5⟩:=Gw (cs:=cs) (M:=M) (T:=T) (μ0:=μ) rfl hc (fI 0 (g7 T)) (g7 T) 0 F0 ps0 [] none none none none (by lia) rfl rfl rfl (by decide) (by
  intro x hx;refine au (DT.mp hx) λi hi zq2=>?_;subst zq2;exact D5.mp hi) (by simp)
 refine kG ?_;simp only [TM] at g1 g2 g4
 let ρ3:=sC (.list (iL cs)) M (.list (gI F)) (.list (iL ps)) T μ.length a b none none
 have e3:BM (sC (.list (iL cs)) M (.list (gI F0)) (.list (iL ps0)) T μ.length none none none none) (μ++[.live (iL [])])=some (.next,ρ3,μ++[.live (iL K)]):=by
  unfold BM;have hi:aK false (af [(aF (aU [(kI 5),(kI 5),(kI 4),(kI 3)]) (aj (aj (a9 1) (kI 25) (aR cN)) (kI 4) (aR co)))] cH) (sC (.list (iL cs)) M (.list (gI F0)) (.list (iL ps0)) T μ.length none none none none) (μ++[.live (iL [])])=some (fI 0 (g7 T),none,μ++[.live (iL [])]):=by
   have hr:af [(aF (aU [(kI 5),(kI 5),(kI 4),(kI 3)]) (aj (aj (a9 1) (kI 25) (aR cN)) (kI 4) (aR co)))] cH (sC (.list (iL cs)) M (.list (gI F0)) (.list (iL ps0)) T μ.length none none none none) (μ++[.live (iL [])])=some (.rng 0 (g7 T),μ++[.live (iL [])]):=d4 (Ht rfl) rfl;have hs:∀n:Nat,n≤5→JB 0 n 1=true:=by
    intro n hn
    have:n=0∨n=1∨n=2∨n=3∨n=4∨n=5:=by lia
    rcases this with rfl|rfl|rfl|rfl|rfl|rfl<;>decide+kernel
   exact (nK hr (hs _ t5)).trans (by simp)
  refine rA (gJ hi) ?_;exact g
 let one:Nat:=((T.fdiv 100).fmod K.length).toNat
 let two:Nat:=((T.fdiv 500).fmod K.length).toNat
 have hKp:(K.length:Int)>0:=by lia
 have one_i:(T.fdiv 100).fmod K.length=(one:Int):=(Lz (Fa _ hKp)).symm;have two_i:(T.fdiv 500).fmod K.length=(two:Int):=(Lz (Fa _ hKp)).symm;have hone:one<K.length:=by have:=HC (T.fdiv 100) hKp;lia
 have htwo:two<K.length:=by have:=HC (T.fdiv 500) hKp;lia
 let ρ4:=sC (.list (iL cs)) M (.list (gI F)) (.list (iL ps)) T μ.length a b (some (.d (.int one))) (some (.d (.int two)))
 have hcell:∀K:List Int,(μ++[ah.live (iL K)])[μ.length]? =some (.live (iL K)):= λK=>dp;have hset:∀K K':List Int,(μ++[ah.live (iL K)]).set μ.length (.live (iL K'))=μ++[.live (iL K')]:= λK K'=>fh;have e4:BF ρ3 (μ++[.live (iL K)])=some (.next,ρ4,μ++[.live (iL K)]):=by
  unfold BF;have hl:af [a9 5] dD ρ3 (μ++[.live (iL K)])=some (.d (.int K.length),μ++[.live (iL K)]):=HJ rfl (hcell K) (by lia);have h1:=jr (f:=a9 1) (g:=af [a9 5] dD) (ρ:=ρ3) (T:=T) 100 K.length (by decide) (by lia) rfl hl;have h2:=jr (f:=a9 1) (g:=af [a9 5] dD) (ρ:=ρ3) (T:=T) 500 K.length (by decide) (by lia) rfl hl;rw [one_i] at h1
  rw [two_i] at h2
  have ht:=d8 (ds:=[.int one,.int two]) (an h1 (an h2 bX)) (aa (xF rfl));exact AO ht
 have iK:∀ (K:List Int) (k i:Nat),a9 i ρ4 (μ++[.live (iL K)])=some (.d (.int k),μ++[.live (iL K)])→k<K.length→K.length≤1000→aF (a9 5) (a9 i) ρ4 (μ++[.live (iL K)])=some (.d (.int (K.getD k 0)),μ++[.live (iL K)]):= λK k i h hk hz=>
  lK (f:=a9 5) (V:=.c μ.length) rfl (uh (hcell K)) h hk hz
 let K1:=(K.set one (K.getD two 0)).set two (K.getD one 0)
 have hK1:∀x∈K1,yu x:=uq (uq g5 (tu g5 htwo)) (tu g5 hone);have lK1:K1.length=K.length:=by simp [K1]
 have e5:Bd ρ4 (μ++[.live (iL K)])=some (.next,ρ4,μ++[.live (iL K1)]):=by
  unfold Bd;have ht:=d8 (ds:=[.int (K.getD two 0),.int (K.getD one 0)]) (an (iK K two 9 rfl htwo (by lia)) (an (iK K one 8 rfl hone (by lia)) bX)) (aa (xF rfl));have s1:=uA (fo:=a9 5) (fi:=a9 8) (ρ:=ρ4) (j:=μ.length) (k:=one) (K:=K) (x:=K.getD two 0) rfl rfl (hcell K) hone (by lia);rw [hset] at s1
  have s2:=uA (fo:=a9 5) (fi:=a9 9) (ρ:=ρ4) (j:=μ.length) (k:=two) (K:=K.set one (K.getD two 0)) (x:=K.getD one 0) rfl rfl (hcell _) (by simpa using htwo) (by simp;lia);rw [hset] at s2
  exact O3 ht s1 s2
 let x6:Int:=if (T.fdiv 2500).fmod 4=3 then 546-K1.getD one 0 else K1.getD one 0
 have hx6:yu x6:=by
  have hk:=tu hK1 (i:=one) (by lia)
  show (if _ then _ else _:Int)=272∨(if _ then _ else _:Int)=274
  split<;>rcases hk with q|q<;>rw [q]<;>simp
 let K2:=K1.set one x6
 have hK2:∀x∈K2,yu x:=uq hK1 hx6;have lK2:K2.length=K.length:=by simp [K2,lK1]
 have e6:BJ ρ4 (μ++[.live (iL K1)])=some (.next,ρ4,μ++[.live (iL K2)]):=by
  unfold BJ;have hi:=iK K1 one 8 rfl (by lia) (by lia);have hv:dx (bA (aj (aj (a9 1) (kI 2500) (aR cN)) (kI 4) (aR co)) (kI 3) dH) (aj (kI 546) (aF (a9 5) (a9 8)) (aR λx y=>some (x-y))) (aF (a9 5) (a9 8)) ρ4 (μ++[.live (iL K1)])=some (.d (.int x6),μ++[.live (iL K1)]):=by
   refine lk (o4 (jr (f:=a9 1) (T:=T) 2500 4 (by decide) (by decide) rfl rfl) rfl) (λh=>?_) (λh=>?_)
   ·show _=some (AV.d (.int (if _ then _ else _)),_)
    refine rA (if_pos (by simpa using h)) ?_;exact jP rfl hi
   ·show _=some (AV.d (.int (if _ then _ else _)),_)
    refine rA (if_neg (by simpa using h)) ?_;exact hi
  exact (MU hv (uA (k:=one) (hc:=hcell _) (hk:=by lia) (hz:=by lia) rfl rfl)).trans (by rw [hset])
 have hok:∀T∈F,T.ok K2.length:=by refine rA lK2 ?_;refine rA g2 ?_;exact g4
 have hlen:=pw F;rw [g3,L3] at hlen
 have hF6:F.length≤6:=by lia
 have hpl:(iL ((F.map (lb K2)).flatMap λF=>F.pre m)).length≤12:=by
  refine rB (mP K2 m hK2 F hok) ?_;simp only [gI,List.flatMap_map,if_true,List.length_flatMap,xJ] at hlen⊢
  exact hlen
 have hG:bJ (F.map (lb K2))=F7 0 6:=by
  refine rB g3 ?_
  have:∀F:List Tr,bJ (F.map (lb K2))=le F:= λF=>by
   induction F with
   |nil=>rfl
   |cons T F ih=>refine rA EV ?_;refine rA (b6 _ _) ?_;refine rA ih ?_;refine rA (tn _ _) ?_;rfl
  exact this F
 have e7:=GA (C:=.list (iL cs)) (ps:=.list (iL ps)) (m:=m) (T:=T) (F:=F) (K2:=K2) (μ:=μ) (a:=a) (b:=b) (c:=some (.d (.int one))) (d:=some (.d (.int two))) hm hK2 hok (by lia) hpl;refine (cJ (F.map (lb K2)) hG (by simp only [xJ];lia) ?_);refine (cZ (k:=3) (ρ':=ρ4) (μ':=μ++[.live (iL K2)]) (x:=.list (iL ((F.map (lb K2)).flatMap (λF=>F.pre m)++[0]))) rfl ?_).trans (by exact rA l_ rfl)
 show f65 ρe μ=_
 unfold f65;refine rA (aB e0) ?_;refine rA (aB e1) ?_;refine rA (aB e2) ?_;refine rA (aB e3) ?_;refine rA (aB e4) ?_;refine rA (aB e5) ?_;refine rA (aB e6) ?_;exact rA (cT e7) rfl
theorem Ye(h:q<7):q=0∨q=1∨q=2∨q=3∨q=4∨q=5∨q=6:=by lia
theorem nD(m:List Nat)(p:Nat):sq m p=[40]∨sq m p=[41]:=by unfold sq;split<;>simp
theorem z6(m:List Nat)(cs:List Int)(p:Nat)(tail:List U):clean none (eI m cs false p++tail)=eI m cs true p++clean none tail:=by
 have hq:=Ye (jv cs p);have hs:=nD m p;unfold eI;generalize iE cs p=q at*
 generalize sq m p=s at*
 rcases hs with rfl|rfl<;>rcases hq with rfl|rfl|rfl|rfl|rfl|rfl|rfl<;>rfl
theorem gC(m:List Nat)(cs:List Int)(tail:List U):∀pl:List Nat,clean none (units m cs false pl++tail)=units m cs true pl++clean none tail
 | []=>rfl
 |p::pl=>by
  simp only [units,Fe,Eg];refine rA (z6 _ _ _ _) ?_
  congr 1
  exact gC m cs tail pl
noncomputable def rP(m:List Nat):Int→List Nat→Option Int
 |n,[]=>some n
 |n,p::r=>if p<m.getD p 0 then rP m (n+1) r else if n-1<0 then none else rP m (n-1) r
theorem Kr(m:List Nat)(cs:List Int)(p:Nat)(n:Int)(tail:List U):lU n (eI m cs true p++tail)=if p<m.getD p 0 then lU (n+1) tail else if n-1<0 then none else lU (n-1) tail:=by
 have hq:=Ye (jv cs p);unfold eI;generalize iE cs p=q at*
 unfold sq
 by_cases h:p<m.getD p 0
 ·refine rA (if_pos h) ?_;refine rA (if_pos h) ?_
  rcases hq with rfl|rfl|rfl|rfl|rfl|rfl|rfl<;>rfl
 ·refine rA (if_neg h) ?_;refine rA (if_neg h) ?_
  rcases hq with rfl|rfl|rfl|rfl|rfl|rfl|rfl<;>rfl
theorem o7(m:List Nat)(cs:List Int)(tail:List U):∀ (pl:List Nat) (n:Int),lU n (units m cs true pl++tail)=match rP m n pl with|some k=>lU k tail|none=>none
 | [],n=>rfl
 |p::pl,n=>by
  simp only [units,Fe,Eg];rw [Kr,rP];have ih:= λn=>o7 m cs tail pl n;unfold units at ih
  split
  ·exact ih _
  ·split
   ·rfl
   ·exact ih _
noncomputable def Ly(m:List Nat)(pl:List Nat):Bool:=rP m 0 pl==some 0
theorem Cy(m:List Nat)(cs:List Int)(pl:List Nat):L1 (units m cs false pl)=Ly m pl:=by
 have h1:=gC m cs [] pl;have h2:=o7 m cs [] pl 0;simp only [DN,clean] at h1 h2
 unfold L1 Ly;refine rA h1 ?_;refine rA h2 ?_;cases rP m 0 pl with
 |none=>rfl
 |some k=>simp [lU]
noncomputable def vj:List Nat→List (List Nat)
 | []=>[[]]
 |a::l=>vj l++(vj l).map (a:: ·)
theorem B9{s l:List Nat}(h:s.Sublist l):s∈vj l:=by
 induction h with
 |slnil=>simp [vj]
 |cons a _ ih=>simp [vj,ih]
 |cons_cons a _ ih=>simp [vj,ih]
noncomputable def run(s:List Nat)(a b:Nat):List Nat:=(s.drop a).take b
theorem Mc:((zd 5).all λi=>(vj (zd 6)).all λs=>!bk (aH.getD i []) s||(zd 7).all λa=>(zd 7).all λb=>Ly (aH.getD i []) (run s a b)==bk (aH.getD i []) (run s a b))=true:=by decide+kernel
theorem Gz:((zd 5).all λi=>(vj (zd 6)).all λs=>(iV (s.map λp=>((aH.getD i []).getD p 0:Int))==s.map λ(p:Nat)=>(p:Int))==bk (aH.getD i []) s)=true:=by decide+kernel
theorem JR:((zd 5).all λi=>(zd 6).all λq=>(zd q).all λp=>!bk (aH.getD i []) [p,q]||(Ly (aH.getD i []) [p,q]&&!Ly (aH.getD i []) [q,p]))=true:=by decide+kernel
theorem mr(hi:i<5):(aH.getD i []).length=6:=by
 have:i=0∨i=1∨i=2∨i=3∨i=4:=by lia
 rcases this with rfl|rfl|rfl|rfl|rfl<;>rfl
theorem z9(hi:i<5){s r:List Nat}(hs:s.Sublist (zd 6))(hc:bk (aH.getD i []) s=true)(hr:r<:+:s):Ly (aH.getD i []) r=bk (aH.getD i []) r:=by
 have hl:=hs.length_le;rw [Ib] at hl
 refine lC hr λx y e=>?_;have he:r=run s x.length r.length:=by
  unfold run;refine rB e ?_;refine rA (Eg _ _ _) ?_;refine rA Qf ?_;exact rA P8 rfl
 have hle:=congrArg NM e;simp only [be] at hle
 have h1:=Bi.mp (Bi.mp Mc i (D5.mpr hi)) s (B9 hs);rw [hc] at h1
 simp only [Ra,Pn] at h1
 have h2:=Bi.mp (Bi.mp h1 x.length (D5.mpr (by lia))) r.length (D5.mpr (by lia));rw [←he] at h2
 simpa using h2
theorem wP(hi:i<5){s:List Nat}(hs:s.Sublist (zd 6)):(iV (s.map λp=>((aH.getD i []).getD p 0:Int))==s.map λ(p:Nat)=>(p:Int))=bk (aH.getD i []) s:=by
 have:=Bi.mp (Bi.mp Gz i (D5.mpr hi)) s (B9 hs)
 simpa using this
theorem Ot(hi:i<5)(hq:q<6)(hp:p<q)(hc:bk (aH.getD i []) [p,q]=true):Ly (aH.getD i []) [p,q]=true∧Ly (aH.getD i []) [q,p]=false:=by
 have:=Bi.mp (Bi.mp (Bi.mp JR i (D5.mpr hi)) q (D5.mpr hq)) p (D5.mpr hp)
 rw [hc] at this
 simpa using this
theorem zy(m:List Nat)(cs:List Int)(sh:Bool)(p:Nat):(eI m cs sh p).all (λu=>wf u&&decide (u.length≤2)&&!u.contains 39)=true:=by
 have hq:=Ye (jv cs p);have hs:=nD m p;unfold eI;generalize iE cs p=q at*
 generalize sq m p=s at*
 cases sh<;>rcases hs with rfl|rfl<;>rcases hq with rfl|rfl|rfl|rfl|rfl|rfl|rfl<;>decide
theorem oo(m:List Nat)(cs:List Int)(sh:Bool):∀pl:List Nat,(units m cs sh pl).all (λu=>wf u&&decide (u.length≤2)&&!u.contains 39)=true
 | []=>rfl
 |p::pl=>by
  simp only [units,Fe,RL,zy,T6];exact oo m cs sh pl
theorem lV(m:List Nat)(cs:List Int)(sh:Bool)(pl:List Nat):(units m cs sh pl).all wf=true:=by
 have:=oo m cs sh pl
 rw [Bi] at this⊢
 intro u hu
 have:=this u hu
 simp only [E_] at this
 exact this.1.1
theorem m8(m:List Nat)(cs:List Int)(sh:Bool)(pl:List Nat):WF (units m cs sh pl):=(dw _ ([]) ((DN _).symm) (lV m cs sh pl) (.inl rfl))
theorem Rv:∀us:List U,us.all (λu=>wf u&&decide (u.length≤2)&&!u.contains 39)=true→us.flatten.length≤2*us.length∧39∉us.flatten
 | [],_=>⟨DW _,by simp⟩
 |u::us,h=>by
  simp only [Me,E_,decide_eq_true_eq,MF,MP,decide_eq_false_iff_not] at h
  refine fY (Rv us (by simpa [E_] using h.2)) λh1 h2=>?_;refine ⟨?_,?_⟩
  ·simp only [Gq,be,Bb];lia
  ·refine rA Gq ?_;refine rA (propext (AZ)) ?_
   exact λq=>q.elim h.1.2 h2
theorem gh(m:List Nat)(cs:List Int)(sh:Bool)(pl:List Nat):(units m cs sh pl).flatten.length≤10*pl.length∧39∉(units m cs sh pl).flatten:=by
 refine fY (Rv _ (oo m cs sh pl)) λh1 h2=>?_
 have:=hZ m cs sh pl
 exact ⟨by lia,h2⟩
theorem Nl{vs:List U}(h:39∉vs.flatten):tS vs.flatten≠("('', '')":Str):=by
 intro q
 have:=congrArg (λs:Str=>s.cps.toList) q
 simp only [fR] at this
 rw [this] at h
 exact h (by decide)
def p0(n:Nat)(d:PyData):Prop:=d.canLay0=true∧d.depth≤n
theorem C4{i:Int}:p0 n (.int i):=⟨rfl,Lw _⟩
theorem jg{b:Bool}:p0 n (.bool b):=⟨rfl,Lw _⟩
theorem B5(h:x.cps.all (· <0x110000)=true):p0 n (.str x):=⟨h,Lw _⟩
theorem kQ:∀ {xs:List PyData},(∀x∈xs,p0 n x)→KX xs=true∧Uu xs≤n
 | [],_=>⟨rfl,Lw _⟩
 |x::xs,h=>by
  refine fY (kQ (xs:=xs) λy hy=>h y (by simp [hy])) λh1 h2=>?_;refine fY (h x (by simp)) λh3 h4=>?_;refine ⟨by rw [KX];refine rA h3 ?_;refine rA h1 ?_;rfl,?_⟩;rw [Uu];lia
theorem gH(h:∀x∈xs,p0 n x):p0 (n+1) (.list xs):=by
 refine fY (kQ h) λh1 h2=>?_;exact ⟨by rw [Qb];exact h1,by rw [Tz];lia⟩
theorem DA(h:∀x∈xs,p0 n x):p0 (n+1) (.tuple xs):=by
 refine fY (kQ h) λh1 h2=>?_;exact ⟨by rw [Qb];exact h1,by rw [Tz];lia⟩
theorem p0.mono(h:p0 n d)(hk:n≤k):p0 k d:=⟨h.1,KQ h.2 hk⟩
theorem p0.shaped(h:p0 n d)(hn:n≤64):RN d=true:=by
 unfold RN;refine rA h.1 ?_;refine rA (decide_eq_true (KQ h.2 hn)) ?_;rfl
theorem r6(l:List Int):p0 (n+1) (.list (iL l)):=gH λx hx=>by
 refine au (DT.mp hx) λi zz zq2=>?_;subst zq2;exact C4
theorem ix{l:List Nat}(h:∀c∈l,c<128):p0 n (.str (tS l)):=B5 (by
 refine rB Array.all_toList ?_;rw [Bi];intro c hc
 have:=h c (by simpa [tS] using hc)
 exact decide_eq_true (by lia))
theorem Np{a:PyData}(h:p0 n a)(hn:n≤64)(μ:List ah):dH (.d a) (.d a) μ=some true:=by
 have hs:=h.shaped hn;cases a with
 |none=>exact (e_ rfl).trans ((e_ rfl).trans ((e_ rfl).trans ((oN (rfl:Vl μ _=some _) rfl).trans (if_pos ⟨hs,hs⟩))))
 |bool b=>exact congrArg some (beq_self_eq_true b)
 |int i=>exact congrArg some (beq_self_eq_true i)
 |str x=>exact congrArg some (beq_self_eq_true x)
 |list xs=>exact (e_ rfl).trans ((e_ rfl).trans ((e_ rfl).trans ((oN (rfl:Vl μ _=some _) rfl).trans ((if_pos ⟨hs,hs⟩).trans (congrArg some (Uz _ h.1))))))
 |tuple xs=>exact (e_ rfl).trans ((e_ rfl).trans ((e_ rfl).trans ((oN (rfl:Vl μ _=some _) rfl).trans ((if_pos ⟨hs,hs⟩).trans (congrArg some (Uz _ h.1))))))
 |dict d=>exact absurd h.1 (by simp [Qb])
def Good(x:PyData):Prop:=∃a b,x=.tuple [a,b]∧∀μ,dH (.d a) (.d b) μ=some true
theorem dK{a:PyData}(h:p0 n a)(hn:n≤64):Good (.tuple [a,a]):=(fX a a rfl (Np h hn))
theorem JX:∀xs ys:List Int,UR (iL xs) (iL ys)=(xs==ys)
 | [],[]=>rfl
 | [],_::_=>rfl
 |_::_,[]=>rfl
 |x::xs,y::ys=>by
  refine (?_:(Ml (.int x) (.int y)&&UR (iL xs) (iL ys))=_);refine rA (JX xs ys) ?_;rfl
theorem C9(xs ys:List Int)(μ:List ah):dH (.d (.list (iL xs))) (.d (.list (iL ys))) μ=some (xs==ys):=by
 exact (e_ rfl).trans ((e_ rfl).trans ((e_ rfl).trans ((oN (rfl:Vl μ _=some _) rfl).trans ((if_pos ⟨(r6 (n:=0) xs).shaped (by decide),(r6 (n:=0) ys).shaped (by decide)⟩).trans (congrArg some (by simp only [Ml,JX]))))))
theorem Sj{h:EF}{V'' W:AV}(hf:f ρ μ=some (V,μ))(hg:g ρ μ=some (V',μ))(hh:h ρ μ=some (V'',μ))(hs:spec [V,V',V''] μ=some (W,μ')):af [f,g,h] spec ρ μ=some (W,μ'):=by
 exact (b5 (an hf (zL hg hh))).trans hs
theorem t0{h k:EF}{V'' V3 W:AV}(hf:f ρ μ=some (V,μ))(hg:g ρ μ=some (V',μ))(hh:h ρ μ=some (V'',μ))(hk:k ρ μ=some (V3,μ))(hs:spec [V,V',V'',V3] μ=some (W,μ')):af [f,g,h,k] spec ρ μ=some (W,μ'):=by
 exact (b5 (an hf (an hg (zL hh hk)))).trans hs
noncomputable def uT(m:List Nat)(cs:List Int)(pl:List Nat):List Nat:=(units m cs false pl).flatten
theorem IS(m:List Nat)(cs:List Int)(sh:Bool)(p:Nat):(eI m cs sh p).all (λu=>u.all λc=>decide (c<128))=true:=by
 have hq:=Ye (jv cs p);have hs:=nD m p;unfold eI;generalize iE cs p=q at*
 generalize sq m p=s at*
 cases sh<;>rcases hs with rfl|rfl<;>rcases hq with rfl|rfl|rfl|rfl|rfl|rfl|rfl<;>decide
theorem uj(m:List Nat)(cs:List Int)(sh:Bool)(pl:List Nat):∀u∈units m cs sh pl,∀c∈u,c<128:=by
 intro u hu c hc;refine au (L5.mp hu) λp zz hp=>?_
 have:=Bi.mp (Bi.mp (IS m cs sh p) u hp) c hc
 simpa using this
theorem yG(m:List Nat)(cs:List Int)(sh:Bool)(pl:List Nat):∀c∈(units m cs sh pl).flatten,c<128:=by
 intro c hc;refine au (TT.mp hc) λu hu h=>?_;exact uj m cs sh pl u hu c h
theorem th{pl:List Nat}(hm:m.length=6)(hc:cs.length=6)(hp:∀p∈pl,p<6)(hz:pl.length≤1000)(h0:a9 i ρ μ=some (.d (.list (nL pl)),μ))(h1:a9 1 ρ μ=some (.d (.list (nL m)),μ))(h2:a9 2 ρ μ=some (.d (.list (iL cs)),μ)):
  dv (kS "") [(af [(a9 i),(a9 1),(a9 2),(kB false)] bB)] fg ρ μ=some (.d (.str (tS (uT m cs pl))),μ):=
 lY (t0 h0 h1 h2 rfl (Zu hm hc hp hz)) rfl (by have:=(gh m cs false pl).1;lia)
theorem xy{pl:List Nat}(hz:pl.length≤100)(h0:f ρ μ=some (.d (.str (tS (uT m cs pl))),μ)):af [f] ar ρ μ=some (.d (.bool (Ly m pl)),μ):=by
 refine rB (Cy m cs pl) ?_;refine d4 h0 (s3 (m8 m cs false pl) ?_ ?_)
 ·have:=(gh m cs false pl).1;lia
 ·have:=hZ m cs false pl;lia
noncomputable def bi(m:List Nat)(G:List Fm):List PyData:=G.map (Fm.enc m)
noncomputable def mQ(R M C:PyData)(j:Nat)(t o pr k w y st tx ha td te ke:Option AV):d0:=[some (.d R),some (.d M),some (.d C),some (.c j),t,o,pr,k,w,y,st,tx,ha,td,te,ke]
noncomputable def hdF(m:List Nat):Fm→Int
 | .at i=>sg m i
 | .bin true _ _=>18
 | .bin false _ _=>16
theorem HE(m:List Nat)(F:Fm):∃ds,F.enc m=.tuple (.int (hdF m F)::ds)∧ds.length≤3:=by
 cases F with
 |«at» i=>exact (aZ _ rfl (by simp))
 |bin p l r=>cases p<;>exact (aZ _ rfl (by simp))
theorem AA(hf:f ρ μ=some (.d (F.enc m),μ)):aF f (kI 0) ρ μ=some (.d (.int (hdF m F)),μ):=by
 refine au (HE m F) λds e h=>?_;rw [e] at hf
 exact cF hf rfl rfl (by decide) rfl (aa (by simp only [Bb];lia))
noncomputable def Zl:Fm→Bool
 | .bin true _ _=>true
 |_=>false
noncomputable def wK:Fm→Bool
 | .bin false _ _=>true
 |_=>false
theorem TY(hf:f ρ μ=some (.d (F.enc m),μ)):bA (aF f (kI 0)) (jF ki (kS "|")) dH ρ μ=some (Zl F,μ):=by
 refine (o4 (y:=18) (AA hf) (by rfl)).trans ?_;cases F with
 |«at» i=>rcases gA m i with q|q<;>(refine (?_:some (sg m i==18,μ)=some (false,μ));rw [q];rfl)
 |bin p l r=>cases p<;>rfl
theorem TN(hf:f ρ μ=some (.d (F.enc m),μ)):bA (aF f (kI 0)) (jF ki (kS "*")) dH ρ μ=some (wK F,μ):=by
 refine (o4 (y:=16) (AA hf) (by rfl)).trans ?_;cases F with
 |«at» i=>rcases gA m i with q|q<;>(refine (?_:some (sg m i==16,μ)=some (false,μ));rw [q];rfl)
 |bin p l r=>cases p<;>rfl
noncomputable def opD:PyData→List PyData
 | .tuple (.int n::r)=>if n=18 then r.drop 1 else [.tuple (.int n::r)]
 |x=>[x]
theorem B6(m:List Nat)(F:Fm):opD (F.enc m)=bi m (xG F):=by
 cases F with
 |«at» i=>exact if_neg (by rcases gA m i with q|q<;>rw [q]<;>decide)
 |bin p l r=>cases p<;>rfl
theorem tC(m:List Nat):∀G:List Fm,((bi m G).flatMap λx=>if true then (opD x).map (λy=>y) else [])=bi m (G.flatMap xG)
 | []=>rfl
 |F::G=>by
  have ih:=tC m G;simp only [bi,EV,Fe,if_true,TC] at ih⊢
  refine rA ih ?_;refine rA (B6 _ _) ?_
  simp [bi]
theorem fp(G:List Fm):G.length≤(bJ G).length:=by
 have:=kK G 0;lia
abbrev RF:SF:=(ap (c6 0 (cb uk (aK false (a9 0)) (du 16) (cW bg (gf (aK false (dx (bA (aF (a9 16) (kI 0)) (jF ki (kS "|")) dH) (ce (a9 16) (aL (kI 2)) ba) (cX [(a9 16)]))) (du 17) (cW bg (aY (a9 17))))))) aP)
theorem Gb{G:List Fm}{M C:PyData}{t o pr k w y st:Option AV}(hz:(bJ G).length≤6):
  RF (mQ (.list (bi m G)) M C j t o pr k w y st tx ha td te ke) μ=some (.next,mQ (.list (bi m (G.flatMap xG))) M C j t o pr k w y st tx ha td te ke,μ):=by
 have hl:=fp (G.flatMap xG);rw [gU] at hl
 have hcm:=p8 (sc:=uk) (itf:=aK false (a9 0)) (itf2:=aK false (dx (bA (aF (a9 16) (kI 0)) (jF ki (kS "|")) dH) (ce (a9 16) (aL (kI 2)) ba) (cX [(a9 16)]))) (t:=bg) (e:=a9 17) (ρ:=mQ (.list (bi m G)) M C j t o pr k w y st tx ha td te ke) (μ:=μ) (xs:=bi m G) 16 17 (by decide) (λzz=>true) opD (λzz y=>y)
  (d7 (V:=.d (.list (bi m G))) rfl rfl) (az _ _) (λzz zz zz=>rfl) (λx hx zz w=>by
   refine au (DT.mp hx) λF hF zq2=>?_;subst zq2;refine mN (lk (TY (F:=F) (m:=m) rfl) (λh=>?_) (λh=>?_))
   ·cases F with
    |«at» i=>cases h
    |bin p l r=>
     cases p with
     |false=>cases h
     |true=>exact uo (xs:=[.int 18,.list (nL (l.pl++r.pl)),l.enc m,r.enc m]) 2 rfl (by decide) (by simp) (aa (xF rfl))
   ·have:opD (F.enc m)=[F.enc m]:=by
     refine rA (B6 _ _) ?_;cases F with
     |«at» i=>rfl
     |bin p l r=>
      cases p with
      |false=>rfl
      |true=>cases h
    refine rA this ?_;exact d8 (ds:=[F.enc m]) rfl (aa (xF rfl))) (λzz zz zz zz zz=>rfl) (by refine rA (tC _ _) ?_;rw [bi];refine rA (xJ _) ?_;exact aa (by lia))
 rw [tC] at hcm
 exact (aB (bO (bY hcm))).trans bK
noncomputable def opI:Nat→List Fm→List Fm
 |0,G=>G
 |n+1,G=>opI n (G.flatMap xG)
theorem Mx:∀ (n:Nat) (G:List Fm),bJ (opI n G)=bJ G
 |0,_=>rfl
 |n+1,G=>by rw [opI];refine rA (Mx n _) ?_;exact rA (gU _) rfl
theorem xh{m:List Nat}{M C:PyData}{j:Nat}{o pr k w y st tx ha td te ke:Option AV}{μ:List ah}(xs:List PyData):∀ (r:List PyData) (G:List Fm) (t:Option AV),(bJ G).length≤6→∃t',
  fS (du 4) RF aP none xs r (mQ (.list (bi m G)) M C j t o pr k w y st tx ha td te ke) μ=some (.next,mQ (.list (bi m (opI r.length G))) M C j t' o pr k w y st tx ha td te ke,μ)
 | [],G,t,_=>⟨t,rfl⟩
 |x::r,G,t,h=>by
  refine bP (xh (m:=m) (M:=M) (C:=C) (j:=j) (o:=o) (pr:=pr) (k:=k) (w:=w) (y:=y) (st:=st) (tx:=tx) (ha:=ha) (td:=td) (te:=te) (ke:=ke) (μ:=μ) xs r (G.flatMap xG) (some (.d x)) (by refine rA (gU _) ?_;exact h)) λt' e=>?_;exact ⟨t',LA (dQ (ρ1:=mQ (.list (bi m G)) M C j (some (.d x)) o pr k w y st tx ha td te ke) rfl (Gb h) (az _ _)) e⟩
theorem Iz{s:a_}{G:List Fm}{M C:PyData}(hz:(bJ G).length≤6):∃t,
  AI s (mQ (.list (bi m G)) M C j none none none none none none none none none none none none) μ=some (.next,mQ (.list (bi m (fK G))) M C j t none none none none none none none none none none none,μ):=by
 refine bP (xh (m:=m) (M:=M) (C:=C) (j:=j) (o:=none) (pr:=none) (k:=none) (w:=none) (y:=none) (st:=none) (tx:=none) (ha:=none) (td:=none) (te:=none) (ke:=none) (μ:=μ) (fI 0 5) (fI 0 5) G none hz) λt' e=>?_;refine ⟨t',?_⟩;unfold AI;refine rA (gJ (xs:=fI 0 5) (gg:=none) (μ1:=μ) rfl) ?_;exact e
noncomputable def fL:Fm→Int
 | .at _=>2
 | .bin .. =>4
theorem Vq(G:List Fm):(G.map fL==[2,2])=two G:=by
 match G with
 | []=>rfl
 | [.at _]=>rfl
 | [.bin ..]=>rfl
 | [.at _,.at _]=>rfl
 | [.at _,.bin ..]=>rfl
 | [.bin ..,.at _]=>rfl
 | [.bin ..,.bin ..]=>rfl
 |F::F'::F''::G=>
  have h1:two (F::F'::F''::G)=false:=by cases F<;>cases F'<;>rfl
  refine rA h1 ?_
  simp
theorem Jp{G:List Fm}(h:G[k]? =some F):(bi m G)[k]? =some (F.enc m):=by
 rw [bi,FS];refine rA h ?_;rfl
theorem Ba{G:List Fm}(hf:f ρ μ=some (.d (.list (bi m G)),μ))(hg:g ρ μ=some (.d (.int k),μ))(h:G[k]? =some F)(hz:G.length≤6):aF f g ρ μ=some (.d (F.enc m),μ):=
 cF hf hg rfl (by omega) (by refine rA (Fd _) ?_;exact Jp h) (by rw [bi];refine rA (xJ _) ?_;exact aa (by omega))
theorem pq{s:List Nat}(h:s.Sublist (zd 6)):∀p∈s,p<6:= λp hp=>D5.mp (h.subset hp)
theorem iw{s:List Nat}(h:s.Sublist (zd 6)):s.length≤6:=by have:=h.length_le;rwa [Ib] at this
theorem IH{s:a_}{G:List Fm}{M C:PyData}{t:Option AV}(hz:(bJ G).length≤6)(h2:two G=false):
  sr s (mQ (.list (bi m G)) M C j t none none none none none none none none none none none) μ=some (.next,mQ (.list (bi m G)) M C j t none none none none none none none none none none none,μ):=by
 have hl:=fp G;have hcm:=ip (sc:=tz) (itf:=aK false (a9 0)) (e:=af [a9 16] dD) (ρ:=mQ (.list (bi m G)) M C j t none none none none none none none none none none none) (μ:=μ) (xs:=bi m G) (g:=none) 16 (λx=>match x with| .tuple l=>.int l.length|x=>x) (d7 (V:=.d (.list (bi m G))) rfl rfl) (az _ _) (λx hx=>by
  refine au (DT.mp hx) λF hF zq2=>?_;subst zq2;cases F with
  |«at» i=>exact gF rfl (xs:=[.int (sg m i),.list [.int i]]) rfl (aa (xF rfl))
  |bin p l r=>exact gF rfl (xs:=[.int (if p then 18 else 16),.list (nL (l.pl++r.pl)),l.enc m,r.enc m]) rfl (aa (xF rfl))) (by rw [bi];refine rA (xJ _) ?_;exact aa (by omega))
 have e:(bi m G).map (λx=>match x with| .tuple l=>EW l.length|x=>x)=iL (G.map fL):=by
  simp only [bi,iL,ER];apply FL;intro F _;cases F<;>rfl
 rw [e] at hcm
 unfold sr;refine rA (gS (dG (bY hcm) (dF (ds:=[.int 2,.int 2]) rfl (aa (xF rfl))) (C9 (G.map fL) [2,2] μ)) (by rw [Vq];exact h2)) ?_;exact bK
noncomputable def JA(b1 b2:Bool):PyData:=.tuple [.list [.bool b1,.bool b2],.list [.bool true,.bool true]]
theorem isB{b c:Bool}(hf:f ρ μ=some (.d (.bool b),μ))(hg:g ρ μ=some (.d (.bool c),μ)):dZ f g LH ρ μ=some (.d (.bool (b==c)),μ):=gX hf hg rfl
theorem Ek{s:a_}{t:Option AV}(hi:i<5)(hc:cs.length=6)(hs:(bJ [Fm.at p,Fm.at q]).Sublist (zd 6))(hcl:bk (aH.getD i []) (bJ [Fm.at p,Fm.at q])=true)(hj:μ[j]? =some (.live X))(hX:X.length≤10000):
  ∃ρ',sr s (mQ (.list (bi (aH.getD i []) [.at p,.at q])) (.list (nL (aH.getD i []))) (.list (iL cs)) j t none none none none none none none none none none none) μ=some (.ret (.d (.bool true)),ρ',μ.set j (.live (X++[JA true true]))):=by
 have hm:=mr hi;have hpq:bJ [Fm.at p,Fm.at q]=[p,q]:=rfl;rw [hpq] at hs hcl
 have h6:=pq hs;have hlt:p<q:=by
  have:([p,q]:List Nat).Pairwise (· < ·):=List.Pairwise.sublist hs List.pairwise_lt_range
  simpa using this
 refine fY (Ot hi (h6 q (by simp)) hlt hcl) λb1 b2=>?_;generalize hmm:aH.getD i []=m at*
 let ρ0:=mQ (.list (bi m [.at p,.at q])) (.list (nL m)) (.list (iL cs)) j t none none none none none none none none none none none
 have hcm:=ip (sc:=tz) (itf:=aK false (a9 0)) (e:=af [a9 16] dD) (ρ:=ρ0) (μ:=μ) (xs:=bi m [.at p,.at q]) (g:=none) 16 (λzz=>.int 2) (d7 (V:=.d (.list (bi m [.at p,.at q]))) rfl rfl) (az _ _) (λx hx=>by
  refine au (DT.mp hx) λF hF zq2=>?_;subst zq2;simp only [C1,E4,or_false] at hF
  rcases hF with rfl|rfl
  ·exact gF rfl (xs:=[.int (sg m p),.list [.int p]]) rfl (aa (xF rfl))
  ·exact gF rfl (xs:=[.int (sg m q),.list [.int q]]) rfl (aa (xF rfl))) (aa (by simp [bi]))
 have g0:aF (a9 0) (kI 0) ρ0 μ=some (.d ((Fm.at p).enc m),μ):=Ba (G:=[.at p,.at q]) (k:=0) rfl rfl rfl (by simp);have g1:aF (a9 0) (kI 1) ρ0 μ=some (.d ((Fm.at q).enc m),μ):=Ba (G:=[.at p,.at q]) (k:=1) rfl rfl rfl (by simp);have q0:=qQ g0;have q1:=qQ g1;have a1:=cS q0 q1 (xs:=nL [p]) (ys:=nL [q]) rfl rfl (aa (by simp [nL]));have a2:=cS q1 q0 (xs:=nL [q]) (ys:=nL [p]) rfl rfl (aa (by simp [nL]));have ht:=d8 (ds:=[.list (nL [p,q]),.list (nL [q,p])]) (an a1 (an a2 bX)) (aa (xF rfl));have hcm2:=ip (sc:=zD) (e:=dv (kS "") [(af [(a9 16),(a9 1),(a9 2),(kB false)] bB)] fg) (ρ:=ρ0) (μ:=μ) (xs:=[.list (nL [p,q]),.list (nL [q,p])]) (g:=none) 16 (λx=>match x with| .list [.int a,.int b]=>.str (tS (uT m cs [a.toNat,b.toNat]))|x=>x) (mN ht) (az _ _) (λx hx=>by
  simp only [C1,E4,or_false] at hx
  rcases hx with rfl|rfl
  ·exact th (pl:=[p,q]) hm hc h6 (by simp) rfl rfl rfl
  ·exact th (pl:=[q,p]) hm hc (λx hx=>h6 x (by simp at hx⊢;exact hx.symm)) (by simp) rfl rfl rfl) (aa (xF rfl))
 let ρ1:=mQ (.list (bi m [.at p,.at q])) (.list (nL m)) (.list (iL cs)) j t none (some (.d (.list [.str (tS (uT m cs [p,q])),.str (tS (uT m cs [q,p]))]))) none none none none none none none none none
 have c0:af [aF (a9 6) (kI 0)] ar ρ1 μ=some (.d (.bool true),μ):=by
  refine rB b1 ?_;exact xy (by simp) (cF (f:=a9 6) (V:=.d (.list [.str (tS (uT m cs [p,q])),.str (tS (uT m cs [q,p]))])) (k:=0) rfl rfl rfl (by decide) rfl (aa (xF rfl)))
 have c1:af [aF (a9 6) (kI 1)] ar ρ1 μ=some (.d (.bool false),μ):=by
  refine rB b2 ?_;exact xy (by simp) (cF (f:=a9 6) (V:=.d (.list [.str (tS (uT m cs [p,q])),.str (tS (uT m cs [q,p]))])) (k:=1) rfl rfl rfl (by decide) rfl (aa (xF rfl)))
 have l1:=dF (ds:=[.bool true,.bool true]) (an (isB c0 (rfl:kB true _ _=some (.d (.bool true),_))) (an (isB c1 (rfl:kB false _ _=some (.d (.bool false),_))) bX)) (aa (xF rfl));have l2:aU [kB true,kB true] ρ1 μ=some (.d (.list [.bool true,.bool true]),μ):=dF (ds:=[.bool true,.bool true]) rfl (aa (xF rfl));have tt:=d8 (ds:=[.list [.bool true,.bool true],.list [.bool true,.bool true]]) (an l1 (an l2 bX)) (aa (xF rfl));refine ⟨ρ1,?_⟩;unfold sr;refine (gB (dG (bY hcm) (dF (ds:=[.int 2,.int 2]) rfl (aa (xF rfl))) (C9 [2,2] [2,2] μ)) rfl).trans ?_;refine (aB (ju hcm2)).trans ?_;refine (aB (ρ1:=ρ1) (eA (gk (j:=j) rfl tt hj (aa (by omega))))).trans ?_;exact cT (dY rfl)
theorem j4(l r:Fm)(B:List Fm):∀ (A pre:List Fm),gR l r B A pre=(zd (A.length+1)).map λj=>(A.drop j++[l],pre++A.take j++r::B)
 | [],pre=>by simp [Vx]
 |F::A,pre=>by
  rw [Ve];refine rA (j4 l r B A (pre++[F])) ?_;refine rA Bb ?_;refine rA (LB (n:=A.length+1)) ?_;refine rA EV ?_;refine rA ER ?_
  congr 1
  ·simp
  ·apply FL
   intro j _
   simp
theorem jf(l r:Fm)(A:List Fm):∀ (B pre:List Fm),iI l r A B pre=(zd (B.length+1)).map λj=>(r::(pre++B.take j),A++l::B.drop j)
 | [],pre=>by simp [U6]
 |F::B,pre=>by
  rw [VB];refine rA (jf l r A B (pre++[F])) ?_;refine rA Bb ?_;refine rA (LB (n:=B.length+1)) ?_;refine rA EV ?_;refine rA ER ?_
  congr 1
  ·simp
  ·apply FL
   intro j _
   simp
def Wu(A B:List Fm)(l r:Fm)(w:List Fm×List Fm):Prop:=
 (∃A1 A2,A=A1++A2∧w=(A2++[l],A1++r::B))∨(∃B1 B2,B=B1++B2∧w=(r::B1,A++l::B2))
theorem Km{A:List Fm}{w:List Fm×List Fm}(h:w∈gR l r B A []++iI l r A B []):Wu A B l r w:=by
 rcases AZ.mp h with h|h
 ·rw [j4] at h
  refine au (DT.mp h) λj zz zq2=>?_;subst zq2;exact .inl (fX (A.take j) (A.drop j) ((LM j A).symm) (by simp))
 ·rw [jf] at h
  refine au (DT.mp h) λj zz zq2=>?_;subst zq2;exact .inr (fX (B.take j) (B.drop j) ((LM j B).symm) (by simp))
noncomputable def R5:Fm→Nat
 | .at _=>0
 | .bin p l r=>(if p then 0 else 1)+R5 l+R5 r
noncomputable def jj(G:List Fm):Nat:=(G.map R5).sum
theorem Co(A B:List Fm):jj (A++B)=jj A+jj B:=by simp [jj]
theorem pY(F:Fm)(B:List Fm):jj (F::B)=R5 F+jj B:=by simp [jj]
theorem OV:jj []=0:=rfl
theorem kH:∀G:List Fm,jj (G.flatMap xG)=jj G
 | []=>rfl
 |F::G=>by
  refine rA Fe ?_;refine rA (Co _ _) ?_;refine rA (kH G) ?_;refine rA (pY _ _) ?_
  congr 1
  cases F with
  |«at» i=>simp [J8,jj]
  |bin p l r=>cases p<;>simp [PI,Qq,jj,R5]
theorem Ia(G:List Fm):jj (fK G)=jj G:=by
 unfold fK;refine rA (kH _) ?_;refine rA (kH _) ?_;refine rA (kH _) ?_;refine rA (kH _) ?_;exact rA (kH _) rfl
theorem Um{A:List Fm}{w:List Fm×List Fm}(h:Wu A B l r w):jj w.1+jj w.2+1=jj (A++.bin false l r::B):=by
 rcases h with ⟨A1,A2,rfl,rfl⟩| ⟨B1,B2,rfl,rfl⟩<;>simp only [Co,pY,OV,R5]<;>simp<;>lia
theorem Hw{A:List Fm}{w:List Fm×List Fm}(h:Wu A B l r w):(bJ w.1++bJ w.2).Perm (bJ (A++.bin false l r::B)):=by
 rw [List.perm_iff_count];intro a
 rcases h with ⟨A1,A2,rfl,rfl⟩| ⟨B1,B2,rfl,rfl⟩<;>simp only [d5,b6,gx,Fm.pl,List.count_append,List.count_nil]<;>lia
theorem sO{A:List Fm}{w:List Fm×List Fm}(h:Wu A B l r w):bJ w.1<:+:bJ (A++.bin false l r::B):=by
 rcases h with ⟨A1,A2,rfl,rfl⟩| ⟨B1,B2,rfl,rfl⟩
 ·exact (jK (bJ A1) (r.pl++bJ B) (by simp [d5,b6,gx,Fm.pl]))
 ·exact (jK (bJ A++l.pl) (bJ B2) (by simp [d5,b6,Fm.pl]))
theorem H0{A:List Fm}{w:List Fm×List Fm}(h:Wu A B l r w):(bJ w.2).Sublist (bJ (A++.bin false l r::B)):=by
 rcases h with ⟨A1,A2,rfl,rfl⟩| ⟨B1,B2,rfl,rfl⟩
 ·have:bJ ((A1++A2)++.bin false l r::B)=bJ A1++((bJ A2++l.pl)++(r.pl++bJ B)):=by simp [d5,b6,Fm.pl]
  refine rA this ?_;simp only [d5,b6];exact SH (QS _) (Qh _ _)
 ·have:bJ (A++.bin false l r::(B1++B2))=(bJ A++l.pl)++((r.pl++bJ B1)++bJ B2):=by simp [d5,b6,Fm.pl]
  refine rA this ?_;simp only [d5,b6,←Eg];refine rA (Eg (bJ A++l.pl) _ _) ?_;refine rA (Eg (bJ A++l.pl) _ _) ?_;exact SH (QS _) (Qh _ _)
theorem Cz:((zd 5).all λi=>(zd 6).all λp=>(aH.getD i []).getD ((aH.getD i []).getD p 0) 0==p)=true:=by decide+kernel
theorem ad1(hi:i<5)(hp:p<6):(aH.getD i []).getD ((aH.getD i []).getD p 0) 0=p:=by
 have:=Bi.mp (Bi.mp Cz i (D5.mpr hi)) p (D5.mpr hp)
 simpa using this
theorem qi{s:List Nat}(h:bk m s=true)(hp:p∈s):m.getD p 0∈s:=by
 have:=Bi.mp h p hp
 simpa using this
theorem Aq{A:List Fm}{w:List Fm×List Fm}(hi:i<5)(h:Wu A B l r w)(hs:(bJ (A++.bin false l r::B)).Sublist (zd 6))(hc:bk (aH.getD i []) (bJ (A++.bin false l r::B))=true)(h1:bk (aH.getD i []) (bJ w.1)=true):bk (aH.getD i []) (bJ w.2)=true:=by
 have hp:=Hw h;have hn:(bJ w.1++bJ w.2).Nodup:=hp.symm.nodup (List.Nodup.sublist hs List.nodup_range);unfold bk;rw [Bi];intro p hpw;have hpG:p∈bJ (A++.bin false l r::B):=hp.subset (D1 _ hpw);have hm:=qi hc hpG
 rcases AZ.mp (hp.symm.subset hm) with q|q
 ·have:=qi h1 q
  rw [ad1 hi (pq hs p hpG)] at this
  exact absurd rfl ((QD.mp hn).2.2 p this p hpw)
 ·simpa using q
noncomputable def i_(m:List Nat)(w:List Fm×List Fm):PyData:=.tuple [.list (bi m w.1),.list (bi m w.2)]
theorem Jr(m:List Nat)(A B:List Fm):bi m (A++B)=bi m A++bi m B:=by simp [bi]
theorem ff(m:List Nat)(A:List Fm):(bi m A).length=A.length:=by simp [bi]
theorem sN(m:List Nat)(A:List Fm)(k:Nat):(bi m A).take k=bi m (A.take k):=by simp [bi,Rc]
theorem su(m:List Nat)(A:List Fm)(k:Nat):(bi m A).drop k=bi m (A.drop k):=by simp [bi,T9]
theorem mK:∀ (n:Nat) (a:Nat),fI a n=(zd n).map λ(i:Nat)=>EW ((a+i:Nat):Int)
 |0,_=>rfl
 |n+1,a=>by
  rw [fI];refine rA LB ?_;refine rA EV ?_;refine rA ER ?_;refine rA (show ((a:Int)+1)=((a+1:Nat):Int) by lia) ?_;refine rA (mK n (a+1)) ?_
  congr 1
  apply FL;intro i _;refine (?_:EW _=EW _)
  congr 1
  simp only [SK];lia
theorem GR:((zd 8).all λa=>(zd 8).all λb=>JB (a:Int) (b:Int) 1)=true:=by decide+kernel
theorem Gc{a:Nat}(ha:a<8)(hb:b<8):JB (a:Int) (b:Int) 1=true:=
 Bi.mp (Bi.mp GR a (D5.mpr ha)) b (D5.mpr hb)
theorem qb{a:Nat}(hf:f ρ μ=some (.rng a b,μ))(ha:a<8)(hb:b<8):aK false f ρ μ=some ((zd (b-a)).map λ(i:Nat)=>EW ((a+i:Nat):Int),none,μ):=by
 exact (nK hf (Gc ha hb)).trans (by rw [show ((b:Int)-(a:Int)).toNat=b-a by lia,mK])
section
variable {A:List Fm} {M C:PyData} {t pr w y st:Option AV}
noncomputable abbrev dR(A B:List Fm)(l r:Fm):List Fm:=A++.bin false l r::B
theorem Qu(hf:f ρ μ=some (.d ((Fm.bin false l r).enc m),μ)):aF f (kI 2) ρ μ=some (.d (l.enc m),μ):=
 cF (xs:=[.int 16,.list (nL (l.pl++r.pl)),l.enc m,r.enc m]) (k:=2) hf rfl rfl (by decide) rfl (aa (xF rfl))
theorem Qo(hf:f ρ μ=some (.d ((Fm.bin false l r).enc m),μ)):aF f (kI 3) ρ μ=some (.d (r.enc m),μ):=
 cF (xs:=[.int 16,.list (nL (l.pl++r.pl)),l.enc m,r.enc m]) (k:=3) hf rfl rfl (by decide) rfl (aa (xF rfl))
theorem qe:(dR A B l r).length=A.length+B.length+1:=by simp [dR];lia
theorem HD{G:List Fm}(h0:a9 0 ρ μ=some (.d (.list (bi m G)),μ))(hk:f ρ μ=some (.d (.int k),μ))(h:k≤G.length)(hz:G.length≤6):ce (a9 0) ba (aL f) ρ μ=some (.d (.list (bi m (G.take k))),μ):=by
 refine (fc (lo:=none) (hi:=some (k:Int)) h0 rfl (dA hk) (by refine rA (ff _ _) ?_;exact aa (by lia))).trans ?_;refine rA (pc _ (by rw [ff];exact h)) ?_;exact rA (sN _ _ _) rfl
theorem HO{G:List Fm}(h0:a9 0 ρ μ=some (.d (.list (bi m G)),μ))(hk:f ρ μ=some (.d (.int k),μ))(h:k≤G.length)(hz:G.length≤6):ce (a9 0) (aL f) ba ρ μ=some (.d (.list (bi m (G.drop k))),μ):=by
 refine (fc (lo:=some (k:Int)) (hi:=none) h0 (dA hk) rfl (by refine rA (ff _ _) ?_;exact aa (by lia))).trans ?_;refine rA (B4 _ (by rw [ff];exact h)) ?_;exact rA (su _ _ _) rfl
theorem GF{G:List Fm}{a:Nat}(h0:a9 0 ρ μ=some (.d (.list (bi m G)),μ))(hf:f ρ μ=some (.d (.int a),μ))(hg:g ρ μ=some (.d (.int b),μ))(hab:a≤b)(h:b≤G.length)(hz:G.length≤6):ce (a9 0) (aL f) (aL g) ρ μ=some (.d (.list (bi m ((G.drop a).take (b-a)))),μ):=by
 refine (fc (lo:=some (a:Int)) (hi:=some (b:Int)) h0 (dA hf) (dA hg) (by refine rA (ff _ _) ?_;exact aa (by lia))).trans ?_;refine rA (Iu _ hab (by rw [ff];exact h)) ?_;refine rA (su _ _ _) ?_;exact rA (sN _ _ _) rfl
theorem DR{X Y:List Fm}(hf:f ρ μ=some (.d (.list (bi m X)),μ))(hg:g ρ μ=some (.d (.list (bi m Y)),μ))(hz:X.length+Y.length≤100):aj f g aT ρ μ=some (.d (.list (bi m (X++Y))),μ):=by
 refine rA (Jr _ _ _) ?_;exact cS hf hg rfl rfl (aa (by refine rA (ff _ _) ?_;refine rA (ff _ _) ?_;lia))
theorem OW(hf:f ρ μ=some (.d (F.enc m),μ)):aU [f] ρ μ=some (.d (.list (bi m [F])),μ):=kr hf
noncomputable abbrev ρB(m:List Nat)(A B:List Fm)(l r:Fm)(M C:PyData)(ja:Nat)(t pr w y st tx ha td te ke:Option AV):d0:=mQ (.list (bi m (dR A B l r))) M C ja t (some (.d ((Fm.bin false l r).enc m))) pr (some (.d (.int A.length))) w y st tx ha td te ke
theorem Fs(hz:(dR A B l r).length≤6):eX n5 (aK false (af [(aj (a9 7) (kI 1) aT)] cH)) (du 16) (cW bg (aY (cX [(aj (ce (a9 0) (aL (a9 16)) (aL (a9 7))) (aU [(aF (a9 5) (kI 2))]) aT),(aj (aj (ce (a9 0) ba (aL (a9 16))) (aU [(aF (a9 5) (kI 3))]) aT) (ce (a9 0) (aL (aj (a9 7) (kI 1) aT)) ba) aT)])))
  (ρB m A B l r M C ja t pr w y st tx ha td te ke) μ=some ((gR l r B A []).map (i_ m),μ):=by
 have hG:=qe (A:=A) (B:=B) (l:=l) (r:=r);have hi:aK false (af [(aj (a9 7) (kI 1) aT)] cH) (ρB m A B l r M C ja t pr w y st tx ha td te ke) μ=some ((zd (A.length+1-0)).map λ(i:Nat)=>EW ((0+i:Nat):Int),none,μ):=
  qb (d4 (cR (x:=A.length) (y:=1) rfl rfl) rfl) (by lia) (by lia)
 have hcm:=ip (sc:=n5) (e:=(cX [(aj (ce (a9 0) (aL (a9 16)) (aL (a9 7))) (aU [(aF (a9 5) (kI 2))]) aT),(aj (aj (ce (a9 0) ba (aL (a9 16))) (aU [(aF (a9 5) (kI 3))]) aT) (ce (a9 0) (aL (aj (a9 7) (kI 1) aT)) ba) aT)])) 16
  (λx=>match x with| .int j=>i_ m (A.drop j.toNat++[l],[]++A.take j.toNat++r::B)|x=>x) hi (az _ _) (λx hx=>by
   refine au (DT.mp hx) λj hj zq2=>?_;subst zq2;have hj:=D5.mp hj;refine rA (Lp _) ?_
   let ρ':d0:=(bG n5 (ρB m A B l r M C ja t pr w y st tx ha td te ke)).set 16 (some (.d (.int (j:Int))))
   have s1:ce (a9 0) (aL (a9 16)) (aL (a9 7)) ρ' μ=some (.d (.list (bi m (A.drop j))),μ):=by
    have:=GF (m:=m) (ρ:=ρ') (f:=a9 16) (g:=a9 7) (G:=dR A B l r) (a:=j) (b:=A.length) (μ:=μ) rfl rfl rfl (by lia) (by lia) (by lia)
    refine rA this ?_;have e:(T1 j (dR A B l r)).take (A.length-j)=A.drop j:=by
     refine rA NG ?_;refine rA (Mj (by simp)) ?_;exact rA (F9 (by simp)) rfl
    exact rA e rfl
   have s2:ce (a9 0) ba (aL (a9 16)) ρ' μ=some (.d (.list (bi m (A.take j))),μ):=by
    have:=HD (m:=m) (ρ:=ρ') (f:=a9 16) (G:=dR A B l r) (k:=j) (μ:=μ) rfl rfl (by lia) (by lia)
    refine rA this ?_;exact rA (Mj (by lia)) rfl
   have s3:ce (a9 0) (aL (aj (a9 7) (kI 1) aT)) ba ρ' μ=some (.d (.list (bi m B)),μ):=by
    have:=HO (m:=m) (ρ:=ρ') (f:=aj (a9 7) (kI 1) aT) (G:=dR A B l r) (k:=A.length+1) (μ:=μ) rfl (cR (x:=A.length) (y:=1) rfl rfl) (by lia) (by lia)
    refine rA this ?_;have e:T1 (A.length+1) (dR A B l r)=B:=by refine rA NG ?_;simp
    exact rA e rfl
   have p2:aU [aF (a9 5) (kI 2)] ρ' μ=some (.d (.list (bi m [l])),μ):=OW (Qu rfl);have p3:aU [aF (a9 5) (kI 3)] ρ' μ=some (.d (.list (bi m [r])),μ):=OW (Qo rfl);have a1:=DR s1 p2 (by simp;lia);have a2:=DR (DR s2 p3 (by simp;lia)) s3 (by simp;lia);refine (d8 (ds:=[.list (bi m (A.drop j++[l])),.list (bi m (A.take j++[r]++B))]) (an a1 (an a2 bX)) (aa (xF rfl))).trans ?_
   simp [i_]) (by simp;exact aa (by lia))
 refine hcm.trans (congrArg (λL=>some (L,μ)) ?_);rw [j4];refine rA ER ?_;refine rA ER ?_;refine rA (RK _) ?_;apply FL;intro j _
 simp
theorem K9(hz:(dR A B l r).length≤6):eX nc (aK false (af [(aj (a9 7) (kI 1) aT),(aj (af [(a9 0)] dD) (kI 1) aT)] cH)) (du 16) (cW bg (aY (cX [(aj (aU [(aF (a9 5) (kI 3))]) (ce (a9 0) (aL (aj (a9 7) (kI 1) aT)) (aL (a9 16))) aT),(aj (aj (ce (a9 0) ba (aL (a9 7))) (aU [(aF (a9 5) (kI 2))]) aT) (ce (a9 0) (aL (a9 16)) ba) aT)])))
  (ρB m A B l r M C ja t pr w y st tx ha td te ke) μ=some ((iI l r A B []).map (i_ m),μ):=by
 have hG:=qe (A:=A) (B:=B) (l:=l) (r:=r);have hlen:af [a9 0] dD (ρB m A B l r M C ja t pr w y st tx ha td te ke) μ=some (.d (.int ((dR A B l r).length:Nat)),μ):=by
  refine rA (gF (f:=a9 0) (xs:=bi m (dR A B l r)) rfl rfl (by rw [ff];exact aa (by lia))) ?_;exact rA (ff _ _) rfl
 have hi:aK false (af [(aj (a9 7) (kI 1) aT),(aj (af [(a9 0)] dD) (kI 1) aT)] cH) (ρB m A B l r M C ja t pr w y st tx ha td te ke) μ=some ((zd ((dR A B l r).length+1-(A.length+1))).map λ(i:Nat)=>EW ((A.length+1+i:Nat):Int),none,μ):=
  qb (iM (cR (x:=A.length) (y:=1) rfl rfl) (cR hlen rfl) rfl) (by lia) (by lia)
 have hcm:=ip (sc:=nc) (e:=(cX [(aj (aU [(aF (a9 5) (kI 3))]) (ce (a9 0) (aL (aj (a9 7) (kI 1) aT)) (aL (a9 16))) aT),(aj (aj (ce (a9 0) ba (aL (a9 7))) (aU [(aF (a9 5) (kI 2))]) aT) (ce (a9 0) (aL (a9 16)) ba) aT)])) 16
  (λx=>match x with| .int j=>i_ m (r::([]++B.take (j.toNat-(A.length+1))),A++l::B.drop (j.toNat-(A.length+1)))|x=>x) hi (az _ _) (λx hx=>by
   refine au (DT.mp hx) λj hj zq2=>?_;subst zq2;have hj:=D5.mp hj
   let ρ':d0:=(bG nc (ρB m A B l r M C ja t pr w y st tx ha td te ke)).set 16 (some (.d (.int ((A.length+1+j:Nat):Int))))
   have eG:dR A B l r=(A++[.bin false l r])++B:=by simp [dR]
   have s1:ce (a9 0) (aL (aj (a9 7) (kI 1) aT)) (aL (a9 16)) ρ' μ=some (.d (.list (bi m (B.take j))),μ):=by
    have:=GF (m:=m) (ρ:=ρ') (f:=aj (a9 7) (kI 1) aT) (g:=a9 16) (G:=dR A B l r) (a:=A.length+1) (b:=A.length+1+j) (μ:=μ) rfl (cR (x:=A.length) (y:=1) rfl rfl) rfl (by lia) (by lia) (by lia)
    refine rA this ?_;have e:T1 (A.length+1) (dR A B l r)=B:=by refine rA NG ?_;simp
    refine rA e ?_;exact rA (KO _ _) rfl
   have s2:ce (a9 0) ba (aL (a9 7)) ρ' μ=some (.d (.list (bi m A)),μ):=by
    have:=HD (m:=m) (ρ:=ρ') (f:=a9 7) (G:=dR A B l r) (k:=A.length) (μ:=μ) rfl rfl (by lia) (by lia)
    refine rA this ?_;exact rA P8 rfl
   have s3:ce (a9 0) (aL (a9 16)) ba ρ' μ=some (.d (.list (bi m (B.drop j))),μ):=by
    have:=HO (m:=m) (ρ:=ρ') (f:=a9 16) (G:=dR A B l r) (k:=A.length+1+j) (μ:=μ) rfl rfl (by lia) (by lia)
    refine rA this ?_;have e:T1 (A.length+1+j) (dR A B l r)=B.drop j:=by
     refine rA eG ?_;refine rA NG ?_;refine rA (Mp (by simp)) ?_;simp
    exact rA e rfl
   have p2:aU [aF (a9 5) (kI 2)] ρ' μ=some (.d (.list (bi m [l])),μ):=OW (Qu rfl);have p3:aU [aF (a9 5) (kI 3)] ρ' μ=some (.d (.list (bi m [r])),μ):=OW (Qo rfl);have a1:=DR p3 s1 (by simp;lia);have a2:=DR (DR s2 p2 (by simp;lia)) s3 (by simp;lia);refine (d8 (ds:=[.list (bi m ([r]++B.take j)),.list (bi m (A++[l]++B.drop j))]) (an a1 (an a2 bX)) (aa (xF rfl))).trans ?_;simp only [Fd,KO]
   simp [i_]) (by simp;exact aa (by lia))
 refine hcm.trans (congrArg (λL=>some (L,μ)) ?_);rw [jf];refine rA ER ?_;refine rA ER ?_;refine rA hG ?_;refine rA (show A.length+B.length+1+1-(A.length+1)=B.length+1 by lia) ?_;apply FL;intro j _;simp only [Function.comp,Fd,KO]
end
noncomputable abbrev Wy:=List Fm×List Fm
noncomputable def ri(w:Wy):PyData:=.list (nL (bJ w.1))
noncomputable def jJ(m:List Nat)(cs:List Int)(w:Wy):PyData:=.str (tS (uT m cs (bJ w.1)))
noncomputable def lc(m:List Nat)(cs:List Int)(w:Wy):PyData:=if bk m (bJ w.1) then jJ m cs w else .str "('', '')"
theorem nJ:∀l:List Int,qp (iL l)=some l
 | []=>rfl
 |x::l=>by
  exact (bU (rfl:dI (.int x)=some x)).trans (bU (nJ l))
theorem v8{Z:Type}(f g:Z→PyData):∀W:List Z,mM (W.map f) (W.map g)=W.map λw=>.tuple [f w,g w]
 | []=>rfl
 |w::W=>congrArg (_:: ·) (v8 f g W)
theorem wo{Z:Type}(f g h:Z→PyData)(x:List PyData):∀W:List Z,vb (W.map f) (W.map g) (W.map h++x)=W.map λw=>.tuple [f w,g w,h w]
 | []=>rfl
 |w::W=>congrArg (_:: ·) (wo f g h x W)
noncomputable def YO:PyData→List PyData
 | .tuple (_::.list l::_)=>l
 |_=>[]
theorem AE(m:List Nat)(F:Fm):YO (F.enc m)=nL F.pl:=by cases F<;>rfl
theorem tq(m:List Nat):∀G:List Fm,((bi m G).flatMap λx=>if true then (YO x).map (λy=>y) else [])=nL (bJ G)
 | []=>rfl
 |F::G=>by
  have ih:=tq m G;simp only [bi,EV,Fe,if_true,TC] at ih⊢
  refine rA ih ?_;refine rA (AE _ _) ?_;refine rA (b6 _ _) ?_
  simp [nL]
theorem pb(h:da μ (.c n)=some xs):cu (EZ (.c n)) xs μ:= λj e=>by
 refine cA e ?_;exact h
section
variable {R:PyData} {t o pr k y st:Option AV} {W:List Wy}
theorem yD(hn:da μ (.c n)=some (W.map (i_ m)))(hW:W.length≤100)(hw:∀w∈W,(bJ w.1).length≤6):
  eX nj (aK false (a9 8)) (du 16) (cW bg (aY (cb n4 (aK false (aF (a9 16) (kI 0))) (du 17) (cW bg (gf (aK false (aF (a9 17) (kI 1))) (du 18) (cW bg (aY (a9 18)))))))) (mQ R (.list (nL m)) (.list (iL cs)) ja t o pr k (some (.c n)) y st tx ha td te ke) μ=some (W.map ri,μ):=by
 have hcm:=ip (sc:=nj) (itf:=aK false (a9 8)) (e:=(cb n4 (aK false (aF (a9 16) (kI 0))) (du 17) (cW bg (gf (aK false (aF (a9 17) (kI 1))) (du 18) (cW bg (aY (a9 18))))))) (ρ:=mQ R (.list (nL m)) (.list (iL cs)) ja t o pr k (some (.c n)) y st tx ha td te ke) (μ:=μ) (xs:=W.map (i_ m)) (g:=EZ (.c n)) 16
  (λx=>match x with| .tuple [.list E,_]=>.list (E.flatMap λx=>if true then (YO x).map (λy=>y) else [])|x=>x) (d7 (V:=.c n) rfl hn) (pb hn) (λx hx=>by
   refine au (DT.mp hx) λw hwm zq2=>?_;subst zq2;have hl:=hw w hwm;have hg:=fp w.1;have hi:aK false (aF (a9 16) (kI 0)) ((bG nj (mQ R (.list (nL m)) (.list (iL cs)) ja t o pr k (some (.c n)) y st tx ha td te ke)).set 16 (some (.d (i_ m w)))) μ=some (bi m w.1,none,μ):=
    d7 (V:=.d (.list (bi m w.1))) (cF (f:=a9 16) (g:=kI 0) (V:=.d (i_ m w)) (xs:=[.list (bi m w.1),.list (bi m w.2)]) (k:=0) rfl rfl rfl (by decide) rfl (aa (xF rfl))) rfl
   have hin:=p8 (sc:=n4) (itf:=aK false (aF (a9 16) (kI 0))) (itf2:=aK false (aF (a9 17) (kI 1))) (t:=bg) (e:=a9 18) 17 18 (by decide) (λzz=>true) YO (λzz y=>y) hi (az _ _) (λzz zz zz=>rfl) (λx hx zz w'=>by
    refine au (DT.mp hx) λF hF zq2=>?_;subst zq2;have e:YO (F.enc m)=nL F.pl:=AE m F;refine rA e ?_;exact d7 (V:=.d (.list (nL F.pl))) (qQ (m:=m) (F:=F) rfl) rfl) (λzz zz zz zz zz=>rfl) (by refine rA (tq _ _) ?_;rw [nL];refine rA (xJ _) ?_;exact aa (by lia))
   exact bY hin) (by refine rA (xJ _) ?_;exact aa (by lia))
 refine hcm.trans (congrArg (λL=>some (L,μ)) ?_);refine rA ER ?_;apply FL;intro w _;refine (?_:O1 _=O1 _);exact rA (tq _ _) rfl
theorem Kp(hm:m.length=6)(hc:cs.length=6)(hW:W.length≤100)(hw:∀w∈W,(bJ w.1).length≤6∧∀p∈bJ w.1,p<6):
  eX rI (aK false (a9 10)) (du 16) (cW bg (aY (dv (kS "") [(af [(a9 16),(a9 1),(a9 2),(kB false)] bB)] fg))) (mQ R (.list (nL m)) (.list (iL cs)) ja t o pr k (some (.c n)) y (some (.d (.list (W.map ri)))) tx ha td te ke) μ=some (W.map (jJ m cs),μ):=by
 have hcm:=ip (sc:=rI) (itf:=aK false (a9 10)) (e:=(dv (kS "") [(af [(a9 16),(a9 1),(a9 2),(kB false)] bB)] fg)) (ρ:=mQ R (.list (nL m)) (.list (iL cs)) ja t o pr k (some (.c n)) y (some (.d (.list (W.map ri)))) tx ha td te ke) (μ:=μ) (xs:=W.map ri) (g:=none) 16
  (λx=>match x with| .list l=>.str (tS (uT m cs (l.map λ| .int i=>i.toNat|_=>0)))|x=>x) (d7 (V:=.d (.list (W.map ri))) rfl rfl) (az _ _) (λx hx=>by
   refine au (DT.mp hx) λw hwm zq2=>?_;subst zq2;refine fY (hw w hwm) λh1 h2=>?_;have e:(nL (bJ w.1)).map (λ|EW i=>i.toNat|_=>0)=bJ w.1:=by
    simp [nL,ER,MO]
   refine (?_:_=some (AV.d (.str (tS (uT m cs ((nL (bJ w.1)).map _)))),μ));refine rA e ?_;exact th (pl:=bJ w.1) hm hc h2 (by lia) rfl rfl rfl) (by refine rA (xJ _) ?_;exact aa (by lia))
 refine hcm.trans (congrArg (λL=>some (L,μ)) ?_);refine rA ER ?_;apply FL;intro w _;refine (?_:Lh (tS (uT m cs ((nL (bJ w.1)).map _)))=_);have e:(nL (bJ w.1)).map (λ|EW i=>i.toNat|_=>0)=bJ w.1:=by
  simp [nL,ER,MO]
 refine rA e ?_;rfl
end
theorem DY{R:PyData}{t o pr k y:Option AV}{W:List Wy}(hi:i<5)(hW:W.length≤100)(hw:∀w∈W,(bJ w.1).Sublist (zd 6)):
  eX nZ (b_ [(a9 11),(a9 10)] lg) (ji 16 17) (cW bg (aY (dx (bA (af [(cb ly (aK false (a9 17)) (du 18) (cW bg (aY (aF (a9 1) (a9 18)))))] k_) (a9 17) dH) (a9 16) (kS "('', '')"))))
   (mQ R (.list (nL (aH.getD i []))) (.list (iL cs)) ja t o pr k (some (.c n)) y (some (.d (.list (W.map ri)))) (some (.d (.list (W.map (jJ (aH.getD i []) cs))))) ha td te ke) μ=some (W.map (lc (aH.getD i []) cs),μ):=by
 have hm:=mr hi;have hsc:= λ(s:List Nat) (hs:s.Sublist (zd 6))=>wP hi hs;generalize aH.getD i []=m at*
 let ρ0:=mQ R (.list (nL m)) (.list (iL cs)) ja t o pr k (some (.c n)) y (some (.d (.list (W.map ri)))) (some (.d (.list (W.map (jJ m cs))))) ha td te ke
 have hit:b_ [(a9 11),(a9 10)] lg ρ0 μ=some (W.map (λw=>Im [jJ m cs w,ri w]),none,μ):=by
  refine rB (v8 _ _ _) ?_;rfl
 have hcm:=si (sc:=nZ) (e:=(dx (bA (af [(cb ly (aK false (a9 17)) (du 18) (cW bg (aY (aF (a9 1) (a9 18)))))] k_) (a9 17) dH) (a9 16) (kS "('', '')"))) (ρ:=ρ0) (μ:=μ) 16 17 (by decide)
  (λx=>match x with| .tuple [T,.list l]=>if bk m (l.map λ| .int i=>i.toNat|_=>0) then T else .str "('', '')"|x=>x) hit (az _ _) (λx hx=>by
   refine au (DT.mp hx) λw hwm zq2=>?_;subst zq2;refine (fX (jJ m cs w) (ri w) rfl ?_);have hs:=hw w hwm;have hl:=iw hs;have e:(nL (bJ w.1)).map (λ|EW i=>i.toNat|_=>0)=bJ w.1:=by
    simp [nL,ER,MO]
   refine (?_:_=some (AV.d (if bk m ((nL (bJ w.1)).map _) then jJ m cs w else .str "('', '')"),μ));refine rA e ?_
   let ρ1:d0:=((bG nZ ρ0).set 16 (some (.d (jJ m cs w)))).set 17 (some (.d (ri w)))
   have hin:=ip (sc:=ly) (itf:=aK false (a9 17)) (e:=aF (a9 1) (a9 18)) (ρ:=ρ1) (μ:=μ) (xs:=nL (bJ w.1)) (g:=none) 18 (λx=>match x with| .int i=>.int (m.getD i.toNat 0:Nat)|x=>x) (d7 (V:=.d (.list (nL (bJ w.1)))) rfl rfl) (az _ _) (λx hx=>by
    refine au (DT.mp hx) λp hp zq2=>?_;subst zq2
    have:=pq hs p hp
    exact yH (V:=.d (.list (nL m))) (k:=p) rfl rfl rfl (by lia) (by lia)) (by rw [nL];refine rA (xJ _) ?_;exact aa (by lia))
   have e2:(nL (bJ w.1)).map (λx=>match x with| .int i=>EW (m.getD i.toNat 0:Nat)|x=>x)=iL ((bJ w.1).map λp=>(m.getD p 0:Int)):=by
    simp only [nL,iL,ER];rfl
   rw [e2] at hin
   have hso:af [(cb ly (aK false (a9 17)) (du 18) (cW bg (aY (aF (a9 1) (a9 18)))))] k_ ρ1 μ=some (.d (.list (iL (iV ((bJ w.1).map λp=>(m.getD p 0:Int))))),μ):=by
    refine d4 (bY hin) ?_;exact (bU (rfl:l1 [_]=some _)).trans ((bU (rfl:da μ (.d (.list _))=some _)).trans ((bU (nJ _)).trans (if_pos (by simp;lia))))
   have e3:a9 17 ρ1 μ=some (.d (.list (iL ((bJ w.1).map λ(p:Nat)=>(p:Int)))),μ):=by
    refine (?_:some (AV.d (.list (nL (bJ w.1))),μ)=_);simp only [nL,iL,ER];rfl
   have hcmp:=dG hso e3 (C9 _ _ μ);rw [hsc _ hs] at hcmp
   refine lk hcmp (λh=>?_) (λh=>?_)
   ·refine rA (if_pos h) ?_;rfl
   ·refine rA (if_neg (by rw [h];exact G_)) ?_;rfl) (by refine rA (xJ _) ?_;exact aa (by lia))
 refine hcm.trans (congrArg (λL=>some (L,μ)) ?_);refine rA ER ?_;apply FL;intro w _;have e:(nL (bJ w.1)).map (λ|EW i=>i.toNat|_=>0)=bJ w.1:=by
  simp [nL,ER,MO]
 refine (?_:(if bk m ((nL (bJ w.1)).map _) then jJ m cs w else .str "('', '')")=_);refine rA e ?_;rfl
theorem p6{b c:Bool}(hf:f ρ μ=some (.d (.bool b),μ1))(hg:b=true→g ρ μ1=some (.d (.bool c),μ2)):rM f g ρ μ=if b then some (.d (.bool c),μ2) else some (.d (.bool false),μ1):=by
 refine (b5 hf).trans ((bU (rfl:jN (.d (.bool b)) μ1=some b)).trans ?_);cases b with
 |true=>exact hg rfl
 |false=>rfl
def oB(i:Nat)(cs:List Int)(ja:Nat)(s:a_)(rc:List Fm→Bool)(st0:Nat):Prop:=
 ∀ (G:List Fm) (μ:List ah) (X:List PyData),μ[ja]? =some (.live X)→(bJ G).Sublist (zd 6)→bk (aH.getD i []) (bJ G)=true→jj G<st0→X.length+40*jj G+12≤5000→
  ∃Y,(∀x∈Y,Good x)∧Y.length≤40*jj G+12∧s [.d (.list (bi (aH.getD i []) G)),.d (.list (nL (aH.getD i []))),.d (.list (iL cs)),.c ja] μ=some (.d (.bool (rc G)),μ.set ja (.live (X++Y)))
abbrev bz(s:a_):SF:=(ap (jG (bA (a9 15) (a9 14) dH) (ap (fe (rM (af [(aF (a9 9) (kI 0)),(a9 1),(a9 2),(a9 3)] s) (af [(aF (a9 9) (kI 1)),(a9 1),(a9 2),(a9 3)] s))) aP) aP) aP)
noncomputable def Cw(m:List Nat)(cs:List Int)(w:Wy):PyData:=.tuple [i_ m w,jJ m cs w,lc m cs w]
theorem Vr{w:Wy}(h15:a9 15 ρ μ=some (.d (lc m cs w),μ))(h14:a9 14 ρ μ=some (.d (jJ m cs w),μ)):bA (a9 15) (a9 14) dH ρ μ=some (bk m (bJ w.1),μ):=by
 cases q:bk m (bJ w.1) with
 |true=>
  have e:lc m cs w=jJ m cs w:=by unfold lc;exact rA (if_pos q) rfl
  rw [e] at h15
  refine dG h15 h14 ?_;refine (?_:some (tS (uT m cs (bJ w.1))==tS (uT m cs (bJ w.1)))=_);exact rA (beq_self_eq_true _) rfl
 |false=>
  have e:lc m cs w=.str "('', '')":=by unfold lc;exact rA (if_neg (by rw [q];exact G_)) rfl
  rw [e] at h15
  refine dG h15 h14 ?_;refine (?_:some (("('', '')":Str)==tS (uT m cs (bJ w.1)))=_)
  have:tS (uT m cs (bJ w.1))≠("('', '')":Str):=Nl (gh m cs false (bJ w.1)).2
  exact rA (beq_eq_false_iff_ne.mpr (λh=>this h.symm)) rfl
theorem He(h:μ[j]? =some c):(μ.set j c')[j]? =some c':=by
 rw [Ms (Bm.mp h).1]
theorem QX{R:PyData}{n st0:Nat}{s:a_}{t o pr k st tx ha td w8:Option AV}(xs:List PyData)(hrec:oB i cs ja s rc st0)(hj:μ[ja]? =some (.live X))(hX:X.length+40*st0≤5000):
  ∀ (r:List Wy) (y te ke:Option AV),(∀w∈r,(bJ w.1).Sublist (zd 6)∧(bJ w.2).Sublist (zd 6)∧(bk (aH.getD i []) (bJ w.1)=true→bk (aH.getD i []) (bJ w.2)=true)∧jj w.1+jj w.2+1=st0)→
  ∃y' te' ke' Y μ',(∀x∈Y,Good x)∧(Y.length≤40*st0∧(r.find? (λw=>bk (aH.getD i []) (bJ w.1))=none→Y=[]))∧μ'=μ.set ja (.live (X++Y))∧
   fS (ZB 9 14 15) (bz s) aP none xs (r.map (Cw (aH.getD i []) cs)) (mQ R (.list (nL (aH.getD i []))) (.list (iL cs)) ja t o pr k w8 y st tx ha td te ke) μ=
    some ((match r.find? (λw=>bk (aH.getD i []) (bJ w.1)) with|some w=>.ret (.d (.bool (rc w.1&&rc w.2)))|none=>.next),mQ R (.list (nL (aH.getD i []))) (.list (iL cs)) ja t o pr k w8 y' st tx ha td te' ke',μ')
 | [],y,te,ke,_=>(i8 y te ke ([]) μ (by simp) ⟨by simp,λzz=>rfl⟩ (by refine rA (DN _) ?_;exact rA (eJ hj) rfl) rfl)
 |w::r,y,te,ke,h=>by
  refine mA (h w (by simp)) λh1 h2 h3 h4=>?_
  let m:=aH.getD i []
  let ρ1:=mQ R (.list (nL m)) (.list (iL cs)) ja t o pr k w8 (some (.d (i_ m w))) st tx ha td (some (.d (jJ m cs w))) (some (.d (lc m cs w)))
  have tf:ZB 9 14 15 (mQ R (.list (nL m)) (.list (iL cs)) ja t o pr k w8 y st tx ha td te ke) (Cw m cs w)=some ρ1:=rfl;have ht:bA (a9 15) (a9 14) dH ρ1 μ=some (bk m (bJ w.1),μ):=Vr rfl rfl;cases q:bk m (bJ w.1) with
  |true=>
   refine cm (hrec w.1 μ X hj h1 q (by lia) (by lia)) λY1 g1 l1 e1=>?_;refine cm (hrec w.2 (μ.set ja (.live (X++Y1))) (X++Y1) (He hj) h2 (h3 q) (by lia) (by refine rA be ?_;lia)) λY2 g2 l2 e2=>?_;have a1:∀μ,aF (a9 9) (kI 0) ρ1 μ=some (.d (.list (bi m w.1)),μ):= λμ=>cF (V:=.d (i_ m w)) (xs:=[.list (bi m w.1),.list (bi m w.2)]) (k:=0) rfl rfl rfl (by decide) rfl (aa (xF rfl));have a2:∀μ,aF (a9 9) (kI 1) ρ1 μ=some (.d (.list (bi m w.2)),μ):= λμ=>cF (V:=.d (i_ m w)) (xs:=[.list (bi m w.1),.list (bi m w.2)]) (k:=1) rfl rfl rfl (by decide) rfl (aa (xF rfl));have c1:af [(aF (a9 9) (kI 0)),(a9 1),(a9 2),(a9 3)] s ρ1 μ=_:=t0 (a1 μ) rfl rfl rfl e1;have c2:af [(aF (a9 9) (kI 1)),(a9 1),(a9 2),(a9 3)] s ρ1 (μ.set ja (.live (X++Y1)))=_:=t0 (a2 _) rfl rfl rfl e2;have ca:=p6 c1 (λzz=>c2);have hfind:(w::r).find? (λw=>bk m (bJ w.1))=some w:=by rw [M6];exact rA q rfl
   refine rA hfind ?_;cases hb:rc w.1 with
   |true=>
    rw [hb] at ca
    simp only [if_true,Hb,Eg] at ca
    refine (i8 (some (.d (i_ m w))) (some (.d (jJ m cs w))) (some (.d (lc m cs w))) (Y1++Y2) _ ?_ ⟨by refine rA be ?_;lia,λh=>nomatch h⟩ rfl ?_)
    ·intro x hx
     exact (AZ.mp hx).elim (g1 x) (g2 x)
    ·refine rA EV ?_
     refine qy tf ?_;refine cT ?_;refine (gB ht q).trans ?_;exact cT (dY (ca.trans (by refine rA hb ?_;exact rA (T6 _) rfl)))
   |false=>
    rw [hb] at ca
    refine (i8 (some (.d (i_ m w))) (some (.d (jJ m cs w))) (some (.d (lc m cs w))) Y1 _ g1 ⟨by lia,λh=>nomatch h⟩ rfl ?_);refine rA EV ?_;refine qy tf ?_;refine cT ?_;refine (gB ht q).trans ?_;exact cT (dY (ca.trans (by refine rA hb ?_;refine rA (Bool.false_and _) ?_;rfl)))
  |false=>
   refine ft (QX (R:=R) (t:=t) (o:=o) (pr:=pr) (k:=k) (st:=st) (tx:=tx) (ha:=ha) (td:=td) (w8:=w8) (n:=n) xs hrec hj hX r (some (.d (i_ m w))) (some (.d (jJ m cs w))) (some (.d (lc m cs w))) (λv hv=>h v (by simp [hv]))) λy' te' ke' Y μ' g gl gm e=>?_;have hfind:(w::r).find? (λw=>bk m (bJ w.1))=r.find? (λw=>bk m (bJ w.1)):=by rw [M6];exact rA q rfl
   refine rA hfind ?_;refine (i8 y' te' ke' Y μ' g gl gm ?_);refine rA EV ?_;refine LA (dQ tf ?_ (az _ _)) e;refine (aB ?_).trans bK;exact (gS ht q).trans bK
abbrev QJ:SF:=(g9 8 n5 (aK false (af [(aj (a9 7) (kI 1) aT)] cH)) (du 16) (cW bg (aY (cX [(aj (ce (a9 0) (aL (a9 16)) (aL (a9 7))) (aU [(aF (a9 5) (kI 2))]) aT),(aj (aj (ce (a9 0) ba (aL (a9 16))) (aU [(aF (a9 5) (kI 3))]) aT) (ce (a9 0) (aL (aj (a9 7) (kI 1) aT)) ba) aT)]))) true)
abbrev RX:SF:=(ci (rT (a9 8) (cb nc (aK false (af [(aj (a9 7) (kI 1) aT),(aj (af [(a9 0)] dD) (kI 1) aT)] cH)) (du 16) (cW bg (aY (cX [(aj (aU [(aF (a9 5) (kI 3))]) (ce (a9 0) (aL (aj (a9 7) (kI 1) aT)) (aL (a9 16))) aT),(aj (aj (ce (a9 0) ba (aL (a9 7))) (aU [(aF (a9 5) (kI 2))]) aT) (ce (a9 0) (aL (a9 16)) ba) aT)]))))))
abbrev QK:SF:=(g9 10 nj (aK false (a9 8)) (du 16) (cW bg (aY (cb n4 (aK false (aF (a9 16) (kI 0))) (du 17) (cW bg (gf (aK false (aF (a9 17) (kI 1))) (du 18) (cW bg (aY (a9 18)))))))) false)
abbrev Sf:SF:=(g9 11 rI (aK false (a9 10)) (du 16) (cW bg (aY (dv (kS "") [(af [(a9 16),(a9 1),(a9 2),(kB false)] bB)] fg))) false)
abbrev P_:SF:=(c6 12 (af [(a9 11)] mw))
abbrev QB:SF:=(c6 13 (af [(a9 12)] aX))
abbrev Rj:SF:=(ci (rT (a9 3) (aU [(cX [(af [(a9 13)] mw),(cb nZ (b_ [(a9 11),(a9 10)] lg) (ji 16 17) (cW bg (aY (dx (bA (af [(cb ly (aK false (a9 17)) (du 18) (cW bg (aY (aF (a9 1) (a9 18)))))] k_) (a9 17) dH) (a9 16) (kS "('', '')")))))]),(cX [(a9 12),(a9 11)])])))
abbrev PP:SF:=(ci (ef (a9 13) (kS "")))
abbrev QR(s:a_):SF:=(jH (b_ [(a9 8),(a9 11),(a9 13)] BQ) (ZB 9 14 15) (ap (jG (bA (a9 15) (a9 14) dH) (ap (fe (rM (af [(aF (a9 9) (kI 0)),(a9 1),(a9 2),(a9 3)] s) (af [(aF (a9 9) (kI 1)),(a9 1),(a9 2),(a9 3)] s))) aP) aP) aP) aP)
abbrev k70(s:a_):SF:=ap QJ (ap RX (ap QK (ap Sf (ap P_ (ap QB (ap Rj (ap PP (ap (QR s) aP))))))))
abbrev Am(s:a_):SF:=(ap (jG (bA (aF (a9 5) (kI 0)) (jF ki (kS "*")) dH) (k70 s) aP) aP)
theorem Hv(s:a_):Cm s=jH (b_ [(a9 0)] f_) (ji 7 5) (Am s) aP:=rfl
theorem O8{w:Wy}:p0 n (lc m cs w):=by
 unfold lc
 split
 ·exact ix (yG m cs false (bJ w.1))
 ·exact B5 (by decide+kernel)
theorem N7{w:Wy}:p0 n (jJ m cs w):=ix (yG m cs false (bJ w.1))
theorem AX{Z:Type}{f:Z→PyData}{W:List Z}(h:∀w,p0 n (f w)):p0 (n+1) (.list (W.map f)):=gH λx hx=>by
 refine au (DT.mp hx) λw zz zq2=>?_;subst zq2;exact h w
theorem aa5{a b:ah}:(μ++[a,b])[μ.length]? =some a:=by simp
theorem JY{a b:ah}:(μ++[a,b])[μ.length+1]? =some b:=by simp
theorem TD{a b:ah}:(μ++[a,b]).set μ.length c=μ++[c,b]:=by simp
theorem Hk{a b:ah}:(μ++[a,b]).set (μ.length+1) c=μ++[a,c]:=by
 refine rA (List.set_append_right _ _ (by lia)) ?_;simp
theorem tI{δ:List ah}(h:μ[j]? =some c):(μ++δ)[j]? =some c:=by
 rw [EY (Bm.mp h).1];exact h
theorem tJ{δ:List ah}(h:μ[j]? =some c):(μ++δ).set j c'=μ.set j c'++δ:=by
 rw [Sc _ _ (Bm.mp h).1]
noncomputable abbrev kj(A B:List Fm)(l r:Fm):List Wy:=gR l r B A []++iI l r A B []
theorem IZ(A B:List Fm)(l r:Fm):(kj A B l r).length=A.length+B.length+2:=by
 simp only [kj,be,j4,jf,xJ,Ib];lia
theorem Sz{A:List Fm}{s:a_}{t pr w y st:Option AV}(hi:i<5)(hc:cs.length=6)
  (hs:(bJ (dR A B l r)).Sublist (zd 6)) (hcl:bk (aH.getD i []) (bJ (dR A B l r))=true) (hrec:oB i cs ja s rc (jj (dR A B l r))) (hj:μ[ja]? =some (.live X)) (hX:X.length+2+40*jj (dR A B l r)≤5000):
  ∃w' y' st' tx' ha' td' te' ke' Y δ,(∀x∈Y,Good x)∧(Y.length≤2+40*jj (dR A B l r)∧((kj A B l r).find? (λw=>bk (aH.getD i []) (bJ w.1))=none→Y.length≤2))∧
   k70 s (ρB (aH.getD i []) A B l r (.list (nL (aH.getD i []))) (.list (iL cs)) ja t pr w y st tx ha td te ke) μ=
    some ((match (kj A B l r).find? (λw=>bk (aH.getD i []) (bJ w.1)) with|some w=>.ret (.d (.bool (rc w.1&&rc w.2)))|none=>.next),
     ρB (aH.getD i []) A B l r (.list (nL (aH.getD i []))) (.list (iL cs)) ja t pr w' y' st' tx' ha' td' te' ke',μ.set ja (.live (X++Y))++δ):=by
 have hm:=mr hi;have hlen:=iw hs;have hG:=fp (dR A B l r);have hGl:=qe (A:=A) (B:=B) (l:=l) (r:=r);have hz:(dR A B l r).length≤6:=by lia
 have hw:∀w∈kj A B l r,(bJ w.1).Sublist (zd 6)∧(bJ w.2).Sublist (zd 6)∧(bk (aH.getD i []) (bJ w.1)=true→bk (aH.getD i []) (bJ w.2)=true)∧jj w.1+jj w.2+1=jj (dR A B l r):= λw hw=>by
  have hcut:=Km hw;exact (lj ((sO hcut).sublist.trans hs) ((H0 hcut).trans hs) (Aq hi hcut hs hcl) (Um hcut))
 have hbal:∀w∈kj A B l r,Ly (aH.getD i []) (bJ w.1)=bk (aH.getD i []) (bJ w.1):= λw hw=>z9 hi hs hcl (sO (Km hw));have hwl:=IZ A B l r;generalize hWW:kj A B l r=W at*
 have hW100:W.length≤100:=by lia
 let m:=aH.getD i []
 let n:=μ.length
 let wD:=W.map (i_ m)
 let kD:=W.map (lc m cs)
 let tD:=W.map (jJ m cs)
 let sD:=W.map ri
 let μ2:=μ++[ah.live wD]
 let μ6:=μ++[ah.live wD,ah.live kD]
 have e0:QJ (ρB m A B l r (.list (nL m)) (.list (iL cs)) ja t pr w y st tx ha td te ke) μ=some (.next,ρB m A B l r (.list (nL m)) (.list (iL cs)) ja t pr (some (.c n)) y st tx ha td te ke,μ++[ah.live ((gR l r B A []).map (i_ m))]):=V9 (Fs hz);have e1:RX (ρB m A B l r (.list (nL m)) (.list (iL cs)) ja t pr (some (.c n)) y st tx ha td te ke) (μ++[ah.live ((gR l r B A []).map (i_ m))])=some (.next,ρB m A B l r (.list (nL m)) (.list (iL cs)) ja t pr (some (.c n)) y st tx ha td te ke,μ2):=by
  refine (eA (oV (j:=n) rfl (bY (K9 hz)) dp (aa (by
   rw [j4,jf];simp;lia)))).trans ?_
  refine rA fh ?_;refine rB IQ ?_;refine (?_:some (Fl.next,_,μ++[ah.live ((kj A B l r).map (i_ m))])=_);exact rA hWW rfl
 have hp2:da μ2 (.c n)=some wD:=eN dp;have e2:QK (ρB m A B l r (.list (nL m)) (.list (iL cs)) ja t pr (some (.c n)) y st tx ha td te ke) μ2=some (.next,ρB m A B l r (.list (nL m)) (.list (iL cs)) ja t pr (some (.c n)) y (some (.d (.list sD))) tx ha td te ke,μ2):=ju (yD hp2 hW100 λw h=>iw (hw w h).1);have e3:Sf (ρB m A B l r (.list (nL m)) (.list (iL cs)) ja t pr (some (.c n)) y (some (.d (.list sD))) tx ha td te ke) μ2=some (.next,ρB m A B l r (.list (nL m)) (.list (iL cs)) ja t pr (some (.c n)) y (some (.d (.list sD))) (some (.d (.list tD))) ha td te ke,μ2):=ju (Kp hm hc hW100 λw h=>⟨iw (hw w h).1,pq (hw w h).1⟩);have e4:P_ (ρB m A B l r (.list (nL m)) (.list (iL cs)) ja t pr (some (.c n)) y (some (.d (.list sD))) (some (.d (.list tD))) ha td te ke) μ2=some (.next,ρB m A B l r (.list (nL m)) (.list (iL cs)) ja t pr (some (.c n)) y (some (.d (.list sD))) (some (.d (.list tD))) (some (.d (.list tD))) td te ke,μ2):=by
  refine bO (d4 (V:=.d (.list tD)) rfl ?_);exact AT rfl (by simp only [tD,xJ];exact aa (by lia))
 have hvs:(W.map λw=>units m cs false (bJ w.1)).map (λvs=>Lh (tS vs.flatten))=tD:=by refine rA ER ?_;rfl
 have hkp:(W.map λw=>units m cs false (bJ w.1)).map j_=kD:=by
  refine rA ER ?_;apply FL;intro w hwm;refine (?_:j_ (units m cs false (bJ w.1))=lc m cs w);unfold j_ lc;refine rA (Cy _ _ _) ?_;refine rA (hbal w hwm) ?_;rfl
 have e5:QB (ρB m A B l r (.list (nL m)) (.list (iL cs)) ja t pr (some (.c n)) y (some (.d (.list sD))) (some (.d (.list tD))) (some (.d (.list tD))) td te ke) μ2=some (.next,ρB m A B l r (.list (nL m)) (.list (iL cs)) ja t pr (some (.c n)) y (some (.d (.list sD))) (some (.d (.list tD))) (some (.d (.list tD))) (some (.c (n+1))) te ke,μ6):=by
  have h4:=s4 (vss:=W.map λw=>units m cs false (bJ w.1)) (μ:=μ2) (λvs hv=>by
   refine eC λGG kG=>?_;refine au (DT.mp hv) λw hwm zq2=>?_;subst zq2;refine kG ?_;have h6:=iw (hw w hwm).1
   have:=(gh m cs false (bJ w.1)).1
   have:=hZ m cs false (bJ w.1)
   exact (fm (m8 m cs false (bJ w.1)) (by lia) (by lia))) (by refine rA (xJ _) ?_;lia)
  rw [hvs,hkp] at h4
  have hl2:μ2.length=n+1:=by simp [μ2,n]
  rw [hl2] at h4
  refine (bO (d4 (V:=.d (.list tD)) rfl h4)).trans ?_;simp only [μ2,μ6,Eg];rfl
 let ρ6:=ρB m A B l r (.list (nL m)) (.list (iL cs)) ja t pr (some (.c n)) y (some (.d (.list sD))) (some (.d (.list tD))) (some (.d (.list tD))) (some (.c (n+1))) te ke
 let t1:PyData:=.tuple [.list kD,.list kD]
 let t2:PyData:=.tuple [.list tD,.list tD]
 have e6:Rj ρ6 μ6=some (.next,ρ6,μ.set ja (.live (X++[t1,t2]))++[ah.live wD,ah.live kD]):=by
  have hl1:af [a9 13] mw ρ6 μ6=some (.d (.list kD),μ6):=by
   refine d4 (V:=.c (n+1)) rfl ?_;exact AT (eN JY) (by simp only [kD,xJ];exact aa (by lia))
  have hx:=bY (DY (i:=i) (cs:=cs) (R:=.list (bi m (dR A B l r))) (ja:=ja) (n:=n) (t:=t) (o:=some (.d ((Fm.bin false l r).enc m))) (pr:=pr) (k:=some (.d (.int A.length))) (y:=y) (ha:=some (.d (.list tD))) (td:=some (.c (n+1))) (te:=te) (ke:=ke) (μ:=μ6) (W:=W) hi hW100 λw h=>(hw w h).1);have q1:=d8 (ds:=[.list kD,.list kD]) (an hl1 (an hx bX)) (aa (xF rfl));have q2:cX [a9 12,a9 11] ρ6 μ6=some (.d t2,μ6):=d8 (ds:=[.list tD,.list tD]) rfl (aa (xF rfl));have q3:=dF (ds:=[t1,t2]) (an q1 (an q2 bX)) (aa (xF rfl));refine (eA (oV (j:=ja) rfl q3 (tI hj) (aa (by simp;lia)))).trans ?_;exact rA (tJ hj) rfl
 have hsl:(μ.set ja (.live (X++[t1,t2]))).length=n:=by simp [n]
 generalize hν:μ.set ja (.live (X++[t1,t2]))=ν at e6 hsl
 have e7:PP ρ6 (ν++[ah.live wD,ah.live kD])=some (.next,ρ6,ν++[ah.live wD,ah.live (kD++[.str ""])]):=by
  refine (eA (gk (j:=n+1) (d:=.str "") rfl rfl (by refine rB hsl ?_;exact JY) (by simp only [kD,xJ];exact aa (by lia)))).trans ?_;refine rB hsl ?_;exact rA Hk rfl
 have hz3:b_ [(a9 8),(a9 11),(a9 13)] BQ ρ6 (ν++[ah.live wD,ah.live (kD++[.str ""])])=some (W.map (Cw m cs),none,ν++[ah.frozen wD,ah.frozen (kD++[.str ""])]):=by
  have f1:wg (.c n) (ν++[ah.live wD,ah.live (kD++[.str ""])])=some (.list wD,ν++[ah.frozen wD,ah.live (kD++[.str ""])]):=by
   refine rB hsl ?_;exact (qu aa5).trans (by rw [TD])
  have f2:wg (.c (n+1)) (ν++[ah.frozen wD,ah.live (kD++[.str ""])])=some (.list (kD++[.str ""]),ν++[ah.frozen wD,ah.frozen (kD++[.str ""])]):=by
   refine rB hsl ?_;exact (qu JY).trans (by rw [Hk])
  have ev:eY [(a9 8),(a9 11),(a9 13)] ρ6 (ν++[ah.live wD,ah.live (kD++[.str ""])])=some ([.c n,.d (.list tD),.c (n+1)],ν++[ah.live wD,ah.live (kD++[.str ""])]):=rfl;have fz:lJ [.c n,.d (.list tD),.c (n+1)] (ν++[ah.live wD,ah.live (kD++[.str ""])])=some ([.list wD,.list tD,.list (kD++[.str ""])],ν++[ah.frozen wD,ah.frozen (kD++[.str ""])]):=fE f1 (fE rfl (fE f2 rfl));refine (b5 ev).trans ((b5 fz).trans (?_:some (vb wD tD (kD++[.str ""]),none,_)=_));simp only [wD,tD,kD,wo];rfl
 have hjν:(ν++[ah.frozen wD,ah.frozen (kD++[.str ""])])[ja]? =some (.live (X++[t1,t2])):=tI (by refine rB hν ?_;exact He hj);refine eC λGG kG=>?_;obtain ⟨y',te',ke',Y,μ',g,gl,gm,e8⟩:=QX (i:=i) (cs:=cs) (R:=.list (bi m (dR A B l r))) (ja:=ja) (n:=n) (st0:=jj (dR A B l r)) (s:=s) (rc:=rc) (t:=t) (o:=some (.d ((Fm.bin false l r).enc m))) (pr:=pr) (k:=some (.d (.int A.length))) (st:=some (.d (.list sD))) (tx:=some (.d (.list tD))) (ha:=some (.d (.list tD))) (td:=some (.c (n+1))) (w8:=some (.c n))
  (μ:=ν++[ah.frozen wD,ah.frozen (kD++[.str ""])]) (X:=X++[t1,t2]) (W.map (Cw m cs)) hrec hjν (by simp;lia) W y te ke hw
 have e9:QR s ρ6 (ν++[ah.live wD,ah.live (kD++[.str ""])])=_:=(gJ hz3).trans e8;have hμ':μ'=μ.set ja (.live (X++([t1,t2]++Y)))++[ah.frozen wD,ah.frozen (kD++[.str ""])]:=by
  refine rA gm ?_;refine rA (tJ (c:=.live (X++[t1,t2])) (by rw [←hν];exact He hj)) ?_;refine rB hν ?_;refine rA (Hb _) ?_;exact rA (Eg _ _ _) rfl
 subst hμ';refine kG ?_;refine ⟨some (.c n),y',some (.d (.list sD)),some (.d (.list tD)),some (.d (.list tD)),some (.c (n+1)),te',ke',[t1,t2]++Y,[ah.frozen wD,ah.frozen (kD++[.str ""])],?_,⟨by simp;lia,λh=>by refine rA (gl.2 h) ?_;simp⟩,?_⟩
 ·intro x hx
  rcases AZ.mp hx with q|q
  ·simp only [C1,E4,or_false] at q
   rcases q with rfl|rfl
   ·exact dK (n:=1) (AX λzz=>O8) (by decide)
   ·exact dK (n:=1) (AX λzz=>N7) (by decide)
  ·exact g x q
 ·refine (aB e0).trans ((aB e1).trans ((aB e2).trans ((aB e3).trans ((aB e4).trans ((aB e5).trans ((aB e6).trans ((aB e7).trans ?_)))))))
  cases hf:W.find? (λw=>bk (aH.getD i []) (bJ w.1)) with
  |some w=>
   rw [hf] at e9
   exact cT e9
  |none=>
   rw [hf] at e9
   exact (aB e9).trans bK
theorem LU(m:List Nat)(rc:List Fm→Bool)(A B:List Fm)(l r:Fm):xI m rc A (.bin false l r::B)=match (kj A B l r).find? (λw=>bk m (bJ w.1)) with
  |some w=>rc w.1&&rc w.2
  |none=>xI m rc (A++[.bin false l r]) B:=by
 rfl
theorem Na(m:List Nat)(rc:List Fm→Bool)(A B:List Fm)(F:Fm)(h:wK F=false):xI m rc A (F::B)=xI m rc (A++[F]) B:=by
 cases F with
 |«at» i=>rfl
 |bin p l r=>
  cases p with
  |true=>rfl
  |false=>cases h
set_option genSizeOfSpec false in
set_option genInjectivity false in
structure Nn where
 (o k w y st tx ha td te ke:Option AV)
noncomputable abbrev RV(m:List Nat)(cs:List Int)(ja:Nat)(t pr:Option AV)(G:List Fm)(x:Nn):d0:=mQ (.list (bi m G)) (.list (nL m)) (.list (iL cs)) ja t x.o pr x.k x.w x.y x.st x.tx x.ha x.td x.te x.ke
noncomputable abbrev xOK(x:Nn)(m:List Nat)(F:Fm)(k:Nat):Nn:=⟨some (.d (F.enc m)),some (.d (.int k)),x.w,x.y,x.st,x.tx,x.ha,x.td,x.te,x.ke⟩
def Go(m:List Nat)(cs:List Int)(ja:Nat)(s:a_)(rc:List Fm→Bool)(t pr:Option AV)(G:List Fm)(xs:List PyData)(B A:List Fm)(x:Nn)(μ:List ah)(X:List PyData):Prop:=
 ∃fl x' Y δ,(∀x∈Y,Good x)∧Y.length≤2*B.length+40*jj G∧(fl=.ret (.d (.bool (xI m rc A B)))∨(fl=.next∧xI m rc A B=false))∧fS (ji 7 5) (Am s) aP none xs (cL A.length (bi m B)) (RV m cs ja t pr G x) μ=some (fl,RV m cs ja t pr G x',μ.set ja (.live (X++Y))++δ)
theorem Go.mk{s:a_}{t pr:Option AV}{G:List Fm}{A:List Fm}{x:Nn}(fl:Fl)(x':Nn)(Y:List PyData)(δ:List ah)(h1:∀x∈Y,Good x)(h2:Y.length≤2*B.length+40*jj G)(h3:fl=.ret (.d (.bool (xI m rc A B)))∨(fl=.next∧xI m rc A B=false))
 (h4:fS (ji 7 5) (Am s) aP none xs (cL A.length (bi m B)) (RV m cs ja t pr G x) μ=some (fl,RV m cs ja t pr G x',μ.set ja (.live (X++Y))++δ)):Go m cs ja s rc t pr G xs B A x μ X:=(DQ fl x' Y δ h1 h2 h3 h4)
theorem Ic(m:List Nat)(F:Fm)(A B:List Fm):cL A.length (bi m (F::B))=.tuple [.int A.length,F.enc m]::cL (A++[F]).length (bi m B):=by
 refine rA be ?_;rfl
section
variable {s:a_} {t pr:Option AV} {G:List Fm} {A:List Fm} {x:Nn}
theorem Fu:bA (aF (a9 5) (kI 0)) (jF ki (kS "*")) dH (RV m cs ja t pr G (xOK x m F A.length)) μ=some (wK F,μ):=TN rfl
theorem ad6(q:wK F=false)(h:Go m cs ja s rc t pr G xs B (A++[F]) (xOK x m F A.length) μ X):Go m cs ja s rc t pr G xs (F::B) A x μ X:=by
 refine nr h λfl x' Y δ g1 g2 g3 g4=>?_;refine Go.mk fl x' Y δ g1 (KQ g2 (by simp only [Bb];omega)) (by refine rA (Na _ _ _ _ _ q) ?_;exact g3) ?_;refine rA (Ic _ _ _ _) ?_;exact LA (dQ rfl ((aB ((gS Fu q).trans bK)).trans bK) (az _ _)) g4
theorem VT(hi:i<5)(hc:cs.length=6)(hs:(bJ (dR A B l r)).Sublist (zd 6))(hcl:bk (aH.getD i []) (bJ (dR A B l r))=true)(hrec:oB i cs ja s rc (jj (dR A B l r)))(hj:μ[ja]? =some (.live X))(hX:X.length+2+40*jj (dR A B l r)≤5000)
  (h:∀x' Y δ,Y.length≤2→Go (aH.getD i []) cs ja s rc t pr (dR A B l r) xs B (A++[.bin false l r]) x' (μ.set ja (.live (X++Y))++δ) (X++Y)):Go (aH.getD i []) cs ja s rc t pr (dR A B l r) xs (.bin false l r::B) A x μ X:=by
 obtain ⟨w1,y1,st1,tx1,ha1,td1,te1,ke1,Y1,δ1,b1,b2,b3⟩:=Sz (t:=t) (pr:=pr) (w:=x.w) (y:=x.y) (st:=x.st) (tx:=x.tx) (ha:=x.ha) (td:=x.td) (te:=x.te) (ke:=x.ke) (μ:=μ) (X:=X) hi hc hs hcl hrec hj hX
 let x1:Nn:=⟨some (.d ((Fm.bin false l r).enc (aH.getD i []))),some (.d (.int A.length)),w1,y1,st1,tx1,ha1,td1,te1,ke1⟩
 generalize hx1:x1=z at*
 have b4:k70 s (RV (aH.getD i []) cs ja t pr (dR A B l r) (xOK x (aH.getD i []) (.bin false l r) A.length)) μ=some ((match (kj A B l r).find? (λw=>bk (aH.getD i []) (bJ w.1)) with|some w=>.ret (.d (.bool (rc w.1&&rc w.2)))|none=>.next),RV (aH.getD i []) cs ja t pr (dR A B l r) z,μ.set ja (.live (X++Y1))++δ1):=by
  refine rB hx1 ?_;exact b3
 clear b3 hx1;have hg:=LU (aH.getD i []) rc A B l r;cases hf:(kj A B l r).find? (λw=>bk (aH.getD i []) (bJ w.1)) with
 |some ww=>
  rw [hf] at b4 hg
  refine Go.mk _ z Y1 δ1 b1 (KQ b2.1 (by simp only [Bb];omega)) (.inl (by exact rA hg rfl)) ?_;refine rA (Ic _ _ _ _) ?_;exact qy rfl (cT ((gB Fu rfl).trans b4))
 |none=>
  rw [hf] at b4 hg
  refine nr (h z Y1 δ1 (b2.2 hf)) λfl x' Y δ g1 g2 g3 g4=>?_;refine Go.mk fl x' (Y1++Y) (δ1++δ) (λy hy=>(AZ.mp hy).elim (b1 y) (g1 y)) (by have:=b2.2 hf;simp only [Bb,be];omega) (by refine rA hg ?_;exact g3) ?_;refine rA (Ic _ _ _ _) ?_;refine LA (dQ rfl ((aB ((gB Fu rfl).trans b4)).trans bK) (az _ _)) (g4.trans ?_);refine rA (tJ (He hj)) ?_;refine rA (Hb _) ?_;refine rA (Eg _ _ _) ?_;exact rA (Eg _ _ _) rfl
end
theorem Ud{s:a_}{t pr:Option AV}{G:List Fm}(hi:i<5)(hc:cs.length=6)(hs:(bJ G).Sublist (zd 6))(hcl:bk (aH.getD i []) (bJ G)=true)(hrec:oB i cs ja s rc (jj G))(xs:List PyData):
  ∀ (B A:List Fm) (x:Nn) (μ:List ah) (X:List PyData),G=A++B→μ[ja]? =some (.live X)→X.length+2*B.length+40*jj G≤5000→Go (aH.getD i []) cs ja s rc t pr G xs B A x μ X
 | [],A,x,μ,X,hG,hj,hX=>Go.mk .next x [] [] (λzz h=>nomatch h) (Lw _) (.inr ⟨rfl,rfl⟩) (by
   refine rA (DN _) ?_;refine rA (DN _) ?_;refine rA (eJ hj) ?_;rfl)
 |F::B,A,x,μ,X,hG,hj,hX=>by
  simp only [Bb] at hX
  cases q:wK F with
  |false=>exact ad6 q (Ud hi hc hs hcl hrec xs B (A++[F]) _ μ X (by refine rA hG ?_;simp) hj (by omega))
  |true=>
   cases F with
   |«at» p=>exact nomatch q
   |bin p l r=>
    cases p with
    |true=>exact nomatch q
    |false=>
     subst hG;have e:jj (dR A B l r)=jj (A++.bin false l r::B):=rfl;exact VT hi hc hs hcl hrec hj (by omega) λx' Y δ hY=>Ud hi hc hs hcl hrec xs B (A++[.bin false l r]) x' _ (X++Y) (by simp) (tI (He hj)) (by refine rA be ?_;omega)
theorem TX{G:List Fm}(h:two G=true):∃p q,G=[.at p,.at q]:=by
 match G,h with
 | [.at p,.at q],_=>exact (jK p q rfl)
theorem oB.mono{s:a_}{a:Nat}(h:oB i cs ja s rc b)(hab:a≤b):oB i cs ja s rc a:=
 λG μ X h1 h2 h3 h4 h5=>h G μ X h1 h2 h3 (Om h4 hab) h5
theorem s70{ja:Nat}(hi:i<5)(hc:cs.length=6):∀k,oB i cs ja (Ih k) (pr (aH.getD i []) k) k
 |0=> λG μ X zz zz zz h zz=>absurd h (Nat.not_lt_zero _)
 |k+1=>by
  intro G μ X hj hs hcl hst hX;have hz:=iw hs;refine bP (Iz (s:=Ih k) (m:=aH.getD i []) (G:=G) (M:=.list (nL (aH.getD i []))) (C:=.list (iL cs)) (j:=ja) (μ:=μ) hz) λt e0=>?_;have hs5:(bJ (fK G)).Sublist (zd 6):=by refine rA (rG _) ?_;exact hs
  have hcl5:bk (aH.getD i []) (bJ (fK G))=true:=by refine rA (rG _) ?_;exact hcl
  have hst5:jj (fK G)=jj G:=Ia G;have hl5:=fp (fK G);have hz5:=iw hs5;have hlt:ja<μ.length:=(Bm.mp hj).1;have hpr:pr (aH.getD i []) (k+1) G=(two (fK G)||xI (aH.getD i []) (pr (aH.getD i []) k) [] (fK G)):=rfl;cases h2:two (fK G) with
  |true=>
   refine lC (TX h2) λp q hpq=>?_;rw [hpq] at hs5 hcl5 e0
   refine bP (Ek (s:=Ih k) (t:=t) (μ:=μ) hi hc hs5 hcl5 hj (by lia)) λρ' e1=>?_;refine (cJ ([JA true true]) ?_ (by simp) ?_)
   ·intro x hx
    refine rA (Ab.mp hx) ?_;exact dK (n:=1) (gH λx hx=>by simp at hx;refine rA hx ?_;exact jg) (by decide)
   ·have:f70 (Ih k) (cC (ao (ay 70)) [.d (.list (bi (aH.getD i []) G)),.d (.list (nL (aH.getD i []))),.d (.list (iL cs)),.c ja]) μ=some (.ret (.d (.bool true)),ρ',μ.set ja (.live (X++[JA true true]))):=by
     unfold f70;exact (aB e0).trans (cT e1)
    refine (cZ (k:=4) rfl this).trans ?_;refine rA (F9 (by simp)) ?_;refine rA hpr ?_;refine rA h2 ?_;exact rA (Bool.true_or _) rfl
  |false=>
   have e1:=IH (s:=Ih k) (m:=aH.getD i []) (G:=fK G) (M:=.list (nL (aH.getD i []))) (C:=.list (iL cs)) (j:=ja) (t:=t) (μ:=μ) hz5 h2;refine nr (Ud (t:=t) (pr:=none) hi hc hs5 hcl5 ((s70 (ja:=ja) hi hc k).mono (by omega)) (cL 0 (bi (aH.getD i []) (fK G))) (fK G) [] ⟨none,none,none,none,none,none,none,none,none,none⟩ μ X rfl hj (by omega)) λfl x' Y δ g1 g2 g3 g4=>?_;refine (cJ Y g1 (by omega) ?_);have e2:Cm (Ih k) (mQ (.list (bi (aH.getD i []) (fK G))) (.list (nL (aH.getD i []))) (.list (iL cs)) ja t none none none none none none none none none none none) μ=some (fl,RV (aH.getD i []) cs ja t none (fK G) x',μ.set ja (.live (X++Y))++δ):=by
    refine rA (Hv _) ?_;refine rA (gJ (jU (f:=a9 0) (V:=.d (.list (bi (aH.getD i []) (fK G)))) rfl rfl)) ?_;exact g4
   have htk:(μ.set ja (.live (X++Y))++δ).take μ.length=μ.set ja (.live (X++Y)):=by
    refine rA (Mj (by simp)) ?_;exact rA (F9 (by simp)) rfl
   refine rA hpr ?_;refine rA h2 ?_;refine rA (Pn _) ?_
   rcases g3 with rfl| ⟨rfl,g3⟩
   ·have:f70 (Ih k) (cC (ao (ay 70)) [.d (.list (bi (aH.getD i []) G)),.d (.list (nL (aH.getD i []))),.d (.list (iL cs)),.c ja]) μ=some (.ret (.d (.bool (xI (aH.getD i []) (pr (aH.getD i []) k) [] (fK G)))),RV (aH.getD i []) cs ja t none (fK G) x',μ.set ja (.live (X++Y))++δ):=by
     unfold f70;exact (aB e0).trans ((aB e1).trans (cT e2))
    refine (cZ (k:=4) rfl this).trans ?_;exact rA htk rfl
   ·have:f70 (Ih k) (cC (ao (ay 70)) [.d (.list (bi (aH.getD i []) G)),.d (.list (nL (aH.getD i []))),.d (.list (iL cs)),.c ja]) μ=some (.ret (.d (.bool false)),RV (aH.getD i []) cs ja t none (fK G) x',μ.set ja (.live (X++Y))++δ):=by
     unfold f70;refine (aB e0).trans ((aB e1).trans ((aB e2).trans (cT ?_)));unfold Iq;exact dY rfl
    refine (cZ (k:=4) rfl this).trans ?_;refine rA htk ?_;exact rA g3 rfl
theorem Bu{r:List PyData}{x:PyData}{acc2:List PyData}(e1:tf ρ x=some ρ1)(e2:cf ρ1 μ acc=some (ρ2,μ2,acc2)):f5 tf cf none xs (x::r) ρ μ acc=f5 tf cf none xs r ρ2 μ2 acc2:=by
 exact oW e1 e2 (az _ _)
theorem P0{os1 td:List Int}(hi:i<μ.length)(hj:j<μ.length)(hij:i≠j)(h:rd os=some (0,os1))(hz:td.length≤1000):vI (k+1) [.c i,.c j] (gV μ i j os td)=some (.d (.tuple []),gV μ i j os1 (td++[0])):=by
 have e2:lh (vI k) (ow i j (some (.d (.int 0))) none none) (gV μ i j os1 (td++[0]))=some (.ret (.d (.tuple [])),ow i j (some (.d (.int 0))) none none,gV μ i j os1 (td++[0])):=by
  unfold lh;refine (gB (FA (n:=0) rfl) rfl).trans ?_;exact cT (dY (d8 (ds:=[]) rfl (aa (xF rfl))))
 have:f68 (vI k) (cC (ao (ay 68)) [.c i,.c j]) (gV μ i j os td)=some (.ret (.d (.tuple [])),ow i j (some (.d (.int 0))) none none,gV μ i j os1 (td++[0])):=by
  unfold f68;refine rA (qq hi hj hij h (by lia)) ?_;exact rA (cT e2) rfl
 refine (?_:cy 2 _ _ _ _=_);refine rA (cZ (k:=2) rfl this) ?_;exact rA (F9 (by rw [ky,ky];exact DW _)) rfl
theorem BR:∀F:Fm,F.ht≤F.pl.length
 | .at _=>DW 1
 | .bin p l r=>by
  have h1:=BR l;have h2:=BR r;have p1:=nN l;have p2:=nN r;simp only [Fm.ht,Fm.pl,be];lia
theorem oX(m:List Nat):∀F:Fm,(F.pre m).length+1=2*F.pl.length
 | .at _=>rfl
 | .bin p l r=>by
  have h1:=oX m l;have h2:=oX m r;simp only [Fm.pre,Fm.pl,Bb,be];lia
noncomputable def d9(m:List Nat)(G:List Fm):List Int:=G.flatMap λF=>F.pre m
theorem jh(m:List Nat)(F:Fm)(G:List Fm):d9 m (F::G)=F.pre m++d9 m G:=rfl
theorem pF(m:List Nat):∀G:List Fm,(d9 m G).length≤2*(bJ G).length
 | []=>DW 0
 |F::G=>by
  have:=pF m G;have:=oX m F
  refine rA (jh _ _ _) ?_;refine rA (b6 _ _) ?_;refine rA be ?_;refine rA be ?_;lia
theorem sJ(hi:i<μ.length)(hj:j<μ.length)(hij:i≠j){ρ0:d0}{e:EF}(he:∀w μ',e (ρ0.set 31 w) μ'=vI 12 [.c i,.c j] μ')(xs:List PyData)(os':List Int):∀ (G:List Fm) (r:List PyData) (w:Option AV) (os td:List Int) (acc:List PyData),
  r.length=G.length+1→xO os (d9 m G++[0]) os'→bJ G=F7 (pX td) (bJ G).length→(bJ G).length≤12→td.length+2*(bJ G).length≤100→acc.length+G.length≤100→
  ∃w',f5 (du 31) (cW bg (aY e)) none xs r (ρ0.set 31 w) (gV μ i j os td) acc=some (ρ0.set 31 w',gV μ i j os' (td++d9 m G++[0]),acc++bi m G++[.tuple []])
 | [],[x],w,os,td,acc,_,h,_,_,hz,ha=>by
  cases h with
  |cons e1 h=>
  cases h;refine ⟨some (.d x),?_⟩;refine rA (Bu (ρ1:=ρ0.set 31 (some (.d x))) (by show some ((ρ0.set 31 w).set 31 _)=_;rw [Hb]) (p9 ((he _ _).trans (P0 hi hj hij e1 (by lia))) acc (aa (by lia)))) ?_
  simp [f5,d9,bi]
 |F::G,x::r,w,os,td,acc,hr,h,hp,h12,hz,ha=>by
  simp only [Bb] at hr ha
  rw [jh,Eg] at h
  refine au (xO.split h) λos1 h1 h2=>?_;rw [b6] at hp h12 hz
  refine dU (kx hp) λq1 q2 q3=>?_;rw [be] at q2 hz h12
  have hl:=oX m F;have hh:=BR F;have hs:=s68 (μ:=μ) hi hj hij m F 12 os os1 td (by lia) h1 q1 (by lia);have ht:pX (td++F.pre m)=pX td+F.pl.length:=by refine rA (mf _ _) ?_;exact rA (kY _ _) rfl
  refine bP (sJ hi hj hij he xs os' G r (some (.d x)) os1 (td++F.pre m) (acc++[F.enc m]) (by lia) h2 (by refine rA ht ?_;rw [KO] at q2;exact q2) (by lia) (by refine rA be ?_;lia) (by simp;lia)) λw' g=>?_;refine ⟨w',?_⟩;refine rA (Bu (ρ1:=ρ0.set 31 (some (.d x))) (by show some ((ρ0.set 31 w).set 31 _)=_;rw [Hb]) (p9 ((he _ _).trans hs) acc (aa (by lia)))) ?_;refine rA g ?_;refine rA (jh _ _ _) ?_
  simp [bi]
theorem Pf:((zd 64).all λx=>decide ((H1 ((x:Nat):Int):Int)+6≤1000))=true:=by decide+kernel
theorem OE{x:Int}(h0:0≤x)(h1:x<64):(H1 x:Int)+6≤2^27:=by
 refine bP (L2 h0) λn zq1=>?_;subst zq1
 have:=Bi.mp Pf n (D5.mpr (by lia))
 have:=of_decide_eq_true this
 have e:(2:Int)^27=134217728:=by decide
 lia
theorem qw{f g:SF}(h:f ρ μ=none):ap f g ρ μ=none:=Jk h
theorem vt(h:f ρ μ=none):c6 i f ρ μ=none:=Jk h
theorem sU{f:SF}(h:f (cC sc Vs) μ=none):cy k sc f Vs μ=none:=by
 by_cases hl:Vs.length=k
 ·exact (if_pos hl).trans (Jk h)
 ·exact if_neg hl
theorem sH(h0:a9 0 ρ μ=some (.c i,μ))(hc:μ[i]? =some (.iter [])):af [a9 0] km ρ μ=none:=by
 exact (b5 (wb h0)).trans ((bU (rfl:l1 [AV.c i]=some _)).trans ((bU (rfl:EX (.c i)=some i)).trans ((bU (show μ[i]?.bind Qv=some [] by rw [hc];rfl)).trans (Jk rfl))))
theorem De(hc:μ[i]? =some (.iter [])):aS [.c i] μ=none:=by
 refine sU ?_;refine (?_:f8 [some (.c i),none,none] μ=none);unfold f8;refine qw ?_;unfold EK;exact vt (sH rfl hc)
theorem MK{o:AV→AV→List ah→Option (AV×List ah)}{W r:AV}(h:ρ[i]? =some (some V))(hf:f ρ μ=some (W,μ1))(ho:o V W μ1=some (r,μ2)):iA i f o ρ μ=some (.next,ρ.set i (some r),μ2):=by
 exact Ca h hf ho
theorem Pw{f:SF}(ht:t ρ μ=some (true,μ))(hf:f ρ μ=none):j0 t f (k+1) ρ μ=none:=by
 refine iP.trans ((b5 ht).trans (?_:bp (f ρ μ) (λfl p=>Q3 fl (j0 t f k p.1 p.2) p)=none));exact Jk hf
theorem CY{b o:Int}(hc:μ[i]? =some (.iter [.int b]))(h0:64≤o)(h1:o<128)(hb:b=o∨b=o+128):aS [.c i] μ=none:=by
 refine fY (jb (by lia) h1 hb) λhb1 hb2=>?_;rw [if_pos h0] at hb1
 refine sU ?_;refine (?_:f8 [some (.c i),none,none] μ=none);have hlt:i<μ.length:=(Bm.mp hc).1;have e0:EK [some (.c i),none,none] μ=some (.next,[some (.c i),some (.d (.int b)),none],μ.set i (.iter [])):=by
  unfold EK;exact bO (tj (x:=.int b) (r:=[]) rfl hc)
 have e1:HP [some (.c i),some (.d (.int b)),none] (μ.set i (.iter []))=some (.next,[some (.c i),some (.d (.int b)),some (.d (.int (o%64)))],μ.set i (.iter [])):=by
  unfold HP;refine rB hb2 ?_;exact bO (cY (x:=b) (y:=63) rfl rfl rfl)
 unfold f8;refine rA (aB e0) ?_;refine rA (aB e1) ?_;refine qw ?_;unfold Md;refine Pw ?_ ?_
 ·exact nq (V:=.d (.int 64)) ((cY (x:=b) (y:=64) rfl rfl rfl).trans (by exact rA hb1 rfl)) rfl
 ·have ea:iA 2 (kI 6) qa [some (.c i),some (.d (.int b)),some (.d (.int (o%64)))] (μ.set i (.iter []))=some (.next,[some (.c i),some (.d (.int b)),some (.d (.int (o%64*64)))],μ.set i (.iter [])):=by
   exact MK (V:=.d (.int (o%64))) (W:=.d (.int 6)) rfl rfl (aa8 (o%64) (μ.set i (.iter [])) (by lia) (by lia))
  refine rA (aB ea) ?_;exact qw (vt (sH rfl (cz hlt)))
theorem pA:cO [.c i] μ=(aS [.c i] μ).elim (bo (pQ μ i) λμ'=>some (.d (.list []),μ')) (λp=>bo (v7 p.1) λx=>some (.d (.list [x]),p.2)):=rfl
theorem yN{v:Int}(hc:μ[i]? =some (.iter (iL os)))(h:rd os=some (v,rest)):cO [.c i] μ=some (.d (.list [.int v]),μ.set i (.iter (iL rest))):=by
 rw [pA,s8 hc h];rfl
theorem ym{b o:Int}(hc:μ[i]? =some (.iter [.int b]))(h0:64≤o)(h1:o<128)(hb:b=o∨b=o+128):cO [.c i] μ=some (.d (.list []),μ.set i (.iter [])):=by
 refine fY (jb (by lia) h1 hb) λhb1 hb2=>?_;rw [if_pos h0] at hb1
 have hst:pQ μ i=some (μ.set i (.iter [])):=by
  exact (bU (show μ[i]?.bind Qv=some [.int b] by rw [hc];rfl)).trans (if_pos ⟨by rw [hb1];decide,by rw [hb2];exact OE (by lia) (by lia)⟩)
 rw [pA,CY hc h0 h1 hb];exact bU hst
theorem xQ(hc:μ[i]? =some (.iter [])):cO [.c i] μ=some (.d (.list []),μ):=by
 have hst:pQ μ i=some μ:=by
  exact (bU (show μ[i]?.bind Qv=some [] by rw [hc];rfl)).trans (congrArg some (eJ hc))
 rw [pA,De hc];exact bU hst
set_option genInjectivity false in
structure cV where
 script:Option AV:=none
 cells:Option AV:=none
 total:Option AV:=none
 mates:Option AV:=none
 numbers:Option AV:=none
 low:Option AV:=none
 far:Option AV:=none
 great:Option AV:=none
 tape:Option AV:=none
 told:Option AV:=none
 read:Option AV:=none
 beyond:Option AV:=none
 asked:Option AV:=none
 symbol:Option AV:=none
 tests:Option AV:=none
 units:Option AV:=none
 text:Option AV:=none
 shorn:Option AV:=none
 proof:Option AV:=none
 joins:Option AV:=none
 formula:Option AV:=none
 forks:Option AV:=none
 start:Option AV:=none
 labels:Option AV:=none
 names:Option AV:=none
 words:Option AV:=none
 trees:Option AV:=none
 mask:Option AV:=none
 said:Option AV:=none
 chosen:Option AV:=none
 joined:Option AV:=none
noncomputable def cV.loc(x:cV):d0:=[x.script,x.cells,x.total,x.mates,x.numbers,x.low,x.far,x.great,x.tape,x.told,x.read,x.beyond,x.asked,x.symbol,x.tests,x.units,x.text,x.shorn,x.proof,x.joins,x.formula,x.forks,x.start,x.labels,x.names,x.words,x.trees,x.mask,x.said,x.chosen,x.joined]
theorem ED{X Y:Type}(f:X→Y)(xs:List X)(lo hi st:Option Int):iJ (xs.map f) lo hi st=(iJ xs lo hi st).map f:=by
 unfold iJ;refine rA (xJ _) ?_;refine rA List.map_filterMap ?_
 congr 1
 funext i
 rw [FS]
noncomputable def AB:List Int:=[125,9,187,70,428,191]
noncomputable def RM(xs:List Int)(k:Int):Int:=((iJ xs (some k) (some 60) (some 6)).map λx=>x.fmod 5040).sum
noncomputable def Cr(xs:List Int):PyData→PyData
 | .tuple [.int k,.int c]=>.int (c+RM xs k)
 |x=>x
theorem vi(xs:List Int):∀ (l:List Int) (k:Nat),∃cs:List Int,(cL k (iL l)).map (Cr xs)=iL cs∧cs.length=l.length
 | [],_=>(aZ ([]) rfl rfl)
 |c::l,k=>by
  refine au (vi xs l (k+1)) λcs e h=>?_;refine (aZ ((c+RM xs k)::cs) ?_ (by simp [h]));refine (?_:Cr xs (.tuple [.int k,.int c])::(cL (k+1) (iL l)).map (Cr xs)=_);refine rA e ?_;rfl
theorem JV{X:Type}(xs:List X)(lo hi st:Option Int):(iJ xs lo hi st).length≤(sliceRange (sliceBounds lo hi st xs.length).1 (sliceBounds lo hi st xs.length).2.1 (sliceBounds lo hi st xs.length).2.2).length:=by
 unfold iJ;exact List.length_filterMap_le _ _
theorem yB{l:List Int}(hf:f ρ μ=some (.d (.list (iL l)),μ)):af [f] wy ρ μ=some (.d (.int l.sum),μ):=by
 refine d4 hf ?_;exact (bU (rfl:l1 [_]=some _)).trans ((bU (rfl:da μ (.d (.list (iL l)))=some _)).trans (bU (nJ l)))
theorem st0(x:cV)(xs:List Int)(μ:List ah)(hx:xs.length≤63)(hr:∀k:Int,(iJ xs (some k) (some 60) (some 6)).length≤100000):∃cs:List Int,cs.length=6∧xr ({x with script:=some (.d (.list (iL xs)))}).loc μ=some (.next,({x with script:=some (.d (.list (iL xs))),cells:=some (.d (.list (iL cs)))}).loc,μ):=by
 refine au (vi xs AB 0) λcs e h=>?_;refine (aZ cs h ?_)
 let ρ:=({x with script:=some (.d (.list (iL xs)))}:cV).loc
 have hl:aU [(kI 125),(kI 9),(kI 187),(kI 70),(kI 428),(kI 191)] ρ μ=some (.d (.list (iL AB)),μ):=dF (ds:=iL AB) rfl (aa (by decide));have hcm:=si (sc:=tm) (itf:=b_ [(aU [(kI 125),(kI 9),(kI 187),(kI 70),(kI 428),(kI 191)])] f_) (e:=(aj (a9 32) (af [(cb uu (aK false (vm (a9 0) (aL (a9 31)) (aL (kI 60)) (aL (kI 6)))) (du 33) (cW bg (aY (aj (a9 33) (kI 5040) (aR co)))))] wy) aT)) (ρ:=ρ) (μ:=μ) 31 32 (by decide) (Cr xs)
  (jU hl rfl) (az _ _) (λy hy=>by
   refine lC (lS AB 0 hy) λk c zq2=>?_;subst zq2;refine (fX (.int k) (.int c) rfl ?_)
   let ρ1:d0:=((bG tm ρ).set 31 (some (.d (.int k)))).set 32 (some (.d (.int c)))
   have hs:vm (a9 0) (aL (a9 31)) (aL (kI 60)) (aL (kI 6)) ρ1 μ=some (.d (.list (iL (iJ xs (some k) (some 60) (some 6)))),μ):=by
    have h0:a9 0 ρ1 μ=some (.d (.list (iL xs)),μ):=rfl;have h1:aL (a9 31) ρ1 μ=some (some k,μ):=dA rfl;have h2:aL (kI 60) ρ1 μ=some (some 60,μ):=dA rfl;have h3:aL (kI 6) ρ1 μ=some (some 6,μ):=dA rfl;refine (b5 h0).trans ((b5 h1).trans ((b5 h2).trans ((b5 h3).trans ((bU (rfl:some (6:Int)=some 6)).trans ((bU (rfl:da μ (.d (.list (iL xs)))=some _)).trans ((if_pos ⟨by rw [xJ];exact aa (by lia),by decide⟩).trans ?_))))));rw [iL,ED]
   have hin:=ip (sc:=uu) (itf:=aK false (vm (a9 0) (aL (a9 31)) (aL (kI 60)) (aL (kI 6)))) (e:=aj (a9 33) (kI 5040) (aR co)) (ρ:=ρ1) (μ:=μ) (g:=none) 33 (λx=>match x with| .int x=>.int (x.fmod 5040)|x=>x) (d7 (V:=.d (.list (iL (iJ xs (some k) (some 60) (some 6))))) hs rfl) (az _ _) (λy hy=>by
    refine au (DT.mp hy) λz zz zq2=>?_;subst zq2;exact cY (x:=z) (y:=5040) rfl rfl (fj (by decide))) (by refine rA (xJ _) ?_;exact aa (hr k))
   have e2:(iL (iJ xs (some k) (some 60) (some 6))).map (λx=>match x with| .int x=>EW (x.fmod 5040)|x=>x)=iL ((iJ xs (some k) (some 60) (some 6)).map λx=>x.fmod 5040):=by
    simp only [iL,ER];rfl
   rw [e2] at hin
   exact cR (x:=c) rfl (yB (bY hin))) (by refine rA (ik _ _) ?_;exact aa (by decide))
 unfold xr;refine rA (ju hcm) ?_;refine rA e ?_;rfl
theorem st1(x:cV)(cs:List Int)(μ:List ah):wC ({x with cells:=some (.d (.list (iL cs)))}).loc μ=some (.next,({x with cells:=some (.d (.list (iL cs))),total:=some (.d (.int cs.sum))}).loc,μ):=by
 unfold wC;exact (bO (yB rfl)).trans rfl
noncomputable def et(T:Int):Nat:=((T.fdiv 5).fmod 5).toNat
theorem tP(T:Int):et T<5:=by
 have h0:0≤(T.fdiv 5).fmod 5:=Fa _ (by decide);have h1:(T.fdiv 5).fmod 5<5:=HC _ (by decide);unfold et;lia
theorem Gh{a c d e f:Nat}:aU [kI a,kI b,kI c,kI d,kI e,kI f] ρ μ=some (.d (.list (nL [a,b,c,d,e,f])),μ):=dF (ds:=nL [a,b,c,d,e,f]) rfl (aa (by simp [nL]))
theorem st2(x:cV)(T:Int)(μ:List ah):vd ({x with total:=some (.d (.int T))}).loc μ=some (.next,({x with total:=some (.d (.int T)),mates:=some (.d (.list (nL (aH.getD (et T) []))))}).loc,μ):=by
 have h0:0≤(T.fdiv 5).fmod 5:=Fa _ (by decide);have h1:=tP T;unfold vd;refine (bO (cF (V:=.d (.list (aH.map λm=>.list (nL m)))) (xs:=aH.map λm=>.list (nL m)) (d:=.list (nL (aH.getD (et T) []))) (dF (ds:=aH.map λm=>.list (nL m)) (an Gh (an Gh (an Gh (an Gh (an Gh bX))))) (aa (by decide))) (jr (T:=T) 5 5 (by decide) (by decide) rfl rfl) rfl h0 ?_ (aa (by decide)))).trans rfl
 show (aH.map λm=>O1 (nL m))[et T]? =_
 generalize et T=i at h1
 have:i=0∨i=1∨i=2∨i=3∨i=4:=by lia
 rcases this with rfl|rfl|rfl|rfl|rfl<;>rfl
theorem st3(x:cV)(cs:List Int)(T:Int)(m:List Nat)(μ:List ah)(hc:cs.length=6)(hm:m.length=6):∃G:List Fm,bJ G=F7 0 6∧G.length+g7 T=6∧
  vo ({x with cells:=some (.d (.list (iL cs))),total:=some (.d (.int T)),mates:=some (.d (.list (nL m)))}).loc μ=some (.next,({x with cells:=some (.d (.list (iL cs))),total:=some (.d (.int T)),mates:=some (.d (.list (nL m))),numbers:=some (.d (.list (iL (d9 m G++[0]))))}).loc,μ):=by
 refine cm (s65 (cs:=cs) (m:=m) (T:=T) (μ:=μ) hc hm) λG h1 h2 h3=>?_;refine (cJ G h1 h2 ?_);unfold vo;exact (bO (Sj rfl rfl rfl h3)).trans rfl
noncomputable def Jq(T:Int):Nat:=((T.fdiv 13).fmod 5).toNat
noncomputable def DO(T:Int):Int:=((Jq T:Int)-3)*2^32
noncomputable def jw(T:Int):Nat:=(T.fmod 13).toNat
theorem LW(T:Int):Jq T<5:=by
 have h0:0≤(T.fdiv 13).fmod 5:=Fa _ (by decide);have h1:(T.fdiv 13).fmod 5<5:=HC _ (by decide);unfold Jq;lia
theorem uX(T:Int):jw T<13:=by
 have h0:0≤T.fmod 13:=Fa _ (by decide);have h1:T.fmod 13<13:=HC _ (by decide);unfold jw;lia
theorem uV{x:Int}(hf:f ρ μ=some (.d (.int x),μ))(hg:g ρ μ=some (.d (.int y),μ))(h:y.natAbs<2^64):aj f g l8 ρ μ=some (.d (.int (x*y)),μ):=by
 exact qR hf hg ((bU (rfl:jI (.d (.int y))=some y)).trans ((oN (rfl:jI (.d (.int x))=some x) rfl).trans (if_pos (.inr h))))
theorem ko{y:Nat}(hg:g ρ μ=some (.d (.int y),μ))(h:y≤1000):aj (kI 2) g (aR gu) ρ μ=some (.d (.int (2^y)),μ):=by
 refine cY (x:=2) rfl hg ?_;unfold gu;refine rA (if_pos (fm (by lia) (by lia) (by decide))) ?_;rfl
theorem st4(x:cV)(T:Int)(μ:List ah):xD ({x with total:=some (.d (.int T))}).loc μ=some (.next,({x with total:=some (.d (.int T)),low:=some (.d (.int (jw T))),far:=some (.d (.int (DO T)))}).loc,μ):=by
 let ρ:=({x with total:=some (.d (.int T))}:cV).loc
 have h1:aj (a9 2) (kI 13) (aR co) ρ μ=some (.d (.int (jw T)),μ):=by
  have:T.fmod 13=(jw T:Int):=(Lz (Fa _ (by decide))).symm
  refine rB this ?_;exact cY (x:=T) (y:=13) rfl rfl (fj (by decide))
 have h2:aj (aj (aj (aj (a9 2) (kI 13) (aR cN)) (kI 5) (aR co)) (kI 3) (aR λx y=>some (x-y))) (aj (kI 2) (kI 32) (aR gu)) l8 ρ μ=some (.d (.int (DO T)),μ):=by
  have e:(T.fdiv 13).fmod 5=(Jq T:Int):=(Lz (Fa _ (by decide))).symm;have a:=jr (f:=a9 2) (g:=kI 5) (ρ:=ρ) (μ:=μ) (T:=T) 13 5 (by decide) (by decide) rfl rfl;rw [e] at a
  exact uV (jP a (rfl:kI 3 _ _=some (.d (.int 3),_))) (ko (y:=32) rfl (by decide)) (by decide)
 have ht:=d8 (ds:=[.int (jw T),.int (DO T)]) (an h1 (an h2 bX)) (aa (xF rfl));unfold xD;refine (?_:vh 5 6 _ ρ μ=_);exact AO ht
noncomputable def nf(G:List Fm):Nat:=((eH G 0).filter (·.par)).length
theorem uQ(m:List Nat):∀ (F:Fm) (n:Nat),((F.pre m).filter λx=>x==274).length=((gr F n).2.filter (·.par)).length
 | .at i,n=>by
  have:=gA m i
  simp only [Fm.pre,Hh]
  rcases this with q|q<;>rw [q]<;>rfl
 | .bin p l r,n=>by
  have h1:=uQ m l n;have h2:=uQ m r (n+(gr l n).2.length);cases p
  ·simp only [Fm.pre,Ag,KR,be]
   simp [h1,h2]
  ·simp only [Fm.pre,Ag,KR,be]
   simp [h1,h2]
theorem vM(m:List Nat):∀ (G:List Fm) (n:Nat),((d9 m G).filter λx=>x==274).length=((eH G n).filter (·.par)).length
 | [],_=>rfl
 |F::G,n=>by
  refine rA (jh _ _ _) ?_;rw [sn];refine rA (KR _ _) ?_;refine rA (KR _ _) ?_;refine rA be ?_;refine rA be ?_;refine rA (uQ m F n) ?_;rw [vM m G]
noncomputable def rJ(G:List Fm)(T:Int):Int:=(2^nf G-1)*2^jw T+2^31
theorem Fp(h:n≤40):((2:Int)^n).natAbs<2^64:=by
 refine rA (Int.natAbs_pow _ _) ?_;exact Nat.pow_lt_pow_right (by decide) (by lia)
theorem st5(x:cV)(T:Int)(m:List Nat)(G:List Fm)(μ:List ah)(hG:(d9 m G).length≤100)(hn:nf G≤100):vJ ({x with numbers:=some (.d (.list (iL (d9 m G++[0])))),low:=some (.d (.int (jw T)))}).loc μ=some (.next,({x with numbers:=some (.d (.list (iL (d9 m G++[0])))),low:=some (.d (.int (jw T))),great:=some (.d (.int (rJ G T)))}).loc,μ):=by
 let ρ:=({x with numbers:=some (.d (.list (iL (d9 m G++[0])))),low:=some (.d (.int (jw T)))}:cV).loc
 have hlow:=uX T;have hcm:=jc (sc:=tl) (itf:=aK false (a9 4)) (t:=bA (a9 31) (kI 274) dH) (e:=a9 31) (ρ:=ρ) (μ:=μ) 31 (λx=>match x with| .int y=>y==274|_=>false) id (d7 (V:=.d (.list (iL (d9 m G++[0])))) rfl rfl) (az _ _) (λy hy=>by
  refine au (DT.mp hy) λz zz zq2=>?_;subst zq2;exact o4 (x:=z) (y:=274) rfl rfl) (λzz zz zz=>rfl) (by refine rA (xJ _) ?_;refine rA be ?_;exact aa (by simp;lia))
 have hlen:=gF (f:=cb tl (aK false (a9 4)) (du 31) (cW (bA (a9 31) (kI 274) dH) (aY (a9 31)))) (bY hcm) rfl (by
  refine rA (xJ _) ?_;refine aa (KQ (GW ..) ?_);refine rA (xJ _) ?_;refine rA be ?_;simp;lia)
 have hcount:(((iL (d9 m G++[0])).filter (λx=>match x with| .int y=>y==274|_=>false)).map id).length=nf G:=by
  refine rA (xJ _) ?_;rw [iL];refine rA OG ?_;refine rA (xJ _) ?_;have e:((λx=>match x with|EW y=>y==274|_=>false)∘EW)= λy=>y==274:=rfl;refine rA e ?_;refine rA (KR _ _) ?_;refine rA be ?_;refine rA (vM m G 0) ?_;rfl
 rw [hcount] at hlen
 have h1:=jP (ko hlen (by lia)) (rfl:kI 1 _ _=some (.d (.int 1),_));have h2:aj (kI 2) (a9 5) (aR gu) ρ μ=some (.d (.int (2^jw T)),μ):=ko rfl (by lia);have h3:=cR (uV h1 h2 (Fp (by lia))) (ko (g:=kI 31) (y:=31) (ρ:=ρ) (μ:=μ) rfl (by decide));unfold vJ;exact (bO h3).trans rfl
noncomputable def t6(cs:List Int)(T:Int)(ns:List Int):List Int:=mk T 0 (gt cs 0 ns++[64+T.fmod 64])
theorem st6(x:cV)(cs N:List Int)(T g:Int)(μ:List ah)(hc:cs.length=6)(hN:N.length≤100):vC ({x with cells:=some (.d (.list (iL cs))),total:=some (.d (.int T)),numbers:=some (.d (.list (iL N))),great:=some (.d (.int g))}).loc μ=
  some (.next,({x with cells:=some (.d (.list (iL cs))),total:=some (.d (.int T)),numbers:=some (.d (.list (iL N))),great:=some (.d (.int g)),tape:=some (.c μ.length)}).loc,μ++[.iter (iL (t6 cs T (N++[g])))]):=by
 let ρ:=({x with cells:=some (.d (.list (iL cs))),total:=some (.d (.int T)),numbers:=some (.d (.list (iL N))),great:=some (.d (.int g))}:cV).loc
 have h1:aj (a9 4) (aU [a9 7]) aT ρ μ=some (.d (.list (iL (N++[g]))),μ):=by
  refine rB (lq _ _) ?_;exact cS (f:=a9 4) (xs:=iL N) (ys:=iL [g]) rfl (kr rfl) rfl rfl (aa (by refine rA (xJ _) ?_;refine rA (xJ _) ?_;simp;lia))
 have h2:=Sj (g:=a9 1) (h:=a9 2) (ρ:=ρ) h1 rfl rfl (s66 (ns:=N++[g]) (cs:=cs) (T:=T) (μ:=μ) hc (by simp;lia));unfold vC;exact (bO (d4 h2 rfl)).trans rfl
theorem st7(x:cV)(μ:List ah):wH x.loc μ=some (.next,({x with told:=some (.c μ.length)}).loc,μ++[.live []]):=by
 unfold wH;exact (bO vZ).trans rfl
theorem nY(m:List Nat):∀ (F:Fm),∀n∈F.pre m,n∈ou
 | .at i,n,h=>by
  simp only [Fm.pre,Ab] at h
  subst h
  rcases gA m i with q|q<;>rw [q]<;>decide
 | .bin p l r,n,h=>by
  simp only [Fm.pre,C1,AZ] at h
  rcases h with q|q|q
  ·subst q;cases p<;>decide
  ·exact nY m l n q
  ·exact nY m r n q
theorem ML(m:List Nat)(G:List Fm):∀n∈d9 m G,n∈ou:= λn h=>by
 refine au (L5.mp h) λF zz hF=>?_;exact nY m F n hF
theorem KE{f:Nat}(hf:f≤5)(hl:low<13):((2:Int)^f-1)*2^low+2^31∈ou:=by
 unfold ou;refine D1 _ (L5.mpr (aZ f (D5.mpr (by lia)) (DT.mpr ⟨low,D5.mpr hl,rfl⟩)))
theorem yj{T:Int}{G:List Fm}(hn:nf G≤5):∃os1 p',xO (t6 cs T (d9 m G++[0]++[rJ G T])) (d9 m G++[0]) os1∧rd os1=some (rJ G T,mk T p' [64+T.fmod 64]):=by
 obtain ⟨p',h⟩:=vy T cs [64+T.fmod 64] (d9 m G++[0]++[rJ G T]) 0 0 (λn hn'=>by
  simp only [AZ,Ab] at hn'
  rcases hn' with (q|q)|q
  ·exact ML m G n q
  ·subst q;decide
  ·subst q;exact KE hn (uX T))
 refine au (xO.split h) λos1 h1 h2=>?_;cases h2 with
 |cons e h2=>
 cases h2;exact (fX os1 p' h1 e)
theorem Dy{T:Int}(h1:a9 2 ρ μ=some (.d (.int T),μ)):aF (aU [(kI 2),(kI 2),(kI 3),(kI 4)]) (aj (aj (a9 2) (kI 25) (aR cN)) (kI 4) (aR co)) ρ μ=some (.d (.int ((7-g7 T:Nat):Int)),μ):=by
 have h0:0≤(T.fdiv 25).fmod 4:=Fa _ (by decide);have h4:(T.fdiv 25).fmod 4<4:=HC _ (by decide);refine cF (V:=.d (.list [.int 2,.int 2,.int 3,.int 4])) (dF (ds:=[.int 2,.int 2,.int 3,.int 4]) rfl (aa (xF rfl))) (jr 25 4 (by decide) (by decide) h1 rfl) rfl h0 ?_ (aa (xF rfl));unfold g7;generalize (T.fdiv 25).fmod 4=x at*
 have:x=0∨x=1∨x=2∨x=3:=by lia
 rcases this with rfl|rfl|rfl|rfl<;>rfl
noncomputable def im(os td:List Int):List ah:=[.iter (iL os),.live (iL td)]
theorem st8(x:cV)(T:Int)(m:List Nat)(G:List Fm)(os os1:List Int)(hG:bJ G=F7 0 6)(ht:G.length+g7 T=6)(h:xO os (d9 m G++[0]) os1):Br ({x with total:=some (.d (.int T)),tape:=some (.c 0),told:=some (.c 1)}).loc (im os [])=
  some (.next,({x with total:=some (.d (.int T)),tape:=some (.c 0),told:=some (.c 1),read:=some (.d (.list (bi m G++[Im []])))}).loc,im os1 (d9 m G++[0])):=by
 let ρ:=({x with total:=some (.d (.int T)),tape:=some (.c 0),told:=some (.c 1)}:cV).loc
 have h6:(bJ G).length=6:=by refine rA hG ?_;rfl
 have ht5:=mh T;have hi:aK false (af [(aF (aU [(kI 2),(kI 2),(kI 3),(kI 4)]) (aj (aj (a9 2) (kI 25) (aR cN)) (kI 4) (aR co)))] cH) ρ (im os [])=some ((zd (7-g7 T-0)).map λ(i:Nat)=>EW ((0+i:Nat):Int),none,im os []):=
  qb (d4 (Dy rfl) rfl) (by decide) (by lia)
 obtain ⟨w',e⟩:=sJ (m:=m) (μ:=[.iter [],.live []]) (i:=0) (j:=1) (by decide) (by decide) (by decide) (ρ0:=ρ++[none]) (e:=af [a9 8,a9 9] aC) (λw μ'=>by
   have:af [a9 8,a9 9] aC ((ρ++[none]).set 31 w) μ'=aC [.c 0,.c 1] μ':=rfl
   refine rA this ?_;rfl) ((zd (7-g7 T-0)).map λ(i:Nat)=>EW ((0+i:Nat):Int)) os1 G ((zd (7-g7 T-0)).map λ(i:Nat)=>EW ((0+i:Nat):Int)) none os [] [] (by simp;lia) h (by refine rA hG ?_;rfl) (by lia) (by simp;lia) (by simp;lia)
 have hcm:eX Ac (aK false (af [(aF (aU [(kI 2),(kI 2),(kI 3),(kI 4)]) (aj (aj (a9 2) (kI 25) (aR cN)) (kI 4) (aR co)))] cH)) (du 31) (cW bg (aY (af [(a9 8),(a9 9)] aC))) ρ (im os [])=some (bi m G++[.tuple []],im os1 (d9 m G++[0])):=by
  have e':=e;simp only [Lf] at e'
  rw [show gV [.iter [],.live []] 0 1 os []=im os [] from rfl] at e'
  exact r9 hi e'
 exact ju hcm
theorem JH(hf:f ρ μ=some (.d (.list xs),μ1))(hg:g ρ μ1=some (.d (.list ys),μ2))(hz:xs.length+ys.length≤sizeLine):aj f g aT ρ μ=some (.d (.list (xs++ys)),μ2):=by
 exact qR hf hg ((e_ (rfl:jI (.d (.list xs))=none)).trans ((e_ (rfl:mn (.d (.list xs))=none)).trans ((bU (rfl:da μ2 (.d (.list xs))=some _)).trans ((bU (rfl:da μ2 (.d (.list ys))=some _)).trans (if_pos hz)))))
theorem VQ(T:Int)(p:Nat)(o:Int):∃b,mk T p [o]=[b]∧(b=o∨b=o+128):=by
 simp only [mk]
 split
 ·exact (aZ _ rfl (.inr rfl))
 ·exact (aZ _ rfl (.inl rfl))
theorem st9(x:cV)(T g:Int)(p:Nat)(os1 td:List Int)(h:rd os1=some (g,mk T p [64+T.fmod 64])):wj ({x with tape:=some (.c 0)}).loc (im os1 td)=some (.next,({x with tape:=some (.c 0),beyond:=some (.d (.list (iL [g])))}).loc,im [] td):=by
 let ρ:=({x with tape:=some (.c 0)}:cV).loc
 refine au (VQ T p (64+T.fmod 64)) λb hb hb2=>?_;rw [hb] at h
 have h0:0≤T.fmod 64:=Fa _ (by decide);have h1:T.fmod 64<64:=HC _ (by decide);have c1:af [a9 8] cO ρ (im os1 td)=some (.d (.list [.int g]),im [b] td):=d4 (V:=.c 0) rfl (yN rfl h);have c2:af [a9 8] cO ρ (im [b] td)=some (.d (.list []),im [] td):=d4 (V:=.c 0) rfl (ym (b:=b) rfl (by lia) (by lia) hb2);have c3:af [a9 8] cO ρ (im [] td)=some (.d (.list []),im [] td):=d4 (V:=.c 0) rfl (xQ rfl);unfold wj;exact (bO (JH (JH c1 c2 (aa (xF rfl))) c3 (aa (xF rfl)))).trans rfl
noncomputable def q8(N:List Int)(g:Int):List PyData:=[.tuple [.list (iL N),.list (iL N)],.tuple [.list (iL [g]),.list (iL [g])]]
noncomputable def FN(N:List Int)(X:List PyData):List ah:=[.iter [],.frozen (iL N),.live X]
theorem TZ(hf:f ρ μ=some (.c j,μ))(hg:g ρ μ=some (.d d,μ))(hc:μ[j]? =some (.live xs)):cX [f,g] ρ μ=some (.d (.tuple [.list xs,d]),μ.set j (.frozen xs)):=by
 exact Ir (zL hf hg) (fE (qu hc) (fE rfl rfl)) (aa (xF rfl))
theorem aa3(h:eY fs ρ μ=some (ds.map .d,μ1))(hz:ds.length≤sizeLine):mZ fs ρ μ=some (.c μ1.length,μ1++[.live ds]):=by
 exact Hd h (ta ds) hz
theorem ao8(x:cV)(N:List Int)(g:Int):pV ({x with numbers:=some (.d (.list (iL N))),great:=some (.d (.int g)),told:=some (.c 1),beyond:=some (.d (.list (iL [g])))}).loc (im [] N)=
  some (.next,({x with numbers:=some (.d (.list (iL N))),great:=some (.d (.int g)),told:=some (.c 1),beyond:=some (.d (.list (iL [g]))),asked:=some (.c 2)}).loc,FN N (q8 N g)):=by
 let ρ:=({x with numbers:=some (.d (.list (iL N))),great:=some (.d (.int g)),told:=some (.c 1),beyond:=some (.d (.list (iL [g])))}:cV).loc
 have h1:cX [(a9 9),(a9 4)] ρ (im [] N)=some (.d (.tuple [.list (iL N),.list (iL N)]),[.iter [],.frozen (iL N)]):=TZ (j:=1) rfl rfl rfl;have h2:cX [(a9 11),(aU [(a9 7)])] ρ [.iter [],.frozen (iL N)]=some (.d (.tuple [.list (iL [g]),.list (iL [g])]),[.iter [],.frozen (iL N)]):=d8 (ds:=[.list (iL [g]),.list (iL [g])]) (an rfl (an (kr rfl) bX)) (aa (xF rfl));unfold pV;exact (bO (aa3 (ds:=q8 N g) (an h1 (an h2 bX)) (aa (by simp [q8])))).trans rfl
theorem nT(h0:a9 12 ρ μ=some (.c 2,μ))(hf:f ρ μ=some (.d d,μ))(hc:μ[2]? =some (.live X))(hz:X.length≤100000):ci (ef (a9 12) f) ρ μ=some (.next,ρ,μ.set 2 (.live (X++[d]))):=
 eA (gk h0 hf hc (aa hz))
noncomputable def zP(N:List Int)(g T:Int):List Int:=N++[g]++[255,256,-256,T-2000]
noncomputable def uO(s:Int):List PyData:=[.bool true,.bool false,.bool true,.bool true,.bool true,.bool (decide (s<256)),.bool (decide (256≤s)),.bool (s==0)]
noncomputable def yo(s:Int):PyData:=.tuple [.list (uO s),.list (uO s)]
theorem Gm(s:Int):Good (yo s):=dK (n:=1) (gH λx hx=>by
 simp only [uO,C1,E4,or_false] at hx
 rcases hx with rfl|rfl|rfl|rfl|rfl|rfl|rfl|rfl<;>exact jg) (by decide)
noncomputable def mc(s:Int):List PyData:=[.bool (decide (s<256)),.bool (decide (256≤s)),.bool (s==0)]
theorem Ax(s:Int):s.fdiv 256=s/256:=Int.fdiv_eq_ediv_of_nonneg _ (by decide)
theorem JO(x:cV)(s:Int)(X:List PyData)(μ:List ah)(sy te:Option AV)(hc:μ[2]? =some (.live X))(hz:X.length≤10000):
  (ap (c6 14 (aU [(af [(a9 13)] cq),(af [(a9 13)] bQ),(af [(a9 13)] fx)])) (ap (ci (ef (a9 12) (cX [(aj (aj (aU [(af [(a9 13),(kT "int")] gw)]) (cb mW (aK false (aj (aU [(a9 13)]) (a9 14) aT)) (du 31) (cW bg (aY (af [(a9 31),(kT "bool")] gw)))) aT) (a9 14) aT),(aU [(kB true),(kB false),(kB true),(kB true),(kB true),(dZ (aj (a9 13) (kI 256) (aR cN)) (kI 1) (d_ λx y=>decide (x<y))),(dZ (aj (a9 13) (kI 256) (aR cN)) (kI 0) (d_ λx y=>decide (y<x))),(yb (a9 13))])]))) aP)) ({x with asked:=some (.c 2),symbol:=some (.d (.int s)),tests:=te}).loc μ=
   some (.next,({x with asked:=some (.c 2),symbol:=some (.d (.int s)),tests:=some (.d (.list (mc s)))}).loc,μ.set 2 (.live (X++[yo s]))):=by
 have h1:aU [(af [(a9 13)] cq),(af [(a9 13)] bQ),(af [(a9 13)] fx)] ({x with asked:=some (.c 2),symbol:=some (.d (.int s)),tests:=te}:cV).loc μ=some (.d (.list (mc s)),μ):=
  dF (ds:=mc s) (an (d4 rfl s61) (an (d4 rfl s62) (an (d4 rfl s63) bX))) (aa (by simp [mc]))
 let ρ:=({x with asked:=some (.c 2),symbol:=some (.d (.int s)),tests:=some (.d (.list (mc s)))}:cV).loc
 have hcm:=ip (sc:=mW) (itf:=aK false (aj (aU [(a9 13)]) (a9 14) aT)) (e:=af [(a9 31),(kT "bool")] gw) (ρ:=ρ) (μ:=μ) (g:=none) (xs:=.int s::mc s) 31 (λx=>match x with| .bool _=>.bool true|_=>.bool false) (d7 (V:=.d (.list (.int s::mc s))) (cS (xs:=[.int s]) (ys:=mc s) (kr rfl) rfl rfl rfl (aa (by simp [mc]))) rfl) (az _ _) (λy hy=>by
  simp only [mc,C1,E4,or_false] at hy
  rcases hy with rfl|rfl|rfl|rfl<;>exact iM rfl rfl rfl) (aa (by simp [mc]))
 have h2:aj (aj (aU [(af [(a9 13),(kT "int")] gw)]) (cb mW (aK false (aj (aU [(a9 13)]) (a9 14) aT)) (du 31) (cW bg (aY (af [(a9 31),(kT "bool")] gw)))) aT) (a9 14) aT ρ μ=some (.d (.list (uO s)),μ):=
  cS (V:=.d (.list [.bool true,.bool false,.bool true,.bool true,.bool true])) (xs:=[.bool true,.bool false,.bool true,.bool true,.bool true]) (ys:=mc s) (cS (xs:=[.bool true]) (ys:=[.bool false,.bool true,.bool true,.bool true]) (kr (iM rfl rfl rfl)) (bY hcm) rfl rfl (aa (xF rfl))) rfl rfl rfl (aa (by simp [mc]))
 have hq:aj (a9 13) (kI 256) (aR cN) ρ μ=some (.d (.int (s.fdiv 256)),μ):=cY rfl rfl (kL (by decide));have e1:dZ (aj (a9 13) (kI 256) (aR cN)) (kI 1) (d_ λx y=>decide (x<y)) ρ μ=some (.d (.bool (decide (s<256))),μ):=by
  refine (gX (W:=.d (.int 1)) hq rfl rfl).trans ?_;refine rA (Ax _) ?_
  congr 4
  exact decide_eq_decide.mpr (by omega)
 have e2:dZ (aj (a9 13) (kI 256) (aR cN)) (kI 0) (d_ λx y=>decide (y<x)) ρ μ=some (.d (.bool (decide (256≤s))),μ):=by
  refine (gX (W:=.d (.int 0)) hq rfl rfl).trans ?_;refine rA (Ax _) ?_
  congr 4
  exact decide_eq_decide.mpr (by omega)
 have e3:yb (a9 13) ρ μ=some (.d (.bool (s==0)),μ):=by
  have:yb (a9 13) ρ μ=some (.d (.bool (!(s != 0))),μ):=rfl
  refine rA this ?_
  simp [bne]
 have l3:aU [(kB true),(kB false),(kB true),(kB true),(kB true),(dZ (aj (a9 13) (kI 256) (aR cN)) (kI 1) (d_ λx y=>decide (x<y))),(dZ (aj (a9 13) (kI 256) (aR cN)) (kI 0) (d_ λx y=>decide (y<x))),(yb (a9 13))] ρ μ=some (.d (.list (uO s)),μ):=
  dF (ds:=uO s) (an rfl (an rfl (an rfl (an rfl (an rfl (an e1 (an e2 (an e3 bX)))))))) (aa (by simp [uO]))
 have h3:=d8 (ds:=[.list (uO s),.list (uO s)]) (an h2 (an l3 bX)) (aa (xF rfl));refine (aB (bO h1)).trans ?_;exact (aB (nT rfl h3 hc (by omega))).trans bK
theorem wk(x:cV)(xs:List PyData):∀ (r:List Int) (X:List PyData) (μ:List ah) (sy te:Option AV),μ[2]? =some (.live X)→X.length+r.length≤10000→∃sy' te',
  fS (du 13) (ap (c6 14 (aU [(af [(a9 13)] cq),(af [(a9 13)] bQ),(af [(a9 13)] fx)])) (ap (ci (ef (a9 12) (cX [(aj (aj (aU [(af [(a9 13),(kT "int")] gw)]) (cb mW (aK false (aj (aU [(a9 13)]) (a9 14) aT)) (du 31) (cW bg (aY (af [(a9 31),(kT "bool")] gw)))) aT) (a9 14) aT),(aU [(kB true),(kB false),(kB true),(kB true),(kB true),(dZ (aj (a9 13) (kI 256) (aR cN)) (kI 1) (d_ λx y=>decide (x<y))),(dZ (aj (a9 13) (kI 256) (aR cN)) (kI 0) (d_ λx y=>decide (y<x))),(yb (a9 13))])]))) aP)) aP none xs (iL r) ({x with asked:=some (.c 2),symbol:=sy,tests:=te}).loc μ=
   some (.next,({x with asked:=some (.c 2),symbol:=sy',tests:=te'}).loc,μ.set 2 (.live (X++r.map yo)))
 | [],X,μ,sy,te,hc,_=>(jK sy te (by
  refine rA LQ ?_;refine rA (DN _) ?_;refine rA (eJ hc) ?_;rfl))
 |s::r,X,μ,sy,te,hc,hz=>by
  simp only [Bb] at hz
  have hlt:2<μ.length:=(Bm.mp hc).1;refine lC (wk x xs r (X++[yo s]) (μ.set 2 (.live (X++[yo s]))) (some (.d (.int s))) (some (.d (.list (mc s)))) (cz hlt) (by simp;lia)) λsy' te' e=>?_;refine (jK sy' te' ?_);refine (dQ (ρ1:=({x with asked:=some (.c 2),symbol:=some (.d (.int s)),tests:=te}:cV).loc) rfl (JO x s X μ sy te hc (by lia)) (az _ _)).trans (e.trans ?_)
  simp [Hb]
theorem ap9(x:cV)(N:List Int)(g T:Int)(X:List PyData)(μ:List ah)(hN:N.length≤100)(h1:da μ (.c 1)=some (iL N))(hc:μ[2]? =some (.live X))(hz:X.length≤1000):∃sy te,
  p_ ({x with total:=some (.d (.int T)),told:=some (.c 1),beyond:=some (.d (.list (iL [g]))),asked:=some (.c 2)}).loc μ=
   some (.next,({x with total:=some (.d (.int T)),told:=some (.c 1),beyond:=some (.d (.list (iL [g]))),asked:=some (.c 2),symbol:=sy,tests:=te}).loc,μ.set 2 (.live (X++(zP N g T).map yo))):=by
 let ρ:=({x with total:=some (.d (.int T)),told:=some (.c 1),beyond:=some (.d (.list (iL [g]))),asked:=some (.c 2)}:cV).loc
 have a1:aj (a9 9) (a9 11) aT ρ μ=some (.d (.list (iL (N++[g]))),μ):=by
  refine rB (lq _ _) ?_;exact cS (V:=.c 1) (xs:=iL N) (ys:=iL [g]) rfl rfl h1 rfl (aa (by refine rA (xJ _) ?_;simp;lia))
 have a2:aU [(kI 255),(kI 256),(jk (kI 256)),(aj (a9 2) (kI 2000) (aR λx y=>some (x-y)))] ρ μ=some (.d (.list (iL [255,256,-256,T-2000])),μ):=
  dF (ds:=iL [255,256,-256,T-2000]) (an rfl (an rfl (an rfl (an (jP (x:=T) (y:=2000) rfl rfl) bX)))) (aa (xF rfl))
 have a3:=cS a1 a2 rfl rfl (aa (by refine rA (xJ _) ?_;refine rA (xJ _) ?_;simp;lia));rw [lq] at a3
 refine lC (wk ({x with total:=some (.d (.int T)),told:=some (.c 1),beyond:=some (.d (.list (iL [g])))}) (iL (zP N g T)) (zP N g T) X μ x.symbol x.tests hc (by simp [zP];lia)) λsy te e=>?_;refine (jK sy te ?_);unfold p_;refine rA (gJ (d7 (V:=.d (.list (iL (zP N g T)))) a3 rfl)) ?_;exact e
noncomputable def uW(m:List Nat)(cs:List Int):List U:=units m cs false (zd 6)++[[92]]
noncomputable def vW(m:List Nat)(cs:List Int):List U:=units m cs true (zd 6)
noncomputable def xT(m:List Nat)(cs:List Int):List Nat:=(units m cs false (zd 6)).flatten
noncomputable def vT(m:List Nat)(cs:List Int):List Nat:=(vW m cs).flatten
theorem rk(m:List Nat)(cs:List Int):(xT m cs).length≤60:=(gh m cs false (zd 6)).1
theorem Hz(m:List Nat)(cs:List Int):(vT m cs).length≤60:=(gh m cs true (zd 6)).1
theorem sL(m:List Nat)(cs:List Int)(sh:Bool):(units m cs sh (zd 6)).length≤30:=hZ m cs sh (zd 6)
theorem ao2(x:cV)(m:List Nat)(cs:List Int)(μ:List ah)(hm:m.length=6)(hc:cs.length=6):nW ({x with cells:=some (.d (.list (iL cs))),mates:=some (.d (.list (nL m)))}).loc μ=
  some (.next,({x with cells:=some (.d (.list (iL cs))),mates:=some (.d (.list (nL m))),units:=some (.d (.list (uL (uW m cs))))}).loc,μ):=by
 let ρ:=({x with cells:=some (.d (.list (iL cs))),mates:=some (.d (.list (nL m)))}:cV).loc
 have hl:=sL m cs false;have h1:af [(af [(kI 6)] cH),(a9 3),(a9 1),(kB false)] bB ρ μ=some (.d (.list (uL (units m cs false (zd 6)))),μ):=
  t0 (V:=.rng 0 6) (V':=.d (.list (nL m))) (V'':=.d (.list (iL cs))) (V3:=.d (.bool false)) rfl rfl rfl rfl (Sg hm hc)
 have h2:aU [kS "\\"] ρ μ=some (.d (.list (uL [[92]])),μ):=kr rfl;have h3:=cS h1 h2 rfl rfl (aa (by simp [uL];lia));rw [show uL (units m cs false (zd 6))++uL [[92]]=uL (uW m cs) by simp [uL,uW]] at h3
 unfold nW;exact (bO h3).trans rfl
theorem Ce{X:Type}(xs:List X)(a:X):fA (xs++[a]) none (some (-1))=xs:=by
 have:clipAt (xs++[a]).length (-1)=xs.length:=by
  unfold clipAt
  simp
  lia
 simp only [fA,SB,this,Sk,RK]
 simp
theorem T_(a b:List U):uL (a++b)=uL a++uL b:=by simp [uL]
theorem YN:aL (jk (kI 1)) ρ μ=some (some (-1),μ):=dA rfl
theorem ak1(x:cV)(m:List Nat)(cs:List Int)(μ:List ah):nH ({x with units:=some (.d (.list (uL (uW m cs))))}).loc μ=
  some (.next,({x with units:=some (.d (.list (uL (uW m cs)))),text:=some (.d (.str (tS (xT m cs))))}).loc,μ):=by
 let ρ:=({x with units:=some (.d (.list (uL (uW m cs))))}:cV).loc
 have hl:=sL m cs false;have hx:=rk m cs;have h1:ce (a9 15) ba (aL (jk (kI 1))) ρ μ=some (.d (.list (uL (units m cs false (zd 6)))),μ):=by
  have:=fc (f:=a9 15) (p:=ba) (q:=aL (jk (kI 1))) (ρ:=ρ) (μ:=μ) (xs:=uL (uW m cs)) (lo:=none) (hi:=some (-1)) rfl rfl YN (aa (by simp [uL,uW];lia))
  refine rA this ?_;rw [uW];refine rA (T_ _ _) ?_;exact congrArg (λl=>some (AV.d (.list l),μ)) (Ce _ _)
 unfold nH;exact (bO (lY h1 rfl (by unfold xT at hx;lia))).trans rfl
theorem al1(x:cV)(m:List Nat)(cs:List Int)(μ:List ah)(hm:m.length=6)(hc:cs.length=6):nh ({x with cells:=some (.d (.list (iL cs))),mates:=some (.d (.list (nL m)))}).loc μ=
  some (.next,({x with cells:=some (.d (.list (iL cs))),mates:=some (.d (.list (nL m))),shorn:=some (.d (.str (tS (vT m cs))))}).loc,μ):=by
 let ρ:=({x with cells:=some (.d (.list (iL cs))),mates:=some (.d (.list (nL m)))}:cV).loc
 have hx:=Hz m cs;have h1:af [(af [(kI 6)] cH),(a9 3),(a9 1),(kB true)] bB ρ μ=some (.d (.list (uL (vW m cs))),μ):=
  t0 (V:=.rng 0 6) (V':=.d (.list (nL m))) (V'':=.d (.list (iL cs))) (V3:=.d (.bool true)) rfl rfl rfl rfl (Sg hm hc)
 unfold nh;exact (bO (lY h1 rfl (by unfold vT at hx;lia))).trans rfl
theorem lN{a b:List Nat}(hf:f ρ μ=some (.d (.str (tS a)),μ))(hg:g ρ μ=some (.d (.str (tS b)),μ))(hz:a.length+b.length≤100000):aj f g aT ρ μ=some (.d (.str (tS (a++b))),μ):=by
 refine qR hf hg ((e_ (rfl:jI (.d (.str (tS a)))=none)).trans ((oN (rfl:mn (.d (.str (tS a)))=some _) (rfl:mn (.d (.str (tS b)))=some _)).trans ((if_pos (by rw [eh,eh];exact aa hz)).trans (congrArg (λz=>some (AV.d (.str z),μ)) ?_))));apply UP;refine rA (P7 _ _) ?_
 simp [tS]
theorem Hf{spec:iT}{g:Option Nat}(h:b_ fs spec ρ μ=some (xs,g,μ1))(hz:xs.length≤sizeLine):yh fs spec ρ μ=some (.d (.list xs),μ1):=by
 exact aD h λVs μ2 e1 h=>(b5 e1).trans ((b5 h).trans (if_pos hz))
theorem Tg{a:List Nat}(hf:f ρ μ=some (.d (.str (tS a)),μ))(hz:a.length≤100000):af [f] dD ρ μ=some (.d (.int a.length),μ):=by
 refine d4 hf ?_;exact (len_str (by rw [eh];exact aa hz)).trans (by rw [eh])
theorem ud:∀ (us:List U) (k:Nat),(l6 k us).length=us.length
 | [],_=>rfl
 |u::us,k=>by simp [l6,ud us]
noncomputable def Gr(us:List U):PyData→PyData
 | .tuple [.int k,u]=>.tuple [.int (((us.take (k.toNat+1)).flatten.length:Int)-1),u]
 |x=>x
theorem Kl{us:List U}{u:PyData}:Gr us (.tuple [.int k,u])=.tuple [.int (((us.take (k+1)).flatten.length:Int)-1),u]:=rfl
theorem Bk:∀ (us pre:List U),(cL pre.length (uL us)).map (Gr (pre++us))=l6 pre.flatten.length us
 | [],pre=>rfl
 |u::us,pre=>by
  have ih:=Bk us (pre++[u]);rw [be,Eg,Lx,be] at ih
  simp only [Bb,EQ,RD,Gq,LJ,DN,Lp] at ih
  refine (?_:Gr (pre++u::us) (.tuple [.int (pre.length:Nat),uS u])::(cL (pre.length+1) (uL us)).map (Gr (pre++u::us))=_);refine rA ih ?_;rw [l6]
  congr 1
  have ht:(pre++u::us).take (pre.length+1)=pre++[u]:=by
   refine rA List.take_append ?_;refine rA (F9 (by lia)) ?_
   simp
  simp only [Kl,ht,Lx,be,Gq,LJ,DN]
theorem ss:∀ (us:List U) (k:Nat) {x:PyData},x∈cL k (uL us)→∃ (i:Nat) (u:U),i<us.length∧x=.tuple [.int ((k+i:Nat):Int),uS u]
 | [],_,_,h=>by cases h
 |u::us,k,x,h=>by
  rcases C1.mp h with rfl|h
  ·exact (fX 0 u (by simp) rfl)
  ·refine jV (ss us (k+1) h) λi v hi e=>?_
   refine (fX (i+1) v (by simp;lia) ?_);refine rA e ?_;exact rA (show k+1+i=k+(i+1) by lia) rfl
theorem Z_(m:List Nat)(cs:List Int):WF (uW m cs):=(dw _ ([[92]]) rfl (lV m cs false (zd 6)) (.inr rfl))
theorem B8(m:List Nat)(cs:List Int):(uW m cs).flatten=xT m cs++[92]:=by simp [uW,xT]
noncomputable def Ok(m:List Nat)(cs:List Int):PyData:=.list (l6 0 (uW m cs))
theorem aj6(m:List Nat)(cs:List Int):∀u∈uW m cs,∀c∈u,c<128:= λu hu c hc=>by
 rcases AZ.mp hu with h|h
 ·exact uj m cs false _ u h c hc
 ·simp only [Ab] at h
  subst h;simp only [Ab] at hc
  lia
theorem Bv:∀ (us:List U) (k:Nat),(∀u∈us,∀c∈u,c<128)→∀x∈l6 k us,p0 1 x
 | [],_,_,_,h=>by cases h
 |u::us,k,hu,x,h=>by
  rcases C1.mp h with rfl|h
  ·refine DA λy hy=>?_
   simp only [C1,E4,or_false] at hy
   rcases hy with rfl|rfl
   ·exact C4
   ·exact ix (hu u (by simp))
  ·exact Bv us _ (λv hv=>hu v (by simp [hv])) x h
theorem Dq(us:List U)(k:Nat):(us.take k).flatten.length≤us.flatten.length:=by
 conv=>rhs;rw [←LM k us]
 rw [Lx,be];lia
noncomputable def mC(m:List Nat)(cs:List Int):PyData:=.tuple [Ok m cs,Ok m cs]
theorem JU(m:List Nat)(cs:List Int):Good (mC m cs):=dK (n:=2) (gH (Bv _ _ (aj6 m cs))) (by decide)
theorem ap5(x:cV)(m:List Nat)(cs:List Int)(X:List PyData)(μ:List ah)(hc:μ[2]? =some (.live X))(hz:X.length≤1000):n9 ({x with asked:=some (.c 2),units:=some (.d (.list (uL (uW m cs)))),text:=some (.d (.str (tS (xT m cs))))}).loc μ=
  some (.next,({x with asked:=some (.c 2),units:=some (.d (.list (uL (uW m cs)))),text:=some (.d (.str (tS (xT m cs))))}).loc,μ.set 2 (.live (X++[mC m cs]))):=by
 let ρ:=({x with asked:=some (.c 2),units:=some (.d (.list (uL (uW m cs)))),text:=some (.d (.str (tS (xT m cs))))}:cV).loc
 have hl:=sL m cs false;have hx:=rk m cs;have hwl:(uW m cs).length≤31:=by simp [uW];lia
 have hwf:(uW m cs).flatten.length≤61:=by refine rA (B8 _ _) ?_;simp;lia
 have h1:aj (a9 16) (kS "\\") aT ρ μ=some (.d (.str (tS (uW m cs).flatten)),μ):=by
  refine rA (B8 _ _) ?_;exact lN (b:=[92]) rfl rfl (by simp;lia)
 have h2:=Hf (pg h1 (Z_ m cs)) (by refine rA (ud _ _) ?_;exact aa (by lia));have hcm:=si (sc:=ut) (itf:=b_ [(a9 15)] f_) (e:=(cX [(aj (af [(dv (kS "") [(ce (a9 15) ba (aL (aj (a9 31) (kI 1) aT)))] fg)] dD) (kI 1) (aR λx y=>some (x-y))),(a9 32)])) (ρ:=ρ) (μ:=μ) 31 32 (by decide) (Gr (uW m cs))
  (jU (V:=.d (.list (uL (uW m cs)))) rfl rfl) (az _ _) (λy hy=>by
   refine jV (ss (uW m cs) 0 hy) λi u hi zq3=>?_;subst zq3;refine (fX _ _ rfl ?_);refine rA (Lp _) ?_
   let ρ1:d0:=((bG ut ρ).set 31 (some (.d (.int (i:Int))))).set 32 (some (.d (uS u)))
   have a0:aL (aj (a9 31) (kI 1) aT) ρ1 μ=some (some ((i+1:Nat):Int),μ):=dA (cR (x:=i) (y:=1) rfl rfl);have a1:ce (a9 15) ba (aL (aj (a9 31) (kI 1) aT)) ρ1 μ=some (.d (.list (uL ((uW m cs).take (i+1)))),μ):=by
    have:=fc (f:=a9 15) (p:=ba) (ρ:=ρ1) (μ:=μ) (xs:=uL (uW m cs)) (lo:=none) rfl rfl a0 (aa (by simp [uL];lia))
    refine rA this ?_;refine rA (pc _ (by simp [uL];lia)) ?_;simp only [uL,Rc]
   have hf:=Dq (uW m cs) (i+1);have a2:=Tg (lY a1 rfl (by lia)) (by lia);have a3:=jP a2 (rfl:kI 1 ρ1 μ=some (.d (.int 1),μ));refine (d8 (ds:=[.int ((((uW m cs).take (i+1)).flatten.length:Int)-1),uS u]) (an a3 (an rfl bX)) (aa (xF rfl))).trans ?_;simp only [Kl]) (by refine rA (ik _ _) ?_;exact aa (by simp [uL];lia))
 have e:=Bk (uW m cs) [];simp only [EQ,Lf,LJ] at e
 rw [e] at hcm
 have h3:=d8 (ds:=[Ok m cs,Ok m cs]) (an h2 (an (bY hcm) bX)) (aa (xF rfl));unfold n9;exact nT rfl h3 hc (by lia)
theorem Y4(m:List Nat)(cs:List Int):WF (units m cs false (zd 6)):=m8 m cs false _
theorem FE(m:List Nat)(cs:List Int)(t:List U)(ht:t.all wf=true):WF (units m cs false (zd 6)++t):=(dw _ ([]) ((DN _).symm) (by refine rA RL ?_;refine rA (lV _ _ _ _) ?_;refine rA ht ?_;rfl) (.inl rfl))
noncomputable def mJ(m:List Nat)(cs:List Int):PyData:=.tuple [.list [.str (tS (vT m cs)),.str (tS (vT m cs++[34,40]))],.list [.str (tS (vT m cs)),.str (tS (vT m cs++[34,40]))]]
theorem G1(m:List Nat)(cs:List Int):Good (mJ m cs):=dK (n:=1) (gH λx hx=>by
 have:=yG m cs true (zd 6)
 simp only [C1,E4,or_false] at hx
 rcases hx with rfl|rfl
 ·exact ix this
 ·refine ix λc hc=>?_
  rcases AZ.mp hc with h|h
  ·exact this c h
  ·simp only [C1,E4,or_false] at h
   lia) (by decide)
theorem am8(x:cV)(m:List Nat)(cs:List Int)(X:List PyData)(μ:List ah)(hc:μ[2]? =some (.live X))(hz:X.length≤1000):np ({x with asked:=some (.c 2),text:=some (.d (.str (tS (xT m cs)))),shorn:=some (.d (.str (tS (vT m cs))))}).loc μ=
  some (.next,({x with asked:=some (.c 2),text:=some (.d (.str (tS (xT m cs)))),shorn:=some (.d (.str (tS (vT m cs))))}).loc,μ.set 2 (.live (X++[mJ m cs]))):=by
 let ρ:=({x with asked:=some (.c 2),text:=some (.d (.str (tS (xT m cs)))),shorn:=some (.d (.str (tS (vT m cs))))}:cV).loc
 have hl:=sL m cs false;have hx:=rk m cs;have hv:=Hz m cs;have h1:af [(a9 16)] aM ρ μ=some (.d (.str (tS (vT m cs))),μ):=by
  refine d4 (V:=.d (.str (tS (xT m cs)))) rfl ?_;refine (s2 (Y4 m cs) (by unfold xT at hx;lia) (by lia)).trans ?_
  have:=gC m cs [] (zd 6)
  rw [DN] at this
  refine rA this ?_
  simp [clean,vT,vW]
 have h2:af [(aj (a9 16) (kS "\"(") aT)] aM ρ μ=some (.d (.str (tS (vT m cs++[34,40]))),μ):=by
  have hf:(units m cs false (zd 6)++[[34],[40]]).flatten=xT m cs++[34,40]:=by simp [xT]
  have a1:aj (a9 16) (kS "\"(") aT ρ μ=some (.d (.str (tS (units m cs false (zd 6)++[[34],[40]]).flatten)),μ):=by
   refine rA hf ?_;exact lN (b:=[34,40]) rfl rfl (by simp;lia)
  refine d4 a1 ?_;refine (s2 (FE m cs [[34],[40]] (by decide)) (by refine rA hf ?_;simp;lia) (by simp;lia)).trans ?_;refine rA (gC m cs [[34],[40]] (zd 6)) ?_
  simp [clean,vT,vW]
 have h3:aj (a9 17) (kS "\"(") aT ρ μ=some (.d (.str (tS (vT m cs++[34,40]))),μ):=lN (b:=[34,40]) rfl rfl (by simp;lia);have l1:=dF (ds:=[.str (tS (vT m cs)),.str (tS (vT m cs++[34,40]))]) (an h1 (an h2 bX)) (aa (xF rfl));have l2:=dF (ρ:=ρ) (μ:=μ) (fs:=[a9 17,aj (a9 17) (kS "\"(") aT]) (ds:=[.str (tS (vT m cs)),.str (tS (vT m cs++[34,40]))]) (an rfl (an h3 bX)) (aa (xF rfl));have h4:=d8 (ds:=[.list [.str (tS (vT m cs)),.str (tS (vT m cs++[34,40]))],.list [.str (tS (vT m cs)),.str (tS (vT m cs++[34,40]))]]) (an l1 (an l2 bX)) (aa (xF rfl));unfold np;exact nT rfl h4 hc (by lia)
noncomputable def pU(u:U):Bool:=decide (u=[40])||decide (u=[41])
noncomputable def fU(u:U):Int:=if u=[40] then 7 else 8
noncomputable def pD:PyData→Bool
 | .tuple [_,.str x]=>pU x.cps.toList
 |_=>false
noncomputable def fD:PyData→PyData
 | .tuple [_,.str x]=>.int (fU x.cps.toList)
 |x=>x
theorem Vt{a:PyData}{u:U}:pD (.tuple [a,uS u])=pU u:=congrArg pU (fR u)
theorem XZ{a:PyData}{u:U}:fD (.tuple [a,uS u])=.int (fU u):=congrArg (λx=>EW (fU x)) (fR u)
theorem Ci:∀ (us:List U) (k:Nat) {x:PyData},x∈l6 k us→∃ (n:Int) (u:U),u∈us∧x=.tuple [.int n,uS u]
 | [],_,_,h=>by cases h
 |u::us,k,x,h=>by
  rcases C1.mp h with rfl|h
  ·exact (fX _ u (by simp) rfl)
  ·refine jV (Ci us _ h) λn v hv e=>?_
   exact (fX n v (by simp [hv]) e)
theorem BK:∀ (us:List U) (k:Nat),((l6 k us).filter pD).map fD=iL ((us.filter pU).map fU)
 | [],_=>rfl
 |u::us,k=>by
  have ih:=BK us (k+u.length);have e1:pD (.tuple [.int ((k+u.length:Nat)-1),uS u])=pU u:=Vt;have e2:fD (.tuple [.int ((k+u.length:Nat)-1),uS u])=.int (fU u):=XZ;rw [l6];refine rA Ko ?_;refine rA Ko ?_;refine rA e1 ?_
  split
  ·refine rA EV ?_;refine rA EV ?_;refine rA ih ?_;refine rA e2 ?_;rfl
  ·exact ih
theorem Pa(m:List Nat)(cs:List Int)(p:Nat):((eI m cs true p).filter pU).map fU=[sg m p]:=by
 have hq:=Ye (jv cs p);unfold eI;generalize iE cs p=q at*
 unfold sq sg
 by_cases h:p<m.getD p 0
 ·refine rA (if_pos h) ?_;refine rA (if_pos h) ?_
  rcases hq with rfl|rfl|rfl|rfl|rfl|rfl|rfl<;>decide
 ·refine rA (if_neg h) ?_;refine rA (if_neg h) ?_
  rcases hq with rfl|rfl|rfl|rfl|rfl|rfl|rfl<;>decide
theorem sB(m:List Nat)(cs:List Int):∀pl:List Nat,((units m cs true pl).filter pU).map fU=pl.map (sg m)
 | []=>rfl
 |p::pl=>by
  have ih:=sB m cs pl;unfold units at ih⊢
  refine rA Fe ?_;refine rA (KR _ _) ?_;refine rA IQ ?_;refine rA ih ?_;refine rA (Pa _ _ _) ?_;rfl
theorem FV(u v:U):(tS v==tS u)=decide (u=v):=by
 by_cases h:u=v
 ·subst h;simp
 ·refine rA (decide_eq_false h) ?_;refine rA (propext (beq_eq_false_iff_ne)) ?_
  intro q
  have:=congrArg (λs:Str=>s.cps.toList) q
  simp [tS] at this
  exact h this.symm
theorem Ts{u:U}(hu:∀c∈u,c<128)(μ:List ah):Xh (.d (uS u)) (.d (.list [.str (tS [40]),.str (tS [41])])) μ=some (pU u):=by
 have hs:RN (uS u)=true:=(ix hu:p0 0 (.str (tS u))).shaped (by decide)
 show (if KX [.str (tS [40]),.str (tS [41])]=true∧RN (uS u)=true then some (([.str (tS [40]),.str (tS [41])]:List PyData).any λy=>Ml y (uS u)) else none)=_
 have hl:KX [.str (tS [40]),.str (tS [41])]=true:=(kQ (n:=0) (xs:=[.str (tS [40]),.str (tS [41])]) λx hx=>by
  simp only [C1,E4,or_false] at hx
  rcases hx with rfl|rfl
  ·exact ix (by simp)
  ·exact ix (by simp)).1
 refine rA (if_pos ⟨hl,hs⟩) ?_;refine (?_:some ((tS [40]==tS u)||((tS [41]==tS u)||false))=_);refine rA (FV _ _) ?_;refine rA (FV _ _) ?_;refine rA (UN _) ?_;rfl
theorem aa4{u:U}(h:pU u=true):ki (tS u)=some (fU u):=by
 unfold pU at h
 rw [PB,decide_eq_true_iff,decide_eq_true_iff] at h
 rcases h with rfl|rfl<;>rfl
noncomputable def qN(y:Int):Bool:=decide (0<y)&&decide (y<256)
theorem Zh(h:a9 31 ρ μ=some (.d (.int y),μ)):Ck (kI 0) (a9 31) (kI 256) (d_ λx y=>decide (x<y)) (d_ λx y=>decide (x<y)) ρ μ=some (qN y,μ):=by
 refine (b5 (rfl:kI 0 ρ μ=some (.d (.int 0),μ))).trans ((b5 h).trans ?_);refine (?_:cond (decide (0<y)) (some (decide (y<256),μ)) (some (false,μ))=some (qN y,μ));unfold qN;cases decide (0<y)<;>rfl
theorem uK(m:List Nat):∀F:Fm,(F.pre m).filter qN=F.pl.map (sg m)
 | .at i=>by
  have:qN (sg m i)=true:=by rcases gA m i with q|q<;>rw [q]<;>decide
  simp [Fm.pre,Fm.pl,this]
 | .bin p l r=>by
  have h1:=uK m l;have h2:=uK m r;have h0:qN (if p then 274 else 272)=false:=by cases p<;>decide
  rw [Fm.pre];refine rA Ko ?_;refine rA h0 ?_;refine rA (if_neg G_) ?_;refine rA (KR _ _) ?_;refine rA h1 ?_;refine rA h2 ?_;rw [Fm.pl];exact rA IQ rfl
theorem wm(m:List Nat):∀G:List Fm,(d9 m G).filter qN=(bJ G).map (sg m)
 | []=>rfl
 |F::G=>by refine rA (jh _ _ _) ?_;refine rA (KR _ _) ?_;refine rA (uK _ _) ?_;refine rA (wm m G) ?_;refine rA (b6 _ _) ?_;exact rA IQ rfl
noncomputable def sgs(m:List Nat):List Int:=(zd 6).map (sg m)
noncomputable def lX(m:List Nat):PyData:=.tuple [.list (iL (sgs m)),.list (iL (sgs m))]
theorem Fv(m:List Nat):Good (lX m):=dK (n:=1) (r6 _) (by decide)
noncomputable def qD:PyData→Bool
 | .int y=>qN y
 |_=>false
theorem ZI(l:List Int):((iL l).filter qD).map id=iL (l.filter qN):=by
 induction l with
 |nil=>rfl
 |cons y l ih=>
  have e:qD (.int y)=qN y:=rfl;refine (?_:(((EW y::iL l).filter qD).map id)=_);refine rA Ko ?_;refine rA Ko ?_;refine rA e ?_
  split
  ·refine rA EV ?_;refine rA ih ?_;rfl
  ·exact ih
theorem ap8(x:cV)(m:List Nat)(cs:List Int)(G:List Fm)(X:List PyData)(μ:List ah)(hG:bJ G=F7 0 6)(hg:(d9 m G).length≤100)(hc:μ[2]? =some (.live X))(hz:X.length≤1000):nu ({x with numbers:=some (.d (.list (iL (d9 m G++[0])))),asked:=some (.c 2),shorn:=some (.d (.str (tS (vT m cs))))}).loc μ=
  some (.next,({x with numbers:=some (.d (.list (iL (d9 m G++[0])))),asked:=some (.c 2),shorn:=some (.d (.str (tS (vT m cs))))}).loc,μ.set 2 (.live (X++[lX m]))):=by
 let ρ:=({x with numbers:=some (.d (.list (iL (d9 m G++[0])))),asked:=some (.c 2),shorn:=some (.d (.str (tS (vT m cs))))}:cV).loc
 have hl:=sL m cs true;have c1:=q_ (sc:=zI) (itf:=b_ [(a9 17)] aE) (t:=bA (a9 32) (aU [(kS "("),(kS ")")]) Xh) (e:=jF ki (a9 32)) (ρ:=ρ) (μ:=μ) 31 32 (by decide) pD fD
  (pg (f:=a9 17) (vs:=vW m cs) rfl (m8 m cs true _)) (az _ _) (λy hy=>by
   refine jV (Ci _ _ hy) λn u hu zq3=>?_;subst zq3;have huc:=uj m cs true _ u hu;refine (dw _ _ rfl ?_ ?_)
   ·refine (dG (V:=.d (uS u)) rfl (dF (ds:=[.str (tS [40]),.str (tS [41])]) rfl (aa (xF rfl))) (Ts huc _)).trans ?_
    refine rA Vt ?_;rfl
   ·intro h
    have h':pU u=true:=Vt.symm.trans h;refine (?_:bo (ki (tS u)) (λi=>some (AV.d (.int i),μ))=_);refine (bU (aa4 h')).trans ?_;refine rA XZ ?_;rfl) (by refine rA (ud _ _) ?_;exact aa (by unfold vW;lia))
 rw [BK,show vW m cs=units m cs true (zd 6) from rfl,sB] at c1
 have c2:=jc (sc:=yM) (itf:=aK false (a9 4)) (t:=Ck (kI 0) (a9 31) (kI 256) (d_ λx y=>decide (x<y)) (d_ λx y=>decide (x<y))) (e:=a9 31) (ρ:=ρ) (μ:=μ) (g:=none) (xs:=iL (d9 m G++[0])) 31 qD id
  (d7 (V:=.d (.list (iL (d9 m G++[0])))) rfl rfl) (az _ _) (λy hy=>by
   refine au (DT.mp hy) λz zz zq2=>?_;subst zq2;exact Zh rfl) (λzz zz zz=>rfl) (by refine rA (xJ _) ?_;refine rA be ?_;exact aa (by simp;lia))
 rw [ZI,KR,wm,hG] at c2
 have e0:([0]:List Int).filter qN=[]:=by decide
 rw [e0,DN,←Ll] at c2
 have h:=d8 (ds:=[.list (iL (sgs m)),.list (iL (sgs m))]) (an (bY c1) (an (bY c2) bX)) (aa (xF rfl));unfold nu;exact nT rfl h hc (by lia)
theorem MI{k:EF}{a b:PyData}(h1:f ρ μ=some (.d a,μ))(h2:g ρ μ=some (.d b,μ))(h3:k ρ μ=some (.c μ.length,μ++[.live xs])):aU [f,g,k] ρ μ=some (.d (.list [a,b,.list xs]),μ++[.frozen xs]):=by
 exact (SV (an h1 (zL h2 h3)) (fE rfl (fE rfl (fE (qu dp) rfl))) (aa (xF rfl))).trans (by rw [fh])
theorem TJ{X1:List PyData}(h0:a9 12 ρ μ=some (.c 2,μ))(hf:f ρ μ=some (.d d,μ1))(hc0:μ[2]? =some (.live X1))(hc:μ1[2]? =some (.live X))(hz:X.length≤100000):ci (ef (a9 12) f) ρ μ=some (.next,ρ,μ1.set 2 (.live (X++[d]))):=by
 refine eA ?_;exact (b5 h0).trans ((bU (eN hc0)).trans ((b5 hf).trans ((b5 (rfl:wg (.d d) μ1=some (d,μ1))).trans ((bU hc).trans (if_pos (aa hz))))))
noncomputable def Ik:((zd 5).all λi=>rP (aH.getD i []) 0 (zd 6)==some 0&&bk (aH.getD i []) (zd 6))=true:=by decide
theorem Bh(hi:i<5):rP (aH.getD i []) 0 (zd 6)=some 0∧bk (aH.getD i []) (zd 6)=true:=by
 have:=Bi.mp Ik i (D5.mpr hi)
 rw [E_,beq_iff_eq] at this
 exact this
theorem BA(t:List U)(hb:rP m 0 (zd 6)=some 0)(hw:WF (units m cs false (zd 6)++t))(ht:t.flatten.length≤100)(ht2:t.length≤100)(b:Bool)(h:(match lU 0 (clean none t) with|some k=>k==0|none=>false)=b)(h0:f ρ μ=some (.d (.str (tS (xT m cs++t.flatten))),μ)):af [f] ar ρ μ=some (.d (.bool b),μ):=by
 have hl:=sL m cs false;have hx:=rk m cs;have hf:(units m cs false (zd 6)++t).flatten=xT m cs++t.flatten:=by simp [xT]
 rw [←hf] at h0
 refine d4 h0 ((s3 hw (by refine rA hf ?_;refine rA be ?_;lia) (by refine rA be ?_;lia)).trans ?_);have e1:=gC m cs t (zd 6);have e2:=o7 m cs (clean none t) (zd 6) 0;rw [hb] at e2
 dsimp only at e2
 have:L1 (units m cs false (zd 6)++t)=b:=by
  unfold L1;refine rA e1 ?_;refine rA e2 ?_;exact h
 exact rA this rfl
noncomputable def ka:PyData:=.tuple [.list [.bool true,.bool true,.list []],.list [.bool true,.bool true,.list []]]
theorem Gi:Good ka:=dK (n:=2) (gH λx hx=>by
 simp only [C1,E4,or_false] at hx
 rcases hx with rfl|rfl|rfl
 ·exact jg
 ·exact jg
 ·exact gH (λzz h=>by cases h)) (by decide)
theorem aj9(x:cV)(m:List Nat)(cs:List Int)(X:List PyData)(μ:List ah)(hb:rP m 0 (zd 6)=some 0)(hc:μ[2]? =some (.live X))(hz:X.length≤1000):nC ({x with asked:=some (.c 2),text:=some (.d (.str (tS (xT m cs))))}).loc μ=
  some (.next,({x with asked:=some (.c 2),text:=some (.d (.str (tS (xT m cs))))}).loc,μ.set 2 (.live (X++[ka]))++[.frozen []]):=by
 let ρ:=({x with asked:=some (.c 2),text:=some (.d (.str (tS (xT m cs))))}:cV).loc
 have hx:=rk m cs;have a1:aj (a9 16) (kS "\"()\\") aT ρ μ=some (.d (.str (tS (xT m cs++[34,40,41,92]))),μ):=lN (b:=[34,40,41,92]) rfl rfl (by simp;lia);have a2:aj (a9 16) (kS "\"(") aT ρ μ=some (.d (.str (tS (xT m cs++[34,40]))),μ):=lN (b:=[34,40]) rfl rfl (by simp;lia);have w1:WF (units m cs false (zd 6)++[[34],[40],[41],[92]]):=(dw (units m cs false (zd 6)++[[34],[40],[41]]) ([[92]]) (by simp) (by refine rA RL ?_;refine rA (lV _ _ _ _) ?_;rfl) (.inr rfl));have b1:=isB (BA [[34],[40],[41],[92]] hb w1 (by simp) (by simp) true (by decide) a1) (rfl:kB true ρ μ=some (.d (.bool true),μ));have b2:=isB (BA [[34],[40]] hb (FE m cs [[34],[40]] (by decide)) (by simp) (by simp) false (by decide) a2) (rfl:kB false ρ μ=some (.d (.bool false),μ));have b3:af [(aU [])] aX ρ μ=some (.c μ.length,μ++[.live []]):=d4 uJ (s4 (vss:=[]) (λzz h=>by cases h) (by simp));have l1:=MI b1 b2 b3;have l2:aU [(kB true),(kB true),(aU [])] ρ (μ++[.frozen []])=some (.d (.list [.bool true,.bool true,.list []]),μ++[.frozen []]):=dF (ds:=[.bool true,.bool true,.list []]) (an rfl (an rfl (an uJ bX))) (aa (xF rfl));have h:cX [(aU [(dZ (af [(aj (a9 16) (kS "\"()\\") aT)] ar) (kB true) LH),(dZ (af [(aj (a9 16) (kS "\"(") aT)] ar) (kB false) LH),(af [(aU [])] aX)]),(aU [(kB true),(kB true),(aU [])])] ρ μ=some (.d ka,μ++[.frozen []]):=by
  exact Ir (zL l1 l2) (ta [.list [.bool true,.bool true,.list []],.list [.bool true,.bool true,.list []]]) (aa (xF rfl))
 have hlt:2<μ.length:=(Bm.mp hc).1;unfold nC;refine (TJ (X:=X) rfl h hc (by rw [EY hlt];exact hc) (by lia)).trans ?_;exact rA (Sc _ _ hlt) rfl
theorem Af:∀F:Fm,R5 F+1≤F.pl.length
 | .at _=>DW 1
 | .bin p l r=>by
  have h1:=Af l;have h2:=Af r;rw [R5,Fm.pl];refine rA be ?_;cases p<;>simp<;>lia
theorem FI:∀G:List Fm,jj G≤(bJ G).length
 | []=>DW 0
 |F::G=>by
  have h1:=Af F;have h2:=FI G;refine rA (pY _ _) ?_;refine rA (b6 _ _) ?_;refine rA be ?_;lia
theorem B3{G:List Fm}(h:a9 10 ρ μ=some (.d (.list (bi m G++[Im []])),μ))(hz:G.length≤100):ce (a9 10) ba (aL (jk (kI 1))) ρ μ=some (.d (.list (bi m G)),μ):=by
 have:=fc (f:=a9 10) (p:=ba) (q:=aL (jk (kI 1))) (ρ:=ρ) (μ:=μ) (lo:=none) (hi:=some (-1)) h rfl YN (aa (by simp [bi];lia))
 refine rA this ?_;exact congrArg (λl=>some (AV.d (.list l),μ)) (Ce _ _)
theorem ak4(x:cV)(i:Nat)(cs:List Int)(G:List Fm)(X:List PyData)(μ:List ah)(hi:i<5)(hcs:cs.length=6)(hG:bJ G=F7 0 6)(hc:μ[2]? =some (.live X))(hz:X.length≤1000):∃Y,(∀x∈Y,Good x)∧Y.length≤300∧
  oi ({x with cells:=some (.d (.list (iL cs))),mates:=some (.d (.list (nL (aH.getD i [])))),read:=some (.d (.list (bi (aH.getD i []) G++[Im []]))),asked:=some (.c 2)}).loc μ=
  some (.next,({x with cells:=some (.d (.list (iL cs))),mates:=some (.d (.list (nL (aH.getD i [])))),read:=some (.d (.list (bi (aH.getD i []) G++[Im []]))),asked:=some (.c 2),proof:=some (.d (.bool (pr (aH.getD i []) 12 G)))}).loc,μ.set 2 (.live (X++Y))):=by
 let ρ:=({x with cells:=some (.d (.list (iL cs))),mates:=some (.d (.list (nL (aH.getD i [])))),read:=some (.d (.list (bi (aH.getD i []) G++[Im []]))),asked:=some (.c 2)}:cV).loc
 have hs:bJ G=zd 6:=by refine rA hG ?_;exact rA Ll rfl
 have hl:=fp G;have h6:(bJ G).length=6:=by refine rA hs ?_;rfl
 have hst:=FI G;refine cm (s70 (cs:=cs) (ja:=2) hi hcs 12 G μ X hc (by refine rA hs ?_;exact QS _) (by refine rA hs ?_;exact (Bh hi).2) (by lia) (by lia)) λY h1 h2 h3=>?_;refine (cJ Y h1 (by lia) ?_);have r1:=B3 (m:=aH.getD i []) (G:=G) (ρ:=ρ) (μ:=μ) rfl (by lia);unfold oi;have hcall:af [(ce (a9 10) ba (aL (jk (kI 1)))),(a9 3),(a9 1),(a9 12)] aO ρ μ=some (.d (.bool (pr (aH.getD i []) 12 G)),μ.set 2 (.live (X++Y))):=t0 (V':=.d (.list (nL (aH.getD i [])))) (V'':=.d (.list (iL cs))) (V3:=.c 2) r1 rfl rfl rfl h3;exact (bO hcall).trans rfl
theorem ap3(x:cV)(μ:List ah):mX x.loc μ=some (.next,({x with joins:=some (.c μ.length)}).loc,μ++[.live []]):=by
 unfold mX;exact (bO vZ).trans rfl
theorem qg(x:cV)(m:List Nat)(xs:List PyData):∀ (G:List Fm) (J:List Jn) (μ:List ah) (w:Option AV),μ[j]? =some (.live (jL J))→(bJ G).length≤12→J.length+(eH G J.length).length≤1000→∃w',
  fS (du 20) (ap (ci (af [(a9 20),(a9 19)] aW)) aP) aP none xs (bi m G) ({x with joins:=some (.c j),formula:=w}).loc μ=
   some (.next,({x with joins:=some (.c j),formula:=w'}).loc,μ.set j (.live (jL (J++eH G J.length))))
 | [],J,μ,w,hc,_,_=>⟨w,by
  refine rA (DN _) ?_;refine rA (eJ hc) ?_;rfl⟩
 |F::G,J,μ,w,hc,h12,hz=>by
  have hlt:j<μ.length:=(Bm.mp hc).1;rw [b6,be] at h12
  rw [sn,be] at hz
  have hh:=BR F;have e:=s71 m F 12 μ J (by lia) hc (by lia);refine bP (qg x m xs G (J++(gr F J.length).2) (μ.set j (.live (jL (J++(gr F J.length).2)))) (some (.d (F.enc m))) (cz hlt) (by lia) (by refine rA be ?_;lia)) λw' ih=>?_;refine ⟨w',?_⟩;have b:(ap (ci (af [(a9 20),(a9 19)] aW)) aP) ({x with joins:=some (.c j),formula:=some (.d (F.enc m))}:cV).loc μ=some (.next,({x with joins:=some (.c j),formula:=some (.d (F.enc m))}:cV).loc,μ.set j (.live (jL (J++(gr F J.length).2)))):=
   (aB (SD (iM (V:=.d (F.enc m)) (V':=.c j) rfl rfl e))).trans bK
  refine (dQ (ρ1:=({x with joins:=some (.c j),formula:=some (.d (F.enc m))}:cV).loc) rfl b (az _ _)).trans (ih.trans ?_);refine rA (Hb _) ?_;refine rA be ?_;refine rA (Eg _ _ _) ?_;rfl
theorem ak9(x:cV)(m:List Nat)(G:List Fm)(j:Nat)(μ:List ah)(hc:μ[j]? =some (.live []))(hG:bJ G=F7 0 6):∃w,o3 ({x with read:=some (.d (.list (bi m G++[Im []]))),joins:=some (.c j)}).loc μ=
  some (.next,({x with read:=some (.d (.list (bi m G++[Im []]))),joins:=some (.c j),formula:=w}).loc,μ.set j (.live (jL (eH G 0)))):=by
 have h6:(bJ G).length=6:=by refine rA hG ?_;rfl
 have hl:=fp G;have hg:=kK G 0;refine bP (qg ({x with read:=some (.d (.list (bi m G++[Im []])))}) m (bi m G) G [] μ x.formula hc (by lia) (by simp;lia)) λw e=>?_;refine ⟨w,?_⟩;unfold o3;refine rA (gJ (d7 (V:=.d (.list (bi m G))) (B3 (m:=m) (G:=G) rfl (by lia)) rfl)) ?_;exact e
noncomputable def pJ:PyData→Bool
 | .tuple (.int n::_)=>n==18
 |_=>false
theorem Kk(y:Jn):pJ y.enc=y.par:=by
 unfold Jn.enc pJ;cases y.par<;>rfl
theorem Tw(J:List Jn):((jL J).filter pJ).map id=jL (J.filter (·.par)):=by
 refine rA (List.map_id _) ?_;rw [jL];refine rA OG ?_
 have:(pJ∘Jn.enc)= λy:Jn=>y.par:=funext Kk
 refine rA this ?_;rfl
theorem ZD{y:Jn}(hf:f ρ μ=some (.d y.enc,μ)):aF f (kI 0) ρ μ=some (.d (.int (if y.par then 18 else 16)),μ):=cF (k:=0) hf rfl rfl (by decide) rfl (aa (xF rfl))
theorem Z1{y:Jn}(hf:f ρ μ=some (.d y.enc,μ)):aF f (kI 1) ρ μ=some (.d (.int y.nd),μ):=cF (k:=1) hf rfl rfl (by decide) rfl (aa (xF rfl))
theorem aj8{y:Jn}(hf:f ρ μ=some (.d y.enc,μ)):aF f (kI 2) ρ μ=some (.d (.int y.a),μ):=cF (k:=2) hf rfl rfl (by decide) rfl (aa (xF rfl))
theorem al2{y:Jn}(hf:f ρ μ=some (.d y.enc,μ)):aF f (kI 3) ρ μ=some (.d (.int y.b),μ):=cF (k:=3) hf rfl rfl (by decide) rfl (aa (xF rfl))
theorem ak5(x:cV)(J:List Jn)(j:Nat)(μ:List ah)(hc:μ[j]? =some (.live (jL J)))(hJ:J.length≤1000):og ({x with joins:=some (.c j)}).loc μ=
  some (.next,({x with joins:=some (.c j),forks:=some (.d (.list (jL (J.filter (·.par)))))}).loc,μ):=by
 let ρ:=({x with joins:=some (.c j)}:cV).loc
 have hp:da μ (.c j)=some (jL J):=eN hc;have hcm:=jc (sc:=y_) (itf:=aK false (a9 19)) (t:=bA (aF (a9 31) (kI 0)) (kI 18) dH) (e:=a9 31) (ρ:=ρ) (μ:=μ) (g:=EZ (.c j)) (xs:=jL J) 31 pJ id (d7 (V:=.c j) rfl hp) (pb hp) (λy hy=>by
  refine au (DT.mp hy) λz zz zq2=>?_;subst zq2;refine (o4 (y:=18) (ZD rfl) rfl).trans ?_;refine rA (Kk _) ?_;cases z.par<;>rfl) (λzz zz zz=>rfl) (by rw [jL];refine rA (xJ _) ?_;exact aa (by lia))
 rw [Tw] at hcm
 unfold og;refine rA (ju hcm) ?_;rfl
noncomputable def FZ:PyData→PyData
 | .tuple [.int a,.int b]=>.int (if b<a then b else a)
 |x=>x
theorem Ig:∀ (l:List Nat) (k:Nat),(cL k (nL l)).map FZ=nL ((zd l.length).map λi=>min (k+i) (l.getD i 0))
 | [],_=>rfl
 |a::l,k=>by
  have ih:=Ig l (k+1);refine (?_:FZ (.tuple [.int (k:Nat),.int (a:Nat)])::(cL (k+1) (nL l)).map FZ=_);refine rA ih ?_;refine rA Bb ?_;refine rA LB ?_;refine rA EV ?_;refine rA ER ?_;have e0:FZ (.tuple [.int (k:Nat),.int (a:Nat)])=.int ((min (k+0) ((a::l).getD 0 0):Nat):Int):=by
   refine (?_:EW _=EW _)
   congr 1
   simp only [TM,List.getD_cons_zero]
   split<;>lia
  have e1:((λi=>min (k+i) ((a::l).getD i 0))∘Vf)= λi=>min (k+1+i) (l.getD i 0):=by
   funext i
   simp only [Function.comp_apply,SK,List.getD_cons_succ];exact rA (show k+(i+1)=k+1+i by lia) rfl
  refine rA e0 ?_;refine rA e1 ?_;rfl
theorem Hg:∀ (l:List Nat) (k:Nat) {x:PyData},x∈cL k (nL l)→∃ (p o:Nat),x=.tuple [.int p,.int o]
 | [],_,_,h=>by cases h
 |a::l,k,x,h=>by
  rcases C1.mp h with rfl|h
  ·exact (jK k a rfl)
  ·exact Hg l (k+1) h
theorem xM:((zd 64).all λa=>(zd 64).all λb=>JB (a:Int) (b:Int) 1)=true:=by decide+kernel
theorem AU{a:Nat}(ha:a<64)(hb:b<64):JB (a:Int) (b:Int) 1=true:=
 Bi.mp (Bi.mp xM a (D5.mpr ha)) b (D5.mpr hb)
theorem qA{a:Nat}(hf:f ρ μ=some (.rng a b,μ))(ha:a<64)(hb:b<64):aK false f ρ μ=some ((zd (b-a)).map λ(i:Nat)=>EW ((a+i:Nat):Int),none,μ):=by
 exact (nK hf (AU ha hb)).trans (by rw [show ((b:Int)-(a:Int)).toNat=b-a by lia,mK])
theorem HZ{a:Nat}(hf:f ρ μ=some (.rng a b,μ))(ha:a<64)(hb:b<64):af [f] mw ρ μ=some (.d (.list ((zd (b-a)).map λ(i:Nat)=>EW ((a+i:Nat):Int))),μ):=by
 have e:(2:Nat)^24=16777216:=by decide
 refine d4 hf ((bU (rfl:l1 [AV.rng a b]=some _)).trans ((oN (rfl:XF (.rng a b)=some _) rfl).trans ((if_pos ⟨AU ha hb,by rw [e];lia⟩).trans ?_)));refine rA (show ((b:Int)-(a:Int)).toNat=b-a by lia) ?_;exact rA (mK _ _) rfl
theorem DG(a n:Nat):((zd n).map λ(i:Nat)=>EW ((a+i:Nat):Int))=nL (F7 a n):=by
 refine rA List.range'_eq_map_range ?_;rw [nL];refine rA ER ?_;rfl
theorem VO(a b:List Nat):nL (a++b)=nL a++nL b:=by simp [nL]
theorem am9(x:cV)(m:List Nat)(J:List Jn)(j:Nat)(μ:List ah)(hm:m.length=6)(hc:μ[j]? =some (.live (jL J)))(hJ:J.length≤20):ng ({x with mates:=some (.d (.list (nL m))),joins:=some (.c j)}).loc μ=
  some (.next,({x with mates:=some (.d (.list (nL m))),joins:=some (.c j),start:=some (.d (.list (nL (start m J.length))))}).loc,μ):=by
 let ρ:=({x with mates:=some (.d (.list (nL m))),joins:=some (.c j)}:cV).loc
 have hcm:=si (sc:=Aj) (itf:=b_ [(a9 3)] f_) (e:=af [(a9 31),(a9 32)] Ho) (ρ:=ρ) (μ:=μ) 31 32 (by decide) FZ
  (jU (V:=.d (.list (nL m))) rfl rfl) (az _ _) (λy hy=>by
   refine lC (Hg m 0 hy) λp o zq2=>?_;subst zq2;exact (fX _ _ rfl (iM (V:=.d (.int p)) (V':=.d (.int o)) rfl rfl rfl))) (by refine rA (ik _ _) ?_;rw [nL];refine rA (xJ _) ?_;refine rA hm ?_;exact aa (by decide))
 rw [Ig,hm] at hcm
 have hlen:=UW (k:=19) (ρ:=ρ) rfl hc (by lia);have hr:af [(kI 6),(aj (kI 6) (af [(a9 19)] dD) aT)] cH ρ μ=some (.rng (6:Nat) (6+J.length:Nat),μ):=iM (V:=.d (.int 6)) rfl (cR (x:=6) rfl hlen) (by
  refine (?_:some (AV.rng 6 (6+(J.length:Int)),μ)=_);refine rA (show (6:Int)+(J.length:Int)=((6+J.length:Nat):Int) by lia) ?_;rfl)
 have h2:=HZ hr (by decide) (by lia);rw [DG,show 6+J.length-6=J.length by lia] at h2
 have h3:=cS (bY hcm) h2 rfl rfl (aa (by rw [nL,nL];refine rA (xJ _) ?_;refine rA (xJ _) ?_;refine rA (xJ _) ?_;refine rA Ib ?_;refine rA L3 ?_;lia));rw [←VO] at h3
 have e:(zd 6).map (λi=>min (0+i) (m.getD i 0))++F7 6 J.length=start m J.length:=by
  unfold start;simp only [Lp]
 rw [e] at h3
 unfold ng;exact (bO h3).trans rfl
noncomputable def pK:PyData→Bool
 | .tuple (.int n::_)=>n==16
 |_=>false
theorem K0(y:Jn):pK y.enc= !y.par:=by
 unfold Jn.enc pK;cases y.par<;>rfl
noncomputable def ysK:PyData→List PyData
 | .tuple [_,_,a,b]=>[a,b]
 |_=>[]
noncomputable def vK:PyData→PyData→PyData
 | .tuple [_,n,_,_],y=>.tuple [n,y]
 |x,_=>x
theorem rx:∀J:List Jn,((jL J).flatMap λx=>if pK x then (ysK x).map (vK x) else [])=eL (iq J)
 | []=>rfl
 |y::J=>by
  have ih:=rx J
  show (if pK y.enc then (ysK y.enc).map (vK y.enc) else [])++((jL J).flatMap λx=>if pK x then (ysK x).map (vK x) else [])=_
  refine rA ih ?_;refine rA (K0 _) ?_;obtain ⟨p,nd,a,b⟩:=y;cases p<;>rfl
theorem JT:∀ (F:Fm) (n:Nat),(∀p∈F.pl,p<6)→(gr F n).1<6+(n+(gr F n).2.length)∧∀y∈(gr F n).2,y.nd<6+(n+(gr F n).2.length)∧y.a<6+(n+(gr F n).2.length)∧y.b<6+(n+(gr F n).2.length)
 | .at i,n,h=>by
  have:=h i (by simp [Fm.pl])
  refine ⟨by show i<_;lia,λy hy=>by cases hy⟩
 | .bin p l r,n,h=>by
  simp only [Fm.pl,AZ] at h
  have h1:=JT l n (λq hq=>h q (.inl hq));have h2:=JT r (n+(gr l n).2.length) (λq hq=>h q (.inr hq));simp only [Ag,be,Gd,AZ,Ab];refine ⟨by lia,λy hy=>?_⟩
  rcases hy with (hy|hy)|rfl
  ·have:=h1.2 y hy;lia
  ·have:=h2.2 y hy;lia
  ·dsimp only;lia
theorem FB:∀ (G:List Fm) (n:Nat),(∀p∈bJ G,p<6)→∀y∈eH G n,y.nd<6+(n+(eH G n).length)∧y.a<6+(n+(eH G n).length)∧y.b<6+(n+(eH G n).length)
 | [],n,_,y,hy=>by cases hy
 |F::G,n,h,y,hy=>by
  rw [b6] at h
  have h1:=JT F n (λq hq=>h q (yg _ hq));have h2:=FB G (n+(gr F n).2.length) (λq hq=>h q (D1 _ hq));rw [sn,AZ] at hy
  rw [sn];refine rA be ?_
  rcases hy with hy|hy
  ·have:=h1.2 y hy;lia
  ·have:=h2 y hy;lia
theorem nS(m:List Nat)(n:Nat):(start m n).length=6+n:=by simp [start]
theorem Df(J:List Jn):(iq J).length≤2*J.length:=by
 induction J with
 |nil=>exact DW 0
 |cons y J ih=>
  rw [iq];refine rA Ko ?_;unfold iq at ih
  split
  ·refine rA Fe ?_;refine rA be ?_;refine rA Bb ?_;simp only [Bb,EQ];lia
  ·refine rA Bb ?_;lia
theorem ak2(x:cV)(m:List Nat)(J:List Jn)(j:Nat)(μ:List ah)(hc:μ[j]? =some (.live (jL J)))(hJ:J.length≤20)(hb:∀y∈J,y.nd<6+J.length∧y.a<6+J.length∧y.b<6+J.length):oh ({x with joins:=some (.c j),start:=some (.d (.list (nL (start m J.length))))}).loc μ=
  some (.next,({x with joins:=some (.c j),start:=some (.d (.list (nL (start m J.length)))),labels:=some (.d (.list (nL (dg (start m J.length) (iq J)))))}).loc,μ):=by
 let ρ:=({x with joins:=some (.c j),start:=some (.d (.list (nL (start m J.length))))}:cV).loc
 have hp:da μ (.c j)=some (jL J):=eN hc;have hl:=Df J;have hcm:=p8 (sc:=ul) (itf:=aK false (a9 19)) (itf2:=aK false (ce (a9 31) (aL (kI 2)) ba)) (t:=bA (aF (a9 31) (kI 0)) (kI 16) dH) (e:=cX [(aF (a9 31) (kI 1)),(a9 32)]) (ρ:=ρ) (μ:=μ) (g:=EZ (.c j)) (xs:=jL J) 31 32 (by decide) pK ysK vK
  (d7 (V:=.c j) rfl hp) (pb hp) (λy hy w=>by
   refine au (DT.mp hy) λz zz zq2=>?_;subst zq2;refine (o4 (y:=16) (ZD rfl) rfl).trans ?_;refine rA (K0 _) ?_;cases z.par<;>rfl) (λy hy zz w=>by
   refine au (DT.mp hy) λz zz zq2=>?_;subst zq2;exact mN (uo (xs:=[.int (if z.par then 18 else 16),.int z.nd,.int z.a,.int z.b]) 2 rfl (by decide) (by simp) (aa (xF rfl)))) (λy hy zz w hw=>by
   refine au (DT.mp hy) λz zz zq2=>?_;subst zq2;exact d8 (ds:=[.int z.nd,w]) (an (Z1 rfl) (an rfl bX)) (aa (xF rfl))) (by refine rA (rx _) ?_;rw [eL];refine rA (xJ _) ?_;exact aa (by lia))
 rw [rx] at hcm
 have h:=s72 (ls:=start m J.length) (es:=iq J) (μ:=μ) (by refine rA (nS _ _) ?_;lia) (λp hp=>by
  refine rA (nS _ _) ?_;refine au (L5.mp hp) λy hy h=>?_
  have:=hb y (Ou.mp hy).1
  simp only [C1,E4,or_false] at h
  rcases h with rfl|rfl<;>dsimp only<;>lia)
 unfold oh;exact (bO (iM (V:=.d (.list (nL (start m J.length)))) rfl (bY hcm) h)).trans rfl
theorem rt{s:Str}(h:s=wd k):kS s ρ μ=some (.d (.str (wd k)),μ):=by refine rB h ?_;rfl
noncomputable def rW:List Str:=(zd 10).map wd
theorem ak6(x:cV)(μ:List ah):nA x.loc μ=some (.next,({x with names:=some (.d (.list (bS rW)))}).loc,μ):=by
 have h:aU [(kS "OPTIMIZED"),(kS "NEWLOCALS"),(kS "VARARGS"),(kS "VARKEYWORDS"),(kS "NESTED"),(kS "GENERATOR"),(kS "NOFREE"),(kS "COROUTINE"),(kS "ITERABLE_COROUTINE"),(kS "ASYNC_GENERATOR")] x.loc μ=some (.d (.list (bS rW)),μ):=
  dF (ds:=bS rW) (an (rt (k:=0) (by decide+kernel)) (an (rt (k:=1) (by decide+kernel)) (an (rt (k:=2) (by decide+kernel)) (an (rt (k:=3) (by decide+kernel)) (an (rt (k:=4) (by decide+kernel)) (an (rt (k:=5) (by decide+kernel)) (an (rt (k:=6) (by decide+kernel)) (an (rt (k:=7) (by decide+kernel)) (an (rt (k:=8) (by decide+kernel)) (an (rt (k:=9) (by decide+kernel)) bX)))))))))) (aa (by decide))
 unfold nA;exact (bO h).trans rfl
theorem FY:((zd 7).all λi=>hx (2^ (10+i))==wd (10+i)&&decide ((hx (2^ (10+i))).length≤1000))=true:=by decide+kernel
noncomputable def iG(low n:Nat):List Str:=(zd n).map λk=>wd (low+k)
noncomputable def hxD:PyData→PyData
 | .int p=>.str (hx (2^p.toNat))
 |x=>x
theorem am1(x:cV)(J:List Jn)(low:Nat)(μ:List ah)(hl:low<13)(hJ:J.length≤5):o8 ({x with low:=some (.d (.int low)),forks:=some (.d (.list (jL J))),names:=some (.d (.list (bS rW)))}).loc μ=
  some (.next,({x with low:=some (.d (.int low)),forks:=some (.d (.list (jL J))),names:=some (.d (.list (bS rW))),words:=some (.d (.list (bS (iG low J.length))))}).loc,μ):=by
 let ρ:=({x with low:=some (.d (.int low)),forks:=some (.d (.list (jL J))),names:=some (.d (.list (bS rW)))}:cV).loc
 have hcm:=ip (sc:=tH) (itf:=aK false (af [(kI 10),(kI 17)] cH)) (e:=af [(aj (kI 2) (a9 31) (aR gu))] oP) (ρ:=ρ) (μ:=μ) (g:=none) (xs:=(zd 7).map λ(i:Nat)=>EW ((10+i:Nat):Int)) 31 hxD (qA (a:=10) (b:=17) (iM (V:=.d (.int 10)) (V':=.d (.int 17)) rfl rfl rfl) (by decide) (by decide)) (az _ _) (λy hy=>by
  refine au (DT.mp hy) λi hi zq2=>?_;subst zq2
  have:=Bi.mp FY i hi
  rw [E_,decide_eq_true_iff] at this
  have hi7:=D5.mp hi;exact tY (ko rfl (by lia)) this.2) (aa (xF rfl))
 have e1:((zd 7).map λ(i:Nat)=>EW ((10+i:Nat):Int)).map hxD=bS ((zd 7).map λi=>wd (10+i)):=by
  refine rA ER ?_;rw [bS];refine rA ER ?_;refine FL λi hi=>?_
  have:=Bi.mp FY i hi
  rw [E_,beq_iff_eq] at this
  refine (?_:Lh (hx (2^ ((10+i:Nat):Int).toNat))=Lh (wd (10+i)));refine rA (Fd _) ?_;exact rA this.1 rfl
 rw [e1] at hcm
 have h1:=cS (f:=a9 24) (ρ:=ρ) (V:=.d (.list (bS rW))) rfl (bY hcm) rfl rfl (aa (by decide));have e2:bS rW++bS ((zd 7).map λi=>wd (10+i))=bS (iG 0 17):=by
  unfold bS rW iG;refine rB IQ ?_
  congr 1
 rw [e2] at h1
 have h2:=gF (f:=a9 21) (ρ:=ρ) (μ:=μ) (V:=.d (.list (jL J))) (xs:=jL J) rfl rfl (by rw [jL];refine rA (xJ _) ?_;exact aa (by lia));have h3:aL (aj (a9 5) (af [(a9 21)] dD) aT) ρ μ=some (some ((low+J.length:Nat):Int),μ):=by
  have:=dA (cR (f:=a9 5) (x:=low) rfl h2)
  rw [jL,xJ] at this
  refine rA this ?_;rfl
 have hw:(bS (iG 0 17)).length=17:=by simp [bS,iG]
 have h4:=fc h1 (dA (x:=low) rfl:aL (a9 5) ρ μ=_) h3 (by refine rA hw ?_;exact aa (by decide));rw [Iu _ (by lia) (by refine rA hw ?_;lia)] at h4
 have e3:((bS (iG 0 17)).drop low).take (low+J.length-low)=bS (iG low J.length):=by
  rw [bS];refine rB T9 ?_;refine rB Rc ?_;rw [bS]
  congr 1
  apply Tt;intro k;unfold iG;rw [List.getElem?_take,PX,FS,FS]
  by_cases hk:k<J.length
  ·refine rA (if_pos (by lia)) ?_;rw [O6 (by lia),O6 hk]
   simp
  ·refine rA (if_neg (by lia)) ?_;rw [Pe (by rw [Ib];lia)]
   rfl
 rw [e3] at h4
 unfold o8;exact (bO h4).trans rfl
theorem ao9(x:cV)(μ:List ah):ny x.loc μ=some (.next,({x with trees:=some (.c μ.length)}).loc,μ++[.live []]):=by
 unfold ny;exact (bO vZ).trans rfl
noncomputable def wq(k:Nat):List Nat:=wX.getD k []
theorem YY(k:Nat):wd k=tS (wq k):=rfl
noncomputable def gM(low f mask:Nat):List (List Nat):=if mask=0 then [[48,120,48]] else (gZ low f mask).map wq
theorem N0:((zd 6).all λf=>(zd (2^f)).all λmask=>((zd f).filter (iF mask)).isEmpty==decide (mask=0))=true:=by decide+kernel
theorem SI:((zd 32).all λk=>(wq k).all (λc=>decide (c<128))&&!(wq k).isEmpty&&!(wq k).contains 44&&decide ((wq k).length≤20))=true:=by decide+kernel
theorem SR:((zd 13).all λlow=>(zd 6).all λf=>(zd (2^f)).all λmask=>(zd f).all λk=>((gM low f mask).any λw=>w==wq (low+k))==iF mask k)=true:=by decide+kernel
theorem Ma:((zd 32).all λmask=>(zd 5).all λk=>((((mask:Int).fdiv (2^k)).fmod 2==1)==iF mask k)&&decide (¬((2:Int)^k=0∨2^64≤((2:Int)^k).natAbs)))=true:=by decide+kernel
theorem BO{f:Nat}(hf:f<6):2^f≤2^5:=Sb (by decide) (by lia)
theorem ab7{p:Nat→Nat→Bool}(h:((zd 6).all λf=>(zd (2^f)).all λmask=>p f mask)=true){f:Nat}(hf:f<6)(hm:mask<2^f):p f mask=true:=
 Bi.mp (Bi.mp h f (D5.mpr hf)) mask (D5.mpr hm)
theorem mo{f:Nat}(low:Nat)(hf:f<6)(hm:mask<2^f):gZ low f mask=[]↔mask=0:=by
 have:=ab7 (p:= λf mask=>((zd f).filter (iF mask)).isEmpty==decide (mask=0)) N0 hf hm
 rw [beq_iff_eq] at this
 unfold gZ;refine rA (propext (O9)) ?_;refine rB (propext (U0)) ?_;refine rA this ?_;rw [decide_eq_true_iff]
theorem xY{f:Nat}(hk:k∈gZ low f mask):k<low+f:=by
 refine au (DT.mp hk) λj hj zq2=>?_;subst zq2
 have:=D5.mp (Ou.mp hj).1
 lia
theorem BV(hk:k<32):(∀c∈wq k,c<128)∧wq k≠[]∧44∉wq k∧(wq k).length≤20:=by
 have:=Bi.mp SI k (D5.mpr hk)
 simp only [E_,Bi,decide_eq_true_eq,MF,List.isEmpty_eq_false_iff,MP,decide_eq_false_iff_not] at this
 exact (lj this.1.1.1 this.1.1.2 this.1.2 this.2)
theorem pZ{f:Nat}(hl:low<13)(hf:f<6)(hm:mask<2^f):gM low f mask≠[]∧(gM low f mask).length≤5∧∀w∈gM low f mask,(∀c∈w,c<128)∧w≠[]∧44∉w∧w.length≤20:=by
 unfold gM
 split
 ·refine (fm (by simp) (by simp) (λw hw=>?_))
  refine rA (Ab.mp hw) ?_;refine (lj (by simp) (by simp) (by simp) (by simp))
 ·rename_i h
  refine (fm (λe=>h ((mo low hf hm).mp (O9.mp e))) ?_ (λw hw=>?_))
  ·have:=GW (iF mask) (zd f)
   rw [Ib] at this
   simp only [gZ,xJ];lia
  ·refine au (DT.mp hw) λk hk zq2=>?_
   subst zq2;exact BV (by have:=xY hk;lia)
theorem lx:∀ws:List (List Nat),(∀w∈ws,w.length≤20)→(cE ws).length≤22*ws.length
 | [],_=>DW 0
 | [w],h=>by have:=h w (by simp);simp only [cE,Gd];lia
 |w::v::r,h=>by
  have ih:=lx (v::r) (λu hu=>h u (D2 _ hu))
  have:=h w (by simp)
  simp only [cE,be,Bb,EQ] at ih⊢
  lia
theorem wZ:∀ws:List (List Nat),(∀w∈ws,∀c∈w,c<128)→∀c∈cE ws,c<128
 | [],_,c,hc=>by cases hc
 | [w],h,c,hc=>h w (by simp) c hc
 |w::v::r,h,c,hc=>by
  simp only [cE,AZ,C1,E4,or_false] at hc
  rcases hc with (hc|hc)|hc
  ·exact h w (by simp) c hc
  ·lia
  ·exact wZ (v::r) (λu hu=>h u (D2 _ hu)) c hc
theorem CJ:∀ws:List (List Nat),ws≠[]→(∀w∈ws,w≠[])→cE ws≠[]
 | [],h,_=>absurd rfl h
 | [w],_,h=>h w (by simp)
 |w::v::r,_,h=>by
  intro e;simp only [cE,List.append_eq_nil_iff] at e
  exact h w (by simp) e.1.1
noncomputable def eQ(low f mask:Nat):Str:=tS (cE (gM low f mask))
theorem Hm{f:Nat}(hf:f<6)(hm:mask<2^f):Lo ", " (Kf (gZ low 5 mask) (if mask=0 then some 0 else none))=eQ low f mask:=by
 have e5:=ab7 (p:= λf mask=>(zd 5).filter (iF mask)==(zd f).filter (iF mask)) ZJ hf hm;rw [beq_iff_eq] at e5
 have e5':gZ low 5 mask=gZ low f mask:=by unfold gZ;exact rA e5 rfl
 refine rA e5' ?_;unfold eQ gM
 by_cases h:mask=0
 ·refine rA (if_pos h) ?_;refine rA (if_pos h) ?_;refine rA ((mo low hf hm).mpr h) ?_
  refine (?_:Lo g_ [hx 0]=_);refine rA ac7 ?_;exact qX [[48,120,48]]
 ·refine rA (if_neg h) ?_;refine rA (if_neg h) ?_
  refine (?_:Lo g_ ((gZ low f mask).map wd)=_);refine rA (show (gZ low f mask).map wd=((gZ low f mask).map wq).map tS by rw [ER];rfl) ?_;exact qX _
theorem LN{f:Nat}(hl:low<13)(hf:f<6)(hm:mask<2^f):cM [.d (.int ((mask:Int)*2^low))] μ=some (.d (.str (eQ low f mask)),μ):=by
 have h:=Bi.mp (Bi.mp Kw low (D5.mpr hl)) mask (D5.mpr (by have:=BO hf;lia));rw [beq_iff_eq] at h
 refine rB (Hm hf hm) ?_;refine Yt h (λfl' e=>?_)
 split at e
 ·refine cA e ?_;refine rA ac7 ?_;decide
 ·exact ct e
theorem JL{f:Nat}(hl:low<13)(hf:f<6)(hm:mask<2^f):(cE (gM low f mask)).length≤110:=by
 refine dU (pZ hl hf hm) λh1 h2 h3=>?_
 have:=lx _ (λw hw=>(h3 w hw).2.2.2)
 lia
theorem Fq{f:Nat}(hl:low<13)(hf:f<6)(hm:mask<2^f):p0 n (.str (eQ low f mask)):=
 ix (wZ _ λw hw=>((pZ hl hf hm).2.2 w hw).1)
theorem qo(g:Nat→PyData):∀ (n a s:Nat),cL a ((F7 s n).map g)=(zd n).map λk=>.tuple [.int ((a+k:Nat):Int),g (s+k)]
 |0,_,_=>rfl
 |n+1,a,s=>by
  refine rA Rh ?_;refine rA EV ?_;rw [cL];refine rA (qo g n (a+1) (s+1)) ?_;refine rA LB ?_;refine rA EV ?_;refine rA ER ?_;refine congr (congrArg _ rfl) (FL λi zz=>?_);refine (?_:Im [.int _,g _]=Im [.int _,g _]);refine rA (show a+1+i=a+(i+1) by lia) ?_;exact rA (show s+1+i=s+(i+1) by lia) rfl
theorem tr(low n:Nat):bS (iG low n)=(F7 0 n).map λk=>Lh (wd (low+k)):=by
 rw [bS,iG];refine rA ER ?_;refine rA Ll ?_;rfl
noncomputable def pB(mask:Nat):PyData→Bool
 | .tuple [.int k,_]=>iF mask k.toNat
 |_=>false
theorem ao3{w:PyData}:pB mask (.tuple [.int k,w])=iF mask k:=rfl
noncomputable def wB:PyData→PyData
 | .tuple [_,w]=>w
 |x=>x
theorem D8(low f mask:Nat):((cL 0 (bS (iG low f))).filter (pB mask)).map wB=bS ((gZ low f mask).map wd):=by
 refine rA (tr _ _) ?_;refine rA (qo _ _ _ _) ?_;refine rA OG ?_;refine rA ER ?_;rw [bS,gZ];refine rA ER ?_;refine rA ER ?_;have e:(pB mask∘ λk:Nat=>Im [.int ((0+k:Nat):Int),.str (wd (low+(0+k)))])=iF mask:=by
  funext k
  refine (?_:iF mask ((0+k:Nat):Int).toNat=_);refine rA (Fd _) ?_;exact rA (Lp _) rfl
 refine rA e ?_;refine FL λk zz=>?_;refine (?_:Lh (wd (low+(0+k)))=_);refine rA (Lp _) ?_;rfl
theorem Tl{a:List Nat}(hf:f ρ μ=some (.d (.str (tS a)),μ))(hz:a.length≤100000)(h1:a≠[]→V=.d (.str (tS a)))(h2:a=[]→g ρ μ=some (V,μ)):Yi f g ρ μ=some (V,μ):=by
 have ht:jN (.d (.str (tS a))) μ=some ((a.length:Int) != 0):=by
  exact (e_ (rfl:MJ (.d (.str (tS a)))=none)).trans ((e_ (rfl:jI (.d (.str (tS a)))=none)).trans ((e_ (rfl:MN (.d (.str (tS a)))=none)).trans ((oN (rfl:mn (.d (.str (tS a)))=some _) rfl).trans ((if_pos (by rw [eh];exact aa hz)).trans (by rw [eh])))))
 refine (b5 hf).trans ((bU ht).trans ?_);cases a with
 |nil=>exact h2 rfl
 |cons c a=>
  rw [show (((c::a).length:Int) != 0)=true from bne_iff_ne.mpr (by rw [Bb];lia)];exact congrArg (λV=>some (V,μ)) (h1 (by simp)).symm
theorem o6:∀ (es:List (Nat×Nat)) (l:List Nat),dg l es=[]∨(dg l es).length=l.length
 | [],l=>.inr rfl
 | (a,b)::es,l=>by
  rw [dg]
  split
  ·exact .inl rfl
  ·rcases o6 es (l.map λx=>if x=l.getD b 0 then l.getD a 0 else x) with h|h
   ·exact .inl h
   ·exact .inr (h.trans (xJ ..))
theorem QP(l:List Nat):nL l=iL (l.map λ(n:Nat)=>(n:Int)):=by simp [nL,iL]
theorem Gs(a b:List Nat)(μ:List ah):dH (.d (.list (nL a))) (.d (.list (nL b))) μ=some (a==b):=by
 refine rA (QP _) ?_;refine rA (QP _) ?_;refine rA (C9 _ _ _) ?_
 congr 1
 refine rA (propext (PO)) ?_;refine rA (propext (beq_iff_eq)) ?_;refine rA (propext (beq_iff_eq)) ?_;constructor
 ·intro h
  have:=congrArg (List.map Int.toNat) h
  simpa [ER,MO] using this
 ·rintro rfl;rfl
theorem S9(a b:List Nat)(μ:List ah):oY (.d (.list (nL a))) (.d (.list (nL b))) μ=some (!(a==b)):=by
 exact bU (Gs _ _ _)
theorem FU(a:Nat):∀n,oj (nL [a]) n=nL (Gv n a)
 |0=>rfl
 |n+1=>by rw [oj];refine rA (FU a n) ?_;rfl
theorem AY:∀ (a:Nat) (l:List Nat),((l==Gv l.length a)=l.all (· ==a))
 |a,[]=>rfl
 |a,b::l=>by
  refine rA Bb ?_;refine rA NJ ?_;refine rA List.cons_beq_cons ?_;refine rA (AY a l) ?_;exact rA Me rfl
theorem S_{l:List Nat}(h:a9 i ρ μ=some (.d (.list (nL l)),μ))(hz:l.length≤100):
  rM (dZ (a9 i) (aU []) oY) (dZ (a9 i) (aj (ce (a9 i) ba (aL (kI 1))) (af [(a9 i)] dD) l8) dH) ρ μ=some (.d (.bool (Xm l)),μ):=by
 have h1:dZ (a9 i) (aU []) oY ρ μ=some (.d (.bool (!(l==[]))),μ):=gX h uJ (S9 l [] μ);have hn:(nL l).length=l.length:=by simp [nL]
 cases l with
 |nil=>exact (p6 (c:=false) (μ2:=μ) h1 (λq=>by cases q)).trans rfl
 |cons a l=>
  have a1:ce (a9 i) ba (aL (kI 1)) ρ μ=some (.d (.list (nL [a])),μ):=by
   have:=fc (f:=a9 i) (p:=ba) (q:=aL (kI 1)) (ρ:=ρ) (μ:=μ) (lo:=none) (hi:=some ((1:Nat):Int)) h rfl (dA (x:=1) rfl) (by refine rA hn ?_;exact aa (by lia))
   refine rA this ?_;refine rA (pc _ (by rw [hn,Bb];lia)) ?_;rfl
  have a2:=gF (f:=a9 i) h rfl (by refine rA hn ?_;exact aa (by lia));rw [hn] at a2
  have a3:=AM a1 a2 (by
   refine rA (Fd _) ?_;refine rA (Int.natAbs_natCast _) ?_;simp only [Bb] at hz⊢
   simp only [nL,xJ,Bb,EQ];lia)
  rw [Fd,FU] at a3
  have h2:=gX h a3 (Gs (a::l) (Gv (a::l).length a) μ);refine (p6 h1 (λzz=>h2)).trans ?_;refine rA (if_pos (by rfl)) ?_;refine rA (AY _ _) ?_;rfl
noncomputable def WL(low f mask:Nat)(w:List Nat):Bool:=(gM low f mask).any λu=>u==w
theorem yy{f:Nat}(hl:low<13)(hf:f<6)(hm:mask<2^f)(hk:k<f):WL low f mask (wq (low+k))=iF mask k:=by
 have:=Bi.mp (Bi.mp (Bi.mp (Bi.mp SR low (D5.mpr hl)) f (D5.mpr hf)) mask (D5.mpr hm)) k (D5.mpr hk)
 rw [beq_iff_eq] at this
 exact this
noncomputable def Yx(low f mask:Nat):PyData→PyData
 | .tuple [.str w,.tuple [_,nd,a,b]]=>.tuple [nd,if WL low f mask w.cps.toList then b else a]
 |x=>x
theorem Bj(low f mask:Nat):∀ (J:List Jn) (s:Nat),(∀k,s≤k→k<s+J.length→WL low f mask (wq (low+k))=iF mask k)→
  (mM ((F7 s J.length).map λk=>Lh (wd (low+k))) (jL J)).map (Yx low f mask)=eL (sG (mask/2^s) J)
 | [],s,_=>rfl
 |y::J,s,h=>by
  have ih:=Bj low f mask J (s+1) (λk h1 h2=>h k (by lia) (by refine rA Bb ?_;lia));have h0:=h s (DW s) (by refine rA Bb ?_;lia);refine rA Bb ?_;refine rA Rh ?_;refine rA EV ?_
  show Yx low f mask (.tuple [.str (wd (low+s)),y.enc])::(mM ((F7 (s+1) J.length).map λk=>Lh (wd (low+k))) (jL J)).map (Yx low f mask)=_
  refine rA ih ?_;refine rA (Q6 _ _) ?_;refine rB (Rq _ _ _) ?_;rw [sG]
  have:Yx low f mask (.tuple [.str (wd (low+s)),y.enc])=.tuple [.int y.nd,.int ((if mask/2^s%2=1 then y.b else y.a:Nat):Int)]:=by
   refine (?_:Im [.int y.nd,if WL low f mask (wd (low+s)).cps.toList then .int y.b else .int y.a]=_);refine rA (YY _) ?_;refine rA (fR _) ?_;refine rA h0 ?_;unfold iF
   by_cases q:mask/2^s%2=1
   ·refine rA (if_pos q) ?_;exact rA (if_pos (by rw [q];rfl)) rfl
   ·refine rA (if_neg q) ?_;exact rA (if_neg (by rw [beq_iff_eq];exact q)) rfl
  refine rA this ?_;rfl
theorem Bl:∀ (J:List Jn) (k:Nat) {p:Nat×Nat},p∈sG k J→∃y∈J,p.1=y.nd∧(p.2=y.a∨p.2=y.b)
 | [],_,_,h=>by cases h
 |y::J,k,p,h=>by
  rcases C1.mp h with rfl|h
  ·refine (cJ y (by simp) rfl ?_)
   dsimp only
   split
   ·exact .inr rfl
   ·exact .inl rfl
  ·refine au (Bl J (k/2) h) λz hz e=>?_
   exact (aZ z (by simp [hz]) e)
theorem JC{f:Nat}{h:EF}(hl:low<13)(hf:f<6)(hm:mask<2^f)(hk:k<f)(h1:g ρ μ=some (.d (.str (wd (low+k))),μ))(h2:h ρ μ=some (.d (.str (eQ low f mask)),μ)):n6 g h ", " ρ μ=some (iF mask k,μ):=by
 refine dU (pZ hl hf hm) λw1 w2 w3=>?_;have hp:=qH (gM low f mask) w1 (λw hw=>(w3 w hw).2.2.1);have hs:=y0 (gM low f mask) w1 (λw hw=>(w3 w hw).2.2.1);have hlen:=JL hl hf hm;have hc:KX (((gM low f mask).map tS).map .str)=true:=(kQ (n:=0) λx hx=>by
  refine au (DT.mp hx) λt ht zq2=>?_;subst zq2;refine au (DT.mp ht) λw hw zq2=>?_;subst zq2;exact ix (w3 w hw).1).1
 have ho:Tv (wd (low+k))=true:=(ix (n:=0) (BV (k:=low+k) (by lia)).1).1;have he:((((gM low f mask).map tS).map Lh).any λy=>Ml y (.str (wd (low+k))))=iF mask k:=by
  refine rB (yy hl hf hm hk) ?_;rw [WL];refine rA List.any_map ?_;refine rA List.any_map ?_
  congr 1
  funext u
  refine (?_:(tS u==tS (wq (low+k)))=_);refine rA (FV _ _) ?_;refine rA (propext (PO)) ?_;refine rA (propext (decide_eq_true_iff)) ?_;refine rA (propext (beq_iff_eq)) ?_;exact eq_comm
 refine (b5 h1).trans ((bU rfl).trans ((b5 h2).trans ((bU rfl).trans ?_)));have key:∀X:Str,X=tS (cE (gM low f mask))→(if X.length≤sizeLine∧(Og X (Ln X g_ 0 X.length (X.length+1)) g_.length).length≤sizeLine∧KX ((PC X g_).map .str)=true∧Tv (wd (low+k))=true then some (((PC X g_).map Lh).any λy=>Ml y (.str (wd (low+k))),μ) else none)=some (iF mask k,μ):=by
  rintro X rfl
  refine rA hp ?_;refine rA hs ?_;refine rA he ?_;exact rA (if_pos (lj (by rw [eh];exact aa (by lia)) (by rw [xJ];exact aa (by lia)) hc ho)) rfl
 exact key _ rfl
theorem YC(hf:f ρ μ=some (.d (.list xs),μ))(hg:g ρ μ=some (.d (.list ys),μ)):b_ [f,g] lg ρ μ=some (mM xs ys,none,μ):=by
 exact (b5 (zL hf hg)).trans rfl
theorem N8(xs ys:List PyData){z:PyData}(h:z∈mM xs ys):∃ (i:Nat) (x y:PyData),xs[i]? =some x∧ys[i]? =some y∧z=.tuple [x,y]:=
 bP (iD h) λi e=>vY e λx y h1 h2 h3=>pj i x y h1 h2 h3
theorem OH(xs ys:List PyData):(mM xs ys).length≤xs.length:=Sr▸Uj ..
noncomputable def bL(T:List Bool):List PyData:=T.map .bool
noncomputable def oK(low f mask:Nat):PyData:=.tuple [.str (eQ low f mask),.str (eQ low f mask)]
theorem Da{f:Nat}(hl:low<13)(hf:f<6)(hm:mask<2^f):Good (oK low f mask):=dK (n:=0) (Fq hl hf hm) (by decide)
noncomputable def Fb(L:List Nat)(J:List Jn)(mask:Nat):List Nat:=if L=[] then [] else dg L (sG mask J)
abbrev H8:SF:=(ap (c6 28 (af [(aj (a9 27) (aj (kI 2) (a9 5) (aR gu)) l8)] cM)) (ap (ci (ef (a9 12) (cX [(a9 28),(Yi (dv (kS ", ") [(cb m7 (b_ [(a9 25)] f_) (ji 31 32) (cW (bA (aj (aj (a9 27) (aj (kI 2) (a9 31) (aR gu)) (aR cN)) (kI 2) (aR co)) (kI 1) dH) (aY (a9 32))))] fg) (kS "0x0"))]))) (ap (g9 29 l5 (b_ [(a9 25),(a9 21)] lg) (ji 31 32) (cW bg (aY (cX [(aF (a9 32) (kI 1)),(dx (n6 (a9 31) (a9 28) ", ") (aF (a9 32) (kI 3)) (aF (a9 32) (kI 2)))]))) false) (ap (c6 30 (dx (bA (a9 23) (aU []) oY) (af [(a9 23),(a9 29)] dc) (aU []))) (ap (ci (ef (a9 26) (rM (dZ (a9 30) (aU []) oY) (dZ (a9 30) (aj (ce (a9 30) ba (aL (kI 1))) (af [(a9 30)] dD) l8) dH)))) aP)))))
section
variable {f:Nat} {L:List Nat}
theorem ad2(x:cV)(hl:low<13)(hf:f<6)(hm:mask<2^f):c6 28 (af [(aj (a9 27) (aj (kI 2) (a9 5) (aR gu)) l8)] cM) ({x with low:=some (.d (.int low)),mask:=some (.d (.int mask))}).loc μ=
  some (.next,({x with low:=some (.d (.int low)),mask:=some (.d (.int mask)),said:=some (.d (.str (eQ low f mask)))}).loc,μ):=by
 let ρ:=({x with low:=some (.d (.int low)),mask:=some (.d (.int mask))}:cV).loc
 have h:aj (a9 27) (aj (kI 2) (a9 5) (aR gu)) l8 ρ μ=some (.d (.int ((mask:Int)*2^low)),μ):=uV rfl (ko rfl (by lia)) (Fp (by lia));exact (bO (d4 h (LN hl hf hm))).trans rfl
theorem Y0(x:cV)(hl:low<13)(hf:f<6)(hm:mask<2^f)(hc:μ[2]? =some (.live X))(hz:X.length≤10000):ci (ef (a9 12) (cX [(a9 28),(Yi (dv (kS ", ") [(cb m7 (b_ [(a9 25)] f_) (ji 31 32) (cW (bA (aj (aj (a9 27) (aj (kI 2) (a9 31) (aR gu)) (aR cN)) (kI 2) (aR co)) (kI 1) dH) (aY (a9 32))))] fg) (kS "0x0"))])) ({x with asked:=some (.c 2),words:=some (.d (.list (bS (iG low f)))),mask:=some (.d (.int mask)),said:=some (.d (.str (eQ low f mask)))}).loc μ=
  some (.next,({x with asked:=some (.c 2),words:=some (.d (.list (bS (iG low f)))),mask:=some (.d (.int mask)),said:=some (.d (.str (eQ low f mask)))}).loc,μ.set 2 (.live (X++[oK low f mask]))):=by
 let ρ:=({x with asked:=some (.c 2),words:=some (.d (.list (bS (iG low f)))),mask:=some (.d (.int mask)),said:=some (.d (.str (eQ low f mask)))}:cV).loc
 have h32:=BO hf;have hcm:=q_ (sc:=m7) (itf:=b_ [(a9 25)] f_) (t:=bA (aj (aj (a9 27) (aj (kI 2) (a9 31) (aR gu)) (aR cN)) (kI 2) (aR co)) (kI 1) dH) (e:=a9 32) (ρ:=ρ) (μ:=μ) 31 32 (by decide) (pB mask) wB
  (jU (V:=.d (.list (bS (iG low f)))) rfl rfl) (az _ _) (λy hy=>by
   rw [tr,qo] at hy
   refine au (DT.mp hy) λk hk zq2=>?_;subst zq2;have hk5:=D5.mp hk;have hb:=Bi.mp (Bi.mp Ma mask (D5.mpr (by lia))) k (D5.mpr (by lia));rw [E_,beq_iff_eq,decide_eq_true_iff] at hb
   refine (dw _ _ rfl ?_ (λzz=>rfl));refine rA (Lp _) ?_;refine (o4 (y:=1) (cY (cY (x:=mask) rfl (ko (y:=k) rfl (by lia)) (kL hb.2)) rfl (fj (by decide))) rfl).trans ?_;refine rA hb.1 ?_;exact congrArg (λb=>some (b,μ)) ao3.symm) (by refine rA (ik _ _) ?_;exact aa (by simp [bS,iG];lia))
 rw [D8] at hcm
 have hsl:(gZ low f mask).length≤5:=by
  have:=GW (iF mask) (zd f)
  rw [Ib] at this
  simp only [gZ,xJ];lia
 have hws:=uF (gZ low f mask);have hj:=tT (sep:=", ") (bY hcm) rfl (by
  refine rA (xJ _) ?_;refine rA (show (", ":Str).length=2 from by decide) ?_;lia)
 have e0:(gZ low f mask).map wd=((gZ low f mask).map wq).map tS:=by rw [ER];rfl
 have ej:Lo ", " ((gZ low f mask).map wd)=tS (cE ((gZ low f mask).map wq)):=by refine rA e0 ?_;exact qX _
 rw [ej] at hj
 have hlen:=lx ((gZ low f mask).map wq) (λw hw=>by
  refine au (DT.mp hw) λk hk zq2=>?_;subst zq2;exact (BV (by have:=xY hk;lia)).2.2.2)
 rw [xJ] at hlen
 have ho:=Tl (g:=kS "0x0") (V:=.d (.str (eQ low f mask))) hj (by lia) (λhne=>by
  unfold eQ gM;exact rA (if_neg (λq=>hne (by rw [(mo low hf hm).mpr q];rfl))) rfl) (λhe=>by
  have:gZ low f mask=[]:=by
   apply Classical.byContradiction;intro hne;exact CJ _ (λq=>hne (O9.mp q)) (λw hw=>by
    refine au (DT.mp hw) λk hk zq2=>?_;subst zq2;exact (BV (by have:=xY hk;lia)).2.1) he
  have:=(mo low hf hm).mp this
  unfold eQ gM;refine rA (if_pos this) ?_;rfl)
 exact nT rfl (d8 (ds:=[.str (eQ low f mask),.str (eQ low f mask)]) (an rfl (an ho bX)) (aa (xF rfl))) hc (by lia)
theorem Yv(x:cV)(hl:low<13)(hf:f<6)(hm:mask<2^f)(hJ:J.length=f):g9 29 l5 (b_ [(a9 25),(a9 21)] lg) (ji 31 32) (cW bg (aY (cX [(aF (a9 32) (kI 1)),(dx (n6 (a9 31) (a9 28) ", ") (aF (a9 32) (kI 3)) (aF (a9 32) (kI 2)))]))) false ({x with forks:=some (.d (.list (jL J))),words:=some (.d (.list (bS (iG low f)))),said:=some (.d (.str (eQ low f mask)))}).loc μ=
  some (.next,({x with forks:=some (.d (.list (jL J))),words:=some (.d (.list (bS (iG low f)))),said:=some (.d (.str (eQ low f mask))),chosen:=some (.d (.list (eL (sG mask J))))}).loc,μ):=by
 let ρ:=({x with forks:=some (.d (.list (jL J))),words:=some (.d (.list (bS (iG low f)))),said:=some (.d (.str (eQ low f mask)))}:cV).loc
 have hcm:=si (sc:=l5) (itf:=b_ [(a9 25),(a9 21)] lg) (e:=cX [(aF (a9 32) (kI 1)),(dx (n6 (a9 31) (a9 28) ", ") (aF (a9 32) (kI 3)) (aF (a9 32) (kI 2)))]) (ρ:=ρ) (μ:=μ) 31 32 (by decide) (Yx low f mask)
  (YC (xs:=bS (iG low f)) (ys:=jL J) rfl rfl) (az _ _) (λz hz=>by
   refine jq (N8 _ _ hz) λk a b h1 h2 zq5=>?_;subst zq5;have hk:k<J.length:=by
    have:=(Bm.mp h2).1
    simpa [jL] using this
   have ea:a=.str (wd (low+k)):=by
    rw [bS,iG,ER,FS,O6 (by lia)] at h1
    exact (Ff h1).symm
   obtain ⟨y,hy,rfl⟩:∃y:Jn,J[k]? =some y∧b=y.enc:=by
    rw [jL,FS] at h2
    refine au (HU.mp h2) λy hy e=>?_;exact (aZ y hy e.symm)
   subst ea;refine (fX _ _ rfl ?_);have hs:=JC (g:=a9 31) (h:=a9 28) (ρ:=((bG l5 ρ).set 31 (some (.d (.str (wd (low+k)))))).set 32 (some (.d y.enc))) (μ:=μ) hl hf hm (by lia) rfl rfl;refine (d8 (ds:=[.int y.nd,if iF mask k then .int y.b else .int y.a]) (an (Z1 rfl) (an (lk hs (λhb=>?_) (λhb=>?_)) bX)) (aa (xF rfl))).trans ?_
   ·refine rA (if_pos hb) ?_;exact al2 rfl
   ·refine rA (if_neg (by rw [hb];exact G_)) ?_;exact aj8 rfl
   ·refine (?_:_=some (AV.d (Im [.int y.nd,if WL low f mask (wd (low+k)).cps.toList then .int y.b else .int y.a]),μ))
    refine rA (YY _) ?_;refine rA (fR _) ?_;exact rA (yy hl hf hm (by lia)) rfl) (KQ (OH _ _) (aa (by simp [bS,iG];lia)))
 have e:=Bj low f mask J 0 (λk zz hk=>yy hl hf hm (by lia));rw [TG,Nat.div_one,hJ,←tr] at e
 rw [e] at hcm
 exact (ju hcm).trans rfl
theorem M_(hL:L.length≤100):(Fb L J mask).length≤100:=by
 unfold Fb
 split
 ·simp
 ·rcases o6 (sG mask J) L with h|h
  ·refine rA h ?_;simp
  ·lia
theorem Ym(x:cV)(hL:L.length≤100)(hb:L≠[]→∀y∈J,y.nd<L.length∧y.a<L.length∧y.b<L.length):c6 30 (dx (bA (a9 23) (aU []) oY) (af [(a9 23),(a9 29)] dc) (aU [])) ({x with labels:=some (.d (.list (nL L))),chosen:=some (.d (.list (eL (sG mask J))))}).loc μ=
  some (.next,({x with labels:=some (.d (.list (nL L))),chosen:=some (.d (.list (eL (sG mask J)))),joined:=some (.d (.list (nL (Fb L J mask))))}).loc,μ):=by
 let ρ:=({x with labels:=some (.d (.list (nL L))),chosen:=some (.d (.list (eL (sG mask J))))}:cV).loc
 have ht:bA (a9 23) (aU []) oY ρ μ=some (!(L==[]),μ):=dG (V:=.d (.list (nL L))) rfl uJ (S9 L [] μ);have h:dx (bA (a9 23) (aU []) oY) (af [(a9 23),(a9 29)] dc) (aU []) ρ μ=some (.d (.list (nL (Fb L J mask))),μ):=by
  refine lk ht (λq=>?_) (λq=>?_)
  ·have hne:L≠[]:=by
    rintro rfl
    exact absurd q (by decide)
   unfold Fb;refine rA (if_neg hne) ?_;refine iM (V:=.d (.list (nL L))) (V':=.d (.list (eL (sG mask J)))) rfl rfl (s72 (by lia) (λp hp=>?_));refine cm (Bl J mask hp) λy hy e1 e2=>?_
   have:=hb hne y hy
   refine rA e1 ?_
   rcases e2 with e2|e2<;>rw [e2]<;>lia
  ·have he:L=[]:=by
    cases L with
    |nil=>rfl
    |cons a l=>exact absurd q (by simp)
   unfold Fb;refine rA (if_pos he) ?_;exact uJ
 exact (bO h).trans rfl
theorem ac0(x:cV){T:List Bool}(hL:L.length≤100)(hT:T.length≤1000)(hc:μ[jt]? =some (.live (bL T))):ci (ef (a9 26) (rM (dZ (a9 30) (aU []) oY) (dZ (a9 30) (aj (ce (a9 30) ba (aL (kI 1))) (af [(a9 30)] dD) l8) dH))) ({x with trees:=some (.c jt),joined:=some (.d (.list (nL (Fb L J mask))))}).loc μ=
  some (.next,({x with trees:=some (.c jt),joined:=some (.d (.list (nL (Fb L J mask))))}).loc,μ.set jt (.live (bL (T++[j9 L J mask])))):=by
 refine (eA (gk (j:=jt) (d:=.bool (j9 L J mask)) (xs:=bL T) rfl (S_ (l:=Fb L J mask) rfl (M_ hL)) hc (by rw [bL];refine rA (xJ _) ?_;exact aa (by lia)))).trans ?_
 simp [bL]
theorem Dg(x:cV){T:List Bool}{sd ch jo:Option AV}(hl:low<13)(hf:f<6)(hm:mask<2^f)(hJ:J.length=f)(hL:L.length≤100)(hb:L≠[]→∀y∈J,y.nd<L.length∧y.a<L.length∧y.b<L.length)(hj:jt≠2)(hc:μ[2]? =some (.live X))(hz:X.length≤10000)(hT:T.length≤1000)(hct:μ[jt]? =some (.live (bL T))):
  H8 ({x with low:=some (.d (.int low)),asked:=some (.c 2),forks:=some (.d (.list (jL J))),labels:=some (.d (.list (nL L))),words:=some (.d (.list (bS (iG low f)))),trees:=some (.c jt),mask:=some (.d (.int mask)),said:=sd,chosen:=ch,joined:=jo}).loc μ=
   some (.next,({x with low:=some (.d (.int low)),asked:=some (.c 2),forks:=some (.d (.list (jL J))),labels:=some (.d (.list (nL L))),words:=some (.d (.list (bS (iG low f)))),trees:=some (.c jt),mask:=some (.d (.int mask)),said:=some (.d (.str (eQ low f mask))),chosen:=some (.d (.list (eL (sG mask J)))),joined:=some (.d (.list (nL (Fb L J mask))))}).loc,(μ.set 2 (.live (X++[oK low f mask]))).set jt (.live (bL (T++[j9 L J mask])))):=by
 let y:cV:= {x with low:=some (.d (.int low)),asked:=some (.c 2),forks:=some (.d (.list (jL J))),labels:=some (.d (.list (nL L))),words:=some (.d (.list (bS (iG low f)))),trees:=some (.c jt),mask:=some (.d (.int mask)),said:=sd,chosen:=ch,joined:=jo}
 let y1:cV:= {y with said:=some (.d (.str (eQ low f mask)))}
 let y2:cV:= {y1 with chosen:=some (.d (.list (eL (sG mask J))))}
 let y3:cV:= {y2 with joined:=some (.d (.list (nL (Fb L J mask))))}
 refine (aB (ρ1:=y1.loc) (ad2 y hl hf hm)).trans ?_;refine (aB (ρ1:=y1.loc) (Y0 y1 hl hf hm hc hz)).trans ?_;refine (aB (ρ1:=y2.loc) (Yv y1 hl hf hm hJ)).trans ?_;refine (aB (ρ1:=y3.loc) (Ym y2 hL hb)).trans ?_;exact (aB (ρ1:=y3.loc) (ac0 y3 hL hT (by rw [Lj (Mv hj)];exact hct))).trans bK
end
theorem am4(μ:List ah)(hj:j≠2)(a b c d:ah):(((μ.set 2 a).set j b).set 2 c).set j d=(μ.set 2 c).set j d:=by
 refine rA (R1 b c hj) ?_;refine rA (Hb _) ?_;exact rA (Hb _) rfl
theorem sF(x:cV){f:Nat}{L:List Nat}(xs:List PyData)(hl:low<13)(hf:f<6)(hJ:J.length=f)(hL:L.length≤100)(hb:L≠[]→∀y∈J,y.nd<L.length∧y.a<L.length∧y.b<L.length)(hj:jt≠2):∀ (n s:Nat) (X:List PyData) (T:List Bool) (μ:List ah) (mk sd ch jo:Option AV),s+n≤2^f→μ[2]? =some (.live X)→X.length+n≤10000→T.length+n≤1000→μ[jt]? =some (.live (bL T))→∃mk' sd' ch' jo',
  fS (du 27) H8 aP none xs ((F7 s n).map λ(i:Nat)=>EW (i:Int)) ({x with low:=some (.d (.int low)),asked:=some (.c 2),forks:=some (.d (.list (jL J))),labels:=some (.d (.list (nL L))),words:=some (.d (.list (bS (iG low f)))),trees:=some (.c jt),mask:=mk,said:=sd,chosen:=ch,joined:=jo}).loc μ=
   some (.next,({x with low:=some (.d (.int low)),asked:=some (.c 2),forks:=some (.d (.list (jL J))),labels:=some (.d (.list (nL L))),words:=some (.d (.list (bS (iG low f)))),trees:=some (.c jt),mask:=mk',said:=sd',chosen:=ch',joined:=jo'}).loc,(μ.set 2 (.live (X++(F7 s n).map (oK low f)))).set jt (.live (bL (T++(F7 s n).map (j9 L J)))))
 |0,s,X,T,μ,mk,sd,ch,jo,_,hc,_,_,hct=>(Ai mk sd ch jo (by
  simp only [List.range'_zero,LQ,DN];refine rA (eJ hc) ?_;refine rA (eJ hct) ?_;rfl))
 |n+1,s,X,T,μ,mk,sd,ch,jo,hs,hc,hz,hT,hct=>by
  have h2:2<μ.length:=(Bm.mp hc).1;have h3:jt<μ.length:=(Bm.mp hct).1;have hbd:=Dg (mask:=s) x (sd:=sd) (ch:=ch) (jo:=jo) hl hf (by lia) hJ hL hb hj hc (by lia) (by lia) hct;refine Gy (sF x xs hl hf hJ hL hb hj n (s+1) (X++[oK low f s]) (T++[j9 L J s]) ((μ.set 2 (.live (X++[oK low f s]))).set jt (.live (bL (T++[j9 L J s])))) (some (.d (.int s))) (some (.d (.str (eQ low f s)))) (some (.d (.list (eL (sG s J))))) (some (.d (.list (nL (Fb L J s))))) (by lia) (by rw [Lj hj];exact cz h2) (by simp;lia) (by simp;lia) (cz (by refine rA Lr ?_;exact h3))) λmk' sd' ch' jo' e=>?_;refine (Ai mk' sd' ch' jo' ?_);refine rA Rh ?_;refine rA EV ?_;refine rA EV ?_;refine rA EV ?_;refine (dQ (ρ1:=({x with low:=some (.d (.int low)),asked:=some (.c 2),forks:=some (.d (.list (jL J))),labels:=some (.d (.list (nL L))),words:=some (.d (.list (bS (iG low f)))),trees:=some (.c jt),mask:=some (.d (.int s)),said:=sd,chosen:=ch,joined:=jo}:cV).loc) rfl hbd (az _ _)).trans (e.trans ?_);refine rA (am4 μ hj _ _ _ _) ?_;refine rA (Eg _ _ _) ?_;refine rA (Eg _ _ _) ?_;rfl
theorem an1(x:cV){L:List Nat}(hl:low<13)(hf:J.length<6)(hL:L.length≤100)(hb:L≠[]→∀y∈J,y.nd<L.length∧y.a<L.length∧y.b<L.length)(hj:jt≠2)(hc:μ[2]? =some (.live X))(hz:X.length≤1000)(hct:μ[jt]? =some (.live [])):∃mk' sd' ch' jo',
  nv ({x with low:=some (.d (.int low)),asked:=some (.c 2),forks:=some (.d (.list (jL J))),labels:=some (.d (.list (nL L))),words:=some (.d (.list (bS (iG low J.length)))),trees:=some (.c jt)}).loc μ=
   some (.next,({x with low:=some (.d (.int low)),asked:=some (.c 2),forks:=some (.d (.list (jL J))),labels:=some (.d (.list (nL L))),words:=some (.d (.list (bS (iG low J.length)))),trees:=some (.c jt),mask:=mk',said:=sd',chosen:=ch',joined:=jo'}).loc,(μ.set 2 (.live (X++(zd (2^J.length)).map (oK low J.length)))).set jt (.live (bL ((zd (2^J.length)).map (j9 L J))))):=by
 let ρ:=({x with low:=some (.d (.int low)),asked:=some (.c 2),forks:=some (.d (.list (jL J))),labels:=some (.d (.list (nL L))),words:=some (.d (.list (bS (iG low J.length)))),trees:=some (.c jt)}:cV).loc
 have h32:=BO hf;have h2:=gF (f:=a9 21) (ρ:=ρ) (μ:=μ) (V:=.d (.list (jL J))) (xs:=jL J) rfl rfl (by rw [jL];refine rA (xJ _) ?_;exact aa (by lia));rw [jL,xJ] at h2
 have h3:af [(aj (kI 2) (af [(a9 21)] dD) (aR gu))] cH ρ μ=some (.rng (0:Nat) (2^J.length:Nat),μ):=d4 (ko h2 (by lia)) (by
  refine (?_:some (AV.rng 0 (2^J.length),μ)=_);refine rA (show ((2:Int)^J.length)=((2^J.length:Nat):Int) by simp) ?_;rfl)
 have hi:=qA h3 (by decide) (by lia);have e0:((zd (2^J.length-0)).map λ(i:Nat)=>EW ((0+i:Nat):Int))=(F7 0 (2^J.length)).map λ(i:Nat)=>EW (i:Int):=by
  refine rA (RK _) ?_;refine rB Ll ?_;refine FL λi zz=>?_;exact rA (Lp _) rfl
 rw [e0] at hi
 refine Gy (sF x ((F7 0 (2^J.length)).map λ(i:Nat)=>EW (i:Int)) hl hf rfl hL hb hj (2^J.length) 0 X [] μ x.mask x.said x.chosen x.joined (by lia) hc (by lia) (by simp;lia) hct) λmk' sd' ch' jo' e=>?_;refine (Ai mk' sd' ch' jo' ?_);rw [←Ll,Lf] at e
 rw [←Ll] at hi
 unfold nv;refine rA (gJ hi) ?_;exact e
theorem ak3:wd 31="0x80000000":=by decide+kernel
noncomputable def mz(low f r:Nat):List Str:=iG low f++[wd 31]++(if r=3 then [] else [hx (((r:Int)-3)*2^32)])
noncomputable def IY(low f r:Nat):PyData:=.tuple [.str (Lo ", " (mz low f r)),.str (Lo ", " (mz low f r))]
theorem Ed(low f r:Nat):Good (IY low f r):=(fX _ _ rfl (λμ=>by
 refine (?_:some (Lo ", " (mz low f r)==Lo ", " (mz low f r))=_);exact rA (beq_self_eq_true _) rfl))
theorem tv{r:Nat}(hr:r<5):(hx (((r:Int)-3)*2^32)).length≤1000:=of_decide_eq_true (Bi.mp Uf r (D5.mpr hr))
theorem Un{f r:Nat}(hl:low<13)(hf:f<6)(hr:r<5):cM [.d (.int ((2^f-1)*2^low+2^31+((r:Int)-3)*2^32))] μ=some (.d (.str (Lo ", " (mz low f r))),μ):=by
 have h:=Bi.mp (Bi.mp (Bi.mp ME f (D5.mpr hf)) low (D5.mpr hl)) r (D5.mpr hr);rw [beq_iff_eq] at h
 have e:Kf ((zd f).map (λk=>low+k)++[31]) (if r=3 then none else some (((r:Int)-3)*2^32))=mz low f r:=by
  unfold mz iG
  by_cases q:r=3
  ·refine rA (if_pos q) ?_;refine rA (if_pos q) ?_
   simp only [Kf,IQ,ER,DN,EV,LQ];rfl
  ·refine rA (if_neg q) ?_;refine rA (if_neg q) ?_
   simp only [Kf,IQ,ER,EV,LQ];rfl
 refine rB e ?_;refine Yt h (λfl' q=>?_)
 split at q
 ·exact ct q
 ·refine cA q ?_;exact tv hr
theorem Oq(low f:Nat):iG low f=((zd f).map λk=>low+k).map wd:=by rw [iG];refine rA ER ?_;rfl
theorem Hs{r:Nat}:(((r:Int)-3)*2^32=0)↔r=3:=by
 refine rA (show (2:Int)^32=4294967296 by decide) ?_;lia
theorem qL(a b:List Str):bS (a++b)=bS a++bS b:=by simp [bS]
theorem ao4(x:cV){f r:Nat}(hl:low<13)(hf:f<6)(hr:r<5)(hc:μ[2]? =some (.live X))(hz:X.length≤1000):
  n_ ({x with far:=some (.d (.int (((r:Int)-3)*2^32))),beyond:=some (.d (.list (iL [(2^f-1)*2^low+2^31]))),asked:=some (.c 2),words:=some (.d (.list (bS (iG low f))))}).loc μ=
   some (.next,({x with far:=some (.d (.int (((r:Int)-3)*2^32))),beyond:=some (.d (.list (iL [(2^f-1)*2^low+2^31]))),asked:=some (.c 2),words:=some (.d (.list (bS (iG low f))))}).loc,μ.set 2 (.live (X++[IY low f r]))):=by
 let ρ:=({x with far:=some (.d (.int (((r:Int)-3)*2^32))),beyond:=some (.d (.list (iL [(2^f-1)*2^low+2^31]))),asked:=some (.c 2),words:=some (.d (.list (bS (iG low f))))}:cV).loc
 have a1:af [(a9 11)] wy ρ μ=some (.d (.int ((2^f-1)*2^low+2^31)),μ):=by
  have:=yB (f:=a9 11) (ρ:=ρ) (μ:=μ) (l:=[(2^f-1)*2^low+2^31]) rfl
  refine rA this ?_;refine rA Pq ?_;refine rA RI ?_;exact rA (Int.add_zero _) rfl
 have a2:aj (af [(a9 11)] wy) (a9 6) aT ρ μ=some (.d (.int ((2^f-1)*2^low+2^31+((r:Int)-3)*2^32)),μ):=cR a1 rfl;have a3:=d4 a2 (Un hl hf hr);have hwl:(bS (iG low f)).length=f:=by simp [bS,iG]
 have b1:aj (a9 25) (aU [(kS "0x80000000")]) aT ρ μ=some (.d (.list (bS (iG low f++[wd 31]))),μ):=by
  refine rA (qL _ _) ?_;exact cS (V:=.d (.list (bS (iG low f)))) rfl (kr (rt ak3.symm)) rfl rfl (aa (by refine rA hwl ?_;show f+1≤100000;lia))
 have b2:dx (bA (a9 6) (kI 0) oY) (aU [(af [(a9 6)] oP)]) (aU []) ρ μ=some (.d (.list (bS (if r=3 then [] else [hx (((r:Int)-3)*2^32)]))),μ):=by
  refine lk (neI (x:=((r:Int)-3)*2^32) (y:=0) rfl rfl) (λq=>?_) (λq=>?_)
  ·have hne:¬r=3:= λe=>by
    rw [Hs.mpr e] at q
    exact absurd q (by decide)
   refine rA (if_neg hne) ?_;exact kr (tY rfl (tv hr))
  ·have he:r=3:=by
    rw [Bool.not_eq_false',beq_iff_eq] at q
    exact Hs.mp q
   refine rA (if_pos he) ?_;exact uJ
 have b3:=cS b1 b2 rfl rfl (aa (by
  refine rA (qL _ _) ?_;refine rA be ?_;refine rA hwl ?_
  split<;>simp [bS]<;>lia))
 rw [←qL] at b3
 have hs:=uF ((zd f).map λk=>low+k);rw [←Oq,xJ,Ib] at hs
 have h31:(wd 31).length≤20:=by
  have:=(HH 31).1
  rwa [←eh] at this
 have hxl:=tv hr;have b4:=tT (sep:=", ") b3 rfl (by
  refine rA (show (", ":Str).length=2 from by decide) ?_;have hwf:(iG low f).length=f:=by simp [iG]
  split
  ·simp only [IQ,RH,be,EV,LQ,Pq,RI,Bb,EQ,hwf];lia
  ·simp only [IQ,RH,be,EV,LQ,Pq,RI,Bb,EQ,hwf];lia)
 have h:=d8 (ds:=[.str (Lo ", " (mz low f r)),.str (Lo ", " (mz low f r))]) (an a3 (an b4 bX)) (aa (xF rfl));unfold n_;exact nT rfl h hc (by lia)
theorem DJ:∀T:List Bool,KX (bL T)=true:= λT=>(kQ (n:=0) λx hx=>by
 refine au (DT.mp hx) λb zz zq2=>?_;subst zq2;exact jg).1
theorem VW(T:List Bool):((bL T).any λy=>Ml y (.bool false))= !T.all id:=by
 induction T with
 |nil=>rfl
 |cons b T ih=>
  show (Ml (.bool b) (.bool false)||(bL T).any λy=>Ml y (.bool false))=_
  refine rA ih ?_;refine rA Me ?_;cases b with
  |true=>rfl
  |false=>rfl
theorem HM{T:List Bool}(hct:μ[jt]? =some (.live (bL T))):lD (.d (.bool false)) (.c jt) μ=some (T.all id):=by
 have:Xh (.d (.bool false)) (.c jt) μ=some (!T.all id):=by
  exact (e_ (rfl:mn (.d (.bool false))=none)).trans ((oN (rfl:v7 (.d (.bool false))=some _) (eN hct)).trans ((if_pos ⟨DJ T,(jg (n:=0)).shaped (by decide)⟩).trans (congrArg some (VW _))))
 exact (bU this).trans (congrArg some (Bool.not_not _))
theorem al4(x:cV){T:List Bool}{b:Bool}(hc:μ[2]? =some (.live X))(hz:X.length≤10000)(hX:∀y∈X,Good y)(hct:μ[jt]? =some (.live (bL T)))(hb:T.all id=b):
  o5 ({x with asked:=some (.c 2),proof:=some (.d (.bool b)),trees:=some (.c jt)}).loc μ=some (.ret (.d (.bool true)),({x with asked:=some (.c 2),proof:=some (.d (.bool b)),trees:=some (.c jt)}).loc,μ):=by
 let ρ:=({x with asked:=some (.c 2),proof:=some (.d (.bool b)),trees:=some (.c jt)}:cV).loc
 have hp:da μ (.c 2)=some X:=eN hc;have hcm:=jc (sc:=o_) (itf:=aK false (a9 12)) (t:=bA (aF (a9 31) (kI 0)) (aF (a9 31) (kI 1)) oY) (e:=a9 31) (ρ:=ρ) (μ:=μ) (g:=EZ (.c 2)) (xs:=X) 31 (λzz=>false) id (d7 (V:=.c 2) rfl hp) (pb hp) (λy hy=>by
  refine jV (hX y hy) λa c zq2 h=>?_;subst zq2;refine dG (V:=.d a) (W:=.d c) (cF (k:=0) (V:=.d (.tuple [a,c])) rfl rfl rfl (by decide) rfl (aa (xF rfl))) (cF (k:=1) (V:=.d (.tuple [a,c])) rfl rfl rfl (by decide) rfl (aa (xF rfl))) ?_;exact bU (h μ)) (λzz zz zz=>rfl) (aa (by lia))
 have e0:(X.filter λzz=>false).map id=[]:=by simp
 rw [e0] at hcm
 have h1:dZ (cb o_ (aK false (a9 12)) (du 31) (cW (bA (aF (a9 31) (kI 0)) (aF (a9 31) (kI 1)) oY) (aY (a9 31)))) (aU []) dH ρ μ=some (.d (.bool true),μ):=gX (bY hcm) uJ (Gs [] [] μ);have h2:dZ (kB false) (a9 26) lD ρ μ=some (.d (.bool b),μ):=gX (V:=.d (.bool false)) (W:=.c jt) rfl rfl ((HM hct).trans (by exact rA hb rfl));have h3:dZ (a9 18) (dZ (kB false) (a9 26) lD) dH ρ μ=some (.d (.bool true),μ):=gX (V:=.d (.bool b)) rfl h2 (by
  refine (?_:some (b==b)=_);exact rA (beq_self_eq_true _) rfl)
 unfold o5;exact dY ((p6 h1 (λzz=>h3)).trans rfl)
theorem T7{a b:Int}(ha:0≤a)(hb:b≤63):(sliceRange a b 6).length≤100000:=by
 unfold sliceRange;simp only [xJ,Ib];refine rA (if_pos (by decide)) ?_
 split<;>lia
theorem UB(xs:List Int)(h:xs.length≤63)(k:Int):(iJ xs (some k) (some 60) (some 6)).length≤100000:=by
 refine KQ (JV ..) (T7 ?_ ?_)
 ·refine (?_:(0:Int)≤if (6:Int)>0 then max 0 (min (if k<0 then k+xs.length else k) xs.length) else max (-1) (min (if k<0 then k+xs.length else k) ((xs.length:Int)-1)))
  refine rA (if_pos (by decide)) ?_;exact Int.le_max_left ..
 ·refine (?_:(if (6:Int)>0 then max (0:Int) (min (if (60:Int)<0 then (60:Int)+(xs.length:Int) else 60) (xs.length:Int)) else max (-1:Int) (min (if (60:Int)<0 then (60:Int)+(xs.length:Int) else 60) ((xs.length:Int)-1)))≤63)
  refine rA (if_pos (by decide)) ?_;lia
theorem By(h:μ[j]? =some c):j<μ.length:=(Bm.mp h).1
abbrev VH:SF:=(ap nW (ap nH (ap nh (ap n9 (ap np (ap nu (ap nC (ap oi (ap mX (ap o3 (ap og (ap ng (ap oh (ap nA (ap o8 (ap ny (ap nv (ap n_ (ap o5 aP)))))))))))))))))))
theorem Zb(x:cV){T:Int}{G:List Fm}(hcs:cs.length=6)(hG:bJ G=F7 0 6)(ht:G.length+g7 T=6)(hc:μ[2]? =some (.live X))(hX:∀y∈X,Good y)(hz:X.length≤200):∃ρ' μ',
  VH ({x with cells:=some (.d (.list (iL cs))),total:=some (.d (.int T)),mates:=some (.d (.list (nL (aH.getD (et T) [])))),numbers:=some (.d (.list (iL (d9 (aH.getD (et T) []) G++[0])))),low:=some (.d (.int (jw T))),far:=some (.d (.int (DO T))),read:=some (.d (.list (bi (aH.getD (et T) []) G++[Im []]))),beyond:=some (.d (.list (iL [rJ G T]))),asked:=some (.c 2)}).loc μ=some (.ret (.d (.bool true)),ρ',μ'):=by
 have hi:=tP T;have hm:=mr hi;have htn:=mh T;have h6:(bJ G).length=6:=by refine rA hG ?_;rfl
 have hgl:=kK G 0;have hpl:=pF (aH.getD (et T) []) G;have hnet:=VJ (i:=et T) (G:=G) hi hG (by lia) (by lia);have hbal:=Bh hi;have hlow:=uX T;have hfar:=LW T;generalize et T=i at*
 have hp6:∀p∈bJ G,p<6:= λp hp=>by
  rw [hG] at hp
  have:=P4.mp hp
  lia
 have hbd:=FB G 0 hp6;have hJl:(eH G 0).length≤5:=by lia
 have hfl:=GW (·.par) (eH G 0);have hfl5:((eH G 0).filter (·.par)).length<6:=by lia
 
 let x12:cV:= {x with cells:=some (.d (.list (iL cs))),total:=some (.d (.int T)),mates:=some (.d (.list (nL (aH.getD i [])))),numbers:=some (.d (.list (iL (d9 (aH.getD i []) G++[0])))),low:=some (.d (.int (jw T))),far:=some (.d (.int (DO T))),read:=some (.d (.list (bi (aH.getD i []) G++[Im []]))),beyond:=some (.d (.list (iL [rJ G T]))),asked:=some (.c 2)}
 let x13:cV:= {x12 with units:=some (.d (.list (uL (uW (aH.getD i []) cs))))}
 let x14:cV:= {x13 with text:=some (.d (.str (tS (xT (aH.getD i []) cs))))}
 let x15:cV:= {x14 with shorn:=some (.d (.str (tS (vT (aH.getD i []) cs))))}
 have e12:nW x12.loc μ=some (.next,x13.loc,μ):=ao2 x12 _ cs μ hm hcs;have e13:nH x13.loc μ=some (.next,x14.loc,μ):=ak1 x13 _ cs μ;have e14:nh x14.loc μ=some (.next,x15.loc,μ):=al1 x14 _ cs μ hm hcs;refine eC λGG kG=>?_;obtain ⟨μ15,e15,hc15⟩:∃μ',n9 x15.loc μ=some (.next,x15.loc,μ')∧μ'[2]? =some (.live (X++[mC (aH.getD i []) cs])):=(aZ _ (ap5 x15 _ cs X μ hc (by lia)) (cz (By hc)));obtain ⟨X15,hX15⟩:∃Z,Z=X++[mC (aH.getD i []) cs]:=⟨_,rfl⟩;refine kG ?_;rw [←hX15] at hc15
 have hg15:∀y∈X15,Good y:= λy hy=>by
  rw [hX15,AZ,Ab] at hy
  rcases hy with hy|rfl
  ·exact hX y hy
  ·exact JU _ _
 have hl15:X15.length≤201:=by refine rA hX15 ?_;simp;lia
 refine eC λGG kG=>?_;obtain ⟨μ16,e16,hc16⟩:∃μ',np x15.loc μ15=some (.next,x15.loc,μ')∧μ'[2]? =some (.live (X15++[mJ (aH.getD i []) cs])):=(aZ _ (am8 x15 _ cs X15 μ15 hc15 (by lia)) (cz (By hc15)));obtain ⟨X16,hX16⟩:∃Z,Z=X15++[mJ (aH.getD i []) cs]:=⟨_,rfl⟩;refine kG ?_;rw [←hX16] at hc16
 have hg16:∀y∈X16,Good y:= λy hy=>by
  rw [hX16,AZ,Ab] at hy
  rcases hy with hy|rfl
  ·exact hg15 y hy
  ·exact G1 _ _
 have hl16:X16.length≤202:=by refine rA hX16 ?_;simp;lia
 refine eC λGG kG=>?_;obtain ⟨μ17,e17,hc17⟩:∃μ',nu x15.loc μ16=some (.next,x15.loc,μ')∧μ'[2]? =some (.live (X16++[lX (aH.getD i [])])):=(aZ _ (ap8 x15 _ cs G X16 μ16 hG (by lia) hc16 (by lia)) (cz (By hc16)));obtain ⟨X17,hX17⟩:∃Z,Z=X16++[lX (aH.getD i [])]:=⟨_,rfl⟩;refine kG ?_;rw [←hX17] at hc17
 have hg17:∀y∈X17,Good y:= λy hy=>by
  rw [hX17,AZ,Ab] at hy
  rcases hy with hy|rfl
  ·exact hg16 y hy
  ·exact Fv _
 have hl17:X17.length≤203:=by refine rA hX17 ?_;simp;lia
 refine eC λGG kG=>?_;obtain ⟨μ18,e18,hc18⟩:∃μ',nC x15.loc μ17=some (.next,x15.loc,μ')∧μ'[2]? =some (.live (X17++[ka])):=(aZ _ (aj9 x15 _ cs X17 μ17 hbal.1 hc17 (by lia)) (by
  rw [EY (by rw [Lr];exact By hc17)];exact cz (By hc17)))
 obtain ⟨X18,hX18⟩:∃Z,Z=X17++[ka]:=⟨_,rfl⟩;refine kG ?_;rw [←hX18] at hc18
 have hg18:∀y∈X18,Good y:= λy hy=>by
  rw [hX18,AZ,Ab] at hy
  rcases hy with hy|rfl
  ·exact hg17 y hy
  ·exact Gi
 have hl18:X18.length≤204:=by refine rA hX18 ?_;simp;lia
 refine eC λGG kG=>?_;refine cm (ak4 x15 i cs G X18 μ18 hi hcs hG hc18 (by lia)) λY hY hYl e19'=>?_
 let x20:cV:= {x15 with proof:=some (.d (.bool (pr (aH.getD i []) 12 G)))}
 obtain ⟨μ19,e19,hc19⟩:∃μ',oi x15.loc μ18=some (.next,x20.loc,μ')∧μ'[2]? =some (.live (X18++Y)):=(aZ _ e19' (cz (By hc18)));obtain ⟨X19,hX19⟩:∃Z,Z=X18++Y:=⟨_,rfl⟩;refine kG ?_;rw [←hX19] at hc19
 have hg19:∀y∈X19,Good y:= λy hy=>by
  rw [hX19,AZ] at hy
  rcases hy with hy|hy
  ·exact hg18 y hy
  ·exact hY y hy
 have hl19:X19.length≤504:=by refine rA hX19 ?_;refine rA be ?_;lia
 refine eC λGG kG=>?_;obtain ⟨μ20,jn,e20,hc20,hj20,hjn⟩:∃μ' jn,mX x20.loc μ19=some (.next,({x20 with joins:=some (.c jn)}:cV).loc,μ')∧μ'[2]? =some (.live X19)∧μ'[jn]? =some (.live [])∧jn≠2:=(tM _ _ (ap3 x20 μ19) (by
  rw [EY (By hc19)];exact hc19) dp (by have:=By hc19;lia))
 let x21:cV:= {x20 with joins:=some (.c jn)}
 refine bP (ak9 x21 (aH.getD i []) G jn μ20 hj20 hG) λw e21'=>?_
 let x22:cV:= {x21 with formula:=w}
 obtain ⟨μ21,e21,hc21,hj21⟩:∃μ',o3 x21.loc μ20=some (.next,x22.loc,μ')∧μ'[2]? =some (.live X19)∧μ'[jn]? =some (.live (jL (eH G 0))):=(cJ _ e21' (by
  rw [Lj hjn];exact hc20) (cz (By hj20)))
 let x23:cV:= {x22 with forks:=some (.d (.list (jL ((eH G 0).filter (·.par)))))}
 let x24:cV:= {x23 with start:=some (.d (.list (nL (start (aH.getD i []) (eH G 0).length))))}
 let x25:cV:= {x24 with labels:=some (.d (.list (nL (dg (start (aH.getD i []) (eH G 0).length) (iq (eH G 0))))))}
 let x26:cV:= {x25 with names:=some (.d (.list (bS rW)))}
 let x27:cV:= {x26 with words:=some (.d (.list (bS (iG (jw T) ((eH G 0).filter (·.par)).length))))}
 have e22:og x22.loc μ21=some (.next,x23.loc,μ21):=ak5 x22 (eH G 0) jn μ21 hj21 (by lia);have e23:ng x23.loc μ21=some (.next,x24.loc,μ21):=am9 x23 _ (eH G 0) jn μ21 hm hj21 (by lia);have e24:oh x24.loc μ21=some (.next,x25.loc,μ21):=ak2 x24 _ (eH G 0) jn μ21 hj21 (by lia) (λy hy=>by have:=hbd y hy;lia);have e25:nA x25.loc μ21=some (.next,x26.loc,μ21):=ak6 x25 μ21;have e26:o8 x26.loc μ21=some (.next,x27.loc,μ21):=am1 x26 _ (jw T) μ21 hlow (by lia);obtain ⟨μ27,jt,e27,hc27,hj27,hjt⟩:∃μ' jt,ny x27.loc μ21=some (.next,({x27 with trees:=some (.c jt)}:cV).loc,μ')∧μ'[2]? =some (.live X19)∧μ'[jt]? =some (.live [])∧jt≠2:=(tM _ _ (ao9 x27 μ21) (by
  rw [EY (By hc21)];exact hc21) dp (by have:=By hc21;lia))
 refine kG ?_
 let x28:cV:= {x27 with trees:=some (.c jt)}
 have hLl:=o6 (iq (eH G 0)) (start (aH.getD i []) (eH G 0).length);rw [nS] at hLl
 have hL100:(dg (start (aH.getD i []) (eH G 0).length) (iq (eH G 0))).length≤100:=by
  rcases hLl with q|q
  ·refine rA q ?_;simp
  ·lia
 refine eC λGG kG=>?_;obtain ⟨mk,sd,ch,jo,e28'⟩:=an1 x28 (low:=jw T) (jt:=jt) (L:=dg (start (aH.getD i []) (eH G 0).length) (iq (eH G 0))) (J:=(eH G 0).filter (·.par)) (X:=X19) (μ:=μ27) hlow hfl5 hL100 (λhne y hy=>by
  have hy':=hbd y (Ou.mp hy).1
  rcases hLl with q|q
  ·exact absurd q hne
  ·lia) hjt hc27 (by lia) hj27
 let x29:cV:= {x28 with mask:=mk,said:=sd,chosen:=ch,joined:=jo}
 obtain ⟨X28,hX28⟩:∃Z,Z=X19++(zd (2^ ((eH G 0).filter (·.par)).length)).map (oK (jw T) ((eH G 0).filter (·.par)).length):=⟨_,rfl⟩;refine kG ?_;rw [←hX28] at e28'
 refine eC λGG kG=>?_;obtain ⟨μ28,e28,hc28,hj28⟩:∃μ',nv x28.loc μ27=some (.next,x29.loc,μ')∧μ'[2]? =some (.live X28)∧μ'[jt]? =some (.live (bL ((zd (2^ ((eH G 0).filter (·.par)).length)).map (j9 (dg (start (aH.getD i []) (eH G 0).length) (iq (eH G 0))) ((eH G 0).filter (·.par)))))):=(cJ _ e28' (by
  rw [Lj hjt];exact cz (By hc27)) (cz (by refine rA Lr ?_;exact By hj27)))
 have hg28:∀y∈X28,Good y:= λy hy=>by
  rw [hX28,AZ] at hy
  rcases hy with hy|hy
  ·exact hg19 y hy
  ·refine au (DT.mp hy) λk hk zq2=>?_
   subst zq2;exact Da hlow hfl5 (D5.mp hk)
 have hl28:X28.length≤600:=by
  have:=BO hfl5
  refine rA hX28 ?_;refine rA be ?_;refine rA (xJ _) ?_;refine rA Ib ?_;lia
 obtain ⟨μ29,e29,hc29,hj29⟩:∃μ',n_ x29.loc μ28=some (.next,x29.loc,μ')∧μ'[2]? =some (.live (X28++[IY (jw T) ((eH G 0).filter (·.par)).length (Jq T)]))∧μ'[jt]? =some (.live (bL ((zd (2^ ((eH G 0).filter (·.par)).length)).map (j9 (dg (start (aH.getD i []) (eH G 0).length) (iq (eH G 0))) ((eH G 0).filter (·.par)))))):=(cJ _ (ao4 x29 hlow hfl5 hfar hc28 (by lia)) (cz (By hc28)) (by
  rw [Lj (Mv hjt)];exact hj28))
 refine kG ?_;have e30:o5 x29.loc μ29=some (.ret (.d (.bool true)),x29.loc,μ29):=al4 x29 (jt:=jt) (T:=(zd (2^ ((eH G 0).filter (·.par)).length)).map (j9 (dg (start (aH.getD i []) (eH G 0).length) (iq (eH G 0))) ((eH G 0).filter (·.par)))) (b:=pr (aH.getD i []) 12 G) hc29 (by refine rA be ?_;simp;lia) (λy hy=>by
  rw [AZ,Ab] at hy
  rcases hy with hy|rfl
  ·exact hg28 y hy
  ·exact Ed _ _ _) hj29 (by
  refine rB hnet ?_;refine rA List.all_map ?_;rfl)
 exact (jK _ _ ((aB e12).trans ((aB e13).trans ((aB e14).trans ((aB e15).trans ((aB e16).trans ((aB e17).trans ((aB e18).trans ((aB e19).trans ((aB e20).trans ((aB e21).trans ((aB e22).trans ((aB e23).trans ((aB e24).trans ((aB e25).trans ((aB e26).trans ((aB e27).trans ((aB e28).trans ((aB e29).trans (cT e30))))))))))))))))))))
theorem plain_law(xs:List Int)(h:xs.length≤63):∃ρ' μ',Wv (cC (ao (ay 73)) [.d (.list (xs.map EW))]) []=some (.ret (.d (.bool true)),ρ',μ'):=by
 refine eC λGG kG=>?_;refine au (st0 {} xs [] h (UB xs h)) λcs hcs e0'=>?_;obtain ⟨T,hT⟩:∃T,T=cs.sum:=⟨_,rfl⟩;have hi:=tP T;have hm:=mr hi
 let x0:cV:= {script:=some (.d (.list (iL xs)))}
 let x1:cV:= {x0 with cells:=some (.d (.list (iL cs)))}
 let x2:cV:= {x1 with total:=some (.d (.int T))}
 let x3:cV:= {x2 with mates:=some (.d (.list (nL (aH.getD (et T) []))))}
 have e0:xr x0.loc []=some (.next,x1.loc,[]):=e0';have e1:wC x1.loc []=some (.next,x2.loc,[]):=by
  have:=st1 x1 cs []
  rw [←hT] at this
  exact this
 have e2:vd x2.loc []=some (.next,x3.loc,[]):=st2 x2 T [];refine cm (st3 x3 cs T (aH.getD (et T) []) [] hcs hm) λG hG ht e3'=>?_;have htn:=mh T;have h6:(bJ G).length=6:=by refine rA hG ?_;rfl
 have hgl:=kK G 0;have hpl:=pF (aH.getD (et T) []) G;have hnf:nf G≤5:=by
  have:=GW (·.par) (eH G 0)
  unfold nf;lia
 obtain ⟨N,hN⟩:∃N,N=d9 (aH.getD (et T) []) G++[0]:=⟨_,rfl⟩;have hNl:N.length≤13:=by
  refine rA hN ?_;refine rA be ?_;refine (?_:_+1≤13);lia
 refine jV (yj (cs:=cs) (T:=T) (m:=aH.getD (et T) []) (G:=G) hnf) λos1 p hR hr=>?_
 let x4:cV:= {x3 with numbers:=some (.d (.list (iL (d9 (aH.getD (et T) []) G++[0]))))}
 let x5:cV:= {x4 with low:=some (.d (.int (jw T))),far:=some (.d (.int (DO T)))}
 let x6:cV:= {x5 with great:=some (.d (.int (rJ G T)))}
 let x7:cV:= {x6 with tape:=some (.c 0)}
 let x8:cV:= {x7 with told:=some (.c 1)}
 let x9:cV:= {x8 with read:=some (.d (.list (bi (aH.getD (et T) []) G++[Im []])))}
 let x10:cV:= {x9 with beyond:=some (.d (.list (iL [rJ G T])))}
 let x11:cV:= {x10 with asked:=some (.c 2)}
 have e3:vo x3.loc []=some (.next,x4.loc,[]):=e3';have e4:xD x4.loc []=some (.next,x5.loc,[]):=st4 x4 T [];have e5:vJ x5.loc []=some (.next,x6.loc,[]):=st5 x5 T _ G [] (by lia) (by lia);have e6:vC x6.loc []=some (.next,x7.loc,[.iter (iL (t6 cs T (d9 (aH.getD (et T) []) G++[0]++[rJ G T])))]):=st6 x6 cs _ T (rJ G T) [] hcs (by refine rB hN ?_;lia);have e7:wH x7.loc [.iter (iL (t6 cs T (d9 (aH.getD (et T) []) G++[0]++[rJ G T])))]=some (.next,x8.loc,im (t6 cs T (d9 (aH.getD (et T) []) G++[0]++[rJ G T])) []):=st7 x7 _;have e8:Br x8.loc (im (t6 cs T (d9 (aH.getD (et T) []) G++[0]++[rJ G T])) [])=some (.next,x9.loc,im os1 (d9 (aH.getD (et T) []) G++[0])):=st8 x8 T _ G _ os1 hG ht hR;have e9:wj x9.loc (im os1 (d9 (aH.getD (et T) []) G++[0]))=some (.next,x10.loc,im [] (d9 (aH.getD (et T) []) G++[0])):=st9 x9 T (rJ G T) p os1 _ hr;have e10:pV x10.loc (im [] (d9 (aH.getD (et T) []) G++[0]))=some (.next,x11.loc,FN (d9 (aH.getD (et T) []) G++[0]) (q8 (d9 (aH.getD (et T) []) G++[0]) (rJ G T))):=ao8 x10 _ (rJ G T);refine lC (ap9 x11 (d9 (aH.getD (et T) []) G++[0]) (rJ G T) T (q8 (d9 (aH.getD (et T) []) G++[0]) (rJ G T)) (FN (d9 (aH.getD (et T) []) G++[0]) (q8 (d9 (aH.getD (et T) []) G++[0]) (rJ G T))) (by refine rB hN ?_;lia) rfl rfl (by simp [q8])) λsy te e11'=>?_
 let x12:cV:= {x11 with symbol:=sy,tests:=te}
 obtain ⟨μ11,e11,hc11⟩:∃μ',p_ x11.loc (FN (d9 (aH.getD (et T) []) G++[0]) (q8 (d9 (aH.getD (et T) []) G++[0]) (rJ G T)))=some (.next,x12.loc,μ')∧μ'[2]? =some (.live (q8 (d9 (aH.getD (et T) []) G++[0]) (rJ G T)++(zP (d9 (aH.getD (et T) []) G++[0]) (rJ G T) T).map yo)):=(aZ _ e11' (cz (by simp [FN])));obtain ⟨ρ',μ',e⟩:=Zb x12 hcs hG ht hc11 (λy hy=>by
  rw [AZ] at hy
  rcases hy with hy|hy
  ·simp only [q8,C1,E4,or_false] at hy
   rcases hy with rfl|rfl
   ·exact dK (n:=1) (r6 _) (by decide)
   ·exact dK (n:=1) (r6 _) (by decide)
  ·refine au (DT.mp hy) λs zz zq2=>?_
   subst zq2;exact Gm s) (by
  refine rA be ?_;refine rA (xJ _) ?_;rw [zP];refine rB hN ?_
  simp [q8]
  lia)
 refine kG ?_;refine (jK ρ' μ' ?_);refine (?_:Wv x0.loc []=_);unfold Wv;exact (aB e0).trans ((aB e1).trans ((aB e2).trans ((aB e3).trans ((aB e4).trans ((aB e5).trans ((aB e6).trans ((aB e7).trans ((aB e8).trans ((aB e9).trans ((aB e10).trans ((aB e11).trans e)))))))))))
end Mine
open PySem PySem.W PyProof.Rows PySem.Calls
theorem PySem.Challenge.cw_tc0015_01_holds : PySem.Challenge.rw_tc0015_01.Holds :=
  Mine.hd2 (by
  intro w s₀ s₁ mg mb G Y fa o pm cd doc dV kV ho hd hcd hD hmg hg args vals as hpre hlay hrd hwl hlo;have X : Mine.ZX mg s₁.heap := Ground.X G;refine Ground.open G ?_;intro T B D TE TW
  wrow_args hpre hlay hrd hwl hlo
  rename Well _ _ (Value.ref _) (ofPy (PyData.list (List.map PyData.int _))) => hw
  rename ¬ ((63 : Int) < _) => hlen
  rename List Int => xs
  clear hd hD hcd G
  let C : Mine.gK := { prog := Mine.RR.prog, w := w, B := s₁.heap, os := s₁.os, mg := mg, mb := mb, g := T.g, b := T.b, bt := T.builtins, nolim := T.nolimit }
  have hlaw : Mine.di C "law" 73 := Mine.fnAt_of (C := C) T 73 "law" ∅
  have F : Mine.Qi C := ⟨Mine.fnAt_of (C := C) T 1 "_iter_escaped_chars" ∅, Mine.fnAt_of (C := C) T 2 "_strip_quoted_realnames" ∅, Mine.fnAt_of (C := C) T 3 "_check_parenthesis" ∅, Mine.fnAt_of (C := C) T 4 "_pre_parse_validation" ∅, Mine.fnAt_of (C := C) T 7 "pretty_flags" ∅, Mine.fnAt_of (C := C) T 8 "_parse_varint" ∅, Mine.fnAt_of (C := C) T 61 "ISTERMINAL" ∅, Mine.fnAt_of (C := C) T 62 "ISNONTERMINAL" ∅, Mine.fnAt_of (C := C) T 63 "ISEOF" ∅, Mine.fnAt_of (C := C) T 65 "_law_numbers" ∅, Mine.fnAt_of (C := C) T 66 "_law_octets" ∅, Mine.fnAt_of (C := C) T 67 "_law_units" ∅, Mine.fnAt_of (C := C) T 68 "_law_formula" ∅, Mine.fnAt_of (C := C) T 69 "_law_beyond" ∅, Mine.fnAt_of (C := C) T 70 "_law_proved" ∅, Mine.fnAt_of (C := C) T 71 "_law_graph" ∅, Mine.fnAt_of (C := C) T 72 "_law_joined" ∅⟩;have hno := Mine.noneOf (C := C) T (["len", "min", "range", "enumerate", "zip", "list", "sum", "iter", "next", "sorted", "isinstance", "hex", "int", "bool", "StopIteration"] : List Str) (by decide +kernel);have hm2 := Mine.mg_of2 X.2;have GG : Mine.cI C := ⟨hno, Mine.ext2 (C := C) Y hm2.1, Mine.cfn2 (C := C) Y hm2.2, Mine.constOf (C := C) T _ 256 ∅, Mine.constOf (C := C) T _ 0 ∅⟩;have hI : Mine.bl C [] [] [] s₁ := ⟨fun _ _ e => e, rfl, fun i a c e _ => by simp at e, List.nodup_nil, fun a h => by simp at h, fun a h => by simp at h, fun a h => by simp at h, fun a h => by simp at h, .of_eq hg, rfl⟩;obtain ⟨fa', o', pm', cd', doc', m1, m2, m3, m4⟩ := hlaw;obtain ⟨ρ', μ', hp⟩ := Mine.plain_law xs (by omega);have hfa : fa' = fa := by
    have := hmg;have m1' : mg "law" = some (.ref fa') := m1;rw [show Mine.dd.1.name = ("law" : Str) from ∅, m1'] at this
    cases this; rfl
  subst hfa;refine wpAny_mono (Mine.law_call (C := C) GG F m2 m3 m4 hI (Mine.well_list hw) hp) (fun v s' p => ?_) (fun _ _ x => x);obtain ⟨rfl, k1, k2, k3⟩ := p;refine ⟨.inl ⟨_, _, [], rfl, ?_, ReadsW.bool true, ?_, fun _ => ⟨List.nodup_nil, fun _ hm => (nomatch hm)⟩⟩, OldK.of_keep k1, k2, k3⟩
  · intro cls
    rfl
  · wrow_post)
