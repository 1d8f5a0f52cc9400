import PyProof.Rows.All
import Wide.All
import OpenK.AllK
import Wide.FinOn
import PySem.Challenge.RW_tc0015_01
set_option Elab.async false
set_option maxRecDepth 100000
set_option maxHeartbeats 8000000
set_option linter.all false
set_option tactic.hygienic false
noncomputable section
local macro_rules | `(∅) => `(by kernel_rfl)
open List renaming length_append→be,length_map→xP,mem_append_left→yx,range→zC,mem_singleton→AA,mem_append→AF,length_cons→AH,all_eq_true→AP,getElem?_eq_some_iff→AX,mem_cons→Cp,mem_append_right→CO,mem_cons_of_mem→CQ,mem_range→D2,append_nil→D8,mem_map→Dc,not_mem_nil→Ew,append_assoc→ER,length_nil→EZ,map_map→E_,map_cons→F9,getElem?_append_left→Fb,range'→Fh,take_of_length_le→Fj,flatMap_cons→Ft,getElem?_eq_getElem→Fu,mem_cons_self→Gi,map_congr_left→GN,mem_of_getElem?→GR,getElem?_map→GW,length_singleton→H0,flatten_cons→H9,replicate→Hp,getElem?_eq_none_iff→Hy,length_filter_le→HA,set_set→HQ,getElem?_append_right→II,length_range→J4,map_append→JV,nodup_cons→KF,filter_cons→KP,filter_append→L3,cons_append→L7,length_range'→Lh,mem_flatMap→Lk,length_replicate→Lq,nil_append→Lr,getElem?_set_ne→Lw,range_eq_range'→Lx,length_set→LD,flatten_append→LK,range_succ_eq_map→LN,getD_eq_getElem?_getD→LQ,length_take→LU,take_length→LW,flatten_nil→LX,take_append_drop→L_,map_nil→M3,pairwise_iff_getElem→M4,filterMap_cons_some→M6,find?_cons→Mi,all_cons→Mp,getElem?_zipWith_eq_some→Mq,take_append_of_le_length→Mu,drop_eq_nil_of_le→Mx,getElem?_set_self→My,pairwise_cons→ML,contains_eq_mem→N3,nodup_nil→N5,drop_eq_getElem_cons→Nh,mem_of_find?_eq_some→Nn,lookup_cons→NA,drop_append→ND,replicate_succ→NE,length→NL,filterMap_cons→NT,getElem?_range→NZ,map_eq_nil_iff→O4,getElem?_cons_succ→Oe,mem_filter→Ov,mem_filterMap→Ox,length_eq_zero_iff→OD,filter_map→OG,size_toArray→P2,mem_range'_1→P7,take_left→Pd,lookup_cons_self→Pj,getElem?_eq_none→Pl,sum_cons→PA,mem_map_of_mem→PE,set_cons_succ→PW,getElem?_drop→Q0,drop_left→Qi,sublist_append_right→Qk,getElem?_set→Qp,filterMap_cons_none→Qv,nodup_append→QK,getElem?_take_of_lt→QM,getElem?_replicate→R5,set_comm→Rb,map_take→Rh,length_drop→Rr,range'_succ→Rw,getElem_cons_drop→RI,zipWith→RM,singleton_append→RX,sum_append→S9,sum_nil→Sb,all_append→Se,set_append_left→Sv,drop_zero→SC,length_zipWith→SN,set_cons_zero→T3,drop→Tf,map_drop→To,all_eq_false→TH,ext_getElem?→TM,map_id'→TT,mem_flatten→T_,isEmpty_iff→U1,getElem_mem→U2,forIn_cons→U9,head?_drop→Ui,append_inj→Uq,drop_drop→Uv
open Nat renaming le_of_ble_eq_true→xM,le_refl→Dj,le_add_right→Fv,add_sub_cancel_left→L0,le_trans→L2,zero_add→LB,zero_le→LJ,le_of_not_lt→LS,ne_of_lt→LY,succ_ne_self→No,lt_of_lt_of_le→Oq,le_succ→P3,lt_succ_of_lt→P5,lor→Ps,ne_of_gt→PY,pow_succ→Q2,beq→Qj,lt_trichotomy→QD,add_assoc→Rd,lt_succ_self→Rq,div_div_eq_div_mul→RH,min_eq_left→RQ,sub_zero→Sc,pow_le_pow_right→Su,succ_eq_add_one→T2,le_of_eq→TN,pow_zero→TU,add_zero→TV,min_le_left→Uk,two_pow_pos→Ur,mod→Vf,succ→Vi
open PySem renaming wpAny_bind→zm,wpAny_mono→D1,wpAny_pure→EY,wpAny_newObj_type→Il,wpAny_callSpecial?_slot→Jq,wpAny_execs_cons→KL,wpAny_field→L1,seg_execs_cons→L6,wpAny_holding→Lc,slot_listiter_next→Ld,wpAny_call_entry→Lj,wpAny_standAt→Ln,wpAny_specialOf→LG,wpAny_pyIter_list→M8,wpAny_Assign_Name→M9,wpAny_of_eq→Mm,wpAny_seqItems→Na,wpAny_raiseNew_none→NO,wpAny_rule→O6,wpAny_updateSeq→Ok,wpAny_setField_rec→Op,wpAny_truthy_bool→P1,wpAny_setField→P8,wpAny_storeName_local→Pe,wpAny_pyIter_zip→Pq,wpAny_loadName_local→Pt,wpAny_pyNext_list_end→PD,entry_listiter_next→PS,wpAny_letOwnedTupleGo_enum→PV,args_listiter_next→P_,wpAny_letOwnedTupleGo_zip→Qb,slot_list_getitem→Qr,wpAny_getItem_list_slice→QB,wpAny_pyIter_enum→QG,wpAny_assign_Name→QJ,getMethod_builtin→QN,wpAny_list_append_plain→QW,Builtin→R8,wpAny_isInstance→Rj,wpAny_pyNext_list_item→Rx,wpAny_isTrue_Compare1→RK,wpAny_execs_nil→RS,seg_wrap→Sh,wpAny_newFunctionEnv→Sk,baseText→Sy,isSubtype_stop→SA,isSubtype_type→SG,wpAny_letGo→SP,wpAny_onRaise→Ta,wpAny_attempt→Tc,seg_again→Uh,wpAny_Name→UH,call_meets→UN
open PySem.Heap renaming get?_push_of_some→B8,get?_push_size→D5,get?_update_self→Fw,SameBut→Lp,size_push→M5,lt_size→Mk,ExtBut→P4,MadeExcOf→Qg,get?_update_other→Rz,HeldW→Tz,IsList→Ue,get?→V9
open PySem.Builtin renaming bitAnd→D3,bitXor→It,bitOr→Mo
open Eq renaming symm→F6,trans→LM
open PySem.PyData renaming int→Fa,tuple→Jy,canLayAll0→La,str→Lv,eqv→Mv,list→NU,canLay0→Qd,strOk→TQ,depth→TS,depthAll→Uu,eqvAll→UW
open Bool renaming and_eq_true→Fe,false_ne_true→HJ,not_eq_true'→MV,false_eq_true→Oz,false_or→Pz,or_eq_true→PN,eq_iff_iff→PU,true_and→QU,not_true→Re,not_false→Ux,or_false→UU
open PySem.Calls renaming Name_function_global→Fg,loadGlobal_global→Ll,loadGlobal_builtin→Lu,callWith_function→MU,docDef→O9,callWith_builtin→OW,call_function_entry→PR,spliced_cons→RL,evalArgs_plain→Sw,spliced_nil→SJ
open Option.some renaming inj→Fi
open Int renaming fmod_nonneg_of_pos→Fp,toNat_natCast→Fs,fmod_lt_of_pos→Ip,eq_ofNat_of_zero_le→Lg,toNat_of_nonneg→LL
open PySem.Builtin.Int renaming intBits→HL
open Option renaming map_eq_some_iff→Iq,bind_eq_some_iff→KT,elim→SW
open PySem.Env renaming kindOf→JH
open PySem.Builtin.Str renaming strSliceIndices→JM,occurrences→Lz,partsBetween→Od,strSub→OS,strKind→SV
open PySem.F renaming slot_str_join→JZ,type_str_join→Km,plain_extend_loop→NS,slot_str_ascii_iterator_next→Pk,slot_list_extend→QF,slot_str_iterator_next→QP,plainAttrs_str→Ry,slot_enumerate_next→RU,entry_extend_loop→SR
open PySem.Str renaming ofString→Ku,cps_append→P9,join→U7,ext'→UV
open PySem.Builtin.Range renaming small→KH,rangeSize→Mn
open PySem.Builtin.SmallTypes renaming nextOf→L5,ownedTupleHandOut→Nd,ownedTupleIsFree→NI,stopIteration→OU
open PySem.Heap.SameBut renaming update→L9
open Array renaming getElem?_toList→Lb,getElem?_eq_some_iff→LO,getElem?_setIfInBounds_ne→Mc,getElem?_eq_getElem→Nl,toList_append→PC,mem_toList_iff→So,find?_toList→Tg,toList_push→Tu
open PySem.Obj renaming data_mapFields→Lf,isFreed_of_fields→M0,mapSeq→M7,cls_mapFields→Tw
open PySem.Value renaming none→Lm,ref→LH,isInt→PT,isStrOf→QS,type→Tx,str→V8
open PySem.Challenge renaming rw_tc0015_01→Ly,pw_tc0015_01→MH
open PySem.Txt renaming join→LA,split→PP
open PySem.Sem renaming bind_eq_wrap'→LC,wrap_wrap→MW,bind_eq_wrap→TY,wrap→UP
open ForInStep renaming yield→LI
open PySem.NameKind renaming free→LZ,cell→Ot
open Ne renaming symm→MO
open PySem.Builtin.List renaming listExtendWith→MS,listTooLong→Qn,listSameRef→QQ,listItems→RB
open Function renaming comp_def→N0
open PySem.Around renaming frames_deeper→Pw,under_plainId→Sm
open PySem.Heap.IsSliceOf renaming new→PX
open PyProof.Rows renaming assignInOrder_cons→PZ,MethodCall_→QV,tail_any→Sg,slot_tuple_getitem→T4,assign_Tuple_tuple→Td,Subscript_→Ts,isTrue_and→UI
open PySem.SeqAt renaming in_list_reads→Q3,shaped→Sf,eqv_refl→Uz
open PySem.Builtin.Generator renaming genWake→Qf
open List.Sublist renaming refl→QR,append→SY,nodup→Te
open Prod.mk renaming injEq→QT
open PySem.Shared renaming heap→QX
open Classical renaming propDecidable→Q_,em→U_
open PySem.Heap.UpToSlots renaming of_keeps→Ra
open PySem.StrLaws renaming partsBetween_eq→Rf,glued_eq_join→S8,At→Sj,partsFrom→TG
open PySem.Heap.IsList renaming push→Rn
open Prod renaming fst→U3,snd→U6
open And renaming intro→Uf
open List.cons renaming injEq→Up,inj→UO
open PySem.IsRange renaming new→Ve
namespace Mine
open PySem PySem.W PySem.Calls PyProof.Rows
universe u0 u1 u2 u3 u4 u5 u6 u7 u8 u9
section
variable{X0:Sort u0}{X1:Sort u1}{X2:Sort u2}{X3:Sort u3}{X4:Sort u4}{X5:Sort u5}{A0 A1 A2 A3 A4 A5 A6 A7 A8 A9 A10 A11 A12 A13 R G:Prop}
theorem f_(h:A0∧R)(k:A0→R→G):G:=by obtain ⟨h0,hr⟩:=h;exact k h0 hr
theorem dW(h:A0∧A1∧R)(k:A0→A1→R→G):G:=by obtain ⟨h0,h1,hr⟩:=h;exact k h0 h1 hr
theorem mm(h:A0∧A1∧A2∧R)(k:A0→A1→A2→R→G):G:=by obtain ⟨h0,h1,h2,hr⟩:=h;exact k h0 h1 h2 hr
theorem ig(h:A0∧A1∧A2∧A3∧R)(k:A0→A1→A2→A3→R→G):G:=by obtain ⟨h0,h1,h2,h3,hr⟩:=h;exact k h0 h1 h2 h3 hr
theorem mP(h:A0∧A1∧A2∧A3∧A4∧A5∧R)(k:A0→A1→A2→A3→A4→A5→R→G):G:=by obtain ⟨h0,h1,h2,h3,h4,h5,hr⟩:=h;exact k h0 h1 h2 h3 h4 h5 hr
theorem J6{A5 R:X0→X1→Prop}(h:A0∧A1∧A2∧∃x0 x1,A5 x0 x1∧R x0 x1)(k:A0→A1→A2→∀x0 x1,A5 x0 x1→R x0 x1→G):G:=by obtain ⟨h0,h1,h2,x0,x1,h5,hr⟩:=h;exact k h0 h1 h2 x0 x1 h5 hr
theorem uF{R:X0→X1→Prop}(h:A0∧A1∧∃x0 x1,R x0 x1)(k:A0→A1→∀x0 x1,R x0 x1→G):G:=by obtain ⟨h0,h1,x0,x1,hr⟩:=h;exact k h0 h1 x0 x1 hr
theorem pc{R:X0→X1→X2→Prop}(h:A0∧A1∧∃x0 x1 x2,R x0 x1 x2)(k:A0→A1→∀x0 x1 x2,R x0 x1 x2→G):G:=by obtain ⟨h0,h1,x0,x1,x2,hr⟩:=h;exact k h0 h1 x0 x1 x2 hr
theorem yU{R:X0→Prop}(h:A0∧∃x0,R x0)(k:A0→∀x0,R x0→G):G:=by obtain ⟨h0,x0,hr⟩:=h;exact k h0 x0 hr
theorem im{A2 R:X0→Prop}(h:A0∧∃x0,A2 x0∧R x0)(k:A0→∀x0,A2 x0→R x0→G):G:=by obtain ⟨h0,x0,h2,hr⟩:=h;exact k h0 x0 h2 hr
theorem Uj{A3 R:X0→X1→Prop}(h:A0∧∃x0 x1,A3 x0 x1∧R x0 x1)(k:A0→∀x0 x1,A3 x0 x1→R x0 x1→G):G:=by obtain ⟨h0,x0,x1,h3,hr⟩:=h;exact k h0 x0 x1 h3 hr
theorem NJ{A3 A4 R:X0→X1→Prop}(h:A0∧∃x0 x1,A3 x0 x1∧A4 x0 x1∧R x0 x1)(k:A0→∀x0 x1,A3 x0 x1→A4 x0 x1→R x0 x1→G):G:=by obtain ⟨h0,x0,x1,h3,h4,hr⟩:=h;exact k h0 x0 x1 h3 h4 hr
theorem ED{A4 A5 A6 R:X0→X1→X2→Prop}(h:A0∧∃x0 x1 x2,A4 x0 x1 x2∧A5 x0 x1 x2∧A6 x0 x1 x2∧R x0 x1 x2)(k:A0→∀x0 x1 x2,A4 x0 x1 x2→A5 x0 x1 x2→A6 x0 x1 x2→R x0 x1 x2→G):G:=by obtain ⟨h0,x0,x1,x2,h4,h5,h6,hr⟩:=h;exact k h0 x0 x1 x2 h4 h5 h6 hr
theorem bP{R:X0→Prop}(h:∃x0,R x0)(k:∀x0,R x0→G):G:=by obtain ⟨x0,hr⟩:=h;exact k x0 hr
theorem au{A1 R:X0→Prop}(h:∃x0,A1 x0∧R x0)(k:∀x0,A1 x0→R x0→G):G:=by obtain ⟨x0,h1,hr⟩:=h;exact k x0 h1 hr
theorem cq{A1 A2 R:X0→Prop}(h:∃x0,A1 x0∧A2 x0∧R x0)(k:∀x0,A1 x0→A2 x0→R x0→G):G:=by obtain ⟨x0,h1,h2,hr⟩:=h;exact k x0 h1 h2 hr
theorem eA{A1 A2 A3 R:X0→Prop}(h:∃x0,A1 x0∧A2 x0∧A3 x0∧R x0)(k:∀x0,A1 x0→A2 x0→A3 x0→R x0→G):G:=by obtain ⟨x0,h1,h2,h3,hr⟩:=h;exact k x0 h1 h2 h3 hr
theorem JD{A1 A2 A3 A4 A5 R:X0→Prop}(h:∃x0,A1 x0∧A2 x0∧A3 x0∧A4 x0∧A5 x0∧R x0)(k:∀x0,A1 x0→A2 x0→A3 x0→A4 x0→A5 x0→R x0→G):G:=by obtain ⟨x0,h1,h2,h3,h4,h5,hr⟩:=h;exact k x0 h1 h2 h3 h4 h5 hr
theorem KA{A1 A2 A3:X0→Prop}{A5 R:X0→X1→Prop}(h:∃x0,A1 x0∧A2 x0∧A3 x0∧∃x1,A5 x0 x1∧R x0 x1)(k:∀x0,A1 x0→A2 x0→A3 x0→∀x1,A5 x0 x1→R x0 x1→G):G:=by obtain ⟨x0,h1,h2,h3,x1,h5,hr⟩:=h;exact k x0 h1 h2 h3 x1 h5 hr
theorem Al{A1 A2:X0→Prop}{R:X0→X1→Prop}(h:∃x0,A1 x0∧A2 x0∧∃x1,R x0 x1)(k:∀x0,A1 x0→A2 x0→∀x1,R x0 x1→G):G:=by obtain ⟨x0,h1,h2,x1,hr⟩:=h;exact k x0 h1 h2 x1 hr
theorem lz{R:X0→X1→Prop}(h:∃x0 x1,R x0 x1)(k:∀x0 x1,R x0 x1→G):G:=by obtain ⟨x0,x1,hr⟩:=h;exact k x0 x1 hr
theorem kc{A2 R:X0→X1→Prop}(h:∃x0 x1,A2 x0 x1∧R x0 x1)(k:∀x0 x1,A2 x0 x1→R x0 x1→G):G:=by obtain ⟨x0,x1,h2,hr⟩:=h;exact k x0 x1 h2 hr
theorem bm{A2 A3 R:X0→X1→Prop}(h:∃x0 x1,A2 x0 x1∧A3 x0 x1∧R x0 x1)(k:∀x0 x1,A2 x0 x1→A3 x0 x1→R x0 x1→G):G:=by obtain ⟨x0,x1,h2,h3,hr⟩:=h;exact k x0 x1 h2 h3 hr
theorem kZ{A2 A3 A4 R:X0→X1→Prop}(h:∃x0 x1,A2 x0 x1∧A3 x0 x1∧A4 x0 x1∧R x0 x1)(k:∀x0 x1,A2 x0 x1→A3 x0 x1→A4 x0 x1→R x0 x1→G):G:=by obtain ⟨x0,x1,h2,h3,h4,hr⟩:=h;exact k x0 x1 h2 h3 h4 hr
theorem D6{A2 A3 A4 A5 A6 R:X0→X1→Prop}(h:∃x0 x1,A2 x0 x1∧A3 x0 x1∧A4 x0 x1∧A5 x0 x1∧A6 x0 x1∧R x0 x1)(k:∀x0 x1,A2 x0 x1→A3 x0 x1→A4 x0 x1→A5 x0 x1→A6 x0 x1→R x0 x1→G):G:=by obtain ⟨x0,x1,h2,h3,h4,h5,h6,hr⟩:=h;exact k x0 x1 h2 h3 h4 h5 h6 hr
theorem jH{R:X0→X1→X2→Prop}(h:∃x0 x1 x2,R x0 x1 x2)(k:∀x0 x1 x2,R x0 x1 x2→G):G:=by obtain ⟨x0,x1,x2,hr⟩:=h;exact k x0 x1 x2 hr
theorem fE{A3 R:X0→X1→X2→Prop}(h:∃x0 x1 x2,A3 x0 x1 x2∧R x0 x1 x2)(k:∀x0 x1 x2,A3 x0 x1 x2→R x0 x1 x2→G):G:=by obtain ⟨x0,x1,x2,h3,hr⟩:=h;exact k x0 x1 x2 h3 hr
theorem jy{A3 A4 R:X0→X1→X2→Prop}(h:∃x0 x1 x2,A3 x0 x1 x2∧A4 x0 x1 x2∧R x0 x1 x2)(k:∀x0 x1 x2,A3 x0 x1 x2→A4 x0 x1 x2→R x0 x1 x2→G):G:=by obtain ⟨x0,x1,x2,h3,h4,hr⟩:=h;exact k x0 x1 x2 h3 h4 hr
theorem dk{A3 A4 A5 R:X0→X1→X2→Prop}(h:∃x0 x1 x2,A3 x0 x1 x2∧A4 x0 x1 x2∧A5 x0 x1 x2∧R x0 x1 x2)(k:∀x0 x1 x2,A3 x0 x1 x2→A4 x0 x1 x2→A5 x0 x1 x2→R x0 x1 x2→G):G:=by obtain ⟨x0,x1,x2,h3,h4,h5,hr⟩:=h;exact k x0 x1 x2 h3 h4 h5 hr
theorem i4{A3 A4 A5 A6 R:X0→X1→X2→Prop}(h:∃x0 x1 x2,A3 x0 x1 x2∧A4 x0 x1 x2∧A5 x0 x1 x2∧A6 x0 x1 x2∧R x0 x1 x2)(k:∀x0 x1 x2,A3 x0 x1 x2→A4 x0 x1 x2→A5 x0 x1 x2→A6 x0 x1 x2→R x0 x1 x2→G):G:=by obtain ⟨x0,x1,x2,h3,h4,h5,h6,hr⟩:=h;exact k x0 x1 x2 h3 h4 h5 h6 hr
theorem Iu{R:X0→X1→X2→X3→Prop}(h:∃x0 x1 x2 x3,R x0 x1 x2 x3)(k:∀x0 x1 x2 x3,R x0 x1 x2 x3→G):G:=by obtain ⟨x0,x1,x2,x3,hr⟩:=h;exact k x0 x1 x2 x3 hr
theorem qS{A4 A5 R:X0→X1→X2→X3→Prop}(h:∃x0 x1 x2 x3,A4 x0 x1 x2 x3∧A5 x0 x1 x2 x3∧R x0 x1 x2 x3)(k:∀x0 x1 x2 x3,A4 x0 x1 x2 x3→A5 x0 x1 x2 x3→R x0 x1 x2 x3→G):G:=by obtain ⟨x0,x1,x2,x3,h4,h5,hr⟩:=h;exact k x0 x1 x2 x3 h4 h5 hr
theorem nM{A4 A5 A6 R:X0→X1→X2→X3→Prop}(h:∃x0 x1 x2 x3,A4 x0 x1 x2 x3∧A5 x0 x1 x2 x3∧A6 x0 x1 x2 x3∧R x0 x1 x2 x3)(k:∀x0 x1 x2 x3,A4 x0 x1 x2 x3→A5 x0 x1 x2 x3→A6 x0 x1 x2 x3→R x0 x1 x2 x3→G):G:=by obtain ⟨x0,x1,x2,x3,h4,h5,h6,hr⟩:=h;exact k x0 x1 x2 x3 h4 h5 h6 hr
theorem oI{A4 A5 A6 A7 A8 R:X0→X1→X2→X3→Prop}(h:∃x0 x1 x2 x3,A4 x0 x1 x2 x3∧A5 x0 x1 x2 x3∧A6 x0 x1 x2 x3∧A7 x0 x1 x2 x3∧A8 x0 x1 x2 x3∧R x0 x1 x2 x3)(k:∀x0 x1 x2 x3,A4 x0 x1 x2 x3→A5 x0 x1 x2 x3→A6 x0 x1 x2 x3→A7 x0 x1 x2 x3→A8 x0 x1 x2 x3→R x0 x1 x2 x3→G):G:=by obtain ⟨x0,x1,x2,x3,h4,h5,h6,h7,h8,hr⟩:=h;exact k x0 x1 x2 x3 h4 h5 h6 h7 h8 hr
theorem ft{A5 A6 A7 R:X0→X1→X2→X3→X4→Prop}(h:∃x0 x1 x2 x3 x4,A5 x0 x1 x2 x3 x4∧A6 x0 x1 x2 x3 x4∧A7 x0 x1 x2 x3 x4∧R x0 x1 x2 x3 x4)(k:∀x0 x1 x2 x3 x4,A5 x0 x1 x2 x3 x4→A6 x0 x1 x2 x3 x4→A7 x0 x1 x2 x3 x4→R x0 x1 x2 x3 x4→G):G:=by obtain ⟨x0,x1,x2,x3,x4,h5,h6,h7,hr⟩:=h;exact k x0 x1 x2 x3 x4 h5 h6 h7 hr
theorem gB{A5 A6 A7 A8 A9 A10 R:X0→X1→X2→X3→X4→Prop}(h:∃x0 x1 x2 x3 x4,A5 x0 x1 x2 x3 x4∧A6 x0 x1 x2 x3 x4∧A7 x0 x1 x2 x3 x4∧A8 x0 x1 x2 x3 x4∧A9 x0 x1 x2 x3 x4∧A10 x0 x1 x2 x3 x4∧R x0 x1 x2 x3 x4)(k:∀x0 x1 x2 x3 x4,A5 x0 x1 x2 x3 x4→A6 x0 x1 x2 x3 x4→A7 x0 x1 x2 x3 x4→A8 x0 x1 x2 x3 x4→A9 x0 x1 x2 x3 x4→A10 x0 x1 x2 x3 x4→R x0 x1 x2 x3 x4→G):G:=by obtain ⟨x0,x1,x2,x3,x4,h5,h6,h7,h8,h9,h10,hr⟩:=h;exact k x0 x1 x2 x3 x4 h5 h6 h7 h8 h9 h10 hr
theorem jT{A5 A6 A7 A8 A9 A10 A11 R:X0→X1→X2→X3→X4→Prop}(h:∃x0 x1 x2 x3 x4,A5 x0 x1 x2 x3 x4∧A6 x0 x1 x2 x3 x4∧A7 x0 x1 x2 x3 x4∧A8 x0 x1 x2 x3 x4∧A9 x0 x1 x2 x3 x4∧A10 x0 x1 x2 x3 x4∧A11 x0 x1 x2 x3 x4∧R x0 x1 x2 x3 x4)(k:∀x0 x1 x2 x3 x4,A5 x0 x1 x2 x3 x4→A6 x0 x1 x2 x3 x4→A7 x0 x1 x2 x3 x4→A8 x0 x1 x2 x3 x4→A9 x0 x1 x2 x3 x4→A10 x0 x1 x2 x3 x4→A11 x0 x1 x2 x3 x4→R x0 x1 x2 x3 x4→G):G:=by obtain ⟨x0,x1,x2,x3,x4,h5,h6,h7,h8,h9,h10,h11,hr⟩:=h;exact k x0 x1 x2 x3 x4 h5 h6 h7 h8 h9 h10 h11 hr
theorem gX{A6 A7 A8 A9 R:X0→X1→X2→X3→X4→X5→Prop}(h:∃x0 x1 x2 x3 x4 x5,A6 x0 x1 x2 x3 x4 x5∧A7 x0 x1 x2 x3 x4 x5∧A8 x0 x1 x2 x3 x4 x5∧A9 x0 x1 x2 x3 x4 x5∧R x0 x1 x2 x3 x4 x5)(k:∀x0 x1 x2 x3 x4 x5,A6 x0 x1 x2 x3 x4 x5→A7 x0 x1 x2 x3 x4 x5→A8 x0 x1 x2 x3 x4 x5→A9 x0 x1 x2 x3 x4 x5→R x0 x1 x2 x3 x4 x5→G):G:=by obtain ⟨x0,x1,x2,x3,x4,x5,h6,h7,h8,h9,hr⟩:=h;exact k x0 x1 x2 x3 x4 x5 h6 h7 h8 h9 hr
theorem nX{A6 A7 A8 A9 A10 A11 A12 A13 R:X0→X1→X2→X3→X4→X5→Prop}(h:∃x0 x1 x2 x3 x4 x5,A6 x0 x1 x2 x3 x4 x5∧A7 x0 x1 x2 x3 x4 x5∧A8 x0 x1 x2 x3 x4 x5∧A9 x0 x1 x2 x3 x4 x5∧A10 x0 x1 x2 x3 x4 x5∧A11 x0 x1 x2 x3 x4 x5∧A12 x0 x1 x2 x3 x4 x5∧A13 x0 x1 x2 x3 x4 x5∧R x0 x1 x2 x3 x4 x5)(k:∀x0 x1 x2 x3 x4 x5,A6 x0 x1 x2 x3 x4 x5→A7 x0 x1 x2 x3 x4 x5→A8 x0 x1 x2 x3 x4 x5→A9 x0 x1 x2 x3 x4 x5→A10 x0 x1 x2 x3 x4 x5→A11 x0 x1 x2 x3 x4 x5→A12 x0 x1 x2 x3 x4 x5→A13 x0 x1 x2 x3 x4 x5→R x0 x1 x2 x3 x4 x5→G):G:=by obtain ⟨x0,x1,x2,x3,x4,x5,h6,h7,h8,h9,h10,h11,h12,h13,hr⟩:=h;exact k x0 x1 x2 x3 x4 x5 h6 h7 h8 h9 h10 h11 h12 h13 hr
theorem fu(h0:A0)(h1:A1)(hr:R):A0∧A1∧R:=⟨h0,h1,hr⟩
theorem ll(h0:A0)(h1:A1)(h2:A2)(hr:R):A0∧A1∧A2∧R:=⟨h0,h1,h2,hr⟩
theorem uJ(h0:A0)(h1:A1)(h2:A2)(h3:A3)(hr:R):A0∧A1∧A2∧A3∧R:=⟨h0,h1,h2,h3,hr⟩
theorem IA(h0:A0)(h1:A1)(h2:A2)(h3:A3)(h4:A4)(h5:A5)(hr:R):A0∧A1∧A2∧A3∧A4∧A5∧R:=⟨h0,h1,h2,h3,h4,h5,hr⟩
theorem Hm{A5 R:X0→X1→Prop}(h0:A0)(h1:A1)(h2:A2)(x0:X0)(x1:X1)(h5:A5 x0 x1)(hr:R x0 x1):A0∧A1∧A2∧∃x0 x1,A5 x0 x1∧R x0 x1:=⟨h0,h1,h2,x0,x1,h5,hr⟩
theorem j8{R:X0→Prop}(h0:A0)(x0:X0)(hr:R x0):A0∧∃x0,R x0:=⟨h0,x0,hr⟩
theorem gS{A2 R:X0→Prop}(h0:A0)(x0:X0)(h2:A2 x0)(hr:R x0):A0∧∃x0,A2 x0∧R x0:=⟨h0,x0,h2,hr⟩
theorem SU{A3 R:X0→X1→Prop}(h0:A0)(x0:X0)(x1:X1)(h3:A3 x0 x1)(hr:R x0 x1):A0∧∃x0 x1,A3 x0 x1∧R x0 x1:=⟨h0,x0,x1,h3,hr⟩
theorem MK{A3 A4 R:X0→X1→Prop}(h0:A0)(x0:X0)(x1:X1)(h3:A3 x0 x1)(h4:A4 x0 x1)(hr:R x0 x1):A0∧∃x0 x1,A3 x0 x1∧A4 x0 x1∧R x0 x1:=⟨h0,x0,x1,h3,h4,hr⟩
theorem aZ{A1 R:X0→Prop}(x0:X0)(h1:A1 x0)(hr:R x0):∃x0,A1 x0∧R x0:=⟨x0,h1,hr⟩
theorem cL{A1 A2 R:X0→Prop}(x0:X0)(h1:A1 x0)(h2:A2 x0)(hr:R x0):∃x0,A1 x0∧A2 x0∧R x0:=⟨x0,h1,h2,hr⟩
theorem d4{A1 A2 A3 R:X0→Prop}(x0:X0)(h1:A1 x0)(h2:A2 x0)(h3:A3 x0)(hr:R x0):∃x0,A1 x0∧A2 x0∧A3 x0∧R x0:=⟨x0,h1,h2,h3,hr⟩
theorem jj{A1 A2 A3:X0→Prop}{A5 R:X0→X1→Prop}(x0:X0)(h1:A1 x0)(h2:A2 x0)(h3:A3 x0)(x1:X1)(h5:A5 x0 x1)(hr:R x0 x1):∃x0,A1 x0∧A2 x0∧A3 x0∧∃x1,A5 x0 x1∧R x0 x1:=⟨x0,h1,h2,h3,x1,h5,hr⟩
theorem UG{A1 A2:X0→Prop}{R:X0→X1→Prop}(x0:X0)(h1:A1 x0)(h2:A2 x0)(x1:X1)(hr:R x0 x1):∃x0,A1 x0∧A2 x0∧∃x1,R x0 x1:=⟨x0,h1,h2,x1,hr⟩
theorem C1{A1 A2:X0→Prop}{R:X0→X1→X2→Prop}(x0:X0)(h1:A1 x0)(h2:A2 x0)(x1:X1)(x2:X2)(hr:R x0 x1 x2):∃x0,A1 x0∧A2 x0∧∃x1 x2,R x0 x1 x2:=⟨x0,h1,h2,x1,x2,hr⟩
theorem zj{A1:X0→Prop}{A5 A6 A7 R:X0→X1→X2→X3→Prop}(x0:X0)(h1:A1 x0)(x1:X1)(x2:X2)(x3:X3)(h5:A5 x0 x1 x2 x3)(h6:A6 x0 x1 x2 x3)(h7:A7 x0 x1 x2 x3)(hr:R x0 x1 x2 x3):∃x0,A1 x0∧∃x1 x2 x3,A5 x0 x1 x2 x3∧A6 x0 x1 x2 x3∧A7 x0 x1 x2 x3∧R x0 x1 x2 x3:=⟨x0,h1,x1,x2,x3,h5,h6,h7,hr⟩
theorem jK{R:X0→X1→Prop}(x0:X0)(x1:X1)(hr:R x0 x1):∃x0 x1,R x0 x1:=⟨x0,x1,hr⟩
theorem fV{A2 R:X0→X1→Prop}(x0:X0)(x1:X1)(h2:A2 x0 x1)(hr:R x0 x1):∃x0 x1,A2 x0 x1∧R x0 x1:=⟨x0,x1,h2,hr⟩
theorem dy{A2 A3 R:X0→X1→Prop}(x0:X0)(x1:X1)(h2:A2 x0 x1)(h3:A3 x0 x1)(hr:R x0 x1):∃x0 x1,A2 x0 x1∧A3 x0 x1∧R x0 x1:=⟨x0,x1,h2,h3,hr⟩
theorem ub{A2 A3 A4 R:X0→X1→Prop}(x0:X0)(x1:X1)(h2:A2 x0 x1)(h3:A3 x0 x1)(h4:A4 x0 x1)(hr:R x0 x1):∃x0 x1,A2 x0 x1∧A3 x0 x1∧A4 x0 x1∧R x0 x1:=⟨x0,x1,h2,h3,h4,hr⟩
theorem Eh{A2 A3 A4 A5 A6 R:X0→X1→Prop}(x0:X0)(x1:X1)(h2:A2 x0 x1)(h3:A3 x0 x1)(h4:A4 x0 x1)(h5:A5 x0 x1)(h6:A6 x0 x1)(hr:R x0 x1):∃x0 x1,A2 x0 x1∧A3 x0 x1∧A4 x0 x1∧A5 x0 x1∧A6 x0 x1∧R x0 x1:=⟨x0,x1,h2,h3,h4,h5,h6,hr⟩
theorem BA{A2 A3:X0→X1→Prop}{R:X0→X1→X2→Prop}(x0:X0)(x1:X1)(h2:A2 x0 x1)(h3:A3 x0 x1)(x2:X2)(hr:R x0 x1 x2):∃x0 x1,A2 x0 x1∧A3 x0 x1∧∃x2,R x0 x1 x2:=⟨x0,x1,h2,h3,x2,hr⟩
theorem Er{A2 A3:X0→X1→Prop}{R:X0→X1→X2→X3→X4→Prop}(x0:X0)(x1:X1)(h2:A2 x0 x1)(h3:A3 x0 x1)(x2:X2)(x3:X3)(x4:X4)(hr:R x0 x1 x2 x3 x4):∃x0 x1,A2 x0 x1∧A3 x0 x1∧∃x2 x3 x4,R x0 x1 x2 x3 x4:=⟨x0,x1,h2,h3,x2,x3,x4,hr⟩
theorem jI{R:X0→X1→X2→Prop}(x0:X0)(x1:X1)(x2:X2)(hr:R x0 x1 x2):∃x0 x1 x2,R x0 x1 x2:=⟨x0,x1,x2,hr⟩
theorem lw{A3 R:X0→X1→X2→Prop}(x0:X0)(x1:X1)(x2:X2)(h3:A3 x0 x1 x2)(hr:R x0 x1 x2):∃x0 x1 x2,A3 x0 x1 x2∧R x0 x1 x2:=⟨x0,x1,x2,h3,hr⟩
theorem p9{A3 A4 R:X0→X1→X2→Prop}(x0:X0)(x1:X1)(x2:X2)(h3:A3 x0 x1 x2)(h4:A4 x0 x1 x2)(hr:R x0 x1 x2):∃x0 x1 x2,A3 x0 x1 x2∧A4 x0 x1 x2∧R x0 x1 x2:=⟨x0,x1,x2,h3,h4,hr⟩
theorem dE{A3 A4 A5 R:X0→X1→X2→Prop}(x0:X0)(x1:X1)(x2:X2)(h3:A3 x0 x1 x2)(h4:A4 x0 x1 x2)(h5:A5 x0 x1 x2)(hr:R x0 x1 x2):∃x0 x1 x2,A3 x0 x1 x2∧A4 x0 x1 x2∧A5 x0 x1 x2∧R x0 x1 x2:=⟨x0,x1,x2,h3,h4,h5,hr⟩
theorem i7{A3 A4 A5 A6 R:X0→X1→X2→Prop}(x0:X0)(x1:X1)(x2:X2)(h3:A3 x0 x1 x2)(h4:A4 x0 x1 x2)(h5:A5 x0 x1 x2)(h6:A6 x0 x1 x2)(hr:R x0 x1 x2):∃x0 x1 x2,A3 x0 x1 x2∧A4 x0 x1 x2∧A5 x0 x1 x2∧A6 x0 x1 x2∧R x0 x1 x2:=⟨x0,x1,x2,h3,h4,h5,h6,hr⟩
theorem yl{R:X0→X1→X2→X3→Prop}(x0:X0)(x1:X1)(x2:X2)(x3:X3)(hr:R x0 x1 x2 x3):∃x0 x1 x2 x3,R x0 x1 x2 x3:=⟨x0,x1,x2,x3,hr⟩
theorem Py{A4 R:X0→X1→X2→X3→Prop}(x0:X0)(x1:X1)(x2:X2)(x3:X3)(h4:A4 x0 x1 x2 x3)(hr:R x0 x1 x2 x3):∃x0 x1 x2 x3,A4 x0 x1 x2 x3∧R x0 x1 x2 x3:=⟨x0,x1,x2,x3,h4,hr⟩
theorem qP{A4 A5 R:X0→X1→X2→X3→Prop}(x0:X0)(x1:X1)(x2:X2)(x3:X3)(h4:A4 x0 x1 x2 x3)(h5:A5 x0 x1 x2 x3)(hr:R x0 x1 x2 x3):∃x0 x1 x2 x3,A4 x0 x1 x2 x3∧A5 x0 x1 x2 x3∧R x0 x1 x2 x3:=⟨x0,x1,x2,x3,h4,h5,hr⟩
theorem E3{A4 A5 A6 R:X0→X1→X2→X3→Prop}(x0:X0)(x1:X1)(x2:X2)(x3:X3)(h4:A4 x0 x1 x2 x3)(h5:A5 x0 x1 x2 x3)(h6:A6 x0 x1 x2 x3)(hr:R x0 x1 x2 x3):∃x0 x1 x2 x3,A4 x0 x1 x2 x3∧A5 x0 x1 x2 x3∧A6 x0 x1 x2 x3∧R x0 x1 x2 x3:=⟨x0,x1,x2,x3,h4,h5,h6,hr⟩
theorem oG{A4 A5 A6 A7 A8 R:X0→X1→X2→X3→Prop}(x0:X0)(x1:X1)(x2:X2)(x3:X3)(h4:A4 x0 x1 x2 x3)(h5:A5 x0 x1 x2 x3)(h6:A6 x0 x1 x2 x3)(h7:A7 x0 x1 x2 x3)(h8:A8 x0 x1 x2 x3)(hr:R x0 x1 x2 x3):∃x0 x1 x2 x3,A4 x0 x1 x2 x3∧A5 x0 x1 x2 x3∧A6 x0 x1 x2 x3∧A7 x0 x1 x2 x3∧A8 x0 x1 x2 x3∧R x0 x1 x2 x3:=⟨x0,x1,x2,x3,h4,h5,h6,h7,h8,hr⟩
theorem ic{A5 A6 A7 R:X0→X1→X2→X3→X4→Prop}(x0:X0)(x1:X1)(x2:X2)(x3:X3)(x4:X4)(h5:A5 x0 x1 x2 x3 x4)(h6:A6 x0 x1 x2 x3 x4)(h7:A7 x0 x1 x2 x3 x4)(hr:R x0 x1 x2 x3 x4):∃x0 x1 x2 x3 x4,A5 x0 x1 x2 x3 x4∧A6 x0 x1 x2 x3 x4∧A7 x0 x1 x2 x3 x4∧R x0 x1 x2 x3 x4:=⟨x0,x1,x2,x3,x4,h5,h6,h7,hr⟩
theorem mG{A5 A6 A7 A8 A9 R:X0→X1→X2→X3→X4→Prop}(x0:X0)(x1:X1)(x2:X2)(x3:X3)(x4:X4)(h5:A5 x0 x1 x2 x3 x4)(h6:A6 x0 x1 x2 x3 x4)(h7:A7 x0 x1 x2 x3 x4)(h8:A8 x0 x1 x2 x3 x4)(h9:A9 x0 x1 x2 x3 x4)(hr:R x0 x1 x2 x3 x4):∃x0 x1 x2 x3 x4,A5 x0 x1 x2 x3 x4∧A6 x0 x1 x2 x3 x4∧A7 x0 x1 x2 x3 x4∧A8 x0 x1 x2 x3 x4∧A9 x0 x1 x2 x3 x4∧R x0 x1 x2 x3 x4:=⟨x0,x1,x2,x3,x4,h5,h6,h7,h8,h9,hr⟩
theorem j2{A5 A6 A7 A8 A9 A10 R:X0→X1→X2→X3→X4→Prop}(x0:X0)(x1:X1)(x2:X2)(x3:X3)(x4:X4)(h5:A5 x0 x1 x2 x3 x4)(h6:A6 x0 x1 x2 x3 x4)(h7:A7 x0 x1 x2 x3 x4)(h8:A8 x0 x1 x2 x3 x4)(h9:A9 x0 x1 x2 x3 x4)(h10:A10 x0 x1 x2 x3 x4)(hr:R x0 x1 x2 x3 x4):∃x0 x1 x2 x3 x4,A5 x0 x1 x2 x3 x4∧A6 x0 x1 x2 x3 x4∧A7 x0 x1 x2 x3 x4∧A8 x0 x1 x2 x3 x4∧A9 x0 x1 x2 x3 x4∧A10 x0 x1 x2 x3 x4∧R x0 x1 x2 x3 x4:=⟨x0,x1,x2,x3,x4,h5,h6,h7,h8,h9,h10,hr⟩
theorem iw{A5 A6 A7 A8 A9 A10 A11 R:X0→X1→X2→X3→X4→Prop}(x0:X0)(x1:X1)(x2:X2)(x3:X3)(x4:X4)(h5:A5 x0 x1 x2 x3 x4)(h6:A6 x0 x1 x2 x3 x4)(h7:A7 x0 x1 x2 x3 x4)(h8:A8 x0 x1 x2 x3 x4)(h9:A9 x0 x1 x2 x3 x4)(h10:A10 x0 x1 x2 x3 x4)(h11:A11 x0 x1 x2 x3 x4)(hr:R x0 x1 x2 x3 x4):∃x0 x1 x2 x3 x4,A5 x0 x1 x2 x3 x4∧A6 x0 x1 x2 x3 x4∧A7 x0 x1 x2 x3 x4∧A8 x0 x1 x2 x3 x4∧A9 x0 x1 x2 x3 x4∧A10 x0 x1 x2 x3 x4∧A11 x0 x1 x2 x3 x4∧R x0 x1 x2 x3 x4:=⟨x0,x1,x2,x3,x4,h5,h6,h7,h8,h9,h10,h11,hr⟩
theorem oU{A5 A6 A7 A8 A9 A10 A11 A12 R:X0→X1→X2→X3→X4→Prop}(x0:X0)(x1:X1)(x2:X2)(x3:X3)(x4:X4)(h5:A5 x0 x1 x2 x3 x4)(h6:A6 x0 x1 x2 x3 x4)(h7:A7 x0 x1 x2 x3 x4)(h8:A8 x0 x1 x2 x3 x4)(h9:A9 x0 x1 x2 x3 x4)(h10:A10 x0 x1 x2 x3 x4)(h11:A11 x0 x1 x2 x3 x4)(h12:A12 x0 x1 x2 x3 x4)(hr:R x0 x1 x2 x3 x4):∃x0 x1 x2 x3 x4,A5 x0 x1 x2 x3 x4∧A6 x0 x1 x2 x3 x4∧A7 x0 x1 x2 x3 x4∧A8 x0 x1 x2 x3 x4∧A9 x0 x1 x2 x3 x4∧A10 x0 x1 x2 x3 x4∧A11 x0 x1 x2 x3 x4∧A12 x0 x1 x2 x3 x4∧R x0 x1 x2 x3 x4:=⟨x0,x1,x2,x3,x4,h5,h6,h7,h8,h9,h10,h11,h12,hr⟩
theorem eQ{A6 A7 A8 A9 R:X0→X1→X2→X3→X4→X5→Prop}(x0:X0)(x1:X1)(x2:X2)(x3:X3)(x4:X4)(x5:X5)(h6:A6 x0 x1 x2 x3 x4 x5)(h7:A7 x0 x1 x2 x3 x4 x5)(h8:A8 x0 x1 x2 x3 x4 x5)(h9:A9 x0 x1 x2 x3 x4 x5)(hr:R x0 x1 x2 x3 x4 x5):∃x0 x1 x2 x3 x4 x5,A6 x0 x1 x2 x3 x4 x5∧A7 x0 x1 x2 x3 x4 x5∧A8 x0 x1 x2 x3 x4 x5∧A9 x0 x1 x2 x3 x4 x5∧R x0 x1 x2 x3 x4 x5:=⟨x0,x1,x2,x3,x4,x5,h6,h7,h8,h9,hr⟩
theorem nU{A6 A7 A8 A9 A10 A11 A12 A13 R:X0→X1→X2→X3→X4→X5→Prop}(x0:X0)(x1:X1)(x2:X2)(x3:X3)(x4:X4)(x5:X5)(h6:A6 x0 x1 x2 x3 x4 x5)(h7:A7 x0 x1 x2 x3 x4 x5)(h8:A8 x0 x1 x2 x3 x4 x5)(h9:A9 x0 x1 x2 x3 x4 x5)(h10:A10 x0 x1 x2 x3 x4 x5)(h11:A11 x0 x1 x2 x3 x4 x5)(h12:A12 x0 x1 x2 x3 x4 x5)(h13:A13 x0 x1 x2 x3 x4 x5)(hr:R x0 x1 x2 x3 x4 x5):∃x0 x1 x2 x3 x4 x5,A6 x0 x1 x2 x3 x4 x5∧A7 x0 x1 x2 x3 x4 x5∧A8 x0 x1 x2 x3 x4 x5∧A9 x0 x1 x2 x3 x4 x5∧A10 x0 x1 x2 x3 x4 x5∧A11 x0 x1 x2 x3 x4 x5∧A12 x0 x1 x2 x3 x4 x5∧A13 x0 x1 x2 x3 x4 x5∧R x0 x1 x2 x3 x4 x5:=⟨x0,x1,x2,x3,x4,x5,h6,h7,h8,h9,h10,h11,h12,h13,hr⟩
@[elab_as_elim] theorem cA {A:Type u0} {P:A→Prop} {a b:A} (h:some a=some b) (k:P a):P b:=by cases h;exact k
@[elab_as_elim] theorem cm {A:Type u0} {B:Type u1} {P:A→B→Prop} {a a':A} {b b':B} (h:some (a,b)=some (a',b')) (k:P a b):P a' b':=by cases h;exact k
@[elab_as_elim] theorem gj {A:Type u0} {B:Type u1} {D:Type u2} {P:A→B→D→Prop} {a a':A} {b b':B} {c c':D} (h:some (a,b,c)=some (a',b',c')) (k:P a b c):P a' b' c':=by cases h;exact k
theorem cv{A:Type u0}{a:A}(h:none=some a):G:=by cases h
@[elab_as_elim] theorem bH {A:Sort u0} {P:A→Prop} {a b:A} (h:a=b) (k:P a):P b:=h▸k
@[elab_as_elim] theorem rA {A:Sort u0} {P:A→Prop} {a b:A} (h:a=b) (k:P b):P a:=h▸k
@[elab_as_elim] theorem rB {A:Sort u0} {P:A→Prop} {a b:A} (h:b=a) (k:P b):P a:=h▸k
theorem eE{p:Prop}(h:∀q:Prop,(p→q)→q):p:=h p id
end
noncomputable def keep:List Nat:=[1,2,3,4,6,7,8]++Fh 10 54++Fh 65 9
noncomputable def vq:Program:=view MH keep
noncomputable def loose:List Str:=["COMPILER_FLAG_NAMES","EXACT_TOKEN_TYPES"]
noncomputable def Vq:List Str:=(["!","!=","%","%=","&","&=","(",")","*","**","**=","*=","+","+=",",","-","-=","->",".","...","/","//","//=","/=",":",":=",";","<","<<","<<=","<=","=","==",">",">=",">>",">>=","@","@=","[","]","^","^=","{","|","|=","}","~"]:List String).map Ku
noncomputable def tyV:Value→Option String
 | .type T=>some T
 |_=>none
noncomputable def GJ:Value→Option Str
 | .str x _=>some x
 |_=>none
noncomputable def O5:Value→Option Int
 | .int i _=>some i
 |_=>none
noncomputable def CV(e:DictEntry):Option (Int×Str):=(O5 e.key).bind λx=>(GJ e.val).bind λy=>if e.hash=hashInt x then some (x,y) else none
theorem FX{v:Value}{x:Str}(h:GJ v=some x):∃t,v=.str x t:=by cases v<;>first|exact cv h| (refine cA h ?_;exact ⟨_,rfl⟩)
theorem JB{v:Value}{x:Int}(h:O5 v=some x):∃t,v=.int x t:=by cases v<;>first|exact cv h| (refine cA h ?_;exact ⟨_,rfl⟩)
theorem ab9{v:Value}{x:String}(h:tyV v=some x):v=.type x:=by cases v<;>first|exact cv h| (refine cA h ?_;rfl)
noncomputable def Wj:Value→Option Addr
 | .ref a=>some a
 |_=>none
noncomputable def ad5:Data→Option (List DictEntry)
 | .dict es _=>some es.toList
 |_=>none
noncomputable def SD(h:Heap)(a:Addr):Option (List DictEntry):=(h.get? a).bind λo=>if tyV o.cls=some "dict"∧o.dict=none∧o.slots.size=0 then ad5 o.data else none
theorem VW{v:Data}{l:List DictEntry}(h:ad5 v=some l):∃es n,v=.dict es n∧es.toList=l:=by cases v<;>first|exact cv h| (refine cA h ?_;exact ⟨_,_,rfl,rfl⟩)
theorem Zm{o:Obj}{c:Value}{d:Option Addr}{D:Data}(h1:o.cls=c)(h2:o.dict=d)(h3:o.data=D)(h4:o.slots= #[]):o=⟨c,d,D,#[]⟩:=by subst h1 h2 h3;rw [←h4]
theorem wb{h:Heap}{a:Addr}{l:List DictEntry}(e:SD h a=some l):∃es n,h.get? a=some ⟨.type "dict",none,.dict es n,#[]⟩∧es.toList=l:=by
 obtain ⟨o,e1,e2⟩:=KT.mp e
 by_cases q:tyV o.cls=some "dict"∧o.dict=none∧o.slots.size=0
 ·obtain ⟨es,n,ed,el⟩:=VW ((if_pos q).symm.trans e2)
  exact ⟨es,n,e1.trans (congrArg some (Zm (ab9 q.1) q.2.1 ed (Array.eq_empty_of_size_eq_zero q.2.2))),el⟩
 ·exact cv ((if_neg q).symm.trans e2)
theorem vy{h h':Heap}{a:Addr}{l:List DictEntry}(e:SD h a=some l)(k:∀b o,h.get? b=some o→h'.get? b=some o):SD h' a=some l:=by
 obtain ⟨o,e1,e2⟩:=KT.mp e;unfold SD;rw [k _ _ e1];exact e2
noncomputable def v1(l:List DictEntry):List (Option Str×Int):=l.map λe=>(GJ e.key,e.hash)
noncomputable def v2(l:List DictEntry):List (Option Int):=(["|","*","(",")"]:List Str).map λx=>((l.find? λe=>QS x e.key).map (·.val)).bind O5
noncomputable def k1(w:World):List (Option Str×Int):=Vq.map λx=>(some x,PyData.keyHash w.params x)
noncomputable def af9:List (Int×Str):=[(1,"OPTIMIZED"),(2,"NEWLOCALS"),(4,"VARARGS"),(8,"VARKEYWORDS"),(16,"NESTED"),(32,"GENERATOR"),(64,"NOFREE"),(128,"COROUTINE"),(256,"ITERABLE_COROUTINE"),(512,"ASYNC_GENERATOR")]
noncomputable def yf(s:Shared):=((SD s.heap 58).map λl=>(v1 l,v2 l),(SD s.heap 43).map λl=>l.map CV)
noncomputable def ya(w:World):=(some (k1 w,[some (18:Int),some 16,some 7,some 8]),some (af9.map some))
def Ap(w:World)(h:Heap):Prop:=∃l1 l2,SD h 58=some l1∧SD h 43=some l2∧v1 l1=k1 w∧v2 l1=[some 18,some 16,some 7,some 8]∧l2.map CV=af9.map some
theorem Ow(w:World)(s:Shared)(e:yf s=ya w):Ap w s.heap:=by
 have e1:=congrArg U3 e;have e2:=congrArg U6 e;obtain ⟨l1,a1,b1⟩:=Iq.mp e1;obtain ⟨l2,a2,b2⟩:=Iq.mp e2;exact ⟨l1,l2,a1,a2,congrArg U3 b1,congrArg U6 b1,b2⟩
theorem CS(w:World)(h h':Heap)(t:Ap w h)(k:∀b o,h.get? b=some o→h'.get? b=some o):Ap w h':=by
 obtain ⟨l1,l2,a1,a2,r⟩:=t;exact ⟨l1,l2,vy a1 k,vy a2 k,r⟩
noncomputable def mgB(mg:Str→Option Value):Bool:=(mg "EXACT_TOKEN_TYPES").bind Wj==some 58&&(mg "COMPILER_FLAG_NAMES").bind Wj==some 43
noncomputable def xt(s:Shared):Bool:=xlAt vq [] s&&recOk [] s&&mgB (s.heap.nsMap mainGlobals)
def YI(mg:Str→Option Value)(h:Heap):Prop:=XL vq [] mg h∧mgB mg=true
theorem ZN(s:Shared)(e:xt s=true):YI (s.heap.nsMap mainGlobals) s.heap:=by
 unfold xt at e
 rw [Fe,Fe] at e
 exact ⟨xl_of s e.1.1,e.2⟩
theorem N8(mg:Str→Option Value)(h h':Heap)(x:YI mg h)(k:∀b o,h.get? b=some o→h'.get? b=some o):YI mg h':=⟨XL.keeps mg h h' x.1 k,x.2⟩
theorem Ir{v:Option Value}{a:Addr}(e:v.bind Wj=some a):v=some (.ref a):=by
 obtain ⟨x,rfl,e⟩:=KT.mp e;cases x<;>first|exact cv e| (refine cA e ?_;rfl)
theorem mg_of2{mg:Str→Option Value}(e:mgB mg=true):mg "EXACT_TOKEN_TYPES"=some (.ref 58)∧mg "COMPILER_FLAG_NAMES"=some (.ref 43):=by
 unfold mgB at e
 rw [Fe,beq_iff_eq,beq_iff_eq] at e
 exact ⟨Ir e.1,Ir e.2⟩
theorem u_{v:Option Value}{i:Int}(e:v.bind O5=some i):∃t,v=some (.int i t):=by
 obtain ⟨x,rfl,e⟩:=KT.mp e;obtain ⟨t,q⟩:=JB e;exact ⟨t,congrArg some q⟩
def SM:Str:="law"
theorem KU:(defOf vq SM).isSome=true:= ∅
noncomputable def dd:DefRec×List (Str×Expr):=(defOf vq SM).get KU
theorem Zd:defOf vq SM=some (dd.1,dd.2):=(Option.some_get KU).symm
noncomputable abbrev P:=MH
section
variable {q:Program} {loose mods:List Str} {Xt:Shared→Bool}
noncomputable def Ht(q:Program)(s:Shared):=(seen ((recsOf q).map (·.name)) (ownsOf q) [] {s with gens:= #[]},s.heap.bltView,tabsOk q s)
noncomputable def AY(q:Program)(loose:List Str)(s:Shared):Bool:=s.heap.keysOk (looseW q loose) ((recsOf q).map (·.name)) ((litsOf q).map (·.1)) ((clssOf q (looseW q loose)).map (·.name))
noncomputable def A_(q:Program)(mods:List Str)(Xt:Shared→Bool)(s:Shared):Bool:=s.heap.accountedOkI mods&&s.heap.isNs mainGlobals&&s.heap.isNs builtinsNs&&tablesOk q s.heap&&Xt s&&(if true then s.gens.size==0 else !leftWithCleanup s.gens)
noncomputable def JG(q:Program)(loose:List Str)(s:Shared):=(pinSeenD q (drecsOf q) s,plainSeenE q (looseW q loose) s,plainSeenD q loose s,wideSeen q s,clsSeenW q loose s,yf s)
noncomputable abbrev okC{Y:Type}(q:Program)(loose:List Str)(y:Y):=(pinGoodD (drecsOf q),plainGoodE q (looseW q loose),plainGoodD q loose,wideGood q,clsGoodW q loose,y)
theorem QH{o:Option Shared}{y}(a:o.map (Ht q)=some (expectedOf q,bltViewBooted,true))(b:o.map (AY q loose)=some true)(d:o.map (A_ q mods Xt)=some true)(c:o.map (JG q loose)=some (okC q loose y)):
  o.map (λs=>(openSeen q loose mods Xt true s,yf s))=some (openGood q loose,y):=by
 cases o with
 |none=>exact cv a
 |some s=>
  have a:=Fi a;have b:AY q loose s=true:=Fi b;have d:A_ q mods Xt s=true:=Fi d;have c:=Fi c;unfold AY at b
  unfold A_ at d
  simp only [Ht,JG,okC,QT] at a c
  obtain ⟨a1,a2,a3⟩:=a;obtain ⟨c1,c2,c3,c4,c5,c6⟩:=c
  show some (openSeen q loose mods Xt true s,yf s)=_
  unfold openSeen openGood;rw [a1,a2,a3,b,QU,d,c1,c2,c3,c4,c5,c6]
end
noncomputable abbrev wR(w:World)(b:Bool):World:=w.withFollow "special-get-raises" b
noncomputable abbrev H1(w:World)(b:Bool):Option Shared:=openEnds treeTable P (wR w b) 4366
abbrev lA(w:World)(b:Bool):Prop:=(H1 w b).map (Ht vq)=some (expectedOf vq,bltViewBooted,true)
abbrev lB(w:World)(b:Bool):Prop:=(H1 w b).map (AY vq loose)=some true
abbrev lD(w:World)(b:Bool):Prop:=(H1 w b).map (A_ vq (importedModules P.main.body) xt)=some true
abbrev lC(w:World)(b:Bool):Prop:=(H1 w b).map (JG vq loose)=some (okC vq loose (ya (wR w b)))
theorem lAF(w:World):lA w false:= ∅
theorem lBF(w:World):lB w false:= ∅
theorem lDF(w:World):lD w false:= ∅
theorem lCF(w:World):lC w false:= ∅
theorem lAT(w:World):lA w true:= ∅
theorem lBT(w:World):lB w true:= ∅
theorem lDT(w:World):lD w true:= ∅
theorem lCT(w:World):lC w true:= ∅
abbrev RT(w:World)(b:Bool):Prop:=(H1 w b).map (λs=>(openSeen vq loose (importedModules P.main.body) xt true s,yf s))=some (openGood vq loose,ya (wR w b))
theorem af1(w:World):RT w false:=QH (lAF w) (lBF w) (lDF w) (lCF w)
theorem aa6(w:World):RT w true:=QH (lAT w) (lBT w) (lDT w) (lCT w)
theorem Zp:LeftO P vq loose xt yf ya 4366:=byRow2 "special-get-raises" (P:= λw=>(openEnds treeTable Mine.P w 4366).map (λs=>(openSeen vq loose (importedModules Mine.P.main.body) xt true s,yf s))=some (openGood vq loose,ya w)) af1 aa6
theorem Kl:Ly.wellSaid=true:= ∅
abbrev RR:=Ly.row
theorem NM:RR.toRowW.promised:=by w_witness2
theorem TK:RR.prog.theDef RR.name=some (dd.1.params,dd.1.body,dd.1.scope):= ∅
theorem ad6:kwWritten? dd.1.params.kwonlyargs dd.1.params.kw_defaults=some dd.2:= ∅
theorem W4:(chainsOk vq&&opensWell RR.prog&&(frees RR.toRowW&&RR.within.isEmpty))=true:= ∅
end Mine
namespace Mine
open PySem PySem.W PySem.Calls PyProof.Rows
variable {Cn D L TI TO a fa i1 i2 i3 z : Addr} {A : Around} {items zs : Array Value} {sh tup : Bool} {cenv env : Env} {mean : ExcName → Option Value} {e e1 e2 elt iter target test : Expr} {h h' : Heap} {y : Int} {M M' O T T' W wr α α' α1 α₀ : List Addr} {es : List Expr} {K cs ns os rest : List Int} {gi ls m ps : List Nat} {X acc acc' ds xs ys : List PyData} {body orelse : List Stmt} {vs : List Value} {b i j ja jt k kk low mask n p q tk : Nat} {o : Obj} {op : Operator} {hi lo : Option Expr} {gg : Option Nat} {apos pos px py sp tp xp : Pos} {prog : Program} {G : Prop} {d : PyData} {sc scope : Scope} {s s' s'' s1 s₀ : Shared} {st : Stmt} {name x : Str} {u : Tok} {cd cls doc fv it pm v : Value} {E Q : Value → Shared → Prop} {w : World}
def g7(W:List Addr)(h h':Heap):Prop:=∀b o,h.get? b=some o→(b∈W→False)→h'.get? b=some o
theorem g7.refl(W:List Addr)(h:Heap):g7 W h h:= λzz zz e zz=>e
theorem g7.of_keeps(hk:∀b o,h.get? b=some o→h'.get? b=some o):g7 W h h':= λb o e zz=>hk b o e
theorem g7.mono{W':List Addr}(x:g7 W h h')(hs:∀a∈W,a∈W'∨h.get? a=none):g7 W' h h':= λb o e ht=>x b o e λhb=>by
 rcases hs b hb with q|q
 ·exact ht q
 ·rw [e] at q;exact cv (F6 q)
theorem g7.trans{h'':Heap}(x:g7 W h h')(y:g7 W h' h''):g7 W h h'':= λb o e ht=>y b o (x b o e ht) ht
def SeqAt(h:Heap)(a:Addr):Prop:=∃o vs n,h.get? a=some o∧o.data=.seq vs n
theorem fI{vs:Array Value}(p:h.PlainList a vs):SeqAt h a:=let ⟨n,e⟩:=p;(lw _ vs n e rfl)
theorem i5{vs:Array Value}(p:h.IsTuple a vs):SeqAt h a:=let ⟨o,e,_,n,d⟩:=p;⟨o,vs,n,e,d⟩
theorem SeqAt.ext(x:g7 W h h')(ha:a∉W)(q:SeqAt h a):SeqAt h' a:=by
 refine fE q λo vs n e d=>?_;exact (lw o vs n (x _ _ e (λhm=>absurd hm ha)) d)
mutual
inductive aJ (h:Heap) (M:List Addr):Value→PyData→Prop
 |cnone:aJ h M .none .none
 |cbool (b:Bool):aJ h M (.bool b) (.bool b)
 |cint (i:Int) (t:Tok):aJ h M (.int i t) (.int i)
 |cstr (x:Str) (t:Tok):aJ h M (.str x t) (.str x)
 |clist {a:Addr} {vs:Array Value} {xs:List PyData}:h.PlainList a vs→a∉M→aw h M vs.toList xs→aJ h M (.ref a) (.list xs)
 |ctuple {a:Addr} {vs:Array Value} {xs:List PyData}:h.IsTuple a vs→a∉M→aw h M vs.toList xs→aJ h M (.ref a) (.tuple xs)
inductive aw (h:Heap) (M:List Addr):List Value→List PyData→Prop
 |cnil:aw h M [] []
 |ccons {v:Value} {vs:List Value} {d:PyData} {ds:List PyData}:aJ h M v d→aw h M vs ds→aw h M (v::vs) (d::ds)
end
theorem jY{vs:Array Value}(p:h.IsTuple a vs)(x:g7 W h h')(ha:a∉W):h'.IsTuple a vs:=let ⟨o,e,q⟩:=p;⟨o,x _ _ e (λz=>ha z),q⟩
theorem eO{vs:Array Value}(p:h.PlainList a vs)(x:g7 W h h')(ha:a∉W):h'.PlainList a vs:=let ⟨n,e⟩:=p;⟨n,x _ _ e (λz=>ha z)⟩
theorem fO(q:SeqAt h a):h.get? a≠none:=by
 refine fE q λo zz zz e zz=>?_;rw [e];simp
theorem aJ.step(r:aJ h M v d)(x:g7 W h h')(hw:∀a∈W,SeqAt h a→a∈M)(hm:∀a∈M',a∈M∨h.get? a=none):aJ h' M' v d:=by
 refine aJ.rec (motive_1:= λv d zz=>aJ h' M' v d) (motive_2:= λvs ds zz=>aw h' M' vs ds) .cnone .cbool .cint .cstr ?_ ?_ .cnil ?_ r
 ·intro a vs xs p ha _ ih
  exact .clist (eO p x λq=>ha (hw a q (fI p))) (λq=>(hm a q).elim ha λz=>fO (fI p) z) ih
 ·intro a vs xs p ha _ ih
  exact .ctuple (jY p x λq=>ha (hw a q (i5 p))) (λq=>(hm a q).elim ha λz=>fO (i5 p) z) ih
 ·intro v vs d ds _ _ i1 i2;exact .ccons i1 i2
theorem aw.step(x:g7 W h h')(hw:∀a∈W,SeqAt h a→a∈M)(hm:∀a∈M',a∈M∨h.get? a=none):∀ {vs:List Value} {ds:List PyData},aw h M vs ds→aw h' M' vs ds
 |_,_,.cnil=>.cnil
 |_,_,.ccons r rs=>.ccons (r.step x hw hm) (aw.step x hw hm rs)
theorem aJ.keeps(r:aJ h M v d)(hk:∀b o,h.get? b=some o→h'.get? b=some o):aJ h' M v d:=
 r.step (W:=[]) (g7.of_keeps hk) (by simp) λa ha=>.inl ha
theorem aw.keeps{v:List Value}{d:List PyData}(r:aw h M v d)(hk:∀b o,h.get? b=some o→h'.get? b=some o):aw h' M v d:=
 aw.step (W:=[]) (g7.of_keeps hk) (by simp) (λa ha=>.inl ha) r
theorem aJ.mono(r:aJ h M v d)(hm:∀a∈M',a∈M):aJ h M' v d:=r.step (W:=[]) (g7.refl _ _) (by simp) λa ha=>.inl (hm a ha)
theorem aw.mono{v:List Value}{d:List PyData}(r:aw h M v d)(hm:∀a∈M',a∈M):aw h M' v d:=aw.step (W:=[]) (g7.refl _ _) (by simp) (λa ha=>.inl (hm a ha)) r
theorem uj{vs:Array Value}{as:List Addr}(p:h.IsTuple a vs)(r:ReadsAll h vs.toList xs as):Reads h (.ref a) (.tuple xs) as:=let ⟨_,e,c,_,d⟩:=p;.tuple e c d r
theorem aJ.reads(r:aJ h M v d):∃as,Reads h v d as:=by
 refine aJ.rec (motive_1:= λv d zz=>∃as,Reads h v d as) (motive_2:= λvs ds zz=>∃as,ReadsAll h vs ds as) ⟨_,.none⟩ (λb=>⟨_,.bool b⟩) (λi t=>⟨_,.int i t⟩) (λx t=>⟨_,.str x t⟩) ?_ ?_ ⟨_,.nil⟩ ?_ r
 ·intro a vs xs zi0 ha _ zi1
  refine bP zi0 λn e=>?_;refine bP zi1 λas ih=>?_;exact ⟨_,.list e rfl rfl ih⟩
 ·intro a vs xs p ha _ zi2
  refine bP zi2 λas ih=>?_;exact ⟨_,uj p ih⟩
 ·rintro v vs d ds _ _ ⟨as,i1⟩ ⟨bs,i2⟩;exact ⟨_,.cons i1 i2⟩
theorem aw.readsAll:∀ {vs:List Value} {ds:List PyData},aw h M vs ds→∃as,ReadsAll h vs ds as
 |_,_,.cnil=>⟨_,.nil⟩
 |_,_,.ccons r rs=>let ⟨_,a⟩:=r.reads;let ⟨_,b⟩:=rs.readsAll;⟨_,.cons a b⟩
theorem aJ.none(h:Heap)(M:List Addr):aJ h M .none .none:=.cnone
theorem aJ.bool(h:Heap)(M:List Addr)(b:Bool):aJ h M (.bool b) (.bool b):=.cbool b
theorem aJ.int(h:Heap)(M:List Addr)(i:Int)(t:Tok):aJ h M (.int i t) (.int i):=.cint i t
theorem aJ.str(h:Heap)(M:List Addr)(x:Str)(t:Tok):aJ h M (.str x t) (.str x):=.cstr x t
theorem aw.nil(h:Heap)(M:List Addr):aw h M [] []:=.cnil
theorem aw.cons(r:aJ h M v d)(rs:aw h M vs ds):aw h M (v::vs) (d::ds):=.ccons r rs
theorem aw.uncons(r:aw h M (v::vs) (d::ds)):aJ h M v d∧aw h M vs ds:=by
 cases r with
 |ccons r1 r2=>exact ⟨r1,r2⟩
theorem aw.length:∀ {vs:List Value} {ds:List PyData},aw h M vs ds→vs.length=ds.length
 |_,_,.cnil=>rfl
 |_,_,.ccons _ r=>by simp [r.length]
theorem aw.append:∀ {vs ws:List Value} {ds es:List PyData},aw h M vs ds→aw h M ws es→aw h M (vs++ws) (ds++es)
 | [],ws,ds,es,r,r'=>by
  have:=r.length
  cases ds with
  |nil=>exact r'
  |cons _ _=>simp at this
 |v::vs,ws,[],es,r,_=>by have:=r.length;simp at this
 |v::vs,ws,d::ds,es,r,r'=>by
  refine f_ r.uncons λa b=>?_;exact .cons a (b.append r')
theorem aw.get:∀ {vs:List Value} {ds:List PyData},aw h M vs ds→∀ {i:Nat} {d:PyData},ds[i]? =some d→∃v,vs[i]? =some v∧aJ h M v d
 | [],[],_,i,d,e=>by simp at e
 | [],_::_,r,_,_,_=>by have:=r.length;simp at this
 |_::_,[],r,_,_,_=>by have:=r.length;simp at this
 |v::vs,d::ds,r,i,d',e=>by
  refine f_ r.uncons λa b=>?_;cases i with
  |zero=>simp at e;subst e;exact (aZ v (by simp) a)
  |succ i=>simpa using b.get (by simpa using e)
theorem aw.get':∀ {vs:List Value} {ds:List PyData},aw h M vs ds→∀ {i:Nat} {v:Value},vs[i]? =some v→∃d,ds[i]? =some d∧aJ h M v d
 | [],[],_,i,d,e=>by simp at e
 | [],_::_,r,_,_,_=>by have:=r.length;simp at this
 |_::_,[],r,_,_,_=>by have:=r.length;simp at this
 |v::vs,d::ds,r,i,v',e=>by
  refine f_ r.uncons λa b=>?_;cases i with
  |zero=>simp at e;subst e;exact (aZ d (by simp) a)
  |succ i=>simpa using b.get' (by simpa using e)
theorem aw.drop:∀ (k:Nat) {vs:List Value} {ds:List PyData},aw h M vs ds→aw h M (vs.drop k) (ds.drop k)
 |0,_,_,r=>r
 |k+1,[],[],r=>by simpa using r
 |_+1,[],_::_,r=>by have:=r.length;simp at this
 |_+1,_::_,[],r=>by have:=r.length;simp at this
 |k+1,_::_,_::_,r=>r.uncons.2.drop k
theorem aw.take:∀ (k:Nat) {vs:List Value} {ds:List PyData},aw h M vs ds→aw h M (vs.take k) (ds.take k)
 |0,_,_,_=>by simpa using aw.nil h M
 |k+1,[],[],r=>by simpa using r
 |_+1,[],_::_,r=>by have:=r.length;simp at this
 |_+1,_::_,[],r=>by have:=r.length;simp at this
 |k+1,_::_,_::_,r=>by simpa using aw.cons r.uncons.1 (r.uncons.2.take k)
theorem aw.set:∀ {vs:List Value} {ds:List PyData} (k:Nat) {v:Value} {d:PyData},aw h M vs ds→aJ h M v d→aw h M (vs.set k v) (ds.set k d)
 | [],[],_,_,_,r,_=>by simpa using r
 | [],_::_,_,_,_,r,_=>by have:=r.length;simp at this
 |_::_,[],_,_,_,r,_=>by have:=r.length;simp at this
 |_::_,_::_,0,_,_,r,r'=>by simpa using aw.cons r' r.uncons.2
 |_::_,_::_,k+1,_,_,r,r'=>by simpa using aw.cons r.uncons.1 (r.uncons.2.set k r')
theorem aw.reverse:∀ {vs:List Value} {ds:List PyData},aw h M vs ds→aw h M vs.reverse ds.reverse
 | [],[],r=>by simpa using r
 | [],_::_,r=>by have:=r.length;simp at this
 |_::_,[],r=>by have:=r.length;simp at this
 |_::_,_::_,r=>by simpa using r.uncons.2.reverse.append (aw.cons r.uncons.1 (aw.nil h M))
theorem aJ.tuple{vs:Array Value}(ho:h.get? a=some o)(hc:o.cls=.type "tuple")(hd:o.data=.seq vs n)(r:aw h M vs.toList ds)(hM:a∉M):aJ h M (.ref a) (.tuple ds):=.ctuple (UG o ho hc n hd) hM r
theorem aJ.list{vs:Array Value}(hp:h.PlainList a vs)(r:aw h M vs.toList ds)(hM:a∉M):aJ h M (.ref a) (.list ds):=.clist hp hM r
theorem aJ.of_list(r:aJ h M v (.list ds)):∃a items,v=.ref a∧h.PlainList a items∧aw h M items.toList ds∧a∉M:=by
 cases r with
 |clist p ha r=>exact (ub _ _ rfl p r ha)
theorem aJ.of_tuple(r:aJ h M v (.tuple ds)):∃a items,v=.ref a∧h.IsTuple a items∧aw h M items.toList ds:=by
 cases r with
 |ctuple p ha r=>exact (dy _ _ rfl p r)
theorem aJ.of_int{i:Int}(r:aJ h M v (.int i)):∃t,v=.int i t:=by
 cases r with
 |cint _ t=>exact ⟨t,rfl⟩
theorem aJ.of_bool{i:Bool}(r:aJ h M v (.bool i)):v=.bool i:=by
 cases r;rfl
theorem aJ.of_none(r:aJ h M v .none):v=.none:=by
 cases r;rfl
theorem aJ.of_str{i:Str}(r:aJ h M v (.str i)):∃t,v=.str i t:=by
 cases r with
 |cstr _ t=>exact ⟨t,rfl⟩
inductive ah where
 |live (xs:List PyData)
 |frozen (xs:List PyData)
 |iter (xs:List PyData)
noncomputable def ah.isMut:ah→Bool
 | .frozen _=>false
 |_=>true
inductive AV where
 |d (x:PyData)
 |c (i:Nat)
 |rng (a b:Int)
 |ty (T:String)
noncomputable def ai:List Addr→List ah→List Addr
 |a::α,c::μ=>if c.isMut then a::ai α μ else ai α μ
 |_,_=>[]
theorem wa:∀ {μ:List ah},ai [] μ=[]
 | []=>rfl
 |_::_=>rfl
theorem qE{c:ah}{μ:List ah}:ai (a::α) (c::μ)=if c.isMut then a::ai α μ else ai α μ:=rfl
theorem de:∀ {α:List Addr} {μ:List ah} {a:Addr},a∈ai α μ→a∈α
 | [],_,_,h=>(Ew (wa▸h)).elim
 |_::_,[],_,h=>(Ew h).elim
 |b::α,c::μ,a,h=>by
  rw [qE] at h
  split at h
  ·rcases Cp.mp h with rfl|h
   ·exact Gi ..
   ·exact CQ _ (de h)
  ·exact CQ _ (de h)
theorem qQ:∀ {α:List Addr} {μ:List ah} {i:Nat} {a:Addr} {c:ah},α[i]? =some a→μ[i]? =some c→c.isMut=true→a∈ai α μ
 | [],_,_,_,_,h,_,_=>by simp at h
 |_::_,[],_,_,_,_,h,_=>by simp at h
 |b::α,c::μ,0,a,c',h1,h2,h3=>by
  simp at h1 h2;subst h1;subst h2
  rw [qE,if_pos h3];exact Gi ..
 |b::α,c::μ,i+1,a,c',h1,h2,h3=>by
  have:=qQ (α:=α) (μ:=μ) (i:=i) (by simpa using h1) (by simpa using h2) h3
  rw [qE];split
  ·exact CQ _ this
  ·exact this
theorem rE:∀ {α δ:List Addr} {μ κ:List ah},α.length=μ.length→ai (α++δ) (μ++κ)=ai α μ++ai δ κ
 | [],_,[],_,_=>rfl
 | [],_,_::_,_,h=>by simp at h
 |_::_,_,[],_,h=>by simp at h
 |a::α,δ,c::μ,κ,h=>by
  refine (?_:(if c.isMut then a::ai (α++δ) (μ++κ) else ai (α++δ) (μ++κ))=(if c.isMut then a::ai α μ else ai α μ)++ai δ κ);rw [rE (by simpa using h)]
  split<;>rfl
theorem qt:∀ {α:List Addr} {μ:List ah} {i:Nat} {c:ah} {a:Addr},a∈ai α (μ.set i c)→(∀c₀,μ[i]? =some c₀→c.isMut=true→c₀.isMut=true)→a∈ai α μ
 | [],_,_,_,_,h,_=>(Ew (wa▸h)).elim
 |_::_,[],_,_,_,h,_=>h
 |b::α,c::μ,0,c',a,h,q=>by
  simp only [T3] at h
  rw [qE] at h⊢
  split at h
  ·rename_i hc
   rw [if_pos (q c rfl hc)];exact h
  ·split
   ·exact CQ _ h
   ·exact h
 |b::α,c::μ,i+1,c',a,h,q=>by
  simp only [PW] at h
  rw [qE] at h⊢
  split at h
  ·rename_i hc
   rw [if_pos hc]
   rcases Cp.mp h with rfl|h
   ·exact Gi ..
   ·exact CQ _ (qt h λc₀ e=>q c₀ (by simpa using e))
  ·rename_i hc
   rw [if_neg hc];exact qt h λc₀ e=>q c₀ (by simpa using e)
def HM(h:Heap)(a:Addr):Prop:=∃o k,h.get? a=some o∧o.cls=.type "list_iterator"∧o.data=.fields #[.none,k]
noncomputable def d_(h:Heap)(M:List Addr)(a:Addr):ah→Prop
 | .live xs=>∃items,h.PlainList a items∧aw h M items.toList xs
 | .frozen xs=>aJ h M (.ref a) (.list xs)
 | .iter xs=>(∃l k items,h.IsListIter a l k∧h.PlainList l items∧l∉M∧k≤items.size∧aw h M (items.toList.drop k) xs)∨(xs=[]∧HM h a)
noncomputable def bq(h:Heap)(α M:List Addr)(v:Value):AV→Prop
 | .d x=>aJ h M v x
 | .c i=>∃a,α[i]? =some a∧v=.ref a
 | .rng a b=>∃r t u w,v=.ref r∧IsRange h r a b 1 t u w∧r∉M
 | .ty T=>v=.type T
set_option genInjectivity false in
structure gL where
 prog:Program
 w:World
 B:Heap
 os:OsState
 mg:Str→Option Value
 mb:Str→Option Value
 g:B.Ns mainGlobals mg
 b:B.Ns builtinsNs mb
 bt:∀x:Str,x≠"__name__"→mb x=bootBuiltins x
 nolim:B.NoLimit
structure bl (C:gL) (T α:List Addr) (μ:List ah) (s:Shared):Prop where
 keep:∀b o,C.B.get? b=some o→s.heap.get? b=some o
 len:α.length=μ.length
 cells:∀ (i:Nat) a c,α[i]? =some a→μ[i]? =some c→d_ s.heap (T++ai α μ) a c
 nodup:α.Nodup
 apart:∀a∈T,a∉α
 tdom:∀a∈T,∃o,s.heap.get? a=some o
 tnew:∀a∈T,C.B.get? a=none
 new:∀a∈α,C.B.get? a=none
 gens:AllBare s.gens
 os:s.os=C.os
structure aV (O α:List Addr) (μ:List ah) (s:Shared) (α':List Addr) (μ':List ah) (s':Shared):Prop where
 pre:∃δ,α'=α++δ∧∀a∈δ,s.heap.get? a=none
 ext:g7 (O++ai α μ) s.heap s'.heap
 mts:∀a∈ai α' μ',a∈ai α μ∨s.heap.get? a=none
 dom:∀a o,s.heap.get? a=some o→∃o',s'.heap.get? a=some o'
 gens:∀ (i:Nat) (x:GenState),s.gens[i]? =some x→s'.gens[i]? =some x
theorem dY(d:∀a o,h.get? a=some o→∃o',h'.get? a=some o')(e:h'.get? a=none):h.get? a=none:=by
 cases q:h.get? a with
 |none=>rfl
 |some o=>refine bP (d a o q) λo' z=>?_;rw [e] at z;exact cv z
theorem aV.refl(O α:List Addr)(μ:List ah)(s:Shared):aV O α μ s α μ s:=
 ⟨(aZ ([]) (by simp) (by simp)),g7.refl _ _,λzz h=>.inl h,λzz o e=>⟨o,e⟩,λzz zz e=>e⟩
theorem aV.trans{α'':List Addr}{μ μ' μ'':List ah}(x:aV O α μ s α' μ' s')(y:aV O α' μ' s' α'' μ'' s''):aV O α μ s α'' μ'' s'':=by
 refine au x.pre λδ e1 d1=>?_;refine au y.pre λδ' e2 d2=>?_;refine ⟨(aZ (δ++δ') (by rw [e2,e1,ER]) (λa ha=>?_)),λb o e ht=>y.ext b o (x.ext b o e ht) λhb=>?_,λa ha=>?_,λa o e=>?_,λi z e=>y.gens i z (x.gens i z e)⟩
 ·rcases AF.mp ha with h|h
  ·exact d1 a h
  ·exact dY x.dom (d2 a h)
 ·rcases AF.mp hb with h|h
  ·exact ht (yx _ h)
  ·rcases x.mts b h with q|q
   ·exact ht (CO _ q)
   ·rw [e] at q;exact cv (F6 q)
 ·rcases y.mts a ha with q|q
  ·exact x.mts a q
  ·exact .inr (dY x.dom q)
 ·refine bP (x.dom a o e) λo' e'=>?_
  exact y.dom a o' e'
theorem aV.weak{O':List Addr}{μ μ':List ah}(x:aV O α μ s α' μ' s')(h:∀a∈O,a∈O'∨s.heap.get? a=none):aV O' α μ s α' μ' s':=
 ⟨x.pre,x.ext.mono λa ha=>by
  rcases AF.mp ha with q|q
  ·rcases h a q with z|z
   ·exact .inl (yx _ z)
   ·exact .inr z
  ·exact .inl (CO _ q),x.mts,x.dom,x.gens⟩
theorem aV.up{μ μ':List ah}(x:aV [] α μ s α' μ' s'):aV O α μ s α' μ' s':=x.weak (by simp)
def bW(h:Heap)(a:Addr):Prop:=∃o,h.get? a=some o∧((∃es n,o.data=.dict es n)∨(∃v,o.data=.cell v))
theorem bW.notSeq(x:bW h a):¬SeqAt h a:=by
 intro zi0;refine fE zi0 λo vs n e d=>?_;refine au x λo' e' q=>?_;rw [e] at e';cases e'
 rcases q with ⟨es,n',q⟩| ⟨v,q⟩<;>rw [d] at q<;>cases q
theorem bW.notRange{r:Addr}(x:bW h r){t w:Tok}{p q z:Int}(hr:IsRange h r p q z t u w):False:=by
 refine au x λo' e' k=>?_;rw [hr] at e';cases e'
 rcases k with ⟨es,n',q⟩| ⟨v,q⟩<;>cases q
def iI(O T:List Addr)(h:Heap):Prop:=∀a∈O,h.get? a=none∨bW h a∨a∈T
theorem iI.nil(T:List Addr)(h:Heap):iI [] T h:= λa ha=>by cases ha
theorem iI.seq(k:iI W M h):∀a∈W,SeqAt h a→a∈M:= λa ha q=>(k a ha).elim (λz=>absurd z (fO q)) λz=>z.elim (λz=>absurd q z.notSeq) λz=>z
theorem iI.app{N:List Addr}(k:iI O T h):iI (O++N) (T++N) h:= λa ha=>(AF.mp ha).elim (λz=>(k a z).imp id (Or.imp id (yx _))) λz=>.inr (.inr (CO _ z))
theorem aV.hm{μ μ':List ah}(x:aV O α μ s α' μ' s')(hT:∀a∈T',a∈T∨s.heap.get? a=none):∀a∈T'++ai α' μ',a∈T++ai α μ∨s.heap.get? a=none:= λa ha=>
 (AF.mp ha).elim (λh=>(hT a h).imp_left (yx _)) λh=>(x.mts a h).imp_left (CO _)
section
theorem aJ.ext(r:aJ h M v d)(x:g7 W h h')(k:iI W M h)(hm:∀a∈M',a∈M∨h.get? a=.none):aJ h' M' v d:=r.step x k.seq hm
theorem aw.ext{v:List Value}{d:List PyData}(r:aw h M v d)(x:g7 W h h')(k:iI W M h)(hm:∀a∈M',a∈M∨h.get? a=none):aw h' M' v d:=aw.step x k.seq hm r
theorem bq.ext{V:AV}(r:bq h α M v V)(x:g7 W h h')(k:iI W M h)(hα:∀ (i:Nat) a,α[i]? =some a→α'[i]? =some a)(hm:∀a∈M',a∈M∨h.get? a=none):bq h' α' M' v V:=by
 cases V with
 |d y=>exact aJ.ext (d:=y) r x k hm
 |c i=>exact au r λa e z=>aZ a (hα i a e) z
 |ty T=>exact r
 |rng p q=>
  refine qS r λr t u w z hr hM=>?_;have dm:h.get? r≠none:= λz=>cv (z.symm.trans hr);exact qP r t u w z (x _ _ hr λhb=>(k r hb).elim dm λz=>z.elim (λz=>z.notRange hr) hM) (λq=>(hm r q).elim hM dm)
theorem d_.ext{c:ah}(y:d_ h M a c)(x:g7 W h h')(k:iI W M h)(hm:∀a∈M',a∈M∨h.get? a=none)(ha:c.isMut=true→a∈W→False):d_ h' M' a c:=by
 cases c with
 |live xs=>exact au y λitems p r=>aZ items (eO p x (ha rfl)) (r.ext x k hm)
 |frozen xs=>exact aJ.ext y x k hm
 |iter xs=>
  refine y.imp (λz=>i4 z λl k' items z p2 hl hk r=>?_) λz=>NJ z λz1 o k' e q d=>MK z1 o k' (x _ _ e (ha rfl)) q d;refine i7 l k' items (au z λo e q=>aZ o (x _ _ e (ha rfl)) q) (eO p2 x λq=>hl (k.seq _ q (fI p2))) (λq=>(hm l q).elim hl (fO (fI p2))) hk (r.ext x k hm)
end
theorem d_.dom{c:ah}(x:d_ h M a c)(q:h.get? a=none):False:=by
 cases c with
 |live xs=>exact au x λitems p r=>fO (fI p) q
 |frozen xs=>exact bm (aJ.of_list x) λl items e p zz=>by cases e;exact fO (fI p) q
 |iter xs=>exact x.elim (λz=>i4 z λl k items z zz zz zz zz=>au z λo e zz=>cv (q.symm.trans e)) λz=>Uj z λzz o k e zz=>cv (q.symm.trans e)
theorem aV.at{μ μ':List ah}(x:aV O α μ s α' μ' s')(i:Nat)(a:Addr)(e:α[i]? =some a):α'[i]? =some a:=
 au x.pre λδ e1 zz=>by rw [e1,Fb (AX.mp e).1];exact e
theorem bq.stepO{μ μ':List ah}{V:AV}(r:bq s.heap α (T++ai α μ) v V)(x:aV O α μ s α' μ' s')(hO:iI O T s.heap)(hT:∀a∈T',a∈T∨s.heap.get? a=none):
 bq s'.heap α' (T'++ai α' μ') v V:=r.ext x.ext hO.app x.at (x.hm hT)
theorem bq.step0{μ μ':List ah}{V:AV}(r:bq s.heap α (T++ai α μ) v V)(x:aV [] α μ s α' μ' s'):bq s'.heap α' (T++ai α' μ') v V:=r.stepO x (iI.nil _ _) λa ha=>.inl ha
theorem aJ.step0{μ μ':List ah}(r:aJ s.heap (T++ai α μ) v d)(x:aV [] α μ s α' μ' s'):aJ s'.heap (T++ai α' μ') v d:=bq.step0 (V:=.d d) r x
theorem aw.stepO{μ μ':List ah}{v:List Value}{d:List PyData}(r:aw s.heap (T++ai α μ) v d)(x:aV O α μ s α' μ' s')(hO:iI O T s.heap)(hT:∀a∈T',a∈T∨s.heap.get? a=none):aw s'.heap (T'++ai α' μ') v d:=
 r.ext x.ext hO.app (x.hm hT)
theorem aw.step0{μ μ':List ah}{v:List Value}{d:List PyData}(r:aw s.heap (T++ai α μ) v d)(x:aV [] α μ s α' μ' s'):aw s'.heap (T++ai α' μ') v d:=r.stepO x (iI.nil _ _) λa ha=>.inl ha
variable {V V' : AV} {c c' : ah} {C : gL} {Vs : List AV} {Mid : List Addr → List Addr → List Addr → List ah → Nat → Value → Shared → Prop} {μ μ' μ'' μ1 μ2 μ3 μ₀ : List ah} {ha ke td te tx : Option AV}
noncomputable abbrev d5:=List (Option AV)
set_option genInjectivity false in
structure Cx where
 scope:Scope
 names:List (Str×Nat)
structure Rk (cx:Cx) (env:Env) (O:List Addr) (ρ:d5) (h:Heap) (α M:List Addr) (cad:Nat→Addr):Prop where
 look:∀ (i:Nat) x k,cx.names[i]? =some (x,k)→2≤k→env.cells.lookup x=some (cad i)
 has:∀ (i:Nat) x k,cx.names[i]? =some (x,k)→2≤k→∃o,h.IsCell (cad i) o∧∀V,ρ[i]? =some (some V)→∃v,o=some v∧bq h α M v V
 own:∀ (i:Nat) x,cx.names[i]? =some (x,2)→cad i∈O
 inj:∀ (i j:Nat) x y k l,cx.names[i]? =some (x,k)→cx.names[j]? =some (y,l)→2≤k→2≤l→cad i=cad j→i=j
def EP(cx:Cx)(env:Env)(a:Addr):Prop:=a=env.locals∨∃ (i:Nat) (x:Str) (k:Nat),cx.names[i]? =some (x,k)∧2≤k∧env.cells.lookup x=some a
structure bi (C:gL) (cx:Cx) (env:Env) (O:List Addr) (ρ:d5) (h:Heap) (α M:List Addr):Prop where
 sc:env.scope=cx.scope
 gl:env.globals=mainGlobals
 bn:env.builtins=builtinsNs
 len:ρ.length=cx.names.length
 loc:∃m,h.Ns env.locals m∧∀ (i:Nat) x V,cx.names[i]? =some (x,1)→ρ[i]? =some (some V)→∃v,m x=some v∧bq h α M v V
 cel:∃cad,Rk cx env O ρ h α M cad
 own:∀a∈O,bW h a∧C.B.get? a=none
 lo:env.locals∈O
 off:∀a∈M,¬ (EP cx env a∨a∈O)
 nd:∀ (i j:Nat) x,cx.names[i]? =some (x,1)→cx.names[j]? =some (x,1)→i=j
theorem r7{c:Addr}{o:Option Value}(hc:h.IsCell c o)(x:g7 W h h')(hn:c∉W):h'.IsCell c o:=by
 refine au hc λob e d=>?_;exact (aZ ob (x _ _ e λq=>absurd q hn) d)
theorem zc{c:Addr}{m:Str→Option Value}(hc:h.Ns c m)(x:g7 W h h')(hn:c∉W):h'.Ns c m:=by
 refine fE hc λob es ep e d=>?_;exact (lw ob es ep (x _ _ e λq=>absurd q hn) d)
theorem d_.notFrame(x:d_ h M a c):¬bW h a:=by
 intro zi0;refine au zi0 λo e q=>?_;cases c with
 |live xs=>
  refine au x λitems zp1 zz=>?_;refine bP zp1 λn e'=>?_;rw [e'] at e;cases e
  rcases q with ⟨es,n',q⟩| ⟨v,q⟩<;>cases q
 |frozen xs=>
  refine bm (aJ.of_list x) λl items e1 zp3 zz=>?_;refine bP zp3 λn e'=>?_;cases e1;rw [e'] at e;cases e
  rcases q with ⟨es,n',q⟩| ⟨v,q⟩<;>cases q
 |iter xs=>
  rcases x with ⟨l,k,items,⟨o',e',_,ed⟩,_⟩| ⟨_,o',k,e',_,ed⟩
  all_goals
   rw [e'] at e;cases e
   rcases q with ⟨es,n',q⟩| ⟨v,q⟩<;>rw [ed] at q<;>cases q
theorem iE{α:Type}{l:List α}{a:α}(h:a∈l):∃i:Nat,l[i]? =some a:=by
 obtain ⟨i,hi,e⟩:=List.mem_iff_getElem.mp h;exact ⟨i,by rw [Fu hi,e]⟩
theorem bl.at(I:bl C T α μ s)(ha:a∈α):∃c,d_ s.heap (T++ai α μ) a c:=
 bP (iE ha) λi e=>⟨_,I.cells i a _ e (Fu (I.len▸(AX.mp e).1))⟩
theorem bl.cdom(I:bl C T α μ s)(ha:a∈α)(q:s.heap.get? a=none):False:=bP (I.at ha) λzz z=>z.dom q
theorem bl.notFrame(I:bl C T α μ s)(ha:a∈α):¬bW s.heap a:=bP (I.at ha) λzz z=>z.notFrame
theorem h_{c:Addr}{o:Option Value}(x:h.IsCell c o):bW h c:=let ⟨ob,e,d⟩:=x;⟨ob,e,.inr ⟨o,d⟩⟩
theorem fT{c:Addr}{m:Str→Option Value}(x:h.Ns c m):bW h c:=let ⟨ob,es,ep,e,d,_⟩:=x;⟨ob,e,.inl (jK es ep d)⟩
theorem bW.ext(x:bW h a)(e:g7 W h h')(hn:a∉W):bW h' a:=let ⟨o,ho,q⟩:=x;⟨o,e _ _ ho λz=>absurd z hn,q⟩
theorem bi.inFr{cx:Cx}{ρ:d5}(F:bi C cx env O ρ h α M)(ha:EP cx env a):bW h a:=by
 rcases ha with rfl| ⟨i,x,k,e,hk,hl⟩
 ·exact (F.own _ F.lo).1
 ·refine bP F.cel λcad hc=>?_
  have:=hc.look i x k e hk
  rw [hl] at this;refine cA (F6 this) ?_
  refine au (hc.has i x k e hk) λo ho zz=>?_;exact h_ ho
theorem bi.frA{cx:Cx}{ρ:d5}(F:bi C cx env O ρ h α M)(ha:EP cx env a∨a∈O):bW h a:=ha.elim F.inFr λq=>(F.own a q).1
theorem bW.dom(x:bW h a):h.get? a≠none:=by
 refine au x λo e zz=>?_;rw [e];simp
theorem bi.ext{cx:Cx}{ρ:d5}(F:bi C cx env O ρ h α M)(x:g7 W h h')(k:iI W M h)(hα:∀ (i:Nat) a,α[i]? =some a→α'[i]? =some a)(hm:∀a∈M',a∈M∨h.get? a=none)(nf:∀a,EP cx env a∨a∈O→a∈W→False):bi C cx env O ρ h' α' M':=by
 refine ⟨F.sc,F.gl,F.bn,F.len,au F.loc λm hq hl=>aZ m (zc hq x (nf _ (.inl (.inl rfl)))) λi y V h1 h2=>au (hl i y V h1 h2) λv e r=>aZ v e (r.ext x k hα hm),bP F.cel λcad hc=>⟨cad,hc.look,λi y j h1 h2=>?_,hc.own,hc.inj⟩,λa ha=>⟨(F.own a ha).1.ext x (nf _ (.inr ha)),(F.own a ha).2⟩,F.lo,λa ha q=>(hm a ha).elim (λz=>F.off a z q) (F.frA q).dom,F.nd⟩;refine au (hc.has i y j h1 h2) λo ho hv=>aZ o (r7 ho x (nf _ (.inl (.inr (p9 i y j h1 h2 (hc.look i y j h1 h2)))))) λV h3=>au (hv V h3) λv e r=>aZ v e (r.ext x k hα hm)
theorem bi.step{cx:Cx}{ρ:d5}(F:bi C cx env O ρ s.heap α (T++ai α μ))(I:bl C T α μ s)(x:aV [] α μ s α' μ' s'):
  bi C cx env O ρ s'.heap α' (T++ai α' μ'):=
 F.ext x.ext (iI.nil T _).app x.at (x.hm λzz h=>.inl h) λzz q h=>I.notFrame (de h) (F.frA q)
structure cR (A:Around) (n:Nat):Prop where
 depth:A.depth+4*n<600
 units:A.units+200*n+400<cLine
 handled:A.handled=none
theorem cR.mono{m:Nat}(r:cR A n)(h:m≤n):cR A m:=⟨by have:=r.depth;lia,by have:=r.units;have:200*m≤200*n:=Nat.mul_le_mul_left _ h;lia,r.handled⟩
noncomputable def bI(C:gL)(T α:List Addr)(μ:List ah)(s:Shared)(μ':List ah)(V:AV):Value→Shared→Prop:= λv s'=>
 ∃α',bl C T α' μ' s'∧aV [] α μ s α' μ' s'∧bq s'.heap α' (T++ai α' μ') v V
noncomputable abbrev EF:=d5→List ah→Option (AV×List ah)
structure ab (C:gL) (n:Nat) (cx:Cx) (e:Expr) (f:EF):Prop where
 of::
 run:∀A env O T ρ α μ s E V μ',cR A n→bl C T α μ s→bi C cx env O ρ s.heap α (T++ai α μ)→f ρ μ=some (V,μ')→
  wpAny (model C.prog C.w) A (eval e env) (bI C T α μ s μ' V) E s
section
theorem d_.stepO(x:d_ s.heap (T++ai α μ) a c)(y:aV O α μ s α' μ' s')(hO:iI O T s.heap)(hT:∀a∈T',a∈T∨s.heap.get? a=none)(ha:c.isMut=true→a∈O++ai α μ→False):d_ s'.heap (T'++ai α' μ') a c:=x.ext y.ext hO.app (y.hm hT) ha
theorem bl.ext(I:bl C T α μ s)(x:g7 W s.heap h')(hB:∀a∈W,C.B.get? a=none)(k:iI W T s.heap)(hα:∀a∈α,a∈W→False)(hT:∀a∈T',a∈T)(hd:∀a∈T',∃o,h'.get? a=some o)(hs:s'.heap=h')(hg:AllBare s'.gens)(ho:s'.os=s.os):bl C T' α μ s':=by
 subst hs;have k':iI W (T++ai α μ) s.heap:= λa ha=>(k a ha).imp id (Or.imp id (yx _));exact ⟨λb o e=>x b o (I.keep b o e) λq=>cv ((hB b q).symm.trans e),I.len,λi a c h1 h2=>(I.cells i a c h1 h2).ext x k' (λa ha=>.inl ((AF.mp ha).elim (λq=>yx _ (hT a q)) (CO _))) λzz=>hα a (GR h1),I.nodup,λa ha=>I.apart a (hT a ha),hd,λa ha=>I.tnew a (hT a ha),I.new,hg,ho.trans I.os⟩
theorem bl.keeps(I:bl C T α μ s)(hk:∀b o,s.heap.get? b=some o→h'.get? b=some o):bl C T α μ {s with heap:=h',toks:=tk}:=
 I.ext (W:=[]) (g7.of_keeps hk) (λzz h=>nomatch h) (iI.nil _ _) (λzz zz h=>nomatch h) (λzz h=>h) (λa ha=>(I.tdom a ha).imp λo e=>hk a o e) rfl I.gens rfl
theorem aV.keeps(hk:∀b o,s.heap.get? b=some o→h'.get? b=some o):aV [] α μ s α μ {s with heap:=h',toks:=tk}:=
 ⟨(aZ ([]) (by simp) (by simp)),g7.of_keeps hk,λzz h=>.inl h,λa o e=>⟨o,hk a o e⟩,λzz zz e=>e⟩
theorem bI.of_keeps(I:bl C T α μ s)(hk:∀b o,s.heap.get? b=some o→h'.get? b=some o)(hv:bq h' α (T++ai α μ) v V):bI C T α μ s μ V v {s with heap:=h',toks:=tk}:=
 (cL α (I.keeps hk) (aV.keeps hk) hv)
theorem bI.tok(I:bl C T α μ s)(hv:bq s.heap α (T++ai α μ) v V):bI C T α μ s μ V v {s with toks:=tk}:=bI.of_keeps (h':=s.heap) I (λzz zz e=>e) hv
theorem bI.same(I:bl C T α μ s)(hv:bq s.heap α (T++ai α μ) v V):bI C T α μ s μ V v s:=(cL α I (aV.refl _ _ _ _) hv)
theorem bI.trans(x:aV [] α μ s α' μ' s')(p:bI C T α' μ' s' μ'' V v s''):bI C T α μ s μ'' V v s'':=by
 refine cq p λα'' I y r=>?_;exact (cL α'' I (x.trans y) r)
end
section
variable {cx:Cx}
theorem ab.go{f:EF}{ρ:d5}(hf:ab C n cx e f)(R:cR A n)(I:bl C T α μ s)(F:bi C cx env O ρ s.heap α (T++ai α μ))(q:f ρ μ=some (V,μ'))
  (k:∀v s' α',bl C T α' μ' s'→aV [] α μ s α' μ' s'→bq s'.heap α' (T++ai α' μ') v V→Q v s'):wpAny (model C.prog C.w) A (eval e env) Q E s:=
 D1 (hf.run A env O T ρ α μ s E V μ' R I F q) (λv s' p=>cq p λα' I' S' r=>k v s' α' I' S' r) λzz zz x=>x
theorem ab.goF{f:EF}{ρ:d5}(hf:ab C n cx e f)(R:cR A n)(I:bl C T α μ s)(F:bi C cx env O ρ s.heap α (T++ai α μ))(q:f ρ μ=some (V,μ'))
  (k:∀v s' α',bl C T α' μ' s'→aV [] α μ s α' μ' s'→bi C cx env O ρ s'.heap α' (T++ai α' μ')→bq s'.heap α' (T++ai α' μ') v V→Q v s'):wpAny (model C.prog C.w) A (eval e env) Q E s:=
 hf.go R I F q λv s' α' I' S' r=>k v s' α' I' S' (F.step I S') r
theorem Th{i:Int}:ab C n cx (.Constant (.int i) k pos) (λzz μ=>some (.d (.int i),μ)):=by
 refine .of ?_;intro A env O T ρ α μ s E V μ' _ I _ h;refine cm h ?_;exact λzz zz zz=>bI.tok I (aJ.int ..)
theorem J7:ab C n cx (.Constant (.str x) k pos) (λzz μ=>some (.d (.str x),μ)):=by
 refine .of ?_;intro A env O T ρ α μ s E V μ' _ I _ h;refine cm h ?_;exact λzz zz zz=>bI.tok I (aJ.str ..)
theorem OB{b:Bool}:ab C n cx (.Constant (.bool b) k pos) (λzz μ=>some (.d (.bool b),μ)):=by
 refine .of ?_;intro A env O T ρ α μ s E V μ' _ I _ h;refine cm h ?_;exact EY (bI.same I (aJ.bool ..))
theorem Nx:ab C n cx (.Constant .none k pos) (λzz μ=>some (.d .none,μ)):=by
 refine .of ?_;intro A env O T ρ α μ s E V μ' _ I _ h;refine cm h ?_;exact EY (bI.same I (aJ.none ..))
noncomputable def a9(i:Nat):EF:= λρ μ=>(ρ[i]?.bind id).bind λV=>some (V,μ)
theorem yb{ρ:d5}(h:a9 i ρ μ=some (V,μ'))(k:ρ[i]? =some (some V)→μ=μ'→G):G:=by
 unfold a9 at h
 cases q:ρ[i]? with
 |none=>rw [q] at h;exact cv h
 |some o=>
  cases o with
  |none=>rw [q] at h;exact cv h
  |some W=>rw [q] at h;cases h;exact k q rfl
theorem qW(i:Nat)(hn:cx.names[i]? =some (x,1))(hl:cx.scope.names.lookup x=some .local)(hk:cx.scope.kind=.function)(hd:(x==("__debug__":Str))=false):ab C n cx (.Name x pos) (a9 i):=by
 refine .of ?_;intro A env O T ρ α μ s E V μ' _ I F h;refine au F.loc λm hm hq=>?_;refine yb h λe z=>?_;subst z;refine au (hq i x V hn e) λv e1 r=>?_;exact UH (Pt (by rw [F.sc];exact hk) (by unfold JH;rw [F.sc];exact hl) hm e1 (bI.same I r)) hd
theorem bE(i:Nat)(k:Nat)(hn:cx.names[i]? =some (x,k))(h2:2≤k)(hl:cx.scope.names.lookup x=some .cell)(hk:cx.scope.kind=.function)(hd:(x==("__debug__":Str))=false):ab C n cx (.Name x pos) (a9 i):=by
 refine .of ?_;intro A env O T ρ α μ s E V μ' _ I F h;refine bP F.cel λcad hc=>?_;refine yb h λe z=>?_;subst z;refine au (hc.has i x k hn h2) λo ho hv=>?_;refine au (hv _ e) λv zq1 r=>?_;subst zq1;exact UH (wpAny_loadName_cell (by rw [F.sc];exact hk) (by unfold JH;rw [F.sc];exact hl) (hc.look i x k hn h2) ho (bI.same I r)) hd
theorem Ob{i:Int}{t:Tok}(hg:C.mg x=some (.int i t))(hl:cx.scope.names.lookup x=some .globalImplicit)(hk:cx.scope.kind=.function)(hd:(x==("__debug__":Str))=false):ab C n cx (.Name x pos) (λzz μ=>some (.d (.int i),μ)):=by
 refine .of ?_;intro A env O T ρ α μ s E V μ' _ I F h;refine cm h ?_;exact Fg (by rw [F.sc];exact hk) (by unfold JH;rw [F.sc];exact hl) (Ll (by rw [F.gl];exact C.g.keeps I.keep) hg (bI.same I (aJ.int ..))) hd
end
variable {cx : Cx} {f fi fo g : EF} {fs : List EF} {ρ ρ' ρ1 ρ2 : d5} {tf : d5 → PyData → Option d5}
noncomputable def bp{X:Type u0}{Y:Type u1}{Z:Type u2}(o:Option (X×Y))(k:X→Y→Option Z):Option Z:=o.rec none λp=>k p.1 p.2
noncomputable def bo{X:Type u0}{Z:Type u2}(o:Option X)(k:X→Option Z):Option Z:=o.rec none k
noncomputable def oe{X:Type u0}{Y:Type u1}{Z:Type u2}(o:Option X)(p:Option Y)(k:X→Y→Z)(e:Z):Z:=o.rec e λa=>p.rec e λb=>k a b
theorem aD{X:Type u0}{Y:Type u1}{Z:Type u2}{o:Option (X×Y)}{k:X→Y→Option Z}{r:Z}(h:bp o k=some r)(q:∀a b,o=some (a,b)→k a b=some r→G):G:=by
 cases o with
 |none=>exact cv h
 |some p=>exact q p.1 p.2 rfl h
theorem ax{X:Type u0}{Z:Type u2}{o:Option X}{k:X→Option Z}{r:Z}(h:bo o k=some r)(q:∀a,o=some a→k a=some r→G):G:=by
 cases o with
 |none=>exact cv h
 |some p=>exact q p rfl h
theorem bU{X:Type u0}{Y:Type u1}{Z:Type u2}{o:Option X}{p:Option Y}{k:X→Y→Option Z}{e:Option Z}{r:Z}(h:oe o p k e=some r)(q:∀a b,o=some a→p=some b→k a b=some r→G)(q':e=some r→G):G:=by
 cases o with
 |none=>exact q' h
 |some a=>
  cases p with
  |none=>exact q' h
  |some b=>exact q a b rfl rfl h
theorem i9{c:Prop}{i:Decidable c}{Z:Type u0}{x:Option Z}{r:Z}{G:Prop}(h:(if c then x else none)=some r)(q:c→x=some r→G):G:=by
 by_cases hc:c
 ·rw [if_pos hc] at h;exact q hc h
 ·rw [if_neg hc] at h;exact cv h
theorem ifB{c:Prop}{i:Decidable c}{Z:Type u0}{x y:Option Z}{r:Z}(h:(if c then x else y)=some r)(q:c→x=some r→G)(q':¬c→y=some r→G):G:=by
 by_cases hc:c
 ·rw [if_pos hc] at h;exact q hc h
 ·rw [if_neg hc] at h;exact q' hc h
theorem bpS{X:Type u0}{Y:Type u1}{Z:Type u2}{a:X}{b:Y}{k:X→Y→Option Z}:bp (some (a,b)) k=k a b:=rfl
theorem bpN{X:Type u0}{Y:Type u1}{Z:Type u2}{k:X→Y→Option Z}:bp none k=none:=rfl
theorem boS{X:Type u0}{Z:Type u2}{a:X}{k:X→Option Z}:bo (some a) k=k a:=rfl
theorem boN{X:Type u0}{Z:Type u2}{k:X→Option Z}:bo none k=none:=rfl
noncomputable def dI:PyData→Option Int
 | .int x=>some x
 |_=>none
noncomputable def dS:PyData→Option Str
 | .str x=>some x
 |_=>none
noncomputable def dB:PyData→Option Bool
 | .bool x=>some x
 |_=>none
noncomputable def dN:PyData→Option Unit
 | .none=>some ()
 |_=>none
noncomputable def dT:PyData→Option (List PyData)
 | .tuple x=>some x
 |_=>none
noncomputable def dL:PyData→Option (List PyData)
 | .list x=>some x
 |_=>none
noncomputable def vd:AV→Option PyData
 | .d x=>some x
 |_=>none
noncomputable def Fk:AV→Option Nat
 | .c x=>some x
 |_=>none
noncomputable def VL:AV→Option String
 | .ty x=>some x
 |_=>none
noncomputable def jM(V:AV):Option Int:=bo (vd V) dI
noncomputable def mA(V:AV):Option Str:=bo (vd V) dS
noncomputable def Nv(V:AV):Option Bool:=bo (vd V) dB
noncomputable def OM(V:AV):Option Unit:=bo (vd V) dN
noncomputable def GX(V:AV):Option (List PyData):=bo (vd V) dT
noncomputable def YC(V:AV):Option (List PyData):=bo (vd V) dL
theorem Vk{x:Int}(h:dI d=some x):d=.int x:=by cases d<;>first|exact cv h| (cases h;rfl)
theorem ad9(h:dS d=some x):d=.str x:=by cases d<;>first|exact cv h| (cases h;rfl)
theorem an4{x:Bool}(h:dB d=some x):d=.bool x:=by cases d<;>first|exact cv h| (cases h;rfl)
theorem am4{x:Unit}(h:dN d=some x):d=.none:=by cases d<;>first|exact cv h|rfl
theorem TA{x:List PyData}(h:dT d=some x):d=.tuple x:=by cases d<;>first|exact cv h| (cases h;rfl)
theorem UM{x:List PyData}(h:dL d=some x):d=.list x:=by cases d<;>first|exact cv h| (cases h;rfl)
theorem iO{x:PyData}(h:vd V=some x):V=.d x:=by cases V<;>first|exact cv h| (cases h;rfl)
theorem C0{x:Nat}(h:Fk V=some x):V=.c x:=by cases V<;>first|exact cv h| (cases h;rfl)
theorem SK{x:String}(h:VL V=some x):V=.ty x:=by cases V<;>first|exact cv h| (cases h;rfl)
section
theorem fN{x:Int}(e:jM V=some x)(r:bq h α M v V):∃t,v=.int x t:=
 ax e λzz e1 e2=>aJ.of_int (M:=M) (h:=h) (by rw [iO e1,Vk e2] at r;exact r)
theorem j0(e:mA V=some x)(r:bq h α M v V):∃t,v=.str x t:=
 ax e λzz e1 e2=>aJ.of_str (M:=M) (h:=h) (by rw [iO e1,ad9 e2] at r;exact r)
theorem xg{x:Bool}(e:Nv V=some x)(r:bq h α M v V):v=.bool x:=
 ax e λzz e1 e2=>aJ.of_bool (M:=M) (h:=h) (by rw [iO e1,an4 e2] at r;exact r)
theorem D9{x:Unit}(e:OM V=some x)(r:bq h α M v V):v=.none:=
 ax e λzz e1 e2=>aJ.of_none (M:=M) (h:=h) (by rw [iO e1,am4 e2] at r;exact r)
theorem Kd{x:List PyData}(e:GX V=some x)(r:bq h α M v V):∃a items,v=.ref a∧h.IsTuple a items∧aw h M items.toList x:=
 ax e λzz e1 e2=>aJ.of_tuple (M:=M) (h:=h) (by rw [iO e1,TA e2] at r;exact r)
theorem Ni{x:List PyData}(e:YC V=some x)(r:bq h α M v V):aJ h M v (.list x):=
 ax e λzz e1 e2=>(by rw [iO e1,UM e2] at r;exact r)
theorem IY{x:Nat}(e:Fk V=some x)(r:bq h α M v V):∃a,α[x]? =some a∧v=.ref a:=(by rw [C0 e] at r;exact r)
theorem aa1{x:String}(e:VL V=some x)(r:bq h α M v V):v=.type x:=(by rw [SK e] at r;exact r)
end
noncomputable def l1{X:Type u0}:List X→Option X
 | [a]=>some a
 |_=>none
noncomputable def l2{X:Type u0}:List X→Option (X×X)
 | [a,b]=>some (a,b)
 |_=>none
theorem W0{X:Type u0}{l:List X}{a:X}(h:l1 l=some a):l=[a]:=by
 match l,h with
 | [b],h=>exact congrArg (λx=>[x]) (Fi h)
theorem Ac{X:Type u0}{l:List X}{a b:X}(h:l2 l=some (a,b)):l=[a,b]:=by
 match l,h with
 | [c,d],h=>cases h;rfl
noncomputable def Qw:ah→Option (List PyData)
 | .live xs=>some xs
 | .frozen xs=>some xs
 | .iter _=>none
noncomputable def dc(μ:List ah)(V:AV):Option (List PyData):=oe (YC V) (some ()) (λxs zz=>some xs) (bo (Fk V) λi=>bo μ[i]? Qw)
section
theorem bq.isList(I:bl C T α μ s)(r:bq s.heap α (T++ai α μ) v V)(h:dc μ V=some xs):
  ∃a items,v=.ref a∧s.heap.PlainList a items∧aw s.heap (T++ai α μ) items.toList xs:=by
 refine bU h (λxs' zz e zz h=>?_) λh=>ax h λi ei h=>ax h λc ec h=>?_
 ·refine cA (show some xs'=some xs from h) ?_
  exact kZ (aJ.of_list (Ni e r)) λa items e hl r zz=>dy a items e hl r
 ·refine au (IY ei r) λa ha z=>?_
  have q:=I.cells i a c ha ec;cases c with
  |live ys=>refine cA (show some ys=some xs from h) ?_;exact au q λitems hp r=>dy a items z hp r
  |frozen ys=>refine cA (show some ys=some xs from h) ?_;exact kZ (aJ.of_list q) λa' items e' hl r zz=>dy a' items (z.trans e') hl r
  |iter ys=>exact cv h
end
def jd(C:gL)(n:Nat)(op:Operator)(o:AV→AV→List ah→Option (AV×List ah)):Prop:=∀A T α μ s E a b Va Vb V μ',cR A n→bl C T α μ s→
 bq s.heap α (T++ai α μ) a Va→bq s.heap α (T++ai α μ) b Vb→o Va Vb μ=some (V,μ')→wpAny (model C.prog C.w) A (binaryOp op a b) (bI C T α μ s μ' V) E s
def gP(C:gL)(n:Nat)(op:CmpOp)(o:AV→AV→List ah→Option Bool):Prop:=∀A T α μ s E a b Va Vb r,cR A n→bl C T α μ s→
 bq s.heap α (T++ai α μ) a Va→bq s.heap α (T++ai α μ) b Vb→o Va Vb μ=some r→wpAny (model C.prog C.w) A (compareOp op a b) (λv s'=>v=.bool r∧∃tk,s'= {s with toks:=tk}) E s
structure gO (C:gL) (n:Nat) (cx:Cx) (e:Expr) (f:d5→List ah→Option (Bool×List ah)):Prop where
 of::
 run:∀A env O T ρ α μ s E r μ',cR A n→bl C T α μ s→bi C cx env O ρ s.heap α (T++ai α μ)→f ρ μ=some (r,μ')→
  wpAny (model C.prog C.w) A (isTrue e env (eval e env)) (λb s'=>b=r∧∃α',bl C T α' μ' s'∧aV [] α μ s α' μ' s') E s
section
variable {k:EF}
theorem oq{l r:Expr}{Va Vb:AV}{Q:Value→Value→Shared→Prop}
  (hl:ab C n cx l f) (hr:ab C n cx r g) (R:cR A n) (I:bl C T α μ s) (F:bi C cx env O ρ s.heap α (T++ai α μ)) (e1:f ρ μ=some (Va,μ1)) (e2:g ρ μ1=some (Vb,μ2))
  (h:∀a b s2 α2,bl C T α2 μ2 s2→aV [] α μ s α2 μ2 s2→bq s2.heap α2 (T++ai α2 μ2) a Va→bq s2.heap α2 (T++ai α2 μ2) b Vb→Q a b s2):
  wpAny (model C.prog C.w) A (eval l env) (λa s1=>wpAny (model C.prog C.w) A (eval r env) (λb s2=>Q a b s2) E s1) E s:=by
 refine D1 (hl.run A env O T ρ α μ s E Va μ1 R I F e1) (λa s1 p1=>?_) λzz zz x=>x;refine cq p1 λα1 I1 S1 r1=>?_;refine D1 (hr.run A env O T ρ α1 μ1 s1 E Vb μ2 R I1 (F.step I S1) e2) (λb s2 p2=>?_) λzz zz x=>x;refine cq p2 λα2 I2 S2 r2=>?_;exact h a b s2 α2 I2 (S1.trans S2) (r1.step0 S2) r2
def aj(f g:EF)(o:AV→AV→List ah→Option (AV×List ah)):EF:= λρ μ=>bp (f ρ μ) λa μ1=>bp (g ρ μ1) λb μ2=>o a b μ2
theorem av{l r:Expr}{o:AV→AV→List ah→Option (AV×List ah)}(hl:ab C n cx l f)(hr:ab C n cx r g)(ho:jd C n op o):ab C n cx (.BinOp l op r pos) (aj f g o):=by
 refine .of ?_;intro A env O T ρ α μ s E V μ' R I F h;refine aD h λVa μ1 e1 h=>?_;refine aD h λVb μ2 e2 h=>?_;refine wpAny_BinOp (oq hl hr R I F e1 e2 λa b s2 α2 I2 S2 ra rb=>?_);exact D1 (ho A T α2 μ2 s2 E a b Va Vb V μ' R I2 ra rb h) (λv s3 p=>bI.trans S2 p) λzz zz x=>x
def dZ(f g:EF)(o:AV→AV→List ah→Option Bool):EF:= λρ μ=>bp (f ρ μ) λa μ1=>bp (g ρ μ1) λb μ2=>bo (o a b μ2) λr=>some (.d (.bool r),μ2)
noncomputable def bB(f g:EF)(o:AV→AV→List ah→Option Bool):d5→List ah→Option (Bool×List ah):= λρ μ=>bp (f ρ μ) λa μ1=>bp (g ρ μ1) λb μ2=>bo (o a b μ2) λr=>some (r,μ2)
theorem fB{l r:Expr}{op:CmpOp}{o:AV→AV→List ah→Option Bool}(hl:ab C n cx l f)(hr:ab C n cx r g)(ho:gP C n op o)(hm:behindInMarks op r=false):ab C n cx (.Compare l [op] [r] pos) (dZ f g o):=by
 refine .of ?_;intro A env O T ρ α μ s E V μ' R I F h;refine aD h λVa μ1 e1 h=>?_;refine aD h λVb μ2 e2 h=>?_;refine ax h λb e3 h=>?_;refine cm h ?_;refine wpAny_Compare1 (oq hl hr R I F e1 e2 λa b s2 α2 I2 S2 ra rb=>?_) hm;refine D1 (ho A T α2 _ s2 E a b Va Vb _ R I2 ra rb e3) (λv s3 p=>?_) λzz zz x=>x;refine yU p λzq0 tk zq2=>?_;refine bH (F6 zq0) ?_;refine bH (F6 zq2) ?_;exact bI.trans S2 (bI.tok I2 (aJ.bool ..))
theorem cn{l r:Expr}{op:CmpOp}{o:AV→AV→List ah→Option Bool}(hl:ab C n cx l f)(hr:ab C n cx r g)(ho:gP C n op o)(hm:behindInMarks op r=false):gO C n cx (.Compare l [op] [r] pos) (bB f g o):=by
 refine .of ?_;intro A env O T ρ α μ s E b μ' R I F h;refine aD h λVa μ1 e1 h=>?_;refine aD h λVb μ2 e2 h=>?_;refine ax h λb e3 h=>?_;refine cm h ?_;refine RK (oq hl hr R I F e1 e2 λa b s2 α2 I2 S2 ra rb=>?_) hm;refine D1 (ho A T α2 _ s2 E a b Va Vb _ R I2 ra rb e3) (λv s3 p=>?_) λzz zz x=>x;refine yU p λzq0 tk zq2=>?_;refine bH (F6 zq0) ?_;refine bH (F6 zq2) ?_;have z:=S2.trans (aV.keeps (s:=s2) (h':=s2.heap) (tk:=tk) λzz zz e=>e);exact P1 (gS rfl α2 (I2.keeps (h':=s2.heap) λzz zz e=>e) z)
noncomputable def kq(V:AV)(μ:List ah):Option Bool:=oe (Nv V) (some ()) (λb zz=>some b) (oe (jM V) (some ()) (λi zz=>some (i != 0)) (oe (OM V) (some ()) (λzz zz=>some false) (oe (mA V) (some ()) (λx zz=>if x.length≤sizeLine then some ((x.length:Int) != 0) else none) (bo (dc μ V) λxs=>if xs.length<2^24 then some (!xs.isEmpty) else none))))
theorem mc{b:Bool}(I:bl C T α μ s)(r:bq s.heap α (T++ai α μ) v V)(h:kq V μ=some b):
  wpAny (model C.prog C.w) A (truthy v) (λb' s'=>b'=b∧∃tk,s'= {s with toks:=tk}) E s:=by
 refine bU h (λb' zz e zz h=>?_) λh=>bU h (λi zz e zz h=>?_) λh=>bU h (λb' zz e zz h=>?_) λh=>bU h (λx zz e zz h=>?_) λh=>?_
 ·refine cA h ?_
  rw [xg e r];exact P1 (j8 rfl _ rfl)
 ·refine cA h ?_
  refine bP (fN e r) λt zq1=>?_;refine bH (F6 zq1) ?_;exact PyProof.Rows.truthy_int (j8 rfl s.toks rfl)
 ·refine cA h ?_
  rw [D9 e r];exact truthy_none (j8 rfl s.toks rfl)
 ·refine i9 h λhz h=>?_
  refine cA h ?_;refine bP (j0 e r) λt zq1=>?_;refine bH (F6 zq1) ?_;exact PySem.P.truthy_str (by unfold sizeLine at hz;lia) (j8 rfl _ rfl)
 ·refine ax h λxs e h=>?_
  refine i9 h λhlen h=>?_;refine cA h ?_;refine bm (r.isList I e) λa items zq2 hl rr=>?_;refine bH (F6 zq2) ?_;have hs:items.size=xs.length:=by rw [←rr.length];simp
  refine wpAny_truthy_list hl.isList (by lia) (j8 ?_ _ rfl);have e1:items.isEmpty=xs.isEmpty:=by
   rw [Array.isEmpty,hs];cases xs<;>simp
  rw [e1]
noncomputable def gf(f:EF):d5→List ah→Option (Bool×List ah):= λρ μ=>bp (f ρ μ) λV μ1=>bo (kq V μ1) λb=>some (b,μ1)
theorem iD(he:∀env whole,isTrue e env whole=(do let v←whole;standAt e.pos;holding [v] (truthy v)))(hf:ab C n cx e f):gO C n cx e (gf f):=by
 refine .of ?_;intro A env O T ρ α μ s E b μ' R I F h;refine aD h λV μ1 e1 h=>?_;refine ax h λb' e2 h=>?_;refine cm h ?_;refine isTrue_plain (D1 (hf.run A env O T ρ α μ s E V _ R I F e1) (λv s1 p=>?_) λzz zz x=>x) (he _ _);refine cq p λα1 I1 S1 r1=>?_;refine D1 (mc I1 r1 e2) (λc s2 q=>?_) λzz zz x=>x;refine yU q λzq0 tk zq2=>?_;refine bH zq0 ?_;refine bH (F6 zq2) ?_;exact (gS rfl α1 (I1.keeps (h':=s1.heap) λzz zz e=>e) (S1.trans (aV.keeps (s:=s1) (h':=s1.heap) (tk:=tk) λzz zz e=>e)))
noncomputable abbrev TF:=d5→List ah→Option (Bool×List ah)
def tW(f:TF):TF:= λρ μ=>bp (f ρ μ) λb μ1=>some (!b,μ1)
theorem Ic{x:Expr}{t:TF}(h:gO C n cx x t):gO C n cx (.UnaryOp .Not x pos) (tW t):=by
 refine .of ?_;intro A env O T ρ α μ s E b μ' R I F q;refine aD q λb1 μ1 e1 q=>?_;refine cm q ?_;refine wpAny_isTrue_Not (D1 (h.run A env O T ρ α μ s E b1 _ R I F e1) (λc s1 p=>?_) λzz zz x=>x);obtain ⟨rfl,p⟩:=p;exact ⟨rfl,p⟩
def Ke(f g:TF):TF:= λρ μ=>bp (f ρ μ) λb μ1=>cond b (g ρ μ1) (some (false,μ1))
theorem VN{x y:Expr}{t u:TF}(h:gO C n cx x t)(h':gO C n cx y u):gO C n cx (.BoolOp .And [x,y] pos) (Ke t u):=by
 refine .of ?_;intro A env O T ρ α μ s E b μ' R I F q;refine aD q λb1 μ1 e1 q=>?_;cases b1 with
 |true=>
  refine UI (D1 (h.run A env O T ρ α μ s E true μ1 R I F e1) (λc s1 p=>?_) λzz zz x=>x);refine im p λzq0 α1 I1 S1=>?_;refine bH (F6 zq0) ?_;rw [if_pos rfl];refine UI (D1 (h'.run A env O T ρ α1 μ1 s1 E b μ' R I1 (F.step I S1) q) (λc s2 p=>?_) λzz zz x=>x);refine im p λzq0 α2 I2 S2=>?_;refine bH zq0 ?_;cases c
  ·exact (gS rfl α2 I2 (S1.trans S2))
  ·exact isTrue_and_nil (gS rfl α2 I2 (S1.trans S2))
 |false=>
  refine cm q ?_;refine UI (D1 (h.run A env O T ρ α μ s E false _ R I F e1) (λc s1 p=>?_) λzz zz x=>x);refine im p λzq0 α1 I1 S1=>?_;refine bH (F6 zq0) ?_;exact (gS rfl α1 I1 S1)
def dw(t:TF)(f g:EF):EF:= λρ μ=>bp (t ρ μ) λb μ1=>cond b (f ρ μ1) (g ρ μ1)
theorem fW{x y z:Expr}{t:TF}(h:gO C n cx x t)(hf:ab C n cx y f)(hg:ab C n cx z g):ab C n cx (.IfExp x y z pos) (dw t f g):=by
 refine .of ?_;intro A env O T ρ α μ s E V μ' R I F q;refine aD q λb1 μ1 e1 q=>?_;refine wpAny_IfExp (D1 (h.run A env O T ρ α μ s E b1 μ1 R I F e1) (λc s1 p=>?_) λzz zz x=>x);refine im p λzq0 α1 I1 S1=>?_;refine bH (F6 zq0) ?_;cases b1 with
 |true=>
  rw [if_pos rfl];exact D1 (hf.run A env O T ρ α1 μ1 s1 E V μ' R I1 (F.step I S1) q) (λv s2 p=>bI.trans S1 p) λzz zz x=>x
 |false=>
  rw [if_neg HJ];exact D1 (hg.run A env O T ρ α1 μ1 s1 E V μ' R I1 (F.step I S1) q) (λv s2 p=>bI.trans S1 p) λzz zz x=>x
def si(f g:EF):EF:= λρ μ=>bp (f ρ μ) λV μ1=>bo (kq V μ1) λb=>cond b (g ρ μ1) (some (V,μ1))
def ZC(f g:EF):EF:= λρ μ=>bp (f ρ μ) λV μ1=>bo (kq V μ1) λb=>cond b (some (V,μ1)) (g ρ μ1)
end
end Mine
namespace Mine
open PySem PySem.W PySem.Calls PyProof.Rows PySem.SeqAt
variable {V V' : AV} {Cn D L TI TO a fa i1 i2 i3 z : Addr} {A : Around} {items zs : Array Value} {sh tup : Bool} {c c' : ah} {C : gL} {cx : Cx} {f fi fo g : EF} {cenv env : Env} {mean : ExcName → Option Value} {e e1 e2 elt iter target test : Expr} {h h' : Heap} {y : Int} {Vs : List AV} {M M' O T T' W wr α α' α1 α₀ : List Addr} {Mid : List Addr → List Addr → List Addr → List ah → Nat → Value → Shared → Prop} {μ μ' μ'' μ1 μ2 μ3 μ₀ : List ah} {fs : List EF} {es : List Expr} {K cs ns os rest : List Int} {gi ls m ps : List Nat} {X acc acc' ds xs ys : List PyData} {body orelse : List Stmt} {vs : List Value} {ρ ρ' ρ1 ρ2 : d5} {tf : d5 → PyData → Option d5} {b i j ja jt k kk low mask n p q tk : Nat} {o : Obj} {op : Operator} {ha ke td te tx : Option AV} {hi lo : Option Expr} {gg : Option Nat} {apos pos px py sp tp xp : Pos} {prog : Program} {G : Prop} {d : PyData} {sc scope : Scope} {s s' s'' s1 s₀ : Shared} {st : Stmt} {name x : Str} {t : TF} {u : Tok} {cd cls doc fv it pm v : Value} {E Q : Value → Shared → Prop} {w : World}
section
theorem bc(h:Heap)(o:Obj):∀b ob,h.get? b=some ob→(h.push o).get? b=some ob:= λzz zz e=>B8 _ e
theorem iq(h:Heap):h.get? h.objs.size=none:=by
 cases e:h.get? h.objs.size with
 |none=>rfl
 |some o=>exact absurd (Mk e) (Nat.lt_irrefl _)
theorem eI(I:bl C T α μ s)(ha:s.heap.get? a=none):a∉T++ai α μ:= λh=>by
 rcases AF.mp h with h|h
 ·refine bP (I.tdom _ h) λo e=>?_
  rw [ha] at e;exact cv e
 ·refine bP (iE (de h)) λi e=>?_
  have:i<μ.length:=I.len▸(AX.mp e).1
  have z:=I.cells i a μ[i] e (Fu this);generalize μ[i]=c at z
  cases c with
  |live xs=>refine au z λzz zp1 zz=>?_;obtain ⟨_,e⟩:=zp1;rw [ha] at e;exact cv e
  |frozen xs=>refine bm (aJ.of_list z) λzz zz e1 zp3 zz=>?_;obtain ⟨_,e⟩:=zp3;cases e1;rw [ha] at e;exact cv e
  |iter xs=>rcases z with ⟨_,_,_,⟨_,e,_⟩,_⟩| ⟨_,_,_,e,_⟩<;>rw [ha] at e<;>exact cv e
end
theorem bI.newList(I:bl C T α μ s)(hr:aw s.heap (T++ai α μ) items.toList xs):
  bI C T α μ s μ (.d (.list xs)) (.ref s.heap.objs.size) {s with heap:=s.heap.push {cls:=.type "list",data:=.seq items},toks:=tk}:=by
 refine bI.of_keeps I (bc _ _) ?_;have hf:=iq s.heap;refine aJ.list (vs:=items) ⟨_,D5 _ rfl⟩ (hr.keeps (bc _ _)) (eI I hf)
noncomputable def aT(a b:AV)(μ:List ah):Option (AV×List ah):=oe (jM a) (jM b) (λx y=>some (.d (.int (x+y)),μ)) (oe (mA a) (mA b) (λx y=>if x.length+y.length≤sizeLine then some (.d (.str (x++y)),μ) else none) (bo (dc μ a) λxs=>bo (dc μ b) λys=>if xs.length+ys.length≤sizeLine then some (.d (.list (xs++ys)),μ) else none))
theorem br:jd C n .Add aT:=by
 intro A T α μ s E a b Va Vb V μ' R I ra rb h;refine bU h (λx y ea eb h=>?_) λh=>bU h (λx y ea eb h=>i9 h λhz h=>?_) λh=>ax h λxs e1 h=>ax h λys e2 h=>i9 h λhz h=>?_
 ·refine cm h ?_
  refine bP (fN ea ra) λt zq1=>?_;refine bH (F6 zq1) ?_;refine bP (fN eb rb) λu zq1=>?_;refine bH (F6 zq1) ?_;exact PyProof.Rows.add_int (bI.tok I (aJ.int ..))
 ·refine cm h ?_
  refine bP (j0 ea ra) λt zq1=>?_;refine bH (F6 zq1) ?_;refine bP (j0 eb rb) λu zq1=>?_;refine bH (F6 zq1) ?_;exact PyProof.Rows.add_str (λt' tk=>bI.tok I (aJ.str ..)) hz
 ·refine cm h ?_
  refine bm (ra.isList I e1) λl i1 zq2 zp3 r1=>?_;refine bH (F6 zq2) ?_;refine bP zp3 λn1 h1=>?_;refine bm (rb.isList I e2) λl2 i2 zq2 zp3 r2=>?_;refine bH (F6 zq2) ?_;refine bP zp3 λn2 h2=>?_;refine P.add_list h1 h2 ?_ (by have:=r1.length;have:=r2.length;simp at*;lia);exact bI.newList (tk:=s.toks) I (by rw [PC];exact r1.append r2)
noncomputable def aS(o:Int→Int→Option Int)(a b:AV)(μ:List ah):Option (AV×List ah):=bo (jM a) λx=>bo (jM b) λy=>bo (o x y) λz=>some (.d (.int z),μ)
theorem jR{o:Int→Int→Option Int}(h:∀ (A:Around) (s:Shared) (E:Value→Shared→Prop) (x y z:Int) (t u:Tok) (Q:Value→Shared→Prop),o x y=some z→Q (.int z s.toks) {s with toks:=s.toks+1}→wpAny (model C.prog C.w) A (binaryOp op (.int x t) (.int y u)) Q E s):jd C n op (aS o):=by
 intro A T α μ s E a b Va Vb V μ' R I ra rb q;refine ax q λx ea q=>ax q λy eb q=>ax q λz e q=>?_;refine cm q ?_;refine bP (fN ea ra) λt zq1=>?_;refine bH (F6 zq1) ?_;refine bP (fN eb rb) λu zq1=>?_;refine bH (F6 zq1) ?_;exact h A s E x y z t u _ e (bI.tok I (aJ.int ..))
noncomputable def cP(x y:Int):Option Int:=if y=0∨2^64≤y.natAbs then none else some (x.fdiv y)
noncomputable def cu(x y:Int):Option Int:=if y=0 then none else some (x.fmod y)
noncomputable def gk(x y:Int):Option Int:=if 0≤y∧y≤1000000∧x.natAbs<2^64 then some (x^y.toNat) else none
noncomputable def DN(x y:Int):Option Int:=if 0≤y∧y≤1000000∧x.natAbs<2^64 then some (x*2^y.toNat) else none
theorem i_:jd C n .Sub (aS λx y=>some (x-y)):=jR λA s E x y z t u Q e=>cA e λq=>PyProof.Rows.sub_int q
theorem eN:jd C n .FloorDiv (aS cP):=jR λA s E x y z t u Q e=>by
 by_cases h:y=0∨2^64≤y.natAbs
 ·exact cv ((if_pos h).symm.trans e)
 ·refine cA ((if_neg h).symm.trans e) λq=>?_
  refine PyProof.Rows.floordiv_int (λz=>h (.inl z)) q (.inl (PyProof.noPylong_of_log2 ?_))
  by_cases hz:y.natAbs=0
  ·rw [hz];decide
  ·have:y.natAbs.log2<64:=(Nat.log2_lt hz).mpr (by lia)
   lia
theorem dt:jd C n .Mod (aS cu):=jR λA s E x y z t u Q e=>by
 by_cases h:y=0
 ·exact cv ((if_pos h).symm.trans e)
 ·exact cA ((if_neg h).symm.trans e) λq=>PyProof.Rows.mod_int h q
theorem iZ:jd C n .Pow (aS gk):=jR λA s E x y z t u Q e=>by
 exact i9 e λh e=>cA e λq=>pow_int_small h.1 h.2.1 h.2.2 q
theorem UA:jd C n .LShift (aS DN):=jR λA s E x y z t u Q e=>by
 exact i9 e λh e=>cA e λq=>lshift_int_small h.1 h.2.1 h.2.2 q
theorem qU:jd C n .BitAnd (aS λx y=>some (D3 x y)):=jR λA s E x y z t u Q e=>cA e λq=>PyProof.Rows.and_int q
noncomputable def n6(xs:List PyData):Nat→List PyData
 |0=>[]
 |k+1=>xs++n6 xs k
noncomputable def la(a b:AV)(μ:List ah):Option (AV×List ah):=bo (jM b) λy=>oe (jM a) (some ()) (λx zz=>if x.natAbs<2^64∨y.natAbs<2^64 then some (.d (.int (x*y)),μ) else none) (bo (dc μ a) λxs=>if xs.length*y.toNat≤2^24∧y.natAbs<2^63 then some (.d (.list (n6 xs y.toNat)),μ) else none)
theorem Jf(xs:List PyData):∀k,(n6 xs k).length=xs.length*k
 |0=>by simp [n6]
 |k+1=>by rw [n6,be,Jf xs k,Nat.mul_succ,Nat.add_comm]
theorem vm(vs:Array Value):∀ (k:Nat) (acc:Array Value),(List.foldl (λa b=>a++b) acc (Hp k vs)).toList=acc.toList++(Hp k vs.toList).flatten
 |0,acc=>by simp
 |k+1,acc=>by
  rw [NE,List.foldl_cons,vm vs k,PC,NE,H9,ER]
theorem sS(r:aw h M vs xs):∀k,aw h M (Hp k vs).flatten (n6 xs k)
 |0=>by simpa [n6] using aw.nil h M
 |k+1=>by rw [NE,H9,n6];exact r.append (sS r k)
theorem rg{l:Addr}{x:Int}
  (hl:s.heap.get? l=some {cls:=.type "list",dict:=none,data:=.seq items k,slots:= #[]})
  (hlo: -(2^63:Int)≤x) (hhi:x<2^63) (hsz:items.size*x.toNat≤2^24)
  (h:Q (.ref s.heap.objs.size) {s with heap:=s.heap.push {cls:=.type "list",data:=.seq (List.foldl (λx1 x2=>x1++x2) #[] (Hp (if items.isEmpty=true then 0 else x.toNat) items))}}):
  wpAny (model prog w) A (binaryOp .Mult (.ref l) (.int x u)) Q E s:=
 wpAny_binaryOp_repeat_ref (T:="list") (U:="int") (by decide) ⟨_,hl,rfl⟩ (λs'=>typeIs_int s' x u) noFill_list_mul F.fills_int_mul F.slot_int_rmul repeat_list F.slot_int_index.lookup
  (UN F.slot_int_rmul (typeIs_int s x u) F.entry_int_rmul (F.args_int_rmul_2 _ _) (int___rmul___int_list x u l items k)
   ⟨hl,rfl,⟨_,hl,rfl⟩,UN F.slot_list_mul ⟨_,hl,rfl⟩ F.entry_list_mul (F.args_list_mul_2 _ _)
    (AutoListH.list___mul___list_int_3 l items k x u (by simp [Builtin.List.listFitsIndex];lia) (by lia) (by simp [Qn,sizeLine];lia))
    ⟨hl,h⟩⟩)
theorem Hn{x:Int}(h:x.natAbs<2^64):HL x≤64:=intBits_le_64 (by omega) (by omega)
theorem qq:jd C n .Mult la:=by
 intro A T α μ s E a b Va Vb V μ' R I ra rb h;refine ax h λy eb h=>bU h (λx zz ea zz h=>i9 h λhz h=>?_) λh=>ax h λxs e1 h=>i9 h λhz h=>?_
 ·refine cm h ?_
  refine bP (fN ea ra) λt zq1=>?_;refine bH (F6 zq1) ?_;refine bP (fN eb rb) λu zq1=>?_;refine bH (F6 zq1) ?_;refine PyProof.Rows.mul_int (bI.tok I (aJ.int ..)) ?_;exact hz.elim (λhz=>IntMulOk.of_left (Hn hz)) λhz=>IntMulOk.of_right (Hn hz)
 ·refine cm h ?_
  refine bm (ra.isList I e1) λl i1 zq2 zp3 r1=>?_;refine bH (F6 zq2) ?_;refine bP zp3 λn1 h1=>?_;refine bP (fN eb rb) λu zq1=>?_;refine bH (F6 zq1) ?_;have hs:i1.size=xs.length:=by rw [←r1.length];simp
  refine rg h1 (by omega) (by omega) (by rw [hs];exact hz.1) ?_;refine bI.newList (tk:=s.toks) I ?_;rw [vm];have e2:(#[]:Array Value).toList++(Hp (if i1.isEmpty=true then 0 else y.toNat) i1.toList).flatten=(Hp y.toNat i1.toList).flatten:=by
   by_cases he:i1.isEmpty=true
   ·have:i1= #[]:=by simpa using he
    refine bH (F6 this) ?_;simp
   ·rw [if_neg he];rfl
  rw [e2];exact sS r1 _
noncomputable def ef(o:Int→Int→Bool)(a b:AV)(_:List ah):Option Bool:=bo (jM a) λx=>bo (jM b) λy=>some (o x y)
theorem p6{op:CmpOp}{o:Int→Int→Bool}(h:∀ (A:Around) (s:Shared) (E:Value→Shared→Prop) (x y:Int) (t u:Tok) (Q:Value→Shared→Prop),Q (.bool (o x y)) s→wpAny (model C.prog C.w) A (compareOp op (.int x t) (.int y u)) Q E s):gP C n op (ef o):=by
 intro A T α μ s E a b Va Vb r R I ra rb q;refine ax q λx ea q=>ax q λy eb q=>?_;refine cA q ?_;refine bP (fN ea ra) λt zq1=>?_;refine bH (F6 zq1) ?_;refine bP (fN eb rb) λu zq1=>?_;refine bH (F6 zq1) ?_;exact h A s E x y t u _ ⟨rfl,s.toks,rfl⟩
theorem rz:gP C n .Lt (ef λx y=>decide (x<y)):=p6 λA s E x y t u Q q=>PyProof.Rows.lt_int q
theorem Ih:gP C n .Gt (ef λx y=>decide (y<x)):=p6 λA s E x y t u Q q=>PyProof.Rows.gt_int q
theorem Rs:gP C n .GtE (ef λx y=>decide (y≤x)):=p6 λA s E x y t u Q q=>PyProof.Rows.ge_int q
noncomputable def UC(μ:List ah)(V:AV):Option PyData:=oe (vd V) (some ()) (λx zz=>some x) (bo (dc μ V) λxs=>some (.list xs))
theorem bq.readsL(I:bl C T α μ s)(r:bq s.heap α (T++ai α μ) v V)(h:dc μ V=some xs):∃as,Reads s.heap v (.list xs) as:=by
 refine bm (r.isList I h) λa items zq2 zp3 rr=>?_;refine bH (F6 zq2) ?_;refine bP zp3 λn e1=>?_;refine bP rr.readsAll λas rr=>?_;exact ⟨_,.list e1 rfl rfl rr⟩
theorem bq.reads(I:bl C T α μ s)(r:bq s.heap α (T++ai α μ) v V)(h:UC μ V=some d):∃as,Reads s.heap v d as:=by
 refine bU h (λx zz ex zz h=>?_) λh=>ax h λxs e h=>?_
 ·refine cA h ?_
  rw [iO ex] at r
  exact aJ.reads r
 ·refine cA h ?_
  exact r.readsL I e
noncomputable def dK(a b:AV)(μ:List ah):Option Bool:=oe (jM a) (jM b) (λx y=>some (x==y)) (oe (mA a) (mA b) (λx y=>some (x==y)) (oe (Nv a) (Nv b) (λx y=>some (x==y)) (oe (UC μ a) (UC μ b) (λx y=>if shaped x=true∧shaped y=true then some (Mv x y) else none) none)))
noncomputable def pe(a b:AV)(μ:List ah):Option Bool:=bo (dK a b μ) λr=>some (!r)
theorem dR:gP C n .Eq dK:=by
 intro A T α μ s E a b Va Vb r R I ra rb h;refine bU h (λx y ea eb h=>?_) λh=>bU h (λx y ea eb h=>?_) λh=>bU h (λx y ea eb h=>?_) λh=>bU h (λx y e1 e2 h=>i9 h λhs h=>?_) λh=>cv h
 ·refine cA h ?_
  refine bP (fN ea ra) λt zq1=>?_;refine bH (F6 zq1) ?_;refine bP (fN eb rb) λu zq1=>?_;refine bH (F6 zq1) ?_;exact PyProof.Rows.eq_int (j8 rfl s.toks rfl)
 ·refine cA h ?_
  refine bP (j0 ea ra) λt zq1=>?_;refine bH (F6 zq1) ?_;refine bP (j0 eb rb) λu zq1=>?_;refine bH (F6 zq1) ?_;exact PyProof.Rows.eq_str (j8 rfl s.toks rfl)
 ·refine cA h ?_
  rw [xg ea ra,xg eb rb];exact PyProof.Rows.eq_bool (j8 rfl s.toks rfl)
 ·refine cA h ?_
  refine bP (ra.reads I e1) λas r1=>?_;refine bP (rb.reads I e2) λbs r2=>?_;exact compareEq_shaped r1 r2 hs.1 hs.2 (by have:=R.units;lia) (j8 rfl s.toks rfl)
theorem s_:gP C n .NotEq pe:=by
 intro A T α μ s E a b Va Vb r R I ra rb h;refine ax h λr1 h1 h=>cA h ?_;refine bU h1 (λx y ea eb h=>?_) λh=>bU h (λx y ea eb h=>?_) λh=>bU h (λx y ea eb h=>?_) λh=>bU h (λx y e1 e2 h=>i9 h λhs h=>?_) λh=>cv h
 ·refine cA h ?_
  refine bP (fN ea ra) λt zq1=>?_;refine bH (F6 zq1) ?_;refine bP (fN eb rb) λu zq1=>?_;refine bH (F6 zq1) ?_;exact PyProof.Rows.ne_int (j8 rfl s.toks rfl)
 ·refine cA h ?_
  refine bP (j0 ea ra) λt zq1=>?_;refine bH (F6 zq1) ?_;refine bP (j0 eb rb) λu zq1=>?_;refine bH (F6 zq1) ?_;exact PyProof.Rows.ne_str (j8 rfl s.toks rfl)
 ·refine cA h ?_
  rw [xg ea ra,xg eb rb];exact PyProof.Rows.ne_bool (j8 rfl s.toks rfl)
 ·refine cA h ?_
  refine bP (ra.reads I e1) λas r1=>?_;refine bP (rb.reads I e2) λbs r2=>?_;exact compareNe_shaped r1 r2 hs.1 hs.2 (by have:=R.units;lia) (j8 rfl s.toks rfl)
noncomputable def WG(a b:AV)(μ:List ah):Option Bool:=oe (mA a) (mA b) (λx y=>some (!(Lz y x 0 y.length 1).isEmpty)) (oe (vd a) (dc μ b) (λx ys=>if La ys=true∧shaped x=true then some (ys.any λy=>Mv y x) else none) none)
noncomputable def lO(a b:AV)(μ:List ah):Option Bool:=bo (WG a b μ) λr=>some (!r)
theorem Yj:gP C n .In WG:=by
 intro A T α μ s E a b Va Vb r R I ra rb h;refine bU h (λx y ea eb h=>?_) λh=>bU h (λx ys e1 e h=>i9 h λhs h=>?_) λh=>cv h
 ·refine cA h ?_
  refine bP (j0 ea ra) λt zq1=>?_;refine bH (F6 zq1) ?_;refine bP (j0 eb rb) λu zq1=>?_;refine bH (F6 zq1) ?_;exact PyProof.Rows.in_str (j8 rfl s.toks rfl)
 ·refine cA h ?_
  rw [iO e1] at ra
  refine bP (aJ.reads ra) λas r1=>?_;refine bP (rb.readsL I e) λbs r2=>?_;exact Q3 r2 r1 hs.1 (canLay_of_shaped hs.2) (by have:=R.units;have:=depth_of_shaped hs.2;lia) (j8 rfl s.toks rfl)
theorem xD:gP C n .NotIn lO:=by
 intro A T α μ s E a b Va Vb r R I ra rb h;refine ax h λr1 h1 h=>cA h ?_;refine bU h1 (λx y ea eb h=>?_) λh=>bU h (λx ys e1 e h=>i9 h λhs h=>?_) λh=>cv h
 ·refine cA h ?_
  refine bP (j0 ea ra) λt zq1=>?_;refine bH (F6 zq1) ?_;refine bP (j0 eb rb) λu zq1=>?_;refine bH (F6 zq1) ?_;exact PyProof.Rows.notIn_str (j8 rfl s.toks rfl)
 ·refine cA h ?_
  rw [iO e1] at ra
  refine bP (aJ.reads ra) λas r1=>?_;refine bP (rb.readsL I e) λbs r2=>?_;exact PySem.SeqAt.notIn_list_reads r2 r1 hs.1 (canLay_of_shaped hs.2) (by have:=R.units;have:=depth_of_shaped hs.2;lia) (j8 rfl s.toks rfl)
noncomputable def LF(a b:AV)(_:List ah):Option Bool:=oe (Nv a) (Nv b) (λx y=>some (x==y)) (oe (OM a) (OM b) (λzz zz=>some true) (oe (jM a) (OM b) (λzz zz=>some false) none))
theorem xG:gP C n .Is LF:=by
 intro A T α μ s E a b Va Vb r R I ra rb h;refine bU h (λx y ea eb h=>?_) λh=>bU h (λx y ea eb h=>?_) λh=>bU h (λx y ea eb h=>?_) λh=>cv h
 ·refine cA h ?_
  rw [xg ea ra,xg eb rb];exact PyProof.Rows.is_bool (j8 rfl s.toks rfl)
 ·refine cA h ?_
  rw [D9 ea ra,D9 eb rb];exact is_none_gen (j8 rfl s.toks rfl)
 ·refine cA h ?_
  refine bP (fN ea ra) λt zq1=>?_;refine bH (F6 zq1) ?_;rw [D9 eb rb];exact is_none_gen (j8 rfl s.toks rfl)
section
variable {k:EF}
def jB(f:EF):EF:= λρ μ=>bp (f ρ μ) λV μ1=>bo (jM V) λx=>some (.d (.int (-x)),μ1)
theorem ny{x:Expr}(hf:ab C n cx x f):ab C n cx (.UnaryOp .USub x pos) (jB f):=by
 refine .of ?_;intro A env O T ρ α μ s E V μ' R I F h;refine aD h λV1 μ1 e1 h=>ax h λx ex h=>?_;refine cm h ?_;refine wpAny_UnaryOp (D1 (hf.run A env O T ρ α μ s E _ _ R I F e1) (λv s1 p=>?_) λzz zz x=>x);refine cq p λα1 I1 S1 r1=>?_;refine bP (fN ex r1) λt zq1=>?_;refine bH (F6 zq1) ?_;exact PyProof.Rows.neg_int (bI.trans S1 (bI.tok I1 (aJ.int ..)))
def zM(f:EF):EF:= λρ μ=>bp (f ρ μ) λV μ1=>bo (kq V μ1) λb=>some (.d (.bool (!b)),μ1)
theorem Un{x:Expr}(hf:ab C n cx x f):ab C n cx (.UnaryOp .Not x pos) (zM f):=by
 refine .of ?_;intro A env O T ρ α μ s E V μ' R I F h;refine aD h λV1 μ1 e1 h=>?_;refine ax h λb e2 h=>?_;refine cm h ?_;refine wpAny_UnaryOp (D1 (hf.run A env O T ρ α μ s E _ _ R I F e1) (λv s1 p=>?_) λzz zz x=>x);refine cq p λα1 I1 S1 r1=>?_;refine not_of (D1 (mc I1 r1 e2) (λc s2 q=>?_) λzz zz x=>x);refine yU q λzq0 tk zq2=>?_;refine bH zq0 ?_;refine bH (F6 zq2) ?_;exact bI.trans S1 (bI.tok I1 (aJ.bool ..))
theorem xZ{x y:Expr}(hf:ab C n cx x f)(hg:ab C n cx y g):ab C n cx (.BoolOp .And [x,y] pos) (si f g):=by
 refine .of ?_;intro A env O T ρ α μ s E V μ' R I F h;refine (?_:wpAny _ A (do let v←eval x env;standAt pos;let t←holding [v] (truthy v);match BoolOp.And,t with| .And,false| .Or,true=>pure v|_,_=>boolOp pos .And [eval y env]) _ _ s);refine aD h λV1 μ1 e1 h=>ax h λb e2 h=>?_;refine zm (D1 (hf.run A env O T ρ α μ s E _ _ R I F e1) (λv s1 p=>?_) λzz zz x=>x);refine cq p λα1 I1 S1 r1=>?_;refine zm (Ln (zm (Lc ?_)));refine D1 (mc I1 r1 e2) (λc s2 q=>?_) λzz zz x=>x;refine yU q λzq0 tk zq2=>?_;refine bH (F6 zq0) ?_;refine bH (F6 zq2) ?_;have S2:=aV.keeps (α:=α1) (μ:=μ1) (s:=s1) (h':=s1.heap) (tk:=tk) λzz zz e=>e;cases b with
 |true=>
  refine D1 (hg.run A env O T ρ α1 μ1 _ E V μ' R (I1.keeps (h':=s1.heap) λzz zz e=>e) ((F.step I S1).step I1 S2) h) (λv2 s3 p=>bI.trans (S1.trans S2) p) λzz zz x=>x
 |false=>
  refine cm h ?_;exact EY (bI.trans S1 (bI.tok I1 r1))
theorem ae7{x y:Expr}(hf:ab C n cx x f)(hg:ab C n cx y g):ab C n cx (.BoolOp .Or [x,y] pos) (ZC f g):=by
 refine .of ?_;intro A env O T ρ α μ s E V μ' R I F h;refine (?_:wpAny _ A (do let v←eval x env;standAt pos;let t←holding [v] (truthy v);match BoolOp.Or,t with| .And,false| .Or,true=>pure v|_,_=>boolOp pos .Or [eval y env]) _ _ s);refine aD h λV1 μ1 e1 h=>ax h λb e2 h=>?_;refine zm (D1 (hf.run A env O T ρ α μ s E _ _ R I F e1) (λv s1 p=>?_) λzz zz x=>x);refine cq p λα1 I1 S1 r1=>?_;refine zm (Ln (zm (Lc ?_)));refine D1 (mc I1 r1 e2) (λc s2 q=>?_) λzz zz x=>x;refine yU q λzq0 tk zq2=>?_;refine bH (F6 zq0) ?_;refine bH (F6 zq2) ?_;have S2:=aV.keeps (α:=α1) (μ:=μ1) (s:=s1) (h':=s1.heap) (tk:=tk) λzz zz e=>e;cases b with
 |true=>
  refine cm h ?_;exact EY (bI.trans S1 (bI.tok I1 r1))
 |false=>
  refine D1 (hg.run A env O T ρ α1 μ1 _ E V μ' R (I1.keeps (h':=s1.heap) λzz zz e=>e) ((F.step I S1).step I1 S2) h) (λv2 s3 p=>bI.trans (S1.trans S2) p) λzz zz x=>x
end
noncomputable def fj(h:Heap)(α M:List Addr):List Value→List AV→Prop
 | [],[]=>True
 |v::vs,V::Vs=>bq h α M v V∧fj h α M vs Vs
 |_,_=>False
theorem fj.step0(x:aV [] α μ s α' μ' s'):∀ {vs:List Value} {Vs:List AV},fj s.heap α (T++ai α μ) vs Vs→fj s'.heap α' (T++ai α' μ') vs Vs
 | [],[],_=>trivial
 |_::_,_::_,r=>⟨r.1.step0 x,fj.step0 x r.2⟩
 | [],_::_,r=>r.elim
 |_::_,[],r=>r.elim
noncomputable def fh:List EF→d5→List ah→Option (List AV×List ah)
 | [],_,μ=>some ([],μ)
 |f::fs,ρ,μ=>bp (f ρ μ) λV μ1=>bp (fh fs ρ μ1) λVs μ2=>some (V::Vs,μ2)
theorem zR(h:f ρ μ=some (V,μ')):fh [f] ρ μ=some ([V],μ'):=by
 refine (?_:bp (f ρ μ) _=_);refine rA h ?_;rfl
structure dg (C:gL) (n:Nat) (cx:Cx) (es:List Expr) (fs:List EF):Prop where
 of::
 run:∀A env O T ρ α μ s E Vs μ' pos,cR A n→bl C T α μ s→bi C cx env O ρ s.heap α (T++ai α μ)→fh fs ρ μ=some (Vs,μ')→
  wpAny (model C.prog C.w) A (spliced (backTo pos (starEach es env))) (λvs s'=>∃α',bl C T α' μ' s'∧aV [] α μ s α' μ' s'∧fj s'.heap α' (T++ai α' μ') vs Vs) E s
section
theorem ae:dg C n cx [] []:=by
 refine .of ?_;intro A env O T ρ α μ s E Vs μ' pos R I F h;refine cm h ?_;exact SJ (cL α I (aV.refl _ _ _ _) trivial)
theorem dF(hs:∀env,starEach (e::es) env=(false,eval e env)::starEach es env)(hf:ab C n cx e f)(hg:dg C n cx es fs):dg C n cx (e::es) (f::fs):=by
 refine .of ?_;intro A env O T ρ α μ s E Vs μ' pos R I F h;refine aD h λV μ1 e1 h=>?_;refine aD h λVs2 μ2 e2 h=>?_;refine cm h ?_;rw [hs env];refine RL (D1 (hf.run A env O T ρ α μ s E V μ1 R I F e1) (λv s1 p=>?_) λzz zz x=>x);refine cq p λα1 I1 S1 r1=>?_;refine D1 (hg.run A env O T ρ α1 μ1 s1 E _ _ pos R I1 (F.step I S1) e2) (λvs s2 p=>?_) λzz zz x=>x;refine cq p λα2 I2 S2 r2=>?_;exact (d4 α2 I2 (S1.trans S2) (r1.step0 S2) r2)
end
theorem mI:∀ {α:List Addr} {μ:List ah} {i:Nat} {a:Addr} {c:ah},α.Nodup→α[i]? =some a→c.isMut=false→a∉ai α (μ.set i c)
 | [],_,_,_,_,_,h,_=>by simp at h
 |_::_,[],_,_,_,_,_,_=>by simp [ai]
 |b::α,c₀::μ,0,a,c,hn,h,hc=>by
  simp at h;refine bH h ?_
  simp only [T3,ai,hc];intro q;exact (KF.mp hn).1 (de q)
 |b::α,c₀::μ,i+1,a,c,hn,h,hc=>by
  simp only [PW,ai];have h':α[i]? =some a:=by simpa using h
  have ha:a∈α:=GR h';have q:=mI (μ:=μ) (c:=c) (KF.mp hn).2 h' hc
  split
  ·intro z
   rcases Cp.mp z with rfl|z
   ·exact (KF.mp hn).1 ha
   ·exact q z
  ·exact q
theorem Bw(h:(μ.set i c)[j]? =some c'):(j=i∧c'=c)∨(j≠i∧μ[j]? =some c'):=by
 rw [Qp] at h
 by_cases q:i=j
 ·rw [if_pos q] at h
  split at h
  ·exact .inl ⟨q.symm,(Fi h).symm⟩
  ·exact cv h
 ·rw [if_neg q] at h
  exact .inr ⟨λz=>q z.symm,h⟩
noncomputable def am8(μ:List ah)(i:Nat):ah→Option (PyData×List ah)
 | .live xs=>some (.list xs,μ.set i (.frozen xs))
 | .frozen xs=>some (.list xs,μ)
 | .iter _=>none
noncomputable def vC(V:AV)(μ:List ah):Option (PyData×List ah):=oe (vd V) (some ()) (λx zz=>some (x,μ)) (bo (Fk V) λi=>bo (μ[i]?) λc=>am8 μ i c)
theorem d_.mono(x:d_ h M a c)(hm:∀a∈M',a∈M):d_ h M' a c:=by
 cases c with
 |live xs=>refine au x λitems p r=>?_;exact (aZ items p (r.mono hm))
 |frozen xs=>exact aJ.mono x hm
 |iter xs=>
  rcases x with ⟨l,k,items,p,q,hl,hk,r⟩|x
  ·exact .inl (i7 l k items p q (λz=>hl (hm _ z)) hk (r.mono hm))
  ·exact .inr x
theorem tz(I:bl C T α μ s)(r:bq s.heap α (T++ai α μ) v V)(h:vC V μ=some (d,μ')):
  bl C T α μ' s∧aV [] α μ s α μ' s∧aJ s.heap (T++ai α μ') v d:=by
 refine bU h (λx zz ex zz h=>?_) λh=>ax h λi ei h=>ax h λc e h=>?_
 ·refine cm h ?_
  rw [iO ex] at r
  exact (fu I (aV.refl _ _ _ _) r)
 refine au (IY ei r) λa ha zq2=>?_;refine bH (F6 zq2) ?_;cases c with
 |live xs=>
  refine cm h ?_;have sub:∀b∈ai α (μ.set i (.frozen xs)),b∈ai α μ:= λb hb=>qt hb λc₀ e0 q=>by cases q
  have subT:∀b∈T++ai α (μ.set i (.frozen xs)),b∈T++ai α μ:= λb hb=>(AF.mp hb).elim (λq=>yx _ q) λq=>CO _ (sub b q);refine au (I.cells i a _ ha e) λitems hp rr=>?_;have key:aJ s.heap (T++ai α (μ.set i (.frozen xs))) (.ref a) (.list xs):=aJ.list hp (rr.mono subT) λz=>by
   rcases AF.mp z with z|z
   ·exact I.apart a z (GR ha)
   ·exact mI I.nodup ha rfl z
  refine (fu ⟨I.keep,by rw [LD];exact I.len,λj b c h1 h2=>?_,I.nodup,I.apart,I.tdom,I.tnew,I.new,I.gens,I.os⟩ (⟨⟨[],by simp,by simp⟩,g7.refl _ _,λb hb=>.inl (sub b hb),λzz o e=>⟨o,e⟩,λzz zz e=>e⟩) key)
  rcases Bw h2 with ⟨rfl,rfl⟩| ⟨_,h2⟩
  ·rw [ha] at h1;refine cA h1 ?_
   exact key
  ·exact (I.cells j b c h1 h2).mono subT
 |frozen xs=>
  refine cm h ?_;exact (fu I (aV.refl _ _ _ _) (I.cells i a _ ha e))
 |iter xs=>exact cv h
noncomputable def lM:List AV→List ah→Option (List PyData×List ah)
 | [],μ=>some ([],μ)
 |V::Vs,μ=>bp (vC V μ) λd μ1=>bp (lM Vs μ1) λds μ2=>some (d::ds,μ2)
theorem jC:∀ {vs:List Value} {Vs:List AV} {μ μ':List ah} {ds:List PyData},bl C T α μ s→fj s.heap α (T++ai α μ) vs Vs→lM Vs μ=some (ds,μ')→
  bl C T α μ' s∧aV [] α μ s α μ' s∧aw s.heap (T++ai α μ') vs ds
 | [],[],μ,μ',ds,I,r,h=>by refine cm h ?_;exact (fu I (aV.refl _ _ _ _) (aw.nil _ _))
 | [],_::_,_,_,_,_,r,_=>r.elim
 |_::_,[],_,_,_,_,r,_=>r.elim
 |v::vs,V::Vs,μ,μ',ds,I,r,h=>by
  refine aD h λd μ1 e1 h=>?_;refine aD h λds2 μ2 e2 h=>?_;refine cm h ?_;refine dW (tz I r.1 e1) λI1 S1 r1=>?_;refine dW (jC I1 (fj.step0 S1 r.2) e2) λI2 S2 r2=>?_;exact (fu I2 (S1.trans S2) (.cons (r1.step0 S2) r2))
def cW(fs:List EF):EF:= λρ μ=>bp (fh fs ρ μ) λVs μ1=>bp (lM Vs μ1) λds μ2=>if ds.length≤sizeLine then some (.d (.tuple ds),μ2) else none
def aU(fs:List EF):EF:= λρ μ=>bp (fh fs ρ μ) λVs μ1=>bp (lM Vs μ1) λds μ2=>if ds.length≤sizeLine then some (.d (.list ds),μ2) else none
section
theorem cY(h:dg C n cx es fs):ab C n cx (.Tuple es k pos) (cW fs):=by
 refine .of ?_;intro A env O T ρ α μ s E V μ' R I F q;refine aD q λVs μ1 e1 q=>?_;refine aD q λds μ2 e2 q=>?_;refine i9 q λhz q=>?_;refine cm q ?_;refine Tuple_ (D1 (h.run A env O T ρ α μ s E Vs μ1 pos R I F e1) (λvs s1 p=>?_) λzz zz x=>x);refine cq p λα1 I1 S1 r1=>?_;refine dW (jC I1 r1 e2) λI2 S2 r2=>?_;refine Il (bI.trans (S1.trans S2) (bI.of_keeps (tk:=s1.toks) I2 (bc _ _) ?_)) (by show vs.toArray.size≤sizeLine;rw [P2,r2.length];exact hz);exact aJ.tuple (D5 _ rfl) rfl rfl ((by simpa using r2:aw s1.heap (T++ai α1 _) vs.toArray.toList ds).keeps (bc _ _)) (eI I2 (iq _))
theorem bb(h:dg C n cx es fs):ab C n cx (.List es pos) (aU fs):=by
 refine .of ?_;intro A env O T ρ α μ s E V μ' R I F q;refine aD q λVs μ1 e1 q=>?_;refine aD q λds μ2 e2 q=>?_;refine i9 q λhz q=>?_;refine cm q ?_;refine List_ (D1 (h.run A env O T ρ α μ s E Vs μ1 pos R I F e1) (λvs s1 p=>?_) λzz zz x=>x);refine cq p λα1 I1 S1 r1=>?_;refine dW (jC I1 r1 e2) λI2 S2 r2=>?_;exact Il (bI.trans (S1.trans S2) (bI.newList (tk:=s1.toks) I2 (by simpa using r2))) (by show vs.toArray.size≤sizeLine;rw [P2,r2.length];exact hz)
end
noncomputable def v8(μ:List ah)(V:AV):Option (List PyData):=oe (GX V) (some ()) (λxs zz=>some xs) (dc μ V)
noncomputable def JY(V:AV)(k:Int)(μ:List ah):Option PyData:=if-(2^63)≤k∧k<2^63 then bo (v8 μ V) λxs=>bo (seqIndex? k xs.length) λj=>xs[j]? else none
theorem o8{l:Addr}{k:Int}{t:Tok}{x:Value}
  (hl:s.heap.IsList l items) (hlo: -(2^63)≤k) (hhi:k<2^63) (hj:seqIndex? k items.size=some j) (hx:items[j]? =some x) (h:Q x s):wpAny (model prog w) A (getItem (.ref l) (.int k t)) Q E s:=by
 unfold seqIndex? at hj
 by_cases hk:k<0
 ·rw [if_pos hk] at hj
  refine i9 hj λq hj=>?_;cases hj;simp only [Fe,decide_eq_true_eq] at q
  exact wpAny_getItem_list_neg hl hk (by lia) hlo hx h
 ·rw [if_neg hk] at hj
  refine i9 hj λq hj=>?_;cases hj;exact wpAny_getItem_list hl (by lia) hhi hx h
theorem OV{k:Int}{t:Tok}{value slice:Expr}(I:bl C T α μ s)(r:bq s.heap α (T++ai α μ) v V)(h:JY V k μ=some d)
  (hs:∀o i,subscripted slice false o i=operate [o,i] (getItem o i)):wpAny (model C.prog C.w) A (subscriptTail value slice v (.int k t)) (λv' s'=>s'=s∧aJ s.heap (T++ai α μ) v' d) E s:=by
 refine i9 h λhk h=>ax h λxs e1 h=>ax h λj e2 h=>?_;refine bU e1 (λxs' zz ex zz q=>?_) λe1=>?_
 ·have q':=Fi q
  subst q';refine bm (Kd ex r) λa items zq2 ht r1=>?_;refine bH (F6 zq2) ?_;refine au (r1.get h) λx e3 r2=>?_;have e4:items[j]? =some x:=by simpa using e3
  refine Sg (o:=.ref a) (T:="tuple") (by refine cq ht λo ho hc zz=>?_;exact (aZ o ho hc)) T4.lookup (PyProof.Rows.getItem_tuple ht hk.1 hk.2 (j:=j) ?_ e4 ⟨rfl,r2⟩) (hs _ _);rw [show items.size=xs'.length from by rw [←r1.length];simp];exact e2
 ·refine bm (r.isList I e1) λa items zq2 hl r1=>?_
  refine bH (F6 zq2) ?_;refine au (r1.get h) λx e3 r2=>?_;have e4:items[j]? =some x:=by simpa using e3
  refine Sg hl.isList.typeIs Qr.lookup (o8 hl.isList hk.1 hk.2 (j:=j) ?_ e4 ⟨rfl,r2⟩) (hs _ _);rw [show items.size=xs.length from by rw [←r1.length];simp];exact e2
def aF(f g:EF):EF:= λρ μ=>bp (f ρ μ) λV μ1=>bp (g ρ μ1) λK μ2=>bo (jM K) λk=>bo (JY V k μ2) λd=>some (.d d,μ2)
section
theorem bj{x y:Expr}(hf:ab C n cx x f)(hg:ab C n cx y g)(hs:∀o i,subscripted y false o i=operate [o,i] (getItem o i)):ab C n cx (.Subscript x y pos) (aF f g):=by
 refine .of ?_;intro A env O T ρ α μ s E V μ' R I F h;refine aD h λV1 μ1 e1 h=>aD h λK μ2 e2 h=>ax h λk ek h=>ax h λd e3 h=>?_;refine cm h ?_;refine Ts (oq hf hg R I F e1 e2 λa b s2 α2 I2 S2 ra rb=>?_);refine bP (fN ek rb) λt zq1=>?_;refine bH (F6 zq1) ?_;refine D1 (OV I2 ra e3 hs) (λv s3 p=>?_) λzz zz x=>x;refine f_ p λzq0 r=>?_;refine bH (F6 zq0) ?_;exact (cL α2 I2 S2 r)
end
noncomputable abbrev PF:=d5→List ah→Option (Option Int×List ah)
structure lm (C:gL) (n:Nat) (cx:Cx) (e:Option Expr) (f:PF):Prop where
 of::
 run:∀A env O T ρ α μ s E k μ',cR A n→bl C T α μ s→bi C cx env O ρ s.heap α (T++ai α μ)→f ρ μ=some (k,μ')→
  wpAny (model C.prog C.w) A (evalPart e env) (λv s'=>∃α',bl C T α' μ' s'∧aV [] α μ s α' μ' s'∧IsPart v k) E s
def aL(f:EF):PF:= λρ μ=>bp (f ρ μ) λV μ1=>oe (jM V) (some ()) (λk zz=>some (some k,μ1)) (oe (OM V) (some ()) (λzz zz=>some (none,μ1)) none)
def b9:PF:= λzz μ=>some (none,μ)
section
variable {p q r:PF}
theorem dD:lm C n cx none b9:=by
 refine .of ?_;intro A env O T ρ α μ s E k μ' R I F h;refine cm h ?_;exact EY (cL α I (aV.refl _ _ _ _) .none)
theorem cy(hf:ab C n cx e f):lm C n cx (some e) (aL f):=by
 refine .of ?_;intro A env O T ρ α μ s E k μ' R I F h;refine aD h λV μ1 e1 h=>?_;refine D1 (hf.run A env O T ρ α μ s E _ _ R I F e1) (λv s1 p=>?_) λzz zz x=>x;refine cq p λα1 I1 S1 r1=>?_;refine bU h (λk1 zz ek zz h=>?_) λh=>bU h (λzz zz ek zz h=>?_) λh=>cv h
 ·refine cm h ?_
  refine bP (fN ek r1) λt zq1=>?_;refine bH (F6 zq1) ?_;exact (cL α1 I1 S1 (.int _ _))
 ·refine cm h ?_
  rw [D9 ek r1];exact (cL α1 I1 S1 .none)
theorem vn{x:Expr}{st:Option Expr}{μ4:List ah}{kl kh ks:Option Int}{Q:Value→Value→Shared→Prop}
  (hf:ab C n cx x f) (hp:lm C n cx lo p) (hq:lm C n cx hi q) (hr:lm C n cx st r) (R:cR A n) (I:bl C T α μ s) (F:bi C cx env O ρ s.heap α (T++ai α μ))
  (e1:f ρ μ=some (V,μ1)) (e2:p ρ μ1=some (kl,μ2)) (e3:q ρ μ2=some (kh,μ3)) (e4:r ρ μ3=some (ks,μ4))
  (h:∀a vl vu vs s4 α4,bl C T α4 μ4 s4→aV [] α μ s α4 μ4 s4→bq s4.heap α4 (T++ai α4 μ4) a V→IsPart vl kl→IsPart vu kh→IsPart vs ks→Q a (.ref s4.heap.objs.size) {s4 with heap:=s4.heap.push {cls:=.type "slice",data:=.fields #[vl,vu,vs]}}):
  wpAny (model C.prog C.w) A (eval x env) (λa s1=>wpAny (model C.prog C.w) A (eval (.Slice lo hi st sp) env) (λb s2=>Q a b s2) E s1) E s:=by
 refine D1 (hf.run A env O T ρ α μ s E V μ1 R I F e1) (λa s1 p1=>?_) λzz zz x=>x;refine cq p1 λα1 I1 S1 r1=>?_;refine wpAny_Slice (D1 (hp.run A env O T ρ α1 μ1 s1 E kl μ2 R I1 (F.step I S1) e2) (λvl s2 p2=>?_) λzz zz x=>x);refine cq p2 λα2 I2 S2 r2=>?_;refine D1 (hq.run A env O T ρ α2 μ2 s2 E kh μ3 R I2 ((F.step I S1).step I1 S2) e3) (λvu s3 p3=>?_) λzz zz x=>x;refine cq p3 λα3 I3 S3 r3=>?_;refine D1 (hr.run A env O T ρ α3 μ3 s3 E ks μ4 R I3 (((F.step I S1).step I1 S2).step I2 S3) e4) (λvs s4 p4=>?_) λzz zz x=>x;refine cq p4 λα4 I4 S4 r4=>?_;exact h a vl vu vs s4 α4 I4 (((S1.trans S2).trans S3).trans S4) (((r1.step0 S2).step0 S3).step0 S4) r2 r3 r4
end
noncomputable def fq{X:Type}(xs:List X)(lo hi:Option Int):List X:=(xs.drop (lo.elim 0 (clipAt xs.length))).take (hi.elim xs.length (clipAt xs.length)-lo.elim 0 (clipAt xs.length))
noncomputable def iM{X:Type}(xs:List X)(lo hi st:Option Int):List X:=(sliceRange (sliceBounds lo hi st xs.length).1 (sliceBounds lo hi st xs.length).2.1 (sliceBounds lo hi st xs.length).2.2).filterMap (xs[·]?)
noncomputable def oE(x:Str)(lo hi:Option Int):Str:=if ((JM lo hi 1 x.length).length==x.length)=true then x else ⟨((JM lo hi 1 x.length).filterMap (x.cps[·]?)).toArray⟩
theorem q8(r:aw h M vs xs):∀is:List Nat,aw h M (is.filterMap (vs[·]?)) (is.filterMap (xs[·]?))
 | []=>by simpa using aw.nil h M
 |i::is=>by
  have ih:=q8 r is;cases e:xs[i]? with
  |some d=>
   refine au (r.get e) λv e' rv=>?_;rw [M6 e',M6 e];exact .cons rv ih
  |none=>
   have e':vs[i]? =none:=by
    rw [Hy] at e⊢
    rw [r.length];exact e
   rw [Qv e',Qv e];exact ih
def cg(f:EF)(p q:PF):EF:= λρ μ=>bp (f ρ μ) λV μ1=>bp (p ρ μ1) λlo μ2=>bp (q ρ μ2) λhi μ3=>oe (mA V) (some ()) (λx zz=>if x.length≤sizeLine∧(oE x lo hi).length≤sizeLine then some (.d (.str (oE x lo hi)),μ3) else none)
 (oe (GX V) lo (λxs k=>if hi=none∧1≤k∧k≤xs.length∧xs.length≤sizeLine then some (.d (.tuple (xs.drop k.toNat)),μ3) else none)
  (bo (dc μ3 V) λxs=>if xs.length≤sizeLine then some (.d (.list (fq xs lo hi)),μ3) else none))
def v_(f:EF)(p q r:PF):EF:= λρ μ=>bp (f ρ μ) λV μ1=>bp (p ρ μ1) λlo μ2=>bp (q ρ μ2) λhi μ3=>bp (r ρ μ3) λso μ4=>bo so λst=>bo (dc μ4 V) λxs=>if xs.length≤sizeLine∧st≠0 then some (.d (.list (iM xs lo hi (some st))),μ4) else none
theorem pH(items:Array Value)(lo hi:Option Int):(slicePick items lo hi none).toList=fq items.toList lo hi:=by
 rw [slicePick_plain];simp [fq]
theorem vo(r:aw h M vs xs)(lo hi:Option Int):aw h M (fq vs lo hi) (fq xs lo hi):=by
 unfold fq;rw [r.length];exact (r.drop _).take _
section
variable {p q r:PF}
theorem N4{x:Expr}{st:Option Expr}(hf:ab C n cx x f)(hp:lm C n cx lo p)(hq:lm C n cx hi q)(hr:lm C n cx st r)
  (hs:∀o i,subscripted (.Slice lo hi st sp) false o i=operate [o,i] (getItem o i)):ab C n cx (.Subscript x (.Slice lo hi st sp) pos) (v_ f p q r):=by
 refine .of ?_;intro A env O T ρ α μ s E V μ' R I F h;refine aD h λV1 μ1 e1 h=>aD h λkl μ2 e2 h=>aD h λkh μ3 e3 h=>aD h λso μ4 e4 h=>ax h λks es h=>ax h λxs e5 h=>i9 h λhz h=>?_;refine cm h ?_;rw [es] at e4
 refine Ts (vn hf hp hq hr R I F e1 e2 e3 e4 λa vl vu vs s4 α4 I4 S4 ra pl pu ps=>?_);refine bm (ra.isList I4 e5) λl items zq2 zp3 rr=>?_;refine bH (F6 zq2) ?_;refine bP zp3 λn1 hl=>?_;have hsz:items.size=xs.length:=by rw [←rr.length];simp
 have I5:=I4.keeps (tk:=s4.toks) (bc s4.heap {cls:=.type "slice",data:=.fields #[vl,vu,vs]});have S5:=aV.keeps (α:=α4) (μ:=μ4) (s:=s4) (tk:=s4.toks) (bc s4.heap {cls:=.type "slice",data:=.fields #[vl,vu,vs]});have hl':(s4.heap.push {cls:=.type "slice",data:=.fields #[vl,vu,vs]}).PlainList l items:=⟨n1,bc _ _ _ _ hl⟩;refine Sg (s:= {s4 with heap:=s4.heap.push {cls:=.type "slice",data:=.fields #[vl,vu,vs]}}) hl'.isList.typeIs Qr.lookup (QB hl'.isList (PX ..) pl pu ps (by intro q;cases q;exact hz.2 rfl) ?_ (by lia)) (hs _ _);refine bI.trans (S4.trans S5) (bI.newList (tk:=s4.toks) I5 ?_)
 have:=q8 (rr.keeps (bc s4.heap {cls:=.type "slice",data:=.fields #[vl,vu,vs]})) (sliceRange (sliceBounds kl kh (some ks) xs.length).1 (sliceBounds kl kh (some ks) xs.length).2.1 (sliceBounds kl kh (some ks) xs.length).2.2)
 unfold slicePick iM;rw [hsz]
 simpa using this
end
theorem lb{t sl:Addr}{a:Nat}
 (ht:IsTup s.heap t items) (hs:s.heap.IsSliceOf sl (.int a u) .none .none) (h1:1≤a) (ha:a≤items.size)
 (h:Q (.ref s.heap.objs.size) {s with heap:=s.heap.push {cls:=.type "tuple",data:=.seq (items.toList.drop a).toArray}}) (hsz:items.size≤sizeLine):
 wpAny (model prog w) A (getItem (.ref t) (.ref sl)) Q E s:=getItem_tuple_from ht hs h1 ha h hsz
section
variable {p q r:PF}
theorem dQ{x:Expr}(hf:ab C n cx x f)(hp:lm C n cx lo p)(hq:lm C n cx hi q):ab C n cx (.Subscript x (.Slice lo hi none sp) pos) (cg f p q):=by
 refine .of ?_;intro A env O T ρ α μ s E V μ' R I F h;have hs:∀o i,subscripted (.Slice lo hi none sp) false o i=operate [i,o] (getItem o i):= λo i=>rfl;refine aD h λV1 μ1 e1 h=>aD h λkl μ2 e2 h=>aD h λkh μ3 e3 h=>?_;refine Ts (vn hf hp hq dD R I F e1 e2 e3 rfl λa vl vu vs s4 α4 I4 S4 ra pl pu ps=>?_);have I5:=I4.keeps (tk:=s4.toks) (bc s4.heap {cls:=.type "slice",data:=.fields #[vl,vu,vs]});have S5:=aV.keeps (α:=α4) (μ:=μ3) (s:=s4) (tk:=s4.toks) (bc s4.heap {cls:=.type "slice",data:=.fields #[vl,vu,vs]});cases ps;refine bU h (λx zz ex zz h=>i9 h λhz h=>?_) λh=>bU h (λxs k ex ek h=>i9 h λhz h=>?_) λh=>ax h λxs e5 h=>i9 h λhz h=>?_
 ·refine cm h ?_
  refine bP (j0 ex ra) λt zq1=>?_;subst zq1;have hlk:typeLookup (.type "str") "__getitem__"=pure (some (.builtin "str.__getitem__")):=PySem.F.slot_str_getitem.lookup;have part:∀ {v:Value} {k:Option Int},IsPart v k→∃l:Option (Int×Tok),v=partValue l∧l.map (·.1)=k:=by
   intro v k pk;cases pk with
   |none=>exact (aZ none rfl rfl)
   |int i t=>exact (aZ (some (i,t)) rfl rfl)
  refine au (part pl) λl zq1 hl=>?_;subst zq1;refine au (part pu) λu zq1 hu=>?_;subst zq1;refine Sg (s:= {s4 with heap:=s4.heap.push {cls:=.type "slice",data:=.fields #[partValue l,partValue u,.none]}}) (T:="str") (typeIs_str _ x t) hlk (wpAny_getItem_str_slice (l:=l) (u:=u) (st:=none) (cL _ (D5 _ rfl) rfl rfl) rfl ?_) (hs _ _);unfold sliceMade;have e9:slicePicked x l u none=JM kl kh 1 x.length:=by unfold slicePicked;rw [hl,hu];rfl
  rw [e9];unfold oE at hz⊢
  by_cases hc:((JM kl kh 1 x.length).length==x.length)=true
  ·rw [if_pos (by simpa using hc)]
   refine bI.trans (S4.trans S5) (bI.same I5 ?_);rw [if_pos hc];exact aJ.str ..
  ·rw [if_neg (by simpa using hc)]
   refine ⟨?_,bI.trans (S4.trans S5) (bI.tok I5 ?_)⟩
   ·have:=hz.2
    rwa [if_neg hc] at this
   ·rw [if_neg hc]
    exact aJ.str ..
 ·refine cm h ?_
  refine f_ hz λhh hz=>?_;subst hh;subst ek;refine bm (Kd ex ra) λa' items zq2 ht rr=>?_;subst zq2;have hsz:items.size=xs.length:=by rw [←rr.length];simp
  cases pl with
  |int _ u=>
  cases pu;obtain ⟨m,rfl⟩:∃m:Nat,k=m:=⟨k.toNat,by lia⟩;have hk:=bc s4.heap {cls:=.type "slice",data:=.fields #[.int m u,.none,.none]};have ht':(s4.heap.push {cls:=.type "slice",data:=.fields #[.int m u,.none,.none]}).IsTuple a' items:=by refine au ht λo ho q=>?_;exact (aZ o (hk _ _ ho) q)
  refine Sg (s:= {s4 with heap:=s4.heap.push {cls:=.type "slice",data:=.fields #[.int m u,.none,.none]}}) (o:=.ref a') (T:="tuple") (by refine cq ht' λo ho hc zz=>?_;exact (aZ o ho hc)) T4.lookup (lb ht' (PX ..) (by lia) (by lia) ?_ (by lia)) (hs _ _);refine bI.trans (S4.trans S5) (bI.of_keeps (tk:=s4.toks) I5 (bc _ _) ?_);refine aJ.tuple (D5 _ rfl) rfl rfl (aw.keeps ?_ (bc _ _)) (eI I5 (iq _))
  simpa using (rr.keeps hk).drop m
 ·refine cm h ?_
  refine bm (ra.isList I4 e5) λl items zq2 zp3 rr=>?_;subst zq2;refine bP zp3 λn1 hl=>?_;have hsz:items.size=xs.length:=by rw [←rr.length];simp
  have hl':(s4.heap.push {cls:=.type "slice",data:=.fields #[vl,vu,.none]}).PlainList l items:=⟨n1,bc _ _ _ _ hl⟩;refine Sg (s:= {s4 with heap:=s4.heap.push {cls:=.type "slice",data:=.fields #[vl,vu,.none]}}) hl'.isList.typeIs Qr.lookup (QB hl'.isList (PX ..) pl pu .none (by intro q;exact cv q) ?_ (by lia)) (hs _ _);refine bI.trans (S4.trans S5) (bI.newList (tk:=s4.toks) I5 ?_);rw [pH];exact vo (rr.keeps (bc s4.heap {cls:=.type "slice",data:=.fields #[vl,vu,.none]})) _ _
end
noncomputable abbrev a_:=List AV→List ah→Option (AV×List ah)
def af(fs:List EF)(spec:a_):EF:= λρ μ=>bp (fh fs ρ μ) λVs μ1=>spec Vs μ1
def eH(C:gL)(n:Nat)(f:Value)(spec:a_):Prop:=∀A T α μ s E vs Vs V μ',cR A n→bl C T α μ s→fj s.heap α (T++ai α μ) vs Vs→spec Vs μ=some (V,μ')→
 wpAny (model C.prog C.w) A (call f vs) (bI C T α μ s μ' V) E s
def kY(f:Value):Prop:=∀ (M:Model) (A:Around) (E:Value→Shared→Prop) (s:Shared) (pos:Pos) (first:List Value) (args:List (Bool×Sem Value)) (Q:Value→Shared→Prop),args.any (·.1)=false→
 wpAny M A (evalArgs f true args []) (λa s₁=>wpAny M A (call f (first++a.pos) a.kw) Q E s₁) E s→wpAny M A (callWith pos f first args []) Q E s
theorem bf(id:String):kY (.builtin id):= λzz zz zz zz zz zz zz zz hp h=>OW hp h
theorem bD(T:String):kY (.type T):= λzz zz zz zz zz zz zz zz hp h=>PyProof.Rows.callWith_type hp h
section
variable {spec:a_}
theorem eh{Q:Args→Shared→Prop}
  (hs:starEach (e::es) env=(false,eval e env)::starEach es env) (ha:dg C n cx (e::es) fs) (R:cR A n) (I:bl C T α μ s) (F:bi C cx env O ρ s.heap α (T++ai α μ)) (h:fh fs ρ μ=some (Vs,μ1))
  (k:∀vs s1 α1,bl C T α1 μ1 s1→aV [] α μ s α1 μ1 s1→fj s1.heap α1 (T++ai α1 μ1) vs Vs→Q ⟨vs,[]⟩ s1):
  wpAny (model C.prog C.w) A (evalArgs fv true (backTo pos (starEach (e::es) env)) []) Q E s:=by
 have z:=ha.run A env O T ρ α μ s E Vs μ1 pos R I F h;rw [hs] at z⊢
 refine Sw (D1 z (λvs s1 p=>?_) λzz zz x=>x);refine cq p λα1 I1 S1 r1=>?_;exact k vs s1 α1 I1 S1 r1
theorem MJ{fd:FuncData}(hg:C.mg x=some (.ref fa))(ho:C.B.get? fa=some o)(hd:o.data=.func fd)(hf:eH C n (.ref fa) spec)
  (ha:dg C n cx (e::es) fs) (hs:∀env,starEach (e::es) env=(false,eval e env)::starEach es env)
  (hl:cx.scope.names.lookup x=some .globalImplicit) (hk:cx.scope.kind=.function) (hdb:(x==("__debug__":Str))=false):
  ab C n cx (.Call (.Name x xp) (e::es) [] pos) (af fs spec):=by
 refine .of ?_;intro A env O T ρ α μ s E V μ' R I F h;refine aD h λVs μ1 e1 h=>?_;refine (?_:wpAny _ A (do callWith pos (←eval (.Name x xp) env) [] (backTo pos (starEach (e::es) env)) []) _ _ s);refine zm (Fg (by rw [F.sc];exact hk) (by unfold JH;rw [F.sc];exact hl) (Ll (by rw [F.gl];exact C.g.keeps I.keep) hg ?_) hdb);refine MU (o:=o) (fd:=fd) (eh (hs env) ha R I F e1 λvs s1 α1 I1 S1 r1=>⟨⟨I1.keep _ _ ho,hd⟩,?_⟩);exact D1 (hf A T α1 μ1 s1 E vs Vs V μ' R I1 r1 h) (λv s2 p=>bI.trans S1 p) λzz zz x=>x
theorem UY(hg:C.mg x=none)(hb:bootBuiltins x=some fv)(hx:x≠"__name__")(hn:kY fv)(hf:eH C n fv spec)
  (ha:dg C n cx (e::es) fs) (hs:∀env,starEach (e::es) env=(false,eval e env)::starEach es env) (hp:∀env,(backTo pos (starEach (e::es) env)).any (·.1)=false)
  (hl:cx.scope.names.lookup x=some .globalImplicit) (hk:cx.scope.kind=.function) (hdb:(x==("__debug__":Str))=false):
  ab C n cx (.Call (.Name x xp) (e::es) [] pos) (af fs spec):=by
 refine .of ?_;intro A env O T ρ α μ s E V μ' R I F h;refine aD h λVs μ1 e1 h=>?_;refine (?_:wpAny _ A (do callWith pos (←eval (.Name x xp) env) [] (backTo pos (starEach (e::es) env)) []) _ _ s);refine zm (Fg (by rw [F.sc];exact hk) (by unfold JH;rw [F.sc];exact hl) (Lu (by rw [F.gl];exact C.g.keeps I.keep) hg (by rw [F.bn];exact C.b.keeps I.keep) ((C.bt x hx).trans hb) ?_) hdb);refine hn _ _ _ _ _ _ _ _ (hp env) (eh (hs env) ha R I F e1 λvs s1 α1 I1 S1 r1=>?_);exact D1 (hf A T α1 μ1 s1 E vs Vs V μ' R I1 r1 h) (λv s2 p=>bI.trans S1 p) λzz zz x=>x
end
noncomputable def dC:a_:= λVs μ=>bo (l1 Vs) λV=>oe (mA V) (some ()) (λx zz=>if x.length≤sizeLine then some (.d (.int x.length),μ) else none)
 (bo (v8 μ V) λxs=>if xs.length≤sizeLine then some (.d (.int xs.length),μ) else none)
theorem Qy(e:l1 Vs=some V)(r:fj h α M vs Vs):∃v,vs=[v]∧bq h α M v V:=by
 rw [W0 e] at r
 cases vs with
 |nil=>exact r.elim
 |cons v vs=>
  cases vs with
  |nil=>exact aZ v rfl r.1
  |cons w vs=>exact r.2.elim
theorem vr2{W:AV}(e:l2 Vs=some (V,W))(r:fj h α M vs Vs):∃v w,vs=[v,w]∧bq h α M v V∧bq h α M w W:=by
 rw [Ac e] at r
 cases vs with
 |nil=>exact r.elim
 |cons v vs=>
  refine au (Qy rfl r.2) λw e2 q=>?_;refine bH (F6 e2) ?_;exact dy v w rfl r.1 q
theorem eW:eH C n (.builtin "len") dC:=by
 intro A T α μ s E vs Vs V μ' R I r h;refine ax h λV1 e1 h=>?_;refine au (Qy e1 r) λv zq1 r=>?_;refine bH (F6 zq1) ?_;refine bU h (λx zz ex zz h=>i9 h λhz h=>?_) λh=>ax h λxs e h=>i9 h λhz h=>?_
 ·refine cm h ?_
  refine bP (j0 ex r) λt zq1=>?_;refine bH (F6 zq1) ?_;exact PyProof.Rows.len_str (by unfold sizeLine at hz;lia) (bI.tok I (aJ.int ..))
 ·refine cm h ?_
  unfold sizeLine at hz
  refine bU e (λx zz ex zz q=>?_) λe=>?_
  ·have q':=Fi q
   subst q';refine bm (Kd ex r) λa items zq2 ht rr=>?_;refine bH (F6 zq2) ?_;have hsz:items.size=x.length:=by rw [←rr.length];simp
   refine PyProof.Rows.len_tuple ht (by lia) ?_;rw [hsz];exact bI.tok I (aJ.int ..)
  ·refine bm (r.isList I e) λa items zq2 hl rr=>?_
   refine bH (F6 zq2) ?_;have hsz:items.size=xs.length:=by rw [←rr.length];simp
   refine call_len_list hl.isList (by lia) ?_;rw [hsz];exact bI.tok I (aJ.int ..)
variable {spec : a_}
theorem lq:∀ {α:List Addr} {μ:List ah} {i:Nat} {c c₀:ah},μ[i]? =some c₀→c.isMut=c₀.isMut→ai α (μ.set i c)=ai α μ
 | [],_,_,_,_,_,_=>by simp [ai]
 |_::_,[],_,_,_,h,_=>by simp at h
 |b::α,c₁::μ,0,c,c₀,h,q=>by
  simp at h;subst h
  simp [ai,q]
 |b::α,c₁::μ,i+1,c,c₀,h,q=>by
  simp only [PW,ai];rw [lq (by simpa using h) q]
theorem EQ(hn:α.Nodup)(h1:α[i]? =some a)(h2:α[j]? =some a):i=j:=by
 refine bP (AX.mp h1) λp e1=>?_;refine bP (AX.mp h2) λq e2=>?_
 rcases QD i j with h|h|h
 ·exact absurd (e1.trans e2.symm) (M4.mp hn i j p q h)
 ·exact h
 ·exact absurd (e2.trans e1.symm) (M4.mp hn j i q p h)
theorem bl.setCell{c₀:ah}(I:bl C T α μ s)(ha:α[i]? =some a)(hc:μ[i]? =some c₀)(hm:c₀.isMut=true)(hm':c.isMut=true)
  (hs:∀b o,b≠a→s.heap.get? b=some o→h'.get? b=some o) (hd:∃o,h'.get? a=some o) (hcell:(∀ {v:List Value} {ds:List PyData},aw s.heap (T++ai α μ) v ds→aw h' (T++ai α μ) v ds)→d_ h' (T++ai α μ) a c):
  bl C T α (μ.set i c) {s with heap:=h',toks:=tk}∧aV [] α μ s α (μ.set i c) {s with heap:=h',toks:=tk}:=by
 have hme:ai α (μ.set i c)=ai α μ:=lq hc (by rw [hm,hm']);have ham:a∈ai α μ:=qQ ha hc hm;have X:g7 ([]++ai α μ) s.heap h':= λb o e ht=>by
  by_cases q:b=a
  ·subst q;exact (ht (by simpa using ham)).elim
  ·exact hs b o q e
 have St:aV [] α μ s α (μ.set i c) {s with heap:=h',toks:=tk}:=by
  refine ⟨(aZ ([]) (by simp) (by simp)),X,λb hb=>.inl (hme▸hb),λb o e=>?_,λzz zz e=>e⟩
  by_cases q:b=a
  ·subst q;exact hd
  ·exact ⟨o,hs b o q e⟩
 refine ⟨⟨λb o e=>hs b o (λq=>?_) (I.keep b o e),by rw [LD];exact I.len,λj b c' h1 h2=>?_,I.nodup,I.apart,λb hb=>?_,I.tnew,I.new,I.gens,I.os⟩,St⟩
 ·have:=I.new a (GR ha)
  rw [q,this] at e;exact cv e
 ·rw [hme]
  rcases Bw h2 with ⟨rfl,rfl⟩| ⟨hne,h2⟩
  ·rw [ha] at h1;refine cA h1 ?_
   refine hcell λ{v ds} r=>?_
   have:=aw.step0 (T:=T) r St
   rwa [hme] at this
  ·have hba:b≠a:= λq=>hne (EQ I.nodup h1 (q▸ha))
   have z:=I.cells j b c' h1 h2;have kd:∀ {v:Value} {d:PyData},aJ s.heap (T++ai α μ) v d→aJ h' (T++ai α μ) v d:= λ{v d} r=>by
    have:=aJ.step0 (T:=T) r St
    rwa [hme] at this
   have kds:∀ {v:List Value} {d:List PyData},aw s.heap (T++ai α μ) v d→aw h' (T++ai α μ) v d:= λ{v d} r=>by
    have:=aw.step0 (T:=T) r St
    rwa [hme] at this
   cases c' with
   |live xs=>
    refine eE λGG kG=>?_;refine au z λitems zp1 r=>?_;obtain ⟨n,e'⟩:=zp1;refine kG ?_;exact (aZ items ⟨n,hs _ _ hba e'⟩ (kds r))
   |frozen xs=>exact kd z
   |iter xs=>
    rcases z with ⟨l,k,items,⟨o',e',q⟩,⟨n2,e2⟩,hl,hk,r⟩| ⟨rfl,o',k,e',q⟩
    ·exact .inl (i7 l k items ⟨o',hs _ _ hba e',q⟩ ⟨n2,hs _ _ (λz=>hl (z▸CO _ ham)) e2⟩ hl hk (kds r))
    ·exact .inr (SU rfl o' k (hs _ _ hba e') q)
 ·by_cases q:b=a
  ·subst q;exact hd
  ·exact (I.tdom b hb).imp λo e=>hs b o q e
theorem ku{M:Model}{l:Addr}{id:String}{pl:Sem Bool}{Q:Value×List Value→Shared→Prop}(ho:s.heap.PlainList l items)
  (hl:typeLookup (.type "list") name=pure (some (.builtin id))) (ht:typeOf (.builtin id)=pure (.type "method_descriptor")) (h:Q (.builtin id,[.ref l]) s):wpAny M A (getMethod (.ref l) name pl) Q E s:=by
 refine bP ho λn ho=>?_;have hT:s.TypeIs (.ref l) "list":=(aZ _ ho rfl);unfold getMethod;refine zm (LG hT list_getattribute ?_);refine (?_:wpAny M A (if (Manifest.canonical "list.__getattribute__" != "object.__getattribute__")=true then _ else _) Q E s);rw [canon_list_getattribute,if_neg HJ];refine zm (LG hT list_getattr_none ?_);refine zm (LG hT hl ?_);refine zm (Mm ht ?_);refine zm (wpAny_load ho ?_);exact zm (O6 (EY h))
abbrev nP(o:Expr)(name:Str)(apos:Pos)(args:List Expr)(pos:Pos):Prop:=∀env,eval (.Call (.Attribute o name apos) args [] pos) env=(do
 let ov←eval o env
 standAt apos.atName
 let (f,first)←holding [ov] (getMethod ov name (do return (←importBound o env).getD true))
 callWith pos f first (backTo pos (starEach args env)) [])
noncomputable def Ck:ah→Option (List PyData)
 | .live xs=>some xs
 |_=>none
theorem Mg(h:Ck c=some xs):c=.live xs:=by cases c<;>first|exact cv h| (cases h;rfl)
theorem Kv(e:μ[i]? =some c)(h:Ck c=some xs):μ[i]? =some (.live xs):=e.trans (congrArg some (Mg h))
def eg(f g:EF):EF:= λρ μ=>bp (f ρ μ) λV0 μ1=>bo (Fk V0) λi=>bo (dc μ1 (.c i)) λzz=>bp (g ρ μ1) λV μ2=>bp (vC V μ2) λd μ3=>bo (μ3[i]?) λc=>bo (Ck c) λxs=>if xs.length≤sizeLine then some (.d .none,μ3.set i (.live (xs++[d]))) else none
section
theorem cz{o:Expr}(hm:nP o "append" apos [e] pos)(hf:ab C n cx o f)(hg:ab C n cx e g)(hs:∀env,starEach [e] env=[(false,eval e env)]):
  ab C n cx (.Call (.Attribute o "append" apos) [e] [] pos) (eg f g):=by
 refine .of ?_;intro A env O T ρ α μ s E V μ' R I F h;refine aD h λV0 μ1 e1 h=>ax h λi ei h=>ax h λxs0 e0 h=>aD h λV2 μ2 e2 h=>aD h λd μ3 e3 h=>ax h λc ec h=>ax h λxs el h=>i9 h λhz h=>?_;rw [C0 ei] at e1
 have e4:=Kv ec el;refine cm h ?_;refine QV (D1 (hf.run A env O T ρ α μ s E _ _ R I F e1) (λv s1 p=>?_) λzz zz x=>x) (hm env);refine eE λGG kG=>?_;refine cq p λα1 I1 S1 r1=>?_;refine au r1 λa ha zq2=>?_;subst zq2;refine bm (bq.isList (V:=.c i) I1 (aZ a ha rfl) e0) λzz its1 e9 hp1 zz=>?_;cases e9;refine kG ?_;refine ku hp1 slot_list_append.lookup type_list_append ?_;have es1:dg C n cx [e] [g]:=dF (by intro env;exact hs env) hg ae;refine OW (by rw [hs env];rfl) (eh (fs:=[g]) (hs env) es1 R I1 (F.step I S1) (zR e2) λvs s2 α2 I2 S2 r2=>?_);refine au (Qy rfl r2) λv zq r2=>?_;refine bH (F6 zq) ?_;refine eE λGG kG=>?_;refine dW (tz I2 r2 e3) λI3 S3 r3=>?_;refine au S2.pre λδ hδ zz=>?_;have ha2:α2[i]? =some a:=by rw [hδ,Fb (AX.mp ha).1];exact ha
 refine au (I3.cells i a _ ha2 e4) λitems hp rr=>?_;refine kG ?_;have hsz:items.size=xs.length:=by rw [←rr.length];simp
 refine QW hp (λh' hl' hs'=>?_) (by lia);obtain ⟨I4,S4⟩:=I3.setCell (c:=.live (xs++[d])) (h':=h') (tk:=s2.toks) ha2 e4 rfl rfl (λb o q e=>(hs'.2 b q).trans e) (by refine bP hl' λk e=>?_;exact ⟨_,e⟩) λkd=>(aZ _ hl' (by
  rw [Tu];exact kd (rr.append (.cons r3 (aw.nil _ _)))))
 exact bI.trans (S1.trans (S2.trans S3)) (cL α2 I4 S4 (aJ.none _ _))
def sk(f g:EF):EF:= λρ μ=>bp (f ρ μ) λV0 μ1=>bo (Fk V0) λi=>bo (dc μ1 (.c i)) λzz=>bp (g ρ μ1) λV μ2=>bo (YC V) λys=>bo (μ2[i]?) λc=>bo (Ck c) λxs=>if xs.length+ys.length≤sizeLine then some (.d .none,μ2.set i (.live (xs++ys))) else none
theorem kJ{o:Expr}(hm:nP o "extend" apos [e] pos)(hf:ab C n cx o f)(hg:ab C n cx e g)(hs:∀env,starEach [e] env=[(false,eval e env)]):
  ab C n cx (.Call (.Attribute o "extend" apos) [e] [] pos) (sk f g):=by
 refine .of ?_;intro A env O T ρ α μ s E V μ' R I F h;refine aD h λV0 μ1 e1 h=>ax h λi ei h=>ax h λxs0 e0 h=>aD h λV2 μ2 e2 h=>ax h λys ey h=>ax h λc ec h=>ax h λxs el h=>i9 h λhz h=>?_;rw [C0 ei] at e1
 have e4:=Kv ec el;refine cm h ?_;refine QV (D1 (hf.run A env O T ρ α μ s E _ _ R I F e1) (λv s1 p=>?_) λzz zz x=>x) (hm env);refine eE λGG kG=>?_;refine cq p λα1 I1 S1 r1=>?_;refine au r1 λa ha zq2=>?_;subst zq2;refine bm (bq.isList (V:=.c i) I1 (aZ a ha rfl) e0) λzz its1 e9 hp1 zz=>?_;cases e9;refine kG ?_;refine ku hp1 QF.lookup PySem.F.type_list_extend ?_;have es1:dg C n cx [e] [g]:=dF (by intro env;exact hs env) hg ae;refine OW (by rw [hs env];rfl) (eh (fs:=[g]) (hs env) es1 R I1 (F.step I S1) (zR e2) λvs s2 α2 I2 S2 r2=>?_);refine au (Qy rfl r2) λv zq r2=>?_;refine bH (F6 zq) ?_;refine eE λGG kG=>?_;refine kZ (aJ.of_list (Ni ey r2)) λb its2 zq2 zp3 rr2 hbM=>?_;subst zq2;obtain ⟨n2,hb⟩:=zp3;refine au S2.pre λδ hδ zz=>?_;have ha2:α2[i]? =some a:=by rw [hδ,Fb (AX.mp ha).1];exact ha
 refine au (I2.cells i a _ ha2 e4) λitems zp1 rr=>?_;obtain ⟨n1,hp⟩:=zp1;refine kG ?_;have hsz:items.size=xs.length:=by rw [←rr.length];simp
 have hsz2:its2.size=ys.length:=by rw [←rr2.length];simp
 refine UN QF (aZ _ hp rfl) PySem.F.entry_list_extend (PySem.F.args_list_extend_2 _ _) (PySem.AutoSeq1.list_extend_list_list_0 a items n1 b its2 n2 ?_ (by lia) (by lia)) (fu hp hb ?_)
 ·simp only [Qn]
  simp
  intro _;lia
 ·have hnew:(s2.heap.update a (M7 λx=>x++its2)).PlainList a (items++its2):=⟨_,Fw _ hp rfl⟩
  obtain ⟨I4,S4⟩:=I2.setCell (c:=.live (xs++ys)) (h':=s2.heap.update a (M7 λx=>x++its2)) (tk:=s2.toks) ha2 e4 rfl rfl (λb o q e=>((L9 ..).2 b q).trans e) (by refine bP hnew λk e=>?_;exact ⟨_,e⟩) λkd=>(aZ _ hnew (by
   rw [PC];exact kd (rr.append rr2)))
  exact bI.trans (S1.trans S2) (cL α2 I4 S4 (aJ.none _ _))
end
noncomputable def qf:List PyData→Option (List Int)
 | []=>some []
 |x::r=>bo (dI x) λi=>bo (qf r) λl=>some (i::l)
noncomputable def nr:List PyData→Option (List Str)
 | []=>some []
 |x::r=>bo (dS x) λi=>bo (nr r) λl=>some (i::l)
theorem va:∀ {vs:List Value} {xs:List PyData} {ns:List Int},aw h M vs xs→qf xs=some ns→IntsAre vs ns
 | [],[],ns,_,e=>by refine cA e ?_;exact .nil
 | [],_::_,_,r,_=>by have:=r.length;simp at this
 |_::_,[],_,r,_=>by have:=r.length;simp at this
 |v::vs,x::xs,ns,r,e=>by
  refine ax e λi ei e=>ax e λl e2 e=>?_;refine cA e ?_;refine f_ r.uncons λr1 r2=>?_;rw [Vk ei] at r1
  refine bP (aJ.of_int r1) λt e3=>?_;refine bH (F6 e3) ?_;exact .cons _ _ (va r2 e2)
theorem Bp:∀ {vs:List Value} {xs:List PyData} {ns:List Str},aw h M vs xs→nr xs=some ns→StrsAre vs ns
 | [],[],ns,_,e=>by refine cA e ?_;exact .nil
 | [],_::_,_,r,_=>by have:=r.length;simp at this
 |_::_,[],_,r,_=>by have:=r.length;simp at this
 |v::vs,x::xs,ns,r,e=>by
  refine ax e λi ei e=>ax e λl e2 e=>?_;refine cA e ?_;refine f_ r.uncons λr1 r2=>?_;rw [ad9 ei] at r1
  refine bP (aJ.of_str r1) λt e3=>?_;refine bH (F6 e3) ?_;exact .cons _ _ (Bp r2 e2)
theorem Ax(r:IntsAre vs ns):aw h M vs (ns.map .int):=by
 induction r with
 |nil=>exact aw.nil h M
 |cons i t r ih=>exact .cons (aJ.int ..) ih
theorem K8(r:fj h α M vs [V]):∃v,vs=[v]∧bq h α M v V:=Qy rfl r
theorem T8{W:AV}(r:fj h α M vs [V,W]):∃v w,vs=[v,w]∧bq h α M v V∧bq h α M w W:=vr2 rfl r
noncomputable def fc:a_:= λVs μ=>bp (l2 Vs) λU V=>bo (mA U) λx=>bo (dc μ V) λxs=>bo (nr xs) λys=>if (ys.map (·.length)).sum+ys.length*x.length≤16777216 then some (.d (.str (LA x ys)),μ) else none
theorem g_:eH C n (.builtin "str.join") fc:=by
 intro A T α μ s E vs Vs V μ' R I r h;refine aD h λU V1 eU h=>ax h λx ex h=>ax h λxs e1 h=>ax h λys e2 h=>i9 h λhz h=>?_;refine cm h ?_;refine bm (vr2 eU r) λv w zq2 r1 r2=>?_;refine bH (F6 zq2) ?_;refine bP (j0 ex r1) λt zq1=>?_;refine bH (F6 zq1) ?_;refine bm (r2.isList I e1) λa items zq2 hl rr=>?_;refine bH (F6 zq2) ?_;exact PyProof.Rows.join_list hl.isList (Bp rr e2) hz λt' k=>bI.tok I (aJ.str ..)
noncomputable def oY:a_:= λVs μ=>bo (l1 Vs) λV=>bo (jM V) λi=>if (Sy "0x" 16 i).length≤sizeLine then some (.d (.str (Sy "0x" 16 i)),μ) else none
theorem uM:eH C n (.builtin "hex") oY:=by
 intro A T α μ s E vs Vs V μ' R I r h;refine ax h λV1 e1 h=>ax h λi ei h=>i9 h λhz h=>?_;refine cm h ?_;refine au (Qy e1 r) λv zq1 r1=>?_;refine bH (F6 zq1) ?_;refine bP (fN ei r1) λt zq1=>?_;refine bH (F6 zq1) ?_;exact PySem.P.hex_of_int (bI.tok I (aJ.str ..)) hz
noncomputable def gA:a_:= λVs μ=>bp (l2 Vs) λV W=>bo (VL W) λT=>oe (jM V) (some ()) (λzz zz=>if T="int" then some (.d (.bool true),μ) else if T="bool" then some (.d (.bool false),μ) else none)
 (oe (Nv V) (some ()) (λzz zz=>if T="int" then some (.d (.bool true),μ) else if T="bool" then some (.d (.bool true),μ) else none) none)
theorem sP:eH C n (.builtin "isinstance") gA:=by
 intro A T α μ s E vs Vs V μ' R I r h;refine aD h λV1 W eV h=>ax h λT' eT h=>?_;refine bm (vr2 eV r) λv w zq2 r1 r2=>?_;refine bH (F6 zq2) ?_;refine bH (F6 (aa1 eT r2)) ?_;refine bU h (λi zz ei zz h=>?_) λh=>bU h (λi zz ei zz h=>?_) λh=>cv h
 ·refine bP (fN ei r1) λt zq1=>?_
  refine bH (F6 zq1) ?_;refine ifB h (λe h=>?_) λzz h=>i9 h λe h=>?_
  ·refine cm h ?_;refine bH (F6 e) ?_
   exact PySem.IsiPair.int_int (bI.same I (aJ.bool ..))
  ·refine cm h ?_;refine bH (F6 e) ?_
   exact PySem.IsiPair.int_bool (bI.tok I (aJ.bool ..))
 ·refine bH (F6 (xg ei r1)) ?_
  refine ifB h (λe h=>?_) λzz h=>i9 h λe h=>?_
  ·refine cm h ?_;refine bH (F6 e) ?_
   exact PySem.IsiPair.bool_int (bI.same I (aJ.bool ..))
  ·refine cm h ?_;refine bH (F6 e) ?_
   exact PySem.IsiPair.bool_bool (bI.same I (aJ.bool ..))
noncomputable def cJ:a_:= λVs μ=>oe (l1 Vs) (some ()) (λV zz=>bo (jM V) λb=>some (.rng 0 b,μ)) (bp (l2 Vs) λV W=>bo (jM V) λa=>bo (jM W) λb=>some (.rng a b,μ))
theorem dM:eH C n (.type "range") cJ:=by
 intro A T α μ s E vs Vs V μ' R I r h;refine bU h (λV1 zz eV zz h=>ax h λb eb h=>?_) λh=>aD h λV1 W eV h=>ax h λa ea h=>ax h λb eb h=>?_
 ·refine cm h ?_
  refine au (Qy eV r) λv zq1 r1=>?_;refine bH (F6 zq1) ?_;refine bP (fN eb r1) λt zq1=>?_;refine bH (F6 zq1) ?_;refine call_range_1 ?_;refine bI.of_keeps I (bc _ _) (qP _ _ _ _ rfl (Ve ..) (eI I (iq _)))
 ·refine cm h ?_
  refine bm (vr2 eV r) λv w zq2 r1 r2=>?_;refine bH (F6 zq2) ?_;refine bP (fN ea r1) λt zq1=>?_;refine bH (F6 zq1) ?_;refine bP (fN eb r2) λu zq1=>?_;refine bH (F6 zq1) ?_;refine call_range_2 ?_;refine bI.of_keeps I (bc _ _) (qP _ _ _ _ rfl (Ve ..) (eI I (iq _)))
noncomputable def iU:List Int→List Int
 | []=>[]
 |x::r=>ins x (iU r)
where ins (x:Int):List Int→List Int
 | []=>[x]
 |y::r=>if x≤y then x::y::r else y::ins x r
theorem qO(x:Int):∀l,(iU.ins x l).Perm (x::l)
 | []=>.refl _
 |y::r=>by
  unfold iU.ins;split
  ·exact .refl _
  ·exact ((qO x r).cons y).trans (.swap x y r)
theorem qm:∀l,(iU l).Perm l
 | []=>.refl _
 |x::r=>(qO x _).trans ((qm r).cons x)
theorem pR(x:Int):∀l:List Int,l.Pairwise (· ≤ ·)→(iU.ins x l).Pairwise (· ≤ ·)
 | [],_=>by simp [iU.ins]
 |y::r,h=>by
  refine f_ (ML.mp h) λh1 h2=>?_;unfold iU.ins;split
  ·rename_i q
   refine ML.mpr ⟨λz hz=>?_,h⟩
   rcases Cp.mp hz with rfl|hz
   ·exact q
   ·exact Int.le_trans q (h1 z hz)
  ·rename_i q
   refine ML.mpr ⟨λz hz=>?_,pR x r h2⟩
   rcases Cp.mp ((qO x r).mem_iff.mp hz) with rfl|hz
   ·lia
   ·exact h1 z hz
theorem m6:∀l,(iU l).Pairwise (· ≤ ·)
 | []=>by simp [iU]
 |x::r=>pR x _ (m6 r)
theorem rZ{a b:List Int}(h1:a.Pairwise (· ≤ ·))(h2:b.Pairwise (· ≤ ·))(p:a.Perm b):a=b:=by
 induction a generalizing b with
 |nil=>exact (List.nil_perm.mp p).symm
 |cons x r ih=>
  cases b with
  |nil=>exact absurd p.symm (by simp)
  |cons y t=>
   refine f_ (ML.mp h1) λa1 a2=>?_;refine f_ (ML.mp h2) λb1 b2=>?_;have hx:x∈y::t:=p.mem_iff.mp (Gi ..);have hy:y∈x::r:=p.mem_iff.mpr (Gi ..)
   have:x=y:=by
    rcases Cp.mp hx with e|e
    ·exact e
    ·rcases Cp.mp hy with e'|e'
     ·exact e'.symm
     ·exact Int.le_antisymm (a1 y e') (b1 x e)
   subst this;rw [ih a2 b2 (List.perm_cons x |>.mp p)]
noncomputable def l4:a_:= λVs μ=>bo (l1 Vs) λV=>bo (dc μ V) λxs=>bo (qf xs) λns=>if xs.length<64 then some (.d (.list ((iU ns).map .int)),μ) else none
theorem De:eH C n (.builtin "sorted") l4:=by
 intro A T α μ s E vs Vs V μ' R I r h;refine ax h λV1 eV h=>ax h λxs e1 h=>ax h λns e2 h=>i9 h λhz h=>?_;refine cm h ?_;refine au (Qy eV r) λv zq1 r1=>?_;subst zq1;refine bm (r1.isList I e1) λa items zq2 hl rr=>?_;subst zq2;refine PyProof.Rows.sorted_ints (vs:=items.toList) (by simpa using hl.isList) (va rr e2) (by rw [rr.length];exact hz) λout ns' hi hp hs=>?_;have e9:ns'=iU ns:=rZ hs (m6 ns) (hp.trans (qm ns).symm);subst e9;refine bP (sortedAll_at s.heap items.toList out) λk hk=>?_;have keep:∀b o,s.heap.get? b=some o→(sortedAll s.heap items.toList out).get? b=some o:= λb o e=>sortedAll_old e;refine bI.of_keeps (tk:=s.toks) I keep (aJ.list (vs:=out) ⟨k,hk⟩ (Ax hi) (eI I ?_));cases e:s.heap.get? (s.heap.objs.size+1) with
 |none=>rfl
 |some o=>exact absurd (Mk e) (Nat.not_lt.mpr (P3 _))
end Mine
namespace Mine
open PySem PySem.W PySem.Calls PyProof.Rows
variable {V V' : AV} {Cn D L TI TO a fa i1 i2 i3 z : Addr} {A : Around} {items zs : Array Value} {sh tup : Bool} {c c' : ah} {C : gL} {cx : Cx} {f fi fo g : EF} {cenv env : Env} {mean : ExcName → Option Value} {e e1 e2 elt iter target test : Expr} {h h' : Heap} {y : Int} {Vs : List AV} {M M' O T T' W wr α α' α1 α₀ : List Addr} {Mid : List Addr → List Addr → List Addr → List ah → Nat → Value → Shared → Prop} {μ μ' μ'' μ1 μ2 μ3 μ₀ : List ah} {fs : List EF} {es : List Expr} {K cs ns os rest : List Int} {gi ls m ps : List Nat} {X acc acc' ds xs ys : List PyData} {body orelse : List Stmt} {vs : List Value} {ρ ρ' ρ1 ρ2 : d5} {tf : d5 → PyData → Option d5} {b i j ja jt k kk low mask n p q tk : Nat} {o : Obj} {op : Operator} {ha ke td te tx : Option AV} {hi lo : Option Expr} {gg : Option Nat} {apos pos px py sp tp xp : Pos} {prog : Program} {G : Prop} {d : PyData} {sc scope : Scope} {s s' s'' s1 s₀ : Shared} {spec : a_} {st : Stmt} {name x : Str} {t : TF} {u : Tok} {cd cls doc fv it pm v : Value} {E Q : Value → Shared → Prop} {w : World}
structure aG (wr:List Addr) (gi:List Nat) (s s':Shared):Prop where
 heap:∀b o,b∉wr→s.heap.get? b=some o→s'.heap.get? b=some o
 gens:∀ (i:Nat) (x:GenState),i∉gi→s.gens[i]? =some x→s'.gens[i]? =some x
 os:s'.os=s.os
 bare:AllBare s.gens→AllBare s'.gens
theorem aG.refl(wr:List Addr)(gi:List Nat)(s:Shared):aG wr gi s s:=⟨λzz zz zz e=>e,λzz zz zz e=>e,rfl,λh=>h⟩
theorem aG.trans(x:aG wr gi s s')(y:aG wr gi s' s''):aG wr gi s s'':=
 ⟨λb o hb e=>y.heap b o hb (x.heap b o hb e),λi z hi e=>y.gens i z hi (x.gens i z hi e),y.os.trans x.os,λh=>y.bare (x.bare h)⟩
theorem aG.of_heap(hk:∀b o,b∉wr→s.heap.get? b=some o→h'.get? b=some o):aG wr gi s {s with heap:=h',toks:=tk}:=
 ⟨hk,λzz zz zz e=>e,rfl,λh=>h⟩
theorem aG.ext(x:aG wr gi s s'):g7 wr s.heap s'.heap:= λb o e hb=>x.heap b o (λq=>hb q) e
theorem iP(hw:∀b∈W,b∈T):iI W T h:= λa ha=>.inr (.inr (hw a ha))
theorem oy{N:List Addr}(k:iI W T h):iI W (T++N) h:= λa ha=>(k a ha).imp id (Or.imp id (yx _))
theorem bl.moves'(I:bl C T α μ s)(x:aG wr gi s s')(hw:∀b∈wr,b∈T)(hT:∀a∈T',a∈T)(hd:∀a∈T',∃o,s'.heap.get? a=some o):bl C T' α μ s':=
 I.ext x.ext (λa ha=>I.tnew a (hw a ha)) (iP hw) (λa ha q=>I.apart a (hw a q) ha) hT hd rfl (x.bare I.gens) x.os
theorem bl.moves(I:bl C T α μ s)(x:aG wr gi s s')(hw:∀b∈wr,b∈T)(hd:∀a∈wr,∃o,s'.heap.get? a=some o):bl C T α μ s':=
 I.moves' x hw (λzz h=>h) λa ha=>by
  by_cases q:a∈wr
  ·exact hd a q
  ·refine bP (I.tdom a ha) λo e=>?_
   exact ⟨o,x.heap a o q e⟩
theorem aJ.moves(r:aJ s.heap (T++ai α μ) v d)(x:aG wr gi s s')(hw:∀b∈wr,b∈T):aJ s'.heap (T++ai α μ) v d:=r.ext x.ext (oy (iP hw)) λzz=>.inl
theorem aw.moves{v:List Value}{d:List PyData}(r:aw s.heap (T++ai α μ) v d)(x:aG wr gi s s')(hw:∀b∈wr,b∈T):aw s'.heap (T++ai α μ) v d:=r.ext x.ext (oy (iP hw)) λzz=>.inl
theorem bq.moves(r:bq s.heap α (T++ai α μ) v V)(x:aG wr gi s s')(hw:∀b∈wr,b∈T):bq s'.heap α (T++ai α μ) v V:=r.ext x.ext (oy (iP hw)) (λzz zz=>id) λzz=>.inl
theorem aV.moves(x:aV O α μ s₀ α' μ' s)(y:aG wr gi s s')(hw:∀b∈wr,s₀.heap.get? b=none)(hg:∀i∈gi,s₀.gens[i]? =none):aV O α μ s₀ α' μ' s':=
 ⟨x.pre,λb o e hb=>y.heap b o (λq=>by rw [hw b q] at e;exact cv e) (x.ext b o e hb),x.mts,λa o e=>let ⟨o',e'⟩:=x.dom a o e;⟨o',y.heap a o' (λq=>by rw [hw a q] at e;exact cv e) e'⟩,λi z e=>y.gens i z (λq=>by rw [hg i q] at e;exact cv e) (x.gens i z e)⟩
def cw(g:Option Nat)(xs:List PyData)(μ:List ah):Prop:=∀j,g=some j→dc μ (.c j)=some xs
def fp(tup:Bool)(h:Heap)(M:List Addr)(v:Value)(x:PyData):Prop:=match tup with
 |true=>∃a items ds,v=.ref a∧x=.tuple ds∧h.IsTuple a items∧aw h M items.toList ds
 |false=>aJ h M v x
def HC(tup:Bool)(t:Expr):Prop:=match tup with
 |true=>∃elts k pos,t=.Tuple elts k pos
 |false=>∃x pos,t=.Name x pos
noncomputable abbrev xN:=List Addr→List Addr→List ah→Nat→Shared→Prop
structure lj (C:gL) (it:Value) (wr:List Addr) (gi:List Nat) (xs:List PyData) (g:Option Nat) (tup:Bool) (St:xN) (Mid:List Addr→List Addr→List ah→Nat→Value→Shared→Prop):Prop where
 frame:∀ {O T T' α α':List Addr} {μ μ':List ah} {i:Nat} {s s':Shared},St T α μ i s→aV O α μ s α' μ' s'→iI O T s.heap→(∀a∈O,a∉wr)→(∀a∈T',a∈T∨s.heap.get? a=none)→(∀b∈wr,b∈T)→bl C T α μ s→bl C T' α' μ' s'→cw g xs μ'→St T' α' μ' i s'
 item:∀ {A:Around} {T α:List Addr} {μ:List ah} {i:Nat} {x:PyData} {s:Shared} {Q:Option Value→Shared→Prop} {E:Value→Shared→Prop},cR A 2→bl C T α μ s→(∀b∈wr,b∈T)→St T α μ i s→xs[i]? =some x→
  (∀v s',aG wr gi s s'→bl C T α μ s'→fp tup s'.heap (T++ai α μ) v x→Mid T α μ i v s'→Q (some v) s')→wpAny (model C.prog C.w) A (pyNext it) Q E s
 go:∀ {A:Around} {T α:List Addr} {μ:List ah} {i:Nat} {x:PyData} {v:Value} {t:Expr} {s:Shared} {Q:Unit→Shared→Prop} {E:Value→Shared→Prop},bl C T α μ s→(∀b∈wr,b∈T)→Mid T α μ i v s→HC tup t→fp tup s.heap (T++ai α μ) v x→
  (∀s',aG wr gi s s'→bl C T α μ s'→fp tup s'.heap (T++ai α μ) v x→St T α μ (i+1) s'→Q () s')→wpAny (model C.prog C.w) A (letOwnedTupleGo t it v) Q E s
 done:∀ {A:Around} {T α:List Addr} {μ:List ah} {i:Nat} {s:Shared} {Q:Option Value→Shared→Prop} {E:Value→Shared→Prop},cR A 2→bl C T α μ s→(∀b∈wr,b∈T)→St T α μ i s→xs[i]? =none→
  (∀s',aG wr gi s s'→(∀T',(∀a∈T',a∈T∧a∉wr)→bl C T' α μ s')→Q none s')→wpAny (model C.prog C.w) A (pyNext it) Q E s
 self:∀ {A:Around} {T α:List Addr} {μ:List ah} {i:Nat} {s:Shared} {Q:Value→Shared→Prop} {E:Value→Shared→Prop},St T α μ i s→Q it s→wpAny (model C.prog C.w) A (pyIter it) Q E s
structure gV (C:gL) (it:Value) (gi:List Nat) (xs:List PyData) (g:Option Nat) (tup:Bool) (St:List Addr→xN) (Mid:List Addr→List Addr→List Addr→List ah→Nat→Value→Shared→Prop):Prop where
 frame:∀ {wr O T T' α α':List Addr} {μ μ':List ah} {i:Nat} {s s':Shared},St wr T α μ i s→aV O α μ s α' μ' s'→iI O T s.heap→(∀a∈O,a∉wr)→(∀a∈T',a∈T∨s.heap.get? a=none)→(∀b∈wr,b∈T)→bl C T α μ s→bl C T' α' μ' s'→cw g xs μ'→St wr T' α' μ' i s'
 item:∀ {A:Around} {wr T α:List Addr} {μ:List ah} {i:Nat} {x:PyData} {s:Shared} {Q:Option Value→Shared→Prop} {E:Value→Shared→Prop},cR A 2→bl C (wr++T) α μ s→St wr (wr++T) α μ i s→xs[i]? =some x→
  (∀v s' wr',aG wr gi s s'→(∀b∈wr',b∈wr∨s.heap.get? b=none)→bl C (wr'++T) α μ s'→fp tup s'.heap ((wr'++T)++ai α μ) v x→Mid wr' (wr'++T) α μ i v s'→Q (some v) s')→wpAny (model C.prog C.w) A (pyNext it) Q E s
 go:∀ {A:Around} {wr T α:List Addr} {μ:List ah} {i:Nat} {x:PyData} {v:Value} {t:Expr} {s:Shared} {Q:Unit→Shared→Prop} {E:Value→Shared→Prop},bl C (wr++T) α μ s→Mid wr (wr++T) α μ i v s→HC tup t→fp tup s.heap ((wr++T)++ai α μ) v x→
  (∀s',aG wr gi s s'→bl C (wr++T) α μ s'→fp tup s'.heap ((wr++T)++ai α μ) v x→St wr (wr++T) α μ (i+1) s'→Q () s')→wpAny (model C.prog C.w) A (letOwnedTupleGo t it v) Q E s
 done:∀ {A:Around} {wr T α:List Addr} {μ:List ah} {i:Nat} {s:Shared} {Q:Option Value→Shared→Prop} {E:Value→Shared→Prop},cR A 2→bl C (wr++T) α μ s→St wr (wr++T) α μ i s→xs[i]? =none→
  (∀s',aG wr gi s s'→(∀T',(∀a∈T',a∈wr++T∧a∉wr)→bl C T' α μ s')→Q none s')→wpAny (model C.prog C.w) A (pyNext it) Q E s
 self:∀ {A:Around} {wr T α:List Addr} {μ:List ah} {i:Nat} {s:Shared} {Q:Value→Shared→Prop} {E:Value→Shared→Prop},St wr T α μ i s→Q it s→wpAny (model C.prog C.w) A (pyIter it) Q E s
noncomputable def StW(w0:List Addr)(St:xN):List Addr→xN:= λwr T α μ i s=>wr=w0∧St T α μ i s
noncomputable def ae6(w0:List Addr)(Mid:List Addr→List Addr→List ah→Nat→Value→Shared→Prop):List Addr→List Addr→List Addr→List ah→Nat→Value→Shared→Prop:= λwr T α μ i v s=>wr=w0∧Mid T α μ i v s
theorem lj.walk{g:Option Nat}{St:xN}{Mid:List Addr→List Addr→List ah→Nat→Value→Shared→Prop}(W:lj C it wr gi xs g tup St Mid):gV C it gi xs g tup (StW wr St) (ae6 wr Mid) where
 frame:=by
  intro wr' O T T' α α' μ μ' i s s' zi0 S h1 h2 h3 h4 I I' hg;refine f_ zi0 λzq0 st=>?_;subst zq0;exact ⟨rfl,W.frame st S h1 h2 h3 h4 I I' hg⟩
 item:=by
  intro A wr' T α μ i x s Q E R I zi1 e k;refine f_ zi1 λzq0 st=>?_;subst zq0;exact W.item R I (λb hb=>yx _ hb) st e λv s' mv I' ir md=>k v s' wr' mv (λb hb=>.inl hb) I' ir ⟨rfl,md⟩
 go:=by
  intro A wr' T α μ i x v t s Q E I zi2 tg ir k;refine f_ zi2 λzq0 md=>?_;subst zq0;exact W.go I (λb hb=>yx _ hb) md tg ir λs' mv I' ir' st=>k s' mv I' ir' ⟨rfl,st⟩
 done:=by
  intro A wr' T α μ i s Q E R I zi3 e k;refine f_ zi3 λzq0 st=>?_;subst zq0;exact W.done R I (λb hb=>yx _ hb) st e λs' mv h=>k s' mv h
 self:=by
  intro A wr' T α μ i s Q E zi4 h;refine f_ zi4 λzq0 st=>?_;subst zq0;exact W.self st h
variable {St : List Addr → xN}
theorem in1{X:Type}{a:X}{l:List X}:a∈a::l:=Gi ..
theorem NC{X:Type}{a b:X}{l:List X}:b∈a::b::l:=CQ _ in1
theorem zG{X:Type}{a b c:X}{l:List X}:c∈a::b::c::l:=CQ _ NC
theorem BG{X:Type}{a b c d:X}{l:List X}:d∈a::b::c::d::l:=CQ _ zG
theorem Iw{X:Type}{a b c d e:X}{l:List X}:e∈a::b::c::d::e::l:=CQ _ BG
theorem in6{X:Type}{a b c d e f:X}{l:List X}:f∈a::b::c::d::e::f::l:=CQ _ Iw
theorem zy{X:Type}{x a:X}{l:List X}(h:x∈a::l)(k:x=a→G)(k':x∈l→G):G:=(Cp.mp h).elim k k'
theorem E9{b c d e x:Addr}{P:Addr→Prop}(ha:P a)(hb:P b)(hc:P c)(hd:P d)(he:P e)(h:x∈[a,b,c,d,e]):P x:=
 zy h (λq=>q▸ha) λh=>zy h (λq=>q▸hb) λh=>zy h (λq=>q▸hc) λh=>zy h (λq=>q▸hd) λh=>AA.mp h▸he
theorem Vo{b c d e f x:Addr}{P:Addr→Prop}(ha:P a)(hb:P b)(hc:P c)(hd:P d)(he:P e)(hf:P f)(h:x∈[a,b,c,d,e,f]):P x:=zy h (λq=>q▸ha) (E9 hb hc hd he hf)
theorem jp(I0:bl C T α μ s)(S:aV O α μ s α' μ' s')(hwr:∀a∈O,a∉wr)(hwT:∀b∈wr,b∈T){b:Addr}(hb:b∈wr)(o:Obj)(e:s.heap.get? b=some o):s'.heap.get? b=some o:=
 S.ext _ _ e λq=>(AF.mp q).elim (λq=>hwr b q hb) λq=>I0.apart b (hwT b hb) (de q)
theorem fG{vs:Array Value}(r:aw h M vs.toList xs)(e:xs[i]? =none):vs[i]? =none:=by
 rw [←Lb,Hy,r.length];exact Hy.mp e
theorem ji{vs:Array Value}(r:aw h M vs.toList xs){x:PyData}(e:xs[i]? =some x):∃v,vs[i]? =some v∧aJ h M v x:=
 au (r.get e) λv e1 e2=>aZ v (Lb.symm.trans e1) e2
theorem bl.done(I:bl C T α μ s)(mv:aG wr gi s s')(hw:∀b∈wr,b∈T)(h:∀a∈T',a∈T∧a∉wr):bl C T' α μ s':=
 I.moves' mv hw (λa ha=>(h a ha).1) λa ha=>(I.tdom a (h a ha).1).imp λo e=>mv.heap a o (h a ha).2 e
noncomputable def F7:AV→Option Nat
 | .c j=>some j
 |_=>none
theorem yX(h:dc μ V=some xs)(g:cw (F7 V) xs μ'):dc μ' V=some xs:=by
 cases V with
 |d x=>cases x<;>first|exact h|cases h
 |c j=>exact g j rfl
 |rng a b=>exact cv h
 |ty T=>exact cv h
theorem bv{I l:Addr}(x:h.IsListIter I l i)(e:∀o,h.get? I=some o→h'.get? I=some o):h'.IsListIter I l i:=let ⟨o,ho,r⟩:=x;⟨o,e o ho,r⟩
noncomputable def nK(xs:List PyData):Bool:=xs.all λ| .tuple _=>true|_=>false
theorem xV(h:nK xs=true){x:PyData}(e:xs[i]? =some x):∃ds,x=.tuple ds:=by
 have:=AP.mp h x (GR e)
 cases x<;>first|exact ⟨_,rfl⟩|exact (HJ this).elim
theorem rl{A:Type}{f:A→PyData}{l:List A}(h:∀a,∃ds,f a=.tuple ds):nK (l.map f)=true:=
 AP.mpr λx hx=>au (Dc.mp hx) λa zz e=>bP (h a) λds q=>by rw [←e,q]
theorem yv{x:PyData}(r:aJ h M v x)(ht:tup=true→∃ds,x=.tuple ds):fp tup h M v x:=by
 cases tup with
 |false=>exact r
 |true=>
  refine bP (ht rfl) λds zq1=>?_;subst zq1;refine bm r.of_tuple λa items zq2 p rr=>?_;subst zq2;exact (dE a items ds rfl rfl p rr)
theorem fp.moves{x:PyData}(r:fp tup s.heap (T++ai α μ) v x)(y:aG wr gi s s')(hw:∀b∈wr,b∈T)(hv:tup=true→∀a,v=.ref a→∀o,s.heap.get? a=some o→s'.heap.get? a=some o):fp tup s'.heap (T++ai α μ) v x:=by
 cases tup with
 |false=>exact aJ.moves (d:=x) r y hw
 |true=>
  refine dk r λa items ds zq3 zq4 zp5 rr=>?_;subst zq3;subst zq4;obtain ⟨o,e,q⟩:=zp5;exact (dE a items ds rfl rfl ⟨o,hv rfl a rfl o e,q⟩ (rr.moves y hw))
section
variable {I l:Addr}
noncomputable def FT(I l:Addr)(V:AV)(xs:List PyData):xN:= λT α μ i s=>s.heap.IsListIter I l i∧bq s.heap α (T++ai α μ) (.ref l) V∧dc μ V=some xs
theorem gV.list(hne:l≠I)(ht:tup=true→nK xs=true):lj C (.ref I) [I] [] xs (F7 V) tup (FT I l V xs) (λT α μ i v s=>FT I l V xs T α μ (i+1) s) where
 frame:=by
  intro O T T' α α' μ μ' i s s' st S hO hwr hT hwT I0 I1 hg;exact dW st λh1 h2 h3=>⟨bv h1 (jp I0 S hwr hwT in1),h2.stepO S hO hT,yX h3 hg⟩
 item:=by
  intro A T α μ i x s Q E R Iv hw st e k;refine dW st λh1 h2 h3=>?_;refine bm (h2.isList Iv h3) λa items e1 hp rr=>?_;cases e1;refine au (rr.get e) λv e2 r=>?_;refine Rx h1 hp.isList (x:=v) (Lb.symm.trans e2) λh' hit' hs'=>?_;have mv:aG [I] [] s {s with heap:=h'}:=aG.of_heap (tk:=s.toks) (λb o hb e=>(hs'.2 b λq=>hb (q▸in1)).trans e);have J:=Iv.moves mv hw λb hb=>AA.mp hb▸au hit' λo e zz=>⟨o,e⟩;exact k v _ mv J (yv (r.moves mv hw) λq=>xV (ht q) e) ⟨hit',h2.moves mv hw,h3⟩
 go:=by
  intro A T α μ i x v t s Q E Iv hw md tg ir k;cases tup with
  |false=>
   refine lz tg λx pos zq2=>?_;subst zq2;exact EY (k s (aG.refl _ _ _) Iv ir md)
  |true=>
   refine jH tg λelts kk pos zq3=>?_;subst zq3;refine dk ir λa items ds zq3 zq4 p rr=>?_;subst zq3;subst zq4;exact wpAny_letOwnedTupleGo_listiter md.1 (k s (aG.refl _ _ _) Iv ⟨a,items,ds,rfl,rfl,p,rr⟩ md)
 done:=by
  intro A T α μ i s Q E R Iv hw st e k;refine dW st λh1 h2 h3=>bm (h2.isList Iv h3) λa items e1 hp rr=>?_;cases e1;refine PD R.handled h1 hp.isList (fG rr e) λh' he'=>?_;have mv:aG [I] [] s {s with heap:=h'}:=aG.of_heap (tk:=s.toks) (λb o hb e=>he' b o (λq=>hb (q▸in1)) e);exact k _ mv λT' hT'=>Iv.done mv hw hT'
 self:=by
  intro A T α μ i s Q E st h;exact wpAny_pyIter_listiter st.1 h
end
theorem vb{I l:Addr}(x:h.IsTupleIter I l i)(e:∀o,h.get? I=some o→h'.get? I=some o):h'.IsTupleIter I l i:=let ⟨o,ho,r⟩:=x;⟨o,e o ho,r⟩
section
variable {I l:Addr}
noncomputable def RF(I l:Addr)(items:Array Value)(xs:List PyData):xN:= λT α μ i s=>s.heap.IsTupleIter I l i∧s.heap.IsTuple l items∧aw s.heap (T++ai α μ) items.toList xs∧l∉T++ai α μ
theorem gV.tuple(hne:l≠I):lj C (.ref I) [I] [] xs none false (RF I l items xs) (λT α μ i v s=>RF I l items xs T α μ (i+1) s) where
 frame:=by
  intro O T T' α α' μ μ' i s s' st S hO hwr hT hwT I0 I1 hg;exact mm st λh1 h2 h3 h4=>⟨vb h1 (jp I0 S hwr hwT in1),jY h2 S.ext λq=>h4 (hO.app.seq _ q (i5 h2)),h3.stepO S hO hT,λq=>(S.hm hT l q).elim h4 (fO (i5 h2))⟩
 item:=by
  intro A T α μ i x s Q E R Iv hw st e k;refine mm st λh1 h2 h3 h4=>au (h3.get e) λv e2 r=>?_;refine wpAny_pyNext_tuple_item h1 h2 (x:=v) (Lb.symm.trans e2) λh' hit' hs'=>?_;have mv:aG [I] [] s {s with heap:=h'}:=aG.of_heap (tk:=s.toks) (λb o hb e=>(hs'.2 b λq=>hb (q▸in1)).trans e);have J:=Iv.moves mv hw λb hb=>AA.mp hb▸au hit' λo e zz=>⟨o,e⟩;exact k v _ mv J (r.moves mv hw) ⟨hit',h2.extBut hs'.extBut hne,h3.moves mv hw,h4⟩
 go:=by
  intro A T α μ i x v t s Q E Iv hw md tg ir k;refine lz tg λx pos zq2=>?_;subst zq2;exact EY (k s (aG.refl _ _ _) Iv ir md)
 done:=by
  intro A T α μ i s Q E R Iv hw st e k;refine mm st λh1 h2 h3 h4=>wpAny_pyNext_tuple_end R.handled h1 h2 (fG h3 e) λh' he'=>?_;have mv:aG [I] [] s {s with heap:=h'}:=aG.of_heap (tk:=s.toks) (λb o hb e=>he' b o (λq=>hb (q▸in1)) e);exact k _ mv λT' hT'=>Iv.done mv hw hT'
 self:=by
  intro A T α μ i s Q E st h;exact wpAny_pyIter_tupleiter st.1 h
end
noncomputable def fK(a:Int):Nat→List PyData
 |0=>[]
 |n+1=>.int a::fK (a+1) n
theorem w5(a:Int):∀n,(fK a n).length=n
 |0=>rfl
 |n+1=>by simp [fK,w5 (a+1) n]
theorem wK:∀ (a:Int) (n i:Nat) (x:PyData),(fK a n)[i]? =some x→x=.int (a+i)∧i<n
 |_,0,_,_,h=>by simp [fK] at h
 |a,n+1,0,x,h=>by simp [fK] at h;simp [←h]
 |a,n+1,i+1,x,h=>by
  simp only [fK,Oe] at h
  refine f_ (wK (a+1) n i x h) λe q=>?_;refine ⟨?_,by lia⟩;rw [e];congr 1;push_cast;lia
section
variable {I:Addr}
noncomputable def Rl(I:Addr)(a:Int)(n:Nat):xN:= λzz zz zz i s=>IsRangeIter s.heap I (a+(i:Nat)*1) ((n:Int)-(i:Nat)) 1
theorem gV.range{a:Int}:lj C (.ref I) [I] [] (fK a n) none false (Rl I a n) (λT α μ i v s=>Rl I a n T α μ (i+1) s) where
 frame:=by
  intro O T T' α α' μ μ' i s s' h1 S hO hwr hT hwT I0 I1 hg;exact jp I0 S hwr hwT in1 _ h1
 item:=by
  intro A T α μ i x s Q E R Iv hw h1 e k;refine f_ (wK _ _ _ _ e) λzq0 hi=>?_;subst zq0;refine (Walks.range (prog:=C.prog) (w:=C.w) R.handled I a 1 n).item i s Q E hi h1 λv h' tk hv hst hk=>?_;have mv:aG [I] [] s {s with heap:=h',toks:=tk}:=aG.of_heap hk;have J:=Iv.moves mv hw λb hb=>AA.mp hb▸⟨_,hst⟩;refine bP hv λt zq1=>?_;subst zq1;rw [show a+(i:Int)*1=a+i by lia];exact k _ _ mv J (aJ.int ..) hst
 go:=by
  intro A T α μ i x v t s Q E Iv hw md tg ir k;refine lz tg λx pos zq2=>?_;subst zq2;exact EY (k s (aG.refl _ _ _) Iv ir md)
 done:=by
  intro A T α μ i s Q E R Iv hw h1 e k;rw [Hy,w5] at e
  refine wpAny_pyNext_range_end R.handled h1 (by lia) λh' he'=>?_;have mv:aG [I] [] s {s with heap:=h'}:=aG.of_heap (tk:=s.toks) (λb o hb e=>he' b o (λq=>hb (q▸in1)) e);exact k _ mv λT' hT'=>Iv.done mv hw hT'
 self:=by
  intro A T α μ i s Q E h1 h;exact wpAny_pyIter_rangeiter h1 h
end
noncomputable def cN:Nat→List PyData→List PyData
 |_,[]=>[]
 |k,x::r=>.tuple [.int k,x]::cN (k+1) r
theorem nZ:∀ (k:Nat) (xs:List PyData) (i:Nat),(cN k xs)[i]? =(xs[i]?).map λx=>.tuple [.int (k+i),x]
 |_,[],_=>by simp [cN]
 |k,x::r,0=>by simp [cN]
 |k,x::r,i+1=>by
  simp only [cN,Oe,nZ (k+1) r i]
  congr 1;funext x;congr 3;push_cast;lia
section
variable {e it l:Addr}
noncomputable def T5(e it l:Addr)(xs:List PyData):xN:= λT α μ i s=>(∃old,IsEnum s.heap e it i old)∧s.heap.IsListIter it l i∧bq s.heap α (T++ai α μ) (.ref l) (.d (.list xs))
noncomputable def Nu(e it l:Addr)(xs:List PyData):List Addr→List Addr→List ah→Nat→Value→Shared→Prop:= λT α μ i v s=>∃a,v=.ref a∧(∃x,IsEnumOut s.heap e it ((i:Int)+1) x a)∧s.heap.IsListIter it l (i+1)∧bq s.heap α (T++ai α μ) (.ref l) (.d (.list xs))∧a≠e∧a≠it
theorem gV.enum(hei:e≠it)(hle:l≠e)(hli:l≠it):lj C (.ref e) [e,it] [] (cN 0 xs) none true (T5 e it l xs) (Nu e it l xs) where
 frame:=by
  intro O T T' α α' μ μ' i s s' st S hO hwr hT hwT I0 I1 hg;exact dW st λh0 h1 h2=>⟨bP h0 λold h0=>⟨old,jp I0 S hwr hwT in1 _ h0⟩,bv h1 (jp I0 S hwr hwT NC),h2.stepO S hO hT⟩
 item:=by
  intro A T α μ i x s Q E R Iv hw st ex k;refine dW st λh0 h1 h2=>?_;refine bm (h2.isList Iv rfl) λa items e1 hp rr=>?_;cases e1;rw [nZ,Iq] at ex
  refine au ex λy ey zq2=>?_;subst zq2;refine au (rr.get ey) λv ev r=>?_;have ev':items[i]? =some v:=Lb.symm.trans ev;refine (WalksT.enumerate (prog:=C.prog) (w:=C.w) R.handled e it l hei hle hli items).item i s Q E (LO.mp ev').1 ⟨h0,h1,hp.isList⟩ λa' vals h' tk hP hsz hT' hM hk=>?_;have mv:aG [e,it] [] s {s with heap:=h',toks:=tk}:=aG.of_heap hk;refine ig hM λm0 m1 m2 m3 m4=>?_;have J:=Iv.moves mv hw λb hb=>zy hb (λq=>q▸bP m0 λzz z=>⟨_,z⟩) λhb=>AA.mp hb▸au m1 λo z zz=>⟨o,z⟩;refine kc hP λt x1 e2 zq3=>?_;subst zq3;rw [ev'] at e2;cases e2
  refine k _ _ mv J ⟨a',_,_,rfl,rfl,hT',?_⟩ ⟨a',rfl,m0,m1,h2.moves mv hw,m3,m4⟩;simp only [Int.natCast_zero,Int.zero_add];exact .cons (aJ.int ..) (.cons (r.moves mv hw) (aw.nil _ _))
 go:=by
  intro A T α μ i x v t s Q E Iv hw st tg ir k;refine JD st λa hv m0 m1 m2 m4 m5=>bP m0 λx0 m0=>?_;subst hv;refine jH tg λelts kk pos zq3=>?_;subst zq3;refine PV m0 λh' he' hs'=>?_;have mv:aG [e,it] [] s {s with heap:=h'}:=aG.of_heap (tk:=s.toks) (λb o hb z=>(hs'.2 b λq=>hb (q▸in1)).trans z);have hit':h'.IsListIter it l (i+1):=bv m1 λo z=>(hs'.2 it hei.symm).trans z;have J:=Iv.moves mv hw λb hb=>zy hb (λq=>q▸⟨_,he'⟩) λhb=>AA.mp hb▸au hit' λo z zz=>⟨o,z⟩;refine k _ mv J (ir.moves mv hw λzz a2 q o z=>?_) ⟨⟨x0,by simpa using he'⟩,hit',m2.moves mv hw⟩;cases q;exact (hs'.2 a m4).trans z
 done:=by
  intro A T α μ i s Q E R Iv hw st ex k;refine dW st λh0 h1 h2=>bP h0 λold h0=>bm (h2.isList Iv rfl) λa items e1 hp rr=>?_;cases e1;rw [nZ,Option.map_eq_none_iff] at ex
  refine wpAny_pyNext_enum_end R.handled h0 h1 hp.isList (fG rr ex) λh' hx=>?_;have mv:aG [e,it] [] s {s with heap:=h'}:=aG.of_heap (tk:=s.toks) (λb o hb z=>hx b o (λq=>hb (q▸NC)) z);exact k _ mv λT' hT'=>Iv.done mv hw hT'
 self:=by
  intro A T α μ i s Q E st h;exact bP st.1 λold h0=>QG h0 h
end
noncomputable def mN(xs ys:List PyData):List PyData:=RM (λx y=>.tuple [x,y]) xs ys
theorem xH{x:PyData}(e:(mN xs ys)[i]? =some x)(k:∀x1 x2,xs[i]? =some x1→ys[i]? =some x2→x=.tuple [x1,x2]→G):G:=
 bm (Mq.mp e) λx1 x2 e1 e2 e3=>k x1 x2 e1 e2 e3.symm
theorem t_{X Y Z:Type}{f:X→Y→Z}{xs:List X}{ys:List Y}(e:(RM f xs ys)[i]? =none):xs[i]? =none∨ys[i]? =none:=by
 rw [Hy,SN] at e
 rw [Hy,Hy];exact (Nat.le_total xs.length ys.length).imp (λh=>by rw [RQ h] at e;exact e) λh=>by rw [Nat.min_eq_right h] at e;exact e
noncomputable def xk(xs ys zs:List PyData):List PyData:=RM (λx p=>.tuple [x,p.1,p.2]) xs (RM Prod.mk ys zs)
theorem Hb{zs:List PyData}{x:PyData}(e:(xk xs ys zs)[i]? =some x)(k:∀x1 x2 x3,xs[i]? =some x1→ys[i]? =some x2→zs[i]? =some x3→x=.tuple [x1,x2,x3]→G):G:=
 bm (Mq.mp e) λx1 p e1 e2 e3=>bm (Mq.mp e2) λx2 x3 f2 f3 f4=>k x1 x2 x3 e1 f2 f3 (by rw [←e3,←f4])
section
variable {l1 l2:Addr}
noncomputable def Ik(z TI TO i1 i2 l1 l2:Addr)(f0:Value)(xs ys:List PyData):xN:= λT α μ i s=>(IsZip s.heap z TI TO f0∧IsPair s.heap TI (.ref i1) (.ref i2)∧∃a b,IsPair s.heap TO a b)∧s.heap.IsListIter i1 l1 i∧s.heap.IsListIter i2 l2 i∧bq s.heap α (T++ai α μ) (.ref l1) (.d (.list xs))∧bq s.heap α (T++ai α μ) (.ref l2) (.d (.list ys))
theorem gV.zip2(D:ZipApart z TI TO i1 i2 l1 l2)(hTIl:TI≠l1∧TI≠l2):lj C (.ref z) [z,TI,TO,i1,i2] [] (mN xs ys) none true (Ik z TI TO i1 i2 l1 l2 .none xs ys)
  (λT α μ i v s=>∃a,v=.ref a∧Ik z TI TO i1 i2 l1 l2 (rawInt a) xs ys T α μ (i+1) s∧a∉[z,TI,TO,i1,i2]) where
 frame:=by
  intro O T T' α α' μ μ' i s s' st S hO hwr hT hwT I0 I1 hg;refine ig st λz0 h3 h4 h5 h6=>uF z0 λh0 h1 a b h2=>?_;have kp:= λ{b}=>jp I0 S hwr hwT (b:=b);exact ⟨⟨kp in1 _ h0,kp NC _ h1,a,b,kp zG _ h2⟩,bv h3 (kp BG),bv h4 (kp Iw),h5.stepO S hO hT,h6.stepO S hO hT⟩
 item:=by
  intro A T α μ i x s Q E R Iv hw st ex k;refine ig st λz0 h3 h4 h5 h6=>uF z0 λh0 h1 a0 b0 h2=>?_;refine bm (h5.isList Iv rfl) λzz its1 e1 hp1 rr1=>bm (h6.isList Iv rfl) λzz its2 e2 hp2 rr2=>?_;cases e1;cases e2;refine xH ex λx1 x2 ex1 ex2 zx=>au (ji rr1 ex1) λv1 ev1 r1=>au (ji rr2 ex2) λv2 ev2 r2=>?_;subst zx;refine wpAny_pyNext_zip_item D h0 h1 h2 h3 h4 hp1.isList hp2.isList ev1 ev2 λh' a1 a2 a3 a4 a5 a6 a7=>?_;have mv:aG [z,TI,TO,i1,i2] [] s {s with heap:=h'}:=aG.of_heap (tk:=s.toks) λb o hb e=>a7 b o (λq=>hb (q▸in1)) (λq=>hb (q▸zG)) (λq=>hb (q▸BG)) (λq=>hb (q▸Iw)) e;have hTI:IsPair h' TI (.ref i1) (.ref i2):=a7 _ _ D.TIz D.TITO D.TIi1 D.TIi2 h1;have J:=Iv.moves mv hw λb hb=>E9 (P:= λb=>∃o,h'.get? b=some o) ⟨_,a1⟩ ⟨_,hTI⟩ ⟨_,a2⟩ (au a3 λo e zz=>⟨o,e⟩) (au a4 λo e zz=>⟨o,e⟩) hb;have lt:∀ {c o},s.heap.get? c=some o→s.heap.objs.size≠c:= λe=>PY (Mk e);exact k _ _ mv J ⟨_,_,_,rfl,rfl,⟨_,a5,rfl,_,rfl⟩,.cons (r1.moves mv hw) (.cons (r2.moves mv hw) (aw.nil _ _))⟩ ⟨_,rfl,⟨⟨a1,hTI,_,_,a2⟩,a3,a4,h5.moves mv hw,h6.moves mv hw⟩,λhb=>E9 (P:= λb=>s.heap.objs.size≠b) (lt h0) (lt h1) (lt h2) (au h3 λo e zz=>lt e) (au h4 λo e zz=>lt e) hb rfl⟩
 go:=by
  intro A T α μ i x v t s Q E Iv hw st tg ir k;refine cq st λa hv st ha=>ig st λz0 h3 h4 h5 h6=>uF z0 λh0 h1 a0 b0 h2=>jH tg λelts kk pos zq3=>?_;subst hv;subst zq3;refine Qb h0 λh' he' hs'=>?_;have mv:aG [z,TI,TO,i1,i2] [] s {s with heap:=h'}:=aG.of_heap (tk:=s.toks) (λb o hb e=>(hs'.2 b λq=>hb (q▸in1)).trans e);have kp:∀b,b≠z→∀o,s.heap.get? b=some o→h'.get? b=some o:= λb hb o e=>(hs'.2 b hb).trans e;have hTI:IsPair h' TI (.ref i1) (.ref i2):=kp _ D.TIz _ h1;have hTO:IsPair h' TO a0 b0:=kp _ D.TOz _ h2;have q3:h'.IsListIter i1 l1 (i+1):=bv h3 (kp _ D.i1z);have q4:h'.IsListIter i2 l2 (i+1):=bv h4 (kp _ D.i2z);have J:=Iv.moves mv hw λb hb=>E9 (P:= λb=>∃o,h'.get? b=some o) ⟨_,he'⟩ ⟨_,hTI⟩ ⟨_,hTO⟩ (au q3 λo e zz=>⟨o,e⟩) (au q4 λo e zz=>⟨o,e⟩) hb;exact k _ mv J (ir.moves mv hw λzz a2 q o z=>by cases q;exact kp _ (λq=>ha (q▸in1)) _ z) ⟨⟨he',hTI,a0,b0,hTO⟩,q3,q4,h5.moves mv hw,h6.moves mv hw⟩
 done:=by
  intro A T α μ i s Q E R Iv hw st ex k;refine ig st λz0 h3 h4 h5 h6=>uF z0 λh0 h1 a0 b0 h2=>bm (h5.isList Iv rfl) λzz its1 e1 hp1 rr1=>bm (h6.isList Iv rfl) λzz its2 e2 hp2 rr2=>?_;cases e1;cases e2;refine wpAny_pyNext_zip_end R.handled D h0 h1 h2 h3 h4 hp1.isList hp2.isList ((t_ ex).imp (fG rr1) (fG rr2)) λh' hx=>?_;have mv:aG [z,TI,TO,i1,i2] [] s {s with heap:=h'}:=aG.of_heap (tk:=s.toks) (λb o hb e=>hx b o (λq=>hb (q▸in1)) (λq=>hb (q▸zG)) (λq=>hb (q▸BG)) (λq=>hb (q▸Iw)) e);exact k _ mv λT' hT'=>Iv.done mv hw hT'
 self:=by
  intro A T α μ i s Q E st h;exact Pq st.1.1 h
end
abbrev et(h:Heap)(T:Addr)(a b c:Value):Prop:=h.get? T=some {cls:=.type "tuple",data:=.seq #[a,b,c]}
structure kE (z TI TO i1 i2 i3 l1 l2 l3:Addr):Prop where
 nodup:[z,TI,TO,i1,i2,i3].Nodup
 d1:l1∉[z,TI,TO,i1,i2,i3]
 d2:l2∉[z,TI,TO,i1,i2,i3]
 d3:l3∉[z,TI,TO,i1,i2,i3]
section
theorem qg{T:Addr}{a b c x:Value}{Q:Unit→Shared→Prop}(hT:et s.heap T a b c)
  (h:∀h',h'.get? T=some {cls:=.type "tuple",data:=.seq ((#[a,b,c]:Array Value).setIfInBounds k x)}→Lp T s.heap h'→Q () {s with heap:=h'}):
  wpAny (model prog w) A (updateSeq T (·.setIfInBounds k x)) Q E s:=by
 refine Ok hT rfl (h _ ?_ (L9 ..));rw [Fw _ hT rfl]
 simp [M7]
end
namespace F3
theorem typeCall_zip_3(a b c:Value):checkTypeCall "zip" ⟨[a,b,c],[]⟩=pure ():= ∅
theorem newCall_zip_3(a b c:Value):checkBuiltinCall "zip.__new__" ⟨[.type "zip",a,b,c],[]⟩=pure ():= ∅
theorem args_object_init_4(a b c d:Value):argsOk "object.__init__" ⟨[a,b,c,d],[]⟩:=by
 unfold argsOk;rw [signature?_of (id:="object.__init__") (n:=['_','_','t','i','n','i','_','_']) (o:=['t','c','e','j','b','o']) ∅ F.owner_object];kernel_rfl
end F3
section
abbrev Bb(h:Heap)(T:Addr)(vs:Array Value):Prop:=h.get? T=some {cls:=.type "tuple",data:=.seq vs}
abbrev Kj(h:Heap)(e:Addr):Prop:=∃o,h.get? e=some o∧o.cls=.type "StopIteration"
abbrev ab7{β:Type}(prog:Program)(w:World)(A:Around)(E:Value→Shared→Prop)(s:Shared)(f:Value×Nat→β→Sem (ForInStep β))(b0:β)(z TI TO:Addr)(k:Nat):Prop:=
 ∀ (it l:Addr) (ws:Array Value) (a b c:Value) (m:Nat) (h:Heap) (Q:ForInStep β→Shared→Prop),IsZip h z TI TO .ellipsis→Bb h TO #[a,b,c]→h.IsListIter it l k→h.IsList l ws→z≠it→TO≠it→z≠TO→
  (∀x,ws[k]? =some x→∀h',Bb h' TO (#[a,b,c].setIfInBounds m x)→h'.IsListIter it l (k+1)→(∀c,c≠TO→c≠it→h'.get? c=h.get? c)→h'.objs.size=h.objs.size→Q (.yield b0) {s with heap:=h'})→
  (ws[k]? =none→∀h' e,(∀c o,c≠z→c≠it→h.get? c=some o→h'.get? c=some o)→Kj h' e→E (.ref e) {s with heap:=h'})→
  wpAny (model prog w) A (f (.ref it,m) b0) Q E {s with heap:=h}
theorem Ys{β:Type}{f:Value×Nat→β→Sem (ForInStep β)}{b0:β}{l1 l2 l3:Addr}{xs ys:Array Value}{a b c:Value}{Q:β→Shared→Prop}(S:ab7 prog w A E s f b0 z TI TO k)(D:kE z TI TO i1 i2 i3 l1 l2 l3)
  (hz:IsZip h z TI TO .ellipsis) (hTO:Bb h TO #[a,b,c])
  (h1:h.IsListIter i1 l1 k) (h2:h.IsListIter i2 l2 k) (h3:h.IsListIter i3 l3 k) (hl1:h.IsList l1 xs) (hl2:h.IsList l2 ys) (hl3:h.IsList l3 zs)
  (hQ:∀x y u,xs[k]? =some x→ys[k]? =some y→zs[k]? =some u→∀h',Bb h' TO #[x,y,u]→h'.IsListIter i1 l1 (k+1)→h'.IsListIter i2 l2 (k+1)→h'.IsListIter i3 l3 (k+1)→(∀c,c∉[TO,i1,i2,i3]→h'.get? c=h.get? c)→h'.objs.size=h.objs.size→Q b0 {s with heap:=h'})
  (hE:(xs[k]? =none∨ys[k]? =none∨zs[k]? =none)→∀h' e,(∀c o,c∉[z,TI,TO,i1,i2,i3]→h.get? c=some o→h'.get? c=some o)→Kj h' e→E (.ref e) {s with heap:=h'}):
  wpAny (model prog w) A (forIn [(LH i1,0),(LH i2,1),(LH i3,2)] b0 f) Q E {s with heap:=h}:=by
 have nd:=D.nodup;simp only [KF,Cp,Ew,or_false,not_or,not_false_eq_true,N5,and_true] at nd
 have apart:∀ {l c:Addr} {L:List Addr},l∉L→c∈L→l≠c:= λn q e=>n (e▸q);simp only [U9,List.forIn_nil];refine ig nd λza tia toa i1a i23=>ig za λzz zTO zi1 zi2 zi3=>dW toa λTO1 TO2 TO3=>f_ i1a λi12 i13=>?_;refine zm (S i1 l1 xs a b c 0 h _ hz hTO h1 hl1 zi1 TO1 zTO (λx ex h₁ t₁ f1 k1 n1=>?_) λq h' e kp st=>hE (.inl q) h' e (λc o hc=>kp c o (apart hc in1) (apart hc BG)) st);refine zm (S i2 l2 ys x b c 1 h₁ _ ((k1 _ zTO zi1).trans hz) t₁ (bv h2 λo=>(k1 _ (MO TO2) (MO i12)).trans) (hl2.at λo=>(k1 _ (apart D.d2 zG) (apart D.d2 BG)).trans) zi2 TO2 zTO (λy ey h₂ t₂ f2 k2 n2=>?_)
  λq h' e kp st=>hE (.inr (.inl q)) h' e (λc o hc e=>kp c o (apart hc in1) (apart hc Iw) ((k1 _ (apart hc zG) (apart hc BG)).trans e)) st)
 refine zm (S i3 l3 zs x y c 2 h₂ _ ((k2 _ zTO zi2).trans ((k1 _ zTO zi1).trans hz)) t₂ (bv h3 λo e=>(k2 _ (MO TO3) (MO i23)).trans ((k1 _ (MO TO3) (MO i13)).trans e)) (hl3.at λo e=>(k2 _ (apart D.d3 zG) (apart D.d3 Iw)).trans ((k1 _ (apart D.d3 zG) (apart D.d3 BG)).trans e)) zi3 TO3 zTO (λu eu h₃ t₃ f3 k3 n3=>?_)
  λq h' e kp st=>hE (.inr (.inr q)) h' e (λc o hc e=>kp c o (apart hc in1) (apart hc in6) ((k2 _ (apart hc zG) (apart hc Iw)).trans ((k1 _ (apart hc zG) (apart hc BG)).trans e))) st)
 exact EY (hQ x y u ex ey eu h₃ t₃ (bv f1 λo e=>(k3 _ (MO TO1) i13).trans ((k2 _ (MO TO1) i12).trans e)) (bv f2 λo=>(k3 _ (MO TO2) i23).trans) f3
  (λc hc=>(k3 c (apart hc in1) (apart hc BG)).trans ((k2 c (apart hc in1) (apart hc zG)).trans (k1 c (apart hc in1) (apart hc NC)))) (n3.trans (n2.trans n1)))
theorem D7{l1 l2 l3:Addr}{xs ys:Array Value}{a b c:Value}(hh:A.handled=none)(D:kE z TI TO i1 i2 i3 l1 l2 l3)
  (hz:IsZip s.heap z TI TO .none) (hTI:et s.heap TI (.ref i1) (.ref i2) (.ref i3)) (hTO:et s.heap TO a b c)
  (h1:s.heap.IsListIter i1 l1 k) (h2:s.heap.IsListIter i2 l2 k) (h3:s.heap.IsListIter i3 l3 k) (hl1:s.heap.IsList l1 xs) (hl2:s.heap.IsList l2 ys) (hl3:s.heap.IsList l3 zs)
  (hQ:∀x y u,xs[k]? =some x→ys[k]? =some y→zs[k]? =some u→∀h',IsZip h' z TI TO (rawInt s.heap.objs.size)→et h' TO x y u→h'.IsListIter i1 l1 (k+1)→h'.IsListIter i2 l2 (k+1)→h'.IsListIter i3 l3 (k+1)→et h' s.heap.objs.size x y u→
   (∀c o,c∉[z,TI,TO,i1,i2,i3]→s.heap.get? c=some o→h'.get? c=some o)→h'.get? TI=s.heap.get? TI→Q (.ref s.heap.objs.size) {s with heap:=h'})
  (hE:(xs[k]? =none∨ys[k]? =none∨zs[k]? =none)→∀h' e,(∀c o,c∉[z,TI,TO,i1,i2,i3]→s.heap.get? c=some o→h'.get? c=some o)→(∃o,h'.get? e=some o∧o.cls=.type "StopIteration")→E (.ref e) {s with heap:=h'}):
  wpAny (model prog w) A (Builtin.«zip.__next__» ⟨[.ref z],[]⟩) (λfin s'=>∃v,fin=.done (.ret v)∧Q v s') E s:=by
 have apart:∀ {l c:Addr} {L:List Addr},l∉L→c∈L→l≠c:= λn q e=>n (e▸q);have nd:=KF.mp D.nodup;have nd2:=KF.mp nd.2;have zx:∀ {c},c∈[TI,TO,i1,i2,i3]→c≠z:= λq e=>nd.1 (e▸q);have TOx:∀ {c},c∈[i1,i2,i3]→c≠TO:= λq e=>(KF.mp nd2.2).1 (e▸q);refine (?_:wpAny _ _ (field (.ref z) 2>>=_) _ _ _);refine zm (L1 hz rfl (x:=.bool false) rfl ?_);refine (?_:wpAny _ _ (field (.ref z) 3>>=_) _ _ _);refine zm (L1 hz rfl (x:=.ref TI) rfl ?_);refine zm (Na hTI rfl ?_);refine (?_:wpAny _ _ (NI (.ref z)>>=_) _ _ _);refine zm ?_;unfold NI;refine zm (L1 hz rfl (x:=.none) rfl (EY ?_));simp only [if_true];refine zm (O6 ?_);refine zm (L1 hz rfl (x:=.ref TO) rfl ?_);refine zm (Op hz (by simp) λh₁ hz₁ hs₁=>?_);replace hz₁:IsZip h₁ z TI TO .ellipsis:=hz₁;have K1:∀ {c},c∈[TI,TO,i1,i2,i3]→∀o,s.heap.get? c=some o→h₁.get? c=some o:= λq o e=>(hs₁.2 _ (zx q)).trans e;refine zm (Ys ?_ D hz₁ (K1 NC _ hTO) (bv h1 (K1 zG)) (bv h2 (K1 BG)) (bv h3 (K1 Iw)) (hl1.at λo=>(hs₁.2 _ (apart D.d1 in1)).trans) (hl2.at λo=>(hs₁.2 _ (apart D.d2 in1)).trans) (hl3.at λo=>(hs₁.2 _ (apart D.d3 in1)).trans) (λx y u hx hy hu h₇ hTO₇ f1 f2 f3 K7 hsz=>?_) λq h' e kp=>hE q h' e λc o hc e=>kp c o hc ((hs₁.2 c (apart hc in1)).trans e))
 ·intro it l ws a b c m h Q hz ht hi hl zi toi zto k1 k2
  refine zm (Ta ?_);refine (?_:wpAny _ _ (L5 (.ref it)>>=_) _ _ _);cases hx:ws[k]? with
  |none=>
   refine zm (wpAny_nextOf_list_end hh hi hl hx λh₂ e hs₂ he=>?_);have hz₂:IsZip h₂ z TI TO .ellipsis:=hs₂ _ _ zi hz;refine Op hz₂ (by simp) λh₃ zz hs₃=>k2 hx h₃ e (λc o q q' x=>(hs₃.2 c q).trans (hs₂ _ _ q' x)) (au he λo ho hc=>⟨o,(hs₃.2 e λq=>?_).trans ho,hc⟩);subst q;cases hz₂.symm.trans ho;simp at hc
  |some x=>
   refine zm (wpAny_nextOf_list_item hi hl hx λh₂ h1₂ hs₂=>EY ?_);have ht₂:et h₂ TO a b c:=(hs₂.2 _ toi).trans ht;refine zm (Na ht₂ rfl ?_);refine zm (qg ht₂ λh₃ ht₃ hs₃=>?_);exact zm (SP (EY (k1 x hx h₃ ht₃ (bv h1₂ λo=>(hs₃.2 _ (MO toi)).trans) (λc q q'=>(hs₃.2 c q).trans (hs₂.2 c q')) (hs₃.1.trans hs₂.1))))
 refine zm (Na hTO₇ rfl ?_);refine zm (wpAny_newTuple ?_);have hsz:h₇.objs.size=s.heap.objs.size:=hsz.trans hs₁.1;have hz₇:IsZip h₇ z TI TO .ellipsis:=(K7 _ λq=>nd.1 (CQ _ q)).trans hz₁;have hzlt:z<h₇.objs.size:=Mk hz₇;refine (?_:wpAny _ _ (Nd (.ref z) (.ref h₇.objs.size)>>=_) _ _ _);refine zm ?_;unfold Nd;have hz₈:IsZip (h₇.push {cls:=.type "tuple",data:=.seq #[x,y,u]}) z TI TO .ellipsis:=B8 _ hz₇;refine zm (Op hz₈ (by simp) λh₉ hz₉ hs₉=>?_);replace hz₉:IsZip h₉ z TI TO (rawInt h₇.objs.size):=hz₉;refine Op hz₉ (by simp) λh₀ hz₀ hs₀=>?_;replace hz₀:IsZip h₀ z TI TO (rawInt h₇.objs.size):=hz₀;have up:∀c o,c≠z→h₇.get? c=some o→h₀.get? c=some o:= λc o c1 e=>hs₀.extBut _ _ c1 (hs₉.extBut _ _ c1 (B8 _ e));have hT₈:et h₀ h₇.objs.size x y u:=hs₀.extBut _ _ (PY hzlt) (hs₉.extBut _ _ (PY hzlt) (D5 _ rfl));rw [hsz] at hz₀ hT₈
 refine EY (aZ _ rfl ?_);refine (?_:Q (.ref h₇.objs.size) _);rw [hsz];refine hQ _ _ _ hx hy hu h₀ hz₀ (up _ _ (zx NC) hTO₇) (bv f1 λo e=>up _ o (zx zG) e) (bv f2 λo e=>up _ o (zx BG) e) (bv f3 λo e=>up _ o (zx Iw) e) hT₈ (λc o hc e=>?_) ?_
 ·exact up c o (apart hc in1) ((K7 c λq=>hc (CQ _ (CQ _ q))).trans ((hs₁.2 c (apart hc in1)).trans e))
 ·exact (up _ _ (zx in1) ((K7 _ nd2.1).trans (K1 in1 _ hTI))).trans hTI.symm
theorem oA{l1 l2 l3:Addr}{xs ys:Array Value}{a b c:Value}{Q:Option Value→Shared→Prop}(hh:A.handled=none)(D:kE z TI TO i1 i2 i3 l1 l2 l3)
  (hz:IsZip s.heap z TI TO .none) (hTI:et s.heap TI (.ref i1) (.ref i2) (.ref i3)) (hTO:et s.heap TO a b c)
  (h1:s.heap.IsListIter i1 l1 k) (h2:s.heap.IsListIter i2 l2 k) (h3:s.heap.IsListIter i3 l3 k) (hl1:s.heap.IsList l1 xs) (hl2:s.heap.IsList l2 ys) (hl3:s.heap.IsList l3 zs)
  (hQ:∀x y u,xs[k]? =some x→ys[k]? =some y→zs[k]? =some u→∀h',IsZip h' z TI TO (rawInt s.heap.objs.size)→et h' TO x y u→h'.IsListIter i1 l1 (k+1)→h'.IsListIter i2 l2 (k+1)→h'.IsListIter i3 l3 (k+1)→et h' s.heap.objs.size x y u→
   (∀c o,c∉[z,TI,TO,i1,i2,i3]→s.heap.get? c=some o→h'.get? c=some o)→h'.get? TI=s.heap.get? TI→Q (some (.ref s.heap.objs.size)) {s with heap:=h'})
  (hE:(xs[k]? =none∨ys[k]? =none∨zs[k]? =none)→∀h',(∀c o,c∉[z,TI,TO,i1,i2,i3]→s.heap.get? c=some o→h'.get? c=some o)→Q none {s with heap:=h'}):wpAny (model prog w) A (pyNext (.ref z)) Q E s:=by
 have hT:s.TypeIs (.ref z) "zip":=(aZ _ hz rfl);unfold pyNext;refine zm (Tc (Jq (name:=Ku "__next__") hT F.slot_zip_next
  (Lj F.slot_zip_next hT F.entry_zip_next (D7 hh D hz hTI hTO h1 h2 h3 hl1 hl2 hl3 (λx y u ex ey eu h' a1 a2 a3 a4 a5 a6 a7 a8=>EY (hQ x y u ex ey eu h' a1 a2 a3 a4 a5 a6 a7 a8)) λq h' e hk he=>?_) (F.args_zip_next_1 _))))
 refine au he λo ho hc=>?_;refine zm (Rj (T:="StopIteration") (b:=true) (aZ o ho hc) SA ?_);exact EY (hE q _ hk)
end
noncomputable abbrev oW(h:Heap)(l1:Addr):Heap:=h.push {cls:=.type "list_iterator",data:=.fields #[.ref l1,.int 0 0]}
noncomputable abbrev Ml(h:Heap)(l1 l2 l3:Addr):Heap:=oW (oW (oW h l1) l2) l3
noncomputable abbrev NF(h:Heap)(l1 l2 l3:Addr):Heap:=(Ml h l1 l2 l3).push {cls:=.type "tuple",data:=.seq #[.ref h.objs.size,.ref (oW h l1).objs.size,.ref (oW (oW h l1) l2).objs.size]}
noncomputable abbrev Nm(h:Heap)(l1 l2 l3:Addr):Heap:=(NF h l1 l2 l3).push {cls:=.type "tuple",data:=.seq #[.none,.none,.none]}
noncomputable abbrev yg(h:Heap)(l1 l2 l3:Addr):Heap:=(Nm h l1 l2 l3).push {cls:=.type "zip",data:=.fields #[.none,.bool false,.bool false,.ref (Ml h l1 l2 l3).objs.size,.ref (NF h l1 l2 l3).objs.size]}
theorem qi(l1 l2 l3:Addr)(xs ys zs:Array Value):
  Meets (Builtin.«zip.__new__» ⟨[.type "zip",.ref l1,.ref l2,.ref l3],[]⟩) (λzz R s=>s.heap.IsList l1 xs∧s.heap.IsList l2 ys∧s.heap.IsList l3 zs∧
   R (.ok (.ret (.ref (Nm s.heap l1 l2 l3).objs.size))) {s with heap:=yg s.heap l1 l2 l3}):=
 .of_wp λprog w A R s h=>by
  obtain ⟨hp,g,d,tk,os⟩:=s;refine mm h λhl1 hl2 hl3 h=>?_;have hsub:=sub_zip;have hL1:Ue (QX ⟨hp,g,d,tk,os⟩) l1 xs:=hl1;have hL2:Ue (QX ⟨hp.push {cls:=.type "list_iterator",data:=.fields #[.ref l1,.int 0 0]},g,d,tk,os⟩) l2 ys:=Rn hl2 _;have hL3:Ue (QX ⟨(hp.push {cls:=.type "list_iterator",data:=.fields #[.ref l1,.int 0 0]}).push {cls:=.type "list_iterator",data:=.fields #[.ref l2,.int 0 0]},g,d,tk,os⟩) l3 zs:=Rn (Rn hl3 _) _
  wp_walk using M8 hL1,M8 hL2,M8 hL3
  exact (aZ _ rfl h)
section
theorem yz{l1 l2 l3:Addr}{xs ys:Array Value}(hl1:s.heap.IsList l1 xs)(hl2:s.heap.IsList l2 ys)(hl3:s.heap.IsList l3 zs)
  (h:∀h',IsZip h' (s.heap.objs.size+5) (s.heap.objs.size+3) (s.heap.objs.size+4) .none→et h' (s.heap.objs.size+3) (.ref s.heap.objs.size) (.ref (s.heap.objs.size+1)) (.ref (s.heap.objs.size+2))→
   et h' (s.heap.objs.size+4) .none .none .none→h'.IsListIter s.heap.objs.size l1 0→h'.IsListIter (s.heap.objs.size+1) l2 0→h'.IsListIter (s.heap.objs.size+2) l3 0→
   (∀c o,s.heap.get? c=some o→h'.get? c=some o)→Q (.ref (s.heap.objs.size+5)) {s with heap:=h'}):
  wpAny (model prog w) A (call (.type "zip") [.ref l1,.ref l2,.ref l3]) Q E s:=by
 refine callType_new F.called_zip (by decide) (F3.typeCall_zip_3 _ _ _) (F3.newCall_zip_3 _ _ _) (λobj=>F3.args_object_init_4 obj _ _ _) F.entry_zip_new
  (qi l1 l2 l3 xs ys zs) (ll hl1 hl2 hl3 ?_)
 have z1:(oW s.heap l1).objs.size=s.heap.objs.size+1:=M5 ..;have z2:(oW (oW s.heap l1) l2).objs.size=s.heap.objs.size+2:=by rw [M5,z1]
 have z3:(Ml s.heap l1 l2 l3).objs.size=s.heap.objs.size+3:=by rw [M5,z2]
 have z4:(NF s.heap l1 l2 l3).objs.size=s.heap.objs.size+4:=by rw [M5,z3]
 have z5:(Nm s.heap l1 l2 l3).objs.size=s.heap.objs.size+5:=by rw [M5,z4]
 have g6:(yg s.heap l1 l2 l3).get? (Nm s.heap l1 l2 l3).objs.size=some _:=D5 _ rfl;have g5:(yg s.heap l1 l2 l3).get? (NF s.heap l1 l2 l3).objs.size=some _:=B8 _ (D5 _ rfl);have g4:(yg s.heap l1 l2 l3).get? (Ml s.heap l1 l2 l3).objs.size=some _:=B8 _ (B8 _ (D5 _ rfl));have g3:(yg s.heap l1 l2 l3).get? (oW (oW s.heap l1) l2).objs.size=some _:=B8 _ (B8 _ (B8 _ (D5 _ rfl)));have g2:(yg s.heap l1 l2 l3).get? (oW s.heap l1).objs.size=some _:=B8 _ (B8 _ (B8 _ (B8 _ (D5 _ rfl))));have g1:(yg s.heap l1 l2 l3).get? s.heap.objs.size=some _:=B8 _ (B8 _ (B8 _ (B8 _ (B8 _ (D5 _ rfl)))));refine (?_:_∧_);rw [z3,z4,z5] at g6
 rw [z4] at g5
 rw [z1,z2,z3] at g4
 rw [z2] at g3
 rw [z1] at g2
 rw [z5];exact ⟨(aZ _ g6 rfl),h _ g6 g4 g5 (cL _ g1 rfl rfl) (cL _ g2 rfl rfl) (cL _ g3 rfl rfl) λc o x=>
  B8 _ (B8 _ (B8 _ (B8 _ (B8 _ (B8 _ x)))))⟩
end
section
variable {l1 l2 l3:Addr} {zs:List PyData}
noncomputable def Hz(z TI TO i1 i2 i3 l1 l2 l3:Addr)(f0:Value)(xs ys zs:List PyData):xN:= λT α μ i s=>(IsZip s.heap z TI TO f0∧et s.heap TI (.ref i1) (.ref i2) (.ref i3)∧∃a b c,et s.heap TO a b c)∧s.heap.IsListIter i1 l1 i∧s.heap.IsListIter i2 l2 i∧s.heap.IsListIter i3 l3 i∧bq s.heap α (T++ai α μ) (.ref l1) (.d (.list xs))∧bq s.heap α (T++ai α μ) (.ref l2) (.d (.list ys))∧bq s.heap α (T++ai α μ) (.ref l3) (.d (.list zs))
theorem gV.zip3(D:kE z TI TO i1 i2 i3 l1 l2 l3):lj C (.ref z) [z,TI,TO,i1,i2,i3] [] (xk xs ys zs) none true (Hz z TI TO i1 i2 i3 l1 l2 l3 .none xs ys zs)
  (λT α μ i v s=>∃a,v=.ref a∧Hz z TI TO i1 i2 i3 l1 l2 l3 (rawInt a) xs ys zs T α μ (i+1) s∧a∉[z,TI,TO,i1,i2,i3]) where
 frame:=by
  intro O T T' α α' μ μ' i s s' st S hO hwr hT hwT I0 I1 hg;refine mP st λz0 h3 h4 h7 h5 h6 h8=>pc z0 λh0 h1 a b c h2=>?_;have kp:= λ{b}=>jp I0 S hwr hwT (b:=b);exact ⟨⟨kp in1 _ h0,kp NC _ h1,a,b,c,kp zG _ h2⟩,bv h3 (kp BG),bv h4 (kp Iw),bv h7 (kp in6),h5.stepO S hO hT,h6.stepO S hO hT,h8.stepO S hO hT⟩
 item:=by
  intro A T α μ i x s Q E R Iv hw st ex k;refine mP st λz0 h3 h4 h7 h5 h6 h8=>pc z0 λh0 h1 a0 b0 c0 h2=>?_;refine bm (h5.isList Iv rfl) λzz its1 e1 hp1 rr1=>bm (h6.isList Iv rfl) λzz its2 e2 hp2 rr2=>bm (h8.isList Iv rfl) λzz its3 e3 hp3 rr3=>?_;cases e1;cases e2;cases e3;refine Hb ex λx1 x2 x3 ex1 ex2 ex3 zx=>au (ji rr1 ex1) λv1 ev1 r1=>au (ji rr2 ex2) λv2 ev2 r2=>au (ji rr3 ex3) λv3 ev3 r3=>?_;subst zx;refine oA R.handled D h0 h1 h2 h3 h4 h7 hp1.isList hp2.isList hp3.isList (λx' y' u' ex ey eu h' a1 a2 a3 a4 a5 a6 a7 a8=>?_) (λq=>q.elim (λq=>cv (q.symm.trans ev1)) λq=>q.elim (λq=>cv (q.symm.trans ev2)) λq=>cv (q.symm.trans ev3));have r1:=Fi (ev1.symm.trans ex)▸r1;have r2:=Fi (ev2.symm.trans ey)▸r2;have r3:=Fi (ev3.symm.trans eu)▸r3;have mv:aG [z,TI,TO,i1,i2,i3] [] s {s with heap:=h'}:=aG.of_heap (tk:=s.toks) λb o hb e=>a7 b o hb e;have hTI:et h' TI (.ref i1) (.ref i2) (.ref i3):=a8.trans h1;have J:=Iv.moves mv hw λb hb=>Vo (P:= λb=>∃o,h'.get? b=some o) ⟨_,a1⟩ ⟨_,hTI⟩ ⟨_,a2⟩ (au a3 λo e zz=>⟨o,e⟩) (au a4 λo e zz=>⟨o,e⟩) (au a5 λo e zz=>⟨o,e⟩) hb;have lt:∀ {c o},s.heap.get? c=some o→s.heap.objs.size≠c:= λe=>PY (Mk e);exact k _ _ mv J ⟨_,_,_,rfl,rfl,⟨_,a6,rfl,_,rfl⟩,.cons (r1.moves mv hw) (.cons (r2.moves mv hw) (.cons (r3.moves mv hw) (aw.nil _ _)))⟩ ⟨_,rfl,⟨⟨a1,hTI,_,_,_,a2⟩,a3,a4,a5,h5.moves mv hw,h6.moves mv hw,h8.moves mv hw⟩,λhb=>Vo (P:= λb=>s.heap.objs.size≠b) (lt h0) (lt h1) (lt h2) (au h3 λo e zz=>lt e) (au h4 λo e zz=>lt e) (au h7 λo e zz=>lt e) hb rfl⟩
 go:=by
  intro A T α μ i x v t s Q E Iv hw st tg ir k;refine cq st λa hv st ha=>mP st λz0 h3 h4 h7 h5 h6 h8=>pc z0 λh0 h1 a0 b0 c0 h2=>jH tg λelts kk pos zq3=>?_;subst hv;subst zq3;have hnd:z∉[TI,TO,i1,i2,i3]:=(KF.mp D.nodup).1;refine Qb h0 λh' he' hs'=>?_;have mv:aG [z,TI,TO,i1,i2,i3] [] s {s with heap:=h'}:=aG.of_heap (tk:=s.toks) (λb o hb e=>(hs'.2 b λq=>hb (q▸in1)).trans e);have kp:∀b,b≠z→∀o,s.heap.get? b=some o→h'.get? b=some o:= λb hb o e=>(hs'.2 b hb).trans e;have hTI:et h' TI (.ref i1) (.ref i2) (.ref i3):=kp _ (λq=>hnd (q▸in1)) _ h1;have hTO:et h' TO a0 b0 c0:=kp _ (λq=>hnd (q▸NC)) _ h2;have q3:h'.IsListIter i1 l1 (i+1):=bv h3 (kp _ λq=>hnd (q▸zG));have q4:h'.IsListIter i2 l2 (i+1):=bv h4 (kp _ λq=>hnd (q▸BG));have q7:h'.IsListIter i3 l3 (i+1):=bv h7 (kp _ λq=>hnd (q▸Iw));have J:=Iv.moves mv hw λb hb=>Vo (P:= λb=>∃o,h'.get? b=some o) ⟨_,he'⟩ ⟨_,hTI⟩ ⟨_,hTO⟩ (au q3 λo e zz=>⟨o,e⟩) (au q4 λo e zz=>⟨o,e⟩) (au q7 λo e zz=>⟨o,e⟩) hb;exact k _ mv J (ir.moves mv hw λzz a2 q o z=>by cases q;exact kp _ (λq=>ha (q▸in1)) _ z) ⟨⟨he',hTI,a0,b0,c0,hTO⟩,q3,q4,q7,h5.moves mv hw,h6.moves mv hw,h8.moves mv hw⟩
 done:=by
  intro A T α μ i s Q E R Iv hw st ex k;refine mP st λz0 h3 h4 h7 h5 h6 h8=>pc z0 λh0 h1 a0 b0 c0 h2=>bm (h5.isList Iv rfl) λzz its1 e1 hp1 rr1=>bm (h6.isList Iv rfl) λzz its2 e2 hp2 rr2=>bm (h8.isList Iv rfl) λzz its3 e3 hp3 rr3=>?_;cases e1;cases e2;cases e3;have hend:its1[i]? =none∨its2[i]? =none∨its3[i]? =none:=(t_ ex).imp (fG rr1) λq=>(t_ q).imp (fG rr2) (fG rr3);refine oA R.handled D h0 h1 h2 h3 h4 h7 hp1.isList hp2.isList hp3.isList (λx' y' u' ex ey eu=>hend.elim (λq=>cv (q.symm.trans ex)) λq=>q.elim (λq=>cv (q.symm.trans ey)) λq=>cv (q.symm.trans eu)) (λzz h' hx=>?_);have mv:aG [z,TI,TO,i1,i2,i3] [] s {s with heap:=h'}:=aG.of_heap (tk:=s.toks) (λb o hb e=>hx b o hb e);exact k _ mv λT' hT'=>Iv.done mv hw hT'
 self:=by
  intro A T α μ i s Q E st h;exact Pq st.1.1 h
end
section
theorem aJ.frames(hx:g7 O h h')(hO:∀a∈O,bW h a)(r:aJ h M v d):aJ h' M v d:=r.ext hx (λa ha=>.inr (.inl (hO a ha))) λzz=>.inl
theorem aw.frames(hx:g7 O h h')(hO:∀a∈O,bW h a){v:List Value}{d:List PyData}(r:aw h M v d):aw h' M v d:=r.ext hx (λa ha=>.inr (.inl (hO a ha))) λzz=>.inl
theorem bq.frames(hx:g7 O h h')(hO:∀a∈O,bW h a)(r:bq h α M v V):bq h' α M v V:=r.ext hx (λa ha=>.inr (.inl (hO a ha))) (λzz zz=>id) λzz=>.inl
theorem bl.frames(I:bl C T α μ s)(hx:g7 O s.heap h')(hO:∀a∈O,bW s.heap a∧C.B.get? a=none)(hd:∀a∈O,∃o,h'.get? a=some o):
  bl C T α μ {s with heap:=h',toks:=tk}∧aV O α μ s α μ {s with heap:=h',toks:=tk}:=by
 have dm:∀a o,s.heap.get? a=some o→∃o',h'.get? a=some o':= λa o e=>(U_ (a∈O)).elim (hd a) λq=>⟨o,hx a o e q⟩;exact ⟨I.ext hx (λa ha=>(hO a ha).2) (λa ha=>.inr (.inl (hO a ha).1)) (λa ha q=>I.notFrame ha (hO a q).1) (λzz=>id) (λa ha=>(I.tdom a ha).elim (dm a)) rfl I.gens rfl,aZ [] (D8 _).symm (λzz h=>nomatch h),λb o e ht=>hx b o e λq=>ht (yx _ q),λzz h=>.inl h,dm,λzz zz e=>e⟩
theorem bl.frames'(I:bl C T α μ s)(hx:g7 O s.heap h')(hO:∀a∈O,bW s.heap a∧C.B.get? a=none)(hd:∀a∈O,a∉T):bl C T α μ {s with heap:=h',toks:=tk}:=
 I.ext hx (λa ha=>(hO a ha).2) (λa ha=>.inr (.inl (hO a ha).1)) (λa ha q=>I.notFrame ha (hO a q).1) (λzz=>id) (λa ha=>(I.tdom a ha).imp λo e=>hx a o e λq=>hd a q ha) rfl I.gens rfl
def gp(C:gL)(cx:Cx)(env:Env)(O T α:List Addr)(μ:List ah)(ρ':d5)(s s':Shared):Prop:=
 bl C T α μ s'∧aV O α μ s α μ s'∧bi C cx env O ρ' s'.heap α (T++ai α μ)
theorem lF{m:Str→Option Value}{o:Option Value}(x:h.Ns a m)(y:h.IsCell a o):False:=by
 refine jy x λob es ep e d zz=>?_;refine au y λob' e' d'=>?_;rw [e] at e';cases e'
 rw [d] at d';cases d'
theorem rH{W:AV}(h:(ρ.set i (some V))[j]? =some (some W))(k:j=i→W=V→G)(k':j≠i→ρ[j]? =some (some W)→G):G:=by
 rw [Qp] at h
 by_cases q:i=j
 ·rw [if_pos q] at h
  by_cases z:i<ρ.length
  ·rw [if_pos z] at h;exact k q.symm (Fi (Fi h)).symm
  ·rw [if_neg z] at h;exact cv h
 ·rw [if_neg q] at h
  exact k' (λz=>q z.symm) h
theorem bW.but{b:Addr}(x:bW h b)(hs:Lp a h h')(ha:bW h' a):bW h' b:=by
 by_cases q:b=a
 ·subst q;exact ha
 ·refine au x λo e z=>?_
  exact (aZ o ((hs.2 b q).trans e) z)
theorem iR(hs:Lp a h h'):g7 [a] h h':= λb o e hb=>(hs.2 b λq=>hb (by simp [q])).trans e
theorem sq(I:bl C T α μ s)(F:bi C cx env O ρ s.heap α (T++ai α μ))(ha:a∈O)(hs:Lp a s.heap h')(hf:bW h' a)(hl:ρ'.length=ρ.length)
  (loc:∀m,s.heap.Ns env.locals m→(∀ (i:Nat) x V,cx.names[i]? =some (x,1)→ρ[i]? =some (some V)→∃v,m x=some v∧bq s.heap α (T++ai α μ) v V)→(∀ {v V},bq s.heap α (T++ai α μ) v V→bq h' α (T++ai α μ) v V)→∃m,h'.Ns env.locals m∧∀ (i:Nat) x V,cx.names[i]? =some (x,1)→ρ'[i]? =some (some V)→∃v,m x=some v∧bq h' α (T++ai α μ) v V)
  (cel:∀cad,Rk cx env O ρ s.heap α (T++ai α μ) cad→(∀ {v V},bq s.heap α (T++ai α μ) v V→bq h' α (T++ai α μ) v V)→∀ (i:Nat) x k,cx.names[i]? =some (x,k)→2≤k→∃o,h'.IsCell (cad i) o∧∀V,ρ'[i]? =some (some V)→∃v,o=some v∧bq h' α (T++ai α μ) v V):gp C cx env O T α μ ρ' s {s with heap:=h',toks:=tk}:=by
 have hO1:∀b∈[a],bW s.heap b∧C.B.get? b=none:= λb hb=>(AA.mp hb)▸F.own a ha;have mv:∀ {v V},bq s.heap α (T++ai α μ) v V→bq h' α (T++ai α μ) v V:=bq.frames (iR hs) λb hb=>(hO1 b hb).1;refine f_ (I.frames (tk:=tk) (iR hs) hO1 λb hb=>(AA.mp hb)▸(au hf λo e zz=>⟨o,e⟩)) λI' S'=>?_;exact ⟨I',S'.weak λb hb=>.inl ((AA.mp hb)▸ha),F.sc,F.gl,F.bn,hl.trans F.len,au F.loc λm hm hq=>loc m hm hq mv,bP F.cel λcad hc=>⟨cad,hc.look,cel cad hc mv,hc.own,hc.inj⟩,λb hb=>⟨(F.own b hb).1.but hs hf,(F.own b hb).2⟩,F.lo,F.off,F.nd⟩
theorem ss(i:Nat)(hn:cx.names[i]? =some (x,1))(hl:cx.scope.names.lookup x=some .local)(hk:cx.scope.kind=.function)
  (I:bl C T α μ s) (F:bi C cx env O ρ s.heap α (T++ai α μ)) (r:bq s.heap α (T++ai α μ) v V):
  wpAny (model C.prog C.w) A (storeName env x v) (λzz s'=>gp C cx env O T α μ (ρ.set i (some V)) s s') E s:=by
 refine au F.loc λm0 hm0 hq0=>?_;refine Pe (by unfold JH;rw [F.sc];exact hl) hm0 (λh' hn' hs'=>?_) (by rw [F.sc,hk];rfl);refine sq I F F.lo hs' (fT hn') LD (λzz hm zz mv=>aZ _ hn' λj y W h1 h2=>rH h2 (λe1 e2=>?_) λhj h2=>?_) λcad hc mv j y k h1 h2=>?_
 ·subst e1;subst e2
  rw [hn] at h1;refine cm h1 ?_
  exact aZ v (if_pos rfl) (mv r)
 ·have hy:y≠x:= λq=>hj (F.nd j i x (q▸h1) hn)
  exact au (hq0 j y W h1 h2) λu e ru=>aZ u ((if_neg hy).trans e) (mv ru)
 ·refine au (hc.has j y k h1 h2) λo ho hv=>aZ o (r7 ho (iR hs') λq=>lF hm0 ((AA.mp q)▸ho)) λW h3=>rH h3 (λe1 e2=>?_) λhj h3=>au (hv W h3) λu e ru=>aZ u e (mv ru)
  subst e1;cases hn.symm.trans h1;exact absurd h2 (by decide)
theorem DD(i:Nat)(hn:cx.names[i]? =some (x,2))(hl:cx.scope.names.lookup x=some .cell)(hk:cx.scope.kind=.function)
  (I:bl C T α μ s) (F:bi C cx env O ρ s.heap α (T++ai α μ)) (r:bq s.heap α (T++ai α μ) v V):
  wpAny (model C.prog C.w) A (storeName env x v) (λzz s'=>gp C cx env O T α μ (ρ.set i (some V)) s s') E s:=by
 refine bP F.cel λcad0 hc0=>?_;refine au (hc0.has i x 2 hn (Dj _)) λo ho hv=>?_;have hlk:=hc0.look i x 2 hn (Dj _);refine wpAny_storeName_cell (by rw [F.sc];exact hk) (by unfold JH;rw [F.sc];exact hl) hlk ho λh' hn' hs'=>?_;refine sq (tk:=s.toks) I F (hc0.own i x hn) hs' (h_ hn') LD (λm hm hq mv=>aZ m (zc hm (iR hs') λq=>lF hm ((AA.mp q)▸ho)) λj y W h1 h2=>rH h2 (λe1 e2=>?_) λhj h2=>?_) λcad hc mv j y k h1 h2=>?_
 ·subst e1
  rw [hn] at h1;cases h1
 ·exact au (hq j y W h1 h2) λu e ru=>aZ u e (mv ru)
 ·have ec:cad i=cad0 i:=Fi ((hc.look i x 2 hn (Dj _)).symm.trans hlk)
  by_cases hji:j=i
  ·subst hji
   refine aZ (some v) (ec▸hn') λW h3=>aZ v rfl (rH h3 (λzz e2=>?_) λhj zz=>absurd rfl hj);rw [e2];exact mv r
  ·refine au (hc.has j y k h1 h2) λo' ho' hv'=>aZ o' (r7 ho' (iR hs') λq=>hji (hc.inj j i y x k 2 h1 hn h2 (Dj _) ((AA.mp q).trans ec.symm))) λW h3=>rH h3 (λhj zz=>absurd hj hji) λzz h3=>au (hv' W h3) λu e ru=>aZ u e (mv ru)
end
def nN(C:gL)(cx:Cx)(tgt:Expr)(tup:Bool)(tf:d5→PyData→Option d5):Prop:=HC tup tgt∧∀A env O T ρ α μ s E v x ρ',A.handled=none→bl C T α μ s→bi C cx env O ρ s.heap α (T++ai α μ)→
 fp tup s.heap (T++ai α μ) v x→tf ρ x=some ρ'→wpAny (model C.prog C.w) A (assign tgt env v) (λzz s'=>gp C cx env O T α μ ρ' s s') E s
def aA(C:gL)(cx:Cx)(x:Str)(i:Nat):Prop:=∀A env O T ρ α μ s E v V,bl C T α μ s→bi C cx env O ρ s.heap α (T++ai α μ)→bq s.heap α (T++ai α μ) v V→
 wpAny (model C.prog C.w) A (storeName env x v) (λzz s'=>gp C cx env O T α μ (ρ.set i (some V)) s s') E s
noncomputable def dz(i:Nat):d5→PyData→Option d5:= λρ x=>some (ρ.set i (some (.d x)))
noncomputable def l3{X:Type}:List X→Option (X×X×X)
 | [a,b,c]=>some (a,b,c)
 |_=>none
theorem ZE{X:Type}{l:List X}{p:X×X×X}(h:l3 l=some p):l=[p.1,p.2.1,p.2.2]:=by
 cases l with
 |nil=>exact cv h
 |cons a l=>
  cases l with
  |nil=>exact cv h
  |cons b l=>
   cases l with
   |nil=>exact cv h
   |cons c l=>
    cases l with
    |nil=>cases h;rfl
    |cons d l=>exact cv h
noncomputable def jh(i j:Nat):d5→PyData→Option d5:= λρ d=>bp ((dT d).bind l2) λa b=>some ((ρ.set i (some (.d a))).set j (some (.d b)))
noncomputable def YX(i j k:Nat):d5→PyData→Option d5:= λρ d=>bp ((dT d).bind l3) λa p=>some (((ρ.set i (some (.d a))).set j (some (.d p.1))).set k (some (.d p.2)))
theorem Sx{X:Type}{f:List PyData→Option X}{p:X}(h:(dT d).bind f=some p)(k:∀ds,d=.tuple ds→f ds=some p→G):G:=by
 cases q:dT d with
 |none=>rw [q] at h;exact cv h
 |some ds=>rw [q] at h;exact k ds (TA q) h
theorem ij(r:aw h M vs (d::ds))(k:∀v us,vs=v::us→aJ h M v d→aw h M us ds→G):G:=by
 cases r with
 |ccons r rs=>exact k _ _ rfl r rs
theorem l7(r:aw h M vs []):vs=[]:=by
 cases r with
 |cnil=>rfl
section
theorem uA(i:Nat)(hn:cx.names[i]? =some (x,1))(hl:cx.scope.names.lookup x=some .local)(hk:cx.scope.kind=.function):aA C cx x i:= λzz zz zz zz zz zz zz zz zz zz zz I F r=>ss i hn hl hk I F r
theorem eX(i:Nat)(hn:cx.names[i]? =some (x,2))(hl:cx.scope.names.lookup x=some .cell)(hk:cx.scope.kind=.function):aA C cx x i:= λzz zz zz zz zz zz zz zz zz zz zz I F r=>DD i hn hl hk I F r
theorem bM(h:aA C cx x i):nN C cx (.Name x pos) false (dz i):=by
 refine ⟨(jK x pos rfl),λA env O T ρ α μ s E v x ρ' hh I F r e=>?_⟩;refine cA e ?_;exact QJ (h A env O T ρ α μ s E v (.d x) I F r)
theorem gp.trans{s2:Shared}(x:gp C cx env O T α μ ρ1 s s1)(y:gp C cx env O T α μ ρ2 s1 s2):gp C cx env O T α μ ρ2 s s2:=(fu y.1 (x.2.1.trans y.2.1) y.2.2)
theorem hZ(x:P4 h.objs.size h h'):∀b o,h.get? b=some o→h'.get? b=some o:= λb o e=>x b o (LY (Mk e)) e
theorem bi.keeps(F:bi C cx env O ρ s.heap α (T++ai α μ))(I:bl C T α μ s)(hk:∀b o,s.heap.get? b=some o→h'.get? b=some o):bi C cx env O ρ h' α (T++ai α μ):=
 F.step (s':= {s with heap:=h'}) I (aV.keeps (tk:=s.toks) hk)
section
variable {s0:Shared}
theorem Gd{elts:List Expr}{Q:Unit→Shared→Prop}(hh:A.handled=none)(I:bl C T α μ s)(F:bi C cx env O ρ s.heap α (T++ai α μ))(r:fp true s.heap (T++ai α μ) v d)(e:d=.tuple ds)(hn:(assignEach elts env).length=ds.length)(hstar:(assignEach elts env).findIdx? (·.1)=none)
  (k:∀vs s1,bl C T α μ s1→bi C cx env O ρ s1.heap α (T++ai α μ)→aV O α μ s α μ s1→aw s1.heap (T++ai α μ) vs ds→wpAny (model C.prog C.w) A (assignInOrder ((assignEach elts env).map (·.2)) vs) Q E s1):wpAny (model C.prog C.w) A (assign (.Tuple elts kk pos) env v) Q E s:=by
 refine dk r λa items ds' zq3 zq4 ht rr=>?_;subst zq3;cases e.symm.trans zq4;refine Td hh ht (hn.trans (rr.length.symm.trans (Array.length_toList))) hstar λh' he=>?_;have hk:=hZ he;exact k _ _ (I.keeps (tk:=s.toks) hk) (F.keeps I hk) (aV.keeps (tk:=s.toks) hk).up (rr.keeps hk)
theorem ki{t:Value→Sem Unit}{ts:List (Value→Sem Unit)}{Q:Unit→Shared→Prop}(ht:∀v (Q:Unit→Shared→Prop),wpAny (model C.prog C.w) A (storeName env x v) Q E s→wpAny (model C.prog C.w) A (t v) Q E s)(hx:aA C cx x i)(I:bl C T α μ s)(F:bi C cx env O ρ s.heap α (T++ai α μ))(S:aV O α μ s0 α μ s)(r:aw s.heap (T++ai α μ) vs (d::ds))
  (k:∀us s1,bl C T α μ s1→bi C cx env O (ρ.set i (some (.d d))) s1.heap α (T++ai α μ)→aV O α μ s0 α μ s1→aw s1.heap (T++ai α μ) us ds→wpAny (model C.prog C.w) A (assignInOrder ts us) Q E s1):wpAny (model C.prog C.w) A (assignInOrder (t::ts) vs) Q E s:=
 ij r λv us e r rs=>e▸PZ (ht v _ (D1 (hx A env O T ρ α μ _ E v (.d d) I F r) (λzz s2 st=>k us s2 st.1 st.2.2 (S.trans st.2.1) (rs.ext st.2.1.ext (iI.app λa ha=>.inr (.inl (F.own a ha).1)) λzz=>.inl)) λzz zz x=>x))
theorem fA{ts:List (Value→Sem Unit)}{Q:Unit→Shared→Prop}(hx:aA C cx x i)(I:bl C T α μ s)(F:bi C cx env O ρ s.heap α (T++ai α μ))(S:aV O α μ s0 α μ s)(r:aw s.heap (T++ai α μ) vs (d::ds))
  (k:∀us s1,bl C T α μ s1→bi C cx env O (ρ.set i (some (.d d))) s1.heap α (T++ai α μ)→aV O α μ s0 α μ s1→aw s1.heap (T++ai α μ) us ds→wpAny (model C.prog C.w) A (assignInOrder ts us) Q E s1):wpAny (model C.prog C.w) A (assignInOrder (assign (.Name x px) env::ts) vs) Q E s:=
 ki (λzz zz h=>QJ h) hx I F S r k
theorem kO(I:bl C T α μ s)(F:bi C cx env O ρ s.heap α (T++ai α μ))(S:aV O α μ s0 α μ s)(r:aw s.heap (T++ai α μ) vs []):wpAny (model C.prog C.w) A (assignInOrder [] vs) (λzz s'=>gp C cx env O T α μ ρ s0 s') E s:=
 l7 r▸assignInOrder_nil (fu I S F)
end
theorem eY{y:Str}(hx:aA C cx x i)(hy:aA C cx y j):nN C cx (.Tuple [.Name x px,.Name y py] kk pos) true (jh i j):=
 ⟨jI _ _ _ rfl,λA env O T ρ α μ s E v d ρ' hh I F r e=>aD e λa b q e=>Sx q λds ed q=>cA e (Gd hh I F r (ed.trans (congrArg _ (Ac q))) rfl rfl λzz zz I F S r=>fA hx I F S r λzz zz I F S r=>fA hy I F S r λzz zz I F S r=>kO I F S r)⟩
theorem HV{y z:Str}{pz:Pos}(hx:aA C cx x i)(hy:aA C cx y j)(hz:aA C cx z k):nN C cx (.Tuple [.Name x px,.Name y py,.Name z pz] kk pos) true (YX i j k):=
 ⟨jI _ _ _ rfl,λA env O T ρ α μ s E v d ρ' hh I F r e=>aD e λa b q e=>Sx q λds ed q=>cA e (Gd hh I F r (ed.trans (congrArg _ (ZE q))) rfl rfl λzz zz I F S r=>fA hx I F S r λzz zz I F S r=>fA hy I F S r λzz zz I F S r=>fA hz I F S r λzz zz I F S r=>kO I F S r)⟩
end
def cS(C:gL)(T α:List Addr)(μ:List ah)(s:Shared)(xs:List PyData)(g:Option Nat)(tup:Bool)(μ':List ah)(it:Value)(s':Shared):Prop:=
 ∃wr gi St Mid α',gV C it gi xs g tup St Mid∧bl C (wr++T) α' μ' s'∧aV [] α μ s α' μ' s'∧St wr (wr++T) α' μ' 0 s'∧(∀b∈wr,s.heap.get? b=none)∧(∀i∈gi,s.gens[i]? =none)∧cw g xs μ'
noncomputable abbrev IF:=d5→List ah→Option (List PyData×Option Nat×List ah)
structure mM (C:gL) (n:Nat) (cx:Cx) (e:Expr) (tup:Bool) (f:IF):Prop where
 of::
 run:∀A env O T ρ α μ s E xs g μ',cR A n→bl C T α μ s→bi C cx env O ρ s.heap α (T++ai α μ)→f ρ μ=some (xs,g,μ')→
  wpAny (model C.prog C.w) A (eval e env) (λv s1=>wpAny (model C.prog C.w) A (pyIter v) (cS C T α μ s xs g tup μ') E s1) E s
section
theorem EH{g g':Array GenState}(h:∀ (i:Nat) (x:GenState),g[i]? =some x→g'[i]? =some x)(e:g'[i]? =none):g[i]? =none:=by
 cases q:g[i]? with
 |none=>rfl
 |some x=>rw [h i x q] at e;exact cv (F6 e)
theorem cS.trans{g:Option Nat}(x:aV [] α μ s α' μ' s')(p:cS C T α' μ' s' xs g tup μ'' it s''):cS C T α μ s xs g tup μ'' it s'':=by
 refine gB p λwr gi St Mid α'' W I S st hw hg hgd=>?_;exact (j2 wr gi St Mid α'' W I (x.trans S) st (λb hb=>dY x.dom (hw b hb)) (λi hi=>EH x.gens (hg i hi)) hgd)
theorem lQ(hW:∀a∈W,s.heap.get? a=none):∀a∈(W++T)++ai α μ,a∈T++ai α μ∨s.heap.get? a=none:= λa ha=>
 (AF.mp ha).elim (λh=>(AF.mp h).elim (λh=>.inr (hW a h)) λh=>.inl (yx _ h)) λh=>.inl (CO _ h)
theorem aJ.grow(r:aJ s.heap (T++ai α μ) v d)(hk:∀b o,s.heap.get? b=some o→s'.heap.get? b=some o)(hW:∀a∈W,s.heap.get? a=.none):aJ s'.heap ((W++T)++ai α μ) v d:=
 r.ext (W:=[]) (g7.of_keeps hk) (iI.nil _ _) (lQ hW)
theorem aw.grow{v:List Value}{d:List PyData}(r:aw s.heap (T++ai α μ) v d)(hk:∀b o,s.heap.get? b=some o→s'.heap.get? b=some o)(hW:∀a∈W,s.heap.get? a=none):aw s'.heap ((W++T)++ai α μ) v d:=
 r.ext (W:=[]) (g7.of_keeps hk) (iI.nil _ _) (lQ hW)
theorem bq.grow(r:bq s.heap α (T++ai α μ) v V)(hk:∀b o,s.heap.get? b=some o→s'.heap.get? b=some o)(hW:∀a∈W,s.heap.get? a=none):bq s'.heap α ((W++T)++ai α μ) v V:=
 r.ext (W:=[]) (g7.of_keeps hk) (iI.nil _ _) (λzz zz=>id) (lQ hW)
theorem bl.grow(I:bl C T α μ s)(hk:∀b o,s.heap.get? b=some o→s'.heap.get? b=some o)(hos:s'.os=s.os)(hb:AllBare s.gens→AllBare s'.gens)(hW:∀a∈W,s.heap.get? a=none)(hd:∀a∈W,∃o,s'.heap.get? a=some o):bl C (W++T) α μ s':=by
 refine ⟨λb o e=>hk b o (I.keep b o e),I.len,λi a c h1 h2=>(I.cells i a c h1 h2).ext (W:=[]) (g7.of_keeps hk) (iI.nil _ _) (lQ hW) (λzz q=>nomatch q),I.nodup,λa ha q=>(AF.mp ha).elim (λh=>I.cdom q (hW a h)) (λh=>I.apart a h q),λa ha=>(AF.mp ha).elim (hd a) (λh=>(I.tdom a h).imp λo e=>hk a o e),λa ha=>(AF.mp ha).elim (λh=>?_) (I.tnew a),I.new,hb I.gens,hos.trans I.os⟩;cases e:C.B.get? a with
 |none=>rfl
 |some o=>exact cv ((hW a h).symm.trans (I.keep a o e))
theorem bi.grow(F:bi C cx env O ρ s.heap α (T++ai α μ))(hk:∀b o,s.heap.get? b=some o→s'.heap.get? b=some o)(hW:∀a∈W,s.heap.get? a=none):bi C cx env O ρ s'.heap α ((W++T)++ai α μ):=
 F.ext (W:=[]) (g7.of_keeps hk) (iI.nil _ _) (λzz zz=>id) (lQ hW) λzz zz q=>nomatch q
theorem aV.of_keeps(hk:∀b o,s.heap.get? b=some o→s'.heap.get? b=some o)(hg:∀ (i:Nat) (x:GenState),s.gens[i]? =some x→s'.gens[i]? =some x):aV [] α μ s α μ s':=
 ⟨(aZ ([]) (by simp) (by simp)),g7.of_keeps hk,λzz h=>.inl h,λa o e=>⟨o,hk a o e⟩,hg⟩
theorem cS.new{g:Option Nat}{St:xN}{Mid:List Addr→List Addr→List ah→Nat→Value→Shared→Prop}(I:bl C T α μ s)(W:lj C it wr [] xs g tup St Mid)
  (hk:∀b o,s.heap.get? b=some o→h'.get? b=some o) (hw:∀a∈wr,s.heap.get? a=none) (hd:∀a∈wr,∃o,h'.get? a=some o) (hg:cw g xs μ)
  (st:St (wr++T) α μ 0 {s with heap:=h',toks:=tk}):cS C T α μ s xs g tup μ it {s with heap:=h',toks:=tk}:=
 (j2 wr ([]) (StW wr St) (ae6 wr Mid) α W.walk (I.grow (s':= {s with heap:=h',toks:=tk}) hk rfl (λh=>h) hw hd) (aV.of_keeps hk λzz zz e=>e) ⟨rfl,st⟩ hw (by simp) hg)
theorem bx(ha:h.objs.size≤a):h.get? a=none:=by
 cases e:h.get? a with
 |none=>rfl
 |some o'=>exact absurd (Mk e) (Nat.not_lt.mpr ha)
theorem y5(h:dc μ V=some xs):cw (F7 V) xs μ:=by
 intro j e;cases V with
 |c i=>refine cA e ?_;exact h
 |d x=>exact cv e
 |rng a b=>exact cv e
 |ty T=>exact cv e
theorem Dv:∀b∈[h.objs.size],h.get? b=none:= λzz hb=>(AA.mp hb)▸bx (Dj _)
theorem cS.push{g:Option Nat}{St:xN}{Mid:List Addr→List Addr→List ah→Nat→Value→Shared→Prop}(I:bl C T α μ s)(W:lj C (.ref s.heap.objs.size) [s.heap.objs.size] [] xs g tup St Mid)(hg:cw g xs μ)(hf:o.isFreed=false)
  (st:St ([s.heap.objs.size]++T) α μ 0 {s with heap:=s.heap.push o}):cS C T α μ s xs g tup μ (.ref s.heap.objs.size) {s with heap:=s.heap.push o}:=
 cS.new (tk:=s.toks) I W (bc _ _) Dv (λb hb=>(AA.mp hb)▸⟨_,D5 _ hf⟩) hg st
theorem ET(I:bl C T α μ s)(r:bq s.heap α (T++ai α μ) v V)(h:dc μ V=some xs)(ht:tup=false∨nK xs=true):
  wpAny (model C.prog C.w) A (pyIter v) (cS C T α μ s xs (F7 V) tup μ) E s:=by
 refine bm (r.isList I h) λa items zq2 hp rr=>?_;subst zq2;refine M8 hp.isList ?_;exact cS.push I (gV.list (V:=V) (λq=>fO (fI hp) (bx (TN q.symm))) λq=>ht.elim (λz=>nomatch q.symm.trans z) id) (y5 h) rfl (fu (cL _ (D5 _ rfl) rfl rfl) (r.grow (s':= {s with heap:=_}) (bc _ _) Dv) h)
theorem Ad(I:bl C T α μ s)(r:bq s.heap α (T++ai α μ) v (.d (.tuple xs))):
  wpAny (model C.prog C.w) A (pyIter v) (cS C T α μ s xs none false μ) E s:=by
 cases r with
 | @ctuple a items _ hp haM rr=>
 refine wpAny_pyIter_tuple hp ?_;exact cS.push I (gV.tuple (items:=items) λq=>fO (i5 hp) (bx (TN q.symm))) (λzz e=>nomatch e) rfl (ll (cL _ (D5 _ rfl) rfl rfl) (jY hp (W:=[]) (g7.of_keeps (bc _ _)) (λq=>nomatch q)) (rr.grow (s':= {s with heap:=_}) (bc _ _) Dv) (λq=>(lQ Dv a q).elim haM (fO (i5 hp))))
theorem zh{a b:Int}(I:bl C T α μ s)(r:bq s.heap α (T++ai α μ) v (.rng a b))(hsm:KH a b 1=true):
  wpAny (model C.prog C.w) A (pyIter v) (cS C T α μ s (fK a (b-a).toNat) none false μ) E s:=by
 refine qS r λr t u w zq4 hr hM=>?_;subst zq4;refine wpAny_pyIter_range hr hsm ?_;have hz:Mn a b 1=((b-a).toNat:Int)-(0:Nat):=by
  unfold Mn;simp only [show (1:Int)>0 by decide,if_true]
  split<;>lia
 refine cS.push I gV.range (λzz e=>nomatch e) rfl (?_:IsRangeIter _ s.heap.objs.size (a+((0:Nat):Int)*1) (((b-a).toNat:Int)-(0:Nat)) 1);rw [←hz,show a+((0:Nat):Int)*1=a by lia];exact D5 _ rfl
end
theorem YH(h:GX V=some xs):V=.d (.tuple xs):=ax h λd e1 e2=>(iO e1).trans (congrArg _ (TA e2))
noncomputable def XU:AV→Option (Int×Int)
 | .rng a b=>some (a,b)
 |_=>none
theorem RO{p:Int×Int}(h:XU V=some p):V=.rng p.1 p.2:=by
 cases V with
 |rng a b=>cases h;rfl
 |_=>exact cv h
def aK(tup:Bool)(f:EF):IF:= λρ μ=>bp (f ρ μ) λV μ1=>oe (GX V) (some ()) (λxs zz=>if tup=false then some (xs,none,μ1) else none) (oe (XU V) (some ()) (λr zz=>if tup=false∧KH r.1 r.2 1=true then some (fK r.1 (r.2-r.1).toNat,none,μ1) else none)
 (bo (dc μ1 V) λxs=>if tup=false∨nK xs=true then some (xs,F7 V,μ1) else none))
section
theorem b_(hf:ab C n cx e f):mM C n cx e tup (aK tup f):=by
 refine .of ?_;intro A env O T ρ α μ s E xs g μ' R I F h;refine aD h λV μ1 e1 h=>hf.go R I F e1 λv s1 α1 I1 S1 r1=>?_;refine bU h (λys zz e2 zz h=>i9 h λhq h=>?_) λh=>bU h (λp zz e2 zz h=>i9 h λhq h'=>?_) λh=>ax h λys e2 h=>i9 h λhq h=>?_
 ·subst hq
  exact gj h (D1 (Ad I1 (YH e2▸r1)) (λzz zz q=>cS.trans S1 q) λzz zz x=>x)
 ·refine f_ hq λz hsm=>?_
  subst z;exact gj h' (D1 (zh I1 (RO e2▸r1) hsm) (λzz zz q=>cS.trans S1 q) λzz zz x=>x)
 ·exact gj h (D1 (ET I1 r1 e2 hq) (λzz zz q=>cS.trans S1 q) λzz zz x=>x)
noncomputable abbrev iX:=List AV→List ah→Option (List PyData×Option Nat×List ah)
def iA(C:gL)(n:Nat)(f:Value)(tup:Bool)(spec:iX):Prop:=∀A T α μ s E vs Vs xs g μ',cR A n→bl C T α μ s→fj s.heap α (T++ai α μ) vs Vs→spec Vs μ=some (xs,g,μ')→
 wpAny (model C.prog C.w) A (call f vs) (λv s1=>wpAny (model C.prog C.w) A (pyIter v) (cS C T α μ s xs g tup μ') E s1) E s
def c9(fs:List EF)(spec:iX):IF:= λρ μ=>bp (fh fs ρ μ) spec
variable {spec:iX}
theorem Tm(hg:C.mg x=none)(hb:bootBuiltins x=some fv)(hx:x≠"__name__")(hn:kY fv)(hf:iA C n fv tup spec)
  (ha:dg C n cx (e::es) fs) (hs:∀env,starEach (e::es) env=(false,eval e env)::starEach es env) (hp:∀env,(backTo pos (starEach (e::es) env)).any (·.1)=false)
  (hl:cx.scope.names.lookup x=some .globalImplicit) (hk:cx.scope.kind=.function) (hdb:(x==("__debug__":Str))=false):
  mM C n cx (.Call (.Name x xp) (e::es) [] pos) tup (c9 fs spec):=by
 refine .of ?_;intro A env O T ρ α μ s E xs g μ' R I F h;refine aD h λVs μ1 e1 h=>?_
 ·refine (?_:wpAny _ A (do callWith pos (←eval (.Name x xp) env) [] (backTo pos (starEach (e::es) env)) []) _ _ s)
  refine zm (Fg (by rw [F.sc];exact hk) (by unfold JH;rw [F.sc];exact hl) (Lu (by rw [F.gl];exact C.g.keeps I.keep) hg (by rw [F.bn];exact C.b.keeps I.keep) ((C.bt x hx).trans hb) ?_) hdb);refine hn _ _ _ _ _ _ _ _ (hp env) (eh (hs env) ha R I F e1 λvs s1 α1 I1 S1 r1=>?_);exact D1 (hf A T α1 μ1 s1 E vs Vs xs g μ' R I1 r1 h) (λv s2 p=>D1 p (λzz zz q=>cS.trans S1 q) λzz zz x=>x) λzz zz x=>x
theorem Mf{fd:FuncData}(hg:C.mg x=some (.ref fa))(ho:C.B.get? fa=some o)(hd:o.data=.func fd)(hf:iA C n (.ref fa) tup spec)
  (ha:dg C n cx (e::es) fs) (hs:∀env,starEach (e::es) env=(false,eval e env)::starEach es env)
  (hl:cx.scope.names.lookup x=some .globalImplicit) (hk:cx.scope.kind=.function) (hdb:(x==("__debug__":Str))=false):
  mM C n cx (.Call (.Name x xp) (e::es) [] pos) tup (c9 fs spec):=by
 refine .of ?_;intro A env O T ρ α μ s E xs g μ' R I F h;refine aD h λVs μ1 e1 h=>?_
 ·refine (?_:wpAny _ A (do callWith pos (←eval (.Name x xp) env) [] (backTo pos (starEach (e::es) env)) []) _ _ s)
  refine zm (Fg (by rw [F.sc];exact hk) (by unfold JH;rw [F.sc];exact hl) (Ll (by rw [F.gl];exact C.g.keeps I.keep) hg ?_) hdb);refine MU (o:=o) (fd:=fd) (eh (hs env) ha R I F e1 λvs s1 α1 I1 S1 r1=>⟨⟨I1.keep _ _ ho,hd⟩,?_⟩);exact D1 (hf A T α1 μ1 s1 E vs Vs xs g μ' R I1 r1 h) (λv s2 p=>D1 p (λzz zz q=>cS.trans S1 q) λzz zz x=>x) λzz zz x=>x
end
variable {itf : IF}
noncomputable def g9:iX:= λVs μ=>bo (l1 Vs) λV=>bp (vC V μ) λd μ1=>bo (dL d) λxs=>some (cN 0 xs,none,μ1)
theorem HE(r:aJ h M v (.list xs)):∃a items,v=.ref a∧h.PlainList a items∧a<h.objs.size:=
 bm r.of_list λa items z hp zz=>dy a items z hp (bP hp λn e=>Mk e)
theorem gJ(r:fj h α M vs Vs)(e:l1 Vs=some V)(k:∀v,vs=[v]→bq h α M v V→G):G:=by
 rw [W0 e] at r
 exact au (K8 r) k
theorem tY{a:Nat}(h:a<k)(j:Nat):a≠k+j:=LY (Oq h (Fv ..))
theorem iS:iA C n (.type "enumerate") true g9:=by
 intro A T α μ s E vs Vs xs g μ' R I r h;refine ax h λV eV h=>aD h λd μ1 e1 h=>ax h λys ed h=>gj h (gJ r eV λv zq1 r1=>?_);subst zq1;refine dW (tz I r1 e1) λI1 S1 r2=>?_;rw [UM ed] at r2
 refine bm (HE r2) λa items zq2 hp hlt=>?_;subst zq2;refine call_enumerate_list hp.isList λh' he hi hsz hk=>QG he (cS.trans S1 ?_);have hw:∀b∈[s.heap.objs.size+1,s.heap.objs.size],s.heap.get? b=none∧∃o,h'.get? b=some o:= λb hb=>(Cp.mp hb).elim (λq=>q▸⟨bx (P3 _),_,he⟩) λq=>(AA.mp q)▸⟨bx (Dj _),au hi λo e zz=>⟨o,e⟩⟩;exact cS.new (tk:=s.toks) I1 (gV.enum (e:=s.heap.objs.size+1) (it:=s.heap.objs.size) (l:=a) (No _) (tY hlt 1) (tY hlt 0)) hk (λb hb=>(hw b hb).1) (λb hb=>(hw b hb).2) (λzz e=>nomatch e) (fu ⟨_,he⟩ hi (bq.grow (V:=.d (.list ys)) (s':= {s with heap:=h'}) r2 hk λb hb=>(hw b hb).1))
noncomputable def ln:iX:= λVs μ=>bp (lM Vs μ) λds μ1=>bp (l2 ds) λx y=>oe (dL x) (dL y) (λxs ys=>some (mN xs ys,none,μ1)) none
noncomputable def Bv:iX:= λVs μ=>bp (lM Vs μ) λds μ1=>bp (l3 ds) λx p=>oe (dL x) (dL p.1) (λxs ys=>bo (dL p.2) λzs=>some (xk xs ys zs,none,μ1)) none
theorem iu(r:aw h M vs (d::ds))(e:dL d=some xs)(k:∀a items us,vs=.ref a::us→aJ h M (.ref a) (.list xs)→h.PlainList a items→a<h.objs.size→aw h M us ds→G):G:=by
 rw [UM e] at r
 exact ij r λv us z r1 rs=>bm (HE r1) λa items zv hp hl=>k a items us (zv▸z) (zv▸r1) hp hl rs
theorem BD:iA C n (.type "zip") true ln:=by
 intro A T α μ s E vs Vs xs g μ' R I r h;refine aD h λds μ1 e1 h=>aD h λx y el h=>bU h (λxs1 ys1 ex ey h=>gj h ?_) λh=>cv h;refine dW (jC I r e1) λI1 S1 r2=>?_;rw [Ac el] at r2
 refine iu r2 ex λa its1 us zu q1 hp1 hl1 r2=>iu r2 ey λb its2 us2 zu2 q2 hp2 hl2 r2=>?_;cases l7 r2;subst zu2;subst zu;refine call_zip_2 hp1.isList hp2.isList λh' hz hTI hTO i1 i2 hsz hk=>Pq hz (cS.trans S1 ?_);have hw:∀b∈[s.heap.objs.size+4,s.heap.objs.size+2,s.heap.objs.size+3,s.heap.objs.size,s.heap.objs.size+1],s.heap.get? b=none∧∃o,h'.get? b=some o:= λb hb=>E9 (P:= λb=>s.heap.get? b=none∧∃o,h'.get? b=some o) ⟨bx (Fv ..),_,hz⟩ ⟨bx (Fv ..),_,hTI⟩ ⟨bx (Fv ..),_,hTO⟩ ⟨bx (Dj _),au i1 λo e zz=>⟨o,e⟩⟩ ⟨bx (Fv ..),au i2 λo e zz=>⟨o,e⟩⟩ hb;have hw1:= λb hb=>(hw b hb).1;have na:=tY hl1;have nb:=tY hl2;have D:ZipApart (s.heap.objs.size+4) (s.heap.objs.size+2) (s.heap.objs.size+3) s.heap.objs.size (s.heap.objs.size+1) a b:=by
  constructor<;>first|exact na _|exact nb _|exact na 0|exact nb 0| (refine LY ?_;lia)| (refine PY ?_;lia)
 exact cS.new (tk:=s.toks) I1 (gV.zip2 (xs:=xs1) (ys:=ys1) D ⟨(na 2).symm,(nb 2).symm⟩) hk hw1 (λc hc=>(hw c hc).2) (λzz e=>nomatch e) (uJ ⟨hz,hTI,_,_,hTO⟩ i1 i2 (bq.grow (V:=.d (.list xs1)) (s':= {s with heap:=h'}) q1 hk hw1) (bq.grow (V:=.d (.list ys1)) (s':= {s with heap:=h'}) q2 hk hw1))
theorem nd6(k:Nat):([k+5,k+3,k+4,k,k+1,k+2]:List Nat).Nodup:=by
 simp only [KF,Cp,Ew,or_false,not_false_eq_true,N5,and_true];lia
theorem Tk{a:Nat}(h:a<k):a∉([k+5,k+3,k+4,k,k+1,k+2]:List Nat):=by
 simp only [Cp,Ew,or_false];lia
theorem MX:iA C n (.type "zip") true Bv:=by
 intro A T α μ s E vs Vs xs g μ' R I r h;refine aD h λds μ1 e1 h=>aD h λx p el h=>bU h (λxs1 ys1 ex ey h=>ax h λzs1 ez h=>gj h ?_) λh=>cv h;refine dW (jC I r e1) λI1 S1 r2=>?_;rw [ZE el] at r2
 refine iu r2 ex λa its1 us zu q1 hp1 hl1 r2=>iu r2 ey λb its2 us2 zu2 q2 hp2 hl2 r2=>iu r2 ez λc its3 us3 zu3 q3 hp3 hl3 r2=>?_;cases l7 r2;subst zu3;subst zu2;subst zu;refine yz hp1.isList hp2.isList hp3.isList λh' hz hTI hTO i1 i2 i3 hk=>Pq hz (cS.trans S1 ?_);have hw:∀b∈[s.heap.objs.size+5,s.heap.objs.size+3,s.heap.objs.size+4,s.heap.objs.size,s.heap.objs.size+1,s.heap.objs.size+2],s.heap.get? b=none∧∃o,h'.get? b=some o:= λb hb=>(Cp.mp hb).elim (λq=>q▸⟨bx (Fv ..),_,hz⟩) (E9 (P:= λb=>s.heap.get? b=none∧∃o,h'.get? b=some o) ⟨bx (Fv ..),_,hTI⟩ ⟨bx (Fv ..),_,hTO⟩ ⟨bx (Dj _),au i1 λo e zz=>⟨o,e⟩⟩ ⟨bx (Fv ..),au i2 λo e zz=>⟨o,e⟩⟩ ⟨bx (Fv ..),au i3 λo e zz=>⟨o,e⟩⟩);have hw1:= λb hb=>(hw b hb).1;exact cS.new (tk:=s.toks) I1 (gV.zip3 (xs:=xs1) (ys:=ys1) (zs:=zs1) ⟨nd6 _,Tk hl1,Tk hl2,Tk hl3⟩) hk hw1 (λc hc=>(hw c hc).2) (λzz e=>nomatch e) (IA ⟨hz,hTI,_,_,_,hTO⟩ i1 i2 i3 (bq.grow (V:=.d (.list xs1)) (s':= {s with heap:=h'}) q1 hk hw1) (bq.grow (V:=.d (.list ys1)) (s':= {s with heap:=h'}) q2 hk hw1) (bq.grow (V:=.d (.list zs1)) (s':= {s with heap:=h'}) q3 hk hw1))
section
variable {O2:List Addr}
theorem Bj(hT:∀a∈T',a∈T∨s.heap.get? a=none):∀a∈T'++ai α μ,a∈T++ai α μ∨s.heap.get? a=none:= λa ha=>
 (AF.mp ha).elim (λh=>(hT a h).imp_left (yx _)) λh=>.inl (CO _ h)
theorem aw.movesG{v:List Value}{d:List PyData}(r:aw s.heap (T++ai α μ) v d)(x:aG wr gi s s')(hw:∀b∈wr,b∈T)(hT:∀a∈T',a∈T∨s.heap.get? a=none):aw s'.heap (T'++ai α μ) v d:=r.ext x.ext (oy (iP hw)) (Bj hT)
theorem bq.movesG(r:bq s.heap α (T++ai α μ) v V)(x:aG wr gi s s')(hw:∀b∈wr,b∈T)(hT:∀a∈T',a∈T∨s.heap.get? a=none):bq s'.heap α (T'++ai α μ) v V:=r.ext x.ext (oy (iP hw)) (λzz zz=>id) (Bj hT)
theorem bi.movesG(F:bi C cx env O ρ s.heap α (T++ai α μ))(x:aG wr gi s s')(hw:∀a∈wr,a∈T)(hT:∀a∈T',a∈T∨s.heap.get? a=none):bi C cx env O ρ s'.heap α (T'++ai α μ):=
 F.ext x.ext (oy (iP hw)) (λzz zz=>id) (Bj hT) λa ha h=>F.off a (yx _ (hw a h)) ha
theorem bi.moves(F:bi C cx env O ρ s.heap α (T++ai α μ))(x:aG wr gi s s')(hw:∀a∈wr,a∈T):bi C cx env O ρ s'.heap α (T++ai α μ):=F.movesG x hw λzz=>.inl
def du(D:Addr)(acc:List PyData)(T α:List Addr)(μ:List ah)(s:Shared):Prop:=∃items,s.heap.PlainList D items∧aw s.heap (T++ai α μ) items.toList acc
theorem du.stepO(x:du D acc T α μ s)(I:bl C T α μ s)(hD:D∈T)(y:aV O2 α μ s α' μ' s')(hO:iI O2 T s.heap)(hn:D∉O2):du D acc T α' μ' s':=by
 refine au x λitems p r=>?_;exact (aZ items (eO p y.ext λq=>(AF.mp q).elim hn λq=>I.apart D hD (de q)) (r.stepO y hO λa ha=>.inl ha))
theorem du.moves(x:du D acc T α μ s)(y:aG wr gi s s')(hw:∀a∈wr,a∈T)(hn:D∉wr):du D acc T α μ s':=by
 refine au x λitems p r=>?_;exact (aZ items (eO p y.ext hn) (r.moves y hw))
theorem du.movesG(x:du D acc T α μ s)(y:aG wr gi s s')(hw:∀a∈wr,a∈T)(hn:D∉wr)(hT:∀a∈T',a∈T∨s.heap.get? a=none):du D acc T' α μ s':=by
 refine au x λitems p r=>?_;exact (aZ items (eO p y.ext hn) (r.movesG y hw hT))
theorem aV.of_moves(x:aG wr [] s s')(hd:∀a∈wr,∃o,s'.heap.get? a=some o):aV wr α μ s α μ s':=
 ⟨aZ [] (D8 _).symm (λzz h=>nomatch h),λb o e ht=>x.heap b o (λq=>ht (yx _ q)) e,λzz=>.inl,λa o e=>(U_ (a∈wr)).elim (hd a) λq=>⟨o,x.heap a o q e⟩,λi z e=>x.gens i z (λh=>nomatch h) e⟩
end
noncomputable abbrev CF:=d5→List ah→List PyData→Option (d5×List ah×List PyData)
def AG(C:gL)(cx:Cx)(T α:List Addr)(μ:List ah)(s:Shared)(cenv:Env)(Cn D:Addr)(ρ':d5)(μ':List ah)(acc':List PyData)(s':Shared):Prop:=
 ∃α',bl C T α' μ' s'∧aV [Cn,D] α μ s α' μ' s'∧bi C cx cenv [Cn] ρ' s'.heap α' (T++ai α' μ')∧du D acc' T α' μ' s'
structure X_ (C:gL) (n:Nat) (cx:Cx) (m:Value→Env→Sem Unit) (cf:CF):Prop where
 of::
 run:∀A cenv Cn D T ρ α μ s E acc ρ' μ' acc',cR A n→D∈T→bl C T α μ s→bi C cx cenv [Cn] ρ s.heap α (T++ai α μ)→du D acc T α μ s→cf ρ μ acc=some (ρ',μ',acc')→
  wpAny (model C.prog C.w) A (m (.ref D) cenv) (λzz s'=>AG C cx T α μ s cenv Cn D ρ' μ' acc' s') E s
noncomputable def Qh(elt:Expr):Value→Env→Sem Unit:= λacc env=>do let _←call (.builtin "list.append") [acc,←eval elt env]
def aY(f:EF):CF:= λρ μ acc=>bp (f ρ μ) λV μ1=>bp (vC V μ1) λd μ2=>if acc.length≤sizeLine then some (ρ,μ2,acc++[d]) else none
section
theorem Nz(hf:ab C n cx elt f):X_ C n cx (Qh elt) (aY f):=by
 refine .of ?_;intro A cenv Cn D T ρ α μ s E acc ρ' μ' acc' R hD I F ac h;refine aD h λV μ1 e1 h=>aD h λd μ2 e2 h=>i9 h λhz h=>gj h ?_;refine zm (hf.go R I F e1 λv s1 α1 I1 S1 r1=>?_);refine dW (tz I1 r1 e2) λI2 S2 r2=>?_;have S12:=S1.trans S2;refine au (ac.stepO I hD S12 (iI.nil _ _) (Ew)) λitems hp rr=>?_;refine zm (QW hp (λh' hl' hs'=>EY ?_) (by rw [show items.size=acc.length from by rw [←rr.length];simp];exact hz));have mv:aG [D] [] s1 {s1 with heap:=h'}:=aG.of_heap (tk:=s1.toks) λb o hb e=>(hs'.2 b λq=>hb (AA.mpr q)).trans e;have hw:∀b∈[D],b∈T:= λb hb=>AA.mp hb▸hD;have hd:∀b∈[D],∃o,h'.get? b=some o:= λb hb=>AA.mp hb▸bP hl' λk e=>⟨_,e⟩;exact (jj α1 (I2.moves mv hw hd) ((S12.up).trans ((aV.of_moves mv hd).weak λa ha=>.inl (CQ _ ha))) ((F.step I S12).moves mv hw) _ hl' (by rw [Tu];exact (rr.moves mv hw).append (.cons (r2.moves mv hw) (aw.nil _ _))))
structure j3 (C:gL) (n:Nat) (cx:Cx) (ifs:List Expr) (t:TF):Prop where
 of::
 run:∀A env O T ρ α μ s E r μ',cR A n→bl C T α μ s→bi C cx env O ρ s.heap α (T++ai α μ)→t ρ μ=some (r,μ')→
  wpAny (model C.prog C.w) A (forIn ifs true λc r=>if r=true then do let ok←isTrue c env (eval c env);pure (LI ok) else pure (LI r)) (λb s'=>b=r∧∃α',bl C T α' μ' s'∧aV [] α μ s α' μ' s') E s
def bg:TF:= λzz μ=>some (true,μ)
theorem cH:j3 C n cx [] bg:=by
 refine .of ?_;intro A env O T ρ α μ s E r μ' R I F h;refine cm h ?_;exact wpAny_tests_nil (gS rfl α I (aV.refl _ _ _ _))
theorem j5{c:Expr}(ht:gO C n cx c t):j3 C n cx [c] t:=by
 refine .of ?_;intro A env O T ρ α μ s E r μ' R I F h;exact wpAny_tests_one (ht.run A env O T ρ α μ s E r μ' R I F h)
def c_(t:TF)(cf:CF):CF:= λρ μ acc=>bp (t ρ μ) λb μ1=>cond b (cf ρ μ1 acc) (some (ρ,μ1,acc))
end
open Classical in
def ff(tf:d5→PyData→Option d5)(cf:CF)(g:Option Nat)(xs:List PyData)(r:List PyData):CF:=
 r.foldr (λx k ρ μ acc=>bo (tf ρ x) λρ1=>bp (cf ρ1 μ acc) λρ2 p=>if cw g xs p.1 then k ρ2 p.1 p.2 else none) λρ μ acc=>some (ρ,μ,acc)
open Classical in
theorem q_{cf:CF}{g:Option Nat}{r:List PyData}{x:PyData}:ff tf cf g xs (x::r) ρ μ acc=bo (tf ρ x) λρ1=>bp (cf ρ1 μ acc) λρ2 p=>if cw g xs p.1 then ff tf cf g xs r ρ2 p.1 p.2 else none:=rfl
abbrev gI(elt:Expr)(gens:List Comprehension)(scope:Scope)(pos:Pos)(d:Nat)(target iter:Expr)(ifs:List Expr)(K:Value→Env→Sem Fin→Sem Fin):Prop:=∀it acc env,
 compTurn (.ListComp elt gens scope pos) d it acc env=(standAt iter.pos>>= λzz=>pyNext it>>= λr=>match r with
  |none=>pure (.done .next)
  |some v=>letOwnedTupleGo target it v>>= λzz=>assign target env v>>= λzz=>
   (forIn ifs true λc r=>if r=true then do let ok←isTrue c env (eval c env);pure (LI ok) else pure (LI r))>>= λok=>
    if ok=true then K acc env (again (.compLoop (.ListComp elt gens scope pos) d it acc env)) else again (.compLoop (.ListComp elt gens scope pos) d it acc env))
noncomputable def F_(elt:Expr):Value→Env→Sem Fin→Sem Fin:= λacc env k=>Qh elt acc env>>= λzz=>k
theorem bN(elt target iter:Expr)(ifs:List Expr)(scope:Scope)(pos:Pos):gI elt [⟨target,iter,ifs,0⟩] scope pos 0 target iter ifs (F_ elt):= λzz zz zz=>rfl
theorem Dw(elt target iter:Expr)(ifs:List Expr)(scope:Scope)(pos:Pos)(g:Comprehension):gI elt [g,⟨target,iter,ifs,0⟩] scope pos 1 target iter ifs (F_ elt):= λzz zz zz=>rfl
noncomputable def Gv(e:Expr)(iter:Expr):Value→Env→Sem Fin→Sem Fin:= λacc env k=>do
 let x←eval iter env
 standAt iter.pos
 let x←foldedSetIterable iter env x
 let it←holding [x] (pyIter x)
 let _←runOwn (.compStart e 1 it acc env) env
 k
theorem ib(elt target iter:Expr)(ifs:List Expr)(scope:Scope)(pos:Pos)(target' iter':Expr)(ifs':List Expr):
 gI elt [⟨target,iter,ifs,0⟩,⟨target',iter',ifs',0⟩] scope pos 0 target iter ifs (Gv (.ListComp elt [⟨target,iter,ifs,0⟩,⟨target',iter',ifs',0⟩] scope pos) iter'):= λzz zz zz=>rfl
variable {cf : CF}
structure lE (C:gL) (n:Nat) (cx:Cx) (K:Value→Env→Sem Fin→Sem Fin) (cf:CF):Prop where
 of::
 run:∀A cenv Cn D T ρ α μ s E Q k acc ρ' μ' acc',cR A n→D∈T→bl C T α μ s→bi C cx cenv [Cn] ρ s.heap α (T++ai α μ)→du D acc T α μ s→cf ρ μ acc=some (ρ',μ',acc')→
  (∀s',AG C cx T α μ s cenv Cn D ρ' μ' acc' s'→wpAny (model C.prog C.w) A k Q E s')→wpAny (model C.prog C.w) A (K (.ref D) cenv k) Q E s
section
theorem bZ(hf:ab C n cx elt f):lE C n cx (F_ elt) (aY f):=by
 refine .of ?_;intro A cenv Cn D T ρ α μ s E Q k acc ρ' μ' acc' R hD I F ac h hk;exact zm (D1 ((Nz hf).run A cenv Cn D T ρ α μ s E acc ρ' μ' acc' R hD I F ac h) (λzz s' p=>hk s' p) λzz zz x=>x)
theorem bi.mono(F:bi C cx env O ρ h α M)(hm:∀a∈M',a∈M):bi C cx env O ρ h α M':=
 F.ext (g7.refl [] h) (iI.nil _ _) (λzz zz=>id) (λa ha=>.inl (hm a ha)) λzz zz q=>nomatch q
theorem mr{m:List Addr}:∀a∈T++m,a∈(wr++T)++m:= λa ha=>(AF.mp ha).elim (λh=>yx _ (CO _ h)) (CO _)
theorem vV{x:PyData}(e:xs[i]? =some x):xs.drop i=x::xs.drop (i+1):=by
 refine bP (AX.mp e) λh e'=>?_;rw [Nh h,e']
variable {gens:List Comprehension} {d:Nat} {ifs:List Expr} {K:Value→Env→Sem Fin→Sem Fin}
theorem Jm{g:Option Nat}{r:List PyData}{x:PyData}{P:Prop}(h:ff tf (c_ t cf) g xs (x::r) ρ μ acc=some (ρ',μ',acc'))
  (H:∀ρ1 b μ1 ρ2 μ2 acc2,tf ρ x=some ρ1→t ρ1 μ=some (b,μ1)→(if b=true then cf ρ1 μ1 acc=some (ρ2,μ2,acc2) else ρ2=ρ1∧μ2=μ1∧acc2=acc)→cw g xs μ2→ff tf (c_ t cf) g xs r ρ2 μ2 acc2=some (ρ',μ',acc')→P):P:=by
 refine ax h λρ1 e1 h=>aD h λρ2 p e2 h=> @i9 _ (Q_ _) _ _ _ _ h λq h=>?_;refine aD e2 λb μ1 e3 e2=>?_;cases b with
 |true=>exact H ρ1 true μ1 ρ2 p.1 p.2 e1 e3 (by rw [if_pos rfl];exact e2) q h
 |false=>exact H ρ1 false μ1 ρ2 p.1 p.2 e1 e3 (by rw [if_neg HJ];exact gj e2 (fu rfl rfl rfl)) q h
abbrev Xz(C:gL)(cx:Cx)(T:List Addr)(cenv:Env)(Cn D:Addr)(α₀:List Addr)(μ₀:List ah)(s₀:Shared)(St:List Addr→xN)(xs:List PyData)(F:List PyData→d5→List ah→List PyData→Prop)(k:Nat)(s:Shared):Prop:=
 ∃wr i ρ α μ acc,(Cn∉wr∧(∀a∈T,a∉wr)∧∀b∈wr,s₀.heap.get? b=none)∧k=xs.length+1-i∧i≤xs.length∧bl C (wr++T) α μ s∧bi C cx cenv [Cn] ρ s.heap α ((wr++T)++ai α μ)∧du D acc (wr++T) α μ s∧St wr (wr++T) α μ i s∧aV [Cn,D] α₀ μ₀ s₀ α μ s∧F (xs.drop i) ρ μ acc
theorem Xz.mk{F:List PyData→d5→List ah→List PyData→Prop}
  (h1:Cn∉wr) (h2:∀a∈T,a∉wr) (h3:∀b∈wr,s₀.heap.get? b=none) (hk:k=xs.length+1-i) (hi:i≤xs.length) (I:bl C (wr++T) α μ s) (Fr:bi C cx cenv [Cn] ρ s.heap α ((wr++T)++ai α μ)) (ac:du D acc (wr++T) α μ s) (st:St wr (wr++T) α μ i s) (S:aV [Cn,D] α₀ μ₀ s₀ α μ s) (h:F (xs.drop i) ρ μ acc):Xz C cx T cenv Cn D α₀ μ₀ s₀ St xs F k s:=
 (nU wr i ρ α μ acc ⟨h1,h2,h3⟩ hk hi I Fr ac st S h)
theorem BY{wr1:List Addr}{h0:Heap}(hfr:∀b∈wr1,b∈wr∨h.get? b=none):(∀a∈wr1++T,a∈wr++T∨h.get? a=none)∧((∀b∈wr,h0.get? b=none)→(∀b o,h0.get? b=some o→∃o',h.get? b=some o')→∀b∈wr1,h0.get? b=none)∧∀a,a∉wr→(∃o,h.get? a=some o)→a∉wr1:=
 fu (λa ha=>(AF.mp ha).elim (λq=>(hfr a q).imp_left (yx _)) λq=>.inl (CO _ q)) (λhw hd b hb=>(hfr b hb).elim (hw b) (dY hd)) λa hn ho q=>(hfr a q).elim hn λq=>bP ho λo e=>cv (q.symm.trans e)
theorem Bt{a:Nat}(h:i<a):a+1-(i+1)<a+1-i:=Nat.sub_lt_sub_left (P5 h) (Rq i)
theorem j3.go{Q:Bool→Shared→Prop}{r:Bool}(ht:j3 C n cx ifs t)(R:cR A n)(I:bl C T α μ s)(F:bi C cx env O ρ s.heap α (T++ai α μ))(e:t ρ μ=some (r,μ'))
  (k:∀α' s',bl C T α' μ' s'→aV [] α μ s α' μ' s'→Q r s'):wpAny (model C.prog C.w) A (forIn ifs true λc r=>if r=true then do let ok←isTrue c env (eval c env);pure (LI ok) else pure (LI r)) Q E s:=
 D1 (ht.run A env O T ρ α μ s E r μ' R I F e) (λzz s' p=>im p λq α' I' S'=>q▸k α' s' I' S') λzz zz x=>x
theorem EK{g:Option Nat}{Q:Fin→Shared→Prop}
  (turn:gI elt gens scope pos d target iter ifs K) (tg:nN C cx target tup tf) (ts:j3 C n cx ifs t) (ck:lE C n cx K cf) (R:cR A n) (hn2:2≤n) (hD:D∈T) (W:gV C it gi xs g tup St Mid)
  (hCw:Cn∉wr) (hCD:Cn≠D) (hTw:∀a∈T,a∉wr) (hw0:∀b∈wr,s₀.heap.get? b=none) (hg0:∀i∈gi,s₀.gens[i]? =none)
  (I:bl C (wr++T) α μ s) (F:bi C cx cenv [Cn] ρ s.heap α ((wr++T)++ai α μ)) (ac:du D acc (wr++T) α μ s) (st:St wr (wr++T) α μ i s) (S:aV [Cn,D] α₀ μ₀ s₀ α μ s)
  (h:ff tf (c_ t cf) g xs (xs.drop i) ρ μ acc=some (ρ',μ',acc')) (kD:∀s',AG C cx T α₀ μ₀ s₀ cenv Cn D ρ' μ' acc' s'→Q (.done .next) s')
  (kN:∀s',i<xs.length→Xz C cx T cenv Cn D α₀ μ₀ s₀ St xs (λr ρ μ acc=>ff tf (c_ t cf) g xs r ρ μ acc=some (ρ',μ',acc')) (xs.length+1-(i+1)) s'→Q (.again (.compLoop (.ListComp elt gens scope pos) d it (.ref D) cenv)) s'):
  wpAny (model C.prog C.w) A ((compTurn (.ListComp elt gens scope pos) d it (.ref D) cenv).onRaise (λx=>do noteFrame x cenv;theTreesLotGoes x)) Q E s:=by
 have hwT:∀b∈wr,b∈wr++T:= λb hb=>yx _ hb;refine wpAny_noted ?_;rw [turn];refine zm (Ln (zm ?_));cases ex:xs[i]? with
 |none=>
  rw [Mx (Hy.mp ex)] at h
  cases (h:some (ρ,μ,acc)=some (ρ',μ',acc'));refine W.done (R.mono hn2) I st ex λs1 mv hI=>EY (kD s1 (d4 α (hI T λa ha=>⟨CO _ ha,hTw a ha⟩) (S.moves mv hw0 hg0) ((F.moves mv hwT).mono mr) ?_));refine au (ac.moves mv hwT (hTw D hD)) λitems p r=>?_;exact (aZ items p (r.mono mr))
 |some x=>
  rw [vV ex] at h
  refine Jm h λρ1 b μ1 ρ2 μ2 acc2 e1 e3 e2 hgd h'=>?_;clear h;refine W.item (R.mono hn2) I st ex λv s1 wr1 mv1 hfr I1 ir1 md1=>?_;refine zm (W.go I1 md1 tg.1 ir1 λs2 mv2 I2 ir2 st2=>?_);refine dW (BY (T:=T) (h0:=s₀.heap) hfr) λhT1 hw1' hn1=>?_;have hwT1:∀b∈wr1,b∈wr1++T:= λb hb=>yx _ hb;have hDT:D∈wr1++T:=CO _ hD;have hCw1:Cn∉wr1:=hn1 Cn hCw (by
   refine au ((F.own Cn (Gi ..)).1) λo e zz=>?_;exact ⟨o,e⟩)
  have hTw1:∀a∈T,a∉wr1:= λa ha=>hn1 a (hTw a ha) (I.tdom a (CO _ ha));have hw1:=hw1' hw0 S.dom;have F2:=(F.movesG mv1 hwT hT1).moves mv2 hwT1;have ac2:=(ac.movesG mv1 hwT (hTw D hD) hT1).moves mv2 hwT1 (hTw1 D hD);have S2:=(S.moves mv1 hw0 hg0).moves mv2 hw1 hg0;refine zm (D1 (tg.2 A cenv [Cn] (wr1++T) ρ α μ s2 _ v x ρ1 R.handled I2 F2 ir2 e1) (λzz s3 sd=>?_) λzz zz x=>x);have hO3:iI [Cn] (wr1++T) s2.heap:= λa ha=>.inr (.inl (F2.own a ha).1);have ac3:du D acc (wr1++T) α μ s3:=ac2.stepO I2 hDT sd.2.1 hO3 λq=>hCD (by simpa using q:D=Cn).symm;have fin:∀s5 α5,bl C (wr1++T) α5 μ2 s5→aV [Cn,D] α μ s3 α5 μ2 s5→bi C cx cenv [Cn] ρ2 s5.heap α5 ((wr1++T)++ai α5 μ2)→du D acc2 (wr1++T) α5 μ2 s5→Q (.again (.compLoop (.ListComp elt gens scope pos) d it (.ref D) cenv)) s5:= λs5 α5 I5 S5 F5 ac5=>by
   have S25:aV [Cn,D] α μ s2 α5 μ2 s5:=(sd.2.1.weak λa ha=>.inl (Cp.mpr (.inl (AA.mp ha)))).trans S5;have hlt:=(AX.mp ex).1;refine kN s5 hlt (Xz.mk hCw1 hTw1 hw1 rfl hlt I5 F5 ac5 (W.frame st2 S25 (λa ha=>?_) (λa ha=>?_) (λa ha=>.inl ha) hwT1 I2 I5 hgd) (S2.trans S25) h')
   ·rcases Cp.mp ha with q|ha
    ·exact .inr (.inl (q▸(F2.own Cn (Gi ..)).1))
    ·exact .inr (.inr (AA.mp ha▸hDT))
   ·rcases Cp.mp ha with q|ha
    ·exact q▸hCw1
    ·exact AA.mp ha▸hTw1 D hD
  refine zm (ts.go R sd.1 sd.2.2 e3 λα4 s4 I4 S4=>?_);have F4:=sd.2.2.step sd.1 S4;have ac4:=ac3.stepO sd.1 hDT S4 (iI.nil _ _) (Ew);cases b with
  |true=>
   rw [if_pos rfl] at e2⊢
   exact ck.run A cenv Cn D (wr1++T) ρ1 α4 μ1 s4 _ _ _ acc ρ2 μ2 acc2 R hDT I4 F4 ac4 e2 λs5 p5=>eA p5 λα5 I5 S5 F5 ac5=>EY (fin s5 α5 I5 (S4.up.trans S5) F5 ac5)
  |false=>
   rw [if_neg HJ] at e2⊢
   refine eE λGG kG=>?_;refine dW e2 λzq0 zq1 zq2=>?_;subst zq0;subst zq1;subst zq2;refine kG ?_;exact EY (fin s4 α4 I4 S4.up F4 ac4)
theorem tc{g:Option Nat}{RR:Result→Shared→Prop}
  (turn:gI elt gens scope pos d target iter ifs K) (tg:nN C cx target tup tf) (ts:j3 C n cx ifs t) (ck:lE C n cx K cf) (R:cR A n) (hn2:2≤n) (hD:D∈T) (W:gV C it gi xs g tup St Mid)
  (hCw:Cn∉wr) (hCD:Cn≠D) (hTw:∀a∈T,a∉wr) (hw0:∀b∈wr,s₀.heap.get? b=none) (hg0:∀i∈gi,s₀.gens[i]? =none)
  (I:bl C (wr++T) α μ s) (F:bi C cx cenv [Cn] ρ s.heap α ((wr++T)++ai α μ)) (ac:du D acc (wr++T) α μ s) (st:St wr (wr++T) α μ 0 s) (S:aV [Cn,D] α₀ μ₀ s₀ α μ s)
  (h:ff tf (c_ t cf) g xs xs ρ μ acc=some (ρ',μ',acc')) (hR:∀s',AG C cx T α₀ μ₀ s₀ cenv Cn D ρ' μ' acc' s'→RR (.ok .next) s'):
  codeAny (model C.prog C.w) A (.compLoop (.ListComp elt gens scope pos) d it (.ref D) cenv) RR s:=by
 refine codeAny_loop rfl (Xz C cx T cenv Cn D α₀ μ₀ s₀ St xs λr ρ μ acc=>ff tf (c_ t cf) g xs r ρ μ acc=some (ρ',μ',acc')) (λk s=>?_) (xs.length+1) (Xz.mk (i:=0) hCw hTw hw0 rfl (LJ _) I F ac st S h);clear hCw hTw hw0 I F ac st S h;intro p;refine nX p λwr i ρ α μ acc q zk hi I F ac st S h=>?_;refine bH (F6 zk) ?_;refine dW q λhCw hTw hw0=>?_;exact EK (A:=A) turn tg ts ck R hn2 hD W hCw hCD hTw hw0 hg0 I F ac st S h hR λs' hl p=>(gS rfl _ (Bt hl) p)
end
theorem r_{R:Result→Shared→Prop}{ifs:List Expr}{g:Comprehension}{acc:Value}
  (h0:codeAny (model prog w) A (.compLoop (.ListComp elt [g,⟨target,iter,ifs,0⟩] scope pos) 1 it acc env) R s)
  (h:wpAny (model prog w) A (pyIter it) (λit' s'=>codeAny (model prog w) A (.compLoop (.ListComp elt [g,⟨target,iter,ifs,0⟩] scope pos) 1 it' acc env) R s')
   (notedBy (model prog w) A env λx s'=>R (.error x) s') s):
  codeAny (model prog w) A (.compStart (.ListComp elt [g,⟨target,iter,ifs,0⟩] scope pos) 1 it acc env) R s:=by
 refine codeAny_of_tree ?_;refine (?_:wpAny _ _ ((compStart (.ListComp elt [g,⟨target,iter,ifs,0⟩] scope pos) 1 it acc env).onRaise (λx=>do noteFrame x env;standAt theWindowsPlace)) _ _ s);refine wpAny_notedAt ?_;unfold compStart;refine (?_:wpAny _ _ (ask>>=_) _ _ s);refine zm (wpAny_askSetting (wpAny_ite ?_))
 split
 ·first
   |exact zm (EY (EY (Uf rfl h0)))
   |exact EY (Uf rfl h0)
 ·first
   |exact zm (O6 (zm (Ln (zm (D1 h (λit' s' h'=>EY (Uf rfl h')) λzz zz x=>x)))))
   | (refine zm (O6 ?_);show wpAny _ _ (standAt iter.pos>>=_) _ _ s;exact zm (Ln (zm (D1 h (λit' s' h'=>EY (Uf rfl h')) λzz zz x=>x))))
def gv(itf:IF)(tf:d5→PyData→Option d5)(cf:CF):CF:= λρ μ acc=>bp (itf ρ μ) λxs p=>ff tf cf p.1 xs xs ρ p.2 acc
section
theorem BW(F:bi C cx env O ρ h α M)(hw:∀b∈wr,h.get? b=none):∀a∈O,a∉wr:= λa ha q=>(F.own a ha).1.dom (hw a q)
theorem bi.growStep(F:bi C cx env O ρ s.heap α (T++ai α μ))(I:bl C T α μ s)(S:aV [] α μ s α' μ' s')(hw:∀b∈wr,s.heap.get? b=none):
  bi C cx env O ρ s'.heap α' ((wr++T)++ai α' μ'):=
 F.ext S.ext (iI.nil T _).app S.at (S.hm λa ha=>(AF.mp ha).elim (λq=>.inr (hw a q)) .inl) λzz q h=>I.notFrame (de h) (F.frA q)
variable {iter' target':Expr} {ifs ifs':List Expr}
theorem km(hn2:2≤n)(hit:mM C n cx iter' tup itf)(tg:nN C cx target' tup tf)(ts:j3 C n cx ifs' t)(hf:ab C n cx elt f)(hs:∀env x,foldedSetIterable iter' env x=pure x):
  lE C n cx (Gv (.ListComp elt [⟨target,iter,ifs,0⟩,⟨target',iter',ifs',0⟩] scope pos) iter') (gv itf tf (c_ t (aY f))):=by
 refine .of ?_;intro A cenv Cn D T ρ α μ s E Q k acc ρ' μ' acc' R hD I F ac h hk;refine aD h λxs pp e1 h=>?_;refine zm (D1 (hit.run A cenv [Cn] T ρ α μ s _ xs pp.1 pp.2 R I F e1) (λx s1 p=>?_) λzz zz x=>x);refine zm (Ln (zm (Mm (hs cenv x) (zm (Lc (D1 p (λit s2 q=>?_) λzz zz x=>x))))));refine gB q λwr gi St Mid α1 W I1 S1 st hw hg hgd=>?_;have hCw:=BW F hw Cn (AA.mpr rfl);have hTw:∀a∈T,a∉wr:= λa ha q=>bP (I.tdom a ha) λo e=>cv ((hw a q).symm.trans e);have hCD:Cn≠D:= λq=>F.off D (yx _ hD) (.inr (by simp [q]));have F1:bi C cx cenv [Cn] ρ s2.heap α1 ((wr++T)++ai α1 pp.2):=F.growStep I S1 hw;have ac1:du D acc (wr++T) α1 pp.2 s2:=by
  refine au ac λitems hp rr=>?_;exact (aZ items (eO hp S1.ext λq=>I.apart D hD (de (by simpa using q))) (rr.stepO S1 (iI.nil _ _) λa ha=>(AF.mp ha).elim (λq=>.inr (hw a q)) .inl))
 have loop:codeAny (model C.prog C.w) A (.compLoop (.ListComp elt [⟨target,iter,ifs,0⟩,⟨target',iter',ifs',0⟩] scope pos) 1 it (.ref D) cenv)
   (λr s'=>match r with| .ok f=>wpAny (model C.prog C.w) A k Q E s'| .error e=>cameBackBy (model C.prog C.w) A cenv E e s') s2:=
  tc (Dw _ _ _ _ _ _ _) tg ts (bZ hf) R hn2 hD W hCw hCD hTw hw hg I1 F1 ac1 st S1.up h λs' cp=>hk s' cp
 exact zm (wpAny_runOwn (r_ loop (W.self st loop)))
end
noncomputable def tE(env:Env)(p:Str×NameKind)(cs:List (Str×Addr)):List (Str×Addr):=if (p.2== .free)=true then (env.cells.lookup p.1).elim cs λc=>(p.1,c)::cs else cs
noncomputable def mS(env:Env)(l:List (Str×NameKind))(cs:List (Str×Addr)):List (Str×Addr):=l.foldl (λcs p=>tE env p cs) cs
theorem Dg(env:Env)(l:List (Str×NameKind))(cs:List (Str×Addr))(h:∀x∈l,x.2=.free→∃c,env.cells.lookup x.1=some c):
  (forIn l cs λ(p:Str×NameKind) r=>if (p.2== .free)=true then do let a←cellOf env p.1;pure (LI ((p.1,a)::r)) else pure (LI r):Sem _)=pure (mS env l cs):=by
 induction l generalizing cs with
 |nil=>rfl
 |cons p r ih=>
  rw [U9];have ih':=ih (tE env p cs) λy hy=>h y (CQ _ hy);refine LM ?_ ih'
  by_cases hk:(p.2==LZ)=true
  ·refine bP (h p (Gi ..) (eq_of_beq hk)) λc hc=>?_
   rw [if_pos hk,show tE env p cs=(p.1,c)::cs from (if_pos hk).trans (by rw [hc];rfl),show cellOf env p.1=pure c by unfold cellOf;rw [hc]];rfl
  ·rw [if_neg hk,show tE env p cs=cs from if_neg hk]
   rfl
theorem Ar(env:Env)(l:List (Str×NameKind))(cs:List (Str×Addr))(x:Str)(c:Addr)(he:env.cells.lookup x=some c)(h:cs.lookup x=some c):(mS env l cs).lookup x=some c:=by
 induction l generalizing cs with
 |nil=>exact h
 |cons p r ih=>
  refine ih _ ?_;refine (?_:(tE env p cs).lookup x=some c)
  by_cases hk:(p.2==LZ)=true
  ·rw [show tE env p cs=_ from if_pos hk]
   cases e:env.cells.lookup p.1 with
   |none=>exact h
   |some c'=>
    refine (NA).trans ?_;cases q:x==p.1 with
    |true=>rw [←eq_of_beq q] at e;exact e.symm.trans he
    |false=>exact h
  ·rw [show tE env p cs=cs from if_neg hk];exact h
theorem t6(env:Env)(l:List (Str×NameKind))(cs:List (Str×Addr))(x:Str)(c:Addr)(he:env.cells.lookup x=some c)(h:(x,LZ)∈l):(mS env l cs).lookup x=some c:=by
 induction l generalizing cs with
 |nil=>exact nomatch h
 |cons p r ih=>
  refine (Cp.mp h).elim (λq=>Ar env r _ _ c he ?_) λq=>ih _ q;subst q;refine (?_:(tE env (x,LZ) cs).lookup x=some c);rw [show tE env (x,LZ) cs=(x,c)::cs from (if_pos rfl).trans (by rw [he];rfl)];exact Pj
theorem zA(h:∀x∈scope.names,x.2=.free→∃c,env.cells.lookup x.1=some c):closureFor scope env=pure (mS env scope.names []):=by
 unfold closureFor;rw [←Dg env scope.names [] h]
 simp
noncomputable def MP(scope s0:Scope):Scope:= {scope with names:=scope.names.map λ(n,k)=>if (k== .free&&s0.kind== .function&&s0.names.lookup n==some .cell) then (n,.cell) else (n,k)}
noncomputable def bR(cx:Cx)(scope:Scope):Cx:= {scope:=MP scope cx.scope,names:=(cx.names.map λp=>(p.1,if decide (2≤p.2)&&scope.names.contains (p.1,.free) then 3 else 0))++(scope.names.filter (λx=>x.2== .local&&x.1 != (".0":Str))).map λx=>(x.1,1)}
noncomputable def bG(scope:Scope)(ρ:d5):d5:=ρ++Hp (scope.names.filter (λx=>x.2== .local&&x.1 != (".0":Str))).length none
noncomputable def wv(cx:Cx)(scope:Scope):Bool:=scope.names.all λx=>x.2 != .free||cx.names.any λp=>p.1==x.1&&decide (2≤p.2)
theorem EE(h:wv cx scope=true){x:Str×NameKind}(hx:x∈scope.names)(hf:x.2=.free):∃ (i k:Nat),cx.names[i]? =some (x.1,k)∧2≤k:=by
 have:=AP.mp h x hx
 simp only [hf,bne_self_eq_false,Pz,List.any_eq_true,Fe,beq_iff_eq,decide_eq_true_eq] at this
 refine cq this λzp0 hp hy hk=>?_;obtain ⟨y,k⟩:=zp0;refine bP (iE hp) λi e=>?_;exact (fV i k (by rw [e];simp at hy;rw [hy]) hk)
theorem gc(h:(bR cx scope).names[i]? =some (x,k))(hi:i<cx.names.length):(k=0∨(k=3∧(x,LZ)∈scope.names))∧∃k0,cx.names[i]? =some (x,k0)∧(k=3→2≤k0):=by
 unfold bR at h
 simp only at h
 rw [Fb (by simpa using hi),GW,Iq] at h
 obtain ⟨⟨y,k0⟩,e,q⟩:=h;simp only [QT] at q
 obtain ⟨rfl,q⟩:=q
 split at q
 ·rename_i hc
  simp only [Fe,decide_eq_true_eq] at hc
  exact (gS (.inr ⟨q.symm,by simpa using hc.2⟩) k0 e (λzz=>hc.1))
 ·exact (gS (.inl q.symm) k0 e (λz=>by lia))
theorem E2(h:(bR cx scope).names[i]? =some (x,k))(hi:¬i<cx.names.length):k=1:=by
 unfold bR at h
 simp only at h
 rw [II (by simpa using LS hi),GW,Iq] at h
 refine au h λzz zz q=>?_;cases q;rfl
section
theorem bi.sub{m:Str→Option Value}(F:bi C cx env O ρ h α M)(hcap:wv cx scope=true)(hn:h.Ns Cn m)(hM:Cn∉M)(hB:C.B.get? Cn=none)
  (hnd:∀ (i j:Nat) x,(bR cx scope).names[i]? =some (x,1)→(bR cx scope).names[j]? =some (x,1)→i=j):
  bi C (bR cx scope) (compEnvC scope (mS env scope.names []) Cn env) [Cn] (bG scope ρ) h α M:=by
 refine bP F.cel λcad hc=>?_;have old:∀ {i:Nat} {x k},(bR cx scope).names[i]? =some (x,k)→2≤k→i<cx.names.length:= λ{i x k} e hk=>by
  by_cases hi:i<cx.names.length
  ·exact hi
  ·have:=E2 e hi;lia
 have rho:∀i,i<cx.names.length→(bG scope ρ)[i]? =ρ[i]? := λi hi=>by
  unfold bG;rw [Fb (by rw [F.len];exact hi)]
 refine ⟨by show MP scope env.scope=MP scope cx.scope;rw [F.sc],F.gl,F.bn,?_,(aZ m hn (λi x V h1 h2=>?_)),⟨cad,λi x k h1 h2=>?_,λi x k h1 h2=>?_,λi x h1=>?_,λi j x y k l h1 h2 h3 h4=>?_⟩,λa ha=>?_,AA.mpr rfl,λa ha q=>?_,hnd⟩
 ·simp [bG,bR,F.len]
 ·by_cases hi:i<cx.names.length
  ·have:=(gc h1 hi).1;lia
  ·unfold bG at h2
   rw [II (by rw [F.len];exact LS hi),R5] at h2
   split at h2<;>cases h2
 ·have hi:=old h1 h2
  refine im (gc h1 hi) λq k0 e hk0=>?_;obtain ⟨rfl,hf⟩:k=3∧(x,LZ)∈scope.names:=q.elim (λz=>by lia) id;exact t6 env _ _ _ _ (hc.look i x k0 e (hk0 rfl)) hf
 ·have hi:=old h1 h2
  refine im (gc h1 hi) λq k0 e hk0=>?_;obtain ⟨rfl,hf⟩:k=3∧(x,LZ)∈scope.names:=q.elim (λz=>by lia) id;rw [rho i hi];exact hc.has i x k0 e (hk0 rfl)
 ·have hi:=old h1 (Dj _)
  have:=(gc h1 hi).1
  lia
 ·have hi:=old h1 h3
  have hj:=old h2 h4;refine im (gc h1 hi) λq k0 e hk0=>?_;refine im (gc h2 hj) λq' l0 e' hl0=>?_;exact hc.inj i j x y k0 l0 e e' (hk0 (by lia)) (hl0 (by lia))
 ·obtain rfl:a=Cn:=by simpa using ha
  exact ⟨fT hn,hB⟩
 ·have hCa:a≠Cn:= λz=>hM (z▸ha)
  rcases q with (q| ⟨i,x,k,h1,h2,h3⟩)|q
  ·exact hCa q
  ·have hi:=old h1 h2
   refine im (gc h1 hi) λq k0 e hk0=>?_;obtain ⟨rfl,hf⟩:k=3∧(x,LZ)∈scope.names:=q.elim (λz=>by lia) id;have hl:=hc.look i x k0 e (hk0 rfl)
   have:(mS env scope.names []).lookup x=some a:=h3
   rw [t6 env _ _ _ _ hl hf] at this
   cases this;exact F.off _ ha (.inl (.inr (p9 i x k0 e (hk0 rfl) hl)))
  ·exact hCa (by simpa using q)
end
section
theorem bl.mdom(I:bl C T α μ s):∀a∈T++ai α μ,s.heap.get? a≠none:= λa ha=>
 (AF.mp ha).elim (λh q=>bP (I.tdom a h) λo e=>cv (q.symm.trans e)) λh=>I.cdom (de h)
theorem bl.sub(I:bl C T α μ s)(h:∀a∈T',a∈T):bl C T' α μ s:=
 I.moves' (aG.refl [] [] s) (λzz q=>nomatch q) h λa ha=>I.tdom a (h a ha)
theorem bl.fresh(I:bl C T α μ s)(h:s.heap.get? a=none):C.B.get? a=none:=by
 cases e:C.B.get? a with
 |none=>rfl
 |some o=>exact cv (h.symm.trans (I.keep a o e))
theorem du.mono(x:du D acc T α μ s)(h:∀a∈T',a∈T):du D acc T' α μ s:=
 au x λitems p r=>aZ items p (r.mono λa ha=>(AF.mp ha).elim (λq=>yx _ (h a q)) (CO _))
variable {rest:List Comprehension} {ifs:List Expr} {K:Value→Env→Sem Fin→Sem Fin}
theorem yE(hn2:2≤n){s2:Shared}{g:Option Nat}{RR:Value→Addr→Result→Shared→Prop}
  (turn:gI elt (⟨target,iter,ifs,0⟩::rest) scope pos 0 target iter ifs K) (tg:nN C (bR cx scope) target tup tf) (ts:j3 C n (bR cx scope) ifs t) (ck:lE C n (bR cx scope) K cf)
  (hcap:wv cx scope=true) (hcell:∀y∈scope.names,y.2≠ .cell) (hkind:scope.kind=.function)
  (hnd:∀ (i j:Nat) x,(bR cx scope).names[i]? =some (x,1)→(bR cx scope).names[j]? =some (x,1)→i=j)
  (R:cR A n) (I:bl C T α μ s) (F:bi C cx env O ρ s.heap α (T++ai α μ)) (ia:cS C T α μ s xs g tup μ1 it s2)
  (h:ff tf (c_ t cf) g xs xs (bG scope ρ) μ1 []=some (ρ',μ',acc'))
  (hRR:∀D Cn α' s' m,bl C (D::T) α' μ' s'→aV [Cn,D] α μ s α' μ' s'→s.heap.get? D=none→s.heap.get? Cn=none→D≠Cn→du D acc' (D::T) α' μ' s'→s'.heap.Ns Cn m→RR (.ref D) Cn (.ok .next) s'):
  wpAny (model C.prog C.w) A (newList []) (λacc s₃=>wpAny (model C.prog C.w) A (newFunctionEnv scope env.globals (mS env scope.names []) [] env.qual none .none (some env)) (λcenv s₄=>
   codeAny (model C.prog C.w) A (.compStart (.ListComp elt (⟨target,iter,ifs,0⟩::rest) scope pos) 0 it acc {cenv with scope:=relabel scope env}) (RR acc cenv.locals) s₄) E s₃) E s2:=by
 refine gB ia λwr gi St Mid α1 W I1 S1 st hw hg hgd=>?_;have F1:bi C cx env O ρ s2.heap α1 ((wr++T)++ai α1 μ1):=F.growStep I S1 hw;refine Il (Sk hcell (by intro y hy;simp at hy) (λh₁ hns₁ hsb₁=>?_) hkind);dsimp only at hns₁ hsb₁⊢
 generalize hH2:s2.heap.push {cls:=.type "list",dict:=none,data:=.seq ([]:List Value).toArray}=H2 at hns₁ hsb₁⊢
 generalize hDD:s2.heap.objs.size=D;have hCz:H2.objs.size=D+1:=by rw [←hH2,M5,hDD]
 generalize hCC:H2.objs.size=Cn at hns₁ hsb₁ hCz⊢
 have hDf:s2.heap.get? D=none:=bx (TN hDD);have hCf:s2.heap.get? Cn=none:=bx (by rw [hDD,hCz];exact P3 _);have hCD:Cn≠D:=by rw [hCz];exact No _
 have hk:∀b o,s2.heap.get? b=some o→h₁.get? b=some o:= λb o e=>by
  have hb:b≠Cn:= λq=>by rw [q,hCf] at e;exact cv e
  exact (hsb₁.2 b hb).trans (B8 _ (hH2▸B8 _ e))
 have hacc:h₁.PlainList D #[]:=⟨_,(hsb₁.2 D hCD.symm).trans (B8 _ (hH2▸hDD▸D5 _ rfl))⟩;have hk':∀b o,s2.heap.get? b=some o→(QX {s2 with heap:=h₁,toks:=s2.toks+([]:List (Str×Value)).length}).get? b=some o:=hk;have hW1:∀a∈[D],s2.heap.get? a=none:= λa ha=>AA.mp ha▸hDf;have I4':bl C ([D]++(wr++T)) α1 μ1 {s2 with heap:=h₁,toks:=s2.toks+([]:List (Str×Value)).length}:=I1.grow hk' rfl (λh=>h) hW1 λa ha=>AA.mp ha▸bP hacc λk e=>⟨_,e⟩;have perm:∀a,a∈wr++(D::T)→a∈[D]++(wr++T):= λa ha=>(AF.mp ha).elim (λh=>CO _ (yx _ h)) λh=>(Cp.mp h).elim (λq=>yx _ (AA.mpr q)) λh=>CO _ (CO _ h);have perm':∀ {m:List Addr} a,a∈(wr++(D::T))++m→a∈([D]++(wr++T))++m:= λ{m} a ha=>(AF.mp ha).elim (λq=>yx _ (perm a q)) λq=>CO _ q;have I4:=I4'.sub perm;have F4:bi C cx env O ρ h₁ α1 ((wr++(D::T))++ai α1 μ1):=(F1.grow (s':= {s2 with heap:=h₁,toks:=s2.toks+([]:List (Str×Value)).length}) hk' hW1).mono perm';have S24:aV [] α1 μ1 s2 α1 μ1 {s2 with heap:=h₁,toks:=s2.toks+([]:List (Str×Value)).length}:=aV.of_keeps hk' λzz zz e=>e;have st4:=W.frame (T':=wr++(D::T)) st S24 (iI.nil _ _) (λzz q=>nomatch q) (λa ha=>(AF.mp ha).elim (λq=>.inl (yx _ q)) λq=>(Cp.mp q).elim (λq=>.inr (q▸hDf)) λq=>.inl (CO _ q)) (λb hb=>yx _ hb) I1 I4 hgd;have hTs:∀a∈T,s.heap.get? a≠none:= λa ha=>I.mdom a (yx _ ha);have hwd:∀b∈wr,s2.heap.get? b≠none:= λb hb=>I1.mdom b (yx _ (yx _ hb));have hDw:D∉wr:= λq=>hwd D q hDf;have hCw:Cn∉wr:= λq=>hwd Cn q hCf;have hDs:s.heap.get? D=none:=dY S1.dom hDf;have hCs:s.heap.get? Cn=none:=dY S1.dom hCf;have hCM:Cn∉(wr++(D::T))++ai α1 μ1:= λq=>(AF.mp (perm' _ q)).elim (λz=>(AF.mp z).elim (λz=>hCD (AA.mp z)) λz=>I1.mdom Cn (yx _ z) hCf) λz=>I1.mdom Cn (CO _ z) hCf;have Fc:=F4.sub hcap hns₁ hCM (I1.fresh hCf) hnd;have S4:aV [Cn,D] α μ s α1 μ1 {s2 with heap:=h₁,toks:=s2.toks+([]:List (Str×Value)).length}:=(S1.trans S24).up;have ac4:du D [] (wr++(D::T)) α1 μ1 {s2 with heap:=h₁,toks:=s2.toks+([]:List (Str×Value)).length}:=(aZ (#[]) hacc (aw.nil _ _));have loop:codeAny (model C.prog C.w) A (.compLoop (.ListComp elt (⟨target,iter,ifs,0⟩::rest) scope pos) 0 it (.ref D) (compEnvC scope (mS env scope.names []) Cn env)) (RR (.ref D) Cn)
   {s2 with heap:=h₁,toks:=s2.toks+([]:List (Str×Value)).length}:=
  tc turn tg ts ck R hn2 (Gi ..) W hCw hCD (λa ha q=>(Cp.mp ha).elim (λz=>hDw (z▸q)) λha=>hTs a ha (hw a q)) hw hg I4 Fc ac4 st4 S4 h λs' cp=>eA cp λα' I' S' F' ac'=>au F'.loc λm' hm' zz=>hRR D Cn α' s' m' I' S' hDs hCs hCD.symm ac' hm'
 exact codeAny_compStart_list loop (W.self st4 loop)
theorem rC{m:List Addr}:∀a∈T++m,a∈(D::T)++m:= λa ha=>(AF.mp ha).elim (λq=>yx _ (CQ _ q)) λq=>CO _ q
theorem sG(I:bl C (D::T) α' μ' s')(ac:du D acc (D::T) α' μ' s')(hDT:D∉T):bl C T α' μ' s'∧aJ s'.heap (T++ai α' μ') (.ref D) (.list acc):=
 au ac λitems p r=>⟨I.sub λa ha=>CQ _ ha,aJ.list p (r.mono rC) λq=>(AF.mp q).elim hDT λq=>I.apart D (Gi ..) (de q)⟩
theorem v5{X:Type}{l:List X}{a y:X}(h:(l++[y])[i]? =some a)(k:i<l.length→l[i]? =some a→G)(k':i=l.length→y=a→G):G:=by
 by_cases hi:i<l.length
 ·rw [Fb hi] at h;exact k hi h
 ·rw [II (LS hi)] at h
  cases e:i-l.length with
  |zero=>rw [e] at h;exact k' (Nat.le_antisymm (Nat.le_of_sub_eq_zero e) (LS hi)) (Fi h)
  |succ j=>rw [e] at h;exact cv h
theorem GF(I:bl C (D::T) α' μ' s')(hc:c.isMut=true)(ca:d_ s'.heap ((D::T)++ai α' μ') D c)(hDT:D∉T):
  bl C T (α'++[D]) (μ'++[c]) s'∧ai (α'++[D]) (μ'++[c])=ai α' μ'++[D]∧(∀a,a∈T++ai (α'++[D]) (μ'++[c])→a∈(D::T)++ai α' μ'):=by
 have hDa:D∉α':=I.apart D (Gi ..);have hm:ai (α'++[D]) (μ'++[c])=ai α' μ'++[D]:=(rE I.len).trans (congrArg _ (if_pos hc));have hs:∀a,a∈T++ai (α'++[D]) (μ'++[c])→a∈(D::T)++ai α' μ':= λa ha=>by
  rw [hm] at ha
  exact (AF.mp ha).elim (λh=>yx _ (CQ _ h)) λh=>(AF.mp h).elim (CO _) λh=>yx _ (Cp.mpr (.inl (AA.mp h)))
 refine fu ⟨I.keep,by rw [be,be,I.len];rfl,λi a c h1 h2=>v5 h1 (λhi h1=>v5 h2 (λzz h2=>(I.cells i a c h1 h2).mono hs) λq zz=>absurd (q.trans I.len.symm) (LY hi)) λhi h1=>v5 h2 (λhi2 zz=>absurd (hi.trans I.len) (LY hi2)) λzz h2=>?_,QK.mpr (fu I.nodup (List.pairwise_singleton _ _) λa ha b hb q=>hDa ((AA.mp hb)▸q▸ha)),λa ha q=>(AF.mp q).elim (I.apart a (CQ _ ha)) λq=>hDT ((AA.mp q)▸ha),λa ha=>I.tdom a (CQ _ ha),λa ha=>I.tnew a (CQ _ ha),λa ha=>(AF.mp ha).elim (I.new a) λq=>I.tnew a (Cp.mpr (.inl (AA.mp q))),I.gens,I.os⟩ hm hs;subst h1;subst h2;exact ca.mono hs
theorem Dm(I:bl C (D::T) α' μ' s')(ac:du D acc (D::T) α' μ' s')(hDT:D∉T):
 bl C T (α'++[D]) (μ'++[.live acc]) s'∧ai (α'++[D]) (μ'++[.live acc])=ai α' μ'++[D]∧(∀a,a∈T++ai (α'++[D]) (μ'++[.live acc])→a∈(D::T)++ai α' μ'):=GF I rfl ac hDT
theorem MR{m:Str→Option Value}(I:bl C (D::T) α' μ' s')(S:aV [Cn,D] α μ s α' μ' s')(hD:s.heap.get? D=none)(hC:s.heap.get? Cn=none)(hDC:D≠Cn)
  (ac:du D acc (D::T) α' μ' s') (hn:s'.heap.Ns Cn m) (hB:C.B.get? Cn=none) (hs:Lp Cn s'.heap h') (hCT:Cn∉T):
  bl C (D::T) α' μ' {s' with heap:=h'}∧aV [] α μ s α' μ' {s' with heap:=h'}∧du D acc (D::T) α' μ' {s' with heap:=h'}:=by
 have hx:=iR hs;have hO:∀a∈[Cn],bW s'.heap a∧C.B.get? a=none:= λa ha=>AA.mp ha▸⟨fT hn,hB⟩;have I':bl C (D::T) α' μ' {s' with heap:=h'}:=bl.frames' (tk:=s'.toks) I hx hO λa ha q=>(Cp.mp q).elim (λz=>hDC (z.symm.trans (AA.mp ha))) λq=>hCT (AA.mp ha▸q);have mv:aG [Cn] [] s' {s' with heap:=h'}:=aG.of_heap (tk:=s'.toks) λb o hb e=>(hs.2 b λq=>hb (AA.mpr q)).trans e;exact fu I' ((S.weak λa ha=>.inr ((Cp.mp ha).elim (λq=>q▸hC) λha=>AA.mp ha▸hD)).moves mv (λb hb=>AA.mp hb▸hC) (λzz q=>nomatch q)) (au ac λitems p r=>aZ items (eO p hx λq=>hDC (AA.mp q)) (r.frames hx λa ha=>(hO a ha).1))
noncomputable def e_(scope:Scope)(itf:IF)(tf:d5→PyData→Option d5)(cf:CF):d5→List ah→Option (List PyData×List ah):= λρ μ=>bp (itf ρ μ) λxs p=>bp (ff tf cf p.1 xs xs (bG scope ρ) p.2 []) λzz q=>some (q.2,q.1)
def ce(scope:Scope)(itf:IF)(tf:d5→PyData→Option d5)(cf:CF):EF:= λρ μ=>bp (e_ scope itf tf cf ρ μ) λacc μ2=>some (.d (.list acc),μ2)
structure Ci (C:gL) (n:Nat) (cx:Cx) (elt target iter:Expr) (ifs:List Expr) (rest:List Comprehension) (scope:Scope) (pos:Pos) (itf:IF) (tf:d5→PyData→Option d5) (cf:CF):Prop where
 intro::
 run:∃tup t cf0 K,cf=c_ t cf0∧gI elt (⟨target,iter,ifs,0⟩::rest) scope pos 0 target iter ifs K∧nN C (bR cx scope) target tup tf∧j3 C n (bR cx scope) ifs t∧lE C n (bR cx scope) K cf0∧mM C n cx iter tup itf
 cap:wv cx scope=true
 cell:∀y∈scope.names,y.2≠ .cell
 kind:scope.kind=.function
 nd:∀ (i j:Nat) x,(bR cx scope).names[i]? =some (x,1)→(bR cx scope).names[j]? =some (x,1)→i=j
 loc:∀x∈scope.names,x.2=.local→scope.names.lookup x.1=some .local
 set:∀env x,foldedSetIterable iter env x=pure x
 two:2≤n
theorem vf{use:Option (Value→Sem Unit)}
  (c:Ci C n cx elt target iter ifs rest scope pos itf tf cf) (R:cR A n) (I:bl C T α μ s) (F:bi C cx env O ρ s.heap α (T++ai α μ)) (h:e_ scope itf tf cf ρ μ=some (acc',μ'))
  (hRR:∀D Cn α' s' m,bl C (D::T) α' μ' s'→aV [Cn,D] α μ s α' μ' s'→s.heap.get? D=none→s.heap.get? Cn=none→D≠Cn→du D acc' (D::T) α' μ' s'→s'.heap.Ns Cn m→compPost (model C.prog C.w) A E use Q (.ref D) Cn (.ok .next) s') (pos':Pos):
  wpAny (model C.prog C.w) A (comprehension (.ListComp elt (⟨target,iter,ifs,0⟩::rest) scope pos) scope env pos' (newList []) false (eval iter env) use) Q E s:=by
 refine aD h λxs p e1 h=>aD h λρ2 q e2 hq=>?_;refine oI c.run λtup t cf0 K zq4 turn tg ts ck it=>?_;subst zq4;have hcl:closureFor scope env=pure (mS env scope.names []):=zA λx hx hf=>kc (EE c.cap hx hf) λi k e hk=>bP F.cel λcad hc=>⟨_,hc.look i x.1 k e hk⟩;refine wpAny_comprehension_free rfl (c.set env) hcl c.kind c.loc (D1 (it.run A env O T ρ α μ s E xs p.1 p.2 R I F e1) (λv s1 pp=>D1 pp (λit s2 ia=>?_) λzz zz x=>x) λzz zz x=>x);cases (hq:some (q.2,q.1)=some (acc',μ'));exact yE c.two (RR:= λacc Cn=>compPost (model C.prog C.w) A E use Q acc Cn) turn tg ts ck c.cap c.cell c.kind c.nd R I F ia e2 hRR
theorem cF(c:Ci C n cx elt target iter ifs rest scope pos itf tf cf):ab C n cx (.ListComp elt (⟨target,iter,ifs,0⟩::rest) scope pos) (ce scope itf tf cf):=by
 refine .of ?_;intro A env O T ρ α μ s E V μ' R I F h;refine aD h λacc μ2 e h=>cm h ?_;rw [eval_ListComp];refine vf (use:=none) c R I F e (λD Cn α' s' m I' S' hD hCn hDC ac hn=>(aZ m hn (λh' hs=>?_))) _;have hT:∀a,s.heap.get? a=none→a∉T:= λa e q=>I.mdom a (yx _ q) e;exact dW (MR I' S' hD hCn hDC ac hn (I.fresh hCn) hs (hT Cn hCn)) λI2 S2 ac2=>f_ (sG I2 ac2 (hT D hD)) λI3 r3=>cL α' I3 S2 r3
end
inductive Fl where
 |next
 |brk
 |ret (V:AV)
noncomputable def Bc(h:Heap)(α M:List Addr):Fl→Flow→Prop
 | .next,f=>f=.next
 | .brk,f=>f=.brk
 | .ret V,f=>∃v,f=.ret v∧bq h α M v V
def iy(C:gL)(cx:Cx)(env:Env)(O T α:List Addr)(μ:List ah)(s:Shared)(fl:Fl)(ρ':d5)(μ':List ah)(f:Flow)(s':Shared):Prop:=
 ∃α',bl C T α' μ' s'∧aV O α μ s α' μ' s'∧bi C cx env O ρ' s'.heap α' (T++ai α' μ')∧Bc s'.heap α' (T++ai α' μ') fl f
noncomputable abbrev SF:=d5→List ah→Option (Fl×d5×List ah)
structure aQ (C:gL) (n:Nat) (cx:Cx) (st:Stmt) (f:SF):Prop where
 of::
 run:∀A env O T ρ α μ s E fl ρ' μ',cR A n→bl C T α μ s→bi C cx env O ρ s.heap α (T++ai α μ)→f ρ μ=some (fl,ρ',μ')→
  wpAny (model C.prog C.w) A (exec st env) (iy C cx env O T α μ s fl ρ' μ') E s
structure cD (C:gL) (n:Nat) (cx:Cx) (sts:List Stmt) (f:SF):Prop where
 of::
 run:∀A env O T ρ α μ s E fl ρ' μ',cR A n→bl C T α μ s→bi C cx env O ρ s.heap α (T++ai α μ)→f ρ μ=some (fl,ρ',μ')→
  wpAny (model C.prog C.w) A (execs sts env) (iy C cx env O T α μ s fl ρ' μ') E s
def aP:SF:= λρ μ=>some (.next,ρ,μ)
noncomputable def flC{Z:Type}(fl:Fl)(a b:Z):Z:=Fl.rec a b (λzz=>b) fl
def ap(f g:SF):SF:= λρ μ=>bp (f ρ μ) λfl p=>flC fl (g p.1 p.2) (some (fl,p))
section
variable {f g:SF}
theorem aQ.go{Q:Flow→Shared→Prop}{fl:Fl}(hb:aQ C n cx st f)(R:cR A n)(I:bl C T α μ s)(F:bi C cx env O ρ s.heap α (T++ai α μ))(e:f ρ μ=some (fl,ρ',μ'))
  (k:∀α' fw s',bl C T α' μ' s'→aV O α μ s α' μ' s'→bi C cx env O ρ' s'.heap α' (T++ai α' μ')→Bc s'.heap α' (T++ai α' μ') fl fw→Q fw s'):wpAny (model C.prog C.w) A (exec st env) Q E s:=
 D1 (hb.run A env O T ρ α μ s E _ _ _ R I F e) (λfw s' p=>eA p λα' I' S' F' r=>k α' fw s' I' S' F' r) λzz zz x=>x
theorem cD.go{sts:List Stmt}{Q:Flow→Shared→Prop}{fl:Fl}(hb:cD C n cx sts f)(R:cR A n)(I:bl C T α μ s)(F:bi C cx env O ρ s.heap α (T++ai α μ))(e:f ρ μ=some (fl,ρ',μ'))
  (k:∀α' fw s',bl C T α' μ' s'→aV O α μ s α' μ' s'→bi C cx env O ρ' s'.heap α' (T++ai α' μ')→Bc s'.heap α' (T++ai α' μ') fl fw→Q fw s'):wpAny (model C.prog C.w) A (execs sts env) Q E s:=
 D1 (hb.run A env O T ρ α μ s E _ _ _ R I F e) (λfw s' p=>eA p λα' I' S' F' r=>k α' fw s' I' S' F' r) λzz zz x=>x
theorem aN:cD C n cx [] aP:=by
 refine .of ?_;intro A env O T ρ α μ s E fl ρ' μ' R I F h;refine gj h ?_;exact RS (d4 α I (aV.refl _ _ _ _) F rfl)
theorem ak{rest:List Stmt}(hf:aQ C n cx st f)(hg:cD C n cx rest g):cD C n cx (st::rest) (ap f g):=by
 refine .of ?_;intro A env O T ρ α μ s E fl ρ' μ' R I F h;refine aD h λfl1 p e1 h=>KL (hf.go R I F e1 λα1 fw s1 I1 S1 F1 r1=>?_);cases fl1 with
 |next=>subst r1;exact hg.go R I1 F1 h λα2 fw s2 I2 S2 F2 r2=>d4 α2 I2 (S1.trans S2) F2 r2
 |brk=>subst r1;exact gj h (d4 α1 I1 S1 F1 rfl)
 |ret V=>exact au r1 λv zq1 rv=>by subst zq1;exact gj h (jj α1 I1 S1 F1 v rfl rv)
def cj(f:EF):SF:= λρ μ=>bp (f ρ μ) λV μ1=>oe (OM V) (some ()) (λzz zz=>some (.next,ρ,μ1)) (bo (jM V) λzz=>some (.next,ρ,μ1))
theorem cM{f:EF}(hf:ab C n cx e f)(hk:cx.scope.kind=.function)(hs:∀env,swapsWith e none pos.line env=pure false):aQ C n cx (.Expr e pos) (cj f):=by
 refine .of ?_;intro A env O T ρ α μ s E fl ρ' μ' R I F h;have hi:interactive env=false:=by unfold interactive;rw [F.sc,hk];rfl
 refine aD h λV μ1 e1 h=>wpAny_Expr (hf.goF R I F e1 λv s1 α1 I1 S1 F1 r1=>?_) hi (hs env);refine bU h (λzz zz e2 zz h=>gj h ?_) λh=>ax h λzz e2 h=>gj h (bP (fN e2 r1) λt zq1=>?_)
 ·rw [D9 e2 r1];exact d4 α1 I1 S1.up F1 rfl
 ·subst zq1;exact d4 α1 I1 S1.up F1 rfl
def cb(i:Nat)(f:EF):SF:= λρ μ=>bp (f ρ μ) λV μ1=>some (.next,ρ.set i (some V),μ1)
theorem kt{s2:Shared}(S1:aV O α μ s α1 μ1 s1)(st:gp C cx env O T α1 μ1 ρ' s1 s2):iy C cx env O T α μ s .next ρ' μ1 .next s2:=
 (d4 α1 st.1 (S1.trans st.2.1) st.2.2 rfl)
theorem bF{f:EF}(hf:ab C n cx e f)(hx:aA C cx x i)(hs:∀env,env.scope=cx.scope→swapsWith e (some (.Name x px)) pos.line env=pure false):aQ C n cx (.Assign [.Name x px] e pos) (cb i f):=by
 refine .of ?_;intro A env O T ρ α μ s E fl ρ' μ' R I F h;refine aD h λV μ1 e1 h=>gj h (M9 (hf.goF R I F e1 λv s1 α1 I1 S1 F1 r1=>?_) (hs env F.sc));exact D1 (hx A env O T ρ α1 _ s1 E v V I1 F1 r1) (λzz s2 st=>kt S1.up st) λzz zz x=>x
end
variable {fl : Fl}
section
theorem GQ(I:bl C T α μ s)(hk:∀b o,s.heap.get? b=some o→h'.get? b=some o)(hD:s.heap.get? D=none)(hd:∃o,h'.get? D=some o)(hc:c.isMut=true)(ca:d_ h' ((D::T)++ai α μ) D c):
  bI C T α μ s (μ++[c]) (.c μ.length) (.ref D) {s with heap:=h',toks:=tk}:=by
 have h1:∀b∈[D],s.heap.get? b=none:= λb hb=>AA.mp hb▸hD;have I1:bl C ([D]++T) α μ {s with heap:=h',toks:=tk}:=I.grow hk rfl id h1 λb hb=>AA.mp hb▸hd;refine dW (GF I1 hc ca λq=>I.mdom _ (yx _ q) hD) λI2 hm hsub=>?_;exact (cL (α++[D]) I2 (⟨⟨[D],rfl,h1⟩,g7.of_keeps hk,λa ha=>(AF.mp (hm▸ha)).elim .inl λh=>.inr (h1 a h),λa o e=>⟨o,hk a o e⟩,λzz zz e=>e⟩) ⟨D,by rw [←I.len];simp,rfl⟩)
theorem JF{vs:Array Value}(I:bl C T α μ s)(r:aw s.heap (T++ai α μ) vs.toList xs):
  bI C T α μ s (μ++[.live xs]) (.c μ.length) (.ref s.heap.objs.size) {s with heap:=s.heap.push {cls:=.type "list",data:=.seq vs},toks:=tk}:=
 GQ I (bc _ _) (bx (Dj _)) ⟨_,D5 _ rfl⟩ rfl (aZ vs ⟨_,D5 _ rfl⟩ (r.grow (s':= {s with heap:=s.heap.push {cls:=.type "list",data:=.seq vs}}) (bc _ _) Dv))
def n4(fs:List EF):EF:= λρ μ=>bp (fh fs ρ μ) λVs μ1=>bp (lM Vs μ1) λds μ2=>if ds.length≤sizeLine then some (.c μ2.length,μ2++[.live ds]) else none
theorem ju(h:dg C n cx es fs):ab C n cx (.List es pos) (n4 fs):=by
 refine .of ?_;intro A env O T ρ α μ s E V μ' R I F q;refine aD q λVs μ1 e1 q=>aD q λds μ2 e2 q=>i9 q λhz q=>cm q ?_;refine List_ (D1 (h.run A env O T ρ α μ s E Vs μ1 pos R I F e1) (λvs s1 p=>cq p λα1 I1 S1 r1=>dW (jC I1 r1 e2) λI2 S2 r2=>?_) λzz zz x=>x);exact Il (bI.trans (S1.trans S2) (JF (tk:=s1.toks) I2 (by simpa using r2))) (by show vs.toArray.size≤sizeLine;rw [P2,r2.length];exact hz)
theorem bi.letgo(F:bi C cx env O ρ h α M)(hs:Lp Cn h h')(hf:bW h Cn)(hni:¬ (EP cx env Cn∨Cn∈O)):bi C cx env O ρ h' α M:=
 F.ext (iR hs) (λa ha=>.inr (.inl (AA.mp ha▸hf))) (λzz zz=>id) (λzz=>.inl) λa ha q=>hni (AA.mp q▸ha)
variable {rest:List Comprehension} {ifs:List Expr}
def ga(i:Nat)(scope:Scope)(itf:IF)(tf:d5→PyData→Option d5)(cf:CF)(cell:Bool):SF:= λρ μ=>bp (e_ scope itf tf cf ρ μ) λacc μ2=>if cell=true then some (.next,ρ.set i (some (.c μ2.length)),μ2++[.live acc]) else some (.next,ρ.set i (some (.d (.list acc))),μ2)
theorem DE(cell:Bool)(I:bl C T α μ s)(F:bi C cx env O ρ s.heap α (T++ai α μ))(I':bl C (D::T) α' μ' s')(S':aV [Cn,D] α μ s α' μ' s')(hD:s.heap.get? D=none)
  (hCn:s.heap.get? Cn=none) (ac:du D acc (D::T) α' μ' s'):∃α2,bl C T α2 (if cell=true then μ'++[.live acc] else μ') s'∧aV [] α μ s α2 (if cell=true then μ'++[.live acc] else μ') s'∧
   bi C cx env O ρ s'.heap α2 (T++ai α2 (if cell=true then μ'++[.live acc] else μ'))∧bq s'.heap α2 (T++ai α2 (if cell=true then μ'++[.live acc] else μ')) (.ref D) (if cell=true then .c μ'.length else .d (.list acc)):=by
 have S0:aV [] α μ s α' μ' s':=S'.weak λa ha=>.inr ((Cp.mp ha).elim (λq=>q▸hCn) λha=>AA.mp ha▸hD);have hDT:D∉T:= λq=>I.mdom D (yx _ q) hD;have F':bi C cx env O ρ s'.heap α' ((D::T)++ai α' μ'):=F.growStep (wr:=[D]) I S0 λb hb=>AA.mp hb▸hD;cases cell with
 |false=>
  refine f_ (sG I' ac hDT) λI2 r2=>?_;exact (d4 α' I2 S0 (F'.mono rC) r2)
 |true=>
  refine dW (Dm I' ac hDT) λI2 hm hsub=>?_;refine (d4 (α'++[D]) I2 (au S0.pre λδ e d=>⟨aZ (δ++[D]) (by rw [e,ER]) (λa ha=>(AF.mp ha).elim (d a) λq=>AA.mp q▸hD),S0.ext,λa ha=>(AF.mp (hm▸ha)).elim (S0.mts a) λq=>.inr (AA.mp q▸hD),S0.dom,S0.gens⟩) ?_ ⟨D,by rw [←I'.len];simp,rfl⟩);exact F'.ext (g7.refl [] _) (iI.nil _ _) (λi a e=>(Fb (AX.mp e).1).trans e) (λa ha=>.inl (hsub a ha)) λzz zz q=>nomatch q
theorem gx{spos:Pos}(cell:Bool)(c:Ci C n cx elt target iter ifs rest scope pos itf tf cf)(hx:aA C cx x i)
  (hs:∀env,env.scope=cx.scope→swapsWith (.ListComp elt (⟨target,iter,ifs,0⟩::rest) scope pos) (some (.Name x px)) spos.line env=pure true):
  aQ C n cx (.Assign [.Name x px] (.ListComp elt (⟨target,iter,ifs,0⟩::rest) scope pos) spos) (ga i scope itf tf cf cell):=by
 refine .of ?_;intro A env O T ρ α μ s E fl ρ' μ' R I F h;refine aD h λacc μ2 e h=>?_;rw [exec_Assign_Name_used _ _ _ _ (hs env F.sc)];refine zm (Ln (zm ?_));refine (?_:wpAny _ A (do let _←comprehension (.ListComp elt (⟨target,iter,ifs,0⟩::rest) scope pos) scope env _ (newList []) false (eval iter env) (some (assign (.Name x px) env))) _ _ s);have key:fl=.next∧ρ'=ρ.set i (some (if cell=true then .c μ2.length else .d (.list acc)))∧μ'=(if cell=true then μ2++[.live acc] else μ2):=by
  cases cell<;>exact gj h (fu rfl rfl rfl)
 refine dW key λzq0 zq1 zq2=>?_;refine bH (F6 zq0) ?_;refine bH (F6 zq1) ?_;refine bH (F6 zq2) ?_;refine zm (D1 (vf (use:=some (assign (.Name x px) env)) (Q:= λzz s'=>iy C cx env O T α μ s .next (ρ.set i (some (if cell=true then .c μ2.length else .d (.list acc)))) (if cell=true then μ2++[.live acc] else μ2) .next s') c R I F e
  (λD Cn α' s' m I' S' hD hCn hDC ac hn=>?_) _) (λzz s' hq=>EY (EY hq)) λzz zz e=>e)
 refine eA (DE cell I F I' S' hD hCn ac) λα2 I2 S2 F2 r2=>?_;have hfr:∀a,EP cx env a∨a∈O→a≠Cn:= λa ha q=>(F.frA ha).dom (q▸hCn);refine (?_:wpAny _ A (assign (.Name x px) env (.ref D)) _ _ _);refine QJ (D1 (hx A env O T ρ α2 _ s' E _ _ I2 F2 r2) (λzz s3 st=>?_) λzz zz x=>x);have hnO:Cn∉O++ai α2 (if cell=true then μ2++[.live acc] else μ2):= λq=>(AF.mp q).elim (λq=>hfr Cn (.inr q) rfl) λq=>I2.notFrame (de q) (fT hn);have hn3:=zc hn st.2.1.ext hnO;refine (aZ m hn3 (λh' hs'=>?_));have hx1:=iR hs';exact (d4 α2 (bl.frames' (tk:=s3.toks) st.1 hx1 (λa ha=>AA.mp ha▸⟨fT hn3,I.fresh hCn⟩) λa ha q=>I.mdom a (yx _ q) (AA.mp ha▸hCn)) (((S2.up).trans st.2.1).moves (wr:=[Cn]) (gi:=[]) (aG.of_heap (tk:=s3.toks) λb o hb e=>(hs'.2 b λq=>hb (AA.mpr q)).trans e) (λb hb=>AA.mp hb▸hCn) (λzz q=>nomatch q)) (st.2.2.letgo hs' (fT hn3) λq=>hfr Cn q rfl) rfl)
theorem fg{line:Nat}(hl:cx.scope.names.lookup x=some .local)(hk:cx.scope.kind=.function)(hp:px.line=pos.line)(hn:scope.names.any (λ(n,k)=>n==x&&(k== .local||k== .cell))=false):
  ∀env,env.scope=cx.scope→swapsWith (.ListComp elt rest scope pos) (some (.Name x px)) line env=pure true:=by
 intro env he
 show (pure (env.blockKind== .function&&env.kindOf x==some .local&&px.line==pos.line&&!(scope.names.any λ(n,k)=>n==x&&(k== .local||k== .cell))):Sem Bool)=pure true
 have h1:env.blockKind=.function:=by unfold Env.blockKind;rw [he,hk];rfl
 have h2:env.kindOf x=some .local:=by unfold JH;rw [he];exact hl
 rw [h1,h2,hp,hn]
 simp
theorem pF{line:Nat}(hl:cx.scope.names.lookup x=some .cell):
  ∀env,env.scope=cx.scope→swapsWith (.ListComp elt rest scope pos) (some (.Name x px)) line env=pure false:=by
 intro env he
 show (pure (env.blockKind== .function&&env.kindOf x==some .local&&px.line==pos.line&&!(scope.names.any λ(n,k)=>n==x&&(k== .local||k== .cell))):Sem Bool)=pure false
 have h2:env.kindOf x=some .cell:=by unfold JH;rw [he];exact hl
 rw [h2,show (some Ot==some NameKind.local)=false from rfl]
 simp
end
def fe(f:EF):SF:= λρ μ=>bp (f ρ μ) λV μ1=>some (.ret V,ρ,μ1)
def MD:SF:= λρ μ=>some (.brk,ρ,μ)
def jE(t:TF)(f g:SF):SF:= λρ μ=>bp (t ρ μ) λb μ1=>cond b (f ρ μ1) (g ρ μ1)
noncomputable def RY(fl:Fl)(a:Option (Fl×d5×List ah))(p:d5×List ah):Option (Fl×d5×List ah):=Fl.rec a (some (.next,p)) (λV=>some (.ret V,p)) fl
def j1(t:TF)(f:SF)(k:Nat):SF:=Nat.rec (λzz zz=>none) (λzz w ρ μ=>bp (t ρ μ) λb μ1=>cond b (bp (f ρ μ1) λfl p=>RY fl (w p.1 p.2) p) (some (.next,ρ,μ1))) k
theorem iQ{f:SF}:j1 t f (k+1) ρ μ=bp (t ρ μ) λb μ1=>cond b (bp (f ρ μ1) λfl p=>RY fl (j1 t f k p.1 p.2) p) (some (.next,ρ,μ1)):=rfl
open Classical in
def fX(tf:d5→PyData→Option d5)(f e:SF)(g:Option Nat)(xs r:List PyData):SF:=
 r.foldr (λx k ρ μ=>bo (tf ρ x) λρ1=>bp (f ρ1 μ) λfl p=>RY fl (if cw g xs p.2 then k p.1 p.2 else none) p) e
open Classical in
theorem og{f e:SF}{g:Option Nat}{r:List PyData}{x:PyData}:fX tf f e g xs (x::r) ρ μ=bo (tf ρ x) λρ1=>bp (f ρ1 μ) λfl p=>RY fl (if cw g xs p.2 then fX tf f e g xs r p.1 p.2 else none) p:=rfl
def jN(itf:IF)(tf:d5→PyData→Option d5)(f e:SF):SF:= λρ μ=>bp (itf ρ μ) λxs p=>fX tf f e p.1 xs xs ρ p.2
def ik(i:Nat)(f:EF)(o:AV→AV→List ah→Option (AV×List ah)):SF:= λρ μ=>bo (ρ[i]?.bind id) λV=>bp (f ρ μ) λW μ1=>bp (o V W μ1) λr μ2=>some (.next,ρ.set i (some r),μ2)
def qk(C:gL)(n:Nat)(op:Operator)(o:AV→AV→List ah→Option (AV×List ah)):Prop:=∀A T α μ s E a b Va Vb V μ',cR A n→bl C T α μ s→
 bq s.heap α (T++ai α μ) a Va→bq s.heap α (T++ai α μ) b Vb→o Va Vb μ=some (V,μ')→wpAny (model C.prog C.w) A (inplaceOp op a b) (bI C T α μ s μ' V) E s
section
variable {f g:SF}
theorem da{f:EF}(hf:ab C n cx e f):aQ C n cx (.Return (some e) pos) (fe f):=by
 refine .of ?_;intro A env O T ρ α μ s E fl ρ' μ' R I F h;exact aD h λV μ1 e1 h=>gj h (rA (exec_Return_some ..) (zm (Ln (zm (hf.goF R I F e1 λv s1 α1 I1 S1 F1 r1=>EY (jj α1 I1 S1.up F1 v rfl r1))))))
theorem Vu:aQ C n cx (.Break pos) MD:=by
 refine .of ?_;intro A env O T ρ α μ s E fl ρ' μ' R I F h;refine gj h ?_;rw [arm_exec_Break];exact zm (Ln (EY (d4 α I (aV.refl _ _ _ _) F rfl)))
theorem gO.go{Q:Bool→Shared→Prop}{r:Bool}(ht:gO C n cx test t)(R:cR A n)(I:bl C T α μ s)(F:bi C cx env O ρ s.heap α (T++ai α μ))(e:t ρ μ=some (r,μ'))
  (k:∀α' s',bl C T α' μ' s'→aV [] α μ s α' μ' s'→Q r s'):wpAny (model C.prog C.w) A (isTrue test env (eval test env)) Q E s:=
 D1 (ht.run A env O T ρ α μ s E r μ' R I F e) (λzz s' p=>im p λq α' I' S'=>q▸k α' s' I' S') λzz zz x=>x
theorem iy.trans{fw:Flow}(S:aV O α μ s α1 μ1 s1)(p:iy C cx env O T α1 μ1 s1 fl ρ' μ' fw s'):iy C cx env O T α μ s fl ρ' μ' fw s':=
 eA p λα2 I2 S2 F2 r2=>d4 α2 I2 (S.trans S2) F2 r2
theorem gb(ht:gO C n cx test t)(hf:cD C n cx body f)(hg:cD C n cx orelse g):aQ C n cx (.If test body orelse pos) (jE t f g):=by
 refine .of ?_;intro A env O T ρ α μ s E fl ρ' μ' R I F h;refine aD h λb μ1 e1 h=>wpAny_If (ht.go R I F e1 λα1 s1 I1 S1=>?_);cases b with
 |true=>exact D1 (hf.run A env O T ρ α1 μ1 s1 E fl ρ' μ' R I1 (F.step I S1) h) (λr s2 p=>iy.trans S1.up p) λzz zz x=>x
 |false=>exact D1 (hg.run A env O T ρ α1 μ1 s1 E fl ρ' μ' R I1 (F.step I S1) h) (λr s2 p=>iy.trans S1.up p) λzz zz x=>x
theorem On{X:Type}{o:Option (Option X)}{V:X}(h:o.bind id=some V):o=some (some V):=by
 cases o with
 |none=>exact cv h
 |some o=>exact congrArg some h
theorem nY{f:EF}{o:AV→AV→List ah→Option (AV×List ah)}(hn:cx.names[i]? =some (x,1))(hl:cx.scope.names.lookup x=some .local)(hk:cx.scope.kind=.function)(hf:ab C n cx e f)(ho:qk C n op o):
  aQ C n cx (.AugAssign (.Name x px) op e pos) (ik i f o):=by
 refine .of ?_;intro A env O T ρ α μ s E fl ρ' μ' R I F h;refine ax h λV eV h=>aD h λW μ1 e1 h=>aD h λr μ2 e2 h=>gj h (au F.loc λm hm hq=>?_);refine au (hq i x V hn (On eV)) λv e3 rv=>?_;refine wpAny_AugAssign_Name (Pt (by rw [F.sc];exact hk) (by unfold JH;rw [F.sc];exact hl) hm e3 (hf.go R I F e1 λw s1 α1 I1 S1 r1=>?_));refine D1 (ho A T α1 μ1 s1 E v w V W r μ2 R I1 (rv.step0 S1) r1 e2) (λu s2 p=>cq p λα2 I2 S2 r2=>?_) λzz zz x=>x;have S12:=S1.trans S2;exact D1 (ss i hn hl hk I2 (F.step I S12) r2) (λzz s3 st=>kt S12.up st) λzz zz x=>x
def GP(fl2 fl:Fl):Prop:=(fl2=.brk∧fl=.next)∨∃V,fl2=.ret V∧fl=.ret V
theorem R0{fl':Fl}{a:Option (Fl×d5×List ah)}{p:d5×List ah}(h:RY fl a p=some (fl',ρ',μ'))(k1:fl=.next→a=some (fl',ρ',μ')→G)(k2:GP fl fl'→p=(ρ',μ')→G):G:=by
 cases fl with
 |next=>exact k1 rfl h
 |brk=>exact k2 (.inl ⟨rfl,(congrArg U3 (Fi h)).symm⟩) (congrArg U6 (Fi h))
 |ret V=>exact k2 (.inr ⟨V,rfl,(congrArg U3 (Fi h)).symm⟩) (congrArg U6 (Fi h))
theorem GP.el{fl2:Fl}{fw:Flow}(q:GP fl2 fl)(r:Bc h α M fl2 fw)(k1:fl=.next→fw=.brk→G)(k2:∀V v,fl=.ret V→fw=.ret v→bq h α M v V→G):G:=
 q.elim (λz=>by cases z.1;exact k1 z.2 r) λz=>au z λV z1 z2=>by cases z1;exact au r λv e rv=>k2 V v z2 e rv
abbrev WLI(C:gL)(cx:Cx)(env:Env)(O T α₀:List Addr)(μ₀:List ah)(s₀:Shared)(F:Nat→d5→List ah→Prop)(k:Nat)(s:Shared):Prop:=
 ∃ρ α μ,bl C T α μ s∧aV O α₀ μ₀ s₀ α μ s∧bi C cx env O ρ s.heap α (T++ai α μ)∧F k ρ μ
theorem KV(N:Nat)(ht:gO C n cx test t)(hf:cD C n cx body f):aQ C n cx (.While test body [] pos) (j1 t f N):=by
 refine .of ?_;intro A env O T ρ α μ s E fl ρ' μ' R I F h;refine wpAny_While (codeAny_whileLoop (WLI C cx env O T α μ s λk ρ μ=>j1 t f k ρ μ=some (fl,ρ',μ')) (λk s1 p=>?_) N (dE ρ α μ I (aV.refl _ _ _ _) F h));refine dk p λρ1 α1 μ1 I1 S1 F1 h=>?_;cases k with
 |zero=>exact cv h
 |succ k=>
  refine aD (iQ.symm.trans h) λb μ2 e1 h=>ht.go R I1 F1 e1 λα2 s2 I2 S2=>?_;cases b with
  |true=>
   refine aD (o:=f ρ1 μ2) (k:= λfl p=>RY fl (j1 t f k p.1 p.2) p) h λfl2 q e3 h=>hf.go R I2 (F1.step I1 S2) e3 λα3 fw s3 I3 S3 F3 r3=>?_;have S13:=S1.trans (S2.up.trans S3);refine R0 h (λz h=>?_) λz zz=>?_
   ·subst z
    subst r3;exact zj k (Rq _) q.1 α3 q.2 I3 S13 F3 h
   ·subst zz
    refine z.el r3 (λz z2=>?_) λV v z z2 rv=>?_
    ·subst z;subst z2;exact d4 α3 I3 S13 F3 rfl
    ·subst z;subst z2;exact jj α3 I3 S13 F3 v rfl rv
  |false=>exact gj h (RS (d4 α2 I2 (S1.trans S2.up) (F1.step I1 S2) rfl))
theorem bq.mono(r:bq h α M v V)(hm:∀a∈M',a∈M):bq h α M' v V:=r.ext (g7.refl [] h) (iI.nil _ _) (λzz zz=>id) λa ha=>.inl (hm a ha)
abbrev Xh(C:gL)(cx:Cx)(env:Env)(O T α₀:List Addr)(μ₀:List ah)(s₀:Shared)(St:List Addr→xN)(xs:List PyData)(F:List PyData→d5→List ah→Prop)(k:Nat)(s:Shared):Prop:=
 ∃wr i ρ α μ,((∀a∈O,a∉wr)∧(∀a∈T,a∉wr)∧∀b∈wr,s₀.heap.get? b=none)∧k=xs.length+1-i∧i≤xs.length∧bl C (wr++T) α μ s∧bi C cx env O ρ s.heap α ((wr++T)++ai α μ)∧St wr (wr++T) α μ i s∧aV O α₀ μ₀ s₀ α μ s∧F (xs.drop i) ρ μ
theorem Xh.mk{F:List PyData→d5→List ah→Prop}
  (h1:∀a∈O,a∉wr) (h2:∀a∈T,a∉wr) (h3:∀b∈wr,s₀.heap.get? b=none) (hk:k=xs.length+1-i) (hi:i≤xs.length) (I:bl C (wr++T) α μ s) (Fr:bi C cx env O ρ s.heap α ((wr++T)++ai α μ)) (st:St wr (wr++T) α μ i s) (S:aV O α₀ μ₀ s₀ α μ s) (h:F (xs.drop i) ρ μ):Xh C cx env O T α₀ μ₀ s₀ St xs F k s:=
 (iw wr i ρ α μ ⟨h1,h2,h3⟩ hk hi I Fr st S h)
theorem Ie{g0:Option Nat}{Q:Fin→Shared→Prop}
  (tg:nN C cx target tup tf) (hb:cD C n cx body f) (R:cR A n) (hn2:2≤n) (W:gV C it gi xs g0 tup St Mid)
  (hOw:∀a∈O,a∉wr) (hTw:∀a∈T,a∉wr) (hw0:∀b∈wr,s₀.heap.get? b=none) (hg0:∀i∈gi,s₀.gens[i]? =none)
  (I:bl C (wr++T) α μ s) (F:bi C cx env O ρ s.heap α ((wr++T)++ai α μ)) (st:St wr (wr++T) α μ i s) (S:aV O α₀ μ₀ s₀ α μ s)
  (h:fX tf f g g0 xs (xs.drop i) ρ μ=some (fl,ρ',μ'))
  (kD:∀s1,bl C T α μ s1→bi C cx env O ρ s1.heap α (T++ai α μ)→aV O α₀ μ₀ s₀ α μ s1→g ρ μ=some (fl,ρ',μ')→Q (.again (.block orelse env)) s1)
  (kN:∀s4,i<xs.length→Xh C cx env O T α₀ μ₀ s₀ St xs (λr ρ μ=>fX tf f g g0 xs r ρ μ=some (fl,ρ',μ')) (xs.length+1-(i+1)) s4→Q (.again (.forLoop target it body orelse env)) s4)
  (kX:∀fw s4,iy C cx env O T α₀ μ₀ s₀ fl ρ' μ' fw s4→Q (.done fw) s4):wpAny (model C.prog C.w) A ((forTurn target it body orelse env).onRaise (λx=>do noteFrame x env;theTreesLotGoes x)) Q E s:=by
 have hwT:∀b∈wr,b∈wr++T:= λb hb=>yx _ hb;refine wpAny_noted ?_;simp only [forTurn];refine zm (Ln (zm (Ta ?_)));cases ex:xs[i]? with
 |none=>
  rw [Mx (Hy.mp ex)] at h
  exact W.done (R.mono hn2) I st ex λs1 mv hI=>EY (kD s1 (hI T λa ha=>⟨CO _ ha,hTw a ha⟩) ((F.moves mv hwT).mono mr) (S.moves mv hw0 hg0) h)
 |some x=>
  rw [vV ex] at h
  refine ax h λρ1 e1 h=>aD h λfl2 p e2 hh=>?_;clear h;refine W.item (R.mono hn2) I st ex λv s1 wr1 mv1 hfr I1 ir1 md1=>?_;refine zm (W.go I1 md1 tg.1 ir1 λs2 mv2 I2 ir2 st2=>?_);refine dW (BY (T:=T) (h0:=s₀.heap) hfr) λhT1 hw1' hn1=>?_;have hwT1:∀b∈wr1,b∈wr1++T:= λb hb=>yx _ hb;have hOw1:∀a∈O,a∉wr1:= λa ha=>hn1 a (hOw a ha) (au ((F.own a ha).1) λo e zz=>⟨o,e⟩);have hTw1:∀a∈T,a∉wr1:= λa ha=>hn1 a (hTw a ha) (I.tdom a (CO _ ha));have hw1:=hw1' hw0 S.dom;have F2:=(F.movesG mv1 hwT hT1).moves mv2 hwT1;have S2:=(S.moves mv1 hw0 hg0).moves mv2 hw1 hg0;refine zm (D1 (tg.2 A env O (wr1++T) ρ α μ s2 _ v x ρ1 R.handled I2 F2 ir2 e1) (λzz s3 sd=>?_) λzz zz x=>x);refine zm (hb.go R sd.1 sd.2.2 e2 λα4 fw s4 I4 S4 F4 r4=>?_);have S24:=sd.2.1.trans S4;refine R0 hh (λz h=>?_) λz zz=>?_
  ·subst z
   subst r4;have hlt:=(AX.mp ex).1;exact @i9 _ (Q_ _) _ _ _ _ h λhgd h=>EY (kN s4 hlt (Xh.mk hOw1 hTw1 hw1 rfl hlt I4 F4 (W.frame st2 S24 (λa ha=>.inr (.inl (F2.own a ha).1)) hOw1 (λa ha=>.inl ha) hwT1 I2 I4 hgd) (S2.trans S24) h))
  ·have I5:=I4.sub (T':=T) λa ha=>CO _ ha
   have F5:=F4.mono (M':=T++ai α4 p.2) mr;subst zz;refine z.el r4 (λz z2=>?_) λV v z z2 rv=>?_
   ·subst z;subst z2;exact EY (kX _ s4 (d4 α4 I5 (S2.trans S24) F5 rfl))
   ·subst z;subst z2;exact EY (kX _ s4 (jj α4 I5 (S2.trans S24) F5 v rfl (rv.mono mr)))
theorem KC{g0:Option Nat}{RR:Result→Shared→Prop}
  (tg:nN C cx target tup tf) (hb:cD C n cx body f) (he:cD C n cx orelse g) (R:cR A n) (hn2:2≤n) (W:gV C it gi xs g0 tup St Mid)
  (hOw:∀a∈O,a∉wr) (hTw:∀a∈T,a∉wr) (hw0:∀b∈wr,s₀.heap.get? b=none) (hg0:∀i∈gi,s₀.gens[i]? =none)
  (I:bl C (wr++T) α μ s) (F:bi C cx env O ρ s.heap α ((wr++T)++ai α μ)) (st:St wr (wr++T) α μ 0 s) (S:aV O α₀ μ₀ s₀ α μ s)
  (h:fX tf f g g0 xs xs ρ μ=some (fl,ρ',μ')) (hR:∀fw s',iy C cx env O T α₀ μ₀ s₀ fl ρ' μ' fw s'→RR (.ok fw) s'):
  codeAny (model C.prog C.w) A (.forLoop target it body orelse env) RR s:=by
 refine codeAny_loop' rfl (Xh C cx env O T α₀ μ₀ s₀ St xs λr ρ μ=>fX tf f g g0 xs r ρ μ=some (fl,ρ',μ')) (λk s=>?_) (xs.length+1) (Xh.mk (i:=0) hOw hTw hw0 rfl (LJ _) I F st S h);clear hOw hTw hw0 I F st S h;intro p;refine jT p λwr i ρ α μ q zk hi I F st S h=>?_;refine bH (F6 zk) ?_;refine dW q λhOw hTw hw0=>?_;exact Ie (A:=A) tg hb R hn2 W hOw hTw hw0 hg0 I F st S h (λs1 I1 F1 S1 e=>.inr ⟨rfl,codeAny_block (he.go R I1 F1 e λα2 fw s2 I2 S2 F2 r2=>hR fw s2 (d4 α2 I2 (S1.trans S2) F2 r2))⟩) (λs4 hl p=>.inl (gS rfl _ (Bt hl) p)) hR
theorem gu(hn2:2≤n)(hit:mM C n cx iter tup itf)(tg:nN C cx target tup tf)(hb:cD C n cx body f)(he:cD C n cx orelse g)(hs:∀env x,foldedSetIterable iter env x=pure x):aQ C n cx (.For target iter body orelse pos) (jN itf tf f g):=by
 refine .of ?_;intro A env O T ρ α μ s E fl ρ' μ' R I F h;refine aD h λxs p e1 h=>wpAny_For (D1 (hit.run A env O T ρ α μ s _ xs p.1 p.2 R I F e1) (λx s1 pp=>D1 pp (λit s2 q=>?_) λzz zz x=>x) λzz zz x=>x) (hs env);refine gB q λwr gi St Mid α1 W I1 S1 st hw hg hgd=>?_;exact KC tg hb he R hn2 W (BW F hw) (λa ha q=>I.mdom a (yx _ ha) (hw a q)) hw hg I1 (F.growStep I S1 hw) st S1.up h λfw s' p=>p
end
noncomputable def dh(scope:Scope):Cx:= {scope:=scope,names:=(scope.names.filter λx=>x.2== .local||x.2== .cell).map λx=>(x.1,if x.2== .local then 1 else 2)}
noncomputable def cE(scope:Scope)(Vs:List AV):d5:=Vs.map some++Hp ((dh scope).names.length-Vs.length) none
theorem mf{l:List (Str×NameKind)}{k:NameKind}(hn:(l.map (·.1)).Nodup)(h:(x,k)∈l):l.lookup x=some k:=by
 induction l with
 |nil=>exact nomatch h
 |cons p r ih=>
  have hn':=KF.mp hn;refine (Cp.mp h).elim (λq=>q▸Pj) λq=>?_;have hxy:(x==p.1)=false:=by simpa using λz:x=p.1=>hn'.1 (by show p.1∈_;rw [←z];exact PE (f:=(·.1)) q)
  refine (NA).trans ?_;rw [hxy];exact ih hn'.2 q
theorem ma(h:(dh scope).names[i]? =some (x,k)):(k=1∧(x,NameKind.local)∈scope.names)∨(k=2∧(x,Ot)∈scope.names):=by
 unfold dh at h
 simp only [GW,Iq] at h
 obtain ⟨⟨y,j⟩,e,q⟩:=h;have hm:=Ov.mp (GR e);simp only [QT] at q
 obtain ⟨rfl,q⟩:=q;simp only [PN,beq_iff_eq] at hm
 rcases hm.2 with z|z
 ·subst z;exact .inl ⟨by simpa using q.symm,hm.1⟩
 ·subst z;exact .inr ⟨by simpa using q.symm,hm.1⟩
theorem jg{β:Type}{l:List (Str×β)}(p:Str×β→Bool)(h:(l.map (·.1)).Nodup):((l.filter p).map (·.1)).Nodup:=
 Te (List.Sublist.map _ List.filter_sublist) h
theorem r8(hn:(scope.names.map (·.1)).Nodup){l:Nat}(h1:(dh scope).names[i]? =some (x,k))(h2:(dh scope).names[j]? =some (x,l)):i=j:=by
 have hnd:((dh scope).names.map (·.1)).Nodup:=by
  unfold dh;simp only [E_];exact jg _ hn
 have e1:((dh scope).names.map (·.1))[i]? =some x:=by rw [GW,h1];rfl
 have e2:((dh scope).names.map (·.1))[j]? =some x:=by rw [GW,h2];rfl
 refine bP (AX.mp e1) λp q1=>?_;refine bP (AX.mp e2) λp' q2=>?_
 rcases QD i j with h|h|h
 ·exact absurd (q1.trans q2.symm) (M4.mp hnd i j p p' h)
 ·exact h
 ·exact absurd (q2.trans q1.symm) (M4.mp hnd j i p' p h)
theorem rf{names:List (Str×NameKind)}{acc:List (Str×Addr)}(h:∃c,acc.lookup x=some c):∃c,(cellsFrom n names acc).lookup x=some c:=by
 induction names generalizing n acc with
 |nil=>exact h
 |cons p r ih=>
  refine (?_:∃c,(if p.2== .cell then cellsFrom (n+1) r ((p.1,n)::acc) else cellsFrom n r acc).lookup x=some c)
  by_cases q:(p.2== .cell)=true
  ·rw [if_pos q]
   refine ih ?_;rw [NA];cases x==p.1 with
   |true=>exact ⟨_,rfl⟩
   |false=>exact h
  ·rw [if_neg q];exact ih h
theorem k5{names:List (Str×NameKind)}(n:Nat)(acc:List (Str×Addr))(x:Str)(h:(x,Ot)∈names):∃c,(cellsFrom n names acc).lookup x=some c:=by
 induction names generalizing n acc with
 |nil=>exact nomatch h
 |cons p r ih=>
  refine (?_:∃c,(if p.2== .cell then cellsFrom (n+1) r ((p.1,n)::acc) else cellsFrom n r acc).lookup x=some c);refine (Cp.mp h).elim (λq=>q▸rf ⟨n,Pj⟩) λq=>?_
  by_cases z:(p.2== .cell)=true
  ·rw [if_pos z];exact ih _ _ q
  ·rw [if_neg z];exact ih _ _ q
section
variable {kd:Str→Option NameKind} {ps:List Str} {m:Str→Option Value}
theorem Em(h:x∉ps):bindL kd (ps.zip vs) m x=m x:=by
 induction ps generalizing vs m with
 |nil=>rfl
 |cons p ps ih=>
  cases vs with
  |nil=>rfl
  |cons v vs=>
   refine (ih λq=>h (CQ _ q)).trans ?_
   by_cases q:kd p=some .local
   ·rw [if_pos q];exact if_neg λq=>h (Cp.mpr (.inl q))
   ·rw [if_neg q]
theorem Di(h:x∉ps):bindC kd (ps.zip vs) m x=m x:=by
 induction ps generalizing vs m with
 |nil=>rfl
 |cons p ps ih=>
  cases vs with
  |nil=>rfl
  |cons v vs=>
   refine (ih λq=>h (CQ _ q)).trans ?_
   by_cases q:kd p=some .local
   ·rw [if_pos q]
   ·rw [if_neg q];exact if_neg λq=>h (Cp.mpr (.inl q))
theorem K6{G:List (Str×Value)→(Str→Option Value)→Prop}(hn:ps.Nodup)(h1:ps[i]? =some x)(h2:vs[i]? =some v)(b:∀ (qs:List Str) (us:List Value) m,x∉qs→G ((x,v)::qs.zip us) m)(k:∀p l m,(∀m,G l m)→G (p::l) m):G (ps.zip vs) m:=by
 induction ps generalizing vs m i with
 |nil=>exact cv h1
 |cons p ps ih=>
  cases vs with
  |nil=>exact cv h2
  |cons w vs=>
   have hn':=KF.mp hn;cases i with
   |zero=>cases h1;cases h2;exact b ps vs m hn'.1
   |succ i=>exact k _ _ m λm=>ih hn'.2 h1 h2
theorem Ek(hn:ps.Nodup)(h1:ps[i]? =some x)(h2:vs[i]? =some v)(hk:kd x=some .local):bindL kd (ps.zip vs) m x=some v:=
 K6 (G:= λl m=>bindL kd l m x=some v) hn h1 h2 (λzz zz zz hq=>(Em hq).trans (by rw [if_pos hk];exact if_pos rfl)) λzz zz zz h=>h _
theorem Ez(hn:ps.Nodup)(h1:ps[i]? =some x)(h2:vs[i]? =some v)(hk:kd x≠some .local):bindC kd (ps.zip vs) m x=some v:=
 K6 (G:= λl m=>bindC kd l m x=some v) hn h1 h2 (λzz zz zz hq=>(Di hq).trans (by rw [if_neg hk];exact if_pos rfl)) λzz zz zz h=>h _
end
theorem D4(r:fj h α M vs Vs)(e:Vs[i]? =some V):∃v,vs[i]? =some v∧bq h α M v V:=by
 induction Vs generalizing vs i with
 |nil=>exact cv e
 |cons W Vs ih=>
  cases vs with
  |nil=>exact r.elim
  |cons v vs=>
   cases i with
   |zero=>exact ⟨v,rfl,Fi e▸r.1⟩
   |succ i=>exact ih (vs:=vs) (i:=i) r.2 e
theorem DJ(r:fj h α M vs Vs):vs.length=Vs.length:=by
 induction Vs generalizing vs with
 |nil=>cases vs with
  |nil=>rfl
  |cons _ _=>exact r.elim
 |cons W Vs ih=>cases vs with
  |nil=>exact r.elim
  |cons _ _=>exact congrArg Vi (ih r.2)
theorem E0(h:(cE scope Vs)[i]? =some (some V)):Vs[i]? =some V:=by
 unfold cE at h
 by_cases hi:i<Vs.length
 ·rw [Fb (by simpa using hi),GW,Iq] at h
  exact au h λW e q=>e.trans q
 ·rw [II (by simpa using LS hi),R5] at h
  by_cases q:i-(Vs.map some).length< (dh scope).names.length-Vs.length
  ·rw [if_pos q] at h;exact cv (Fi h)
  ·rw [if_neg q] at h;exact cv h
theorem bl.drop{α₁ δ:List Addr}{μ₁ κ:List ah}(I:bl C T (α₁++δ) (μ₁++κ) s)(hl:α₁.length=μ₁.length):bl C T α₁ μ₁ s∧(∀a,a∈T++ai α₁ μ₁→a∈T++ai (α₁++δ) (μ₁++κ)):=by
 have hm:∀a,a∈T++ai α₁ μ₁→a∈T++ai (α₁++δ) (μ₁++κ):= λa ha=>by
  rw [rE hl];exact (AF.mp ha).elim (yx _) λh=>CO _ (yx _ h)
 exact ⟨⟨I.keep,hl,λi a c h1 h2=>(I.cells i a c ((Fb (AX.mp h1).1).trans h1) ((Fb (AX.mp h2).1).trans h2)).mono hm,(QK.mp I.nodup).1,λa ha q=>I.apart a ha (yx _ q),I.tdom,I.tnew,λa ha=>I.new a (yx _ ha),I.gens,I.os⟩,hm⟩
noncomputable def Z9(fl:Fl)(μ μ':List ah):Option (AV×List ah):=Fl.rec (some (.d .none,μ'.take μ.length)) none (λV=>oe (vd V) (some ()) (λx zz=>some (.d x,μ'.take μ.length)) (some (V,μ'))) fl
theorem Kz{W:AV}:Z9 (.ret W) μ μ'=oe (vd W) (some ()) (λx zz=>some (.d x,μ'.take μ.length)) (some (W,μ')):=rfl
noncomputable def Z_(scope:Scope)(f:SF):a_:= λVs μ=>bp (f (cE scope Vs) μ) λfl p=>Z9 fl μ p.2
noncomputable def cC(k:Nat)(scope:Scope)(f:SF):a_:= λVs μ=>if Vs.length=k then Z_ scope f Vs μ else none
theorem t4{x:PyData}(I:bl C T α μ s)(I':bl C T α' μ' s')(S:aV [] α μ s α' μ' s')(r:aJ s'.heap (T++ai α' μ') v x):bI C T α μ s (μ'.take μ.length) (.d x) v s':=by
 refine au S.pre λδ e hd=>?_;have hlen:μ.length≤μ'.length:=by rw [←I.len,←I'.len,e];simp
 have hμ:μ'=μ'.take μ.length++μ'.drop μ.length:=(L_ _ _).symm;have hl:α.length=(μ'.take μ.length).length:=by rw [LU,RQ hlen];exact I.len
 have I2:bl C T (α++δ) (μ'.take μ.length++μ'.drop μ.length) s':=by rw [←e,←hμ];exact I'
 refine f_ (I2.drop hl) λI3 hm=>?_;rw [←e,←hμ] at hm
 exact (cL α I3 (⟨aZ [] (D8 _).symm (λzz h=>nomatch h),S.ext,λa ha=>(AF.mp (hm a (CO _ ha))).elim (λq=>absurd (e▸yx _ (de ha)) (I'.apart a q)) (S.mts a),S.dom,S.gens⟩) (r.mono hm))
section
variable {f:SF}
set_option tactic.hygienic true in
theorem mu{params:Arguments}(ps:List Str)(ho:C.B.get? fa=some o)(hdata:o.data=.func (O9 name params body scope pm cd doc))(hcd:C.B.CodeRec cd name)
  (hbind:∀args:List Value,args.length=ps.length→bindArgs (O9 name params body scope pm cd doc) ⟨args,[]⟩=pure (ps.zip args)) (hnd:(scope.names.map (·.1)).Nodup) (hps:((dh scope).names.map (·.1)).take ps.length=ps)
  (hco:scope.isCoroutine=false) (hgen:scope.isGenerator=false) (hk:scope.kind=.function)
      (hd:A.depth<recursionLimit) (I:bl C T α μ s) (r:fj s.heap α (T++ai α μ) vs Vs) (hVl:Vs.length=ps.length)
  (kont:∀L O h₁ tk,s.heap.get? L=none→L∈O→(∀a∈O,s.heap.get? a=none)→bl C T α μ {s with heap:=h₁,toks:=tk}→aV [] α μ s α μ {s with heap:=h₁,toks:=tk}→
   bi C (dh scope) (envOfC name scope L fa cd) O (cE scope Vs) h₁ α (T++ai α μ)→(∀b o,s.heap.get? b=some o→h₁.get? b=some o)→
   wpAny (model C.prog C.w) (A.deeper (envOfC name scope L fa cd)) (execs body (envOfC name scope L fa cd)) (λf s'=>Q (match f with| .ret v=>v|_=>.none) s')
    (λe s'=>wpAny (model C.prog C.w) (A.deeper (envOfC name scope L fa cd)) (leaving (envOfC name scope L fa cd) e) (λzz s''=>E e s'') (λe' s''=>E e' s'') s') {s with heap:=h₁,toks:=tk}):
  wpAny (model C.prog C.w) A (call (.ref fa) vs) Q E s:=by
 have hvl:vs.length=ps.length:=(DJ r).trans hVl;have hpget:∀i x,ps[i]? =some x→∃k,(dh scope).names[i]? =some (x,k):= λi x e=>by
  rw [←hps] at e
  refine bP (AX.mp e) λhi zz=>?_;rw [LU] at hi
  rw [QM (by lia),GW,Iq] at e
  refine au e λzp0 e q=>?_;obtain ⟨y,k⟩:=zp0;exact ⟨k,by rw [e];simp at q;rw [q]⟩
 have hplt:∀i x k,(dh scope).names[i]? =some (x,k)→i<ps.length→ps[i]? =some x:= λi x k e hi=>by
  rw [←hps,QM hi,GW,e];rfl
 have hpnd:ps.Nodup:=by
  rw [←hps];refine Te (List.take_sublist _ _) ?_;unfold dh;simp only [E_];exact jg _ hnd
 have kindL:∀x,(x,NameKind.local)∈scope.names→scope.names.lookup x=some .local:= λx hx=>mf hnd hx;have kindC:∀x,(x,Ot)∈scope.names→scope.names.lookup x=some .cell:= λx hx=>mf hnd hx;refine wpAny_call (call_cells (name:=name) (params:=params) (body:=body) (scope:=scope) (pm:=pm) (cd:=cd) (doc:=doc) hd (I.keep _ _ ho) hdata (C.nolim.keeps I.keep) (hcd.keeps I.keep) (hbind vs hvl) (λx hx=>?_) (λh₁ tk Fr₁ Cl₁=>?_) hco hgen hk)
 ·refine bP (iE (List.of_mem_zip hx).1) λi e=>?_
  refine bP (hpget i x.1 e) λk e'=>?_
  rcases ma e' with ⟨_,q⟩| ⟨_,q⟩
  ·exact .inl (kindL _ q)
  ·refine .inr ⟨kindC _ q,?_⟩
   refine bP (k5 (s.heap.objs.size+1) [] x.1 q) λc e=>?_;rw [e];rfl
 ·generalize hL:s.heap.objs.size=L at Fr₁ Cl₁⊢
  have above:∀ {a},L≤a→s.heap.get? a=none:= λ{a} ha=>bx (by rw [hL];exact ha);have hLf:s.heap.get? L=none:=above (Dj _);generalize hcs:cellsFrom (L+1) scope.names []=cs at Cl₁
  have csome:∀x,(x,Ot)∈scope.names→∃c,cs.lookup x=some c:= λx hx=>hcs▸k5 (L+1) [] x hx;obtain ⟨cad,hcad⟩:∃cad:Nat→Addr,∀i x k,(dh scope).names[i]? =some (x,k)→2≤k→cs.lookup x=some (cad i):=by
   refine ⟨λi=>(((dh scope).names[i]?).bind λp=>cs.lookup p.1).getD 0,λi x k e h2=>?_⟩
   rcases ma e with ⟨rfl,_⟩| ⟨_,q⟩
   ·lia
   ·refine bP (csome x q) λc hc=>?_
    show _=some ((((dh scope).names[i]?).bind λp=>cs.lookup p.1).getD 0)
    rw [e]
    show _=some ((cs.lookup x).getD 0)
    rw [hc];rfl
  have hcf:∀i x k,(dh scope).names[i]? =some (x,k)→2≤k→s.heap.get? (cad i)=none:= λi x k e h2=>above (Nat.le_of_lt (Cl₁.above x (cad i) (mem_of_lookup (hcad i x k e h2))));have I₁:bl C T α μ {s with heap:=h₁,toks:=tk}:=I.keeps Fr₁.keep;have S₁:aV [] α μ s α μ {s with heap:=h₁,toks:=tk}:=aV.keeps Fr₁.keep;have hkL:∀x,(x,NameKind.local)∈scope.names→(envOfC name scope L fa cd).kindOf x=some .local:= λx hx=>kindL x hx;have hkC:∀x,(x,Ot)∈scope.names→(envOfC name scope L fa cd).kindOf x≠some .local:= λx hx q=>by
   have:scope.names.lookup x=some .local:=q
   rw [kindC x hx] at this;cases this
  obtain ⟨O,hO1,hO2⟩:∃O:List Addr,L∈O∧(∀i x,(dh scope).names[i]? =some (x,2)→cad i∈O)∧∀a∈O,a=L∨∃ (i:Nat) (x:Str),(dh scope).names[i]? =some (x,2)∧a=cad i:=by
   refine (cL (L::(zC (dh scope).names.length).filterMap λi=>((dh scope).names[i]?).bind λp=>if p.2=2 then some (cad i) else none) (Gi ..) (λi x e=>CQ _ (Ox.mpr ⟨i,D2.mpr (AX.mp e).1,by rw [e];rfl⟩)) (λa ha=>?_))
   rcases Cp.mp ha with q|q
   ·exact .inl q
   ·refine au (Ox.mp q) λi zz e=>?_
    refine au (KT.mp e) λp e' e=>i9 e λq2 e=>?_;refine cA e ?_;exact .inr (fV i p.1 (by rw [e',←q2]) rfl)
  have hOf:∀a∈O,s.heap.get? a=none:= λa ha=>by
   rcases hO2.2 a ha with rfl| ⟨i,x,e,rfl⟩
   ·exact hLf
   ·exact hcf i x 2 e (Dj _)
  have arg:∀i x k V,(dh scope).names[i]? =some (x,k)→(cE scope Vs)[i]? =some (some V)→∃v,ps[i]? =some x∧vs[i]? =some v∧bq h₁ α (T++ai α μ) v V:= λi x k V e1 e2=>by
   have e3:=E0 e2;refine au (D4 r e3) λv e4 rv=>?_;have hi:i<ps.length:=by rw [←hVl];exact (AX.mp e3).1
   exact (cL v (hplt i x k e1 hi) e4 (rv.step0 S₁))
  have F₁:bi C (dh scope) (envOfC name scope L fa cd) O (cE scope Vs) h₁ α (T++ai α μ):=by
   refine ⟨rfl,rfl,rfl,?_,(aZ _ Fr₁.ns (λi x V e1 e2=>?_)),⟨cad,λi x k e hk=>by show (cellsFrom (L+1) scope.names []).lookup x=some (cad i);rw [hcs];exact hcad i x k e hk,λi x k e hk=>(aZ _ (Cl₁.cell x (cad i) (hcad i x k e hk)) (λV e2=>?_)),hO2.1,λi j x y k l e1 e2 hk hl q=>?_⟩,λa ha=>⟨?_,I.fresh (hOf a ha)⟩,hO1,λa ha q=>?_,λi j x e1 e2=>r8 hnd e1 e2⟩
   ·have:ps.length≤(dh scope).names.length:=by
     have:=congrArg NL hps
     rw [LU,xP] at this
     lia
    unfold cE;simp only [be,xP,Lq];lia
   ·refine cq (arg i x 1 V e1 e2) λv p1 p2 rv=>?_
    rcases ma e1 with ⟨_,q⟩| ⟨q,_⟩
    ·exact (aZ v (Ek hpnd p1 p2 (hkL x q)) rv)
    ·cases q
   ·refine cq (arg i x k V e e2) λv p1 p2 rv=>?_
    rcases ma e with ⟨q,_⟩| ⟨_,q⟩
    ·lia
    ·exact (aZ v (Ez hpnd p1 p2 (hkC x q)) rv)
   ·have m1:=mem_of_lookup (hcad i x k e1 hk)
    have m2:=mem_of_lookup (hcad j y l e2 hl);have hxy:x=y:=name_of_addr Cl₁.apart m1 (q▸m2);subst hxy;exact r8 hnd e1 e2
   ·rcases hO2.2 a ha with rfl| ⟨i,x,e,rfl⟩
    ·exact fT Fr₁.ns
    ·exact h_ (Cl₁.cell x (cad i) (hcad i x 2 e (Dj _)))
   ·have hM:=I.mdom a ha
    rcases q with (q| ⟨i,x,k,e,hk,q⟩)|q
    ·exact hM (q▸hLf)
    ·have q':cs.lookup x=some a:=by rw [←hcs];exact q
     rw [hcad i x k e hk] at q';cases q'
     exact hM (hcf i x k e hk)
    ·exact hM (hOf a q)
  exact kont L O h₁ tk hLf hO1 hOf I₁ S₁ F₁ Fr₁.keep
theorem YN{params:Arguments}(ps:List Str)(ho:C.B.get? fa=some o)(hdata:o.data=.func (O9 name params body scope pm cd doc))(hcd:C.B.CodeRec cd name)
  (hbind:∀args:List Value,args.length=ps.length→bindArgs (O9 name params body scope pm cd doc) ⟨args,[]⟩=pure (ps.zip args)) (hnd:(scope.names.map (·.1)).Nodup) (hps:((dh scope).names.map (·.1)).take ps.length=ps)
  (hco:scope.isCoroutine=false) (hgen:scope.isGenerator=false) (hk:scope.kind=.function) (hb:cD C n (dh scope) body f):
  eH C (n+1) (.ref fa) (cC ps.length scope f):=by
 intro A T α μ s E vs Vs V μ' R I r h;refine i9 h λhVl h=>aD h λfl p e h=>?_;refine mu ps ho hdata hcd hbind hnd hps hco hgen hk (by have:=R.depth;unfold recursionLimit;omega) I r hVl λL O h₁ tk hL hLO hOf I₁ S₁ F₁ hk1=>?_;have R':cR (A.deeper (envOfC name scope L fa cd)) n:=⟨by have:=R.depth;show A.depth+1+4*n<600;omega,by have:=R.units;show A.units+3+200*n+400<cLine;omega,R.handled⟩;refine hb.go R' I₁ F₁ e λα' fw s' I' S' F' r'=>?_;have fin:aV [] α μ s α' p.2 s':=((S₁.up (O:=O)).trans S').weak λa ha=>.inr (hOf a ha);cases fl with
 |next=>subst r';exact cm h (t4 I I' fin (aJ.none _ _))
 |brk=>exact cv h
 |ret W=>
  refine au r' λv z rv=>?_;subst z;exact bU (Kz.symm.trans h) (λx zz ex zz h=>cm h (t4 I I' fin (by rw [iO ex] at rv;exact rv))) λh=>cm h (cL α' I' fin rv)
end
noncomputable def G1:a_:= λVs μ=>bp (l2 Vs) λV W=>oe (jM V) (jM W) (λa b=>some (.d (.int (if b<a then b else a)),μ)) none
theorem Hj{W:AV}(r:fj h α M vs Vs)(e:l2 Vs=some (V,W))(k:∀v w,vs=[v,w]→bq h α M v V→bq h α M w W→G):G:=by
 rw [Ac e] at r
 exact bm (T8 r) k
theorem IV:eH C n (.builtin "min") G1:=by
 intro A T α μ s E vs Vs V μ' R I r h;refine aD h λV1 W1 el h=>bU h (λa b ea eb h=>cm h (Hj r el λv w z r1 r2=>?_)) λh=>cv h;subst z;refine bP (fN ea r1) λt z1=>bP (fN eb r2) λu z2=>?_;subst z1;subst z2;refine min_two_ints R.handled λh' tk hk=>?_
 by_cases hc:b<a
 ·rw [if_pos hc,if_pos hc];exact bI.of_keeps I hk (aJ.int ..)
 ·rw [if_neg hc,if_neg hc];exact bI.of_keeps I hk (aJ.int ..)
noncomputable def vQ:a_:= λVs μ=>bo (l1 Vs) λV=>bo (dc μ V) λxs=>bo (qf xs) λns=>some (.d (.int ns.sum),μ)
theorem yK(h:IntsAre vs ns):∃xs:Array (Int×Tok),vs.toArray=intItems xs∧ns.sum=preSum (numAt xs) xs.size:=by
 refine bP (AllInts.items (h.allInts)) λxs e=>?_;refine (aZ xs e ?_);have h2:=h.numsOf
 have:numsOf (intItems xs).toList=ns:=by rw [←e];simpa using h2
 rw [nums_intItems] at this
 rw [preSum_eq,Fj (by simp),this]
theorem yB:eH C n (.builtin "sum") vQ:=by
 intro A T α μ s E vs Vs V μ' R I r h;refine ax h λV1 el h=>ax h λxs e1 h=>ax h λns e2 h=>cm h (gJ r el λv z r1=>?_);subst z;refine bm (r1.isList I e1) λa items zq2 hl rr=>?_;subst zq2;refine au (yK (va rr e2)) λys e3 e4=>?_;refine sum_intListG R.handled (e3▸hl.isList:s.heap.IsList a (intItems ys)) λh' tk t' hk=>?_;rw [←e4];exact bI.of_keeps I hk (aJ.int ..)
theorem bI.list{vs:Array Value}{c:Nat}(I:bl C T α μ s)(hk:∀b o,s.heap.get? b=some o→h'.get? b=some o)
  (hn:h'.get? s.heap.objs.size=some {cls:=.type "list",dict:=none,data:=.seq vs c,slots:= #[]}) (r:aw h' (T++ai α μ) vs.toList xs):bI C T α μ s μ (.d (.list xs)) (.ref s.heap.objs.size) {s with heap:=h',toks:=tk}:=
 bI.of_keeps I hk (aJ.list ⟨c,hn⟩ r (eI I (bx (Dj _))))
theorem wT{a:Int}:∀ {n:Nat} {acc:Array Value},ItemsOf (λi v=>∃t,v=.int (a+(i:Int)*1) t) acc n→aw h M acc.toList (fK a n):=by
 intro n acc H;have hl:acc.toList.length=n:=by simpa using H.1
 have hg:∀ (i:Nat) (v:Value),acc.toList[i]? =some v→∃t,v=Value.int (a+(i:Int)) t:= λi v e=>by
  refine bP (H.2 i v (by rw [←Lb];exact e)) λt e'=>?_;exact ⟨t,by rw [e',show a+(i:Int)*1=a+(i:Int) by lia]⟩
 clear H
 revert hl hg
 generalize acc.toList=l;intro hl hg
 induction l generalizing a n with
 |nil=>simp at hl;refine bH hl ?_;exact aw.nil _ _
 |cons v l ih=>
  cases n with
  |zero=>simp at hl
  |succ n=>
   refine bP (hg 0 v (by simp)) λt zq1=>?_;refine bH (F6 zq1) ?_;refine .ccons ?_ (ih (by simpa using hl) λi v e=>?_)
   ·rw [show a+((0:Nat):Int)=a by lia];exact aJ.int ..
   ·refine bP (hg (i+1) v (by simpa using e)) λt e'=>?_
    exact ⟨t,by rw [e'];congr 1;push_cast;lia⟩
noncomputable def lY:a_:= λVs μ=>bo (l1 Vs) λV=>oe (XU V) (some ()) (λp zz=>if KH p.1 p.2 1=true∧(p.2-p.1).toNat≤2^24 then some (.d (.list (fK p.1 (p.2-p.1).toNat)),μ) else none) (bo (dc μ V) λxs=>if xs.length≤sizeLine then some (.d (.list xs),μ) else none)
theorem yW(a b:Int):Mn a b 1=(b-a).toNat:=by
 unfold Mn;simp only [show (1:Int)>0 by decide,if_true]
 split<;>lia
theorem tC:eH C n (.type "list") lY:=by
 intro A T α μ s E vs Vs V μ' R I r h;refine ax h λV1 el h=>gJ r el λv z r1=>?_;subst z;refine bU h (λp zz e1 zz h=>i9 h λhc h=>cm h ?_) λh=>ax h λxs e1 h=>i9 h λhz h=>cm h ?_
 ·rw [RO e1] at r1
  refine qS r1 λra t u w zq4 hr hM=>?_;subst zq4;exact call_list_range R.handled hr hc.1 (n:=(p.2-p.1).toNat) (yW _ _) hc.2 λh' tk acc' c' hk hn hit=>bI.list I hk hn (wT hit)
 ·refine bm (r1.isList I e1) λa items zq2 zp3 rr=>bP zp3 λk hl=>?_
  subst zq2;refine call_list_seq a (.inl rfl) hl rfl rfl (λh' c' hk hn=>?_) (by have:=rr.length;simp at this;lia);exact bI.list (tk:=s.toks) I hk hn (rr.keeps hk)
section
noncomputable abbrev AQ:AV→AV→List ah→Option (AV×List ah):=aS λx y=>some (x+y)
noncomputable abbrev By:AV→AV→List ah→Option (AV×List ah):=aS λx y=>some (x-y)
noncomputable abbrev B6:AV→AV→List ah→Option (AV×List ah):=aS λx y=>some (It x y)
noncomputable abbrev T9:AV→AV→List ah→Option (AV×List ah):=aS λx y=>some (Mo x y)
noncomputable abbrev rL:AV→AV→List ah→Option (AV×List ah):=aS λa b=>if 0≤b∧(HL a:Int)+b≤2^27 then some (a*2^b.toNat) else none
theorem qb{o:Int→Int→Option Int}(h:∀ (A:Around) (s:Shared) (E:Value→Shared→Prop) (x y z:Int) (t u:Tok) (Q:Value→Shared→Prop),o x y=some z→Q (.int z s.toks) {s with toks:=s.toks+1}→wpAny (model C.prog C.w) A (inplaceOp op (.int x t) (.int y u)) Q E s):qk C n op (aS o):=by
 intro A T α μ s E a b Va Vb V μ' R I ra rb q;refine ax q λx ea q=>ax q λy eb q=>ax q λz e q=>cm q (bP (fN ea ra) λt z1=>bP (fN eb rb) λu z2=>?_);subst z1;subst z2;exact h A s E x y z t u _ e (bI.tok I (aJ.int ..))
theorem Pn:qk C n .Add AQ:=qb λA s E x y z t u Q e=>cA e λq=>wpAny_iadd_int q
theorem Pf:qk C n .Sub By:=qb λA s E x y z t u Q e=>cA e λq=>isub_int q
theorem NY:qk C n .BitXor B6:=qb λA s E x y z t u Q e=>cA e λq=>ixor_int q
theorem Wn:qk C n .BitOr T9:=qb λA s E x y z t u Q e=>cA e λq=>ior_int q
theorem Ch:qk C n .LShift rL:=qb λA s E x y z t u Q e=>i9 e λhc e=>cA e λq=>ilshift_int hc.1 hc.2 q
end
def dx(f:EF)(fs:List EF)(spec:a_):EF:= λρ μ=>bp (f ρ μ) λV μ1=>bo (mA V) λx=>bp (fh fs ρ μ1) λVs μ2=>spec (.d (.str x)::Vs) μ2
section
theorem fQ{o:Expr}{id:String}(hm:nP o name apos (e::es) pos)(slot:Slot "str" name id)(hty:typeOf (.builtin id)=pure (.type "method_descriptor"))(hok:eH C n (.builtin id) spec)
  (hf:ab C n cx o f) (ha:dg C n cx (e::es) fs) (hs:∀env,starEach (e::es) env=(false,eval e env)::starEach es env) (hp:∀env,(backTo pos (starEach (e::es) env)).any (·.1)=false):
  ab C n cx (.Call (.Attribute o name apos) (e::es) [] pos) (dx f fs spec):=by
 refine .of ?_;intro A env O T ρ α μ s E V μ' R I F h;refine aD h λW μ1 e1 h=>ax h λx ex h=>aD h λVs μ2 e2 h=>?_;refine QV (hf.goF R I F e1 λv s1 α1 I1 S1 F1 r1=>bP (j0 ex r1) λt z=>?_) (hm env);subst z;refine QN rfl Ry slot hty (λa e=>nomatch e) ?_;refine bf id _ _ _ _ _ _ _ _ (hp env) (eh (hs env) ha R I1 F1 e2 λvs s2 α2 I2 S2 r2=>?_);exact D1 (hok A T α2 μ2 s2 E (.str x t::vs) (.d (.str x)::Vs) V μ' R I2 ⟨aJ.str ..,r2⟩ h) (λv s3 p=>bI.trans (S1.trans S2) p) λzz zz x=>x
def jF(tbl:Str→Option Int)(g:EF):EF:= λρ μ=>bp (g ρ μ) λV μ1=>bo (mA V) λx=>bo (tbl x) λi=>some (.d (.int i),μ1)
theorem k6{K:Type} [DecidableEq K] {knd:KeyKind prog w K}{f:K→Option Value}(hm:h.MapOf knd a f)(hk:∀b o,h.get? b=some o→h'.get? b=some o):h'.MapOf knd a f:=
 let ⟨o,es,ep,ho,r⟩:=hm;⟨o,es,ep,hk _ _ ho,r⟩
theorem Oo{d:Addr}{m:Str→Option Value}{tbl:Str→Option Int}(hg:C.mg x=some (.ref d))(hm:C.B.MapOf (strKind C.prog C.w) d m)(ht:∀y i,tbl y=some i→∃t,m y=some (.int i t))(hf:ab C n cx e g)
  (hs:∀o i,subscripted e false o i=operate [o,i] (getItem o i))
  (hl:cx.scope.names.lookup x=some .globalImplicit) (hk:cx.scope.kind=.function) (hdb:(x==("__debug__":Str))=false):ab C n cx (.Subscript (.Name x xp) e pos) (jF tbl g):=by
 refine .of ?_;intro A env O T ρ α μ s E V μ' R I F h;refine aD h λW μ1 e1 h=>ax h λy ey h=>ax h λi e2 h=>cm h (Ts ?_);refine Fg (by rw [F.sc];exact hk) (by unfold JH;rw [F.sc];exact hl) (Ll (by rw [F.gl];exact C.g.keeps I.keep) hg ?_) hdb;refine hf.go R I F e1 λv s1 α1 I1 S1 r1=>bP (j0 ey r1) λt z=>bP (ht y i e2) λu hu=>?_;subst z;have hm':=k6 hm I1.keep;exact Sg (T:="dict") hm'.typeIs slot_dict_getitem.lookup (wpAny_getItem_of (k:=y) (strKind_is ..) hm' hu (bI.trans S1 (bI.tok I1 (aJ.int ..)))) (hs _ _)
def sB(tbl:Int→Option Str)(f g:EF):EF:= λρ μ=>bp (f ρ μ) λV μ1=>bo (jM V) λk=>bp (g ρ μ1) λW μ2=>bo (mA W) λx=>some (.d (.str ((tbl k).getD x)),μ2)
theorem Pr{d:Addr}{m:Int→Option Value}{tbl:Int→Option Str}(hmeth:nP (.Name x xp) "get" apos [e1,e2] pos)(hg:C.mg x=some (.ref d))(hm:C.B.MapOf (intKind C.prog C.w) d m)
  (ht:∀k,(∃y t,tbl k=some y∧m k=some (.str y t))∨(tbl k=none∧m k=none)) (hd:(d==sysModules)=false) (hf:ab C n cx e1 f) (hg2:ab C n cx e2 g)
  (hs:∀env,backTo pos (starEach [e1,e2] env)=[(false,eval e1 env),(false,eval e2 env)])
  (hl:cx.scope.names.lookup x=some .globalImplicit) (hk:cx.scope.kind=.function) (hdb:(x==("__debug__":Str))=false):ab C n cx (.Call (.Attribute (.Name x xp) "get" apos) [e1,e2] [] pos) (sB tbl f g):=by
 refine .of ?_;intro A env O T ρ α μ s E V μ' R I F h;refine aD h λV1 μ1 q1 h=>ax h λk ek h=>aD h λV2 μ2 q2 h=>ax h λy ey h=>cm h (QV ?_ (hmeth env));refine Fg (by rw [F.sc];exact hk) (by unfold JH;rw [F.sc];exact hl) (Ll (by rw [F.gl];exact C.g.keeps I.keep) hg ?_) hdb;have hm0:=k6 hm I.keep;refine QN hm0.typeIs PySem.F.plainAttrs_dict PySem.F.slot_dict_get PySem.F.type_dict_get hm0.noDict ?_;rw [hs env];refine wpAny_dict_get2 (knd:=intKind C.prog C.w) hd (hf.goF R I F q1 λv s1 α1 I1 S1 F1 r1=>bP (fN ek r1) λt z=>hg2.go R I1 F1 q2 λw s2 α2 I2 S2 r2=>bP (j0 ey r2) λu z2=>?_);subst z;subst z2;refine (dy k m (intKind_is ..) (k6 hm I2.keep) (bI.trans (S1.trans S2) (bI.tok I2 ?_)));exact (ht k).elim (λz=>kc z λz t' h1 h2=>by rw [h1,h2];exact aJ.str ..) λz=>by rw [z.1,z.2];exact aJ.str ..
theorem Zj{T:String}(hg:C.mg x=none)(hb:bootBuiltins x=some (.type T))(hx:x≠"__name__")(hl:cx.scope.names.lookup x=some .globalImplicit)(hk:cx.scope.kind=.function)(hd:(x==("__debug__":Str))=false):
  ab C n cx (.Name x pos) (λzz μ=>some (.ty T,μ)):=by
 refine .of ?_;intro A env O T' ρ α μ s E V μ' R I F h;refine cm h ?_;exact Fg (by rw [F.sc];exact hk) (by unfold JH;rw [F.sc];exact hl) (Lu (by rw [F.gl];exact C.g.keeps I.keep) hg (by rw [F.bn];exact C.b.keeps I.keep) ((C.bt x hx).trans hb) (bI.same I rfl)) hd
def o0(f g:EF)(sep:Str):TF:= λρ μ=>bp (f ρ μ) λV μ1=>bo (mA V) λw=>bp (g ρ μ1) λW μ2=>bo (mA W) λx=>
 if x.length≤sizeLine∧(Od x (Lz x sep 0 x.length (x.length+1)) sep.length).length≤sizeLine∧La ((PP x sep).map .str)=true∧TQ w=true then some (((PP x sep).map Lv).any λy=>Mv y (.str w),μ2) else none
theorem qM:∀ (l:List (Str×Tok)),∃as,ReadsAll h (strValues l) (l.map λp=>.str p.1) as
 | []=>⟨_,.nil⟩
 | (x,t)::r=>let ⟨_,q⟩:=qM r;⟨_,.cons (.str x t) q⟩
theorem JA{o:Expr}{sep:Str}{cpos spos:Pos}(hmeth:nP o "split" apos [.Constant (.str sep) k cpos] pos)(hf:ab C n cx e1 f)(hg:ab C n cx o g)(hsep:(sep.length==0)=false):
  gO C n cx (.Compare e1 [.In] [.Call (.Attribute o "split" apos) [.Constant (.str sep) k cpos] [] pos] spos) (o0 f g sep):=by
 refine .of ?_;intro A env O T ρ α μ s E b μ' R I F h;refine aD h λV1 μ1 q1 h=>ax h λw ew h=>aD h λV2 μ2 q2 h=>ax h λx ex h=>i9 h λhz h=>cm h ?_;refine RK (hf.goF R I F q1 λv s1 α1 I1 S1 F1 r1=>?_) (by with_unfolding_all rfl);refine QV (hg.goF R I1 F1 q2 λv2 s2 α2 I2 S2 F2 r2=>bP (j0 ex r2) λt z=>bP (j0 ew (r1.step0 S2)) λt1 z1=>?_) (hmeth env);subst z;subst z1;refine QN rfl Ry PySem.F.slot_str_split PySem.F.type_str_split (λa e=>nomatch e) ?_;have es1:dg C n cx [.Constant (.str sep) k cpos] [λzz μ=>some (.d (.str sep),μ)]:=dF (by intro env;rfl) J7 ae;refine bf "str.split" _ _ _ _ _ _ _ _ rfl (eh (by rfl) es1 R I2 F2 (show fh [λzz μ=>some (.d (.str sep),μ)] ρ μ2=some ([.d (.str sep)],μ2) from rfl) λvs s3 α3 I3 S3 r3=>?_);refine au (K8 r3) λv3 z r4=>bP (aJ.of_str r4) λu z1=>?_;subst z;subst z1;refine SCH.split1 (P:= λh'=>∀b o,s3.heap.get? b=some o→h'.get? b=some o) (λh ob hp b o e=>B8 _ (hp b o e)) (λzz zz e=>e) hsep (λD l h' kk hl hk hD=>?_) hz.1 hz.2.1;refine Al hD λod hod hcd nd hdd=>bP (qM (h:=h') l) λas ra=>?_;have hxs:(l.map λp=>Lv p.1)=(PP x sep).map Lv:=by rw [←hl,E_];rfl
 have rc:Reads h' (.ref D) (.list ((PP x sep).map Lv)) _:=.list hod hcd hdd (by rw [←hxs];simpa using ra);refine Q3 (s:= {s3 with heap:=h',toks:=kk}) rc (.str w t1) hz.2.2.1 (by simpa [Qd] using hz.2.2.2) (by have:=R.units;have h9:(Lv w).depth≤1:=(by simp [TS]);lia) ?_;exact P1 (gS rfl α3 (I3.keeps hk) (S1.trans (S2.trans (S3.trans (aV.keeps hk)))))
end
noncomputable def RP:a_:= λVs μ=>bo (l1 Vs) λV=>bo (YC V) λxs=>some (.c μ.length,μ++[.iter xs])
section
theorem FO(I:bl C T α μ s)(r:aJ s.heap (T++ai α μ) (.ref a) (.list xs)):
  bI C T α μ s (μ++[.iter xs]) (.c μ.length) (.ref s.heap.objs.size) {s with heap:=s.heap.push {cls:=.type "list_iterator",data:=.fields #[.ref a,.int 0 0]}}:=by
 refine kZ r.of_list λzz items e1 hp rr haM=>?_;cases e1;have hw:∀b∈[s.heap.objs.size],s.heap.get? b=none:=Dv;exact GQ (tk:=s.toks) I (bc _ _) (bx (Dj _)) ⟨_,D5 _ rfl⟩ rfl (.inl (i7 a 0 items (cL _ (D5 _ rfl) rfl rfl) (eO hp (W:=[]) (g7.of_keeps (bc _ _)) (λq=>nomatch q)) (λq=>(lQ hw a q).elim haM (fO (fI hp))) (LJ _) (rr.grow (s':= {s with heap:=s.heap.push {cls:=.type "list_iterator",data:=.fields #[.ref a,.int 0 0]}}) (bc _ _) hw)))
theorem OA:eH C n (.builtin "iter") RP:=by
 intro A T α μ s E vs Vs V μ' R I r h;refine ax h λW el h=>ax h λxs ex h=>cm h (gJ r el λv z r1=>?_);subst z;have r2:=Ni ex r1;refine bm r2.of_list λa items zq2 hp zz=>?_;subst zq2;refine PR (by decide+kernel) (by decide+kernel) kdk_entry_iter (kdk_args_iter _) ?_;unfold Builtin.«iter»;refine zm (m:=someArgs "iter" 1 2 _) (Mm (a:=[LH a]) (by first|rfl|kernel_rfl!) ?_);refine (?_:wpAny _ _ (pyIter (.ref a)>>=_) _ _ _);exact zm (M8 hp.isList (EY (aZ _ rfl (FO I r2))))
noncomputable def QI:ah→Option (List PyData)
 | .iter xs=>some xs
 |_=>none
theorem ac8(h:QI c=some xs):c=.iter xs:=by
 cases c with
 |iter _=>exact congrArg _ (Fi h)
 |_=>exact cv h
noncomputable def uncons{X:Type}(l:List X):Option (X×List X):=List.rec none (λx r zz=>some (x,r)) l
theorem FW{X:Type}{l r:List X}{x:X}(h:uncons l=some (x,r)):l=x::r:=by
 cases l with
 |nil=>exact cv h
 |cons y t=>cases h;rfl
noncomputable def kv:a_:= λVs μ=>bo (l1 Vs) λV=>bo (Fk V) λi=>bo (μ[i]?.bind QI) λxs=>bp (uncons xs) λx r=>some (.d x,μ.set i (.iter r))
theorem ul{o:Option ah}(h:o.bind QI=some xs):o=some (.iter xs):=by
 cases o with
 |none=>exact cv h
 |some c=>exact congrArg some (ac8 h)
theorem mH{it l:Addr}{x:Value}{Q:Option Value→Shared→Prop}(hit:s.heap.IsListIter it l i)(hl:s.heap.IsList l items)(hx:items[i]? =some x)
  (hQ:∀h',h'.IsListIter it l (i+1)→Lp it s.heap h'→Q (some x) {s with heap:=h'}):wpAny (model C.prog C.w) A (callSpecial? (.ref it) (Ku "__next__")) Q E s:=by
 refine cq (id hit) λo ho hc hd=>?_;refine Al hl λol hol zz nl hdl=>?_;refine Jq (name:=Ku "__next__") hit.typeIs Ld
  (Lj Ld hit.typeIs PS ?_ (P_ _))
 refine (?_:wpAny _ _ (field (.ref it) 0>>=_) _ _ s);refine zm (L1 ho hd (x:=.ref l) rfl ?_);refine (?_:wpAny _ _ (if (LH l==Lm)=true then _ else _) _ _ s);rw [if_neg (show ¬ ((LH l==Lm)=true) from HJ)];refine (?_:wpAny _ _ (field (.ref it) 1>>=_) _ _ s);refine zm (L1 ho hd (x:=.int i 0) rfl ?_);refine (?_:wpAny _ _ (seqItems? (.ref l)>>=_) _ _ s);refine zm (Na hol hdl ?_);simp only [Fs,hx];refine zm (P8 ho hd (by simp) (EY (aZ x rfl (hQ _ ?_ (L9 ..)))));exact (cL _ (Fw _ ho (M0 (Lf hd _))) ((Tw ..).trans hc) (by
  rw [Lf hd];simp [rawInt]))
theorem BK:eH C n (.builtin "next") kv:=by
 intro A T α μ s E vs Vs V μ' R I r h;refine ax h λW el h=>ax h λi ei h=>ax h λxs e h=>aD h λx rst eu h=>cm h (gJ r el λv z r1=>?_);subst z;refine au (IY ei r1) λa ha z=>?_;subst z;have e:=ul e;rw [FW eu] at e
 refine (I.cells i a _ ha e).elim (λz=>i4 z λl k items hit hp hl hk rr=>?_) λz=>nomatch z.1;refine PR (by decide+kernel) (by decide+kernel) kdk_entry_next (kdk_args_next _) ?_;unfold Builtin.«next»
 refine zm (m:=someArgs "next" 1 2 _) (Mm (a:=[LH a]) (by first|rfl|kernel_rfl!) ?_);dsimp only;refine zm (LG (name:=Ku "__next__") hit.typeIs Ld.lookup ?_);refine wpAny_ite_split (λhab=>absurd hab (by decide)) (λzz=>?_);refine ij rr λv us hd rv rs=>?_;have hk':k<items.toList.length:=Nat.lt_of_not_le λq=>by rw [Mx q] at hd;exact nomatch hd
 have hd2:=(Nh hk').symm.trans hd;have e2:items[k]? =some v:=by rw [←Lb,Fu hk'];exact congrArg some (UO hd2).1
 refine zm (mH (C:=C) hit hp.isList e2 λh' hit' hs=>EY (aZ _ rfl ?_));have hla:l≠a:= λq=>hl (q▸CO _ (qQ ha e rfl));refine f_ (I.setCell (c:=.iter rst) (h':=h') (tk:=s.toks) ha e rfl rfl (λb o q e=>(hs.2 b q).trans e) (au hit' λo z zz=>⟨o,z⟩) λkd=>.inl (i7 l (k+1) items hit' (bP hp λm z=>⟨m,(hs.2 l hla).trans z⟩) hl (Nat.succ_le_of_lt (by simpa using hk')) (kd ((UO hd2).2▸rs)))) λI' S'=>?_;exact cL α I' S' (aJ.step0 (T:=T) rv S')
end
section
theorem El{it t:Addr}(hne:t≠it)(n i:Nat)(s:Shared)(Q:List Value→Shared→Prop)(hit:s.heap.IsListIter it t i)(ht:s.heap.IsList t items)(hle:i+n≤items.size)
  (hQ:∀h',h'.IsListIter it t (i+n)→Lp it s.heap h'→Q ((items.toList.drop i).take n) {s with heap:=h'}):wpAny (model prog w) A (draw (.ref it) n) Q E s:=by
 induction n generalizing i s Q with
 |zero=>
  refine (?_:wpAny _ _ (pure []) Q E s);exact EY (by simpa using hQ s.heap hit (Lp.refl ..))
 |succ n ih=>
  have hlt:i<items.size:=Oq (Nat.lt_add_of_pos_right (Nat.succ_pos n)) hle;refine (?_:wpAny _ _ (pyNext (.ref it)>>=_) Q E s);refine zm (Rx hit ht (x:=items[i]) (Nl hlt) λh₁ hit₁ hs₁=>?_);have e:i+(n+1)=i+1+n:=by lia
  refine zm (Lc (ih (i+1) _ _ hit₁ (ht.extBut hs₁.extBut hne) (e▸hle) λh₂ hit₂ hs₂=>EY ?_));have z:=hQ h₂ (e▸hit₂) (hs₁.trans hs₂);rw [show items.toList.drop i=items[i]::items.toList.drop (i+1) by simp [Nh,hlt],List.take_succ_cons] at z
  exact z
theorem nC{t:Addr}{Q:List Value→Shared→Prop}(hh:A.handled=none)(ht:s.heap.IsList t items)
  (hQ:∀h',P4 s.heap.objs.size s.heap h'→Q items.toList {s with heap:=h'}):wpAny (model prog w) A (unpackItems (.ref t) items.size none) Q E s:=by
 have hlt:t≠s.heap.objs.size:=by refine au ht λo ho zz=>?_;exact LY (Mk ho)
 unfold unpackItems;refine zm ?_
 ·unfold notIterableAtAll
  refine zm (LG ht.typeIs slot_list_iter.lookup ?_);refine EY ?_;simp only [Oz,if_false];refine zm (Lc (M8 ht ?_));refine zm (Lc (El hlt items.size 0 _ _ (cL _ (D5 _ rfl) rfl rfl) (ht.push _) (by lia) λh₁ hit₁ hs₁=>?_));have hall:List.take items.size (Tf 0 items.toList)=items.toList:=by
   rw [SC];exact Fj (by simp)
  rw [hall];rw [if_neg (by simp)];have ht₁:h₁.IsList t items:=(ht.push _).extBut hs₁.extBut hlt;refine zm (Lc (PD hh hit₁ ht₁ (by simp) λh₂ he₂=>?_));simp only [Option.isSome_none,Oz,if_false];refine EY (hQ h₂ λb o hb e=>he₂ b o hb (hs₁.extBut b o hb (B8 _ e)))
theorem mQ{elts:List Expr}{x1}{t:Addr}{Q:Unit→Shared→Prop}(hh:A.handled=none)(ht:s.heap.IsList t items)
  (hn:(assignEach elts env).length=items.size) (hstar:(assignEach elts env).findIdx? (·.1)=none)
  (h:∀h',P4 s.heap.objs.size s.heap h'→wpAny (model prog w) A (assignInOrder ((assignEach elts env).map (·.2)) items.toList) Q E {s with heap:=h'}):
  wpAny (model prog w) A (assign (.Tuple elts x1 pos) env (.ref t)) Q E s:=by
 rw [PyProof.Rows.assign_Tuple];refine zm (Ln ?_);unfold unpack;rw [hn,hstar];exact zm (Lc (nC hh ht h))
end
def VG(i j:Nat)(f:EF):SF:= λρ μ=>bp (f ρ μ) λV μ1=>bo (YC V) λds=>bp (l2 ds) λa b=>some (.next,(ρ.set i (some (.d a))).set j (some (.d b)),μ1)
def wV(i j:Nat)(f:EF):SF:= λρ μ=>bp (f ρ μ) λV μ1=>bo (GX V) λds=>bp (l2 ds) λa b=>some (.next,(ρ.set j (some (.d b))).set i (some (.d a)),μ1)
section
theorem n9{a b:PyData}(r:aw h M items.toList [a,b])(k:∀v1 v2,items= #[v1,v2]→aJ h M v1 a→aJ h M v2 b→G):G:=
 ij r λv1 us e r1 r=>ij r λv2 us2 e2 r2 r=>k v1 v2 (by rw [←Array.toArray_toList (xs:=items),e,e2,l7 r]) r1 r2
theorem TR{y:Str}(hf:ab C n cx e f)(hx:aA C cx x i)(hy:aA C cx y j)
  (hs:∀env,swapsWithSole [.Tuple [.Name x px,.Name y py] kk tp] e pos.line env=pure false) (hw:∀env,swappedStores [.Tuple [.Name x px,.Name y py] kk tp] e env=pure none):
  aQ C n cx (.Assign [.Tuple [.Name x px,.Name y py] kk tp] e pos) (VG i j f):=by
 refine .of ?_;intro A env O T ρ α μ s E fl ρ' μ' R I F h;refine aD h λV μ1 e1 h=>ax h λds ed h=>aD h λa b el h=>gj h (Assign_Tuple (hf.goF R I F e1 λv s1 α1 I1 S1 F1 r1=>?_) (hs env) (hw env));refine kZ (Ni ed r1).of_list λl items zq2 hp rr zz=>?_;subst zq2;rw [Ac el] at rr
 refine n9 rr λv1 v2 z r1 r2=>?_;subst z;refine mQ R.handled hp.isList rfl rfl λh' he=>?_;have hk:=hZ he;exact D1 (fA hx (I1.keeps (tk:=s1.toks) hk) (F1.keeps I1 hk) (aV.keeps (tk:=s1.toks) hk).up (rr.keeps hk) λzz zz I F S r=>fA hy I F S r λzz zz I F S r=>kO I F S r) (λzz zz st=>kt S1.up st) λzz zz x=>x
theorem AJ{y:Str}(hf:ab C n cx e f)(hx:aA C cx x i)(hy:aA C cx y j)
  (hs:∀env,swapsWithSole [.Tuple [.Name x px,.Name y py] kk tp] e pos.line env=pure false) (hw:∀env,env.scope=cx.scope→swappedStores [.Tuple [.Name x px,.Name y py] kk tp] e env=pure (some [x,y])):
  aQ C n cx (.Assign [.Tuple [.Name x px,.Name y py] kk tp] e pos) (wV i j f):=by
 refine .of ?_;intro A env O T ρ α μ s E fl ρ' μ' R I F h;refine aD h λV μ1 e1 h=>ax h λds ed h=>aD h λa b el h=>gj h (Assign_Tuple_swapped (hf.goF R I F e1 λv s1 α1 I1 S1 F1 r1=>?_) (hs env) (hw env F.sc));refine bm (Kd ed r1) λl items zq2 hp rr=>?_;subst zq2;rw [Ac el] at rr
 refine n9 rr λv1 v2 z r1 r2=>?_;subst z;refine (?_:wpAny _ A (unpackItems (.ref l) (#[v1,v2]:Array Value).size none) _ _ _);refine PyProof.Rows.unpackItems_tuple R.handled hp λh' he=>?_;have hk:=hZ he
 show wpAny _ A (assignInOrder [λv=>bindName env y v,λv=>bindName env x v] [v2,v1]) _ _ _
 exact D1 (ki (λzz zz h=>wpAny_bindName h) hy (I1.keeps (tk:=s1.toks) hk) (F1.keeps I1 hk) (aV.keeps (tk:=s1.toks) hk).up (.cons (r2.keeps hk) (.cons (r1.keeps hk) (aw.nil _ _))) λzz zz I F S r=>ki (λzz zz h=>wpAny_bindName h) hx I F S r λzz zz I F S r=>kO I F S r) (λzz zz st=>kt S1.up st) λzz zz x=>x
theorem rR{l:Addr}{k:Int}{t:Tok}{Q:Unit→Shared→Prop}(hp:s.heap.PlainList l items)
  (h0:0≤k) (hfit:k<2^63) (hn:k<items.size)
  (hQ:∀h',h'.PlainList l (items.setIfInBounds k.toNat v)→Lp l s.heap h'→Q () {s with heap:=h'}):
  wpAny (model prog w) A (setItem (.ref l) (.int k t) v) Q E s:=by
 have hl:=hp.isList;refine bP hp λne ho=>?_;unfold setItem
 try with_reducible refine Lc ?_
 first|refine zm (EY ?_)|skip
 refine zm (wpAny_sequenceKey hl.typeIs (by decide) ?_);refine zm (Jq (name:=Ku "__setitem__") hl.typeIs slot_list_setitem
  (Lj slot_list_setitem hl.typeIs entry_list_setitem ?_ (args_list_setitem _ _ _)))
 refine (?_:wpAny _ _ (Builtin.List.listSubscript? (.int k t)>>=_) _ _ s);refine zm (wpAny_listSubscript_int (fitsIndex_of h0 hfit) ?_);clear hfit;refine bP (Lg h0) λj zq1=>?_;subst zq1;have hj:j<items.size:=by lia
 have hx':items[j]? =some items[j]:=Nl hj
 show wpAny _ _ ((seqItemAt l j>>= λr=>pure (r.map (j,·)))>>=_) _ _ s
 refine zm (zm (wpAny_seqItemAt ho rfl (EY ?_)));rw [hx'];refine (?_:wpAny _ _ (setSeqItemAt l j v>>=_) _ _ s);have hfin:∃n',(s.heap.update l (M7 (·.setIfInBounds j v))).get? l=some {cls:=.type "list",data:=.seq (items.setIfInBounds j v) n'}:=by
  rw [Fw _ ho rfl];exact ⟨_,rfl⟩
 refine zm (wpAny_setSeqItemAt ho rfl ?_)
 first
  |exact zm (EY (EY (aZ .none rfl (EY (hQ _ hfin (L9 ..))))))
  |exact EY ⟨.none,rfl,EY (hQ _ hfin (L9 ..))⟩
noncomputable def liC:ah→Option (List PyData)
 | .live xs=>some xs
 |_=>none
theorem AR{o:Option ah}(h:o.bind liC=some xs):o=some (.live xs):=by
 cases o with
 |none=>exact cv h
 |some c=>
  cases c with
  |live _=>exact congrArg (λx=>some (ah.live x)) (Fi h)
  |_=>exact cv h
noncomputable def YQ(i:Nat)(k:Int)(d:PyData)(μ:List ah):Option (List ah):=bo (μ[i]?.bind liC) λxs=>if 0≤k∧k<xs.length∧k<2^63 then some (μ.set i (.live (xs.set k.toNat d))) else none
theorem E8{k:Int}{t:Tok}(I:bl C T α μ s)(ha:α[i]? =some a)(r:aJ s.heap (T++ai α μ) v d)(h:YQ i k d μ=some μ'):
  wpAny (model C.prog C.w) A (setItem (.ref a) (.int k t) v) (λzz s'=>bl C T α μ' s'∧aV [] α μ s α μ' s') E s:=by
 refine ax h λxs e h=>i9 h λhc h=>cA h (au (I.cells i a _ ha (AR e)) λitems hp rr=>?_);refine rR hp hc.1 hc.2.2 (by rw [show items.size=xs.length from by rw [←rr.length];simp];exact hc.2.1) λh' hpl hs=>?_;exact I.setCell (c:=.live (xs.set k.toNat d)) (h':=h') (tk:=s.toks) ha (AR e) rfl rfl (λb o q e=>(hs.2 b q).trans e) (bP hpl λk z=>⟨_,z⟩) λkd=>(aZ _ hpl (by
  rw [Array.toList_setIfInBounds];exact kd (rr.set _ r)))
end
theorem rN{M:Model}{o i:Expr}{Q:Unit→Shared→Prop}
 (h:wpAny M A (eval o env) (λov s₂=>wpAny M A (eval i env) (λiv s₃=>wpAny M A (setItem ov iv v) Q E s₃) E s₂) E s):wpAny M A (assign (.Subscript o i pos) env v) Q E s:=kas_sub h
noncomputable def xu(fo fi:EF)(d:PyData):d5→List ah→Option (List ah):= λρ μ=>bp (fo ρ μ) λV μ1=>bo (Fk V) λi=>bp (fi ρ μ1) λW μ2=>bo (jM W) λk=>YQ i k d μ2
def Tp(fv fo fi:EF):SF:= λρ μ=>bp (fv ρ μ) λV μ1=>bo (vd V) λd=>bo (xu fo fi d ρ μ1) λμ2=>some (.next,ρ,μ2)
def IP(fv fo fi fo' fi':EF):SF:= λρ μ=>bp (fv ρ μ) λV μ1=>bo (GX V) λds=>bp (l2 ds) λa b=>bo (xu fo fi a ρ μ1) λμ2=>bo (xu fo' fi' b ρ μ2) λμ3=>some (.next,ρ,μ3)
section
theorem qK{o i:Expr}(ho:ab C n cx o fo)(hi:ab C n cx i fi){Q:Unit→Shared→Prop}(R:cR A n)(I:bl C T α μ s)(F:bi C cx env O ρ s.heap α (T++ai α μ))
  (r:aJ s.heap (T++ai α μ) v d) (h:xu fo fi d ρ μ=some μ') (k:∀α' s',bl C T α' μ' s'→aV [] α μ s α' μ' s'→bi C cx env O ρ s'.heap α' (T++ai α' μ')→Q () s'):
  wpAny (model C.prog C.w) A (eval o env) (λov s₂=>wpAny (model C.prog C.w) A (eval i env) (λiv s₃=>wpAny (model C.prog C.w) A (setItem ov iv v) Q E s₃) E s₂) E s:=by
 refine aD h λV μ1 e1 h=>ax h λj ej h=>aD h λW μ2 e2 h=>ax h λkk ek h=>oq ho hi R I F e1 e2 λa b s2 α2 I2 S2 ra rb=>?_;refine au (IY ej ra) λad ha z=>bP (fN ek rb) λt z1=>?_;subst z;subst z1;exact D1 (E8 I2 ha (aJ.step0 (T:=T) r S2) h) (λzz s3 p=>k α2 s3 p.1 (S2.trans p.2) (F.step I (S2.trans p.2))) λzz zz x=>x
theorem TJ{o i:Expr}{pos':Pos}{fv:EF}(hv:ab C n cx e fv)(ho:ab C n cx o fo)(hi:ab C n cx i fi)(hs:∀env,swapsWith e (some (.Subscript o i pos')) pos.line env=pure false):aQ C n cx (.Assign [.Subscript o i pos'] e pos) (Tp fv fo fi):=by
 refine .of ?_;intro A env O T ρ α μ s E fl ρ' μ' R I F h;refine aD h λV μ1 e1 h=>ax h λd ed h=>ax h λμ2 e2 h=>gj h (wpAny_Assign_Subscript (hv.goF R I F e1 λv s1 α1 I1 S1 F1 r1=>?_) (hs env));rw [iO ed] at r1
 exact qK ho hi R I1 F1 r1 e2 λα2 s2 I2 S2 F2=>d4 α2 I2 (S1.up.trans S2.up) F2 rfl
theorem NW{o i o' i':Expr}{p1 p2:Pos}{fv fo' fi':EF}(hv:ab C n cx e fv)(ho:ab C n cx o fo)(hi:ab C n cx i fi)(ho':ab C n cx o' fo')(hi':ab C n cx i' fi')
  (hs:∀env,swapsWithSole [.Tuple [.Subscript o i p1,.Subscript o' i' p2] kk tp] e pos.line env=pure false) (hw:∀env,swappedStores [.Tuple [.Subscript o i p1,.Subscript o' i' p2] kk tp] e env=pure none):
  aQ C n cx (.Assign [.Tuple [.Subscript o i p1,.Subscript o' i' p2] kk tp] e pos) (IP fv fo fi fo' fi'):=by
 refine .of ?_;intro A env O T ρ α μ s E fl ρ' μ' R I F h;refine aD h λV μ1 e1 h=>ax h λds ed h=>aD h λa b el h=>ax h λμ2 e2 h=>ax h λμ3 e3 h=>gj h (Assign_Tuple (hv.goF R I F e1 λv s1 α1 I1 S1 F1 r1=>?_) (hs env) (hw env));refine bm (Kd ed r1) λl items zq2 hp rr=>?_;subst zq2;rw [Ac el] at rr
 refine n9 rr λv1 v2 z r1 r2=>?_;subst z;refine Td R.handled hp rfl rfl λh' he=>?_;have hk:=hZ he;refine PZ (rN (qK ho hi R (I1.keeps (tk:=s1.toks) hk) (F1.keeps I1 hk) (r1.keeps hk) e2 λα4 s4 I4 S4 F4=>?_));have r2':aJ s4.heap (T++ai α4 μ2) v2 b:=aJ.step0 (s:= {s1 with heap:=h'}) (T:=T) (r2.keeps hk) S4;exact PZ (rN (qK ho' hi' R I4 F4 r2' e3 λα5 s5 I5 S5 F5=>assignInOrder_nil (d4 α5 I5 ((S1.trans ((aV.keeps (tk:=s1.toks) hk).trans (S4.trans S5))).up) F5 rfl)))
end
def kI(i:Int):EF:= λzz μ=>some (.d (.int i),μ)
def kS(x:Str):EF:= λzz μ=>some (.d (.str x),μ)
def kB(b:Bool):EF:= λzz μ=>some (.d (.bool b),μ)
def kN:EF:= λzz μ=>some (.d .none,μ)
def kT(T:String):EF:= λzz μ=>some (.ty T,μ)
section
theorem am{i:Int}:ab C n cx (.Constant (.int i) k pos) (kI i):=Th
theorem bT:ab C n cx (.Constant (.str x) k pos) (kS x):=J7
theorem dj{b:Bool}:ab C n cx (.Constant (.bool b) k pos) (kB b):=OB
theorem zQ:ab C n cx (.Constant .none k pos) kN:=Nx
noncomputable def UF:Expr→Bool| .Starred .. =>true|_=>false
theorem OZ(h:UF e=false):∀env,starEach (e::es) env=(false,eval e env)::starEach es env:=by
 intro env;cases e<;>first|rfl|cases h
theorem ag(h:UF e=false)(he:ab C n cx e f)(hs:dg C n cx es fs):dg C n cx (e::es) (f::fs):=dF (OZ h) he hs
noncomputable def MB(cx:Cx)(x:Str)(i:Nat):Bool:=decide (cx.names[i]? =some (x,1))&&(cx.scope.names.lookup x==some .local)&&(cx.scope.kind== .function)&&!(x==("__debug__":Str))
theorem GA(h:MB cx x i=true)(k:cx.names[i]? =some (x,1)→cx.scope.names.lookup x=some .local→cx.scope.kind=.function→(x==("__debug__":Str))=false→G):G:=by
 unfold MB at h
 simp only [Fe,MV,beq_iff_eq,decide_eq_true_eq] at h
 exact k h.1.1.1 h.1.1.2 h.1.2 (by simpa using h.2)
theorem ba(i:Nat)(h:MB cx x i=true):ab C n cx (.Name x pos) (a9 i):=GA h λa b c d=>qW i a b c d
theorem bu(i:Nat)(h:MB cx x i=true):aA C cx x i:=GA h λa b c zz=>uA i a b c
def CG(f g h:EF)(o o':AV→AV→List ah→Option Bool):TF:= λρ μ=>bp (f ρ μ) λa μ1=>bp (g ρ μ1) λb μ2=>bo (o a b μ2) λr=>cond r (bp (h ρ μ2) λc μ3=>bo (o' b c μ3) λr=>some (r,μ3)) (some (false,μ2))
theorem gP.go{op:CmpOp}{o:AV→AV→List ah→Option Bool}{a b:Value}{Va Vb:AV}{r:Bool}{Q:Bool→Shared→Prop}(ho:gP C n op o)(R:cR A n)(I:bl C T α μ s)(ra:bq s.heap α (T++ai α μ) a Va)(rb:bq s.heap α (T++ai α μ) b Vb)(h:o Va Vb μ=some r)
  (k:∀tk,bl C T α μ {s with toks:=tk}→aV [] α μ s α μ {s with toks:=tk}→Q r {s with toks:=tk}):wpAny (model C.prog C.w) A (compareOp op a b) (λv s3=>wpAny (model C.prog C.w) A (truthy v) Q E s3) E s:=
 D1 (ho A T α μ s E a b Va Vb r R I ra rb h) (λv s3 p=>yU p λz tk z2=>by subst z;subst z2;exact P1 (k tk (I.keeps (h':=s.heap) λzz zz e=>e) (aV.keeps (h':=s.heap) λzz zz e=>e))) λzz zz x=>x
theorem Vg{Z:Type}{x y z:Z}(h:cond true x y=z):x=z:=h
theorem Ol{l r r':Expr}{op op':CmpOp}{h:EF}{o o':AV→AV→List ah→Option Bool}(hl:ab C n cx l f)(hr:ab C n cx r g)(hr':ab C n cx r' h)(ho:gP C n op o)(ho':gP C n op' o')(hm:lastMarks [op,op'] [r,r']=false):
  gO C n cx (.Compare l [op,op'] [r,r'] pos) (CG f g h o o'):=by
 refine .of ?_;intro A env O T ρ α μ s E b μ' R I F q;refine aD q λVa μ1 e1 q=>aD q λVb μ2 e2 q=>ax q λr e3 q=>?_;have two:=oq (E:=E) (Q:= λa b s2=>∃α2,bl C T α2 μ2 s2∧aV [] α μ s α2 μ2 s2∧bq s2.heap α2 (T++ai α2 μ2) a Va∧bq s2.heap α2 (T++ai α2 μ2) b Vb) hl hr R I F e1 e2 λa b s2 α2 I2 S2 ra rb=>(d4 α2 I2 S2 ra rb);refine isTrue_chain (D1 two (λa s1 p1=>test_link (D1 p1 (λb2 s2 p2=>eA p2 λα2 I2 S2 ra rb=>ho.go R I2 ra rb e3 λtk I3 S3=>?_) λzz zz x=>x)) λzz zz x=>x) hm;cases r with
 |true=>
  refine aD (Vg q) λVc μ3 e4 q=>ax q λb' e5 q=>cm q ?_;have F3:bi C cx env O ρ (QX {s2 with toks:=tk}) α2 (T++ai α2 μ2):=F.step I (S2.trans S3);rw [if_pos rfl];exact test_last (hr'.go R I3 F3 e4 λc s4 α4 I4 S4 rc=>ho'.go R I4 ((rb.step0 S3).step0 S4) rc e5 λtk' I5 S5=>gS rfl α4 I5 (S2.trans (S3.trans (S4.trans S5))))
 |false=>
  refine cm q ?_;rw [if_neg HJ];exact gS rfl α2 I3 (S2.trans S3)
end
noncomputable def SI(cx:Cx)(scope:Scope):Bool:=wv cx scope&&(scope.names.all λy=>y.2 != .cell)&&(scope.kind== .function)&&decide ((((bR cx scope).names.filter λp=>p.2==1).map (·.1)).Nodup)&&(scope.names.all λx=>x.2 != .local||scope.names.lookup x.1==some .local)
theorem ZP{l:List (Str×Nat)}:((l.filter λp=>p.2==1).map (·.1)).Nodup→∀ (i j:Nat) x,l[i]? =some (x,1)→l[j]? =some (x,1)→i=j:=by
 induction l with
 |nil=>intro _ i j x h;simp at h
 |cons p l ih=>
  intro h i j x h1 h2;obtain ⟨y,k⟩:=p
  by_cases hk:k=1
  ·subst hk
   simp only [KP,beq_self_eq_true,if_true,F9,KF] at h
   have nm:∀ (m:Nat),l[m]? =some (y,1)→False:= λm e=>h.1 (Dc.mpr (aZ (y,1) (Ov.mpr ⟨GR e,rfl⟩) rfl));cases i with
   |zero=>
    simp at h1;subst h1
    cases j with
    |zero=>rfl
    |succ j=>exact (nm j (by simpa using h2)).elim
   |succ i=>
    cases j with
    |zero=>simp at h2;subst h2;exact (nm i (by simpa using h1)).elim
    |succ j=>rw [ih h.2 i j x (by simpa using h1) (by simpa using h2)]
  ·have hk':(k==1)=false:=by simpa using hk
   simp only [KP,hk',Oz,if_false] at h
   cases i with
   |zero=>simp at h1;exact (hk h1.2).elim
   |succ i=>
    cases j with
    |zero=>simp at h2;exact (hk h2.2).elim
    |succ j=>rw [ih h i j x (by simpa using h1) (by simpa using h2)]
theorem bw{ifs:List Expr}{rest:List Comprehension}{K:Value→Env→Sem Fin→Sem Fin}
  (hB:SI cx scope=true) (h2:2≤n) (hs:∀env x,foldedSetIterable iter env x=pure x) (turn:gI elt (⟨target,iter,ifs,0⟩::rest) scope pos 0 target iter ifs K) (it:mM C n cx iter tup itf) (tg:nN C (bR cx scope) target tup tf) (ts:j3 C n (bR cx scope) ifs t) (ck:lE C n (bR cx scope) K cf):
  Ci C n cx elt target iter ifs rest scope pos itf tf (c_ t cf):=by
 unfold SI at hB
 simp only [Fe,beq_iff_eq,decide_eq_true_eq] at hB
 refine f_ hB λz h6=>f_ z λz h5=>f_ z λz h4=>f_ z λh1 h3=>?_;refine ⟨(oG tup t cf K rfl turn tg ts ck it),h1,λy hy=>?_,h4,ZP h5,λx hx hl=>?_,hs,h2⟩
 ·simpa using AP.mp h3 y hy
 ·simpa [hl] using AP.mp h6 x hx
noncomputable def dA:List Stmt→Nat→Stmt
 |s::_,0=>s
 |_::r,k+1=>dA r k
 | [],_=>.Pass ⟨0,0,0,0⟩
noncomputable def aq:Stmt→List Stmt
 | .FunctionDef _ _ b _ _ _ _ _ _ _=>b
 |_=>[]
noncomputable def ao:Stmt→Scope
 | .FunctionDef _ _ _ _ _ _ s _ _ _=>s
 |_=> {kind:=.function,names:=[],isGenerator:=false,isCoroutine:=false,more:=[]}
noncomputable def mj:Stmt→Arguments
 | .FunctionDef _ a _ _ _ _ _ _ _ _=>a
 |_=> {posonlyargs:=[],args:=[],vararg:=none,kwonlyargs:=[],kw_defaults:=[],kwarg:=none,defaults:=[]}
noncomputable def ay(k:Nat):Stmt:=dA MH.main.body k
noncomputable def jO(names:List (Str×NameKind)):Scope:= {kind:=.function,names:=names,isGenerator:=false,isCoroutine:=false,more:=[]}
def dp(C:gL)(x:Str)(k:Nat):Prop:=∃fa o pm cd doc,C.mg x=some (.ref fa)∧C.B.get? fa=some o∧o.data=.func (O9 x (mj (ay k)) (aq (ay k)) (ao (ay k)) pm cd doc)∧C.B.CodeRec cd x
def aI(C:gL)(n:Nat)(x:Str)(spec:a_):Prop:=∃fa o fd,C.mg x=some (.ref fa)∧C.B.get? fa=some o∧o.data=.func fd∧eH C n (.ref fa) spec
def gT(C:gL)(n:Nat)(x:Str)(spec:iX):Prop:=∃fa o fd,C.mg x=some (.ref fa)∧C.B.get? fa=some o∧o.data=.func fd∧iA C n (.ref fa) true spec
section
variable {m:Nat} {ispec:iX}
theorem aI.mono(h:aI C n x spec)(hm:n≤m):aI C m x spec:=by
 refine dk h λfa o fd h1 h2 h3 h4=>?_;exact (dE fa o fd h1 h2 h3 (λA T α μ s E vs Vs V μ' R I r q=>h4 A T α μ s E vs Vs V μ' (R.mono hm) I r q))
theorem gT.mono(h:gT C n x ispec)(hm:n≤m):gT C m x ispec:=by
 refine dk h λfa o fd h1 h2 h3 h4=>?_;exact (dE fa o fd h1 h2 h3 (λA T α μ s E vs Vs xs g μ' R I r q=>h4 A T α μ s E vs Vs xs g μ' (R.mono hm) I r q))
theorem ci(h:aI C n x spec)(ha:dg C n cx (e::es) fs)(hs:∀env,starEach (e::es) env=(false,eval e env)::starEach es env)
  (hl:cx.scope.names.lookup x=some .globalImplicit) (hk:cx.scope.kind=.function) (hdb:(x==("__debug__":Str))=false):ab C n cx (.Call (.Name x xp) (e::es) [] pos) (af fs spec):=by
 refine dk h λfa o fd h1 h2 h3 h4=>?_;exact MJ h1 h2 h3 h4 ha hs hl hk hdb
theorem z6(h:gT C n x ispec)(ha:dg C n cx (e::es) fs)(hs:∀env,starEach (e::es) env=(false,eval e env)::starEach es env)
  (hl:cx.scope.names.lookup x=some .globalImplicit) (hk:cx.scope.kind=.function) (hdb:(x==("__debug__":Str))=false):mM C n cx (.Call (.Name x xp) (e::es) [] pos) true (c9 fs ispec):=by
 refine dk h λfa o fd h1 h2 h3 h4=>?_;exact Mf h1 h2 h3 h4 ha hs hl hk hdb
theorem y9{i:Int}(hg:∃t,C.mg x=some (.int i t))(hl:cx.scope.names.lookup x=some .globalImplicit)(hk:cx.scope.kind=.function)(hd:(x==("__debug__":Str))=false):ab C n cx (.Name x pos) (kI i):=by
 refine bP hg λt h=>?_;exact Ob h hl hk hd
theorem gU{f:SF}(ps:List Str)(h:dp C x k)(hb:cD C n (dh (ao (ay k))) (aq (ay k)) f)
  (hbind:∀ (pm cd doc:Value) (args:List Value),args.length=ps.length→bindArgs (O9 x (mj (ay k)) (aq (ay k)) (ao (ay k)) pm cd doc) ⟨args,[]⟩=pure (ps.zip args))
  (hnd:decide (((ao (ay k)).names.map (·.1)).Nodup)=true) (hps:((dh (ao (ay k))).names.map (·.1)).take ps.length=ps) (hco:(ao (ay k)).isCoroutine=false) (hgen:(ao (ay k)).isGenerator=false) (hk:(ao (ay k)).kind=.function):
  aI C (n+1) x (cC ps.length (ao (ay k)) f):=by
 refine ft h λfa o pm cd doc h1 h2 h3 h4=>?_;exact (dE fa o _ h1 h2 h3 (YN ps h2 h3 h4 (hbind pm cd doc) (of_decide_eq_true hnd) hps hco hgen hk hb))
end
noncomputable def k9(x:Str):Option Int:=([("|",18),("*",16),("(",7),(")",8)]:List (Str×Int)).lookup x
noncomputable def rW(k:Int):Option Str:=([(1,"OPTIMIZED"),(2,"NEWLOCALS"),(4,"VARARGS"),(8,"VARKEYWORDS"),(16,"NESTED"),(32,"GENERATOR"),(64,"NOFREE"),(128,"COROUTINE"),(256,"ITERABLE_COROUTINE"),(512,"ASYNC_GENERATOR")]:List (Int×Str)).lookup k
structure cK (C:gL):Prop where
 no:∀x:Str,((["len","min","range","enumerate","zip","list","sum","iter","next","sorted","isinstance","hex","int","bool","StopIteration"]:List Str).contains x)=true→C.mg x=none
 ext:∃d m,C.mg "EXACT_TOKEN_TYPES"=some (.ref d)∧C.B.MapOf (strKind C.prog C.w) d m∧∀y i,k9 y=some i→∃t,m y=some (.int i t)
 cfn:∃d m,C.mg "COMPILER_FLAG_NAMES"=some (.ref d)∧C.B.MapOf (intKind C.prog C.w) d m∧(∀k,(∃y t,rW k=some y∧m k=some (.str y t))∨(rW k=none∧m k=none))∧(d==sysModules)=false
 nt:∃t,C.mg "NT_OFFSET"=some (.int 256 t)
 em:∃t,C.mg "ENDMARKER"=some (.int 0 t)
section
variable {ispec:iX}
theorem kb{y:Str}(h:(x==y)=false):x≠y:=by simpa using h
theorem ct(hg:C.mg x=none)(hb:bootBuiltins x=some fv)(hx:(x==("__name__":Str))=false)(hn:kY fv)(hf:eH C n fv spec)
 (ha:dg C n cx (e::es) fs) (hs:∀env,starEach (e::es) env=(false,eval e env)::starEach es env) (hp:∀env,(backTo pos (starEach (e::es) env)).any (·.1)=false)
 (hl:cx.scope.names.lookup x=some .globalImplicit) (hk:cx.scope.kind=.function) (hdb:(x==("__debug__":Str))=false):
 ab C n cx (.Call (.Name x xp) (e::es) [] pos) (af fs spec):=UY hg hb (kb hx) hn hf ha hs hp hl hk hdb
theorem kz(hg:C.mg x=none)(hb:bootBuiltins x=some fv)(hx:(x==("__name__":Str))=false)(hn:kY fv)(hf:iA C n fv tup ispec)
 (ha:dg C n cx (e::es) fs) (hs:∀env,starEach (e::es) env=(false,eval e env)::starEach es env) (hp:∀env,(backTo pos (starEach (e::es) env)).any (·.1)=false)
 (hl:cx.scope.names.lookup x=some .globalImplicit) (hk:cx.scope.kind=.function) (hdb:(x==("__debug__":Str))=false):
 mM C n cx (.Call (.Name x xp) (e::es) [] pos) tup (c9 fs ispec):=Tm hg hb (kb hx) hn hf ha hs hp hl hk hdb
theorem Zo{T:String}(hg:C.mg x=none)(hb:bootBuiltins x=some (.type T))(hx:(x==("__name__":Str))=false)(hl:cx.scope.names.lookup x=some .globalImplicit)(hk:cx.scope.kind=.function)(hd:(x==("__debug__":Str))=false):
 ab C n cx (.Name x pos) (kT T):=Zj hg hb (kb hx) hl hk hd
theorem JK(G:cK C)(hf:ab C n cx e g)(hs:∀o i,subscripted e false o i=operate [o,i] (getItem o i))(hl:cx.scope.names.lookup ("EXACT_TOKEN_TYPES":Str)=some .globalImplicit)(hk:cx.scope.kind=.function):
  ab C n cx (.Subscript (.Name "EXACT_TOKEN_TYPES" xp) e pos) (jF k9 g):=by
 refine bm G.ext λd m h1 h2 h3=>?_;exact Oo h1 h2 h3 hf hs hl hk ∅
theorem ab4(G:cK C)(hmeth:nP (.Name "COMPILER_FLAG_NAMES" xp) "get" apos [e1,e2] pos)(hf:ab C n cx e1 f)(hg2:ab C n cx e2 g)
  (hs:∀env,backTo pos (starEach [e1,e2] env)=[(false,eval e1 env),(false,eval e2 env)]) (hl:cx.scope.names.lookup ("COMPILER_FLAG_NAMES":Str)=some .globalImplicit) (hk:cx.scope.kind=.function):
  ab C n cx (.Call (.Attribute (.Name "COMPILER_FLAG_NAMES" xp) "get" apos) [e1,e2] [] pos) (sB rW f g):=by
 refine kZ G.cfn λd m h1 h2 h3 h4=>?_;exact Pr hmeth h1 h2 h3 h4 hf hg2 hs hl hk ∅
end
theorem jG{α:Type}{P:List α→Prop}(h:∀a,P [a]):∀l:List α,l.length=1→P l
 | [a],_=>h a
 | [],h=>by simp at h
 |_::_::_,h=>by simp at h
theorem KM{α:Type}{P:List α→Prop}(h:∀a b,P [a,b]):∀l:List α,l.length=2→P l
 | [a,b],_=>h a b
 | [],h=>by simp at h
 | [_],h=>by simp at h
 |_::_::_::_,h=>by simp at h
theorem SE{α:Type}{P:List α→Prop}(h:∀a b c,P [a,b,c]):∀l:List α,l.length=3→P l
 | [a,b,c],_=>h a b c
 | [],h=>by simp at h
 | [_],h=>by simp at h
 | [_,_],h=>by simp at h
 |_::_::_::_::_,h=>by simp at h
theorem Ri{α:Type}{P:List α→Prop}(h:∀a b c d,P [a,b,c,d]):∀l:List α,l.length=4→P l
 | [a,b,c,d],_=>h a b c d
 | [],h=>by simp at h
 | [_],h=>by simp at h
 | [_,_],h=>by simp at h
 | [_,_,_],h=>by simp at h
 |_::_::_::_::_::_,h=>by simp at h
theorem DV{a b c d x y:Expr}{p q vp:Pos}{k':Nat}:∀env,swappedStores [.Tuple [.Subscript a b p,.Subscript c d q] k tp] (.Tuple [x,y] k' vp) env=pure none:=by
 have gen:∀ (b c:Bool),(if b=true then pure none else if c=true then pure none else pure none:Sem (Option (List Str)))=pure none:= λb c=>by cases b<;>cases c<;>rfl
 exact λenv=>gen _ _
theorem vr{y:Str}{vp:Pos}{k':Nat}(hk:cx.scope.kind=.function)(h1:cx.scope.names.lookup x=some .local)(h2:cx.scope.names.lookup y=some .local)(hxy:(x==y)=false)(hline:(px.line==py.line)=true)
  (hs:[e1,e2].any UF=false) (hf:[e1,e2].all (foldedForSure 8)=false) (hc:[e1,e2].all (constantsAlone 8)=false):
  ∀env,env.scope=cx.scope→swappedStores [.Tuple [.Name x px,.Name y py] k tp] (.Tuple [e1,e2] k' vp) env=pure (some [x,y]):=by
 intro env he;have hb:env.blockKind=.function:=by unfold Env.blockKind;rw [he,hk];rfl
 have k1:env.kindOf x=some .local:=by unfold JH;rw [he];exact h1
 have k2:env.kindOf y=some .local:=by unfold JH;rw [he];exact h2
 have hne:x≠y:=by simpa using hxy
 have hlen:([x,y]:List Str).eraseDups.length=2:=by
  simp [List.eraseDups_cons,show (y==x)=false by simpa using hne.symm]
 have gen:∀ (b s:Bool) (names:List Str) (f c:Bool) (u:Sem PUnit),b=false→s=false→names=[x,y]→f=false→c=false→
   (if b=true then pure none else if s=true then pure none else if (names.length != 2||names.eraseDups.length != names.length)=true then pure none else if f=true then pure none else if c=true then u>>= λzz=>pure (some names) else pure (some names):Sem (Option (List Str)))=pure (some [x,y]):=by
  intro b s names f c u hb hs hn hf hc;rw [hb,hs,hn,hf,hc,hlen];rfl
 refine gen _ _ _ _ _ _ ?_ hs ?_ hf hc
 ·rw [hb];rfl
 ·refine (M6 (b:=x) ?_).trans (congrArg (x:: ·) ((M6 (b:=y) ?_).trans (congrArg (y:: ·) List.filterMap_nil)))
  ·exact (if_pos (by rw [k1];exact beq_self_eq_true px.line):(if (env.kindOf x==some .local&&px.line==px.line)=true then some x else none)=some x)
  ·exact (if_pos (by rw [k2,show py.line=px.line from (eq_of_beq hline).symm];exact beq_self_eq_true px.line):(if (env.kindOf y==some .local&&py.line==px.line)=true then some y else none)=some y)
noncomputable def eC:List Nat→Nat→Bool→List PyData
 | [],pos,true=>[.tuple [.int ((pos:Int)-1),.str ⟨#[92]⟩]]
 | [],_,false=>[]
 |c::r,pos,true=>.tuple [.int pos,.str ⟨#[92,c]⟩]::eC r (pos+1) false
 |c::r,pos,false=>if c=92 then eC r (pos+1) true else .tuple [.int pos,.str ⟨#[c]⟩]::eC r (pos+1) false
theorem xY{c:Nat}{r:List Nat}:eC (c::r) p false=if c=92 then eC r (p+1) true else .tuple [.int p,.str ⟨#[c]⟩]::eC r (p+1) false:=rfl
noncomputable def aE:iX:= λVs μ=>bo (l1 Vs) λV=>bo (mA V) λx=>some (eC x.cps.toList 0 false,none,μ)
def BE(C:gL)(n:Nat)(x:Str)(spec:iX):Prop:=∃fa o fd,C.mg x=some (.ref fa)∧C.B.get? fa=some o∧o.data=.func fd∧∀A T α μ s E vs Vs xs g μ',cR A n→bl C T α μ s→fj s.heap α (T++ai α μ) vs Vs→spec Vs μ=some (xs,g,μ')→xs.length≤sizeLine→
 wpAny (model C.prog C.w) A (call (.ref fa) vs) (λv s1=>wpAny (model C.prog C.w) A (call (.type "list") [v]) (bI C T α μ s μ' (.d (.list xs))) E s1) E s
def Ag(fs:List EF)(spec:iX):EF:= λρ μ=>bp (fh fs ρ μ) λVs μ1=>bp (spec Vs μ1) λxs p=>if xs.length≤sizeLine then some (.d (.list xs),p.2) else none
section
variable {ispec:iX}
theorem DS{lp lpos:Pos}(hg:C.mg "list"=none)(h:BE C n x ispec)(ha:dg C n cx (e::es) fs)(hs:∀env,starEach (e::es) env=(false,eval e env)::starEach es env)
  (hll:cx.scope.names.lookup ("list":Str)=some .globalImplicit) (hl:cx.scope.names.lookup x=some .globalImplicit) (hk:cx.scope.kind=.function) (hdb:(x==("__debug__":Str))=false):
  ab C n cx (.Call (.Name "list" lp) [.Call (.Name x xp) (e::es) [] pos] [] lpos) (Ag fs ispec):=by
 refine dk h λfa o fd h1 h2 h3 h4=>?_;refine .of ?_;intro A env O T ρ α μ s E V μ' R I F q;refine aD q λVs μ1 e1 q=>aD q λxs p e2 q=>i9 q λhsz q=>cm q ?_;refine (?_:wpAny _ A (do callWith lpos (←eval (.Name "list" lp) env) [] (backTo lpos (starEach [.Call (.Name x xp) (e::es) [] pos] env)) []) _ _ s);refine zm (Fg (by rw [F.sc];exact hk) (by unfold JH;rw [F.sc];exact hll) (Lu (by rw [F.gl];exact C.g.keeps I.keep) hg (by rw [F.bn];exact C.b.keeps I.keep) ((C.bt _ (by decide+kernel)).trans (∅ :bootBuiltins "list"=some (.type "list"))) ?_) ∅);refine bD "list" _ _ _ _ _ _ _ _ ∅ ?_
 refine Sw (RL ?_);refine (?_:wpAny _ A (do callWith pos (←eval (.Name x xp) env) [] (backTo pos (starEach (e::es) env)) []) _ _ s);refine zm (Fg (by rw [F.sc];exact hk) (by unfold JH;rw [F.sc];exact hl) (Ll (by rw [F.gl];exact C.g.keeps I.keep) h1 ?_) hdb);refine MU (o:=o) (fd:=fd) (eh (hs env) ha R I F e1 λvs s1 α1 I1 S1 r1=>⟨⟨I1.keep _ _ h2,h3⟩,?_⟩);refine D1 (h4 A T α1 μ1 s1 E vs Vs xs p.1 p.2 R I1 r1 e2 hsz) (λv s2 pp=>SJ ?_) λzz zz x=>x;exact D1 pp (λw s3 p=>bI.trans S1 p) λzz zz x=>x
theorem tV(h:dp C x k):aI C n x (λzz zz=>none):=by
 refine ft h λfa o pm cd doc h1 h2 h3 h4=>?_;exact (dE fa o _ h1 h2 h3 (λA T α μ s E vs Vs V μ' R I r q=>by exact cv q))
end
section
abbrev Tv:Cx:=dh (ao (ay 61))
theorem YT:ab C n Tv (.Name "x" pos) (a9 0):=ba 0 ∅
def Qc:SF:=(fe (dZ (a9 0) (kI 256) (ef λx y=>decide (x<y))))
theorem IR(G:cK C)(h2:2≤n):aQ C n Tv (dA (aq (ay 61)) 0) Qc:=(da (fB YT (y9 G.nt ∅ ∅ ∅) rz ∅))
def f61:SF:=(ap Qc aP)
theorem b61(G:cK C)(h2:2≤n):cD C n Tv (aq (ay 61)) f61:=(ak (IR G h2) aN)
theorem c61(G:cK C)(h2:2≤n)(h:dp C "ISTERMINAL" 61):aI C (n+1) "ISTERMINAL" (cC 1 (ao (ay 61)) f61):=
 gU ["x"] h (b61 G h2) (λzz zz zz=>jG λzz=> ∅) ∅ ∅ ∅ ∅ ∅
noncomputable def co:a_:=cC 1 (ao (ay 61)) f61
abbrev VI:Cx:=dh (ao (ay 62))
theorem ZJ:ab C n VI (.Name "x" pos) (a9 0):=ba 0 ∅
def Sr:SF:=(fe (dZ (a9 0) (kI 256) (ef λx y=>decide (y≤x))))
theorem HX(G:cK C)(h2:2≤n):aQ C n VI (dA (aq (ay 62)) 0) Sr:=(da (fB ZJ (y9 G.nt ∅ ∅ ∅) Rs ∅))
def f62:SF:=(ap Sr aP)
theorem b62(G:cK C)(h2:2≤n):cD C n VI (aq (ay 62)) f62:=(ak (HX G h2) aN)
theorem c62(G:cK C)(h2:2≤n)(h:dp C "ISNONTERMINAL" 62):aI C (n+1) "ISNONTERMINAL" (cC 1 (ao (ay 62)) f62):=
 gU ["x"] h (b62 G h2) (λzz zz zz=>jG λzz=> ∅) ∅ ∅ ∅ ∅ ∅
noncomputable def bQ:a_:=cC 1 (ao (ay 62)) f62
abbrev Us:Cx:=dh (ao (ay 63))
theorem ZF:ab C n Us (.Name "x" pos) (a9 0):=ba 0 ∅
def Qz:SF:=(fe (dZ (a9 0) (kI 0) dK))
theorem Iy(G:cK C)(h2:2≤n):aQ C n Us (dA (aq (ay 63)) 0) Qz:=(da (fB ZF (y9 G.em ∅ ∅ ∅) dR ∅))
def f63:SF:=(ap Qz aP)
theorem b63(G:cK C)(h2:2≤n):cD C n Us (aq (ay 63)) f63:=(ak (Iy G h2) aN)
theorem c63(G:cK C)(h2:2≤n)(h:dp C "ISEOF" 63):aI C (n+1) "ISEOF" (cC 1 (ao (ay 63)) f63):=
 gU ["x"] h (b63 G h2) (λzz zz zz=>jG λzz=> ∅) ∅ ∅ ∅ ∅ ∅
noncomputable def fx:a_:=cC 1 (ao (ay 63)) f63
abbrev rq:Cx:=dh (ao (ay 72))
theorem Of:aA C rq "one" 2:=eX 2 ∅ ∅ ∅
theorem Mr:aA C rq "two" 3:=eX 3 ∅ ∅ ∅
theorem Ej:ab C n rq (.Name "edges" pos) (a9 1):=ba 1 ∅
theorem jv:ab C n rq (.Name "labels" pos) (a9 0):=bE 0 2 ∅ (by decide) ∅ ∅ ∅
theorem Pa:ab C n rq (.Name "one" pos) (a9 2):=bE 2 2 ∅ (by decide) ∅ ∅ ∅
theorem Mj:ab C n rq (.Name "two" pos) (a9 3):=bE 3 2 ∅ (by decide) ∅ ∅ ∅
theorem zS:aA C rq "labels" 0:=eX 0 ∅ ∅ ∅
abbrev qA:Scope:=jO [(".0",.local),("label",.local),("labels",.free),("one",.free),("two",.free)]
abbrev r9:Cx:=bR rq qA
theorem wJ:aA C r9 "label" 4:=bu 4 ∅
theorem oQ:ab C n r9 (.Name "label" pos) (a9 4):=ba 4 ∅
theorem lT:ab C n r9 (.Name "labels" pos) (a9 0):=bE 0 3 ∅ (by decide) ∅ ∅ ∅
theorem DA:ab C n r9 (.Name "two" pos) (a9 3):=bE 3 3 ∅ (by decide) ∅ ∅ ∅
theorem EO:ab C n r9 (.Name "one" pos) (a9 2):=bE 2 3 ∅ (by decide) ∅ ∅ ∅
def AS:SF:=(jN (aK true (a9 1)) (jh 2 3) (ap (jE (bB (aF (a9 0) (a9 2)) (aF (a9 0) (a9 3)) dK) (ap (fe (aU [])) aP) aP) (ap (cb 0 (ce qA (aK false (a9 0)) (dz 4) (c_ bg (aY (dw (bB (a9 4) (aF (a9 0) (a9 3)) dK) (aF (a9 0) (a9 2)) (a9 4)))))) aP)) aP)
theorem Gh(G:cK C)(h2:2≤n):aQ C n rq (dA (aq (ay 72)) 0) AS:=(gu h2 (b_ Ej) (eY Of Mr) (ak (gb (cn (bj jv Pa (λzz zz=>rfl)) (bj jv Mj (λzz zz=>rfl)) dR ∅) (ak (da (bb ae)) aN) aN) (ak (bF (cF (bw ∅ h2 (λzz zz=>rfl) (bN _ _ _ _ _ _) (b_ jv) (bM wJ) cH (bZ (fW (cn oQ (bj lT DA (λzz zz=>rfl)) dR ∅) (bj lT EO (λzz zz=>rfl)) oQ)))) zS (pF ∅)) aN)) aN (λzz zz=>rfl))
def Jw:SF:=(fe (a9 0))
theorem FM(G:cK C)(h2:2≤n):aQ C n rq (dA (aq (ay 72)) 1) Jw:=(da jv)
def f72:SF:=(ap AS (ap Jw aP))
theorem b72(G:cK C)(h2:2≤n):cD C n rq (aq (ay 72)) f72:=(ak (Gh G h2) (ak (FM G h2) aN))
theorem c72(G:cK C)(h2:2≤n)(h:dp C "_law_joined" 72):aI C (n+1) "_law_joined" (cC 2 (ao (ay 72)) f72):=
 gU ["labels","edges"] h (b72 G h2) (λzz zz zz=>KM λzz zz=> ∅) ∅ ∅ ∅ ∅ ∅
noncomputable def df:a_:=cC 2 (ao (ay 72)) f72
abbrev oS:Cx:=dh (ao (ay 71))
theorem iT:ab C n oS (.Name "formula" pos) (a9 0):=ba 0 ∅
def sv(aW:a_):SF:=(jE (bB (af [(a9 0)] dC) (kI 2) dK) (ap (fe (aF (aF (a9 0) (kI 1)) (kI 0))) aP) aP)
theorem Kf{aW:a_}(G:cK C)(h2:2≤n):aQ C n oS (dA (aq (ay 71)) 0) (sv aW):=(gb (cn (ct (fv:=.builtin "len") (G.no _ ∅) ∅ ∅ (bf _) eW (ag rfl iT ae) (λzz=>rfl) (λzz=>rfl) ∅ ∅ ∅) am dR ∅) (ak (da (bj (bj iT am (λzz zz=>rfl)) am (λzz zz=>rfl))) aN) aN)
theorem I9:aA C oS "left" 2:=bu 2 ∅
theorem CN:aA C oS "right" 3:=bu 3 ∅
abbrev qx:Scope:=jO [(".0",.local),("part",.local),("_law_graph",.globalImplicit),("joins",.free)]
abbrev AC:Cx:=bR oS qx
theorem yF:aA C AC "part" 4:=bu 4 ∅
theorem y4:ab C n AC (.Name "part" pos) (a9 4):=ba 4 ∅
theorem xn:ab C n AC (.Name "joins" pos) (a9 1):=bE 1 3 ∅ (by decide) ∅ ∅ ∅
def Fx(aW:a_):SF:=(VG 2 3 (ce qx (aK false (cg (a9 0) (aL (kI 2)) b9)) (dz 4) (c_ bg (aY (af [(a9 4),(a9 1)] aW)))))
theorem GY{aW:a_}(G:cK C)(h2:2≤n)(h_law_graph:aI C n "_law_graph" aW):aQ C n oS (dA (aq (ay 71)) 1) (Fx aW):=(TR (cF (bw ∅ h2 (λzz zz=>rfl) (bN _ _ _ _ _ _) (b_ (dQ iT (cy am) dD)) (bM yF) cH (bZ (ci h_law_graph (ag rfl y4 (ag rfl xn ae)) (λzz=>rfl) ∅ ∅ ∅)))) I9 CN (λzz=>rfl) (λzz=>rfl))
theorem oo:ab C n oS (.Name "joins" pos) (a9 1):=bE 1 2 ∅ (by decide) ∅ ∅ ∅
theorem JQ:ab C n oS (.Name "left" pos) (a9 2):=ba 2 ∅
theorem Da:ab C n oS (.Name "right" pos) (a9 3):=ba 3 ∅
def Cy(aW:a_):SF:=(cj (eg (a9 1) (cW [(aF (a9 0) (kI 0)),(aj (kI 6) (af [(a9 1)] dC) aT),(a9 2),(a9 3)])))
theorem HW{aW:a_}(G:cK C)(h2:2≤n)(h_law_graph:aI C n "_law_graph" aW):aQ C n oS (dA (aq (ay 71)) 2) (Cy aW):=(cM (cz (λzz=>rfl) oo (cY (ag rfl (bj iT am (λzz zz=>rfl)) (ag rfl (av am (ct (fv:=.builtin "len") (G.no _ ∅) ∅ ∅ (bf _) eW (ag rfl oo ae) (λzz=>rfl) (λzz=>rfl) ∅ ∅ ∅) br) (ag rfl JQ (ag rfl Da ae))))) (λzz=>rfl)) ∅ (λzz=>rfl))
def Kh(aW:a_):SF:=(fe (aj (kI 5) (af [(a9 1)] dC) aT))
theorem KG{aW:a_}(G:cK C)(h2:2≤n)(h_law_graph:aI C n "_law_graph" aW):aQ C n oS (dA (aq (ay 71)) 3) (Kh aW):=(da (av am (ct (fv:=.builtin "len") (G.no _ ∅) ∅ ∅ (bf _) eW (ag rfl oo ae) (λzz=>rfl) (λzz=>rfl) ∅ ∅ ∅) br))
def f71(aW:a_):SF:=(ap (sv aW) (ap (Fx aW) (ap (Cy aW) (ap (Kh aW) aP))))
theorem b71{aW:a_}(G:cK C)(h2:2≤n)(h_law_graph:aI C n "_law_graph" aW):cD C n oS (aq (ay 71)) (f71 aW):=(ak (Kf G h2) (ak (GY G h2 h_law_graph) (ak (HW G h2 h_law_graph) (ak (KG G h2 h_law_graph) aN))))
theorem c71{aW:a_}(G:cK C)(h2:2≤n)(h_law_graph:aI C n "_law_graph" aW)(h:dp C "_law_graph" 71):aI C (n+1) "_law_graph" (cC 2 (ao (ay 71)) (f71 aW)):=
 gU ["formula","joins"] h (b71 G h2 h_law_graph) (λzz zz zz=>KM λzz zz=> ∅) ∅ ∅ ∅ ∅ ∅
noncomputable def Fq:Nat→a_
 |0=> λzz zz=>none
 |m+1=>cC 2 (ao (ay 71)) (f71 (Fq m))
theorem d71(G:cK C)(h2:2≤n)(h:dp C "_law_graph" 71):∀m,aI C (n+m) "_law_graph" (Fq m)
 |0=>tV h
 |m+1=>c71 G (L2 h2 (Fv ..)) (d71 G h2 h m) h
noncomputable def aW:a_:=Fq 12
abbrev Dk:Cx:=dh (ao (ay 8))
theorem YO:aA C Dk "b" 1:=bu 1 ∅
theorem iY:ab C n Dk (.Name "iterator" pos) (a9 0):=ba 0 ∅
def CP:SF:=(cb 1 (af [(a9 0)] kv))
theorem C4(G:cK C)(h2:2≤n):aQ C n Dk (dA (aq (ay 8)) 0) CP:=(bF (ct (fv:=.builtin "next") (G.no _ ∅) ∅ ∅ (bf _) BK (ag rfl iY ae) (λzz=>rfl) (λzz=>rfl) ∅ ∅ ∅) YO (λzz zz=> ∅))
theorem UD:aA C Dk "val" 2:=bu 2 ∅
theorem MI:ab C n Dk (.Name "b" pos) (a9 1):=ba 1 ∅
def Jr:SF:=(cb 2 (aj (a9 1) (kI 63) (aS λx y=>some (D3 x y))))
theorem Bu(G:cK C)(h2:2≤n):aQ C n Dk (dA (aq (ay 8)) 1) Jr:=(bF (av MI am qU) UD (λzz zz=> ∅))
def Pb:SF:=(j1 (gf (aj (a9 1) (kI 64) (aS λx y=>some (D3 x y)))) (ap (ik 2 (kI 6) rL) (ap (cb 1 (af [(a9 0)] kv)) (ap (ik 2 (aj (a9 1) (kI 63) (aS λx y=>some (D3 x y))) T9) aP))) 64)
theorem OH(G:cK C)(h2:2≤n):aQ C n Dk (dA (aq (ay 8)) 2) Pb:=(KV 64 (iD (λzz zz=>rfl) (av MI am qU)) (ak (nY (i:=2) ∅ ∅ ∅ am Ch) (ak (bF (ct (fv:=.builtin "next") (G.no _ ∅) ∅ ∅ (bf _) BK (ag rfl iY ae) (λzz=>rfl) (λzz=>rfl) ∅ ∅ ∅) YO (λzz zz=> ∅)) (ak (nY (i:=2) ∅ ∅ ∅ (av MI am qU) Wn) aN))))
theorem UE:ab C n Dk (.Name "val" pos) (a9 2):=ba 2 ∅
def UL:SF:=(fe (a9 2))
theorem Me(G:cK C)(h2:2≤n):aQ C n Dk (dA (aq (ay 8)) 3) UL:=(da UE)
def f8:SF:=(ap CP (ap Jr (ap Pb (ap UL aP))))
theorem b8(G:cK C)(h2:2≤n):cD C n Dk (aq (ay 8)) f8:=(ak (C4 G h2) (ak (Bu G h2) (ak (OH G h2) (ak (Me G h2) aN))))
theorem c8(G:cK C)(h2:2≤n)(h:dp C "_parse_varint" 8):aI C (n+1) "_parse_varint" (cC 1 (ao (ay 8)) f8):=
 gU ["iterator"] h (b8 G h2) (λzz zz zz=>jG λzz=> ∅) ∅ ∅ ∅ ∅ ∅
noncomputable def aR:a_:=cC 1 (ao (ay 8)) f8
abbrev Hu:Cx:=dh (ao (ay 7))
theorem Ki:aA C Hu "names" 1:=bu 1 ∅
def Nb:SF:=(cb 1 (n4 []))
theorem Pp(G:cK C)(h2:2≤n):aQ C n Hu (dA (aq (ay 7)) 0) Nb:=(bF (ju ae) Ki (λzz zz=> ∅))
theorem al7:aA C Hu "i" 2:=bu 2 ∅
theorem Oy:aA C Hu "flag" 3:=bu 3 ∅
theorem am7:ab C n Hu (.Name "i" pos) (a9 2):=ba 2 ∅
theorem qH:ab C n Hu (.Name "flags" pos) (a9 0):=ba 0 ∅
theorem pb:ab C n Hu (.Name "flag" pos) (a9 3):=ba 3 ∅
theorem pN:ab C n Hu (.Name "names" pos) (a9 1):=ba 1 ∅
def Ph:SF:=(jN (aK false (af [(kI 32)] cJ)) (dz 2) (ap (cb 3 (aj (kI 1) (a9 2) (aS DN))) (ap (jE (gf (aj (a9 0) (a9 3) (aS λx y=>some (D3 x y)))) (ap (cj (eg (a9 1) (sB rW (a9 3) (af [(a9 3)] oY)))) (ap (ik 0 (a9 3) B6) (ap (jE (tW (gf (a9 0))) (ap MD aP) aP) aP))) aP) aP)) (ap (cj (eg (a9 1) (af [(a9 0)] oY))) aP))
theorem Pg(G:cK C)(h2:2≤n):aQ C n Hu (dA (aq (ay 7)) 1) Ph:=(gu h2 (b_ (ct (fv:=.type "range") (G.no _ ∅) ∅ ∅ (bD _) dM (ag rfl am ae) (λzz=>rfl) (λzz=>rfl) ∅ ∅ ∅)) (bM al7) (ak (bF (av am am7 UA) Oy (λzz zz=> ∅)) (ak (gb (iD (λzz zz=>rfl) (av qH pb qU)) (ak (cM (cz (λzz=>rfl) pN (ab4 G (λzz=>rfl) pb (ct (fv:=.builtin "hex") (G.no _ ∅) ∅ ∅ (bf _) uM (ag rfl pb ae) (λzz=>rfl) (λzz=>rfl) ∅ ∅ ∅) (λzz=>rfl) ∅ ∅) (λzz=>rfl)) ∅ (λzz=>rfl)) (ak (nY (i:=0) ∅ ∅ ∅ pb NY) (ak (gb (Ic (iD (λzz zz=>rfl) qH)) (ak Vu aN) aN) aN))) aN) aN)) (ak (cM (cz (λzz=>rfl) pN (ct (fv:=.builtin "hex") (G.no _ ∅) ∅ ∅ (bf _) uM (ag rfl qH ae) (λzz=>rfl) (λzz=>rfl) ∅ ∅ ∅) (λzz=>rfl)) ∅ (λzz=>rfl)) aN) (λzz zz=>rfl))
def OI:SF:=(fe (dx (kS ", ") [(a9 1)] fc))
theorem Mz(G:cK C)(h2:2≤n):aQ C n Hu (dA (aq (ay 7)) 2) OI:=(da (fQ (λzz=>rfl) JZ Km g_ bT (ag rfl pN ae) (λzz=>rfl) (λzz=>rfl)))
def f7:SF:=(ap Nb (ap Ph (ap OI aP)))
theorem b7(G:cK C)(h2:2≤n):cD C n Hu (aq (ay 7)) f7:=(ak (Pp G h2) (ak (Pg G h2) (ak (Mz G h2) aN)))
theorem c7(G:cK C)(h2:2≤n)(h:dp C "pretty_flags" 7):aI C (n+1) "pretty_flags" (cC 1 (ao (ay 7)) f7):=
 gU ["flags"] h (b7 G h2) (λzz zz zz=>jG λzz=> ∅) ∅ ∅ ∅ ∅ ∅
noncomputable def cO:a_:=cC 1 (ao (ay 7)) f7
abbrev l9:Cx:=dh (ao (ay 66))
theorem yt:aA C l9 "octets" 3:=bu 3 ∅
def FH:SF:=(cb 3 (n4 []))
theorem FB(G:cK C)(h2:2≤n):aQ C n l9 (dA (aq (ay 66)) 0) FH:=(bF (ju ae) yt (λzz zz=> ∅))
theorem ab1:aA C l9 "k" 4:=bu 4 ∅
theorem xS:aA C l9 "number" 5:=eX 5 ∅ ∅ ∅
theorem wZ:ab C n l9 (.Name "numbers" pos) (a9 0):=ba 0 ∅
theorem jw:ab C n l9 (.Name "octets" pos) (a9 3):=ba 3 ∅
theorem EM:ab C n l9 (.Name "cells" pos) (a9 1):=ba 1 ∅
theorem ZW:ab C n l9 (.Name "k" pos) (a9 4):=ba 4 ∅
abbrev qz:Scope:=jO [(".0",.local),("high",.local),("number",.free)]
abbrev yR:Cx:=bR l9 qz
theorem Az:aA C yR "high" 6:=bu 6 ∅
theorem lZ:ab C n yR (.Name "number" pos) (a9 5):=bE 5 3 ∅ (by decide) ∅ ∅ ∅
theorem rp:ab C n yR (.Name "high" pos) (a9 6):=ba 6 ∅
theorem Ao:ab C n l9 (.Name "number" pos) (a9 5):=bE 5 2 ∅ (by decide) ∅ ∅ ∅
def Kc:SF:=(jN (c9 [(a9 0)] g9) (jh 4 5) (ap (cj (sk (a9 3) (aj (aU [(kI 64)]) (aj (aj (aF (a9 1) (aj (a9 4) (kI 6) (aS cu))) (kI 420) (aS cP)) (kI 3) (aS cu)) la))) (ap (cj (sk (a9 3) (aj (ce qz (aK false (aU [(kI 5),(kI 4),(kI 3),(kI 2),(kI 1)])) (dz 6) (c_ (bB (a9 5) (aj (kI 64) (a9 6) (aS gk)) (ef λx y=>decide (y≤x))) (aY (aj (aj (aj (a9 5) (aj (kI 64) (a9 6) (aS gk)) (aS cP)) (kI 64) (aS cu)) (kI 64) aT)))) (aU [(aj (a9 5) (kI 64) (aS cu))]) aT))) aP)) aP)
theorem IH(G:cK C)(h2:2≤n):aQ C n l9 (dA (aq (ay 66)) 1) Kc:=(gu h2 (kz (fv:=.type "enumerate") (G.no _ ∅) ∅ ∅ (bD _) iS (ag rfl wZ ae) (λzz=>rfl) (λzz=>rfl) ∅ ∅ ∅) (eY ab1 xS) (ak (cM (kJ (λzz=>rfl) jw (av (bb (ag rfl am ae)) (av (av (bj EM (av ZW am dt) (λzz zz=>rfl)) am eN) am dt) qq) (λzz=>rfl)) ∅ (λzz=>rfl)) (ak (cM (kJ (λzz=>rfl) jw (av (cF (bw ∅ h2 (λzz zz=>rfl) (bN _ _ _ _ _ _) (b_ (bb (ag rfl am (ag rfl am (ag rfl am (ag rfl am (ag rfl am ae))))))) (bM Az) (j5 (cn lZ (av am rp iZ) Rs ∅)) (bZ (av (av (av lZ (av am rp iZ) eN) am dt) am br)))) (bb (ag rfl (av Ao am dt) ae)) br) (λzz=>rfl)) ∅ (λzz=>rfl)) aN)) aN (λzz zz=>rfl))
theorem DF:ab C n l9 (.Name "total" pos) (a9 2):=bE 2 2 ∅ (by decide) ∅ ∅ ∅
def I7:SF:=(cj (eg (a9 3) (aj (kI 64) (aj (a9 2) (kI 64) (aS cu)) aT)))
theorem KB(G:cK C)(h2:2≤n):aQ C n l9 (dA (aq (ay 66)) 2) I7:=(cM (cz (λzz=>rfl) jw (av am (av DF am dt) br) (λzz=>rfl)) ∅ (λzz=>rfl))
abbrev tG:Scope:=jO [(".0",.local),("place",.local),("octet",.local),("total",.free)]
abbrev rx:Cx:=bR l9 tG
theorem xd:aA C rx "place" 6:=bu 6 ∅
theorem w9:aA C rx "octet" 7:=bu 7 ∅
theorem xw:ab C n rx (.Name "place" pos) (a9 6):=ba 6 ∅
theorem wA:ab C n rx (.Name "total" pos) (a9 2):=bE 2 3 ∅ (by decide) ∅ ∅ ∅
theorem oH:ab C n rx (.Name "octet" pos) (a9 7):=ba 7 ∅
def FJ:SF:=(fe (ce tG (c9 [(a9 3)] g9) (jh 6 7) (c_ bg (aY (dw (bB (aj (aj (a9 6) (a9 2) aT) (kI 3) (aS cu)) (kI 0) dK) (aj (a9 7) (kI 128) aT) (a9 7))))))
theorem Gu(G:cK C)(h2:2≤n):aQ C n l9 (dA (aq (ay 66)) 3) FJ:=(da (cF (bw ∅ h2 (λzz zz=>rfl) (bN _ _ _ _ _ _) (kz (fv:=.type "enumerate") (G.no _ ∅) ∅ ∅ (bD _) iS (ag rfl jw ae) (λzz=>rfl) (λzz=>rfl) ∅ ∅ ∅) (eY xd w9) cH (bZ (fW (cn (av (av xw wA br) am dt) am dR ∅) (av oH am br) oH)))))
def f66:SF:=(ap FH (ap Kc (ap I7 (ap FJ aP))))
theorem b66(G:cK C)(h2:2≤n):cD C n l9 (aq (ay 66)) f66:=(ak (FB G h2) (ak (IH G h2) (ak (KB G h2) (ak (Gu G h2) aN))))
theorem c66(G:cK C)(h2:2≤n)(h:dp C "_law_octets" 66):aI C (n+1) "_law_octets" (cC 3 (ao (ay 66)) f66):=
 gU ["numbers","cells","total"] h (b66 G h2) (λzz zz zz=>SE λzz zz zz=> ∅) ∅ ∅ ∅ ∅ ∅
noncomputable def fZ:a_:=cC 3 (ao (ay 66)) f66
abbrev s9:Cx:=dh (ao (ay 67))
theorem yo:aA C s9 "pieces" 4:=eX 4 ∅ ∅ ∅
def FD:SF:=(cb 4 (aU [(aU []),(aU [(kS "\\(")]),(aU [(kS "\""),(kS ")"),(kS "\"")]),(aU [(kS "\\\\")]),(aU [(kS "\""),(kS "\\\""),(kS ")"),(kS "\"")]),(aU [(kS "a"),(kS "\\\"")]),(aU [(kS "\""),(kS "\"")])]))
theorem JO(G:cK C)(h2:2≤n):aQ C n s9 (dA (aq (ay 67)) 0) FD:=(bF (bb (ag rfl (bb ae) (ag rfl (bb (ag rfl bT ae)) (ag rfl (bb (ag rfl bT (ag rfl bT (ag rfl bT ae)))) (ag rfl (bb (ag rfl bT ae)) (ag rfl (bb (ag rfl bT (ag rfl bT (ag rfl bT (ag rfl bT ae))))) (ag rfl (bb (ag rfl bT (ag rfl bT ae))) (ag rfl (bb (ag rfl bT (ag rfl bT ae))) ae)))))))) yo (λzz zz=> ∅))
theorem yQ:aA C s9 "picked" 5:=bu 5 ∅
theorem Ae:ab C n s9 (.Name "places" pos) (a9 0):=ba 0 ∅
abbrev lK:Scope:=jO [(".0",.local),("place",.local),("cells",.free),("mates",.free),("pieces",.free)]
abbrev qc:Cx:=bR s9 lK
theorem xm:aA C qc "place" 6:=bu 6 ∅
theorem uh:ab C n qc (.Name "pieces" pos) (a9 4):=bE 4 3 ∅ (by decide) ∅ ∅ ∅
theorem vz:ab C n qc (.Name "cells" pos) (a9 2):=bE 2 3 ∅ (by decide) ∅ ∅ ∅
theorem ka:ab C n qc (.Name "place" pos) (a9 6):=ba 6 ∅
theorem vN:ab C n qc (.Name "mates" pos) (a9 1):=bE 1 3 ∅ (by decide) ∅ ∅ ∅
def KW:SF:=(ga 5 lK (aK false (a9 0)) (dz 6) (c_ bg (aY (cW [(aF (a9 4) (aj (aj (aF (a9 2) (a9 6)) (kI 60) (aS cP)) (kI 7) (aS cu))),(dw (bB (aF (a9 1) (a9 6)) (a9 6) (ef λx y=>decide (y<x))) (kS "(") (kS ")"))]))) false)
theorem Kg(G:cK C)(h2:2≤n):aQ C n s9 (dA (aq (ay 67)) 1) KW:=(gx false (bw ∅ h2 (λzz zz=>rfl) (bN _ _ _ _ _ _) (b_ Ae) (bM xm) cH (bZ (cY (ag rfl (bj uh (av (av (bj vz ka (λzz zz=>rfl)) am eN) am dt) (λzz zz=>rfl)) (ag rfl (fW (cn (bj vN ka (λzz zz=>rfl)) ka Ih ∅) bT bT) ae))))) yQ (fg ∅ ∅ ∅ ∅))
theorem zF:ab C n s9 (.Name "picked" pos) (a9 5):=ba 5 ∅
abbrev yi:Scope:=jO [(".0",.local),("piece",.local),("sign",.local),("unit",.local),("shorn",.free)]
abbrev ly:Cx:=bR s9 yi
theorem xz:aA C ly "piece" 6:=bu 6 ∅
theorem y8:aA C ly "sign" 7:=bu 7 ∅
theorem wh:ab C n ly (.Name "shorn" pos) (a9 3):=bE 3 3 ∅ (by decide) ∅ ∅ ∅
theorem oK:ab C n ly (.Name "piece" pos) (a9 6):=ba 6 ∅
theorem zw:ab C n ly (.Name "sign" pos) (a9 7):=ba 7 ∅
theorem xU:aA C ly "unit" 8:=bu 8 ∅
theorem zT:ab C n ly (.Name "unit" pos) (a9 8):=ba 8 ∅
def K0:SF:=(fe (ce yi (aK true (a9 5)) (jh 6 7) (c_ bg (gv (aK false (aj (dw (Ke (gf (a9 3)) (bB (cg (a9 6) b9 (aL (kI 1))) (aU [(kS "\"")]) dK)) (aU []) (a9 6)) (aU [(a9 7)]) aT)) (dz 8) (c_ bg (aY (a9 8)))))))
theorem G7(G:cK C)(h2:2≤n):aQ C n s9 (dA (aq (ay 67)) 2) K0:=(da (cF (bw ∅ h2 (λzz zz=>rfl) (ib _ _ _ _ _ _ _ _ _) (b_ zF) (eY xz y8) cH (km h2 (b_ (av (fW (VN (iD (λzz zz=>rfl) wh) (cn (dQ oK dD (cy am)) (bb (ag rfl bT ae)) dR ∅)) (bb ae) oK) (bb (ag rfl zw ae)) br)) (bM xU) cH zT (λzz zz=>rfl)))))
def f67:SF:=(ap FD (ap KW (ap K0 aP)))
theorem b67(G:cK C)(h2:2≤n):cD C n s9 (aq (ay 67)) f67:=(ak (JO G h2) (ak (Kg G h2) (ak (G7 G h2) aN)))
theorem c67(G:cK C)(h2:2≤n)(h:dp C "_law_units" 67):aI C (n+1) "_law_units" (cC 4 (ao (ay 67)) f67):=
 gU ["places","mates","cells","shorn"] h (b67 G h2) (λzz zz zz=>Ri λzz zz zz zz=> ∅) ∅ ∅ ∅ ∅ ∅
noncomputable def bC:a_:=cC 4 (ao (ay 67)) f67
abbrev fS:Cx:=dh (ao (ay 65))
theorem sw:aA C fS "roots" 3:=bu 3 ∅
abbrev zo:Scope:=jO [(".0",.local),("place",.local)]
abbrev FN:Cx:=bR fS zo
theorem xb:aA C FN "place" 10:=bu 10 ∅
theorem wP:ab C n FN (.Name "place" pos) (a9 10):=ba 10 ∅
def AO:SF:=(ga 3 zo (aK false (af [(kI 6)] cJ)) (dz 10) (c_ bg (aY (aU [(a9 10)]))) false)
theorem J0(G:cK C)(h2:2≤n):aQ C n fS (dA (aq (ay 65)) 0) AO:=(gx false (bw ∅ h2 (λzz zz=>rfl) (bN _ _ _ _ _ _) (b_ (ct (fv:=.type "range") (G.no _ ∅) ∅ ∅ (bD _) dM (ag rfl am ae) (λzz=>rfl) (λzz=>rfl) ∅ ∅ ∅)) (bM xb) cH (bZ (bb (ag rfl wP ae)))) sw (fg ∅ ∅ ∅ ∅))
theorem sY:aA C fS "parts" 4:=eX 4 ∅ ∅ ∅
abbrev yq:Scope:=jO [(".0",.local),("place",.local),("min",.globalImplicit),("mates",.free)]
abbrev Ak:Cx:=bR fS yq
theorem wQ:aA C Ak "place" 10:=bu 10 ∅
theorem oR:ab C n Ak (.Name "place" pos) (a9 10):=ba 10 ∅
theorem wC:ab C n Ak (.Name "mates" pos) (a9 2):=bE 2 3 ∅ (by decide) ∅ ∅ ∅
def CH:SF:=(cb 4 (ce yq (aK false (af [(kI 6)] cJ)) (dz 10) (c_ bg (aY (af [(a9 10),(aF (a9 2) (a9 10))] G1)))))
theorem Jd(G:cK C)(h2:2≤n):aQ C n fS (dA (aq (ay 65)) 1) CH:=(bF (cF (bw ∅ h2 (λzz zz=>rfl) (bN _ _ _ _ _ _) (b_ (ct (fv:=.type "range") (G.no _ ∅) ∅ ∅ (bD _) dM (ag rfl am ae) (λzz=>rfl) (λzz=>rfl) ∅ ∅ ∅)) (bM wQ) cH (bZ (ct (fv:=.builtin "min") (G.no _ ∅) ∅ ∅ (bf _) IV (ag rfl oR (ag rfl (bj wC oR (λzz zz=>rfl)) ae)) (λzz=>rfl) (λzz=>rfl) ∅ ∅ ∅)))) sY (pF ∅))
theorem Eg:aA C fS "kinds" 5:=eX 5 ∅ ∅ ∅
def CI:SF:=(cb 5 (n4 []))
theorem GT(G:cK C)(h2:2≤n):aQ C n fS (dA (aq (ay 65)) 2) CI:=(bF (ju ae) Eg (λzz zz=> ∅))
theorem GV:aA C fS "turn" 6:=bu 6 ∅
theorem kC:ab C n fS (.Name "total" pos) (a9 1):=ba 1 ∅
theorem Y6:aA C fS "k" 7:=eX 7 ∅ ∅ ∅
theorem CX:ab C n fS (.Name "cells" pos) (a9 0):=ba 0 ∅
theorem wM:ab C n fS (.Name "turn" pos) (a9 6):=ba 6 ∅
theorem i0:ab C n fS (.Name "roots" pos) (a9 3):=ba 3 ∅
theorem eo:ab C n fS (.Name "kinds" pos) (a9 5):=bE 5 2 ∅ (by decide) ∅ ∅ ∅
theorem nx:ab C n fS (.Name "parts" pos) (a9 4):=bE 4 2 ∅ (by decide) ∅ ∅ ∅
theorem sH:ab C n fS (.Name "k" pos) (a9 7):=bE 7 2 ∅ (by decide) ∅ ∅ ∅
abbrev nh:Scope:=jO [(".0",.local),("n",.local),("part",.local),("k",.free),("parts",.free)]
abbrev nv:Cx:=bR fS nh
theorem N1:aA C nv "n" 10:=bu 10 ∅
theorem zd:aA C nv "part" 11:=bu 11 ∅
theorem OX:ab C n nv (.Name "n" pos) (a9 10):=ba 10 ∅
theorem uC:ab C n nv (.Name "k" pos) (a9 7):=bE 7 3 ∅ (by decide) ∅ ∅ ∅
theorem pQ:ab C n nv (.Name "part" pos) (a9 11):=ba 11 ∅
theorem oB:ab C n nv (.Name "parts" pos) (a9 4):=bE 4 3 ∅ (by decide) ∅ ∅ ∅
def Bf:SF:=(jN (aK false (af [(aF (aU [(kI 5),(kI 5),(kI 4),(kI 3)]) (aj (aj (a9 1) (kI 25) (aS cP)) (kI 4) (aS cu)))] cJ)) (dz 6) (ap (cb 7 (aj (aF (a9 0) (a9 6)) (aj (af [(a9 3)] dC) (kI 1) (aS λx y=>some (x-y))) (aS cu))) (ap (cj (eg (a9 5) (dw (bB (aF (a9 4) (a9 7)) (aF (a9 4) (aj (a9 7) (kI 1) aT)) dK) (kI 274) (kI 272)))) (ap (cb 4 (ce nh (c9 [(a9 4)] g9) (jh 10 11) (c_ (bB (a9 10) (a9 7) pe) (aY (dw (bB (a9 11) (aF (a9 4) (aj (a9 7) (kI 1) aT)) dK) (aF (a9 4) (a9 7)) (a9 11)))))) (ap (cb 3 (aj (aj (cg (a9 3) b9 (aL (a9 7))) (aU [(aj (aj (aU [(aj (jB (kI 1)) (a9 6) (aS λx y=>some (x-y)))]) (aF (a9 3) (a9 7)) aT) (aF (a9 3) (aj (a9 7) (kI 1) aT)) aT)]) aT) (cg (a9 3) (aL (aj (a9 7) (kI 2) aT)) b9) aT)) aP)))) aP)
theorem Hw(G:cK C)(h2:2≤n):aQ C n fS (dA (aq (ay 65)) 3) Bf:=(gu h2 (b_ (ct (fv:=.type "range") (G.no _ ∅) ∅ ∅ (bD _) dM (ag rfl (bj (bb (ag rfl am (ag rfl am (ag rfl am (ag rfl am ae))))) (av (av kC am eN) am dt) (λzz zz=>rfl)) ae) (λzz=>rfl) (λzz=>rfl) ∅ ∅ ∅)) (bM GV) (ak (bF (av (bj CX wM (λzz zz=>rfl)) (av (ct (fv:=.builtin "len") (G.no _ ∅) ∅ ∅ (bf _) eW (ag rfl i0 ae) (λzz=>rfl) (λzz=>rfl) ∅ ∅ ∅) am i_) dt) Y6 (λzz zz=> ∅)) (ak (cM (cz (λzz=>rfl) eo (fW (cn (bj nx sH (λzz zz=>rfl)) (bj nx (av sH am br) (λzz zz=>rfl)) dR ∅) am am) (λzz=>rfl)) ∅ (λzz=>rfl)) (ak (bF (cF (bw ∅ h2 (λzz zz=>rfl) (bN _ _ _ _ _ _) (kz (fv:=.type "enumerate") (G.no _ ∅) ∅ ∅ (bD _) iS (ag rfl nx ae) (λzz=>rfl) (λzz=>rfl) ∅ ∅ ∅) (eY N1 zd) (j5 (cn OX uC s_ ∅)) (bZ (fW (cn pQ (bj oB (av uC am br) (λzz zz=>rfl)) dR ∅) (bj oB uC (λzz zz=>rfl)) pQ)))) sY (pF ∅)) (ak (bF (av (av (dQ i0 dD (cy sH)) (bb (ag rfl (av (av (bb (ag rfl (av (ny am) wM i_) ae)) (bj i0 sH (λzz zz=>rfl)) br) (bj i0 (av sH am br) (λzz zz=>rfl)) br) ae)) br) (dQ i0 (cy (av sH am br)) dD) br) sw (λzz zz=> ∅)) aN)))) aN (λzz zz=>rfl))
theorem MY:aA C fS "one" 8:=bu 8 ∅
theorem Oi:aA C fS "two" 9:=bu 9 ∅
def C2:SF:=(wV 8 9 (cW [(aj (aj (a9 1) (kI 100) (aS cP)) (af [(a9 5)] dC) (aS cu)),(aj (aj (a9 1) (kI 500) (aS cP)) (af [(a9 5)] dC) (aS cu))]))
theorem KR(G:cK C)(h2:2≤n):aQ C n fS (dA (aq (ay 65)) 4) C2:=(AJ (cY (ag rfl (av (av kC am eN) (ct (fv:=.builtin "len") (G.no _ ∅) ∅ ∅ (bf _) eW (ag rfl eo ae) (λzz=>rfl) (λzz=>rfl) ∅ ∅ ∅) dt) (ag rfl (av (av kC am eN) (ct (fv:=.builtin "len") (G.no _ ∅) ∅ ∅ (bf _) eW (ag rfl eo ae) (λzz=>rfl) (λzz=>rfl) ∅ ∅ ∅) dt) ae))) MY Oi (λzz=>rfl) (vr ∅ ∅ ∅ ∅ ∅ ∅ ∅ ∅))
theorem B5:ab C n fS (.Name "two" pos) (a9 9):=ba 9 ∅
theorem ml:ab C n fS (.Name "one" pos) (a9 8):=ba 8 ∅
def AN:SF:=(IP (cW [(aF (a9 5) (a9 9)),(aF (a9 5) (a9 8))]) (a9 5) (a9 8) (a9 5) (a9 9))
theorem Ix(G:cK C)(h2:2≤n):aQ C n fS (dA (aq (ay 65)) 5) AN:=(NW (cY (ag rfl (bj eo B5 (λzz zz=>rfl)) (ag rfl (bj eo ml (λzz zz=>rfl)) ae))) eo ml eo B5 (λzz=>rfl) DV)
def BB:SF:=(Tp (dw (bB (aj (aj (a9 1) (kI 2500) (aS cP)) (kI 4) (aS cu)) (kI 3) dK) (aj (kI 546) (aF (a9 5) (a9 8)) (aS λx y=>some (x-y))) (aF (a9 5) (a9 8))) (a9 5) (a9 8))
theorem Kb(G:cK C)(h2:2≤n):aQ C n fS (dA (aq (ay 65)) 6) BB:=(TJ (fW (cn (av (av kC am eN) am dt) am dR ∅) (av am (bj eo ml (λzz zz=>rfl)) i_) (bj eo ml (λzz zz=>rfl))) eo ml (λzz=>rfl))
abbrev qG:Scope:=jO [(".0",.local),("root",.local),("sign",.local),("kinds",.free),("mates",.free)]
abbrev nz:Cx:=bR fS qG
theorem zL:aA C nz "root" 10:=bu 10 ∅
theorem yI:ab C n nz (.Name "root" pos) (a9 10):=ba 10 ∅
theorem Aa:aA C nz "sign" 11:=bu 11 ∅
theorem js:ab C n nz (.Name "sign" pos) (a9 11):=ba 11 ∅
theorem wS:ab C n nz (.Name "kinds" pos) (a9 5):=bE 5 3 ∅ (by decide) ∅ ∅ ∅
theorem vv:ab C n nz (.Name "mates" pos) (a9 2):=bE 2 3 ∅ (by decide) ∅ ∅ ∅
def Ct:SF:=(fe (aj (ce qG (aK false (a9 3)) (dz 10) (c_ bg (gv (aK false (a9 10)) (dz 11) (c_ bg (aY (dw (bB (a9 11) (kI 0) (ef λx y=>decide (x<y))) (aF (a9 5) (aj (jB (kI 1)) (a9 11) (aS λx y=>some (x-y)))) (dw (bB (aF (a9 2) (a9 11)) (a9 11) (ef λx y=>decide (y<x))) (kI 7) (kI 8)))))))) (aU [(kI 0)]) aT))
theorem FY(G:cK C)(h2:2≤n):aQ C n fS (dA (aq (ay 65)) 7) Ct:=(da (av (cF (bw ∅ h2 (λzz zz=>rfl) (ib _ _ _ _ _ _ _ _ _) (b_ i0) (bM zL) cH (km h2 (b_ yI) (bM Aa) cH (fW (cn js am rz ∅) (bj wS (av (ny am) js i_) (λzz zz=>rfl)) (fW (cn (bj vv js (λzz zz=>rfl)) js Ih ∅) am am)) (λzz zz=>rfl)))) (bb (ag rfl am ae)) br))
def f65:SF:=(ap AO (ap CH (ap CI (ap Bf (ap C2 (ap AN (ap BB (ap Ct aP))))))))
theorem b65(G:cK C)(h2:2≤n):cD C n fS (aq (ay 65)) f65:=(ak (J0 G h2) (ak (Jd G h2) (ak (GT G h2) (ak (Hw G h2) (ak (KR G h2) (ak (Ix G h2) (ak (Kb G h2) (ak (FY G h2) aN))))))))
theorem c65(G:cK C)(h2:2≤n)(h:dp C "_law_numbers" 65):aI C (n+1) "_law_numbers" (cC 3 (ao (ay 65)) f65):=
 gU ["cells","total","mates"] h (b65 G h2) (λzz zz zz=>SE λzz zz zz=> ∅) ∅ ∅ ∅ ∅ ∅
noncomputable def gz:a_:=cC 3 (ao (ay 65)) f65
end
section
abbrev uG:Cx:=dh (ao (ay 2))
theorem kP:ab C n uG (.Name "addr" pos) (a9 0):=ba 0 ∅
def KD:SF:=(jE (bB (kS "\"") (a9 0) lO) (ap (fe (a9 0)) aP) aP)
theorem Og(G:cK C)(h2:2≤n):aQ C n uG (dA (aq (ay 2)) 0) KD:=(gb (cn bT kP xD ∅) (ak (da kP) aN) aN)
theorem wW:aA C uG "start" 1:=bu 1 ∅
def V4:SF:=(cb 1 (kI 0))
theorem PL(G:cK C)(h2:2≤n):aQ C n uG (dA (aq (ay 2)) 1) V4:=(bF am wW (λzz zz=> ∅))
theorem kg:aA C uG "open_pos" 2:=bu 2 ∅
def Tn:SF:=(cb 2 kN)
theorem PQ(G:cK C)(h2:2≤n):aQ C n uG (dA (aq (ay 2)) 2) Tn:=(bF zQ kg (λzz zz=> ∅))
theorem Eo:aA C uG "result" 3:=bu 3 ∅
def PJ:SF:=(cb 3 (n4 []))
theorem PI(G:cK C)(h2:2≤n):aQ C n uG (dA (aq (ay 2)) 3) PJ:=(bF (ju ae) Eo (λzz zz=> ∅))
theorem Tj:aA C uG "pos" 4:=bu 4 ∅
theorem Zu:aA C uG "ch" 5:=bu 5 ∅
theorem af8:ab C n uG (.Name "ch" pos) (a9 5):=ba 5 ∅
theorem jX:ab C n uG (.Name "open_pos" pos) (a9 2):=ba 2 ∅
theorem IJ:ab C n uG (.Name "pos" pos) (a9 4):=ba 4 ∅
theorem lW:ab C n uG (.Name "start" pos) (a9 1):=ba 1 ∅
theorem nO:ab C n uG (.Name "result" pos) (a9 3):=ba 3 ∅
def Pu:SF:=(jN (c9 [(a9 0)] aE) (jh 4 5) (ap (jE (bB (a9 5) (kS "\"") dK) (ap (jE (bB (a9 2) kN LF) (ap (cb 2 (a9 4)) aP) (ap (jE (bB (a9 1) (a9 2) pe) (ap (cj (eg (a9 3) (cg (a9 0) (aL (a9 1)) (aL (a9 2))))) aP) aP) (ap (cb 1 (aj (a9 4) (kI 1) aT)) (ap (cb 2 kN) aP)))) aP) aP) aP) aP)
theorem Pm(G:cK C)(h2:2≤n)(h_iter_escaped_chars:gT C n "_iter_escaped_chars" aE):aQ C n uG (dA (aq (ay 2)) 4) Pu:=(gu h2 (z6 h_iter_escaped_chars (ag rfl kP ae) (λzz=>rfl) ∅ ∅ ∅) (eY Tj Zu) (ak (gb (cn af8 bT dR ∅) (ak (gb (cn jX zQ xG ∅) (ak (bF IJ kg (λzz zz=> ∅)) aN) (ak (gb (cn lW jX s_ ∅) (ak (cM (cz (λzz=>rfl) nO (dQ kP (cy lW) (cy jX)) (λzz=>rfl)) ∅ (λzz=>rfl)) aN) aN) (ak (bF (av IJ am br) wW (λzz zz=> ∅)) (ak (bF zQ kg (λzz zz=> ∅)) aN)))) aN) aN) aN) aN (λzz zz=>rfl))
def PH:SF:=(jE (bB (a9 1) (af [(a9 0)] dC) (ef λx y=>decide (x<y))) (ap (cj (eg (a9 3) (cg (a9 0) (aL (a9 1)) b9))) aP) aP)
theorem NR(G:cK C)(h2:2≤n)(h_iter_escaped_chars:gT C n "_iter_escaped_chars" aE):aQ C n uG (dA (aq (ay 2)) 5) PH:=(gb (cn lW (ct (fv:=.builtin "len") (G.no _ ∅) ∅ ∅ (bf _) eW (ag rfl kP ae) (λzz=>rfl) (λzz=>rfl) ∅ ∅ ∅) rz ∅) (ak (cM (cz (λzz=>rfl) nO (dQ kP (cy lW) dD) (λzz=>rfl)) ∅ (λzz=>rfl)) aN) aN)
def Ms:SF:=(fe (dx (kS "") [(a9 3)] fc))
theorem Ma(G:cK C)(h2:2≤n)(h_iter_escaped_chars:gT C n "_iter_escaped_chars" aE):aQ C n uG (dA (aq (ay 2)) 6) Ms:=(da (fQ (λzz=>rfl) JZ Km g_ bT (ag rfl nO ae) (λzz=>rfl) (λzz=>rfl)))
def f2:SF:=(ap KD (ap V4 (ap Tn (ap PJ (ap Pu (ap PH (ap Ms aP)))))))
theorem b2(G:cK C)(h2:2≤n)(h_iter_escaped_chars:gT C n "_iter_escaped_chars" aE):cD C n uG (aq (ay 2)) f2:=(ak (Og G h2) (ak (PL G h2) (ak (PQ G h2) (ak (PI G h2) (ak (Pm G h2 h_iter_escaped_chars) (ak (NR G h2 h_iter_escaped_chars) (ak (Ma G h2 h_iter_escaped_chars) aN)))))))
theorem c2(G:cK C)(h2:2≤n)(h_iter_escaped_chars:gT C n "_iter_escaped_chars" aE)(h:dp C "_strip_quoted_realnames" 2):aI C (n+1) "_strip_quoted_realnames" (cC 1 (ao (ay 2)) f2):=
 gU ["addr"] h (b2 G h2 h_iter_escaped_chars) (λzz zz zz=>jG λzz=> ∅) ∅ ∅ ∅ ∅ ∅
noncomputable def aM:a_:=cC 1 (ao (ay 2)) f2
abbrev Fn:Cx:=dh (ao (ay 3))
theorem NQ:aA C Fn "addr" 0:=bu 0 ∅
theorem C5:ab C n Fn (.Name "addr" pos) (a9 0):=ba 0 ∅
def NP:SF:=(cb 0 (af [(a9 0)] aM))
theorem Nf(G:cK C)(h2:2≤n)(h_strip_quoted_realnames:aI C n "_strip_quoted_realnames" aM):aQ C n Fn (dA (aq (ay 3)) 0) NP:=(bF (ci h_strip_quoted_realnames (ag rfl C5 ae) (λzz=>rfl) ∅ ∅ ∅) NQ (λzz zz=> ∅))
theorem IS:aA C Fn "opens" 1:=bu 1 ∅
def Uo:SF:=(cb 1 (kI 0))
theorem OK(G:cK C)(h2:2≤n)(h_strip_quoted_realnames:aI C n "_strip_quoted_realnames" aM):aQ C n Fn (dA (aq (ay 3)) 1) Uo:=(bF am IS (λzz zz=> ∅))
theorem Ub:aA C Fn "pos" 2:=bu 2 ∅
theorem YM:aA C Fn "ch" 3:=bu 3 ∅
theorem RD:ab C n Fn (.Name "ch" pos) (a9 3):=ba 3 ∅
theorem xc:ab C n Fn (.Name "opens" pos) (a9 1):=ba 1 ∅
def Nr:SF:=(jN (c9 [(a9 0)] aE) (jh 2 3) (ap (jE (bB (a9 3) (kS "(") dK) (ap (ik 1 (kI 1) AQ) aP) (ap (jE (bB (a9 3) (kS ")") dK) (ap (ik 1 (kI 1) By) (ap (jE (bB (a9 1) (kI 0) (ef λx y=>decide (x<y))) (ap (fe (kB false)) aP) aP) aP)) aP) aP)) aP) aP)
theorem OC(G:cK C)(h2:2≤n)(h_strip_quoted_realnames:aI C n "_strip_quoted_realnames" aM)(h_iter_escaped_chars:gT C n "_iter_escaped_chars" aE):aQ C n Fn (dA (aq (ay 3)) 2) Nr:=(gu h2 (z6 h_iter_escaped_chars (ag rfl C5 ae) (λzz=>rfl) ∅ ∅ ∅) (eY Ub YM) (ak (gb (cn RD bT dR ∅) (ak (nY (i:=1) ∅ ∅ ∅ am Pn) aN) (ak (gb (cn RD bT dR ∅) (ak (nY (i:=1) ∅ ∅ ∅ am Pf) (ak (gb (cn xc am rz ∅) (ak (da dj) aN) aN) aN)) aN) aN)) aN) aN (λzz zz=>rfl))
def U8:SF:=(fe (dZ (a9 1) (kI 0) dK))
theorem PO(G:cK C)(h2:2≤n)(h_strip_quoted_realnames:aI C n "_strip_quoted_realnames" aM)(h_iter_escaped_chars:gT C n "_iter_escaped_chars" aE):aQ C n Fn (dA (aq (ay 3)) 3) U8:=(da (fB xc am dR ∅))
def f3:SF:=(ap NP (ap Uo (ap Nr (ap U8 aP))))
theorem b3(G:cK C)(h2:2≤n)(h_strip_quoted_realnames:aI C n "_strip_quoted_realnames" aM)(h_iter_escaped_chars:gT C n "_iter_escaped_chars" aE):cD C n Fn (aq (ay 3)) f3:=(ak (Nf G h2 h_strip_quoted_realnames) (ak (OK G h2 h_strip_quoted_realnames) (ak (OC G h2 h_strip_quoted_realnames h_iter_escaped_chars) (ak (PO G h2 h_strip_quoted_realnames h_iter_escaped_chars) aN))))
theorem c3(G:cK C)(h2:2≤n)(h_strip_quoted_realnames:aI C n "_strip_quoted_realnames" aM)(h_iter_escaped_chars:gT C n "_iter_escaped_chars" aE)(h:dp C "_check_parenthesis" 3):aI C (n+1) "_check_parenthesis" (cC 1 (ao (ay 3)) f3):=
 gU ["addr"] h (b3 G h2 h_strip_quoted_realnames h_iter_escaped_chars) (λzz zz zz=>jG λzz=> ∅) ∅ ∅ ∅ ∅ ∅
noncomputable def ar:a_:=cC 1 (ao (ay 3)) f3
abbrev N6:Cx:=dh (ao (ay 4))
theorem lH:aA C N6 "accepted_values" 1:=bu 1 ∅
def Mb:SF:=(cb 1 (n4 []))
theorem N_(G:cK C)(h2:2≤n):aQ C n N6 (dA (aq (ay 4)) 0) Mb:=(bF (ju ae) lH (λzz zz=> ∅))
theorem YW:aA C N6 "v" 2:=bu 2 ∅
theorem jD:ab C n N6 (.Name "email_header_fields" pos) (a9 0):=ba 0 ∅
theorem YU:ab C n N6 (.Name "v" pos) (a9 2):=ba 2 ∅
theorem iB:ab C n N6 (.Name "accepted_values" pos) (a9 1):=ba 1 ∅
def OT:SF:=(jN (aK false (a9 0)) (dz 2) (ap (jE (tW (gf (af [(a9 2)] ar))) (ap (cb 2 (kS "('', '')")) aP) aP) (ap (cj (eg (a9 1) (a9 2))) aP)) aP)
theorem ON(G:cK C)(h2:2≤n)(h_check_parenthesis:aI C n "_check_parenthesis" ar):aQ C n N6 (dA (aq (ay 4)) 1) OT:=(gu h2 (b_ jD) (bM YW) (ak (gb (Ic (iD (λzz zz=>rfl) (ci h_check_parenthesis (ag rfl YU ae) (λzz=>rfl) ∅ ∅ ∅))) (ak (bF bT YW (λzz zz=> ∅)) aN) aN) (ak (cM (cz (λzz=>rfl) iB YU (λzz=>rfl)) ∅ (λzz=>rfl)) aN)) aN (λzz zz=>rfl))
def ab8:SF:=(fe (a9 1))
theorem Nt(G:cK C)(h2:2≤n)(h_check_parenthesis:aI C n "_check_parenthesis" ar):aQ C n N6 (dA (aq (ay 4)) 2) ab8:=(da iB)
def f4:SF:=(ap Mb (ap OT (ap ab8 aP)))
theorem b4(G:cK C)(h2:2≤n)(h_check_parenthesis:aI C n "_check_parenthesis" ar):cD C n N6 (aq (ay 4)) f4:=(ak (N_ G h2) (ak (ON G h2 h_check_parenthesis) (ak (Nt G h2 h_check_parenthesis) aN)))
theorem c4(G:cK C)(h2:2≤n)(h_check_parenthesis:aI C n "_check_parenthesis" ar)(h:dp C "_pre_parse_validation" 4):aI C (n+1) "_pre_parse_validation" (cC 1 (ao (ay 4)) f4):=
 gU ["email_header_fields"] h (b4 G h2 h_check_parenthesis) (λzz zz zz=>jG λzz=> ∅) ∅ ∅ ∅ ∅ ∅
noncomputable def aX:a_:=cC 1 (ao (ay 4)) f4
end
section
abbrev lI:Cx:=dh (ao (ay 68))
theorem zZ:aA C lI "number" 2:=bu 2 ∅
theorem qh:ab C n lI (.Name "tape" pos) (a9 0):=ba 0 ∅
def vt(aC:a_):SF:=(cb 2 (af [(a9 0)] aR))
theorem Jz{aC:a_}(G:cK C)(h2:2≤n)(h_parse_varint:aI C n "_parse_varint" aR):aQ C n lI (dA (aq (ay 68)) 0) (vt aC):=(bF (ci h_parse_varint (ag rfl qh ae) (λzz=>rfl) ∅ ∅ ∅) zZ (λzz zz=> ∅))
theorem mT:ab C n lI (.Name "told" pos) (a9 1):=ba 1 ∅
theorem io:ab C n lI (.Name "number" pos) (a9 2):=ba 2 ∅
def xK(aC:a_):SF:=(cj (eg (a9 1) (a9 2)))
theorem ID{aC:a_}(G:cK C)(h2:2≤n)(h_parse_varint:aI C n "_parse_varint" aR):aQ C n lI (dA (aq (ay 68)) 1) (xK aC):=(cM (cz (λzz=>rfl) mT io (λzz=>rfl)) ∅ (λzz=>rfl))
def lr(aC:a_):SF:=(jE (gf (af [(a9 2)] fx)) (ap (fe (cW [])) aP) aP)
theorem HT{aC:a_}(G:cK C)(h2:2≤n)(h_parse_varint:aI C n "_parse_varint" aR)(hISEOF:aI C n "ISEOF" fx):aQ C n lI (dA (aq (ay 68)) 2) (lr aC):=(gb (iD (λzz zz=>rfl) (ci hISEOF (ag rfl io ae) (λzz=>rfl) ∅ ∅ ∅)) (ak (da (cY ae)) aN) aN)
theorem Kq:aA C lI "left" 3:=bu 3 ∅
theorem D0:aA C lI "right" 4:=bu 4 ∅
theorem xC:ab C n lI (.Name "left" pos) (a9 3):=ba 3 ∅
theorem sE:ab C n lI (.Name "right" pos) (a9 4):=ba 4 ∅
def oO(aC:a_):SF:=(jE (gf (af [(a9 2)] bQ)) (ap (cb 3 (af [(a9 0),(a9 1)] aC)) (ap (cb 4 (af [(a9 0),(a9 1)] aC)) (ap (fe (cW [(aj (a9 2) (kI 256) (aS λx y=>some (x-y))),(aj (aF (a9 3) (kI 1)) (aF (a9 4) (kI 1)) aT),(a9 3),(a9 4)])) aP))) aP)
theorem KZ{aC:a_}(G:cK C)(h2:2≤n)(h_parse_varint:aI C n "_parse_varint" aR)(hISEOF:aI C n "ISEOF" fx)(hISNONTERMINAL:aI C n "ISNONTERMINAL" bQ)(h_law_formula:aI C n "_law_formula" aC):aQ C n lI (dA (aq (ay 68)) 3) (oO aC):=(gb (iD (λzz zz=>rfl) (ci hISNONTERMINAL (ag rfl io ae) (λzz=>rfl) ∅ ∅ ∅)) (ak (bF (ci h_law_formula (ag rfl qh (ag rfl mT ae)) (λzz=>rfl) ∅ ∅ ∅) Kq (λzz zz=> ∅)) (ak (bF (ci h_law_formula (ag rfl qh (ag rfl mT ae)) (λzz=>rfl) ∅ ∅ ∅) D0 (λzz zz=> ∅)) (ak (da (cY (ag rfl (av io am i_) (ag rfl (av (bj xC am (λzz zz=>rfl)) (bj sE am (λzz zz=>rfl)) br) (ag rfl xC (ag rfl sE ae)))))) aN))) aN)
abbrev ux:Scope:=jO [(".0",.local),("one",.local),("ISTERMINAL",.globalImplicit)]
abbrev K5:Cx:=bR lI ux
theorem Ev:aA C K5 "one" 5:=bu 5 ∅
theorem t9:ab C n K5 (.Name "one" pos) (a9 5):=ba 5 ∅
def ti(aC:a_):SF:=(fe (cW [(a9 2),(aU [(aj (af [(ce ux (aK false (a9 1)) (dz 5) (c_ (gf (af [(a9 5)] co)) (aY (a9 5))))] dC) (kI 1) (aS λx y=>some (x-y)))])]))
theorem FZ{aC:a_}(G:cK C)(h2:2≤n)(h_parse_varint:aI C n "_parse_varint" aR)(hISEOF:aI C n "ISEOF" fx)(hISNONTERMINAL:aI C n "ISNONTERMINAL" bQ)(h_law_formula:aI C n "_law_formula" aC)(hISTERMINAL:aI C n "ISTERMINAL" co):aQ C n lI (dA (aq (ay 68)) 4) (ti aC):=(da (cY (ag rfl io (ag rfl (bb (ag rfl (av (ct (fv:=.builtin "len") (G.no _ ∅) ∅ ∅ (bf _) eW (ag rfl (cF (bw ∅ h2 (λzz zz=>rfl) (bN _ _ _ _ _ _) (b_ mT) (bM Ev) (j5 (iD (λzz zz=>rfl) (ci hISTERMINAL (ag rfl t9 ae) (λzz=>rfl) ∅ ∅ ∅))) (bZ t9))) ae) (λzz=>rfl) (λzz=>rfl) ∅ ∅ ∅) am i_) ae)) ae))))
def f68(aC:a_):SF:=(ap (vt aC) (ap (xK aC) (ap (lr aC) (ap (oO aC) (ap (ti aC) aP)))))
theorem b68{aC:a_}(G:cK C)(h2:2≤n)(h_parse_varint:aI C n "_parse_varint" aR)(hISEOF:aI C n "ISEOF" fx)(hISNONTERMINAL:aI C n "ISNONTERMINAL" bQ)(h_law_formula:aI C n "_law_formula" aC)(hISTERMINAL:aI C n "ISTERMINAL" co):cD C n lI (aq (ay 68)) (f68 aC):=(ak (Jz G h2 h_parse_varint) (ak (ID G h2 h_parse_varint) (ak (HT G h2 h_parse_varint hISEOF) (ak (KZ G h2 h_parse_varint hISEOF hISNONTERMINAL h_law_formula) (ak (FZ G h2 h_parse_varint hISEOF hISNONTERMINAL h_law_formula hISTERMINAL) aN)))))
theorem c68{aC:a_}(G:cK C)(h2:2≤n)(h_parse_varint:aI C n "_parse_varint" aR)(hISEOF:aI C n "ISEOF" fx)(hISNONTERMINAL:aI C n "ISNONTERMINAL" bQ)(h_law_formula:aI C n "_law_formula" aC)(hISTERMINAL:aI C n "ISTERMINAL" co)(h:dp C "_law_formula" 68):aI C (n+1) "_law_formula" (cC 2 (ao (ay 68)) (f68 aC)):=
 gU ["tape","told"] h (b68 G h2 h_parse_varint hISEOF hISNONTERMINAL h_law_formula hISTERMINAL) (λzz zz zz=>KM λzz zz=> ∅) ∅ ∅ ∅ ∅ ∅
noncomputable def vJ:Nat→a_
 |0=> λzz zz=>none
 |m+1=>cC 2 (ao (ay 68)) (f68 (vJ m))
theorem d68(G:cK C)(h2:2≤n)(h_parse_varint:aI C n "_parse_varint" aR)(hISEOF:aI C n "ISEOF" fx)(hISNONTERMINAL:aI C n "ISNONTERMINAL" bQ)(hISTERMINAL:aI C n "ISTERMINAL" co)(h:dp C "_law_formula" 68):∀m,aI C (n+m) "_law_formula" (vJ m)
 |0=>tV h
 |m+1=>c68 G (L2 h2 (Fv ..)) (h_parse_varint.mono (Fv ..)) (hISEOF.mono (Fv ..)) (hISNONTERMINAL.mono (Fv ..)) (d68 G h2 h_parse_varint hISEOF hISNONTERMINAL hISTERMINAL h m) (hISTERMINAL.mono (Fv ..)) h
noncomputable def aC:a_:=vJ 12
abbrev dU:Cx:=dh (ao (ay 70))
theorem Ky:aA C dU "turn" 4:=bu 4 ∅
theorem DY:aA C dU "roots" 0:=eX 0 ∅ ∅ ∅
theorem fF:ab C n dU (.Name "roots" pos) (a9 0):=bE 0 2 ∅ (by decide) ∅ ∅ ∅
abbrev uO:Scope:=jO [(".0",.local),("one",.local),("part",.local),("EXACT_TOKEN_TYPES",.globalImplicit)]
abbrev uz:Cx:=bR dU uO
theorem DI:aA C uz "one" 16:=bu 16 ∅
theorem ou:ab C n uz (.Name "one" pos) (a9 16):=ba 16 ∅
theorem Ay:aA C uz "part" 17:=bu 17 ∅
theorem ym:ab C n uz (.Name "part" pos) (a9 17):=ba 17 ∅
def CB(aO:a_):SF:=(jN (aK false (af [(kI 5)] cJ)) (dz 4) (ap (cb 0 (ce uO (aK false (a9 0)) (dz 16) (c_ bg (gv (aK false (dw (bB (aF (a9 16) (kI 0)) (jF k9 (kS "|")) dK) (cg (a9 16) (aL (kI 2)) b9) (cW [(a9 16)]))) (dz 17) (c_ bg (aY (a9 17))))))) aP) aP)
theorem FS{aO:a_}(G:cK C)(h2:2≤n):aQ C n dU (dA (aq (ay 70)) 0) (CB aO):=(gu h2 (b_ (ct (fv:=.type "range") (G.no _ ∅) ∅ ∅ (bD _) dM (ag rfl am ae) (λzz=>rfl) (λzz=>rfl) ∅ ∅ ∅)) (bM Ky) (ak (bF (cF (bw ∅ h2 (λzz zz=>rfl) (ib _ _ _ _ _ _ _ _ _) (b_ fF) (bM DI) cH (km h2 (b_ (fW (cn (bj ou am (λzz zz=>rfl)) (JK G bT (λzz zz=>rfl) ∅ ∅) dR ∅) (dQ ou (cy am) dD) (cY (ag rfl ou ae)))) (bM Ay) cH ym (λzz zz=>rfl)))) DY (pF ∅)) aN) aN (λzz zz=>rfl))
abbrev uY:Scope:=jO [(".0",.local),("one",.local),("len",.globalImplicit)]
abbrev Iz:Cx:=bR dU uY
theorem Dt:aA C Iz "one" 16:=bu 16 ∅
theorem ES:ab C n Iz (.Name "one" pos) (a9 16):=ba 16 ∅
theorem G_:aA C dU "pair" 6:=bu 6 ∅
abbrev yn:Scope:=jO [(".0",.local),("places",.local),("_law_units",.globalImplicit),("cells",.free),("mates",.free)]
abbrev tn:Cx:=bR dU yn
theorem ud:aA C tn "places" 16:=bu 16 ∅
theorem tr:ab C n tn (.Name "places" pos) (a9 16):=ba 16 ∅
theorem xB:ab C n tn (.Name "mates" pos) (a9 1):=bE 1 3 ∅ (by decide) ∅ ∅ ∅
theorem xq:ab C n tn (.Name "cells" pos) (a9 2):=bE 2 3 ∅ (by decide) ∅ ∅ ∅
theorem l6:ab C n dU (.Name "asked" pos) (a9 3):=ba 3 ∅
theorem xL:ab C n dU (.Name "pair" pos) (a9 6):=ba 6 ∅
def tb(aO:a_):SF:=(jE (bB (ce uY (aK false (a9 0)) (dz 16) (c_ bg (aY (af [(a9 16)] dC)))) (aU [(kI 2),(kI 2)]) dK) (ap (ga 6 yn (aK false (cW [(aj (aF (aF (a9 0) (kI 0)) (kI 1)) (aF (aF (a9 0) (kI 1)) (kI 1)) aT),(aj (aF (aF (a9 0) (kI 1)) (kI 1)) (aF (aF (a9 0) (kI 0)) (kI 1)) aT)])) (dz 16) (c_ bg (aY (dx (kS "") [(af [(a9 16),(a9 1),(a9 2),(kB false)] bC)] fc))) false) (ap (cj (eg (a9 3) (cW [(aU [(dZ (af [(aF (a9 6) (kI 0))] ar) (kB true) LF),(dZ (af [(aF (a9 6) (kI 1))] ar) (kB false) LF)]),(aU [(kB true),(kB true)])]))) (ap (fe (kB true)) aP))) aP)
theorem IB{aO:a_}(G:cK C)(h2:2≤n)(h_law_units:aI C n "_law_units" bC)(h_check_parenthesis:aI C n "_check_parenthesis" ar):aQ C n dU (dA (aq (ay 70)) 1) (tb aO):=(gb (cn (cF (bw ∅ h2 (λzz zz=>rfl) (bN _ _ _ _ _ _) (b_ fF) (bM Dt) cH (bZ (ct (fv:=.builtin "len") (G.no _ ∅) ∅ ∅ (bf _) eW (ag rfl ES ae) (λzz=>rfl) (λzz=>rfl) ∅ ∅ ∅)))) (bb (ag rfl am (ag rfl am ae))) dR ∅) (ak (gx false (bw ∅ h2 (λzz zz=>rfl) (bN _ _ _ _ _ _) (b_ (cY (ag rfl (av (bj (bj fF am (λzz zz=>rfl)) am (λzz zz=>rfl)) (bj (bj fF am (λzz zz=>rfl)) am (λzz zz=>rfl)) br) (ag rfl (av (bj (bj fF am (λzz zz=>rfl)) am (λzz zz=>rfl)) (bj (bj fF am (λzz zz=>rfl)) am (λzz zz=>rfl)) br) ae)))) (bM ud) cH (bZ (fQ (λzz=>rfl) JZ Km g_ bT (ag rfl (ci h_law_units (ag rfl tr (ag rfl xB (ag rfl xq (ag rfl dj ae)))) (λzz=>rfl) ∅ ∅ ∅) ae) (λzz=>rfl) (λzz=>rfl)))) G_ (fg ∅ ∅ ∅ ∅)) (ak (cM (cz (λzz=>rfl) l6 (cY (ag rfl (bb (ag rfl (fB (ci h_check_parenthesis (ag rfl (bj xL am (λzz zz=>rfl)) ae) (λzz=>rfl) ∅ ∅ ∅) dj xG ∅) (ag rfl (fB (ci h_check_parenthesis (ag rfl (bj xL am (λzz zz=>rfl)) ae) (λzz=>rfl) ∅ ∅ ∅) dj xG ∅) ae))) (ag rfl (bb (ag rfl dj (ag rfl dj ae))) ae))) (λzz=>rfl)) ∅ (λzz=>rfl)) (ak (da dj) aN))) aN)
theorem YD:aA C dU "k" 7:=eX 7 ∅ ∅ ∅
theorem N9:aA C dU "one" 5:=eX 5 ∅ ∅ ∅
theorem O_:ab C n dU (.Name "one" pos) (a9 5):=bE 5 2 ∅ (by decide) ∅ ∅ ∅
theorem GB:aA C dU "ways" 8:=bu 8 ∅
theorem QA:ab C n dU (.Name "k" pos) (a9 7):=bE 7 2 ∅ (by decide) ∅ ∅ ∅
abbrev ow:Scope:=jO [(".0",.local),("j",.local),("k",.free),("one",.free),("roots",.free)]
abbrev rt:Cx:=bR dU ow
theorem NX:aA C rt "j" 16:=bu 16 ∅
theorem kn:ab C n rt (.Name "roots" pos) (a9 0):=bE 0 3 ∅ (by decide) ∅ ∅ ∅
theorem Co:ab C n rt (.Name "j" pos) (a9 16):=ba 16 ∅
theorem BM:ab C n rt (.Name "k" pos) (a9 7):=bE 7 3 ∅ (by decide) ∅ ∅ ∅
theorem sX:ab C n rt (.Name "one" pos) (a9 5):=bE 5 3 ∅ (by decide) ∅ ∅ ∅
theorem rJ:ab C n dU (.Name "ways" pos) (a9 8):=ba 8 ∅
abbrev n0:Scope:=jO [(".0",.local),("j",.local),("k",.free),("one",.free),("roots",.free)]
abbrev rj:Cx:=bR dU n0
theorem M_:aA C rj "j" 16:=bu 16 ∅
theorem sx:ab C n rj (.Name "one" pos) (a9 5):=bE 5 3 ∅ (by decide) ∅ ∅ ∅
theorem jV:ab C n rj (.Name "roots" pos) (a9 0):=bE 0 3 ∅ (by decide) ∅ ∅ ∅
theorem BU:ab C n rj (.Name "k" pos) (a9 7):=bE 7 3 ∅ (by decide) ∅ ∅ ∅
theorem B_:ab C n rj (.Name "j" pos) (a9 16):=ba 16 ∅
theorem sa:aA C dU "stretches" 10:=bu 10 ∅
abbrev o9:Scope:=jO [(".0",.local),("way",.local)]
abbrev yN:Cx:=bR dU o9
theorem EX:aA C yN "way" 16:=bu 16 ∅
theorem DU:ab C n yN (.Name "way" pos) (a9 16):=ba 16 ∅
abbrev nT:Scope:=jO [(".0",.local),("part",.local),("place",.local)]
abbrev tP:Cx:=bR yN nT
theorem yG:aA C tP "part" 17:=bu 17 ∅
theorem yY:ab C n tP (.Name "part" pos) (a9 17):=ba 17 ∅
theorem vP:aA C tP "place" 18:=bu 18 ∅
theorem wz:ab C n tP (.Name "place" pos) (a9 18):=ba 18 ∅
theorem Ex:aA C dU "texts" 11:=bu 11 ∅
theorem lh:ab C n dU (.Name "stretches" pos) (a9 10):=ba 10 ∅
abbrev qd:Scope:=jO [(".0",.local),("stretch",.local),("_law_units",.globalImplicit),("cells",.free),("mates",.free)]
abbrev tm:Cx:=bR dU qd
theorem rU:aA C tm "stretch" 16:=bu 16 ∅
theorem se:ab C n tm (.Name "stretch" pos) (a9 16):=ba 16 ∅
theorem vR:ab C n tm (.Name "mates" pos) (a9 1):=bE 1 3 ∅ (by decide) ∅ ∅ ∅
theorem wo:ab C n tm (.Name "cells" pos) (a9 2):=bE 2 3 ∅ (by decide) ∅ ∅ ∅
theorem z8:aA C dU "handed" 12:=bu 12 ∅
theorem kU:ab C n dU (.Name "texts" pos) (a9 11):=ba 11 ∅
theorem Ij:aA C dU "told" 13:=bu 13 ∅
theorem pT:ab C n dU (.Name "handed" pos) (a9 12):=ba 12 ∅
theorem qR:ab C n dU (.Name "told" pos) (a9 13):=ba 13 ∅
abbrev on:Scope:=jO [(".0",.local),("text",.local),("stretch",.local),("sorted",.globalImplicit),("mates",.free)]
abbrev qr:Cx:=bR dU on
theorem zV:aA C qr "text" 16:=bu 16 ∅
theorem sj:aA C qr "stretch" 17:=bu 17 ∅
theorem li:ab C n qr (.Name "stretch" pos) (a9 17):=ba 17 ∅
abbrev lN:Scope:=jO [(".0",.local),("place",.local),("mates",.free)]
abbrev As:Cx:=bR qr lN
theorem vY:aA C As "place" 18:=bu 18 ∅
theorem vB:ab C n As (.Name "mates" pos) (a9 1):=bE 1 3 ∅ (by decide) ∅ ∅ ∅
theorem vO:ab C n As (.Name "place" pos) (a9 18):=ba 18 ∅
theorem zn:ab C n qr (.Name "text" pos) (a9 16):=ba 16 ∅
theorem NH:aA C dU "way" 9:=bu 9 ∅
theorem Js:aA C dU "text" 14:=bu 14 ∅
theorem I8:aA C dU "kept" 15:=bu 15 ∅
theorem JW:ab C n dU (.Name "kept" pos) (a9 15):=ba 15 ∅
theorem JE:ab C n dU (.Name "text" pos) (a9 14):=ba 14 ∅
theorem B7:ab C n dU (.Name "way" pos) (a9 9):=ba 9 ∅
theorem sL:ab C n dU (.Name "mates" pos) (a9 1):=bE 1 2 ∅ (by decide) ∅ ∅ ∅
theorem sV:ab C n dU (.Name "cells" pos) (a9 2):=bE 2 2 ∅ (by decide) ∅ ∅ ∅
def Bl(aO:a_):SF:=(jN (c9 [(a9 0)] g9) (jh 7 5) (ap (jE (bB (aF (a9 5) (kI 0)) (jF k9 (kS "*")) dK) (ap (ga 8 ow (aK false (af [(aj (a9 7) (kI 1) aT)] cJ)) (dz 16) (c_ bg (aY (cW [(aj (cg (a9 0) (aL (a9 16)) (aL (a9 7))) (aU [(aF (a9 5) (kI 2))]) aT),(aj (aj (cg (a9 0) b9 (aL (a9 16))) (aU [(aF (a9 5) (kI 3))]) aT) (cg (a9 0) (aL (aj (a9 7) (kI 1) aT)) b9) aT)]))) true) (ap (cj (sk (a9 8) (ce n0 (aK false (af [(aj (a9 7) (kI 1) aT),(aj (af [(a9 0)] dC) (kI 1) aT)] cJ)) (dz 16) (c_ bg (aY (cW [(aj (aU [(aF (a9 5) (kI 3))]) (cg (a9 0) (aL (aj (a9 7) (kI 1) aT)) (aL (a9 16))) aT),(aj (aj (cg (a9 0) b9 (aL (a9 7))) (aU [(aF (a9 5) (kI 2))]) aT) (cg (a9 0) (aL (a9 16)) b9) aT)])))))) (ap (ga 10 o9 (aK false (a9 8)) (dz 16) (c_ bg (aY (ce nT (aK false (aF (a9 16) (kI 0))) (dz 17) (c_ bg (gv (aK false (aF (a9 17) (kI 1))) (dz 18) (c_ bg (aY (a9 18)))))))) false) (ap (ga 11 qd (aK false (a9 10)) (dz 16) (c_ bg (aY (dx (kS "") [(af [(a9 16),(a9 1),(a9 2),(kB false)] bC)] fc))) false) (ap (cb 12 (af [(a9 11)] lY)) (ap (cb 13 (af [(a9 12)] aX)) (ap (cj (sk (a9 3) (aU [(cW [(af [(a9 13)] lY),(ce on (c9 [(a9 11),(a9 10)] ln) (jh 16 17) (c_ bg (aY (dw (bB (af [(ce lN (aK false (a9 17)) (dz 18) (c_ bg (aY (aF (a9 1) (a9 18)))))] l4) (a9 17) dK) (a9 16) (kS "('', '')")))))]),(cW [(a9 12),(a9 11)])]))) (ap (cj (eg (a9 13) (kS ""))) (ap (jN (c9 [(a9 8),(a9 11),(a9 13)] Bv) (YX 9 14 15) (ap (jE (bB (a9 15) (a9 14) dK) (ap (fe (si (af [(aF (a9 9) (kI 0)),(a9 1),(a9 2),(a9 3)] aO) (af [(aF (a9 9) (kI 1)),(a9 1),(a9 2),(a9 3)] aO))) aP) aP) aP) aP) aP))))))))) aP) aP) aP)
theorem JS{aO:a_}(G:cK C)(h2:2≤n)(h_law_units:aI C n "_law_units" bC)(h_check_parenthesis:aI C n "_check_parenthesis" ar)(h_pre_parse_validation:aI C n "_pre_parse_validation" aX)(h_law_proved:aI C n "_law_proved" aO):aQ C n dU (dA (aq (ay 70)) 2) (Bl aO):=(gu h2 (kz (fv:=.type "enumerate") (G.no _ ∅) ∅ ∅ (bD _) iS (ag rfl fF ae) (λzz=>rfl) (λzz=>rfl) ∅ ∅ ∅) (eY YD N9) (ak (gb (cn (bj O_ am (λzz zz=>rfl)) (JK G bT (λzz zz=>rfl) ∅ ∅) dR ∅) (ak (gx true (bw ∅ h2 (λzz zz=>rfl) (bN _ _ _ _ _ _) (b_ (ct (fv:=.type "range") (G.no _ ∅) ∅ ∅ (bD _) dM (ag rfl (av QA am br) ae) (λzz=>rfl) (λzz=>rfl) ∅ ∅ ∅)) (bM NX) cH (bZ (cY (ag rfl (av (dQ kn (cy Co) (cy BM)) (bb (ag rfl (bj sX am (λzz zz=>rfl)) ae)) br) (ag rfl (av (av (dQ kn dD (cy Co)) (bb (ag rfl (bj sX am (λzz zz=>rfl)) ae)) br) (dQ kn (cy (av BM am br)) dD) br) ae))))) GB (fg ∅ ∅ ∅ ∅)) (ak (cM (kJ (λzz=>rfl) rJ (cF (bw ∅ h2 (λzz zz=>rfl) (bN _ _ _ _ _ _) (b_ (ct (fv:=.type "range") (G.no _ ∅) ∅ ∅ (bD _) dM (ag rfl (av QA am br) (ag rfl (av (ct (fv:=.builtin "len") (G.no _ ∅) ∅ ∅ (bf _) eW (ag rfl fF ae) (λzz=>rfl) (λzz=>rfl) ∅ ∅ ∅) am br) ae)) (λzz=>rfl) (λzz=>rfl) ∅ ∅ ∅)) (bM M_) cH (bZ (cY (ag rfl (av (bb (ag rfl (bj sx am (λzz zz=>rfl)) ae)) (dQ jV (cy (av BU am br)) (cy B_)) br) (ag rfl (av (av (dQ jV dD (cy BU)) (bb (ag rfl (bj sx am (λzz zz=>rfl)) ae)) br) (dQ jV (cy B_) dD) br) ae)))))) (λzz=>rfl)) ∅ (λzz=>rfl)) (ak (gx false (bw ∅ h2 (λzz zz=>rfl) (bN _ _ _ _ _ _) (b_ rJ) (bM EX) cH (bZ (cF (bw ∅ h2 (λzz zz=>rfl) (ib _ _ _ _ _ _ _ _ _) (b_ (bj DU am (λzz zz=>rfl))) (bM yG) cH (km h2 (b_ (bj yY am (λzz zz=>rfl))) (bM vP) cH wz (λzz zz=>rfl)))))) sa (fg ∅ ∅ ∅ ∅)) (ak (gx false (bw ∅ h2 (λzz zz=>rfl) (bN _ _ _ _ _ _) (b_ lh) (bM rU) cH (bZ (fQ (λzz=>rfl) JZ Km g_ bT (ag rfl (ci h_law_units (ag rfl se (ag rfl vR (ag rfl wo (ag rfl dj ae)))) (λzz=>rfl) ∅ ∅ ∅) ae) (λzz=>rfl) (λzz=>rfl)))) Ex (fg ∅ ∅ ∅ ∅)) (ak (bF (ct (fv:=.type "list") (G.no _ ∅) ∅ ∅ (bD _) tC (ag rfl kU ae) (λzz=>rfl) (λzz=>rfl) ∅ ∅ ∅) z8 (λzz zz=> ∅)) (ak (bF (ci h_pre_parse_validation (ag rfl pT ae) (λzz=>rfl) ∅ ∅ ∅) Ij (λzz zz=> ∅)) (ak (cM (kJ (λzz=>rfl) l6 (bb (ag rfl (cY (ag rfl (ct (fv:=.type "list") (G.no _ ∅) ∅ ∅ (bD _) tC (ag rfl qR ae) (λzz=>rfl) (λzz=>rfl) ∅ ∅ ∅) (ag rfl (cF (bw ∅ h2 (λzz zz=>rfl) (bN _ _ _ _ _ _) (kz (fv:=.type "zip") (G.no _ ∅) ∅ ∅ (bD _) BD (ag rfl kU (ag rfl lh ae)) (λzz=>rfl) (λzz=>rfl) ∅ ∅ ∅) (eY zV sj) cH (bZ (fW (cn (ct (fv:=.builtin "sorted") (G.no _ ∅) ∅ ∅ (bf _) De (ag rfl (cF (bw ∅ h2 (λzz zz=>rfl) (bN _ _ _ _ _ _) (b_ li) (bM vY) cH (bZ (bj vB vO (λzz zz=>rfl))))) ae) (λzz=>rfl) (λzz=>rfl) ∅ ∅ ∅) li dR ∅) zn bT)))) ae))) (ag rfl (cY (ag rfl pT (ag rfl kU ae))) ae))) (λzz=>rfl)) ∅ (λzz=>rfl)) (ak (cM (cz (λzz=>rfl) qR bT (λzz=>rfl)) ∅ (λzz=>rfl)) (ak (gu h2 (kz (fv:=.type "zip") (G.no _ ∅) ∅ ∅ (bD _) MX (ag rfl rJ (ag rfl kU (ag rfl qR ae))) (λzz=>rfl) (λzz=>rfl) ∅ ∅ ∅) (HV NH Js I8) (ak (gb (cn JW JE dR ∅) (ak (da (xZ (ci h_law_proved (ag rfl (bj B7 am (λzz zz=>rfl)) (ag rfl sL (ag rfl sV (ag rfl l6 ae)))) (λzz=>rfl) ∅ ∅ ∅) (ci h_law_proved (ag rfl (bj B7 am (λzz zz=>rfl)) (ag rfl sL (ag rfl sV (ag rfl l6 ae)))) (λzz=>rfl) ∅ ∅ ∅))) aN) aN) aN) aN (λzz zz=>rfl)) aN))))))))) aN) aN) aN (λzz zz=>rfl))
def Gk(aO:a_):SF:=(fe (kB false))
theorem J9{aO:a_}(G:cK C)(h2:2≤n)(h_law_units:aI C n "_law_units" bC)(h_check_parenthesis:aI C n "_check_parenthesis" ar)(h_pre_parse_validation:aI C n "_pre_parse_validation" aX)(h_law_proved:aI C n "_law_proved" aO):aQ C n dU (dA (aq (ay 70)) 3) (Gk aO):=(da dj)
def f70(aO:a_):SF:=(ap (CB aO) (ap (tb aO) (ap (Bl aO) (ap (Gk aO) aP))))
theorem b70{aO:a_}(G:cK C)(h2:2≤n)(h_law_units:aI C n "_law_units" bC)(h_check_parenthesis:aI C n "_check_parenthesis" ar)(h_pre_parse_validation:aI C n "_pre_parse_validation" aX)(h_law_proved:aI C n "_law_proved" aO):cD C n dU (aq (ay 70)) (f70 aO):=(ak (FS G h2) (ak (IB G h2 h_law_units h_check_parenthesis) (ak (JS G h2 h_law_units h_check_parenthesis h_pre_parse_validation h_law_proved) (ak (J9 G h2 h_law_units h_check_parenthesis h_pre_parse_validation h_law_proved) aN))))
theorem c70{aO:a_}(G:cK C)(h2:2≤n)(h_law_units:aI C n "_law_units" bC)(h_check_parenthesis:aI C n "_check_parenthesis" ar)(h_pre_parse_validation:aI C n "_pre_parse_validation" aX)(h_law_proved:aI C n "_law_proved" aO)(h:dp C "_law_proved" 70):aI C (n+1) "_law_proved" (cC 4 (ao (ay 70)) (f70 aO)):=
 gU ["roots","mates","cells","asked"] h (b70 G h2 h_law_units h_check_parenthesis h_pre_parse_validation h_law_proved) (λzz zz zz=>Ri λzz zz zz zz=> ∅) ∅ ∅ ∅ ∅ ∅
noncomputable def Ig:Nat→a_
 |0=> λzz zz=>none
 |m+1=>cC 4 (ao (ay 70)) (f70 (Ig m))
theorem d70(G:cK C)(h2:2≤n)(h_law_units:aI C n "_law_units" bC)(h_check_parenthesis:aI C n "_check_parenthesis" ar)(h_pre_parse_validation:aI C n "_pre_parse_validation" aX)(h:dp C "_law_proved" 70):∀m,aI C (n+m) "_law_proved" (Ig m)
 |0=>tV h
 |m+1=>c70 G (L2 h2 (Fv ..)) (h_law_units.mono (Fv ..)) (h_check_parenthesis.mono (Fv ..)) (h_pre_parse_validation.mono (Fv ..)) (d70 G h2 h_law_units h_check_parenthesis h_pre_parse_validation h m) h
noncomputable def aO:a_:=Ig 12
end
noncomputable def qC(μ:List ah)(i:Nat):Option (List ah):=bo (μ[i]?.bind QI) λxs=>oe (uncons xs) (some ()) (λp zz=>oe (dI p.1) (uncons p.2) (λzz zz=>none) (bo (dI p.1) λb=>if D3 b 64≠0∧(HL (D3 b 63):Int)+6≤2^27 then some (μ.set i (.iter [])) else none)) (some (μ.set i (.iter [])))
theorem PM(h:qC μ i=some μ')(k1:μ[i]? =some (.iter [])→μ'=μ.set i (.iter [])→G)
  (k2:∀b,μ[i]? =some (.iter [.int b])→D3 b 64≠0∧(HL (D3 b 63):Int)+6≤2^27→μ'=μ.set i (.iter [])→G):G:=by
 refine ax h λxs e h=>?_;cases xs with
 |nil=>exact k1 (ul e) (Fi h).symm
 |cons d t=>
  have h:oe (dI d) (uncons t) (λzz zz=>none) (bo (dI d) λb=>if D3 b 64≠0∧(HL (D3 b 63):Int)+6≤2^27 then some (μ.set i (.iter [])) else none)=some μ':=h;cases hd:dI d with
  |none=>rw [hd] at h;exact cv h
  |some b=>
   rw [hd] at h
   cases t with
   |nil=>exact i9 h λhc h=>k2 b (by rw [Vk hd] at e;exact ul e) hc (Fi h).symm
   |cons _ _=>exact cv h
noncomputable def cQ:a_:= λVs μ=>bo (l1 Vs) λV=>bo (Fk V) λi=>(aR [.c i] μ).elim (bo (qC μ i) λμ'=>some (.d (.list []),μ')) (λp=>bo (vd p.1) λx=>some (.d (.list [x]),p.2))
end Mine
namespace Mine
open PySem PySem.W PySem.Calls PyProof.Rows
open Sem (wp)
variable {V V' : AV} {Cn D L TI TO a fa i1 i2 i3 z : Addr} {A : Around} {items zs : Array Value} {sh tup : Bool} {cf : CF} {c c' : ah} {C : gL} {cx : Cx} {f fi fo g : EF} {cenv env : Env} {mean : ExcName → Option Value} {e e1 e2 elt iter target test : Expr} {fl : Fl} {h h' : Heap} {itf : IF} {y : Int} {Vs : List AV} {M M' O T T' W wr α α' α1 α₀ : List Addr} {Mid : List Addr → List Addr → List Addr → List ah → Nat → Value → Shared → Prop} {St : List Addr → xN} {μ μ' μ'' μ1 μ2 μ3 μ₀ : List ah} {fs : List EF} {es : List Expr} {K cs ns os rest : List Int} {gi ls m ps : List Nat} {X acc acc' ds xs ys : List PyData} {body orelse : List Stmt} {vs : List Value} {ρ ρ' ρ1 ρ2 : d5} {tf : d5 → PyData → Option d5} {b i j ja jt k kk low mask n p q tk : Nat} {o : Obj} {op : Operator} {ha ke td te tx : Option AV} {hi lo : Option Expr} {gg : Option Nat} {apos pos px py sp tp xp : Pos} {prog : Program} {G : Prop} {d : PyData} {sc scope : Scope} {s s' s'' s1 s₀ : Shared} {spec : a_} {st : Stmt} {name x : Str} {t : TF} {u : Tok} {cd cls doc fv it pm v : Value} {E Q : Value → Shared → Prop} {w : World}
section
variable {M:Model} {R:GenEnd} {Y:Protocol} {c:Code} {fs:List Frame}
 {K:Flow→Sem Fin} {H:Value→Sem Fin} {gd:Bool→Bool} {lv:List Value→List Value}
theorem pI(h:wpAny M (A.over c fs) (exec st env) (λf s'=>Seg M A R Y n s₀ c (K f) fs s') (λx s'=>Seg M A R Y n s₀ c (H x) fs s') s):
 Seg M A R Y n s₀ c ((exec st env).wrap K H gd lv) fs s:=Sh h
theorem VP
  (h:wpAny M (A.over c fs) (isTrue test env (eval test env)) (λb s'=>if b=true then Seg M A R Y n s₀ c ((execs body env).wrap K H gd lv) fs s' else Seg M A R Y n s₀ c ((execs orelse env).wrap K H gd lv) fs s') (λx s'=>Seg M A R Y n s₀ c (H x) fs s') s):
  Seg M A R Y n s₀ c ((exec (.If test body orelse pos) env).wrap K H gd lv) fs s:=by
 rw [exec_If];refine seg_at ?_
 show Seg M A R Y n s₀ c (UP K H gd lv (isTrue test env (eval test env)>>= λb=>if b=true then execs body env else execs orelse env)) fs s
 rw [LC,MW];refine Sh (D1 h (λb s' hb=>?_) λzz zz x=>x);cases b with
 |true=>simpa using hb
 |false=>simpa using hb
theorem O8(hs:∀x,foldedSetIterable iter env x=pure x)
  (h:wpAny M (A.over c fs) (eval iter env) (λx s1=>wpAny M (A.over c fs) (pyIter x) (λit s2=>∀p,Seg M A R Y n s₀ (.forLoop target it body orelse env) (M.den (.forLoop target it body orelse env))
   (.ret (λr=>((match r with| .ok f=>(.pure f:Sem Flow)| .error e=>.raise e).onRaise λ(x:Value)=>do
    if (←field x 1)==Lm then unsupported "frame.own-activation:exception-without-traceback"
    setFlight x env.frame).wrap K H gd lv) none (gd false) (lv []) c p []::fs) s2) (λx s'=>Seg M A R Y n s₀ c (H x) fs s') s1) (λx s'=>Seg M A R Y n s₀ c (H x) fs s') s):
  Seg M A R Y n s₀ c ((exec (.For target iter body orelse pos) env).wrap K H gd lv) fs s:=by
 rw [exec_For];refine seg_at ?_
 show Seg M A R Y n s₀ c (UP K H gd lv (eval iter env>>= λx=>foldedSetIterable iter env x>>= λx=>standAt iter.pos>>= λzz=>holding [x] (pyIter x)>>= λit=>runOwn (.forLoop target it body orelse env) env)) fs s
 rw [LC,MW];refine Sh (D1 h (λx s1 h1=>?_) λzz zz x=>x);rw [hs]
 show Seg M A R Y n s₀ c (.at iter.pos λzz=>UP K H gd lv (holding [x] (pyIter x)>>= λit=>runOwn (.forLoop target it body orelse env) env)) fs s1
 refine seg_at ?_;rw [LC,MW];refine Sh (Lc (D1 h1 (λit s2 h2=>?_) λzz zz x=>x));exact seg_call h2
end
section
variable {R:GenEnd} {Y:Protocol} {fs:List Frame}
theorem oC
  (h:wpAny (model prog w) (A.over (.forLoop target it body orelse env) fs) (pyNext it) (λr s1=>match r with
   |none=>Seg (model prog w) A R Y n s₀ (.block orelse env) ((model prog w).den (.block orelse env)) fs s1
   |some v=>wpAny (model prog w) (A.over (.forLoop target it body orelse env) fs) (letOwnedTupleGo target it v) (λzz s2=>wpAny (model prog w) (A.over (.forLoop target it body orelse env) fs) (assign target env v) (λzz s3=>
     Seg (model prog w) A R Y n s₀ (.forLoop target it body orelse env) ((execs body env).wrap (λf=>match f with
      | .next| .cont=>.pure (.again (.forLoop target it body orelse env))
      | .brk=>.pure (.done .next)
      | .ret v=>.pure (.done (.ret v))) (λe=>(do noteFrame e env;theTreesLotGoes e:Sem Unit).wrap (λzz=>.raise e) .raise id id) id id) fs s3) (λzz zz=>False) s2) (λzz zz=>False) s1) (λzz zz=>False) s):
  Seg (model prog w) A R Y n s₀ (.forLoop target it body orelse env) ((model prog w).den (.forLoop target it body orelse env)) fs s:=by
 refine (?_:Seg _ A R Y n s₀ _ ((forTurn target it body orelse env).onRaise (λx=>do noteFrame x env;theTreesLotGoes x)) fs s);unfold forTurn;rw [Sem.onRaise_eq_wrap];refine seg_at ?_;refine (?_:Seg _ A R Y n s₀ _ (UP .pure _ id id (((pyNext it).onRaise _)>>=_)) fs s);rw [LC,MW];refine Sh (Ta (D1 h (λr s1 h1=>?_) λzz zz x=>x.elim));cases r with
 |none=>exact Uh rfl h1
 |some v=>
  dsimp only at h1⊢
  rw [LC,MW];refine Sh (D1 h1 (λzz s2 h2=>?_) λzz zz x=>x.elim);rw [LC,MW];refine Sh (D1 h2 (λzz s3 h3=>?_) λzz zz x=>x.elim);rw [LC,MW];rw [Sem.wrap_congr (execs body env) _ _ (K':= λf=>match f with
      | .next| .cont=>.pure (.again (.forLoop target it body orelse env))
      | .brk=>.pure (.done .next)
      | .ret v=>.pure (.done (.ret v))) (H':=(λe=>(do noteFrame e env;theTreesLotGoes e:Sem Unit).wrap (λzz=>.raise e) .raise id id))
    (λf=>by cases f<;>rfl)
    (λe=>by first|exact TY _ _| (show (do noteFrame e env;theTreesLotGoes e:Sem Unit).bind (λzz=>.raise e)=_;rw [TY]))]
  exact h3
end
noncomputable def A0:Around:=⟨none,591,none,none,9099⟩
theorem Zq{Γ:Ctx}(R:cR A 2)(h:Γ.In A):Γ.In A0:=by
 refine ig h λh1 h2 h3 h4 h5=>?_;have d:=R.depth;have u:=R.units;unfold cLine at u
 refine (uJ (by rw [h1,R.handled];rfl) ?_ (λl e=>by exact cv e) (λg e=>by exact cv e) ?_)
 ·show _≤591;lia
 ·show _≤9099;lia
theorem wI{M:Model}{α:Type}{m:Sem α}{Q:α→Shared→Prop}(R:cR A 2)(h:wpAny M A0 m Q E s):wpAny M A m Q E s:=
 λΓ p hΓ=>h Γ p (Zq R hΓ)
section
theorem oP{g:Nat}{gs:GenState}{P:Nat→Shared→Shared→Prop}{Y:Protocol}{Q:Option Value→Shared→Prop}(hh:A.handled=none)
  (hl:s.heap.NoLimit) (hroom:A.depth<recursionLimit)
  (hg:s.heap.IsGen a g) (hgs:s.gens[g]? =some gs)
  (hgo:gs.Goes (model prog w) A.in1 (λn s₀ r s₁=>r=.ok (.ret .none)∧P n s₀ s₁) Y n (.send .none) (s.setGen g .running))
  (hY:∀v s₁ gs',gs'.bare=true→Y (n-1) (s.setGen g .running) v s₁ (λr' s''=>match n with
    |0=>False
    |m+1=>gs'.Goes (model prog w) A.in1 (λn s₀ r s₁=>r=.ok (.ret .none)∧P n s₀ s₁) Y m r' s'')→Q (some v) (s₁.setGen g gs'))
  (hP:∀s₁,P n (s.setGen g .running) s₁→∀h',(∀b o,s₁.heap.get? b=some o→h'.get? b=some o)→Q none {s₁.setGen g .finished with heap:=h'}):
  wpAny (model prog w) A (pyNext (.ref a)) Q E s:=by
 unfold pyNext;refine zm (Tc (Jq (name:=Ku "__next__") hg.typeIs slot_gen_next
  (Lj slot_gen_next hg.typeIs entry_gen_next ?_ (args_gen_next _))))
 refine (?_:wpAny _ A.in1 (Qf (.ref a) (.send .none)) _ _ s);unfold Qf;refine zm (Lc (wpAny_genNumber hg (zm (wpAny_genState hgs ?_))));cases gs with
 |running=>exact hgo.elim
 |finished=>exact hgo.elim
 |_=>
  refine zm (wpAny_roomToWake hl hroom ?_);refine (?_:wpAny _ A.in1 (.resume g (.send .none) [] _) _ _ s);refine wpAny_resumeQ hgs hgo (λx s₁ hx=>?_) (λv s₁ gs' hb hv=>?_)
  ·refine f_ hx λzq0 hp=>?_
   refine bH (F6 zq0) ?_;refine (?_:wpAny _ A.in1 (newExc (.type "StopIteration") []>>=_) _ _ _);refine zm ?_;simp only [newExc,newTuple];refine zm (Il ?_ (by size_fits));refine zm (m:=firstArgMember _ _) (Mm (a:=Lm) (by first|rfl| (simp only [firstArgMember];rfl)) ?_);refine Il ?_ (by size_fits);refine zm (NO hh ?_);refine zm (Rj (T:="StopIteration") (b:=true) (aZ _ (D5 _ rfl) rfl) SA ?_);exact EY (hP s₁ hp _ λb o hb=>B8 _ (B8 _ hb))
  ·exact EY (aZ v rfl (EY (hY v s₁ gs' hb hv)))
theorem T6{g:Nat}{t:Expr}{Q:Unit→Shared→Prop}(hg:s.heap.IsGen a g)(h:Q () s):wpAny (model prog w) A (letOwnedTupleGo t (.ref a) v) Q E s:=by
 have key:∀t:Expr,letOwnedTupleGo t (.ref a) v=letOwnedTupleGo (.List [] ⟨0,0,0,0⟩) (.ref a) v∨letOwnedTupleGo t (.ref a) v=pure ():= λt=>by cases t<;>first|exact .inr rfl|exact .inl rfl
 refine (key t).elim (λe=>?_) λe=>?_
 ·rw [e]
  cases v with
  |ref b=>
   refine dk hg λo nm qn ho hc hd hsl=>?_;refine (?_:wpAny _ A (load a>>=_) _ _ s);refine zm (wpAny_load ho ?_);rw [hc,hd];refine (?_:wpAny _ A (if (["enumerate","zip","dict_itemiterator","dict_reverseitemiterator","odict_iterator","itertools.zip_longest","itertools.pairwise"].contains "generator"&&_)=true then _ else _) _ _ s);rw [if_neg (by simp)];exact EY h
  |_=>exact EY h
 ·rw [e];exact EY h
end
section
variable {M:Model} {R:GenEnd} {Y:Protocol} {fs:List Frame}
theorem rQ{k:Result→Sem Fin}{h:Option Value}{g:Bool}{l:List Value}{c₁:Code}{p₁:Pos}{kp:List Value}
  (hk:Seg (model prog w) A R Y n s₀ c₁ (k (.ok .next)) fs s):Seg (model prog w) A R Y n s₀ (.block [] env) ((model prog w).den (.block [] env)) (.ret k h g l c₁ p₁ kp::fs) s:=by
 have:(model prog w).den (.block [] env)=leafOf (.ok .next):=rfl
 rw [this];exact seg_leaf (.ok .next) hk
end
theorem bl.movesG(I:bl C T α μ s)(x:aG wr gi s s')(hw:∀b∈wr,b∈T∨s.heap.get? b=none)(hT:∀a∈T',a∈T∨s.heap.get? a=none)(hd:∀a∈T',∃o,s'.heap.get? a=some o):bl C T' α μ s':=by
 have nw:∀b,b∈T∨s.heap.get? b=none→C.B.get? b=none:= λb hb=>hb.elim (I.tnew b) I.fresh;have nα:∀b,b∈T∨s.heap.get? b=none→b∉α:= λb hb q=>hb.elim (λz=>I.apart b z q) (I.cdom q);have k:iI wr (T++ai α μ) s.heap:= λa ha=>(hw a ha).elim (λz=>.inr (.inr (yx _ z))) .inl;exact ⟨λb o e=>x.ext b o (I.keep b o e) λq=>cv ((nw b (hw b q)).symm.trans e),I.len,λi a c h1 h2=>(I.cells i a c h1 h2).ext x.ext k (Bj hT) (λzz q=>nα a (hw a q) (GR h1)),I.nodup,λa ha=>nα a (hT a ha),hd,λa ha=>nw a (hT a ha),I.new,x.bare I.gens,x.os.trans I.os⟩
theorem bl.base(I:bl C T α μ s)(hT:∀a∈T',a∈T):bl C T' [] [] s:=
 ⟨I.keep,rfl,λi a c h1 zz=>cv h1,N5,λa zz h=>(nomatch h),λa ha=>I.tdom a (hT a ha),λa ha=>I.tnew a (hT a ha),λa h=>(nomatch h),I.gens,I.os⟩
theorem vw{gens:Array GenState}{g:Nat}{x:GenState}(h:AllBare gens)(hx:x.bare=true):AllBare (gens.setIfInBounds g x):= λy hy=>by
 obtain ⟨i,hi,rfl⟩:=Array.mem_iff_getElem.mp hy;have hi':i<gens.size:=by simpa using hi
 rw [Array.getElem_setIfInBounds hi']
 split
 ·exact hx
 ·exact h _ (Array.getElem_mem hi')
theorem bl.setGen{g:Nat}{x:GenState}(I:bl C T α μ s)(hx:x.bare=true):bl C T α μ (s.setGen g x):=
 ⟨I.keep,I.len,I.cells,I.nodup,I.apart,I.tdom,I.tnew,I.new,vw I.gens hx,I.os⟩
theorem aG.setGen{g:Nat}{x:GenState}(hx:x.bare=true):aG [] [g] s (s.setGen g x):=
 ⟨λzz zz zz e=>e,λi y hi e=>by
  refine (?_:(s.gens.setIfInBounds g x)[i]? =some y);rw [Mc (λq=>hi (by simp [q]))];exact e,rfl,λh=>vw h hx⟩
theorem aG.mono{wr':List Addr}{gi':List Nat}(x:aG wr gi s s')(h:∀a∈wr,a∈wr'∨s.heap.get? a=none)(hg:∀a∈gi,a∈gi'):aG wr' gi' s s':=
 ⟨λb o hb e=>x.heap b o (λq=>(h b q).elim hb λz=>by rw [z] at e;exact cv e) e,λi y hi e=>x.gens i y (λq=>hi (hg i q)) e,x.os,x.bare⟩
theorem aG.of_step(S:aV O [] [] s [] [] s')(I:bl C T [] [] s)(I':bl C T' [] [] s'):aG O [] s s':=
 ⟨λb o hb e=>S.ext b o e λq=>hb (by simpa [ai] using q),λi x zz e=>S.gens i x e,I'.os.trans I.os.symm,λzz=>I'.gens⟩
abbrev rY:Cx:=dh (ao (ay 1))
theorem kR:rY.names=([("addr",1),("pos",1),("escape",1),("ch",1)]:List (Str×Nat)):= ∅
structure Af (env:Env) (L:Addr):Prop where
 lo:env.locals=L
 sc:env.scope=rY.scope
 gl:env.globals=mainGlobals
 bn:env.builtins=builtinsNs
def Q8(x:Str)(i:Nat)(v:Value):Prop:=∃c u,x.cps[i]? =some c∧v=V8 ⟨#[c]⟩ u
noncomputable def mO(x:Str)(p:Int)(esc:Bool)(c:Option AV):d5:=[some (.d (.str x)),some (.d (.int p)),some (.d (.bool esc)),c]
theorem Zi{m:Str→Option Value}(G:Af env L)(hn:h.Ns L m)(hb:C.B.get? L=none)(hL:L∉T)(hl:ρ.length=4)
  (hv:∀ (i:Nat) x V,rY.names[i]? =some (x,1)→ρ[i]? =some (some V)→∃v,m x=some v∧bq h [] (T++ai [] []) v V):bi C rY env [L] ρ h [] (T++ai [] []):=by
 have hk1:∀ (i:Nat) x k,rY.names[i]? =some (x,k)→k=1:= λi x k e=>by
  rw [kR] at e
  have:=GR e
  simp only [Cp,QT,Ew,or_false] at this
  rcases this with ⟨_,q⟩| ⟨_,q⟩| ⟨_,q⟩| ⟨_,q⟩<;>exact q
 refine ⟨G.sc,G.gl,G.bn,by rw [hl,kR];rfl,(aZ m (by rw [G.lo];exact hn) hv),⟨λzz=>0,λi x k e h2=>?_,λi x k e h2=>?_,λi x e=>?_,λi j x y k l e1 e2 h1 h2 q=>?_⟩,λa ha=>?_,by rw [G.lo];simp,λa ha q=>?_,λi j x e1 e2=>?_⟩
 ·have:=hk1 i x k e;lia
 ·have:=hk1 i x k e;lia
 ·have:=hk1 i x 2 e;lia
 ·have:=hk1 i x k e1;lia
 ·obtain rfl:a=L:=by simpa using ha
  exact ⟨fT hn,hb⟩
 ·have ha':a∈T:=by simpa [ai] using ha
  rcases q with (q| ⟨i,x,k,e,h2,_⟩)|q
  ·rw [G.lo] at q;exact hL (q▸ha')
  ·have:=hk1 i x k e;lia
  ·obtain rfl:a=L:=by simpa using q
   exact hL ha'
 ·exact r8 (scope:=ao (ay 1)) (of_decide_eq_true ∅) e1 e2
noncomputable def gh:Option AV→Prop
 |some (.d (.str _))=>True
 |some (.d (.int _))=>True
 |some (.d (.bool _))=>True
 |none=>True
 |_=>False
theorem U5{i:Int}:∀d∈([.int i,.str x]:List PyData),gh (some (.d d)):= λd h=>by
 rcases Cp.mp h with h|h
 ·rw [h];trivial
 ·rw [AA.mp h];trivial
theorem qF(h:gh (some V)){h1 h2:Heap}{α2 M1 M2:List Addr}(r:bq h1 α1 M1 v V):bq h2 α2 M2 v V:=by
 match V,h,r with
 | .d (.str _),_,r=>refine bP (aJ.of_str r) λt zq1=>?_;refine bH (F6 zq1) ?_;exact aJ.str ..
 | .d (.int _),_,r=>refine bP (aJ.of_int r) λt zq1=>?_;refine bH (F6 zq1) ?_;exact aJ.int ..
 | .d (.bool _),_,r=>obtain rfl:=aJ.of_bool r;exact aJ.bool ..
theorem uo{m:Str→Option Value}(hn:h.Ns L m)(hs:∀o,h.get? L=some o→h'.get? L=some o):h'.Ns L m:=by
 refine fE hn λob es ep e d=>?_;exact (lw ob es ep (hs _ e) d)
theorem bi.same(G:Af env L)(F:bi C rY env [L] ρ h [] (T++ai [] []))(hs:∀o,h.get? L=some o→h'.get? L=some o)(hsm:∀V∈ρ,gh V):bi C rY env [L] ρ h' [] (T++ai [] []):=by
 refine au F.loc λm hm hq=>?_;rw [G.lo] at hm
 refine Zi G (uo hm hs) (F.own L (by simp)).2 (λq=>F.off L (yx _ q) (.inr (by simp))) (by rw [F.len,kR];rfl) λi x V e1 e2=>?_;refine au (hq i x V e1 e2) λv e r=>?_;exact (aZ v e (qF (hsm _ (GR e2)) r))
section
open PySem.Builtin PySem.Builtin.Str in
theorem mB{it:Addr}{t:Tok}(hh:A.handled=none)
  (hit:s.heap.IsStrIter it "str_ascii_iterator" x t i) (hx:x.cps[i]? =none)
  (hE:∀h' e,P4 it s.heap h'→(∃o,h'.get? it=some o)→(∃o,h'.get? e=some o∧o.cls=.type "StopIteration")→E (.ref e) {s with heap:=h'}):
  wpAny (model prog w) A (L5 (.ref it)) Q E s:=by
 refine cq (id hit) λo ho hc hd=>?_;unfold L5;refine zm (Jq (name:=Ku "__next__") hit.typeIs Pk
  (Lj Pk hit.typeIs F.entry_str_ascii_iterator_next ?_ (F.args_str_ascii_iterator_next_1 _)))
 refine (?_:wpAny _ _ (field (.ref it) 0>>=_) _ _ s);refine zm (L1 ho hd (x:=.str x t) rfl ?_);refine (?_:wpAny _ _ (field (.ref it) 1>>=_) _ _ s);refine zm (L1 ho hd (x:=.int i 0) rfl ?_);simp only [Fs,hx];refine zm (O6 (zm (P8 ho hd (by simp) (zm (SP ?_)))));refine (?_:wpAny _ _ (newExc (.type "StopIteration") []>>=_) _ _ _);refine zm ?_;simp only [newExc,newTuple];refine zm (Il ?_ (by size_fits));refine zm (m:=firstArgMember _ _) (Mm (a:=Lm) (by first|rfl| (simp only [firstArgMember];rfl)) ?_);refine Il ?_ (by size_fits);refine NO hh ?_;exact hE _ _ (((L9 ..).extBut.push _).push _) ⟨_,B8 _ (B8 _ (Fw _ ho (M0 (Lf hd _))))⟩ (aZ _ (D5 _ rfl) rfl)
open PySem.Builtin PySem.Builtin.Str in
theorem nH{it:Addr}{t:Tok}(hh:A.handled=none)
  (hit:s.heap.IsStrIter it "str_iterator" x t i) (hx:x.cps[i]? =none)
  (hE:∀h' e,P4 it s.heap h'→(∃o,h'.get? it=some o)→(∃o,h'.get? e=some o∧o.cls=.type "StopIteration")→E (.ref e) {s with heap:=h'}):
  wpAny (model prog w) A (L5 (.ref it)) Q E s:=by
 refine cq (id hit) λo ho hc hd=>?_;unfold L5;refine zm (Jq (name:=Ku "__next__") hit.typeIs QP
  (Lj QP hit.typeIs F.entry_str_iterator_next ?_ (F.args_str_iterator_next_1 _)))
 refine (?_:wpAny _ _ (field (.ref it) 0>>=_) _ _ s);refine zm (L1 ho hd (x:=.str x t) rfl ?_);refine (?_:wpAny _ _ (field (.ref it) 1>>=_) _ _ s);refine zm (L1 ho hd (x:=.int i 0) rfl ?_);simp only [Fs,hx];refine zm (O6 (zm (P8 ho hd (by simp) (zm (SP ?_)))));refine (?_:wpAny _ _ (newExc (.type "StopIteration") []>>=_) _ _ _);refine zm ?_;simp only [newExc,newTuple];refine zm (Il ?_ (by size_fits));refine zm (m:=firstArgMember _ _) (Mm (a:=Lm) (by first|rfl| (simp only [firstArgMember];rfl)) ?_);refine Il ?_ (by size_fits);refine NO hh ?_;exact hE _ _ (((L9 ..).extBut.push _).push _) ⟨_,B8 _ (B8 _ (Fw _ ho (M0 (Lf hd _))))⟩ (aZ _ (D5 _ rfl) rfl)
def yS(prog:Program)(w:World)(it:Addr)(n:Nat)(St:Nat→Heap→Prop):Prop:=∀ (A:Around) (s:Shared) (Q:Value→Shared→Prop) (E:Value→Shared→Prop),A.handled=none→St n s.heap→
 (∀h' e,P4 it s.heap h'→(∃o,h'.get? it=some o)→(∃o,h'.get? e=some o∧o.cls=.type "StopIteration")→E (.ref e) {s with heap:=h'})→wpAny (model prog w) A (L5 (.ref it)) Q E s
theorem oi{e it:Addr}{St:Nat→Heap→Prop}{i:Int}{old:Value}{Q:Option Value→Shared→Prop}
  (D:yS prog w it n St) (hh:A.handled=none) (he:IsEnum s.heap e it i old) (hst:St n s.heap)
  (hQ:∀h',P4 it s.heap h'→(∃o,h'.get? it=some o)→Q none {s with heap:=h'}):wpAny (model prog w) A (pyNext (.ref e)) Q E s:=by
 have hT:s.TypeIs (.ref e) "enumerate":=(aZ _ he rfl);unfold pyNext;refine zm (Tc (Jq (name:=Ku "__next__") hT RU
  (Lj RU hT F.entry_enumerate_next ?_ (F.args_enumerate_next_1 _))))
 refine (?_:wpAny _ _ (field (.ref e) 2>>=_) _ _ _);refine zm (L1 he rfl (x:=.ref it) rfl ?_);refine zm (D _ _ _ _ hh hst λh' x he' hl hx'=>?_);refine au hx' λo ho hc=>?_;refine zm (Rj (T:="StopIteration") (b:=true) (aZ o ho hc) SA ?_);exact EY (hQ _ he' hl)
end
structure um (C:gL) (env:Env) (L e it:Addr) (x:Str) (St:Nat→Heap→Prop) (al:Bool) (k:Nat) (ρ:d5) (s:Shared):Prop where
 inv:bl C [e,it] [] [] s
 fr:bi C rY env [L] ρ s.heap [] ([e,it]++ai [] [])
 en:al=true→∃old,IsEnum s.heap e it k old
 st:al=true→St k s.heap
structure R6 (C:gL) (env:Env) (L e it:Addr) (x:Str) (St:Nat→Heap→Prop):Prop where
 ge:Af env L
 dr:∀A':Around,A'.handled=none→Draws C.prog C.w A' it [it] x.cps.size (Q8 x) St
 dn:yS C.prog C.w it x.cps.size St
 ei:e≠it
 Le:L≠e
 Li:L≠it
theorem fC{k:Result→Sem Fin}{g:Bool}{l:List Value}{p:Pos}{kp:List Value}{t:Expr}{fb:List Stmt}{env':Env}:
  cR (A0.in1.over (.forLoop t v body orelse env) [.ret k none g l (.func fb env') p kp]) 1:=by
 refine ⟨?_,?_,?_⟩
 ·refine (?_:A0.in1.depth+_+_+4*1<600)
  exact of_decide_eq_true rfl
 ·refine (?_:A0.in1.units+_+_+200*1+400<cLine)
  exact of_decide_eq_true rfl
 ·rfl
theorem rK{fb:List Stmt}{env':Env}:cR (A0.in1.over (.func fb env') []) 1:=by
 refine ⟨?_,?_,?_⟩
 ·refine (?_:A0.in1.depth+_+_+4*1<600)
  exact of_decide_eq_true rfl
 ·refine (?_:A0.in1.units+_+_+200*1+400<cLine)
  exact of_decide_eq_true rfl
 ·rfl
end Mine
namespace Mine
open PySem PySem.W PySem.Calls PyProof.Rows PySem.SeqAt
open Sem (wp)
variable {V V' : AV} {Cn D L TI TO a fa i1 i2 i3 z : Addr} {A : Around} {items zs : Array Value} {sh tup : Bool} {cf : CF} {c c' : ah} {C : gL} {cx : Cx} {f fi fo g : EF} {cenv env : Env} {mean : ExcName → Option Value} {e e1 e2 elt iter target test : Expr} {fl : Fl} {h h' : Heap} {itf : IF} {y : Int} {Vs : List AV} {M M' O T T' W wr α α' α1 α₀ : List Addr} {Mid : List Addr → List Addr → List Addr → List ah → Nat → Value → Shared → Prop} {St : List Addr → xN} {μ μ' μ'' μ1 μ2 μ3 μ₀ : List ah} {fs : List EF} {es : List Expr} {K cs ns os rest : List Int} {gi ls m ps : List Nat} {X acc acc' ds xs ys : List PyData} {body orelse : List Stmt} {vs : List Value} {ρ ρ' ρ1 ρ2 : d5} {tf : d5 → PyData → Option d5} {b i j ja jt k kk low mask n p q tk : Nat} {o : Obj} {op : Operator} {ha ke td te tx : Option AV} {hi lo : Option Expr} {gg : Option Nat} {apos pos px py sp tp xp : Pos} {prog : Program} {G : Prop} {d : PyData} {sc scope : Scope} {s s' s'' s1 s₀ : Shared} {spec : a_} {st : Stmt} {name x : Str} {t : TF} {u : Tok} {cd cls doc fv it pm v : Value} {E Q : Value → Shared → Prop} {w : World}
noncomputable def RG(L e it:Addr):GenEnd:= λn s₀ r s₁=>r=.ok (.ret .none)∧(n=0∧aG [L,e,it] [] s₀ s₁)
def Zt(s₀ s:Shared)(v:Value)(d:PyData):Prop:=∃a items ds,v=.ref a∧d=.tuple ds∧s.heap.IsTuple a items∧(∀h M,aw h M items.toList ds)∧s₀.heap.get? a=none
noncomputable def YG(C:gL)(L e it:Addr)(out:List PyData):Protocol:= λm s₀ v s kap=>(∃d,out[out.length-1-m]? =some d∧Zt s₀ s v d∧∀a,v=.ref a→a∉[L,e,it])∧aG [L,e,it] [] s₀ s∧bl C [e,it] [] [] s∧(∃o,s.heap.get? L=some o)∧
 ∀s'',(∀b∈[L,e,it],∀o,s.heap.get? b=some o→s''.heap.get? b=some o)→bl C [e,it] [] [] s''→kap (.send .none) s''
section
variable {e it:Addr} {St:Nat→Heap→Prop} {al:Bool} {out:List PyData} {c:Code} {fs:List Frame}
 {K:Flow→Sem Fin} {H:Value→Sem Fin} {gd:Bool→Bool} {lv:List Value→List Value}
theorem um.step(G:R6 C env L e it x St)(I:um C env L e it x St al k ρ s)(S:aV [L] [] [] s [] [] s')(I':bl C [e,it] [] [] s')(F':bi C rY env [L] ρ' s'.heap [] ([e,it]++ai [] [])):um C env L e it x St al k ρ' s':=by
 refine ⟨I',F',λha=>?_,λha=>(G.dr A0 rfl).frame _ _ _ (I.st ha) λb hb o y=>S.ext _ _ y λq=>?_⟩
 ·refine bP (I.en ha) λold he=>?_
  exact ⟨old,S.ext _ _ he λq=>G.Le.symm (by simpa [ai] using q)⟩
 ·obtain rfl:b=it:=by simpa using hb
  exact G.Li.symm (by simpa [ai] using q)
theorem aG.up1(x:aG [L] [] s s'):aG [L,e,it] [] s s':=x.mono (λzz ha=>.inl (AA.mp ha▸Gi ..)) λzz h=>h
theorem lx(I:bl C T α [] s):α=[]:=by
 have:=I.len
 exact OD.mp (by simpa using this)
theorem um.same(G:R6 C env L e it x St)(I:um C env L e it x St al k ρ s)(hs:∀b∈[L,e,it],∀o,s.heap.get? b=some o→s'.heap.get? b=some o)(I':bl C [e,it] [] [] s')(hρ:∀V∈ρ,gh V):um C env L e it x St al k ρ s':=by
 refine ⟨I',bi.same G.ge I.fr (hs L (by simp)) hρ,λha=>?_,λha=>(G.dr A0 rfl).frame _ _ _ (I.st ha) λb hb o y=>hs b (CQ _ (CQ _ hb)) o y⟩;refine bP (I.en ha) λold he=>?_;exact ⟨old,hs e (by simp) _ he⟩
theorem Gq(R:cR (A0.in1.over c fs) 1)(G:R6 C env L e it x St)(I:um C env L e it x St al k ρ s)(mv:aG [L,e,it] [] s₀ s){f:SF}(h:aQ C 1 rY st f)(q:f ρ []=some (.next,ρ',[]))
  (next:∀s',um C env L e it x St al k ρ' s'→aG [L,e,it] [] s₀ s'→Seg (model C.prog C.w) A0.in1 (RG L e it) (YG C L e it out) n s₀ c (K .next) fs s'):
  Seg (model C.prog C.w) A0.in1 (RG L e it) (YG C L e it out) n s₀ c ((exec st env).wrap K H gd lv) fs s:=by
 refine pI (D1 (h.run _ env [L] [e,it] ρ [] [] s _ _ _ _ R I.inv I.fr q) (λfw s' p=>?_) λzz zz x=>x);refine eA p λα' I' S' F' zq4=>?_;subst zq4;obtain rfl:=lx I';exact next s' (I.step G S' I' F') (mv.trans (aG.of_step S' I.inv I').up1)
theorem tZ(R:cR (A0.in1.over c fs) 1)(G:R6 C env L e it x St)(I:um C env L e it x St al k ρ s)(mv:aG [L,e,it] [] s₀ s){t:d5→List ah→Option (Bool×List ah)}{b:Bool}(h:gO C 1 rY test t)(q:t ρ []=some (b,[]))
  (next:∀s',um C env L e it x St al k ρ s'→aG [L,e,it] [] s₀ s'→if b=true then Seg (model C.prog C.w) A0.in1 (RG L e it) (YG C L e it out) n s₀ c ((execs body env).wrap K H gd lv) fs s' else Seg (model C.prog C.w) A0.in1 (RG L e it) (YG C L e it out) n s₀ c ((execs orelse env).wrap K H gd lv) fs s'):
  Seg (model C.prog C.w) A0.in1 (RG L e it) (YG C L e it out) n s₀ c ((exec (.If test body orelse pos) env).wrap K H gd lv) fs s:=by
 refine VP (D1 (h.run _ env [L] [e,it] ρ [] [] s _ _ _ R I.inv I.fr q) (λfw s' p=>?_) λzz zz x=>x);refine im p λzq0 α' I' S'=>?_;subst zq0;obtain rfl:=lx I';have S2:aV [L] [] [] s [] [] s':=S'.up;exact next s' (I.step G S2 I' (I.fr.step I.inv S')) (mv.trans (aG.of_step S2 I.inv I').up1)
theorem oD:∀ {vs:List Value} {ds:List PyData} {h1 h2:Heap} {M1 M2:List Addr},(∀d∈ds,gh (some (.d d)))→aw h1 M1 vs ds→aw h2 M2 vs ds
 | [],[],_,_,_,_,_,_=>aw.nil _ _
 | [],_::_,_,_,_,_,_,r=>by have:=r.length;simp at this
 |_::_,[],_,_,_,_,_,r=>by have:=r.length;simp at this
 |v::vs,d::ds,h1,h2,M1,M2,hd,r=>by
  refine f_ r.uncons λa b=>?_;exact .ccons (qF (V:=.d d) (α1:=[]) (α2:=[]) (hd d (by simp)) a) (oD (λd hd'=>hd d (by simp [hd'])) b)
theorem uk(R:cR (A0.in1.over c fs) 1)(G:R6 C env L e it x St)(I:um C env L e it x St al k ρ s)(mv:aG [L,e,it] [] s₀ s){yp:Pos}{gs:List EF}
  (h:dg C 1 rY es gs) (q:fh gs ρ []=some (Vs,[])) (q2:lM Vs []=some (ds,[])) (hsz:ds.length≤sizeLine) (hds:∀d∈ds,gh (some (.d d))) (hρ:∀V∈ρ,gh V) (hout:out[out.length-1-n]? =some (.tuple ds))
  (hfs:splitAtGen fs=none) (hgd:gd false=false) (hfg:fs.any Frame.guarded=false)
  (next:∀s',um C env L e it x St al k ρ s'→Seg (model C.prog C.w) A0.in1 (RG L e it) (YG C L e it out) n s' c (K .next) fs s'):
  Seg (model C.prog C.w) A0.in1 (RG L e it) (YG C L e it out) (n+1) s₀ c ((exec (.Expr (.Yield (some (.Tuple es kk tp)) yp) pos) env).wrap K H gd lv) fs s:=by
 refine seg_Expr_Yield hfs hgd hfg ?_ (by rw [G.ge.sc];kernel_rfl) (by unfold interactive;rw [G.ge.sc];kernel_rfl);refine Tuple_ (D1 (h.run _ env [L] [e,it] ρ [] [] s _ Vs [] tp R I.inv I.fr q) (λvs s1 p=>?_) λzz zz x=>x);refine cq p λα1 I1 S1 r1=>?_;obtain rfl:=lx I1;refine dW (jC I1 r1 q2) λI2 S2 r2=>?_;refine Il ?_ (by show vs.toArray.size≤sizeLine;rw [P2,r2.length];exact hsz);intro kap hk;have S12:aV [L] [] [] s [] [] s1:=S1.up;have I3:=I2.keeps (tk:=s1.toks) (bc s1.heap {cls:=.type "tuple",data:=.seq vs.toArray});have S3:aV [L] [] [] s1 [] [] {s1 with heap:=s1.heap.push {cls:=.type "tuple",data:=.seq vs.toArray},toks:=s1.toks}:=(aV.keeps (bc s1.heap _)).up;have S4:=S12.trans S3;have GI1:um C env L e it x St al k ρ s1:=I.step G S12 I1 (I.fr.step I.inv S1);have GI:um C env L e it x St al k ρ {s1 with heap:=s1.heap.push {cls:=.type "tuple",data:=.seq vs.toArray},toks:=s1.toks}:=GI1.step G S3 I3 (GI1.fr.step I1 (aV.keeps (bc s1.heap _)));have hnew:s1.heap.objs.size∉[L,e,it]:= λhb=>by
  have hdom:∀b∈[L,e,it],∃o,s1.heap.get? b=some o:= λb hb=>by
   simp only [Cp,Ew,or_false] at hb
   rcases hb with rfl|rfl|rfl
   ·refine au ((GI1.fr.own b (by simp)).1) λo ho zz=>?_
    exact ⟨o,ho⟩
   ·exact GI1.inv.tdom b (by simp)
   ·exact GI1.inv.tdom b (by simp)
  refine bP (hdom _ hb) λo ho=>?_;rw [bx (Dj _)] at ho;exact cv ho
 refine (uJ (⟨_,hout,⟨s1.heap.objs.size,vs.toArray,ds,rfl,rfl,⟨_,D5 _ rfl,rfl,_,rfl⟩,λh M=>oD hds (by simpa using r2),?_⟩,λa ha=>by cases ha;exact hnew⟩) (mv.trans (aG.of_step S4 I.inv I3).up1) I3 ((let ⟨o,ho,_⟩:=(GI.fr.own L (by simp)).1;⟨o,ho⟩)) (λs'' hs I''=>?_))
 ·have h1:s.heap.get? s1.heap.objs.size=none:=dY S1.dom (bx (Dj _))
  cases q:s₀.heap.get? s1.heap.objs.size with
  |none=>rfl
  |some o=>
   have:=mv.heap _ o hnew q
   rw [h1] at this;exact cv this
 ·refine hk .none s'' ?_
  exact next s'' (GI.same G hs I'' hρ)
end
noncomputable def Kt:Stmt→Expr
 | .For t _ _ _ _=>t
 |_=>.Constant .none 0 ⟨0,0,0,0⟩
noncomputable def aa2:Stmt→List Stmt
 | .For _ _ b _ _=>b
 |_=>[]
noncomputable abbrev GD:Stmt:=dA (aq (ay 1)) 2
section
theorem HH:ab C n rY (.Name "pos" pos) (a9 1):=qW 1 ∅ ∅ ∅ ∅
theorem Rp:ab C n rY (.Name "escape" pos) (a9 2):=qW 2 ∅ ∅ ∅ ∅
theorem NV:ab C n rY (.Name "ch" pos) (a9 3):=qW 3 ∅ ∅ ∅ ∅
theorem VX:aA C rY "pos" 1:=uA 1 ∅ ∅ ∅
theorem HU:aA C rY "escape" 2:=uA 2 ∅ ∅ ∅
theorem af7:aA C rY "ch" 3:=uA 3 ∅ ∅ ∅
theorem YR:nN C rY (Kt GD) true (jh 1 3):=eY VX af7
end
theorem gF{p:Int}{b:Bool}{c:Option AV}(h:gh c):∀V∈mO x p b c,gh V:= λV hV=>by
 simp only [mO,Cp,Ew,or_false] at hV
 rcases hV with rfl|rfl|rfl|rfl
 ·trivial
 ·trivial
 ·trivial
 ·exact h
theorem ZQ(c:Nat)(μ:List ah):aT (.d (.str "\\")) (.d (.str ⟨#[c]⟩)) μ=some (.d (.str ⟨#[92,c]⟩),μ):=by
 refine (?_:(if ("\\":Str).length+(⟨#[c]⟩:Str).length≤sizeLine then some (AV.d (.str (("\\":Str)++⟨#[c]⟩)),μ) else none)=_);refine rA (if_pos (show ("\\":Str).length+(⟨#[c]⟩:Str).length≤sizeLine by show ("\\":Str).length+1≤sizeLine;decide+kernel)) ?_;rfl
theorem ak6{k:Int}{b:Bool}(c:Nat):fh [a9 1,aj (kS "\\") (a9 3) aT] (mO x k b (some (.d (.str ⟨#[c]⟩)))) []=some ([.d (.int k),.d (.str ⟨#[92,c]⟩)],[]):=by
 have hb:aj (kS "\\") (a9 3) aT (mO x k b (some (.d (.str ⟨#[c]⟩)))) []=some (.d (.str ⟨#[92,c]⟩),[]):=ZQ c [];have ha:a9 1 (mO x k b (some (.d (.str ⟨#[c]⟩)))) []=some (.d (.int k),[]):=rfl;simp only [fh,ha,hb,bpS]
theorem ao2{k:Int}{b:Bool}{c:Nat}(h:¬c=92):bB (a9 3) (kS "\\") dK (mO x k b (some (.d (.str ⟨#[c]⟩)))) []=some (false,[]):=by
 refine (?_:some ((⟨#[c]⟩:Str)==("\\":Str),([]:List ah))=_)
 have:((⟨#[c]⟩:Str)==("\\":Str))=false:=by
  rw [beq_eq_false_iff_ne];intro q
  have:(⟨#[c]⟩:Str)=⟨#[92]⟩:=q
  injection this with this
  have:=congrArg Array.toList this
  simp at this
  exact h this
 rw [this]
theorem Au{out r:List PyData}(h:out.drop (out.length-(d::r).length)=d::r):out[out.length-1-r.length]? =some d∧out.drop (out.length-r.length)=r:=by
 have hl:(out.drop (out.length-(d::r).length)).length=(d::r).length:=by rw [h]
 rw [Rr,AH] at hl
 have hlen:r.length+1≤out.length:=by lia
 have e:out.length-1-r.length=out.length-(d::r).length:=by rw [AH];lia
 constructor
 ·rw [e,←Ui,h];rfl
 ·have:out.length-r.length=1+(out.length-(d::r).length):=by rw [AH];lia
  rw [Nat.add_comm] at this
  rw [this,←Uv,h];rfl
section
variable {e it:Addr} {St:Nat→Heap→Prop} {out:List PyData} {kf:Result→Sem Fin} {g:Bool} {l:List Value} {kp:List Value}
theorem Dh{p:Pos}(hg:g=false)(G:R6 C env L e it x St)
  (tail:∀k pp esc och s₀ s,um C env L e it x St false k (mO x pp esc och) s→gh och→pp=(k:Int)-1∨esc=false→aG [L,e,it] [] s₀ s→out.drop (out.length-(eC [] k esc).length)=eC [] k esc→
   Seg (model C.prog C.w) A0.in1 (RG L e it) (YG C L e it out) (eC [] k esc).length s₀ (.func (aq (ay 1)) env) (kf (.ok .next)) [] s):
  ∀ (r:List Nat) (k:Nat) (pp:Int) (esc:Bool) (och:Option AV) (s₀ s:Shared),x.cps.toList.drop k=r→k≤x.cps.size→um C env L e it x St true k (mO x pp esc och) s→gh och→pp=(k:Int)-1∨esc=false→aG [L,e,it] [] s₀ s→
   out.drop (out.length-(eC r k esc).length)=eC r k esc→
   Seg (model C.prog C.w) A0.in1 (RG L e it) (YG C L e it out) (eC r k esc).length s₀ (.forLoop (Kt GD) (.ref e) (aa2 GD) [] env) ((model C.prog C.w).den (.forLoop (Kt GD) (.ref e) (aa2 GD) [] env)) [.ret kf none g l (.func (aq (ay 1)) env) p kp] s:=by
 subst hg;intro r
 induction r with
 |nil=>
  intro k pp esc och s₀ s hx hk I ho hp mv hout;have hkz:k=x.cps.size:=by
   have:=congrArg NL hx
   simp at this;lia
  refine oC ?_;refine bP (I.en rfl) λold he=>?_;refine oi G.dn rfl he (hkz▸I.st rfl) λh' hx' hlv=>rQ ?_;have mv':aG [it] [] s {s with heap:=h'}:=aG.of_heap (tk:=s.toks) λb o hb z=>hx' b o (λq=>hb (by simp [q])) z;have mv2:aG [L,e,it] [] s₀ {s with heap:=h'}:=mv.trans (mv'.mono (λa ha=>.inl (by simp at ha;simp [ha])) λzz h=>h);have I':bl C [e,it] [] [] {s with heap:=h'}:=I.inv.moves mv' (λb hb=>by simp at hb;simp [hb]) λb hb=>?_
  ·have F':=bi.same G.ge I.fr (h':=h') (λo z=>hx' L o G.Li z) (gF ho)
   exact tail k pp esc och s₀ _ ⟨I',F',λq=>(by cases q),λq=>(by cases q)⟩ ho hp mv2 hout
  ·simp only [Cp,Ew,or_false] at hb
   obtain rfl:=hb;exact hlv
 |cons c r ih=>
  intro k pp esc och s₀ s hx hk I ho hp mv hout;have hc:x.cps[k]? =some c:=by
   have:=congrArg List.head? hx
   rw [Ui] at this
   simpa using this
  have hlt:k<x.cps.size:=(LO.mp hc).1;have hx2:x.cps.toList.drop (k+1)=r:=by
   rw [←Uv,hx];rfl
  refine oC ?_;refine bP (I.en rfl) λold he=>?_;refine wpAny_pyNext_enum_itemD (G.dr _ rfl) he (I.st rfl) hlt G.ei (by simpa using G.ei) λv h' tk hP ho' hs' hT hsz hkp=>?_;refine kc hP λc' u hc' zq3=>?_;subst zq3;rw [hc] at hc';cases hc'
  refine PV ho' λh2 he2 hsb=>?_;have mv':aG [e,it] [] s {s with heap:=h2,toks:=tk+1}:=aG.of_heap λb o hb z=>by
   simp only [Cp,Ew,or_false,not_or] at hb
   exact (hsb.2 b hb.1).trans (hkp b o hb.1 hb.2 z)
  have st2:St (k+1) h2:=(G.dr A0 rfl).frame _ _ _ hs' λb hb o y=>by
   obtain rfl:b=it:=by simpa using hb
   exact (hsb.2 b G.ei.symm).trans y
  have I2:bl C [e,it] [] [] {s with heap:=h2,toks:=tk+1}:=I.inv.moves mv' (λb hb=>hb) λb hb=>by
   simp only [Cp,Ew,or_false] at hb
   rcases hb with rfl|rfl
   ·exact ⟨_,he2⟩
   ·exact (G.dr A0 rfl).live _ _ st2
  have F2:=bi.same G.ge I.fr (h':=h2) (λo z=>mv'.heap L o (by simp [G.Le,G.Li]) z) (gF ho);have G2:um C env L e it x St true (k+1) (mO x pp esc och) {s with heap:=h2,toks:=tk+1}:=⟨I2,F2,λzz=>⟨_,by simpa using he2⟩,λzz=>st2⟩;have hae:s.heap.objs.size≠e:= λq=>by rw [←q] at he;rw [show IsEnum s.heap s.heap.objs.size it (k:Int) old=(s.heap.get? s.heap.objs.size=some _) from rfl,bx (Dj _)] at he;cases he
  refine D1 (YR.2 _ env [L] [e,it] (mO x pp esc och) [] [] _ _ (.ref s.heap.objs.size) (.tuple [.int k,.str ⟨#[c]⟩]) (mO x k esc (some (.d (.str ⟨#[c]⟩)))) rfl I2 F2
   (dE _ (#[.int k tk,.str ⟨#[c]⟩ u]) _ rfl rfl ⟨_,(hsb.2 _ hae).trans hT,rfl,_,rfl⟩ (.ccons (aJ.int ..) (.ccons (aJ.str ..) (aw.nil _ _)))) rfl) (λzz s3 st=>?_) λzz zz x=>x
  refine dW st λI3 S3 F3=>?_;have G3:=G2.step G S3 I3 F3;have mv3:aG [L,e,it] [] s₀ s3:=(mv.trans (mv'.mono (λa ha=>.inl (CQ _ ha)) λzz h=>h)).trans (aG.of_step S3 I2 I3).up1;have ho3:gh (some (.d (.str ⟨#[c]⟩))):=trivial;have hk1:(k:Int)=((k+1:Nat):Int)-1:=by push_cast;lia
  refine L6 (tZ fC G G3 mv3 (iD (λzz zz=>rfl) Rp) rfl λs4 G4 mv4=>?_);cases esc with
  |true=>
   rw [if_pos rfl];have ho:=Au (show out.drop (out.length-(Jy [.int k,.str ⟨#[92,c]⟩]::eC r (k+1) false).length)=_ from hout);refine L6 (uk (n:=(eC r (k+1) false).length) fC G G4 mv4 (dF (λzz=> ∅) HH (dF (λzz=> ∅) (av bT NV br) ae)) (Vs:=[.d (.int k),.d (.str ⟨#[92,c]⟩)]) (ak6 c) rfl (by show 2≤sizeLine;decide) U5 (gF ho3) ho.1 rfl rfl rfl λs5 G5=>?_);refine L6 (Gq fC G G5 (aG.refl _ _ _) (bF dj HU (λzz zz=> ∅)) rfl λs6 G6 mv6=>?_);exact Uh rfl (ih (k+1) k false _ _ _ hx2 hlt G6 ho3 (.inl hk1) mv6 ho.2)
  |false=>
   rw [if_neg (by decide)]
   by_cases h92:c=92
   ·have hout':out.drop (out.length-(eC r (k+1) true).length)=eC r (k+1) true:=by simpa [xY,h92] using hout
    have hlen:(eC (c::r) k false).length=(eC r (k+1) true).length:=by simp [xY,h92]
    rw [hlen];refine L6 (tZ fC G G4 mv4 (b:=true) (cn NV bT dR ∅) (by subst h92;rfl) λs5 G5 mv5=>?_);rw [if_pos rfl];refine L6 (Gq fC G G5 mv5 (bF dj HU (λzz zz=> ∅)) rfl λs6 G6 mv6=>?_);exact Uh rfl (ih (k+1) k true _ _ _ hx2 hlt G6 ho3 (.inl hk1) mv6 hout')
   ·have hesc:eC (c::r) k false=.tuple [.int k,.str ⟨#[c]⟩]::eC r (k+1) false:=by simp [xY,h92]
    rw [hesc] at hout⊢
    have ho:=Au hout;refine L6 (tZ fC G G4 mv4 (b:=false) (cn NV bT dR ∅) (ao2 h92) λs5 G5 mv5=>?_);rw [if_neg (by decide)];refine L6 (uk (n:=(eC r (k+1) false).length) fC G G5 mv5 (dF (λzz=> ∅) HH (dF (λzz=> ∅) NV ae)) (Vs:=[.d (.int k),.d (.str ⟨#[c]⟩)]) rfl rfl (by show 2≤sizeLine;decide) U5 (gF ho3) ho.1 rfl rfl rfl λs6 G6=>?_);exact Uh rfl (ih (k+1) k false _ _ _ hx2 hlt G6 ho3 (.inl hk1) (aG.refl _ _ _) ho.2)
end
theorem IU{it:Addr}{t:Tok}(hit:h'.IsStrIter it (strIterType x) x t 0):∃St:Nat→Heap→Prop,(∀A':Around,A'.handled=none→Draws C.prog C.w A' it [it] x.cps.size (Q8 x) St)∧yS C.prog C.w it x.cps.size St∧St 0 h':=by
 cases ha:x.cps.all (· <128)
 ·have hit':h'.IsStrIter it "str_iterator" x t 0:=by simpa [strIterType,ha] using hit
  exact (cL (λi h=>h.IsStrIter it "str_iterator" x t i) (λA' hA=>Draws.strWide hA it x t) (λA s Q E hh hst hE=>nH hh hst (by simp) hE) hit')
 ·have hit':h'.IsStrIter it "str_ascii_iterator" x t 0:=by simpa [strIterType,ha] using hit
  exact (cL (λi h=>h.IsStrIter it "str_ascii_iterator" x t i) (λA' hA=>Draws.strAscii hA it x t) (λA s Q E hh hst hE=>mB hh hst (by simp) hE) hit')
theorem OP{i:Int}(h:Q (.int i s.toks) {s with toks:=s.toks+1}):wpAny (model prog w) A (eval (.Constant (.int i) k pos) env) Q E s:= λzz zz zz=>h
section
variable {e it:Addr} {St:Nat→Heap→Prop} {out:List PyData}
theorem Eu{K:Flow→Sem Fin}{H:Value→Sem Fin}{gd:Bool→Bool}{lv:List Value→List Value}(hgd:gd false=false)(hK:K .next=leafOf (.ok (.ret .none)))(G:R6 C env L e it x St){pp:Int}{esc:Bool}{och:Option AV}(I:um C env L e it x St false k (mO x pp esc och) s)(ho:gh och)(hp:pp=(k:Int)-1∨esc=false)(mv:aG [L,e,it] [] s₀ s)
  (hout:out.drop (out.length-(eC [] k esc).length)=eC [] k esc):
  Seg (model C.prog C.w) A0.in1 (RG L e it) (YG C L e it out) (eC [] k esc).length s₀ (.func (aq (ay 1)) env) ((execs [dA (aq (ay 1)) 3] env).wrap K H gd lv) [] s:=by
 refine L6 (tZ rK G I mv (iD (λzz zz=>rfl) Rp) rfl λs4 G4 mv4=>?_);cases esc with
 |true=>
  rw [if_pos rfl];obtain rfl:pp=(k:Int)-1:=by simpa using hp
  have ho2:=Au (show out.drop (out.length-(Jy [.int ((k:Int)-1),.str ⟨#[92]⟩]::[]).length)=_ from hout);refine L6 (uk (n:=0) rK G G4 mv4 (dF (λzz=> ∅) HH (dF (λzz=> ∅) bT ae)) (Vs:=[.d (.int ((k:Int)-1)),.d (.str "\\")]) rfl rfl (by show 2≤sizeLine;decide) U5 (gF ho) ho2.1 rfl hgd rfl λs5 G5=>?_);refine (?_:Seg _ _ _ _ _ _ _ (K .next) _ _);rw [hK];exact seg_end _ (fu rfl rfl (aG.refl _ _ _))
 |false=>
  rw [if_neg (by decide)];refine (?_:Seg _ _ _ _ _ _ _ (K .next) _ _);rw [hK];exact seg_end _ (fu rfl rfl mv4)
theorem y_(hg:C.mg "enumerate"=none)(G:Af env L)(hLb:C.B.get? L=none){t:Tok}{m:Str→Option Value}(I:bl C [] [] [] s)(hn:s.heap.Ns L m)(hm:m "addr"=some (.str x t)):
  ∃e it,s.heap.get? e=none∧s.heap.get? it=none∧e≠it∧L≠e∧L≠it∧
   Seg (model C.prog C.w) A0.in1 (RG L e it) (YG C L e it (eC x.cps.toList 0 false)) (eC x.cps.toList 0 false).length s (.func (aq (ay 1)) env) ((model C.prog C.w).den (.func (aq (ay 1)) env)) [] s:=by
 have hLs:L<s.heap.objs.size:=hn.lt;refine (Eh (s.heap.objs.size+1) s.heap.objs.size (bx (P3 _)) (bx (Dj _)) (No _) (LY (P5 hLs)) (LY hLs) ?_);have hkk:(env.scope.kind== .class||(env.scope.kind== .module&&env.locals != env.globals))=false:=by rw [G.sc];kernel_rfl
 have kl:∀y,rY.scope.names.lookup y=some .local→env.kindOf y=some .local:= λy h=>by unfold JH;rw [G.sc];exact h
 have hn0:s.heap.Ns env.locals m:=by rw [G.lo];exact hn
 refine seg_func (L6 (pI (M9 (OP ?_) ∅)));refine Pe (m:=m) (kl _ ∅) hn0 (λh1 hn1 hs1=>?_) hkk;refine L6 (pI (M9 (EY ?_) ∅));refine Pe (kl _ ∅) hn1 (λh2 hn2 hs2=>?_) hkk;refine L6 (O8 (λzz=>rfl) ?_);have hsz2:h2.objs.size=s.heap.objs.size:=hs2.1.trans hs1.1;have hk2:∀b o,b≠L→s.heap.get? b=some o→h2.get? b=some o:= λb o hb z=>(hs2.2 b (by rw [G.lo];exact hb)).trans ((hs1.2 b (by rw [G.lo];exact hb)).trans z);have hg2:h2.Ns mainGlobals C.mg:=by
  refine (C.g.keeps I.keep).at' λo z=>hk2 _ _ (λq=>?_) z;refine fE C.g λob zz zz z' zz=>?_;rw [←q,z'] at hLb;exact cv (F6 hLb)
 have hb2:h2.Ns builtinsNs C.mb:=by
  refine (C.b.keeps I.keep).at' λo z=>hk2 _ _ (λq=>?_) z;refine fE C.b λob zz zz z' zz=>?_;rw [←q,z'] at hLb;exact cv (F6 hLb)
 refine zm (m:=eval (.Name "enumerate" _) env) (Fg (by rw [G.sc];kernel_rfl) (by unfold JH;rw [G.sc];kernel_rfl) (Lu (by rw [G.gl];exact hg2) hg (by rw [G.bn];exact hb2) ((C.bt _ (by decide+kernel)).trans (∅ :bootBuiltins "enumerate"=some (.type "enumerate"))) ?_) ∅);refine bD "enumerate" _ _ _ _ _ _ _ _ ∅ ?_
 refine Sw (RL ?_);refine UH (Pt (by rw [G.sc];kernel_rfl) (kl _ ∅) hn2 (v:=.str x t) (by rw [if_neg (by decide+kernel),if_neg (by decide+kernel)];exact hm) ?_) ∅
 refine SJ ?_;refine call_enumerate_str λh3 he3 hit3 hsz3 hk3=>?_;replace he3:IsEnum h3 (h2.objs.size+1) h2.objs.size 0 .none:=he3;replace hit3:h3.IsStrIter h2.objs.size (strIterType x) x t 0:=hit3;rw [hsz2] at he3 hit3
 refine (?_:wpAny _ _ (pyIter (.ref (h2.objs.size+1))) _ _ _);rw [hsz2];refine QG he3 λp=>?_;refine cq (IU (C:=C) hit3) λSt hD hdn hst=>?_;have hLn:h3.Ns L _:=uo (by rw [←G.lo];exact hn2) λo z=>hk3 _ _ z;have hk03:∀b o,b≠L→s.heap.get? b=some o→h3.get? b=some o:= λb o hb z=>hk3 b o (hk2 b o hb z);have GC:R6 C env L (s.heap.objs.size+1) s.heap.objs.size x St:=⟨G,hD,hdn,No _,LY (P5 hLs),LY hLs⟩;have hLg:s.heap.get? L≠none:= λq=>by
  refine fE hn λob zz zz z zz=>?_;rw [q] at z;exact cv z
 have mv:aG [L] [] s {s with heap:=h3,toks:=s.toks+1+1+1}:=aG.of_heap λb o hb z=>hk03 b o (λq=>hb (by simp [q])) z;have I3:bl C [s.heap.objs.size+1,s.heap.objs.size] [] [] {s with heap:=h3,toks:=s.toks+1+1+1}:=by
  have I0:bl C [L] [] [] s:=⟨I.keep,rfl,λi a c h1 zz=>by simp at h1,N5,λa zz h=>by simp at h,λa ha=>by
   obtain rfl:a=L:=by simpa using ha
   exact Option.ne_none_iff_exists'.mp hLg,λa ha=>by
   obtain rfl:a=L:=by simpa using ha
   exact hLb,λa h=>by simp at h,I.gens,I.os⟩
  refine I0.movesG mv (λb hb=>.inl hb) (λa ha=>.inr ?_) λa ha=>?_
  ·simp only [Cp,Ew,or_false] at ha
   rcases ha with rfl|rfl
   ·exact bx (P3 _)
   ·exact bx (Dj _)
  ·simp only [Cp,Ew,or_false] at ha
   rcases ha with rfl|rfl
   ·exact ⟨_,he3⟩
   ·refine au hit3 λo z zz=>?_;exact ⟨o,z⟩
 have F3:bi C rY env [L] (mO x 0 false none) h3 [] ([s.heap.objs.size+1,s.heap.objs.size]++ai [] []):=by
  refine Zi G hLn hLb (by simp [GC.Le,GC.Li]) rfl λi y V e1 e2=>?_;rw [kR] at e1
  match i,e1,e2 with
  |0,e1,e2=>cases e1;cases e2;exact (aZ _ (by rw [if_neg (by decide+kernel),if_neg (by decide+kernel)];exact hm) (aJ.str ..))
  |1,e1,e2=>cases e1;cases e2;exact (aZ _ (by rw [if_neg (by decide+kernel),if_pos rfl]) (aJ.int ..))
  |2,e1,e2=>cases e1;cases e2;exact (aZ _ (by rw [if_pos rfl]) (aJ.bool ..))
  |3,e1,e2=>cases e2
 have GI:um C env L (s.heap.objs.size+1) s.heap.objs.size x St true 0 (mO x 0 false none) {s with heap:=h3,toks:=s.toks+1+1+1}:=⟨I3,F3,λzz=>⟨_,he3⟩,λzz=>hst⟩;exact Dh (out:=eC x.cps.toList 0 false) rfl GC (λk pp esc och s₀ s I ho hp mv hout=>Eu rfl rfl GC I ho hp mv hout) x.cps.toList 0 0 false none _ _ rfl (LJ _) GI trivial (.inr rfl) mv.up1 (by simp)
end
noncomputable abbrev oX(x:Str):List PyData:=eC x.cps.toList 0 false
def GSt(C:gL)(a L:Addr)(g:Nat)(env:Env)(x:Str)(wr:List Addr)(i:Nat)(s:Shared):Prop:=
 (i=0∧wr=[a,L]∧s.gens[g]? =some (.fresh (.func (aq (ay 1)) env))∧∃m t,s.heap.Ns L m∧m "addr"=some (.str x t))∨
 (0<i∧∃e it gs,wr=[a,L,e,it]∧a∉[L,e,it]∧s.gens[g]? =some gs∧∀s'',(∀b∈[L,e,it],∀o,s.heap.get? b=some o→s''.heap.get? b=some o)→bl C [e,it] [] [] s''→
  gs.Goes (model C.prog C.w) A0.in1 (RG L e it) (YG C L e it (oX x)) ((oX x).length-i) (.send .none) s'')
noncomputable def Qo(C:gL)(a L:Addr)(g:Nat)(env:Env)(x:Str):List Addr→xN:= λwr zz zz zz i s=>s.heap.IsGen a g∧GSt C a L g env x wr i s
noncomputable def Uw(C:gL)(a L:Addr)(g:Nat)(env:Env)(x:Str):List Addr→List Addr→List Addr→List ah→Nat→Value→Shared→Prop:= λwr T α μ i v s=>(s.heap.IsGen a g∧GSt C a L g env x wr (i+1) s)∧∀a',v=.ref a'→a'∉T++ai α μ
section
variable {g:Nat}
theorem aG.running{s₁:Shared}{gs':GenState}{g:Nat}(mv:aG W [] (s.setGen g .running) s₁)(hb:gs'.bare=true):aG W [g] s (s₁.setGen g gs'):=
 ((aG.setGen (g:=g) (x:=.running) rfl).mono (λzz h=>by simp at h) λzz h=>h).trans ((mv.mono (λzz h=>.inl h) λzz h=>by simp at h).trans ((aG.setGen hb).mono (λzz h=>by simp at h) λzz h=>h))
theorem wi(hg:C.mg "enumerate"=none)(G:Af env L)(hLb:C.B.get? L=none)(haL:a≠L)(I:bl C (wr++T) α μ s)(st:s.heap.IsGen a g∧GSt C a L g env x wr i s):
  ∃e it gs,s.gens[g]? =some gs∧a∉[L,e,it]∧(∀b∈[a,L,e,it],b∈wr∨s.heap.get? b=none)∧(∀b∈wr,b∈[a,L,e,it])∧gs.Goes (model C.prog C.w) A0.in1 (RG L e it) (YG C L e it (oX x)) ((oX x).length-i) (.send .none) (s.setGen g .running):=by
 obtain ⟨ho,h|h⟩:=st
 ·refine J6 h λzq0 zq1 hgs m t hn hm=>?_
  subst zq0;subst zq1;refine D6 (y_ hg G hLb (s:=s.setGen g .running) ((I.base (T':=[]) (λzz h=>by simp at h)).setGen rfl) hn hm) λe it he hi hei hLe hLi sg=>?_;have hae:a≠e:= λq=>by refine fE ho λo zz zz z zz=>?_;rw [q] at z;rw [show s.heap.get? e=none from he] at z;exact cv z
  have hai:a≠it:= λq=>by refine fE ho λo zz zz z zz=>?_;rw [q] at z;rw [show s.heap.get? it=none from hi] at z;exact cv z
  refine ⟨e,it,_,hgs,by simp [haL,hae,hai],λb hb=>?_,λb hb=>?_,rfl,sg⟩
  ·simp only [Cp,Ew,or_false] at hb
   rcases hb with rfl|rfl|rfl|rfl
   ·exact .inl (by simp)
   ·exact .inl (by simp)
   ·exact .inr he
   ·exact .inr hi
  ·simp only [Cp,Ew,or_false] at hb
   rcases hb with rfl|rfl<;>simp
 ·refine ED h λhi0 e it gs zq4 han hgs hk=>?_
  subst zq4;exact (i7 e it gs hgs han (λb hb=>.inl hb) (λb hb=>hb) (hk _ (λzz zz zz z=>z) ((I.base (T':=[e,it]) (λb hb=>yx _ (CQ _ (CQ _ hb)))).setGen rfl)))
theorem gV.gen(hg:C.mg "enumerate"=none)(G:Af env L)(hLb:C.B.get? L=none)(haL:a≠L):gV C (.ref a) [g] (oX x) none true (Qo C a L g env x) (Uw C a L g env x) where
 frame:=by
  intro wr O T T' α α' μ μ' i s s' st S hO hwr hT hwT I I' hgd;refine f_ st λho h=>?_;have hkeep:∀b∈wr,∀o,s.heap.get? b=some o→s'.heap.get? b=some o:= λb hb o z=>S.ext b o z λq=>(AF.mp q).elim (λq=>hwr b q hb) λq=>I.apart b (hwT b hb) (de q);have haw:a∈wr:=by
   rcases h with ⟨_,rfl,_⟩| ⟨_,e,it,gs,rfl,_⟩<;>simp
  refine ⟨let ⟨o,nm,qn,z,r⟩:=ho;⟨o,nm,qn,hkeep a haw o z,r⟩,?_⟩
  rcases h with ⟨rfl,rfl,hgs,m,t,hn,hm⟩| ⟨hi0,e,it,gs,rfl,han,hgs,hk⟩
  ·exact .inl ⟨rfl,rfl,S.gens _ _ hgs,m,t,uo hn λo z=>hkeep L (by simp) o z,hm⟩
  ·exact .inr ⟨hi0,e,it,gs,rfl,han,S.gens _ _ hgs,λs'' hs I''=>hk s'' (λb hb o z=>hs b hb o (hkeep b (CQ _ hb) o z)) I''⟩
 item:=by
  intro A wr T α μ i d s Q E R I st ed k;refine i4 (wi hg G hLb haL I st) λe it gs hgs han hwf hww hgo=>?_;have hlt:i< (oX x).length:=(AX.mp ed).1;obtain ⟨m,hm⟩:∃m,(oX x).length-i=m+1:=⟨(oX x).length-i-1,by lia⟩;rw [hm] at hgo
  refine wI R (oP (P:= λn s₀ s₁=>n=0∧aG [L,e,it] [] s₀ s₁) rfl (C.nolim.keeps I.keep) (by show 591<1000;decide) st.1 hgs hgo (λv s₁ gs' hb hv=>?_) λs₁ hp h' hk=>absurd hp.1 (Nat.succ_ne_zero m));refine ig hv λzp0 mv I1 hL1 hk=>?_;obtain ⟨d',hd',hit,hna⟩:=zp0;have hidx:(oX x).length-1-(m+1-1)=i:=by lia
  rw [hidx,ed] at hd'
  cases hd';refine i4 hit λa' items ds zq3 zq4 htup hrel hfr=>?_;subst zq3;subst zq4;have mv':aG [L,e,it] [g] s (s₁.setGen g gs'):=mv.running hb;have hdom:∀b∈[L,e,it],∃o,s₁.heap.get? b=some o:= λb hb=>by
   rcases Cp.mp hb with rfl|hb
   ·exact hL1
   ·exact I1.tdom b hb
  have hgens:s₁.gens[g]? =some .running:=mv.gens g _ (by simp) (setGen_self hgs);have hIg:(s₁.setGen g gs').heap.IsGen a g:=let ⟨o,nm,qn,z,r⟩:=st.1;⟨o,nm,qn,mv'.heap a o han z,r⟩
  refine k (.ref a') _ [a,L,e,it] (mv'.mono (λb hb=>hwf b (CQ _ hb)) λzz h=>h) hwf (I.movesG mv' (λb hb=>(hwf b (CQ _ hb)).imp (yx _) id) (λb hb=>?_) λb hb=>?_) ⟨a',items,ds,rfl,rfl,htup,hrel _ _⟩ ⟨⟨hIg,.inr ⟨Nat.succ_pos _,e,it,gs',rfl,han,setGen_self hgens,λs'' hs I''=>?_⟩⟩,λa2 ha2 hm=>?_⟩
  ·rcases AF.mp hb with h|h
   ·exact (hwf b h).imp (yx _) id
   ·exact .inl (CO _ h)
  ·by_cases q:b∈[L,e,it]
   ·exact hdom b q
   ·rcases AF.mp hb with h|h
    ·rcases Cp.mp h with rfl|h
     ·refine fE hIg λo zz zz z zz=>?_;exact ⟨o,z⟩
     ·exact absurd h q
    ·refine bP (I.tdom b (CO _ h)) λo z=>?_
     exact ⟨o,mv'.heap b o q z⟩
  ·rw [show (oX x).length-(i+1)=m by lia]
   exact hk s'' hs I''
  ·cases ha2
   have hdn:s.heap.get? a'=none:=hfr
   rcases AF.mp hm with h|h
   ·rcases AF.mp h with h|h
    ·rcases Cp.mp h with rfl|h
     ·refine fE st.1 λo zz zz z zz=>?_;rw [hdn] at z;cases z
     ·exact hna a' rfl h
    ·refine bP (I.tdom a' (CO _ h)) λo z=>?_
     rw [hdn] at z;cases z
   ·exact I.mdom a' (CO _ h) hdn
 go:=by
  intro A wr T α μ i d v t s Q E I md tg ir k;exact T6 md.1.1 (k s (aG.refl _ _ _) I ir md.1)
 done:=by
  intro A wr T α μ i s Q E R I st ed k;refine i4 (wi hg G hLb haL I st) λe it gs hgs han hwf hww hgo=>?_;have hle:(oX x).length≤i:=Hy.mp ed;have hz:(oX x).length-i=0:=by lia
  rw [hz] at hgo
  refine wI R (oP (P:= λn s₀ s₁=>n=0∧aG [L,e,it] [] s₀ s₁) rfl (C.nolim.keeps I.keep) (by show 591<1000;decide) st.1 hgs hgo (λv s₁ gs' hb hv=>?_) λs₁ hp h' hkp=>?_)
  ·refine ig hv λzz mv I1 hL1 hk=>?_
   exact (hk s₁ (λzz zz zz z=>z) I1).elim
  ·have mv':aG [L,e,it] [g] s {s₁.setGen g .finished with heap:=h'}:=(hp.2.running (gs':=.finished) rfl).trans (aG.mono (wr:=[]) (gi:=[]) ⟨λb o zz z=>hkp b o z,λzz zz zz z=>z,rfl,λh=>h⟩ (λzz h=>by simp at h) λzz h=>by simp at h)
   refine k _ (mv'.mono (λb hb=>hwf b (CQ _ hb)) λzz h=>h) λT' hT'=>I.movesG mv' (λb hb=>(hwf b (CQ _ hb)).imp (yx _) id) (λb hb=>.inl (hT' b hb).1) λb hb=>?_;refine bP (I.tdom b (hT' b hb).1) λo z=>?_;refine ⟨o,mv'.heap b o (λq=>?_) z⟩
   rcases hwf b (CQ _ q) with y|y
   ·exact (hT' b hb).2 y
   ·rw [y] at z;cases z
 self:=by
  intro A wr T α μ i s Q E st h;exact wpAny_pyIter_gen st.1 h
end
section
theorem vF(h:dp C "_iter_escaped_chars" 1)(hg:C.mg "enumerate"=none):∃fa o fd,C.mg "_iter_escaped_chars"=some (.ref fa)∧C.B.get? fa=some o∧o.data=.func fd∧
  ∀ (A:Around) (T α:List Addr) (μ:List ah) (s:Shared) (E:Value→Shared→Prop) (x:Str) (t:Tok) (Q:Value→Shared→Prop),A.depth<recursionLimit→bl C T α μ s→
   (∀a L g env s',Af env L→C.B.get? L=none→a≠L→s.heap.get? a=none→s.heap.get? L=none→s.gens[g]? =none→(∀b o,s.heap.get? b=some o→s'.heap.get? b=some o)→(∀ (i:Nat) (x:GenState),s.gens[i]? =some x→s'.gens[i]? =some x)→bl C ([a,L]++T) α μ s'→
    Qo C a L g env x [a,L] ([a,L]++T) α μ 0 s'→Q (.ref a) s')→wpAny (model C.prog C.w) A (call (.ref fa) [.str x t]) Q E s:=by
 refine ft h λfa o pm cd doc h1 h2 h3 h4=>?_;refine (dE fa o _ h1 h2 h3 (λA T α μ s E x t Q hd I k=>?_));refine wpAny_call (codeAny_call_generator (body:=aq (ay 1)) hd (I.keep _ _ h2) h3 ∅ ∅ rfl (h4.keeps I.keep) ?_);refine Mm (a:=([("addr",V8 x t)]:List (Str×Value))) ∅ ?_
 refine Sk (λy hy=>?_) (λy hy=>?_) (λh' hn hs=>?_) ∅
 ·have:((ao (ay 1)).names.all λy=>y.2 != .cell)=true:= ∅
  simpa using AP.mp this y hy
 ·obtain rfl:y=(("addr",V8 x t):Str×Value):=by simpa using hy
  kernel_rfl
 ·have hz:h'.objs.size=s.heap.objs.size+1:=by rw [hs.1,M5]
  have hk1:∀b o,s.heap.get? b=some o→h'.get? b=some o:= λb o z=>(hs.2 b (λq=>by rw [q,bx (Dj _)] at z;exact cv z)).trans (B8 _ z);have hgn:∀ (i:Nat) (y:GenState),s.gens[i]? =some y→(s.gens.push (.fresh (.func (aq (ay 1)) (newEnv (ao (ay 1)) s.heap.objs.size mainGlobals [] ("_iter_escaped_chars"++".<locals>.") (some fa) cd none builtinsNs))))[i]? =some y:= λi y z=>by
   rw [Array.getElem?_push_lt (LO.mp z).1];exact (Nl _).symm.trans z
  have hk2:∀b o,s.heap.get? b=some o→(h'.push {cls:=.type "generator",data:=.fields #[.int s.gens.size 0,.str "_iter_escaped_chars" (s.toks+1),.str "_iter_escaped_chars" (s.toks+1+1)]}).get? b=some o:= λb o z=>B8 _ (hk1 b o z);have haf:s.heap.get? h'.objs.size=none:=bx (by rw [hz];exact P3 _);have hLf:s.heap.get? s.heap.objs.size=none:=bx (Dj _);have nb:∀b,s.heap.get? b=none→C.B.get? b=none:= λb=>I.fresh;refine ⟨(C.nolim.keeps I.keep).keeps hk1,k h'.objs.size s.heap.objs.size s.gens.size (newEnv (ao (ay 1)) s.heap.objs.size mainGlobals [] ("_iter_escaped_chars"++".<locals>.") (some fa) cd none builtinsNs) _ ⟨rfl,rfl,rfl,rfl⟩ (nb _ hLf) (by rw [hz];exact No _) haf hLf (Array.getElem?_size ..) hk2 hgn ?_ ⟨(dE _ _ _ (D5 _ rfl) rfl rfl rfl),.inl (Hm rfl rfl (Array.getElem?_push_size ..) _ t (hn.keeps λb o z=>B8 _ z) rfl)⟩⟩;refine I.grow hk2 rfl (λhb=>hb.push rfl) (λb hb=>?_) λb hb=>?_
  ·simp only [Cp,Ew,or_false] at hb
   rcases hb with rfl|rfl
   ·exact haf
   ·exact hLf
  ·simp only [Cp,Ew,or_false] at hb
   rcases hb with rfl|rfl
   ·exact ⟨_,D5 _ rfl⟩
   ·refine fE hn λo zz zz z zz=>?_
    exact ⟨o,B8 _ z⟩
theorem c1(h:dp C "_iter_escaped_chars" 1)(hg:C.mg "enumerate"=none):gT C (n+1) "_iter_escaped_chars" aE:=by
 refine dk (vF h hg) λfa o fd h1 h2 h3 hc=>?_;refine (dE fa o fd h1 h2 h3 ?_);intro A T α μ s E vs Vs xs g μ' R I r q;refine ax q λW el q=>ax q λx ex q=>gj q (gJ r el λv z rv=>bP (j0 ex rv) λt z1=>?_);subst z;subst z1;refine hc A T α μ s E x t _ (by have:=R.depth;unfold recursionLimit;lia) I λa L g env s' G hLb haL haf hLf hgf hk hgk I' st=>?_;exact wpAny_pyIter_gen st.1 (j2 ([a,L]) ([g]) _ _ α (gV.gen hg G hLb haL) I' (aV.of_keeps hk hgk) st (λb hb=>(Cp.mp hb).elim (λq=>q▸haf) λq=>AA.mp q▸hLf) (λi hi=>AA.mp hi▸hgf) (λzz e=>nomatch e))
end
def KS(s₀ s:Shared):Prop:=(∀b o,s₀.heap.get? b=some o→s.heap.get? b=some o)∧∀ (i:Nat) (x:GenState),s₀.gens[i]? =some x→s.gens[i]? =some x
theorem KS.moves(k:KS s₀ s)(x:aG wr gi s s')(hw:∀b∈wr,s₀.heap.get? b=none)(hg:∀i∈gi,s₀.gens[i]? =none):KS s₀ s':=
 ⟨λb o e=>x.heap b o (λq=>by rw [hw b q] at e;exact cv e) (k.1 b o e),λi y e=>x.gens i y (λq=>by rw [hg i q] at e;exact cv e) (k.2 i y e)⟩
theorem KS.fresh(k:KS s₀ s){b:Addr}(h:s.heap.get? b=none):s₀.heap.get? b=none:=by
 cases q:s₀.heap.get? b with
 |none=>rfl
 |some o=>rw [k.1 b o q] at h;exact cv (F6 h)
section
theorem wG{S:Addr}{f:Obj→Obj}(I:bl C (wr++S::T) α μ s)(hS:s.heap.get? S=some o)(hf:(f o).isFreed=false):
  aG [S] [] s {s with heap:=s.heap.update S f}∧bl C (wr++S::T) α μ {s with heap:=s.heap.update S f}:=by
 have mv:aG [S] [] s {s with heap:=s.heap.update S f}:=aG.of_heap (tk:=s.toks) λb o hb z=>(Rz _ _ (λq:S=b=>hb (by simp [q]))).trans z;refine ⟨mv,I.moves mv (λb hb=>?_) λb hb=>?_⟩
 ·obtain rfl:b=S:=by simpa using hb
  simp
 ·obtain rfl:b=S:=by simpa using hb
  exact ⟨_,Fw _ hS hf⟩
theorem aG.stepS{S:Addr}(x:aG [S] [] s s')(hd:∃o,s'.heap.get? S=some o):aV [S] α μ s α μ s':=
 ⟨⟨[],by simp,by simp⟩,λb o e hb=>x.heap b o (λq=>hb (yx _ q)) e,λzz h=>.inl h,λb o e=>by
  by_cases q:b=S
  ·exact q▸hd
  ·exact ⟨o,x.heap b o (by simpa using q) e⟩,λi y e=>x.gens i y (by simp) e⟩
theorem CK{R:Result→Shared→Prop}(W:gV C (.ref a) gi xs none true St Mid)(toSt:∀wr T α μ i v s,Mid wr T α μ i v s→St wr T α μ (i+1) s)
  (fresh:∀wr T α μ i v s,Mid wr T α μ i v s→∀a',v=.ref a'→a'∉T++ai α μ) (S:Addr) (hn:xs.length≤sizeLine) (Rm:cR A.in1 2) (hSf:s₀.heap.get? S=none) (hgi:∀i∈gi,s₀.gens[i]? =none) (hTd:∀b∈T,s₀.heap.get? b≠none) (res:Value):
  ∀ (k i:Nat) (s:Shared) (acc:Array Value) (c:Nat) (wr:List Addr),xs.length-i=k→i≤xs.length→St wr (wr++S::T) α μ i s→bl C (wr++S::T) α μ s→S∉wr→s.heap.get? S=some {cls:=.type "list",dict:=none,data:=.seq acc c,slots:= #[]}→
   aw s.heap ((wr++S::T)++ai α μ) acc.toList (xs.take i)→KS s₀ s→(∀b∈wr,s₀.heap.get? b=none)→
  (∀s' acc' c',bl C (S::T) α μ s'→s'.heap.get? S=some {cls:=.type "list",dict:=none,data:=.seq acc' c',slots:= #[]}→aw s'.heap ((S::T)++ai α μ) acc'.toList xs→KS s₀ s'→R (.ok (.ret res)) s')→
  codeAny (model C.prog C.w) A (.builtin "list.extend.loop" ⟨[.ref S,.ref a,res],[]⟩) R s:=by
 intro k
 induction k with
 |zero=>
  intro i s acc c wr hk hi st I hSw hS hacc ks hwr hR;have hin:i=xs.length:=by lia
  subst hin;refine codeAny_builtin SR ?_;rw [Sm NS _];refine (?_:wpAny _ A.in1 (pyNext (.ref a)>>=_) _ _ s);refine zm (W.done Rm I st (by simp) λs' mv hI=>?_);refine EY (hR s' acc c (hI (S::T) λb hb=>⟨CO _ hb,λq=>?_⟩) (mv.heap S _ hSw hS) ?_ (ks.moves mv hwr hgi))
  ·rcases Cp.mp hb with rfl|hb
   ·exact hSw q
   ·exact hTd b hb (hwr b q)
  ·rw [LW] at hacc
   refine aw.step (W:=wr) (λb o e hb=>mv.heap b o (λq=>hb q) e) (λb hb zz=>yx _ (yx _ hb)) (λb hb=>.inl ?_) hacc
   rcases AF.mp hb with h|h
   ·exact yx _ (CO _ h)
   ·exact CO _ h
 |succ k ih=>
  intro i s acc c wr hk hi st I hSw hS hacc ks hwr hR;have hlt:i<xs.length:=by lia
  have hacs:acc.size=i:=by
   have:=hacc.length
   rw [LU,RQ hi] at this
   simpa using this
  refine codeAny_builtin SR ?_;rw [Sm NS _];refine (?_:wpAny _ A.in1 (pyNext (.ref a)>>=_) _ _ s);refine zm (W.item Rm I st (x:=xs[i]) (Fu hlt) λv s' wr' mv hwr' I' ir md=>?_);have hSw':S∉wr':= λq=>by
   rcases hwr' S q with h|h
   ·exact hSw h
   ·rw [hS] at h;exact cv (F6 h)
  have hS':=mv.heap S _ hSw hS;have ks':=ks.moves mv hwr hgi;have hwf':∀b∈wr',s₀.heap.get? b=none:= λb hb=>(hwr' b hb).elim (hwr b) ks.fresh;refine dk ir λa' items ds zq3 hxi htup hrel=>?_;subst zq3;have hit:aJ s'.heap ((wr'++S::T)++ai α μ) (.ref a') xs[i]:=by
   rw [hxi];exact .ctuple htup (fresh _ _ _ _ _ _ _ md a' rfl) hrel
  have hacc':aw s'.heap ((wr'++S::T)++ai α μ) acc.toList (xs.take i):=aw.step (W:=wr) (λb o e hb=>mv.heap b o (λq=>hb q) e) (λb hb zz=>yx _ (yx _ hb)) (λb hb=>by
   rcases AF.mp hb with h|h
   ·rcases AF.mp h with h|h
    ·exact (hwr' b h).imp (λz=>yx _ (yx _ z)) id
    ·exact .inl (yx _ (CO _ h))
   ·exact .inl (CO _ h)) hacc
  refine (?_:wpAny _ A.in1 (updateSeq S (·.push (.ref a'))>>=_) _ _ _);refine zm ?_;have hSn:=Fw (M7 (·.push (LH a'))) hS' rfl;refine f_ (wG (f:=M7 (·.push (LH a'))) I' hS' rfl) λmv2 I2=>?_;refine Ok hS' rfl (EY ⟨plainId_quiet NS _,ih (i+1) _ (acc.push (.ref a')) _ wr' (by lia) hlt (W.frame (O:=[S]) (toSt _ _ _ _ _ _ _ md) (mv2.stepS ⟨_,hSn⟩) (λb hb=>.inr (.inr ?_)) (λb hb q=>?_) (λb hb=>.inl hb) (λb hb=>yx _ hb) I' I2 λzz e=>by exact cv e) I2 hSw' hSn ?_ (ks'.moves mv2 (λb hb=>?_) λzz h=>by simp at h) hwf' hR⟩)
   (by rw [hacs];lia) (by show (acc.push _).size≤sizeLine+1;rw [Array.size_push,hacs];lia)
  ·obtain rfl:b=S:=by simpa using hb
   simp
  ·obtain rfl:b=S:=by simpa using hb
   exact hSw' q
  ·have:=(hacc'.append (aw.cons hit (aw.nil _ _))).moves (T:=wr'++S::T) mv2 (λb hb=>by
    obtain rfl:b=S:=by simpa using hb
    simp)
   rw [show xs.take (i+1)=xs.take i++[xs[i]] from List.take_succ_eq_append_getElem hlt]
   simpa using this
  ·obtain rfl:b=S:=by simpa using hb
   exact hSf
end
section
theorem H4(W:gV C (.ref a) gi xs none true St Mid)(toSt:∀wr T α μ i v s,Mid wr T α μ i v s→St wr T α μ (i+1) s)
  (fresh:∀wr T α μ i v s,Mid wr T α μ i v s→∀a',v=.ref a'→a'∉T++ai α μ) (hT:∀wr T α μ i s,St wr T α μ i s→s.TypeIs (.ref a) "generator") (hn:xs.length≤sizeLine) (Rm:cR A.in1.in1 2)
  (ks:KS s₀ s) (hgi:∀i∈gi,s₀.gens[i]? =none) (hwr:∀b∈wr,s₀.heap.get? b=none) (hTd:∀b∈T,s₀.heap.get? b≠none) (st:St wr (wr++T) α μ 0 s) (I:bl C (wr++T) α μ s)
  (hQ:∀S s' acc' c',s₀.heap.get? S=none→bl C (S::T) α μ s'→s'.heap.get? S=some {cls:=.type "list",dict:=none,data:=.seq acc' c',slots:= #[]}→aw s'.heap ((S::T)++ai α μ) acc'.toList xs→KS s₀ s'→Q (.ref S) s'):
  wpAny (model C.prog C.w) A (call (.type "list") [.ref a]) Q E s:=by
 have hSf:s.heap.get? s.heap.objs.size=none:=bx (Dj _);generalize hSe:s.heap.objs.size=S at hSf
 have hS0:s₀.heap.get? S=none:=ks.fresh hSf;refine callType_codes (Q₁:= λobj s₁=>obj=.ref s.heap.objs.size∧s₁= {s with heap:=s.heap.push {cls:=.type "list",data:=.seq #[]}}) F.called_list (F.typeCall_list_1 _) F.entry_list_init
  (code_list_new _ ⟨rfl,rfl⟩) λobj s₁ h₁=>?_
 refine f_ h₁ λzq0 zq1=>?_;refine bH (F6 zq0) ?_;refine bH (F6 zq1) ?_;have hS:(s.heap.push {cls:=.type "list",data:=.seq #[]}).get? s.heap.objs.size=some {cls:=.type "list",data:=.seq #[]}:=D5 _ rfl;rw [hSe] at hS⊢
 have hk1:∀b o,s.heap.get? b=some o→(s.heap.push {cls:=.type "list",data:=.seq #[]}).get? b=some o:=bc _ _;have mv1:aG [] [] s {s with heap:=s.heap.push {cls:=.type "list",data:=.seq #[]}}:=aG.of_heap (tk:=s.toks) λb o zz z=>hk1 b o z;have I1:bl C (wr++S::T) α μ {s with heap:=s.heap.push {cls:=.type "list",data:=.seq #[]}}:=I.movesG mv1 (λb hb=>by simp at hb) (λb hb=>by
  rcases AF.mp hb with h|h
  ·exact .inl (yx _ h)
  ·rcases Cp.mp h with rfl|h
   ·exact .inr hSf
   ·exact .inl (CO _ h)) λb hb=>by
  rcases AF.mp hb with h|h
  ·exact (I.tdom b (yx _ h)).imp λo z=>hk1 b o z
  ·rcases Cp.mp h with rfl|h
   ·exact ⟨_,hS⟩
   ·exact (I.tdom b (CO _ h)).imp λo z=>hk1 b o z
 have hSw:S∉wr:= λq=>by
  refine bP (I.tdom S (yx _ q)) λo z=>?_;rw [hSf] at z;exact cv z
 have st1:St wr (wr++S::T) α μ 0 {s with heap:=s.heap.push {cls:=.type "list",data:=.seq #[]}}:=W.frame (O:=[]) st (aV.keeps (tk:=s.toks) hk1) (iI.nil _ _) (λzz h=>by simp at h) (λb hb=>by
  rcases AF.mp hb with h|h
  ·exact .inl (yx _ h)
  ·rcases Cp.mp h with rfl|h
   ·exact .inr hSf
   ·exact .inl (CO _ h)) (λb hb=>yx _ hb) I I1 λzz e=>by exact cv e
 have upd:∀ {s1:Shared} {o:Obj} {f:Obj→Obj},St wr (wr++S::T) α μ 0 s1→bl C (wr++S::T) α μ s1→s1.heap.get? S=some o→(f o).isFreed=false→
   St wr (wr++S::T) α μ 0 {s1 with heap:=s1.heap.update S f}∧bl C (wr++S::T) α μ {s1 with heap:=s1.heap.update S f}∧(KS s₀ s1→KS s₀ {s1 with heap:=s1.heap.update S f}):= λ{s1 o f} st1 I1 h1 hf=>by
  refine f_ (wG (f:=f) I1 h1 hf) λmv2 I2=>?_;refine (fu (W.frame (O:=[S]) st1 (mv2.stepS ⟨_,Fw _ h1 hf⟩) (λb hb=>.inr (.inr ?_)) (λb hb q=>?_) (λb hb=>.inl hb) (λb hb=>yx _ hb) I1 I2 (λzz e=>by exact cv e)) I2 (λk=>KS.moves k mv2 (λb hb=>?_) λzz h=>by simp at h))
  ·obtain rfl:b=S:=by simpa using hb
   simp
  ·obtain rfl:b=S:=by simpa using hb
   exact hSw q
  ·obtain rfl:b=S:=by simpa using hb
   exact hS0
 refine (fu ⟨_,hS,rfl⟩ (F.args_list_init_2 _ _) ?_);refine (?_:wpAny _ A.in1.in1 (do let old←RB (.ref S);Builtin.List.listUpdate (.ref S) (λzz=> #[]);letGo old.toList.reverse;MS (.ref S) (.ref a) .none) _ _ _);refine zm ?_;unfold RB;refine zm (Na hS rfl (EY ?_))
 show wpAny _ A.in1.in1 (updateSeq S (λzz=> #[])>>= λzz=>letGo (#[]:Array Value).toList.reverse>>= λzz=>MS (.ref S) (.ref a) .none) _ _ _
 refine zm (Ok hS rfl ?_);have hS₂:=Fw (M7 (λzz=>(#[]:Array Value))) hS rfl;refine dW (upd (f:=M7 (λzz=>(#[]:Array Value))) st1 I1 hS rfl) λst2 I2 k2=>?_;refine zm (SP ?_);have hSI:S≠a:= λe=>by
  refine au (hT _ _ _ _ _ _ st1) λo z q=>?_;rw [←e] at z
  rw [hS] at z;cases z;exact absurd q (by decide)
 unfold MS;refine zm (wpAny_typeOf (hT _ _ _ _ _ _ st2) ?_);have h1:QQ (.ref S) (.ref a)=false:=by simp [QQ,hSI]
 have h2:(Tx "generator"==Tx "list")=false:=by decide
 have h3:(Tx "generator"==Tx "tuple")=false:=by decide
 simp only [h1,h2,h3,UU,Oz,if_false];refine zm (W.self st2 ?_);refine zm (Lc ?_);unfold Builtin.List.listLengthHint;refine zm (LG (hT _ _ _ _ _ _ st2) F.gen_no_len ?_);refine (?_:wpAny _ A.in1.in1 (specialOf (LH a) (Ku "__length_hint__")>>=_) _ _ _);refine zm (LG (hT _ _ _ _ _ _ st2) F.gen_no_hint ?_);refine EY ?_
 show wpAny _ A.in1.in1 (rule "list.extend.makes-room">>= λzz=>Builtin.List.listTouch (.ref S)>>= λzz=>
  again (.builtin "list.extend.loop" ⟨[.ref S,.ref a,.none],[]⟩)) _ _ _
 refine zm (O6 ?_);refine zm ?_
 show wpAny _ A.in1.in1 (updateSeq S (·.push .none)>>= λzz=>updateSeq S (·.pop)) _ _ _
 refine zm (Ok hS₂ rfl ?_);have hS₃:=Fw (M7 (·.push Lm)) hS₂ rfl;refine dW (upd (f:=M7 (·.push Lm)) st2 I2 hS₂ rfl) λst3 I3 k3=>?_;refine Ok (hz:=by seq_fits) hS₃ rfl ?_;have hS₄:=Fw (M7 (·.pop)) hS₃ rfl;refine dW (upd (f:=M7 (·.pop)) st3 I3 hS₃ rfl) λst4 I4 k4=>?_;have ks4:=k4 (k3 (k2 (ks.moves mv1 (λzz h=>by simp at h) λzz h=>by simp at h)));refine EY ⟨plainId_quiet NS _,CK W toSt fresh S hn Rm hS0 hgi hTd .none _ 0 _ _ _ wr rfl (LJ _) st4 I4 hSw hS₄ (by simpa using aw.nil _ _) ks4 hwr λs' acc' c' I' hS' hd hk=>?_⟩;exact ⟨rfl,hQ S s' acc' c' hS0 I' hS' hd hk⟩
end
theorem c1L(h:dp C "_iter_escaped_chars" 1)(hg:C.mg "enumerate"=none):BE C (n+3) "_iter_escaped_chars" aE:=by
 refine dk (vF h hg) λfa o fd h1 h2 h3 hc=>?_;refine (dE fa o fd h1 h2 h3 ?_);intro A T α μ s E vs Vs xs g μ' R I r q hsz;refine ax q λW el q=>ax q λx ex q=>?_;cases (q:some (eC x.cps.toList 0 false,none,μ)=some (xs,g,μ'));refine gJ r el λv z rv=>bP (j0 ex rv) λt z1=>?_;subst z;subst z1;refine hc A T α μ s E x t _ (by have:=R.depth;unfold recursionLimit;lia) I λa L g env s' G hLb haL haf hLf hgf hk hgk I' st=>?_;refine H4 (T:=T) (α:=α) (wr:=[a,L]) (μ:=μ) (s₀:=s) (gV.gen (x:=x) (env:=env) (g:=g) hg G hLb haL) (λwr T α μ i v s md=>md.1) (λwr T α μ i v s md=>md.2) (λwr T α μ i s st=>st.1.typeIs) hsz ⟨?_,?_,R.handled⟩ ⟨hk,hgk⟩ (λi hi=>AA.mp hi▸hgf) (λb hb=>(Cp.mp hb).elim (λq=>q▸haf) λq=>AA.mp q▸hLf) (λb hb q=>I.mdom b (yx _ hb) q) st I' λS s2 acc c hS I2 hS2 hd ks=>?_
 ·have:=R.depth
  show A.depth+4*2<600;lia
 ·have:=R.units
  show A.units+1+1+200*2+400<cLine;lia
 ·exact (cL α (I2.sub λb hb=>CQ _ hb) (aV.of_keeps ks.1 ks.2) (aJ.list (vs:=acc) ⟨_,hS2⟩ (hd.mono rC) λq=>I.mdom S q hS))
theorem ZM(h:Heap)(S:List Addr):∃b:Heap,(∀a,a∉S→b.get? a=h.get? a)∧∀a∈S,b.get? a=none:=by
 induction S with
 |nil=>exact (aZ h (λzz zz=>rfl) (λzz q=>by cases q))
 |cons x S ih=>
  refine au ih λb h1 h2=>?_;refine ⟨{b with objs:=b.objs.setIfInBounds x {cls:=.none,data:=.freed}},λa ha=>?_,λa ha=>?_⟩
  ·simp only [Cp,not_or] at ha
   rw [←h1 a ha.2];unfold V9;dsimp only;rw [Mc (MO ha.1)]
  ·by_cases q:a=x
   ·refine bH q ?_
    unfold V9;dsimp only
    by_cases hlt:a<b.objs.size
    ·rw [Array.getElem?_setIfInBounds_self_of_lt hlt]
    ·rw [Array.getElem?_eq_none (by simpa using hlt)]
   ·rw [←h2 a ((Cp.mp ha).resolve_left q)]
    unfold V9;dsimp only;rw [Mc (MO q)]
section
theorem om{it:Addr}{Q:Option Value→Shared→Prop}(hh:A.handled=none)(hit:d_ s.heap M it (.iter []))
  (hE:∀h1 h' e,HM h1 it→Lp it s.heap h1→Qg h1 h' e (.type "StopIteration") []→E (.ref e) {s with heap:=h'}):wpAny (model C.prog C.w) A (callSpecial? (.ref it) (Ku "__next__")) Q E s:=by
 have fin:∀ {β:Type} (Q':β→Shared→Prop) (h1:Heap),HM h1 it→Lp it s.heap h1→wpAny (model C.prog C.w) A.in1 (OU (α:=β)) Q' E {s with heap:=h1}:= λQ' h1 hs hb=>by
  unfold OU;refine zm ?_;simp only [newExc,newTuple];refine zm (Il ?_ (by size_fits));refine zm (m:=firstArgMember _ _) (Mm (a:=Lm) (by first|rfl| (simp only [firstArgMember];rfl)) ?_);refine Il ?_ (by size_fits);refine NO hh ?_;refine hE h1 _ _ hs hb ⟨λb o z=>B8 _ (B8 _ z),bx (by show h1.objs.size≤(h1.push _).objs.size;rw [M5];exact P3 _),h1.objs.size,D5 _ rfl,bx (Dj _),B8 _ (D5 _ rfl)⟩
 rcases hit with ⟨l,k,items,hli,hp,hl,hk,rr⟩| ⟨_,o,k,ho,hc,hd⟩
 ·refine cq (id hli) λo ho hc hd=>?_
  refine Al hp.isList λol hol zz nl hdl=>?_;have hx:items[k]? =none:=by
   have:=rr.length
   simp at this⊢;lia
  refine Jq (name:=Ku "__next__") hli.typeIs Ld
   (Lj Ld hli.typeIs PS ?_ (P_ _))
  refine (?_:wpAny _ _ (field (.ref it) 0>>=_) _ _ s);refine zm (L1 ho hd (x:=.ref l) rfl ?_);refine (?_:wpAny _ _ (if (LH l==Lm)=true then _ else _) _ _ s);rw [if_neg (show ¬ ((LH l==Lm)=true) from HJ)];refine (?_:wpAny _ _ (field (.ref it) 1>>=_) _ _ s);refine zm (L1 ho hd (x:=.int k 0) rfl ?_);refine (?_:wpAny _ _ (seqItems? (.ref l)>>=_) _ _ s);refine zm (Na hol hdl ?_);simp only [Fs,hx];refine zm (O6 (zm (P8 ho hd (by simp) ?_)));exact fin _ _ (dy _ _ (Fw _ ho (M0 (Lf hd _))) ((Tw ..).trans hc) (by rw [Lf hd];rfl)) (L9 ..)
 ·refine Jq (name:=Ku "__next__") (T:="list_iterator") (aZ o ho hc) Ld
   (Lj Ld (aZ o ho hc) PS ?_ (P_ _))
  refine (?_:wpAny _ _ (field (.ref it) 0>>=_) _ _ s);refine zm (L1 ho hd (x:=.none) rfl ?_);refine (?_:wpAny _ _ (if (Lm==Lm)=true then _ else _) _ _ s);rw [if_pos (by decide)];refine zm (O6 ?_);exact zm (fin _ s.heap (dy o k ho hc hd) ⟨rfl,λzz zz=>rfl⟩)
end
section
end
noncomputable abbrev Gs:Value:=.type "StopIteration"
def L4(h:Heap)(L:Addr):Prop:=∃o es n,h.get? L=some o∧o.data=.dict es n
def FF(h:Heap)(l:List Env):Prop:=∀env∈l,env.scope.kind≠ .module∧∃L,env.frame=some L∧L4 h L
theorem FF.fun{base:Heap}:∀ {l:List Env},FF h l→(∀L∈l.filterMap (·.frame),base.get? L=none)→h.FunFrames base l
 | [],_,_=>trivial
 |env::l,f,hb=>by
  obtain ⟨hk,L,hL,o,es,n,ho,hd⟩:=f env (by simp);refine (fu hk ⟨L,o,hL,hb L ?_,ho,λvs q=>by rw [hd] at q;cases q⟩ (FF.fun (λe he=>f e (CQ _ he)) λL' hL'=>hb L' ?_))
  ·rw [NT,hL];simp
  ·rw [NT,hL];exact CQ _ hL'
theorem L4.ext(x:L4 h L)(e:g7 W h h')(hn:L∉W):L4 h' L:=by
 refine fE x λo es n ho hd=>?_;exact (lw o es n (e L o ho λq=>absurd q hn) hd)
theorem L4.frameAt(x:L4 h L):bW h L:=let ⟨o,es,n,ho,hd⟩:=x;⟨o,ho,.inl (jK es n hd)⟩
theorem FF.step{l:List Env}(f:FF s.heap l)(I:bl C T α μ s)(S:aV O α μ s α' μ' s')(hO:∀L∈l.filterMap (·.frame),L∉O):FF s'.heap l:= λenv he=>by
 refine im (f env he) λhk L hL hd=>?_;refine (gS hk L hL (hd.ext S.ext λq=>?_))
 rcases AF.mp q with q|q
 ·exact hO L (Ox.mpr (aZ env he hL)) q
 ·exact I.notFrame (de q) hd.frameAt
theorem FF.mem{l:List Env}(f:FF h l)(hL:L∈l.filterMap (·.frame)):L4 h L:=by
 refine au (Ox.mp hL) λenv he q=>?_;refine im (f env he) λzz L' q' hd=>?_;rw [q] at q';cases q'
 exact hd
section
variable {M:Model}
theorem DG{base:Heap}{outer:List Env}{e:Addr}{args:List Value}{Q:Unit→Shared→Prop}
  (hfr:A.frames=some (env::outer)) (hf:env.frame=some L) (hkb:base.StaysIn h) (hl:h.FunFrames base (env::outer)) (hx:Qg h s.heap e cls args)
  (hQ:∀h' t,Tz base (env::outer) e cls (.ref t) L h'→s.heap.UpToSlots h'→Q () {s with heap:=h'}):wpAny M A (noteFrame (.ref e) env) Q E s:=by
 refine cq hx.there λt he htn ht=>?_;have fresh:∀b,h.get? b=none→base.get? b=none:= λb hb=>by
  cases hq:base.get? b with
  |none=>rfl
  |some o'=>have:=hkb b o' hq;rw [hb] at this;exact cv this
 unfold noteFrame;simp only [hf];refine zm (L1 he rfl (x:=.none) rfl ?_);rw [if_neg (by decide)];refine wpAny_entryW (vs:= #[.ref t,.none,.none,.none,.bool false,.none]) hfr (hl.of_keeps λb o hb zz=>(aZ o (hx.keeps b o hb) rfl)) hf he (λb o hb=>hx.keeps b o (hkb b o hb)) (fresh e hx.new) rfl (by show 1<6;decide) rfl λh' hN=>?_;refine mm hN λk1 k2 k3 k4=>?_;exact hQ h' t (ll k1 (fresh e hx.new) k2 k3) k4
theorem DL{base:Heap}{l:List Env}{e:Addr}{a0:Value}(hf:env.frame=some L)(hh:Tz base l e cls a0 L s.heap)
  (hQ:∀h',Tz base l e cls a0 L h'→s.heap.UpToSlots h'→Q (.ref e) {s with heap:=h'}):cameBackBy M A env Q (.ref e) s:=by
 obtain ⟨hkb,hen,hl,oe,vs,T,oT,ts,he,hcls,hd,h1,hnT,hTe,hT,hdT,h3⟩:=hh;have hsz3:3<ts.size:=(LO.mp h3).1;have other:∀b,b≠T→(s.heap.update T (Obj.mapFields (·.setIfInBounds 3 ((some L:Option Addr).elim Lm λf=>rawInt f)))).get? b=s.heap.get? b:=
  λb hb=>Rz _ _ (MO hb)
 have noRecord:∀b o,s.heap.get? b=some o→(∀vs,o.data≠ .fields vs)→b≠T:= λb o hb hnf q=>by
  rw [q,hT] at hb;injection hb with hb;subst hb;exact hnf ts hdT
 unfold cameBackBy;refine zm (L1 he hd h1 ?_);rw [if_neg (show ¬ ((LH T==Lm)=true) from by simp)];unfold setFlight;refine zm (L1 he hd h1 ?_);rw [if_pos (show (LH T != Lm)=true from by simp),hf];refine P8 hT hdT hsz3 (hQ _ (ll (λb o hbo=>(other b λq=>by rw [q,hnT] at hbo;exact cv hbo).trans (hkb b o hbo)) hen (hl.of_keeps λb o hb hnf=>⟨o,(other b (noRecord b o hb hnf)).trans hb,rfl⟩) ?_) λb o hb hnf=>⟨o.slots,(other b (noRecord b o hb hnf)).trans hb⟩);exact (oU oe vs T _ _ ((other e (MO hTe)).trans he) hcls hd h1 hnT hTe (Fw _ hT (M0 (Lf hdT _))) (Lf hdT _) (by simp [hsz3]))
theorem vG{base:Heap}{outer:List Env}{e:Addr}{a0:Value}{Q:Unit→Shared→Prop}(hf:env.frame=some L)
  (hh:Tz base (env::outer) e cls a0 L s.heap) (hQ:∀h',Heap.FlyingW base outer e cls a0 h'→s.heap.UpToSlots h'→Q () {s with heap:=h'}):wpAny M A (leaving env (.ref e)) Q E s:=by
 unfold leaving;refine zm (wpAny_noteFrame_againW hf hh.2.2.2 ?_);refine wpAny_landsW hh λh' hfl hu=>?_;refine mm hfl λk1 k2 zp2 k4=>?_;refine dW zp2 λzz zz k3=>?_;exact hQ h' (ll k1 k2 k3 k4) hu
end
section
theorem mD(hg:C.mg "next"=none)
  (ha:dg C n cx [e] [f]) (hs:∀env,starEach [e] env=(false,eval e env)::starEach [] env) (hp:∀env,(backTo pos (starEach [e] env)).any (·.1)=false)
  (hl:cx.scope.names.lookup ("next":Str)=some .globalImplicit) (hk:cx.scope.kind=.function)
  (R:cR A n) (I:bl C T α μ s) (F:bi C cx env O ρ s.heap α (T++ai α μ)) (hf:f ρ μ=some (.c i,μ)) (hc:μ[i]? =some (.iter []))
  (hE:∀α1 s1 h' ex,bl C T α1 (μ.set i (.iter [])) s1→aV [] α μ s α1 (μ.set i (.iter [])) s1→Qg s1.heap h' ex Gs []→E (.ref ex) {s1 with heap:=h'}):
  wpAny (model C.prog C.w) A (eval (.Call (.Name "next" xp) [e] [] pos) env) Q E s:=by
 refine (?_:wpAny _ A (do callWith pos (←eval (.Name "next" xp) env) [] (backTo pos (starEach [e] env)) []) _ _ s);refine zm (Fg (by rw [F.sc];exact hk) (by unfold JH;rw [F.sc];exact hl) (Lu (by rw [F.gl];exact C.g.keeps I.keep) hg (by rw [F.bn];exact C.b.keeps I.keep) ((C.bt _ (by decide+kernel)).trans (∅ :bootBuiltins "next"=some (.builtin "next"))) ?_) ∅);refine bf "next" _ _ _ _ _ _ _ _ (hp env) (eh (hs env) ha R I F (show fh [f] ρ μ=some ([.c i],μ) by simp [fh,hf,bpS,bpN,boS,boN]) λvs s1 α1 I1 S1 r1=>?_)
 match vs,r1 with
 | [v],r1=>
 obtain ⟨a,hαi,rfl⟩:=r1.1;refine PR (by decide+kernel) (by decide+kernel) kdk_entry_next (kdk_args_next _) ?_;unfold Builtin.«next»
 refine zm (m:=someArgs "next" 1 2 _) (Mm (a:=[LH a]) (by first|rfl|kernel_rfl!) ?_);dsimp only;have hcell:=I1.cells i a _ hαi hc;have hty:s1.TypeIs (.ref a) "list_iterator":=by
  rcases hcell with ⟨l,k,items,⟨o,ho,hcl,hd⟩,_⟩| ⟨_,o,k,ho,hcl,hd⟩
  ·exact (aZ o ho hcl)
  ·exact (aZ o ho hcl)
 refine zm (LG (name:=Ku "__next__") hty Ld.lookup ?_);refine wpAny_ite_split (λhab=>absurd hab (by decide)) (λzz=>?_);refine zm (om (C:=C) R.handled hcell λh1 h' ex hsp hsb hx=>?_);obtain ⟨I2,S2⟩:=I1.setCell (c:=.iter []) (h':=h1) (tk:=s1.toks) hαi hc rfl rfl (λb o q z=>(hsb.2 b q).trans z) (by obtain ⟨o,k,z,_⟩:=hsp;exact ⟨o,z⟩) λkd=>.inr ⟨rfl,hsp⟩;exact hE α1 {s1 with heap:=h1} h' ex I2 (S1.trans S2) hx
end
def Fly(C:gL)(T α:List Addr)(μ μ':List ah)(s:Shared)(outer:List Env)(e:Addr)(s':Shared):Prop:=
 ∃s1 h' base t LV,s'= {s1 with heap:=h'}∧bl C T α μ' s1∧aV [] α μ s α μ' s1∧s.heap.get? LV=none∧bW s1.heap LV∧(∀b,b∉LV::outer.filterMap (·.frame)→base.get? b=s1.heap.get? b)∧Heap.FlyingW base outer e Gs (.ref t) h'∧s1.heap.UpToSlots h'
theorem KE{v b:Int}(h0:0≤b)(h:(HL v:Int)+b≤2^27):rL (.d (.int v)) (.d (.int b)) μ=some (.d (.int (v*2^b.toNat)),μ):=by
 refine (?_:bo (if 0≤b∧(HL v:Int)+b≤2^27 then some (v*2^b.toNat) else none) (λz=>some (AV.d (.int z),μ))=_);rw [if_pos ⟨h0,h⟩];rfl
theorem xx{x:PyData}{r:List PyData}(hc:μ[i]? =some (.iter (x::r))):kv [.c i] μ=some (.d x,μ.set i (.iter r)):=by
 refine (?_:bo (μ[i]?.bind QI) (λxs=>bp (uncons xs) λx r=>some (AV.d x,μ.set i (.iter r)))=_);rw [hc];rfl
theorem Jl{o:AV→AV→List ah→Option (AV×List ah)}{v w:Int}(e:ρ[2]? =some (some (.d (.int v))))(h:o (.d (.int v)) (.d (.int 6)) μ=some (.d (.int w),μ)):ik 2 (kI 6) o ρ μ=some (.next,ρ.set 2 (some (.d (.int w))),μ):=by
 refine (?_:bo (ρ[2]?.bind id) (λV=>bp (o V (.d (.int 6)) μ) λr μ2=>some (Fl.next,ρ.set 2 (some r),μ2))=_);rw [e];refine (?_:bp (o (.d (.int v)) (.d (.int 6)) μ) (λr μ2=>some (Fl.next,ρ.set 2 (some r),μ2))=_);rw [h];rfl
theorem oN:(0:Int)≤6:=by decide
theorem PG{v:Int}(e:ρ[2]? =some (some (.d (.int v))))(h:(HL v:Int)+6≤2^27):∃w,ik 2 (kI 6) rL ρ μ=some (.next,ρ.set 2 (some (.d (.int w))),μ):=by
 have:∃w,rL (.d (.int v)) (.d (.int 6)) μ=some (.d (.int w),μ):=⟨_,KE oN h⟩
 refine bP this λw hw=>?_;exact ⟨w,Jl e hw⟩
section
theorem Po(G:cK C)(h:dp C "_parse_varint" 8):∃fa o fd,C.mg "_parse_varint"=some (.ref fa)∧C.B.get? fa=some o∧o.data=.func fd∧
  ∀ (A:Around) (T α:List Addr) (μ μ':List ah) (s:Shared) (i:Nat) (a:Addr) (outer:List Env) (Q E:Value→Shared→Prop),cR A 3→bl C T α μ s→α[i]? =some a→qC μ i=some μ'→A.frames=some outer→FF s.heap outer→
   (∀e s',Fly C T α μ μ' s outer e s'→E (.ref e) s')→wpAny (model C.prog C.w) A (call (.ref fa) [.ref a]) Q E s:=by
 refine ft h λfa o pm cd doc h1 h2 h3 h4=>?_;refine (dE fa o _ h1 h2 h3 (λA T α μ μ' s i a outer Q E R I ha hst hfr hff hE=>?_));refine mu (Vs:=[.c i]) ["iterator"] h2 h3 h4 (jG λzz=> ∅) (of_decide_eq_true ∅) ∅ ∅ ∅ ∅ (by have:=R.depth;unfold recursionLimit;lia) I ⟨(aZ a ha rfl),trivial⟩ rfl λL O h₁ tk hL hLO hO I1 S1 F1 hk1=>?_
 generalize henv:envOfC "_parse_varint" (ao (ay 8)) L fa cd=env at F1⊢
 have hef:env.frame=some L:=by rw [←henv];rfl
 have hek:env.scope.kind≠ .module:=by rw [←henv];show (ao (ay 8)).kind≠ .module;rw [show (ao (ay 8)).kind=.function from ∅];decide
 have R2:cR (A.deeper env) 2:=⟨by have:=R.depth;show A.depth+1+4*2<600;lia,by have:=R.units;show A.units+3+200*2+400<cLine;lia,R.handled⟩;have hfr2:(A.deeper env).frames=some (env::outer):=Pw hfr;have hLout:∀L'∈outer.filterMap (·.frame),L'∉O:= λL' hL' q=>(hff.mem hL').frameAt.dom (hO L' q);have hff1:FF h₁ outer:= λenv' he=>by
  obtain ⟨hk,L',hL',o',es,m,ho',hd⟩:=hff env' he;exact ⟨hk,L',hL',o',es,m,hk1 _ _ ho',hd⟩
 have hnext:C.mg "next"=none:=G.no _ ∅
 
 have made:∀ {α1 μ1 s1 h' ex},bl C T α1 μ1 s1→aV O α μ {s with heap:=h₁,toks:=tk} α1 μ1 s1→α1=α→L4 s1.heap L→Qg s1.heap h' ex Gs []→
   ∃base,(∀b,b∉L::outer.filterMap (·.frame)→base.get? b=s1.heap.get? b)∧base.StaysIn s1.heap∧s1.heap.FunFrames base (env::outer)∧aV [] α μ s α μ1 s1:= λ{α1 μ1 s1 h' ex} I' S' hα hLd hx=>by
  subst hα;refine au (ZM s1.heap (L::outer.filterMap (·.frame))) λbase g1 g2=>?_;have hfs:FF s1.heap (env::outer):= λenv' he=>by
   rcases Cp.mp he with rfl|he
   ·exact (gS hek L hef hLd)
   ·exact FF.step (s:= {s with heap:=h₁,toks:=tk}) hff1 I1 S' hLout env' he
  refine (d4 base g1 (λb o z=>?_) (hfs.fun λL' hL'=>g2 L' ?_) (((S1.up (O:=O)).trans S').weak λb hb=>.inr (hO b hb)))
  ·by_cases q:b∈L::outer.filterMap (·.frame)
   ·rw [g2 b q] at z;cases z
   ·rw [←g1 b q];exact z
  ·rwa [NT,hef] at hL'
 have hnsD:∀ {ρ:d5} {s1:Shared} {α1:List Addr} {M:List Addr},bi C Dk env O ρ s1.heap α1 M→L4 s1.heap L:= λF=>by
  refine au F.loc λm zp1 zz=>?_;refine jy zp1 λob es ep z d zz=>?_;rw [show env.locals=L by rw [←henv];rfl] at z
  exact (lw ob es ep z d)
 have sameα:∀ {α1:List Addr} {μ0 μ1:List ah} {s0 s1:Shared},bl C T α1 μ1 s1→aV O α μ s0 α1 μ1 s1→μ1.length=μ.length→α1=α:= λ{α1 μ0 μ1 s0 s1} I' S' hl=>by
  refine au S'.pre λδ e zz=>?_
  have:=I'.len
  rw [hl,←I.len,e,be] at this
  have hz:δ=[]:=OD.mp (by lia);rw [e,hz,D8]
 refine PM hst (λhc z=>?_) λb hc hb z=>?_
 ·subst z
  refine KL (M9 (mD (cx:=Dk) (f:=a9 0) (n:=2) hnext (dF (λzz=> ∅) iY ae) (λzz=> ∅) (λzz=>rfl) ∅ ∅ R2 I1 F1 rfl hc λα1 s1 h' ex I' S' hx=>?_) ∅);have hα:α1=α:=sameα (μ0:=μ) (s0:= {s with heap:=h₁,toks:=tk}) I' S'.up (by simp);subst hα;refine eA (made I' S'.up rfl (hnsD (F1.step I1 S')) hx) λbase g1 hkb hl hSt=>?_;refine wpAny_leaves_madeW hfr2 hef hkb hl hx λh'' t fly zz zz up=>?_;exact hE ex _ (iw s1 h'' base t L rfl I' hSt hL ((hnsD (F1.step I1 S')).frameAt) g1 fly ((Ra hx.keeps).trans up))
 ·subst z
  have hlen:i<μ.length:=(AX.mp hc).1;refine KL (D1 ((C4 G (Dj 2)).run _ env O T _ α μ _ _ .next ((cE (ao (ay 8)) [.c i]).set 1 (some (.d (.int b)))) (μ.set i (.iter [])) R2 I1 F1 ?_) (λfw s2 p=>?_) λzz zz x=>x)
  ·refine (?_:bp (kv [.c i] μ) (λV μ1=>some (Fl.next,(cE (ao (ay 8)) [.c i]).set 1 (some V),μ1))=_)
   rw [xx hc];rfl
  refine eA p λα2 I2 S2 F2 zq4=>?_;subst zq4;refine KL (D1 ((Bu G (Dj 2)).run _ env O T _ α2 _ _ _ .next (((cE (ao (ay 8)) [.c i]).set 1 (some (.d (.int b)))).set 2 (some (.d (.int (D3 b 63))))) (μ.set i (.iter [])) R2 I2 F2 ?_) (λfw s3 p=>?_) λzz zz x=>x)
  ·rfl
  refine eA p λα3 I3 S3 F3 zq4=>?_;subst zq4;refine KL (wpAny_While (codeAny_whileLoop (λk s'=>s'=s3) ?_ 0 rfl))
  rintro k s' rfl
  refine D1 ((iD (λzz zz=>rfl) (av MI am qU)).run _ env O T _ α3 _ _ _ true (μ.set i (.iter [])) R2 I3 F3 ?_) (λb' s4 p=>?_) λzz zz x=>x
  ·refine (?_:some (D3 b 64 != 0,μ.set i (.iter []))=_)
   rw [bne_iff_ne.mpr hb.1]
  refine im p λzq0 α4 I4 S4=>?_;subst zq0;rw [if_pos rfl];have F4:=F3.step I3 S4;refine bP (PG (ρ:=((cE (ao (ay 8)) [.c i]).set 1 (some (.d (.int b)))).set 2 (some (.d (.int (D3 b 63))))) (μ:=μ.set i (.iter [])) rfl hb.2) λw hw=>?_;refine KL (D1 ((nY (i:=2) ∅ ∅ ∅ am Ch).run _ env O T _ α4 _ _ _ .next _ _ R2 I4 F4 hw) (λfw s5 p=>?_) λzz zz x=>x);refine eA p λα5 I5 S5 F5 zq4=>?_;subst zq4;have hc5:(μ.set i (.iter []))[i]? =some (.iter []):=by simp [hlen]
  refine KL (M9 (mD (cx:=Dk) (f:=a9 0) (n:=2) hnext (dF (λzz=> ∅) iY ae) (λzz=> ∅) (λzz=>rfl) ∅ ∅ R2 I5 F5 rfl hc5 λα6 s6 h' ex I6 S6 hx=>?_) ∅);have SS:=((S2.trans (S3.trans (S4.up (O:=O)))).trans S5).trans (S6.up (O:=O));rw [HQ] at I6 S6 SS
  have hα:α6=α:=sameα (μ0:=μ) (s0:= {s with heap:=h₁,toks:=tk}) I6 SS (by simp);subst hα;have hLd:=hnsD (F5.step I5 S6);refine eA (made I6 SS rfl hLd hx) λbase g1 hkb hl hSt=>?_;refine DG hfr2 hef hkb hl hx λh7 t held up7=>?_;refine DL hef held λh8 held8 up8=>?_;refine vG hef held8 λh9 fly up9=>?_;exact hE ex _ (iw s6 h9 base t L rfl I6 hSt hL hLd.frameAt g1 fly ((((Ra hx.keeps).trans up7).trans up8).trans up9))
end
section
variable {f:SF}
theorem Tq{h₀:ExceptHandler}{hs:List ExceptHandler}(hf:cD C n cx body f):aQ C n cx (.Try body (h₀::hs) [] [] pos) f:=by
 refine .of ?_;intro A env O T ρ α μ s E fl ρ' μ' R I F h;refine wpAny_Try_except (D1 (hf.run A env O T ρ α μ s _ fl ρ' μ' R I F h) (λfw s1 p=>?_) λzz zz x=>x);have p':=p;refine eA p λα1 I1 S1 F1 r1=>?_;cases fl with
 |next=>cases r1;exact RS p'
 |brk=>cases r1;exact p'
 |ret V=>refine au r1 λv zq1 rv=>?_;subst zq1;exact p'
abbrev SO:Cx:=dh (ao (ay 69))
theorem vH:ab C n SO (.Name "tape" pos) (a9 0):=qW 0 ∅ ∅ ∅ ∅
def f69:SF:=ap (fe (aU [af [a9 0] aR])) aP
theorem b69(hp:aI C n "_parse_varint" aR):cD C n SO (aq (ay 69)) (ap f69 aP):=
 ak (Tq (ak (da (bb (dF (λzz=> ∅) (ci hp (dF (λzz=> ∅) vH ae) (λzz=>rfl) ∅ ∅ ∅) ae))) aN)) aN
theorem ao5(hp:aI C n "_parse_varint" aR)(h:dp C "_law_beyond" 69):aI C (n+1) "_law_beyond" (cC 1 (ao (ay 69)) (ap f69 aP)):=
 gU ["tape"] h (b69 hp) (λzz zz zz=>jG λzz=> ∅) ∅ ∅ ∅ ∅ ∅
end
section
theorem xe(G:cK C)(hv:dp C "_parse_varint" 8)(h:dp C "_law_beyond" 69):∃fa o fd,C.mg "_law_beyond"=some (.ref fa)∧C.B.get? fa=some o∧o.data=.func fd∧
  ∀ (A:Around) (T α:List Addr) (μ μ':List ah) (s:Shared) (i:Nat) (a:Addr) (outer:List Env) (Q:Value→Shared→Prop) (E:Value→Shared→Prop),cR A 4→bl C T α μ s→α[i]? =some a→qC μ i=some μ'→A.frames=some outer→FF s.heap outer→(∀L∈outer.filterMap (·.frame),L∉T∧C.B.get? L=none)→
   (∀r s1 s',bl C T α μ' s1→aV [] α μ s α μ' s1→bl C T α μ' s'→s1.gens=s'.gens→(∀b,b∉outer.filterMap (·.frame)→s.heap.get? b≠none→∀o,s1.heap.get? b=some o→s'.heap.get? b=some o)→(∀b o,s1.heap.get? b=some o→(∀vs,o.data≠ .fields vs)→∃sl,s'.heap.get? b=some {o with slots:=sl})→aJ s'.heap (T++ai α μ') (.ref r) (.list [])→Q (.ref r) s')→
    wpAny (model C.prog C.w) A (call (.ref fa) [.ref a]) Q E s:=by
 refine dk (Po G hv) λfv ov fdv g1 g2 g3 pvs=>?_;refine ft h λfa o pm cd doc h1 h2 h3 h4=>?_;refine (dE fa o _ h1 h2 h3 (λA T α μ μ' s i a outer Q E R I ha hst hfr hff hout hQ=>?_));refine mu (Vs:=[.c i]) ["tape"] h2 h3 h4 (jG λzz=> ∅) (of_decide_eq_true ∅) ∅ ∅ ∅ ∅ (by have:=R.depth;unfold recursionLimit;lia) I ⟨(aZ a ha rfl),trivial⟩ rfl λL O h₁ tk hL hLO hO I1 S1 F1 hk1=>?_
 generalize henv:envOfC "_law_beyond" (ao (ay 69)) L fa cd=env at F1⊢
 have hef:env.frame=some L:=by rw [←henv];rfl
 have hek:env.scope.kind≠ .module:=by rw [←henv];show (ao (ay 69)).kind≠ .module;rw [show (ao (ay 69)).kind=.function from ∅];decide
 have R2:cR (A.deeper env) 3:=⟨by have:=R.depth;show A.depth+1+4*3<600;lia,by have:=R.units;show A.units+3+200*3+400<cLine;lia,R.handled⟩;have hfr2:(A.deeper env).frames=some (env::outer):=Pw hfr;have hnsD:∀ {ρ:d5} {s1:Shared} {α1:List Addr} {M:List Addr},bi C SO env O ρ s1.heap α1 M→L4 s1.heap L:= λF=>by
  refine au F.loc λm zp1 zz=>?_;refine jy zp1 λob es ep z d zz=>?_;rw [show env.locals=L by rw [←henv];rfl] at z
  exact (lw ob es ep z d)
 have hff1:FF h₁ (env::outer):= λenv' he=>by
  rcases Cp.mp he with rfl|he
  ·exact (gS hek L hef (hnsD (s1:= {s with heap:=h₁}) F1))
  ·obtain ⟨hk,L',hL',o',es,m,ho',hd⟩:=hff env' he
   exact ⟨hk,L',hL',o',es,m,hk1 _ _ ho',hd⟩
 have hstop:C.mg "StopIteration"=none:=G.no _ ∅
 refine KL (wpAny_Try_except ?_);refine KL (wpAny_Return_some (List_ ?_));refine RL ?_;refine zm (m:=eval (.Name "_parse_varint" _) env) (Fg (by rw [F1.sc];kernel_rfl) (by unfold JH;rw [F1.sc];kernel_rfl) (Ll (by rw [F1.gl];exact C.g.keeps I1.keep) g1 ?_) ∅);refine MU (o:=ov) (fd:=fdv) (eh (n:=3) (fs:=[a9 0]) ∅ (dF (λzz=> ∅) vH ae) R2 I1 F1 (Vs:=[.c i]) (μ1:=μ) rfl λvs s2 α2 I2 S2 r2=>⟨⟨I2.keep _ _ g2,g3⟩,?_⟩);have hα:α2=α:=by
  refine au S2.pre λδ e zz=>?_
  have:=I2.len
  rw [←I.len,e,be] at this
  have hz:δ=[]:=OD.mp (by lia);rw [e,hz,D8]
 subst hα
 match vs,r2 with
 | [v],r2=>
 refine au r2.1 λa' ha' zq2=>?_;subst zq2;rw [ha] at ha';cases ha'
 have S02:aV [] α2 μ s α2 μ s2:=S1.trans S2;have hff2:FF s2.heap (env::outer):=FF.step (s:= {s with heap:=h₁,toks:=tk}) hff1 I1 S2 (λzz zz q=>by simp at q);refine pvs _ T α2 μ μ' s2 i a (env::outer) _ _ R2 I2 ha hst hfr2 hff2 λe s' fly=>?_;refine jT fly λs1 h' base t LV zq5 I3 S3 hLV hLVf hgh hfl hup=>?_;subst zq5;refine wpAny_looks_onW hfr2 hef hfl λh5 held up5=>?_;refine wpAny_landsW held λh6 fly6 up6=>?_;have nb:∀b,s.heap.get? b=none→C.B.get? b=none:= λb z=>by
  cases q:C.B.get? b with
  |none=>rfl
  |some o=>have:=I.keep b o q;rw [z] at this;cases this
 have hLV0:s.heap.get? LV=none:=dY S02.dom hLV;have hS:∀b,b∈LV::(env::outer).filterMap (·.frame)→b=LV∨b=L∨b∈outer.filterMap (·.frame):= λb hb=>by
  rw [NT,hef] at hb
  simpa using hb
 have hSb:∀b,b∈LV::(env::outer).filterMap (·.frame)→C.B.get? b=none:= λb hb=>by
  rcases hS b hb with rfl|rfl|hb
  ·exact nb _ hLV0
  ·exact nb _ hL
  ·exact (hout b hb).2
 have keepB:∀ {hh:Heap},base.StaysIn hh→∀b o,C.B.get? b=some o→hh.get? b=some o:= λ{hh} st b o z=>st b o ((hgh b λq=>by rw [hSb b q] at z;cases z).trans (I3.keep b o z));refine wpAny_handleBy_builtin (X:="StopIteration") (T:="StopIteration") (b:=true) (by rw [SG];kernel_rfl) (by rw [SG];kernel_rfl) (by rw [SG];kernel_rfl) ?_;refine Fg (by rw [F1.sc];kernel_rfl) (by unfold JH;rw [F1.sc];kernel_rfl) (Lu (by rw [F1.gl];exact C.g.keeps (keepB fly6.1)) hstop (by rw [F1.bn];exact C.b.keeps (keepB fly6.1)) ((C.bt _ (by decide+kernel)).trans (∅ :bootBuiltins "StopIteration"=some (.type "StopIteration"))) ?_) ∅
 refine (fu rfl fly6.there ?_);rw [if_pos rfl];refine lands_againW fly6 λh7 fly7 up7=>?_;refine KL (wpAny_Return_some (List_ (SJ (Il ?_ (by size_fits)))));have hup7:s1.heap.UpToSlots h7:=((hup.trans up5).trans up6).trans up7;have hff3:FF s1.heap (env::outer):=FF.step hff2 I2 S3 (λzz zz q=>by simp at q);have hkeep:∀b o,b∉LV::(env::outer).filterMap (·.frame)→s1.heap.get? b=some o→(h7.push {cls:=.type "list",data:=.seq ([]:List Value).toArray}).get? b=some o:= λb o hb z=>B8 _ (fly7.1 b o ((hgh b hb).trans z));have I4:=I3.frames' (O:=LV::(env::outer).filterMap (·.frame)) (h':=h7.push {cls:=.type "list",data:=.seq ([]:List Value).toArray}) (tk:=s1.toks) (λb o z hb=>hkeep b o (λq=>hb q) z) (λb hb=>⟨?_,hSb b hb⟩) λb hb hT=>?_
 ·refine hQ _ s1 _ I3 (S02.trans S3) I4 rfl (λb hb hd o z=>hkeep b o (λq=>?_) z) (λb o z hn=>?_) ?_
  ·rcases hS b q with rfl|rfl|q
   ·exact hd hLV0
   ·exact hd hL
   ·exact hb q
  ·refine bP (hup7 b o z hn) λsl z'=>?_
   exact ⟨sl,B8 _ z'⟩
  ·refine aJ.list (vs:= #[]) ⟨0,D5 _ rfl⟩ (by simpa using aw.nil _ _) λq=>?_
   have hn:h7.get? h7.objs.size=none:=bx (Dj _)
   have:=I3.mdom _ q
   cases z:s1.heap.get? h7.objs.size with
   |none=>exact this z
   |some o=>
    by_cases hv:∀vs,o.data≠ .fields vs
    ·refine bP (hup7 _ _ z hv) λsl z'=>?_
     rw [hn] at z';cases z'
    ·by_cases hm:h7.objs.size∈LV::(env::outer).filterMap (·.frame)
     ·rcases Cp.mp hm with q|hm
      ·refine au hLVf λo' z' q'=>?_
       rw [←q,z] at z';cases z'
       rcases q' with ⟨es,m,d⟩| ⟨w,d⟩<;>exact hv λvs q2=>by rw [d] at q2;cases q2
      ·refine fE (FF.mem hff3 hm) λo' es m z' d=>?_
       rw [z] at z';cases z'
       exact hv λvs q2=>by rw [d] at q2;cases q2
     ·have:=fly7.1 _ _ ((hgh _ hm).trans z)
      rw [hn] at this;cases this
 ·rcases Cp.mp hb with rfl|hb
  ·exact hLVf
  ·exact (FF.mem hff3 hb).frameAt
 ·rcases hS b hb with rfl|rfl|hb
  ·refine bP (I.tdom _ hT) λo z=>?_;rw [hLV0] at z;cases z
  ·refine bP (I.tdom _ hT) λo z=>?_;rw [hL] at z;cases z
  ·exact (hout b hb).1 hT
end
noncomputable def ac9(C:gL)(cx:Cx)(env:Env)(O T α:List Addr)(μ:List ah)(s:Shared)(ρ:d5)(μ':List ah)(V:AV):Value→Shared→Prop:= λv s'=>
 ∃α',bl C T α' μ' s'∧aV O α μ s α' μ' s'∧bi C cx env O ρ s'.heap α' (T++ai α' μ')∧bq s'.heap α' (T++ai α' μ') v V
structure wg (C:gL) (n:Nat) (cx:Cx) (e:Expr) (f:EF):Prop where
 of::
 run:∀A env O T ρ α μ s E V μ',cR A n→A.frames=some [env]→env.frame=some env.locals→bl C T α μ s→bi C cx env O ρ s.heap α (T++ai α μ)→f ρ μ=some (V,μ')→
  wpAny (model C.prog C.w) A (eval e env) (ac9 C cx env O T α μ s ρ μ' V) E s
structure Bn (C:gL) (n:Nat) (cx:Cx) (st:Stmt) (f:SF):Prop where
 of::
 run:∀A env O T ρ α μ s E fl ρ' μ',cR A n→A.frames=some [env]→env.frame=some env.locals→bl C T α μ s→bi C cx env O ρ s.heap α (T++ai α μ)→f ρ μ=some (fl,ρ',μ')→
  wpAny (model C.prog C.w) A (exec st env) (iy C cx env O T α μ s fl ρ' μ') E s
structure qe (C:gL) (n:Nat) (cx:Cx) (sts:List Stmt) (f:SF):Prop where
 of::
 run:∀A env O T ρ α μ s E fl ρ' μ',cR A n→A.frames=some [env]→env.frame=some env.locals→bl C T α μ s→bi C cx env O ρ s.heap α (T++ai α μ)→f ρ μ=some (fl,ρ',μ')→
  wpAny (model C.prog C.w) A (execs sts env) (iy C cx env O T α μ s fl ρ' μ') E s
section
theorem dv{f:SF}(h:aQ C n cx st f):Bn C n cx st f:=.of λA env O T ρ α μ s E fl ρ' μ' R zz zz I F q=>h.run A env O T ρ α μ s E fl ρ' μ' R I F q
theorem TC:qe C n cx [] aP:=.of λA env O T ρ α μ s E fl ρ' μ' R zz zz I F q=>aN.run A env O T ρ α μ s E fl ρ' μ' R I F q
theorem cc{rest:List Stmt}{f g:SF}(hf:Bn C n cx st f)(hg:qe C n cx rest g):qe C n cx (st::rest) (ap f g):=by
 refine .of ?_;intro A env O T ρ α μ s E fl ρ' μ' R hA hef I F h;refine aD h λfl1 p e1 h=>KL (D1 (hf.run A env O T ρ α μ s E _ _ _ R hA hef I F e1) (λr s1 pp=>eA pp λα1 I1 S1 F1 r1=>?_) λzz zz x=>x);cases fl1 with
 |next=>subst r1;exact D1 (hg.run A env O T p.1 α1 p.2 s1 E fl ρ' μ' R hA hef I1 F1 h) (λr s2 p=>iy.trans S1 p) λzz zz x=>x
 |brk=>subst r1;exact gj h (d4 α1 I1 S1 F1 rfl)
 |ret V=>exact au r1 λv zq1 rv=>by subst zq1;exact gj h (jj α1 I1 S1 F1 v rfl rv)
theorem re(hO:∀a∈O,bW h a∧C.B.get? a=none):iI O T h:= λa ha=>.inr (.inl (hO a ha).1)
theorem KI{l r:Expr}{o:AV→AV→List ah→Option (AV×List ah)}(hl:wg C n cx l f)(hr:wg C n cx r g)(ho:jd C n op o):wg C n cx (.BinOp l op r pos) (aj f g o):=by
 refine .of ?_;intro A env O T ρ α μ s E V μ' R hA hef I F h;refine aD h λVa μ1 e1 h=>aD h λVb μ2 e2 h=>?_;refine wpAny_BinOp (D1 (hl.run A env O T ρ α μ s E Va μ1 R hA hef I F e1) (λa s1 p1=>?_) λzz zz x=>x);refine eA p1 λα1 I1 S1 F1 r1=>?_;refine D1 (hr.run A env O T ρ α1 μ1 s1 E Vb μ2 R hA hef I1 F1 e2) (λb s2 p2=>?_) λzz zz x=>x;refine eA p2 λα2 I2 S2 F2 r2=>?_;refine D1 (ho A T α2 μ2 s2 E a b Va Vb V μ' R I2 (r1.stepO S2 (re F1.own) λa ha=>.inl ha) r2 h) (λv s3 p=>?_) λzz zz x=>x;refine cq p λα3 I3 S3 r3=>?_;exact (d4 α3 I3 ((S1.trans S2).trans S3.up) (F2.step I2 S3) r3)
theorem UZ(hf:wg C n cx e f)(hx:aA C cx x i)(hs:∀env,env.scope=cx.scope→swapsWith e (some (.Name x px)) pos.line env=pure false):Bn C n cx (.Assign [.Name x px] e pos) (cb i f):=by
 refine .of ?_;intro A env O T ρ α μ s E fl ρ' μ' R hA hef I F h;refine aD h λV μ1 e1 h=>gj h (M9 (D1 (hf.run A env O T ρ α μ s E _ _ R hA hef I F e1) (λv s1 p=>eA p λα1 I1 S1 F1 r1=>?_) λzz zz x=>x) (hs env F.sc));exact D1 (hx A env O T ρ α1 _ s1 E v V I1 F1 r1) (λzz s2 st=>kt S1 st) λzz zz x=>x
end
theorem KX{f:SF}{x:PyData}(h:cC k sc f Vs μ=some (.d x,μ')):μ'.length≤μ.length:=by
 have t:∀ν:List ah,(ν.take μ.length).length≤μ.length:= λν=>by rw [LU];exact Uk ..
 refine i9 h λzz h=>aD h λfl p zz h=>?_;cases fl with
 |next=>cases (h:some (AV.d .none,p.2.take μ.length)=some (.d x,μ'));exact t p.2
 |brk=>exact cv h
 |ret W=>
  cases W with
  |d y=>cases (h:some (AV.d y,p.2.take μ.length)=some (.d x,μ'));exact t p.2
  |_=>exact nomatch (Fi h)
def VS(C:gL)(n:Nat):Prop:=cK C∧dp C "_parse_varint" 8∧dp C "_law_beyond" 69∧aI C n "_law_beyond" (cC 1 (ao (ay 69)) (ap f69 aP))∧4≤n
theorem sb{x:PyData}(h:aR [.c i] μ=some (.d x,μ')):cC 1 (ao (ay 69)) (ap f69 aP) [.c i] μ=some (.d (.list [x]),μ'):=by
 have hl:μ'.take μ.length=μ':=Fj (KX h);have ec:af [a9 0] aR (cE (ao (ay 69)) [.c i]) μ=some (.d x,μ'):=h;have e1:aU [af [a9 0] aR] (cE (ao (ay 69)) [.c i]) μ=some (.d (.list [x]),μ'):=by
  refine (?_:bp (fh [af [a9 0] aR] _ _) _=_);refine rA (zR ec) ?_;exact if_pos (e:=none) (by show 1≤sizeLine;decide)
 have e2:ap f69 aP (cE (ao (ay 69)) [.c i]) μ=some (.ret (.d (.list [x])),cE (ao (ay 69)) [.c i],μ'):=by
  simp only [ap,f69,fe,e1,bpS];rfl
 unfold cC Z_;rw [if_pos (show [AV.c i].length=1 from rfl),e2];exact congrArg (λz=>some (AV.d (.list [x]),z)) hl
theorem bi.slots(F:bi C cx env O ρ s.heap α (T++ai α μ))(I:bl C T α μ s)(S1:aV [] α μ s α μ' s1)
  (S:aV O α μ s α μ' s') (keep:∀b,b≠env.locals→s.heap.get? b≠none→∀o,s1.heap.get? b=some o→s'.heap.get? b=some o) (up:∀b o,s1.heap.get? b=some o→(∀vs,o.data≠ .fields vs)→∃sl,s'.heap.get? b=some {o with slots:=sl}):bi C cx env O ρ s'.heap α (T++ai α μ'):=by
 have hOk:=re F.own (T:=T);have fr:∀a o,s.heap.get? a=some o→bW s.heap a→s1.heap.get? a=some o:= λa o z fa=>S1.ext a o z λq=>I.notFrame (de q) fa;have mv:∀ {v V},bq s.heap α (T++ai α μ) v V→bq s'.heap α (T++ai α μ') v V:= λr=>r.stepO S hOk λzz=>.inl;refine ⟨F.sc,F.gl,F.bn,F.len,au F.loc λm hm hl=>aZ m (jy (id hm) λob es ep z d r=>bP (up _ ob (fr _ _ z (fT hm)) λvs q=>nomatch d.symm.trans q) λsl z'=>p9 _ es ep z' d r) λi y V h1 h2=>au (hl i y V h1 h2) λv e r=>aZ v e (mv r),au F.loc λm hm zz=>bP F.cel λcad hc=>⟨cad,hc.look,λi y k h1 h2=>au (hc.has i y k h1 h2) λo ho hv=>aZ o (au (id ho) λob z d=>aZ ob (keep _ (λq=>lF hm (q▸ho)) (λq=>nomatch q.symm.trans z) ob (fr _ _ z (h_ ho))) d) λV h3=>au (hv V h3) λv e r=>aZ v e (mv r),hc.own,hc.inj⟩,λa ha=>⟨?_,(F.own a ha).2⟩,F.lo,λa ha q=>(S.hm (T:=T) (λzz=>.inl) a ha).elim (λz=>F.off a z q) (F.frA q).dom,F.nd⟩;refine au ((F.own a ha).1) λo z q=>?_;refine bP (up _ o (fr _ _ z (F.own a ha).1) λvs q2=>by rcases q with ⟨es,n,q⟩| ⟨v,q⟩<;>rw [q] at q2<;>cases q2) λsl z'=>?_;exact (aZ _ z' q)
theorem oj(B:VS C n)(he:ab C n cx e f)(hs:∀env,starEach [e] env=(false,eval e env)::starEach [] env)
  (hl:cx.scope.names.lookup ("_law_beyond":Str)=some .globalImplicit) (hk:cx.scope.kind=.function):wg C n cx (.Call (.Name "_law_beyond" xp) [e] [] pos) (af [f] cQ):=by
 refine ig B λG hv hb hn h4=>?_;refine .of ?_;intro A env O T ρ α μ s E V μ' R hA hef I F h;refine aD h λVs μ1 hev h=>ax h λV0 el h=>ax h λi ei h=>?_;cases e1:aR [.c i] μ1 with
 |some p=>
  rw [e1] at h
  refine ax h λx ex h=>cm h ?_;have e2:aR [.c i] μ1=some (.d x,p.2):=by rw [e1,←iO ex]
  refine (ci (xp:=xp) (pos:=pos) hn (dF hs he ae) hs hl hk ∅).go R I F ?_ λv s1 α1 I1 S1 r1=>d4 α1 I1 S1.up (F.step I S1) r1;refine (?_:bp (fh [f] ρ μ) _=_);rw [hev,W0 el,C0 ei];exact sb e2
 |none=>
  rw [e1] at h
  refine ax h λμ2 e2 h=>?_;cases (h:some (AV.d (.list []),μ2)=some (V,μ'));refine dk (xe G hv hb) λfa o fd g1 g2 g3 st=>?_;refine (?_:wpAny _ A (do callWith pos (←eval (.Name "_law_beyond" xp) env) [] (backTo pos (starEach [e] env)) []) _ _ s);refine zm (Fg (by rw [F.sc];exact hk) (by unfold JH;rw [F.sc];exact hl) (Ll (by rw [F.gl];exact C.g.keeps I.keep) g1 ?_) ∅);refine MU (o:=o) (fd:=fd) (eh (fs:=[f]) (hs env) (dF hs he ae) R I F hev λvs s1 α1 I1 S1 r1=>⟨⟨I1.keep _ _ g2,g3⟩,?_⟩);refine gJ r1 el λv z rv=>au (IY ei rv) λa ha z2=>?_;subst z;subst z2;have F1:=F.step I S1;have hfm:∀L,L∈[env].filterMap (·.frame)→L=env.locals:= λL hL=>by simpa [hef] using hL
  refine st A T α1 μ1 μ' s1 i a [env] _ _ (R.mono h4) I1 ha e2 hA (λenv' he'=>?_) (λL hL=>?_) λr s2 s' I2 S2 I' hgn keep up rel=>?_
  ·obtain rfl:env'=env:=by simpa using he'
   refine au F1.loc λm zp1 zz=>?_;refine jy zp1 λob es ep z d zz=>?_;exact ⟨by rw [F.sc,hk];decide,env'.locals,hef,ob,es,ep,z,d⟩
  ·rw [hfm L hL]
   exact ⟨λq=>F1.off _ (yx _ q) (.inr F1.lo),(F1.own _ F1.lo).2⟩
  ·have keep':∀b,b≠env.locals→s1.heap.get? b≠none→∀o,s2.heap.get? b=some o→s'.heap.get? b=some o:= λb hb=>keep b (λq=>hb (hfm b q))
   have S':aV O α1 μ1 s1 α1 μ' s':=⟨S2.pre,λb o z hb=>keep' b (λq=>hb (yx _ (q▸F1.lo))) (by rw [z];simp) o (S2.ext b o z λq=>hb (CO _ (by simpa using q))),S2.mts,λb o z=>by
    by_cases q:b=env.locals
    ·refine bH (F6 q) ?_
     refine au ((F1.step I1 S2).loc) λm zp1 zz=>?_;refine jy zp1 λob es ep z' d zz=>?_;refine bP (up _ ob z' λvs q=>by rw [d] at q;cases q) λsl z2=>?_;exact ⟨_,z2⟩
    ·refine bP (S2.dom b o z) λo' z'=>?_
     exact ⟨o',keep' b q (by rw [z];simp) o' z'⟩,λi x z=>by rw [←hgn];exact S2.gens i x z⟩
   exact (d4 α1 I' (S1.up.trans S') (F1.slots I1 S2 S' keep' up) rel)
end Mine
namespace Mine
open PySem PySem.W PySem.Calls PyProof.Rows
variable {V V' : AV} {Cn D L TI TO a fa i1 i2 i3 z : Addr} {A : Around} {items zs : Array Value} {sh tup : Bool} {cf : CF} {c c' : ah} {C : gL} {cx : Cx} {f fi fo g : EF} {cenv env : Env} {mean : ExcName → Option Value} {e e1 e2 elt iter target test : Expr} {fl : Fl} {h h' : Heap} {itf : IF} {y : Int} {Vs : List AV} {M M' O T T' W wr α α' α1 α₀ : List Addr} {Mid : List Addr → List Addr → List Addr → List ah → Nat → Value → Shared → Prop} {St : List Addr → xN} {μ μ' μ'' μ1 μ2 μ3 μ₀ : List ah} {fs : List EF} {es : List Expr} {K cs ns os rest : List Int} {gi ls m ps : List Nat} {X acc acc' ds xs ys : List PyData} {body orelse : List Stmt} {vs : List Value} {ρ ρ' ρ1 ρ2 : d5} {tf : d5 → PyData → Option d5} {b i j ja jt k kk low mask n p q tk : Nat} {o : Obj} {op : Operator} {ha ke td te tx : Option AV} {hi lo : Option Expr} {gg : Option Nat} {apos pos px py sp tp xp : Pos} {prog : Program} {G : Prop} {d : PyData} {sc scope : Scope} {s s' s'' s1 s₀ : Shared} {spec : a_} {st : Stmt} {name x : Str} {t : TF} {u : Tok} {cd cls doc fv it pm v : Value} {E Q : Value → Shared → Prop} {w : World}
section
set_option genInjectivity false in
structure mE (C:gL) (n:Nat):Prop where
 h_law_numbers:aI C n "_law_numbers" gz
 h_law_octets:aI C n "_law_octets" fZ
 h_law_formula:aI C n "_law_formula" aC
 h_law_beyond:VS C n
 hISTERMINAL:aI C n "ISTERMINAL" co
 hISNONTERMINAL:aI C n "ISNONTERMINAL" bQ
 hISEOF:aI C n "ISEOF" fx
 h_law_units:aI C n "_law_units" bC
 hL:BE C n "_iter_escaped_chars" aE
 h_strip_quoted_realnames:aI C n "_strip_quoted_realnames" aM
 h_iter_escaped_chars:gT C n "_iter_escaped_chars" aE
 h_check_parenthesis:aI C n "_check_parenthesis" ar
 h_pre_parse_validation:aI C n "_pre_parse_validation" aX
 h_law_proved:aI C n "_law_proved" aO
 h_law_graph:aI C n "_law_graph" aW
 h_law_joined:aI C n "_law_joined" df
 hpretty_flags:aI C n "pretty_flags" cO
abbrev bA:Cx:=dh (ao (ay 73))
theorem Du:aA C bA "cells" 1:=bu 1 ∅
abbrev uQ:Scope:=jO [(".0",.local),("k",.local),("cell",.local),("sum",.globalImplicit),("script",.free)]
abbrev n7:Cx:=bR bA uQ
theorem NB:aA C n7 "k" 31:=bu 31 ∅
theorem y6:aA C n7 "cell" 32:=bu 32 ∅
theorem zY:ab C n n7 (.Name "cell" pos) (a9 32):=ba 32 ∅
theorem tA:ab C n n7 (.Name "script" pos) (a9 0):=bE 0 3 ∅ (by decide) ∅ ∅ ∅
theorem OR:ab C n n7 (.Name "k" pos) (a9 31):=ba 31 ∅
abbrev ug:Scope:=jO [(".0",.local),("x",.local)]
abbrev FQ:Cx:=bR n7 ug
theorem MG:aA C FQ "x" 33:=bu 33 ∅
theorem Os:ab C n FQ (.Name "x" pos) (a9 33):=ba 33 ∅
def vS:SF:=(ga 1 uQ (c9 [(aU [(kI 125),(kI 9),(kI 187),(kI 70),(kI 428),(kI 191)])] g9) (jh 31 32) (c_ bg (aY (aj (a9 32) (af [(ce ug (aK false (v_ (a9 0) (aL (a9 31)) (aL (kI 60)) (aL (kI 6)))) (dz 33) (c_ bg (aY (aj (a9 33) (kI 5040) (aS cu)))))] vQ) aT))) false)
theorem HZ(G:cK C)(h2:2≤n):aQ C n bA (dA (aq (ay 73)) 0) vS:=(gx false (bw ∅ h2 (λzz zz=>rfl) (bN _ _ _ _ _ _) (kz (fv:=.type "enumerate") (G.no _ ∅) ∅ ∅ (bD _) iS (ag rfl (bb (ag rfl am (ag rfl am (ag rfl am (ag rfl am (ag rfl am (ag rfl am ae))))))) ae) (λzz=>rfl) (λzz=>rfl) ∅ ∅ ∅) (eY NB y6) cH (bZ (av zY (ct (fv:=.builtin "sum") (G.no _ ∅) ∅ ∅ (bf _) yB (ag rfl (cF (bw ∅ h2 (λzz zz=>rfl) (bN _ _ _ _ _ _) (b_ (N4 tA (cy OR) (cy am) (cy am) (λzz zz=>rfl))) (bM MG) cH (bZ (av Os am dt)))) ae) (λzz=>rfl) (λzz=>rfl) ∅ ∅ ∅) br))) Du (fg ∅ ∅ ∅ ∅))
theorem Ea:aA C bA "total" 2:=bu 2 ∅
theorem i6:ab C n bA (.Name "cells" pos) (a9 1):=ba 1 ∅
def w4:SF:=(cb 2 (af [(a9 1)] vQ))
theorem GK(G:cK C)(h2:2≤n):aQ C n bA (dA (aq (ay 73)) 1) w4:=(bF (ct (fv:=.builtin "sum") (G.no _ ∅) ∅ ∅ (bf _) yB (ag rfl i6 ae) (λzz=>rfl) (λzz=>rfl) ∅ ∅ ∅) Ea (λzz zz=> ∅))
theorem EW:aA C bA "mates" 3:=bu 3 ∅
theorem gt:ab C n bA (.Name "total" pos) (a9 2):=ba 2 ∅
def vU:SF:=(cb 3 (aF (aU [(aU [(kI 5),(kI 4),(kI 3),(kI 2),(kI 1),(kI 0)]),(aU [(kI 5),(kI 2),(kI 1),(kI 4),(kI 3),(kI 0)]),(aU [(kI 3),(kI 2),(kI 1),(kI 0),(kI 5),(kI 4)]),(aU [(kI 1),(kI 0),(kI 5),(kI 4),(kI 3),(kI 2)]),(aU [(kI 1),(kI 0),(kI 3),(kI 2),(kI 5),(kI 4)])]) (aj (aj (a9 2) (kI 5) (aS cP)) (kI 5) (aS cu))))
theorem Kx(G:cK C)(h2:2≤n):aQ C n bA (dA (aq (ay 73)) 2) vU:=(bF (bj (bb (ag rfl (bb (ag rfl am (ag rfl am (ag rfl am (ag rfl am (ag rfl am (ag rfl am ae))))))) (ag rfl (bb (ag rfl am (ag rfl am (ag rfl am (ag rfl am (ag rfl am (ag rfl am ae))))))) (ag rfl (bb (ag rfl am (ag rfl am (ag rfl am (ag rfl am (ag rfl am (ag rfl am ae))))))) (ag rfl (bb (ag rfl am (ag rfl am (ag rfl am (ag rfl am (ag rfl am (ag rfl am ae))))))) (ag rfl (bb (ag rfl am (ag rfl am (ag rfl am (ag rfl am (ag rfl am (ag rfl am ae))))))) ae)))))) (av (av gt am eN) am dt) (λzz zz=>rfl)) EW (λzz zz=> ∅))
theorem ve:aA C bA "numbers" 4:=bu 4 ∅
theorem j9:ab C n bA (.Name "mates" pos) (a9 3):=ba 3 ∅
def xJ:SF:=(cb 4 (af [(a9 1),(a9 2),(a9 3)] gz))
theorem FV(G:cK C)(h2:2≤n)(H:mE C n):aQ C n bA (dA (aq (ay 73)) 3) xJ:=(bF (ci H.h_law_numbers (ag rfl i6 (ag rfl gt (ag rfl j9 ae))) (λzz=>rfl) ∅ ∅ ∅) ve (λzz zz=> ∅))
theorem MN:aA C bA "low" 5:=bu 5 ∅
theorem Px:aA C bA "far" 6:=bu 6 ∅
def xy:SF:=(wV 5 6 (cW [(aj (a9 2) (kI 13) (aS cu)),(aj (aj (aj (aj (a9 2) (kI 13) (aS cP)) (kI 5) (aS cu)) (kI 3) (aS λx y=>some (x-y))) (aj (kI 2) (kI 32) (aS gk)) la)]))
theorem Hh(G:cK C)(h2:2≤n)(H:mE C n):aQ C n bA (dA (aq (ay 73)) 4) xy:=(AJ (cY (ag rfl (av gt am dt) (ag rfl (av (av (av (av gt am eN) am dt) am i_) (av am am iZ) qq) ae))) MN Px (λzz=>rfl) (vr ∅ ∅ ∅ ∅ ∅ ∅ ∅ ∅))
theorem CW:aA C bA "great" 7:=bu 7 ∅
theorem iW:ab C n bA (.Name "numbers" pos) (a9 4):=ba 4 ∅
abbrev tq:Scope:=jO [(".0",.local),("number",.local)]
abbrev IZ:Cx:=bR bA tq
theorem uR:aA C IZ "number" 31:=bu 31 ∅
theorem m9:ab C n IZ (.Name "number" pos) (a9 31):=ba 31 ∅
theorem pv:ab C n bA (.Name "low" pos) (a9 5):=ba 5 ∅
def xA:SF:=(cb 7 (aj (aj (aj (aj (kI 2) (af [(ce tq (aK false (a9 4)) (dz 31) (c_ (bB (a9 31) (kI 274) dK) (aY (a9 31))))] dC) (aS gk)) (kI 1) (aS λx y=>some (x-y))) (aj (kI 2) (a9 5) (aS gk)) la) (aj (kI 2) (kI 31) (aS gk)) aT))
theorem Gw(G:cK C)(h2:2≤n)(H:mE C n):aQ C n bA (dA (aq (ay 73)) 5) xA:=(bF (av (av (av (av am (ct (fv:=.builtin "len") (G.no _ ∅) ∅ ∅ (bf _) eW (ag rfl (cF (bw ∅ h2 (λzz zz=>rfl) (bN _ _ _ _ _ _) (b_ iW) (bM uR) (j5 (cn m9 am dR ∅)) (bZ m9))) ae) (λzz=>rfl) (λzz=>rfl) ∅ ∅ ∅) iZ) am i_) (av am pv iZ) qq) (av am am iZ) br) CW (λzz zz=> ∅))
theorem Jo:aA C bA "tape" 8:=eX 8 ∅ ∅ ∅
theorem sI:ab C n bA (.Name "great" pos) (a9 7):=ba 7 ∅
def xI:SF:=(cb 8 (af [(af [(aj (a9 4) (aU [(a9 7)]) aT),(a9 1),(a9 2)] fZ)] RP))
theorem Jk(G:cK C)(h2:2≤n)(H:mE C n):aQ C n bA (dA (aq (ay 73)) 6) xI:=(bF (ct (fv:=.builtin "iter") (G.no _ ∅) ∅ ∅ (bf _) OA (ag rfl (ci H.h_law_octets (ag rfl (av iW (bb (ag rfl sI ae)) br) (ag rfl i6 (ag rfl gt ae))) (λzz=>rfl) ∅ ∅ ∅) ae) (λzz=>rfl) (λzz=>rfl) ∅ ∅ ∅) Jo (λzz zz=> ∅))
theorem FI:aA C bA "told" 9:=eX 9 ∅ ∅ ∅
def xv:SF:=(cb 9 (n4 []))
theorem Gn(G:cK C)(h2:2≤n)(H:mE C n):aQ C n bA (dA (aq (ay 73)) 7) xv:=(bF (ju ae) FI (λzz zz=> ∅))
theorem Fy:aA C bA "read" 10:=bu 10 ∅
abbrev yh:Scope:=jO [(".0",.local),("turn",.local),("_law_formula",.globalImplicit),("tape",.free),("told",.free)]
abbrev z_:Cx:=bR bA yh
theorem Aq:aA C z_ "turn" 31:=bu 31 ∅
theorem Aw:ab C n z_ (.Name "tape" pos) (a9 8):=bE 8 3 ∅ (by decide) ∅ ∅ ∅
theorem Ab:ab C n z_ (.Name "told" pos) (a9 9):=bE 9 3 ∅ (by decide) ∅ ∅ ∅
def Bz:SF:=(ga 10 yh (aK false (af [(aF (aU [(kI 2),(kI 2),(kI 3),(kI 4)]) (aj (aj (a9 2) (kI 25) (aS cP)) (kI 4) (aS cu)))] cJ)) (dz 31) (c_ bg (aY (af [(a9 8),(a9 9)] aC))) false)
theorem JJ(G:cK C)(h2:2≤n)(H:mE C n):aQ C n bA (dA (aq (ay 73)) 8) Bz:=(gx false (bw ∅ h2 (λzz zz=>rfl) (bN _ _ _ _ _ _) (b_ (ct (fv:=.type "range") (G.no _ ∅) ∅ ∅ (bD _) dM (ag rfl (bj (bb (ag rfl am (ag rfl am (ag rfl am (ag rfl am ae))))) (av (av gt am eN) am dt) (λzz zz=>rfl)) ae) (λzz=>rfl) (λzz=>rfl) ∅ ∅ ∅)) (bM Aq) cH (bZ (ci H.h_law_formula (ag rfl Aw (ag rfl Ab ae)) (λzz=>rfl) ∅ ∅ ∅))) Fy (fg ∅ ∅ ∅ ∅))
theorem Aj:aA C bA "beyond" 11:=bu 11 ∅
theorem r0:ab C n bA (.Name "tape" pos) (a9 8):=bE 8 2 ∅ (by decide) ∅ ∅ ∅
def xh:SF:=(cb 11 (aj (aj (af [(a9 8)] cQ) (af [(a9 8)] cQ) aT) (af [(a9 8)] cQ) aT))
theorem IC(G:cK C)(h2:2≤n)(H:mE C n):Bn C n bA (dA (aq (ay 73)) 9) xh:=(UZ (KI (KI (oj H.h_law_beyond r0 (λzz=> ∅) ∅ ∅) (oj H.h_law_beyond r0 (λzz=> ∅) ∅ ∅) br) (oj H.h_law_beyond r0 (λzz=> ∅) ∅ ∅) br) Aj (λzz zz=> ∅))
theorem DT:aA C bA "asked" 12:=bu 12 ∅
theorem xj:ab C n bA (.Name "told" pos) (a9 9):=bE 9 2 ∅ (by decide) ∅ ∅ ∅
theorem lG:ab C n bA (.Name "beyond" pos) (a9 11):=ba 11 ∅
def pZ:SF:=(cb 12 (n4 [(cW [(a9 9),(a9 4)]),(cW [(a9 11),(aU [(a9 7)])])]))
theorem C_(G:cK C)(h2:2≤n)(H:mE C n):aQ C n bA (dA (aq (ay 73)) 10) pZ:=(bF (ju (ag rfl (cY (ag rfl xj (ag rfl iW ae))) (ag rfl (cY (ag rfl lG (ag rfl (bb (ag rfl sI ae)) ae))) ae))) DT (λzz zz=> ∅))
theorem zJ:aA C bA "symbol" 13:=bu 13 ∅
theorem Es:aA C bA "tests" 14:=bu 14 ∅
theorem eJ:ab C n bA (.Name "symbol" pos) (a9 13):=ba 13 ∅
theorem eR:ab C n bA (.Name "asked" pos) (a9 12):=ba 12 ∅
theorem sK:ab C n bA (.Name "tests" pos) (a9 14):=ba 14 ∅
abbrev nV:Scope:=jO [(".0",.local),("one",.local),("isinstance",.globalImplicit),("bool",.globalImplicit)]
abbrev Gl:Cx:=bR bA nV
theorem D_:aA C Gl "one" 31:=bu 31 ∅
theorem E4:ab C n Gl (.Name "one" pos) (a9 31):=ba 31 ∅
def qo:SF:=(jN (aK false (aj (aj (a9 9) (a9 11) aT) (aU [(kI 255),(kI 256),(jB (kI 256)),(aj (a9 2) (kI 2000) (aS λx y=>some (x-y)))]) aT)) (dz 13) (ap (cb 14 (aU [(af [(a9 13)] co),(af [(a9 13)] bQ),(af [(a9 13)] fx)])) (ap (cj (eg (a9 12) (cW [(aj (aj (aU [(af [(a9 13),(kT "int")] gA)]) (ce nV (aK false (aj (aU [(a9 13)]) (a9 14) aT)) (dz 31) (c_ bg (aY (af [(a9 31),(kT "bool")] gA)))) aT) (a9 14) aT),(aU [(kB true),(kB false),(kB true),(kB true),(kB true),(dZ (aj (a9 13) (kI 256) (aS cP)) (kI 1) (ef λx y=>decide (x<y))),(dZ (aj (a9 13) (kI 256) (aS cP)) (kI 0) (ef λx y=>decide (y<x))),(zM (a9 13))])]))) aP)) aP)
theorem Dl(G:cK C)(h2:2≤n)(H:mE C n):aQ C n bA (dA (aq (ay 73)) 11) qo:=(gu h2 (b_ (av (av xj lG br) (bb (ag rfl am (ag rfl am (ag rfl (ny am) (ag rfl (av gt am i_) ae))))) br)) (bM zJ) (ak (bF (bb (ag rfl (ci H.hISTERMINAL (ag rfl eJ ae) (λzz=>rfl) ∅ ∅ ∅) (ag rfl (ci H.hISNONTERMINAL (ag rfl eJ ae) (λzz=>rfl) ∅ ∅ ∅) (ag rfl (ci H.hISEOF (ag rfl eJ ae) (λzz=>rfl) ∅ ∅ ∅) ae)))) Es (λzz zz=> ∅)) (ak (cM (cz (λzz=>rfl) eR (cY (ag rfl (av (av (bb (ag rfl (ct (fv:=.builtin "isinstance") (G.no _ ∅) ∅ ∅ (bf _) sP (ag rfl eJ (ag rfl (Zo (G.no _ ∅) ∅ ∅ ∅ ∅ ∅) ae)) (λzz=>rfl) (λzz=>rfl) ∅ ∅ ∅) ae)) (cF (bw ∅ h2 (λzz zz=>rfl) (bN _ _ _ _ _ _) (b_ (av (bb (ag rfl eJ ae)) sK br)) (bM D_) cH (bZ (ct (fv:=.builtin "isinstance") (G.no _ ∅) ∅ ∅ (bf _) sP (ag rfl E4 (ag rfl (Zo (G.no _ ∅) ∅ ∅ ∅ ∅ ∅) ae)) (λzz=>rfl) (λzz=>rfl) ∅ ∅ ∅)))) br) sK br) (ag rfl (bb (ag rfl dj (ag rfl dj (ag rfl dj (ag rfl dj (ag rfl dj (ag rfl (fB (av eJ am eN) am rz ∅) (ag rfl (fB (av eJ am eN) am Ih ∅) (ag rfl (Un eJ) ae))))))))) ae))) (λzz=>rfl)) ∅ (λzz=>rfl)) aN)) aN (λzz zz=>rfl))
theorem E5:aA C bA "units" 15:=eX 15 ∅ ∅ ∅
def mZ:SF:=(cb 15 (aj (af [(af [(kI 6)] cJ),(a9 3),(a9 1),(kB false)] bC) (aU [(kS "\\")]) aT))
theorem Dn(G:cK C)(h2:2≤n)(H:mE C n):aQ C n bA (dA (aq (ay 73)) 12) mZ:=(bF (av (ci H.h_law_units (ag rfl (ct (fv:=.type "range") (G.no _ ∅) ∅ ∅ (bD _) dM (ag rfl am ae) (λzz=>rfl) (λzz=>rfl) ∅ ∅ ∅) (ag rfl j9 (ag rfl i6 (ag rfl dj ae)))) (λzz=>rfl) ∅ ∅ ∅) (bb (ag rfl bT ae)) br) E5 (λzz zz=> ∅))
theorem Hv:aA C bA "text" 16:=bu 16 ∅
theorem su:ab C n bA (.Name "units" pos) (a9 15):=bE 15 2 ∅ (by decide) ∅ ∅ ∅
def np:SF:=(cb 16 (dx (kS "") [(cg (a9 15) b9 (aL (jB (kI 1))))] fc))
theorem DM(G:cK C)(h2:2≤n)(H:mE C n):aQ C n bA (dA (aq (ay 73)) 13) np:=(bF (fQ (λzz=>rfl) JZ Km g_ bT (ag rfl (dQ su dD (cy (ny am))) ae) (λzz=>rfl) (λzz=>rfl)) Hv (λzz zz=> ∅))
theorem CJ:aA C bA "shorn" 17:=bu 17 ∅
def nE:SF:=(cb 17 (dx (kS "") [(af [(af [(kI 6)] cJ),(a9 3),(a9 1),(kB true)] bC)] fc))
theorem DQ(G:cK C)(h2:2≤n)(H:mE C n):aQ C n bA (dA (aq (ay 73)) 14) nE:=(bF (fQ (λzz=>rfl) JZ Km g_ bT (ag rfl (ci H.h_law_units (ag rfl (ct (fv:=.type "range") (G.no _ ∅) ∅ ∅ (bD _) dM (ag rfl am ae) (λzz=>rfl) (λzz=>rfl) ∅ ∅ ∅) (ag rfl j9 (ag rfl i6 (ag rfl dj ae)))) (λzz=>rfl) ∅ ∅ ∅) ae) (λzz=>rfl) (λzz=>rfl)) CJ (λzz zz=> ∅))
theorem j_:ab C n bA (.Name "text" pos) (a9 16):=ba 16 ∅
abbrev uv:Scope:=jO [(".0",.local),("k",.local),("unit",.local),("len",.globalImplicit),("units",.free)]
abbrev ri:Cx:=bR bA uv
theorem OE:aA C ri "k" 31:=bu 31 ∅
theorem zr:aA C ri "unit" 32:=bu 32 ∅
theorem vZ:ab C n ri (.Name "units" pos) (a9 15):=bE 15 3 ∅ (by decide) ∅ ∅ ∅
theorem Pv:ab C n ri (.Name "k" pos) (a9 31):=ba 31 ∅
theorem zU:ab C n ri (.Name "unit" pos) (a9 32):=ba 32 ∅
def oa:SF:=(cj (eg (a9 12) (cW [(Ag [(aj (a9 16) (kS "\\") aT)] aE),(ce uv (c9 [(a9 15)] g9) (jh 31 32) (c_ bg (aY (cW [(aj (af [(dx (kS "") [(cg (a9 15) b9 (aL (aj (a9 31) (kI 1) aT)))] fc)] dC) (kI 1) (aS λx y=>some (x-y))),(a9 32)]))))])))
theorem EG(G:cK C)(h2:2≤n)(H:mE C n):aQ C n bA (dA (aq (ay 73)) 15) oa:=(cM (cz (λzz=>rfl) eR (cY (ag rfl (DS (G.no _ ∅) H.hL (ag rfl (av j_ bT br) ae) (λzz=> ∅) ∅ ∅ ∅ ∅) (ag rfl (cF (bw ∅ h2 (λzz zz=>rfl) (bN _ _ _ _ _ _) (kz (fv:=.type "enumerate") (G.no _ ∅) ∅ ∅ (bD _) iS (ag rfl su ae) (λzz=>rfl) (λzz=>rfl) ∅ ∅ ∅) (eY OE zr) cH (bZ (cY (ag rfl (av (ct (fv:=.builtin "len") (G.no _ ∅) ∅ ∅ (bf _) eW (ag rfl (fQ (λzz=>rfl) JZ Km g_ bT (ag rfl (dQ vZ dD (cy (av Pv am br))) ae) (λzz=>rfl) (λzz=>rfl)) ae) (λzz=>rfl) (λzz=>rfl) ∅ ∅ ∅) am i_) (ag rfl zU ae)))))) ae))) (λzz=>rfl)) ∅ (λzz=>rfl))
theorem nj:ab C n bA (.Name "shorn" pos) (a9 17):=ba 17 ∅
def ox:SF:=(cj (eg (a9 12) (cW [(aU [(af [(a9 16)] aM),(af [(aj (a9 16) (kS "\"(") aT)] aM)]),(aU [(a9 17),(aj (a9 17) (kS "\"(") aT)])])))
theorem EI(G:cK C)(h2:2≤n)(H:mE C n):aQ C n bA (dA (aq (ay 73)) 16) ox:=(cM (cz (λzz=>rfl) eR (cY (ag rfl (bb (ag rfl (ci H.h_strip_quoted_realnames (ag rfl j_ ae) (λzz=>rfl) ∅ ∅ ∅) (ag rfl (ci H.h_strip_quoted_realnames (ag rfl (av j_ bT br) ae) (λzz=>rfl) ∅ ∅ ∅) ae))) (ag rfl (bb (ag rfl nj (ag rfl (av nj bT br) ae))) ae))) (λzz=>rfl)) ∅ (λzz=>rfl))
abbrev AB:Scope:=jO [(".0",.local),("place",.local),("unit",.local),("EXACT_TOKEN_TYPES",.globalImplicit)]
abbrev y7:Cx:=bR bA AB
theorem wO:aA C y7 "place" 31:=bu 31 ∅
theorem yZ:aA C y7 "unit" 32:=bu 32 ∅
theorem ry:ab C n y7 (.Name "unit" pos) (a9 32):=ba 32 ∅
abbrev yr:Scope:=jO [(".0",.local),("number",.local)]
abbrev J1:Cx:=bR bA yr
theorem ut:aA C J1 "number" 31:=bu 31 ∅
theorem mU:ab C n J1 (.Name "number" pos) (a9 31):=ba 31 ∅
def mX:SF:=(cj (eg (a9 12) (cW [(ce AB (c9 [(a9 17)] aE) (jh 31 32) (c_ (bB (a9 32) (aU [(kS "("),(kS ")")]) WG) (aY (jF k9 (a9 32))))),(ce yr (aK false (a9 4)) (dz 31) (c_ (CG (kI 0) (a9 31) (kI 256) (ef λx y=>decide (x<y)) (ef λx y=>decide (x<y))) (aY (a9 31))))])))
theorem EV(G:cK C)(h2:2≤n)(H:mE C n):aQ C n bA (dA (aq (ay 73)) 17) mX:=(cM (cz (λzz=>rfl) eR (cY (ag rfl (cF (bw ∅ h2 (λzz zz=>rfl) (bN _ _ _ _ _ _) (z6 H.h_iter_escaped_chars (ag rfl nj ae) (λzz=>rfl) ∅ ∅ ∅) (eY wO yZ) (j5 (cn ry (bb (ag rfl bT (ag rfl bT ae))) Yj ∅)) (bZ (JK G ry (λzz zz=>rfl) ∅ ∅)))) (ag rfl (cF (bw ∅ h2 (λzz zz=>rfl) (bN _ _ _ _ _ _) (b_ iW) (bM ut) (j5 (Ol am mU am rz rz ∅)) (bZ mU))) ae))) (λzz=>rfl)) ∅ (λzz=>rfl))
def n5:SF:=(cj (eg (a9 12) (cW [(aU [(dZ (af [(aj (a9 16) (kS "\"()\\") aT)] ar) (kB true) LF),(dZ (af [(aj (a9 16) (kS "\"(") aT)] ar) (kB false) LF),(af [(aU [])] aX)]),(aU [(kB true),(kB true),(aU [])])])))
theorem Dz(G:cK C)(h2:2≤n)(H:mE C n):aQ C n bA (dA (aq (ay 73)) 18) n5:=(cM (cz (λzz=>rfl) eR (cY (ag rfl (bb (ag rfl (fB (ci H.h_check_parenthesis (ag rfl (av j_ bT br) ae) (λzz=>rfl) ∅ ∅ ∅) dj xG ∅) (ag rfl (fB (ci H.h_check_parenthesis (ag rfl (av j_ bT br) ae) (λzz=>rfl) ∅ ∅ ∅) dj xG ∅) (ag rfl (ci H.h_pre_parse_validation (ag rfl (bb ae) ae) (λzz=>rfl) ∅ ∅ ∅) ae)))) (ag rfl (bb (ag rfl dj (ag rfl dj (ag rfl (bb ae) ae)))) ae))) (λzz=>rfl)) ∅ (λzz=>rfl))
theorem DW:aA C bA "proof" 18:=bu 18 ∅
theorem wl:ab C n bA (.Name "read" pos) (a9 10):=ba 10 ∅
def nq:SF:=(cb 18 (af [(cg (a9 10) b9 (aL (jB (kI 1)))),(a9 3),(a9 1),(a9 12)] aO))
theorem EL(G:cK C)(h2:2≤n)(H:mE C n):aQ C n bA (dA (aq (ay 73)) 19) nq:=(bF (ci H.h_law_proved (ag rfl (dQ wl dD (cy (ny am))) (ag rfl j9 (ag rfl i6 (ag rfl eR ae)))) (λzz=>rfl) ∅ ∅ ∅) DW (λzz zz=> ∅))
theorem Do:aA C bA "joins" 19:=bu 19 ∅
def m_:SF:=(cb 19 (n4 []))
theorem E6(G:cK C)(h2:2≤n)(H:mE C n):aQ C n bA (dA (aq (ay 73)) 20) m_:=(bF (ju ae) Do (λzz zz=> ∅))
theorem vD:aA C bA "formula" 20:=bu 20 ∅
theorem vE:ab C n bA (.Name "formula" pos) (a9 20):=ba 20 ∅
theorem kW:ab C n bA (.Name "joins" pos) (a9 19):=ba 19 ∅
def nA:SF:=(jN (aK false (cg (a9 10) b9 (aL (jB (kI 1))))) (dz 20) (ap (cj (af [(a9 20),(a9 19)] aW)) aP) aP)
theorem DO(G:cK C)(h2:2≤n)(H:mE C n):aQ C n bA (dA (aq (ay 73)) 21) nA:=(gu h2 (b_ (dQ wl dD (cy (ny am)))) (bM vD) (ak (cM (ci H.h_law_graph (ag rfl vE (ag rfl kW ae)) (λzz=>rfl) ∅ ∅ ∅) ∅ (λzz=>rfl)) aN) aN (λzz zz=>rfl))
theorem CM:aA C bA "forks" 21:=bu 21 ∅
abbrev yw:Scope:=jO [(".0",.local),("join",.local)]
abbrev HD:Cx:=bR bA yw
theorem yD:aA C HD "join" 31:=bu 31 ∅
theorem pX:ab C n HD (.Name "join" pos) (a9 31):=ba 31 ∅
def nF:SF:=(ga 21 yw (aK false (a9 19)) (dz 31) (c_ (bB (aF (a9 31) (kI 0)) (kI 18) dK) (aY (a9 31))) false)
theorem E1(G:cK C)(h2:2≤n)(H:mE C n):aQ C n bA (dA (aq (ay 73)) 22) nF:=(gx false (bw ∅ h2 (λzz zz=>rfl) (bN _ _ _ _ _ _) (b_ kW) (bM yD) (j5 (cn (bj pX am (λzz zz=>rfl)) am dR ∅)) (bZ pX)) CM (fg ∅ ∅ ∅ ∅))
theorem CU:aA C bA "start" 22:=bu 22 ∅
abbrev Am:Scope:=jO [(".0",.local),("place",.local),("mate",.local),("min",.globalImplicit)]
abbrev tl:Cx:=bR bA Am
theorem wE:aA C tl "place" 31:=bu 31 ∅
theorem yP:aA C tl "mate" 32:=bu 32 ∅
theorem w7:ab C n tl (.Name "place" pos) (a9 31):=ba 31 ∅
theorem zp:ab C n tl (.Name "mate" pos) (a9 32):=ba 32 ∅
def nI:SF:=(cb 22 (aj (ce Am (c9 [(a9 3)] g9) (jh 31 32) (c_ bg (aY (af [(a9 31),(a9 32)] G1)))) (af [(af [(kI 6),(aj (kI 6) (af [(a9 19)] dC) aT)] cJ)] lY) aT))
theorem EJ(G:cK C)(h2:2≤n)(H:mE C n):aQ C n bA (dA (aq (ay 73)) 23) nI:=(bF (av (cF (bw ∅ h2 (λzz zz=>rfl) (bN _ _ _ _ _ _) (kz (fv:=.type "enumerate") (G.no _ ∅) ∅ ∅ (bD _) iS (ag rfl j9 ae) (λzz=>rfl) (λzz=>rfl) ∅ ∅ ∅) (eY wE yP) cH (bZ (ct (fv:=.builtin "min") (G.no _ ∅) ∅ ∅ (bf _) IV (ag rfl w7 (ag rfl zp ae)) (λzz=>rfl) (λzz=>rfl) ∅ ∅ ∅)))) (ct (fv:=.type "list") (G.no _ ∅) ∅ ∅ (bD _) tC (ag rfl (ct (fv:=.type "range") (G.no _ ∅) ∅ ∅ (bD _) dM (ag rfl am (ag rfl (av am (ct (fv:=.builtin "len") (G.no _ ∅) ∅ ∅ (bf _) eW (ag rfl kW ae) (λzz=>rfl) (λzz=>rfl) ∅ ∅ ∅) br) ae)) (λzz=>rfl) (λzz=>rfl) ∅ ∅ ∅) ae) (λzz=>rfl) (λzz=>rfl) ∅ ∅ ∅) br) CU (λzz zz=> ∅))
theorem ye:aA C bA "labels" 23:=bu 23 ∅
theorem CZ:ab C n bA (.Name "start" pos) (a9 22):=ba 22 ∅
abbrev tB:Scope:=jO [(".0",.local),("join",.local),("part",.local)]
abbrev pn:Cx:=bR bA tB
theorem wn:aA C pn "join" 31:=bu 31 ∅
theorem kj:ab C n pn (.Name "join" pos) (a9 31):=ba 31 ∅
theorem wt:aA C pn "part" 32:=bu 32 ∅
theorem xo:ab C n pn (.Name "part" pos) (a9 32):=ba 32 ∅
def nk:SF:=(cb 23 (af [(a9 22),(ce tB (aK false (a9 19)) (dz 31) (c_ (bB (aF (a9 31) (kI 0)) (kI 16) dK) (gv (aK false (cg (a9 31) (aL (kI 2)) b9)) (dz 32) (c_ bg (aY (cW [(aF (a9 31) (kI 1)),(a9 32)]))))))] df))
theorem DH(G:cK C)(h2:2≤n)(H:mE C n):aQ C n bA (dA (aq (ay 73)) 24) nk:=(bF (ci H.h_law_joined (ag rfl CZ (ag rfl (cF (bw ∅ h2 (λzz zz=>rfl) (ib _ _ _ _ _ _ _ _ _) (b_ kW) (bM wn) (j5 (cn (bj kj am (λzz zz=>rfl)) am dR ∅)) (km h2 (b_ (dQ kj (cy am) dD)) (bM wt) cH (cY (ag rfl (bj kj am (λzz zz=>rfl)) (ag rfl xo ae))) (λzz zz=>rfl)))) ae)) (λzz=>rfl) ∅ ∅ ∅) ye (λzz zz=> ∅))
theorem Dq:aA C bA "names" 24:=bu 24 ∅
def nG:SF:=(cb 24 (aU [(kS "OPTIMIZED"),(kS "NEWLOCALS"),(kS "VARARGS"),(kS "VARKEYWORDS"),(kS "NESTED"),(kS "GENERATOR"),(kS "NOFREE"),(kS "COROUTINE"),(kS "ITERABLE_COROUTINE"),(kS "ASYNC_GENERATOR")]))
theorem Ep(G:cK C)(h2:2≤n)(H:mE C n):aQ C n bA (dA (aq (ay 73)) 25) nG:=(bF (bb (ag rfl bT (ag rfl bT (ag rfl bT (ag rfl bT (ag rfl bT (ag rfl bT (ag rfl bT (ag rfl bT (ag rfl bT (ag rfl bT ae))))))))))) Dq (λzz zz=> ∅))
theorem EC:aA C bA "words" 25:=bu 25 ∅
theorem DX:ab C n bA (.Name "names" pos) (a9 24):=ba 24 ∅
abbrev uD:Scope:=jO [(".0",.local),("place",.local),("hex",.globalImplicit)]
abbrev Cm:Cx:=bR bA uD
theorem uX:aA C Cm "place" 31:=bu 31 ∅
theorem tv:ab C n Cm (.Name "place" pos) (a9 31):=ba 31 ∅
theorem ng:ab C n bA (.Name "forks" pos) (a9 21):=ba 21 ∅
def o4:SF:=(cb 25 (cg (aj (a9 24) (ce uD (aK false (af [(kI 10),(kI 17)] cJ)) (dz 31) (c_ bg (aY (af [(aj (kI 2) (a9 31) (aS gk))] oY)))) aT) (aL (a9 5)) (aL (aj (a9 5) (af [(a9 21)] dC) aT))))
theorem Dx(G:cK C)(h2:2≤n)(H:mE C n):aQ C n bA (dA (aq (ay 73)) 26) o4:=(bF (dQ (av DX (cF (bw ∅ h2 (λzz zz=>rfl) (bN _ _ _ _ _ _) (b_ (ct (fv:=.type "range") (G.no _ ∅) ∅ ∅ (bD _) dM (ag rfl am (ag rfl am ae)) (λzz=>rfl) (λzz=>rfl) ∅ ∅ ∅)) (bM uX) cH (bZ (ct (fv:=.builtin "hex") (G.no _ ∅) ∅ ∅ (bf _) uM (ag rfl (av am tv iZ) ae) (λzz=>rfl) (λzz=>rfl) ∅ ∅ ∅)))) br) (cy pv) (cy (av pv (ct (fv:=.builtin "len") (G.no _ ∅) ∅ ∅ (bf _) eW (ag rfl ng ae) (λzz=>rfl) (λzz=>rfl) ∅ ∅ ∅) br))) EC (λzz zz=> ∅))
theorem CY:aA C bA "trees" 26:=bu 26 ∅
def ni:SF:=(cb 26 (n4 []))
theorem DK(G:cK C)(h2:2≤n)(H:mE C n):aQ C n bA (dA (aq (ay 73)) 27) ni:=(bF (ju ae) CY (λzz zz=> ∅))
theorem JR:aA C bA "mask" 27:=eX 27 ∅ ∅ ∅
theorem Jv:aA C bA "said" 28:=eX 28 ∅ ∅ ∅
theorem HR:ab C n bA (.Name "mask" pos) (a9 27):=bE 27 2 ∅ (by decide) ∅ ∅ ∅
theorem JN:ab C n bA (.Name "said" pos) (a9 28):=bE 28 2 ∅ (by decide) ∅ ∅ ∅
theorem nD:ab C n bA (.Name "words" pos) (a9 25):=ba 25 ∅
abbrev lS:Scope:=jO [(".0",.local),("k",.local),("word",.local),("mask",.free)]
abbrev mn:Cx:=bR bA lS
theorem Gm:aA C mn "k" 31:=bu 31 ∅
theorem wF:aA C mn "word" 32:=bu 32 ∅
theorem vM:ab C n mn (.Name "mask" pos) (a9 27):=bE 27 3 ∅ (by decide) ∅ ∅ ∅
theorem Gf:ab C n mn (.Name "k" pos) (a9 31):=ba 31 ∅
theorem we:ab C n mn (.Name "word" pos) (a9 32):=ba 32 ∅
theorem yM:aA C bA "chosen" 29:=bu 29 ∅
abbrev kF:Scope:=jO [(".0",.local),("word",.local),("fork",.local),("said",.free)]
abbrev mK:Cx:=bR bA kF
theorem w_:aA C mK "word" 31:=bu 31 ∅
theorem wk:aA C mK "fork" 32:=bu 32 ∅
theorem jS:ab C n mK (.Name "fork" pos) (a9 32):=ba 32 ∅
theorem wU:ab C n mK (.Name "word" pos) (a9 31):=ba 31 ∅
theorem wy:ab C n mK (.Name "said" pos) (a9 28):=bE 28 3 ∅ (by decide) ∅ ∅ ∅
theorem yO:aA C bA "joined" 30:=bu 30 ∅
theorem qJ:ab C n bA (.Name "labels" pos) (a9 23):=ba 23 ∅
theorem y0:ab C n bA (.Name "chosen" pos) (a9 29):=ba 29 ∅
theorem sr:ab C n bA (.Name "trees" pos) (a9 26):=ba 26 ∅
theorem jA:ab C n bA (.Name "joined" pos) (a9 30):=ba 30 ∅
def oc:SF:=(jN (aK false (af [(aj (kI 2) (af [(a9 21)] dC) (aS gk))] cJ)) (dz 27) (ap (cb 28 (af [(aj (a9 27) (aj (kI 2) (a9 5) (aS gk)) la)] cO)) (ap (cj (eg (a9 12) (cW [(a9 28),(ZC (dx (kS ", ") [(ce lS (c9 [(a9 25)] g9) (jh 31 32) (c_ (bB (aj (aj (a9 27) (aj (kI 2) (a9 31) (aS gk)) (aS cP)) (kI 2) (aS cu)) (kI 1) dK) (aY (a9 32))))] fc) (kS "0x0"))]))) (ap (ga 29 kF (c9 [(a9 25),(a9 21)] ln) (jh 31 32) (c_ bg (aY (cW [(aF (a9 32) (kI 1)),(dw (o0 (a9 31) (a9 28) ", ") (aF (a9 32) (kI 3)) (aF (a9 32) (kI 2)))]))) false) (ap (cb 30 (dw (bB (a9 23) (aU []) pe) (af [(a9 23),(a9 29)] df) (aU []))) (ap (cj (eg (a9 26) (si (dZ (a9 30) (aU []) pe) (dZ (a9 30) (aj (cg (a9 30) b9 (aL (kI 1))) (af [(a9 30)] dC) la) dK)))) aP))))) aP)
theorem DC(G:cK C)(h2:2≤n)(H:mE C n):aQ C n bA (dA (aq (ay 73)) 28) oc:=(gu h2 (b_ (ct (fv:=.type "range") (G.no _ ∅) ∅ ∅ (bD _) dM (ag rfl (av am (ct (fv:=.builtin "len") (G.no _ ∅) ∅ ∅ (bf _) eW (ag rfl ng ae) (λzz=>rfl) (λzz=>rfl) ∅ ∅ ∅) iZ) ae) (λzz=>rfl) (λzz=>rfl) ∅ ∅ ∅)) (bM JR) (ak (bF (ci H.hpretty_flags (ag rfl (av HR (av am pv iZ) qq) ae) (λzz=>rfl) ∅ ∅ ∅) Jv (λzz zz=> ∅)) (ak (cM (cz (λzz=>rfl) eR (cY (ag rfl JN (ag rfl (ae7 (fQ (λzz=>rfl) JZ Km g_ bT (ag rfl (cF (bw ∅ h2 (λzz zz=>rfl) (bN _ _ _ _ _ _) (kz (fv:=.type "enumerate") (G.no _ ∅) ∅ ∅ (bD _) iS (ag rfl nD ae) (λzz=>rfl) (λzz=>rfl) ∅ ∅ ∅) (eY Gm wF) (j5 (cn (av (av vM (av am Gf iZ) eN) am dt) am dR ∅)) (bZ we))) ae) (λzz=>rfl) (λzz=>rfl)) bT) ae))) (λzz=>rfl)) ∅ (λzz=>rfl)) (ak (gx false (bw ∅ h2 (λzz zz=>rfl) (bN _ _ _ _ _ _) (kz (fv:=.type "zip") (G.no _ ∅) ∅ ∅ (bD _) BD (ag rfl nD (ag rfl ng ae)) (λzz=>rfl) (λzz=>rfl) ∅ ∅ ∅) (eY w_ wk) cH (bZ (cY (ag rfl (bj jS am (λzz zz=>rfl)) (ag rfl (fW (JA (λzz=>rfl) wU wy ∅) (bj jS am (λzz zz=>rfl)) (bj jS am (λzz zz=>rfl))) ae))))) yM (fg ∅ ∅ ∅ ∅)) (ak (bF (fW (cn qJ (bb ae) s_ ∅) (ci H.h_law_joined (ag rfl qJ (ag rfl y0 ae)) (λzz=>rfl) ∅ ∅ ∅) (bb ae)) yO (λzz zz=> ∅)) (ak (cM (cz (λzz=>rfl) sr (xZ (fB jA (bb ae) s_ ∅) (fB jA (av (dQ jA dD (cy am)) (ct (fv:=.builtin "len") (G.no _ ∅) ∅ ∅ (bf _) eW (ag rfl jA ae) (λzz=>rfl) (λzz=>rfl) ∅ ∅ ∅) qq) dR ∅)) (λzz=>rfl)) ∅ (λzz=>rfl)) aN))))) aN (λzz zz=>rfl))
theorem tF:ab C n bA (.Name "far" pos) (a9 6):=ba 6 ∅
def ot:SF:=(cj (eg (a9 12) (cW [(af [(aj (af [(a9 11)] vQ) (a9 6) aT)] cO),(dx (kS ", ") [(aj (aj (a9 25) (aU [(kS "0x80000000")]) aT) (dw (bB (a9 6) (kI 0) pe) (aU [(af [(a9 6)] oY)]) (aU [])) aT)] fc)])))
theorem DB(G:cK C)(h2:2≤n)(H:mE C n):aQ C n bA (dA (aq (ay 73)) 29) ot:=(cM (cz (λzz=>rfl) eR (cY (ag rfl (ci H.hpretty_flags (ag rfl (av (ct (fv:=.builtin "sum") (G.no _ ∅) ∅ ∅ (bf _) yB (ag rfl lG ae) (λzz=>rfl) (λzz=>rfl) ∅ ∅ ∅) tF br) ae) (λzz=>rfl) ∅ ∅ ∅) (ag rfl (fQ (λzz=>rfl) JZ Km g_ bT (ag rfl (av (av nD (bb (ag rfl bT ae)) br) (fW (cn tF am s_ ∅) (bb (ag rfl (ct (fv:=.builtin "hex") (G.no _ ∅) ∅ ∅ (bf _) uM (ag rfl tF ae) (λzz=>rfl) (λzz=>rfl) ∅ ∅ ∅) ae)) (bb ae)) br) ae) (λzz=>rfl) (λzz=>rfl)) ae))) (λzz=>rfl)) ∅ (λzz=>rfl))
abbrev pt:Scope:=jO [(".0",.local),("one",.local)]
abbrev AT:Cx:=bR bA pt
theorem yC:aA C AT "one" 31:=bu 31 ∅
theorem lu:ab C n AT (.Name "one" pos) (a9 31):=ba 31 ∅
theorem Dy:ab C n bA (.Name "proof" pos) (a9 18):=ba 18 ∅
def n8:SF:=(fe (si (dZ (ce pt (aK false (a9 12)) (dz 31) (c_ (bB (aF (a9 31) (kI 0)) (aF (a9 31) (kI 1)) pe) (aY (a9 31)))) (aU []) dK) (dZ (a9 18) (dZ (kB false) (a9 26) lO) dK)))
theorem CT(G:cK C)(h2:2≤n)(H:mE C n):aQ C n bA (dA (aq (ay 73)) 30) n8:=(da (xZ (fB (cF (bw ∅ h2 (λzz zz=>rfl) (bN _ _ _ _ _ _) (b_ eR) (bM yC) (j5 (cn (bj lu am (λzz zz=>rfl)) (bj lu am (λzz zz=>rfl)) s_ ∅)) (bZ lu))) (bb ae) dR ∅) (fB Dy (fB dj sr xD ∅) dR ∅)))
def Wr:SF:=(ap vS (ap w4 (ap vU (ap xJ (ap xy (ap xA (ap xI (ap xv (ap Bz (ap xh (ap pZ (ap qo (ap mZ (ap np (ap nE (ap oa (ap ox (ap mX (ap n5 (ap nq (ap m_ (ap nA (ap nF (ap nI (ap nk (ap nG (ap o4 (ap ni (ap oc (ap ot (ap n8 aP)))))))))))))))))))))))))))))))
theorem b73(G:cK C)(h2:2≤n)(H:mE C n):qe C n bA (aq (ay 73)) Wr:=(cc (dv (HZ G h2)) (cc (dv (GK G h2)) (cc (dv (Kx G h2)) (cc (dv (FV G h2 H)) (cc (dv (Hh G h2 H)) (cc (dv (Gw G h2 H)) (cc (dv (Jk G h2 H)) (cc (dv (Gn G h2 H)) (cc (dv (JJ G h2 H)) (cc (IC G h2 H) (cc (dv (C_ G h2 H)) (cc (dv (Dl G h2 H)) (cc (dv (Dn G h2 H)) (cc (dv (DM G h2 H)) (cc (dv (DQ G h2 H)) (cc (dv (EG G h2 H)) (cc (dv (EI G h2 H)) (cc (dv (EV G h2 H)) (cc (dv (Dz G h2 H)) (cc (dv (EL G h2 H)) (cc (dv (E6 G h2 H)) (cc (dv (DO G h2 H)) (cc (dv (E1 G h2 H)) (cc (dv (EJ G h2 H)) (cc (dv (DH G h2 H)) (cc (dv (Ep G h2 H)) (cc (dv (Dx G h2 H)) (cc (dv (DK G h2 H)) (cc (dv (DC G h2 H)) (cc (dv (DB G h2 H)) (cc (dv (CT G h2 H)) TC)))))))))))))))))))))))))))))))
end
structure R1 (C:gL):Prop where
 f1:dp C "_iter_escaped_chars" 1
 f2:dp C "_strip_quoted_realnames" 2
 f3:dp C "_check_parenthesis" 3
 f4:dp C "_pre_parse_validation" 4
 f7:dp C "pretty_flags" 7
 f8:dp C "_parse_varint" 8
 f61:dp C "ISTERMINAL" 61
 f62:dp C "ISNONTERMINAL" 62
 f63:dp C "ISEOF" 63
 f65:dp C "_law_numbers" 65
 f66:dp C "_law_octets" 66
 f67:dp C "_law_units" 67
 f68:dp C "_law_formula" 68
 f69:dp C "_law_beyond" 69
 f70:dp C "_law_proved" 70
 f71:dp C "_law_graph" 71
 f72:dp C "_law_joined" 72
theorem Gr(G:cK C)(F:R1 C):qe C 18 bA (aq (ay 73)) Wr:=by
 have he:C.mg "enumerate"=none:=G.no _ ∅
 have k61:aI C 3 "ISTERMINAL" co:=c61 G (Dj 2) F.f61;have k62:aI C 3 "ISNONTERMINAL" bQ:=c62 G (Dj 2) F.f62;have k63:aI C 3 "ISEOF" fx:=c63 G (Dj 2) F.f63;have k72:aI C 3 "_law_joined" df:=c72 G (Dj 2) F.f72;have k71:aI C 14 "_law_graph" aW:=d71 G (Dj 2) F.f71 12;have k8:aI C 3 "_parse_varint" aR:=c8 G (Dj 2) F.f8;have k7:aI C 3 "pretty_flags" cO:=c7 G (Dj 2) F.f7;have k66:aI C 3 "_law_octets" fZ:=c66 G (Dj 2) F.f66;have k67:aI C 3 "_law_units" bC:=c67 G (Dj 2) F.f67;have k65:aI C 3 "_law_numbers" gz:=c65 G (Dj 2) F.f65;have k1:gT C 3 "_iter_escaped_chars" aE:=c1 F.f1 he;have k1L:BE C 18 "_iter_escaped_chars" aE:=c1L F.f1 he;have k2:aI C 4 "_strip_quoted_realnames" aM:=c2 G (by decide) k1 F.f2;have k3:aI C 5 "_check_parenthesis" ar:=c3 G (by decide) k2 (k1.mono (by decide)) F.f3;have k4:aI C 6 "_pre_parse_validation" aX:=c4 G (by decide) k3 F.f4;have k68:aI C 15 "_law_formula" aC:=d68 G (by decide) k8 k63 k62 k61 F.f68 12;have k70:aI C 18 "_law_proved" aO:=d70 G (by decide) (k67.mono (by decide)) (k3.mono (by decide)) k4 F.f70 12;have k69:VS C 18:=(uJ G F.f8 F.f69 (ao5 (n:=17) (k8.mono (by decide)) F.f69) (by decide));exact b73 G (by decide) ⟨k65.mono (by decide),k66.mono (by decide),k68.mono (by decide),k69,k61.mono (by decide),k62.mono (by decide),k63.mono (by decide),k67.mono (by decide),k1L,k2.mono (by decide),k1.mono (by decide),k3.mono (by decide),k4.mono (by decide),k70,k71.mono (by decide),k72.mono (by decide),k7.mono (by decide)⟩
theorem law_call(G:cK C)(F:R1 C)(ho:C.B.get? fa=some o)(hd:o.data=.func (O9 "law" (mj (ay 73)) (aq (ay 73)) (ao (ay 73)) pm cd doc))(hcd:C.B.CodeRec cd "law")
   {l:Addr} (I:bl C [] [] [] s) (hl:aJ s.heap [] (.ref l) (.list xs))
  (h:Wr (cE (ao (ay 73)) [.d (.list xs)]) []=some (.ret (.d (.bool true)),ρ',μ')):
  wpAny (model C.prog C.w) callerA (call (.ref fa) [.ref l]) (λv s'=>v=.bool true∧(∀b o,C.B.get? b=some o→s'.heap.get? b=some o)∧s'.os=C.os∧AllBare s'.gens) E s:=by
 refine mu (Vs:=[.d (.list xs)]) ["script"] ho hd hcd (jG λzz=> ∅) (of_decide_eq_true ∅) ∅ ∅ ∅ ∅ (by decide) I ⟨hl,trivial⟩ rfl λL O h₁ tk hL hLO hO I1 S1 F1 hk1=>?_
 refine D1 ((Gr G F).run _ _ O [] _ [] [] _ _ _ ρ' μ' ⟨of_decide_eq_true rfl,of_decide_eq_true rfl,rfl⟩ (Pw rfl) rfl I1 F1 h) (λfw s' p=>?_) λzz zz x=>x;refine KA p λα' I' S' F' v zq5 rv=>?_;refine bH (F6 zq5) ?_;exact (ll (aJ.of_bool rv) I'.keep I'.os I'.gens)
theorem fnAt_of{p:Program}{loose:List Str}(T:Top p loose mean C.mg C.mb C.B)(k:Nat)(x:Str)
  (e:(((recsOf p).find? λd=>d.name==x).map λd=>(d.name,d.params,d.body,d.scope))=some (x,mj (ay k),aq (ay k),ao (ay k))):dp C x k:=by
 rw [Iq] at e
 refine au e λzp0 e q=>?_;obtain ⟨n,ps,bd,sc,pos⟩:=zp0;cases q;refine ft (T.fn _ (Nn e)) λa o pm cd doc h1 h2 h3 h4=>?_;exact (ic a o pm cd doc h1 h2 h3 h4)
theorem noneOf{p:Program}{loose:List Str}(T:Top p loose mean C.mg C.mb C.B)(l:List Str)
  (e:(l.all λx=>!startupNames.contains x&&!loose.contains x&&!((recsOf p).map (·.name)).contains x&&!((litsOf p).map (·.1)).contains x&&!((clssOf p loose).map (·.name)).contains x)=true):∀x:Str,l.contains x=true→C.mg x=none:= λx hx=>by
 have:=AP.mp e x (by simpa using hx)
 simp only [Fe,MV,N3,decide_eq_false_iff_not] at this
 refine f_ this λzp0 h5=>?_;refine f_ zp0 λzp0 h4=>?_;obtain ⟨⟨h1,h2⟩,h3⟩:=zp0;exact T.free x h1 h2 h3 h4 h5
theorem constOf{p:Program}{loose:List Str}(T:Top p loose mean C.mg C.mb C.B)(x:Str)(i:Int)(e:valOf p x=some (.int i)):∃t,C.mg x=some (.int i t):=by
 refine au (T.const x _ e) λv h1 h2=>?_
 have:=h2 C.B
 cases this;exact ⟨_,h1⟩
theorem sQ{P:Params}:∀ {vs:List Value} {xs:List Int},WellAll P h vs (ofPys (xs.map Fa))→aw h [] vs (xs.map Fa)
 | [],[],_=>aw.nil _ _
 | [],_::_,x=>by cases x
 |_::_,[],x=>by cases x
 |v::vs,i::xs,x=>by
  cases x with
  |cons a b=>
   refine .ccons ?_ (sQ b);cases a;exact aJ.int ..
theorem well_list{P:Params}{xs:List Int}(x:Well P h (.ref a) (ofPy (NU (xs.map Fa)))):aJ h [] (.ref a) (.list (xs.map Fa)):=by
 have x':Well P h (.ref a) (.list (ofPys (xs.map Fa))):=x;cases x' with
 |list e q=>exact aJ.list ⟨0,e⟩ (by simpa using sQ q) (by simp)
theorem sn{e:DictEntry}{x:Int}{y:Str}(h:CV e=some (x,y)):∃t u,e.key=.int x t∧e.val=.str y u∧e.hash=hashInt x:=by
 refine au (KT.mp h) λa ea h=>au (KT.mp h) λb eb h=>?_
 by_cases q:e.hash=hashInt a
 ·refine cm ((if_pos q).symm.trans h) ?_
  exact bP (JB ea) λt e1=>bP (FX eb) λu e2=>dy t u e1 e2 q
 ·exact cv ((if_neg q).symm.trans h)
theorem xX{es:List DictEntry}{l:List (Int×Str)}(h:es.map CV=l.map some):∀e∈es,∃x t,e.key=.int x t∧e.hash=hashInt x:= λe he=>by
 have:CV e∈l.map some:=h▸PE he
 refine au (Dc.mp this) λzp0 zz q=>?_;obtain ⟨x,y⟩:=zp0;refine bm (sn q.symm) λt u e1 e2 e3=>?_;exact (fV x t e1 e3)
theorem CC{k x:Int}{t:Tok}:PT k (.int x t)=(x==k):=rfl
theorem qV:∀ {es:List DictEntry} {l:List (Int×Str)} (k:Int),es.map CV=l.map some→
  (∃y t,l.lookup k=some y∧(es.find? λe=>PT k e.key).map (·.val)=some (.str y t))∨(l.lookup k=none∧(es.find? λe=>PT k e.key).map (·.val)=none)
 | [],[],k,_=>.inr ⟨rfl,rfl⟩
 | [],_::_,_,h=>by simp at h
 |e::es,[],k,h=>by simp at h
 |e::es,(x,y)::l,k,h=>by
  simp only [F9,Up] at h
  refine bm (sn h.1) λt u e1 e2 e3=>?_
  by_cases q:k=x
  ·subst q
   exact .inl (fV y u (by simp) (by simp [e1,e2,CC]))
  ·have hn:PT k e.key=false:=by
    rw [e1];exact CC.trans (beq_eq_false_iff_ne.mpr (MO q))
   rw [NA,show (k==x)=false by simpa using q,Mi,hn];exact qV k h.2
theorem Av{y:Str}{i:Int}(h:k9 y=some i):(y="|"∧i=18)∨(y="*"∧i=16)∨(y="("∧i=7)∨(y=")"∧i=8):=by
 unfold k9 at h
 simp only [NA,List.lookup_nil] at h
 repeat' split at h
 all_goals first| (cases h;rename_i q;simp only [beq_iff_eq] at q;refine bH (F6 q) ?_;simp;done)|exact cv h
end Mine
namespace Mine
open PySem PySem.W PySem.Calls PyProof.Rows
theorem ext2{C:gL}(t:Ap C.w C.B)(hm:C.mg "EXACT_TOKEN_TYPES"=some (.ref 58)):
  ∃d m,C.mg "EXACT_TOKEN_TYPES"=some (.ref d)∧C.B.MapOf (strKind C.prog C.w) d m∧∀y i,k9 y=some i→∃t,m y=some (.int i t):=by
 obtain ⟨l1,l2,a1,_,b1,b2,_⟩:=t;obtain ⟨es,n,g,rfl⟩:=wb a1;refine ⟨58,λk=>findBy QS es k,hm,⟨_,es,n,g,⟨rfl,rfl,rfl⟩,rfl,λe he=>?_,λzz=>rfl⟩,λy i q=>?_⟩
 ·have:(GJ e.key,e.hash)∈k1 C.w:=b1▸PE (f:= λe:DictEntry=>(GJ e.key,e.hash)) (So.mpr he)
  obtain ⟨x,_,q⟩:=Dc.mp this;have q1:=congrArg U3 q;have q2:=congrArg U6 q;refine ⟨x,?_,q2.symm⟩;dsimp only at q1
  obtain ⟨t,hk⟩:=FX q1.symm;rw [hk];exact strKind_is C.prog C.w _ _
 ·have fb:∀x:Str,findBy QS es x=((es.toList.find? λe=>QS x e.key).map (·.val)):= λx=>by
   unfold findBy;rw [←Tg]
  have hv:v2 es.toList=[some 18,some 16,some 7,some 8]:=b2;unfold v2 at hv
  simp only [F9,M3,←fb,Up] at hv
  rcases Av q with ⟨rfl,rfl⟩| ⟨rfl,rfl⟩| ⟨rfl,rfl⟩| ⟨rfl,rfl⟩
  ·exact u_ hv.1
  ·exact u_ hv.2.1
  ·exact u_ hv.2.2.1
  ·exact u_ hv.2.2.2.1
theorem cfn2{C:gL}(t:Ap C.w C.B)(hm:C.mg "COMPILER_FLAG_NAMES"=some (.ref 43)):
  ∃d m,C.mg "COMPILER_FLAG_NAMES"=some (.ref d)∧C.B.MapOf (intKind C.prog C.w) d m∧(∀k,(∃y t,rW k=some y∧m k=some (.str y t))∨(rW k=none∧m k=none))∧(d==sysModules)=false:=by
 obtain ⟨l1,l2,_,a2,_,_,b⟩:=t;obtain ⟨es,n,g,rfl⟩:=wb a2;have hk:=xX b;refine ⟨43,λk=>findBy PT es k,hm,⟨_,es,n,g,⟨rfl,rfl,rfl⟩,rfl,λe he=>?_,λzz=>rfl⟩,λk=>?_,by decide⟩
 ·obtain ⟨x,t,e1,e2⟩:=hk e (So.mpr he)
  exact ⟨x,by rw [e1];simp [intKind,PT],e2⟩
 ·have:=qV k b
  dsimp only;unfold findBy;rw [←Tg];exact this
theorem hd2(call:WalkO vq loose YI Ap RR.toRowW dd.1 dd.2 λf vs=>PySem.call f vs):Ly.Holds:=
 holds_law Kl λsaid=>holds_open (q:=vq) (loose:=loose) (Xt:=xt) (XP:=YI) (Yf:=yf) (Ya:=ya) (YP:=Ap) (N:=4366) Zp Ow CS ZN N8 Zd TK ad6
  (λs e=>recFacts_of (by unfold xt at e;rw [Fe,Fe] at e;exact e.1.2)) rfl said W4 ⟨rfl,rfl,rfl,rfl,rfl,∅⟩ NM call
end Mine
namespace Mine
open PySem PySem.W PySem.Calls PyProof.Rows
variable {V V' : AV} {Cn D L TI TO a fa i1 i2 i3 z : Addr} {A : Around} {items zs : Array Value} {sh tup : Bool} {cf : CF} {c c' : ah} {C : gL} {cx : Cx} {f fi fo g : EF} {cenv env : Env} {mean : ExcName → Option Value} {e e1 e2 elt iter target test : Expr} {fl : Fl} {h h' : Heap} {itf : IF} {y : Int} {Vs : List AV} {M M' O T T' W wr α α' α1 α₀ : List Addr} {Mid : List Addr → List Addr → List Addr → List ah → Nat → Value → Shared → Prop} {St : List Addr → xN} {μ μ' μ'' μ1 μ2 μ3 μ₀ : List ah} {fs : List EF} {es : List Expr} {K cs ns os rest : List Int} {gi ls m ps : List Nat} {X acc acc' ds xs ys : List PyData} {body orelse : List Stmt} {vs : List Value} {ρ ρ' ρ1 ρ2 : d5} {tf : d5 → PyData → Option d5} {b i j ja jt k kk low mask n p q tk : Nat} {o : Obj} {op : Operator} {ha ke td te tx : Option AV} {hi lo : Option Expr} {gg : Option Nat} {apos pos px py sp tp xp : Pos} {prog : Program} {G : Prop} {d : PyData} {sc scope : Scope} {s s' s'' s1 s₀ : Shared} {spec : a_} {st : Stmt} {name x : Str} {t : TF} {u : Tok} {cd cls doc fv it pm v : Value} {E Q : Value → Shared → Prop} {w : World}
section
theorem b5{X:Type u0}{Y:Type u1}{Z:Type u2}{o:Option (X×Y)}{k:X→Y→Option Z}{a:X}{b:Y}(h:o=some (a,b)):bp o k=k a b:=by rw [h];rfl
theorem bV{X:Type u0}{Z:Type u2}{o:Option X}{k:X→Option Z}{a:X}(h:o=some a):bo o k=k a:=by rw [h];rfl
theorem oV{X:Type u0}{Y:Type u1}{Z:Type u2}{o:Option X}{p:Option Y}{k:X→Y→Z}{e:Z}{a:X}{b:Y}(h:o=some a)(h':p=some b):oe o p k e=k a b:=by rw [h,h'];rfl
theorem J8{X:Type u0}{Y:Type u1}{Z:Type u2}{o:Option (X×Y)}{k:X→Y→Option Z}(h:o=none):bp o k=none:=by rw [h];rfl
theorem f6{X:Type u0}{Y:Type u1}{Z:Type u2}{o:Option X}{p:Option Y}{k:X→Y→Z}{e:Z}(h:o=none):oe o p k e=e:=by rw [h];rfl
end
section
variable {h:EF} {sf sg:SF} {W:AV}
theorem xr(e:t ρ μ=some (true,μ1)):dw t f g ρ μ=f ρ μ1:=b5 e
theorem sT(e:t ρ μ=some (false,μ1)):dw t f g ρ μ=g ρ μ1:=b5 e
theorem yJ(e:t ρ μ=some (true,μ1)):jE t sf sg ρ μ=sf ρ μ1:=b5 e
theorem Dp(e:t ρ μ=some (false,μ1)):jE t sf sg ρ μ=sg ρ μ1:=b5 e
theorem aB(e:sf ρ μ=some (.next,ρ1,μ1)):ap sf sg ρ μ=sg ρ1 μ1:=b5 e
theorem cV(e:sf ρ μ=some (.ret V,ρ1,μ1)):ap sf sg ρ μ=some (.ret V,ρ1,μ1):=b5 e
theorem FA(e:sf ρ μ=some (.brk,ρ1,μ1)):ap sf sg ρ μ=some (.brk,ρ1,μ1):=b5 e
theorem bO(e:f ρ μ=some (V,μ1)):cb i f ρ μ=some (.next,ρ.set i (some V),μ1):=b5 e
theorem ee(e:f ρ μ=some (V,μ1)):fe f ρ μ=some (.ret V,ρ,μ1):=b5 e
theorem bK:aP ρ μ=some (.next,ρ,μ):=rfl
theorem nW{b:Bool}(e:f ρ μ=some (V,μ1))(h:kq V μ1=some b):gf f ρ μ=some (b,μ1):=(b5 e).trans (bV h)
theorem Bs{o:AV→AV→List ah→Option (AV×List ah)}{W r:AV}(e:ρ[i]? =some (some V))(e1:f ρ μ=some (W,μ1))(h:o V W μ1=some (r,μ2)):ik i f o ρ μ=some (.next,ρ.set i (some r),μ2):=
 (bV (show ρ[i]?.bind id=some V by rw [e];rfl)).trans ((b5 e1).trans (b5 h))
end
theorem az(xs:List PyData)(μ:List ah):cw none xs μ:= λzz e=>by exact cv e
def Zv(tf:d5→PyData→Option d5)(ρ0 ρ:d5):Prop:=∀y,tf ρ y=tf ρ0 y
theorem Q4(i:Nat)(ρ0:d5)(v:Option AV):Zv (dz i) ρ0 (ρ0.set i v):= λy=>by simp [dz,HQ]
theorem G8{g:Option Nat}{ρ0:d5}(hg:cw g xs μ)(out:PyData→List PyData)(r:List PyData)(ρ:d5)(acc:List PyData)(hb:Zv tf ρ0 ρ)(h:∀x∈r,∀acc,∃ρ1 ρ2,tf ρ0 x=some ρ1∧(acc.length+(out x).length≤sizeLine→cf ρ1 μ acc=some (ρ2,μ,acc++out x))∧Zv tf ρ0 ρ2)(hz:acc.length+(r.flatMap out).length≤sizeLine):
  ∃ρ',ff tf cf g xs r ρ μ acc=some (ρ',μ,acc++r.flatMap out):=by
 induction r generalizing ρ acc with
 |nil=>exact ⟨ρ,congrArg (λz=>some (ρ,μ,z)) (D8 _).symm⟩
 |cons x r ih=>
  refine bm (h x (Gi ..) acc) λρ1 ρ2 e1 e2 e3=>?_;rw [Ft,be] at hz
  refine bP (ih ρ2 (acc++out x) e3 (λy hy=>h y (CQ _ hy)) (by rw [be];lia)) λρ' e=>⟨ρ',?_⟩;refine q_.trans ((bV ((hb x).trans e1)).trans ((b5 (e2 (by lia))).trans ((if_pos hg).trans (e.trans ?_))));rw [Ft,ER]
theorem ms{g:Option Nat}(hi:itf ρ μ=some (xs,g,μ1))(hg:cw g xs μ1)(out:PyData→List PyData)
  (h:∀x∈xs,∀acc,∃ρ1 ρ2,tf (bG sc ρ) x=some ρ1∧(acc.length+(out x).length≤sizeLine→cf ρ1 μ1 acc=some (ρ2,μ1,acc++out x))∧Zv tf (bG sc ρ) ρ2) (hz:(xs.flatMap out).length≤sizeLine):
  e_ sc itf tf cf ρ μ=some (xs.flatMap out,μ1):=by
 refine bP (G8 hg out xs (bG sc ρ) [] (λzz=>rfl) h (by simpa using hz)) λρ' e=>?_;exact (b5 hi).trans (b5 e)
theorem ql{g:Option Nat}(h:itf ρ μ=some (xs,g,μ1))(h':ff tf cf g xs xs (bG sc ρ) μ1 []=some (ρ',μ2,acc)):e_ sc itf tf cf ρ μ=some (acc,μ2):=(b5 h).trans (b5 h')
theorem pq{g:Option Nat}{r acc2:List PyData}{x:PyData}(e:tf ρ x=some ρ1)(e':cf ρ1 μ acc=some (ρ2,μ2,acc2))(hg:cw g xs μ2):ff tf cf g xs (x::r) ρ μ acc=ff tf cf g xs r ρ2 μ2 acc2:=
 q_.trans ((bV e).trans ((b5 e').trans (if_pos hg)))
theorem TL{a b:PyData}(h:f ρ μ=some (.d (.list [a,b]),μ1)):VG i j f ρ μ=some (.next,(ρ.set i (some (.d a))).set j (some (.d b)),μ1):=b5 h
theorem BI{a b:PyData}(h:f ρ μ=some (.d (.tuple [a,b]),μ1)):wV i j f ρ μ=some (.next,(ρ.set j (some (.d b))).set i (some (.d a)),μ1):=b5 h
theorem bY(h:e_ sc itf tf cf ρ μ=some (acc,μ1)):ce sc itf tf cf ρ μ=some (.d (.list acc),μ1):=b5 h
theorem Yw(e:t ρ μ=some (true,μ1)):c_ t cf ρ μ acc=cf ρ μ1 acc:=b5 e
theorem Yx(e:t ρ μ=some (false,μ1)):c_ t cf ρ μ acc=some (ρ,μ1,acc):=b5 e
theorem vL{e:EF}(h:e ρ μ=some (.d d,μ))(acc:List PyData)(hz:acc.length+1≤sizeLine):aY e ρ μ acc=some (ρ,μ,acc++[d]):=
 (b5 h).trans ((b5 (rfl:vC (.d d) μ=some (d,μ))).trans (if_pos (Nat.le_of_succ_le hz)))
theorem ph{e:EF}(h:e ρ μ=some (.d d,μ))(acc:List PyData)(hz:acc.length+1≤sizeLine):c_ bg (aY e) ρ μ acc=some (ρ,μ,acc++[d]):=vL h acc hz
theorem Cs{e:EF}{b:Bool}(ht:t ρ μ=some (b,μ))(h:b=true→e ρ μ=some (.d d,μ))(acc:List PyData)(hz:acc.length+(if b then [d] else []).length≤sizeLine):c_ t (aY e) ρ μ acc=some (ρ,μ,acc++if b then [d] else []):=by
 refine (b5 ht).trans ?_;cases b with
 |true=>exact vL (h rfl) acc hz
 |false=>exact congrArg (λz=>some (ρ,μ,z)) (D8 _).symm
theorem iC{e:EF}{g:Option Nat}(i:Nat)(f:PyData→PyData)(hi:itf ρ μ=some (xs,g,μ1))(hg:cw g xs μ1)
  (h:∀x∈xs,e ((bG sc ρ).set i (some (.d x))) μ1=some (.d (f x),μ1)) (hz:xs.length≤sizeLine):e_ sc itf (dz i) (c_ bg (aY e)) ρ μ=some (xs.map f,μ1):=by
 have hl:∀l:List PyData,l.flatMap (λx=>[f x])=l.map f:= λl=>by
  induction l with
  |nil=>rfl
  |cons x l ih=>refine rA Ft ?_;refine rA ih ?_;rfl
 have:=ms (sc:=sc) (tf:=dz i) (cf:=c_ bg (aY e)) hi hg (λx=>[f x]) (λx hx acc=>(dy _ _ rfl (λhz=>ph (h x hx) acc (by simpa using hz)) (Q4 i _ _))) (by refine rA (hl _) ?_;refine rA (xP _) ?_;exact hz)
 refine rA this ?_;exact rA (hl _) rfl
theorem jf{e:EF}{g:Option Nat}(i:Nat)(p:PyData→Bool)(f:PyData→PyData)(hi:itf ρ μ=some (xs,g,μ1))(hg:cw g xs μ1)
  (ht:∀x∈xs,t ((bG sc ρ).set i (some (.d x))) μ1=some (p x,μ1)) (h:∀x∈xs,p x=true→e ((bG sc ρ).set i (some (.d x))) μ1=some (.d (f x),μ1)) (hz:xs.length≤sizeLine):
  e_ sc itf (dz i) (c_ t (aY e)) ρ μ=some ((xs.filter p).map f,μ1):=by
 have hl:∀l:List PyData,l.flatMap (λx=>if p x then [f x] else [])=(l.filter p).map f:= λl=>by
  induction l with
  |nil=>rfl
  |cons x l ih=>
   refine rA Ft ?_;refine rA ih ?_;refine rA KP ?_
   split<;>simp
 have:=ms (sc:=sc) (tf:=dz i) (cf:=c_ t (aY e)) hi hg (λx=>if p x then [f x] else []) (λx hx acc=>(dy _ _ rfl (λhz=>Cs (ht x hx) (h x hx) acc hz) (Q4 i _ _))) (by
  refine rA (hl _) ?_;refine rA (xP _) ?_;exact L2 (HA ..) hz)
 refine rA this ?_;exact rA (hl _) rfl
theorem d0{f:SF}{x:PyData}(hl:Vs.length=k)(h:f (cE sc Vs) μ=some (.ret (.d x),ρ',μ')):cC k sc f Vs μ=some (.d x,μ'.take μ.length):=
 (if_pos hl).trans (b5 h)
theorem s61{x:Int}:co [.d (.int x)] μ=some (.d (.bool (decide (x<256))),μ):=by
 refine (d0 (k:=1) rfl (rfl:f61 (cE (ao (ay 61)) [.d (.int x)]) μ=some (.ret (.d (.bool (decide (x<256)))),cE (ao (ay 61)) [.d (.int x)],μ))).trans ?_;rw [LW]
theorem s62{x:Int}:bQ [.d (.int x)] μ=some (.d (.bool (decide (256≤x))),μ):=by
 refine (d0 (k:=1) rfl (rfl:f62 (cE (ao (ay 62)) [.d (.int x)]) μ=some (.ret (.d (.bool (decide (256≤x)))),cE (ao (ay 62)) [.d (.int x)],μ))).trans ?_;rw [LW]
theorem s63{x:Int}:fx [.d (.int x)] μ=some (.d (.bool (x==0)),μ):=by
 refine (d0 (k:=1) rfl (rfl:f63 (cE (ao (ay 63)) [.d (.int x)]) μ=some (.ret (.d (.bool (x==0))),cE (ao (ay 63)) [.d (.int x)],μ))).trans ?_;rw [LW]
noncomputable def Ec:Nat→Int→Int→List Int→Option (Int×List Int)
 |0,_,_,_=>none
 |k+1,b,val,os=>if D3 b 64≠0 then
   (match os with
   |b'::os'=>if 0≤val∧val<4294967296 then Ec k b' (Mo (val*64) (D3 b' 63)) os' else none
   | []=>none)
  else some (val,os)
noncomputable def rd:List Int→Option (Int×List Int)
 | []=>none
 |b::os=>Ec 64 b (D3 b 63) os
noncomputable abbrev iL(l:List Int):List PyData:=l.map .int
noncomputable def L8(i:Nat)(b val:Int):d5:=[some (.c i),some (.d (.int b)),some (.d (.int val))]
theorem tU{x:PyData}{r:List PyData}(h0:a9 0 ρ μ=some (.c i,μ))(hc:μ[i]? =some (.iter (x::r))):af [a9 0] kv ρ μ=some (.d x,μ.set i (.iter r)):=by
 refine (?_:bp (bp (a9 0 ρ μ) λV μ1=>bp (some ([],μ1)) λVs μ2=>some (V::Vs,μ2)) kv=_);rw [h0];exact xx hc
theorem cB(h:i<μ.length):(μ.set i c)[i]? =some c:=My h
theorem eF(h:μ[i]? =some c):μ.set i c=μ:=by
 obtain ⟨hlt,e⟩:=AX.mp h;refine rB e ?_;exact rA (List.set_getElem_self _) rfl
section
variable {o1 o2:AV→AV→List ah→Option (AV×List ah)}
theorem V7(h1:∀ (v:Int) (μ:List ah),0≤v→v<4294967296→o1 (.d (.int v)) (.d (.int 6)) μ=some (.d (.int (v*64)),μ))(h2:∀ (a b:Int) (μ:List ah),o2 (.d (.int a)) (.d (.int b)) μ=some (.d (.int (Mo a b)),μ))(k:Nat)(b val:Int)(os rest:List Int)(μ:List ah)(v:Int)(hc:μ[i]? =some (.iter (iL os)))(h:Ec k b val os=some (v,rest)):
  ∃b',j1 (gf (aj (a9 1) (kI 64) (aS λx y=>some (D3 x y)))) (ap (ik 2 (kI 6) o1) (ap (cb 1 (af [a9 0] kv)) (ap (ik 2 (aj (a9 1) (kI 63) (aS λx y=>some (D3 x y))) o2) aP))) k (L8 i b val) μ
   =some (.next,L8 i b' v,μ.set i (.iter (iL rest))):=by
 induction k generalizing b val os μ with
 |zero=>exact cv h
 |succ k ih=>
  have hlt:i<μ.length:=(AX.mp hc).1;have ht:gf (aj (a9 1) (kI 64) (aS λx y=>some (D3 x y))) (L8 i b val) μ=some (D3 b 64 != 0,μ):=rfl;refine ifB h (λhb h=>?_) λhb h=>?_
  ·cases os with
   |nil=>exact cv h
   |cons b1 os=>
    refine i9 h λhz h=>?_;have e1:ik 2 (kI 6) o1 (L8 i b val) μ=some (.next,L8 i b (val*64),μ):=Jl (v:=val) (w:=val*64) rfl (h1 _ _ hz.1 hz.2);have e2:cb 1 (af [a9 0] kv) (L8 i b (val*64)) μ=some (.next,L8 i b1 (val*64),μ.set i (.iter (iL os))):=b5 (tU (i:=i) rfl hc);have e3:ik 2 (aj (a9 1) (kI 63) (aS λx y=>some (D3 x y))) o2 (L8 i b1 (val*64)) (μ.set i (.iter (iL os)))=some (.next,L8 i b1 (Mo (val*64) (D3 b1 63)),μ.set i (.iter (iL os))):=Bs (V:=.d (.int (val*64))) (W:=.d (.int (D3 b1 63))) (μ1:=μ.set i (.iter (iL os))) rfl rfl (h2 _ _ _);refine bP (ih b1 (Mo (val*64) (D3 b1 63)) os (μ.set i (.iter (iL os))) (cB hlt) h) λb' ih=>⟨b',?_⟩;have e4:ap (ik 2 (kI 6) o1) (ap (cb 1 (af [a9 0] kv)) (ap (ik 2 (aj (a9 1) (kI 63) (aS λx y=>some (D3 x y))) o2) aP)) (L8 i b val) μ=some (.next,L8 i b1 (Mo (val*64) (D3 b1 63)),μ.set i (.iter (iL os))):=(aB e1).trans ((aB e2).trans (aB e3));refine iQ.trans ((b5 ht).trans ?_);rw [bne_iff_ne.mpr hb];refine (?_:bp (ap _ _ _ _) (λfl p=>RY fl (j1 _ _ _ p.1 p.2) p)=_);exact (b5 e4).trans (ih.trans (by rw [HQ]))
  ·refine cm h ⟨b,iQ.trans ((b5 ht).trans ?_)⟩
   rw [show (D3 b 64 != 0)=false by simpa using hb,eF hc];rfl
end
theorem af6(v:Int)(μ:List ah)(h0:0≤v)(h1:v<4294967296):rL (.d (.int v)) (.d (.int 6)) μ=some (.d (.int (v*64)),μ):=by
 have hb:(HL v:Int)+6≤2^27:=by
  have hb:HL v≤33:=by
   unfold HL
   split
   ·lia
   ·rename_i hz
    have hz':v≠0:=by simpa using hz
    have:v.natAbs.log2<32:=(Nat.log2_lt (by lia)).mpr (by lia)
    lia
  have e27:(2:Int)^27=134217728:=by decide
  refine rA e27 ?_;lia
 have e:v*2^ (6:Int).toNat=v*64:=by
  exact congrArg (v* ·) (by decide:(2:Int)^6=64)
 refine rB e ?_;exact KE oN hb
theorem ak8(a b:Int)(μ:List ah):T9 (.d (.int a)) (.d (.int b)) μ=some (.d (.int (Mo a b)),μ):=rfl
theorem s8{v:Int}(hc:μ[i]? =some (.iter (iL os)))(h:rd os=some (v,rest)):aR [.c i] μ=some (.d (.int v),μ.set i (.iter (iL rest))):=by
 have hlt:i<μ.length:=(AX.mp hc).1;cases os with
 |nil=>exact cv h
 |cons b os=>
  obtain ⟨b',e⟩:=V7 af6 ak8 64 b (D3 b 63) os rest (μ.set i (.iter (iL os))) v (cB hlt) h;have e0:CP (cE (ao (ay 8)) [.c i]) μ=some (.next,[some (.c i),some (.d (.int b)),none],μ.set i (.iter (iL os))):=by
   exact bO (tU (i:=i) (ρ:=cE (ao (ay 8)) [.c i]) rfl hc)
  have e1:Jr [some (.c i),some (.d (.int b)),none] (μ.set i (.iter (iL os)))=some (.next,L8 i b (D3 b 63),μ.set i (.iter (iL os))):=rfl;have e2:Pb (L8 i b (D3 b 63)) (μ.set i (.iter (iL os)))=some (.next,L8 i b' v,μ.set i (.iter (iL rest))):=by
   exact e.trans (by rw [HQ])
  have e3:UL (L8 i b' v) (μ.set i (.iter (iL rest)))=some (.ret (.d (.int v)),L8 i b' v,μ.set i (.iter (iL rest))):=rfl
  have:f8 (cE (ao (ay 8)) [.c i]) μ=some (.ret (.d (.int v)),L8 i b' v,μ.set i (.iter (iL rest))):=by
   exact (aB e0).trans ((aB e1).trans ((aB e2).trans (cV e3)))
  unfold aR;refine rA (d0 (k:=1) rfl this) ?_;exact rA (Fj (by simp)) rfl
section
theorem p63:(2:Int)^63=9223372036854775808:=by decide
theorem Om{k:Int}(hs:v8 μ V=some xs)(hk:0≤k)(hx:xs[k.toNat]? =some d)(hl:xs.length≤sizeLine):JY V k μ=some d:=by
 have h24:sizeLine=16777216:=by decide
 have hlt:k.toNat<xs.length:=(AX.mp hx).1;have e:seqIndex? k xs.length=some k.toNat:=by
  unfold seqIndex?;dsimp only;refine rA (if_neg (show ¬k<0 by lia)) ?_;exact rA (if_pos (by simp only [Fe,decide_eq_true_eq];lia)) rfl
 exact (if_pos (by rw [p63];lia)).trans ((bV hs).trans ((bV e).trans hx))
theorem cI{k:Int}(hf:f ρ μ=some (V,μ))(hg:g ρ μ=some (.d (.int k),μ))(hs:v8 μ V=some xs)(hk:0≤k)(hx:xs[k.toNat]? =some d)(hl:xs.length≤sizeLine):aF f g ρ μ=some (.d d,μ):=
 (b5 hf).trans ((b5 hg).trans (bV (Om hs hk hx hl)))
theorem bX:fh [] ρ μ=some ([],μ):=rfl
theorem an(h:f ρ μ=some (V,μ1))(hs:fh fs ρ μ1=some (Vs,μ2)):fh (f::fs) ρ μ=some (V::Vs,μ2):=(b5 h).trans (b5 hs)
theorem vX(h:f ρ μ=some (V,μ1)):fh [f] ρ μ=some ([V],μ1):=an h bX
theorem yk(h:f ρ μ=some (V,μ1))(h':g ρ μ1=some (V',μ2)):fh [f,g] ρ μ=some ([V,V'],μ2):=an h (vX h')
theorem d6{W:AV}(hf:f ρ μ=some (V,μ))(hs:spec [V] μ=some (W,μ')):af [f] spec ρ μ=some (W,μ'):=(b5 (vX hf)).trans hs
theorem iN{W:AV}(hf:f ρ μ=some (V,μ))(hg:g ρ μ=some (V',μ))(hs:spec [V,V'] μ=some (W,μ')):af [f,g] spec ρ μ=some (W,μ'):=(b5 (yk hf hg)).trans hs
theorem rk{o:AV→AV→List ah→Option (AV×List ah)}{W R:AV}(hf:f ρ μ=some (V,μ1))(hg:g ρ μ1=some (W,μ2))(h:o V W μ2=some (R,μ3)):aj f g o ρ μ=some (R,μ3):=(b5 hf).trans ((b5 hg).trans h)
theorem cU{x:Int}(hf:f ρ μ=some (.d (.int x),μ))(hg:g ρ μ=some (.d (.int y),μ)):aj f g aT ρ μ=some (.d (.int (x+y)),μ):=rk hf hg rfl
theorem lP(h:dc μ V=some xs):jM V=none∧mA V=none∧GX V=none∧XU V=none∧Nv V=none∧OM V=none:=by
 cases V with
 |d x=>cases x<;>first|exact cv h|exact ⟨rfl,rfl,rfl,rfl,rfl,rfl⟩
 |rng _ _=>exact cv h
 |_=>exact ⟨rfl,rfl,rfl,rfl,rfl,rfl⟩
theorem eP(hc:μ[j]? =some (.live xs)):dc μ (.c j)=some xs:=(bV (k:=Qw) hc:_)
theorem cT{W:AV}(hf:f ρ μ=some (V,μ))(hg:g ρ μ=some (W,μ))(hV:dc μ V=some xs)(hW:dc μ W=some ys)(hz:xs.length+ys.length≤sizeLine):aj f g aT ρ μ=some (.d (.list (xs++ys)),μ):=
 rk hf hg ((f6 (lP hV).1).trans ((f6 (lP hV).2.1).trans ((bV hV).trans ((bV hW).trans (if_pos hz)))))
theorem cX{o:Int→Int→Option Int}{x z:Int}(hf:f ρ μ=some (.d (.int x),μ))(hg:g ρ μ=some (.d (.int y),μ))(h:o x y=some z):aj f g (aS o) ρ μ=some (.d (.int z),μ):=rk hf hg (bV (k:= λz=>some (AV.d (.int z),μ)) h)
theorem v4(ds:List PyData):lM (ds.map .d) μ=some (ds,μ):=by
 induction ds with
 |nil=>rfl
 |cons d ds ih=>exact (b5 (rfl:vC (.d d) μ=some (d,μ))).trans (b5 ih)
theorem d8(h:fh fs ρ μ=some (ds.map .d,μ))(hz:ds.length≤sizeLine):cW fs ρ μ=some (.d (.tuple ds),μ):=(b5 h).trans ((b5 (v4 ds)).trans (if_pos hz))
theorem dJ(h:fh fs ρ μ=some (ds.map .d,μ))(hz:ds.length≤sizeLine):aU fs ρ μ=some (.d (.list ds),μ):=(b5 h).trans ((b5 (v4 ds)).trans (if_pos hz))
theorem tL:aU [] ρ μ=some (.d (.list []),μ):=dJ (ds:=[]) rfl (LJ _)
theorem jW(hf:f ρ μ=some (.d d,μ)):aU [f] ρ μ=some (.d (.list [d]),μ):=dJ (ds:=[d]) (vX hf) (show 1≤sizeLine by decide)
theorem qY(hc:μ[j]? =some (.live xs)):vC (.c j) μ=some (.list xs,μ.set j (.frozen xs)):=(f6 (rfl:vd (.c j)=none)).trans ((bV (rfl:Fk (.c j)=some j)).trans (bV hc))
theorem fH(h:vC V μ=some (d,μ1))(hs:lM Vs μ1=some (ds,μ2)):lM (V::Vs) μ=some (d::ds,μ2):=(b5 h).trans (b5 hs)
theorem Gb(h:fh fs ρ μ=some (Vs,μ1))(h':lM Vs μ1=some (ds,μ2))(hz:ds.length≤sizeLine):n4 fs ρ μ=some (.c μ2.length,μ2++[.live ds]):=(b5 h).trans ((b5 h').trans (if_pos hz))
theorem Wm(h:fh fs ρ μ=some (Vs,μ1))(h':lM Vs μ1=some (ds,μ2))(hz:ds.length≤sizeLine):aU fs ρ μ=some (.d (.list ds),μ2):=(b5 h).trans ((b5 h').trans (if_pos hz))
theorem JU(h:fh fs ρ μ=some (Vs,μ1))(h':lM Vs μ1=some (ds,μ2))(hz:ds.length≤sizeLine):cW fs ρ μ=some (.d (.tuple ds),μ2):=(b5 h).trans ((b5 h').trans (if_pos hz))
theorem J3(hf:f ρ μ=some (.d (.str x),μ1))(ha:fh fs ρ μ1=some (Vs,μ2)):dx f fs spec ρ μ=spec (.d (.str x)::Vs) μ2:=(b5 hf).trans ((bV (rfl:mA (.d (.str x))=some x)).trans (b5 ha))
theorem Cr{ys:List Str}(hf:f ρ μ=some (V,μ))(hp:dc μ V=some xs)(ha:nr xs=some ys)(hz:(ys.map (·.length)).sum+ys.length*x.length≤16777216):dx (kS x) [f] fc ρ μ=some (.d (.str (LA x ys)),μ):=
 (J3 (x:=x) rfl (vX hf)).trans ((b5 (rfl:l2 [.d (.str x),V]=some (.d (.str x),V))).trans ((bV (rfl:mA (.d (.str x))=some x)).trans ((bV hp).trans ((bV ha).trans (if_pos hz)))))
theorem len_str(hz:x.length≤sizeLine):dC [.d (.str x)] μ=some (.d (.int x.length),μ):=(bV (rfl:l1 [AV.d (.str x)]=some _)).trans ((oV (rfl:mA (.d (.str x))=some x) rfl).trans (if_pos hz))
theorem gw(hf:f ρ μ=some (.c j,μ))(hg:g ρ μ=some (.d d,μ))(hc:μ[j]? =some (.live xs))(hz:xs.length≤sizeLine):eg f g ρ μ=some (.d .none,μ.set j (.live (xs++[d]))):=
 (b5 hf).trans ((bV (eP hc)).trans ((b5 hg).trans ((b5 (rfl:vC (.d d) μ=some (d,μ))).trans ((bV hc).trans (if_pos hz)))))
theorem p0(hf:f ρ μ=some (.c j,μ))(hg:g ρ μ=some (.d (.list ys),μ))(hc:μ[j]? =some (.live xs))(hz:xs.length+ys.length≤sizeLine):sk f g ρ μ=some (.d .none,μ.set j (.live (xs++ys))):=
 (b5 hf).trans ((bV (eP hc)).trans ((b5 hg).trans ((bV hc).trans (if_pos hz))))
theorem d9(hf:f ρ μ=some (V,μ))(hp:dc μ V=some xs):aK false f ρ μ=some (xs,F7 V,μ):=
 (b5 hf).trans ((f6 (lP hp).2.2.1).trans ((f6 (lP hp).2.2.2.1).trans ((bV hp).trans (if_pos (.inl rfl)))))
theorem mo(hf:f ρ μ=some (.d (.tuple xs),μ)):aK false f ρ μ=some (xs,none,μ):=b5 hf
theorem B4(hf:f ρ μ=some (V,μ))(hp:dc μ V=some xs)(ht:nK xs=true):aK true f ρ μ=some (xs,F7 V,μ):=
 (b5 hf).trans ((f6 (lP hp).2.2.1).trans ((f6 (lP hp).2.2.2.1).trans ((bV hp).trans (if_pos (.inr ht)))))
theorem nQ{a b:Int}(hf:f ρ μ=some (.rng a b,μ))(hs:KH a b 1=true):aK false f ρ μ=some (fK a (b-a).toNat,none,μ):=
 (b5 hf).trans ((f6 (rfl:GX (.rng a b)=none)).trans ((oV (rfl:XU (.rng a b)=some (a,b)) rfl).trans (if_pos ⟨rfl,hs⟩)))
theorem Cw(hp:dc μ V=some xs)(hz:xs.length≤sizeLine):lY [V] μ=some (.d (.list xs),μ):=
 (bV (rfl:l1 [V]=some V)).trans ((f6 (lP hp).2.2.2.1).trans ((bV hp).trans (if_pos hz)))
theorem U0(h:v8 μ V=some xs):mA V=none:=by
 cases V with
 |d x=>cases x<;>first|exact cv h|rfl
 |_=>rfl
theorem gG(hf:f ρ μ=some (V,μ))(hs:v8 μ V=some xs)(hz:xs.length≤sizeLine):af [f] dC ρ μ=some (.d (.int xs.length),μ):=
 d6 hf ((bV (rfl:l1 [V]=some V)).trans ((f6 (U0 hs)).trans ((bV hs).trans (if_pos hz))))
end
theorem aa(h:n≤100000):n≤sizeLine:=by
 have h24:sizeLine=16777216:=by decide
 lia
section
variable {h:EF} {sf sg:SF} {W:AV}
theorem eB(e:f ρ μ=some (.d .none,μ1)):cj f ρ μ=some (.next,ρ,μ1):=b5 e
theorem V5{i:Int}(e:f ρ μ=some (.d (.int i),μ1)):cj f ρ μ=some (.next,ρ,μ1):=b5 e
theorem TP:MD ρ μ=some (.brk,ρ,μ):=rfl
theorem not_of{b:Bool}(e:t ρ μ=some (b,μ1)):tW t ρ μ=some (!b,μ1):=b5 e
theorem af5{t':TF}(e:t ρ μ=some (true,μ1)):Ke t t' ρ μ=t' ρ μ1:=b5 e
theorem aa8{t':TF}(e:t ρ μ=some (false,μ1)):Ke t t' ρ μ=some (false,μ1):=b5 e
theorem dH{o:AV→AV→List ah→Option Bool}{r:Bool}(e:f ρ μ=some (V,μ1))(e':g ρ μ1=some (W,μ2))(h:o V W μ2=some r):bB f g o ρ μ=some (r,μ2):=(b5 e).trans ((b5 e').trans (bV h))
theorem gZ{o:AV→AV→List ah→Option Bool}{r:Bool}(e:f ρ μ=some (V,μ1))(e':g ρ μ1=some (W,μ2))(h:o V W μ2=some r):dZ f g o ρ μ=some (.d (.bool r),μ2):=(b5 e).trans ((b5 e').trans (bV h))
theorem gM(e:itf ρ μ=some (xs,gg,μ1)):jN itf tf sf sg ρ μ=fX tf sf sg gg xs xs ρ μ1:=b5 e
theorem dP{r:List PyData}{x:PyData}(e:tf ρ x=some ρ1)(e':sf ρ1 μ=some (.next,ρ2,μ2))(hg:cw gg xs μ2):fX tf sf sg gg xs (x::r) ρ μ=fX tf sf sg gg xs r ρ2 μ2:=og.trans ((bV e).trans ((b5 e').trans (if_pos hg)))
theorem rh{r:List PyData}{x:PyData}(e:tf ρ x=some ρ1)(e':sf ρ1 μ=some (.ret V,ρ2,μ2)):fX tf sf sg gg xs (x::r) ρ μ=some (.ret V,ρ2,μ2):=og.trans ((bV e).trans (b5 e'))
theorem Wl{r:List PyData}{x:PyData}(e:tf ρ x=some ρ1)(e':sf ρ1 μ=some (.brk,ρ2,μ2)):fX tf sf sg gg xs (x::r) ρ μ=some (.next,ρ2,μ2):=og.trans ((bV e).trans (b5 e'))
theorem Im:fX tf sf sg gg xs [] ρ μ=sg ρ μ:=rfl
theorem oh{x:Int}(hf:f ρ μ=some (.d (.int x),μ))(hg:g ρ μ=some (.d (.int y),μ)):bB f g dK ρ μ=some (x==y,μ):=dH hf hg rfl
theorem jq(e:e_ sc itf tf cf ρ μ=some (acc,μ1)):ga i sc itf tf cf false ρ μ=some (.next,ρ.set i (some (.d (.list acc))),μ1):=b5 e
theorem Ti(e:e_ sc itf tf cf ρ μ=some (acc,μ1)):ga i sc itf tf cf true ρ μ=some (.next,ρ.set i (some (.c μ1.length)),μ1++[.live acc]):=b5 e
end
theorem gH{sf sg:SF}{b:Bool}(e:t ρ μ=some (b,μ))(h:b=true):jE t sf sg ρ μ=sf ρ μ:=yJ (e.trans (by exact rA h rfl))
theorem gR{sf sg:SF}{b:Bool}(e:t ρ μ=some (b,μ))(h:b=false):jE t sf sg ρ μ=sg ρ μ:=Dp (e.trans (by exact rA h rfl))
inductive Fm where
 |at (i:Nat)
 |bin (par:Bool) (l r:Fm)
def sg(m:List Nat)(i:Nat):Int:=if i<m.getD i 0 then 7 else 8
noncomputable def Fm.pre(m:List Nat):Fm→List Int
 | .at i=>[sg m i]
 | .bin p l r=>(if p then 274 else 272)::(l.pre m++r.pre m)
noncomputable def Fm.pl:Fm→List Nat
 | .at i=>[i]
 | .bin _ l r=>l.pl++r.pl
noncomputable def nL(l:List Nat):List PyData:=l.map λ(i:Nat)=>Fa (i:Int)
noncomputable def Fm.enc(m:List Nat):Fm→PyData
 | .at i=>.tuple [.int (sg m i),.list [.int i]]
 | .bin p l r=>.tuple [.int (if p then 18 else 16),.list (nL (l.pl++r.pl)),l.enc m,r.enc m]
noncomputable def Fm.ht:Fm→Nat
 | .at _=>1
 | .bin _ l r=>max l.ht r.ht+1
inductive Ah:List Int→List Int→List Int→Prop
 |nil (os:List Int):Ah os [] os
 |cons {os os1 os2:List Int} {n:Int} {ns:List Int}:rd os=some (n,os1)→Ah os1 ns os2→Ah os (n::ns) os2
theorem Ah.split:∀ {os os2 a b:List Int},Ah os (a++b) os2→∃os1,Ah os a os1∧Ah os1 b os2
 |os,os2,[],b,h=>(aZ os (.nil _) h)
 |os,os2,n::a,b,h=>by
  cases h with
  |cons e h=>
   refine au (Ah.split (a:=a) h) λos1 h1 h2=>?_;exact (aZ os1 (.cons e h1) h2)
noncomputable def qX(l:List Int):Nat:=(l.filter λx=>decide (x<256)).length
theorem lV(a b:List Int):qX (a++b)=qX a+qX b:=by simp [qX]
theorem gE(m:List Nat)(i:Nat):sg m i=7∨sg m i=8:=by
 unfold sg;split
 ·exact .inl rfl
 ·exact .inr rfl
theorem kA(m:List Nat):∀f:Fm,qX (f.pre m)=f.pl.length
 | .at i=>by
  rcases gE m i with h|h<;>simp [Fm.pre,Fm.pl,qX,h]
 | .bin p l r=>by
  have h:qX ((if p then (274:Int) else 272)::(l.pre m++r.pre m))=qX (l.pre m++r.pre m):=by
   cases p<;>simp [qX]
  simp only [Fm.pre,Fm.pl,be];refine rA h ?_;refine rA (lV _ _) ?_;refine rA (kA m l) ?_;exact rA (kA m r) rfl
theorem En(m:List Nat)(f:Fm):∃a ds,f.enc m=.tuple (a::.list (nL f.pl)::ds):=by
 cases f with
 |«at» i=>exact (jK _ ([]) rfl)
 |bin p l r=>exact (jK _ _ rfl)
theorem qw{F:Fm}(hf:f ρ μ=some (.d (F.enc m),μ)):aF f (kI 1) ρ μ=some (.d (.list (nL F.pl)),μ):=by
 refine lz (En m F) λa ds e=>?_;rw [e] at hf
 refine cI (k:=1) hf rfl (xs:=a::.list (nL F.pl)::ds) rfl (by decide) rfl ?_;cases F with
 |«at» i=>cases e;exact aa (by simp)
 |bin p l r=>cases e;exact aa (by simp)
noncomputable def gW(μ:List ah)(i j:Nat)(os td:List Int):List ah:=(μ.set i (.iter (iL os))).set j (.live (iL td))
section
variable {td os' td':List Int}
theorem Zh(hi:i<μ.length)(hij:i≠j):(gW μ i j os td)[i]? =some (.iter (iL os)):=by
 unfold gW;rw [Lw hij.symm,My hi]
theorem Si(hj:j<μ.length):(gW μ i j os td)[j]? =some (.live (iL td)):=by
 unfold gW;rw [My (by simpa using hj)]
theorem TX(hij:i≠j):(gW μ i j os td).set i (.iter (iL os'))=gW μ i j os' td:=by
 unfold gW;refine rA (Rb _ _ hij.symm) ?_;exact rA (HQ _) rfl
theorem T7:(gW μ i j os td).set j (.live (iL td'))=gW μ i j os td':=by
 unfold gW;exact rA (HQ _) rfl
theorem kM:(gW μ i j os td).length=μ.length:=by simp [gW]
end
noncomputable def oM(i j:Nat)(n l r:Option AV):d5:=[some (.c i),some (.c j),n,l,r]
theorem lR(a b:List Int):iL a++iL b=iL (a++b):=by simp [iL]
theorem UX{b:Bool}(h:f ρ μ=some (.d (.bool b),μ)):gf f ρ μ=some (b,μ):=(b5 h).trans (bV rfl)
theorem Ga{n:Int}(h:a9 k ρ μ=some (.d (.int n),μ)):gf (af [a9 k] fx) ρ μ=some (n==0,μ):=by
 exact UX (d6 h s63)
theorem Ss{n:Int}(h:a9 k ρ μ=some (.d (.int n),μ)):gf (af [a9 k] bQ) ρ μ=some (decide (256≤n),μ):=by
 exact UX (d6 h s62)
theorem aa7{n:Int}(h:a9 k ρ μ=some (.d (.int n),μ)):gf (af [a9 k] co) ρ μ=some (decide (n<256),μ):=by
 exact UX (d6 h s61)
noncomputable def tmD:PyData→Bool
 | .int y=>decide (y<256)
 |_=>false
theorem ME(l:List Int):((iL l).filter tmD).length=qX l:=by
 unfold qX iL;refine rA OG ?_;refine rA (xP _) ?_;rfl
theorem qy{s:a_}{os1 td:List Int}{n:Int}(hi:i<μ.length)(hj:j<μ.length)(hij:i≠j)(h:rd os=some (n,os1))(hz:td.length≤100000):
  ap (vt s) (ap (xK s) (ap (lr s) (ap (oO s) (ap (ti s) aP)))) (cE (ao (ay 68)) [.c i,.c j]) (gW μ i j os td)
   =ap (lr s) (ap (oO s) (ap (ti s) aP)) (oM i j (some (.d (.int n))) none none) (gW μ i j os1 (td++[n])):=by
 have e0:vt s (cE (ao (ay 68)) [.c i,.c j]) (gW μ i j os td)=some (.next,oM i j (some (.d (.int n))) none none,gW μ i j os1 td):=by
  unfold vt;refine rA (bO (d6 (f:=a9 0) (V:=.c i) rfl (s8 (Zh hi hij) h))) ?_;refine rA (TX hij) ?_;rfl
 have e1:xK s (oM i j (some (.d (.int n))) none none) (gW μ i j os1 td)=some (.next,oM i j (some (.d (.int n))) none none,gW μ i j os1 (td++[n])):=by
  unfold xK;refine rA (eB (gw (j:=j) (d:=.int n) (xs:=iL td) rfl rfl (Si hj) (by rw [xP];exact aa hz))) ?_;refine rA (show iL td++[Fa n]=iL (td++[n]) by simp [iL]) ?_;exact rA T7 rfl
 exact (aB e0).trans (aB e1)
set_option tactic.hygienic true in
theorem s68(hi:i<μ.length)(hj:j<μ.length)(hij:i≠j)(m:List Nat):∀ (F:Fm) (k:Nat) (os os' td:List Int),F.ht≤k→Ah os (F.pre m) os'→F.pl=Fh (qX td) F.pl.length→td.length+(F.pre m).length≤1000→
  vJ k [.c i,.c j] (gW μ i j os td)=some (.d (F.enc m),gW μ i j os' (td++F.pre m))
 |F,0,os,os',td,hk,_,_,_=>by cases F<;>simp [Fm.ht] at hk
 | .at p,k+1,os,os',td,hk,h,hp,hz=>by
  cases h with
  |cons e h=>
  cases h;have hz':td.length+1≤1000:=by simpa [Fm.pre] using hz
  have hpp:p=qX td:=by simpa [Fm.pl] using hp
  have hsg:=gE m p;have e2:lr (vJ k) (oM i j (some (.d (.int (sg m p)))) none none) (gW μ i j os' (td++[sg m p]))=some (.next,oM i j (some (.d (.int (sg m p)))) none none,gW μ i j os' (td++[sg m p])):=by
   unfold lr;exact (gR (Ga (n:=sg m p) rfl) (by rcases hsg with q|q<;>rw [q]<;>rfl)).trans bK
  have e3:oO (vJ k) (oM i j (some (.d (.int (sg m p)))) none none) (gW μ i j os' (td++[sg m p]))=some (.next,oM i j (some (.d (.int (sg m p)))) none none,gW μ i j os' (td++[sg m p])):=by
   unfold oO;exact (gR (Ss (n:=sg m p) rfl) (by rcases hsg with q|q<;>rw [q]<;>rfl)).trans bK
  have e4:ti (vJ k) (oM i j (some (.d (.int (sg m p)))) none none) (gW μ i j os' (td++[sg m p]))=some (.ret (.d (.tuple [.int (sg m p),.list [.int p]])),oM i j (some (.d (.int (sg m p)))) none none,gW μ i j os' (td++[sg m p])):=by
   have hpk:dc (gW μ i j os' (td++[sg m p])) (.c j)=some (iL (td++[sg m p])):=eP (Si hj);have hc:=jf (sc:=ux) (itf:=aK false (a9 1)) (t:=gf (af [a9 5] co)) (e:=a9 5) (ρ:=oM i j (some (.d (.int (sg m p)))) none none) (μ:=gW μ i j os' (td++[sg m p])) 5 tmD id (d9 (V:=.c j) rfl hpk) (λj' e=>by refine cA e ?_;exact hpk) (λx hx=>by
    refine au (Dc.mp hx) λy zz zq2=>?_;subst zq2;exact aa7 (n:=y) rfl) (λx zz zz=>rfl) (by refine rA (xP _) ?_;refine rA be ?_;exact aa (by simp;lia))
   have hlen:=gG (f:=ce ux (aK false (a9 1)) (dz 5) (c_ (gf (af [a9 5] co)) (aY (a9 5)))) (bY hc) rfl (by
    refine rA (xP _) ?_;exact aa (L2 (HA ..) (by refine rA (xP _) ?_;refine rA be ?_;simp;lia)))
   have hl2:=cX (o:= λx y=>some (x-y)) hlen (rfl:kI 1 _ _=some (.d (.int 1),_)) rfl;have hn:((((iL (td++[sg m p])).filter tmD).map id).length:Int)-1=p:=by
    have:qX [sg m p]=1:=by rcases hsg with q|q<;>rw [q]<;>rfl
    refine rA (xP _) ?_;refine rA (ME _) ?_;refine rA (lV _ _) ?_;refine rA this ?_;refine rA hpp ?_;lia
   rw [hn] at hl2
   have ht:=d8 (ds:=[.int (sg m p),.list [.int p]]) (an (f:=a9 2) (V:=.d (.int (sg m p))) (ρ:=oM i j (some (.d (.int (sg m p)))) none none) (μ:=gW μ i j os' (td++[sg m p])) rfl (an (jW hl2) bX)) (aa (xM rfl));unfold ti;exact ee ht
  have:f68 (vJ k) (cE (ao (ay 68)) [.c i,.c j]) (gW μ i j os td)=some (.ret (.d (.tuple [.int (sg m p),.list [.int p]])),oM i j (some (.d (.int (sg m p)))) none none,gW μ i j os' (td++[sg m p])):=by
   unfold f68;exact (qy hi hj hij e (by omega)).trans ((aB e2).trans ((aB e3).trans (cV e4)))
  refine (?_:cC 2 _ _ _ _=_);refine rA (d0 (k:=2) rfl this) ?_;refine rA (Fj (by rw [kM,kM];exact Dj _)) ?_;rfl
 | .bin p l r,k+1,os,os',td,hk,h,hp,hz=>by
  have hk':l.ht≤k∧r.ht≤k:=by simp only [Fm.ht] at hk;lia
  cases h with
  |cons e h=>
  rename_i os1;refine au h.split λos2 hl hr=>?_;have hn:(if p then (274:Int) else 272)=274∨(if p then (274:Int) else 272)=272:=by cases p<;>simp
  generalize hN:(if p then (274:Int) else 272)=N at e hn
  simp only [Fm.pre,AH,be,hN] at hz
  have htn:qX (td++[N])=qX td:=by
   refine rA (lV _ _) ?_
   rcases hn with q|q<;>rw [q]<;>rfl
  simp only [Fm.pl,be] at hp
  rw [←List.range'_append] at hp
  refine f_ (Uq hp (by simp)) λhpl hpr=>?_;have il:=s68 hi hj hij m l k _ os2 (td++[N]) hk'.1 hl (by refine rA htn ?_;exact hpl) (by refine rA be ?_;refine rA H0 ?_;lia);have htl:qX (td++[N]++l.pre m)=qX td+l.pl.length:=by refine rA (lV _ _) ?_;refine rA htn ?_;exact rA (kA _ _) rfl
  have ir:=s68 hi hj hij m r k os2 os' (td++[N]++l.pre m) hk'.2 hr (by refine rA htl ?_;simpa using hpr) (by simp only [be,H0];lia);have e2:∀ (μ0:List ah),lr (vJ k) (oM i j (some (.d (.int N))) none none) μ0=some (.next,oM i j (some (.d (.int N))) none none,μ0):= λμ0=>by
   unfold lr;exact (gR (Ga (n:=N) rfl) (by rcases hn with q|q<;>rw [q]<;>rfl)).trans bK
  have hlz:(nL l.pl).length≤1000∧(nL r.pl).length≤1000:=by
   have h1:=kA m l;have h2:=kA m r;have h3:qX (l.pre m)≤(l.pre m).length:=HA ..;have h4:qX (r.pre m)≤(r.pre m).length:=HA ..;simp only [nL,xP];lia
  have hv:(Jy [.int (N-256),.list (nL l.pl++nL r.pl),l.enc m,r.enc m])=(Fm.bin p l r).enc m:=by
   simp only [Fm.enc];refine rA (show N-256=(if p then (18:Int) else 16) by rw [←hN];cases p<;>rfl) ?_;exact rA (show nL (l.pl++r.pl)=nL l.pl++nL r.pl by simp [nL]) rfl
  have e3:oO (vJ k) (oM i j (some (.d (.int N))) none none) (gW μ i j os1 (td++[N]))=some (.ret (.d ((Fm.bin p l r).enc m)),oM i j (some (.d (.int N))) (some (.d (l.enc m))) (some (.d (r.enc m))),gW μ i j os' (td++[N]++l.pre m++r.pre m)):=by
   unfold oO;refine (gH (Ss (n:=N) rfl) (by rcases hn with q|q<;>rw [q]<;>rfl)).trans ?_;have a1:cb 3 (af [a9 0,a9 1] (vJ k)) (oM i j (some (.d (.int N))) none none) (gW μ i j os1 (td++[N]))=some (.next,oM i j (some (.d (.int N))) (some (.d (l.enc m))) none,gW μ i j os2 (td++[N]++l.pre m)):=by
    exact (bO (iN (f:=a9 0) (g:=a9 1) (V:=.c i) (V':=.c j) rfl rfl il)).trans rfl
   have a2:cb 4 (af [a9 0,a9 1] (vJ k)) (oM i j (some (.d (.int N))) (some (.d (l.enc m))) none) (gW μ i j os2 (td++[N]++l.pre m))=some (.next,oM i j (some (.d (.int N))) (some (.d (l.enc m))) (some (.d (r.enc m))),gW μ i j os' (td++[N]++l.pre m++r.pre m)):=by
    exact (bO (iN (f:=a9 0) (g:=a9 1) (V:=.c i) (V':=.c j) rfl rfl ir)).trans rfl
   refine (aB a1).trans ((aB a2).trans ?_);have ht:=d8 (ds:=[.int (N-256),.list (nL l.pl++nL r.pl),l.enc m,r.enc m]) (ρ:=oM i j (some (.d (.int N))) (some (.d (l.enc m))) (some (.d (r.enc m)))) (μ:=gW μ i j os' (td++[N]++l.pre m++r.pre m))
    (an (cX (f:=a9 2) (g:=kI 256) (o:= λx y=>some (x-y)) (x:=N) rfl rfl rfl) (an (cT (qw (f:=a9 3) (F:=l) rfl) (qw (f:=a9 4) (F:=r) rfl) rfl rfl (aa (by lia))) (an (f:=a9 3) (V:=.d (l.enc m)) rfl (an (f:=a9 4) (V:=.d (r.enc m)) rfl bX)))) (aa (xM rfl))
   rw [hv] at ht
   exact cV (ee ht)
  have:f68 (vJ k) (cE (ao (ay 68)) [.c i,.c j]) (gW μ i j os td)=some (.ret (.d ((Fm.bin p l r).enc m)),oM i j (some (.d (.int N))) (some (.d (l.enc m))) (some (.d (r.enc m))),gW μ i j os' (td++[N]++l.pre m++r.pre m)):=by
   unfold f68;exact (qy hi hj hij e (by omega)).trans ((aB (e2 _)).trans (cV e3))
  refine (?_:cC 2 _ _ _ _=_);refine rA (d0 (k:=2) rfl this) ?_;refine rA (Fj (by rw [kM,kM];exact Dj _)) ?_;simp only [Fm.pre,hN,ER,L7,Lr]
variable {F l r : Fm} {B : List Fm} {rc : List Fm → Bool}
structure Jn where
 par:Bool
 nd:Nat
 a:Nat
 b:Nat
def Jn.enc(x:Jn):PyData:=.tuple [.int (if x.par then 18 else 16),.int x.nd,.int x.a,.int x.b]
noncomputable def gr:Fm→Nat→Nat×List Jn
 | .at i,_=>(i,[])
 | .bin p l r,n=>
  let x:=gr l n
  let y:=gr r (n+x.2.length)
  (6+(n+x.2.length+y.2.length),x.2++y.2++[⟨p,6+(n+x.2.length+y.2.length),x.1,y.1⟩])
theorem IT:gr (.at i) n=(i,[]):=rfl
theorem yH{p:Bool}:gr (.bin p l r) n=(6+(n+(gr l n).2.length+(gr r (n+(gr l n).2.length)).2.length),(gr l n).2++(gr r (n+(gr l n).2.length)).2++[⟨p,6+(n+(gr l n).2.length+(gr r (n+(gr l n).2.length)).2.length),(gr l n).1,(gr r (n+(gr l n).2.length)).1⟩]):=rfl
noncomputable def jL(l:List Jn):List PyData:=l.map Jn.enc
noncomputable def rX(F:PyData)(j:Nat)(l r:Option AV):d5:=[some (.d F),some (.c j),l,r]
theorem uB(hc:μ[j]? =some (.live xs)):v8 μ (.c j)=some xs:=eP hc
theorem Vh{J:List Jn}(hk:a9 k ρ μ=some (.c j,μ))(hc:μ[j]? =some (.live (jL J)))(hz:J.length≤1000):af [a9 k] dC ρ μ=some (.d (.int J.length),μ):=by
 have:=gG hk (uB hc) (by rw [jL];refine rA (xP _) ?_;exact aa (by lia))
 refine rA this ?_;rw [jL];exact rA (xP _) rfl
theorem uu(k:Nat)(hf:f ρ μ=some (.d (.tuple xs),μ))(h1:1≤k)(h2:k≤xs.length)(hz:xs.length≤sizeLine):cg f (aL (kI k)) b9 ρ μ=some (.d (.tuple (xs.drop k)),μ):=
 (b5 hf).trans ((b5 (rfl:aL (kI k) ρ μ=some (some (k:Int),μ))).trans ((b5 (rfl:b9 ρ μ=some (none,μ))).trans (if_pos (by lia))))
theorem p7{e:EF}(h:e ρ μ=some (.d d,μ1))(acc:List PyData)(hz:acc.length≤sizeLine):c_ bg (aY e) ρ μ acc=some (ρ,μ1,acc++[d]):=
 (show aY e ρ μ acc=some (ρ,μ1,acc++[d]) from (b5 h).trans ((b5 (rfl:vC (.d d) μ1=some (d,μ1))).trans (if_pos hz)))
theorem s71(m:List Nat):∀ (F:Fm) (k:Nat) (μ:List ah) (J:List Jn),F.ht≤k→μ[j]? =some (.live (jL J))→J.length+(gr F J.length).2.length≤1000→
  Fq k [.d (F.enc m),.c j] μ=some (.d (.int (gr F J.length).1),μ.set j (.live (jL (J++(gr F J.length).2))))
 |F,0,μ,J,hk,_,_=>by cases F<;>simp [Fm.ht] at hk
 | .at p,k+1,μ,J,hk,hc,hz=>by
  have e0:sv (Fq k) (rX ((Fm.at p).enc m) j none none) μ=some (.ret (.d (.int p)),rX ((Fm.at p).enc m) j none none,μ):=by
   have ht:bB (af [a9 0] dC) (kI 2) dK (rX ((Fm.at p).enc m) j none none) μ=some (true,μ):=by
    exact dH (gG (f:=a9 0) (xs:=[.int (sg m p),.list [.int p]]) rfl rfl (aa (xM rfl))) rfl rfl
   have hi:=cI (f:=aF (a9 0) (kI 1)) (g:=kI 0) (k:=0) (xs:=[.int p]) (d:=.int p) (ρ:=rX ((Fm.at p).enc m) j none none) (μ:=μ) (cI (f:=a9 0) (g:=kI 1) (k:=1) (xs:=[.int (sg m p),.list [.int p]]) rfl rfl rfl (by decide) rfl (aa (xM rfl))) rfl rfl (by decide) rfl (aa (xM rfl));unfold sv;exact (yJ ht).trans (cV (ee hi))
  have:f71 (Fq k) (cE (ao (ay 71)) [.d ((Fm.at p).enc m),.c j]) μ=some (.ret (.d (.int p)),rX ((Fm.at p).enc m) j none none,μ):=by
   unfold f71;exact cV e0
  refine (?_:cC 2 _ _ _ _=_);refine rA (d0 (k:=2) rfl this) ?_;refine rA (Fj (Dj _)) ?_;simp only [IT,D8];exact rA (eF hc) rfl
 | .bin p l r,k+1,μ,J,hk,hc,hz=>by
  have hk':l.ht≤k∧r.ht≤k:=by simp only [Fm.ht] at hk;lia
  have hlt:j<μ.length:=(AX.mp hc).1;simp only [yH,be,H0] at hz
  generalize hx:gr l J.length=x at hz
  generalize hy:gr r (J.length+x.2.length)=y at hz
  have il:=s71 m l k μ J hk'.1 hc (by refine rA hx ?_;lia);rw [hx] at il
  have ir:=s71 m r k (μ.set j (.live (jL (J++x.2)))) (J++x.2) hk'.2 (cB hlt) (by refine rA be ?_;refine rA hy ?_;lia);rw [be,hy,HQ] at ir
  have e0:sv (Fq k) (rX ((Fm.bin p l r).enc m) j none none) μ=some (.next,rX ((Fm.bin p l r).enc m) j none none,μ):=by
   have ht:bB (af [a9 0] dC) (kI 2) dK (rX ((Fm.bin p l r).enc m) j none none) μ=some (false,μ):=by
    exact dH (gG (f:=a9 0) (xs:=[.int (if p then 18 else 16),.list (nL (l.pl++r.pl)),l.enc m,r.enc m]) rfl rfl (aa (xM rfl))) rfl rfl
   unfold sv;exact (Dp ht).trans bK
  have e1:Fx (Fq k) (rX ((Fm.bin p l r).enc m) j none none) μ=some (.next,rX ((Fm.bin p l r).enc m) j (some (.d (.int x.1))) (some (.d (.int y.1))),μ.set j (.live (jL (J++x.2++y.2)))):=by
   have hs:aK false (cg (a9 0) (aL (kI 2)) b9) (rX ((Fm.bin p l r).enc m) j none none) μ=some ([l.enc m,r.enc m],none,μ):=
    mo (uu (xs:=[.int (if p then 18 else 16),.list (nL (l.pl++r.pl)),l.enc m,r.enc m]) 2 rfl (by decide) (by simp) (aa (xM rfl)))
   have c1:=p7 (iN (f:=a9 4) (g:=a9 1) (V:=.d (l.enc m)) (V':=.c j) (ρ:=(bG qx (rX ((Fm.bin p l r).enc m) j none none)).set 4 (some (.d (l.enc m)))) rfl rfl il) [] (aa (xM rfl));have c2:=p7 (iN (f:=a9 4) (g:=a9 1) (V:=.d (r.enc m)) (V':=.c j) (ρ:=((bG qx (rX ((Fm.bin p l r).enc m) j none none)).set 4 (some (.d (l.enc m)))).set 4 (some (.d (r.enc m)))) rfl rfl ir) ([]++[.int x.1]) (aa (xM rfl));have hc:e_ qx (aK false (cg (a9 0) (aL (kI 2)) b9)) (dz 4) (c_ bg (aY (af [a9 4,a9 1] (Fq k)))) (rX ((Fm.bin p l r).enc m) j none none) μ=some ([.int x.1,.int y.1],μ.set j (.live (jL (J++x.2++y.2)))):=by
    exact ql hs ((pq rfl c1 (az _ _)).trans (pq rfl c2 (az _ _)))
   exact TL (bY hc)
  have hJ:(μ.set j (.live (jL (J++x.2++y.2))))[j]? =some (.live (jL (J++x.2++y.2))):=cB hlt;have hjl:(J++x.2++y.2).length≤1000:=by simp only [be];lia
  have hnd:(6:Int)+((J++x.2++y.2).length:Nat)=((6+(J.length+x.2.length+y.2.length):Nat):Int):=by simp only [be];push_cast;lia
  have e2:Cy (Fq k) (rX ((Fm.bin p l r).enc m) j (some (.d (.int x.1))) (some (.d (.int y.1)))) (μ.set j (.live (jL (J++x.2++y.2))))=some (.next,rX ((Fm.bin p l r).enc m) j (some (.d (.int x.1))) (some (.d (.int y.1))),
    μ.set j (.live (jL (J++(x.2++y.2++[⟨p,6+(J.length+x.2.length+y.2.length),x.1,y.1⟩]))))):=by
   have ht:=d8 (ds:=[.int (if p then 18 else 16),.int (6+((J++x.2++y.2).length:Nat)),.int x.1,.int y.1]) (ρ:=rX ((Fm.bin p l r).enc m) j (some (.d (.int x.1))) (some (.d (.int y.1)))) (μ:=μ.set j (.live (jL (J++x.2++y.2))))
    (an (cI (f:=a9 0) (g:=kI 0) (k:=0) (xs:=[.int (if p then 18 else 16),.list (nL (l.pl++r.pl)),l.enc m,r.enc m]) rfl rfl rfl (by decide) rfl (aa (xM rfl))) (an (cU (f:=kI 6) rfl (Vh (k:=1) rfl hJ hjl)) (an (f:=a9 2) (V:=.d (.int x.1)) rfl (an (f:=a9 3) (V:=.d (.int y.1)) rfl bX)))) (aa (xM rfl))
   unfold Cy;refine rA (eB (gw (f:=a9 1) (j:=j) rfl ht hJ (by rw [jL,xP];exact aa (by omega)))) ?_;refine rA (HQ _) ?_;refine rA hnd ?_
   simp [jL,Jn.enc]
  have hJ2:(μ.set j (.live (jL (J++(x.2++y.2++[⟨p,6+(J.length+x.2.length+y.2.length),x.1,y.1⟩])))))[j]? =some (.live (jL (J++(x.2++y.2++[⟨p,6+(J.length+x.2.length+y.2.length),x.1,y.1⟩])))):=cB hlt;have e3:Kh (Fq k) (rX ((Fm.bin p l r).enc m) j (some (.d (.int x.1))) (some (.d (.int y.1)))) (μ.set j (.live (jL (J++(x.2++y.2++[⟨p,6+(J.length+x.2.length+y.2.length),x.1,y.1⟩])))))=some (.ret (.d (.int ((6+(J.length+x.2.length+y.2.length):Nat):Int))),rX ((Fm.bin p l r).enc m) j (some (.d (.int x.1))) (some (.d (.int y.1))),
    μ.set j (.live (jL (J++(x.2++y.2++[⟨p,6+(J.length+x.2.length+y.2.length),x.1,y.1⟩]))))):=by
   have h5:=cU (f:=kI 5) (x:=5) (ρ:=rX ((Fm.bin p l r).enc m) j (some (.d (.int x.1))) (some (.d (.int y.1)))) rfl (Vh (k:=1) rfl hJ2 (by simp only [be,H0];lia));exact (ee h5).trans (congrArg (λz=>some (Fl.ret (.d (.int z)),_,_)) (show (5:Int)+((J++(x.2++y.2++[(⟨p,6+(J.length+x.2.length+y.2.length),x.1,y.1⟩:Jn)])).length:Nat)=((6+(J.length+x.2.length+y.2.length):Nat):Int) by simp only [be,H0];push_cast;lia))
  have:f71 (Fq k) (cE (ao (ay 71)) [.d ((Fm.bin p l r).enc m),.c j]) μ=some (.ret (.d (.int ((6+(J.length+x.2.length+y.2.length):Nat):Int))),rX ((Fm.bin p l r).enc m) j (some (.d (.int x.1))) (some (.d (.int y.1))),
    μ.set j (.live (jL (J++(x.2++y.2++[⟨p,6+(J.length+x.2.length+y.2.length),x.1,y.1⟩]))))):=by
   exact (aB e0).trans ((aB e1).trans ((aB e2).trans (cV e3)))
  refine (?_:cC 2 _ _ _ _=_);refine rA (d0 (k:=2) rfl this) ?_;refine rA (Fj (by simp)) ?_;simp only [yH,hx,hy]
variable {J S : List Jn}
noncomputable def di:List Nat→List (Nat×Nat)→List Nat
 |ls,[]=>ls
 |ls,(a,b)::r=>if ls.getD a 0=ls.getD b 0 then [] else di (ls.map λx=>if x=ls.getD b 0 then ls.getD a 0 else x) r
theorem BC{l:List Nat}{a:Nat}{r:List (Nat×Nat)}:di l ((a,b)::r)=if l.getD a 0=l.getD b 0 then [] else di (l.map λx=>if x=l.getD b 0 then l.getD a 0 else x) r:=rfl
noncomputable def eL(es:List (Nat×Nat)):List PyData:=es.map λp=>.tuple [.int p.1,.int p.2]
noncomputable def wj(ls:List Nat)(E:List PyData)(o t:Option AV):d5:=[some (.d (.list (nL ls))),some (.d (.list E)),o,t]
theorem uf{a:Nat}(h:a<ls.length):(nL ls)[a]? =some (.int (ls.getD a 0)):=by
 simp [nL,GW,Fu h]
theorem B9{a:Nat}(hf:f ρ μ=some (.d (.list (nL ls)),μ))(hg:g ρ μ=some (.d (.int a),μ))(h:a<ls.length)(hz:ls.length≤1000):aF f g ρ μ=some (.d (.int (ls.getD a 0)),μ):=
 cI hf hg rfl (by lia) (by simpa using uf h) (by rw [nL];refine rA (xP _) ?_;exact aa (by lia))
abbrev uV:SF:=(ap (jE (bB (aF (a9 0) (a9 2)) (aF (a9 0) (a9 3)) dK) (ap (fe (aU [])) aP) aP) (ap (cb 0 (ce qA (aK false (a9 0)) (dz 4) (c_ bg (aY (dw (bB (a9 4) (aF (a9 0) (a9 3)) dK) (aF (a9 0) (a9 2)) (a9 4)))))) aP))
noncomputable def MA(u v:Int):PyData→PyData
 | .int y=>.int (if y=u then v else y)
 |x=>x
theorem Jc{u v:Int}:MA u v (.int y)=.int (if y=u then v else y):=rfl
theorem QO{E:List PyData}{a:Nat}(h:a<ls.length)(hz:ls.length≤1000):aF (a9 0) (a9 2) (wj ls E (some (.d (.int a))) (some (.d (.int b)))) μ=some (.d (.int (ls.getD a 0)),μ):=B9 rfl rfl h hz
theorem Q5{E:List PyData}{a:Nat}(h:b<ls.length)(hz:ls.length≤1000):aF (a9 0) (a9 3) (wj ls E (some (.d (.int a))) (some (.d (.int b)))) μ=some (.d (.int (ls.getD b 0)),μ):=B9 rfl rfl h hz
noncomputable def Hl(ls:List Nat)(E:List PyData)(a b:Nat)(y:Int):d5:=[some (.d (.list (nL ls))),some (.d (.list E)),some (.d (.int a)),some (.d (.int b)),some (.d (.int y))]
theorem TD{E:List PyData}{a:Nat}(h:a<ls.length)(hz:ls.length≤1000):aF (a9 0) (a9 2) (Hl ls E a b y) μ=some (.d (.int (ls.getD a 0)),μ):=B9 rfl rfl h hz
theorem Vd{E:List PyData}{a:Nat}(h:b<ls.length)(hz:ls.length≤1000):aF (a9 0) (a9 3) (Hl ls E a b y) μ=some (.d (.int (ls.getD b 0)),μ):=B9 rfl rfl h hz
theorem Ds{E:List PyData}{a:Nat}(ha:a<ls.length)(hb:b<ls.length)(hz:ls.length≤1000)(q:ls.getD a 0=ls.getD b 0):
  uV (wj ls E (some (.d (.int a))) (some (.d (.int b)))) μ=some (.ret (.d (.list [])),wj ls E (some (.d (.int a))) (some (.d (.int b))),μ):=by
 have hcmp:=oh (QO (E:=E) (b:=b) (μ:=μ) ha hz) (Q5 hb hz);rw [q,beq_self_eq_true] at hcmp
 exact cV ((yJ hcmp).trans (cV (ee tL)))
theorem Yv{E:List PyData}{a:Nat}(ha:a<ls.length)(hb:b<ls.length)(hz:ls.length≤1000):dw (bB (a9 4) (aF (a9 0) (a9 3)) dK) (aF (a9 0) (a9 2)) (a9 4) (Hl ls E a b y) μ=some (.d (MA (ls.getD b 0) (ls.getD a 0) (.int y)),μ):=by
 have k3:bB (a9 4) (aF (a9 0) (a9 3)) dK (Hl ls E a b y) μ=some (y==(ls.getD b 0:Int),μ):=oh rfl (Vd hb hz);have k4:a9 4 (Hl ls E a b y) μ=some (.d (.int y),μ):=rfl
 by_cases z:y=(ls.getD b 0:Int)
 ·rw [show (y==(ls.getD b 0:Int))=true from beq_iff_eq.mpr z] at k3
  refine rA (xr k3) ?_;refine rA (TD ha hz) ?_;refine rA Jc ?_;exact rA (if_pos z) rfl
 ·rw [show (y==(ls.getD b 0:Int))=false from beq_eq_false_iff_ne.mpr z] at k3
  refine rA (sT k3) ?_;refine rA k4 ?_;refine rA Jc ?_;exact rA (if_neg z) rfl
theorem ZK(ls:List Nat)(u v:Nat):(nL ls).map (MA u v)=nL (ls.map λx=>if x=u then v else x):=by
 simp only [nL,E_];refine GN λy zz=>?_;refine (?_:Fa (if (y:Int)=(u:Int) then (v:Int) else (y:Int))=Fa ((if y=u then v else y:Nat):Int))
 by_cases z:y=u
 ·refine rA (if_pos z) ?_;exact rA (if_pos (by rw [z])) rfl
 ·refine rA (if_neg z) ?_;exact rA (if_neg (λq=>z (by exact_mod_cast q))) rfl
theorem E7{E:List PyData}{a:Nat}(ha:a<ls.length)(hb:b<ls.length)(hz:ls.length≤1000)(q:¬ls.getD a 0=ls.getD b 0):
  uV (wj ls E (some (.d (.int a))) (some (.d (.int b)))) μ=some (.next,wj (ls.map λx=>if x=ls.getD b 0 then ls.getD a 0 else x) E (some (.d (.int a))) (some (.d (.int b))),μ):=by
 have hcmp:=oh (QO (E:=E) (b:=b) (μ:=μ) ha hz) (Q5 hb hz);rw [show ((ls.getD a 0:Int)==(ls.getD b 0:Int))=false from beq_eq_false_iff_ne.mpr λz=>q (by exact_mod_cast z)] at hcmp
 have hi:aK false (a9 0) (wj ls E (some (.d (.int a))) (some (.d (.int b)))) μ=some (nL ls,none,μ):=d9 (V:=.d (.list (nL ls))) rfl rfl;have hc:=iC (sc:=qA) (e:=dw (bB (a9 4) (aF (a9 0) (a9 3)) dK) (aF (a9 0) (a9 2)) (a9 4)) 4 (MA (ls.getD b 0) (ls.getD a 0)) hi (az _ _) (λx hx=>by
  refine au (Dc.mp hx) λy zz zq2=>?_;subst zq2;exact Yv ha hb hz) (by rw [nL];refine rA (xP _) ?_;exact aa (by lia))
 rw [ZK] at hc
 have hd:=bY hc;have ha:cb 0 (ce qA (aK false (a9 0)) (dz 4) (c_ bg (aY (dw (bB (a9 4) (aF (a9 0) (a9 3)) dK) (aF (a9 0) (a9 2)) (a9 4))))) (wj ls E (some (.d (.int a))) (some (.d (.int b)))) μ=some (.next,wj (ls.map λx=>if x=ls.getD b 0 then ls.getD a 0 else x) E (some (.d (.int a))) (some (.d (.int b))),μ):=by
  exact bO hd
 exact (aB ((Dp hcmp).trans bK)).trans ((aB ha).trans bK)
theorem QY(E:List PyData)(xs:List PyData)(μ:List ah):∀ (es:List (Nat×Nat)) (ls:List Nat) (o t:Option AV),ls.length≤1000→(∀p∈es,p.1<ls.length∧p.2<ls.length)→
  ∃ρ',ap (fX (jh 2 3) uV aP none xs (eL es)) (ap Jw aP) (wj ls E o t) μ=some (.ret (.d (.list (nL (di ls es)))),ρ',μ)
 | [],ls,o,t,hz,_=>⟨_,rfl⟩
 | (a,b)::es,ls,o,t,hz,hp=>by
  refine f_ (hp (a,b) (by simp)) λha hb=>?_;have htf:jh 2 3 (wj ls E o t) (.tuple [.int a,.int b])=some (wj ls E (some (.d (.int a))) (some (.d (.int b)))):=rfl
  by_cases q:ls.getD a 0=ls.getD b 0
  ·refine ⟨wj ls E (some (.d (.int a))) (some (.d (.int b))),?_⟩
   refine rA BC ?_;refine rA (if_pos q) ?_;exact cV (rh htf (Ds ha hb hz q))
  ·refine bP (QY E xs μ es (ls.map λx=>if x=ls.getD b 0 then ls.getD a 0 else x) (some (.d (.int a))) (some (.d (.int b))) (by simpa using hz) (λp hp'=>by simpa using hp p (CQ _ hp'))) λρ' ih=>?_
   refine ⟨ρ',?_⟩;refine rA BC ?_;refine rA (if_neg q) ?_;refine rB ih ?_;rw [ap,ap];refine rA (show eL ((a,b)::es)=.tuple [.int a,.int b]::eL es from rfl) ?_;rw [dP htf (E7 ha hb hz q) (az _ _)]
theorem s72{es:List (Nat×Nat)}(hz:ls.length≤1000)(hp:∀p∈es,p.1<ls.length∧p.2<ls.length):df [.d (.list (nL ls)),.d (.list (eL es))] μ=some (.d (.list (nL (di ls es))),μ):=by
 refine bP (QY (eL es) (eL es) μ es ls none none hz hp) λρ' h=>?_;have hi:aK true (a9 1) (wj ls (eL es) none none) μ=some (eL es,none,μ):=B4 (V:=.d (.list (eL es))) rfl rfl (rl λzz=>⟨_,rfl⟩)
 have:f72 (cE (ao (ay 72)) [.d (.list (nL ls)),.d (.list (eL es))]) μ=some (.ret (.d (.list (nL (di ls es)))),ρ',μ):=by
  refine rB h ?_;refine rA (show cE (ao (ay 72)) [.d (.list (nL ls)),.d (.list (eL es))]=wj ls (eL es) none none from rfl) ?_;unfold f72;rw [ap,ap]
  have:AS (wj ls (eL es) none none) μ=fX (jh 2 3) uV aP none (eL es) (eL es) (wj ls (eL es) none none) μ:=by
   unfold AS jN;exact rA hi rfl
  exact rA this rfl
 unfold df;refine rA (d0 (k:=2) rfl this) ?_;exact rA (Fj (Dj _)) rfl
theorem Qu(hij:i≠j)(ρ0:d5)(u v:Option AV):Zv (jh i j) ρ0 ((ρ0.set i u).set j v):= λy=>by
 refine congrArg (bp ((dT y).bind l2)) (funext λa=>funext λb=>?_);rw [Rb _ _ hij.symm,HQ,HQ]
theorem fJ{X Y:Type}(f:X→Y)(l:List X):l.flatMap (λx=>[f x])=l.map f:=by
 induction l with
 |nil=>rfl
 |cons x l ih=>refine rA Ft ?_;refine rA ih ?_;rfl
theorem Bm{X Y:Type}(p:X→Bool)(f:X→Y)(l:List X):l.flatMap (λx=>if p x then [f x] else [])=(l.filter p).map f:=by
 induction l with
 |nil=>rfl
 |cons x l ih=>
  refine rA Ft ?_;refine rA ih ?_;refine rA KP ?_
  split<;>simp
theorem sN{e:EF}{g:Option Nat}(i j:Nat)(hij:i≠j)(f:PyData→PyData)(hi:itf ρ μ=some (xs,g,μ1))(hg:cw g xs μ1)
  (h:∀x∈xs,∃a b,x=.tuple [a,b]∧e (((bG sc ρ).set i (some (.d a))).set j (some (.d b))) μ1=some (.d (f x),μ1)) (hz:xs.length≤sizeLine):e_ sc itf (jh i j) (c_ bg (aY e)) ρ μ=some (xs.map f,μ1):=by
 have:=ms (sc:=sc) (tf:=jh i j) (cf:=c_ bg (aY e)) hi hg (λx=>[f x]) (λx hx acc=>by
  refine kc (h x hx) λa b zq2 he=>?_;subst zq2;exact (dy _ _ rfl (λhz=>ph he acc (by simpa using hz)) (Qu hij _ _ _))) (by refine rA (fJ _ _) ?_;refine rA (xP _) ?_;exact hz)
 refine rA this ?_;exact rA (fJ _ _) rfl
theorem pM{e:EF}{g:Option Nat}(i j:Nat)(hij:i≠j)(p:PyData→Bool)(f:PyData→PyData)(hi:itf ρ μ=some (xs,g,μ1))(hg:cw g xs μ1)
  (h:∀x∈xs,∃a b,x=.tuple [a,b]∧t (((bG sc ρ).set i (some (.d a))).set j (some (.d b))) μ1=some (p x,μ1)∧(p x=true→e (((bG sc ρ).set i (some (.d a))).set j (some (.d b))) μ1=some (.d (f x),μ1))) (hz:xs.length≤sizeLine):e_ sc itf (jh i j) (c_ t (aY e)) ρ μ=some ((xs.filter p).map f,μ1):=by
 have:=ms (sc:=sc) (tf:=jh i j) (cf:=c_ t (aY e)) hi hg (λx=>if p x then [f x] else []) (λx hx acc=>by
  refine bm (h x hx) λa b zq2 ht he=>?_;subst zq2;exact (dy _ _ rfl (λhz=>Cs ht he acc hz) (Qu hij _ _ _))) (by
   refine rA (Bm _ _ _) ?_;refine rA (xP _) ?_;exact L2 (HA ..) hz)
 refine rA this ?_;exact rA (Bm _ _ _) rfl
theorem jZ(hf:f ρ μ=some (V,μ))(h:vC V μ=some (.list xs,μ1)):c9 [f] g9 ρ μ=some (cN 0 xs,none,μ1):=by
 exact (b5 (vX hf)).trans ((bV (rfl:l1 [V]=some V)).trans (b5 h))
theorem fk{x:Int}(h:y≠0):cu x y=some (x.fmod y):=if_neg h
theorem k_{x:Int}(h:¬(y=0∨2^64≤y.natAbs)):cP x y=some (x.fdiv y):=if_neg h
theorem AE(hf:f ρ μ=some (.d (.list xs),μ))(hg:g ρ μ=some (.d (.int y),μ))(h:xs.length*y.toNat≤16777216∧y.natAbs<9223372036854775808):aj f g la ρ μ=some (.d (.list (n6 xs y.toNat)),μ):=by
 have e24:(2:Nat)^24=16777216:=by decide
 have e63:(2:Nat)^63=9223372036854775808:=by decide
 exact rk hf hg ((bV (rfl:jM (.d (.int y))=some y)).trans ((f6 (rfl:jM (.d (.list xs))=none)).trans ((bV (rfl:dc μ (.d (.list xs))=some xs)).trans (if_pos (by rw [e24,e63];exact h)))))
noncomputable def qv(n:Int):List Int:=(([5,4,3,2,1]:List Int).filter λh=>decide (64^h.toNat≤n)).map (λh=>(n.fdiv (64^h.toNat)).fmod 64+64)++[n.fmod 64]
noncomputable def yj(cs:List Int)(k:Nat):Nat:=(((cs.getD (k%6) 0).fdiv 420).fmod 3).toNat
noncomputable def gn(cs:List Int):Nat→List Int→List Int
 |_,[]=>[]
 |k,n::ns=>(Hp (yj cs k) 64++qv n)++gn cs (k+1) ns
noncomputable def rS(ns cs:List Int)(T:Int)(j:Nat)(a b:Option AV):d5:=[some (.d (.list (iL ns))),some (.d (.list (iL cs))),some (.d (.int T)),some (.c j),a,b]
theorem QZ(h:Int)(hh:h∈([5,4,3,2,1]:List Int)):gk 64 h=some (64^h.toNat)∧¬((64:Int)^h.toNat=0∨2^64≤((64:Int)^h.toNat).natAbs):=by
 simp only [Cp,Ew,or_false] at hh
 rcases hh with rfl|rfl|rfl|rfl|rfl<;>exact ⟨by decide,by decide⟩
theorem Sd:∀k:Nat,n6 [.int 64] k=iL (Hp k 64)
 |0=>rfl
 |k+1=>by rw [n6];refine rA (Sd k) ?_;rfl
abbrev aa5:EF:=aj (aU [kI 64]) (aj (aj (aF (a9 1) (aj (a9 4) (kI 6) (aS cu))) (kI 420) (aS cP)) (kI 3) (aS cu)) la
abbrev Z6:TF:=bB (a9 5) (aj (kI 64) (a9 6) (aS gk)) (ef λx y=>decide (y≤x))
abbrev ab5:EF:=aj (aj (aj (a9 5) (aj (kI 64) (a9 6) (aS gk)) (aS cP)) (kI 64) (aS cu)) (kI 64) aT
abbrev Z3:EF:=aj (ce qz (aK false (aU [(kI 5),(kI 4),(kI 3),(kI 2),(kI 1)])) (dz 6) (c_ Z6 (aY ab5))) (aU [(aj (a9 5) (kI 64) (aS cu))]) aT
theorem W6{T:Int}{b:Option AV}(hc:cs.length=6):aa5 (rS ns cs T j (some (.d (.int k))) b) μ=some (.d (.list (iL (Hp (yj cs k) 64))),μ):=by
 have h6:k%6<cs.length:=by lia
 have hm:((k:Int).fmod 6)=((k%6:Nat):Int):=by refine rA (Int.fmod_eq_emod_of_nonneg _ (by decide)) ?_;rfl
 have e1:aj (a9 4) (kI 6) (aS cu) (rS ns cs T j (some (.d (.int k))) b) μ=some (.d (.int ((k%6:Nat):Int)),μ):=by
  refine rB hm ?_;exact cX (f:=a9 4) (x:=k) rfl rfl (fk (by decide))
 have e2:aF (a9 1) (aj (a9 4) (kI 6) (aS cu)) (rS ns cs T j (some (.d (.int k))) b) μ=some (.d (.int (cs.getD (k%6) 0)),μ):=
  cI (f:=a9 1) (V:=.d (.list (iL cs))) rfl e1 rfl (by lia) (by refine rA (Fs _) ?_;simp [iL,Fu h6]) (by refine rA (xP _) ?_;exact aa (by lia))
 have e3:=cX (cX e2 (rfl:kI 420 _ _=some (.d (.int 420),_)) (k_ (by decide))) (rfl:kI 3 _ _=some (.d (.int 3),_)) (fk (by decide));have h0:0≤((cs.getD (k%6) 0).fdiv 420).fmod 3:=Fp _ (by decide);have h3:((cs.getD (k%6) 0).fdiv 420).fmod 3<3:=Ip _ (by decide)
 have:=AE (f:=aU [kI 64]) (xs:=[.int 64]) (jW rfl) e3 ⟨by simp only [H0];lia,by lia⟩
 rw [Sd] at this
 exact this
noncomputable def Yy(n:Int):PyData→Bool
 | .int h=>decide (64^h.toNat≤n)
 |_=>false
noncomputable def aq5(n:Int):PyData→PyData
 | .int h=>.int ((n.fdiv (64^h.toNat)).fmod 64+64)
 |x=>x
theorem SQ{T n:Int}{a:Option AV}:Z3 (rS ns cs T j a (some (.d (.int n)))) μ=some (.d (.list (iL (qv n))),μ):=by
 have hi:aK false (aU [(kI 5),(kI 4),(kI 3),(kI 2),(kI 1)]) (rS ns cs T j a (some (.d (.int n)))) μ=some (iL [5,4,3,2,1],none,μ):=
  d9 (V:=.d (.list (iL [5,4,3,2,1]))) (dJ (ds:=[.int 5,.int 4,.int 3,.int 2,.int 1]) rfl (aa (xM rfl))) rfl
 have hpw:∀h∈([5,4,3,2,1]:List Int),aj (kI 64) (a9 6) (aS gk) ((bG qz (rS ns cs T j a (some (.d (.int n))))).set 6 (some (.d (.int h)))) μ=some (.d (.int (64^h.toNat)),μ):= λh hh=>cX (f:=kI 64) (g:=a9 6) (x:=64) (y:=h) rfl rfl (QZ h hh).1;have hc:=jf (sc:=qz) (t:=Z6) (e:=ab5) 6 (Yy n) (aq5 n) hi (az _ _) (λx hx=>by
  refine au (Dc.mp hx) λh hh zq2=>?_;subst zq2;exact dH (f:=a9 5) (V:=.d (.int n)) rfl (hpw h hh) rfl) (λx hx zz=>by
  refine au (Dc.mp hx) λh hh zq2=>?_;subst zq2;exact cU (cX (cX (f:=a9 5) (x:=n) rfl (hpw h hh) (k_ (QZ h hh).2)) (rfl:kI 64 _ _=some (.d (.int 64),_)) (fk (by decide))) rfl) (by refine rA (xP _) ?_;exact aa (by simp))
 have hd:=bY hc;have hl:=jW (cX (f:=a9 5) (g:=kI 64) (o:=cu) (ρ:=rS ns cs T j a (some (.d (.int n)))) (μ:=μ) (x:=n) (y:=64) rfl rfl (fk (by decide)))
 have:=cT hd hl rfl rfl (aa (by
  refine rA (xP _) ?_
  have:=HA (Yy n) (iL [5,4,3,2,1])
  simp only [xP,AH,EZ] at this⊢
  lia))
 refine this.trans ?_;refine congrArg (λl=>some (AV.d (.list l),μ)) ?_;unfold iL qv;rw [JV,OG,E_,E_];rfl
abbrev SL:SF:=(ap (cj (sk (a9 3) aa5)) (ap (cj (sk (a9 3) Z3)) aP))
theorem rO(n:Int):(qv n).length≤6:=by
 unfold qv;rw [be,xP]
 have:=HA (λh:Int=>decide (64^h.toNat≤n)) [5,4,3,2,1]
 simp only [AH,EZ] at this⊢
 lia
theorem pC(cs:List Int)(k:Nat):yj cs k≤2:=by
 unfold yj;have h0:0≤((cs.getD (k%6) 0).fdiv 420).fmod 3:=Fp _ (by decide);have h3:((cs.getD (k%6) 0).fdiv 420).fmod 3<3:=Ip _ (by decide);lia
theorem vI(cs:List Int):∀ (ns:List Int) (k:Nat),(gn cs k ns).length≤8*ns.length
 | [],k=>by simp [gn]
 |n::ns,k=>by
  have:=vI cs ns (k+1)
  have:=rO n
  have:=pC cs k
  simp only [gn,be,Lq,AH];lia
theorem Ql{nn:List Int}{T:Int}(hc:cs.length=6):∀ (ns:List Int) (k:Nat) (acc:List Int) (a b:Option AV) (μ:List ah),μ[j]? =some (.live (iL acc))→acc.length+8*ns.length≤10000→
  ∃a' b',fX (jh 4 5) SL aP none xs (cN k (iL ns)) (rS nn cs T j a b) μ=some (.next,rS nn cs T j a' b',μ.set j (.live (iL (acc++gn cs k ns))))
 | [],k,acc,a,b,μ,hm,_=>(jK a b (by
  refine rA (show cN k (iL [])=[] from rfl) ?_;refine rA Im ?_;rw [gn];refine rA (D8 _) ?_;refine rA (eF hm) ?_;rfl))
 |n::ns,k,acc,a,b,μ,hm,hz=>by
  have hlt:j<μ.length:=(AX.mp hm).1;have hd:=rO n;have hp:=pC cs k;simp only [AH] at hz
  have e1:=eB (p0 (f:=a9 3) (j:=j) rfl (W6 (ns:=nn) (T:=T) (j:=j) (k:=k) (b:=some (.d (.int n))) (μ:=μ) hc) hm (by simp only [xP,Lq];exact aa (by lia)));rw [lR] at e1
  have e2:=eB (p0 (f:=a9 3) (j:=j) rfl (SQ (ns:=nn) (cs:=cs) (T:=T) (n:=n) (j:=j) (a:=some (.d (.int k))) (μ:=μ.set j (.live (iL (acc++Hp (yj cs k) 64))))) (cB hlt) (by simp only [xP,be,Lq];exact aa (by lia)));rw [lR,HQ] at e2
  obtain ⟨a',b',ih⟩:=Ql hc ns (k+1) (acc++Hp (yj cs k) 64++qv n) (some (.d (.int k))) (some (.d (.int n))) (μ.set j (.live (iL (acc++Hp (yj cs k) 64++qv n)))) (cB hlt) (by simp only [be,Lq];lia);refine (jK a' b' ?_);rw [HQ] at ih
  refine rA (show cN k (iL (n::ns))=.tuple [.int k,.int n]::cN (k+1) (iL ns) from rfl) ?_;refine rA (dP (ρ1:=rS nn cs T j (some (.d (.int k))) (some (.d (.int n)))) rfl ((aB e1).trans ((aB e2).trans bK)) (az _ _)) ?_;refine rA ih ?_;rw [gn];simp only [ER]
noncomputable def mk(T:Int):Nat→List Int→List Int
 |_,[]=>[]
 |p,o::r=>(if ((p:Int)+T).fmod 3=0 then o+128 else o)::mk T (p+1) r
noncomputable def mkF(T:Int):PyData→PyData
 | .tuple [.int p,.int o]=>.int (if (p+T).fmod 3=0 then o+128 else o)
 |x=>x
theorem RC(T p o:Int):mkF T (.tuple [.int p,.int o])=.int (if (p+T).fmod 3=0 then o+128 else o):=rfl
theorem KQ(T:Int):∀ (l:List Int) (k:Nat),(cN k (iL l)).map (mkF T)=iL (mk T k l)
 | [],k=>rfl
 |o::l,k=>by
  refine rA (show cN k (iL (o::l))=.tuple [.int k,.int o]::cN (k+1) (iL l) from rfl) ?_;refine rA F9 ?_;refine rA (KQ T l (k+1)) ?_;rfl
theorem mV:∀ (l:List Int) (k:Nat) {x:PyData},x∈cN k (iL l)→∃p o:Int,x=.tuple [.int p,.int o]
 | [],k,x,h=>by cases h
 |o::l,k,x,h=>by
  rw [show cN k (iL (o::l))=.tuple [.int k,.int o]::cN (k+1) (iL l) from rfl] at h
  rcases Cp.mp h with rfl|h
  ·exact (jK _ _ rfl)
  ·exact mV l (k+1) h
theorem ix:∀ (l:List PyData) (k:Nat),(cN k l).length=l.length
 | [],k=>rfl
 |o::l,k=>by simp [cN,ix l (k+1)]
theorem wc:n4 [] ρ μ=some (.c μ.length,μ++[.live []]):=by
 exact Gb rfl rfl (LJ _)
theorem dq:(μ++[c])[μ.length]? =some c:=by simp
theorem fm:(μ++[c]).set μ.length c'=μ++[c']:=by simp
theorem mF:(μ++[c]).take μ.length=μ:=by simp
theorem s66{T:Int}(hc:cs.length=6)(hz:ns.length≤1000):
  fZ [.d (.list (iL ns)),.d (.list (iL cs)),.d (.int T)] μ=some (.d (.list (iL (mk T 0 (gn cs 0 ns++[64+T.fmod 64])))),μ):=by
 have hol:=vI cs ns 0;have e0:FH (cE (ao (ay 66)) [.d (.list (iL ns)),.d (.list (iL cs)),.d (.int T)]) μ=some (.next,rS ns cs T μ.length none none,μ++[.live (iL [])]):=bO wc;refine lz (Ql (nn:=ns) (T:=T) (xs:=cN 0 (iL ns)) hc ns 0 [] none none (μ++[.live (iL [])]) dq (by simp only [EZ];lia)) λa b h1=>?_;rw [fm,Lr] at h1
 have e1:Kc (rS ns cs T μ.length none none) (μ++[.live (iL [])])=some (.next,rS ns cs T μ.length a b,μ++[.live (iL (gn cs 0 ns))]):=(gM (jZ (f:=a9 0) rfl rfl)).trans h1;have e2:I7 (rS ns cs T μ.length a b) (μ++[.live (iL (gn cs 0 ns))])=some (.next,rS ns cs T μ.length a b,μ++[.live (iL (gn cs 0 ns++[64+T.fmod 64]))]):=by
  have h:=gw (f:=a9 3) (g:=aj (kI 64) (aj (a9 2) (kI 64) (aS cu)) aT) (j:=μ.length) (d:=.int (64+T.fmod 64)) (ρ:=rS ns cs T μ.length a b) (μ:=μ++[.live (iL (gn cs 0 ns))]) rfl (cU (f:=kI 64) rfl (cX (f:=a9 2) (x:=T) rfl (rfl:kI 64 _ _=some (.d (.int 64),_)) (fk (by decide)))) dq (by refine rA (xP _) ?_;exact aa (by lia));rw [fm,show iL (gn cs 0 ns)++[Fa (64+T.fmod 64)]=iL (gn cs 0 ns++[64+T.fmod 64]) by simp [iL]] at h
  exact eB h
 have hfr:vC (.c μ.length) (μ++[.live (iL (gn cs 0 ns++[64+T.fmod 64]))])=some (.list (iL (gn cs 0 ns++[64+T.fmod 64])),μ++[.frozen (iL (gn cs 0 ns++[64+T.fmod 64]))]):=by
  exact (qY dq).trans (by rw [fm])
 have hcm:=sN (sc:=tG) (e:=dw (bB (aj (aj (a9 6) (a9 2) aT) (kI 3) (aS cu)) (kI 0) dK) (aj (a9 7) (kI 128) aT) (a9 7)) 6 7 (by decide) (mkF T) (jZ (f:=a9 3) (ρ:=rS ns cs T μ.length a b) rfl hfr) (az _ _) (λx hx=>by
  refine lz (mV _ _ hx) λp o zq2=>?_;subst zq2;refine (fV _ _ rfl ?_);have hcmp:bB (aj (aj (a9 6) (a9 2) aT) (kI 3) (aS cu)) (kI 0) dK (((bG tG (rS ns cs T μ.length a b)).set 6 (some (.d (.int p)))).set 7 (some (.d (.int o)))) (μ++[.frozen (iL (gn cs 0 ns++[64+T.fmod 64]))])=some ((p+T).fmod 3==0,_):=
   oh (cX (cU (f:=a9 6) (g:=a9 2) rfl rfl) (rfl:kI 3 _ _=some (.d (.int 3),_)) (fk (by decide))) rfl
  by_cases z:(p+T).fmod 3=0
  ·rw [show ((p+T).fmod 3==0)=true from beq_iff_eq.mpr z] at hcmp
   refine rA (xr hcmp) ?_;refine rA (RC _ _ _) ?_;refine rA (if_pos z) ?_;exact cU (f:=a9 7) (g:=kI 128) rfl rfl
  ·rw [show ((p+T).fmod 3==0)=false from beq_eq_false_iff_ne.mpr z] at hcmp
   refine rA (sT hcmp) ?_;refine rA (RC _ _ _) ?_;refine rA (if_neg z) ?_;rfl) (by refine rA (ix _ _) ?_;refine rA (xP _) ?_;exact aa (by simp;lia))
 rw [KQ] at hcm
 have e3:FJ (rS ns cs T μ.length a b) (μ++[.live (iL (gn cs 0 ns++[64+T.fmod 64]))])=some (.ret (.d (.list (iL (mk T 0 (gn cs 0 ns++[64+T.fmod 64]))))),rS ns cs T μ.length a b,μ++[.frozen (iL (gn cs 0 ns++[64+T.fmod 64]))]):=ee (bY hcm)
 have:f66 (cE (ao (ay 66)) [.d (.list (iL ns)),.d (.list (iL cs)),.d (.int T)]) μ=some (.ret (.d (.list (iL (mk T 0 (gn cs 0 ns++[64+T.fmod 64]))))),rS ns cs T μ.length a b,μ++[.frozen (iL (gn cs 0 ns++[64+T.fmod 64]))]):=
  (aB e0).trans ((aB e1).trans ((aB e2).trans (cV e3)))
 unfold fZ;refine rA (d0 (k:=3) rfl this) ?_;exact rA mF rfl
noncomputable def ZX:Int→Int→List Int→Option (Int×List Int)
 |o,val,[]=>if 64≤o then none else some (val,[])
 |o,val,o'::os=>if 64≤o then (if 0≤val∧val<4294967296 then ZX o' (val*64+o'%64) os else none) else some (val,o'::os)
noncomputable def rdF:List Int→Option (Int×List Int)
 | []=>none
 |o::os=>ZX o (o%64) os
theorem N7:(zC 128).all (λo=>D3 (o:Int) 64==(if 64≤(o:Int) then 64 else 0)&&D3 ((o:Int)+128) 64==(if 64≤(o:Int) then 64 else 0)&&D3 (o:Int) 63==(o:Int)%64&&D3 ((o:Int)+128) 63==(o:Int)%64)=true:=by decide+kernel
theorem jb{o m:Int}(h0:0≤o)(h1:o<128)(hm:m=o∨m=o+128):D3 m 64=(if 64≤o then 64 else 0)∧D3 m 63=o%64:=by
 refine bP (Lg h0) λn zq1=>?_;subst zq1
 have:=AP.mp N7 n (D2.mpr (by lia))
 simp only [Fe,beq_iff_eq] at this
 refine f_ this λzp0 d=>?_;refine f_ zp0 λzp0 c=>?_;obtain ⟨a,b⟩:=zp0
 rcases hm with rfl|rfl
 ·exact ⟨a,c⟩
 ·exact ⟨b,d⟩
theorem ap1{v d:Int}(h0:0≤v)(h1:0≤d)(h2:d<64):Mo (v*64) d=v*64+d:=by
 have hz:D3 (v*64) d=0:=by
  refine bP (Lg h0) λa zq1=>?_;subst zq1;refine bP (Lg h1) λb zq1=>?_;subst zq1;have hb:b<64:=by lia
  have hn:(a*64) &&& b=0:=by
   apply Nat.eq_of_testBit_eq;intro i;refine rA (Nat.testBit_and _ _ _) ?_;refine rA (Nat.zero_testBit _) ?_;refine rA (show a*64=a <<< 6 by rw [Nat.shiftLeft_eq]) ?_;refine rA (Nat.testBit_shiftLeft _) ?_
   by_cases hi:6≤i
   ·refine rA (Nat.testBit_lt_two_pow (x:=b) (i:=i) (Oq hb (Su (n:=2) (by decide) hi))) ?_
    simp
   ·simp [hi]
  have e:D3 ((a:Int)*64) (b:Int)=(((a*64) &&& b:Nat):Int):=by
   unfold D3;refine rA (decide_eq_true (show (0:Int)≤(a:Int)*64 by lia)) ?_;refine rA (decide_eq_true (show (0:Int)≤(b:Int) by lia)) ?_;dsimp only;refine rA (show ((a:Int)*64).toNat=a*64 by lia) ?_;exact rA (Fs _) rfl
  refine rA e ?_;refine rA hn ?_;rfl
 refine rA (PyProof.Rows.bitOr_and _ _) ?_;refine rA hz ?_;lia
theorem Sz(T:Int)(rest:List Int):∀ (os:List Int) (o val:Int) (p k:Nat) (v:Int),os.length<k→0≤o→o<128→(∀x∈os,0≤x∧x<128)→ZX o val os=some (v,[])→∀m,m=o∨m=o+128→∃p',Ec k m val (mk T p (os++rest))=some (v,mk T p' rest)
 |os,o,val,p,0,v,hk,_,_,_,_,_,_=>by lia
 | [],o,val,p,k+1,v,hk,h0,h1,ho,h,m,hm=>by
  unfold ZX at h
  split at h
  ·exact cv h
  ·rename_i hq
   cases h;refine ⟨p,?_⟩;unfold Ec;refine rA ((jb h0 h1 hm).1) ?_;refine rA (if_neg hq) ?_;refine rA (if_neg (by decide)) ?_;rfl
 |o'::os,o,val,p,k+1,v,hk,h0,h1,ho,h,m,hm=>by
  unfold ZX at h
  split at h
  ·rename_i hq
   split at h
   ·rename_i hv
    have h':=ho o' (by simp);have hm':(if ((p:Int)+T).fmod 3=0 then o'+128 else o')=o'∨(if ((p:Int)+T).fmod 3=0 then o'+128 else o')=o'+128:=by
     split
     ·exact .inr rfl
     ·exact .inl rfl
    refine bP (Sz T rest os o' (val*64+o'%64) (p+1) k v (by simp at hk;lia) h'.1 h'.2 (λx hx=>ho x (CQ _ hx)) h _ hm') λp' ih=>?_;refine ⟨p',?_⟩;refine rA L7 ?_;rw [mk];unfold Ec;refine rA ((jb h0 h1 hm).1) ?_;refine rA (if_pos hq) ?_;refine rA (if_pos (by decide)) ?_;dsimp only;refine rA (if_pos hv) ?_;refine rA ((jb h'.1 h'.2 hm').2) ?_;refine rA (ap1 hv.1 (Int.emod_nonneg _ (by decide)) (Int.emod_lt_of_pos _ (by decide))) ?_;exact ih
   ·exact cv h
  ·cases h
theorem Vv{T:Int}{blk:List Int}{v:Int}(hz:blk.length≤60)(hb:∀x∈blk,0≤x∧x<128)(h:rdF blk=some (v,[])):∃p',rd (mk T p (blk++rest))=some (v,mk T p' rest):=by
 cases blk with
 |nil=>exact cv h
 |cons o os=>
  have h':=hb o (by simp);have hm':(if ((p:Int)+T).fmod 3=0 then o+128 else o)=o∨(if ((p:Int)+T).fmod 3=0 then o+128 else o)=o+128:=by
   split
   ·exact .inr rfl
   ·exact .inl rfl
  refine bP (Sz T rest os o (o%64) (p+1) 64 v (by simp at hz;lia) h'.1 h'.2 (λx hx=>hb x (CQ _ hx)) h _ hm') λp' e=>?_;refine ⟨p',?_⟩;refine rA L7 ?_;rw [mk,rd];refine rA ((jb h'.1 h'.2 hm').2) ?_;exact e
noncomputable def oL:List Int:=[0,7,8,272,274]++(zC 6).flatMap λf=>(zC 13).map λlow=>(2^f-1)*2^low+2^31
theorem P0:(oL.all λn=>(zC 3).all λq=>rdF (Hp q 64++qv n)==some (n,[]))=true:=by decide+kernel
theorem G0:(oL.all λn=>(qv n).all λo=>decide (0≤o∧o<128))=true:=by decide+kernel
theorem HB{n:Int}(hn:n∈oL)(hq:q≤2):rdF (Hp q 64++qv n)=some (n,[])∧∀x∈Hp q 64++qv n,0≤x∧x<128:=by
 refine ⟨?_,λx hx=>?_⟩
 ·have:=AP.mp (AP.mp P0 n hn) q (D2.mpr (by lia))
  simpa using this
 ·rcases AF.mp hx with h|h
  ·have:=List.eq_of_mem_replicate h
   lia
  ·have:=AP.mp (AP.mp G0 n hn) x h
   simpa using this
theorem xi(T:Int)(cs tail:List Int):∀ (ns:List Int) (k p:Nat),(∀n∈ns,n∈oL)→∃p',Ah (mk T p (gn cs k ns++tail)) ns (mk T p' tail)
 | [],k,p,_=>⟨p,.nil _⟩
 |n::ns,k,p,h=>by
  refine f_ (HB (h n (by simp)) (pC cs k)) λg1 g2=>?_;have hd:=rO n;have hp:=pC cs k;refine bP (Vv (T:=T) (rest:=gn cs (k+1) ns++tail) (p:=p) (by refine rA be ?_;refine rA Lq ?_;lia) g2 g1) λp1 e1=>?_;refine bP (xi T cs tail ns (k+1) p1 λx hx=>h x (CQ _ hx)) λp2 e2=>?_;refine ⟨p2,.cons ?_ e2⟩;rw [gn];refine rA (ER _ _ _) ?_;exact e1
theorem n_{g:Option Nat}(hg:cw g xs μ)(Good:d5→Prop)(out:PyData→List PyData)
  (r:List PyData) (ρ:d5) (acc:List PyData) (hb:Good ρ) (h:∀x∈r,∀ρ,Good ρ→∀acc,acc.length+(out x).length≤sizeLine→∃ρ1 ρ2,tf ρ x=some ρ1∧cf ρ1 μ acc=some (ρ2,μ,acc++out x)∧Good ρ2) (hz:acc.length+(r.flatMap out).length≤sizeLine):
   ∃ρ',Good ρ'∧ff tf cf g xs r ρ μ acc=some (ρ',μ,acc++r.flatMap out):=by
 induction r generalizing ρ acc with
 |nil=>exact aZ ρ hb (congrArg (λz=>some (ρ,μ,z)) (D8 _).symm)
 |cons x r ih=>
  rw [Ft,be] at hz
  refine bm (h x (Gi ..) ρ hb acc (by lia)) λρ1 ρ2 e1 e2 e3=>?_;refine au (ih ρ2 (acc++out x) e3 (λy hy=>h y (CQ _ hy)) (by rw [be];lia)) λρ' hb' e=>aZ ρ' hb' ?_;refine (pq e1 e2 hg).trans (e.trans ?_);rw [Ft,ER]
theorem vj{g:Option Nat}(hi:itf ρ μ=some (xs,g,μ1))(hg:cw g xs μ1)(Good:d5→Prop)(out:PyData→List PyData)(h0:Good (bG sc ρ))
  (h:∀x∈xs,∀ρ,Good ρ→∀acc,acc.length+(out x).length≤sizeLine→∃ρ1 ρ2,tf ρ x=some ρ1∧cf ρ1 μ1 acc=some (ρ2,μ1,acc++out x)∧Good ρ2) (hz:(xs.flatMap out).length≤sizeLine):
  e_ sc itf tf cf ρ μ=some (xs.flatMap out,μ1):=by
 refine au (n_ hg Good out xs (bG sc ρ) [] h0 h (by simpa using hz)) λρ' zz e=>?_;exact ql hi e
theorem JC:c_ bg cf ρ μ acc=cf ρ μ acc:=rfl
theorem xl{g:Option Nat}(hi:itf ρ μ=some (xs,g,μ1)):gv itf tf cf ρ μ acc=ff tf cf g xs xs ρ μ1 acc:=b5 hi
noncomputable abbrev U:=List Nat
def uS(u:U):PyData:=.str ⟨u.toArray⟩
noncomputable def uL(l:List U):List PyData:=l.map uS
noncomputable def nc:Nat→List U
 |0=>[]
 |1=>[[92,40]]
 |2=>[[34],[41],[34]]
 |3=>[[92,92]]
 |4=>[[34],[92,34],[41],[34]]
 |5=>[[97],[92,34]]
 |_=>[[34],[34]]
noncomputable def iJ(cs:List Int)(p:Nat):Nat:=(((cs.getD p 0).fdiv 60).fmod 7).toNat
noncomputable def sO(m:List Nat)(p:Nat):U:=if p<m.getD p 0 then [40] else [41]
noncomputable def Uc(l:List U):Bool:=l.head?==some [34]
noncomputable def eM(m:List Nat)(cs:List Int)(sh:Bool)(p:Nat):List U:=(if sh&&Uc (nc (iJ cs p)) then [] else nc (iJ cs p))++[sO m p]
noncomputable def units(m:List Nat)(cs:List Int)(sh:Bool)(pl:List Nat):List U:=pl.flatMap (eM m cs sh)
def mi:PyData:=.list ((zC 7).map λi=>.list (uL (nc i)))
noncomputable def Ff(M C:PyData)(V:AV)(sh:Bool)(pieces picked:Option AV):d5:=[some V,some (.d M),some (.d C),some (.d (.bool sh)),pieces,picked]
theorem IW{M C:PyData}:FD [some V,some (.d M),some (.d C),some (.d (.bool sh)),none,none] μ=some (.next,Ff M C V sh (some (.d mi)) none,μ):=rfl
def fR(m:List Nat)(cs:List Int)(p:Nat):PyData:=.tuple [.list (uL (nc (iJ cs p))),uS (sO m p)]
noncomputable def RJ(m:List Nat)(cs:List Int):PyData→PyData
 | .int i=>fR m cs i.toNat
 |x=>x
theorem jx(cs:List Int)(p:Nat):iJ cs p<7:=by
 unfold iJ;have h0:0≤((cs.getD p 0).fdiv 60).fmod 7:=Fp _ (by decide);have h7:((cs.getD p 0).fdiv 60).fmod 7<7:=Ip _ (by decide);lia
theorem GL{pl:List Nat}{g:Option Nat}(hm:m.length=6)(hc:cs.length=6)(hp:∀p∈pl,p<6)(hz:pl.length≤1000)
  (hi:aK false (a9 0) (Ff (.list (nL m)) (.list (iL cs)) V sh (some (.d mi)) none) μ=some (nL pl,g,μ)) (hg:cw g (nL pl) μ):
  KW (Ff (.list (nL m)) (.list (iL cs)) V sh (some (.d mi)) none) μ=some (.next,Ff (.list (nL m)) (.list (iL cs)) V sh (some (.d mi)) (some (.d (.list (pl.map (fR m cs))))),μ):=by
 have hcm:=iC (sc:=lK) (e:=cW [(aF (a9 4) (aj (aj (aF (a9 2) (a9 6)) (kI 60) (aS cP)) (kI 7) (aS cu))),(dw (bB (aF (a9 1) (a9 6)) (a9 6) (ef λx y=>decide (y<x))) (kS "(") (kS ")"))]) 6 (RJ m cs) hi hg (λx hx=>by
  refine au (Dc.mp hx) λp hpm zq2=>?_;subst zq2;have h6:=hp p hpm;have e1:aF (a9 2) (a9 6) ((bG lK (Ff (.list (nL m)) (.list (iL cs)) V sh (some (.d mi)) none)).set 6 (some (.d (.int (p:Int))))) μ=some (.d (.int (cs.getD p 0)),μ):=
   cI (f:=a9 2) (V:=.d (.list (iL cs))) (k:=p) rfl rfl rfl (by lia) (by refine rA (Fs _) ?_;simp [iL,Fu (hc.symm▸h6:p<cs.length)]) (by refine rA (xP _) ?_;exact aa (by lia))
  have e2:=cX (cX e1 (rfl:kI 60 _ _=some (.d (.int 60),_)) (k_ (by decide))) (rfl:kI 7 _ _=some (.d (.int 7),_)) (fk (by decide));have h0:0≤((cs.getD p 0).fdiv 60).fmod 7:=Fp _ (by decide);have hq:=jx cs p;have e3:=cI (f:=a9 4) (V:=.d mi) (xs:=(zC 7).map λi=>.list (uL (nc i))) (d:=.list (uL (nc (iJ cs p)))) rfl e2 rfl h0 (by
   show ((zC 7).map λi=>NU (uL (nc i)))[iJ cs p]? =_
   rw [GW,NZ hq];rfl) (by refine rA (xP _) ?_;refine rA J4 ?_;exact aa (by decide))
  have e4:aF (a9 1) (a9 6) ((bG lK (Ff (.list (nL m)) (.list (iL cs)) V sh (some (.d mi)) none)).set 6 (some (.d (.int (p:Int))))) μ=some (.d (.int (m.getD p 0)),μ):=
   cI (f:=a9 1) (V:=.d (.list (nL m))) (k:=p) rfl rfl rfl (by lia) (by refine rA (Fs _) ?_;exact uf (by lia)) (by rw [nL];refine rA (xP _) ?_;exact aa (by lia))
  have e5:bB (aF (a9 1) (a9 6)) (a9 6) (ef λx y=>decide (y<x)) ((bG lK (Ff (.list (nL m)) (.list (iL cs)) V sh (some (.d mi)) none)).set 6 (some (.d (.int (p:Int))))) μ=some (decide ((p:Int)< (m.getD p 0:Nat)),μ):=dH e4 (rfl:a9 6 _ _=some (.d (.int p),_)) rfl;have e6:dw (bB (aF (a9 1) (a9 6)) (a9 6) (ef λx y=>decide (y<x))) (kS "(") (kS ")") ((bG lK (Ff (.list (nL m)) (.list (iL cs)) V sh (some (.d mi)) none)).set 6 (some (.d (.int (p:Int))))) μ=some (.d (uS (sO m p)),μ):=by
   unfold sO
   by_cases z:p<m.getD p 0
   ·rw [decide_eq_true (show (p:Int)< (m.getD p 0:Nat) by lia)] at e5
    refine rA (xr e5) ?_;refine rA (if_pos z) ?_;rfl
   ·rw [decide_eq_false (show ¬ (p:Int)< (m.getD p 0:Nat) by lia)] at e5
    refine rA (sT e5) ?_;refine rA (if_neg z) ?_;rfl
  exact d8 (ds:=[.list (uL (nc (iJ cs p))),uS (sO m p)]) (an e3 (an e6 bX)) (aa (xM rfl))) (by rw [nL];refine rA (xP _) ?_;exact aa (by lia))
 rw [show (nL pl).map (RJ m cs)=pl.map (fR m cs) by rw [nL,E_];rfl] at hcm
 exact jq hcm
noncomputable abbrev S7(M C:PyData)(V:AV)(sh:Bool)(K:PyData)(a b c:Option AV):d5:=[some V,some (.d M),some (.d C),some (.d (.bool sh)),some (.d mi),some (.d K),a,b,c]
abbrev pcE:EF:=dw (Ke (gf (a9 3)) (bB (cg (a9 6) b9 (aL (kI 1))) (aU [(kS "\"")]) dK)) (aU []) (a9 6)
theorem HO(hq:q<7):dK (.d (.list (uL ((nc q).take 1)))) (.d (.list [.str "\""])) μ=some (Uc (nc q)):=by
 match q,hq with
 |0,_=>kernel_rfl
 |1,_=>kernel_rfl
 |2,_=>kernel_rfl
 |3,_=>kernel_rfl
 |4,_=>kernel_rfl
 |5,_=>kernel_rfl
 |6,_=>kernel_rfl
theorem ZY{M C:PyData}{K:PyData}{s c:Option AV}(hq:q<7):pcE (S7 M C V sh K (some (.d (.list (uL (nc q))))) s c) μ=some (.d (.list (uL (if sh&&Uc (nc q) then [] else nc q))),μ):=by
 cases sh with
 |false=>exact (sT (aa8 (nW (V:=.d (.bool false)) rfl rfl))).trans rfl
 |true=>
  have hv:gf (a9 3) (S7 M C V true K (some (.d (.list (uL (nc q))))) s c) μ=some (true,μ):=nW (V:=.d (.bool true)) rfl rfl;have hc:bB (cg (a9 6) b9 (aL (kI 1))) (aU [(kS "\"")]) dK (S7 M C V true K (some (.d (.list (uL (nc q))))) s c) μ=some (Uc (nc q),μ):=by
   have hs:cg (a9 6) b9 (aL (kI 1)) (S7 M C V true K (some (.d (.list (uL (nc q))))) s c) μ=some (.d (.list (uL ((nc q).take 1))),μ):=by
    match q,hq with
    |0,_=>rfl
    |1,_=>rfl
    |2,_=>rfl
    |3,_=>rfl
    |4,_=>rfl
    |5,_=>rfl
    |6,_=>rfl
   exact dH hs (jW (f:=kS "\"") rfl) (HO hq)
  have ha:=(af5 (t':=bB (cg (a9 6) b9 (aL (kI 1))) (aU [(kS "\"")]) dK) hv).trans hc;cases hqq:Uc (nc q) with
  |true=>rw [hqq] at ha;exact (xr ha).trans tL
  |false=>rw [hqq] at ha;exact (sT ha).trans rfl
noncomputable def Ut:List PyData→Bool
 | .str x::_=>x.cps.toList==[34]
 |_=>false
theorem Mt(l:List U):Ut (uL l)=Uc l:=by
 cases l with
 |nil=>rfl
 |cons u l=>
  refine (?_:(u.toArray.toList==[34])=(some u==some [34]));refine rA (show u.toArray.toList=u by simp) ?_;rfl
noncomputable def yc(sh:Bool):PyData→List PyData
 | .tuple [.list ps,s]=>(if sh&&Ut ps then [] else ps)++[s]
 |_=>[]
theorem Cg(m:List Nat)(cs:List Int)(sh:Bool)(p:Nat):yc sh (fR m cs p)=uL (eM m cs sh p):=by
 refine (?_:(if sh&&Ut (uL (nc (iJ cs p))) then [] else uL (nc (iJ cs p)))++[uS (sO m p)]=_);refine rA (Mt _) ?_;rw [eM,uL,uL];refine rA JV ?_
 split<;>rfl
theorem C9(q:Nat):(nc q).length≤4:=by
 match q with
 |0=>decide
 |1=>decide
 |2=>decide
 |3=>decide
 |4=>decide
 |5=>decide
 | (n+6)=>exact (by decide:2≤4)
theorem zH(m:List Nat)(cs:List Int)(sh:Bool)(p:Nat):(eM m cs sh p).length≤5:=by
 unfold eM
 have:=C9 (iJ cs p)
 refine rA be ?_;refine rA H0 ?_
 split
 ·simp
 ·lia
theorem i8(m:List Nat)(cs:List Int)(sh:Bool):∀pl:List Nat,(units m cs sh pl).length≤5*pl.length
 | []=>by simp [units]
 |p::pl=>by
  have h1:=zH m cs sh p;have h2:=i8 m cs sh pl;simp only [units,Ft,be,AH] at h2⊢
  lia
theorem uq(m:List Nat)(cs:List Int)(sh:Bool):∀pl:List Nat,(pl.map (fR m cs)).flatMap (yc sh)=uL (units m cs sh pl)
 | []=>rfl
 |p::pl=>by
  refine rA F9 ?_;refine rA Ft ?_;refine rA (uq m cs sh pl) ?_;refine rA (Cg _ _ _ _) ?_
  simp [units,uL]
theorem HF{pl:List Nat}{M C:PyData}(hz:pl.length≤1000):
  K0 (Ff M C V sh (some (.d mi)) (some (.d (.list (pl.map (fR m cs)))))) μ=some (.ret (.d (.list (uL (units m cs sh pl)))),Ff M C V sh (some (.d mi)) (some (.d (.list (pl.map (fR m cs))))),μ):=by
 have hi:aK true (a9 5) (Ff M C V sh (some (.d mi)) (some (.d (.list (pl.map (fR m cs)))))) μ=some (pl.map (fR m cs),none,μ):=B4 (V:=.d (.list (pl.map (fR m cs)))) rfl rfl (rl λzz=>⟨_,rfl⟩);have hul:=i8 m cs sh pl;have hcm:=vj (sc:=yi) (tf:=jh 6 7) (cf:=c_ bg (gv (aK false (aj pcE (aU [(a9 7)]) aT)) (dz 8) (c_ bg (aY (a9 8))))) hi (az _ _) (λρ=>∃a b c,ρ=S7 M C V sh (.list (pl.map (fR m cs))) a b c) (yc sh) (jI none none none rfl) (λx hx ρ hρ acc hacc=>by
  refine au (Dc.mp hx) λp hp zq2=>?_;subst zq2;refine jH hρ λa b c zq3=>?_;subst zq3;have hadd:=cT (ZY (M:=M) (C:=C) (V:=V) (sh:=sh) (K:=.list (pl.map (fR m cs))) (s:=some (.d (uS (sO m p)))) (c:=c) (μ:=μ) (jx cs p)) (jW (f:=a9 7) (d:=uS (sO m p)) rfl) rfl rfl (aa (by
   have:=C9 (iJ cs p)
   refine rA H0 ?_;rw [uL];refine rA (xP _) ?_
   split
   ·simp
   ·lia))
  have hl:uL (if sh&&Uc (nc (iJ cs p)) then [] else nc (iJ cs p))++[uS (sO m p)]=yc sh (fR m cs p):=by
   refine rA (Cg _ _ _ _) ?_;rw [eM,uL,uL];refine rA JV ?_;rfl
  rw [hl] at hadd
  obtain ⟨ρ',⟨w,hw⟩,hf⟩:=n_ (tf:=dz 8) (cf:=c_ bg (aY (a9 8))) (μ:=μ) (xs:=yc sh (fR m cs p)) (az _ _) (λρ=>∃w,ρ=S7 M C V sh (.list (pl.map (fR m cs))) (some (.d (.list (uL (nc (iJ cs p)))))) (some (.d (uS (sO m p)))) w) (λx=>[x]) (yc sh (fR m cs p)) _ acc ⟨c,rfl⟩ (λy zz ρ hρ acc hacc=>by
   refine bP hρ λw zq1=>?_;subst zq1;exact (BA _ _ rfl (ph (d:=y) rfl acc hacc) _ rfl)) (by simpa [fJ] using hacc)
  rw [fJ,TT] at hf
  subst hw;refine (Er (S7 M C V sh (.list (pl.map (fR m cs))) (some (.d (.list (uL (nc (iJ cs p)))))) (some (.d (uS (sO m p)))) c) (S7 M C V sh (.list (pl.map (fR m cs))) (some (.d (.list (uL (nc (iJ cs p)))))) (some (.d (uS (sO m p)))) w) rfl ?_ _ _ _ rfl);refine LM JC ?_;refine LM (xl (d9 (V:=.d (.list (yc sh (fR m cs p)))) hadd rfl)) ?_;exact hf) (by refine rA (uq _ _ _ _) ?_;rw [uL];refine rA (xP _) ?_;exact aa (by lia))
 rw [uq] at hcm
 exact ee (bY hcm)
theorem s67{pl:List Nat}{g:Option Nat}(hm:m.length=6)(hc:cs.length=6)(hp:∀p∈pl,p<6)(hz:pl.length≤1000)
  (hi:aK false (a9 0) (Ff (.list (nL m)) (.list (iL cs)) V sh (some (.d mi)) none) μ=some (nL pl,g,μ)) (hg:cw g (nL pl) μ):
  bC [V,.d (.list (nL m)),.d (.list (iL cs)),.d (.bool sh)] μ=some (.d (.list (uL (units m cs sh pl))),μ):=by
 have:f67 (cE (ao (ay 67)) [V,.d (.list (nL m)),.d (.list (iL cs)),.d (.bool sh)]) μ=_:=(aB IW).trans ((aB (GL hm hc hp hz hi hg)).trans (cV (HF hz)))
 unfold bC;refine LM (d0 (k:=4) rfl this) ?_;exact rA (Fj (Dj _)) rfl
theorem ZH{pl:List Nat}(hm:m.length=6)(hc:cs.length=6)(hp:∀p∈pl,p<6)(hz:pl.length≤1000):
 bC [.d (.list (nL pl)),.d (.list (nL m)),.d (.list (iL cs)),.d (.bool sh)] μ=some (.d (.list (uL (units m cs sh pl))),μ):=s67 hm hc hp hz (d9 (V:=.d (.list (nL pl))) rfl rfl) (az _ _)
theorem Rc(hm:m.length=6)(hc:cs.length=6):
 bC [.rng 0 6,.d (.list (nL m)),.d (.list (iL cs)),.d (.bool sh)] μ=some (.d (.list (uL (units m cs sh (zC 6)))),μ):=s67 (pl:=zC 6) hm hc (λp hp=>D2.mp hp) (by decide) rfl (az _ _)
def tS(l:List Nat):Str:=⟨l.toArray⟩
theorem eD(l:List Nat):(tS l).length=l.length:=by simp [tS,Str.length]
theorem fY(l:List Nat):(tS l).cps.toList=l:=by simp [tS]
noncomputable def wf:U→Bool
 | [c]=>c != 92
 | [a,_]=>a==92
 |_=>false
theorem GU:∀ {u:U},wf u=true→(∃c,u=[c]∧c≠92)∨∃c,u=[92,c]
 | [c],h=>.inl ⟨c,rfl,bne_iff_ne.mp h⟩
 | [a,c],h=>.inr ⟨c,by exact rA (show a=92 from beq_iff_eq.mp h) rfl⟩
noncomputable def lf:Nat→List U→List PyData
 |_,[]=>[]
 |k,u::r=>.tuple [.int ((k+u.length:Nat)-1),uS u]::lf (k+u.length) r
theorem uy:∀ (us:List U) (k:Nat) (tail:List Nat),(us.all wf)=true→eC (us.flatten++tail) k false=lf k us++eC tail (k+us.flatten.length) false
 | [],k,tail,_=>by simp [lf]
 |u::us,k,tail,h=>by
  simp only [Mp,Fe] at h
  have ih:=uy us (k+u.length) tail h.2
  rcases GU h.1 with ⟨c,rfl,hc⟩| ⟨c,rfl⟩
  ·refine rA H9 ?_;refine rA (ER _ _ _) ?_;refine rA RX ?_;rw [eC];refine rA (if_neg hc) ?_;refine rA be ?_
   simp only [H0] at ih⊢
   refine rA ih ?_;rw [lf];refine rA L7 ?_;refine rA H0 ?_;refine rB (Rd _ _ _) ?_
   congr 3
   simp
  ·refine rA H9 ?_;refine rA (ER _ _ _) ?_
   refine (?_:eC (92::c::(us.flatten++tail)) k false=_);rw [eC];refine rA (if_pos rfl) ?_;rw [eC];simp only [AH,EZ,LB,Nat.reduceAdd] at ih
   refine rA (show k+1+1=k+2 from rfl) ?_;refine rA ih ?_;rw [lf];refine rA L7 ?_;refine rA be ?_;simp only [AH,EZ,LB,Nat.reduceAdd];refine rB (Rd _ _ _) ?_
   congr 3
   congr 1
   lia
theorem zP{us:List U}(hf:f ρ μ=some (.d (.str (tS us.flatten)),μ))(hw:us.all wf=true):c9 [f] aE ρ μ=some (lf 0 us,none,μ):=by
 have:=uy us 0 [] hw
 simp only [D8] at this
 refine (b5 (vX hf)).trans (congrArg (λl=>some (l,none,μ)) ?_);rw [fY,this];exact D8 _
theorem Tb(u:U)(c:Nat):((tS u)==(⟨#[c]⟩:Str))=decide (u=[c]):=by
 by_cases h:u=[c]
 ·subst h
  refine rA (decide_eq_true rfl) ?_;exact beq_self_eq_true _
 ·refine rA (decide_eq_false h) ?_;refine rA (propext (beq_eq_false_iff_ne)) ?_
  intro q
  have:=congrArg (λs:Str=>s.cps.toList) q
  simp [tS] at this
  exact h this
theorem Cq{u:U}{c:Nat}(hf:f ρ μ=some (.d (uS u),μ))(hg:g ρ μ=some (.d (.str ⟨#[c]⟩),μ)):bB f g dK ρ μ=some (decide (u=[c]),μ):=
 (dH hf hg rfl).trans (by refine rB (Tb _ _) ?_;rfl)
theorem Je(l:List Nat){a:Nat}(hab:a≤b)(hb:b≤l.length):oE (tS l) (some (a:Int)) (some (b:Int))=tS ((l.drop a).take (b-a)):=by
 unfold oE;refine rA (eD _) ?_;refine rA (StrLaws.strSliceIndices_plain hab hb) ?_
 split
 ·rename_i h
  simp only [xP,J4,beq_iff_eq] at h
  have h0:a=0:=by lia
  have h1:b=l.length:=by lia
  subst h0 h1
  simp
 ·have:=StrLaws.picks l (b-a) a (by lia)
  unfold tS
  congr 2
  simpa using this
theorem Jb{a len:Nat}:JM (some (a:Int)) none 1 len=JM (some (a:Int)) (some (len:Int)) 1 len:=by
 have h1:¬ ((len:Int)<0):=by lia
 have e1:max (0:Int) (min (len:Int) (len:Int))=len:=by lia
 simp only [JM,h1,if_false,e1,show ((1:Int)>0)=True from by simp,if_true]
theorem MM(l:List Nat){a:Nat}(ha:a≤l.length):oE (tS l) (some (a:Int)) none=tS (l.drop a):=by
 have:=Je l ha (Dj _)
 unfold oE at this⊢
 rw [eD] at this⊢
 refine rA Jb ?_;refine rA this ?_;exact rA (Fj (by rw [Rr];exact Dj _)) rfl
theorem BV:∀us:List U,nr (uL us)=some (us.map tS)
 | []=>rfl
 |u::us=>by
  exact (bV (rfl:dS (uS u)=some (tS u))).trans (bV (BV us))
theorem Hi:∀us:List U,U7 "" (us.map tS)=tS us.flatten
 | []=>rfl
 | [u]=>by simp [U7,tS]
 |u::v::us=>by
  have ih:=Hi (v::us);refine (?_:tS u++("":Str)++U7 "" ((v::us).map tS)=_);refine rA ih ?_;apply UV;refine rA (P9 _ _) ?_;refine rA (P9 _ _) ?_;have e0:(Ku "").cps= #[]:=by decide
  simp [tS,e0]
theorem mq{us:List U}(hf:f ρ μ=some (V,μ))(hp:dc μ V=some (uL us))(hz:us.flatten.length≤100000):dx (kS "") [f] fc ρ μ=some (.d (.str (tS us.flatten)),μ):=by
 have hs:((us.map tS).map (·.length)).sum=us.flatten.length:=by
  refine rA E_ ?_;refine rA List.length_flatten ?_
  congr 1
 refine (Cr hf hp (BV us) (by rw [hs,show ("":Str).length=0 from rfl];lia)).trans ?_;refine (?_:some (AV.d (.str (Builtin.Str.glued "" (us.map tS))),μ)=_);refine rA (S8 _ _) ?_;exact rA (Hi _) rfl
theorem Ba{p q:PF}{l:List Nat}{lo hi:Option Int}{l':List Nat}(hf:f ρ μ=some (.d (.str (tS l)),μ))(hp:p ρ μ=some (lo,μ))(hq:q ρ μ=some (hi,μ))(h:oE (tS l) lo hi=tS l')(hz:l.length≤100000)(hz':l'.length≤100000):cg f p q ρ μ=some (.d (.str (tS l')),μ):=by
 exact (b5 hf).trans ((b5 hp).trans ((b5 hq).trans ((oV (rfl:mA (.d (.str (tS l)))=some (tS l)) rfl).trans ((if_pos ⟨by rw [eD];exact aa hz,by rw [h,eD];exact aa hz'⟩).trans (by rw [h])))))
def WF(vs:List U):Prop:=∃us t,vs=us++t∧us.all wf=true∧(t=[]∨t=[[92]])
theorem Cj:∀ (us:List U) (k:Nat) (t:List U),lf k (us++t)=lf k us++lf (k+us.flatten.length) t
 | [],k,t=>by simp [lf]
 |u::us,k,t=>by
  simp only [L7,lf,Cj us,H9,be,Rd]
theorem pA{vs:List U}(hf:f ρ μ=some (.d (.str (tS vs.flatten)),μ))(hw:WF vs):c9 [f] aE ρ μ=some (lf 0 vs,none,μ):=by
 refine bm hw λus t zq2 h q=>?_;subst zq2
 rcases q with rfl|rfl
 ·rw [D8] at hf⊢;exact zP hf h
 ·have e:=uy us 0 [92] h
  refine (b5 (vX hf)).trans (congrArg (λl=>some (l,none,μ)) ?_);simp only [fY,LK,H9,LX,D8,Cj];refine rA e ?_;simp only [eC,lf,AH,EZ,uS,LB];have h0:(((us.flatten.length+1:Nat):Int)-1)=(us.flatten.length:Int):=by lia
  refine rA (if_pos trivial) ?_;exact rA h0 rfl
noncomputable def clean:Option (List U)→List U→List U
 |none,[]=>[]
 |some q,[]=>[34]::q
 |none,u::r=>if u=[34] then clean (some []) r else u::clean none r
 |some q,u::r=>if u=[34] then clean none r else clean (some (q++[u])) r
noncomputable def jm:Option (List U)→List Nat
 |none=>[]
 |some q=>34::q.flatten
noncomputable def opV:Option (List U)→Nat→AV
 |none,_=>.d .none
 |some _,k=>.d (.int k)
noncomputable def R2(t:List Nat)(st:Nat)(op:AV)(i:Nat)(a b:Option AV):d5:=[some (.d (.str (tS t))),some (.d (.int st)),some op,some (.c i),a,b]
abbrev Sp:SF:=(ap (jE (bB (a9 1) (a9 2) pe) (ap (cj (eg (a9 3) (cg (a9 0) (aL (a9 1)) (aL (a9 2))))) aP) aP) (ap (cb 1 (aj (a9 4) (kI 1) aT)) (ap (cb 2 kN) aP)))
abbrev Qm:SF:=(ap (jE (bB (a9 5) (kS "\"") dK) (ap (jE (bB (a9 2) kN LF) (ap (cb 2 (a9 4)) aP) Sp) aP) aP) aP)
theorem neI{x:Int}(hf:f ρ μ=some (.d (.int x),μ))(hg:g ρ μ=some (.d (.int y),μ)):bB f g pe ρ μ=some (!(x==y),μ):=dH hf hg rfl
theorem dG{x:Int}(hf:f ρ μ=some (.d (.int x),μ)):aL f ρ μ=some (some x,μ):=by
 exact b5 hf
theorem Ou{t:List Nat}{st:Nat}{b:Option AV}{op:Nat}{Ws Ws':List U}(hc:μ[i]? =some (.live (uL Ws)))(ht:t.length≤100000)(h1:st≤op)(h2:op≤t.length)(hl:Ws.length≤1000)
  (hw:Ws'=if st=op then Ws else Ws++[(t.drop st).take (op-st)]):
  Sp (R2 t st (.d (.int op)) i (some (.d (.int k))) b) μ=some (.next,R2 t (k+1) (.d .none) i (some (.d (.int k))) b,μ.set i (.live (uL Ws'))):=by
 have e1:(jE (bB (a9 1) (a9 2) pe) (ap (cj (eg (a9 3) (cg (a9 0) (aL (a9 1)) (aL (a9 2))))) aP) aP) (R2 t st (.d (.int op)) i (some (.d (.int k))) b) μ=some (.next,R2 t st (.d (.int op)) i (some (.d (.int k))) b,μ.set i (.live (uL Ws'))):=by
  by_cases q:st=op
  ·rw [if_pos q] at hw
   subst hw;refine rA (Dp (μ1:=μ) ((neI (x:=st) (y:=op) rfl rfl).trans (by simp [q]))) ?_;refine rA (eF hc) ?_;exact bK
  ·rw [if_neg q] at hw
   subst hw;have q':¬ ((st:Int)=(op:Int)):=by lia
   refine rA (yJ (μ1:=μ) ((neI (x:=st) (y:=op) rfl rfl).trans (by simp [q']))) ?_;refine rA (aB (eB (gw (j:=i) (d:=uS ((t.drop st).take (op-st))) rfl (Ba (l:=t) rfl (dG rfl) (dG rfl) (Je t h1 h2) ht (by rw [LU];lia)) hc (aa (by simp [uL];lia))))) ?_;refine rA bK ?_
   simp [uL]
 refine (aB e1).trans ?_;refine rA (aB (bO (cU (x:=k) (y:=1) rfl rfl))) ?_;refine rA (aB (bO rfl)) ?_;rfl
theorem Rv{u:U}(h:a9 n ρ μ=some (.d (uS u),μ)):bB (a9 n) (kS "\"") dK ρ μ=some (decide (u=[34]),μ):=Cq h rfl
theorem J5(h:a9 n ρ μ=some (.d (uS [34]),μ)):bB (a9 n) (kS "\"") dK ρ μ=some (true,μ):=(Rv h).trans (by simp)
theorem xF{t:List Nat}(ht:t.length≤100000)(xs:List PyData)(i:Nat)(μ0:List ah)(hi:i=μ0.length):∀ (r:List U) (op:Option (List U)) (P C:List Nat) (Ws:List U) (a b:Option AV),
  t=P++C++jm op++r.flatten→Ws.length+r.length≤1000→Ws.flatten.length≤P.length→
  ∃ (op':AV) (P' C':List Nat) (Ws':List U) (a' b':Option AV),t=P'++C'∧Ws'.length≤1000∧Ws'.flatten.length≤P'.length∧Ws'.flatten++C'=Ws.flatten++C++(clean op r).flatten∧
   fX (jh 4 5) Qm aP none xs (lf (P.length+C.length+(jm op).length) r) (R2 t P.length (opV op (P.length+C.length)) i a b) (μ0++[.live (uL Ws)])=some (.next,R2 t P'.length op' i a' b',μ0++[.live (uL Ws')])
 | [],none,P,C,Ws,a,b,h,hn,hw=>(eQ _ P C Ws a b (by simpa [jm] using h) (by simpa using hn) hw (by simp [clean]) rfl)
 | [],some q,P,C,Ws,a,b,h,hn,hw=>(eQ _ P (C++jm (some q)) Ws a b (by simpa [jm] using h) (by simpa using hn) hw (by simp [clean,jm]) rfl)
 |u::r,op,P,C,Ws,a,b,h,hn,hw=>by
  simp only [AH] at hn
  have hcell:(μ0++[ah.live (uL Ws)])[i]? =some (.live (uL Ws)):=by subst hi;exact dq
  generalize hk:P.length+C.length+(jm op).length=k;have hk1:((k+u.length:Nat):Int)-1=((k+u.length-1:Nat):Int)∨u=[]:=by
   cases u with
   |nil=>exact .inr rfl
   |cons c l=>left;simp only [AH];lia
  by_cases hu:u=[34]
  ·subst hu
   have hk2:((k+([34]:U).length:Nat):Int)-1=(k:Int):=by simp
   cases op with
   |none=>
    have hk0:k=P.length+C.length:=by simpa [jm] using hk.symm
    refine gX (xF ht xs i μ0 hi r (some []) P C Ws (some (.d (.int k))) (some (.d (uS [34]))) (by simpa [jm] using h) (by lia) hw) λop' P' C' Ws' a' b' g1 g2 g3 g4 g5=>?_;refine (eQ op' P' C' Ws' a' b' g1 g2 g3 (by simpa [clean] using g4) ?_);rw [lf];refine rA hk2 ?_;refine LM (dP (ρ1:=R2 t P.length (.d .none) i (some (.d (.int k))) (some (.d (uS [34])))) rfl ?_ (az _ _)) (by
     have e:P.length+C.length+(jm (some ([]:List U))).length=k+([34]:U).length:=by simp [jm,hk0]
     rw [e] at g5
     exact g5)
    refine (aB (ρ1:=R2 t P.length (.d (.int k)) i (some (.d (.int k))) (some (.d (uS [34])))) (μ1:=μ0++[ah.live (uL Ws)]) ?_).trans ?_
    rotate_left
    ·refine rA bK ?_
     simp only [opV,hk0]
    ·refine rA (yJ (μ1:=μ0++[ah.live (uL Ws)]) (J5 rfl)) ?_;rw [aB (ρ1:=R2 t P.length (.d (.int k)) i (some (.d (.int k))) (some (.d (uS [34])))) (μ1:=μ0++[ah.live (uL Ws)])]
     ·exact bK
     ·refine rA (yJ (μ1:=μ0++[ah.live (uL Ws)]) (dH (V:=.d .none) (W:=.d .none) rfl rfl rfl)) ?_;refine rA (aB (bO rfl)) ?_
      rfl
   |some q=>
    have hk0:k=P.length+C.length+(q.flatten.length+1):=by simpa [jm] using hk.symm
    have ht2:t.length=P.length+C.length+(q.flatten.length+1)+(1+r.flatten.length):=by refine rA h ?_;simp [jm];lia
    have hd:(t.drop P.length).take (P.length+C.length-P.length)=C:=by
     refine rA h ?_;refine rA (ER _ _ _) ?_;refine rA (ER _ _ _) ?_;refine rA Qi ?_;refine rA (L0 _ _) ?_;exact rA Pd rfl
    obtain ⟨op',P',C',Ws',a',b',g1,g2,g3,g4,g5⟩:=xF ht xs i μ0 hi r none (P++C++jm (some q)++[34]) [] (if P.length=P.length+C.length then Ws else Ws++[C]) (some (.d (.int k))) (some (.d (uS [34])))
     (by refine rA h ?_;simp [jm]) (by split<;>(try simp only [be,AH,EZ])<;>lia) (by split<;>simp only [jm,LK,H9,LX,be,AH,EZ,D8]<;>lia)
    have hC:(if P.length=P.length+C.length then Ws else Ws++[C]).flatten=Ws.flatten++C:=by
     split
     ·have:C=[]:=List.eq_nil_of_length_eq_zero (by lia)
      simp [this]
     ·simp
    refine (eQ op' P' C' Ws' a' b' g1 g2 g3 (by refine rA g4 ?_;refine rA hC ?_;simp [clean]) ?_);rw [lf];refine rA hk2 ?_;have hP:(P++C++jm (some q)++[34]).length=k+1:=by simp [jm,hk0];lia
    refine LM (dP (ρ1:=R2 t P.length (.d (.int ((P.length+C.length:Nat):Int))) i (some (.d (.int k))) (some (.d (uS [34])))) rfl ?_ (az _ _)) (by
     have e:(P++C++jm (some q)++[34]).length+([]:List Nat).length+(jm (none:Option (List U))).length=k+([34]:U).length:=by refine rA hP ?_;simp [jm]
     rw [e,hP] at g5
     exact g5)
    have hcl:=Ou (t:=t) (st:=P.length) (k:=k) (i:=i) (b:=some (.d (uS [34]))) (μ:=μ0++[ah.live (uL Ws)]) (op:=P.length+C.length) (Ws:=Ws) (Ws':=if P.length=P.length+C.length then Ws else Ws++[C]) hcell ht (by lia) (by lia) (by lia) (by exact rA hd rfl);refine (aB (ρ1:=R2 t (k+1) (.d .none) i (some (.d (.int k))) (some (.d (uS [34])))) (μ1:=μ0++[ah.live (uL (if P.length=P.length+C.length then Ws else Ws++[C]))]) ?_).trans ?_
    rotate_left
    ·refine rA bK ?_;rfl
    ·refine rA (yJ (μ1:=μ0++[ah.live (uL Ws)]) (J5 rfl)) ?_;rw [aB (ρ1:=R2 t (k+1) (.d .none) i (some (.d (.int k))) (some (.d (uS [34])))) (μ1:=μ0++[ah.live (uL (if P.length=P.length+C.length then Ws else Ws++[C]))])]
     ·exact bK
     ·refine rA (Dp (μ1:=μ0++[ah.live (uL Ws)]) (dH (V:=.d (.int ((P.length+C.length:Nat):Int))) (W:=.d .none) rfl rfl rfl)) ?_;refine rA hcl ?_
      exact rA (show (μ0++[ah.live (uL Ws)]).set i (.live (uL (if P.length=P.length+C.length then Ws else Ws++[C])))=μ0++[ah.live (uL (if P.length=P.length+C.length then Ws else Ws++[C]))] by subst hi;exact fm) rfl
  ·have step:Qm (R2 t P.length (opV op (P.length+C.length)) i (some (.d (.int (((k+u.length:Nat):Int)-1)))) (some (.d (uS u)))) (μ0++[.live (uL Ws)])=some (.next,R2 t P.length (opV op (P.length+C.length)) i (some (.d (.int (((k+u.length:Nat):Int)-1)))) (some (.d (uS u))),μ0++[.live (uL Ws)]):=by
    refine (aB ?_).trans bK;refine rA (Dp (μ1:=μ0++[ah.live (uL Ws)]) ((Rv rfl).trans (by simp [hu]))) ?_;exact bK
   cases op with
   |none=>
    refine gX (xF ht xs i μ0 hi r none P (C++u) Ws (some (.d (.int (((k+u.length:Nat):Int)-1)))) (some (.d (uS u))) (by refine rA h ?_;simp [jm]) (by lia) hw) λop' P' C' Ws' a' b' g1 g2 g3 g4 g5=>?_;refine (eQ op' P' C' Ws' a' b' g1 g2 g3 (by refine rA g4 ?_;rw [clean];refine rA (if_neg hu) ?_;simp) ?_);rw [lf];refine LM (dP rfl step (az _ _)) ?_;have e:P.length+(C++u).length+(jm (none:Option (List U))).length=k+u.length:=by refine rB hk ?_;refine rA be ?_;simp [jm];lia
    rw [e] at g5
    exact g5
   |some q=>
    refine gX (xF ht xs i μ0 hi r (some (q++[u])) P C Ws (some (.d (.int (((k+u.length:Nat):Int)-1)))) (some (.d (uS u))) (by refine rA h ?_;simp [jm]) (by lia) hw) λop' P' C' Ws' a' b' g1 g2 g3 g4 g5=>?_;refine (eQ op' P' C' Ws' a' b' g1 g2 g3 (by refine rA g4 ?_;rw [clean];exact rA (if_neg hu) rfl) ?_);rw [lf];refine LM (dP rfl step (az _ _)) ?_;have e:P.length+C.length+(jm (some (q++[u]))).length=k+u.length:=by refine rB hk ?_;simp [jm];lia
    rw [e] at g5
    exact g5
theorem wx:∀ (vs:List U),(∀u∈vs,u≠[34])→clean none vs=vs
 | [],_=>rfl
 |u::r,h=>by
  rw [clean];refine rA (if_neg (h u (by simp))) ?_;exact rA (wx r λv hv=>h v (by simp [hv])) rfl
theorem ky(t:List U)(ht:t=[]∨t=[[92]]):∀ (us:List U) (op:Option (List U)),us.all wf=true→(∀q,op=some q→q.all wf=true)→∃X,clean op (us++t)=X++t∧X.all wf=true
 | [],none,_,_=>by
  rcases ht with rfl|rfl
  ·exact (aZ ([]) rfl rfl)
  ·exact (aZ ([]) (by decide) rfl)
 | [],some q,_,h=>by
  have hq:=h q rfl
  rcases ht with rfl|rfl
  ·exact (aZ ([34]::q) (by simp [clean]) hq)
  ·exact (aZ ([34]::q) (by simp [clean]) hq)
 |u::us,none,hu,_=>by
  simp only [Mp,Fe] at hu
  by_cases q:u=[34]
  ·refine au (ky t ht us (some []) hu.2 (λq e=>by refine cA e ?_;rfl)) λX e w=>?_
   exact (aZ X (by refine rA L7 ?_;rw [clean];refine rA (if_pos q) ?_;exact rA e rfl) w)
  ·refine au (ky t ht us none hu.2 (λq e=>by exact cv e)) λX e w=>?_
   exact (aZ (u::X) (by refine rA L7 ?_;rw [clean];refine rA (if_neg q) ?_;refine rA e ?_;rfl) (by simp [hu.1,w]))
 |u::us,some q,hu,h=>by
  simp only [Mp,Fe] at hu
  have hq:=h q rfl
  by_cases z:u=[34]
  ·refine au (ky t ht us none hu.2 (λq e=>by exact cv e)) λX e w=>?_
   exact (aZ X (by refine rA L7 ?_;rw [clean];refine rA (if_pos z) ?_;exact rA e rfl) w)
  ·refine au (ky t ht us (some (q++[u])) hu.2 (λq' e=>by refine cA e ?_;simp [hq,hu.1])) λX e w=>?_
   exact (aZ X (by refine rA L7 ?_;rw [clean];refine rA (if_neg z) ?_;exact rA e rfl) w)
theorem WF.clean{vs:List U}(h:WF vs):WF (clean none vs):=by
 refine bm h λus t zq2 hu ht=>?_;subst zq2;refine au (ky t ht us none hu (λq e=>by exact cv e)) λX e w=>?_;exact (dy X t e w ht)
theorem kK:∀ (vs:List U) (op:Option (List U)),(clean op vs).length≤vs.length+(match op with|none=>0|some q=>q.length+1)
 | [],none=>by simp [clean]
 | [],some q=>by simp [clean]
 |u::r,none=>by
  rw [clean];split
  ·have:=kK r (some []);simp only [EZ] at this;simp only [AH];lia
  ·have:=kK r none;simp only at this;simp only [AH];lia
 |u::r,some q=>by
  rw [clean];split
  ·have:=kK r none;simp only at this;simp only [AH];lia
  ·have:=kK r (some (q++[u]));simp only [be,AH,EZ] at this;simp only [AH];lia
theorem ie:∀ (vs:List U) (op:Option (List U)),(clean op vs).flatten.length≤vs.flatten.length+(jm op).length
 | [],none=>by simp [clean]
 | [],some q=>by simp [clean,jm]
 |u::r,none=>by
  rw [clean];split
  ·rename_i h;subst h;have:=ie r (some []);simp only [jm,LX,AH,EZ] at this;simp only [H9,be,AH,EZ,jm];lia
  ·have:=ie r none;simp only [jm,EZ] at this;simp only [H9,be,jm,EZ];lia
 |u::r,some q=>by
  rw [clean];split
  ·have:=ie r none;simp only [jm,EZ] at this;simp only [H9,be,jm,AH];lia
  ·have:=ie r (some (q++[u]));simp only [jm,LK,H9,LX,be,AH,D8] at this;simp only [H9,be,jm,AH];lia
theorem sW{t:List Nat}(hf:f ρ μ=some (.d (.str (tS t)),μ)):bB (kS "\"") f lO ρ μ=some (!decide (34∈t),μ):=by
 refine dH (V:=.d (.str ⟨#[34]⟩)) (W:=.d (.str (tS t))) rfl hf ?_
 have:=StrLaws.found_one (tS t) 34
 rw [fY] at this
 refine (?_:some (!(!(Lz (tS t) ⟨#[34]⟩ 0 (tS t).length 1).isEmpty))=_);exact rA this rfl
theorem ltI{x:Int}(hf:f ρ μ=some (.d (.int x),μ))(hg:g ρ μ=some (.d (.int y),μ)):bB f g (ef λx y=>decide (x<y)) ρ μ=some (decide (x<y),μ):=dH hf hg rfl
theorem gtI{x:Int}(hf:f ρ μ=some (.d (.int x),μ))(hg:g ρ μ=some (.d (.int y),μ)):bB f g (ef λx y=>decide (y<x)) ρ μ=some (decide (y<x),μ):=dH hf hg rfl
noncomputable def RZ(t:List Nat):d5:=[some (.d (.str (tS t))),none,none,none,none,none]
theorem s2{vs:List U}(hw:WF vs)(hz:vs.flatten.length≤100000)(hn:vs.length≤1000):aM [.d (.str (tS vs.flatten))] μ=some (.d (.str (tS (clean none vs).flatten)),μ):=by
 by_cases h34:34∈vs.flatten
 ·refine gX (xF hz (lf 0 vs) μ.length μ rfl vs none [] [] [] none none (by simp [jm]) (by simpa using hn) (by simp)) λop' P' C' Ws' a' b' g1 g2 g3 g4 g5=>?_
  have e5:PH (R2 vs.flatten P'.length op' μ.length a' b') (μ++[.live (uL Ws')])=some (.next,R2 vs.flatten P'.length op' μ.length a' b',μ++[.live (uL (if C'=[] then Ws' else Ws'++[C']))]):=by
   unfold PH;have el:af [a9 0] dC (R2 vs.flatten P'.length op' μ.length a' b') (μ++[.live (uL Ws')])=some (.d (.int vs.flatten.length),μ++[.live (uL Ws')]):=by
    refine d6 (V:=.d (.str (tS vs.flatten))) rfl ?_;exact (len_str (by rw [eD];exact aa hz)).trans (by rw [eD])
   have hcm:=ltI (f:=a9 1) (g:=af [a9 0] dC) (ρ:=R2 vs.flatten P'.length op' μ.length a' b') (x:=P'.length) rfl el;have hl:vs.flatten.length=P'.length+C'.length:=by refine rA g1 ?_;exact rA be rfl
   by_cases q:C'=[]
   ·subst q
    refine rA (if_pos rfl) ?_;refine rA (gR hcm (by simp [hl])) ?_;exact rA bK rfl
   ·have:0<C'.length:=List.length_pos_iff.mpr q
    refine rA (if_neg q) ?_;refine rA (gH hcm (decide_eq_true (by lia))) ?_;refine (aB (eB (gw (j:=μ.length) (d:=uS C') rfl (Ba (l:=vs.flatten) rfl (dG rfl) rfl (l':=C') ?_ hz (by lia)) dq (aa (by simp [uL];lia))))).trans ?_
    ·refine rA (MM _ (by lia)) ?_;refine rA g1 ?_;exact rA Qi rfl
    ·refine rA bK ?_;refine rA fm ?_
     simp [uL]
  have e6:Ms (R2 vs.flatten P'.length op' μ.length a' b') (μ++[.live (uL (if C'=[] then Ws' else Ws'++[C']))])=some (.ret (.d (.str (tS (clean none vs).flatten))),R2 vs.flatten P'.length op' μ.length a' b',μ++[.live (uL (if C'=[] then Ws' else Ws'++[C']))]):=by
   unfold Ms;have hfl:(if C'=[] then Ws' else Ws'++[C']).flatten=(clean none vs).flatten:=by
    have:(if C'=[] then Ws' else Ws'++[C']).flatten=Ws'.flatten++C':=by split<;>simp_all
    refine rA this ?_;refine rA g4 ?_;simp
   have:=ie vs none
   simp only [jm,EZ] at this
   refine rA (ee (mq (f:=a9 3) (V:=.c μ.length) (us:=if C'=[] then Ws' else Ws'++[C']) rfl (eP dq) (by rw [hfl];lia))) ?_;exact rA hfl rfl
  refine (d0 (ρ':=R2 vs.flatten P'.length op' μ.length a' b') (μ':=μ++[.live (uL (if C'=[] then Ws' else Ws'++[C']))]) (x:=.str (tS (clean none vs).flatten)) rfl ?_).trans (by exact rA mF rfl);refine (?_:f2 (RZ vs.flatten) μ=_);unfold f2;have e0:KD (RZ vs.flatten) μ=some (.next,RZ vs.flatten,μ):=by
   unfold KD;refine rA (gR (sW (t:=vs.flatten) rfl) (by simp only [h34,decide_true,Re])) ?_;exact bK
  have e1:V4 (RZ vs.flatten) μ=some (.next,(RZ vs.flatten).set 1 (some (.d (.int 0))),μ):=rfl;have e2:Tn ((RZ vs.flatten).set 1 (some (.d (.int 0)))) μ=some (.next,[some (.d (.str (tS vs.flatten))),some (.d (.int 0)),some (.d .none),none,none,none],μ):=rfl;have e3:PJ [some (.d (.str (tS vs.flatten))),some (.d (.int 0)),some (.d .none),none,none,none] μ=some (.next,R2 vs.flatten 0 (.d .none) μ.length none none,μ++[.live []]):=by
   unfold PJ;refine rA (bO wc) ?_;rfl
  have e4:Pu (R2 vs.flatten 0 (.d .none) μ.length none none) (μ++[.live []])=some (.next,R2 vs.flatten P'.length op' μ.length a' b',μ++[.live (uL Ws')]):=by
   unfold Pu;refine rA (gM (pA (vs:=vs) rfl hw)) ?_;exact g5
  refine rA (aB e0) ?_;refine rA (aB e1) ?_;refine rA (aB e2) ?_;refine rA (aB e3) ?_;refine rA (aB e4) ?_;refine rA (aB e5) ?_;exact rA (cV e6) rfl
 ·refine (d0 (ρ':=RZ vs.flatten) (μ':=μ) (x:=.str (tS vs.flatten)) rfl ?_).trans ?_
  ·refine (?_:f2 (RZ vs.flatten) μ=_)
   unfold f2;refine cV ?_;unfold KD;refine rA (gH (sW (t:=vs.flatten) rfl) (by simp only [h34,decide_false,Ux])) ?_;exact cV (ee rfl)
  ·refine rA LW ?_;exact rA (wx vs λu hu q=>h34 (T_.mpr (aZ u hu (by simp [q])))) rfl
noncomputable def lU:Int→List U→Option Int
 |n,[]=>some n
 |n,u::r=>if u=[40] then lU (n+1) r else if u=[41] then (if n-1<0 then none else lU (n-1) r) else lU n r
noncomputable def LR(vs:List U):Bool:=match lU 0 (clean none vs) with
 |some m=>m==0
 |none=>false
noncomputable def R3(t:List Nat)(n:Int)(a b:Option AV):d5:=[some (.d (.str (tS t))),some (.d (.int n)),a,b]
abbrev ao0:SF:=(jE (bB (a9 3) (kS ")") dK) (ap (ik 1 (kI 1) By) (ap (jE (bB (a9 1) (kI 0) (ef λx y=>decide (x<y))) (ap (fe (kB false)) aP) aP) aP)) aP)
abbrev QC:SF:=(ap (jE (bB (a9 3) (kS "(") dK) (ap (ik 1 (kI 1) AQ) aP) (ap ao0 aP)) aP)
theorem Hc{u:U}(c:Nat){s:Str}(hs:s=⟨#[c]⟩)(h:a9 n ρ μ=some (.d (uS u),μ)):bB (a9 n) (kS s) dK ρ μ=some (decide (u=[c]),μ):=Cq h (by refine rA hs ?_;rfl)
theorem am9{t:List Nat}{n:Int}{a b:Option AV}:(ik 1 (kI 1) AQ) (R3 t n a b) μ=some (.next,R3 t (n+1) a b,μ):=rfl
theorem Zy{t:List Nat}{n:Int}{a b:Option AV}:(ik 1 (kI 1) By) (R3 t n a b) μ=some (.next,R3 t (n-1) a b,μ):=rfl
theorem BJ(t:List Nat)(xs:List PyData)(μ:List ah):∀ (r:List U) (k:Nat) (n:Int) (a b:Option AV),∃a' b' n',
  fX (jh 2 3) QC aP none xs (lf k r) (R3 t n a b) μ=(match lU n r with|some m=>some (.next,R3 t m a' b',μ)|none=>some (.ret (.d (.bool false)),R3 t n' a' b',μ))
 | [],k,n,a,b=>(jI a b n rfl)
 |u::r,k,n,a,b=>by
  have tf:jh 2 3 (R3 t n a b) (.tuple [.int (((k+u.length:Nat):Int)-1),uS u])=some (R3 t n (some (.d (.int (((k+u.length:Nat):Int)-1)))) (some (.d (uS u)))):=rfl;rw [lf,lU];generalize hA:(some (AV.d (.int (((k+u.length:Nat):Int)-1))))=A at tf
  have hL:=Hc (ρ:=R3 t n A (some (.d (uS u)))) (μ:=μ) (u:=u) (n:=3) 40 (s:="(") (by decide) rfl;have hR:=Hc (ρ:=R3 t n A (some (.d (uS u)))) (μ:=μ) (u:=u) (n:=3) 41 (s:=")") (by decide) rfl
  by_cases q:u=[40]
  ·refine rA (if_pos q) ?_
   refine jH (BJ t xs μ r (k+u.length) (n+1) A (some (.d (uS u)))) λa' b' n' e=>?_;refine (jI a' b' n' (LM (dP tf ?_ (az _ _)) e));refine (aB ?_).trans bK;refine rA (gH hL (decide_eq_true q)) ?_;refine rA (aB am9) ?_;exact rA bK rfl
  ·refine rA (if_neg q) ?_
   by_cases z:u=[41]
   ·refine rA (if_pos z) ?_
    by_cases w:n-1<0
    ·refine rA (if_pos w) ?_
     refine (jI A (some (.d (uS u))) (n-1) (rh tf ?_));refine cV ?_;refine rA (gR hL (decide_eq_false q)) ?_;refine cV ?_;refine (gH hR (decide_eq_true z)).trans ?_;refine rA (aB Zy) ?_;refine cV ?_;refine rA (gH (ltI (x:=n-1) (y:=0) rfl rfl) (decide_eq_true w)) ?_;exact cV rfl
    ·refine rA (if_neg w) ?_
     refine jH (BJ t xs μ r (k+u.length) (n-1) A (some (.d (uS u)))) λa' b' n' e=>?_;refine (jI a' b' n' (LM (dP tf ?_ (az _ _)) e));refine (aB ?_).trans bK;refine rA (gR hL (decide_eq_false q)) ?_;refine (aB ?_).trans bK;refine (gH hR (decide_eq_true z)).trans ?_;refine rA (aB Zy) ?_;refine (aB ?_).trans bK;refine rA (gR (ltI (x:=n-1) (y:=0) rfl rfl) (decide_eq_false w)) ?_;exact bK
   ·refine rA (if_neg z) ?_
    refine jH (BJ t xs μ r (k+u.length) n A (some (.d (uS u)))) λa' b' n' e=>?_;refine (jI a' b' n' (LM (dP tf ?_ (az _ _)) e));refine (aB ?_).trans bK;refine rA (gR hL (decide_eq_false q)) ?_;refine (aB ?_).trans bK;refine (gR hR (decide_eq_false z)).trans bK
theorem s3{vs:List U}(hw:WF vs)(hz:vs.flatten.length≤100000)(hn:vs.length≤1000):ar [.d (.str (tS vs.flatten))] μ=some (.d (.bool (LR vs)),μ):=by
 refine jH (BJ (clean none vs).flatten (lf 0 (clean none vs)) μ (clean none vs) 0 0 none none) λa' b' n' e=>?_;have e0:NP [some (.d (.str (tS vs.flatten))),none,none,none] μ=some (.next,[some (.d (.str (tS (clean none vs).flatten))),none,none,none],μ):=by
  unfold NP;refine rA (bO (d6 (V:=.d (.str (tS vs.flatten))) rfl (s2 hw hz hn))) ?_;rfl
 have e1:Uo [some (.d (.str (tS (clean none vs).flatten))),none,none,none] μ=some (.next,R3 (clean none vs).flatten 0 none none,μ):=rfl;have e2:Nr (R3 (clean none vs).flatten 0 none none) μ=fX (jh 2 3) QC aP none (lf 0 (clean none vs)) (lf 0 (clean none vs)) (R3 (clean none vs).flatten 0 none none) μ:=by
  unfold Nr;exact rA (gM (pA (vs:=clean none vs) rfl hw.clean)) rfl
 rw [e] at e2
 unfold LR;cases hc:lU 0 (clean none vs) with
 |none=>
  rw [hc] at e2
  refine (d0 (ρ':=R3 (clean none vs).flatten n' a' b') (μ':=μ) (x:=.bool false) rfl ?_).trans (by exact rA LW rfl);refine (?_:f3 [some (.d (.str (tS vs.flatten))),none,none,none] μ=_);unfold f3;refine rA (aB e0) ?_;refine rA (aB e1) ?_;exact rA (cV e2) rfl
 |some m=>
  rw [hc] at e2
  refine (d0 (ρ':=R3 (clean none vs).flatten m a' b') (μ':=μ) (x:=.bool (m==0)) rfl ?_).trans (by exact rA LW rfl);refine (?_:f3 [some (.d (.str (tS vs.flatten))),none,none,none] μ=_);unfold f3;refine rA (aB e0) ?_;refine rA (aB e1) ?_;refine rA (aB e2) ?_;refine cV ?_;unfold U8;exact ee (gZ (V:=.d (.int m)) (W:=.d (.int 0)) rfl rfl rfl)
theorem TZ{f:SF}(hl:Vs.length=k)(h:f (cE sc Vs) μ=some (.ret (.c j),ρ',μ')):cC k sc f Vs μ=some (.c j,μ'):=by
 exact (if_pos hl).trans (b5 h)
def kx(vs:List U):PyData:=if LR vs then .str (tS vs.flatten) else .str "('', '')"
noncomputable def R4(T:PyData)(i:Nat)(a:Option AV):d5:=[some (.d T),some (.c i),a]
abbrev Zg:SF:=(ap (jE (tW (gf (af [(a9 2)] ar))) (ap (cb 2 (kS "('', '')")) aP) aP) (ap (cj (eg (a9 1) (a9 2))) aP))
theorem Qe(T:PyData)(xs:List PyData)(μ:List ah)(i:Nat)(hi:i=μ.length):∀ (r:List (List U)) (acc:List PyData) (a:Option AV),(∀vs∈r,WF vs∧vs.flatten.length≤100000∧vs.length≤1000)→acc.length+r.length≤1000→∃a',
  fX (dz 2) Zg aP none xs (r.map λvs=>.str (tS vs.flatten)) (R4 T i a) (μ++[.live acc])=some (.next,R4 T i a',μ++[.live (acc++r.map kx)])
 | [],acc,a,_,_=>⟨a,congrArg (λz=>some (Fl.next,R4 T i a,μ++[ah.live z])) (D8 _).symm⟩
 |vs::r,acc,a,h,hz=>by
  simp only [AH] at hz
  refine dW (h vs (by simp)) λh1 h2 h3=>?_;refine bP (Qe T xs μ i hi r (acc++[kx vs]) (some (.d (kx vs))) (λv hv=>h v (by simp [hv])) (by simp only [be,AH,EZ];lia)) λa' e=>?_;refine ⟨a',?_⟩;refine rA F9 ?_;refine rA F9 ?_;refine rA (show acc++kx vs::r.map kx=acc++[kx vs]++r.map kx by simp) ?_;refine LM (dP (ρ1:=R4 T i (some (.d (.str (tS vs.flatten))))) rfl ?_ (az _ _)) e;have hv:tW (gf (af [a9 2] ar)) (R4 T i (some (.d (.str (tS vs.flatten))))) (μ++[.live acc])=some (!(LR vs),μ++[.live acc]):=
   not_of (nW (V:=.d (.bool (LR vs))) (d6 (V:=.d (.str (tS vs.flatten))) rfl (s3 h1 h2 h3)) rfl)
  have e1:(jE (tW (gf (af [(a9 2)] ar))) (ap (cb 2 (kS "('', '')")) aP) aP) (R4 T i (some (.d (.str (tS vs.flatten))))) (μ++[.live acc])=some (.next,R4 T i (some (.d (kx vs))),μ++[.live acc]):=by
   by_cases q:LR vs=true
   ·refine rA (gR hv (by rw [q];rfl)) ?_;refine rA bK ?_
    simp only [kx,q,if_true]
   ·refine rA (gH hv (by simp [q])) ?_;refine rA (aB (bO rfl)) ?_;refine rA bK ?_
    simp only [kx,q];rfl
  refine (aB e1).trans ?_;refine rA (aB (eB (gw (j:=i) (d:=kx vs) rfl rfl (by subst hi;exact dq) (aa (by lia))))) ?_;refine rA bK ?_;subst hi;exact rA fm rfl
theorem s4{vss:List (List U)}(h:∀vs∈vss,WF vs∧vs.flatten.length≤100000∧vs.length≤1000)(hz:vss.length≤1000):
  aX [.d (.list (vss.map λvs=>.str (tS vs.flatten)))] μ=some (.c μ.length,μ++[.live (vss.map kx)]):=by
 refine bP (Qe (.list (vss.map λvs=>.str (tS vs.flatten))) (vss.map λvs=>.str (tS vs.flatten)) μ μ.length rfl vss [] none h (by simpa using hz)) λa' e=>?_;have e0:Mb [some (.d (.list (vss.map λvs=>.str (tS vs.flatten)))),none,none] μ=some (.next,R4 (.list (vss.map λvs=>.str (tS vs.flatten))) μ.length none,μ++[.live []]):=by
  unfold Mb;refine rA (bO wc) ?_;rfl
 have e1:OT (R4 (.list (vss.map λvs=>.str (tS vs.flatten))) μ.length none) (μ++[.live []])=some (.next,R4 (.list (vss.map λvs=>.str (tS vs.flatten))) μ.length a',μ++[.live (vss.map kx)]):=by
  unfold OT;refine rA (gM (d9 (V:=.d (.list (vss.map λvs=>.str (tS vs.flatten)))) rfl rfl)) ?_;exact e
 have:f4 [some (.d (.list (vss.map λvs=>.str (tS vs.flatten)))),none,none] μ=some (.ret (.c μ.length),R4 (.list (vss.map λvs=>.str (tS vs.flatten))) μ.length a',μ++[.live (vss.map kx)]):=by
  unfold f4;refine rA (aB e0) ?_;refine rA (aB e1) ?_;exact cV (ee rfl)
 exact TZ rfl this
def hx(i:Int):Str:=Sy "0x" 16 i
def rF(flag:Int):Str:=(rW flag).getD (hx flag)
noncomputable def uc:List Nat→Int→List Str→Option (List Str)
 | [],fl,ns=>if (hx fl).length≤1000 then some (ns++[hx fl]) else none
 |i::r,fl,ns=>if D3 fl (1*2^i)=0 then uc r fl ns else
  if (hx (1*2^i)).length≤1000 then (if It fl (1*2^i)=0 then some (ns++[rF (1*2^i)]) else uc r (It fl (1*2^i)) (ns++[rF (1*2^i)])) else none
noncomputable def pf(fl:Int):Option Str:=match uc (zC 32) fl [] with
 |some l=>if (l.map (·.length)).sum+l.length*2≤10000 then some (LA ", " l) else none
 |none=>none
noncomputable def R7(fl:Int)(i:Nat)(a b:Option AV):d5:=[some (.d (.int fl)),some (.c i),a,b]
theorem an6(i:Nat)(h:i<32):DN 1 i=some (1*2^i):=by
 unfold DN;refine rA (if_pos (fu (by lia) (by lia) (by decide))) ?_;rfl
theorem uU{x:Int}(hf:f ρ μ=some (.d (.int x),μ))(h:(hx x).length≤1000):af [f] oY ρ μ=some (.d (.str (hx x)),μ):=by
 exact d6 hf ((bV (rfl:l1 [AV.d (.int x)]=some _)).trans ((bV (rfl:jM (.d (.int x))=some x)).trans (if_pos (aa (L2 h (by decide))))))
abbrev Y5:SF:=(ap (cb 3 (aj (kI 1) (a9 2) (aS DN))) (ap (jE (gf (aj (a9 0) (a9 3) (aS λx y=>some (D3 x y)))) (ap (cj (eg (a9 1) (sB rW (a9 3) (af [(a9 3)] oY)))) (ap (ik 0 (a9 3) B6) (ap (jE (tW (gf (a9 0))) (ap MD aP) aP) aP))) aP) aP))
abbrev Zz:SF:=(ap (cj (eg (a9 1) (af [(a9 0)] oY))) aP)
noncomputable def bS(l:List Str):List PyData:=l.map .str
theorem B0(x:Int):(x != 0)= !decide (x=0):=by
 by_cases h:x=0<;>simp [h]
theorem Jj(xs:List PyData)(μ:List ah)(j:Nat)(hj:j=μ.length):∀ (r:List Nat) (fl:Int) (ns:List Str) (a b:Option AV) (l:List Str),(∀i∈r,i<32)→uc r fl ns=some l→ns.length+r.length≤100→
  ∃fl' a' b',fX (dz 2) Y5 Zz none xs (r.map λ(i:Nat)=>.int i) (R7 fl j a b) (μ++[.live (bS ns)])=some (.next,R7 fl' j a' b',μ++[.live (bS l)])
 | [],fl,ns,a,b,l,_,h,hz=>by
  unfold uc at h
  split at h
  ·rename_i q
   refine cA h ?_;refine (jI fl a b ?_);refine rA M3 ?_;refine rA Im ?_;refine (aB (eB (gw (j:=j) (d:=.str (hx fl)) rfl (uU rfl q) (by subst hj;exact dq) (aa (by simp only [bS,xP];lia))))).trans ?_;refine rA bK ?_;subst hj;refine rA fm ?_
   simp [bS]
  ·exact cv h
 |i::r,fl,ns,a,b,l,hr,h,hz=>by
  simp only [AH] at hz
  have hi:i<32:=hr i (by simp);rw [uc] at h
  refine rA F9 ?_;have tf:dz 2 (R7 fl j a b) (.int (i:Int))=some (R7 fl j (some (.d (.int i))) b):=rfl;have e0:cb 3 (aj (kI 1) (a9 2) (aS DN)) (R7 fl j (some (.d (.int i))) b) (μ++[.live (bS ns)])=some (.next,R7 fl j (some (.d (.int i))) (some (.d (.int (1*2^i)))),μ++[.live (bS ns)]):=
   bO (cX (x:=1) (y:=i) rfl rfl (an6 i hi))
  have ev:gf (aj (a9 0) (a9 3) (aS λx y=>some (D3 x y))) (R7 fl j (some (.d (.int i))) (some (.d (.int (1*2^i))))) (μ++[.live (bS ns)])=some (!decide (D3 fl (1*2^i)=0),μ++[.live (bS ns)]):=by
   refine rB (B0 _) ?_;exact nW (cX (x:=fl) (y:=1*2^i) rfl rfl rfl) rfl
  by_cases q:D3 fl (1*2^i)=0
  ·rw [if_pos q] at h
   refine jH (Jj xs μ j hj r fl ns (some (.d (.int i))) (some (.d (.int (1*2^i)))) l (λk hk=>hr k (by simp [hk])) h (by lia)) λfl' a' b' e=>?_;refine (jI fl' a' b' (LM (dP tf ?_ (az _ _)) e));refine (aB e0).trans ?_;refine (aB ?_).trans bK;refine rA (gR ev (by rw [decide_eq_true q];rfl)) ?_;exact bK
  ·rw [if_neg q] at h
   by_cases hl:(hx (1*2^i)).length≤1000
   ·rw [if_pos hl] at h
    have ea:cj (eg (a9 1) (sB rW (a9 3) (af [(a9 3)] oY))) (R7 fl j (some (.d (.int i))) (some (.d (.int (1*2^i))))) (μ++[.live (bS ns)])=some (.next,R7 fl j (some (.d (.int i))) (some (.d (.int (1*2^i)))),μ++[.live (bS (ns++[rF (1*2^i)]))]):=by
     have hd:sB rW (a9 3) (af [(a9 3)] oY) (R7 fl j (some (.d (.int i))) (some (.d (.int (1*2^i))))) (μ++[.live (bS ns)])=some (.d (.str (rF (1*2^i))),μ++[.live (bS ns)]):=by
      have hh:=uU (f:=a9 3) (ρ:=R7 fl j (some (.d (.int i))) (some (.d (.int (1*2^i))))) (μ:=μ++[.live (bS ns)]) (x:=1*2^i) rfl hl;have hg:a9 3 (R7 fl j (some (.d (.int i))) (some (.d (.int (1*2^i))))) (μ++[.live (bS ns)])=some (.d (.int (1*2^i)),μ++[.live (bS ns)]):=rfl;exact (b5 hg).trans ((bV (rfl:jM (.d (.int (1*2^i)))=some _)).trans ((b5 hh).trans (bV rfl)))
     refine rA (eB (gw (j:=j) rfl hd (by subst hj;exact dq) (aa (by simp only [bS,xP];lia)))) ?_;subst hj;refine rA fm ?_
     simp [bS]
    have ex:ik 0 (a9 3) B6 (R7 fl j (some (.d (.int i))) (some (.d (.int (1*2^i))))) (μ++[.live (bS (ns++[rF (1*2^i)]))])=some (.next,R7 (It fl (1*2^i)) j (some (.d (.int i))) (some (.d (.int (1*2^i)))),μ++[.live (bS (ns++[rF (1*2^i)]))]):=rfl;have en:tW (gf (a9 0)) (R7 (It fl (1*2^i)) j (some (.d (.int i))) (some (.d (.int (1*2^i))))) (μ++[.live (bS (ns++[rF (1*2^i)]))])=some (decide (It fl (1*2^i)=0),μ++[.live (bS (ns++[rF (1*2^i)]))]):=by
     have:=not_of (nW (f:=a9 0) (ρ:=R7 (It fl (1*2^i)) j (some (.d (.int i))) (some (.d (.int (1*2^i))))) (μ:=μ++[.live (bS (ns++[rF (1*2^i)]))]) (V:=.d (.int (It fl (1*2^i)))) rfl rfl)
     rw [B0,Bool.not_not] at this
     exact this
    by_cases z:It fl (1*2^i)=0
    ·rw [if_pos z] at h
     refine cA h ?_;refine (jI (It fl (1*2^i)) (some (.d (.int i))) (some (.d (.int (1*2^i)))) (Wl tf ?_));refine (aB e0).trans ?_;refine FA ?_;refine rA (gH ev (by rw [decide_eq_false q];rfl)) ?_;refine rA (aB ea) ?_;refine rA (aB ex) ?_;refine FA ?_;refine rA (gH en (decide_eq_true z)) ?_;exact FA TP
    ·rw [if_neg z] at h
     refine jH (Jj xs μ j hj r (It fl (1*2^i)) (ns++[rF (1*2^i)]) (some (.d (.int i))) (some (.d (.int (1*2^i)))) l (λk hk=>hr k (by simp [hk])) h (by simp only [be,AH,EZ];lia)) λfl' a' b' e=>?_;refine (jI fl' a' b' (LM (dP tf ?_ (az _ _)) e));refine (aB e0).trans ?_;refine (aB ?_).trans bK;refine rA (gH ev (by rw [decide_eq_false q];rfl)) ?_;refine rA (aB ea) ?_;refine rA (aB ex) ?_;refine (aB ?_).trans bK;refine rA (gR en (decide_eq_false z)) ?_;exact bK
   ·rw [if_neg hl] at h
    exact cv h
theorem BP:∀l:List Str,nr (bS l)=some l
 | []=>rfl
 |x::l=>by
  exact (bV (rfl:dS (.str x)=some x)).trans (bV (BP l))
theorem tM{l:List Str}{sep:Str}(hf:f ρ μ=some (V,μ))(hp:dc μ V=some (bS l))(hz:(l.map (·.length)).sum+l.length*sep.length≤10000):dx (kS sep) [f] fc ρ μ=some (.d (.str (LA sep l)),μ):=by
 exact Cr hf hp (BP l) (L2 hz (by decide))
set_option tactic.hygienic true in
theorem s7{fl:Int}(h:pf fl=some x):cO [.d (.int fl)] μ=some (.d (.str x),μ):=by
 unfold pf at h
 split at h
 ·rename_i l hl
  split at h
  ·rename_i hz
   refine cA h ?_;refine jH (Jj (fK 0 32) μ μ.length rfl (zC 32) fl [] none none l (λi hi=>D2.mp hi) hl (by decide)) λfl' a' b' e=>?_;refine (d0 (k:=1) (ρ':=R7 fl' μ.length a' b') (μ':=μ++[.live (bS l)]) (x:=.str (LA ", " l)) rfl ?_).trans (by exact rA mF rfl);refine (?_:f7 [some (.d (.int fl)),none,none,none] μ=_);unfold f7;have e0:Nb [some (.d (.int fl)),none,none,none] μ=some (.next,R7 fl μ.length none none,μ++[.live []]):=by
    unfold Nb;refine rA (bO wc) ?_;rfl
   have e1:Ph (R7 fl μ.length none none) (μ++[.live []])=some (.next,R7 fl' μ.length a' b',μ++[.live (bS l)]):=by
    unfold Ph;refine rA (gM (xs:=fK 0 32) (gg:=none) (μ1:=μ++[.live []]) rfl) ?_;exact e
   have e2:OI (R7 fl' μ.length a' b') (μ++[.live (bS l)])=some (.ret (.d (.str (LA ", " l))),R7 fl' μ.length a' b',μ++[.live (bS l)]):=by
    unfold OI;exact ee (tM (V:=.c μ.length) rfl (eP dq) (by refine rA (show (Ku ", ").length=2 from by decide) ?_;exact hz))
   refine rA (aB e0) ?_;refine rA (aB e1) ?_;exact rA (cV e2) rfl
  ·exact cv h
 ·exact cv h
noncomputable def wX:List (List Nat):=[[79,80,84,73,77,73,90,69,68],[78,69,87,76,79,67,65,76,83],[86,65,82,65,82,71,83],[86,65,82,75,69,89,87,79,82,68,83],[78,69,83,84,69,68],[71,69,78,69,82,65,84,79,82],[78,79,70,82,69,69],[67,79,82,79,85,84,73,78,69],[73,84,69,82,65,66,76,69,95,67,79,82,79,85,84,73,78,69],[65,83,89,78,67,95,71,69,78,69,82,65,84,79,82],[48,120,52,48,48],[48,120,56,48,48],[48,120,49,48,48,48],[48,120,50,48,48,48],[48,120,52,48,48,48],[48,120,56,48,48,48],[48,120,49,48,48,48,48],[48,120,50,48,48,48,48],[48,120,52,48,48,48,48],[48,120,56,48,48,48,48],[48,120,49,48,48,48,48,48],[48,120,50,48,48,48,48,48],[48,120,52,48,48,48,48,48],[48,120,56,48,48,48,48,48],[48,120,49,48,48,48,48,48,48],[48,120,50,48,48,48,48,48,48],[48,120,52,48,48,48,48,48,48],[48,120,56,48,48,48,48,48,48],[48,120,49,48,48,48,48,48,48,48],[48,120,50,48,48,48,48,48,48,48],[48,120,52,48,48,48,48,48,48,48],[48,120,56,48,48,48,48,48,48,48]]
def wd(k:Nat):Str:=tS (wX.getD k [])
def hH:Str:=", "
theorem BX:hH=⟨#[44,32]⟩:=by decide
theorem MC:((zC 32).all λi=>rF (1*2^i)==wd i&&decide ((hx (1*2^i)).length≤1000))=true:=by decide+kernel
theorem aa0:(wX.all λw=>decide (w.length≤20)&&!w.contains 44)=true:=by decide+kernel
theorem JX(k:Nat):(wX.getD k []).length≤20∧44∉wX.getD k []:=by
 rw [LQ];cases h:wX[k]? with
 |none=>simp
 |some w=>
  have:=AP.mp aa0 w (GR h)
  simp only [Fe,decide_eq_true_eq,MV,N3,decide_eq_false_iff_not] at this
  exact this
noncomputable def xO:List Nat→Int→List Nat×Option Int
 | [],fl=>([],some fl)
 |i::r,fl=>if D3 fl (1*2^i)=0 then xO r fl else if It fl (1*2^i)=0 then ([i],none) else
  (i::(xO r (It fl (1*2^i))).1,(xO r (It fl (1*2^i))).2)
noncomputable def KO(b:List Nat):Option Int→List Str
 |none=>b.map wd
 |some fl=>b.map wd++[hx fl]
theorem tw:∀ (r:List Nat) (fl:Int) (ns:List Str),(∀i∈r,i<32)→(∀fl',(xO r fl).2=some fl'→(hx fl').length≤1000)→uc r fl ns=some (ns++KO (xO r fl).1 (xO r fl).2)
 | [],fl,ns,_,h=>by
  have:=h fl rfl
  simp only [uc,if_pos this,xO,KO,M3,Lr]
 |i::r,fl,ns,hr,h=>by
  have hw:=AP.mp MC i (D2.mpr (hr i (by simp)));simp only [Fe,beq_iff_eq,decide_eq_true_eq] at hw
  have hr':∀i∈r,i<32:= λk hk=>hr k (by simp [hk]);rw [uc];rw [xO] at h⊢
  by_cases q:D3 fl (1*2^i)=0
  ·rw [if_pos q] at h⊢
   refine rA (if_pos q) ?_;exact tw r fl ns hr' h
  ·rw [if_neg q] at h⊢
   refine rA (if_neg q) ?_;refine rA (if_pos hw.2) ?_;refine rA hw.1 ?_
   by_cases z:It fl (1*2^i)=0
   ·refine rA (if_pos z) ?_;refine rA (if_pos z) ?_;rfl
   ·rw [if_neg z] at h⊢
    refine rA (if_neg z) ?_;refine rA (tw r _ _ hr' h) ?_;cases (xO r (It fl (1*2^i))).2<;>simp [KO]
theorem uI:∀ (r:List Nat) (fl:Int),(xO r fl).1.length≤r.length
 | [],_=>by simp [xO]
 |i::r,fl=>by
  rw [xO]
  split
  ·have:=uI r fl;simp only [AH];lia
  ·split
   ·simp
   ·have:=uI r (It fl (1*2^i));simp only [AH];lia
theorem uN:∀b:List Nat,((b.map wd).map (·.length)).sum≤20*b.length
 | []=>by simp
 |i::b=>by
  have:=uN b
  have h:=(JX i).1;simp only [F9,PA,AH]
  have:(wd i).length=(wX.getD i []).length:=eD _
  lia
theorem ae5{fl:Int}{b:List Nat}{o:Option Int}(h:xO (zC 32) fl=(b,o))(ho:∀fl',o=some fl'→(hx fl').length≤1000):pf fl=some (LA ", " (KO b o)):=by
 have e:=tw (zC 32) fl [] (λi hi=>D2.mp hi) (by refine rA h ?_;exact ho);have hb:=uI (zC 32) fl;rw [h] at e hb
 unfold pf;refine rA e ?_;dsimp only;refine rA (Lr _) ?_;rw [if_pos];have hs:=uN b;simp only [J4] at hb
 cases o with
 |none=>simp only [KO,xP];lia
 |some fl'=>
  have:=ho fl' rfl
  simp only [KO,be,xP,JV,S9,F9,M3,PA,Sb,AH,EZ];lia
theorem ZD{fl:Int}{b:List Nat}{o:Option Int}(h:xO (zC 32) fl=(b,o))(ho:∀fl',o=some fl'→(hx fl').length≤1000):cO [.d (.int fl)] μ=some (.d (.str (LA ", " (KO b o))),μ):=s7 (ae5 h ho)
noncomputable def iH(mask k:Nat):Bool:=mask/2^k%2==1
noncomputable def gY(low f mask:Nat):List Nat:=((zC f).filter (iH mask)).map λk=>low+k
theorem HS:((zC 13).all λlow=>(zC 32).all λmask=>xO (zC 32) ((mask:Int)*2^low)==(gY low 5 mask,if mask=0 then some 0 else none))=true:=by decide+kernel
theorem Mw:((zC 6).all λf=>(zC 13).all λlow=>(zC 5).all λr=>xO (zC 32) ((2^f-1)*2^low+2^31+((r:Int)-3)*2^32)==((zC f).map (λk=>low+k)++[31],if r=3 then none else some (((r:Int)-3)*2^32)))=true:=by decide+kernel
theorem Ul:((zC 5).all λr=>decide ((hx (((r:Int)-3)*2^32)).length≤1000))=true:=by decide+kernel
theorem Yo:hx 0="0x0":=by decide+kernel
theorem ad2:((zC 6).all λf=>(zC (2^f)).all λmask=>(zC 5).filter (iH mask)==(zC f).filter (iH mask))=true:=by decide+kernel
noncomputable def cG:List (List Nat)→List Nat
 | []=>[]
 | [w]=>w
 |w::v::r=>w++[44,32]++cG (v::r)
theorem Cz:∀ws:List (List Nat),U7 hH (ws.map tS)=tS (cG ws)
 | []=>rfl
 | [w]=>rfl
 |w::v::r=>by
  have ih:=Cz (v::r);refine (?_:tS w++hH++U7 hH ((v::r).map tS)=_);refine rA ih ?_;apply UV;refine rA (P9 _ _) ?_;refine rA (P9 _ _) ?_;refine rA BX ?_
  simp [tS,cG]
theorem qB(ws:List (List Nat)):LA hH (ws.map tS)=tS (cG ws):=(S8 _ _).trans (Cz ws)
theorem yy(l:List Nat)(i:Nat):Sj (tS l) hH (tS l).length i↔(l[i]? =some 44∧l[i+1]? =some 32):=by
 unfold Sj;refine rA (StrLaws.subAt_eq _ _ _) ?_;refine rA (eD _) ?_;refine rA (fY _) ?_;refine rA BX ?_;refine (?_:(i+2≤l.length∧((l.drop i).take 2==[44,32])=true)↔_);have e0:l[i]? =(l.drop i)[0]? :=by rw [Q0];rfl
 have e1:l[i+1]? =(l.drop i)[1]? :=by rw [Q0]
 refine rA e0 ?_;refine rA e1 ?_;refine rA (propext (beq_iff_eq)) ?_;have hl:(l.drop i).length=l.length-i:=Rr;constructor
 ·intro zi0
  refine f_ zi0 λh e=>?_;cases hd:l.drop i with
  |nil=>rw [hd] at e;cases e
  |cons a r=>
   cases r with
   |nil=>rw [hd] at e;simp at e
   |cons b r=>rw [hd] at e;simpa using e
 ·intro zi1
  refine f_ zi1 λh e=>?_;cases hd:l.drop i with
  |nil=>rw [hd] at h;exact cv h
  |cons a r=>
   cases r with
   |nil=>rw [hd] at e;simp at e
   |cons b r=>
    rw [hd] at h e hl
    simp only [AH] at hl
    simp only [List.getElem?_cons_zero,Oe,Option.some.injEq] at h e
    subst h e;exact ⟨by lia,rfl⟩
theorem CE(a w b:List Nat):OS (tS (a++w++b)) a.length (a.length+w.length)=tS w:=by
 apply UV;apply Array.toList_inj.mp;refine rA (StrLaws.strSub_toList _ _ _) ?_;refine rA (fY _) ?_;refine rA (fY _) ?_;refine rA (L0 _ _) ?_;refine rA (ER _ _ _) ?_;refine rA Qi ?_;exact rA Pd rfl
theorem vA(l:List Nat):∀ (ws:List (List Nat)) (pre:List Nat) (cuts:List Nat) (f:Nat),ws≠[]→(∀w∈ws,44∉w)→l=pre++cG ws→
  StrLaws.ChainG (tS l) hH (tS l).length pre.length cuts f→(∀k,f≤k→¬Sj (tS l) hH (tS l).length k)→TG (tS l) 2 pre.length cuts=ws.map tS
 | [],_,_,_,h,_,_,_,_=>absurd rfl h
 | [w],pre,cuts,f,_,hw,hl,hG,_=>by
  cases cuts with
  |nil=>
   refine (?_:[OS (tS l) pre.length (tS l).length]=[tS w])
   have:=CE pre w []
   rw [D8] at this
   refine rA hl ?_;refine rA (eD _) ?_;refine rA be ?_;simp only [cG] at this⊢
   exact rA this rfl
  |cons c r=>
   refine mm hG λh1 h2 zz zz=>?_;rw [yy,hl] at h2
   have h2:=h2.1;rw [II h1] at h2
   exact absurd (GR h2) (hw w (by simp))
 |w::v::r,pre,cuts,f,_,hw,hl,hG,hn=>by
  have hat:Sj (tS l) hH (tS l).length (pre.length+w.length):=by
   refine rA (propext (yy _ _)) ?_;refine rA hl ?_;simp only [cG];have e1:(pre++(w++[44,32]++cG (v::r)))=(pre++w)++([44,32]++cG (v::r)):=by simp
   have hl2:pre.length+w.length=(pre++w).length:=be.symm;refine rA e1 ?_;refine rA hl2 ?_;constructor
   ·rw [II (Dj _)];refine rA (Nat.sub_self _) ?_;rfl
   ·rw [II (by lia)];refine rA (L0 _ _) ?_;rfl
  have hno:∀k,pre.length≤k→k<pre.length+w.length→¬Sj (tS l) hH (tS l).length k:=by
   intro k h1 h2 h;rw [yy,hl] at h
   have h:=h.1;simp only [cG] at h
   rw [II h1,ER,Fb (by lia)] at h
   exact hw w (by simp) (GR h)
  cases cuts with
  |nil=>
   have e:f=pre.length:=hG;exact absurd hat (hn _ (by lia))
  |cons c r'=>
   refine mm hG λh1 h2 h3 h4=>?_;have hc:c=pre.length+w.length:=by
    rcases QD c (pre.length+w.length) with q|q|q
    ·exact absurd h2 (hno c h1 q)
    ·exact q
    ·exact absurd hat (h3 _ (by lia) q)
   subst hc;have hs:hH.length=2:=by decide
   rw [hs] at h4
   have hpre:(pre++w++[44,32]).length=pre.length+w.length+2:=by simp;lia
   have ih:=vA l (v::r) (pre++w++[44,32]) r' f (by simp) (λu hu=>hw u (by simp at hu⊢;exact .inr hu)) (by refine rA hl ?_;simp [cG]) (by refine rA hpre ?_;exact h4) hn;rw [hpre] at ih
   refine (?_:OS (tS l) pre.length (pre.length+w.length)::TG (tS l) 2 (pre.length+w.length+2) r'=_);refine rA ih ?_;refine rA hl ?_
   have:=CE pre w ([44,32]++cG (v::r))
   simp only [cG,F9,←ER] at this⊢
   exact rA this rfl
theorem r5(ws:List (List Nat))(h0:ws≠[])(hw:∀w∈ws,44∉w):Od (tS (cG ws)) (Lz (tS (cG ws)) hH 0 (tS (cG ws)).length ((tS (cG ws)).length+1)) hH.length=ws.map tS:=by
 refine au (StrLaws.occ_tight (tS (cG ws)) hH (by decide)) λf hG hn=>?_;refine rA (Rf _ _ _) ?_;refine rA (show hH.length=2 from by decide) ?_;exact vA (cG ws) ws [] _ f h0 hw rfl hG hn
theorem An(ws:List (List Nat))(h0:ws≠[])(hw:∀w∈ws,44∉w):PP (tS (cG ws)) hH=ws.map tS:=by
 have hp:=r5 ws h0 hw;unfold PP
 split
 ·rename_i h
  simp only [PN,decide_eq_true_eq,eD,show hH.length=2 from by decide] at h
  have hk:SV hH=1:=by decide+kernel
  rcases h with h|h
  ·match ws,h with
   | [w],_=>rfl
   |w::v::r,h=>simp [cG] at h;lia
  ·rw [hk] at h
   exfalso
   unfold SV at h
   split at h
   ·lia
   ·split at h<;>lia
 ·split
  ·rename_i h
   rw [U1.mp h,Rf] at hp
   refine rB hp ?_;refine (?_:[_]=[OS _ 0 _]);exact rA (StrLaws.sub_whole _) rfl
  ·exact hp
noncomputable def xR:Fm→List Fm
 | .bin true l r=>[l,r]
 |F=>[F]
noncomputable def fM(G:List Fm):List Fm:=((((G.flatMap xR).flatMap xR).flatMap xR).flatMap xR).flatMap xR
noncomputable def bJ(G:List Fm):List Nat:=G.flatMap Fm.pl
noncomputable def bk(m:List Nat)(s:List Nat):Bool:=s.all λp=>s.contains (m.getD p 0)
noncomputable def gQ(l r:Fm)(B:List Fm):List Fm→List Fm→List (List Fm×List Fm)
 | [],pre=>[([l],pre++r::B)]
 |F::A,pre=>(F::(A++[l]),pre++r::B)::gQ l r B A (pre++[F])
noncomputable def iV(l r:Fm)(A:List Fm):List Fm→List Fm→List (List Fm×List Fm)
 | [],pre=>[(r::pre,A++[l])]
 |F::B,pre=>(r::pre,A++l::F::B)::iV l r A B (pre++[F])
theorem Vj{pre:List Fm}:gQ l r B [] pre=[([l],pre++r::B)]:=rfl
theorem Wi{A pre:List Fm}:gQ l r B (F::A) pre=(F::(A++[l]),pre++r::B)::gQ l r B A (pre++[F]):=rfl
theorem VB{A pre:List Fm}:iV l r A [] pre=[(r::pre,A++[l])]:=rfl
theorem UT{A pre:List Fm}:iV l r A (F::B) pre=(r::pre,A++l::F::B)::iV l r A B (pre++[F]):=rfl
theorem FK:xR (.at i)=[.at i]:=rfl
theorem Ru:xR (.bin true l r)=[l,r]:=rfl
theorem Qx:xR (.bin false l r)=[.bin false l r]:=rfl
noncomputable def two:List Fm→Bool
 | [.at _,.at _]=>true
 |_=>false
noncomputable def xQ(m:List Nat)(rc:List Fm→Bool):List Fm→List Fm→Bool
 |_,[]=>false
 |A,F::B=>match F with
  | .bin false l r=>(match (gQ l r B A []++iV l r A B []).find? (λw=>bk m (bJ w.1)) with
   |some w=>rc w.1&&rc w.2
   |none=>xQ m rc (A++[F]) B)
  |_=>xQ m rc (A++[F]) B
noncomputable def pr(m:List Nat):Nat→List Fm→Bool
 |0,_=>false
 |k+1,G=>two (fM G)||xQ m (pr m k) [] (fM G)
noncomputable def eK:List Fm→Nat→List Jn
 | [],_=>[]
 |F::r,n=>(gr F n).2++eK r (n+(gr F n).2.length)
theorem t8{r:List Fm}:eK (F::r) n=(gr F n).2++eK r (n+(gr F n).2.length):=rfl
noncomputable def start(m:List Nat)(n:Nat):List Nat:=(zC 6).map (λi=>min i (m.getD i 0))++Fh 6 n
noncomputable def ii(J:List Jn):List (Nat×Nat):=(J.filter λx=>!x.par).flatMap λx=>[(x.nd,x.a),(x.nd,x.b)]
noncomputable def sU:Nat→List Jn→List (Nat×Nat)
 |_,[]=>[]
 |k,f::r=>(f.nd,if k%2=1 then f.b else f.a)::sU (k/2) r
theorem Z1:sU k []=[]:=rfl
theorem Ka{f:Jn}{r:List Jn}:sU k (f::r)=(f.nd,if k%2=1 then f.b else f.a)::sU (k/2) r:=rfl
theorem MZ{l:List Nat}:di l []=l:=rfl
noncomputable def Xe(l:List Nat):Bool:=l != []&&l.all (· ==l.headD 0)
noncomputable def j7(L:List Nat)(forks:List Jn)(mask:Nat):Bool:=Xe (if L=[] then [] else di L (sU mask forks))
noncomputable def trees(m:List Nat)(G:List Fm):Bool:=
 (zC (2^ ((eK G 0).filter (·.par)).length)).all (j7 (di (start m (eK G 0).length) (ii (eK G 0))) ((eK G 0).filter (·.par)))
noncomputable def aH:List (List Nat):=[[5,4,3,2,1,0],[5,2,1,4,3,0],[3,2,1,0,5,4],[1,0,5,4,3,2],[1,0,3,2,5,4]]
noncomputable def Qt:Nat→Nat→Nat→List Fm
 |0,_,_=>[]
 |_+1,a,1=>[.at a]
 |k+1,a,n=>(Fh 1 (n-1)).flatMap λi=>(Qt k a i).flatMap λl=>(Qt k (a+i) (n-i)).flatMap λr=>[.bin true l r,.bin false l r]
theorem ad8{a:Nat}:∀ {n:Nat},n≠1→Qt (k+1) a n=(Fh 1 (n-1)).flatMap λi=>(Qt k a i).flatMap λl=>(Qt k (a+i) (n-i)).flatMap λr=>[.bin true l r,.bin false l r]
 |0,_=>rfl
 |1,h=>absurd rfl h
 |_+2,_=>rfl
noncomputable def enG:Nat→Nat→Nat→List (List Fm)
 |0,_,n=>if n=0 then [[]] else []
 |r+1,a,n=>(Fh 1 n).flatMap λi=>(Qt 6 a i).flatMap λF=>(enG r (a+i) (n-i)).map λG=>F::G
theorem YK{r a:Nat}:enG (r+1) a n=(Fh 1 n).flatMap λi=>(Qt 6 a i).flatMap λF=>(enG r (a+i) (n-i)).map λG=>F::G:=rfl
theorem nR:∀F:Fm,1≤F.pl.length
 | .at _=>Dj 1
 | .bin _ l r=>by have:=nR l;simp only [Fm.pl,be];lia
theorem ko{a:Nat}{x y:List Nat}(h:x++y=Fh a n):x=Fh a x.length∧y=Fh (a+x.length) (n-x.length)∧x.length≤n:=by
 have hl:=congrArg NL h;simp only [be,Lh] at hl
 have e:Fh a n=Fh a x.length++Fh (a+x.length) (n-x.length):=by
  refine rA List.range'_append_1 ?_;congr 1;lia
 rw [e] at h
 have:=Uq h (by simp)
 exact (fu this.1 this.2 (by lia))
theorem uE:∀ (F:Fm) (k a n:Nat),F.pl=Fh a n→n≤k→F∈Qt k a n
 | .at i,k,a,n,h,hk=>by
  have hl:=congrArg NL h;simp only [Fm.pl,AH,EZ,Lh] at hl
  subst hl;cases k with
  |zero=>lia
  |succ k=>
   obtain rfl:i=a:=by simpa [Fm.pl] using h
   exact AA.mpr rfl
 | .bin p l r,k,a,n,h,hk=>by
  refine dW (ko h) λh1 h2 h3=>?_;have hl:=congrArg NL h;simp only [Fm.pl,be,Lh] at hl
  have p1:=nR l;have p2:=nR r;cases k with
  |zero=>lia
  |succ k=>
   refine rA (ad8 (by lia)) ?_;refine Lk.mpr (aZ l.pl.length (by refine rA (propext (P7)) ?_;lia) ?_);refine Lk.mpr (aZ l (uE l k a _ h1 (by lia)) ?_);refine Lk.mpr (aZ r (uE r k _ _ h2 (by lia)) ?_);cases p<;>simp
theorem C6:∀ (G:List Fm) (a n:Nat),bJ G=Fh a n→n≤6→G∈enG G.length a n
 | [],a,n,h,_=>by
  have hl:=congrArg NL h;simp only [bJ,List.flatMap_nil,EZ,Lh] at hl
  subst hl;exact AA.mpr rfl
 |F::G,a,n,h,hk=>by
  have h':F.pl++bJ G=Fh a n:=h;refine dW (ko h') λh1 h2 h3=>?_;have p1:=nR F;refine rA AH ?_;refine rA YK ?_;refine Lk.mpr (aZ F.pl.length (by refine rA (propext (P7)) ?_;lia) ?_);refine Lk.mpr (aZ F (uE F 6 a _ h1 (by lia)) ?_);exact Dc.mpr (aZ G (C6 G _ _ h2 (by lia)) rfl)
noncomputable def LP{α:Type}(t:Nat)(k:Nat→α):α:=Nat.casesOn t (k 0) (λn=>k (Vi n))
theorem o5{α:Type}(t:Nat)(k:Nat→α):LP t k=k t:=by cases t<;>rfl
theorem Ho{a:Nat}(h:¬a=b):Qj a b=false:=by
 cases e:Qj a b with
 |false=>rfl
 |true=>exact absurd (Nat.eq_of_beq_eq_true e) h
noncomputable def KN(L i:Nat):Nat:=Vf (Nat.div L (Nat.pow 16 i)) 16
noncomputable def unP(u v:Nat):Nat→Nat→Nat
 |0,_=>0
 |k+1,L=>Nat.add (bif Qj (Vf L 16) v then u else Vf L 16) (Nat.mul 16 (unP u v k (Nat.div L 16)))
noncomputable def pW(N L a b:Nat)(k:Nat→Bool):Bool:=
 LP (KN L a) λu=>LP (KN L b) λv=>bif Qj u v then false else LP (unP u v N L) k
noncomputable def JL(u:Nat):Nat→Nat→Bool
 |0,_=>true
 |k+1,L=>Qj (Vf L 16) u&&JL u k (Nat.div L 16)
noncomputable def QE(N:Nat):List Jn→Nat→Bool
 | [],L=>JL (KN L 0) N L
 |f::r,L=>pW N L f.nd f.b (QE N r)&&pW N L f.nd f.a (QE N r)
noncomputable def stP(N:Nat):List Jn→Nat→(Nat→Bool)→Bool
 | [],L,k=>k L
 |f::r,L,k=>pW N L f.nd f.a λL=>pW N L f.nd f.b λL=>stP N r L k
noncomputable def Pi{α:Type}:Fm→Nat→List Jn→List Jn→(Nat→Nat→List Jn→List Jn→α)→α
 | .at i,n,S,P,k=>LP i λi=>k i n S P
 | .bin p l r,n,S,P,k=>Pi l n S P λx n S P=>Pi r n S P λy n S P=>LP (6+n) λnd=>LP (n+1) λn=>bif p then k nd n S (P++[⟨true,nd,x,y⟩]) else k nd n (S++[⟨false,nd,x,y⟩]) P
noncomputable def Df{α:Type}:List Fm→Nat→List Jn→List Jn→(List Jn→List Jn→α)→α
 | [],_,S,P,k=>k S P
 |F::G,n,S,P,k=>Pi F n S P λzz n S P=>Df G n S P k
theorem Uy{α:Type}{P:List Jn}{k:Nat→Nat→List Jn→List Jn→α}:Pi (.at i) n S P k=LP i λi=>k i n S P:=rfl
theorem ae9{α:Type}{p:Bool}{P:List Jn}{k:Nat→Nat→List Jn→List Jn→α}:Pi (.bin p l r) n S P k=Pi l n S P λx n S P=>Pi r n S P λy n S P=>LP (6+n) λnd=>LP (n+1) λn=>bif p then k nd n S (P++[⟨true,nd,x,y⟩]) else k nd n (S++[⟨false,nd,x,y⟩]) P:=rfl
theorem W7{α:Type}{G:List Fm}{P:List Jn}{k:List Jn→List Jn→α}:Df (F::G) n S P k=Pi F n S P λzz n S P=>Df G n S P k:=rfl
noncomputable def eZ:List Nat→Nat
 | []=>0
 |a::l=>a+16*eZ l
noncomputable def z7(N L:Nat)(G:List Fm):Bool:=Df G 0 [] [] λS P=>stP N S L (QE N P)
theorem SZ{a:Nat}{l:List Nat}:eZ (a::l)=a+16*eZ l:=rfl
theorem me{a:Nat}{l:List Nat}(h:a<16):eZ (a::l)/16=eZ l∧eZ (a::l)%16=a:=by
 rw [SZ];lia
theorem pg:∀ (l:List Nat) (i:Nat),(∀x∈l,x<16)→KN (eZ l) i=l.getD i 0
 | [],i,_=>by
  refine (?_:0/16^i%16=0);exact rA (Nat.zero_div _) rfl
 |a::l,0,h=>by
  refine (?_:eZ (a::l)/16^0%16=a);refine rA (TU _) ?_;refine rA (Nat.div_one _) ?_;exact (me (h a (by simp))).2
 |a::l,i+1,h=>by
  refine (?_:eZ (a::l)/16^ (i+1)%16=_);refine rA (Q2 _ _) ?_;refine rA (Nat.mul_comm _ _) ?_;refine rB (RH _ _ _) ?_;refine rA ((me (h a (by simp))).1) ?_;exact (pg l i λx hx=>h x (by simp [hx])).trans (by simp)
noncomputable def Fo(ls:List Nat)(a b:Nat):List Nat:=ls.map λx=>if x=b then a else x
theorem H5(u v:Nat):∀ (l:List Nat),(∀x∈l,x<16)→unP u v l.length (eZ l)=eZ (Fo l u v)
 | [],_=>rfl
 |a::l,h=>by
  have e:=me (l:=l) (h a (by simp));refine (?_:(bif Qj (eZ (a::l)%16) v then u else eZ (a::l)%16)+16*unP u v l.length (eZ (a::l)/16)=_);refine rA e.1 ?_;refine rA e.2 ?_;refine rA (H5 u v l λx hx=>h x (by simp [hx])) ?_;refine (?_:_=(if a=v then u else a)+16*eZ (Fo l u v))
  by_cases q:a=v
  ·refine rA (if_pos q) ?_;refine rA (show Qj a v=true from by rw [q];exact Nat.beq_refl v) ?_;rfl
  ·refine rA (if_neg q) ?_;refine rA (Ho q) ?_;rfl
theorem yL{l:List Nat}{u v:Nat}(h:∀x∈l,x<16)(hu:u<16):∀x∈Fo l u v,x<16:=by
 intro x hx;simp only [Fo,Dc] at hx
 refine au hx λy hy zq2=>?_;subst zq2
 split
 ·exact hu
 ·exact h y hy
theorem uP{l:List Nat}(h:∀x∈l,x<16)(i:Nat):l.getD i 0<16:=by
 rw [LQ];cases e:l[i]? with
 |none=>simp
 |some a=>exact h a (GR e)
theorem tI{l:List Nat}{a:Nat}{k:Nat→Bool}(h:∀x∈l,x<16):pW l.length (eZ l) a b k=if l.getD a 0=l.getD b 0 then false else k (eZ (Fo l (l.getD a 0) (l.getD b 0))):=by
 unfold pW;refine rA (o5 _ _) ?_;refine rA (o5 _ _) ?_;refine rA (pg l a h) ?_;refine rA (pg l b h) ?_;refine rA (o5 _ _) ?_;refine rA (H5 _ _ l h) ?_
 by_cases q:l.getD a 0=l.getD b 0
 ·refine rA (if_pos q) ?_;refine rA q ?_;refine rA (Nat.beq_refl _) ?_;rfl
 ·refine rA (if_neg q) ?_;refine rA (Ho q) ?_;rfl
theorem Bq(u:Nat):∀ (l:List Nat),(∀x∈l,x<16)→JL u l.length (eZ l)=l.all (· ==u)
 | [],_=>rfl
 |a::l,h=>by
  have e:=me (l:=l) (h a (by simp));refine (?_:(Qj (eZ (a::l)%16) u&&JL u l.length (eZ (a::l)/16))=_);refine rA e.1 ?_;refine rA e.2 ?_;refine rA (Bq u l λx hx=>h x (by simp [hx])) ?_;refine rA Mp ?_
  have:Qj a u=(a==u):=by
   by_cases q:a=u
   ·subst q;simp
   ·refine rA (Ho q) ?_;exact rA (beq_eq_false_iff_ne.mpr q) rfl
  exact rA this rfl
theorem BO:Xe []=false:=rfl
theorem zX{l:List Nat}{u v:Nat}(h:l≠[]):Fo l u v≠[]:=by
 intro q;exact h (O4.mp q)
theorem v6{l:List Nat}{u v:Nat}:(Fo l u v).length=l.length:=by simp [Fo]
theorem kQ(l:List Nat)(a b:Nat)(r:List (Nat×Nat)):di l ((a,b)::r)=if l.getD a 0=l.getD b 0 then [] else di (Fo l (l.getD a 0) (l.getD b 0)) r:=rfl
theorem Ii:∀ (forks:List Jn) (l:List Nat),(∀x∈l,x<16)→l≠[]→QE l.length forks (eZ l)=(zC (2^forks.length)).all λk=>Xe (di l (sU k forks))
 | [],l,h,hn=>by
  refine (?_:JL (KN (eZ l) 0) l.length (eZ l)=_);refine rA (pg l 0 h) ?_;refine rA (Bq _ l h) ?_;simp only [EZ,TU,List.range_one,Mp,List.all_nil,Bool.and_true,Z1,MZ,Xe]
  have:(l != [])=true:=by simpa using hn
  refine rA this ?_;refine rA (QU _) ?_;cases l<;>rfl
 |f::r,l,h,hn=>by
  have ih:∀ (a b:Nat),pW l.length (eZ l) a b (QE l.length r)=(zC (2^r.length)).all λk=>Xe (di l ((a,b)::sU k r)):=by
   intro a b;refine rA (tI h) ?_
   by_cases q:l.getD a 0=l.getD b 0
   ·refine rA (if_pos q) ?_
    symm
    refine rA (propext (TH)) ?_;refine (aZ 0 (D2.mpr (Ur _)) ?_);refine rA (kQ _ _ _ _) ?_;refine rA (if_pos q) ?_;refine rA BO ?_;exact HJ
   ·refine rA (if_neg q) ?_
    have:=Ii r (Fo l (l.getD a 0) (l.getD b 0)) (yL h (uP h _)) (zX hn)
    rw [v6] at this
    refine rA this ?_
    congr 1
    funext k
    refine rA (kQ _ _ _ _) ?_;exact rA (if_neg q) rfl
  refine (?_:(pW l.length (eZ l) f.nd f.b (QE l.length r)&&pW l.length (eZ l) f.nd f.a (QE l.length r))=_);refine rA (ih _ _) ?_;refine rA (ih _ _) ?_;refine rA (propext (PU)) ?_;refine rA (Fe _ _) ?_;rw [AP,AP,AP];simp only [D2];constructor
  ·intro zi0 k hk
   obtain ⟨h1,h2⟩:=zi0;rw [AH,Q2] at hk
   refine rA Ka ?_
   by_cases q:k%2=1
   ·refine rA (if_pos q) ?_;exact h1 (k/2) (by lia)
   ·refine rA (if_neg q) ?_;exact h2 (k/2) (by lia)
  ·intro hh
   constructor
   ·intro k hk
    have:=hh (2*k+1) (by refine rA AH ?_;refine rA (Q2 _ _) ?_;lia)
    rw [Ka] at this
    rw [if_pos (by lia),show (2*k+1)/2=k by lia] at this
    exact this
   ·intro k hk
    have:=hh (2*k) (by refine rA AH ?_;refine rA (Q2 _ _) ?_;lia)
    rw [Ka] at this
    rw [if_neg (by lia),show 2*k/2=k by lia] at this
    exact this
noncomputable def Lo(S:List Jn):List (Nat×Nat):=S.flatMap λx=>[(x.nd,x.a),(x.nd,x.b)]
theorem K9(k:Nat→Bool):∀ (S:List Jn) (l:List Nat),(∀x∈l,x<16)→l≠[]→(stP l.length S (eZ l) k=if di l (Lo S)=[] then false else k (eZ (di l (Lo S))))∧(di l (Lo S)≠[]→(di l (Lo S)).length=l.length∧∀x∈di l (Lo S),x<16)
 | [],l,h,hn=>⟨by show k (eZ l)=_;refine rA (show di l (Lo [])=l from rfl) ?_;exact rA (if_neg hn) rfl,λzz=>⟨rfl,h⟩⟩
 |f::r,l,h,hn=>by
  have e0:Lo (f::r)=(f.nd,f.a)::(f.nd,f.b)::Lo r:=rfl
  show (pW l.length (eZ l) f.nd f.a (λL=>pW l.length L f.nd f.b λL=>stP l.length r L k))=_∧_
  refine rA (tI h) ?_;refine rA e0 ?_;refine rA (kQ _ _ _ _) ?_
  by_cases q:l.getD f.nd 0=l.getD f.a 0
  ·refine rA (if_pos q) ?_;refine rA (if_pos q) ?_;exact ⟨rfl,λx=>absurd rfl x⟩
  ·refine rA (if_neg q) ?_;refine rA (if_neg q) ?_
   have h1:=yL (v:=l.getD f.a 0) h (uP h f.nd);have n1:=zX (u:=l.getD f.nd 0) (v:=l.getD f.a 0) hn;have e1:=v6 (l:=l) (u:=l.getD f.nd 0) (v:=l.getD f.a 0);generalize Fo l (l.getD f.nd 0) (l.getD f.a 0)=l1 at h1 n1 e1⊢
   refine rB e1 ?_;refine rA (tI h1) ?_;refine rA (kQ _ _ _ _) ?_
   by_cases q':l1.getD f.nd 0=l1.getD f.b 0
   ·refine rA (if_pos q') ?_;refine rA (if_pos q') ?_;exact ⟨rfl,λx=>absurd rfl x⟩
   ·refine rA (if_neg q') ?_;refine rA (if_neg q') ?_
    have h2:=yL (v:=l1.getD f.b 0) h1 (uP h1 f.nd);have n2:=zX (u:=l1.getD f.nd 0) (v:=l1.getD f.b 0) n1;have e2:=v6 (l:=l1) (u:=l1.getD f.nd 0) (v:=l1.getD f.b 0);generalize Fo l1 (l1.getD f.nd 0) (l1.getD f.b 0)=l2 at h2 n2 e2⊢
    refine rB e2 ?_;exact K9 k r l2 h2 n2
theorem zN{α:Type}:∀ (F:Fm) (n:Nat) (S P:List Jn) (k:Nat→Nat→List Jn→List Jn→α),
  Pi F n S P k=k (gr F n).1 (n+(gr F n).2.length) (S++(gr F n).2.filter λx=>!x.par) (P++(gr F n).2.filter (·.par))
 | .at i,n,S,P,k=>by simp only [Uy,o5,IT,List.filter_nil,D8,EZ,TV]
 | .bin p l r,n,S,P,k=>by
  refine rA ae9 ?_;refine rA (zN l _ _ _ _) ?_;refine rA (zN r _ _ _ _) ?_;refine rA (o5 _ _) ?_;refine rA (o5 _ _) ?_;cases p<;>simp [yH,Rd]
theorem Cd{α:Type}:∀ (G:List Fm) (n:Nat) (S P:List Jn) (k:List Jn→List Jn→α),Df G n S P k=k (S++(eK G n).filter λx=>!x.par) (P++(eK G n).filter (·.par))
 | [],n,S,P,k=>by rw [show eK [] n=[] from rfl];simp [show Df [] n S P k=k S P from rfl]
 |F::G,n,S,P,k=>by
  refine rA W7 ?_;rw [zN];refine rA (Cd G _ _ _ _) ?_;rw [t8]
  simp
theorem IQ{G:List Fm}(hm:∀x∈start m (eK G 0).length,x<16):trees m G=z7 (6+(eK G 0).length) (eZ (start m (eK G 0).length)) G:=by
 unfold z7;rw [Cd];refine rA (Lr _) ?_;refine rA (Lr _) ?_;have hl:(start m (eK G 0).length).length=6+(eK G 0).length:=by simp [start]
 have hn:start m (eK G 0).length≠[]:=by intro q;rw [q] at hl;simp at hl;lia
 refine f_ (K9 (QE (6+(eK G 0).length) ((eK G 0).filter (·.par))) ((eK G 0).filter λx=>!x.par) _ hm hn) λe h=>?_;rw [hl] at e
 refine rA e ?_;unfold trees;have hs:ii (eK G 0)=Lo ((eK G 0).filter λx=>!x.par):=rfl;refine rA hs ?_;generalize di (start m (eK G 0).length) (Lo ((eK G 0).filter λx=>!x.par))=L at h⊢
 by_cases q:L=[]
 ·refine rA (if_pos q) ?_
  refine rA (propext (TH)) ?_;refine (aZ 0 (D2.mpr (Ur _)) ?_);unfold j7;refine rA (if_pos q) ?_;refine rA BO ?_;exact HJ
 ·refine rA (if_neg q) ?_
  refine f_ (h q) λh1 h2=>?_;refine rB hl ?_;refine rB h1 ?_;refine rA (Ii _ L h2 q) ?_;unfold j7;simp only [if_neg q]
noncomputable def l8:Fm→Nat
 | .at i=>Nat.pow 2 i
 | .bin _ l r=>Ps (l8 l) (l8 r)
noncomputable def v9:List Fm→Nat
 | []=>0
 |F::A=>Ps (l8 F) (v9 A)
noncomputable def Kk:List Nat→Nat→Bool
 | [],_=>true
 |p::r,x=>(Qj (Nat.land x p) 0||Qj (Nat.land x p) p)&&Kk r x
noncomputable def z9(ps:List Nat)(l r:Fm)(B:List Fm):List Fm→List Fm→Option (List Fm×List Fm)
 | [],pre=>bif Kk ps (l8 l) then some ([l],pre++r::B) else none
 |F::A,pre=>bif Kk ps (Ps (l8 F) (Ps (v9 A) (l8 l))) then some (F::(A++[l]),pre++r::B) else z9 ps l r B A (pre++[F])
noncomputable def zl(ps:List Nat)(l r:Fm)(A:List Fm):List Fm→List Fm→Option (List Fm×List Fm)
 | [],pre=>bif Kk ps (Ps (l8 r) (v9 pre)) then some (r::pre,A++[l]) else none
 |F::B,pre=>bif Kk ps (Ps (l8 r) (v9 pre)) then some (r::pre,A++l::F::B) else zl ps l r A B (pre++[F])
noncomputable def XW(ps:List Nat)(rc:List Fm→Bool):List Fm→List Fm→Bool
 |_,[]=>false
 |A,.bin false l r::B=>match z9 ps l r B A [] with
  |some w=>rc w.1&&rc w.2
  |none=>match zl ps l r A B [] with
   |some w=>rc w.1&&rc w.2
   |none=>XW ps rc (A++[.bin false l r]) B
 |A,F::B=>XW ps rc (A++[F]) B
noncomputable def prM(ps:List Nat):Nat→List Fm→Bool
 |0,_=>false
 |k+1,G=>two (fM G)||XW ps (prM ps k) [] (fM G)
noncomputable def F8:List (List Nat):=[[33,18,12],[33,6,24],[9,6,48],[3,36,24],[3,12,48]]
def O7(x:Nat)(s:List Nat):Prop:=∀p,x.testBit p=true↔p∈s
theorem Wg(i:Nat):O7 (Nat.pow 2 i) [i]:= λp=>by
 refine (?_:(2^i).testBit p=true↔_);refine rA Nat.testBit_two_pow ?_;simp [eq_comm]
theorem O7.or{x y:Nat}{s t:List Nat}(h:O7 x s)(h':O7 y t):O7 (Ps x y) (s++t):= λp=>by
 refine (?_:(x ||| y).testBit p=true↔_);refine rA (Nat.testBit_or _ _ _) ?_;refine rA (PN _ _) ?_;refine rA (propext (AF)) ?_;refine rA (propext (h p)) ?_;rw [h' p]
theorem oz:∀F:Fm,O7 (l8 F) F.pl
 | .at i=>Wg i
 | .bin _ l r=>(oz l).or (oz r)
theorem C3:∀G:List Fm,O7 (v9 G) (bJ G)
 | []=> λp=>by show (0:Nat).testBit p=true↔_;simp [bJ]
 |F::G=>(oz F).or (C3 G)
theorem MT:((zC 5).all λi=>(zC 64).all λx=>Kk (F8.getD i []) x==(zC 6).all λp=>!x.testBit p||x.testBit ((aH.getD i []).getD p 0))=true:=by decide+kernel
theorem tK{x:Nat}{s:List Nat}(hi:i<5)(hx:O7 x s)(hs:∀p∈s,p<6):Kk (F8.getD i []) x=bk (aH.getD i []) s:=by
 have hlt:x<2^6:=by
  apply Nat.lt_pow_two_of_testBit;intro j hj;cases e:x.testBit j with
  |false=>rfl
  |true=>have:=hs j ((hx j).mp e);lia
 have:=AP.mp (AP.mp MT i (D2.mpr hi)) x (D2.mpr hlt)
 rw [beq_iff_eq] at this
 refine rA this ?_;refine rA (propext (PU)) ?_;rw [AP];unfold bk;rw [AP];constructor
 ·intro h p hp
  have:=h p (D2.mpr (hs p hp))
  rw [(hx p).mpr hp] at this
  simp only [Re,Pz] at this
  simpa using (hx _).mp this
 ·intro h p _
  cases e:x.testBit p with
  |false=>rfl
  |true=>
   have:=h p ((hx p).mp e)
   simp only [Re,Pz];exact (hx _).mpr (by simpa using this)
abbrev P6(G:List Fm):Prop:=∀p∈bJ G,p<6
theorem d7(A B:List Fm):bJ (A++B)=bJ A++bJ B:=List.flatMap_append
theorem b6(F:Fm)(B:List Fm):bJ (F::B)=F.pl++bJ B:=rfl
theorem gy:bJ []=[]:=rfl
theorem hU:∀G:List Fm,bJ (G.flatMap xR)=bJ G
 | []=>rfl
 |F::G=>by
  refine rA Ft ?_;refine rA (d7 _ _) ?_;refine rA (hU G) ?_;refine rA (b6 _ _) ?_
  congr 1
  cases F with
  |«at» i=>simp [FK,bJ]
  |bin p l r=>cases p<;>simp [Ru,Qx,bJ,Fm.pl]
theorem qT(G:List Fm):bJ (fM G)=bJ G:=by
 unfold fM;refine rA (hU _) ?_;refine rA (hU _) ?_;refine rA (hU _) ?_;refine rA (hU _) ?_;exact rA (hU _) rfl
theorem am3{pre:List Fm}:z9 ps l r B [] pre=bif Kk ps (l8 l) then some ([l],pre++r::B) else none:=rfl
theorem ar2{A pre:List Fm}:z9 ps l r B (F::A) pre=bif Kk ps (Ps (l8 F) (Ps (v9 A) (l8 l))) then some (F::(A++[l]),pre++r::B) else z9 ps l r B A (pre++[F]):=rfl
theorem ap2{A pre:List Fm}:zl ps l r A [] pre=bif Kk ps (Ps (l8 r) (v9 pre)) then some (r::pre,A++[l]) else none:=rfl
theorem ap7{A pre:List Fm}:zl ps l r A (F::B) pre=bif Kk ps (Ps (l8 r) (v9 pre)) then some (r::pre,A++l::F::B) else zl ps l r A B (pre++[F]):=rfl
theorem C7(hi:i<5)(l r:Fm)(B:List Fm)(hl:∀p∈l.pl,p<6):∀ (A pre:List Fm),P6 A→z9 (F8.getD i []) l r B A pre=(gQ l r B A pre).find? (λw=>bk (aH.getD i []) (bJ w.1))
 | [],pre,_=>by
  have e:bJ [l]=l.pl:=by simp [bJ]
  rw [am3,Vj];refine rA (tK hi (oz l) hl) ?_;rw [Mi];refine rA e ?_;cases bk (aH.getD i []) l.pl<;>rfl
 |F::A,pre,h=>by
  have hr:O7 (Ps (l8 F) (Ps (v9 A) (l8 l))) (bJ (F::(A++[l]))):=by
   have:=(oz F).or ((C3 A).or (oz l))
   refine rA (b6 _ _) ?_;refine rA (d7 _ _) ?_
   simpa [bJ] using this
  have hs:∀p∈bJ (F::(A++[l])),p<6:=by
   intro p hp;rw [b6,d7] at hp
   simp only [AF] at hp
   rcases hp with q|q|q
   ·exact h p (by refine rA (b6 _ _) ?_;simp [q])
   ·exact h p (by refine rA (b6 _ _) ?_;simp [q])
   ·exact hl p (by simpa [bJ] using q)
  rw [ar2,Wi];refine rA (tK hi hr hs) ?_;rw [Mi];refine rA (C7 hi l r B hl A (pre++[F]) λp hp=>h p (by rw [b6];simp [hp])) ?_;cases bk (aH.getD i []) (bJ (F::(A++[l])))<;>rfl
theorem CA(hi:i<5)(l r:Fm)(A:List Fm)(hr:∀p∈r.pl,p<6):∀ (B pre:List Fm),P6 B→P6 pre→zl (F8.getD i []) l r A B pre=(iV l r A B pre).find? (λw=>bk (aH.getD i []) (bJ w.1))
 | [],pre,_,hp=>by
  have hs:∀p∈bJ (r::pre),p<6:=by
   intro p q;rw [b6,AF] at q
   exact q.elim (hr p) (hp p)
  rw [ap2,VB];refine rA (tK hi ((oz r).or (C3 pre)) hs) ?_;rw [Mi];refine (?_:_=match bk (aH.getD i []) (r.pl++bJ pre) with|true=>_|false=>_);cases bk (aH.getD i []) (r.pl++bJ pre)<;>rfl
 |F::B,pre,h,hp=>by
  have hs:∀p∈bJ (r::pre),p<6:=by
   intro p q;rw [b6,AF] at q
   exact q.elim (hr p) (hp p)
  rw [ap7,UT,tK hi ((oz r).or (C3 pre)) hs,Mi,CA hi l r A hr B (pre++[F]) (λp hp=>h p (by refine rA (b6 _ _) ?_;simp [hp])) (by
   intro p q;rw [d7,AF] at q
   rcases q with q|q
   ·exact hp p q
   ·exact h p (by refine rA (b6 _ _) ?_;simp [bJ] at q;simp [q]))]
  refine (?_:_=match bk (aH.getD i []) (r.pl++bJ pre) with|true=>_|false=>_);cases bk (aH.getD i []) (r.pl++bJ pre)<;>rfl
theorem wH(l r:Fm)(B:List Fm):∀ (A pre:List Fm) (w:List Fm×List Fm),w∈gQ l r B A pre→∀p,(p∈bJ w.1∨p∈bJ w.2)→(p∈bJ pre∨p∈bJ A∨p∈l.pl∨p∈r.pl∨p∈bJ B)
 | [],pre,w,h,p,hp=>by
  simp only [Vj,AA] at h
  subst h;simp only [d7,b6,gy,D8,AF] at hp
  rcases hp with q|q|q|q<;>simp [q]
 |F::A,pre,w,h,p,hp=>by
  simp only [Wi,Cp] at h
  rcases h with rfl|h
  ·simp only [d7,b6,gy,D8,AF] at hp⊢
   rcases hp with (q|q|q)|q|q|q<;>simp [q]
  ·have:=wH l r B A (pre++[F]) w h p hp
   simp only [d7,b6,gy,D8,AF] at this⊢
   rcases this with (q|q)|q|q|q|q<;>simp [q]
theorem wm(l r:Fm)(A:List Fm):∀ (B pre:List Fm) (w:List Fm×List Fm),w∈iV l r A B pre→∀p,(p∈bJ w.1∨p∈bJ w.2)→(p∈bJ pre∨p∈bJ A∨p∈l.pl∨p∈r.pl∨p∈bJ B)
 | [],pre,w,h,p,hp=>by
  simp only [VB,AA] at h
  subst h;simp only [d7,b6,gy,D8,AF] at hp⊢
  rcases hp with (q|q)|q|q<;>simp [q]
 |F::B,pre,w,h,p,hp=>by
  simp only [UT,Cp] at h
  rcases h with rfl|h
  ·simp only [d7,b6,gy,D8,AF] at hp⊢
   rcases hp with (q|q)|q|q|q|q<;>simp [q]
  ·have:=wm l r A B (pre++[F]) w h p hp
   simp only [d7,b6,gy,D8,AF] at this⊢
   rcases this with (q|q)|q|q|q|q<;>simp [q]
theorem v7(hi:i<5){rm:List Fm→Bool}(hrc:∀G,P6 G→rm G=rc G):∀ (B A:List Fm),P6 A→P6 B→XW (F8.getD i []) rm A B=xQ (aH.getD i []) rc A B
 | [],A,_,_=>rfl
 | .at p::B,A,hA,hB=>by
  exact v7 hi hrc B (A++[.at p]) (λq hq=>by rw [d7,AF] at hq;exact hq.elim (hA q) λh=>hB q (by refine rA (b6 _ _) ?_;simp [bJ] at h;simp [Fm.pl] at h⊢;simp [h])) λq hq=>hB q (by refine rA (b6 _ _) ?_;simp [hq])
 | .bin true l r::B,A,hA,hB=>by
  exact v7 hi hrc B (A++[.bin true l r]) (λq hq=>by rw [d7,AF] at hq;exact hq.elim (hA q) λh=>hB q (by refine rA (b6 _ _) ?_;rw [b6,gy,D8] at h;simp [h])) λq hq=>hB q (by refine rA (b6 _ _) ?_;simp [hq])
 | .bin false l r::B,A,hA,hB=>by
  have hl:∀p∈l.pl,p<6:= λp hp=>hB p (by refine rA (b6 _ _) ?_;simp [Fm.pl,hp]);have hr:∀p∈r.pl,p<6:= λp hp=>hB p (by refine rA (b6 _ _) ?_;simp [Fm.pl,hp]);have hB':P6 B:= λq hq=>hB q (by refine rA (b6 _ _) ?_;simp [hq]);have hw:∀w,w∈gQ l r B A []∨w∈iV l r A B []→P6 w.1∧P6 w.2:=by
   intro w h;have key:∀p,(p∈bJ w.1∨p∈bJ w.2)→p<6:=by
    intro p hp
    have:=h.elim (λh=>wH l r B A [] w h p hp) λh=>wm l r A B [] w h p hp
    rcases this with q|q|q|q|q
    ·simp [bJ] at q
    ·exact hA p q
    ·exact hl p q
    ·exact hr p q
    ·exact hB' p q
   exact ⟨λp hp=>key p (.inl hp),λp hp=>key p (.inr hp)⟩
  refine (?_:(match z9 (F8.getD i []) l r B A [] with
   |some w=>rm w.1&&rm w.2
   |none=>match zl (F8.getD i []) l r A B [] with
    |some w=>rm w.1&&rm w.2
    |none=>XW (F8.getD i []) rm (A++[Fm.bin false l r]) B)=(match (gQ l r B A []++iV l r A B []).find? (λw=>bk (aH.getD i []) (bJ w.1)) with
   |some w=>rc w.1&&rc w.2
   |none=>xQ (aH.getD i []) rc (A++[Fm.bin false l r]) B))
  refine rA (C7 hi l r B hl A [] hA) ?_;refine rA (CA hi l r A hr B [] hB' (λp hp=>by simp [bJ] at hp)) ?_;simp only [List.find?_append];cases e1:(gQ l r B A []).find? (λw=>bk (aH.getD i []) (bJ w.1)) with
  |some w=>
   refine f_ (hw w (.inl (Nn e1))) λh1 h2=>?_;simp only [Option.some_or,hrc _ h1,hrc _ h2]
  |none=>
   simp only [Option.none_or];cases e2:(iV l r A B []).find? (λw=>bk (aH.getD i []) (bJ w.1)) with
   |some w=>
    refine f_ (hw w (.inr (Nn e2))) λh1 h2=>?_;simp only [hrc _ h1,hrc _ h2]
   |none=>
    exact v7 hi hrc B (A++[.bin false l r]) (λq hq=>by rw [d7,AF] at hq;exact hq.elim (hA q) λh=>hB q (by refine rA (b6 _ _) ?_;rw [b6,gy,D8] at h;simp [h])) hB'
theorem Jp(hi:i<5):∀ (k:Nat) (G:List Fm),P6 G→prM (F8.getD i []) k G=pr (aH.getD i []) k G
 |0,_,_=>rfl
 |k+1,G,h=>by
  refine (?_:(two (fM G)||XW (F8.getD i []) (prM (F8.getD i []) k) [] (fM G))=(two (fM G)||xQ (aH.getD i []) (pr (aH.getD i []) k) [] (fM G)));exact rA (v7 hi (λG hG=>Jp hi k G hG) (fM G) [] (λp hp=>by simp [bJ] at hp) (λp hp=>h p (by rw [qT] at hp;exact hp))) rfl
theorem x_:∀ (F:Fm) (n:Nat),(gr F n).2.length+1=F.pl.length
 | .at _,_=>rfl
 | .bin p l r,n=>by
  have h1:=x_ l n;have h2:=x_ r (n+(gr l n).2.length);simp only [yH,Fm.pl,be,AH,EZ];lia
theorem l5:∀ (G:List Fm) (n:Nat),(eK G n).length+G.length=(bJ G).length
 | [],_=>rfl
 |F::G,n=>by
  have h1:=x_ F n;have h2:=l5 G (n+(gr F n).2.length);simp only [t8,b6,be,AH];lia
theorem H8:((zC 5).all λi=>(zC 6).all λn=>(start (aH.getD i []) n).all λx=>decide (x<16))=true:=by decide+kernel
noncomputable def Np(r N:Nat):Bool:=(zC 5).all λi=>(enG r 0 6).all λG=>z7 N (eZ (start (aH.getD i []) (6-r))) G==prM (F8.getD i []) 12 G
theorem ak9:Np 1 11=true:=by decide+kernel
theorem an9:Np 2 10=true:=by decide+kernel
theorem aq2:Np 3 9=true:=by decide+kernel
theorem Tt{G:List Fm}(hi:i<5)(hp:bJ G=Fh 0 6)(h1:1≤G.length)(h3:G.length≤3):trees (aH.getD i []) G=pr (aH.getD i []) 12 G:=by
 have hl:=l5 G 0;rw [hp,Lh] at hl
 have hn:(eK G 0).length=6-G.length:=by lia
 have hs:∀x∈start (aH.getD i []) (eK G 0).length,x<16:=by
  have:=AP.mp (AP.mp H8 i (D2.mpr hi)) (eK G 0).length (D2.mpr (by lia))
  intro x hx
  simpa using AP.mp this x hx
 have h6:P6 G:= λp h=>by rw [hp,P7] at h;lia
 refine rA (IQ hs) ?_;refine rB (Jp hi 12 G h6) ?_;refine rA hn ?_;have hm:=C6 G 0 6 hp (Dj _);have key:Np G.length (6+(6-G.length))=true:=by
  have:G.length=1∨G.length=2∨G.length=3:=by lia
  rcases this with q|q|q
  ·refine rA q ?_;exact ak9
  ·refine rA q ?_;exact an9
  ·refine rA q ?_;exact aq2
 have:=AP.mp (AP.mp key i (D2.mpr hi)) G hm
 simpa using this
theorem pd{k:Int}(h0:0≤k)(h1:k≤n):clipAt n k=k.toNat:=by
 unfold clipAt;refine rA (if_neg (by lia)) ?_
 congr 1;lia
theorem p8{X:Type}(xs:List X)(h:k≤xs.length):fq xs none (some (k:Int))=xs.take k:=by
 simp only [fq,SW,pd (n:=xs.length) (k:=k) (by lia) (by lia),Fs,SC,Sc]
theorem Cv{X:Type}(xs:List X)(h:k≤xs.length):fq xs (some (k:Int)) none=xs.drop k:=by
 simp only [fq,SW,pd (n:=xs.length) (k:=k) (by lia) (by lia),Fs];exact Fj (by simp)
theorem Hq{X:Type}(xs:List X){a:Nat}(hab:a≤b)(h:b≤xs.length):fq xs (some (a:Int)) (some (b:Int))=(xs.drop a).take (b-a):=by
 simp only [fq,SW,pd (n:=xs.length) (k:=a) (by lia) (by lia),pd (n:=xs.length) (k:=b) (by lia) (by lia),Fs]
theorem f5{p q:PF}{lo hi:Option Int}(hf:f ρ μ=some (.d (.list xs),μ))(hp:p ρ μ=some (lo,μ))(hq:q ρ μ=some (hi,μ))(hz:xs.length≤sizeLine):cg f p q ρ μ=some (.d (.list (fq xs lo hi)),μ):=by
 exact (b5 hf).trans ((b5 hp).trans ((b5 hq).trans ((f6 (rfl:mA (.d (.list xs))=none)).trans ((f6 (rfl:GX (.d (.list xs))=none)).trans ((bV (rfl:dc μ (.d (.list xs))=some xs)).trans (if_pos hz))))))
theorem jU{x:Int}(hf:f ρ μ=some (.d (.int x),μ))(hg:g ρ μ=some (.d (.int y),μ)):aj f g (aS λx y=>some (x-y)) ρ μ=some (.d (.int (x-y)),μ):=cX hf hg rfl
theorem lk{b:Bool}(e:t ρ μ=some (b,μ))(ht:b=true→f ρ μ=some (V,μ))(hf:b=false→g ρ μ=some (V,μ)):dw t f g ρ μ=some (V,μ):=by
 cases b with
 |true=>refine rA (xr e) ?_;exact ht rfl
 |false=>refine rA (sT e) ?_;exact hf rfl
inductive Tr where
 |at (i:Nat)
 |nd (t:Nat) (l r:Tr)
noncomputable def Tr.code:Tr→List Int
 | .at i=>[(i:Int)]
 | .nd t l r=>(-1-(t:Int))::(l.code++r.code)
noncomputable def Tr.pl:Tr→List Nat
 | .at i=>[i]
 | .nd _ l r=>l.pl++r.pl
noncomputable def Tr.ok(n:Nat):Tr→Prop
 | .at i=>i<6
 | .nd t l r=>t<n∧l.ok n∧r.ok n
theorem Tr.ok.up:∀ {T:Tr},T.ok n→T.ok (n+1)
 | .at _,h=>h
 | .nd _ _ _,h=>(fu (P5 h.1) h.2.1.up h.2.2.up)
noncomputable def Tr.sz:Tr→Nat
 | .at _=>1
 | .nd _ l r=>l.sz+r.sz+1
theorem Tr.code_len:∀T:Tr,T.code.length+1=2*T.pl.length
 | .at _=>rfl
 | .nd _ l r=>by
  have:=l.code_len;have:=r.code_len
  simp only [Tr.code,Tr.pl,AH,be];lia
noncomputable def gK(F:List Tr):List PyData:=F.map λT=>.list (iL T.code)
noncomputable def le(F:List Tr):List Nat:=F.flatMap Tr.pl
noncomputable def sF(C m ro pa:PyData)(T:Int)(j:Nat)(a b c d:Option AV):d5:=[some (.d C),some (.d (.int T)),some (.d m),some (.d ro),some (.d pa),some (.c j),a,b,c,d]
theorem W8{l:List Int}(h:k<l.length):(iL l)[k]? =some (.int (l.getD k 0)):=by
 simp [iL,Fu h]
theorem lL{l:List Int}(hf:f ρ μ=some (V,μ))(hs:v8 μ V=some (iL l))(hg:g ρ μ=some (.d (.int k),μ))(h:k<l.length)(hz:l.length≤1000):aF f g ρ μ=some (.d (.int (l.getD k 0)),μ):=
 cI hf hg hs (by lia) (by refine rA (Fs _) ?_;exact W8 h) (by refine rA (xP _) ?_;exact aa (by lia))
theorem Yr(k:Int)(fP:PyData→PyData)(hf:∀ (n x:Int),∃y:Int,fP (.tuple [.int n,.int x])=.int y)(pP:PyData→Bool)(hp:∀ (n:Nat) (x:Int),pP (.tuple [.int n,.int x])= !((n:Int)==k)):
  ∀ (ps:List Int) (j:Nat),∃ps',((cN j (iL ps)).filter pP).map fP=iL ps'∧(((j:Int)≤k∧k<j+ps.length)→ps'.length+1=ps.length)∧(¬((j:Int)≤k∧k<j+ps.length)→ps'.length=ps.length)
 | [],j=>(cL ([]) rfl (λh=>by simp at h;omega) (λzz=>rfl))
 |x::ps,j=>by
  refine cq (Yr k fP hf pP hp ps (j+1)) λps' e h1 h2=>?_;refine bP (hf j x) λy ey=>?_;have hc:cN j (iL (x::ps))=.tuple [.int j,.int x]::cN (j+1) (iL ps):=rfl;refine rA hc ?_;refine rA KP ?_;refine rA (hp _ _) ?_
  by_cases q:(j:Int)=k
  ·refine (cL ps' ?_ (λzz=>?_) (λh=>absurd ⟨by omega,by simp only [AH];omega⟩ h))
   ·have:((j:Int)==k)=true:=by simpa using q
    refine rA this ?_;exact e
   ·refine rA (h2 (by omega)) ?_;exact rA AH rfl
  ·refine (cL (y::ps') ?_ (λh=>?_) (λh=>?_))
   ·have:((j:Int)==k)=false:=by simpa using q
    refine rA this ?_;simp only [Ux,if_true,F9,e,ey]
   ·simp only [AH] at h⊢
    exact rA (h1 (by omega)) rfl
   ·simp only [AH] at h⊢
    exact rA (h2 (by omega)) rfl
abbrev Rg:SF:=(cb 7 (aj (aF (a9 0) (a9 6)) (aj (af [(a9 3)] dC) (kI 1) (aS λx y=>some (x-y))) (aS cu)))
abbrev Ro:SF:=(cj (eg (a9 5) (dw (bB (aF (a9 4) (a9 7)) (aF (a9 4) (aj (a9 7) (kI 1) aT)) dK) (kI 274) (kI 272))))
abbrev Rt:SF:=(cb 4 (ce nh (c9 [(a9 4)] g9) (jh 10 11) (c_ (bB (a9 10) (a9 7) pe) (aY (dw (bB (a9 11) (aF (a9 4) (aj (a9 7) (kI 1) aT)) dK) (aF (a9 4) (a9 7)) (a9 11))))))
abbrev Qq:SF:=(cb 3 (aj (aj (cg (a9 3) b9 (aL (a9 7))) (aU [(aj (aj (aU [(aj (jB (kI 1)) (a9 6) (aS λx y=>some (x-y)))]) (aF (a9 3) (a9 7)) aT) (aF (a9 3) (aj (a9 7) (kI 1) aT)) aT)]) aT) (cg (a9 3) (aL (aj (a9 7) (kI 2) aT)) b9) aT))
abbrev Hg:SF:=(ap Rg (ap Ro (ap Rt (ap Qq aP))))
noncomputable def Yd(a b:Int):PyData→PyData
 | .tuple [_,.int y]=>.int (if y=b then a else y)
 |y=>y
noncomputable def YB(k:Int):PyData→Bool
 | .tuple [.int n,_]=>!(n==k)
 |_=>false
noncomputable def zE:Int→Prop:= λx=>x=272∨x=274
theorem S_{M:PyData}{T:Int}{t:Nat}{F:List Tr}{ps:List Int}{b c d:Option AV}(hc:cs.length=6)(ht:t<6)(hF:2≤F.length)(h6:F.length≤6)(hps:ps.length=F.length)(hK:K.length≤10)
  (hpl:le F=Fh 0 6) (hok:∀x∈F,x.ok t) (hj:μ[j]? =some (.live (iL K))):
  ∃F' ps' x k,Hg (sF (.list (iL cs)) M (.list (gK F)) (.list (iL ps)) T j (some (.d (.int t))) b c d) μ=some (.next,sF (.list (iL cs)) M (.list (gK F')) (.list (iL ps')) T j (some (.d (.int t))) (some (.d (.int k))) c d,μ.set j (.live (iL (K++[x]))))∧
   F'.length+1=F.length∧ps'.length=F'.length∧le F'=Fh 0 6∧(∀x∈F',x.ok (t+1))∧zE x:=by
 have hz:(gK F).length≤sizeLine:=by rw [gK];refine rA (xP _) ?_;exact aa (by lia)
 have hrl:(gK F).length=F.length:=by rw [gK];exact rA (xP _) rfl
 
 have hm0:0≤(cs.getD t 0).fmod ((F.length:Int)-1):=Fp _ (by lia);have hm1:(cs.getD t 0).fmod ((F.length:Int)-1)< (F.length:Int)-1:=Ip _ (by lia);refine eE λGG kG=>?_;refine bP (Lg hm0) λk hk=>?_;have hkF:k+1<F.length:=by lia
 obtain ⟨A,l,r,B,rfl,hA⟩:∃A l r B,F=A++l::r::B∧A.length=k:=by
  refine (Py (F.take k) (F[k]) (F[k+1]) (F.drop (k+2)) ?_ (by refine rA LU ?_;lia));refine rA (RI _) ?_;refine rA (RI _) ?_;exact rA (L_ _ _) rfl
 refine kG ?_;have hlen:(A++l::r::B).length=A.length+B.length+2:=by simp only [be,AH];lia
 generalize hFF:A++l::r::B=F at*
 let ρ0:=sF (.list (iL cs)) M (.list (gK F)) (.list (iL ps)) T j (some (.d (.int t))) b c d
 let ρ1:=sF (.list (iL cs)) M (.list (gK F)) (.list (iL ps)) T j (some (.d (.int t))) (some (.d (.int k))) c d
 have e0:Rg ρ0 μ=some (.next,ρ1,μ):=by
  refine (bO (cX (lL (f:=a9 0) (g:=a9 6) (V:=.d (.list (iL cs))) (k:=t) rfl rfl rfl (by lia) (by lia)) (jU (gG (f:=a9 3) (xs:=gK F) rfl rfl hz) rfl) (fk (by lia)))).trans ?_;refine rA hrl ?_;refine rA hk ?_;rfl
 
 have ei:∀μ,aF (a9 4) (a9 7) ρ1 μ=some (.d (.int (ps.getD k 0)),μ):= λμ=>lL (V:=.d (.list (iL ps))) rfl rfl rfl (by lia) (by lia);have ei1:∀μ,aF (a9 4) (aj (a9 7) (kI 1) aT) ρ1 μ=some (.d (.int (ps.getD (k+1) 0)),μ):= λμ=>lL (V:=.d (.list (iL ps))) rfl rfl (cU (x:=k) (y:=1) rfl rfl) (by lia) (by lia)
 let x:Int:=if ps.getD k 0=ps.getD (k+1) 0 then 274 else 272
 have ex:dw (bB (aF (a9 4) (a9 7)) (aF (a9 4) (aj (a9 7) (kI 1) aT)) dK) (kI 274) (kI 272) ρ1 μ=some (.d (.int x),μ):=by
  refine lk (oh (ei μ) (ei1 μ)) (λh=>?_) (λh=>?_)
  ·show _=some (AV.d (.int (if _ then _ else _)),μ)
   refine rA (if_pos (by simpa using h)) ?_;rfl
  ·show _=some (AV.d (.int (if _ then _ else _)),μ)
   refine rA (if_neg (by simpa using h)) ?_;rfl
 have e1:Ro ρ1 μ=some (.next,ρ1,μ.set j (.live (iL (K++[x])))):=by
  refine (eB (gw (j:=j) rfl ex hj (by refine rA (xP _) ?_;exact aa (by lia)))).trans ?_;exact rA (show iL K++[Fa x]=iL (K++[x]) by simp) rfl
 generalize hμ:μ.set j (.live (iL (K++[x])))=μ1 at e1⊢
 
 refine cq (Yr (k:Int) (Yd (ps.getD k 0) (ps.getD (k+1) 0)) (λn y=>⟨_,rfl⟩) (YB k) (λn y=>rfl) ps 0) λps' eps hp1 zz=>?_;have hpl':=hp1 (by lia)
 let ρ2:=sF (.list (iL cs)) M (.list (gK F)) (.list (iL ps')) T j (some (.d (.int t))) (some (.d (.int k))) c d
 have e2:Rt ρ1 μ1=some (.next,ρ2,μ1):=by
  have hcm:=pM (sc:=nh) (t:=bB (a9 10) (a9 7) pe) (e:=dw (bB (a9 11) (aF (a9 4) (aj (a9 7) (kI 1) aT)) dK) (aF (a9 4) (a9 7)) (a9 11)) (ρ:=ρ1) (μ:=μ1) 10 11 (by decide) (YB k) (Yd (ps.getD k 0) (ps.getD (k+1) 0))
   (jZ (f:=a9 4) (V:=.d (.list (iL ps))) (xs:=iL ps) rfl rfl) (az _ _) (λy hy=>by
    refine eE λGG kG=>?_;refine lz (mV ps 0 hy) λn o zq2=>?_;subst zq2;refine kG ?_;refine (dy (.int n) (.int o) rfl (neI (x:=n) (y:=k) rfl rfl) (λzz=>?_));have q1:aF (a9 4) (a9 7) (((bG nh ρ1).set 10 (some (.d (.int n)))).set 11 (some (.d (.int o)))) μ1=some (.d (.int (ps.getD k 0)),μ1):=lL (V:=.d (.list (iL ps))) rfl rfl rfl (by lia) (by lia);have q2:aF (a9 4) (aj (a9 7) (kI 1) aT) (((bG nh ρ1).set 10 (some (.d (.int n)))).set 11 (some (.d (.int o)))) μ1=some (.d (.int (ps.getD (k+1) 0)),μ1):=lL (V:=.d (.list (iL ps))) rfl rfl (cU (x:=k) (y:=1) rfl rfl) (by lia) (by lia);refine lk (oh (x:=o) rfl q2) (λh=>?_) (λh=>?_)
    ·show _=some (AV.d (.int (if _ then _ else _)),μ1)
     refine rA (if_pos (by simpa using h)) ?_;exact q1
    ·show _=some (AV.d (.int (if _ then _ else _)),μ1)
     refine rA (if_neg (by simpa using h)) ?_;rfl) (by refine rA (ix _ _) ?_;refine rA (xP _) ?_;exact aa (by lia))
  refine (bO (bY hcm)).trans ?_;refine rA eps ?_;rfl
 
 let F':=A++.nd t l r::B
 let ρ3:=sF (.list (iL cs)) M (.list (gK F')) (.list (iL ps')) T j (some (.d (.int t))) (some (.d (.int k))) c d
 have hg:∀ (i:Nat) (T:Tr),F[i]? =some T→(gK F)[i]? =some (.list (iL T.code)):= λi T h=>by rw [gK,GW];refine rA h ?_;rfl
 have gl:F[k]? =some l:=by refine rB hFF ?_;refine rB hA ?_;simp
 have gr':F[k+1]? =some r:=by refine rB hFF ?_;refine rB hA ?_;simp
 have pll:le F=le A++(l.pl++(r.pl++le B)):=by refine rB hFF ?_;simp [le]
 have plen:=congrArg NL hpl;rw [pll] at plen
 simp only [be,Lh] at plen
 have cl:=l.code_len;have cr:=r.code_len;have e3:Qq ρ2 μ1=some (.next,ρ3,μ1):=by
  have q1:cg (a9 3) b9 (aL (a9 7)) ρ2 μ1=some (.d (.list (gK A)),μ1):=by
   refine (f5 (f:=a9 3) (xs:=gK F) (lo:=none) (hi:=some (k:Int)) rfl rfl (dG rfl) hz).trans ?_;refine rA (p8 _ (by lia)) ?_;rw [gK];refine rB Rh ?_;refine rB hFF ?_;refine rB hA ?_;refine rA Pd ?_;rfl
  have q2:aF (a9 3) (a9 7) ρ2 μ1=some (.d (.list (iL l.code)),μ1):=cI (f:=a9 3) (g:=a9 7) (V:=.d (.list (gK F))) (k:=(k:Int)) rfl rfl rfl (by lia) (by refine rA (Fs _) ?_;exact hg k l gl) hz;have q3:aF (a9 3) (aj (a9 7) (kI 1) aT) ρ2 μ1=some (.d (.list (iL r.code)),μ1):=cI (f:=a9 3) (V:=.d (.list (gK F))) (k:=(k:Int)+1) rfl (cU (x:=k) (y:=1) rfl rfl) rfl (by lia) (by refine rA (show ((k:Int)+1).toNat=k+1 by lia) ?_;exact hg (k+1) r gr') hz;have q4:cg (a9 3) (aL (aj (a9 7) (kI 2) aT)) b9 ρ2 μ1=some (.d (.list (gK B)),μ1):=by
   refine (f5 (f:=a9 3) (xs:=gK F) (lo:=some ((k+2:Nat):Int)) (hi:=none) rfl (dG (cU (x:=k) (y:=2) rfl rfl)) rfl hz).trans ?_;refine rA (Cv _ (by lia)) ?_;rw [gK];refine rB To ?_;refine rB hFF ?_;refine rB hA ?_
   have:(A++l::r::B).drop (A.length+2)=B:=by refine rA ND ?_;simp
   refine rA this ?_;rfl
  have q5:aU [(aj (jB (kI 1)) (a9 6) (aS λx y=>some (x-y)))] ρ2 μ1=some (.d (.list (iL [-1-(t:Int)])),μ1):=jW (jU (f:=jB (kI 1)) (g:=a9 6) (x:= -1) (y:=t) rfl rfl);have q6:=cT (cT q5 q2 (xs:=iL [-1-(t:Int)]) (ys:=iL l.code) rfl rfl (aa (by simp only [xP,AH,EZ];lia))) q3 (xs:=iL [-1-(t:Int)]++iL l.code) (ys:=iL r.code) rfl rfl (aa (by simp only [be,xP,AH,EZ];lia));have q7:=cT (cT q1 (jW q6) (xs:=gK A) rfl rfl (aa (by simp only [gK,xP,AH,EZ];lia))) q4 rfl (ys:=gK B) rfl (aa (by simp only [gK,be,xP,AH,EZ];lia));refine (bO q7).trans ?_
  have:gK A++[NU (iL [-1-(t:Int)]++iL l.code++iL r.code)]++gK B=gK F':=by
   simp [F',gK,Tr.code]
  refine rA this ?_;rfl
 have hF'pl:le F'=le A++((l.pl++r.pl)++le B):=by simp [F',le,Tr.pl]
 refine (oG F' ps' x k ((aB e0).trans ((aB e1).trans ((aB e2).trans ((aB e3).trans (bK.trans (by exact rA hμ rfl)))))) (by simp only [F',be,AH];lia) (by simp only [F',be,AH];lia) ?_ ?_ ?_)
 ·refine rA hF'pl ?_;refine rB hpl ?_;refine rA pll ?_;simp
 ·intro y hy
  simp only [F',AF,Cp] at hy
  rcases hy with q|q|q
  ·exact (hok y (by refine rB hFF ?_;simp [q])).up
  ·subst q
   exact (fu (Rq t) ((hok l (by refine rB hFF ?_;simp)).up) ((hok r (by refine rB hFF ?_;simp)).up))
  ·exact (hok y (by refine rB hFF ?_;simp [q])).up
 ·show (if _ then (274:Int) else 272)=272∨(if _ then (274:Int) else 272)=274
  split
  ·exact .inr rfl
  ·exact .inl rfl
theorem po{itf2:IF}{e:EF}{g:Option Nat}(i j:Nat)(hij:i≠j)(p:PyData→Bool)(ys:PyData→List PyData)(v:PyData→PyData→PyData)(hi:itf ρ μ=some (xs,g,μ1))(hg:cw g xs μ1)
  (ht:∀x∈xs,∀w,t (((bG sc ρ).set i (some (.d x))).set j w) μ1=some (p x,μ1))
  (h2:∀x∈xs,p x=true→∀w,itf2 (((bG sc ρ).set i (some (.d x))).set j w) μ1=some (ys x,none,μ1))
  (h3:∀x∈xs,p x=true→∀y∈ys x,e (((bG sc ρ).set i (some (.d x))).set j (some (.d y))) μ1=some (.d (v x y),μ1))
  (hz:(xs.flatMap λx=>if p x then (ys x).map (v x) else []).length≤sizeLine):
  e_ sc itf (dz i) (c_ t (gv itf2 (dz j) (c_ bg (aY e)))) ρ μ=some (xs.flatMap λx=>if p x then (ys x).map (v x) else [],μ1):=by
 refine vj hi hg (λσ=>∃u w,σ=((bG sc ρ).set i u).set j w) (λx=>if p x then (ys x).map (v x) else []) (jK ((bG sc ρ)[i]?.join) ((bG sc ρ)[j]?.join) ?_) (λx hx σ hσ acc hacc=>?_) hz
 ·apply TM
  intro k;simp only [Qp,LD]
  split
  ·rename_i h;subst h
   split
   ·rename_i h;simp [Fu h]
   ·rename_i h;simp [Pl (LS h)]
  ·split
   ·rename_i h;subst h
    split
    ·rename_i h;simp [Fu h]
    ·rename_i h;simp [Pl (LS h)]
   ·rfl
 ·refine lz hσ λu w zq2=>?_
  subst zq2;have es:(((bG sc ρ).set i u).set j w).set i (some (.d x))=((bG sc ρ).set i (some (.d x))).set j w:=by
   refine rA (Rb _ _ (MO hij)) ?_;exact rA (HQ _) rfl
  refine ⟨((bG sc ρ).set i (some (.d x))).set j w,?_⟩;cases hp:p x with
  |false=>
   refine (C1 (((bG sc ρ).set i (some (.d x))).set j w) ?_ ?_ _ _ rfl)
   ·show some _=some _;exact rA es rfl
   ·refine (Yx ((ht x hx w).trans (by rw [hp]))).trans ?_
    simp
  |true=>
   rw [hp] at hacc
   simp only [if_true,xP] at hacc
   obtain ⟨ρ',⟨w',hw⟩,hf⟩:=n_ (tf:=dz j) (cf:=c_ bg (aY e)) (μ:=μ1) (xs:=ys x) (g:=none) (az _ _) (λσ=>∃w,σ=((bG sc ρ).set i (some (.d x))).set j w) (λy=>[v x y]) (ys x) _ acc ⟨w,rfl⟩ (λy hy σ hσ acc hacc=>by
    refine bP hσ λw zq1=>?_;subst zq1;refine (BA (((bG sc ρ).set i (some (.d x))).set j (some (.d y))) _ ?_ (ph (h3 x hx hp y hy) acc hacc) _ rfl)
    show some _=some _
    exact rA (HQ _) rfl) (by refine rA (fJ _ _) ?_;refine rA (xP _) ?_;exact hacc)
   rw [fJ] at hf
   refine (C1 ρ' ?_ ?_ _ w' hw)
   ·show some _=some _;exact rA es rfl
   ·exact (Yw ((ht x hx w).trans (by rw [hp]))).trans ((xl (h2 x hx hp w)).trans hf)
theorem JP{M:PyData}{T:Int}{μ0:List ah}(hj:j=μ0.length)(hc:cs.length=6)(xs:List PyData):∀ (n t:Nat) (F:List Tr) (ps K:List Int) (a b c d:Option AV),n+t≤5→F.length+t=6→ps.length=F.length→K.length=t→le F=Fh 0 6→(∀x∈F,x.ok t)→(∀x∈K,zE x)→
  ∃F' ps' K' a' b',fX (dz 6) Hg aP none xs (fK t n) (sF (.list (iL cs)) M (.list (gK F)) (.list (iL ps)) T j a b c d) (μ0++[.live (iL K)])=some (.next,sF (.list (iL cs)) M (.list (gK F')) (.list (iL ps')) T j a' b' c d,μ0++[.live (iL K')])∧
   F'.length+(n+t)=6∧K'.length=n+t∧le F'=Fh 0 6∧(∀x∈F',x.ok (n+t))∧(∀x∈K',zE x)
 |0,t,F,ps,K,a,b,c,d,h,hF,hps,hK,hpl,hok,hkin=>(mG F ps K a b rfl (by lia) (by lia) hpl (by simpa using hok) hkin)
 |n+1,t,F,ps,K,a,b,c,d,h,hF,hps,hK,hpl,hok,hkin=>by
  refine eE λGG kG=>?_;refine oI (S_ (cs:=cs) (M:=M) (T:=T) (t:=t) (F:=F) (ps:=ps) (K:=K) (j:=j) (b:=b) (c:=c) (d:=d) (μ:=μ0++[.live (iL K)]) hc (by lia) (by lia) (by lia) hps (by lia) hpl hok (by subst hj;exact dq)) λF1 ps1 x k e h1 h2 h3 h4 h5=>?_;obtain ⟨F',ps',K',a',b',g,g1,g2,g3,g4,g5⟩:=JP hj hc xs n (t+1) F1 ps1 (K++[x]) (some (.d (.int t))) (some (.d (.int k))) c d (by lia) (by lia) h2 (by simp [hK]) h3 h4 (λy hy=>by
   rcases AF.mp hy with q|q
   ·exact hkin y q
   ·refine rA (AA.mp q) ?_;exact h5)
  refine kG ?_;refine (mG F' ps' K' a' b' ?_ (by lia) (by lia) g3 (by refine rA (show n+1+t=n+(t+1) by lia) ?_;exact g4) g5);rw [show (μ0++[ah.live (iL K)]).set j (.live (iL (K++[x])))=μ0++[.live (iL (K++[x]))] by rw [hj];exact fm] at e
  exact LM (dP (ρ1:=sF (.list (iL cs)) M (.list (gK F)) (.list (iL ps)) T j (some (.d (.int t))) b c d) rfl e (az _ _)) g
noncomputable def lc(K:List Int):Tr→Fm
 | .at i=>.at i
 | .nd t l r=>.bin (K.getD t 0==274) (lc K l) (lc K r)
theorem ua(K:List Int):∀T:Tr,(lc K T).pl=T.pl
 | .at _=>rfl
 | .nd _ l r=>by simp only [lc,Fm.pl,Tr.pl,ua K l,ua K r]
noncomputable def Vp(K:List Int)(m:List Nat):PyData→PyData
 | .int s=>.int (if s<0 then K.getD (-1-s).toNat 0 else if (m.getD s.toNat 0:Int)>s then 7 else 8)
 |x=>x
theorem qI(K:List Int)(m:List Nat)(hK:∀x∈K,zE x):∀T:Tr,T.ok K.length→(iL T.code).map (Vp K m)=iL ((lc K T).pre m)
 | .at i,_=>by
  refine (?_:[Fa (if (i:Int)<0 then K.getD (-1-(i:Int)).toNat 0 else if (m.getD (i:Int).toNat 0:Int)>(i:Int) then 7 else 8)]=[Fa (if i<m.getD i 0 then 7 else 8)]);refine rA (if_neg (by lia)) ?_;refine rA (Fs _) ?_
  by_cases q:i<m.getD i 0
  ·refine rA (if_pos q) ?_;exact rA (if_pos (by lia)) rfl
  ·refine rA (if_neg q) ?_;exact rA (if_neg (by lia)) rfl
 | .nd t l r,h=>by
  refine dW h λh1 h2 h3=>?_;have ek:K.getD t 0=if (K.getD t 0==274)=true then 274 else 272:=by
   have:zE (K.getD t 0):=by
    rw [LQ,Fu h1];exact hK _ (U2 h1)
   rcases this with q|q<;>rw [q]<;>rfl
  simp only [Tr.code,F9,JV,lc,Fm.pre,qI K m hK l h2,qI K m hK r h3]
  congr 1
  refine (?_:Fa (if (-1-(t:Int))<0 then K.getD (-1-(-1-(t:Int))).toNat 0 else _)=_);refine rA (if_pos (by lia)) ?_;refine rA (show (-1-(-1-(t:Int))).toNat=t by lia) ?_;exact congrArg Fa ek
noncomputable def g8(T:Int):Nat:=([5,5,4,3]:List Nat).getD ((T.fdiv 25).fmod 4).toNat 0
theorem mw(T:Int):3≤g8 T∧g8 T≤5:=by
 have h0:0≤(T.fdiv 25).fmod 4:=Fp _ (by decide);have h1:(T.fdiv 25).fmod 4<4:=Ip _ (by decide);unfold g8;generalize (T.fdiv 25).fmod 4=x at*
 have:x=0∨x=1∨x=2∨x=3:=by lia
 rcases this with rfl|rfl|rfl|rfl<;>decide
theorem jz{T:Int}(a b:Int)(ha:¬(a=0∨2^64≤a.natAbs))(hb:b≠0)(hf:f ρ μ=some (.d (.int T),μ))(hg:g ρ μ=some (.d (.int b),μ)):aj (aj f (kI a) (aS cP)) g (aS cu) ρ μ=some (.d (.int ((T.fdiv a).fmod b)),μ):=
 cX (cX hf (rfl:kI a _ _=some (.d (.int a),_)) (k_ ha)) hg (fk hb)
theorem K3{T:Int}(h1:a9 1 ρ μ=some (.d (.int T),μ)):aF (aU [(kI 5),(kI 5),(kI 4),(kI 3)]) (aj (aj (a9 1) (kI 25) (aS cP)) (kI 4) (aS cu)) ρ μ=some (.d (.int (g8 T)),μ):=by
 have h0:0≤(T.fdiv 25).fmod 4:=Fp _ (by decide);have h4:(T.fdiv 25).fmod 4<4:=Ip _ (by decide);refine cI (V:=.d (.list [.int 5,.int 5,.int 4,.int 3])) (dJ (ds:=[.int 5,.int 5,.int 4,.int 3]) rfl (aa (xM rfl))) (jz 25 4 (by decide) (by decide) h1 rfl) rfl h0 ?_ (aa (xM rfl));unfold g8;generalize (T.fdiv 25).fmod 4=x at*
 have:x=0∨x=1∨x=2∨x=3:=by lia
 rcases this with rfl|rfl|rfl|rfl<;>rfl
theorem ur{x:Int}(hK:∀x∈K,zE x)(hx:zE x):∀y∈K.set i x,zE y:=by
 intro y hy
 rcases List.mem_or_eq_of_mem_set hy with q|q
 ·exact hK y q
 ·refine rA q ?_;exact hx
theorem v0(hK:∀x∈K,zE x)(hi:i<K.length):zE (K.getD i 0):=by
 rw [LQ,Fu hi];exact hK _ (U2 hi)
theorem VR(K:List Int)(i:Nat)(x:Int):(iL K).set i (.int x)=iL (K.set i x):=by simp [iL,List.map_set]
theorem tJ{x:Int}(hf:fo ρ μ=some (.c j,μ))(hg:fi ρ μ=some (.d (.int k),μ))(hc:μ[j]? =some (.live (iL K)))(hk:k<K.length)(hz:K.length≤1000):xu fo fi (.int x) ρ μ=some (μ.set j (.live (iL (K.set k x)))):=by
 refine (b5 hf).trans ((bV (rfl:Fk (.c j)=some j)).trans ((b5 hg).trans ((bV (rfl:jM (.d (.int k))=some (k:Int))).trans ((bV (show μ[j]?.bind liC=some (iL K) by rw [hc];rfl)).trans ((if_pos (fu (by lia) (by rw [xP];lia) (by rw [p63];lia))).trans ?_)))));rw [Fs,VR]
theorem Nq{fv fo' fi':EF}{a b:PyData}(h:fv ρ μ=some (.d (.tuple [a,b]),μ1))(h1:xu fo fi a ρ μ1=some μ2)(h2:xu fo' fi' b ρ μ2=some μ3):IP fv fo fi fo' fi' ρ μ=some (.next,ρ,μ3):=by
 exact (b5 h).trans ((bV (rfl:GX (.d (.tuple [a,b]))=some _)).trans ((b5 (rfl:l2 [a,b]=some (a,b))).trans ((bV h1).trans (bV h2))))
theorem O0{fv:EF}{a:PyData}(h:fv ρ μ=some (.d a,μ1))(h1:xu fo fi a ρ μ1=some μ2):Tp fv fo fi ρ μ=some (.next,ρ,μ2):=by
 exact (b5 h).trans ((bV (rfl:vd (.d a)=some a)).trans (bV h1))
theorem Gc(hk:f ρ μ=some (.c j,μ))(hc:μ[j]? =some (.live (iL K)))(hz:K.length≤1000):af [f] dC ρ μ=some (.d (.int K.length),μ):=by
 have:=gG hk (xs:=iL K) (uB hc) (by refine rA (xP _) ?_;exact aa (by lia))
 refine rA this ?_;exact rA (xP _) rfl
theorem AD(hf:f ρ μ=some (V,μ))(hs:v8 μ V=some (nL m))(hg:g ρ μ=some (.d (.int k),μ))(h:k<m.length)(hz:m.length≤1000):aF f g ρ μ=some (.d (.int (m.getD k 0:Nat)),μ):=
 cI hf hg hs (by lia) (by refine rA (Fs _) ?_;exact uf h) (by rw [nL];refine rA (xP _) ?_;exact aa (by lia))
theorem Vr:fK 0 6=(zC 6).map λ(i:Nat)=>Fa i:=rfl
theorem qj:∀ (T:Tr) (n:Nat),T.ok n→∀y∈T.code,(0≤y∧y<6)∨(y<0∧(-1-y).toNat<n)
 | .at i,n,h,y,hy=>by
  have h:i<6:=h;simp only [Tr.code,AA] at hy
  subst hy;exact .inl ⟨by lia,by lia⟩
 | .nd t l r,n,h,y,hy=>by
  refine dW h λh1 h2 h3=>?_;simp only [Tr.code,Cp,AF] at hy
  rcases hy with q|q|q
  ·subst q;exact .inr ⟨by lia,by lia⟩
  ·exact qj l n h2 y q
  ·exact qj r n h3 y q
theorem q9:∀F:List Tr,(F.flatMap λT=>T.code).length≤2*(le F).length
 | []=>by simp [le]
 |T::F=>by
  have:=q9 F
  have h:=T.code_len;simp only [le,Ft,be] at this⊢
  lia
theorem mL(K:List Int)(m:List Nat)(hK:∀x∈K,zE x):∀F:List Tr,(∀T∈F,T.ok K.length)→(gK F).flatMap (λx=>if true then ((match x with| .list l=>l|_=>[]):List PyData).map (Vp K m) else [])=iL ((F.map (lc K)).flatMap λF=>F.pre m)
 | [],_=>rfl
 |T::F,h=>by
  have ih:=mL K m hK F λx hx=>h x (by simp [hx]);simp only [gK,F9,Ft,if_true] at ih⊢
  rw [ih,qI K m hK T (h T (by simp)),lR]
theorem IL{C ps:PyData}{T:Int}{F:List Tr}{K2:List Int}{a b c d:Option AV}(hm:m.length=6)(hK2:∀x∈K2,zE x)(hok:∀T∈F,T.ok K2.length)(hkl:K2.length≤10)(hpl:(iL ((F.map (lc K2)).flatMap λF=>F.pre m)).length≤12):
  Ct (sF C (.list (nL m)) (.list (gK F)) ps T μ.length a b c d) (μ++[.live (iL K2)])=some (.ret (.d (.list (iL ((F.map (lc K2)).flatMap (λF=>F.pre m)++[0])))),sF C (.list (nL m)) (.list (gK F)) ps T μ.length a b c d,μ++[.live (iL K2)]):=by
 have hcell:(μ++[ah.live (iL K2)])[μ.length]? =some (.live (iL K2)):=dq;unfold Ct;have hcm:=po (sc:=qG) (itf:=aK false (a9 3)) (itf2:=aK false (a9 10)) (t:=bg) (e:=(dw (bB (a9 11) (kI 0) (ef λx y=>decide (x<y))) (aF (a9 5) (aj (jB (kI 1)) (a9 11) (aS λx y=>some (x-y)))) (dw (bB (aF (a9 2) (a9 11)) (a9 11) (ef λx y=>decide (y<x))) (kI 7) (kI 8)))) (ρ:=(sF C (.list (nL m)) (.list (gK F)) ps T μ.length a b c d)) (μ:=μ++[.live (iL K2)]) (xs:=gK F) 10 11 (by decide) (λzz=>true) (λx=>match x with| .list l=>l|_=>[]) (λzz=>Vp K2 m)
  (d9 (V:=.d (.list (gK F))) rfl rfl) (az _ _) (λzz zz zz=>rfl) (λx hx zz w=>by
   refine eE λGG kG=>?_;refine au (Dc.mp hx) λT hT zq2=>?_;subst zq2;refine kG ?_;exact d9 (V:=.d (.list (iL T.code))) rfl rfl) (λx hx zz y hy=>by
   refine eE λGG kG=>?_;refine au (Dc.mp hx) λT' hT zq2=>?_;subst zq2;refine au (Dc.mp hy) λs hs zq2=>?_;subst zq2;refine kG ?_;have hb:=qj T' _ (hok T' hT) s hs;refine (?_:_=some (AV.d (.int (if s<0 then K2.getD (-1-s).toNat 0 else if (m.getD s.toNat 0:Int)>s then 7 else 8)),_));refine lk (ltI (x:=s) (y:=0) rfl rfl) (λh=>?_) (λh=>?_)
   ·have h:=of_decide_eq_true h
    refine rA (if_pos h) ?_;have hsub:aj (jB (kI 1)) (a9 11) (aS λx y=>some (x-y)) (((bG qG (sF C (.list (nL m)) (.list (gK F)) ps T μ.length a b c d)).set 10 (some (.d (.list (iL T'.code))))).set 11 (some (.d (.int s)))) (μ++[.live (iL K2)])=some (.d (.int ((-1-s).toNat:Nat)),μ++[.live (iL K2)]):=by
     refine rA (LL (by lia)) ?_;exact jU (x:= -1) (y:=s) rfl rfl
    exact lL (f:=a9 5) (V:=.c μ.length) rfl (uB hcell) hsub (by lia) (by lia)
   ·have h:=of_decide_eq_false h
    refine rA (if_neg h) ?_;have hg:a9 11 (((bG qG (sF C (.list (nL m)) (.list (gK F)) ps T μ.length a b c d)).set 10 (some (.d (.list (iL T'.code))))).set 11 (some (.d (.int s)))) (μ++[.live (iL K2)])=some (.d (.int (s.toNat:Nat)),μ++[.live (iL K2)]):=by
     refine rA (LL (by lia)) ?_;rfl
    have hmt:=AD (f:=a9 2) (V:=.d (.list (nL m))) (m:=m) rfl rfl hg (by lia) (by lia);refine lk (gtI (y:=s) hmt rfl) (λh=>?_) (λh=>?_)
    ·refine rA (if_pos (of_decide_eq_true h)) ?_;rfl
    ·refine rA (if_neg (of_decide_eq_false h)) ?_;rfl) (by
   refine rA (mL K2 m hK2 F hok) ?_;exact aa (by lia))
 rw [mL K2 m hK2 F hok] at hcm
 have:=cT (bY hcm) (jW (f:=kI 0) (d:=.int 0) rfl) rfl rfl (aa (by simp only [H0];lia))
 refine (ee this).trans ?_;exact rA (show iL ((F.map (lc K2)).flatMap λF=>F.pre m)++[Fa 0]=iL ((F.map (lc K2)).flatMap (λF=>F.pre m)++[0]) by rw [←lR];rfl) rfl
theorem s65{T:Int}(hc:cs.length=6)(hm:m.length=6):
  ∃G:List Fm,bJ G=Fh 0 6∧G.length+g8 T=6∧gz [.d (.list (iL cs)),.d (.int T),.d (.list (nL m))] μ=some (.d (.list (iL (G.flatMap (λF=>F.pre m)++[0]))),μ):=by
 let M:PyData:=.list (nL m)
 let F0:List Tr:=(zC 6).map Tr.at
 let ps0:List Int:=(zC 6).map λ(i:Nat)=>if (m.getD i 0:Int)<i then (m.getD i 0:Int) else i
 let ρe:d5:=[some (.d (.list (iL cs))),some (.d (.int T)),some (.d M),none,none,none,none,none,none,none]
 let ρr:d5:=[some (.d (.list (iL cs))),some (.d (.int T)),some (.d M),some (.d (.list (gK F0))),none,none,none,none,none,none]
 let ρp:d5:=[some (.d (.list (iL cs))),some (.d (.int T)),some (.d M),some (.d (.list (gK F0))),some (.d (.list (iL ps0))),none,none,none,none,none]
 have e0:AO ρe μ=some (.next,ρr,μ):=by
  unfold AO
  have:=iC (xs:=fK 0 6) (g:=none) (sc:=zo) (e:=aU [a9 10]) (ρ:=ρe) (μ:=μ) 10 (λx=>.list [x]) (rfl:aK false (af [kI 6] cJ) ρe μ=some (fK 0 6,none,μ)) (az _ _) (λx hx=>jW rfl) (aa (by decide))
  refine rA (jq this) ?_;have e:(fK 0 6).map (λx=>NU [x])=gK F0:=by refine rA Vr ?_;rfl
  refine rA e ?_;rfl
 have e1:CH ρr μ=some (.next,ρp,μ):=by
  unfold CH
  have:=iC (xs:=fK 0 6) (g:=none) (sc:=yq) (e:=af [(a9 10),(aF (a9 2) (a9 10))] G1) (ρ:=ρr) (μ:=μ) 10 (λ| .int x=>.int (if (m.getD x.toNat 0:Int)<x then (m.getD x.toNat 0:Int) else x)|x=>x) (rfl:aK false (af [kI 6] cJ) ρr μ=some (fK 0 6,none,μ)) (az _ _) (λx hx=>by
   rw [Vr] at hx
   refine eE λGG kG=>?_;refine au (Dc.mp hx) λi hi zq2=>?_;subst zq2;refine kG ?_;have hi:=D2.mp hi;exact iN (V:=.d (.int i)) rfl (AD (V:=.d M) (k:=i) rfl rfl rfl (by lia) (by lia)) rfl) (aa (by decide))
  refine rA (bO (bY this)) ?_;have e:(fK 0 6).map (λ| .int x=>Fa (if (m.getD x.toNat 0:Int)<x then (m.getD x.toNat 0:Int) else x)|x=>x)=iL ps0:=by
   refine rA Vr ?_;refine rA E_ ?_;simp only [ps0,iL,E_];rfl
  refine rA e ?_;rfl
 have e2:CI ρp μ=some (.next,sF (.list (iL cs)) M (.list (gK F0)) (.list (iL ps0)) T μ.length none none none none,μ++[.live (iL [])]):=by
  unfold CI;refine rA (bO wc) ?_;rfl
 refine eE λGG kG=>?_;refine f_ (mw T) λt3 t5=>?_;obtain ⟨F,ps,K,a,b,g,g1,g2,g3,g4,g5⟩:=JP (cs:=cs) (M:=M) (T:=T) (μ0:=μ) rfl hc (fK 0 (g8 T)) (g8 T) 0 F0 ps0 [] none none none none (by lia) rfl rfl rfl (by decide) (by
  intro x hx;refine au (Dc.mp hx) λi hi zq2=>?_;subst zq2;exact D2.mp hi) (by simp)
 refine kG ?_;simp only [TV] at g1 g2 g4
 let ρ3:=sF (.list (iL cs)) M (.list (gK F)) (.list (iL ps)) T μ.length a b none none
 have e3:Bf (sF (.list (iL cs)) M (.list (gK F0)) (.list (iL ps0)) T μ.length none none none none) (μ++[.live (iL [])])=some (.next,ρ3,μ++[.live (iL K)]):=by
  unfold Bf;have hi:aK false (af [(aF (aU [(kI 5),(kI 5),(kI 4),(kI 3)]) (aj (aj (a9 1) (kI 25) (aS cP)) (kI 4) (aS cu)))] cJ) (sF (.list (iL cs)) M (.list (gK F0)) (.list (iL ps0)) T μ.length none none none none) (μ++[.live (iL [])])=some (fK 0 (g8 T),none,μ++[.live (iL [])]):=by
   have hr:af [(aF (aU [(kI 5),(kI 5),(kI 4),(kI 3)]) (aj (aj (a9 1) (kI 25) (aS cP)) (kI 4) (aS cu)))] cJ (sF (.list (iL cs)) M (.list (gK F0)) (.list (iL ps0)) T μ.length none none none none) (μ++[.live (iL [])])=some (.rng 0 (g8 T),μ++[.live (iL [])]):=d6 (K3 rfl) rfl;have hs:∀n:Nat,n≤5→KH 0 n 1=true:=by
    intro n hn
    have:n=0∨n=1∨n=2∨n=3∨n=4∨n=5:=by lia
    rcases this with rfl|rfl|rfl|rfl|rfl|rfl<;>decide+kernel
   exact (nQ hr (hs _ t5)).trans (by simp)
  refine rA (gM hi) ?_;exact g
 let one:Nat:=((T.fdiv 100).fmod K.length).toNat
 let two:Nat:=((T.fdiv 500).fmod K.length).toNat
 have hKp:(K.length:Int)>0:=by lia
 have one_i:(T.fdiv 100).fmod K.length=(one:Int):=(LL (Fp _ hKp)).symm;have two_i:(T.fdiv 500).fmod K.length=(two:Int):=(LL (Fp _ hKp)).symm;have hone:one<K.length:=by have:=Ip (T.fdiv 100) hKp;lia
 have htwo:two<K.length:=by have:=Ip (T.fdiv 500) hKp;lia
 let ρ4:=sF (.list (iL cs)) M (.list (gK F)) (.list (iL ps)) T μ.length a b (some (.d (.int one))) (some (.d (.int two)))
 have hcell:∀K:List Int,(μ++[ah.live (iL K)])[μ.length]? =some (.live (iL K)):= λK=>dq;have hset:∀K K':List Int,(μ++[ah.live (iL K)]).set μ.length (.live (iL K'))=μ++[.live (iL K')]:= λK K'=>fm;have e4:C2 ρ3 (μ++[.live (iL K)])=some (.next,ρ4,μ++[.live (iL K)]):=by
  unfold C2;have hl:af [a9 5] dC ρ3 (μ++[.live (iL K)])=some (.d (.int K.length),μ++[.live (iL K)]):=Gc rfl (hcell K) (by lia);have h1:=jz (f:=a9 1) (g:=af [a9 5] dC) (ρ:=ρ3) (T:=T) 100 K.length (by decide) (by lia) rfl hl;have h2:=jz (f:=a9 1) (g:=af [a9 5] dC) (ρ:=ρ3) (T:=T) 500 K.length (by decide) (by lia) rfl hl;rw [one_i] at h1
  rw [two_i] at h2
  have ht:=d8 (ds:=[.int one,.int two]) (an h1 (an h2 bX)) (aa (xM rfl));exact BI ht
 have iK:∀ (K:List Int) (k i:Nat),a9 i ρ4 (μ++[.live (iL K)])=some (.d (.int k),μ++[.live (iL K)])→k<K.length→K.length≤1000→aF (a9 5) (a9 i) ρ4 (μ++[.live (iL K)])=some (.d (.int (K.getD k 0)),μ++[.live (iL K)]):= λK k i h hk hz=>
  lL (f:=a9 5) (V:=.c μ.length) rfl (uB (hcell K)) h hk hz
 let K1:=(K.set one (K.getD two 0)).set two (K.getD one 0)
 have hK1:∀x∈K1,zE x:=ur (ur g5 (v0 g5 htwo)) (v0 g5 hone);have lK1:K1.length=K.length:=by simp [K1]
 have e5:AN ρ4 (μ++[.live (iL K)])=some (.next,ρ4,μ++[.live (iL K1)]):=by
  unfold AN;have ht:=d8 (ds:=[.int (K.getD two 0),.int (K.getD one 0)]) (an (iK K two 9 rfl htwo (by lia)) (an (iK K one 8 rfl hone (by lia)) bX)) (aa (xM rfl));have s1:=tJ (fo:=a9 5) (fi:=a9 8) (ρ:=ρ4) (j:=μ.length) (k:=one) (K:=K) (x:=K.getD two 0) rfl rfl (hcell K) hone (by lia);rw [hset] at s1
  have s2:=tJ (fo:=a9 5) (fi:=a9 9) (ρ:=ρ4) (j:=μ.length) (k:=two) (K:=K.set one (K.getD two 0)) (x:=K.getD one 0) rfl rfl (hcell _) (by simpa using htwo) (by simp;lia);rw [hset] at s2
  exact Nq ht s1 s2
 let x6:Int:=if (T.fdiv 2500).fmod 4=3 then 546-K1.getD one 0 else K1.getD one 0
 have hx6:zE x6:=by
  have hk:=v0 hK1 (i:=one) (by lia)
  show (if _ then _ else _:Int)=272∨(if _ then _ else _:Int)=274
  split<;>rcases hk with q|q<;>rw [q]<;>simp
 let K2:=K1.set one x6
 have hK2:∀x∈K2,zE x:=ur hK1 hx6;have lK2:K2.length=K.length:=by simp [K2,lK1]
 have e6:BB ρ4 (μ++[.live (iL K1)])=some (.next,ρ4,μ++[.live (iL K2)]):=by
  unfold BB;have hi:=iK K1 one 8 rfl (by lia) (by lia);have hv:dw (bB (aj (aj (a9 1) (kI 2500) (aS cP)) (kI 4) (aS cu)) (kI 3) dK) (aj (kI 546) (aF (a9 5) (a9 8)) (aS λx y=>some (x-y))) (aF (a9 5) (a9 8)) ρ4 (μ++[.live (iL K1)])=some (.d (.int x6),μ++[.live (iL K1)]):=by
   refine lk (oh (jz (f:=a9 1) (T:=T) 2500 4 (by decide) (by decide) rfl rfl) rfl) (λh=>?_) (λh=>?_)
   ·show _=some (AV.d (.int (if _ then _ else _)),_)
    refine rA (if_pos (by simpa using h)) ?_;exact jU rfl hi
   ·show _=some (AV.d (.int (if _ then _ else _)),_)
    refine rA (if_neg (by simpa using h)) ?_;exact hi
  exact (O0 hv (tJ (k:=one) (hc:=hcell _) (hk:=by lia) (hz:=by lia) rfl rfl)).trans (by rw [hset])
 have hok:∀T∈F,T.ok K2.length:=by refine rA lK2 ?_;refine rA g2 ?_;exact g4
 have hlen:=q9 F;rw [g3,Lh] at hlen
 have hF6:F.length≤6:=by lia
 have hpl:(iL ((F.map (lc K2)).flatMap λF=>F.pre m)).length≤12:=by
  refine rB (mL K2 m hK2 F hok) ?_;simp only [gK,List.flatMap_map,if_true,List.length_flatMap,xP] at hlen⊢
  exact hlen
 have hG:bJ (F.map (lc K2))=Fh 0 6:=by
  refine rB g3 ?_
  have:∀F:List Tr,bJ (F.map (lc K2))=le F:= λF=>by
   induction F with
   |nil=>rfl
   |cons T F ih=>refine rA F9 ?_;refine rA (b6 _ _) ?_;refine rA ih ?_;refine rA (ua _ _) ?_;rfl
  exact this F
 have e7:=IL (C:=.list (iL cs)) (ps:=.list (iL ps)) (m:=m) (T:=T) (F:=F) (K2:=K2) (μ:=μ) (a:=a) (b:=b) (c:=some (.d (.int one))) (d:=some (.d (.int two))) hm hK2 hok (by lia) hpl;refine (cL (F.map (lc K2)) hG (by simp only [xP];lia) ?_);refine (d0 (k:=3) (ρ':=ρ4) (μ':=μ++[.live (iL K2)]) (x:=.list (iL ((F.map (lc K2)).flatMap (λF=>F.pre m)++[0]))) rfl ?_).trans (by exact rA mF rfl)
 show f65 ρe μ=_
 unfold f65;refine rA (aB e0) ?_;refine rA (aB e1) ?_;refine rA (aB e2) ?_;refine rA (aB e3) ?_;refine rA (aB e4) ?_;refine rA (aB e5) ?_;refine rA (aB e6) ?_;exact rA (cV e7) rfl
theorem Zk(h:q<7):q=0∨q=1∨q=2∨q=3∨q=4∨q=5∨q=6:=by lia
theorem mY(m:List Nat)(p:Nat):sO m p=[40]∨sO m p=[41]:=by unfold sO;split<;>simp
theorem zW(m:List Nat)(cs:List Int)(p:Nat)(tail:List U):clean none (eM m cs false p++tail)=eM m cs true p++clean none tail:=by
 have hq:=Zk (jx cs p);have hs:=mY m p;unfold eM;generalize iJ cs p=q at*
 generalize sO m p=s at*
 rcases hs with rfl|rfl<;>rcases hq with rfl|rfl|rfl|rfl|rfl|rfl|rfl<;>rfl
theorem gC(m:List Nat)(cs:List Int)(tail:List U):∀pl:List Nat,clean none (units m cs false pl++tail)=units m cs true pl++clean none tail
 | []=>rfl
 |p::pl=>by
  simp only [units,Ft,ER];refine rA (zW _ _ _ _) ?_
  congr 1
  exact gC m cs tail pl
noncomputable def rT(m:List Nat):Int→List Nat→Option Int
 |n,[]=>some n
 |n,p::r=>if p<m.getD p 0 then rT m (n+1) r else if n-1<0 then none else rT m (n-1) r
theorem FE(m:List Nat)(cs:List Int)(p:Nat)(n:Int)(tail:List U):lU n (eM m cs true p++tail)=if p<m.getD p 0 then lU (n+1) tail else if n-1<0 then none else lU (n-1) tail:=by
 have hq:=Zk (jx cs p);unfold eM;generalize iJ cs p=q at*
 unfold sO
 by_cases h:p<m.getD p 0
 ·refine rA (if_pos h) ?_;refine rA (if_pos h) ?_
  rcases hq with rfl|rfl|rfl|rfl|rfl|rfl|rfl<;>rfl
 ·refine rA (if_neg h) ?_;refine rA (if_neg h) ?_
  rcases hq with rfl|rfl|rfl|rfl|rfl|rfl|rfl<;>rfl
theorem nS(m:List Nat)(cs:List Int)(tail:List U):∀ (pl:List Nat) (n:Int),lU n (units m cs true pl++tail)=match rT m n pl with|some k=>lU k tail|none=>none
 | [],n=>rfl
 |p::pl,n=>by
  simp only [units,Ft,ER];rw [FE,rT];have ih:= λn=>nS m cs tail pl n;unfold units at ih
  split
  ·exact ih _
  ·split
   ·rfl
   ·exact ih _
noncomputable def Ls(m:List Nat)(pl:List Nat):Bool:=rT m 0 pl==some 0
theorem Bo(m:List Nat)(cs:List Int)(pl:List Nat):LR (units m cs false pl)=Ls m pl:=by
 have h1:=gC m cs [] pl;have h2:=nS m cs [] pl 0;simp only [D8,clean] at h1 h2
 unfold LR Ls;refine rA h1 ?_;refine rA h2 ?_;cases rT m 0 pl with
 |none=>rfl
 |some k=>simp [lU]
noncomputable def wY:List Nat→List (List Nat)
 | []=>[[]]
 |a::l=>wY l++(wY l).map (a:: ·)
theorem Bk{s l:List Nat}(h:s.Sublist l):s∈wY l:=by
 induction h with
 |slnil=>simp [wY]
 |cons a _ ih=>simp [wY,ih]
 |cons_cons a _ ih=>simp [wY,ih]
noncomputable def run(s:List Nat)(a b:Nat):List Nat:=(s.drop a).take b
theorem Nj:((zC 5).all λi=>(wY (zC 6)).all λs=>!bk (aH.getD i []) s||(zC 7).all λa=>(zC 7).all λb=>Ls (aH.getD i []) (run s a b)==bk (aH.getD i []) (run s a b))=true:=by decide+kernel
theorem Ks:((zC 5).all λi=>(wY (zC 6)).all λs=>(iU (s.map λp=>((aH.getD i []).getD p 0:Int))==s.map λ(p:Nat)=>(p:Int))==bk (aH.getD i []) s)=true:=by decide+kernel
theorem H6:((zC 5).all λi=>(zC 6).all λq=>(zC q).all λp=>!bk (aH.getD i []) [p,q]||(Ls (aH.getD i []) [p,q]&&!Ls (aH.getD i []) [q,p]))=true:=by decide+kernel
theorem l_(hi:i<5):(aH.getD i []).length=6:=by
 have:i=0∨i=1∨i=2∨i=3∨i=4:=by lia
 rcases this with rfl|rfl|rfl|rfl|rfl<;>rfl
theorem yu(hi:i<5){s r:List Nat}(hs:s.Sublist (zC 6))(hc:bk (aH.getD i []) s=true)(hr:r<:+:s):Ls (aH.getD i []) r=bk (aH.getD i []) r:=by
 have hl:=hs.length_le;rw [J4] at hl
 refine lz hr λx y e=>?_;have he:r=run s x.length r.length:=by
  unfold run;refine rB e ?_;refine rA (ER _ _ _) ?_;refine rA Qi ?_;exact rA Pd rfl
 have hle:=congrArg NL e;simp only [be] at hle
 have h1:=AP.mp (AP.mp Nj i (D2.mpr hi)) s (Bk hs);rw [hc] at h1
 simp only [Re,Pz] at h1
 have h2:=AP.mp (AP.mp h1 x.length (D2.mpr (by lia))) r.length (D2.mpr (by lia));rw [←he] at h2
 simpa using h2
theorem xE(hi:i<5){s:List Nat}(hs:s.Sublist (zC 6)):(iU (s.map λp=>((aH.getD i []).getD p 0:Int))==s.map λ(p:Nat)=>(p:Int))=bk (aH.getD i []) s:=by
 have:=AP.mp (AP.mp Ks i (D2.mpr hi)) s (Bk hs)
 simpa using this
theorem PB(hi:i<5)(hq:q<6)(hp:p<q)(hc:bk (aH.getD i []) [p,q]=true):Ls (aH.getD i []) [p,q]=true∧Ls (aH.getD i []) [q,p]=false:=by
 have:=AP.mp (AP.mp (AP.mp H6 i (D2.mpr hi)) q (D2.mpr hq)) p (D2.mpr hp)
 rw [hc] at this
 simpa using this
theorem yd(m:List Nat)(cs:List Int)(sh:Bool)(p:Nat):(eM m cs sh p).all (λu=>wf u&&decide (u.length≤2)&&!u.contains 39)=true:=by
 have hq:=Zk (jx cs p);have hs:=mY m p;unfold eM;generalize iJ cs p=q at*
 generalize sO m p=s at*
 cases sh<;>rcases hs with rfl|rfl<;>rcases hq with rfl|rfl|rfl|rfl|rfl|rfl|rfl<;>decide
theorem nu(m:List Nat)(cs:List Int)(sh:Bool):∀pl:List Nat,(units m cs sh pl).all (λu=>wf u&&decide (u.length≤2)&&!u.contains 39)=true
 | []=>rfl
 |p::pl=>by
  simp only [units,Ft,Se,yd,QU];exact nu m cs sh pl
theorem mR(m:List Nat)(cs:List Int)(sh:Bool)(pl:List Nat):(units m cs sh pl).all wf=true:=by
 have:=nu m cs sh pl
 rw [AP] at this⊢
 intro u hu
 have:=this u hu
 simp only [Fe] at this
 exact this.1.1
theorem m7(m:List Nat)(cs:List Int)(sh:Bool)(pl:List Nat):WF (units m cs sh pl):=(dy _ ([]) ((D8 _).symm) (mR m cs sh pl) (.inl rfl))
theorem Q1:∀us:List U,us.all (λu=>wf u&&decide (u.length≤2)&&!u.contains 39)=true→us.flatten.length≤2*us.length∧39∉us.flatten
 | [],_=>⟨Dj _,by simp⟩
 |u::us,h=>by
  simp only [Mp,Fe,decide_eq_true_eq,MV,N3,decide_eq_false_iff_not] at h
  refine f_ (Q1 us (by simpa [Fe] using h.2)) λh1 h2=>?_;refine ⟨?_,?_⟩
  ·simp only [H9,be,AH];lia
  ·refine rA H9 ?_;refine rA (propext (AF)) ?_
   exact λq=>q.elim h.1.2 h2
theorem gq(m:List Nat)(cs:List Int)(sh:Bool)(pl:List Nat):(units m cs sh pl).flatten.length≤10*pl.length∧39∉(units m cs sh pl).flatten:=by
 refine f_ (Q1 _ (nu m cs sh pl)) λh1 h2=>?_
 have:=i8 m cs sh pl
 exact ⟨by lia,h2⟩
theorem Md{vs:List U}(h:39∉vs.flatten):tS vs.flatten≠("('', '')":Str):=by
 intro q
 have:=congrArg (λs:Str=>s.cps.toList) q
 simp only [fY] at this
 rw [this] at h
 exact h (by decide)
def pE(n:Nat)(d:PyData):Prop:=d.canLay0=true∧d.depth≤n
theorem AK{i:Int}:pE n (.int i):=⟨rfl,LJ _⟩
theorem jc{b:Bool}:pE n (.bool b):=⟨rfl,LJ _⟩
theorem AL(h:x.cps.all (· <0x110000)=true):pE n (.str x):=⟨h,LJ _⟩
theorem kH:∀ {xs:List PyData},(∀x∈xs,pE n x)→La xs=true∧Uu xs≤n
 | [],_=>⟨rfl,LJ _⟩
 |x::xs,h=>by
  refine f_ (kH (xs:=xs) λy hy=>h y (by simp [hy])) λh1 h2=>?_;refine f_ (h x (by simp)) λh3 h4=>?_;refine ⟨by rw [La];refine rA h3 ?_;refine rA h1 ?_;rfl,?_⟩;rw [Uu];lia
theorem gD(h:∀x∈xs,pE n x):pE (n+1) (.list xs):=by
 refine f_ (kH h) λh1 h2=>?_;exact ⟨by rw [Qd];exact h1,by rw [TS];lia⟩
theorem Et(h:∀x∈xs,pE n x):pE (n+1) (.tuple xs):=by
 refine f_ (kH h) λh1 h2=>?_;exact ⟨by rw [Qd];exact h1,by rw [TS];lia⟩
theorem pE.mono(h:pE n d)(hk:n≤k):pE k d:=⟨h.1,L2 h.2 hk⟩
theorem pE.shaped(h:pE n d)(hn:n≤64):Sf d=true:=by
 unfold Sf;refine rA h.1 ?_;refine rA (decide_eq_true (L2 h.2 hn)) ?_;rfl
theorem rI(l:List Int):pE (n+1) (.list (iL l)):=gD λx hx=>by
 refine au (Dc.mp hx) λi zz zq2=>?_;subst zq2;exact AK
theorem ip{l:List Nat}(h:∀c∈l,c<128):pE n (.str (tS l)):=AL (by
 refine rB Array.all_toList ?_;rw [AP];intro c hc
 have:=h c (by simpa [tS] using hc)
 exact decide_eq_true (by lia))
theorem Pc{a:PyData}(h:pE n a)(hn:n≤64)(μ:List ah):dK (.d a) (.d a) μ=some true:=by
 have hs:=h.shaped hn;cases a with
 |none=>exact (f6 rfl).trans ((f6 rfl).trans ((f6 rfl).trans ((oV (rfl:UC μ _=some _) rfl).trans (if_pos ⟨hs,hs⟩))))
 |bool b=>exact congrArg some (beq_self_eq_true b)
 |int i=>exact congrArg some (beq_self_eq_true i)
 |str x=>exact congrArg some (beq_self_eq_true x)
 |list xs=>exact (f6 rfl).trans ((f6 rfl).trans ((f6 rfl).trans ((oV (rfl:UC μ _=some _) rfl).trans ((if_pos ⟨hs,hs⟩).trans (congrArg some (Uz _ h.1))))))
 |tuple xs=>exact (f6 rfl).trans ((f6 rfl).trans ((f6 rfl).trans ((oV (rfl:UC μ _=some _) rfl).trans ((if_pos ⟨hs,hs⟩).trans (congrArg some (Uz _ h.1))))))
 |dict d=>exact absurd h.1 (by simp [Qd])
def Good(x:PyData):Prop:=∃a b,x=.tuple [a,b]∧∀μ,dK (.d a) (.d b) μ=some true
theorem dO{a:PyData}(h:pE n a)(hn:n≤64):Good (.tuple [a,a]):=(fV a a rfl (Pc h hn))
theorem J_:∀xs ys:List Int,UW (iL xs) (iL ys)=(xs==ys)
 | [],[]=>rfl
 | [],_::_=>rfl
 |_::_,[]=>rfl
 |x::xs,y::ys=>by
  refine (?_:(Mv (.int x) (.int y)&&UW (iL xs) (iL ys))=_);refine rA (J_ xs ys) ?_;rfl
theorem B3(xs ys:List Int)(μ:List ah):dK (.d (.list (iL xs))) (.d (.list (iL ys))) μ=some (xs==ys):=by
 exact (f6 rfl).trans ((f6 rfl).trans ((f6 rfl).trans ((oV (rfl:UC μ _=some _) rfl).trans ((if_pos ⟨(rI (n:=0) xs).shaped (by decide),(rI (n:=0) ys).shaped (by decide)⟩).trans (congrArg some (by simp only [Mv,J_]))))))
theorem SB{h:EF}{V'' W:AV}(hf:f ρ μ=some (V,μ))(hg:g ρ μ=some (V',μ))(hh:h ρ μ=some (V'',μ))(hs:spec [V,V',V''] μ=some (W,μ')):af [f,g,h] spec ρ μ=some (W,μ'):=by
 exact (b5 (an hf (yk hg hh))).trans hs
theorem t7{h k:EF}{V'' V3 W:AV}(hf:f ρ μ=some (V,μ))(hg:g ρ μ=some (V',μ))(hh:h ρ μ=some (V'',μ))(hk:k ρ μ=some (V3,μ))(hs:spec [V,V',V'',V3] μ=some (W,μ')):af [f,g,h,k] spec ρ μ=some (W,μ'):=by
 exact (b5 (an hf (an hg (yk hh hk)))).trans hs
noncomputable def uT(m:List Nat)(cs:List Int)(pl:List Nat):List Nat:=(units m cs false pl).flatten
theorem IX(m:List Nat)(cs:List Int)(sh:Bool)(p:Nat):(eM m cs sh p).all (λu=>u.all λc=>decide (c<128))=true:=by
 have hq:=Zk (jx cs p);have hs:=mY m p;unfold eM;generalize iJ cs p=q at*
 generalize sO m p=s at*
 cases sh<;>rcases hs with rfl|rfl<;>rcases hq with rfl|rfl|rfl|rfl|rfl|rfl|rfl<;>decide
theorem ui(m:List Nat)(cs:List Int)(sh:Bool)(pl:List Nat):∀u∈units m cs sh pl,∀c∈u,c<128:=by
 intro u hu c hc;refine au (Lk.mp hu) λp zz hp=>?_
 have:=AP.mp (AP.mp (IX m cs sh p) u hp) c hc
 simpa using this
theorem zD(m:List Nat)(cs:List Int)(sh:Bool)(pl:List Nat):∀c∈(units m cs sh pl).flatten,c<128:=by
 intro c hc;refine au (T_.mp hc) λu hu h=>?_;exact ui m cs sh pl u hu c h
theorem vc{pl:List Nat}(hm:m.length=6)(hc:cs.length=6)(hp:∀p∈pl,p<6)(hz:pl.length≤1000)(h0:a9 i ρ μ=some (.d (.list (nL pl)),μ))(h1:a9 1 ρ μ=some (.d (.list (nL m)),μ))(h2:a9 2 ρ μ=some (.d (.list (iL cs)),μ)):
  dx (kS "") [(af [(a9 i),(a9 1),(a9 2),(kB false)] bC)] fc ρ μ=some (.d (.str (tS (uT m cs pl))),μ):=
 mq (t7 h0 h1 h2 rfl (ZH hm hc hp hz)) rfl (by have:=(gq m cs false pl).1;lia)
theorem xf{pl:List Nat}(hz:pl.length≤100)(h0:f ρ μ=some (.d (.str (tS (uT m cs pl))),μ)):af [f] ar ρ μ=some (.d (.bool (Ls m pl)),μ):=by
 refine rB (Bo m cs pl) ?_;refine d6 h0 (s3 (m7 m cs false pl) ?_ ?_)
 ·have:=(gq m cs false pl).1;lia
 ·have:=i8 m cs false pl;lia
noncomputable def bh(m:List Nat)(G:List Fm):List PyData:=G.map (Fm.enc m)
noncomputable def mW(R M C:PyData)(j:Nat)(t o pr k w y st tx ha td te ke:Option AV):d5:=[some (.d R),some (.d M),some (.d C),some (.c j),t,o,pr,k,w,y,st,tx,ha,td,te,ke]
noncomputable def hdF(m:List Nat):Fm→Int
 | .at i=>sg m i
 | .bin true _ _=>18
 | .bin false _ _=>16
theorem Kw(m:List Nat)(F:Fm):∃ds,F.enc m=.tuple (.int (hdF m F)::ds)∧ds.length≤3:=by
 cases F with
 |«at» i=>exact (aZ _ rfl (by simp))
 |bin p l r=>cases p<;>exact (aZ _ rfl (by simp))
theorem BS(hf:f ρ μ=some (.d (F.enc m),μ)):aF f (kI 0) ρ μ=some (.d (.int (hdF m F)),μ):=by
 refine au (Kw m F) λds e h=>?_;rw [e] at hf
 exact cI hf rfl rfl (by decide) rfl (aa (by simp only [AH];lia))
noncomputable def ae0:Fm→Bool
 | .bin true _ _=>true
 |_=>false
noncomputable def wu:Fm→Bool
 | .bin false _ _=>true
 |_=>false
theorem Ug(hf:f ρ μ=some (.d (F.enc m),μ)):bB (aF f (kI 0)) (jF k9 (kS "|")) dK ρ μ=some (ae0 F,μ):=by
 refine (oh (y:=18) (BS hf) (by rfl)).trans ?_;cases F with
 |«at» i=>rcases gE m i with q|q<;>(refine (?_:some (sg m i==18,μ)=some (false,μ));rw [q];rfl)
 |bin p l r=>cases p<;>rfl
theorem VC(hf:f ρ μ=some (.d (F.enc m),μ)):bB (aF f (kI 0)) (jF k9 (kS "*")) dK ρ μ=some (wu F,μ):=by
 refine (oh (y:=16) (BS hf) (by rfl)).trans ?_;cases F with
 |«at» i=>rcases gE m i with q|q<;>(refine (?_:some (sg m i==16,μ)=some (false,μ));rw [q];rfl)
 |bin p l r=>cases p<;>rfl
noncomputable def opD:PyData→List PyData
 | .tuple (.int n::r)=>if n=18 then r.drop 1 else [.tuple (.int n::r)]
 |x=>[x]
theorem BL(m:List Nat)(F:Fm):opD (F.enc m)=bh m (xR F):=by
 cases F with
 |«at» i=>exact if_neg (by rcases gE m i with q|q<;>rw [q]<;>decide)
 |bin p l r=>cases p<;>rfl
theorem tX(m:List Nat):∀G:List Fm,((bh m G).flatMap λx=>if true then (opD x).map (λy=>y) else [])=bh m (G.flatMap xR)
 | []=>rfl
 |F::G=>by
  have ih:=tX m G;simp only [bh,F9,Ft,if_true,TT] at ih⊢
  refine rA ih ?_;refine rA (BL _ _) ?_
  simp [bh]
theorem fy(G:List Fm):G.length≤(bJ G).length:=by
 have:=l5 G 0;lia
abbrev Q9:SF:=(ap (cb 0 (ce uO (aK false (a9 0)) (dz 16) (c_ bg (gv (aK false (dw (bB (aF (a9 16) (kI 0)) (jF k9 (kS "|")) dK) (cg (a9 16) (aL (kI 2)) b9) (cW [(a9 16)]))) (dz 17) (c_ bg (aY (a9 17))))))) aP)
theorem Jx{G:List Fm}{M C:PyData}{t o pr k w y st:Option AV}(hz:(bJ G).length≤6):
  Q9 (mW (.list (bh m G)) M C j t o pr k w y st tx ha td te ke) μ=some (.next,mW (.list (bh m (G.flatMap xR))) M C j t o pr k w y st tx ha td te ke,μ):=by
 have hl:=fy (G.flatMap xR);rw [hU] at hl
 have hcm:=po (sc:=uO) (itf:=aK false (a9 0)) (itf2:=aK false (dw (bB (aF (a9 16) (kI 0)) (jF k9 (kS "|")) dK) (cg (a9 16) (aL (kI 2)) b9) (cW [(a9 16)]))) (t:=bg) (e:=a9 17) (ρ:=mW (.list (bh m G)) M C j t o pr k w y st tx ha td te ke) (μ:=μ) (xs:=bh m G) 16 17 (by decide) (λzz=>true) opD (λzz y=>y)
  (d9 (V:=.d (.list (bh m G))) rfl rfl) (az _ _) (λzz zz zz=>rfl) (λx hx zz w=>by
   refine au (Dc.mp hx) λF hF zq2=>?_;subst zq2;refine mo (lk (Ug (F:=F) (m:=m) rfl) (λh=>?_) (λh=>?_))
   ·cases F with
    |«at» i=>cases h
    |bin p l r=>
     cases p with
     |false=>cases h
     |true=>exact uu (xs:=[.int 18,.list (nL (l.pl++r.pl)),l.enc m,r.enc m]) 2 rfl (by decide) (by simp) (aa (xM rfl))
   ·have:opD (F.enc m)=[F.enc m]:=by
     refine rA (BL _ _) ?_;cases F with
     |«at» i=>rfl
     |bin p l r=>
      cases p with
      |false=>rfl
      |true=>cases h
    refine rA this ?_;exact d8 (ds:=[F.enc m]) rfl (aa (xM rfl))) (λzz zz zz zz zz=>rfl) (by refine rA (tX _ _) ?_;rw [bh];refine rA (xP _) ?_;exact aa (by lia))
 rw [tX] at hcm
 exact (aB (bO (bY hcm))).trans bK
noncomputable def opI:Nat→List Fm→List Fm
 |0,G=>G
 |n+1,G=>opI n (G.flatMap xR)
theorem OL:∀ (n:Nat) (G:List Fm),bJ (opI n G)=bJ G
 |0,_=>rfl
 |n+1,G=>by rw [opI];refine rA (OL n _) ?_;exact rA (hU _) rfl
theorem vk{m:List Nat}{M C:PyData}{j:Nat}{o pr k w y st tx ha td te ke:Option AV}{μ:List ah}(xs:List PyData):∀ (r:List PyData) (G:List Fm) (t:Option AV),(bJ G).length≤6→∃t',
  fX (dz 4) Q9 aP none xs r (mW (.list (bh m G)) M C j t o pr k w y st tx ha td te ke) μ=some (.next,mW (.list (bh m (opI r.length G))) M C j t' o pr k w y st tx ha td te ke,μ)
 | [],G,t,_=>⟨t,rfl⟩
 |x::r,G,t,h=>by
  refine bP (vk (m:=m) (M:=M) (C:=C) (j:=j) (o:=o) (pr:=pr) (k:=k) (w:=w) (y:=y) (st:=st) (tx:=tx) (ha:=ha) (td:=td) (te:=te) (ke:=ke) (μ:=μ) xs r (G.flatMap xR) (some (.d x)) (by refine rA (hU _) ?_;exact h)) λt' e=>?_;exact ⟨t',LM (dP (ρ1:=mW (.list (bh m G)) M C j (some (.d x)) o pr k w y st tx ha td te ke) rfl (Jx h) (az _ _)) e⟩
theorem HK{s:a_}{G:List Fm}{M C:PyData}(hz:(bJ G).length≤6):∃t,
  CB s (mW (.list (bh m G)) M C j none none none none none none none none none none none none) μ=some (.next,mW (.list (bh m (fM G))) M C j t none none none none none none none none none none none,μ):=by
 refine bP (vk (m:=m) (M:=M) (C:=C) (j:=j) (o:=none) (pr:=none) (k:=none) (w:=none) (y:=none) (st:=none) (tx:=none) (ha:=none) (td:=none) (te:=none) (ke:=none) (μ:=μ) (fK 0 5) (fK 0 5) G none hz) λt' e=>?_;refine ⟨t',?_⟩;unfold CB;refine rA (gM (xs:=fK 0 5) (gg:=none) (μ1:=μ) rfl) ?_;exact e
noncomputable def fL:Fm→Int
 | .at _=>2
 | .bin .. =>4
theorem Tl(G:List Fm):(G.map fL==[2,2])=two G:=by
 match G with
 | []=>rfl
 | [.at _]=>rfl
 | [.bin ..]=>rfl
 | [.at _,.at _]=>rfl
 | [.at _,.bin ..]=>rfl
 | [.bin ..,.at _]=>rfl
 | [.bin ..,.bin ..]=>rfl
 |F::F'::F''::G=>
  have h1:two (F::F'::F''::G)=false:=by cases F<;>cases F'<;>rfl
  refine rA h1 ?_
  simp
theorem Hf{G:List Fm}(h:G[k]? =some F):(bh m G)[k]? =some (F.enc m):=by
 rw [bh,GW];refine rA h ?_;rfl
theorem Bd{G:List Fm}(hf:f ρ μ=some (.d (.list (bh m G)),μ))(hg:g ρ μ=some (.d (.int k),μ))(h:G[k]? =some F)(hz:G.length≤6):aF f g ρ μ=some (.d (F.enc m),μ):=
 cI hf hg rfl (by omega) (by refine rA (Fs _) ?_;exact Hf h) (by rw [bh];refine rA (xP _) ?_;exact aa (by omega))
theorem oZ{s:List Nat}(h:s.Sublist (zC 6)):∀p∈s,p<6:= λp hp=>D2.mp (h.subset hp)
theorem iF{s:List Nat}(h:s.Sublist (zC 6)):s.length≤6:=by have:=h.length_le;rwa [J4] at this
theorem Ha{s:a_}{G:List Fm}{M C:PyData}{t:Option AV}(hz:(bJ G).length≤6)(h2:two G=false):
  tb s (mW (.list (bh m G)) M C j t none none none none none none none none none none none) μ=some (.next,mW (.list (bh m G)) M C j t none none none none none none none none none none none,μ):=by
 have hl:=fy G;have hcm:=iC (sc:=uY) (itf:=aK false (a9 0)) (e:=af [a9 16] dC) (ρ:=mW (.list (bh m G)) M C j t none none none none none none none none none none none) (μ:=μ) (xs:=bh m G) (g:=none) 16 (λx=>match x with| .tuple l=>.int l.length|x=>x) (d9 (V:=.d (.list (bh m G))) rfl rfl) (az _ _) (λx hx=>by
  refine au (Dc.mp hx) λF hF zq2=>?_;subst zq2;cases F with
  |«at» i=>exact gG rfl (xs:=[.int (sg m i),.list [.int i]]) rfl (aa (xM rfl))
  |bin p l r=>exact gG rfl (xs:=[.int (if p then 18 else 16),.list (nL (l.pl++r.pl)),l.enc m,r.enc m]) rfl (aa (xM rfl))) (by rw [bh];refine rA (xP _) ?_;exact aa (by omega))
 have e:(bh m G).map (λx=>match x with| .tuple l=>Fa l.length|x=>x)=iL (G.map fL):=by
  simp only [bh,iL,E_];apply GN;intro F _;cases F<;>rfl
 rw [e] at hcm
 unfold tb;refine rA (gR (dH (bY hcm) (dJ (ds:=[.int 2,.int 2]) rfl (aa (xM rfl))) (B3 (G.map fL) [2,2] μ)) (by rw [Tl];exact h2)) ?_;exact bK
noncomputable def FG(b1 b2:Bool):PyData:=.tuple [.list [.bool b1,.bool b2],.list [.bool true,.bool true]]
theorem isB{b c:Bool}(hf:f ρ μ=some (.d (.bool b),μ))(hg:g ρ μ=some (.d (.bool c),μ)):dZ f g LF ρ μ=some (.d (.bool (b==c)),μ):=gZ hf hg rfl
theorem Ee{s:a_}{t:Option AV}(hi:i<5)(hc:cs.length=6)(hs:(bJ [Fm.at p,Fm.at q]).Sublist (zC 6))(hcl:bk (aH.getD i []) (bJ [Fm.at p,Fm.at q])=true)(hj:μ[j]? =some (.live X))(hX:X.length≤10000):
  ∃ρ',tb s (mW (.list (bh (aH.getD i []) [.at p,.at q])) (.list (nL (aH.getD i []))) (.list (iL cs)) j t none none none none none none none none none none none) μ=some (.ret (.d (.bool true)),ρ',μ.set j (.live (X++[FG true true]))):=by
 have hm:=l_ hi;have hpq:bJ [Fm.at p,Fm.at q]=[p,q]:=rfl;rw [hpq] at hs hcl
 have h6:=oZ hs;have hlt:p<q:=by
  have:([p,q]:List Nat).Pairwise (· < ·):=List.Pairwise.sublist hs List.pairwise_lt_range
  simpa using this
 refine f_ (PB hi (h6 q (by simp)) hlt hcl) λb1 b2=>?_;generalize hmm:aH.getD i []=m at*
 let ρ0:=mW (.list (bh m [.at p,.at q])) (.list (nL m)) (.list (iL cs)) j t none none none none none none none none none none none
 have hcm:=iC (sc:=uY) (itf:=aK false (a9 0)) (e:=af [a9 16] dC) (ρ:=ρ0) (μ:=μ) (xs:=bh m [.at p,.at q]) (g:=none) 16 (λzz=>.int 2) (d9 (V:=.d (.list (bh m [.at p,.at q]))) rfl rfl) (az _ _) (λx hx=>by
  refine au (Dc.mp hx) λF hF zq2=>?_;subst zq2;simp only [Cp,Ew,or_false] at hF
  rcases hF with rfl|rfl
  ·exact gG rfl (xs:=[.int (sg m p),.list [.int p]]) rfl (aa (xM rfl))
  ·exact gG rfl (xs:=[.int (sg m q),.list [.int q]]) rfl (aa (xM rfl))) (aa (by simp [bh]))
 have g0:aF (a9 0) (kI 0) ρ0 μ=some (.d ((Fm.at p).enc m),μ):=Bd (G:=[.at p,.at q]) (k:=0) rfl rfl rfl (by simp);have g1:aF (a9 0) (kI 1) ρ0 μ=some (.d ((Fm.at q).enc m),μ):=Bd (G:=[.at p,.at q]) (k:=1) rfl rfl rfl (by simp);have q0:=qw g0;have q1:=qw g1;have a1:=cT q0 q1 (xs:=nL [p]) (ys:=nL [q]) rfl rfl (aa (by simp [nL]));have a2:=cT q1 q0 (xs:=nL [q]) (ys:=nL [p]) rfl rfl (aa (by simp [nL]));have ht:=d8 (ds:=[.list (nL [p,q]),.list (nL [q,p])]) (an a1 (an a2 bX)) (aa (xM rfl));have hcm2:=iC (sc:=yn) (e:=dx (kS "") [(af [(a9 16),(a9 1),(a9 2),(kB false)] bC)] fc) (ρ:=ρ0) (μ:=μ) (xs:=[.list (nL [p,q]),.list (nL [q,p])]) (g:=none) 16 (λx=>match x with| .list [.int a,.int b]=>.str (tS (uT m cs [a.toNat,b.toNat]))|x=>x) (mo ht) (az _ _) (λx hx=>by
  simp only [Cp,Ew,or_false] at hx
  rcases hx with rfl|rfl
  ·exact vc (pl:=[p,q]) hm hc h6 (by simp) rfl rfl rfl
  ·exact vc (pl:=[q,p]) hm hc (λx hx=>h6 x (by simp at hx⊢;exact hx.symm)) (by simp) rfl rfl rfl) (aa (xM rfl))
 let ρ1:=mW (.list (bh m [.at p,.at q])) (.list (nL m)) (.list (iL cs)) j t none (some (.d (.list [.str (tS (uT m cs [p,q])),.str (tS (uT m cs [q,p]))]))) none none none none none none none none none
 have c0:af [aF (a9 6) (kI 0)] ar ρ1 μ=some (.d (.bool true),μ):=by
  refine rB b1 ?_;exact xf (by simp) (cI (f:=a9 6) (V:=.d (.list [.str (tS (uT m cs [p,q])),.str (tS (uT m cs [q,p]))])) (k:=0) rfl rfl rfl (by decide) rfl (aa (xM rfl)))
 have c1:af [aF (a9 6) (kI 1)] ar ρ1 μ=some (.d (.bool false),μ):=by
  refine rB b2 ?_;exact xf (by simp) (cI (f:=a9 6) (V:=.d (.list [.str (tS (uT m cs [p,q])),.str (tS (uT m cs [q,p]))])) (k:=1) rfl rfl rfl (by decide) rfl (aa (xM rfl)))
 have l1:=dJ (ds:=[.bool true,.bool true]) (an (isB c0 (rfl:kB true _ _=some (.d (.bool true),_))) (an (isB c1 (rfl:kB false _ _=some (.d (.bool false),_))) bX)) (aa (xM rfl));have l2:aU [kB true,kB true] ρ1 μ=some (.d (.list [.bool true,.bool true]),μ):=dJ (ds:=[.bool true,.bool true]) rfl (aa (xM rfl));have tt:=d8 (ds:=[.list [.bool true,.bool true],.list [.bool true,.bool true]]) (an l1 (an l2 bX)) (aa (xM rfl));refine ⟨ρ1,?_⟩;unfold tb;refine (gH (dH (bY hcm) (dJ (ds:=[.int 2,.int 2]) rfl (aa (xM rfl))) (B3 [2,2] [2,2] μ)) rfl).trans ?_;refine (aB (jq hcm2)).trans ?_;refine (aB (ρ1:=ρ1) (eB (gw (j:=j) rfl tt hj (aa (by omega))))).trans ?_;exact cV (ee rfl)
theorem jk(l r:Fm)(B:List Fm):∀ (A pre:List Fm),gQ l r B A pre=(zC (A.length+1)).map λj=>(A.drop j++[l],pre++A.take j++r::B)
 | [],pre=>by simp [Vj]
 |F::A,pre=>by
  rw [Wi];refine rA (jk l r B A (pre++[F])) ?_;refine rA AH ?_;refine rA (LN (n:=A.length+1)) ?_;refine rA F9 ?_;refine rA E_ ?_
  congr 1
  ·simp
  ·apply GN
   intro j _
   simp
theorem j6(l r:Fm)(A:List Fm):∀ (B pre:List Fm),iV l r A B pre=(zC (B.length+1)).map λj=>(r::(pre++B.take j),A++l::B.drop j)
 | [],pre=>by simp [VB]
 |F::B,pre=>by
  rw [UT];refine rA (j6 l r A B (pre++[F])) ?_;refine rA AH ?_;refine rA (LN (n:=B.length+1)) ?_;refine rA F9 ?_;refine rA E_ ?_
  congr 1
  ·simp
  ·apply GN
   intro j _
   simp
def Wq(A B:List Fm)(l r:Fm)(w:List Fm×List Fm):Prop:=
 (∃A1 A2,A=A1++A2∧w=(A2++[l],A1++r::B))∨(∃B1 B2,B=B1++B2∧w=(r::B1,A++l::B2))
theorem Jt{A:List Fm}{w:List Fm×List Fm}(h:w∈gQ l r B A []++iV l r A B []):Wq A B l r w:=by
 rcases AF.mp h with h|h
 ·rw [jk] at h
  refine au (Dc.mp h) λj zz zq2=>?_;subst zq2;exact .inl (fV (A.take j) (A.drop j) ((L_ j A).symm) (by simp))
 ·rw [j6] at h
  refine au (Dc.mp h) λj zz zq2=>?_;subst zq2;exact .inr (fV (B.take j) (B.drop j) ((L_ j B).symm) (by simp))
noncomputable def SH:Fm→Nat
 | .at _=>0
 | .bin p l r=>(if p then 0 else 1)+SH l+SH r
noncomputable def jl(G:List Fm):Nat:=(G.map SH).sum
theorem Ca(A B:List Fm):jl (A++B)=jl A+jl B:=by simp [jl]
theorem qa(F:Fm)(B:List Fm):jl (F::B)=SH F+jl B:=by simp [jl]
theorem NK:jl []=0:=rfl
theorem kL:∀G:List Fm,jl (G.flatMap xR)=jl G
 | []=>rfl
 |F::G=>by
  refine rA Ft ?_;refine rA (Ca _ _) ?_;refine rA (kL G) ?_;refine rA (qa _ _) ?_
  congr 1
  cases F with
  |«at» i=>simp [FK,jl]
  |bin p l r=>cases p<;>simp [Ru,Qx,jl,SH]
theorem JI(G:List Fm):jl (fM G)=jl G:=by
 unfold fM;refine rA (kL _) ?_;refine rA (kL _) ?_;refine rA (kL _) ?_;refine rA (kL _) ?_;exact rA (kL _) rfl
theorem T1{A:List Fm}{w:List Fm×List Fm}(h:Wq A B l r w):jl w.1+jl w.2+1=jl (A++.bin false l r::B):=by
 rcases h with ⟨A1,A2,rfl,rfl⟩| ⟨B1,B2,rfl,rfl⟩<;>simp only [Ca,qa,NK,SH]<;>simp<;>lia
theorem Hk{A:List Fm}{w:List Fm×List Fm}(h:Wq A B l r w):(bJ w.1++bJ w.2).Perm (bJ (A++.bin false l r::B)):=by
 rw [List.perm_iff_count];intro a
 rcases h with ⟨A1,A2,rfl,rfl⟩| ⟨B1,B2,rfl,rfl⟩<;>simp only [d7,b6,gy,Fm.pl,List.count_append,List.count_nil]<;>lia
theorem sZ{A:List Fm}{w:List Fm×List Fm}(h:Wq A B l r w):bJ w.1<:+:bJ (A++.bin false l r::B):=by
 rcases h with ⟨A1,A2,rfl,rfl⟩| ⟨B1,B2,rfl,rfl⟩
 ·exact (jK (bJ A1) (r.pl++bJ B) (by simp [d7,b6,gy,Fm.pl]))
 ·exact (jK (bJ A++l.pl) (bJ B2) (by simp [d7,b6,Fm.pl]))
theorem KJ{A:List Fm}{w:List Fm×List Fm}(h:Wq A B l r w):(bJ w.2).Sublist (bJ (A++.bin false l r::B)):=by
 rcases h with ⟨A1,A2,rfl,rfl⟩| ⟨B1,B2,rfl,rfl⟩
 ·have:bJ ((A1++A2)++.bin false l r::B)=bJ A1++((bJ A2++l.pl)++(r.pl++bJ B)):=by simp [d7,b6,Fm.pl]
  refine rA this ?_;simp only [d7,b6];exact SY (QR _) (Qk _ _)
 ·have:bJ (A++.bin false l r::(B1++B2))=(bJ A++l.pl)++((r.pl++bJ B1)++bJ B2):=by simp [d7,b6,Fm.pl]
  refine rA this ?_;simp only [d7,b6,←ER];refine rA (ER (bJ A++l.pl) _ _) ?_;refine rA (ER (bJ A++l.pl) _ _) ?_;exact SY (QR _) (Qk _ _)
theorem Ei:((zC 5).all λi=>(zC 6).all λp=>(aH.getD i []).getD ((aH.getD i []).getD p 0) 0==p)=true:=by decide+kernel
theorem ab2(hi:i<5)(hp:p<6):(aH.getD i []).getD ((aH.getD i []).getD p 0) 0=p:=by
 have:=AP.mp (AP.mp Ei i (D2.mpr hi)) p (D2.mpr hp)
 simpa using this
theorem pO{s:List Nat}(h:bk m s=true)(hp:p∈s):m.getD p 0∈s:=by
 have:=AP.mp h p hp
 simpa using this
theorem yV{A:List Fm}{w:List Fm×List Fm}(hi:i<5)(h:Wq A B l r w)(hs:(bJ (A++.bin false l r::B)).Sublist (zC 6))(hc:bk (aH.getD i []) (bJ (A++.bin false l r::B))=true)(h1:bk (aH.getD i []) (bJ w.1)=true):bk (aH.getD i []) (bJ w.2)=true:=by
 have hp:=Hk h;have hn:(bJ w.1++bJ w.2).Nodup:=hp.symm.nodup (List.Nodup.sublist hs List.nodup_range);unfold bk;rw [AP];intro p hpw;have hpG:p∈bJ (A++.bin false l r::B):=hp.subset (CO _ hpw);have hm:=pO hc hpG
 rcases AF.mp (hp.symm.subset hm) with q|q
 ·have:=pO h1 q
  rw [ab2 hi (oZ hs p hpG)] at this
  exact absurd rfl ((QK.mp hn).2.2 p this p hpw)
 ·simpa using q
def j4(m:List Nat)(w:List Fm×List Fm):PyData:=.tuple [.list (bh m w.1),.list (bh m w.2)]
theorem Kn(m:List Nat)(A B:List Fm):bh m (A++B)=bh m A++bh m B:=by simp [bh]
theorem f9(m:List Nat)(A:List Fm):(bh m A).length=A.length:=by simp [bh]
theorem sR(m:List Nat)(A:List Fm)(k:Nat):(bh m A).take k=bh m (A.take k):=by simp [bh,Rh]
theorem t0(m:List Nat)(A:List Fm)(k:Nat):(bh m A).drop k=bh m (A.drop k):=by simp [bh,To]
theorem mz:∀ (n:Nat) (a:Nat),fK a n=(zC n).map λ(i:Nat)=>Fa ((a+i:Nat):Int)
 |0,_=>rfl
 |n+1,a=>by
  rw [fK];refine rA LN ?_;refine rA F9 ?_;refine rA E_ ?_;refine rA (show ((a:Int)+1)=((a+1:Nat):Int) by lia) ?_;refine rA (mz n (a+1)) ?_
  congr 1
  apply GN;intro i _;refine (?_:Fa _=Fa _)
  congr 1
  simp only [T2];lia
theorem HN:((zC 8).all λa=>(zC 8).all λb=>KH (a:Int) (b:Int) 1)=true:=by decide+kernel
theorem GZ{a:Nat}(ha:a<8)(hb:b<8):KH (a:Int) (b:Int) 1=true:=
 AP.mp (AP.mp HN a (D2.mpr ha)) b (D2.mpr hb)
theorem pL{a:Nat}(hf:f ρ μ=some (.rng a b,μ))(ha:a<8)(hb:b<8):aK false f ρ μ=some ((zC (b-a)).map λ(i:Nat)=>Fa ((a+i:Nat):Int),none,μ):=by
 exact (nQ hf (GZ ha hb)).trans (by rw [show ((b:Int)-(a:Int)).toNat=b-a by lia,mz])
section
variable {A:List Fm} {M C:PyData} {t pr w y st:Option AV}
noncomputable abbrev dX(A B:List Fm)(l r:Fm):List Fm:=A++.bin false l r::B
theorem Sn(hf:f ρ μ=some (.d ((Fm.bin false l r).enc m),μ)):aF f (kI 2) ρ μ=some (.d (l.enc m),μ):=
 cI (xs:=[.int 16,.list (nL (l.pl++r.pl)),l.enc m,r.enc m]) (k:=2) hf rfl rfl (by decide) rfl (aa (xM rfl))
theorem Qs(hf:f ρ μ=some (.d ((Fm.bin false l r).enc m),μ)):aF f (kI 3) ρ μ=some (.d (r.enc m),μ):=
 cI (xs:=[.int 16,.list (nL (l.pl++r.pl)),l.enc m,r.enc m]) (k:=3) hf rfl rfl (by decide) rfl (aa (xM rfl))
theorem rG:(dX A B l r).length=A.length+B.length+1:=by simp [dX];lia
theorem FC{G:List Fm}(h0:a9 0 ρ μ=some (.d (.list (bh m G)),μ))(hk:f ρ μ=some (.d (.int k),μ))(h:k≤G.length)(hz:G.length≤6):cg (a9 0) b9 (aL f) ρ μ=some (.d (.list (bh m (G.take k))),μ):=by
 refine (f5 (lo:=none) (hi:=some (k:Int)) h0 rfl (dG hk) (by refine rA (f9 _ _) ?_;exact aa (by lia))).trans ?_;refine rA (p8 _ (by rw [f9];exact h)) ?_;exact rA (sR _ _ _) rfl
theorem KY{G:List Fm}(h0:a9 0 ρ μ=some (.d (.list (bh m G)),μ))(hk:f ρ μ=some (.d (.int k),μ))(h:k≤G.length)(hz:G.length≤6):cg (a9 0) (aL f) b9 ρ μ=some (.d (.list (bh m (G.drop k))),μ):=by
 refine (f5 (lo:=some (k:Int)) (hi:=none) h0 (dG hk) rfl (by refine rA (f9 _ _) ?_;exact aa (by lia))).trans ?_;refine rA (Cv _ (by rw [f9];exact h)) ?_;exact rA (t0 _ _ _) rfl
theorem Jg{G:List Fm}{a:Nat}(h0:a9 0 ρ μ=some (.d (.list (bh m G)),μ))(hf:f ρ μ=some (.d (.int a),μ))(hg:g ρ μ=some (.d (.int b),μ))(hab:a≤b)(h:b≤G.length)(hz:G.length≤6):cg (a9 0) (aL f) (aL g) ρ μ=some (.d (.list (bh m ((G.drop a).take (b-a)))),μ):=by
 refine (f5 (lo:=some (a:Int)) (hi:=some (b:Int)) h0 (dG hf) (dG hg) (by refine rA (f9 _ _) ?_;exact aa (by lia))).trans ?_;refine rA (Hq _ hab (by rw [f9];exact h)) ?_;refine rA (t0 _ _ _) ?_;exact rA (sR _ _ _) rfl
theorem Db{X Y:List Fm}(hf:f ρ μ=some (.d (.list (bh m X)),μ))(hg:g ρ μ=some (.d (.list (bh m Y)),μ))(hz:X.length+Y.length≤100):aj f g aT ρ μ=some (.d (.list (bh m (X++Y))),μ):=by
 refine rA (Kn _ _ _) ?_;exact cT hf hg rfl rfl (aa (by refine rA (f9 _ _) ?_;refine rA (f9 _ _) ?_;lia))
theorem Oh(hf:f ρ μ=some (.d (F.enc m),μ)):aU [f] ρ μ=some (.d (.list (bh m [F])),μ):=jW hf
noncomputable abbrev ρB(m:List Nat)(A B:List Fm)(l r:Fm)(M C:PyData)(ja:Nat)(t pr w y st tx ha td te ke:Option AV):d5:=mW (.list (bh m (dX A B l r))) M C ja t (some (.d ((Fm.bin false l r).enc m))) pr (some (.d (.int A.length))) w y st tx ha td te ke
theorem GE(hz:(dX A B l r).length≤6):e_ ow (aK false (af [(aj (a9 7) (kI 1) aT)] cJ)) (dz 16) (c_ bg (aY (cW [(aj (cg (a9 0) (aL (a9 16)) (aL (a9 7))) (aU [(aF (a9 5) (kI 2))]) aT),(aj (aj (cg (a9 0) b9 (aL (a9 16))) (aU [(aF (a9 5) (kI 3))]) aT) (cg (a9 0) (aL (aj (a9 7) (kI 1) aT)) b9) aT)])))
  (ρB m A B l r M C ja t pr w y st tx ha td te ke) μ=some ((gQ l r B A []).map (j4 m),μ):=by
 have hG:=rG (A:=A) (B:=B) (l:=l) (r:=r);have hi:aK false (af [(aj (a9 7) (kI 1) aT)] cJ) (ρB m A B l r M C ja t pr w y st tx ha td te ke) μ=some ((zC (A.length+1-0)).map λ(i:Nat)=>Fa ((0+i:Nat):Int),none,μ):=
  pL (d6 (cU (x:=A.length) (y:=1) rfl rfl) rfl) (by lia) (by lia)
 have hcm:=iC (sc:=ow) (e:=(cW [(aj (cg (a9 0) (aL (a9 16)) (aL (a9 7))) (aU [(aF (a9 5) (kI 2))]) aT),(aj (aj (cg (a9 0) b9 (aL (a9 16))) (aU [(aF (a9 5) (kI 3))]) aT) (cg (a9 0) (aL (aj (a9 7) (kI 1) aT)) b9) aT)])) 16
  (λx=>match x with| .int j=>j4 m (A.drop j.toNat++[l],[]++A.take j.toNat++r::B)|x=>x) hi (az _ _) (λx hx=>by
   refine au (Dc.mp hx) λj hj zq2=>?_;subst zq2;have hj:=D2.mp hj;refine rA (LB _) ?_
   let ρ':d5:=(bG ow (ρB m A B l r M C ja t pr w y st tx ha td te ke)).set 16 (some (.d (.int (j:Int))))
   have s1:cg (a9 0) (aL (a9 16)) (aL (a9 7)) ρ' μ=some (.d (.list (bh m (A.drop j))),μ):=by
    have:=Jg (m:=m) (ρ:=ρ') (f:=a9 16) (g:=a9 7) (G:=dX A B l r) (a:=j) (b:=A.length) (μ:=μ) rfl rfl rfl (by lia) (by lia) (by lia)
    refine rA this ?_;have e:(Tf j (dX A B l r)).take (A.length-j)=A.drop j:=by
     refine rA ND ?_;refine rA (Mu (by simp)) ?_;exact rA (Fj (by simp)) rfl
    exact rA e rfl
   have s2:cg (a9 0) b9 (aL (a9 16)) ρ' μ=some (.d (.list (bh m (A.take j))),μ):=by
    have:=FC (m:=m) (ρ:=ρ') (f:=a9 16) (G:=dX A B l r) (k:=j) (μ:=μ) rfl rfl (by lia) (by lia)
    refine rA this ?_;exact rA (Mu (by lia)) rfl
   have s3:cg (a9 0) (aL (aj (a9 7) (kI 1) aT)) b9 ρ' μ=some (.d (.list (bh m B)),μ):=by
    have:=KY (m:=m) (ρ:=ρ') (f:=aj (a9 7) (kI 1) aT) (G:=dX A B l r) (k:=A.length+1) (μ:=μ) rfl (cU (x:=A.length) (y:=1) rfl rfl) (by lia) (by lia)
    refine rA this ?_;have e:Tf (A.length+1) (dX A B l r)=B:=by refine rA ND ?_;simp
    exact rA e rfl
   have p2:aU [aF (a9 5) (kI 2)] ρ' μ=some (.d (.list (bh m [l])),μ):=Oh (Sn rfl);have p3:aU [aF (a9 5) (kI 3)] ρ' μ=some (.d (.list (bh m [r])),μ):=Oh (Qs rfl);have a1:=Db s1 p2 (by simp;lia);have a2:=Db (Db s2 p3 (by simp;lia)) s3 (by simp;lia);refine (d8 (ds:=[.list (bh m (A.drop j++[l])),.list (bh m (A.take j++[r]++B))]) (an a1 (an a2 bX)) (aa (xM rfl))).trans ?_
   simp [j4]) (by simp;exact aa (by lia))
 refine hcm.trans (congrArg (λL=>some (L,μ)) ?_);rw [jk];refine rA E_ ?_;refine rA E_ ?_;refine rA (Sc _) ?_;apply GN;intro j _
 simp
theorem FR(hz:(dX A B l r).length≤6):e_ n0 (aK false (af [(aj (a9 7) (kI 1) aT),(aj (af [(a9 0)] dC) (kI 1) aT)] cJ)) (dz 16) (c_ bg (aY (cW [(aj (aU [(aF (a9 5) (kI 3))]) (cg (a9 0) (aL (aj (a9 7) (kI 1) aT)) (aL (a9 16))) aT),(aj (aj (cg (a9 0) b9 (aL (a9 7))) (aU [(aF (a9 5) (kI 2))]) aT) (cg (a9 0) (aL (a9 16)) b9) aT)])))
  (ρB m A B l r M C ja t pr w y st tx ha td te ke) μ=some ((iV l r A B []).map (j4 m),μ):=by
 have hG:=rG (A:=A) (B:=B) (l:=l) (r:=r);have hlen:af [a9 0] dC (ρB m A B l r M C ja t pr w y st tx ha td te ke) μ=some (.d (.int ((dX A B l r).length:Nat)),μ):=by
  refine rA (gG (f:=a9 0) (xs:=bh m (dX A B l r)) rfl rfl (by rw [f9];exact aa (by lia))) ?_;exact rA (f9 _ _) rfl
 have hi:aK false (af [(aj (a9 7) (kI 1) aT),(aj (af [(a9 0)] dC) (kI 1) aT)] cJ) (ρB m A B l r M C ja t pr w y st tx ha td te ke) μ=some ((zC ((dX A B l r).length+1-(A.length+1))).map λ(i:Nat)=>Fa ((A.length+1+i:Nat):Int),none,μ):=
  pL (iN (cU (x:=A.length) (y:=1) rfl rfl) (cU hlen rfl) rfl) (by lia) (by lia)
 have hcm:=iC (sc:=n0) (e:=(cW [(aj (aU [(aF (a9 5) (kI 3))]) (cg (a9 0) (aL (aj (a9 7) (kI 1) aT)) (aL (a9 16))) aT),(aj (aj (cg (a9 0) b9 (aL (a9 7))) (aU [(aF (a9 5) (kI 2))]) aT) (cg (a9 0) (aL (a9 16)) b9) aT)])) 16
  (λx=>match x with| .int j=>j4 m (r::([]++B.take (j.toNat-(A.length+1))),A++l::B.drop (j.toNat-(A.length+1)))|x=>x) hi (az _ _) (λx hx=>by
   refine au (Dc.mp hx) λj hj zq2=>?_;subst zq2;have hj:=D2.mp hj
   let ρ':d5:=(bG n0 (ρB m A B l r M C ja t pr w y st tx ha td te ke)).set 16 (some (.d (.int ((A.length+1+j:Nat):Int))))
   have eG:dX A B l r=(A++[.bin false l r])++B:=by simp [dX]
   have s1:cg (a9 0) (aL (aj (a9 7) (kI 1) aT)) (aL (a9 16)) ρ' μ=some (.d (.list (bh m (B.take j))),μ):=by
    have:=Jg (m:=m) (ρ:=ρ') (f:=aj (a9 7) (kI 1) aT) (g:=a9 16) (G:=dX A B l r) (a:=A.length+1) (b:=A.length+1+j) (μ:=μ) rfl (cU (x:=A.length) (y:=1) rfl rfl) rfl (by lia) (by lia) (by lia)
    refine rA this ?_;have e:Tf (A.length+1) (dX A B l r)=B:=by refine rA ND ?_;simp
    refine rA e ?_;exact rA (L0 _ _) rfl
   have s2:cg (a9 0) b9 (aL (a9 7)) ρ' μ=some (.d (.list (bh m A)),μ):=by
    have:=FC (m:=m) (ρ:=ρ') (f:=a9 7) (G:=dX A B l r) (k:=A.length) (μ:=μ) rfl rfl (by lia) (by lia)
    refine rA this ?_;exact rA Pd rfl
   have s3:cg (a9 0) (aL (a9 16)) b9 ρ' μ=some (.d (.list (bh m (B.drop j))),μ):=by
    have:=KY (m:=m) (ρ:=ρ') (f:=a9 16) (G:=dX A B l r) (k:=A.length+1+j) (μ:=μ) rfl rfl (by lia) (by lia)
    refine rA this ?_;have e:Tf (A.length+1+j) (dX A B l r)=B.drop j:=by
     refine rA eG ?_;refine rA ND ?_;refine rA (Mx (by simp)) ?_;simp
    exact rA e rfl
   have p2:aU [aF (a9 5) (kI 2)] ρ' μ=some (.d (.list (bh m [l])),μ):=Oh (Sn rfl);have p3:aU [aF (a9 5) (kI 3)] ρ' μ=some (.d (.list (bh m [r])),μ):=Oh (Qs rfl);have a1:=Db p3 s1 (by simp;lia);have a2:=Db (Db s2 p2 (by simp;lia)) s3 (by simp;lia);refine (d8 (ds:=[.list (bh m ([r]++B.take j)),.list (bh m (A++[l]++B.drop j))]) (an a1 (an a2 bX)) (aa (xM rfl))).trans ?_;simp only [Fs,L0]
   simp [j4]) (by simp;exact aa (by lia))
 refine hcm.trans (congrArg (λL=>some (L,μ)) ?_);rw [j6];refine rA E_ ?_;refine rA E_ ?_;refine rA hG ?_;refine rA (show A.length+B.length+1+1-(A.length+1)=B.length+1 by lia) ?_;apply GN;intro j _;simp only [Function.comp,Fs,L0]
end
noncomputable abbrev Wy:=List Fm×List Fm
def rD(w:Wy):PyData:=.list (nL (bJ w.1))
def jJ(m:List Nat)(cs:List Int)(w:Wy):PyData:=.str (tS (uT m cs (bJ w.1)))
def lg(m:List Nat)(cs:List Int)(w:Wy):PyData:=if bk m (bJ w.1) then jJ m cs w else .str "('', '')"
theorem o7:∀l:List Int,qf (iL l)=some l
 | []=>rfl
 |x::l=>by
  exact (bV (rfl:dI (.int x)=some x)).trans (bV (o7 l))
theorem wL{Z:Type}(f g:Z→PyData):∀W:List Z,mN (W.map f) (W.map g)=W.map λw=>.tuple [f w,g w]
 | []=>rfl
 |w::W=>congrArg (_:: ·) (wL f g W)
theorem w6{Z:Type}(f g h:Z→PyData)(x:List PyData):∀W:List Z,xk (W.map f) (W.map g) (W.map h++x)=W.map λw=>.tuple [f w,g w,h w]
 | []=>rfl
 |w::W=>congrArg (_:: ·) (w6 f g h x W)
noncomputable def ZV:PyData→List PyData
 | .tuple (_::.list l::_)=>l
 |_=>[]
theorem BZ(m:List Nat)(F:Fm):ZV (F.enc m)=nL F.pl:=by cases F<;>rfl
theorem tO(m:List Nat):∀G:List Fm,((bh m G).flatMap λx=>if true then (ZV x).map (λy=>y) else [])=nL (bJ G)
 | []=>rfl
 |F::G=>by
  have ih:=tO m G;simp only [bh,F9,Ft,if_true,TT] at ih⊢
  refine rA ih ?_;refine rA (BZ _ _) ?_;refine rA (b6 _ _) ?_
  simp [nL]
theorem pj(h:dc μ (.c n)=some xs):cw (F7 (.c n)) xs μ:= λj e=>by
 refine cA e ?_;exact h
section
variable {R:PyData} {t o pr k y st:Option AV} {W:List Wy}
theorem zI(hn:dc μ (.c n)=some (W.map (j4 m)))(hW:W.length≤100)(hw:∀w∈W,(bJ w.1).length≤6):
  e_ o9 (aK false (a9 8)) (dz 16) (c_ bg (aY (ce nT (aK false (aF (a9 16) (kI 0))) (dz 17) (c_ bg (gv (aK false (aF (a9 17) (kI 1))) (dz 18) (c_ bg (aY (a9 18)))))))) (mW R (.list (nL m)) (.list (iL cs)) ja t o pr k (some (.c n)) y st tx ha td te ke) μ=some (W.map rD,μ):=by
 have hcm:=iC (sc:=o9) (itf:=aK false (a9 8)) (e:=(ce nT (aK false (aF (a9 16) (kI 0))) (dz 17) (c_ bg (gv (aK false (aF (a9 17) (kI 1))) (dz 18) (c_ bg (aY (a9 18))))))) (ρ:=mW R (.list (nL m)) (.list (iL cs)) ja t o pr k (some (.c n)) y st tx ha td te ke) (μ:=μ) (xs:=W.map (j4 m)) (g:=F7 (.c n)) 16
  (λx=>match x with| .tuple [.list E,_]=>.list (E.flatMap λx=>if true then (ZV x).map (λy=>y) else [])|x=>x) (d9 (V:=.c n) rfl hn) (pj hn) (λx hx=>by
   refine au (Dc.mp hx) λw hwm zq2=>?_;subst zq2;have hl:=hw w hwm;have hg:=fy w.1;have hi:aK false (aF (a9 16) (kI 0)) ((bG o9 (mW R (.list (nL m)) (.list (iL cs)) ja t o pr k (some (.c n)) y st tx ha td te ke)).set 16 (some (.d (j4 m w)))) μ=some (bh m w.1,none,μ):=
    d9 (V:=.d (.list (bh m w.1))) (cI (f:=a9 16) (g:=kI 0) (V:=.d (j4 m w)) (xs:=[.list (bh m w.1),.list (bh m w.2)]) (k:=0) rfl rfl rfl (by decide) rfl (aa (xM rfl))) rfl
   have hin:=po (sc:=nT) (itf:=aK false (aF (a9 16) (kI 0))) (itf2:=aK false (aF (a9 17) (kI 1))) (t:=bg) (e:=a9 18) 17 18 (by decide) (λzz=>true) ZV (λzz y=>y) hi (az _ _) (λzz zz zz=>rfl) (λx hx zz w'=>by
    refine au (Dc.mp hx) λF hF zq2=>?_;subst zq2;have e:ZV (F.enc m)=nL F.pl:=BZ m F;refine rA e ?_;exact d9 (V:=.d (.list (nL F.pl))) (qw (m:=m) (F:=F) rfl) rfl) (λzz zz zz zz zz=>rfl) (by refine rA (tO _ _) ?_;rw [nL];refine rA (xP _) ?_;exact aa (by lia))
   exact bY hin) (by refine rA (xP _) ?_;exact aa (by lia))
 refine hcm.trans (congrArg (λL=>some (L,μ)) ?_);refine rA E_ ?_;apply GN;intro w _;refine (?_:NU _=NU _);exact rA (tO _ _) rfl
theorem Ib(hm:m.length=6)(hc:cs.length=6)(hW:W.length≤100)(hw:∀w∈W,(bJ w.1).length≤6∧∀p∈bJ w.1,p<6):
  e_ qd (aK false (a9 10)) (dz 16) (c_ bg (aY (dx (kS "") [(af [(a9 16),(a9 1),(a9 2),(kB false)] bC)] fc))) (mW R (.list (nL m)) (.list (iL cs)) ja t o pr k (some (.c n)) y (some (.d (.list (W.map rD)))) tx ha td te ke) μ=some (W.map (jJ m cs),μ):=by
 have hcm:=iC (sc:=qd) (itf:=aK false (a9 10)) (e:=(dx (kS "") [(af [(a9 16),(a9 1),(a9 2),(kB false)] bC)] fc)) (ρ:=mW R (.list (nL m)) (.list (iL cs)) ja t o pr k (some (.c n)) y (some (.d (.list (W.map rD)))) tx ha td te ke) (μ:=μ) (xs:=W.map rD) (g:=none) 16
  (λx=>match x with| .list l=>.str (tS (uT m cs (l.map λ| .int i=>i.toNat|_=>0)))|x=>x) (d9 (V:=.d (.list (W.map rD))) rfl rfl) (az _ _) (λx hx=>by
   refine au (Dc.mp hx) λw hwm zq2=>?_;subst zq2;refine f_ (hw w hwm) λh1 h2=>?_;have e:(nL (bJ w.1)).map (λ|Fa i=>i.toNat|_=>0)=bJ w.1:=by
    simp [nL,E_,N0]
   refine (?_:_=some (AV.d (.str (tS (uT m cs ((nL (bJ w.1)).map _)))),μ));refine rA e ?_;exact vc (pl:=bJ w.1) hm hc h2 (by lia) rfl rfl rfl) (by refine rA (xP _) ?_;exact aa (by lia))
 refine hcm.trans (congrArg (λL=>some (L,μ)) ?_);refine rA E_ ?_;apply GN;intro w _;refine (?_:Lv (tS (uT m cs ((nL (bJ w.1)).map _)))=_);have e:(nL (bJ w.1)).map (λ|Fa i=>i.toNat|_=>0)=bJ w.1:=by
  simp [nL,E_,N0]
 refine rA e ?_;rfl
end
theorem EN{R:PyData}{t o pr k y:Option AV}{W:List Wy}(hi:i<5)(hW:W.length≤100)(hw:∀w∈W,(bJ w.1).Sublist (zC 6)):
  e_ on (c9 [(a9 11),(a9 10)] ln) (jh 16 17) (c_ bg (aY (dw (bB (af [(ce lN (aK false (a9 17)) (dz 18) (c_ bg (aY (aF (a9 1) (a9 18)))))] l4) (a9 17) dK) (a9 16) (kS "('', '')"))))
   (mW R (.list (nL (aH.getD i []))) (.list (iL cs)) ja t o pr k (some (.c n)) y (some (.d (.list (W.map rD)))) (some (.d (.list (W.map (jJ (aH.getD i []) cs))))) ha td te ke) μ=some (W.map (lg (aH.getD i []) cs),μ):=by
 have hm:=l_ hi;have hsc:= λ(s:List Nat) (hs:s.Sublist (zC 6))=>xE hi hs;generalize aH.getD i []=m at*
 let ρ0:=mW R (.list (nL m)) (.list (iL cs)) ja t o pr k (some (.c n)) y (some (.d (.list (W.map rD)))) (some (.d (.list (W.map (jJ m cs))))) ha td te ke
 have hit:c9 [(a9 11),(a9 10)] ln ρ0 μ=some (W.map (λw=>Jy [jJ m cs w,rD w]),none,μ):=by
  refine rB (wL _ _ _) ?_;rfl
 have hcm:=sN (sc:=on) (e:=(dw (bB (af [(ce lN (aK false (a9 17)) (dz 18) (c_ bg (aY (aF (a9 1) (a9 18)))))] l4) (a9 17) dK) (a9 16) (kS "('', '')"))) (ρ:=ρ0) (μ:=μ) 16 17 (by decide)
  (λx=>match x with| .tuple [T,.list l]=>if bk m (l.map λ| .int i=>i.toNat|_=>0) then T else .str "('', '')"|x=>x) hit (az _ _) (λx hx=>by
   refine au (Dc.mp hx) λw hwm zq2=>?_;subst zq2;refine (fV (jJ m cs w) (rD w) rfl ?_);have hs:=hw w hwm;have hl:=iF hs;have e:(nL (bJ w.1)).map (λ|Fa i=>i.toNat|_=>0)=bJ w.1:=by
    simp [nL,E_,N0]
   refine (?_:_=some (AV.d (if bk m ((nL (bJ w.1)).map _) then jJ m cs w else .str "('', '')"),μ));refine rA e ?_
   let ρ1:d5:=((bG on ρ0).set 16 (some (.d (jJ m cs w)))).set 17 (some (.d (rD w)))
   have hin:=iC (sc:=lN) (itf:=aK false (a9 17)) (e:=aF (a9 1) (a9 18)) (ρ:=ρ1) (μ:=μ) (xs:=nL (bJ w.1)) (g:=none) 18 (λx=>match x with| .int i=>.int (m.getD i.toNat 0:Nat)|x=>x) (d9 (V:=.d (.list (nL (bJ w.1)))) rfl rfl) (az _ _) (λx hx=>by
    refine au (Dc.mp hx) λp hp zq2=>?_;subst zq2
    have:=oZ hs p hp
    exact AD (V:=.d (.list (nL m))) (k:=p) rfl rfl rfl (by lia) (by lia)) (by rw [nL];refine rA (xP _) ?_;exact aa (by lia))
   have e2:(nL (bJ w.1)).map (λx=>match x with| .int i=>Fa (m.getD i.toNat 0:Nat)|x=>x)=iL ((bJ w.1).map λp=>(m.getD p 0:Int)):=by
    simp only [nL,iL,E_];rfl
   rw [e2] at hin
   have hso:af [(ce lN (aK false (a9 17)) (dz 18) (c_ bg (aY (aF (a9 1) (a9 18)))))] l4 ρ1 μ=some (.d (.list (iL (iU ((bJ w.1).map λp=>(m.getD p 0:Int))))),μ):=by
    refine d6 (bY hin) ?_;exact (bV (rfl:l1 [_]=some _)).trans ((bV (rfl:dc μ (.d (.list _))=some _)).trans ((bV (o7 _)).trans (if_pos (by simp;lia))))
   have e3:a9 17 ρ1 μ=some (.d (.list (iL ((bJ w.1).map λ(p:Nat)=>(p:Int)))),μ):=by
    refine (?_:some (AV.d (.list (nL (bJ w.1))),μ)=_);simp only [nL,iL,E_];rfl
   have hcmp:=dH hso e3 (B3 _ _ μ);rw [hsc _ hs] at hcmp
   refine lk hcmp (λh=>?_) (λh=>?_)
   ·refine rA (if_pos h) ?_;rfl
   ·refine rA (if_neg (by rw [h];exact HJ)) ?_;rfl) (by refine rA (xP _) ?_;exact aa (by lia))
 refine hcm.trans (congrArg (λL=>some (L,μ)) ?_);refine rA E_ ?_;apply GN;intro w _;have e:(nL (bJ w.1)).map (λ|Fa i=>i.toNat|_=>0)=bJ w.1:=by
  simp [nL,E_,N0]
 refine (?_:(if bk m ((nL (bJ w.1)).map _) then jJ m cs w else .str "('', '')")=_);refine rA e ?_;rfl
theorem pw{b c:Bool}(hf:f ρ μ=some (.d (.bool b),μ1))(hg:b=true→g ρ μ1=some (.d (.bool c),μ2)):si f g ρ μ=if b then some (.d (.bool c),μ2) else some (.d (.bool false),μ1):=by
 refine (b5 hf).trans ((bV (rfl:kq (.d (.bool b)) μ1=some b)).trans ?_);cases b with
 |true=>exact hg rfl
 |false=>rfl
def oF(i:Nat)(cs:List Int)(ja:Nat)(s:a_)(rc:List Fm→Bool)(st0:Nat):Prop:=
 ∀ (G:List Fm) (μ:List ah) (X:List PyData),μ[ja]? =some (.live X)→(bJ G).Sublist (zC 6)→bk (aH.getD i []) (bJ G)=true→jl G<st0→X.length+40*jl G+12≤5000→
  ∃Y,(∀x∈Y,Good x)∧Y.length≤40*jl G+12∧s [.d (.list (bh (aH.getD i []) G)),.d (.list (nL (aH.getD i []))),.d (.list (iL cs)),.c ja] μ=some (.d (.bool (rc G)),μ.set ja (.live (X++Y)))
abbrev bz(s:a_):SF:=(ap (jE (bB (a9 15) (a9 14) dK) (ap (fe (si (af [(aF (a9 9) (kI 0)),(a9 1),(a9 2),(a9 3)] s) (af [(aF (a9 9) (kI 1)),(a9 1),(a9 2),(a9 3)] s))) aP) aP) aP)
def BH(m:List Nat)(cs:List Int)(w:Wy):PyData:=.tuple [j4 m w,jJ m cs w,lg m cs w]
theorem Wb{w:Wy}(h15:a9 15 ρ μ=some (.d (lg m cs w),μ))(h14:a9 14 ρ μ=some (.d (jJ m cs w),μ)):bB (a9 15) (a9 14) dK ρ μ=some (bk m (bJ w.1),μ):=by
 cases q:bk m (bJ w.1) with
 |true=>
  have e:lg m cs w=jJ m cs w:=by unfold lg;exact rA (if_pos q) rfl
  rw [e] at h15
  refine dH h15 h14 ?_;refine (?_:some (tS (uT m cs (bJ w.1))==tS (uT m cs (bJ w.1)))=_);exact rA (beq_self_eq_true _) rfl
 |false=>
  have e:lg m cs w=.str "('', '')":=by unfold lg;exact rA (if_neg (by rw [q];exact HJ)) rfl
  rw [e] at h15
  refine dH h15 h14 ?_;refine (?_:some (("('', '')":Str)==tS (uT m cs (bJ w.1)))=_)
  have:tS (uT m cs (bJ w.1))≠("('', '')":Str):=Md (gq m cs false (bJ w.1)).2
  exact rA (beq_eq_false_iff_ne.mpr (λh=>this h.symm)) rfl
theorem Ko(h:μ[j]? =some c):(μ.set j c')[j]? =some c':=by
 rw [My (AX.mp h).1]
theorem Qa{R:PyData}{n st0:Nat}{s:a_}{t o pr k st tx ha td w8:Option AV}(xs:List PyData)(hrec:oF i cs ja s rc st0)(hj:μ[ja]? =some (.live X))(hX:X.length+40*st0≤5000):
  ∀ (r:List Wy) (y te ke:Option AV),(∀w∈r,(bJ w.1).Sublist (zC 6)∧(bJ w.2).Sublist (zC 6)∧(bk (aH.getD i []) (bJ w.1)=true→bk (aH.getD i []) (bJ w.2)=true)∧jl w.1+jl w.2+1=st0)→
  ∃y' te' ke' Y μ',(∀x∈Y,Good x)∧(Y.length≤40*st0∧(r.find? (λw=>bk (aH.getD i []) (bJ w.1))=none→Y=[]))∧μ'=μ.set ja (.live (X++Y))∧
   fX (YX 9 14 15) (bz s) aP none xs (r.map (BH (aH.getD i []) cs)) (mW R (.list (nL (aH.getD i []))) (.list (iL cs)) ja t o pr k w8 y st tx ha td te ke) μ=
    some ((match r.find? (λw=>bk (aH.getD i []) (bJ w.1)) with|some w=>.ret (.d (.bool (rc w.1&&rc w.2)))|none=>.next),mW R (.list (nL (aH.getD i []))) (.list (iL cs)) ja t o pr k w8 y' st tx ha td te' ke',μ')
 | [],y,te,ke,_=>(ic y te ke ([]) μ (by simp) ⟨by simp,λzz=>rfl⟩ (by refine rA (D8 _) ?_;exact rA (eF hj) rfl) rfl)
 |w::r,y,te,ke,h=>by
  refine mm (h w (by simp)) λh1 h2 h3 h4=>?_
  let m:=aH.getD i []
  let ρ1:=mW R (.list (nL m)) (.list (iL cs)) ja t o pr k w8 (some (.d (j4 m w))) st tx ha td (some (.d (jJ m cs w))) (some (.d (lg m cs w)))
  have tf:YX 9 14 15 (mW R (.list (nL m)) (.list (iL cs)) ja t o pr k w8 y st tx ha td te ke) (BH m cs w)=some ρ1:=rfl;have ht:bB (a9 15) (a9 14) dK ρ1 μ=some (bk m (bJ w.1),μ):=Wb rfl rfl;cases q:bk m (bJ w.1) with
  |true=>
   refine cq (hrec w.1 μ X hj h1 q (by lia) (by lia)) λY1 g1 l1 e1=>?_;refine cq (hrec w.2 (μ.set ja (.live (X++Y1))) (X++Y1) (Ko hj) h2 (h3 q) (by lia) (by refine rA be ?_;lia)) λY2 g2 l2 e2=>?_;have a1:∀μ,aF (a9 9) (kI 0) ρ1 μ=some (.d (.list (bh m w.1)),μ):= λμ=>cI (V:=.d (j4 m w)) (xs:=[.list (bh m w.1),.list (bh m w.2)]) (k:=0) rfl rfl rfl (by decide) rfl (aa (xM rfl));have a2:∀μ,aF (a9 9) (kI 1) ρ1 μ=some (.d (.list (bh m w.2)),μ):= λμ=>cI (V:=.d (j4 m w)) (xs:=[.list (bh m w.1),.list (bh m w.2)]) (k:=1) rfl rfl rfl (by decide) rfl (aa (xM rfl));have c1:af [(aF (a9 9) (kI 0)),(a9 1),(a9 2),(a9 3)] s ρ1 μ=_:=t7 (a1 μ) rfl rfl rfl e1;have c2:af [(aF (a9 9) (kI 1)),(a9 1),(a9 2),(a9 3)] s ρ1 (μ.set ja (.live (X++Y1)))=_:=t7 (a2 _) rfl rfl rfl e2;have ca:=pw c1 (λzz=>c2);have hfind:(w::r).find? (λw=>bk m (bJ w.1))=some w:=by rw [Mi];exact rA q rfl
   refine rA hfind ?_;cases hb:rc w.1 with
   |true=>
    rw [hb] at ca
    simp only [if_true,HQ,ER] at ca
    refine (ic (some (.d (j4 m w))) (some (.d (jJ m cs w))) (some (.d (lg m cs w))) (Y1++Y2) _ ?_ ⟨by refine rA be ?_;lia,λh=>nomatch h⟩ rfl ?_)
    ·intro x hx
     exact (AF.mp hx).elim (g1 x) (g2 x)
    ·refine rA F9 ?_
     refine rh tf ?_;refine cV ?_;refine (gH ht q).trans ?_;exact cV (ee (ca.trans (by refine rA hb ?_;exact rA (QU _) rfl)))
   |false=>
    rw [hb] at ca
    refine (ic (some (.d (j4 m w))) (some (.d (jJ m cs w))) (some (.d (lg m cs w))) Y1 _ g1 ⟨by lia,λh=>nomatch h⟩ rfl ?_);refine rA F9 ?_;refine rh tf ?_;refine cV ?_;refine (gH ht q).trans ?_;exact cV (ee (ca.trans (by refine rA hb ?_;refine rA (Bool.false_and _) ?_;rfl)))
  |false=>
   refine ft (Qa (R:=R) (t:=t) (o:=o) (pr:=pr) (k:=k) (st:=st) (tx:=tx) (ha:=ha) (td:=td) (w8:=w8) (n:=n) xs hrec hj hX r (some (.d (j4 m w))) (some (.d (jJ m cs w))) (some (.d (lg m cs w))) (λv hv=>h v (by simp [hv]))) λy' te' ke' Y μ' g gl gm e=>?_;have hfind:(w::r).find? (λw=>bk m (bJ w.1))=r.find? (λw=>bk m (bJ w.1)):=by rw [Mi];exact rA q rfl
   refine rA hfind ?_;refine (ic y' te' ke' Y μ' g gl gm ?_);refine rA F9 ?_;refine LM (dP tf ?_ (az _ _)) e;refine (aB ?_).trans bK;exact (gR ht q).trans bK
abbrev QL:SF:=(ga 8 ow (aK false (af [(aj (a9 7) (kI 1) aT)] cJ)) (dz 16) (c_ bg (aY (cW [(aj (cg (a9 0) (aL (a9 16)) (aL (a9 7))) (aU [(aF (a9 5) (kI 2))]) aT),(aj (aj (cg (a9 0) b9 (aL (a9 16))) (aU [(aF (a9 5) (kI 3))]) aT) (cg (a9 0) (aL (aj (a9 7) (kI 1) aT)) b9) aT)]))) true)
abbrev RN:SF:=(cj (sk (a9 8) (ce n0 (aK false (af [(aj (a9 7) (kI 1) aT),(aj (af [(a9 0)] dC) (kI 1) aT)] cJ)) (dz 16) (c_ bg (aY (cW [(aj (aU [(aF (a9 5) (kI 3))]) (cg (a9 0) (aL (aj (a9 7) (kI 1) aT)) (aL (a9 16))) aT),(aj (aj (cg (a9 0) b9 (aL (a9 7))) (aU [(aF (a9 5) (kI 2))]) aT) (cg (a9 0) (aL (a9 16)) b9) aT)]))))))
abbrev Q7:SF:=(ga 10 o9 (aK false (a9 8)) (dz 16) (c_ bg (aY (ce nT (aK false (aF (a9 16) (kI 0))) (dz 17) (c_ bg (gv (aK false (aF (a9 17) (kI 1))) (dz 18) (c_ bg (aY (a9 18)))))))) false)
abbrev R_:SF:=(ga 11 qd (aK false (a9 10)) (dz 16) (c_ bg (aY (dx (kS "") [(af [(a9 16),(a9 1),(a9 2),(kB false)] bC)] fc))) false)
abbrev Sl:SF:=(cb 12 (af [(a9 11)] lY))
abbrev Sq:SF:=(cb 13 (af [(a9 12)] aX))
abbrev RE:SF:=(cj (sk (a9 3) (aU [(cW [(af [(a9 13)] lY),(ce on (c9 [(a9 11),(a9 10)] ln) (jh 16 17) (c_ bg (aY (dw (bB (af [(ce lN (aK false (a9 17)) (dz 18) (c_ bg (aY (aF (a9 1) (a9 18)))))] l4) (a9 17) dK) (a9 16) (kS "('', '')")))))]),(cW [(a9 12),(a9 11)])])))
abbrev RW:SF:=(cj (eg (a9 13) (kS "")))
abbrev Q6(s:a_):SF:=(jN (c9 [(a9 8),(a9 11),(a9 13)] Bv) (YX 9 14 15) (ap (jE (bB (a9 15) (a9 14) dK) (ap (fe (si (af [(aF (a9 9) (kI 0)),(a9 1),(a9 2),(a9 3)] s) (af [(aF (a9 9) (kI 1)),(a9 1),(a9 2),(a9 3)] s))) aP) aP) aP) aP)
abbrev k70(s:a_):SF:=ap QL (ap RN (ap Q7 (ap R_ (ap Sl (ap Sq (ap RE (ap RW (ap (Q6 s) aP))))))))
abbrev Ai(s:a_):SF:=(ap (jE (bB (aF (a9 5) (kI 0)) (jF k9 (kS "*")) dK) (k70 s) aP) aP)
theorem GO(s:a_):Bl s=jN (c9 [(a9 0)] g9) (jh 7 5) (Ai s) aP:=rfl
theorem O3{w:Wy}:pE n (lg m cs w):=by
 unfold lg
 split
 ·exact ip (zD m cs false (bJ w.1))
 ·exact AL (by decide+kernel)
theorem Mh{w:Wy}:pE n (jJ m cs w):=ip (zD m cs false (bJ w.1))
theorem AU{Z:Type}{f:Z→PyData}{W:List Z}(h:∀w,pE n (f w)):pE (n+1) (.list (W.map f)):=gD λx hx=>by
 refine au (Dc.mp hx) λw zz zq2=>?_;subst zq2;exact h w
theorem ad3{a b:ah}:(μ++[a,b])[μ.length]? =some a:=by simp
theorem IE{a b:ah}:(μ++[a,b])[μ.length+1]? =some b:=by simp
theorem Ud{a b:ah}:(μ++[a,b]).set μ.length c=μ++[c,b]:=by simp
theorem Hr{a b:ah}:(μ++[a,b]).set (μ.length+1) c=μ++[a,c]:=by
 refine rA (List.set_append_right _ _ (by lia)) ?_;simp
theorem uw{δ:List ah}(h:μ[j]? =some c):(μ++δ)[j]? =some c:=by
 rw [Fb (AX.mp h).1];exact h
theorem uZ{δ:List ah}(h:μ[j]? =some c):(μ++δ).set j c'=μ.set j c'++δ:=by
 rw [Sv _ _ (AX.mp h).1]
noncomputable abbrev kr(A B:List Fm)(l r:Fm):List Wy:=gQ l r B A []++iV l r A B []
theorem Hs(A B:List Fm)(l r:Fm):(kr A B l r).length=A.length+B.length+2:=by
 simp only [kr,be,jk,j6,xP,J4];lia
theorem TB{A:List Fm}{s:a_}{t pr w y st:Option AV}(hi:i<5)(hc:cs.length=6)
  (hs:(bJ (dX A B l r)).Sublist (zC 6)) (hcl:bk (aH.getD i []) (bJ (dX A B l r))=true) (hrec:oF i cs ja s rc (jl (dX A B l r))) (hj:μ[ja]? =some (.live X)) (hX:X.length+2+40*jl (dX A B l r)≤5000):
  ∃w' y' st' tx' ha' td' te' ke' Y δ,(∀x∈Y,Good x)∧(Y.length≤2+40*jl (dX A B l r)∧((kr A B l r).find? (λw=>bk (aH.getD i []) (bJ w.1))=none→Y.length≤2))∧
   k70 s (ρB (aH.getD i []) A B l r (.list (nL (aH.getD i []))) (.list (iL cs)) ja t pr w y st tx ha td te ke) μ=
    some ((match (kr A B l r).find? (λw=>bk (aH.getD i []) (bJ w.1)) with|some w=>.ret (.d (.bool (rc w.1&&rc w.2)))|none=>.next),
     ρB (aH.getD i []) A B l r (.list (nL (aH.getD i []))) (.list (iL cs)) ja t pr w' y' st' tx' ha' td' te' ke',μ.set ja (.live (X++Y))++δ):=by
 have hm:=l_ hi;have hlen:=iF hs;have hG:=fy (dX A B l r);have hGl:=rG (A:=A) (B:=B) (l:=l) (r:=r);have hz:(dX A B l r).length≤6:=by lia
 have hw:∀w∈kr A B l r,(bJ w.1).Sublist (zC 6)∧(bJ w.2).Sublist (zC 6)∧(bk (aH.getD i []) (bJ w.1)=true→bk (aH.getD i []) (bJ w.2)=true)∧jl w.1+jl w.2+1=jl (dX A B l r):= λw hw=>by
  have hcut:=Jt hw;exact (ll ((sZ hcut).sublist.trans hs) ((KJ hcut).trans hs) (yV hi hcut hs hcl) (T1 hcut))
 have hbal:∀w∈kr A B l r,Ls (aH.getD i []) (bJ w.1)=bk (aH.getD i []) (bJ w.1):= λw hw=>yu hi hs hcl (sZ (Jt hw));have hwl:=Hs A B l r;generalize hWW:kr A B l r=W at*
 have hW100:W.length≤100:=by lia
 let m:=aH.getD i []
 let n:=μ.length
 let wD:=W.map (j4 m)
 let kD:=W.map (lg m cs)
 let tD:=W.map (jJ m cs)
 let sD:=W.map rD
 let μ2:=μ++[ah.live wD]
 let μ6:=μ++[ah.live wD,ah.live kD]
 have e0:QL (ρB m A B l r (.list (nL m)) (.list (iL cs)) ja t pr w y st tx ha td te ke) μ=some (.next,ρB m A B l r (.list (nL m)) (.list (iL cs)) ja t pr (some (.c n)) y st tx ha td te ke,μ++[ah.live ((gQ l r B A []).map (j4 m))]):=Ti (GE hz);have e1:RN (ρB m A B l r (.list (nL m)) (.list (iL cs)) ja t pr (some (.c n)) y st tx ha td te ke) (μ++[ah.live ((gQ l r B A []).map (j4 m))])=some (.next,ρB m A B l r (.list (nL m)) (.list (iL cs)) ja t pr (some (.c n)) y st tx ha td te ke,μ2):=by
  refine (eB (p0 (j:=n) rfl (bY (FR hz)) dq (aa (by
   rw [jk,j6];simp;lia)))).trans ?_
  refine rA fm ?_;refine rB JV ?_;refine (?_:some (Fl.next,_,μ++[ah.live ((kr A B l r).map (j4 m))])=_);exact rA hWW rfl
 have hp2:dc μ2 (.c n)=some wD:=eP dq;have e2:Q7 (ρB m A B l r (.list (nL m)) (.list (iL cs)) ja t pr (some (.c n)) y st tx ha td te ke) μ2=some (.next,ρB m A B l r (.list (nL m)) (.list (iL cs)) ja t pr (some (.c n)) y (some (.d (.list sD))) tx ha td te ke,μ2):=jq (zI hp2 hW100 λw h=>iF (hw w h).1);have e3:R_ (ρB m A B l r (.list (nL m)) (.list (iL cs)) ja t pr (some (.c n)) y (some (.d (.list sD))) tx ha td te ke) μ2=some (.next,ρB m A B l r (.list (nL m)) (.list (iL cs)) ja t pr (some (.c n)) y (some (.d (.list sD))) (some (.d (.list tD))) ha td te ke,μ2):=jq (Ib hm hc hW100 λw h=>⟨iF (hw w h).1,oZ (hw w h).1⟩);have e4:Sl (ρB m A B l r (.list (nL m)) (.list (iL cs)) ja t pr (some (.c n)) y (some (.d (.list sD))) (some (.d (.list tD))) ha td te ke) μ2=some (.next,ρB m A B l r (.list (nL m)) (.list (iL cs)) ja t pr (some (.c n)) y (some (.d (.list sD))) (some (.d (.list tD))) (some (.d (.list tD))) td te ke,μ2):=by
  refine bO (d6 (V:=.d (.list tD)) rfl ?_);exact Cw rfl (by simp only [tD,xP];exact aa (by lia))
 have hvs:(W.map λw=>units m cs false (bJ w.1)).map (λvs=>Lv (tS vs.flatten))=tD:=by refine rA E_ ?_;rfl
 have hkp:(W.map λw=>units m cs false (bJ w.1)).map kx=kD:=by
  refine rA E_ ?_;apply GN;intro w hwm;refine (?_:kx (units m cs false (bJ w.1))=lg m cs w);unfold kx lg;refine rA (Bo _ _ _) ?_;refine rA (hbal w hwm) ?_;rfl
 have e5:Sq (ρB m A B l r (.list (nL m)) (.list (iL cs)) ja t pr (some (.c n)) y (some (.d (.list sD))) (some (.d (.list tD))) (some (.d (.list tD))) td te ke) μ2=some (.next,ρB m A B l r (.list (nL m)) (.list (iL cs)) ja t pr (some (.c n)) y (some (.d (.list sD))) (some (.d (.list tD))) (some (.d (.list tD))) (some (.c (n+1))) te ke,μ6):=by
  have h4:=s4 (vss:=W.map λw=>units m cs false (bJ w.1)) (μ:=μ2) (λvs hv=>by
   refine eE λGG kG=>?_;refine au (Dc.mp hv) λw hwm zq2=>?_;subst zq2;refine kG ?_;have h6:=iF (hw w hwm).1
   have:=(gq m cs false (bJ w.1)).1
   have:=i8 m cs false (bJ w.1)
   exact (fu (m7 m cs false (bJ w.1)) (by lia) (by lia))) (by refine rA (xP _) ?_;lia)
  rw [hvs,hkp] at h4
  have hl2:μ2.length=n+1:=by simp [μ2,n]
  rw [hl2] at h4
  refine (bO (d6 (V:=.d (.list tD)) rfl h4)).trans ?_;simp only [μ2,μ6,ER];rfl
 let ρ6:=ρB m A B l r (.list (nL m)) (.list (iL cs)) ja t pr (some (.c n)) y (some (.d (.list sD))) (some (.d (.list tD))) (some (.d (.list tD))) (some (.c (n+1))) te ke
 let t1:PyData:=.tuple [.list kD,.list kD]
 let t2:PyData:=.tuple [.list tD,.list tD]
 have e6:RE ρ6 μ6=some (.next,ρ6,μ.set ja (.live (X++[t1,t2]))++[ah.live wD,ah.live kD]):=by
  have hl1:af [a9 13] lY ρ6 μ6=some (.d (.list kD),μ6):=by
   refine d6 (V:=.c (n+1)) rfl ?_;exact Cw (eP IE) (by simp only [kD,xP];exact aa (by lia))
  have hx:=bY (EN (i:=i) (cs:=cs) (R:=.list (bh m (dX A B l r))) (ja:=ja) (n:=n) (t:=t) (o:=some (.d ((Fm.bin false l r).enc m))) (pr:=pr) (k:=some (.d (.int A.length))) (y:=y) (ha:=some (.d (.list tD))) (td:=some (.c (n+1))) (te:=te) (ke:=ke) (μ:=μ6) (W:=W) hi hW100 λw h=>(hw w h).1);have q1:=d8 (ds:=[.list kD,.list kD]) (an hl1 (an hx bX)) (aa (xM rfl));have q2:cW [a9 12,a9 11] ρ6 μ6=some (.d t2,μ6):=d8 (ds:=[.list tD,.list tD]) rfl (aa (xM rfl));have q3:=dJ (ds:=[t1,t2]) (an q1 (an q2 bX)) (aa (xM rfl));refine (eB (p0 (j:=ja) rfl q3 (uw hj) (aa (by simp;lia)))).trans ?_;exact rA (uZ hj) rfl
 have hsl:(μ.set ja (.live (X++[t1,t2]))).length=n:=by simp [n]
 generalize hν:μ.set ja (.live (X++[t1,t2]))=ν at e6 hsl
 have e7:RW ρ6 (ν++[ah.live wD,ah.live kD])=some (.next,ρ6,ν++[ah.live wD,ah.live (kD++[.str ""])]):=by
  refine (eB (gw (j:=n+1) (d:=.str "") rfl rfl (by refine rB hsl ?_;exact IE) (by simp only [kD,xP];exact aa (by lia)))).trans ?_;refine rB hsl ?_;exact rA Hr rfl
 have hz3:c9 [(a9 8),(a9 11),(a9 13)] Bv ρ6 (ν++[ah.live wD,ah.live (kD++[.str ""])])=some (W.map (BH m cs),none,ν++[ah.frozen wD,ah.frozen (kD++[.str ""])]):=by
  have f1:vC (.c n) (ν++[ah.live wD,ah.live (kD++[.str ""])])=some (.list wD,ν++[ah.frozen wD,ah.live (kD++[.str ""])]):=by
   refine rB hsl ?_;exact (qY ad3).trans (by rw [Ud])
  have f2:vC (.c (n+1)) (ν++[ah.frozen wD,ah.live (kD++[.str ""])])=some (.list (kD++[.str ""]),ν++[ah.frozen wD,ah.frozen (kD++[.str ""])]):=by
   refine rB hsl ?_;exact (qY IE).trans (by rw [Hr])
  have ev:fh [(a9 8),(a9 11),(a9 13)] ρ6 (ν++[ah.live wD,ah.live (kD++[.str ""])])=some ([.c n,.d (.list tD),.c (n+1)],ν++[ah.live wD,ah.live (kD++[.str ""])]):=rfl;have fz:lM [.c n,.d (.list tD),.c (n+1)] (ν++[ah.live wD,ah.live (kD++[.str ""])])=some ([.list wD,.list tD,.list (kD++[.str ""])],ν++[ah.frozen wD,ah.frozen (kD++[.str ""])]):=fH f1 (fH rfl (fH f2 rfl));refine (b5 ev).trans ((b5 fz).trans (?_:some (xk wD tD (kD++[.str ""]),none,_)=_));simp only [wD,tD,kD,w6];rfl
 have hjν:(ν++[ah.frozen wD,ah.frozen (kD++[.str ""])])[ja]? =some (.live (X++[t1,t2])):=uw (by refine rB hν ?_;exact Ko hj);refine eE λGG kG=>?_;obtain ⟨y',te',ke',Y,μ',g,gl,gm,e8⟩:=Qa (i:=i) (cs:=cs) (R:=.list (bh m (dX A B l r))) (ja:=ja) (n:=n) (st0:=jl (dX A B l r)) (s:=s) (rc:=rc) (t:=t) (o:=some (.d ((Fm.bin false l r).enc m))) (pr:=pr) (k:=some (.d (.int A.length))) (st:=some (.d (.list sD))) (tx:=some (.d (.list tD))) (ha:=some (.d (.list tD))) (td:=some (.c (n+1))) (w8:=some (.c n))
  (μ:=ν++[ah.frozen wD,ah.frozen (kD++[.str ""])]) (X:=X++[t1,t2]) (W.map (BH m cs)) hrec hjν (by simp;lia) W y te ke hw
 have e9:Q6 s ρ6 (ν++[ah.live wD,ah.live (kD++[.str ""])])=_:=(gM hz3).trans e8;have hμ':μ'=μ.set ja (.live (X++([t1,t2]++Y)))++[ah.frozen wD,ah.frozen (kD++[.str ""])]:=by
  refine rA gm ?_;refine rA (uZ (c:=.live (X++[t1,t2])) (by rw [←hν];exact Ko hj)) ?_;refine rB hν ?_;refine rA (HQ _) ?_;exact rA (ER _ _ _) rfl
 subst hμ';refine kG ?_;refine ⟨some (.c n),y',some (.d (.list sD)),some (.d (.list tD)),some (.d (.list tD)),some (.c (n+1)),te',ke',[t1,t2]++Y,[ah.frozen wD,ah.frozen (kD++[.str ""])],?_,⟨by simp;lia,λh=>by refine rA (gl.2 h) ?_;simp⟩,?_⟩
 ·intro x hx
  rcases AF.mp hx with q|q
  ·simp only [Cp,Ew,or_false] at q
   rcases q with rfl|rfl
   ·exact dO (n:=1) (AU λzz=>O3) (by decide)
   ·exact dO (n:=1) (AU λzz=>Mh) (by decide)
  ·exact g x q
 ·refine (aB e0).trans ((aB e1).trans ((aB e2).trans ((aB e3).trans ((aB e4).trans ((aB e5).trans ((aB e6).trans ((aB e7).trans ?_)))))))
  cases hf:W.find? (λw=>bk (aH.getD i []) (bJ w.1)) with
  |some w=>
   rw [hf] at e9
   exact cV e9
  |none=>
   rw [hf] at e9
   exact (aB e9).trans bK
theorem Oa(m:List Nat)(rc:List Fm→Bool)(A B:List Fm)(l r:Fm):xQ m rc A (.bin false l r::B)=match (kr A B l r).find? (λw=>bk m (bJ w.1)) with
  |some w=>rc w.1&&rc w.2
  |none=>xQ m rc (A++[.bin false l r]) B:=by
 rfl
theorem Nw(m:List Nat)(rc:List Fm→Bool)(A B:List Fm)(F:Fm)(h:wu F=false):xQ m rc A (F::B)=xQ m rc (A++[F]) B:=by
 cases F with
 |«at» i=>rfl
 |bin p l r=>
  cases p with
  |true=>rfl
  |false=>cases h
set_option genSizeOfSpec false in
set_option genInjectivity false in
structure Ng where
 (o k w y st tx ha td te ke:Option AV)
noncomputable abbrev RV(m:List Nat)(cs:List Int)(ja:Nat)(t pr:Option AV)(G:List Fm)(x:Ng):d5:=mW (.list (bh m G)) (.list (nL m)) (.list (iL cs)) ja t x.o pr x.k x.w x.y x.st x.tx x.ha x.td x.te x.ke
noncomputable abbrev xOK(x:Ng)(m:List Nat)(F:Fm)(k:Nat):Ng:=⟨some (.d (F.enc m)),some (.d (.int k)),x.w,x.y,x.st,x.tx,x.ha,x.td,x.te,x.ke⟩
def Go(m:List Nat)(cs:List Int)(ja:Nat)(s:a_)(rc:List Fm→Bool)(t pr:Option AV)(G:List Fm)(xs:List PyData)(B A:List Fm)(x:Ng)(μ:List ah)(X:List PyData):Prop:=
 ∃fl x' Y δ,(∀x∈Y,Good x)∧Y.length≤2*B.length+40*jl G∧(fl=.ret (.d (.bool (xQ m rc A B)))∨(fl=.next∧xQ m rc A B=false))∧fX (jh 7 5) (Ai s) aP none xs (cN A.length (bh m B)) (RV m cs ja t pr G x) μ=some (fl,RV m cs ja t pr G x',μ.set ja (.live (X++Y))++δ)
theorem Go.mk{s:a_}{t pr:Option AV}{G:List Fm}{A:List Fm}{x:Ng}(fl:Fl)(x':Ng)(Y:List PyData)(δ:List ah)(h1:∀x∈Y,Good x)(h2:Y.length≤2*B.length+40*jl G)(h3:fl=.ret (.d (.bool (xQ m rc A B)))∨(fl=.next∧xQ m rc A B=false))
 (h4:fX (jh 7 5) (Ai s) aP none xs (cN A.length (bh m B)) (RV m cs ja t pr G x) μ=some (fl,RV m cs ja t pr G x',μ.set ja (.live (X++Y))++δ)):Go m cs ja s rc t pr G xs B A x μ X:=(E3 fl x' Y δ h1 h2 h3 h4)
theorem HP(m:List Nat)(F:Fm)(A B:List Fm):cN A.length (bh m (F::B))=.tuple [.int A.length,F.enc m]::cN (A++[F]).length (bh m B):=by
 refine rA be ?_;rfl
section
variable {s:a_} {t pr:Option AV} {G:List Fm} {A:List Fm} {x:Ng}
theorem FU:bB (aF (a9 5) (kI 0)) (jF k9 (kS "*")) dK (RV m cs ja t pr G (xOK x m F A.length)) μ=some (wu F,μ):=VC rfl
theorem Yu(q:wu F=false)(h:Go m cs ja s rc t pr G xs B (A++[F]) (xOK x m F A.length) μ X):Go m cs ja s rc t pr G xs (F::B) A x μ X:=by
 refine nM h λfl x' Y δ g1 g2 g3 g4=>?_;refine Go.mk fl x' Y δ g1 (L2 g2 (by simp only [AH];omega)) (by refine rA (Nw _ _ _ _ _ q) ?_;exact g3) ?_;refine rA (HP _ _ _ _) ?_;exact LM (dP rfl ((aB ((gR FU q).trans bK)).trans bK) (az _ _)) g4
theorem VE(hi:i<5)(hc:cs.length=6)(hs:(bJ (dX A B l r)).Sublist (zC 6))(hcl:bk (aH.getD i []) (bJ (dX A B l r))=true)(hrec:oF i cs ja s rc (jl (dX A B l r)))(hj:μ[ja]? =some (.live X))(hX:X.length+2+40*jl (dX A B l r)≤5000)
  (h:∀x' Y δ,Y.length≤2→Go (aH.getD i []) cs ja s rc t pr (dX A B l r) xs B (A++[.bin false l r]) x' (μ.set ja (.live (X++Y))++δ) (X++Y)):Go (aH.getD i []) cs ja s rc t pr (dX A B l r) xs (.bin false l r::B) A x μ X:=by
 obtain ⟨w1,y1,st1,tx1,ha1,td1,te1,ke1,Y1,δ1,b1,b2,b3⟩:=TB (t:=t) (pr:=pr) (w:=x.w) (y:=x.y) (st:=x.st) (tx:=x.tx) (ha:=x.ha) (td:=x.td) (te:=x.te) (ke:=x.ke) (μ:=μ) (X:=X) hi hc hs hcl hrec hj hX
 let x1:Ng:=⟨some (.d ((Fm.bin false l r).enc (aH.getD i []))),some (.d (.int A.length)),w1,y1,st1,tx1,ha1,td1,te1,ke1⟩
 generalize hx1:x1=z at*
 have b4:k70 s (RV (aH.getD i []) cs ja t pr (dX A B l r) (xOK x (aH.getD i []) (.bin false l r) A.length)) μ=some ((match (kr A B l r).find? (λw=>bk (aH.getD i []) (bJ w.1)) with|some w=>.ret (.d (.bool (rc w.1&&rc w.2)))|none=>.next),RV (aH.getD i []) cs ja t pr (dX A B l r) z,μ.set ja (.live (X++Y1))++δ1):=by
  refine rB hx1 ?_;exact b3
 clear b3 hx1;have hg:=Oa (aH.getD i []) rc A B l r;cases hf:(kr A B l r).find? (λw=>bk (aH.getD i []) (bJ w.1)) with
 |some ww=>
  rw [hf] at b4 hg
  refine Go.mk _ z Y1 δ1 b1 (L2 b2.1 (by simp only [AH];omega)) (.inl (by exact rA hg rfl)) ?_;refine rA (HP _ _ _ _) ?_;exact rh rfl (cV ((gH FU rfl).trans b4))
 |none=>
  rw [hf] at b4 hg
  refine nM (h z Y1 δ1 (b2.2 hf)) λfl x' Y δ g1 g2 g3 g4=>?_;refine Go.mk fl x' (Y1++Y) (δ1++δ) (λy hy=>(AF.mp hy).elim (b1 y) (g1 y)) (by have:=b2.2 hf;simp only [AH,be];omega) (by refine rA hg ?_;exact g3) ?_;refine rA (HP _ _ _ _) ?_;refine LM (dP rfl ((aB ((gH FU rfl).trans b4)).trans bK) (az _ _)) (g4.trans ?_);refine rA (uZ (Ko hj)) ?_;refine rA (HQ _) ?_;refine rA (ER _ _ _) ?_;exact rA (ER _ _ _) rfl
end
theorem UK{s:a_}{t pr:Option AV}{G:List Fm}(hi:i<5)(hc:cs.length=6)(hs:(bJ G).Sublist (zC 6))(hcl:bk (aH.getD i []) (bJ G)=true)(hrec:oF i cs ja s rc (jl G))(xs:List PyData):
  ∀ (B A:List Fm) (x:Ng) (μ:List ah) (X:List PyData),G=A++B→μ[ja]? =some (.live X)→X.length+2*B.length+40*jl G≤5000→Go (aH.getD i []) cs ja s rc t pr G xs B A x μ X
 | [],A,x,μ,X,hG,hj,hX=>Go.mk .next x [] [] (λzz h=>nomatch h) (LJ _) (.inr ⟨rfl,rfl⟩) (by
   refine rA (D8 _) ?_;refine rA (D8 _) ?_;refine rA (eF hj) ?_;rfl)
 |F::B,A,x,μ,X,hG,hj,hX=>by
  simp only [AH] at hX
  cases q:wu F with
  |false=>exact Yu q (UK hi hc hs hcl hrec xs B (A++[F]) _ μ X (by refine rA hG ?_;simp) hj (by omega))
  |true=>
   cases F with
   |«at» p=>exact nomatch q
   |bin p l r=>
    cases p with
    |true=>exact nomatch q
    |false=>
     subst hG;have e:jl (dX A B l r)=jl (A++.bin false l r::B):=rfl;exact VE hi hc hs hcl hrec hj (by omega) λx' Y δ hY=>UK hi hc hs hcl hrec xs B (A++[.bin false l r]) x' _ (X++Y) (by simp) (uw (Ko hj)) (by refine rA be ?_;omega)
theorem SX{G:List Fm}(h:two G=true):∃p q,G=[.at p,.at q]:=by
 match G,h with
 | [.at p,.at q],_=>exact (jK p q rfl)
theorem oF.mono{s:a_}{a:Nat}(h:oF i cs ja s rc b)(hab:a≤b):oF i cs ja s rc a:=
 λG μ X h1 h2 h3 h4 h5=>h G μ X h1 h2 h3 (Oq h4 hab) h5
theorem s70{ja:Nat}(hi:i<5)(hc:cs.length=6):∀k,oF i cs ja (Ig k) (pr (aH.getD i []) k) k
 |0=> λG μ X zz zz zz h zz=>absurd h (Nat.not_lt_zero _)
 |k+1=>by
  intro G μ X hj hs hcl hst hX;have hz:=iF hs;refine bP (HK (s:=Ig k) (m:=aH.getD i []) (G:=G) (M:=.list (nL (aH.getD i []))) (C:=.list (iL cs)) (j:=ja) (μ:=μ) hz) λt e0=>?_;have hs5:(bJ (fM G)).Sublist (zC 6):=by refine rA (qT _) ?_;exact hs
  have hcl5:bk (aH.getD i []) (bJ (fM G))=true:=by refine rA (qT _) ?_;exact hcl
  have hst5:jl (fM G)=jl G:=JI G;have hl5:=fy (fM G);have hz5:=iF hs5;have hlt:ja<μ.length:=(AX.mp hj).1;have hpr:pr (aH.getD i []) (k+1) G=(two (fM G)||xQ (aH.getD i []) (pr (aH.getD i []) k) [] (fM G)):=rfl;cases h2:two (fM G) with
  |true=>
   refine lz (SX h2) λp q hpq=>?_;rw [hpq] at hs5 hcl5 e0
   refine bP (Ee (s:=Ig k) (t:=t) (μ:=μ) hi hc hs5 hcl5 hj (by lia)) λρ' e1=>?_;refine (cL ([FG true true]) ?_ (by simp) ?_)
   ·intro x hx
    refine rA (AA.mp hx) ?_;exact dO (n:=1) (gD λx hx=>by simp at hx;refine rA hx ?_;exact jc) (by decide)
   ·have:f70 (Ig k) (cE (ao (ay 70)) [.d (.list (bh (aH.getD i []) G)),.d (.list (nL (aH.getD i []))),.d (.list (iL cs)),.c ja]) μ=some (.ret (.d (.bool true)),ρ',μ.set ja (.live (X++[FG true true]))):=by
     unfold f70;exact (aB e0).trans (cV e1)
    refine (d0 (k:=4) rfl this).trans ?_;refine rA (Fj (by simp)) ?_;refine rA hpr ?_;refine rA h2 ?_;exact rA (Bool.true_or _) rfl
  |false=>
   have e1:=Ha (s:=Ig k) (m:=aH.getD i []) (G:=fM G) (M:=.list (nL (aH.getD i []))) (C:=.list (iL cs)) (j:=ja) (t:=t) (μ:=μ) hz5 h2;refine nM (UK (t:=t) (pr:=none) hi hc hs5 hcl5 ((s70 (ja:=ja) hi hc k).mono (by omega)) (cN 0 (bh (aH.getD i []) (fM G))) (fM G) [] ⟨none,none,none,none,none,none,none,none,none,none⟩ μ X rfl hj (by omega)) λfl x' Y δ g1 g2 g3 g4=>?_;refine (cL Y g1 (by omega) ?_);have e2:Bl (Ig k) (mW (.list (bh (aH.getD i []) (fM G))) (.list (nL (aH.getD i []))) (.list (iL cs)) ja t none none none none none none none none none none none) μ=some (fl,RV (aH.getD i []) cs ja t none (fM G) x',μ.set ja (.live (X++Y))++δ):=by
    refine rA (GO _) ?_;refine rA (gM (jZ (f:=a9 0) (V:=.d (.list (bh (aH.getD i []) (fM G)))) rfl rfl)) ?_;exact g4
   have htk:(μ.set ja (.live (X++Y))++δ).take μ.length=μ.set ja (.live (X++Y)):=by
    refine rA (Mu (by simp)) ?_;exact rA (Fj (by simp)) rfl
   refine rA hpr ?_;refine rA h2 ?_;refine rA (Pz _) ?_
   rcases g3 with rfl| ⟨rfl,g3⟩
   ·have:f70 (Ig k) (cE (ao (ay 70)) [.d (.list (bh (aH.getD i []) G)),.d (.list (nL (aH.getD i []))),.d (.list (iL cs)),.c ja]) μ=some (.ret (.d (.bool (xQ (aH.getD i []) (pr (aH.getD i []) k) [] (fM G)))),RV (aH.getD i []) cs ja t none (fM G) x',μ.set ja (.live (X++Y))++δ):=by
     unfold f70;exact (aB e0).trans ((aB e1).trans (cV e2))
    refine (d0 (k:=4) rfl this).trans ?_;exact rA htk rfl
   ·have:f70 (Ig k) (cE (ao (ay 70)) [.d (.list (bh (aH.getD i []) G)),.d (.list (nL (aH.getD i []))),.d (.list (iL cs)),.c ja]) μ=some (.ret (.d (.bool false)),RV (aH.getD i []) cs ja t none (fM G) x',μ.set ja (.live (X++Y))++δ):=by
     unfold f70;refine (aB e0).trans ((aB e1).trans ((aB e2).trans (cV ?_)));unfold Gk;exact ee rfl
    refine (d0 (k:=4) rfl this).trans ?_;refine rA htk ?_;exact rA g3 rfl
theorem AM{r:List PyData}{x:PyData}{acc2:List PyData}(e1:tf ρ x=some ρ1)(e2:cf ρ1 μ acc=some (ρ2,μ2,acc2)):ff tf cf none xs (x::r) ρ μ acc=ff tf cf none xs r ρ2 μ2 acc2:=by
 exact pq e1 e2 (az _ _)
theorem PK{os1 td:List Int}(hi:i<μ.length)(hj:j<μ.length)(hij:i≠j)(h:rd os=some (0,os1))(hz:td.length≤1000):vJ (k+1) [.c i,.c j] (gW μ i j os td)=some (.d (.tuple []),gW μ i j os1 (td++[0])):=by
 have e2:lr (vJ k) (oM i j (some (.d (.int 0))) none none) (gW μ i j os1 (td++[0]))=some (.ret (.d (.tuple [])),oM i j (some (.d (.int 0))) none none,gW μ i j os1 (td++[0])):=by
  unfold lr;refine (gH (Ga (n:=0) rfl) rfl).trans ?_;exact cV (ee (d8 (ds:=[]) rfl (aa (xM rfl))))
 have:f68 (vJ k) (cE (ao (ay 68)) [.c i,.c j]) (gW μ i j os td)=some (.ret (.d (.tuple [])),oM i j (some (.d (.int 0))) none none,gW μ i j os1 (td++[0])):=by
  unfold f68;refine rA (qy hi hj hij h (by lia)) ?_;exact rA (cV e2) rfl
 refine (?_:cC 2 _ _ _ _=_);refine rA (d0 (k:=2) rfl this) ?_;exact rA (Fj (by rw [kM,kM];exact Dj _)) rfl
theorem CD:∀F:Fm,F.ht≤F.pl.length
 | .at _=>Dj 1
 | .bin p l r=>by
  have h1:=CD l;have h2:=CD r;have p1:=nR l;have p2:=nR r;simp only [Fm.ht,Fm.pl,be];lia
theorem o_(m:List Nat):∀F:Fm,(F.pre m).length+1=2*F.pl.length
 | .at _=>rfl
 | .bin p l r=>by
  have h1:=o_ m l;have h2:=o_ m r;simp only [Fm.pre,Fm.pl,AH,be];lia
noncomputable def db(m:List Nat)(G:List Fm):List Int:=G.flatMap λF=>F.pre m
theorem je(m:List Nat)(F:Fm)(G:List Fm):db m (F::G)=F.pre m++db m G:=rfl
theorem pY(m:List Nat):∀G:List Fm,(db m G).length≤2*(bJ G).length
 | []=>Dj 0
 |F::G=>by
  have:=pY m G;have:=o_ m F
  refine rA (je _ _ _) ?_;refine rA (b6 _ _) ?_;refine rA be ?_;refine rA be ?_;lia
theorem sM(hi:i<μ.length)(hj:j<μ.length)(hij:i≠j){ρ0:d5}{e:EF}(he:∀w μ',e (ρ0.set 31 w) μ'=vJ 12 [.c i,.c j] μ')(xs:List PyData)(os':List Int):∀ (G:List Fm) (r:List PyData) (w:Option AV) (os td:List Int) (acc:List PyData),
  r.length=G.length+1→Ah os (db m G++[0]) os'→bJ G=Fh (qX td) (bJ G).length→(bJ G).length≤12→td.length+2*(bJ G).length≤100→acc.length+G.length≤100→
  ∃w',ff (dz 31) (c_ bg (aY e)) none xs r (ρ0.set 31 w) (gW μ i j os td) acc=some (ρ0.set 31 w',gW μ i j os' (td++db m G++[0]),acc++bh m G++[.tuple []])
 | [],[x],w,os,td,acc,_,h,_,_,hz,ha=>by
  cases h with
  |cons e1 h=>
  cases h;refine ⟨some (.d x),?_⟩;refine rA (AM (ρ1:=ρ0.set 31 (some (.d x))) (by show some ((ρ0.set 31 w).set 31 _)=_;rw [HQ]) (p7 ((he _ _).trans (PK hi hj hij e1 (by lia))) acc (aa (by lia)))) ?_
  simp [ff,db,bh]
 |F::G,x::r,w,os,td,acc,hr,h,hp,h12,hz,ha=>by
  simp only [AH] at hr ha
  rw [je,ER] at h
  refine au (Ah.split h) λos1 h1 h2=>?_;rw [b6] at hp h12 hz
  refine dW (ko hp) λq1 q2 q3=>?_;rw [be] at q2 hz h12
  have hl:=o_ m F;have hh:=CD F;have hs:=s68 (μ:=μ) hi hj hij m F 12 os os1 td (by lia) h1 q1 (by lia);have ht:qX (td++F.pre m)=qX td+F.pl.length:=by refine rA (lV _ _) ?_;exact rA (kA _ _) rfl
  refine bP (sM hi hj hij he xs os' G r (some (.d x)) os1 (td++F.pre m) (acc++[F.enc m]) (by lia) h2 (by refine rA ht ?_;rw [L0] at q2;exact q2) (by lia) (by refine rA be ?_;lia) (by simp;lia)) λw' g=>?_;refine ⟨w',?_⟩;refine rA (AM (ρ1:=ρ0.set 31 (some (.d x))) (by show some ((ρ0.set 31 w).set 31 _)=_;rw [HQ]) (p7 ((he _ _).trans hs) acc (aa (by lia)))) ?_;refine rA g ?_;refine rA (je _ _ _) ?_
  simp [bh]
theorem Nk:((zC 64).all λx=>decide ((HL ((x:Nat):Int):Int)+6≤1000))=true:=by decide+kernel
theorem Ny{x:Int}(h0:0≤x)(h1:x<64):(HL x:Int)+6≤2^27:=by
 refine bP (Lg h0) λn zq1=>?_;subst zq1
 have:=AP.mp Nk n (D2.mpr (by lia))
 have:=of_decide_eq_true this
 have e:(2:Int)^27=134217728:=by decide
 lia
theorem pG{f g:SF}(h:f ρ μ=none):ap f g ρ μ=none:=J8 h
theorem vh(h:f ρ μ=none):cb i f ρ μ=none:=J8 h
theorem sm{f:SF}(h:f (cE sc Vs) μ=none):cC k sc f Vs μ=none:=by
 by_cases hl:Vs.length=k
 ·exact (if_pos hl).trans (J8 h)
 ·exact if_neg hl
theorem sJ(h0:a9 0 ρ μ=some (.c i,μ))(hc:μ[i]? =some (.iter [])):af [a9 0] kv ρ μ=none:=by
 exact (b5 (vX h0)).trans ((bV (rfl:l1 [AV.c i]=some _)).trans ((bV (rfl:Fk (.c i)=some i)).trans ((bV (show μ[i]?.bind QI=some [] by rw [hc];rfl)).trans (J8 rfl))))
theorem DP(hc:μ[i]? =some (.iter [])):aR [.c i] μ=none:=by
 refine sm ?_;refine (?_:f8 [some (.c i),none,none] μ=none);unfold f8;refine pG ?_;unfold CP;exact vh (sJ rfl hc)
theorem MF{o:AV→AV→List ah→Option (AV×List ah)}{W r:AV}(h:ρ[i]? =some (some V))(hf:f ρ μ=some (W,μ1))(ho:o V W μ1=some (r,μ2)):ik i f o ρ μ=some (.next,ρ.set i (some r),μ2):=by
 exact Bs h hf ho
theorem N2{f:SF}(ht:t ρ μ=some (true,μ))(hf:f ρ μ=none):j1 t f (k+1) ρ μ=none:=by
 refine iQ.trans ((b5 ht).trans (?_:bp (f ρ μ) (λfl p=>RY fl (j1 t f k p.1 p.2) p)=none));exact J8 hf
theorem Ey{b o:Int}(hc:μ[i]? =some (.iter [.int b]))(h0:64≤o)(h1:o<128)(hb:b=o∨b=o+128):aR [.c i] μ=none:=by
 refine f_ (jb (by lia) h1 hb) λhb1 hb2=>?_;rw [if_pos h0] at hb1
 refine sm ?_;refine (?_:f8 [some (.c i),none,none] μ=none);have hlt:i<μ.length:=(AX.mp hc).1;have e0:CP [some (.c i),none,none] μ=some (.next,[some (.c i),some (.d (.int b)),none],μ.set i (.iter [])):=by
  unfold CP;exact bO (tU (x:=.int b) (r:=[]) rfl hc)
 have e1:Jr [some (.c i),some (.d (.int b)),none] (μ.set i (.iter []))=some (.next,[some (.c i),some (.d (.int b)),some (.d (.int (o%64)))],μ.set i (.iter [])):=by
  unfold Jr;refine rB hb2 ?_;exact bO (cX (x:=b) (y:=63) rfl rfl rfl)
 unfold f8;refine rA (aB e0) ?_;refine rA (aB e1) ?_;refine pG ?_;unfold Pb;refine N2 ?_ ?_
 ·exact nW (V:=.d (.int 64)) ((cX (x:=b) (y:=64) rfl rfl rfl).trans (by exact rA hb1 rfl)) rfl
 ·have ea:ik 2 (kI 6) rL [some (.c i),some (.d (.int b)),some (.d (.int (o%64)))] (μ.set i (.iter []))=some (.next,[some (.c i),some (.d (.int b)),some (.d (.int (o%64*64)))],μ.set i (.iter [])):=by
   exact MF (V:=.d (.int (o%64))) (W:=.d (.int 6)) rfl rfl (af6 (o%64) (μ.set i (.iter [])) (by lia) (by lia))
  refine rA (aB ea) ?_;exact pG (vh (sJ rfl (cB hlt)))
theorem pS:cQ [.c i] μ=(aR [.c i] μ).elim (bo (qC μ i) λμ'=>some (.d (.list []),μ')) (λp=>bo (vd p.1) λx=>some (.d (.list [x]),p.2)):=rfl
theorem yT{v:Int}(hc:μ[i]? =some (.iter (iL os)))(h:rd os=some (v,rest)):cQ [.c i] μ=some (.d (.list [.int v]),μ.set i (.iter (iL rest))):=by
 rw [pS,s8 hc h];rfl
theorem zt{b o:Int}(hc:μ[i]? =some (.iter [.int b]))(h0:64≤o)(h1:o<128)(hb:b=o∨b=o+128):cQ [.c i] μ=some (.d (.list []),μ.set i (.iter [])):=by
 refine f_ (jb (by lia) h1 hb) λhb1 hb2=>?_;rw [if_pos h0] at hb1
 have hst:qC μ i=some (μ.set i (.iter [])):=by
  exact (bV (show μ[i]?.bind QI=some [.int b] by rw [hc];rfl)).trans (if_pos ⟨by rw [hb1];decide,by rw [hb2];exact Ny (by lia) (by lia)⟩)
 rw [pS,Ey hc h0 h1 hb];exact bV hst
theorem zB(hc:μ[i]? =some (.iter [])):cQ [.c i] μ=some (.d (.list []),μ):=by
 have hst:qC μ i=some μ:=by
  exact (bV (show μ[i]?.bind QI=some [] by rw [hc];rfl)).trans (congrArg some (eF hc))
 rw [pS,DP hc];exact bV hst
set_option genInjectivity false in
structure cZ where
 script:Option AV:=none
 cells:Option AV:=none
 total:Option AV:=none
 mates:Option AV:=none
 numbers:Option AV:=none
 low:Option AV:=none
 far:Option AV:=none
 great:Option AV:=none
 tape:Option AV:=none
 told:Option AV:=none
 read:Option AV:=none
 beyond:Option AV:=none
 asked:Option AV:=none
 symbol:Option AV:=none
 tests:Option AV:=none
 units:Option AV:=none
 text:Option AV:=none
 shorn:Option AV:=none
 proof:Option AV:=none
 joins:Option AV:=none
 formula:Option AV:=none
 forks:Option AV:=none
 start:Option AV:=none
 labels:Option AV:=none
 names:Option AV:=none
 words:Option AV:=none
 trees:Option AV:=none
 mask:Option AV:=none
 said:Option AV:=none
 chosen:Option AV:=none
 joined:Option AV:=none
noncomputable def cZ.loc(x:cZ):d5:=[x.script,x.cells,x.total,x.mates,x.numbers,x.low,x.far,x.great,x.tape,x.told,x.read,x.beyond,x.asked,x.symbol,x.tests,x.units,x.text,x.shorn,x.proof,x.joins,x.formula,x.forks,x.start,x.labels,x.names,x.words,x.trees,x.mask,x.said,x.chosen,x.joined]
theorem CL{X Y:Type}(f:X→Y)(xs:List X)(lo hi st:Option Int):iM (xs.map f) lo hi st=(iM xs lo hi st).map f:=by
 unfold iM;refine rA (xP _) ?_;refine rA List.map_filterMap ?_
 congr 1
 funext i
 rw [GW]
noncomputable def Bi:List Int:=[125,9,187,70,428,191]
def RA(xs:List Int)(k:Int):Int:=((iM xs (some k) (some 60) (some 6)).map λx=>x.fmod 5040).sum
noncomputable def Bx(xs:List Int):PyData→PyData
 | .tuple [.int k,.int c]=>.int (c+RA xs k)
 |x=>x
theorem wN(xs:List Int):∀ (l:List Int) (k:Nat),∃cs:List Int,(cN k (iL l)).map (Bx xs)=iL cs∧cs.length=l.length
 | [],_=>(aZ ([]) rfl rfl)
 |c::l,k=>by
  refine au (wN xs l (k+1)) λcs e h=>?_;refine (aZ ((c+RA xs k)::cs) ?_ (by simp [h]));refine (?_:Bx xs (.tuple [.int k,.int c])::(cN (k+1) (iL l)).map (Bx xs)=_);refine rA e ?_;rfl
theorem IG{X:Type}(xs:List X)(lo hi st:Option Int):(iM xs lo hi st).length≤(sliceRange (sliceBounds lo hi st xs.length).1 (sliceBounds lo hi st xs.length).2.1 (sliceBounds lo hi st xs.length).2.2).length:=by
 unfold iM;exact List.length_filterMap_le _ _
theorem zf{l:List Int}(hf:f ρ μ=some (.d (.list (iL l)),μ)):af [f] vQ ρ μ=some (.d (.int l.sum),μ):=by
 refine d6 hf ?_;exact (bV (rfl:l1 [_]=some _)).trans ((bV (rfl:dc μ (.d (.list (iL l)))=some _)).trans (bV (o7 l)))
theorem st0(x:cZ)(xs:List Int)(μ:List ah)(hx:xs.length≤63)(hr:∀k:Int,(iM xs (some k) (some 60) (some 6)).length≤100000):∃cs:List Int,cs.length=6∧vS ({x with script:=some (.d (.list (iL xs)))}).loc μ=some (.next,({x with script:=some (.d (.list (iL xs))),cells:=some (.d (.list (iL cs)))}).loc,μ):=by
 refine au (wN xs Bi 0) λcs e h=>?_;refine (aZ cs h ?_)
 let ρ:=({x with script:=some (.d (.list (iL xs)))}:cZ).loc
 have hl:aU [(kI 125),(kI 9),(kI 187),(kI 70),(kI 428),(kI 191)] ρ μ=some (.d (.list (iL Bi)),μ):=dJ (ds:=iL Bi) rfl (aa (by decide));have hcm:=sN (sc:=uQ) (itf:=c9 [(aU [(kI 125),(kI 9),(kI 187),(kI 70),(kI 428),(kI 191)])] g9) (e:=(aj (a9 32) (af [(ce ug (aK false (v_ (a9 0) (aL (a9 31)) (aL (kI 60)) (aL (kI 6)))) (dz 33) (c_ bg (aY (aj (a9 33) (kI 5040) (aS cu)))))] vQ) aT)) (ρ:=ρ) (μ:=μ) 31 32 (by decide) (Bx xs)
  (jZ hl rfl) (az _ _) (λy hy=>by
   refine lz (mV Bi 0 hy) λk c zq2=>?_;subst zq2;refine (fV (.int k) (.int c) rfl ?_)
   let ρ1:d5:=((bG uQ ρ).set 31 (some (.d (.int k)))).set 32 (some (.d (.int c)))
   have hs:v_ (a9 0) (aL (a9 31)) (aL (kI 60)) (aL (kI 6)) ρ1 μ=some (.d (.list (iL (iM xs (some k) (some 60) (some 6)))),μ):=by
    have h0:a9 0 ρ1 μ=some (.d (.list (iL xs)),μ):=rfl;have h1:aL (a9 31) ρ1 μ=some (some k,μ):=dG rfl;have h2:aL (kI 60) ρ1 μ=some (some 60,μ):=dG rfl;have h3:aL (kI 6) ρ1 μ=some (some 6,μ):=dG rfl;refine (b5 h0).trans ((b5 h1).trans ((b5 h2).trans ((b5 h3).trans ((bV (rfl:some (6:Int)=some 6)).trans ((bV (rfl:dc μ (.d (.list (iL xs)))=some _)).trans ((if_pos ⟨by rw [xP];exact aa (by lia),by decide⟩).trans ?_))))));rw [iL,CL]
   have hin:=iC (sc:=ug) (itf:=aK false (v_ (a9 0) (aL (a9 31)) (aL (kI 60)) (aL (kI 6)))) (e:=aj (a9 33) (kI 5040) (aS cu)) (ρ:=ρ1) (μ:=μ) (g:=none) 33 (λx=>match x with| .int x=>.int (x.fmod 5040)|x=>x) (d9 (V:=.d (.list (iL (iM xs (some k) (some 60) (some 6))))) hs rfl) (az _ _) (λy hy=>by
    refine au (Dc.mp hy) λz zz zq2=>?_;subst zq2;exact cX (x:=z) (y:=5040) rfl rfl (fk (by decide))) (by refine rA (xP _) ?_;exact aa (hr k))
   have e2:(iL (iM xs (some k) (some 60) (some 6))).map (λx=>match x with| .int x=>Fa (x.fmod 5040)|x=>x)=iL ((iM xs (some k) (some 60) (some 6)).map λx=>x.fmod 5040):=by
    simp only [iL,E_];rfl
   rw [e2] at hin
   exact cU (x:=c) rfl (zf (bY hin))) (by refine rA (ix _ _) ?_;exact aa (by decide))
 unfold vS;refine rA (jq hcm) ?_;refine rA e ?_;rfl
theorem st1(x:cZ)(cs:List Int)(μ:List ah):w4 ({x with cells:=some (.d (.list (iL cs)))}).loc μ=some (.next,({x with cells:=some (.d (.list (iL cs))),total:=some (.d (.int cs.sum))}).loc,μ):=by
 unfold w4;exact (bO (zf rfl)).trans rfl
noncomputable def er(T:Int):Nat:=((T.fdiv 5).fmod 5).toNat
theorem tT(T:Int):er T<5:=by
 have h0:0≤(T.fdiv 5).fmod 5:=Fp _ (by decide);have h1:(T.fdiv 5).fmod 5<5:=Ip _ (by decide);unfold er;lia
theorem GH{a c d e f:Nat}:aU [kI a,kI b,kI c,kI d,kI e,kI f] ρ μ=some (.d (.list (nL [a,b,c,d,e,f])),μ):=dJ (ds:=nL [a,b,c,d,e,f]) rfl (aa (by simp [nL]))
theorem st2(x:cZ)(T:Int)(μ:List ah):vU ({x with total:=some (.d (.int T))}).loc μ=some (.next,({x with total:=some (.d (.int T)),mates:=some (.d (.list (nL (aH.getD (er T) []))))}).loc,μ):=by
 have h0:0≤(T.fdiv 5).fmod 5:=Fp _ (by decide);have h1:=tT T;unfold vU;refine (bO (cI (V:=.d (.list (aH.map λm=>.list (nL m)))) (xs:=aH.map λm=>.list (nL m)) (d:=.list (nL (aH.getD (er T) []))) (dJ (ds:=aH.map λm=>.list (nL m)) (an GH (an GH (an GH (an GH (an GH bX))))) (aa (by decide))) (jz (T:=T) 5 5 (by decide) (by decide) rfl rfl) rfl h0 ?_ (aa (by decide)))).trans rfl
 show (aH.map λm=>NU (nL m))[er T]? =_
 generalize er T=i at h1
 have:i=0∨i=1∨i=2∨i=3∨i=4:=by lia
 rcases this with rfl|rfl|rfl|rfl|rfl<;>rfl
theorem st3(x:cZ)(cs:List Int)(T:Int)(m:List Nat)(μ:List ah)(hc:cs.length=6)(hm:m.length=6):∃G:List Fm,bJ G=Fh 0 6∧G.length+g8 T=6∧
  xJ ({x with cells:=some (.d (.list (iL cs))),total:=some (.d (.int T)),mates:=some (.d (.list (nL m)))}).loc μ=some (.next,({x with cells:=some (.d (.list (iL cs))),total:=some (.d (.int T)),mates:=some (.d (.list (nL m))),numbers:=some (.d (.list (iL (db m G++[0]))))}).loc,μ):=by
 refine cq (s65 (cs:=cs) (m:=m) (T:=T) (μ:=μ) hc hm) λG h1 h2 h3=>?_;refine (cL G h1 h2 ?_);unfold xJ;exact (bO (SB rfl rfl rfl h3)).trans rfl
noncomputable def GS(T:Int):Nat:=((T.fdiv 13).fmod 5).toNat
def Ef(T:Int):Int:=((GS T:Int)-3)*2^32
noncomputable def jr(T:Int):Nat:=(T.fmod 13).toNat
theorem OJ(T:Int):GS T<5:=by
 have h0:0≤(T.fdiv 13).fmod 5:=Fp _ (by decide);have h1:(T.fdiv 13).fmod 5<5:=Ip _ (by decide);unfold GS;lia
theorem tu(T:Int):jr T<13:=by
 have h0:0≤T.fmod 13:=Fp _ (by decide);have h1:T.fmod 13<13:=Ip _ (by decide);unfold jr;lia
theorem tQ{x:Int}(hf:f ρ μ=some (.d (.int x),μ))(hg:g ρ μ=some (.d (.int y),μ))(h:y.natAbs<2^64):aj f g la ρ μ=some (.d (.int (x*y)),μ):=by
 exact rk hf hg ((bV (rfl:jM (.d (.int y))=some y)).trans ((oV (rfl:jM (.d (.int x))=some x) rfl).trans (if_pos (.inr h))))
theorem jP{y:Nat}(hg:g ρ μ=some (.d (.int y),μ))(h:y≤1000):aj (kI 2) g (aS gk) ρ μ=some (.d (.int (2^y)),μ):=by
 refine cX (x:=2) rfl hg ?_;unfold gk;refine rA (if_pos (fu (by lia) (by lia) (by decide))) ?_;rfl
theorem st4(x:cZ)(T:Int)(μ:List ah):xy ({x with total:=some (.d (.int T))}).loc μ=some (.next,({x with total:=some (.d (.int T)),low:=some (.d (.int (jr T))),far:=some (.d (.int (Ef T)))}).loc,μ):=by
 let ρ:=({x with total:=some (.d (.int T))}:cZ).loc
 have h1:aj (a9 2) (kI 13) (aS cu) ρ μ=some (.d (.int (jr T)),μ):=by
  have:T.fmod 13=(jr T:Int):=(LL (Fp _ (by decide))).symm
  refine rB this ?_;exact cX (x:=T) (y:=13) rfl rfl (fk (by decide))
 have h2:aj (aj (aj (aj (a9 2) (kI 13) (aS cP)) (kI 5) (aS cu)) (kI 3) (aS λx y=>some (x-y))) (aj (kI 2) (kI 32) (aS gk)) la ρ μ=some (.d (.int (Ef T)),μ):=by
  have e:(T.fdiv 13).fmod 5=(GS T:Int):=(LL (Fp _ (by decide))).symm;have a:=jz (f:=a9 2) (g:=kI 5) (ρ:=ρ) (μ:=μ) (T:=T) 13 5 (by decide) (by decide) rfl rfl;rw [e] at a
  exact tQ (jU a (rfl:kI 3 _ _=some (.d (.int 3),_))) (jP (y:=32) rfl (by decide)) (by decide)
 have ht:=d8 (ds:=[.int (jr T),.int (Ef T)]) (an h1 (an h2 bX)) (aa (xM rfl));unfold xy;refine (?_:wV 5 6 _ ρ μ=_);exact BI ht
noncomputable def nf(G:List Fm):Nat:=((eK G 0).filter (·.par)).length
theorem ue(m:List Nat):∀ (F:Fm) (n:Nat),((F.pre m).filter λx=>x==274).length=((gr F n).2.filter (·.par)).length
 | .at i,n=>by
  have:=gE m i
  simp only [Fm.pre,IT]
  rcases this with q|q<;>rw [q]<;>rfl
 | .bin p l r,n=>by
  have h1:=ue m l n;have h2:=ue m r (n+(gr l n).2.length);cases p
  ·simp only [Fm.pre,yH,L3,be]
   simp [h1,h2]
  ·simp only [Fm.pre,yH,L3,be]
   simp [h1,h2]
theorem vi(m:List Nat):∀ (G:List Fm) (n:Nat),((db m G).filter λx=>x==274).length=((eK G n).filter (·.par)).length
 | [],_=>rfl
 |F::G,n=>by
  refine rA (je _ _ _) ?_;rw [t8];refine rA (L3 _ _) ?_;refine rA (L3 _ _) ?_;refine rA be ?_;refine rA be ?_;refine rA (ue m F n) ?_;rw [vi m G]
def rP(G:List Fm)(T:Int):Int:=(2^nf G-1)*2^jr T+2^31
theorem I_(h:n≤40):((2:Int)^n).natAbs<2^64:=by
 refine rA (Int.natAbs_pow _ _) ?_;exact Nat.pow_lt_pow_right (by decide) (by lia)
theorem st5(x:cZ)(T:Int)(m:List Nat)(G:List Fm)(μ:List ah)(hG:(db m G).length≤100)(hn:nf G≤100):xA ({x with numbers:=some (.d (.list (iL (db m G++[0])))),low:=some (.d (.int (jr T)))}).loc μ=some (.next,({x with numbers:=some (.d (.list (iL (db m G++[0])))),low:=some (.d (.int (jr T))),great:=some (.d (.int (rP G T)))}).loc,μ):=by
 let ρ:=({x with numbers:=some (.d (.list (iL (db m G++[0])))),low:=some (.d (.int (jr T)))}:cZ).loc
 have hlow:=tu T;have hcm:=jf (sc:=tq) (itf:=aK false (a9 4)) (t:=bB (a9 31) (kI 274) dK) (e:=a9 31) (ρ:=ρ) (μ:=μ) 31 (λx=>match x with| .int y=>y==274|_=>false) id (d9 (V:=.d (.list (iL (db m G++[0])))) rfl rfl) (az _ _) (λy hy=>by
  refine au (Dc.mp hy) λz zz zq2=>?_;subst zq2;exact oh (x:=z) (y:=274) rfl rfl) (λzz zz zz=>rfl) (by refine rA (xP _) ?_;refine rA be ?_;exact aa (by simp;lia))
 have hlen:=gG (f:=ce tq (aK false (a9 4)) (dz 31) (c_ (bB (a9 31) (kI 274) dK) (aY (a9 31)))) (bY hcm) rfl (by
  refine rA (xP _) ?_;refine aa (L2 (HA ..) ?_);refine rA (xP _) ?_;refine rA be ?_;simp;lia)
 have hcount:(((iL (db m G++[0])).filter (λx=>match x with| .int y=>y==274|_=>false)).map id).length=nf G:=by
  refine rA (xP _) ?_;rw [iL];refine rA OG ?_;refine rA (xP _) ?_;have e:((λx=>match x with|Fa y=>y==274|_=>false)∘Fa)= λy=>y==274:=rfl;refine rA e ?_;refine rA (L3 _ _) ?_;refine rA be ?_;refine rA (vi m G 0) ?_;rfl
 rw [hcount] at hlen
 have h1:=jU (jP hlen (by lia)) (rfl:kI 1 _ _=some (.d (.int 1),_));have h2:aj (kI 2) (a9 5) (aS gk) ρ μ=some (.d (.int (2^jr T)),μ):=jP rfl (by lia);have h3:=cU (tQ h1 h2 (I_ (by lia))) (jP (g:=kI 31) (y:=31) (ρ:=ρ) (μ:=μ) rfl (by decide));unfold xA;exact (bO h3).trans rfl
noncomputable def th(cs:List Int)(T:Int)(ns:List Int):List Int:=mk T 0 (gn cs 0 ns++[64+T.fmod 64])
theorem st6(x:cZ)(cs N:List Int)(T g:Int)(μ:List ah)(hc:cs.length=6)(hN:N.length≤100):xI ({x with cells:=some (.d (.list (iL cs))),total:=some (.d (.int T)),numbers:=some (.d (.list (iL N))),great:=some (.d (.int g))}).loc μ=
  some (.next,({x with cells:=some (.d (.list (iL cs))),total:=some (.d (.int T)),numbers:=some (.d (.list (iL N))),great:=some (.d (.int g)),tape:=some (.c μ.length)}).loc,μ++[.iter (iL (th cs T (N++[g])))]):=by
 let ρ:=({x with cells:=some (.d (.list (iL cs))),total:=some (.d (.int T)),numbers:=some (.d (.list (iL N))),great:=some (.d (.int g))}:cZ).loc
 have h1:aj (a9 4) (aU [a9 7]) aT ρ μ=some (.d (.list (iL (N++[g]))),μ):=by
  refine rB (lR _ _) ?_;exact cT (f:=a9 4) (xs:=iL N) (ys:=iL [g]) rfl (jW rfl) rfl rfl (aa (by refine rA (xP _) ?_;refine rA (xP _) ?_;simp;lia))
 have h2:=SB (g:=a9 1) (h:=a9 2) (ρ:=ρ) h1 rfl rfl (s66 (ns:=N++[g]) (cs:=cs) (T:=T) (μ:=μ) hc (by simp;lia));unfold xI;exact (bO (d6 h2 rfl)).trans rfl
theorem st7(x:cZ)(μ:List ah):xv x.loc μ=some (.next,({x with told:=some (.c μ.length)}).loc,μ++[.live []]):=by
 unfold xv;exact (bO wc).trans rfl
theorem nB(m:List Nat):∀ (F:Fm),∀n∈F.pre m,n∈oL
 | .at i,n,h=>by
  simp only [Fm.pre,AA] at h
  subst h
  rcases gE m i with q|q<;>rw [q]<;>decide
 | .bin p l r,n,h=>by
  simp only [Fm.pre,Cp,AF] at h
  rcases h with q|q|q
  ·subst q;cases p<;>decide
  ·exact nB m l n q
  ·exact nB m r n q
theorem NG(m:List Nat)(G:List Fm):∀n∈db m G,n∈oL:= λn h=>by
 refine au (Lk.mp h) λF zz hF=>?_;exact nB m F n hF
theorem Ji{f:Nat}(hf:f≤5)(hl:low<13):((2:Int)^f-1)*2^low+2^31∈oL:=by
 unfold oL;refine CO _ (Lk.mpr (aZ f (D2.mpr (by lia)) (Dc.mpr ⟨low,D2.mpr hl,rfl⟩)))
theorem zK{T:Int}{G:List Fm}(hn:nf G≤5):∃os1 p',Ah (th cs T (db m G++[0]++[rP G T])) (db m G++[0]) os1∧rd os1=some (rP G T,mk T p' [64+T.fmod 64]):=by
 obtain ⟨p',h⟩:=xi T cs [64+T.fmod 64] (db m G++[0]++[rP G T]) 0 0 (λn hn'=>by
  simp only [AF,AA] at hn'
  rcases hn' with (q|q)|q
  ·exact NG m G n q
  ·subst q;decide
  ·subst q;exact Ji hn (tu T))
 refine au (Ah.split h) λos1 h1 h2=>?_;cases h2 with
 |cons e h2=>
 cases h2;exact (fV os1 p' h1 e)
theorem EU{T:Int}(h1:a9 2 ρ μ=some (.d (.int T),μ)):aF (aU [(kI 2),(kI 2),(kI 3),(kI 4)]) (aj (aj (a9 2) (kI 25) (aS cP)) (kI 4) (aS cu)) ρ μ=some (.d (.int ((7-g8 T:Nat):Int)),μ):=by
 have h0:0≤(T.fdiv 25).fmod 4:=Fp _ (by decide);have h4:(T.fdiv 25).fmod 4<4:=Ip _ (by decide);refine cI (V:=.d (.list [.int 2,.int 2,.int 3,.int 4])) (dJ (ds:=[.int 2,.int 2,.int 3,.int 4]) rfl (aa (xM rfl))) (jz 25 4 (by decide) (by decide) h1 rfl) rfl h0 ?_ (aa (xM rfl));unfold g8;generalize (T.fdiv 25).fmod 4=x at*
 have:x=0∨x=1∨x=2∨x=3:=by lia
 rcases this with rfl|rfl|rfl|rfl<;>rfl
noncomputable def iz(os td:List Int):List ah:=[.iter (iL os),.live (iL td)]
theorem st8(x:cZ)(T:Int)(m:List Nat)(G:List Fm)(os os1:List Int)(hG:bJ G=Fh 0 6)(ht:G.length+g8 T=6)(h:Ah os (db m G++[0]) os1):Bz ({x with total:=some (.d (.int T)),tape:=some (.c 0),told:=some (.c 1)}).loc (iz os [])=
  some (.next,({x with total:=some (.d (.int T)),tape:=some (.c 0),told:=some (.c 1),read:=some (.d (.list (bh m G++[Jy []])))}).loc,iz os1 (db m G++[0])):=by
 let ρ:=({x with total:=some (.d (.int T)),tape:=some (.c 0),told:=some (.c 1)}:cZ).loc
 have h6:(bJ G).length=6:=by refine rA hG ?_;rfl
 have ht5:=mw T;have hi:aK false (af [(aF (aU [(kI 2),(kI 2),(kI 3),(kI 4)]) (aj (aj (a9 2) (kI 25) (aS cP)) (kI 4) (aS cu)))] cJ) ρ (iz os [])=some ((zC (7-g8 T-0)).map λ(i:Nat)=>Fa ((0+i:Nat):Int),none,iz os []):=
  pL (d6 (EU rfl) rfl) (by decide) (by lia)
 obtain ⟨w',e⟩:=sM (m:=m) (μ:=[.iter [],.live []]) (i:=0) (j:=1) (by decide) (by decide) (by decide) (ρ0:=ρ++[none]) (e:=af [a9 8,a9 9] aC) (λw μ'=>by
   have:af [a9 8,a9 9] aC ((ρ++[none]).set 31 w) μ'=aC [.c 0,.c 1] μ':=rfl
   refine rA this ?_;rfl) ((zC (7-g8 T-0)).map λ(i:Nat)=>Fa ((0+i:Nat):Int)) os1 G ((zC (7-g8 T-0)).map λ(i:Nat)=>Fa ((0+i:Nat):Int)) none os [] [] (by simp;lia) h (by refine rA hG ?_;rfl) (by lia) (by simp;lia) (by simp;lia)
 have hcm:e_ yh (aK false (af [(aF (aU [(kI 2),(kI 2),(kI 3),(kI 4)]) (aj (aj (a9 2) (kI 25) (aS cP)) (kI 4) (aS cu)))] cJ)) (dz 31) (c_ bg (aY (af [(a9 8),(a9 9)] aC))) ρ (iz os [])=some (bh m G++[.tuple []],iz os1 (db m G++[0])):=by
  have e':=e;simp only [Lr] at e'
  rw [show gW [.iter [],.live []] 0 1 os []=iz os [] from rfl] at e'
  exact ql hi e'
 exact jq hcm
theorem Gg(hf:f ρ μ=some (.d (.list xs),μ1))(hg:g ρ μ1=some (.d (.list ys),μ2))(hz:xs.length+ys.length≤sizeLine):aj f g aT ρ μ=some (.d (.list (xs++ys)),μ2):=by
 exact rk hf hg ((f6 (rfl:jM (.d (.list xs))=none)).trans ((f6 (rfl:mA (.d (.list xs))=none)).trans ((bV (rfl:dc μ2 (.d (.list xs))=some _)).trans ((bV (rfl:dc μ2 (.d (.list ys))=some _)).trans (if_pos hz)))))
theorem UQ(T:Int)(p:Nat)(o:Int):∃b,mk T p [o]=[b]∧(b=o∨b=o+128):=by
 simp only [mk]
 split
 ·exact (aZ _ rfl (.inr rfl))
 ·exact (aZ _ rfl (.inl rfl))
theorem st9(x:cZ)(T g:Int)(p:Nat)(os1 td:List Int)(h:rd os1=some (g,mk T p [64+T.fmod 64])):xh ({x with tape:=some (.c 0)}).loc (iz os1 td)=some (.next,({x with tape:=some (.c 0),beyond:=some (.d (.list (iL [g])))}).loc,iz [] td):=by
 let ρ:=({x with tape:=some (.c 0)}:cZ).loc
 refine au (UQ T p (64+T.fmod 64)) λb hb hb2=>?_;rw [hb] at h
 have h0:0≤T.fmod 64:=Fp _ (by decide);have h1:T.fmod 64<64:=Ip _ (by decide);have c1:af [a9 8] cQ ρ (iz os1 td)=some (.d (.list [.int g]),iz [b] td):=d6 (V:=.c 0) rfl (yT rfl h);have c2:af [a9 8] cQ ρ (iz [b] td)=some (.d (.list []),iz [] td):=d6 (V:=.c 0) rfl (zt (b:=b) rfl (by lia) (by lia) hb2);have c3:af [a9 8] cQ ρ (iz [] td)=some (.d (.list []),iz [] td):=d6 (V:=.c 0) rfl (zB rfl);unfold xh;exact (bO (Gg (Gg c1 c2 (aa (xM rfl))) c3 (aa (xM rfl)))).trans rfl
noncomputable def qL(N:List Int)(g:Int):List PyData:=[.tuple [.list (iL N),.list (iL N)],.tuple [.list (iL [g]),.list (iL [g])]]
noncomputable def IN(N:List Int)(X:List PyData):List ah:=[.iter [],.frozen (iL N),.live X]
theorem UR(hf:f ρ μ=some (.c j,μ))(hg:g ρ μ=some (.d d,μ))(hc:μ[j]? =some (.live xs)):cW [f,g] ρ μ=some (.d (.tuple [.list xs,d]),μ.set j (.frozen xs)):=by
 exact JU (yk hf hg) (fH (qY hc) (fH rfl rfl)) (aa (xM rfl))
theorem ad0(h:fh fs ρ μ=some (ds.map .d,μ1))(hz:ds.length≤sizeLine):n4 fs ρ μ=some (.c μ1.length,μ1++[.live ds]):=by
 exact Gb h (v4 ds) hz
theorem ar3(x:cZ)(N:List Int)(g:Int):pZ ({x with numbers:=some (.d (.list (iL N))),great:=some (.d (.int g)),told:=some (.c 1),beyond:=some (.d (.list (iL [g])))}).loc (iz [] N)=
  some (.next,({x with numbers:=some (.d (.list (iL N))),great:=some (.d (.int g)),told:=some (.c 1),beyond:=some (.d (.list (iL [g]))),asked:=some (.c 2)}).loc,IN N (qL N g)):=by
 let ρ:=({x with numbers:=some (.d (.list (iL N))),great:=some (.d (.int g)),told:=some (.c 1),beyond:=some (.d (.list (iL [g])))}:cZ).loc
 have h1:cW [(a9 9),(a9 4)] ρ (iz [] N)=some (.d (.tuple [.list (iL N),.list (iL N)]),[.iter [],.frozen (iL N)]):=UR (j:=1) rfl rfl rfl;have h2:cW [(a9 11),(aU [(a9 7)])] ρ [.iter [],.frozen (iL N)]=some (.d (.tuple [.list (iL [g]),.list (iL [g])]),[.iter [],.frozen (iL N)]):=d8 (ds:=[.list (iL [g]),.list (iL [g])]) (an rfl (an (jW rfl) bX)) (aa (xM rfl));unfold pZ;exact (bO (ad0 (ds:=qL N g) (an h1 (an h2 bX)) (aa (by simp [qL])))).trans rfl
theorem o6(h0:a9 12 ρ μ=some (.c 2,μ))(hf:f ρ μ=some (.d d,μ))(hc:μ[2]? =some (.live X))(hz:X.length≤100000):cj (eg (a9 12) f) ρ μ=some (.next,ρ,μ.set 2 (.live (X++[d]))):=
 eB (gw h0 hf hc (aa hz))
noncomputable def zg(N:List Int)(g T:Int):List Int:=N++[g]++[255,256,-256,T-2000]
noncomputable def tH(s:Int):List PyData:=[.bool true,.bool false,.bool true,.bool true,.bool true,.bool (decide (s<256)),.bool (decide (256≤s)),.bool (s==0)]
def xW(s:Int):PyData:=.tuple [.list (tH s),.list (tH s)]
theorem Ge(s:Int):Good (xW s):=dO (n:=1) (gD λx hx=>by
 simp only [tH,Cp,Ew,or_false] at hx
 rcases hx with rfl|rfl|rfl|rfl|rfl|rfl|rfl|rfl<;>exact jc) (by decide)
noncomputable def mC(s:Int):List PyData:=[.bool (decide (s<256)),.bool (decide (256≤s)),.bool (s==0)]
theorem Cf(s:Int):s.fdiv 256=s/256:=Int.fdiv_eq_ediv_of_nonneg _ (by decide)
theorem GM(x:cZ)(s:Int)(X:List PyData)(μ:List ah)(sy te:Option AV)(hc:μ[2]? =some (.live X))(hz:X.length≤10000):
  (ap (cb 14 (aU [(af [(a9 13)] co),(af [(a9 13)] bQ),(af [(a9 13)] fx)])) (ap (cj (eg (a9 12) (cW [(aj (aj (aU [(af [(a9 13),(kT "int")] gA)]) (ce nV (aK false (aj (aU [(a9 13)]) (a9 14) aT)) (dz 31) (c_ bg (aY (af [(a9 31),(kT "bool")] gA)))) aT) (a9 14) aT),(aU [(kB true),(kB false),(kB true),(kB true),(kB true),(dZ (aj (a9 13) (kI 256) (aS cP)) (kI 1) (ef λx y=>decide (x<y))),(dZ (aj (a9 13) (kI 256) (aS cP)) (kI 0) (ef λx y=>decide (y<x))),(zM (a9 13))])]))) aP)) ({x with asked:=some (.c 2),symbol:=some (.d (.int s)),tests:=te}).loc μ=
   some (.next,({x with asked:=some (.c 2),symbol:=some (.d (.int s)),tests:=some (.d (.list (mC s)))}).loc,μ.set 2 (.live (X++[xW s]))):=by
 have h1:aU [(af [(a9 13)] co),(af [(a9 13)] bQ),(af [(a9 13)] fx)] ({x with asked:=some (.c 2),symbol:=some (.d (.int s)),tests:=te}:cZ).loc μ=some (.d (.list (mC s)),μ):=
  dJ (ds:=mC s) (an (d6 rfl s61) (an (d6 rfl s62) (an (d6 rfl s63) bX))) (aa (by simp [mC]))
 let ρ:=({x with asked:=some (.c 2),symbol:=some (.d (.int s)),tests:=some (.d (.list (mC s)))}:cZ).loc
 have hcm:=iC (sc:=nV) (itf:=aK false (aj (aU [(a9 13)]) (a9 14) aT)) (e:=af [(a9 31),(kT "bool")] gA) (ρ:=ρ) (μ:=μ) (g:=none) (xs:=.int s::mC s) 31 (λx=>match x with| .bool _=>.bool true|_=>.bool false) (d9 (V:=.d (.list (.int s::mC s))) (cT (xs:=[.int s]) (ys:=mC s) (jW rfl) rfl rfl rfl (aa (by simp [mC]))) rfl) (az _ _) (λy hy=>by
  simp only [mC,Cp,Ew,or_false] at hy
  rcases hy with rfl|rfl|rfl|rfl<;>exact iN rfl rfl rfl) (aa (by simp [mC]))
 have h2:aj (aj (aU [(af [(a9 13),(kT "int")] gA)]) (ce nV (aK false (aj (aU [(a9 13)]) (a9 14) aT)) (dz 31) (c_ bg (aY (af [(a9 31),(kT "bool")] gA)))) aT) (a9 14) aT ρ μ=some (.d (.list (tH s)),μ):=
  cT (V:=.d (.list [.bool true,.bool false,.bool true,.bool true,.bool true])) (xs:=[.bool true,.bool false,.bool true,.bool true,.bool true]) (ys:=mC s) (cT (xs:=[.bool true]) (ys:=[.bool false,.bool true,.bool true,.bool true]) (jW (iN rfl rfl rfl)) (bY hcm) rfl rfl (aa (xM rfl))) rfl rfl rfl (aa (by simp [mC]))
 have hq:aj (a9 13) (kI 256) (aS cP) ρ μ=some (.d (.int (s.fdiv 256)),μ):=cX rfl rfl (k_ (by decide));have e1:dZ (aj (a9 13) (kI 256) (aS cP)) (kI 1) (ef λx y=>decide (x<y)) ρ μ=some (.d (.bool (decide (s<256))),μ):=by
  refine (gZ (W:=.d (.int 1)) hq rfl rfl).trans ?_;refine rA (Cf _) ?_
  congr 4
  exact decide_eq_decide.mpr (by omega)
 have e2:dZ (aj (a9 13) (kI 256) (aS cP)) (kI 0) (ef λx y=>decide (y<x)) ρ μ=some (.d (.bool (decide (256≤s))),μ):=by
  refine (gZ (W:=.d (.int 0)) hq rfl rfl).trans ?_;refine rA (Cf _) ?_
  congr 4
  exact decide_eq_decide.mpr (by omega)
 have e3:zM (a9 13) ρ μ=some (.d (.bool (s==0)),μ):=by
  have:zM (a9 13) ρ μ=some (.d (.bool (!(s != 0))),μ):=rfl
  refine rA this ?_
  simp [bne]
 have l3:aU [(kB true),(kB false),(kB true),(kB true),(kB true),(dZ (aj (a9 13) (kI 256) (aS cP)) (kI 1) (ef λx y=>decide (x<y))),(dZ (aj (a9 13) (kI 256) (aS cP)) (kI 0) (ef λx y=>decide (y<x))),(zM (a9 13))] ρ μ=some (.d (.list (tH s)),μ):=
  dJ (ds:=tH s) (an rfl (an rfl (an rfl (an rfl (an rfl (an e1 (an e2 (an e3 bX)))))))) (aa (by simp [tH]))
 have h3:=d8 (ds:=[.list (tH s),.list (tH s)]) (an h2 (an l3 bX)) (aa (xM rfl));refine (aB (bO h1)).trans ?_;exact (aB (o6 rfl h3 hc (by omega))).trans bK
theorem xa(x:cZ)(xs:List PyData):∀ (r:List Int) (X:List PyData) (μ:List ah) (sy te:Option AV),μ[2]? =some (.live X)→X.length+r.length≤10000→∃sy' te',
  fX (dz 13) (ap (cb 14 (aU [(af [(a9 13)] co),(af [(a9 13)] bQ),(af [(a9 13)] fx)])) (ap (cj (eg (a9 12) (cW [(aj (aj (aU [(af [(a9 13),(kT "int")] gA)]) (ce nV (aK false (aj (aU [(a9 13)]) (a9 14) aT)) (dz 31) (c_ bg (aY (af [(a9 31),(kT "bool")] gA)))) aT) (a9 14) aT),(aU [(kB true),(kB false),(kB true),(kB true),(kB true),(dZ (aj (a9 13) (kI 256) (aS cP)) (kI 1) (ef λx y=>decide (x<y))),(dZ (aj (a9 13) (kI 256) (aS cP)) (kI 0) (ef λx y=>decide (y<x))),(zM (a9 13))])]))) aP)) aP none xs (iL r) ({x with asked:=some (.c 2),symbol:=sy,tests:=te}).loc μ=
   some (.next,({x with asked:=some (.c 2),symbol:=sy',tests:=te'}).loc,μ.set 2 (.live (X++r.map xW)))
 | [],X,μ,sy,te,hc,_=>(jK sy te (by
  refine rA M3 ?_;refine rA (D8 _) ?_;refine rA (eF hc) ?_;rfl))
 |s::r,X,μ,sy,te,hc,hz=>by
  simp only [AH] at hz
  have hlt:2<μ.length:=(AX.mp hc).1;refine lz (xa x xs r (X++[xW s]) (μ.set 2 (.live (X++[xW s]))) (some (.d (.int s))) (some (.d (.list (mC s)))) (cB hlt) (by simp;lia)) λsy' te' e=>?_;refine (jK sy' te' ?_);refine (dP (ρ1:=({x with asked:=some (.c 2),symbol:=some (.d (.int s)),tests:=te}:cZ).loc) rfl (GM x s X μ sy te hc (by lia)) (az _ _)).trans (e.trans ?_)
  simp [HQ]
theorem al9(x:cZ)(N:List Int)(g T:Int)(X:List PyData)(μ:List ah)(hN:N.length≤100)(h1:dc μ (.c 1)=some (iL N))(hc:μ[2]? =some (.live X))(hz:X.length≤1000):∃sy te,
  qo ({x with total:=some (.d (.int T)),told:=some (.c 1),beyond:=some (.d (.list (iL [g]))),asked:=some (.c 2)}).loc μ=
   some (.next,({x with total:=some (.d (.int T)),told:=some (.c 1),beyond:=some (.d (.list (iL [g]))),asked:=some (.c 2),symbol:=sy,tests:=te}).loc,μ.set 2 (.live (X++(zg N g T).map xW))):=by
 let ρ:=({x with total:=some (.d (.int T)),told:=some (.c 1),beyond:=some (.d (.list (iL [g]))),asked:=some (.c 2)}:cZ).loc
 have a1:aj (a9 9) (a9 11) aT ρ μ=some (.d (.list (iL (N++[g]))),μ):=by
  refine rB (lR _ _) ?_;exact cT (V:=.c 1) (xs:=iL N) (ys:=iL [g]) rfl rfl h1 rfl (aa (by refine rA (xP _) ?_;simp;lia))
 have a2:aU [(kI 255),(kI 256),(jB (kI 256)),(aj (a9 2) (kI 2000) (aS λx y=>some (x-y)))] ρ μ=some (.d (.list (iL [255,256,-256,T-2000])),μ):=
  dJ (ds:=iL [255,256,-256,T-2000]) (an rfl (an rfl (an rfl (an (jU (x:=T) (y:=2000) rfl rfl) bX)))) (aa (xM rfl))
 have a3:=cT a1 a2 rfl rfl (aa (by refine rA (xP _) ?_;refine rA (xP _) ?_;simp;lia));rw [lR] at a3
 refine lz (xa ({x with total:=some (.d (.int T)),told:=some (.c 1),beyond:=some (.d (.list (iL [g])))}) (iL (zg N g T)) (zg N g T) X μ x.symbol x.tests hc (by simp [zg];lia)) λsy te e=>?_;refine (jK sy te ?_);unfold qo;refine rA (gM (d9 (V:=.d (.list (iL (zg N g T)))) a3 rfl)) ?_;exact e
noncomputable def uW(m:List Nat)(cs:List Int):List U:=units m cs false (zC 6)++[[92]]
noncomputable def vW(m:List Nat)(cs:List Int):List U:=units m cs true (zC 6)
noncomputable def xT(m:List Nat)(cs:List Int):List Nat:=(units m cs false (zC 6)).flatten
noncomputable def vT(m:List Nat)(cs:List Int):List Nat:=(vW m cs).flatten
theorem p_(m:List Nat)(cs:List Int):(xT m cs).length≤60:=(gq m cs false (zC 6)).1
theorem K4(m:List Nat)(cs:List Int):(vT m cs).length≤60:=(gq m cs true (zC 6)).1
theorem tj(m:List Nat)(cs:List Int)(sh:Bool):(units m cs sh (zC 6)).length≤30:=i8 m cs sh (zC 6)
theorem ap8(x:cZ)(m:List Nat)(cs:List Int)(μ:List ah)(hm:m.length=6)(hc:cs.length=6):mZ ({x with cells:=some (.d (.list (iL cs))),mates:=some (.d (.list (nL m)))}).loc μ=
  some (.next,({x with cells:=some (.d (.list (iL cs))),mates:=some (.d (.list (nL m))),units:=some (.d (.list (uL (uW m cs))))}).loc,μ):=by
 let ρ:=({x with cells:=some (.d (.list (iL cs))),mates:=some (.d (.list (nL m)))}:cZ).loc
 have hl:=tj m cs false;have h1:af [(af [(kI 6)] cJ),(a9 3),(a9 1),(kB false)] bC ρ μ=some (.d (.list (uL (units m cs false (zC 6)))),μ):=
  t7 (V:=.rng 0 6) (V':=.d (.list (nL m))) (V'':=.d (.list (iL cs))) (V3:=.d (.bool false)) rfl rfl rfl rfl (Rc hm hc)
 have h2:aU [kS "\\"] ρ μ=some (.d (.list (uL [[92]])),μ):=jW rfl;have h3:=cT h1 h2 rfl rfl (aa (by simp [uL];lia));rw [show uL (units m cs false (zC 6))++uL [[92]]=uL (uW m cs) by simp [uL,uW]] at h3
 unfold mZ;exact (bO h3).trans rfl
theorem Cb{X:Type}(xs:List X)(a:X):fq (xs++[a]) none (some (-1))=xs:=by
 have:clipAt (xs++[a]).length (-1)=xs.length:=by
  unfold clipAt
  simp
  lia
 simp only [fq,SW,this,SC,Sc]
 simp
theorem W5(a b:List U):uL (a++b)=uL a++uL b:=by simp [uL]
theorem YF:aL (jB (kI 1)) ρ μ=some (some (-1),μ):=dG rfl
theorem al5(x:cZ)(m:List Nat)(cs:List Int)(μ:List ah):np ({x with units:=some (.d (.list (uL (uW m cs))))}).loc μ=
  some (.next,({x with units:=some (.d (.list (uL (uW m cs)))),text:=some (.d (.str (tS (xT m cs))))}).loc,μ):=by
 let ρ:=({x with units:=some (.d (.list (uL (uW m cs))))}:cZ).loc
 have hl:=tj m cs false;have hx:=p_ m cs;have h1:cg (a9 15) b9 (aL (jB (kI 1))) ρ μ=some (.d (.list (uL (units m cs false (zC 6)))),μ):=by
  have:=f5 (f:=a9 15) (p:=b9) (q:=aL (jB (kI 1))) (ρ:=ρ) (μ:=μ) (xs:=uL (uW m cs)) (lo:=none) (hi:=some (-1)) rfl rfl YF (aa (by simp [uL,uW];lia))
  refine rA this ?_;rw [uW];refine rA (W5 _ _) ?_;exact congrArg (λl=>some (AV.d (.list l),μ)) (Cb _ _)
 unfold np;exact (bO (mq h1 rfl (by unfold xT at hx;lia))).trans rfl
theorem ap6(x:cZ)(m:List Nat)(cs:List Int)(μ:List ah)(hm:m.length=6)(hc:cs.length=6):nE ({x with cells:=some (.d (.list (iL cs))),mates:=some (.d (.list (nL m)))}).loc μ=
  some (.next,({x with cells:=some (.d (.list (iL cs))),mates:=some (.d (.list (nL m))),shorn:=some (.d (.str (tS (vT m cs))))}).loc,μ):=by
 let ρ:=({x with cells:=some (.d (.list (iL cs))),mates:=some (.d (.list (nL m)))}:cZ).loc
 have hx:=K4 m cs;have h1:af [(af [(kI 6)] cJ),(a9 3),(a9 1),(kB true)] bC ρ μ=some (.d (.list (uL (vW m cs))),μ):=
  t7 (V:=.rng 0 6) (V':=.d (.list (nL m))) (V'':=.d (.list (iL cs))) (V3:=.d (.bool true)) rfl rfl rfl rfl (Rc hm hc)
 unfold nE;exact (bO (mq h1 rfl (by unfold vT at hx;lia))).trans rfl
theorem mh{a b:List Nat}(hf:f ρ μ=some (.d (.str (tS a)),μ))(hg:g ρ μ=some (.d (.str (tS b)),μ))(hz:a.length+b.length≤100000):aj f g aT ρ μ=some (.d (.str (tS (a++b))),μ):=by
 refine rk hf hg ((f6 (rfl:jM (.d (.str (tS a)))=none)).trans ((oV (rfl:mA (.d (.str (tS a)))=some _) (rfl:mA (.d (.str (tS b)))=some _)).trans ((if_pos (by rw [eD,eD];exact aa hz)).trans (congrArg (λz=>some (AV.d (.str z),μ)) ?_))));apply UV;refine rA (P9 _ _) ?_
 simp [tS]
theorem HY{spec:iX}{g:Option Nat}(h:c9 fs spec ρ μ=some (xs,g,μ1))(hz:xs.length≤sizeLine):Ag fs spec ρ μ=some (.d (.list xs),μ1):=by
 exact aD h λVs μ2 e1 h=>(b5 e1).trans ((b5 h).trans (if_pos hz))
theorem US{a:List Nat}(hf:f ρ μ=some (.d (.str (tS a)),μ))(hz:a.length≤100000):af [f] dC ρ μ=some (.d (.int a.length),μ):=by
 refine d6 hf ?_;exact (len_str (by rw [eD];exact aa hz)).trans (by rw [eD])
theorem uK:∀ (us:List U) (k:Nat),(lf k us).length=us.length
 | [],_=>rfl
 |u::us,k=>by simp [lf,uK us]
noncomputable def JT(us:List U):PyData→PyData
 | .tuple [.int k,u]=>.tuple [.int (((us.take (k.toNat+1)).flatten.length:Int)-1),u]
 |x=>x
theorem Kp{us:List U}{u:PyData}:JT us (.tuple [.int k,u])=.tuple [.int (((us.take (k+1)).flatten.length:Int)-1),u]:=rfl
theorem Be:∀ (us pre:List U),(cN pre.length (uL us)).map (JT (pre++us))=lf pre.flatten.length us
 | [],pre=>rfl
 |u::us,pre=>by
  have ih:=Be us (pre++[u]);rw [be,ER,LK,be] at ih
  simp only [AH,EZ,RX,H9,LX,D8,LB] at ih
  refine (?_:JT (pre++u::us) (.tuple [.int (pre.length:Nat),uS u])::(cN (pre.length+1) (uL us)).map (JT (pre++u::us))=_);refine rA ih ?_;rw [lf]
  congr 1
  have ht:(pre++u::us).take (pre.length+1)=pre++[u]:=by
   refine rA List.take_append ?_;refine rA (Fj (by lia)) ?_
   simp
  simp only [Kp,ht,LK,be,H9,LX,D8]
theorem ta:∀ (us:List U) (k:Nat) {x:PyData},x∈cN k (uL us)→∃ (i:Nat) (u:U),i<us.length∧x=.tuple [.int ((k+i:Nat):Int),uS u]
 | [],_,_,h=>by cases h
 |u::us,k,x,h=>by
  rcases Cp.mp h with rfl|h
  ·exact (fV 0 u (by simp) rfl)
  ·refine kc (ta us (k+1) h) λi v hi e=>?_
   refine (fV (i+1) v (by simp;lia) ?_);refine rA e ?_;exact rA (show k+1+i=k+(i+1) by lia) rfl
theorem YJ(m:List Nat)(cs:List Int):WF (uW m cs):=(dy _ ([[92]]) rfl (mR m cs false (zC 6)) (.inr rfl))
theorem Ce(m:List Nat)(cs:List Int):(uW m cs).flatten=xT m cs++[92]:=by simp [uW,xT]
def OY(m:List Nat)(cs:List Int):PyData:=.list (lf 0 (uW m cs))
theorem al4(m:List Nat)(cs:List Int):∀u∈uW m cs,∀c∈u,c<128:= λu hu c hc=>by
 rcases AF.mp hu with h|h
 ·exact ui m cs false _ u h c hc
 ·simp only [AA] at h
  subst h;simp only [AA] at hc
  lia
theorem Bh:∀ (us:List U) (k:Nat),(∀u∈us,∀c∈u,c<128)→∀x∈lf k us,pE 1 x
 | [],_,_,_,h=>by cases h
 |u::us,k,hu,x,h=>by
  rcases Cp.mp h with rfl|h
  ·refine Et λy hy=>?_
   simp only [Cp,Ew,or_false] at hy
   rcases hy with rfl|rfl
   ·exact AK
   ·exact ip (hu u (by simp))
  ·exact Bh us _ (λv hv=>hu v (by simp [hv])) x h
theorem Ed(us:List U)(k:Nat):(us.take k).flatten.length≤us.flatten.length:=by
 conv=>rhs;rw [←L_ k us]
 rw [LK,be];lia
def m8(m:List Nat)(cs:List Int):PyData:=.tuple [OY m cs,OY m cs]
theorem Hx(m:List Nat)(cs:List Int):Good (m8 m cs):=dO (n:=2) (gD (Bh _ _ (al4 m cs))) (by decide)
theorem aq0(x:cZ)(m:List Nat)(cs:List Int)(X:List PyData)(μ:List ah)(hc:μ[2]? =some (.live X))(hz:X.length≤1000):oa ({x with asked:=some (.c 2),units:=some (.d (.list (uL (uW m cs)))),text:=some (.d (.str (tS (xT m cs))))}).loc μ=
  some (.next,({x with asked:=some (.c 2),units:=some (.d (.list (uL (uW m cs)))),text:=some (.d (.str (tS (xT m cs))))}).loc,μ.set 2 (.live (X++[m8 m cs]))):=by
 let ρ:=({x with asked:=some (.c 2),units:=some (.d (.list (uL (uW m cs)))),text:=some (.d (.str (tS (xT m cs))))}:cZ).loc
 have hl:=tj m cs false;have hx:=p_ m cs;have hwl:(uW m cs).length≤31:=by simp [uW];lia
 have hwf:(uW m cs).flatten.length≤61:=by refine rA (Ce _ _) ?_;simp;lia
 have h1:aj (a9 16) (kS "\\") aT ρ μ=some (.d (.str (tS (uW m cs).flatten)),μ):=by
  refine rA (Ce _ _) ?_;exact mh (b:=[92]) rfl rfl (by simp;lia)
 have h2:=HY (pA h1 (YJ m cs)) (by refine rA (uK _ _) ?_;exact aa (by lia));have hcm:=sN (sc:=uv) (itf:=c9 [(a9 15)] g9) (e:=(cW [(aj (af [(dx (kS "") [(cg (a9 15) b9 (aL (aj (a9 31) (kI 1) aT)))] fc)] dC) (kI 1) (aS λx y=>some (x-y))),(a9 32)])) (ρ:=ρ) (μ:=μ) 31 32 (by decide) (JT (uW m cs))
  (jZ (V:=.d (.list (uL (uW m cs)))) rfl rfl) (az _ _) (λy hy=>by
   refine kc (ta (uW m cs) 0 hy) λi u hi zq3=>?_;subst zq3;refine (fV _ _ rfl ?_);refine rA (LB _) ?_
   let ρ1:d5:=((bG uv ρ).set 31 (some (.d (.int (i:Int))))).set 32 (some (.d (uS u)))
   have a0:aL (aj (a9 31) (kI 1) aT) ρ1 μ=some (some ((i+1:Nat):Int),μ):=dG (cU (x:=i) (y:=1) rfl rfl);have a1:cg (a9 15) b9 (aL (aj (a9 31) (kI 1) aT)) ρ1 μ=some (.d (.list (uL ((uW m cs).take (i+1)))),μ):=by
    have:=f5 (f:=a9 15) (p:=b9) (ρ:=ρ1) (μ:=μ) (xs:=uL (uW m cs)) (lo:=none) rfl rfl a0 (aa (by simp [uL];lia))
    refine rA this ?_;refine rA (p8 _ (by simp [uL];lia)) ?_;simp only [uL,Rh]
   have hf:=Ed (uW m cs) (i+1);have a2:=US (mq a1 rfl (by lia)) (by lia);have a3:=jU a2 (rfl:kI 1 ρ1 μ=some (.d (.int 1),μ));refine (d8 (ds:=[.int ((((uW m cs).take (i+1)).flatten.length:Int)-1),uS u]) (an a3 (an rfl bX)) (aa (xM rfl))).trans ?_;simp only [Kp]) (by refine rA (ix _ _) ?_;exact aa (by simp [uL];lia))
 have e:=Be (uW m cs) [];simp only [EZ,Lr,LX] at e
 rw [e] at hcm
 have h3:=d8 (ds:=[OY m cs,OY m cs]) (an h2 (an (bY hcm) bX)) (aa (xM rfl));unfold oa;exact o6 rfl h3 hc (by lia)
theorem ZA(m:List Nat)(cs:List Int):WF (units m cs false (zC 6)):=m7 m cs false _
theorem H7(m:List Nat)(cs:List Int)(t:List U)(ht:t.all wf=true):WF (units m cs false (zC 6)++t):=(dy _ ([]) ((D8 _).symm) (by refine rA Se ?_;refine rA (mR _ _ _ _) ?_;refine rA ht ?_;rfl) (.inl rfl))
def lX(m:List Nat)(cs:List Int):PyData:=.tuple [.list [.str (tS (vT m cs)),.str (tS (vT m cs++[34,40]))],.list [.str (tS (vT m cs)),.str (tS (vT m cs++[34,40]))]]
theorem FL(m:List Nat)(cs:List Int):Good (lX m cs):=dO (n:=1) (gD λx hx=>by
 have:=zD m cs true (zC 6)
 simp only [Cp,Ew,or_false] at hx
 rcases hx with rfl|rfl
 ·exact ip this
 ·refine ip λc hc=>?_
  rcases AF.mp hc with h|h
  ·exact this c h
  ·simp only [Cp,Ew,or_false] at h
   lia) (by decide)
theorem am0(x:cZ)(m:List Nat)(cs:List Int)(X:List PyData)(μ:List ah)(hc:μ[2]? =some (.live X))(hz:X.length≤1000):ox ({x with asked:=some (.c 2),text:=some (.d (.str (tS (xT m cs)))),shorn:=some (.d (.str (tS (vT m cs))))}).loc μ=
  some (.next,({x with asked:=some (.c 2),text:=some (.d (.str (tS (xT m cs)))),shorn:=some (.d (.str (tS (vT m cs))))}).loc,μ.set 2 (.live (X++[lX m cs]))):=by
 let ρ:=({x with asked:=some (.c 2),text:=some (.d (.str (tS (xT m cs)))),shorn:=some (.d (.str (tS (vT m cs))))}:cZ).loc
 have hl:=tj m cs false;have hx:=p_ m cs;have hv:=K4 m cs;have h1:af [(a9 16)] aM ρ μ=some (.d (.str (tS (vT m cs))),μ):=by
  refine d6 (V:=.d (.str (tS (xT m cs)))) rfl ?_;refine (s2 (ZA m cs) (by unfold xT at hx;lia) (by lia)).trans ?_
  have:=gC m cs [] (zC 6)
  rw [D8] at this
  refine rA this ?_
  simp [clean,vT,vW]
 have h2:af [(aj (a9 16) (kS "\"(") aT)] aM ρ μ=some (.d (.str (tS (vT m cs++[34,40]))),μ):=by
  have hf:(units m cs false (zC 6)++[[34],[40]]).flatten=xT m cs++[34,40]:=by simp [xT]
  have a1:aj (a9 16) (kS "\"(") aT ρ μ=some (.d (.str (tS (units m cs false (zC 6)++[[34],[40]]).flatten)),μ):=by
   refine rA hf ?_;exact mh (b:=[34,40]) rfl rfl (by simp;lia)
  refine d6 a1 ?_;refine (s2 (H7 m cs [[34],[40]] (by decide)) (by refine rA hf ?_;simp;lia) (by simp;lia)).trans ?_;refine rA (gC m cs [[34],[40]] (zC 6)) ?_
  simp [clean,vT,vW]
 have h3:aj (a9 17) (kS "\"(") aT ρ μ=some (.d (.str (tS (vT m cs++[34,40]))),μ):=mh (b:=[34,40]) rfl rfl (by simp;lia);have l1:=dJ (ds:=[.str (tS (vT m cs)),.str (tS (vT m cs++[34,40]))]) (an h1 (an h2 bX)) (aa (xM rfl));have l2:=dJ (ρ:=ρ) (μ:=μ) (fs:=[a9 17,aj (a9 17) (kS "\"(") aT]) (ds:=[.str (tS (vT m cs)),.str (tS (vT m cs++[34,40]))]) (an rfl (an h3 bX)) (aa (xM rfl));have h4:=d8 (ds:=[.list [.str (tS (vT m cs)),.str (tS (vT m cs++[34,40]))],.list [.str (tS (vT m cs)),.str (tS (vT m cs++[34,40]))]]) (an l1 (an l2 bX)) (aa (xM rfl));unfold ox;exact o6 rfl h4 hc (by lia)
noncomputable def pU(u:U):Bool:=decide (u=[40])||decide (u=[41])
def fU(u:U):Int:=if u=[40] then 7 else 8
noncomputable def pD:PyData→Bool
 | .tuple [_,.str x]=>pU x.cps.toList
 |_=>false
noncomputable def fD:PyData→PyData
 | .tuple [_,.str x]=>.int (fU x.cps.toList)
 |x=>x
theorem Vt{a:PyData}{u:U}:pD (.tuple [a,uS u])=pU u:=congrArg pU (fY u)
theorem ae4{a:PyData}{u:U}:fD (.tuple [a,uS u])=.int (fU u):=congrArg (λx=>Fa (fU x)) (fY u)
theorem AZ:∀ (us:List U) (k:Nat) {x:PyData},x∈lf k us→∃ (n:Int) (u:U),u∈us∧x=.tuple [.int n,uS u]
 | [],_,_,h=>by cases h
 |u::us,k,x,h=>by
  rcases Cp.mp h with rfl|h
  ·exact (fV _ u (by simp) rfl)
  ·refine kc (AZ us _ h) λn v hv e=>?_
   exact (fV n v (by simp [hv]) e)
theorem AI:∀ (us:List U) (k:Nat),((lf k us).filter pD).map fD=iL ((us.filter pU).map fU)
 | [],_=>rfl
 |u::us,k=>by
  have ih:=AI us (k+u.length);have e1:pD (.tuple [.int ((k+u.length:Nat)-1),uS u])=pU u:=Vt;have e2:fD (.tuple [.int ((k+u.length:Nat)-1),uS u])=.int (fU u):=ae4;rw [lf];refine rA KP ?_;refine rA KP ?_;refine rA e1 ?_
  split
  ·refine rA F9 ?_;refine rA F9 ?_;refine rA ih ?_;refine rA e2 ?_;rfl
  ·exact ih
theorem Oj(m:List Nat)(cs:List Int)(p:Nat):((eM m cs true p).filter pU).map fU=[sg m p]:=by
 have hq:=Zk (jx cs p);unfold eM;generalize iJ cs p=q at*
 unfold sO sg
 by_cases h:p<m.getD p 0
 ·refine rA (if_pos h) ?_;refine rA (if_pos h) ?_
  rcases hq with rfl|rfl|rfl|rfl|rfl|rfl|rfl<;>decide
 ·refine rA (if_neg h) ?_;refine rA (if_neg h) ?_
  rcases hq with rfl|rfl|rfl|rfl|rfl|rfl|rfl<;>decide
theorem sA(m:List Nat)(cs:List Int):∀pl:List Nat,((units m cs true pl).filter pU).map fU=pl.map (sg m)
 | []=>rfl
 |p::pl=>by
  have ih:=sA m cs pl;unfold units at ih⊢
  refine rA Ft ?_;refine rA (L3 _ _) ?_;refine rA JV ?_;refine rA ih ?_;refine rA (Oj _ _ _) ?_;rfl
theorem HI(u v:U):(tS v==tS u)=decide (u=v):=by
 by_cases h:u=v
 ·subst h;simp
 ·refine rA (decide_eq_false h) ?_;refine rA (propext (beq_eq_false_iff_ne)) ?_
  intro q
  have:=congrArg (λs:Str=>s.cps.toList) q
  simp [tS] at this
  exact h this.symm
theorem Wd{u:U}(hu:∀c∈u,c<128)(μ:List ah):WG (.d (uS u)) (.d (.list [.str (tS [40]),.str (tS [41])])) μ=some (pU u):=by
 have hs:Sf (uS u)=true:=(ip hu:pE 0 (.str (tS u))).shaped (by decide)
 show (if La [.str (tS [40]),.str (tS [41])]=true∧Sf (uS u)=true then some (([.str (tS [40]),.str (tS [41])]:List PyData).any λy=>Mv y (uS u)) else none)=_
 have hl:La [.str (tS [40]),.str (tS [41])]=true:=(kH (n:=0) (xs:=[.str (tS [40]),.str (tS [41])]) λx hx=>by
  simp only [Cp,Ew,or_false] at hx
  rcases hx with rfl|rfl
  ·exact ip (by simp)
  ·exact ip (by simp)).1
 refine rA (if_pos ⟨hl,hs⟩) ?_;refine (?_:some ((tS [40]==tS u)||((tS [41]==tS u)||false))=_);refine rA (HI _ _) ?_;refine rA (HI _ _) ?_;refine rA (UU _) ?_;rfl
theorem ag0{u:U}(h:pU u=true):k9 (tS u)=some (fU u):=by
 unfold pU at h
 rw [PN,decide_eq_true_iff,decide_eq_true_iff] at h
 rcases h with rfl|rfl<;>rfl
noncomputable def qN(y:Int):Bool:=decide (0<y)&&decide (y<256)
theorem Y7(h:a9 31 ρ μ=some (.d (.int y),μ)):CG (kI 0) (a9 31) (kI 256) (ef λx y=>decide (x<y)) (ef λx y=>decide (x<y)) ρ μ=some (qN y,μ):=by
 refine (b5 (rfl:kI 0 ρ μ=some (.d (.int 0),μ))).trans ((b5 h).trans ?_);refine (?_:cond (decide (0<y)) (some (decide (y<256),μ)) (some (false,μ))=some (qN y,μ));unfold qN;cases decide (0<y)<;>rfl
theorem tN(m:List Nat):∀F:Fm,(F.pre m).filter qN=F.pl.map (sg m)
 | .at i=>by
  have:qN (sg m i)=true:=by rcases gE m i with q|q<;>rw [q]<;>decide
  simp [Fm.pre,Fm.pl,this]
 | .bin p l r=>by
  have h1:=tN m l;have h2:=tN m r;have h0:qN (if p then 274 else 272)=false:=by cases p<;>decide
  rw [Fm.pre];refine rA KP ?_;refine rA h0 ?_;refine rA (if_neg HJ) ?_;refine rA (L3 _ _) ?_;refine rA h1 ?_;refine rA h2 ?_;rw [Fm.pl];exact rA JV rfl
theorem vx(m:List Nat):∀G:List Fm,(db m G).filter qN=(bJ G).map (sg m)
 | []=>rfl
 |F::G=>by refine rA (je _ _ _) ?_;refine rA (L3 _ _) ?_;refine rA (tN _ _) ?_;refine rA (vx m G) ?_;refine rA (b6 _ _) ?_;exact rA JV rfl
noncomputable def sgs(m:List Nat):List Int:=(zC 6).map (sg m)
def my(m:List Nat):PyData:=.tuple [.list (iL (sgs m)),.list (iL (sgs m))]
theorem Gx(m:List Nat):Good (my m):=dO (n:=1) (rI _) (by decide)
noncomputable def qD:PyData→Bool
 | .int y=>qN y
 |_=>false
theorem Yq(l:List Int):((iL l).filter qD).map id=iL (l.filter qN):=by
 induction l with
 |nil=>rfl
 |cons y l ih=>
  have e:qD (.int y)=qN y:=rfl;refine (?_:(((Fa y::iL l).filter qD).map id)=_);refine rA KP ?_;refine rA KP ?_;refine rA e ?_
  split
  ·refine rA F9 ?_;refine rA ih ?_;rfl
  ·exact ih
theorem aq7(x:cZ)(m:List Nat)(cs:List Int)(G:List Fm)(X:List PyData)(μ:List ah)(hG:bJ G=Fh 0 6)(hg:(db m G).length≤100)(hc:μ[2]? =some (.live X))(hz:X.length≤1000):mX ({x with numbers:=some (.d (.list (iL (db m G++[0])))),asked:=some (.c 2),shorn:=some (.d (.str (tS (vT m cs))))}).loc μ=
  some (.next,({x with numbers:=some (.d (.list (iL (db m G++[0])))),asked:=some (.c 2),shorn:=some (.d (.str (tS (vT m cs))))}).loc,μ.set 2 (.live (X++[my m]))):=by
 let ρ:=({x with numbers:=some (.d (.list (iL (db m G++[0])))),asked:=some (.c 2),shorn:=some (.d (.str (tS (vT m cs))))}:cZ).loc
 have hl:=tj m cs true;have c1:=pM (sc:=AB) (itf:=c9 [(a9 17)] aE) (t:=bB (a9 32) (aU [(kS "("),(kS ")")]) WG) (e:=jF k9 (a9 32)) (ρ:=ρ) (μ:=μ) 31 32 (by decide) pD fD
  (pA (f:=a9 17) (vs:=vW m cs) rfl (m7 m cs true _)) (az _ _) (λy hy=>by
   refine kc (AZ _ _ hy) λn u hu zq3=>?_;subst zq3;have huc:=ui m cs true _ u hu;refine (dy _ _ rfl ?_ ?_)
   ·refine (dH (V:=.d (uS u)) rfl (dJ (ds:=[.str (tS [40]),.str (tS [41])]) rfl (aa (xM rfl))) (Wd huc _)).trans ?_
    refine rA Vt ?_;rfl
   ·intro h
    have h':pU u=true:=Vt.symm.trans h;refine (?_:bo (k9 (tS u)) (λi=>some (AV.d (.int i),μ))=_);refine (bV (ag0 h')).trans ?_;refine rA ae4 ?_;rfl) (by refine rA (uK _ _) ?_;exact aa (by unfold vW;lia))
 rw [AI,show vW m cs=units m cs true (zC 6) from rfl,sA] at c1
 have c2:=jf (sc:=yr) (itf:=aK false (a9 4)) (t:=CG (kI 0) (a9 31) (kI 256) (ef λx y=>decide (x<y)) (ef λx y=>decide (x<y))) (e:=a9 31) (ρ:=ρ) (μ:=μ) (g:=none) (xs:=iL (db m G++[0])) 31 qD id
  (d9 (V:=.d (.list (iL (db m G++[0])))) rfl rfl) (az _ _) (λy hy=>by
   refine au (Dc.mp hy) λz zz zq2=>?_;subst zq2;exact Y7 rfl) (λzz zz zz=>rfl) (by refine rA (xP _) ?_;refine rA be ?_;exact aa (by simp;lia))
 rw [Yq,L3,vx,hG] at c2
 have e0:([0]:List Int).filter qN=[]:=by decide
 rw [e0,D8,←Lx] at c2
 have h:=d8 (ds:=[.list (iL (sgs m)),.list (iL (sgs m))]) (an (bY c1) (an (bY c2) bX)) (aa (xM rfl));unfold mX;exact o6 rfl h hc (by lia)
theorem OO{k:EF}{a b:PyData}(h1:f ρ μ=some (.d a,μ))(h2:g ρ μ=some (.d b,μ))(h3:k ρ μ=some (.c μ.length,μ++[.live xs])):aU [f,g,k] ρ μ=some (.d (.list [a,b,.list xs]),μ++[.frozen xs]):=by
 exact (Wm (an h1 (yk h2 h3)) (fH rfl (fH rfl (fH (qY dq) rfl))) (aa (xM rfl))).trans (by rw [fm])
theorem W2{X1:List PyData}(h0:a9 12 ρ μ=some (.c 2,μ))(hf:f ρ μ=some (.d d,μ1))(hc0:μ[2]? =some (.live X1))(hc:μ1[2]? =some (.live X))(hz:X.length≤100000):cj (eg (a9 12) f) ρ μ=some (.next,ρ,μ1.set 2 (.live (X++[d]))):=by
 refine eB ?_;exact (b5 h0).trans ((bV (eP hc0)).trans ((b5 hf).trans ((b5 (rfl:vC (.d d) μ1=some (d,μ1))).trans ((bV hc).trans (if_pos (aa hz))))))
noncomputable def He:((zC 5).all λi=>rT (aH.getD i []) 0 (zC 6)==some 0&&bk (aH.getD i []) (zC 6))=true:=by decide
theorem BN(hi:i<5):rT (aH.getD i []) 0 (zC 6)=some 0∧bk (aH.getD i []) (zC 6)=true:=by
 have:=AP.mp He i (D2.mpr hi)
 rw [Fe,beq_iff_eq] at this
 exact this
theorem Cu(t:List U)(hb:rT m 0 (zC 6)=some 0)(hw:WF (units m cs false (zC 6)++t))(ht:t.flatten.length≤100)(ht2:t.length≤100)(b:Bool)(h:(match lU 0 (clean none t) with|some k=>k==0|none=>false)=b)(h0:f ρ μ=some (.d (.str (tS (xT m cs++t.flatten))),μ)):af [f] ar ρ μ=some (.d (.bool b),μ):=by
 have hl:=tj m cs false;have hx:=p_ m cs;have hf:(units m cs false (zC 6)++t).flatten=xT m cs++t.flatten:=by simp [xT]
 rw [←hf] at h0
 refine d6 h0 ((s3 hw (by refine rA hf ?_;refine rA be ?_;lia) (by refine rA be ?_;lia)).trans ?_);have e1:=gC m cs t (zC 6);have e2:=nS m cs (clean none t) (zC 6) 0;rw [hb] at e2
 dsimp only at e2
 have:LR (units m cs false (zC 6)++t)=b:=by
  unfold LR;refine rA e1 ?_;refine rA e2 ?_;exact h
 exact rA this rfl
noncomputable def jQ:PyData:=.tuple [.list [.bool true,.bool true,.list []],.list [.bool true,.bool true,.list []]]
theorem Io:Good jQ:=dO (n:=2) (gD λx hx=>by
 simp only [Cp,Ew,or_false] at hx
 rcases hx with rfl|rfl|rfl
 ·exact jc
 ·exact jc
 ·exact gD (λzz h=>by cases h)) (by decide)
theorem ao8(x:cZ)(m:List Nat)(cs:List Int)(X:List PyData)(μ:List ah)(hb:rT m 0 (zC 6)=some 0)(hc:μ[2]? =some (.live X))(hz:X.length≤1000):n5 ({x with asked:=some (.c 2),text:=some (.d (.str (tS (xT m cs))))}).loc μ=
  some (.next,({x with asked:=some (.c 2),text:=some (.d (.str (tS (xT m cs))))}).loc,μ.set 2 (.live (X++[jQ]))++[.frozen []]):=by
 let ρ:=({x with asked:=some (.c 2),text:=some (.d (.str (tS (xT m cs))))}:cZ).loc
 have hx:=p_ m cs;have a1:aj (a9 16) (kS "\"()\\") aT ρ μ=some (.d (.str (tS (xT m cs++[34,40,41,92]))),μ):=mh (b:=[34,40,41,92]) rfl rfl (by simp;lia);have a2:aj (a9 16) (kS "\"(") aT ρ μ=some (.d (.str (tS (xT m cs++[34,40]))),μ):=mh (b:=[34,40]) rfl rfl (by simp;lia);have w1:WF (units m cs false (zC 6)++[[34],[40],[41],[92]]):=(dy (units m cs false (zC 6)++[[34],[40],[41]]) ([[92]]) (by simp) (by refine rA Se ?_;refine rA (mR _ _ _ _) ?_;rfl) (.inr rfl));have b1:=isB (Cu [[34],[40],[41],[92]] hb w1 (by simp) (by simp) true (by decide) a1) (rfl:kB true ρ μ=some (.d (.bool true),μ));have b2:=isB (Cu [[34],[40]] hb (H7 m cs [[34],[40]] (by decide)) (by simp) (by simp) false (by decide) a2) (rfl:kB false ρ μ=some (.d (.bool false),μ));have b3:af [(aU [])] aX ρ μ=some (.c μ.length,μ++[.live []]):=d6 tL (s4 (vss:=[]) (λzz h=>by cases h) (by simp));have l1:=OO b1 b2 b3;have l2:aU [(kB true),(kB true),(aU [])] ρ (μ++[.frozen []])=some (.d (.list [.bool true,.bool true,.list []]),μ++[.frozen []]):=dJ (ds:=[.bool true,.bool true,.list []]) (an rfl (an rfl (an tL bX))) (aa (xM rfl));have h:cW [(aU [(dZ (af [(aj (a9 16) (kS "\"()\\") aT)] ar) (kB true) LF),(dZ (af [(aj (a9 16) (kS "\"(") aT)] ar) (kB false) LF),(af [(aU [])] aX)]),(aU [(kB true),(kB true),(aU [])])] ρ μ=some (.d jQ,μ++[.frozen []]):=by
  exact JU (yk l1 l2) (v4 [.list [.bool true,.bool true,.list []],.list [.bool true,.bool true,.list []]]) (aa (xM rfl))
 have hlt:2<μ.length:=(AX.mp hc).1;unfold n5;refine (W2 (X:=X) rfl h hc (by rw [Fb hlt];exact hc) (by lia)).trans ?_;exact rA (Sv _ _ hlt) rfl
theorem yA:∀F:Fm,SH F+1≤F.pl.length
 | .at _=>Dj 1
 | .bin p l r=>by
  have h1:=yA l;have h2:=yA r;rw [SH,Fm.pl];refine rA be ?_;cases p<;>simp<;>lia
theorem Hd:∀G:List Fm,jl G≤(bJ G).length
 | []=>Dj 0
 |F::G=>by
  have h1:=yA F;have h2:=Hd G;refine rA (qa _ _) ?_;refine rA (b6 _ _) ?_;refine rA be ?_;lia
theorem C8{G:List Fm}(h:a9 10 ρ μ=some (.d (.list (bh m G++[Jy []])),μ))(hz:G.length≤100):cg (a9 10) b9 (aL (jB (kI 1))) ρ μ=some (.d (.list (bh m G)),μ):=by
 have:=f5 (f:=a9 10) (p:=b9) (q:=aL (jB (kI 1))) (ρ:=ρ) (μ:=μ) (lo:=none) (hi:=some (-1)) h rfl YF (aa (by simp [bh];lia))
 refine rA this ?_;exact congrArg (λl=>some (AV.d (.list l),μ)) (Cb _ _)
theorem aq3(x:cZ)(i:Nat)(cs:List Int)(G:List Fm)(X:List PyData)(μ:List ah)(hi:i<5)(hcs:cs.length=6)(hG:bJ G=Fh 0 6)(hc:μ[2]? =some (.live X))(hz:X.length≤1000):∃Y,(∀x∈Y,Good x)∧Y.length≤300∧
  nq ({x with cells:=some (.d (.list (iL cs))),mates:=some (.d (.list (nL (aH.getD i [])))),read:=some (.d (.list (bh (aH.getD i []) G++[Jy []]))),asked:=some (.c 2)}).loc μ=
  some (.next,({x with cells:=some (.d (.list (iL cs))),mates:=some (.d (.list (nL (aH.getD i [])))),read:=some (.d (.list (bh (aH.getD i []) G++[Jy []]))),asked:=some (.c 2),proof:=some (.d (.bool (pr (aH.getD i []) 12 G)))}).loc,μ.set 2 (.live (X++Y))):=by
 let ρ:=({x with cells:=some (.d (.list (iL cs))),mates:=some (.d (.list (nL (aH.getD i [])))),read:=some (.d (.list (bh (aH.getD i []) G++[Jy []]))),asked:=some (.c 2)}:cZ).loc
 have hs:bJ G=zC 6:=by refine rA hG ?_;exact rA Lx rfl
 have hl:=fy G;have h6:(bJ G).length=6:=by refine rA hs ?_;rfl
 have hst:=Hd G;refine cq (s70 (cs:=cs) (ja:=2) hi hcs 12 G μ X hc (by refine rA hs ?_;exact QR _) (by refine rA hs ?_;exact (BN hi).2) (by lia) (by lia)) λY h1 h2 h3=>?_;refine (cL Y h1 (by lia) ?_);have r1:=C8 (m:=aH.getD i []) (G:=G) (ρ:=ρ) (μ:=μ) rfl (by lia);unfold nq;have hcall:af [(cg (a9 10) b9 (aL (jB (kI 1)))),(a9 3),(a9 1),(a9 12)] aO ρ μ=some (.d (.bool (pr (aH.getD i []) 12 G)),μ.set 2 (.live (X++Y))):=t7 (V':=.d (.list (nL (aH.getD i [])))) (V'':=.d (.list (iL cs))) (V3:=.c 2) r1 rfl rfl rfl h3;exact (bO hcall).trans rfl
theorem ao3(x:cZ)(μ:List ah):m_ x.loc μ=some (.next,({x with joins:=some (.c μ.length)}).loc,μ++[.live []]):=by
 unfold m_;exact (bO wc).trans rfl
theorem qZ(x:cZ)(m:List Nat)(xs:List PyData):∀ (G:List Fm) (J:List Jn) (μ:List ah) (w:Option AV),μ[j]? =some (.live (jL J))→(bJ G).length≤12→J.length+(eK G J.length).length≤1000→∃w',
  fX (dz 20) (ap (cj (af [(a9 20),(a9 19)] aW)) aP) aP none xs (bh m G) ({x with joins:=some (.c j),formula:=w}).loc μ=
   some (.next,({x with joins:=some (.c j),formula:=w'}).loc,μ.set j (.live (jL (J++eK G J.length))))
 | [],J,μ,w,hc,_,_=>⟨w,by
  refine rA (D8 _) ?_;refine rA (eF hc) ?_;rfl⟩
 |F::G,J,μ,w,hc,h12,hz=>by
  have hlt:j<μ.length:=(AX.mp hc).1;rw [b6,be] at h12
  rw [t8,be] at hz
  have hh:=CD F;have e:=s71 m F 12 μ J (by lia) hc (by lia);refine bP (qZ x m xs G (J++(gr F J.length).2) (μ.set j (.live (jL (J++(gr F J.length).2)))) (some (.d (F.enc m))) (cB hlt) (by lia) (by refine rA be ?_;lia)) λw' ih=>?_;refine ⟨w',?_⟩;have b:(ap (cj (af [(a9 20),(a9 19)] aW)) aP) ({x with joins:=some (.c j),formula:=some (.d (F.enc m))}:cZ).loc μ=some (.next,({x with joins:=some (.c j),formula:=some (.d (F.enc m))}:cZ).loc,μ.set j (.live (jL (J++(gr F J.length).2)))):=
   (aB (V5 (iN (V:=.d (F.enc m)) (V':=.c j) rfl rfl e))).trans bK
  refine (dP (ρ1:=({x with joins:=some (.c j),formula:=some (.d (F.enc m))}:cZ).loc) rfl b (az _ _)).trans (ih.trans ?_);refine rA (HQ _) ?_;refine rA be ?_;refine rA (ER _ _ _) ?_;rfl
theorem al3(x:cZ)(m:List Nat)(G:List Fm)(j:Nat)(μ:List ah)(hc:μ[j]? =some (.live []))(hG:bJ G=Fh 0 6):∃w,nA ({x with read:=some (.d (.list (bh m G++[Jy []]))),joins:=some (.c j)}).loc μ=
  some (.next,({x with read:=some (.d (.list (bh m G++[Jy []]))),joins:=some (.c j),formula:=w}).loc,μ.set j (.live (jL (eK G 0)))):=by
 have h6:(bJ G).length=6:=by refine rA hG ?_;rfl
 have hl:=fy G;have hg:=l5 G 0;refine bP (qZ ({x with read:=some (.d (.list (bh m G++[Jy []])))}) m (bh m G) G [] μ x.formula hc (by lia) (by simp;lia)) λw e=>?_;refine ⟨w,?_⟩;unfold nA;refine rA (gM (d9 (V:=.d (.list (bh m G))) (C8 (m:=m) (G:=G) rfl (by lia)) rfl)) ?_;exact e
noncomputable def pJ:PyData→Bool
 | .tuple (.int n::_)=>n==18
 |_=>false
theorem Fz(y:Jn):pJ y.enc=y.par:=by
 unfold Jn.enc pJ;cases y.par<;>rfl
theorem UJ(J:List Jn):((jL J).filter pJ).map id=jL (J.filter (·.par)):=by
 refine rA (List.map_id _) ?_;rw [jL];refine rA OG ?_
 have:(pJ∘Jn.enc)= λy:Jn=>y.par:=funext Fz
 refine rA this ?_;rfl
theorem YL{y:Jn}(hf:f ρ μ=some (.d y.enc,μ)):aF f (kI 0) ρ μ=some (.d (.int (if y.par then 18 else 16)),μ):=cI (k:=0) hf rfl rfl (by decide) rfl (aa (xM rfl))
theorem ae3{y:Jn}(hf:f ρ μ=some (.d y.enc,μ)):aF f (kI 1) ρ μ=some (.d (.int y.nd),μ):=cI (k:=1) hf rfl rfl (by decide) rfl (aa (xM rfl))
theorem ap3{y:Jn}(hf:f ρ μ=some (.d y.enc,μ)):aF f (kI 2) ρ μ=some (.d (.int y.a),μ):=cI (k:=2) hf rfl rfl (by decide) rfl (aa (xM rfl))
theorem am1{y:Jn}(hf:f ρ μ=some (.d y.enc,μ)):aF f (kI 3) ρ μ=some (.d (.int y.b),μ):=cI (k:=3) hf rfl rfl (by decide) rfl (aa (xM rfl))
theorem an7(x:cZ)(J:List Jn)(j:Nat)(μ:List ah)(hc:μ[j]? =some (.live (jL J)))(hJ:J.length≤1000):nF ({x with joins:=some (.c j)}).loc μ=
  some (.next,({x with joins:=some (.c j),forks:=some (.d (.list (jL (J.filter (·.par)))))}).loc,μ):=by
 let ρ:=({x with joins:=some (.c j)}:cZ).loc
 have hp:dc μ (.c j)=some (jL J):=eP hc;have hcm:=jf (sc:=yw) (itf:=aK false (a9 19)) (t:=bB (aF (a9 31) (kI 0)) (kI 18) dK) (e:=a9 31) (ρ:=ρ) (μ:=μ) (g:=F7 (.c j)) (xs:=jL J) 31 pJ id (d9 (V:=.c j) rfl hp) (pj hp) (λy hy=>by
  refine au (Dc.mp hy) λz zz zq2=>?_;subst zq2;refine (oh (y:=18) (YL rfl) rfl).trans ?_;refine rA (Fz _) ?_;cases z.par<;>rfl) (λzz zz zz=>rfl) (by rw [jL];refine rA (xP _) ?_;exact aa (by lia))
 rw [UJ] at hcm
 unfold nF;refine rA (jq hcm) ?_;rfl
noncomputable def G9:PyData→PyData
 | .tuple [.int a,.int b]=>.int (if b<a then b else a)
 |x=>x
theorem Ia:∀ (l:List Nat) (k:Nat),(cN k (nL l)).map G9=nL ((zC l.length).map λi=>min (k+i) (l.getD i 0))
 | [],_=>rfl
 |a::l,k=>by
  have ih:=Ia l (k+1);refine (?_:G9 (.tuple [.int (k:Nat),.int (a:Nat)])::(cN (k+1) (nL l)).map G9=_);refine rA ih ?_;refine rA AH ?_;refine rA LN ?_;refine rA F9 ?_;refine rA E_ ?_;have e0:G9 (.tuple [.int (k:Nat),.int (a:Nat)])=.int ((min (k+0) ((a::l).getD 0 0):Nat):Int):=by
   refine (?_:Fa _=Fa _)
   congr 1
   simp only [TV,List.getD_cons_zero]
   split<;>lia
  have e1:((λi=>min (k+i) ((a::l).getD i 0))∘Vi)= λi=>min (k+1+i) (l.getD i 0):=by
   funext i
   simp only [Function.comp_apply,T2,List.getD_cons_succ];exact rA (show k+(i+1)=k+1+i by lia) rfl
  refine rA e0 ?_;refine rA e1 ?_;rfl
theorem HG:∀ (l:List Nat) (k:Nat) {x:PyData},x∈cN k (nL l)→∃ (p o:Nat),x=.tuple [.int p,.int o]
 | [],_,_,h=>by cases h
 |a::l,k,x,h=>by
  rcases Cp.mp h with rfl|h
  ·exact (jK k a rfl)
  ·exact HG l (k+1) h
theorem ze:((zC 64).all λa=>(zC 64).all λb=>KH (a:Int) (b:Int) 1)=true:=by decide+kernel
theorem AW{a:Nat}(ha:a<64)(hb:b<64):KH (a:Int) (b:Int) 1=true:=
 AP.mp (AP.mp ze a (D2.mpr ha)) b (D2.mpr hb)
theorem r6{a:Nat}(hf:f ρ μ=some (.rng a b,μ))(ha:a<64)(hb:b<64):aK false f ρ μ=some ((zC (b-a)).map λ(i:Nat)=>Fa ((a+i:Nat):Int),none,μ):=by
 exact (nQ hf (AW ha hb)).trans (by rw [show ((b:Int)-(a:Int)).toNat=b-a by lia,mz])
theorem Jh{a:Nat}(hf:f ρ μ=some (.rng a b,μ))(ha:a<64)(hb:b<64):af [f] lY ρ μ=some (.d (.list ((zC (b-a)).map λ(i:Nat)=>Fa ((a+i:Nat):Int))),μ):=by
 have e:(2:Nat)^24=16777216:=by decide
 refine d6 hf ((bV (rfl:l1 [AV.rng a b]=some _)).trans ((oV (rfl:XU (.rng a b)=some _) rfl).trans ((if_pos ⟨AW ha hb,by rw [e];lia⟩).trans ?_)));refine rA (show ((b:Int)-(a:Int)).toNat=b-a by lia) ?_;exact rA (mz _ _) rfl
theorem EB(a n:Nat):((zC n).map λ(i:Nat)=>Fa ((a+i:Nat):Int))=nL (Fh a n):=by
 refine rA List.range'_eq_map_range ?_;rw [nL];refine rA E_ ?_;rfl
theorem T0(a b:List Nat):nL (a++b)=nL a++nL b:=by simp [nL]
theorem an5(x:cZ)(m:List Nat)(J:List Jn)(j:Nat)(μ:List ah)(hm:m.length=6)(hc:μ[j]? =some (.live (jL J)))(hJ:J.length≤20):nI ({x with mates:=some (.d (.list (nL m))),joins:=some (.c j)}).loc μ=
  some (.next,({x with mates:=some (.d (.list (nL m))),joins:=some (.c j),start:=some (.d (.list (nL (start m J.length))))}).loc,μ):=by
 let ρ:=({x with mates:=some (.d (.list (nL m))),joins:=some (.c j)}:cZ).loc
 have hcm:=sN (sc:=Am) (itf:=c9 [(a9 3)] g9) (e:=af [(a9 31),(a9 32)] G1) (ρ:=ρ) (μ:=μ) 31 32 (by decide) G9
  (jZ (V:=.d (.list (nL m))) rfl rfl) (az _ _) (λy hy=>by
   refine lz (HG m 0 hy) λp o zq2=>?_;subst zq2;exact (fV _ _ rfl (iN (V:=.d (.int p)) (V':=.d (.int o)) rfl rfl rfl))) (by refine rA (ix _ _) ?_;rw [nL];refine rA (xP _) ?_;refine rA hm ?_;exact aa (by decide))
 rw [Ia,hm] at hcm
 have hlen:=Vh (k:=19) (ρ:=ρ) rfl hc (by lia);have hr:af [(kI 6),(aj (kI 6) (af [(a9 19)] dC) aT)] cJ ρ μ=some (.rng (6:Nat) (6+J.length:Nat),μ):=iN (V:=.d (.int 6)) rfl (cU (x:=6) rfl hlen) (by
  refine (?_:some (AV.rng 6 (6+(J.length:Int)),μ)=_);refine rA (show (6:Int)+(J.length:Int)=((6+J.length:Nat):Int) by lia) ?_;rfl)
 have h2:=Jh hr (by decide) (by lia);rw [EB,show 6+J.length-6=J.length by lia] at h2
 have h3:=cT (bY hcm) h2 rfl rfl (aa (by rw [nL,nL];refine rA (xP _) ?_;refine rA (xP _) ?_;refine rA (xP _) ?_;refine rA J4 ?_;refine rA Lh ?_;lia));rw [←T0] at h3
 have e:(zC 6).map (λi=>min (0+i) (m.getD i 0))++Fh 6 J.length=start m J.length:=by
  unfold start;simp only [LB]
 rw [e] at h3
 unfold nI;exact (bO h3).trans rfl
noncomputable def pK:PyData→Bool
 | .tuple (.int n::_)=>n==16
 |_=>false
theorem Ju(y:Jn):pK y.enc= !y.par:=by
 unfold Jn.enc pK;cases y.par<;>rfl
noncomputable def ysK:PyData→List PyData
 | .tuple [_,_,a,b]=>[a,b]
 |_=>[]
noncomputable def vK:PyData→PyData→PyData
 | .tuple [_,n,_,_],y=>.tuple [n,y]
 |x,_=>x
theorem qu:∀J:List Jn,((jL J).flatMap λx=>if pK x then (ysK x).map (vK x) else [])=eL (ii J)
 | []=>rfl
 |y::J=>by
  have ih:=qu J
  show (if pK y.enc then (ysK y.enc).map (vK y.enc) else [])++((jL J).flatMap λx=>if pK x then (ysK x).map (vK x) else [])=_
  refine rA ih ?_;refine rA (Ju _) ?_;obtain ⟨p,nd,a,b⟩:=y;cases p<;>rfl
theorem H3:∀ (F:Fm) (n:Nat),(∀p∈F.pl,p<6)→(gr F n).1<6+(n+(gr F n).2.length)∧∀y∈(gr F n).2,y.nd<6+(n+(gr F n).2.length)∧y.a<6+(n+(gr F n).2.length)∧y.b<6+(n+(gr F n).2.length)
 | .at i,n,h=>by
  have:=h i (by simp [Fm.pl])
  refine ⟨by show i<_;lia,λy hy=>by cases hy⟩
 | .bin p l r,n,h=>by
  simp only [Fm.pl,AF] at h
  have h1:=H3 l n (λq hq=>h q (.inl hq));have h2:=H3 r (n+(gr l n).2.length) (λq hq=>h q (.inr hq));simp only [yH,be,H0,AF,AA];refine ⟨by lia,λy hy=>?_⟩
  rcases hy with (hy|hy)|rfl
  ·have:=h1.2 y hy;lia
  ·have:=h2.2 y hy;lia
  ·dsimp only;lia
theorem H_:∀ (G:List Fm) (n:Nat),(∀p∈bJ G,p<6)→∀y∈eK G n,y.nd<6+(n+(eK G n).length)∧y.a<6+(n+(eK G n).length)∧y.b<6+(n+(eK G n).length)
 | [],n,_,y,hy=>by cases hy
 |F::G,n,h,y,hy=>by
  rw [b6] at h
  have h1:=H3 F n (λq hq=>h q (yx _ hq));have h2:=H_ G (n+(gr F n).2.length) (λq hq=>h q (CO _ hq));rw [t8,AF] at hy
  rw [t8];refine rA be ?_
  rcases hy with hy|hy
  ·have:=h1.2 y hy;lia
  ·have:=h2 y hy;lia
theorem nJ(m:List Nat)(n:Nat):(start m n).length=6+n:=by simp [start]
theorem EA(J:List Jn):(ii J).length≤2*J.length:=by
 induction J with
 |nil=>exact Dj 0
 |cons y J ih=>
  rw [ii];refine rA KP ?_;unfold ii at ih
  split
  ·refine rA Ft ?_;refine rA be ?_;refine rA AH ?_;simp only [AH,EZ];lia
  ·refine rA AH ?_;lia
theorem ar1(x:cZ)(m:List Nat)(J:List Jn)(j:Nat)(μ:List ah)(hc:μ[j]? =some (.live (jL J)))(hJ:J.length≤20)(hb:∀y∈J,y.nd<6+J.length∧y.a<6+J.length∧y.b<6+J.length):nk ({x with joins:=some (.c j),start:=some (.d (.list (nL (start m J.length))))}).loc μ=
  some (.next,({x with joins:=some (.c j),start:=some (.d (.list (nL (start m J.length)))),labels:=some (.d (.list (nL (di (start m J.length) (ii J)))))}).loc,μ):=by
 let ρ:=({x with joins:=some (.c j),start:=some (.d (.list (nL (start m J.length))))}:cZ).loc
 have hp:dc μ (.c j)=some (jL J):=eP hc;have hl:=EA J;have hcm:=po (sc:=tB) (itf:=aK false (a9 19)) (itf2:=aK false (cg (a9 31) (aL (kI 2)) b9)) (t:=bB (aF (a9 31) (kI 0)) (kI 16) dK) (e:=cW [(aF (a9 31) (kI 1)),(a9 32)]) (ρ:=ρ) (μ:=μ) (g:=F7 (.c j)) (xs:=jL J) 31 32 (by decide) pK ysK vK
  (d9 (V:=.c j) rfl hp) (pj hp) (λy hy w=>by
   refine au (Dc.mp hy) λz zz zq2=>?_;subst zq2;refine (oh (y:=16) (YL rfl) rfl).trans ?_;refine rA (Ju _) ?_;cases z.par<;>rfl) (λy hy zz w=>by
   refine au (Dc.mp hy) λz zz zq2=>?_;subst zq2;exact mo (uu (xs:=[.int (if z.par then 18 else 16),.int z.nd,.int z.a,.int z.b]) 2 rfl (by decide) (by simp) (aa (xM rfl)))) (λy hy zz w hw=>by
   refine au (Dc.mp hy) λz zz zq2=>?_;subst zq2;exact d8 (ds:=[.int z.nd,w]) (an (ae3 rfl) (an rfl bX)) (aa (xM rfl))) (by refine rA (qu _) ?_;rw [eL];refine rA (xP _) ?_;exact aa (by lia))
 rw [qu] at hcm
 have h:=s72 (ls:=start m J.length) (es:=ii J) (μ:=μ) (by refine rA (nJ _ _) ?_;lia) (λp hp=>by
  refine rA (nJ _ _) ?_;refine au (Lk.mp hp) λy hy h=>?_
  have:=hb y (Ov.mp hy).1
  simp only [Cp,Ew,or_false] at h
  rcases h with rfl|rfl<;>dsimp only<;>lia)
 unfold nk;exact (bO (iN (V:=.d (.list (nL (start m J.length)))) rfl (bY hcm) h)).trans rfl
theorem qp{s:Str}(h:s=wd k):kS s ρ μ=some (.d (.str (wd k)),μ):=by refine rB h ?_;rfl
noncomputable def rV:List Str:=(zC 10).map wd
theorem ap0(x:cZ)(μ:List ah):nG x.loc μ=some (.next,({x with names:=some (.d (.list (bS rV)))}).loc,μ):=by
 have h:aU [(kS "OPTIMIZED"),(kS "NEWLOCALS"),(kS "VARARGS"),(kS "VARKEYWORDS"),(kS "NESTED"),(kS "GENERATOR"),(kS "NOFREE"),(kS "COROUTINE"),(kS "ITERABLE_COROUTINE"),(kS "ASYNC_GENERATOR")] x.loc μ=some (.d (.list (bS rV)),μ):=
  dJ (ds:=bS rV) (an (qp (k:=0) (by decide+kernel)) (an (qp (k:=1) (by decide+kernel)) (an (qp (k:=2) (by decide+kernel)) (an (qp (k:=3) (by decide+kernel)) (an (qp (k:=4) (by decide+kernel)) (an (qp (k:=5) (by decide+kernel)) (an (qp (k:=6) (by decide+kernel)) (an (qp (k:=7) (by decide+kernel)) (an (qp (k:=8) (by decide+kernel)) (an (qp (k:=9) (by decide+kernel)) bX)))))))))) (aa (by decide))
 unfold nG;exact (bO h).trans rfl
theorem K_:((zC 7).all λi=>hx (2^ (10+i))==wd (10+i)&&decide ((hx (2^ (10+i))).length≤1000))=true:=by decide+kernel
noncomputable def iG(low n:Nat):List Str:=(zC n).map λk=>wd (low+k)
noncomputable def hxD:PyData→PyData
 | .int p=>.str (hx (2^p.toNat))
 |x=>x
theorem an2(x:cZ)(J:List Jn)(low:Nat)(μ:List ah)(hl:low<13)(hJ:J.length≤5):o4 ({x with low:=some (.d (.int low)),forks:=some (.d (.list (jL J))),names:=some (.d (.list (bS rV)))}).loc μ=
  some (.next,({x with low:=some (.d (.int low)),forks:=some (.d (.list (jL J))),names:=some (.d (.list (bS rV))),words:=some (.d (.list (bS (iG low J.length))))}).loc,μ):=by
 let ρ:=({x with low:=some (.d (.int low)),forks:=some (.d (.list (jL J))),names:=some (.d (.list (bS rV)))}:cZ).loc
 have hcm:=iC (sc:=uD) (itf:=aK false (af [(kI 10),(kI 17)] cJ)) (e:=af [(aj (kI 2) (a9 31) (aS gk))] oY) (ρ:=ρ) (μ:=μ) (g:=none) (xs:=(zC 7).map λ(i:Nat)=>Fa ((10+i:Nat):Int)) 31 hxD (r6 (a:=10) (b:=17) (iN (V:=.d (.int 10)) (V':=.d (.int 17)) rfl rfl rfl) (by decide) (by decide)) (az _ _) (λy hy=>by
  refine au (Dc.mp hy) λi hi zq2=>?_;subst zq2
  have:=AP.mp K_ i hi
  rw [Fe,decide_eq_true_iff] at this
  have hi7:=D2.mp hi;exact uU (jP rfl (by lia)) this.2) (aa (xM rfl))
 have e1:((zC 7).map λ(i:Nat)=>Fa ((10+i:Nat):Int)).map hxD=bS ((zC 7).map λi=>wd (10+i)):=by
  refine rA E_ ?_;rw [bS];refine rA E_ ?_;refine GN λi hi=>?_
  have:=AP.mp K_ i hi
  rw [Fe,beq_iff_eq] at this
  refine (?_:Lv (hx (2^ ((10+i:Nat):Int).toNat))=Lv (wd (10+i)));refine rA (Fs _) ?_;exact rA this.1 rfl
 rw [e1] at hcm
 have h1:=cT (f:=a9 24) (ρ:=ρ) (V:=.d (.list (bS rV))) rfl (bY hcm) rfl rfl (aa (by decide));have e2:bS rV++bS ((zC 7).map λi=>wd (10+i))=bS (iG 0 17):=by
  unfold bS rV iG;refine rB JV ?_
  congr 1
 rw [e2] at h1
 have h2:=gG (f:=a9 21) (ρ:=ρ) (μ:=μ) (V:=.d (.list (jL J))) (xs:=jL J) rfl rfl (by rw [jL];refine rA (xP _) ?_;exact aa (by lia));have h3:aL (aj (a9 5) (af [(a9 21)] dC) aT) ρ μ=some (some ((low+J.length:Nat):Int),μ):=by
  have:=dG (cU (f:=a9 5) (x:=low) rfl h2)
  rw [jL,xP] at this
  refine rA this ?_;rfl
 have hw:(bS (iG 0 17)).length=17:=by simp [bS,iG]
 have h4:=f5 h1 (dG (x:=low) rfl:aL (a9 5) ρ μ=_) h3 (by refine rA hw ?_;exact aa (by decide));rw [Hq _ (by lia) (by refine rA hw ?_;lia)] at h4
 have e3:((bS (iG 0 17)).drop low).take (low+J.length-low)=bS (iG low J.length):=by
  rw [bS];refine rB To ?_;refine rB Rh ?_;rw [bS]
  congr 1
  apply TM;intro k;unfold iG;rw [List.getElem?_take,Q0,GW,GW]
  by_cases hk:k<J.length
  ·refine rA (if_pos (by lia)) ?_;rw [NZ (by lia),NZ hk]
   simp
  ·refine rA (if_neg (by lia)) ?_;rw [Pl (by rw [J4];lia)]
   rfl
 rw [e3] at h4
 unfold o4;exact (bO h4).trans rfl
theorem an3(x:cZ)(μ:List ah):ni x.loc μ=some (.next,({x with trees:=some (.c μ.length)}).loc,μ++[.live []]):=by
 unfold ni;exact (bO wc).trans rfl
noncomputable def wq(k:Nat):List Nat:=wX.getD k []
theorem Za(k:Nat):wd k=tS (wq k):=rfl
noncomputable def gN(low f mask:Nat):List (List Nat):=if mask=0 then [[48,120,48]] else (gY low f mask).map wq
theorem Oc:((zC 6).all λf=>(zC (2^f)).all λmask=>((zC f).filter (iH mask)).isEmpty==decide (mask=0))=true:=by decide+kernel
theorem Um:((zC 32).all λk=>(wq k).all (λc=>decide (c<128))&&!(wq k).isEmpty&&!(wq k).contains 44&&decide ((wq k).length≤20))=true:=by decide+kernel
theorem VJ:((zC 13).all λlow=>(zC 6).all λf=>(zC (2^f)).all λmask=>(zC f).all λk=>((gN low f mask).any λw=>w==wq (low+k))==iH mask k)=true:=by decide+kernel
theorem OF:((zC 32).all λmask=>(zC 5).all λk=>((((mask:Int).fdiv (2^k)).fmod 2==1)==iH mask k)&&decide (¬((2:Int)^k=0∨2^64≤((2:Int)^k).natAbs)))=true:=by decide+kernel
theorem BF{f:Nat}(hf:f<6):2^f≤2^5:=Su (by decide) (by lia)
theorem aa3{p:Nat→Nat→Bool}(h:((zC 6).all λf=>(zC (2^f)).all λmask=>p f mask)=true){f:Nat}(hf:f<6)(hm:mask<2^f):p f mask=true:=
 AP.mp (AP.mp h f (D2.mpr hf)) mask (D2.mpr hm)
theorem mx{f:Nat}(low:Nat)(hf:f<6)(hm:mask<2^f):gY low f mask=[]↔mask=0:=by
 have:=aa3 (p:= λf mask=>((zC f).filter (iH mask)).isEmpty==decide (mask=0)) Oc hf hm
 rw [beq_iff_eq] at this
 unfold gY;refine rA (propext (O4)) ?_;refine rB (propext (U1)) ?_;refine rA this ?_;rw [decide_eq_true_iff]
theorem zO{f:Nat}(hk:k∈gY low f mask):k<low+f:=by
 refine au (Dc.mp hk) λj hj zq2=>?_;subst zq2
 have:=D2.mp (Ov.mp hj).1
 lia
theorem BR(hk:k<32):(∀c∈wq k,c<128)∧wq k≠[]∧44∉wq k∧(wq k).length≤20:=by
 have:=AP.mp Um k (D2.mpr hk)
 simp only [Fe,AP,decide_eq_true_eq,MV,List.isEmpty_eq_false_iff,N3,decide_eq_false_iff_not] at this
 exact (ll this.1.1.1 this.1.1.2 this.1.2 this.2)
theorem pV{f:Nat}(hl:low<13)(hf:f<6)(hm:mask<2^f):gN low f mask≠[]∧(gN low f mask).length≤5∧∀w∈gN low f mask,(∀c∈w,c<128)∧w≠[]∧44∉w∧w.length≤20:=by
 unfold gN
 split
 ·refine (fu (by simp) (by simp) (λw hw=>?_))
  refine rA (AA.mp hw) ?_;refine (ll (by simp) (by simp) (by simp) (by simp))
 ·rename_i h
  refine (fu (λe=>h ((mx low hf hm).mp (O4.mp e))) ?_ (λw hw=>?_))
  ·have:=HA (iH mask) (zC f)
   rw [J4] at this
   simp only [gY,xP];lia
  ·refine au (Dc.mp hw) λk hk zq2=>?_
   subst zq2;exact BR (by have:=zO hk;lia)
theorem lJ:∀ws:List (List Nat),(∀w∈ws,w.length≤20)→(cG ws).length≤22*ws.length
 | [],_=>Dj 0
 | [w],h=>by have:=h w (by simp);simp only [cG,H0];lia
 |w::v::r,h=>by
  have ih:=lJ (v::r) (λu hu=>h u (CQ _ hu))
  have:=h w (by simp)
  simp only [cG,be,AH,EZ] at ih⊢
  lia
theorem vg:∀ws:List (List Nat),(∀w∈ws,∀c∈w,c<128)→∀c∈cG ws,c<128
 | [],_,c,hc=>by cases hc
 | [w],h,c,hc=>h w (by simp) c hc
 |w::v::r,h,c,hc=>by
  simp only [cG,AF,Cp,Ew,or_false] at hc
  rcases hc with (hc|hc)|hc
  ·exact h w (by simp) c hc
  ·lia
  ·exact vg (v::r) (λu hu=>h u (CQ _ hu)) c hc
theorem Dr:∀ws:List (List Nat),ws≠[]→(∀w∈ws,w≠[])→cG ws≠[]
 | [],h,_=>absurd rfl h
 | [w],_,h=>h w (by simp)
 |w::v::r,_,h=>by
  intro e;simp only [cG,List.append_eq_nil_iff] at e
  exact h w (by simp) e.1.1
def eS(low f mask:Nat):Str:=tS (cG (gN low f mask))
theorem FP{f:Nat}(hf:f<6)(hm:mask<2^f):LA ", " (KO (gY low 5 mask) (if mask=0 then some 0 else none))=eS low f mask:=by
 have e5:=aa3 (p:= λf mask=>(zC 5).filter (iH mask)==(zC f).filter (iH mask)) ad2 hf hm;rw [beq_iff_eq] at e5
 have e5':gY low 5 mask=gY low f mask:=by unfold gY;exact rA e5 rfl
 refine rA e5' ?_;unfold eS gN
 by_cases h:mask=0
 ·refine rA (if_pos h) ?_;refine rA (if_pos h) ?_;refine rA ((mx low hf hm).mpr h) ?_
  refine (?_:LA hH [hx 0]=_);refine rA Yo ?_;exact qB [[48,120,48]]
 ·refine rA (if_neg h) ?_;refine rA (if_neg h) ?_
  refine (?_:LA hH ((gY low f mask).map wd)=_);refine rA (show (gY low f mask).map wd=((gY low f mask).map wq).map tS by rw [E_];rfl) ?_;exact qB _
theorem Nc{f:Nat}(hl:low<13)(hf:f<6)(hm:mask<2^f):cO [.d (.int ((mask:Int)*2^low))] μ=some (.d (.str (eS low f mask)),μ):=by
 have h:=AP.mp (AP.mp HS low (D2.mpr hl)) mask (D2.mpr (by have:=BF hf;lia));rw [beq_iff_eq] at h
 refine rB (FP hf hm) ?_;refine ZD h (λfl' e=>?_)
 split at e
 ·refine cA e ?_;refine rA Yo ?_;decide
 ·exact cv e
theorem Kr{f:Nat}(hl:low<13)(hf:f<6)(hm:mask<2^f):(cG (gN low f mask)).length≤110:=by
 refine dW (pV hl hf hm) λh1 h2 h3=>?_
 have:=lJ _ (λw hw=>(h3 w hw).2.2.2)
 lia
theorem Gy{f:Nat}(hl:low<13)(hf:f<6)(hm:mask<2^f):pE n (.str (eS low f mask)):=
 ip (vg _ λw hw=>((pV hl hf hm).2.2 w hw).1)
theorem rM(g:Nat→PyData):∀ (n a s:Nat),cN a ((Fh s n).map g)=(zC n).map λk=>.tuple [.int ((a+k:Nat):Int),g (s+k)]
 |0,_,_=>rfl
 |n+1,a,s=>by
  refine rA Rw ?_;refine rA F9 ?_;rw [cN];refine rA (rM g n (a+1) (s+1)) ?_;refine rA LN ?_;refine rA F9 ?_;refine rA E_ ?_;refine congr (congrArg _ rfl) (GN λi zz=>?_);refine (?_:Jy [.int _,g _]=Jy [.int _,g _]);refine rA (show a+1+i=a+(i+1) by lia) ?_;exact rA (show s+1+i=s+(i+1) by lia) rfl
theorem tR(low n:Nat):bS (iG low n)=(Fh 0 n).map λk=>Lv (wd (low+k)):=by
 rw [bS,iG];refine rA E_ ?_;refine rA Lx ?_;rfl
noncomputable def pB(mask:Nat):PyData→Bool
 | .tuple [.int k,_]=>iH mask k.toNat
 |_=>false
theorem ak7{w:PyData}:pB mask (.tuple [.int k,w])=iH mask k:=rfl
noncomputable def wB:PyData→PyData
 | .tuple [_,w]=>w
 |x=>x
theorem CR(low f mask:Nat):((cN 0 (bS (iG low f))).filter (pB mask)).map wB=bS ((gY low f mask).map wd):=by
 refine rA (tR _ _) ?_;refine rA (rM _ _ _ _) ?_;refine rA OG ?_;refine rA E_ ?_;rw [bS,gY];refine rA E_ ?_;refine rA E_ ?_;have e:(pB mask∘ λk:Nat=>Jy [.int ((0+k:Nat):Int),.str (wd (low+(0+k)))])=iH mask:=by
  funext k
  refine (?_:iH mask ((0+k:Nat):Int).toNat=_);refine rA (Fs _) ?_;exact rA (LB _) rfl
 refine rA e ?_;refine GN λk zz=>?_;refine (?_:Lv (wd (low+(0+k)))=_);refine rA (LB _) ?_;rfl
theorem U4{a:List Nat}(hf:f ρ μ=some (.d (.str (tS a)),μ))(hz:a.length≤100000)(h1:a≠[]→V=.d (.str (tS a)))(h2:a=[]→g ρ μ=some (V,μ)):ZC f g ρ μ=some (V,μ):=by
 have ht:kq (.d (.str (tS a))) μ=some ((a.length:Int) != 0):=by
  exact (f6 (rfl:Nv (.d (.str (tS a)))=none)).trans ((f6 (rfl:jM (.d (.str (tS a)))=none)).trans ((f6 (rfl:OM (.d (.str (tS a)))=none)).trans ((oV (rfl:mA (.d (.str (tS a)))=some _) rfl).trans ((if_pos (by rw [eD];exact aa hz)).trans (by rw [eD])))))
 refine (b5 hf).trans ((bV ht).trans ?_);cases a with
 |nil=>exact h2 rfl
 |cons c a=>
  rw [show (((c::a).length:Int) != 0)=true from bne_iff_ne.mpr (by rw [AH];lia)];exact congrArg (λV=>some (V,μ)) (h1 (by simp)).symm
theorem o3:∀ (es:List (Nat×Nat)) (l:List Nat),di l es=[]∨(di l es).length=l.length
 | [],l=>.inr rfl
 | (a,b)::es,l=>by
  rw [di]
  split
  ·exact .inl rfl
  ·rcases o3 es (l.map λx=>if x=l.getD b 0 then l.getD a 0 else x) with h|h
   ·exact .inl h
   ·exact .inr (h.trans (xP ..))
theorem R9(l:List Nat):nL l=iL (l.map λ(n:Nat)=>(n:Int)):=by simp [nL,iL]
theorem J2(a b:List Nat)(μ:List ah):dK (.d (.list (nL a))) (.d (.list (nL b))) μ=some (a==b):=by
 refine rA (R9 _) ?_;refine rA (R9 _) ?_;refine rA (B3 _ _ _) ?_
 congr 1
 refine rA (propext (PU)) ?_;refine rA (propext (beq_iff_eq)) ?_;refine rA (propext (beq_iff_eq)) ?_;constructor
 ·intro h
  have:=congrArg (List.map Int.toNat) h
  simpa [E_,N0] using this
 ·rintro rfl;rfl
theorem Sa(a b:List Nat)(μ:List ah):pe (.d (.list (nL a))) (.d (.list (nL b))) μ=some (!(a==b)):=by
 exact bV (J2 _ _ _)
theorem Gz(a:Nat):∀n,n6 (nL [a]) n=nL (Hp n a)
 |0=>rfl
 |n+1=>by rw [n6];refine rA (Gz a n) ?_;rfl
theorem BQ:∀ (a:Nat) (l:List Nat),((l==Hp l.length a)=l.all (· ==a))
 |a,[]=>rfl
 |a,b::l=>by
  refine rA AH ?_;refine rA NE ?_;refine rA List.cons_beq_cons ?_;refine rA (BQ a l) ?_;exact rA Mp rfl
theorem Vx{l:List Nat}(h:a9 i ρ μ=some (.d (.list (nL l)),μ))(hz:l.length≤100):
  si (dZ (a9 i) (aU []) pe) (dZ (a9 i) (aj (cg (a9 i) b9 (aL (kI 1))) (af [(a9 i)] dC) la) dK) ρ μ=some (.d (.bool (Xe l)),μ):=by
 have h1:dZ (a9 i) (aU []) pe ρ μ=some (.d (.bool (!(l==[]))),μ):=gZ h tL (Sa l [] μ);have hn:(nL l).length=l.length:=by simp [nL]
 cases l with
 |nil=>exact (pw (c:=false) (μ2:=μ) h1 (λq=>by cases q)).trans rfl
 |cons a l=>
  have a1:cg (a9 i) b9 (aL (kI 1)) ρ μ=some (.d (.list (nL [a])),μ):=by
   have:=f5 (f:=a9 i) (p:=b9) (q:=aL (kI 1)) (ρ:=ρ) (μ:=μ) (lo:=none) (hi:=some ((1:Nat):Int)) h rfl (dG (x:=1) rfl) (by refine rA hn ?_;exact aa (by lia))
   refine rA this ?_;refine rA (p8 _ (by rw [hn,AH];lia)) ?_;rfl
  have a2:=gG (f:=a9 i) h rfl (by refine rA hn ?_;exact aa (by lia));rw [hn] at a2
  have a3:=AE a1 a2 (by
   refine rA (Fs _) ?_;refine rA (Int.natAbs_natCast _) ?_;simp only [AH] at hz⊢
   simp only [nL,xP,AH,EZ];lia)
  rw [Fs,Gz] at a3
  have h2:=gZ h a3 (J2 (a::l) (Hp (a::l).length a) μ);refine (pw h1 (λzz=>h2)).trans ?_;refine rA (if_pos (by rfl)) ?_;refine rA (BQ _ _) ?_;rfl
noncomputable def XO(low f mask:Nat)(w:List Nat):Bool:=(gN low f mask).any λu=>u==w
theorem zb{f:Nat}(hl:low<13)(hf:f<6)(hm:mask<2^f)(hk:k<f):XO low f mask (wq (low+k))=iH mask k:=by
 have:=AP.mp (AP.mp (AP.mp (AP.mp VJ low (D2.mpr hl)) f (D2.mpr hf)) mask (D2.mpr hm)) k (D2.mpr hk)
 rw [beq_iff_eq] at this
 exact this
noncomputable def Y4(low f mask:Nat):PyData→PyData
 | .tuple [.str w,.tuple [_,nd,a,b]]=>.tuple [nd,if XO low f mask w.cps.toList then b else a]
 |x=>x
theorem Br(low f mask:Nat):∀ (J:List Jn) (s:Nat),(∀k,s≤k→k<s+J.length→XO low f mask (wq (low+k))=iH mask k)→
  (mN ((Fh s J.length).map λk=>Lv (wd (low+k))) (jL J)).map (Y4 low f mask)=eL (sU (mask/2^s) J)
 | [],s,_=>rfl
 |y::J,s,h=>by
  have ih:=Br low f mask J (s+1) (λk h1 h2=>h k (by lia) (by refine rA AH ?_;lia));have h0:=h s (Dj s) (by refine rA AH ?_;lia);refine rA AH ?_;refine rA Rw ?_;refine rA F9 ?_
  show Y4 low f mask (.tuple [.str (wd (low+s)),y.enc])::(mN ((Fh (s+1) J.length).map λk=>Lv (wd (low+k))) (jL J)).map (Y4 low f mask)=_
  refine rA ih ?_;refine rA (Q2 _ _) ?_;refine rB (RH _ _ _) ?_;rw [sU]
  have:Y4 low f mask (.tuple [.str (wd (low+s)),y.enc])=.tuple [.int y.nd,.int ((if mask/2^s%2=1 then y.b else y.a:Nat):Int)]:=by
   refine (?_:Jy [.int y.nd,if XO low f mask (wd (low+s)).cps.toList then .int y.b else .int y.a]=_);refine rA (Za _) ?_;refine rA (fY _) ?_;refine rA h0 ?_;unfold iH
   by_cases q:mask/2^s%2=1
   ·refine rA (if_pos q) ?_;exact rA (if_pos (by rw [q];rfl)) rfl
   ·refine rA (if_neg q) ?_;exact rA (if_neg (by rw [beq_iff_eq];exact q)) rfl
  refine rA this ?_;rfl
theorem Cc:∀ (J:List Jn) (k:Nat) {p:Nat×Nat},p∈sU k J→∃y∈J,p.1=y.nd∧(p.2=y.a∨p.2=y.b)
 | [],_,_,h=>by cases h
 |y::J,k,p,h=>by
  rcases Cp.mp h with rfl|h
  ·refine (cL y (by simp) rfl ?_)
   dsimp only
   split
   ·exact .inr rfl
   ·exact .inl rfl
  ·refine au (Cc J (k/2) h) λz hz e=>?_
   exact (aZ z (by simp [hz]) e)
theorem Gp{f:Nat}{h:EF}(hl:low<13)(hf:f<6)(hm:mask<2^f)(hk:k<f)(h1:g ρ μ=some (.d (.str (wd (low+k))),μ))(h2:h ρ μ=some (.d (.str (eS low f mask)),μ)):o0 g h ", " ρ μ=some (iH mask k,μ):=by
 refine dW (pV hl hf hm) λw1 w2 w3=>?_;have hp:=r5 (gN low f mask) w1 (λw hw=>(w3 w hw).2.2.1);have hs:=An (gN low f mask) w1 (λw hw=>(w3 w hw).2.2.1);have hlen:=Kr hl hf hm;have hc:La (((gN low f mask).map tS).map .str)=true:=(kH (n:=0) λx hx=>by
  refine au (Dc.mp hx) λt ht zq2=>?_;subst zq2;refine au (Dc.mp ht) λw hw zq2=>?_;subst zq2;exact ip (w3 w hw).1).1
 have ho:TQ (wd (low+k))=true:=(ip (n:=0) (BR (k:=low+k) (by lia)).1).1;have he:((((gN low f mask).map tS).map Lv).any λy=>Mv y (.str (wd (low+k))))=iH mask k:=by
  refine rB (zb hl hf hm hk) ?_;rw [XO];refine rA List.any_map ?_;refine rA List.any_map ?_
  congr 1
  funext u
  refine (?_:(tS u==tS (wq (low+k)))=_);refine rA (HI _ _) ?_;refine rA (propext (PU)) ?_;refine rA (propext (decide_eq_true_iff)) ?_;refine rA (propext (beq_iff_eq)) ?_;exact eq_comm
 refine (b5 h1).trans ((bV rfl).trans ((b5 h2).trans ((bV rfl).trans ?_)));have key:∀X:Str,X=tS (cG (gN low f mask))→(if X.length≤sizeLine∧(Od X (Lz X hH 0 X.length (X.length+1)) hH.length).length≤sizeLine∧La ((PP X hH).map .str)=true∧TQ (wd (low+k))=true then some (((PP X hH).map Lv).any λy=>Mv y (.str (wd (low+k))),μ) else none)=some (iH mask k,μ):=by
  rintro X rfl
  refine rA hp ?_;refine rA hs ?_;refine rA he ?_;exact rA (if_pos (ll (by rw [eD];exact aa (by lia)) (by rw [xP];exact aa (by lia)) hc ho)) rfl
 exact key _ rfl
theorem ab6(hf:f ρ μ=some (.d (.list xs),μ))(hg:g ρ μ=some (.d (.list ys),μ)):c9 [f,g] ln ρ μ=some (mN xs ys,none,μ):=by
 exact (b5 (yk hf hg)).trans rfl
theorem MQ(xs ys:List PyData){z:PyData}(h:z∈mN xs ys):∃ (i:Nat) (x y:PyData),xs[i]? =some x∧ys[i]? =some y∧z=.tuple [x,y]:=
 bP (iE h) λi e=>xH e λx y h1 h2 h3=>p9 i x y h1 h2 h3
theorem O1(xs ys:List PyData):(mN xs ys).length≤xs.length:=SN▸Uk ..
noncomputable def bL(T:List Bool):List PyData:=T.map .bool
def oJ(low f mask:Nat):PyData:=.tuple [.str (eS low f mask),.str (eS low f mask)]
theorem DR{f:Nat}(hl:low<13)(hf:f<6)(hm:mask<2^f):Good (oJ low f mask):=dO (n:=0) (Gy hl hf hm) (by decide)
noncomputable def Fd(L:List Nat)(J:List Jn)(mask:Nat):List Nat:=if L=[] then [] else di L (sU mask J)
abbrev IK:SF:=(ap (cb 28 (af [(aj (a9 27) (aj (kI 2) (a9 5) (aS gk)) la)] cO)) (ap (cj (eg (a9 12) (cW [(a9 28),(ZC (dx (kS ", ") [(ce lS (c9 [(a9 25)] g9) (jh 31 32) (c_ (bB (aj (aj (a9 27) (aj (kI 2) (a9 31) (aS gk)) (aS cP)) (kI 2) (aS cu)) (kI 1) dK) (aY (a9 32))))] fc) (kS "0x0"))]))) (ap (ga 29 kF (c9 [(a9 25),(a9 21)] ln) (jh 31 32) (c_ bg (aY (cW [(aF (a9 32) (kI 1)),(dw (o0 (a9 31) (a9 28) ", ") (aF (a9 32) (kI 3)) (aF (a9 32) (kI 2)))]))) false) (ap (cb 30 (dw (bB (a9 23) (aU []) pe) (af [(a9 23),(a9 29)] df) (aU []))) (ap (cj (eg (a9 26) (si (dZ (a9 30) (aU []) pe) (dZ (a9 30) (aj (cg (a9 30) b9 (aL (kI 1))) (af [(a9 30)] dC) la) dK)))) aP)))))
section
variable {f:Nat} {L:List Nat}
theorem Y3(x:cZ)(hl:low<13)(hf:f<6)(hm:mask<2^f):cb 28 (af [(aj (a9 27) (aj (kI 2) (a9 5) (aS gk)) la)] cO) ({x with low:=some (.d (.int low)),mask:=some (.d (.int mask))}).loc μ=
  some (.next,({x with low:=some (.d (.int low)),mask:=some (.d (.int mask)),said:=some (.d (.str (eS low f mask)))}).loc,μ):=by
 let ρ:=({x with low:=some (.d (.int low)),mask:=some (.d (.int mask))}:cZ).loc
 have h:aj (a9 27) (aj (kI 2) (a9 5) (aS gk)) la ρ μ=some (.d (.int ((mask:Int)*2^low)),μ):=tQ rfl (jP rfl (by lia)) (I_ (by lia));exact (bO (d6 h (Nc hl hf hm))).trans rfl
theorem YY(x:cZ)(hl:low<13)(hf:f<6)(hm:mask<2^f)(hc:μ[2]? =some (.live X))(hz:X.length≤10000):cj (eg (a9 12) (cW [(a9 28),(ZC (dx (kS ", ") [(ce lS (c9 [(a9 25)] g9) (jh 31 32) (c_ (bB (aj (aj (a9 27) (aj (kI 2) (a9 31) (aS gk)) (aS cP)) (kI 2) (aS cu)) (kI 1) dK) (aY (a9 32))))] fc) (kS "0x0"))])) ({x with asked:=some (.c 2),words:=some (.d (.list (bS (iG low f)))),mask:=some (.d (.int mask)),said:=some (.d (.str (eS low f mask)))}).loc μ=
  some (.next,({x with asked:=some (.c 2),words:=some (.d (.list (bS (iG low f)))),mask:=some (.d (.int mask)),said:=some (.d (.str (eS low f mask)))}).loc,μ.set 2 (.live (X++[oJ low f mask]))):=by
 let ρ:=({x with asked:=some (.c 2),words:=some (.d (.list (bS (iG low f)))),mask:=some (.d (.int mask)),said:=some (.d (.str (eS low f mask)))}:cZ).loc
 have h32:=BF hf;have hcm:=pM (sc:=lS) (itf:=c9 [(a9 25)] g9) (t:=bB (aj (aj (a9 27) (aj (kI 2) (a9 31) (aS gk)) (aS cP)) (kI 2) (aS cu)) (kI 1) dK) (e:=a9 32) (ρ:=ρ) (μ:=μ) 31 32 (by decide) (pB mask) wB
  (jZ (V:=.d (.list (bS (iG low f)))) rfl rfl) (az _ _) (λy hy=>by
   rw [tR,rM] at hy
   refine au (Dc.mp hy) λk hk zq2=>?_;subst zq2;have hk5:=D2.mp hk;have hb:=AP.mp (AP.mp OF mask (D2.mpr (by lia))) k (D2.mpr (by lia));rw [Fe,beq_iff_eq,decide_eq_true_iff] at hb
   refine (dy _ _ rfl ?_ (λzz=>rfl));refine rA (LB _) ?_;refine (oh (y:=1) (cX (cX (x:=mask) rfl (jP (y:=k) rfl (by lia)) (k_ hb.2)) rfl (fk (by decide))) rfl).trans ?_;refine rA hb.1 ?_;exact congrArg (λb=>some (b,μ)) ak7.symm) (by refine rA (ix _ _) ?_;exact aa (by simp [bS,iG];lia))
 rw [CR] at hcm
 have hsl:(gY low f mask).length≤5:=by
  have:=HA (iH mask) (zC f)
  rw [J4] at this
  simp only [gY,xP];lia
 have hws:=uN (gY low f mask);have hj:=tM (sep:=", ") (bY hcm) rfl (by
  refine rA (xP _) ?_;refine rA (show (", ":Str).length=2 from by decide) ?_;lia)
 have e0:(gY low f mask).map wd=((gY low f mask).map wq).map tS:=by rw [E_];rfl
 have ej:LA ", " ((gY low f mask).map wd)=tS (cG ((gY low f mask).map wq)):=by refine rA e0 ?_;exact qB _
 rw [ej] at hj
 have hlen:=lJ ((gY low f mask).map wq) (λw hw=>by
  refine au (Dc.mp hw) λk hk zq2=>?_;subst zq2;exact (BR (by have:=zO hk;lia)).2.2.2)
 rw [xP] at hlen
 have ho:=U4 (g:=kS "0x0") (V:=.d (.str (eS low f mask))) hj (by lia) (λhne=>by
  unfold eS gN;exact rA (if_neg (λq=>hne (by rw [(mx low hf hm).mpr q];rfl))) rfl) (λhe=>by
  have:gY low f mask=[]:=by
   apply Classical.byContradiction;intro hne;exact Dr _ (λq=>hne (O4.mp q)) (λw hw=>by
    refine au (Dc.mp hw) λk hk zq2=>?_;subst zq2;exact (BR (by have:=zO hk;lia)).2.1) he
  have:=(mx low hf hm).mp this
  unfold eS gN;refine rA (if_pos this) ?_;rfl)
 exact o6 rfl (d8 (ds:=[.str (eS low f mask),.str (eS low f mask)]) (an rfl (an ho bX)) (aa (xM rfl))) hc (by lia)
theorem ae1(x:cZ)(hl:low<13)(hf:f<6)(hm:mask<2^f)(hJ:J.length=f):ga 29 kF (c9 [(a9 25),(a9 21)] ln) (jh 31 32) (c_ bg (aY (cW [(aF (a9 32) (kI 1)),(dw (o0 (a9 31) (a9 28) ", ") (aF (a9 32) (kI 3)) (aF (a9 32) (kI 2)))]))) false ({x with forks:=some (.d (.list (jL J))),words:=some (.d (.list (bS (iG low f)))),said:=some (.d (.str (eS low f mask)))}).loc μ=
  some (.next,({x with forks:=some (.d (.list (jL J))),words:=some (.d (.list (bS (iG low f)))),said:=some (.d (.str (eS low f mask))),chosen:=some (.d (.list (eL (sU mask J))))}).loc,μ):=by
 let ρ:=({x with forks:=some (.d (.list (jL J))),words:=some (.d (.list (bS (iG low f)))),said:=some (.d (.str (eS low f mask)))}:cZ).loc
 have hcm:=sN (sc:=kF) (itf:=c9 [(a9 25),(a9 21)] ln) (e:=cW [(aF (a9 32) (kI 1)),(dw (o0 (a9 31) (a9 28) ", ") (aF (a9 32) (kI 3)) (aF (a9 32) (kI 2)))]) (ρ:=ρ) (μ:=μ) 31 32 (by decide) (Y4 low f mask)
  (ab6 (xs:=bS (iG low f)) (ys:=jL J) rfl rfl) (az _ _) (λz hz=>by
   refine jy (MQ _ _ hz) λk a b h1 h2 zq5=>?_;subst zq5;have hk:k<J.length:=by
    have:=(AX.mp h2).1
    simpa [jL] using this
   have ea:a=.str (wd (low+k)):=by
    rw [bS,iG,E_,GW,NZ (by lia)] at h1
    exact (Fi h1).symm
   obtain ⟨y,hy,rfl⟩:∃y:Jn,J[k]? =some y∧b=y.enc:=by
    rw [jL,GW] at h2
    refine au (Iq.mp h2) λy hy e=>?_;exact (aZ y hy e.symm)
   subst ea;refine (fV _ _ rfl ?_);have hs:=Gp (g:=a9 31) (h:=a9 28) (ρ:=((bG kF ρ).set 31 (some (.d (.str (wd (low+k)))))).set 32 (some (.d y.enc))) (μ:=μ) hl hf hm (by lia) rfl rfl;refine (d8 (ds:=[.int y.nd,if iH mask k then .int y.b else .int y.a]) (an (ae3 rfl) (an (lk hs (λhb=>?_) (λhb=>?_)) bX)) (aa (xM rfl))).trans ?_
   ·refine rA (if_pos hb) ?_;exact am1 rfl
   ·refine rA (if_neg (by rw [hb];exact HJ)) ?_;exact ap3 rfl
   ·refine (?_:_=some (AV.d (Jy [.int y.nd,if XO low f mask (wd (low+k)).cps.toList then .int y.b else .int y.a]),μ))
    refine rA (Za _) ?_;refine rA (fY _) ?_;exact rA (zb hl hf hm (by lia)) rfl) (L2 (O1 _ _) (aa (by simp [bS,iG];lia)))
 have e:=Br low f mask J 0 (λk zz hk=>zb hl hf hm (by lia));rw [TU,Nat.div_one,hJ,←tR] at e
 rw [e] at hcm
 exact (jq hcm).trans rfl
theorem OQ(hL:L.length≤100):(Fd L J mask).length≤100:=by
 unfold Fd
 split
 ·simp
 ·rcases o3 (sU mask J) L with h|h
  ·refine rA h ?_;simp
  ·lia
theorem Ye(x:cZ)(hL:L.length≤100)(hb:L≠[]→∀y∈J,y.nd<L.length∧y.a<L.length∧y.b<L.length):cb 30 (dw (bB (a9 23) (aU []) pe) (af [(a9 23),(a9 29)] df) (aU [])) ({x with labels:=some (.d (.list (nL L))),chosen:=some (.d (.list (eL (sU mask J))))}).loc μ=
  some (.next,({x with labels:=some (.d (.list (nL L))),chosen:=some (.d (.list (eL (sU mask J)))),joined:=some (.d (.list (nL (Fd L J mask))))}).loc,μ):=by
 let ρ:=({x with labels:=some (.d (.list (nL L))),chosen:=some (.d (.list (eL (sU mask J))))}:cZ).loc
 have ht:bB (a9 23) (aU []) pe ρ μ=some (!(L==[]),μ):=dH (V:=.d (.list (nL L))) rfl tL (Sa L [] μ);have h:dw (bB (a9 23) (aU []) pe) (af [(a9 23),(a9 29)] df) (aU []) ρ μ=some (.d (.list (nL (Fd L J mask))),μ):=by
  refine lk ht (λq=>?_) (λq=>?_)
  ·have hne:L≠[]:=by
    rintro rfl
    exact absurd q (by decide)
   unfold Fd;refine rA (if_neg hne) ?_;refine iN (V:=.d (.list (nL L))) (V':=.d (.list (eL (sU mask J)))) rfl rfl (s72 (by lia) (λp hp=>?_));refine cq (Cc J mask hp) λy hy e1 e2=>?_
   have:=hb hne y hy
   refine rA e1 ?_
   rcases e2 with e2|e2<;>rw [e2]<;>lia
  ·have he:L=[]:=by
    cases L with
    |nil=>rfl
    |cons a l=>exact absurd q (by simp)
   unfold Fd;refine rA (if_pos he) ?_;exact tL
 exact (bO h).trans rfl
theorem ad7(x:cZ){T:List Bool}(hL:L.length≤100)(hT:T.length≤1000)(hc:μ[jt]? =some (.live (bL T))):cj (eg (a9 26) (si (dZ (a9 30) (aU []) pe) (dZ (a9 30) (aj (cg (a9 30) b9 (aL (kI 1))) (af [(a9 30)] dC) la) dK))) ({x with trees:=some (.c jt),joined:=some (.d (.list (nL (Fd L J mask))))}).loc μ=
  some (.next,({x with trees:=some (.c jt),joined:=some (.d (.list (nL (Fd L J mask))))}).loc,μ.set jt (.live (bL (T++[j7 L J mask])))):=by
 refine (eB (gw (j:=jt) (d:=.bool (j7 L J mask)) (xs:=bL T) rfl (Vx (l:=Fd L J mask) rfl (OQ hL)) hc (by rw [bL];refine rA (xP _) ?_;exact aa (by lia)))).trans ?_
 simp [bL]
theorem Dd(x:cZ){T:List Bool}{sd ch jo:Option AV}(hl:low<13)(hf:f<6)(hm:mask<2^f)(hJ:J.length=f)(hL:L.length≤100)(hb:L≠[]→∀y∈J,y.nd<L.length∧y.a<L.length∧y.b<L.length)(hj:jt≠2)(hc:μ[2]? =some (.live X))(hz:X.length≤10000)(hT:T.length≤1000)(hct:μ[jt]? =some (.live (bL T))):
  IK ({x with low:=some (.d (.int low)),asked:=some (.c 2),forks:=some (.d (.list (jL J))),labels:=some (.d (.list (nL L))),words:=some (.d (.list (bS (iG low f)))),trees:=some (.c jt),mask:=some (.d (.int mask)),said:=sd,chosen:=ch,joined:=jo}).loc μ=
   some (.next,({x with low:=some (.d (.int low)),asked:=some (.c 2),forks:=some (.d (.list (jL J))),labels:=some (.d (.list (nL L))),words:=some (.d (.list (bS (iG low f)))),trees:=some (.c jt),mask:=some (.d (.int mask)),said:=some (.d (.str (eS low f mask))),chosen:=some (.d (.list (eL (sU mask J)))),joined:=some (.d (.list (nL (Fd L J mask))))}).loc,(μ.set 2 (.live (X++[oJ low f mask]))).set jt (.live (bL (T++[j7 L J mask])))):=by
 let y:cZ:= {x with low:=some (.d (.int low)),asked:=some (.c 2),forks:=some (.d (.list (jL J))),labels:=some (.d (.list (nL L))),words:=some (.d (.list (bS (iG low f)))),trees:=some (.c jt),mask:=some (.d (.int mask)),said:=sd,chosen:=ch,joined:=jo}
 let y1:cZ:= {y with said:=some (.d (.str (eS low f mask)))}
 let y2:cZ:= {y1 with chosen:=some (.d (.list (eL (sU mask J))))}
 let y3:cZ:= {y2 with joined:=some (.d (.list (nL (Fd L J mask))))}
 refine (aB (ρ1:=y1.loc) (Y3 y hl hf hm)).trans ?_;refine (aB (ρ1:=y1.loc) (YY y1 hl hf hm hc hz)).trans ?_;refine (aB (ρ1:=y2.loc) (ae1 y1 hl hf hm hJ)).trans ?_;refine (aB (ρ1:=y3.loc) (Ye y2 hL hb)).trans ?_;exact (aB (ρ1:=y3.loc) (ad7 y3 hL hT (by rw [Lw (MO hj)];exact hct))).trans bK
end
theorem al1(μ:List ah)(hj:j≠2)(a b c d:ah):(((μ.set 2 a).set j b).set 2 c).set j d=(μ.set 2 c).set j d:=by
 refine rA (Rb b c hj) ?_;refine rA (HQ _) ?_;exact rA (HQ _) rfl
theorem sC(x:cZ){f:Nat}{L:List Nat}(xs:List PyData)(hl:low<13)(hf:f<6)(hJ:J.length=f)(hL:L.length≤100)(hb:L≠[]→∀y∈J,y.nd<L.length∧y.a<L.length∧y.b<L.length)(hj:jt≠2):∀ (n s:Nat) (X:List PyData) (T:List Bool) (μ:List ah) (mk sd ch jo:Option AV),s+n≤2^f→μ[2]? =some (.live X)→X.length+n≤10000→T.length+n≤1000→μ[jt]? =some (.live (bL T))→∃mk' sd' ch' jo',
  fX (dz 27) IK aP none xs ((Fh s n).map λ(i:Nat)=>Fa (i:Int)) ({x with low:=some (.d (.int low)),asked:=some (.c 2),forks:=some (.d (.list (jL J))),labels:=some (.d (.list (nL L))),words:=some (.d (.list (bS (iG low f)))),trees:=some (.c jt),mask:=mk,said:=sd,chosen:=ch,joined:=jo}).loc μ=
   some (.next,({x with low:=some (.d (.int low)),asked:=some (.c 2),forks:=some (.d (.list (jL J))),labels:=some (.d (.list (nL L))),words:=some (.d (.list (bS (iG low f)))),trees:=some (.c jt),mask:=mk',said:=sd',chosen:=ch',joined:=jo'}).loc,(μ.set 2 (.live (X++(Fh s n).map (oJ low f)))).set jt (.live (bL (T++(Fh s n).map (j7 L J)))))
 |0,s,X,T,μ,mk,sd,ch,jo,_,hc,_,_,hct=>(yl mk sd ch jo (by
  simp only [List.range'_zero,M3,D8];refine rA (eF hc) ?_;refine rA (eF hct) ?_;rfl))
 |n+1,s,X,T,μ,mk,sd,ch,jo,hs,hc,hz,hT,hct=>by
  have h2:2<μ.length:=(AX.mp hc).1;have h3:jt<μ.length:=(AX.mp hct).1;have hbd:=Dd (mask:=s) x (sd:=sd) (ch:=ch) (jo:=jo) hl hf (by lia) hJ hL hb hj hc (by lia) (by lia) hct;refine Iu (sC x xs hl hf hJ hL hb hj n (s+1) (X++[oJ low f s]) (T++[j7 L J s]) ((μ.set 2 (.live (X++[oJ low f s]))).set jt (.live (bL (T++[j7 L J s])))) (some (.d (.int s))) (some (.d (.str (eS low f s)))) (some (.d (.list (eL (sU s J))))) (some (.d (.list (nL (Fd L J s))))) (by lia) (by rw [Lw hj];exact cB h2) (by simp;lia) (by simp;lia) (cB (by refine rA LD ?_;exact h3))) λmk' sd' ch' jo' e=>?_;refine (yl mk' sd' ch' jo' ?_);refine rA Rw ?_;refine rA F9 ?_;refine rA F9 ?_;refine rA F9 ?_;refine (dP (ρ1:=({x with low:=some (.d (.int low)),asked:=some (.c 2),forks:=some (.d (.list (jL J))),labels:=some (.d (.list (nL L))),words:=some (.d (.list (bS (iG low f)))),trees:=some (.c jt),mask:=some (.d (.int s)),said:=sd,chosen:=ch,joined:=jo}:cZ).loc) rfl hbd (az _ _)).trans (e.trans ?_);refine rA (al1 μ hj _ _ _ _) ?_;refine rA (ER _ _ _) ?_;refine rA (ER _ _ _) ?_;rfl
theorem am6(x:cZ){L:List Nat}(hl:low<13)(hf:J.length<6)(hL:L.length≤100)(hb:L≠[]→∀y∈J,y.nd<L.length∧y.a<L.length∧y.b<L.length)(hj:jt≠2)(hc:μ[2]? =some (.live X))(hz:X.length≤1000)(hct:μ[jt]? =some (.live [])):∃mk' sd' ch' jo',
  oc ({x with low:=some (.d (.int low)),asked:=some (.c 2),forks:=some (.d (.list (jL J))),labels:=some (.d (.list (nL L))),words:=some (.d (.list (bS (iG low J.length)))),trees:=some (.c jt)}).loc μ=
   some (.next,({x with low:=some (.d (.int low)),asked:=some (.c 2),forks:=some (.d (.list (jL J))),labels:=some (.d (.list (nL L))),words:=some (.d (.list (bS (iG low J.length)))),trees:=some (.c jt),mask:=mk',said:=sd',chosen:=ch',joined:=jo'}).loc,(μ.set 2 (.live (X++(zC (2^J.length)).map (oJ low J.length)))).set jt (.live (bL ((zC (2^J.length)).map (j7 L J))))):=by
 let ρ:=({x with low:=some (.d (.int low)),asked:=some (.c 2),forks:=some (.d (.list (jL J))),labels:=some (.d (.list (nL L))),words:=some (.d (.list (bS (iG low J.length)))),trees:=some (.c jt)}:cZ).loc
 have h32:=BF hf;have h2:=gG (f:=a9 21) (ρ:=ρ) (μ:=μ) (V:=.d (.list (jL J))) (xs:=jL J) rfl rfl (by rw [jL];refine rA (xP _) ?_;exact aa (by lia));rw [jL,xP] at h2
 have h3:af [(aj (kI 2) (af [(a9 21)] dC) (aS gk))] cJ ρ μ=some (.rng (0:Nat) (2^J.length:Nat),μ):=d6 (jP h2 (by lia)) (by
  refine (?_:some (AV.rng 0 (2^J.length),μ)=_);refine rA (show ((2:Int)^J.length)=((2^J.length:Nat):Int) by simp) ?_;rfl)
 have hi:=r6 h3 (by decide) (by lia);have e0:((zC (2^J.length-0)).map λ(i:Nat)=>Fa ((0+i:Nat):Int))=(Fh 0 (2^J.length)).map λ(i:Nat)=>Fa (i:Int):=by
  refine rA (Sc _) ?_;refine rB Lx ?_;refine GN λi zz=>?_;exact rA (LB _) rfl
 rw [e0] at hi
 refine Iu (sC x ((Fh 0 (2^J.length)).map λ(i:Nat)=>Fa (i:Int)) hl hf rfl hL hb hj (2^J.length) 0 X [] μ x.mask x.said x.chosen x.joined (by lia) hc (by lia) (by simp;lia) hct) λmk' sd' ch' jo' e=>?_;refine (yl mk' sd' ch' jo' ?_);rw [←Lx,Lr] at e
 rw [←Lx] at hi
 unfold oc;refine rA (gM hi) ?_;exact e
theorem al8:wd 31="0x80000000":=by decide+kernel
noncomputable def mJ(low f r:Nat):List Str:=iG low f++[wd 31]++(if r=3 then [] else [hx (((r:Int)-3)*2^32)])
def Ja(low f r:Nat):PyData:=.tuple [.str (LA ", " (mJ low f r)),.str (LA ", " (mJ low f r))]
theorem DZ(low f r:Nat):Good (Ja low f r):=(fV _ _ rfl (λμ=>by
 refine (?_:some (LA ", " (mJ low f r)==LA ", " (mJ low f r))=_);exact rA (beq_self_eq_true _) rfl))
theorem uH{r:Nat}(hr:r<5):(hx (((r:Int)-3)*2^32)).length≤1000:=of_decide_eq_true (AP.mp Ul r (D2.mpr hr))
theorem VO{f r:Nat}(hl:low<13)(hf:f<6)(hr:r<5):cO [.d (.int ((2^f-1)*2^low+2^31+((r:Int)-3)*2^32))] μ=some (.d (.str (LA ", " (mJ low f r))),μ):=by
 have h:=AP.mp (AP.mp (AP.mp Mw f (D2.mpr hf)) low (D2.mpr hl)) r (D2.mpr hr);rw [beq_iff_eq] at h
 have e:KO ((zC f).map (λk=>low+k)++[31]) (if r=3 then none else some (((r:Int)-3)*2^32))=mJ low f r:=by
  unfold mJ iG
  by_cases q:r=3
  ·refine rA (if_pos q) ?_;refine rA (if_pos q) ?_
   simp only [KO,JV,E_,D8,F9,M3];rfl
  ·refine rA (if_neg q) ?_;refine rA (if_neg q) ?_
   simp only [KO,JV,E_,F9,M3];rfl
 refine rB e ?_;refine ZD h (λfl' q=>?_)
 split at q
 ·exact cv q
 ·refine cA q ?_;exact uH hr
theorem NN(low f:Nat):iG low f=((zC f).map λk=>low+k).map wd:=by rw [iG];refine rA E_ ?_;rfl
theorem IM{r:Nat}:(((r:Int)-3)*2^32=0)↔r=3:=by
 refine rA (show (2:Int)^32=4294967296 by decide) ?_;lia
theorem rn(a b:List Str):bS (a++b)=bS a++bS b:=by simp [bS]
theorem aq1(x:cZ){f r:Nat}(hl:low<13)(hf:f<6)(hr:r<5)(hc:μ[2]? =some (.live X))(hz:X.length≤1000):
  ot ({x with far:=some (.d (.int (((r:Int)-3)*2^32))),beyond:=some (.d (.list (iL [(2^f-1)*2^low+2^31]))),asked:=some (.c 2),words:=some (.d (.list (bS (iG low f))))}).loc μ=
   some (.next,({x with far:=some (.d (.int (((r:Int)-3)*2^32))),beyond:=some (.d (.list (iL [(2^f-1)*2^low+2^31]))),asked:=some (.c 2),words:=some (.d (.list (bS (iG low f))))}).loc,μ.set 2 (.live (X++[Ja low f r]))):=by
 let ρ:=({x with far:=some (.d (.int (((r:Int)-3)*2^32))),beyond:=some (.d (.list (iL [(2^f-1)*2^low+2^31]))),asked:=some (.c 2),words:=some (.d (.list (bS (iG low f))))}:cZ).loc
 have a1:af [(a9 11)] vQ ρ μ=some (.d (.int ((2^f-1)*2^low+2^31)),μ):=by
  have:=zf (f:=a9 11) (ρ:=ρ) (μ:=μ) (l:=[(2^f-1)*2^low+2^31]) rfl
  refine rA this ?_;refine rA PA ?_;refine rA Sb ?_;exact rA (Int.add_zero _) rfl
 have a2:aj (af [(a9 11)] vQ) (a9 6) aT ρ μ=some (.d (.int ((2^f-1)*2^low+2^31+((r:Int)-3)*2^32)),μ):=cU a1 rfl;have a3:=d6 a2 (VO hl hf hr);have hwl:(bS (iG low f)).length=f:=by simp [bS,iG]
 have b1:aj (a9 25) (aU [(kS "0x80000000")]) aT ρ μ=some (.d (.list (bS (iG low f++[wd 31]))),μ):=by
  refine rA (rn _ _) ?_;exact cT (V:=.d (.list (bS (iG low f)))) rfl (jW (qp al8.symm)) rfl rfl (aa (by refine rA hwl ?_;show f+1≤100000;lia))
 have b2:dw (bB (a9 6) (kI 0) pe) (aU [(af [(a9 6)] oY)]) (aU []) ρ μ=some (.d (.list (bS (if r=3 then [] else [hx (((r:Int)-3)*2^32)]))),μ):=by
  refine lk (neI (x:=((r:Int)-3)*2^32) (y:=0) rfl rfl) (λq=>?_) (λq=>?_)
  ·have hne:¬r=3:= λe=>by
    rw [IM.mpr e] at q
    exact absurd q (by decide)
   refine rA (if_neg hne) ?_;exact jW (uU rfl (uH hr))
  ·have he:r=3:=by
    rw [Bool.not_eq_false',beq_iff_eq] at q
    exact IM.mp q
   refine rA (if_pos he) ?_;exact tL
 have b3:=cT b1 b2 rfl rfl (aa (by
  refine rA (rn _ _) ?_;refine rA be ?_;refine rA hwl ?_
  split<;>simp [bS]<;>lia))
 rw [←rn] at b3
 have hs:=uN ((zC f).map λk=>low+k);rw [←NN,xP,J4] at hs
 have h31:(wd 31).length≤20:=by
  have:=(JX 31).1
  rwa [←eD] at this
 have hxl:=uH hr;have b4:=tM (sep:=", ") b3 rfl (by
  refine rA (show (", ":Str).length=2 from by decide) ?_;have hwf:(iG low f).length=f:=by simp [iG]
  split
  ·simp only [JV,S9,be,F9,M3,PA,Sb,AH,EZ,hwf];lia
  ·simp only [JV,S9,be,F9,M3,PA,Sb,AH,EZ,hwf];lia)
 have h:=d8 (ds:=[.str (LA ", " (mJ low f r)),.str (LA ", " (mJ low f r))]) (an a3 (an b4 bX)) (aa (xM rfl));unfold ot;exact o6 rfl h hc (by lia)
theorem Eb:∀T:List Bool,La (bL T)=true:= λT=>(kH (n:=0) λx hx=>by
 refine au (Dc.mp hx) λb zz zq2=>?_;subst zq2;exact jc).1
theorem UB(T:List Bool):((bL T).any λy=>Mv y (.bool false))= !T.all id:=by
 induction T with
 |nil=>rfl
 |cons b T ih=>
  show (Mv (.bool b) (.bool false)||(bL T).any λy=>Mv y (.bool false))=_
  refine rA ih ?_;refine rA Mp ?_;cases b with
  |true=>rfl
  |false=>rfl
theorem Gj{T:List Bool}(hct:μ[jt]? =some (.live (bL T))):lO (.d (.bool false)) (.c jt) μ=some (T.all id):=by
 have:WG (.d (.bool false)) (.c jt) μ=some (!T.all id):=by
  exact (f6 (rfl:mA (.d (.bool false))=none)).trans ((oV (rfl:vd (.d (.bool false))=some _) (eP hct)).trans ((if_pos ⟨Eb T,(jc (n:=0)).shaped (by decide)⟩).trans (congrArg some (UB _))))
 exact (bV this).trans (congrArg some (Bool.not_not _))
theorem ao1(x:cZ){T:List Bool}{b:Bool}(hc:μ[2]? =some (.live X))(hz:X.length≤10000)(hX:∀y∈X,Good y)(hct:μ[jt]? =some (.live (bL T)))(hb:T.all id=b):
  n8 ({x with asked:=some (.c 2),proof:=some (.d (.bool b)),trees:=some (.c jt)}).loc μ=some (.ret (.d (.bool true)),({x with asked:=some (.c 2),proof:=some (.d (.bool b)),trees:=some (.c jt)}).loc,μ):=by
 let ρ:=({x with asked:=some (.c 2),proof:=some (.d (.bool b)),trees:=some (.c jt)}:cZ).loc
 have hp:dc μ (.c 2)=some X:=eP hc;have hcm:=jf (sc:=pt) (itf:=aK false (a9 12)) (t:=bB (aF (a9 31) (kI 0)) (aF (a9 31) (kI 1)) pe) (e:=a9 31) (ρ:=ρ) (μ:=μ) (g:=F7 (.c 2)) (xs:=X) 31 (λzz=>false) id (d9 (V:=.c 2) rfl hp) (pj hp) (λy hy=>by
  refine kc (hX y hy) λa c zq2 h=>?_;subst zq2;refine dH (V:=.d a) (W:=.d c) (cI (k:=0) (V:=.d (.tuple [a,c])) rfl rfl rfl (by decide) rfl (aa (xM rfl))) (cI (k:=1) (V:=.d (.tuple [a,c])) rfl rfl rfl (by decide) rfl (aa (xM rfl))) ?_;exact bV (h μ)) (λzz zz zz=>rfl) (aa (by lia))
 have e0:(X.filter λzz=>false).map id=[]:=by simp
 rw [e0] at hcm
 have h1:dZ (ce pt (aK false (a9 12)) (dz 31) (c_ (bB (aF (a9 31) (kI 0)) (aF (a9 31) (kI 1)) pe) (aY (a9 31)))) (aU []) dK ρ μ=some (.d (.bool true),μ):=gZ (bY hcm) tL (J2 [] [] μ);have h2:dZ (kB false) (a9 26) lO ρ μ=some (.d (.bool b),μ):=gZ (V:=.d (.bool false)) (W:=.c jt) rfl rfl ((Gj hct).trans (by exact rA hb rfl));have h3:dZ (a9 18) (dZ (kB false) (a9 26) lO) dK ρ μ=some (.d (.bool true),μ):=gZ (V:=.d (.bool b)) rfl h2 (by
  refine (?_:some (b==b)=_);exact rA (beq_self_eq_true _) rfl)
 unfold n8;exact ee ((pw h1 (λzz=>h3)).trans rfl)
theorem V6{a b:Int}(ha:0≤a)(hb:b≤63):(sliceRange a b 6).length≤100000:=by
 unfold sliceRange;simp only [xP,J4];refine rA (if_pos (by decide)) ?_
 split<;>lia
theorem Ua(xs:List Int)(h:xs.length≤63)(k:Int):(iM xs (some k) (some 60) (some 6)).length≤100000:=by
 refine L2 (IG ..) (V6 ?_ ?_)
 ·refine (?_:(0:Int)≤if (6:Int)>0 then max 0 (min (if k<0 then k+xs.length else k) xs.length) else max (-1) (min (if k<0 then k+xs.length else k) ((xs.length:Int)-1)))
  refine rA (if_pos (by decide)) ?_;exact Int.le_max_left ..
 ·refine (?_:(if (6:Int)>0 then max (0:Int) (min (if (60:Int)<0 then (60:Int)+(xs.length:Int) else 60) (xs.length:Int)) else max (-1:Int) (min (if (60:Int)<0 then (60:Int)+(xs.length:Int) else 60) ((xs.length:Int)-1)))≤63)
  refine rA (if_pos (by decide)) ?_;lia
theorem Bg(h:μ[j]? =some c):j<μ.length:=(AX.mp h).1
abbrev V_:SF:=(ap mZ (ap np (ap nE (ap oa (ap ox (ap mX (ap n5 (ap nq (ap m_ (ap nA (ap nF (ap nI (ap nk (ap nG (ap o4 (ap ni (ap oc (ap ot (ap n8 aP)))))))))))))))))))
theorem Zl(x:cZ){T:Int}{G:List Fm}(hcs:cs.length=6)(hG:bJ G=Fh 0 6)(ht:G.length+g8 T=6)(hc:μ[2]? =some (.live X))(hX:∀y∈X,Good y)(hz:X.length≤200):∃ρ' μ',
  V_ ({x with cells:=some (.d (.list (iL cs))),total:=some (.d (.int T)),mates:=some (.d (.list (nL (aH.getD (er T) [])))),numbers:=some (.d (.list (iL (db (aH.getD (er T) []) G++[0])))),low:=some (.d (.int (jr T))),far:=some (.d (.int (Ef T))),read:=some (.d (.list (bh (aH.getD (er T) []) G++[Jy []]))),beyond:=some (.d (.list (iL [rP G T]))),asked:=some (.c 2)}).loc μ=some (.ret (.d (.bool true)),ρ',μ'):=by
 have hi:=tT T;have hm:=l_ hi;have htn:=mw T;have h6:(bJ G).length=6:=by refine rA hG ?_;rfl
 have hgl:=l5 G 0;have hpl:=pY (aH.getD (er T) []) G;have hnet:=Tt (i:=er T) (G:=G) hi hG (by lia) (by lia);have hbal:=BN hi;have hlow:=tu T;have hfar:=OJ T;generalize er T=i at*
 have hp6:∀p∈bJ G,p<6:= λp hp=>by
  rw [hG] at hp
  have:=P7.mp hp
  lia
 have hbd:=H_ G 0 hp6;have hJl:(eK G 0).length≤5:=by lia
 have hfl:=HA (·.par) (eK G 0);have hfl5:((eK G 0).filter (·.par)).length<6:=by lia
 
 let x12:cZ:= {x with cells:=some (.d (.list (iL cs))),total:=some (.d (.int T)),mates:=some (.d (.list (nL (aH.getD i [])))),numbers:=some (.d (.list (iL (db (aH.getD i []) G++[0])))),low:=some (.d (.int (jr T))),far:=some (.d (.int (Ef T))),read:=some (.d (.list (bh (aH.getD i []) G++[Jy []]))),beyond:=some (.d (.list (iL [rP G T]))),asked:=some (.c 2)}
 let x13:cZ:= {x12 with units:=some (.d (.list (uL (uW (aH.getD i []) cs))))}
 let x14:cZ:= {x13 with text:=some (.d (.str (tS (xT (aH.getD i []) cs))))}
 let x15:cZ:= {x14 with shorn:=some (.d (.str (tS (vT (aH.getD i []) cs))))}
 have e12:mZ x12.loc μ=some (.next,x13.loc,μ):=ap8 x12 _ cs μ hm hcs;have e13:np x13.loc μ=some (.next,x14.loc,μ):=al5 x13 _ cs μ;have e14:nE x14.loc μ=some (.next,x15.loc,μ):=ap6 x14 _ cs μ hm hcs;refine eE λGG kG=>?_;obtain ⟨μ15,e15,hc15⟩:∃μ',oa x15.loc μ=some (.next,x15.loc,μ')∧μ'[2]? =some (.live (X++[m8 (aH.getD i []) cs])):=(aZ _ (aq0 x15 _ cs X μ hc (by lia)) (cB (Bg hc)));obtain ⟨X15,hX15⟩:∃Z,Z=X++[m8 (aH.getD i []) cs]:=⟨_,rfl⟩;refine kG ?_;rw [←hX15] at hc15
 have hg15:∀y∈X15,Good y:= λy hy=>by
  rw [hX15,AF,AA] at hy
  rcases hy with hy|rfl
  ·exact hX y hy
  ·exact Hx _ _
 have hl15:X15.length≤201:=by refine rA hX15 ?_;simp;lia
 refine eE λGG kG=>?_;obtain ⟨μ16,e16,hc16⟩:∃μ',ox x15.loc μ15=some (.next,x15.loc,μ')∧μ'[2]? =some (.live (X15++[lX (aH.getD i []) cs])):=(aZ _ (am0 x15 _ cs X15 μ15 hc15 (by lia)) (cB (Bg hc15)));obtain ⟨X16,hX16⟩:∃Z,Z=X15++[lX (aH.getD i []) cs]:=⟨_,rfl⟩;refine kG ?_;rw [←hX16] at hc16
 have hg16:∀y∈X16,Good y:= λy hy=>by
  rw [hX16,AF,AA] at hy
  rcases hy with hy|rfl
  ·exact hg15 y hy
  ·exact FL _ _
 have hl16:X16.length≤202:=by refine rA hX16 ?_;simp;lia
 refine eE λGG kG=>?_;obtain ⟨μ17,e17,hc17⟩:∃μ',mX x15.loc μ16=some (.next,x15.loc,μ')∧μ'[2]? =some (.live (X16++[my (aH.getD i [])])):=(aZ _ (aq7 x15 _ cs G X16 μ16 hG (by lia) hc16 (by lia)) (cB (Bg hc16)));obtain ⟨X17,hX17⟩:∃Z,Z=X16++[my (aH.getD i [])]:=⟨_,rfl⟩;refine kG ?_;rw [←hX17] at hc17
 have hg17:∀y∈X17,Good y:= λy hy=>by
  rw [hX17,AF,AA] at hy
  rcases hy with hy|rfl
  ·exact hg16 y hy
  ·exact Gx _
 have hl17:X17.length≤203:=by refine rA hX17 ?_;simp;lia
 refine eE λGG kG=>?_;obtain ⟨μ18,e18,hc18⟩:∃μ',n5 x15.loc μ17=some (.next,x15.loc,μ')∧μ'[2]? =some (.live (X17++[jQ])):=(aZ _ (ao8 x15 _ cs X17 μ17 hbal.1 hc17 (by lia)) (by
  rw [Fb (by rw [LD];exact Bg hc17)];exact cB (Bg hc17)))
 obtain ⟨X18,hX18⟩:∃Z,Z=X17++[jQ]:=⟨_,rfl⟩;refine kG ?_;rw [←hX18] at hc18
 have hg18:∀y∈X18,Good y:= λy hy=>by
  rw [hX18,AF,AA] at hy
  rcases hy with hy|rfl
  ·exact hg17 y hy
  ·exact Io
 have hl18:X18.length≤204:=by refine rA hX18 ?_;simp;lia
 refine eE λGG kG=>?_;refine cq (aq3 x15 i cs G X18 μ18 hi hcs hG hc18 (by lia)) λY hY hYl e19'=>?_
 let x20:cZ:= {x15 with proof:=some (.d (.bool (pr (aH.getD i []) 12 G)))}
 obtain ⟨μ19,e19,hc19⟩:∃μ',nq x15.loc μ18=some (.next,x20.loc,μ')∧μ'[2]? =some (.live (X18++Y)):=(aZ _ e19' (cB (Bg hc18)));obtain ⟨X19,hX19⟩:∃Z,Z=X18++Y:=⟨_,rfl⟩;refine kG ?_;rw [←hX19] at hc19
 have hg19:∀y∈X19,Good y:= λy hy=>by
  rw [hX19,AF] at hy
  rcases hy with hy|hy
  ·exact hg18 y hy
  ·exact hY y hy
 have hl19:X19.length≤504:=by refine rA hX19 ?_;refine rA be ?_;lia
 refine eE λGG kG=>?_;obtain ⟨μ20,jn,e20,hc20,hj20,hjn⟩:∃μ' jn,m_ x20.loc μ19=some (.next,({x20 with joins:=some (.c jn)}:cZ).loc,μ')∧μ'[2]? =some (.live X19)∧μ'[jn]? =some (.live [])∧jn≠2:=(ub _ _ (ao3 x20 μ19) (by
  rw [Fb (Bg hc19)];exact hc19) dq (by have:=Bg hc19;lia))
 let x21:cZ:= {x20 with joins:=some (.c jn)}
 refine bP (al3 x21 (aH.getD i []) G jn μ20 hj20 hG) λw e21'=>?_
 let x22:cZ:= {x21 with formula:=w}
 obtain ⟨μ21,e21,hc21,hj21⟩:∃μ',nA x21.loc μ20=some (.next,x22.loc,μ')∧μ'[2]? =some (.live X19)∧μ'[jn]? =some (.live (jL (eK G 0))):=(cL _ e21' (by
  rw [Lw hjn];exact hc20) (cB (Bg hj20)))
 let x23:cZ:= {x22 with forks:=some (.d (.list (jL ((eK G 0).filter (·.par)))))}
 let x24:cZ:= {x23 with start:=some (.d (.list (nL (start (aH.getD i []) (eK G 0).length))))}
 let x25:cZ:= {x24 with labels:=some (.d (.list (nL (di (start (aH.getD i []) (eK G 0).length) (ii (eK G 0))))))}
 let x26:cZ:= {x25 with names:=some (.d (.list (bS rV)))}
 let x27:cZ:= {x26 with words:=some (.d (.list (bS (iG (jr T) ((eK G 0).filter (·.par)).length))))}
 have e22:nF x22.loc μ21=some (.next,x23.loc,μ21):=an7 x22 (eK G 0) jn μ21 hj21 (by lia);have e23:nI x23.loc μ21=some (.next,x24.loc,μ21):=an5 x23 _ (eK G 0) jn μ21 hm hj21 (by lia);have e24:nk x24.loc μ21=some (.next,x25.loc,μ21):=ar1 x24 _ (eK G 0) jn μ21 hj21 (by lia) (λy hy=>by have:=hbd y hy;lia);have e25:nG x25.loc μ21=some (.next,x26.loc,μ21):=ap0 x25 μ21;have e26:o4 x26.loc μ21=some (.next,x27.loc,μ21):=an2 x26 _ (jr T) μ21 hlow (by lia);obtain ⟨μ27,jt,e27,hc27,hj27,hjt⟩:∃μ' jt,ni x27.loc μ21=some (.next,({x27 with trees:=some (.c jt)}:cZ).loc,μ')∧μ'[2]? =some (.live X19)∧μ'[jt]? =some (.live [])∧jt≠2:=(ub _ _ (an3 x27 μ21) (by
  rw [Fb (Bg hc21)];exact hc21) dq (by have:=Bg hc21;lia))
 refine kG ?_
 let x28:cZ:= {x27 with trees:=some (.c jt)}
 have hLl:=o3 (ii (eK G 0)) (start (aH.getD i []) (eK G 0).length);rw [nJ] at hLl
 have hL100:(di (start (aH.getD i []) (eK G 0).length) (ii (eK G 0))).length≤100:=by
  rcases hLl with q|q
  ·refine rA q ?_;simp
  ·lia
 refine eE λGG kG=>?_;obtain ⟨mk,sd,ch,jo,e28'⟩:=am6 x28 (low:=jr T) (jt:=jt) (L:=di (start (aH.getD i []) (eK G 0).length) (ii (eK G 0))) (J:=(eK G 0).filter (·.par)) (X:=X19) (μ:=μ27) hlow hfl5 hL100 (λhne y hy=>by
  have hy':=hbd y (Ov.mp hy).1
  rcases hLl with q|q
  ·exact absurd q hne
  ·lia) hjt hc27 (by lia) hj27
 let x29:cZ:= {x28 with mask:=mk,said:=sd,chosen:=ch,joined:=jo}
 obtain ⟨X28,hX28⟩:∃Z,Z=X19++(zC (2^ ((eK G 0).filter (·.par)).length)).map (oJ (jr T) ((eK G 0).filter (·.par)).length):=⟨_,rfl⟩;refine kG ?_;rw [←hX28] at e28'
 refine eE λGG kG=>?_;obtain ⟨μ28,e28,hc28,hj28⟩:∃μ',oc x28.loc μ27=some (.next,x29.loc,μ')∧μ'[2]? =some (.live X28)∧μ'[jt]? =some (.live (bL ((zC (2^ ((eK G 0).filter (·.par)).length)).map (j7 (di (start (aH.getD i []) (eK G 0).length) (ii (eK G 0))) ((eK G 0).filter (·.par)))))):=(cL _ e28' (by
  rw [Lw hjt];exact cB (Bg hc27)) (cB (by refine rA LD ?_;exact Bg hj27)))
 have hg28:∀y∈X28,Good y:= λy hy=>by
  rw [hX28,AF] at hy
  rcases hy with hy|hy
  ·exact hg19 y hy
  ·refine au (Dc.mp hy) λk hk zq2=>?_
   subst zq2;exact DR hlow hfl5 (D2.mp hk)
 have hl28:X28.length≤600:=by
  have:=BF hfl5
  refine rA hX28 ?_;refine rA be ?_;refine rA (xP _) ?_;refine rA J4 ?_;lia
 obtain ⟨μ29,e29,hc29,hj29⟩:∃μ',ot x29.loc μ28=some (.next,x29.loc,μ')∧μ'[2]? =some (.live (X28++[Ja (jr T) ((eK G 0).filter (·.par)).length (GS T)]))∧μ'[jt]? =some (.live (bL ((zC (2^ ((eK G 0).filter (·.par)).length)).map (j7 (di (start (aH.getD i []) (eK G 0).length) (ii (eK G 0))) ((eK G 0).filter (·.par)))))):=(cL _ (aq1 x29 hlow hfl5 hfar hc28 (by lia)) (cB (Bg hc28)) (by
  rw [Lw (MO hjt)];exact hj28))
 refine kG ?_;have e30:n8 x29.loc μ29=some (.ret (.d (.bool true)),x29.loc,μ29):=ao1 x29 (jt:=jt) (T:=(zC (2^ ((eK G 0).filter (·.par)).length)).map (j7 (di (start (aH.getD i []) (eK G 0).length) (ii (eK G 0))) ((eK G 0).filter (·.par)))) (b:=pr (aH.getD i []) 12 G) hc29 (by refine rA be ?_;simp;lia) (λy hy=>by
  rw [AF,AA] at hy
  rcases hy with hy|rfl
  ·exact hg28 y hy
  ·exact DZ _ _ _) hj29 (by
  refine rB hnet ?_;refine rA List.all_map ?_;rfl)
 exact (jK _ _ ((aB e12).trans ((aB e13).trans ((aB e14).trans ((aB e15).trans ((aB e16).trans ((aB e17).trans ((aB e18).trans ((aB e19).trans ((aB e20).trans ((aB e21).trans ((aB e22).trans ((aB e23).trans ((aB e24).trans ((aB e25).trans ((aB e26).trans ((aB e27).trans ((aB e28).trans ((aB e29).trans (cV e30))))))))))))))))))))
theorem plain_law(xs:List Int)(h:xs.length≤63):∃ρ' μ',Wr (cE (ao (ay 73)) [.d (.list (xs.map Fa))]) []=some (.ret (.d (.bool true)),ρ',μ'):=by
 refine eE λGG kG=>?_;refine au (st0 {} xs [] h (Ua xs h)) λcs hcs e0'=>?_;obtain ⟨T,hT⟩:∃T,T=cs.sum:=⟨_,rfl⟩;have hi:=tT T;have hm:=l_ hi
 let x0:cZ:= {script:=some (.d (.list (iL xs)))}
 let x1:cZ:= {x0 with cells:=some (.d (.list (iL cs)))}
 let x2:cZ:= {x1 with total:=some (.d (.int T))}
 let x3:cZ:= {x2 with mates:=some (.d (.list (nL (aH.getD (er T) []))))}
 have e0:vS x0.loc []=some (.next,x1.loc,[]):=e0';have e1:w4 x1.loc []=some (.next,x2.loc,[]):=by
  have:=st1 x1 cs []
  rw [←hT] at this
  exact this
 have e2:vU x2.loc []=some (.next,x3.loc,[]):=st2 x2 T [];refine cq (st3 x3 cs T (aH.getD (er T) []) [] hcs hm) λG hG ht e3'=>?_;have htn:=mw T;have h6:(bJ G).length=6:=by refine rA hG ?_;rfl
 have hgl:=l5 G 0;have hpl:=pY (aH.getD (er T) []) G;have hnf:nf G≤5:=by
  have:=HA (·.par) (eK G 0)
  unfold nf;lia
 obtain ⟨N,hN⟩:∃N,N=db (aH.getD (er T) []) G++[0]:=⟨_,rfl⟩;have hNl:N.length≤13:=by
  refine rA hN ?_;refine rA be ?_;refine (?_:_+1≤13);lia
 refine kc (zK (cs:=cs) (T:=T) (m:=aH.getD (er T) []) (G:=G) hnf) λos1 p hR hr=>?_
 let x4:cZ:= {x3 with numbers:=some (.d (.list (iL (db (aH.getD (er T) []) G++[0]))))}
 let x5:cZ:= {x4 with low:=some (.d (.int (jr T))),far:=some (.d (.int (Ef T)))}
 let x6:cZ:= {x5 with great:=some (.d (.int (rP G T)))}
 let x7:cZ:= {x6 with tape:=some (.c 0)}
 let x8:cZ:= {x7 with told:=some (.c 1)}
 let x9:cZ:= {x8 with read:=some (.d (.list (bh (aH.getD (er T) []) G++[Jy []])))}
 let x10:cZ:= {x9 with beyond:=some (.d (.list (iL [rP G T])))}
 let x11:cZ:= {x10 with asked:=some (.c 2)}
 have e3:xJ x3.loc []=some (.next,x4.loc,[]):=e3';have e4:xy x4.loc []=some (.next,x5.loc,[]):=st4 x4 T [];have e5:xA x5.loc []=some (.next,x6.loc,[]):=st5 x5 T _ G [] (by lia) (by lia);have e6:xI x6.loc []=some (.next,x7.loc,[.iter (iL (th cs T (db (aH.getD (er T) []) G++[0]++[rP G T])))]):=st6 x6 cs _ T (rP G T) [] hcs (by refine rB hN ?_;lia);have e7:xv x7.loc [.iter (iL (th cs T (db (aH.getD (er T) []) G++[0]++[rP G T])))]=some (.next,x8.loc,iz (th cs T (db (aH.getD (er T) []) G++[0]++[rP G T])) []):=st7 x7 _;have e8:Bz x8.loc (iz (th cs T (db (aH.getD (er T) []) G++[0]++[rP G T])) [])=some (.next,x9.loc,iz os1 (db (aH.getD (er T) []) G++[0])):=st8 x8 T _ G _ os1 hG ht hR;have e9:xh x9.loc (iz os1 (db (aH.getD (er T) []) G++[0]))=some (.next,x10.loc,iz [] (db (aH.getD (er T) []) G++[0])):=st9 x9 T (rP G T) p os1 _ hr;have e10:pZ x10.loc (iz [] (db (aH.getD (er T) []) G++[0]))=some (.next,x11.loc,IN (db (aH.getD (er T) []) G++[0]) (qL (db (aH.getD (er T) []) G++[0]) (rP G T))):=ar3 x10 _ (rP G T);refine lz (al9 x11 (db (aH.getD (er T) []) G++[0]) (rP G T) T (qL (db (aH.getD (er T) []) G++[0]) (rP G T)) (IN (db (aH.getD (er T) []) G++[0]) (qL (db (aH.getD (er T) []) G++[0]) (rP G T))) (by refine rB hN ?_;lia) rfl rfl (by simp [qL])) λsy te e11'=>?_
 let x12:cZ:= {x11 with symbol:=sy,tests:=te}
 obtain ⟨μ11,e11,hc11⟩:∃μ',qo x11.loc (IN (db (aH.getD (er T) []) G++[0]) (qL (db (aH.getD (er T) []) G++[0]) (rP G T)))=some (.next,x12.loc,μ')∧μ'[2]? =some (.live (qL (db (aH.getD (er T) []) G++[0]) (rP G T)++(zg (db (aH.getD (er T) []) G++[0]) (rP G T) T).map xW)):=(aZ _ e11' (cB (by simp [IN])));obtain ⟨ρ',μ',e⟩:=Zl x12 hcs hG ht hc11 (λy hy=>by
  rw [AF] at hy
  rcases hy with hy|hy
  ·simp only [qL,Cp,Ew,or_false] at hy
   rcases hy with rfl|rfl
   ·exact dO (n:=1) (rI _) (by decide)
   ·exact dO (n:=1) (rI _) (by decide)
  ·refine au (Dc.mp hy) λs zz zq2=>?_
   subst zq2;exact Ge s) (by
  refine rA be ?_;refine rA (xP _) ?_;rw [zg];refine rB hN ?_
  simp [qL]
  lia)
 refine kG ?_;refine (jK ρ' μ' ?_);refine (?_:Wr x0.loc []=_);unfold Wr;exact (aB e0).trans ((aB e1).trans ((aB e2).trans ((aB e3).trans ((aB e4).trans ((aB e5).trans ((aB e6).trans ((aB e7).trans ((aB e8).trans ((aB e9).trans ((aB e10).trans ((aB e11).trans e)))))))))))
end Mine
open PySem PySem.W PyProof.Rows PySem.Calls
theorem PySem.Challenge.cw_tc0015_01_holds : PySem.Challenge.rw_tc0015_01.Holds :=
  Mine.hd2 (by
  intro w s₀ s₁ mg mb G Y fa o pm cd doc dV kV ho hd hcd hD hmg hg args vals as hpre hlay hrd hwl hlo;have X : Mine.YI mg s₁.heap := Ground.X G;refine Ground.open G ?_;intro T B D TE TW
  wrow_args hpre hlay hrd hwl hlo
  rename Well _ _ (Value.ref _) (ofPy (PyData.list (List.map PyData.int _))) => hw
  rename ¬ ((63 : Int) < _) => hlen
  rename List Int => xs
  clear hd hD hcd G
  let C : Mine.gL := { prog := Mine.RR.prog, w := w, B := s₁.heap, os := s₁.os, mg := mg, mb := mb, g := T.g, b := T.b, bt := T.builtins, nolim := T.nolimit }
  have hlaw : Mine.dp C "law" 73 := Mine.fnAt_of (C := C) T 73 "law" ∅
  have F : Mine.R1 C := ⟨Mine.fnAt_of (C := C) T 1 "_iter_escaped_chars" ∅, Mine.fnAt_of (C := C) T 2 "_strip_quoted_realnames" ∅, Mine.fnAt_of (C := C) T 3 "_check_parenthesis" ∅, Mine.fnAt_of (C := C) T 4 "_pre_parse_validation" ∅, Mine.fnAt_of (C := C) T 7 "pretty_flags" ∅, Mine.fnAt_of (C := C) T 8 "_parse_varint" ∅, Mine.fnAt_of (C := C) T 61 "ISTERMINAL" ∅, Mine.fnAt_of (C := C) T 62 "ISNONTERMINAL" ∅, Mine.fnAt_of (C := C) T 63 "ISEOF" ∅, Mine.fnAt_of (C := C) T 65 "_law_numbers" ∅, Mine.fnAt_of (C := C) T 66 "_law_octets" ∅, Mine.fnAt_of (C := C) T 67 "_law_units" ∅, Mine.fnAt_of (C := C) T 68 "_law_formula" ∅, Mine.fnAt_of (C := C) T 69 "_law_beyond" ∅, Mine.fnAt_of (C := C) T 70 "_law_proved" ∅, Mine.fnAt_of (C := C) T 71 "_law_graph" ∅, Mine.fnAt_of (C := C) T 72 "_law_joined" ∅⟩;have hno := Mine.noneOf (C := C) T (["len", "min", "range", "enumerate", "zip", "list", "sum", "iter", "next", "sorted", "isinstance", "hex", "int", "bool", "StopIteration"] : List Str) (by decide +kernel);have hm2 := Mine.mg_of2 X.2;have GG : Mine.cK C := ⟨hno, Mine.ext2 (C := C) Y hm2.1, Mine.cfn2 (C := C) Y hm2.2, Mine.constOf (C := C) T _ 256 ∅, Mine.constOf (C := C) T _ 0 ∅⟩;have hI : Mine.bl C [] [] [] s₁ := ⟨fun _ _ e => e, rfl, fun i a c e _ => by simp at e, List.nodup_nil, fun a h => by simp at h, fun a h => by simp at h, fun a h => by simp at h, fun a h => by simp at h, .of_eq hg, rfl⟩;obtain ⟨fa', o', pm', cd', doc', m1, m2, m3, m4⟩ := hlaw;obtain ⟨ρ', μ', hp⟩ := Mine.plain_law xs (by omega);have hfa : fa' = fa := by
    have := hmg;have m1' : mg "law" = some (.ref fa') := m1;rw [show Mine.dd.1.name = ("law" : Str) from ∅, m1'] at this
    cases this; rfl
  subst hfa;refine wpAny_mono (Mine.law_call (C := C) GG F m2 m3 m4 hI (Mine.well_list hw) hp) (fun v s' p => ?_) (fun _ _ x => x);obtain ⟨rfl, k1, k2, k3⟩ := p;refine ⟨.inl ⟨_, _, [], rfl, ?_, ReadsW.bool true, ?_, fun _ => ⟨List.nodup_nil, fun _ hm => (nomatch hm)⟩⟩, OldK.of_keep k1, k2, k3⟩
  · intro cls
    rfl
  · wrow_post)
