import PyProof.Rows.All
import Wide.All
import OpenK.AllK
import Wide.FinOn
import PySem.Challenge.RW_tc0015_01
set_option Elab.async false
set_option maxRecDepth 100000
set_option maxHeartbeats 8000000
set_option linter.all false
set_option tactic.hygienic false
noncomputable section
local macro_rules | `(∅) => `(by kernel_rfl)
open List renaming length_append→be,length_map→xO,mem_append_left→ye,range→zt,mem_singleton→Aq,mem_append→AE,length_cons→AH,all_eq_true→Bw,getElem?_eq_some_iff→BW,mem_cons→Cc,mem_append_right→CR,mem_cons_of_mem→D1,mem_range→D3,append_nil→DO,mem_map→DT,not_mem_nil→Er,append_assoc→Eu,length_nil→EZ,map_map→E_,map_cons→F7,getElem?_append_left→F9,range'→Ff,take_of_length_le→Fn,flatMap_cons→Fs,getElem?_eq_getElem→Ft,mem_cons_self→FI,map_congr_left→FO,mem_of_getElem?→FW,getElem?_map→G1,length_singleton→Gb,flatten_cons→GA,replicate→GW,getElem?_eq_none_iff→GZ,length_filter_le→Hf,set_set→HA,getElem?_append_right→Jo,length_range→Js,map_append→Kf,nodup_cons→Ku,filter_cons→KT,filter_append→L4,cons_append→L7,length_range'→Lk,mem_flatMap→Lm,length_replicate→Lr,nil_append→Ls,getElem?_set_ne→Lw,range_eq_range'→Lx,length_set→LF,flatten_append→LM,range_succ_eq_map→LP,getD_eq_getElem?_getD→LR,length_take→LU,take_length→LW,flatten_nil→LX,take_append_drop→L_,map_nil→M3,pairwise_iff_getElem→M4,filterMap_cons_some→M6,find?_cons→Mb,all_cons→Mm,getElem?_zipWith_eq_some→Mn,take_append_of_le_length→Mq,drop_eq_nil_of_le→My,getElem?_set_self→MF,pairwise_cons→MJ,contains_eq_mem→N8,nodup_nil→Nb,drop_eq_getElem_cons→Ni,mem_of_find?_eq_some→Nr,lookup_cons→Nu,drop_append→Nz,replicate_succ→NA,length→NE,filterMap_cons→NR,getElem?_range→O4,map_eq_nil_iff→O6,getElem?_cons_succ→Oc,mem_filter→Ow,mem_filterMap→OA,length_eq_zero_iff→OC,filter_map→OD,size_toArray→P2,mem_range'_1→P7,take_left→Pb,lookup_cons_self→Pi,getElem?_eq_none→Po,sum_cons→PB,mem_map_of_mem→PI,set_cons_succ→Q2,getElem?_drop→Qe,drop_left→Qq,sublist_append_right→Qu,getElem?_set→Qz,filterMap_cons_none→QB,nodup_append→QJ,getElem?_take_of_lt→QK,getElem?_replicate→Re,set_comm→Rn,map_take→Rs,length_drop→Ry,range'_succ→RB,getElem_cons_drop→RN,zipWith→RU,singleton_append→S7,sum_append→S9,sum_nil→Sa,all_append→Se,set_append_left→Sw,drop_zero→SG,length_zipWith→SL,set_cons_zero→S_,drop→Th,map_drop→Tm,all_eq_false→TJ,ext_getElem?→TS,map_id'→U7,mem_flatten→Ug,isEmpty_iff→Uh,getElem_mem→Ui,forIn_cons→Un,head?_drop→Uw,append_inj→UD,drop_drop→UK
open Nat renaming le_of_ble_eq_true→xM,le_refl→DU,le_add_right→Fu,add_sub_cancel_left→L0,le_trans→L3,zero_add→LC,zero_le→LL,le_of_not_lt→LS,ne_of_lt→LY,succ_ne_self→Nt,lt_of_lt_of_le→On,le_succ→P3,lt_succ_of_lt→P5,lor→Pr,ne_of_gt→Q5,pow_succ→Qf,beq→Qs,lt_trichotomy→QD,add_assoc→Ro,lt_succ_self→Rx,div_div_eq_div_mul→RK,min_eq_left→RX,sub_zero→Sd,pow_le_pow_right→Su,succ_eq_add_one→SV,le_of_eq→U2,pow_zero→U8,add_zero→U9,min_le_left→UA,two_pow_pos→UG,mod→Vn,succ→Vq
open PySem renaming wpAny_bind→yS,wpAny_mono→D2,wpAny_pure→ES,wpAny_newObj_type→HQ,wpAny_callSpecial?_slot→Ju,wpAny_execs_cons→KD,wpAny_field→L2,seg_execs_cons→L6,wpAny_holding→Ld,slot_listiter_next→Lf,wpAny_call_entry→Ll,wpAny_standAt→Lp,wpAny_specialOf→LG,wpAny_pyIter_list→M8,wpAny_Assign_Name→M9,wpAny_of_eq→Mf,wpAny_seqItems→Nd,wpAny_raiseNew_none→NH,wpAny_rule→O7,wpAny_updateSeq→Og,wpAny_setField_rec→Oj,wpAny_truthy_bool→P1,wpAny_setField→P8,wpAny_storeName_local→Ph,wpAny_pyIter_zip→Pp,wpAny_loadName_local→Ps,wpAny_pyNext_list_end→PE,entry_listiter_next→PV,wpAny_letOwnedTupleGo_enum→Q1,args_listiter_next→Qd,wpAny_letOwnedTupleGo_zip→Qk,slot_list_getitem→QA,wpAny_getItem_list_slice→QC,wpAny_pyIter_enum→QH,wpAny_assign_Name→QI,getMethod_builtin→QL,wpAny_list_append_plain→R5,Builtin→Rg,wpAny_isInstance→Rt,wpAny_pyNext_list_item→RC,wpAny_isTrue_Compare1→RO,wpAny_execs_nil→RY,seg_wrap→Sl,wpAny_newFunctionEnv→So,baseText→SB,isSubtype_stop→SE,isSubtype_type→SH,wpAny_letGo→SN,wpAny_onRaise→T3,wpAny_attempt→T5,seg_again→Us,wpAny_Name→UP,call_meets→UU
open PySem.Heap renaming get?_push_of_some→C5,get?_push_size→Dy,get?_update_self→Fw,SameBut→Lq,size_push→M5,lt_size→Me,ExtBut→P4,MadeExcOf→Qp,get?_update_other→RH,HeldW→TC,IsList→Uq,get?→Vj
open PySem.Builtin renaming bitAnd→D5,bitXor→Ja,bitOr→Mj
open Eq renaming symm→F6,trans→LO
open PySem.PyData renaming int→F8,tuple→Jy,canLayAll0→La,str→Lv,eqv→Mx,list→NV,canLay0→Qm,strOk→U3,depth→U4,depthAll→UH,eqvAll→Vf
open Bool renaming and_eq_true→Fd,false_ne_true→Hm,not_eq_true'→MW,false_eq_true→OB,false_or→PA,or_eq_true→PL,eq_iff_iff→PY,true_and→QX,not_true→Rp,not_false→UM,or_false→UZ
open PySem.Calls renaming Name_function_global→Fe,loadGlobal_global→Ln,loadGlobal_builtin→Lu,callWith_function→MV,docDef→O8,callWith_builtin→OZ,call_function_entry→PT,spliced_cons→RT,evalArgs_plain→Sy,spliced_nil→SJ
open Option.some renaming inj→Fh
open Int renaming fmod_nonneg_of_pos→Fp,toNat_natCast→Fq,fmod_lt_of_pos→IX,eq_ofNat_of_zero_le→Lh,toNat_of_nonneg→LN
open PySem.Builtin.Int renaming intBits→Hp
open Option renaming map_eq_some_iff→J4,bind_eq_some_iff→K_,elim→SQ
open PySem.Env renaming kindOf→Jz
open PySem.Builtin.Str renaming strSliceIndices→K4,occurrences→Lz,partsBetween→Ob,strSub→OE,strKind→SP
open PySem.F renaming slot_str_join→Kg,type_str_join→Kk,plain_extend_loop→NJ,slot_str_ascii_iterator_next→Pl,slot_list_extend→QE,slot_str_iterator_next→QO,plainAttrs_str→RD,slot_enumerate_next→RZ,entry_extend_loop→SO
open PySem.Str renaming ofString→Ks,cps_append→P9,join→Ul,ext'→Ve
open PySem.Builtin.Range renaming small→KB,rangeSize→Mi
open PySem.Builtin.SmallTypes renaming nextOf→L5,ownedTupleHandOut→Nf,ownedTupleIsFree→NB,stopIteration→OP
open PySem.Heap.SameBut renaming update→L9
open Array renaming getElem?_toList→Lc,getElem?_eq_some_iff→LQ,getElem?_setIfInBounds_ne→Ma,getElem?_eq_getElem→Nk,toList_append→PC,mem_toList_iff→Ss,find?_toList→Ti,toList_push→To
open PySem.Obj renaming data_mapFields→Lg,isFreed_of_fields→M0,mapSeq→M7,cls_mapFields→Tw
open PySem.Value renaming none→Lo,ref→LH,isInt→PW,isStrOf→QV,type→Tx,str→Vi
open PySem.Challenge renaming rw_tc0015_01→Ly,pw_tc0015_01→MI
open PySem.Txt renaming join→LA,split→PM
open PySem.Sem renaming bind_eq_wrap'→LD,wrap_wrap→N1,bind_eq_wrap→Ud,wrap→UY
open ForInStep renaming yield→LJ
open PySem.NameKind renaming free→LZ,cell→Oq
open Ne renaming symm→MP
open PySem.Builtin.List renaming listExtendWith→MQ,listTooLong→Qw,listSameRef→QR,listItems→RI
open Function renaming comp_def→N4
open PySem.Around renaming frames_deeper→Py,under_plainId→Sq
open PySem.Heap.IsSliceOf renaming new→Q3
open PyProof.Rows renaming assignInOrder_cons→Qa,MethodCall_→Q_,tail_any→Sj,slot_tuple_getitem→T1,assign_Tuple_tuple→Tc,Subscript_→Tn,isTrue_and→UT
open PySem.SeqAt renaming in_list_reads→Qg,shaped→Si,eqv_refl→UN
open PySem.Builtin.Generator renaming genWake→Qo
open List.Sublist renaming refl→QS,append→SR,nodup→Tg
open Prod.mk renaming injEq→QW
open PySem.Shared renaming heap→R9
open Classical renaming propDecidable→Ra,em→Vh
open PySem.Heap.UpToSlots renaming of_keeps→Rh
open PySem.StrLaws renaming partsBetween_eq→Rr,glued_eq_join→S8,At→Sm,partsFrom→TG
open PySem.Heap.IsList renaming push→Rw
open Prod renaming fst→Uj,snd→Uk
open And renaming intro→Ur
open List.cons renaming injEq→UC,inj→UV
open PySem.IsRange renaming new→Vm
namespace Mine
open PySem PySem.W PySem.Calls PyProof.Rows
universe u0 u1 u2 u3 u4 u5 u6 u7 u8 u9
section
variable{X0:Sort u0}{X1:Sort u1}{X2:Sort u2}{X3:Sort u3}{X4:Sort u4}{X5:Sort u5}{A0 A1 A2 A3 A4 A5 A6 A7 A8 A9 A10 A11 A12 A13 R G:Prop}
theorem f_(h:A0∧R)(k:A0→R→G):G:=by obtain ⟨h0,hr⟩:=h;exact k h0 hr
theorem dW(h:A0∧A1∧R)(k:A0→A1→R→G):G:=by obtain ⟨h0,h1,hr⟩:=h;exact k h0 h1 hr
theorem my(h:A0∧A1∧A2∧R)(k:A0→A1→A2→R→G):G:=by obtain ⟨h0,h1,h2,hr⟩:=h;exact k h0 h1 h2 hr
theorem iq(h:A0∧A1∧A2∧A3∧R)(k:A0→A1→A2→A3→R→G):G:=by obtain ⟨h0,h1,h2,h3,hr⟩:=h;exact k h0 h1 h2 h3 hr
theorem mG(h:A0∧A1∧A2∧A3∧A4∧A5∧R)(k:A0→A1→A2→A3→A4→A5→R→G):G:=by obtain ⟨h0,h1,h2,h3,h4,h5,hr⟩:=h;exact k h0 h1 h2 h3 h4 h5 hr
theorem IU{A5 R:X0→X1→Prop}(h:A0∧A1∧A2∧∃x0 x1,A5 x0 x1∧R x0 x1)(k:A0→A1→A2→∀x0 x1,A5 x0 x1→R x0 x1→G):G:=by obtain ⟨h0,h1,h2,x0,x1,h5,hr⟩:=h;exact k h0 h1 h2 x0 x1 h5 hr
theorem uF{R:X0→X1→Prop}(h:A0∧A1∧∃x0 x1,R x0 x1)(k:A0→A1→∀x0 x1,R x0 x1→G):G:=by obtain ⟨h0,h1,x0,x1,hr⟩:=h;exact k h0 h1 x0 x1 hr
theorem pF{R:X0→X1→X2→Prop}(h:A0∧A1∧∃x0 x1 x2,R x0 x1 x2)(k:A0→A1→∀x0 x1 x2,R x0 x1 x2→G):G:=by obtain ⟨h0,h1,x0,x1,x2,hr⟩:=h;exact k h0 h1 x0 x1 x2 hr
theorem y4{R:X0→Prop}(h:A0∧∃x0,R x0)(k:A0→∀x0,R x0→G):G:=by obtain ⟨h0,x0,hr⟩:=h;exact k h0 x0 hr
theorem iB{A2 R:X0→Prop}(h:A0∧∃x0,A2 x0∧R x0)(k:A0→∀x0,A2 x0→R x0→G):G:=by obtain ⟨h0,x0,h2,hr⟩:=h;exact k h0 x0 h2 hr
theorem SZ{A3 R:X0→X1→Prop}(h:A0∧∃x0 x1,A3 x0 x1∧R x0 x1)(k:A0→∀x0 x1,A3 x0 x1→R x0 x1→G):G:=by obtain ⟨h0,x0,x1,h3,hr⟩:=h;exact k h0 x0 x1 h3 hr
theorem NQ{A3 A4 R:X0→X1→Prop}(h:A0∧∃x0 x1,A3 x0 x1∧A4 x0 x1∧R x0 x1)(k:A0→∀x0 x1,A3 x0 x1→A4 x0 x1→R x0 x1→G):G:=by obtain ⟨h0,x0,x1,h3,h4,hr⟩:=h;exact k h0 x0 x1 h3 h4 hr
theorem CY{A4 A5 A6 R:X0→X1→X2→Prop}(h:A0∧∃x0 x1 x2,A4 x0 x1 x2∧A5 x0 x1 x2∧A6 x0 x1 x2∧R x0 x1 x2)(k:A0→∀x0 x1 x2,A4 x0 x1 x2→A5 x0 x1 x2→A6 x0 x1 x2→R x0 x1 x2→G):G:=by obtain ⟨h0,x0,x1,x2,h4,h5,h6,hr⟩:=h;exact k h0 x0 x1 x2 h4 h5 h6 hr
theorem bP{R:X0→Prop}(h:∃x0,R x0)(k:∀x0,R x0→G):G:=by obtain ⟨x0,hr⟩:=h;exact k x0 hr
theorem au{A1 R:X0→Prop}(h:∃x0,A1 x0∧R x0)(k:∀x0,A1 x0→R x0→G):G:=by obtain ⟨x0,h1,hr⟩:=h;exact k x0 h1 hr
theorem ct{A1 A2 R:X0→Prop}(h:∃x0,A1 x0∧A2 x0∧R x0)(k:∀x0,A1 x0→A2 x0→R x0→G):G:=by obtain ⟨x0,h1,h2,hr⟩:=h;exact k x0 h1 h2 hr
theorem eD{A1 A2 A3 R:X0→Prop}(h:∃x0,A1 x0∧A2 x0∧A3 x0∧R x0)(k:∀x0,A1 x0→A2 x0→A3 x0→R x0→G):G:=by obtain ⟨x0,h1,h2,h3,hr⟩:=h;exact k x0 h1 h2 h3 hr
theorem Hq{A1 A2 A3 A4 A5 R:X0→Prop}(h:∃x0,A1 x0∧A2 x0∧A3 x0∧A4 x0∧A5 x0∧R x0)(k:∀x0,A1 x0→A2 x0→A3 x0→A4 x0→A5 x0→R x0→G):G:=by obtain ⟨x0,h1,h2,h3,h4,h5,hr⟩:=h;exact k x0 h1 h2 h3 h4 h5 hr
theorem Hc{A1 A2 A3:X0→Prop}{A5 R:X0→X1→Prop}(h:∃x0,A1 x0∧A2 x0∧A3 x0∧∃x1,A5 x0 x1∧R x0 x1)(k:∀x0,A1 x0→A2 x0→A3 x0→∀x1,A5 x0 x1→R x0 x1→G):G:=by obtain ⟨x0,h1,h2,h3,x1,h5,hr⟩:=h;exact k x0 h1 h2 h3 x1 h5 hr
theorem zb{A1 A2:X0→Prop}{R:X0→X1→Prop}(h:∃x0,A1 x0∧A2 x0∧∃x1,R x0 x1)(k:∀x0,A1 x0→A2 x0→∀x1,R x0 x1→G):G:=by obtain ⟨x0,h1,h2,x1,hr⟩:=h;exact k x0 h1 h2 x1 hr
theorem lP{R:X0→X1→Prop}(h:∃x0 x1,R x0 x1)(k:∀x0 x1,R x0 x1→G):G:=by obtain ⟨x0,x1,hr⟩:=h;exact k x0 x1 hr
theorem jS{A2 R:X0→X1→Prop}(h:∃x0 x1,A2 x0 x1∧R x0 x1)(k:∀x0 x1,A2 x0 x1→R x0 x1→G):G:=by obtain ⟨x0,x1,h2,hr⟩:=h;exact k x0 x1 h2 hr
theorem bm{A2 A3 R:X0→X1→Prop}(h:∃x0 x1,A2 x0 x1∧A3 x0 x1∧R x0 x1)(k:∀x0 x1,A2 x0 x1→A3 x0 x1→R x0 x1→G):G:=by obtain ⟨x0,x1,h2,h3,hr⟩:=h;exact k x0 x1 h2 h3 hr
theorem kQ{A2 A3 A4 R:X0→X1→Prop}(h:∃x0 x1,A2 x0 x1∧A3 x0 x1∧A4 x0 x1∧R x0 x1)(k:∀x0 x1,A2 x0 x1→A3 x0 x1→A4 x0 x1→R x0 x1→G):G:=by obtain ⟨x0,x1,h2,h3,h4,hr⟩:=h;exact k x0 x1 h2 h3 h4 hr
theorem E6{A2 A3 A4 A5 A6 R:X0→X1→Prop}(h:∃x0 x1,A2 x0 x1∧A3 x0 x1∧A4 x0 x1∧A5 x0 x1∧A6 x0 x1∧R x0 x1)(k:∀x0 x1,A2 x0 x1→A3 x0 x1→A4 x0 x1→A5 x0 x1→A6 x0 x1→R x0 x1→G):G:=by obtain ⟨x0,x1,h2,h3,h4,h5,h6,hr⟩:=h;exact k x0 x1 h2 h3 h4 h5 h6 hr
theorem jE{R:X0→X1→X2→Prop}(h:∃x0 x1 x2,R x0 x1 x2)(k:∀x0 x1 x2,R x0 x1 x2→G):G:=by obtain ⟨x0,x1,x2,hr⟩:=h;exact k x0 x1 x2 hr
theorem fq{A3 R:X0→X1→X2→Prop}(h:∃x0 x1 x2,A3 x0 x1 x2∧R x0 x1 x2)(k:∀x0 x1 x2,A3 x0 x1 x2→R x0 x1 x2→G):G:=by obtain ⟨x0,x1,x2,h3,hr⟩:=h;exact k x0 x1 x2 h3 hr
theorem jx{A3 A4 R:X0→X1→X2→Prop}(h:∃x0 x1 x2,A3 x0 x1 x2∧A4 x0 x1 x2∧R x0 x1 x2)(k:∀x0 x1 x2,A3 x0 x1 x2→A4 x0 x1 x2→R x0 x1 x2→G):G:=by obtain ⟨x0,x1,x2,h3,h4,hr⟩:=h;exact k x0 x1 x2 h3 h4 hr
theorem dp{A3 A4 A5 R:X0→X1→X2→Prop}(h:∃x0 x1 x2,A3 x0 x1 x2∧A4 x0 x1 x2∧A5 x0 x1 x2∧R x0 x1 x2)(k:∀x0 x1 x2,A3 x0 x1 x2→A4 x0 x1 x2→A5 x0 x1 x2→R x0 x1 x2→G):G:=by obtain ⟨x0,x1,x2,h3,h4,h5,hr⟩:=h;exact k x0 x1 x2 h3 h4 h5 hr
theorem i8{A3 A4 A5 A6 R:X0→X1→X2→Prop}(h:∃x0 x1 x2,A3 x0 x1 x2∧A4 x0 x1 x2∧A5 x0 x1 x2∧A6 x0 x1 x2∧R x0 x1 x2)(k:∀x0 x1 x2,A3 x0 x1 x2→A4 x0 x1 x2→A5 x0 x1 x2→A6 x0 x1 x2→R x0 x1 x2→G):G:=by obtain ⟨x0,x1,x2,h3,h4,h5,h6,hr⟩:=h;exact k x0 x1 x2 h3 h4 h5 h6 hr
theorem KA{R:X0→X1→X2→X3→Prop}(h:∃x0 x1 x2 x3,R x0 x1 x2 x3)(k:∀x0 x1 x2 x3,R x0 x1 x2 x3→G):G:=by obtain ⟨x0,x1,x2,x3,hr⟩:=h;exact k x0 x1 x2 x3 hr
theorem q9{A4 A5 R:X0→X1→X2→X3→Prop}(h:∃x0 x1 x2 x3,A4 x0 x1 x2 x3∧A5 x0 x1 x2 x3∧R x0 x1 x2 x3)(k:∀x0 x1 x2 x3,A4 x0 x1 x2 x3→A5 x0 x1 x2 x3→R x0 x1 x2 x3→G):G:=by obtain ⟨x0,x1,x2,x3,h4,h5,hr⟩:=h;exact k x0 x1 x2 x3 h4 h5 hr
theorem nO{A4 A5 A6 R:X0→X1→X2→X3→Prop}(h:∃x0 x1 x2 x3,A4 x0 x1 x2 x3∧A5 x0 x1 x2 x3∧A6 x0 x1 x2 x3∧R x0 x1 x2 x3)(k:∀x0 x1 x2 x3,A4 x0 x1 x2 x3→A5 x0 x1 x2 x3→A6 x0 x1 x2 x3→R x0 x1 x2 x3→G):G:=by obtain ⟨x0,x1,x2,x3,h4,h5,h6,hr⟩:=h;exact k x0 x1 x2 x3 h4 h5 h6 hr
theorem oJ{A4 A5 A6 A7 A8 R:X0→X1→X2→X3→Prop}(h:∃x0 x1 x2 x3,A4 x0 x1 x2 x3∧A5 x0 x1 x2 x3∧A6 x0 x1 x2 x3∧A7 x0 x1 x2 x3∧A8 x0 x1 x2 x3∧R x0 x1 x2 x3)(k:∀x0 x1 x2 x3,A4 x0 x1 x2 x3→A5 x0 x1 x2 x3→A6 x0 x1 x2 x3→A7 x0 x1 x2 x3→A8 x0 x1 x2 x3→R x0 x1 x2 x3→G):G:=by obtain ⟨x0,x1,x2,x3,h4,h5,h6,h7,h8,hr⟩:=h;exact k x0 x1 x2 x3 h4 h5 h6 h7 h8 hr
theorem fC{A5 A6 A7 R:X0→X1→X2→X3→X4→Prop}(h:∃x0 x1 x2 x3 x4,A5 x0 x1 x2 x3 x4∧A6 x0 x1 x2 x3 x4∧A7 x0 x1 x2 x3 x4∧R x0 x1 x2 x3 x4)(k:∀x0 x1 x2 x3 x4,A5 x0 x1 x2 x3 x4→A6 x0 x1 x2 x3 x4→A7 x0 x1 x2 x3 x4→R x0 x1 x2 x3 x4→G):G:=by obtain ⟨x0,x1,x2,x3,x4,h5,h6,h7,hr⟩:=h;exact k x0 x1 x2 x3 x4 h5 h6 h7 hr
theorem gB{A5 A6 A7 A8 A9 A10 R:X0→X1→X2→X3→X4→Prop}(h:∃x0 x1 x2 x3 x4,A5 x0 x1 x2 x3 x4∧A6 x0 x1 x2 x3 x4∧A7 x0 x1 x2 x3 x4∧A8 x0 x1 x2 x3 x4∧A9 x0 x1 x2 x3 x4∧A10 x0 x1 x2 x3 x4∧R x0 x1 x2 x3 x4)(k:∀x0 x1 x2 x3 x4,A5 x0 x1 x2 x3 x4→A6 x0 x1 x2 x3 x4→A7 x0 x1 x2 x3 x4→A8 x0 x1 x2 x3 x4→A9 x0 x1 x2 x3 x4→A10 x0 x1 x2 x3 x4→R x0 x1 x2 x3 x4→G):G:=by obtain ⟨x0,x1,x2,x3,x4,h5,h6,h7,h8,h9,h10,hr⟩:=h;exact k x0 x1 x2 x3 x4 h5 h6 h7 h8 h9 h10 hr
theorem ku{A5 A6 A7 A8 A9 A10 A11 R:X0→X1→X2→X3→X4→Prop}(h:∃x0 x1 x2 x3 x4,A5 x0 x1 x2 x3 x4∧A6 x0 x1 x2 x3 x4∧A7 x0 x1 x2 x3 x4∧A8 x0 x1 x2 x3 x4∧A9 x0 x1 x2 x3 x4∧A10 x0 x1 x2 x3 x4∧A11 x0 x1 x2 x3 x4∧R x0 x1 x2 x3 x4)(k:∀x0 x1 x2 x3 x4,A5 x0 x1 x2 x3 x4→A6 x0 x1 x2 x3 x4→A7 x0 x1 x2 x3 x4→A8 x0 x1 x2 x3 x4→A9 x0 x1 x2 x3 x4→A10 x0 x1 x2 x3 x4→A11 x0 x1 x2 x3 x4→R x0 x1 x2 x3 x4→G):G:=by obtain ⟨x0,x1,x2,x3,x4,h5,h6,h7,h8,h9,h10,h11,hr⟩:=h;exact k x0 x1 x2 x3 x4 h5 h6 h7 h8 h9 h10 h11 hr
theorem h_{A6 A7 A8 A9 R:X0→X1→X2→X3→X4→X5→Prop}(h:∃x0 x1 x2 x3 x4 x5,A6 x0 x1 x2 x3 x4 x5∧A7 x0 x1 x2 x3 x4 x5∧A8 x0 x1 x2 x3 x4 x5∧A9 x0 x1 x2 x3 x4 x5∧R x0 x1 x2 x3 x4 x5)(k:∀x0 x1 x2 x3 x4 x5,A6 x0 x1 x2 x3 x4 x5→A7 x0 x1 x2 x3 x4 x5→A8 x0 x1 x2 x3 x4 x5→A9 x0 x1 x2 x3 x4 x5→R x0 x1 x2 x3 x4 x5→G):G:=by obtain ⟨x0,x1,x2,x3,x4,x5,h6,h7,h8,h9,hr⟩:=h;exact k x0 x1 x2 x3 x4 x5 h6 h7 h8 h9 hr
theorem nV{A6 A7 A8 A9 A10 A11 A12 A13 R:X0→X1→X2→X3→X4→X5→Prop}(h:∃x0 x1 x2 x3 x4 x5,A6 x0 x1 x2 x3 x4 x5∧A7 x0 x1 x2 x3 x4 x5∧A8 x0 x1 x2 x3 x4 x5∧A9 x0 x1 x2 x3 x4 x5∧A10 x0 x1 x2 x3 x4 x5∧A11 x0 x1 x2 x3 x4 x5∧A12 x0 x1 x2 x3 x4 x5∧A13 x0 x1 x2 x3 x4 x5∧R x0 x1 x2 x3 x4 x5)(k:∀x0 x1 x2 x3 x4 x5,A6 x0 x1 x2 x3 x4 x5→A7 x0 x1 x2 x3 x4 x5→A8 x0 x1 x2 x3 x4 x5→A9 x0 x1 x2 x3 x4 x5→A10 x0 x1 x2 x3 x4 x5→A11 x0 x1 x2 x3 x4 x5→A12 x0 x1 x2 x3 x4 x5→A13 x0 x1 x2 x3 x4 x5→R x0 x1 x2 x3 x4 x5→G):G:=by obtain ⟨x0,x1,x2,x3,x4,x5,h6,h7,h8,h9,h10,h11,h12,h13,hr⟩:=h;exact k x0 x1 x2 x3 x4 x5 h6 h7 h8 h9 h10 h11 h12 h13 hr
theorem fu(h0:A0)(h1:A1)(hr:R):A0∧A1∧R:=⟨h0,h1,hr⟩
theorem lq(h0:A0)(h1:A1)(h2:A2)(hr:R):A0∧A1∧A2∧R:=⟨h0,h1,h2,hr⟩
theorem uR(h0:A0)(h1:A1)(h2:A2)(h3:A3)(hr:R):A0∧A1∧A2∧A3∧R:=⟨h0,h1,h2,h3,hr⟩
theorem Kl(h0:A0)(h1:A1)(h2:A2)(h3:A3)(h4:A4)(h5:A5)(hr:R):A0∧A1∧A2∧A3∧A4∧A5∧R:=⟨h0,h1,h2,h3,h4,h5,hr⟩
theorem Hd{A5 R:X0→X1→Prop}(h0:A0)(h1:A1)(h2:A2)(x0:X0)(x1:X1)(h5:A5 x0 x1)(hr:R x0 x1):A0∧A1∧A2∧∃x0 x1,A5 x0 x1∧R x0 x1:=⟨h0,h1,h2,x0,x1,h5,hr⟩
theorem jc{R:X0→Prop}(h0:A0)(x0:X0)(hr:R x0):A0∧∃x0,R x0:=⟨h0,x0,hr⟩
theorem gN{A2 R:X0→Prop}(h0:A0)(x0:X0)(h2:A2 x0)(hr:R x0):A0∧∃x0,A2 x0∧R x0:=⟨h0,x0,h2,hr⟩
theorem UO{A3 R:X0→X1→Prop}(h0:A0)(x0:X0)(x1:X1)(h3:A3 x0 x1)(hr:R x0 x1):A0∧∃x0 x1,A3 x0 x1∧R x0 x1:=⟨h0,x0,x1,h3,hr⟩
theorem N_{A3 A4 R:X0→X1→Prop}(h0:A0)(x0:X0)(x1:X1)(h3:A3 x0 x1)(h4:A4 x0 x1)(hr:R x0 x1):A0∧∃x0 x1,A3 x0 x1∧A4 x0 x1∧R x0 x1:=⟨h0,x0,x1,h3,h4,hr⟩
theorem aZ{A1 R:X0→Prop}(x0:X0)(h1:A1 x0)(hr:R x0):∃x0,A1 x0∧R x0:=⟨x0,h1,hr⟩
theorem cL{A1 A2 R:X0→Prop}(x0:X0)(h1:A1 x0)(h2:A2 x0)(hr:R x0):∃x0,A1 x0∧A2 x0∧R x0:=⟨x0,h1,h2,hr⟩
theorem d4{A1 A2 A3 R:X0→Prop}(x0:X0)(h1:A1 x0)(h2:A2 x0)(h3:A3 x0)(hr:R x0):∃x0,A1 x0∧A2 x0∧A3 x0∧R x0:=⟨x0,h1,h2,h3,hr⟩
theorem jf{A1 A2 A3:X0→Prop}{A5 R:X0→X1→Prop}(x0:X0)(h1:A1 x0)(h2:A2 x0)(h3:A3 x0)(x1:X1)(h5:A5 x0 x1)(hr:R x0 x1):∃x0,A1 x0∧A2 x0∧A3 x0∧∃x1,A5 x0 x1∧R x0 x1:=⟨x0,h1,h2,h3,x1,h5,hr⟩
theorem UR{A1 A2:X0→Prop}{R:X0→X1→Prop}(x0:X0)(h1:A1 x0)(h2:A2 x0)(x1:X1)(hr:R x0 x1):∃x0,A1 x0∧A2 x0∧∃x1,R x0 x1:=⟨x0,h1,h2,x1,hr⟩
theorem BG{A1 A2:X0→Prop}{R:X0→X1→X2→Prop}(x0:X0)(h1:A1 x0)(h2:A2 x0)(x1:X1)(x2:X2)(hr:R x0 x1 x2):∃x0,A1 x0∧A2 x0∧∃x1 x2,R x0 x1 x2:=⟨x0,h1,h2,x1,x2,hr⟩
theorem zC{A1:X0→Prop}{A5 A6 A7 R:X0→X1→X2→X3→Prop}(x0:X0)(h1:A1 x0)(x1:X1)(x2:X2)(x3:X3)(h5:A5 x0 x1 x2 x3)(h6:A6 x0 x1 x2 x3)(h7:A7 x0 x1 x2 x3)(hr:R x0 x1 x2 x3):∃x0,A1 x0∧∃x1 x2 x3,A5 x0 x1 x2 x3∧A6 x0 x1 x2 x3∧A7 x0 x1 x2 x3∧R x0 x1 x2 x3:=⟨x0,h1,x1,x2,x3,h5,h6,h7,hr⟩
theorem jN{R:X0→X1→Prop}(x0:X0)(x1:X1)(hr:R x0 x1):∃x0 x1,R x0 x1:=⟨x0,x1,hr⟩
theorem fO{A2 R:X0→X1→Prop}(x0:X0)(x1:X1)(h2:A2 x0 x1)(hr:R x0 x1):∃x0 x1,A2 x0 x1∧R x0 x1:=⟨x0,x1,h2,hr⟩
theorem dy{A2 A3 R:X0→X1→Prop}(x0:X0)(x1:X1)(h2:A2 x0 x1)(h3:A3 x0 x1)(hr:R x0 x1):∃x0 x1,A2 x0 x1∧A3 x0 x1∧R x0 x1:=⟨x0,x1,h2,h3,hr⟩
theorem uX{A2 A3 A4 R:X0→X1→Prop}(x0:X0)(x1:X1)(h2:A2 x0 x1)(h3:A3 x0 x1)(h4:A4 x0 x1)(hr:R x0 x1):∃x0 x1,A2 x0 x1∧A3 x0 x1∧A4 x0 x1∧R x0 x1:=⟨x0,x1,h2,h3,h4,hr⟩
theorem Ej{A2 A3 A4 A5 A6 R:X0→X1→Prop}(x0:X0)(x1:X1)(h2:A2 x0 x1)(h3:A3 x0 x1)(h4:A4 x0 x1)(h5:A5 x0 x1)(h6:A6 x0 x1)(hr:R x0 x1):∃x0 x1,A2 x0 x1∧A3 x0 x1∧A4 x0 x1∧A5 x0 x1∧A6 x0 x1∧R x0 x1:=⟨x0,x1,h2,h3,h4,h5,h6,hr⟩
theorem Cv{A2 A3:X0→X1→Prop}{R:X0→X1→X2→Prop}(x0:X0)(x1:X1)(h2:A2 x0 x1)(h3:A3 x0 x1)(x2:X2)(hr:R x0 x1 x2):∃x0 x1,A2 x0 x1∧A3 x0 x1∧∃x2,R x0 x1 x2:=⟨x0,x1,h2,h3,x2,hr⟩
theorem DC{A2 A3:X0→X1→Prop}{R:X0→X1→X2→X3→X4→Prop}(x0:X0)(x1:X1)(h2:A2 x0 x1)(h3:A3 x0 x1)(x2:X2)(x3:X3)(x4:X4)(hr:R x0 x1 x2 x3 x4):∃x0 x1,A2 x0 x1∧A3 x0 x1∧∃x2 x3 x4,R x0 x1 x2 x3 x4:=⟨x0,x1,h2,h3,x2,x3,x4,hr⟩
theorem jG{R:X0→X1→X2→Prop}(x0:X0)(x1:X1)(x2:X2)(hr:R x0 x1 x2):∃x0 x1 x2,R x0 x1 x2:=⟨x0,x1,x2,hr⟩
theorem lK{A3 R:X0→X1→X2→Prop}(x0:X0)(x1:X1)(x2:X2)(h3:A3 x0 x1 x2)(hr:R x0 x1 x2):∃x0 x1 x2,A3 x0 x1 x2∧R x0 x1 x2:=⟨x0,x1,x2,h3,hr⟩
theorem pc{A3 A4 R:X0→X1→X2→Prop}(x0:X0)(x1:X1)(x2:X2)(h3:A3 x0 x1 x2)(h4:A4 x0 x1 x2)(hr:R x0 x1 x2):∃x0 x1 x2,A3 x0 x1 x2∧A4 x0 x1 x2∧R x0 x1 x2:=⟨x0,x1,x2,h3,h4,hr⟩
theorem dA{A3 A4 A5 R:X0→X1→X2→Prop}(x0:X0)(x1:X1)(x2:X2)(h3:A3 x0 x1 x2)(h4:A4 x0 x1 x2)(h5:A5 x0 x1 x2)(hr:R x0 x1 x2):∃x0 x1 x2,A3 x0 x1 x2∧A4 x0 x1 x2∧A5 x0 x1 x2∧R x0 x1 x2:=⟨x0,x1,x2,h3,h4,h5,hr⟩
theorem i4{A3 A4 A5 A6 R:X0→X1→X2→Prop}(x0:X0)(x1:X1)(x2:X2)(h3:A3 x0 x1 x2)(h4:A4 x0 x1 x2)(h5:A5 x0 x1 x2)(h6:A6 x0 x1 x2)(hr:R x0 x1 x2):∃x0 x1 x2,A3 x0 x1 x2∧A4 x0 x1 x2∧A5 x0 x1 x2∧A6 x0 x1 x2∧R x0 x1 x2:=⟨x0,x1,x2,h3,h4,h5,h6,hr⟩
theorem yM{R:X0→X1→X2→X3→Prop}(x0:X0)(x1:X1)(x2:X2)(x3:X3)(hr:R x0 x1 x2 x3):∃x0 x1 x2 x3,R x0 x1 x2 x3:=⟨x0,x1,x2,x3,hr⟩
theorem MN{A4 R:X0→X1→X2→X3→Prop}(x0:X0)(x1:X1)(x2:X2)(x3:X3)(h4:A4 x0 x1 x2 x3)(hr:R x0 x1 x2 x3):∃x0 x1 x2 x3,A4 x0 x1 x2 x3∧R x0 x1 x2 x3:=⟨x0,x1,x2,x3,h4,hr⟩
theorem qj{A4 A5 R:X0→X1→X2→X3→Prop}(x0:X0)(x1:X1)(x2:X2)(x3:X3)(h4:A4 x0 x1 x2 x3)(h5:A5 x0 x1 x2 x3)(hr:R x0 x1 x2 x3):∃x0 x1 x2 x3,A4 x0 x1 x2 x3∧A5 x0 x1 x2 x3∧R x0 x1 x2 x3:=⟨x0,x1,x2,x3,h4,h5,hr⟩
theorem Dz{A4 A5 A6 R:X0→X1→X2→X3→Prop}(x0:X0)(x1:X1)(x2:X2)(x3:X3)(h4:A4 x0 x1 x2 x3)(h5:A5 x0 x1 x2 x3)(h6:A6 x0 x1 x2 x3)(hr:R x0 x1 x2 x3):∃x0 x1 x2 x3,A4 x0 x1 x2 x3∧A5 x0 x1 x2 x3∧A6 x0 x1 x2 x3∧R x0 x1 x2 x3:=⟨x0,x1,x2,x3,h4,h5,h6,hr⟩
theorem oF{A4 A5 A6 A7 A8 R:X0→X1→X2→X3→Prop}(x0:X0)(x1:X1)(x2:X2)(x3:X3)(h4:A4 x0 x1 x2 x3)(h5:A5 x0 x1 x2 x3)(h6:A6 x0 x1 x2 x3)(h7:A7 x0 x1 x2 x3)(h8:A8 x0 x1 x2 x3)(hr:R x0 x1 x2 x3):∃x0 x1 x2 x3,A4 x0 x1 x2 x3∧A5 x0 x1 x2 x3∧A6 x0 x1 x2 x3∧A7 x0 x1 x2 x3∧A8 x0 x1 x2 x3∧R x0 x1 x2 x3:=⟨x0,x1,x2,x3,h4,h5,h6,h7,h8,hr⟩
theorem ib{A5 A6 A7 R:X0→X1→X2→X3→X4→Prop}(x0:X0)(x1:X1)(x2:X2)(x3:X3)(x4:X4)(h5:A5 x0 x1 x2 x3 x4)(h6:A6 x0 x1 x2 x3 x4)(h7:A7 x0 x1 x2 x3 x4)(hr:R x0 x1 x2 x3 x4):∃x0 x1 x2 x3 x4,A5 x0 x1 x2 x3 x4∧A6 x0 x1 x2 x3 x4∧A7 x0 x1 x2 x3 x4∧R x0 x1 x2 x3 x4:=⟨x0,x1,x2,x3,x4,h5,h6,h7,hr⟩
theorem mi{A5 A6 A7 A8 A9 R:X0→X1→X2→X3→X4→Prop}(x0:X0)(x1:X1)(x2:X2)(x3:X3)(x4:X4)(h5:A5 x0 x1 x2 x3 x4)(h6:A6 x0 x1 x2 x3 x4)(h7:A7 x0 x1 x2 x3 x4)(h8:A8 x0 x1 x2 x3 x4)(h9:A9 x0 x1 x2 x3 x4)(hr:R x0 x1 x2 x3 x4):∃x0 x1 x2 x3 x4,A5 x0 x1 x2 x3 x4∧A6 x0 x1 x2 x3 x4∧A7 x0 x1 x2 x3 x4∧A8 x0 x1 x2 x3 x4∧A9 x0 x1 x2 x3 x4∧R x0 x1 x2 x3 x4:=⟨x0,x1,x2,x3,x4,h5,h6,h7,h8,h9,hr⟩
theorem i_{A5 A6 A7 A8 A9 A10 R:X0→X1→X2→X3→X4→Prop}(x0:X0)(x1:X1)(x2:X2)(x3:X3)(x4:X4)(h5:A5 x0 x1 x2 x3 x4)(h6:A6 x0 x1 x2 x3 x4)(h7:A7 x0 x1 x2 x3 x4)(h8:A8 x0 x1 x2 x3 x4)(h9:A9 x0 x1 x2 x3 x4)(h10:A10 x0 x1 x2 x3 x4)(hr:R x0 x1 x2 x3 x4):∃x0 x1 x2 x3 x4,A5 x0 x1 x2 x3 x4∧A6 x0 x1 x2 x3 x4∧A7 x0 x1 x2 x3 x4∧A8 x0 x1 x2 x3 x4∧A9 x0 x1 x2 x3 x4∧A10 x0 x1 x2 x3 x4∧R x0 x1 x2 x3 x4:=⟨x0,x1,x2,x3,x4,h5,h6,h7,h8,h9,h10,hr⟩
theorem ie{A5 A6 A7 A8 A9 A10 A11 R:X0→X1→X2→X3→X4→Prop}(x0:X0)(x1:X1)(x2:X2)(x3:X3)(x4:X4)(h5:A5 x0 x1 x2 x3 x4)(h6:A6 x0 x1 x2 x3 x4)(h7:A7 x0 x1 x2 x3 x4)(h8:A8 x0 x1 x2 x3 x4)(h9:A9 x0 x1 x2 x3 x4)(h10:A10 x0 x1 x2 x3 x4)(h11:A11 x0 x1 x2 x3 x4)(hr:R x0 x1 x2 x3 x4):∃x0 x1 x2 x3 x4,A5 x0 x1 x2 x3 x4∧A6 x0 x1 x2 x3 x4∧A7 x0 x1 x2 x3 x4∧A8 x0 x1 x2 x3 x4∧A9 x0 x1 x2 x3 x4∧A10 x0 x1 x2 x3 x4∧A11 x0 x1 x2 x3 x4∧R x0 x1 x2 x3 x4:=⟨x0,x1,x2,x3,x4,h5,h6,h7,h8,h9,h10,h11,hr⟩
theorem oU{A5 A6 A7 A8 A9 A10 A11 A12 R:X0→X1→X2→X3→X4→Prop}(x0:X0)(x1:X1)(x2:X2)(x3:X3)(x4:X4)(h5:A5 x0 x1 x2 x3 x4)(h6:A6 x0 x1 x2 x3 x4)(h7:A7 x0 x1 x2 x3 x4)(h8:A8 x0 x1 x2 x3 x4)(h9:A9 x0 x1 x2 x3 x4)(h10:A10 x0 x1 x2 x3 x4)(h11:A11 x0 x1 x2 x3 x4)(h12:A12 x0 x1 x2 x3 x4)(hr:R x0 x1 x2 x3 x4):∃x0 x1 x2 x3 x4,A5 x0 x1 x2 x3 x4∧A6 x0 x1 x2 x3 x4∧A7 x0 x1 x2 x3 x4∧A8 x0 x1 x2 x3 x4∧A9 x0 x1 x2 x3 x4∧A10 x0 x1 x2 x3 x4∧A11 x0 x1 x2 x3 x4∧A12 x0 x1 x2 x3 x4∧R x0 x1 x2 x3 x4:=⟨x0,x1,x2,x3,x4,h5,h6,h7,h8,h9,h10,h11,h12,hr⟩
theorem eP{A6 A7 A8 A9 R:X0→X1→X2→X3→X4→X5→Prop}(x0:X0)(x1:X1)(x2:X2)(x3:X3)(x4:X4)(x5:X5)(h6:A6 x0 x1 x2 x3 x4 x5)(h7:A7 x0 x1 x2 x3 x4 x5)(h8:A8 x0 x1 x2 x3 x4 x5)(h9:A9 x0 x1 x2 x3 x4 x5)(hr:R x0 x1 x2 x3 x4 x5):∃x0 x1 x2 x3 x4 x5,A6 x0 x1 x2 x3 x4 x5∧A7 x0 x1 x2 x3 x4 x5∧A8 x0 x1 x2 x3 x4 x5∧A9 x0 x1 x2 x3 x4 x5∧R x0 x1 x2 x3 x4 x5:=⟨x0,x1,x2,x3,x4,x5,h6,h7,h8,h9,hr⟩
theorem nP{A6 A7 A8 A9 A10 A11 A12 A13 R:X0→X1→X2→X3→X4→X5→Prop}(x0:X0)(x1:X1)(x2:X2)(x3:X3)(x4:X4)(x5:X5)(h6:A6 x0 x1 x2 x3 x4 x5)(h7:A7 x0 x1 x2 x3 x4 x5)(h8:A8 x0 x1 x2 x3 x4 x5)(h9:A9 x0 x1 x2 x3 x4 x5)(h10:A10 x0 x1 x2 x3 x4 x5)(h11:A11 x0 x1 x2 x3 x4 x5)(h12:A12 x0 x1 x2 x3 x4 x5)(h13:A13 x0 x1 x2 x3 x4 x5)(hr:R x0 x1 x2 x3 x4 x5):∃x0 x1 x2 x3 x4 x5,A6 x0 x1 x2 x3 x4 x5∧A7 x0 x1 x2 x3 x4 x5∧A8 x0 x1 x2 x3 x4 x5∧A9 x0 x1 x2 x3 x4 x5∧A10 x0 x1 x2 x3 x4 x5∧A11 x0 x1 x2 x3 x4 x5∧A12 x0 x1 x2 x3 x4 x5∧A13 x0 x1 x2 x3 x4 x5∧R x0 x1 x2 x3 x4 x5:=⟨x0,x1,x2,x3,x4,x5,h6,h7,h8,h9,h10,h11,h12,h13,hr⟩
@[elab_as_elim] theorem cC {A:Type u0} {P:A→Prop} {a b:A} (h:some a=some b) (k:P a):P b:=by cases h;exact k
@[elab_as_elim] theorem cm {A:Type u0} {B:Type u1} {P:A→B→Prop} {a a':A} {b b':B} (h:some (a,b)=some (a',b')) (k:P a b):P a' b':=by cases h;exact k
@[elab_as_elim] theorem gw {A:Type u0} {B:Type u1} {D:Type u2} {P:A→B→D→Prop} {a a':A} {b b':B} {c c':D} (h:some (a,b,c)=some (a',b',c')) (k:P a b c):P a' b' c':=by cases h;exact k
theorem cv{A:Type u0}{a:A}(h:none=some a):G:=by cases h
@[elab_as_elim] theorem bH {A:Sort u0} {P:A→Prop} {a b:A} (h:a=b) (k:P a):P b:=h▸k
@[elab_as_elim] theorem rA {A:Sort u0} {P:A→Prop} {a b:A} (h:a=b) (k:P b):P a:=h▸k
@[elab_as_elim] theorem rB {A:Sort u0} {P:A→Prop} {a b:A} (h:b=a) (k:P b):P a:=h▸k
theorem eE{p:Prop}(h:∀q:Prop,(p→q)→q):p:=h p id
end
noncomputable def keep:List Nat:=[1,2,3,4,6,7,8]++Ff 10 54++Ff 65 9
noncomputable def vq:Program:=view MI keep
noncomputable def loose:List Str:=["COMPILER_FLAG_NAMES","EXACT_TOKEN_TYPES"]
noncomputable def Tv:List Str:=(["!","!=","%","%=","&","&=","(",")","*","**","**=","*=","+","+=",",","-","-=","->",".","...","/","//","//=","/=",":",":=",";","<","<<","<<=","<=","=","==",">",">=",">>",">>=","@","@=","[","]","^","^=","{","|","|=","}","~"]:List String).map Ks
noncomputable def tyV:Value→Option String
 | .type T=>some T
 |_=>none
noncomputable def G0:Value→Option Str
 | .str x _=>some x
 |_=>none
noncomputable def Pg:Value→Option Int
 | .int i _=>some i
 |_=>none
noncomputable def D9(e:DictEntry):Option (Int×Str):=(Pg e.key).bind λx=>(G0 e.val).bind λy=>if e.hash=hashInt x then some (x,y) else none
theorem KC{v:Value}{x:Str}(h:G0 v=some x):∃t,v=.str x t:=by cases v<;>first|exact cv h| (refine cC h ?_;exact ⟨_,rfl⟩)
theorem G9{v:Value}{x:Int}(h:Pg v=some x):∃t,v=.int x t:=by cases v<;>first|exact cv h| (refine cC h ?_;exact ⟨_,rfl⟩)
theorem ZE{v:Value}{x:String}(h:tyV v=some x):v=.type x:=by cases v<;>first|exact cv h| (refine cC h ?_;rfl)
noncomputable def U_:Value→Option Addr
 | .ref a=>some a
 |_=>none
noncomputable def Ze:Data→Option (List DictEntry)
 | .dict es _=>some es.toList
 |_=>none
noncomputable def PZ(h:Heap)(a:Addr):Option (List DictEntry):=(h.get? a).bind λo=>if tyV o.cls=some "dict"∧o.dict=none∧o.slots.size=0 then Ze o.data else none
theorem T4{v:Data}{l:List DictEntry}(h:Ze v=some l):∃es n,v=.dict es n∧es.toList=l:=by cases v<;>first|exact cv h| (refine cC h ?_;exact ⟨_,_,rfl,rfl⟩)
theorem aa7{o:Obj}{c:Value}{d:Option Addr}{D:Data}(h1:o.cls=c)(h2:o.dict=d)(h3:o.data=D)(h4:o.slots= #[]):o=⟨c,d,D,#[]⟩:=by subst h1 h2 h3;rw [←h4]
theorem vS{h:Heap}{a:Addr}{l:List DictEntry}(e:PZ h a=some l):∃es n,h.get? a=some ⟨.type "dict",none,.dict es n,#[]⟩∧es.toList=l:=by
 obtain ⟨o,e1,e2⟩:=K_.mp e
 by_cases q:tyV o.cls=some "dict"∧o.dict=none∧o.slots.size=0
 ·obtain ⟨es,n,ed,el⟩:=T4 ((if_pos q).symm.trans e2)
  exact ⟨es,n,e1.trans (congrArg some (aa7 (ZE q.1) q.2.1 ed (Array.eq_empty_of_size_eq_zero q.2.2))),el⟩
 ·exact cv ((if_neg q).symm.trans e2)
theorem wO{h h':Heap}{a:Addr}{l:List DictEntry}(e:PZ h a=some l)(k:∀b o,h.get? b=some o→h'.get? b=some o):PZ h' a=some l:=by
 obtain ⟨o,e1,e2⟩:=K_.mp e;unfold PZ;rw [k _ _ e1];exact e2
noncomputable def v1(l:List DictEntry):List (Option Str×Int):=l.map λe=>(G0 e.key,e.hash)
noncomputable def v2(l:List DictEntry):List (Option Int):=(["|","*","(",")"]:List Str).map λx=>((l.find? λe=>QV x e.key).map (·.val)).bind Pg
noncomputable def k1(w:World):List (Option Str×Int):=Tv.map λx=>(some x,PyData.keyHash w.params x)
noncomputable def Zw:List (Int×Str):=[(1,"OPTIMIZED"),(2,"NEWLOCALS"),(4,"VARARGS"),(8,"VARKEYWORDS"),(16,"NESTED"),(32,"GENERATOR"),(64,"NOFREE"),(128,"COROUTINE"),(256,"ITERABLE_COROUTINE"),(512,"ASYNC_GENERATOR")]
noncomputable def yf(s:Shared):=((PZ s.heap 58).map λl=>(v1 l,v2 l),(PZ s.heap 43).map λl=>l.map D9)
noncomputable def ya(w:World):=(some (k1 w,[some (18:Int),some 16,some 7,some 8]),some (Zw.map some))
def yu(w:World)(h:Heap):Prop:=∃l1 l2,PZ h 58=some l1∧PZ h 43=some l2∧v1 l1=k1 w∧v2 l1=[some 18,some 16,some 7,some 8]∧l2.map D9=Zw.map some
theorem Ng(w:World)(s:Shared)(e:yf s=ya w):yu w s.heap:=by
 have e1:=congrArg Uj e;have e2:=congrArg Uk e;obtain ⟨l1,a1,b1⟩:=J4.mp e1;obtain ⟨l2,a2,b2⟩:=J4.mp e2;exact ⟨l1,l2,a1,a2,congrArg Uj b1,congrArg Uk b1,b2⟩
theorem Dr(w:World)(h h':Heap)(t:yu w h)(k:∀b o,h.get? b=some o→h'.get? b=some o):yu w h':=by
 obtain ⟨l1,l2,a1,a2,r⟩:=t;exact ⟨l1,l2,wO a1 k,wO a2 k,r⟩
noncomputable def mgB(mg:Str→Option Value):Bool:=(mg "EXACT_TOKEN_TYPES").bind U_==some 58&&(mg "COMPILER_FLAG_NAMES").bind U_==some 43
noncomputable def xt(s:Shared):Bool:=xlAt vq [] s&&recOk [] s&&mgB (s.heap.nsMap mainGlobals)
def Y4(mg:Str→Option Value)(h:Heap):Prop:=XL vq [] mg h∧mgB mg=true
theorem Zr(s:Shared)(e:xt s=true):Y4 (s.heap.nsMap mainGlobals) s.heap:=by
 unfold xt at e
 rw [Fd,Fd] at e
 exact ⟨xl_of s e.1.1,e.2⟩
theorem OH(mg:Str→Option Value)(h h':Heap)(x:Y4 mg h)(k:∀b o,h.get? b=some o→h'.get? b=some o):Y4 mg h':=⟨XL.keeps mg h h' x.1 k,x.2⟩
theorem HM{v:Option Value}{a:Addr}(e:v.bind U_=some a):v=some (.ref a):=by
 obtain ⟨x,rfl,e⟩:=K_.mp e;cases x<;>first|exact cv e| (refine cC e ?_;rfl)
theorem mg_of2{mg:Str→Option Value}(e:mgB mg=true):mg "EXACT_TOKEN_TYPES"=some (.ref 58)∧mg "COMPILER_FLAG_NAMES"=some (.ref 43):=by
 unfold mgB at e
 rw [Fd,beq_iff_eq,beq_iff_eq] at e
 exact ⟨HM e.1,HM e.2⟩
theorem tr{v:Option Value}{i:Int}(e:v.bind Pg=some i):∃t,v=some (.int i t):=by
 obtain ⟨x,rfl,e⟩:=K_.mp e;obtain ⟨t,q⟩:=G9 e;exact ⟨t,congrArg some q⟩
def T2:Str:="law"
theorem KQ:(defOf vq T2).isSome=true:= ∅
noncomputable def dd:DefRec×List (Str×Expr):=(defOf vq T2).get KQ
theorem Yh:defOf vq T2=some (dd.1,dd.2):=(Option.some_get KQ).symm
noncomputable abbrev P:=MI
section
variable {q:Program} {loose mods:List Str} {Xt:Shared→Bool}
noncomputable def FP(q:Program)(s:Shared):=(seen ((recsOf q).map (·.name)) (ownsOf q) [] {s with gens:= #[]},s.heap.bltView,tabsOk q s)
noncomputable def BE(q:Program)(loose:List Str)(s:Shared):Bool:=s.heap.keysOk (looseW q loose) ((recsOf q).map (·.name)) ((litsOf q).map (·.1)) ((clssOf q (looseW q loose)).map (·.name))
noncomputable def Bm(q:Program)(mods:List Str)(Xt:Shared→Bool)(s:Shared):Bool:=s.heap.accountedOkI mods&&s.heap.isNs mainGlobals&&s.heap.isNs builtinsNs&&tablesOk q s.heap&&Xt s&&(if true then s.gens.size==0 else !leftWithCleanup s.gens)
noncomputable def Jq(q:Program)(loose:List Str)(s:Shared):=(pinSeenD q (drecsOf q) s,plainSeenE q (looseW q loose) s,plainSeenD q loose s,wideSeen q s,clsSeenW q loose s,yf s)
noncomputable abbrev okC{Y:Type}(q:Program)(loose:List Str)(y:Y):=(pinGoodD (drecsOf q),plainGoodE q (looseW q loose),plainGoodD q loose,wideGood q,clsGoodW q loose,y)
theorem Qb{o:Option Shared}{y}(a:o.map (FP q)=some (expectedOf q,bltViewBooted,true))(b:o.map (BE q loose)=some true)(d:o.map (Bm q mods Xt)=some true)(c:o.map (Jq q loose)=some (okC q loose y)):
  o.map (λs=>(openSeen q loose mods Xt true s,yf s))=some (openGood q loose,y):=by
 cases o with
 |none=>exact cv a
 |some s=>
  have a:=Fh a;have b:BE q loose s=true:=Fh b;have d:Bm q mods Xt s=true:=Fh d;have c:=Fh c;unfold BE at b
  unfold Bm at d
  simp only [FP,Jq,okC,QW] at a c
  obtain ⟨a1,a2,a3⟩:=a;obtain ⟨c1,c2,c3,c4,c5,c6⟩:=c
  show some (openSeen q loose mods Xt true s,yf s)=_
  unfold openSeen openGood;rw [a1,a2,a3,b,QX,d,c1,c2,c3,c4,c5,c6]
end
noncomputable abbrev wR(w:World)(b:Bool):World:=w.withFollow "special-get-raises" b
noncomputable abbrev Gh(w:World)(b:Bool):Option Shared:=openEnds treeTable P (wR w b) 4366
abbrev lA(w:World)(b:Bool):Prop:=(Gh w b).map (FP vq)=some (expectedOf vq,bltViewBooted,true)
abbrev lB(w:World)(b:Bool):Prop:=(Gh w b).map (BE vq loose)=some true
abbrev lD(w:World)(b:Bool):Prop:=(Gh w b).map (Bm vq (importedModules P.main.body) xt)=some true
abbrev lC(w:World)(b:Bool):Prop:=(Gh w b).map (Jq vq loose)=some (okC vq loose (ya (wR w b)))
theorem lAF(w:World):lA w false:= ∅
theorem lBF(w:World):lB w false:= ∅
theorem lDF(w:World):lD w false:= ∅
theorem lCF(w:World):lC w false:= ∅
theorem lAT(w:World):lA w true:= ∅
theorem lBT(w:World):lB w true:= ∅
theorem lDT(w:World):lD w true:= ∅
theorem lCT(w:World):lC w true:= ∅
abbrev Qj(w:World)(b:Bool):Prop:=(Gh w b).map (λs=>(openSeen vq loose (importedModules P.main.body) xt true s,yf s))=some (openGood vq loose,ya (wR w b))
theorem Zf(w:World):Qj w false:=Qb (lAF w) (lBF w) (lDF w) (lCF w)
theorem Z8(w:World):Qj w true:=Qb (lAT w) (lBT w) (lDT w) (lCT w)
theorem YV:LeftO P vq loose xt yf ya 4366:=byRow2 "special-get-raises" (P:= λw=>(openEnds treeTable Mine.P w 4366).map (λs=>(openSeen vq loose (importedModules Mine.P.main.body) xt true s,yf s))=some (openGood vq loose,ya w)) Zf Z8
theorem Hs:Ly.wellSaid=true:= ∅
abbrev RR:=Ly.row
theorem Nc:RR.toRowW.promised:=by w_witness2
theorem TH:RR.prog.theDef RR.name=some (dd.1.params,dd.1.body,dd.1.scope):= ∅
theorem Y0:kwWritten? dd.1.params.kwonlyargs dd.1.params.kw_defaults=some dd.2:= ∅
theorem Vo:(chainsOk vq&&opensWell RR.prog&&(frees RR.toRowW&&RR.within.isEmpty))=true:= ∅
end Mine
namespace Mine
open PySem PySem.W PySem.Calls PyProof.Rows
variable {Cn D L TI TO a fa i1 i2 i3 z : Addr} {A : Around} {items zs : Array Value} {sh tup : Bool} {cenv env : Env} {mean : ExcName → Option Value} {e e1 e2 elt iter target test : Expr} {h h' : Heap} {y : Int} {M M' O T T' W wr α α' α1 α₀ : List Addr} {es : List Expr} {K cs ns os rest : List Int} {gi ls m ps : List Nat} {X acc acc' ds xs ys : List PyData} {body orelse : List Stmt} {vs : List Value} {b i j ja jt k kk low mask n p q tk : Nat} {o : Obj} {op : Operator} {hi lo : Option Expr} {gg : Option Nat} {apos pos px py sp tp xp : Pos} {prog : Program} {G : Prop} {d : PyData} {sc scope : Scope} {s s' s'' s1 s₀ : Shared} {st : Stmt} {name x : Str} {u : Tok} {cd cls doc fv it pm v : Value} {E Q : Value → Shared → Prop} {w : World}
def g7(W:List Addr)(h h':Heap):Prop:=∀b o,h.get? b=some o→(b∈W→False)→h'.get? b=some o
theorem g7.refl(W:List Addr)(h:Heap):g7 W h h:= λzz zz e zz=>e
theorem g7.of_keeps(hk:∀b o,h.get? b=some o→h'.get? b=some o):g7 W h h':= λb o e zz=>hk b o e
theorem g7.mono{W':List Addr}(x:g7 W h h')(hs:∀a∈W,a∈W'∨h.get? a=none):g7 W' h h':= λb o e ht=>x b o e λhb=>by
 rcases hs b hb with q|q
 ·exact ht q
 ·rw [e] at q;exact cv (F6 q)
theorem g7.trans{h'':Heap}(x:g7 W h h')(y:g7 W h' h''):g7 W h h'':= λb o e ht=>y b o (x b o e ht) ht
def SeqAt(h:Heap)(a:Addr):Prop:=∃o vs n,h.get? a=some o∧o.data=.seq vs n
theorem fG{vs:Array Value}(p:h.PlainList a vs):SeqAt h a:=let ⟨n,e⟩:=p;(lK _ vs n e rfl)
theorem i0{vs:Array Value}(p:h.IsTuple a vs):SeqAt h a:=let ⟨o,e,_,n,d⟩:=p;⟨o,vs,n,e,d⟩
theorem SeqAt.ext(x:g7 W h h')(ha:a∉W)(q:SeqAt h a):SeqAt h' a:=by
 refine fq q λo vs n e d=>?_;exact (lK o vs n (x _ _ e (λhm=>absurd hm ha)) d)
mutual
inductive aJ (h:Heap) (M:List Addr):Value→PyData→Prop
 |cnone:aJ h M .none .none
 |cbool (b:Bool):aJ h M (.bool b) (.bool b)
 |cint (i:Int) (t:Tok):aJ h M (.int i t) (.int i)
 |cstr (x:Str) (t:Tok):aJ h M (.str x t) (.str x)
 |clist {a:Addr} {vs:Array Value} {xs:List PyData}:h.PlainList a vs→a∉M→aw h M vs.toList xs→aJ h M (.ref a) (.list xs)
 |ctuple {a:Addr} {vs:Array Value} {xs:List PyData}:h.IsTuple a vs→a∉M→aw h M vs.toList xs→aJ h M (.ref a) (.tuple xs)
inductive aw (h:Heap) (M:List Addr):List Value→List PyData→Prop
 |cnil:aw h M [] []
 |ccons {v:Value} {vs:List Value} {d:PyData} {ds:List PyData}:aJ h M v d→aw h M vs ds→aw h M (v::vs) (d::ds)
end
theorem jY{vs:Array Value}(p:h.IsTuple a vs)(x:g7 W h h')(ha:a∉W):h'.IsTuple a vs:=let ⟨o,e,q⟩:=p;⟨o,x _ _ e (λz=>ha z),q⟩
theorem eQ{vs:Array Value}(p:h.PlainList a vs)(x:g7 W h h')(ha:a∉W):h'.PlainList a vs:=let ⟨n,e⟩:=p;⟨n,x _ _ e (λz=>ha z)⟩
theorem fX(q:SeqAt h a):h.get? a≠none:=by
 refine fq q λo zz zz e zz=>?_;rw [e];simp
theorem aJ.step(r:aJ h M v d)(x:g7 W h h')(hw:∀a∈W,SeqAt h a→a∈M)(hm:∀a∈M',a∈M∨h.get? a=none):aJ h' M' v d:=by
 refine aJ.rec (motive_1:= λv d zz=>aJ h' M' v d) (motive_2:= λvs ds zz=>aw h' M' vs ds) .cnone .cbool .cint .cstr ?_ ?_ .cnil ?_ r
 ·intro a vs xs p ha _ ih
  exact .clist (eQ p x λq=>ha (hw a q (fG p))) (λq=>(hm a q).elim ha λz=>fX (fG p) z) ih
 ·intro a vs xs p ha _ ih
  exact .ctuple (jY p x λq=>ha (hw a q (i0 p))) (λq=>(hm a q).elim ha λz=>fX (i0 p) z) ih
 ·intro v vs d ds _ _ i1 i2;exact .ccons i1 i2
theorem aw.step(x:g7 W h h')(hw:∀a∈W,SeqAt h a→a∈M)(hm:∀a∈M',a∈M∨h.get? a=none):∀ {vs:List Value} {ds:List PyData},aw h M vs ds→aw h' M' vs ds
 |_,_,.cnil=>.cnil
 |_,_,.ccons r rs=>.ccons (r.step x hw hm) (aw.step x hw hm rs)
theorem aJ.keeps(r:aJ h M v d)(hk:∀b o,h.get? b=some o→h'.get? b=some o):aJ h' M v d:=
 r.step (W:=[]) (g7.of_keeps hk) (by simp) λa ha=>.inl ha
theorem aw.keeps{v:List Value}{d:List PyData}(r:aw h M v d)(hk:∀b o,h.get? b=some o→h'.get? b=some o):aw h' M v d:=
 aw.step (W:=[]) (g7.of_keeps hk) (by simp) (λa ha=>.inl ha) r
theorem aJ.mono(r:aJ h M v d)(hm:∀a∈M',a∈M):aJ h M' v d:=r.step (W:=[]) (g7.refl _ _) (by simp) λa ha=>.inl (hm a ha)
theorem aw.mono{v:List Value}{d:List PyData}(r:aw h M v d)(hm:∀a∈M',a∈M):aw h M' v d:=aw.step (W:=[]) (g7.refl _ _) (by simp) (λa ha=>.inl (hm a ha)) r
theorem tJ{vs:Array Value}{as:List Addr}(p:h.IsTuple a vs)(r:ReadsAll h vs.toList xs as):Reads h (.ref a) (.tuple xs) as:=let ⟨_,e,c,_,d⟩:=p;.tuple e c d r
theorem aJ.reads(r:aJ h M v d):∃as,Reads h v d as:=by
 refine aJ.rec (motive_1:= λv d zz=>∃as,Reads h v d as) (motive_2:= λvs ds zz=>∃as,ReadsAll h vs ds as) ⟨_,.none⟩ (λb=>⟨_,.bool b⟩) (λi t=>⟨_,.int i t⟩) (λx t=>⟨_,.str x t⟩) ?_ ?_ ⟨_,.nil⟩ ?_ r
 ·intro a vs xs zi0 ha _ zi1
  refine bP zi0 λn e=>?_;refine bP zi1 λas ih=>?_;exact ⟨_,.list e rfl rfl ih⟩
 ·intro a vs xs p ha _ zi2
  refine bP zi2 λas ih=>?_;exact ⟨_,tJ p ih⟩
 ·rintro v vs d ds _ _ ⟨as,i1⟩ ⟨bs,i2⟩;exact ⟨_,.cons i1 i2⟩
theorem aw.readsAll:∀ {vs:List Value} {ds:List PyData},aw h M vs ds→∃as,ReadsAll h vs ds as
 |_,_,.cnil=>⟨_,.nil⟩
 |_,_,.ccons r rs=>let ⟨_,a⟩:=r.reads;let ⟨_,b⟩:=rs.readsAll;⟨_,.cons a b⟩
theorem aJ.none(h:Heap)(M:List Addr):aJ h M .none .none:=.cnone
theorem aJ.bool(h:Heap)(M:List Addr)(b:Bool):aJ h M (.bool b) (.bool b):=.cbool b
theorem aJ.int(h:Heap)(M:List Addr)(i:Int)(t:Tok):aJ h M (.int i t) (.int i):=.cint i t
theorem aJ.str(h:Heap)(M:List Addr)(x:Str)(t:Tok):aJ h M (.str x t) (.str x):=.cstr x t
theorem aw.nil(h:Heap)(M:List Addr):aw h M [] []:=.cnil
theorem aw.cons(r:aJ h M v d)(rs:aw h M vs ds):aw h M (v::vs) (d::ds):=.ccons r rs
theorem aw.uncons(r:aw h M (v::vs) (d::ds)):aJ h M v d∧aw h M vs ds:=by
 cases r with
 |ccons r1 r2=>exact ⟨r1,r2⟩
theorem aw.length:∀ {vs:List Value} {ds:List PyData},aw h M vs ds→vs.length=ds.length
 |_,_,.cnil=>rfl
 |_,_,.ccons _ r=>by simp [r.length]
theorem aw.append:∀ {vs ws:List Value} {ds es:List PyData},aw h M vs ds→aw h M ws es→aw h M (vs++ws) (ds++es)
 | [],ws,ds,es,r,r'=>by
  have:=r.length
  cases ds with
  |nil=>exact r'
  |cons _ _=>simp at this
 |v::vs,ws,[],es,r,_=>by have:=r.length;simp at this
 |v::vs,ws,d::ds,es,r,r'=>by
  refine f_ r.uncons λa b=>?_;exact .cons a (b.append r')
theorem aw.get:∀ {vs:List Value} {ds:List PyData},aw h M vs ds→∀ {i:Nat} {d:PyData},ds[i]? =some d→∃v,vs[i]? =some v∧aJ h M v d
 | [],[],_,i,d,e=>by simp at e
 | [],_::_,r,_,_,_=>by have:=r.length;simp at this
 |_::_,[],r,_,_,_=>by have:=r.length;simp at this
 |v::vs,d::ds,r,i,d',e=>by
  refine f_ r.uncons λa b=>?_;cases i with
  |zero=>simp at e;subst e;exact (aZ v (by simp) a)
  |succ i=>simpa using b.get (by simpa using e)
theorem aw.get':∀ {vs:List Value} {ds:List PyData},aw h M vs ds→∀ {i:Nat} {v:Value},vs[i]? =some v→∃d,ds[i]? =some d∧aJ h M v d
 | [],[],_,i,d,e=>by simp at e
 | [],_::_,r,_,_,_=>by have:=r.length;simp at this
 |_::_,[],r,_,_,_=>by have:=r.length;simp at this
 |v::vs,d::ds,r,i,v',e=>by
  refine f_ r.uncons λa b=>?_;cases i with
  |zero=>simp at e;subst e;exact (aZ d (by simp) a)
  |succ i=>simpa using b.get' (by simpa using e)
theorem aw.drop:∀ (k:Nat) {vs:List Value} {ds:List PyData},aw h M vs ds→aw h M (vs.drop k) (ds.drop k)
 |0,_,_,r=>r
 |k+1,[],[],r=>by simpa using r
 |_+1,[],_::_,r=>by have:=r.length;simp at this
 |_+1,_::_,[],r=>by have:=r.length;simp at this
 |k+1,_::_,_::_,r=>r.uncons.2.drop k
theorem aw.take:∀ (k:Nat) {vs:List Value} {ds:List PyData},aw h M vs ds→aw h M (vs.take k) (ds.take k)
 |0,_,_,_=>by simpa using aw.nil h M
 |k+1,[],[],r=>by simpa using r
 |_+1,[],_::_,r=>by have:=r.length;simp at this
 |_+1,_::_,[],r=>by have:=r.length;simp at this
 |k+1,_::_,_::_,r=>by simpa using aw.cons r.uncons.1 (r.uncons.2.take k)
theorem aw.set:∀ {vs:List Value} {ds:List PyData} (k:Nat) {v:Value} {d:PyData},aw h M vs ds→aJ h M v d→aw h M (vs.set k v) (ds.set k d)
 | [],[],_,_,_,r,_=>by simpa using r
 | [],_::_,_,_,_,r,_=>by have:=r.length;simp at this
 |_::_,[],_,_,_,r,_=>by have:=r.length;simp at this
 |_::_,_::_,0,_,_,r,r'=>by simpa using aw.cons r' r.uncons.2
 |_::_,_::_,k+1,_,_,r,r'=>by simpa using aw.cons r.uncons.1 (r.uncons.2.set k r')
theorem aw.reverse:∀ {vs:List Value} {ds:List PyData},aw h M vs ds→aw h M vs.reverse ds.reverse
 | [],[],r=>by simpa using r
 | [],_::_,r=>by have:=r.length;simp at this
 |_::_,[],r=>by have:=r.length;simp at this
 |_::_,_::_,r=>by simpa using r.uncons.2.reverse.append (aw.cons r.uncons.1 (aw.nil h M))
theorem aJ.tuple{vs:Array Value}(ho:h.get? a=some o)(hc:o.cls=.type "tuple")(hd:o.data=.seq vs n)(r:aw h M vs.toList ds)(hM:a∉M):aJ h M (.ref a) (.tuple ds):=.ctuple (UR o ho hc n hd) hM r
theorem aJ.list{vs:Array Value}(hp:h.PlainList a vs)(r:aw h M vs.toList ds)(hM:a∉M):aJ h M (.ref a) (.list ds):=.clist hp hM r
theorem aJ.of_list(r:aJ h M v (.list ds)):∃a items,v=.ref a∧h.PlainList a items∧aw h M items.toList ds∧a∉M:=by
 cases r with
 |clist p ha r=>exact (uX _ _ rfl p r ha)
theorem aJ.of_tuple(r:aJ h M v (.tuple ds)):∃a items,v=.ref a∧h.IsTuple a items∧aw h M items.toList ds:=by
 cases r with
 |ctuple p ha r=>exact (dy _ _ rfl p r)
theorem aJ.of_int{i:Int}(r:aJ h M v (.int i)):∃t,v=.int i t:=by
 cases r with
 |cint _ t=>exact ⟨t,rfl⟩
theorem aJ.of_bool{i:Bool}(r:aJ h M v (.bool i)):v=.bool i:=by
 cases r;rfl
theorem aJ.of_none(r:aJ h M v .none):v=.none:=by
 cases r;rfl
theorem aJ.of_str{i:Str}(r:aJ h M v (.str i)):∃t,v=.str i t:=by
 cases r with
 |cstr _ t=>exact ⟨t,rfl⟩
inductive ah where
 |live (xs:List PyData)
 |frozen (xs:List PyData)
 |iter (xs:List PyData)
noncomputable def ah.isMut:ah→Bool
 | .frozen _=>false
 |_=>true
inductive AV where
 |d (x:PyData)
 |c (i:Nat)
 |rng (a b:Int)
 |ty (T:String)
noncomputable def ai:List Addr→List ah→List Addr
 |a::α,c::μ=>if c.isMut then a::ai α μ else ai α μ
 |_,_=>[]
theorem vj:∀ {μ:List ah},ai [] μ=[]
 | []=>rfl
 |_::_=>rfl
theorem r8{c:ah}{μ:List ah}:ai (a::α) (c::μ)=if c.isMut then a::ai α μ else ai α μ:=rfl
theorem db:∀ {α:List Addr} {μ:List ah} {a:Addr},a∈ai α μ→a∈α
 | [],_,_,h=>(Er (vj▸h)).elim
 |_::_,[],_,h=>(Er h).elim
 |b::α,c::μ,a,h=>by
  rw [r8] at h
  split at h
  ·rcases Cc.mp h with rfl|h
   ·exact FI ..
   ·exact D1 _ (db h)
  ·exact D1 _ (db h)
theorem pZ:∀ {α:List Addr} {μ:List ah} {i:Nat} {a:Addr} {c:ah},α[i]? =some a→μ[i]? =some c→c.isMut=true→a∈ai α μ
 | [],_,_,_,_,h,_,_=>by simp at h
 |_::_,[],_,_,_,_,h,_=>by simp at h
 |b::α,c::μ,0,a,c',h1,h2,h3=>by
  simp at h1 h2;subst h1;subst h2
  rw [r8,if_pos h3];exact FI ..
 |b::α,c::μ,i+1,a,c',h1,h2,h3=>by
  have:=pZ (α:=α) (μ:=μ) (i:=i) (by simpa using h1) (by simpa using h2) h3
  rw [r8];split
  ·exact D1 _ this
  ·exact this
theorem pQ:∀ {α δ:List Addr} {μ κ:List ah},α.length=μ.length→ai (α++δ) (μ++κ)=ai α μ++ai δ κ
 | [],_,[],_,_=>rfl
 | [],_,_::_,_,h=>by simp at h
 |_::_,_,[],_,h=>by simp at h
 |a::α,δ,c::μ,κ,h=>by
  refine (?_:(if c.isMut then a::ai (α++δ) (μ++κ) else ai (α++δ) (μ++κ))=(if c.isMut then a::ai α μ else ai α μ)++ai δ κ);rw [pQ (by simpa using h)]
  split<;>rfl
theorem qE:∀ {α:List Addr} {μ:List ah} {i:Nat} {c:ah} {a:Addr},a∈ai α (μ.set i c)→(∀c₀,μ[i]? =some c₀→c.isMut=true→c₀.isMut=true)→a∈ai α μ
 | [],_,_,_,_,h,_=>(Er (vj▸h)).elim
 |_::_,[],_,_,_,h,_=>h
 |b::α,c::μ,0,c',a,h,q=>by
  simp only [S_] at h
  rw [r8] at h⊢
  split at h
  ·rename_i hc
   rw [if_pos (q c rfl hc)];exact h
  ·split
   ·exact D1 _ h
   ·exact h
 |b::α,c::μ,i+1,c',a,h,q=>by
  simp only [Q2] at h
  rw [r8] at h⊢
  split at h
  ·rename_i hc
   rw [if_pos hc]
   rcases Cc.mp h with rfl|h
   ·exact FI ..
   ·exact D1 _ (qE h λc₀ e=>q c₀ (by simpa using e))
  ·rename_i hc
   rw [if_neg hc];exact qE h λc₀ e=>q c₀ (by simpa using e)
def KM(h:Heap)(a:Addr):Prop:=∃o k,h.get? a=some o∧o.cls=.type "list_iterator"∧o.data=.fields #[.none,k]
noncomputable def ee(h:Heap)(M:List Addr)(a:Addr):ah→Prop
 | .live xs=>∃items,h.PlainList a items∧aw h M items.toList xs
 | .frozen xs=>aJ h M (.ref a) (.list xs)
 | .iter xs=>(∃l k items,h.IsListIter a l k∧h.PlainList l items∧l∉M∧k≤items.size∧aw h M (items.toList.drop k) xs)∨(xs=[]∧KM h a)
noncomputable def bq(h:Heap)(α M:List Addr)(v:Value):AV→Prop
 | .d x=>aJ h M v x
 | .c i=>∃a,α[i]? =some a∧v=.ref a
 | .rng a b=>∃r t u w,v=.ref r∧IsRange h r a b 1 t u w∧r∉M
 | .ty T=>v=.type T
set_option genInjectivity false in
structure gK where
 prog:Program
 w:World
 B:Heap
 os:OsState
 mg:Str→Option Value
 mb:Str→Option Value
 g:B.Ns mainGlobals mg
 b:B.Ns builtinsNs mb
 bt:∀x:Str,x≠"__name__"→mb x=bootBuiltins x
 nolim:B.NoLimit
structure bl (C:gK) (T α:List Addr) (μ:List ah) (s:Shared):Prop where
 keep:∀b o,C.B.get? b=some o→s.heap.get? b=some o
 len:α.length=μ.length
 cells:∀ (i:Nat) a c,α[i]? =some a→μ[i]? =some c→ee s.heap (T++ai α μ) a c
 nodup:α.Nodup
 apart:∀a∈T,a∉α
 tdom:∀a∈T,∃o,s.heap.get? a=some o
 tnew:∀a∈T,C.B.get? a=none
 new:∀a∈α,C.B.get? a=none
 gens:AllBare s.gens
 os:s.os=C.os
structure aV (O α:List Addr) (μ:List ah) (s:Shared) (α':List Addr) (μ':List ah) (s':Shared):Prop where
 pre:∃δ,α'=α++δ∧∀a∈δ,s.heap.get? a=none
 ext:g7 (O++ai α μ) s.heap s'.heap
 mts:∀a∈ai α' μ',a∈ai α μ∨s.heap.get? a=none
 dom:∀a o,s.heap.get? a=some o→∃o',s'.heap.get? a=some o'
 gens:∀ (i:Nat) (x:GenState),s.gens[i]? =some x→s'.gens[i]? =some x
theorem dY(d:∀a o,h.get? a=some o→∃o',h'.get? a=some o')(e:h'.get? a=none):h.get? a=none:=by
 cases q:h.get? a with
 |none=>rfl
 |some o=>refine bP (d a o q) λo' z=>?_;rw [e] at z;exact cv z
theorem aV.refl(O α:List Addr)(μ:List ah)(s:Shared):aV O α μ s α μ s:=
 ⟨(aZ ([]) (by simp) (by simp)),g7.refl _ _,λzz h=>.inl h,λzz o e=>⟨o,e⟩,λzz zz e=>e⟩
theorem aV.trans{α'':List Addr}{μ μ' μ'':List ah}(x:aV O α μ s α' μ' s')(y:aV O α' μ' s' α'' μ'' s''):aV O α μ s α'' μ'' s'':=by
 refine au x.pre λδ e1 d1=>?_;refine au y.pre λδ' e2 d2=>?_;refine ⟨(aZ (δ++δ') (by rw [e2,e1,Eu]) (λa ha=>?_)),λb o e ht=>y.ext b o (x.ext b o e ht) λhb=>?_,λa ha=>?_,λa o e=>?_,λi z e=>y.gens i z (x.gens i z e)⟩
 ·rcases AE.mp ha with h|h
  ·exact d1 a h
  ·exact dY x.dom (d2 a h)
 ·rcases AE.mp hb with h|h
  ·exact ht (ye _ h)
  ·rcases x.mts b h with q|q
   ·exact ht (CR _ q)
   ·rw [e] at q;exact cv (F6 q)
 ·rcases y.mts a ha with q|q
  ·exact x.mts a q
  ·exact .inr (dY x.dom q)
 ·refine bP (x.dom a o e) λo' e'=>?_
  exact y.dom a o' e'
theorem aV.weak{O':List Addr}{μ μ':List ah}(x:aV O α μ s α' μ' s')(h:∀a∈O,a∈O'∨s.heap.get? a=none):aV O' α μ s α' μ' s':=
 ⟨x.pre,x.ext.mono λa ha=>by
  rcases AE.mp ha with q|q
  ·rcases h a q with z|z
   ·exact .inl (ye _ z)
   ·exact .inr z
  ·exact .inl (CR _ q),x.mts,x.dom,x.gens⟩
theorem aV.up{μ μ':List ah}(x:aV [] α μ s α' μ' s'):aV O α μ s α' μ' s':=x.weak (by simp)
def bW(h:Heap)(a:Addr):Prop:=∃o,h.get? a=some o∧((∃es n,o.data=.dict es n)∨(∃v,o.data=.cell v))
theorem bW.notSeq(x:bW h a):¬SeqAt h a:=by
 intro zi0;refine fq zi0 λo vs n e d=>?_;refine au x λo' e' q=>?_;rw [e] at e';cases e'
 rcases q with ⟨es,n',q⟩| ⟨v,q⟩<;>rw [d] at q<;>cases q
theorem bW.notRange{r:Addr}(x:bW h r){t w:Tok}{p q z:Int}(hr:IsRange h r p q z t u w):False:=by
 refine au x λo' e' k=>?_;rw [hr] at e';cases e'
 rcases k with ⟨es,n',q⟩| ⟨v,q⟩<;>cases q
def iI(O T:List Addr)(h:Heap):Prop:=∀a∈O,h.get? a=none∨bW h a∨a∈T
theorem iI.nil(T:List Addr)(h:Heap):iI [] T h:= λa ha=>by cases ha
theorem iI.seq(k:iI W M h):∀a∈W,SeqAt h a→a∈M:= λa ha q=>(k a ha).elim (λz=>absurd z (fX q)) λz=>z.elim (λz=>absurd q z.notSeq) λz=>z
theorem iI.app{N:List Addr}(k:iI O T h):iI (O++N) (T++N) h:= λa ha=>(AE.mp ha).elim (λz=>(k a z).imp id (Or.imp id (ye _))) λz=>.inr (.inr (CR _ z))
theorem aV.hm{μ μ':List ah}(x:aV O α μ s α' μ' s')(hT:∀a∈T',a∈T∨s.heap.get? a=none):∀a∈T'++ai α' μ',a∈T++ai α μ∨s.heap.get? a=none:= λa ha=>
 (AE.mp ha).elim (λh=>(hT a h).imp_left (ye _)) λh=>(x.mts a h).imp_left (CR _)
section
theorem aJ.ext(r:aJ h M v d)(x:g7 W h h')(k:iI W M h)(hm:∀a∈M',a∈M∨h.get? a=.none):aJ h' M' v d:=r.step x k.seq hm
theorem aw.ext{v:List Value}{d:List PyData}(r:aw h M v d)(x:g7 W h h')(k:iI W M h)(hm:∀a∈M',a∈M∨h.get? a=none):aw h' M' v d:=aw.step x k.seq hm r
theorem bq.ext{V:AV}(r:bq h α M v V)(x:g7 W h h')(k:iI W M h)(hα:∀ (i:Nat) a,α[i]? =some a→α'[i]? =some a)(hm:∀a∈M',a∈M∨h.get? a=none):bq h' α' M' v V:=by
 cases V with
 |d y=>exact aJ.ext (d:=y) r x k hm
 |c i=>exact au r λa e z=>aZ a (hα i a e) z
 |ty T=>exact r
 |rng p q=>
  refine q9 r λr t u w z hr hM=>?_;have dm:h.get? r≠none:= λz=>cv (z.symm.trans hr);exact qj r t u w z (x _ _ hr λhb=>(k r hb).elim dm λz=>z.elim (λz=>z.notRange hr) hM) (λq=>(hm r q).elim hM dm)
theorem ee.ext{c:ah}(y:ee h M a c)(x:g7 W h h')(k:iI W M h)(hm:∀a∈M',a∈M∨h.get? a=none)(ha:c.isMut=true→a∈W→False):ee h' M' a c:=by
 cases c with
 |live xs=>exact au y λitems p r=>aZ items (eQ p x (ha rfl)) (r.ext x k hm)
 |frozen xs=>exact aJ.ext y x k hm
 |iter xs=>
  refine y.imp (λz=>i8 z λl k' items z p2 hl hk r=>?_) λz=>NQ z λz1 o k' e q d=>N_ z1 o k' (x _ _ e (ha rfl)) q d;refine i4 l k' items (au z λo e q=>aZ o (x _ _ e (ha rfl)) q) (eQ p2 x λq=>hl (k.seq _ q (fG p2))) (λq=>(hm l q).elim hl (fX (fG p2))) hk (r.ext x k hm)
end
theorem ee.dom{c:ah}(x:ee h M a c)(q:h.get? a=none):False:=by
 cases c with
 |live xs=>exact au x λitems p r=>fX (fG p) q
 |frozen xs=>exact bm (aJ.of_list x) λl items e p zz=>by cases e;exact fX (fG p) q
 |iter xs=>exact x.elim (λz=>i8 z λl k items z zz zz zz zz=>au z λo e zz=>cv (q.symm.trans e)) λz=>SZ z λzz o k e zz=>cv (q.symm.trans e)
theorem aV.at{μ μ':List ah}(x:aV O α μ s α' μ' s')(i:Nat)(a:Addr)(e:α[i]? =some a):α'[i]? =some a:=
 au x.pre λδ e1 zz=>by rw [e1,F9 (BW.mp e).1];exact e
theorem bq.stepO{μ μ':List ah}{V:AV}(r:bq s.heap α (T++ai α μ) v V)(x:aV O α μ s α' μ' s')(hO:iI O T s.heap)(hT:∀a∈T',a∈T∨s.heap.get? a=none):
 bq s'.heap α' (T'++ai α' μ') v V:=r.ext x.ext hO.app x.at (x.hm hT)
theorem bq.step0{μ μ':List ah}{V:AV}(r:bq s.heap α (T++ai α μ) v V)(x:aV [] α μ s α' μ' s'):bq s'.heap α' (T++ai α' μ') v V:=r.stepO x (iI.nil _ _) λa ha=>.inl ha
theorem aJ.step0{μ μ':List ah}(r:aJ s.heap (T++ai α μ) v d)(x:aV [] α μ s α' μ' s'):aJ s'.heap (T++ai α' μ') v d:=bq.step0 (V:=.d d) r x
theorem aw.stepO{μ μ':List ah}{v:List Value}{d:List PyData}(r:aw s.heap (T++ai α μ) v d)(x:aV O α μ s α' μ' s')(hO:iI O T s.heap)(hT:∀a∈T',a∈T∨s.heap.get? a=none):aw s'.heap (T'++ai α' μ') v d:=
 r.ext x.ext hO.app (x.hm hT)
theorem aw.step0{μ μ':List ah}{v:List Value}{d:List PyData}(r:aw s.heap (T++ai α μ) v d)(x:aV [] α μ s α' μ' s'):aw s'.heap (T++ai α' μ') v d:=r.stepO x (iI.nil _ _) λa ha=>.inl ha
variable {V V' : AV} {c c' : ah} {C : gK} {Vs : List AV} {Mid : List Addr → List Addr → List Addr → List ah → Nat → Value → Shared → Prop} {μ μ' μ'' μ1 μ2 μ3 μ₀ : List ah} {ha ke td te tx : Option AV}
noncomputable abbrev d5:=List (Option AV)
set_option genInjectivity false in
structure Cx where
 scope:Scope
 names:List (Str×Nat)
structure Sf (cx:Cx) (env:Env) (O:List Addr) (ρ:d5) (h:Heap) (α M:List Addr) (cad:Nat→Addr):Prop where
 look:∀ (i:Nat) x k,cx.names[i]? =some (x,k)→2≤k→env.cells.lookup x=some (cad i)
 has:∀ (i:Nat) x k,cx.names[i]? =some (x,k)→2≤k→∃o,h.IsCell (cad i) o∧∀V,ρ[i]? =some (some V)→∃v,o=some v∧bq h α M v V
 own:∀ (i:Nat) x,cx.names[i]? =some (x,2)→cad i∈O
 inj:∀ (i j:Nat) x y k l,cx.names[i]? =some (x,k)→cx.names[j]? =some (y,l)→2≤k→2≤l→cad i=cad j→i=j
def Ei(cx:Cx)(env:Env)(a:Addr):Prop:=a=env.locals∨∃ (i:Nat) (x:Str) (k:Nat),cx.names[i]? =some (x,k)∧2≤k∧env.cells.lookup x=some a
structure bh (C:gK) (cx:Cx) (env:Env) (O:List Addr) (ρ:d5) (h:Heap) (α M:List Addr):Prop where
 sc:env.scope=cx.scope
 gl:env.globals=mainGlobals
 bn:env.builtins=builtinsNs
 len:ρ.length=cx.names.length
 loc:∃m,h.Ns env.locals m∧∀ (i:Nat) x V,cx.names[i]? =some (x,1)→ρ[i]? =some (some V)→∃v,m x=some v∧bq h α M v V
 cel:∃cad,Sf cx env O ρ h α M cad
 own:∀a∈O,bW h a∧C.B.get? a=none
 lo:env.locals∈O
 off:∀a∈M,¬ (Ei cx env a∨a∈O)
 nd:∀ (i j:Nat) x,cx.names[i]? =some (x,1)→cx.names[j]? =some (x,1)→i=j
theorem qh{c:Addr}{o:Option Value}(hc:h.IsCell c o)(x:g7 W h h')(hn:c∉W):h'.IsCell c o:=by
 refine au hc λob e d=>?_;exact (aZ ob (x _ _ e λq=>absurd q hn) d)
theorem z9{c:Addr}{m:Str→Option Value}(hc:h.Ns c m)(x:g7 W h h')(hn:c∉W):h'.Ns c m:=by
 refine fq hc λob es ep e d=>?_;exact (lK ob es ep (x _ _ e λq=>absurd q hn) d)
theorem ee.notFrame(x:ee h M a c):¬bW h a:=by
 intro zi0;refine au zi0 λo e q=>?_;cases c with
 |live xs=>
  refine au x λitems zp1 zz=>?_;refine bP zp1 λn e'=>?_;rw [e'] at e;cases e
  rcases q with ⟨es,n',q⟩| ⟨v,q⟩<;>cases q
 |frozen xs=>
  refine bm (aJ.of_list x) λl items e1 zp3 zz=>?_;refine bP zp3 λn e'=>?_;cases e1;rw [e'] at e;cases e
  rcases q with ⟨es,n',q⟩| ⟨v,q⟩<;>cases q
 |iter xs=>
  rcases x with ⟨l,k,items,⟨o',e',_,ed⟩,_⟩| ⟨_,o',k,e',_,ed⟩
  all_goals
   rw [e'] at e;cases e
   rcases q with ⟨es,n',q⟩| ⟨v,q⟩<;>rw [ed] at q<;>cases q
theorem iE{α:Type}{l:List α}{a:α}(h:a∈l):∃i:Nat,l[i]? =some a:=by
 obtain ⟨i,hi,e⟩:=List.mem_iff_getElem.mp h;exact ⟨i,by rw [Ft hi,e]⟩
theorem bl.at(I:bl C T α μ s)(ha:a∈α):∃c,ee s.heap (T++ai α μ) a c:=
 bP (iE ha) λi e=>⟨_,I.cells i a _ e (Ft (I.len▸(BW.mp e).1))⟩
theorem bl.cdom(I:bl C T α μ s)(ha:a∈α)(q:s.heap.get? a=none):False:=bP (I.at ha) λzz z=>z.dom q
theorem bl.notFrame(I:bl C T α μ s)(ha:a∈α):¬bW s.heap a:=bP (I.at ha) λzz z=>z.notFrame
theorem gW{c:Addr}{o:Option Value}(x:h.IsCell c o):bW h c:=let ⟨ob,e,d⟩:=x;⟨ob,e,.inr ⟨o,d⟩⟩
theorem fQ{c:Addr}{m:Str→Option Value}(x:h.Ns c m):bW h c:=let ⟨ob,es,ep,e,d,_⟩:=x;⟨ob,e,.inl (jN es ep d)⟩
theorem bW.ext(x:bW h a)(e:g7 W h h')(hn:a∉W):bW h' a:=let ⟨o,ho,q⟩:=x;⟨o,e _ _ ho λz=>absurd z hn,q⟩
theorem bh.inFr{cx:Cx}{ρ:d5}(F:bh C cx env O ρ h α M)(ha:Ei cx env a):bW h a:=by
 rcases ha with rfl| ⟨i,x,k,e,hk,hl⟩
 ·exact (F.own _ F.lo).1
 ·refine bP F.cel λcad hc=>?_
  have:=hc.look i x k e hk
  rw [hl] at this;refine cC (F6 this) ?_
  refine au (hc.has i x k e hk) λo ho zz=>?_;exact gW ho
theorem bh.frA{cx:Cx}{ρ:d5}(F:bh C cx env O ρ h α M)(ha:Ei cx env a∨a∈O):bW h a:=ha.elim F.inFr λq=>(F.own a q).1
theorem bW.dom(x:bW h a):h.get? a≠none:=by
 refine au x λo e zz=>?_;rw [e];simp
theorem bh.ext{cx:Cx}{ρ:d5}(F:bh C cx env O ρ h α M)(x:g7 W h h')(k:iI W M h)(hα:∀ (i:Nat) a,α[i]? =some a→α'[i]? =some a)(hm:∀a∈M',a∈M∨h.get? a=none)(nf:∀a,Ei cx env a∨a∈O→a∈W→False):bh C cx env O ρ h' α' M':=by
 refine ⟨F.sc,F.gl,F.bn,F.len,au F.loc λm hq hl=>aZ m (z9 hq x (nf _ (.inl (.inl rfl)))) λi y V h1 h2=>au (hl i y V h1 h2) λv e r=>aZ v e (r.ext x k hα hm),bP F.cel λcad hc=>⟨cad,hc.look,λi y j h1 h2=>?_,hc.own,hc.inj⟩,λa ha=>⟨(F.own a ha).1.ext x (nf _ (.inr ha)),(F.own a ha).2⟩,F.lo,λa ha q=>(hm a ha).elim (λz=>F.off a z q) (F.frA q).dom,F.nd⟩;refine au (hc.has i y j h1 h2) λo ho hv=>aZ o (qh ho x (nf _ (.inl (.inr (pc i y j h1 h2 (hc.look i y j h1 h2)))))) λV h3=>au (hv V h3) λv e r=>aZ v e (r.ext x k hα hm)
theorem bh.step{cx:Cx}{ρ:d5}(F:bh C cx env O ρ s.heap α (T++ai α μ))(I:bl C T α μ s)(x:aV [] α μ s α' μ' s'):
  bh C cx env O ρ s'.heap α' (T++ai α' μ'):=
 F.ext x.ext (iI.nil T _).app x.at (x.hm λzz h=>.inl h) λzz q h=>I.notFrame (db h) (F.frA q)
structure cR (A:Around) (n:Nat):Prop where
 depth:A.depth+4*n<600
 units:A.units+200*n+400<cLine
 handled:A.handled=none
theorem cR.mono{m:Nat}(r:cR A n)(h:m≤n):cR A m:=⟨by have:=r.depth;lia,by have:=r.units;have:200*m≤200*n:=Nat.mul_le_mul_left _ h;lia,r.handled⟩
noncomputable def bI(C:gK)(T α:List Addr)(μ:List ah)(s:Shared)(μ':List ah)(V:AV):Value→Shared→Prop:= λv s'=>
 ∃α',bl C T α' μ' s'∧aV [] α μ s α' μ' s'∧bq s'.heap α' (T++ai α' μ') v V
noncomputable abbrev EF:=d5→List ah→Option (AV×List ah)
structure ab (C:gK) (n:Nat) (cx:Cx) (e:Expr) (f:EF):Prop where
 of::
 run:∀A env O T ρ α μ s E V μ',cR A n→bl C T α μ s→bh C cx env O ρ s.heap α (T++ai α μ)→f ρ μ=some (V,μ')→
  wpAny (model C.prog C.w) A (eval e env) (bI C T α μ s μ' V) E s
section
theorem ee.stepO(x:ee s.heap (T++ai α μ) a c)(y:aV O α μ s α' μ' s')(hO:iI O T s.heap)(hT:∀a∈T',a∈T∨s.heap.get? a=none)(ha:c.isMut=true→a∈O++ai α μ→False):ee s'.heap (T'++ai α' μ') a c:=x.ext y.ext hO.app (y.hm hT) ha
theorem bl.ext(I:bl C T α μ s)(x:g7 W s.heap h')(hB:∀a∈W,C.B.get? a=none)(k:iI W T s.heap)(hα:∀a∈α,a∈W→False)(hT:∀a∈T',a∈T)(hd:∀a∈T',∃o,h'.get? a=some o)(hs:s'.heap=h')(hg:AllBare s'.gens)(ho:s'.os=s.os):bl C T' α μ s':=by
 subst hs;have k':iI W (T++ai α μ) s.heap:= λa ha=>(k a ha).imp id (Or.imp id (ye _));exact ⟨λb o e=>x b o (I.keep b o e) λq=>cv ((hB b q).symm.trans e),I.len,λi a c h1 h2=>(I.cells i a c h1 h2).ext x k' (λa ha=>.inl ((AE.mp ha).elim (λq=>ye _ (hT a q)) (CR _))) λzz=>hα a (FW h1),I.nodup,λa ha=>I.apart a (hT a ha),hd,λa ha=>I.tnew a (hT a ha),I.new,hg,ho.trans I.os⟩
theorem bl.keeps(I:bl C T α μ s)(hk:∀b o,s.heap.get? b=some o→h'.get? b=some o):bl C T α μ {s with heap:=h',toks:=tk}:=
 I.ext (W:=[]) (g7.of_keeps hk) (λzz h=>nomatch h) (iI.nil _ _) (λzz zz h=>nomatch h) (λzz h=>h) (λa ha=>(I.tdom a ha).imp λo e=>hk a o e) rfl I.gens rfl
theorem aV.keeps(hk:∀b o,s.heap.get? b=some o→h'.get? b=some o):aV [] α μ s α μ {s with heap:=h',toks:=tk}:=
 ⟨(aZ ([]) (by simp) (by simp)),g7.of_keeps hk,λzz h=>.inl h,λa o e=>⟨o,hk a o e⟩,λzz zz e=>e⟩
theorem bI.of_keeps(I:bl C T α μ s)(hk:∀b o,s.heap.get? b=some o→h'.get? b=some o)(hv:bq h' α (T++ai α μ) v V):bI C T α μ s μ V v {s with heap:=h',toks:=tk}:=
 (cL α (I.keeps hk) (aV.keeps hk) hv)
theorem bI.tok(I:bl C T α μ s)(hv:bq s.heap α (T++ai α μ) v V):bI C T α μ s μ V v {s with toks:=tk}:=bI.of_keeps (h':=s.heap) I (λzz zz e=>e) hv
theorem bI.same(I:bl C T α μ s)(hv:bq s.heap α (T++ai α μ) v V):bI C T α μ s μ V v s:=(cL α I (aV.refl _ _ _ _) hv)
theorem bI.trans(x:aV [] α μ s α' μ' s')(p:bI C T α' μ' s' μ'' V v s''):bI C T α μ s μ'' V v s'':=by
 refine ct p λα'' I y r=>?_;exact (cL α'' I (x.trans y) r)
end
section
variable {cx:Cx}
theorem ab.go{f:EF}{ρ:d5}(hf:ab C n cx e f)(R:cR A n)(I:bl C T α μ s)(F:bh C cx env O ρ s.heap α (T++ai α μ))(q:f ρ μ=some (V,μ'))
  (k:∀v s' α',bl C T α' μ' s'→aV [] α μ s α' μ' s'→bq s'.heap α' (T++ai α' μ') v V→Q v s'):wpAny (model C.prog C.w) A (eval e env) Q E s:=
 D2 (hf.run A env O T ρ α μ s E V μ' R I F q) (λv s' p=>ct p λα' I' S' r=>k v s' α' I' S' r) λzz zz x=>x
theorem ab.goF{f:EF}{ρ:d5}(hf:ab C n cx e f)(R:cR A n)(I:bl C T α μ s)(F:bh C cx env O ρ s.heap α (T++ai α μ))(q:f ρ μ=some (V,μ'))
  (k:∀v s' α',bl C T α' μ' s'→aV [] α μ s α' μ' s'→bh C cx env O ρ s'.heap α' (T++ai α' μ')→bq s'.heap α' (T++ai α' μ') v V→Q v s'):wpAny (model C.prog C.w) A (eval e env) Q E s:=
 hf.go R I F q λv s' α' I' S' r=>k v s' α' I' S' (F.step I S') r
theorem W2{i:Int}:ab C n cx (.Constant (.int i) k pos) (λzz μ=>some (.d (.int i),μ)):=by
 refine .of ?_;intro A env O T ρ α μ s E V μ' _ I _ h;refine cm h ?_;exact λzz zz zz=>bI.tok I (aJ.int ..)
theorem H_:ab C n cx (.Constant (.str x) k pos) (λzz μ=>some (.d (.str x),μ)):=by
 refine .of ?_;intro A env O T ρ α μ s E V μ' _ I _ h;refine cm h ?_;exact λzz zz zz=>bI.tok I (aJ.str ..)
theorem OV{b:Bool}:ab C n cx (.Constant (.bool b) k pos) (λzz μ=>some (.d (.bool b),μ)):=by
 refine .of ?_;intro A env O T ρ α μ s E V μ' _ I _ h;refine cm h ?_;exact ES (bI.same I (aJ.bool ..))
theorem NW:ab C n cx (.Constant .none k pos) (λzz μ=>some (.d .none,μ)):=by
 refine .of ?_;intro A env O T ρ α μ s E V μ' _ I _ h;refine cm h ?_;exact ES (bI.same I (aJ.none ..))
def a9(i:Nat):EF:= λρ μ=>(ρ[i]?.bind id).bind λV=>some (V,μ)
theorem Ax{ρ:d5}(h:a9 i ρ μ=some (V,μ'))(k:ρ[i]? =some (some V)→μ=μ'→G):G:=by
 unfold a9 at h
 cases q:ρ[i]? with
 |none=>rw [q] at h;exact cv h
 |some o=>
  cases o with
  |none=>rw [q] at h;exact cv h
  |some W=>rw [q] at h;cases h;exact k q rfl
theorem rE(i:Nat)(hn:cx.names[i]? =some (x,1))(hl:cx.scope.names.lookup x=some .local)(hk:cx.scope.kind=.function)(hd:(x==("__debug__":Str))=false):ab C n cx (.Name x pos) (a9 i):=by
 refine .of ?_;intro A env O T ρ α μ s E V μ' _ I F h;refine au F.loc λm hm hq=>?_;refine Ax h λe z=>?_;subst z;refine au (hq i x V hn e) λv e1 r=>?_;exact UP (Ps (by rw [F.sc];exact hk) (by unfold Jz;rw [F.sc];exact hl) hm e1 (bI.same I r)) hd
theorem bF(i:Nat)(k:Nat)(hn:cx.names[i]? =some (x,k))(h2:2≤k)(hl:cx.scope.names.lookup x=some .cell)(hk:cx.scope.kind=.function)(hd:(x==("__debug__":Str))=false):ab C n cx (.Name x pos) (a9 i):=by
 refine .of ?_;intro A env O T ρ α μ s E V μ' _ I F h;refine bP F.cel λcad hc=>?_;refine Ax h λe z=>?_;subst z;refine au (hc.has i x k hn h2) λo ho hv=>?_;refine au (hv _ e) λv zq1 r=>?_;subst zq1;exact UP (wpAny_loadName_cell (by rw [F.sc];exact hk) (by unfold Jz;rw [F.sc];exact hl) (hc.look i x k hn h2) ho (bI.same I r)) hd
theorem Px{i:Int}{t:Tok}(hg:C.mg x=some (.int i t))(hl:cx.scope.names.lookup x=some .globalImplicit)(hk:cx.scope.kind=.function)(hd:(x==("__debug__":Str))=false):ab C n cx (.Name x pos) (λzz μ=>some (.d (.int i),μ)):=by
 refine .of ?_;intro A env O T ρ α μ s E V μ' _ I F h;refine cm h ?_;exact Fe (by rw [F.sc];exact hk) (by unfold Jz;rw [F.sc];exact hl) (Ln (by rw [F.gl];exact C.g.keeps I.keep) hg (bI.same I (aJ.int ..))) hd
end
variable {cx : Cx} {f fi fo g : EF} {fs : List EF} {ρ ρ' ρ1 ρ2 : d5} {tf : d5 → PyData → Option d5}
noncomputable def bp{X:Type u0}{Y:Type u1}{Z:Type u2}(o:Option (X×Y))(k:X→Y→Option Z):Option Z:=o.rec none λp=>k p.1 p.2
noncomputable def bo{X:Type u0}{Z:Type u2}(o:Option X)(k:X→Option Z):Option Z:=o.rec none k
noncomputable def oe{X:Type u0}{Y:Type u1}{Z:Type u2}(o:Option X)(p:Option Y)(k:X→Y→Z)(e:Z):Z:=o.rec e λa=>p.rec e λb=>k a b
theorem aD{X:Type u0}{Y:Type u1}{Z:Type u2}{o:Option (X×Y)}{k:X→Y→Option Z}{r:Z}(h:bp o k=some r)(q:∀a b,o=some (a,b)→k a b=some r→G):G:=by
 cases o with
 |none=>exact cv h
 |some p=>exact q p.1 p.2 rfl h
theorem ax{X:Type u0}{Z:Type u2}{o:Option X}{k:X→Option Z}{r:Z}(h:bo o k=some r)(q:∀a,o=some a→k a=some r→G):G:=by
 cases o with
 |none=>exact cv h
 |some p=>exact q p rfl h
theorem bV{X:Type u0}{Y:Type u1}{Z:Type u2}{o:Option X}{p:Option Y}{k:X→Y→Option Z}{e:Option Z}{r:Z}(h:oe o p k e=some r)(q:∀a b,o=some a→p=some b→k a b=some r→G)(q':e=some r→G):G:=by
 cases o with
 |none=>exact q' h
 |some a=>
  cases p with
  |none=>exact q' h
  |some b=>exact q a b rfl rfl h
theorem i7{c:Prop}{i:Decidable c}{Z:Type u0}{x:Option Z}{r:Z}{G:Prop}(h:(if c then x else none)=some r)(q:c→x=some r→G):G:=by
 by_cases hc:c
 ·rw [if_pos hc] at h;exact q hc h
 ·rw [if_neg hc] at h;exact cv h
theorem ifB{c:Prop}{i:Decidable c}{Z:Type u0}{x y:Option Z}{r:Z}(h:(if c then x else y)=some r)(q:c→x=some r→G)(q':¬c→y=some r→G):G:=by
 by_cases hc:c
 ·rw [if_pos hc] at h;exact q hc h
 ·rw [if_neg hc] at h;exact q' hc h
theorem bpS{X:Type u0}{Y:Type u1}{Z:Type u2}{a:X}{b:Y}{k:X→Y→Option Z}:bp (some (a,b)) k=k a b:=rfl
theorem bpN{X:Type u0}{Y:Type u1}{Z:Type u2}{k:X→Y→Option Z}:bp none k=none:=rfl
theorem boS{X:Type u0}{Z:Type u2}{a:X}{k:X→Option Z}:bo (some a) k=k a:=rfl
theorem boN{X:Type u0}{Z:Type u2}{k:X→Option Z}:bo none k=none:=rfl
noncomputable def dI:PyData→Option Int
 | .int x=>some x
 |_=>none
noncomputable def dS:PyData→Option Str
 | .str x=>some x
 |_=>none
noncomputable def dB:PyData→Option Bool
 | .bool x=>some x
 |_=>none
noncomputable def dN:PyData→Option Unit
 | .none=>some ()
 |_=>none
noncomputable def dT:PyData→Option (List PyData)
 | .tuple x=>some x
 |_=>none
noncomputable def dL:PyData→Option (List PyData)
 | .list x=>some x
 |_=>none
noncomputable def vd:AV→Option PyData
 | .d x=>some x
 |_=>none
noncomputable def Fo:AV→Option Nat
 | .c x=>some x
 |_=>none
noncomputable def W4:AV→Option String
 | .ty x=>some x
 |_=>none
noncomputable def jM(V:AV):Option Int:=bo (vd V) dI
noncomputable def lS(V:AV):Option Str:=bo (vd V) dS
noncomputable def Nw(V:AV):Option Bool:=bo (vd V) dB
noncomputable def Pt(V:AV):Option Unit:=bo (vd V) dN
noncomputable def Hx(V:AV):Option (List PyData):=bo (vd V) dT
noncomputable def Yd(V:AV):Option (List PyData):=bo (vd V) dL
theorem UJ{x:Int}(h:dI d=some x):d=.int x:=by cases d<;>first|exact cv h| (cases h;rfl)
theorem YE(h:dS d=some x):d=.str x:=by cases d<;>first|exact cv h| (cases h;rfl)
theorem al6{x:Bool}(h:dB d=some x):d=.bool x:=by cases d<;>first|exact cv h| (cases h;rfl)
theorem ao4{x:Unit}(h:dN d=some x):d=.none:=by cases d<;>first|exact cv h|rfl
theorem VX{x:List PyData}(h:dT d=some x):d=.tuple x:=by cases d<;>first|exact cv h| (cases h;rfl)
theorem Tz{x:List PyData}(h:dL d=some x):d=.list x:=by cases d<;>first|exact cv h| (cases h;rfl)
theorem iP{x:PyData}(h:vd V=some x):V=.d x:=by cases V<;>first|exact cv h| (cases h;rfl)
theorem B4{x:Nat}(h:Fo V=some x):V=.c x:=by cases V<;>first|exact cv h| (cases h;rfl)
theorem VE{x:String}(h:W4 V=some x):V=.ty x:=by cases V<;>first|exact cv h| (cases h;rfl)
section
theorem fM{x:Int}(e:jM V=some x)(r:bq h α M v V):∃t,v=.int x t:=
 ax e λzz e1 e2=>aJ.of_int (M:=M) (h:=h) (by rw [iP e1,UJ e2] at r;exact r)
theorem j0(e:lS V=some x)(r:bq h α M v V):∃t,v=.str x t:=
 ax e λzz e1 e2=>aJ.of_str (M:=M) (h:=h) (by rw [iP e1,YE e2] at r;exact r)
theorem vz{x:Bool}(e:Nw V=some x)(r:bq h α M v V):v=.bool x:=
 ax e λzz e1 e2=>aJ.of_bool (M:=M) (h:=h) (by rw [iP e1,al6 e2] at r;exact r)
theorem EB{x:Unit}(e:Pt V=some x)(r:bq h α M v V):v=.none:=
 ax e λzz e1 e2=>aJ.of_none (M:=M) (h:=h) (by rw [iP e1,ao4 e2] at r;exact r)
theorem HT{x:List PyData}(e:Hx V=some x)(r:bq h α M v V):∃a items,v=.ref a∧h.IsTuple a items∧aw h M items.toList x:=
 ax e λzz e1 e2=>aJ.of_tuple (M:=M) (h:=h) (by rw [iP e1,VX e2] at r;exact r)
theorem PH{x:List PyData}(e:Yd V=some x)(r:bq h α M v V):aJ h M v (.list x):=
 ax e λzz e1 e2=>(by rw [iP e1,Tz e2] at r;exact r)
theorem Kj{x:Nat}(e:Fo V=some x)(r:bq h α M v V):∃a,α[x]? =some a∧v=.ref a:=(by rw [B4 e] at r;exact r)
theorem ad2{x:String}(e:W4 V=some x)(r:bq h α M v V):v=.type x:=(by rw [VE e] at r;exact r)
end
noncomputable def l1{X:Type u0}:List X→Option X
 | [a]=>some a
 |_=>none
noncomputable def l2{X:Type u0}:List X→Option (X×X)
 | [a,b]=>some (a,b)
 |_=>none
theorem V5{X:Type u0}{l:List X}{a:X}(h:l1 l=some a):l=[a]:=by
 match l,h with
 | [b],h=>exact congrArg (λx=>[x]) (Fh h)
theorem zX{X:Type u0}{l:List X}{a b:X}(h:l2 l=some (a,b)):l=[a,b]:=by
 match l,h with
 | [c,d],h=>cases h;rfl
noncomputable def Qn:ah→Option (List PyData)
 | .live xs=>some xs
 | .frozen xs=>some xs
 | .iter _=>none
noncomputable def dc(μ:List ah)(V:AV):Option (List PyData):=oe (Yd V) (some ()) (λxs zz=>some xs) (bo (Fo V) λi=>bo μ[i]? Qn)
section
theorem bq.isList(I:bl C T α μ s)(r:bq s.heap α (T++ai α μ) v V)(h:dc μ V=some xs):
  ∃a items,v=.ref a∧s.heap.PlainList a items∧aw s.heap (T++ai α μ) items.toList xs:=by
 refine bV h (λxs' zz e zz h=>?_) λh=>ax h λi ei h=>ax h λc ec h=>?_
 ·refine cC (show some xs'=some xs from h) ?_
  exact kQ (aJ.of_list (PH e r)) λa items e hl r zz=>dy a items e hl r
 ·refine au (Kj ei r) λa ha z=>?_
  have q:=I.cells i a c ha ec;cases c with
  |live ys=>refine cC (show some ys=some xs from h) ?_;exact au q λitems hp r=>dy a items z hp r
  |frozen ys=>refine cC (show some ys=some xs from h) ?_;exact kQ (aJ.of_list q) λa' items e' hl r zz=>dy a' items (z.trans e') hl r
  |iter ys=>exact cv h
end
def j8(C:gK)(n:Nat)(op:Operator)(o:AV→AV→List ah→Option (AV×List ah)):Prop:=∀A T α μ s E a b Va Vb V μ',cR A n→bl C T α μ s→
 bq s.heap α (T++ai α μ) a Va→bq s.heap α (T++ai α μ) b Vb→o Va Vb μ=some (V,μ')→wpAny (model C.prog C.w) A (binaryOp op a b) (bI C T α μ s μ' V) E s
def gR(C:gK)(n:Nat)(op:CmpOp)(o:AV→AV→List ah→Option Bool):Prop:=∀A T α μ s E a b Va Vb r,cR A n→bl C T α μ s→
 bq s.heap α (T++ai α μ) a Va→bq s.heap α (T++ai α μ) b Vb→o Va Vb μ=some r→wpAny (model C.prog C.w) A (compareOp op a b) (λv s'=>v=.bool r∧∃tk,s'= {s with toks:=tk}) E s
structure gP (C:gK) (n:Nat) (cx:Cx) (e:Expr) (f:d5→List ah→Option (Bool×List ah)):Prop where
 of::
 run:∀A env O T ρ α μ s E r μ',cR A n→bl C T α μ s→bh C cx env O ρ s.heap α (T++ai α μ)→f ρ μ=some (r,μ')→
  wpAny (model C.prog C.w) A (isTrue e env (eval e env)) (λb s'=>b=r∧∃α',bl C T α' μ' s'∧aV [] α μ s α' μ' s') E s
section
variable {k:EF}
theorem nQ{l r:Expr}{Va Vb:AV}{Q:Value→Value→Shared→Prop}
  (hl:ab C n cx l f) (hr:ab C n cx r g) (R:cR A n) (I:bl C T α μ s) (F:bh C cx env O ρ s.heap α (T++ai α μ)) (e1:f ρ μ=some (Va,μ1)) (e2:g ρ μ1=some (Vb,μ2))
  (h:∀a b s2 α2,bl C T α2 μ2 s2→aV [] α μ s α2 μ2 s2→bq s2.heap α2 (T++ai α2 μ2) a Va→bq s2.heap α2 (T++ai α2 μ2) b Vb→Q a b s2):
  wpAny (model C.prog C.w) A (eval l env) (λa s1=>wpAny (model C.prog C.w) A (eval r env) (λb s2=>Q a b s2) E s1) E s:=by
 refine D2 (hl.run A env O T ρ α μ s E Va μ1 R I F e1) (λa s1 p1=>?_) λzz zz x=>x;refine ct p1 λα1 I1 S1 r1=>?_;refine D2 (hr.run A env O T ρ α1 μ1 s1 E Vb μ2 R I1 (F.step I S1) e2) (λb s2 p2=>?_) λzz zz x=>x;refine ct p2 λα2 I2 S2 r2=>?_;exact h a b s2 α2 I2 (S1.trans S2) (r1.step0 S2) r2
def aj(f g:EF)(o:AV→AV→List ah→Option (AV×List ah)):EF:= λρ μ=>bp (f ρ μ) λa μ1=>bp (g ρ μ1) λb μ2=>o a b μ2
theorem av{l r:Expr}{o:AV→AV→List ah→Option (AV×List ah)}(hl:ab C n cx l f)(hr:ab C n cx r g)(ho:j8 C n op o):ab C n cx (.BinOp l op r pos) (aj f g o):=by
 refine .of ?_;intro A env O T ρ α μ s E V μ' R I F h;refine aD h λVa μ1 e1 h=>?_;refine aD h λVb μ2 e2 h=>?_;refine wpAny_BinOp (nQ hl hr R I F e1 e2 λa b s2 α2 I2 S2 ra rb=>?_);exact D2 (ho A T α2 μ2 s2 E a b Va Vb V μ' R I2 ra rb h) (λv s3 p=>bI.trans S2 p) λzz zz x=>x
def d_(f g:EF)(o:AV→AV→List ah→Option Bool):EF:= λρ μ=>bp (f ρ μ) λa μ1=>bp (g ρ μ1) λb μ2=>bo (o a b μ2) λr=>some (.d (.bool r),μ2)
noncomputable def bA(f g:EF)(o:AV→AV→List ah→Option Bool):d5→List ah→Option (Bool×List ah):= λρ μ=>bp (f ρ μ) λa μ1=>bp (g ρ μ1) λb μ2=>bo (o a b μ2) λr=>some (r,μ2)
theorem fx{l r:Expr}{op:CmpOp}{o:AV→AV→List ah→Option Bool}(hl:ab C n cx l f)(hr:ab C n cx r g)(ho:gR C n op o)(hm:behindInMarks op r=false):ab C n cx (.Compare l [op] [r] pos) (d_ f g o):=by
 refine .of ?_;intro A env O T ρ α μ s E V μ' R I F h;refine aD h λVa μ1 e1 h=>?_;refine aD h λVb μ2 e2 h=>?_;refine ax h λb e3 h=>?_;refine cm h ?_;refine wpAny_Compare1 (nQ hl hr R I F e1 e2 λa b s2 α2 I2 S2 ra rb=>?_) hm;refine D2 (ho A T α2 _ s2 E a b Va Vb _ R I2 ra rb e3) (λv s3 p=>?_) λzz zz x=>x;refine y4 p λzq0 tk zq2=>?_;refine bH (F6 zq0) ?_;refine bH (F6 zq2) ?_;exact bI.trans S2 (bI.tok I2 (aJ.bool ..))
theorem cn{l r:Expr}{op:CmpOp}{o:AV→AV→List ah→Option Bool}(hl:ab C n cx l f)(hr:ab C n cx r g)(ho:gR C n op o)(hm:behindInMarks op r=false):gP C n cx (.Compare l [op] [r] pos) (bA f g o):=by
 refine .of ?_;intro A env O T ρ α μ s E b μ' R I F h;refine aD h λVa μ1 e1 h=>?_;refine aD h λVb μ2 e2 h=>?_;refine ax h λb e3 h=>?_;refine cm h ?_;refine RO (nQ hl hr R I F e1 e2 λa b s2 α2 I2 S2 ra rb=>?_) hm;refine D2 (ho A T α2 _ s2 E a b Va Vb _ R I2 ra rb e3) (λv s3 p=>?_) λzz zz x=>x;refine y4 p λzq0 tk zq2=>?_;refine bH (F6 zq0) ?_;refine bH (F6 zq2) ?_;have z:=S2.trans (aV.keeps (s:=s2) (h':=s2.heap) (tk:=tk) λzz zz e=>e);exact P1 (gN rfl α2 (I2.keeps (h':=s2.heap) λzz zz e=>e) z)
noncomputable def ko(V:AV)(μ:List ah):Option Bool:=oe (Nw V) (some ()) (λb zz=>some b) (oe (jM V) (some ()) (λi zz=>some (i != 0)) (oe (Pt V) (some ()) (λzz zz=>some false) (oe (lS V) (some ()) (λx zz=>if x.length≤sizeLine then some ((x.length:Int) != 0) else none) (bo (dc μ V) λxs=>if xs.length<2^24 then some (!xs.isEmpty) else none))))
theorem mP{b:Bool}(I:bl C T α μ s)(r:bq s.heap α (T++ai α μ) v V)(h:ko V μ=some b):
  wpAny (model C.prog C.w) A (truthy v) (λb' s'=>b'=b∧∃tk,s'= {s with toks:=tk}) E s:=by
 refine bV h (λb' zz e zz h=>?_) λh=>bV h (λi zz e zz h=>?_) λh=>bV h (λb' zz e zz h=>?_) λh=>bV h (λx zz e zz h=>?_) λh=>?_
 ·refine cC h ?_
  rw [vz e r];exact P1 (jc rfl _ rfl)
 ·refine cC h ?_
  refine bP (fM e r) λt zq1=>?_;refine bH (F6 zq1) ?_;exact PyProof.Rows.truthy_int (jc rfl s.toks rfl)
 ·refine cC h ?_
  rw [EB e r];exact truthy_none (jc rfl s.toks rfl)
 ·refine i7 h λhz h=>?_
  refine cC h ?_;refine bP (j0 e r) λt zq1=>?_;refine bH (F6 zq1) ?_;exact PySem.P.truthy_str (by unfold sizeLine at hz;lia) (jc rfl _ rfl)
 ·refine ax h λxs e h=>?_
  refine i7 h λhlen h=>?_;refine cC h ?_;refine bm (r.isList I e) λa items zq2 hl rr=>?_;refine bH (F6 zq2) ?_;have hs:items.size=xs.length:=by rw [←rr.length];simp
  refine wpAny_truthy_list hl.isList (by lia) (jc ?_ _ rfl);have e1:items.isEmpty=xs.isEmpty:=by
   rw [Array.isEmpty,hs];cases xs<;>simp
  rw [e1]
noncomputable def gf(f:EF):d5→List ah→Option (Bool×List ah):= λρ μ=>bp (f ρ μ) λV μ1=>bo (ko V μ1) λb=>some (b,μ1)
theorem ii(he:∀env whole,isTrue e env whole=(do let v←whole;standAt e.pos;holding [v] (truthy v)))(hf:ab C n cx e f):gP C n cx e (gf f):=by
 refine .of ?_;intro A env O T ρ α μ s E b μ' R I F h;refine aD h λV μ1 e1 h=>?_;refine ax h λb' e2 h=>?_;refine cm h ?_;refine isTrue_plain (D2 (hf.run A env O T ρ α μ s E V _ R I F e1) (λv s1 p=>?_) λzz zz x=>x) (he _ _);refine ct p λα1 I1 S1 r1=>?_;refine D2 (mP I1 r1 e2) (λc s2 q=>?_) λzz zz x=>x;refine y4 q λzq0 tk zq2=>?_;refine bH zq0 ?_;refine bH (F6 zq2) ?_;exact (gN rfl α1 (I1.keeps (h':=s1.heap) λzz zz e=>e) (S1.trans (aV.keeps (s:=s1) (h':=s1.heap) (tk:=tk) λzz zz e=>e)))
noncomputable abbrev TF:=d5→List ah→Option (Bool×List ah)
def ui(f:TF):TF:= λρ μ=>bp (f ρ μ) λb μ1=>some (!b,μ1)
theorem Ha{x:Expr}{t:TF}(h:gP C n cx x t):gP C n cx (.UnaryOp .Not x pos) (ui t):=by
 refine .of ?_;intro A env O T ρ α μ s E b μ' R I F q;refine aD q λb1 μ1 e1 q=>?_;refine cm q ?_;refine wpAny_isTrue_Not (D2 (h.run A env O T ρ α μ s E b1 _ R I F e1) (λc s1 p=>?_) λzz zz x=>x);obtain ⟨rfl,p⟩:=p;exact ⟨rfl,p⟩
def J_(f g:TF):TF:= λρ μ=>bp (f ρ μ) λb μ1=>cond b (g ρ μ1) (some (false,μ1))
theorem VW{x y:Expr}{t u:TF}(h:gP C n cx x t)(h':gP C n cx y u):gP C n cx (.BoolOp .And [x,y] pos) (J_ t u):=by
 refine .of ?_;intro A env O T ρ α μ s E b μ' R I F q;refine aD q λb1 μ1 e1 q=>?_;cases b1 with
 |true=>
  refine UT (D2 (h.run A env O T ρ α μ s E true μ1 R I F e1) (λc s1 p=>?_) λzz zz x=>x);refine iB p λzq0 α1 I1 S1=>?_;refine bH (F6 zq0) ?_;rw [if_pos rfl];refine UT (D2 (h'.run A env O T ρ α1 μ1 s1 E b μ' R I1 (F.step I S1) q) (λc s2 p=>?_) λzz zz x=>x);refine iB p λzq0 α2 I2 S2=>?_;refine bH zq0 ?_;cases c
  ·exact (gN rfl α2 I2 (S1.trans S2))
  ·exact isTrue_and_nil (gN rfl α2 I2 (S1.trans S2))
 |false=>
  refine cm q ?_;refine UT (D2 (h.run A env O T ρ α μ s E false _ R I F e1) (λc s1 p=>?_) λzz zz x=>x);refine iB p λzq0 α1 I1 S1=>?_;refine bH (F6 zq0) ?_;exact (gN rfl α1 I1 S1)
def dx(t:TF)(f g:EF):EF:= λρ μ=>bp (t ρ μ) λb μ1=>cond b (f ρ μ1) (g ρ μ1)
theorem fV{x y z:Expr}{t:TF}(h:gP C n cx x t)(hf:ab C n cx y f)(hg:ab C n cx z g):ab C n cx (.IfExp x y z pos) (dx t f g):=by
 refine .of ?_;intro A env O T ρ α μ s E V μ' R I F q;refine aD q λb1 μ1 e1 q=>?_;refine wpAny_IfExp (D2 (h.run A env O T ρ α μ s E b1 μ1 R I F e1) (λc s1 p=>?_) λzz zz x=>x);refine iB p λzq0 α1 I1 S1=>?_;refine bH (F6 zq0) ?_;cases b1 with
 |true=>
  rw [if_pos rfl];exact D2 (hf.run A env O T ρ α1 μ1 s1 E V μ' R I1 (F.step I S1) q) (λv s2 p=>bI.trans S1 p) λzz zz x=>x
 |false=>
  rw [if_neg Hm];exact D2 (hg.run A env O T ρ α1 μ1 s1 E V μ' R I1 (F.step I S1) q) (λv s2 p=>bI.trans S1 p) λzz zz x=>x
def sk(f g:EF):EF:= λρ μ=>bp (f ρ μ) λV μ1=>bo (ko V μ1) λb=>cond b (g ρ μ1) (some (V,μ1))
def orA(f g:EF):EF:= λρ μ=>bp (f ρ μ) λV μ1=>bo (ko V μ1) λb=>cond b (some (V,μ1)) (g ρ μ1)
end
end Mine
namespace Mine
open PySem PySem.W PySem.Calls PyProof.Rows PySem.SeqAt
variable {V V' : AV} {Cn D L TI TO a fa i1 i2 i3 z : Addr} {A : Around} {items zs : Array Value} {sh tup : Bool} {c c' : ah} {C : gK} {cx : Cx} {f fi fo g : EF} {cenv env : Env} {mean : ExcName → Option Value} {e e1 e2 elt iter target test : Expr} {h h' : Heap} {y : Int} {Vs : List AV} {M M' O T T' W wr α α' α1 α₀ : List Addr} {Mid : List Addr → List Addr → List Addr → List ah → Nat → Value → Shared → Prop} {μ μ' μ'' μ1 μ2 μ3 μ₀ : List ah} {fs : List EF} {es : List Expr} {K cs ns os rest : List Int} {gi ls m ps : List Nat} {X acc acc' ds xs ys : List PyData} {body orelse : List Stmt} {vs : List Value} {ρ ρ' ρ1 ρ2 : d5} {tf : d5 → PyData → Option d5} {b i j ja jt k kk low mask n p q tk : Nat} {o : Obj} {op : Operator} {ha ke td te tx : Option AV} {hi lo : Option Expr} {gg : Option Nat} {apos pos px py sp tp xp : Pos} {prog : Program} {G : Prop} {d : PyData} {sc scope : Scope} {s s' s'' s1 s₀ : Shared} {st : Stmt} {name x : Str} {t : TF} {u : Tok} {cd cls doc fv it pm v : Value} {E Q : Value → Shared → Prop} {w : World}
section
theorem bc(h:Heap)(o:Obj):∀b ob,h.get? b=some ob→(h.push o).get? b=some ob:= λzz zz e=>C5 _ e
theorem ig(h:Heap):h.get? h.objs.size=none:=by
 cases e:h.get? h.objs.size with
 |none=>rfl
 |some o=>exact absurd (Me e) (Nat.lt_irrefl _)
theorem eF(I:bl C T α μ s)(ha:s.heap.get? a=none):a∉T++ai α μ:= λh=>by
 rcases AE.mp h with h|h
 ·refine bP (I.tdom _ h) λo e=>?_
  rw [ha] at e;exact cv e
 ·refine bP (iE (db h)) λi e=>?_
  have:i<μ.length:=I.len▸(BW.mp e).1
  have z:=I.cells i a μ[i] e (Ft this);generalize μ[i]=c at z
  cases c with
  |live xs=>refine au z λzz zp1 zz=>?_;obtain ⟨_,e⟩:=zp1;rw [ha] at e;exact cv e
  |frozen xs=>refine bm (aJ.of_list z) λzz zz e1 zp3 zz=>?_;obtain ⟨_,e⟩:=zp3;cases e1;rw [ha] at e;exact cv e
  |iter xs=>rcases z with ⟨_,_,_,⟨_,e,_⟩,_⟩| ⟨_,_,_,e,_⟩<;>rw [ha] at e<;>exact cv e
end
theorem bI.newList(I:bl C T α μ s)(hr:aw s.heap (T++ai α μ) items.toList xs):
  bI C T α μ s μ (.d (.list xs)) (.ref s.heap.objs.size) {s with heap:=s.heap.push {cls:=.type "list",data:=.seq items},toks:=tk}:=by
 refine bI.of_keeps I (bc _ _) ?_;have hf:=ig s.heap;refine aJ.list (vs:=items) ⟨_,Dy _ rfl⟩ (hr.keeps (bc _ _)) (eF I hf)
noncomputable def aT(a b:AV)(μ:List ah):Option (AV×List ah):=oe (jM a) (jM b) (λx y=>some (.d (.int (x+y)),μ)) (oe (lS a) (lS b) (λx y=>if x.length+y.length≤sizeLine then some (.d (.str (x++y)),μ) else none) (bo (dc μ a) λxs=>bo (dc μ b) λys=>if xs.length+ys.length≤sizeLine then some (.d (.list (xs++ys)),μ) else none))
theorem br:j8 C n .Add aT:=by
 intro A T α μ s E a b Va Vb V μ' R I ra rb h;refine bV h (λx y ea eb h=>?_) λh=>bV h (λx y ea eb h=>i7 h λhz h=>?_) λh=>ax h λxs e1 h=>ax h λys e2 h=>i7 h λhz h=>?_
 ·refine cm h ?_
  refine bP (fM ea ra) λt zq1=>?_;refine bH (F6 zq1) ?_;refine bP (fM eb rb) λu zq1=>?_;refine bH (F6 zq1) ?_;exact PyProof.Rows.add_int (bI.tok I (aJ.int ..))
 ·refine cm h ?_
  refine bP (j0 ea ra) λt zq1=>?_;refine bH (F6 zq1) ?_;refine bP (j0 eb rb) λu zq1=>?_;refine bH (F6 zq1) ?_;exact PyProof.Rows.add_str (λt' tk=>bI.tok I (aJ.str ..)) hz
 ·refine cm h ?_
  refine bm (ra.isList I e1) λl i1 zq2 zp3 r1=>?_;refine bH (F6 zq2) ?_;refine bP zp3 λn1 h1=>?_;refine bm (rb.isList I e2) λl2 i2 zq2 zp3 r2=>?_;refine bH (F6 zq2) ?_;refine bP zp3 λn2 h2=>?_;refine P.add_list h1 h2 ?_ (by have:=r1.length;have:=r2.length;simp at*;lia);exact bI.newList (tk:=s.toks) I (by rw [PC];exact r1.append r2)
noncomputable def aS(o:Int→Int→Option Int)(a b:AV)(μ:List ah):Option (AV×List ah):=bo (jM a) λx=>bo (jM b) λy=>bo (o x y) λz=>some (.d (.int z),μ)
theorem kj{o:Int→Int→Option Int}(h:∀ (A:Around) (s:Shared) (E:Value→Shared→Prop) (x y z:Int) (t u:Tok) (Q:Value→Shared→Prop),o x y=some z→Q (.int z s.toks) {s with toks:=s.toks+1}→wpAny (model C.prog C.w) A (binaryOp op (.int x t) (.int y u)) Q E s):j8 C n op (aS o):=by
 intro A T α μ s E a b Va Vb V μ' R I ra rb q;refine ax q λx ea q=>ax q λy eb q=>ax q λz e q=>?_;refine cm q ?_;refine bP (fM ea ra) λt zq1=>?_;refine bH (F6 zq1) ?_;refine bP (fM eb rb) λu zq1=>?_;refine bH (F6 zq1) ?_;exact h A s E x y z t u _ e (bI.tok I (aJ.int ..))
noncomputable def cQ(x y:Int):Option Int:=if y=0∨2^64≤y.natAbs then none else some (x.fdiv y)
noncomputable def cu(x y:Int):Option Int:=if y=0 then none else some (x.fmod y)
noncomputable def gu(x y:Int):Option Int:=if 0≤y∧y≤1000000∧x.natAbs<2^64 then some (x^y.toNat) else none
noncomputable def E9(x y:Int):Option Int:=if 0≤y∧y≤1000000∧x.natAbs<2^64 then some (x*2^y.toNat) else none
theorem j5:j8 C n .Sub (aS λx y=>some (x-y)):=kj λA s E x y z t u Q e=>cC e λq=>PyProof.Rows.sub_int q
theorem eO:j8 C n .FloorDiv (aS cQ):=kj λA s E x y z t u Q e=>by
 by_cases h:y=0∨2^64≤y.natAbs
 ·exact cv ((if_pos h).symm.trans e)
 ·refine cC ((if_neg h).symm.trans e) λq=>?_
  refine PyProof.Rows.floordiv_int (λz=>h (.inl z)) q (.inl (PyProof.noPylong_of_log2 ?_))
  by_cases hz:y.natAbs=0
  ·rw [hz];decide
  ·have:y.natAbs.log2<64:=(Nat.log2_lt hz).mpr (by lia)
   lia
theorem dt:j8 C n .Mod (aS cu):=kj λA s E x y z t u Q e=>by
 by_cases h:y=0
 ·exact cv ((if_pos h).symm.trans e)
 ·exact cC ((if_neg h).symm.trans e) λq=>PyProof.Rows.mod_int h q
theorem iZ:j8 C n .Pow (aS gu):=kj λA s E x y z t u Q e=>by
 exact i7 e λh e=>cC e λq=>pow_int_small h.1 h.2.1 h.2.2 q
theorem VD:j8 C n .LShift (aS E9):=kj λA s E x y z t u Q e=>by
 exact i7 e λh e=>cC e λq=>lshift_int_small h.1 h.2.1 h.2.2 q
theorem qU:j8 C n .BitAnd (aS λx y=>some (D5 x y)):=kj λA s E x y z t u Q e=>cC e λq=>PyProof.Rows.and_int q
noncomputable def nu(xs:List PyData):Nat→List PyData
 |0=>[]
 |k+1=>xs++nu xs k
noncomputable def l9(a b:AV)(μ:List ah):Option (AV×List ah):=bo (jM b) λy=>oe (jM a) (some ()) (λx zz=>if x.natAbs<2^64∨y.natAbs<2^64 then some (.d (.int (x*y)),μ) else none) (bo (dc μ a) λxs=>if xs.length*y.toNat≤2^24∧y.natAbs<2^63 then some (.d (.list (nu xs y.toNat)),μ) else none)
theorem GL(xs:List PyData):∀k,(nu xs k).length=xs.length*k
 |0=>by simp [nu]
 |k+1=>by rw [nu,be,GL xs k,Nat.mul_succ,Nat.add_comm]
theorem w6(vs:Array Value):∀ (k:Nat) (acc:Array Value),(List.foldl (λa b=>a++b) acc (GW k vs)).toList=acc.toList++(GW k vs.toList).flatten
 |0,acc=>by simp
 |k+1,acc=>by
  rw [NA,List.foldl_cons,w6 vs k,PC,NA,GA,Eu]
theorem sF(r:aw h M vs xs):∀k,aw h M (GW k vs).flatten (nu xs k)
 |0=>by simpa [nu] using aw.nil h M
 |k+1=>by rw [NA,GA,nu];exact r.append (sF r k)
theorem qR{l:Addr}{x:Int}
  (hl:s.heap.get? l=some {cls:=.type "list",dict:=none,data:=.seq items k,slots:= #[]})
  (hlo: -(2^63:Int)≤x) (hhi:x<2^63) (hsz:items.size*x.toNat≤2^24)
  (h:Q (.ref s.heap.objs.size) {s with heap:=s.heap.push {cls:=.type "list",data:=.seq (List.foldl (λx1 x2=>x1++x2) #[] (GW (if items.isEmpty=true then 0 else x.toNat) items))}}):
  wpAny (model prog w) A (binaryOp .Mult (.ref l) (.int x u)) Q E s:=
 wpAny_binaryOp_repeat_ref (T:="list") (U:="int") (by decide) ⟨_,hl,rfl⟩ (λs'=>typeIs_int s' x u) noFill_list_mul F.fills_int_mul F.slot_int_rmul repeat_list F.slot_int_index.lookup
  (UU F.slot_int_rmul (typeIs_int s x u) F.entry_int_rmul (F.args_int_rmul_2 _ _) (int___rmul___int_list x u l items k)
   ⟨hl,rfl,⟨_,hl,rfl⟩,UU F.slot_list_mul ⟨_,hl,rfl⟩ F.entry_list_mul (F.args_list_mul_2 _ _)
    (AutoListH.list___mul___list_int_3 l items k x u (by simp [Builtin.List.listFitsIndex];lia) (by lia) (by simp [Qw,sizeLine];lia))
    ⟨hl,h⟩⟩)
theorem K5{x:Int}(h:x.natAbs<2^64):Hp x≤64:=intBits_le_64 (by omega) (by omega)
theorem qe:j8 C n .Mult l9:=by
 intro A T α μ s E a b Va Vb V μ' R I ra rb h;refine ax h λy eb h=>bV h (λx zz ea zz h=>i7 h λhz h=>?_) λh=>ax h λxs e1 h=>i7 h λhz h=>?_
 ·refine cm h ?_
  refine bP (fM ea ra) λt zq1=>?_;refine bH (F6 zq1) ?_;refine bP (fM eb rb) λu zq1=>?_;refine bH (F6 zq1) ?_;refine PyProof.Rows.mul_int (bI.tok I (aJ.int ..)) ?_;exact hz.elim (λhz=>IntMulOk.of_left (K5 hz)) λhz=>IntMulOk.of_right (K5 hz)
 ·refine cm h ?_
  refine bm (ra.isList I e1) λl i1 zq2 zp3 r1=>?_;refine bH (F6 zq2) ?_;refine bP zp3 λn1 h1=>?_;refine bP (fM eb rb) λu zq1=>?_;refine bH (F6 zq1) ?_;have hs:i1.size=xs.length:=by rw [←r1.length];simp
  refine qR h1 (by omega) (by omega) (by rw [hs];exact hz.1) ?_;refine bI.newList (tk:=s.toks) I ?_;rw [w6];have e2:(#[]:Array Value).toList++(GW (if i1.isEmpty=true then 0 else y.toNat) i1.toList).flatten=(GW y.toNat i1.toList).flatten:=by
   by_cases he:i1.isEmpty=true
   ·have:i1= #[]:=by simpa using he
    refine bH (F6 this) ?_;simp
   ·rw [if_neg he];rfl
  rw [e2];exact sF r1 _
noncomputable def eg(o:Int→Int→Bool)(a b:AV)(_:List ah):Option Bool:=bo (jM a) λx=>bo (jM b) λy=>some (o x y)
theorem pA{op:CmpOp}{o:Int→Int→Bool}(h:∀ (A:Around) (s:Shared) (E:Value→Shared→Prop) (x y:Int) (t u:Tok) (Q:Value→Shared→Prop),Q (.bool (o x y)) s→wpAny (model C.prog C.w) A (compareOp op (.int x t) (.int y u)) Q E s):gR C n op (eg o):=by
 intro A T α μ s E a b Va Vb r R I ra rb q;refine ax q λx ea q=>ax q λy eb q=>?_;refine cC q ?_;refine bP (fM ea ra) λt zq1=>?_;refine bH (F6 zq1) ?_;refine bP (fM eb rb) λu zq1=>?_;refine bH (F6 zq1) ?_;exact h A s E x y t u _ ⟨rfl,s.toks,rfl⟩
theorem qv:gR C n .Lt (eg λx y=>decide (x<y)):=pA λA s E x y t u Q q=>PyProof.Rows.lt_int q
theorem IQ:gR C n .Gt (eg λx y=>decide (y<x)):=pA λA s E x y t u Q q=>PyProof.Rows.gt_int q
theorem P_:gR C n .GtE (eg λx y=>decide (y≤x)):=pA λA s E x y t u Q q=>PyProof.Rows.ge_int q
noncomputable def VG(μ:List ah)(V:AV):Option PyData:=oe (vd V) (some ()) (λx zz=>some x) (bo (dc μ V) λxs=>some (.list xs))
theorem bq.readsL(I:bl C T α μ s)(r:bq s.heap α (T++ai α μ) v V)(h:dc μ V=some xs):∃as,Reads s.heap v (.list xs) as:=by
 refine bm (r.isList I h) λa items zq2 zp3 rr=>?_;refine bH (F6 zq2) ?_;refine bP zp3 λn e1=>?_;refine bP rr.readsAll λas rr=>?_;exact ⟨_,.list e1 rfl rfl rr⟩
theorem bq.reads(I:bl C T α μ s)(r:bq s.heap α (T++ai α μ) v V)(h:VG μ V=some d):∃as,Reads s.heap v d as:=by
 refine bV h (λx zz ex zz h=>?_) λh=>ax h λxs e h=>?_
 ·refine cC h ?_
  rw [iP ex] at r
  exact aJ.reads r
 ·refine cC h ?_
  exact r.readsL I e
noncomputable def dK(a b:AV)(μ:List ah):Option Bool:=oe (jM a) (jM b) (λx y=>some (x==y)) (oe (lS a) (lS b) (λx y=>some (x==y)) (oe (Nw a) (Nw b) (λx y=>some (x==y)) (oe (VG μ a) (VG μ b) (λx y=>if shaped x=true∧shaped y=true then some (Mx x y) else none) none)))
noncomputable def p8(a b:AV)(μ:List ah):Option Bool:=bo (dK a b μ) λr=>some (!r)
theorem dR:gR C n .Eq dK:=by
 intro A T α μ s E a b Va Vb r R I ra rb h;refine bV h (λx y ea eb h=>?_) λh=>bV h (λx y ea eb h=>?_) λh=>bV h (λx y ea eb h=>?_) λh=>bV h (λx y e1 e2 h=>i7 h λhs h=>?_) λh=>cv h
 ·refine cC h ?_
  refine bP (fM ea ra) λt zq1=>?_;refine bH (F6 zq1) ?_;refine bP (fM eb rb) λu zq1=>?_;refine bH (F6 zq1) ?_;exact PyProof.Rows.eq_int (jc rfl s.toks rfl)
 ·refine cC h ?_
  refine bP (j0 ea ra) λt zq1=>?_;refine bH (F6 zq1) ?_;refine bP (j0 eb rb) λu zq1=>?_;refine bH (F6 zq1) ?_;exact PyProof.Rows.eq_str (jc rfl s.toks rfl)
 ·refine cC h ?_
  rw [vz ea ra,vz eb rb];exact PyProof.Rows.eq_bool (jc rfl s.toks rfl)
 ·refine cC h ?_
  refine bP (ra.reads I e1) λas r1=>?_;refine bP (rb.reads I e2) λbs r2=>?_;exact compareEq_shaped r1 r2 hs.1 hs.2 (by have:=R.units;lia) (jc rfl s.toks rfl)
theorem sv:gR C n .NotEq p8:=by
 intro A T α μ s E a b Va Vb r R I ra rb h;refine ax h λr1 h1 h=>cC h ?_;refine bV h1 (λx y ea eb h=>?_) λh=>bV h (λx y ea eb h=>?_) λh=>bV h (λx y ea eb h=>?_) λh=>bV h (λx y e1 e2 h=>i7 h λhs h=>?_) λh=>cv h
 ·refine cC h ?_
  refine bP (fM ea ra) λt zq1=>?_;refine bH (F6 zq1) ?_;refine bP (fM eb rb) λu zq1=>?_;refine bH (F6 zq1) ?_;exact PyProof.Rows.ne_int (jc rfl s.toks rfl)
 ·refine cC h ?_
  refine bP (j0 ea ra) λt zq1=>?_;refine bH (F6 zq1) ?_;refine bP (j0 eb rb) λu zq1=>?_;refine bH (F6 zq1) ?_;exact PyProof.Rows.ne_str (jc rfl s.toks rfl)
 ·refine cC h ?_
  rw [vz ea ra,vz eb rb];exact PyProof.Rows.ne_bool (jc rfl s.toks rfl)
 ·refine cC h ?_
  refine bP (ra.reads I e1) λas r1=>?_;refine bP (rb.reads I e2) λbs r2=>?_;exact compareNe_shaped r1 r2 hs.1 hs.2 (by have:=R.units;lia) (jc rfl s.toks rfl)
noncomputable def WK(a b:AV)(μ:List ah):Option Bool:=oe (lS a) (lS b) (λx y=>some (!(Lz y x 0 y.length 1).isEmpty)) (oe (vd a) (dc μ b) (λx ys=>if La ys=true∧shaped x=true then some (ys.any λy=>Mx y x) else none) none)
noncomputable def lF(a b:AV)(μ:List ah):Option Bool:=bo (WK a b μ) λr=>some (!r)
theorem ZV:gR C n .In WK:=by
 intro A T α μ s E a b Va Vb r R I ra rb h;refine bV h (λx y ea eb h=>?_) λh=>bV h (λx ys e1 e h=>i7 h λhs h=>?_) λh=>cv h
 ·refine cC h ?_
  refine bP (j0 ea ra) λt zq1=>?_;refine bH (F6 zq1) ?_;refine bP (j0 eb rb) λu zq1=>?_;refine bH (F6 zq1) ?_;exact PyProof.Rows.in_str (jc rfl s.toks rfl)
 ·refine cC h ?_
  rw [iP e1] at ra
  refine bP (aJ.reads ra) λas r1=>?_;refine bP (rb.readsL I e) λbs r2=>?_;exact Qg r2 r1 hs.1 (canLay_of_shaped hs.2) (by have:=R.units;have:=depth_of_shaped hs.2;lia) (jc rfl s.toks rfl)
theorem vF:gR C n .NotIn lF:=by
 intro A T α μ s E a b Va Vb r R I ra rb h;refine ax h λr1 h1 h=>cC h ?_;refine bV h1 (λx y ea eb h=>?_) λh=>bV h (λx ys e1 e h=>i7 h λhs h=>?_) λh=>cv h
 ·refine cC h ?_
  refine bP (j0 ea ra) λt zq1=>?_;refine bH (F6 zq1) ?_;refine bP (j0 eb rb) λu zq1=>?_;refine bH (F6 zq1) ?_;exact PyProof.Rows.notIn_str (jc rfl s.toks rfl)
 ·refine cC h ?_
  rw [iP e1] at ra
  refine bP (aJ.reads ra) λas r1=>?_;refine bP (rb.readsL I e) λbs r2=>?_;exact PySem.SeqAt.notIn_list_reads r2 r1 hs.1 (canLay_of_shaped hs.2) (by have:=R.units;have:=depth_of_shaped hs.2;lia) (jc rfl s.toks rfl)
noncomputable def Lb(a b:AV)(_:List ah):Option Bool:=oe (Nw a) (Nw b) (λx y=>some (x==y)) (oe (Pt a) (Pt b) (λzz zz=>some true) (oe (jM a) (Pt b) (λzz zz=>some false) none))
theorem xk:gR C n .Is Lb:=by
 intro A T α μ s E a b Va Vb r R I ra rb h;refine bV h (λx y ea eb h=>?_) λh=>bV h (λx y ea eb h=>?_) λh=>bV h (λx y ea eb h=>?_) λh=>cv h
 ·refine cC h ?_
  rw [vz ea ra,vz eb rb];exact PyProof.Rows.is_bool (jc rfl s.toks rfl)
 ·refine cC h ?_
  rw [EB ea ra,EB eb rb];exact is_none_gen (jc rfl s.toks rfl)
 ·refine cC h ?_
  refine bP (fM ea ra) λt zq1=>?_;refine bH (F6 zq1) ?_;rw [EB eb rb];exact is_none_gen (jc rfl s.toks rfl)
section
variable {k:EF}
def jr(f:EF):EF:= λρ μ=>bp (f ρ μ) λV μ1=>bo (jM V) λx=>some (.d (.int (-x)),μ1)
theorem og{x:Expr}(hf:ab C n cx x f):ab C n cx (.UnaryOp .USub x pos) (jr f):=by
 refine .of ?_;intro A env O T ρ α μ s E V μ' R I F h;refine aD h λV1 μ1 e1 h=>ax h λx ex h=>?_;refine cm h ?_;refine wpAny_UnaryOp (D2 (hf.run A env O T ρ α μ s E _ _ R I F e1) (λv s1 p=>?_) λzz zz x=>x);refine ct p λα1 I1 S1 r1=>?_;refine bP (fM ex r1) λt zq1=>?_;refine bH (F6 zq1) ?_;exact PyProof.Rows.neg_int (bI.trans S1 (bI.tok I1 (aJ.int ..)))
def zj(f:EF):EF:= λρ μ=>bp (f ρ μ) λV μ1=>bo (ko V μ1) λb=>some (.d (.bool (!b)),μ1)
theorem Tt{x:Expr}(hf:ab C n cx x f):ab C n cx (.UnaryOp .Not x pos) (zj f):=by
 refine .of ?_;intro A env O T ρ α μ s E V μ' R I F h;refine aD h λV1 μ1 e1 h=>?_;refine ax h λb e2 h=>?_;refine cm h ?_;refine wpAny_UnaryOp (D2 (hf.run A env O T ρ α μ s E _ _ R I F e1) (λv s1 p=>?_) λzz zz x=>x);refine ct p λα1 I1 S1 r1=>?_;refine not_of (D2 (mP I1 r1 e2) (λc s2 q=>?_) λzz zz x=>x);refine y4 q λzq0 tk zq2=>?_;refine bH zq0 ?_;refine bH (F6 zq2) ?_;exact bI.trans S1 (bI.tok I1 (aJ.bool ..))
theorem yU{x y:Expr}(hf:ab C n cx x f)(hg:ab C n cx y g):ab C n cx (.BoolOp .And [x,y] pos) (sk f g):=by
 refine .of ?_;intro A env O T ρ α μ s E V μ' R I F h;refine (?_:wpAny _ A (do let v←eval x env;standAt pos;let t←holding [v] (truthy v);match BoolOp.And,t with| .And,false| .Or,true=>pure v|_,_=>boolOp pos .And [eval y env]) _ _ s);refine aD h λV1 μ1 e1 h=>ax h λb e2 h=>?_;refine yS (D2 (hf.run A env O T ρ α μ s E _ _ R I F e1) (λv s1 p=>?_) λzz zz x=>x);refine ct p λα1 I1 S1 r1=>?_;refine yS (Lp (yS (Ld ?_)));refine D2 (mP I1 r1 e2) (λc s2 q=>?_) λzz zz x=>x;refine y4 q λzq0 tk zq2=>?_;refine bH (F6 zq0) ?_;refine bH (F6 zq2) ?_;have S2:=aV.keeps (α:=α1) (μ:=μ1) (s:=s1) (h':=s1.heap) (tk:=tk) λzz zz e=>e;cases b with
 |true=>
  refine D2 (hg.run A env O T ρ α1 μ1 _ E V μ' R (I1.keeps (h':=s1.heap) λzz zz e=>e) ((F.step I S1).step I1 S2) h) (λv2 s3 p=>bI.trans (S1.trans S2) p) λzz zz x=>x
 |false=>
  refine cm h ?_;exact ES (bI.trans S1 (bI.tok I1 r1))
theorem af2{x y:Expr}(hf:ab C n cx x f)(hg:ab C n cx y g):ab C n cx (.BoolOp .Or [x,y] pos) (orA f g):=by
 refine .of ?_;intro A env O T ρ α μ s E V μ' R I F h;refine (?_:wpAny _ A (do let v←eval x env;standAt pos;let t←holding [v] (truthy v);match BoolOp.Or,t with| .And,false| .Or,true=>pure v|_,_=>boolOp pos .Or [eval y env]) _ _ s);refine aD h λV1 μ1 e1 h=>ax h λb e2 h=>?_;refine yS (D2 (hf.run A env O T ρ α μ s E _ _ R I F e1) (λv s1 p=>?_) λzz zz x=>x);refine ct p λα1 I1 S1 r1=>?_;refine yS (Lp (yS (Ld ?_)));refine D2 (mP I1 r1 e2) (λc s2 q=>?_) λzz zz x=>x;refine y4 q λzq0 tk zq2=>?_;refine bH (F6 zq0) ?_;refine bH (F6 zq2) ?_;have S2:=aV.keeps (α:=α1) (μ:=μ1) (s:=s1) (h':=s1.heap) (tk:=tk) λzz zz e=>e;cases b with
 |true=>
  refine cm h ?_;exact ES (bI.trans S1 (bI.tok I1 r1))
 |false=>
  refine D2 (hg.run A env O T ρ α1 μ1 _ E V μ' R (I1.keeps (h':=s1.heap) λzz zz e=>e) ((F.step I S1).step I1 S2) h) (λv2 s3 p=>bI.trans (S1.trans S2) p) λzz zz x=>x
end
noncomputable def f6(h:Heap)(α M:List Addr):List Value→List AV→Prop
 | [],[]=>True
 |v::vs,V::Vs=>bq h α M v V∧f6 h α M vs Vs
 |_,_=>False
theorem f6.step0(x:aV [] α μ s α' μ' s'):∀ {vs:List Value} {Vs:List AV},f6 s.heap α (T++ai α μ) vs Vs→f6 s'.heap α' (T++ai α' μ') vs Vs
 | [],[],_=>trivial
 |_::_,_::_,r=>⟨r.1.step0 x,f6.step0 x r.2⟩
 | [],_::_,r=>r.elim
 |_::_,[],r=>r.elim
noncomputable def e_:List EF→d5→List ah→Option (List AV×List ah)
 | [],_,μ=>some ([],μ)
 |f::fs,ρ,μ=>bp (f ρ μ) λV μ1=>bp (e_ fs ρ μ1) λVs μ2=>some (V::Vs,μ2)
theorem yr(h:f ρ μ=some (V,μ')):e_ [f] ρ μ=some ([V],μ'):=by
 refine (?_:bp (f ρ μ) _=_);refine rA h ?_;rfl
structure dg (C:gK) (n:Nat) (cx:Cx) (es:List Expr) (fs:List EF):Prop where
 of::
 run:∀A env O T ρ α μ s E Vs μ' pos,cR A n→bl C T α μ s→bh C cx env O ρ s.heap α (T++ai α μ)→e_ fs ρ μ=some (Vs,μ')→
  wpAny (model C.prog C.w) A (spliced (backTo pos (starEach es env))) (λvs s'=>∃α',bl C T α' μ' s'∧aV [] α μ s α' μ' s'∧f6 s'.heap α' (T++ai α' μ') vs Vs) E s
section
theorem ae:dg C n cx [] []:=by
 refine .of ?_;intro A env O T ρ α μ s E Vs μ' pos R I F h;refine cm h ?_;exact SJ (cL α I (aV.refl _ _ _ _) trivial)
theorem dG(hs:∀env,starEach (e::es) env=(false,eval e env)::starEach es env)(hf:ab C n cx e f)(hg:dg C n cx es fs):dg C n cx (e::es) (f::fs):=by
 refine .of ?_;intro A env O T ρ α μ s E Vs μ' pos R I F h;refine aD h λV μ1 e1 h=>?_;refine aD h λVs2 μ2 e2 h=>?_;refine cm h ?_;rw [hs env];refine RT (D2 (hf.run A env O T ρ α μ s E V μ1 R I F e1) (λv s1 p=>?_) λzz zz x=>x);refine ct p λα1 I1 S1 r1=>?_;refine D2 (hg.run A env O T ρ α1 μ1 s1 E _ _ pos R I1 (F.step I S1) e2) (λvs s2 p=>?_) λzz zz x=>x;refine ct p λα2 I2 S2 r2=>?_;exact (d4 α2 I2 (S1.trans S2) (r1.step0 S2) r2)
end
theorem lT:∀ {α:List Addr} {μ:List ah} {i:Nat} {a:Addr} {c:ah},α.Nodup→α[i]? =some a→c.isMut=false→a∉ai α (μ.set i c)
 | [],_,_,_,_,_,h,_=>by simp at h
 |_::_,[],_,_,_,_,_,_=>by simp [ai]
 |b::α,c₀::μ,0,a,c,hn,h,hc=>by
  simp at h;refine bH h ?_
  simp only [S_,ai,hc];intro q;exact (Ku.mp hn).1 (db q)
 |b::α,c₀::μ,i+1,a,c,hn,h,hc=>by
  simp only [Q2,ai];have h':α[i]? =some a:=by simpa using h
  have ha:a∈α:=FW h';have q:=lT (μ:=μ) (c:=c) (Ku.mp hn).2 h' hc
  split
  ·intro z
   rcases Cc.mp z with rfl|z
   ·exact (Ku.mp hn).1 ha
   ·exact q z
  ·exact q
theorem BC(h:(μ.set i c)[j]? =some c'):(j=i∧c'=c)∨(j≠i∧μ[j]? =some c'):=by
 rw [Qz] at h
 by_cases q:i=j
 ·rw [if_pos q] at h
  split at h
  ·exact .inl ⟨q.symm,(Fh h).symm⟩
  ·exact cv h
 ·rw [if_neg q] at h
  exact .inr ⟨λz=>q z.symm,h⟩
noncomputable def ao2(μ:List ah)(i:Nat):ah→Option (PyData×List ah)
 | .live xs=>some (.list xs,μ.set i (.frozen xs))
 | .frozen xs=>some (.list xs,μ)
 | .iter _=>none
noncomputable def xz(V:AV)(μ:List ah):Option (PyData×List ah):=oe (vd V) (some ()) (λx zz=>some (x,μ)) (bo (Fo V) λi=>bo (μ[i]?) λc=>ao2 μ i c)
theorem ee.mono(x:ee h M a c)(hm:∀a∈M',a∈M):ee h M' a c:=by
 cases c with
 |live xs=>refine au x λitems p r=>?_;exact (aZ items p (r.mono hm))
 |frozen xs=>exact aJ.mono x hm
 |iter xs=>
  rcases x with ⟨l,k,items,p,q,hl,hk,r⟩|x
  ·exact .inl (i4 l k items p q (λz=>hl (hm _ z)) hk (r.mono hm))
  ·exact .inr x
theorem uD(I:bl C T α μ s)(r:bq s.heap α (T++ai α μ) v V)(h:xz V μ=some (d,μ')):
  bl C T α μ' s∧aV [] α μ s α μ' s∧aJ s.heap (T++ai α μ') v d:=by
 refine bV h (λx zz ex zz h=>?_) λh=>ax h λi ei h=>ax h λc e h=>?_
 ·refine cm h ?_
  rw [iP ex] at r
  exact (fu I (aV.refl _ _ _ _) r)
 refine au (Kj ei r) λa ha zq2=>?_;refine bH (F6 zq2) ?_;cases c with
 |live xs=>
  refine cm h ?_;have sub:∀b∈ai α (μ.set i (.frozen xs)),b∈ai α μ:= λb hb=>qE hb λc₀ e0 q=>by cases q
  have subT:∀b∈T++ai α (μ.set i (.frozen xs)),b∈T++ai α μ:= λb hb=>(AE.mp hb).elim (λq=>ye _ q) λq=>CR _ (sub b q);refine au (I.cells i a _ ha e) λitems hp rr=>?_;have key:aJ s.heap (T++ai α (μ.set i (.frozen xs))) (.ref a) (.list xs):=aJ.list hp (rr.mono subT) λz=>by
   rcases AE.mp z with z|z
   ·exact I.apart a z (FW ha)
   ·exact lT I.nodup ha rfl z
  refine (fu ⟨I.keep,by rw [LF];exact I.len,λj b c h1 h2=>?_,I.nodup,I.apart,I.tdom,I.tnew,I.new,I.gens,I.os⟩ (⟨⟨[],by simp,by simp⟩,g7.refl _ _,λb hb=>.inl (sub b hb),λzz o e=>⟨o,e⟩,λzz zz e=>e⟩) key)
  rcases BC h2 with ⟨rfl,rfl⟩| ⟨_,h2⟩
  ·rw [ha] at h1;refine cC h1 ?_
   exact key
  ·exact (I.cells j b c h1 h2).mono subT
 |frozen xs=>
  refine cm h ?_;exact (fu I (aV.refl _ _ _ _) (I.cells i a _ ha e))
 |iter xs=>exact cv h
noncomputable def lG:List AV→List ah→Option (List PyData×List ah)
 | [],μ=>some ([],μ)
 |V::Vs,μ=>bp (xz V μ) λd μ1=>bp (lG Vs μ1) λds μ2=>some (d::ds,μ2)
theorem jB:∀ {vs:List Value} {Vs:List AV} {μ μ':List ah} {ds:List PyData},bl C T α μ s→f6 s.heap α (T++ai α μ) vs Vs→lG Vs μ=some (ds,μ')→
  bl C T α μ' s∧aV [] α μ s α μ' s∧aw s.heap (T++ai α μ') vs ds
 | [],[],μ,μ',ds,I,r,h=>by refine cm h ?_;exact (fu I (aV.refl _ _ _ _) (aw.nil _ _))
 | [],_::_,_,_,_,_,r,_=>r.elim
 |_::_,[],_,_,_,_,r,_=>r.elim
 |v::vs,V::Vs,μ,μ',ds,I,r,h=>by
  refine aD h λd μ1 e1 h=>?_;refine aD h λds2 μ2 e2 h=>?_;refine cm h ?_;refine dW (uD I r.1 e1) λI1 S1 r1=>?_;refine dW (jB I1 (f6.step0 S1 r.2) e2) λI2 S2 r2=>?_;exact (fu I2 (S1.trans S2) (.cons (r1.step0 S2) r2))
def cY(fs:List EF):EF:= λρ μ=>bp (e_ fs ρ μ) λVs μ1=>bp (lG Vs μ1) λds μ2=>if ds.length≤sizeLine then some (.d (.tuple ds),μ2) else none
def aU(fs:List EF):EF:= λρ μ=>bp (e_ fs ρ μ) λVs μ1=>bp (lG Vs μ1) λds μ2=>if ds.length≤sizeLine then some (.d (.list ds),μ2) else none
section
theorem cZ(h:dg C n cx es fs):ab C n cx (.Tuple es k pos) (cY fs):=by
 refine .of ?_;intro A env O T ρ α μ s E V μ' R I F q;refine aD q λVs μ1 e1 q=>?_;refine aD q λds μ2 e2 q=>?_;refine i7 q λhz q=>?_;refine cm q ?_;refine Tuple_ (D2 (h.run A env O T ρ α μ s E Vs μ1 pos R I F e1) (λvs s1 p=>?_) λzz zz x=>x);refine ct p λα1 I1 S1 r1=>?_;refine dW (jB I1 r1 e2) λI2 S2 r2=>?_;refine HQ (bI.trans (S1.trans S2) (bI.of_keeps (tk:=s1.toks) I2 (bc _ _) ?_)) (by show vs.toArray.size≤sizeLine;rw [P2,r2.length];exact hz);exact aJ.tuple (Dy _ rfl) rfl rfl ((by simpa using r2:aw s1.heap (T++ai α1 _) vs.toArray.toList ds).keeps (bc _ _)) (eF I2 (ig _))
theorem bb(h:dg C n cx es fs):ab C n cx (.List es pos) (aU fs):=by
 refine .of ?_;intro A env O T ρ α μ s E V μ' R I F q;refine aD q λVs μ1 e1 q=>?_;refine aD q λds μ2 e2 q=>?_;refine i7 q λhz q=>?_;refine cm q ?_;refine List_ (D2 (h.run A env O T ρ α μ s E Vs μ1 pos R I F e1) (λvs s1 p=>?_) λzz zz x=>x);refine ct p λα1 I1 S1 r1=>?_;refine dW (jB I1 r1 e2) λI2 S2 r2=>?_;exact HQ (bI.trans (S1.trans S2) (bI.newList (tk:=s1.toks) I2 (by simpa using r2))) (by show vs.toArray.size≤sizeLine;rw [P2,r2.length];exact hz)
end
noncomputable def v7(μ:List ah)(V:AV):Option (List PyData):=oe (Hx V) (some ()) (λxs zz=>some xs) (dc μ V)
noncomputable def HP(V:AV)(k:Int)(μ:List ah):Option PyData:=if-(2^63)≤k∧k<2^63 then bo (v7 μ V) λxs=>bo (seqIndex? k xs.length) λj=>xs[j]? else none
theorem o6{l:Addr}{k:Int}{t:Tok}{x:Value}
  (hl:s.heap.IsList l items) (hlo: -(2^63)≤k) (hhi:k<2^63) (hj:seqIndex? k items.size=some j) (hx:items[j]? =some x) (h:Q x s):wpAny (model prog w) A (getItem (.ref l) (.int k t)) Q E s:=by
 unfold seqIndex? at hj
 by_cases hk:k<0
 ·rw [if_pos hk] at hj
  refine i7 hj λq hj=>?_;cases hj;simp only [Fd,decide_eq_true_eq] at q
  exact wpAny_getItem_list_neg hl hk (by lia) hlo hx h
 ·rw [if_neg hk] at hj
  refine i7 hj λq hj=>?_;cases hj;exact wpAny_getItem_list hl (by lia) hhi hx h
theorem N7{k:Int}{t:Tok}{value slice:Expr}(I:bl C T α μ s)(r:bq s.heap α (T++ai α μ) v V)(h:HP V k μ=some d)
  (hs:∀o i,subscripted slice false o i=operate [o,i] (getItem o i)):wpAny (model C.prog C.w) A (subscriptTail value slice v (.int k t)) (λv' s'=>s'=s∧aJ s.heap (T++ai α μ) v' d) E s:=by
 refine i7 h λhk h=>ax h λxs e1 h=>ax h λj e2 h=>?_;refine bV e1 (λxs' zz ex zz q=>?_) λe1=>?_
 ·have q':=Fh q
  subst q';refine bm (HT ex r) λa items zq2 ht r1=>?_;refine bH (F6 zq2) ?_;refine au (r1.get h) λx e3 r2=>?_;have e4:items[j]? =some x:=by simpa using e3
  refine Sj (o:=.ref a) (T:="tuple") (by refine ct ht λo ho hc zz=>?_;exact (aZ o ho hc)) T1.lookup (PyProof.Rows.getItem_tuple ht hk.1 hk.2 (j:=j) ?_ e4 ⟨rfl,r2⟩) (hs _ _);rw [show items.size=xs'.length from by rw [←r1.length];simp];exact e2
 ·refine bm (r.isList I e1) λa items zq2 hl r1=>?_
  refine bH (F6 zq2) ?_;refine au (r1.get h) λx e3 r2=>?_;have e4:items[j]? =some x:=by simpa using e3
  refine Sj hl.isList.typeIs QA.lookup (o6 hl.isList hk.1 hk.2 (j:=j) ?_ e4 ⟨rfl,r2⟩) (hs _ _);rw [show items.size=xs.length from by rw [←r1.length];simp];exact e2
def aF(f g:EF):EF:= λρ μ=>bp (f ρ μ) λV μ1=>bp (g ρ μ1) λK μ2=>bo (jM K) λk=>bo (HP V k μ2) λd=>some (.d d,μ2)
section
theorem bk{x y:Expr}(hf:ab C n cx x f)(hg:ab C n cx y g)(hs:∀o i,subscripted y false o i=operate [o,i] (getItem o i)):ab C n cx (.Subscript x y pos) (aF f g):=by
 refine .of ?_;intro A env O T ρ α μ s E V μ' R I F h;refine aD h λV1 μ1 e1 h=>aD h λK μ2 e2 h=>ax h λk ek h=>ax h λd e3 h=>?_;refine cm h ?_;refine Tn (nQ hf hg R I F e1 e2 λa b s2 α2 I2 S2 ra rb=>?_);refine bP (fM ek rb) λt zq1=>?_;refine bH (F6 zq1) ?_;refine D2 (N7 I2 ra e3 hs) (λv s3 p=>?_) λzz zz x=>x;refine f_ p λzq0 r=>?_;refine bH (F6 zq0) ?_;exact (cL α2 I2 S2 r)
end
noncomputable abbrev PF:=d5→List ah→Option (Option Int×List ah)
structure lm (C:gK) (n:Nat) (cx:Cx) (e:Option Expr) (f:PF):Prop where
 of::
 run:∀A env O T ρ α μ s E k μ',cR A n→bl C T α μ s→bh C cx env O ρ s.heap α (T++ai α μ)→f ρ μ=some (k,μ')→
  wpAny (model C.prog C.w) A (evalPart e env) (λv s'=>∃α',bl C T α' μ' s'∧aV [] α μ s α' μ' s'∧IsPart v k) E s
def aL(f:EF):PF:= λρ μ=>bp (f ρ μ) λV μ1=>oe (jM V) (some ()) (λk zz=>some (some k,μ1)) (oe (Pt V) (some ()) (λzz zz=>some (none,μ1)) none)
def ba:PF:= λzz μ=>some (none,μ)
section
variable {p q r:PF}
theorem dE:lm C n cx none ba:=by
 refine .of ?_;intro A env O T ρ α μ s E k μ' R I F h;refine cm h ?_;exact ES (cL α I (aV.refl _ _ _ _) .none)
theorem cw(hf:ab C n cx e f):lm C n cx (some e) (aL f):=by
 refine .of ?_;intro A env O T ρ α μ s E k μ' R I F h;refine aD h λV μ1 e1 h=>?_;refine D2 (hf.run A env O T ρ α μ s E _ _ R I F e1) (λv s1 p=>?_) λzz zz x=>x;refine ct p λα1 I1 S1 r1=>?_;refine bV h (λk1 zz ek zz h=>?_) λh=>bV h (λzz zz ek zz h=>?_) λh=>cv h
 ·refine cm h ?_
  refine bP (fM ek r1) λt zq1=>?_;refine bH (F6 zq1) ?_;exact (cL α1 I1 S1 (.int _ _))
 ·refine cm h ?_
  rw [EB ek r1];exact (cL α1 I1 S1 .none)
theorem xx{x:Expr}{st:Option Expr}{μ4:List ah}{kl kh ks:Option Int}{Q:Value→Value→Shared→Prop}
  (hf:ab C n cx x f) (hp:lm C n cx lo p) (hq:lm C n cx hi q) (hr:lm C n cx st r) (R:cR A n) (I:bl C T α μ s) (F:bh C cx env O ρ s.heap α (T++ai α μ))
  (e1:f ρ μ=some (V,μ1)) (e2:p ρ μ1=some (kl,μ2)) (e3:q ρ μ2=some (kh,μ3)) (e4:r ρ μ3=some (ks,μ4))
  (h:∀a vl vu vs s4 α4,bl C T α4 μ4 s4→aV [] α μ s α4 μ4 s4→bq s4.heap α4 (T++ai α4 μ4) a V→IsPart vl kl→IsPart vu kh→IsPart vs ks→Q a (.ref s4.heap.objs.size) {s4 with heap:=s4.heap.push {cls:=.type "slice",data:=.fields #[vl,vu,vs]}}):
  wpAny (model C.prog C.w) A (eval x env) (λa s1=>wpAny (model C.prog C.w) A (eval (.Slice lo hi st sp) env) (λb s2=>Q a b s2) E s1) E s:=by
 refine D2 (hf.run A env O T ρ α μ s E V μ1 R I F e1) (λa s1 p1=>?_) λzz zz x=>x;refine ct p1 λα1 I1 S1 r1=>?_;refine wpAny_Slice (D2 (hp.run A env O T ρ α1 μ1 s1 E kl μ2 R I1 (F.step I S1) e2) (λvl s2 p2=>?_) λzz zz x=>x);refine ct p2 λα2 I2 S2 r2=>?_;refine D2 (hq.run A env O T ρ α2 μ2 s2 E kh μ3 R I2 ((F.step I S1).step I1 S2) e3) (λvu s3 p3=>?_) λzz zz x=>x;refine ct p3 λα3 I3 S3 r3=>?_;refine D2 (hr.run A env O T ρ α3 μ3 s3 E ks μ4 R I3 (((F.step I S1).step I1 S2).step I2 S3) e4) (λvs s4 p4=>?_) λzz zz x=>x;refine ct p4 λα4 I4 S4 r4=>?_;exact h a vl vu vs s4 α4 I4 (((S1.trans S2).trans S3).trans S4) (((r1.step0 S2).step0 S3).step0 S4) r2 r3 r4
end
noncomputable def fA{X:Type}(xs:List X)(lo hi:Option Int):List X:=(xs.drop (lo.elim 0 (clipAt xs.length))).take (hi.elim xs.length (clipAt xs.length)-lo.elim 0 (clipAt xs.length))
noncomputable def iQ{X:Type}(xs:List X)(lo hi st:Option Int):List X:=(sliceRange (sliceBounds lo hi st xs.length).1 (sliceBounds lo hi st xs.length).2.1 (sliceBounds lo hi st xs.length).2.2).filterMap (xs[·]?)
def oO(x:Str)(lo hi:Option Int):Str:=if ((K4 lo hi 1 x.length).length==x.length)=true then x else ⟨((K4 lo hi 1 x.length).filterMap (x.cps[·]?)).toArray⟩
theorem rp(r:aw h M vs xs):∀is:List Nat,aw h M (is.filterMap (vs[·]?)) (is.filterMap (xs[·]?))
 | []=>by simpa using aw.nil h M
 |i::is=>by
  have ih:=rp r is;cases e:xs[i]? with
  |some d=>
   refine au (r.get e) λv e' rv=>?_;rw [M6 e',M6 e];exact .cons rv ih
  |none=>
   have e':vs[i]? =none:=by
    rw [GZ] at e⊢
    rw [r.length];exact e
   rw [QB e',QB e];exact ih
def ci(f:EF)(p q:PF):EF:= λρ μ=>bp (f ρ μ) λV μ1=>bp (p ρ μ1) λlo μ2=>bp (q ρ μ2) λhi μ3=>oe (lS V) (some ()) (λx zz=>if x.length≤sizeLine∧(oO x lo hi).length≤sizeLine then some (.d (.str (oO x lo hi)),μ3) else none)
 (oe (Hx V) lo (λxs k=>if hi=none∧1≤k∧k≤xs.length∧xs.length≤sizeLine then some (.d (.tuple (xs.drop k.toNat)),μ3) else none)
  (bo (dc μ3 V) λxs=>if xs.length≤sizeLine then some (.d (.list (fA xs lo hi)),μ3) else none))
def vG(f:EF)(p q r:PF):EF:= λρ μ=>bp (f ρ μ) λV μ1=>bp (p ρ μ1) λlo μ2=>bp (q ρ μ2) λhi μ3=>bp (r ρ μ3) λso μ4=>bo so λst=>bo (dc μ4 V) λxs=>if xs.length≤sizeLine∧st≠0 then some (.d (.list (iQ xs lo hi (some st))),μ4) else none
theorem qW(items:Array Value)(lo hi:Option Int):(slicePick items lo hi none).toList=fA items.toList lo hi:=by
 rw [slicePick_plain];simp [fA]
theorem xn(r:aw h M vs xs)(lo hi:Option Int):aw h M (fA vs lo hi) (fA xs lo hi):=by
 unfold fA;rw [r.length];exact (r.drop _).take _
section
variable {p q r:PF}
theorem Pa{x:Expr}{st:Option Expr}(hf:ab C n cx x f)(hp:lm C n cx lo p)(hq:lm C n cx hi q)(hr:lm C n cx st r)
  (hs:∀o i,subscripted (.Slice lo hi st sp) false o i=operate [o,i] (getItem o i)):ab C n cx (.Subscript x (.Slice lo hi st sp) pos) (vG f p q r):=by
 refine .of ?_;intro A env O T ρ α μ s E V μ' R I F h;refine aD h λV1 μ1 e1 h=>aD h λkl μ2 e2 h=>aD h λkh μ3 e3 h=>aD h λso μ4 e4 h=>ax h λks es h=>ax h λxs e5 h=>i7 h λhz h=>?_;refine cm h ?_;rw [es] at e4
 refine Tn (xx hf hp hq hr R I F e1 e2 e3 e4 λa vl vu vs s4 α4 I4 S4 ra pl pu ps=>?_);refine bm (ra.isList I4 e5) λl items zq2 zp3 rr=>?_;refine bH (F6 zq2) ?_;refine bP zp3 λn1 hl=>?_;have hsz:items.size=xs.length:=by rw [←rr.length];simp
 have I5:=I4.keeps (tk:=s4.toks) (bc s4.heap {cls:=.type "slice",data:=.fields #[vl,vu,vs]});have S5:=aV.keeps (α:=α4) (μ:=μ4) (s:=s4) (tk:=s4.toks) (bc s4.heap {cls:=.type "slice",data:=.fields #[vl,vu,vs]});have hl':(s4.heap.push {cls:=.type "slice",data:=.fields #[vl,vu,vs]}).PlainList l items:=⟨n1,bc _ _ _ _ hl⟩;refine Sj (s:= {s4 with heap:=s4.heap.push {cls:=.type "slice",data:=.fields #[vl,vu,vs]}}) hl'.isList.typeIs QA.lookup (QC hl'.isList (Q3 ..) pl pu ps (by intro q;cases q;exact hz.2 rfl) ?_ (by lia)) (hs _ _);refine bI.trans (S4.trans S5) (bI.newList (tk:=s4.toks) I5 ?_)
 have:=rp (rr.keeps (bc s4.heap {cls:=.type "slice",data:=.fields #[vl,vu,vs]})) (sliceRange (sliceBounds kl kh (some ks) xs.length).1 (sliceBounds kl kh (some ks) xs.length).2.1 (sliceBounds kl kh (some ks) xs.length).2.2)
 unfold slicePick iQ;rw [hsz]
 simpa using this
end
theorem lg{t sl:Addr}{a:Nat}
 (ht:IsTup s.heap t items) (hs:s.heap.IsSliceOf sl (.int a u) .none .none) (h1:1≤a) (ha:a≤items.size)
 (h:Q (.ref s.heap.objs.size) {s with heap:=s.heap.push {cls:=.type "tuple",data:=.seq (items.toList.drop a).toArray}}) (hsz:items.size≤sizeLine):
 wpAny (model prog w) A (getItem (.ref t) (.ref sl)) Q E s:=getItem_tuple_from ht hs h1 ha h hsz
section
variable {p q r:PF}
theorem dQ{x:Expr}(hf:ab C n cx x f)(hp:lm C n cx lo p)(hq:lm C n cx hi q):ab C n cx (.Subscript x (.Slice lo hi none sp) pos) (ci f p q):=by
 refine .of ?_;intro A env O T ρ α μ s E V μ' R I F h;have hs:∀o i,subscripted (.Slice lo hi none sp) false o i=operate [i,o] (getItem o i):= λo i=>rfl;refine aD h λV1 μ1 e1 h=>aD h λkl μ2 e2 h=>aD h λkh μ3 e3 h=>?_;refine Tn (xx hf hp hq dE R I F e1 e2 e3 rfl λa vl vu vs s4 α4 I4 S4 ra pl pu ps=>?_);have I5:=I4.keeps (tk:=s4.toks) (bc s4.heap {cls:=.type "slice",data:=.fields #[vl,vu,vs]});have S5:=aV.keeps (α:=α4) (μ:=μ3) (s:=s4) (tk:=s4.toks) (bc s4.heap {cls:=.type "slice",data:=.fields #[vl,vu,vs]});cases ps;refine bV h (λx zz ex zz h=>i7 h λhz h=>?_) λh=>bV h (λxs k ex ek h=>i7 h λhz h=>?_) λh=>ax h λxs e5 h=>i7 h λhz h=>?_
 ·refine cm h ?_
  refine bP (j0 ex ra) λt zq1=>?_;subst zq1;have hlk:typeLookup (.type "str") "__getitem__"=pure (some (.builtin "str.__getitem__")):=PySem.F.slot_str_getitem.lookup;have part:∀ {v:Value} {k:Option Int},IsPart v k→∃l:Option (Int×Tok),v=partValue l∧l.map (·.1)=k:=by
   intro v k pk;cases pk with
   |none=>exact (aZ none rfl rfl)
   |int i t=>exact (aZ (some (i,t)) rfl rfl)
  refine au (part pl) λl zq1 hl=>?_;subst zq1;refine au (part pu) λu zq1 hu=>?_;subst zq1;refine Sj (s:= {s4 with heap:=s4.heap.push {cls:=.type "slice",data:=.fields #[partValue l,partValue u,.none]}}) (T:="str") (typeIs_str _ x t) hlk (wpAny_getItem_str_slice (l:=l) (u:=u) (st:=none) (cL _ (Dy _ rfl) rfl rfl) rfl ?_) (hs _ _);unfold sliceMade;have e9:slicePicked x l u none=K4 kl kh 1 x.length:=by unfold slicePicked;rw [hl,hu];rfl
  rw [e9];unfold oO at hz⊢
  by_cases hc:((K4 kl kh 1 x.length).length==x.length)=true
  ·rw [if_pos (by simpa using hc)]
   refine bI.trans (S4.trans S5) (bI.same I5 ?_);rw [if_pos hc];exact aJ.str ..
  ·rw [if_neg (by simpa using hc)]
   refine ⟨?_,bI.trans (S4.trans S5) (bI.tok I5 ?_)⟩
   ·have:=hz.2
    rwa [if_neg hc] at this
   ·rw [if_neg hc]
    exact aJ.str ..
 ·refine cm h ?_
  refine f_ hz λhh hz=>?_;subst hh;subst ek;refine bm (HT ex ra) λa' items zq2 ht rr=>?_;subst zq2;have hsz:items.size=xs.length:=by rw [←rr.length];simp
  cases pl with
  |int _ u=>
  cases pu;obtain ⟨m,rfl⟩:∃m:Nat,k=m:=⟨k.toNat,by lia⟩;have hk:=bc s4.heap {cls:=.type "slice",data:=.fields #[.int m u,.none,.none]};have ht':(s4.heap.push {cls:=.type "slice",data:=.fields #[.int m u,.none,.none]}).IsTuple a' items:=by refine au ht λo ho q=>?_;exact (aZ o (hk _ _ ho) q)
  refine Sj (s:= {s4 with heap:=s4.heap.push {cls:=.type "slice",data:=.fields #[.int m u,.none,.none]}}) (o:=.ref a') (T:="tuple") (by refine ct ht' λo ho hc zz=>?_;exact (aZ o ho hc)) T1.lookup (lg ht' (Q3 ..) (by lia) (by lia) ?_ (by lia)) (hs _ _);refine bI.trans (S4.trans S5) (bI.of_keeps (tk:=s4.toks) I5 (bc _ _) ?_);refine aJ.tuple (Dy _ rfl) rfl rfl (aw.keeps ?_ (bc _ _)) (eF I5 (ig _))
  simpa using (rr.keeps hk).drop m
 ·refine cm h ?_
  refine bm (ra.isList I4 e5) λl items zq2 zp3 rr=>?_;subst zq2;refine bP zp3 λn1 hl=>?_;have hsz:items.size=xs.length:=by rw [←rr.length];simp
  have hl':(s4.heap.push {cls:=.type "slice",data:=.fields #[vl,vu,.none]}).PlainList l items:=⟨n1,bc _ _ _ _ hl⟩;refine Sj (s:= {s4 with heap:=s4.heap.push {cls:=.type "slice",data:=.fields #[vl,vu,.none]}}) hl'.isList.typeIs QA.lookup (QC hl'.isList (Q3 ..) pl pu .none (by intro q;exact cv q) ?_ (by lia)) (hs _ _);refine bI.trans (S4.trans S5) (bI.newList (tk:=s4.toks) I5 ?_);rw [qW];exact xn (rr.keeps (bc s4.heap {cls:=.type "slice",data:=.fields #[vl,vu,.none]})) _ _
end
noncomputable abbrev a_:=List AV→List ah→Option (AV×List ah)
def af(fs:List EF)(spec:a_):EF:= λρ μ=>bp (e_ fs ρ μ) λVs μ1=>spec Vs μ1
def eH(C:gK)(n:Nat)(f:Value)(spec:a_):Prop:=∀A T α μ s E vs Vs V μ',cR A n→bl C T α μ s→f6 s.heap α (T++ai α μ) vs Vs→spec Vs μ=some (V,μ')→
 wpAny (model C.prog C.w) A (call f vs) (bI C T α μ s μ' V) E s
def kY(f:Value):Prop:=∀ (M:Model) (A:Around) (E:Value→Shared→Prop) (s:Shared) (pos:Pos) (first:List Value) (args:List (Bool×Sem Value)) (Q:Value→Shared→Prop),args.any (·.1)=false→
 wpAny M A (evalArgs f true args []) (λa s₁=>wpAny M A (call f (first++a.pos) a.kw) Q E s₁) E s→wpAny M A (callWith pos f first args []) Q E s
theorem bf(id:String):kY (.builtin id):= λzz zz zz zz zz zz zz zz hp h=>OZ hp h
theorem bD(T:String):kY (.type T):= λzz zz zz zz zz zz zz zz hp h=>PyProof.Rows.callWith_type hp h
section
variable {spec:a_}
theorem ef{Q:Args→Shared→Prop}
  (hs:starEach (e::es) env=(false,eval e env)::starEach es env) (ha:dg C n cx (e::es) fs) (R:cR A n) (I:bl C T α μ s) (F:bh C cx env O ρ s.heap α (T++ai α μ)) (h:e_ fs ρ μ=some (Vs,μ1))
  (k:∀vs s1 α1,bl C T α1 μ1 s1→aV [] α μ s α1 μ1 s1→f6 s1.heap α1 (T++ai α1 μ1) vs Vs→Q ⟨vs,[]⟩ s1):
  wpAny (model C.prog C.w) A (evalArgs fv true (backTo pos (starEach (e::es) env)) []) Q E s:=by
 have z:=ha.run A env O T ρ α μ s E Vs μ1 pos R I F h;rw [hs] at z⊢
 refine Sy (D2 z (λvs s1 p=>?_) λzz zz x=>x);refine ct p λα1 I1 S1 r1=>?_;exact k vs s1 α1 I1 S1 r1
theorem N9{fd:FuncData}(hg:C.mg x=some (.ref fa))(ho:C.B.get? fa=some o)(hd:o.data=.func fd)(hf:eH C n (.ref fa) spec)
  (ha:dg C n cx (e::es) fs) (hs:∀env,starEach (e::es) env=(false,eval e env)::starEach es env)
  (hl:cx.scope.names.lookup x=some .globalImplicit) (hk:cx.scope.kind=.function) (hdb:(x==("__debug__":Str))=false):
  ab C n cx (.Call (.Name x xp) (e::es) [] pos) (af fs spec):=by
 refine .of ?_;intro A env O T ρ α μ s E V μ' R I F h;refine aD h λVs μ1 e1 h=>?_;refine (?_:wpAny _ A (do callWith pos (←eval (.Name x xp) env) [] (backTo pos (starEach (e::es) env)) []) _ _ s);refine yS (Fe (by rw [F.sc];exact hk) (by unfold Jz;rw [F.sc];exact hl) (Ln (by rw [F.gl];exact C.g.keeps I.keep) hg ?_) hdb);refine MV (o:=o) (fd:=fd) (ef (hs env) ha R I F e1 λvs s1 α1 I1 S1 r1=>⟨⟨I1.keep _ _ ho,hd⟩,?_⟩);exact D2 (hf A T α1 μ1 s1 E vs Vs V μ' R I1 r1 h) (λv s2 p=>bI.trans S1 p) λzz zz x=>x
theorem TA(hg:C.mg x=none)(hb:bootBuiltins x=some fv)(hx:x≠"__name__")(hn:kY fv)(hf:eH C n fv spec)
  (ha:dg C n cx (e::es) fs) (hs:∀env,starEach (e::es) env=(false,eval e env)::starEach es env) (hp:∀env,(backTo pos (starEach (e::es) env)).any (·.1)=false)
  (hl:cx.scope.names.lookup x=some .globalImplicit) (hk:cx.scope.kind=.function) (hdb:(x==("__debug__":Str))=false):
  ab C n cx (.Call (.Name x xp) (e::es) [] pos) (af fs spec):=by
 refine .of ?_;intro A env O T ρ α μ s E V μ' R I F h;refine aD h λVs μ1 e1 h=>?_;refine (?_:wpAny _ A (do callWith pos (←eval (.Name x xp) env) [] (backTo pos (starEach (e::es) env)) []) _ _ s);refine yS (Fe (by rw [F.sc];exact hk) (by unfold Jz;rw [F.sc];exact hl) (Lu (by rw [F.gl];exact C.g.keeps I.keep) hg (by rw [F.bn];exact C.b.keeps I.keep) ((C.bt x hx).trans hb) ?_) hdb);refine hn _ _ _ _ _ _ _ _ (hp env) (ef (hs env) ha R I F e1 λvs s1 α1 I1 S1 r1=>?_);exact D2 (hf A T α1 μ1 s1 E vs Vs V μ' R I1 r1 h) (λv s2 p=>bI.trans S1 p) λzz zz x=>x
end
noncomputable def dC:a_:= λVs μ=>bo (l1 Vs) λV=>oe (lS V) (some ()) (λx zz=>if x.length≤sizeLine then some (.d (.int x.length),μ) else none)
 (bo (v7 μ V) λxs=>if xs.length≤sizeLine then some (.d (.int xs.length),μ) else none)
theorem PX(e:l1 Vs=some V)(r:f6 h α M vs Vs):∃v,vs=[v]∧bq h α M v V:=by
 rw [V5 e] at r
 cases vs with
 |nil=>exact r.elim
 |cons v vs=>
  cases vs with
  |nil=>exact aZ v rfl r.1
  |cons w vs=>exact r.2.elim
theorem vr2{W:AV}(e:l2 Vs=some (V,W))(r:f6 h α M vs Vs):∃v w,vs=[v,w]∧bq h α M v V∧bq h α M w W:=by
 rw [zX e] at r
 cases vs with
 |nil=>exact r.elim
 |cons v vs=>
  refine au (PX rfl r.2) λw e2 q=>?_;refine bH (F6 e2) ?_;exact dy v w rfl r.1 q
theorem eX:eH C n (.builtin "len") dC:=by
 intro A T α μ s E vs Vs V μ' R I r h;refine ax h λV1 e1 h=>?_;refine au (PX e1 r) λv zq1 r=>?_;refine bH (F6 zq1) ?_;refine bV h (λx zz ex zz h=>i7 h λhz h=>?_) λh=>ax h λxs e h=>i7 h λhz h=>?_
 ·refine cm h ?_
  refine bP (j0 ex r) λt zq1=>?_;refine bH (F6 zq1) ?_;exact PyProof.Rows.len_str (by unfold sizeLine at hz;lia) (bI.tok I (aJ.int ..))
 ·refine cm h ?_
  unfold sizeLine at hz
  refine bV e (λx zz ex zz q=>?_) λe=>?_
  ·have q':=Fh q
   subst q';refine bm (HT ex r) λa items zq2 ht rr=>?_;refine bH (F6 zq2) ?_;have hsz:items.size=x.length:=by rw [←rr.length];simp
   refine PyProof.Rows.len_tuple ht (by lia) ?_;rw [hsz];exact bI.tok I (aJ.int ..)
  ·refine bm (r.isList I e) λa items zq2 hl rr=>?_
   refine bH (F6 zq2) ?_;have hsz:items.size=xs.length:=by rw [←rr.length];simp
   refine call_len_list hl.isList (by lia) ?_;rw [hsz];exact bI.tok I (aJ.int ..)
variable {spec : a_}
theorem lj:∀ {α:List Addr} {μ:List ah} {i:Nat} {c c₀:ah},μ[i]? =some c₀→c.isMut=c₀.isMut→ai α (μ.set i c)=ai α μ
 | [],_,_,_,_,_,_=>by simp [ai]
 |_::_,[],_,_,_,h,_=>by simp at h
 |b::α,c₁::μ,0,c,c₀,h,q=>by
  simp at h;subst h
  simp [ai,q]
 |b::α,c₁::μ,i+1,c,c₀,h,q=>by
  simp only [Q2,ai];rw [lj (by simpa using h) q]
theorem Ds(hn:α.Nodup)(h1:α[i]? =some a)(h2:α[j]? =some a):i=j:=by
 refine bP (BW.mp h1) λp e1=>?_;refine bP (BW.mp h2) λq e2=>?_
 rcases QD i j with h|h|h
 ·exact absurd (e1.trans e2.symm) (M4.mp hn i j p q h)
 ·exact h
 ·exact absurd (e2.trans e1.symm) (M4.mp hn j i q p h)
theorem bl.setCell{c₀:ah}(I:bl C T α μ s)(ha:α[i]? =some a)(hc:μ[i]? =some c₀)(hm:c₀.isMut=true)(hm':c.isMut=true)
  (hs:∀b o,b≠a→s.heap.get? b=some o→h'.get? b=some o) (hd:∃o,h'.get? a=some o) (hcell:(∀ {v:List Value} {ds:List PyData},aw s.heap (T++ai α μ) v ds→aw h' (T++ai α μ) v ds)→ee h' (T++ai α μ) a c):
  bl C T α (μ.set i c) {s with heap:=h',toks:=tk}∧aV [] α μ s α (μ.set i c) {s with heap:=h',toks:=tk}:=by
 have hme:ai α (μ.set i c)=ai α μ:=lj hc (by rw [hm,hm']);have ham:a∈ai α μ:=pZ ha hc hm;have X:g7 ([]++ai α μ) s.heap h':= λb o e ht=>by
  by_cases q:b=a
  ·subst q;exact (ht (by simpa using ham)).elim
  ·exact hs b o q e
 have St:aV [] α μ s α (μ.set i c) {s with heap:=h',toks:=tk}:=by
  refine ⟨(aZ ([]) (by simp) (by simp)),X,λb hb=>.inl (hme▸hb),λb o e=>?_,λzz zz e=>e⟩
  by_cases q:b=a
  ·subst q;exact hd
  ·exact ⟨o,hs b o q e⟩
 refine ⟨⟨λb o e=>hs b o (λq=>?_) (I.keep b o e),by rw [LF];exact I.len,λj b c' h1 h2=>?_,I.nodup,I.apart,λb hb=>?_,I.tnew,I.new,I.gens,I.os⟩,St⟩
 ·have:=I.new a (FW ha)
  rw [q,this] at e;exact cv e
 ·rw [hme]
  rcases BC h2 with ⟨rfl,rfl⟩| ⟨hne,h2⟩
  ·rw [ha] at h1;refine cC h1 ?_
   refine hcell λ{v ds} r=>?_
   have:=aw.step0 (T:=T) r St
   rwa [hme] at this
  ·have hba:b≠a:= λq=>hne (Ds I.nodup h1 (q▸ha))
   have z:=I.cells j b c' h1 h2;have kd:∀ {v:Value} {d:PyData},aJ s.heap (T++ai α μ) v d→aJ h' (T++ai α μ) v d:= λ{v d} r=>by
    have:=aJ.step0 (T:=T) r St
    rwa [hme] at this
   have kds:∀ {v:List Value} {d:List PyData},aw s.heap (T++ai α μ) v d→aw h' (T++ai α μ) v d:= λ{v d} r=>by
    have:=aw.step0 (T:=T) r St
    rwa [hme] at this
   cases c' with
   |live xs=>
    refine eE λGG kG=>?_;refine au z λitems zp1 r=>?_;obtain ⟨n,e'⟩:=zp1;refine kG ?_;exact (aZ items ⟨n,hs _ _ hba e'⟩ (kds r))
   |frozen xs=>exact kd z
   |iter xs=>
    rcases z with ⟨l,k,items,⟨o',e',q⟩,⟨n2,e2⟩,hl,hk,r⟩| ⟨rfl,o',k,e',q⟩
    ·exact .inl (i4 l k items ⟨o',hs _ _ hba e',q⟩ ⟨n2,hs _ _ (λz=>hl (z▸CR _ ham)) e2⟩ hl hk (kds r))
    ·exact .inr (UO rfl o' k (hs _ _ hba e') q)
 ·by_cases q:b=a
  ·subst q;exact hd
  ·exact (I.tdom b hb).imp λo e=>hs b o q e
theorem kx{M:Model}{l:Addr}{id:String}{pl:Sem Bool}{Q:Value×List Value→Shared→Prop}(ho:s.heap.PlainList l items)
  (hl:typeLookup (.type "list") name=pure (some (.builtin id))) (ht:typeOf (.builtin id)=pure (.type "method_descriptor")) (h:Q (.builtin id,[.ref l]) s):wpAny M A (getMethod (.ref l) name pl) Q E s:=by
 refine bP ho λn ho=>?_;have hT:s.TypeIs (.ref l) "list":=(aZ _ ho rfl);unfold getMethod;refine yS (LG hT list_getattribute ?_);refine (?_:wpAny M A (if (Manifest.canonical "list.__getattribute__" != "object.__getattribute__")=true then _ else _) Q E s);rw [canon_list_getattribute,if_neg Hm];refine yS (LG hT list_getattr_none ?_);refine yS (LG hT hl ?_);refine yS (Mf ht ?_);refine yS (wpAny_load ho ?_);exact yS (O7 (ES h))
abbrev nq(o:Expr)(name:Str)(apos:Pos)(args:List Expr)(pos:Pos):Prop:=∀env,eval (.Call (.Attribute o name apos) args [] pos) env=(do
 let ov←eval o env
 standAt apos.atName
 let (f,first)←holding [ov] (getMethod ov name (do return (←importBound o env).getD true))
 callWith pos f first (backTo pos (starEach args env)) [])
noncomputable def Bf:ah→Option (List PyData)
 | .live xs=>some xs
 |_=>none
theorem Mc(h:Bf c=some xs):c=.live xs:=by cases c<;>first|exact cv h| (cases h;rfl)
theorem H1(e:μ[i]? =some c)(h:Bf c=some xs):μ[i]? =some (.live xs):=e.trans (congrArg some (Mc h))
def eh(f g:EF):EF:= λρ μ=>bp (f ρ μ) λV0 μ1=>bo (Fo V0) λi=>bo (dc μ1 (.c i)) λzz=>bp (g ρ μ1) λV μ2=>bp (xz V μ2) λd μ3=>bo (μ3[i]?) λc=>bo (Bf c) λxs=>if xs.length≤sizeLine then some (.d .none,μ3.set i (.live (xs++[d]))) else none
section
theorem cz{o:Expr}(hm:nq o "append" apos [e] pos)(hf:ab C n cx o f)(hg:ab C n cx e g)(hs:∀env,starEach [e] env=[(false,eval e env)]):
  ab C n cx (.Call (.Attribute o "append" apos) [e] [] pos) (eh f g):=by
 refine .of ?_;intro A env O T ρ α μ s E V μ' R I F h;refine aD h λV0 μ1 e1 h=>ax h λi ei h=>ax h λxs0 e0 h=>aD h λV2 μ2 e2 h=>aD h λd μ3 e3 h=>ax h λc ec h=>ax h λxs el h=>i7 h λhz h=>?_;rw [B4 ei] at e1
 have e4:=H1 ec el;refine cm h ?_;refine Q_ (D2 (hf.run A env O T ρ α μ s E _ _ R I F e1) (λv s1 p=>?_) λzz zz x=>x) (hm env);refine eE λGG kG=>?_;refine ct p λα1 I1 S1 r1=>?_;refine au r1 λa ha zq2=>?_;subst zq2;refine bm (bq.isList (V:=.c i) I1 (aZ a ha rfl) e0) λzz its1 e9 hp1 zz=>?_;cases e9;refine kG ?_;refine kx hp1 slot_list_append.lookup type_list_append ?_;have es1:dg C n cx [e] [g]:=dG (by intro env;exact hs env) hg ae;refine OZ (by rw [hs env];rfl) (ef (fs:=[g]) (hs env) es1 R I1 (F.step I S1) (yr e2) λvs s2 α2 I2 S2 r2=>?_);refine au (PX rfl r2) λv zq r2=>?_;refine bH (F6 zq) ?_;refine eE λGG kG=>?_;refine dW (uD I2 r2 e3) λI3 S3 r3=>?_;refine au S2.pre λδ hδ zz=>?_;have ha2:α2[i]? =some a:=by rw [hδ,F9 (BW.mp ha).1];exact ha
 refine au (I3.cells i a _ ha2 e4) λitems hp rr=>?_;refine kG ?_;have hsz:items.size=xs.length:=by rw [←rr.length];simp
 refine R5 hp (λh' hl' hs'=>?_) (by lia);obtain ⟨I4,S4⟩:=I3.setCell (c:=.live (xs++[d])) (h':=h') (tk:=s2.toks) ha2 e4 rfl rfl (λb o q e=>(hs'.2 b q).trans e) (by refine bP hl' λk e=>?_;exact ⟨_,e⟩) λkd=>(aZ _ hl' (by
  rw [To];exact kd (rr.append (.cons r3 (aw.nil _ _)))))
 exact bI.trans (S1.trans (S2.trans S3)) (cL α2 I4 S4 (aJ.none _ _))
def se(f g:EF):EF:= λρ μ=>bp (f ρ μ) λV0 μ1=>bo (Fo V0) λi=>bo (dc μ1 (.c i)) λzz=>bp (g ρ μ1) λV μ2=>bo (Yd V) λys=>bo (μ2[i]?) λc=>bo (Bf c) λxs=>if xs.length+ys.length≤sizeLine then some (.d .none,μ2.set i (.live (xs++ys))) else none
theorem kJ{o:Expr}(hm:nq o "extend" apos [e] pos)(hf:ab C n cx o f)(hg:ab C n cx e g)(hs:∀env,starEach [e] env=[(false,eval e env)]):
  ab C n cx (.Call (.Attribute o "extend" apos) [e] [] pos) (se f g):=by
 refine .of ?_;intro A env O T ρ α μ s E V μ' R I F h;refine aD h λV0 μ1 e1 h=>ax h λi ei h=>ax h λxs0 e0 h=>aD h λV2 μ2 e2 h=>ax h λys ey h=>ax h λc ec h=>ax h λxs el h=>i7 h λhz h=>?_;rw [B4 ei] at e1
 have e4:=H1 ec el;refine cm h ?_;refine Q_ (D2 (hf.run A env O T ρ α μ s E _ _ R I F e1) (λv s1 p=>?_) λzz zz x=>x) (hm env);refine eE λGG kG=>?_;refine ct p λα1 I1 S1 r1=>?_;refine au r1 λa ha zq2=>?_;subst zq2;refine bm (bq.isList (V:=.c i) I1 (aZ a ha rfl) e0) λzz its1 e9 hp1 zz=>?_;cases e9;refine kG ?_;refine kx hp1 QE.lookup PySem.F.type_list_extend ?_;have es1:dg C n cx [e] [g]:=dG (by intro env;exact hs env) hg ae;refine OZ (by rw [hs env];rfl) (ef (fs:=[g]) (hs env) es1 R I1 (F.step I S1) (yr e2) λvs s2 α2 I2 S2 r2=>?_);refine au (PX rfl r2) λv zq r2=>?_;refine bH (F6 zq) ?_;refine eE λGG kG=>?_;refine kQ (aJ.of_list (PH ey r2)) λb its2 zq2 zp3 rr2 hbM=>?_;subst zq2;obtain ⟨n2,hb⟩:=zp3;refine au S2.pre λδ hδ zz=>?_;have ha2:α2[i]? =some a:=by rw [hδ,F9 (BW.mp ha).1];exact ha
 refine au (I2.cells i a _ ha2 e4) λitems zp1 rr=>?_;obtain ⟨n1,hp⟩:=zp1;refine kG ?_;have hsz:items.size=xs.length:=by rw [←rr.length];simp
 have hsz2:its2.size=ys.length:=by rw [←rr2.length];simp
 refine UU QE (aZ _ hp rfl) PySem.F.entry_list_extend (PySem.F.args_list_extend_2 _ _) (PySem.AutoSeq1.list_extend_list_list_0 a items n1 b its2 n2 ?_ (by lia) (by lia)) (fu hp hb ?_)
 ·simp only [Qw]
  simp
  intro _;lia
 ·have hnew:(s2.heap.update a (M7 λx=>x++its2)).PlainList a (items++its2):=⟨_,Fw _ hp rfl⟩
  obtain ⟨I4,S4⟩:=I2.setCell (c:=.live (xs++ys)) (h':=s2.heap.update a (M7 λx=>x++its2)) (tk:=s2.toks) ha2 e4 rfl rfl (λb o q e=>((L9 ..).2 b q).trans e) (by refine bP hnew λk e=>?_;exact ⟨_,e⟩) λkd=>(aZ _ hnew (by
   rw [PC];exact kd (rr.append rr2)))
  exact bI.trans (S1.trans S2) (cL α2 I4 S4 (aJ.none _ _))
end
noncomputable def qo:List PyData→Option (List Int)
 | []=>some []
 |x::r=>bo (dI x) λi=>bo (qo r) λl=>some (i::l)
noncomputable def nG:List PyData→Option (List Str)
 | []=>some []
 |x::r=>bo (dS x) λi=>bo (nG r) λl=>some (i::l)
theorem uE:∀ {vs:List Value} {xs:List PyData} {ns:List Int},aw h M vs xs→qo xs=some ns→IntsAre vs ns
 | [],[],ns,_,e=>by refine cC e ?_;exact .nil
 | [],_::_,_,r,_=>by have:=r.length;simp at this
 |_::_,[],_,r,_=>by have:=r.length;simp at this
 |v::vs,x::xs,ns,r,e=>by
  refine ax e λi ei e=>ax e λl e2 e=>?_;refine cC e ?_;refine f_ r.uncons λr1 r2=>?_;rw [UJ ei] at r1
  refine bP (aJ.of_int r1) λt e3=>?_;refine bH (F6 e3) ?_;exact .cons _ _ (uE r2 e2)
theorem Bx:∀ {vs:List Value} {xs:List PyData} {ns:List Str},aw h M vs xs→nG xs=some ns→StrsAre vs ns
 | [],[],ns,_,e=>by refine cC e ?_;exact .nil
 | [],_::_,_,r,_=>by have:=r.length;simp at this
 |_::_,[],_,r,_=>by have:=r.length;simp at this
 |v::vs,x::xs,ns,r,e=>by
  refine ax e λi ei e=>ax e λl e2 e=>?_;refine cC e ?_;refine f_ r.uncons λr1 r2=>?_;rw [YE ei] at r1
  refine bP (aJ.of_str r1) λt e3=>?_;refine bH (F6 e3) ?_;exact .cons _ _ (Bx r2 e2)
theorem zN(r:IntsAre vs ns):aw h M vs (ns.map .int):=by
 induction r with
 |nil=>exact aw.nil h M
 |cons i t r ih=>exact .cons (aJ.int ..) ih
theorem Jw(r:f6 h α M vs [V]):∃v,vs=[v]∧bq h α M v V:=PX rfl r
theorem Te{W:AV}(r:f6 h α M vs [V,W]):∃v w,vs=[v,w]∧bq h α M v V∧bq h α M w W:=vr2 rfl r
noncomputable def f5:a_:= λVs μ=>bp (l2 Vs) λU V=>bo (lS U) λx=>bo (dc μ V) λxs=>bo (nG xs) λys=>if (ys.map (·.length)).sum+ys.length*x.length≤16777216 then some (.d (.str (LA x ys)),μ) else none
theorem gV:eH C n (.builtin "str.join") f5:=by
 intro A T α μ s E vs Vs V μ' R I r h;refine aD h λU V1 eU h=>ax h λx ex h=>ax h λxs e1 h=>ax h λys e2 h=>i7 h λhz h=>?_;refine cm h ?_;refine bm (vr2 eU r) λv w zq2 r1 r2=>?_;refine bH (F6 zq2) ?_;refine bP (j0 ex r1) λt zq1=>?_;refine bH (F6 zq1) ?_;refine bm (r2.isList I e1) λa items zq2 hl rr=>?_;refine bH (F6 zq2) ?_;exact PyProof.Rows.join_list hl.isList (Bx rr e2) hz λt' k=>bI.tok I (aJ.str ..)
noncomputable def oS:a_:= λVs μ=>bo (l1 Vs) λV=>bo (jM V) λi=>if (SB "0x" 16 i).length≤sizeLine then some (.d (.str (SB "0x" 16 i)),μ) else none
theorem tR:eH C n (.builtin "hex") oS:=by
 intro A T α μ s E vs Vs V μ' R I r h;refine ax h λV1 e1 h=>ax h λi ei h=>i7 h λhz h=>?_;refine cm h ?_;refine au (PX e1 r) λv zq1 r1=>?_;refine bH (F6 zq1) ?_;refine bP (fM ei r1) λt zq1=>?_;refine bH (F6 zq1) ?_;exact PySem.P.hex_of_int (bI.tok I (aJ.str ..)) hz
noncomputable def gA:a_:= λVs μ=>bp (l2 Vs) λV W=>bo (W4 W) λT=>oe (jM V) (some ()) (λzz zz=>if T="int" then some (.d (.bool true),μ) else if T="bool" then some (.d (.bool false),μ) else none)
 (oe (Nw V) (some ()) (λzz zz=>if T="int" then some (.d (.bool true),μ) else if T="bool" then some (.d (.bool true),μ) else none) none)
theorem t6:eH C n (.builtin "isinstance") gA:=by
 intro A T α μ s E vs Vs V μ' R I r h;refine aD h λV1 W eV h=>ax h λT' eT h=>?_;refine bm (vr2 eV r) λv w zq2 r1 r2=>?_;refine bH (F6 zq2) ?_;refine bH (F6 (ad2 eT r2)) ?_;refine bV h (λi zz ei zz h=>?_) λh=>bV h (λi zz ei zz h=>?_) λh=>cv h
 ·refine bP (fM ei r1) λt zq1=>?_
  refine bH (F6 zq1) ?_;refine ifB h (λe h=>?_) λzz h=>i7 h λe h=>?_
  ·refine cm h ?_;refine bH (F6 e) ?_
   exact PySem.IsiPair.int_int (bI.same I (aJ.bool ..))
  ·refine cm h ?_;refine bH (F6 e) ?_
   exact PySem.IsiPair.int_bool (bI.tok I (aJ.bool ..))
 ·refine bH (F6 (vz ei r1)) ?_
  refine ifB h (λe h=>?_) λzz h=>i7 h λe h=>?_
  ·refine cm h ?_;refine bH (F6 e) ?_
   exact PySem.IsiPair.bool_int (bI.same I (aJ.bool ..))
  ·refine cm h ?_;refine bH (F6 e) ?_
   exact PySem.IsiPair.bool_bool (bI.same I (aJ.bool ..))
noncomputable def cH:a_:= λVs μ=>oe (l1 Vs) (some ()) (λV zz=>bo (jM V) λb=>some (.rng 0 b,μ)) (bp (l2 Vs) λV W=>bo (jM V) λa=>bo (jM W) λb=>some (.rng a b,μ))
theorem dM:eH C n (.type "range") cH:=by
 intro A T α μ s E vs Vs V μ' R I r h;refine bV h (λV1 zz eV zz h=>ax h λb eb h=>?_) λh=>aD h λV1 W eV h=>ax h λa ea h=>ax h λb eb h=>?_
 ·refine cm h ?_
  refine au (PX eV r) λv zq1 r1=>?_;refine bH (F6 zq1) ?_;refine bP (fM eb r1) λt zq1=>?_;refine bH (F6 zq1) ?_;refine call_range_1 ?_;refine bI.of_keeps I (bc _ _) (qj _ _ _ _ rfl (Vm ..) (eF I (ig _)))
 ·refine cm h ?_
  refine bm (vr2 eV r) λv w zq2 r1 r2=>?_;refine bH (F6 zq2) ?_;refine bP (fM ea r1) λt zq1=>?_;refine bH (F6 zq1) ?_;refine bP (fM eb r2) λu zq1=>?_;refine bH (F6 zq1) ?_;refine call_range_2 ?_;refine bI.of_keeps I (bc _ _) (qj _ _ _ _ rfl (Vm ..) (eF I (ig _)))
noncomputable def iY:List Int→List Int
 | []=>[]
 |x::r=>ins x (iY r)
where ins (x:Int):List Int→List Int
 | []=>[x]
 |y::r=>if x≤y then x::y::r else y::ins x r
theorem pT(x:Int):∀l,(iY.ins x l).Perm (x::l)
 | []=>.refl _
 |y::r=>by
  unfold iY.ins;split
  ·exact .refl _
  ·exact ((pT x r).cons y).trans (.swap x y r)
theorem qV:∀l,(iY l).Perm l
 | []=>.refl _
 |x::r=>(pT x _).trans ((qV r).cons x)
theorem qq(x:Int):∀l:List Int,l.Pairwise (· ≤ ·)→(iY.ins x l).Pairwise (· ≤ ·)
 | [],_=>by simp [iY.ins]
 |y::r,h=>by
  refine f_ (MJ.mp h) λh1 h2=>?_;unfold iY.ins;split
  ·rename_i q
   refine MJ.mpr ⟨λz hz=>?_,h⟩
   rcases Cc.mp hz with rfl|hz
   ·exact q
   ·exact Int.le_trans q (h1 z hz)
  ·rename_i q
   refine MJ.mpr ⟨λz hz=>?_,qq x r h2⟩
   rcases Cc.mp ((pT x r).mem_iff.mp hz) with rfl|hz
   ·lia
   ·exact h1 z hz
theorem mz:∀l,(iY l).Pairwise (· ≤ ·)
 | []=>by simp [iY]
 |x::r=>qq x _ (mz r)
theorem r_{a b:List Int}(h1:a.Pairwise (· ≤ ·))(h2:b.Pairwise (· ≤ ·))(p:a.Perm b):a=b:=by
 induction a generalizing b with
 |nil=>exact (List.nil_perm.mp p).symm
 |cons x r ih=>
  cases b with
  |nil=>exact absurd p.symm (by simp)
  |cons y t=>
   refine f_ (MJ.mp h1) λa1 a2=>?_;refine f_ (MJ.mp h2) λb1 b2=>?_;have hx:x∈y::t:=p.mem_iff.mp (FI ..);have hy:y∈x::r:=p.mem_iff.mpr (FI ..)
   have:x=y:=by
    rcases Cc.mp hx with e|e
    ·exact e
    ·rcases Cc.mp hy with e'|e'
     ·exact e'.symm
     ·exact Int.le_antisymm (a1 y e') (b1 x e)
   subst this;rw [ih a2 b2 (List.perm_cons x |>.mp p)]
noncomputable def kR:a_:= λVs μ=>bo (l1 Vs) λV=>bo (dc μ V) λxs=>bo (qo xs) λns=>if xs.length<64 then some (.d (.list ((iY ns).map .int)),μ) else none
theorem EL:eH C n (.builtin "sorted") kR:=by
 intro A T α μ s E vs Vs V μ' R I r h;refine ax h λV1 eV h=>ax h λxs e1 h=>ax h λns e2 h=>i7 h λhz h=>?_;refine cm h ?_;refine au (PX eV r) λv zq1 r1=>?_;subst zq1;refine bm (r1.isList I e1) λa items zq2 hl rr=>?_;subst zq2;refine PyProof.Rows.sorted_ints (vs:=items.toList) (by simpa using hl.isList) (uE rr e2) (by rw [rr.length];exact hz) λout ns' hi hp hs=>?_;have e9:ns'=iY ns:=r_ hs (mz ns) (hp.trans (qV ns).symm);subst e9;refine bP (sortedAll_at s.heap items.toList out) λk hk=>?_;have keep:∀b o,s.heap.get? b=some o→(sortedAll s.heap items.toList out).get? b=some o:= λb o e=>sortedAll_old e;refine bI.of_keeps (tk:=s.toks) I keep (aJ.list (vs:=out) ⟨k,hk⟩ (zN hi) (eF I ?_));cases e:s.heap.get? (s.heap.objs.size+1) with
 |none=>rfl
 |some o=>exact absurd (Me e) (Nat.not_lt.mpr (P3 _))
end Mine
namespace Mine
open PySem PySem.W PySem.Calls PyProof.Rows
variable {V V' : AV} {Cn D L TI TO a fa i1 i2 i3 z : Addr} {A : Around} {items zs : Array Value} {sh tup : Bool} {c c' : ah} {C : gK} {cx : Cx} {f fi fo g : EF} {cenv env : Env} {mean : ExcName → Option Value} {e e1 e2 elt iter target test : Expr} {h h' : Heap} {y : Int} {Vs : List AV} {M M' O T T' W wr α α' α1 α₀ : List Addr} {Mid : List Addr → List Addr → List Addr → List ah → Nat → Value → Shared → Prop} {μ μ' μ'' μ1 μ2 μ3 μ₀ : List ah} {fs : List EF} {es : List Expr} {K cs ns os rest : List Int} {gi ls m ps : List Nat} {X acc acc' ds xs ys : List PyData} {body orelse : List Stmt} {vs : List Value} {ρ ρ' ρ1 ρ2 : d5} {tf : d5 → PyData → Option d5} {b i j ja jt k kk low mask n p q tk : Nat} {o : Obj} {op : Operator} {ha ke td te tx : Option AV} {hi lo : Option Expr} {gg : Option Nat} {apos pos px py sp tp xp : Pos} {prog : Program} {G : Prop} {d : PyData} {sc scope : Scope} {s s' s'' s1 s₀ : Shared} {spec : a_} {st : Stmt} {name x : Str} {t : TF} {u : Tok} {cd cls doc fv it pm v : Value} {E Q : Value → Shared → Prop} {w : World}
structure aG (wr:List Addr) (gi:List Nat) (s s':Shared):Prop where
 heap:∀b o,b∉wr→s.heap.get? b=some o→s'.heap.get? b=some o
 gens:∀ (i:Nat) (x:GenState),i∉gi→s.gens[i]? =some x→s'.gens[i]? =some x
 os:s'.os=s.os
 bare:AllBare s.gens→AllBare s'.gens
theorem aG.refl(wr:List Addr)(gi:List Nat)(s:Shared):aG wr gi s s:=⟨λzz zz zz e=>e,λzz zz zz e=>e,rfl,λh=>h⟩
theorem aG.trans(x:aG wr gi s s')(y:aG wr gi s' s''):aG wr gi s s'':=
 ⟨λb o hb e=>y.heap b o hb (x.heap b o hb e),λi z hi e=>y.gens i z hi (x.gens i z hi e),y.os.trans x.os,λh=>y.bare (x.bare h)⟩
theorem aG.of_heap(hk:∀b o,b∉wr→s.heap.get? b=some o→h'.get? b=some o):aG wr gi s {s with heap:=h',toks:=tk}:=
 ⟨hk,λzz zz zz e=>e,rfl,λh=>h⟩
theorem aG.ext(x:aG wr gi s s'):g7 wr s.heap s'.heap:= λb o e hb=>x.heap b o (λq=>hb q) e
theorem iX(hw:∀b∈W,b∈T):iI W T h:= λa ha=>.inr (.inr (hw a ha))
theorem ny{N:List Addr}(k:iI W T h):iI W (T++N) h:= λa ha=>(k a ha).imp id (Or.imp id (ye _))
theorem bl.moves'(I:bl C T α μ s)(x:aG wr gi s s')(hw:∀b∈wr,b∈T)(hT:∀a∈T',a∈T)(hd:∀a∈T',∃o,s'.heap.get? a=some o):bl C T' α μ s':=
 I.ext x.ext (λa ha=>I.tnew a (hw a ha)) (iX hw) (λa ha q=>I.apart a (hw a q) ha) hT hd rfl (x.bare I.gens) x.os
theorem bl.moves(I:bl C T α μ s)(x:aG wr gi s s')(hw:∀b∈wr,b∈T)(hd:∀a∈wr,∃o,s'.heap.get? a=some o):bl C T α μ s':=
 I.moves' x hw (λzz h=>h) λa ha=>by
  by_cases q:a∈wr
  ·exact hd a q
  ·refine bP (I.tdom a ha) λo e=>?_
   exact ⟨o,x.heap a o q e⟩
theorem aJ.moves(r:aJ s.heap (T++ai α μ) v d)(x:aG wr gi s s')(hw:∀b∈wr,b∈T):aJ s'.heap (T++ai α μ) v d:=r.ext x.ext (ny (iX hw)) λzz=>.inl
theorem aw.moves{v:List Value}{d:List PyData}(r:aw s.heap (T++ai α μ) v d)(x:aG wr gi s s')(hw:∀b∈wr,b∈T):aw s'.heap (T++ai α μ) v d:=r.ext x.ext (ny (iX hw)) λzz=>.inl
theorem bq.moves(r:bq s.heap α (T++ai α μ) v V)(x:aG wr gi s s')(hw:∀b∈wr,b∈T):bq s'.heap α (T++ai α μ) v V:=r.ext x.ext (ny (iX hw)) (λzz zz=>id) λzz=>.inl
theorem aV.moves(x:aV O α μ s₀ α' μ' s)(y:aG wr gi s s')(hw:∀b∈wr,s₀.heap.get? b=none)(hg:∀i∈gi,s₀.gens[i]? =none):aV O α μ s₀ α' μ' s':=
 ⟨x.pre,λb o e hb=>y.heap b o (λq=>by rw [hw b q] at e;exact cv e) (x.ext b o e hb),x.mts,λa o e=>let ⟨o',e'⟩:=x.dom a o e;⟨o',y.heap a o' (λq=>by rw [hw a q] at e;exact cv e) e'⟩,λi z e=>y.gens i z (λq=>by rw [hg i q] at e;exact cv e) (x.gens i z e)⟩
def cy(g:Option Nat)(xs:List PyData)(μ:List ah):Prop:=∀j,g=some j→dc μ (.c j)=some xs
def fp(tup:Bool)(h:Heap)(M:List Addr)(v:Value)(x:PyData):Prop:=match tup with
 |true=>∃a items ds,v=.ref a∧x=.tuple ds∧h.IsTuple a items∧aw h M items.toList ds
 |false=>aJ h M v x
def H9(tup:Bool)(t:Expr):Prop:=match tup with
 |true=>∃elts k pos,t=.Tuple elts k pos
 |false=>∃x pos,t=.Name x pos
noncomputable abbrev xN:=List Addr→List Addr→List ah→Nat→Shared→Prop
structure lk (C:gK) (it:Value) (wr:List Addr) (gi:List Nat) (xs:List PyData) (g:Option Nat) (tup:Bool) (St:xN) (Mid:List Addr→List Addr→List ah→Nat→Value→Shared→Prop):Prop where
 frame:∀ {O T T' α α':List Addr} {μ μ':List ah} {i:Nat} {s s':Shared},St T α μ i s→aV O α μ s α' μ' s'→iI O T s.heap→(∀a∈O,a∉wr)→(∀a∈T',a∈T∨s.heap.get? a=none)→(∀b∈wr,b∈T)→bl C T α μ s→bl C T' α' μ' s'→cy g xs μ'→St T' α' μ' i s'
 item:∀ {A:Around} {T α:List Addr} {μ:List ah} {i:Nat} {x:PyData} {s:Shared} {Q:Option Value→Shared→Prop} {E:Value→Shared→Prop},cR A 2→bl C T α μ s→(∀b∈wr,b∈T)→St T α μ i s→xs[i]? =some x→
  (∀v s',aG wr gi s s'→bl C T α μ s'→fp tup s'.heap (T++ai α μ) v x→Mid T α μ i v s'→Q (some v) s')→wpAny (model C.prog C.w) A (pyNext it) Q E s
 go:∀ {A:Around} {T α:List Addr} {μ:List ah} {i:Nat} {x:PyData} {v:Value} {t:Expr} {s:Shared} {Q:Unit→Shared→Prop} {E:Value→Shared→Prop},bl C T α μ s→(∀b∈wr,b∈T)→Mid T α μ i v s→H9 tup t→fp tup s.heap (T++ai α μ) v x→
  (∀s',aG wr gi s s'→bl C T α μ s'→fp tup s'.heap (T++ai α μ) v x→St T α μ (i+1) s'→Q () s')→wpAny (model C.prog C.w) A (letOwnedTupleGo t it v) Q E s
 done:∀ {A:Around} {T α:List Addr} {μ:List ah} {i:Nat} {s:Shared} {Q:Option Value→Shared→Prop} {E:Value→Shared→Prop},cR A 2→bl C T α μ s→(∀b∈wr,b∈T)→St T α μ i s→xs[i]? =none→
  (∀s',aG wr gi s s'→(∀T',(∀a∈T',a∈T∧a∉wr)→bl C T' α μ s')→Q none s')→wpAny (model C.prog C.w) A (pyNext it) Q E s
 self:∀ {A:Around} {T α:List Addr} {μ:List ah} {i:Nat} {s:Shared} {Q:Value→Shared→Prop} {E:Value→Shared→Prop},St T α μ i s→Q it s→wpAny (model C.prog C.w) A (pyIter it) Q E s
structure gZ (C:gK) (it:Value) (gi:List Nat) (xs:List PyData) (g:Option Nat) (tup:Bool) (St:List Addr→xN) (Mid:List Addr→List Addr→List Addr→List ah→Nat→Value→Shared→Prop):Prop where
 frame:∀ {wr O T T' α α':List Addr} {μ μ':List ah} {i:Nat} {s s':Shared},St wr T α μ i s→aV O α μ s α' μ' s'→iI O T s.heap→(∀a∈O,a∉wr)→(∀a∈T',a∈T∨s.heap.get? a=none)→(∀b∈wr,b∈T)→bl C T α μ s→bl C T' α' μ' s'→cy g xs μ'→St wr T' α' μ' i s'
 item:∀ {A:Around} {wr T α:List Addr} {μ:List ah} {i:Nat} {x:PyData} {s:Shared} {Q:Option Value→Shared→Prop} {E:Value→Shared→Prop},cR A 2→bl C (wr++T) α μ s→St wr (wr++T) α μ i s→xs[i]? =some x→
  (∀v s' wr',aG wr gi s s'→(∀b∈wr',b∈wr∨s.heap.get? b=none)→bl C (wr'++T) α μ s'→fp tup s'.heap ((wr'++T)++ai α μ) v x→Mid wr' (wr'++T) α μ i v s'→Q (some v) s')→wpAny (model C.prog C.w) A (pyNext it) Q E s
 go:∀ {A:Around} {wr T α:List Addr} {μ:List ah} {i:Nat} {x:PyData} {v:Value} {t:Expr} {s:Shared} {Q:Unit→Shared→Prop} {E:Value→Shared→Prop},bl C (wr++T) α μ s→Mid wr (wr++T) α μ i v s→H9 tup t→fp tup s.heap ((wr++T)++ai α μ) v x→
  (∀s',aG wr gi s s'→bl C (wr++T) α μ s'→fp tup s'.heap ((wr++T)++ai α μ) v x→St wr (wr++T) α μ (i+1) s'→Q () s')→wpAny (model C.prog C.w) A (letOwnedTupleGo t it v) Q E s
 done:∀ {A:Around} {wr T α:List Addr} {μ:List ah} {i:Nat} {s:Shared} {Q:Option Value→Shared→Prop} {E:Value→Shared→Prop},cR A 2→bl C (wr++T) α μ s→St wr (wr++T) α μ i s→xs[i]? =none→
  (∀s',aG wr gi s s'→(∀T',(∀a∈T',a∈wr++T∧a∉wr)→bl C T' α μ s')→Q none s')→wpAny (model C.prog C.w) A (pyNext it) Q E s
 self:∀ {A:Around} {wr T α:List Addr} {μ:List ah} {i:Nat} {s:Shared} {Q:Value→Shared→Prop} {E:Value→Shared→Prop},St wr T α μ i s→Q it s→wpAny (model C.prog C.w) A (pyIter it) Q E s
noncomputable def StW(w0:List Addr)(St:xN):List Addr→xN:= λwr T α μ i s=>wr=w0∧St T α μ i s
noncomputable def aa2(w0:List Addr)(Mid:List Addr→List Addr→List ah→Nat→Value→Shared→Prop):List Addr→List Addr→List Addr→List ah→Nat→Value→Shared→Prop:= λwr T α μ i v s=>wr=w0∧Mid T α μ i v s
theorem lk.walk{g:Option Nat}{St:xN}{Mid:List Addr→List Addr→List ah→Nat→Value→Shared→Prop}(W:lk C it wr gi xs g tup St Mid):gZ C it gi xs g tup (StW wr St) (aa2 wr Mid) where
 frame:=by
  intro wr' O T T' α α' μ μ' i s s' zi0 S h1 h2 h3 h4 I I' hg;refine f_ zi0 λzq0 st=>?_;subst zq0;exact ⟨rfl,W.frame st S h1 h2 h3 h4 I I' hg⟩
 item:=by
  intro A wr' T α μ i x s Q E R I zi1 e k;refine f_ zi1 λzq0 st=>?_;subst zq0;exact W.item R I (λb hb=>ye _ hb) st e λv s' mv I' ir md=>k v s' wr' mv (λb hb=>.inl hb) I' ir ⟨rfl,md⟩
 go:=by
  intro A wr' T α μ i x v t s Q E I zi2 tg ir k;refine f_ zi2 λzq0 md=>?_;subst zq0;exact W.go I (λb hb=>ye _ hb) md tg ir λs' mv I' ir' st=>k s' mv I' ir' ⟨rfl,st⟩
 done:=by
  intro A wr' T α μ i s Q E R I zi3 e k;refine f_ zi3 λzq0 st=>?_;subst zq0;exact W.done R I (λb hb=>ye _ hb) st e λs' mv h=>k s' mv h
 self:=by
  intro A wr' T α μ i s Q E zi4 h;refine f_ zi4 λzq0 st=>?_;subst zq0;exact W.self st h
variable {St : List Addr → xN}
theorem in1{X:Type}{a:X}{l:List X}:a∈a::l:=FI ..
theorem Pj{X:Type}{a b:X}{l:List X}:b∈a::b::l:=D1 _ in1
theorem yF{X:Type}{a b c:X}{l:List X}:c∈a::b::c::l:=D1 _ Pj
theorem Cz{X:Type}{a b c d:X}{l:List X}:d∈a::b::c::d::l:=D1 _ yF
theorem H3{X:Type}{a b c d e:X}{l:List X}:e∈a::b::c::d::e::l:=D1 _ Cz
theorem in6{X:Type}{a b c d e f:X}{l:List X}:f∈a::b::c::d::e::f::l:=D1 _ H3
theorem zG{X:Type}{x a:X}{l:List X}(h:x∈a::l)(k:x=a→G)(k':x∈l→G):G:=(Cc.mp h).elim k k'
theorem EV{b c d e x:Addr}{P:Addr→Prop}(ha:P a)(hb:P b)(hc:P c)(hd:P d)(he:P e)(h:x∈[a,b,c,d,e]):P x:=
 zG h (λq=>q▸ha) λh=>zG h (λq=>q▸hb) λh=>zG h (λq=>q▸hc) λh=>zG h (λq=>q▸hd) λh=>Aq.mp h▸he
theorem SK{b c d e f x:Addr}{P:Addr→Prop}(ha:P a)(hb:P b)(hc:P c)(hd:P d)(he:P e)(hf:P f)(h:x∈[a,b,c,d,e,f]):P x:=zG h (λq=>q▸ha) (EV hb hc hd he hf)
theorem jC(I0:bl C T α μ s)(S:aV O α μ s α' μ' s')(hwr:∀a∈O,a∉wr)(hwT:∀b∈wr,b∈T){b:Addr}(hb:b∈wr)(o:Obj)(e:s.heap.get? b=some o):s'.heap.get? b=some o:=
 S.ext _ _ e λq=>(AE.mp q).elim (λq=>hwr b q hb) λq=>I0.apart b (hwT b hb) (db q)
theorem fF{vs:Array Value}(r:aw h M vs.toList xs)(e:xs[i]? =none):vs[i]? =none:=by
 rw [←Lc,GZ,r.length];exact GZ.mp e
theorem j7{vs:Array Value}(r:aw h M vs.toList xs){x:PyData}(e:xs[i]? =some x):∃v,vs[i]? =some v∧aJ h M v x:=
 au (r.get e) λv e1 e2=>aZ v (Lc.symm.trans e1) e2
theorem bl.done(I:bl C T α μ s)(mv:aG wr gi s s')(hw:∀b∈wr,b∈T)(h:∀a∈T',a∈T∧a∉wr):bl C T' α μ s':=
 I.moves' mv hw (λa ha=>(h a ha).1) λa ha=>(I.tdom a (h a ha).1).imp λo e=>mv.heap a o (h a ha).2 e
noncomputable def Fb:AV→Option Nat
 | .c j=>some j
 |_=>none
theorem yC(h:dc μ V=some xs)(g:cy (Fb V) xs μ'):dc μ' V=some xs:=by
 cases V with
 |d x=>cases x<;>first|exact h|cases h
 |c j=>exact g j rfl
 |rng a b=>exact cv h
 |ty T=>exact cv h
theorem bv{I l:Addr}(x:h.IsListIter I l i)(e:∀o,h.get? I=some o→h'.get? I=some o):h'.IsListIter I l i:=let ⟨o,ho,r⟩:=x;⟨o,e o ho,r⟩
noncomputable def nj(xs:List PyData):Bool:=xs.all λ| .tuple _=>true|_=>false
theorem yl(h:nj xs=true){x:PyData}(e:xs[i]? =some x):∃ds,x=.tuple ds:=by
 have:=Bw.mp h x (FW e)
 cases x<;>first|exact ⟨_,rfl⟩|exact (Hm this).elim
theorem rf{A:Type}{f:A→PyData}{l:List A}(h:∀a,∃ds,f a=.tuple ds):nj (l.map f)=true:=
 Bw.mpr λx hx=>au (DT.mp hx) λa zz e=>bP (h a) λds q=>by rw [←e,q]
theorem zf{x:PyData}(r:aJ h M v x)(ht:tup=true→∃ds,x=.tuple ds):fp tup h M v x:=by
 cases tup with
 |false=>exact r
 |true=>
  refine bP (ht rfl) λds zq1=>?_;subst zq1;refine bm r.of_tuple λa items zq2 p rr=>?_;subst zq2;exact (dA a items ds rfl rfl p rr)
theorem fp.moves{x:PyData}(r:fp tup s.heap (T++ai α μ) v x)(y:aG wr gi s s')(hw:∀b∈wr,b∈T)(hv:tup=true→∀a,v=.ref a→∀o,s.heap.get? a=some o→s'.heap.get? a=some o):fp tup s'.heap (T++ai α μ) v x:=by
 cases tup with
 |false=>exact aJ.moves (d:=x) r y hw
 |true=>
  refine dp r λa items ds zq3 zq4 zp5 rr=>?_;subst zq3;subst zq4;obtain ⟨o,e,q⟩:=zp5;exact (dA a items ds rfl rfl ⟨o,hv rfl a rfl o e,q⟩ (rr.moves y hw))
section
variable {I l:Addr}
noncomputable def FJ(I l:Addr)(V:AV)(xs:List PyData):xN:= λT α μ i s=>s.heap.IsListIter I l i∧bq s.heap α (T++ai α μ) (.ref l) V∧dc μ V=some xs
theorem gZ.list(hne:l≠I)(ht:tup=true→nj xs=true):lk C (.ref I) [I] [] xs (Fb V) tup (FJ I l V xs) (λT α μ i v s=>FJ I l V xs T α μ (i+1) s) where
 frame:=by
  intro O T T' α α' μ μ' i s s' st S hO hwr hT hwT I0 I1 hg;exact dW st λh1 h2 h3=>⟨bv h1 (jC I0 S hwr hwT in1),h2.stepO S hO hT,yC h3 hg⟩
 item:=by
  intro A T α μ i x s Q E R Iv hw st e k;refine dW st λh1 h2 h3=>?_;refine bm (h2.isList Iv h3) λa items e1 hp rr=>?_;cases e1;refine au (rr.get e) λv e2 r=>?_;refine RC h1 hp.isList (x:=v) (Lc.symm.trans e2) λh' hit' hs'=>?_;have mv:aG [I] [] s {s with heap:=h'}:=aG.of_heap (tk:=s.toks) (λb o hb e=>(hs'.2 b λq=>hb (q▸in1)).trans e);have J:=Iv.moves mv hw λb hb=>Aq.mp hb▸au hit' λo e zz=>⟨o,e⟩;exact k v _ mv J (zf (r.moves mv hw) λq=>yl (ht q) e) ⟨hit',h2.moves mv hw,h3⟩
 go:=by
  intro A T α μ i x v t s Q E Iv hw md tg ir k;cases tup with
  |false=>
   refine lP tg λx pos zq2=>?_;subst zq2;exact ES (k s (aG.refl _ _ _) Iv ir md)
  |true=>
   refine jE tg λelts kk pos zq3=>?_;subst zq3;refine dp ir λa items ds zq3 zq4 p rr=>?_;subst zq3;subst zq4;exact wpAny_letOwnedTupleGo_listiter md.1 (k s (aG.refl _ _ _) Iv ⟨a,items,ds,rfl,rfl,p,rr⟩ md)
 done:=by
  intro A T α μ i s Q E R Iv hw st e k;refine dW st λh1 h2 h3=>bm (h2.isList Iv h3) λa items e1 hp rr=>?_;cases e1;refine PE R.handled h1 hp.isList (fF rr e) λh' he'=>?_;have mv:aG [I] [] s {s with heap:=h'}:=aG.of_heap (tk:=s.toks) (λb o hb e=>he' b o (λq=>hb (q▸in1)) e);exact k _ mv λT' hT'=>Iv.done mv hw hT'
 self:=by
  intro A T α μ i s Q E st h;exact wpAny_pyIter_listiter st.1 h
end
theorem ud{I l:Addr}(x:h.IsTupleIter I l i)(e:∀o,h.get? I=some o→h'.get? I=some o):h'.IsTupleIter I l i:=let ⟨o,ho,r⟩:=x;⟨o,e o ho,r⟩
section
variable {I l:Addr}
noncomputable def Q4(I l:Addr)(items:Array Value)(xs:List PyData):xN:= λT α μ i s=>s.heap.IsTupleIter I l i∧s.heap.IsTuple l items∧aw s.heap (T++ai α μ) items.toList xs∧l∉T++ai α μ
theorem gZ.tuple(hne:l≠I):lk C (.ref I) [I] [] xs none false (Q4 I l items xs) (λT α μ i v s=>Q4 I l items xs T α μ (i+1) s) where
 frame:=by
  intro O T T' α α' μ μ' i s s' st S hO hwr hT hwT I0 I1 hg;exact my st λh1 h2 h3 h4=>⟨ud h1 (jC I0 S hwr hwT in1),jY h2 S.ext λq=>h4 (hO.app.seq _ q (i0 h2)),h3.stepO S hO hT,λq=>(S.hm hT l q).elim h4 (fX (i0 h2))⟩
 item:=by
  intro A T α μ i x s Q E R Iv hw st e k;refine my st λh1 h2 h3 h4=>au (h3.get e) λv e2 r=>?_;refine wpAny_pyNext_tuple_item h1 h2 (x:=v) (Lc.symm.trans e2) λh' hit' hs'=>?_;have mv:aG [I] [] s {s with heap:=h'}:=aG.of_heap (tk:=s.toks) (λb o hb e=>(hs'.2 b λq=>hb (q▸in1)).trans e);have J:=Iv.moves mv hw λb hb=>Aq.mp hb▸au hit' λo e zz=>⟨o,e⟩;exact k v _ mv J (r.moves mv hw) ⟨hit',h2.extBut hs'.extBut hne,h3.moves mv hw,h4⟩
 go:=by
  intro A T α μ i x v t s Q E Iv hw md tg ir k;refine lP tg λx pos zq2=>?_;subst zq2;exact ES (k s (aG.refl _ _ _) Iv ir md)
 done:=by
  intro A T α μ i s Q E R Iv hw st e k;refine my st λh1 h2 h3 h4=>wpAny_pyNext_tuple_end R.handled h1 h2 (fF h3 e) λh' he'=>?_;have mv:aG [I] [] s {s with heap:=h'}:=aG.of_heap (tk:=s.toks) (λb o hb e=>he' b o (λq=>hb (q▸in1)) e);exact k _ mv λT' hT'=>Iv.done mv hw hT'
 self:=by
  intro A T α μ i s Q E st h;exact wpAny_pyIter_tupleiter st.1 h
end
noncomputable def fK(a:Int):Nat→List PyData
 |0=>[]
 |n+1=>.int a::fK (a+1) n
theorem vw(a:Int):∀n,(fK a n).length=n
 |0=>rfl
 |n+1=>by simp [fK,vw (a+1) n]
theorem vf:∀ (a:Int) (n i:Nat) (x:PyData),(fK a n)[i]? =some x→x=.int (a+i)∧i<n
 |_,0,_,_,h=>by simp [fK] at h
 |a,n+1,0,x,h=>by simp [fK] at h;simp [←h]
 |a,n+1,i+1,x,h=>by
  simp only [fK,Oc] at h
  refine f_ (vf (a+1) n i x h) λe q=>?_;refine ⟨?_,by lia⟩;rw [e];congr 1;push_cast;lia
section
variable {I:Addr}
noncomputable def SD(I:Addr)(a:Int)(n:Nat):xN:= λzz zz zz i s=>IsRangeIter s.heap I (a+(i:Nat)*1) ((n:Int)-(i:Nat)) 1
theorem gZ.range{a:Int}:lk C (.ref I) [I] [] (fK a n) none false (SD I a n) (λT α μ i v s=>SD I a n T α μ (i+1) s) where
 frame:=by
  intro O T T' α α' μ μ' i s s' h1 S hO hwr hT hwT I0 I1 hg;exact jC I0 S hwr hwT in1 _ h1
 item:=by
  intro A T α μ i x s Q E R Iv hw h1 e k;refine f_ (vf _ _ _ _ e) λzq0 hi=>?_;subst zq0;refine (Walks.range (prog:=C.prog) (w:=C.w) R.handled I a 1 n).item i s Q E hi h1 λv h' tk hv hst hk=>?_;have mv:aG [I] [] s {s with heap:=h',toks:=tk}:=aG.of_heap hk;have J:=Iv.moves mv hw λb hb=>Aq.mp hb▸⟨_,hst⟩;refine bP hv λt zq1=>?_;subst zq1;rw [show a+(i:Int)*1=a+i by lia];exact k _ _ mv J (aJ.int ..) hst
 go:=by
  intro A T α μ i x v t s Q E Iv hw md tg ir k;refine lP tg λx pos zq2=>?_;subst zq2;exact ES (k s (aG.refl _ _ _) Iv ir md)
 done:=by
  intro A T α μ i s Q E R Iv hw h1 e k;rw [GZ,vw] at e
  refine wpAny_pyNext_range_end R.handled h1 (by lia) λh' he'=>?_;have mv:aG [I] [] s {s with heap:=h'}:=aG.of_heap (tk:=s.toks) (λb o hb e=>he' b o (λq=>hb (q▸in1)) e);exact k _ mv λT' hT'=>Iv.done mv hw hT'
 self:=by
  intro A T α μ i s Q E h1 h;exact wpAny_pyIter_rangeiter h1 h
end
noncomputable def cN:Nat→List PyData→List PyData
 |_,[]=>[]
 |k,x::r=>.tuple [.int k,x]::cN (k+1) r
theorem nA:∀ (k:Nat) (xs:List PyData) (i:Nat),(cN k xs)[i]? =(xs[i]?).map λx=>.tuple [.int (k+i),x]
 |_,[],_=>by simp [cN]
 |k,x::r,0=>by simp [cN]
 |k,x::r,i+1=>by
  simp only [cN,Oc,nA (k+1) r i]
  congr 1;funext x;congr 3;push_cast;lia
section
variable {e it l:Addr}
noncomputable def Vw(e it l:Addr)(xs:List PyData):xN:= λT α μ i s=>(∃old,IsEnum s.heap e it i old)∧s.heap.IsListIter it l i∧bq s.heap α (T++ai α μ) (.ref l) (.d (.list xs))
noncomputable def OR(e it l:Addr)(xs:List PyData):List Addr→List Addr→List ah→Nat→Value→Shared→Prop:= λT α μ i v s=>∃a,v=.ref a∧(∃x,IsEnumOut s.heap e it ((i:Int)+1) x a)∧s.heap.IsListIter it l (i+1)∧bq s.heap α (T++ai α μ) (.ref l) (.d (.list xs))∧a≠e∧a≠it
theorem gZ.enum(hei:e≠it)(hle:l≠e)(hli:l≠it):lk C (.ref e) [e,it] [] (cN 0 xs) none true (Vw e it l xs) (OR e it l xs) where
 frame:=by
  intro O T T' α α' μ μ' i s s' st S hO hwr hT hwT I0 I1 hg;exact dW st λh0 h1 h2=>⟨bP h0 λold h0=>⟨old,jC I0 S hwr hwT in1 _ h0⟩,bv h1 (jC I0 S hwr hwT Pj),h2.stepO S hO hT⟩
 item:=by
  intro A T α μ i x s Q E R Iv hw st ex k;refine dW st λh0 h1 h2=>?_;refine bm (h2.isList Iv rfl) λa items e1 hp rr=>?_;cases e1;rw [nA,J4] at ex
  refine au ex λy ey zq2=>?_;subst zq2;refine au (rr.get ey) λv ev r=>?_;have ev':items[i]? =some v:=Lc.symm.trans ev;refine (WalksT.enumerate (prog:=C.prog) (w:=C.w) R.handled e it l hei hle hli items).item i s Q E (LQ.mp ev').1 ⟨h0,h1,hp.isList⟩ λa' vals h' tk hP hsz hT' hM hk=>?_;have mv:aG [e,it] [] s {s with heap:=h',toks:=tk}:=aG.of_heap hk;refine iq hM λm0 m1 m2 m3 m4=>?_;have J:=Iv.moves mv hw λb hb=>zG hb (λq=>q▸bP m0 λzz z=>⟨_,z⟩) λhb=>Aq.mp hb▸au m1 λo z zz=>⟨o,z⟩;refine jS hP λt x1 e2 zq3=>?_;subst zq3;rw [ev'] at e2;cases e2
  refine k _ _ mv J ⟨a',_,_,rfl,rfl,hT',?_⟩ ⟨a',rfl,m0,m1,h2.moves mv hw,m3,m4⟩;simp only [Int.natCast_zero,Int.zero_add];exact .cons (aJ.int ..) (.cons (r.moves mv hw) (aw.nil _ _))
 go:=by
  intro A T α μ i x v t s Q E Iv hw st tg ir k;refine Hq st λa hv m0 m1 m2 m4 m5=>bP m0 λx0 m0=>?_;subst hv;refine jE tg λelts kk pos zq3=>?_;subst zq3;refine Q1 m0 λh' he' hs'=>?_;have mv:aG [e,it] [] s {s with heap:=h'}:=aG.of_heap (tk:=s.toks) (λb o hb z=>(hs'.2 b λq=>hb (q▸in1)).trans z);have hit':h'.IsListIter it l (i+1):=bv m1 λo z=>(hs'.2 it hei.symm).trans z;have J:=Iv.moves mv hw λb hb=>zG hb (λq=>q▸⟨_,he'⟩) λhb=>Aq.mp hb▸au hit' λo z zz=>⟨o,z⟩;refine k _ mv J (ir.moves mv hw λzz a2 q o z=>?_) ⟨⟨x0,by simpa using he'⟩,hit',m2.moves mv hw⟩;cases q;exact (hs'.2 a m4).trans z
 done:=by
  intro A T α μ i s Q E R Iv hw st ex k;refine dW st λh0 h1 h2=>bP h0 λold h0=>bm (h2.isList Iv rfl) λa items e1 hp rr=>?_;cases e1;rw [nA,Option.map_eq_none_iff] at ex
  refine wpAny_pyNext_enum_end R.handled h0 h1 hp.isList (fF rr ex) λh' hx=>?_;have mv:aG [e,it] [] s {s with heap:=h'}:=aG.of_heap (tk:=s.toks) (λb o hb z=>hx b o (λq=>hb (q▸Pj)) z);exact k _ mv λT' hT'=>Iv.done mv hw hT'
 self:=by
  intro A T α μ i s Q E st h;exact bP st.1 λold h0=>QH h0 h
end
noncomputable def m9(xs ys:List PyData):List PyData:=RU (λx y=>.tuple [x,y]) xs ys
theorem we{x:PyData}(e:(m9 xs ys)[i]? =some x)(k:∀x1 x2,xs[i]? =some x1→ys[i]? =some x2→x=.tuple [x1,x2]→G):G:=
 bm (Mn.mp e) λx1 x2 e1 e2 e3=>k x1 x2 e1 e2 e3.symm
theorem tA{X Y Z:Type}{f:X→Y→Z}{xs:List X}{ys:List Y}(e:(RU f xs ys)[i]? =none):xs[i]? =none∨ys[i]? =none:=by
 rw [GZ,SL] at e
 rw [GZ,GZ];exact (Nat.le_total xs.length ys.length).imp (λh=>by rw [RX h] at e;exact e) λh=>by rw [Nat.min_eq_right h] at e;exact e
noncomputable def w4(xs ys zs:List PyData):List PyData:=RU (λx p=>.tuple [x,p.1,p.2]) xs (RU Prod.mk ys zs)
theorem Jj{zs:List PyData}{x:PyData}(e:(w4 xs ys zs)[i]? =some x)(k:∀x1 x2 x3,xs[i]? =some x1→ys[i]? =some x2→zs[i]? =some x3→x=.tuple [x1,x2,x3]→G):G:=
 bm (Mn.mp e) λx1 p e1 e2 e3=>bm (Mn.mp e2) λx2 x3 f2 f3 f4=>k x1 x2 x3 e1 f2 f3 (by rw [←e3,←f4])
section
variable {l1 l2:Addr}
noncomputable def IW(z TI TO i1 i2 l1 l2:Addr)(f0:Value)(xs ys:List PyData):xN:= λT α μ i s=>(IsZip s.heap z TI TO f0∧IsPair s.heap TI (.ref i1) (.ref i2)∧∃a b,IsPair s.heap TO a b)∧s.heap.IsListIter i1 l1 i∧s.heap.IsListIter i2 l2 i∧bq s.heap α (T++ai α μ) (.ref l1) (.d (.list xs))∧bq s.heap α (T++ai α μ) (.ref l2) (.d (.list ys))
theorem gZ.zip2(D:ZipApart z TI TO i1 i2 l1 l2)(hTIl:TI≠l1∧TI≠l2):lk C (.ref z) [z,TI,TO,i1,i2] [] (m9 xs ys) none true (IW z TI TO i1 i2 l1 l2 .none xs ys)
  (λT α μ i v s=>∃a,v=.ref a∧IW z TI TO i1 i2 l1 l2 (rawInt a) xs ys T α μ (i+1) s∧a∉[z,TI,TO,i1,i2]) where
 frame:=by
  intro O T T' α α' μ μ' i s s' st S hO hwr hT hwT I0 I1 hg;refine iq st λz0 h3 h4 h5 h6=>uF z0 λh0 h1 a b h2=>?_;have kp:= λ{b}=>jC I0 S hwr hwT (b:=b);exact ⟨⟨kp in1 _ h0,kp Pj _ h1,a,b,kp yF _ h2⟩,bv h3 (kp Cz),bv h4 (kp H3),h5.stepO S hO hT,h6.stepO S hO hT⟩
 item:=by
  intro A T α μ i x s Q E R Iv hw st ex k;refine iq st λz0 h3 h4 h5 h6=>uF z0 λh0 h1 a0 b0 h2=>?_;refine bm (h5.isList Iv rfl) λzz its1 e1 hp1 rr1=>bm (h6.isList Iv rfl) λzz its2 e2 hp2 rr2=>?_;cases e1;cases e2;refine we ex λx1 x2 ex1 ex2 zx=>au (j7 rr1 ex1) λv1 ev1 r1=>au (j7 rr2 ex2) λv2 ev2 r2=>?_;subst zx;refine wpAny_pyNext_zip_item D h0 h1 h2 h3 h4 hp1.isList hp2.isList ev1 ev2 λh' a1 a2 a3 a4 a5 a6 a7=>?_;have mv:aG [z,TI,TO,i1,i2] [] s {s with heap:=h'}:=aG.of_heap (tk:=s.toks) λb o hb e=>a7 b o (λq=>hb (q▸in1)) (λq=>hb (q▸yF)) (λq=>hb (q▸Cz)) (λq=>hb (q▸H3)) e;have hTI:IsPair h' TI (.ref i1) (.ref i2):=a7 _ _ D.TIz D.TITO D.TIi1 D.TIi2 h1;have J:=Iv.moves mv hw λb hb=>EV (P:= λb=>∃o,h'.get? b=some o) ⟨_,a1⟩ ⟨_,hTI⟩ ⟨_,a2⟩ (au a3 λo e zz=>⟨o,e⟩) (au a4 λo e zz=>⟨o,e⟩) hb;have lt:∀ {c o},s.heap.get? c=some o→s.heap.objs.size≠c:= λe=>Q5 (Me e);exact k _ _ mv J ⟨_,_,_,rfl,rfl,⟨_,a5,rfl,_,rfl⟩,.cons (r1.moves mv hw) (.cons (r2.moves mv hw) (aw.nil _ _))⟩ ⟨_,rfl,⟨⟨a1,hTI,_,_,a2⟩,a3,a4,h5.moves mv hw,h6.moves mv hw⟩,λhb=>EV (P:= λb=>s.heap.objs.size≠b) (lt h0) (lt h1) (lt h2) (au h3 λo e zz=>lt e) (au h4 λo e zz=>lt e) hb rfl⟩
 go:=by
  intro A T α μ i x v t s Q E Iv hw st tg ir k;refine ct st λa hv st ha=>iq st λz0 h3 h4 h5 h6=>uF z0 λh0 h1 a0 b0 h2=>jE tg λelts kk pos zq3=>?_;subst hv;subst zq3;refine Qk h0 λh' he' hs'=>?_;have mv:aG [z,TI,TO,i1,i2] [] s {s with heap:=h'}:=aG.of_heap (tk:=s.toks) (λb o hb e=>(hs'.2 b λq=>hb (q▸in1)).trans e);have kp:∀b,b≠z→∀o,s.heap.get? b=some o→h'.get? b=some o:= λb hb o e=>(hs'.2 b hb).trans e;have hTI:IsPair h' TI (.ref i1) (.ref i2):=kp _ D.TIz _ h1;have hTO:IsPair h' TO a0 b0:=kp _ D.TOz _ h2;have q3:h'.IsListIter i1 l1 (i+1):=bv h3 (kp _ D.i1z);have q4:h'.IsListIter i2 l2 (i+1):=bv h4 (kp _ D.i2z);have J:=Iv.moves mv hw λb hb=>EV (P:= λb=>∃o,h'.get? b=some o) ⟨_,he'⟩ ⟨_,hTI⟩ ⟨_,hTO⟩ (au q3 λo e zz=>⟨o,e⟩) (au q4 λo e zz=>⟨o,e⟩) hb;exact k _ mv J (ir.moves mv hw λzz a2 q o z=>by cases q;exact kp _ (λq=>ha (q▸in1)) _ z) ⟨⟨he',hTI,a0,b0,hTO⟩,q3,q4,h5.moves mv hw,h6.moves mv hw⟩
 done:=by
  intro A T α μ i s Q E R Iv hw st ex k;refine iq st λz0 h3 h4 h5 h6=>uF z0 λh0 h1 a0 b0 h2=>bm (h5.isList Iv rfl) λzz its1 e1 hp1 rr1=>bm (h6.isList Iv rfl) λzz its2 e2 hp2 rr2=>?_;cases e1;cases e2;refine wpAny_pyNext_zip_end R.handled D h0 h1 h2 h3 h4 hp1.isList hp2.isList ((tA ex).imp (fF rr1) (fF rr2)) λh' hx=>?_;have mv:aG [z,TI,TO,i1,i2] [] s {s with heap:=h'}:=aG.of_heap (tk:=s.toks) (λb o hb e=>hx b o (λq=>hb (q▸in1)) (λq=>hb (q▸yF)) (λq=>hb (q▸Cz)) (λq=>hb (q▸H3)) e);exact k _ mv λT' hT'=>Iv.done mv hw hT'
 self:=by
  intro A T α μ i s Q E st h;exact Pp st.1.1 h
end
abbrev et(h:Heap)(T:Addr)(a b c:Value):Prop:=h.get? T=some {cls:=.type "tuple",data:=.seq #[a,b,c]}
structure kA (z TI TO i1 i2 i3 l1 l2 l3:Addr):Prop where
 nodup:[z,TI,TO,i1,i2,i3].Nodup
 d1:l1∉[z,TI,TO,i1,i2,i3]
 d2:l2∉[z,TI,TO,i1,i2,i3]
 d3:l3∉[z,TI,TO,i1,i2,i3]
section
theorem qM{T:Addr}{a b c x:Value}{Q:Unit→Shared→Prop}(hT:et s.heap T a b c)
  (h:∀h',h'.get? T=some {cls:=.type "tuple",data:=.seq ((#[a,b,c]:Array Value).setIfInBounds k x)}→Lq T s.heap h'→Q () {s with heap:=h'}):
  wpAny (model prog w) A (updateSeq T (·.setIfInBounds k x)) Q E s:=by
 refine Og hT rfl (h _ ?_ (L9 ..));rw [Fw _ hT rfl]
 simp [M7]
end
namespace F3
theorem typeCall_zip_3(a b c:Value):checkTypeCall "zip" ⟨[a,b,c],[]⟩=pure ():= ∅
theorem newCall_zip_3(a b c:Value):checkBuiltinCall "zip.__new__" ⟨[.type "zip",a,b,c],[]⟩=pure ():= ∅
theorem args_object_init_4(a b c d:Value):argsOk "object.__init__" ⟨[a,b,c,d],[]⟩:=by
 unfold argsOk;rw [signature?_of (id:="object.__init__") (n:=['_','_','t','i','n','i','_','_']) (o:=['t','c','e','j','b','o']) ∅ F.owner_object];kernel_rfl
end F3
section
abbrev CI(h:Heap)(T:Addr)(vs:Array Value):Prop:=h.get? T=some {cls:=.type "tuple",data:=.seq vs}
abbrev KV(h:Heap)(e:Addr):Prop:=∃o,h.get? e=some o∧o.cls=.type "StopIteration"
abbrev Zu{β:Type}(prog:Program)(w:World)(A:Around)(E:Value→Shared→Prop)(s:Shared)(f:Value×Nat→β→Sem (ForInStep β))(b0:β)(z TI TO:Addr)(k:Nat):Prop:=
 ∀ (it l:Addr) (ws:Array Value) (a b c:Value) (m:Nat) (h:Heap) (Q:ForInStep β→Shared→Prop),IsZip h z TI TO .ellipsis→CI h TO #[a,b,c]→h.IsListIter it l k→h.IsList l ws→z≠it→TO≠it→z≠TO→
  (∀x,ws[k]? =some x→∀h',CI h' TO (#[a,b,c].setIfInBounds m x)→h'.IsListIter it l (k+1)→(∀c,c≠TO→c≠it→h'.get? c=h.get? c)→h'.objs.size=h.objs.size→Q (.yield b0) {s with heap:=h'})→
  (ws[k]? =none→∀h' e,(∀c o,c≠z→c≠it→h.get? c=some o→h'.get? c=some o)→KV h' e→E (.ref e) {s with heap:=h'})→
  wpAny (model prog w) A (f (.ref it,m) b0) Q E {s with heap:=h}
theorem Zg{β:Type}{f:Value×Nat→β→Sem (ForInStep β)}{b0:β}{l1 l2 l3:Addr}{xs ys:Array Value}{a b c:Value}{Q:β→Shared→Prop}(S:Zu prog w A E s f b0 z TI TO k)(D:kA z TI TO i1 i2 i3 l1 l2 l3)
  (hz:IsZip h z TI TO .ellipsis) (hTO:CI h TO #[a,b,c])
  (h1:h.IsListIter i1 l1 k) (h2:h.IsListIter i2 l2 k) (h3:h.IsListIter i3 l3 k) (hl1:h.IsList l1 xs) (hl2:h.IsList l2 ys) (hl3:h.IsList l3 zs)
  (hQ:∀x y u,xs[k]? =some x→ys[k]? =some y→zs[k]? =some u→∀h',CI h' TO #[x,y,u]→h'.IsListIter i1 l1 (k+1)→h'.IsListIter i2 l2 (k+1)→h'.IsListIter i3 l3 (k+1)→(∀c,c∉[TO,i1,i2,i3]→h'.get? c=h.get? c)→h'.objs.size=h.objs.size→Q b0 {s with heap:=h'})
  (hE:(xs[k]? =none∨ys[k]? =none∨zs[k]? =none)→∀h' e,(∀c o,c∉[z,TI,TO,i1,i2,i3]→h.get? c=some o→h'.get? c=some o)→KV h' e→E (.ref e) {s with heap:=h'}):
  wpAny (model prog w) A (forIn [(LH i1,0),(LH i2,1),(LH i3,2)] b0 f) Q E {s with heap:=h}:=by
 have nd:=D.nodup;simp only [Ku,Cc,Er,or_false,not_or,not_false_eq_true,Nb,and_true] at nd
 have apart:∀ {l c:Addr} {L:List Addr},l∉L→c∈L→l≠c:= λn q e=>n (e▸q);simp only [Un,List.forIn_nil];refine iq nd λza tia toa i1a i23=>iq za λzz zTO zi1 zi2 zi3=>dW toa λTO1 TO2 TO3=>f_ i1a λi12 i13=>?_;refine yS (S i1 l1 xs a b c 0 h _ hz hTO h1 hl1 zi1 TO1 zTO (λx ex h₁ t₁ f1 k1 n1=>?_) λq h' e kp st=>hE (.inl q) h' e (λc o hc=>kp c o (apart hc in1) (apart hc Cz)) st);refine yS (S i2 l2 ys x b c 1 h₁ _ ((k1 _ zTO zi1).trans hz) t₁ (bv h2 λo=>(k1 _ (MP TO2) (MP i12)).trans) (hl2.at λo=>(k1 _ (apart D.d2 yF) (apart D.d2 Cz)).trans) zi2 TO2 zTO (λy ey h₂ t₂ f2 k2 n2=>?_)
  λq h' e kp st=>hE (.inr (.inl q)) h' e (λc o hc e=>kp c o (apart hc in1) (apart hc H3) ((k1 _ (apart hc yF) (apart hc Cz)).trans e)) st)
 refine yS (S i3 l3 zs x y c 2 h₂ _ ((k2 _ zTO zi2).trans ((k1 _ zTO zi1).trans hz)) t₂ (bv h3 λo e=>(k2 _ (MP TO3) (MP i23)).trans ((k1 _ (MP TO3) (MP i13)).trans e)) (hl3.at λo e=>(k2 _ (apart D.d3 yF) (apart D.d3 H3)).trans ((k1 _ (apart D.d3 yF) (apart D.d3 Cz)).trans e)) zi3 TO3 zTO (λu eu h₃ t₃ f3 k3 n3=>?_)
  λq h' e kp st=>hE (.inr (.inr q)) h' e (λc o hc e=>kp c o (apart hc in1) (apart hc in6) ((k2 _ (apart hc yF) (apart hc H3)).trans ((k1 _ (apart hc yF) (apart hc Cz)).trans e))) st)
 exact ES (hQ x y u ex ey eu h₃ t₃ (bv f1 λo e=>(k3 _ (MP TO1) i13).trans ((k2 _ (MP TO1) i12).trans e)) (bv f2 λo=>(k3 _ (MP TO2) i23).trans) f3
  (λc hc=>(k3 c (apart hc in1) (apart hc Cz)).trans ((k2 c (apart hc in1) (apart hc yF)).trans (k1 c (apart hc in1) (apart hc Pj)))) (n3.trans (n2.trans n1)))
theorem Db{l1 l2 l3:Addr}{xs ys:Array Value}{a b c:Value}(hh:A.handled=none)(D:kA z TI TO i1 i2 i3 l1 l2 l3)
  (hz:IsZip s.heap z TI TO .none) (hTI:et s.heap TI (.ref i1) (.ref i2) (.ref i3)) (hTO:et s.heap TO a b c)
  (h1:s.heap.IsListIter i1 l1 k) (h2:s.heap.IsListIter i2 l2 k) (h3:s.heap.IsListIter i3 l3 k) (hl1:s.heap.IsList l1 xs) (hl2:s.heap.IsList l2 ys) (hl3:s.heap.IsList l3 zs)
  (hQ:∀x y u,xs[k]? =some x→ys[k]? =some y→zs[k]? =some u→∀h',IsZip h' z TI TO (rawInt s.heap.objs.size)→et h' TO x y u→h'.IsListIter i1 l1 (k+1)→h'.IsListIter i2 l2 (k+1)→h'.IsListIter i3 l3 (k+1)→et h' s.heap.objs.size x y u→
   (∀c o,c∉[z,TI,TO,i1,i2,i3]→s.heap.get? c=some o→h'.get? c=some o)→h'.get? TI=s.heap.get? TI→Q (.ref s.heap.objs.size) {s with heap:=h'})
  (hE:(xs[k]? =none∨ys[k]? =none∨zs[k]? =none)→∀h' e,(∀c o,c∉[z,TI,TO,i1,i2,i3]→s.heap.get? c=some o→h'.get? c=some o)→(∃o,h'.get? e=some o∧o.cls=.type "StopIteration")→E (.ref e) {s with heap:=h'}):
  wpAny (model prog w) A (Builtin.«zip.__next__» ⟨[.ref z],[]⟩) (λfin s'=>∃v,fin=.done (.ret v)∧Q v s') E s:=by
 have apart:∀ {l c:Addr} {L:List Addr},l∉L→c∈L→l≠c:= λn q e=>n (e▸q);have nd:=Ku.mp D.nodup;have nd2:=Ku.mp nd.2;have zx:∀ {c},c∈[TI,TO,i1,i2,i3]→c≠z:= λq e=>nd.1 (e▸q);have TOx:∀ {c},c∈[i1,i2,i3]→c≠TO:= λq e=>(Ku.mp nd2.2).1 (e▸q);refine (?_:wpAny _ _ (field (.ref z) 2>>=_) _ _ _);refine yS (L2 hz rfl (x:=.bool false) rfl ?_);refine (?_:wpAny _ _ (field (.ref z) 3>>=_) _ _ _);refine yS (L2 hz rfl (x:=.ref TI) rfl ?_);refine yS (Nd hTI rfl ?_);refine (?_:wpAny _ _ (NB (.ref z)>>=_) _ _ _);refine yS ?_;unfold NB;refine yS (L2 hz rfl (x:=.none) rfl (ES ?_));simp only [if_true];refine yS (O7 ?_);refine yS (L2 hz rfl (x:=.ref TO) rfl ?_);refine yS (Oj hz (by simp) λh₁ hz₁ hs₁=>?_);replace hz₁:IsZip h₁ z TI TO .ellipsis:=hz₁;have K1:∀ {c},c∈[TI,TO,i1,i2,i3]→∀o,s.heap.get? c=some o→h₁.get? c=some o:= λq o e=>(hs₁.2 _ (zx q)).trans e;refine yS (Zg ?_ D hz₁ (K1 Pj _ hTO) (bv h1 (K1 yF)) (bv h2 (K1 Cz)) (bv h3 (K1 H3)) (hl1.at λo=>(hs₁.2 _ (apart D.d1 in1)).trans) (hl2.at λo=>(hs₁.2 _ (apart D.d2 in1)).trans) (hl3.at λo=>(hs₁.2 _ (apart D.d3 in1)).trans) (λx y u hx hy hu h₇ hTO₇ f1 f2 f3 K7 hsz=>?_) λq h' e kp=>hE q h' e λc o hc e=>kp c o hc ((hs₁.2 c (apart hc in1)).trans e))
 ·intro it l ws a b c m h Q hz ht hi hl zi toi zto k1 k2
  refine yS (T3 ?_);refine (?_:wpAny _ _ (L5 (.ref it)>>=_) _ _ _);cases hx:ws[k]? with
  |none=>
   refine yS (wpAny_nextOf_list_end hh hi hl hx λh₂ e hs₂ he=>?_);have hz₂:IsZip h₂ z TI TO .ellipsis:=hs₂ _ _ zi hz;refine Oj hz₂ (by simp) λh₃ zz hs₃=>k2 hx h₃ e (λc o q q' x=>(hs₃.2 c q).trans (hs₂ _ _ q' x)) (au he λo ho hc=>⟨o,(hs₃.2 e λq=>?_).trans ho,hc⟩);subst q;cases hz₂.symm.trans ho;simp at hc
  |some x=>
   refine yS (wpAny_nextOf_list_item hi hl hx λh₂ h1₂ hs₂=>ES ?_);have ht₂:et h₂ TO a b c:=(hs₂.2 _ toi).trans ht;refine yS (Nd ht₂ rfl ?_);refine yS (qM ht₂ λh₃ ht₃ hs₃=>?_);exact yS (SN (ES (k1 x hx h₃ ht₃ (bv h1₂ λo=>(hs₃.2 _ (MP toi)).trans) (λc q q'=>(hs₃.2 c q).trans (hs₂.2 c q')) (hs₃.1.trans hs₂.1))))
 refine yS (Nd hTO₇ rfl ?_);refine yS (wpAny_newTuple ?_);have hsz:h₇.objs.size=s.heap.objs.size:=hsz.trans hs₁.1;have hz₇:IsZip h₇ z TI TO .ellipsis:=(K7 _ λq=>nd.1 (D1 _ q)).trans hz₁;have hzlt:z<h₇.objs.size:=Me hz₇;refine (?_:wpAny _ _ (Nf (.ref z) (.ref h₇.objs.size)>>=_) _ _ _);refine yS ?_;unfold Nf;have hz₈:IsZip (h₇.push {cls:=.type "tuple",data:=.seq #[x,y,u]}) z TI TO .ellipsis:=C5 _ hz₇;refine yS (Oj hz₈ (by simp) λh₉ hz₉ hs₉=>?_);replace hz₉:IsZip h₉ z TI TO (rawInt h₇.objs.size):=hz₉;refine Oj hz₉ (by simp) λh₀ hz₀ hs₀=>?_;replace hz₀:IsZip h₀ z TI TO (rawInt h₇.objs.size):=hz₀;have up:∀c o,c≠z→h₇.get? c=some o→h₀.get? c=some o:= λc o c1 e=>hs₀.extBut _ _ c1 (hs₉.extBut _ _ c1 (C5 _ e));have hT₈:et h₀ h₇.objs.size x y u:=hs₀.extBut _ _ (Q5 hzlt) (hs₉.extBut _ _ (Q5 hzlt) (Dy _ rfl));rw [hsz] at hz₀ hT₈
 refine ES (aZ _ rfl ?_);refine (?_:Q (.ref h₇.objs.size) _);rw [hsz];refine hQ _ _ _ hx hy hu h₀ hz₀ (up _ _ (zx Pj) hTO₇) (bv f1 λo e=>up _ o (zx yF) e) (bv f2 λo e=>up _ o (zx Cz) e) (bv f3 λo e=>up _ o (zx H3) e) hT₈ (λc o hc e=>?_) ?_
 ·exact up c o (apart hc in1) ((K7 c λq=>hc (D1 _ (D1 _ q))).trans ((hs₁.2 c (apart hc in1)).trans e))
 ·exact (up _ _ (zx in1) ((K7 _ nd2.1).trans (K1 in1 _ hTI))).trans hTI.symm
theorem oK{l1 l2 l3:Addr}{xs ys:Array Value}{a b c:Value}{Q:Option Value→Shared→Prop}(hh:A.handled=none)(D:kA z TI TO i1 i2 i3 l1 l2 l3)
  (hz:IsZip s.heap z TI TO .none) (hTI:et s.heap TI (.ref i1) (.ref i2) (.ref i3)) (hTO:et s.heap TO a b c)
  (h1:s.heap.IsListIter i1 l1 k) (h2:s.heap.IsListIter i2 l2 k) (h3:s.heap.IsListIter i3 l3 k) (hl1:s.heap.IsList l1 xs) (hl2:s.heap.IsList l2 ys) (hl3:s.heap.IsList l3 zs)
  (hQ:∀x y u,xs[k]? =some x→ys[k]? =some y→zs[k]? =some u→∀h',IsZip h' z TI TO (rawInt s.heap.objs.size)→et h' TO x y u→h'.IsListIter i1 l1 (k+1)→h'.IsListIter i2 l2 (k+1)→h'.IsListIter i3 l3 (k+1)→et h' s.heap.objs.size x y u→
   (∀c o,c∉[z,TI,TO,i1,i2,i3]→s.heap.get? c=some o→h'.get? c=some o)→h'.get? TI=s.heap.get? TI→Q (some (.ref s.heap.objs.size)) {s with heap:=h'})
  (hE:(xs[k]? =none∨ys[k]? =none∨zs[k]? =none)→∀h',(∀c o,c∉[z,TI,TO,i1,i2,i3]→s.heap.get? c=some o→h'.get? c=some o)→Q none {s with heap:=h'}):wpAny (model prog w) A (pyNext (.ref z)) Q E s:=by
 have hT:s.TypeIs (.ref z) "zip":=(aZ _ hz rfl);unfold pyNext;refine yS (T5 (Ju (name:=Ks "__next__") hT F.slot_zip_next
  (Ll F.slot_zip_next hT F.entry_zip_next (Db hh D hz hTI hTO h1 h2 h3 hl1 hl2 hl3 (λx y u ex ey eu h' a1 a2 a3 a4 a5 a6 a7 a8=>ES (hQ x y u ex ey eu h' a1 a2 a3 a4 a5 a6 a7 a8)) λq h' e hk he=>?_) (F.args_zip_next_1 _))))
 refine au he λo ho hc=>?_;refine yS (Rt (T:="StopIteration") (b:=true) (aZ o ho hc) SE ?_);exact ES (hE q _ hk)
end
noncomputable abbrev oY(h:Heap)(l1:Addr):Heap:=h.push {cls:=.type "list_iterator",data:=.fields #[.ref l1,.int 0 0]}
noncomputable abbrev NK(h:Heap)(l1 l2 l3:Addr):Heap:=oY (oY (oY h l1) l2) l3
noncomputable abbrev MY(h:Heap)(l1 l2 l3:Addr):Heap:=(NK h l1 l2 l3).push {cls:=.type "tuple",data:=.seq #[.ref h.objs.size,.ref (oY h l1).objs.size,.ref (oY (oY h l1) l2).objs.size]}
noncomputable abbrev Ov(h:Heap)(l1 l2 l3:Addr):Heap:=(MY h l1 l2 l3).push {cls:=.type "tuple",data:=.seq #[.none,.none,.none]}
noncomputable abbrev yA(h:Heap)(l1 l2 l3:Addr):Heap:=(Ov h l1 l2 l3).push {cls:=.type "zip",data:=.fields #[.none,.bool false,.bool false,.ref (NK h l1 l2 l3).objs.size,.ref (MY h l1 l2 l3).objs.size]}
theorem qg(l1 l2 l3:Addr)(xs ys zs:Array Value):
  Meets (Builtin.«zip.__new__» ⟨[.type "zip",.ref l1,.ref l2,.ref l3],[]⟩) (λzz R s=>s.heap.IsList l1 xs∧s.heap.IsList l2 ys∧s.heap.IsList l3 zs∧
   R (.ok (.ret (.ref (Ov s.heap l1 l2 l3).objs.size))) {s with heap:=yA s.heap l1 l2 l3}):=
 .of_wp λprog w A R s h=>by
  obtain ⟨hp,g,d,tk,os⟩:=s;refine my h λhl1 hl2 hl3 h=>?_;have hsub:=sub_zip;have hL1:Uq (R9 ⟨hp,g,d,tk,os⟩) l1 xs:=hl1;have hL2:Uq (R9 ⟨hp.push {cls:=.type "list_iterator",data:=.fields #[.ref l1,.int 0 0]},g,d,tk,os⟩) l2 ys:=Rw hl2 _;have hL3:Uq (R9 ⟨(hp.push {cls:=.type "list_iterator",data:=.fields #[.ref l1,.int 0 0]}).push {cls:=.type "list_iterator",data:=.fields #[.ref l2,.int 0 0]},g,d,tk,os⟩) l3 zs:=Rw (Rw hl3 _) _
  wp_walk using M8 hL1,M8 hL2,M8 hL3
  exact (aZ _ rfl h)
section
theorem Ak{l1 l2 l3:Addr}{xs ys:Array Value}(hl1:s.heap.IsList l1 xs)(hl2:s.heap.IsList l2 ys)(hl3:s.heap.IsList l3 zs)
  (h:∀h',IsZip h' (s.heap.objs.size+5) (s.heap.objs.size+3) (s.heap.objs.size+4) .none→et h' (s.heap.objs.size+3) (.ref s.heap.objs.size) (.ref (s.heap.objs.size+1)) (.ref (s.heap.objs.size+2))→
   et h' (s.heap.objs.size+4) .none .none .none→h'.IsListIter s.heap.objs.size l1 0→h'.IsListIter (s.heap.objs.size+1) l2 0→h'.IsListIter (s.heap.objs.size+2) l3 0→
   (∀c o,s.heap.get? c=some o→h'.get? c=some o)→Q (.ref (s.heap.objs.size+5)) {s with heap:=h'}):
  wpAny (model prog w) A (call (.type "zip") [.ref l1,.ref l2,.ref l3]) Q E s:=by
 refine callType_new F.called_zip (by decide) (F3.typeCall_zip_3 _ _ _) (F3.newCall_zip_3 _ _ _) (λobj=>F3.args_object_init_4 obj _ _ _) F.entry_zip_new
  (qg l1 l2 l3 xs ys zs) (lq hl1 hl2 hl3 ?_)
 have z1:(oY s.heap l1).objs.size=s.heap.objs.size+1:=M5 ..;have z2:(oY (oY s.heap l1) l2).objs.size=s.heap.objs.size+2:=by rw [M5,z1]
 have z3:(NK s.heap l1 l2 l3).objs.size=s.heap.objs.size+3:=by rw [M5,z2]
 have z4:(MY s.heap l1 l2 l3).objs.size=s.heap.objs.size+4:=by rw [M5,z3]
 have z5:(Ov s.heap l1 l2 l3).objs.size=s.heap.objs.size+5:=by rw [M5,z4]
 have g6:(yA s.heap l1 l2 l3).get? (Ov s.heap l1 l2 l3).objs.size=some _:=Dy _ rfl;have g5:(yA s.heap l1 l2 l3).get? (MY s.heap l1 l2 l3).objs.size=some _:=C5 _ (Dy _ rfl);have g4:(yA s.heap l1 l2 l3).get? (NK s.heap l1 l2 l3).objs.size=some _:=C5 _ (C5 _ (Dy _ rfl));have g3:(yA s.heap l1 l2 l3).get? (oY (oY s.heap l1) l2).objs.size=some _:=C5 _ (C5 _ (C5 _ (Dy _ rfl)));have g2:(yA s.heap l1 l2 l3).get? (oY s.heap l1).objs.size=some _:=C5 _ (C5 _ (C5 _ (C5 _ (Dy _ rfl))));have g1:(yA s.heap l1 l2 l3).get? s.heap.objs.size=some _:=C5 _ (C5 _ (C5 _ (C5 _ (C5 _ (Dy _ rfl)))));refine (?_:_∧_);rw [z3,z4,z5] at g6
 rw [z4] at g5
 rw [z1,z2,z3] at g4
 rw [z2] at g3
 rw [z1] at g2
 rw [z5];exact ⟨(aZ _ g6 rfl),h _ g6 g4 g5 (cL _ g1 rfl rfl) (cL _ g2 rfl rfl) (cL _ g3 rfl rfl) λc o x=>
  C5 _ (C5 _ (C5 _ (C5 _ (C5 _ (C5 _ x)))))⟩
end
section
variable {l1 l2 l3:Addr} {zs:List PyData}
noncomputable def IY(z TI TO i1 i2 i3 l1 l2 l3:Addr)(f0:Value)(xs ys zs:List PyData):xN:= λT α μ i s=>(IsZip s.heap z TI TO f0∧et s.heap TI (.ref i1) (.ref i2) (.ref i3)∧∃a b c,et s.heap TO a b c)∧s.heap.IsListIter i1 l1 i∧s.heap.IsListIter i2 l2 i∧s.heap.IsListIter i3 l3 i∧bq s.heap α (T++ai α μ) (.ref l1) (.d (.list xs))∧bq s.heap α (T++ai α μ) (.ref l2) (.d (.list ys))∧bq s.heap α (T++ai α μ) (.ref l3) (.d (.list zs))
theorem gZ.zip3(D:kA z TI TO i1 i2 i3 l1 l2 l3):lk C (.ref z) [z,TI,TO,i1,i2,i3] [] (w4 xs ys zs) none true (IY z TI TO i1 i2 i3 l1 l2 l3 .none xs ys zs)
  (λT α μ i v s=>∃a,v=.ref a∧IY z TI TO i1 i2 i3 l1 l2 l3 (rawInt a) xs ys zs T α μ (i+1) s∧a∉[z,TI,TO,i1,i2,i3]) where
 frame:=by
  intro O T T' α α' μ μ' i s s' st S hO hwr hT hwT I0 I1 hg;refine mG st λz0 h3 h4 h7 h5 h6 h8=>pF z0 λh0 h1 a b c h2=>?_;have kp:= λ{b}=>jC I0 S hwr hwT (b:=b);exact ⟨⟨kp in1 _ h0,kp Pj _ h1,a,b,c,kp yF _ h2⟩,bv h3 (kp Cz),bv h4 (kp H3),bv h7 (kp in6),h5.stepO S hO hT,h6.stepO S hO hT,h8.stepO S hO hT⟩
 item:=by
  intro A T α μ i x s Q E R Iv hw st ex k;refine mG st λz0 h3 h4 h7 h5 h6 h8=>pF z0 λh0 h1 a0 b0 c0 h2=>?_;refine bm (h5.isList Iv rfl) λzz its1 e1 hp1 rr1=>bm (h6.isList Iv rfl) λzz its2 e2 hp2 rr2=>bm (h8.isList Iv rfl) λzz its3 e3 hp3 rr3=>?_;cases e1;cases e2;cases e3;refine Jj ex λx1 x2 x3 ex1 ex2 ex3 zx=>au (j7 rr1 ex1) λv1 ev1 r1=>au (j7 rr2 ex2) λv2 ev2 r2=>au (j7 rr3 ex3) λv3 ev3 r3=>?_;subst zx;refine oK R.handled D h0 h1 h2 h3 h4 h7 hp1.isList hp2.isList hp3.isList (λx' y' u' ex ey eu h' a1 a2 a3 a4 a5 a6 a7 a8=>?_) (λq=>q.elim (λq=>cv (q.symm.trans ev1)) λq=>q.elim (λq=>cv (q.symm.trans ev2)) λq=>cv (q.symm.trans ev3));have r1:=Fh (ev1.symm.trans ex)▸r1;have r2:=Fh (ev2.symm.trans ey)▸r2;have r3:=Fh (ev3.symm.trans eu)▸r3;have mv:aG [z,TI,TO,i1,i2,i3] [] s {s with heap:=h'}:=aG.of_heap (tk:=s.toks) λb o hb e=>a7 b o hb e;have hTI:et h' TI (.ref i1) (.ref i2) (.ref i3):=a8.trans h1;have J:=Iv.moves mv hw λb hb=>SK (P:= λb=>∃o,h'.get? b=some o) ⟨_,a1⟩ ⟨_,hTI⟩ ⟨_,a2⟩ (au a3 λo e zz=>⟨o,e⟩) (au a4 λo e zz=>⟨o,e⟩) (au a5 λo e zz=>⟨o,e⟩) hb;have lt:∀ {c o},s.heap.get? c=some o→s.heap.objs.size≠c:= λe=>Q5 (Me e);exact k _ _ mv J ⟨_,_,_,rfl,rfl,⟨_,a6,rfl,_,rfl⟩,.cons (r1.moves mv hw) (.cons (r2.moves mv hw) (.cons (r3.moves mv hw) (aw.nil _ _)))⟩ ⟨_,rfl,⟨⟨a1,hTI,_,_,_,a2⟩,a3,a4,a5,h5.moves mv hw,h6.moves mv hw,h8.moves mv hw⟩,λhb=>SK (P:= λb=>s.heap.objs.size≠b) (lt h0) (lt h1) (lt h2) (au h3 λo e zz=>lt e) (au h4 λo e zz=>lt e) (au h7 λo e zz=>lt e) hb rfl⟩
 go:=by
  intro A T α μ i x v t s Q E Iv hw st tg ir k;refine ct st λa hv st ha=>mG st λz0 h3 h4 h7 h5 h6 h8=>pF z0 λh0 h1 a0 b0 c0 h2=>jE tg λelts kk pos zq3=>?_;subst hv;subst zq3;have hnd:z∉[TI,TO,i1,i2,i3]:=(Ku.mp D.nodup).1;refine Qk h0 λh' he' hs'=>?_;have mv:aG [z,TI,TO,i1,i2,i3] [] s {s with heap:=h'}:=aG.of_heap (tk:=s.toks) (λb o hb e=>(hs'.2 b λq=>hb (q▸in1)).trans e);have kp:∀b,b≠z→∀o,s.heap.get? b=some o→h'.get? b=some o:= λb hb o e=>(hs'.2 b hb).trans e;have hTI:et h' TI (.ref i1) (.ref i2) (.ref i3):=kp _ (λq=>hnd (q▸in1)) _ h1;have hTO:et h' TO a0 b0 c0:=kp _ (λq=>hnd (q▸Pj)) _ h2;have q3:h'.IsListIter i1 l1 (i+1):=bv h3 (kp _ λq=>hnd (q▸yF));have q4:h'.IsListIter i2 l2 (i+1):=bv h4 (kp _ λq=>hnd (q▸Cz));have q7:h'.IsListIter i3 l3 (i+1):=bv h7 (kp _ λq=>hnd (q▸H3));have J:=Iv.moves mv hw λb hb=>SK (P:= λb=>∃o,h'.get? b=some o) ⟨_,he'⟩ ⟨_,hTI⟩ ⟨_,hTO⟩ (au q3 λo e zz=>⟨o,e⟩) (au q4 λo e zz=>⟨o,e⟩) (au q7 λo e zz=>⟨o,e⟩) hb;exact k _ mv J (ir.moves mv hw λzz a2 q o z=>by cases q;exact kp _ (λq=>ha (q▸in1)) _ z) ⟨⟨he',hTI,a0,b0,c0,hTO⟩,q3,q4,q7,h5.moves mv hw,h6.moves mv hw,h8.moves mv hw⟩
 done:=by
  intro A T α μ i s Q E R Iv hw st ex k;refine mG st λz0 h3 h4 h7 h5 h6 h8=>pF z0 λh0 h1 a0 b0 c0 h2=>bm (h5.isList Iv rfl) λzz its1 e1 hp1 rr1=>bm (h6.isList Iv rfl) λzz its2 e2 hp2 rr2=>bm (h8.isList Iv rfl) λzz its3 e3 hp3 rr3=>?_;cases e1;cases e2;cases e3;have hend:its1[i]? =none∨its2[i]? =none∨its3[i]? =none:=(tA ex).imp (fF rr1) λq=>(tA q).imp (fF rr2) (fF rr3);refine oK R.handled D h0 h1 h2 h3 h4 h7 hp1.isList hp2.isList hp3.isList (λx' y' u' ex ey eu=>hend.elim (λq=>cv (q.symm.trans ex)) λq=>q.elim (λq=>cv (q.symm.trans ey)) λq=>cv (q.symm.trans eu)) (λzz h' hx=>?_);have mv:aG [z,TI,TO,i1,i2,i3] [] s {s with heap:=h'}:=aG.of_heap (tk:=s.toks) (λb o hb e=>hx b o hb e);exact k _ mv λT' hT'=>Iv.done mv hw hT'
 self:=by
  intro A T α μ i s Q E st h;exact Pp st.1.1 h
end
section
theorem aJ.frames(hx:g7 O h h')(hO:∀a∈O,bW h a)(r:aJ h M v d):aJ h' M v d:=r.ext hx (λa ha=>.inr (.inl (hO a ha))) λzz=>.inl
theorem aw.frames(hx:g7 O h h')(hO:∀a∈O,bW h a){v:List Value}{d:List PyData}(r:aw h M v d):aw h' M v d:=r.ext hx (λa ha=>.inr (.inl (hO a ha))) λzz=>.inl
theorem bq.frames(hx:g7 O h h')(hO:∀a∈O,bW h a)(r:bq h α M v V):bq h' α M v V:=r.ext hx (λa ha=>.inr (.inl (hO a ha))) (λzz zz=>id) λzz=>.inl
theorem bl.frames(I:bl C T α μ s)(hx:g7 O s.heap h')(hO:∀a∈O,bW s.heap a∧C.B.get? a=none)(hd:∀a∈O,∃o,h'.get? a=some o):
  bl C T α μ {s with heap:=h',toks:=tk}∧aV O α μ s α μ {s with heap:=h',toks:=tk}:=by
 have dm:∀a o,s.heap.get? a=some o→∃o',h'.get? a=some o':= λa o e=>(Vh (a∈O)).elim (hd a) λq=>⟨o,hx a o e q⟩;exact ⟨I.ext hx (λa ha=>(hO a ha).2) (λa ha=>.inr (.inl (hO a ha).1)) (λa ha q=>I.notFrame ha (hO a q).1) (λzz=>id) (λa ha=>(I.tdom a ha).elim (dm a)) rfl I.gens rfl,aZ [] (DO _).symm (λzz h=>nomatch h),λb o e ht=>hx b o e λq=>ht (ye _ q),λzz h=>.inl h,dm,λzz zz e=>e⟩
theorem bl.frames'(I:bl C T α μ s)(hx:g7 O s.heap h')(hO:∀a∈O,bW s.heap a∧C.B.get? a=none)(hd:∀a∈O,a∉T):bl C T α μ {s with heap:=h',toks:=tk}:=
 I.ext hx (λa ha=>(hO a ha).2) (λa ha=>.inr (.inl (hO a ha).1)) (λa ha q=>I.notFrame ha (hO a q).1) (λzz=>id) (λa ha=>(I.tdom a ha).imp λo e=>hx a o e λq=>hd a q ha) rfl I.gens rfl
def gh(C:gK)(cx:Cx)(env:Env)(O T α:List Addr)(μ:List ah)(ρ':d5)(s s':Shared):Prop:=
 bl C T α μ s'∧aV O α μ s α μ s'∧bh C cx env O ρ' s'.heap α (T++ai α μ)
theorem lN{m:Str→Option Value}{o:Option Value}(x:h.Ns a m)(y:h.IsCell a o):False:=by
 refine jx x λob es ep e d zz=>?_;refine au y λob' e' d'=>?_;rw [e] at e';cases e'
 rw [d] at d';cases d'
theorem ri{W:AV}(h:(ρ.set i (some V))[j]? =some (some W))(k:j=i→W=V→G)(k':j≠i→ρ[j]? =some (some W)→G):G:=by
 rw [Qz] at h
 by_cases q:i=j
 ·rw [if_pos q] at h
  by_cases z:i<ρ.length
  ·rw [if_pos z] at h;exact k q.symm (Fh (Fh h)).symm
  ·rw [if_neg z] at h;exact cv h
 ·rw [if_neg q] at h
  exact k' (λz=>q z.symm) h
theorem bW.but{b:Addr}(x:bW h b)(hs:Lq a h h')(ha:bW h' a):bW h' b:=by
 by_cases q:b=a
 ·subst q;exact ha
 ·refine au x λo e z=>?_
  exact (aZ o ((hs.2 b q).trans e) z)
theorem iM(hs:Lq a h h'):g7 [a] h h':= λb o e hb=>(hs.2 b λq=>hb (by simp [q])).trans e
theorem t4(I:bl C T α μ s)(F:bh C cx env O ρ s.heap α (T++ai α μ))(ha:a∈O)(hs:Lq a s.heap h')(hf:bW h' a)(hl:ρ'.length=ρ.length)
  (loc:∀m,s.heap.Ns env.locals m→(∀ (i:Nat) x V,cx.names[i]? =some (x,1)→ρ[i]? =some (some V)→∃v,m x=some v∧bq s.heap α (T++ai α μ) v V)→(∀ {v V},bq s.heap α (T++ai α μ) v V→bq h' α (T++ai α μ) v V)→∃m,h'.Ns env.locals m∧∀ (i:Nat) x V,cx.names[i]? =some (x,1)→ρ'[i]? =some (some V)→∃v,m x=some v∧bq h' α (T++ai α μ) v V)
  (cel:∀cad,Sf cx env O ρ s.heap α (T++ai α μ) cad→(∀ {v V},bq s.heap α (T++ai α μ) v V→bq h' α (T++ai α μ) v V)→∀ (i:Nat) x k,cx.names[i]? =some (x,k)→2≤k→∃o,h'.IsCell (cad i) o∧∀V,ρ'[i]? =some (some V)→∃v,o=some v∧bq h' α (T++ai α μ) v V):gh C cx env O T α μ ρ' s {s with heap:=h',toks:=tk}:=by
 have hO1:∀b∈[a],bW s.heap b∧C.B.get? b=none:= λb hb=>(Aq.mp hb)▸F.own a ha;have mv:∀ {v V},bq s.heap α (T++ai α μ) v V→bq h' α (T++ai α μ) v V:=bq.frames (iM hs) λb hb=>(hO1 b hb).1;refine f_ (I.frames (tk:=tk) (iM hs) hO1 λb hb=>(Aq.mp hb)▸(au hf λo e zz=>⟨o,e⟩)) λI' S'=>?_;exact ⟨I',S'.weak λb hb=>.inl ((Aq.mp hb)▸ha),F.sc,F.gl,F.bn,hl.trans F.len,au F.loc λm hm hq=>loc m hm hq mv,bP F.cel λcad hc=>⟨cad,hc.look,cel cad hc mv,hc.own,hc.inj⟩,λb hb=>⟨(F.own b hb).1.but hs hf,(F.own b hb).2⟩,F.lo,F.off,F.nd⟩
theorem tc(i:Nat)(hn:cx.names[i]? =some (x,1))(hl:cx.scope.names.lookup x=some .local)(hk:cx.scope.kind=.function)
  (I:bl C T α μ s) (F:bh C cx env O ρ s.heap α (T++ai α μ)) (r:bq s.heap α (T++ai α μ) v V):
  wpAny (model C.prog C.w) A (storeName env x v) (λzz s'=>gh C cx env O T α μ (ρ.set i (some V)) s s') E s:=by
 refine au F.loc λm0 hm0 hq0=>?_;refine Ph (by unfold Jz;rw [F.sc];exact hl) hm0 (λh' hn' hs'=>?_) (by rw [F.sc,hk];rfl);refine t4 I F F.lo hs' (fQ hn') LF (λzz hm zz mv=>aZ _ hn' λj y W h1 h2=>ri h2 (λe1 e2=>?_) λhj h2=>?_) λcad hc mv j y k h1 h2=>?_
 ·subst e1;subst e2
  rw [hn] at h1;refine cm h1 ?_
  exact aZ v (if_pos rfl) (mv r)
 ·have hy:y≠x:= λq=>hj (F.nd j i x (q▸h1) hn)
  exact au (hq0 j y W h1 h2) λu e ru=>aZ u ((if_neg hy).trans e) (mv ru)
 ·refine au (hc.has j y k h1 h2) λo ho hv=>aZ o (qh ho (iM hs') λq=>lN hm0 ((Aq.mp q)▸ho)) λW h3=>ri h3 (λe1 e2=>?_) λhj h3=>au (hv W h3) λu e ru=>aZ u e (mv ru)
  subst e1;cases hn.symm.trans h1;exact absurd h2 (by decide)
theorem Dk(i:Nat)(hn:cx.names[i]? =some (x,2))(hl:cx.scope.names.lookup x=some .cell)(hk:cx.scope.kind=.function)
  (I:bl C T α μ s) (F:bh C cx env O ρ s.heap α (T++ai α μ)) (r:bq s.heap α (T++ai α μ) v V):
  wpAny (model C.prog C.w) A (storeName env x v) (λzz s'=>gh C cx env O T α μ (ρ.set i (some V)) s s') E s:=by
 refine bP F.cel λcad0 hc0=>?_;refine au (hc0.has i x 2 hn (DU _)) λo ho hv=>?_;have hlk:=hc0.look i x 2 hn (DU _);refine wpAny_storeName_cell (by rw [F.sc];exact hk) (by unfold Jz;rw [F.sc];exact hl) hlk ho λh' hn' hs'=>?_;refine t4 (tk:=s.toks) I F (hc0.own i x hn) hs' (gW hn') LF (λm hm hq mv=>aZ m (z9 hm (iM hs') λq=>lN hm ((Aq.mp q)▸ho)) λj y W h1 h2=>ri h2 (λe1 e2=>?_) λhj h2=>?_) λcad hc mv j y k h1 h2=>?_
 ·subst e1
  rw [hn] at h1;cases h1
 ·exact au (hq j y W h1 h2) λu e ru=>aZ u e (mv ru)
 ·have ec:cad i=cad0 i:=Fh ((hc.look i x 2 hn (DU _)).symm.trans hlk)
  by_cases hji:j=i
  ·subst hji
   refine aZ (some v) (ec▸hn') λW h3=>aZ v rfl (ri h3 (λzz e2=>?_) λhj zz=>absurd rfl hj);rw [e2];exact mv r
  ·refine au (hc.has j y k h1 h2) λo' ho' hv'=>aZ o' (qh ho' (iM hs') λq=>hji (hc.inj j i y x k 2 h1 hn h2 (DU _) ((Aq.mp q).trans ec.symm))) λW h3=>ri h3 (λhj zz=>absurd hj hji) λzz h3=>au (hv' W h3) λu e ru=>aZ u e (mv ru)
end
def n5(C:gK)(cx:Cx)(tgt:Expr)(tup:Bool)(tf:d5→PyData→Option d5):Prop:=H9 tup tgt∧∀A env O T ρ α μ s E v x ρ',A.handled=none→bl C T α μ s→bh C cx env O ρ s.heap α (T++ai α μ)→
 fp tup s.heap (T++ai α μ) v x→tf ρ x=some ρ'→wpAny (model C.prog C.w) A (assign tgt env v) (λzz s'=>gh C cx env O T α μ ρ' s s') E s
def aA(C:gK)(cx:Cx)(x:Str)(i:Nat):Prop:=∀A env O T ρ α μ s E v V,bl C T α μ s→bh C cx env O ρ s.heap α (T++ai α μ)→bq s.heap α (T++ai α μ) v V→
 wpAny (model C.prog C.w) A (storeName env x v) (λzz s'=>gh C cx env O T α μ (ρ.set i (some V)) s s') E s
noncomputable def dz(i:Nat):d5→PyData→Option d5:= λρ x=>some (ρ.set i (some (.d x)))
noncomputable def l3{X:Type}:List X→Option (X×X×X)
 | [a,b,c]=>some (a,b,c)
 |_=>none
theorem ZQ{X:Type}{l:List X}{p:X×X×X}(h:l3 l=some p):l=[p.1,p.2.1,p.2.2]:=by
 cases l with
 |nil=>exact cv h
 |cons a l=>
  cases l with
  |nil=>exact cv h
  |cons b l=>
   cases l with
   |nil=>exact cv h
   |cons c l=>
    cases l with
    |nil=>cases h;rfl
    |cons d l=>exact cv h
noncomputable def j6(i j:Nat):d5→PyData→Option d5:= λρ d=>bp ((dT d).bind l2) λa b=>some ((ρ.set i (some (.d a))).set j (some (.d b)))
noncomputable def Z5(i j k:Nat):d5→PyData→Option d5:= λρ d=>bp ((dT d).bind l3) λa p=>some (((ρ.set i (some (.d a))).set j (some (.d p.1))).set k (some (.d p.2)))
theorem Qt{X:Type}{f:List PyData→Option X}{p:X}(h:(dT d).bind f=some p)(k:∀ds,d=.tuple ds→f ds=some p→G):G:=by
 cases q:dT d with
 |none=>rw [q] at h;exact cv h
 |some ds=>rw [q] at h;exact k ds (VX q) h
theorem io(r:aw h M vs (d::ds))(k:∀v us,vs=v::us→aJ h M v d→aw h M us ds→G):G:=by
 cases r with
 |ccons r rs=>exact k _ _ rfl r rs
theorem k_(r:aw h M vs []):vs=[]:=by
 cases r with
 |cnil=>rfl
section
theorem ue(i:Nat)(hn:cx.names[i]? =some (x,1))(hl:cx.scope.names.lookup x=some .local)(hk:cx.scope.kind=.function):aA C cx x i:= λzz zz zz zz zz zz zz zz zz zz zz I F r=>tc i hn hl hk I F r
theorem eW(i:Nat)(hn:cx.names[i]? =some (x,2))(hl:cx.scope.names.lookup x=some .cell)(hk:cx.scope.kind=.function):aA C cx x i:= λzz zz zz zz zz zz zz zz zz zz zz I F r=>Dk i hn hl hk I F r
theorem bM(h:aA C cx x i):n5 C cx (.Name x pos) false (dz i):=by
 refine ⟨(jN x pos rfl),λA env O T ρ α μ s E v x ρ' hh I F r e=>?_⟩;refine cC e ?_;exact QI (h A env O T ρ α μ s E v (.d x) I F r)
theorem gh.trans{s2:Shared}(x:gh C cx env O T α μ ρ1 s s1)(y:gh C cx env O T α μ ρ2 s1 s2):gh C cx env O T α μ ρ2 s s2:=(fu y.1 (x.2.1.trans y.2.1) y.2.2)
theorem g_(x:P4 h.objs.size h h'):∀b o,h.get? b=some o→h'.get? b=some o:= λb o e=>x b o (LY (Me e)) e
theorem bh.keeps(F:bh C cx env O ρ s.heap α (T++ai α μ))(I:bl C T α μ s)(hk:∀b o,s.heap.get? b=some o→h'.get? b=some o):bh C cx env O ρ h' α (T++ai α μ):=
 F.step (s':= {s with heap:=h'}) I (aV.keeps (tk:=s.toks) hk)
section
variable {s0:Shared}
theorem JA{elts:List Expr}{Q:Unit→Shared→Prop}(hh:A.handled=none)(I:bl C T α μ s)(F:bh C cx env O ρ s.heap α (T++ai α μ))(r:fp true s.heap (T++ai α μ) v d)(e:d=.tuple ds)(hn:(assignEach elts env).length=ds.length)(hstar:(assignEach elts env).findIdx? (·.1)=none)
  (k:∀vs s1,bl C T α μ s1→bh C cx env O ρ s1.heap α (T++ai α μ)→aV O α μ s α μ s1→aw s1.heap (T++ai α μ) vs ds→wpAny (model C.prog C.w) A (assignInOrder ((assignEach elts env).map (·.2)) vs) Q E s1):wpAny (model C.prog C.w) A (assign (.Tuple elts kk pos) env v) Q E s:=by
 refine dp r λa items ds' zq3 zq4 ht rr=>?_;subst zq3;cases e.symm.trans zq4;refine Tc hh ht (hn.trans (rr.length.symm.trans (Array.length_toList))) hstar λh' he=>?_;have hk:=g_ he;exact k _ _ (I.keeps (tk:=s.toks) hk) (F.keeps I hk) (aV.keeps (tk:=s.toks) hk).up (rr.keeps hk)
theorem j_{t:Value→Sem Unit}{ts:List (Value→Sem Unit)}{Q:Unit→Shared→Prop}(ht:∀v (Q:Unit→Shared→Prop),wpAny (model C.prog C.w) A (storeName env x v) Q E s→wpAny (model C.prog C.w) A (t v) Q E s)(hx:aA C cx x i)(I:bl C T α μ s)(F:bh C cx env O ρ s.heap α (T++ai α μ))(S:aV O α μ s0 α μ s)(r:aw s.heap (T++ai α μ) vs (d::ds))
  (k:∀us s1,bl C T α μ s1→bh C cx env O (ρ.set i (some (.d d))) s1.heap α (T++ai α μ)→aV O α μ s0 α μ s1→aw s1.heap (T++ai α μ) us ds→wpAny (model C.prog C.w) A (assignInOrder ts us) Q E s1):wpAny (model C.prog C.w) A (assignInOrder (t::ts) vs) Q E s:=
 io r λv us e r rs=>e▸Qa (ht v _ (D2 (hx A env O T ρ α μ _ E v (.d d) I F r) (λzz s2 st=>k us s2 st.1 st.2.2 (S.trans st.2.1) (rs.ext st.2.1.ext (iI.app λa ha=>.inr (.inl (F.own a ha).1)) λzz=>.inl)) λzz zz x=>x))
theorem ft{ts:List (Value→Sem Unit)}{Q:Unit→Shared→Prop}(hx:aA C cx x i)(I:bl C T α μ s)(F:bh C cx env O ρ s.heap α (T++ai α μ))(S:aV O α μ s0 α μ s)(r:aw s.heap (T++ai α μ) vs (d::ds))
  (k:∀us s1,bl C T α μ s1→bh C cx env O (ρ.set i (some (.d d))) s1.heap α (T++ai α μ)→aV O α μ s0 α μ s1→aw s1.heap (T++ai α μ) us ds→wpAny (model C.prog C.w) A (assignInOrder ts us) Q E s1):wpAny (model C.prog C.w) A (assignInOrder (assign (.Name x px) env::ts) vs) Q E s:=
 j_ (λzz zz h=>QI h) hx I F S r k
theorem kH(I:bl C T α μ s)(F:bh C cx env O ρ s.heap α (T++ai α μ))(S:aV O α μ s0 α μ s)(r:aw s.heap (T++ai α μ) vs []):wpAny (model C.prog C.w) A (assignInOrder [] vs) (λzz s'=>gh C cx env O T α μ ρ s0 s') E s:=
 k_ r▸assignInOrder_nil (fu I S F)
end
theorem eY{y:Str}(hx:aA C cx x i)(hy:aA C cx y j):n5 C cx (.Tuple [.Name x px,.Name y py] kk pos) true (j6 i j):=
 ⟨jG _ _ _ rfl,λA env O T ρ α μ s E v d ρ' hh I F r e=>aD e λa b q e=>Qt q λds ed q=>cC e (JA hh I F r (ed.trans (congrArg _ (zX q))) rfl rfl λzz zz I F S r=>ft hx I F S r λzz zz I F S r=>ft hy I F S r λzz zz I F S r=>kH I F S r)⟩
theorem Hh{y z:Str}{pz:Pos}(hx:aA C cx x i)(hy:aA C cx y j)(hz:aA C cx z k):n5 C cx (.Tuple [.Name x px,.Name y py,.Name z pz] kk pos) true (Z5 i j k):=
 ⟨jG _ _ _ rfl,λA env O T ρ α μ s E v d ρ' hh I F r e=>aD e λa b q e=>Qt q λds ed q=>cC e (JA hh I F r (ed.trans (congrArg _ (ZQ q))) rfl rfl λzz zz I F S r=>ft hx I F S r λzz zz I F S r=>ft hy I F S r λzz zz I F S r=>ft hz I F S r λzz zz I F S r=>kH I F S r)⟩
end
def cS(C:gK)(T α:List Addr)(μ:List ah)(s:Shared)(xs:List PyData)(g:Option Nat)(tup:Bool)(μ':List ah)(it:Value)(s':Shared):Prop:=
 ∃wr gi St Mid α',gZ C it gi xs g tup St Mid∧bl C (wr++T) α' μ' s'∧aV [] α μ s α' μ' s'∧St wr (wr++T) α' μ' 0 s'∧(∀b∈wr,s.heap.get? b=none)∧(∀i∈gi,s.gens[i]? =none)∧cy g xs μ'
noncomputable abbrev IF:=d5→List ah→Option (List PyData×Option Nat×List ah)
structure mO (C:gK) (n:Nat) (cx:Cx) (e:Expr) (tup:Bool) (f:IF):Prop where
 of::
 run:∀A env O T ρ α μ s E xs g μ',cR A n→bl C T α μ s→bh C cx env O ρ s.heap α (T++ai α μ)→f ρ μ=some (xs,g,μ')→
  wpAny (model C.prog C.w) A (eval e env) (λv s1=>wpAny (model C.prog C.w) A (pyIter v) (cS C T α μ s xs g tup μ') E s1) E s
section
theorem Dm{g g':Array GenState}(h:∀ (i:Nat) (x:GenState),g[i]? =some x→g'[i]? =some x)(e:g'[i]? =none):g[i]? =none:=by
 cases q:g[i]? with
 |none=>rfl
 |some x=>rw [h i x q] at e;exact cv (F6 e)
theorem cS.trans{g:Option Nat}(x:aV [] α μ s α' μ' s')(p:cS C T α' μ' s' xs g tup μ'' it s''):cS C T α μ s xs g tup μ'' it s'':=by
 refine gB p λwr gi St Mid α'' W I S st hw hg hgd=>?_;exact (i_ wr gi St Mid α'' W I (x.trans S) st (λb hb=>dY x.dom (hw b hb)) (λi hi=>Dm x.gens (hg i hi)) hgd)
theorem ly(hW:∀a∈W,s.heap.get? a=none):∀a∈(W++T)++ai α μ,a∈T++ai α μ∨s.heap.get? a=none:= λa ha=>
 (AE.mp ha).elim (λh=>(AE.mp h).elim (λh=>.inr (hW a h)) λh=>.inl (ye _ h)) λh=>.inl (CR _ h)
theorem aJ.grow(r:aJ s.heap (T++ai α μ) v d)(hk:∀b o,s.heap.get? b=some o→s'.heap.get? b=some o)(hW:∀a∈W,s.heap.get? a=.none):aJ s'.heap ((W++T)++ai α μ) v d:=
 r.ext (W:=[]) (g7.of_keeps hk) (iI.nil _ _) (ly hW)
theorem aw.grow{v:List Value}{d:List PyData}(r:aw s.heap (T++ai α μ) v d)(hk:∀b o,s.heap.get? b=some o→s'.heap.get? b=some o)(hW:∀a∈W,s.heap.get? a=none):aw s'.heap ((W++T)++ai α μ) v d:=
 r.ext (W:=[]) (g7.of_keeps hk) (iI.nil _ _) (ly hW)
theorem bq.grow(r:bq s.heap α (T++ai α μ) v V)(hk:∀b o,s.heap.get? b=some o→s'.heap.get? b=some o)(hW:∀a∈W,s.heap.get? a=none):bq s'.heap α ((W++T)++ai α μ) v V:=
 r.ext (W:=[]) (g7.of_keeps hk) (iI.nil _ _) (λzz zz=>id) (ly hW)
theorem bl.grow(I:bl C T α μ s)(hk:∀b o,s.heap.get? b=some o→s'.heap.get? b=some o)(hos:s'.os=s.os)(hb:AllBare s.gens→AllBare s'.gens)(hW:∀a∈W,s.heap.get? a=none)(hd:∀a∈W,∃o,s'.heap.get? a=some o):bl C (W++T) α μ s':=by
 refine ⟨λb o e=>hk b o (I.keep b o e),I.len,λi a c h1 h2=>(I.cells i a c h1 h2).ext (W:=[]) (g7.of_keeps hk) (iI.nil _ _) (ly hW) (λzz q=>nomatch q),I.nodup,λa ha q=>(AE.mp ha).elim (λh=>I.cdom q (hW a h)) (λh=>I.apart a h q),λa ha=>(AE.mp ha).elim (hd a) (λh=>(I.tdom a h).imp λo e=>hk a o e),λa ha=>(AE.mp ha).elim (λh=>?_) (I.tnew a),I.new,hb I.gens,hos.trans I.os⟩;cases e:C.B.get? a with
 |none=>rfl
 |some o=>exact cv ((hW a h).symm.trans (I.keep a o e))
theorem bh.grow(F:bh C cx env O ρ s.heap α (T++ai α μ))(hk:∀b o,s.heap.get? b=some o→s'.heap.get? b=some o)(hW:∀a∈W,s.heap.get? a=none):bh C cx env O ρ s'.heap α ((W++T)++ai α μ):=
 F.ext (W:=[]) (g7.of_keeps hk) (iI.nil _ _) (λzz zz=>id) (ly hW) λzz zz q=>nomatch q
theorem aV.of_keeps(hk:∀b o,s.heap.get? b=some o→s'.heap.get? b=some o)(hg:∀ (i:Nat) (x:GenState),s.gens[i]? =some x→s'.gens[i]? =some x):aV [] α μ s α μ s':=
 ⟨(aZ ([]) (by simp) (by simp)),g7.of_keeps hk,λzz h=>.inl h,λa o e=>⟨o,hk a o e⟩,hg⟩
theorem cS.new{g:Option Nat}{St:xN}{Mid:List Addr→List Addr→List ah→Nat→Value→Shared→Prop}(I:bl C T α μ s)(W:lk C it wr [] xs g tup St Mid)
  (hk:∀b o,s.heap.get? b=some o→h'.get? b=some o) (hw:∀a∈wr,s.heap.get? a=none) (hd:∀a∈wr,∃o,h'.get? a=some o) (hg:cy g xs μ)
  (st:St (wr++T) α μ 0 {s with heap:=h',toks:=tk}):cS C T α μ s xs g tup μ it {s with heap:=h',toks:=tk}:=
 (i_ wr ([]) (StW wr St) (aa2 wr Mid) α W.walk (I.grow (s':= {s with heap:=h',toks:=tk}) hk rfl (λh=>h) hw hd) (aV.of_keeps hk λzz zz e=>e) ⟨rfl,st⟩ hw (by simp) hg)
theorem bx(ha:h.objs.size≤a):h.get? a=none:=by
 cases e:h.get? a with
 |none=>rfl
 |some o'=>exact absurd (Me e) (Nat.not_lt.mpr ha)
theorem z_(h:dc μ V=some xs):cy (Fb V) xs μ:=by
 intro j e;cases V with
 |c i=>refine cC e ?_;exact h
 |d x=>exact cv e
 |rng a b=>exact cv e
 |ty T=>exact cv e
theorem EW:∀b∈[h.objs.size],h.get? b=none:= λzz hb=>(Aq.mp hb)▸bx (DU _)
theorem cS.push{g:Option Nat}{St:xN}{Mid:List Addr→List Addr→List ah→Nat→Value→Shared→Prop}(I:bl C T α μ s)(W:lk C (.ref s.heap.objs.size) [s.heap.objs.size] [] xs g tup St Mid)(hg:cy g xs μ)(hf:o.isFreed=false)
  (st:St ([s.heap.objs.size]++T) α μ 0 {s with heap:=s.heap.push o}):cS C T α μ s xs g tup μ (.ref s.heap.objs.size) {s with heap:=s.heap.push o}:=
 cS.new (tk:=s.toks) I W (bc _ _) EW (λb hb=>(Aq.mp hb)▸⟨_,Dy _ hf⟩) hg st
theorem DF(I:bl C T α μ s)(r:bq s.heap α (T++ai α μ) v V)(h:dc μ V=some xs)(ht:tup=false∨nj xs=true):
  wpAny (model C.prog C.w) A (pyIter v) (cS C T α μ s xs (Fb V) tup μ) E s:=by
 refine bm (r.isList I h) λa items zq2 hp rr=>?_;subst zq2;refine M8 hp.isList ?_;exact cS.push I (gZ.list (V:=V) (λq=>fX (fG hp) (bx (U2 q.symm))) λq=>ht.elim (λz=>nomatch q.symm.trans z) id) (z_ h) rfl (fu (cL _ (Dy _ rfl) rfl rfl) (r.grow (s':= {s with heap:=_}) (bc _ _) EW) h)
theorem yz(I:bl C T α μ s)(r:bq s.heap α (T++ai α μ) v (.d (.tuple xs))):
  wpAny (model C.prog C.w) A (pyIter v) (cS C T α μ s xs none false μ) E s:=by
 cases r with
 | @ctuple a items _ hp haM rr=>
 refine wpAny_pyIter_tuple hp ?_;exact cS.push I (gZ.tuple (items:=items) λq=>fX (i0 hp) (bx (U2 q.symm))) (λzz e=>nomatch e) rfl (lq (cL _ (Dy _ rfl) rfl rfl) (jY hp (W:=[]) (g7.of_keeps (bc _ _)) (λq=>nomatch q)) (rr.grow (s':= {s with heap:=_}) (bc _ _) EW) (λq=>(ly EW a q).elim haM (fX (i0 hp))))
theorem yT{a b:Int}(I:bl C T α μ s)(r:bq s.heap α (T++ai α μ) v (.rng a b))(hsm:KB a b 1=true):
  wpAny (model C.prog C.w) A (pyIter v) (cS C T α μ s (fK a (b-a).toNat) none false μ) E s:=by
 refine q9 r λr t u w zq4 hr hM=>?_;subst zq4;refine wpAny_pyIter_range hr hsm ?_;have hz:Mi a b 1=((b-a).toNat:Int)-(0:Nat):=by
  unfold Mi;simp only [show (1:Int)>0 by decide,if_true]
  split<;>lia
 refine cS.push I gZ.range (λzz e=>nomatch e) rfl (?_:IsRangeIter _ s.heap.objs.size (a+((0:Nat):Int)*1) (((b-a).toNat:Int)-(0:Nat)) 1);rw [←hz,show a+((0:Nat):Int)*1=a by lia];exact Dy _ rfl
end
theorem YW(h:Hx V=some xs):V=.d (.tuple xs):=ax h λd e1 e2=>(iP e1).trans (congrArg _ (VX e2))
noncomputable def XX:AV→Option (Int×Int)
 | .rng a b=>some (a,b)
 |_=>none
theorem SC{p:Int×Int}(h:XX V=some p):V=.rng p.1 p.2:=by
 cases V with
 |rng a b=>cases h;rfl
 |_=>exact cv h
def aK(tup:Bool)(f:EF):IF:= λρ μ=>bp (f ρ μ) λV μ1=>oe (Hx V) (some ()) (λxs zz=>if tup=false then some (xs,none,μ1) else none) (oe (XX V) (some ()) (λr zz=>if tup=false∧KB r.1 r.2 1=true then some (fK r.1 (r.2-r.1).toNat,none,μ1) else none)
 (bo (dc μ1 V) λxs=>if tup=false∨nj xs=true then some (xs,Fb V,μ1) else none))
section
theorem c9(hf:ab C n cx e f):mO C n cx e tup (aK tup f):=by
 refine .of ?_;intro A env O T ρ α μ s E xs g μ' R I F h;refine aD h λV μ1 e1 h=>hf.go R I F e1 λv s1 α1 I1 S1 r1=>?_;refine bV h (λys zz e2 zz h=>i7 h λhq h=>?_) λh=>bV h (λp zz e2 zz h=>i7 h λhq h'=>?_) λh=>ax h λys e2 h=>i7 h λhq h=>?_
 ·subst hq
  exact gw h (D2 (yz I1 (YW e2▸r1)) (λzz zz q=>cS.trans S1 q) λzz zz x=>x)
 ·refine f_ hq λz hsm=>?_
  subst z;exact gw h' (D2 (yT I1 (SC e2▸r1) hsm) (λzz zz q=>cS.trans S1 q) λzz zz x=>x)
 ·exact gw h (D2 (DF I1 r1 e2 hq) (λzz zz q=>cS.trans S1 q) λzz zz x=>x)
noncomputable abbrev iW:=List AV→List ah→Option (List PyData×Option Nat×List ah)
def iy(C:gK)(n:Nat)(f:Value)(tup:Bool)(spec:iW):Prop:=∀A T α μ s E vs Vs xs g μ',cR A n→bl C T α μ s→f6 s.heap α (T++ai α μ) vs Vs→spec Vs μ=some (xs,g,μ')→
 wpAny (model C.prog C.w) A (call f vs) (λv s1=>wpAny (model C.prog C.w) A (pyIter v) (cS C T α μ s xs g tup μ') E s1) E s
def b_(fs:List EF)(spec:iW):IF:= λρ μ=>bp (e_ fs ρ μ) spec
variable {spec:iW}
theorem UW(hg:C.mg x=none)(hb:bootBuiltins x=some fv)(hx:x≠"__name__")(hn:kY fv)(hf:iy C n fv tup spec)
  (ha:dg C n cx (e::es) fs) (hs:∀env,starEach (e::es) env=(false,eval e env)::starEach es env) (hp:∀env,(backTo pos (starEach (e::es) env)).any (·.1)=false)
  (hl:cx.scope.names.lookup x=some .globalImplicit) (hk:cx.scope.kind=.function) (hdb:(x==("__debug__":Str))=false):
  mO C n cx (.Call (.Name x xp) (e::es) [] pos) tup (b_ fs spec):=by
 refine .of ?_;intro A env O T ρ α μ s E xs g μ' R I F h;refine aD h λVs μ1 e1 h=>?_
 ·refine (?_:wpAny _ A (do callWith pos (←eval (.Name x xp) env) [] (backTo pos (starEach (e::es) env)) []) _ _ s)
  refine yS (Fe (by rw [F.sc];exact hk) (by unfold Jz;rw [F.sc];exact hl) (Lu (by rw [F.gl];exact C.g.keeps I.keep) hg (by rw [F.bn];exact C.b.keeps I.keep) ((C.bt x hx).trans hb) ?_) hdb);refine hn _ _ _ _ _ _ _ _ (hp env) (ef (hs env) ha R I F e1 λvs s1 α1 I1 S1 r1=>?_);exact D2 (hf A T α1 μ1 s1 E vs Vs xs g μ' R I1 r1 h) (λv s2 p=>D2 p (λzz zz q=>cS.trans S1 q) λzz zz x=>x) λzz zz x=>x
theorem Pf{fd:FuncData}(hg:C.mg x=some (.ref fa))(ho:C.B.get? fa=some o)(hd:o.data=.func fd)(hf:iy C n (.ref fa) tup spec)
  (ha:dg C n cx (e::es) fs) (hs:∀env,starEach (e::es) env=(false,eval e env)::starEach es env)
  (hl:cx.scope.names.lookup x=some .globalImplicit) (hk:cx.scope.kind=.function) (hdb:(x==("__debug__":Str))=false):
  mO C n cx (.Call (.Name x xp) (e::es) [] pos) tup (b_ fs spec):=by
 refine .of ?_;intro A env O T ρ α μ s E xs g μ' R I F h;refine aD h λVs μ1 e1 h=>?_
 ·refine (?_:wpAny _ A (do callWith pos (←eval (.Name x xp) env) [] (backTo pos (starEach (e::es) env)) []) _ _ s)
  refine yS (Fe (by rw [F.sc];exact hk) (by unfold Jz;rw [F.sc];exact hl) (Ln (by rw [F.gl];exact C.g.keeps I.keep) hg ?_) hdb);refine MV (o:=o) (fd:=fd) (ef (hs env) ha R I F e1 λvs s1 α1 I1 S1 r1=>⟨⟨I1.keep _ _ ho,hd⟩,?_⟩);exact D2 (hf A T α1 μ1 s1 E vs Vs xs g μ' R I1 r1 h) (λv s2 p=>D2 p (λzz zz q=>cS.trans S1 q) λzz zz x=>x) λzz zz x=>x
end
variable {itf : IF}
noncomputable def ga:iW:= λVs μ=>bo (l1 Vs) λV=>bp (xz V μ) λd μ1=>bo (dL d) λxs=>some (cN 0 xs,none,μ1)
theorem Hl(r:aJ h M v (.list xs)):∃a items,v=.ref a∧h.PlainList a items∧a<h.objs.size:=
 bm r.of_list λa items z hp zz=>dy a items z hp (bP hp λn e=>Me e)
theorem gF(r:f6 h α M vs Vs)(e:l1 Vs=some V)(k:∀v,vs=[v]→bq h α M v V→G):G:=by
 rw [V5 e] at r
 exact au (Jw r) k
theorem uK{a:Nat}(h:a<k)(j:Nat):a≠k+j:=LY (On h (Fu ..))
theorem iT:iy C n (.type "enumerate") true ga:=by
 intro A T α μ s E vs Vs xs g μ' R I r h;refine ax h λV eV h=>aD h λd μ1 e1 h=>ax h λys ed h=>gw h (gF r eV λv zq1 r1=>?_);subst zq1;refine dW (uD I r1 e1) λI1 S1 r2=>?_;rw [Tz ed] at r2
 refine bm (Hl r2) λa items zq2 hp hlt=>?_;subst zq2;refine call_enumerate_list hp.isList λh' he hi hsz hk=>QH he (cS.trans S1 ?_);have hw:∀b∈[s.heap.objs.size+1,s.heap.objs.size],s.heap.get? b=none∧∃o,h'.get? b=some o:= λb hb=>(Cc.mp hb).elim (λq=>q▸⟨bx (P3 _),_,he⟩) λq=>(Aq.mp q)▸⟨bx (DU _),au hi λo e zz=>⟨o,e⟩⟩;exact cS.new (tk:=s.toks) I1 (gZ.enum (e:=s.heap.objs.size+1) (it:=s.heap.objs.size) (l:=a) (Nt _) (uK hlt 1) (uK hlt 0)) hk (λb hb=>(hw b hb).1) (λb hb=>(hw b hb).2) (λzz e=>nomatch e) (fu ⟨_,he⟩ hi (bq.grow (V:=.d (.list ys)) (s':= {s with heap:=h'}) r2 hk λb hb=>(hw b hb).1))
noncomputable def lr:iW:= λVs μ=>bp (lG Vs μ) λds μ1=>bp (l2 ds) λx y=>oe (dL x) (dL y) (λxs ys=>some (m9 xs ys,none,μ1)) none
noncomputable def BX:iW:= λVs μ=>bp (lG Vs μ) λds μ1=>bp (l3 ds) λx p=>oe (dL x) (dL p.1) (λxs ys=>bo (dL p.2) λzs=>some (w4 xs ys zs,none,μ1)) none
theorem ix(r:aw h M vs (d::ds))(e:dL d=some xs)(k:∀a items us,vs=.ref a::us→aJ h M (.ref a) (.list xs)→h.PlainList a items→a<h.objs.size→aw h M us ds→G):G:=by
 rw [Tz e] at r
 exact io r λv us z r1 rs=>bm (Hl r1) λa items zv hp hl=>k a items us (zv▸z) (zv▸r1) hp hl rs
theorem Bs:iy C n (.type "zip") true lr:=by
 intro A T α μ s E vs Vs xs g μ' R I r h;refine aD h λds μ1 e1 h=>aD h λx y el h=>bV h (λxs1 ys1 ex ey h=>gw h ?_) λh=>cv h;refine dW (jB I r e1) λI1 S1 r2=>?_;rw [zX el] at r2
 refine ix r2 ex λa its1 us zu q1 hp1 hl1 r2=>ix r2 ey λb its2 us2 zu2 q2 hp2 hl2 r2=>?_;cases k_ r2;subst zu2;subst zu;refine call_zip_2 hp1.isList hp2.isList λh' hz hTI hTO i1 i2 hsz hk=>Pp hz (cS.trans S1 ?_);have hw:∀b∈[s.heap.objs.size+4,s.heap.objs.size+2,s.heap.objs.size+3,s.heap.objs.size,s.heap.objs.size+1],s.heap.get? b=none∧∃o,h'.get? b=some o:= λb hb=>EV (P:= λb=>s.heap.get? b=none∧∃o,h'.get? b=some o) ⟨bx (Fu ..),_,hz⟩ ⟨bx (Fu ..),_,hTI⟩ ⟨bx (Fu ..),_,hTO⟩ ⟨bx (DU _),au i1 λo e zz=>⟨o,e⟩⟩ ⟨bx (Fu ..),au i2 λo e zz=>⟨o,e⟩⟩ hb;have hw1:= λb hb=>(hw b hb).1;have na:=uK hl1;have nb:=uK hl2;have D:ZipApart (s.heap.objs.size+4) (s.heap.objs.size+2) (s.heap.objs.size+3) s.heap.objs.size (s.heap.objs.size+1) a b:=by
  constructor<;>first|exact na _|exact nb _|exact na 0|exact nb 0| (refine LY ?_;lia)| (refine Q5 ?_;lia)
 exact cS.new (tk:=s.toks) I1 (gZ.zip2 (xs:=xs1) (ys:=ys1) D ⟨(na 2).symm,(nb 2).symm⟩) hk hw1 (λc hc=>(hw c hc).2) (λzz e=>nomatch e) (uR ⟨hz,hTI,_,_,hTO⟩ i1 i2 (bq.grow (V:=.d (.list xs1)) (s':= {s with heap:=h'}) q1 hk hw1) (bq.grow (V:=.d (.list ys1)) (s':= {s with heap:=h'}) q2 hk hw1))
theorem nd6(k:Nat):([k+5,k+3,k+4,k,k+1,k+2]:List Nat).Nodup:=by
 simp only [Ku,Cc,Er,or_false,not_false_eq_true,Nb,and_true];lia
theorem TU{a:Nat}(h:a<k):a∉([k+5,k+3,k+4,k,k+1,k+2]:List Nat):=by
 simp only [Cc,Er,or_false];lia
theorem OO:iy C n (.type "zip") true BX:=by
 intro A T α μ s E vs Vs xs g μ' R I r h;refine aD h λds μ1 e1 h=>aD h λx p el h=>bV h (λxs1 ys1 ex ey h=>ax h λzs1 ez h=>gw h ?_) λh=>cv h;refine dW (jB I r e1) λI1 S1 r2=>?_;rw [ZQ el] at r2
 refine ix r2 ex λa its1 us zu q1 hp1 hl1 r2=>ix r2 ey λb its2 us2 zu2 q2 hp2 hl2 r2=>ix r2 ez λc its3 us3 zu3 q3 hp3 hl3 r2=>?_;cases k_ r2;subst zu3;subst zu2;subst zu;refine Ak hp1.isList hp2.isList hp3.isList λh' hz hTI hTO i1 i2 i3 hk=>Pp hz (cS.trans S1 ?_);have hw:∀b∈[s.heap.objs.size+5,s.heap.objs.size+3,s.heap.objs.size+4,s.heap.objs.size,s.heap.objs.size+1,s.heap.objs.size+2],s.heap.get? b=none∧∃o,h'.get? b=some o:= λb hb=>(Cc.mp hb).elim (λq=>q▸⟨bx (Fu ..),_,hz⟩) (EV (P:= λb=>s.heap.get? b=none∧∃o,h'.get? b=some o) ⟨bx (Fu ..),_,hTI⟩ ⟨bx (Fu ..),_,hTO⟩ ⟨bx (DU _),au i1 λo e zz=>⟨o,e⟩⟩ ⟨bx (Fu ..),au i2 λo e zz=>⟨o,e⟩⟩ ⟨bx (Fu ..),au i3 λo e zz=>⟨o,e⟩⟩);have hw1:= λb hb=>(hw b hb).1;exact cS.new (tk:=s.toks) I1 (gZ.zip3 (xs:=xs1) (ys:=ys1) (zs:=zs1) ⟨nd6 _,TU hl1,TU hl2,TU hl3⟩) hk hw1 (λc hc=>(hw c hc).2) (λzz e=>nomatch e) (Kl ⟨hz,hTI,_,_,_,hTO⟩ i1 i2 i3 (bq.grow (V:=.d (.list xs1)) (s':= {s with heap:=h'}) q1 hk hw1) (bq.grow (V:=.d (.list ys1)) (s':= {s with heap:=h'}) q2 hk hw1) (bq.grow (V:=.d (.list zs1)) (s':= {s with heap:=h'}) q3 hk hw1))
section
variable {O2:List Addr}
theorem B9(hT:∀a∈T',a∈T∨s.heap.get? a=none):∀a∈T'++ai α μ,a∈T++ai α μ∨s.heap.get? a=none:= λa ha=>
 (AE.mp ha).elim (λh=>(hT a h).imp_left (ye _)) λh=>.inl (CR _ h)
theorem aw.movesG{v:List Value}{d:List PyData}(r:aw s.heap (T++ai α μ) v d)(x:aG wr gi s s')(hw:∀b∈wr,b∈T)(hT:∀a∈T',a∈T∨s.heap.get? a=none):aw s'.heap (T'++ai α μ) v d:=r.ext x.ext (ny (iX hw)) (B9 hT)
theorem bq.movesG(r:bq s.heap α (T++ai α μ) v V)(x:aG wr gi s s')(hw:∀b∈wr,b∈T)(hT:∀a∈T',a∈T∨s.heap.get? a=none):bq s'.heap α (T'++ai α μ) v V:=r.ext x.ext (ny (iX hw)) (λzz zz=>id) (B9 hT)
theorem bh.movesG(F:bh C cx env O ρ s.heap α (T++ai α μ))(x:aG wr gi s s')(hw:∀a∈wr,a∈T)(hT:∀a∈T',a∈T∨s.heap.get? a=none):bh C cx env O ρ s'.heap α (T'++ai α μ):=
 F.ext x.ext (ny (iX hw)) (λzz zz=>id) (B9 hT) λa ha h=>F.off a (ye _ (hw a h)) ha
theorem bh.moves(F:bh C cx env O ρ s.heap α (T++ai α μ))(x:aG wr gi s s')(hw:∀a∈wr,a∈T):bh C cx env O ρ s'.heap α (T++ai α μ):=F.movesG x hw λzz=>.inl
def dv(D:Addr)(acc:List PyData)(T α:List Addr)(μ:List ah)(s:Shared):Prop:=∃items,s.heap.PlainList D items∧aw s.heap (T++ai α μ) items.toList acc
theorem dv.stepO(x:dv D acc T α μ s)(I:bl C T α μ s)(hD:D∈T)(y:aV O2 α μ s α' μ' s')(hO:iI O2 T s.heap)(hn:D∉O2):dv D acc T α' μ' s':=by
 refine au x λitems p r=>?_;exact (aZ items (eQ p y.ext λq=>(AE.mp q).elim hn λq=>I.apart D hD (db q)) (r.stepO y hO λa ha=>.inl ha))
theorem dv.moves(x:dv D acc T α μ s)(y:aG wr gi s s')(hw:∀a∈wr,a∈T)(hn:D∉wr):dv D acc T α μ s':=by
 refine au x λitems p r=>?_;exact (aZ items (eQ p y.ext hn) (r.moves y hw))
theorem dv.movesG(x:dv D acc T α μ s)(y:aG wr gi s s')(hw:∀a∈wr,a∈T)(hn:D∉wr)(hT:∀a∈T',a∈T∨s.heap.get? a=none):dv D acc T' α μ s':=by
 refine au x λitems p r=>?_;exact (aZ items (eQ p y.ext hn) (r.movesG y hw hT))
theorem aV.of_moves(x:aG wr [] s s')(hd:∀a∈wr,∃o,s'.heap.get? a=some o):aV wr α μ s α μ s':=
 ⟨aZ [] (DO _).symm (λzz h=>nomatch h),λb o e ht=>x.heap b o (λq=>ht (ye _ q)) e,λzz=>.inl,λa o e=>(Vh (a∈wr)).elim (hd a) λq=>⟨o,x.heap a o q e⟩,λi z e=>x.gens i z (λh=>nomatch h) e⟩
end
noncomputable abbrev CF:=d5→List ah→List PyData→Option (d5×List ah×List PyData)
def Bn(C:gK)(cx:Cx)(T α:List Addr)(μ:List ah)(s:Shared)(cenv:Env)(Cn D:Addr)(ρ':d5)(μ':List ah)(acc':List PyData)(s':Shared):Prop:=
 ∃α',bl C T α' μ' s'∧aV [Cn,D] α μ s α' μ' s'∧bh C cx cenv [Cn] ρ' s'.heap α' (T++ai α' μ')∧dv D acc' T α' μ' s'
structure Zp (C:gK) (n:Nat) (cx:Cx) (m:Value→Env→Sem Unit) (cf:CF):Prop where
 of::
 run:∀A cenv Cn D T ρ α μ s E acc ρ' μ' acc',cR A n→D∈T→bl C T α μ s→bh C cx cenv [Cn] ρ s.heap α (T++ai α μ)→dv D acc T α μ s→cf ρ μ acc=some (ρ',μ',acc')→
  wpAny (model C.prog C.w) A (m (.ref D) cenv) (λzz s'=>Bn C cx T α μ s cenv Cn D ρ' μ' acc' s') E s
noncomputable def Q8(elt:Expr):Value→Env→Sem Unit:= λacc env=>do let _←call (.builtin "list.append") [acc,←eval elt env]
def aY(f:EF):CF:= λρ μ acc=>bp (f ρ μ) λV μ1=>bp (xz V μ1) λd μ2=>if acc.length≤sizeLine then some (ρ,μ2,acc++[d]) else none
section
theorem P0(hf:ab C n cx elt f):Zp C n cx (Q8 elt) (aY f):=by
 refine .of ?_;intro A cenv Cn D T ρ α μ s E acc ρ' μ' acc' R hD I F ac h;refine aD h λV μ1 e1 h=>aD h λd μ2 e2 h=>i7 h λhz h=>gw h ?_;refine yS (hf.go R I F e1 λv s1 α1 I1 S1 r1=>?_);refine dW (uD I1 r1 e2) λI2 S2 r2=>?_;have S12:=S1.trans S2;refine au (ac.stepO I hD S12 (iI.nil _ _) (Er)) λitems hp rr=>?_;refine yS (R5 hp (λh' hl' hs'=>ES ?_) (by rw [show items.size=acc.length from by rw [←rr.length];simp];exact hz));have mv:aG [D] [] s1 {s1 with heap:=h'}:=aG.of_heap (tk:=s1.toks) λb o hb e=>(hs'.2 b λq=>hb (Aq.mpr q)).trans e;have hw:∀b∈[D],b∈T:= λb hb=>Aq.mp hb▸hD;have hd:∀b∈[D],∃o,h'.get? b=some o:= λb hb=>Aq.mp hb▸bP hl' λk e=>⟨_,e⟩;exact (jf α1 (I2.moves mv hw hd) ((S12.up).trans ((aV.of_moves mv hd).weak λa ha=>.inl (D1 _ ha))) ((F.step I S12).moves mv hw) _ hl' (by rw [To];exact (rr.moves mv hw).append (.cons (r2.moves mv hw) (aw.nil _ _))))
structure j2 (C:gK) (n:Nat) (cx:Cx) (ifs:List Expr) (t:TF):Prop where
 of::
 run:∀A env O T ρ α μ s E r μ',cR A n→bl C T α μ s→bh C cx env O ρ s.heap α (T++ai α μ)→t ρ μ=some (r,μ')→
  wpAny (model C.prog C.w) A (forIn ifs true λc r=>if r=true then do let ok←isTrue c env (eval c env);pure (LJ ok) else pure (LJ r)) (λb s'=>b=r∧∃α',bl C T α' μ' s'∧aV [] α μ s α' μ' s') E s
def bg:TF:= λzz μ=>some (true,μ)
theorem cI:j2 C n cx [] bg:=by
 refine .of ?_;intro A env O T ρ α μ s E r μ' R I F h;refine cm h ?_;exact wpAny_tests_nil (gN rfl α I (aV.refl _ _ _ _))
theorem j1{c:Expr}(ht:gP C n cx c t):j2 C n cx [c] t:=by
 refine .of ?_;intro A env O T ρ α μ s E r μ' R I F h;exact wpAny_tests_one (ht.run A env O T ρ α μ s E r μ' R I F h)
def cX(t:TF)(cf:CF):CF:= λρ μ acc=>bp (t ρ μ) λb μ1=>cond b (cf ρ μ1 acc) (some (ρ,μ1,acc))
end
open Classical in
def fe(tf:d5→PyData→Option d5)(cf:CF)(g:Option Nat)(xs:List PyData)(r:List PyData):CF:=
 r.foldr (λx k ρ μ acc=>bo (tf ρ x) λρ1=>bp (cf ρ1 μ acc) λρ2 p=>if cy g xs p.1 then k ρ2 p.1 p.2 else none) λρ μ acc=>some (ρ,μ,acc)
open Classical in
theorem qz{cf:CF}{g:Option Nat}{r:List PyData}{x:PyData}:fe tf cf g xs (x::r) ρ μ acc=bo (tf ρ x) λρ1=>bp (cf ρ1 μ acc) λρ2 p=>if cy g xs p.1 then fe tf cf g xs r ρ2 p.1 p.2 else none:=rfl
abbrev gH(elt:Expr)(gens:List Comprehension)(scope:Scope)(pos:Pos)(d:Nat)(target iter:Expr)(ifs:List Expr)(K:Value→Env→Sem Fin→Sem Fin):Prop:=∀it acc env,
 compTurn (.ListComp elt gens scope pos) d it acc env=(standAt iter.pos>>= λzz=>pyNext it>>= λr=>match r with
  |none=>pure (.done .next)
  |some v=>letOwnedTupleGo target it v>>= λzz=>assign target env v>>= λzz=>
   (forIn ifs true λc r=>if r=true then do let ok←isTrue c env (eval c env);pure (LJ ok) else pure (LJ r))>>= λok=>
    if ok=true then K acc env (again (.compLoop (.ListComp elt gens scope pos) d it acc env)) else again (.compLoop (.ListComp elt gens scope pos) d it acc env))
noncomputable def Hw(elt:Expr):Value→Env→Sem Fin→Sem Fin:= λacc env k=>Q8 elt acc env>>= λzz=>k
theorem bN(elt target iter:Expr)(ifs:List Expr)(scope:Scope)(pos:Pos):gH elt [⟨target,iter,ifs,0⟩] scope pos 0 target iter ifs (Hw elt):= λzz zz zz=>rfl
theorem Dc(elt target iter:Expr)(ifs:List Expr)(scope:Scope)(pos:Pos)(g:Comprehension):gH elt [g,⟨target,iter,ifs,0⟩] scope pos 1 target iter ifs (Hw elt):= λzz zz zz=>rfl
noncomputable def J5(e:Expr)(iter:Expr):Value→Env→Sem Fin→Sem Fin:= λacc env k=>do
 let x←eval iter env
 standAt iter.pos
 let x←foldedSetIterable iter env x
 let it←holding [x] (pyIter x)
 let _←runOwn (.compStart e 1 it acc env) env
 k
theorem im(elt target iter:Expr)(ifs:List Expr)(scope:Scope)(pos:Pos)(target' iter':Expr)(ifs':List Expr):
 gH elt [⟨target,iter,ifs,0⟩,⟨target',iter',ifs',0⟩] scope pos 0 target iter ifs (J5 (.ListComp elt [⟨target,iter,ifs,0⟩,⟨target',iter',ifs',0⟩] scope pos) iter'):= λzz zz zz=>rfl
variable {cf : CF}
structure lO (C:gK) (n:Nat) (cx:Cx) (K:Value→Env→Sem Fin→Sem Fin) (cf:CF):Prop where
 of::
 run:∀A cenv Cn D T ρ α μ s E Q k acc ρ' μ' acc',cR A n→D∈T→bl C T α μ s→bh C cx cenv [Cn] ρ s.heap α (T++ai α μ)→dv D acc T α μ s→cf ρ μ acc=some (ρ',μ',acc')→
  (∀s',Bn C cx T α μ s cenv Cn D ρ' μ' acc' s'→wpAny (model C.prog C.w) A k Q E s')→wpAny (model C.prog C.w) A (K (.ref D) cenv k) Q E s
section
theorem bZ(hf:ab C n cx elt f):lO C n cx (Hw elt) (aY f):=by
 refine .of ?_;intro A cenv Cn D T ρ α μ s E Q k acc ρ' μ' acc' R hD I F ac h hk;exact yS (D2 ((P0 hf).run A cenv Cn D T ρ α μ s E acc ρ' μ' acc' R hD I F ac h) (λzz s' p=>hk s' p) λzz zz x=>x)
theorem bh.mono(F:bh C cx env O ρ h α M)(hm:∀a∈M',a∈M):bh C cx env O ρ h α M':=
 F.ext (g7.refl [] h) (iI.nil _ _) (λzz zz=>id) (λa ha=>.inl (hm a ha)) λzz zz q=>nomatch q
theorem mB{m:List Addr}:∀a∈T++m,a∈(wr++T)++m:= λa ha=>(AE.mp ha).elim (λh=>ye _ (CR _ h)) (CR _)
theorem wE{x:PyData}(e:xs[i]? =some x):xs.drop i=x::xs.drop (i+1):=by
 refine bP (BW.mp e) λh e'=>?_;rw [Ni h,e']
variable {gens:List Comprehension} {d:Nat} {ifs:List Expr} {K:Value→Env→Sem Fin→Sem Fin}
theorem Fy{g:Option Nat}{r:List PyData}{x:PyData}{P:Prop}(h:fe tf (cX t cf) g xs (x::r) ρ μ acc=some (ρ',μ',acc'))
  (H:∀ρ1 b μ1 ρ2 μ2 acc2,tf ρ x=some ρ1→t ρ1 μ=some (b,μ1)→(if b=true then cf ρ1 μ1 acc=some (ρ2,μ2,acc2) else ρ2=ρ1∧μ2=μ1∧acc2=acc)→cy g xs μ2→fe tf (cX t cf) g xs r ρ2 μ2 acc2=some (ρ',μ',acc')→P):P:=by
 refine ax h λρ1 e1 h=>aD h λρ2 p e2 h=> @i7 _ (Ra _) _ _ _ _ h λq h=>?_;refine aD e2 λb μ1 e3 e2=>?_;cases b with
 |true=>exact H ρ1 true μ1 ρ2 p.1 p.2 e1 e3 (by rw [if_pos rfl];exact e2) q h
 |false=>exact H ρ1 false μ1 ρ2 p.1 p.2 e1 e3 (by rw [if_neg Hm];exact gw e2 (fu rfl rfl rfl)) q h
abbrev Xq(C:gK)(cx:Cx)(T:List Addr)(cenv:Env)(Cn D:Addr)(α₀:List Addr)(μ₀:List ah)(s₀:Shared)(St:List Addr→xN)(xs:List PyData)(F:List PyData→d5→List ah→List PyData→Prop)(k:Nat)(s:Shared):Prop:=
 ∃wr i ρ α μ acc,(Cn∉wr∧(∀a∈T,a∉wr)∧∀b∈wr,s₀.heap.get? b=none)∧k=xs.length+1-i∧i≤xs.length∧bl C (wr++T) α μ s∧bh C cx cenv [Cn] ρ s.heap α ((wr++T)++ai α μ)∧dv D acc (wr++T) α μ s∧St wr (wr++T) α μ i s∧aV [Cn,D] α₀ μ₀ s₀ α μ s∧F (xs.drop i) ρ μ acc
theorem Xq.mk{F:List PyData→d5→List ah→List PyData→Prop}
  (h1:Cn∉wr) (h2:∀a∈T,a∉wr) (h3:∀b∈wr,s₀.heap.get? b=none) (hk:k=xs.length+1-i) (hi:i≤xs.length) (I:bl C (wr++T) α μ s) (Fr:bh C cx cenv [Cn] ρ s.heap α ((wr++T)++ai α μ)) (ac:dv D acc (wr++T) α μ s) (st:St wr (wr++T) α μ i s) (S:aV [Cn,D] α₀ μ₀ s₀ α μ s) (h:F (xs.drop i) ρ μ acc):Xq C cx T cenv Cn D α₀ μ₀ s₀ St xs F k s:=
 (nP wr i ρ α μ acc ⟨h1,h2,h3⟩ hk hi I Fr ac st S h)
theorem AZ{wr1:List Addr}{h0:Heap}(hfr:∀b∈wr1,b∈wr∨h.get? b=none):(∀a∈wr1++T,a∈wr++T∨h.get? a=none)∧((∀b∈wr,h0.get? b=none)→(∀b o,h0.get? b=some o→∃o',h.get? b=some o')→∀b∈wr1,h0.get? b=none)∧∀a,a∉wr→(∃o,h.get? a=some o)→a∉wr1:=
 fu (λa ha=>(AE.mp ha).elim (λq=>(hfr a q).imp_left (ye _)) λq=>.inl (CR _ q)) (λhw hd b hb=>(hfr b hb).elim (hw b) (dY hd)) λa hn ho q=>(hfr a q).elim hn λq=>bP ho λo e=>cv (q.symm.trans e)
theorem BQ{a:Nat}(h:i<a):a+1-(i+1)<a+1-i:=Nat.sub_lt_sub_left (P5 h) (Rx i)
theorem j2.go{Q:Bool→Shared→Prop}{r:Bool}(ht:j2 C n cx ifs t)(R:cR A n)(I:bl C T α μ s)(F:bh C cx env O ρ s.heap α (T++ai α μ))(e:t ρ μ=some (r,μ'))
  (k:∀α' s',bl C T α' μ' s'→aV [] α μ s α' μ' s'→Q r s'):wpAny (model C.prog C.w) A (forIn ifs true λc r=>if r=true then do let ok←isTrue c env (eval c env);pure (LJ ok) else pure (LJ r)) Q E s:=
 D2 (ht.run A env O T ρ α μ s E r μ' R I F e) (λzz s' p=>iB p λq α' I' S'=>q▸k α' s' I' S') λzz zz x=>x
theorem DS{g:Option Nat}{Q:Fin→Shared→Prop}
  (turn:gH elt gens scope pos d target iter ifs K) (tg:n5 C cx target tup tf) (ts:j2 C n cx ifs t) (ck:lO C n cx K cf) (R:cR A n) (hn2:2≤n) (hD:D∈T) (W:gZ C it gi xs g tup St Mid)
  (hCw:Cn∉wr) (hCD:Cn≠D) (hTw:∀a∈T,a∉wr) (hw0:∀b∈wr,s₀.heap.get? b=none) (hg0:∀i∈gi,s₀.gens[i]? =none)
  (I:bl C (wr++T) α μ s) (F:bh C cx cenv [Cn] ρ s.heap α ((wr++T)++ai α μ)) (ac:dv D acc (wr++T) α μ s) (st:St wr (wr++T) α μ i s) (S:aV [Cn,D] α₀ μ₀ s₀ α μ s)
  (h:fe tf (cX t cf) g xs (xs.drop i) ρ μ acc=some (ρ',μ',acc')) (kD:∀s',Bn C cx T α₀ μ₀ s₀ cenv Cn D ρ' μ' acc' s'→Q (.done .next) s')
  (kN:∀s',i<xs.length→Xq C cx T cenv Cn D α₀ μ₀ s₀ St xs (λr ρ μ acc=>fe tf (cX t cf) g xs r ρ μ acc=some (ρ',μ',acc')) (xs.length+1-(i+1)) s'→Q (.again (.compLoop (.ListComp elt gens scope pos) d it (.ref D) cenv)) s'):
  wpAny (model C.prog C.w) A ((compTurn (.ListComp elt gens scope pos) d it (.ref D) cenv).onRaise (λx=>do noteFrame x cenv;theTreesLotGoes x)) Q E s:=by
 have hwT:∀b∈wr,b∈wr++T:= λb hb=>ye _ hb;refine wpAny_noted ?_;rw [turn];refine yS (Lp (yS ?_));cases ex:xs[i]? with
 |none=>
  rw [My (GZ.mp ex)] at h
  cases (h:some (ρ,μ,acc)=some (ρ',μ',acc'));refine W.done (R.mono hn2) I st ex λs1 mv hI=>ES (kD s1 (d4 α (hI T λa ha=>⟨CR _ ha,hTw a ha⟩) (S.moves mv hw0 hg0) ((F.moves mv hwT).mono mB) ?_));refine au (ac.moves mv hwT (hTw D hD)) λitems p r=>?_;exact (aZ items p (r.mono mB))
 |some x=>
  rw [wE ex] at h
  refine Fy h λρ1 b μ1 ρ2 μ2 acc2 e1 e3 e2 hgd h'=>?_;clear h;refine W.item (R.mono hn2) I st ex λv s1 wr1 mv1 hfr I1 ir1 md1=>?_;refine yS (W.go I1 md1 tg.1 ir1 λs2 mv2 I2 ir2 st2=>?_);refine dW (AZ (T:=T) (h0:=s₀.heap) hfr) λhT1 hw1' hn1=>?_;have hwT1:∀b∈wr1,b∈wr1++T:= λb hb=>ye _ hb;have hDT:D∈wr1++T:=CR _ hD;have hCw1:Cn∉wr1:=hn1 Cn hCw (by
   refine au ((F.own Cn (FI ..)).1) λo e zz=>?_;exact ⟨o,e⟩)
  have hTw1:∀a∈T,a∉wr1:= λa ha=>hn1 a (hTw a ha) (I.tdom a (CR _ ha));have hw1:=hw1' hw0 S.dom;have F2:=(F.movesG mv1 hwT hT1).moves mv2 hwT1;have ac2:=(ac.movesG mv1 hwT (hTw D hD) hT1).moves mv2 hwT1 (hTw1 D hD);have S2:=(S.moves mv1 hw0 hg0).moves mv2 hw1 hg0;refine yS (D2 (tg.2 A cenv [Cn] (wr1++T) ρ α μ s2 _ v x ρ1 R.handled I2 F2 ir2 e1) (λzz s3 sd=>?_) λzz zz x=>x);have hO3:iI [Cn] (wr1++T) s2.heap:= λa ha=>.inr (.inl (F2.own a ha).1);have ac3:dv D acc (wr1++T) α μ s3:=ac2.stepO I2 hDT sd.2.1 hO3 λq=>hCD (by simpa using q:D=Cn).symm;have fin:∀s5 α5,bl C (wr1++T) α5 μ2 s5→aV [Cn,D] α μ s3 α5 μ2 s5→bh C cx cenv [Cn] ρ2 s5.heap α5 ((wr1++T)++ai α5 μ2)→dv D acc2 (wr1++T) α5 μ2 s5→Q (.again (.compLoop (.ListComp elt gens scope pos) d it (.ref D) cenv)) s5:= λs5 α5 I5 S5 F5 ac5=>by
   have S25:aV [Cn,D] α μ s2 α5 μ2 s5:=(sd.2.1.weak λa ha=>.inl (Cc.mpr (.inl (Aq.mp ha)))).trans S5;have hlt:=(BW.mp ex).1;refine kN s5 hlt (Xq.mk hCw1 hTw1 hw1 rfl hlt I5 F5 ac5 (W.frame st2 S25 (λa ha=>?_) (λa ha=>?_) (λa ha=>.inl ha) hwT1 I2 I5 hgd) (S2.trans S25) h')
   ·rcases Cc.mp ha with q|ha
    ·exact .inr (.inl (q▸(F2.own Cn (FI ..)).1))
    ·exact .inr (.inr (Aq.mp ha▸hDT))
   ·rcases Cc.mp ha with q|ha
    ·exact q▸hCw1
    ·exact Aq.mp ha▸hTw1 D hD
  refine yS (ts.go R sd.1 sd.2.2 e3 λα4 s4 I4 S4=>?_);have F4:=sd.2.2.step sd.1 S4;have ac4:=ac3.stepO sd.1 hDT S4 (iI.nil _ _) (Er);cases b with
  |true=>
   rw [if_pos rfl] at e2⊢
   exact ck.run A cenv Cn D (wr1++T) ρ1 α4 μ1 s4 _ _ _ acc ρ2 μ2 acc2 R hDT I4 F4 ac4 e2 λs5 p5=>eD p5 λα5 I5 S5 F5 ac5=>ES (fin s5 α5 I5 (S4.up.trans S5) F5 ac5)
  |false=>
   rw [if_neg Hm] at e2⊢
   refine eE λGG kG=>?_;refine dW e2 λzq0 zq1 zq2=>?_;subst zq0;subst zq1;subst zq2;refine kG ?_;exact ES (fin s4 α4 I4 S4.up F4 ac4)
theorem t0{g:Option Nat}{RR:Result→Shared→Prop}
  (turn:gH elt gens scope pos d target iter ifs K) (tg:n5 C cx target tup tf) (ts:j2 C n cx ifs t) (ck:lO C n cx K cf) (R:cR A n) (hn2:2≤n) (hD:D∈T) (W:gZ C it gi xs g tup St Mid)
  (hCw:Cn∉wr) (hCD:Cn≠D) (hTw:∀a∈T,a∉wr) (hw0:∀b∈wr,s₀.heap.get? b=none) (hg0:∀i∈gi,s₀.gens[i]? =none)
  (I:bl C (wr++T) α μ s) (F:bh C cx cenv [Cn] ρ s.heap α ((wr++T)++ai α μ)) (ac:dv D acc (wr++T) α μ s) (st:St wr (wr++T) α μ 0 s) (S:aV [Cn,D] α₀ μ₀ s₀ α μ s)
  (h:fe tf (cX t cf) g xs xs ρ μ acc=some (ρ',μ',acc')) (hR:∀s',Bn C cx T α₀ μ₀ s₀ cenv Cn D ρ' μ' acc' s'→RR (.ok .next) s'):
  codeAny (model C.prog C.w) A (.compLoop (.ListComp elt gens scope pos) d it (.ref D) cenv) RR s:=by
 refine codeAny_loop rfl (Xq C cx T cenv Cn D α₀ μ₀ s₀ St xs λr ρ μ acc=>fe tf (cX t cf) g xs r ρ μ acc=some (ρ',μ',acc')) (λk s=>?_) (xs.length+1) (Xq.mk (i:=0) hCw hTw hw0 rfl (LL _) I F ac st S h);clear hCw hTw hw0 I F ac st S h;intro p;refine nV p λwr i ρ α μ acc q zk hi I F ac st S h=>?_;refine bH (F6 zk) ?_;refine dW q λhCw hTw hw0=>?_;exact DS (A:=A) turn tg ts ck R hn2 hD W hCw hCD hTw hw0 hg0 I F ac st S h hR λs' hl p=>(gN rfl _ (BQ hl) p)
end
theorem rS{R:Result→Shared→Prop}{ifs:List Expr}{g:Comprehension}{acc:Value}
  (h0:codeAny (model prog w) A (.compLoop (.ListComp elt [g,⟨target,iter,ifs,0⟩] scope pos) 1 it acc env) R s)
  (h:wpAny (model prog w) A (pyIter it) (λit' s'=>codeAny (model prog w) A (.compLoop (.ListComp elt [g,⟨target,iter,ifs,0⟩] scope pos) 1 it' acc env) R s')
   (notedBy (model prog w) A env λx s'=>R (.error x) s') s):
  codeAny (model prog w) A (.compStart (.ListComp elt [g,⟨target,iter,ifs,0⟩] scope pos) 1 it acc env) R s:=by
 refine codeAny_of_tree ?_;refine (?_:wpAny _ _ ((compStart (.ListComp elt [g,⟨target,iter,ifs,0⟩] scope pos) 1 it acc env).onRaise (λx=>do noteFrame x env;standAt theWindowsPlace)) _ _ s);refine wpAny_notedAt ?_;unfold compStart;refine (?_:wpAny _ _ (ask>>=_) _ _ s);refine yS (wpAny_askSetting (wpAny_ite ?_))
 split
 ·first
   |exact yS (ES (ES (Ur rfl h0)))
   |exact ES (Ur rfl h0)
 ·first
   |exact yS (O7 (yS (Lp (yS (D2 h (λit' s' h'=>ES (Ur rfl h')) λzz zz x=>x)))))
   | (refine yS (O7 ?_);show wpAny _ _ (standAt iter.pos>>=_) _ _ s;exact yS (Lp (yS (D2 h (λit' s' h'=>ES (Ur rfl h')) λzz zz x=>x))))
def gk(itf:IF)(tf:d5→PyData→Option d5)(cf:CF):CF:= λρ μ acc=>bp (itf ρ μ) λxs p=>fe tf cf p.1 xs xs ρ p.2 acc
section
theorem BS(F:bh C cx env O ρ h α M)(hw:∀b∈wr,h.get? b=none):∀a∈O,a∉wr:= λa ha q=>(F.own a ha).1.dom (hw a q)
theorem bh.growStep(F:bh C cx env O ρ s.heap α (T++ai α μ))(I:bl C T α μ s)(S:aV [] α μ s α' μ' s')(hw:∀b∈wr,s.heap.get? b=none):
  bh C cx env O ρ s'.heap α' ((wr++T)++ai α' μ'):=
 F.ext S.ext (iI.nil T _).app S.at (S.hm λa ha=>(AE.mp ha).elim (λq=>.inr (hw a q)) .inl) λzz q h=>I.notFrame (db h) (F.frA q)
variable {iter' target':Expr} {ifs ifs':List Expr}
theorem kv(hn2:2≤n)(hit:mO C n cx iter' tup itf)(tg:n5 C cx target' tup tf)(ts:j2 C n cx ifs' t)(hf:ab C n cx elt f)(hs:∀env x,foldedSetIterable iter' env x=pure x):
  lO C n cx (J5 (.ListComp elt [⟨target,iter,ifs,0⟩,⟨target',iter',ifs',0⟩] scope pos) iter') (gk itf tf (cX t (aY f))):=by
 refine .of ?_;intro A cenv Cn D T ρ α μ s E Q k acc ρ' μ' acc' R hD I F ac h hk;refine aD h λxs pp e1 h=>?_;refine yS (D2 (hit.run A cenv [Cn] T ρ α μ s _ xs pp.1 pp.2 R I F e1) (λx s1 p=>?_) λzz zz x=>x);refine yS (Lp (yS (Mf (hs cenv x) (yS (Ld (D2 p (λit s2 q=>?_) λzz zz x=>x))))));refine gB q λwr gi St Mid α1 W I1 S1 st hw hg hgd=>?_;have hCw:=BS F hw Cn (Aq.mpr rfl);have hTw:∀a∈T,a∉wr:= λa ha q=>bP (I.tdom a ha) λo e=>cv ((hw a q).symm.trans e);have hCD:Cn≠D:= λq=>F.off D (ye _ hD) (.inr (by simp [q]));have F1:bh C cx cenv [Cn] ρ s2.heap α1 ((wr++T)++ai α1 pp.2):=F.growStep I S1 hw;have ac1:dv D acc (wr++T) α1 pp.2 s2:=by
  refine au ac λitems hp rr=>?_;exact (aZ items (eQ hp S1.ext λq=>I.apart D hD (db (by simpa using q))) (rr.stepO S1 (iI.nil _ _) λa ha=>(AE.mp ha).elim (λq=>.inr (hw a q)) .inl))
 have loop:codeAny (model C.prog C.w) A (.compLoop (.ListComp elt [⟨target,iter,ifs,0⟩,⟨target',iter',ifs',0⟩] scope pos) 1 it (.ref D) cenv)
   (λr s'=>match r with| .ok f=>wpAny (model C.prog C.w) A k Q E s'| .error e=>cameBackBy (model C.prog C.w) A cenv E e s') s2:=
  t0 (Dc _ _ _ _ _ _ _) tg ts (bZ hf) R hn2 hD W hCw hCD hTw hw hg I1 F1 ac1 st S1.up h λs' cp=>hk s' cp
 exact yS (wpAny_runOwn (rS loop (W.self st loop)))
end
noncomputable def tB(env:Env)(p:Str×NameKind)(cs:List (Str×Addr)):List (Str×Addr):=if (p.2== .free)=true then (env.cells.lookup p.1).elim cs λc=>(p.1,c)::cs else cs
noncomputable def mU(env:Env)(l:List (Str×NameKind))(cs:List (Str×Addr)):List (Str×Addr):=l.foldl (λcs p=>tB env p cs) cs
theorem EG(env:Env)(l:List (Str×NameKind))(cs:List (Str×Addr))(h:∀x∈l,x.2=.free→∃c,env.cells.lookup x.1=some c):
  (forIn l cs λ(p:Str×NameKind) r=>if (p.2== .free)=true then do let a←cellOf env p.1;pure (LJ ((p.1,a)::r)) else pure (LJ r):Sem _)=pure (mU env l cs):=by
 induction l generalizing cs with
 |nil=>rfl
 |cons p r ih=>
  rw [Un];have ih':=ih (tB env p cs) λy hy=>h y (D1 _ hy);refine LO ?_ ih'
  by_cases hk:(p.2==LZ)=true
  ·refine bP (h p (FI ..) (eq_of_beq hk)) λc hc=>?_
   rw [if_pos hk,show tB env p cs=(p.1,c)::cs from (if_pos hk).trans (by rw [hc];rfl),show cellOf env p.1=pure c by unfold cellOf;rw [hc]];rfl
  ·rw [if_neg hk,show tB env p cs=cs from if_neg hk]
   rfl
theorem yW(env:Env)(l:List (Str×NameKind))(cs:List (Str×Addr))(x:Str)(c:Addr)(he:env.cells.lookup x=some c)(h:cs.lookup x=some c):(mU env l cs).lookup x=some c:=by
 induction l generalizing cs with
 |nil=>exact h
 |cons p r ih=>
  refine ih _ ?_;refine (?_:(tB env p cs).lookup x=some c)
  by_cases hk:(p.2==LZ)=true
  ·rw [show tB env p cs=_ from if_pos hk]
   cases e:env.cells.lookup p.1 with
   |none=>exact h
   |some c'=>
    refine (Nu).trans ?_;cases q:x==p.1 with
    |true=>rw [←eq_of_beq q] at e;exact e.symm.trans he
    |false=>exact h
  ·rw [show tB env p cs=cs from if_neg hk];exact h
theorem sA(env:Env)(l:List (Str×NameKind))(cs:List (Str×Addr))(x:Str)(c:Addr)(he:env.cells.lookup x=some c)(h:(x,LZ)∈l):(mU env l cs).lookup x=some c:=by
 induction l generalizing cs with
 |nil=>exact nomatch h
 |cons p r ih=>
  refine (Cc.mp h).elim (λq=>yW env r _ _ c he ?_) λq=>ih _ q;subst q;refine (?_:(tB env (x,LZ) cs).lookup x=some c);rw [show tB env (x,LZ) cs=(x,c)::cs from (if_pos rfl).trans (by rw [he];rfl)];exact Pi
theorem y6(h:∀x∈scope.names,x.2=.free→∃c,env.cells.lookup x.1=some c):closureFor scope env=pure (mU env scope.names []):=by
 unfold closureFor;rw [←EG env scope.names [] h]
 simp
def Op(scope s0:Scope):Scope:= {scope with names:=scope.names.map λ(n,k)=>if (k== .free&&s0.kind== .function&&s0.names.lookup n==some .cell) then (n,.cell) else (n,k)}
def bQ(cx:Cx)(scope:Scope):Cx:= {scope:=Op scope cx.scope,names:=(cx.names.map λp=>(p.1,if decide (2≤p.2)&&scope.names.contains (p.1,.free) then 3 else 0))++(scope.names.filter (λx=>x.2== .local&&x.1 != (".0":Str))).map λx=>(x.1,1)}
noncomputable def bG(scope:Scope)(ρ:d5):d5:=ρ++GW (scope.names.filter (λx=>x.2== .local&&x.1 != (".0":Str))).length none
noncomputable def wJ(cx:Cx)(scope:Scope):Bool:=scope.names.all λx=>x.2 != .free||cx.names.any λp=>p.1==x.1&&decide (2≤p.2)
theorem DH(h:wJ cx scope=true){x:Str×NameKind}(hx:x∈scope.names)(hf:x.2=.free):∃ (i k:Nat),cx.names[i]? =some (x.1,k)∧2≤k:=by
 have:=Bw.mp h x hx
 simp only [hf,bne_self_eq_false,PA,List.any_eq_true,Fd,beq_iff_eq,decide_eq_true_eq] at this
 refine ct this λzp0 hp hy hk=>?_;obtain ⟨y,k⟩:=zp0;refine bP (iE hp) λi e=>?_;exact (fO i k (by rw [e];simp at hy;rw [hy]) hk)
theorem gt(h:(bQ cx scope).names[i]? =some (x,k))(hi:i<cx.names.length):(k=0∨(k=3∧(x,LZ)∈scope.names))∧∃k0,cx.names[i]? =some (x,k0)∧(k=3→2≤k0):=by
 unfold bQ at h
 simp only at h
 rw [F9 (by simpa using hi),G1,J4] at h
 obtain ⟨⟨y,k0⟩,e,q⟩:=h;simp only [QW] at q
 obtain ⟨rfl,q⟩:=q
 split at q
 ·rename_i hc
  simp only [Fd,decide_eq_true_eq] at hc
  exact (gN (.inr ⟨q.symm,by simpa using hc.2⟩) k0 e (λzz=>hc.1))
 ·exact (gN (.inl q.symm) k0 e (λz=>by lia))
theorem EO(h:(bQ cx scope).names[i]? =some (x,k))(hi:¬i<cx.names.length):k=1:=by
 unfold bQ at h
 simp only at h
 rw [Jo (by simpa using LS hi),G1,J4] at h
 refine au h λzz zz q=>?_;cases q;rfl
section
theorem bh.sub{m:Str→Option Value}(F:bh C cx env O ρ h α M)(hcap:wJ cx scope=true)(hn:h.Ns Cn m)(hM:Cn∉M)(hB:C.B.get? Cn=none)
  (hnd:∀ (i j:Nat) x,(bQ cx scope).names[i]? =some (x,1)→(bQ cx scope).names[j]? =some (x,1)→i=j):
  bh C (bQ cx scope) (compEnvC scope (mU env scope.names []) Cn env) [Cn] (bG scope ρ) h α M:=by
 refine bP F.cel λcad hc=>?_;have old:∀ {i:Nat} {x k},(bQ cx scope).names[i]? =some (x,k)→2≤k→i<cx.names.length:= λ{i x k} e hk=>by
  by_cases hi:i<cx.names.length
  ·exact hi
  ·have:=EO e hi;lia
 have rho:∀i,i<cx.names.length→(bG scope ρ)[i]? =ρ[i]? := λi hi=>by
  unfold bG;rw [F9 (by rw [F.len];exact hi)]
 refine ⟨by show Op scope env.scope=Op scope cx.scope;rw [F.sc],F.gl,F.bn,?_,(aZ m hn (λi x V h1 h2=>?_)),⟨cad,λi x k h1 h2=>?_,λi x k h1 h2=>?_,λi x h1=>?_,λi j x y k l h1 h2 h3 h4=>?_⟩,λa ha=>?_,Aq.mpr rfl,λa ha q=>?_,hnd⟩
 ·simp [bG,bQ,F.len]
 ·by_cases hi:i<cx.names.length
  ·have:=(gt h1 hi).1;lia
  ·unfold bG at h2
   rw [Jo (by rw [F.len];exact LS hi),Re] at h2
   split at h2<;>cases h2
 ·have hi:=old h1 h2
  refine iB (gt h1 hi) λq k0 e hk0=>?_;obtain ⟨rfl,hf⟩:k=3∧(x,LZ)∈scope.names:=q.elim (λz=>by lia) id;exact sA env _ _ _ _ (hc.look i x k0 e (hk0 rfl)) hf
 ·have hi:=old h1 h2
  refine iB (gt h1 hi) λq k0 e hk0=>?_;obtain ⟨rfl,hf⟩:k=3∧(x,LZ)∈scope.names:=q.elim (λz=>by lia) id;rw [rho i hi];exact hc.has i x k0 e (hk0 rfl)
 ·have hi:=old h1 (DU _)
  have:=(gt h1 hi).1
  lia
 ·have hi:=old h1 h3
  have hj:=old h2 h4;refine iB (gt h1 hi) λq k0 e hk0=>?_;refine iB (gt h2 hj) λq' l0 e' hl0=>?_;exact hc.inj i j x y k0 l0 e e' (hk0 (by lia)) (hl0 (by lia))
 ·obtain rfl:a=Cn:=by simpa using ha
  exact ⟨fQ hn,hB⟩
 ·have hCa:a≠Cn:= λz=>hM (z▸ha)
  rcases q with (q| ⟨i,x,k,h1,h2,h3⟩)|q
  ·exact hCa q
  ·have hi:=old h1 h2
   refine iB (gt h1 hi) λq k0 e hk0=>?_;obtain ⟨rfl,hf⟩:k=3∧(x,LZ)∈scope.names:=q.elim (λz=>by lia) id;have hl:=hc.look i x k0 e (hk0 rfl)
   have:(mU env scope.names []).lookup x=some a:=h3
   rw [sA env _ _ _ _ hl hf] at this
   cases this;exact F.off _ ha (.inl (.inr (pc i x k0 e (hk0 rfl) hl)))
  ·exact hCa (by simpa using q)
end
section
theorem bl.mdom(I:bl C T α μ s):∀a∈T++ai α μ,s.heap.get? a≠none:= λa ha=>
 (AE.mp ha).elim (λh q=>bP (I.tdom a h) λo e=>cv (q.symm.trans e)) λh=>I.cdom (db h)
theorem bl.sub(I:bl C T α μ s)(h:∀a∈T',a∈T):bl C T' α μ s:=
 I.moves' (aG.refl [] [] s) (λzz q=>nomatch q) h λa ha=>I.tdom a (h a ha)
theorem bl.fresh(I:bl C T α μ s)(h:s.heap.get? a=none):C.B.get? a=none:=by
 cases e:C.B.get? a with
 |none=>rfl
 |some o=>exact cv (h.symm.trans (I.keep a o e))
theorem dv.mono(x:dv D acc T α μ s)(h:∀a∈T',a∈T):dv D acc T' α μ s:=
 au x λitems p r=>aZ items p (r.mono λa ha=>(AE.mp ha).elim (λq=>ye _ (h a q)) (CR _))
variable {rest:List Comprehension} {ifs:List Expr} {K:Value→Env→Sem Fin→Sem Fin}
theorem yn(hn2:2≤n){s2:Shared}{g:Option Nat}{RR:Value→Addr→Result→Shared→Prop}
  (turn:gH elt (⟨target,iter,ifs,0⟩::rest) scope pos 0 target iter ifs K) (tg:n5 C (bQ cx scope) target tup tf) (ts:j2 C n (bQ cx scope) ifs t) (ck:lO C n (bQ cx scope) K cf)
  (hcap:wJ cx scope=true) (hcell:∀y∈scope.names,y.2≠ .cell) (hkind:scope.kind=.function)
  (hnd:∀ (i j:Nat) x,(bQ cx scope).names[i]? =some (x,1)→(bQ cx scope).names[j]? =some (x,1)→i=j)
  (R:cR A n) (I:bl C T α μ s) (F:bh C cx env O ρ s.heap α (T++ai α μ)) (ia:cS C T α μ s xs g tup μ1 it s2)
  (h:fe tf (cX t cf) g xs xs (bG scope ρ) μ1 []=some (ρ',μ',acc'))
  (hRR:∀D Cn α' s' m,bl C (D::T) α' μ' s'→aV [Cn,D] α μ s α' μ' s'→s.heap.get? D=none→s.heap.get? Cn=none→D≠Cn→dv D acc' (D::T) α' μ' s'→s'.heap.Ns Cn m→RR (.ref D) Cn (.ok .next) s'):
  wpAny (model C.prog C.w) A (newList []) (λacc s₃=>wpAny (model C.prog C.w) A (newFunctionEnv scope env.globals (mU env scope.names []) [] env.qual none .none (some env)) (λcenv s₄=>
   codeAny (model C.prog C.w) A (.compStart (.ListComp elt (⟨target,iter,ifs,0⟩::rest) scope pos) 0 it acc {cenv with scope:=relabel scope env}) (RR acc cenv.locals) s₄) E s₃) E s2:=by
 refine gB ia λwr gi St Mid α1 W I1 S1 st hw hg hgd=>?_;have F1:bh C cx env O ρ s2.heap α1 ((wr++T)++ai α1 μ1):=F.growStep I S1 hw;refine HQ (So hcell (by intro y hy;simp at hy) (λh₁ hns₁ hsb₁=>?_) hkind);dsimp only at hns₁ hsb₁⊢
 generalize hH2:s2.heap.push {cls:=.type "list",dict:=none,data:=.seq ([]:List Value).toArray}=H2 at hns₁ hsb₁⊢
 generalize hDD:s2.heap.objs.size=D;have hCz:H2.objs.size=D+1:=by rw [←hH2,M5,hDD]
 generalize hCC:H2.objs.size=Cn at hns₁ hsb₁ hCz⊢
 have hDf:s2.heap.get? D=none:=bx (U2 hDD);have hCf:s2.heap.get? Cn=none:=bx (by rw [hDD,hCz];exact P3 _);have hCD:Cn≠D:=by rw [hCz];exact Nt _
 have hk:∀b o,s2.heap.get? b=some o→h₁.get? b=some o:= λb o e=>by
  have hb:b≠Cn:= λq=>by rw [q,hCf] at e;exact cv e
  exact (hsb₁.2 b hb).trans (C5 _ (hH2▸C5 _ e))
 have hacc:h₁.PlainList D #[]:=⟨_,(hsb₁.2 D hCD.symm).trans (C5 _ (hH2▸hDD▸Dy _ rfl))⟩;have hk':∀b o,s2.heap.get? b=some o→(R9 {s2 with heap:=h₁,toks:=s2.toks+([]:List (Str×Value)).length}).get? b=some o:=hk;have hW1:∀a∈[D],s2.heap.get? a=none:= λa ha=>Aq.mp ha▸hDf;have I4':bl C ([D]++(wr++T)) α1 μ1 {s2 with heap:=h₁,toks:=s2.toks+([]:List (Str×Value)).length}:=I1.grow hk' rfl (λh=>h) hW1 λa ha=>Aq.mp ha▸bP hacc λk e=>⟨_,e⟩;have perm:∀a,a∈wr++(D::T)→a∈[D]++(wr++T):= λa ha=>(AE.mp ha).elim (λh=>CR _ (ye _ h)) λh=>(Cc.mp h).elim (λq=>ye _ (Aq.mpr q)) λh=>CR _ (CR _ h);have perm':∀ {m:List Addr} a,a∈(wr++(D::T))++m→a∈([D]++(wr++T))++m:= λ{m} a ha=>(AE.mp ha).elim (λq=>ye _ (perm a q)) λq=>CR _ q;have I4:=I4'.sub perm;have F4:bh C cx env O ρ h₁ α1 ((wr++(D::T))++ai α1 μ1):=(F1.grow (s':= {s2 with heap:=h₁,toks:=s2.toks+([]:List (Str×Value)).length}) hk' hW1).mono perm';have S24:aV [] α1 μ1 s2 α1 μ1 {s2 with heap:=h₁,toks:=s2.toks+([]:List (Str×Value)).length}:=aV.of_keeps hk' λzz zz e=>e;have st4:=W.frame (T':=wr++(D::T)) st S24 (iI.nil _ _) (λzz q=>nomatch q) (λa ha=>(AE.mp ha).elim (λq=>.inl (ye _ q)) λq=>(Cc.mp q).elim (λq=>.inr (q▸hDf)) λq=>.inl (CR _ q)) (λb hb=>ye _ hb) I1 I4 hgd;have hTs:∀a∈T,s.heap.get? a≠none:= λa ha=>I.mdom a (ye _ ha);have hwd:∀b∈wr,s2.heap.get? b≠none:= λb hb=>I1.mdom b (ye _ (ye _ hb));have hDw:D∉wr:= λq=>hwd D q hDf;have hCw:Cn∉wr:= λq=>hwd Cn q hCf;have hDs:s.heap.get? D=none:=dY S1.dom hDf;have hCs:s.heap.get? Cn=none:=dY S1.dom hCf;have hCM:Cn∉(wr++(D::T))++ai α1 μ1:= λq=>(AE.mp (perm' _ q)).elim (λz=>(AE.mp z).elim (λz=>hCD (Aq.mp z)) λz=>I1.mdom Cn (ye _ z) hCf) λz=>I1.mdom Cn (CR _ z) hCf;have Fc:=F4.sub hcap hns₁ hCM (I1.fresh hCf) hnd;have S4:aV [Cn,D] α μ s α1 μ1 {s2 with heap:=h₁,toks:=s2.toks+([]:List (Str×Value)).length}:=(S1.trans S24).up;have ac4:dv D [] (wr++(D::T)) α1 μ1 {s2 with heap:=h₁,toks:=s2.toks+([]:List (Str×Value)).length}:=(aZ (#[]) hacc (aw.nil _ _));have loop:codeAny (model C.prog C.w) A (.compLoop (.ListComp elt (⟨target,iter,ifs,0⟩::rest) scope pos) 0 it (.ref D) (compEnvC scope (mU env scope.names []) Cn env)) (RR (.ref D) Cn)
   {s2 with heap:=h₁,toks:=s2.toks+([]:List (Str×Value)).length}:=
  t0 turn tg ts ck R hn2 (FI ..) W hCw hCD (λa ha q=>(Cc.mp ha).elim (λz=>hDw (z▸q)) λha=>hTs a ha (hw a q)) hw hg I4 Fc ac4 st4 S4 h λs' cp=>eD cp λα' I' S' F' ac'=>au F'.loc λm' hm' zz=>hRR D Cn α' s' m' I' S' hDs hCs hCD.symm ac' hm'
 exact codeAny_compStart_list loop (W.self st4 loop)
theorem qP{m:List Addr}:∀a∈T++m,a∈(D::T)++m:= λa ha=>(AE.mp ha).elim (λq=>ye _ (D1 _ q)) λq=>CR _ q
theorem sS(I:bl C (D::T) α' μ' s')(ac:dv D acc (D::T) α' μ' s')(hDT:D∉T):bl C T α' μ' s'∧aJ s'.heap (T++ai α' μ') (.ref D) (.list acc):=
 au ac λitems p r=>⟨I.sub λa ha=>D1 _ ha,aJ.list p (r.mono qP) λq=>(AE.mp q).elim hDT λq=>I.apart D (FI ..) (db q)⟩
theorem uu{X:Type}{l:List X}{a y:X}(h:(l++[y])[i]? =some a)(k:i<l.length→l[i]? =some a→G)(k':i=l.length→y=a→G):G:=by
 by_cases hi:i<l.length
 ·rw [F9 hi] at h;exact k hi h
 ·rw [Jo (LS hi)] at h
  cases e:i-l.length with
  |zero=>rw [e] at h;exact k' (Nat.le_antisymm (Nat.le_of_sub_eq_zero e) (LS hi)) (Fh h)
  |succ j=>rw [e] at h;exact cv h
theorem HF(I:bl C (D::T) α' μ' s')(hc:c.isMut=true)(ca:ee s'.heap ((D::T)++ai α' μ') D c)(hDT:D∉T):
  bl C T (α'++[D]) (μ'++[c]) s'∧ai (α'++[D]) (μ'++[c])=ai α' μ'++[D]∧(∀a,a∈T++ai (α'++[D]) (μ'++[c])→a∈(D::T)++ai α' μ'):=by
 have hDa:D∉α':=I.apart D (FI ..);have hm:ai (α'++[D]) (μ'++[c])=ai α' μ'++[D]:=(pQ I.len).trans (congrArg _ (if_pos hc));have hs:∀a,a∈T++ai (α'++[D]) (μ'++[c])→a∈(D::T)++ai α' μ':= λa ha=>by
  rw [hm] at ha
  exact (AE.mp ha).elim (λh=>ye _ (D1 _ h)) λh=>(AE.mp h).elim (CR _) λh=>ye _ (Cc.mpr (.inl (Aq.mp h)))
 refine fu ⟨I.keep,by rw [be,be,I.len];rfl,λi a c h1 h2=>uu h1 (λhi h1=>uu h2 (λzz h2=>(I.cells i a c h1 h2).mono hs) λq zz=>absurd (q.trans I.len.symm) (LY hi)) λhi h1=>uu h2 (λhi2 zz=>absurd (hi.trans I.len) (LY hi2)) λzz h2=>?_,QJ.mpr (fu I.nodup (List.pairwise_singleton _ _) λa ha b hb q=>hDa ((Aq.mp hb)▸q▸ha)),λa ha q=>(AE.mp q).elim (I.apart a (D1 _ ha)) λq=>hDT ((Aq.mp q)▸ha),λa ha=>I.tdom a (D1 _ ha),λa ha=>I.tnew a (D1 _ ha),λa ha=>(AE.mp ha).elim (I.new a) λq=>I.tnew a (Cc.mpr (.inl (Aq.mp q))),I.gens,I.os⟩ hm hs;subst h1;subst h2;exact ca.mono hs
theorem CJ(I:bl C (D::T) α' μ' s')(ac:dv D acc (D::T) α' μ' s')(hDT:D∉T):
 bl C T (α'++[D]) (μ'++[.live acc]) s'∧ai (α'++[D]) (μ'++[.live acc])=ai α' μ'++[D]∧(∀a,a∈T++ai (α'++[D]) (μ'++[.live acc])→a∈(D::T)++ai α' μ'):=HF I rfl ac hDT
theorem OW{m:Str→Option Value}(I:bl C (D::T) α' μ' s')(S:aV [Cn,D] α μ s α' μ' s')(hD:s.heap.get? D=none)(hC:s.heap.get? Cn=none)(hDC:D≠Cn)
  (ac:dv D acc (D::T) α' μ' s') (hn:s'.heap.Ns Cn m) (hB:C.B.get? Cn=none) (hs:Lq Cn s'.heap h') (hCT:Cn∉T):
  bl C (D::T) α' μ' {s' with heap:=h'}∧aV [] α μ s α' μ' {s' with heap:=h'}∧dv D acc (D::T) α' μ' {s' with heap:=h'}:=by
 have hx:=iM hs;have hO:∀a∈[Cn],bW s'.heap a∧C.B.get? a=none:= λa ha=>Aq.mp ha▸⟨fQ hn,hB⟩;have I':bl C (D::T) α' μ' {s' with heap:=h'}:=bl.frames' (tk:=s'.toks) I hx hO λa ha q=>(Cc.mp q).elim (λz=>hDC (z.symm.trans (Aq.mp ha))) λq=>hCT (Aq.mp ha▸q);have mv:aG [Cn] [] s' {s' with heap:=h'}:=aG.of_heap (tk:=s'.toks) λb o hb e=>(hs.2 b λq=>hb (Aq.mpr q)).trans e;exact fu I' ((S.weak λa ha=>.inr ((Cc.mp ha).elim (λq=>q▸hC) λha=>Aq.mp ha▸hD)).moves mv (λb hb=>Aq.mp hb▸hC) (λzz q=>nomatch q)) (au ac λitems p r=>aZ items (eQ p hx λq=>hDC (Aq.mp q)) (r.frames hx λa ha=>(hO a ha).1))
noncomputable def fj(scope:Scope)(itf:IF)(tf:d5→PyData→Option d5)(cf:CF):d5→List ah→Option (List PyData×List ah):= λρ μ=>bp (itf ρ μ) λxs p=>bp (fe tf cf p.1 xs xs (bG scope ρ) p.2 []) λzz q=>some (q.2,q.1)
def ce(scope:Scope)(itf:IF)(tf:d5→PyData→Option d5)(cf:CF):EF:= λρ μ=>bp (fj scope itf tf cf ρ μ) λacc μ2=>some (.d (.list acc),μ2)
structure Bu (C:gK) (n:Nat) (cx:Cx) (elt target iter:Expr) (ifs:List Expr) (rest:List Comprehension) (scope:Scope) (pos:Pos) (itf:IF) (tf:d5→PyData→Option d5) (cf:CF):Prop where
 intro::
 run:∃tup t cf0 K,cf=cX t cf0∧gH elt (⟨target,iter,ifs,0⟩::rest) scope pos 0 target iter ifs K∧n5 C (bQ cx scope) target tup tf∧j2 C n (bQ cx scope) ifs t∧lO C n (bQ cx scope) K cf0∧mO C n cx iter tup itf
 cap:wJ cx scope=true
 cell:∀y∈scope.names,y.2≠ .cell
 kind:scope.kind=.function
 nd:∀ (i j:Nat) x,(bQ cx scope).names[i]? =some (x,1)→(bQ cx scope).names[j]? =some (x,1)→i=j
 loc:∀x∈scope.names,x.2=.local→scope.names.lookup x.1=some .local
 set:∀env x,foldedSetIterable iter env x=pure x
 two:2≤n
theorem xJ{use:Option (Value→Sem Unit)}
  (c:Bu C n cx elt target iter ifs rest scope pos itf tf cf) (R:cR A n) (I:bl C T α μ s) (F:bh C cx env O ρ s.heap α (T++ai α μ)) (h:fj scope itf tf cf ρ μ=some (acc',μ'))
  (hRR:∀D Cn α' s' m,bl C (D::T) α' μ' s'→aV [Cn,D] α μ s α' μ' s'→s.heap.get? D=none→s.heap.get? Cn=none→D≠Cn→dv D acc' (D::T) α' μ' s'→s'.heap.Ns Cn m→compPost (model C.prog C.w) A E use Q (.ref D) Cn (.ok .next) s') (pos':Pos):
  wpAny (model C.prog C.w) A (comprehension (.ListComp elt (⟨target,iter,ifs,0⟩::rest) scope pos) scope env pos' (newList []) false (eval iter env) use) Q E s:=by
 refine aD h λxs p e1 h=>aD h λρ2 q e2 hq=>?_;refine oJ c.run λtup t cf0 K zq4 turn tg ts ck it=>?_;subst zq4;have hcl:closureFor scope env=pure (mU env scope.names []):=y6 λx hx hf=>jS (DH c.cap hx hf) λi k e hk=>bP F.cel λcad hc=>⟨_,hc.look i x.1 k e hk⟩;refine wpAny_comprehension_free rfl (c.set env) hcl c.kind c.loc (D2 (it.run A env O T ρ α μ s E xs p.1 p.2 R I F e1) (λv s1 pp=>D2 pp (λit s2 ia=>?_) λzz zz x=>x) λzz zz x=>x);cases (hq:some (q.2,q.1)=some (acc',μ'));exact yn c.two (RR:= λacc Cn=>compPost (model C.prog C.w) A E use Q acc Cn) turn tg ts ck c.cap c.cell c.kind c.nd R I F ia e2 hRR
theorem cE(c:Bu C n cx elt target iter ifs rest scope pos itf tf cf):ab C n cx (.ListComp elt (⟨target,iter,ifs,0⟩::rest) scope pos) (ce scope itf tf cf):=by
 refine .of ?_;intro A env O T ρ α μ s E V μ' R I F h;refine aD h λacc μ2 e h=>cm h ?_;rw [eval_ListComp];refine xJ (use:=none) c R I F e (λD Cn α' s' m I' S' hD hCn hDC ac hn=>(aZ m hn (λh' hs=>?_))) _;have hT:∀a,s.heap.get? a=none→a∉T:= λa e q=>I.mdom a (ye _ q) e;exact dW (OW I' S' hD hCn hDC ac hn (I.fresh hCn) hs (hT Cn hCn)) λI2 S2 ac2=>f_ (sS I2 ac2 (hT D hD)) λI3 r3=>cL α' I3 S2 r3
end
inductive Fl where
 |next
 |brk
 |ret (V:AV)
noncomputable def AO(h:Heap)(α M:List Addr):Fl→Flow→Prop
 | .next,f=>f=.next
 | .brk,f=>f=.brk
 | .ret V,f=>∃v,f=.ret v∧bq h α M v V
def iC(C:gK)(cx:Cx)(env:Env)(O T α:List Addr)(μ:List ah)(s:Shared)(fl:Fl)(ρ':d5)(μ':List ah)(f:Flow)(s':Shared):Prop:=
 ∃α',bl C T α' μ' s'∧aV O α μ s α' μ' s'∧bh C cx env O ρ' s'.heap α' (T++ai α' μ')∧AO s'.heap α' (T++ai α' μ') fl f
noncomputable abbrev SF:=d5→List ah→Option (Fl×d5×List ah)
structure aQ (C:gK) (n:Nat) (cx:Cx) (st:Stmt) (f:SF):Prop where
 of::
 run:∀A env O T ρ α μ s E fl ρ' μ',cR A n→bl C T α μ s→bh C cx env O ρ s.heap α (T++ai α μ)→f ρ μ=some (fl,ρ',μ')→
  wpAny (model C.prog C.w) A (exec st env) (iC C cx env O T α μ s fl ρ' μ') E s
structure cD (C:gK) (n:Nat) (cx:Cx) (sts:List Stmt) (f:SF):Prop where
 of::
 run:∀A env O T ρ α μ s E fl ρ' μ',cR A n→bl C T α μ s→bh C cx env O ρ s.heap α (T++ai α μ)→f ρ μ=some (fl,ρ',μ')→
  wpAny (model C.prog C.w) A (execs sts env) (iC C cx env O T α μ s fl ρ' μ') E s
def aP:SF:= λρ μ=>some (.next,ρ,μ)
noncomputable def flC{Z:Type}(fl:Fl)(a b:Z):Z:=Fl.rec a b (λzz=>b) fl
def ap(f g:SF):SF:= λρ μ=>bp (f ρ μ) λfl p=>flC fl (g p.1 p.2) (some (fl,p))
section
variable {f g:SF}
theorem aQ.go{Q:Flow→Shared→Prop}{fl:Fl}(hb:aQ C n cx st f)(R:cR A n)(I:bl C T α μ s)(F:bh C cx env O ρ s.heap α (T++ai α μ))(e:f ρ μ=some (fl,ρ',μ'))
  (k:∀α' fw s',bl C T α' μ' s'→aV O α μ s α' μ' s'→bh C cx env O ρ' s'.heap α' (T++ai α' μ')→AO s'.heap α' (T++ai α' μ') fl fw→Q fw s'):wpAny (model C.prog C.w) A (exec st env) Q E s:=
 D2 (hb.run A env O T ρ α μ s E _ _ _ R I F e) (λfw s' p=>eD p λα' I' S' F' r=>k α' fw s' I' S' F' r) λzz zz x=>x
theorem cD.go{sts:List Stmt}{Q:Flow→Shared→Prop}{fl:Fl}(hb:cD C n cx sts f)(R:cR A n)(I:bl C T α μ s)(F:bh C cx env O ρ s.heap α (T++ai α μ))(e:f ρ μ=some (fl,ρ',μ'))
  (k:∀α' fw s',bl C T α' μ' s'→aV O α μ s α' μ' s'→bh C cx env O ρ' s'.heap α' (T++ai α' μ')→AO s'.heap α' (T++ai α' μ') fl fw→Q fw s'):wpAny (model C.prog C.w) A (execs sts env) Q E s:=
 D2 (hb.run A env O T ρ α μ s E _ _ _ R I F e) (λfw s' p=>eD p λα' I' S' F' r=>k α' fw s' I' S' F' r) λzz zz x=>x
theorem aN:cD C n cx [] aP:=by
 refine .of ?_;intro A env O T ρ α μ s E fl ρ' μ' R I F h;refine gw h ?_;exact RY (d4 α I (aV.refl _ _ _ _) F rfl)
theorem ak{rest:List Stmt}(hf:aQ C n cx st f)(hg:cD C n cx rest g):cD C n cx (st::rest) (ap f g):=by
 refine .of ?_;intro A env O T ρ α μ s E fl ρ' μ' R I F h;refine aD h λfl1 p e1 h=>KD (hf.go R I F e1 λα1 fw s1 I1 S1 F1 r1=>?_);cases fl1 with
 |next=>subst r1;exact hg.go R I1 F1 h λα2 fw s2 I2 S2 F2 r2=>d4 α2 I2 (S1.trans S2) F2 r2
 |brk=>subst r1;exact gw h (d4 α1 I1 S1 F1 rfl)
 |ret V=>exact au r1 λv zq1 rv=>by subst zq1;exact gw h (jf α1 I1 S1 F1 v rfl rv)
def cj(f:EF):SF:= λρ μ=>bp (f ρ μ) λV μ1=>oe (Pt V) (some ()) (λzz zz=>some (.next,ρ,μ1)) (bo (jM V) λzz=>some (.next,ρ,μ1))
theorem cM{f:EF}(hf:ab C n cx e f)(hk:cx.scope.kind=.function)(hs:∀env,swapsWith e none pos.line env=pure false):aQ C n cx (.Expr e pos) (cj f):=by
 refine .of ?_;intro A env O T ρ α μ s E fl ρ' μ' R I F h;have hi:interactive env=false:=by unfold interactive;rw [F.sc,hk];rfl
 refine aD h λV μ1 e1 h=>wpAny_Expr (hf.goF R I F e1 λv s1 α1 I1 S1 F1 r1=>?_) hi (hs env);refine bV h (λzz zz e2 zz h=>gw h ?_) λh=>ax h λzz e2 h=>gw h (bP (fM e2 r1) λt zq1=>?_)
 ·rw [EB e2 r1];exact d4 α1 I1 S1.up F1 rfl
 ·subst zq1;exact d4 α1 I1 S1.up F1 rfl
def cb(i:Nat)(f:EF):SF:= λρ μ=>bp (f ρ μ) λV μ1=>some (.next,ρ.set i (some V),μ1)
theorem jQ{s2:Shared}(S1:aV O α μ s α1 μ1 s1)(st:gh C cx env O T α1 μ1 ρ' s1 s2):iC C cx env O T α μ s .next ρ' μ1 .next s2:=
 (d4 α1 st.1 (S1.trans st.2.1) st.2.2 rfl)
theorem bE{f:EF}(hf:ab C n cx e f)(hx:aA C cx x i)(hs:∀env,env.scope=cx.scope→swapsWith e (some (.Name x px)) pos.line env=pure false):aQ C n cx (.Assign [.Name x px] e pos) (cb i f):=by
 refine .of ?_;intro A env O T ρ α μ s E fl ρ' μ' R I F h;refine aD h λV μ1 e1 h=>gw h (M9 (hf.goF R I F e1 λv s1 α1 I1 S1 F1 r1=>?_) (hs env F.sc));exact D2 (hx A env O T ρ α1 _ s1 E v V I1 F1 r1) (λzz s2 st=>jQ S1.up st) λzz zz x=>x
end
variable {fl : Fl}
section
theorem FT(I:bl C T α μ s)(hk:∀b o,s.heap.get? b=some o→h'.get? b=some o)(hD:s.heap.get? D=none)(hd:∃o,h'.get? D=some o)(hc:c.isMut=true)(ca:ee h' ((D::T)++ai α μ) D c):
  bI C T α μ s (μ++[c]) (.c μ.length) (.ref D) {s with heap:=h',toks:=tk}:=by
 have h1:∀b∈[D],s.heap.get? b=none:= λb hb=>Aq.mp hb▸hD;have I1:bl C ([D]++T) α μ {s with heap:=h',toks:=tk}:=I.grow hk rfl id h1 λb hb=>Aq.mp hb▸hd;refine dW (HF I1 hc ca λq=>I.mdom _ (ye _ q) hD) λI2 hm hsub=>?_;exact (cL (α++[D]) I2 (⟨⟨[D],rfl,h1⟩,g7.of_keeps hk,λa ha=>(AE.mp (hm▸ha)).elim .inl λh=>.inr (h1 a h),λa o e=>⟨o,hk a o e⟩,λzz zz e=>e⟩) ⟨D,by rw [←I.len];simp,rfl⟩)
theorem Kb{vs:Array Value}(I:bl C T α μ s)(r:aw s.heap (T++ai α μ) vs.toList xs):
  bI C T α μ s (μ++[.live xs]) (.c μ.length) (.ref s.heap.objs.size) {s with heap:=s.heap.push {cls:=.type "list",data:=.seq vs},toks:=tk}:=
 FT I (bc _ _) (bx (DU _)) ⟨_,Dy _ rfl⟩ rfl (aZ vs ⟨_,Dy _ rfl⟩ (r.grow (s':= {s with heap:=s.heap.push {cls:=.type "list",data:=.seq vs}}) (bc _ _) EW))
def n0(fs:List EF):EF:= λρ μ=>bp (e_ fs ρ μ) λVs μ1=>bp (lG Vs μ1) λds μ2=>if ds.length≤sizeLine then some (.c μ2.length,μ2++[.live ds]) else none
theorem ju(h:dg C n cx es fs):ab C n cx (.List es pos) (n0 fs):=by
 refine .of ?_;intro A env O T ρ α μ s E V μ' R I F q;refine aD q λVs μ1 e1 q=>aD q λds μ2 e2 q=>i7 q λhz q=>cm q ?_;refine List_ (D2 (h.run A env O T ρ α μ s E Vs μ1 pos R I F e1) (λvs s1 p=>ct p λα1 I1 S1 r1=>dW (jB I1 r1 e2) λI2 S2 r2=>?_) λzz zz x=>x);exact HQ (bI.trans (S1.trans S2) (Kb (tk:=s1.toks) I2 (by simpa using r2))) (by show vs.toArray.size≤sizeLine;rw [P2,r2.length];exact hz)
theorem bh.letgo(F:bh C cx env O ρ h α M)(hs:Lq Cn h h')(hf:bW h Cn)(hni:¬ (Ei cx env Cn∨Cn∈O)):bh C cx env O ρ h' α M:=
 F.ext (iM hs) (λa ha=>.inr (.inl (Aq.mp ha▸hf))) (λzz zz=>id) (λzz=>.inl) λa ha q=>hni (Aq.mp q▸ha)
variable {rest:List Comprehension} {ifs:List Expr}
def gb(i:Nat)(scope:Scope)(itf:IF)(tf:d5→PyData→Option d5)(cf:CF)(cell:Bool):SF:= λρ μ=>bp (fj scope itf tf cf ρ μ) λacc μ2=>if cell=true then some (.next,ρ.set i (some (.c μ2.length)),μ2++[.live acc]) else some (.next,ρ.set i (some (.d (.list acc))),μ2)
theorem CW(cell:Bool)(I:bl C T α μ s)(F:bh C cx env O ρ s.heap α (T++ai α μ))(I':bl C (D::T) α' μ' s')(S':aV [Cn,D] α μ s α' μ' s')(hD:s.heap.get? D=none)
  (hCn:s.heap.get? Cn=none) (ac:dv D acc (D::T) α' μ' s'):∃α2,bl C T α2 (if cell=true then μ'++[.live acc] else μ') s'∧aV [] α μ s α2 (if cell=true then μ'++[.live acc] else μ') s'∧
   bh C cx env O ρ s'.heap α2 (T++ai α2 (if cell=true then μ'++[.live acc] else μ'))∧bq s'.heap α2 (T++ai α2 (if cell=true then μ'++[.live acc] else μ')) (.ref D) (if cell=true then .c μ'.length else .d (.list acc)):=by
 have S0:aV [] α μ s α' μ' s':=S'.weak λa ha=>.inr ((Cc.mp ha).elim (λq=>q▸hCn) λha=>Aq.mp ha▸hD);have hDT:D∉T:= λq=>I.mdom D (ye _ q) hD;have F':bh C cx env O ρ s'.heap α' ((D::T)++ai α' μ'):=F.growStep (wr:=[D]) I S0 λb hb=>Aq.mp hb▸hD;cases cell with
 |false=>
  refine f_ (sS I' ac hDT) λI2 r2=>?_;exact (d4 α' I2 S0 (F'.mono qP) r2)
 |true=>
  refine dW (CJ I' ac hDT) λI2 hm hsub=>?_;refine (d4 (α'++[D]) I2 (au S0.pre λδ e d=>⟨aZ (δ++[D]) (by rw [e,Eu]) (λa ha=>(AE.mp ha).elim (d a) λq=>Aq.mp q▸hD),S0.ext,λa ha=>(AE.mp (hm▸ha)).elim (S0.mts a) λq=>.inr (Aq.mp q▸hD),S0.dom,S0.gens⟩) ?_ ⟨D,by rw [←I'.len];simp,rfl⟩);exact F'.ext (g7.refl [] _) (iI.nil _ _) (λi a e=>(F9 (BW.mp e).1).trans e) (λa ha=>.inl (hsub a ha)) λzz zz q=>nomatch q
theorem gz{spos:Pos}(cell:Bool)(c:Bu C n cx elt target iter ifs rest scope pos itf tf cf)(hx:aA C cx x i)
  (hs:∀env,env.scope=cx.scope→swapsWith (.ListComp elt (⟨target,iter,ifs,0⟩::rest) scope pos) (some (.Name x px)) spos.line env=pure true):
  aQ C n cx (.Assign [.Name x px] (.ListComp elt (⟨target,iter,ifs,0⟩::rest) scope pos) spos) (gb i scope itf tf cf cell):=by
 refine .of ?_;intro A env O T ρ α μ s E fl ρ' μ' R I F h;refine aD h λacc μ2 e h=>?_;rw [exec_Assign_Name_used _ _ _ _ (hs env F.sc)];refine yS (Lp (yS ?_));refine (?_:wpAny _ A (do let _←comprehension (.ListComp elt (⟨target,iter,ifs,0⟩::rest) scope pos) scope env _ (newList []) false (eval iter env) (some (assign (.Name x px) env))) _ _ s);have key:fl=.next∧ρ'=ρ.set i (some (if cell=true then .c μ2.length else .d (.list acc)))∧μ'=(if cell=true then μ2++[.live acc] else μ2):=by
  cases cell<;>exact gw h (fu rfl rfl rfl)
 refine dW key λzq0 zq1 zq2=>?_;refine bH (F6 zq0) ?_;refine bH (F6 zq1) ?_;refine bH (F6 zq2) ?_;refine yS (D2 (xJ (use:=some (assign (.Name x px) env)) (Q:= λzz s'=>iC C cx env O T α μ s .next (ρ.set i (some (if cell=true then .c μ2.length else .d (.list acc)))) (if cell=true then μ2++[.live acc] else μ2) .next s') c R I F e
  (λD Cn α' s' m I' S' hD hCn hDC ac hn=>?_) _) (λzz s' hq=>ES (ES hq)) λzz zz e=>e)
 refine eD (CW cell I F I' S' hD hCn ac) λα2 I2 S2 F2 r2=>?_;have hfr:∀a,Ei cx env a∨a∈O→a≠Cn:= λa ha q=>(F.frA ha).dom (q▸hCn);refine (?_:wpAny _ A (assign (.Name x px) env (.ref D)) _ _ _);refine QI (D2 (hx A env O T ρ α2 _ s' E _ _ I2 F2 r2) (λzz s3 st=>?_) λzz zz x=>x);have hnO:Cn∉O++ai α2 (if cell=true then μ2++[.live acc] else μ2):= λq=>(AE.mp q).elim (λq=>hfr Cn (.inr q) rfl) λq=>I2.notFrame (db q) (fQ hn);have hn3:=z9 hn st.2.1.ext hnO;refine (aZ m hn3 (λh' hs'=>?_));have hx1:=iM hs';exact (d4 α2 (bl.frames' (tk:=s3.toks) st.1 hx1 (λa ha=>Aq.mp ha▸⟨fQ hn3,I.fresh hCn⟩) λa ha q=>I.mdom a (ye _ q) (Aq.mp ha▸hCn)) (((S2.up).trans st.2.1).moves (wr:=[Cn]) (gi:=[]) (aG.of_heap (tk:=s3.toks) λb o hb e=>(hs'.2 b λq=>hb (Aq.mpr q)).trans e) (λb hb=>Aq.mp hb▸hCn) (λzz q=>nomatch q)) (st.2.2.letgo hs' (fQ hn3) λq=>hfr Cn q rfl) rfl)
theorem fh{line:Nat}(hl:cx.scope.names.lookup x=some .local)(hk:cx.scope.kind=.function)(hp:px.line=pos.line)(hn:scope.names.any (λ(n,k)=>n==x&&(k== .local||k== .cell))=false):
  ∀env,env.scope=cx.scope→swapsWith (.ListComp elt rest scope pos) (some (.Name x px)) line env=pure true:=by
 intro env he
 show (pure (env.blockKind== .function&&env.kindOf x==some .local&&px.line==pos.line&&!(scope.names.any λ(n,k)=>n==x&&(k== .local||k== .cell))):Sem Bool)=pure true
 have h1:env.blockKind=.function:=by unfold Env.blockKind;rw [he,hk];rfl
 have h2:env.kindOf x=some .local:=by unfold Jz;rw [he];exact hl
 rw [h1,h2,hp,hn]
 simp
theorem o_{line:Nat}(hl:cx.scope.names.lookup x=some .cell):
  ∀env,env.scope=cx.scope→swapsWith (.ListComp elt rest scope pos) (some (.Name x px)) line env=pure false:=by
 intro env he
 show (pure (env.blockKind== .function&&env.kindOf x==some .local&&px.line==pos.line&&!(scope.names.any λ(n,k)=>n==x&&(k== .local||k== .cell))):Sem Bool)=pure false
 have h2:env.kindOf x=some .cell:=by unfold Jz;rw [he];exact hl
 rw [h2,show (some Oq==some NameKind.local)=false from rfl]
 simp
end
def ff(f:EF):SF:= λρ μ=>bp (f ρ μ) λV μ1=>some (.ret V,ρ,μ1)
def MK:SF:= λρ μ=>some (.brk,ρ,μ)
def jF(t:TF)(f g:SF):SF:= λρ μ=>bp (t ρ μ) λb μ1=>cond b (f ρ μ1) (g ρ μ1)
noncomputable def Rd(fl:Fl)(a:Option (Fl×d5×List ah))(p:d5×List ah):Option (Fl×d5×List ah):=Fl.rec a (some (.next,p)) (λV=>some (.ret V,p)) fl
def j4(t:TF)(f:SF)(k:Nat):SF:=Nat.rec (λzz zz=>none) (λzz w ρ μ=>bp (t ρ μ) λb μ1=>cond b (bp (f ρ μ1) λfl p=>Rd fl (w p.1 p.2) p) (some (.next,ρ,μ1))) k
theorem iN{f:SF}:j4 t f (k+1) ρ μ=bp (t ρ μ) λb μ1=>cond b (bp (f ρ μ1) λfl p=>Rd fl (j4 t f k p.1 p.2) p) (some (.next,ρ,μ1)):=rfl
open Classical in
def fR(tf:d5→PyData→Option d5)(f e:SF)(g:Option Nat)(xs r:List PyData):SF:=
 r.foldr (λx k ρ μ=>bo (tf ρ x) λρ1=>bp (f ρ1 μ) λfl p=>Rd fl (if cy g xs p.2 then k p.1 p.2 else none) p) e
open Classical in
theorem o8{f e:SF}{g:Option Nat}{r:List PyData}{x:PyData}:fR tf f e g xs (x::r) ρ μ=bo (tf ρ x) λρ1=>bp (f ρ1 μ) λfl p=>Rd fl (if cy g xs p.2 then fR tf f e g xs r p.1 p.2 else none) p:=rfl
def jK(itf:IF)(tf:d5→PyData→Option d5)(f e:SF):SF:= λρ μ=>bp (itf ρ μ) λxs p=>fR tf f e p.1 xs xs ρ p.2
def iu(i:Nat)(f:EF)(o:AV→AV→List ah→Option (AV×List ah)):SF:= λρ μ=>bo (ρ[i]?.bind id) λV=>bp (f ρ μ) λW μ1=>bp (o V W μ1) λr μ2=>some (.next,ρ.set i (some r),μ2)
def qC(C:gK)(n:Nat)(op:Operator)(o:AV→AV→List ah→Option (AV×List ah)):Prop:=∀A T α μ s E a b Va Vb V μ',cR A n→bl C T α μ s→
 bq s.heap α (T++ai α μ) a Va→bq s.heap α (T++ai α μ) b Vb→o Va Vb μ=some (V,μ')→wpAny (model C.prog C.w) A (inplaceOp op a b) (bI C T α μ s μ' V) E s
section
variable {f g:SF}
theorem da{f:EF}(hf:ab C n cx e f):aQ C n cx (.Return (some e) pos) (ff f):=by
 refine .of ?_;intro A env O T ρ α μ s E fl ρ' μ' R I F h;exact aD h λV μ1 e1 h=>gw h (rA (exec_Return_some ..) (yS (Lp (yS (hf.goF R I F e1 λv s1 α1 I1 S1 F1 r1=>ES (jf α1 I1 S1.up F1 v rfl r1))))))
theorem TB:aQ C n cx (.Break pos) MK:=by
 refine .of ?_;intro A env O T ρ α μ s E fl ρ' μ' R I F h;refine gw h ?_;rw [arm_exec_Break];exact yS (Lp (ES (d4 α I (aV.refl _ _ _ _) F rfl)))
theorem gP.go{Q:Bool→Shared→Prop}{r:Bool}(ht:gP C n cx test t)(R:cR A n)(I:bl C T α μ s)(F:bh C cx env O ρ s.heap α (T++ai α μ))(e:t ρ μ=some (r,μ'))
  (k:∀α' s',bl C T α' μ' s'→aV [] α μ s α' μ' s'→Q r s'):wpAny (model C.prog C.w) A (isTrue test env (eval test env)) Q E s:=
 D2 (ht.run A env O T ρ α μ s E r μ' R I F e) (λzz s' p=>iB p λq α' I' S'=>q▸k α' s' I' S') λzz zz x=>x
theorem iC.trans{fw:Flow}(S:aV O α μ s α1 μ1 s1)(p:iC C cx env O T α1 μ1 s1 fl ρ' μ' fw s'):iC C cx env O T α μ s fl ρ' μ' fw s':=
 eD p λα2 I2 S2 F2 r2=>d4 α2 I2 (S.trans S2) F2 r2
theorem g8(ht:gP C n cx test t)(hf:cD C n cx body f)(hg:cD C n cx orelse g):aQ C n cx (.If test body orelse pos) (jF t f g):=by
 refine .of ?_;intro A env O T ρ α μ s E fl ρ' μ' R I F h;refine aD h λb μ1 e1 h=>wpAny_If (ht.go R I F e1 λα1 s1 I1 S1=>?_);cases b with
 |true=>exact D2 (hf.run A env O T ρ α1 μ1 s1 E fl ρ' μ' R I1 (F.step I S1) h) (λr s2 p=>iC.trans S1.up p) λzz zz x=>x
 |false=>exact D2 (hg.run A env O T ρ α1 μ1 s1 E fl ρ' μ' R I1 (F.step I S1) h) (λr s2 p=>iC.trans S1.up p) λzz zz x=>x
theorem N6{X:Type}{o:Option (Option X)}{V:X}(h:o.bind id=some V):o=some (some V):=by
 cases o with
 |none=>exact cv h
 |some o=>exact congrArg some h
theorem nE{f:EF}{o:AV→AV→List ah→Option (AV×List ah)}(hn:cx.names[i]? =some (x,1))(hl:cx.scope.names.lookup x=some .local)(hk:cx.scope.kind=.function)(hf:ab C n cx e f)(ho:qC C n op o):
  aQ C n cx (.AugAssign (.Name x px) op e pos) (iu i f o):=by
 refine .of ?_;intro A env O T ρ α μ s E fl ρ' μ' R I F h;refine ax h λV eV h=>aD h λW μ1 e1 h=>aD h λr μ2 e2 h=>gw h (au F.loc λm hm hq=>?_);refine au (hq i x V hn (N6 eV)) λv e3 rv=>?_;refine wpAny_AugAssign_Name (Ps (by rw [F.sc];exact hk) (by unfold Jz;rw [F.sc];exact hl) hm e3 (hf.go R I F e1 λw s1 α1 I1 S1 r1=>?_));refine D2 (ho A T α1 μ1 s1 E v w V W r μ2 R I1 (rv.step0 S1) r1 e2) (λu s2 p=>ct p λα2 I2 S2 r2=>?_) λzz zz x=>x;have S12:=S1.trans S2;exact D2 (tc i hn hl hk I2 (F.step I S12) r2) (λzz s3 st=>jQ S12.up st) λzz zz x=>x
def FG(fl2 fl:Fl):Prop:=(fl2=.brk∧fl=.next)∨∃V,fl2=.ret V∧fl=.ret V
theorem Q7{fl':Fl}{a:Option (Fl×d5×List ah)}{p:d5×List ah}(h:Rd fl a p=some (fl',ρ',μ'))(k1:fl=.next→a=some (fl',ρ',μ')→G)(k2:FG fl fl'→p=(ρ',μ')→G):G:=by
 cases fl with
 |next=>exact k1 rfl h
 |brk=>exact k2 (.inl ⟨rfl,(congrArg Uj (Fh h)).symm⟩) (congrArg Uk (Fh h))
 |ret V=>exact k2 (.inr ⟨V,rfl,(congrArg Uj (Fh h)).symm⟩) (congrArg Uk (Fh h))
theorem FG.el{fl2:Fl}{fw:Flow}(q:FG fl2 fl)(r:AO h α M fl2 fw)(k1:fl=.next→fw=.brk→G)(k2:∀V v,fl=.ret V→fw=.ret v→bq h α M v V→G):G:=
 q.elim (λz=>by cases z.1;exact k1 z.2 r) λz=>au z λV z1 z2=>by cases z1;exact au r λv e rv=>k2 V v z2 e rv
abbrev WLI(C:gK)(cx:Cx)(env:Env)(O T α₀:List Addr)(μ₀:List ah)(s₀:Shared)(F:Nat→d5→List ah→Prop)(k:Nat)(s:Shared):Prop:=
 ∃ρ α μ,bl C T α μ s∧aV O α₀ μ₀ s₀ α μ s∧bh C cx env O ρ s.heap α (T++ai α μ)∧F k ρ μ
theorem K3(N:Nat)(ht:gP C n cx test t)(hf:cD C n cx body f):aQ C n cx (.While test body [] pos) (j4 t f N):=by
 refine .of ?_;intro A env O T ρ α μ s E fl ρ' μ' R I F h;refine wpAny_While (codeAny_whileLoop (WLI C cx env O T α μ s λk ρ μ=>j4 t f k ρ μ=some (fl,ρ',μ')) (λk s1 p=>?_) N (dA ρ α μ I (aV.refl _ _ _ _) F h));refine dp p λρ1 α1 μ1 I1 S1 F1 h=>?_;cases k with
 |zero=>exact cv h
 |succ k=>
  refine aD (iN.symm.trans h) λb μ2 e1 h=>ht.go R I1 F1 e1 λα2 s2 I2 S2=>?_;cases b with
  |true=>
   refine aD (o:=f ρ1 μ2) (k:= λfl p=>Rd fl (j4 t f k p.1 p.2) p) h λfl2 q e3 h=>hf.go R I2 (F1.step I1 S2) e3 λα3 fw s3 I3 S3 F3 r3=>?_;have S13:=S1.trans (S2.up.trans S3);refine Q7 h (λz h=>?_) λz zz=>?_
   ·subst z
    subst r3;exact zC k (Rx _) q.1 α3 q.2 I3 S13 F3 h
   ·subst zz
    refine z.el r3 (λz z2=>?_) λV v z z2 rv=>?_
    ·subst z;subst z2;exact d4 α3 I3 S13 F3 rfl
    ·subst z;subst z2;exact jf α3 I3 S13 F3 v rfl rv
  |false=>exact gw h (RY (d4 α2 I2 (S1.trans S2.up) (F1.step I1 S2) rfl))
theorem bq.mono(r:bq h α M v V)(hm:∀a∈M',a∈M):bq h α M' v V:=r.ext (g7.refl [] h) (iI.nil _ _) (λzz zz=>id) λa ha=>.inl (hm a ha)
abbrev X7(C:gK)(cx:Cx)(env:Env)(O T α₀:List Addr)(μ₀:List ah)(s₀:Shared)(St:List Addr→xN)(xs:List PyData)(F:List PyData→d5→List ah→Prop)(k:Nat)(s:Shared):Prop:=
 ∃wr i ρ α μ,((∀a∈O,a∉wr)∧(∀a∈T,a∉wr)∧∀b∈wr,s₀.heap.get? b=none)∧k=xs.length+1-i∧i≤xs.length∧bl C (wr++T) α μ s∧bh C cx env O ρ s.heap α ((wr++T)++ai α μ)∧St wr (wr++T) α μ i s∧aV O α₀ μ₀ s₀ α μ s∧F (xs.drop i) ρ μ
theorem X7.mk{F:List PyData→d5→List ah→Prop}
  (h1:∀a∈O,a∉wr) (h2:∀a∈T,a∉wr) (h3:∀b∈wr,s₀.heap.get? b=none) (hk:k=xs.length+1-i) (hi:i≤xs.length) (I:bl C (wr++T) α μ s) (Fr:bh C cx env O ρ s.heap α ((wr++T)++ai α μ)) (st:St wr (wr++T) α μ i s) (S:aV O α₀ μ₀ s₀ α μ s) (h:F (xs.drop i) ρ μ):X7 C cx env O T α₀ μ₀ s₀ St xs F k s:=
 (ie wr i ρ α μ ⟨h1,h2,h3⟩ hk hi I Fr st S h)
theorem FH{g0:Option Nat}{Q:Fin→Shared→Prop}
  (tg:n5 C cx target tup tf) (hb:cD C n cx body f) (R:cR A n) (hn2:2≤n) (W:gZ C it gi xs g0 tup St Mid)
  (hOw:∀a∈O,a∉wr) (hTw:∀a∈T,a∉wr) (hw0:∀b∈wr,s₀.heap.get? b=none) (hg0:∀i∈gi,s₀.gens[i]? =none)
  (I:bl C (wr++T) α μ s) (F:bh C cx env O ρ s.heap α ((wr++T)++ai α μ)) (st:St wr (wr++T) α μ i s) (S:aV O α₀ μ₀ s₀ α μ s)
  (h:fR tf f g g0 xs (xs.drop i) ρ μ=some (fl,ρ',μ'))
  (kD:∀s1,bl C T α μ s1→bh C cx env O ρ s1.heap α (T++ai α μ)→aV O α₀ μ₀ s₀ α μ s1→g ρ μ=some (fl,ρ',μ')→Q (.again (.block orelse env)) s1)
  (kN:∀s4,i<xs.length→X7 C cx env O T α₀ μ₀ s₀ St xs (λr ρ μ=>fR tf f g g0 xs r ρ μ=some (fl,ρ',μ')) (xs.length+1-(i+1)) s4→Q (.again (.forLoop target it body orelse env)) s4)
  (kX:∀fw s4,iC C cx env O T α₀ μ₀ s₀ fl ρ' μ' fw s4→Q (.done fw) s4):wpAny (model C.prog C.w) A ((forTurn target it body orelse env).onRaise (λx=>do noteFrame x env;theTreesLotGoes x)) Q E s:=by
 have hwT:∀b∈wr,b∈wr++T:= λb hb=>ye _ hb;refine wpAny_noted ?_;simp only [forTurn];refine yS (Lp (yS (T3 ?_)));cases ex:xs[i]? with
 |none=>
  rw [My (GZ.mp ex)] at h
  exact W.done (R.mono hn2) I st ex λs1 mv hI=>ES (kD s1 (hI T λa ha=>⟨CR _ ha,hTw a ha⟩) ((F.moves mv hwT).mono mB) (S.moves mv hw0 hg0) h)
 |some x=>
  rw [wE ex] at h
  refine ax h λρ1 e1 h=>aD h λfl2 p e2 hh=>?_;clear h;refine W.item (R.mono hn2) I st ex λv s1 wr1 mv1 hfr I1 ir1 md1=>?_;refine yS (W.go I1 md1 tg.1 ir1 λs2 mv2 I2 ir2 st2=>?_);refine dW (AZ (T:=T) (h0:=s₀.heap) hfr) λhT1 hw1' hn1=>?_;have hwT1:∀b∈wr1,b∈wr1++T:= λb hb=>ye _ hb;have hOw1:∀a∈O,a∉wr1:= λa ha=>hn1 a (hOw a ha) (au ((F.own a ha).1) λo e zz=>⟨o,e⟩);have hTw1:∀a∈T,a∉wr1:= λa ha=>hn1 a (hTw a ha) (I.tdom a (CR _ ha));have hw1:=hw1' hw0 S.dom;have F2:=(F.movesG mv1 hwT hT1).moves mv2 hwT1;have S2:=(S.moves mv1 hw0 hg0).moves mv2 hw1 hg0;refine yS (D2 (tg.2 A env O (wr1++T) ρ α μ s2 _ v x ρ1 R.handled I2 F2 ir2 e1) (λzz s3 sd=>?_) λzz zz x=>x);refine yS (hb.go R sd.1 sd.2.2 e2 λα4 fw s4 I4 S4 F4 r4=>?_);have S24:=sd.2.1.trans S4;refine Q7 hh (λz h=>?_) λz zz=>?_
  ·subst z
   subst r4;have hlt:=(BW.mp ex).1;exact @i7 _ (Ra _) _ _ _ _ h λhgd h=>ES (kN s4 hlt (X7.mk hOw1 hTw1 hw1 rfl hlt I4 F4 (W.frame st2 S24 (λa ha=>.inr (.inl (F2.own a ha).1)) hOw1 (λa ha=>.inl ha) hwT1 I2 I4 hgd) (S2.trans S24) h))
  ·have I5:=I4.sub (T':=T) λa ha=>CR _ ha
   have F5:=F4.mono (M':=T++ai α4 p.2) mB;subst zz;refine z.el r4 (λz z2=>?_) λV v z z2 rv=>?_
   ·subst z;subst z2;exact ES (kX _ s4 (d4 α4 I5 (S2.trans S24) F5 rfl))
   ·subst z;subst z2;exact ES (kX _ s4 (jf α4 I5 (S2.trans S24) F5 v rfl (rv.mono mB)))
theorem GM{g0:Option Nat}{RR:Result→Shared→Prop}
  (tg:n5 C cx target tup tf) (hb:cD C n cx body f) (he:cD C n cx orelse g) (R:cR A n) (hn2:2≤n) (W:gZ C it gi xs g0 tup St Mid)
  (hOw:∀a∈O,a∉wr) (hTw:∀a∈T,a∉wr) (hw0:∀b∈wr,s₀.heap.get? b=none) (hg0:∀i∈gi,s₀.gens[i]? =none)
  (I:bl C (wr++T) α μ s) (F:bh C cx env O ρ s.heap α ((wr++T)++ai α μ)) (st:St wr (wr++T) α μ 0 s) (S:aV O α₀ μ₀ s₀ α μ s)
  (h:fR tf f g g0 xs xs ρ μ=some (fl,ρ',μ')) (hR:∀fw s',iC C cx env O T α₀ μ₀ s₀ fl ρ' μ' fw s'→RR (.ok fw) s'):
  codeAny (model C.prog C.w) A (.forLoop target it body orelse env) RR s:=by
 refine codeAny_loop' rfl (X7 C cx env O T α₀ μ₀ s₀ St xs λr ρ μ=>fR tf f g g0 xs r ρ μ=some (fl,ρ',μ')) (λk s=>?_) (xs.length+1) (X7.mk (i:=0) hOw hTw hw0 rfl (LL _) I F st S h);clear hOw hTw hw0 I F st S h;intro p;refine ku p λwr i ρ α μ q zk hi I F st S h=>?_;refine bH (F6 zk) ?_;refine dW q λhOw hTw hw0=>?_;exact FH (A:=A) tg hb R hn2 W hOw hTw hw0 hg0 I F st S h (λs1 I1 F1 S1 e=>.inr ⟨rfl,codeAny_block (he.go R I1 F1 e λα2 fw s2 I2 S2 F2 r2=>hR fw s2 (d4 α2 I2 (S1.trans S2) F2 r2))⟩) (λs4 hl p=>.inl (gN rfl _ (BQ hl) p)) hR
theorem gp(hn2:2≤n)(hit:mO C n cx iter tup itf)(tg:n5 C cx target tup tf)(hb:cD C n cx body f)(he:cD C n cx orelse g)(hs:∀env x,foldedSetIterable iter env x=pure x):aQ C n cx (.For target iter body orelse pos) (jK itf tf f g):=by
 refine .of ?_;intro A env O T ρ α μ s E fl ρ' μ' R I F h;refine aD h λxs p e1 h=>wpAny_For (D2 (hit.run A env O T ρ α μ s _ xs p.1 p.2 R I F e1) (λx s1 pp=>D2 pp (λit s2 q=>?_) λzz zz x=>x) λzz zz x=>x) (hs env);refine gB q λwr gi St Mid α1 W I1 S1 st hw hg hgd=>?_;exact GM tg hb he R hn2 W (BS F hw) (λa ha q=>I.mdom a (ye _ ha) (hw a q)) hw hg I1 (F.growStep I S1 hw) st S1.up h λfw s' p=>p
end
def dh(scope:Scope):Cx:= {scope:=scope,names:=(scope.names.filter λx=>x.2== .local||x.2== .cell).map λx=>(x.1,if x.2== .local then 1 else 2)}
noncomputable def cF(scope:Scope)(Vs:List AV):d5:=Vs.map some++GW ((dh scope).names.length-Vs.length) none
theorem mS{l:List (Str×NameKind)}{k:NameKind}(hn:(l.map (·.1)).Nodup)(h:(x,k)∈l):l.lookup x=some k:=by
 induction l with
 |nil=>exact nomatch h
 |cons p r ih=>
  have hn':=Ku.mp hn;refine (Cc.mp h).elim (λq=>q▸Pi) λq=>?_;have hxy:(x==p.1)=false:=by simpa using λz:x=p.1=>hn'.1 (by show p.1∈_;rw [←z];exact PI (f:=(·.1)) q)
  refine (Nu).trans ?_;rw [hxy];exact ih hn'.2 q
theorem mj(h:(dh scope).names[i]? =some (x,k)):(k=1∧(x,NameKind.local)∈scope.names)∨(k=2∧(x,Oq)∈scope.names):=by
 unfold dh at h
 simp only [G1,J4] at h
 obtain ⟨⟨y,j⟩,e,q⟩:=h;have hm:=Ow.mp (FW e);simp only [QW] at q
 obtain ⟨rfl,q⟩:=q;simp only [PL,beq_iff_eq] at hm
 rcases hm.2 with z|z
 ·subst z;exact .inl ⟨by simpa using q.symm,hm.1⟩
 ·subst z;exact .inr ⟨by simpa using q.symm,hm.1⟩
theorem jb{β:Type}{l:List (Str×β)}(p:Str×β→Bool)(h:(l.map (·.1)).Nodup):((l.filter p).map (·.1)).Nodup:=
 Tg (List.Sublist.map _ List.filter_sublist) h
theorem qA(hn:(scope.names.map (·.1)).Nodup){l:Nat}(h1:(dh scope).names[i]? =some (x,k))(h2:(dh scope).names[j]? =some (x,l)):i=j:=by
 have hnd:((dh scope).names.map (·.1)).Nodup:=by
  unfold dh;simp only [E_];exact jb _ hn
 have e1:((dh scope).names.map (·.1))[i]? =some x:=by rw [G1,h1];rfl
 have e2:((dh scope).names.map (·.1))[j]? =some x:=by rw [G1,h2];rfl
 refine bP (BW.mp e1) λp q1=>?_;refine bP (BW.mp e2) λp' q2=>?_
 rcases QD i j with h|h|h
 ·exact absurd (q1.trans q2.symm) (M4.mp hnd i j p p' h)
 ·exact h
 ·exact absurd (q2.trans q1.symm) (M4.mp hnd j i p' p h)
theorem qS{names:List (Str×NameKind)}{acc:List (Str×Addr)}(h:∃c,acc.lookup x=some c):∃c,(cellsFrom n names acc).lookup x=some c:=by
 induction names generalizing n acc with
 |nil=>exact h
 |cons p r ih=>
  refine (?_:∃c,(if p.2== .cell then cellsFrom (n+1) r ((p.1,n)::acc) else cellsFrom n r acc).lookup x=some c)
  by_cases q:(p.2== .cell)=true
  ·rw [if_pos q]
   refine ih ?_;rw [Nu];cases x==p.1 with
   |true=>exact ⟨_,rfl⟩
   |false=>exact h
  ·rw [if_neg q];exact ih h
theorem kb{names:List (Str×NameKind)}(n:Nat)(acc:List (Str×Addr))(x:Str)(h:(x,Oq)∈names):∃c,(cellsFrom n names acc).lookup x=some c:=by
 induction names generalizing n acc with
 |nil=>exact nomatch h
 |cons p r ih=>
  refine (?_:∃c,(if p.2== .cell then cellsFrom (n+1) r ((p.1,n)::acc) else cellsFrom n r acc).lookup x=some c);refine (Cc.mp h).elim (λq=>q▸qS ⟨n,Pi⟩) λq=>?_
  by_cases z:(p.2== .cell)=true
  ·rw [if_pos z];exact ih _ _ q
  ·rw [if_neg z];exact ih _ _ q
section
variable {kd:Str→Option NameKind} {ps:List Str} {m:Str→Option Value}
theorem DJ(h:x∉ps):bindL kd (ps.zip vs) m x=m x:=by
 induction ps generalizing vs m with
 |nil=>rfl
 |cons p ps ih=>
  cases vs with
  |nil=>rfl
  |cons v vs=>
   refine (ih λq=>h (D1 _ q)).trans ?_
   by_cases q:kd p=some .local
   ·rw [if_pos q];exact if_neg λq=>h (Cc.mpr (.inl q))
   ·rw [if_neg q]
theorem CO(h:x∉ps):bindC kd (ps.zip vs) m x=m x:=by
 induction ps generalizing vs m with
 |nil=>rfl
 |cons p ps ih=>
  cases vs with
  |nil=>rfl
  |cons v vs=>
   refine (ih λq=>h (D1 _ q)).trans ?_
   by_cases q:kd p=some .local
   ·rw [if_pos q]
   ·rw [if_neg q];exact if_neg λq=>h (Cc.mpr (.inl q))
theorem JT{G:List (Str×Value)→(Str→Option Value)→Prop}(hn:ps.Nodup)(h1:ps[i]? =some x)(h2:vs[i]? =some v)(b:∀ (qs:List Str) (us:List Value) m,x∉qs→G ((x,v)::qs.zip us) m)(k:∀p l m,(∀m,G l m)→G (p::l) m):G (ps.zip vs) m:=by
 induction ps generalizing vs m i with
 |nil=>exact cv h1
 |cons p ps ih=>
  cases vs with
  |nil=>exact cv h2
  |cons w vs=>
   have hn':=Ku.mp hn;cases i with
   |zero=>cases h1;cases h2;exact b ps vs m hn'.1
   |succ i=>exact k _ _ m λm=>ih hn'.2 h1 h2
theorem CP(hn:ps.Nodup)(h1:ps[i]? =some x)(h2:vs[i]? =some v)(hk:kd x=some .local):bindL kd (ps.zip vs) m x=some v:=
 JT (G:= λl m=>bindL kd l m x=some v) hn h1 h2 (λzz zz zz hq=>(DJ hq).trans (by rw [if_pos hk];exact if_pos rfl)) λzz zz zz h=>h _
theorem DW(hn:ps.Nodup)(h1:ps[i]? =some x)(h2:vs[i]? =some v)(hk:kd x≠some .local):bindC kd (ps.zip vs) m x=some v:=
 JT (G:= λl m=>bindC kd l m x=some v) hn h1 h2 (λzz zz zz hq=>(CO hq).trans (by rw [if_neg hk];exact if_pos rfl)) λzz zz zz h=>h _
end
theorem DI(r:f6 h α M vs Vs)(e:Vs[i]? =some V):∃v,vs[i]? =some v∧bq h α M v V:=by
 induction Vs generalizing vs i with
 |nil=>exact cv e
 |cons W Vs ih=>
  cases vs with
  |nil=>exact r.elim
  |cons v vs=>
   cases i with
   |zero=>exact ⟨v,rfl,Fh e▸r.1⟩
   |succ i=>exact ih (vs:=vs) (i:=i) r.2 e
theorem DQ(r:f6 h α M vs Vs):vs.length=Vs.length:=by
 induction Vs generalizing vs with
 |nil=>cases vs with
  |nil=>rfl
  |cons _ _=>exact r.elim
 |cons W Vs ih=>cases vs with
  |nil=>exact r.elim
  |cons _ _=>exact congrArg Vq (ih r.2)
theorem Da(h:(cF scope Vs)[i]? =some (some V)):Vs[i]? =some V:=by
 unfold cF at h
 by_cases hi:i<Vs.length
 ·rw [F9 (by simpa using hi),G1,J4] at h
  exact au h λW e q=>e.trans q
 ·rw [Jo (by simpa using LS hi),Re] at h
  by_cases q:i-(Vs.map some).length< (dh scope).names.length-Vs.length
  ·rw [if_pos q] at h;exact cv (Fh h)
  ·rw [if_neg q] at h;exact cv h
theorem bl.drop{α₁ δ:List Addr}{μ₁ κ:List ah}(I:bl C T (α₁++δ) (μ₁++κ) s)(hl:α₁.length=μ₁.length):bl C T α₁ μ₁ s∧(∀a,a∈T++ai α₁ μ₁→a∈T++ai (α₁++δ) (μ₁++κ)):=by
 have hm:∀a,a∈T++ai α₁ μ₁→a∈T++ai (α₁++δ) (μ₁++κ):= λa ha=>by
  rw [pQ hl];exact (AE.mp ha).elim (ye _) λh=>CR _ (ye _ h)
 exact ⟨⟨I.keep,hl,λi a c h1 h2=>(I.cells i a c ((F9 (BW.mp h1).1).trans h1) ((F9 (BW.mp h2).1).trans h2)).mono hm,(QJ.mp I.nodup).1,λa ha q=>I.apart a ha (ye _ q),I.tdom,I.tnew,λa ha=>I.new a (ye _ ha),I.gens,I.os⟩,hm⟩
noncomputable def Z1(fl:Fl)(μ μ':List ah):Option (AV×List ah):=Fl.rec (some (.d .none,μ'.take μ.length)) none (λV=>oe (vd V) (some ()) (λx zz=>some (.d x,μ'.take μ.length)) (some (V,μ'))) fl
theorem Gs{W:AV}:Z1 (.ret W) μ μ'=oe (vd W) (some ()) (λx zz=>some (.d x,μ'.take μ.length)) (some (W,μ')):=rfl
noncomputable def YO(scope:Scope)(f:SF):a_:= λVs μ=>bp (f (cF scope Vs) μ) λfl p=>Z1 fl μ p.2
noncomputable def cA(k:Nat)(scope:Scope)(f:SF):a_:= λVs μ=>if Vs.length=k then YO scope f Vs μ else none
theorem sT{x:PyData}(I:bl C T α μ s)(I':bl C T α' μ' s')(S:aV [] α μ s α' μ' s')(r:aJ s'.heap (T++ai α' μ') v x):bI C T α μ s (μ'.take μ.length) (.d x) v s':=by
 refine au S.pre λδ e hd=>?_;have hlen:μ.length≤μ'.length:=by rw [←I.len,←I'.len,e];simp
 have hμ:μ'=μ'.take μ.length++μ'.drop μ.length:=(L_ _ _).symm;have hl:α.length=(μ'.take μ.length).length:=by rw [LU,RX hlen];exact I.len
 have I2:bl C T (α++δ) (μ'.take μ.length++μ'.drop μ.length) s':=by rw [←e,←hμ];exact I'
 refine f_ (I2.drop hl) λI3 hm=>?_;rw [←e,←hμ] at hm
 exact (cL α I3 (⟨aZ [] (DO _).symm (λzz h=>nomatch h),S.ext,λa ha=>(AE.mp (hm a (CR _ ha))).elim (λq=>absurd (e▸ye _ (db ha)) (I'.apart a q)) (S.mts a),S.dom,S.gens⟩) (r.mono hm))
section
variable {f:SF}
set_option tactic.hygienic true in
theorem mJ{params:Arguments}(ps:List Str)(ho:C.B.get? fa=some o)(hdata:o.data=.func (O8 name params body scope pm cd doc))(hcd:C.B.CodeRec cd name)
  (hbind:∀args:List Value,args.length=ps.length→bindArgs (O8 name params body scope pm cd doc) ⟨args,[]⟩=pure (ps.zip args)) (hnd:(scope.names.map (·.1)).Nodup) (hps:((dh scope).names.map (·.1)).take ps.length=ps)
  (hco:scope.isCoroutine=false) (hgen:scope.isGenerator=false) (hk:scope.kind=.function)
      (hd:A.depth<recursionLimit) (I:bl C T α μ s) (r:f6 s.heap α (T++ai α μ) vs Vs) (hVl:Vs.length=ps.length)
  (kont:∀L O h₁ tk,s.heap.get? L=none→L∈O→(∀a∈O,s.heap.get? a=none)→bl C T α μ {s with heap:=h₁,toks:=tk}→aV [] α μ s α μ {s with heap:=h₁,toks:=tk}→
   bh C (dh scope) (envOfC name scope L fa cd) O (cF scope Vs) h₁ α (T++ai α μ)→(∀b o,s.heap.get? b=some o→h₁.get? b=some o)→
   wpAny (model C.prog C.w) (A.deeper (envOfC name scope L fa cd)) (execs body (envOfC name scope L fa cd)) (λf s'=>Q (match f with| .ret v=>v|_=>.none) s')
    (λe s'=>wpAny (model C.prog C.w) (A.deeper (envOfC name scope L fa cd)) (leaving (envOfC name scope L fa cd) e) (λzz s''=>E e s'') (λe' s''=>E e' s'') s') {s with heap:=h₁,toks:=tk}):
  wpAny (model C.prog C.w) A (call (.ref fa) vs) Q E s:=by
 have hvl:vs.length=ps.length:=(DQ r).trans hVl;have hpget:∀i x,ps[i]? =some x→∃k,(dh scope).names[i]? =some (x,k):= λi x e=>by
  rw [←hps] at e
  refine bP (BW.mp e) λhi zz=>?_;rw [LU] at hi
  rw [QK (by lia),G1,J4] at e
  refine au e λzp0 e q=>?_;obtain ⟨y,k⟩:=zp0;exact ⟨k,by rw [e];simp at q;rw [q]⟩
 have hplt:∀i x k,(dh scope).names[i]? =some (x,k)→i<ps.length→ps[i]? =some x:= λi x k e hi=>by
  rw [←hps,QK hi,G1,e];rfl
 have hpnd:ps.Nodup:=by
  rw [←hps];refine Tg (List.take_sublist _ _) ?_;unfold dh;simp only [E_];exact jb _ hnd
 have kindL:∀x,(x,NameKind.local)∈scope.names→scope.names.lookup x=some .local:= λx hx=>mS hnd hx;have kindC:∀x,(x,Oq)∈scope.names→scope.names.lookup x=some .cell:= λx hx=>mS hnd hx;refine wpAny_call (call_cells (name:=name) (params:=params) (body:=body) (scope:=scope) (pm:=pm) (cd:=cd) (doc:=doc) hd (I.keep _ _ ho) hdata (C.nolim.keeps I.keep) (hcd.keeps I.keep) (hbind vs hvl) (λx hx=>?_) (λh₁ tk Fr₁ Cl₁=>?_) hco hgen hk)
 ·refine bP (iE (List.of_mem_zip hx).1) λi e=>?_
  refine bP (hpget i x.1 e) λk e'=>?_
  rcases mj e' with ⟨_,q⟩| ⟨_,q⟩
  ·exact .inl (kindL _ q)
  ·refine .inr ⟨kindC _ q,?_⟩
   refine bP (kb (s.heap.objs.size+1) [] x.1 q) λc e=>?_;rw [e];rfl
 ·generalize hL:s.heap.objs.size=L at Fr₁ Cl₁⊢
  have above:∀ {a},L≤a→s.heap.get? a=none:= λ{a} ha=>bx (by rw [hL];exact ha);have hLf:s.heap.get? L=none:=above (DU _);generalize hcs:cellsFrom (L+1) scope.names []=cs at Cl₁
  have csome:∀x,(x,Oq)∈scope.names→∃c,cs.lookup x=some c:= λx hx=>hcs▸kb (L+1) [] x hx;obtain ⟨cad,hcad⟩:∃cad:Nat→Addr,∀i x k,(dh scope).names[i]? =some (x,k)→2≤k→cs.lookup x=some (cad i):=by
   refine ⟨λi=>(((dh scope).names[i]?).bind λp=>cs.lookup p.1).getD 0,λi x k e h2=>?_⟩
   rcases mj e with ⟨rfl,_⟩| ⟨_,q⟩
   ·lia
   ·refine bP (csome x q) λc hc=>?_
    show _=some ((((dh scope).names[i]?).bind λp=>cs.lookup p.1).getD 0)
    rw [e]
    show _=some ((cs.lookup x).getD 0)
    rw [hc];rfl
  have hcf:∀i x k,(dh scope).names[i]? =some (x,k)→2≤k→s.heap.get? (cad i)=none:= λi x k e h2=>above (Nat.le_of_lt (Cl₁.above x (cad i) (mem_of_lookup (hcad i x k e h2))));have I₁:bl C T α μ {s with heap:=h₁,toks:=tk}:=I.keeps Fr₁.keep;have S₁:aV [] α μ s α μ {s with heap:=h₁,toks:=tk}:=aV.keeps Fr₁.keep;have hkL:∀x,(x,NameKind.local)∈scope.names→(envOfC name scope L fa cd).kindOf x=some .local:= λx hx=>kindL x hx;have hkC:∀x,(x,Oq)∈scope.names→(envOfC name scope L fa cd).kindOf x≠some .local:= λx hx q=>by
   have:scope.names.lookup x=some .local:=q
   rw [kindC x hx] at this;cases this
  obtain ⟨O,hO1,hO2⟩:∃O:List Addr,L∈O∧(∀i x,(dh scope).names[i]? =some (x,2)→cad i∈O)∧∀a∈O,a=L∨∃ (i:Nat) (x:Str),(dh scope).names[i]? =some (x,2)∧a=cad i:=by
   refine (cL (L::(zt (dh scope).names.length).filterMap λi=>((dh scope).names[i]?).bind λp=>if p.2=2 then some (cad i) else none) (FI ..) (λi x e=>D1 _ (OA.mpr ⟨i,D3.mpr (BW.mp e).1,by rw [e];rfl⟩)) (λa ha=>?_))
   rcases Cc.mp ha with q|q
   ·exact .inl q
   ·refine au (OA.mp q) λi zz e=>?_
    refine au (K_.mp e) λp e' e=>i7 e λq2 e=>?_;refine cC e ?_;exact .inr (fO i p.1 (by rw [e',←q2]) rfl)
  have hOf:∀a∈O,s.heap.get? a=none:= λa ha=>by
   rcases hO2.2 a ha with rfl| ⟨i,x,e,rfl⟩
   ·exact hLf
   ·exact hcf i x 2 e (DU _)
  have arg:∀i x k V,(dh scope).names[i]? =some (x,k)→(cF scope Vs)[i]? =some (some V)→∃v,ps[i]? =some x∧vs[i]? =some v∧bq h₁ α (T++ai α μ) v V:= λi x k V e1 e2=>by
   have e3:=Da e2;refine au (DI r e3) λv e4 rv=>?_;have hi:i<ps.length:=by rw [←hVl];exact (BW.mp e3).1
   exact (cL v (hplt i x k e1 hi) e4 (rv.step0 S₁))
  have F₁:bh C (dh scope) (envOfC name scope L fa cd) O (cF scope Vs) h₁ α (T++ai α μ):=by
   refine ⟨rfl,rfl,rfl,?_,(aZ _ Fr₁.ns (λi x V e1 e2=>?_)),⟨cad,λi x k e hk=>by show (cellsFrom (L+1) scope.names []).lookup x=some (cad i);rw [hcs];exact hcad i x k e hk,λi x k e hk=>(aZ _ (Cl₁.cell x (cad i) (hcad i x k e hk)) (λV e2=>?_)),hO2.1,λi j x y k l e1 e2 hk hl q=>?_⟩,λa ha=>⟨?_,I.fresh (hOf a ha)⟩,hO1,λa ha q=>?_,λi j x e1 e2=>qA hnd e1 e2⟩
   ·have:ps.length≤(dh scope).names.length:=by
     have:=congrArg NE hps
     rw [LU,xO] at this
     lia
    unfold cF;simp only [be,xO,Lr];lia
   ·refine ct (arg i x 1 V e1 e2) λv p1 p2 rv=>?_
    rcases mj e1 with ⟨_,q⟩| ⟨q,_⟩
    ·exact (aZ v (CP hpnd p1 p2 (hkL x q)) rv)
    ·cases q
   ·refine ct (arg i x k V e e2) λv p1 p2 rv=>?_
    rcases mj e with ⟨q,_⟩| ⟨_,q⟩
    ·lia
    ·exact (aZ v (DW hpnd p1 p2 (hkC x q)) rv)
   ·have m1:=mem_of_lookup (hcad i x k e1 hk)
    have m2:=mem_of_lookup (hcad j y l e2 hl);have hxy:x=y:=name_of_addr Cl₁.apart m1 (q▸m2);subst hxy;exact qA hnd e1 e2
   ·rcases hO2.2 a ha with rfl| ⟨i,x,e,rfl⟩
    ·exact fQ Fr₁.ns
    ·exact gW (Cl₁.cell x (cad i) (hcad i x 2 e (DU _)))
   ·have hM:=I.mdom a ha
    rcases q with (q| ⟨i,x,k,e,hk,q⟩)|q
    ·exact hM (q▸hLf)
    ·have q':cs.lookup x=some a:=by rw [←hcs];exact q
     rw [hcad i x k e hk] at q';cases q'
     exact hM (hcf i x k e hk)
    ·exact hM (hOf a q)
  exact kont L O h₁ tk hLf hO1 hOf I₁ S₁ F₁ Fr₁.keep
theorem YK{params:Arguments}(ps:List Str)(ho:C.B.get? fa=some o)(hdata:o.data=.func (O8 name params body scope pm cd doc))(hcd:C.B.CodeRec cd name)
  (hbind:∀args:List Value,args.length=ps.length→bindArgs (O8 name params body scope pm cd doc) ⟨args,[]⟩=pure (ps.zip args)) (hnd:(scope.names.map (·.1)).Nodup) (hps:((dh scope).names.map (·.1)).take ps.length=ps)
  (hco:scope.isCoroutine=false) (hgen:scope.isGenerator=false) (hk:scope.kind=.function) (hb:cD C n (dh scope) body f):
  eH C (n+1) (.ref fa) (cA ps.length scope f):=by
 intro A T α μ s E vs Vs V μ' R I r h;refine i7 h λhVl h=>aD h λfl p e h=>?_;refine mJ ps ho hdata hcd hbind hnd hps hco hgen hk (by have:=R.depth;unfold recursionLimit;omega) I r hVl λL O h₁ tk hL hLO hOf I₁ S₁ F₁ hk1=>?_;have R':cR (A.deeper (envOfC name scope L fa cd)) n:=⟨by have:=R.depth;show A.depth+1+4*n<600;omega,by have:=R.units;show A.units+3+200*n+400<cLine;omega,R.handled⟩;refine hb.go R' I₁ F₁ e λα' fw s' I' S' F' r'=>?_;have fin:aV [] α μ s α' p.2 s':=((S₁.up (O:=O)).trans S').weak λa ha=>.inr (hOf a ha);cases fl with
 |next=>subst r';exact cm h (sT I I' fin (aJ.none _ _))
 |brk=>exact cv h
 |ret W=>
  refine au r' λv z rv=>?_;subst z;exact bV (Gs.symm.trans h) (λx zz ex zz h=>cm h (sT I I' fin (by rw [iP ex] at rv;exact rv))) λh=>cm h (cL α' I' fin rv)
end
noncomputable def KE:a_:= λVs μ=>bp (l2 Vs) λV W=>oe (jM V) (jM W) (λa b=>some (.d (.int (if b<a then b else a)),μ)) none
theorem GR{W:AV}(r:f6 h α M vs Vs)(e:l2 Vs=some (V,W))(k:∀v w,vs=[v,w]→bq h α M v V→bq h α M w W→G):G:=by
 rw [zX e] at r
 exact bm (Te r) k
theorem Jv:eH C n (.builtin "min") KE:=by
 intro A T α μ s E vs Vs V μ' R I r h;refine aD h λV1 W1 el h=>bV h (λa b ea eb h=>cm h (GR r el λv w z r1 r2=>?_)) λh=>cv h;subst z;refine bP (fM ea r1) λt z1=>bP (fM eb r2) λu z2=>?_;subst z1;subst z2;refine min_two_ints R.handled λh' tk hk=>?_
 by_cases hc:b<a
 ·rw [if_pos hc,if_pos hc];exact bI.of_keeps I hk (aJ.int ..)
 ·rw [if_neg hc,if_neg hc];exact bI.of_keeps I hk (aJ.int ..)
noncomputable def wi:a_:= λVs μ=>bo (l1 Vs) λV=>bo (dc μ V) λxs=>bo (qo xs) λns=>some (.d (.int ns.sum),μ)
theorem Am(h:IntsAre vs ns):∃xs:Array (Int×Tok),vs.toArray=intItems xs∧ns.sum=preSum (numAt xs) xs.size:=by
 refine bP (AllInts.items (h.allInts)) λxs e=>?_;refine (aZ xs e ?_);have h2:=h.numsOf
 have:numsOf (intItems xs).toList=ns:=by rw [←e];simpa using h2
 rw [nums_intItems] at this
 rw [preSum_eq,Fn (by simp),this]
theorem zY:eH C n (.builtin "sum") wi:=by
 intro A T α μ s E vs Vs V μ' R I r h;refine ax h λV1 el h=>ax h λxs e1 h=>ax h λns e2 h=>cm h (gF r el λv z r1=>?_);subst z;refine bm (r1.isList I e1) λa items zq2 hl rr=>?_;subst zq2;refine au (Am (uE rr e2)) λys e3 e4=>?_;refine sum_intListG R.handled (e3▸hl.isList:s.heap.IsList a (intItems ys)) λh' tk t' hk=>?_;rw [←e4];exact bI.of_keeps I hk (aJ.int ..)
theorem bI.list{vs:Array Value}{c:Nat}(I:bl C T α μ s)(hk:∀b o,s.heap.get? b=some o→h'.get? b=some o)
  (hn:h'.get? s.heap.objs.size=some {cls:=.type "list",dict:=none,data:=.seq vs c,slots:= #[]}) (r:aw h' (T++ai α μ) vs.toList xs):bI C T α μ s μ (.d (.list xs)) (.ref s.heap.objs.size) {s with heap:=h',toks:=tk}:=
 bI.of_keeps I hk (aJ.list ⟨c,hn⟩ r (eF I (bx (DU _))))
theorem xy{a:Int}:∀ {n:Nat} {acc:Array Value},ItemsOf (λi v=>∃t,v=.int (a+(i:Int)*1) t) acc n→aw h M acc.toList (fK a n):=by
 intro n acc H;have hl:acc.toList.length=n:=by simpa using H.1
 have hg:∀ (i:Nat) (v:Value),acc.toList[i]? =some v→∃t,v=Value.int (a+(i:Int)) t:= λi v e=>by
  refine bP (H.2 i v (by rw [←Lc];exact e)) λt e'=>?_;exact ⟨t,by rw [e',show a+(i:Int)*1=a+(i:Int) by lia]⟩
 clear H
 revert hl hg
 generalize acc.toList=l;intro hl hg
 induction l generalizing a n with
 |nil=>simp at hl;refine bH hl ?_;exact aw.nil _ _
 |cons v l ih=>
  cases n with
  |zero=>simp at hl
  |succ n=>
   refine bP (hg 0 v (by simp)) λt zq1=>?_;refine bH (F6 zq1) ?_;refine .ccons ?_ (ih (by simpa using hl) λi v e=>?_)
   ·rw [show a+((0:Nat):Int)=a by lia];exact aJ.int ..
   ·refine bP (hg (i+1) v (by simpa using e)) λt e'=>?_
    exact ⟨t,by rw [e'];congr 1;push_cast;lia⟩
noncomputable def mo:a_:= λVs μ=>bo (l1 Vs) λV=>oe (XX V) (some ()) (λp zz=>if KB p.1 p.2 1=true∧(p.2-p.1).toNat≤2^24 then some (.d (.list (fK p.1 (p.2-p.1).toNat)),μ) else none) (bo (dc μ V) λxs=>if xs.length≤sizeLine then some (.d (.list xs),μ) else none)
theorem yI(a b:Int):Mi a b 1=(b-a).toNat:=by
 unfold Mi;simp only [show (1:Int)>0 by decide,if_true]
 split<;>lia
theorem tT:eH C n (.type "list") mo:=by
 intro A T α μ s E vs Vs V μ' R I r h;refine ax h λV1 el h=>gF r el λv z r1=>?_;subst z;refine bV h (λp zz e1 zz h=>i7 h λhc h=>cm h ?_) λh=>ax h λxs e1 h=>i7 h λhz h=>cm h ?_
 ·rw [SC e1] at r1
  refine q9 r1 λra t u w zq4 hr hM=>?_;subst zq4;exact call_list_range R.handled hr hc.1 (n:=(p.2-p.1).toNat) (yI _ _) hc.2 λh' tk acc' c' hk hn hit=>bI.list I hk hn (xy hit)
 ·refine bm (r1.isList I e1) λa items zq2 zp3 rr=>bP zp3 λk hl=>?_
  subst zq2;refine call_list_seq a (.inl rfl) hl rfl rfl (λh' c' hk hn=>?_) (by have:=rr.length;simp at this;lia);exact bI.list (tk:=s.toks) I hk hn (rr.keeps hk)
section
noncomputable abbrev Cf:AV→AV→List ah→Option (AV×List ah):=aS λx y=>some (x+y)
noncomputable abbrev B3:AV→AV→List ah→Option (AV×List ah):=aS λx y=>some (x-y)
noncomputable abbrev C6:AV→AV→List ah→Option (AV×List ah):=aS λx y=>some (Ja x y)
noncomputable abbrev SU:AV→AV→List ah→Option (AV×List ah):=aS λx y=>some (Mj x y)
noncomputable abbrev qw:AV→AV→List ah→Option (AV×List ah):=aS λa b=>if 0≤b∧(Hp a:Int)+b≤2^27 then some (a*2^b.toNat) else none
theorem qT{o:Int→Int→Option Int}(h:∀ (A:Around) (s:Shared) (E:Value→Shared→Prop) (x y z:Int) (t u:Tok) (Q:Value→Shared→Prop),o x y=some z→Q (.int z s.toks) {s with toks:=s.toks+1}→wpAny (model C.prog C.w) A (inplaceOp op (.int x t) (.int y u)) Q E s):qC C n op (aS o):=by
 intro A T α μ s E a b Va Vb V μ' R I ra rb q;refine ax q λx ea q=>ax q λy eb q=>ax q λz e q=>cm q (bP (fM ea ra) λt z1=>bP (fM eb rb) λu z2=>?_);subst z1;subst z2;exact h A s E x y z t u _ e (bI.tok I (aJ.int ..))
theorem Nm:qC C n .Add Cf:=qT λA s E x y z t u Q e=>cC e λq=>wpAny_iadd_int q
theorem Nv:qC C n .Sub B3:=qT λA s E x y z t u Q e=>cC e λq=>isub_int q
theorem MT:qC C n .BitXor C6:=qT λA s E x y z t u Q e=>cC e λq=>ixor_int q
theorem Vl:qC C n .BitOr SU:=qT λA s E x y z t u Q e=>cC e λq=>ior_int q
theorem AS:qC C n .LShift qw:=qT λA s E x y z t u Q e=>i7 e λhc e=>cC e λq=>ilshift_int hc.1 hc.2 q
end
def dw(f:EF)(fs:List EF)(spec:a_):EF:= λρ μ=>bp (f ρ μ) λV μ1=>bo (lS V) λx=>bp (e_ fs ρ μ1) λVs μ2=>spec (.d (.str x)::Vs) μ2
section
theorem fW{o:Expr}{id:String}(hm:nq o name apos (e::es) pos)(slot:Slot "str" name id)(hty:typeOf (.builtin id)=pure (.type "method_descriptor"))(hok:eH C n (.builtin id) spec)
  (hf:ab C n cx o f) (ha:dg C n cx (e::es) fs) (hs:∀env,starEach (e::es) env=(false,eval e env)::starEach es env) (hp:∀env,(backTo pos (starEach (e::es) env)).any (·.1)=false):
  ab C n cx (.Call (.Attribute o name apos) (e::es) [] pos) (dw f fs spec):=by
 refine .of ?_;intro A env O T ρ α μ s E V μ' R I F h;refine aD h λW μ1 e1 h=>ax h λx ex h=>aD h λVs μ2 e2 h=>?_;refine Q_ (hf.goF R I F e1 λv s1 α1 I1 S1 F1 r1=>bP (j0 ex r1) λt z=>?_) (hm env);subst z;refine QL rfl RD slot hty (λa e=>nomatch e) ?_;refine bf id _ _ _ _ _ _ _ _ (hp env) (ef (hs env) ha R I1 F1 e2 λvs s2 α2 I2 S2 r2=>?_);exact D2 (hok A T α2 μ2 s2 E (.str x t::vs) (.d (.str x)::Vs) V μ' R I2 ⟨aJ.str ..,r2⟩ h) (λv s3 p=>bI.trans (S1.trans S2) p) λzz zz x=>x
def jI(tbl:Str→Option Int)(g:EF):EF:= λρ μ=>bp (g ρ μ) λV μ1=>bo (lS V) λx=>bo (tbl x) λi=>some (.d (.int i),μ1)
theorem jR{K:Type} [DecidableEq K] {knd:KeyKind prog w K}{f:K→Option Value}(hm:h.MapOf knd a f)(hk:∀b o,h.get? b=some o→h'.get? b=some o):h'.MapOf knd a f:=
 let ⟨o,es,ep,ho,r⟩:=hm;⟨o,es,ep,hk _ _ ho,r⟩
theorem PJ{d:Addr}{m:Str→Option Value}{tbl:Str→Option Int}(hg:C.mg x=some (.ref d))(hm:C.B.MapOf (strKind C.prog C.w) d m)(ht:∀y i,tbl y=some i→∃t,m y=some (.int i t))(hf:ab C n cx e g)
  (hs:∀o i,subscripted e false o i=operate [o,i] (getItem o i))
  (hl:cx.scope.names.lookup x=some .globalImplicit) (hk:cx.scope.kind=.function) (hdb:(x==("__debug__":Str))=false):ab C n cx (.Subscript (.Name x xp) e pos) (jI tbl g):=by
 refine .of ?_;intro A env O T ρ α μ s E V μ' R I F h;refine aD h λW μ1 e1 h=>ax h λy ey h=>ax h λi e2 h=>cm h (Tn ?_);refine Fe (by rw [F.sc];exact hk) (by unfold Jz;rw [F.sc];exact hl) (Ln (by rw [F.gl];exact C.g.keeps I.keep) hg ?_) hdb;refine hf.go R I F e1 λv s1 α1 I1 S1 r1=>bP (j0 ey r1) λt z=>bP (ht y i e2) λu hu=>?_;subst z;have hm':=jR hm I1.keep;exact Sj (T:="dict") hm'.typeIs slot_dict_getitem.lookup (wpAny_getItem_of (k:=y) (strKind_is ..) hm' hu (bI.trans S1 (bI.tok I1 (aJ.int ..)))) (hs _ _)
def sY(tbl:Int→Option Str)(f g:EF):EF:= λρ μ=>bp (f ρ μ) λV μ1=>bo (jM V) λk=>bp (g ρ μ1) λW μ2=>bo (lS W) λx=>some (.d (.str ((tbl k).getD x)),μ2)
theorem Np{d:Addr}{m:Int→Option Value}{tbl:Int→Option Str}(hmeth:nq (.Name x xp) "get" apos [e1,e2] pos)(hg:C.mg x=some (.ref d))(hm:C.B.MapOf (intKind C.prog C.w) d m)
  (ht:∀k,(∃y t,tbl k=some y∧m k=some (.str y t))∨(tbl k=none∧m k=none)) (hd:(d==sysModules)=false) (hf:ab C n cx e1 f) (hg2:ab C n cx e2 g)
  (hs:∀env,backTo pos (starEach [e1,e2] env)=[(false,eval e1 env),(false,eval e2 env)])
  (hl:cx.scope.names.lookup x=some .globalImplicit) (hk:cx.scope.kind=.function) (hdb:(x==("__debug__":Str))=false):ab C n cx (.Call (.Attribute (.Name x xp) "get" apos) [e1,e2] [] pos) (sY tbl f g):=by
 refine .of ?_;intro A env O T ρ α μ s E V μ' R I F h;refine aD h λV1 μ1 q1 h=>ax h λk ek h=>aD h λV2 μ2 q2 h=>ax h λy ey h=>cm h (Q_ ?_ (hmeth env));refine Fe (by rw [F.sc];exact hk) (by unfold Jz;rw [F.sc];exact hl) (Ln (by rw [F.gl];exact C.g.keeps I.keep) hg ?_) hdb;have hm0:=jR hm I.keep;refine QL hm0.typeIs PySem.F.plainAttrs_dict PySem.F.slot_dict_get PySem.F.type_dict_get hm0.noDict ?_;rw [hs env];refine wpAny_dict_get2 (knd:=intKind C.prog C.w) hd (hf.goF R I F q1 λv s1 α1 I1 S1 F1 r1=>bP (fM ek r1) λt z=>hg2.go R I1 F1 q2 λw s2 α2 I2 S2 r2=>bP (j0 ey r2) λu z2=>?_);subst z;subst z2;refine (dy k m (intKind_is ..) (jR hm I2.keep) (bI.trans (S1.trans S2) (bI.tok I2 ?_)));exact (ht k).elim (λz=>jS z λz t' h1 h2=>by rw [h1,h2];exact aJ.str ..) λz=>by rw [z.1,z.2];exact aJ.str ..
theorem aa0{T:String}(hg:C.mg x=none)(hb:bootBuiltins x=some (.type T))(hx:x≠"__name__")(hl:cx.scope.names.lookup x=some .globalImplicit)(hk:cx.scope.kind=.function)(hd:(x==("__debug__":Str))=false):
  ab C n cx (.Name x pos) (λzz μ=>some (.ty T,μ)):=by
 refine .of ?_;intro A env O T' ρ α μ s E V μ' R I F h;refine cm h ?_;exact Fe (by rw [F.sc];exact hk) (by unfold Jz;rw [F.sc];exact hl) (Lu (by rw [F.gl];exact C.g.keeps I.keep) hg (by rw [F.bn];exact C.b.keeps I.keep) ((C.bt x hx).trans hb) (bI.same I rfl)) hd
def nz(f g:EF)(sep:Str):TF:= λρ μ=>bp (f ρ μ) λV μ1=>bo (lS V) λw=>bp (g ρ μ1) λW μ2=>bo (lS W) λx=>
 if x.length≤sizeLine∧(Ob x (Lz x sep 0 x.length (x.length+1)) sep.length).length≤sizeLine∧La ((PM x sep).map .str)=true∧U3 w=true then some (((PM x sep).map Lv).any λy=>Mx y (.str w),μ2) else none
theorem rM:∀ (l:List (Str×Tok)),∃as,ReadsAll h (strValues l) (l.map λp=>.str p.1) as
 | []=>⟨_,.nil⟩
 | (x,t)::r=>let ⟨_,q⟩:=rM r;⟨_,.cons (.str x t) q⟩
theorem Kd{o:Expr}{sep:Str}{cpos spos:Pos}(hmeth:nq o "split" apos [.Constant (.str sep) k cpos] pos)(hf:ab C n cx e1 f)(hg:ab C n cx o g)(hsep:(sep.length==0)=false):
  gP C n cx (.Compare e1 [.In] [.Call (.Attribute o "split" apos) [.Constant (.str sep) k cpos] [] pos] spos) (nz f g sep):=by
 refine .of ?_;intro A env O T ρ α μ s E b μ' R I F h;refine aD h λV1 μ1 q1 h=>ax h λw ew h=>aD h λV2 μ2 q2 h=>ax h λx ex h=>i7 h λhz h=>cm h ?_;refine RO (hf.goF R I F q1 λv s1 α1 I1 S1 F1 r1=>?_) (by with_unfolding_all rfl);refine Q_ (hg.goF R I1 F1 q2 λv2 s2 α2 I2 S2 F2 r2=>bP (j0 ex r2) λt z=>bP (j0 ew (r1.step0 S2)) λt1 z1=>?_) (hmeth env);subst z;subst z1;refine QL rfl RD PySem.F.slot_str_split PySem.F.type_str_split (λa e=>nomatch e) ?_;have es1:dg C n cx [.Constant (.str sep) k cpos] [λzz μ=>some (.d (.str sep),μ)]:=dG (by intro env;rfl) H_ ae;refine bf "str.split" _ _ _ _ _ _ _ _ rfl (ef (by rfl) es1 R I2 F2 (show e_ [λzz μ=>some (.d (.str sep),μ)] ρ μ2=some ([.d (.str sep)],μ2) from rfl) λvs s3 α3 I3 S3 r3=>?_);refine au (Jw r3) λv3 z r4=>bP (aJ.of_str r4) λu z1=>?_;subst z;subst z1;refine SCH.split1 (P:= λh'=>∀b o,s3.heap.get? b=some o→h'.get? b=some o) (λh ob hp b o e=>C5 _ (hp b o e)) (λzz zz e=>e) hsep (λD l h' kk hl hk hD=>?_) hz.1 hz.2.1;refine zb hD λod hod hcd nd hdd=>bP (rM (h:=h') l) λas ra=>?_;have hxs:(l.map λp=>Lv p.1)=(PM x sep).map Lv:=by rw [←hl,E_];rfl
 have rc:Reads h' (.ref D) (.list ((PM x sep).map Lv)) _:=.list hod hcd hdd (by rw [←hxs];simpa using ra);refine Qg (s:= {s3 with heap:=h',toks:=kk}) rc (.str w t1) hz.2.2.1 (by simpa [Qm] using hz.2.2.2) (by have:=R.units;have h9:(Lv w).depth≤1:=(by simp [U4]);lia) ?_;exact P1 (gN rfl α3 (I3.keeps hk) (S1.trans (S2.trans (S3.trans (aV.keeps hk)))))
end
noncomputable def Qy:a_:= λVs μ=>bo (l1 Vs) λV=>bo (Yd V) λxs=>some (.c μ.length,μ++[.iter xs])
section
theorem Gr(I:bl C T α μ s)(r:aJ s.heap (T++ai α μ) (.ref a) (.list xs)):
  bI C T α μ s (μ++[.iter xs]) (.c μ.length) (.ref s.heap.objs.size) {s with heap:=s.heap.push {cls:=.type "list_iterator",data:=.fields #[.ref a,.int 0 0]}}:=by
 refine kQ r.of_list λzz items e1 hp rr haM=>?_;cases e1;have hw:∀b∈[s.heap.objs.size],s.heap.get? b=none:=EW;exact FT (tk:=s.toks) I (bc _ _) (bx (DU _)) ⟨_,Dy _ rfl⟩ rfl (.inl (i4 a 0 items (cL _ (Dy _ rfl) rfl rfl) (eQ hp (W:=[]) (g7.of_keeps (bc _ _)) (λq=>nomatch q)) (λq=>(ly hw a q).elim haM (fX (fG hp))) (LL _) (rr.grow (s':= {s with heap:=s.heap.push {cls:=.type "list_iterator",data:=.fields #[.ref a,.int 0 0]}}) (bc _ _) hw)))
theorem Mk:eH C n (.builtin "iter") Qy:=by
 intro A T α μ s E vs Vs V μ' R I r h;refine ax h λW el h=>ax h λxs ex h=>cm h (gF r el λv z r1=>?_);subst z;have r2:=PH ex r1;refine bm r2.of_list λa items zq2 hp zz=>?_;subst zq2;refine PT (by decide+kernel) (by decide+kernel) kdk_entry_iter (kdk_args_iter _) ?_;unfold Builtin.«iter»;refine yS (m:=someArgs "iter" 1 2 _) (Mf (a:=[LH a]) (by first|rfl|kernel_rfl!) ?_);refine (?_:wpAny _ _ (pyIter (.ref a)>>=_) _ _ _);exact yS (M8 hp.isList (ES (aZ _ rfl (Gr I r2))))
noncomputable def Sh:ah→Option (List PyData)
 | .iter xs=>some xs
 |_=>none
theorem ac7(h:Sh c=some xs):c=.iter xs:=by
 cases c with
 |iter _=>exact congrArg _ (Fh h)
 |_=>exact cv h
noncomputable def uncons{X:Type}(l:List X):Option (X×List X):=List.rec none (λx r zz=>some (x,r)) l
theorem Jd{X:Type}{l r:List X}{x:X}(h:uncons l=some (x,r)):l=x::r:=by
 cases l with
 |nil=>exact cv h
 |cons y t=>cases h;rfl
noncomputable def jX:a_:= λVs μ=>bo (l1 Vs) λV=>bo (Fo V) λi=>bo (μ[i]?.bind Sh) λxs=>bp (uncons xs) λx r=>some (.d x,μ.set i (.iter r))
theorem uV{o:Option ah}(h:o.bind Sh=some xs):o=some (.iter xs):=by
 cases o with
 |none=>exact cv h
 |some c=>exact congrArg some (ac7 h)
theorem mM{it l:Addr}{x:Value}{Q:Option Value→Shared→Prop}(hit:s.heap.IsListIter it l i)(hl:s.heap.IsList l items)(hx:items[i]? =some x)
  (hQ:∀h',h'.IsListIter it l (i+1)→Lq it s.heap h'→Q (some x) {s with heap:=h'}):wpAny (model C.prog C.w) A (callSpecial? (.ref it) (Ks "__next__")) Q E s:=by
 refine ct (id hit) λo ho hc hd=>?_;refine zb hl λol hol zz nl hdl=>?_;refine Ju (name:=Ks "__next__") hit.typeIs Lf
  (Ll Lf hit.typeIs PV ?_ (Qd _))
 refine (?_:wpAny _ _ (field (.ref it) 0>>=_) _ _ s);refine yS (L2 ho hd (x:=.ref l) rfl ?_);refine (?_:wpAny _ _ (if (LH l==Lo)=true then _ else _) _ _ s);rw [if_neg (show ¬ ((LH l==Lo)=true) from Hm)];refine (?_:wpAny _ _ (field (.ref it) 1>>=_) _ _ s);refine yS (L2 ho hd (x:=.int i 0) rfl ?_);refine (?_:wpAny _ _ (seqItems? (.ref l)>>=_) _ _ s);refine yS (Nd hol hdl ?_);simp only [Fq,hx];refine yS (P8 ho hd (by simp) (ES (aZ x rfl (hQ _ ?_ (L9 ..)))));exact (cL _ (Fw _ ho (M0 (Lg hd _))) ((Tw ..).trans hc) (by
  rw [Lg hd];simp [rawInt]))
theorem By:eH C n (.builtin "next") jX:=by
 intro A T α μ s E vs Vs V μ' R I r h;refine ax h λW el h=>ax h λi ei h=>ax h λxs e h=>aD h λx rst eu h=>cm h (gF r el λv z r1=>?_);subst z;refine au (Kj ei r1) λa ha z=>?_;subst z;have e:=uV e;rw [Jd eu] at e
 refine (I.cells i a _ ha e).elim (λz=>i8 z λl k items hit hp hl hk rr=>?_) λz=>nomatch z.1;refine PT (by decide+kernel) (by decide+kernel) kdk_entry_next (kdk_args_next _) ?_;unfold Builtin.«next»
 refine yS (m:=someArgs "next" 1 2 _) (Mf (a:=[LH a]) (by first|rfl|kernel_rfl!) ?_);dsimp only;refine yS (LG (name:=Ks "__next__") hit.typeIs Lf.lookup ?_);refine wpAny_ite_split (λhab=>absurd hab (by decide)) (λzz=>?_);refine io rr λv us hd rv rs=>?_;have hk':k<items.toList.length:=Nat.lt_of_not_le λq=>by rw [My q] at hd;exact nomatch hd
 have hd2:=(Ni hk').symm.trans hd;have e2:items[k]? =some v:=by rw [←Lc,Ft hk'];exact congrArg some (UV hd2).1
 refine yS (mM (C:=C) hit hp.isList e2 λh' hit' hs=>ES (aZ _ rfl ?_));have hla:l≠a:= λq=>hl (q▸CR _ (pZ ha e rfl));refine f_ (I.setCell (c:=.iter rst) (h':=h') (tk:=s.toks) ha e rfl rfl (λb o q e=>(hs.2 b q).trans e) (au hit' λo z zz=>⟨o,z⟩) λkd=>.inl (i4 l (k+1) items hit' (bP hp λm z=>⟨m,(hs.2 l hla).trans z⟩) hl (Nat.succ_le_of_lt (by simpa using hk')) (kd ((UV hd2).2▸rs)))) λI' S'=>?_;exact cL α I' S' (aJ.step0 (T:=T) rv S')
end
section
theorem EC{it t:Addr}(hne:t≠it)(n i:Nat)(s:Shared)(Q:List Value→Shared→Prop)(hit:s.heap.IsListIter it t i)(ht:s.heap.IsList t items)(hle:i+n≤items.size)
  (hQ:∀h',h'.IsListIter it t (i+n)→Lq it s.heap h'→Q ((items.toList.drop i).take n) {s with heap:=h'}):wpAny (model prog w) A (draw (.ref it) n) Q E s:=by
 induction n generalizing i s Q with
 |zero=>
  refine (?_:wpAny _ _ (pure []) Q E s);exact ES (by simpa using hQ s.heap hit (Lq.refl ..))
 |succ n ih=>
  have hlt:i<items.size:=On (Nat.lt_add_of_pos_right (Nat.succ_pos n)) hle;refine (?_:wpAny _ _ (pyNext (.ref it)>>=_) Q E s);refine yS (RC hit ht (x:=items[i]) (Nk hlt) λh₁ hit₁ hs₁=>?_);have e:i+(n+1)=i+1+n:=by lia
  refine yS (Ld (ih (i+1) _ _ hit₁ (ht.extBut hs₁.extBut hne) (e▸hle) λh₂ hit₂ hs₂=>ES ?_));have z:=hQ h₂ (e▸hit₂) (hs₁.trans hs₂);rw [show items.toList.drop i=items[i]::items.toList.drop (i+1) by simp [Ni,hlt],List.take_succ_cons] at z
  exact z
theorem m_{t:Addr}{Q:List Value→Shared→Prop}(hh:A.handled=none)(ht:s.heap.IsList t items)
  (hQ:∀h',P4 s.heap.objs.size s.heap h'→Q items.toList {s with heap:=h'}):wpAny (model prog w) A (unpackItems (.ref t) items.size none) Q E s:=by
 have hlt:t≠s.heap.objs.size:=by refine au ht λo ho zz=>?_;exact LY (Me ho)
 unfold unpackItems;refine yS ?_
 ·unfold notIterableAtAll
  refine yS (LG ht.typeIs slot_list_iter.lookup ?_);refine ES ?_;simp only [OB,if_false];refine yS (Ld (M8 ht ?_));refine yS (Ld (EC hlt items.size 0 _ _ (cL _ (Dy _ rfl) rfl rfl) (ht.push _) (by lia) λh₁ hit₁ hs₁=>?_));have hall:List.take items.size (Th 0 items.toList)=items.toList:=by
   rw [SG];exact Fn (by simp)
  rw [hall];rw [if_neg (by simp)];have ht₁:h₁.IsList t items:=(ht.push _).extBut hs₁.extBut hlt;refine yS (Ld (PE hh hit₁ ht₁ (by simp) λh₂ he₂=>?_));simp only [Option.isSome_none,OB,if_false];refine ES (hQ h₂ λb o hb e=>he₂ b o hb (hs₁.extBut b o hb (C5 _ e)))
theorem mn{elts:List Expr}{x1}{t:Addr}{Q:Unit→Shared→Prop}(hh:A.handled=none)(ht:s.heap.IsList t items)
  (hn:(assignEach elts env).length=items.size) (hstar:(assignEach elts env).findIdx? (·.1)=none)
  (h:∀h',P4 s.heap.objs.size s.heap h'→wpAny (model prog w) A (assignInOrder ((assignEach elts env).map (·.2)) items.toList) Q E {s with heap:=h'}):
  wpAny (model prog w) A (assign (.Tuple elts x1 pos) env (.ref t)) Q E s:=by
 rw [PyProof.Rows.assign_Tuple];refine yS (Lp ?_);unfold unpack;rw [hn,hstar];exact yS (Ld (m_ hh ht h))
end
def VY(i j:Nat)(f:EF):SF:= λρ μ=>bp (f ρ μ) λV μ1=>bo (Yd V) λds=>bp (l2 ds) λa b=>some (.next,(ρ.set i (some (.d a))).set j (some (.d b)),μ1)
def xu(i j:Nat)(f:EF):SF:= λρ μ=>bp (f ρ μ) λV μ1=>bo (Hx V) λds=>bp (l2 ds) λa b=>some (.next,(ρ.set j (some (.d b))).set i (some (.d a)),μ1)
section
theorem oy{a b:PyData}(r:aw h M items.toList [a,b])(k:∀v1 v2,items= #[v1,v2]→aJ h M v1 a→aJ h M v2 b→G):G:=
 io r λv1 us e r1 r=>io r λv2 us2 e2 r2 r=>k v1 v2 (by rw [←Array.toArray_toList (xs:=items),e,e2,k_ r]) r1 r2
theorem T6{y:Str}(hf:ab C n cx e f)(hx:aA C cx x i)(hy:aA C cx y j)
  (hs:∀env,swapsWithSole [.Tuple [.Name x px,.Name y py] kk tp] e pos.line env=pure false) (hw:∀env,swappedStores [.Tuple [.Name x px,.Name y py] kk tp] e env=pure none):
  aQ C n cx (.Assign [.Tuple [.Name x px,.Name y py] kk tp] e pos) (VY i j f):=by
 refine .of ?_;intro A env O T ρ α μ s E fl ρ' μ' R I F h;refine aD h λV μ1 e1 h=>ax h λds ed h=>aD h λa b el h=>gw h (Assign_Tuple (hf.goF R I F e1 λv s1 α1 I1 S1 F1 r1=>?_) (hs env) (hw env));refine kQ (PH ed r1).of_list λl items zq2 hp rr zz=>?_;subst zq2;rw [zX el] at rr
 refine oy rr λv1 v2 z r1 r2=>?_;subst z;refine mn R.handled hp.isList rfl rfl λh' he=>?_;have hk:=g_ he;exact D2 (ft hx (I1.keeps (tk:=s1.toks) hk) (F1.keeps I1 hk) (aV.keeps (tk:=s1.toks) hk).up (rr.keeps hk) λzz zz I F S r=>ft hy I F S r λzz zz I F S r=>kH I F S r) (λzz zz st=>jQ S1.up st) λzz zz x=>x
theorem AN{y:Str}(hf:ab C n cx e f)(hx:aA C cx x i)(hy:aA C cx y j)
  (hs:∀env,swapsWithSole [.Tuple [.Name x px,.Name y py] kk tp] e pos.line env=pure false) (hw:∀env,env.scope=cx.scope→swappedStores [.Tuple [.Name x px,.Name y py] kk tp] e env=pure (some [x,y])):
  aQ C n cx (.Assign [.Tuple [.Name x px,.Name y py] kk tp] e pos) (xu i j f):=by
 refine .of ?_;intro A env O T ρ α μ s E fl ρ' μ' R I F h;refine aD h λV μ1 e1 h=>ax h λds ed h=>aD h λa b el h=>gw h (Assign_Tuple_swapped (hf.goF R I F e1 λv s1 α1 I1 S1 F1 r1=>?_) (hs env) (hw env F.sc));refine bm (HT ed r1) λl items zq2 hp rr=>?_;subst zq2;rw [zX el] at rr
 refine oy rr λv1 v2 z r1 r2=>?_;subst z;refine (?_:wpAny _ A (unpackItems (.ref l) (#[v1,v2]:Array Value).size none) _ _ _);refine PyProof.Rows.unpackItems_tuple R.handled hp λh' he=>?_;have hk:=g_ he
 show wpAny _ A (assignInOrder [λv=>bindName env y v,λv=>bindName env x v] [v2,v1]) _ _ _
 exact D2 (j_ (λzz zz h=>wpAny_bindName h) hy (I1.keeps (tk:=s1.toks) hk) (F1.keeps I1 hk) (aV.keeps (tk:=s1.toks) hk).up (.cons (r2.keeps hk) (.cons (r1.keeps hk) (aw.nil _ _))) λzz zz I F S r=>j_ (λzz zz h=>wpAny_bindName h) hx I F S r λzz zz I F S r=>kH I F S r) (λzz zz st=>jQ S1.up st) λzz zz x=>x
theorem sj{l:Addr}{k:Int}{t:Tok}{Q:Unit→Shared→Prop}(hp:s.heap.PlainList l items)
  (h0:0≤k) (hfit:k<2^63) (hn:k<items.size)
  (hQ:∀h',h'.PlainList l (items.setIfInBounds k.toNat v)→Lq l s.heap h'→Q () {s with heap:=h'}):
  wpAny (model prog w) A (setItem (.ref l) (.int k t) v) Q E s:=by
 have hl:=hp.isList;refine bP hp λne ho=>?_;unfold setItem
 try with_reducible refine Ld ?_
 first|refine yS (ES ?_)|skip
 refine yS (wpAny_sequenceKey hl.typeIs (by decide) ?_);refine yS (Ju (name:=Ks "__setitem__") hl.typeIs slot_list_setitem
  (Ll slot_list_setitem hl.typeIs entry_list_setitem ?_ (args_list_setitem _ _ _)))
 refine (?_:wpAny _ _ (Builtin.List.listSubscript? (.int k t)>>=_) _ _ s);refine yS (wpAny_listSubscript_int (fitsIndex_of h0 hfit) ?_);clear hfit;refine bP (Lh h0) λj zq1=>?_;subst zq1;have hj:j<items.size:=by lia
 have hx':items[j]? =some items[j]:=Nk hj
 show wpAny _ _ ((seqItemAt l j>>= λr=>pure (r.map (j,·)))>>=_) _ _ s
 refine yS (yS (wpAny_seqItemAt ho rfl (ES ?_)));rw [hx'];refine (?_:wpAny _ _ (setSeqItemAt l j v>>=_) _ _ s);have hfin:∃n',(s.heap.update l (M7 (·.setIfInBounds j v))).get? l=some {cls:=.type "list",data:=.seq (items.setIfInBounds j v) n'}:=by
  rw [Fw _ ho rfl];exact ⟨_,rfl⟩
 refine yS (wpAny_setSeqItemAt ho rfl ?_)
 first
  |exact yS (ES (ES (aZ .none rfl (ES (hQ _ hfin (L9 ..))))))
  |exact ES ⟨.none,rfl,ES (hQ _ hfin (L9 ..))⟩
noncomputable def liC:ah→Option (List PyData)
 | .live xs=>some xs
 |_=>none
theorem AG{o:Option ah}(h:o.bind liC=some xs):o=some (.live xs):=by
 cases o with
 |none=>exact cv h
 |some c=>
  cases c with
  |live _=>exact congrArg (λx=>some (ah.live x)) (Fh h)
  |_=>exact cv h
noncomputable def af7(i:Nat)(k:Int)(d:PyData)(μ:List ah):Option (List ah):=bo (μ[i]?.bind liC) λxs=>if 0≤k∧k<xs.length∧k<2^63 then some (μ.set i (.live (xs.set k.toNat d))) else none
theorem D4{k:Int}{t:Tok}(I:bl C T α μ s)(ha:α[i]? =some a)(r:aJ s.heap (T++ai α μ) v d)(h:af7 i k d μ=some μ'):
  wpAny (model C.prog C.w) A (setItem (.ref a) (.int k t) v) (λzz s'=>bl C T α μ' s'∧aV [] α μ s α μ' s') E s:=by
 refine ax h λxs e h=>i7 h λhc h=>cC h (au (I.cells i a _ ha (AG e)) λitems hp rr=>?_);refine sj hp hc.1 hc.2.2 (by rw [show items.size=xs.length from by rw [←rr.length];simp];exact hc.2.1) λh' hpl hs=>?_;exact I.setCell (c:=.live (xs.set k.toNat d)) (h':=h') (tk:=s.toks) ha (AG e) rfl rfl (λb o q e=>(hs.2 b q).trans e) (bP hpl λk z=>⟨_,z⟩) λkd=>(aZ _ hpl (by
  rw [Array.toList_setIfInBounds];exact kd (rr.set _ r)))
end
theorem pI{M:Model}{o i:Expr}{Q:Unit→Shared→Prop}
 (h:wpAny M A (eval o env) (λov s₂=>wpAny M A (eval i env) (λiv s₃=>wpAny M A (setItem ov iv v) Q E s₃) E s₂) E s):wpAny M A (assign (.Subscript o i pos) env v) Q E s:=kas_sub h
noncomputable def wn(fo fi:EF)(d:PyData):d5→List ah→Option (List ah):= λρ μ=>bp (fo ρ μ) λV μ1=>bo (Fo V) λi=>bp (fi ρ μ1) λW μ2=>bo (jM W) λk=>af7 i k d μ2
def TT(fv fo fi:EF):SF:= λρ μ=>bp (fv ρ μ) λV μ1=>bo (vd V) λd=>bo (wn fo fi d ρ μ1) λμ2=>some (.next,ρ,μ2)
def HN(fv fo fi fo' fi':EF):SF:= λρ μ=>bp (fv ρ μ) λV μ1=>bo (Hx V) λds=>bp (l2 ds) λa b=>bo (wn fo fi a ρ μ1) λμ2=>bo (wn fo' fi' b ρ μ2) λμ3=>some (.next,ρ,μ3)
section
theorem qX{o i:Expr}(ho:ab C n cx o fo)(hi:ab C n cx i fi){Q:Unit→Shared→Prop}(R:cR A n)(I:bl C T α μ s)(F:bh C cx env O ρ s.heap α (T++ai α μ))
  (r:aJ s.heap (T++ai α μ) v d) (h:wn fo fi d ρ μ=some μ') (k:∀α' s',bl C T α' μ' s'→aV [] α μ s α' μ' s'→bh C cx env O ρ s'.heap α' (T++ai α' μ')→Q () s'):
  wpAny (model C.prog C.w) A (eval o env) (λov s₂=>wpAny (model C.prog C.w) A (eval i env) (λiv s₃=>wpAny (model C.prog C.w) A (setItem ov iv v) Q E s₃) E s₂) E s:=by
 refine aD h λV μ1 e1 h=>ax h λj ej h=>aD h λW μ2 e2 h=>ax h λkk ek h=>nQ ho hi R I F e1 e2 λa b s2 α2 I2 S2 ra rb=>?_;refine au (Kj ej ra) λad ha z=>bP (fM ek rb) λt z1=>?_;subst z;subst z1;exact D2 (D4 I2 ha (aJ.step0 (T:=T) r S2) h) (λzz s3 p=>k α2 s3 p.1 (S2.trans p.2) (F.step I (S2.trans p.2))) λzz zz x=>x
theorem Ts{o i:Expr}{pos':Pos}{fv:EF}(hv:ab C n cx e fv)(ho:ab C n cx o fo)(hi:ab C n cx i fi)(hs:∀env,swapsWith e (some (.Subscript o i pos')) pos.line env=pure false):aQ C n cx (.Assign [.Subscript o i pos'] e pos) (TT fv fo fi):=by
 refine .of ?_;intro A env O T ρ α μ s E fl ρ' μ' R I F h;refine aD h λV μ1 e1 h=>ax h λd ed h=>ax h λμ2 e2 h=>gw h (wpAny_Assign_Subscript (hv.goF R I F e1 λv s1 α1 I1 S1 F1 r1=>?_) (hs env));rw [iP ed] at r1
 exact qX ho hi R I1 F1 r1 e2 λα2 s2 I2 S2 F2=>d4 α2 I2 (S1.up.trans S2.up) F2 rfl
theorem Mr{o i o' i':Expr}{p1 p2:Pos}{fv fo' fi':EF}(hv:ab C n cx e fv)(ho:ab C n cx o fo)(hi:ab C n cx i fi)(ho':ab C n cx o' fo')(hi':ab C n cx i' fi')
  (hs:∀env,swapsWithSole [.Tuple [.Subscript o i p1,.Subscript o' i' p2] kk tp] e pos.line env=pure false) (hw:∀env,swappedStores [.Tuple [.Subscript o i p1,.Subscript o' i' p2] kk tp] e env=pure none):
  aQ C n cx (.Assign [.Tuple [.Subscript o i p1,.Subscript o' i' p2] kk tp] e pos) (HN fv fo fi fo' fi'):=by
 refine .of ?_;intro A env O T ρ α μ s E fl ρ' μ' R I F h;refine aD h λV μ1 e1 h=>ax h λds ed h=>aD h λa b el h=>ax h λμ2 e2 h=>ax h λμ3 e3 h=>gw h (Assign_Tuple (hv.goF R I F e1 λv s1 α1 I1 S1 F1 r1=>?_) (hs env) (hw env));refine bm (HT ed r1) λl items zq2 hp rr=>?_;subst zq2;rw [zX el] at rr
 refine oy rr λv1 v2 z r1 r2=>?_;subst z;refine Tc R.handled hp rfl rfl λh' he=>?_;have hk:=g_ he;refine Qa (pI (qX ho hi R (I1.keeps (tk:=s1.toks) hk) (F1.keeps I1 hk) (r1.keeps hk) e2 λα4 s4 I4 S4 F4=>?_));have r2':aJ s4.heap (T++ai α4 μ2) v2 b:=aJ.step0 (s:= {s1 with heap:=h'}) (T:=T) (r2.keeps hk) S4;exact Qa (pI (qX ho' hi' R I4 F4 r2' e3 λα5 s5 I5 S5 F5=>assignInOrder_nil (d4 α5 I5 ((S1.trans ((aV.keeps (tk:=s1.toks) hk).trans (S4.trans S5))).up) F5 rfl)))
end
def kI(i:Int):EF:= λzz μ=>some (.d (.int i),μ)
def kS(x:Str):EF:= λzz μ=>some (.d (.str x),μ)
def kB(b:Bool):EF:= λzz μ=>some (.d (.bool b),μ)
def kN:EF:= λzz μ=>some (.d .none,μ)
def kT(T:String):EF:= λzz μ=>some (.ty T,μ)
section
theorem am{i:Int}:ab C n cx (.Constant (.int i) k pos) (kI i):=W2
theorem bT:ab C n cx (.Constant (.str x) k pos) (kS x):=H_
theorem dk{b:Bool}:ab C n cx (.Constant (.bool b) k pos) (kB b):=OV
theorem AD:ab C n cx (.Constant .none k pos) kN:=NW
noncomputable def V7:Expr→Bool| .Starred .. =>true|_=>false
theorem Ny(h:V7 e=false):∀env,starEach (e::es) env=(false,eval e env)::starEach es env:=by
 intro env;cases e<;>first|rfl|cases h
theorem ag(h:V7 e=false)(he:ab C n cx e f)(hs:dg C n cx es fs):dg C n cx (e::es) (f::fs):=dG (Ny h) he hs
noncomputable def MA(cx:Cx)(x:Str)(i:Nat):Bool:=decide (cx.names[i]? =some (x,1))&&(cx.scope.names.lookup x==some .local)&&(cx.scope.kind== .function)&&!(x==("__debug__":Str))
theorem Gy(h:MA cx x i=true)(k:cx.names[i]? =some (x,1)→cx.scope.names.lookup x=some .local→cx.scope.kind=.function→(x==("__debug__":Str))=false→G):G:=by
 unfold MA at h
 simp only [Fd,MW,beq_iff_eq,decide_eq_true_eq] at h
 exact k h.1.1.1 h.1.1.2 h.1.2 (by simpa using h.2)
theorem b9(i:Nat)(h:MA cx x i=true):ab C n cx (.Name x pos) (a9 i):=Gy h λa b c d=>rE i a b c d
theorem bu(i:Nat)(h:MA cx x i=true):aA C cx x i:=Gy h λa b c zz=>ue i a b c
def BJ(f g h:EF)(o o':AV→AV→List ah→Option Bool):TF:= λρ μ=>bp (f ρ μ) λa μ1=>bp (g ρ μ1) λb μ2=>bo (o a b μ2) λr=>cond r (bp (h ρ μ2) λc μ3=>bo (o' b c μ3) λr=>some (r,μ3)) (some (false,μ2))
theorem gR.go{op:CmpOp}{o:AV→AV→List ah→Option Bool}{a b:Value}{Va Vb:AV}{r:Bool}{Q:Bool→Shared→Prop}(ho:gR C n op o)(R:cR A n)(I:bl C T α μ s)(ra:bq s.heap α (T++ai α μ) a Va)(rb:bq s.heap α (T++ai α μ) b Vb)(h:o Va Vb μ=some r)
  (k:∀tk,bl C T α μ {s with toks:=tk}→aV [] α μ s α μ {s with toks:=tk}→Q r {s with toks:=tk}):wpAny (model C.prog C.w) A (compareOp op a b) (λv s3=>wpAny (model C.prog C.w) A (truthy v) Q E s3) E s:=
 D2 (ho A T α μ s E a b Va Vb r R I ra rb h) (λv s3 p=>y4 p λz tk z2=>by subst z;subst z2;exact P1 (k tk (I.keeps (h':=s.heap) λzz zz e=>e) (aV.keeps (h':=s.heap) λzz zz e=>e))) λzz zz x=>x
theorem U6{Z:Type}{x y z:Z}(h:cond true x y=z):x=z:=h
theorem MM{l r r':Expr}{op op':CmpOp}{h:EF}{o o':AV→AV→List ah→Option Bool}(hl:ab C n cx l f)(hr:ab C n cx r g)(hr':ab C n cx r' h)(ho:gR C n op o)(ho':gR C n op' o')(hm:lastMarks [op,op'] [r,r']=false):
  gP C n cx (.Compare l [op,op'] [r,r'] pos) (BJ f g h o o'):=by
 refine .of ?_;intro A env O T ρ α μ s E b μ' R I F q;refine aD q λVa μ1 e1 q=>aD q λVb μ2 e2 q=>ax q λr e3 q=>?_;have two:=nQ (E:=E) (Q:= λa b s2=>∃α2,bl C T α2 μ2 s2∧aV [] α μ s α2 μ2 s2∧bq s2.heap α2 (T++ai α2 μ2) a Va∧bq s2.heap α2 (T++ai α2 μ2) b Vb) hl hr R I F e1 e2 λa b s2 α2 I2 S2 ra rb=>(d4 α2 I2 S2 ra rb);refine isTrue_chain (D2 two (λa s1 p1=>test_link (D2 p1 (λb2 s2 p2=>eD p2 λα2 I2 S2 ra rb=>ho.go R I2 ra rb e3 λtk I3 S3=>?_) λzz zz x=>x)) λzz zz x=>x) hm;cases r with
 |true=>
  refine aD (U6 q) λVc μ3 e4 q=>ax q λb' e5 q=>cm q ?_;have F3:bh C cx env O ρ (R9 {s2 with toks:=tk}) α2 (T++ai α2 μ2):=F.step I (S2.trans S3);rw [if_pos rfl];exact test_last (hr'.go R I3 F3 e4 λc s4 α4 I4 S4 rc=>ho'.go R I4 ((rb.step0 S3).step0 S4) rc e5 λtk' I5 S5=>gN rfl α4 I5 (S2.trans (S3.trans (S4.trans S5))))
 |false=>
  refine cm q ?_;rw [if_neg Hm];exact gN rfl α2 I3 (S2.trans S3)
end
noncomputable def Sc(cx:Cx)(scope:Scope):Bool:=wJ cx scope&&(scope.names.all λy=>y.2 != .cell)&&(scope.kind== .function)&&decide ((((bQ cx scope).names.filter λp=>p.2==1).map (·.1)).Nodup)&&(scope.names.all λx=>x.2 != .local||scope.names.lookup x.1==some .local)
theorem af0{l:List (Str×Nat)}:((l.filter λp=>p.2==1).map (·.1)).Nodup→∀ (i j:Nat) x,l[i]? =some (x,1)→l[j]? =some (x,1)→i=j:=by
 induction l with
 |nil=>intro _ i j x h;simp at h
 |cons p l ih=>
  intro h i j x h1 h2;obtain ⟨y,k⟩:=p
  by_cases hk:k=1
  ·subst hk
   simp only [KT,beq_self_eq_true,if_true,F7,Ku] at h
   have nm:∀ (m:Nat),l[m]? =some (y,1)→False:= λm e=>h.1 (DT.mpr (aZ (y,1) (Ow.mpr ⟨FW e,rfl⟩) rfl));cases i with
   |zero=>
    simp at h1;subst h1
    cases j with
    |zero=>rfl
    |succ j=>exact (nm j (by simpa using h2)).elim
   |succ i=>
    cases j with
    |zero=>simp at h2;subst h2;exact (nm i (by simpa using h1)).elim
    |succ j=>rw [ih h.2 i j x (by simpa using h1) (by simpa using h2)]
  ·have hk':(k==1)=false:=by simpa using hk
   simp only [KT,hk',OB,if_false] at h
   cases i with
   |zero=>simp at h1;exact (hk h1.2).elim
   |succ i=>
    cases j with
    |zero=>simp at h2;exact (hk h2.2).elim
    |succ j=>rw [ih h i j x (by simpa using h1) (by simpa using h2)]
theorem bw{ifs:List Expr}{rest:List Comprehension}{K:Value→Env→Sem Fin→Sem Fin}
  (hB:Sc cx scope=true) (h2:2≤n) (hs:∀env x,foldedSetIterable iter env x=pure x) (turn:gH elt (⟨target,iter,ifs,0⟩::rest) scope pos 0 target iter ifs K) (it:mO C n cx iter tup itf) (tg:n5 C (bQ cx scope) target tup tf) (ts:j2 C n (bQ cx scope) ifs t) (ck:lO C n (bQ cx scope) K cf):
  Bu C n cx elt target iter ifs rest scope pos itf tf (cX t cf):=by
 unfold Sc at hB
 simp only [Fd,beq_iff_eq,decide_eq_true_eq] at hB
 refine f_ hB λz h6=>f_ z λz h5=>f_ z λz h4=>f_ z λh1 h3=>?_;refine ⟨(oF tup t cf K rfl turn tg ts ck it),h1,λy hy=>?_,h4,af0 h5,λx hx hl=>?_,hs,h2⟩
 ·simpa using Bw.mp h3 y hy
 ·simpa [hl] using Bw.mp h6 x hx
noncomputable def dD:List Stmt→Nat→Stmt
 |s::_,0=>s
 |_::r,k+1=>dD r k
 | [],_=>.Pass ⟨0,0,0,0⟩
noncomputable def aq:Stmt→List Stmt
 | .FunctionDef _ _ b _ _ _ _ _ _ _=>b
 |_=>[]
noncomputable def ao:Stmt→Scope
 | .FunctionDef _ _ _ _ _ _ s _ _ _=>s
 |_=> {kind:=.function,names:=[],isGenerator:=false,isCoroutine:=false,more:=[]}
noncomputable def mT:Stmt→Arguments
 | .FunctionDef _ a _ _ _ _ _ _ _ _=>a
 |_=> {posonlyargs:=[],args:=[],vararg:=none,kwonlyargs:=[],kw_defaults:=[],kwarg:=none,defaults:=[]}
noncomputable def ay(k:Nat):Stmt:=dD MI.main.body k
def jO(names:List (Str×NameKind)):Scope:= {kind:=.function,names:=names,isGenerator:=false,isCoroutine:=false,more:=[]}
def dj(C:gK)(x:Str)(k:Nat):Prop:=∃fa o pm cd doc,C.mg x=some (.ref fa)∧C.B.get? fa=some o∧o.data=.func (O8 x (mT (ay k)) (aq (ay k)) (ao (ay k)) pm cd doc)∧C.B.CodeRec cd x
def aI(C:gK)(n:Nat)(x:Str)(spec:a_):Prop:=∃fa o fd,C.mg x=some (.ref fa)∧C.B.get? fa=some o∧o.data=.func fd∧eH C n (.ref fa) spec
def gU(C:gK)(n:Nat)(x:Str)(spec:iW):Prop:=∃fa o fd,C.mg x=some (.ref fa)∧C.B.get? fa=some o∧o.data=.func fd∧iy C n (.ref fa) true spec
section
variable {m:Nat} {ispec:iW}
theorem aI.mono(h:aI C n x spec)(hm:n≤m):aI C m x spec:=by
 refine dp h λfa o fd h1 h2 h3 h4=>?_;exact (dA fa o fd h1 h2 h3 (λA T α μ s E vs Vs V μ' R I r q=>h4 A T α μ s E vs Vs V μ' (R.mono hm) I r q))
theorem gU.mono(h:gU C n x ispec)(hm:n≤m):gU C m x ispec:=by
 refine dp h λfa o fd h1 h2 h3 h4=>?_;exact (dA fa o fd h1 h2 h3 (λA T α μ s E vs Vs xs g μ' R I r q=>h4 A T α μ s E vs Vs xs g μ' (R.mono hm) I r q))
theorem cg(h:aI C n x spec)(ha:dg C n cx (e::es) fs)(hs:∀env,starEach (e::es) env=(false,eval e env)::starEach es env)
  (hl:cx.scope.names.lookup x=some .globalImplicit) (hk:cx.scope.kind=.function) (hdb:(x==("__debug__":Str))=false):ab C n cx (.Call (.Name x xp) (e::es) [] pos) (af fs spec):=by
 refine dp h λfa o fd h1 h2 h3 h4=>?_;exact N9 h1 h2 h3 h4 ha hs hl hk hdb
theorem zB(h:gU C n x ispec)(ha:dg C n cx (e::es) fs)(hs:∀env,starEach (e::es) env=(false,eval e env)::starEach es env)
  (hl:cx.scope.names.lookup x=some .globalImplicit) (hk:cx.scope.kind=.function) (hdb:(x==("__debug__":Str))=false):mO C n cx (.Call (.Name x xp) (e::es) [] pos) true (b_ fs ispec):=by
 refine dp h λfa o fd h1 h2 h3 h4=>?_;exact Pf h1 h2 h3 h4 ha hs hl hk hdb
theorem x_{i:Int}(hg:∃t,C.mg x=some (.int i t))(hl:cx.scope.names.lookup x=some .globalImplicit)(hk:cx.scope.kind=.function)(hd:(x==("__debug__":Str))=false):ab C n cx (.Name x pos) (kI i):=by
 refine bP hg λt h=>?_;exact Px h hl hk hd
theorem gQ{f:SF}(ps:List Str)(h:dj C x k)(hb:cD C n (dh (ao (ay k))) (aq (ay k)) f)
  (hbind:∀ (pm cd doc:Value) (args:List Value),args.length=ps.length→bindArgs (O8 x (mT (ay k)) (aq (ay k)) (ao (ay k)) pm cd doc) ⟨args,[]⟩=pure (ps.zip args))
  (hnd:decide (((ao (ay k)).names.map (·.1)).Nodup)=true) (hps:((dh (ao (ay k))).names.map (·.1)).take ps.length=ps) (hco:(ao (ay k)).isCoroutine=false) (hgen:(ao (ay k)).isGenerator=false) (hk:(ao (ay k)).kind=.function):
  aI C (n+1) x (cA ps.length (ao (ay k)) f):=by
 refine fC h λfa o pm cd doc h1 h2 h3 h4=>?_;exact (dA fa o _ h1 h2 h3 (YK ps h2 h3 h4 (hbind pm cd doc) (of_decide_eq_true hnd) hps hco hgen hk hb))
end
noncomputable def kn(x:Str):Option Int:=([("|",18),("*",16),("(",7),(")",8)]:List (Str×Int)).lookup x
noncomputable def si(k:Int):Option Str:=([(1,"OPTIMIZED"),(2,"NEWLOCALS"),(4,"VARARGS"),(8,"VARKEYWORDS"),(16,"NESTED"),(32,"GENERATOR"),(64,"NOFREE"),(128,"COROUTINE"),(256,"ITERABLE_COROUTINE"),(512,"ASYNC_GENERATOR")]:List (Int×Str)).lookup k
structure cK (C:gK):Prop where
 no:∀x:Str,((["len","min","range","enumerate","zip","list","sum","iter","next","sorted","isinstance","hex","int","bool","StopIteration"]:List Str).contains x)=true→C.mg x=none
 ext:∃d m,C.mg "EXACT_TOKEN_TYPES"=some (.ref d)∧C.B.MapOf (strKind C.prog C.w) d m∧∀y i,kn y=some i→∃t,m y=some (.int i t)
 cfn:∃d m,C.mg "COMPILER_FLAG_NAMES"=some (.ref d)∧C.B.MapOf (intKind C.prog C.w) d m∧(∀k,(∃y t,si k=some y∧m k=some (.str y t))∨(si k=none∧m k=none))∧(d==sysModules)=false
 nt:∃t,C.mg "NT_OFFSET"=some (.int 256 t)
 em:∃t,C.mg "ENDMARKER"=some (.int 0 t)
section
variable {ispec:iW}
theorem km{y:Str}(h:(x==y)=false):x≠y:=by simpa using h
theorem cq(hg:C.mg x=none)(hb:bootBuiltins x=some fv)(hx:(x==("__name__":Str))=false)(hn:kY fv)(hf:eH C n fv spec)
 (ha:dg C n cx (e::es) fs) (hs:∀env,starEach (e::es) env=(false,eval e env)::starEach es env) (hp:∀env,(backTo pos (starEach (e::es) env)).any (·.1)=false)
 (hl:cx.scope.names.lookup x=some .globalImplicit) (hk:cx.scope.kind=.function) (hdb:(x==("__debug__":Str))=false):
 ab C n cx (.Call (.Name x xp) (e::es) [] pos) (af fs spec):=TA hg hb (km hx) hn hf ha hs hp hl hk hdb
theorem ka(hg:C.mg x=none)(hb:bootBuiltins x=some fv)(hx:(x==("__name__":Str))=false)(hn:kY fv)(hf:iy C n fv tup ispec)
 (ha:dg C n cx (e::es) fs) (hs:∀env,starEach (e::es) env=(false,eval e env)::starEach es env) (hp:∀env,(backTo pos (starEach (e::es) env)).any (·.1)=false)
 (hl:cx.scope.names.lookup x=some .globalImplicit) (hk:cx.scope.kind=.function) (hdb:(x==("__debug__":Str))=false):
 mO C n cx (.Call (.Name x xp) (e::es) [] pos) tup (b_ fs ispec):=UW hg hb (km hx) hn hf ha hs hp hl hk hdb
theorem ae3{T:String}(hg:C.mg x=none)(hb:bootBuiltins x=some (.type T))(hx:(x==("__name__":Str))=false)(hl:cx.scope.names.lookup x=some .globalImplicit)(hk:cx.scope.kind=.function)(hd:(x==("__debug__":Str))=false):
 ab C n cx (.Name x pos) (kT T):=aa0 hg hb (km hx) hl hk hd
theorem IZ(G:cK C)(hf:ab C n cx e g)(hs:∀o i,subscripted e false o i=operate [o,i] (getItem o i))(hl:cx.scope.names.lookup ("EXACT_TOKEN_TYPES":Str)=some .globalImplicit)(hk:cx.scope.kind=.function):
  ab C n cx (.Subscript (.Name "EXACT_TOKEN_TYPES" xp) e pos) (jI kn g):=by
 refine bm G.ext λd m h1 h2 h3=>?_;exact PJ h1 h2 h3 hf hs hl hk ∅
theorem ZM(G:cK C)(hmeth:nq (.Name "COMPILER_FLAG_NAMES" xp) "get" apos [e1,e2] pos)(hf:ab C n cx e1 f)(hg2:ab C n cx e2 g)
  (hs:∀env,backTo pos (starEach [e1,e2] env)=[(false,eval e1 env),(false,eval e2 env)]) (hl:cx.scope.names.lookup ("COMPILER_FLAG_NAMES":Str)=some .globalImplicit) (hk:cx.scope.kind=.function):
  ab C n cx (.Call (.Attribute (.Name "COMPILER_FLAG_NAMES" xp) "get" apos) [e1,e2] [] pos) (sY si f g):=by
 refine kQ G.cfn λd m h1 h2 h3 h4=>?_;exact Np hmeth h1 h2 h3 h4 hf hg2 hs hl hk ∅
end
theorem jH{α:Type}{P:List α→Prop}(h:∀a,P [a]):∀l:List α,l.length=1→P l
 | [a],_=>h a
 | [],h=>by simp at h
 |_::_::_,h=>by simp at h
theorem IG{α:Type}{P:List α→Prop}(h:∀a b,P [a,b]):∀l:List α,l.length=2→P l
 | [a,b],_=>h a b
 | [],h=>by simp at h
 | [_],h=>by simp at h
 |_::_::_::_,h=>by simp at h
theorem RJ{α:Type}{P:List α→Prop}(h:∀a b c,P [a,b,c]):∀l:List α,l.length=3→P l
 | [a,b,c],_=>h a b c
 | [],h=>by simp at h
 | [_],h=>by simp at h
 | [_,_],h=>by simp at h
 |_::_::_::_::_,h=>by simp at h
theorem RL{α:Type}{P:List α→Prop}(h:∀a b c d,P [a,b,c,d]):∀l:List α,l.length=4→P l
 | [a,b,c,d],_=>h a b c d
 | [],h=>by simp at h
 | [_],h=>by simp at h
 | [_,_],h=>by simp at h
 | [_,_,_],h=>by simp at h
 |_::_::_::_::_::_,h=>by simp at h
theorem Dq{a b c d x y:Expr}{p q vp:Pos}{k':Nat}:∀env,swappedStores [.Tuple [.Subscript a b p,.Subscript c d q] k tp] (.Tuple [x,y] k' vp) env=pure none:=by
 have gen:∀ (b c:Bool),(if b=true then pure none else if c=true then pure none else pure none:Sem (Option (List Str)))=pure none:= λb c=>by cases b<;>cases c<;>rfl
 exact λenv=>gen _ _
theorem ve{y:Str}{vp:Pos}{k':Nat}(hk:cx.scope.kind=.function)(h1:cx.scope.names.lookup x=some .local)(h2:cx.scope.names.lookup y=some .local)(hxy:(x==y)=false)(hline:(px.line==py.line)=true)
  (hs:[e1,e2].any V7=false) (hf:[e1,e2].all (foldedForSure 8)=false) (hc:[e1,e2].all (constantsAlone 8)=false):
  ∀env,env.scope=cx.scope→swappedStores [.Tuple [.Name x px,.Name y py] k tp] (.Tuple [e1,e2] k' vp) env=pure (some [x,y]):=by
 intro env he;have hb:env.blockKind=.function:=by unfold Env.blockKind;rw [he,hk];rfl
 have k1:env.kindOf x=some .local:=by unfold Jz;rw [he];exact h1
 have k2:env.kindOf y=some .local:=by unfold Jz;rw [he];exact h2
 have hne:x≠y:=by simpa using hxy
 have hlen:([x,y]:List Str).eraseDups.length=2:=by
  simp [List.eraseDups_cons,show (y==x)=false by simpa using hne.symm]
 have gen:∀ (b s:Bool) (names:List Str) (f c:Bool) (u:Sem PUnit),b=false→s=false→names=[x,y]→f=false→c=false→
   (if b=true then pure none else if s=true then pure none else if (names.length != 2||names.eraseDups.length != names.length)=true then pure none else if f=true then pure none else if c=true then u>>= λzz=>pure (some names) else pure (some names):Sem (Option (List Str)))=pure (some [x,y]):=by
  intro b s names f c u hb hs hn hf hc;rw [hb,hs,hn,hf,hc,hlen];rfl
 refine gen _ _ _ _ _ _ ?_ hs ?_ hf hc
 ·rw [hb];rfl
 ·refine (M6 (b:=x) ?_).trans (congrArg (x:: ·) ((M6 (b:=y) ?_).trans (congrArg (y:: ·) List.filterMap_nil)))
  ·exact (if_pos (by rw [k1];exact beq_self_eq_true px.line):(if (env.kindOf x==some .local&&px.line==px.line)=true then some x else none)=some x)
  ·exact (if_pos (by rw [k2,show py.line=px.line from (eq_of_beq hline).symm];exact beq_self_eq_true px.line):(if (env.kindOf y==some .local&&py.line==px.line)=true then some y else none)=some y)
noncomputable def eA:List Nat→Nat→Bool→List PyData
 | [],pos,true=>[.tuple [.int ((pos:Int)-1),.str ⟨#[92]⟩]]
 | [],_,false=>[]
 |c::r,pos,true=>.tuple [.int pos,.str ⟨#[92,c]⟩]::eA r (pos+1) false
 |c::r,pos,false=>if c=92 then eA r (pos+1) true else .tuple [.int pos,.str ⟨#[c]⟩]::eA r (pos+1) false
theorem xV{c:Nat}{r:List Nat}:eA (c::r) p false=if c=92 then eA r (p+1) true else .tuple [.int p,.str ⟨#[c]⟩]::eA r (p+1) false:=rfl
noncomputable def aE:iW:= λVs μ=>bo (l1 Vs) λV=>bo (lS V) λx=>some (eA x.cps.toList 0 false,none,μ)
def AW(C:gK)(n:Nat)(x:Str)(spec:iW):Prop:=∃fa o fd,C.mg x=some (.ref fa)∧C.B.get? fa=some o∧o.data=.func fd∧∀A T α μ s E vs Vs xs g μ',cR A n→bl C T α μ s→f6 s.heap α (T++ai α μ) vs Vs→spec Vs μ=some (xs,g,μ')→xs.length≤sizeLine→
 wpAny (model C.prog C.w) A (call (.ref fa) vs) (λv s1=>wpAny (model C.prog C.w) A (call (.type "list") [v]) (bI C T α μ s μ' (.d (.list xs))) E s1) E s
def yK(fs:List EF)(spec:iW):EF:= λρ μ=>bp (e_ fs ρ μ) λVs μ1=>bp (spec Vs μ1) λxs p=>if xs.length≤sizeLine then some (.d (.list xs),p.2) else none
section
variable {ispec:iW}
theorem DX{lp lpos:Pos}(hg:C.mg "list"=none)(h:AW C n x ispec)(ha:dg C n cx (e::es) fs)(hs:∀env,starEach (e::es) env=(false,eval e env)::starEach es env)
  (hll:cx.scope.names.lookup ("list":Str)=some .globalImplicit) (hl:cx.scope.names.lookup x=some .globalImplicit) (hk:cx.scope.kind=.function) (hdb:(x==("__debug__":Str))=false):
  ab C n cx (.Call (.Name "list" lp) [.Call (.Name x xp) (e::es) [] pos] [] lpos) (yK fs ispec):=by
 refine dp h λfa o fd h1 h2 h3 h4=>?_;refine .of ?_;intro A env O T ρ α μ s E V μ' R I F q;refine aD q λVs μ1 e1 q=>aD q λxs p e2 q=>i7 q λhsz q=>cm q ?_;refine (?_:wpAny _ A (do callWith lpos (←eval (.Name "list" lp) env) [] (backTo lpos (starEach [.Call (.Name x xp) (e::es) [] pos] env)) []) _ _ s);refine yS (Fe (by rw [F.sc];exact hk) (by unfold Jz;rw [F.sc];exact hll) (Lu (by rw [F.gl];exact C.g.keeps I.keep) hg (by rw [F.bn];exact C.b.keeps I.keep) ((C.bt _ (by decide+kernel)).trans (∅ :bootBuiltins "list"=some (.type "list"))) ?_) ∅);refine bD "list" _ _ _ _ _ _ _ _ ∅ ?_
 refine Sy (RT ?_);refine (?_:wpAny _ A (do callWith pos (←eval (.Name x xp) env) [] (backTo pos (starEach (e::es) env)) []) _ _ s);refine yS (Fe (by rw [F.sc];exact hk) (by unfold Jz;rw [F.sc];exact hl) (Ln (by rw [F.gl];exact C.g.keeps I.keep) h1 ?_) hdb);refine MV (o:=o) (fd:=fd) (ef (hs env) ha R I F e1 λvs s1 α1 I1 S1 r1=>⟨⟨I1.keep _ _ h2,h3⟩,?_⟩);refine D2 (h4 A T α1 μ1 s1 E vs Vs xs p.1 p.2 R I1 r1 e2 hsz) (λv s2 pp=>SJ ?_) λzz zz x=>x;exact D2 pp (λw s3 p=>bI.trans S1 p) λzz zz x=>x
theorem tC(h:dj C x k):aI C n x (λzz zz=>none):=by
 refine fC h λfa o pm cd doc h1 h2 h3 h4=>?_;exact (dA fa o _ h1 h2 h3 (λA T α μ s E vs Vs V μ' R I r q=>by exact cv q))
end
section
abbrev Vd:Cx:=dh (ao (ay 61))
theorem YT:ab C n Vd (.Name "x" pos) (a9 0):=b9 0 ∅
def RQ:SF:=(ff (d_ (a9 0) (kI 256) (eg λx y=>decide (x<y))))
theorem Ke(G:cK C)(h2:2≤n):aQ C n Vd (dD (aq (ay 61)) 0) RQ:=(da (fx YT (x_ G.nt ∅ ∅ ∅) qv ∅))
def f61:SF:=(ap RQ aP)
theorem b61(G:cK C)(h2:2≤n):cD C n Vd (aq (ay 61)) f61:=(ak (Ke G h2) aN)
theorem c61(G:cK C)(h2:2≤n)(h:dj C "ISTERMINAL" 61):aI C (n+1) "ISTERMINAL" (cA 1 (ao (ay 61)) f61):=
 gQ ["x"] h (b61 G h2) (λzz zz zz=>jH λzz=> ∅) ∅ ∅ ∅ ∅ ∅
noncomputable def co:a_:=cA 1 (ao (ay 61)) f61
abbrev UX:Cx:=dh (ao (ay 62))
theorem Yg:ab C n UX (.Name "x" pos) (a9 0):=b9 0 ∅
def Qr:SF:=(ff (d_ (a9 0) (kI 256) (eg λx y=>decide (y≤x))))
theorem Hv(G:cK C)(h2:2≤n):aQ C n UX (dD (aq (ay 62)) 0) Qr:=(da (fx Yg (x_ G.nt ∅ ∅ ∅) P_ ∅))
def f62:SF:=(ap Qr aP)
theorem b62(G:cK C)(h2:2≤n):cD C n UX (aq (ay 62)) f62:=(ak (Hv G h2) aN)
theorem c62(G:cK C)(h2:2≤n)(h:dj C "ISNONTERMINAL" 62):aI C (n+1) "ISNONTERMINAL" (cA 1 (ao (ay 62)) f62):=
 gQ ["x"] h (b62 G h2) (λzz zz zz=>jH λzz=> ∅) ∅ ∅ ∅ ∅ ∅
noncomputable def bR:a_:=cA 1 (ao (ay 62)) f62
abbrev VV:Cx:=dh (ao (ay 63))
theorem Zd:ab C n VV (.Name "x" pos) (a9 0):=b9 0 ∅
def PU:SF:=(ff (d_ (a9 0) (kI 0) dK))
theorem FN(G:cK C)(h2:2≤n):aQ C n VV (dD (aq (ay 63)) 0) PU:=(da (fx Zd (x_ G.em ∅ ∅ ∅) dR ∅))
def f63:SF:=(ap PU aP)
theorem b63(G:cK C)(h2:2≤n):cD C n VV (aq (ay 63)) f63:=(ak (FN G h2) aN)
theorem c63(G:cK C)(h2:2≤n)(h:dj C "ISEOF" 63):aI C (n+1) "ISEOF" (cA 1 (ao (ay 63)) f63):=
 gQ ["x"] h (b63 G h2) (λzz zz zz=>jH λzz=> ∅) ∅ ∅ ∅ ∅ ∅
noncomputable def fy:a_:=cA 1 (ao (ay 63)) f63
abbrev pH:Cx:=dh (ao (ay 72))
theorem Mh:aA C pH "one" 2:=eW 2 ∅ ∅ ∅
theorem Nj:aA C pH "two" 3:=eW 3 ∅ ∅ ∅
theorem C_:ab C n pH (.Name "edges" pos) (a9 1):=b9 1 ∅
theorem jq:ab C n pH (.Name "labels" pos) (a9 0):=bF 0 2 ∅ (by decide) ∅ ∅ ∅
theorem Ot:ab C n pH (.Name "one" pos) (a9 2):=bF 2 2 ∅ (by decide) ∅ ∅ ∅
theorem Ox:ab C n pH (.Name "two" pos) (a9 3):=bF 3 2 ∅ (by decide) ∅ ∅ ∅
theorem ym:aA C pH "labels" 0:=eW 0 ∅ ∅ ∅
abbrev pG:Scope:=jO [(".0",.local),("label",.local),("labels",.free),("one",.free),("two",.free)]
abbrev r0:Cx:=bQ pH pG
theorem xH:aA C r0 "label" 4:=bu 4 ∅
theorem oI:ab C n r0 (.Name "label" pos) (a9 4):=b9 4 ∅
theorem ma:ab C n r0 (.Name "labels" pos) (a9 0):=bF 0 3 ∅ (by decide) ∅ ∅ ∅
theorem Ea:ab C n r0 (.Name "two" pos) (a9 3):=bF 3 3 ∅ (by decide) ∅ ∅ ∅
theorem CX:ab C n r0 (.Name "one" pos) (a9 2):=bF 2 3 ∅ (by decide) ∅ ∅ ∅
def BR:SF:=(jK (aK true (a9 1)) (j6 2 3) (ap (jF (bA (aF (a9 0) (a9 2)) (aF (a9 0) (a9 3)) dK) (ap (ff (aU [])) aP) aP) (ap (cb 0 (ce pG (aK false (a9 0)) (dz 4) (cX bg (aY (dx (bA (a9 4) (aF (a9 0) (a9 3)) dK) (aF (a9 0) (a9 2)) (a9 4)))))) aP)) aP)
theorem Ka(G:cK C)(h2:2≤n):aQ C n pH (dD (aq (ay 72)) 0) BR:=(gp h2 (c9 C_) (eY Mh Nj) (ak (g8 (cn (bk jq Ot (λzz zz=>rfl)) (bk jq Ox (λzz zz=>rfl)) dR ∅) (ak (da (bb ae)) aN) aN) (ak (bE (cE (bw ∅ h2 (λzz zz=>rfl) (bN _ _ _ _ _ _) (c9 jq) (bM xH) cI (bZ (fV (cn oI (bk ma Ea (λzz zz=>rfl)) dR ∅) (bk ma CX (λzz zz=>rfl)) oI)))) ym (o_ ∅)) aN)) aN (λzz zz=>rfl))
def He:SF:=(ff (a9 0))
theorem HD(G:cK C)(h2:2≤n):aQ C n pH (dD (aq (ay 72)) 1) He:=(da jq)
def f72:SF:=(ap BR (ap He aP))
theorem b72(G:cK C)(h2:2≤n):cD C n pH (aq (ay 72)) f72:=(ak (Ka G h2) (ak (HD G h2) aN))
theorem c72(G:cK C)(h2:2≤n)(h:dj C "_law_joined" 72):aI C (n+1) "_law_joined" (cA 2 (ao (ay 72)) f72):=
 gQ ["labels","edges"] h (b72 G h2) (λzz zz zz=>IG λzz zz=> ∅) ∅ ∅ ∅ ∅ ∅
noncomputable def df:a_:=cA 2 (ao (ay 72)) f72
abbrev oV:Cx:=dh (ao (ay 71))
theorem iS:ab C n oV (.Name "formula" pos) (a9 0):=b9 0 ∅
def sr(aW:a_):SF:=(jF (bA (af [(a9 0)] dC) (kI 2) dK) (ap (ff (aF (aF (a9 0) (kI 1)) (kI 0))) aP) aP)
theorem JI{aW:a_}(G:cK C)(h2:2≤n):aQ C n oV (dD (aq (ay 71)) 0) (sr aW):=(g8 (cn (cq (fv:=.builtin "len") (G.no _ ∅) ∅ ∅ (bf _) eX (ag rfl iS ae) (λzz=>rfl) (λzz=>rfl) ∅ ∅ ∅) am dR ∅) (ak (da (bk (bk iS am (λzz zz=>rfl)) am (λzz zz=>rfl))) aN) aN)
theorem I_:aA C oV "left" 2:=bu 2 ∅
theorem En:aA C oV "right" 3:=bu 3 ∅
abbrev pX:Scope:=jO [(".0",.local),("part",.local),("_law_graph",.globalImplicit),("joins",.free)]
abbrev As:Cx:=bQ oV pX
theorem zo:aA C As "part" 4:=bu 4 ∅
theorem zJ:ab C n As (.Name "part" pos) (a9 4):=b9 4 ∅
theorem vA:ab C n As (.Name "joins" pos) (a9 1):=bF 1 3 ∅ (by decide) ∅ ∅ ∅
def Ih(aW:a_):SF:=(VY 2 3 (ce pX (aK false (ci (a9 0) (aL (kI 2)) ba)) (dz 4) (cX bg (aY (af [(a9 4),(a9 1)] aW)))))
theorem IN{aW:a_}(G:cK C)(h2:2≤n)(h_law_graph:aI C n "_law_graph" aW):aQ C n oV (dD (aq (ay 71)) 1) (Ih aW):=(T6 (cE (bw ∅ h2 (λzz zz=>rfl) (bN _ _ _ _ _ _) (c9 (dQ iS (cw am) dE)) (bM zo) cI (bZ (cg h_law_graph (ag rfl zJ (ag rfl vA ae)) (λzz=>rfl) ∅ ∅ ∅)))) I_ En (λzz=>rfl) (λzz=>rfl))
theorem nK:ab C n oV (.Name "joins" pos) (a9 1):=bF 1 2 ∅ (by decide) ∅ ∅ ∅
theorem FM:ab C n oV (.Name "left" pos) (a9 2):=b9 2 ∅
theorem ER:ab C n oV (.Name "right" pos) (a9 3):=b9 3 ∅
def AR(aW:a_):SF:=(cj (eh (a9 1) (cY [(aF (a9 0) (kI 0)),(aj (kI 6) (af [(a9 1)] dC) aT),(a9 2),(a9 3)])))
theorem Gk{aW:a_}(G:cK C)(h2:2≤n)(h_law_graph:aI C n "_law_graph" aW):aQ C n oV (dD (aq (ay 71)) 2) (AR aW):=(cM (cz (λzz=>rfl) nK (cZ (ag rfl (bk iS am (λzz zz=>rfl)) (ag rfl (av am (cq (fv:=.builtin "len") (G.no _ ∅) ∅ ∅ (bf _) eX (ag rfl nK ae) (λzz=>rfl) (λzz=>rfl) ∅ ∅ ∅) br) (ag rfl FM (ag rfl ER ae))))) (λzz=>rfl)) ∅ (λzz=>rfl))
def JZ(aW:a_):SF:=(ff (aj (kI 5) (af [(a9 1)] dC) aT))
theorem Gd{aW:a_}(G:cK C)(h2:2≤n)(h_law_graph:aI C n "_law_graph" aW):aQ C n oV (dD (aq (ay 71)) 3) (JZ aW):=(da (av am (cq (fv:=.builtin "len") (G.no _ ∅) ∅ ∅ (bf _) eX (ag rfl nK ae) (λzz=>rfl) (λzz=>rfl) ∅ ∅ ∅) br))
def f71(aW:a_):SF:=(ap (sr aW) (ap (Ih aW) (ap (AR aW) (ap (JZ aW) aP))))
theorem b71{aW:a_}(G:cK C)(h2:2≤n)(h_law_graph:aI C n "_law_graph" aW):cD C n oV (aq (ay 71)) (f71 aW):=(ak (JI G h2) (ak (IN G h2 h_law_graph) (ak (Gk G h2 h_law_graph) (ak (Gd G h2 h_law_graph) aN))))
theorem c71{aW:a_}(G:cK C)(h2:2≤n)(h_law_graph:aI C n "_law_graph" aW)(h:dj C "_law_graph" 71):aI C (n+1) "_law_graph" (cA 2 (ao (ay 71)) (f71 aW)):=
 gQ ["formula","joins"] h (b71 G h2 h_law_graph) (λzz zz zz=>IG λzz zz=> ∅) ∅ ∅ ∅ ∅ ∅
noncomputable def Fi:Nat→a_
 |0=> λzz zz=>none
 |m+1=>cA 2 (ao (ay 71)) (f71 (Fi m))
theorem d71(G:cK C)(h2:2≤n)(h:dj C "_law_graph" 71):∀m,aI C (n+m) "_law_graph" (Fi m)
 |0=>tC h
 |m+1=>c71 G (L3 h2 (Fu ..)) (d71 G h2 h m) h
noncomputable def aW:a_:=Fi 12
abbrev EH:Cx:=dh (ao (ay 8))
theorem YR:aA C EH "b" 1:=bu 1 ∅
theorem iU:ab C n EH (.Name "iterator" pos) (a9 0):=b9 0 ∅
def E8:SF:=(cb 1 (af [(a9 0)] jX))
theorem B6(G:cK C)(h2:2≤n):aQ C n EH (dD (aq (ay 8)) 0) E8:=(bE (cq (fv:=.builtin "next") (G.no _ ∅) ∅ ∅ (bf _) By (ag rfl iU ae) (λzz=>rfl) (λzz=>rfl) ∅ ∅ ∅) YR (λzz zz=> ∅))
theorem Uo:aA C EH "val" 2:=bu 2 ∅
theorem Ou:ab C n EH (.Name "b" pos) (a9 1):=b9 1 ∅
def J8:SF:=(cb 2 (aj (a9 1) (kI 63) (aS λx y=>some (D5 x y))))
theorem BY(G:cK C)(h2:2≤n):aQ C n EH (dD (aq (ay 8)) 1) J8:=(bE (av Ou am qU) Uo (λzz zz=> ∅))
def Na:SF:=(j4 (gf (aj (a9 1) (kI 64) (aS λx y=>some (D5 x y)))) (ap (iu 2 (kI 6) qw) (ap (cb 1 (af [(a9 0)] jX)) (ap (iu 2 (aj (a9 1) (kI 63) (aS λx y=>some (D5 x y))) SU) aP))) 64)
theorem PD(G:cK C)(h2:2≤n):aQ C n EH (dD (aq (ay 8)) 2) Na:=(K3 64 (ii (λzz zz=>rfl) (av Ou am qU)) (ak (nE (i:=2) ∅ ∅ ∅ am AS) (ak (bE (cq (fv:=.builtin "next") (G.no _ ∅) ∅ ∅ (bf _) By (ag rfl iU ae) (λzz=>rfl) (λzz=>rfl) ∅ ∅ ∅) YR (λzz zz=> ∅)) (ak (nE (i:=2) ∅ ∅ ∅ (av Ou am qU) Vl) aN))))
theorem Uv:ab C n EH (.Name "val" pos) (a9 2):=b9 2 ∅
def U5:SF:=(ff (a9 2))
theorem NL(G:cK C)(h2:2≤n):aQ C n EH (dD (aq (ay 8)) 3) U5:=(da Uv)
def f8:SF:=(ap E8 (ap J8 (ap Na (ap U5 aP))))
theorem b8(G:cK C)(h2:2≤n):cD C n EH (aq (ay 8)) f8:=(ak (B6 G h2) (ak (BY G h2) (ak (PD G h2) (ak (NL G h2) aN))))
theorem c8(G:cK C)(h2:2≤n)(h:dj C "_parse_varint" 8):aI C (n+1) "_parse_varint" (cA 1 (ao (ay 8)) f8):=
 gQ ["iterator"] h (b8 G h2) (λzz zz zz=>jH λzz=> ∅) ∅ ∅ ∅ ∅ ∅
noncomputable def aR:a_:=cA 1 (ao (ay 8)) f8
abbrev Gp:Cx:=dh (ao (ay 7))
theorem FE:aA C Gp "names" 1:=bu 1 ∅
def MS:SF:=(cb 1 (n0 []))
theorem NT(G:cK C)(h2:2≤n):aQ C n Gp (dD (aq (ay 7)) 0) MS:=(bE (ju ae) FE (λzz zz=> ∅))
theorem am3:aA C Gp "i" 2:=bu 2 ∅
theorem OY:aA C Gp "flag" 3:=bu 3 ∅
theorem ak8:ab C n Gp (.Name "i" pos) (a9 2):=b9 2 ∅
theorem qa:ab C n Gp (.Name "flags" pos) (a9 0):=b9 0 ∅
theorem ph:ab C n Gp (.Name "flag" pos) (a9 3):=b9 3 ∅
theorem qY:ab C n Gp (.Name "names" pos) (a9 1):=b9 1 ∅
def MB:SF:=(jK (aK false (af [(kI 32)] cH)) (dz 2) (ap (cb 3 (aj (kI 1) (a9 2) (aS E9))) (ap (jF (gf (aj (a9 0) (a9 3) (aS λx y=>some (D5 x y)))) (ap (cj (eh (a9 1) (sY si (a9 3) (af [(a9 3)] oS)))) (ap (iu 0 (a9 3) C6) (ap (jF (ui (gf (a9 0))) (ap MK aP) aP) aP))) aP) aP)) (ap (cj (eh (a9 1) (af [(a9 0)] oS))) aP))
theorem Nq(G:cK C)(h2:2≤n):aQ C n Gp (dD (aq (ay 7)) 1) MB:=(gp h2 (c9 (cq (fv:=.type "range") (G.no _ ∅) ∅ ∅ (bD _) dM (ag rfl am ae) (λzz=>rfl) (λzz=>rfl) ∅ ∅ ∅)) (bM am3) (ak (bE (av am ak8 VD) OY (λzz zz=> ∅)) (ak (g8 (ii (λzz zz=>rfl) (av qa ph qU)) (ak (cM (cz (λzz=>rfl) qY (ZM G (λzz=>rfl) ph (cq (fv:=.builtin "hex") (G.no _ ∅) ∅ ∅ (bf _) tR (ag rfl ph ae) (λzz=>rfl) (λzz=>rfl) ∅ ∅ ∅) (λzz=>rfl) ∅ ∅) (λzz=>rfl)) ∅ (λzz=>rfl)) (ak (nE (i:=0) ∅ ∅ ∅ ph MT) (ak (g8 (Ha (ii (λzz zz=>rfl) qa)) (ak TB aN) aN) aN))) aN) aN)) (ak (cM (cz (λzz=>rfl) qY (cq (fv:=.builtin "hex") (G.no _ ∅) ∅ ∅ (bf _) tR (ag rfl qa ae) (λzz=>rfl) (λzz=>rfl) ∅ ∅ ∅) (λzz=>rfl)) ∅ (λzz=>rfl)) aN) (λzz zz=>rfl))
def MR:SF:=(ff (dw (kS ", ") [(a9 1)] f5))
theorem PQ(G:cK C)(h2:2≤n):aQ C n Gp (dD (aq (ay 7)) 2) MR:=(da (fW (λzz=>rfl) Kg Kk gV bT (ag rfl qY ae) (λzz=>rfl) (λzz=>rfl)))
def f7:SF:=(ap MS (ap MB (ap MR aP)))
theorem b7(G:cK C)(h2:2≤n):cD C n Gp (aq (ay 7)) f7:=(ak (NT G h2) (ak (Nq G h2) (ak (PQ G h2) aN)))
theorem c7(G:cK C)(h2:2≤n)(h:dj C "pretty_flags" 7):aI C (n+1) "pretty_flags" (cA 1 (ao (ay 7)) f7):=
 gQ ["flags"] h (b7 G h2) (λzz zz zz=>jH λzz=> ∅) ∅ ∅ ∅ ∅ ∅
noncomputable def cO:a_:=cA 1 (ao (ay 7)) f7
abbrev la:Cx:=dh (ao (ay 66))
theorem An:aA C la "octets" 3:=bu 3 ∅
def HG:SF:=(cb 3 (n0 []))
theorem Jl(G:cK C)(h2:2≤n):aQ C n la (dD (aq (ay 66)) 0) HG:=(bE (ju ae) An (λzz zz=> ∅))
theorem ae2:aA C la "k" 4:=bu 4 ∅
theorem yZ:aA C la "number" 5:=eW 5 ∅ ∅ ∅
theorem wW:ab C n la (.Name "numbers" pos) (a9 0):=b9 0 ∅
theorem jv:ab C n la (.Name "octets" pos) (a9 3):=b9 3 ∅
theorem EN:ab C n la (.Name "cells" pos) (a9 1):=b9 1 ∅
theorem aa5:ab C n la (.Name "k" pos) (a9 4):=b9 4 ∅
abbrev qi:Scope:=jO [(".0",.local),("high",.local),("number",.free)]
abbrev zH:Cx:=bQ la qi
theorem y_:aA C zH "high" 6:=bu 6 ∅
theorem m8:ab C n zH (.Name "number" pos) (a9 5):=bF 5 3 ∅ (by decide) ∅ ∅ ∅
theorem qm:ab C n zH (.Name "high" pos) (a9 6):=b9 6 ∅
theorem zP:ab C n la (.Name "number" pos) (a9 5):=bF 5 2 ∅ (by decide) ∅ ∅ ∅
def IM:SF:=(jK (b_ [(a9 0)] ga) (j6 4 5) (ap (cj (se (a9 3) (aj (aU [(kI 64)]) (aj (aj (aF (a9 1) (aj (a9 4) (kI 6) (aS cu))) (kI 420) (aS cQ)) (kI 3) (aS cu)) l9))) (ap (cj (se (a9 3) (aj (ce qi (aK false (aU [(kI 5),(kI 4),(kI 3),(kI 2),(kI 1)])) (dz 6) (cX (bA (a9 5) (aj (kI 64) (a9 6) (aS gu)) (eg λx y=>decide (y≤x))) (aY (aj (aj (aj (a9 5) (aj (kI 64) (a9 6) (aS gu)) (aS cQ)) (kI 64) (aS cu)) (kI 64) aT)))) (aU [(aj (a9 5) (kI 64) (aS cu))]) aT))) aP)) aP)
theorem IA(G:cK C)(h2:2≤n):aQ C n la (dD (aq (ay 66)) 1) IM:=(gp h2 (ka (fv:=.type "enumerate") (G.no _ ∅) ∅ ∅ (bD _) iT (ag rfl wW ae) (λzz=>rfl) (λzz=>rfl) ∅ ∅ ∅) (eY ae2 yZ) (ak (cM (kJ (λzz=>rfl) jv (av (bb (ag rfl am ae)) (av (av (bk EN (av aa5 am dt) (λzz zz=>rfl)) am eO) am dt) qe) (λzz=>rfl)) ∅ (λzz=>rfl)) (ak (cM (kJ (λzz=>rfl) jv (av (cE (bw ∅ h2 (λzz zz=>rfl) (bN _ _ _ _ _ _) (c9 (bb (ag rfl am (ag rfl am (ag rfl am (ag rfl am (ag rfl am ae))))))) (bM y_) (j1 (cn m8 (av am qm iZ) P_ ∅)) (bZ (av (av (av m8 (av am qm iZ) eO) am dt) am br)))) (bb (ag rfl (av zP am dt) ae)) br) (λzz=>rfl)) ∅ (λzz=>rfl)) aN)) aN (λzz zz=>rfl))
theorem Es:ab C n la (.Name "total" pos) (a9 2):=bF 2 2 ∅ (by decide) ∅ ∅ ∅
def JP:SF:=(cj (eh (a9 3) (aj (kI 64) (aj (a9 2) (kI 64) (aS cu)) aT)))
theorem J9(G:cK C)(h2:2≤n):aQ C n la (dD (aq (ay 66)) 2) JP:=(cM (cz (λzz=>rfl) jv (av am (av Es am dt) br) (λzz=>rfl)) ∅ (λzz=>rfl))
abbrev tG:Scope:=jO [(".0",.local),("place",.local),("octet",.local),("total",.free)]
abbrev qt:Cx:=bQ la tG
theorem vN:aA C qt "place" 6:=bu 6 ∅
theorem wQ:aA C qt "octet" 7:=bu 7 ∅
theorem vJ:ab C n qt (.Name "place" pos) (a9 6):=b9 6 ∅
theorem xw:ab C n qt (.Name "total" pos) (a9 2):=bF 2 3 ∅ (by decide) ∅ ∅ ∅
theorem oM:ab C n qt (.Name "octet" pos) (a9 7):=b9 7 ∅
def Gq:SF:=(ff (ce tG (b_ [(a9 3)] ga) (j6 6 7) (cX bg (aY (dx (bA (aj (aj (a9 6) (a9 2) aT) (kI 3) (aS cu)) (kI 0) dK) (aj (a9 7) (kI 128) aT) (a9 7))))))
theorem Kx(G:cK C)(h2:2≤n):aQ C n la (dD (aq (ay 66)) 3) Gq:=(da (cE (bw ∅ h2 (λzz zz=>rfl) (bN _ _ _ _ _ _) (ka (fv:=.type "enumerate") (G.no _ ∅) ∅ ∅ (bD _) iT (ag rfl jv ae) (λzz=>rfl) (λzz=>rfl) ∅ ∅ ∅) (eY vN wQ) cI (bZ (fV (cn (av (av vJ xw br) am dt) am dR ∅) (av oM am br) oM)))))
def f66:SF:=(ap HG (ap IM (ap JP (ap Gq aP))))
theorem b66(G:cK C)(h2:2≤n):cD C n la (aq (ay 66)) f66:=(ak (Jl G h2) (ak (IA G h2) (ak (J9 G h2) (ak (Kx G h2) aN))))
theorem c66(G:cK C)(h2:2≤n)(h:dj C "_law_octets" 66):aI C (n+1) "_law_octets" (cA 3 (ao (ay 66)) f66):=
 gQ ["numbers","cells","total"] h (b66 G h2) (λzz zz zz=>RJ λzz zz zz=> ∅) ∅ ∅ ∅ ∅ ∅
noncomputable def fT:a_:=cA 3 (ao (ay 66)) f66
abbrev rZ:Cx:=dh (ao (ay 67))
theorem Ab:aA C rZ "pieces" 4:=eW 4 ∅ ∅ ∅
def I9:SF:=(cb 4 (aU [(aU []),(aU [(kS "\\(")]),(aU [(kS "\""),(kS ")"),(kS "\"")]),(aU [(kS "\\\\")]),(aU [(kS "\""),(kS "\\\""),(kS ")"),(kS "\"")]),(aU [(kS "a"),(kS "\\\"")]),(aU [(kS "\""),(kS "\"")])]))
theorem JE(G:cK C)(h2:2≤n):aQ C n rZ (dD (aq (ay 67)) 0) I9:=(bE (bb (ag rfl (bb ae) (ag rfl (bb (ag rfl bT ae)) (ag rfl (bb (ag rfl bT (ag rfl bT (ag rfl bT ae)))) (ag rfl (bb (ag rfl bT ae)) (ag rfl (bb (ag rfl bT (ag rfl bT (ag rfl bT (ag rfl bT ae))))) (ag rfl (bb (ag rfl bT (ag rfl bT ae))) (ag rfl (bb (ag rfl bT (ag rfl bT ae))) ae)))))))) Ab (λzz zz=> ∅))
theorem zQ:aA C rZ "picked" 5:=bu 5 ∅
theorem zO:ab C n rZ (.Name "places" pos) (a9 0):=b9 0 ∅
abbrev lR:Scope:=jO [(".0",.local),("place",.local),("cells",.free),("mates",.free),("pieces",.free)]
abbrev ry:Cx:=bQ rZ lR
theorem wC:aA C ry "place" 6:=bu 6 ∅
theorem v6:ab C n ry (.Name "pieces" pos) (a9 4):=bF 4 3 ∅ (by decide) ∅ ∅ ∅
theorem xi:ab C n ry (.Name "cells" pos) (a9 2):=bF 2 3 ∅ (by decide) ∅ ∅ ∅
theorem kc:ab C n ry (.Name "place" pos) (a9 6):=b9 6 ∅
theorem vL:ab C n ry (.Name "mates" pos) (a9 1):=bF 1 3 ∅ (by decide) ∅ ∅ ∅
def JC:SF:=(gb 5 lR (aK false (a9 0)) (dz 6) (cX bg (aY (cY [(aF (a9 4) (aj (aj (aF (a9 2) (a9 6)) (kI 60) (aS cQ)) (kI 7) (aS cu))),(dx (bA (aF (a9 1) (a9 6)) (a9 6) (eg λx y=>decide (y<x))) (kS "(") (kS ")"))]))) false)
theorem Jh(G:cK C)(h2:2≤n):aQ C n rZ (dD (aq (ay 67)) 1) JC:=(gz false (bw ∅ h2 (λzz zz=>rfl) (bN _ _ _ _ _ _) (c9 zO) (bM wC) cI (bZ (cZ (ag rfl (bk v6 (av (av (bk xi kc (λzz zz=>rfl)) am eO) am dt) (λzz zz=>rfl)) (ag rfl (fV (cn (bk vL kc (λzz zz=>rfl)) kc IQ ∅) bT bT) ae))))) zQ (fh ∅ ∅ ∅ ∅))
theorem xX:ab C n rZ (.Name "picked" pos) (a9 5):=b9 5 ∅
abbrev zA:Scope:=jO [(".0",.local),("piece",.local),("sign",.local),("unit",.local),("shorn",.free)]
abbrev lH:Cx:=bQ rZ zA
theorem wk:aA C lH "piece" 6:=bu 6 ∅
theorem zr:aA C lH "sign" 7:=bu 7 ∅
theorem vM:ab C n lH (.Name "shorn" pos) (a9 3):=bF 3 3 ∅ (by decide) ∅ ∅ ∅
theorem oz:ab C n lH (.Name "piece" pos) (a9 6):=b9 6 ∅
theorem zE:ab C n lH (.Name "sign" pos) (a9 7):=b9 7 ∅
theorem yw:aA C lH "unit" 8:=bu 8 ∅
theorem xU:ab C n lH (.Name "unit" pos) (a9 8):=b9 8 ∅
def GH:SF:=(ff (ce zA (aK true (a9 5)) (j6 6 7) (cX bg (gk (aK false (aj (dx (J_ (gf (a9 3)) (bA (ci (a9 6) ba (aL (kI 1))) (aU [(kS "\"")]) dK)) (aU []) (a9 6)) (aU [(a9 7)]) aT)) (dz 8) (cX bg (aY (a9 8)))))))
theorem Jr(G:cK C)(h2:2≤n):aQ C n rZ (dD (aq (ay 67)) 2) GH:=(da (cE (bw ∅ h2 (λzz zz=>rfl) (im _ _ _ _ _ _ _ _ _) (c9 xX) (eY wk zr) cI (kv h2 (c9 (av (fV (VW (ii (λzz zz=>rfl) vM) (cn (dQ oz dE (cw am)) (bb (ag rfl bT ae)) dR ∅)) (bb ae) oz) (bb (ag rfl zE ae)) br)) (bM yw) cI xU (λzz zz=>rfl)))))
def f67:SF:=(ap I9 (ap JC (ap GH aP)))
theorem b67(G:cK C)(h2:2≤n):cD C n rZ (aq (ay 67)) f67:=(ak (JE G h2) (ak (Jh G h2) (ak (Jr G h2) aN)))
theorem c67(G:cK C)(h2:2≤n)(h:dj C "_law_units" 67):aI C (n+1) "_law_units" (cA 4 (ao (ay 67)) f67):=
 gQ ["places","mates","cells","shorn"] h (b67 G h2) (λzz zz zz=>RL λzz zz zz zz=> ∅) ∅ ∅ ∅ ∅ ∅
noncomputable def bB:a_:=cA 4 (ao (ay 67)) f67
abbrev fS:Cx:=dh (ao (ay 65))
theorem ss:aA C fS "roots" 3:=bu 3 ∅
abbrev Av:Scope:=jO [(".0",.local),("place",.local)]
abbrev Kr:Cx:=bQ fS Av
theorem wx:aA C Kr "place" 10:=bu 10 ∅
theorem w9:ab C n Kr (.Name "place" pos) (a9 10):=b9 10 ∅
def BM:SF:=(gb 3 Av (aK false (af [(kI 6)] cH)) (dz 10) (cX bg (aY (aU [(a9 10)]))) false)
theorem ID(G:cK C)(h2:2≤n):aQ C n fS (dD (aq (ay 65)) 0) BM:=(gz false (bw ∅ h2 (λzz zz=>rfl) (bN _ _ _ _ _ _) (c9 (cq (fv:=.type "range") (G.no _ ∅) ∅ ∅ (bD _) dM (ag rfl am ae) (λzz=>rfl) (λzz=>rfl) ∅ ∅ ∅)) (bM wx) cI (bZ (bb (ag rfl w9 ae)))) ss (fh ∅ ∅ ∅ ∅))
theorem t7:aA C fS "parts" 4:=eW 4 ∅ ∅ ∅
abbrev Ac:Scope:=jO [(".0",.local),("place",.local),("min",.globalImplicit),("mates",.free)]
abbrev ze:Cx:=bQ fS Ac
theorem vB:aA C ze "place" 10:=bu 10 ∅
theorem oQ:ab C n ze (.Name "place" pos) (a9 10):=b9 10 ∅
theorem wL:ab C n ze (.Name "mates" pos) (a9 2):=bF 2 3 ∅ (by decide) ∅ ∅ ∅
def AU:SF:=(cb 4 (ce Ac (aK false (af [(kI 6)] cH)) (dz 10) (cX bg (aY (af [(a9 10),(aF (a9 2) (a9 10))] KE)))))
theorem KZ(G:cK C)(h2:2≤n):aQ C n fS (dD (aq (ay 65)) 1) AU:=(bE (cE (bw ∅ h2 (λzz zz=>rfl) (bN _ _ _ _ _ _) (c9 (cq (fv:=.type "range") (G.no _ ∅) ∅ ∅ (bD _) dM (ag rfl am ae) (λzz=>rfl) (λzz=>rfl) ∅ ∅ ∅)) (bM vB) cI (bZ (cq (fv:=.builtin "min") (G.no _ ∅) ∅ ∅ (bf _) Jv (ag rfl oQ (ag rfl (bk wL oQ (λzz zz=>rfl)) ae)) (λzz=>rfl) (λzz=>rfl) ∅ ∅ ∅)))) t7 (o_ ∅))
theorem Ek:aA C fS "kinds" 5:=eW 5 ∅ ∅ ∅
def Co:SF:=(cb 5 (n0 []))
theorem Hu(G:cK C)(h2:2≤n):aQ C n fS (dD (aq (ay 65)) 2) Co:=(bE (ju ae) Ek (λzz zz=> ∅))
theorem JW:aA C fS "turn" 6:=bu 6 ∅
theorem kM:ab C n fS (.Name "total" pos) (a9 1):=b9 1 ∅
theorem Zv:aA C fS "k" 7:=eW 7 ∅ ∅ ∅
theorem DG:ab C n fS (.Name "cells" pos) (a9 0):=b9 0 ∅
theorem wV:ab C n fS (.Name "turn" pos) (a9 6):=b9 6 ∅
theorem i9:ab C n fS (.Name "roots" pos) (a9 3):=b9 3 ∅
theorem eo:ab C n fS (.Name "kinds" pos) (a9 5):=bF 5 2 ∅ (by decide) ∅ ∅ ∅
theorem nk:ab C n fS (.Name "parts" pos) (a9 4):=bF 4 2 ∅ (by decide) ∅ ∅ ∅
theorem sC:ab C n fS (.Name "k" pos) (a9 7):=bF 7 2 ∅ (by decide) ∅ ∅ ∅
abbrev oi:Scope:=jO [(".0",.local),("n",.local),("part",.local),("k",.free),("parts",.free)]
abbrev n4:Cx:=bQ fS oi
theorem Oa:aA C n4 "n" 10:=bu 10 ∅
theorem zg:aA C n4 "part" 11:=bu 11 ∅
theorem PK:ab C n n4 (.Name "n" pos) (a9 10):=b9 10 ∅
theorem ux:ab C n n4 (.Name "k" pos) (a9 7):=bF 7 3 ∅ (by decide) ∅ ∅ ∅
theorem pY:ab C n n4 (.Name "part" pos) (a9 11):=b9 11 ∅
theorem oP:ab C n n4 (.Name "parts" pos) (a9 4):=bF 4 3 ∅ (by decide) ∅ ∅ ∅
def Bb:SF:=(jK (aK false (af [(aF (aU [(kI 5),(kI 5),(kI 4),(kI 3)]) (aj (aj (a9 1) (kI 25) (aS cQ)) (kI 4) (aS cu)))] cH)) (dz 6) (ap (cb 7 (aj (aF (a9 0) (a9 6)) (aj (af [(a9 3)] dC) (kI 1) (aS λx y=>some (x-y))) (aS cu))) (ap (cj (eh (a9 5) (dx (bA (aF (a9 4) (a9 7)) (aF (a9 4) (aj (a9 7) (kI 1) aT)) dK) (kI 274) (kI 272)))) (ap (cb 4 (ce oi (b_ [(a9 4)] ga) (j6 10 11) (cX (bA (a9 10) (a9 7) p8) (aY (dx (bA (a9 11) (aF (a9 4) (aj (a9 7) (kI 1) aT)) dK) (aF (a9 4) (a9 7)) (a9 11)))))) (ap (cb 3 (aj (aj (ci (a9 3) ba (aL (a9 7))) (aU [(aj (aj (aU [(aj (jr (kI 1)) (a9 6) (aS λx y=>some (x-y)))]) (aF (a9 3) (a9 7)) aT) (aF (a9 3) (aj (a9 7) (kI 1) aT)) aT)]) aT) (ci (a9 3) (aL (aj (a9 7) (kI 2) aT)) ba) aT)) aP)))) aP)
theorem Ii(G:cK C)(h2:2≤n):aQ C n fS (dD (aq (ay 65)) 3) Bb:=(gp h2 (c9 (cq (fv:=.type "range") (G.no _ ∅) ∅ ∅ (bD _) dM (ag rfl (bk (bb (ag rfl am (ag rfl am (ag rfl am (ag rfl am ae))))) (av (av kM am eO) am dt) (λzz zz=>rfl)) ae) (λzz=>rfl) (λzz=>rfl) ∅ ∅ ∅)) (bM JW) (ak (bE (av (bk DG wV (λzz zz=>rfl)) (av (cq (fv:=.builtin "len") (G.no _ ∅) ∅ ∅ (bf _) eX (ag rfl i9 ae) (λzz=>rfl) (λzz=>rfl) ∅ ∅ ∅) am j5) dt) Zv (λzz zz=> ∅)) (ak (cM (cz (λzz=>rfl) eo (fV (cn (bk nk sC (λzz zz=>rfl)) (bk nk (av sC am br) (λzz zz=>rfl)) dR ∅) am am) (λzz=>rfl)) ∅ (λzz=>rfl)) (ak (bE (cE (bw ∅ h2 (λzz zz=>rfl) (bN _ _ _ _ _ _) (ka (fv:=.type "enumerate") (G.no _ ∅) ∅ ∅ (bD _) iT (ag rfl nk ae) (λzz=>rfl) (λzz=>rfl) ∅ ∅ ∅) (eY Oa zg) (j1 (cn PK ux sv ∅)) (bZ (fV (cn pY (bk oP (av ux am br) (λzz zz=>rfl)) dR ∅) (bk oP ux (λzz zz=>rfl)) pY)))) t7 (o_ ∅)) (ak (bE (av (av (dQ i9 dE (cw sC)) (bb (ag rfl (av (av (bb (ag rfl (av (og am) wV j5) ae)) (bk i9 sC (λzz zz=>rfl)) br) (bk i9 (av sC am br) (λzz zz=>rfl)) br) ae)) br) (dQ i9 (cw (av sC am br)) dE) br) ss (λzz zz=> ∅)) aN)))) aN (λzz zz=>rfl))
theorem Pe:aA C fS "one" 8:=bu 8 ∅
theorem Nl:aA C fS "two" 9:=bu 9 ∅
def B8:SF:=(xu 8 9 (cY [(aj (aj (a9 1) (kI 100) (aS cQ)) (af [(a9 5)] dC) (aS cu)),(aj (aj (a9 1) (kI 500) (aS cQ)) (af [(a9 5)] dC) (aS cu))]))
theorem Kh(G:cK C)(h2:2≤n):aQ C n fS (dD (aq (ay 65)) 4) B8:=(AN (cZ (ag rfl (av (av kM am eO) (cq (fv:=.builtin "len") (G.no _ ∅) ∅ ∅ (bf _) eX (ag rfl eo ae) (λzz=>rfl) (λzz=>rfl) ∅ ∅ ∅) dt) (ag rfl (av (av kM am eO) (cq (fv:=.builtin "len") (G.no _ ∅) ∅ ∅ (bf _) eX (ag rfl eo ae) (λzz=>rfl) (λzz=>rfl) ∅ ∅ ∅) dt) ae))) Pe Nl (λzz=>rfl) (ve ∅ ∅ ∅ ∅ ∅ ∅ ∅ ∅))
theorem BP:ab C n fS (.Name "two" pos) (a9 9):=b9 9 ∅
theorem lV:ab C n fS (.Name "one" pos) (a9 8):=b9 8 ∅
def A_:SF:=(HN (cY [(aF (a9 5) (a9 9)),(aF (a9 5) (a9 8))]) (a9 5) (a9 8) (a9 5) (a9 9))
theorem KI(G:cK C)(h2:2≤n):aQ C n fS (dD (aq (ay 65)) 5) A_:=(Mr (cZ (ag rfl (bk eo BP (λzz zz=>rfl)) (ag rfl (bk eo lV (λzz zz=>rfl)) ae))) eo lV eo BP (λzz=>rfl) Dq)
def B_:SF:=(TT (dx (bA (aj (aj (a9 1) (kI 2500) (aS cQ)) (kI 4) (aS cu)) (kI 3) dK) (aj (kI 546) (aF (a9 5) (a9 8)) (aS λx y=>some (x-y))) (aF (a9 5) (a9 8))) (a9 5) (a9 8))
theorem FR(G:cK C)(h2:2≤n):aQ C n fS (dD (aq (ay 65)) 6) B_:=(Ts (fV (cn (av (av kM am eO) am dt) am dR ∅) (av am (bk eo lV (λzz zz=>rfl)) j5) (bk eo lV (λzz zz=>rfl))) eo lV (λzz=>rfl))
abbrev rq:Scope:=jO [(".0",.local),("root",.local),("sign",.local),("kinds",.free),("mates",.free)]
abbrev oa:Cx:=bQ fS rq
theorem Ae:aA C oa "root" 10:=bu 10 ∅
theorem Ag:ab C n oa (.Name "root" pos) (a9 10):=b9 10 ∅
theorem Az:aA C oa "sign" 11:=bu 11 ∅
theorem jD:ab C n oa (.Name "sign" pos) (a9 11):=b9 11 ∅
theorem wc:ab C n oa (.Name "kinds" pos) (a9 5):=bF 5 3 ∅ (by decide) ∅ ∅ ∅
theorem xf:ab C n oa (.Name "mates" pos) (a9 2):=bF 2 3 ∅ (by decide) ∅ ∅ ∅
def Ct:SF:=(ff (aj (ce rq (aK false (a9 3)) (dz 10) (cX bg (gk (aK false (a9 10)) (dz 11) (cX bg (aY (dx (bA (a9 11) (kI 0) (eg λx y=>decide (x<y))) (aF (a9 5) (aj (jr (kI 1)) (a9 11) (aS λx y=>some (x-y)))) (dx (bA (aF (a9 2) (a9 11)) (a9 11) (eg λx y=>decide (y<x))) (kI 7) (kI 8)))))))) (aU [(kI 0)]) aT))
theorem FZ(G:cK C)(h2:2≤n):aQ C n fS (dD (aq (ay 65)) 7) Ct:=(da (av (cE (bw ∅ h2 (λzz zz=>rfl) (im _ _ _ _ _ _ _ _ _) (c9 i9) (bM Ae) cI (kv h2 (c9 Ag) (bM Az) cI (fV (cn jD am qv ∅) (bk wc (av (og am) jD j5) (λzz zz=>rfl)) (fV (cn (bk xf jD (λzz zz=>rfl)) jD IQ ∅) am am)) (λzz zz=>rfl)))) (bb (ag rfl am ae)) br))
def f65:SF:=(ap BM (ap AU (ap Co (ap Bb (ap B8 (ap A_ (ap B_ (ap Ct aP))))))))
theorem b65(G:cK C)(h2:2≤n):cD C n fS (aq (ay 65)) f65:=(ak (ID G h2) (ak (KZ G h2) (ak (Hu G h2) (ak (Ii G h2) (ak (Kh G h2) (ak (KI G h2) (ak (FR G h2) (ak (FZ G h2) aN))))))))
theorem c65(G:cK C)(h2:2≤n)(h:dj C "_law_numbers" 65):aI C (n+1) "_law_numbers" (cA 3 (ao (ay 65)) f65):=
 gQ ["cells","total","mates"] h (b65 G h2) (λzz zz zz=>RJ λzz zz zz=> ∅) ∅ ∅ ∅ ∅ ∅
noncomputable def gy:a_:=cA 3 (ao (ay 65)) f65
end
section
abbrev tN:Cx:=dh (ao (ay 2))
theorem kU:ab C n tN (.Name "addr" pos) (a9 0):=b9 0 ∅
def K8:SF:=(jF (bA (kS "\"") (a9 0) lF) (ap (ff (a9 0)) aP) aP)
theorem Oh(G:cK C)(h2:2≤n):aQ C n tN (dD (aq (ay 2)) 0) K8:=(g8 (cn bT kU vF ∅) (ak (da kU) aN) aN)
theorem xK:aA C tN "start" 1:=bu 1 ∅
def W5:SF:=(cb 1 (kI 0))
theorem Mv(G:cK C)(h2:2≤n):aQ C n tN (dD (aq (ay 2)) 1) W5:=(bE am xK (λzz zz=> ∅))
theorem ki:aA C tN "open_pos" 2:=bu 2 ∅
def VI:SF:=(cb 2 kN)
theorem O3(G:cK C)(h2:2≤n):aQ C n tN (dD (aq (ay 2)) 2) VI:=(bE AD ki (λzz zz=> ∅))
theorem Ed:aA C tN "result" 3:=bu 3 ∅
def NY:SF:=(cb 3 (n0 []))
theorem Mt(G:cK C)(h2:2≤n):aQ C n tN (dD (aq (ay 2)) 3) NY:=(bE (ju ae) Ed (λzz zz=> ∅))
theorem V4:aA C tN "pos" 4:=bu 4 ∅
theorem ZA:aA C tN "ch" 5:=bu 5 ∅
theorem Yc:ab C n tN (.Name "ch" pos) (a9 5):=b9 5 ∅
theorem kg:ab C n tN (.Name "open_pos" pos) (a9 2):=b9 2 ∅
theorem KN:ab C n tN (.Name "pos" pos) (a9 4):=b9 4 ∅
theorem mL:ab C n tN (.Name "start" pos) (a9 1):=b9 1 ∅
theorem nx:ab C n tN (.Name "result" pos) (a9 3):=b9 3 ∅
def OX:SF:=(jK (b_ [(a9 0)] aE) (j6 4 5) (ap (jF (bA (a9 5) (kS "\"") dK) (ap (jF (bA (a9 2) kN Lb) (ap (cb 2 (a9 4)) aP) (ap (jF (bA (a9 1) (a9 2) p8) (ap (cj (eh (a9 3) (ci (a9 0) (aL (a9 1)) (aL (a9 2))))) aP) aP) (ap (cb 1 (aj (a9 4) (kI 1) aT)) (ap (cb 2 kN) aP)))) aP) aP) aP) aP)
theorem NM(G:cK C)(h2:2≤n)(h_iter_escaped_chars:gU C n "_iter_escaped_chars" aE):aQ C n tN (dD (aq (ay 2)) 4) OX:=(gp h2 (zB h_iter_escaped_chars (ag rfl kU ae) (λzz=>rfl) ∅ ∅ ∅) (eY V4 ZA) (ak (g8 (cn Yc bT dR ∅) (ak (g8 (cn kg AD xk ∅) (ak (bE KN ki (λzz zz=> ∅)) aN) (ak (g8 (cn mL kg sv ∅) (ak (cM (cz (λzz=>rfl) nx (dQ kU (cw mL) (cw kg)) (λzz=>rfl)) ∅ (λzz=>rfl)) aN) aN) (ak (bE (av KN am br) xK (λzz zz=> ∅)) (ak (bE AD ki (λzz zz=> ∅)) aN)))) aN) aN) aN) aN (λzz zz=>rfl))
def MD:SF:=(jF (bA (a9 1) (af [(a9 0)] dC) (eg λx y=>decide (x<y))) (ap (cj (eh (a9 3) (ci (a9 0) (aL (a9 1)) ba))) aP) aP)
theorem Ms(G:cK C)(h2:2≤n)(h_iter_escaped_chars:gU C n "_iter_escaped_chars" aE):aQ C n tN (dD (aq (ay 2)) 5) MD:=(g8 (cn mL (cq (fv:=.builtin "len") (G.no _ ∅) ∅ ∅ (bf _) eX (ag rfl kU ae) (λzz=>rfl) (λzz=>rfl) ∅ ∅ ∅) qv ∅) (ak (cM (cz (λzz=>rfl) nx (dQ kU (cw mL) dE) (λzz=>rfl)) ∅ (λzz=>rfl)) aN) aN)
def Nn:SF:=(ff (dw (kS "") [(a9 3)] f5))
theorem PG(G:cK C)(h2:2≤n)(h_iter_escaped_chars:gU C n "_iter_escaped_chars" aE):aQ C n tN (dD (aq (ay 2)) 6) Nn:=(da (fW (λzz=>rfl) Kg Kk gV bT (ag rfl nx ae) (λzz=>rfl) (λzz=>rfl)))
def f2:SF:=(ap K8 (ap W5 (ap VI (ap NY (ap OX (ap MD (ap Nn aP)))))))
theorem b2(G:cK C)(h2:2≤n)(h_iter_escaped_chars:gU C n "_iter_escaped_chars" aE):cD C n tN (aq (ay 2)) f2:=(ak (Oh G h2) (ak (Mv G h2) (ak (O3 G h2) (ak (Mt G h2) (ak (NM G h2 h_iter_escaped_chars) (ak (Ms G h2 h_iter_escaped_chars) (ak (PG G h2 h_iter_escaped_chars) aN)))))))
theorem c2(G:cK C)(h2:2≤n)(h_iter_escaped_chars:gU C n "_iter_escaped_chars" aE)(h:dj C "_strip_quoted_realnames" 2):aI C (n+1) "_strip_quoted_realnames" (cA 1 (ao (ay 2)) f2):=
 gQ ["addr"] h (b2 G h2 h_iter_escaped_chars) (λzz zz zz=>jH λzz=> ∅) ∅ ∅ ∅ ∅ ∅
noncomputable def aM:a_:=cA 1 (ao (ay 2)) f2
abbrev Fa:Cx:=dh (ao (ay 3))
theorem NF:aA C Fa "addr" 0:=bu 0 ∅
theorem CA:ab C n Fa (.Name "addr" pos) (a9 0):=b9 0 ∅
def Os:SF:=(cb 0 (af [(a9 0)] aM))
theorem NS(G:cK C)(h2:2≤n)(h_strip_quoted_realnames:aI C n "_strip_quoted_realnames" aM):aQ C n Fa (dD (aq (ay 3)) 0) Os:=(bE (cg h_strip_quoted_realnames (ag rfl CA ae) (λzz=>rfl) ∅ ∅ ∅) NF (λzz zz=> ∅))
theorem Gw:aA C Fa "opens" 1:=bu 1 ∅
def T9:SF:=(cb 1 (kI 0))
theorem OF(G:cK C)(h2:2≤n)(h_strip_quoted_realnames:aI C n "_strip_quoted_realnames" aM):aQ C n Fa (dD (aq (ay 3)) 1) T9:=(bE am Gw (λzz zz=> ∅))
theorem V6:aA C Fa "pos" 2:=bu 2 ∅
theorem ab2:aA C Fa "ch" 3:=bu 3 ∅
theorem QU:ab C n Fa (.Name "ch" pos) (a9 3):=b9 3 ∅
theorem vE:ab C n Fa (.Name "opens" pos) (a9 1):=b9 1 ∅
def Mz:SF:=(jK (b_ [(a9 0)] aE) (j6 2 3) (ap (jF (bA (a9 3) (kS "(") dK) (ap (iu 1 (kI 1) Cf) aP) (ap (jF (bA (a9 3) (kS ")") dK) (ap (iu 1 (kI 1) B3) (ap (jF (bA (a9 1) (kI 0) (eg λx y=>decide (x<y))) (ap (ff (kB false)) aP) aP) aP)) aP) aP)) aP) aP)
theorem Mw(G:cK C)(h2:2≤n)(h_strip_quoted_realnames:aI C n "_strip_quoted_realnames" aM)(h_iter_escaped_chars:gU C n "_iter_escaped_chars" aE):aQ C n Fa (dD (aq (ay 3)) 2) Mz:=(gp h2 (zB h_iter_escaped_chars (ag rfl CA ae) (λzz=>rfl) ∅ ∅ ∅) (eY V6 ab2) (ak (g8 (cn QU bT dR ∅) (ak (nE (i:=1) ∅ ∅ ∅ am Nm) aN) (ak (g8 (cn QU bT dR ∅) (ak (nE (i:=1) ∅ ∅ ∅ am Nv) (ak (g8 (cn vE am qv ∅) (ak (da dk) aN) aN) aN)) aN) aN)) aN) aN (λzz zz=>rfl))
def Td:SF:=(ff (d_ (a9 1) (kI 0) dK))
theorem OT(G:cK C)(h2:2≤n)(h_strip_quoted_realnames:aI C n "_strip_quoted_realnames" aM)(h_iter_escaped_chars:gU C n "_iter_escaped_chars" aE):aQ C n Fa (dD (aq (ay 3)) 3) Td:=(da (fx vE am dR ∅))
def f3:SF:=(ap Os (ap T9 (ap Mz (ap Td aP))))
theorem b3(G:cK C)(h2:2≤n)(h_strip_quoted_realnames:aI C n "_strip_quoted_realnames" aM)(h_iter_escaped_chars:gU C n "_iter_escaped_chars" aE):cD C n Fa (aq (ay 3)) f3:=(ak (NS G h2 h_strip_quoted_realnames) (ak (OF G h2 h_strip_quoted_realnames) (ak (Mw G h2 h_strip_quoted_realnames h_iter_escaped_chars) (ak (OT G h2 h_strip_quoted_realnames h_iter_escaped_chars) aN))))
theorem c3(G:cK C)(h2:2≤n)(h_strip_quoted_realnames:aI C n "_strip_quoted_realnames" aM)(h_iter_escaped_chars:gU C n "_iter_escaped_chars" aE)(h:dj C "_check_parenthesis" 3):aI C (n+1) "_check_parenthesis" (cA 1 (ao (ay 3)) f3):=
 gQ ["addr"] h (b3 G h2 h_strip_quoted_realnames h_iter_escaped_chars) (λzz zz zz=>jH λzz=> ∅) ∅ ∅ ∅ ∅ ∅
noncomputable def ar:a_:=cA 1 (ao (ay 3)) f3
abbrev Pm:Cx:=dh (ao (ay 4))
theorem lM:aA C Pm "accepted_values" 1:=bu 1 ∅
def Md:SF:=(cb 1 (n0 []))
theorem NX(G:cK C)(h2:2≤n):aQ C n Pm (dD (aq (ay 4)) 0) Md:=(bE (ju ae) lM (λzz zz=> ∅))
theorem Z0:aA C Pm "v" 2:=bu 2 ∅
theorem js:ab C n Pm (.Name "email_header_fields" pos) (a9 0):=b9 0 ∅
theorem Yn:ab C n Pm (.Name "v" pos) (a9 2):=b9 2 ∅
theorem ip:ab C n Pm (.Name "accepted_values" pos) (a9 1):=b9 1 ∅
def PO:SF:=(jK (aK false (a9 0)) (dz 2) (ap (jF (ui (gf (af [(a9 2)] ar))) (ap (cb 2 (kS "('', '')")) aP) aP) (ap (cj (eh (a9 1) (a9 2))) aP)) aP)
theorem Nh(G:cK C)(h2:2≤n)(h_check_parenthesis:aI C n "_check_parenthesis" ar):aQ C n Pm (dD (aq (ay 4)) 1) PO:=(gp h2 (c9 js) (bM Z0) (ak (g8 (Ha (ii (λzz zz=>rfl) (cg h_check_parenthesis (ag rfl Yn ae) (λzz=>rfl) ∅ ∅ ∅))) (ak (bE bT Z0 (λzz zz=> ∅)) aN) aN) (ak (cM (cz (λzz=>rfl) ip Yn (λzz=>rfl)) ∅ (λzz=>rfl)) aN)) aN (λzz zz=>rfl))
def af9:SF:=(ff (a9 1))
theorem Pv(G:cK C)(h2:2≤n)(h_check_parenthesis:aI C n "_check_parenthesis" ar):aQ C n Pm (dD (aq (ay 4)) 2) af9:=(da ip)
def f4:SF:=(ap Md (ap PO (ap af9 aP)))
theorem b4(G:cK C)(h2:2≤n)(h_check_parenthesis:aI C n "_check_parenthesis" ar):cD C n Pm (aq (ay 4)) f4:=(ak (NX G h2) (ak (Nh G h2 h_check_parenthesis) (ak (Pv G h2 h_check_parenthesis) aN)))
theorem c4(G:cK C)(h2:2≤n)(h_check_parenthesis:aI C n "_check_parenthesis" ar)(h:dj C "_pre_parse_validation" 4):aI C (n+1) "_pre_parse_validation" (cA 1 (ao (ay 4)) f4):=
 gQ ["email_header_fields"] h (b4 G h2 h_check_parenthesis) (λzz zz zz=>jH λzz=> ∅) ∅ ∅ ∅ ∅ ∅
noncomputable def aX:a_:=cA 1 (ao (ay 4)) f4
end
section
abbrev lE:Cx:=dh (ao (ay 68))
theorem yN:aA C lE "number" 2:=bu 2 ∅
theorem qK:ab C n lE (.Name "tape" pos) (a9 0):=b9 0 ∅
def v_(aC:a_):SF:=(cb 2 (af [(a9 0)] aR))
theorem Il{aC:a_}(G:cK C)(h2:2≤n)(h_parse_varint:aI C n "_parse_varint" aR):aQ C n lE (dD (aq (ay 68)) 0) (v_ aC):=(bE (cg h_parse_varint (ag rfl qK ae) (λzz=>rfl) ∅ ∅ ∅) yN (λzz zz=> ∅))
theorem ms:ab C n lE (.Name "told" pos) (a9 1):=b9 1 ∅
theorem ik:ab C n lE (.Name "number" pos) (a9 2):=b9 2 ∅
def xG(aC:a_):SF:=(cj (eh (a9 1) (a9 2)))
theorem H6{aC:a_}(G:cK C)(h2:2≤n)(h_parse_varint:aI C n "_parse_varint" aR):aQ C n lE (dD (aq (ay 68)) 1) (xG aC):=(cM (cz (λzz=>rfl) ms ik (λzz=>rfl)) ∅ (λzz=>rfl))
def lh(aC:a_):SF:=(jF (gf (af [(a9 2)] fy)) (ap (ff (cY [])) aP) aP)
theorem HC{aC:a_}(G:cK C)(h2:2≤n)(h_parse_varint:aI C n "_parse_varint" aR)(hISEOF:aI C n "ISEOF" fy):aQ C n lE (dD (aq (ay 68)) 2) (lh aC):=(g8 (ii (λzz zz=>rfl) (cg hISEOF (ag rfl ik ae) (λzz=>rfl) ∅ ∅ ∅)) (ak (da (cZ ae)) aN) aN)
theorem KL:aA C lE "left" 3:=bu 3 ∅
theorem D8:aA C lE "right" 4:=bu 4 ∅
theorem wG:ab C n lE (.Name "left" pos) (a9 3):=b9 3 ∅
theorem tj:ab C n lE (.Name "right" pos) (a9 4):=b9 4 ∅
def oR(aC:a_):SF:=(jF (gf (af [(a9 2)] bR)) (ap (cb 3 (af [(a9 0),(a9 1)] aC)) (ap (cb 4 (af [(a9 0),(a9 1)] aC)) (ap (ff (cY [(aj (a9 2) (kI 256) (aS λx y=>some (x-y))),(aj (aF (a9 3) (kI 1)) (aF (a9 4) (kI 1)) aT),(a9 3),(a9 4)])) aP))) aP)
theorem HS{aC:a_}(G:cK C)(h2:2≤n)(h_parse_varint:aI C n "_parse_varint" aR)(hISEOF:aI C n "ISEOF" fy)(hISNONTERMINAL:aI C n "ISNONTERMINAL" bR)(h_law_formula:aI C n "_law_formula" aC):aQ C n lE (dD (aq (ay 68)) 3) (oR aC):=(g8 (ii (λzz zz=>rfl) (cg hISNONTERMINAL (ag rfl ik ae) (λzz=>rfl) ∅ ∅ ∅)) (ak (bE (cg h_law_formula (ag rfl qK (ag rfl ms ae)) (λzz=>rfl) ∅ ∅ ∅) KL (λzz zz=> ∅)) (ak (bE (cg h_law_formula (ag rfl qK (ag rfl ms ae)) (λzz=>rfl) ∅ ∅ ∅) D8 (λzz zz=> ∅)) (ak (da (cZ (ag rfl (av ik am j5) (ag rfl (av (bk wG am (λzz zz=>rfl)) (bk tj am (λzz zz=>rfl)) br) (ag rfl wG (ag rfl tj ae)))))) aN))) aN)
abbrev vb:Scope:=jO [(".0",.local),("one",.local),("ISTERMINAL",.globalImplicit)]
abbrev Jk:Cx:=bQ lE vb
theorem DP:aA C Jk "one" 5:=bu 5 ∅
theorem sx:ab C n Jk (.Name "one" pos) (a9 5):=b9 5 ∅
def sK(aC:a_):SF:=(ff (cY [(a9 2),(aU [(aj (af [(ce vb (aK false (a9 1)) (dz 5) (cX (gf (af [(a9 5)] co)) (aY (a9 5))))] dC) (kI 1) (aS λx y=>some (x-y)))])]))
theorem JF{aC:a_}(G:cK C)(h2:2≤n)(h_parse_varint:aI C n "_parse_varint" aR)(hISEOF:aI C n "ISEOF" fy)(hISNONTERMINAL:aI C n "ISNONTERMINAL" bR)(h_law_formula:aI C n "_law_formula" aC)(hISTERMINAL:aI C n "ISTERMINAL" co):aQ C n lE (dD (aq (ay 68)) 4) (sK aC):=(da (cZ (ag rfl ik (ag rfl (bb (ag rfl (av (cq (fv:=.builtin "len") (G.no _ ∅) ∅ ∅ (bf _) eX (ag rfl (cE (bw ∅ h2 (λzz zz=>rfl) (bN _ _ _ _ _ _) (c9 ms) (bM DP) (j1 (ii (λzz zz=>rfl) (cg hISTERMINAL (ag rfl sx ae) (λzz=>rfl) ∅ ∅ ∅))) (bZ sx))) ae) (λzz=>rfl) (λzz=>rfl) ∅ ∅ ∅) am j5) ae)) ae))))
def f68(aC:a_):SF:=(ap (v_ aC) (ap (xG aC) (ap (lh aC) (ap (oR aC) (ap (sK aC) aP)))))
theorem b68{aC:a_}(G:cK C)(h2:2≤n)(h_parse_varint:aI C n "_parse_varint" aR)(hISEOF:aI C n "ISEOF" fy)(hISNONTERMINAL:aI C n "ISNONTERMINAL" bR)(h_law_formula:aI C n "_law_formula" aC)(hISTERMINAL:aI C n "ISTERMINAL" co):cD C n lE (aq (ay 68)) (f68 aC):=(ak (Il G h2 h_parse_varint) (ak (H6 G h2 h_parse_varint) (ak (HC G h2 h_parse_varint hISEOF) (ak (HS G h2 h_parse_varint hISEOF hISNONTERMINAL h_law_formula) (ak (JF G h2 h_parse_varint hISEOF hISNONTERMINAL h_law_formula hISTERMINAL) aN)))))
theorem c68{aC:a_}(G:cK C)(h2:2≤n)(h_parse_varint:aI C n "_parse_varint" aR)(hISEOF:aI C n "ISEOF" fy)(hISNONTERMINAL:aI C n "ISNONTERMINAL" bR)(h_law_formula:aI C n "_law_formula" aC)(hISTERMINAL:aI C n "ISTERMINAL" co)(h:dj C "_law_formula" 68):aI C (n+1) "_law_formula" (cA 2 (ao (ay 68)) (f68 aC)):=
 gQ ["tape","told"] h (b68 G h2 h_parse_varint hISEOF hISNONTERMINAL h_law_formula hISTERMINAL) (λzz zz zz=>IG λzz zz=> ∅) ∅ ∅ ∅ ∅ ∅
noncomputable def wT:Nat→a_
 |0=> λzz zz=>none
 |m+1=>cA 2 (ao (ay 68)) (f68 (wT m))
theorem d68(G:cK C)(h2:2≤n)(h_parse_varint:aI C n "_parse_varint" aR)(hISEOF:aI C n "ISEOF" fy)(hISNONTERMINAL:aI C n "ISNONTERMINAL" bR)(hISTERMINAL:aI C n "ISTERMINAL" co)(h:dj C "_law_formula" 68):∀m,aI C (n+m) "_law_formula" (wT m)
 |0=>tC h
 |m+1=>c68 G (L3 h2 (Fu ..)) (h_parse_varint.mono (Fu ..)) (hISEOF.mono (Fu ..)) (hISNONTERMINAL.mono (Fu ..)) (d68 G h2 h_parse_varint hISEOF hISNONTERMINAL hISTERMINAL h m) (hISTERMINAL.mono (Fu ..)) h
noncomputable def aC:a_:=wT 12
abbrev dO:Cx:=dh (ao (ay 70))
theorem JR:aA C dO "turn" 4:=bu 4 ∅
theorem Dl:aA C dO "roots" 0:=eW 0 ∅ ∅ ∅
theorem fH:ab C n dO (.Name "roots" pos) (a9 0):=bF 0 2 ∅ (by decide) ∅ ∅ ∅
abbrev tL:Scope:=jO [(".0",.local),("one",.local),("part",.local),("EXACT_TOKEN_TYPES",.globalImplicit)]
abbrev ub:Cx:=bQ dO tL
theorem Eh:aA C ub "one" 16:=bu 16 ∅
theorem on:ab C n ub (.Name "one" pos) (a9 16):=b9 16 ∅
theorem xS:aA C ub "part" 17:=bu 17 ∅
theorem yP:ab C n ub (.Name "part" pos) (a9 17):=b9 17 ∅
def BA(aO:a_):SF:=(jK (aK false (af [(kI 5)] cH)) (dz 4) (ap (cb 0 (ce tL (aK false (a9 0)) (dz 16) (cX bg (gk (aK false (dx (bA (aF (a9 16) (kI 0)) (jI kn (kS "|")) dK) (ci (a9 16) (aL (kI 2)) ba) (cY [(a9 16)]))) (dz 17) (cX bg (aY (a9 17))))))) aP) aP)
theorem Gf{aO:a_}(G:cK C)(h2:2≤n):aQ C n dO (dD (aq (ay 70)) 0) (BA aO):=(gp h2 (c9 (cq (fv:=.type "range") (G.no _ ∅) ∅ ∅ (bD _) dM (ag rfl am ae) (λzz=>rfl) (λzz=>rfl) ∅ ∅ ∅)) (bM JR) (ak (bE (cE (bw ∅ h2 (λzz zz=>rfl) (im _ _ _ _ _ _ _ _ _) (c9 fH) (bM Eh) cI (kv h2 (c9 (fV (cn (bk on am (λzz zz=>rfl)) (IZ G bT (λzz zz=>rfl) ∅ ∅) dR ∅) (dQ on (cw am) dE) (cZ (ag rfl on ae)))) (bM xS) cI yP (λzz zz=>rfl)))) Dl (o_ ∅)) aN) aN (λzz zz=>rfl))
abbrev ul:Scope:=jO [(".0",.local),("one",.local),("len",.globalImplicit)]
abbrev Ib:Cx:=bQ dO ul
theorem E4:aA C Ib "one" 16:=bu 16 ∅
theorem Em:ab C n Ib (.Name "one" pos) (a9 16):=b9 16 ∅
theorem Jt:aA C dO "pair" 6:=bu 6 ∅
abbrev y8:Scope:=jO [(".0",.local),("places",.local),("_law_units",.globalImplicit),("cells",.free),("mates",.free)]
abbrev v8:Cx:=bQ dO y8
theorem tw:aA C v8 "places" 16:=bu 16 ∅
theorem vc:ab C n v8 (.Name "places" pos) (a9 16):=b9 16 ∅
theorem vm:ab C n v8 (.Name "mates" pos) (a9 1):=bF 1 3 ∅ (by decide) ∅ ∅ ∅
theorem vO:ab C n v8 (.Name "cells" pos) (a9 2):=bF 2 3 ∅ (by decide) ∅ ∅ ∅
theorem l4:ab C n dO (.Name "asked" pos) (a9 3):=b9 3 ∅
theorem vY:ab C n dO (.Name "pair" pos) (a9 6):=b9 6 ∅
def sn(aO:a_):SF:=(jF (bA (ce ul (aK false (a9 0)) (dz 16) (cX bg (aY (af [(a9 16)] dC)))) (aU [(kI 2),(kI 2)]) dK) (ap (gb 6 y8 (aK false (cY [(aj (aF (aF (a9 0) (kI 0)) (kI 1)) (aF (aF (a9 0) (kI 1)) (kI 1)) aT),(aj (aF (aF (a9 0) (kI 1)) (kI 1)) (aF (aF (a9 0) (kI 0)) (kI 1)) aT)])) (dz 16) (cX bg (aY (dw (kS "") [(af [(a9 16),(a9 1),(a9 2),(kB false)] bB)] f5))) false) (ap (cj (eh (a9 3) (cY [(aU [(d_ (af [(aF (a9 6) (kI 0))] ar) (kB true) Lb),(d_ (af [(aF (a9 6) (kI 1))] ar) (kB false) Lb)]),(aU [(kB true),(kB true)])]))) (ap (ff (kB true)) aP))) aP)
theorem IS{aO:a_}(G:cK C)(h2:2≤n)(h_law_units:aI C n "_law_units" bB)(h_check_parenthesis:aI C n "_check_parenthesis" ar):aQ C n dO (dD (aq (ay 70)) 1) (sn aO):=(g8 (cn (cE (bw ∅ h2 (λzz zz=>rfl) (bN _ _ _ _ _ _) (c9 fH) (bM E4) cI (bZ (cq (fv:=.builtin "len") (G.no _ ∅) ∅ ∅ (bf _) eX (ag rfl Em ae) (λzz=>rfl) (λzz=>rfl) ∅ ∅ ∅)))) (bb (ag rfl am (ag rfl am ae))) dR ∅) (ak (gz false (bw ∅ h2 (λzz zz=>rfl) (bN _ _ _ _ _ _) (c9 (cZ (ag rfl (av (bk (bk fH am (λzz zz=>rfl)) am (λzz zz=>rfl)) (bk (bk fH am (λzz zz=>rfl)) am (λzz zz=>rfl)) br) (ag rfl (av (bk (bk fH am (λzz zz=>rfl)) am (λzz zz=>rfl)) (bk (bk fH am (λzz zz=>rfl)) am (λzz zz=>rfl)) br) ae)))) (bM tw) cI (bZ (fW (λzz=>rfl) Kg Kk gV bT (ag rfl (cg h_law_units (ag rfl vc (ag rfl vm (ag rfl vO (ag rfl dk ae)))) (λzz=>rfl) ∅ ∅ ∅) ae) (λzz=>rfl) (λzz=>rfl)))) Jt (fh ∅ ∅ ∅ ∅)) (ak (cM (cz (λzz=>rfl) l4 (cZ (ag rfl (bb (ag rfl (fx (cg h_check_parenthesis (ag rfl (bk vY am (λzz zz=>rfl)) ae) (λzz=>rfl) ∅ ∅ ∅) dk xk ∅) (ag rfl (fx (cg h_check_parenthesis (ag rfl (bk vY am (λzz zz=>rfl)) ae) (λzz=>rfl) ∅ ∅ ∅) dk xk ∅) ae))) (ag rfl (bb (ag rfl dk (ag rfl dk ae))) ae))) (λzz=>rfl)) ∅ (λzz=>rfl)) (ak (da dk) aN))) aN)
theorem ac6:aA C dO "k" 7:=eW 7 ∅ ∅ ∅
theorem ON:aA C dO "one" 5:=eW 5 ∅ ∅ ∅
theorem OI:ab C n dO (.Name "one" pos) (a9 5):=bF 5 2 ∅ (by decide) ∅ ∅ ∅
theorem Km:aA C dO "ways" 8:=bu 8 ∅
theorem Rq:ab C n dO (.Name "k" pos) (a9 7):=bF 7 2 ∅ (by decide) ∅ ∅ ∅
abbrev n_:Scope:=jO [(".0",.local),("j",.local),("k",.free),("one",.free),("roots",.free)]
abbrev qO:Cx:=bQ dO n_
theorem Pq:aA C qO "j" 16:=bu 16 ∅
theorem jT:ab C n qO (.Name "roots" pos) (a9 0):=bF 0 3 ∅ (by decide) ∅ ∅ ∅
theorem BO:ab C n qO (.Name "j" pos) (a9 16):=b9 16 ∅
theorem C0:ab C n qO (.Name "k" pos) (a9 7):=bF 7 3 ∅ (by decide) ∅ ∅ ∅
theorem sP:ab C n qO (.Name "one" pos) (a9 5):=bF 5 3 ∅ (by decide) ∅ ∅ ∅
theorem qG:ab C n dO (.Name "ways" pos) (a9 8):=b9 8 ∅
abbrev o5:Scope:=jO [(".0",.local),("j",.local),("k",.free),("one",.free),("roots",.free)]
abbrev qb:Cx:=bQ dO o5
theorem MC:aA C qb "j" 16:=bu 16 ∅
theorem sM:ab C n qb (.Name "one" pos) (a9 5):=bF 5 3 ∅ (by decide) ∅ ∅ ∅
theorem jZ:ab C n qb (.Name "roots" pos) (a9 0):=bF 0 3 ∅ (by decide) ∅ ∅ ∅
theorem AF:ab C n qb (.Name "k" pos) (a9 7):=bF 7 3 ∅ (by decide) ∅ ∅ ∅
theorem BV:ab C n qb (.Name "j" pos) (a9 16):=b9 16 ∅
theorem rX:aA C dO "stretches" 10:=bu 10 ∅
abbrev nM:Scope:=jO [(".0",.local),("way",.local)]
abbrev zT:Cx:=bQ dO nM
theorem Dg:aA C zT "way" 16:=bu 16 ∅
theorem ET:ab C n zT (.Name "way" pos) (a9 16):=b9 16 ∅
abbrev nY:Scope:=jO [(".0",.local),("part",.local),("place",.local)]
abbrev v9:Cx:=bQ zT nY
theorem Ah:aA C v9 "part" 17:=bu 17 ∅
theorem zR:ab C n v9 (.Name "part" pos) (a9 17):=b9 17 ∅
theorem vt:aA C v9 "place" 18:=bu 18 ∅
theorem vH:ab C n v9 (.Name "place" pos) (a9 18):=b9 18 ∅
theorem Dn:aA C dO "texts" 11:=bu 11 ∅
theorem li:ab C n dO (.Name "stretches" pos) (a9 10):=b9 10 ∅
abbrev rI:Scope:=jO [(".0",.local),("stretch",.local),("_law_units",.globalImplicit),("cells",.free),("mates",.free)]
abbrev tu:Cx:=bQ dO rI
theorem rY:aA C tu "stretch" 16:=bu 16 ∅
theorem rQ:ab C n tu (.Name "stretch" pos) (a9 16):=b9 16 ∅
theorem w5:ab C n tu (.Name "mates" pos) (a9 1):=bF 1 3 ∅ (by decide) ∅ ∅ ∅
theorem xq:ab C n tu (.Name "cells" pos) (a9 2):=bF 2 3 ∅ (by decide) ∅ ∅ ∅
theorem yb:aA C dO "handed" 12:=bu 12 ∅
theorem kF:ab C n dO (.Name "texts" pos) (a9 11):=b9 11 ∅
theorem FS:aA C dO "told" 13:=bu 13 ∅
theorem qZ:ab C n dO (.Name "handed" pos) (a9 12):=b9 12 ∅
theorem r6:ab C n dO (.Name "told" pos) (a9 13):=b9 13 ∅
abbrev nD:Scope:=jO [(".0",.local),("text",.local),("stretch",.local),("sorted",.globalImplicit),("mates",.free)]
abbrev ql:Cx:=bQ dO nD
theorem zM:aA C ql "text" 16:=bu 16 ∅
theorem sa:aA C ql "stretch" 17:=bu 17 ∅
theorem ll:ab C n ql (.Name "stretch" pos) (a9 17):=b9 17 ∅
abbrev lu:Scope:=jO [(".0",.local),("place",.local),("mates",.free)]
abbrev yD:Cx:=bQ ql lu
theorem wI:aA C yD "place" 18:=bu 18 ∅
theorem xl:ab C n yD (.Name "mates" pos) (a9 1):=bF 1 3 ∅ (by decide) ∅ ∅ ∅
theorem vg:ab C n yD (.Name "place" pos) (a9 18):=b9 18 ∅
theorem yo:ab C n ql (.Name "text" pos) (a9 16):=b9 16 ∅
theorem Pn:aA C dO "way" 9:=bu 9 ∅
theorem G8:aA C dO "text" 14:=bu 14 ∅
theorem KJ:aA C dO "kept" 15:=bu 15 ∅
theorem Gx:ab C n dO (.Name "kept" pos) (a9 15):=b9 15 ∅
theorem FY:ab C n dO (.Name "text" pos) (a9 14):=b9 14 ∅
theorem AP:ab C n dO (.Name "way" pos) (a9 9):=b9 9 ∅
theorem sH:ab C n dO (.Name "mates" pos) (a9 1):=bF 1 2 ∅ (by decide) ∅ ∅ ∅
theorem sZ:ab C n dO (.Name "cells" pos) (a9 2):=bF 2 2 ∅ (by decide) ∅ ∅ ∅
def B7(aO:a_):SF:=(jK (b_ [(a9 0)] ga) (j6 7 5) (ap (jF (bA (aF (a9 5) (kI 0)) (jI kn (kS "*")) dK) (ap (gb 8 n_ (aK false (af [(aj (a9 7) (kI 1) aT)] cH)) (dz 16) (cX bg (aY (cY [(aj (ci (a9 0) (aL (a9 16)) (aL (a9 7))) (aU [(aF (a9 5) (kI 2))]) aT),(aj (aj (ci (a9 0) ba (aL (a9 16))) (aU [(aF (a9 5) (kI 3))]) aT) (ci (a9 0) (aL (aj (a9 7) (kI 1) aT)) ba) aT)]))) true) (ap (cj (se (a9 8) (ce o5 (aK false (af [(aj (a9 7) (kI 1) aT),(aj (af [(a9 0)] dC) (kI 1) aT)] cH)) (dz 16) (cX bg (aY (cY [(aj (aU [(aF (a9 5) (kI 3))]) (ci (a9 0) (aL (aj (a9 7) (kI 1) aT)) (aL (a9 16))) aT),(aj (aj (ci (a9 0) ba (aL (a9 7))) (aU [(aF (a9 5) (kI 2))]) aT) (ci (a9 0) (aL (a9 16)) ba) aT)])))))) (ap (gb 10 nM (aK false (a9 8)) (dz 16) (cX bg (aY (ce nY (aK false (aF (a9 16) (kI 0))) (dz 17) (cX bg (gk (aK false (aF (a9 17) (kI 1))) (dz 18) (cX bg (aY (a9 18)))))))) false) (ap (gb 11 rI (aK false (a9 10)) (dz 16) (cX bg (aY (dw (kS "") [(af [(a9 16),(a9 1),(a9 2),(kB false)] bB)] f5))) false) (ap (cb 12 (af [(a9 11)] mo)) (ap (cb 13 (af [(a9 12)] aX)) (ap (cj (se (a9 3) (aU [(cY [(af [(a9 13)] mo),(ce nD (b_ [(a9 11),(a9 10)] lr) (j6 16 17) (cX bg (aY (dx (bA (af [(ce lu (aK false (a9 17)) (dz 18) (cX bg (aY (aF (a9 1) (a9 18)))))] kR) (a9 17) dK) (a9 16) (kS "('', '')")))))]),(cY [(a9 12),(a9 11)])]))) (ap (cj (eh (a9 13) (kS ""))) (ap (jK (b_ [(a9 8),(a9 11),(a9 13)] BX) (Z5 9 14 15) (ap (jF (bA (a9 15) (a9 14) dK) (ap (ff (sk (af [(aF (a9 9) (kI 0)),(a9 1),(a9 2),(a9 3)] aO) (af [(aF (a9 9) (kI 1)),(a9 1),(a9 2),(a9 3)] aO))) aP) aP) aP) aP) aP))))))))) aP) aP) aP)
theorem GS{aO:a_}(G:cK C)(h2:2≤n)(h_law_units:aI C n "_law_units" bB)(h_check_parenthesis:aI C n "_check_parenthesis" ar)(h_pre_parse_validation:aI C n "_pre_parse_validation" aX)(h_law_proved:aI C n "_law_proved" aO):aQ C n dO (dD (aq (ay 70)) 2) (B7 aO):=(gp h2 (ka (fv:=.type "enumerate") (G.no _ ∅) ∅ ∅ (bD _) iT (ag rfl fH ae) (λzz=>rfl) (λzz=>rfl) ∅ ∅ ∅) (eY ac6 ON) (ak (g8 (cn (bk OI am (λzz zz=>rfl)) (IZ G bT (λzz zz=>rfl) ∅ ∅) dR ∅) (ak (gz true (bw ∅ h2 (λzz zz=>rfl) (bN _ _ _ _ _ _) (c9 (cq (fv:=.type "range") (G.no _ ∅) ∅ ∅ (bD _) dM (ag rfl (av Rq am br) ae) (λzz=>rfl) (λzz=>rfl) ∅ ∅ ∅)) (bM Pq) cI (bZ (cZ (ag rfl (av (dQ jT (cw BO) (cw C0)) (bb (ag rfl (bk sP am (λzz zz=>rfl)) ae)) br) (ag rfl (av (av (dQ jT dE (cw BO)) (bb (ag rfl (bk sP am (λzz zz=>rfl)) ae)) br) (dQ jT (cw (av C0 am br)) dE) br) ae))))) Km (fh ∅ ∅ ∅ ∅)) (ak (cM (kJ (λzz=>rfl) qG (cE (bw ∅ h2 (λzz zz=>rfl) (bN _ _ _ _ _ _) (c9 (cq (fv:=.type "range") (G.no _ ∅) ∅ ∅ (bD _) dM (ag rfl (av Rq am br) (ag rfl (av (cq (fv:=.builtin "len") (G.no _ ∅) ∅ ∅ (bf _) eX (ag rfl fH ae) (λzz=>rfl) (λzz=>rfl) ∅ ∅ ∅) am br) ae)) (λzz=>rfl) (λzz=>rfl) ∅ ∅ ∅)) (bM MC) cI (bZ (cZ (ag rfl (av (bb (ag rfl (bk sM am (λzz zz=>rfl)) ae)) (dQ jZ (cw (av AF am br)) (cw BV)) br) (ag rfl (av (av (dQ jZ dE (cw AF)) (bb (ag rfl (bk sM am (λzz zz=>rfl)) ae)) br) (dQ jZ (cw BV) dE) br) ae)))))) (λzz=>rfl)) ∅ (λzz=>rfl)) (ak (gz false (bw ∅ h2 (λzz zz=>rfl) (bN _ _ _ _ _ _) (c9 qG) (bM Dg) cI (bZ (cE (bw ∅ h2 (λzz zz=>rfl) (im _ _ _ _ _ _ _ _ _) (c9 (bk ET am (λzz zz=>rfl))) (bM Ah) cI (kv h2 (c9 (bk zR am (λzz zz=>rfl))) (bM vt) cI vH (λzz zz=>rfl)))))) rX (fh ∅ ∅ ∅ ∅)) (ak (gz false (bw ∅ h2 (λzz zz=>rfl) (bN _ _ _ _ _ _) (c9 li) (bM rY) cI (bZ (fW (λzz=>rfl) Kg Kk gV bT (ag rfl (cg h_law_units (ag rfl rQ (ag rfl w5 (ag rfl xq (ag rfl dk ae)))) (λzz=>rfl) ∅ ∅ ∅) ae) (λzz=>rfl) (λzz=>rfl)))) Dn (fh ∅ ∅ ∅ ∅)) (ak (bE (cq (fv:=.type "list") (G.no _ ∅) ∅ ∅ (bD _) tT (ag rfl kF ae) (λzz=>rfl) (λzz=>rfl) ∅ ∅ ∅) yb (λzz zz=> ∅)) (ak (bE (cg h_pre_parse_validation (ag rfl qZ ae) (λzz=>rfl) ∅ ∅ ∅) FS (λzz zz=> ∅)) (ak (cM (kJ (λzz=>rfl) l4 (bb (ag rfl (cZ (ag rfl (cq (fv:=.type "list") (G.no _ ∅) ∅ ∅ (bD _) tT (ag rfl r6 ae) (λzz=>rfl) (λzz=>rfl) ∅ ∅ ∅) (ag rfl (cE (bw ∅ h2 (λzz zz=>rfl) (bN _ _ _ _ _ _) (ka (fv:=.type "zip") (G.no _ ∅) ∅ ∅ (bD _) Bs (ag rfl kF (ag rfl li ae)) (λzz=>rfl) (λzz=>rfl) ∅ ∅ ∅) (eY zM sa) cI (bZ (fV (cn (cq (fv:=.builtin "sorted") (G.no _ ∅) ∅ ∅ (bf _) EL (ag rfl (cE (bw ∅ h2 (λzz zz=>rfl) (bN _ _ _ _ _ _) (c9 ll) (bM wI) cI (bZ (bk xl vg (λzz zz=>rfl))))) ae) (λzz=>rfl) (λzz=>rfl) ∅ ∅ ∅) ll dR ∅) yo bT)))) ae))) (ag rfl (cZ (ag rfl qZ (ag rfl kF ae))) ae))) (λzz=>rfl)) ∅ (λzz=>rfl)) (ak (cM (cz (λzz=>rfl) r6 bT (λzz=>rfl)) ∅ (λzz=>rfl)) (ak (gp h2 (ka (fv:=.type "zip") (G.no _ ∅) ∅ ∅ (bD _) OO (ag rfl qG (ag rfl kF (ag rfl r6 ae))) (λzz=>rfl) (λzz=>rfl) ∅ ∅ ∅) (Hh Pn G8 KJ) (ak (g8 (cn Gx FY dR ∅) (ak (da (yU (cg h_law_proved (ag rfl (bk AP am (λzz zz=>rfl)) (ag rfl sH (ag rfl sZ (ag rfl l4 ae)))) (λzz=>rfl) ∅ ∅ ∅) (cg h_law_proved (ag rfl (bk AP am (λzz zz=>rfl)) (ag rfl sH (ag rfl sZ (ag rfl l4 ae)))) (λzz=>rfl) ∅ ∅ ∅))) aN) aN) aN) aN (λzz zz=>rfl)) aN))))))))) aN) aN) aN (λzz zz=>rfl))
def GP(aO:a_):SF:=(ff (kB false))
theorem HL{aO:a_}(G:cK C)(h2:2≤n)(h_law_units:aI C n "_law_units" bB)(h_check_parenthesis:aI C n "_check_parenthesis" ar)(h_pre_parse_validation:aI C n "_pre_parse_validation" aX)(h_law_proved:aI C n "_law_proved" aO):aQ C n dO (dD (aq (ay 70)) 3) (GP aO):=(da dk)
def f70(aO:a_):SF:=(ap (BA aO) (ap (sn aO) (ap (B7 aO) (ap (GP aO) aP))))
theorem b70{aO:a_}(G:cK C)(h2:2≤n)(h_law_units:aI C n "_law_units" bB)(h_check_parenthesis:aI C n "_check_parenthesis" ar)(h_pre_parse_validation:aI C n "_pre_parse_validation" aX)(h_law_proved:aI C n "_law_proved" aO):cD C n dO (aq (ay 70)) (f70 aO):=(ak (Gf G h2) (ak (IS G h2 h_law_units h_check_parenthesis) (ak (GS G h2 h_law_units h_check_parenthesis h_pre_parse_validation h_law_proved) (ak (HL G h2 h_law_units h_check_parenthesis h_pre_parse_validation h_law_proved) aN))))
theorem c70{aO:a_}(G:cK C)(h2:2≤n)(h_law_units:aI C n "_law_units" bB)(h_check_parenthesis:aI C n "_check_parenthesis" ar)(h_pre_parse_validation:aI C n "_pre_parse_validation" aX)(h_law_proved:aI C n "_law_proved" aO)(h:dj C "_law_proved" 70):aI C (n+1) "_law_proved" (cA 4 (ao (ay 70)) (f70 aO)):=
 gQ ["roots","mates","cells","asked"] h (b70 G h2 h_law_units h_check_parenthesis h_pre_parse_validation h_law_proved) (λzz zz zz=>RL λzz zz zz zz=> ∅) ∅ ∅ ∅ ∅ ∅
noncomputable def IT:Nat→a_
 |0=> λzz zz=>none
 |m+1=>cA 4 (ao (ay 70)) (f70 (IT m))
theorem d70(G:cK C)(h2:2≤n)(h_law_units:aI C n "_law_units" bB)(h_check_parenthesis:aI C n "_check_parenthesis" ar)(h_pre_parse_validation:aI C n "_pre_parse_validation" aX)(h:dj C "_law_proved" 70):∀m,aI C (n+m) "_law_proved" (IT m)
 |0=>tC h
 |m+1=>c70 G (L3 h2 (Fu ..)) (h_law_units.mono (Fu ..)) (h_check_parenthesis.mono (Fu ..)) (h_pre_parse_validation.mono (Fu ..)) (d70 G h2 h_law_units h_check_parenthesis h_pre_parse_validation h m) h
noncomputable def aO:a_:=IT 12
end
noncomputable def rH(μ:List ah)(i:Nat):Option (List ah):=bo (μ[i]?.bind Sh) λxs=>oe (uncons xs) (some ()) (λp zz=>oe (dI p.1) (uncons p.2) (λzz zz=>none) (bo (dI p.1) λb=>if D5 b 64≠0∧(Hp (D5 b 63):Int)+6≤2^27 then some (μ.set i (.iter [])) else none)) (some (μ.set i (.iter [])))
theorem Ok(h:rH μ i=some μ')(k1:μ[i]? =some (.iter [])→μ'=μ.set i (.iter [])→G)
  (k2:∀b,μ[i]? =some (.iter [.int b])→D5 b 64≠0∧(Hp (D5 b 63):Int)+6≤2^27→μ'=μ.set i (.iter [])→G):G:=by
 refine ax h λxs e h=>?_;cases xs with
 |nil=>exact k1 (uV e) (Fh h).symm
 |cons d t=>
  have h:oe (dI d) (uncons t) (λzz zz=>none) (bo (dI d) λb=>if D5 b 64≠0∧(Hp (D5 b 63):Int)+6≤2^27 then some (μ.set i (.iter [])) else none)=some μ':=h;cases hd:dI d with
  |none=>rw [hd] at h;exact cv h
  |some b=>
   rw [hd] at h
   cases t with
   |nil=>exact i7 h λhc h=>k2 b (by rw [UJ hd] at e;exact uV e) hc (Fh h).symm
   |cons _ _=>exact cv h
noncomputable def cP:a_:= λVs μ=>bo (l1 Vs) λV=>bo (Fo V) λi=>(aR [.c i] μ).elim (bo (rH μ i) λμ'=>some (.d (.list []),μ')) (λp=>bo (vd p.1) λx=>some (.d (.list [x]),p.2))
end Mine
namespace Mine
open PySem PySem.W PySem.Calls PyProof.Rows
open Sem (wp)
variable {V V' : AV} {Cn D L TI TO a fa i1 i2 i3 z : Addr} {A : Around} {items zs : Array Value} {sh tup : Bool} {cf : CF} {c c' : ah} {C : gK} {cx : Cx} {f fi fo g : EF} {cenv env : Env} {mean : ExcName → Option Value} {e e1 e2 elt iter target test : Expr} {fl : Fl} {h h' : Heap} {itf : IF} {y : Int} {Vs : List AV} {M M' O T T' W wr α α' α1 α₀ : List Addr} {Mid : List Addr → List Addr → List Addr → List ah → Nat → Value → Shared → Prop} {St : List Addr → xN} {μ μ' μ'' μ1 μ2 μ3 μ₀ : List ah} {fs : List EF} {es : List Expr} {K cs ns os rest : List Int} {gi ls m ps : List Nat} {X acc acc' ds xs ys : List PyData} {body orelse : List Stmt} {vs : List Value} {ρ ρ' ρ1 ρ2 : d5} {tf : d5 → PyData → Option d5} {b i j ja jt k kk low mask n p q tk : Nat} {o : Obj} {op : Operator} {ha ke td te tx : Option AV} {hi lo : Option Expr} {gg : Option Nat} {apos pos px py sp tp xp : Pos} {prog : Program} {G : Prop} {d : PyData} {sc scope : Scope} {s s' s'' s1 s₀ : Shared} {spec : a_} {st : Stmt} {name x : Str} {t : TF} {u : Tok} {cd cls doc fv it pm v : Value} {E Q : Value → Shared → Prop} {w : World}
section
variable {M:Model} {R:GenEnd} {Y:Protocol} {c:Code} {fs:List Frame}
 {K:Flow→Sem Fin} {H:Value→Sem Fin} {gd:Bool→Bool} {lv:List Value→List Value}
theorem pL(h:wpAny M (A.over c fs) (exec st env) (λf s'=>Seg M A R Y n s₀ c (K f) fs s') (λx s'=>Seg M A R Y n s₀ c (H x) fs s') s):
 Seg M A R Y n s₀ c ((exec st env).wrap K H gd lv) fs s:=Sl h
theorem SM
  (h:wpAny M (A.over c fs) (isTrue test env (eval test env)) (λb s'=>if b=true then Seg M A R Y n s₀ c ((execs body env).wrap K H gd lv) fs s' else Seg M A R Y n s₀ c ((execs orelse env).wrap K H gd lv) fs s') (λx s'=>Seg M A R Y n s₀ c (H x) fs s') s):
  Seg M A R Y n s₀ c ((exec (.If test body orelse pos) env).wrap K H gd lv) fs s:=by
 rw [exec_If];refine seg_at ?_
 show Seg M A R Y n s₀ c (UY K H gd lv (isTrue test env (eval test env)>>= λb=>if b=true then execs body env else execs orelse env)) fs s
 rw [LD,N1];refine Sl (D2 h (λb s' hb=>?_) λzz zz x=>x);cases b with
 |true=>simpa using hb
 |false=>simpa using hb
theorem ML(hs:∀x,foldedSetIterable iter env x=pure x)
  (h:wpAny M (A.over c fs) (eval iter env) (λx s1=>wpAny M (A.over c fs) (pyIter x) (λit s2=>∀p,Seg M A R Y n s₀ (.forLoop target it body orelse env) (M.den (.forLoop target it body orelse env))
   (.ret (λr=>((match r with| .ok f=>(.pure f:Sem Flow)| .error e=>.raise e).onRaise λ(x:Value)=>do
    if (←field x 1)==Lo then unsupported "frame.own-activation:exception-without-traceback"
    setFlight x env.frame).wrap K H gd lv) none (gd false) (lv []) c p []::fs) s2) (λx s'=>Seg M A R Y n s₀ c (H x) fs s') s1) (λx s'=>Seg M A R Y n s₀ c (H x) fs s') s):
  Seg M A R Y n s₀ c ((exec (.For target iter body orelse pos) env).wrap K H gd lv) fs s:=by
 rw [exec_For];refine seg_at ?_
 show Seg M A R Y n s₀ c (UY K H gd lv (eval iter env>>= λx=>foldedSetIterable iter env x>>= λx=>standAt iter.pos>>= λzz=>holding [x] (pyIter x)>>= λit=>runOwn (.forLoop target it body orelse env) env)) fs s
 rw [LD,N1];refine Sl (D2 h (λx s1 h1=>?_) λzz zz x=>x);rw [hs]
 show Seg M A R Y n s₀ c (.at iter.pos λzz=>UY K H gd lv (holding [x] (pyIter x)>>= λit=>runOwn (.forLoop target it body orelse env) env)) fs s1
 refine seg_at ?_;rw [LD,N1];refine Sl (Ld (D2 h1 (λit s2 h2=>?_) λzz zz x=>x));exact seg_call h2
end
section
variable {R:GenEnd} {Y:Protocol} {fs:List Frame}
theorem oC
  (h:wpAny (model prog w) (A.over (.forLoop target it body orelse env) fs) (pyNext it) (λr s1=>match r with
   |none=>Seg (model prog w) A R Y n s₀ (.block orelse env) ((model prog w).den (.block orelse env)) fs s1
   |some v=>wpAny (model prog w) (A.over (.forLoop target it body orelse env) fs) (letOwnedTupleGo target it v) (λzz s2=>wpAny (model prog w) (A.over (.forLoop target it body orelse env) fs) (assign target env v) (λzz s3=>
     Seg (model prog w) A R Y n s₀ (.forLoop target it body orelse env) ((execs body env).wrap (λf=>match f with
      | .next| .cont=>.pure (.again (.forLoop target it body orelse env))
      | .brk=>.pure (.done .next)
      | .ret v=>.pure (.done (.ret v))) (λe=>(do noteFrame e env;theTreesLotGoes e:Sem Unit).wrap (λzz=>.raise e) .raise id id) id id) fs s3) (λzz zz=>False) s2) (λzz zz=>False) s1) (λzz zz=>False) s):
  Seg (model prog w) A R Y n s₀ (.forLoop target it body orelse env) ((model prog w).den (.forLoop target it body orelse env)) fs s:=by
 refine (?_:Seg _ A R Y n s₀ _ ((forTurn target it body orelse env).onRaise (λx=>do noteFrame x env;theTreesLotGoes x)) fs s);unfold forTurn;rw [Sem.onRaise_eq_wrap];refine seg_at ?_;refine (?_:Seg _ A R Y n s₀ _ (UY .pure _ id id (((pyNext it).onRaise _)>>=_)) fs s);rw [LD,N1];refine Sl (T3 (D2 h (λr s1 h1=>?_) λzz zz x=>x.elim));cases r with
 |none=>exact Us rfl h1
 |some v=>
  dsimp only at h1⊢
  rw [LD,N1];refine Sl (D2 h1 (λzz s2 h2=>?_) λzz zz x=>x.elim);rw [LD,N1];refine Sl (D2 h2 (λzz s3 h3=>?_) λzz zz x=>x.elim);rw [LD,N1];rw [Sem.wrap_congr (execs body env) _ _ (K':= λf=>match f with
      | .next| .cont=>.pure (.again (.forLoop target it body orelse env))
      | .brk=>.pure (.done .next)
      | .ret v=>.pure (.done (.ret v))) (H':=(λe=>(do noteFrame e env;theTreesLotGoes e:Sem Unit).wrap (λzz=>.raise e) .raise id id))
    (λf=>by cases f<;>rfl)
    (λe=>by first|exact Ud _ _| (show (do noteFrame e env;theTreesLotGoes e:Sem Unit).bind (λzz=>.raise e)=_;rw [Ud]))]
  exact h3
end
noncomputable def A0:Around:=⟨none,591,none,none,9099⟩
theorem ZN{Γ:Ctx}(R:cR A 2)(h:Γ.In A):Γ.In A0:=by
 refine iq h λh1 h2 h3 h4 h5=>?_;have d:=R.depth;have u:=R.units;unfold cLine at u
 refine (uR (by rw [h1,R.handled];rfl) ?_ (λl e=>by exact cv e) (λg e=>by exact cv e) ?_)
 ·show _≤591;lia
 ·show _≤9099;lia
theorem wS{M:Model}{α:Type}{m:Sem α}{Q:α→Shared→Prop}(R:cR A 2)(h:wpAny M A0 m Q E s):wpAny M A m Q E s:=
 λΓ p hΓ=>h Γ p (ZN R hΓ)
section
theorem oG{g:Nat}{gs:GenState}{P:Nat→Shared→Shared→Prop}{Y:Protocol}{Q:Option Value→Shared→Prop}(hh:A.handled=none)
  (hl:s.heap.NoLimit) (hroom:A.depth<recursionLimit)
  (hg:s.heap.IsGen a g) (hgs:s.gens[g]? =some gs)
  (hgo:gs.Goes (model prog w) A.in1 (λn s₀ r s₁=>r=.ok (.ret .none)∧P n s₀ s₁) Y n (.send .none) (s.setGen g .running))
  (hY:∀v s₁ gs',gs'.bare=true→Y (n-1) (s.setGen g .running) v s₁ (λr' s''=>match n with
    |0=>False
    |m+1=>gs'.Goes (model prog w) A.in1 (λn s₀ r s₁=>r=.ok (.ret .none)∧P n s₀ s₁) Y m r' s'')→Q (some v) (s₁.setGen g gs'))
  (hP:∀s₁,P n (s.setGen g .running) s₁→∀h',(∀b o,s₁.heap.get? b=some o→h'.get? b=some o)→Q none {s₁.setGen g .finished with heap:=h'}):
  wpAny (model prog w) A (pyNext (.ref a)) Q E s:=by
 unfold pyNext;refine yS (T5 (Ju (name:=Ks "__next__") hg.typeIs slot_gen_next
  (Ll slot_gen_next hg.typeIs entry_gen_next ?_ (args_gen_next _))))
 refine (?_:wpAny _ A.in1 (Qo (.ref a) (.send .none)) _ _ s);unfold Qo;refine yS (Ld (wpAny_genNumber hg (yS (wpAny_genState hgs ?_))));cases gs with
 |running=>exact hgo.elim
 |finished=>exact hgo.elim
 |_=>
  refine yS (wpAny_roomToWake hl hroom ?_);refine (?_:wpAny _ A.in1 (.resume g (.send .none) [] _) _ _ s);refine wpAny_resumeQ hgs hgo (λx s₁ hx=>?_) (λv s₁ gs' hb hv=>?_)
  ·refine f_ hx λzq0 hp=>?_
   refine bH (F6 zq0) ?_;refine (?_:wpAny _ A.in1 (newExc (.type "StopIteration") []>>=_) _ _ _);refine yS ?_;simp only [newExc,newTuple];refine yS (HQ ?_ (by size_fits));refine yS (m:=firstArgMember _ _) (Mf (a:=Lo) (by first|rfl| (simp only [firstArgMember];rfl)) ?_);refine HQ ?_ (by size_fits);refine yS (NH hh ?_);refine yS (Rt (T:="StopIteration") (b:=true) (aZ _ (Dy _ rfl) rfl) SE ?_);exact ES (hP s₁ hp _ λb o hb=>C5 _ (C5 _ hb))
  ·exact ES (aZ v rfl (ES (hY v s₁ gs' hb hv)))
theorem TX{g:Nat}{t:Expr}{Q:Unit→Shared→Prop}(hg:s.heap.IsGen a g)(h:Q () s):wpAny (model prog w) A (letOwnedTupleGo t (.ref a) v) Q E s:=by
 have key:∀t:Expr,letOwnedTupleGo t (.ref a) v=letOwnedTupleGo (.List [] ⟨0,0,0,0⟩) (.ref a) v∨letOwnedTupleGo t (.ref a) v=pure ():= λt=>by cases t<;>first|exact .inr rfl|exact .inl rfl
 refine (key t).elim (λe=>?_) λe=>?_
 ·rw [e]
  cases v with
  |ref b=>
   refine dp hg λo nm qn ho hc hd hsl=>?_;refine (?_:wpAny _ A (load a>>=_) _ _ s);refine yS (wpAny_load ho ?_);rw [hc,hd];refine (?_:wpAny _ A (if (["enumerate","zip","dict_itemiterator","dict_reverseitemiterator","odict_iterator","itertools.zip_longest","itertools.pairwise"].contains "generator"&&_)=true then _ else _) _ _ s);rw [if_neg (by simp)];exact ES h
  |_=>exact ES h
 ·rw [e];exact ES h
end
section
variable {M:Model} {R:GenEnd} {Y:Protocol} {fs:List Frame}
theorem rW{k:Result→Sem Fin}{h:Option Value}{g:Bool}{l:List Value}{c₁:Code}{p₁:Pos}{kp:List Value}
  (hk:Seg (model prog w) A R Y n s₀ c₁ (k (.ok .next)) fs s):Seg (model prog w) A R Y n s₀ (.block [] env) ((model prog w).den (.block [] env)) (.ret k h g l c₁ p₁ kp::fs) s:=by
 have:(model prog w).den (.block [] env)=leafOf (.ok .next):=rfl
 rw [this];exact seg_leaf (.ok .next) hk
end
theorem bl.movesG(I:bl C T α μ s)(x:aG wr gi s s')(hw:∀b∈wr,b∈T∨s.heap.get? b=none)(hT:∀a∈T',a∈T∨s.heap.get? a=none)(hd:∀a∈T',∃o,s'.heap.get? a=some o):bl C T' α μ s':=by
 have nw:∀b,b∈T∨s.heap.get? b=none→C.B.get? b=none:= λb hb=>hb.elim (I.tnew b) I.fresh;have nα:∀b,b∈T∨s.heap.get? b=none→b∉α:= λb hb q=>hb.elim (λz=>I.apart b z q) (I.cdom q);have k:iI wr (T++ai α μ) s.heap:= λa ha=>(hw a ha).elim (λz=>.inr (.inr (ye _ z))) .inl;exact ⟨λb o e=>x.ext b o (I.keep b o e) λq=>cv ((nw b (hw b q)).symm.trans e),I.len,λi a c h1 h2=>(I.cells i a c h1 h2).ext x.ext k (B9 hT) (λzz q=>nα a (hw a q) (FW h1)),I.nodup,λa ha=>nα a (hT a ha),hd,λa ha=>nw a (hT a ha),I.new,x.bare I.gens,x.os.trans I.os⟩
theorem bl.base(I:bl C T α μ s)(hT:∀a∈T',a∈T):bl C T' [] [] s:=
 ⟨I.keep,rfl,λi a c h1 zz=>cv h1,Nb,λa zz h=>(nomatch h),λa ha=>I.tdom a (hT a ha),λa ha=>I.tnew a (hT a ha),λa h=>(nomatch h),I.gens,I.os⟩
theorem wU{gens:Array GenState}{g:Nat}{x:GenState}(h:AllBare gens)(hx:x.bare=true):AllBare (gens.setIfInBounds g x):= λy hy=>by
 obtain ⟨i,hi,rfl⟩:=Array.mem_iff_getElem.mp hy;have hi':i<gens.size:=by simpa using hi
 rw [Array.getElem_setIfInBounds hi']
 split
 ·exact hx
 ·exact h _ (Array.getElem_mem hi')
theorem bl.setGen{g:Nat}{x:GenState}(I:bl C T α μ s)(hx:x.bare=true):bl C T α μ (s.setGen g x):=
 ⟨I.keep,I.len,I.cells,I.nodup,I.apart,I.tdom,I.tnew,I.new,wU I.gens hx,I.os⟩
theorem aG.setGen{g:Nat}{x:GenState}(hx:x.bare=true):aG [] [g] s (s.setGen g x):=
 ⟨λzz zz zz e=>e,λi y hi e=>by
  refine (?_:(s.gens.setIfInBounds g x)[i]? =some y);rw [Ma (λq=>hi (by simp [q]))];exact e,rfl,λh=>wU h hx⟩
theorem aG.mono{wr':List Addr}{gi':List Nat}(x:aG wr gi s s')(h:∀a∈wr,a∈wr'∨s.heap.get? a=none)(hg:∀a∈gi,a∈gi'):aG wr' gi' s s':=
 ⟨λb o hb e=>x.heap b o (λq=>(h b q).elim hb λz=>by rw [z] at e;exact cv e) e,λi y hi e=>x.gens i y (λq=>hi (hg i q)) e,x.os,x.bare⟩
theorem aG.of_step(S:aV O [] [] s [] [] s')(I:bl C T [] [] s)(I':bl C T' [] [] s'):aG O [] s s':=
 ⟨λb o hb e=>S.ext b o e λq=>hb (by simpa [ai] using q),λi x zz e=>S.gens i x e,I'.os.trans I.os.symm,λzz=>I'.gens⟩
abbrev rT:Cx:=dh (ao (ay 1))
theorem l5:rT.names=([("addr",1),("pos",1),("escape",1),("ch",1)]:List (Str×Nat)):= ∅
structure yd (env:Env) (L:Addr):Prop where
 lo:env.locals=L
 sc:env.scope=rT.scope
 gl:env.globals=mainGlobals
 bn:env.builtins=builtinsNs
def Rf(x:Str)(i:Nat)(v:Value):Prop:=∃c u,x.cps[i]? =some c∧v=Vi ⟨#[c]⟩ u
noncomputable def mR(x:Str)(p:Int)(esc:Bool)(c:Option AV):d5:=[some (.d (.str x)),some (.d (.int p)),some (.d (.bool esc)),c]
theorem Y9{m:Str→Option Value}(G:yd env L)(hn:h.Ns L m)(hb:C.B.get? L=none)(hL:L∉T)(hl:ρ.length=4)
  (hv:∀ (i:Nat) x V,rT.names[i]? =some (x,1)→ρ[i]? =some (some V)→∃v,m x=some v∧bq h [] (T++ai [] []) v V):bh C rT env [L] ρ h [] (T++ai [] []):=by
 have hk1:∀ (i:Nat) x k,rT.names[i]? =some (x,k)→k=1:= λi x k e=>by
  rw [l5] at e
  have:=FW e
  simp only [Cc,QW,Er,or_false] at this
  rcases this with ⟨_,q⟩| ⟨_,q⟩| ⟨_,q⟩| ⟨_,q⟩<;>exact q
 refine ⟨G.sc,G.gl,G.bn,by rw [hl,l5];rfl,(aZ m (by rw [G.lo];exact hn) hv),⟨λzz=>0,λi x k e h2=>?_,λi x k e h2=>?_,λi x e=>?_,λi j x y k l e1 e2 h1 h2 q=>?_⟩,λa ha=>?_,by rw [G.lo];simp,λa ha q=>?_,λi j x e1 e2=>?_⟩
 ·have:=hk1 i x k e;lia
 ·have:=hk1 i x k e;lia
 ·have:=hk1 i x 2 e;lia
 ·have:=hk1 i x k e1;lia
 ·obtain rfl:a=L:=by simpa using ha
  exact ⟨fQ hn,hb⟩
 ·have ha':a∈T:=by simpa [ai] using ha
  rcases q with (q| ⟨i,x,k,e,h2,_⟩)|q
  ·rw [G.lo] at q;exact hL (q▸ha')
  ·have:=hk1 i x k e;lia
  ·obtain rfl:a=L:=by simpa using q
   exact hL ha'
 ·exact qA (scope:=ao (ay 1)) (of_decide_eq_true ∅) e1 e2
noncomputable def gc:Option AV→Prop
 |some (.d (.str _))=>True
 |some (.d (.int _))=>True
 |some (.d (.bool _))=>True
 |none=>True
 |_=>False
theorem Ub{i:Int}:∀d∈([.int i,.str x]:List PyData),gc (some (.d d)):= λd h=>by
 rcases Cc.mp h with h|h
 ·rw [h];trivial
 ·rw [Aq.mp h];trivial
theorem qB(h:gc (some V)){h1 h2:Heap}{α2 M1 M2:List Addr}(r:bq h1 α1 M1 v V):bq h2 α2 M2 v V:=by
 match V,h,r with
 | .d (.str _),_,r=>refine bP (aJ.of_str r) λt zq1=>?_;refine bH (F6 zq1) ?_;exact aJ.str ..
 | .d (.int _),_,r=>refine bP (aJ.of_int r) λt zq1=>?_;refine bH (F6 zq1) ?_;exact aJ.int ..
 | .d (.bool _),_,r=>obtain rfl:=aJ.of_bool r;exact aJ.bool ..
theorem tl{m:Str→Option Value}(hn:h.Ns L m)(hs:∀o,h.get? L=some o→h'.get? L=some o):h'.Ns L m:=by
 refine fq hn λob es ep e d=>?_;exact (lK ob es ep (hs _ e) d)
theorem bh.same(G:yd env L)(F:bh C rT env [L] ρ h [] (T++ai [] []))(hs:∀o,h.get? L=some o→h'.get? L=some o)(hsm:∀V∈ρ,gc V):bh C rT env [L] ρ h' [] (T++ai [] []):=by
 refine au F.loc λm hm hq=>?_;rw [G.lo] at hm
 refine Y9 G (tl hm hs) (F.own L (by simp)).2 (λq=>F.off L (ye _ q) (.inr (by simp))) (by rw [F.len,l5];rfl) λi x V e1 e2=>?_;refine au (hq i x V e1 e2) λv e r=>?_;exact (aZ v e (qB (hsm _ (FW e2)) r))
section
open PySem.Builtin PySem.Builtin.Str in
theorem mc{it:Addr}{t:Tok}(hh:A.handled=none)
  (hit:s.heap.IsStrIter it "str_ascii_iterator" x t i) (hx:x.cps[i]? =none)
  (hE:∀h' e,P4 it s.heap h'→(∃o,h'.get? it=some o)→(∃o,h'.get? e=some o∧o.cls=.type "StopIteration")→E (.ref e) {s with heap:=h'}):
  wpAny (model prog w) A (L5 (.ref it)) Q E s:=by
 refine ct (id hit) λo ho hc hd=>?_;unfold L5;refine yS (Ju (name:=Ks "__next__") hit.typeIs Pl
  (Ll Pl hit.typeIs F.entry_str_ascii_iterator_next ?_ (F.args_str_ascii_iterator_next_1 _)))
 refine (?_:wpAny _ _ (field (.ref it) 0>>=_) _ _ s);refine yS (L2 ho hd (x:=.str x t) rfl ?_);refine (?_:wpAny _ _ (field (.ref it) 1>>=_) _ _ s);refine yS (L2 ho hd (x:=.int i 0) rfl ?_);simp only [Fq,hx];refine yS (O7 (yS (P8 ho hd (by simp) (yS (SN ?_)))));refine (?_:wpAny _ _ (newExc (.type "StopIteration") []>>=_) _ _ _);refine yS ?_;simp only [newExc,newTuple];refine yS (HQ ?_ (by size_fits));refine yS (m:=firstArgMember _ _) (Mf (a:=Lo) (by first|rfl| (simp only [firstArgMember];rfl)) ?_);refine HQ ?_ (by size_fits);refine NH hh ?_;exact hE _ _ (((L9 ..).extBut.push _).push _) ⟨_,C5 _ (C5 _ (Fw _ ho (M0 (Lg hd _))))⟩ (aZ _ (Dy _ rfl) rfl)
open PySem.Builtin PySem.Builtin.Str in
theorem nR{it:Addr}{t:Tok}(hh:A.handled=none)
  (hit:s.heap.IsStrIter it "str_iterator" x t i) (hx:x.cps[i]? =none)
  (hE:∀h' e,P4 it s.heap h'→(∃o,h'.get? it=some o)→(∃o,h'.get? e=some o∧o.cls=.type "StopIteration")→E (.ref e) {s with heap:=h'}):
  wpAny (model prog w) A (L5 (.ref it)) Q E s:=by
 refine ct (id hit) λo ho hc hd=>?_;unfold L5;refine yS (Ju (name:=Ks "__next__") hit.typeIs QO
  (Ll QO hit.typeIs F.entry_str_iterator_next ?_ (F.args_str_iterator_next_1 _)))
 refine (?_:wpAny _ _ (field (.ref it) 0>>=_) _ _ s);refine yS (L2 ho hd (x:=.str x t) rfl ?_);refine (?_:wpAny _ _ (field (.ref it) 1>>=_) _ _ s);refine yS (L2 ho hd (x:=.int i 0) rfl ?_);simp only [Fq,hx];refine yS (O7 (yS (P8 ho hd (by simp) (yS (SN ?_)))));refine (?_:wpAny _ _ (newExc (.type "StopIteration") []>>=_) _ _ _);refine yS ?_;simp only [newExc,newTuple];refine yS (HQ ?_ (by size_fits));refine yS (m:=firstArgMember _ _) (Mf (a:=Lo) (by first|rfl| (simp only [firstArgMember];rfl)) ?_);refine HQ ?_ (by size_fits);refine NH hh ?_;exact hE _ _ (((L9 ..).extBut.push _).push _) ⟨_,C5 _ (C5 _ (Fw _ ho (M0 (Lg hd _))))⟩ (aZ _ (Dy _ rfl) rfl)
def yJ(prog:Program)(w:World)(it:Addr)(n:Nat)(St:Nat→Heap→Prop):Prop:=∀ (A:Around) (s:Shared) (Q:Value→Shared→Prop) (E:Value→Shared→Prop),A.handled=none→St n s.heap→
 (∀h' e,P4 it s.heap h'→(∃o,h'.get? it=some o)→(∃o,h'.get? e=some o∧o.cls=.type "StopIteration")→E (.ref e) {s with heap:=h'})→wpAny (model prog w) A (L5 (.ref it)) Q E s
theorem np{e it:Addr}{St:Nat→Heap→Prop}{i:Int}{old:Value}{Q:Option Value→Shared→Prop}
  (D:yJ prog w it n St) (hh:A.handled=none) (he:IsEnum s.heap e it i old) (hst:St n s.heap)
  (hQ:∀h',P4 it s.heap h'→(∃o,h'.get? it=some o)→Q none {s with heap:=h'}):wpAny (model prog w) A (pyNext (.ref e)) Q E s:=by
 have hT:s.TypeIs (.ref e) "enumerate":=(aZ _ he rfl);unfold pyNext;refine yS (T5 (Ju (name:=Ks "__next__") hT RZ
  (Ll RZ hT F.entry_enumerate_next ?_ (F.args_enumerate_next_1 _))))
 refine (?_:wpAny _ _ (field (.ref e) 2>>=_) _ _ _);refine yS (L2 he rfl (x:=.ref it) rfl ?_);refine yS (D _ _ _ _ hh hst λh' x he' hl hx'=>?_);refine au hx' λo ho hc=>?_;refine yS (Rt (T:="StopIteration") (b:=true) (aZ o ho hc) SE ?_);exact ES (hQ _ he' hl)
end
structure tV (C:gK) (env:Env) (L e it:Addr) (x:Str) (St:Nat→Heap→Prop) (al:Bool) (k:Nat) (ρ:d5) (s:Shared):Prop where
 inv:bl C [e,it] [] [] s
 fr:bh C rT env [L] ρ s.heap [] ([e,it]++ai [] [])
 en:al=true→∃old,IsEnum s.heap e it k old
 st:al=true→St k s.heap
structure QF (C:gK) (env:Env) (L e it:Addr) (x:Str) (St:Nat→Heap→Prop):Prop where
 ge:yd env L
 dr:∀A':Around,A'.handled=none→Draws C.prog C.w A' it [it] x.cps.size (Rf x) St
 dn:yJ C.prog C.w it x.cps.size St
 ei:e≠it
 Le:L≠e
 Li:L≠it
theorem fE{k:Result→Sem Fin}{g:Bool}{l:List Value}{p:Pos}{kp:List Value}{t:Expr}{fb:List Stmt}{env':Env}:
  cR (A0.in1.over (.forLoop t v body orelse env) [.ret k none g l (.func fb env') p kp]) 1:=by
 refine ⟨?_,?_,?_⟩
 ·refine (?_:A0.in1.depth+_+_+4*1<600)
  exact of_decide_eq_true rfl
 ·refine (?_:A0.in1.units+_+_+200*1+400<cLine)
  exact of_decide_eq_true rfl
 ·rfl
theorem qJ{fb:List Stmt}{env':Env}:cR (A0.in1.over (.func fb env') []) 1:=by
 refine ⟨?_,?_,?_⟩
 ·refine (?_:A0.in1.depth+_+_+4*1<600)
  exact of_decide_eq_true rfl
 ·refine (?_:A0.in1.units+_+_+200*1+400<cLine)
  exact of_decide_eq_true rfl
 ·rfl
end Mine
namespace Mine
open PySem PySem.W PySem.Calls PyProof.Rows PySem.SeqAt
open Sem (wp)
variable {V V' : AV} {Cn D L TI TO a fa i1 i2 i3 z : Addr} {A : Around} {items zs : Array Value} {sh tup : Bool} {cf : CF} {c c' : ah} {C : gK} {cx : Cx} {f fi fo g : EF} {cenv env : Env} {mean : ExcName → Option Value} {e e1 e2 elt iter target test : Expr} {fl : Fl} {h h' : Heap} {itf : IF} {y : Int} {Vs : List AV} {M M' O T T' W wr α α' α1 α₀ : List Addr} {Mid : List Addr → List Addr → List Addr → List ah → Nat → Value → Shared → Prop} {St : List Addr → xN} {μ μ' μ'' μ1 μ2 μ3 μ₀ : List ah} {fs : List EF} {es : List Expr} {K cs ns os rest : List Int} {gi ls m ps : List Nat} {X acc acc' ds xs ys : List PyData} {body orelse : List Stmt} {vs : List Value} {ρ ρ' ρ1 ρ2 : d5} {tf : d5 → PyData → Option d5} {b i j ja jt k kk low mask n p q tk : Nat} {o : Obj} {op : Operator} {ha ke td te tx : Option AV} {hi lo : Option Expr} {gg : Option Nat} {apos pos px py sp tp xp : Pos} {prog : Program} {G : Prop} {d : PyData} {sc scope : Scope} {s s' s'' s1 s₀ : Shared} {spec : a_} {st : Stmt} {name x : Str} {t : TF} {u : Tok} {cd cls doc fv it pm v : Value} {E Q : Value → Shared → Prop} {w : World}
noncomputable def RG(L e it:Addr):GenEnd:= λn s₀ r s₁=>r=.ok (.ret .none)∧(n=0∧aG [L,e,it] [] s₀ s₁)
def Yx(s₀ s:Shared)(v:Value)(d:PyData):Prop:=∃a items ds,v=.ref a∧d=.tuple ds∧s.heap.IsTuple a items∧(∀h M,aw h M items.toList ds)∧s₀.heap.get? a=none
noncomputable def YG(C:gK)(L e it:Addr)(out:List PyData):Protocol:= λm s₀ v s kap=>(∃d,out[out.length-1-m]? =some d∧Yx s₀ s v d∧∀a,v=.ref a→a∉[L,e,it])∧aG [L,e,it] [] s₀ s∧bl C [e,it] [] [] s∧(∃o,s.heap.get? L=some o)∧
 ∀s'',(∀b∈[L,e,it],∀o,s.heap.get? b=some o→s''.heap.get? b=some o)→bl C [e,it] [] [] s''→kap (.send .none) s''
section
variable {e it:Addr} {St:Nat→Heap→Prop} {al:Bool} {out:List PyData} {c:Code} {fs:List Frame}
 {K:Flow→Sem Fin} {H:Value→Sem Fin} {gd:Bool→Bool} {lv:List Value→List Value}
theorem tV.step(G:QF C env L e it x St)(I:tV C env L e it x St al k ρ s)(S:aV [L] [] [] s [] [] s')(I':bl C [e,it] [] [] s')(F':bh C rT env [L] ρ' s'.heap [] ([e,it]++ai [] [])):tV C env L e it x St al k ρ' s':=by
 refine ⟨I',F',λha=>?_,λha=>(G.dr A0 rfl).frame _ _ _ (I.st ha) λb hb o y=>S.ext _ _ y λq=>?_⟩
 ·refine bP (I.en ha) λold he=>?_
  exact ⟨old,S.ext _ _ he λq=>G.Le.symm (by simpa [ai] using q)⟩
 ·obtain rfl:b=it:=by simpa using hb
  exact G.Li.symm (by simpa [ai] using q)
theorem aG.up1(x:aG [L] [] s s'):aG [L,e,it] [] s s':=x.mono (λzz ha=>.inl (Aq.mp ha▸FI ..)) λzz h=>h
theorem lJ(I:bl C T α [] s):α=[]:=by
 have:=I.len
 exact OC.mp (by simpa using this)
theorem tV.same(G:QF C env L e it x St)(I:tV C env L e it x St al k ρ s)(hs:∀b∈[L,e,it],∀o,s.heap.get? b=some o→s'.heap.get? b=some o)(I':bl C [e,it] [] [] s')(hρ:∀V∈ρ,gc V):tV C env L e it x St al k ρ s':=by
 refine ⟨I',bh.same G.ge I.fr (hs L (by simp)) hρ,λha=>?_,λha=>(G.dr A0 rfl).frame _ _ _ (I.st ha) λb hb o y=>hs b (D1 _ (D1 _ hb)) o y⟩;refine bP (I.en ha) λold he=>?_;exact ⟨old,hs e (by simp) _ he⟩
theorem Ge(R:cR (A0.in1.over c fs) 1)(G:QF C env L e it x St)(I:tV C env L e it x St al k ρ s)(mv:aG [L,e,it] [] s₀ s){f:SF}(h:aQ C 1 rT st f)(q:f ρ []=some (.next,ρ',[]))
  (next:∀s',tV C env L e it x St al k ρ' s'→aG [L,e,it] [] s₀ s'→Seg (model C.prog C.w) A0.in1 (RG L e it) (YG C L e it out) n s₀ c (K .next) fs s'):
  Seg (model C.prog C.w) A0.in1 (RG L e it) (YG C L e it out) n s₀ c ((exec st env).wrap K H gd lv) fs s:=by
 refine pL (D2 (h.run _ env [L] [e,it] ρ [] [] s _ _ _ _ R I.inv I.fr q) (λfw s' p=>?_) λzz zz x=>x);refine eD p λα' I' S' F' zq4=>?_;subst zq4;obtain rfl:=lJ I';exact next s' (I.step G S' I' F') (mv.trans (aG.of_step S' I.inv I').up1)
theorem tv(R:cR (A0.in1.over c fs) 1)(G:QF C env L e it x St)(I:tV C env L e it x St al k ρ s)(mv:aG [L,e,it] [] s₀ s){t:d5→List ah→Option (Bool×List ah)}{b:Bool}(h:gP C 1 rT test t)(q:t ρ []=some (b,[]))
  (next:∀s',tV C env L e it x St al k ρ s'→aG [L,e,it] [] s₀ s'→if b=true then Seg (model C.prog C.w) A0.in1 (RG L e it) (YG C L e it out) n s₀ c ((execs body env).wrap K H gd lv) fs s' else Seg (model C.prog C.w) A0.in1 (RG L e it) (YG C L e it out) n s₀ c ((execs orelse env).wrap K H gd lv) fs s'):
  Seg (model C.prog C.w) A0.in1 (RG L e it) (YG C L e it out) n s₀ c ((exec (.If test body orelse pos) env).wrap K H gd lv) fs s:=by
 refine SM (D2 (h.run _ env [L] [e,it] ρ [] [] s _ _ _ R I.inv I.fr q) (λfw s' p=>?_) λzz zz x=>x);refine iB p λzq0 α' I' S'=>?_;subst zq0;obtain rfl:=lJ I';have S2:aV [L] [] [] s [] [] s':=S'.up;exact next s' (I.step G S2 I' (I.fr.step I.inv S')) (mv.trans (aG.of_step S2 I.inv I').up1)
theorem oE:∀ {vs:List Value} {ds:List PyData} {h1 h2:Heap} {M1 M2:List Addr},(∀d∈ds,gc (some (.d d)))→aw h1 M1 vs ds→aw h2 M2 vs ds
 | [],[],_,_,_,_,_,_=>aw.nil _ _
 | [],_::_,_,_,_,_,_,r=>by have:=r.length;simp at this
 |_::_,[],_,_,_,_,_,r=>by have:=r.length;simp at this
 |v::vs,d::ds,h1,h2,M1,M2,hd,r=>by
  refine f_ r.uncons λa b=>?_;exact .ccons (qB (V:=.d d) (α1:=[]) (α2:=[]) (hd d (by simp)) a) (oE (λd hd'=>hd d (by simp [hd'])) b)
theorem uq(R:cR (A0.in1.over c fs) 1)(G:QF C env L e it x St)(I:tV C env L e it x St al k ρ s)(mv:aG [L,e,it] [] s₀ s){yp:Pos}{gs:List EF}
  (h:dg C 1 rT es gs) (q:e_ gs ρ []=some (Vs,[])) (q2:lG Vs []=some (ds,[])) (hsz:ds.length≤sizeLine) (hds:∀d∈ds,gc (some (.d d))) (hρ:∀V∈ρ,gc V) (hout:out[out.length-1-n]? =some (.tuple ds))
  (hfs:splitAtGen fs=none) (hgd:gd false=false) (hfg:fs.any Frame.guarded=false)
  (next:∀s',tV C env L e it x St al k ρ s'→Seg (model C.prog C.w) A0.in1 (RG L e it) (YG C L e it out) n s' c (K .next) fs s'):
  Seg (model C.prog C.w) A0.in1 (RG L e it) (YG C L e it out) (n+1) s₀ c ((exec (.Expr (.Yield (some (.Tuple es kk tp)) yp) pos) env).wrap K H gd lv) fs s:=by
 refine seg_Expr_Yield hfs hgd hfg ?_ (by rw [G.ge.sc];kernel_rfl) (by unfold interactive;rw [G.ge.sc];kernel_rfl);refine Tuple_ (D2 (h.run _ env [L] [e,it] ρ [] [] s _ Vs [] tp R I.inv I.fr q) (λvs s1 p=>?_) λzz zz x=>x);refine ct p λα1 I1 S1 r1=>?_;obtain rfl:=lJ I1;refine dW (jB I1 r1 q2) λI2 S2 r2=>?_;refine HQ ?_ (by show vs.toArray.size≤sizeLine;rw [P2,r2.length];exact hsz);intro kap hk;have S12:aV [L] [] [] s [] [] s1:=S1.up;have I3:=I2.keeps (tk:=s1.toks) (bc s1.heap {cls:=.type "tuple",data:=.seq vs.toArray});have S3:aV [L] [] [] s1 [] [] {s1 with heap:=s1.heap.push {cls:=.type "tuple",data:=.seq vs.toArray},toks:=s1.toks}:=(aV.keeps (bc s1.heap _)).up;have S4:=S12.trans S3;have GI1:tV C env L e it x St al k ρ s1:=I.step G S12 I1 (I.fr.step I.inv S1);have GI:tV C env L e it x St al k ρ {s1 with heap:=s1.heap.push {cls:=.type "tuple",data:=.seq vs.toArray},toks:=s1.toks}:=GI1.step G S3 I3 (GI1.fr.step I1 (aV.keeps (bc s1.heap _)));have hnew:s1.heap.objs.size∉[L,e,it]:= λhb=>by
  have hdom:∀b∈[L,e,it],∃o,s1.heap.get? b=some o:= λb hb=>by
   simp only [Cc,Er,or_false] at hb
   rcases hb with rfl|rfl|rfl
   ·refine au ((GI1.fr.own b (by simp)).1) λo ho zz=>?_
    exact ⟨o,ho⟩
   ·exact GI1.inv.tdom b (by simp)
   ·exact GI1.inv.tdom b (by simp)
  refine bP (hdom _ hb) λo ho=>?_;rw [bx (DU _)] at ho;exact cv ho
 refine (uR (⟨_,hout,⟨s1.heap.objs.size,vs.toArray,ds,rfl,rfl,⟨_,Dy _ rfl,rfl,_,rfl⟩,λh M=>oE hds (by simpa using r2),?_⟩,λa ha=>by cases ha;exact hnew⟩) (mv.trans (aG.of_step S4 I.inv I3).up1) I3 ((let ⟨o,ho,_⟩:=(GI.fr.own L (by simp)).1;⟨o,ho⟩)) (λs'' hs I''=>?_))
 ·have h1:s.heap.get? s1.heap.objs.size=none:=dY S1.dom (bx (DU _))
  cases q:s₀.heap.get? s1.heap.objs.size with
  |none=>rfl
  |some o=>
   have:=mv.heap _ o hnew q
   rw [h1] at this;exact cv this
 ·refine hk .none s'' ?_
  exact next s'' (GI.same G hs I'' hρ)
end
noncomputable def Jc:Stmt→Expr
 | .For t _ _ _ _=>t
 |_=>.Constant .none 0 ⟨0,0,0,0⟩
noncomputable def YZ:Stmt→List Stmt
 | .For _ _ b _ _=>b
 |_=>[]
noncomputable abbrev IE:Stmt:=dD (aq (ay 1)) 2
section
theorem KO:ab C n rT (.Name "pos" pos) (a9 1):=rE 1 ∅ ∅ ∅ ∅
theorem Q6:ab C n rT (.Name "escape" pos) (a9 2):=rE 2 ∅ ∅ ∅ ∅
theorem PN:ab C n rT (.Name "ch" pos) (a9 3):=rE 3 ∅ ∅ ∅ ∅
theorem T0:aA C rT "pos" 1:=ue 1 ∅ ∅ ∅
theorem KR:aA C rT "escape" 2:=ue 2 ∅ ∅ ∅
theorem ZB:aA C rT "ch" 3:=ue 3 ∅ ∅ ∅
theorem af3:n5 C rT (Jc IE) true (j6 1 3):=eY T0 ZB
end
theorem gE{p:Int}{b:Bool}{c:Option AV}(h:gc c):∀V∈mR x p b c,gc V:= λV hV=>by
 simp only [mR,Cc,Er,or_false] at hV
 rcases hV with rfl|rfl|rfl|rfl
 ·trivial
 ·trivial
 ·trivial
 ·exact h
theorem ad9(c:Nat)(μ:List ah):aT (.d (.str "\\")) (.d (.str ⟨#[c]⟩)) μ=some (.d (.str ⟨#[92,c]⟩),μ):=by
 refine (?_:(if ("\\":Str).length+(⟨#[c]⟩:Str).length≤sizeLine then some (AV.d (.str (("\\":Str)++⟨#[c]⟩)),μ) else none)=_);refine rA (if_pos (show ("\\":Str).length+(⟨#[c]⟩:Str).length≤sizeLine by show ("\\":Str).length+1≤sizeLine;decide+kernel)) ?_;rfl
theorem ak6{k:Int}{b:Bool}(c:Nat):e_ [a9 1,aj (kS "\\") (a9 3) aT] (mR x k b (some (.d (.str ⟨#[c]⟩)))) []=some ([.d (.int k),.d (.str ⟨#[92,c]⟩)],[]):=by
 have hb:aj (kS "\\") (a9 3) aT (mR x k b (some (.d (.str ⟨#[c]⟩)))) []=some (.d (.str ⟨#[92,c]⟩),[]):=ad9 c [];have ha:a9 1 (mR x k b (some (.d (.str ⟨#[c]⟩)))) []=some (.d (.int k),[]):=rfl;simp only [e_,ha,hb,bpS]
theorem an1{k:Int}{b:Bool}{c:Nat}(h:¬c=92):bA (a9 3) (kS "\\") dK (mR x k b (some (.d (.str ⟨#[c]⟩)))) []=some (false,[]):=by
 refine (?_:some ((⟨#[c]⟩:Str)==("\\":Str),([]:List ah))=_)
 have:((⟨#[c]⟩:Str)==("\\":Str))=false:=by
  rw [beq_eq_false_iff_ne];intro q
  have:(⟨#[c]⟩:Str)=⟨#[92]⟩:=q
  injection this with this
  have:=congrArg Array.toList this
  simp at this
  exact h this
 rw [this]
theorem Al{out r:List PyData}(h:out.drop (out.length-(d::r).length)=d::r):out[out.length-1-r.length]? =some d∧out.drop (out.length-r.length)=r:=by
 have hl:(out.drop (out.length-(d::r).length)).length=(d::r).length:=by rw [h]
 rw [Ry,AH] at hl
 have hlen:r.length+1≤out.length:=by lia
 have e:out.length-1-r.length=out.length-(d::r).length:=by rw [AH];lia
 constructor
 ·rw [e,←Uw,h];rfl
 ·have:out.length-r.length=1+(out.length-(d::r).length):=by rw [AH];lia
  rw [Nat.add_comm] at this
  rw [this,←UK,h];rfl
section
variable {e it:Addr} {St:Nat→Heap→Prop} {out:List PyData} {kf:Result→Sem Fin} {g:Bool} {l:List Value} {kp:List Value}
theorem Dj{p:Pos}(hg:g=false)(G:QF C env L e it x St)
  (tail:∀k pp esc och s₀ s,tV C env L e it x St false k (mR x pp esc och) s→gc och→pp=(k:Int)-1∨esc=false→aG [L,e,it] [] s₀ s→out.drop (out.length-(eA [] k esc).length)=eA [] k esc→
   Seg (model C.prog C.w) A0.in1 (RG L e it) (YG C L e it out) (eA [] k esc).length s₀ (.func (aq (ay 1)) env) (kf (.ok .next)) [] s):
  ∀ (r:List Nat) (k:Nat) (pp:Int) (esc:Bool) (och:Option AV) (s₀ s:Shared),x.cps.toList.drop k=r→k≤x.cps.size→tV C env L e it x St true k (mR x pp esc och) s→gc och→pp=(k:Int)-1∨esc=false→aG [L,e,it] [] s₀ s→
   out.drop (out.length-(eA r k esc).length)=eA r k esc→
   Seg (model C.prog C.w) A0.in1 (RG L e it) (YG C L e it out) (eA r k esc).length s₀ (.forLoop (Jc IE) (.ref e) (YZ IE) [] env) ((model C.prog C.w).den (.forLoop (Jc IE) (.ref e) (YZ IE) [] env)) [.ret kf none g l (.func (aq (ay 1)) env) p kp] s:=by
 subst hg;intro r
 induction r with
 |nil=>
  intro k pp esc och s₀ s hx hk I ho hp mv hout;have hkz:k=x.cps.size:=by
   have:=congrArg NE hx
   simp at this;lia
  refine oC ?_;refine bP (I.en rfl) λold he=>?_;refine np G.dn rfl he (hkz▸I.st rfl) λh' hx' hlv=>rW ?_;have mv':aG [it] [] s {s with heap:=h'}:=aG.of_heap (tk:=s.toks) λb o hb z=>hx' b o (λq=>hb (by simp [q])) z;have mv2:aG [L,e,it] [] s₀ {s with heap:=h'}:=mv.trans (mv'.mono (λa ha=>.inl (by simp at ha;simp [ha])) λzz h=>h);have I':bl C [e,it] [] [] {s with heap:=h'}:=I.inv.moves mv' (λb hb=>by simp at hb;simp [hb]) λb hb=>?_
  ·have F':=bh.same G.ge I.fr (h':=h') (λo z=>hx' L o G.Li z) (gE ho)
   exact tail k pp esc och s₀ _ ⟨I',F',λq=>(by cases q),λq=>(by cases q)⟩ ho hp mv2 hout
  ·simp only [Cc,Er,or_false] at hb
   obtain rfl:=hb;exact hlv
 |cons c r ih=>
  intro k pp esc och s₀ s hx hk I ho hp mv hout;have hc:x.cps[k]? =some c:=by
   have:=congrArg List.head? hx
   rw [Uw] at this
   simpa using this
  have hlt:k<x.cps.size:=(LQ.mp hc).1;have hx2:x.cps.toList.drop (k+1)=r:=by
   rw [←UK,hx];rfl
  refine oC ?_;refine bP (I.en rfl) λold he=>?_;refine wpAny_pyNext_enum_itemD (G.dr _ rfl) he (I.st rfl) hlt G.ei (by simpa using G.ei) λv h' tk hP ho' hs' hT hsz hkp=>?_;refine jS hP λc' u hc' zq3=>?_;subst zq3;rw [hc] at hc';cases hc'
  refine Q1 ho' λh2 he2 hsb=>?_;have mv':aG [e,it] [] s {s with heap:=h2,toks:=tk+1}:=aG.of_heap λb o hb z=>by
   simp only [Cc,Er,or_false,not_or] at hb
   exact (hsb.2 b hb.1).trans (hkp b o hb.1 hb.2 z)
  have st2:St (k+1) h2:=(G.dr A0 rfl).frame _ _ _ hs' λb hb o y=>by
   obtain rfl:b=it:=by simpa using hb
   exact (hsb.2 b G.ei.symm).trans y
  have I2:bl C [e,it] [] [] {s with heap:=h2,toks:=tk+1}:=I.inv.moves mv' (λb hb=>hb) λb hb=>by
   simp only [Cc,Er,or_false] at hb
   rcases hb with rfl|rfl
   ·exact ⟨_,he2⟩
   ·exact (G.dr A0 rfl).live _ _ st2
  have F2:=bh.same G.ge I.fr (h':=h2) (λo z=>mv'.heap L o (by simp [G.Le,G.Li]) z) (gE ho);have G2:tV C env L e it x St true (k+1) (mR x pp esc och) {s with heap:=h2,toks:=tk+1}:=⟨I2,F2,λzz=>⟨_,by simpa using he2⟩,λzz=>st2⟩;have hae:s.heap.objs.size≠e:= λq=>by rw [←q] at he;rw [show IsEnum s.heap s.heap.objs.size it (k:Int) old=(s.heap.get? s.heap.objs.size=some _) from rfl,bx (DU _)] at he;cases he
  refine D2 (af3.2 _ env [L] [e,it] (mR x pp esc och) [] [] _ _ (.ref s.heap.objs.size) (.tuple [.int k,.str ⟨#[c]⟩]) (mR x k esc (some (.d (.str ⟨#[c]⟩)))) rfl I2 F2
   (dA _ (#[.int k tk,.str ⟨#[c]⟩ u]) _ rfl rfl ⟨_,(hsb.2 _ hae).trans hT,rfl,_,rfl⟩ (.ccons (aJ.int ..) (.ccons (aJ.str ..) (aw.nil _ _)))) rfl) (λzz s3 st=>?_) λzz zz x=>x
  refine dW st λI3 S3 F3=>?_;have G3:=G2.step G S3 I3 F3;have mv3:aG [L,e,it] [] s₀ s3:=(mv.trans (mv'.mono (λa ha=>.inl (D1 _ ha)) λzz h=>h)).trans (aG.of_step S3 I2 I3).up1;have ho3:gc (some (.d (.str ⟨#[c]⟩))):=trivial;have hk1:(k:Int)=((k+1:Nat):Int)-1:=by push_cast;lia
  refine L6 (tv fE G G3 mv3 (ii (λzz zz=>rfl) Q6) rfl λs4 G4 mv4=>?_);cases esc with
  |true=>
   rw [if_pos rfl];have ho:=Al (show out.drop (out.length-(Jy [.int k,.str ⟨#[92,c]⟩]::eA r (k+1) false).length)=_ from hout);refine L6 (uq (n:=(eA r (k+1) false).length) fE G G4 mv4 (dG (λzz=> ∅) KO (dG (λzz=> ∅) (av bT PN br) ae)) (Vs:=[.d (.int k),.d (.str ⟨#[92,c]⟩)]) (ak6 c) rfl (by show 2≤sizeLine;decide) Ub (gE ho3) ho.1 rfl rfl rfl λs5 G5=>?_);refine L6 (Ge fE G G5 (aG.refl _ _ _) (bE dk KR (λzz zz=> ∅)) rfl λs6 G6 mv6=>?_);exact Us rfl (ih (k+1) k false _ _ _ hx2 hlt G6 ho3 (.inl hk1) mv6 ho.2)
  |false=>
   rw [if_neg (by decide)]
   by_cases h92:c=92
   ·have hout':out.drop (out.length-(eA r (k+1) true).length)=eA r (k+1) true:=by simpa [xV,h92] using hout
    have hlen:(eA (c::r) k false).length=(eA r (k+1) true).length:=by simp [xV,h92]
    rw [hlen];refine L6 (tv fE G G4 mv4 (b:=true) (cn PN bT dR ∅) (by subst h92;rfl) λs5 G5 mv5=>?_);rw [if_pos rfl];refine L6 (Ge fE G G5 mv5 (bE dk KR (λzz zz=> ∅)) rfl λs6 G6 mv6=>?_);exact Us rfl (ih (k+1) k true _ _ _ hx2 hlt G6 ho3 (.inl hk1) mv6 hout')
   ·have hesc:eA (c::r) k false=.tuple [.int k,.str ⟨#[c]⟩]::eA r (k+1) false:=by simp [xV,h92]
    rw [hesc] at hout⊢
    have ho:=Al hout;refine L6 (tv fE G G4 mv4 (b:=false) (cn PN bT dR ∅) (an1 h92) λs5 G5 mv5=>?_);rw [if_neg (by decide)];refine L6 (uq (n:=(eA r (k+1) false).length) fE G G5 mv5 (dG (λzz=> ∅) KO (dG (λzz=> ∅) PN ae)) (Vs:=[.d (.int k),.d (.str ⟨#[c]⟩)]) rfl rfl (by show 2≤sizeLine;decide) Ub (gE ho3) ho.1 rfl rfl rfl λs6 G6=>?_);exact Us rfl (ih (k+1) k false _ _ _ hx2 hlt G6 ho3 (.inl hk1) (aG.refl _ _ _) ho.2)
end
theorem Ia{it:Addr}{t:Tok}(hit:h'.IsStrIter it (strIterType x) x t 0):∃St:Nat→Heap→Prop,(∀A':Around,A'.handled=none→Draws C.prog C.w A' it [it] x.cps.size (Rf x) St)∧yJ C.prog C.w it x.cps.size St∧St 0 h':=by
 cases ha:x.cps.all (· <128)
 ·have hit':h'.IsStrIter it "str_iterator" x t 0:=by simpa [strIterType,ha] using hit
  exact (cL (λi h=>h.IsStrIter it "str_iterator" x t i) (λA' hA=>Draws.strWide hA it x t) (λA s Q E hh hst hE=>nR hh hst (by simp) hE) hit')
 ·have hit':h'.IsStrIter it "str_ascii_iterator" x t 0:=by simpa [strIterType,ha] using hit
  exact (cL (λi h=>h.IsStrIter it "str_ascii_iterator" x t i) (λA' hA=>Draws.strAscii hA it x t) (λA s Q E hh hst hE=>mc hh hst (by simp) hE) hit')
theorem Of{i:Int}(h:Q (.int i s.toks) {s with toks:=s.toks+1}):wpAny (model prog w) A (eval (.Constant (.int i) k pos) env) Q E s:= λzz zz zz=>h
section
variable {e it:Addr} {St:Nat→Heap→Prop} {out:List PyData}
theorem CN{K:Flow→Sem Fin}{H:Value→Sem Fin}{gd:Bool→Bool}{lv:List Value→List Value}(hgd:gd false=false)(hK:K .next=leafOf (.ok (.ret .none)))(G:QF C env L e it x St){pp:Int}{esc:Bool}{och:Option AV}(I:tV C env L e it x St false k (mR x pp esc och) s)(ho:gc och)(hp:pp=(k:Int)-1∨esc=false)(mv:aG [L,e,it] [] s₀ s)
  (hout:out.drop (out.length-(eA [] k esc).length)=eA [] k esc):
  Seg (model C.prog C.w) A0.in1 (RG L e it) (YG C L e it out) (eA [] k esc).length s₀ (.func (aq (ay 1)) env) ((execs [dD (aq (ay 1)) 3] env).wrap K H gd lv) [] s:=by
 refine L6 (tv qJ G I mv (ii (λzz zz=>rfl) Q6) rfl λs4 G4 mv4=>?_);cases esc with
 |true=>
  rw [if_pos rfl];obtain rfl:pp=(k:Int)-1:=by simpa using hp
  have ho2:=Al (show out.drop (out.length-(Jy [.int ((k:Int)-1),.str ⟨#[92]⟩]::[]).length)=_ from hout);refine L6 (uq (n:=0) qJ G G4 mv4 (dG (λzz=> ∅) KO (dG (λzz=> ∅) bT ae)) (Vs:=[.d (.int ((k:Int)-1)),.d (.str "\\")]) rfl rfl (by show 2≤sizeLine;decide) Ub (gE ho) ho2.1 rfl hgd rfl λs5 G5=>?_);refine (?_:Seg _ _ _ _ _ _ _ (K .next) _ _);rw [hK];exact seg_end _ (fu rfl rfl (aG.refl _ _ _))
 |false=>
  rw [if_neg (by decide)];refine (?_:Seg _ _ _ _ _ _ _ (K .next) _ _);rw [hK];exact seg_end _ (fu rfl rfl mv4)
theorem z6(hg:C.mg "enumerate"=none)(G:yd env L)(hLb:C.B.get? L=none){t:Tok}{m:Str→Option Value}(I:bl C [] [] [] s)(hn:s.heap.Ns L m)(hm:m "addr"=some (.str x t)):
  ∃e it,s.heap.get? e=none∧s.heap.get? it=none∧e≠it∧L≠e∧L≠it∧
   Seg (model C.prog C.w) A0.in1 (RG L e it) (YG C L e it (eA x.cps.toList 0 false)) (eA x.cps.toList 0 false).length s (.func (aq (ay 1)) env) ((model C.prog C.w).den (.func (aq (ay 1)) env)) [] s:=by
 have hLs:L<s.heap.objs.size:=hn.lt;refine (Ej (s.heap.objs.size+1) s.heap.objs.size (bx (P3 _)) (bx (DU _)) (Nt _) (LY (P5 hLs)) (LY hLs) ?_);have hkk:(env.scope.kind== .class||(env.scope.kind== .module&&env.locals != env.globals))=false:=by rw [G.sc];kernel_rfl
 have kl:∀y,rT.scope.names.lookup y=some .local→env.kindOf y=some .local:= λy h=>by unfold Jz;rw [G.sc];exact h
 have hn0:s.heap.Ns env.locals m:=by rw [G.lo];exact hn
 refine seg_func (L6 (pL (M9 (Of ?_) ∅)));refine Ph (m:=m) (kl _ ∅) hn0 (λh1 hn1 hs1=>?_) hkk;refine L6 (pL (M9 (ES ?_) ∅));refine Ph (kl _ ∅) hn1 (λh2 hn2 hs2=>?_) hkk;refine L6 (ML (λzz=>rfl) ?_);have hsz2:h2.objs.size=s.heap.objs.size:=hs2.1.trans hs1.1;have hk2:∀b o,b≠L→s.heap.get? b=some o→h2.get? b=some o:= λb o hb z=>(hs2.2 b (by rw [G.lo];exact hb)).trans ((hs1.2 b (by rw [G.lo];exact hb)).trans z);have hg2:h2.Ns mainGlobals C.mg:=by
  refine (C.g.keeps I.keep).at' λo z=>hk2 _ _ (λq=>?_) z;refine fq C.g λob zz zz z' zz=>?_;rw [←q,z'] at hLb;exact cv (F6 hLb)
 have hb2:h2.Ns builtinsNs C.mb:=by
  refine (C.b.keeps I.keep).at' λo z=>hk2 _ _ (λq=>?_) z;refine fq C.b λob zz zz z' zz=>?_;rw [←q,z'] at hLb;exact cv (F6 hLb)
 refine yS (m:=eval (.Name "enumerate" _) env) (Fe (by rw [G.sc];kernel_rfl) (by unfold Jz;rw [G.sc];kernel_rfl) (Lu (by rw [G.gl];exact hg2) hg (by rw [G.bn];exact hb2) ((C.bt _ (by decide+kernel)).trans (∅ :bootBuiltins "enumerate"=some (.type "enumerate"))) ?_) ∅);refine bD "enumerate" _ _ _ _ _ _ _ _ ∅ ?_
 refine Sy (RT ?_);refine UP (Ps (by rw [G.sc];kernel_rfl) (kl _ ∅) hn2 (v:=.str x t) (by rw [if_neg (by decide+kernel),if_neg (by decide+kernel)];exact hm) ?_) ∅
 refine SJ ?_;refine call_enumerate_str λh3 he3 hit3 hsz3 hk3=>?_;replace he3:IsEnum h3 (h2.objs.size+1) h2.objs.size 0 .none:=he3;replace hit3:h3.IsStrIter h2.objs.size (strIterType x) x t 0:=hit3;rw [hsz2] at he3 hit3
 refine (?_:wpAny _ _ (pyIter (.ref (h2.objs.size+1))) _ _ _);rw [hsz2];refine QH he3 λp=>?_;refine ct (Ia (C:=C) hit3) λSt hD hdn hst=>?_;have hLn:h3.Ns L _:=tl (by rw [←G.lo];exact hn2) λo z=>hk3 _ _ z;have hk03:∀b o,b≠L→s.heap.get? b=some o→h3.get? b=some o:= λb o hb z=>hk3 b o (hk2 b o hb z);have GC:QF C env L (s.heap.objs.size+1) s.heap.objs.size x St:=⟨G,hD,hdn,Nt _,LY (P5 hLs),LY hLs⟩;have hLg:s.heap.get? L≠none:= λq=>by
  refine fq hn λob zz zz z zz=>?_;rw [q] at z;exact cv z
 have mv:aG [L] [] s {s with heap:=h3,toks:=s.toks+1+1+1}:=aG.of_heap λb o hb z=>hk03 b o (λq=>hb (by simp [q])) z;have I3:bl C [s.heap.objs.size+1,s.heap.objs.size] [] [] {s with heap:=h3,toks:=s.toks+1+1+1}:=by
  have I0:bl C [L] [] [] s:=⟨I.keep,rfl,λi a c h1 zz=>by simp at h1,Nb,λa zz h=>by simp at h,λa ha=>by
   obtain rfl:a=L:=by simpa using ha
   exact Option.ne_none_iff_exists'.mp hLg,λa ha=>by
   obtain rfl:a=L:=by simpa using ha
   exact hLb,λa h=>by simp at h,I.gens,I.os⟩
  refine I0.movesG mv (λb hb=>.inl hb) (λa ha=>.inr ?_) λa ha=>?_
  ·simp only [Cc,Er,or_false] at ha
   rcases ha with rfl|rfl
   ·exact bx (P3 _)
   ·exact bx (DU _)
  ·simp only [Cc,Er,or_false] at ha
   rcases ha with rfl|rfl
   ·exact ⟨_,he3⟩
   ·refine au hit3 λo z zz=>?_;exact ⟨o,z⟩
 have F3:bh C rT env [L] (mR x 0 false none) h3 [] ([s.heap.objs.size+1,s.heap.objs.size]++ai [] []):=by
  refine Y9 G hLn hLb (by simp [GC.Le,GC.Li]) rfl λi y V e1 e2=>?_;rw [l5] at e1
  match i,e1,e2 with
  |0,e1,e2=>cases e1;cases e2;exact (aZ _ (by rw [if_neg (by decide+kernel),if_neg (by decide+kernel)];exact hm) (aJ.str ..))
  |1,e1,e2=>cases e1;cases e2;exact (aZ _ (by rw [if_neg (by decide+kernel),if_pos rfl]) (aJ.int ..))
  |2,e1,e2=>cases e1;cases e2;exact (aZ _ (by rw [if_pos rfl]) (aJ.bool ..))
  |3,e1,e2=>cases e2
 have GI:tV C env L (s.heap.objs.size+1) s.heap.objs.size x St true 0 (mR x 0 false none) {s with heap:=h3,toks:=s.toks+1+1+1}:=⟨I3,F3,λzz=>⟨_,he3⟩,λzz=>hst⟩;exact Dj (out:=eA x.cps.toList 0 false) rfl GC (λk pp esc och s₀ s I ho hp mv hout=>CN rfl rfl GC I ho hp mv hout) x.cps.toList 0 0 false none _ _ rfl (LL _) GI trivial (.inr rfl) mv.up1 (by simp)
end
noncomputable abbrev oW(x:Str):List PyData:=eA x.cps.toList 0 false
def GSt(C:gK)(a L:Addr)(g:Nat)(env:Env)(x:Str)(wr:List Addr)(i:Nat)(s:Shared):Prop:=
 (i=0∧wr=[a,L]∧s.gens[g]? =some (.fresh (.func (aq (ay 1)) env))∧∃m t,s.heap.Ns L m∧m "addr"=some (.str x t))∨
 (0<i∧∃e it gs,wr=[a,L,e,it]∧a∉[L,e,it]∧s.gens[g]? =some gs∧∀s'',(∀b∈[L,e,it],∀o,s.heap.get? b=some o→s''.heap.get? b=some o)→bl C [e,it] [] [] s''→
  gs.Goes (model C.prog C.w) A0.in1 (RG L e it) (YG C L e it (oW x)) ((oW x).length-i) (.send .none) s'')
noncomputable def Sz(C:gK)(a L:Addr)(g:Nat)(env:Env)(x:Str):List Addr→xN:= λwr zz zz zz i s=>s.heap.IsGen a g∧GSt C a L g env x wr i s
noncomputable def TZ(C:gK)(a L:Addr)(g:Nat)(env:Env)(x:Str):List Addr→List Addr→List Addr→List ah→Nat→Value→Shared→Prop:= λwr T α μ i v s=>(s.heap.IsGen a g∧GSt C a L g env x wr (i+1) s)∧∀a',v=.ref a'→a'∉T++ai α μ
section
variable {g:Nat}
theorem aG.running{s₁:Shared}{gs':GenState}{g:Nat}(mv:aG W [] (s.setGen g .running) s₁)(hb:gs'.bare=true):aG W [g] s (s₁.setGen g gs'):=
 ((aG.setGen (g:=g) (x:=.running) rfl).mono (λzz h=>by simp at h) λzz h=>h).trans ((mv.mono (λzz h=>.inl h) λzz h=>by simp at h).trans ((aG.setGen hb).mono (λzz h=>by simp at h) λzz h=>h))
theorem vR(hg:C.mg "enumerate"=none)(G:yd env L)(hLb:C.B.get? L=none)(haL:a≠L)(I:bl C (wr++T) α μ s)(st:s.heap.IsGen a g∧GSt C a L g env x wr i s):
  ∃e it gs,s.gens[g]? =some gs∧a∉[L,e,it]∧(∀b∈[a,L,e,it],b∈wr∨s.heap.get? b=none)∧(∀b∈wr,b∈[a,L,e,it])∧gs.Goes (model C.prog C.w) A0.in1 (RG L e it) (YG C L e it (oW x)) ((oW x).length-i) (.send .none) (s.setGen g .running):=by
 obtain ⟨ho,h|h⟩:=st
 ·refine IU h λzq0 zq1 hgs m t hn hm=>?_
  subst zq0;subst zq1;refine E6 (z6 hg G hLb (s:=s.setGen g .running) ((I.base (T':=[]) (λzz h=>by simp at h)).setGen rfl) hn hm) λe it he hi hei hLe hLi sg=>?_;have hae:a≠e:= λq=>by refine fq ho λo zz zz z zz=>?_;rw [q] at z;rw [show s.heap.get? e=none from he] at z;exact cv z
  have hai:a≠it:= λq=>by refine fq ho λo zz zz z zz=>?_;rw [q] at z;rw [show s.heap.get? it=none from hi] at z;exact cv z
  refine ⟨e,it,_,hgs,by simp [haL,hae,hai],λb hb=>?_,λb hb=>?_,rfl,sg⟩
  ·simp only [Cc,Er,or_false] at hb
   rcases hb with rfl|rfl|rfl|rfl
   ·exact .inl (by simp)
   ·exact .inl (by simp)
   ·exact .inr he
   ·exact .inr hi
  ·simp only [Cc,Er,or_false] at hb
   rcases hb with rfl|rfl<;>simp
 ·refine CY h λhi0 e it gs zq4 han hgs hk=>?_
  subst zq4;exact (i4 e it gs hgs han (λb hb=>.inl hb) (λb hb=>hb) (hk _ (λzz zz zz z=>z) ((I.base (T':=[e,it]) (λb hb=>ye _ (D1 _ (D1 _ hb)))).setGen rfl)))
theorem gZ.gen(hg:C.mg "enumerate"=none)(G:yd env L)(hLb:C.B.get? L=none)(haL:a≠L):gZ C (.ref a) [g] (oW x) none true (Sz C a L g env x) (TZ C a L g env x) where
 frame:=by
  intro wr O T T' α α' μ μ' i s s' st S hO hwr hT hwT I I' hgd;refine f_ st λho h=>?_;have hkeep:∀b∈wr,∀o,s.heap.get? b=some o→s'.heap.get? b=some o:= λb hb o z=>S.ext b o z λq=>(AE.mp q).elim (λq=>hwr b q hb) λq=>I.apart b (hwT b hb) (db q);have haw:a∈wr:=by
   rcases h with ⟨_,rfl,_⟩| ⟨_,e,it,gs,rfl,_⟩<;>simp
  refine ⟨let ⟨o,nm,qn,z,r⟩:=ho;⟨o,nm,qn,hkeep a haw o z,r⟩,?_⟩
  rcases h with ⟨rfl,rfl,hgs,m,t,hn,hm⟩| ⟨hi0,e,it,gs,rfl,han,hgs,hk⟩
  ·exact .inl ⟨rfl,rfl,S.gens _ _ hgs,m,t,tl hn λo z=>hkeep L (by simp) o z,hm⟩
  ·exact .inr ⟨hi0,e,it,gs,rfl,han,S.gens _ _ hgs,λs'' hs I''=>hk s'' (λb hb o z=>hs b hb o (hkeep b (D1 _ hb) o z)) I''⟩
 item:=by
  intro A wr T α μ i d s Q E R I st ed k;refine i8 (vR hg G hLb haL I st) λe it gs hgs han hwf hww hgo=>?_;have hlt:i< (oW x).length:=(BW.mp ed).1;obtain ⟨m,hm⟩:∃m,(oW x).length-i=m+1:=⟨(oW x).length-i-1,by lia⟩;rw [hm] at hgo
  refine wS R (oG (P:= λn s₀ s₁=>n=0∧aG [L,e,it] [] s₀ s₁) rfl (C.nolim.keeps I.keep) (by show 591<1000;decide) st.1 hgs hgo (λv s₁ gs' hb hv=>?_) λs₁ hp h' hk=>absurd hp.1 (Nat.succ_ne_zero m));refine iq hv λzp0 mv I1 hL1 hk=>?_;obtain ⟨d',hd',hit,hna⟩:=zp0;have hidx:(oW x).length-1-(m+1-1)=i:=by lia
  rw [hidx,ed] at hd'
  cases hd';refine i8 hit λa' items ds zq3 zq4 htup hrel hfr=>?_;subst zq3;subst zq4;have mv':aG [L,e,it] [g] s (s₁.setGen g gs'):=mv.running hb;have hdom:∀b∈[L,e,it],∃o,s₁.heap.get? b=some o:= λb hb=>by
   rcases Cc.mp hb with rfl|hb
   ·exact hL1
   ·exact I1.tdom b hb
  have hgens:s₁.gens[g]? =some .running:=mv.gens g _ (by simp) (setGen_self hgs);have hIg:(s₁.setGen g gs').heap.IsGen a g:=let ⟨o,nm,qn,z,r⟩:=st.1;⟨o,nm,qn,mv'.heap a o han z,r⟩
  refine k (.ref a') _ [a,L,e,it] (mv'.mono (λb hb=>hwf b (D1 _ hb)) λzz h=>h) hwf (I.movesG mv' (λb hb=>(hwf b (D1 _ hb)).imp (ye _) id) (λb hb=>?_) λb hb=>?_) ⟨a',items,ds,rfl,rfl,htup,hrel _ _⟩ ⟨⟨hIg,.inr ⟨Nat.succ_pos _,e,it,gs',rfl,han,setGen_self hgens,λs'' hs I''=>?_⟩⟩,λa2 ha2 hm=>?_⟩
  ·rcases AE.mp hb with h|h
   ·exact (hwf b h).imp (ye _) id
   ·exact .inl (CR _ h)
  ·by_cases q:b∈[L,e,it]
   ·exact hdom b q
   ·rcases AE.mp hb with h|h
    ·rcases Cc.mp h with rfl|h
     ·refine fq hIg λo zz zz z zz=>?_;exact ⟨o,z⟩
     ·exact absurd h q
    ·refine bP (I.tdom b (CR _ h)) λo z=>?_
     exact ⟨o,mv'.heap b o q z⟩
  ·rw [show (oW x).length-(i+1)=m by lia]
   exact hk s'' hs I''
  ·cases ha2
   have hdn:s.heap.get? a'=none:=hfr
   rcases AE.mp hm with h|h
   ·rcases AE.mp h with h|h
    ·rcases Cc.mp h with rfl|h
     ·refine fq st.1 λo zz zz z zz=>?_;rw [hdn] at z;cases z
     ·exact hna a' rfl h
    ·refine bP (I.tdom a' (CR _ h)) λo z=>?_
     rw [hdn] at z;cases z
   ·exact I.mdom a' (CR _ h) hdn
 go:=by
  intro A wr T α μ i d v t s Q E I md tg ir k;exact TX md.1.1 (k s (aG.refl _ _ _) I ir md.1)
 done:=by
  intro A wr T α μ i s Q E R I st ed k;refine i8 (vR hg G hLb haL I st) λe it gs hgs han hwf hww hgo=>?_;have hle:(oW x).length≤i:=GZ.mp ed;have hz:(oW x).length-i=0:=by lia
  rw [hz] at hgo
  refine wS R (oG (P:= λn s₀ s₁=>n=0∧aG [L,e,it] [] s₀ s₁) rfl (C.nolim.keeps I.keep) (by show 591<1000;decide) st.1 hgs hgo (λv s₁ gs' hb hv=>?_) λs₁ hp h' hkp=>?_)
  ·refine iq hv λzz mv I1 hL1 hk=>?_
   exact (hk s₁ (λzz zz zz z=>z) I1).elim
  ·have mv':aG [L,e,it] [g] s {s₁.setGen g .finished with heap:=h'}:=(hp.2.running (gs':=.finished) rfl).trans (aG.mono (wr:=[]) (gi:=[]) ⟨λb o zz z=>hkp b o z,λzz zz zz z=>z,rfl,λh=>h⟩ (λzz h=>by simp at h) λzz h=>by simp at h)
   refine k _ (mv'.mono (λb hb=>hwf b (D1 _ hb)) λzz h=>h) λT' hT'=>I.movesG mv' (λb hb=>(hwf b (D1 _ hb)).imp (ye _) id) (λb hb=>.inl (hT' b hb).1) λb hb=>?_;refine bP (I.tdom b (hT' b hb).1) λo z=>?_;refine ⟨o,mv'.heap b o (λq=>?_) z⟩
   rcases hwf b (D1 _ q) with y|y
   ·exact (hT' b hb).2 y
   ·rw [y] at z;cases z
 self:=by
  intro A wr T α μ i s Q E st h;exact wpAny_pyIter_gen st.1 h
end
section
theorem vV(h:dj C "_iter_escaped_chars" 1)(hg:C.mg "enumerate"=none):∃fa o fd,C.mg "_iter_escaped_chars"=some (.ref fa)∧C.B.get? fa=some o∧o.data=.func fd∧
  ∀ (A:Around) (T α:List Addr) (μ:List ah) (s:Shared) (E:Value→Shared→Prop) (x:Str) (t:Tok) (Q:Value→Shared→Prop),A.depth<recursionLimit→bl C T α μ s→
   (∀a L g env s',yd env L→C.B.get? L=none→a≠L→s.heap.get? a=none→s.heap.get? L=none→s.gens[g]? =none→(∀b o,s.heap.get? b=some o→s'.heap.get? b=some o)→(∀ (i:Nat) (x:GenState),s.gens[i]? =some x→s'.gens[i]? =some x)→bl C ([a,L]++T) α μ s'→
    Sz C a L g env x [a,L] ([a,L]++T) α μ 0 s'→Q (.ref a) s')→wpAny (model C.prog C.w) A (call (.ref fa) [.str x t]) Q E s:=by
 refine fC h λfa o pm cd doc h1 h2 h3 h4=>?_;refine (dA fa o _ h1 h2 h3 (λA T α μ s E x t Q hd I k=>?_));refine wpAny_call (codeAny_call_generator (body:=aq (ay 1)) hd (I.keep _ _ h2) h3 ∅ ∅ rfl (h4.keeps I.keep) ?_);refine Mf (a:=([("addr",Vi x t)]:List (Str×Value))) ∅ ?_
 refine So (λy hy=>?_) (λy hy=>?_) (λh' hn hs=>?_) ∅
 ·have:((ao (ay 1)).names.all λy=>y.2 != .cell)=true:= ∅
  simpa using Bw.mp this y hy
 ·obtain rfl:y=(("addr",Vi x t):Str×Value):=by simpa using hy
  kernel_rfl
 ·have hz:h'.objs.size=s.heap.objs.size+1:=by rw [hs.1,M5]
  have hk1:∀b o,s.heap.get? b=some o→h'.get? b=some o:= λb o z=>(hs.2 b (λq=>by rw [q,bx (DU _)] at z;exact cv z)).trans (C5 _ z);have hgn:∀ (i:Nat) (y:GenState),s.gens[i]? =some y→(s.gens.push (.fresh (.func (aq (ay 1)) (newEnv (ao (ay 1)) s.heap.objs.size mainGlobals [] ("_iter_escaped_chars"++".<locals>.") (some fa) cd none builtinsNs))))[i]? =some y:= λi y z=>by
   rw [Array.getElem?_push_lt (LQ.mp z).1];exact (Nk _).symm.trans z
  have hk2:∀b o,s.heap.get? b=some o→(h'.push {cls:=.type "generator",data:=.fields #[.int s.gens.size 0,.str "_iter_escaped_chars" (s.toks+1),.str "_iter_escaped_chars" (s.toks+1+1)]}).get? b=some o:= λb o z=>C5 _ (hk1 b o z);have haf:s.heap.get? h'.objs.size=none:=bx (by rw [hz];exact P3 _);have hLf:s.heap.get? s.heap.objs.size=none:=bx (DU _);have nb:∀b,s.heap.get? b=none→C.B.get? b=none:= λb=>I.fresh;refine ⟨(C.nolim.keeps I.keep).keeps hk1,k h'.objs.size s.heap.objs.size s.gens.size (newEnv (ao (ay 1)) s.heap.objs.size mainGlobals [] ("_iter_escaped_chars"++".<locals>.") (some fa) cd none builtinsNs) _ ⟨rfl,rfl,rfl,rfl⟩ (nb _ hLf) (by rw [hz];exact Nt _) haf hLf (Array.getElem?_size ..) hk2 hgn ?_ ⟨(dA _ _ _ (Dy _ rfl) rfl rfl rfl),.inl (Hd rfl rfl (Array.getElem?_push_size ..) _ t (hn.keeps λb o z=>C5 _ z) rfl)⟩⟩;refine I.grow hk2 rfl (λhb=>hb.push rfl) (λb hb=>?_) λb hb=>?_
  ·simp only [Cc,Er,or_false] at hb
   rcases hb with rfl|rfl
   ·exact haf
   ·exact hLf
  ·simp only [Cc,Er,or_false] at hb
   rcases hb with rfl|rfl
   ·exact ⟨_,Dy _ rfl⟩
   ·refine fq hn λo zz zz z zz=>?_
    exact ⟨o,C5 _ z⟩
theorem c1(h:dj C "_iter_escaped_chars" 1)(hg:C.mg "enumerate"=none):gU C (n+1) "_iter_escaped_chars" aE:=by
 refine dp (vV h hg) λfa o fd h1 h2 h3 hc=>?_;refine (dA fa o fd h1 h2 h3 ?_);intro A T α μ s E vs Vs xs g μ' R I r q;refine ax q λW el q=>ax q λx ex q=>gw q (gF r el λv z rv=>bP (j0 ex rv) λt z1=>?_);subst z;subst z1;refine hc A T α μ s E x t _ (by have:=R.depth;unfold recursionLimit;lia) I λa L g env s' G hLb haL haf hLf hgf hk hgk I' st=>?_;exact wpAny_pyIter_gen st.1 (i_ ([a,L]) ([g]) _ _ α (gZ.gen hg G hLb haL) I' (aV.of_keeps hk hgk) st (λb hb=>(Cc.mp hb).elim (λq=>q▸haf) λq=>Aq.mp q▸hLf) (λi hi=>Aq.mp hi▸hgf) (λzz e=>nomatch e))
end
def KS(s₀ s:Shared):Prop:=(∀b o,s₀.heap.get? b=some o→s.heap.get? b=some o)∧∀ (i:Nat) (x:GenState),s₀.gens[i]? =some x→s.gens[i]? =some x
theorem KS.moves(k:KS s₀ s)(x:aG wr gi s s')(hw:∀b∈wr,s₀.heap.get? b=none)(hg:∀i∈gi,s₀.gens[i]? =none):KS s₀ s':=
 ⟨λb o e=>x.heap b o (λq=>by rw [hw b q] at e;exact cv e) (k.1 b o e),λi y e=>x.gens i y (λq=>by rw [hg i q] at e;exact cv e) (k.2 i y e)⟩
theorem KS.fresh(k:KS s₀ s){b:Addr}(h:s.heap.get? b=none):s₀.heap.get? b=none:=by
 cases q:s₀.heap.get? b with
 |none=>rfl
 |some o=>rw [k.1 b o q] at h;exact cv (F6 h)
section
theorem wM{S:Addr}{f:Obj→Obj}(I:bl C (wr++S::T) α μ s)(hS:s.heap.get? S=some o)(hf:(f o).isFreed=false):
  aG [S] [] s {s with heap:=s.heap.update S f}∧bl C (wr++S::T) α μ {s with heap:=s.heap.update S f}:=by
 have mv:aG [S] [] s {s with heap:=s.heap.update S f}:=aG.of_heap (tk:=s.toks) λb o hb z=>(RH _ _ (λq:S=b=>hb (by simp [q]))).trans z;refine ⟨mv,I.moves mv (λb hb=>?_) λb hb=>?_⟩
 ·obtain rfl:b=S:=by simpa using hb
  simp
 ·obtain rfl:b=S:=by simpa using hb
  exact ⟨_,Fw _ hS hf⟩
theorem aG.stepS{S:Addr}(x:aG [S] [] s s')(hd:∃o,s'.heap.get? S=some o):aV [S] α μ s α μ s':=
 ⟨⟨[],by simp,by simp⟩,λb o e hb=>x.heap b o (λq=>hb (ye _ q)) e,λzz h=>.inl h,λb o e=>by
  by_cases q:b=S
  ·exact q▸hd
  ·exact ⟨o,x.heap b o (by simpa using q) e⟩,λi y e=>x.gens i y (by simp) e⟩
theorem Do{R:Result→Shared→Prop}(W:gZ C (.ref a) gi xs none true St Mid)(toSt:∀wr T α μ i v s,Mid wr T α μ i v s→St wr T α μ (i+1) s)
  (fresh:∀wr T α μ i v s,Mid wr T α μ i v s→∀a',v=.ref a'→a'∉T++ai α μ) (S:Addr) (hn:xs.length≤sizeLine) (Rm:cR A.in1 2) (hSf:s₀.heap.get? S=none) (hgi:∀i∈gi,s₀.gens[i]? =none) (hTd:∀b∈T,s₀.heap.get? b≠none) (res:Value):
  ∀ (k i:Nat) (s:Shared) (acc:Array Value) (c:Nat) (wr:List Addr),xs.length-i=k→i≤xs.length→St wr (wr++S::T) α μ i s→bl C (wr++S::T) α μ s→S∉wr→s.heap.get? S=some {cls:=.type "list",dict:=none,data:=.seq acc c,slots:= #[]}→
   aw s.heap ((wr++S::T)++ai α μ) acc.toList (xs.take i)→KS s₀ s→(∀b∈wr,s₀.heap.get? b=none)→
  (∀s' acc' c',bl C (S::T) α μ s'→s'.heap.get? S=some {cls:=.type "list",dict:=none,data:=.seq acc' c',slots:= #[]}→aw s'.heap ((S::T)++ai α μ) acc'.toList xs→KS s₀ s'→R (.ok (.ret res)) s')→
  codeAny (model C.prog C.w) A (.builtin "list.extend.loop" ⟨[.ref S,.ref a,res],[]⟩) R s:=by
 intro k
 induction k with
 |zero=>
  intro i s acc c wr hk hi st I hSw hS hacc ks hwr hR;have hin:i=xs.length:=by lia
  subst hin;refine codeAny_builtin SO ?_;rw [Sq NJ _];refine (?_:wpAny _ A.in1 (pyNext (.ref a)>>=_) _ _ s);refine yS (W.done Rm I st (by simp) λs' mv hI=>?_);refine ES (hR s' acc c (hI (S::T) λb hb=>⟨CR _ hb,λq=>?_⟩) (mv.heap S _ hSw hS) ?_ (ks.moves mv hwr hgi))
  ·rcases Cc.mp hb with rfl|hb
   ·exact hSw q
   ·exact hTd b hb (hwr b q)
  ·rw [LW] at hacc
   refine aw.step (W:=wr) (λb o e hb=>mv.heap b o (λq=>hb q) e) (λb hb zz=>ye _ (ye _ hb)) (λb hb=>.inl ?_) hacc
   rcases AE.mp hb with h|h
   ·exact ye _ (CR _ h)
   ·exact CR _ h
 |succ k ih=>
  intro i s acc c wr hk hi st I hSw hS hacc ks hwr hR;have hlt:i<xs.length:=by lia
  have hacs:acc.size=i:=by
   have:=hacc.length
   rw [LU,RX hi] at this
   simpa using this
  refine codeAny_builtin SO ?_;rw [Sq NJ _];refine (?_:wpAny _ A.in1 (pyNext (.ref a)>>=_) _ _ s);refine yS (W.item Rm I st (x:=xs[i]) (Ft hlt) λv s' wr' mv hwr' I' ir md=>?_);have hSw':S∉wr':= λq=>by
   rcases hwr' S q with h|h
   ·exact hSw h
   ·rw [hS] at h;exact cv (F6 h)
  have hS':=mv.heap S _ hSw hS;have ks':=ks.moves mv hwr hgi;have hwf':∀b∈wr',s₀.heap.get? b=none:= λb hb=>(hwr' b hb).elim (hwr b) ks.fresh;refine dp ir λa' items ds zq3 hxi htup hrel=>?_;subst zq3;have hit:aJ s'.heap ((wr'++S::T)++ai α μ) (.ref a') xs[i]:=by
   rw [hxi];exact .ctuple htup (fresh _ _ _ _ _ _ _ md a' rfl) hrel
  have hacc':aw s'.heap ((wr'++S::T)++ai α μ) acc.toList (xs.take i):=aw.step (W:=wr) (λb o e hb=>mv.heap b o (λq=>hb q) e) (λb hb zz=>ye _ (ye _ hb)) (λb hb=>by
   rcases AE.mp hb with h|h
   ·rcases AE.mp h with h|h
    ·exact (hwr' b h).imp (λz=>ye _ (ye _ z)) id
    ·exact .inl (ye _ (CR _ h))
   ·exact .inl (CR _ h)) hacc
  refine (?_:wpAny _ A.in1 (updateSeq S (·.push (.ref a'))>>=_) _ _ _);refine yS ?_;have hSn:=Fw (M7 (·.push (LH a'))) hS' rfl;refine f_ (wM (f:=M7 (·.push (LH a'))) I' hS' rfl) λmv2 I2=>?_;refine Og hS' rfl (ES ⟨plainId_quiet NJ _,ih (i+1) _ (acc.push (.ref a')) _ wr' (by lia) hlt (W.frame (O:=[S]) (toSt _ _ _ _ _ _ _ md) (mv2.stepS ⟨_,hSn⟩) (λb hb=>.inr (.inr ?_)) (λb hb q=>?_) (λb hb=>.inl hb) (λb hb=>ye _ hb) I' I2 λzz e=>by exact cv e) I2 hSw' hSn ?_ (ks'.moves mv2 (λb hb=>?_) λzz h=>by simp at h) hwf' hR⟩)
   (by rw [hacs];lia) (by show (acc.push _).size≤sizeLine+1;rw [Array.size_push,hacs];lia)
  ·obtain rfl:b=S:=by simpa using hb
   simp
  ·obtain rfl:b=S:=by simpa using hb
   exact hSw' q
  ·have:=(hacc'.append (aw.cons hit (aw.nil _ _))).moves (T:=wr'++S::T) mv2 (λb hb=>by
    obtain rfl:b=S:=by simpa using hb
    simp)
   rw [show xs.take (i+1)=xs.take i++[xs[i]] from List.take_succ_eq_append_getElem hlt]
   simpa using this
  ·obtain rfl:b=S:=by simpa using hb
   exact hSf
end
section
theorem IV(W:gZ C (.ref a) gi xs none true St Mid)(toSt:∀wr T α μ i v s,Mid wr T α μ i v s→St wr T α μ (i+1) s)
  (fresh:∀wr T α μ i v s,Mid wr T α μ i v s→∀a',v=.ref a'→a'∉T++ai α μ) (hT:∀wr T α μ i s,St wr T α μ i s→s.TypeIs (.ref a) "generator") (hn:xs.length≤sizeLine) (Rm:cR A.in1.in1 2)
  (ks:KS s₀ s) (hgi:∀i∈gi,s₀.gens[i]? =none) (hwr:∀b∈wr,s₀.heap.get? b=none) (hTd:∀b∈T,s₀.heap.get? b≠none) (st:St wr (wr++T) α μ 0 s) (I:bl C (wr++T) α μ s)
  (hQ:∀S s' acc' c',s₀.heap.get? S=none→bl C (S::T) α μ s'→s'.heap.get? S=some {cls:=.type "list",dict:=none,data:=.seq acc' c',slots:= #[]}→aw s'.heap ((S::T)++ai α μ) acc'.toList xs→KS s₀ s'→Q (.ref S) s'):
  wpAny (model C.prog C.w) A (call (.type "list") [.ref a]) Q E s:=by
 have hSf:s.heap.get? s.heap.objs.size=none:=bx (DU _);generalize hSe:s.heap.objs.size=S at hSf
 have hS0:s₀.heap.get? S=none:=ks.fresh hSf;refine callType_codes (Q₁:= λobj s₁=>obj=.ref s.heap.objs.size∧s₁= {s with heap:=s.heap.push {cls:=.type "list",data:=.seq #[]}}) F.called_list (F.typeCall_list_1 _) F.entry_list_init
  (code_list_new _ ⟨rfl,rfl⟩) λobj s₁ h₁=>?_
 refine f_ h₁ λzq0 zq1=>?_;refine bH (F6 zq0) ?_;refine bH (F6 zq1) ?_;have hS:(s.heap.push {cls:=.type "list",data:=.seq #[]}).get? s.heap.objs.size=some {cls:=.type "list",data:=.seq #[]}:=Dy _ rfl;rw [hSe] at hS⊢
 have hk1:∀b o,s.heap.get? b=some o→(s.heap.push {cls:=.type "list",data:=.seq #[]}).get? b=some o:=bc _ _;have mv1:aG [] [] s {s with heap:=s.heap.push {cls:=.type "list",data:=.seq #[]}}:=aG.of_heap (tk:=s.toks) λb o zz z=>hk1 b o z;have I1:bl C (wr++S::T) α μ {s with heap:=s.heap.push {cls:=.type "list",data:=.seq #[]}}:=I.movesG mv1 (λb hb=>by simp at hb) (λb hb=>by
  rcases AE.mp hb with h|h
  ·exact .inl (ye _ h)
  ·rcases Cc.mp h with rfl|h
   ·exact .inr hSf
   ·exact .inl (CR _ h)) λb hb=>by
  rcases AE.mp hb with h|h
  ·exact (I.tdom b (ye _ h)).imp λo z=>hk1 b o z
  ·rcases Cc.mp h with rfl|h
   ·exact ⟨_,hS⟩
   ·exact (I.tdom b (CR _ h)).imp λo z=>hk1 b o z
 have hSw:S∉wr:= λq=>by
  refine bP (I.tdom S (ye _ q)) λo z=>?_;rw [hSf] at z;exact cv z
 have st1:St wr (wr++S::T) α μ 0 {s with heap:=s.heap.push {cls:=.type "list",data:=.seq #[]}}:=W.frame (O:=[]) st (aV.keeps (tk:=s.toks) hk1) (iI.nil _ _) (λzz h=>by simp at h) (λb hb=>by
  rcases AE.mp hb with h|h
  ·exact .inl (ye _ h)
  ·rcases Cc.mp h with rfl|h
   ·exact .inr hSf
   ·exact .inl (CR _ h)) (λb hb=>ye _ hb) I I1 λzz e=>by exact cv e
 have upd:∀ {s1:Shared} {o:Obj} {f:Obj→Obj},St wr (wr++S::T) α μ 0 s1→bl C (wr++S::T) α μ s1→s1.heap.get? S=some o→(f o).isFreed=false→
   St wr (wr++S::T) α μ 0 {s1 with heap:=s1.heap.update S f}∧bl C (wr++S::T) α μ {s1 with heap:=s1.heap.update S f}∧(KS s₀ s1→KS s₀ {s1 with heap:=s1.heap.update S f}):= λ{s1 o f} st1 I1 h1 hf=>by
  refine f_ (wM (f:=f) I1 h1 hf) λmv2 I2=>?_;refine (fu (W.frame (O:=[S]) st1 (mv2.stepS ⟨_,Fw _ h1 hf⟩) (λb hb=>.inr (.inr ?_)) (λb hb q=>?_) (λb hb=>.inl hb) (λb hb=>ye _ hb) I1 I2 (λzz e=>by exact cv e)) I2 (λk=>KS.moves k mv2 (λb hb=>?_) λzz h=>by simp at h))
  ·obtain rfl:b=S:=by simpa using hb
   simp
  ·obtain rfl:b=S:=by simpa using hb
   exact hSw q
  ·obtain rfl:b=S:=by simpa using hb
   exact hS0
 refine (fu ⟨_,hS,rfl⟩ (F.args_list_init_2 _ _) ?_);refine (?_:wpAny _ A.in1.in1 (do let old←RI (.ref S);Builtin.List.listUpdate (.ref S) (λzz=> #[]);letGo old.toList.reverse;MQ (.ref S) (.ref a) .none) _ _ _);refine yS ?_;unfold RI;refine yS (Nd hS rfl (ES ?_))
 show wpAny _ A.in1.in1 (updateSeq S (λzz=> #[])>>= λzz=>letGo (#[]:Array Value).toList.reverse>>= λzz=>MQ (.ref S) (.ref a) .none) _ _ _
 refine yS (Og hS rfl ?_);have hS₂:=Fw (M7 (λzz=>(#[]:Array Value))) hS rfl;refine dW (upd (f:=M7 (λzz=>(#[]:Array Value))) st1 I1 hS rfl) λst2 I2 k2=>?_;refine yS (SN ?_);have hSI:S≠a:= λe=>by
  refine au (hT _ _ _ _ _ _ st1) λo z q=>?_;rw [←e] at z
  rw [hS] at z;cases z;exact absurd q (by decide)
 unfold MQ;refine yS (wpAny_typeOf (hT _ _ _ _ _ _ st2) ?_);have h1:QR (.ref S) (.ref a)=false:=by simp [QR,hSI]
 have h2:(Tx "generator"==Tx "list")=false:=by decide
 have h3:(Tx "generator"==Tx "tuple")=false:=by decide
 simp only [h1,h2,h3,UZ,OB,if_false];refine yS (W.self st2 ?_);refine yS (Ld ?_);unfold Builtin.List.listLengthHint;refine yS (LG (hT _ _ _ _ _ _ st2) F.gen_no_len ?_);refine (?_:wpAny _ A.in1.in1 (specialOf (LH a) (Ks "__length_hint__")>>=_) _ _ _);refine yS (LG (hT _ _ _ _ _ _ st2) F.gen_no_hint ?_);refine ES ?_
 show wpAny _ A.in1.in1 (rule "list.extend.makes-room">>= λzz=>Builtin.List.listTouch (.ref S)>>= λzz=>
  again (.builtin "list.extend.loop" ⟨[.ref S,.ref a,.none],[]⟩)) _ _ _
 refine yS (O7 ?_);refine yS ?_
 show wpAny _ A.in1.in1 (updateSeq S (·.push .none)>>= λzz=>updateSeq S (·.pop)) _ _ _
 refine yS (Og hS₂ rfl ?_);have hS₃:=Fw (M7 (·.push Lo)) hS₂ rfl;refine dW (upd (f:=M7 (·.push Lo)) st2 I2 hS₂ rfl) λst3 I3 k3=>?_;refine Og (hz:=by seq_fits) hS₃ rfl ?_;have hS₄:=Fw (M7 (·.pop)) hS₃ rfl;refine dW (upd (f:=M7 (·.pop)) st3 I3 hS₃ rfl) λst4 I4 k4=>?_;have ks4:=k4 (k3 (k2 (ks.moves mv1 (λzz h=>by simp at h) λzz h=>by simp at h)));refine ES ⟨plainId_quiet NJ _,Do W toSt fresh S hn Rm hS0 hgi hTd .none _ 0 _ _ _ wr rfl (LL _) st4 I4 hSw hS₄ (by simpa using aw.nil _ _) ks4 hwr λs' acc' c' I' hS' hd hk=>?_⟩;exact ⟨rfl,hQ S s' acc' c' hS0 I' hS' hd hk⟩
end
theorem c1L(h:dj C "_iter_escaped_chars" 1)(hg:C.mg "enumerate"=none):AW C (n+3) "_iter_escaped_chars" aE:=by
 refine dp (vV h hg) λfa o fd h1 h2 h3 hc=>?_;refine (dA fa o fd h1 h2 h3 ?_);intro A T α μ s E vs Vs xs g μ' R I r q hsz;refine ax q λW el q=>ax q λx ex q=>?_;cases (q:some (eA x.cps.toList 0 false,none,μ)=some (xs,g,μ'));refine gF r el λv z rv=>bP (j0 ex rv) λt z1=>?_;subst z;subst z1;refine hc A T α μ s E x t _ (by have:=R.depth;unfold recursionLimit;lia) I λa L g env s' G hLb haL haf hLf hgf hk hgk I' st=>?_;refine IV (T:=T) (α:=α) (wr:=[a,L]) (μ:=μ) (s₀:=s) (gZ.gen (x:=x) (env:=env) (g:=g) hg G hLb haL) (λwr T α μ i v s md=>md.1) (λwr T α μ i v s md=>md.2) (λwr T α μ i s st=>st.1.typeIs) hsz ⟨?_,?_,R.handled⟩ ⟨hk,hgk⟩ (λi hi=>Aq.mp hi▸hgf) (λb hb=>(Cc.mp hb).elim (λq=>q▸haf) λq=>Aq.mp q▸hLf) (λb hb q=>I.mdom b (ye _ hb) q) st I' λS s2 acc c hS I2 hS2 hd ks=>?_
 ·have:=R.depth
  show A.depth+4*2<600;lia
 ·have:=R.units
  show A.units+1+1+200*2+400<cLine;lia
 ·exact (cL α (I2.sub λb hb=>D1 _ hb) (aV.of_keeps ks.1 ks.2) (aJ.list (vs:=acc) ⟨_,hS2⟩ (hd.mono qP) λq=>I.mdom S q hS))
theorem ZO(h:Heap)(S:List Addr):∃b:Heap,(∀a,a∉S→b.get? a=h.get? a)∧∀a∈S,b.get? a=none:=by
 induction S with
 |nil=>exact (aZ h (λzz zz=>rfl) (λzz q=>by cases q))
 |cons x S ih=>
  refine au ih λb h1 h2=>?_;refine ⟨{b with objs:=b.objs.setIfInBounds x {cls:=.none,data:=.freed}},λa ha=>?_,λa ha=>?_⟩
  ·simp only [Cc,not_or] at ha
   rw [←h1 a ha.2];unfold Vj;dsimp only;rw [Ma (MP ha.1)]
  ·by_cases q:a=x
   ·refine bH q ?_
    unfold Vj;dsimp only
    by_cases hlt:a<b.objs.size
    ·rw [Array.getElem?_setIfInBounds_self_of_lt hlt]
    ·rw [Array.getElem?_eq_none (by simpa using hlt)]
   ·rw [←h2 a ((Cc.mp ha).resolve_left q)]
    unfold Vj;dsimp only;rw [Ma (MP q)]
section
theorem o7{it:Addr}{Q:Option Value→Shared→Prop}(hh:A.handled=none)(hit:ee s.heap M it (.iter []))
  (hE:∀h1 h' e,KM h1 it→Lq it s.heap h1→Qp h1 h' e (.type "StopIteration") []→E (.ref e) {s with heap:=h'}):wpAny (model C.prog C.w) A (callSpecial? (.ref it) (Ks "__next__")) Q E s:=by
 have fin:∀ {β:Type} (Q':β→Shared→Prop) (h1:Heap),KM h1 it→Lq it s.heap h1→wpAny (model C.prog C.w) A.in1 (OP (α:=β)) Q' E {s with heap:=h1}:= λQ' h1 hs hb=>by
  unfold OP;refine yS ?_;simp only [newExc,newTuple];refine yS (HQ ?_ (by size_fits));refine yS (m:=firstArgMember _ _) (Mf (a:=Lo) (by first|rfl| (simp only [firstArgMember];rfl)) ?_);refine HQ ?_ (by size_fits);refine NH hh ?_;refine hE h1 _ _ hs hb ⟨λb o z=>C5 _ (C5 _ z),bx (by show h1.objs.size≤(h1.push _).objs.size;rw [M5];exact P3 _),h1.objs.size,Dy _ rfl,bx (DU _),C5 _ (Dy _ rfl)⟩
 rcases hit with ⟨l,k,items,hli,hp,hl,hk,rr⟩| ⟨_,o,k,ho,hc,hd⟩
 ·refine ct (id hli) λo ho hc hd=>?_
  refine zb hp.isList λol hol zz nl hdl=>?_;have hx:items[k]? =none:=by
   have:=rr.length
   simp at this⊢;lia
  refine Ju (name:=Ks "__next__") hli.typeIs Lf
   (Ll Lf hli.typeIs PV ?_ (Qd _))
  refine (?_:wpAny _ _ (field (.ref it) 0>>=_) _ _ s);refine yS (L2 ho hd (x:=.ref l) rfl ?_);refine (?_:wpAny _ _ (if (LH l==Lo)=true then _ else _) _ _ s);rw [if_neg (show ¬ ((LH l==Lo)=true) from Hm)];refine (?_:wpAny _ _ (field (.ref it) 1>>=_) _ _ s);refine yS (L2 ho hd (x:=.int k 0) rfl ?_);refine (?_:wpAny _ _ (seqItems? (.ref l)>>=_) _ _ s);refine yS (Nd hol hdl ?_);simp only [Fq,hx];refine yS (O7 (yS (P8 ho hd (by simp) ?_)));exact fin _ _ (dy _ _ (Fw _ ho (M0 (Lg hd _))) ((Tw ..).trans hc) (by rw [Lg hd];rfl)) (L9 ..)
 ·refine Ju (name:=Ks "__next__") (T:="list_iterator") (aZ o ho hc) Lf
   (Ll Lf (aZ o ho hc) PV ?_ (Qd _))
  refine (?_:wpAny _ _ (field (.ref it) 0>>=_) _ _ s);refine yS (L2 ho hd (x:=.none) rfl ?_);refine (?_:wpAny _ _ (if (Lo==Lo)=true then _ else _) _ _ s);rw [if_pos (by decide)];refine yS (O7 ?_);exact yS (fin _ s.heap (dy o k ho hc hd) ⟨rfl,λzz zz=>rfl⟩)
end
section
end
noncomputable abbrev JH:Value:=.type "StopIteration"
def LB(h:Heap)(L:Addr):Prop:=∃o es n,h.get? L=some o∧o.data=.dict es n
def FF(h:Heap)(l:List Env):Prop:=∀env∈l,env.scope.kind≠ .module∧∃L,env.frame=some L∧LB h L
theorem FF.fun{base:Heap}:∀ {l:List Env},FF h l→(∀L∈l.filterMap (·.frame),base.get? L=none)→h.FunFrames base l
 | [],_,_=>trivial
 |env::l,f,hb=>by
  obtain ⟨hk,L,hL,o,es,n,ho,hd⟩:=f env (by simp);refine (fu hk ⟨L,o,hL,hb L ?_,ho,λvs q=>by rw [hd] at q;cases q⟩ (FF.fun (λe he=>f e (D1 _ he)) λL' hL'=>hb L' ?_))
  ·rw [NR,hL];simp
  ·rw [NR,hL];exact D1 _ hL'
theorem LB.ext(x:LB h L)(e:g7 W h h')(hn:L∉W):LB h' L:=by
 refine fq x λo es n ho hd=>?_;exact (lK o es n (e L o ho λq=>absurd q hn) hd)
theorem LB.frameAt(x:LB h L):bW h L:=let ⟨o,es,n,ho,hd⟩:=x;⟨o,ho,.inl (jN es n hd)⟩
theorem FF.step{l:List Env}(f:FF s.heap l)(I:bl C T α μ s)(S:aV O α μ s α' μ' s')(hO:∀L∈l.filterMap (·.frame),L∉O):FF s'.heap l:= λenv he=>by
 refine iB (f env he) λhk L hL hd=>?_;refine (gN hk L hL (hd.ext S.ext λq=>?_))
 rcases AE.mp q with q|q
 ·exact hO L (OA.mpr (aZ env he hL)) q
 ·exact I.notFrame (db q) hd.frameAt
theorem FF.mem{l:List Env}(f:FF h l)(hL:L∈l.filterMap (·.frame)):LB h L:=by
 refine au (OA.mp hL) λenv he q=>?_;refine iB (f env he) λzz L' q' hd=>?_;rw [q] at q';cases q'
 exact hd
section
variable {M:Model}
theorem E5{base:Heap}{outer:List Env}{e:Addr}{args:List Value}{Q:Unit→Shared→Prop}
  (hfr:A.frames=some (env::outer)) (hf:env.frame=some L) (hkb:base.StaysIn h) (hl:h.FunFrames base (env::outer)) (hx:Qp h s.heap e cls args)
  (hQ:∀h' t,TC base (env::outer) e cls (.ref t) L h'→s.heap.UpToSlots h'→Q () {s with heap:=h'}):wpAny M A (noteFrame (.ref e) env) Q E s:=by
 refine ct hx.there λt he htn ht=>?_;have fresh:∀b,h.get? b=none→base.get? b=none:= λb hb=>by
  cases hq:base.get? b with
  |none=>rfl
  |some o'=>have:=hkb b o' hq;rw [hb] at this;exact cv this
 unfold noteFrame;simp only [hf];refine yS (L2 he rfl (x:=.none) rfl ?_);rw [if_neg (by decide)];refine wpAny_entryW (vs:= #[.ref t,.none,.none,.none,.bool false,.none]) hfr (hl.of_keeps λb o hb zz=>(aZ o (hx.keeps b o hb) rfl)) hf he (λb o hb=>hx.keeps b o (hkb b o hb)) (fresh e hx.new) rfl (by show 1<6;decide) rfl λh' hN=>?_;refine my hN λk1 k2 k3 k4=>?_;exact hQ h' t (lq k1 (fresh e hx.new) k2 k3) k4
theorem D_{base:Heap}{l:List Env}{e:Addr}{a0:Value}(hf:env.frame=some L)(hh:TC base l e cls a0 L s.heap)
  (hQ:∀h',TC base l e cls a0 L h'→s.heap.UpToSlots h'→Q (.ref e) {s with heap:=h'}):cameBackBy M A env Q (.ref e) s:=by
 obtain ⟨hkb,hen,hl,oe,vs,T,oT,ts,he,hcls,hd,h1,hnT,hTe,hT,hdT,h3⟩:=hh;have hsz3:3<ts.size:=(LQ.mp h3).1;have other:∀b,b≠T→(s.heap.update T (Obj.mapFields (·.setIfInBounds 3 ((some L:Option Addr).elim Lo λf=>rawInt f)))).get? b=s.heap.get? b:=
  λb hb=>RH _ _ (MP hb)
 have noRecord:∀b o,s.heap.get? b=some o→(∀vs,o.data≠ .fields vs)→b≠T:= λb o hb hnf q=>by
  rw [q,hT] at hb;injection hb with hb;subst hb;exact hnf ts hdT
 unfold cameBackBy;refine yS (L2 he hd h1 ?_);rw [if_neg (show ¬ ((LH T==Lo)=true) from by simp)];unfold setFlight;refine yS (L2 he hd h1 ?_);rw [if_pos (show (LH T != Lo)=true from by simp),hf];refine P8 hT hdT hsz3 (hQ _ (lq (λb o hbo=>(other b λq=>by rw [q,hnT] at hbo;exact cv hbo).trans (hkb b o hbo)) hen (hl.of_keeps λb o hb hnf=>⟨o,(other b (noRecord b o hb hnf)).trans hb,rfl⟩) ?_) λb o hb hnf=>⟨o.slots,(other b (noRecord b o hb hnf)).trans hb⟩);exact (oU oe vs T _ _ ((other e (MP hTe)).trans he) hcls hd h1 hnT hTe (Fw _ hT (M0 (Lg hdT _))) (Lg hdT _) (by simp [hsz3]))
theorem wY{base:Heap}{outer:List Env}{e:Addr}{a0:Value}{Q:Unit→Shared→Prop}(hf:env.frame=some L)
  (hh:TC base (env::outer) e cls a0 L s.heap) (hQ:∀h',Heap.FlyingW base outer e cls a0 h'→s.heap.UpToSlots h'→Q () {s with heap:=h'}):wpAny M A (leaving env (.ref e)) Q E s:=by
 unfold leaving;refine yS (wpAny_noteFrame_againW hf hh.2.2.2 ?_);refine wpAny_landsW hh λh' hfl hu=>?_;refine my hfl λk1 k2 zp2 k4=>?_;refine dW zp2 λzz zz k3=>?_;exact hQ h' (lq k1 k2 k3 k4) hu
end
section
theorem mQ(hg:C.mg "next"=none)
  (ha:dg C n cx [e] [f]) (hs:∀env,starEach [e] env=(false,eval e env)::starEach [] env) (hp:∀env,(backTo pos (starEach [e] env)).any (·.1)=false)
  (hl:cx.scope.names.lookup ("next":Str)=some .globalImplicit) (hk:cx.scope.kind=.function)
  (R:cR A n) (I:bl C T α μ s) (F:bh C cx env O ρ s.heap α (T++ai α μ)) (hf:f ρ μ=some (.c i,μ)) (hc:μ[i]? =some (.iter []))
  (hE:∀α1 s1 h' ex,bl C T α1 (μ.set i (.iter [])) s1→aV [] α μ s α1 (μ.set i (.iter [])) s1→Qp s1.heap h' ex JH []→E (.ref ex) {s1 with heap:=h'}):
  wpAny (model C.prog C.w) A (eval (.Call (.Name "next" xp) [e] [] pos) env) Q E s:=by
 refine (?_:wpAny _ A (do callWith pos (←eval (.Name "next" xp) env) [] (backTo pos (starEach [e] env)) []) _ _ s);refine yS (Fe (by rw [F.sc];exact hk) (by unfold Jz;rw [F.sc];exact hl) (Lu (by rw [F.gl];exact C.g.keeps I.keep) hg (by rw [F.bn];exact C.b.keeps I.keep) ((C.bt _ (by decide+kernel)).trans (∅ :bootBuiltins "next"=some (.builtin "next"))) ?_) ∅);refine bf "next" _ _ _ _ _ _ _ _ (hp env) (ef (hs env) ha R I F (show e_ [f] ρ μ=some ([.c i],μ) by simp [e_,hf,bpS,bpN,boS,boN]) λvs s1 α1 I1 S1 r1=>?_)
 match vs,r1 with
 | [v],r1=>
 obtain ⟨a,hαi,rfl⟩:=r1.1;refine PT (by decide+kernel) (by decide+kernel) kdk_entry_next (kdk_args_next _) ?_;unfold Builtin.«next»
 refine yS (m:=someArgs "next" 1 2 _) (Mf (a:=[LH a]) (by first|rfl|kernel_rfl!) ?_);dsimp only;have hcell:=I1.cells i a _ hαi hc;have hty:s1.TypeIs (.ref a) "list_iterator":=by
  rcases hcell with ⟨l,k,items,⟨o,ho,hcl,hd⟩,_⟩| ⟨_,o,k,ho,hcl,hd⟩
  ·exact (aZ o ho hcl)
  ·exact (aZ o ho hcl)
 refine yS (LG (name:=Ks "__next__") hty Lf.lookup ?_);refine wpAny_ite_split (λhab=>absurd hab (by decide)) (λzz=>?_);refine yS (o7 (C:=C) R.handled hcell λh1 h' ex hsp hsb hx=>?_);obtain ⟨I2,S2⟩:=I1.setCell (c:=.iter []) (h':=h1) (tk:=s1.toks) hαi hc rfl rfl (λb o q z=>(hsb.2 b q).trans z) (by obtain ⟨o,k,z,_⟩:=hsp;exact ⟨o,z⟩) λkd=>.inr ⟨rfl,hsp⟩;exact hE α1 {s1 with heap:=h1} h' ex I2 (S1.trans S2) hx
end
def Fly(C:gK)(T α:List Addr)(μ μ':List ah)(s:Shared)(outer:List Env)(e:Addr)(s':Shared):Prop:=
 ∃s1 h' base t LV,s'= {s1 with heap:=h'}∧bl C T α μ' s1∧aV [] α μ s α μ' s1∧s.heap.get? LV=none∧bW s1.heap LV∧(∀b,b∉LV::outer.filterMap (·.frame)→base.get? b=s1.heap.get? b)∧Heap.FlyingW base outer e JH (.ref t) h'∧s1.heap.UpToSlots h'
theorem HR{v b:Int}(h0:0≤b)(h:(Hp v:Int)+b≤2^27):qw (.d (.int v)) (.d (.int b)) μ=some (.d (.int (v*2^b.toNat)),μ):=by
 refine (?_:bo (if 0≤b∧(Hp v:Int)+b≤2^27 then some (v*2^b.toNat) else none) (λz=>some (AV.d (.int z),μ))=_);rw [if_pos ⟨h0,h⟩];rfl
theorem wt{x:PyData}{r:List PyData}(hc:μ[i]? =some (.iter (x::r))):jX [.c i] μ=some (.d x,μ.set i (.iter r)):=by
 refine (?_:bo (μ[i]?.bind Sh) (λxs=>bp (uncons xs) λx r=>some (AV.d x,μ.set i (.iter r)))=_);rw [hc];rfl
theorem Kw{o:AV→AV→List ah→Option (AV×List ah)}{v w:Int}(e:ρ[2]? =some (some (.d (.int v))))(h:o (.d (.int v)) (.d (.int 6)) μ=some (.d (.int w),μ)):iu 2 (kI 6) o ρ μ=some (.next,ρ.set 2 (some (.d (.int w))),μ):=by
 refine (?_:bo (ρ[2]?.bind id) (λV=>bp (o V (.d (.int 6)) μ) λr μ2=>some (Fl.next,ρ.set 2 (some r),μ2))=_);rw [e];refine (?_:bp (o (.d (.int v)) (.d (.int 6)) μ) (λr μ2=>some (Fl.next,ρ.set 2 (some r),μ2))=_);rw [h];rfl
theorem oD:(0:Int)≤6:=by decide
theorem NG{v:Int}(e:ρ[2]? =some (some (.d (.int v))))(h:(Hp v:Int)+6≤2^27):∃w,iu 2 (kI 6) qw ρ μ=some (.next,ρ.set 2 (some (.d (.int w))),μ):=by
 have:∃w,qw (.d (.int v)) (.d (.int 6)) μ=some (.d (.int w),μ):=⟨_,HR oD h⟩
 refine bP this λw hw=>?_;exact ⟨w,Kw e hw⟩
section
theorem Pz(G:cK C)(h:dj C "_parse_varint" 8):∃fa o fd,C.mg "_parse_varint"=some (.ref fa)∧C.B.get? fa=some o∧o.data=.func fd∧
  ∀ (A:Around) (T α:List Addr) (μ μ':List ah) (s:Shared) (i:Nat) (a:Addr) (outer:List Env) (Q E:Value→Shared→Prop),cR A 3→bl C T α μ s→α[i]? =some a→rH μ i=some μ'→A.frames=some outer→FF s.heap outer→
   (∀e s',Fly C T α μ μ' s outer e s'→E (.ref e) s')→wpAny (model C.prog C.w) A (call (.ref fa) [.ref a]) Q E s:=by
 refine fC h λfa o pm cd doc h1 h2 h3 h4=>?_;refine (dA fa o _ h1 h2 h3 (λA T α μ μ' s i a outer Q E R I ha hst hfr hff hE=>?_));refine mJ (Vs:=[.c i]) ["iterator"] h2 h3 h4 (jH λzz=> ∅) (of_decide_eq_true ∅) ∅ ∅ ∅ ∅ (by have:=R.depth;unfold recursionLimit;lia) I ⟨(aZ a ha rfl),trivial⟩ rfl λL O h₁ tk hL hLO hO I1 S1 F1 hk1=>?_
 generalize henv:envOfC "_parse_varint" (ao (ay 8)) L fa cd=env at F1⊢
 have hef:env.frame=some L:=by rw [←henv];rfl
 have hek:env.scope.kind≠ .module:=by rw [←henv];show (ao (ay 8)).kind≠ .module;rw [show (ao (ay 8)).kind=.function from ∅];decide
 have R2:cR (A.deeper env) 2:=⟨by have:=R.depth;show A.depth+1+4*2<600;lia,by have:=R.units;show A.units+3+200*2+400<cLine;lia,R.handled⟩;have hfr2:(A.deeper env).frames=some (env::outer):=Py hfr;have hLout:∀L'∈outer.filterMap (·.frame),L'∉O:= λL' hL' q=>(hff.mem hL').frameAt.dom (hO L' q);have hff1:FF h₁ outer:= λenv' he=>by
  obtain ⟨hk,L',hL',o',es,m,ho',hd⟩:=hff env' he;exact ⟨hk,L',hL',o',es,m,hk1 _ _ ho',hd⟩
 have hnext:C.mg "next"=none:=G.no _ ∅
 
 have made:∀ {α1 μ1 s1 h' ex},bl C T α1 μ1 s1→aV O α μ {s with heap:=h₁,toks:=tk} α1 μ1 s1→α1=α→LB s1.heap L→Qp s1.heap h' ex JH []→
   ∃base,(∀b,b∉L::outer.filterMap (·.frame)→base.get? b=s1.heap.get? b)∧base.StaysIn s1.heap∧s1.heap.FunFrames base (env::outer)∧aV [] α μ s α μ1 s1:= λ{α1 μ1 s1 h' ex} I' S' hα hLd hx=>by
  subst hα;refine au (ZO s1.heap (L::outer.filterMap (·.frame))) λbase g1 g2=>?_;have hfs:FF s1.heap (env::outer):= λenv' he=>by
   rcases Cc.mp he with rfl|he
   ·exact (gN hek L hef hLd)
   ·exact FF.step (s:= {s with heap:=h₁,toks:=tk}) hff1 I1 S' hLout env' he
  refine (d4 base g1 (λb o z=>?_) (hfs.fun λL' hL'=>g2 L' ?_) (((S1.up (O:=O)).trans S').weak λb hb=>.inr (hO b hb)))
  ·by_cases q:b∈L::outer.filterMap (·.frame)
   ·rw [g2 b q] at z;cases z
   ·rw [←g1 b q];exact z
  ·rwa [NR,hef] at hL'
 have hnsD:∀ {ρ:d5} {s1:Shared} {α1:List Addr} {M:List Addr},bh C EH env O ρ s1.heap α1 M→LB s1.heap L:= λF=>by
  refine au F.loc λm zp1 zz=>?_;refine jx zp1 λob es ep z d zz=>?_;rw [show env.locals=L by rw [←henv];rfl] at z
  exact (lK ob es ep z d)
 have sameα:∀ {α1:List Addr} {μ0 μ1:List ah} {s0 s1:Shared},bl C T α1 μ1 s1→aV O α μ s0 α1 μ1 s1→μ1.length=μ.length→α1=α:= λ{α1 μ0 μ1 s0 s1} I' S' hl=>by
  refine au S'.pre λδ e zz=>?_
  have:=I'.len
  rw [hl,←I.len,e,be] at this
  have hz:δ=[]:=OC.mp (by lia);rw [e,hz,DO]
 refine Ok hst (λhc z=>?_) λb hc hb z=>?_
 ·subst z
  refine KD (M9 (mQ (cx:=EH) (f:=a9 0) (n:=2) hnext (dG (λzz=> ∅) iU ae) (λzz=> ∅) (λzz=>rfl) ∅ ∅ R2 I1 F1 rfl hc λα1 s1 h' ex I' S' hx=>?_) ∅);have hα:α1=α:=sameα (μ0:=μ) (s0:= {s with heap:=h₁,toks:=tk}) I' S'.up (by simp);subst hα;refine eD (made I' S'.up rfl (hnsD (F1.step I1 S')) hx) λbase g1 hkb hl hSt=>?_;refine wpAny_leaves_madeW hfr2 hef hkb hl hx λh'' t fly zz zz up=>?_;exact hE ex _ (ie s1 h'' base t L rfl I' hSt hL ((hnsD (F1.step I1 S')).frameAt) g1 fly ((Rh hx.keeps).trans up))
 ·subst z
  have hlen:i<μ.length:=(BW.mp hc).1;refine KD (D2 ((B6 G (DU 2)).run _ env O T _ α μ _ _ .next ((cF (ao (ay 8)) [.c i]).set 1 (some (.d (.int b)))) (μ.set i (.iter [])) R2 I1 F1 ?_) (λfw s2 p=>?_) λzz zz x=>x)
  ·refine (?_:bp (jX [.c i] μ) (λV μ1=>some (Fl.next,(cF (ao (ay 8)) [.c i]).set 1 (some V),μ1))=_)
   rw [wt hc];rfl
  refine eD p λα2 I2 S2 F2 zq4=>?_;subst zq4;refine KD (D2 ((BY G (DU 2)).run _ env O T _ α2 _ _ _ .next (((cF (ao (ay 8)) [.c i]).set 1 (some (.d (.int b)))).set 2 (some (.d (.int (D5 b 63))))) (μ.set i (.iter [])) R2 I2 F2 ?_) (λfw s3 p=>?_) λzz zz x=>x)
  ·rfl
  refine eD p λα3 I3 S3 F3 zq4=>?_;subst zq4;refine KD (wpAny_While (codeAny_whileLoop (λk s'=>s'=s3) ?_ 0 rfl))
  rintro k s' rfl
  refine D2 ((ii (λzz zz=>rfl) (av Ou am qU)).run _ env O T _ α3 _ _ _ true (μ.set i (.iter [])) R2 I3 F3 ?_) (λb' s4 p=>?_) λzz zz x=>x
  ·refine (?_:some (D5 b 64 != 0,μ.set i (.iter []))=_)
   rw [bne_iff_ne.mpr hb.1]
  refine iB p λzq0 α4 I4 S4=>?_;subst zq0;rw [if_pos rfl];have F4:=F3.step I3 S4;refine bP (NG (ρ:=((cF (ao (ay 8)) [.c i]).set 1 (some (.d (.int b)))).set 2 (some (.d (.int (D5 b 63))))) (μ:=μ.set i (.iter [])) rfl hb.2) λw hw=>?_;refine KD (D2 ((nE (i:=2) ∅ ∅ ∅ am AS).run _ env O T _ α4 _ _ _ .next _ _ R2 I4 F4 hw) (λfw s5 p=>?_) λzz zz x=>x);refine eD p λα5 I5 S5 F5 zq4=>?_;subst zq4;have hc5:(μ.set i (.iter []))[i]? =some (.iter []):=by simp [hlen]
  refine KD (M9 (mQ (cx:=EH) (f:=a9 0) (n:=2) hnext (dG (λzz=> ∅) iU ae) (λzz=> ∅) (λzz=>rfl) ∅ ∅ R2 I5 F5 rfl hc5 λα6 s6 h' ex I6 S6 hx=>?_) ∅);have SS:=((S2.trans (S3.trans (S4.up (O:=O)))).trans S5).trans (S6.up (O:=O));rw [HA] at I6 S6 SS
  have hα:α6=α:=sameα (μ0:=μ) (s0:= {s with heap:=h₁,toks:=tk}) I6 SS (by simp);subst hα;have hLd:=hnsD (F5.step I5 S6);refine eD (made I6 SS rfl hLd hx) λbase g1 hkb hl hSt=>?_;refine E5 hfr2 hef hkb hl hx λh7 t held up7=>?_;refine D_ hef held λh8 held8 up8=>?_;refine wY hef held8 λh9 fly up9=>?_;exact hE ex _ (ie s6 h9 base t L rfl I6 hSt hL hLd.frameAt g1 fly ((((Rh hx.keeps).trans up7).trans up8).trans up9))
end
section
variable {f:SF}
theorem VR{h₀:ExceptHandler}{hs:List ExceptHandler}(hf:cD C n cx body f):aQ C n cx (.Try body (h₀::hs) [] [] pos) f:=by
 refine .of ?_;intro A env O T ρ α μ s E fl ρ' μ' R I F h;refine wpAny_Try_except (D2 (hf.run A env O T ρ α μ s _ fl ρ' μ' R I F h) (λfw s1 p=>?_) λzz zz x=>x);have p':=p;refine eD p λα1 I1 S1 F1 r1=>?_;cases fl with
 |next=>cases r1;exact RY p'
 |brk=>cases r1;exact p'
 |ret V=>refine au r1 λv zq1 rv=>?_;subst zq1;exact p'
abbrev Tj:Cx:=dh (ao (ay 69))
theorem wv:ab C n Tj (.Name "tape" pos) (a9 0):=rE 0 ∅ ∅ ∅ ∅
def f69:SF:=ap (ff (aU [af [a9 0] aR])) aP
theorem b69(hp:aI C n "_parse_varint" aR):cD C n Tj (aq (ay 69)) (ap f69 aP):=
 ak (VR (ak (da (bb (dG (λzz=> ∅) (cg hp (dG (λzz=> ∅) wv ae) (λzz=>rfl) ∅ ∅ ∅) ae))) aN)) aN
theorem ao0(hp:aI C n "_parse_varint" aR)(h:dj C "_law_beyond" 69):aI C (n+1) "_law_beyond" (cA 1 (ao (ay 69)) (ap f69 aP)):=
 gQ ["tape"] h (b69 hp) (λzz zz zz=>jH λzz=> ∅) ∅ ∅ ∅ ∅ ∅
end
section
theorem xm(G:cK C)(hv:dj C "_parse_varint" 8)(h:dj C "_law_beyond" 69):∃fa o fd,C.mg "_law_beyond"=some (.ref fa)∧C.B.get? fa=some o∧o.data=.func fd∧
  ∀ (A:Around) (T α:List Addr) (μ μ':List ah) (s:Shared) (i:Nat) (a:Addr) (outer:List Env) (Q:Value→Shared→Prop) (E:Value→Shared→Prop),cR A 4→bl C T α μ s→α[i]? =some a→rH μ i=some μ'→A.frames=some outer→FF s.heap outer→(∀L∈outer.filterMap (·.frame),L∉T∧C.B.get? L=none)→
   (∀r s1 s',bl C T α μ' s1→aV [] α μ s α μ' s1→bl C T α μ' s'→s1.gens=s'.gens→(∀b,b∉outer.filterMap (·.frame)→s.heap.get? b≠none→∀o,s1.heap.get? b=some o→s'.heap.get? b=some o)→(∀b o,s1.heap.get? b=some o→(∀vs,o.data≠ .fields vs)→∃sl,s'.heap.get? b=some {o with slots:=sl})→aJ s'.heap (T++ai α μ') (.ref r) (.list [])→Q (.ref r) s')→
    wpAny (model C.prog C.w) A (call (.ref fa) [.ref a]) Q E s:=by
 refine dp (Pz G hv) λfv ov fdv g1 g2 g3 pvs=>?_;refine fC h λfa o pm cd doc h1 h2 h3 h4=>?_;refine (dA fa o _ h1 h2 h3 (λA T α μ μ' s i a outer Q E R I ha hst hfr hff hout hQ=>?_));refine mJ (Vs:=[.c i]) ["tape"] h2 h3 h4 (jH λzz=> ∅) (of_decide_eq_true ∅) ∅ ∅ ∅ ∅ (by have:=R.depth;unfold recursionLimit;lia) I ⟨(aZ a ha rfl),trivial⟩ rfl λL O h₁ tk hL hLO hO I1 S1 F1 hk1=>?_
 generalize henv:envOfC "_law_beyond" (ao (ay 69)) L fa cd=env at F1⊢
 have hef:env.frame=some L:=by rw [←henv];rfl
 have hek:env.scope.kind≠ .module:=by rw [←henv];show (ao (ay 69)).kind≠ .module;rw [show (ao (ay 69)).kind=.function from ∅];decide
 have R2:cR (A.deeper env) 3:=⟨by have:=R.depth;show A.depth+1+4*3<600;lia,by have:=R.units;show A.units+3+200*3+400<cLine;lia,R.handled⟩;have hfr2:(A.deeper env).frames=some (env::outer):=Py hfr;have hnsD:∀ {ρ:d5} {s1:Shared} {α1:List Addr} {M:List Addr},bh C Tj env O ρ s1.heap α1 M→LB s1.heap L:= λF=>by
  refine au F.loc λm zp1 zz=>?_;refine jx zp1 λob es ep z d zz=>?_;rw [show env.locals=L by rw [←henv];rfl] at z
  exact (lK ob es ep z d)
 have hff1:FF h₁ (env::outer):= λenv' he=>by
  rcases Cc.mp he with rfl|he
  ·exact (gN hek L hef (hnsD (s1:= {s with heap:=h₁}) F1))
  ·obtain ⟨hk,L',hL',o',es,m,ho',hd⟩:=hff env' he
   exact ⟨hk,L',hL',o',es,m,hk1 _ _ ho',hd⟩
 have hstop:C.mg "StopIteration"=none:=G.no _ ∅
 refine KD (wpAny_Try_except ?_);refine KD (wpAny_Return_some (List_ ?_));refine RT ?_;refine yS (m:=eval (.Name "_parse_varint" _) env) (Fe (by rw [F1.sc];kernel_rfl) (by unfold Jz;rw [F1.sc];kernel_rfl) (Ln (by rw [F1.gl];exact C.g.keeps I1.keep) g1 ?_) ∅);refine MV (o:=ov) (fd:=fdv) (ef (n:=3) (fs:=[a9 0]) ∅ (dG (λzz=> ∅) wv ae) R2 I1 F1 (Vs:=[.c i]) (μ1:=μ) rfl λvs s2 α2 I2 S2 r2=>⟨⟨I2.keep _ _ g2,g3⟩,?_⟩);have hα:α2=α:=by
  refine au S2.pre λδ e zz=>?_
  have:=I2.len
  rw [←I.len,e,be] at this
  have hz:δ=[]:=OC.mp (by lia);rw [e,hz,DO]
 subst hα
 match vs,r2 with
 | [v],r2=>
 refine au r2.1 λa' ha' zq2=>?_;subst zq2;rw [ha] at ha';cases ha'
 have S02:aV [] α2 μ s α2 μ s2:=S1.trans S2;have hff2:FF s2.heap (env::outer):=FF.step (s:= {s with heap:=h₁,toks:=tk}) hff1 I1 S2 (λzz zz q=>by simp at q);refine pvs _ T α2 μ μ' s2 i a (env::outer) _ _ R2 I2 ha hst hfr2 hff2 λe s' fly=>?_;refine ku fly λs1 h' base t LV zq5 I3 S3 hLV hLVf hgh hfl hup=>?_;subst zq5;refine wpAny_looks_onW hfr2 hef hfl λh5 held up5=>?_;refine wpAny_landsW held λh6 fly6 up6=>?_;have nb:∀b,s.heap.get? b=none→C.B.get? b=none:= λb z=>by
  cases q:C.B.get? b with
  |none=>rfl
  |some o=>have:=I.keep b o q;rw [z] at this;cases this
 have hLV0:s.heap.get? LV=none:=dY S02.dom hLV;have hS:∀b,b∈LV::(env::outer).filterMap (·.frame)→b=LV∨b=L∨b∈outer.filterMap (·.frame):= λb hb=>by
  rw [NR,hef] at hb
  simpa using hb
 have hSb:∀b,b∈LV::(env::outer).filterMap (·.frame)→C.B.get? b=none:= λb hb=>by
  rcases hS b hb with rfl|rfl|hb
  ·exact nb _ hLV0
  ·exact nb _ hL
  ·exact (hout b hb).2
 have keepB:∀ {hh:Heap},base.StaysIn hh→∀b o,C.B.get? b=some o→hh.get? b=some o:= λ{hh} st b o z=>st b o ((hgh b λq=>by rw [hSb b q] at z;cases z).trans (I3.keep b o z));refine wpAny_handleBy_builtin (X:="StopIteration") (T:="StopIteration") (b:=true) (by rw [SH];kernel_rfl) (by rw [SH];kernel_rfl) (by rw [SH];kernel_rfl) ?_;refine Fe (by rw [F1.sc];kernel_rfl) (by unfold Jz;rw [F1.sc];kernel_rfl) (Lu (by rw [F1.gl];exact C.g.keeps (keepB fly6.1)) hstop (by rw [F1.bn];exact C.b.keeps (keepB fly6.1)) ((C.bt _ (by decide+kernel)).trans (∅ :bootBuiltins "StopIteration"=some (.type "StopIteration"))) ?_) ∅
 refine (fu rfl fly6.there ?_);rw [if_pos rfl];refine lands_againW fly6 λh7 fly7 up7=>?_;refine KD (wpAny_Return_some (List_ (SJ (HQ ?_ (by size_fits)))));have hup7:s1.heap.UpToSlots h7:=((hup.trans up5).trans up6).trans up7;have hff3:FF s1.heap (env::outer):=FF.step hff2 I2 S3 (λzz zz q=>by simp at q);have hkeep:∀b o,b∉LV::(env::outer).filterMap (·.frame)→s1.heap.get? b=some o→(h7.push {cls:=.type "list",data:=.seq ([]:List Value).toArray}).get? b=some o:= λb o hb z=>C5 _ (fly7.1 b o ((hgh b hb).trans z));have I4:=I3.frames' (O:=LV::(env::outer).filterMap (·.frame)) (h':=h7.push {cls:=.type "list",data:=.seq ([]:List Value).toArray}) (tk:=s1.toks) (λb o z hb=>hkeep b o (λq=>hb q) z) (λb hb=>⟨?_,hSb b hb⟩) λb hb hT=>?_
 ·refine hQ _ s1 _ I3 (S02.trans S3) I4 rfl (λb hb hd o z=>hkeep b o (λq=>?_) z) (λb o z hn=>?_) ?_
  ·rcases hS b q with rfl|rfl|q
   ·exact hd hLV0
   ·exact hd hL
   ·exact hb q
  ·refine bP (hup7 b o z hn) λsl z'=>?_
   exact ⟨sl,C5 _ z'⟩
  ·refine aJ.list (vs:= #[]) ⟨0,Dy _ rfl⟩ (by simpa using aw.nil _ _) λq=>?_
   have hn:h7.get? h7.objs.size=none:=bx (DU _)
   have:=I3.mdom _ q
   cases z:s1.heap.get? h7.objs.size with
   |none=>exact this z
   |some o=>
    by_cases hv:∀vs,o.data≠ .fields vs
    ·refine bP (hup7 _ _ z hv) λsl z'=>?_
     rw [hn] at z';cases z'
    ·by_cases hm:h7.objs.size∈LV::(env::outer).filterMap (·.frame)
     ·rcases Cc.mp hm with q|hm
      ·refine au hLVf λo' z' q'=>?_
       rw [←q,z] at z';cases z'
       rcases q' with ⟨es,m,d⟩| ⟨w,d⟩<;>exact hv λvs q2=>by rw [d] at q2;cases q2
      ·refine fq (FF.mem hff3 hm) λo' es m z' d=>?_
       rw [z] at z';cases z'
       exact hv λvs q2=>by rw [d] at q2;cases q2
     ·have:=fly7.1 _ _ ((hgh _ hm).trans z)
      rw [hn] at this;cases this
 ·rcases Cc.mp hb with rfl|hb
  ·exact hLVf
  ·exact (FF.mem hff3 hb).frameAt
 ·rcases hS b hb with rfl|rfl|hb
  ·refine bP (I.tdom _ hT) λo z=>?_;rw [hLV0] at z;cases z
  ·refine bP (I.tdom _ hT) λo z=>?_;rw [hL] at z;cases z
  ·exact (hout b hb).1 hT
end
noncomputable def ac8(C:gK)(cx:Cx)(env:Env)(O T α:List Addr)(μ:List ah)(s:Shared)(ρ:d5)(μ':List ah)(V:AV):Value→Shared→Prop:= λv s'=>
 ∃α',bl C T α' μ' s'∧aV O α μ s α' μ' s'∧bh C cx env O ρ s'.heap α' (T++ai α' μ')∧bq s'.heap α' (T++ai α' μ') v V
structure wo (C:gK) (n:Nat) (cx:Cx) (e:Expr) (f:EF):Prop where
 of::
 run:∀A env O T ρ α μ s E V μ',cR A n→A.frames=some [env]→env.frame=some env.locals→bl C T α μ s→bh C cx env O ρ s.heap α (T++ai α μ)→f ρ μ=some (V,μ')→
  wpAny (model C.prog C.w) A (eval e env) (ac8 C cx env O T α μ s ρ μ' V) E s
structure BN (C:gK) (n:Nat) (cx:Cx) (st:Stmt) (f:SF):Prop where
 of::
 run:∀A env O T ρ α μ s E fl ρ' μ',cR A n→A.frames=some [env]→env.frame=some env.locals→bl C T α μ s→bh C cx env O ρ s.heap α (T++ai α μ)→f ρ μ=some (fl,ρ',μ')→
  wpAny (model C.prog C.w) A (exec st env) (iC C cx env O T α μ s fl ρ' μ') E s
structure rt (C:gK) (n:Nat) (cx:Cx) (sts:List Stmt) (f:SF):Prop where
 of::
 run:∀A env O T ρ α μ s E fl ρ' μ',cR A n→A.frames=some [env]→env.frame=some env.locals→bl C T α μ s→bh C cx env O ρ s.heap α (T++ai α μ)→f ρ μ=some (fl,ρ',μ')→
  wpAny (model C.prog C.w) A (execs sts env) (iC C cx env O T α μ s fl ρ' μ') E s
section
theorem du{f:SF}(h:aQ C n cx st f):BN C n cx st f:=.of λA env O T ρ α μ s E fl ρ' μ' R zz zz I F q=>h.run A env O T ρ α μ s E fl ρ' μ' R I F q
theorem TM:rt C n cx [] aP:=.of λA env O T ρ α μ s E fl ρ' μ' R zz zz I F q=>aN.run A env O T ρ α μ s E fl ρ' μ' R I F q
theorem cc{rest:List Stmt}{f g:SF}(hf:BN C n cx st f)(hg:rt C n cx rest g):rt C n cx (st::rest) (ap f g):=by
 refine .of ?_;intro A env O T ρ α μ s E fl ρ' μ' R hA hef I F h;refine aD h λfl1 p e1 h=>KD (D2 (hf.run A env O T ρ α μ s E _ _ _ R hA hef I F e1) (λr s1 pp=>eD pp λα1 I1 S1 F1 r1=>?_) λzz zz x=>x);cases fl1 with
 |next=>subst r1;exact D2 (hg.run A env O T p.1 α1 p.2 s1 E fl ρ' μ' R hA hef I1 F1 h) (λr s2 p=>iC.trans S1 p) λzz zz x=>x
 |brk=>subst r1;exact gw h (d4 α1 I1 S1 F1 rfl)
 |ret V=>exact au r1 λv zq1 rv=>by subst zq1;exact gw h (jf α1 I1 S1 F1 v rfl rv)
theorem r9(hO:∀a∈O,bW h a∧C.B.get? a=none):iI O T h:= λa ha=>.inr (.inl (hO a ha).1)
theorem GT{l r:Expr}{o:AV→AV→List ah→Option (AV×List ah)}(hl:wo C n cx l f)(hr:wo C n cx r g)(ho:j8 C n op o):wo C n cx (.BinOp l op r pos) (aj f g o):=by
 refine .of ?_;intro A env O T ρ α μ s E V μ' R hA hef I F h;refine aD h λVa μ1 e1 h=>aD h λVb μ2 e2 h=>?_;refine wpAny_BinOp (D2 (hl.run A env O T ρ α μ s E Va μ1 R hA hef I F e1) (λa s1 p1=>?_) λzz zz x=>x);refine eD p1 λα1 I1 S1 F1 r1=>?_;refine D2 (hr.run A env O T ρ α1 μ1 s1 E Vb μ2 R hA hef I1 F1 e2) (λb s2 p2=>?_) λzz zz x=>x;refine eD p2 λα2 I2 S2 F2 r2=>?_;refine D2 (ho A T α2 μ2 s2 E a b Va Vb V μ' R I2 (r1.stepO S2 (r9 F1.own) λa ha=>.inl ha) r2 h) (λv s3 p=>?_) λzz zz x=>x;refine ct p λα3 I3 S3 r3=>?_;exact (d4 α3 I3 ((S1.trans S2).trans S3.up) (F2.step I2 S3) r3)
theorem Ut(hf:wo C n cx e f)(hx:aA C cx x i)(hs:∀env,env.scope=cx.scope→swapsWith e (some (.Name x px)) pos.line env=pure false):BN C n cx (.Assign [.Name x px] e pos) (cb i f):=by
 refine .of ?_;intro A env O T ρ α μ s E fl ρ' μ' R hA hef I F h;refine aD h λV μ1 e1 h=>gw h (M9 (D2 (hf.run A env O T ρ α μ s E _ _ R hA hef I F e1) (λv s1 p=>eD p λα1 I1 S1 F1 r1=>?_) λzz zz x=>x) (hs env F.sc));exact D2 (hx A env O T ρ α1 _ s1 E v V I1 F1 r1) (λzz s2 st=>jQ S1 st) λzz zz x=>x
end
theorem J6{f:SF}{x:PyData}(h:cA k sc f Vs μ=some (.d x,μ')):μ'.length≤μ.length:=by
 have t:∀ν:List ah,(ν.take μ.length).length≤μ.length:= λν=>by rw [LU];exact UA ..
 refine i7 h λzz h=>aD h λfl p zz h=>?_;cases fl with
 |next=>cases (h:some (AV.d .none,p.2.take μ.length)=some (.d x,μ'));exact t p.2
 |brk=>exact cv h
 |ret W=>
  cases W with
  |d y=>cases (h:some (AV.d y,p.2.take μ.length)=some (.d x,μ'));exact t p.2
  |_=>exact nomatch (Fh h)
def Wg(C:gK)(n:Nat):Prop:=cK C∧dj C "_parse_varint" 8∧dj C "_law_beyond" 69∧aI C n "_law_beyond" (cA 1 (ao (ay 69)) (ap f69 aP))∧4≤n
theorem s9{x:PyData}(h:aR [.c i] μ=some (.d x,μ')):cA 1 (ao (ay 69)) (ap f69 aP) [.c i] μ=some (.d (.list [x]),μ'):=by
 have hl:μ'.take μ.length=μ':=Fn (J6 h);have ec:af [a9 0] aR (cF (ao (ay 69)) [.c i]) μ=some (.d x,μ'):=h;have e1:aU [af [a9 0] aR] (cF (ao (ay 69)) [.c i]) μ=some (.d (.list [x]),μ'):=by
  refine (?_:bp (e_ [af [a9 0] aR] _ _) _=_);refine rA (yr ec) ?_;exact if_pos (e:=none) (by show 1≤sizeLine;decide)
 have e2:ap f69 aP (cF (ao (ay 69)) [.c i]) μ=some (.ret (.d (.list [x])),cF (ao (ay 69)) [.c i],μ'):=by
  simp only [ap,f69,ff,e1,bpS];rfl
 unfold cA YO;rw [if_pos (show [AV.c i].length=1 from rfl),e2];exact congrArg (λz=>some (AV.d (.list [x]),z)) hl
theorem bh.slots(F:bh C cx env O ρ s.heap α (T++ai α μ))(I:bl C T α μ s)(S1:aV [] α μ s α μ' s1)
  (S:aV O α μ s α μ' s') (keep:∀b,b≠env.locals→s.heap.get? b≠none→∀o,s1.heap.get? b=some o→s'.heap.get? b=some o) (up:∀b o,s1.heap.get? b=some o→(∀vs,o.data≠ .fields vs)→∃sl,s'.heap.get? b=some {o with slots:=sl}):bh C cx env O ρ s'.heap α (T++ai α μ'):=by
 have hOk:=r9 F.own (T:=T);have fr:∀a o,s.heap.get? a=some o→bW s.heap a→s1.heap.get? a=some o:= λa o z fa=>S1.ext a o z λq=>I.notFrame (db q) fa;have mv:∀ {v V},bq s.heap α (T++ai α μ) v V→bq s'.heap α (T++ai α μ') v V:= λr=>r.stepO S hOk λzz=>.inl;refine ⟨F.sc,F.gl,F.bn,F.len,au F.loc λm hm hl=>aZ m (jx (id hm) λob es ep z d r=>bP (up _ ob (fr _ _ z (fQ hm)) λvs q=>nomatch d.symm.trans q) λsl z'=>pc _ es ep z' d r) λi y V h1 h2=>au (hl i y V h1 h2) λv e r=>aZ v e (mv r),au F.loc λm hm zz=>bP F.cel λcad hc=>⟨cad,hc.look,λi y k h1 h2=>au (hc.has i y k h1 h2) λo ho hv=>aZ o (au (id ho) λob z d=>aZ ob (keep _ (λq=>lN hm (q▸ho)) (λq=>nomatch q.symm.trans z) ob (fr _ _ z (gW ho))) d) λV h3=>au (hv V h3) λv e r=>aZ v e (mv r),hc.own,hc.inj⟩,λa ha=>⟨?_,(F.own a ha).2⟩,F.lo,λa ha q=>(S.hm (T:=T) (λzz=>.inl) a ha).elim (λz=>F.off a z q) (F.frA q).dom,F.nd⟩;refine au ((F.own a ha).1) λo z q=>?_;refine bP (up _ o (fr _ _ z (F.own a ha).1) λvs q2=>by rcases q with ⟨es,n,q⟩| ⟨v,q⟩<;>rw [q] at q2<;>cases q2) λsl z'=>?_;exact (aZ _ z' q)
theorem mX(B:Wg C n)(he:ab C n cx e f)(hs:∀env,starEach [e] env=(false,eval e env)::starEach [] env)
  (hl:cx.scope.names.lookup ("_law_beyond":Str)=some .globalImplicit) (hk:cx.scope.kind=.function):wo C n cx (.Call (.Name "_law_beyond" xp) [e] [] pos) (af [f] cP):=by
 refine iq B λG hv hb hn h4=>?_;refine .of ?_;intro A env O T ρ α μ s E V μ' R hA hef I F h;refine aD h λVs μ1 hev h=>ax h λV0 el h=>ax h λi ei h=>?_;cases e1:aR [.c i] μ1 with
 |some p=>
  rw [e1] at h
  refine ax h λx ex h=>cm h ?_;have e2:aR [.c i] μ1=some (.d x,p.2):=by rw [e1,←iP ex]
  refine (cg (xp:=xp) (pos:=pos) hn (dG hs he ae) hs hl hk ∅).go R I F ?_ λv s1 α1 I1 S1 r1=>d4 α1 I1 S1.up (F.step I S1) r1;refine (?_:bp (e_ [f] ρ μ) _=_);rw [hev,V5 el,B4 ei];exact s9 e2
 |none=>
  rw [e1] at h
  refine ax h λμ2 e2 h=>?_;cases (h:some (AV.d (.list []),μ2)=some (V,μ'));refine dp (xm G hv hb) λfa o fd g1 g2 g3 st=>?_;refine (?_:wpAny _ A (do callWith pos (←eval (.Name "_law_beyond" xp) env) [] (backTo pos (starEach [e] env)) []) _ _ s);refine yS (Fe (by rw [F.sc];exact hk) (by unfold Jz;rw [F.sc];exact hl) (Ln (by rw [F.gl];exact C.g.keeps I.keep) g1 ?_) ∅);refine MV (o:=o) (fd:=fd) (ef (fs:=[f]) (hs env) (dG hs he ae) R I F hev λvs s1 α1 I1 S1 r1=>⟨⟨I1.keep _ _ g2,g3⟩,?_⟩);refine gF r1 el λv z rv=>au (Kj ei rv) λa ha z2=>?_;subst z;subst z2;have F1:=F.step I S1;have hfm:∀L,L∈[env].filterMap (·.frame)→L=env.locals:= λL hL=>by simpa [hef] using hL
  refine st A T α1 μ1 μ' s1 i a [env] _ _ (R.mono h4) I1 ha e2 hA (λenv' he'=>?_) (λL hL=>?_) λr s2 s' I2 S2 I' hgn keep up rel=>?_
  ·obtain rfl:env'=env:=by simpa using he'
   refine au F1.loc λm zp1 zz=>?_;refine jx zp1 λob es ep z d zz=>?_;exact ⟨by rw [F.sc,hk];decide,env'.locals,hef,ob,es,ep,z,d⟩
  ·rw [hfm L hL]
   exact ⟨λq=>F1.off _ (ye _ q) (.inr F1.lo),(F1.own _ F1.lo).2⟩
  ·have keep':∀b,b≠env.locals→s1.heap.get? b≠none→∀o,s2.heap.get? b=some o→s'.heap.get? b=some o:= λb hb=>keep b (λq=>hb (hfm b q))
   have S':aV O α1 μ1 s1 α1 μ' s':=⟨S2.pre,λb o z hb=>keep' b (λq=>hb (ye _ (q▸F1.lo))) (by rw [z];simp) o (S2.ext b o z λq=>hb (CR _ (by simpa using q))),S2.mts,λb o z=>by
    by_cases q:b=env.locals
    ·refine bH (F6 q) ?_
     refine au ((F1.step I1 S2).loc) λm zp1 zz=>?_;refine jx zp1 λob es ep z' d zz=>?_;refine bP (up _ ob z' λvs q=>by rw [d] at q;cases q) λsl z2=>?_;exact ⟨_,z2⟩
    ·refine bP (S2.dom b o z) λo' z'=>?_
     exact ⟨o',keep' b q (by rw [z];simp) o' z'⟩,λi x z=>by rw [←hgn];exact S2.gens i x z⟩
   exact (d4 α1 I' (S1.up.trans S') (F1.slots I1 S2 S' keep' up) rel)
end Mine
namespace Mine
open PySem PySem.W PySem.Calls PyProof.Rows
variable {V V' : AV} {Cn D L TI TO a fa i1 i2 i3 z : Addr} {A : Around} {items zs : Array Value} {sh tup : Bool} {cf : CF} {c c' : ah} {C : gK} {cx : Cx} {f fi fo g : EF} {cenv env : Env} {mean : ExcName → Option Value} {e e1 e2 elt iter target test : Expr} {fl : Fl} {h h' : Heap} {itf : IF} {y : Int} {Vs : List AV} {M M' O T T' W wr α α' α1 α₀ : List Addr} {Mid : List Addr → List Addr → List Addr → List ah → Nat → Value → Shared → Prop} {St : List Addr → xN} {μ μ' μ'' μ1 μ2 μ3 μ₀ : List ah} {fs : List EF} {es : List Expr} {K cs ns os rest : List Int} {gi ls m ps : List Nat} {X acc acc' ds xs ys : List PyData} {body orelse : List Stmt} {vs : List Value} {ρ ρ' ρ1 ρ2 : d5} {tf : d5 → PyData → Option d5} {b i j ja jt k kk low mask n p q tk : Nat} {o : Obj} {op : Operator} {ha ke td te tx : Option AV} {hi lo : Option Expr} {gg : Option Nat} {apos pos px py sp tp xp : Pos} {prog : Program} {G : Prop} {d : PyData} {sc scope : Scope} {s s' s'' s1 s₀ : Shared} {spec : a_} {st : Stmt} {name x : Str} {t : TF} {u : Tok} {cd cls doc fv it pm v : Value} {E Q : Value → Shared → Prop} {w : World}
section
set_option genInjectivity false in
structure lW (C:gK) (n:Nat):Prop where
 h_law_numbers:aI C n "_law_numbers" gy
 h_law_octets:aI C n "_law_octets" fT
 h_law_formula:aI C n "_law_formula" aC
 h_law_beyond:Wg C n
 hISTERMINAL:aI C n "ISTERMINAL" co
 hISNONTERMINAL:aI C n "ISNONTERMINAL" bR
 hISEOF:aI C n "ISEOF" fy
 h_law_units:aI C n "_law_units" bB
 hL:AW C n "_iter_escaped_chars" aE
 h_strip_quoted_realnames:aI C n "_strip_quoted_realnames" aM
 h_iter_escaped_chars:gU C n "_iter_escaped_chars" aE
 h_check_parenthesis:aI C n "_check_parenthesis" ar
 h_pre_parse_validation:aI C n "_pre_parse_validation" aX
 h_law_proved:aI C n "_law_proved" aO
 h_law_graph:aI C n "_law_graph" aW
 h_law_joined:aI C n "_law_joined" df
 hpretty_flags:aI C n "pretty_flags" cO
abbrev bC:Cx:=dh (ao (ay 73))
theorem Ey:aA C bC "cells" 1:=bu 1 ∅
abbrev uP:Scope:=jO [(".0",.local),("k",.local),("cell",.local),("sum",.globalImplicit),("script",.free)]
abbrev oj:Cx:=bQ bC uP
theorem Oz:aA C oj "k" 31:=bu 31 ∅
theorem yy:aA C oj "cell" 32:=bu 32 ∅
theorem yO:ab C n oj (.Name "cell" pos) (a9 32):=b9 32 ∅
theorem uA:ab C n oj (.Name "script" pos) (a9 0):=bF 0 3 ∅ (by decide) ∅ ∅ ∅
theorem OM:ab C n oj (.Name "k" pos) (a9 31):=b9 31 ∅
abbrev tP:Scope:=jO [(".0",.local),("x",.local)]
abbrev H0:Cx:=bQ oj tP
theorem N0:aA C H0 "x" 33:=bu 33 ∅
theorem NI:ab C n H0 (.Name "x" pos) (a9 33):=b9 33 ∅
def vv:SF:=(gb 1 uP (b_ [(aU [(kI 125),(kI 9),(kI 187),(kI 70),(kI 428),(kI 191)])] ga) (j6 31 32) (cX bg (aY (aj (a9 32) (af [(ce tP (aK false (vG (a9 0) (aL (a9 31)) (aL (kI 60)) (aL (kI 6)))) (dz 33) (cX bg (aY (aj (a9 33) (kI 5040) (aS cu)))))] wi) aT))) false)
theorem KX(G:cK C)(h2:2≤n):aQ C n bC (dD (aq (ay 73)) 0) vv:=(gz false (bw ∅ h2 (λzz zz=>rfl) (bN _ _ _ _ _ _) (ka (fv:=.type "enumerate") (G.no _ ∅) ∅ ∅ (bD _) iT (ag rfl (bb (ag rfl am (ag rfl am (ag rfl am (ag rfl am (ag rfl am (ag rfl am ae))))))) ae) (λzz=>rfl) (λzz=>rfl) ∅ ∅ ∅) (eY Oz yy) cI (bZ (av yO (cq (fv:=.builtin "sum") (G.no _ ∅) ∅ ∅ (bf _) zY (ag rfl (cE (bw ∅ h2 (λzz zz=>rfl) (bN _ _ _ _ _ _) (c9 (Pa uA (cw OM) (cw am) (cw am) (λzz zz=>rfl))) (bM N0) cI (bZ (av NI am dt)))) ae) (λzz=>rfl) (λzz=>rfl) ∅ ∅ ∅) br))) Ey (fh ∅ ∅ ∅ ∅))
theorem EA:aA C bC "total" 2:=bu 2 ∅
theorem i5:ab C n bC (.Name "cells" pos) (a9 1):=b9 1 ∅
def w_:SF:=(cb 2 (af [(a9 1)] wi))
theorem JG(G:cK C)(h2:2≤n):aQ C n bC (dD (aq (ay 73)) 1) w_:=(bE (cq (fv:=.builtin "sum") (G.no _ ∅) ∅ ∅ (bf _) zY (ag rfl i5 ae) (λzz=>rfl) (λzz=>rfl) ∅ ∅ ∅) EA (λzz zz=> ∅))
theorem Ec:aA C bC "mates" 3:=bu 3 ∅
theorem gn:ab C n bC (.Name "total" pos) (a9 2):=b9 2 ∅
def xF:SF:=(cb 3 (aF (aU [(aU [(kI 5),(kI 4),(kI 3),(kI 2),(kI 1),(kI 0)]),(aU [(kI 5),(kI 2),(kI 1),(kI 4),(kI 3),(kI 0)]),(aU [(kI 3),(kI 2),(kI 1),(kI 0),(kI 5),(kI 4)]),(aU [(kI 1),(kI 0),(kI 5),(kI 4),(kI 3),(kI 2)]),(aU [(kI 1),(kI 0),(kI 3),(kI 2),(kI 5),(kI 4)])]) (aj (aj (a9 2) (kI 5) (aS cQ)) (kI 5) (aS cu))))
theorem GQ(G:cK C)(h2:2≤n):aQ C n bC (dD (aq (ay 73)) 2) xF:=(bE (bk (bb (ag rfl (bb (ag rfl am (ag rfl am (ag rfl am (ag rfl am (ag rfl am (ag rfl am ae))))))) (ag rfl (bb (ag rfl am (ag rfl am (ag rfl am (ag rfl am (ag rfl am (ag rfl am ae))))))) (ag rfl (bb (ag rfl am (ag rfl am (ag rfl am (ag rfl am (ag rfl am (ag rfl am ae))))))) (ag rfl (bb (ag rfl am (ag rfl am (ag rfl am (ag rfl am (ag rfl am (ag rfl am ae))))))) (ag rfl (bb (ag rfl am (ag rfl am (ag rfl am (ag rfl am (ag rfl am (ag rfl am ae))))))) ae)))))) (av (av gn am eO) am dt) (λzz zz=>rfl)) Ec (λzz zz=> ∅))
theorem vI:aA C bC "numbers" 4:=bu 4 ∅
theorem jg:ab C n bC (.Name "mates" pos) (a9 3):=b9 3 ∅
def vn:SF:=(cb 4 (af [(a9 1),(a9 2),(a9 3)] gy))
theorem IP(G:cK C)(h2:2≤n)(H:lW C n):aQ C n bC (dD (aq (ay 73)) 3) vn:=(bE (cg H.h_law_numbers (ag rfl i5 (ag rfl gn (ag rfl jg ae))) (λzz=>rfl) ∅ ∅ ∅) vI (λzz zz=> ∅))
theorem NN:aA C bC "low" 5:=bu 5 ∅
theorem OK:aA C bC "far" 6:=bu 6 ∅
def xB:SF:=(xu 5 6 (cY [(aj (a9 2) (kI 13) (aS cu)),(aj (aj (aj (aj (a9 2) (kI 13) (aS cQ)) (kI 5) (aS cu)) (kI 3) (aS λx y=>some (x-y))) (aj (kI 2) (kI 32) (aS gu)) l9)]))
theorem HW(G:cK C)(h2:2≤n)(H:lW C n):aQ C n bC (dD (aq (ay 73)) 4) xB:=(AN (cZ (ag rfl (av gn am dt) (ag rfl (av (av (av (av gn am eO) am dt) am j5) (av am am iZ) qe) ae))) NN OK (λzz=>rfl) (ve ∅ ∅ ∅ ∅ ∅ ∅ ∅ ∅))
theorem Ex:aA C bC "great" 7:=bu 7 ∅
theorem iV:ab C n bC (.Name "numbers" pos) (a9 4):=b9 4 ∅
abbrev tZ:Scope:=jO [(".0",.local),("number",.local)]
abbrev Gg:Cx:=bQ bC tZ
theorem uZ:aA C Gg "number" 31:=bu 31 ∅
theorem mx:ab C n Gg (.Name "number" pos) (a9 31):=b9 31 ∅
theorem pw:ab C n bC (.Name "low" pos) (a9 5):=b9 5 ∅
def vx:SF:=(cb 7 (aj (aj (aj (aj (kI 2) (af [(ce tZ (aK false (a9 4)) (dz 31) (cX (bA (a9 31) (kI 274) dK) (aY (a9 31))))] dC) (aS gu)) (kI 1) (aS λx y=>some (x-y))) (aj (kI 2) (a9 5) (aS gu)) l9) (aj (kI 2) (kI 31) (aS gu)) aT))
theorem J2(G:cK C)(h2:2≤n)(H:lW C n):aQ C n bC (dD (aq (ay 73)) 5) vx:=(bE (av (av (av (av am (cq (fv:=.builtin "len") (G.no _ ∅) ∅ ∅ (bf _) eX (ag rfl (cE (bw ∅ h2 (λzz zz=>rfl) (bN _ _ _ _ _ _) (c9 iV) (bM uZ) (j1 (cn mx am dR ∅)) (bZ mx))) ae) (λzz=>rfl) (λzz=>rfl) ∅ ∅ ∅) iZ) am j5) (av am pw iZ) qe) (av am am iZ) br) Ex (λzz zz=> ∅))
theorem IJ:aA C bC "tape" 8:=eW 8 ∅ ∅ ∅
theorem sX:ab C n bC (.Name "great" pos) (a9 7):=b9 7 ∅
def vU:SF:=(cb 8 (af [(af [(aj (a9 4) (aU [(a9 7)]) aT),(a9 1),(a9 2)] fT)] Qy))
theorem KG(G:cK C)(h2:2≤n)(H:lW C n):aQ C n bC (dD (aq (ay 73)) 6) vU:=(bE (cq (fv:=.builtin "iter") (G.no _ ∅) ∅ ∅ (bf _) Mk (ag rfl (cg H.h_law_octets (ag rfl (av iV (bb (ag rfl sX ae)) br) (ag rfl i5 (ag rfl gn ae))) (λzz=>rfl) ∅ ∅ ∅) ae) (λzz=>rfl) (λzz=>rfl) ∅ ∅ ∅) IJ (λzz zz=> ∅))
theorem J7:aA C bC "told" 9:=eW 9 ∅ ∅ ∅
def wu:SF:=(cb 9 (n0 []))
theorem Gc(G:cK C)(h2:2≤n)(H:lW C n):aQ C n bC (dD (aq (ay 73)) 7) wu:=(bE (ju ae) J7 (λzz zz=> ∅))
theorem Ir:aA C bC "read" 10:=bu 10 ∅
abbrev yi:Scope:=jO [(".0",.local),("turn",.local),("_law_formula",.globalImplicit),("tape",.free),("told",.free)]
abbrev xY:Cx:=bQ bC yi
theorem yq:aA C xY "turn" 31:=bu 31 ∅
theorem yE:ab C n xY (.Name "tape" pos) (a9 8):=bF 8 3 ∅ (by decide) ∅ ∅ ∅
theorem yc:ab C n xY (.Name "told" pos) (a9 9):=bF 9 3 ∅ (by decide) ∅ ∅ ∅
def Ci:SF:=(gb 10 yi (aK false (af [(aF (aU [(kI 2),(kI 2),(kI 3),(kI 4)]) (aj (aj (a9 2) (kI 25) (aS cQ)) (kI 4) (aS cu)))] cH)) (dz 31) (cX bg (aY (af [(a9 8),(a9 9)] aC))) false)
theorem Hy(G:cK C)(h2:2≤n)(H:lW C n):aQ C n bC (dD (aq (ay 73)) 8) Ci:=(gz false (bw ∅ h2 (λzz zz=>rfl) (bN _ _ _ _ _ _) (c9 (cq (fv:=.type "range") (G.no _ ∅) ∅ ∅ (bD _) dM (ag rfl (bk (bb (ag rfl am (ag rfl am (ag rfl am (ag rfl am ae))))) (av (av gn am eO) am dt) (λzz zz=>rfl)) ae) (λzz=>rfl) (λzz=>rfl) ∅ ∅ ∅)) (bM yq) cI (bZ (cg H.h_law_formula (ag rfl yE (ag rfl yc ae)) (λzz=>rfl) ∅ ∅ ∅))) Ir (fh ∅ ∅ ∅ ∅))
theorem zd:aA C bC "beyond" 11:=bu 11 ∅
theorem rj:ab C n bC (.Name "tape" pos) (a9 8):=bF 8 2 ∅ (by decide) ∅ ∅ ∅
def xg:SF:=(cb 11 (aj (aj (af [(a9 8)] cP) (af [(a9 8)] cP) aT) (af [(a9 8)] cP) aT))
theorem KU(G:cK C)(h2:2≤n)(H:lW C n):BN C n bC (dD (aq (ay 73)) 9) xg:=(Ut (GT (GT (mX H.h_law_beyond rj (λzz=> ∅) ∅ ∅) (mX H.h_law_beyond rj (λzz=> ∅) ∅ ∅) br) (mX H.h_law_beyond rj (λzz=> ∅) ∅ ∅) br) zd (λzz zz=> ∅))
theorem E2:aA C bC "asked" 12:=bu 12 ∅
theorem wF:ab C n bC (.Name "told" pos) (a9 9):=bF 9 2 ∅ (by decide) ∅ ∅ ∅
theorem lz:ab C n bC (.Name "beyond" pos) (a9 11):=b9 11 ∅
def rn:SF:=(cb 12 (n0 [(cY [(a9 9),(a9 4)]),(cY [(a9 11),(aU [(a9 7)])])]))
theorem CZ(G:cK C)(h2:2≤n)(H:lW C n):aQ C n bC (dD (aq (ay 73)) 10) rn:=(bE (ju (ag rfl (cZ (ag rfl wF (ag rfl iV ae))) (ag rfl (cZ (ag rfl lz (ag rfl (bb (ag rfl sX ae)) ae))) ae))) E2 (λzz zz=> ∅))
theorem zV:aA C bC "symbol" 13:=bu 13 ∅
theorem E3:aA C bC "tests" 14:=bu 14 ∅
theorem eI:ab C n bC (.Name "symbol" pos) (a9 13):=b9 13 ∅
theorem eN:ab C n bC (.Name "asked" pos) (a9 12):=b9 12 ∅
theorem th:ab C n bC (.Name "tests" pos) (a9 14):=b9 14 ∅
abbrev ox:Scope:=jO [(".0",.local),("one",.local),("isinstance",.globalImplicit),("bool",.globalImplicit)]
abbrev Hn:Cx:=bQ bC ox
theorem Ew:aA C Hn "one" 31:=bu 31 ∅
theorem Ee:ab C n Hn (.Name "one" pos) (a9 31):=b9 31 ∅
def rg:SF:=(jK (aK false (aj (aj (a9 9) (a9 11) aT) (aU [(kI 255),(kI 256),(jr (kI 256)),(aj (a9 2) (kI 2000) (aS λx y=>some (x-y)))]) aT)) (dz 13) (ap (cb 14 (aU [(af [(a9 13)] co),(af [(a9 13)] bR),(af [(a9 13)] fy)])) (ap (cj (eh (a9 12) (cY [(aj (aj (aU [(af [(a9 13),(kT "int")] gA)]) (ce ox (aK false (aj (aU [(a9 13)]) (a9 14) aT)) (dz 31) (cX bg (aY (af [(a9 31),(kT "bool")] gA)))) aT) (a9 14) aT),(aU [(kB true),(kB false),(kB true),(kB true),(kB true),(d_ (aj (a9 13) (kI 256) (aS cQ)) (kI 1) (eg λx y=>decide (x<y))),(d_ (aj (a9 13) (kI 256) (aS cQ)) (kI 0) (eg λx y=>decide (y<x))),(zj (a9 13))])]))) aP)) aP)
theorem DD(G:cK C)(h2:2≤n)(H:lW C n):aQ C n bC (dD (aq (ay 73)) 11) rg:=(gp h2 (c9 (av (av wF lz br) (bb (ag rfl am (ag rfl am (ag rfl (og am) (ag rfl (av gn am j5) ae))))) br)) (bM zV) (ak (bE (bb (ag rfl (cg H.hISTERMINAL (ag rfl eI ae) (λzz=>rfl) ∅ ∅ ∅) (ag rfl (cg H.hISNONTERMINAL (ag rfl eI ae) (λzz=>rfl) ∅ ∅ ∅) (ag rfl (cg H.hISEOF (ag rfl eI ae) (λzz=>rfl) ∅ ∅ ∅) ae)))) E3 (λzz zz=> ∅)) (ak (cM (cz (λzz=>rfl) eN (cZ (ag rfl (av (av (bb (ag rfl (cq (fv:=.builtin "isinstance") (G.no _ ∅) ∅ ∅ (bf _) t6 (ag rfl eI (ag rfl (ae3 (G.no _ ∅) ∅ ∅ ∅ ∅ ∅) ae)) (λzz=>rfl) (λzz=>rfl) ∅ ∅ ∅) ae)) (cE (bw ∅ h2 (λzz zz=>rfl) (bN _ _ _ _ _ _) (c9 (av (bb (ag rfl eI ae)) th br)) (bM Ew) cI (bZ (cq (fv:=.builtin "isinstance") (G.no _ ∅) ∅ ∅ (bf _) t6 (ag rfl Ee (ag rfl (ae3 (G.no _ ∅) ∅ ∅ ∅ ∅ ∅) ae)) (λzz=>rfl) (λzz=>rfl) ∅ ∅ ∅)))) br) th br) (ag rfl (bb (ag rfl dk (ag rfl dk (ag rfl dk (ag rfl dk (ag rfl dk (ag rfl (fx (av eI am eO) am qv ∅) (ag rfl (fx (av eI am eO) am IQ ∅) (ag rfl (Tt eI) ae))))))))) ae))) (λzz=>rfl)) ∅ (λzz=>rfl)) aN)) aN (λzz zz=>rfl))
theorem CL:aA C bC "units" 15:=eW 15 ∅ ∅ ∅
def nS:SF:=(cb 15 (aj (af [(af [(kI 6)] cH),(a9 3),(a9 1),(kB false)] bB) (aU [(kS "\\")]) aT))
theorem Dt(G:cK C)(h2:2≤n)(H:lW C n):aQ C n bC (dD (aq (ay 73)) 12) nS:=(bE (av (cg H.h_law_units (ag rfl (cq (fv:=.type "range") (G.no _ ∅) ∅ ∅ (bD _) dM (ag rfl am ae) (λzz=>rfl) (λzz=>rfl) ∅ ∅ ∅) (ag rfl jg (ag rfl i5 (ag rfl dk ae)))) (λzz=>rfl) ∅ ∅ ∅) (bb (ag rfl bT ae)) br) CL (λzz zz=> ∅))
theorem Ko:aA C bC "text" 16:=bu 16 ∅
theorem sI:ab C n bC (.Name "units" pos) (a9 15):=bF 15 2 ∅ (by decide) ∅ ∅ ∅
def nJ:SF:=(cb 16 (dw (kS "") [(ci (a9 15) ba (aL (jr (kI 1))))] f5))
theorem Eo(G:cK C)(h2:2≤n)(H:lW C n):aQ C n bC (dD (aq (ay 73)) 13) nJ:=(bE (fW (λzz=>rfl) Kg Kk gV bT (ag rfl (dQ sI dE (cw (og am))) ae) (λzz=>rfl) (λzz=>rfl)) Ko (λzz zz=> ∅))
theorem EM:aA C bC "shorn" 17:=bu 17 ∅
def o0:SF:=(cb 17 (dw (kS "") [(af [(af [(kI 6)] cH),(a9 3),(a9 1),(kB true)] bB)] f5))
theorem Df(G:cK C)(h2:2≤n)(H:lW C n):aQ C n bC (dD (aq (ay 73)) 14) o0:=(bE (fW (λzz=>rfl) Kg Kk gV bT (ag rfl (cg H.h_law_units (ag rfl (cq (fv:=.type "range") (G.no _ ∅) ∅ ∅ (bD _) dM (ag rfl am ae) (λzz=>rfl) (λzz=>rfl) ∅ ∅ ∅) (ag rfl jg (ag rfl i5 (ag rfl dk ae)))) (λzz=>rfl) ∅ ∅ ∅) ae) (λzz=>rfl) (λzz=>rfl)) EM (λzz zz=> ∅))
theorem k9:ab C n bC (.Name "text" pos) (a9 16):=b9 16 ∅
abbrev uC:Scope:=jO [(".0",.local),("k",.local),("unit",.local),("len",.globalImplicit),("units",.free)]
abbrev qF:Cx:=bQ bC uC
theorem NP:aA C qF "k" 31:=bu 31 ∅
theorem y7:aA C qF "unit" 32:=bu 32 ∅
theorem xh:ab C n qF (.Name "units" pos) (a9 15):=bF 15 3 ∅ (by decide) ∅ ∅ ∅
theorem OQ:ab C n qF (.Name "k" pos) (a9 31):=b9 31 ∅
theorem y9:ab C n qF (.Name "unit" pos) (a9 32):=b9 32 ∅
def nT:SF:=(cj (eh (a9 12) (cY [(yK [(aj (a9 16) (kS "\\") aT)] aE),(ce uC (b_ [(a9 15)] ga) (j6 31 32) (cX bg (aY (cY [(aj (af [(dw (kS "") [(ci (a9 15) ba (aL (aj (a9 31) (kI 1) aT)))] f5)] dC) (kI 1) (aS λx y=>some (x-y))),(a9 32)]))))])))
theorem Dp(G:cK C)(h2:2≤n)(H:lW C n):aQ C n bC (dD (aq (ay 73)) 15) nT:=(cM (cz (λzz=>rfl) eN (cZ (ag rfl (DX (G.no _ ∅) H.hL (ag rfl (av k9 bT br) ae) (λzz=> ∅) ∅ ∅ ∅ ∅) (ag rfl (cE (bw ∅ h2 (λzz zz=>rfl) (bN _ _ _ _ _ _) (ka (fv:=.type "enumerate") (G.no _ ∅) ∅ ∅ (bD _) iT (ag rfl sI ae) (λzz=>rfl) (λzz=>rfl) ∅ ∅ ∅) (eY NP y7) cI (bZ (cZ (ag rfl (av (cq (fv:=.builtin "len") (G.no _ ∅) ∅ ∅ (bf _) eX (ag rfl (fW (λzz=>rfl) Kg Kk gV bT (ag rfl (dQ xh dE (cw (av OQ am br))) ae) (λzz=>rfl) (λzz=>rfl)) ae) (λzz=>rfl) (λzz=>rfl) ∅ ∅ ∅) am j5) (ag rfl y9 ae)))))) ae))) (λzz=>rfl)) ∅ (λzz=>rfl))
theorem nv:ab C n bC (.Name "shorn" pos) (a9 17):=b9 17 ∅
def n6:SF:=(cj (eh (a9 12) (cY [(aU [(af [(a9 16)] aM),(af [(aj (a9 16) (kS "\"(") aT)] aM)]),(aU [(a9 17),(aj (a9 17) (kS "\"(") aT)])])))
theorem Eb(G:cK C)(h2:2≤n)(H:lW C n):aQ C n bC (dD (aq (ay 73)) 16) n6:=(cM (cz (λzz=>rfl) eN (cZ (ag rfl (bb (ag rfl (cg H.h_strip_quoted_realnames (ag rfl k9 ae) (λzz=>rfl) ∅ ∅ ∅) (ag rfl (cg H.h_strip_quoted_realnames (ag rfl (av k9 bT br) ae) (λzz=>rfl) ∅ ∅ ∅) ae))) (ag rfl (bb (ag rfl nv (ag rfl (av nv bT br) ae))) ae))) (λzz=>rfl)) ∅ (λzz=>rfl))
abbrev yh:Scope:=jO [(".0",.local),("place",.local),("unit",.local),("EXACT_TOKEN_TYPES",.globalImplicit)]
abbrev yg:Cx:=bQ bC yh
theorem xe:aA C yg "place" 31:=bu 31 ∅
theorem yv:aA C yg "unit" 32:=bu 32 ∅
theorem q8:ab C n yg (.Name "unit" pos) (a9 32):=b9 32 ∅
abbrev Au:Scope:=jO [(".0",.local),("number",.local)]
abbrev JD:Cx:=bQ bC Au
theorem uj:aA C JD "number" 31:=bu 31 ∅
theorem mV:ab C n JD (.Name "number" pos) (a9 31):=b9 31 ∅
def ou:SF:=(cj (eh (a9 12) (cY [(ce yh (b_ [(a9 17)] aE) (j6 31 32) (cX (bA (a9 32) (aU [(kS "("),(kS ")")]) WK) (aY (jI kn (a9 32))))),(ce Au (aK false (a9 4)) (dz 31) (cX (BJ (kI 0) (a9 31) (kI 256) (eg λx y=>decide (x<y)) (eg λx y=>decide (x<y))) (aY (a9 31))))])))
theorem DV(G:cK C)(h2:2≤n)(H:lW C n):aQ C n bC (dD (aq (ay 73)) 17) ou:=(cM (cz (λzz=>rfl) eN (cZ (ag rfl (cE (bw ∅ h2 (λzz zz=>rfl) (bN _ _ _ _ _ _) (zB H.h_iter_escaped_chars (ag rfl nv ae) (λzz=>rfl) ∅ ∅ ∅) (eY xe yv) (j1 (cn q8 (bb (ag rfl bT (ag rfl bT ae))) ZV ∅)) (bZ (IZ G q8 (λzz zz=>rfl) ∅ ∅)))) (ag rfl (cE (bw ∅ h2 (λzz zz=>rfl) (bN _ _ _ _ _ _) (c9 iV) (bM uj) (j1 (MM am mV am qv qv ∅)) (bZ mV))) ae))) (λzz=>rfl)) ∅ (λzz=>rfl))
def oo:SF:=(cj (eh (a9 12) (cY [(aU [(d_ (af [(aj (a9 16) (kS "\"()\\") aT)] ar) (kB true) Lb),(d_ (af [(aj (a9 16) (kS "\"(") aT)] ar) (kB false) Lb),(af [(aU [])] aX)]),(aU [(kB true),(kB true),(aU [])])])))
theorem DN(G:cK C)(h2:2≤n)(H:lW C n):aQ C n bC (dD (aq (ay 73)) 18) oo:=(cM (cz (λzz=>rfl) eN (cZ (ag rfl (bb (ag rfl (fx (cg H.h_check_parenthesis (ag rfl (av k9 bT br) ae) (λzz=>rfl) ∅ ∅ ∅) dk xk ∅) (ag rfl (fx (cg H.h_check_parenthesis (ag rfl (av k9 bT br) ae) (λzz=>rfl) ∅ ∅ ∅) dk xk ∅) (ag rfl (cg H.h_pre_parse_validation (ag rfl (bb ae) ae) (λzz=>rfl) ∅ ∅ ∅) ae)))) (ag rfl (bb (ag rfl dk (ag rfl dk (ag rfl (bb ae) ae)))) ae))) (λzz=>rfl)) ∅ (λzz=>rfl))
theorem EU:aA C bC "proof" 18:=bu 18 ∅
theorem wy:ab C n bC (.Name "read" pos) (a9 10):=b9 10 ∅
def nH:SF:=(cb 18 (af [(ci (a9 10) ba (aL (jr (kI 1)))),(a9 3),(a9 1),(a9 12)] aO))
theorem EY(G:cK C)(h2:2≤n)(H:lW C n):aQ C n bC (dD (aq (ay 73)) 19) nH:=(bE (cg H.h_law_proved (ag rfl (dQ wy dE (cw (og am))) (ag rfl jg (ag rfl i5 (ag rfl eN ae)))) (λzz=>rfl) ∅ ∅ ∅) EU (λzz zz=> ∅))
theorem DR:aA C bC "joins" 19:=bu 19 ∅
def nh:SF:=(cb 19 (n0 []))
theorem De(G:cK C)(h2:2≤n)(H:lW C n):aQ C n bC (dD (aq (ay 73)) 20) nh:=(bE (ju ae) DR (λzz zz=> ∅))
theorem xI:aA C bC "formula" 20:=bu 20 ∅
theorem vy:ab C n bC (.Name "formula" pos) (a9 20):=b9 20 ∅
theorem kE:ab C n bC (.Name "joins" pos) (a9 19):=b9 19 ∅
def nX:SF:=(jK (aK false (ci (a9 10) ba (aL (jr (kI 1))))) (dz 20) (ap (cj (af [(a9 20),(a9 19)] aW)) aP) aP)
theorem CK(G:cK C)(h2:2≤n)(H:lW C n):aQ C n bC (dD (aq (ay 73)) 21) nX:=(gp h2 (c9 (dQ wy dE (cw (og am)))) (bM xI) (ak (cM (cg H.h_law_graph (ag rfl vy (ag rfl kE ae)) (λzz=>rfl) ∅ ∅ ∅) ∅ (λzz=>rfl)) aN) aN (λzz zz=>rfl))
theorem Du:aA C bC "forks" 21:=bu 21 ∅
abbrev z8:Scope:=jO [(".0",.local),("join",.local)]
abbrev IR:Cx:=bQ bC z8
theorem yX:aA C IR "join" 31:=bu 31 ∅
theorem pN:ab C n IR (.Name "join" pos) (a9 31):=b9 31 ∅
def ow:SF:=(gb 21 z8 (aK false (a9 19)) (dz 31) (cX (bA (aF (a9 31) (kI 0)) (kI 18) dK) (aY (a9 31))) false)
theorem Dx(G:cK C)(h2:2≤n)(H:lW C n):aQ C n bC (dD (aq (ay 73)) 22) ow:=(gz false (bw ∅ h2 (λzz zz=>rfl) (bN _ _ _ _ _ _) (c9 kE) (bM yX) (j1 (cn (bk pN am (λzz zz=>rfl)) am dR ∅)) (bZ pN)) Du (fh ∅ ∅ ∅ ∅))
theorem Eg:aA C bC "start" 22:=bu 22 ∅
abbrev zI:Scope:=jO [(".0",.local),("place",.local),("mate",.local),("min",.globalImplicit)]
abbrev uh:Cx:=bQ bC zI
theorem xC:aA C uh "place" 31:=bu 31 ∅
theorem yB:aA C uh "mate" 32:=bu 32 ∅
theorem wh:ab C n uh (.Name "place" pos) (a9 31):=b9 31 ∅
theorem yt:ab C n uh (.Name "mate" pos) (a9 32):=b9 32 ∅
def n8:SF:=(cb 22 (aj (ce zI (b_ [(a9 3)] ga) (j6 31 32) (cX bg (aY (af [(a9 31),(a9 32)] KE)))) (af [(af [(kI 6),(aj (kI 6) (af [(a9 19)] dC) aT)] cH)] mo) aT))
theorem Ep(G:cK C)(h2:2≤n)(H:lW C n):aQ C n bC (dD (aq (ay 73)) 23) n8:=(bE (av (cE (bw ∅ h2 (λzz zz=>rfl) (bN _ _ _ _ _ _) (ka (fv:=.type "enumerate") (G.no _ ∅) ∅ ∅ (bD _) iT (ag rfl jg ae) (λzz=>rfl) (λzz=>rfl) ∅ ∅ ∅) (eY xC yB) cI (bZ (cq (fv:=.builtin "min") (G.no _ ∅) ∅ ∅ (bf _) Jv (ag rfl wh (ag rfl yt ae)) (λzz=>rfl) (λzz=>rfl) ∅ ∅ ∅)))) (cq (fv:=.type "list") (G.no _ ∅) ∅ ∅ (bD _) tT (ag rfl (cq (fv:=.type "range") (G.no _ ∅) ∅ ∅ (bD _) dM (ag rfl am (ag rfl (av am (cq (fv:=.builtin "len") (G.no _ ∅) ∅ ∅ (bf _) eX (ag rfl kE ae) (λzz=>rfl) (λzz=>rfl) ∅ ∅ ∅) br) ae)) (λzz=>rfl) (λzz=>rfl) ∅ ∅ ∅) ae) (λzz=>rfl) (λzz=>rfl) ∅ ∅ ∅) br) Eg (λzz zz=> ∅))
theorem yj:aA C bC "labels" 23:=bu 23 ∅
theorem DA:ab C n bC (.Name "start" pos) (a9 22):=b9 22 ∅
abbrev v5:Scope:=jO [(".0",.local),("join",.local),("part",.local)]
abbrev p6:Cx:=bQ bC v5
theorem wl:aA C p6 "join" 31:=bu 31 ∅
theorem jU:ab C n p6 (.Name "join" pos) (a9 31):=b9 31 ∅
theorem xo:aA C p6 "part" 32:=bu 32 ∅
theorem wa:ab C n p6 (.Name "part" pos) (a9 32):=b9 32 ∅
def mY:SF:=(cb 23 (af [(a9 22),(ce v5 (aK false (a9 19)) (dz 31) (cX (bA (aF (a9 31) (kI 0)) (kI 16) dK) (gk (aK false (ci (a9 31) (aL (kI 2)) ba)) (dz 32) (cX bg (aY (cY [(aF (a9 31) (kI 1)),(a9 32)]))))))] df))
theorem Et(G:cK C)(h2:2≤n)(H:lW C n):aQ C n bC (dD (aq (ay 73)) 24) mY:=(bE (cg H.h_law_joined (ag rfl DA (ag rfl (cE (bw ∅ h2 (λzz zz=>rfl) (im _ _ _ _ _ _ _ _ _) (c9 kE) (bM wl) (j1 (cn (bk jU am (λzz zz=>rfl)) am dR ∅)) (kv h2 (c9 (dQ jU (cw am) dE)) (bM xo) cI (cZ (ag rfl (bk jU am (λzz zz=>rfl)) (ag rfl wa ae))) (λzz zz=>rfl)))) ae)) (λzz=>rfl) ∅ ∅ ∅) yj (λzz zz=> ∅))
theorem DM:aA C bC "names" 24:=bu 24 ∅
def om:SF:=(cb 24 (aU [(kS "OPTIMIZED"),(kS "NEWLOCALS"),(kS "VARARGS"),(kS "VARKEYWORDS"),(kS "NESTED"),(kS "GENERATOR"),(kS "NOFREE"),(kS "COROUTINE"),(kS "ITERABLE_COROUTINE"),(kS "ASYNC_GENERATOR")]))
theorem DL(G:cK C)(h2:2≤n)(H:lW C n):aQ C n bC (dD (aq (ay 73)) 25) om:=(bE (bb (ag rfl bT (ag rfl bT (ag rfl bT (ag rfl bT (ag rfl bT (ag rfl bT (ag rfl bT (ag rfl bT (ag rfl bT (ag rfl bT ae))))))))))) DM (λzz zz=> ∅))
theorem Di:aA C bC "words" 25:=bu 25 ∅
theorem Dh:ab C n bC (.Name "names" pos) (a9 24):=b9 24 ∅
abbrev tH:Scope:=jO [(".0",.local),("place",.local),("hex",.globalImplicit)]
abbrev AM:Cx:=bQ bC tH
theorem tK:aA C AM "place" 31:=bu 31 ∅
theorem tW:ab C n AM (.Name "place" pos) (a9 31):=b9 31 ∅
theorem o3:ab C n bC (.Name "forks" pos) (a9 21):=b9 21 ∅
def nW:SF:=(cb 25 (ci (aj (a9 24) (ce tH (aK false (af [(kI 10),(kI 17)] cH)) (dz 31) (cX bg (aY (af [(aj (kI 2) (a9 31) (aS gu))] oS)))) aT) (aL (a9 5)) (aL (aj (a9 5) (af [(a9 21)] dC) aT))))
theorem D6(G:cK C)(h2:2≤n)(H:lW C n):aQ C n bC (dD (aq (ay 73)) 26) nW:=(bE (dQ (av Dh (cE (bw ∅ h2 (λzz zz=>rfl) (bN _ _ _ _ _ _) (c9 (cq (fv:=.type "range") (G.no _ ∅) ∅ ∅ (bD _) dM (ag rfl am (ag rfl am ae)) (λzz=>rfl) (λzz=>rfl) ∅ ∅ ∅)) (bM tK) cI (bZ (cq (fv:=.builtin "hex") (G.no _ ∅) ∅ ∅ (bf _) tR (ag rfl (av am tW iZ) ae) (λzz=>rfl) (λzz=>rfl) ∅ ∅ ∅)))) br) (cw pw) (cw (av pw (cq (fv:=.builtin "len") (G.no _ ∅) ∅ ∅ (bf _) eX (ag rfl o3 ae) (λzz=>rfl) (λzz=>rfl) ∅ ∅ ∅) br))) Di (λzz zz=> ∅))
theorem Ev:aA C bC "trees" 26:=bu 26 ∅
def o9:SF:=(cb 26 (n0 []))
theorem E0(G:cK C)(h2:2≤n)(H:lW C n):aQ C n bC (dD (aq (ay 73)) 27) o9:=(bE (ju ae) Ev (λzz zz=> ∅))
theorem Ik:aA C bC "mask" 27:=eW 27 ∅ ∅ ∅
theorem Jp:aA C bC "said" 28:=eW 28 ∅ ∅ ∅
theorem Kq:ab C n bC (.Name "mask" pos) (a9 27):=bF 27 2 ∅ (by decide) ∅ ∅ ∅
theorem GX:ab C n bC (.Name "said" pos) (a9 28):=bF 28 2 ∅ (by decide) ∅ ∅ ∅
theorem mZ:ab C n bC (.Name "words" pos) (a9 25):=b9 25 ∅
abbrev mK:Scope:=jO [(".0",.local),("k",.local),("word",.local),("mask",.free)]
abbrev m7:Cx:=bQ bC mK
theorem GN:aA C m7 "k" 31:=bu 31 ∅
theorem xj:aA C m7 "word" 32:=bu 32 ∅
theorem vk:ab C n m7 (.Name "mask" pos) (a9 27):=bF 27 3 ∅ (by decide) ∅ ∅ ∅
theorem Ip:ab C n m7 (.Name "k" pos) (a9 31):=b9 31 ∅
theorem wz:ab C n m7 (.Name "word" pos) (a9 32):=b9 32 ∅
theorem yL:aA C bC "chosen" 29:=bu 29 ∅
abbrev kK:Scope:=jO [(".0",.local),("word",.local),("fork",.local),("said",.free)]
abbrev mr:Cx:=bQ bC kK
theorem vP:aA C mr "word" 31:=bu 31 ∅
theorem wA:aA C mr "fork" 32:=bu 32 ∅
theorem jP:ab C n mr (.Name "fork" pos) (a9 32):=b9 32 ∅
theorem xE:ab C n mr (.Name "word" pos) (a9 31):=b9 31 ∅
theorem xL:ab C n mr (.Name "said" pos) (a9 28):=bF 28 3 ∅ (by decide) ∅ ∅ ∅
theorem zK:aA C bC "joined" 30:=bu 30 ∅
theorem re:ab C n bC (.Name "labels" pos) (a9 23):=b9 23 ∅
theorem zD:ab C n bC (.Name "chosen" pos) (a9 29):=b9 29 ∅
theorem sL:ab C n bC (.Name "trees" pos) (a9 26):=b9 26 ∅
theorem jm:ab C n bC (.Name "joined" pos) (a9 30):=b9 30 ∅
def nZ:SF:=(jK (aK false (af [(aj (kI 2) (af [(a9 21)] dC) (aS gu))] cH)) (dz 27) (ap (cb 28 (af [(aj (a9 27) (aj (kI 2) (a9 5) (aS gu)) l9)] cO)) (ap (cj (eh (a9 12) (cY [(a9 28),(orA (dw (kS ", ") [(ce mK (b_ [(a9 25)] ga) (j6 31 32) (cX (bA (aj (aj (a9 27) (aj (kI 2) (a9 31) (aS gu)) (aS cQ)) (kI 2) (aS cu)) (kI 1) dK) (aY (a9 32))))] f5) (kS "0x0"))]))) (ap (gb 29 kK (b_ [(a9 25),(a9 21)] lr) (j6 31 32) (cX bg (aY (cY [(aF (a9 32) (kI 1)),(dx (nz (a9 31) (a9 28) ", ") (aF (a9 32) (kI 3)) (aF (a9 32) (kI 2)))]))) false) (ap (cb 30 (dx (bA (a9 23) (aU []) p8) (af [(a9 23),(a9 29)] df) (aU []))) (ap (cj (eh (a9 26) (sk (d_ (a9 30) (aU []) p8) (d_ (a9 30) (aj (ci (a9 30) ba (aL (kI 1))) (af [(a9 30)] dC) l9) dK)))) aP))))) aP)
theorem CT(G:cK C)(h2:2≤n)(H:lW C n):aQ C n bC (dD (aq (ay 73)) 28) nZ:=(gp h2 (c9 (cq (fv:=.type "range") (G.no _ ∅) ∅ ∅ (bD _) dM (ag rfl (av am (cq (fv:=.builtin "len") (G.no _ ∅) ∅ ∅ (bf _) eX (ag rfl o3 ae) (λzz=>rfl) (λzz=>rfl) ∅ ∅ ∅) iZ) ae) (λzz=>rfl) (λzz=>rfl) ∅ ∅ ∅)) (bM Ik) (ak (bE (cg H.hpretty_flags (ag rfl (av Kq (av am pw iZ) qe) ae) (λzz=>rfl) ∅ ∅ ∅) Jp (λzz zz=> ∅)) (ak (cM (cz (λzz=>rfl) eN (cZ (ag rfl GX (ag rfl (af2 (fW (λzz=>rfl) Kg Kk gV bT (ag rfl (cE (bw ∅ h2 (λzz zz=>rfl) (bN _ _ _ _ _ _) (ka (fv:=.type "enumerate") (G.no _ ∅) ∅ ∅ (bD _) iT (ag rfl mZ ae) (λzz=>rfl) (λzz=>rfl) ∅ ∅ ∅) (eY GN xj) (j1 (cn (av (av vk (av am Ip iZ) eO) am dt) am dR ∅)) (bZ wz))) ae) (λzz=>rfl) (λzz=>rfl)) bT) ae))) (λzz=>rfl)) ∅ (λzz=>rfl)) (ak (gz false (bw ∅ h2 (λzz zz=>rfl) (bN _ _ _ _ _ _) (ka (fv:=.type "zip") (G.no _ ∅) ∅ ∅ (bD _) Bs (ag rfl mZ (ag rfl o3 ae)) (λzz=>rfl) (λzz=>rfl) ∅ ∅ ∅) (eY vP wA) cI (bZ (cZ (ag rfl (bk jP am (λzz zz=>rfl)) (ag rfl (fV (Kd (λzz=>rfl) xE xL ∅) (bk jP am (λzz zz=>rfl)) (bk jP am (λzz zz=>rfl))) ae))))) yL (fh ∅ ∅ ∅ ∅)) (ak (bE (fV (cn re (bb ae) sv ∅) (cg H.h_law_joined (ag rfl re (ag rfl zD ae)) (λzz=>rfl) ∅ ∅ ∅) (bb ae)) zK (λzz zz=> ∅)) (ak (cM (cz (λzz=>rfl) sL (yU (fx jm (bb ae) sv ∅) (fx jm (av (dQ jm dE (cw am)) (cq (fv:=.builtin "len") (G.no _ ∅) ∅ ∅ (bf _) eX (ag rfl jm ae) (λzz=>rfl) (λzz=>rfl) ∅ ∅ ∅) qe) dR ∅)) (λzz=>rfl)) ∅ (λzz=>rfl)) aN))))) aN (λzz zz=>rfl))
theorem uw:ab C n bC (.Name "far" pos) (a9 6):=b9 6 ∅
def nF:SF:=(cj (eh (a9 12) (cY [(af [(aj (af [(a9 11)] wi) (a9 6) aT)] cO),(dw (kS ", ") [(aj (aj (a9 25) (aU [(kS "0x80000000")]) aT) (dx (bA (a9 6) (kI 0) p8) (aU [(af [(a9 6)] oS)]) (aU [])) aT)] f5)])))
theorem DZ(G:cK C)(h2:2≤n)(H:lW C n):aQ C n bC (dD (aq (ay 73)) 29) nF:=(cM (cz (λzz=>rfl) eN (cZ (ag rfl (cg H.hpretty_flags (ag rfl (av (cq (fv:=.builtin "sum") (G.no _ ∅) ∅ ∅ (bf _) zY (ag rfl lz ae) (λzz=>rfl) (λzz=>rfl) ∅ ∅ ∅) uw br) ae) (λzz=>rfl) ∅ ∅ ∅) (ag rfl (fW (λzz=>rfl) Kg Kk gV bT (ag rfl (av (av mZ (bb (ag rfl bT ae)) br) (fV (cn uw am sv ∅) (bb (ag rfl (cq (fv:=.builtin "hex") (G.no _ ∅) ∅ ∅ (bf _) tR (ag rfl uw ae) (λzz=>rfl) (λzz=>rfl) ∅ ∅ ∅) ae)) (bb ae)) br) ae) (λzz=>rfl) (λzz=>rfl)) ae))) (λzz=>rfl)) ∅ (λzz=>rfl))
abbrev po:Scope:=jO [(".0",.local),("one",.local)]
abbrev Bv:Cx:=bQ bC po
theorem zh:aA C Bv "one" 31:=bu 31 ∅
theorem lw:ab C n Bv (.Name "one" pos) (a9 31):=b9 31 ∅
theorem EI:ab C n bC (.Name "proof" pos) (a9 18):=b9 18 ∅
def oh:SF:=(ff (sk (d_ (ce po (aK false (a9 12)) (dz 31) (cX (bA (aF (a9 31) (kI 0)) (aF (a9 31) (kI 1)) p8) (aY (a9 31)))) (aU []) dK) (d_ (a9 18) (d_ (kB false) (a9 26) lF) dK)))
theorem El(G:cK C)(h2:2≤n)(H:lW C n):aQ C n bC (dD (aq (ay 73)) 30) oh:=(da (yU (fx (cE (bw ∅ h2 (λzz zz=>rfl) (bN _ _ _ _ _ _) (c9 eN) (bM zh) (j1 (cn (bk lw am (λzz zz=>rfl)) (bk lw am (λzz zz=>rfl)) sv ∅)) (bZ lw))) (bb ae) dR ∅) (fx EI (fx dk sL vF ∅) dR ∅)))
def Xw:SF:=(ap vv (ap w_ (ap xF (ap vn (ap xB (ap vx (ap vU (ap wu (ap Ci (ap xg (ap rn (ap rg (ap nS (ap nJ (ap o0 (ap nT (ap n6 (ap ou (ap oo (ap nH (ap nh (ap nX (ap ow (ap n8 (ap mY (ap om (ap nW (ap o9 (ap nZ (ap nF (ap oh aP)))))))))))))))))))))))))))))))
theorem b73(G:cK C)(h2:2≤n)(H:lW C n):rt C n bC (aq (ay 73)) Xw:=(cc (du (KX G h2)) (cc (du (JG G h2)) (cc (du (GQ G h2)) (cc (du (IP G h2 H)) (cc (du (HW G h2 H)) (cc (du (J2 G h2 H)) (cc (du (KG G h2 H)) (cc (du (Gc G h2 H)) (cc (du (Hy G h2 H)) (cc (KU G h2 H) (cc (du (CZ G h2 H)) (cc (du (DD G h2 H)) (cc (du (Dt G h2 H)) (cc (du (Eo G h2 H)) (cc (du (Df G h2 H)) (cc (du (Dp G h2 H)) (cc (du (Eb G h2 H)) (cc (du (DV G h2 H)) (cc (du (DN G h2 H)) (cc (du (EY G h2 H)) (cc (du (De G h2 H)) (cc (du (CK G h2 H)) (cc (du (Dx G h2 H)) (cc (du (Ep G h2 H)) (cc (du (Et G h2 H)) (cc (du (DL G h2 H)) (cc (du (D6 G h2 H)) (cc (du (E0 G h2 H)) (cc (du (CT G h2 H)) (cc (du (DZ G h2 H)) (cc (du (El G h2 H)) TM)))))))))))))))))))))))))))))))
end
structure Qc (C:gK):Prop where
 f1:dj C "_iter_escaped_chars" 1
 f2:dj C "_strip_quoted_realnames" 2
 f3:dj C "_check_parenthesis" 3
 f4:dj C "_pre_parse_validation" 4
 f7:dj C "pretty_flags" 7
 f8:dj C "_parse_varint" 8
 f61:dj C "ISTERMINAL" 61
 f62:dj C "ISNONTERMINAL" 62
 f63:dj C "ISEOF" 63
 f65:dj C "_law_numbers" 65
 f66:dj C "_law_octets" 66
 f67:dj C "_law_units" 67
 f68:dj C "_law_formula" 68
 f69:dj C "_law_beyond" 69
 f70:dj C "_law_proved" 70
 f71:dj C "_law_graph" 71
 f72:dj C "_law_joined" 72
theorem Gn(G:cK C)(F:Qc C):rt C 18 bC (aq (ay 73)) Xw:=by
 have he:C.mg "enumerate"=none:=G.no _ ∅
 have k61:aI C 3 "ISTERMINAL" co:=c61 G (DU 2) F.f61;have k62:aI C 3 "ISNONTERMINAL" bR:=c62 G (DU 2) F.f62;have k63:aI C 3 "ISEOF" fy:=c63 G (DU 2) F.f63;have k72:aI C 3 "_law_joined" df:=c72 G (DU 2) F.f72;have k71:aI C 14 "_law_graph" aW:=d71 G (DU 2) F.f71 12;have k8:aI C 3 "_parse_varint" aR:=c8 G (DU 2) F.f8;have k7:aI C 3 "pretty_flags" cO:=c7 G (DU 2) F.f7;have k66:aI C 3 "_law_octets" fT:=c66 G (DU 2) F.f66;have k67:aI C 3 "_law_units" bB:=c67 G (DU 2) F.f67;have k65:aI C 3 "_law_numbers" gy:=c65 G (DU 2) F.f65;have k1:gU C 3 "_iter_escaped_chars" aE:=c1 F.f1 he;have k1L:AW C 18 "_iter_escaped_chars" aE:=c1L F.f1 he;have k2:aI C 4 "_strip_quoted_realnames" aM:=c2 G (by decide) k1 F.f2;have k3:aI C 5 "_check_parenthesis" ar:=c3 G (by decide) k2 (k1.mono (by decide)) F.f3;have k4:aI C 6 "_pre_parse_validation" aX:=c4 G (by decide) k3 F.f4;have k68:aI C 15 "_law_formula" aC:=d68 G (by decide) k8 k63 k62 k61 F.f68 12;have k70:aI C 18 "_law_proved" aO:=d70 G (by decide) (k67.mono (by decide)) (k3.mono (by decide)) k4 F.f70 12;have k69:Wg C 18:=(uR G F.f8 F.f69 (ao0 (n:=17) (k8.mono (by decide)) F.f69) (by decide));exact b73 G (by decide) ⟨k65.mono (by decide),k66.mono (by decide),k68.mono (by decide),k69,k61.mono (by decide),k62.mono (by decide),k63.mono (by decide),k67.mono (by decide),k1L,k2.mono (by decide),k1.mono (by decide),k3.mono (by decide),k4.mono (by decide),k70,k71.mono (by decide),k72.mono (by decide),k7.mono (by decide)⟩
theorem law_call(G:cK C)(F:Qc C)(ho:C.B.get? fa=some o)(hd:o.data=.func (O8 "law" (mT (ay 73)) (aq (ay 73)) (ao (ay 73)) pm cd doc))(hcd:C.B.CodeRec cd "law")
   {l:Addr} (I:bl C [] [] [] s) (hl:aJ s.heap [] (.ref l) (.list xs))
  (h:Xw (cF (ao (ay 73)) [.d (.list xs)]) []=some (.ret (.d (.bool true)),ρ',μ')):
  wpAny (model C.prog C.w) callerA (call (.ref fa) [.ref l]) (λv s'=>v=.bool true∧(∀b o,C.B.get? b=some o→s'.heap.get? b=some o)∧s'.os=C.os∧AllBare s'.gens) E s:=by
 refine mJ (Vs:=[.d (.list xs)]) ["script"] ho hd hcd (jH λzz=> ∅) (of_decide_eq_true ∅) ∅ ∅ ∅ ∅ (by decide) I ⟨hl,trivial⟩ rfl λL O h₁ tk hL hLO hO I1 S1 F1 hk1=>?_
 refine D2 ((Gn G F).run _ _ O [] _ [] [] _ _ _ ρ' μ' ⟨of_decide_eq_true rfl,of_decide_eq_true rfl,rfl⟩ (Py rfl) rfl I1 F1 h) (λfw s' p=>?_) λzz zz x=>x;refine Hc p λα' I' S' F' v zq5 rv=>?_;refine bH (F6 zq5) ?_;exact (lq (aJ.of_bool rv) I'.keep I'.os I'.gens)
theorem fnAt_of{p:Program}{loose:List Str}(T:Top p loose mean C.mg C.mb C.B)(k:Nat)(x:Str)
  (e:(((recsOf p).find? λd=>d.name==x).map λd=>(d.name,d.params,d.body,d.scope))=some (x,mT (ay k),aq (ay k),ao (ay k))):dj C x k:=by
 rw [J4] at e
 refine au e λzp0 e q=>?_;obtain ⟨n,ps,bd,sc,pos⟩:=zp0;cases q;refine fC (T.fn _ (Nr e)) λa o pm cd doc h1 h2 h3 h4=>?_;exact (ib a o pm cd doc h1 h2 h3 h4)
theorem noneOf{p:Program}{loose:List Str}(T:Top p loose mean C.mg C.mb C.B)(l:List Str)
  (e:(l.all λx=>!startupNames.contains x&&!loose.contains x&&!((recsOf p).map (·.name)).contains x&&!((litsOf p).map (·.1)).contains x&&!((clssOf p loose).map (·.name)).contains x)=true):∀x:Str,l.contains x=true→C.mg x=none:= λx hx=>by
 have:=Bw.mp e x (by simpa using hx)
 simp only [Fd,MW,N8,decide_eq_false_iff_not] at this
 refine f_ this λzp0 h5=>?_;refine f_ zp0 λzp0 h4=>?_;obtain ⟨⟨h1,h2⟩,h3⟩:=zp0;exact T.free x h1 h2 h3 h4 h5
theorem constOf{p:Program}{loose:List Str}(T:Top p loose mean C.mg C.mb C.B)(x:Str)(i:Int)(e:valOf p x=some (.int i)):∃t,C.mg x=some (.int i t):=by
 refine au (T.const x _ e) λv h1 h2=>?_
 have:=h2 C.B
 cases this;exact ⟨_,h1⟩
theorem sW{P:Params}:∀ {vs:List Value} {xs:List Int},WellAll P h vs (ofPys (xs.map F8))→aw h [] vs (xs.map F8)
 | [],[],_=>aw.nil _ _
 | [],_::_,x=>by cases x
 |_::_,[],x=>by cases x
 |v::vs,i::xs,x=>by
  cases x with
  |cons a b=>
   refine .ccons ?_ (sW b);cases a;exact aJ.int ..
theorem well_list{P:Params}{xs:List Int}(x:Well P h (.ref a) (ofPy (NV (xs.map F8)))):aJ h [] (.ref a) (.list (xs.map F8)):=by
 have x':Well P h (.ref a) (.list (ofPys (xs.map F8))):=x;cases x' with
 |list e q=>exact aJ.list ⟨0,e⟩ (by simpa using sW q) (by simp)
theorem sw{e:DictEntry}{x:Int}{y:Str}(h:D9 e=some (x,y)):∃t u,e.key=.int x t∧e.val=.str y u∧e.hash=hashInt x:=by
 refine au (K_.mp h) λa ea h=>au (K_.mp h) λb eb h=>?_
 by_cases q:e.hash=hashInt a
 ·refine cm ((if_pos q).symm.trans h) ?_
  exact bP (G9 ea) λt e1=>bP (KC eb) λu e2=>dy t u e1 e2 q
 ·exact cv ((if_neg q).symm.trans h)
theorem zm{es:List DictEntry}{l:List (Int×Str)}(h:es.map D9=l.map some):∀e∈es,∃x t,e.key=.int x t∧e.hash=hashInt x:= λe he=>by
 have:D9 e∈l.map some:=h▸PI he
 refine au (DT.mp this) λzp0 zz q=>?_;obtain ⟨x,y⟩:=zp0;refine bm (sw q.symm) λt u e1 e2 e3=>?_;exact (fO x t e1 e3)
theorem C1{k x:Int}{t:Tok}:PW k (.int x t)=(x==k):=rfl
theorem rk:∀ {es:List DictEntry} {l:List (Int×Str)} (k:Int),es.map D9=l.map some→
  (∃y t,l.lookup k=some y∧(es.find? λe=>PW k e.key).map (·.val)=some (.str y t))∨(l.lookup k=none∧(es.find? λe=>PW k e.key).map (·.val)=none)
 | [],[],k,_=>.inr ⟨rfl,rfl⟩
 | [],_::_,_,h=>by simp at h
 |e::es,[],k,h=>by simp at h
 |e::es,(x,y)::l,k,h=>by
  simp only [F7,UC] at h
  refine bm (sw h.1) λt u e1 e2 e3=>?_
  by_cases q:k=x
  ·subst q
   exact .inl (fO y u (by simp) (by simp [e1,e2,C1]))
  ·have hn:PW k e.key=false:=by
    rw [e1];exact C1.trans (beq_eq_false_iff_ne.mpr (MP q))
   rw [Nu,show (k==x)=false by simpa using q,Mb,hn];exact rk k h.2
theorem Aj{y:Str}{i:Int}(h:kn y=some i):(y="|"∧i=18)∨(y="*"∧i=16)∨(y="("∧i=7)∨(y=")"∧i=8):=by
 unfold kn at h
 simp only [Nu,List.lookup_nil] at h
 repeat' split at h
 all_goals first| (cases h;rename_i q;simp only [beq_iff_eq] at q;refine bH (F6 q) ?_;simp;done)|exact cv h
end Mine
namespace Mine
open PySem PySem.W PySem.Calls PyProof.Rows
theorem ext2{C:gK}(t:yu C.w C.B)(hm:C.mg "EXACT_TOKEN_TYPES"=some (.ref 58)):
  ∃d m,C.mg "EXACT_TOKEN_TYPES"=some (.ref d)∧C.B.MapOf (strKind C.prog C.w) d m∧∀y i,kn y=some i→∃t,m y=some (.int i t):=by
 obtain ⟨l1,l2,a1,_,b1,b2,_⟩:=t;obtain ⟨es,n,g,rfl⟩:=vS a1;refine ⟨58,λk=>findBy QV es k,hm,⟨_,es,n,g,⟨rfl,rfl,rfl⟩,rfl,λe he=>?_,λzz=>rfl⟩,λy i q=>?_⟩
 ·have:(G0 e.key,e.hash)∈k1 C.w:=b1▸PI (f:= λe:DictEntry=>(G0 e.key,e.hash)) (Ss.mpr he)
  obtain ⟨x,_,q⟩:=DT.mp this;have q1:=congrArg Uj q;have q2:=congrArg Uk q;refine ⟨x,?_,q2.symm⟩;dsimp only at q1
  obtain ⟨t,hk⟩:=KC q1.symm;rw [hk];exact strKind_is C.prog C.w _ _
 ·have fb:∀x:Str,findBy QV es x=((es.toList.find? λe=>QV x e.key).map (·.val)):= λx=>by
   unfold findBy;rw [←Ti]
  have hv:v2 es.toList=[some 18,some 16,some 7,some 8]:=b2;unfold v2 at hv
  simp only [F7,M3,←fb,UC] at hv
  rcases Aj q with ⟨rfl,rfl⟩| ⟨rfl,rfl⟩| ⟨rfl,rfl⟩| ⟨rfl,rfl⟩
  ·exact tr hv.1
  ·exact tr hv.2.1
  ·exact tr hv.2.2.1
  ·exact tr hv.2.2.2.1
theorem cfn2{C:gK}(t:yu C.w C.B)(hm:C.mg "COMPILER_FLAG_NAMES"=some (.ref 43)):
  ∃d m,C.mg "COMPILER_FLAG_NAMES"=some (.ref d)∧C.B.MapOf (intKind C.prog C.w) d m∧(∀k,(∃y t,si k=some y∧m k=some (.str y t))∨(si k=none∧m k=none))∧(d==sysModules)=false:=by
 obtain ⟨l1,l2,_,a2,_,_,b⟩:=t;obtain ⟨es,n,g,rfl⟩:=vS a2;have hk:=zm b;refine ⟨43,λk=>findBy PW es k,hm,⟨_,es,n,g,⟨rfl,rfl,rfl⟩,rfl,λe he=>?_,λzz=>rfl⟩,λk=>?_,by decide⟩
 ·obtain ⟨x,t,e1,e2⟩:=hk e (Ss.mpr he)
  exact ⟨x,by rw [e1];simp [intKind,PW],e2⟩
 ·have:=rk k b
  dsimp only;unfold findBy;rw [←Ti];exact this
theorem hd2(call:WalkO vq loose Y4 yu RR.toRowW dd.1 dd.2 λf vs=>PySem.call f vs):Ly.Holds:=
 holds_law Hs λsaid=>holds_open (q:=vq) (loose:=loose) (Xt:=xt) (XP:=Y4) (Yf:=yf) (Ya:=ya) (YP:=yu) (N:=4366) YV Ng Dr Zr OH Yh TH Y0
  (λs e=>recFacts_of (by unfold xt at e;rw [Fd,Fd] at e;exact e.1.2)) rfl said Vo ⟨rfl,rfl,rfl,rfl,rfl,∅⟩ Nc call
end Mine
namespace Mine
open PySem PySem.W PySem.Calls PyProof.Rows
variable {V V' : AV} {Cn D L TI TO a fa i1 i2 i3 z : Addr} {A : Around} {items zs : Array Value} {sh tup : Bool} {cf : CF} {c c' : ah} {C : gK} {cx : Cx} {f fi fo g : EF} {cenv env : Env} {mean : ExcName → Option Value} {e e1 e2 elt iter target test : Expr} {fl : Fl} {h h' : Heap} {itf : IF} {y : Int} {Vs : List AV} {M M' O T T' W wr α α' α1 α₀ : List Addr} {Mid : List Addr → List Addr → List Addr → List ah → Nat → Value → Shared → Prop} {St : List Addr → xN} {μ μ' μ'' μ1 μ2 μ3 μ₀ : List ah} {fs : List EF} {es : List Expr} {K cs ns os rest : List Int} {gi ls m ps : List Nat} {X acc acc' ds xs ys : List PyData} {body orelse : List Stmt} {vs : List Value} {ρ ρ' ρ1 ρ2 : d5} {tf : d5 → PyData → Option d5} {b i j ja jt k kk low mask n p q tk : Nat} {o : Obj} {op : Operator} {ha ke td te tx : Option AV} {hi lo : Option Expr} {gg : Option Nat} {apos pos px py sp tp xp : Pos} {prog : Program} {G : Prop} {d : PyData} {sc scope : Scope} {s s' s'' s1 s₀ : Shared} {spec : a_} {st : Stmt} {name x : Str} {t : TF} {u : Tok} {cd cls doc fv it pm v : Value} {E Q : Value → Shared → Prop} {w : World}
section
theorem b5{X:Type u0}{Y:Type u1}{Z:Type u2}{o:Option (X×Y)}{k:X→Y→Option Z}{a:X}{b:Y}(h:o=some (a,b)):bp o k=k a b:=by rw [h];rfl
theorem bU{X:Type u0}{Z:Type u2}{o:Option X}{k:X→Option Z}{a:X}(h:o=some a):bo o k=k a:=by rw [h];rfl
theorem oX{X:Type u0}{Y:Type u1}{Z:Type u2}{o:Option X}{p:Option Y}{k:X→Y→Z}{e:Z}{a:X}{b:Y}(h:o=some a)(h':p=some b):oe o p k e=k a b:=by rw [h,h'];rfl
theorem JX{X:Type u0}{Y:Type u1}{Z:Type u2}{o:Option (X×Y)}{k:X→Y→Option Z}(h:o=none):bp o k=none:=by rw [h];rfl
theorem eZ{X:Type u0}{Y:Type u1}{Z:Type u2}{o:Option X}{p:Option Y}{k:X→Y→Z}{e:Z}(h:o=none):oe o p k e=e:=by rw [h];rfl
end
section
variable {h:EF} {sf sg:SF} {W:AV}
theorem xA(e:t ρ μ=some (true,μ1)):dx t f g ρ μ=f ρ μ1:=b5 e
theorem sV(e:t ρ μ=some (false,μ1)):dx t f g ρ μ=g ρ μ1:=b5 e
theorem Ao(e:t ρ μ=some (true,μ1)):jF t sf sg ρ μ=sf ρ μ1:=b5 e
theorem D0(e:t ρ μ=some (false,μ1)):jF t sf sg ρ μ=sg ρ μ1:=b5 e
theorem aB(e:sf ρ μ=some (.next,ρ1,μ1)):ap sf sg ρ μ=sg ρ1 μ1:=b5 e
theorem cV(e:sf ρ μ=some (.ret V,ρ1,μ1)):ap sf sg ρ μ=some (.ret V,ρ1,μ1):=b5 e
theorem FU(e:sf ρ μ=some (.brk,ρ1,μ1)):ap sf sg ρ μ=some (.brk,ρ1,μ1):=b5 e
theorem bO(e:f ρ μ=some (V,μ1)):cb i f ρ μ=some (.next,ρ.set i (some V),μ1):=b5 e
theorem dZ(e:f ρ μ=some (V,μ1)):ff f ρ μ=some (.ret V,ρ,μ1):=b5 e
theorem bK:aP ρ μ=some (.next,ρ,μ):=rfl
theorem nN{b:Bool}(e:f ρ μ=some (V,μ1))(h:ko V μ1=some b):gf f ρ μ=some (b,μ1):=(b5 e).trans (bU h)
theorem C2{o:AV→AV→List ah→Option (AV×List ah)}{W r:AV}(e:ρ[i]? =some (some V))(e1:f ρ μ=some (W,μ1))(h:o V W μ1=some (r,μ2)):iu i f o ρ μ=some (.next,ρ.set i (some r),μ2):=
 (bU (show ρ[i]?.bind id=some V by rw [e];rfl)).trans ((b5 e1).trans (b5 h))
end
theorem az(xs:List PyData)(μ:List ah):cy none xs μ:= λzz e=>by exact cv e
def Y8(tf:d5→PyData→Option d5)(ρ0 ρ:d5):Prop:=∀y,tf ρ y=tf ρ0 y
theorem Rc(i:Nat)(ρ0:d5)(v:Option AV):Y8 (dz i) ρ0 (ρ0.set i v):= λy=>by simp [dz,HA]
theorem J3{g:Option Nat}{ρ0:d5}(hg:cy g xs μ)(out:PyData→List PyData)(r:List PyData)(ρ:d5)(acc:List PyData)(hb:Y8 tf ρ0 ρ)(h:∀x∈r,∀acc,∃ρ1 ρ2,tf ρ0 x=some ρ1∧(acc.length+(out x).length≤sizeLine→cf ρ1 μ acc=some (ρ2,μ,acc++out x))∧Y8 tf ρ0 ρ2)(hz:acc.length+(r.flatMap out).length≤sizeLine):
  ∃ρ',fe tf cf g xs r ρ μ acc=some (ρ',μ,acc++r.flatMap out):=by
 induction r generalizing ρ acc with
 |nil=>exact ⟨ρ,congrArg (λz=>some (ρ,μ,z)) (DO _).symm⟩
 |cons x r ih=>
  refine bm (h x (FI ..) acc) λρ1 ρ2 e1 e2 e3=>?_;rw [Fs,be] at hz
  refine bP (ih ρ2 (acc++out x) e3 (λy hy=>h y (D1 _ hy)) (by rw [be];lia)) λρ' e=>⟨ρ',?_⟩;refine qz.trans ((bU ((hb x).trans e1)).trans ((b5 (e2 (by lia))).trans ((if_pos hg).trans (e.trans ?_))));rw [Fs,Eu]
theorem lX{g:Option Nat}(hi:itf ρ μ=some (xs,g,μ1))(hg:cy g xs μ1)(out:PyData→List PyData)
  (h:∀x∈xs,∀acc,∃ρ1 ρ2,tf (bG sc ρ) x=some ρ1∧(acc.length+(out x).length≤sizeLine→cf ρ1 μ1 acc=some (ρ2,μ1,acc++out x))∧Y8 tf (bG sc ρ) ρ2) (hz:(xs.flatMap out).length≤sizeLine):
  fj sc itf tf cf ρ μ=some (xs.flatMap out,μ1):=by
 refine bP (J3 hg out xs (bG sc ρ) [] (λzz=>rfl) h (by simpa using hz)) λρ' e=>?_;exact (b5 hi).trans (b5 e)
theorem qf{g:Option Nat}(h:itf ρ μ=some (xs,g,μ1))(h':fe tf cf g xs xs (bG sc ρ) μ1 []=some (ρ',μ2,acc)):fj sc itf tf cf ρ μ=some (acc,μ2):=(b5 h).trans (b5 h')
theorem pE{g:Option Nat}{r acc2:List PyData}{x:PyData}(e:tf ρ x=some ρ1)(e':cf ρ1 μ acc=some (ρ2,μ2,acc2))(hg:cy g xs μ2):fe tf cf g xs (x::r) ρ μ acc=fe tf cf g xs r ρ2 μ2 acc2:=
 qz.trans ((bU e).trans ((b5 e').trans (if_pos hg)))
theorem TN{a b:PyData}(h:f ρ μ=some (.d (.list [a,b]),μ1)):VY i j f ρ μ=some (.next,(ρ.set i (some (.d a))).set j (some (.d b)),μ1):=b5 h
theorem CH{a b:PyData}(h:f ρ μ=some (.d (.tuple [a,b]),μ1)):xu i j f ρ μ=some (.next,(ρ.set j (some (.d b))).set i (some (.d a)),μ1):=b5 h
theorem bY(h:fj sc itf tf cf ρ μ=some (acc,μ1)):ce sc itf tf cf ρ μ=some (.d (.list acc),μ1):=b5 h
theorem YB(e:t ρ μ=some (true,μ1)):cX t cf ρ μ acc=cf ρ μ1 acc:=b5 e
theorem Ym(e:t ρ μ=some (false,μ1)):cX t cf ρ μ acc=some (ρ,μ1,acc):=b5 e
theorem wm{e:EF}(h:e ρ μ=some (.d d,μ))(acc:List PyData)(hz:acc.length+1≤sizeLine):aY e ρ μ acc=some (ρ,μ,acc++[d]):=
 (b5 h).trans ((b5 (rfl:xz (.d d) μ=some (d,μ))).trans (if_pos (Nat.le_of_succ_le hz)))
theorem pq{e:EF}(h:e ρ μ=some (.d d,μ))(acc:List PyData)(hz:acc.length+1≤sizeLine):cX bg (aY e) ρ μ acc=some (ρ,μ,acc++[d]):=wm h acc hz
theorem Bz{e:EF}{b:Bool}(ht:t ρ μ=some (b,μ))(h:b=true→e ρ μ=some (.d d,μ))(acc:List PyData)(hz:acc.length+(if b then [d] else []).length≤sizeLine):cX t (aY e) ρ μ acc=some (ρ,μ,acc++if b then [d] else []):=by
 refine (b5 ht).trans ?_;cases b with
 |true=>exact wm (h rfl) acc hz
 |false=>exact congrArg (λz=>some (ρ,μ,z)) (DO _).symm
theorem ic{e:EF}{g:Option Nat}(i:Nat)(f:PyData→PyData)(hi:itf ρ μ=some (xs,g,μ1))(hg:cy g xs μ1)
  (h:∀x∈xs,e ((bG sc ρ).set i (some (.d x))) μ1=some (.d (f x),μ1)) (hz:xs.length≤sizeLine):fj sc itf (dz i) (cX bg (aY e)) ρ μ=some (xs.map f,μ1):=by
 have hl:∀l:List PyData,l.flatMap (λx=>[f x])=l.map f:= λl=>by
  induction l with
  |nil=>rfl
  |cons x l ih=>refine rA Fs ?_;refine rA ih ?_;rfl
 have:=lX (sc:=sc) (tf:=dz i) (cf:=cX bg (aY e)) hi hg (λx=>[f x]) (λx hx acc=>(dy _ _ rfl (λhz=>pq (h x hx) acc (by simpa using hz)) (Rc i _ _))) (by refine rA (hl _) ?_;refine rA (xO _) ?_;exact hz)
 refine rA this ?_;exact rA (hl _) rfl
theorem jd{e:EF}{g:Option Nat}(i:Nat)(p:PyData→Bool)(f:PyData→PyData)(hi:itf ρ μ=some (xs,g,μ1))(hg:cy g xs μ1)
  (ht:∀x∈xs,t ((bG sc ρ).set i (some (.d x))) μ1=some (p x,μ1)) (h:∀x∈xs,p x=true→e ((bG sc ρ).set i (some (.d x))) μ1=some (.d (f x),μ1)) (hz:xs.length≤sizeLine):
  fj sc itf (dz i) (cX t (aY e)) ρ μ=some ((xs.filter p).map f,μ1):=by
 have hl:∀l:List PyData,l.flatMap (λx=>if p x then [f x] else [])=(l.filter p).map f:= λl=>by
  induction l with
  |nil=>rfl
  |cons x l ih=>
   refine rA Fs ?_;refine rA ih ?_;refine rA KT ?_
   split<;>simp
 have:=lX (sc:=sc) (tf:=dz i) (cf:=cX t (aY e)) hi hg (λx=>if p x then [f x] else []) (λx hx acc=>(dy _ _ rfl (λhz=>Bz (ht x hx) (h x hx) acc hz) (Rc i _ _))) (by
  refine rA (hl _) ?_;refine rA (xO _) ?_;exact L3 (Hf ..) hz)
 refine rA this ?_;exact rA (hl _) rfl
theorem d0{f:SF}{x:PyData}(hl:Vs.length=k)(h:f (cF sc Vs) μ=some (.ret (.d x),ρ',μ')):cA k sc f Vs μ=some (.d x,μ'.take μ.length):=
 (if_pos hl).trans (b5 h)
theorem s61{x:Int}:co [.d (.int x)] μ=some (.d (.bool (decide (x<256))),μ):=by
 refine (d0 (k:=1) rfl (rfl:f61 (cF (ao (ay 61)) [.d (.int x)]) μ=some (.ret (.d (.bool (decide (x<256)))),cF (ao (ay 61)) [.d (.int x)],μ))).trans ?_;rw [LW]
theorem s62{x:Int}:bR [.d (.int x)] μ=some (.d (.bool (decide (256≤x))),μ):=by
 refine (d0 (k:=1) rfl (rfl:f62 (cF (ao (ay 62)) [.d (.int x)]) μ=some (.ret (.d (.bool (decide (256≤x)))),cF (ao (ay 62)) [.d (.int x)],μ))).trans ?_;rw [LW]
theorem s63{x:Int}:fy [.d (.int x)] μ=some (.d (.bool (x==0)),μ):=by
 refine (d0 (k:=1) rfl (rfl:f63 (cF (ao (ay 63)) [.d (.int x)]) μ=some (.ret (.d (.bool (x==0))),cF (ao (ay 63)) [.d (.int x)],μ))).trans ?_;rw [LW]
noncomputable def CV:Nat→Int→Int→List Int→Option (Int×List Int)
 |0,_,_,_=>none
 |k+1,b,val,os=>if D5 b 64≠0 then
   (match os with
   |b'::os'=>if 0≤val∧val<4294967296 then CV k b' (Mj (val*64) (D5 b' 63)) os' else none
   | []=>none)
  else some (val,os)
noncomputable def rd:List Int→Option (Int×List Int)
 | []=>none
 |b::os=>CV 64 b (D5 b 63) os
noncomputable abbrev iL(l:List Int):List PyData:=l.map .int
noncomputable def L8(i:Nat)(b val:Int):d5:=[some (.c i),some (.d (.int b)),some (.d (.int val))]
theorem uI{x:PyData}{r:List PyData}(h0:a9 0 ρ μ=some (.c i,μ))(hc:μ[i]? =some (.iter (x::r))):af [a9 0] jX ρ μ=some (.d x,μ.set i (.iter r)):=by
 refine (?_:bp (bp (a9 0 ρ μ) λV μ1=>bp (some ([],μ1)) λVs μ2=>some (V::Vs,μ2)) jX=_);rw [h0];exact wt hc
theorem cB(h:i<μ.length):(μ.set i c)[i]? =some c:=MF h
theorem eK(h:μ[i]? =some c):μ.set i c=μ:=by
 obtain ⟨hlt,e⟩:=BW.mp h;refine rB e ?_;exact rA (List.set_getElem_self _) rfl
section
variable {o1 o2:AV→AV→List ah→Option (AV×List ah)}
theorem Wm(h1:∀ (v:Int) (μ:List ah),0≤v→v<4294967296→o1 (.d (.int v)) (.d (.int 6)) μ=some (.d (.int (v*64)),μ))(h2:∀ (a b:Int) (μ:List ah),o2 (.d (.int a)) (.d (.int b)) μ=some (.d (.int (Mj a b)),μ))(k:Nat)(b val:Int)(os rest:List Int)(μ:List ah)(v:Int)(hc:μ[i]? =some (.iter (iL os)))(h:CV k b val os=some (v,rest)):
  ∃b',j4 (gf (aj (a9 1) (kI 64) (aS λx y=>some (D5 x y)))) (ap (iu 2 (kI 6) o1) (ap (cb 1 (af [a9 0] jX)) (ap (iu 2 (aj (a9 1) (kI 63) (aS λx y=>some (D5 x y))) o2) aP))) k (L8 i b val) μ
   =some (.next,L8 i b' v,μ.set i (.iter (iL rest))):=by
 induction k generalizing b val os μ with
 |zero=>exact cv h
 |succ k ih=>
  have hlt:i<μ.length:=(BW.mp hc).1;have ht:gf (aj (a9 1) (kI 64) (aS λx y=>some (D5 x y))) (L8 i b val) μ=some (D5 b 64 != 0,μ):=rfl;refine ifB h (λhb h=>?_) λhb h=>?_
  ·cases os with
   |nil=>exact cv h
   |cons b1 os=>
    refine i7 h λhz h=>?_;have e1:iu 2 (kI 6) o1 (L8 i b val) μ=some (.next,L8 i b (val*64),μ):=Kw (v:=val) (w:=val*64) rfl (h1 _ _ hz.1 hz.2);have e2:cb 1 (af [a9 0] jX) (L8 i b (val*64)) μ=some (.next,L8 i b1 (val*64),μ.set i (.iter (iL os))):=b5 (uI (i:=i) rfl hc);have e3:iu 2 (aj (a9 1) (kI 63) (aS λx y=>some (D5 x y))) o2 (L8 i b1 (val*64)) (μ.set i (.iter (iL os)))=some (.next,L8 i b1 (Mj (val*64) (D5 b1 63)),μ.set i (.iter (iL os))):=C2 (V:=.d (.int (val*64))) (W:=.d (.int (D5 b1 63))) (μ1:=μ.set i (.iter (iL os))) rfl rfl (h2 _ _ _);refine bP (ih b1 (Mj (val*64) (D5 b1 63)) os (μ.set i (.iter (iL os))) (cB hlt) h) λb' ih=>⟨b',?_⟩;have e4:ap (iu 2 (kI 6) o1) (ap (cb 1 (af [a9 0] jX)) (ap (iu 2 (aj (a9 1) (kI 63) (aS λx y=>some (D5 x y))) o2) aP)) (L8 i b val) μ=some (.next,L8 i b1 (Mj (val*64) (D5 b1 63)),μ.set i (.iter (iL os))):=(aB e1).trans ((aB e2).trans (aB e3));refine iN.trans ((b5 ht).trans ?_);rw [bne_iff_ne.mpr hb];refine (?_:bp (ap _ _ _ _) (λfl p=>Rd fl (j4 _ _ _ p.1 p.2) p)=_);exact (b5 e4).trans (ih.trans (by rw [HA]))
  ·refine cm h ⟨b,iN.trans ((b5 ht).trans ?_)⟩
   rw [show (D5 b 64 != 0)=false by simpa using hb,eK hc];rfl
end
theorem YJ(v:Int)(μ:List ah)(h0:0≤v)(h1:v<4294967296):qw (.d (.int v)) (.d (.int 6)) μ=some (.d (.int (v*64)),μ):=by
 have hb:(Hp v:Int)+6≤2^27:=by
  have hb:Hp v≤33:=by
   unfold Hp
   split
   ·lia
   ·rename_i hz
    have hz':v≠0:=by simpa using hz
    have:v.natAbs.log2<32:=(Nat.log2_lt (by lia)).mpr (by lia)
    lia
  have e27:(2:Int)^27=134217728:=by decide
  refine rA e27 ?_;lia
 have e:v*2^ (6:Int).toNat=v*64:=by
  exact congrArg (v* ·) (by decide:(2:Int)^6=64)
 refine rB e ?_;exact HR oD hb
theorem aq7(a b:Int)(μ:List ah):SU (.d (.int a)) (.d (.int b)) μ=some (.d (.int (Mj a b)),μ):=rfl
theorem s8{v:Int}(hc:μ[i]? =some (.iter (iL os)))(h:rd os=some (v,rest)):aR [.c i] μ=some (.d (.int v),μ.set i (.iter (iL rest))):=by
 have hlt:i<μ.length:=(BW.mp hc).1;cases os with
 |nil=>exact cv h
 |cons b os=>
  obtain ⟨b',e⟩:=Wm YJ aq7 64 b (D5 b 63) os rest (μ.set i (.iter (iL os))) v (cB hlt) h;have e0:E8 (cF (ao (ay 8)) [.c i]) μ=some (.next,[some (.c i),some (.d (.int b)),none],μ.set i (.iter (iL os))):=by
   exact bO (uI (i:=i) (ρ:=cF (ao (ay 8)) [.c i]) rfl hc)
  have e1:J8 [some (.c i),some (.d (.int b)),none] (μ.set i (.iter (iL os)))=some (.next,L8 i b (D5 b 63),μ.set i (.iter (iL os))):=rfl;have e2:Na (L8 i b (D5 b 63)) (μ.set i (.iter (iL os)))=some (.next,L8 i b' v,μ.set i (.iter (iL rest))):=by
   exact e.trans (by rw [HA])
  have e3:U5 (L8 i b' v) (μ.set i (.iter (iL rest)))=some (.ret (.d (.int v)),L8 i b' v,μ.set i (.iter (iL rest))):=rfl
  have:f8 (cF (ao (ay 8)) [.c i]) μ=some (.ret (.d (.int v)),L8 i b' v,μ.set i (.iter (iL rest))):=by
   exact (aB e0).trans ((aB e1).trans ((aB e2).trans (cV e3)))
  unfold aR;refine rA (d0 (k:=1) rfl this) ?_;exact rA (Fn (by simp)) rfl
section
theorem p63:(2:Int)^63=9223372036854775808:=by decide
theorem N2{k:Int}(hs:v7 μ V=some xs)(hk:0≤k)(hx:xs[k.toNat]? =some d)(hl:xs.length≤sizeLine):HP V k μ=some d:=by
 have h24:sizeLine=16777216:=by decide
 have hlt:k.toNat<xs.length:=(BW.mp hx).1;have e:seqIndex? k xs.length=some k.toNat:=by
  unfold seqIndex?;dsimp only;refine rA (if_neg (show ¬k<0 by lia)) ?_;exact rA (if_pos (by simp only [Fd,decide_eq_true_eq];lia)) rfl
 exact (if_pos (by rw [p63];lia)).trans ((bU hs).trans ((bU e).trans hx))
theorem cJ{k:Int}(hf:f ρ μ=some (V,μ))(hg:g ρ μ=some (.d (.int k),μ))(hs:v7 μ V=some xs)(hk:0≤k)(hx:xs[k.toNat]? =some d)(hl:xs.length≤sizeLine):aF f g ρ μ=some (.d d,μ):=
 (b5 hf).trans ((b5 hg).trans (bU (N2 hs hk hx hl)))
theorem bX:e_ [] ρ μ=some ([],μ):=rfl
theorem an(h:f ρ μ=some (V,μ1))(hs:e_ fs ρ μ1=some (Vs,μ2)):e_ (f::fs) ρ μ=some (V::Vs,μ2):=(b5 h).trans (b5 hs)
theorem vC(h:f ρ μ=some (V,μ1)):e_ [f] ρ μ=some ([V],μ1):=an h bX
theorem zc(h:f ρ μ=some (V,μ1))(h':g ρ μ1=some (V',μ2)):e_ [f,g] ρ μ=some ([V,V'],μ2):=an h (vC h')
theorem d6{W:AV}(hf:f ρ μ=some (V,μ))(hs:spec [V] μ=some (W,μ')):af [f] spec ρ μ=some (W,μ'):=(b5 (vC hf)).trans hs
theorem iR{W:AV}(hf:f ρ μ=some (V,μ))(hg:g ρ μ=some (V',μ))(hs:spec [V,V'] μ=some (W,μ')):af [f,g] spec ρ μ=some (W,μ'):=(b5 (zc hf hg)).trans hs
theorem rF{o:AV→AV→List ah→Option (AV×List ah)}{W R:AV}(hf:f ρ μ=some (V,μ1))(hg:g ρ μ1=some (W,μ2))(h:o V W μ2=some (R,μ3)):aj f g o ρ μ=some (R,μ3):=(b5 hf).trans ((b5 hg).trans h)
theorem cT{x:Int}(hf:f ρ μ=some (.d (.int x),μ))(hg:g ρ μ=some (.d (.int y),μ)):aj f g aT ρ μ=some (.d (.int (x+y)),μ):=rF hf hg rfl
theorem lL(h:dc μ V=some xs):jM V=none∧lS V=none∧Hx V=none∧XX V=none∧Nw V=none∧Pt V=none:=by
 cases V with
 |d x=>cases x<;>first|exact cv h|exact ⟨rfl,rfl,rfl,rfl,rfl,rfl⟩
 |rng _ _=>exact cv h
 |_=>exact ⟨rfl,rfl,rfl,rfl,rfl,rfl⟩
theorem eR(hc:μ[j]? =some (.live xs)):dc μ (.c j)=some xs:=(bU (k:=Qn) hc:_)
theorem cU{W:AV}(hf:f ρ μ=some (V,μ))(hg:g ρ μ=some (W,μ))(hV:dc μ V=some xs)(hW:dc μ W=some ys)(hz:xs.length+ys.length≤sizeLine):aj f g aT ρ μ=some (.d (.list (xs++ys)),μ):=
 rF hf hg ((eZ (lL hV).1).trans ((eZ (lL hV).2.1).trans ((bU hV).trans ((bU hW).trans (if_pos hz)))))
theorem cW{o:Int→Int→Option Int}{x z:Int}(hf:f ρ μ=some (.d (.int x),μ))(hg:g ρ μ=some (.d (.int y),μ))(h:o x y=some z):aj f g (aS o) ρ μ=some (.d (.int z),μ):=rF hf hg (bU (k:= λz=>some (AV.d (.int z),μ)) h)
theorem t_(ds:List PyData):lG (ds.map .d) μ=some (ds,μ):=by
 induction ds with
 |nil=>rfl
 |cons d ds ih=>exact (b5 (rfl:xz (.d d) μ=some (d,μ))).trans (b5 ih)
theorem d8(h:e_ fs ρ μ=some (ds.map .d,μ))(hz:ds.length≤sizeLine):cY fs ρ μ=some (.d (.tuple ds),μ):=(b5 h).trans ((b5 (t_ ds)).trans (if_pos hz))
theorem dJ(h:e_ fs ρ μ=some (ds.map .d,μ))(hz:ds.length≤sizeLine):aU fs ρ μ=some (.d (.list ds),μ):=(b5 h).trans ((b5 (t_ ds)).trans (if_pos hz))
theorem uB:aU [] ρ μ=some (.d (.list []),μ):=dJ (ds:=[]) rfl (LL _)
theorem kt(hf:f ρ μ=some (.d d,μ)):aU [f] ρ μ=some (.d (.list [d]),μ):=dJ (ds:=[d]) (vC hf) (show 1≤sizeLine by decide)
theorem rx(hc:μ[j]? =some (.live xs)):xz (.c j) μ=some (.list xs,μ.set j (.frozen xs)):=(eZ (rfl:vd (.c j)=none)).trans ((bU (rfl:Fo (.c j)=some j)).trans (bU hc))
theorem fJ(h:xz V μ=some (d,μ1))(hs:lG Vs μ1=some (ds,μ2)):lG (V::Vs) μ=some (d::ds,μ2):=(b5 h).trans (b5 hs)
theorem HY(h:e_ fs ρ μ=some (Vs,μ1))(h':lG Vs μ1=some (ds,μ2))(hz:ds.length≤sizeLine):n0 fs ρ μ=some (.c μ2.length,μ2++[.live ds]):=(b5 h).trans ((b5 h').trans (if_pos hz))
theorem T7(h:e_ fs ρ μ=some (Vs,μ1))(h':lG Vs μ1=some (ds,μ2))(hz:ds.length≤sizeLine):aU fs ρ μ=some (.d (.list ds),μ2):=(b5 h).trans ((b5 h').trans (if_pos hz))
theorem Fz(h:e_ fs ρ μ=some (Vs,μ1))(h':lG Vs μ1=some (ds,μ2))(hz:ds.length≤sizeLine):cY fs ρ μ=some (.d (.tuple ds),μ2):=(b5 h).trans ((b5 h').trans (if_pos hz))
theorem JV(hf:f ρ μ=some (.d (.str x),μ1))(ha:e_ fs ρ μ1=some (Vs,μ2)):dw f fs spec ρ μ=spec (.d (.str x)::Vs) μ2:=(b5 hf).trans ((bU (rfl:lS (.d (.str x))=some x)).trans (b5 ha))
theorem BK{ys:List Str}(hf:f ρ μ=some (V,μ))(hp:dc μ V=some xs)(ha:nG xs=some ys)(hz:(ys.map (·.length)).sum+ys.length*x.length≤16777216):dw (kS x) [f] f5 ρ μ=some (.d (.str (LA x ys)),μ):=
 (JV (x:=x) rfl (vC hf)).trans ((b5 (rfl:l2 [.d (.str x),V]=some (.d (.str x),V))).trans ((bU (rfl:lS (.d (.str x))=some x)).trans ((bU hp).trans ((bU ha).trans (if_pos hz)))))
theorem len_str(hz:x.length≤sizeLine):dC [.d (.str x)] μ=some (.d (.int x.length),μ):=(bU (rfl:l1 [AV.d (.str x)]=some _)).trans ((oX (rfl:lS (.d (.str x))=some x) rfl).trans (if_pos hz))
theorem gj(hf:f ρ μ=some (.c j,μ))(hg:g ρ μ=some (.d d,μ))(hc:μ[j]? =some (.live xs))(hz:xs.length≤sizeLine):eh f g ρ μ=some (.d .none,μ.set j (.live (xs++[d]))):=
 (b5 hf).trans ((bU (eR hc)).trans ((b5 hg).trans ((b5 (rfl:xz (.d d) μ=some (d,μ))).trans ((bU hc).trans (if_pos hz)))))
theorem pb(hf:f ρ μ=some (.c j,μ))(hg:g ρ μ=some (.d (.list ys),μ))(hc:μ[j]? =some (.live xs))(hz:xs.length+ys.length≤sizeLine):se f g ρ μ=some (.d .none,μ.set j (.live (xs++ys))):=
 (b5 hf).trans ((bU (eR hc)).trans ((b5 hg).trans ((bU hc).trans (if_pos hz))))
theorem d9(hf:f ρ μ=some (V,μ))(hp:dc μ V=some xs):aK false f ρ μ=some (xs,Fb V,μ):=
 (b5 hf).trans ((eZ (lL hp).2.2.1).trans ((eZ (lL hp).2.2.2.1).trans ((bU hp).trans (if_pos (.inl rfl)))))
theorem l_(hf:f ρ μ=some (.d (.tuple xs),μ)):aK false f ρ μ=some (xs,none,μ):=b5 hf
theorem Bd(hf:f ρ μ=some (V,μ))(hp:dc μ V=some xs)(ht:nj xs=true):aK true f ρ μ=some (xs,Fb V,μ):=
 (b5 hf).trans ((eZ (lL hp).2.2.1).trans ((eZ (lL hp).2.2.2.1).trans ((bU hp).trans (if_pos (.inr ht)))))
theorem nr{a b:Int}(hf:f ρ μ=some (.rng a b,μ))(hs:KB a b 1=true):aK false f ρ μ=some (fK a (b-a).toNat,none,μ):=
 (b5 hf).trans ((eZ (rfl:Hx (.rng a b)=none)).trans ((oX (rfl:XX (.rng a b)=some (a,b)) rfl).trans (if_pos ⟨rfl,hs⟩)))
theorem Cr(hp:dc μ V=some xs)(hz:xs.length≤sizeLine):mo [V] μ=some (.d (.list xs),μ):=
 (bU (rfl:l1 [V]=some V)).trans ((eZ (lL hp).2.2.2.1).trans ((bU hp).trans (if_pos hz)))
theorem Tk(h:v7 μ V=some xs):lS V=none:=by
 cases V with
 |d x=>cases x<;>first|exact cv h|rfl
 |_=>rfl
theorem gG(hf:f ρ μ=some (V,μ))(hs:v7 μ V=some xs)(hz:xs.length≤sizeLine):af [f] dC ρ μ=some (.d (.int xs.length),μ):=
 d6 hf ((bU (rfl:l1 [V]=some V)).trans ((eZ (Tk hs)).trans ((bU hs).trans (if_pos hz))))
end
theorem aa(h:n≤100000):n≤sizeLine:=by
 have h24:sizeLine=16777216:=by decide
 lia
section
variable {h:EF} {sf sg:SF} {W:AV}
theorem er(e:f ρ μ=some (.d .none,μ1)):cj f ρ μ=some (.next,ρ,μ1):=b5 e
theorem Ue{i:Int}(e:f ρ μ=some (.d (.int i),μ1)):cj f ρ μ=some (.next,ρ,μ1):=b5 e
theorem W6:MK ρ μ=some (.brk,ρ,μ):=rfl
theorem not_of{b:Bool}(e:t ρ μ=some (b,μ1)):ui t ρ μ=some (!b,μ1):=b5 e
theorem Yb{t':TF}(e:t ρ μ=some (true,μ1)):J_ t t' ρ μ=t' ρ μ1:=b5 e
theorem ZX{t':TF}(e:t ρ μ=some (false,μ1)):J_ t t' ρ μ=some (false,μ1):=b5 e
theorem dH{o:AV→AV→List ah→Option Bool}{r:Bool}(e:f ρ μ=some (V,μ1))(e':g ρ μ1=some (W,μ2))(h:o V W μ2=some r):bA f g o ρ μ=some (r,μ2):=(b5 e).trans ((b5 e').trans (bU h))
theorem hH{o:AV→AV→List ah→Option Bool}{r:Bool}(e:f ρ μ=some (V,μ1))(e':g ρ μ1=some (W,μ2))(h:o V W μ2=some r):d_ f g o ρ μ=some (.d (.bool r),μ2):=(b5 e).trans ((b5 e').trans (bU h))
theorem gM(e:itf ρ μ=some (xs,gg,μ1)):jK itf tf sf sg ρ μ=fR tf sf sg gg xs xs ρ μ1:=b5 e
theorem dP{r:List PyData}{x:PyData}(e:tf ρ x=some ρ1)(e':sf ρ1 μ=some (.next,ρ2,μ2))(hg:cy gg xs μ2):fR tf sf sg gg xs (x::r) ρ μ=fR tf sf sg gg xs r ρ2 μ2:=o8.trans ((bU e).trans ((b5 e').trans (if_pos hg)))
theorem qd{r:List PyData}{x:PyData}(e:tf ρ x=some ρ1)(e':sf ρ1 μ=some (.ret V,ρ2,μ2)):fR tf sf sg gg xs (x::r) ρ μ=some (.ret V,ρ2,μ2):=o8.trans ((bU e).trans (b5 e'))
theorem TL{r:List PyData}{x:PyData}(e:tf ρ x=some ρ1)(e':sf ρ1 μ=some (.brk,ρ2,μ2)):fR tf sf sg gg xs (x::r) ρ μ=some (.next,ρ2,μ2):=o8.trans ((bU e).trans (b5 e'))
theorem H8:fR tf sf sg gg xs [] ρ μ=sg ρ μ:=rfl
theorem o4{x:Int}(hf:f ρ μ=some (.d (.int x),μ))(hg:g ρ μ=some (.d (.int y),μ)):bA f g dK ρ μ=some (x==y,μ):=dH hf hg rfl
theorem jA(e:fj sc itf tf cf ρ μ=some (acc,μ1)):gb i sc itf tf cf false ρ μ=some (.next,ρ.set i (some (.d (.list acc))),μ1):=b5 e
theorem UI(e:fj sc itf tf cf ρ μ=some (acc,μ1)):gb i sc itf tf cf true ρ μ=some (.next,ρ.set i (some (.c μ1.length)),μ1++[.live acc]):=b5 e
end
theorem gC{sf sg:SF}{b:Bool}(e:t ρ μ=some (b,μ))(h:b=true):jF t sf sg ρ μ=sf ρ μ:=Ao (e.trans (by exact rA h rfl))
theorem gS{sf sg:SF}{b:Bool}(e:t ρ μ=some (b,μ))(h:b=false):jF t sf sg ρ μ=sg ρ μ:=D0 (e.trans (by exact rA h rfl))
inductive Fm where
 |at (i:Nat)
 |bin (par:Bool) (l r:Fm)
def sg(m:List Nat)(i:Nat):Int:=if i<m.getD i 0 then 7 else 8
noncomputable def Fm.pre(m:List Nat):Fm→List Int
 | .at i=>[sg m i]
 | .bin p l r=>(if p then 274 else 272)::(l.pre m++r.pre m)
noncomputable def Fm.pl:Fm→List Nat
 | .at i=>[i]
 | .bin _ l r=>l.pl++r.pl
noncomputable def nL(l:List Nat):List PyData:=l.map λ(i:Nat)=>F8 (i:Int)
noncomputable def Fm.enc(m:List Nat):Fm→PyData
 | .at i=>.tuple [.int (sg m i),.list [.int i]]
 | .bin p l r=>.tuple [.int (if p then 18 else 16),.list (nL (l.pl++r.pl)),l.enc m,r.enc m]
noncomputable def Fm.ht:Fm→Nat
 | .at _=>1
 | .bin _ l r=>max l.ht r.ht+1
inductive xW:List Int→List Int→List Int→Prop
 |nil (os:List Int):xW os [] os
 |cons {os os1 os2:List Int} {n:Int} {ns:List Int}:rd os=some (n,os1)→xW os1 ns os2→xW os (n::ns) os2
theorem xW.split:∀ {os os2 a b:List Int},xW os (a++b) os2→∃os1,xW os a os1∧xW os1 b os2
 |os,os2,[],b,h=>(aZ os (.nil _) h)
 |os,os2,n::a,b,h=>by
  cases h with
  |cons e h=>
   refine au (xW.split (a:=a) h) λos1 h1 h2=>?_;exact (aZ os1 (.cons e h1) h2)
noncomputable def rJ(l:List Int):Nat:=(l.filter λx=>decide (x<256)).length
theorem me(a b:List Int):rJ (a++b)=rJ a+rJ b:=by simp [rJ]
theorem gI(m:List Nat)(i:Nat):sg m i=7∨sg m i=8:=by
 unfold sg;split
 ·exact .inl rfl
 ·exact .inr rfl
theorem kZ(m:List Nat):∀f:Fm,rJ (f.pre m)=f.pl.length
 | .at i=>by
  rcases gI m i with h|h<;>simp [Fm.pre,Fm.pl,rJ,h]
 | .bin p l r=>by
  have h:rJ ((if p then (274:Int) else 272)::(l.pre m++r.pre m))=rJ (l.pre m++r.pre m):=by
   cases p<;>simp [rJ]
  simp only [Fm.pre,Fm.pl,be];refine rA h ?_;refine rA (me _ _) ?_;refine rA (kZ m l) ?_;exact rA (kZ m r) rfl
theorem DY(m:List Nat)(f:Fm):∃a ds,f.enc m=.tuple (a::.list (nL f.pl)::ds):=by
 cases f with
 |«at» i=>exact (jN _ ([]) rfl)
 |bin p l r=>exact (jN _ _ rfl)
theorem pO{F:Fm}(hf:f ρ μ=some (.d (F.enc m),μ)):aF f (kI 1) ρ μ=some (.d (.list (nL F.pl)),μ):=by
 refine lP (DY m F) λa ds e=>?_;rw [e] at hf
 refine cJ (k:=1) hf rfl (xs:=a::.list (nL F.pl)::ds) rfl (by decide) rfl ?_;cases F with
 |«at» i=>cases e;exact aa (by simp)
 |bin p l r=>cases e;exact aa (by simp)
noncomputable def gX(μ:List ah)(i j:Nat)(os td:List Int):List ah:=(μ.set i (.iter (iL os))).set j (.live (iL td))
section
variable {td os' td':List Int}
theorem X_(hi:i<μ.length)(hij:i≠j):(gX μ i j os td)[i]? =some (.iter (iL os)):=by
 unfold gX;rw [Lw hij.symm,MF hi]
theorem Ql(hj:j<μ.length):(gX μ i j os td)[j]? =some (.live (iL td)):=by
 unfold gX;rw [MF (by simpa using hj)]
theorem SY(hij:i≠j):(gX μ i j os td).set i (.iter (iL os'))=gX μ i j os' td:=by
 unfold gX;refine rA (Rn _ _ hij.symm) ?_;exact rA (HA _) rfl
theorem VK:(gX μ i j os td).set j (.live (iL td'))=gX μ i j os td':=by
 unfold gX;exact rA (HA _) rfl
theorem kO:(gX μ i j os td).length=μ.length:=by simp [gX]
end
noncomputable def oL(i j:Nat)(n l r:Option AV):d5:=[some (.c i),some (.c j),n,l,r]
theorem lI(a b:List Int):iL a++iL b=iL (a++b):=by simp [iL]
theorem Wj{b:Bool}(h:f ρ μ=some (.d (.bool b),μ)):gf f ρ μ=some (b,μ):=(b5 h).trans (bU rfl)
theorem Ga{n:Int}(h:a9 k ρ μ=some (.d (.int n),μ)):gf (af [a9 k] fy) ρ μ=some (n==0,μ):=by
 exact Wj (d6 h s63)
theorem Qv{n:Int}(h:a9 k ρ μ=some (.d (.int n),μ)):gf (af [a9 k] bR) ρ μ=some (decide (256≤n),μ):=by
 exact Wj (d6 h s62)
theorem Ye{n:Int}(h:a9 k ρ μ=some (.d (.int n),μ)):gf (af [a9 k] co) ρ μ=some (decide (n<256),μ):=by
 exact Wj (d6 h s61)
noncomputable def tmD:PyData→Bool
 | .int y=>decide (y<256)
 |_=>false
theorem OJ(l:List Int):((iL l).filter tmD).length=rJ l:=by
 unfold rJ iL;refine rA OD ?_;refine rA (xO _) ?_;rfl
theorem rl{s:a_}{os1 td:List Int}{n:Int}(hi:i<μ.length)(hj:j<μ.length)(hij:i≠j)(h:rd os=some (n,os1))(hz:td.length≤100000):
  ap (v_ s) (ap (xG s) (ap (lh s) (ap (oR s) (ap (sK s) aP)))) (cF (ao (ay 68)) [.c i,.c j]) (gX μ i j os td)
   =ap (lh s) (ap (oR s) (ap (sK s) aP)) (oL i j (some (.d (.int n))) none none) (gX μ i j os1 (td++[n])):=by
 have e0:v_ s (cF (ao (ay 68)) [.c i,.c j]) (gX μ i j os td)=some (.next,oL i j (some (.d (.int n))) none none,gX μ i j os1 td):=by
  unfold v_;refine rA (bO (d6 (f:=a9 0) (V:=.c i) rfl (s8 (X_ hi hij) h))) ?_;refine rA (SY hij) ?_;rfl
 have e1:xG s (oL i j (some (.d (.int n))) none none) (gX μ i j os1 td)=some (.next,oL i j (some (.d (.int n))) none none,gX μ i j os1 (td++[n])):=by
  unfold xG;refine rA (er (gj (j:=j) (d:=.int n) (xs:=iL td) rfl rfl (Ql hj) (by rw [xO];exact aa hz))) ?_;refine rA (show iL td++[F8 n]=iL (td++[n]) by simp [iL]) ?_;exact rA VK rfl
 exact (aB e0).trans (aB e1)
set_option tactic.hygienic true in
theorem s68(hi:i<μ.length)(hj:j<μ.length)(hij:i≠j)(m:List Nat):∀ (F:Fm) (k:Nat) (os os' td:List Int),F.ht≤k→xW os (F.pre m) os'→F.pl=Ff (rJ td) F.pl.length→td.length+(F.pre m).length≤1000→
  wT k [.c i,.c j] (gX μ i j os td)=some (.d (F.enc m),gX μ i j os' (td++F.pre m))
 |F,0,os,os',td,hk,_,_,_=>by cases F<;>simp [Fm.ht] at hk
 | .at p,k+1,os,os',td,hk,h,hp,hz=>by
  cases h with
  |cons e h=>
  cases h;have hz':td.length+1≤1000:=by simpa [Fm.pre] using hz
  have hpp:p=rJ td:=by simpa [Fm.pl] using hp
  have hsg:=gI m p;have e2:lh (wT k) (oL i j (some (.d (.int (sg m p)))) none none) (gX μ i j os' (td++[sg m p]))=some (.next,oL i j (some (.d (.int (sg m p)))) none none,gX μ i j os' (td++[sg m p])):=by
   unfold lh;exact (gS (Ga (n:=sg m p) rfl) (by rcases hsg with q|q<;>rw [q]<;>rfl)).trans bK
  have e3:oR (wT k) (oL i j (some (.d (.int (sg m p)))) none none) (gX μ i j os' (td++[sg m p]))=some (.next,oL i j (some (.d (.int (sg m p)))) none none,gX μ i j os' (td++[sg m p])):=by
   unfold oR;exact (gS (Qv (n:=sg m p) rfl) (by rcases hsg with q|q<;>rw [q]<;>rfl)).trans bK
  have e4:sK (wT k) (oL i j (some (.d (.int (sg m p)))) none none) (gX μ i j os' (td++[sg m p]))=some (.ret (.d (.tuple [.int (sg m p),.list [.int p]])),oL i j (some (.d (.int (sg m p)))) none none,gX μ i j os' (td++[sg m p])):=by
   have hpk:dc (gX μ i j os' (td++[sg m p])) (.c j)=some (iL (td++[sg m p])):=eR (Ql hj);have hc:=jd (sc:=vb) (itf:=aK false (a9 1)) (t:=gf (af [a9 5] co)) (e:=a9 5) (ρ:=oL i j (some (.d (.int (sg m p)))) none none) (μ:=gX μ i j os' (td++[sg m p])) 5 tmD id (d9 (V:=.c j) rfl hpk) (λj' e=>by refine cC e ?_;exact hpk) (λx hx=>by
    refine au (DT.mp hx) λy zz zq2=>?_;subst zq2;exact Ye (n:=y) rfl) (λx zz zz=>rfl) (by refine rA (xO _) ?_;refine rA be ?_;exact aa (by simp;lia))
   have hlen:=gG (f:=ce vb (aK false (a9 1)) (dz 5) (cX (gf (af [a9 5] co)) (aY (a9 5)))) (bY hc) rfl (by
    refine rA (xO _) ?_;exact aa (L3 (Hf ..) (by refine rA (xO _) ?_;refine rA be ?_;simp;lia)))
   have hl2:=cW (o:= λx y=>some (x-y)) hlen (rfl:kI 1 _ _=some (.d (.int 1),_)) rfl;have hn:((((iL (td++[sg m p])).filter tmD).map id).length:Int)-1=p:=by
    have:rJ [sg m p]=1:=by rcases hsg with q|q<;>rw [q]<;>rfl
    refine rA (xO _) ?_;refine rA (OJ _) ?_;refine rA (me _ _) ?_;refine rA this ?_;refine rA hpp ?_;lia
   rw [hn] at hl2
   have ht:=d8 (ds:=[.int (sg m p),.list [.int p]]) (an (f:=a9 2) (V:=.d (.int (sg m p))) (ρ:=oL i j (some (.d (.int (sg m p)))) none none) (μ:=gX μ i j os' (td++[sg m p])) rfl (an (kt hl2) bX)) (aa (xM rfl));unfold sK;exact dZ ht
  have:f68 (wT k) (cF (ao (ay 68)) [.c i,.c j]) (gX μ i j os td)=some (.ret (.d (.tuple [.int (sg m p),.list [.int p]])),oL i j (some (.d (.int (sg m p)))) none none,gX μ i j os' (td++[sg m p])):=by
   unfold f68;exact (rl hi hj hij e (by omega)).trans ((aB e2).trans ((aB e3).trans (cV e4)))
  refine (?_:cA 2 _ _ _ _=_);refine rA (d0 (k:=2) rfl this) ?_;refine rA (Fn (by rw [kO,kO];exact DU _)) ?_;rfl
 | .bin p l r,k+1,os,os',td,hk,h,hp,hz=>by
  have hk':l.ht≤k∧r.ht≤k:=by simp only [Fm.ht] at hk;lia
  cases h with
  |cons e h=>
  rename_i os1;refine au h.split λos2 hl hr=>?_;have hn:(if p then (274:Int) else 272)=274∨(if p then (274:Int) else 272)=272:=by cases p<;>simp
  generalize hN:(if p then (274:Int) else 272)=N at e hn
  simp only [Fm.pre,AH,be,hN] at hz
  have htn:rJ (td++[N])=rJ td:=by
   refine rA (me _ _) ?_
   rcases hn with q|q<;>rw [q]<;>rfl
  simp only [Fm.pl,be] at hp
  rw [←List.range'_append] at hp
  refine f_ (UD hp (by simp)) λhpl hpr=>?_;have il:=s68 hi hj hij m l k _ os2 (td++[N]) hk'.1 hl (by refine rA htn ?_;exact hpl) (by refine rA be ?_;refine rA Gb ?_;lia);have htl:rJ (td++[N]++l.pre m)=rJ td+l.pl.length:=by refine rA (me _ _) ?_;refine rA htn ?_;exact rA (kZ _ _) rfl
  have ir:=s68 hi hj hij m r k os2 os' (td++[N]++l.pre m) hk'.2 hr (by refine rA htl ?_;simpa using hpr) (by simp only [be,Gb];lia);have e2:∀ (μ0:List ah),lh (wT k) (oL i j (some (.d (.int N))) none none) μ0=some (.next,oL i j (some (.d (.int N))) none none,μ0):= λμ0=>by
   unfold lh;exact (gS (Ga (n:=N) rfl) (by rcases hn with q|q<;>rw [q]<;>rfl)).trans bK
  have hlz:(nL l.pl).length≤1000∧(nL r.pl).length≤1000:=by
   have h1:=kZ m l;have h2:=kZ m r;have h3:rJ (l.pre m)≤(l.pre m).length:=Hf ..;have h4:rJ (r.pre m)≤(r.pre m).length:=Hf ..;simp only [nL,xO];lia
  have hv:(Jy [.int (N-256),.list (nL l.pl++nL r.pl),l.enc m,r.enc m])=(Fm.bin p l r).enc m:=by
   simp only [Fm.enc];refine rA (show N-256=(if p then (18:Int) else 16) by rw [←hN];cases p<;>rfl) ?_;exact rA (show nL (l.pl++r.pl)=nL l.pl++nL r.pl by simp [nL]) rfl
  have e3:oR (wT k) (oL i j (some (.d (.int N))) none none) (gX μ i j os1 (td++[N]))=some (.ret (.d ((Fm.bin p l r).enc m)),oL i j (some (.d (.int N))) (some (.d (l.enc m))) (some (.d (r.enc m))),gX μ i j os' (td++[N]++l.pre m++r.pre m)):=by
   unfold oR;refine (gC (Qv (n:=N) rfl) (by rcases hn with q|q<;>rw [q]<;>rfl)).trans ?_;have a1:cb 3 (af [a9 0,a9 1] (wT k)) (oL i j (some (.d (.int N))) none none) (gX μ i j os1 (td++[N]))=some (.next,oL i j (some (.d (.int N))) (some (.d (l.enc m))) none,gX μ i j os2 (td++[N]++l.pre m)):=by
    exact (bO (iR (f:=a9 0) (g:=a9 1) (V:=.c i) (V':=.c j) rfl rfl il)).trans rfl
   have a2:cb 4 (af [a9 0,a9 1] (wT k)) (oL i j (some (.d (.int N))) (some (.d (l.enc m))) none) (gX μ i j os2 (td++[N]++l.pre m))=some (.next,oL i j (some (.d (.int N))) (some (.d (l.enc m))) (some (.d (r.enc m))),gX μ i j os' (td++[N]++l.pre m++r.pre m)):=by
    exact (bO (iR (f:=a9 0) (g:=a9 1) (V:=.c i) (V':=.c j) rfl rfl ir)).trans rfl
   refine (aB a1).trans ((aB a2).trans ?_);have ht:=d8 (ds:=[.int (N-256),.list (nL l.pl++nL r.pl),l.enc m,r.enc m]) (ρ:=oL i j (some (.d (.int N))) (some (.d (l.enc m))) (some (.d (r.enc m)))) (μ:=gX μ i j os' (td++[N]++l.pre m++r.pre m))
    (an (cW (f:=a9 2) (g:=kI 256) (o:= λx y=>some (x-y)) (x:=N) rfl rfl rfl) (an (cU (pO (f:=a9 3) (F:=l) rfl) (pO (f:=a9 4) (F:=r) rfl) rfl rfl (aa (by lia))) (an (f:=a9 3) (V:=.d (l.enc m)) rfl (an (f:=a9 4) (V:=.d (r.enc m)) rfl bX)))) (aa (xM rfl))
   rw [hv] at ht
   exact cV (dZ ht)
  have:f68 (wT k) (cF (ao (ay 68)) [.c i,.c j]) (gX μ i j os td)=some (.ret (.d ((Fm.bin p l r).enc m)),oL i j (some (.d (.int N))) (some (.d (l.enc m))) (some (.d (r.enc m))),gX μ i j os' (td++[N]++l.pre m++r.pre m)):=by
   unfold f68;exact (rl hi hj hij e (by omega)).trans ((aB (e2 _)).trans (cV e3))
  refine (?_:cA 2 _ _ _ _=_);refine rA (d0 (k:=2) rfl this) ?_;refine rA (Fn (by rw [kO,kO];exact DU _)) ?_;simp only [Fm.pre,hN,Eu,L7,Ls]
variable {F l r : Fm} {B : List Fm} {rc : List Fm → Bool}
structure Jn where
 par:Bool
 nd:Nat
 a:Nat
 b:Nat
def Jn.enc(x:Jn):PyData:=.tuple [.int (if x.par then 18 else 16),.int x.nd,.int x.a,.int x.b]
noncomputable def gr:Fm→Nat→Nat×List Jn
 | .at i,_=>(i,[])
 | .bin p l r,n=>
  let x:=gr l n
  let y:=gr r (n+x.2.length)
  (6+(n+x.2.length+y.2.length),x.2++y.2++[⟨p,6+(n+x.2.length+y.2.length),x.1,y.1⟩])
theorem K6:gr (.at i) n=(i,[]):=rfl
theorem zZ{p:Bool}:gr (.bin p l r) n=(6+(n+(gr l n).2.length+(gr r (n+(gr l n).2.length)).2.length),(gr l n).2++(gr r (n+(gr l n).2.length)).2++[⟨p,6+(n+(gr l n).2.length+(gr r (n+(gr l n).2.length)).2.length),(gr l n).1,(gr r (n+(gr l n).2.length)).1⟩]):=rfl
noncomputable def jL(l:List Jn):List PyData:=l.map Jn.enc
noncomputable def rR(F:PyData)(j:Nat)(l r:Option AV):d5:=[some (.d F),some (.c j),l,r]
theorem u_(hc:μ[j]? =some (.live xs)):v7 μ (.c j)=some xs:=eR hc
theorem VZ{J:List Jn}(hk:a9 k ρ μ=some (.c j,μ))(hc:μ[j]? =some (.live (jL J)))(hz:J.length≤1000):af [a9 k] dC ρ μ=some (.d (.int J.length),μ):=by
 have:=gG hk (u_ hc) (by rw [jL];refine rA (xO _) ?_;exact aa (by lia))
 refine rA this ?_;rw [jL];exact rA (xO _) rfl
theorem tI(k:Nat)(hf:f ρ μ=some (.d (.tuple xs),μ))(h1:1≤k)(h2:k≤xs.length)(hz:xs.length≤sizeLine):ci f (aL (kI k)) ba ρ μ=some (.d (.tuple (xs.drop k)),μ):=
 (b5 hf).trans ((b5 (rfl:aL (kI k) ρ μ=some (some (k:Int),μ))).trans ((b5 (rfl:ba ρ μ=some (none,μ))).trans (if_pos (by lia))))
theorem pC{e:EF}(h:e ρ μ=some (.d d,μ1))(acc:List PyData)(hz:acc.length≤sizeLine):cX bg (aY e) ρ μ acc=some (ρ,μ1,acc++[d]):=
 (show aY e ρ μ acc=some (ρ,μ1,acc++[d]) from (b5 h).trans ((b5 (rfl:xz (.d d) μ1=some (d,μ1))).trans (if_pos hz)))
theorem s71(m:List Nat):∀ (F:Fm) (k:Nat) (μ:List ah) (J:List Jn),F.ht≤k→μ[j]? =some (.live (jL J))→J.length+(gr F J.length).2.length≤1000→
  Fi k [.d (F.enc m),.c j] μ=some (.d (.int (gr F J.length).1),μ.set j (.live (jL (J++(gr F J.length).2))))
 |F,0,μ,J,hk,_,_=>by cases F<;>simp [Fm.ht] at hk
 | .at p,k+1,μ,J,hk,hc,hz=>by
  have e0:sr (Fi k) (rR ((Fm.at p).enc m) j none none) μ=some (.ret (.d (.int p)),rR ((Fm.at p).enc m) j none none,μ):=by
   have ht:bA (af [a9 0] dC) (kI 2) dK (rR ((Fm.at p).enc m) j none none) μ=some (true,μ):=by
    exact dH (gG (f:=a9 0) (xs:=[.int (sg m p),.list [.int p]]) rfl rfl (aa (xM rfl))) rfl rfl
   have hi:=cJ (f:=aF (a9 0) (kI 1)) (g:=kI 0) (k:=0) (xs:=[.int p]) (d:=.int p) (ρ:=rR ((Fm.at p).enc m) j none none) (μ:=μ) (cJ (f:=a9 0) (g:=kI 1) (k:=1) (xs:=[.int (sg m p),.list [.int p]]) rfl rfl rfl (by decide) rfl (aa (xM rfl))) rfl rfl (by decide) rfl (aa (xM rfl));unfold sr;exact (Ao ht).trans (cV (dZ hi))
  have:f71 (Fi k) (cF (ao (ay 71)) [.d ((Fm.at p).enc m),.c j]) μ=some (.ret (.d (.int p)),rR ((Fm.at p).enc m) j none none,μ):=by
   unfold f71;exact cV e0
  refine (?_:cA 2 _ _ _ _=_);refine rA (d0 (k:=2) rfl this) ?_;refine rA (Fn (DU _)) ?_;simp only [K6,DO];exact rA (eK hc) rfl
 | .bin p l r,k+1,μ,J,hk,hc,hz=>by
  have hk':l.ht≤k∧r.ht≤k:=by simp only [Fm.ht] at hk;lia
  have hlt:j<μ.length:=(BW.mp hc).1;simp only [zZ,be,Gb] at hz
  generalize hx:gr l J.length=x at hz
  generalize hy:gr r (J.length+x.2.length)=y at hz
  have il:=s71 m l k μ J hk'.1 hc (by refine rA hx ?_;lia);rw [hx] at il
  have ir:=s71 m r k (μ.set j (.live (jL (J++x.2)))) (J++x.2) hk'.2 (cB hlt) (by refine rA be ?_;refine rA hy ?_;lia);rw [be,hy,HA] at ir
  have e0:sr (Fi k) (rR ((Fm.bin p l r).enc m) j none none) μ=some (.next,rR ((Fm.bin p l r).enc m) j none none,μ):=by
   have ht:bA (af [a9 0] dC) (kI 2) dK (rR ((Fm.bin p l r).enc m) j none none) μ=some (false,μ):=by
    exact dH (gG (f:=a9 0) (xs:=[.int (if p then 18 else 16),.list (nL (l.pl++r.pl)),l.enc m,r.enc m]) rfl rfl (aa (xM rfl))) rfl rfl
   unfold sr;exact (D0 ht).trans bK
  have e1:Ih (Fi k) (rR ((Fm.bin p l r).enc m) j none none) μ=some (.next,rR ((Fm.bin p l r).enc m) j (some (.d (.int x.1))) (some (.d (.int y.1))),μ.set j (.live (jL (J++x.2++y.2)))):=by
   have hs:aK false (ci (a9 0) (aL (kI 2)) ba) (rR ((Fm.bin p l r).enc m) j none none) μ=some ([l.enc m,r.enc m],none,μ):=
    l_ (tI (xs:=[.int (if p then 18 else 16),.list (nL (l.pl++r.pl)),l.enc m,r.enc m]) 2 rfl (by decide) (by simp) (aa (xM rfl)))
   have c1:=pC (iR (f:=a9 4) (g:=a9 1) (V:=.d (l.enc m)) (V':=.c j) (ρ:=(bG pX (rR ((Fm.bin p l r).enc m) j none none)).set 4 (some (.d (l.enc m)))) rfl rfl il) [] (aa (xM rfl));have c2:=pC (iR (f:=a9 4) (g:=a9 1) (V:=.d (r.enc m)) (V':=.c j) (ρ:=((bG pX (rR ((Fm.bin p l r).enc m) j none none)).set 4 (some (.d (l.enc m)))).set 4 (some (.d (r.enc m)))) rfl rfl ir) ([]++[.int x.1]) (aa (xM rfl));have hc:fj pX (aK false (ci (a9 0) (aL (kI 2)) ba)) (dz 4) (cX bg (aY (af [a9 4,a9 1] (Fi k)))) (rR ((Fm.bin p l r).enc m) j none none) μ=some ([.int x.1,.int y.1],μ.set j (.live (jL (J++x.2++y.2)))):=by
    exact qf hs ((pE rfl c1 (az _ _)).trans (pE rfl c2 (az _ _)))
   exact TN (bY hc)
  have hJ:(μ.set j (.live (jL (J++x.2++y.2))))[j]? =some (.live (jL (J++x.2++y.2))):=cB hlt;have hjl:(J++x.2++y.2).length≤1000:=by simp only [be];lia
  have hnd:(6:Int)+((J++x.2++y.2).length:Nat)=((6+(J.length+x.2.length+y.2.length):Nat):Int):=by simp only [be];push_cast;lia
  have e2:AR (Fi k) (rR ((Fm.bin p l r).enc m) j (some (.d (.int x.1))) (some (.d (.int y.1)))) (μ.set j (.live (jL (J++x.2++y.2))))=some (.next,rR ((Fm.bin p l r).enc m) j (some (.d (.int x.1))) (some (.d (.int y.1))),
    μ.set j (.live (jL (J++(x.2++y.2++[⟨p,6+(J.length+x.2.length+y.2.length),x.1,y.1⟩]))))):=by
   have ht:=d8 (ds:=[.int (if p then 18 else 16),.int (6+((J++x.2++y.2).length:Nat)),.int x.1,.int y.1]) (ρ:=rR ((Fm.bin p l r).enc m) j (some (.d (.int x.1))) (some (.d (.int y.1)))) (μ:=μ.set j (.live (jL (J++x.2++y.2))))
    (an (cJ (f:=a9 0) (g:=kI 0) (k:=0) (xs:=[.int (if p then 18 else 16),.list (nL (l.pl++r.pl)),l.enc m,r.enc m]) rfl rfl rfl (by decide) rfl (aa (xM rfl))) (an (cT (f:=kI 6) rfl (VZ (k:=1) rfl hJ hjl)) (an (f:=a9 2) (V:=.d (.int x.1)) rfl (an (f:=a9 3) (V:=.d (.int y.1)) rfl bX)))) (aa (xM rfl))
   unfold AR;refine rA (er (gj (f:=a9 1) (j:=j) rfl ht hJ (by rw [jL,xO];exact aa (by omega)))) ?_;refine rA (HA _) ?_;refine rA hnd ?_
   simp [jL,Jn.enc]
  have hJ2:(μ.set j (.live (jL (J++(x.2++y.2++[⟨p,6+(J.length+x.2.length+y.2.length),x.1,y.1⟩])))))[j]? =some (.live (jL (J++(x.2++y.2++[⟨p,6+(J.length+x.2.length+y.2.length),x.1,y.1⟩])))):=cB hlt;have e3:JZ (Fi k) (rR ((Fm.bin p l r).enc m) j (some (.d (.int x.1))) (some (.d (.int y.1)))) (μ.set j (.live (jL (J++(x.2++y.2++[⟨p,6+(J.length+x.2.length+y.2.length),x.1,y.1⟩])))))=some (.ret (.d (.int ((6+(J.length+x.2.length+y.2.length):Nat):Int))),rR ((Fm.bin p l r).enc m) j (some (.d (.int x.1))) (some (.d (.int y.1))),
    μ.set j (.live (jL (J++(x.2++y.2++[⟨p,6+(J.length+x.2.length+y.2.length),x.1,y.1⟩]))))):=by
   have h5:=cT (f:=kI 5) (x:=5) (ρ:=rR ((Fm.bin p l r).enc m) j (some (.d (.int x.1))) (some (.d (.int y.1)))) rfl (VZ (k:=1) rfl hJ2 (by simp only [be,Gb];lia));exact (dZ h5).trans (congrArg (λz=>some (Fl.ret (.d (.int z)),_,_)) (show (5:Int)+((J++(x.2++y.2++[(⟨p,6+(J.length+x.2.length+y.2.length),x.1,y.1⟩:Jn)])).length:Nat)=((6+(J.length+x.2.length+y.2.length):Nat):Int) by simp only [be,Gb];push_cast;lia))
  have:f71 (Fi k) (cF (ao (ay 71)) [.d ((Fm.bin p l r).enc m),.c j]) μ=some (.ret (.d (.int ((6+(J.length+x.2.length+y.2.length):Nat):Int))),rR ((Fm.bin p l r).enc m) j (some (.d (.int x.1))) (some (.d (.int y.1))),
    μ.set j (.live (jL (J++(x.2++y.2++[⟨p,6+(J.length+x.2.length+y.2.length),x.1,y.1⟩]))))):=by
   exact (aB e0).trans ((aB e1).trans ((aB e2).trans (cV e3)))
  refine (?_:cA 2 _ _ _ _=_);refine rA (d0 (k:=2) rfl this) ?_;refine rA (Fn (by simp)) ?_;simp only [zZ,hx,hy]
variable {J S : List Jn}
noncomputable def di:List Nat→List (Nat×Nat)→List Nat
 |ls,[]=>ls
 |ls,(a,b)::r=>if ls.getD a 0=ls.getD b 0 then [] else di (ls.map λx=>if x=ls.getD b 0 then ls.getD a 0 else x) r
theorem C4{l:List Nat}{a:Nat}{r:List (Nat×Nat)}:di l ((a,b)::r)=if l.getD a 0=l.getD b 0 then [] else di (l.map λx=>if x=l.getD b 0 then l.getD a 0 else x) r:=rfl
noncomputable def eL(es:List (Nat×Nat)):List PyData:=es.map λp=>.tuple [.int p.1,.int p.2]
noncomputable def xa(ls:List Nat)(E:List PyData)(o t:Option AV):d5:=[some (.d (.list (nL ls))),some (.d (.list E)),o,t]
theorem tQ{a:Nat}(h:a<ls.length):(nL ls)[a]? =some (.int (ls.getD a 0)):=by
 simp [nL,G1,Ft h]
theorem Bo{a:Nat}(hf:f ρ μ=some (.d (.list (nL ls)),μ))(hg:g ρ μ=some (.d (.int a),μ))(h:a<ls.length)(hz:ls.length≤1000):aF f g ρ μ=some (.d (.int (ls.getD a 0)),μ):=
 cJ hf hg rfl (by lia) (by simpa using tQ h) (by rw [nL];refine rA (xO _) ?_;exact aa (by lia))
abbrev uU:SF:=(ap (jF (bA (aF (a9 0) (a9 2)) (aF (a9 0) (a9 3)) dK) (ap (ff (aU [])) aP) aP) (ap (cb 0 (ce pG (aK false (a9 0)) (dz 4) (cX bg (aY (dx (bA (a9 4) (aF (a9 0) (a9 3)) dK) (aF (a9 0) (a9 2)) (a9 4)))))) aP))
noncomputable def Oe(u v:Int):PyData→PyData
 | .int y=>.int (if y=u then v else y)
 |x=>x
theorem GE{u v:Int}:Oe u v (.int y)=.int (if y=u then v else y):=rfl
theorem R0{E:List PyData}{a:Nat}(h:a<ls.length)(hz:ls.length≤1000):aF (a9 0) (a9 2) (xa ls E (some (.d (.int a))) (some (.d (.int b)))) μ=some (.d (.int (ls.getD a 0)),μ):=Bo rfl rfl h hz
theorem RW{E:List PyData}{a:Nat}(h:b<ls.length)(hz:ls.length≤1000):aF (a9 0) (a9 3) (xa ls E (some (.d (.int a))) (some (.d (.int b)))) μ=some (.d (.int (ls.getD b 0)),μ):=Bo rfl rfl h hz
noncomputable def Hr(ls:List Nat)(E:List PyData)(a b:Nat)(y:Int):d5:=[some (.d (.list (nL ls))),some (.d (.list E)),some (.d (.int a)),some (.d (.int b)),some (.d (.int y))]
theorem VT{E:List PyData}{a:Nat}(h:a<ls.length)(hz:ls.length≤1000):aF (a9 0) (a9 2) (Hr ls E a b y) μ=some (.d (.int (ls.getD a 0)),μ):=Bo rfl rfl h hz
theorem VS{E:List PyData}{a:Nat}(h:b<ls.length)(hz:ls.length≤1000):aF (a9 0) (a9 3) (Hr ls E a b y) μ=some (.d (.int (ls.getD b 0)),μ):=Bo rfl rfl h hz
theorem CM{E:List PyData}{a:Nat}(ha:a<ls.length)(hb:b<ls.length)(hz:ls.length≤1000)(q:ls.getD a 0=ls.getD b 0):
  uU (xa ls E (some (.d (.int a))) (some (.d (.int b)))) μ=some (.ret (.d (.list [])),xa ls E (some (.d (.int a))) (some (.d (.int b))),μ):=by
 have hcmp:=o4 (R0 (E:=E) (b:=b) (μ:=μ) ha hz) (RW hb hz);rw [q,beq_self_eq_true] at hcmp
 exact cV ((Ao hcmp).trans (cV (dZ uB)))
theorem af8{E:List PyData}{a:Nat}(ha:a<ls.length)(hb:b<ls.length)(hz:ls.length≤1000):dx (bA (a9 4) (aF (a9 0) (a9 3)) dK) (aF (a9 0) (a9 2)) (a9 4) (Hr ls E a b y) μ=some (.d (Oe (ls.getD b 0) (ls.getD a 0) (.int y)),μ):=by
 have k3:bA (a9 4) (aF (a9 0) (a9 3)) dK (Hr ls E a b y) μ=some (y==(ls.getD b 0:Int),μ):=o4 rfl (VS hb hz);have k4:a9 4 (Hr ls E a b y) μ=some (.d (.int y),μ):=rfl
 by_cases z:y=(ls.getD b 0:Int)
 ·rw [show (y==(ls.getD b 0:Int))=true from beq_iff_eq.mpr z] at k3
  refine rA (xA k3) ?_;refine rA (VT ha hz) ?_;refine rA GE ?_;exact rA (if_pos z) rfl
 ·rw [show (y==(ls.getD b 0:Int))=false from beq_eq_false_iff_ne.mpr z] at k3
  refine rA (sV k3) ?_;refine rA k4 ?_;refine rA GE ?_;exact rA (if_neg z) rfl
theorem Yy(ls:List Nat)(u v:Nat):(nL ls).map (Oe u v)=nL (ls.map λx=>if x=u then v else x):=by
 simp only [nL,E_];refine FO λy zz=>?_;refine (?_:F8 (if (y:Int)=(u:Int) then (v:Int) else (y:Int))=F8 ((if y=u then v else y:Nat):Int))
 by_cases z:y=u
 ·refine rA (if_pos z) ?_;exact rA (if_pos (by rw [z])) rfl
 ·refine rA (if_neg z) ?_;exact rA (if_neg (λq=>z (by exact_mod_cast q))) rfl
theorem E7{E:List PyData}{a:Nat}(ha:a<ls.length)(hb:b<ls.length)(hz:ls.length≤1000)(q:¬ls.getD a 0=ls.getD b 0):
  uU (xa ls E (some (.d (.int a))) (some (.d (.int b)))) μ=some (.next,xa (ls.map λx=>if x=ls.getD b 0 then ls.getD a 0 else x) E (some (.d (.int a))) (some (.d (.int b))),μ):=by
 have hcmp:=o4 (R0 (E:=E) (b:=b) (μ:=μ) ha hz) (RW hb hz);rw [show ((ls.getD a 0:Int)==(ls.getD b 0:Int))=false from beq_eq_false_iff_ne.mpr λz=>q (by exact_mod_cast z)] at hcmp
 have hi:aK false (a9 0) (xa ls E (some (.d (.int a))) (some (.d (.int b)))) μ=some (nL ls,none,μ):=d9 (V:=.d (.list (nL ls))) rfl rfl;have hc:=ic (sc:=pG) (e:=dx (bA (a9 4) (aF (a9 0) (a9 3)) dK) (aF (a9 0) (a9 2)) (a9 4)) 4 (Oe (ls.getD b 0) (ls.getD a 0)) hi (az _ _) (λx hx=>by
  refine au (DT.mp hx) λy zz zq2=>?_;subst zq2;exact af8 ha hb hz) (by rw [nL];refine rA (xO _) ?_;exact aa (by lia))
 rw [Yy] at hc
 have hd:=bY hc;have ha:cb 0 (ce pG (aK false (a9 0)) (dz 4) (cX bg (aY (dx (bA (a9 4) (aF (a9 0) (a9 3)) dK) (aF (a9 0) (a9 2)) (a9 4))))) (xa ls E (some (.d (.int a))) (some (.d (.int b)))) μ=some (.next,xa (ls.map λx=>if x=ls.getD b 0 then ls.getD a 0 else x) E (some (.d (.int a))) (some (.d (.int b))),μ):=by
  exact bO hd
 exact (aB ((D0 hcmp).trans bK)).trans ((aB ha).trans bK)
theorem Sx(E:List PyData)(xs:List PyData)(μ:List ah):∀ (es:List (Nat×Nat)) (ls:List Nat) (o t:Option AV),ls.length≤1000→(∀p∈es,p.1<ls.length∧p.2<ls.length)→
  ∃ρ',ap (fR (j6 2 3) uU aP none xs (eL es)) (ap He aP) (xa ls E o t) μ=some (.ret (.d (.list (nL (di ls es)))),ρ',μ)
 | [],ls,o,t,hz,_=>⟨_,rfl⟩
 | (a,b)::es,ls,o,t,hz,hp=>by
  refine f_ (hp (a,b) (by simp)) λha hb=>?_;have htf:j6 2 3 (xa ls E o t) (.tuple [.int a,.int b])=some (xa ls E (some (.d (.int a))) (some (.d (.int b)))):=rfl
  by_cases q:ls.getD a 0=ls.getD b 0
  ·refine ⟨xa ls E (some (.d (.int a))) (some (.d (.int b))),?_⟩
   refine rA C4 ?_;refine rA (if_pos q) ?_;exact cV (qd htf (CM ha hb hz q))
  ·refine bP (Sx E xs μ es (ls.map λx=>if x=ls.getD b 0 then ls.getD a 0 else x) (some (.d (.int a))) (some (.d (.int b))) (by simpa using hz) (λp hp'=>by simpa using hp p (D1 _ hp'))) λρ' ih=>?_
   refine ⟨ρ',?_⟩;refine rA C4 ?_;refine rA (if_neg q) ?_;refine rB ih ?_;rw [ap,ap];refine rA (show eL ((a,b)::es)=.tuple [.int a,.int b]::eL es from rfl) ?_;rw [dP htf (E7 ha hb hz q) (az _ _)]
theorem s72{es:List (Nat×Nat)}(hz:ls.length≤1000)(hp:∀p∈es,p.1<ls.length∧p.2<ls.length):df [.d (.list (nL ls)),.d (.list (eL es))] μ=some (.d (.list (nL (di ls es))),μ):=by
 refine bP (Sx (eL es) (eL es) μ es ls none none hz hp) λρ' h=>?_;have hi:aK true (a9 1) (xa ls (eL es) none none) μ=some (eL es,none,μ):=Bd (V:=.d (.list (eL es))) rfl rfl (rf λzz=>⟨_,rfl⟩)
 have:f72 (cF (ao (ay 72)) [.d (.list (nL ls)),.d (.list (eL es))]) μ=some (.ret (.d (.list (nL (di ls es)))),ρ',μ):=by
  refine rB h ?_;refine rA (show cF (ao (ay 72)) [.d (.list (nL ls)),.d (.list (eL es))]=xa ls (eL es) none none from rfl) ?_;unfold f72;rw [ap,ap]
  have:BR (xa ls (eL es) none none) μ=fR (j6 2 3) uU aP none (eL es) (eL es) (xa ls (eL es) none none) μ:=by
   unfold BR jK;exact rA hi rfl
  exact rA this rfl
 unfold df;refine rA (d0 (k:=2) rfl this) ?_;exact rA (Fn (DU _)) rfl
theorem RF(hij:i≠j)(ρ0:d5)(u v:Option AV):Y8 (j6 i j) ρ0 ((ρ0.set i u).set j v):= λy=>by
 refine congrArg (bp ((dT y).bind l2)) (funext λa=>funext λb=>?_);rw [Rn _ _ hij.symm,HA,HA]
theorem fI{X Y:Type}(f:X→Y)(l:List X):l.flatMap (λx=>[f x])=l.map f:=by
 induction l with
 |nil=>rfl
 |cons x l ih=>refine rA Fs ?_;refine rA ih ?_;rfl
theorem Br{X Y:Type}(p:X→Bool)(f:X→Y)(l:List X):l.flatMap (λx=>if p x then [f x] else [])=(l.filter p).map f:=by
 induction l with
 |nil=>rfl
 |cons x l ih=>
  refine rA Fs ?_;refine rA ih ?_;refine rA KT ?_
  split<;>simp
theorem t8{e:EF}{g:Option Nat}(i j:Nat)(hij:i≠j)(f:PyData→PyData)(hi:itf ρ μ=some (xs,g,μ1))(hg:cy g xs μ1)
  (h:∀x∈xs,∃a b,x=.tuple [a,b]∧e (((bG sc ρ).set i (some (.d a))).set j (some (.d b))) μ1=some (.d (f x),μ1)) (hz:xs.length≤sizeLine):fj sc itf (j6 i j) (cX bg (aY e)) ρ μ=some (xs.map f,μ1):=by
 have:=lX (sc:=sc) (tf:=j6 i j) (cf:=cX bg (aY e)) hi hg (λx=>[f x]) (λx hx acc=>by
  refine jS (h x hx) λa b zq2 he=>?_;subst zq2;exact (dy _ _ rfl (λhz=>pq he acc (by simpa using hz)) (RF hij _ _ _))) (by refine rA (fI _ _) ?_;refine rA (xO _) ?_;exact hz)
 refine rA this ?_;exact rA (fI _ _) rfl
theorem rL{e:EF}{g:Option Nat}(i j:Nat)(hij:i≠j)(p:PyData→Bool)(f:PyData→PyData)(hi:itf ρ μ=some (xs,g,μ1))(hg:cy g xs μ1)
  (h:∀x∈xs,∃a b,x=.tuple [a,b]∧t (((bG sc ρ).set i (some (.d a))).set j (some (.d b))) μ1=some (p x,μ1)∧(p x=true→e (((bG sc ρ).set i (some (.d a))).set j (some (.d b))) μ1=some (.d (f x),μ1))) (hz:xs.length≤sizeLine):fj sc itf (j6 i j) (cX t (aY e)) ρ μ=some ((xs.filter p).map f,μ1):=by
 have:=lX (sc:=sc) (tf:=j6 i j) (cf:=cX t (aY e)) hi hg (λx=>if p x then [f x] else []) (λx hx acc=>by
  refine bm (h x hx) λa b zq2 ht he=>?_;subst zq2;exact (dy _ _ rfl (λhz=>Bz ht he acc hz) (RF hij _ _ _))) (by
   refine rA (Br _ _ _) ?_;refine rA (xO _) ?_;exact L3 (Hf ..) hz)
 refine rA this ?_;exact rA (Br _ _ _) rfl
theorem jV(hf:f ρ μ=some (V,μ))(h:xz V μ=some (.list xs,μ1)):b_ [f] ga ρ μ=some (cN 0 xs,none,μ1):=by
 exact (b5 (vC hf)).trans ((bU (rfl:l1 [V]=some V)).trans (b5 h))
theorem fk{x:Int}(h:y≠0):cu x y=some (x.fmod y):=if_neg h
theorem l6{x:Int}(h:¬(y=0∨2^64≤y.natAbs)):cQ x y=some (x.fdiv y):=if_neg h
theorem CE(hf:f ρ μ=some (.d (.list xs),μ))(hg:g ρ μ=some (.d (.int y),μ))(h:xs.length*y.toNat≤16777216∧y.natAbs<9223372036854775808):aj f g l9 ρ μ=some (.d (.list (nu xs y.toNat)),μ):=by
 have e24:(2:Nat)^24=16777216:=by decide
 have e63:(2:Nat)^63=9223372036854775808:=by decide
 exact rF hf hg ((bU (rfl:jM (.d (.int y))=some y)).trans ((eZ (rfl:jM (.d (.list xs))=none)).trans ((bU (rfl:dc μ (.d (.list xs))=some xs)).trans (if_pos (by rw [e24,e63];exact h)))))
noncomputable def r5(n:Int):List Int:=(([5,4,3,2,1]:List Int).filter λh=>decide (64^h.toNat≤n)).map (λh=>(n.fdiv (64^h.toNat)).fmod 64+64)++[n.fmod 64]
noncomputable def zy(cs:List Int)(k:Nat):Nat:=(((cs.getD (k%6) 0).fdiv 420).fmod 3).toNat
noncomputable def gq(cs:List Int):Nat→List Int→List Int
 |_,[]=>[]
 |k,n::ns=>(GW (zy cs k) 64++r5 n)++gq cs (k+1) ns
noncomputable def sb(ns cs:List Int)(T:Int)(j:Nat)(a b:Option AV):d5:=[some (.d (.list (iL ns))),some (.d (.list (iL cs))),some (.d (.int T)),some (.c j),a,b]
theorem Qi(h:Int)(hh:h∈([5,4,3,2,1]:List Int)):gu 64 h=some (64^h.toNat)∧¬((64:Int)^h.toNat=0∨2^64≤((64:Int)^h.toNat).natAbs):=by
 simp only [Cc,Er,or_false] at hh
 rcases hh with rfl|rfl|rfl|rfl|rfl<;>exact ⟨by decide,by decide⟩
theorem Sk:∀k:Nat,nu [.int 64] k=iL (GW k 64)
 |0=>rfl
 |k+1=>by rw [nu];refine rA (Sk k) ?_;rfl
abbrev Yu:EF:=aj (aU [kI 64]) (aj (aj (aF (a9 1) (aj (a9 4) (kI 6) (aS cu))) (kI 420) (aS cQ)) (kI 3) (aS cu)) l9
abbrev YC:TF:=bA (a9 5) (aj (kI 64) (a9 6) (aS gu)) (eg λx y=>decide (y≤x))
abbrev Yj:EF:=aj (aj (aj (a9 5) (aj (kI 64) (a9 6) (aS gu)) (aS cQ)) (kI 64) (aS cu)) (kI 64) aT
abbrev YD:EF:=aj (ce qi (aK false (aU [(kI 5),(kI 4),(kI 3),(kI 2),(kI 1)])) (dz 6) (cX YC (aY Yj))) (aU [(aj (a9 5) (kI 64) (aS cu))]) aT
theorem Tp{T:Int}{b:Option AV}(hc:cs.length=6):Yu (sb ns cs T j (some (.d (.int k))) b) μ=some (.d (.list (iL (GW (zy cs k) 64))),μ):=by
 have h6:k%6<cs.length:=by lia
 have hm:((k:Int).fmod 6)=((k%6:Nat):Int):=by refine rA (Int.fmod_eq_emod_of_nonneg _ (by decide)) ?_;rfl
 have e1:aj (a9 4) (kI 6) (aS cu) (sb ns cs T j (some (.d (.int k))) b) μ=some (.d (.int ((k%6:Nat):Int)),μ):=by
  refine rB hm ?_;exact cW (f:=a9 4) (x:=k) rfl rfl (fk (by decide))
 have e2:aF (a9 1) (aj (a9 4) (kI 6) (aS cu)) (sb ns cs T j (some (.d (.int k))) b) μ=some (.d (.int (cs.getD (k%6) 0)),μ):=
  cJ (f:=a9 1) (V:=.d (.list (iL cs))) rfl e1 rfl (by lia) (by refine rA (Fq _) ?_;simp [iL,Ft h6]) (by refine rA (xO _) ?_;exact aa (by lia))
 have e3:=cW (cW e2 (rfl:kI 420 _ _=some (.d (.int 420),_)) (l6 (by decide))) (rfl:kI 3 _ _=some (.d (.int 3),_)) (fk (by decide));have h0:0≤((cs.getD (k%6) 0).fdiv 420).fmod 3:=Fp _ (by decide);have h3:((cs.getD (k%6) 0).fdiv 420).fmod 3<3:=IX _ (by decide)
 have:=CE (f:=aU [kI 64]) (xs:=[.int 64]) (kt rfl) e3 ⟨by simp only [Gb];lia,by lia⟩
 rw [Sk] at this
 exact this
noncomputable def ae4(n:Int):PyData→Bool
 | .int h=>decide (64^h.toNat≤n)
 |_=>false
noncomputable def ao1(n:Int):PyData→PyData
 | .int h=>.int ((n.fdiv (64^h.toNat)).fmod 64+64)
 |x=>x
theorem UF{T n:Int}{a:Option AV}:YD (sb ns cs T j a (some (.d (.int n)))) μ=some (.d (.list (iL (r5 n))),μ):=by
 have hi:aK false (aU [(kI 5),(kI 4),(kI 3),(kI 2),(kI 1)]) (sb ns cs T j a (some (.d (.int n)))) μ=some (iL [5,4,3,2,1],none,μ):=
  d9 (V:=.d (.list (iL [5,4,3,2,1]))) (dJ (ds:=[.int 5,.int 4,.int 3,.int 2,.int 1]) rfl (aa (xM rfl))) rfl
 have hpw:∀h∈([5,4,3,2,1]:List Int),aj (kI 64) (a9 6) (aS gu) ((bG qi (sb ns cs T j a (some (.d (.int n))))).set 6 (some (.d (.int h)))) μ=some (.d (.int (64^h.toNat)),μ):= λh hh=>cW (f:=kI 64) (g:=a9 6) (x:=64) (y:=h) rfl rfl (Qi h hh).1;have hc:=jd (sc:=qi) (t:=YC) (e:=Yj) 6 (ae4 n) (ao1 n) hi (az _ _) (λx hx=>by
  refine au (DT.mp hx) λh hh zq2=>?_;subst zq2;exact dH (f:=a9 5) (V:=.d (.int n)) rfl (hpw h hh) rfl) (λx hx zz=>by
  refine au (DT.mp hx) λh hh zq2=>?_;subst zq2;exact cT (cW (cW (f:=a9 5) (x:=n) rfl (hpw h hh) (l6 (Qi h hh).2)) (rfl:kI 64 _ _=some (.d (.int 64),_)) (fk (by decide))) rfl) (by refine rA (xO _) ?_;exact aa (by simp))
 have hd:=bY hc;have hl:=kt (cW (f:=a9 5) (g:=kI 64) (o:=cu) (ρ:=sb ns cs T j a (some (.d (.int n)))) (μ:=μ) (x:=n) (y:=64) rfl rfl (fk (by decide)))
 have:=cU hd hl rfl rfl (aa (by
  refine rA (xO _) ?_
  have:=Hf (ae4 n) (iL [5,4,3,2,1])
  simp only [xO,AH,EZ] at this⊢
  lia))
 refine this.trans ?_;refine congrArg (λl=>some (AV.d (.list l),μ)) ?_;unfold iL r5;rw [Kf,OD,E_,E_];rfl
abbrev TQ:SF:=(ap (cj (se (a9 3) Yu)) (ap (cj (se (a9 3) YD)) aP))
theorem pV(n:Int):(r5 n).length≤6:=by
 unfold r5;rw [be,xO]
 have:=Hf (λh:Int=>decide (64^h.toNat≤n)) [5,4,3,2,1]
 simp only [AH,EZ] at this⊢
 lia
theorem pd(cs:List Int)(k:Nat):zy cs k≤2:=by
 unfold zy;have h0:0≤((cs.getD (k%6) 0).fdiv 420).fmod 3:=Fp _ (by decide);have h3:((cs.getD (k%6) 0).fdiv 420).fmod 3<3:=IX _ (by decide);lia
theorem w7(cs:List Int):∀ (ns:List Int) (k:Nat),(gq cs k ns).length≤8*ns.length
 | [],k=>by simp [gq]
 |n::ns,k=>by
  have:=w7 cs ns (k+1)
  have:=pV n
  have:=pd cs k
  simp only [gq,be,Lr,AH];lia
theorem Sn{nn:List Int}{T:Int}(hc:cs.length=6):∀ (ns:List Int) (k:Nat) (acc:List Int) (a b:Option AV) (μ:List ah),μ[j]? =some (.live (iL acc))→acc.length+8*ns.length≤10000→
  ∃a' b',fR (j6 4 5) TQ aP none xs (cN k (iL ns)) (sb nn cs T j a b) μ=some (.next,sb nn cs T j a' b',μ.set j (.live (iL (acc++gq cs k ns))))
 | [],k,acc,a,b,μ,hm,_=>(jN a b (by
  refine rA (show cN k (iL [])=[] from rfl) ?_;refine rA H8 ?_;rw [gq];refine rA (DO _) ?_;refine rA (eK hm) ?_;rfl))
 |n::ns,k,acc,a,b,μ,hm,hz=>by
  have hlt:j<μ.length:=(BW.mp hm).1;have hd:=pV n;have hp:=pd cs k;simp only [AH] at hz
  have e1:=er (pb (f:=a9 3) (j:=j) rfl (Tp (ns:=nn) (T:=T) (j:=j) (k:=k) (b:=some (.d (.int n))) (μ:=μ) hc) hm (by simp only [xO,Lr];exact aa (by lia)));rw [lI] at e1
  have e2:=er (pb (f:=a9 3) (j:=j) rfl (UF (ns:=nn) (cs:=cs) (T:=T) (n:=n) (j:=j) (a:=some (.d (.int k))) (μ:=μ.set j (.live (iL (acc++GW (zy cs k) 64))))) (cB hlt) (by simp only [xO,be,Lr];exact aa (by lia)));rw [lI,HA] at e2
  obtain ⟨a',b',ih⟩:=Sn hc ns (k+1) (acc++GW (zy cs k) 64++r5 n) (some (.d (.int k))) (some (.d (.int n))) (μ.set j (.live (iL (acc++GW (zy cs k) 64++r5 n)))) (cB hlt) (by simp only [be,Lr];lia);refine (jN a' b' ?_);rw [HA] at ih
  refine rA (show cN k (iL (n::ns))=.tuple [.int k,.int n]::cN (k+1) (iL ns) from rfl) ?_;refine rA (dP (ρ1:=sb nn cs T j (some (.d (.int k))) (some (.d (.int n)))) rfl ((aB e1).trans ((aB e2).trans bK)) (az _ _)) ?_;refine rA ih ?_;rw [gq];simp only [Eu]
noncomputable def mk(T:Int):Nat→List Int→List Int
 |_,[]=>[]
 |p,o::r=>(if ((p:Int)+T).fmod 3=0 then o+128 else o)::mk T (p+1) r
noncomputable def mkF(T:Int):PyData→PyData
 | .tuple [.int p,.int o]=>.int (if (p+T).fmod 3=0 then o+128 else o)
 |x=>x
theorem PS(T p o:Int):mkF T (.tuple [.int p,.int o])=.int (if (p+T).fmod 3=0 then o+128 else o):=rfl
theorem GJ(T:Int):∀ (l:List Int) (k:Nat),(cN k (iL l)).map (mkF T)=iL (mk T k l)
 | [],k=>rfl
 |o::l,k=>by
  refine rA (show cN k (iL (o::l))=.tuple [.int k,.int o]::cN (k+1) (iL l) from rfl) ?_;refine rA F7 ?_;refine rA (GJ T l (k+1)) ?_;rfl
theorem mH:∀ (l:List Int) (k:Nat) {x:PyData},x∈cN k (iL l)→∃p o:Int,x=.tuple [.int p,.int o]
 | [],k,x,h=>by cases h
 |o::l,k,x,h=>by
  rw [show cN k (iL (o::l))=.tuple [.int k,.int o]::cN (k+1) (iL l) from rfl] at h
  rcases Cc.mp h with rfl|h
  ·exact (jN _ _ rfl)
  ·exact mH l (k+1) h
theorem ij:∀ (l:List PyData) (k:Nat),(cN k l).length=l.length
 | [],k=>rfl
 |o::l,k=>by simp [cN,ij l (k+1)]
theorem vD:n0 [] ρ μ=some (.c μ.length,μ++[.live []]):=by
 exact HY rfl rfl (LL _)
theorem dq:(μ++[c])[μ.length]? =some c:=by simp
theorem fm:(μ++[c]).set μ.length c'=μ++[c']:=by simp
theorem mE:(μ++[c]).take μ.length=μ:=by simp
theorem s66{T:Int}(hc:cs.length=6)(hz:ns.length≤1000):
  fT [.d (.list (iL ns)),.d (.list (iL cs)),.d (.int T)] μ=some (.d (.list (iL (mk T 0 (gq cs 0 ns++[64+T.fmod 64])))),μ):=by
 have hol:=w7 cs ns 0;have e0:HG (cF (ao (ay 66)) [.d (.list (iL ns)),.d (.list (iL cs)),.d (.int T)]) μ=some (.next,sb ns cs T μ.length none none,μ++[.live (iL [])]):=bO vD;refine lP (Sn (nn:=ns) (T:=T) (xs:=cN 0 (iL ns)) hc ns 0 [] none none (μ++[.live (iL [])]) dq (by simp only [EZ];lia)) λa b h1=>?_;rw [fm,Ls] at h1
 have e1:IM (sb ns cs T μ.length none none) (μ++[.live (iL [])])=some (.next,sb ns cs T μ.length a b,μ++[.live (iL (gq cs 0 ns))]):=(gM (jV (f:=a9 0) rfl rfl)).trans h1;have e2:JP (sb ns cs T μ.length a b) (μ++[.live (iL (gq cs 0 ns))])=some (.next,sb ns cs T μ.length a b,μ++[.live (iL (gq cs 0 ns++[64+T.fmod 64]))]):=by
  have h:=gj (f:=a9 3) (g:=aj (kI 64) (aj (a9 2) (kI 64) (aS cu)) aT) (j:=μ.length) (d:=.int (64+T.fmod 64)) (ρ:=sb ns cs T μ.length a b) (μ:=μ++[.live (iL (gq cs 0 ns))]) rfl (cT (f:=kI 64) rfl (cW (f:=a9 2) (x:=T) rfl (rfl:kI 64 _ _=some (.d (.int 64),_)) (fk (by decide)))) dq (by refine rA (xO _) ?_;exact aa (by lia));rw [fm,show iL (gq cs 0 ns)++[F8 (64+T.fmod 64)]=iL (gq cs 0 ns++[64+T.fmod 64]) by simp [iL]] at h
  exact er h
 have hfr:xz (.c μ.length) (μ++[.live (iL (gq cs 0 ns++[64+T.fmod 64]))])=some (.list (iL (gq cs 0 ns++[64+T.fmod 64])),μ++[.frozen (iL (gq cs 0 ns++[64+T.fmod 64]))]):=by
  exact (rx dq).trans (by rw [fm])
 have hcm:=t8 (sc:=tG) (e:=dx (bA (aj (aj (a9 6) (a9 2) aT) (kI 3) (aS cu)) (kI 0) dK) (aj (a9 7) (kI 128) aT) (a9 7)) 6 7 (by decide) (mkF T) (jV (f:=a9 3) (ρ:=sb ns cs T μ.length a b) rfl hfr) (az _ _) (λx hx=>by
  refine lP (mH _ _ hx) λp o zq2=>?_;subst zq2;refine (fO _ _ rfl ?_);have hcmp:bA (aj (aj (a9 6) (a9 2) aT) (kI 3) (aS cu)) (kI 0) dK (((bG tG (sb ns cs T μ.length a b)).set 6 (some (.d (.int p)))).set 7 (some (.d (.int o)))) (μ++[.frozen (iL (gq cs 0 ns++[64+T.fmod 64]))])=some ((p+T).fmod 3==0,_):=
   o4 (cW (cT (f:=a9 6) (g:=a9 2) rfl rfl) (rfl:kI 3 _ _=some (.d (.int 3),_)) (fk (by decide))) rfl
  by_cases z:(p+T).fmod 3=0
  ·rw [show ((p+T).fmod 3==0)=true from beq_iff_eq.mpr z] at hcmp
   refine rA (xA hcmp) ?_;refine rA (PS _ _ _) ?_;refine rA (if_pos z) ?_;exact cT (f:=a9 7) (g:=kI 128) rfl rfl
  ·rw [show ((p+T).fmod 3==0)=false from beq_eq_false_iff_ne.mpr z] at hcmp
   refine rA (sV hcmp) ?_;refine rA (PS _ _ _) ?_;refine rA (if_neg z) ?_;rfl) (by refine rA (ij _ _) ?_;refine rA (xO _) ?_;exact aa (by simp;lia))
 rw [GJ] at hcm
 have e3:Gq (sb ns cs T μ.length a b) (μ++[.live (iL (gq cs 0 ns++[64+T.fmod 64]))])=some (.ret (.d (.list (iL (mk T 0 (gq cs 0 ns++[64+T.fmod 64]))))),sb ns cs T μ.length a b,μ++[.frozen (iL (gq cs 0 ns++[64+T.fmod 64]))]):=dZ (bY hcm)
 have:f66 (cF (ao (ay 66)) [.d (.list (iL ns)),.d (.list (iL cs)),.d (.int T)]) μ=some (.ret (.d (.list (iL (mk T 0 (gq cs 0 ns++[64+T.fmod 64]))))),sb ns cs T μ.length a b,μ++[.frozen (iL (gq cs 0 ns++[64+T.fmod 64]))]):=
  (aB e0).trans ((aB e1).trans ((aB e2).trans (cV e3)))
 unfold fT;refine rA (d0 (k:=3) rfl this) ?_;exact rA mE rfl
noncomputable def Yv:Int→Int→List Int→Option (Int×List Int)
 |o,val,[]=>if 64≤o then none else some (val,[])
 |o,val,o'::os=>if 64≤o then (if 0≤val∧val<4294967296 then Yv o' (val*64+o'%64) os else none) else some (val,o'::os)
noncomputable def rdF:List Int→Option (Int×List Int)
 | []=>none
 |o::os=>Yv o (o%64) os
theorem Mu:(zt 128).all (λo=>D5 (o:Int) 64==(if 64≤(o:Int) then 64 else 0)&&D5 ((o:Int)+128) 64==(if 64≤(o:Int) then 64 else 0)&&D5 (o:Int) 63==(o:Int)%64&&D5 ((o:Int)+128) 63==(o:Int)%64)=true:=by decide+kernel
theorem j9{o m:Int}(h0:0≤o)(h1:o<128)(hm:m=o∨m=o+128):D5 m 64=(if 64≤o then 64 else 0)∧D5 m 63=o%64:=by
 refine bP (Lh h0) λn zq1=>?_;subst zq1
 have:=Bw.mp Mu n (D3.mpr (by lia))
 simp only [Fd,beq_iff_eq] at this
 refine f_ this λzp0 d=>?_;refine f_ zp0 λzp0 c=>?_;obtain ⟨a,b⟩:=zp0
 rcases hm with rfl|rfl
 ·exact ⟨a,c⟩
 ·exact ⟨b,d⟩
theorem aq9{v d:Int}(h0:0≤v)(h1:0≤d)(h2:d<64):Mj (v*64) d=v*64+d:=by
 have hz:D5 (v*64) d=0:=by
  refine bP (Lh h0) λa zq1=>?_;subst zq1;refine bP (Lh h1) λb zq1=>?_;subst zq1;have hb:b<64:=by lia
  have hn:(a*64) &&& b=0:=by
   apply Nat.eq_of_testBit_eq;intro i;refine rA (Nat.testBit_and _ _ _) ?_;refine rA (Nat.zero_testBit _) ?_;refine rA (show a*64=a <<< 6 by rw [Nat.shiftLeft_eq]) ?_;refine rA (Nat.testBit_shiftLeft _) ?_
   by_cases hi:6≤i
   ·refine rA (Nat.testBit_lt_two_pow (x:=b) (i:=i) (On hb (Su (n:=2) (by decide) hi))) ?_
    simp
   ·simp [hi]
  have e:D5 ((a:Int)*64) (b:Int)=(((a*64) &&& b:Nat):Int):=by
   unfold D5;refine rA (decide_eq_true (show (0:Int)≤(a:Int)*64 by lia)) ?_;refine rA (decide_eq_true (show (0:Int)≤(b:Int) by lia)) ?_;dsimp only;refine rA (show ((a:Int)*64).toNat=a*64 by lia) ?_;exact rA (Fq _) rfl
  refine rA e ?_;refine rA hn ?_;rfl
 refine rA (PyProof.Rows.bitOr_and _ _) ?_;refine rA hz ?_;lia
theorem Rj(T:Int)(rest:List Int):∀ (os:List Int) (o val:Int) (p k:Nat) (v:Int),os.length<k→0≤o→o<128→(∀x∈os,0≤x∧x<128)→Yv o val os=some (v,[])→∀m,m=o∨m=o+128→∃p',CV k m val (mk T p (os++rest))=some (v,mk T p' rest)
 |os,o,val,p,0,v,hk,_,_,_,_,_,_=>by lia
 | [],o,val,p,k+1,v,hk,h0,h1,ho,h,m,hm=>by
  unfold Yv at h
  split at h
  ·exact cv h
  ·rename_i hq
   cases h;refine ⟨p,?_⟩;unfold CV;refine rA ((j9 h0 h1 hm).1) ?_;refine rA (if_neg hq) ?_;refine rA (if_neg (by decide)) ?_;rfl
 |o'::os,o,val,p,k+1,v,hk,h0,h1,ho,h,m,hm=>by
  unfold Yv at h
  split at h
  ·rename_i hq
   split at h
   ·rename_i hv
    have h':=ho o' (by simp);have hm':(if ((p:Int)+T).fmod 3=0 then o'+128 else o')=o'∨(if ((p:Int)+T).fmod 3=0 then o'+128 else o')=o'+128:=by
     split
     ·exact .inr rfl
     ·exact .inl rfl
    refine bP (Rj T rest os o' (val*64+o'%64) (p+1) k v (by simp at hk;lia) h'.1 h'.2 (λx hx=>ho x (D1 _ hx)) h _ hm') λp' ih=>?_;refine ⟨p',?_⟩;refine rA L7 ?_;rw [mk];unfold CV;refine rA ((j9 h0 h1 hm).1) ?_;refine rA (if_pos hq) ?_;refine rA (if_pos (by decide)) ?_;dsimp only;refine rA (if_pos hv) ?_;refine rA ((j9 h'.1 h'.2 hm').2) ?_;refine rA (aq9 hv.1 (Int.emod_nonneg _ (by decide)) (Int.emod_lt_of_pos _ (by decide))) ?_;exact ih
   ·exact cv h
  ·cases h
theorem VB{T:Int}{blk:List Int}{v:Int}(hz:blk.length≤60)(hb:∀x∈blk,0≤x∧x<128)(h:rdF blk=some (v,[])):∃p',rd (mk T p (blk++rest))=some (v,mk T p' rest):=by
 cases blk with
 |nil=>exact cv h
 |cons o os=>
  have h':=hb o (by simp);have hm':(if ((p:Int)+T).fmod 3=0 then o+128 else o)=o∨(if ((p:Int)+T).fmod 3=0 then o+128 else o)=o+128:=by
   split
   ·exact .inr rfl
   ·exact .inl rfl
  refine bP (Rj T rest os o (o%64) (p+1) 64 v (by simp at hz;lia) h'.1 h'.2 (λx hx=>hb x (D1 _ hx)) h _ hm') λp' e=>?_;refine ⟨p',?_⟩;refine rA L7 ?_;rw [mk,rd];refine rA ((j9 h'.1 h'.2 hm').2) ?_;exact e
noncomputable def oA:List Int:=[0,7,8,272,274]++(zt 6).flatMap λf=>(zt 13).map λlow=>(2^f-1)*2^low+2^31
theorem O1:(oA.all λn=>(zt 3).all λq=>rdF (GW q 64++r5 n)==some (n,[]))=true:=by decide+kernel
theorem HJ:(oA.all λn=>(r5 n).all λo=>decide (0≤o∧o<128))=true:=by decide+kernel
theorem Hz{n:Int}(hn:n∈oA)(hq:q≤2):rdF (GW q 64++r5 n)=some (n,[])∧∀x∈GW q 64++r5 n,0≤x∧x<128:=by
 refine ⟨?_,λx hx=>?_⟩
 ·have:=Bw.mp (Bw.mp O1 n hn) q (D3.mpr (by lia))
  simpa using this
 ·rcases AE.mp hx with h|h
  ·have:=List.eq_of_mem_replicate h
   lia
  ·have:=Bw.mp (Bw.mp HJ n hn) x h
   simpa using this
theorem wH(T:Int)(cs tail:List Int):∀ (ns:List Int) (k p:Nat),(∀n∈ns,n∈oA)→∃p',xW (mk T p (gq cs k ns++tail)) ns (mk T p' tail)
 | [],k,p,_=>⟨p,.nil _⟩
 |n::ns,k,p,h=>by
  refine f_ (Hz (h n (by simp)) (pd cs k)) λg1 g2=>?_;have hd:=pV n;have hp:=pd cs k;refine bP (VB (T:=T) (rest:=gq cs (k+1) ns++tail) (p:=p) (by refine rA be ?_;refine rA Lr ?_;lia) g2 g1) λp1 e1=>?_;refine bP (wH T cs tail ns (k+1) p1 λx hx=>h x (D1 _ hx)) λp2 e2=>?_;refine ⟨p2,.cons ?_ e2⟩;rw [gq];refine rA (Eu _ _ _) ?_;exact e1
theorem ni{g:Option Nat}(hg:cy g xs μ)(Good:d5→Prop)(out:PyData→List PyData)
  (r:List PyData) (ρ:d5) (acc:List PyData) (hb:Good ρ) (h:∀x∈r,∀ρ,Good ρ→∀acc,acc.length+(out x).length≤sizeLine→∃ρ1 ρ2,tf ρ x=some ρ1∧cf ρ1 μ acc=some (ρ2,μ,acc++out x)∧Good ρ2) (hz:acc.length+(r.flatMap out).length≤sizeLine):
   ∃ρ',Good ρ'∧fe tf cf g xs r ρ μ acc=some (ρ',μ,acc++r.flatMap out):=by
 induction r generalizing ρ acc with
 |nil=>exact aZ ρ hb (congrArg (λz=>some (ρ,μ,z)) (DO _).symm)
 |cons x r ih=>
  rw [Fs,be] at hz
  refine bm (h x (FI ..) ρ hb acc (by lia)) λρ1 ρ2 e1 e2 e3=>?_;refine au (ih ρ2 (acc++out x) e3 (λy hy=>h y (D1 _ hy)) (by rw [be];lia)) λρ' hb' e=>aZ ρ' hb' ?_;refine (pE e1 e2 hg).trans (e.trans ?_);rw [Fs,Eu]
theorem vr{g:Option Nat}(hi:itf ρ μ=some (xs,g,μ1))(hg:cy g xs μ1)(Good:d5→Prop)(out:PyData→List PyData)(h0:Good (bG sc ρ))
  (h:∀x∈xs,∀ρ,Good ρ→∀acc,acc.length+(out x).length≤sizeLine→∃ρ1 ρ2,tf ρ x=some ρ1∧cf ρ1 μ1 acc=some (ρ2,μ1,acc++out x)∧Good ρ2) (hz:(xs.flatMap out).length≤sizeLine):
  fj sc itf tf cf ρ μ=some (xs.flatMap out,μ1):=by
 refine au (ni hg Good out xs (bG sc ρ) [] h0 h (by simpa using hz)) λρ' zz e=>?_;exact qf hi e
theorem KW:cX bg cf ρ μ acc=cf ρ μ acc:=rfl
theorem wj{g:Option Nat}(hi:itf ρ μ=some (xs,g,μ1)):gk itf tf cf ρ μ acc=fe tf cf g xs xs ρ μ1 acc:=b5 hi
noncomputable abbrev U:=List Nat
def uS(u:U):PyData:=.str ⟨u.toArray⟩
noncomputable def uL(l:List U):List PyData:=l.map uS
noncomputable def n7:Nat→List U
 |0=>[]
 |1=>[[92,40]]
 |2=>[[34],[41],[34]]
 |3=>[[92,92]]
 |4=>[[34],[92,34],[41],[34]]
 |5=>[[97],[92,34]]
 |_=>[[34],[34]]
noncomputable def iJ(cs:List Int)(p:Nat):Nat:=(((cs.getD p 0).fdiv 60).fmod 7).toNat
noncomputable def t9(m:List Nat)(p:Nat):U:=if p<m.getD p 0 then [40] else [41]
noncomputable def SX(l:List U):Bool:=l.head?==some [34]
noncomputable def eJ(m:List Nat)(cs:List Int)(sh:Bool)(p:Nat):List U:=(if sh&&SX (n7 (iJ cs p)) then [] else n7 (iJ cs p))++[t9 m p]
noncomputable def units(m:List Nat)(cs:List Int)(sh:Bool)(pl:List Nat):List U:=pl.flatMap (eJ m cs sh)
def mC:PyData:=.list ((zt 7).map λi=>.list (uL (n7 i)))
noncomputable def Fj(M C:PyData)(V:AV)(sh:Bool)(pieces picked:Option AV):d5:=[some V,some (.d M),some (.d C),some (.d (.bool sh)),pieces,picked]
theorem Jf{M C:PyData}:I9 [some V,some (.d M),some (.d C),some (.d (.bool sh)),none,none] μ=some (.next,Fj M C V sh (some (.d mC)) none,μ):=rfl
def fY(m:List Nat)(cs:List Int)(p:Nat):PyData:=.tuple [.list (uL (n7 (iJ cs p))),uS (t9 m p)]
noncomputable def QN(m:List Nat)(cs:List Int):PyData→PyData
 | .int i=>fY m cs i.toNat
 |x=>x
theorem jz(cs:List Int)(p:Nat):iJ cs p<7:=by
 unfold iJ;have h0:0≤((cs.getD p 0).fdiv 60).fmod 7:=Fp _ (by decide);have h7:((cs.getD p 0).fdiv 60).fmod 7<7:=IX _ (by decide);lia
theorem HK{pl:List Nat}{g:Option Nat}(hm:m.length=6)(hc:cs.length=6)(hp:∀p∈pl,p<6)(hz:pl.length≤1000)
  (hi:aK false (a9 0) (Fj (.list (nL m)) (.list (iL cs)) V sh (some (.d mC)) none) μ=some (nL pl,g,μ)) (hg:cy g (nL pl) μ):
  JC (Fj (.list (nL m)) (.list (iL cs)) V sh (some (.d mC)) none) μ=some (.next,Fj (.list (nL m)) (.list (iL cs)) V sh (some (.d mC)) (some (.d (.list (pl.map (fY m cs))))),μ):=by
 have hcm:=ic (sc:=lR) (e:=cY [(aF (a9 4) (aj (aj (aF (a9 2) (a9 6)) (kI 60) (aS cQ)) (kI 7) (aS cu))),(dx (bA (aF (a9 1) (a9 6)) (a9 6) (eg λx y=>decide (y<x))) (kS "(") (kS ")"))]) 6 (QN m cs) hi hg (λx hx=>by
  refine au (DT.mp hx) λp hpm zq2=>?_;subst zq2;have h6:=hp p hpm;have e1:aF (a9 2) (a9 6) ((bG lR (Fj (.list (nL m)) (.list (iL cs)) V sh (some (.d mC)) none)).set 6 (some (.d (.int (p:Int))))) μ=some (.d (.int (cs.getD p 0)),μ):=
   cJ (f:=a9 2) (V:=.d (.list (iL cs))) (k:=p) rfl rfl rfl (by lia) (by refine rA (Fq _) ?_;simp [iL,Ft (hc.symm▸h6:p<cs.length)]) (by refine rA (xO _) ?_;exact aa (by lia))
  have e2:=cW (cW e1 (rfl:kI 60 _ _=some (.d (.int 60),_)) (l6 (by decide))) (rfl:kI 7 _ _=some (.d (.int 7),_)) (fk (by decide));have h0:0≤((cs.getD p 0).fdiv 60).fmod 7:=Fp _ (by decide);have hq:=jz cs p;have e3:=cJ (f:=a9 4) (V:=.d mC) (xs:=(zt 7).map λi=>.list (uL (n7 i))) (d:=.list (uL (n7 (iJ cs p)))) rfl e2 rfl h0 (by
   show ((zt 7).map λi=>NV (uL (n7 i)))[iJ cs p]? =_
   rw [G1,O4 hq];rfl) (by refine rA (xO _) ?_;refine rA Js ?_;exact aa (by decide))
  have e4:aF (a9 1) (a9 6) ((bG lR (Fj (.list (nL m)) (.list (iL cs)) V sh (some (.d mC)) none)).set 6 (some (.d (.int (p:Int))))) μ=some (.d (.int (m.getD p 0)),μ):=
   cJ (f:=a9 1) (V:=.d (.list (nL m))) (k:=p) rfl rfl rfl (by lia) (by refine rA (Fq _) ?_;exact tQ (by lia)) (by rw [nL];refine rA (xO _) ?_;exact aa (by lia))
  have e5:bA (aF (a9 1) (a9 6)) (a9 6) (eg λx y=>decide (y<x)) ((bG lR (Fj (.list (nL m)) (.list (iL cs)) V sh (some (.d mC)) none)).set 6 (some (.d (.int (p:Int))))) μ=some (decide ((p:Int)< (m.getD p 0:Nat)),μ):=dH e4 (rfl:a9 6 _ _=some (.d (.int p),_)) rfl;have e6:dx (bA (aF (a9 1) (a9 6)) (a9 6) (eg λx y=>decide (y<x))) (kS "(") (kS ")") ((bG lR (Fj (.list (nL m)) (.list (iL cs)) V sh (some (.d mC)) none)).set 6 (some (.d (.int (p:Int))))) μ=some (.d (uS (t9 m p)),μ):=by
   unfold t9
   by_cases z:p<m.getD p 0
   ·rw [decide_eq_true (show (p:Int)< (m.getD p 0:Nat) by lia)] at e5
    refine rA (xA e5) ?_;refine rA (if_pos z) ?_;rfl
   ·rw [decide_eq_false (show ¬ (p:Int)< (m.getD p 0:Nat) by lia)] at e5
    refine rA (sV e5) ?_;refine rA (if_neg z) ?_;rfl
  exact d8 (ds:=[.list (uL (n7 (iJ cs p))),uS (t9 m p)]) (an e3 (an e6 bX)) (aa (xM rfl))) (by rw [nL];refine rA (xO _) ?_;exact aa (by lia))
 rw [show (nL pl).map (QN m cs)=pl.map (fY m cs) by rw [nL,E_];rfl] at hcm
 exact jA hcm
noncomputable abbrev Q0(M C:PyData)(V:AV)(sh:Bool)(K:PyData)(a b c:Option AV):d5:=[some V,some (.d M),some (.d C),some (.d (.bool sh)),some (.d mC),some (.d K),a,b,c]
abbrev pcE:EF:=dx (J_ (gf (a9 3)) (bA (ci (a9 6) ba (aL (kI 1))) (aU [(kS "\"")]) dK)) (aU []) (a9 6)
theorem Gm(hq:q<7):dK (.d (.list (uL ((n7 q).take 1)))) (.d (.list [.str "\""])) μ=some (SX (n7 q)):=by
 match q,hq with
 |0,_=>kernel_rfl
 |1,_=>kernel_rfl
 |2,_=>kernel_rfl
 |3,_=>kernel_rfl
 |4,_=>kernel_rfl
 |5,_=>kernel_rfl
 |6,_=>kernel_rfl
theorem Yt{M C:PyData}{K:PyData}{s c:Option AV}(hq:q<7):pcE (Q0 M C V sh K (some (.d (.list (uL (n7 q))))) s c) μ=some (.d (.list (uL (if sh&&SX (n7 q) then [] else n7 q))),μ):=by
 cases sh with
 |false=>exact (sV (ZX (nN (V:=.d (.bool false)) rfl rfl))).trans rfl
 |true=>
  have hv:gf (a9 3) (Q0 M C V true K (some (.d (.list (uL (n7 q))))) s c) μ=some (true,μ):=nN (V:=.d (.bool true)) rfl rfl;have hc:bA (ci (a9 6) ba (aL (kI 1))) (aU [(kS "\"")]) dK (Q0 M C V true K (some (.d (.list (uL (n7 q))))) s c) μ=some (SX (n7 q),μ):=by
   have hs:ci (a9 6) ba (aL (kI 1)) (Q0 M C V true K (some (.d (.list (uL (n7 q))))) s c) μ=some (.d (.list (uL ((n7 q).take 1))),μ):=by
    match q,hq with
    |0,_=>rfl
    |1,_=>rfl
    |2,_=>rfl
    |3,_=>rfl
    |4,_=>rfl
    |5,_=>rfl
    |6,_=>rfl
   exact dH hs (kt (f:=kS "\"") rfl) (Gm hq)
  have ha:=(Yb (t':=bA (ci (a9 6) ba (aL (kI 1))) (aU [(kS "\"")]) dK) hv).trans hc;cases hqq:SX (n7 q) with
  |true=>rw [hqq] at ha;exact (xA ha).trans uB
  |false=>rw [hqq] at ha;exact (sV ha).trans rfl
noncomputable def Vp:List PyData→Bool
 | .str x::_=>x.cps.toList==[34]
 |_=>false
theorem OS(l:List U):Vp (uL l)=SX l:=by
 cases l with
 |nil=>rfl
 |cons u l=>
  refine (?_:(u.toArray.toList==[34])=(some u==some [34]));refine rA (show u.toArray.toList=u by simp) ?_;rfl
noncomputable def zL(sh:Bool):PyData→List PyData
 | .tuple [.list ps,s]=>(if sh&&Vp ps then [] else ps)++[s]
 |_=>[]
theorem CD(m:List Nat)(cs:List Int)(sh:Bool)(p:Nat):zL sh (fY m cs p)=uL (eJ m cs sh p):=by
 refine (?_:(if sh&&Vp (uL (n7 (iJ cs p))) then [] else uL (n7 (iJ cs p)))++[uS (t9 m p)]=_);refine rA (OS _) ?_;rw [eJ,uL,uL];refine rA Kf ?_
 split<;>rfl
theorem AI(q:Nat):(n7 q).length≤4:=by
 match q with
 |0=>decide
 |1=>decide
 |2=>decide
 |3=>decide
 |4=>decide
 |5=>decide
 | (n+6)=>exact (by decide:2≤4)
theorem yk(m:List Nat)(cs:List Int)(sh:Bool)(p:Nat):(eJ m cs sh p).length≤5:=by
 unfold eJ
 have:=AI (iJ cs p)
 refine rA be ?_;refine rA Gb ?_
 split
 ·simp
 ·lia
theorem i6(m:List Nat)(cs:List Int)(sh:Bool):∀pl:List Nat,(units m cs sh pl).length≤5*pl.length
 | []=>by simp [units]
 |p::pl=>by
  have h1:=yk m cs sh p;have h2:=i6 m cs sh pl;simp only [units,Fs,be,AH] at h2⊢
  lia
theorem uQ(m:List Nat)(cs:List Int)(sh:Bool):∀pl:List Nat,(pl.map (fY m cs)).flatMap (zL sh)=uL (units m cs sh pl)
 | []=>rfl
 |p::pl=>by
  refine rA F7 ?_;refine rA Fs ?_;refine rA (uQ m cs sh pl) ?_;refine rA (CD _ _ _ _) ?_
  simp [units,uL]
theorem K9{pl:List Nat}{M C:PyData}(hz:pl.length≤1000):
  GH (Fj M C V sh (some (.d mC)) (some (.d (.list (pl.map (fY m cs)))))) μ=some (.ret (.d (.list (uL (units m cs sh pl)))),Fj M C V sh (some (.d mC)) (some (.d (.list (pl.map (fY m cs))))),μ):=by
 have hi:aK true (a9 5) (Fj M C V sh (some (.d mC)) (some (.d (.list (pl.map (fY m cs)))))) μ=some (pl.map (fY m cs),none,μ):=Bd (V:=.d (.list (pl.map (fY m cs)))) rfl rfl (rf λzz=>⟨_,rfl⟩);have hul:=i6 m cs sh pl;have hcm:=vr (sc:=zA) (tf:=j6 6 7) (cf:=cX bg (gk (aK false (aj pcE (aU [(a9 7)]) aT)) (dz 8) (cX bg (aY (a9 8))))) hi (az _ _) (λρ=>∃a b c,ρ=Q0 M C V sh (.list (pl.map (fY m cs))) a b c) (zL sh) (jG none none none rfl) (λx hx ρ hρ acc hacc=>by
  refine au (DT.mp hx) λp hp zq2=>?_;subst zq2;refine jE hρ λa b c zq3=>?_;subst zq3;have hadd:=cU (Yt (M:=M) (C:=C) (V:=V) (sh:=sh) (K:=.list (pl.map (fY m cs))) (s:=some (.d (uS (t9 m p)))) (c:=c) (μ:=μ) (jz cs p)) (kt (f:=a9 7) (d:=uS (t9 m p)) rfl) rfl rfl (aa (by
   have:=AI (iJ cs p)
   refine rA Gb ?_;rw [uL];refine rA (xO _) ?_
   split
   ·simp
   ·lia))
  have hl:uL (if sh&&SX (n7 (iJ cs p)) then [] else n7 (iJ cs p))++[uS (t9 m p)]=zL sh (fY m cs p):=by
   refine rA (CD _ _ _ _) ?_;rw [eJ,uL,uL];refine rA Kf ?_;rfl
  rw [hl] at hadd
  obtain ⟨ρ',⟨w,hw⟩,hf⟩:=ni (tf:=dz 8) (cf:=cX bg (aY (a9 8))) (μ:=μ) (xs:=zL sh (fY m cs p)) (az _ _) (λρ=>∃w,ρ=Q0 M C V sh (.list (pl.map (fY m cs))) (some (.d (.list (uL (n7 (iJ cs p)))))) (some (.d (uS (t9 m p)))) w) (λx=>[x]) (zL sh (fY m cs p)) _ acc ⟨c,rfl⟩ (λy zz ρ hρ acc hacc=>by
   refine bP hρ λw zq1=>?_;subst zq1;exact (Cv _ _ rfl (pq (d:=y) rfl acc hacc) _ rfl)) (by simpa [fI] using hacc)
  rw [fI,U7] at hf
  subst hw;refine (DC (Q0 M C V sh (.list (pl.map (fY m cs))) (some (.d (.list (uL (n7 (iJ cs p)))))) (some (.d (uS (t9 m p)))) c) (Q0 M C V sh (.list (pl.map (fY m cs))) (some (.d (.list (uL (n7 (iJ cs p)))))) (some (.d (uS (t9 m p)))) w) rfl ?_ _ _ _ rfl);refine LO KW ?_;refine LO (wj (d9 (V:=.d (.list (zL sh (fY m cs p)))) hadd rfl)) ?_;exact hf) (by refine rA (uQ _ _ _ _) ?_;rw [uL];refine rA (xO _) ?_;exact aa (by lia))
 rw [uQ] at hcm
 exact dZ (bY hcm)
theorem s67{pl:List Nat}{g:Option Nat}(hm:m.length=6)(hc:cs.length=6)(hp:∀p∈pl,p<6)(hz:pl.length≤1000)
  (hi:aK false (a9 0) (Fj (.list (nL m)) (.list (iL cs)) V sh (some (.d mC)) none) μ=some (nL pl,g,μ)) (hg:cy g (nL pl) μ):
  bB [V,.d (.list (nL m)),.d (.list (iL cs)),.d (.bool sh)] μ=some (.d (.list (uL (units m cs sh pl))),μ):=by
 have:f67 (cF (ao (ay 67)) [V,.d (.list (nL m)),.d (.list (iL cs)),.d (.bool sh)]) μ=_:=(aB Jf).trans ((aB (HK hm hc hp hz hi hg)).trans (cV (K9 hz)))
 unfold bB;refine LO (d0 (k:=4) rfl this) ?_;exact rA (Fn (DU _)) rfl
theorem YL{pl:List Nat}(hm:m.length=6)(hc:cs.length=6)(hp:∀p∈pl,p<6)(hz:pl.length≤1000):
 bB [.d (.list (nL pl)),.d (.list (nL m)),.d (.list (iL cs)),.d (.bool sh)] μ=some (.d (.list (uL (units m cs sh pl))),μ):=s67 hm hc hp hz (d9 (V:=.d (.list (nL pl))) rfl rfl) (az _ _)
theorem Ri(hm:m.length=6)(hc:cs.length=6):
 bB [.rng 0 6,.d (.list (nL m)),.d (.list (iL cs)),.d (.bool sh)] μ=some (.d (.list (uL (units m cs sh (zt 6)))),μ):=s67 (pl:=zt 6) hm hc (λp hp=>D3.mp hp) (by decide) rfl (az _ _)
def tS(l:List Nat):Str:=⟨l.toArray⟩
theorem eC(l:List Nat):(tS l).length=l.length:=by simp [tS,Str.length]
theorem fZ(l:List Nat):(tS l).cps.toList=l:=by simp [tS]
noncomputable def wf:U→Bool
 | [c]=>c != 92
 | [a,_]=>a==92
 |_=>false
theorem JB:∀ {u:U},wf u=true→(∃c,u=[c]∧c≠92)∨∃c,u=[92,c]
 | [c],h=>.inl ⟨c,rfl,bne_iff_ne.mp h⟩
 | [a,c],h=>.inr ⟨c,by exact rA (show a=92 from beq_iff_eq.mp h) rfl⟩
noncomputable def lf:Nat→List U→List PyData
 |_,[]=>[]
 |k,u::r=>.tuple [.int ((k+u.length:Nat)-1),uS u]::lf (k+u.length) r
theorem ut:∀ (us:List U) (k:Nat) (tail:List Nat),(us.all wf)=true→eA (us.flatten++tail) k false=lf k us++eA tail (k+us.flatten.length) false
 | [],k,tail,_=>by simp [lf]
 |u::us,k,tail,h=>by
  simp only [Mm,Fd] at h
  have ih:=ut us (k+u.length) tail h.2
  rcases JB h.1 with ⟨c,rfl,hc⟩| ⟨c,rfl⟩
  ·refine rA GA ?_;refine rA (Eu _ _ _) ?_;refine rA S7 ?_;rw [eA];refine rA (if_neg hc) ?_;refine rA be ?_
   simp only [Gb] at ih⊢
   refine rA ih ?_;rw [lf];refine rA L7 ?_;refine rA Gb ?_;refine rB (Ro _ _ _) ?_
   congr 3
   simp
  ·refine rA GA ?_;refine rA (Eu _ _ _) ?_
   refine (?_:eA (92::c::(us.flatten++tail)) k false=_);rw [eA];refine rA (if_pos rfl) ?_;rw [eA];simp only [AH,EZ,LC,Nat.reduceAdd] at ih
   refine rA (show k+1+1=k+2 from rfl) ?_;refine rA ih ?_;rw [lf];refine rA L7 ?_;refine rA be ?_;simp only [AH,EZ,LC,Nat.reduceAdd];refine rB (Ro _ _ _) ?_
   congr 3
   congr 1
   lia
theorem Aa{us:List U}(hf:f ρ μ=some (.d (.str (tS us.flatten)),μ))(hw:us.all wf=true):b_ [f] aE ρ μ=some (lf 0 us,none,μ):=by
 have:=ut us 0 [] hw
 simp only [DO] at this
 refine (b5 (vC hf)).trans (congrArg (λl=>some (l,none,μ)) ?_);rw [fZ,this];exact DO _
theorem Uf(u:U)(c:Nat):((tS u)==(⟨#[c]⟩:Str))=decide (u=[c]):=by
 by_cases h:u=[c]
 ·subst h
  refine rA (decide_eq_true rfl) ?_;exact beq_self_eq_true _
 ·refine rA (decide_eq_false h) ?_;refine rA (propext (beq_eq_false_iff_ne)) ?_
  intro q
  have:=congrArg (λs:Str=>s.cps.toList) q
  simp [tS] at this
  exact h this
theorem AK{u:U}{c:Nat}(hf:f ρ μ=some (.d (uS u),μ))(hg:g ρ μ=some (.d (.str ⟨#[c]⟩),μ)):bA f g dK ρ μ=some (decide (u=[c]),μ):=
 (dH hf hg rfl).trans (by refine rB (Uf _ _) ?_;rfl)
theorem Hk(l:List Nat){a:Nat}(hab:a≤b)(hb:b≤l.length):oO (tS l) (some (a:Int)) (some (b:Int))=tS ((l.drop a).take (b-a)):=by
 unfold oO;refine rA (eC _) ?_;refine rA (StrLaws.strSliceIndices_plain hab hb) ?_
 split
 ·rename_i h
  simp only [xO,Js,beq_iff_eq] at h
  have h0:a=0:=by lia
  have h1:b=l.length:=by lia
  subst h0 h1
  simp
 ·have:=StrLaws.picks l (b-a) a (by lia)
  unfold tS
  congr 2
  simpa using this
theorem FB{a len:Nat}:K4 (some (a:Int)) none 1 len=K4 (some (a:Int)) (some (len:Int)) 1 len:=by
 have h1:¬ ((len:Int)<0):=by lia
 have e1:max (0:Int) (min (len:Int) (len:Int))=len:=by lia
 simp only [K4,h1,if_false,e1,show ((1:Int)>0)=True from by simp,if_true]
theorem N3(l:List Nat){a:Nat}(ha:a≤l.length):oO (tS l) (some (a:Int)) none=tS (l.drop a):=by
 have:=Hk l ha (DU _)
 unfold oO at this⊢
 rw [eC] at this⊢
 refine rA FB ?_;refine rA this ?_;exact rA (Fn (by rw [Ry];exact DU _)) rfl
theorem B5:∀us:List U,nG (uL us)=some (us.map tS)
 | []=>rfl
 |u::us=>by
  exact (bU (rfl:dS (uS u)=some (tS u))).trans (bU (B5 us))
theorem Io:∀us:List U,Ul "" (us.map tS)=tS us.flatten
 | []=>rfl
 | [u]=>by simp [Ul,tS]
 |u::v::us=>by
  have ih:=Io (v::us);refine (?_:tS u++("":Str)++Ul "" ((v::us).map tS)=_);refine rA ih ?_;apply Ve;refine rA (P9 _ _) ?_;refine rA (P9 _ _) ?_;have e0:(Ks "").cps= #[]:=by decide
  simp [tS,e0]
theorem mu{us:List U}(hf:f ρ μ=some (V,μ))(hp:dc μ V=some (uL us))(hz:us.flatten.length≤100000):dw (kS "") [f] f5 ρ μ=some (.d (.str (tS us.flatten)),μ):=by
 have hs:((us.map tS).map (·.length)).sum=us.flatten.length:=by
  refine rA E_ ?_;refine rA List.length_flatten ?_
  congr 1
 refine (BK hf hp (B5 us) (by rw [hs,show ("":Str).length=0 from rfl];lia)).trans ?_;refine (?_:some (AV.d (.str (Builtin.Str.glued "" (us.map tS))),μ)=_);refine rA (S8 _ _) ?_;exact rA (Io _) rfl
theorem Ca{p q:PF}{l:List Nat}{lo hi:Option Int}{l':List Nat}(hf:f ρ μ=some (.d (.str (tS l)),μ))(hp:p ρ μ=some (lo,μ))(hq:q ρ μ=some (hi,μ))(h:oO (tS l) lo hi=tS l')(hz:l.length≤100000)(hz':l'.length≤100000):ci f p q ρ μ=some (.d (.str (tS l')),μ):=by
 exact (b5 hf).trans ((b5 hp).trans ((b5 hq).trans ((oX (rfl:lS (.d (.str (tS l)))=some (tS l)) rfl).trans ((if_pos ⟨by rw [eC];exact aa hz,by rw [h,eC];exact aa hz'⟩).trans (by rw [h])))))
def WF(vs:List U):Prop:=∃us t,vs=us++t∧us.all wf=true∧(t=[]∨t=[[92]])
theorem Cg:∀ (us:List U) (k:Nat) (t:List U),lf k (us++t)=lf k us++lf (k+us.flatten.length) t
 | [],k,t=>by simp [lf]
 |u::us,k,t=>by
  simp only [L7,lf,Cg us,GA,be,Ro]
theorem pj{vs:List U}(hf:f ρ μ=some (.d (.str (tS vs.flatten)),μ))(hw:WF vs):b_ [f] aE ρ μ=some (lf 0 vs,none,μ):=by
 refine bm hw λus t zq2 h q=>?_;subst zq2
 rcases q with rfl|rfl
 ·rw [DO] at hf⊢;exact Aa hf h
 ·have e:=ut us 0 [92] h
  refine (b5 (vC hf)).trans (congrArg (λl=>some (l,none,μ)) ?_);simp only [fZ,LM,GA,LX,DO,Cg];refine rA e ?_;simp only [eA,lf,AH,EZ,uS,LC];have h0:(((us.flatten.length+1:Nat):Int)-1)=(us.flatten.length:Int):=by lia
  refine rA (if_pos trivial) ?_;exact rA h0 rfl
noncomputable def clean:Option (List U)→List U→List U
 |none,[]=>[]
 |some q,[]=>[34]::q
 |none,u::r=>if u=[34] then clean (some []) r else u::clean none r
 |some q,u::r=>if u=[34] then clean none r else clean (some (q++[u])) r
noncomputable def jw:Option (List U)→List Nat
 |none=>[]
 |some q=>34::q.flatten
noncomputable def opV:Option (List U)→Nat→AV
 |none,_=>.d .none
 |some _,k=>.d (.int k)
noncomputable def R2(t:List Nat)(st:Nat)(op:AV)(i:Nat)(a b:Option AV):d5:=[some (.d (.str (tS t))),some (.d (.int st)),some op,some (.c i),a,b]
abbrev QG:SF:=(ap (jF (bA (a9 1) (a9 2) p8) (ap (cj (eh (a9 3) (ci (a9 0) (aL (a9 1)) (aL (a9 2))))) aP) aP) (ap (cb 1 (aj (a9 4) (kI 1) aT)) (ap (cb 2 kN) aP)))
abbrev Sp:SF:=(ap (jF (bA (a9 5) (kS "\"") dK) (ap (jF (bA (a9 2) kN Lb) (ap (cb 2 (a9 4)) aP) QG) aP) aP) aP)
theorem neI{x:Int}(hf:f ρ μ=some (.d (.int x),μ))(hg:g ρ μ=some (.d (.int y),μ)):bA f g p8 ρ μ=some (!(x==y),μ):=dH hf hg rfl
theorem dF{x:Int}(hf:f ρ μ=some (.d (.int x),μ)):aL f ρ μ=some (some x,μ):=by
 exact b5 hf
theorem N5{t:List Nat}{st:Nat}{b:Option AV}{op:Nat}{Ws Ws':List U}(hc:μ[i]? =some (.live (uL Ws)))(ht:t.length≤100000)(h1:st≤op)(h2:op≤t.length)(hl:Ws.length≤1000)
  (hw:Ws'=if st=op then Ws else Ws++[(t.drop st).take (op-st)]):
  QG (R2 t st (.d (.int op)) i (some (.d (.int k))) b) μ=some (.next,R2 t (k+1) (.d .none) i (some (.d (.int k))) b,μ.set i (.live (uL Ws'))):=by
 have e1:(jF (bA (a9 1) (a9 2) p8) (ap (cj (eh (a9 3) (ci (a9 0) (aL (a9 1)) (aL (a9 2))))) aP) aP) (R2 t st (.d (.int op)) i (some (.d (.int k))) b) μ=some (.next,R2 t st (.d (.int op)) i (some (.d (.int k))) b,μ.set i (.live (uL Ws'))):=by
  by_cases q:st=op
  ·rw [if_pos q] at hw
   subst hw;refine rA (D0 (μ1:=μ) ((neI (x:=st) (y:=op) rfl rfl).trans (by simp [q]))) ?_;refine rA (eK hc) ?_;exact bK
  ·rw [if_neg q] at hw
   subst hw;have q':¬ ((st:Int)=(op:Int)):=by lia
   refine rA (Ao (μ1:=μ) ((neI (x:=st) (y:=op) rfl rfl).trans (by simp [q']))) ?_;refine rA (aB (er (gj (j:=i) (d:=uS ((t.drop st).take (op-st))) rfl (Ca (l:=t) rfl (dF rfl) (dF rfl) (Hk t h1 h2) ht (by rw [LU];lia)) hc (aa (by simp [uL];lia))))) ?_;refine rA bK ?_
   simp [uL]
 refine (aB e1).trans ?_;refine rA (aB (bO (cT (x:=k) (y:=1) rfl rfl))) ?_;refine rA (aB (bO rfl)) ?_;rfl
theorem RA{u:U}(h:a9 n ρ μ=some (.d (uS u),μ)):bA (a9 n) (kS "\"") dK ρ μ=some (decide (u=[34]),μ):=AK h rfl
theorem JO(h:a9 n ρ μ=some (.d (uS [34]),μ)):bA (a9 n) (kS "\"") dK ρ μ=some (true,μ):=(RA h).trans (by simp)
theorem xD{t:List Nat}(ht:t.length≤100000)(xs:List PyData)(i:Nat)(μ0:List ah)(hi:i=μ0.length):∀ (r:List U) (op:Option (List U)) (P C:List Nat) (Ws:List U) (a b:Option AV),
  t=P++C++jw op++r.flatten→Ws.length+r.length≤1000→Ws.flatten.length≤P.length→
  ∃ (op':AV) (P' C':List Nat) (Ws':List U) (a' b':Option AV),t=P'++C'∧Ws'.length≤1000∧Ws'.flatten.length≤P'.length∧Ws'.flatten++C'=Ws.flatten++C++(clean op r).flatten∧
   fR (j6 4 5) Sp aP none xs (lf (P.length+C.length+(jw op).length) r) (R2 t P.length (opV op (P.length+C.length)) i a b) (μ0++[.live (uL Ws)])=some (.next,R2 t P'.length op' i a' b',μ0++[.live (uL Ws')])
 | [],none,P,C,Ws,a,b,h,hn,hw=>(eP _ P C Ws a b (by simpa [jw] using h) (by simpa using hn) hw (by simp [clean]) rfl)
 | [],some q,P,C,Ws,a,b,h,hn,hw=>(eP _ P (C++jw (some q)) Ws a b (by simpa [jw] using h) (by simpa using hn) hw (by simp [clean,jw]) rfl)
 |u::r,op,P,C,Ws,a,b,h,hn,hw=>by
  simp only [AH] at hn
  have hcell:(μ0++[ah.live (uL Ws)])[i]? =some (.live (uL Ws)):=by subst hi;exact dq
  generalize hk:P.length+C.length+(jw op).length=k;have hk1:((k+u.length:Nat):Int)-1=((k+u.length-1:Nat):Int)∨u=[]:=by
   cases u with
   |nil=>exact .inr rfl
   |cons c l=>left;simp only [AH];lia
  by_cases hu:u=[34]
  ·subst hu
   have hk2:((k+([34]:U).length:Nat):Int)-1=(k:Int):=by simp
   cases op with
   |none=>
    have hk0:k=P.length+C.length:=by simpa [jw] using hk.symm
    refine h_ (xD ht xs i μ0 hi r (some []) P C Ws (some (.d (.int k))) (some (.d (uS [34]))) (by simpa [jw] using h) (by lia) hw) λop' P' C' Ws' a' b' g1 g2 g3 g4 g5=>?_;refine (eP op' P' C' Ws' a' b' g1 g2 g3 (by simpa [clean] using g4) ?_);rw [lf];refine rA hk2 ?_;refine LO (dP (ρ1:=R2 t P.length (.d .none) i (some (.d (.int k))) (some (.d (uS [34])))) rfl ?_ (az _ _)) (by
     have e:P.length+C.length+(jw (some ([]:List U))).length=k+([34]:U).length:=by simp [jw,hk0]
     rw [e] at g5
     exact g5)
    refine (aB (ρ1:=R2 t P.length (.d (.int k)) i (some (.d (.int k))) (some (.d (uS [34])))) (μ1:=μ0++[ah.live (uL Ws)]) ?_).trans ?_
    rotate_left
    ·refine rA bK ?_
     simp only [opV,hk0]
    ·refine rA (Ao (μ1:=μ0++[ah.live (uL Ws)]) (JO rfl)) ?_;rw [aB (ρ1:=R2 t P.length (.d (.int k)) i (some (.d (.int k))) (some (.d (uS [34])))) (μ1:=μ0++[ah.live (uL Ws)])]
     ·exact bK
     ·refine rA (Ao (μ1:=μ0++[ah.live (uL Ws)]) (dH (V:=.d .none) (W:=.d .none) rfl rfl rfl)) ?_;refine rA (aB (bO rfl)) ?_
      rfl
   |some q=>
    have hk0:k=P.length+C.length+(q.flatten.length+1):=by simpa [jw] using hk.symm
    have ht2:t.length=P.length+C.length+(q.flatten.length+1)+(1+r.flatten.length):=by refine rA h ?_;simp [jw];lia
    have hd:(t.drop P.length).take (P.length+C.length-P.length)=C:=by
     refine rA h ?_;refine rA (Eu _ _ _) ?_;refine rA (Eu _ _ _) ?_;refine rA Qq ?_;refine rA (L0 _ _) ?_;exact rA Pb rfl
    obtain ⟨op',P',C',Ws',a',b',g1,g2,g3,g4,g5⟩:=xD ht xs i μ0 hi r none (P++C++jw (some q)++[34]) [] (if P.length=P.length+C.length then Ws else Ws++[C]) (some (.d (.int k))) (some (.d (uS [34])))
     (by refine rA h ?_;simp [jw]) (by split<;>(try simp only [be,AH,EZ])<;>lia) (by split<;>simp only [jw,LM,GA,LX,be,AH,EZ,DO]<;>lia)
    have hC:(if P.length=P.length+C.length then Ws else Ws++[C]).flatten=Ws.flatten++C:=by
     split
     ·have:C=[]:=List.eq_nil_of_length_eq_zero (by lia)
      simp [this]
     ·simp
    refine (eP op' P' C' Ws' a' b' g1 g2 g3 (by refine rA g4 ?_;refine rA hC ?_;simp [clean]) ?_);rw [lf];refine rA hk2 ?_;have hP:(P++C++jw (some q)++[34]).length=k+1:=by simp [jw,hk0];lia
    refine LO (dP (ρ1:=R2 t P.length (.d (.int ((P.length+C.length:Nat):Int))) i (some (.d (.int k))) (some (.d (uS [34])))) rfl ?_ (az _ _)) (by
     have e:(P++C++jw (some q)++[34]).length+([]:List Nat).length+(jw (none:Option (List U))).length=k+([34]:U).length:=by refine rA hP ?_;simp [jw]
     rw [e,hP] at g5
     exact g5)
    have hcl:=N5 (t:=t) (st:=P.length) (k:=k) (i:=i) (b:=some (.d (uS [34]))) (μ:=μ0++[ah.live (uL Ws)]) (op:=P.length+C.length) (Ws:=Ws) (Ws':=if P.length=P.length+C.length then Ws else Ws++[C]) hcell ht (by lia) (by lia) (by lia) (by exact rA hd rfl);refine (aB (ρ1:=R2 t (k+1) (.d .none) i (some (.d (.int k))) (some (.d (uS [34])))) (μ1:=μ0++[ah.live (uL (if P.length=P.length+C.length then Ws else Ws++[C]))]) ?_).trans ?_
    rotate_left
    ·refine rA bK ?_;rfl
    ·refine rA (Ao (μ1:=μ0++[ah.live (uL Ws)]) (JO rfl)) ?_;rw [aB (ρ1:=R2 t (k+1) (.d .none) i (some (.d (.int k))) (some (.d (uS [34])))) (μ1:=μ0++[ah.live (uL (if P.length=P.length+C.length then Ws else Ws++[C]))])]
     ·exact bK
     ·refine rA (D0 (μ1:=μ0++[ah.live (uL Ws)]) (dH (V:=.d (.int ((P.length+C.length:Nat):Int))) (W:=.d .none) rfl rfl rfl)) ?_;refine rA hcl ?_
      exact rA (show (μ0++[ah.live (uL Ws)]).set i (.live (uL (if P.length=P.length+C.length then Ws else Ws++[C])))=μ0++[ah.live (uL (if P.length=P.length+C.length then Ws else Ws++[C]))] by subst hi;exact fm) rfl
  ·have step:Sp (R2 t P.length (opV op (P.length+C.length)) i (some (.d (.int (((k+u.length:Nat):Int)-1)))) (some (.d (uS u)))) (μ0++[.live (uL Ws)])=some (.next,R2 t P.length (opV op (P.length+C.length)) i (some (.d (.int (((k+u.length:Nat):Int)-1)))) (some (.d (uS u))),μ0++[.live (uL Ws)]):=by
    refine (aB ?_).trans bK;refine rA (D0 (μ1:=μ0++[ah.live (uL Ws)]) ((RA rfl).trans (by simp [hu]))) ?_;exact bK
   cases op with
   |none=>
    refine h_ (xD ht xs i μ0 hi r none P (C++u) Ws (some (.d (.int (((k+u.length:Nat):Int)-1)))) (some (.d (uS u))) (by refine rA h ?_;simp [jw]) (by lia) hw) λop' P' C' Ws' a' b' g1 g2 g3 g4 g5=>?_;refine (eP op' P' C' Ws' a' b' g1 g2 g3 (by refine rA g4 ?_;rw [clean];refine rA (if_neg hu) ?_;simp) ?_);rw [lf];refine LO (dP rfl step (az _ _)) ?_;have e:P.length+(C++u).length+(jw (none:Option (List U))).length=k+u.length:=by refine rB hk ?_;refine rA be ?_;simp [jw];lia
    rw [e] at g5
    exact g5
   |some q=>
    refine h_ (xD ht xs i μ0 hi r (some (q++[u])) P C Ws (some (.d (.int (((k+u.length:Nat):Int)-1)))) (some (.d (uS u))) (by refine rA h ?_;simp [jw]) (by lia) hw) λop' P' C' Ws' a' b' g1 g2 g3 g4 g5=>?_;refine (eP op' P' C' Ws' a' b' g1 g2 g3 (by refine rA g4 ?_;rw [clean];exact rA (if_neg hu) rfl) ?_);rw [lf];refine LO (dP rfl step (az _ _)) ?_;have e:P.length+C.length+(jw (some (q++[u]))).length=k+u.length:=by refine rB hk ?_;simp [jw];lia
    rw [e] at g5
    exact g5
theorem xr:∀ (vs:List U),(∀u∈vs,u≠[34])→clean none vs=vs
 | [],_=>rfl
 |u::r,h=>by
  rw [clean];refine rA (if_neg (h u (by simp))) ?_;exact rA (xr r λv hv=>h v (by simp [hv])) rfl
theorem kr(t:List U)(ht:t=[]∨t=[[92]]):∀ (us:List U) (op:Option (List U)),us.all wf=true→(∀q,op=some q→q.all wf=true)→∃X,clean op (us++t)=X++t∧X.all wf=true
 | [],none,_,_=>by
  rcases ht with rfl|rfl
  ·exact (aZ ([]) rfl rfl)
  ·exact (aZ ([]) (by decide) rfl)
 | [],some q,_,h=>by
  have hq:=h q rfl
  rcases ht with rfl|rfl
  ·exact (aZ ([34]::q) (by simp [clean]) hq)
  ·exact (aZ ([34]::q) (by simp [clean]) hq)
 |u::us,none,hu,_=>by
  simp only [Mm,Fd] at hu
  by_cases q:u=[34]
  ·refine au (kr t ht us (some []) hu.2 (λq e=>by refine cC e ?_;rfl)) λX e w=>?_
   exact (aZ X (by refine rA L7 ?_;rw [clean];refine rA (if_pos q) ?_;exact rA e rfl) w)
  ·refine au (kr t ht us none hu.2 (λq e=>by exact cv e)) λX e w=>?_
   exact (aZ (u::X) (by refine rA L7 ?_;rw [clean];refine rA (if_neg q) ?_;refine rA e ?_;rfl) (by simp [hu.1,w]))
 |u::us,some q,hu,h=>by
  simp only [Mm,Fd] at hu
  have hq:=h q rfl
  by_cases z:u=[34]
  ·refine au (kr t ht us none hu.2 (λq e=>by exact cv e)) λX e w=>?_
   exact (aZ X (by refine rA L7 ?_;rw [clean];refine rA (if_pos z) ?_;exact rA e rfl) w)
  ·refine au (kr t ht us (some (q++[u])) hu.2 (λq' e=>by refine cC e ?_;simp [hq,hu.1])) λX e w=>?_
   exact (aZ X (by refine rA L7 ?_;rw [clean];refine rA (if_neg z) ?_;exact rA e rfl) w)
theorem WF.clean{vs:List U}(h:WF vs):WF (clean none vs):=by
 refine bm h λus t zq2 hu ht=>?_;subst zq2;refine au (kr t ht us none hu (λq e=>by exact cv e)) λX e w=>?_;exact (dy X t e w ht)
theorem kW:∀ (vs:List U) (op:Option (List U)),(clean op vs).length≤vs.length+(match op with|none=>0|some q=>q.length+1)
 | [],none=>by simp [clean]
 | [],some q=>by simp [clean]
 |u::r,none=>by
  rw [clean];split
  ·have:=kW r (some []);simp only [EZ] at this;simp only [AH];lia
  ·have:=kW r none;simp only at this;simp only [AH];lia
 |u::r,some q=>by
  rw [clean];split
  ·have:=kW r none;simp only at this;simp only [AH];lia
  ·have:=kW r (some (q++[u]));simp only [be,AH,EZ] at this;simp only [AH];lia
theorem iD:∀ (vs:List U) (op:Option (List U)),(clean op vs).flatten.length≤vs.flatten.length+(jw op).length
 | [],none=>by simp [clean]
 | [],some q=>by simp [clean,jw]
 |u::r,none=>by
  rw [clean];split
  ·rename_i h;subst h;have:=iD r (some []);simp only [jw,LX,AH,EZ] at this;simp only [GA,be,AH,EZ,jw];lia
  ·have:=iD r none;simp only [jw,EZ] at this;simp only [GA,be,jw,EZ];lia
 |u::r,some q=>by
  rw [clean];split
  ·have:=iD r none;simp only [jw,EZ] at this;simp only [GA,be,jw,AH];lia
  ·have:=iD r (some (q++[u]));simp only [jw,LM,GA,LX,be,AH,DO] at this;simp only [GA,be,jw,AH];lia
theorem sE{t:List Nat}(hf:f ρ μ=some (.d (.str (tS t)),μ)):bA (kS "\"") f lF ρ μ=some (!decide (34∈t),μ):=by
 refine dH (V:=.d (.str ⟨#[34]⟩)) (W:=.d (.str (tS t))) rfl hf ?_
 have:=StrLaws.found_one (tS t) 34
 rw [fZ] at this
 refine (?_:some (!(!(Lz (tS t) ⟨#[34]⟩ 0 (tS t).length 1).isEmpty))=_);exact rA this rfl
theorem ltI{x:Int}(hf:f ρ μ=some (.d (.int x),μ))(hg:g ρ μ=some (.d (.int y),μ)):bA f g (eg λx y=>decide (x<y)) ρ μ=some (decide (x<y),μ):=dH hf hg rfl
theorem gtI{x:Int}(hf:f ρ μ=some (.d (.int x),μ))(hg:g ρ μ=some (.d (.int y),μ)):bA f g (eg λx y=>decide (y<x)) ρ μ=some (decide (y<x),μ):=dH hf hg rfl
noncomputable def Qh(t:List Nat):d5:=[some (.d (.str (tS t))),none,none,none,none,none]
theorem s2{vs:List U}(hw:WF vs)(hz:vs.flatten.length≤100000)(hn:vs.length≤1000):aM [.d (.str (tS vs.flatten))] μ=some (.d (.str (tS (clean none vs).flatten)),μ):=by
 by_cases h34:34∈vs.flatten
 ·refine h_ (xD hz (lf 0 vs) μ.length μ rfl vs none [] [] [] none none (by simp [jw]) (by simpa using hn) (by simp)) λop' P' C' Ws' a' b' g1 g2 g3 g4 g5=>?_
  have e5:MD (R2 vs.flatten P'.length op' μ.length a' b') (μ++[.live (uL Ws')])=some (.next,R2 vs.flatten P'.length op' μ.length a' b',μ++[.live (uL (if C'=[] then Ws' else Ws'++[C']))]):=by
   unfold MD;have el:af [a9 0] dC (R2 vs.flatten P'.length op' μ.length a' b') (μ++[.live (uL Ws')])=some (.d (.int vs.flatten.length),μ++[.live (uL Ws')]):=by
    refine d6 (V:=.d (.str (tS vs.flatten))) rfl ?_;exact (len_str (by rw [eC];exact aa hz)).trans (by rw [eC])
   have hcm:=ltI (f:=a9 1) (g:=af [a9 0] dC) (ρ:=R2 vs.flatten P'.length op' μ.length a' b') (x:=P'.length) rfl el;have hl:vs.flatten.length=P'.length+C'.length:=by refine rA g1 ?_;exact rA be rfl
   by_cases q:C'=[]
   ·subst q
    refine rA (if_pos rfl) ?_;refine rA (gS hcm (by simp [hl])) ?_;exact rA bK rfl
   ·have:0<C'.length:=List.length_pos_iff.mpr q
    refine rA (if_neg q) ?_;refine rA (gC hcm (decide_eq_true (by lia))) ?_;refine (aB (er (gj (j:=μ.length) (d:=uS C') rfl (Ca (l:=vs.flatten) rfl (dF rfl) rfl (l':=C') ?_ hz (by lia)) dq (aa (by simp [uL];lia))))).trans ?_
    ·refine rA (N3 _ (by lia)) ?_;refine rA g1 ?_;exact rA Qq rfl
    ·refine rA bK ?_;refine rA fm ?_
     simp [uL]
  have e6:Nn (R2 vs.flatten P'.length op' μ.length a' b') (μ++[.live (uL (if C'=[] then Ws' else Ws'++[C']))])=some (.ret (.d (.str (tS (clean none vs).flatten))),R2 vs.flatten P'.length op' μ.length a' b',μ++[.live (uL (if C'=[] then Ws' else Ws'++[C']))]):=by
   unfold Nn;have hfl:(if C'=[] then Ws' else Ws'++[C']).flatten=(clean none vs).flatten:=by
    have:(if C'=[] then Ws' else Ws'++[C']).flatten=Ws'.flatten++C':=by split<;>simp_all
    refine rA this ?_;refine rA g4 ?_;simp
   have:=iD vs none
   simp only [jw,EZ] at this
   refine rA (dZ (mu (f:=a9 3) (V:=.c μ.length) (us:=if C'=[] then Ws' else Ws'++[C']) rfl (eR dq) (by rw [hfl];lia))) ?_;exact rA hfl rfl
  refine (d0 (ρ':=R2 vs.flatten P'.length op' μ.length a' b') (μ':=μ++[.live (uL (if C'=[] then Ws' else Ws'++[C']))]) (x:=.str (tS (clean none vs).flatten)) rfl ?_).trans (by exact rA mE rfl);refine (?_:f2 (Qh vs.flatten) μ=_);unfold f2;have e0:K8 (Qh vs.flatten) μ=some (.next,Qh vs.flatten,μ):=by
   unfold K8;refine rA (gS (sE (t:=vs.flatten) rfl) (by simp only [h34,decide_true,Rp])) ?_;exact bK
  have e1:W5 (Qh vs.flatten) μ=some (.next,(Qh vs.flatten).set 1 (some (.d (.int 0))),μ):=rfl;have e2:VI ((Qh vs.flatten).set 1 (some (.d (.int 0)))) μ=some (.next,[some (.d (.str (tS vs.flatten))),some (.d (.int 0)),some (.d .none),none,none,none],μ):=rfl;have e3:NY [some (.d (.str (tS vs.flatten))),some (.d (.int 0)),some (.d .none),none,none,none] μ=some (.next,R2 vs.flatten 0 (.d .none) μ.length none none,μ++[.live []]):=by
   unfold NY;refine rA (bO vD) ?_;rfl
  have e4:OX (R2 vs.flatten 0 (.d .none) μ.length none none) (μ++[.live []])=some (.next,R2 vs.flatten P'.length op' μ.length a' b',μ++[.live (uL Ws')]):=by
   unfold OX;refine rA (gM (pj (vs:=vs) rfl hw)) ?_;exact g5
  refine rA (aB e0) ?_;refine rA (aB e1) ?_;refine rA (aB e2) ?_;refine rA (aB e3) ?_;refine rA (aB e4) ?_;refine rA (aB e5) ?_;exact rA (cV e6) rfl
 ·refine (d0 (ρ':=Qh vs.flatten) (μ':=μ) (x:=.str (tS vs.flatten)) rfl ?_).trans ?_
  ·refine (?_:f2 (Qh vs.flatten) μ=_)
   unfold f2;refine cV ?_;unfold K8;refine rA (gC (sE (t:=vs.flatten) rfl) (by simp only [h34,decide_false,UM])) ?_;exact cV (dZ rfl)
  ·refine rA LW ?_;exact rA (xr vs λu hu q=>h34 (Ug.mpr (aZ u hu (by simp [q])))) rfl
noncomputable def mD:Int→List U→Option Int
 |n,[]=>some n
 |n,u::r=>if u=[40] then mD (n+1) r else if u=[41] then (if n-1<0 then none else mD (n-1) r) else mD n r
noncomputable def LK(vs:List U):Bool:=match mD 0 (clean none vs) with
 |some m=>m==0
 |none=>false
noncomputable def R3(t:List Nat)(n:Int)(a b:Option AV):d5:=[some (.d (.str (tS t))),some (.d (.int n)),a,b]
abbrev al9:SF:=(jF (bA (a9 3) (kS ")") dK) (ap (iu 1 (kI 1) B3) (ap (jF (bA (a9 1) (kI 0) (eg λx y=>decide (x<y))) (ap (ff (kB false)) aP) aP) aP)) aP)
abbrev SI:SF:=(ap (jF (bA (a9 3) (kS "(") dK) (ap (iu 1 (kI 1) Cf) aP) (ap al9 aP)) aP)
theorem JU{u:U}(c:Nat){s:Str}(hs:s=⟨#[c]⟩)(h:a9 n ρ μ=some (.d (uS u),μ)):bA (a9 n) (kS s) dK ρ μ=some (decide (u=[c]),μ):=AK h (by refine rA hs ?_;rfl)
theorem ap2{t:List Nat}{n:Int}{a b:Option AV}:(iu 1 (kI 1) Cf) (R3 t n a b) μ=some (.next,R3 t (n+1) a b,μ):=rfl
theorem ZL{t:List Nat}{n:Int}{a b:Option AV}:(iu 1 (kI 1) B3) (R3 t n a b) μ=some (.next,R3 t (n-1) a b,μ):=rfl
theorem B0(t:List Nat)(xs:List PyData)(μ:List ah):∀ (r:List U) (k:Nat) (n:Int) (a b:Option AV),∃a' b' n',
  fR (j6 2 3) SI aP none xs (lf k r) (R3 t n a b) μ=(match mD n r with|some m=>some (.next,R3 t m a' b',μ)|none=>some (.ret (.d (.bool false)),R3 t n' a' b',μ))
 | [],k,n,a,b=>(jG a b n rfl)
 |u::r,k,n,a,b=>by
  have tf:j6 2 3 (R3 t n a b) (.tuple [.int (((k+u.length:Nat):Int)-1),uS u])=some (R3 t n (some (.d (.int (((k+u.length:Nat):Int)-1)))) (some (.d (uS u)))):=rfl;rw [lf,mD];generalize hA:(some (AV.d (.int (((k+u.length:Nat):Int)-1))))=A at tf
  have hL:=JU (ρ:=R3 t n A (some (.d (uS u)))) (μ:=μ) (u:=u) (n:=3) 40 (s:="(") (by decide) rfl;have hR:=JU (ρ:=R3 t n A (some (.d (uS u)))) (μ:=μ) (u:=u) (n:=3) 41 (s:=")") (by decide) rfl
  by_cases q:u=[40]
  ·refine rA (if_pos q) ?_
   refine jE (B0 t xs μ r (k+u.length) (n+1) A (some (.d (uS u)))) λa' b' n' e=>?_;refine (jG a' b' n' (LO (dP tf ?_ (az _ _)) e));refine (aB ?_).trans bK;refine rA (gC hL (decide_eq_true q)) ?_;refine rA (aB ap2) ?_;exact rA bK rfl
  ·refine rA (if_neg q) ?_
   by_cases z:u=[41]
   ·refine rA (if_pos z) ?_
    by_cases w:n-1<0
    ·refine rA (if_pos w) ?_
     refine (jG A (some (.d (uS u))) (n-1) (qd tf ?_));refine cV ?_;refine rA (gS hL (decide_eq_false q)) ?_;refine cV ?_;refine (gC hR (decide_eq_true z)).trans ?_;refine rA (aB ZL) ?_;refine cV ?_;refine rA (gC (ltI (x:=n-1) (y:=0) rfl rfl) (decide_eq_true w)) ?_;exact cV rfl
    ·refine rA (if_neg w) ?_
     refine jE (B0 t xs μ r (k+u.length) (n-1) A (some (.d (uS u)))) λa' b' n' e=>?_;refine (jG a' b' n' (LO (dP tf ?_ (az _ _)) e));refine (aB ?_).trans bK;refine rA (gS hL (decide_eq_false q)) ?_;refine (aB ?_).trans bK;refine (gC hR (decide_eq_true z)).trans ?_;refine rA (aB ZL) ?_;refine (aB ?_).trans bK;refine rA (gS (ltI (x:=n-1) (y:=0) rfl rfl) (decide_eq_false w)) ?_;exact bK
   ·refine rA (if_neg z) ?_
    refine jE (B0 t xs μ r (k+u.length) n A (some (.d (uS u)))) λa' b' n' e=>?_;refine (jG a' b' n' (LO (dP tf ?_ (az _ _)) e));refine (aB ?_).trans bK;refine rA (gS hL (decide_eq_false q)) ?_;refine (aB ?_).trans bK;refine (gS hR (decide_eq_false z)).trans bK
theorem s3{vs:List U}(hw:WF vs)(hz:vs.flatten.length≤100000)(hn:vs.length≤1000):ar [.d (.str (tS vs.flatten))] μ=some (.d (.bool (LK vs)),μ):=by
 refine jE (B0 (clean none vs).flatten (lf 0 (clean none vs)) μ (clean none vs) 0 0 none none) λa' b' n' e=>?_;have e0:Os [some (.d (.str (tS vs.flatten))),none,none,none] μ=some (.next,[some (.d (.str (tS (clean none vs).flatten))),none,none,none],μ):=by
  unfold Os;refine rA (bO (d6 (V:=.d (.str (tS vs.flatten))) rfl (s2 hw hz hn))) ?_;rfl
 have e1:T9 [some (.d (.str (tS (clean none vs).flatten))),none,none,none] μ=some (.next,R3 (clean none vs).flatten 0 none none,μ):=rfl;have e2:Mz (R3 (clean none vs).flatten 0 none none) μ=fR (j6 2 3) SI aP none (lf 0 (clean none vs)) (lf 0 (clean none vs)) (R3 (clean none vs).flatten 0 none none) μ:=by
  unfold Mz;exact rA (gM (pj (vs:=clean none vs) rfl hw.clean)) rfl
 rw [e] at e2
 unfold LK;cases hc:mD 0 (clean none vs) with
 |none=>
  rw [hc] at e2
  refine (d0 (ρ':=R3 (clean none vs).flatten n' a' b') (μ':=μ) (x:=.bool false) rfl ?_).trans (by exact rA LW rfl);refine (?_:f3 [some (.d (.str (tS vs.flatten))),none,none,none] μ=_);unfold f3;refine rA (aB e0) ?_;refine rA (aB e1) ?_;exact rA (cV e2) rfl
 |some m=>
  rw [hc] at e2
  refine (d0 (ρ':=R3 (clean none vs).flatten m a' b') (μ':=μ) (x:=.bool (m==0)) rfl ?_).trans (by exact rA LW rfl);refine (?_:f3 [some (.d (.str (tS vs.flatten))),none,none,none] μ=_);unfold f3;refine rA (aB e0) ?_;refine rA (aB e1) ?_;refine rA (aB e2) ?_;refine cV ?_;unfold Td;exact dZ (hH (V:=.d (.int m)) (W:=.d (.int 0)) rfl rfl rfl)
theorem TK{f:SF}(hl:Vs.length=k)(h:f (cF sc Vs) μ=some (.ret (.c j),ρ',μ')):cA k sc f Vs μ=some (.c j,μ'):=by
 exact (if_pos hl).trans (b5 h)
def k5(vs:List U):PyData:=if LK vs then .str (tS vs.flatten) else .str "('', '')"
noncomputable def R4(T:PyData)(i:Nat)(a:Option AV):d5:=[some (.d T),some (.c i),a]
abbrev Zx:SF:=(ap (jF (ui (gf (af [(a9 2)] ar))) (ap (cb 2 (kS "('', '')")) aP) aP) (ap (cj (eh (a9 1) (a9 2))) aP))
theorem Rl(T:PyData)(xs:List PyData)(μ:List ah)(i:Nat)(hi:i=μ.length):∀ (r:List (List U)) (acc:List PyData) (a:Option AV),(∀vs∈r,WF vs∧vs.flatten.length≤100000∧vs.length≤1000)→acc.length+r.length≤1000→∃a',
  fR (dz 2) Zx aP none xs (r.map λvs=>.str (tS vs.flatten)) (R4 T i a) (μ++[.live acc])=some (.next,R4 T i a',μ++[.live (acc++r.map k5)])
 | [],acc,a,_,_=>⟨a,congrArg (λz=>some (Fl.next,R4 T i a,μ++[ah.live z])) (DO _).symm⟩
 |vs::r,acc,a,h,hz=>by
  simp only [AH] at hz
  refine dW (h vs (by simp)) λh1 h2 h3=>?_;refine bP (Rl T xs μ i hi r (acc++[k5 vs]) (some (.d (k5 vs))) (λv hv=>h v (by simp [hv])) (by simp only [be,AH,EZ];lia)) λa' e=>?_;refine ⟨a',?_⟩;refine rA F7 ?_;refine rA F7 ?_;refine rA (show acc++k5 vs::r.map k5=acc++[k5 vs]++r.map k5 by simp) ?_;refine LO (dP (ρ1:=R4 T i (some (.d (.str (tS vs.flatten))))) rfl ?_ (az _ _)) e;have hv:ui (gf (af [a9 2] ar)) (R4 T i (some (.d (.str (tS vs.flatten))))) (μ++[.live acc])=some (!(LK vs),μ++[.live acc]):=
   not_of (nN (V:=.d (.bool (LK vs))) (d6 (V:=.d (.str (tS vs.flatten))) rfl (s3 h1 h2 h3)) rfl)
  have e1:(jF (ui (gf (af [(a9 2)] ar))) (ap (cb 2 (kS "('', '')")) aP) aP) (R4 T i (some (.d (.str (tS vs.flatten))))) (μ++[.live acc])=some (.next,R4 T i (some (.d (k5 vs))),μ++[.live acc]):=by
   by_cases q:LK vs=true
   ·refine rA (gS hv (by rw [q];rfl)) ?_;refine rA bK ?_
    simp only [k5,q,if_true]
   ·refine rA (gC hv (by simp [q])) ?_;refine rA (aB (bO rfl)) ?_;refine rA bK ?_
    simp only [k5,q];rfl
  refine (aB e1).trans ?_;refine rA (aB (er (gj (j:=i) (d:=k5 vs) rfl rfl (by subst hi;exact dq) (aa (by lia))))) ?_;refine rA bK ?_;subst hi;exact rA fm rfl
theorem s4{vss:List (List U)}(h:∀vs∈vss,WF vs∧vs.flatten.length≤100000∧vs.length≤1000)(hz:vss.length≤1000):
  aX [.d (.list (vss.map λvs=>.str (tS vs.flatten)))] μ=some (.c μ.length,μ++[.live (vss.map k5)]):=by
 refine bP (Rl (.list (vss.map λvs=>.str (tS vs.flatten))) (vss.map λvs=>.str (tS vs.flatten)) μ μ.length rfl vss [] none h (by simpa using hz)) λa' e=>?_;have e0:Md [some (.d (.list (vss.map λvs=>.str (tS vs.flatten)))),none,none] μ=some (.next,R4 (.list (vss.map λvs=>.str (tS vs.flatten))) μ.length none,μ++[.live []]):=by
  unfold Md;refine rA (bO vD) ?_;rfl
 have e1:PO (R4 (.list (vss.map λvs=>.str (tS vs.flatten))) μ.length none) (μ++[.live []])=some (.next,R4 (.list (vss.map λvs=>.str (tS vs.flatten))) μ.length a',μ++[.live (vss.map k5)]):=by
  unfold PO;refine rA (gM (d9 (V:=.d (.list (vss.map λvs=>.str (tS vs.flatten)))) rfl rfl)) ?_;exact e
 have:f4 [some (.d (.list (vss.map λvs=>.str (tS vs.flatten)))),none,none] μ=some (.ret (.c μ.length),R4 (.list (vss.map λvs=>.str (tS vs.flatten))) μ.length a',μ++[.live (vss.map k5)]):=by
  unfold f4;refine rA (aB e0) ?_;refine rA (aB e1) ?_;exact cV (dZ rfl)
 exact TK rfl this
def hx(i:Int):Str:=SB "0x" 16 i
def rC(flag:Int):Str:=(si flag).getD (hx flag)
noncomputable def uk:List Nat→Int→List Str→Option (List Str)
 | [],fl,ns=>if (hx fl).length≤1000 then some (ns++[hx fl]) else none
 |i::r,fl,ns=>if D5 fl (1*2^i)=0 then uk r fl ns else
  if (hx (1*2^i)).length≤1000 then (if Ja fl (1*2^i)=0 then some (ns++[rC (1*2^i)]) else uk r (Ja fl (1*2^i)) (ns++[rC (1*2^i)])) else none
noncomputable def pf(fl:Int):Option Str:=match uk (zt 32) fl [] with
 |some l=>if (l.map (·.length)).sum+l.length*2≤10000 then some (LA ", " l) else none
 |none=>none
noncomputable def R7(fl:Int)(i:Nat)(a b:Option AV):d5:=[some (.d (.int fl)),some (.c i),a,b]
theorem an9(i:Nat)(h:i<32):E9 1 i=some (1*2^i):=by
 unfold E9;refine rA (if_pos (fu (by lia) (by lia) (by decide))) ?_;rfl
theorem tn{x:Int}(hf:f ρ μ=some (.d (.int x),μ))(h:(hx x).length≤1000):af [f] oS ρ μ=some (.d (.str (hx x)),μ):=by
 exact d6 hf ((bU (rfl:l1 [AV.d (.int x)]=some _)).trans ((bU (rfl:jM (.d (.int x))=some x)).trans (if_pos (aa (L3 h (by decide))))))
abbrev YQ:SF:=(ap (cb 3 (aj (kI 1) (a9 2) (aS E9))) (ap (jF (gf (aj (a9 0) (a9 3) (aS λx y=>some (D5 x y)))) (ap (cj (eh (a9 1) (sY si (a9 3) (af [(a9 3)] oS)))) (ap (iu 0 (a9 3) C6) (ap (jF (ui (gf (a9 0))) (ap MK aP) aP) aP))) aP) aP))
abbrev Yk:SF:=(ap (cj (eh (a9 1) (af [(a9 0)] oS))) aP)
noncomputable def bS(l:List Str):List PyData:=l.map .str
theorem BZ(x:Int):(x != 0)= !decide (x=0):=by
 by_cases h:x=0<;>simp [h]
theorem IL(xs:List PyData)(μ:List ah)(j:Nat)(hj:j=μ.length):∀ (r:List Nat) (fl:Int) (ns:List Str) (a b:Option AV) (l:List Str),(∀i∈r,i<32)→uk r fl ns=some l→ns.length+r.length≤100→
  ∃fl' a' b',fR (dz 2) YQ Yk none xs (r.map λ(i:Nat)=>.int i) (R7 fl j a b) (μ++[.live (bS ns)])=some (.next,R7 fl' j a' b',μ++[.live (bS l)])
 | [],fl,ns,a,b,l,_,h,hz=>by
  unfold uk at h
  split at h
  ·rename_i q
   refine cC h ?_;refine (jG fl a b ?_);refine rA M3 ?_;refine rA H8 ?_;refine (aB (er (gj (j:=j) (d:=.str (hx fl)) rfl (tn rfl q) (by subst hj;exact dq) (aa (by simp only [bS,xO];lia))))).trans ?_;refine rA bK ?_;subst hj;refine rA fm ?_
   simp [bS]
  ·exact cv h
 |i::r,fl,ns,a,b,l,hr,h,hz=>by
  simp only [AH] at hz
  have hi:i<32:=hr i (by simp);rw [uk] at h
  refine rA F7 ?_;have tf:dz 2 (R7 fl j a b) (.int (i:Int))=some (R7 fl j (some (.d (.int i))) b):=rfl;have e0:cb 3 (aj (kI 1) (a9 2) (aS E9)) (R7 fl j (some (.d (.int i))) b) (μ++[.live (bS ns)])=some (.next,R7 fl j (some (.d (.int i))) (some (.d (.int (1*2^i)))),μ++[.live (bS ns)]):=
   bO (cW (x:=1) (y:=i) rfl rfl (an9 i hi))
  have ev:gf (aj (a9 0) (a9 3) (aS λx y=>some (D5 x y))) (R7 fl j (some (.d (.int i))) (some (.d (.int (1*2^i))))) (μ++[.live (bS ns)])=some (!decide (D5 fl (1*2^i)=0),μ++[.live (bS ns)]):=by
   refine rB (BZ _) ?_;exact nN (cW (x:=fl) (y:=1*2^i) rfl rfl rfl) rfl
  by_cases q:D5 fl (1*2^i)=0
  ·rw [if_pos q] at h
   refine jE (IL xs μ j hj r fl ns (some (.d (.int i))) (some (.d (.int (1*2^i)))) l (λk hk=>hr k (by simp [hk])) h (by lia)) λfl' a' b' e=>?_;refine (jG fl' a' b' (LO (dP tf ?_ (az _ _)) e));refine (aB e0).trans ?_;refine (aB ?_).trans bK;refine rA (gS ev (by rw [decide_eq_true q];rfl)) ?_;exact bK
  ·rw [if_neg q] at h
   by_cases hl:(hx (1*2^i)).length≤1000
   ·rw [if_pos hl] at h
    have ea:cj (eh (a9 1) (sY si (a9 3) (af [(a9 3)] oS))) (R7 fl j (some (.d (.int i))) (some (.d (.int (1*2^i))))) (μ++[.live (bS ns)])=some (.next,R7 fl j (some (.d (.int i))) (some (.d (.int (1*2^i)))),μ++[.live (bS (ns++[rC (1*2^i)]))]):=by
     have hd:sY si (a9 3) (af [(a9 3)] oS) (R7 fl j (some (.d (.int i))) (some (.d (.int (1*2^i))))) (μ++[.live (bS ns)])=some (.d (.str (rC (1*2^i))),μ++[.live (bS ns)]):=by
      have hh:=tn (f:=a9 3) (ρ:=R7 fl j (some (.d (.int i))) (some (.d (.int (1*2^i))))) (μ:=μ++[.live (bS ns)]) (x:=1*2^i) rfl hl;have hg:a9 3 (R7 fl j (some (.d (.int i))) (some (.d (.int (1*2^i))))) (μ++[.live (bS ns)])=some (.d (.int (1*2^i)),μ++[.live (bS ns)]):=rfl;exact (b5 hg).trans ((bU (rfl:jM (.d (.int (1*2^i)))=some _)).trans ((b5 hh).trans (bU rfl)))
     refine rA (er (gj (j:=j) rfl hd (by subst hj;exact dq) (aa (by simp only [bS,xO];lia)))) ?_;subst hj;refine rA fm ?_
     simp [bS]
    have ex:iu 0 (a9 3) C6 (R7 fl j (some (.d (.int i))) (some (.d (.int (1*2^i))))) (μ++[.live (bS (ns++[rC (1*2^i)]))])=some (.next,R7 (Ja fl (1*2^i)) j (some (.d (.int i))) (some (.d (.int (1*2^i)))),μ++[.live (bS (ns++[rC (1*2^i)]))]):=rfl;have en:ui (gf (a9 0)) (R7 (Ja fl (1*2^i)) j (some (.d (.int i))) (some (.d (.int (1*2^i))))) (μ++[.live (bS (ns++[rC (1*2^i)]))])=some (decide (Ja fl (1*2^i)=0),μ++[.live (bS (ns++[rC (1*2^i)]))]):=by
     have:=not_of (nN (f:=a9 0) (ρ:=R7 (Ja fl (1*2^i)) j (some (.d (.int i))) (some (.d (.int (1*2^i))))) (μ:=μ++[.live (bS (ns++[rC (1*2^i)]))]) (V:=.d (.int (Ja fl (1*2^i)))) rfl rfl)
     rw [BZ,Bool.not_not] at this
     exact this
    by_cases z:Ja fl (1*2^i)=0
    ·rw [if_pos z] at h
     refine cC h ?_;refine (jG (Ja fl (1*2^i)) (some (.d (.int i))) (some (.d (.int (1*2^i)))) (TL tf ?_));refine (aB e0).trans ?_;refine FU ?_;refine rA (gC ev (by rw [decide_eq_false q];rfl)) ?_;refine rA (aB ea) ?_;refine rA (aB ex) ?_;refine FU ?_;refine rA (gC en (decide_eq_true z)) ?_;exact FU W6
    ·rw [if_neg z] at h
     refine jE (IL xs μ j hj r (Ja fl (1*2^i)) (ns++[rC (1*2^i)]) (some (.d (.int i))) (some (.d (.int (1*2^i)))) l (λk hk=>hr k (by simp [hk])) h (by simp only [be,AH,EZ];lia)) λfl' a' b' e=>?_;refine (jG fl' a' b' (LO (dP tf ?_ (az _ _)) e));refine (aB e0).trans ?_;refine (aB ?_).trans bK;refine rA (gC ev (by rw [decide_eq_false q];rfl)) ?_;refine rA (aB ea) ?_;refine rA (aB ex) ?_;refine (aB ?_).trans bK;refine rA (gS en (decide_eq_false z)) ?_;exact bK
   ·rw [if_neg hl] at h
    exact cv h
theorem CC:∀l:List Str,nG (bS l)=some l
 | []=>rfl
 |x::l=>by
  exact (bU (rfl:dS (.str x)=some x)).trans (bU (CC l))
theorem ua{l:List Str}{sep:Str}(hf:f ρ μ=some (V,μ))(hp:dc μ V=some (bS l))(hz:(l.map (·.length)).sum+l.length*sep.length≤10000):dw (kS sep) [f] f5 ρ μ=some (.d (.str (LA sep l)),μ):=by
 exact BK hf hp (CC l) (L3 hz (by decide))
set_option tactic.hygienic true in
theorem s7{fl:Int}(h:pf fl=some x):cO [.d (.int fl)] μ=some (.d (.str x),μ):=by
 unfold pf at h
 split at h
 ·rename_i l hl
  split at h
  ·rename_i hz
   refine cC h ?_;refine jE (IL (fK 0 32) μ μ.length rfl (zt 32) fl [] none none l (λi hi=>D3.mp hi) hl (by decide)) λfl' a' b' e=>?_;refine (d0 (k:=1) (ρ':=R7 fl' μ.length a' b') (μ':=μ++[.live (bS l)]) (x:=.str (LA ", " l)) rfl ?_).trans (by exact rA mE rfl);refine (?_:f7 [some (.d (.int fl)),none,none,none] μ=_);unfold f7;have e0:MS [some (.d (.int fl)),none,none,none] μ=some (.next,R7 fl μ.length none none,μ++[.live []]):=by
    unfold MS;refine rA (bO vD) ?_;rfl
   have e1:MB (R7 fl μ.length none none) (μ++[.live []])=some (.next,R7 fl' μ.length a' b',μ++[.live (bS l)]):=by
    unfold MB;refine rA (gM (xs:=fK 0 32) (gg:=none) (μ1:=μ++[.live []]) rfl) ?_;exact e
   have e2:MR (R7 fl' μ.length a' b') (μ++[.live (bS l)])=some (.ret (.d (.str (LA ", " l))),R7 fl' μ.length a' b',μ++[.live (bS l)]):=by
    unfold MR;exact dZ (ua (V:=.c μ.length) rfl (eR dq) (by refine rA (show (Ks ", ").length=2 from by decide) ?_;exact hz))
   refine rA (aB e0) ?_;refine rA (aB e1) ?_;exact rA (cV e2) rfl
  ·exact cv h
 ·exact cv h
noncomputable def wX:List (List Nat):=[[79,80,84,73,77,73,90,69,68],[78,69,87,76,79,67,65,76,83],[86,65,82,65,82,71,83],[86,65,82,75,69,89,87,79,82,68,83],[78,69,83,84,69,68],[71,69,78,69,82,65,84,79,82],[78,79,70,82,69,69],[67,79,82,79,85,84,73,78,69],[73,84,69,82,65,66,76,69,95,67,79,82,79,85,84,73,78,69],[65,83,89,78,67,95,71,69,78,69,82,65,84,79,82],[48,120,52,48,48],[48,120,56,48,48],[48,120,49,48,48,48],[48,120,50,48,48,48],[48,120,52,48,48,48],[48,120,56,48,48,48],[48,120,49,48,48,48,48],[48,120,50,48,48,48,48],[48,120,52,48,48,48,48],[48,120,56,48,48,48,48],[48,120,49,48,48,48,48,48],[48,120,50,48,48,48,48,48],[48,120,52,48,48,48,48,48],[48,120,56,48,48,48,48,48],[48,120,49,48,48,48,48,48,48],[48,120,50,48,48,48,48,48,48],[48,120,52,48,48,48,48,48,48],[48,120,56,48,48,48,48,48,48],[48,120,49,48,48,48,48,48,48,48],[48,120,50,48,48,48,48,48,48,48],[48,120,52,48,48,48,48,48,48,48],[48,120,56,48,48,48,48,48,48,48]]
def wd(k:Nat):Str:=tS (wX.getD k [])
def gY:Str:=", "
theorem BI:gY=⟨#[44,32]⟩:=by decide
theorem Om:((zt 32).all λi=>rC (1*2^i)==wd i&&decide ((hx (1*2^i)).length≤1000))=true:=by decide+kernel
theorem ad5:(wX.all λw=>decide (w.length≤20)&&!w.contains 44)=true:=by decide+kernel
theorem H4(k:Nat):(wX.getD k []).length≤20∧44∉wX.getD k []:=by
 rw [LR];cases h:wX[k]? with
 |none=>simp
 |some w=>
  have:=Bw.mp ad5 w (FW h)
  simp only [Fd,decide_eq_true_eq,MW,N8,decide_eq_false_iff_not] at this
  exact this
noncomputable def xQ:List Nat→Int→List Nat×Option Int
 | [],fl=>([],some fl)
 |i::r,fl=>if D5 fl (1*2^i)=0 then xQ r fl else if Ja fl (1*2^i)=0 then ([i],none) else
  (i::(xQ r (Ja fl (1*2^i))).1,(xQ r (Ja fl (1*2^i))).2)
noncomputable def FA(b:List Nat):Option Int→List Str
 |none=>b.map wd
 |some fl=>b.map wd++[hx fl]
theorem uv:∀ (r:List Nat) (fl:Int) (ns:List Str),(∀i∈r,i<32)→(∀fl',(xQ r fl).2=some fl'→(hx fl').length≤1000)→uk r fl ns=some (ns++FA (xQ r fl).1 (xQ r fl).2)
 | [],fl,ns,_,h=>by
  have:=h fl rfl
  simp only [uk,if_pos this,xQ,FA,M3,Ls]
 |i::r,fl,ns,hr,h=>by
  have hw:=Bw.mp Om i (D3.mpr (hr i (by simp)));simp only [Fd,beq_iff_eq,decide_eq_true_eq] at hw
  have hr':∀i∈r,i<32:= λk hk=>hr k (by simp [hk]);rw [uk];rw [xQ] at h⊢
  by_cases q:D5 fl (1*2^i)=0
  ·rw [if_pos q] at h⊢
   refine rA (if_pos q) ?_;exact uv r fl ns hr' h
  ·rw [if_neg q] at h⊢
   refine rA (if_neg q) ?_;refine rA (if_pos hw.2) ?_;refine rA hw.1 ?_
   by_cases z:Ja fl (1*2^i)=0
   ·refine rA (if_pos z) ?_;refine rA (if_pos z) ?_;rfl
   ·rw [if_neg z] at h⊢
    refine rA (if_neg z) ?_;refine rA (uv r _ _ hr' h) ?_;cases (xQ r (Ja fl (1*2^i))).2<;>simp [FA]
theorem uf:∀ (r:List Nat) (fl:Int),(xQ r fl).1.length≤r.length
 | [],_=>by simp [xQ]
 |i::r,fl=>by
  rw [xQ]
  split
  ·have:=uf r fl;simp only [AH];lia
  ·split
   ·simp
   ·have:=uf r (Ja fl (1*2^i));simp only [AH];lia
theorem uG:∀b:List Nat,((b.map wd).map (·.length)).sum≤20*b.length
 | []=>by simp
 |i::b=>by
  have:=uG b
  have h:=(H4 i).1;simp only [F7,PB,AH]
  have:(wd i).length=(wX.getD i []).length:=eC _
  lia
theorem ad7{fl:Int}{b:List Nat}{o:Option Int}(h:xQ (zt 32) fl=(b,o))(ho:∀fl',o=some fl'→(hx fl').length≤1000):pf fl=some (LA ", " (FA b o)):=by
 have e:=uv (zt 32) fl [] (λi hi=>D3.mp hi) (by refine rA h ?_;exact ho);have hb:=uf (zt 32) fl;rw [h] at e hb
 unfold pf;refine rA e ?_;dsimp only;refine rA (Ls _) ?_;rw [if_pos];have hs:=uG b;simp only [Js] at hb
 cases o with
 |none=>simp only [FA,xO];lia
 |some fl'=>
  have:=ho fl' rfl
  simp only [FA,be,xO,Kf,S9,F7,M3,PB,Sa,AH,EZ];lia
theorem ab7{fl:Int}{b:List Nat}{o:Option Int}(h:xQ (zt 32) fl=(b,o))(ho:∀fl',o=some fl'→(hx fl').length≤1000):cO [.d (.int fl)] μ=some (.d (.str (LA ", " (FA b o))),μ):=s7 (ad7 h ho)
noncomputable def iH(mask k:Nat):Bool:=mask/2^k%2==1
noncomputable def hZ(low f mask:Nat):List Nat:=((zt f).filter (iH mask)).map λk=>low+k
theorem HE:((zt 13).all λlow=>(zt 32).all λmask=>xQ (zt 32) ((mask:Int)*2^low)==(hZ low 5 mask,if mask=0 then some 0 else none))=true:=by decide+kernel
theorem MZ:((zt 6).all λf=>(zt 13).all λlow=>(zt 5).all λr=>xQ (zt 32) ((2^f-1)*2^low+2^31+((r:Int)-3)*2^32)==((zt f).map (λk=>low+k)++[31],if r=3 then none else some (((r:Int)-3)*2^32)))=true:=by decide+kernel
theorem Um:((zt 5).all λr=>decide ((hx (((r:Int)-3)*2^32)).length≤1000))=true:=by decide+kernel
theorem YX:hx 0="0x0":=by decide+kernel
theorem ZY:((zt 6).all λf=>(zt (2^f)).all λmask=>(zt 5).filter (iH mask)==(zt f).filter (iH mask))=true:=by decide+kernel
noncomputable def cG:List (List Nat)→List Nat
 | []=>[]
 | [w]=>w
 |w::v::r=>w++[44,32]++cG (v::r)
theorem Bj:∀ws:List (List Nat),Ul gY (ws.map tS)=tS (cG ws)
 | []=>rfl
 | [w]=>rfl
 |w::v::r=>by
  have ih:=Bj (v::r);refine (?_:tS w++gY++Ul gY ((v::r).map tS)=_);refine rA ih ?_;apply Ve;refine rA (P9 _ _) ?_;refine rA (P9 _ _) ?_;refine rA BI ?_
  simp [tS,cG]
theorem qy(ws:List (List Nat)):LA gY (ws.map tS)=tS (cG ws):=(S8 _ _).trans (Bj ws)
theorem zS(l:List Nat)(i:Nat):Sm (tS l) gY (tS l).length i↔(l[i]? =some 44∧l[i+1]? =some 32):=by
 unfold Sm;refine rA (StrLaws.subAt_eq _ _ _) ?_;refine rA (eC _) ?_;refine rA (fZ _) ?_;refine rA BI ?_;refine (?_:(i+2≤l.length∧((l.drop i).take 2==[44,32])=true)↔_);have e0:l[i]? =(l.drop i)[0]? :=by rw [Qe];rfl
 have e1:l[i+1]? =(l.drop i)[1]? :=by rw [Qe]
 refine rA e0 ?_;refine rA e1 ?_;refine rA (propext (beq_iff_eq)) ?_;have hl:(l.drop i).length=l.length-i:=Ry;constructor
 ·intro zi0
  refine f_ zi0 λh e=>?_;cases hd:l.drop i with
  |nil=>rw [hd] at e;cases e
  |cons a r=>
   cases r with
   |nil=>rw [hd] at e;simp at e
   |cons b r=>rw [hd] at e;simpa using e
 ·intro zi1
  refine f_ zi1 λh e=>?_;cases hd:l.drop i with
  |nil=>rw [hd] at h;exact cv h
  |cons a r=>
   cases r with
   |nil=>rw [hd] at e;simp at e
   |cons b r=>
    rw [hd] at h e hl
    simp only [AH] at hl
    simp only [List.getElem?_cons_zero,Oc,Option.some.injEq] at h e
    subst h e;exact ⟨by lia,rfl⟩
theorem Cy(a w b:List Nat):OE (tS (a++w++b)) a.length (a.length+w.length)=tS w:=by
 apply Ve;apply Array.toList_inj.mp;refine rA (StrLaws.strSub_toList _ _ _) ?_;refine rA (fZ _) ?_;refine rA (fZ _) ?_;refine rA (L0 _ _) ?_;refine rA (Eu _ _ _) ?_;refine rA Qq ?_;exact rA Pb rfl
theorem wg(l:List Nat):∀ (ws:List (List Nat)) (pre:List Nat) (cuts:List Nat) (f:Nat),ws≠[]→(∀w∈ws,44∉w)→l=pre++cG ws→
  StrLaws.ChainG (tS l) gY (tS l).length pre.length cuts f→(∀k,f≤k→¬Sm (tS l) gY (tS l).length k)→TG (tS l) 2 pre.length cuts=ws.map tS
 | [],_,_,_,h,_,_,_,_=>absurd rfl h
 | [w],pre,cuts,f,_,hw,hl,hG,_=>by
  cases cuts with
  |nil=>
   refine (?_:[OE (tS l) pre.length (tS l).length]=[tS w])
   have:=Cy pre w []
   rw [DO] at this
   refine rA hl ?_;refine rA (eC _) ?_;refine rA be ?_;simp only [cG] at this⊢
   exact rA this rfl
  |cons c r=>
   refine my hG λh1 h2 zz zz=>?_;rw [zS,hl] at h2
   have h2:=h2.1;rw [Jo h1] at h2
   exact absurd (FW h2) (hw w (by simp))
 |w::v::r,pre,cuts,f,_,hw,hl,hG,hn=>by
  have hat:Sm (tS l) gY (tS l).length (pre.length+w.length):=by
   refine rA (propext (zS _ _)) ?_;refine rA hl ?_;simp only [cG];have e1:(pre++(w++[44,32]++cG (v::r)))=(pre++w)++([44,32]++cG (v::r)):=by simp
   have hl2:pre.length+w.length=(pre++w).length:=be.symm;refine rA e1 ?_;refine rA hl2 ?_;constructor
   ·rw [Jo (DU _)];refine rA (Nat.sub_self _) ?_;rfl
   ·rw [Jo (by lia)];refine rA (L0 _ _) ?_;rfl
  have hno:∀k,pre.length≤k→k<pre.length+w.length→¬Sm (tS l) gY (tS l).length k:=by
   intro k h1 h2 h;rw [zS,hl] at h
   have h:=h.1;simp only [cG] at h
   rw [Jo h1,Eu,F9 (by lia)] at h
   exact hw w (by simp) (FW h)
  cases cuts with
  |nil=>
   have e:f=pre.length:=hG;exact absurd hat (hn _ (by lia))
  |cons c r'=>
   refine my hG λh1 h2 h3 h4=>?_;have hc:c=pre.length+w.length:=by
    rcases QD c (pre.length+w.length) with q|q|q
    ·exact absurd h2 (hno c h1 q)
    ·exact q
    ·exact absurd hat (h3 _ (by lia) q)
   subst hc;have hs:gY.length=2:=by decide
   rw [hs] at h4
   have hpre:(pre++w++[44,32]).length=pre.length+w.length+2:=by simp;lia
   have ih:=wg l (v::r) (pre++w++[44,32]) r' f (by simp) (λu hu=>hw u (by simp at hu⊢;exact .inr hu)) (by refine rA hl ?_;simp [cG]) (by refine rA hpre ?_;exact h4) hn;rw [hpre] at ih
   refine (?_:OE (tS l) pre.length (pre.length+w.length)::TG (tS l) 2 (pre.length+w.length+2) r'=_);refine rA ih ?_;refine rA hl ?_
   have:=Cy pre w ([44,32]++cG (v::r))
   simp only [cG,F7,←Eu] at this⊢
   exact rA this rfl
theorem qH(ws:List (List Nat))(h0:ws≠[])(hw:∀w∈ws,44∉w):Ob (tS (cG ws)) (Lz (tS (cG ws)) gY 0 (tS (cG ws)).length ((tS (cG ws)).length+1)) gY.length=ws.map tS:=by
 refine au (StrLaws.occ_tight (tS (cG ws)) gY (by decide)) λf hG hn=>?_;refine rA (Rr _ _ _) ?_;refine rA (show gY.length=2 from by decide) ?_;exact wg (cG ws) ws [] _ f h0 hw rfl hG hn
theorem xZ(ws:List (List Nat))(h0:ws≠[])(hw:∀w∈ws,44∉w):PM (tS (cG ws)) gY=ws.map tS:=by
 have hp:=qH ws h0 hw;unfold PM
 split
 ·rename_i h
  simp only [PL,decide_eq_true_eq,eC,show gY.length=2 from by decide] at h
  have hk:SP gY=1:=by decide+kernel
  rcases h with h|h
  ·match ws,h with
   | [w],_=>rfl
   |w::v::r,h=>simp [cG] at h;lia
  ·rw [hk] at h
   exfalso
   unfold SP at h
   split at h
   ·lia
   ·split at h<;>lia
 ·split
  ·rename_i h
   rw [Uh.mp h,Rr] at hp
   refine rB hp ?_;refine (?_:[_]=[OE _ 0 _]);exact rA (StrLaws.sub_whole _) rfl
  ·exact hp
noncomputable def xP:Fm→List Fm
 | .bin true l r=>[l,r]
 |F=>[F]
noncomputable def fN(G:List Fm):List Fm:=((((G.flatMap xP).flatMap xP).flatMap xP).flatMap xP).flatMap xP
noncomputable def bJ(G:List Fm):List Nat:=G.flatMap Fm.pl
noncomputable def bj(m:List Nat)(s:List Nat):Bool:=s.all λp=>s.contains (m.getD p 0)
noncomputable def gT(l r:Fm)(B:List Fm):List Fm→List Fm→List (List Fm×List Fm)
 | [],pre=>[([l],pre++r::B)]
 |F::A,pre=>(F::(A++[l]),pre++r::B)::gT l r B A (pre++[F])
noncomputable def iO(l r:Fm)(A:List Fm):List Fm→List Fm→List (List Fm×List Fm)
 | [],pre=>[(r::pre,A++[l])]
 |F::B,pre=>(r::pre,A++l::F::B)::iO l r A B (pre++[F])
theorem UQ{pre:List Fm}:gT l r B [] pre=[([l],pre++r::B)]:=rfl
theorem V8{A pre:List Fm}:gT l r B (F::A) pre=(F::(A++[l]),pre++r::B)::gT l r B A (pre++[F]):=rfl
theorem VN{A pre:List Fm}:iO l r A [] pre=[(r::pre,A++[l])]:=rfl
theorem UB{A pre:List Fm}:iO l r A (F::B) pre=(r::pre,A++l::F::B)::iO l r A B (pre++[F]):=rfl
theorem Fx:xP (.at i)=[.at i]:=rfl
theorem Rz:xP (.bin true l r)=[l,r]:=rfl
theorem QT:xP (.bin false l r)=[.bin false l r]:=rfl
noncomputable def two:List Fm→Bool
 | [.at _,.at _]=>true
 |_=>false
noncomputable def xR(m:List Nat)(rc:List Fm→Bool):List Fm→List Fm→Bool
 |_,[]=>false
 |A,F::B=>match F with
  | .bin false l r=>(match (gT l r B A []++iO l r A B []).find? (λw=>bj m (bJ w.1)) with
   |some w=>rc w.1&&rc w.2
   |none=>xR m rc (A++[F]) B)
  |_=>xR m rc (A++[F]) B
noncomputable def pr(m:List Nat):Nat→List Fm→Bool
 |0,_=>false
 |k+1,G=>two (fN G)||xR m (pr m k) [] (fN G)
noncomputable def eM:List Fm→Nat→List Jn
 | [],_=>[]
 |F::r,n=>(gr F n).2++eM r (n+(gr F n).2.length)
theorem ti{r:List Fm}:eM (F::r) n=(gr F n).2++eM r (n+(gr F n).2.length):=rfl
noncomputable def start(m:List Nat)(n:Nat):List Nat:=(zt 6).map (λi=>min i (m.getD i 0))++Ff 6 n
noncomputable def iw(J:List Jn):List (Nat×Nat):=(J.filter λx=>!x.par).flatMap λx=>[(x.nd,x.a),(x.nd,x.b)]
noncomputable def sO:Nat→List Jn→List (Nat×Nat)
 |_,[]=>[]
 |k,f::r=>(f.nd,if k%2=1 then f.b else f.a)::sO (k/2) r
theorem Yq:sO k []=[]:=rfl
theorem Ho{f:Jn}{r:List Jn}:sO k (f::r)=(f.nd,if k%2=1 then f.b else f.a)::sO (k/2) r:=rfl
theorem No{l:List Nat}:di l []=l:=rfl
noncomputable def Xc(l:List Nat):Bool:=l != []&&l.all (· ==l.headD 0)
noncomputable def je(L:List Nat)(forks:List Jn)(mask:Nat):Bool:=Xc (if L=[] then [] else di L (sO mask forks))
noncomputable def trees(m:List Nat)(G:List Fm):Bool:=
 (zt (2^ ((eM G 0).filter (·.par)).length)).all (je (di (start m (eM G 0).length) (iw (eM G 0))) ((eM G 0).filter (·.par)))
noncomputable def aH:List (List Nat):=[[5,4,3,2,1,0],[5,2,1,4,3,0],[3,2,1,0,5,4],[1,0,5,4,3,2],[1,0,3,2,5,4]]
noncomputable def PR:Nat→Nat→Nat→List Fm
 |0,_,_=>[]
 |_+1,a,1=>[.at a]
 |k+1,a,n=>(Ff 1 (n-1)).flatMap λi=>(PR k a i).flatMap λl=>(PR k (a+i) (n-i)).flatMap λr=>[.bin true l r,.bin false l r]
theorem ZZ{a:Nat}:∀ {n:Nat},n≠1→PR (k+1) a n=(Ff 1 (n-1)).flatMap λi=>(PR k a i).flatMap λl=>(PR k (a+i) (n-i)).flatMap λr=>[.bin true l r,.bin false l r]
 |0,_=>rfl
 |1,h=>absurd rfl h
 |_+2,_=>rfl
noncomputable def enG:Nat→Nat→Nat→List (List Fm)
 |0,_,n=>if n=0 then [[]] else []
 |r+1,a,n=>(Ff 1 n).flatMap λi=>(PR 6 a i).flatMap λF=>(enG r (a+i) (n-i)).map λG=>F::G
theorem ZF{r a:Nat}:enG (r+1) a n=(Ff 1 n).flatMap λi=>(PR 6 a i).flatMap λF=>(enG r (a+i) (n-i)).map λG=>F::G:=rfl
theorem nI:∀F:Fm,1≤F.pl.length
 | .at _=>DU 1
 | .bin _ l r=>by have:=nI l;simp only [Fm.pl,be];lia
theorem kz{a:Nat}{x y:List Nat}(h:x++y=Ff a n):x=Ff a x.length∧y=Ff (a+x.length) (n-x.length)∧x.length≤n:=by
 have hl:=congrArg NE h;simp only [be,Lk] at hl
 have e:Ff a n=Ff a x.length++Ff (a+x.length) (n-x.length):=by
  refine rA List.range'_append_1 ?_;congr 1;lia
 rw [e] at h
 have:=UD h (by simp)
 exact (fu this.1 this.2 (by lia))
theorem uo:∀ (F:Fm) (k a n:Nat),F.pl=Ff a n→n≤k→F∈PR k a n
 | .at i,k,a,n,h,hk=>by
  have hl:=congrArg NE h;simp only [Fm.pl,AH,EZ,Lk] at hl
  subst hl;cases k with
  |zero=>lia
  |succ k=>
   obtain rfl:i=a:=by simpa [Fm.pl] using h
   exact Aq.mpr rfl
 | .bin p l r,k,a,n,h,hk=>by
  refine dW (kz h) λh1 h2 h3=>?_;have hl:=congrArg NE h;simp only [Fm.pl,be,Lk] at hl
  have p1:=nI l;have p2:=nI r;cases k with
  |zero=>lia
  |succ k=>
   refine rA (ZZ (by lia)) ?_;refine Lm.mpr (aZ l.pl.length (by refine rA (propext (P7)) ?_;lia) ?_);refine Lm.mpr (aZ l (uo l k a _ h1 (by lia)) ?_);refine Lm.mpr (aZ r (uo r k _ _ h2 (by lia)) ?_);cases p<;>simp
theorem Bq:∀ (G:List Fm) (a n:Nat),bJ G=Ff a n→n≤6→G∈enG G.length a n
 | [],a,n,h,_=>by
  have hl:=congrArg NE h;simp only [bJ,List.flatMap_nil,EZ,Lk] at hl
  subst hl;exact Aq.mpr rfl
 |F::G,a,n,h,hk=>by
  have h':F.pl++bJ G=Ff a n:=h;refine dW (kz h') λh1 h2 h3=>?_;have p1:=nI F;refine rA AH ?_;refine rA ZF ?_;refine Lm.mpr (aZ F.pl.length (by refine rA (propext (P7)) ?_;lia) ?_);refine Lm.mpr (aZ F (uo F 6 a _ h1 (by lia)) ?_);exact DT.mpr (aZ G (Bq G _ _ h2 (by lia)) rfl)
noncomputable def L1{α:Type}(t:Nat)(k:Nat→α):α:=Nat.casesOn t (k 0) (λn=>k (Vq n))
theorem nU{α:Type}(t:Nat)(k:Nat→α):L1 t k=k t:=by cases t<;>rfl
theorem Ic{a:Nat}(h:¬a=b):Qs a b=false:=by
 cases e:Qs a b with
 |false=>rfl
 |true=>exact absurd (Nat.eq_of_beq_eq_true e) h
noncomputable def Je(L i:Nat):Nat:=Vn (Nat.div L (Nat.pow 16 i)) 16
noncomputable def unP(u v:Nat):Nat→Nat→Nat
 |0,_=>0
 |k+1,L=>Nat.add (bif Qs (Vn L 16) v then u else Vn L 16) (Nat.mul 16 (unP u v k (Nat.div L 16)))
noncomputable def qI(N L a b:Nat)(k:Nat→Bool):Bool:=
 L1 (Je L a) λu=>L1 (Je L b) λv=>bif Qs u v then false else L1 (unP u v N L) k
noncomputable def Jg(u:Nat):Nat→Nat→Bool
 |0,_=>true
 |k+1,L=>Qs (Vn L 16) u&&Jg u k (Nat.div L 16)
noncomputable def RE(N:Nat):List Jn→Nat→Bool
 | [],L=>Jg (Je L 0) N L
 |f::r,L=>qI N L f.nd f.b (RE N r)&&qI N L f.nd f.a (RE N r)
noncomputable def stP(N:Nat):List Jn→Nat→(Nat→Bool)→Bool
 | [],L,k=>k L
 |f::r,L,k=>qI N L f.nd f.a λL=>qI N L f.nd f.b λL=>stP N r L k
noncomputable def O9{α:Type}:Fm→Nat→List Jn→List Jn→(Nat→Nat→List Jn→List Jn→α)→α
 | .at i,n,S,P,k=>L1 i λi=>k i n S P
 | .bin p l r,n,S,P,k=>O9 l n S P λx n S P=>O9 r n S P λy n S P=>L1 (6+n) λnd=>L1 (n+1) λn=>bif p then k nd n S (P++[⟨true,nd,x,y⟩]) else k nd n (S++[⟨false,nd,x,y⟩]) P
noncomputable def Ez{α:Type}:List Fm→Nat→List Jn→List Jn→(List Jn→List Jn→α)→α
 | [],_,S,P,k=>k S P
 |F::G,n,S,P,k=>O9 F n S P λzz n S P=>Ez G n S P k
theorem US{α:Type}{P:List Jn}{k:Nat→Nat→List Jn→List Jn→α}:O9 (.at i) n S P k=L1 i λi=>k i n S P:=rfl
theorem Z_{α:Type}{p:Bool}{P:List Jn}{k:Nat→Nat→List Jn→List Jn→α}:O9 (.bin p l r) n S P k=O9 l n S P λx n S P=>O9 r n S P λy n S P=>L1 (6+n) λnd=>L1 (n+1) λn=>bif p then k nd n S (P++[⟨true,nd,x,y⟩]) else k nd n (S++[⟨false,nd,x,y⟩]) P:=rfl
theorem Uc{α:Type}{G:List Fm}{P:List Jn}{k:List Jn→List Jn→α}:Ez (F::G) n S P k=O9 F n S P λzz n S P=>Ez G n S P k:=rfl
noncomputable def f9:List Nat→Nat
 | []=>0
 |a::l=>a+16*f9 l
noncomputable def zU(N L:Nat)(G:List Fm):Bool:=Ez G 0 [] [] λS P=>stP N S L (RE N P)
theorem UE{a:Nat}{l:List Nat}:f9 (a::l)=a+16*f9 l:=rfl
theorem mf{a:Nat}{l:List Nat}(h:a<16):f9 (a::l)/16=f9 l∧f9 (a::l)%16=a:=by
 rw [UE];lia
theorem pg:∀ (l:List Nat) (i:Nat),(∀x∈l,x<16)→Je (f9 l) i=l.getD i 0
 | [],i,_=>by
  refine (?_:0/16^i%16=0);exact rA (Nat.zero_div _) rfl
 |a::l,0,h=>by
  refine (?_:f9 (a::l)/16^0%16=a);refine rA (U8 _) ?_;refine rA (Nat.div_one _) ?_;exact (mf (h a (by simp))).2
 |a::l,i+1,h=>by
  refine (?_:f9 (a::l)/16^ (i+1)%16=_);refine rA (Qf _ _) ?_;refine rA (Nat.mul_comm _ _) ?_;refine rB (RK _ _ _) ?_;refine rA ((mf (h a (by simp))).1) ?_;exact (pg l i λx hx=>h x (by simp [hx])).trans (by simp)
noncomputable def Fv(ls:List Nat)(a b:Nat):List Nat:=ls.map λx=>if x=b then a else x
theorem FC(u v:Nat):∀ (l:List Nat),(∀x∈l,x<16)→unP u v l.length (f9 l)=f9 (Fv l u v)
 | [],_=>rfl
 |a::l,h=>by
  have e:=mf (l:=l) (h a (by simp));refine (?_:(bif Qs (f9 (a::l)%16) v then u else f9 (a::l)%16)+16*unP u v l.length (f9 (a::l)/16)=_);refine rA e.1 ?_;refine rA e.2 ?_;refine rA (FC u v l λx hx=>h x (by simp [hx])) ?_;refine (?_:_=(if a=v then u else a)+16*f9 (Fv l u v))
  by_cases q:a=v
  ·refine rA (if_pos q) ?_;refine rA (show Qs a v=true from by rw [q];exact Nat.beq_refl v) ?_;rfl
  ·refine rA (if_neg q) ?_;refine rA (Ic q) ?_;rfl
theorem yY{l:List Nat}{u v:Nat}(h:∀x∈l,x<16)(hu:u<16):∀x∈Fv l u v,x<16:=by
 intro x hx;simp only [Fv,DT] at hx
 refine au hx λy hy zq2=>?_;subst zq2
 split
 ·exact hu
 ·exact h y hy
theorem uM{l:List Nat}(h:∀x∈l,x<16)(i:Nat):l.getD i 0<16:=by
 rw [LR];cases e:l[i]? with
 |none=>simp
 |some a=>exact h a (FW e)
theorem uy{l:List Nat}{a:Nat}{k:Nat→Bool}(h:∀x∈l,x<16):qI l.length (f9 l) a b k=if l.getD a 0=l.getD b 0 then false else k (f9 (Fv l (l.getD a 0) (l.getD b 0))):=by
 unfold qI;refine rA (nU _ _) ?_;refine rA (nU _ _) ?_;refine rA (pg l a h) ?_;refine rA (pg l b h) ?_;refine rA (nU _ _) ?_;refine rA (FC _ _ l h) ?_
 by_cases q:l.getD a 0=l.getD b 0
 ·refine rA (if_pos q) ?_;refine rA q ?_;refine rA (Nat.beq_refl _) ?_;rfl
 ·refine rA (if_neg q) ?_;refine rA (Ic q) ?_;rfl
theorem Bi(u:Nat):∀ (l:List Nat),(∀x∈l,x<16)→Jg u l.length (f9 l)=l.all (· ==u)
 | [],_=>rfl
 |a::l,h=>by
  have e:=mf (l:=l) (h a (by simp));refine (?_:(Qs (f9 (a::l)%16) u&&Jg u l.length (f9 (a::l)/16))=_);refine rA e.1 ?_;refine rA e.2 ?_;refine rA (Bi u l λx hx=>h x (by simp [hx])) ?_;refine rA Mm ?_
  have:Qs a u=(a==u):=by
   by_cases q:a=u
   ·subst q;simp
   ·refine rA (Ic q) ?_;exact rA (beq_eq_false_iff_ne.mpr q) rfl
  exact rA this rfl
theorem BF:Xc []=false:=rfl
theorem Ay{l:List Nat}{u v:Nat}(h:l≠[]):Fv l u v≠[]:=by
 intro q;exact h (O6.mp q)
theorem tz{l:List Nat}{u v:Nat}:(Fv l u v).length=l.length:=by simp [Fv]
theorem l7(l:List Nat)(a b:Nat)(r:List (Nat×Nat)):di l ((a,b)::r)=if l.getD a 0=l.getD b 0 then [] else di (Fv l (l.getD a 0) (l.getD b 0)) r:=rfl
theorem Gu:∀ (forks:List Jn) (l:List Nat),(∀x∈l,x<16)→l≠[]→RE l.length forks (f9 l)=(zt (2^forks.length)).all λk=>Xc (di l (sO k forks))
 | [],l,h,hn=>by
  refine (?_:Jg (Je (f9 l) 0) l.length (f9 l)=_);refine rA (pg l 0 h) ?_;refine rA (Bi _ l h) ?_;simp only [EZ,U8,List.range_one,Mm,List.all_nil,Bool.and_true,Yq,No,Xc]
  have:(l != [])=true:=by simpa using hn
  refine rA this ?_;refine rA (QX _) ?_;cases l<;>rfl
 |f::r,l,h,hn=>by
  have ih:∀ (a b:Nat),qI l.length (f9 l) a b (RE l.length r)=(zt (2^r.length)).all λk=>Xc (di l ((a,b)::sO k r)):=by
   intro a b;refine rA (uy h) ?_
   by_cases q:l.getD a 0=l.getD b 0
   ·refine rA (if_pos q) ?_
    symm
    refine rA (propext (TJ)) ?_;refine (aZ 0 (D3.mpr (UG _)) ?_);refine rA (l7 _ _ _ _) ?_;refine rA (if_pos q) ?_;refine rA BF ?_;exact Hm
   ·refine rA (if_neg q) ?_
    have:=Gu r (Fv l (l.getD a 0) (l.getD b 0)) (yY h (uM h _)) (Ay hn)
    rw [tz] at this
    refine rA this ?_
    congr 1
    funext k
    refine rA (l7 _ _ _ _) ?_;exact rA (if_neg q) rfl
  refine (?_:(qI l.length (f9 l) f.nd f.b (RE l.length r)&&qI l.length (f9 l) f.nd f.a (RE l.length r))=_);refine rA (ih _ _) ?_;refine rA (ih _ _) ?_;refine rA (propext (PY)) ?_;refine rA (Fd _ _) ?_;rw [Bw,Bw,Bw];simp only [D3];constructor
  ·intro zi0 k hk
   obtain ⟨h1,h2⟩:=zi0;rw [AH,Qf] at hk
   refine rA Ho ?_
   by_cases q:k%2=1
   ·refine rA (if_pos q) ?_;exact h1 (k/2) (by lia)
   ·refine rA (if_neg q) ?_;exact h2 (k/2) (by lia)
  ·intro hh
   constructor
   ·intro k hk
    have:=hh (2*k+1) (by refine rA AH ?_;refine rA (Qf _ _) ?_;lia)
    rw [Ho] at this
    rw [if_pos (by lia),show (2*k+1)/2=k by lia] at this
    exact this
   ·intro k hk
    have:=hh (2*k) (by refine rA AH ?_;refine rA (Qf _ _) ?_;lia)
    rw [Ho] at this
    rw [if_neg (by lia),show 2*k/2=k by lia] at this
    exact this
noncomputable def Lj(S:List Jn):List (Nat×Nat):=S.flatMap λx=>[(x.nd,x.a),(x.nd,x.b)]
theorem H5(k:Nat→Bool):∀ (S:List Jn) (l:List Nat),(∀x∈l,x<16)→l≠[]→(stP l.length S (f9 l) k=if di l (Lj S)=[] then false else k (f9 (di l (Lj S))))∧(di l (Lj S)≠[]→(di l (Lj S)).length=l.length∧∀x∈di l (Lj S),x<16)
 | [],l,h,hn=>⟨by show k (f9 l)=_;refine rA (show di l (Lj [])=l from rfl) ?_;exact rA (if_neg hn) rfl,λzz=>⟨rfl,h⟩⟩
 |f::r,l,h,hn=>by
  have e0:Lj (f::r)=(f.nd,f.a)::(f.nd,f.b)::Lj r:=rfl
  show (qI l.length (f9 l) f.nd f.a (λL=>qI l.length L f.nd f.b λL=>stP l.length r L k))=_∧_
  refine rA (uy h) ?_;refine rA e0 ?_;refine rA (l7 _ _ _ _) ?_
  by_cases q:l.getD f.nd 0=l.getD f.a 0
  ·refine rA (if_pos q) ?_;refine rA (if_pos q) ?_;exact ⟨rfl,λx=>absurd rfl x⟩
  ·refine rA (if_neg q) ?_;refine rA (if_neg q) ?_
   have h1:=yY (v:=l.getD f.a 0) h (uM h f.nd);have n1:=Ay (u:=l.getD f.nd 0) (v:=l.getD f.a 0) hn;have e1:=tz (l:=l) (u:=l.getD f.nd 0) (v:=l.getD f.a 0);generalize Fv l (l.getD f.nd 0) (l.getD f.a 0)=l1 at h1 n1 e1⊢
   refine rB e1 ?_;refine rA (uy h1) ?_;refine rA (l7 _ _ _ _) ?_
   by_cases q':l1.getD f.nd 0=l1.getD f.b 0
   ·refine rA (if_pos q') ?_;refine rA (if_pos q') ?_;exact ⟨rfl,λx=>absurd rfl x⟩
   ·refine rA (if_neg q') ?_;refine rA (if_neg q') ?_
    have h2:=yY (v:=l1.getD f.b 0) h1 (uM h1 f.nd);have n2:=Ay (u:=l1.getD f.nd 0) (v:=l1.getD f.b 0) n1;have e2:=tz (l:=l1) (u:=l1.getD f.nd 0) (v:=l1.getD f.b 0);generalize Fv l1 (l1.getD f.nd 0) (l1.getD f.b 0)=l2 at h2 n2 e2⊢
    refine rB e2 ?_;exact H5 k r l2 h2 n2
theorem AB{α:Type}:∀ (F:Fm) (n:Nat) (S P:List Jn) (k:Nat→Nat→List Jn→List Jn→α),
  O9 F n S P k=k (gr F n).1 (n+(gr F n).2.length) (S++(gr F n).2.filter λx=>!x.par) (P++(gr F n).2.filter (·.par))
 | .at i,n,S,P,k=>by simp only [US,nU,K6,List.filter_nil,DO,EZ,U9]
 | .bin p l r,n,S,P,k=>by
  refine rA Z_ ?_;refine rA (AB l _ _ _ _) ?_;refine rA (AB r _ _ _ _) ?_;refine rA (nU _ _) ?_;refine rA (nU _ _) ?_;cases p<;>simp [zZ,Ro]
theorem Bg{α:Type}:∀ (G:List Fm) (n:Nat) (S P:List Jn) (k:List Jn→List Jn→α),Ez G n S P k=k (S++(eM G n).filter λx=>!x.par) (P++(eM G n).filter (·.par))
 | [],n,S,P,k=>by rw [show eM [] n=[] from rfl];simp [show Ez [] n S P k=k S P from rfl]
 |F::G,n,S,P,k=>by
  refine rA Uc ?_;rw [AB];refine rA (Bg G _ _ _ _) ?_;rw [ti]
  simp
theorem FK{G:List Fm}(hm:∀x∈start m (eM G 0).length,x<16):trees m G=zU (6+(eM G 0).length) (f9 (start m (eM G 0).length)) G:=by
 unfold zU;rw [Bg];refine rA (Ls _) ?_;refine rA (Ls _) ?_;have hl:(start m (eM G 0).length).length=6+(eM G 0).length:=by simp [start]
 have hn:start m (eM G 0).length≠[]:=by intro q;rw [q] at hl;simp at hl;lia
 refine f_ (H5 (RE (6+(eM G 0).length) ((eM G 0).filter (·.par))) ((eM G 0).filter λx=>!x.par) _ hm hn) λe h=>?_;rw [hl] at e
 refine rA e ?_;unfold trees;have hs:iw (eM G 0)=Lj ((eM G 0).filter λx=>!x.par):=rfl;refine rA hs ?_;generalize di (start m (eM G 0).length) (Lj ((eM G 0).filter λx=>!x.par))=L at h⊢
 by_cases q:L=[]
 ·refine rA (if_pos q) ?_
  refine rA (propext (TJ)) ?_;refine (aZ 0 (D3.mpr (UG _)) ?_);unfold je;refine rA (if_pos q) ?_;refine rA BF ?_;exact Hm
 ·refine rA (if_neg q) ?_
  refine f_ (h q) λh1 h2=>?_;refine rB hl ?_;refine rB h1 ?_;refine rA (Gu _ L h2 q) ?_;unfold je;simp only [if_neg q]
noncomputable def lb:Fm→Nat
 | .at i=>Nat.pow 2 i
 | .bin _ l r=>Pr (lb l) (lb r)
noncomputable def tF:List Fm→Nat
 | []=>0
 |F::A=>Pr (lb F) (tF A)
noncomputable def Ig:List Nat→Nat→Bool
 | [],_=>true
 |p::r,x=>(Qs (Nat.land x p) 0||Qs (Nat.land x p) p)&&Ig r x
noncomputable def Ai(ps:List Nat)(l r:Fm)(B:List Fm):List Fm→List Fm→Option (List Fm×List Fm)
 | [],pre=>bif Ig ps (lb l) then some ([l],pre++r::B) else none
 |F::A,pre=>bif Ig ps (Pr (lb F) (Pr (tF A) (lb l))) then some (F::(A++[l]),pre++r::B) else Ai ps l r B A (pre++[F])
noncomputable def Af(ps:List Nat)(l r:Fm)(A:List Fm):List Fm→List Fm→Option (List Fm×List Fm)
 | [],pre=>bif Ig ps (Pr (lb r) (tF pre)) then some (r::pre,A++[l]) else none
 |F::B,pre=>bif Ig ps (Pr (lb r) (tF pre)) then some (r::pre,A++l::F::B) else Af ps l r A B (pre++[F])
noncomputable def Xa(ps:List Nat)(rc:List Fm→Bool):List Fm→List Fm→Bool
 |_,[]=>false
 |A,.bin false l r::B=>match Ai ps l r B A [] with
  |some w=>rc w.1&&rc w.2
  |none=>match Af ps l r A B [] with
   |some w=>rc w.1&&rc w.2
   |none=>Xa ps rc (A++[.bin false l r]) B
 |A,F::B=>Xa ps rc (A++[F]) B
noncomputable def prM(ps:List Nat):Nat→List Fm→Bool
 |0,_=>false
 |k+1,G=>two (fN G)||Xa ps (prM ps k) [] (fN G)
noncomputable def Fg:List (List Nat):=[[33,18,12],[33,6,24],[9,6,48],[3,36,24],[3,12,48]]
def Ml(x:Nat)(s:List Nat):Prop:=∀p,x.testBit p=true↔p∈s
theorem Ua(i:Nat):Ml (Nat.pow 2 i) [i]:= λp=>by
 refine (?_:(2^i).testBit p=true↔_);refine rA Nat.testBit_two_pow ?_;simp [eq_comm]
theorem Ml.or{x y:Nat}{s t:List Nat}(h:Ml x s)(h':Ml y t):Ml (Pr x y) (s++t):= λp=>by
 refine (?_:(x ||| y).testBit p=true↔_);refine rA (Nat.testBit_or _ _ _) ?_;refine rA (PL _ _) ?_;refine rA (propext (AE)) ?_;refine rA (propext (h p)) ?_;rw [h' p]
theorem oH:∀F:Fm,Ml (lb F) F.pl
 | .at i=>Ua i
 | .bin _ l r=>(oH l).or (oH r)
theorem C3:∀G:List Fm,Ml (tF G) (bJ G)
 | []=> λp=>by show (0:Nat).testBit p=true↔_;simp [bJ]
 |F::G=>(oH F).or (C3 G)
theorem PP:((zt 5).all λi=>(zt 64).all λx=>Ig (Fg.getD i []) x==(zt 6).all λp=>!x.testBit p||x.testBit ((aH.getD i []).getD p 0))=true:=by decide+kernel
theorem tM{x:Nat}{s:List Nat}(hi:i<5)(hx:Ml x s)(hs:∀p∈s,p<6):Ig (Fg.getD i []) x=bj (aH.getD i []) s:=by
 have hlt:x<2^6:=by
  apply Nat.lt_pow_two_of_testBit;intro j hj;cases e:x.testBit j with
  |false=>rfl
  |true=>have:=hs j ((hx j).mp e);lia
 have:=Bw.mp (Bw.mp PP i (D3.mpr hi)) x (D3.mpr hlt)
 rw [beq_iff_eq] at this
 refine rA this ?_;refine rA (propext (PY)) ?_;rw [Bw];unfold bj;rw [Bw];constructor
 ·intro h p hp
  have:=h p (D3.mpr (hs p hp))
  rw [(hx p).mpr hp] at this
  simp only [Rp,PA] at this
  simpa using (hx _).mp this
 ·intro h p _
  cases e:x.testBit p with
  |false=>rfl
  |true=>
   have:=h p ((hx p).mp e)
   simp only [Rp,PA];exact (hx _).mpr (by simpa using this)
abbrev P6(G:List Fm):Prop:=∀p∈bJ G,p<6
theorem d7(A B:List Fm):bJ (A++B)=bJ A++bJ B:=List.flatMap_append
theorem b6(F:Fm)(B:List Fm):bJ (F::B)=F.pl++bJ B:=rfl
theorem gx:bJ []=[]:=rfl
theorem hU:∀G:List Fm,bJ (G.flatMap xP)=bJ G
 | []=>rfl
 |F::G=>by
  refine rA Fs ?_;refine rA (d7 _ _) ?_;refine rA (hU G) ?_;refine rA (b6 _ _) ?_
  congr 1
  cases F with
  |«at» i=>simp [Fx,bJ]
  |bin p l r=>cases p<;>simp [Rz,QT,bJ,Fm.pl]
theorem pR(G:List Fm):bJ (fN G)=bJ G:=by
 unfold fN;refine rA (hU _) ?_;refine rA (hU _) ?_;refine rA (hU _) ?_;refine rA (hU _) ?_;exact rA (hU _) rfl
theorem ao8{pre:List Fm}:Ai ps l r B [] pre=bif Ig ps (lb l) then some ([l],pre++r::B) else none:=rfl
theorem al3{A pre:List Fm}:Ai ps l r B (F::A) pre=bif Ig ps (Pr (lb F) (Pr (tF A) (lb l))) then some (F::(A++[l]),pre++r::B) else Ai ps l r B A (pre++[F]):=rfl
theorem aq6{A pre:List Fm}:Af ps l r A [] pre=bif Ig ps (Pr (lb r) (tF pre)) then some (r::pre,A++[l]) else none:=rfl
theorem ao6{A pre:List Fm}:Af ps l r A (F::B) pre=bif Ig ps (Pr (lb r) (tF pre)) then some (r::pre,A++l::F::B) else Af ps l r A B (pre++[F]):=rfl
theorem C8(hi:i<5)(l r:Fm)(B:List Fm)(hl:∀p∈l.pl,p<6):∀ (A pre:List Fm),P6 A→Ai (Fg.getD i []) l r B A pre=(gT l r B A pre).find? (λw=>bj (aH.getD i []) (bJ w.1))
 | [],pre,_=>by
  have e:bJ [l]=l.pl:=by simp [bJ]
  rw [ao8,UQ];refine rA (tM hi (oH l) hl) ?_;rw [Mb];refine rA e ?_;cases bj (aH.getD i []) l.pl<;>rfl
 |F::A,pre,h=>by
  have hr:Ml (Pr (lb F) (Pr (tF A) (lb l))) (bJ (F::(A++[l]))):=by
   have:=(oH F).or ((C3 A).or (oH l))
   refine rA (b6 _ _) ?_;refine rA (d7 _ _) ?_
   simpa [bJ] using this
  have hs:∀p∈bJ (F::(A++[l])),p<6:=by
   intro p hp;rw [b6,d7] at hp
   simp only [AE] at hp
   rcases hp with q|q|q
   ·exact h p (by refine rA (b6 _ _) ?_;simp [q])
   ·exact h p (by refine rA (b6 _ _) ?_;simp [q])
   ·exact hl p (by simpa [bJ] using q)
  rw [al3,V8];refine rA (tM hi hr hs) ?_;rw [Mb];refine rA (C8 hi l r B hl A (pre++[F]) λp hp=>h p (by rw [b6];simp [hp])) ?_;cases bj (aH.getD i []) (bJ (F::(A++[l])))<;>rfl
theorem BU(hi:i<5)(l r:Fm)(A:List Fm)(hr:∀p∈r.pl,p<6):∀ (B pre:List Fm),P6 B→P6 pre→Af (Fg.getD i []) l r A B pre=(iO l r A B pre).find? (λw=>bj (aH.getD i []) (bJ w.1))
 | [],pre,_,hp=>by
  have hs:∀p∈bJ (r::pre),p<6:=by
   intro p q;rw [b6,AE] at q
   exact q.elim (hr p) (hp p)
  rw [aq6,VN];refine rA (tM hi ((oH r).or (C3 pre)) hs) ?_;rw [Mb];refine (?_:_=match bj (aH.getD i []) (r.pl++bJ pre) with|true=>_|false=>_);cases bj (aH.getD i []) (r.pl++bJ pre)<;>rfl
 |F::B,pre,h,hp=>by
  have hs:∀p∈bJ (r::pre),p<6:=by
   intro p q;rw [b6,AE] at q
   exact q.elim (hr p) (hp p)
  rw [ao6,UB,tM hi ((oH r).or (C3 pre)) hs,Mb,BU hi l r A hr B (pre++[F]) (λp hp=>h p (by refine rA (b6 _ _) ?_;simp [hp])) (by
   intro p q;rw [d7,AE] at q
   rcases q with q|q
   ·exact hp p q
   ·exact h p (by refine rA (b6 _ _) ?_;simp [bJ] at q;simp [q]))]
  refine (?_:_=match bj (aH.getD i []) (r.pl++bJ pre) with|true=>_|false=>_);cases bj (aH.getD i []) (r.pl++bJ pre)<;>rfl
theorem vX(l r:Fm)(B:List Fm):∀ (A pre:List Fm) (w:List Fm×List Fm),w∈gT l r B A pre→∀p,(p∈bJ w.1∨p∈bJ w.2)→(p∈bJ pre∨p∈bJ A∨p∈l.pl∨p∈r.pl∨p∈bJ B)
 | [],pre,w,h,p,hp=>by
  simp only [UQ,Aq] at h
  subst h;simp only [d7,b6,gx,DO,AE] at hp
  rcases hp with q|q|q|q<;>simp [q]
 |F::A,pre,w,h,p,hp=>by
  simp only [V8,Cc] at h
  rcases h with rfl|h
  ·simp only [d7,b6,gx,DO,AE] at hp⊢
   rcases hp with (q|q|q)|q|q|q<;>simp [q]
  ·have:=vX l r B A (pre++[F]) w h p hp
   simp only [d7,b6,gx,DO,AE] at this⊢
   rcases this with (q|q)|q|q|q|q<;>simp [q]
theorem wK(l r:Fm)(A:List Fm):∀ (B pre:List Fm) (w:List Fm×List Fm),w∈iO l r A B pre→∀p,(p∈bJ w.1∨p∈bJ w.2)→(p∈bJ pre∨p∈bJ A∨p∈l.pl∨p∈r.pl∨p∈bJ B)
 | [],pre,w,h,p,hp=>by
  simp only [VN,Aq] at h
  subst h;simp only [d7,b6,gx,DO,AE] at hp⊢
  rcases hp with (q|q)|q|q<;>simp [q]
 |F::B,pre,w,h,p,hp=>by
  simp only [UB,Cc] at h
  rcases h with rfl|h
  ·simp only [d7,b6,gx,DO,AE] at hp⊢
   rcases hp with (q|q)|q|q|q|q<;>simp [q]
  ·have:=wK l r A B (pre++[F]) w h p hp
   simp only [d7,b6,gx,DO,AE] at this⊢
   rcases this with (q|q)|q|q|q|q<;>simp [q]
theorem um(hi:i<5){rm:List Fm→Bool}(hrc:∀G,P6 G→rm G=rc G):∀ (B A:List Fm),P6 A→P6 B→Xa (Fg.getD i []) rm A B=xR (aH.getD i []) rc A B
 | [],A,_,_=>rfl
 | .at p::B,A,hA,hB=>by
  exact um hi hrc B (A++[.at p]) (λq hq=>by rw [d7,AE] at hq;exact hq.elim (hA q) λh=>hB q (by refine rA (b6 _ _) ?_;simp [bJ] at h;simp [Fm.pl] at h⊢;simp [h])) λq hq=>hB q (by refine rA (b6 _ _) ?_;simp [hq])
 | .bin true l r::B,A,hA,hB=>by
  exact um hi hrc B (A++[.bin true l r]) (λq hq=>by rw [d7,AE] at hq;exact hq.elim (hA q) λh=>hB q (by refine rA (b6 _ _) ?_;rw [b6,gx,DO] at h;simp [h])) λq hq=>hB q (by refine rA (b6 _ _) ?_;simp [hq])
 | .bin false l r::B,A,hA,hB=>by
  have hl:∀p∈l.pl,p<6:= λp hp=>hB p (by refine rA (b6 _ _) ?_;simp [Fm.pl,hp]);have hr:∀p∈r.pl,p<6:= λp hp=>hB p (by refine rA (b6 _ _) ?_;simp [Fm.pl,hp]);have hB':P6 B:= λq hq=>hB q (by refine rA (b6 _ _) ?_;simp [hq]);have hw:∀w,w∈gT l r B A []∨w∈iO l r A B []→P6 w.1∧P6 w.2:=by
   intro w h;have key:∀p,(p∈bJ w.1∨p∈bJ w.2)→p<6:=by
    intro p hp
    have:=h.elim (λh=>vX l r B A [] w h p hp) λh=>wK l r A B [] w h p hp
    rcases this with q|q|q|q|q
    ·simp [bJ] at q
    ·exact hA p q
    ·exact hl p q
    ·exact hr p q
    ·exact hB' p q
   exact ⟨λp hp=>key p (.inl hp),λp hp=>key p (.inr hp)⟩
  refine (?_:(match Ai (Fg.getD i []) l r B A [] with
   |some w=>rm w.1&&rm w.2
   |none=>match Af (Fg.getD i []) l r A B [] with
    |some w=>rm w.1&&rm w.2
    |none=>Xa (Fg.getD i []) rm (A++[Fm.bin false l r]) B)=(match (gT l r B A []++iO l r A B []).find? (λw=>bj (aH.getD i []) (bJ w.1)) with
   |some w=>rc w.1&&rc w.2
   |none=>xR (aH.getD i []) rc (A++[Fm.bin false l r]) B))
  refine rA (C8 hi l r B hl A [] hA) ?_;refine rA (BU hi l r A hr B [] hB' (λp hp=>by simp [bJ] at hp)) ?_;simp only [List.find?_append];cases e1:(gT l r B A []).find? (λw=>bj (aH.getD i []) (bJ w.1)) with
  |some w=>
   refine f_ (hw w (.inl (Nr e1))) λh1 h2=>?_;simp only [Option.some_or,hrc _ h1,hrc _ h2]
  |none=>
   simp only [Option.none_or];cases e2:(iO l r A B []).find? (λw=>bj (aH.getD i []) (bJ w.1)) with
   |some w=>
    refine f_ (hw w (.inr (Nr e2))) λh1 h2=>?_;simp only [hrc _ h1,hrc _ h2]
   |none=>
    exact um hi hrc B (A++[.bin false l r]) (λq hq=>by rw [d7,AE] at hq;exact hq.elim (hA q) λh=>hB q (by refine rA (b6 _ _) ?_;rw [b6,gx,DO] at h;simp [h])) hB'
theorem IC(hi:i<5):∀ (k:Nat) (G:List Fm),P6 G→prM (Fg.getD i []) k G=pr (aH.getD i []) k G
 |0,_,_=>rfl
 |k+1,G,h=>by
  refine (?_:(two (fN G)||Xa (Fg.getD i []) (prM (Fg.getD i []) k) [] (fN G))=(two (fN G)||xR (aH.getD i []) (pr (aH.getD i []) k) [] (fN G)));exact rA (um hi (λG hG=>IC hi k G hG) (fN G) [] (λp hp=>by simp [bJ] at hp) (λp hp=>h p (by rw [pR] at hp;exact hp))) rfl
theorem z7:∀ (F:Fm) (n:Nat),(gr F n).2.length+1=F.pl.length
 | .at _,_=>rfl
 | .bin p l r,n=>by
  have h1:=z7 l n;have h2:=z7 r (n+(gr l n).2.length);simp only [zZ,Fm.pl,be,AH,EZ];lia
theorem kP:∀ (G:List Fm) (n:Nat),(eM G n).length+G.length=(bJ G).length
 | [],_=>rfl
 |F::G,n=>by
  have h1:=z7 F n;have h2:=kP G (n+(gr F n).2.length);simp only [ti,b6,be,AH];lia
theorem FL:((zt 5).all λi=>(zt 6).all λn=>(start (aH.getD i []) n).all λx=>decide (x<16))=true:=by decide+kernel
noncomputable def Pc(r N:Nat):Bool:=(zt 5).all λi=>(enG r 0 6).all λG=>zU N (f9 (start (aH.getD i []) (6-r))) G==prM (Fg.getD i []) 12 G
theorem an2:Pc 1 11=true:=by decide+kernel
theorem am4:Pc 2 10=true:=by decide+kernel
theorem am5:Pc 3 9=true:=by decide+kernel
theorem Uy{G:List Fm}(hi:i<5)(hp:bJ G=Ff 0 6)(h1:1≤G.length)(h3:G.length≤3):trees (aH.getD i []) G=pr (aH.getD i []) 12 G:=by
 have hl:=kP G 0;rw [hp,Lk] at hl
 have hn:(eM G 0).length=6-G.length:=by lia
 have hs:∀x∈start (aH.getD i []) (eM G 0).length,x<16:=by
  have:=Bw.mp (Bw.mp FL i (D3.mpr hi)) (eM G 0).length (D3.mpr (by lia))
  intro x hx
  simpa using Bw.mp this x hx
 have h6:P6 G:= λp h=>by rw [hp,P7] at h;lia
 refine rA (FK hs) ?_;refine rB (IC hi 12 G h6) ?_;refine rA hn ?_;have hm:=Bq G 0 6 hp (DU _);have key:Pc G.length (6+(6-G.length))=true:=by
  have:G.length=1∨G.length=2∨G.length=3:=by lia
  rcases this with q|q|q
  ·refine rA q ?_;exact an2
  ·refine rA q ?_;exact am4
  ·refine rA q ?_;exact am5
 have:=Bw.mp (Bw.mp key i (D3.mpr hi)) G hm
 simpa using this
theorem pe{k:Int}(h0:0≤k)(h1:k≤n):clipAt n k=k.toNat:=by
 unfold clipAt;refine rA (if_neg (by lia)) ?_
 congr 1;lia
theorem p0{X:Type}(xs:List X)(h:k≤xs.length):fA xs none (some (k:Int))=xs.take k:=by
 simp only [fA,SQ,pe (n:=xs.length) (k:=k) (by lia) (by lia),Fq,SG,Sd]
theorem Cm{X:Type}(xs:List X)(h:k≤xs.length):fA xs (some (k:Int)) none=xs.drop k:=by
 simp only [fA,SQ,pe (n:=xs.length) (k:=k) (by lia) (by lia),Fq];exact Fn (by simp)
theorem G_{X:Type}(xs:List X){a:Nat}(hab:a≤b)(h:b≤xs.length):fA xs (some (a:Int)) (some (b:Int))=(xs.drop a).take (b-a):=by
 simp only [fA,SQ,pe (n:=xs.length) (k:=a) (by lia) (by lia),pe (n:=xs.length) (k:=b) (by lia) (by lia),Fq]
theorem fg{p q:PF}{lo hi:Option Int}(hf:f ρ μ=some (.d (.list xs),μ))(hp:p ρ μ=some (lo,μ))(hq:q ρ μ=some (hi,μ))(hz:xs.length≤sizeLine):ci f p q ρ μ=some (.d (.list (fA xs lo hi)),μ):=by
 exact (b5 hf).trans ((b5 hp).trans ((b5 hq).trans ((eZ (rfl:lS (.d (.list xs))=none)).trans ((eZ (rfl:Hx (.d (.list xs))=none)).trans ((bU (rfl:dc μ (.d (.list xs))=some xs)).trans (if_pos hz))))))
theorem jW{x:Int}(hf:f ρ μ=some (.d (.int x),μ))(hg:g ρ μ=some (.d (.int y),μ)):aj f g (aS λx y=>some (x-y)) ρ μ=some (.d (.int (x-y)),μ):=cW hf hg rfl
theorem ln{b:Bool}(e:t ρ μ=some (b,μ))(ht:b=true→f ρ μ=some (V,μ))(hf:b=false→g ρ μ=some (V,μ)):dx t f g ρ μ=some (V,μ):=by
 cases b with
 |true=>refine rA (xA e) ?_;exact ht rfl
 |false=>refine rA (sV e) ?_;exact hf rfl
inductive Tr where
 |at (i:Nat)
 |nd (t:Nat) (l r:Tr)
noncomputable def Tr.code:Tr→List Int
 | .at i=>[(i:Int)]
 | .nd t l r=>(-1-(t:Int))::(l.code++r.code)
noncomputable def Tr.pl:Tr→List Nat
 | .at i=>[i]
 | .nd _ l r=>l.pl++r.pl
noncomputable def Tr.ok(n:Nat):Tr→Prop
 | .at i=>i<6
 | .nd t l r=>t<n∧l.ok n∧r.ok n
theorem Tr.ok.up:∀ {T:Tr},T.ok n→T.ok (n+1)
 | .at _,h=>h
 | .nd _ _ _,h=>(fu (P5 h.1) h.2.1.up h.2.2.up)
noncomputable def Tr.sz:Tr→Nat
 | .at _=>1
 | .nd _ l r=>l.sz+r.sz+1
theorem Tr.code_len:∀T:Tr,T.code.length+1=2*T.pl.length
 | .at _=>rfl
 | .nd _ l r=>by
  have:=l.code_len;have:=r.code_len
  simp only [Tr.code,Tr.pl,AH,be];lia
noncomputable def gL(F:List Tr):List PyData:=F.map λT=>.list (iL T.code)
noncomputable def le(F:List Tr):List Nat:=F.flatMap Tr.pl
noncomputable def sB(C m ro pa:PyData)(T:Int)(j:Nat)(a b c d:Option AV):d5:=[some (.d C),some (.d (.int T)),some (.d m),some (.d ro),some (.d pa),some (.c j),a,b,c,d]
theorem Ta{l:List Int}(h:k<l.length):(iL l)[k]? =some (.int (l.getD k 0)):=by
 simp [iL,Ft h]
theorem lQ{l:List Int}(hf:f ρ μ=some (V,μ))(hs:v7 μ V=some (iL l))(hg:g ρ μ=some (.d (.int k),μ))(h:k<l.length)(hz:l.length≤1000):aF f g ρ μ=some (.d (.int (l.getD k 0)),μ):=
 cJ hf hg hs (by lia) (by refine rA (Fq _) ?_;exact Ta h) (by refine rA (xO _) ?_;exact aa (by lia))
theorem ae0(k:Int)(fP:PyData→PyData)(hf:∀ (n x:Int),∃y:Int,fP (.tuple [.int n,.int x])=.int y)(pP:PyData→Bool)(hp:∀ (n:Nat) (x:Int),pP (.tuple [.int n,.int x])= !((n:Int)==k)):
  ∀ (ps:List Int) (j:Nat),∃ps',((cN j (iL ps)).filter pP).map fP=iL ps'∧(((j:Int)≤k∧k<j+ps.length)→ps'.length+1=ps.length)∧(¬((j:Int)≤k∧k<j+ps.length)→ps'.length=ps.length)
 | [],j=>(cL ([]) rfl (λh=>by simp at h;omega) (λzz=>rfl))
 |x::ps,j=>by
  refine ct (ae0 k fP hf pP hp ps (j+1)) λps' e h1 h2=>?_;refine bP (hf j x) λy ey=>?_;have hc:cN j (iL (x::ps))=.tuple [.int j,.int x]::cN (j+1) (iL ps):=rfl;refine rA hc ?_;refine rA KT ?_;refine rA (hp _ _) ?_
  by_cases q:(j:Int)=k
  ·refine (cL ps' ?_ (λzz=>?_) (λh=>absurd ⟨by omega,by simp only [AH];omega⟩ h))
   ·have:((j:Int)==k)=true:=by simpa using q
    refine rA this ?_;exact e
   ·refine rA (h2 (by omega)) ?_;exact rA AH rfl
  ·refine (cL (y::ps') ?_ (λh=>?_) (λh=>?_))
   ·have:((j:Int)==k)=false:=by simpa using q
    refine rA this ?_;simp only [UM,if_true,F7,e,ey]
   ·simp only [AH] at h⊢
    exact rA (h1 (by omega)) rfl
   ·simp only [AH] at h⊢
    exact rA (h2 (by omega)) rfl
abbrev Sg:SF:=(cb 7 (aj (aF (a9 0) (a9 6)) (aj (af [(a9 3)] dC) (kI 1) (aS λx y=>some (x-y))) (aS cu)))
abbrev Ru:SF:=(cj (eh (a9 5) (dx (bA (aF (a9 4) (a9 7)) (aF (a9 4) (aj (a9 7) (kI 1) aT)) dK) (kI 274) (kI 272))))
abbrev QY:SF:=(cb 4 (ce oi (b_ [(a9 4)] ga) (j6 10 11) (cX (bA (a9 10) (a9 7) p8) (aY (dx (bA (a9 11) (aF (a9 4) (aj (a9 7) (kI 1) aT)) dK) (aF (a9 4) (a9 7)) (a9 11))))))
abbrev R6:SF:=(cb 3 (aj (aj (ci (a9 3) ba (aL (a9 7))) (aU [(aj (aj (aU [(aj (jr (kI 1)) (a9 6) (aS λx y=>some (x-y)))]) (aF (a9 3) (a9 7)) aT) (aF (a9 3) (aj (a9 7) (kI 1) aT)) aT)]) aT) (ci (a9 3) (aL (aj (a9 7) (kI 2) aT)) ba) aT))
abbrev Ie:SF:=(ap Sg (ap Ru (ap QY (ap R6 aP))))
noncomputable def Yl(a b:Int):PyData→PyData
 | .tuple [_,.int y]=>.int (if y=b then a else y)
 |y=>y
noncomputable def Zj(k:Int):PyData→Bool
 | .tuple [.int n,_]=>!(n==k)
 |_=>false
noncomputable def zF:Int→Prop:= λx=>x=272∨x=274
theorem Vv{M:PyData}{T:Int}{t:Nat}{F:List Tr}{ps:List Int}{b c d:Option AV}(hc:cs.length=6)(ht:t<6)(hF:2≤F.length)(h6:F.length≤6)(hps:ps.length=F.length)(hK:K.length≤10)
  (hpl:le F=Ff 0 6) (hok:∀x∈F,x.ok t) (hj:μ[j]? =some (.live (iL K))):
  ∃F' ps' x k,Ie (sB (.list (iL cs)) M (.list (gL F)) (.list (iL ps)) T j (some (.d (.int t))) b c d) μ=some (.next,sB (.list (iL cs)) M (.list (gL F')) (.list (iL ps')) T j (some (.d (.int t))) (some (.d (.int k))) c d,μ.set j (.live (iL (K++[x]))))∧
   F'.length+1=F.length∧ps'.length=F'.length∧le F'=Ff 0 6∧(∀x∈F',x.ok (t+1))∧zF x:=by
 have hz:(gL F).length≤sizeLine:=by rw [gL];refine rA (xO _) ?_;exact aa (by lia)
 have hrl:(gL F).length=F.length:=by rw [gL];exact rA (xO _) rfl
 
 have hm0:0≤(cs.getD t 0).fmod ((F.length:Int)-1):=Fp _ (by lia);have hm1:(cs.getD t 0).fmod ((F.length:Int)-1)< (F.length:Int)-1:=IX _ (by lia);refine eE λGG kG=>?_;refine bP (Lh hm0) λk hk=>?_;have hkF:k+1<F.length:=by lia
 obtain ⟨A,l,r,B,rfl,hA⟩:∃A l r B,F=A++l::r::B∧A.length=k:=by
  refine (MN (F.take k) (F[k]) (F[k+1]) (F.drop (k+2)) ?_ (by refine rA LU ?_;lia));refine rA (RN _) ?_;refine rA (RN _) ?_;exact rA (L_ _ _) rfl
 refine kG ?_;have hlen:(A++l::r::B).length=A.length+B.length+2:=by simp only [be,AH];lia
 generalize hFF:A++l::r::B=F at*
 let ρ0:=sB (.list (iL cs)) M (.list (gL F)) (.list (iL ps)) T j (some (.d (.int t))) b c d
 let ρ1:=sB (.list (iL cs)) M (.list (gL F)) (.list (iL ps)) T j (some (.d (.int t))) (some (.d (.int k))) c d
 have e0:Sg ρ0 μ=some (.next,ρ1,μ):=by
  refine (bO (cW (lQ (f:=a9 0) (g:=a9 6) (V:=.d (.list (iL cs))) (k:=t) rfl rfl rfl (by lia) (by lia)) (jW (gG (f:=a9 3) (xs:=gL F) rfl rfl hz) rfl) (fk (by lia)))).trans ?_;refine rA hrl ?_;refine rA hk ?_;rfl
 
 have ei:∀μ,aF (a9 4) (a9 7) ρ1 μ=some (.d (.int (ps.getD k 0)),μ):= λμ=>lQ (V:=.d (.list (iL ps))) rfl rfl rfl (by lia) (by lia);have ei1:∀μ,aF (a9 4) (aj (a9 7) (kI 1) aT) ρ1 μ=some (.d (.int (ps.getD (k+1) 0)),μ):= λμ=>lQ (V:=.d (.list (iL ps))) rfl rfl (cT (x:=k) (y:=1) rfl rfl) (by lia) (by lia)
 let x:Int:=if ps.getD k 0=ps.getD (k+1) 0 then 274 else 272
 have ex:dx (bA (aF (a9 4) (a9 7)) (aF (a9 4) (aj (a9 7) (kI 1) aT)) dK) (kI 274) (kI 272) ρ1 μ=some (.d (.int x),μ):=by
  refine ln (o4 (ei μ) (ei1 μ)) (λh=>?_) (λh=>?_)
  ·show _=some (AV.d (.int (if _ then _ else _)),μ)
   refine rA (if_pos (by simpa using h)) ?_;rfl
  ·show _=some (AV.d (.int (if _ then _ else _)),μ)
   refine rA (if_neg (by simpa using h)) ?_;rfl
 have e1:Ru ρ1 μ=some (.next,ρ1,μ.set j (.live (iL (K++[x])))):=by
  refine (er (gj (j:=j) rfl ex hj (by refine rA (xO _) ?_;exact aa (by lia)))).trans ?_;exact rA (show iL K++[F8 x]=iL (K++[x]) by simp) rfl
 generalize hμ:μ.set j (.live (iL (K++[x])))=μ1 at e1⊢
 
 refine ct (ae0 (k:Int) (Yl (ps.getD k 0) (ps.getD (k+1) 0)) (λn y=>⟨_,rfl⟩) (Zj k) (λn y=>rfl) ps 0) λps' eps hp1 zz=>?_;have hpl':=hp1 (by lia)
 let ρ2:=sB (.list (iL cs)) M (.list (gL F)) (.list (iL ps')) T j (some (.d (.int t))) (some (.d (.int k))) c d
 have e2:QY ρ1 μ1=some (.next,ρ2,μ1):=by
  have hcm:=rL (sc:=oi) (t:=bA (a9 10) (a9 7) p8) (e:=dx (bA (a9 11) (aF (a9 4) (aj (a9 7) (kI 1) aT)) dK) (aF (a9 4) (a9 7)) (a9 11)) (ρ:=ρ1) (μ:=μ1) 10 11 (by decide) (Zj k) (Yl (ps.getD k 0) (ps.getD (k+1) 0))
   (jV (f:=a9 4) (V:=.d (.list (iL ps))) (xs:=iL ps) rfl rfl) (az _ _) (λy hy=>by
    refine eE λGG kG=>?_;refine lP (mH ps 0 hy) λn o zq2=>?_;subst zq2;refine kG ?_;refine (dy (.int n) (.int o) rfl (neI (x:=n) (y:=k) rfl rfl) (λzz=>?_));have q1:aF (a9 4) (a9 7) (((bG oi ρ1).set 10 (some (.d (.int n)))).set 11 (some (.d (.int o)))) μ1=some (.d (.int (ps.getD k 0)),μ1):=lQ (V:=.d (.list (iL ps))) rfl rfl rfl (by lia) (by lia);have q2:aF (a9 4) (aj (a9 7) (kI 1) aT) (((bG oi ρ1).set 10 (some (.d (.int n)))).set 11 (some (.d (.int o)))) μ1=some (.d (.int (ps.getD (k+1) 0)),μ1):=lQ (V:=.d (.list (iL ps))) rfl rfl (cT (x:=k) (y:=1) rfl rfl) (by lia) (by lia);refine ln (o4 (x:=o) rfl q2) (λh=>?_) (λh=>?_)
    ·show _=some (AV.d (.int (if _ then _ else _)),μ1)
     refine rA (if_pos (by simpa using h)) ?_;exact q1
    ·show _=some (AV.d (.int (if _ then _ else _)),μ1)
     refine rA (if_neg (by simpa using h)) ?_;rfl) (by refine rA (ij _ _) ?_;refine rA (xO _) ?_;exact aa (by lia))
  refine (bO (bY hcm)).trans ?_;refine rA eps ?_;rfl
 
 let F':=A++.nd t l r::B
 let ρ3:=sB (.list (iL cs)) M (.list (gL F')) (.list (iL ps')) T j (some (.d (.int t))) (some (.d (.int k))) c d
 have hg:∀ (i:Nat) (T:Tr),F[i]? =some T→(gL F)[i]? =some (.list (iL T.code)):= λi T h=>by rw [gL,G1];refine rA h ?_;rfl
 have gl:F[k]? =some l:=by refine rB hFF ?_;refine rB hA ?_;simp
 have gr':F[k+1]? =some r:=by refine rB hFF ?_;refine rB hA ?_;simp
 have pll:le F=le A++(l.pl++(r.pl++le B)):=by refine rB hFF ?_;simp [le]
 have plen:=congrArg NE hpl;rw [pll] at plen
 simp only [be,Lk] at plen
 have cl:=l.code_len;have cr:=r.code_len;have e3:R6 ρ2 μ1=some (.next,ρ3,μ1):=by
  have q1:ci (a9 3) ba (aL (a9 7)) ρ2 μ1=some (.d (.list (gL A)),μ1):=by
   refine (fg (f:=a9 3) (xs:=gL F) (lo:=none) (hi:=some (k:Int)) rfl rfl (dF rfl) hz).trans ?_;refine rA (p0 _ (by lia)) ?_;rw [gL];refine rB Rs ?_;refine rB hFF ?_;refine rB hA ?_;refine rA Pb ?_;rfl
  have q2:aF (a9 3) (a9 7) ρ2 μ1=some (.d (.list (iL l.code)),μ1):=cJ (f:=a9 3) (g:=a9 7) (V:=.d (.list (gL F))) (k:=(k:Int)) rfl rfl rfl (by lia) (by refine rA (Fq _) ?_;exact hg k l gl) hz;have q3:aF (a9 3) (aj (a9 7) (kI 1) aT) ρ2 μ1=some (.d (.list (iL r.code)),μ1):=cJ (f:=a9 3) (V:=.d (.list (gL F))) (k:=(k:Int)+1) rfl (cT (x:=k) (y:=1) rfl rfl) rfl (by lia) (by refine rA (show ((k:Int)+1).toNat=k+1 by lia) ?_;exact hg (k+1) r gr') hz;have q4:ci (a9 3) (aL (aj (a9 7) (kI 2) aT)) ba ρ2 μ1=some (.d (.list (gL B)),μ1):=by
   refine (fg (f:=a9 3) (xs:=gL F) (lo:=some ((k+2:Nat):Int)) (hi:=none) rfl (dF (cT (x:=k) (y:=2) rfl rfl)) rfl hz).trans ?_;refine rA (Cm _ (by lia)) ?_;rw [gL];refine rB Tm ?_;refine rB hFF ?_;refine rB hA ?_
   have:(A++l::r::B).drop (A.length+2)=B:=by refine rA Nz ?_;simp
   refine rA this ?_;rfl
  have q5:aU [(aj (jr (kI 1)) (a9 6) (aS λx y=>some (x-y)))] ρ2 μ1=some (.d (.list (iL [-1-(t:Int)])),μ1):=kt (jW (f:=jr (kI 1)) (g:=a9 6) (x:= -1) (y:=t) rfl rfl);have q6:=cU (cU q5 q2 (xs:=iL [-1-(t:Int)]) (ys:=iL l.code) rfl rfl (aa (by simp only [xO,AH,EZ];lia))) q3 (xs:=iL [-1-(t:Int)]++iL l.code) (ys:=iL r.code) rfl rfl (aa (by simp only [be,xO,AH,EZ];lia));have q7:=cU (cU q1 (kt q6) (xs:=gL A) rfl rfl (aa (by simp only [gL,xO,AH,EZ];lia))) q4 rfl (ys:=gL B) rfl (aa (by simp only [gL,be,xO,AH,EZ];lia));refine (bO q7).trans ?_
  have:gL A++[NV (iL [-1-(t:Int)]++iL l.code++iL r.code)]++gL B=gL F':=by
   simp [F',gL,Tr.code]
  refine rA this ?_;rfl
 have hF'pl:le F'=le A++((l.pl++r.pl)++le B):=by simp [F',le,Tr.pl]
 refine (oF F' ps' x k ((aB e0).trans ((aB e1).trans ((aB e2).trans ((aB e3).trans (bK.trans (by exact rA hμ rfl)))))) (by simp only [F',be,AH];lia) (by simp only [F',be,AH];lia) ?_ ?_ ?_)
 ·refine rA hF'pl ?_;refine rB hpl ?_;refine rA pll ?_;simp
 ·intro y hy
  simp only [F',AE,Cc] at hy
  rcases hy with q|q|q
  ·exact (hok y (by refine rB hFF ?_;simp [q])).up
  ·subst q
   exact (fu (Rx t) ((hok l (by refine rB hFF ?_;simp)).up) ((hok r (by refine rB hFF ?_;simp)).up))
  ·exact (hok y (by refine rB hFF ?_;simp [q])).up
 ·show (if _ then (274:Int) else 272)=272∨(if _ then (274:Int) else 272)=274
  split
  ·exact .inr rfl
  ·exact .inl rfl
theorem pt{itf2:IF}{e:EF}{g:Option Nat}(i j:Nat)(hij:i≠j)(p:PyData→Bool)(ys:PyData→List PyData)(v:PyData→PyData→PyData)(hi:itf ρ μ=some (xs,g,μ1))(hg:cy g xs μ1)
  (ht:∀x∈xs,∀w,t (((bG sc ρ).set i (some (.d x))).set j w) μ1=some (p x,μ1))
  (h2:∀x∈xs,p x=true→∀w,itf2 (((bG sc ρ).set i (some (.d x))).set j w) μ1=some (ys x,none,μ1))
  (h3:∀x∈xs,p x=true→∀y∈ys x,e (((bG sc ρ).set i (some (.d x))).set j (some (.d y))) μ1=some (.d (v x y),μ1))
  (hz:(xs.flatMap λx=>if p x then (ys x).map (v x) else []).length≤sizeLine):
  fj sc itf (dz i) (cX t (gk itf2 (dz j) (cX bg (aY e)))) ρ μ=some (xs.flatMap λx=>if p x then (ys x).map (v x) else [],μ1):=by
 refine vr hi hg (λσ=>∃u w,σ=((bG sc ρ).set i u).set j w) (λx=>if p x then (ys x).map (v x) else []) (jN ((bG sc ρ)[i]?.join) ((bG sc ρ)[j]?.join) ?_) (λx hx σ hσ acc hacc=>?_) hz
 ·apply TS
  intro k;simp only [Qz,LF]
  split
  ·rename_i h;subst h
   split
   ·rename_i h;simp [Ft h]
   ·rename_i h;simp [Po (LS h)]
  ·split
   ·rename_i h;subst h
    split
    ·rename_i h;simp [Ft h]
    ·rename_i h;simp [Po (LS h)]
   ·rfl
 ·refine lP hσ λu w zq2=>?_
  subst zq2;have es:(((bG sc ρ).set i u).set j w).set i (some (.d x))=((bG sc ρ).set i (some (.d x))).set j w:=by
   refine rA (Rn _ _ (MP hij)) ?_;exact rA (HA _) rfl
  refine ⟨((bG sc ρ).set i (some (.d x))).set j w,?_⟩;cases hp:p x with
  |false=>
   refine (BG (((bG sc ρ).set i (some (.d x))).set j w) ?_ ?_ _ _ rfl)
   ·show some _=some _;exact rA es rfl
   ·refine (Ym ((ht x hx w).trans (by rw [hp]))).trans ?_
    simp
  |true=>
   rw [hp] at hacc
   simp only [if_true,xO] at hacc
   obtain ⟨ρ',⟨w',hw⟩,hf⟩:=ni (tf:=dz j) (cf:=cX bg (aY e)) (μ:=μ1) (xs:=ys x) (g:=none) (az _ _) (λσ=>∃w,σ=((bG sc ρ).set i (some (.d x))).set j w) (λy=>[v x y]) (ys x) _ acc ⟨w,rfl⟩ (λy hy σ hσ acc hacc=>by
    refine bP hσ λw zq1=>?_;subst zq1;refine (Cv (((bG sc ρ).set i (some (.d x))).set j (some (.d y))) _ ?_ (pq (h3 x hx hp y hy) acc hacc) _ rfl)
    show some _=some _
    exact rA (HA _) rfl) (by refine rA (fI _ _) ?_;refine rA (xO _) ?_;exact hacc)
   rw [fI] at hf
   refine (BG ρ' ?_ ?_ _ w' hw)
   ·show some _=some _;exact rA es rfl
   ·exact (YB ((ht x hx w).trans (by rw [hp]))).trans ((wj (h2 x hx hp w)).trans hf)
theorem JN{M:PyData}{T:Int}{μ0:List ah}(hj:j=μ0.length)(hc:cs.length=6)(xs:List PyData):∀ (n t:Nat) (F:List Tr) (ps K:List Int) (a b c d:Option AV),n+t≤5→F.length+t=6→ps.length=F.length→K.length=t→le F=Ff 0 6→(∀x∈F,x.ok t)→(∀x∈K,zF x)→
  ∃F' ps' K' a' b',fR (dz 6) Ie aP none xs (fK t n) (sB (.list (iL cs)) M (.list (gL F)) (.list (iL ps)) T j a b c d) (μ0++[.live (iL K)])=some (.next,sB (.list (iL cs)) M (.list (gL F')) (.list (iL ps')) T j a' b' c d,μ0++[.live (iL K')])∧
   F'.length+(n+t)=6∧K'.length=n+t∧le F'=Ff 0 6∧(∀x∈F',x.ok (n+t))∧(∀x∈K',zF x)
 |0,t,F,ps,K,a,b,c,d,h,hF,hps,hK,hpl,hok,hkin=>(mi F ps K a b rfl (by lia) (by lia) hpl (by simpa using hok) hkin)
 |n+1,t,F,ps,K,a,b,c,d,h,hF,hps,hK,hpl,hok,hkin=>by
  refine eE λGG kG=>?_;refine oJ (Vv (cs:=cs) (M:=M) (T:=T) (t:=t) (F:=F) (ps:=ps) (K:=K) (j:=j) (b:=b) (c:=c) (d:=d) (μ:=μ0++[.live (iL K)]) hc (by lia) (by lia) (by lia) hps (by lia) hpl hok (by subst hj;exact dq)) λF1 ps1 x k e h1 h2 h3 h4 h5=>?_;obtain ⟨F',ps',K',a',b',g,g1,g2,g3,g4,g5⟩:=JN hj hc xs n (t+1) F1 ps1 (K++[x]) (some (.d (.int t))) (some (.d (.int k))) c d (by lia) (by lia) h2 (by simp [hK]) h3 h4 (λy hy=>by
   rcases AE.mp hy with q|q
   ·exact hkin y q
   ·refine rA (Aq.mp q) ?_;exact h5)
  refine kG ?_;refine (mi F' ps' K' a' b' ?_ (by lia) (by lia) g3 (by refine rA (show n+1+t=n+(t+1) by lia) ?_;exact g4) g5);rw [show (μ0++[ah.live (iL K)]).set j (.live (iL (K++[x])))=μ0++[.live (iL (K++[x]))] by rw [hj];exact fm] at e
  exact LO (dP (ρ1:=sB (.list (iL cs)) M (.list (gL F)) (.list (iL ps)) T j (some (.d (.int t))) b c d) rfl e (az _ _)) g
noncomputable def lc(K:List Int):Tr→Fm
 | .at i=>.at i
 | .nd t l r=>.bin (K.getD t 0==274) (lc K l) (lc K r)
theorem tU(K:List Int):∀T:Tr,(lc K T).pl=T.pl
 | .at _=>rfl
 | .nd _ l r=>by simp only [lc,Fm.pl,Tr.pl,tU K l,tU K r]
noncomputable def T8(K:List Int)(m:List Nat):PyData→PyData
 | .int s=>.int (if s<0 then K.getD (-1-s).toNat 0 else if (m.getD s.toNat 0:Int)>s then 7 else 8)
 |x=>x
theorem p_(K:List Int)(m:List Nat)(hK:∀x∈K,zF x):∀T:Tr,T.ok K.length→(iL T.code).map (T8 K m)=iL ((lc K T).pre m)
 | .at i,_=>by
  refine (?_:[F8 (if (i:Int)<0 then K.getD (-1-(i:Int)).toNat 0 else if (m.getD (i:Int).toNat 0:Int)>(i:Int) then 7 else 8)]=[F8 (if i<m.getD i 0 then 7 else 8)]);refine rA (if_neg (by lia)) ?_;refine rA (Fq _) ?_
  by_cases q:i<m.getD i 0
  ·refine rA (if_pos q) ?_;exact rA (if_pos (by lia)) rfl
  ·refine rA (if_neg q) ?_;exact rA (if_neg (by lia)) rfl
 | .nd t l r,h=>by
  refine dW h λh1 h2 h3=>?_;have ek:K.getD t 0=if (K.getD t 0==274)=true then 274 else 272:=by
   have:zF (K.getD t 0):=by
    rw [LR,Ft h1];exact hK _ (Ui h1)
   rcases this with q|q<;>rw [q]<;>rfl
  simp only [Tr.code,F7,Kf,lc,Fm.pre,p_ K m hK l h2,p_ K m hK r h3]
  congr 1
  refine (?_:F8 (if (-1-(t:Int))<0 then K.getD (-1-(-1-(t:Int))).toNat 0 else _)=_);refine rA (if_pos (by lia)) ?_;refine rA (show (-1-(-1-(t:Int))).toNat=t by lia) ?_;exact congrArg F8 ek
noncomputable def g9(T:Int):Nat:=([5,5,4,3]:List Nat).getD ((T.fdiv 25).fmod 4).toNat 0
theorem mw(T:Int):3≤g9 T∧g9 T≤5:=by
 have h0:0≤(T.fdiv 25).fmod 4:=Fp _ (by decide);have h1:(T.fdiv 25).fmod 4<4:=IX _ (by decide);unfold g9;generalize (T.fdiv 25).fmod 4=x at*
 have:x=0∨x=1∨x=2∨x=3:=by lia
 rcases this with rfl|rfl|rfl|rfl<;>decide
theorem jp{T:Int}(a b:Int)(ha:¬(a=0∨2^64≤a.natAbs))(hb:b≠0)(hf:f ρ μ=some (.d (.int T),μ))(hg:g ρ μ=some (.d (.int b),μ)):aj (aj f (kI a) (aS cQ)) g (aS cu) ρ μ=some (.d (.int ((T.fdiv a).fmod b)),μ):=
 cW (cW hf (rfl:kI a _ _=some (.d (.int a),_)) (l6 ha)) hg (fk hb)
theorem Iu{T:Int}(h1:a9 1 ρ μ=some (.d (.int T),μ)):aF (aU [(kI 5),(kI 5),(kI 4),(kI 3)]) (aj (aj (a9 1) (kI 25) (aS cQ)) (kI 4) (aS cu)) ρ μ=some (.d (.int (g9 T)),μ):=by
 have h0:0≤(T.fdiv 25).fmod 4:=Fp _ (by decide);have h4:(T.fdiv 25).fmod 4<4:=IX _ (by decide);refine cJ (V:=.d (.list [.int 5,.int 5,.int 4,.int 3])) (dJ (ds:=[.int 5,.int 5,.int 4,.int 3]) rfl (aa (xM rfl))) (jp 25 4 (by decide) (by decide) h1 rfl) rfl h0 ?_ (aa (xM rfl));unfold g9;generalize (T.fdiv 25).fmod 4=x at*
 have:x=0∨x=1∨x=2∨x=3:=by lia
 rcases this with rfl|rfl|rfl|rfl<;>rfl
theorem uO{x:Int}(hK:∀x∈K,zF x)(hx:zF x):∀y∈K.set i x,zF y:=by
 intro y hy
 rcases List.mem_or_eq_of_mem_set hy with q|q
 ·exact hK y q
 ·refine rA q ?_;exact hx
theorem va(hK:∀x∈K,zF x)(hi:i<K.length):zF (K.getD i 0):=by
 rw [LR,Ft hi];exact hK _ (Ui hi)
theorem Uu(K:List Int)(i:Nat)(x:Int):(iL K).set i (.int x)=iL (K.set i x):=by simp [iL,List.map_set]
theorem tE{x:Int}(hf:fo ρ μ=some (.c j,μ))(hg:fi ρ μ=some (.d (.int k),μ))(hc:μ[j]? =some (.live (iL K)))(hk:k<K.length)(hz:K.length≤1000):wn fo fi (.int x) ρ μ=some (μ.set j (.live (iL (K.set k x)))):=by
 refine (b5 hf).trans ((bU (rfl:Fo (.c j)=some j)).trans ((b5 hg).trans ((bU (rfl:jM (.d (.int k))=some (k:Int))).trans ((bU (show μ[j]?.bind liC=some (iL K) by rw [hc];rfl)).trans ((if_pos (fu (by lia) (by rw [xO];lia) (by rw [p63];lia))).trans ?_)))));rw [Fq,Uu]
theorem Oy{fv fo' fi':EF}{a b:PyData}(h:fv ρ μ=some (.d (.tuple [a,b]),μ1))(h1:wn fo fi a ρ μ1=some μ2)(h2:wn fo' fi' b ρ μ2=some μ3):HN fv fo fi fo' fi' ρ μ=some (.next,ρ,μ3):=by
 exact (b5 h).trans ((bU (rfl:Hx (.d (.tuple [a,b]))=some _)).trans ((b5 (rfl:l2 [a,b]=some (a,b))).trans ((bU h1).trans (bU h2))))
theorem OL{fv:EF}{a:PyData}(h:fv ρ μ=some (.d a,μ1))(h1:wn fo fi a ρ μ1=some μ2):TT fv fo fi ρ μ=some (.next,ρ,μ2):=by
 exact (b5 h).trans ((bU (rfl:vd (.d a)=some a)).trans (bU h1))
theorem Gi(hk:f ρ μ=some (.c j,μ))(hc:μ[j]? =some (.live (iL K)))(hz:K.length≤1000):af [f] dC ρ μ=some (.d (.int K.length),μ):=by
 have:=gG hk (xs:=iL K) (u_ hc) (by refine rA (xO _) ?_;exact aa (by lia))
 refine rA this ?_;exact rA (xO _) rfl
theorem yG(hf:f ρ μ=some (V,μ))(hs:v7 μ V=some (nL m))(hg:g ρ μ=some (.d (.int k),μ))(h:k<m.length)(hz:m.length≤1000):aF f g ρ μ=some (.d (.int (m.getD k 0:Nat)),μ):=
 cJ hf hg hs (by lia) (by refine rA (Fq _) ?_;exact tQ h) (by rw [nL];refine rA (xO _) ?_;exact aa (by lia))
theorem Uz:fK 0 6=(zt 6).map λ(i:Nat)=>F8 i:=rfl
theorem qu:∀ (T:Tr) (n:Nat),T.ok n→∀y∈T.code,(0≤y∧y<6)∨(y<0∧(-1-y).toNat<n)
 | .at i,n,h,y,hy=>by
  have h:i<6:=h;simp only [Tr.code,Aq] at hy
  subst hy;exact .inl ⟨by lia,by lia⟩
 | .nd t l r,n,h,y,hy=>by
  refine dW h λh1 h2 h3=>?_;simp only [Tr.code,Cc,AE] at hy
  rcases hy with q|q|q
  ·subst q;exact .inr ⟨by lia,by lia⟩
  ·exact qu l n h2 y q
  ·exact qu r n h3 y q
theorem rh:∀F:List Tr,(F.flatMap λT=>T.code).length≤2*(le F).length
 | []=>by simp [le]
 |T::F=>by
  have:=rh F
  have h:=T.code_len;simp only [le,Fs,be] at this⊢
  lia
theorem mN(K:List Int)(m:List Nat)(hK:∀x∈K,zF x):∀F:List Tr,(∀T∈F,T.ok K.length)→(gL F).flatMap (λx=>if true then ((match x with| .list l=>l|_=>[]):List PyData).map (T8 K m) else [])=iL ((F.map (lc K)).flatMap λF=>F.pre m)
 | [],_=>rfl
 |T::F,h=>by
  have ih:=mN K m hK F λx hx=>h x (by simp [hx]);simp only [gL,F7,Fs,if_true] at ih⊢
  rw [ih,p_ K m hK T (h T (by simp)),lI]
theorem GO{C ps:PyData}{T:Int}{F:List Tr}{K2:List Int}{a b c d:Option AV}(hm:m.length=6)(hK2:∀x∈K2,zF x)(hok:∀T∈F,T.ok K2.length)(hkl:K2.length≤10)(hpl:(iL ((F.map (lc K2)).flatMap λF=>F.pre m)).length≤12):
  Ct (sB C (.list (nL m)) (.list (gL F)) ps T μ.length a b c d) (μ++[.live (iL K2)])=some (.ret (.d (.list (iL ((F.map (lc K2)).flatMap (λF=>F.pre m)++[0])))),sB C (.list (nL m)) (.list (gL F)) ps T μ.length a b c d,μ++[.live (iL K2)]):=by
 have hcell:(μ++[ah.live (iL K2)])[μ.length]? =some (.live (iL K2)):=dq;unfold Ct;have hcm:=pt (sc:=rq) (itf:=aK false (a9 3)) (itf2:=aK false (a9 10)) (t:=bg) (e:=(dx (bA (a9 11) (kI 0) (eg λx y=>decide (x<y))) (aF (a9 5) (aj (jr (kI 1)) (a9 11) (aS λx y=>some (x-y)))) (dx (bA (aF (a9 2) (a9 11)) (a9 11) (eg λx y=>decide (y<x))) (kI 7) (kI 8)))) (ρ:=(sB C (.list (nL m)) (.list (gL F)) ps T μ.length a b c d)) (μ:=μ++[.live (iL K2)]) (xs:=gL F) 10 11 (by decide) (λzz=>true) (λx=>match x with| .list l=>l|_=>[]) (λzz=>T8 K2 m)
  (d9 (V:=.d (.list (gL F))) rfl rfl) (az _ _) (λzz zz zz=>rfl) (λx hx zz w=>by
   refine eE λGG kG=>?_;refine au (DT.mp hx) λT hT zq2=>?_;subst zq2;refine kG ?_;exact d9 (V:=.d (.list (iL T.code))) rfl rfl) (λx hx zz y hy=>by
   refine eE λGG kG=>?_;refine au (DT.mp hx) λT' hT zq2=>?_;subst zq2;refine au (DT.mp hy) λs hs zq2=>?_;subst zq2;refine kG ?_;have hb:=qu T' _ (hok T' hT) s hs;refine (?_:_=some (AV.d (.int (if s<0 then K2.getD (-1-s).toNat 0 else if (m.getD s.toNat 0:Int)>s then 7 else 8)),_));refine ln (ltI (x:=s) (y:=0) rfl rfl) (λh=>?_) (λh=>?_)
   ·have h:=of_decide_eq_true h
    refine rA (if_pos h) ?_;have hsub:aj (jr (kI 1)) (a9 11) (aS λx y=>some (x-y)) (((bG rq (sB C (.list (nL m)) (.list (gL F)) ps T μ.length a b c d)).set 10 (some (.d (.list (iL T'.code))))).set 11 (some (.d (.int s)))) (μ++[.live (iL K2)])=some (.d (.int ((-1-s).toNat:Nat)),μ++[.live (iL K2)]):=by
     refine rA (LN (by lia)) ?_;exact jW (x:= -1) (y:=s) rfl rfl
    exact lQ (f:=a9 5) (V:=.c μ.length) rfl (u_ hcell) hsub (by lia) (by lia)
   ·have h:=of_decide_eq_false h
    refine rA (if_neg h) ?_;have hg:a9 11 (((bG rq (sB C (.list (nL m)) (.list (gL F)) ps T μ.length a b c d)).set 10 (some (.d (.list (iL T'.code))))).set 11 (some (.d (.int s)))) (μ++[.live (iL K2)])=some (.d (.int (s.toNat:Nat)),μ++[.live (iL K2)]):=by
     refine rA (LN (by lia)) ?_;rfl
    have hmt:=yG (f:=a9 2) (V:=.d (.list (nL m))) (m:=m) rfl rfl hg (by lia) (by lia);refine ln (gtI (y:=s) hmt rfl) (λh=>?_) (λh=>?_)
    ·refine rA (if_pos (of_decide_eq_true h)) ?_;rfl
    ·refine rA (if_neg (of_decide_eq_false h)) ?_;rfl) (by
   refine rA (mN K2 m hK2 F hok) ?_;exact aa (by lia))
 rw [mN K2 m hK2 F hok] at hcm
 have:=cU (bY hcm) (kt (f:=kI 0) (d:=.int 0) rfl) rfl rfl (aa (by simp only [Gb];lia))
 refine (dZ this).trans ?_;exact rA (show iL ((F.map (lc K2)).flatMap λF=>F.pre m)++[F8 0]=iL ((F.map (lc K2)).flatMap (λF=>F.pre m)++[0]) by rw [←lI];rfl) rfl
theorem s65{T:Int}(hc:cs.length=6)(hm:m.length=6):
  ∃G:List Fm,bJ G=Ff 0 6∧G.length+g9 T=6∧gy [.d (.list (iL cs)),.d (.int T),.d (.list (nL m))] μ=some (.d (.list (iL (G.flatMap (λF=>F.pre m)++[0]))),μ):=by
 let M:PyData:=.list (nL m)
 let F0:List Tr:=(zt 6).map Tr.at
 let ps0:List Int:=(zt 6).map λ(i:Nat)=>if (m.getD i 0:Int)<i then (m.getD i 0:Int) else i
 let ρe:d5:=[some (.d (.list (iL cs))),some (.d (.int T)),some (.d M),none,none,none,none,none,none,none]
 let ρr:d5:=[some (.d (.list (iL cs))),some (.d (.int T)),some (.d M),some (.d (.list (gL F0))),none,none,none,none,none,none]
 let ρp:d5:=[some (.d (.list (iL cs))),some (.d (.int T)),some (.d M),some (.d (.list (gL F0))),some (.d (.list (iL ps0))),none,none,none,none,none]
 have e0:BM ρe μ=some (.next,ρr,μ):=by
  unfold BM
  have:=ic (xs:=fK 0 6) (g:=none) (sc:=Av) (e:=aU [a9 10]) (ρ:=ρe) (μ:=μ) 10 (λx=>.list [x]) (rfl:aK false (af [kI 6] cH) ρe μ=some (fK 0 6,none,μ)) (az _ _) (λx hx=>kt rfl) (aa (by decide))
  refine rA (jA this) ?_;have e:(fK 0 6).map (λx=>NV [x])=gL F0:=by refine rA Uz ?_;rfl
  refine rA e ?_;rfl
 have e1:AU ρr μ=some (.next,ρp,μ):=by
  unfold AU
  have:=ic (xs:=fK 0 6) (g:=none) (sc:=Ac) (e:=af [(a9 10),(aF (a9 2) (a9 10))] KE) (ρ:=ρr) (μ:=μ) 10 (λ| .int x=>.int (if (m.getD x.toNat 0:Int)<x then (m.getD x.toNat 0:Int) else x)|x=>x) (rfl:aK false (af [kI 6] cH) ρr μ=some (fK 0 6,none,μ)) (az _ _) (λx hx=>by
   rw [Uz] at hx
   refine eE λGG kG=>?_;refine au (DT.mp hx) λi hi zq2=>?_;subst zq2;refine kG ?_;have hi:=D3.mp hi;exact iR (V:=.d (.int i)) rfl (yG (V:=.d M) (k:=i) rfl rfl rfl (by lia) (by lia)) rfl) (aa (by decide))
  refine rA (bO (bY this)) ?_;have e:(fK 0 6).map (λ| .int x=>F8 (if (m.getD x.toNat 0:Int)<x then (m.getD x.toNat 0:Int) else x)|x=>x)=iL ps0:=by
   refine rA Uz ?_;refine rA E_ ?_;simp only [ps0,iL,E_];rfl
  refine rA e ?_;rfl
 have e2:Co ρp μ=some (.next,sB (.list (iL cs)) M (.list (gL F0)) (.list (iL ps0)) T μ.length none none none none,μ++[.live (iL [])]):=by
  unfold Co;refine rA (bO vD) ?_;rfl
 refine eE λGG kG=>?_;refine f_ (mw T) λt3 t5=>?_;obtain ⟨F,ps,K,a,b,g,g1,g2,g3,g4,g5⟩:=JN (cs:=cs) (M:=M) (T:=T) (μ0:=μ) rfl hc (fK 0 (g9 T)) (g9 T) 0 F0 ps0 [] none none none none (by lia) rfl rfl rfl (by decide) (by
  intro x hx;refine au (DT.mp hx) λi hi zq2=>?_;subst zq2;exact D3.mp hi) (by simp)
 refine kG ?_;simp only [U9] at g1 g2 g4
 let ρ3:=sB (.list (iL cs)) M (.list (gL F)) (.list (iL ps)) T μ.length a b none none
 have e3:Bb (sB (.list (iL cs)) M (.list (gL F0)) (.list (iL ps0)) T μ.length none none none none) (μ++[.live (iL [])])=some (.next,ρ3,μ++[.live (iL K)]):=by
  unfold Bb;have hi:aK false (af [(aF (aU [(kI 5),(kI 5),(kI 4),(kI 3)]) (aj (aj (a9 1) (kI 25) (aS cQ)) (kI 4) (aS cu)))] cH) (sB (.list (iL cs)) M (.list (gL F0)) (.list (iL ps0)) T μ.length none none none none) (μ++[.live (iL [])])=some (fK 0 (g9 T),none,μ++[.live (iL [])]):=by
   have hr:af [(aF (aU [(kI 5),(kI 5),(kI 4),(kI 3)]) (aj (aj (a9 1) (kI 25) (aS cQ)) (kI 4) (aS cu)))] cH (sB (.list (iL cs)) M (.list (gL F0)) (.list (iL ps0)) T μ.length none none none none) (μ++[.live (iL [])])=some (.rng 0 (g9 T),μ++[.live (iL [])]):=d6 (Iu rfl) rfl;have hs:∀n:Nat,n≤5→KB 0 n 1=true:=by
    intro n hn
    have:n=0∨n=1∨n=2∨n=3∨n=4∨n=5:=by lia
    rcases this with rfl|rfl|rfl|rfl|rfl|rfl<;>decide+kernel
   exact (nr hr (hs _ t5)).trans (by simp)
  refine rA (gM hi) ?_;exact g
 let one:Nat:=((T.fdiv 100).fmod K.length).toNat
 let two:Nat:=((T.fdiv 500).fmod K.length).toNat
 have hKp:(K.length:Int)>0:=by lia
 have one_i:(T.fdiv 100).fmod K.length=(one:Int):=(LN (Fp _ hKp)).symm;have two_i:(T.fdiv 500).fmod K.length=(two:Int):=(LN (Fp _ hKp)).symm;have hone:one<K.length:=by have:=IX (T.fdiv 100) hKp;lia
 have htwo:two<K.length:=by have:=IX (T.fdiv 500) hKp;lia
 let ρ4:=sB (.list (iL cs)) M (.list (gL F)) (.list (iL ps)) T μ.length a b (some (.d (.int one))) (some (.d (.int two)))
 have hcell:∀K:List Int,(μ++[ah.live (iL K)])[μ.length]? =some (.live (iL K)):= λK=>dq;have hset:∀K K':List Int,(μ++[ah.live (iL K)]).set μ.length (.live (iL K'))=μ++[.live (iL K')]:= λK K'=>fm;have e4:B8 ρ3 (μ++[.live (iL K)])=some (.next,ρ4,μ++[.live (iL K)]):=by
  unfold B8;have hl:af [a9 5] dC ρ3 (μ++[.live (iL K)])=some (.d (.int K.length),μ++[.live (iL K)]):=Gi rfl (hcell K) (by lia);have h1:=jp (f:=a9 1) (g:=af [a9 5] dC) (ρ:=ρ3) (T:=T) 100 K.length (by decide) (by lia) rfl hl;have h2:=jp (f:=a9 1) (g:=af [a9 5] dC) (ρ:=ρ3) (T:=T) 500 K.length (by decide) (by lia) rfl hl;rw [one_i] at h1
  rw [two_i] at h2
  have ht:=d8 (ds:=[.int one,.int two]) (an h1 (an h2 bX)) (aa (xM rfl));exact CH ht
 have iK:∀ (K:List Int) (k i:Nat),a9 i ρ4 (μ++[.live (iL K)])=some (.d (.int k),μ++[.live (iL K)])→k<K.length→K.length≤1000→aF (a9 5) (a9 i) ρ4 (μ++[.live (iL K)])=some (.d (.int (K.getD k 0)),μ++[.live (iL K)]):= λK k i h hk hz=>
  lQ (f:=a9 5) (V:=.c μ.length) rfl (u_ (hcell K)) h hk hz
 let K1:=(K.set one (K.getD two 0)).set two (K.getD one 0)
 have hK1:∀x∈K1,zF x:=uO (uO g5 (va g5 htwo)) (va g5 hone);have lK1:K1.length=K.length:=by simp [K1]
 have e5:A_ ρ4 (μ++[.live (iL K)])=some (.next,ρ4,μ++[.live (iL K1)]):=by
  unfold A_;have ht:=d8 (ds:=[.int (K.getD two 0),.int (K.getD one 0)]) (an (iK K two 9 rfl htwo (by lia)) (an (iK K one 8 rfl hone (by lia)) bX)) (aa (xM rfl));have s1:=tE (fo:=a9 5) (fi:=a9 8) (ρ:=ρ4) (j:=μ.length) (k:=one) (K:=K) (x:=K.getD two 0) rfl rfl (hcell K) hone (by lia);rw [hset] at s1
  have s2:=tE (fo:=a9 5) (fi:=a9 9) (ρ:=ρ4) (j:=μ.length) (k:=two) (K:=K.set one (K.getD two 0)) (x:=K.getD one 0) rfl rfl (hcell _) (by simpa using htwo) (by simp;lia);rw [hset] at s2
  exact Oy ht s1 s2
 let x6:Int:=if (T.fdiv 2500).fmod 4=3 then 546-K1.getD one 0 else K1.getD one 0
 have hx6:zF x6:=by
  have hk:=va hK1 (i:=one) (by lia)
  show (if _ then _ else _:Int)=272∨(if _ then _ else _:Int)=274
  split<;>rcases hk with q|q<;>rw [q]<;>simp
 let K2:=K1.set one x6
 have hK2:∀x∈K2,zF x:=uO hK1 hx6;have lK2:K2.length=K.length:=by simp [K2,lK1]
 have e6:B_ ρ4 (μ++[.live (iL K1)])=some (.next,ρ4,μ++[.live (iL K2)]):=by
  unfold B_;have hi:=iK K1 one 8 rfl (by lia) (by lia);have hv:dx (bA (aj (aj (a9 1) (kI 2500) (aS cQ)) (kI 4) (aS cu)) (kI 3) dK) (aj (kI 546) (aF (a9 5) (a9 8)) (aS λx y=>some (x-y))) (aF (a9 5) (a9 8)) ρ4 (μ++[.live (iL K1)])=some (.d (.int x6),μ++[.live (iL K1)]):=by
   refine ln (o4 (jp (f:=a9 1) (T:=T) 2500 4 (by decide) (by decide) rfl rfl) rfl) (λh=>?_) (λh=>?_)
   ·show _=some (AV.d (.int (if _ then _ else _)),_)
    refine rA (if_pos (by simpa using h)) ?_;exact jW rfl hi
   ·show _=some (AV.d (.int (if _ then _ else _)),_)
    refine rA (if_neg (by simpa using h)) ?_;exact hi
  exact (OL hv (tE (k:=one) (hc:=hcell _) (hk:=by lia) (hz:=by lia) rfl rfl)).trans (by rw [hset])
 have hok:∀T∈F,T.ok K2.length:=by refine rA lK2 ?_;refine rA g2 ?_;exact g4
 have hlen:=rh F;rw [g3,Lk] at hlen
 have hF6:F.length≤6:=by lia
 have hpl:(iL ((F.map (lc K2)).flatMap λF=>F.pre m)).length≤12:=by
  refine rB (mN K2 m hK2 F hok) ?_;simp only [gL,List.flatMap_map,if_true,List.length_flatMap,xO] at hlen⊢
  exact hlen
 have hG:bJ (F.map (lc K2))=Ff 0 6:=by
  refine rB g3 ?_
  have:∀F:List Tr,bJ (F.map (lc K2))=le F:= λF=>by
   induction F with
   |nil=>rfl
   |cons T F ih=>refine rA F7 ?_;refine rA (b6 _ _) ?_;refine rA ih ?_;refine rA (tU _ _) ?_;rfl
  exact this F
 have e7:=GO (C:=.list (iL cs)) (ps:=.list (iL ps)) (m:=m) (T:=T) (F:=F) (K2:=K2) (μ:=μ) (a:=a) (b:=b) (c:=some (.d (.int one))) (d:=some (.d (.int two))) hm hK2 hok (by lia) hpl;refine (cL (F.map (lc K2)) hG (by simp only [xO];lia) ?_);refine (d0 (k:=3) (ρ':=ρ4) (μ':=μ++[.live (iL K2)]) (x:=.list (iL ((F.map (lc K2)).flatMap (λF=>F.pre m)++[0]))) rfl ?_).trans (by exact rA mE rfl)
 show f65 ρe μ=_
 unfold f65;refine rA (aB e0) ?_;refine rA (aB e1) ?_;refine rA (aB e2) ?_;refine rA (aB e3) ?_;refine rA (aB e4) ?_;refine rA (aB e5) ?_;refine rA (aB e6) ?_;exact rA (cV e7) rfl
theorem Zq(h:q<7):q=0∨q=1∨q=2∨q=3∨q=4∨q=5∨q=6:=by lia
theorem nc(m:List Nat)(p:Nat):t9 m p=[40]∨t9 m p=[41]:=by unfold t9;split<;>simp
theorem Ad(m:List Nat)(cs:List Int)(p:Nat)(tail:List U):clean none (eJ m cs false p++tail)=eJ m cs true p++clean none tail:=by
 have hq:=Zq (jz cs p);have hs:=nc m p;unfold eJ;generalize iJ cs p=q at*
 generalize t9 m p=s at*
 rcases hs with rfl|rfl<;>rcases hq with rfl|rfl|rfl|rfl|rfl|rfl|rfl<;>rfl
theorem gD(m:List Nat)(cs:List Int)(tail:List U):∀pl:List Nat,clean none (units m cs false pl++tail)=units m cs true pl++clean none tail
 | []=>rfl
 |p::pl=>by
  simp only [units,Fs,Eu];refine rA (Ad _ _ _ _) ?_
  congr 1
  exact gD m cs tail pl
noncomputable def rU(m:List Nat):Int→List Nat→Option Int
 |n,[]=>some n
 |n,p::r=>if p<m.getD p 0 then rU m (n+1) r else if n-1<0 then none else rU m (n-1) r
theorem Kv(m:List Nat)(cs:List Int)(p:Nat)(n:Int)(tail:List U):mD n (eJ m cs true p++tail)=if p<m.getD p 0 then mD (n+1) tail else if n-1<0 then none else mD (n-1) tail:=by
 have hq:=Zq (jz cs p);unfold eJ;generalize iJ cs p=q at*
 unfold t9
 by_cases h:p<m.getD p 0
 ·refine rA (if_pos h) ?_;refine rA (if_pos h) ?_
  rcases hq with rfl|rfl|rfl|rfl|rfl|rfl|rfl<;>rfl
 ·refine rA (if_neg h) ?_;refine rA (if_neg h) ?_
  rcases hq with rfl|rfl|rfl|rfl|rfl|rfl|rfl<;>rfl
theorem nC(m:List Nat)(cs:List Int)(tail:List U):∀ (pl:List Nat) (n:Int),mD n (units m cs true pl++tail)=match rU m n pl with|some k=>mD k tail|none=>none
 | [],n=>rfl
 |p::pl,n=>by
  simp only [units,Fs,Eu];rw [Kv,rU];have ih:= λn=>nC m cs tail pl n;unfold units at ih
  split
  ·exact ih _
  ·split
   ·rfl
   ·exact ih _
noncomputable def LI(m:List Nat)(pl:List Nat):Bool:=rU m 0 pl==some 0
theorem AL(m:List Nat)(cs:List Int)(pl:List Nat):LK (units m cs false pl)=LI m pl:=by
 have h1:=gD m cs [] pl;have h2:=nC m cs [] pl 0;simp only [DO,clean] at h1 h2
 unfold LK LI;refine rA h1 ?_;refine rA h2 ?_;cases rU m 0 pl with
 |none=>rfl
 |some k=>simp [mD]
noncomputable def wb:List Nat→List (List Nat)
 | []=>[[]]
 |a::l=>wb l++(wb l).map (a:: ·)
theorem Be{s l:List Nat}(h:s.Sublist l):s∈wb l:=by
 induction h with
 |slnil=>simp [wb]
 |cons a _ ih=>simp [wb,ih]
 |cons_cons a _ ih=>simp [wb,ih]
noncomputable def run(s:List Nat)(a b:Nat):List Nat:=(s.drop a).take b
theorem NC:((zt 5).all λi=>(wb (zt 6)).all λs=>!bj (aH.getD i []) s||(zt 7).all λa=>(zt 7).all λb=>LI (aH.getD i []) (run s a b)==bj (aH.getD i []) (run s a b))=true:=by decide+kernel
theorem Ky:((zt 5).all λi=>(wb (zt 6)).all λs=>(iY (s.map λp=>((aH.getD i []).getD p 0:Int))==s.map λ(p:Nat)=>(p:Int))==bj (aH.getD i []) s)=true:=by decide+kernel
theorem Gv:((zt 5).all λi=>(zt 6).all λq=>(zt q).all λp=>!bj (aH.getD i []) [p,q]||(LI (aH.getD i []) [p,q]&&!LI (aH.getD i []) [q,p]))=true:=by decide+kernel
theorem mq(hi:i<5):(aH.getD i []).length=6:=by
 have:i=0∨i=1∨i=2∨i=3∨i=4:=by lia
 rcases this with rfl|rfl|rfl|rfl|rfl<;>rfl
theorem zW(hi:i<5){s r:List Nat}(hs:s.Sublist (zt 6))(hc:bj (aH.getD i []) s=true)(hr:r<:+:s):LI (aH.getD i []) r=bj (aH.getD i []) r:=by
 have hl:=hs.length_le;rw [Js] at hl
 refine lP hr λx y e=>?_;have he:r=run s x.length r.length:=by
  unfold run;refine rB e ?_;refine rA (Eu _ _ _) ?_;refine rA Qq ?_;exact rA Pb rfl
 have hle:=congrArg NE e;simp only [be] at hle
 have h1:=Bw.mp (Bw.mp NC i (D3.mpr hi)) s (Be hs);rw [hc] at h1
 simp only [Rp,PA] at h1
 have h2:=Bw.mp (Bw.mp h1 x.length (D3.mpr (by lia))) r.length (D3.mpr (by lia));rw [←he] at h2
 simpa using h2
theorem wP(hi:i<5){s:List Nat}(hs:s.Sublist (zt 6)):(iY (s.map λp=>((aH.getD i []).getD p 0:Int))==s.map λ(p:Nat)=>(p:Int))=bj (aH.getD i []) s:=by
 have:=Bw.mp (Bw.mp Ky i (D3.mpr hi)) s (Be hs)
 simpa using this
theorem MX(hi:i<5)(hq:q<6)(hp:p<q)(hc:bj (aH.getD i []) [p,q]=true):LI (aH.getD i []) [p,q]=true∧LI (aH.getD i []) [q,p]=false:=by
 have:=Bw.mp (Bw.mp (Bw.mp Gv i (D3.mpr hi)) q (D3.mpr hq)) p (D3.mpr hp)
 rw [hc] at this
 simpa using this
theorem zl(m:List Nat)(cs:List Int)(sh:Bool)(p:Nat):(eJ m cs sh p).all (λu=>wf u&&decide (u.length≤2)&&!u.contains 39)=true:=by
 have hq:=Zq (jz cs p);have hs:=nc m p;unfold eJ;generalize iJ cs p=q at*
 generalize t9 m p=s at*
 cases sh<;>rcases hs with rfl|rfl<;>rcases hq with rfl|rfl|rfl|rfl|rfl|rfl|rfl<;>decide
theorem ng(m:List Nat)(cs:List Int)(sh:Bool):∀pl:List Nat,(units m cs sh pl).all (λu=>wf u&&decide (u.length≤2)&&!u.contains 39)=true
 | []=>rfl
 |p::pl=>by
  simp only [units,Fs,Se,zl,QX];exact ng m cs sh pl
theorem mh(m:List Nat)(cs:List Int)(sh:Bool)(pl:List Nat):(units m cs sh pl).all wf=true:=by
 have:=ng m cs sh pl
 rw [Bw] at this⊢
 intro u hu
 have:=this u hu
 simp only [Fd] at this
 exact this.1.1
theorem mI(m:List Nat)(cs:List Int)(sh:Bool)(pl:List Nat):WF (units m cs sh pl):=(dy _ ([]) ((DO _).symm) (mh m cs sh pl) (.inl rfl))
theorem QQ:∀us:List U,us.all (λu=>wf u&&decide (u.length≤2)&&!u.contains 39)=true→us.flatten.length≤2*us.length∧39∉us.flatten
 | [],_=>⟨DU _,by simp⟩
 |u::us,h=>by
  simp only [Mm,Fd,decide_eq_true_eq,MW,N8,decide_eq_false_iff_not] at h
  refine f_ (QQ us (by simpa [Fd] using h.2)) λh1 h2=>?_;refine ⟨?_,?_⟩
  ·simp only [GA,be,AH];lia
  ·refine rA GA ?_;refine rA (propext (AE)) ?_
   exact λq=>q.elim h.1.2 h2
theorem gv(m:List Nat)(cs:List Int)(sh:Bool)(pl:List Nat):(units m cs sh pl).flatten.length≤10*pl.length∧39∉(units m cs sh pl).flatten:=by
 refine f_ (QQ _ (ng m cs sh pl)) λh1 h2=>?_
 have:=i6 m cs sh pl
 exact ⟨by lia,h2⟩
theorem MO{vs:List U}(h:39∉vs.flatten):tS vs.flatten≠("('', '')":Str):=by
 intro q
 have:=congrArg (λs:Str=>s.cps.toList) q
 simp only [fZ] at this
 rw [this] at h
 exact h (by decide)
def pn(n:Nat)(d:PyData):Prop:=d.canLay0=true∧d.depth≤n
theorem Cq{i:Int}:pn n (.int i):=⟨rfl,LL _⟩
theorem jk{b:Bool}:pn n (.bool b):=⟨rfl,LL _⟩
theorem BH(h:x.cps.all (· <0x110000)=true):pn n (.str x):=⟨h,LL _⟩
theorem kL:∀ {xs:List PyData},(∀x∈xs,pn n x)→La xs=true∧UH xs≤n
 | [],_=>⟨rfl,LL _⟩
 |x::xs,h=>by
  refine f_ (kL (xs:=xs) λy hy=>h y (by simp [hy])) λh1 h2=>?_;refine f_ (h x (by simp)) λh3 h4=>?_;refine ⟨by rw [La];refine rA h3 ?_;refine rA h1 ?_;rfl,?_⟩;rw [UH];lia
theorem gJ(h:∀x∈xs,pn n x):pn (n+1) (.list xs):=by
 refine f_ (kL h) λh1 h2=>?_;exact ⟨by rw [Qm];exact h1,by rw [U4];lia⟩
theorem D7(h:∀x∈xs,pn n x):pn (n+1) (.tuple xs):=by
 refine f_ (kL h) λh1 h2=>?_;exact ⟨by rw [Qm];exact h1,by rw [U4];lia⟩
theorem pn.mono(h:pn n d)(hk:n≤k):pn k d:=⟨h.1,L3 h.2 hk⟩
theorem pn.shaped(h:pn n d)(hn:n≤64):Si d=true:=by
 unfold Si;refine rA h.1 ?_;refine rA (decide_eq_true (L3 h.2 hn)) ?_;rfl
theorem rD(l:List Int):pn (n+1) (.list (iL l)):=gJ λx hx=>by
 refine au (DT.mp hx) λi zz zq2=>?_;subst zq2;exact Cq
theorem iz{l:List Nat}(h:∀c∈l,c<128):pn n (.str (tS l)):=BH (by
 refine rB Array.all_toList ?_;rw [Bw];intro c hc
 have:=h c (by simpa [tS] using hc)
 exact decide_eq_true (by lia))
theorem NO{a:PyData}(h:pn n a)(hn:n≤64)(μ:List ah):dK (.d a) (.d a) μ=some true:=by
 have hs:=h.shaped hn;cases a with
 |none=>exact (eZ rfl).trans ((eZ rfl).trans ((eZ rfl).trans ((oX (rfl:VG μ _=some _) rfl).trans (if_pos ⟨hs,hs⟩))))
 |bool b=>exact congrArg some (beq_self_eq_true b)
 |int i=>exact congrArg some (beq_self_eq_true i)
 |str x=>exact congrArg some (beq_self_eq_true x)
 |list xs=>exact (eZ rfl).trans ((eZ rfl).trans ((eZ rfl).trans ((oX (rfl:VG μ _=some _) rfl).trans ((if_pos ⟨hs,hs⟩).trans (congrArg some (UN _ h.1))))))
 |tuple xs=>exact (eZ rfl).trans ((eZ rfl).trans ((eZ rfl).trans ((oX (rfl:VG μ _=some _) rfl).trans ((if_pos ⟨hs,hs⟩).trans (congrArg some (UN _ h.1))))))
 |dict d=>exact absurd h.1 (by simp [Qm])
def Good(x:PyData):Prop:=∃a b,x=.tuple [a,b]∧∀μ,dK (.d a) (.d b) μ=some true
theorem dU{a:PyData}(h:pn n a)(hn:n≤64):Good (.tuple [a,a]):=(fO a a rfl (NO h hn))
theorem FX:∀xs ys:List Int,Vf (iL xs) (iL ys)=(xs==ys)
 | [],[]=>rfl
 | [],_::_=>rfl
 |_::_,[]=>rfl
 |x::xs,y::ys=>by
  refine (?_:(Mx (.int x) (.int y)&&Vf (iL xs) (iL ys))=_);refine rA (FX xs ys) ?_;rfl
theorem Bt(xs ys:List Int)(μ:List ah):dK (.d (.list (iL xs))) (.d (.list (iL ys))) μ=some (xs==ys):=by
 exact (eZ rfl).trans ((eZ rfl).trans ((eZ rfl).trans ((oX (rfl:VG μ _=some _) rfl).trans ((if_pos ⟨(rD (n:=0) xs).shaped (by decide),(rD (n:=0) ys).shaped (by decide)⟩).trans (congrArg some (by simp only [Mx,FX]))))))
theorem R_{h:EF}{V'' W:AV}(hf:f ρ μ=some (V,μ))(hg:g ρ μ=some (V',μ))(hh:h ρ μ=some (V'',μ))(hs:spec [V,V',V''] μ=some (W,μ')):af [f,g,h] spec ρ μ=some (W,μ'):=by
 exact (b5 (an hf (zc hg hh))).trans hs
theorem sR{h k:EF}{V'' V3 W:AV}(hf:f ρ μ=some (V,μ))(hg:g ρ μ=some (V',μ))(hh:h ρ μ=some (V'',μ))(hk:k ρ μ=some (V3,μ))(hs:spec [V,V',V'',V3] μ=some (W,μ')):af [f,g,h,k] spec ρ μ=some (W,μ'):=by
 exact (b5 (an hf (an hg (zc hh hk)))).trans hs
noncomputable def uT(m:List Nat)(cs:List Int)(pl:List Nat):List Nat:=(units m cs false pl).flatten
theorem HI(m:List Nat)(cs:List Int)(sh:Bool)(p:Nat):(eJ m cs sh p).all (λu=>u.all λc=>decide (c<128))=true:=by
 have hq:=Zq (jz cs p);have hs:=nc m p;unfold eJ;generalize iJ cs p=q at*
 generalize t9 m p=s at*
 cases sh<;>rcases hs with rfl|rfl<;>rcases hq with rfl|rfl|rfl|rfl|rfl|rfl|rfl<;>decide
theorem uY(m:List Nat)(cs:List Int)(sh:Bool)(pl:List Nat):∀u∈units m cs sh pl,∀c∈u,c<128:=by
 intro u hu c hc;refine au (Lm.mp hu) λp zz hp=>?_
 have:=Bw.mp (Bw.mp (HI m cs sh p) u hp) c hc
 simpa using this
theorem Aw(m:List Nat)(cs:List Int)(sh:Bool)(pl:List Nat):∀c∈(units m cs sh pl).flatten,c<128:=by
 intro c hc;refine au (Ug.mp hc) λu hu h=>?_;exact uY m cs sh pl u hu c h
theorem tm{pl:List Nat}(hm:m.length=6)(hc:cs.length=6)(hp:∀p∈pl,p<6)(hz:pl.length≤1000)(h0:a9 i ρ μ=some (.d (.list (nL pl)),μ))(h1:a9 1 ρ μ=some (.d (.list (nL m)),μ))(h2:a9 2 ρ μ=some (.d (.list (iL cs)),μ)):
  dw (kS "") [(af [(a9 i),(a9 1),(a9 2),(kB false)] bB)] f5 ρ μ=some (.d (.str (tS (uT m cs pl))),μ):=
 mu (sR h0 h1 h2 rfl (YL hm hc hp hz)) rfl (by have:=(gv m cs false pl).1;lia)
theorem vZ{pl:List Nat}(hz:pl.length≤100)(h0:f ρ μ=some (.d (.str (tS (uT m cs pl))),μ)):af [f] ar ρ μ=some (.d (.bool (LI m pl)),μ):=by
 refine rB (AL m cs pl) ?_;refine d6 h0 (s3 (mI m cs false pl) ?_ ?_)
 ·have:=(gv m cs false pl).1;lia
 ·have:=i6 m cs false pl;lia
noncomputable def bi(m:List Nat)(G:List Fm):List PyData:=G.map (Fm.enc m)
noncomputable def mW(R M C:PyData)(j:Nat)(t o pr k w y st tx ha td te ke:Option AV):d5:=[some (.d R),some (.d M),some (.d C),some (.c j),t,o,pr,k,w,y,st,tx,ha,td,te,ke]
noncomputable def hdF(m:List Nat):Fm→Int
 | .at i=>sg m i
 | .bin true _ _=>18
 | .bin false _ _=>16
theorem HZ(m:List Nat)(F:Fm):∃ds,F.enc m=.tuple (.int (hdF m F)::ds)∧ds.length≤3:=by
 cases F with
 |«at» i=>exact (aZ _ rfl (by simp))
 |bin p l r=>cases p<;>exact (aZ _ rfl (by simp))
theorem CG(hf:f ρ μ=some (.d (F.enc m),μ)):aF f (kI 0) ρ μ=some (.d (.int (hdF m F)),μ):=by
 refine au (HZ m F) λds e h=>?_;rw [e] at hf
 exact cJ hf rfl rfl (by decide) rfl (aa (by simp only [AH];lia))
noncomputable def ac0:Fm→Bool
 | .bin true _ _=>true
 |_=>false
noncomputable def xv:Fm→Bool
 | .bin false _ _=>true
 |_=>false
theorem Wc(hf:f ρ μ=some (.d (F.enc m),μ)):bA (aF f (kI 0)) (jI kn (kS "|")) dK ρ μ=some (ac0 F,μ):=by
 refine (o4 (y:=18) (CG hf) (by rfl)).trans ?_;cases F with
 |«at» i=>rcases gI m i with q|q<;>(refine (?_:some (sg m i==18,μ)=some (false,μ));rw [q];rfl)
 |bin p l r=>cases p<;>rfl
theorem VL(hf:f ρ μ=some (.d (F.enc m),μ)):bA (aF f (kI 0)) (jI kn (kS "*")) dK ρ μ=some (xv F,μ):=by
 refine (o4 (y:=16) (CG hf) (by rfl)).trans ?_;cases F with
 |«at» i=>rcases gI m i with q|q<;>(refine (?_:some (sg m i==16,μ)=some (false,μ));rw [q];rfl)
 |bin p l r=>cases p<;>rfl
noncomputable def opD:PyData→List PyData
 | .tuple (.int n::r)=>if n=18 then r.drop 1 else [.tuple (.int n::r)]
 |x=>[x]
theorem AQ(m:List Nat)(F:Fm):opD (F.enc m)=bi m (xP F):=by
 cases F with
 |«at» i=>exact if_neg (by rcases gI m i with q|q<;>rw [q]<;>decide)
 |bin p l r=>cases p<;>rfl
theorem uc(m:List Nat):∀G:List Fm,((bi m G).flatMap λx=>if true then (opD x).map (λy=>y) else [])=bi m (G.flatMap xP)
 | []=>rfl
 |F::G=>by
  have ih:=uc m G;simp only [bi,F7,Fs,if_true,U7] at ih⊢
  refine rA ih ?_;refine rA (AQ _ _) ?_
  simp [bi]
theorem fB(G:List Fm):G.length≤(bJ G).length:=by
 have:=kP G 0;lia
abbrev SA:SF:=(ap (cb 0 (ce tL (aK false (a9 0)) (dz 16) (cX bg (gk (aK false (dx (bA (aF (a9 16) (kI 0)) (jI kn (kS "|")) dK) (ci (a9 16) (aL (kI 2)) ba) (cY [(a9 16)]))) (dz 17) (cX bg (aY (a9 17))))))) aP)
theorem H7{G:List Fm}{M C:PyData}{t o pr k w y st:Option AV}(hz:(bJ G).length≤6):
  SA (mW (.list (bi m G)) M C j t o pr k w y st tx ha td te ke) μ=some (.next,mW (.list (bi m (G.flatMap xP))) M C j t o pr k w y st tx ha td te ke,μ):=by
 have hl:=fB (G.flatMap xP);rw [hU] at hl
 have hcm:=pt (sc:=tL) (itf:=aK false (a9 0)) (itf2:=aK false (dx (bA (aF (a9 16) (kI 0)) (jI kn (kS "|")) dK) (ci (a9 16) (aL (kI 2)) ba) (cY [(a9 16)]))) (t:=bg) (e:=a9 17) (ρ:=mW (.list (bi m G)) M C j t o pr k w y st tx ha td te ke) (μ:=μ) (xs:=bi m G) 16 17 (by decide) (λzz=>true) opD (λzz y=>y)
  (d9 (V:=.d (.list (bi m G))) rfl rfl) (az _ _) (λzz zz zz=>rfl) (λx hx zz w=>by
   refine au (DT.mp hx) λF hF zq2=>?_;subst zq2;refine l_ (ln (Wc (F:=F) (m:=m) rfl) (λh=>?_) (λh=>?_))
   ·cases F with
    |«at» i=>cases h
    |bin p l r=>
     cases p with
     |false=>cases h
     |true=>exact tI (xs:=[.int 18,.list (nL (l.pl++r.pl)),l.enc m,r.enc m]) 2 rfl (by decide) (by simp) (aa (xM rfl))
   ·have:opD (F.enc m)=[F.enc m]:=by
     refine rA (AQ _ _) ?_;cases F with
     |«at» i=>rfl
     |bin p l r=>
      cases p with
      |false=>rfl
      |true=>cases h
    refine rA this ?_;exact d8 (ds:=[F.enc m]) rfl (aa (xM rfl))) (λzz zz zz zz zz=>rfl) (by refine rA (uc _ _) ?_;rw [bi];refine rA (xO _) ?_;exact aa (by lia))
 rw [uc] at hcm
 exact (aB (bO (bY hcm))).trans bK
noncomputable def opI:Nat→List Fm→List Fm
 |0,G=>G
 |n+1,G=>opI n (G.flatMap xP)
theorem MG:∀ (n:Nat) (G:List Fm),bJ (opI n G)=bJ G
 |0,_=>rfl
 |n+1,G=>by rw [opI];refine rA (MG n _) ?_;exact rA (hU _) rfl
theorem xb{m:List Nat}{M C:PyData}{j:Nat}{o pr k w y st tx ha td te ke:Option AV}{μ:List ah}(xs:List PyData):∀ (r:List PyData) (G:List Fm) (t:Option AV),(bJ G).length≤6→∃t',
  fR (dz 4) SA aP none xs r (mW (.list (bi m G)) M C j t o pr k w y st tx ha td te ke) μ=some (.next,mW (.list (bi m (opI r.length G))) M C j t' o pr k w y st tx ha td te ke,μ)
 | [],G,t,_=>⟨t,rfl⟩
 |x::r,G,t,h=>by
  refine bP (xb (m:=m) (M:=M) (C:=C) (j:=j) (o:=o) (pr:=pr) (k:=k) (w:=w) (y:=y) (st:=st) (tx:=tx) (ha:=ha) (td:=td) (te:=te) (ke:=ke) (μ:=μ) xs r (G.flatMap xP) (some (.d x)) (by refine rA (hU _) ?_;exact h)) λt' e=>?_;exact ⟨t',LO (dP (ρ1:=mW (.list (bi m G)) M C j (some (.d x)) o pr k w y st tx ha td te ke) rfl (H7 h) (az _ _)) e⟩
theorem JJ{s:a_}{G:List Fm}{M C:PyData}(hz:(bJ G).length≤6):∃t,
  BA s (mW (.list (bi m G)) M C j none none none none none none none none none none none none) μ=some (.next,mW (.list (bi m (fN G))) M C j t none none none none none none none none none none none,μ):=by
 refine bP (xb (m:=m) (M:=M) (C:=C) (j:=j) (o:=none) (pr:=none) (k:=none) (w:=none) (y:=none) (st:=none) (tx:=none) (ha:=none) (td:=none) (te:=none) (ke:=none) (μ:=μ) (fK 0 5) (fK 0 5) G none hz) λt' e=>?_;refine ⟨t',?_⟩;unfold BA;refine rA (gM (xs:=fK 0 5) (gg:=none) (μ1:=μ) rfl) ?_;exact e
noncomputable def fL:Fm→Int
 | .at _=>2
 | .bin .. =>4
theorem V9(G:List Fm):(G.map fL==[2,2])=two G:=by
 match G with
 | []=>rfl
 | [.at _]=>rfl
 | [.bin ..]=>rfl
 | [.at _,.at _]=>rfl
 | [.at _,.bin ..]=>rfl
 | [.bin ..,.at _]=>rfl
 | [.bin ..,.bin ..]=>rfl
 |F::F'::F''::G=>
  have h1:two (F::F'::F''::G)=false:=by cases F<;>cases F'<;>rfl
  refine rA h1 ?_
  simp
theorem F_{G:List Fm}(h:G[k]? =some F):(bi m G)[k]? =some (F.enc m):=by
 rw [bi,G1];refine rA h ?_;rfl
theorem AY{G:List Fm}(hf:f ρ μ=some (.d (.list (bi m G)),μ))(hg:g ρ μ=some (.d (.int k),μ))(h:G[k]? =some F)(hz:G.length≤6):aF f g ρ μ=some (.d (F.enc m),μ):=
 cJ hf hg rfl (by omega) (by refine rA (Fq _) ?_;exact F_ h) (by rw [bi];refine rA (xO _) ?_;exact aa (by omega))
theorem p9{s:List Nat}(h:s.Sublist (zt 6)):∀p∈s,p<6:= λp hp=>D3.mp (h.subset hp)
theorem iF{s:List Nat}(h:s.Sublist (zt 6)):s.length≤6:=by have:=h.length_le;rwa [Js] at this
theorem JK{s:a_}{G:List Fm}{M C:PyData}{t:Option AV}(hz:(bJ G).length≤6)(h2:two G=false):
  sn s (mW (.list (bi m G)) M C j t none none none none none none none none none none none) μ=some (.next,mW (.list (bi m G)) M C j t none none none none none none none none none none none,μ):=by
 have hl:=fB G;have hcm:=ic (sc:=ul) (itf:=aK false (a9 0)) (e:=af [a9 16] dC) (ρ:=mW (.list (bi m G)) M C j t none none none none none none none none none none none) (μ:=μ) (xs:=bi m G) (g:=none) 16 (λx=>match x with| .tuple l=>.int l.length|x=>x) (d9 (V:=.d (.list (bi m G))) rfl rfl) (az _ _) (λx hx=>by
  refine au (DT.mp hx) λF hF zq2=>?_;subst zq2;cases F with
  |«at» i=>exact gG rfl (xs:=[.int (sg m i),.list [.int i]]) rfl (aa (xM rfl))
  |bin p l r=>exact gG rfl (xs:=[.int (if p then 18 else 16),.list (nL (l.pl++r.pl)),l.enc m,r.enc m]) rfl (aa (xM rfl))) (by rw [bi];refine rA (xO _) ?_;exact aa (by omega))
 have e:(bi m G).map (λx=>match x with| .tuple l=>F8 l.length|x=>x)=iL (G.map fL):=by
  simp only [bi,iL,E_];apply FO;intro F _;cases F<;>rfl
 rw [e] at hcm
 unfold sn;refine rA (gS (dH (bY hcm) (dJ (ds:=[.int 2,.int 2]) rfl (aa (xM rfl))) (Bt (G.map fL) [2,2] μ)) (by rw [V9];exact h2)) ?_;exact bK
def HO(b1 b2:Bool):PyData:=.tuple [.list [.bool b1,.bool b2],.list [.bool true,.bool true]]
theorem isB{b c:Bool}(hf:f ρ μ=some (.d (.bool b),μ))(hg:g ρ μ=some (.d (.bool c),μ)):d_ f g Lb ρ μ=some (.d (.bool (b==c)),μ):=hH hf hg rfl
theorem DE{s:a_}{t:Option AV}(hi:i<5)(hc:cs.length=6)(hs:(bJ [Fm.at p,Fm.at q]).Sublist (zt 6))(hcl:bj (aH.getD i []) (bJ [Fm.at p,Fm.at q])=true)(hj:μ[j]? =some (.live X))(hX:X.length≤10000):
  ∃ρ',sn s (mW (.list (bi (aH.getD i []) [.at p,.at q])) (.list (nL (aH.getD i []))) (.list (iL cs)) j t none none none none none none none none none none none) μ=some (.ret (.d (.bool true)),ρ',μ.set j (.live (X++[HO true true]))):=by
 have hm:=mq hi;have hpq:bJ [Fm.at p,Fm.at q]=[p,q]:=rfl;rw [hpq] at hs hcl
 have h6:=p9 hs;have hlt:p<q:=by
  have:([p,q]:List Nat).Pairwise (· < ·):=List.Pairwise.sublist hs List.pairwise_lt_range
  simpa using this
 refine f_ (MX hi (h6 q (by simp)) hlt hcl) λb1 b2=>?_;generalize hmm:aH.getD i []=m at*
 let ρ0:=mW (.list (bi m [.at p,.at q])) (.list (nL m)) (.list (iL cs)) j t none none none none none none none none none none none
 have hcm:=ic (sc:=ul) (itf:=aK false (a9 0)) (e:=af [a9 16] dC) (ρ:=ρ0) (μ:=μ) (xs:=bi m [.at p,.at q]) (g:=none) 16 (λzz=>.int 2) (d9 (V:=.d (.list (bi m [.at p,.at q]))) rfl rfl) (az _ _) (λx hx=>by
  refine au (DT.mp hx) λF hF zq2=>?_;subst zq2;simp only [Cc,Er,or_false] at hF
  rcases hF with rfl|rfl
  ·exact gG rfl (xs:=[.int (sg m p),.list [.int p]]) rfl (aa (xM rfl))
  ·exact gG rfl (xs:=[.int (sg m q),.list [.int q]]) rfl (aa (xM rfl))) (aa (by simp [bi]))
 have g0:aF (a9 0) (kI 0) ρ0 μ=some (.d ((Fm.at p).enc m),μ):=AY (G:=[.at p,.at q]) (k:=0) rfl rfl rfl (by simp);have g1:aF (a9 0) (kI 1) ρ0 μ=some (.d ((Fm.at q).enc m),μ):=AY (G:=[.at p,.at q]) (k:=1) rfl rfl rfl (by simp);have q0:=pO g0;have q1:=pO g1;have a1:=cU q0 q1 (xs:=nL [p]) (ys:=nL [q]) rfl rfl (aa (by simp [nL]));have a2:=cU q1 q0 (xs:=nL [q]) (ys:=nL [p]) rfl rfl (aa (by simp [nL]));have ht:=d8 (ds:=[.list (nL [p,q]),.list (nL [q,p])]) (an a1 (an a2 bX)) (aa (xM rfl));have hcm2:=ic (sc:=y8) (e:=dw (kS "") [(af [(a9 16),(a9 1),(a9 2),(kB false)] bB)] f5) (ρ:=ρ0) (μ:=μ) (xs:=[.list (nL [p,q]),.list (nL [q,p])]) (g:=none) 16 (λx=>match x with| .list [.int a,.int b]=>.str (tS (uT m cs [a.toNat,b.toNat]))|x=>x) (l_ ht) (az _ _) (λx hx=>by
  simp only [Cc,Er,or_false] at hx
  rcases hx with rfl|rfl
  ·exact tm (pl:=[p,q]) hm hc h6 (by simp) rfl rfl rfl
  ·exact tm (pl:=[q,p]) hm hc (λx hx=>h6 x (by simp at hx⊢;exact hx.symm)) (by simp) rfl rfl rfl) (aa (xM rfl))
 let ρ1:=mW (.list (bi m [.at p,.at q])) (.list (nL m)) (.list (iL cs)) j t none (some (.d (.list [.str (tS (uT m cs [p,q])),.str (tS (uT m cs [q,p]))]))) none none none none none none none none none
 have c0:af [aF (a9 6) (kI 0)] ar ρ1 μ=some (.d (.bool true),μ):=by
  refine rB b1 ?_;exact vZ (by simp) (cJ (f:=a9 6) (V:=.d (.list [.str (tS (uT m cs [p,q])),.str (tS (uT m cs [q,p]))])) (k:=0) rfl rfl rfl (by decide) rfl (aa (xM rfl)))
 have c1:af [aF (a9 6) (kI 1)] ar ρ1 μ=some (.d (.bool false),μ):=by
  refine rB b2 ?_;exact vZ (by simp) (cJ (f:=a9 6) (V:=.d (.list [.str (tS (uT m cs [p,q])),.str (tS (uT m cs [q,p]))])) (k:=1) rfl rfl rfl (by decide) rfl (aa (xM rfl)))
 have l1:=dJ (ds:=[.bool true,.bool true]) (an (isB c0 (rfl:kB true _ _=some (.d (.bool true),_))) (an (isB c1 (rfl:kB false _ _=some (.d (.bool false),_))) bX)) (aa (xM rfl));have l2:aU [kB true,kB true] ρ1 μ=some (.d (.list [.bool true,.bool true]),μ):=dJ (ds:=[.bool true,.bool true]) rfl (aa (xM rfl));have tt:=d8 (ds:=[.list [.bool true,.bool true],.list [.bool true,.bool true]]) (an l1 (an l2 bX)) (aa (xM rfl));refine ⟨ρ1,?_⟩;unfold sn;refine (gC (dH (bY hcm) (dJ (ds:=[.int 2,.int 2]) rfl (aa (xM rfl))) (Bt [2,2] [2,2] μ)) rfl).trans ?_;refine (aB (jA hcm2)).trans ?_;refine (aB (ρ1:=ρ1) (er (gj (j:=j) rfl tt hj (aa (by omega))))).trans ?_;exact cV (dZ rfl)
theorem jh(l r:Fm)(B:List Fm):∀ (A pre:List Fm),gT l r B A pre=(zt (A.length+1)).map λj=>(A.drop j++[l],pre++A.take j++r::B)
 | [],pre=>by simp [UQ]
 |F::A,pre=>by
  rw [V8];refine rA (jh l r B A (pre++[F])) ?_;refine rA AH ?_;refine rA (LP (n:=A.length+1)) ?_;refine rA F7 ?_;refine rA E_ ?_
  congr 1
  ·simp
  ·apply FO
   intro j _
   simp
theorem ji(l r:Fm)(A:List Fm):∀ (B pre:List Fm),iO l r A B pre=(zt (B.length+1)).map λj=>(r::(pre++B.take j),A++l::B.drop j)
 | [],pre=>by simp [VN]
 |F::B,pre=>by
  rw [UB];refine rA (ji l r A B (pre++[F])) ?_;refine rA AH ?_;refine rA (LP (n:=B.length+1)) ?_;refine rA F7 ?_;refine rA E_ ?_
  congr 1
  ·simp
  ·apply FO
   intro j _
   simp
def WV(A B:List Fm)(l r:Fm)(w:List Fm×List Fm):Prop:=
 (∃A1 A2,A=A1++A2∧w=(A2++[l],A1++r::B))∨(∃B1 B2,B=B1++B2∧w=(r::B1,A++l::B2))
theorem JQ{A:List Fm}{w:List Fm×List Fm}(h:w∈gT l r B A []++iO l r A B []):WV A B l r w:=by
 rcases AE.mp h with h|h
 ·rw [jh] at h
  refine au (DT.mp h) λj zz zq2=>?_;subst zq2;exact .inl (fO (A.take j) (A.drop j) ((L_ j A).symm) (by simp))
 ·rw [ji] at h
  refine au (DT.mp h) λj zz zq2=>?_;subst zq2;exact .inr (fO (B.take j) (B.drop j) ((L_ j B).symm) (by simp))
noncomputable def Rk:Fm→Nat
 | .at _=>0
 | .bin p l r=>(if p then 0 else 1)+Rk l+Rk r
noncomputable def jl(G:List Fm):Nat:=(G.map Rk).sum
theorem Ba(A B:List Fm):jl (A++B)=jl A+jl B:=by simp [jl]
theorem qr(F:Fm)(B:List Fm):jl (F::B)=Rk F+jl B:=by simp [jl]
theorem Nx:jl []=0:=rfl
theorem kC:∀G:List Fm,jl (G.flatMap xP)=jl G
 | []=>rfl
 |F::G=>by
  refine rA Fs ?_;refine rA (Ba _ _) ?_;refine rA (kC G) ?_;refine rA (qr _ _) ?_
  congr 1
  cases F with
  |«at» i=>simp [Fx,jl]
  |bin p l r=>cases p<;>simp [Rz,QT,jl,Rk]
theorem Kp(G:List Fm):jl (fN G)=jl G:=by
 unfold fN;refine rA (kC _) ?_;refine rA (kC _) ?_;refine rA (kC _) ?_;refine rA (kC _) ?_;exact rA (kC _) rfl
theorem TV{A:List Fm}{w:List Fm×List Fm}(h:WV A B l r w):jl w.1+jl w.2+1=jl (A++.bin false l r::B):=by
 rcases h with ⟨A1,A2,rfl,rfl⟩| ⟨B1,B2,rfl,rfl⟩<;>simp only [Ba,qr,Nx,Rk]<;>simp<;>lia
theorem Gj{A:List Fm}{w:List Fm×List Fm}(h:WV A B l r w):(bJ w.1++bJ w.2).Perm (bJ (A++.bin false l r::B)):=by
 rw [List.perm_iff_count];intro a
 rcases h with ⟨A1,A2,rfl,rfl⟩| ⟨B1,B2,rfl,rfl⟩<;>simp only [d7,b6,gx,Fm.pl,List.count_append,List.count_nil]<;>lia
theorem sm{A:List Fm}{w:List Fm×List Fm}(h:WV A B l r w):bJ w.1<:+:bJ (A++.bin false l r::B):=by
 rcases h with ⟨A1,A2,rfl,rfl⟩| ⟨B1,B2,rfl,rfl⟩
 ·exact (jN (bJ A1) (r.pl++bJ B) (by simp [d7,b6,gx,Fm.pl]))
 ·exact (jN (bJ A++l.pl) (bJ B2) (by simp [d7,b6,Fm.pl]))
theorem IH{A:List Fm}{w:List Fm×List Fm}(h:WV A B l r w):(bJ w.2).Sublist (bJ (A++.bin false l r::B)):=by
 rcases h with ⟨A1,A2,rfl,rfl⟩| ⟨B1,B2,rfl,rfl⟩
 ·have:bJ ((A1++A2)++.bin false l r::B)=bJ A1++((bJ A2++l.pl)++(r.pl++bJ B)):=by simp [d7,b6,Fm.pl]
  refine rA this ?_;simp only [d7,b6];exact SR (QS _) (Qu _ _)
 ·have:bJ (A++.bin false l r::(B1++B2))=(bJ A++l.pl)++((r.pl++bJ B1)++bJ B2):=by simp [d7,b6,Fm.pl]
  refine rA this ?_;simp only [d7,b6,←Eu];refine rA (Eu (bJ A++l.pl) _ _) ?_;refine rA (Eu (bJ A++l.pl) _ _) ?_;exact SR (QS _) (Qu _ _)
theorem DK:((zt 5).all λi=>(zt 6).all λp=>(aH.getD i []).getD ((aH.getD i []).getD p 0) 0==p)=true:=by decide+kernel
theorem Yz(hi:i<5)(hp:p<6):(aH.getD i []).getD ((aH.getD i []).getD p 0) 0=p:=by
 have:=Bw.mp (Bw.mp DK i (D3.mpr hi)) p (D3.mpr hp)
 simpa using this
theorem qx{s:List Nat}(h:bj m s=true)(hp:p∈s):m.getD p 0∈s:=by
 have:=Bw.mp h p hp
 simpa using this
theorem yQ{A:List Fm}{w:List Fm×List Fm}(hi:i<5)(h:WV A B l r w)(hs:(bJ (A++.bin false l r::B)).Sublist (zt 6))(hc:bj (aH.getD i []) (bJ (A++.bin false l r::B))=true)(h1:bj (aH.getD i []) (bJ w.1)=true):bj (aH.getD i []) (bJ w.2)=true:=by
 have hp:=Gj h;have hn:(bJ w.1++bJ w.2).Nodup:=hp.symm.nodup (List.Nodup.sublist hs List.nodup_range);unfold bj;rw [Bw];intro p hpw;have hpG:p∈bJ (A++.bin false l r::B):=hp.subset (CR _ hpw);have hm:=qx hc hpG
 rcases AE.mp (hp.symm.subset hm) with q|q
 ·have:=qx h1 q
  rw [Yz hi (p9 hs p hpG)] at this
  exact absurd rfl ((QJ.mp hn).2.2 p this p hpw)
 ·simpa using q
def j3(m:List Nat)(w:List Fm×List Fm):PyData:=.tuple [.list (bi m w.1),.list (bi m w.2)]
theorem GD(m:List Nat)(A B:List Fm):bi m (A++B)=bi m A++bi m B:=by simp [bi]
theorem fc(m:List Nat)(A:List Fm):(bi m A).length=A.length:=by simp [bi]
theorem sN(m:List Nat)(A:List Fm)(k:Nat):(bi m A).take k=bi m (A.take k):=by simp [bi,Rs]
theorem sQ(m:List Nat)(A:List Fm)(k:Nat):(bi m A).drop k=bi m (A.drop k):=by simp [bi,Tm]
theorem m6:∀ (n:Nat) (a:Nat),fK a n=(zt n).map λ(i:Nat)=>F8 ((a+i:Nat):Int)
 |0,_=>rfl
 |n+1,a=>by
  rw [fK];refine rA LP ?_;refine rA F7 ?_;refine rA E_ ?_;refine rA (show ((a:Int)+1)=((a+1:Nat):Int) by lia) ?_;refine rA (m6 n (a+1)) ?_
  congr 1
  apply FO;intro i _;refine (?_:F8 _=F8 _)
  congr 1
  simp only [SV];lia
theorem Im:((zt 8).all λa=>(zt 8).all λb=>KB (a:Int) (b:Int) 1)=true:=by decide+kernel
theorem Iz{a:Nat}(ha:a<8)(hb:b<8):KB (a:Int) (b:Int) 1=true:=
 Bw.mp (Bw.mp Im a (D3.mpr ha)) b (D3.mpr hb)
theorem qQ{a:Nat}(hf:f ρ μ=some (.rng a b,μ))(ha:a<8)(hb:b<8):aK false f ρ μ=some ((zt (b-a)).map λ(i:Nat)=>F8 ((a+i:Nat):Int),none,μ):=by
 exact (nr hf (Iz ha hb)).trans (by rw [show ((b:Int)-(a:Int)).toNat=b-a by lia,m6])
section
variable {A:List Fm} {M C:PyData} {t pr w y st:Option AV}
noncomputable abbrev dX(A B:List Fm)(l r:Fm):List Fm:=A++.bin false l r::B
theorem RM(hf:f ρ μ=some (.d ((Fm.bin false l r).enc m),μ)):aF f (kI 2) ρ μ=some (.d (l.enc m),μ):=
 cJ (xs:=[.int 16,.list (nL (l.pl++r.pl)),l.enc m,r.enc m]) (k:=2) hf rfl rfl (by decide) rfl (aa (xM rfl))
theorem QP(hf:f ρ μ=some (.d ((Fm.bin false l r).enc m),μ)):aF f (kI 3) ρ μ=some (.d (r.enc m),μ):=
 cJ (xs:=[.int 16,.list (nL (l.pl++r.pl)),l.enc m,r.enc m]) (k:=3) hf rfl rfl (by decide) rfl (aa (xM rfl))
theorem pM:(dX A B l r).length=A.length+B.length+1:=by simp [dX];lia
theorem Gl{G:List Fm}(h0:a9 0 ρ μ=some (.d (.list (bi m G)),μ))(hk:f ρ μ=some (.d (.int k),μ))(h:k≤G.length)(hz:G.length≤6):ci (a9 0) ba (aL f) ρ μ=some (.d (.list (bi m (G.take k))),μ):=by
 refine (fg (lo:=none) (hi:=some (k:Int)) h0 rfl (dF hk) (by refine rA (fc _ _) ?_;exact aa (by lia))).trans ?_;refine rA (p0 _ (by rw [fc];exact h)) ?_;exact rA (sN _ _ _) rfl
theorem Hi{G:List Fm}(h0:a9 0 ρ μ=some (.d (.list (bi m G)),μ))(hk:f ρ μ=some (.d (.int k),μ))(h:k≤G.length)(hz:G.length≤6):ci (a9 0) (aL f) ba ρ μ=some (.d (.list (bi m (G.drop k))),μ):=by
 refine (fg (lo:=some (k:Int)) (hi:=none) h0 (dF hk) rfl (by refine rA (fc _ _) ?_;exact aa (by lia))).trans ?_;refine rA (Cm _ (by rw [fc];exact h)) ?_;exact rA (sQ _ _ _) rfl
theorem KH{G:List Fm}{a:Nat}(h0:a9 0 ρ μ=some (.d (.list (bi m G)),μ))(hf:f ρ μ=some (.d (.int a),μ))(hg:g ρ μ=some (.d (.int b),μ))(hab:a≤b)(h:b≤G.length)(hz:G.length≤6):ci (a9 0) (aL f) (aL g) ρ μ=some (.d (.list (bi m ((G.drop a).take (b-a)))),μ):=by
 refine (fg (lo:=some (a:Int)) (hi:=some (b:Int)) h0 (dF hf) (dF hg) (by refine rA (fc _ _) ?_;exact aa (by lia))).trans ?_;refine rA (G_ _ hab (by rw [fc];exact h)) ?_;refine rA (sQ _ _ _) ?_;exact rA (sN _ _ _) rfl
theorem CU{X Y:List Fm}(hf:f ρ μ=some (.d (.list (bi m X)),μ))(hg:g ρ μ=some (.d (.list (bi m Y)),μ))(hz:X.length+Y.length≤100):aj f g aT ρ μ=some (.d (.list (bi m (X++Y))),μ):=by
 refine rA (GD _ _ _) ?_;exact cU hf hg rfl rfl (aa (by refine rA (fc _ _) ?_;refine rA (fc _ _) ?_;lia))
theorem ND(hf:f ρ μ=some (.d (F.enc m),μ)):aU [f] ρ μ=some (.d (.list (bi m [F])),μ):=kt hf
noncomputable abbrev ρB(m:List Nat)(A B:List Fm)(l r:Fm)(M C:PyData)(ja:Nat)(t pr w y st tx ha td te ke:Option AV):d5:=mW (.list (bi m (dX A B l r))) M C ja t (some (.d ((Fm.bin false l r).enc m))) pr (some (.d (.int A.length))) w y st tx ha td te ke
theorem KY(hz:(dX A B l r).length≤6):fj n_ (aK false (af [(aj (a9 7) (kI 1) aT)] cH)) (dz 16) (cX bg (aY (cY [(aj (ci (a9 0) (aL (a9 16)) (aL (a9 7))) (aU [(aF (a9 5) (kI 2))]) aT),(aj (aj (ci (a9 0) ba (aL (a9 16))) (aU [(aF (a9 5) (kI 3))]) aT) (ci (a9 0) (aL (aj (a9 7) (kI 1) aT)) ba) aT)])))
  (ρB m A B l r M C ja t pr w y st tx ha td te ke) μ=some ((gT l r B A []).map (j3 m),μ):=by
 have hG:=pM (A:=A) (B:=B) (l:=l) (r:=r);have hi:aK false (af [(aj (a9 7) (kI 1) aT)] cH) (ρB m A B l r M C ja t pr w y st tx ha td te ke) μ=some ((zt (A.length+1-0)).map λ(i:Nat)=>F8 ((0+i:Nat):Int),none,μ):=
  qQ (d6 (cT (x:=A.length) (y:=1) rfl rfl) rfl) (by lia) (by lia)
 have hcm:=ic (sc:=n_) (e:=(cY [(aj (ci (a9 0) (aL (a9 16)) (aL (a9 7))) (aU [(aF (a9 5) (kI 2))]) aT),(aj (aj (ci (a9 0) ba (aL (a9 16))) (aU [(aF (a9 5) (kI 3))]) aT) (ci (a9 0) (aL (aj (a9 7) (kI 1) aT)) ba) aT)])) 16
  (λx=>match x with| .int j=>j3 m (A.drop j.toNat++[l],[]++A.take j.toNat++r::B)|x=>x) hi (az _ _) (λx hx=>by
   refine au (DT.mp hx) λj hj zq2=>?_;subst zq2;have hj:=D3.mp hj;refine rA (LC _) ?_
   let ρ':d5:=(bG n_ (ρB m A B l r M C ja t pr w y st tx ha td te ke)).set 16 (some (.d (.int (j:Int))))
   have s1:ci (a9 0) (aL (a9 16)) (aL (a9 7)) ρ' μ=some (.d (.list (bi m (A.drop j))),μ):=by
    have:=KH (m:=m) (ρ:=ρ') (f:=a9 16) (g:=a9 7) (G:=dX A B l r) (a:=j) (b:=A.length) (μ:=μ) rfl rfl rfl (by lia) (by lia) (by lia)
    refine rA this ?_;have e:(Th j (dX A B l r)).take (A.length-j)=A.drop j:=by
     refine rA Nz ?_;refine rA (Mq (by simp)) ?_;exact rA (Fn (by simp)) rfl
    exact rA e rfl
   have s2:ci (a9 0) ba (aL (a9 16)) ρ' μ=some (.d (.list (bi m (A.take j))),μ):=by
    have:=Gl (m:=m) (ρ:=ρ') (f:=a9 16) (G:=dX A B l r) (k:=j) (μ:=μ) rfl rfl (by lia) (by lia)
    refine rA this ?_;exact rA (Mq (by lia)) rfl
   have s3:ci (a9 0) (aL (aj (a9 7) (kI 1) aT)) ba ρ' μ=some (.d (.list (bi m B)),μ):=by
    have:=Hi (m:=m) (ρ:=ρ') (f:=aj (a9 7) (kI 1) aT) (G:=dX A B l r) (k:=A.length+1) (μ:=μ) rfl (cT (x:=A.length) (y:=1) rfl rfl) (by lia) (by lia)
    refine rA this ?_;have e:Th (A.length+1) (dX A B l r)=B:=by refine rA Nz ?_;simp
    exact rA e rfl
   have p2:aU [aF (a9 5) (kI 2)] ρ' μ=some (.d (.list (bi m [l])),μ):=ND (RM rfl);have p3:aU [aF (a9 5) (kI 3)] ρ' μ=some (.d (.list (bi m [r])),μ):=ND (QP rfl);have a1:=CU s1 p2 (by simp;lia);have a2:=CU (CU s2 p3 (by simp;lia)) s3 (by simp;lia);refine (d8 (ds:=[.list (bi m (A.drop j++[l])),.list (bi m (A.take j++[r]++B))]) (an a1 (an a2 bX)) (aa (xM rfl))).trans ?_
   simp [j3]) (by simp;exact aa (by lia))
 refine hcm.trans (congrArg (λL=>some (L,μ)) ?_);rw [jh];refine rA E_ ?_;refine rA E_ ?_;refine rA (Sd _) ?_;apply FO;intro j _
 simp
theorem Jb(hz:(dX A B l r).length≤6):fj o5 (aK false (af [(aj (a9 7) (kI 1) aT),(aj (af [(a9 0)] dC) (kI 1) aT)] cH)) (dz 16) (cX bg (aY (cY [(aj (aU [(aF (a9 5) (kI 3))]) (ci (a9 0) (aL (aj (a9 7) (kI 1) aT)) (aL (a9 16))) aT),(aj (aj (ci (a9 0) ba (aL (a9 7))) (aU [(aF (a9 5) (kI 2))]) aT) (ci (a9 0) (aL (a9 16)) ba) aT)])))
  (ρB m A B l r M C ja t pr w y st tx ha td te ke) μ=some ((iO l r A B []).map (j3 m),μ):=by
 have hG:=pM (A:=A) (B:=B) (l:=l) (r:=r);have hlen:af [a9 0] dC (ρB m A B l r M C ja t pr w y st tx ha td te ke) μ=some (.d (.int ((dX A B l r).length:Nat)),μ):=by
  refine rA (gG (f:=a9 0) (xs:=bi m (dX A B l r)) rfl rfl (by rw [fc];exact aa (by lia))) ?_;exact rA (fc _ _) rfl
 have hi:aK false (af [(aj (a9 7) (kI 1) aT),(aj (af [(a9 0)] dC) (kI 1) aT)] cH) (ρB m A B l r M C ja t pr w y st tx ha td te ke) μ=some ((zt ((dX A B l r).length+1-(A.length+1))).map λ(i:Nat)=>F8 ((A.length+1+i:Nat):Int),none,μ):=
  qQ (iR (cT (x:=A.length) (y:=1) rfl rfl) (cT hlen rfl) rfl) (by lia) (by lia)
 have hcm:=ic (sc:=o5) (e:=(cY [(aj (aU [(aF (a9 5) (kI 3))]) (ci (a9 0) (aL (aj (a9 7) (kI 1) aT)) (aL (a9 16))) aT),(aj (aj (ci (a9 0) ba (aL (a9 7))) (aU [(aF (a9 5) (kI 2))]) aT) (ci (a9 0) (aL (a9 16)) ba) aT)])) 16
  (λx=>match x with| .int j=>j3 m (r::([]++B.take (j.toNat-(A.length+1))),A++l::B.drop (j.toNat-(A.length+1)))|x=>x) hi (az _ _) (λx hx=>by
   refine au (DT.mp hx) λj hj zq2=>?_;subst zq2;have hj:=D3.mp hj
   let ρ':d5:=(bG o5 (ρB m A B l r M C ja t pr w y st tx ha td te ke)).set 16 (some (.d (.int ((A.length+1+j:Nat):Int))))
   have eG:dX A B l r=(A++[.bin false l r])++B:=by simp [dX]
   have s1:ci (a9 0) (aL (aj (a9 7) (kI 1) aT)) (aL (a9 16)) ρ' μ=some (.d (.list (bi m (B.take j))),μ):=by
    have:=KH (m:=m) (ρ:=ρ') (f:=aj (a9 7) (kI 1) aT) (g:=a9 16) (G:=dX A B l r) (a:=A.length+1) (b:=A.length+1+j) (μ:=μ) rfl (cT (x:=A.length) (y:=1) rfl rfl) rfl (by lia) (by lia) (by lia)
    refine rA this ?_;have e:Th (A.length+1) (dX A B l r)=B:=by refine rA Nz ?_;simp
    refine rA e ?_;exact rA (L0 _ _) rfl
   have s2:ci (a9 0) ba (aL (a9 7)) ρ' μ=some (.d (.list (bi m A)),μ):=by
    have:=Gl (m:=m) (ρ:=ρ') (f:=a9 7) (G:=dX A B l r) (k:=A.length) (μ:=μ) rfl rfl (by lia) (by lia)
    refine rA this ?_;exact rA Pb rfl
   have s3:ci (a9 0) (aL (a9 16)) ba ρ' μ=some (.d (.list (bi m (B.drop j))),μ):=by
    have:=Hi (m:=m) (ρ:=ρ') (f:=a9 16) (G:=dX A B l r) (k:=A.length+1+j) (μ:=μ) rfl rfl (by lia) (by lia)
    refine rA this ?_;have e:Th (A.length+1+j) (dX A B l r)=B.drop j:=by
     refine rA eG ?_;refine rA Nz ?_;refine rA (My (by simp)) ?_;simp
    exact rA e rfl
   have p2:aU [aF (a9 5) (kI 2)] ρ' μ=some (.d (.list (bi m [l])),μ):=ND (RM rfl);have p3:aU [aF (a9 5) (kI 3)] ρ' μ=some (.d (.list (bi m [r])),μ):=ND (QP rfl);have a1:=CU p3 s1 (by simp;lia);have a2:=CU (CU s2 p2 (by simp;lia)) s3 (by simp;lia);refine (d8 (ds:=[.list (bi m ([r]++B.take j)),.list (bi m (A++[l]++B.drop j))]) (an a1 (an a2 bX)) (aa (xM rfl))).trans ?_;simp only [Fq,L0]
   simp [j3]) (by simp;exact aa (by lia))
 refine hcm.trans (congrArg (λL=>some (L,μ)) ?_);rw [ji];refine rA E_ ?_;refine rA E_ ?_;refine rA hG ?_;refine rA (show A.length+B.length+1+1-(A.length+1)=B.length+1 by lia) ?_;apply FO;intro j _;simp only [Function.comp,Fq,L0]
end
noncomputable abbrev Wy:=List Fm×List Fm
def rK(w:Wy):PyData:=.list (nL (bJ w.1))
def jJ(m:List Nat)(cs:List Int)(w:Wy):PyData:=.str (tS (uT m cs (bJ w.1)))
def l8(m:List Nat)(cs:List Int)(w:Wy):PyData:=if bj m (bJ w.1) then jJ m cs w else .str "('', '')"
theorem n9:∀l:List Int,qo (iL l)=some l
 | []=>rfl
 |x::l=>by
  exact (bU (rfl:dI (.int x)=some x)).trans (bU (n9 l))
theorem vQ{Z:Type}(f g:Z→PyData):∀W:List Z,m9 (W.map f) (W.map g)=W.map λw=>.tuple [f w,g w]
 | []=>rfl
 |w::W=>congrArg (_:: ·) (vQ f g W)
theorem xc{Z:Type}(f g h:Z→PyData)(x:List PyData):∀W:List Z,w4 (W.map f) (W.map g) (W.map h++x)=W.map λw=>.tuple [f w,g w,h w]
 | []=>rfl
 |w::W=>congrArg (_:: ·) (xc f g h x W)
noncomputable def ZK:PyData→List PyData
 | .tuple (_::.list l::_)=>l
 |_=>[]
theorem Ch(m:List Nat)(F:Fm):ZK (F.enc m)=nL F.pl:=by cases F<;>rfl
theorem tX(m:List Nat):∀G:List Fm,((bi m G).flatMap λx=>if true then (ZK x).map (λy=>y) else [])=nL (bJ G)
 | []=>rfl
 |F::G=>by
  have ih:=tX m G;simp only [bi,F7,Fs,if_true,U7] at ih⊢
  refine rA ih ?_;refine rA (Ch _ _) ?_;refine rA (b6 _ _) ?_
  simp [nL]
theorem pv(h:dc μ (.c n)=some xs):cy (Fb (.c n)) xs μ:= λj e=>by
 refine cC e ?_;exact h
section
variable {R:PyData} {t o pr k y st:Option AV} {W:List Wy}
theorem yH(hn:dc μ (.c n)=some (W.map (j3 m)))(hW:W.length≤100)(hw:∀w∈W,(bJ w.1).length≤6):
  fj nM (aK false (a9 8)) (dz 16) (cX bg (aY (ce nY (aK false (aF (a9 16) (kI 0))) (dz 17) (cX bg (gk (aK false (aF (a9 17) (kI 1))) (dz 18) (cX bg (aY (a9 18)))))))) (mW R (.list (nL m)) (.list (iL cs)) ja t o pr k (some (.c n)) y st tx ha td te ke) μ=some (W.map rK,μ):=by
 have hcm:=ic (sc:=nM) (itf:=aK false (a9 8)) (e:=(ce nY (aK false (aF (a9 16) (kI 0))) (dz 17) (cX bg (gk (aK false (aF (a9 17) (kI 1))) (dz 18) (cX bg (aY (a9 18))))))) (ρ:=mW R (.list (nL m)) (.list (iL cs)) ja t o pr k (some (.c n)) y st tx ha td te ke) (μ:=μ) (xs:=W.map (j3 m)) (g:=Fb (.c n)) 16
  (λx=>match x with| .tuple [.list E,_]=>.list (E.flatMap λx=>if true then (ZK x).map (λy=>y) else [])|x=>x) (d9 (V:=.c n) rfl hn) (pv hn) (λx hx=>by
   refine au (DT.mp hx) λw hwm zq2=>?_;subst zq2;have hl:=hw w hwm;have hg:=fB w.1;have hi:aK false (aF (a9 16) (kI 0)) ((bG nM (mW R (.list (nL m)) (.list (iL cs)) ja t o pr k (some (.c n)) y st tx ha td te ke)).set 16 (some (.d (j3 m w)))) μ=some (bi m w.1,none,μ):=
    d9 (V:=.d (.list (bi m w.1))) (cJ (f:=a9 16) (g:=kI 0) (V:=.d (j3 m w)) (xs:=[.list (bi m w.1),.list (bi m w.2)]) (k:=0) rfl rfl rfl (by decide) rfl (aa (xM rfl))) rfl
   have hin:=pt (sc:=nY) (itf:=aK false (aF (a9 16) (kI 0))) (itf2:=aK false (aF (a9 17) (kI 1))) (t:=bg) (e:=a9 18) 17 18 (by decide) (λzz=>true) ZK (λzz y=>y) hi (az _ _) (λzz zz zz=>rfl) (λx hx zz w'=>by
    refine au (DT.mp hx) λF hF zq2=>?_;subst zq2;have e:ZK (F.enc m)=nL F.pl:=Ch m F;refine rA e ?_;exact d9 (V:=.d (.list (nL F.pl))) (pO (m:=m) (F:=F) rfl) rfl) (λzz zz zz zz zz=>rfl) (by refine rA (tX _ _) ?_;rw [nL];refine rA (xO _) ?_;exact aa (by lia))
   exact bY hin) (by refine rA (xO _) ?_;exact aa (by lia))
 refine hcm.trans (congrArg (λL=>some (L,μ)) ?_);refine rA E_ ?_;apply FO;intro w _;refine (?_:NV _=NV _);exact rA (tX _ _) rfl
theorem Hg(hm:m.length=6)(hc:cs.length=6)(hW:W.length≤100)(hw:∀w∈W,(bJ w.1).length≤6∧∀p∈bJ w.1,p<6):
  fj rI (aK false (a9 10)) (dz 16) (cX bg (aY (dw (kS "") [(af [(a9 16),(a9 1),(a9 2),(kB false)] bB)] f5))) (mW R (.list (nL m)) (.list (iL cs)) ja t o pr k (some (.c n)) y (some (.d (.list (W.map rK)))) tx ha td te ke) μ=some (W.map (jJ m cs),μ):=by
 have hcm:=ic (sc:=rI) (itf:=aK false (a9 10)) (e:=(dw (kS "") [(af [(a9 16),(a9 1),(a9 2),(kB false)] bB)] f5)) (ρ:=mW R (.list (nL m)) (.list (iL cs)) ja t o pr k (some (.c n)) y (some (.d (.list (W.map rK)))) tx ha td te ke) (μ:=μ) (xs:=W.map rK) (g:=none) 16
  (λx=>match x with| .list l=>.str (tS (uT m cs (l.map λ| .int i=>i.toNat|_=>0)))|x=>x) (d9 (V:=.d (.list (W.map rK))) rfl rfl) (az _ _) (λx hx=>by
   refine au (DT.mp hx) λw hwm zq2=>?_;subst zq2;refine f_ (hw w hwm) λh1 h2=>?_;have e:(nL (bJ w.1)).map (λ|F8 i=>i.toNat|_=>0)=bJ w.1:=by
    simp [nL,E_,N4]
   refine (?_:_=some (AV.d (.str (tS (uT m cs ((nL (bJ w.1)).map _)))),μ));refine rA e ?_;exact tm (pl:=bJ w.1) hm hc h2 (by lia) rfl rfl rfl) (by refine rA (xO _) ?_;exact aa (by lia))
 refine hcm.trans (congrArg (λL=>some (L,μ)) ?_);refine rA E_ ?_;apply FO;intro w _;refine (?_:Lv (tS (uT m cs ((nL (bJ w.1)).map _)))=_);have e:(nL (bJ w.1)).map (λ|F8 i=>i.toNat|_=>0)=bJ w.1:=by
  simp [nL,E_,N4]
 refine rA e ?_;rfl
end
theorem EP{R:PyData}{t o pr k y:Option AV}{W:List Wy}(hi:i<5)(hW:W.length≤100)(hw:∀w∈W,(bJ w.1).Sublist (zt 6)):
  fj nD (b_ [(a9 11),(a9 10)] lr) (j6 16 17) (cX bg (aY (dx (bA (af [(ce lu (aK false (a9 17)) (dz 18) (cX bg (aY (aF (a9 1) (a9 18)))))] kR) (a9 17) dK) (a9 16) (kS "('', '')"))))
   (mW R (.list (nL (aH.getD i []))) (.list (iL cs)) ja t o pr k (some (.c n)) y (some (.d (.list (W.map rK)))) (some (.d (.list (W.map (jJ (aH.getD i []) cs))))) ha td te ke) μ=some (W.map (l8 (aH.getD i []) cs),μ):=by
 have hm:=mq hi;have hsc:= λ(s:List Nat) (hs:s.Sublist (zt 6))=>wP hi hs;generalize aH.getD i []=m at*
 let ρ0:=mW R (.list (nL m)) (.list (iL cs)) ja t o pr k (some (.c n)) y (some (.d (.list (W.map rK)))) (some (.d (.list (W.map (jJ m cs))))) ha td te ke
 have hit:b_ [(a9 11),(a9 10)] lr ρ0 μ=some (W.map (λw=>Jy [jJ m cs w,rK w]),none,μ):=by
  refine rB (vQ _ _ _) ?_;rfl
 have hcm:=t8 (sc:=nD) (e:=(dx (bA (af [(ce lu (aK false (a9 17)) (dz 18) (cX bg (aY (aF (a9 1) (a9 18)))))] kR) (a9 17) dK) (a9 16) (kS "('', '')"))) (ρ:=ρ0) (μ:=μ) 16 17 (by decide)
  (λx=>match x with| .tuple [T,.list l]=>if bj m (l.map λ| .int i=>i.toNat|_=>0) then T else .str "('', '')"|x=>x) hit (az _ _) (λx hx=>by
   refine au (DT.mp hx) λw hwm zq2=>?_;subst zq2;refine (fO (jJ m cs w) (rK w) rfl ?_);have hs:=hw w hwm;have hl:=iF hs;have e:(nL (bJ w.1)).map (λ|F8 i=>i.toNat|_=>0)=bJ w.1:=by
    simp [nL,E_,N4]
   refine (?_:_=some (AV.d (if bj m ((nL (bJ w.1)).map _) then jJ m cs w else .str "('', '')"),μ));refine rA e ?_
   let ρ1:d5:=((bG nD ρ0).set 16 (some (.d (jJ m cs w)))).set 17 (some (.d (rK w)))
   have hin:=ic (sc:=lu) (itf:=aK false (a9 17)) (e:=aF (a9 1) (a9 18)) (ρ:=ρ1) (μ:=μ) (xs:=nL (bJ w.1)) (g:=none) 18 (λx=>match x with| .int i=>.int (m.getD i.toNat 0:Nat)|x=>x) (d9 (V:=.d (.list (nL (bJ w.1)))) rfl rfl) (az _ _) (λx hx=>by
    refine au (DT.mp hx) λp hp zq2=>?_;subst zq2
    have:=p9 hs p hp
    exact yG (V:=.d (.list (nL m))) (k:=p) rfl rfl rfl (by lia) (by lia)) (by rw [nL];refine rA (xO _) ?_;exact aa (by lia))
   have e2:(nL (bJ w.1)).map (λx=>match x with| .int i=>F8 (m.getD i.toNat 0:Nat)|x=>x)=iL ((bJ w.1).map λp=>(m.getD p 0:Int)):=by
    simp only [nL,iL,E_];rfl
   rw [e2] at hin
   have hso:af [(ce lu (aK false (a9 17)) (dz 18) (cX bg (aY (aF (a9 1) (a9 18)))))] kR ρ1 μ=some (.d (.list (iL (iY ((bJ w.1).map λp=>(m.getD p 0:Int))))),μ):=by
    refine d6 (bY hin) ?_;exact (bU (rfl:l1 [_]=some _)).trans ((bU (rfl:dc μ (.d (.list _))=some _)).trans ((bU (n9 _)).trans (if_pos (by simp;lia))))
   have e3:a9 17 ρ1 μ=some (.d (.list (iL ((bJ w.1).map λ(p:Nat)=>(p:Int)))),μ):=by
    refine (?_:some (AV.d (.list (nL (bJ w.1))),μ)=_);simp only [nL,iL,E_];rfl
   have hcmp:=dH hso e3 (Bt _ _ μ);rw [hsc _ hs] at hcmp
   refine ln hcmp (λh=>?_) (λh=>?_)
   ·refine rA (if_pos h) ?_;rfl
   ·refine rA (if_neg (by rw [h];exact Hm)) ?_;rfl) (by refine rA (xO _) ?_;exact aa (by lia))
 refine hcm.trans (congrArg (λL=>some (L,μ)) ?_);refine rA E_ ?_;apply FO;intro w _;have e:(nL (bJ w.1)).map (λ|F8 i=>i.toNat|_=>0)=bJ w.1:=by
  simp [nL,E_,N4]
 refine (?_:(if bj m ((nL (bJ w.1)).map _) then jJ m cs w else .str "('', '')")=_);refine rA e ?_;rfl
theorem oZ{b c:Bool}(hf:f ρ μ=some (.d (.bool b),μ1))(hg:b=true→g ρ μ1=some (.d (.bool c),μ2)):sk f g ρ μ=if b then some (.d (.bool c),μ2) else some (.d (.bool false),μ1):=by
 refine (b5 hf).trans ((bU (rfl:ko (.d (.bool b)) μ1=some b)).trans ?_);cases b with
 |true=>exact hg rfl
 |false=>rfl
def oN(i:Nat)(cs:List Int)(ja:Nat)(s:a_)(rc:List Fm→Bool)(st0:Nat):Prop:=
 ∀ (G:List Fm) (μ:List ah) (X:List PyData),μ[ja]? =some (.live X)→(bJ G).Sublist (zt 6)→bj (aH.getD i []) (bJ G)=true→jl G<st0→X.length+40*jl G+12≤5000→
  ∃Y,(∀x∈Y,Good x)∧Y.length≤40*jl G+12∧s [.d (.list (bi (aH.getD i []) G)),.d (.list (nL (aH.getD i []))),.d (.list (iL cs)),.c ja] μ=some (.d (.bool (rc G)),μ.set ja (.live (X++Y)))
abbrev bz(s:a_):SF:=(ap (jF (bA (a9 15) (a9 14) dK) (ap (ff (sk (af [(aF (a9 9) (kI 0)),(a9 1),(a9 2),(a9 3)] s) (af [(aF (a9 9) (kI 1)),(a9 1),(a9 2),(a9 3)] s))) aP) aP) aP)
def BD(m:List Nat)(cs:List Int)(w:Wy):PyData:=.tuple [j3 m w,jJ m cs w,l8 m cs w]
theorem Tq{w:Wy}(h15:a9 15 ρ μ=some (.d (l8 m cs w),μ))(h14:a9 14 ρ μ=some (.d (jJ m cs w),μ)):bA (a9 15) (a9 14) dK ρ μ=some (bj m (bJ w.1),μ):=by
 cases q:bj m (bJ w.1) with
 |true=>
  have e:l8 m cs w=jJ m cs w:=by unfold l8;exact rA (if_pos q) rfl
  rw [e] at h15
  refine dH h15 h14 ?_;refine (?_:some (tS (uT m cs (bJ w.1))==tS (uT m cs (bJ w.1)))=_);exact rA (beq_self_eq_true _) rfl
 |false=>
  have e:l8 m cs w=.str "('', '')":=by unfold l8;exact rA (if_neg (by rw [q];exact Hm)) rfl
  rw [e] at h15
  refine dH h15 h14 ?_;refine (?_:some (("('', '')":Str)==tS (uT m cs (bJ w.1)))=_)
  have:tS (uT m cs (bJ w.1))≠("('', '')":Str):=MO (gv m cs false (bJ w.1)).2
  exact rA (beq_eq_false_iff_ne.mpr (λh=>this h.symm)) rfl
theorem Jx(h:μ[j]? =some c):(μ.set j c')[j]? =some c':=by
 rw [MF (BW.mp h).1]
theorem QZ{R:PyData}{n st0:Nat}{s:a_}{t o pr k st tx ha td w8:Option AV}(xs:List PyData)(hrec:oN i cs ja s rc st0)(hj:μ[ja]? =some (.live X))(hX:X.length+40*st0≤5000):
  ∀ (r:List Wy) (y te ke:Option AV),(∀w∈r,(bJ w.1).Sublist (zt 6)∧(bJ w.2).Sublist (zt 6)∧(bj (aH.getD i []) (bJ w.1)=true→bj (aH.getD i []) (bJ w.2)=true)∧jl w.1+jl w.2+1=st0)→
  ∃y' te' ke' Y μ',(∀x∈Y,Good x)∧(Y.length≤40*st0∧(r.find? (λw=>bj (aH.getD i []) (bJ w.1))=none→Y=[]))∧μ'=μ.set ja (.live (X++Y))∧
   fR (Z5 9 14 15) (bz s) aP none xs (r.map (BD (aH.getD i []) cs)) (mW R (.list (nL (aH.getD i []))) (.list (iL cs)) ja t o pr k w8 y st tx ha td te ke) μ=
    some ((match r.find? (λw=>bj (aH.getD i []) (bJ w.1)) with|some w=>.ret (.d (.bool (rc w.1&&rc w.2)))|none=>.next),mW R (.list (nL (aH.getD i []))) (.list (iL cs)) ja t o pr k w8 y' st tx ha td te' ke',μ')
 | [],y,te,ke,_=>(ib y te ke ([]) μ (by simp) ⟨by simp,λzz=>rfl⟩ (by refine rA (DO _) ?_;exact rA (eK hj) rfl) rfl)
 |w::r,y,te,ke,h=>by
  refine my (h w (by simp)) λh1 h2 h3 h4=>?_
  let m:=aH.getD i []
  let ρ1:=mW R (.list (nL m)) (.list (iL cs)) ja t o pr k w8 (some (.d (j3 m w))) st tx ha td (some (.d (jJ m cs w))) (some (.d (l8 m cs w)))
  have tf:Z5 9 14 15 (mW R (.list (nL m)) (.list (iL cs)) ja t o pr k w8 y st tx ha td te ke) (BD m cs w)=some ρ1:=rfl;have ht:bA (a9 15) (a9 14) dK ρ1 μ=some (bj m (bJ w.1),μ):=Tq rfl rfl;cases q:bj m (bJ w.1) with
  |true=>
   refine ct (hrec w.1 μ X hj h1 q (by lia) (by lia)) λY1 g1 l1 e1=>?_;refine ct (hrec w.2 (μ.set ja (.live (X++Y1))) (X++Y1) (Jx hj) h2 (h3 q) (by lia) (by refine rA be ?_;lia)) λY2 g2 l2 e2=>?_;have a1:∀μ,aF (a9 9) (kI 0) ρ1 μ=some (.d (.list (bi m w.1)),μ):= λμ=>cJ (V:=.d (j3 m w)) (xs:=[.list (bi m w.1),.list (bi m w.2)]) (k:=0) rfl rfl rfl (by decide) rfl (aa (xM rfl));have a2:∀μ,aF (a9 9) (kI 1) ρ1 μ=some (.d (.list (bi m w.2)),μ):= λμ=>cJ (V:=.d (j3 m w)) (xs:=[.list (bi m w.1),.list (bi m w.2)]) (k:=1) rfl rfl rfl (by decide) rfl (aa (xM rfl));have c1:af [(aF (a9 9) (kI 0)),(a9 1),(a9 2),(a9 3)] s ρ1 μ=_:=sR (a1 μ) rfl rfl rfl e1;have c2:af [(aF (a9 9) (kI 1)),(a9 1),(a9 2),(a9 3)] s ρ1 (μ.set ja (.live (X++Y1)))=_:=sR (a2 _) rfl rfl rfl e2;have ca:=oZ c1 (λzz=>c2);have hfind:(w::r).find? (λw=>bj m (bJ w.1))=some w:=by rw [Mb];exact rA q rfl
   refine rA hfind ?_;cases hb:rc w.1 with
   |true=>
    rw [hb] at ca
    simp only [if_true,HA,Eu] at ca
    refine (ib (some (.d (j3 m w))) (some (.d (jJ m cs w))) (some (.d (l8 m cs w))) (Y1++Y2) _ ?_ ⟨by refine rA be ?_;lia,λh=>nomatch h⟩ rfl ?_)
    ·intro x hx
     exact (AE.mp hx).elim (g1 x) (g2 x)
    ·refine rA F7 ?_
     refine qd tf ?_;refine cV ?_;refine (gC ht q).trans ?_;exact cV (dZ (ca.trans (by refine rA hb ?_;exact rA (QX _) rfl)))
   |false=>
    rw [hb] at ca
    refine (ib (some (.d (j3 m w))) (some (.d (jJ m cs w))) (some (.d (l8 m cs w))) Y1 _ g1 ⟨by lia,λh=>nomatch h⟩ rfl ?_);refine rA F7 ?_;refine qd tf ?_;refine cV ?_;refine (gC ht q).trans ?_;exact cV (dZ (ca.trans (by refine rA hb ?_;refine rA (Bool.false_and _) ?_;rfl)))
  |false=>
   refine fC (QZ (R:=R) (t:=t) (o:=o) (pr:=pr) (k:=k) (st:=st) (tx:=tx) (ha:=ha) (td:=td) (w8:=w8) (n:=n) xs hrec hj hX r (some (.d (j3 m w))) (some (.d (jJ m cs w))) (some (.d (l8 m cs w))) (λv hv=>h v (by simp [hv]))) λy' te' ke' Y μ' g gl gm e=>?_;have hfind:(w::r).find? (λw=>bj m (bJ w.1))=r.find? (λw=>bj m (bJ w.1)):=by rw [Mb];exact rA q rfl
   refine rA hfind ?_;refine (ib y' te' ke' Y μ' g gl gm ?_);refine rA F7 ?_;refine LO (dP tf ?_ (az _ _)) e;refine (aB ?_).trans bK;exact (gS ht q).trans bK
abbrev Rb:SF:=(gb 8 n_ (aK false (af [(aj (a9 7) (kI 1) aT)] cH)) (dz 16) (cX bg (aY (cY [(aj (ci (a9 0) (aL (a9 16)) (aL (a9 7))) (aU [(aF (a9 5) (kI 2))]) aT),(aj (aj (ci (a9 0) ba (aL (a9 16))) (aU [(aF (a9 5) (kI 3))]) aT) (ci (a9 0) (aL (aj (a9 7) (kI 1) aT)) ba) aT)]))) true)
abbrev Sv:SF:=(cj (se (a9 8) (ce o5 (aK false (af [(aj (a9 7) (kI 1) aT),(aj (af [(a9 0)] dC) (kI 1) aT)] cH)) (dz 16) (cX bg (aY (cY [(aj (aU [(aF (a9 5) (kI 3))]) (ci (a9 0) (aL (aj (a9 7) (kI 1) aT)) (aL (a9 16))) aT),(aj (aj (ci (a9 0) ba (aL (a9 7))) (aU [(aF (a9 5) (kI 2))]) aT) (ci (a9 0) (aL (a9 16)) ba) aT)]))))))
abbrev R1:SF:=(gb 10 nM (aK false (a9 8)) (dz 16) (cX bg (aY (ce nY (aK false (aF (a9 16) (kI 0))) (dz 17) (cX bg (gk (aK false (aF (a9 17) (kI 1))) (dz 18) (cX bg (aY (a9 18)))))))) false)
abbrev Qx:SF:=(gb 11 rI (aK false (a9 10)) (dz 16) (cX bg (aY (dw (kS "") [(af [(a9 16),(a9 1),(a9 2),(kB false)] bB)] f5))) false)
abbrev RS:SF:=(cb 12 (af [(a9 11)] mo))
abbrev Sr:SF:=(cb 13 (af [(a9 12)] aX))
abbrev Rv:SF:=(cj (se (a9 3) (aU [(cY [(af [(a9 13)] mo),(ce nD (b_ [(a9 11),(a9 10)] lr) (j6 16 17) (cX bg (aY (dx (bA (af [(ce lu (aK false (a9 17)) (dz 18) (cX bg (aY (aF (a9 1) (a9 18)))))] kR) (a9 17) dK) (a9 16) (kS "('', '')")))))]),(cY [(a9 12),(a9 11)])])))
abbrev Q9:SF:=(cj (eh (a9 13) (kS "")))
abbrev Sb(s:a_):SF:=(jK (b_ [(a9 8),(a9 11),(a9 13)] BX) (Z5 9 14 15) (ap (jF (bA (a9 15) (a9 14) dK) (ap (ff (sk (af [(aF (a9 9) (kI 0)),(a9 1),(a9 2),(a9 3)] s) (af [(aF (a9 9) (kI 1)),(a9 1),(a9 2),(a9 3)] s))) aP) aP) aP) aP)
abbrev k70(s:a_):SF:=ap Rb (ap Sv (ap R1 (ap Qx (ap RS (ap Sr (ap Rv (ap Q9 (ap (Sb s) aP))))))))
abbrev Ap(s:a_):SF:=(ap (jF (bA (aF (a9 5) (kI 0)) (jI kn (kS "*")) dK) (k70 s) aP) aP)
theorem KP(s:a_):B7 s=jK (b_ [(a9 0)] ga) (j6 7 5) (Ap s) aP:=rfl
theorem NZ{w:Wy}:pn n (l8 m cs w):=by
 unfold l8
 split
 ·exact iz (Aw m cs false (bJ w.1))
 ·exact BH (by decide+kernel)
theorem OG{w:Wy}:pn n (jJ m cs w):=iz (Aw m cs false (bJ w.1))
theorem Bc{Z:Type}{f:Z→PyData}{W:List Z}(h:∀w,pn n (f w)):pn (n+1) (.list (W.map f)):=gJ λx hx=>by
 refine au (DT.mp hx) λw zz zq2=>?_;subst zq2;exact h w
theorem ae7{a b:ah}:(μ++[a,b])[μ.length]? =some a:=by simp
theorem GY{a b:ah}:(μ++[a,b])[μ.length+1]? =some b:=by simp
theorem TR{a b:ah}:(μ++[a,b]).set μ.length c=μ++[c,b]:=by simp
theorem Ht{a b:ah}:(μ++[a,b]).set (μ.length+1) c=μ++[a,c]:=by
 refine rA (List.set_append_right _ _ (by lia)) ?_;simp
theorem uz{δ:List ah}(h:μ[j]? =some c):(μ++δ)[j]? =some c:=by
 rw [F9 (BW.mp h).1];exact h
theorem tq{δ:List ah}(h:μ[j]? =some c):(μ++δ).set j c'=μ.set j c'++δ:=by
 rw [Sw _ _ (BW.mp h).1]
noncomputable abbrev k6(A B:List Fm)(l r:Fm):List Wy:=gT l r B A []++iO l r A B []
theorem GV(A B:List Fm)(l r:Fm):(k6 A B l r).length=A.length+B.length+2:=by
 simp only [k6,be,jh,ji,xO,Js];lia
theorem Tl{A:List Fm}{s:a_}{t pr w y st:Option AV}(hi:i<5)(hc:cs.length=6)
  (hs:(bJ (dX A B l r)).Sublist (zt 6)) (hcl:bj (aH.getD i []) (bJ (dX A B l r))=true) (hrec:oN i cs ja s rc (jl (dX A B l r))) (hj:μ[ja]? =some (.live X)) (hX:X.length+2+40*jl (dX A B l r)≤5000):
  ∃w' y' st' tx' ha' td' te' ke' Y δ,(∀x∈Y,Good x)∧(Y.length≤2+40*jl (dX A B l r)∧((k6 A B l r).find? (λw=>bj (aH.getD i []) (bJ w.1))=none→Y.length≤2))∧
   k70 s (ρB (aH.getD i []) A B l r (.list (nL (aH.getD i []))) (.list (iL cs)) ja t pr w y st tx ha td te ke) μ=
    some ((match (k6 A B l r).find? (λw=>bj (aH.getD i []) (bJ w.1)) with|some w=>.ret (.d (.bool (rc w.1&&rc w.2)))|none=>.next),
     ρB (aH.getD i []) A B l r (.list (nL (aH.getD i []))) (.list (iL cs)) ja t pr w' y' st' tx' ha' td' te' ke',μ.set ja (.live (X++Y))++δ):=by
 have hm:=mq hi;have hlen:=iF hs;have hG:=fB (dX A B l r);have hGl:=pM (A:=A) (B:=B) (l:=l) (r:=r);have hz:(dX A B l r).length≤6:=by lia
 have hw:∀w∈k6 A B l r,(bJ w.1).Sublist (zt 6)∧(bJ w.2).Sublist (zt 6)∧(bj (aH.getD i []) (bJ w.1)=true→bj (aH.getD i []) (bJ w.2)=true)∧jl w.1+jl w.2+1=jl (dX A B l r):= λw hw=>by
  have hcut:=JQ hw;exact (lq ((sm hcut).sublist.trans hs) ((IH hcut).trans hs) (yQ hi hcut hs hcl) (TV hcut))
 have hbal:∀w∈k6 A B l r,LI (aH.getD i []) (bJ w.1)=bj (aH.getD i []) (bJ w.1):= λw hw=>zW hi hs hcl (sm (JQ hw));have hwl:=GV A B l r;generalize hWW:k6 A B l r=W at*
 have hW100:W.length≤100:=by lia
 let m:=aH.getD i []
 let n:=μ.length
 let wD:=W.map (j3 m)
 let kD:=W.map (l8 m cs)
 let tD:=W.map (jJ m cs)
 let sD:=W.map rK
 let μ2:=μ++[ah.live wD]
 let μ6:=μ++[ah.live wD,ah.live kD]
 have e0:Rb (ρB m A B l r (.list (nL m)) (.list (iL cs)) ja t pr w y st tx ha td te ke) μ=some (.next,ρB m A B l r (.list (nL m)) (.list (iL cs)) ja t pr (some (.c n)) y st tx ha td te ke,μ++[ah.live ((gT l r B A []).map (j3 m))]):=UI (KY hz);have e1:Sv (ρB m A B l r (.list (nL m)) (.list (iL cs)) ja t pr (some (.c n)) y st tx ha td te ke) (μ++[ah.live ((gT l r B A []).map (j3 m))])=some (.next,ρB m A B l r (.list (nL m)) (.list (iL cs)) ja t pr (some (.c n)) y st tx ha td te ke,μ2):=by
  refine (er (pb (j:=n) rfl (bY (Jb hz)) dq (aa (by
   rw [jh,ji];simp;lia)))).trans ?_
  refine rA fm ?_;refine rB Kf ?_;refine (?_:some (Fl.next,_,μ++[ah.live ((k6 A B l r).map (j3 m))])=_);exact rA hWW rfl
 have hp2:dc μ2 (.c n)=some wD:=eR dq;have e2:R1 (ρB m A B l r (.list (nL m)) (.list (iL cs)) ja t pr (some (.c n)) y st tx ha td te ke) μ2=some (.next,ρB m A B l r (.list (nL m)) (.list (iL cs)) ja t pr (some (.c n)) y (some (.d (.list sD))) tx ha td te ke,μ2):=jA (yH hp2 hW100 λw h=>iF (hw w h).1);have e3:Qx (ρB m A B l r (.list (nL m)) (.list (iL cs)) ja t pr (some (.c n)) y (some (.d (.list sD))) tx ha td te ke) μ2=some (.next,ρB m A B l r (.list (nL m)) (.list (iL cs)) ja t pr (some (.c n)) y (some (.d (.list sD))) (some (.d (.list tD))) ha td te ke,μ2):=jA (Hg hm hc hW100 λw h=>⟨iF (hw w h).1,p9 (hw w h).1⟩);have e4:RS (ρB m A B l r (.list (nL m)) (.list (iL cs)) ja t pr (some (.c n)) y (some (.d (.list sD))) (some (.d (.list tD))) ha td te ke) μ2=some (.next,ρB m A B l r (.list (nL m)) (.list (iL cs)) ja t pr (some (.c n)) y (some (.d (.list sD))) (some (.d (.list tD))) (some (.d (.list tD))) td te ke,μ2):=by
  refine bO (d6 (V:=.d (.list tD)) rfl ?_);exact Cr rfl (by simp only [tD,xO];exact aa (by lia))
 have hvs:(W.map λw=>units m cs false (bJ w.1)).map (λvs=>Lv (tS vs.flatten))=tD:=by refine rA E_ ?_;rfl
 have hkp:(W.map λw=>units m cs false (bJ w.1)).map k5=kD:=by
  refine rA E_ ?_;apply FO;intro w hwm;refine (?_:k5 (units m cs false (bJ w.1))=l8 m cs w);unfold k5 l8;refine rA (AL _ _ _) ?_;refine rA (hbal w hwm) ?_;rfl
 have e5:Sr (ρB m A B l r (.list (nL m)) (.list (iL cs)) ja t pr (some (.c n)) y (some (.d (.list sD))) (some (.d (.list tD))) (some (.d (.list tD))) td te ke) μ2=some (.next,ρB m A B l r (.list (nL m)) (.list (iL cs)) ja t pr (some (.c n)) y (some (.d (.list sD))) (some (.d (.list tD))) (some (.d (.list tD))) (some (.c (n+1))) te ke,μ6):=by
  have h4:=s4 (vss:=W.map λw=>units m cs false (bJ w.1)) (μ:=μ2) (λvs hv=>by
   refine eE λGG kG=>?_;refine au (DT.mp hv) λw hwm zq2=>?_;subst zq2;refine kG ?_;have h6:=iF (hw w hwm).1
   have:=(gv m cs false (bJ w.1)).1
   have:=i6 m cs false (bJ w.1)
   exact (fu (mI m cs false (bJ w.1)) (by lia) (by lia))) (by refine rA (xO _) ?_;lia)
  rw [hvs,hkp] at h4
  have hl2:μ2.length=n+1:=by simp [μ2,n]
  rw [hl2] at h4
  refine (bO (d6 (V:=.d (.list tD)) rfl h4)).trans ?_;simp only [μ2,μ6,Eu];rfl
 let ρ6:=ρB m A B l r (.list (nL m)) (.list (iL cs)) ja t pr (some (.c n)) y (some (.d (.list sD))) (some (.d (.list tD))) (some (.d (.list tD))) (some (.c (n+1))) te ke
 let t1:PyData:=.tuple [.list kD,.list kD]
 let t2:PyData:=.tuple [.list tD,.list tD]
 have e6:Rv ρ6 μ6=some (.next,ρ6,μ.set ja (.live (X++[t1,t2]))++[ah.live wD,ah.live kD]):=by
  have hl1:af [a9 13] mo ρ6 μ6=some (.d (.list kD),μ6):=by
   refine d6 (V:=.c (n+1)) rfl ?_;exact Cr (eR GY) (by simp only [kD,xO];exact aa (by lia))
  have hx:=bY (EP (i:=i) (cs:=cs) (R:=.list (bi m (dX A B l r))) (ja:=ja) (n:=n) (t:=t) (o:=some (.d ((Fm.bin false l r).enc m))) (pr:=pr) (k:=some (.d (.int A.length))) (y:=y) (ha:=some (.d (.list tD))) (td:=some (.c (n+1))) (te:=te) (ke:=ke) (μ:=μ6) (W:=W) hi hW100 λw h=>(hw w h).1);have q1:=d8 (ds:=[.list kD,.list kD]) (an hl1 (an hx bX)) (aa (xM rfl));have q2:cY [a9 12,a9 11] ρ6 μ6=some (.d t2,μ6):=d8 (ds:=[.list tD,.list tD]) rfl (aa (xM rfl));have q3:=dJ (ds:=[t1,t2]) (an q1 (an q2 bX)) (aa (xM rfl));refine (er (pb (j:=ja) rfl q3 (uz hj) (aa (by simp;lia)))).trans ?_;exact rA (tq hj) rfl
 have hsl:(μ.set ja (.live (X++[t1,t2]))).length=n:=by simp [n]
 generalize hν:μ.set ja (.live (X++[t1,t2]))=ν at e6 hsl
 have e7:Q9 ρ6 (ν++[ah.live wD,ah.live kD])=some (.next,ρ6,ν++[ah.live wD,ah.live (kD++[.str ""])]):=by
  refine (er (gj (j:=n+1) (d:=.str "") rfl rfl (by refine rB hsl ?_;exact GY) (by simp only [kD,xO];exact aa (by lia)))).trans ?_;refine rB hsl ?_;exact rA Ht rfl
 have hz3:b_ [(a9 8),(a9 11),(a9 13)] BX ρ6 (ν++[ah.live wD,ah.live (kD++[.str ""])])=some (W.map (BD m cs),none,ν++[ah.frozen wD,ah.frozen (kD++[.str ""])]):=by
  have f1:xz (.c n) (ν++[ah.live wD,ah.live (kD++[.str ""])])=some (.list wD,ν++[ah.frozen wD,ah.live (kD++[.str ""])]):=by
   refine rB hsl ?_;exact (rx ae7).trans (by rw [TR])
  have f2:xz (.c (n+1)) (ν++[ah.frozen wD,ah.live (kD++[.str ""])])=some (.list (kD++[.str ""]),ν++[ah.frozen wD,ah.frozen (kD++[.str ""])]):=by
   refine rB hsl ?_;exact (rx GY).trans (by rw [Ht])
  have ev:e_ [(a9 8),(a9 11),(a9 13)] ρ6 (ν++[ah.live wD,ah.live (kD++[.str ""])])=some ([.c n,.d (.list tD),.c (n+1)],ν++[ah.live wD,ah.live (kD++[.str ""])]):=rfl;have fz:lG [.c n,.d (.list tD),.c (n+1)] (ν++[ah.live wD,ah.live (kD++[.str ""])])=some ([.list wD,.list tD,.list (kD++[.str ""])],ν++[ah.frozen wD,ah.frozen (kD++[.str ""])]):=fJ f1 (fJ rfl (fJ f2 rfl));refine (b5 ev).trans ((b5 fz).trans (?_:some (w4 wD tD (kD++[.str ""]),none,_)=_));simp only [wD,tD,kD,xc];rfl
 have hjν:(ν++[ah.frozen wD,ah.frozen (kD++[.str ""])])[ja]? =some (.live (X++[t1,t2])):=uz (by refine rB hν ?_;exact Jx hj);refine eE λGG kG=>?_;obtain ⟨y',te',ke',Y,μ',g,gl,gm,e8⟩:=QZ (i:=i) (cs:=cs) (R:=.list (bi m (dX A B l r))) (ja:=ja) (n:=n) (st0:=jl (dX A B l r)) (s:=s) (rc:=rc) (t:=t) (o:=some (.d ((Fm.bin false l r).enc m))) (pr:=pr) (k:=some (.d (.int A.length))) (st:=some (.d (.list sD))) (tx:=some (.d (.list tD))) (ha:=some (.d (.list tD))) (td:=some (.c (n+1))) (w8:=some (.c n))
  (μ:=ν++[ah.frozen wD,ah.frozen (kD++[.str ""])]) (X:=X++[t1,t2]) (W.map (BD m cs)) hrec hjν (by simp;lia) W y te ke hw
 have e9:Sb s ρ6 (ν++[ah.live wD,ah.live (kD++[.str ""])])=_:=(gM hz3).trans e8;have hμ':μ'=μ.set ja (.live (X++([t1,t2]++Y)))++[ah.frozen wD,ah.frozen (kD++[.str ""])]:=by
  refine rA gm ?_;refine rA (tq (c:=.live (X++[t1,t2])) (by rw [←hν];exact Jx hj)) ?_;refine rB hν ?_;refine rA (HA _) ?_;exact rA (Eu _ _ _) rfl
 subst hμ';refine kG ?_;refine ⟨some (.c n),y',some (.d (.list sD)),some (.d (.list tD)),some (.d (.list tD)),some (.c (n+1)),te',ke',[t1,t2]++Y,[ah.frozen wD,ah.frozen (kD++[.str ""])],?_,⟨by simp;lia,λh=>by refine rA (gl.2 h) ?_;simp⟩,?_⟩
 ·intro x hx
  rcases AE.mp hx with q|q
  ·simp only [Cc,Er,or_false] at q
   rcases q with rfl|rfl
   ·exact dU (n:=1) (Bc λzz=>NZ) (by decide)
   ·exact dU (n:=1) (Bc λzz=>OG) (by decide)
  ·exact g x q
 ·refine (aB e0).trans ((aB e1).trans ((aB e2).trans ((aB e3).trans ((aB e4).trans ((aB e5).trans ((aB e6).trans ((aB e7).trans ?_)))))))
  cases hf:W.find? (λw=>bj (aH.getD i []) (bJ w.1)) with
  |some w=>
   rw [hf] at e9
   exact cV e9
  |none=>
   rw [hf] at e9
   exact (aB e9).trans bK
theorem Mp(m:List Nat)(rc:List Fm→Bool)(A B:List Fm)(l r:Fm):xR m rc A (.bin false l r::B)=match (k6 A B l r).find? (λw=>bj m (bJ w.1)) with
  |some w=>rc w.1&&rc w.2
  |none=>xR m rc (A++[.bin false l r]) B:=by
 rfl
theorem MU(m:List Nat)(rc:List Fm→Bool)(A B:List Fm)(F:Fm)(h:xv F=false):xR m rc A (F::B)=xR m rc (A++[F]) B:=by
 cases F with
 |«at» i=>rfl
 |bin p l r=>
  cases p with
  |true=>rfl
  |false=>cases h
set_option genSizeOfSpec false in
set_option genInjectivity false in
structure Pu where
 (o k w y st tx ha td te ke:Option AV)
noncomputable abbrev RV(m:List Nat)(cs:List Int)(ja:Nat)(t pr:Option AV)(G:List Fm)(x:Pu):d5:=mW (.list (bi m G)) (.list (nL m)) (.list (iL cs)) ja t x.o pr x.k x.w x.y x.st x.tx x.ha x.td x.te x.ke
noncomputable abbrev xOK(x:Pu)(m:List Nat)(F:Fm)(k:Nat):Pu:=⟨some (.d (F.enc m)),some (.d (.int k)),x.w,x.y,x.st,x.tx,x.ha,x.td,x.te,x.ke⟩
def Go(m:List Nat)(cs:List Int)(ja:Nat)(s:a_)(rc:List Fm→Bool)(t pr:Option AV)(G:List Fm)(xs:List PyData)(B A:List Fm)(x:Pu)(μ:List ah)(X:List PyData):Prop:=
 ∃fl x' Y δ,(∀x∈Y,Good x)∧Y.length≤2*B.length+40*jl G∧(fl=.ret (.d (.bool (xR m rc A B)))∨(fl=.next∧xR m rc A B=false))∧fR (j6 7 5) (Ap s) aP none xs (cN A.length (bi m B)) (RV m cs ja t pr G x) μ=some (fl,RV m cs ja t pr G x',μ.set ja (.live (X++Y))++δ)
theorem Go.mk{s:a_}{t pr:Option AV}{G:List Fm}{A:List Fm}{x:Pu}(fl:Fl)(x':Pu)(Y:List PyData)(δ:List ah)(h1:∀x∈Y,Good x)(h2:Y.length≤2*B.length+40*jl G)(h3:fl=.ret (.d (.bool (xR m rc A B)))∨(fl=.next∧xR m rc A B=false))
 (h4:fR (j6 7 5) (Ap s) aP none xs (cN A.length (bi m B)) (RV m cs ja t pr G x) μ=some (fl,RV m cs ja t pr G x',μ.set ja (.live (X++Y))++δ)):Go m cs ja s rc t pr G xs B A x μ X:=(Dz fl x' Y δ h1 h2 h3 h4)
theorem I7(m:List Nat)(F:Fm)(A B:List Fm):cN A.length (bi m (F::B))=.tuple [.int A.length,F.enc m]::cN (A++[F]).length (bi m B):=by
 refine rA be ?_;rfl
section
variable {s:a_} {t pr:Option AV} {G:List Fm} {A:List Fm} {x:Pu}
theorem IK:bA (aF (a9 5) (kI 0)) (jI kn (kS "*")) dK (RV m cs ja t pr G (xOK x m F A.length)) μ=some (xv F,μ):=VL rfl
theorem ab5(q:xv F=false)(h:Go m cs ja s rc t pr G xs B (A++[F]) (xOK x m F A.length) μ X):Go m cs ja s rc t pr G xs (F::B) A x μ X:=by
 refine nO h λfl x' Y δ g1 g2 g3 g4=>?_;refine Go.mk fl x' Y δ g1 (L3 g2 (by simp only [AH];omega)) (by refine rA (MU _ _ _ _ _ q) ?_;exact g3) ?_;refine rA (I7 _ _ _ _) ?_;exact LO (dP rfl ((aB ((gS IK q).trans bK)).trans bK) (az _ _)) g4
theorem Up(hi:i<5)(hc:cs.length=6)(hs:(bJ (dX A B l r)).Sublist (zt 6))(hcl:bj (aH.getD i []) (bJ (dX A B l r))=true)(hrec:oN i cs ja s rc (jl (dX A B l r)))(hj:μ[ja]? =some (.live X))(hX:X.length+2+40*jl (dX A B l r)≤5000)
  (h:∀x' Y δ,Y.length≤2→Go (aH.getD i []) cs ja s rc t pr (dX A B l r) xs B (A++[.bin false l r]) x' (μ.set ja (.live (X++Y))++δ) (X++Y)):Go (aH.getD i []) cs ja s rc t pr (dX A B l r) xs (.bin false l r::B) A x μ X:=by
 obtain ⟨w1,y1,st1,tx1,ha1,td1,te1,ke1,Y1,δ1,b1,b2,b3⟩:=Tl (t:=t) (pr:=pr) (w:=x.w) (y:=x.y) (st:=x.st) (tx:=x.tx) (ha:=x.ha) (td:=x.td) (te:=x.te) (ke:=x.ke) (μ:=μ) (X:=X) hi hc hs hcl hrec hj hX
 let x1:Pu:=⟨some (.d ((Fm.bin false l r).enc (aH.getD i []))),some (.d (.int A.length)),w1,y1,st1,tx1,ha1,td1,te1,ke1⟩
 generalize hx1:x1=z at*
 have b4:k70 s (RV (aH.getD i []) cs ja t pr (dX A B l r) (xOK x (aH.getD i []) (.bin false l r) A.length)) μ=some ((match (k6 A B l r).find? (λw=>bj (aH.getD i []) (bJ w.1)) with|some w=>.ret (.d (.bool (rc w.1&&rc w.2)))|none=>.next),RV (aH.getD i []) cs ja t pr (dX A B l r) z,μ.set ja (.live (X++Y1))++δ1):=by
  refine rB hx1 ?_;exact b3
 clear b3 hx1;have hg:=Mp (aH.getD i []) rc A B l r;cases hf:(k6 A B l r).find? (λw=>bj (aH.getD i []) (bJ w.1)) with
 |some ww=>
  rw [hf] at b4 hg
  refine Go.mk _ z Y1 δ1 b1 (L3 b2.1 (by simp only [AH];omega)) (.inl (by exact rA hg rfl)) ?_;refine rA (I7 _ _ _ _) ?_;exact qd rfl (cV ((gC IK rfl).trans b4))
 |none=>
  rw [hf] at b4 hg
  refine nO (h z Y1 δ1 (b2.2 hf)) λfl x' Y δ g1 g2 g3 g4=>?_;refine Go.mk fl x' (Y1++Y) (δ1++δ) (λy hy=>(AE.mp hy).elim (b1 y) (g1 y)) (by have:=b2.2 hf;simp only [AH,be];omega) (by refine rA hg ?_;exact g3) ?_;refine rA (I7 _ _ _ _) ?_;refine LO (dP rfl ((aB ((gC IK rfl).trans b4)).trans bK) (az _ _)) (g4.trans ?_);refine rA (tq (Jx hj)) ?_;refine rA (HA _) ?_;refine rA (Eu _ _ _) ?_;exact rA (Eu _ _ _) rfl
end
theorem Vx{s:a_}{t pr:Option AV}{G:List Fm}(hi:i<5)(hc:cs.length=6)(hs:(bJ G).Sublist (zt 6))(hcl:bj (aH.getD i []) (bJ G)=true)(hrec:oN i cs ja s rc (jl G))(xs:List PyData):
  ∀ (B A:List Fm) (x:Pu) (μ:List ah) (X:List PyData),G=A++B→μ[ja]? =some (.live X)→X.length+2*B.length+40*jl G≤5000→Go (aH.getD i []) cs ja s rc t pr G xs B A x μ X
 | [],A,x,μ,X,hG,hj,hX=>Go.mk .next x [] [] (λzz h=>nomatch h) (LL _) (.inr ⟨rfl,rfl⟩) (by
   refine rA (DO _) ?_;refine rA (DO _) ?_;refine rA (eK hj) ?_;rfl)
 |F::B,A,x,μ,X,hG,hj,hX=>by
  simp only [AH] at hX
  cases q:xv F with
  |false=>exact ab5 q (Vx hi hc hs hcl hrec xs B (A++[F]) _ μ X (by refine rA hG ?_;simp) hj (by omega))
  |true=>
   cases F with
   |«at» p=>exact nomatch q
   |bin p l r=>
    cases p with
    |true=>exact nomatch q
    |false=>
     subst hG;have e:jl (dX A B l r)=jl (A++.bin false l r::B):=rfl;exact Up hi hc hs hcl hrec hj (by omega) λx' Y δ hY=>Vx hi hc hs hcl hrec xs B (A++[.bin false l r]) x' _ (X++Y) (by simp) (uz (Jx hj)) (by refine rA be ?_;omega)
theorem VQ{G:List Fm}(h:two G=true):∃p q,G=[.at p,.at q]:=by
 match G,h with
 | [.at p,.at q],_=>exact (jN p q rfl)
theorem oN.mono{s:a_}{a:Nat}(h:oN i cs ja s rc b)(hab:a≤b):oN i cs ja s rc a:=
 λG μ X h1 h2 h3 h4 h5=>h G μ X h1 h2 h3 (On h4 hab) h5
theorem s70{ja:Nat}(hi:i<5)(hc:cs.length=6):∀k,oN i cs ja (IT k) (pr (aH.getD i []) k) k
 |0=> λG μ X zz zz zz h zz=>absurd h (Nat.not_lt_zero _)
 |k+1=>by
  intro G μ X hj hs hcl hst hX;have hz:=iF hs;refine bP (JJ (s:=IT k) (m:=aH.getD i []) (G:=G) (M:=.list (nL (aH.getD i []))) (C:=.list (iL cs)) (j:=ja) (μ:=μ) hz) λt e0=>?_;have hs5:(bJ (fN G)).Sublist (zt 6):=by refine rA (pR _) ?_;exact hs
  have hcl5:bj (aH.getD i []) (bJ (fN G))=true:=by refine rA (pR _) ?_;exact hcl
  have hst5:jl (fN G)=jl G:=Kp G;have hl5:=fB (fN G);have hz5:=iF hs5;have hlt:ja<μ.length:=(BW.mp hj).1;have hpr:pr (aH.getD i []) (k+1) G=(two (fN G)||xR (aH.getD i []) (pr (aH.getD i []) k) [] (fN G)):=rfl;cases h2:two (fN G) with
  |true=>
   refine lP (VQ h2) λp q hpq=>?_;rw [hpq] at hs5 hcl5 e0
   refine bP (DE (s:=IT k) (t:=t) (μ:=μ) hi hc hs5 hcl5 hj (by lia)) λρ' e1=>?_;refine (cL ([HO true true]) ?_ (by simp) ?_)
   ·intro x hx
    refine rA (Aq.mp hx) ?_;exact dU (n:=1) (gJ λx hx=>by simp at hx;refine rA hx ?_;exact jk) (by decide)
   ·have:f70 (IT k) (cF (ao (ay 70)) [.d (.list (bi (aH.getD i []) G)),.d (.list (nL (aH.getD i []))),.d (.list (iL cs)),.c ja]) μ=some (.ret (.d (.bool true)),ρ',μ.set ja (.live (X++[HO true true]))):=by
     unfold f70;exact (aB e0).trans (cV e1)
    refine (d0 (k:=4) rfl this).trans ?_;refine rA (Fn (by simp)) ?_;refine rA hpr ?_;refine rA h2 ?_;exact rA (Bool.true_or _) rfl
  |false=>
   have e1:=JK (s:=IT k) (m:=aH.getD i []) (G:=fN G) (M:=.list (nL (aH.getD i []))) (C:=.list (iL cs)) (j:=ja) (t:=t) (μ:=μ) hz5 h2;refine nO (Vx (t:=t) (pr:=none) hi hc hs5 hcl5 ((s70 (ja:=ja) hi hc k).mono (by omega)) (cN 0 (bi (aH.getD i []) (fN G))) (fN G) [] ⟨none,none,none,none,none,none,none,none,none,none⟩ μ X rfl hj (by omega)) λfl x' Y δ g1 g2 g3 g4=>?_;refine (cL Y g1 (by omega) ?_);have e2:B7 (IT k) (mW (.list (bi (aH.getD i []) (fN G))) (.list (nL (aH.getD i []))) (.list (iL cs)) ja t none none none none none none none none none none none) μ=some (fl,RV (aH.getD i []) cs ja t none (fN G) x',μ.set ja (.live (X++Y))++δ):=by
    refine rA (KP _) ?_;refine rA (gM (jV (f:=a9 0) (V:=.d (.list (bi (aH.getD i []) (fN G)))) rfl rfl)) ?_;exact g4
   have htk:(μ.set ja (.live (X++Y))++δ).take μ.length=μ.set ja (.live (X++Y)):=by
    refine rA (Mq (by simp)) ?_;exact rA (Fn (by simp)) rfl
   refine rA hpr ?_;refine rA h2 ?_;refine rA (PA _) ?_
   rcases g3 with rfl| ⟨rfl,g3⟩
   ·have:f70 (IT k) (cF (ao (ay 70)) [.d (.list (bi (aH.getD i []) G)),.d (.list (nL (aH.getD i []))),.d (.list (iL cs)),.c ja]) μ=some (.ret (.d (.bool (xR (aH.getD i []) (pr (aH.getD i []) k) [] (fN G)))),RV (aH.getD i []) cs ja t none (fN G) x',μ.set ja (.live (X++Y))++δ):=by
     unfold f70;exact (aB e0).trans ((aB e1).trans (cV e2))
    refine (d0 (k:=4) rfl this).trans ?_;exact rA htk rfl
   ·have:f70 (IT k) (cF (ao (ay 70)) [.d (.list (bi (aH.getD i []) G)),.d (.list (nL (aH.getD i []))),.d (.list (iL cs)),.c ja]) μ=some (.ret (.d (.bool false)),RV (aH.getD i []) cs ja t none (fN G) x',μ.set ja (.live (X++Y))++δ):=by
     unfold f70;refine (aB e0).trans ((aB e1).trans ((aB e2).trans (cV ?_)));unfold GP;exact dZ rfl
    refine (d0 (k:=4) rfl this).trans ?_;refine rA htk ?_;exact rA g3 rfl
theorem Cu{r:List PyData}{x:PyData}{acc2:List PyData}(e1:tf ρ x=some ρ1)(e2:cf ρ1 μ acc=some (ρ2,μ2,acc2)):fe tf cf none xs (x::r) ρ μ acc=fe tf cf none xs r ρ2 μ2 acc2:=by
 exact pE e1 e2 (az _ _)
theorem M_{os1 td:List Int}(hi:i<μ.length)(hj:j<μ.length)(hij:i≠j)(h:rd os=some (0,os1))(hz:td.length≤1000):wT (k+1) [.c i,.c j] (gX μ i j os td)=some (.d (.tuple []),gX μ i j os1 (td++[0])):=by
 have e2:lh (wT k) (oL i j (some (.d (.int 0))) none none) (gX μ i j os1 (td++[0]))=some (.ret (.d (.tuple [])),oL i j (some (.d (.int 0))) none none,gX μ i j os1 (td++[0])):=by
  unfold lh;refine (gC (Ga (n:=0) rfl) rfl).trans ?_;exact cV (dZ (d8 (ds:=[]) rfl (aa (xM rfl))))
 have:f68 (wT k) (cF (ao (ay 68)) [.c i,.c j]) (gX μ i j os td)=some (.ret (.d (.tuple [])),oL i j (some (.d (.int 0))) none none,gX μ i j os1 (td++[0])):=by
  unfold f68;refine rA (rl hi hj hij h (by lia)) ?_;exact rA (cV e2) rfl
 refine (?_:cA 2 _ _ _ _=_);refine rA (d0 (k:=2) rfl this) ?_;exact rA (Fn (by rw [kO,kO];exact DU _)) rfl
theorem Cj:∀F:Fm,F.ht≤F.pl.length
 | .at _=>DU 1
 | .bin p l r=>by
  have h1:=Cj l;have h2:=Cj r;have p1:=nI l;have p2:=nI r;simp only [Fm.ht,Fm.pl,be];lia
theorem p7(m:List Nat):∀F:Fm,(F.pre m).length+1=2*F.pl.length
 | .at _=>rfl
 | .bin p l r=>by
  have h1:=p7 m l;have h2:=p7 m r;simp only [Fm.pre,Fm.pl,AH,be];lia
noncomputable def de(m:List Nat)(G:List Fm):List Int:=G.flatMap λF=>F.pre m
theorem jj(m:List Nat)(F:Fm)(G:List Fm):de m (F::G)=F.pre m++de m G:=rfl
theorem rz(m:List Nat):∀G:List Fm,(de m G).length≤2*(bJ G).length
 | []=>DU 0
 |F::G=>by
  have:=rz m G;have:=p7 m F
  refine rA (jj _ _ _) ?_;refine rA (b6 _ _) ?_;refine rA be ?_;refine rA be ?_;lia
theorem ta(hi:i<μ.length)(hj:j<μ.length)(hij:i≠j){ρ0:d5}{e:EF}(he:∀w μ',e (ρ0.set 31 w) μ'=wT 12 [.c i,.c j] μ')(xs:List PyData)(os':List Int):∀ (G:List Fm) (r:List PyData) (w:Option AV) (os td:List Int) (acc:List PyData),
  r.length=G.length+1→xW os (de m G++[0]) os'→bJ G=Ff (rJ td) (bJ G).length→(bJ G).length≤12→td.length+2*(bJ G).length≤100→acc.length+G.length≤100→
  ∃w',fe (dz 31) (cX bg (aY e)) none xs r (ρ0.set 31 w) (gX μ i j os td) acc=some (ρ0.set 31 w',gX μ i j os' (td++de m G++[0]),acc++bi m G++[.tuple []])
 | [],[x],w,os,td,acc,_,h,_,_,hz,ha=>by
  cases h with
  |cons e1 h=>
  cases h;refine ⟨some (.d x),?_⟩;refine rA (Cu (ρ1:=ρ0.set 31 (some (.d x))) (by show some ((ρ0.set 31 w).set 31 _)=_;rw [HA]) (pC ((he _ _).trans (M_ hi hj hij e1 (by lia))) acc (aa (by lia)))) ?_
  simp [fe,de,bi]
 |F::G,x::r,w,os,td,acc,hr,h,hp,h12,hz,ha=>by
  simp only [AH] at hr ha
  rw [jj,Eu] at h
  refine au (xW.split h) λos1 h1 h2=>?_;rw [b6] at hp h12 hz
  refine dW (kz hp) λq1 q2 q3=>?_;rw [be] at q2 hz h12
  have hl:=p7 m F;have hh:=Cj F;have hs:=s68 (μ:=μ) hi hj hij m F 12 os os1 td (by lia) h1 q1 (by lia);have ht:rJ (td++F.pre m)=rJ td+F.pl.length:=by refine rA (me _ _) ?_;exact rA (kZ _ _) rfl
  refine bP (ta hi hj hij he xs os' G r (some (.d x)) os1 (td++F.pre m) (acc++[F.enc m]) (by lia) h2 (by refine rA ht ?_;rw [L0] at q2;exact q2) (by lia) (by refine rA be ?_;lia) (by simp;lia)) λw' g=>?_;refine ⟨w',?_⟩;refine rA (Cu (ρ1:=ρ0.set 31 (some (.d x))) (by show some ((ρ0.set 31 w).set 31 _)=_;rw [HA]) (pC ((he _ _).trans hs) acc (aa (by lia)))) ?_;refine rA g ?_;refine rA (jj _ _ _) ?_
  simp [bi]
theorem Ol:((zt 64).all λx=>decide ((Hp ((x:Nat):Int):Int)+6≤1000))=true:=by decide+kernel
theorem Pd{x:Int}(h0:0≤x)(h1:x<64):(Hp x:Int)+6≤2^27:=by
 refine bP (Lh h0) λn zq1=>?_;subst zq1
 have:=Bw.mp Ol n (D3.mpr (by lia))
 have:=of_decide_eq_true this
 have e:(2:Int)^27=134217728:=by decide
 lia
theorem q_{f g:SF}(h:f ρ μ=none):ap f g ρ μ=none:=JX h
theorem xd(h:f ρ μ=none):cb i f ρ μ=none:=JX h
theorem sJ{f:SF}(h:f (cF sc Vs) μ=none):cA k sc f Vs μ=none:=by
 by_cases hl:Vs.length=k
 ·exact (if_pos hl).trans (JX h)
 ·exact if_neg hl
theorem tb(h0:a9 0 ρ μ=some (.c i,μ))(hc:μ[i]? =some (.iter [])):af [a9 0] jX ρ μ=none:=by
 exact (b5 (vC h0)).trans ((bU (rfl:l1 [AV.c i]=some _)).trans ((bU (rfl:Fo (.c i)=some i)).trans ((bU (show μ[i]?.bind Sh=some [] by rw [hc];rfl)).trans (JX rfl))))
theorem Ef(hc:μ[i]? =some (.iter [])):aR [.c i] μ=none:=by
 refine sJ ?_;refine (?_:f8 [some (.c i),none,none] μ=none);unfold f8;refine q_ ?_;unfold E8;exact xd (tb rfl hc)
theorem OU{o:AV→AV→List ah→Option (AV×List ah)}{W r:AV}(h:ρ[i]? =some (some V))(hf:f ρ μ=some (W,μ1))(ho:o V W μ1=some (r,μ2)):iu i f o ρ μ=some (.next,ρ.set i (some r),μ2):=by
 exact C2 h hf ho
theorem Pk{f:SF}(ht:t ρ μ=some (true,μ))(hf:f ρ μ=none):j4 t f (k+1) ρ μ=none:=by
 refine iN.trans ((b5 ht).trans (?_:bp (f ρ μ) (λfl p=>Rd fl (j4 t f k p.1 p.2) p)=none));exact JX hf
theorem EK{b o:Int}(hc:μ[i]? =some (.iter [.int b]))(h0:64≤o)(h1:o<128)(hb:b=o∨b=o+128):aR [.c i] μ=none:=by
 refine f_ (j9 (by lia) h1 hb) λhb1 hb2=>?_;rw [if_pos h0] at hb1
 refine sJ ?_;refine (?_:f8 [some (.c i),none,none] μ=none);have hlt:i<μ.length:=(BW.mp hc).1;have e0:E8 [some (.c i),none,none] μ=some (.next,[some (.c i),some (.d (.int b)),none],μ.set i (.iter [])):=by
  unfold E8;exact bO (uI (x:=.int b) (r:=[]) rfl hc)
 have e1:J8 [some (.c i),some (.d (.int b)),none] (μ.set i (.iter []))=some (.next,[some (.c i),some (.d (.int b)),some (.d (.int (o%64)))],μ.set i (.iter [])):=by
  unfold J8;refine rB hb2 ?_;exact bO (cW (x:=b) (y:=63) rfl rfl rfl)
 unfold f8;refine rA (aB e0) ?_;refine rA (aB e1) ?_;refine q_ ?_;unfold Na;refine Pk ?_ ?_
 ·exact nN (V:=.d (.int 64)) ((cW (x:=b) (y:=64) rfl rfl rfl).trans (by exact rA hb1 rfl)) rfl
 ·have ea:iu 2 (kI 6) qw [some (.c i),some (.d (.int b)),some (.d (.int (o%64)))] (μ.set i (.iter []))=some (.next,[some (.c i),some (.d (.int b)),some (.d (.int (o%64*64)))],μ.set i (.iter [])):=by
   exact OU (V:=.d (.int (o%64))) (W:=.d (.int 6)) rfl rfl (YJ (o%64) (μ.set i (.iter [])) (by lia) (by lia))
  refine rA (aB ea) ?_;exact q_ (xd (tb rfl (cB hlt)))
theorem rN:cP [.c i] μ=(aR [.c i] μ).elim (bo (rH μ i) λμ'=>some (.d (.list []),μ')) (λp=>bo (vd p.1) λx=>some (.d (.list [x]),p.2)):=rfl
theorem zn{v:Int}(hc:μ[i]? =some (.iter (iL os)))(h:rd os=some (v,rest)):cP [.c i] μ=some (.d (.list [.int v]),μ.set i (.iter (iL rest))):=by
 rw [rN,s8 hc h];rfl
theorem AA{b o:Int}(hc:μ[i]? =some (.iter [.int b]))(h0:64≤o)(h1:o<128)(hb:b=o∨b=o+128):cP [.c i] μ=some (.d (.list []),μ.set i (.iter [])):=by
 refine f_ (j9 (by lia) h1 hb) λhb1 hb2=>?_;rw [if_pos h0] at hb1
 have hst:rH μ i=some (μ.set i (.iter [])):=by
  exact (bU (show μ[i]?.bind Sh=some [.int b] by rw [hc];rfl)).trans (if_pos ⟨by rw [hb1];decide,by rw [hb2];exact Pd (by lia) (by lia)⟩)
 rw [rN,EK hc h0 h1 hb];exact bU hst
theorem yR(hc:μ[i]? =some (.iter [])):cP [.c i] μ=some (.d (.list []),μ):=by
 have hst:rH μ i=some μ:=by
  exact (bU (show μ[i]?.bind Sh=some [] by rw [hc];rfl)).trans (congrArg some (eK hc))
 rw [rN,Ef hc];exact bU hst
set_option genInjectivity false in
structure c_ where
 script:Option AV:=none
 cells:Option AV:=none
 total:Option AV:=none
 mates:Option AV:=none
 numbers:Option AV:=none
 low:Option AV:=none
 far:Option AV:=none
 great:Option AV:=none
 tape:Option AV:=none
 told:Option AV:=none
 read:Option AV:=none
 beyond:Option AV:=none
 asked:Option AV:=none
 symbol:Option AV:=none
 tests:Option AV:=none
 units:Option AV:=none
 text:Option AV:=none
 shorn:Option AV:=none
 proof:Option AV:=none
 joins:Option AV:=none
 formula:Option AV:=none
 forks:Option AV:=none
 start:Option AV:=none
 labels:Option AV:=none
 names:Option AV:=none
 words:Option AV:=none
 trees:Option AV:=none
 mask:Option AV:=none
 said:Option AV:=none
 chosen:Option AV:=none
 joined:Option AV:=none
noncomputable def c_.loc(x:c_):d5:=[x.script,x.cells,x.total,x.mates,x.numbers,x.low,x.far,x.great,x.tape,x.told,x.read,x.beyond,x.asked,x.symbol,x.tests,x.units,x.text,x.shorn,x.proof,x.joins,x.formula,x.forks,x.start,x.labels,x.names,x.words,x.trees,x.mask,x.said,x.chosen,x.joined]
theorem DB{X Y:Type}(f:X→Y)(xs:List X)(lo hi st:Option Int):iQ (xs.map f) lo hi st=(iQ xs lo hi st).map f:=by
 unfold iQ;refine rA (xO _) ?_;refine rA List.map_filterMap ?_
 congr 1
 funext i
 rw [G1]
noncomputable def Ck:List Int:=[125,9,187,70,428,191]
def RP(xs:List Int)(k:Int):Int:=((iQ xs (some k) (some 60) (some 6)).map λx=>x.fmod 5040).sum
noncomputable def CB(xs:List Int):PyData→PyData
 | .tuple [.int k,.int c]=>.int (c+RP xs k)
 |x=>x
theorem vi(xs:List Int):∀ (l:List Int) (k:Nat),∃cs:List Int,(cN k (iL l)).map (CB xs)=iL cs∧cs.length=l.length
 | [],_=>(aZ ([]) rfl rfl)
 |c::l,k=>by
  refine au (vi xs l (k+1)) λcs e h=>?_;refine (aZ ((c+RP xs k)::cs) ?_ (by simp [h]));refine (?_:CB xs (.tuple [.int k,.int c])::(cN (k+1) (iL l)).map (CB xs)=_);refine rA e ?_;rfl
theorem J1{X:Type}(xs:List X)(lo hi st:Option Int):(iQ xs lo hi st).length≤(sliceRange (sliceBounds lo hi st xs.length).1 (sliceBounds lo hi st xs.length).2.1 (sliceBounds lo hi st xs.length).2.2).length:=by
 unfold iQ;exact List.length_filterMap_le _ _
theorem Ar{l:List Int}(hf:f ρ μ=some (.d (.list (iL l)),μ)):af [f] wi ρ μ=some (.d (.int l.sum),μ):=by
 refine d6 hf ?_;exact (bU (rfl:l1 [_]=some _)).trans ((bU (rfl:dc μ (.d (.list (iL l)))=some _)).trans (bU (n9 l)))
theorem st0(x:c_)(xs:List Int)(μ:List ah)(hx:xs.length≤63)(hr:∀k:Int,(iQ xs (some k) (some 60) (some 6)).length≤100000):∃cs:List Int,cs.length=6∧vv ({x with script:=some (.d (.list (iL xs)))}).loc μ=some (.next,({x with script:=some (.d (.list (iL xs))),cells:=some (.d (.list (iL cs)))}).loc,μ):=by
 refine au (vi xs Ck 0) λcs e h=>?_;refine (aZ cs h ?_)
 let ρ:=({x with script:=some (.d (.list (iL xs)))}:c_).loc
 have hl:aU [(kI 125),(kI 9),(kI 187),(kI 70),(kI 428),(kI 191)] ρ μ=some (.d (.list (iL Ck)),μ):=dJ (ds:=iL Ck) rfl (aa (by decide));have hcm:=t8 (sc:=uP) (itf:=b_ [(aU [(kI 125),(kI 9),(kI 187),(kI 70),(kI 428),(kI 191)])] ga) (e:=(aj (a9 32) (af [(ce tP (aK false (vG (a9 0) (aL (a9 31)) (aL (kI 60)) (aL (kI 6)))) (dz 33) (cX bg (aY (aj (a9 33) (kI 5040) (aS cu)))))] wi) aT)) (ρ:=ρ) (μ:=μ) 31 32 (by decide) (CB xs)
  (jV hl rfl) (az _ _) (λy hy=>by
   refine lP (mH Ck 0 hy) λk c zq2=>?_;subst zq2;refine (fO (.int k) (.int c) rfl ?_)
   let ρ1:d5:=((bG uP ρ).set 31 (some (.d (.int k)))).set 32 (some (.d (.int c)))
   have hs:vG (a9 0) (aL (a9 31)) (aL (kI 60)) (aL (kI 6)) ρ1 μ=some (.d (.list (iL (iQ xs (some k) (some 60) (some 6)))),μ):=by
    have h0:a9 0 ρ1 μ=some (.d (.list (iL xs)),μ):=rfl;have h1:aL (a9 31) ρ1 μ=some (some k,μ):=dF rfl;have h2:aL (kI 60) ρ1 μ=some (some 60,μ):=dF rfl;have h3:aL (kI 6) ρ1 μ=some (some 6,μ):=dF rfl;refine (b5 h0).trans ((b5 h1).trans ((b5 h2).trans ((b5 h3).trans ((bU (rfl:some (6:Int)=some 6)).trans ((bU (rfl:dc μ (.d (.list (iL xs)))=some _)).trans ((if_pos ⟨by rw [xO];exact aa (by lia),by decide⟩).trans ?_))))));rw [iL,DB]
   have hin:=ic (sc:=tP) (itf:=aK false (vG (a9 0) (aL (a9 31)) (aL (kI 60)) (aL (kI 6)))) (e:=aj (a9 33) (kI 5040) (aS cu)) (ρ:=ρ1) (μ:=μ) (g:=none) 33 (λx=>match x with| .int x=>.int (x.fmod 5040)|x=>x) (d9 (V:=.d (.list (iL (iQ xs (some k) (some 60) (some 6))))) hs rfl) (az _ _) (λy hy=>by
    refine au (DT.mp hy) λz zz zq2=>?_;subst zq2;exact cW (x:=z) (y:=5040) rfl rfl (fk (by decide))) (by refine rA (xO _) ?_;exact aa (hr k))
   have e2:(iL (iQ xs (some k) (some 60) (some 6))).map (λx=>match x with| .int x=>F8 (x.fmod 5040)|x=>x)=iL ((iQ xs (some k) (some 60) (some 6)).map λx=>x.fmod 5040):=by
    simp only [iL,E_];rfl
   rw [e2] at hin
   exact cT (x:=c) rfl (Ar (bY hin))) (by refine rA (ij _ _) ?_;exact aa (by decide))
 unfold vv;refine rA (jA hcm) ?_;refine rA e ?_;rfl
theorem st1(x:c_)(cs:List Int)(μ:List ah):w_ ({x with cells:=some (.d (.list (iL cs)))}).loc μ=some (.next,({x with cells:=some (.d (.list (iL cs))),total:=some (.d (.int cs.sum))}).loc,μ):=by
 unfold w_;exact (bO (Ar rfl)).trans rfl
noncomputable def eB(T:Int):Nat:=((T.fdiv 5).fmod 5).toNat
theorem tY(T:Int):eB T<5:=by
 have h0:0≤(T.fdiv 5).fmod 5:=Fp _ (by decide);have h1:(T.fdiv 5).fmod 5<5:=IX _ (by decide);unfold eB;lia
theorem FV{a c d e f:Nat}:aU [kI a,kI b,kI c,kI d,kI e,kI f] ρ μ=some (.d (.list (nL [a,b,c,d,e,f])),μ):=dJ (ds:=nL [a,b,c,d,e,f]) rfl (aa (by simp [nL]))
theorem st2(x:c_)(T:Int)(μ:List ah):xF ({x with total:=some (.d (.int T))}).loc μ=some (.next,({x with total:=some (.d (.int T)),mates:=some (.d (.list (nL (aH.getD (eB T) []))))}).loc,μ):=by
 have h0:0≤(T.fdiv 5).fmod 5:=Fp _ (by decide);have h1:=tY T;unfold xF;refine (bO (cJ (V:=.d (.list (aH.map λm=>.list (nL m)))) (xs:=aH.map λm=>.list (nL m)) (d:=.list (nL (aH.getD (eB T) []))) (dJ (ds:=aH.map λm=>.list (nL m)) (an FV (an FV (an FV (an FV (an FV bX))))) (aa (by decide))) (jp (T:=T) 5 5 (by decide) (by decide) rfl rfl) rfl h0 ?_ (aa (by decide)))).trans rfl
 show (aH.map λm=>NV (nL m))[eB T]? =_
 generalize eB T=i at h1
 have:i=0∨i=1∨i=2∨i=3∨i=4:=by lia
 rcases this with rfl|rfl|rfl|rfl|rfl<;>rfl
theorem st3(x:c_)(cs:List Int)(T:Int)(m:List Nat)(μ:List ah)(hc:cs.length=6)(hm:m.length=6):∃G:List Fm,bJ G=Ff 0 6∧G.length+g9 T=6∧
  vn ({x with cells:=some (.d (.list (iL cs))),total:=some (.d (.int T)),mates:=some (.d (.list (nL m)))}).loc μ=some (.next,({x with cells:=some (.d (.list (iL cs))),total:=some (.d (.int T)),mates:=some (.d (.list (nL m))),numbers:=some (.d (.list (iL (de m G++[0]))))}).loc,μ):=by
 refine ct (s65 (cs:=cs) (m:=m) (T:=T) (μ:=μ) hc hm) λG h1 h2 h3=>?_;refine (cL G h1 h2 ?_);unfold vn;exact (bO (R_ rfl rfl rfl h3)).trans rfl
noncomputable def GF(T:Int):Nat:=((T.fdiv 13).fmod 5).toNat
def EJ(T:Int):Int:=((GF T:Int)-3)*2^32
noncomputable def jy(T:Int):Nat:=(T.fmod 13).toNat
theorem MH(T:Int):GF T<5:=by
 have h0:0≤(T.fdiv 13).fmod 5:=Fp _ (by decide);have h1:(T.fdiv 13).fmod 5<5:=IX _ (by decide);unfold GF;lia
theorem uJ(T:Int):jy T<13:=by
 have h0:0≤T.fmod 13:=Fp _ (by decide);have h1:T.fmod 13<13:=IX _ (by decide);unfold jy;lia
theorem ur{x:Int}(hf:f ρ μ=some (.d (.int x),μ))(hg:g ρ μ=some (.d (.int y),μ))(h:y.natAbs<2^64):aj f g l9 ρ μ=some (.d (.int (x*y)),μ):=by
 exact rF hf hg ((bU (rfl:jM (.d (.int y))=some y)).trans ((oX (rfl:jM (.d (.int x))=some x) rfl).trans (if_pos (.inr h))))
theorem kq{y:Nat}(hg:g ρ μ=some (.d (.int y),μ))(h:y≤1000):aj (kI 2) g (aS gu) ρ μ=some (.d (.int (2^y)),μ):=by
 refine cW (x:=2) rfl hg ?_;unfold gu;refine rA (if_pos (fu (by lia) (by lia) (by decide))) ?_;rfl
theorem st4(x:c_)(T:Int)(μ:List ah):xB ({x with total:=some (.d (.int T))}).loc μ=some (.next,({x with total:=some (.d (.int T)),low:=some (.d (.int (jy T))),far:=some (.d (.int (EJ T)))}).loc,μ):=by
 let ρ:=({x with total:=some (.d (.int T))}:c_).loc
 have h1:aj (a9 2) (kI 13) (aS cu) ρ μ=some (.d (.int (jy T)),μ):=by
  have:T.fmod 13=(jy T:Int):=(LN (Fp _ (by decide))).symm
  refine rB this ?_;exact cW (x:=T) (y:=13) rfl rfl (fk (by decide))
 have h2:aj (aj (aj (aj (a9 2) (kI 13) (aS cQ)) (kI 5) (aS cu)) (kI 3) (aS λx y=>some (x-y))) (aj (kI 2) (kI 32) (aS gu)) l9 ρ μ=some (.d (.int (EJ T)),μ):=by
  have e:(T.fdiv 13).fmod 5=(GF T:Int):=(LN (Fp _ (by decide))).symm;have a:=jp (f:=a9 2) (g:=kI 5) (ρ:=ρ) (μ:=μ) (T:=T) 13 5 (by decide) (by decide) rfl rfl;rw [e] at a
  exact ur (jW a (rfl:kI 3 _ _=some (.d (.int 3),_))) (kq (y:=32) rfl (by decide)) (by decide)
 have ht:=d8 (ds:=[.int (jy T),.int (EJ T)]) (an h1 (an h2 bX)) (aa (xM rfl));unfold xB;refine (?_:xu 5 6 _ ρ μ=_);exact CH ht
noncomputable def nf(G:List Fm):Nat:=((eM G 0).filter (·.par)).length
theorem ug(m:List Nat):∀ (F:Fm) (n:Nat),((F.pre m).filter λx=>x==274).length=((gr F n).2.filter (·.par)).length
 | .at i,n=>by
  have:=gI m i
  simp only [Fm.pre,K6]
  rcases this with q|q<;>rw [q]<;>rfl
 | .bin p l r,n=>by
  have h1:=ug m l n;have h2:=ug m r (n+(gr l n).2.length);cases p
  ·simp only [Fm.pre,zZ,L4,be]
   simp [h1,h2]
  ·simp only [Fm.pre,zZ,L4,be]
   simp [h1,h2]
theorem wZ(m:List Nat):∀ (G:List Fm) (n:Nat),((de m G).filter λx=>x==274).length=((eM G n).filter (·.par)).length
 | [],_=>rfl
 |F::G,n=>by
  refine rA (jj _ _ _) ?_;rw [ti];refine rA (L4 _ _) ?_;refine rA (L4 _ _) ?_;refine rA be ?_;refine rA be ?_;refine rA (ug m F n) ?_;rw [wZ m G]
def rP(G:List Fm)(T:Int):Int:=(2^nf G-1)*2^jy T+2^31
theorem FQ(h:n≤40):((2:Int)^n).natAbs<2^64:=by
 refine rA (Int.natAbs_pow _ _) ?_;exact Nat.pow_lt_pow_right (by decide) (by lia)
theorem st5(x:c_)(T:Int)(m:List Nat)(G:List Fm)(μ:List ah)(hG:(de m G).length≤100)(hn:nf G≤100):vx ({x with numbers:=some (.d (.list (iL (de m G++[0])))),low:=some (.d (.int (jy T)))}).loc μ=some (.next,({x with numbers:=some (.d (.list (iL (de m G++[0])))),low:=some (.d (.int (jy T))),great:=some (.d (.int (rP G T)))}).loc,μ):=by
 let ρ:=({x with numbers:=some (.d (.list (iL (de m G++[0])))),low:=some (.d (.int (jy T)))}:c_).loc
 have hlow:=uJ T;have hcm:=jd (sc:=tZ) (itf:=aK false (a9 4)) (t:=bA (a9 31) (kI 274) dK) (e:=a9 31) (ρ:=ρ) (μ:=μ) 31 (λx=>match x with| .int y=>y==274|_=>false) id (d9 (V:=.d (.list (iL (de m G++[0])))) rfl rfl) (az _ _) (λy hy=>by
  refine au (DT.mp hy) λz zz zq2=>?_;subst zq2;exact o4 (x:=z) (y:=274) rfl rfl) (λzz zz zz=>rfl) (by refine rA (xO _) ?_;refine rA be ?_;exact aa (by simp;lia))
 have hlen:=gG (f:=ce tZ (aK false (a9 4)) (dz 31) (cX (bA (a9 31) (kI 274) dK) (aY (a9 31)))) (bY hcm) rfl (by
  refine rA (xO _) ?_;refine aa (L3 (Hf ..) ?_);refine rA (xO _) ?_;refine rA be ?_;simp;lia)
 have hcount:(((iL (de m G++[0])).filter (λx=>match x with| .int y=>y==274|_=>false)).map id).length=nf G:=by
  refine rA (xO _) ?_;rw [iL];refine rA OD ?_;refine rA (xO _) ?_;have e:((λx=>match x with|F8 y=>y==274|_=>false)∘F8)= λy=>y==274:=rfl;refine rA e ?_;refine rA (L4 _ _) ?_;refine rA be ?_;refine rA (wZ m G 0) ?_;rfl
 rw [hcount] at hlen
 have h1:=jW (kq hlen (by lia)) (rfl:kI 1 _ _=some (.d (.int 1),_));have h2:aj (kI 2) (a9 5) (aS gu) ρ μ=some (.d (.int (2^jy T)),μ):=kq rfl (by lia);have h3:=cT (ur h1 h2 (FQ (by lia))) (kq (g:=kI 31) (y:=31) (ρ:=ρ) (μ:=μ) rfl (by decide));unfold vx;exact (bO h3).trans rfl
noncomputable def s_(cs:List Int)(T:Int)(ns:List Int):List Int:=mk T 0 (gq cs 0 ns++[64+T.fmod 64])
theorem st6(x:c_)(cs N:List Int)(T g:Int)(μ:List ah)(hc:cs.length=6)(hN:N.length≤100):vU ({x with cells:=some (.d (.list (iL cs))),total:=some (.d (.int T)),numbers:=some (.d (.list (iL N))),great:=some (.d (.int g))}).loc μ=
  some (.next,({x with cells:=some (.d (.list (iL cs))),total:=some (.d (.int T)),numbers:=some (.d (.list (iL N))),great:=some (.d (.int g)),tape:=some (.c μ.length)}).loc,μ++[.iter (iL (s_ cs T (N++[g])))]):=by
 let ρ:=({x with cells:=some (.d (.list (iL cs))),total:=some (.d (.int T)),numbers:=some (.d (.list (iL N))),great:=some (.d (.int g))}:c_).loc
 have h1:aj (a9 4) (aU [a9 7]) aT ρ μ=some (.d (.list (iL (N++[g]))),μ):=by
  refine rB (lI _ _) ?_;exact cU (f:=a9 4) (xs:=iL N) (ys:=iL [g]) rfl (kt rfl) rfl rfl (aa (by refine rA (xO _) ?_;refine rA (xO _) ?_;simp;lia))
 have h2:=R_ (g:=a9 1) (h:=a9 2) (ρ:=ρ) h1 rfl rfl (s66 (ns:=N++[g]) (cs:=cs) (T:=T) (μ:=μ) hc (by simp;lia));unfold vU;exact (bO (d6 h2 rfl)).trans rfl
theorem st7(x:c_)(μ:List ah):wu x.loc μ=some (.next,({x with told:=some (.c μ.length)}).loc,μ++[.live []]):=by
 unfold wu;exact (bO vD).trans rfl
theorem oq(m:List Nat):∀ (F:Fm),∀n∈F.pre m,n∈oA
 | .at i,n,h=>by
  simp only [Fm.pre,Aq] at h
  subst h
  rcases gI m i with q|q<;>rw [q]<;>decide
 | .bin p l r,n,h=>by
  simp only [Fm.pre,Cc,AE] at h
  rcases h with q|q|q
  ·subst q;cases p<;>decide
  ·exact oq m l n q
  ·exact oq m r n q
theorem Mo(m:List Nat)(G:List Fm):∀n∈de m G,n∈oA:= λn h=>by
 refine au (Lm.mp h) λF zz hF=>?_;exact oq m F n hF
theorem J0{f:Nat}(hf:f≤5)(hl:low<13):((2:Int)^f-1)*2^low+2^31∈oA:=by
 unfold oA;refine CR _ (Lm.mpr (aZ f (D3.mpr (by lia)) (DT.mpr ⟨low,D3.mpr hl,rfl⟩)))
theorem yV{T:Int}{G:List Fm}(hn:nf G≤5):∃os1 p',xW (s_ cs T (de m G++[0]++[rP G T])) (de m G++[0]) os1∧rd os1=some (rP G T,mk T p' [64+T.fmod 64]):=by
 obtain ⟨p',h⟩:=wH T cs [64+T.fmod 64] (de m G++[0]++[rP G T]) 0 0 (λn hn'=>by
  simp only [AE,Aq] at hn'
  rcases hn' with (q|q)|q
  ·exact Mo m G n q
  ·subst q;decide
  ·subst q;exact J0 hn (uJ T))
 refine au (xW.split h) λos1 h1 h2=>?_;cases h2 with
 |cons e h2=>
 cases h2;exact (fO os1 p' h1 e)
theorem E1{T:Int}(h1:a9 2 ρ μ=some (.d (.int T),μ)):aF (aU [(kI 2),(kI 2),(kI 3),(kI 4)]) (aj (aj (a9 2) (kI 25) (aS cQ)) (kI 4) (aS cu)) ρ μ=some (.d (.int ((7-g9 T:Nat):Int)),μ):=by
 have h0:0≤(T.fdiv 25).fmod 4:=Fp _ (by decide);have h4:(T.fdiv 25).fmod 4<4:=IX _ (by decide);refine cJ (V:=.d (.list [.int 2,.int 2,.int 3,.int 4])) (dJ (ds:=[.int 2,.int 2,.int 3,.int 4]) rfl (aa (xM rfl))) (jp 25 4 (by decide) (by decide) h1 rfl) rfl h0 ?_ (aa (xM rfl));unfold g9;generalize (T.fdiv 25).fmod 4=x at*
 have:x=0∨x=1∨x=2∨x=3:=by lia
 rcases this with rfl|rfl|rfl|rfl<;>rfl
noncomputable def iA(os td:List Int):List ah:=[.iter (iL os),.live (iL td)]
theorem st8(x:c_)(T:Int)(m:List Nat)(G:List Fm)(os os1:List Int)(hG:bJ G=Ff 0 6)(ht:G.length+g9 T=6)(h:xW os (de m G++[0]) os1):Ci ({x with total:=some (.d (.int T)),tape:=some (.c 0),told:=some (.c 1)}).loc (iA os [])=
  some (.next,({x with total:=some (.d (.int T)),tape:=some (.c 0),told:=some (.c 1),read:=some (.d (.list (bi m G++[Jy []])))}).loc,iA os1 (de m G++[0])):=by
 let ρ:=({x with total:=some (.d (.int T)),tape:=some (.c 0),told:=some (.c 1)}:c_).loc
 have h6:(bJ G).length=6:=by refine rA hG ?_;rfl
 have ht5:=mw T;have hi:aK false (af [(aF (aU [(kI 2),(kI 2),(kI 3),(kI 4)]) (aj (aj (a9 2) (kI 25) (aS cQ)) (kI 4) (aS cu)))] cH) ρ (iA os [])=some ((zt (7-g9 T-0)).map λ(i:Nat)=>F8 ((0+i:Nat):Int),none,iA os []):=
  qQ (d6 (E1 rfl) rfl) (by decide) (by lia)
 obtain ⟨w',e⟩:=ta (m:=m) (μ:=[.iter [],.live []]) (i:=0) (j:=1) (by decide) (by decide) (by decide) (ρ0:=ρ++[none]) (e:=af [a9 8,a9 9] aC) (λw μ'=>by
   have:af [a9 8,a9 9] aC ((ρ++[none]).set 31 w) μ'=aC [.c 0,.c 1] μ':=rfl
   refine rA this ?_;rfl) ((zt (7-g9 T-0)).map λ(i:Nat)=>F8 ((0+i:Nat):Int)) os1 G ((zt (7-g9 T-0)).map λ(i:Nat)=>F8 ((0+i:Nat):Int)) none os [] [] (by simp;lia) h (by refine rA hG ?_;rfl) (by lia) (by simp;lia) (by simp;lia)
 have hcm:fj yi (aK false (af [(aF (aU [(kI 2),(kI 2),(kI 3),(kI 4)]) (aj (aj (a9 2) (kI 25) (aS cQ)) (kI 4) (aS cu)))] cH)) (dz 31) (cX bg (aY (af [(a9 8),(a9 9)] aC))) ρ (iA os [])=some (bi m G++[.tuple []],iA os1 (de m G++[0])):=by
  have e':=e;simp only [Ls] at e'
  rw [show gX [.iter [],.live []] 0 1 os []=iA os [] from rfl] at e'
  exact qf hi e'
 exact jA hcm
theorem Ij(hf:f ρ μ=some (.d (.list xs),μ1))(hg:g ρ μ1=some (.d (.list ys),μ2))(hz:xs.length+ys.length≤sizeLine):aj f g aT ρ μ=some (.d (.list (xs++ys)),μ2):=by
 exact rF hf hg ((eZ (rfl:jM (.d (.list xs))=none)).trans ((eZ (rfl:lS (.d (.list xs))=none)).trans ((bU (rfl:dc μ2 (.d (.list xs))=some _)).trans ((bU (rfl:dc μ2 (.d (.list ys))=some _)).trans (if_pos hz)))))
theorem W8(T:Int)(p:Nat)(o:Int):∃b,mk T p [o]=[b]∧(b=o∨b=o+128):=by
 simp only [mk]
 split
 ·exact (aZ _ rfl (.inr rfl))
 ·exact (aZ _ rfl (.inl rfl))
theorem st9(x:c_)(T g:Int)(p:Nat)(os1 td:List Int)(h:rd os1=some (g,mk T p [64+T.fmod 64])):xg ({x with tape:=some (.c 0)}).loc (iA os1 td)=some (.next,({x with tape:=some (.c 0),beyond:=some (.d (.list (iL [g])))}).loc,iA [] td):=by
 let ρ:=({x with tape:=some (.c 0)}:c_).loc
 refine au (W8 T p (64+T.fmod 64)) λb hb hb2=>?_;rw [hb] at h
 have h0:0≤T.fmod 64:=Fp _ (by decide);have h1:T.fmod 64<64:=IX _ (by decide);have c1:af [a9 8] cP ρ (iA os1 td)=some (.d (.list [.int g]),iA [b] td):=d6 (V:=.c 0) rfl (zn rfl h);have c2:af [a9 8] cP ρ (iA [b] td)=some (.d (.list []),iA [] td):=d6 (V:=.c 0) rfl (AA (b:=b) rfl (by lia) (by lia) hb2);have c3:af [a9 8] cP ρ (iA [] td)=some (.d (.list []),iA [] td):=d6 (V:=.c 0) rfl (yR rfl);unfold xg;exact (bO (Ij (Ij c1 c2 (aa (xM rfl))) c3 (aa (xM rfl)))).trans rfl
noncomputable def qk(N:List Int)(g:Int):List PyData:=[.tuple [.list (iL N),.list (iL N)],.tuple [.list (iL [g]),.list (iL [g])]]
noncomputable def II(N:List Int)(X:List PyData):List ah:=[.iter [],.frozen (iL N),.live X]
theorem Vk(hf:f ρ μ=some (.c j,μ))(hg:g ρ μ=some (.d d,μ))(hc:μ[j]? =some (.live xs)):cY [f,g] ρ μ=some (.d (.tuple [.list xs,d]),μ.set j (.frozen xs)):=by
 exact Fz (zc hf hg) (fJ (rx hc) (fJ rfl rfl)) (aa (xM rfl))
theorem aa1(h:e_ fs ρ μ=some (ds.map .d,μ1))(hz:ds.length≤sizeLine):n0 fs ρ μ=some (.c μ1.length,μ1++[.live ds]):=by
 exact HY h (t_ ds) hz
theorem ap9(x:c_)(N:List Int)(g:Int):rn ({x with numbers:=some (.d (.list (iL N))),great:=some (.d (.int g)),told:=some (.c 1),beyond:=some (.d (.list (iL [g])))}).loc (iA [] N)=
  some (.next,({x with numbers:=some (.d (.list (iL N))),great:=some (.d (.int g)),told:=some (.c 1),beyond:=some (.d (.list (iL [g]))),asked:=some (.c 2)}).loc,II N (qk N g)):=by
 let ρ:=({x with numbers:=some (.d (.list (iL N))),great:=some (.d (.int g)),told:=some (.c 1),beyond:=some (.d (.list (iL [g])))}:c_).loc
 have h1:cY [(a9 9),(a9 4)] ρ (iA [] N)=some (.d (.tuple [.list (iL N),.list (iL N)]),[.iter [],.frozen (iL N)]):=Vk (j:=1) rfl rfl rfl;have h2:cY [(a9 11),(aU [(a9 7)])] ρ [.iter [],.frozen (iL N)]=some (.d (.tuple [.list (iL [g]),.list (iL [g])]),[.iter [],.frozen (iL N)]):=d8 (ds:=[.list (iL [g]),.list (iL [g])]) (an rfl (an (kt rfl) bX)) (aa (xM rfl));unfold rn;exact (bO (aa1 (ds:=qk N g) (an h1 (an h2 bX)) (aa (by simp [qk])))).trans rfl
theorem oc(h0:a9 12 ρ μ=some (.c 2,μ))(hf:f ρ μ=some (.d d,μ))(hc:μ[2]? =some (.live X))(hz:X.length≤100000):cj (eh (a9 12) f) ρ μ=some (.next,ρ,μ.set 2 (.live (X++[d]))):=
 er (gj h0 hf hc (aa hz))
noncomputable def zp(N:List Int)(g T:Int):List Int:=N++[g]++[255,256,-256,T-2000]
noncomputable def uH(s:Int):List PyData:=[.bool true,.bool false,.bool true,.bool true,.bool true,.bool (decide (s<256)),.bool (decide (256≤s)),.bool (s==0)]
def y0(s:Int):PyData:=.tuple [.list (uH s),.list (uH s)]
theorem Hj(s:Int):Good (y0 s):=dU (n:=1) (gJ λx hx=>by
 simp only [uH,Cc,Er,or_false] at hx
 rcases hx with rfl|rfl|rfl|rfl|rfl|rfl|rfl|rfl<;>exact jk) (by decide)
noncomputable def mm(s:Int):List PyData:=[.bool (decide (s<256)),.bool (decide (256≤s)),.bool (s==0)]
theorem AJ(s:Int):s.fdiv 256=s/256:=Int.fdiv_eq_ediv_of_nonneg _ (by decide)
theorem IB(x:c_)(s:Int)(X:List PyData)(μ:List ah)(sy te:Option AV)(hc:μ[2]? =some (.live X))(hz:X.length≤10000):
  (ap (cb 14 (aU [(af [(a9 13)] co),(af [(a9 13)] bR),(af [(a9 13)] fy)])) (ap (cj (eh (a9 12) (cY [(aj (aj (aU [(af [(a9 13),(kT "int")] gA)]) (ce ox (aK false (aj (aU [(a9 13)]) (a9 14) aT)) (dz 31) (cX bg (aY (af [(a9 31),(kT "bool")] gA)))) aT) (a9 14) aT),(aU [(kB true),(kB false),(kB true),(kB true),(kB true),(d_ (aj (a9 13) (kI 256) (aS cQ)) (kI 1) (eg λx y=>decide (x<y))),(d_ (aj (a9 13) (kI 256) (aS cQ)) (kI 0) (eg λx y=>decide (y<x))),(zj (a9 13))])]))) aP)) ({x with asked:=some (.c 2),symbol:=some (.d (.int s)),tests:=te}).loc μ=
   some (.next,({x with asked:=some (.c 2),symbol:=some (.d (.int s)),tests:=some (.d (.list (mm s)))}).loc,μ.set 2 (.live (X++[y0 s]))):=by
 have h1:aU [(af [(a9 13)] co),(af [(a9 13)] bR),(af [(a9 13)] fy)] ({x with asked:=some (.c 2),symbol:=some (.d (.int s)),tests:=te}:c_).loc μ=some (.d (.list (mm s)),μ):=
  dJ (ds:=mm s) (an (d6 rfl s61) (an (d6 rfl s62) (an (d6 rfl s63) bX))) (aa (by simp [mm]))
 let ρ:=({x with asked:=some (.c 2),symbol:=some (.d (.int s)),tests:=some (.d (.list (mm s)))}:c_).loc
 have hcm:=ic (sc:=ox) (itf:=aK false (aj (aU [(a9 13)]) (a9 14) aT)) (e:=af [(a9 31),(kT "bool")] gA) (ρ:=ρ) (μ:=μ) (g:=none) (xs:=.int s::mm s) 31 (λx=>match x with| .bool _=>.bool true|_=>.bool false) (d9 (V:=.d (.list (.int s::mm s))) (cU (xs:=[.int s]) (ys:=mm s) (kt rfl) rfl rfl rfl (aa (by simp [mm]))) rfl) (az _ _) (λy hy=>by
  simp only [mm,Cc,Er,or_false] at hy
  rcases hy with rfl|rfl|rfl|rfl<;>exact iR rfl rfl rfl) (aa (by simp [mm]))
 have h2:aj (aj (aU [(af [(a9 13),(kT "int")] gA)]) (ce ox (aK false (aj (aU [(a9 13)]) (a9 14) aT)) (dz 31) (cX bg (aY (af [(a9 31),(kT "bool")] gA)))) aT) (a9 14) aT ρ μ=some (.d (.list (uH s)),μ):=
  cU (V:=.d (.list [.bool true,.bool false,.bool true,.bool true,.bool true])) (xs:=[.bool true,.bool false,.bool true,.bool true,.bool true]) (ys:=mm s) (cU (xs:=[.bool true]) (ys:=[.bool false,.bool true,.bool true,.bool true]) (kt (iR rfl rfl rfl)) (bY hcm) rfl rfl (aa (xM rfl))) rfl rfl rfl (aa (by simp [mm]))
 have hq:aj (a9 13) (kI 256) (aS cQ) ρ μ=some (.d (.int (s.fdiv 256)),μ):=cW rfl rfl (l6 (by decide));have e1:d_ (aj (a9 13) (kI 256) (aS cQ)) (kI 1) (eg λx y=>decide (x<y)) ρ μ=some (.d (.bool (decide (s<256))),μ):=by
  refine (hH (W:=.d (.int 1)) hq rfl rfl).trans ?_;refine rA (AJ _) ?_
  congr 4
  exact decide_eq_decide.mpr (by omega)
 have e2:d_ (aj (a9 13) (kI 256) (aS cQ)) (kI 0) (eg λx y=>decide (y<x)) ρ μ=some (.d (.bool (decide (256≤s))),μ):=by
  refine (hH (W:=.d (.int 0)) hq rfl rfl).trans ?_;refine rA (AJ _) ?_
  congr 4
  exact decide_eq_decide.mpr (by omega)
 have e3:zj (a9 13) ρ μ=some (.d (.bool (s==0)),μ):=by
  have:zj (a9 13) ρ μ=some (.d (.bool (!(s != 0))),μ):=rfl
  refine rA this ?_
  simp [bne]
 have l3:aU [(kB true),(kB false),(kB true),(kB true),(kB true),(d_ (aj (a9 13) (kI 256) (aS cQ)) (kI 1) (eg λx y=>decide (x<y))),(d_ (aj (a9 13) (kI 256) (aS cQ)) (kI 0) (eg λx y=>decide (y<x))),(zj (a9 13))] ρ μ=some (.d (.list (uH s)),μ):=
  dJ (ds:=uH s) (an rfl (an rfl (an rfl (an rfl (an rfl (an e1 (an e2 (an e3 bX)))))))) (aa (by simp [uH]))
 have h3:=d8 (ds:=[.list (uH s),.list (uH s)]) (an h2 (an l3 bX)) (aa (xM rfl));refine (aB (bO h1)).trans ?_;exact (aB (oc rfl h3 hc (by omega))).trans bK
theorem vh(x:c_)(xs:List PyData):∀ (r:List Int) (X:List PyData) (μ:List ah) (sy te:Option AV),μ[2]? =some (.live X)→X.length+r.length≤10000→∃sy' te',
  fR (dz 13) (ap (cb 14 (aU [(af [(a9 13)] co),(af [(a9 13)] bR),(af [(a9 13)] fy)])) (ap (cj (eh (a9 12) (cY [(aj (aj (aU [(af [(a9 13),(kT "int")] gA)]) (ce ox (aK false (aj (aU [(a9 13)]) (a9 14) aT)) (dz 31) (cX bg (aY (af [(a9 31),(kT "bool")] gA)))) aT) (a9 14) aT),(aU [(kB true),(kB false),(kB true),(kB true),(kB true),(d_ (aj (a9 13) (kI 256) (aS cQ)) (kI 1) (eg λx y=>decide (x<y))),(d_ (aj (a9 13) (kI 256) (aS cQ)) (kI 0) (eg λx y=>decide (y<x))),(zj (a9 13))])]))) aP)) aP none xs (iL r) ({x with asked:=some (.c 2),symbol:=sy,tests:=te}).loc μ=
   some (.next,({x with asked:=some (.c 2),symbol:=sy',tests:=te'}).loc,μ.set 2 (.live (X++r.map y0)))
 | [],X,μ,sy,te,hc,_=>(jN sy te (by
  refine rA M3 ?_;refine rA (DO _) ?_;refine rA (eK hc) ?_;rfl))
 |s::r,X,μ,sy,te,hc,hz=>by
  simp only [AH] at hz
  have hlt:2<μ.length:=(BW.mp hc).1;refine lP (vh x xs r (X++[y0 s]) (μ.set 2 (.live (X++[y0 s]))) (some (.d (.int s))) (some (.d (.list (mm s)))) (cB hlt) (by simp;lia)) λsy' te' e=>?_;refine (jN sy' te' ?_);refine (dP (ρ1:=({x with asked:=some (.c 2),symbol:=some (.d (.int s)),tests:=te}:c_).loc) rfl (IB x s X μ sy te hc (by lia)) (az _ _)).trans (e.trans ?_)
  simp [HA]
theorem am2(x:c_)(N:List Int)(g T:Int)(X:List PyData)(μ:List ah)(hN:N.length≤100)(h1:dc μ (.c 1)=some (iL N))(hc:μ[2]? =some (.live X))(hz:X.length≤1000):∃sy te,
  rg ({x with total:=some (.d (.int T)),told:=some (.c 1),beyond:=some (.d (.list (iL [g]))),asked:=some (.c 2)}).loc μ=
   some (.next,({x with total:=some (.d (.int T)),told:=some (.c 1),beyond:=some (.d (.list (iL [g]))),asked:=some (.c 2),symbol:=sy,tests:=te}).loc,μ.set 2 (.live (X++(zp N g T).map y0))):=by
 let ρ:=({x with total:=some (.d (.int T)),told:=some (.c 1),beyond:=some (.d (.list (iL [g]))),asked:=some (.c 2)}:c_).loc
 have a1:aj (a9 9) (a9 11) aT ρ μ=some (.d (.list (iL (N++[g]))),μ):=by
  refine rB (lI _ _) ?_;exact cU (V:=.c 1) (xs:=iL N) (ys:=iL [g]) rfl rfl h1 rfl (aa (by refine rA (xO _) ?_;simp;lia))
 have a2:aU [(kI 255),(kI 256),(jr (kI 256)),(aj (a9 2) (kI 2000) (aS λx y=>some (x-y)))] ρ μ=some (.d (.list (iL [255,256,-256,T-2000])),μ):=
  dJ (ds:=iL [255,256,-256,T-2000]) (an rfl (an rfl (an rfl (an (jW (x:=T) (y:=2000) rfl rfl) bX)))) (aa (xM rfl))
 have a3:=cU a1 a2 rfl rfl (aa (by refine rA (xO _) ?_;refine rA (xO _) ?_;simp;lia));rw [lI] at a3
 refine lP (vh ({x with total:=some (.d (.int T)),told:=some (.c 1),beyond:=some (.d (.list (iL [g])))}) (iL (zp N g T)) (zp N g T) X μ x.symbol x.tests hc (by simp [zp];lia)) λsy te e=>?_;refine (jN sy te ?_);unfold rg;refine rA (gM (d9 (V:=.d (.list (iL (zp N g T)))) a3 rfl)) ?_;exact e
noncomputable def uW(m:List Nat)(cs:List Int):List U:=units m cs false (zt 6)++[[92]]
noncomputable def vW(m:List Nat)(cs:List Int):List U:=units m cs true (zt 6)
noncomputable def xT(m:List Nat)(cs:List Int):List Nat:=(units m cs false (zt 6)).flatten
noncomputable def vT(m:List Nat)(cs:List Int):List Nat:=(vW m cs).flatten
theorem rO(m:List Nat)(cs:List Int):(xT m cs).length≤60:=(gv m cs false (zt 6)).1
theorem Kn(m:List Nat)(cs:List Int):(vT m cs).length≤60:=(gv m cs true (zt 6)).1
theorem su(m:List Nat)(cs:List Int)(sh:Bool):(units m cs sh (zt 6)).length≤30:=i6 m cs sh (zt 6)
theorem ar1(x:c_)(m:List Nat)(cs:List Int)(μ:List ah)(hm:m.length=6)(hc:cs.length=6):nS ({x with cells:=some (.d (.list (iL cs))),mates:=some (.d (.list (nL m)))}).loc μ=
  some (.next,({x with cells:=some (.d (.list (iL cs))),mates:=some (.d (.list (nL m))),units:=some (.d (.list (uL (uW m cs))))}).loc,μ):=by
 let ρ:=({x with cells:=some (.d (.list (iL cs))),mates:=some (.d (.list (nL m)))}:c_).loc
 have hl:=su m cs false;have h1:af [(af [(kI 6)] cH),(a9 3),(a9 1),(kB false)] bB ρ μ=some (.d (.list (uL (units m cs false (zt 6)))),μ):=
  sR (V:=.rng 0 6) (V':=.d (.list (nL m))) (V'':=.d (.list (iL cs))) (V3:=.d (.bool false)) rfl rfl rfl rfl (Ri hm hc)
 have h2:aU [kS "\\"] ρ μ=some (.d (.list (uL [[92]])),μ):=kt rfl;have h3:=cU h1 h2 rfl rfl (aa (by simp [uL];lia));rw [show uL (units m cs false (zt 6))++uL [[92]]=uL (uW m cs) by simp [uL,uW]] at h3
 unfold nS;exact (bO h3).trans rfl
theorem Cs{X:Type}(xs:List X)(a:X):fA (xs++[a]) none (some (-1))=xs:=by
 have:clipAt (xs++[a]).length (-1)=xs.length:=by
  unfold clipAt
  simp
  lia
 simp only [fA,SQ,this,SG,Sd]
 simp
theorem TD(a b:List U):uL (a++b)=uL a++uL b:=by simp [uL]
theorem ab4:aL (jr (kI 1)) ρ μ=some (some (-1),μ):=dF rfl
theorem ap0(x:c_)(m:List Nat)(cs:List Int)(μ:List ah):nJ ({x with units:=some (.d (.list (uL (uW m cs))))}).loc μ=
  some (.next,({x with units:=some (.d (.list (uL (uW m cs)))),text:=some (.d (.str (tS (xT m cs))))}).loc,μ):=by
 let ρ:=({x with units:=some (.d (.list (uL (uW m cs))))}:c_).loc
 have hl:=su m cs false;have hx:=rO m cs;have h1:ci (a9 15) ba (aL (jr (kI 1))) ρ μ=some (.d (.list (uL (units m cs false (zt 6)))),μ):=by
  have:=fg (f:=a9 15) (p:=ba) (q:=aL (jr (kI 1))) (ρ:=ρ) (μ:=μ) (xs:=uL (uW m cs)) (lo:=none) (hi:=some (-1)) rfl rfl ab4 (aa (by simp [uL,uW];lia))
  refine rA this ?_;rw [uW];refine rA (TD _ _) ?_;exact congrArg (λl=>some (AV.d (.list l),μ)) (Cs _ _)
 unfold nJ;exact (bO (mu h1 rfl (by unfold xT at hx;lia))).trans rfl
theorem ap7(x:c_)(m:List Nat)(cs:List Int)(μ:List ah)(hm:m.length=6)(hc:cs.length=6):o0 ({x with cells:=some (.d (.list (iL cs))),mates:=some (.d (.list (nL m)))}).loc μ=
  some (.next,({x with cells:=some (.d (.list (iL cs))),mates:=some (.d (.list (nL m))),shorn:=some (.d (.str (tS (vT m cs))))}).loc,μ):=by
 let ρ:=({x with cells:=some (.d (.list (iL cs))),mates:=some (.d (.list (nL m)))}:c_).loc
 have hx:=Kn m cs;have h1:af [(af [(kI 6)] cH),(a9 3),(a9 1),(kB true)] bB ρ μ=some (.d (.list (uL (vW m cs))),μ):=
  sR (V:=.rng 0 6) (V':=.d (.list (nL m))) (V'':=.d (.list (iL cs))) (V3:=.d (.bool true)) rfl rfl rfl rfl (Ri hm hc)
 unfold o0;exact (bO (mu h1 rfl (by unfold vT at hx;lia))).trans rfl
theorem ml{a b:List Nat}(hf:f ρ μ=some (.d (.str (tS a)),μ))(hg:g ρ μ=some (.d (.str (tS b)),μ))(hz:a.length+b.length≤100000):aj f g aT ρ μ=some (.d (.str (tS (a++b))),μ):=by
 refine rF hf hg ((eZ (rfl:jM (.d (.str (tS a)))=none)).trans ((oX (rfl:lS (.d (.str (tS a)))=some _) (rfl:lS (.d (.str (tS b)))=some _)).trans ((if_pos (by rw [eC,eC];exact aa hz)).trans (congrArg (λz=>some (AV.d (.str z),μ)) ?_))));apply Ve;refine rA (P9 _ _) ?_
 simp [tS]
theorem Kc{spec:iW}{g:Option Nat}(h:b_ fs spec ρ μ=some (xs,g,μ1))(hz:xs.length≤sizeLine):yK fs spec ρ μ=some (.d (.list xs),μ1):=by
 exact aD h λVs μ2 e1 h=>(b5 e1).trans ((b5 h).trans (if_pos hz))
theorem U0{a:List Nat}(hf:f ρ μ=some (.d (.str (tS a)),μ))(hz:a.length≤100000):af [f] dC ρ μ=some (.d (.int a.length),μ):=by
 refine d6 hf ?_;exact (len_str (by rw [eC];exact aa hz)).trans (by rw [eC])
theorem v4:∀ (us:List U) (k:Nat),(lf k us).length=us.length
 | [],_=>rfl
 |u::us,k=>by simp [lf,v4 us]
noncomputable def HB(us:List U):PyData→PyData
 | .tuple [.int k,u]=>.tuple [.int (((us.take (k.toNat+1)).flatten.length:Int)-1),u]
 |x=>x
theorem JM{us:List U}{u:PyData}:HB us (.tuple [.int k,u])=.tuple [.int (((us.take (k+1)).flatten.length:Int)-1),u]:=rfl
theorem BB:∀ (us pre:List U),(cN pre.length (uL us)).map (HB (pre++us))=lf pre.flatten.length us
 | [],pre=>rfl
 |u::us,pre=>by
  have ih:=BB us (pre++[u]);rw [be,Eu,LM,be] at ih
  simp only [AH,EZ,S7,GA,LX,DO,LC] at ih
  refine (?_:HB (pre++u::us) (.tuple [.int (pre.length:Nat),uS u])::(cN (pre.length+1) (uL us)).map (HB (pre++u::us))=_);refine rA ih ?_;rw [lf]
  congr 1
  have ht:(pre++u::us).take (pre.length+1)=pre++[u]:=by
   refine rA List.take_append ?_;refine rA (Fn (by lia)) ?_
   simp
  simp only [JM,ht,LM,be,GA,LX,DO]
theorem sG:∀ (us:List U) (k:Nat) {x:PyData},x∈cN k (uL us)→∃ (i:Nat) (u:U),i<us.length∧x=.tuple [.int ((k+i:Nat):Int),uS u]
 | [],_,_,h=>by cases h
 |u::us,k,x,h=>by
  rcases Cc.mp h with rfl|h
  ·exact (fO 0 u (by simp) rfl)
  ·refine jS (sG us (k+1) h) λi v hi e=>?_
   refine (fO (i+1) v (by simp;lia) ?_);refine rA e ?_;exact rA (show k+1+i=k+(i+1) by lia) rfl
theorem ZI(m:List Nat)(cs:List Int):WF (uW m cs):=(dy _ ([[92]]) rfl (mh m cs false (zt 6)) (.inr rfl))
theorem Cd(m:List Nat)(cs:List Int):(uW m cs).flatten=xT m cs++[92]:=by simp [uW,xT]
def Od(m:List Nat)(cs:List Int):PyData:=.list (lf 0 (uW m cs))
theorem am0(m:List Nat)(cs:List Int):∀u∈uW m cs,∀c∈u,c<128:= λu hu c hc=>by
 rcases AE.mp hu with h|h
 ·exact uY m cs false _ u h c hc
 ·simp only [Aq] at h
  subst h;simp only [Aq] at hc
  lia
theorem Ce:∀ (us:List U) (k:Nat),(∀u∈us,∀c∈u,c<128)→∀x∈lf k us,pn 1 x
 | [],_,_,_,h=>by cases h
 |u::us,k,hu,x,h=>by
  rcases Cc.mp h with rfl|h
  ·refine D7 λy hy=>?_
   simp only [Cc,Er,or_false] at hy
   rcases hy with rfl|rfl
   ·exact Cq
   ·exact iz (hu u (by simp))
  ·exact Ce us _ (λv hv=>hu v (by simp [hv])) x h
theorem CQ(us:List U)(k:Nat):(us.take k).flatten.length≤us.flatten.length:=by
 conv=>rhs;rw [←L_ k us]
 rw [LM,be];lia
def mF(m:List Nat)(cs:List Int):PyData:=.tuple [Od m cs,Od m cs]
theorem Iy(m:List Nat)(cs:List Int):Good (mF m cs):=dU (n:=2) (gJ (Ce _ _ (am0 m cs))) (by decide)
theorem al2(x:c_)(m:List Nat)(cs:List Int)(X:List PyData)(μ:List ah)(hc:μ[2]? =some (.live X))(hz:X.length≤1000):nT ({x with asked:=some (.c 2),units:=some (.d (.list (uL (uW m cs)))),text:=some (.d (.str (tS (xT m cs))))}).loc μ=
  some (.next,({x with asked:=some (.c 2),units:=some (.d (.list (uL (uW m cs)))),text:=some (.d (.str (tS (xT m cs))))}).loc,μ.set 2 (.live (X++[mF m cs]))):=by
 let ρ:=({x with asked:=some (.c 2),units:=some (.d (.list (uL (uW m cs)))),text:=some (.d (.str (tS (xT m cs))))}:c_).loc
 have hl:=su m cs false;have hx:=rO m cs;have hwl:(uW m cs).length≤31:=by simp [uW];lia
 have hwf:(uW m cs).flatten.length≤61:=by refine rA (Cd _ _) ?_;simp;lia
 have h1:aj (a9 16) (kS "\\") aT ρ μ=some (.d (.str (tS (uW m cs).flatten)),μ):=by
  refine rA (Cd _ _) ?_;exact ml (b:=[92]) rfl rfl (by simp;lia)
 have h2:=Kc (pj h1 (ZI m cs)) (by refine rA (v4 _ _) ?_;exact aa (by lia));have hcm:=t8 (sc:=uC) (itf:=b_ [(a9 15)] ga) (e:=(cY [(aj (af [(dw (kS "") [(ci (a9 15) ba (aL (aj (a9 31) (kI 1) aT)))] f5)] dC) (kI 1) (aS λx y=>some (x-y))),(a9 32)])) (ρ:=ρ) (μ:=μ) 31 32 (by decide) (HB (uW m cs))
  (jV (V:=.d (.list (uL (uW m cs)))) rfl rfl) (az _ _) (λy hy=>by
   refine jS (sG (uW m cs) 0 hy) λi u hi zq3=>?_;subst zq3;refine (fO _ _ rfl ?_);refine rA (LC _) ?_
   let ρ1:d5:=((bG uC ρ).set 31 (some (.d (.int (i:Int))))).set 32 (some (.d (uS u)))
   have a0:aL (aj (a9 31) (kI 1) aT) ρ1 μ=some (some ((i+1:Nat):Int),μ):=dF (cT (x:=i) (y:=1) rfl rfl);have a1:ci (a9 15) ba (aL (aj (a9 31) (kI 1) aT)) ρ1 μ=some (.d (.list (uL ((uW m cs).take (i+1)))),μ):=by
    have:=fg (f:=a9 15) (p:=ba) (ρ:=ρ1) (μ:=μ) (xs:=uL (uW m cs)) (lo:=none) rfl rfl a0 (aa (by simp [uL];lia))
    refine rA this ?_;refine rA (p0 _ (by simp [uL];lia)) ?_;simp only [uL,Rs]
   have hf:=CQ (uW m cs) (i+1);have a2:=U0 (mu a1 rfl (by lia)) (by lia);have a3:=jW a2 (rfl:kI 1 ρ1 μ=some (.d (.int 1),μ));refine (d8 (ds:=[.int ((((uW m cs).take (i+1)).flatten.length:Int)-1),uS u]) (an a3 (an rfl bX)) (aa (xM rfl))).trans ?_;simp only [JM]) (by refine rA (ij _ _) ?_;exact aa (by simp [uL];lia))
 have e:=BB (uW m cs) [];simp only [EZ,Ls,LX] at e
 rw [e] at hcm
 have h3:=d8 (ds:=[Od m cs,Od m cs]) (an h2 (an (bY hcm) bX)) (aa (xM rfl));unfold nT;exact oc rfl h3 hc (by lia)
theorem YY(m:List Nat)(cs:List Int):WF (units m cs false (zt 6)):=mI m cs false _
theorem GU(m:List Nat)(cs:List Int)(t:List U)(ht:t.all wf=true):WF (units m cs false (zt 6)++t):=(dy _ ([]) ((DO _).symm) (by refine rA Se ?_;refine rA (mh _ _ _ _) ?_;refine rA ht ?_;rfl) (.inl rfl))
def lZ(m:List Nat)(cs:List Int):PyData:=.tuple [.list [.str (tS (vT m cs)),.str (tS (vT m cs++[34,40]))],.list [.str (tS (vT m cs)),.str (tS (vT m cs++[34,40]))]]
theorem Kt(m:List Nat)(cs:List Int):Good (lZ m cs):=dU (n:=1) (gJ λx hx=>by
 have:=Aw m cs true (zt 6)
 simp only [Cc,Er,or_false] at hx
 rcases hx with rfl|rfl
 ·exact iz this
 ·refine iz λc hc=>?_
  rcases AE.mp hc with h|h
  ·exact this c h
  ·simp only [Cc,Er,or_false] at h
   lia) (by decide)
theorem ak4(x:c_)(m:List Nat)(cs:List Int)(X:List PyData)(μ:List ah)(hc:μ[2]? =some (.live X))(hz:X.length≤1000):n6 ({x with asked:=some (.c 2),text:=some (.d (.str (tS (xT m cs)))),shorn:=some (.d (.str (tS (vT m cs))))}).loc μ=
  some (.next,({x with asked:=some (.c 2),text:=some (.d (.str (tS (xT m cs)))),shorn:=some (.d (.str (tS (vT m cs))))}).loc,μ.set 2 (.live (X++[lZ m cs]))):=by
 let ρ:=({x with asked:=some (.c 2),text:=some (.d (.str (tS (xT m cs)))),shorn:=some (.d (.str (tS (vT m cs))))}:c_).loc
 have hl:=su m cs false;have hx:=rO m cs;have hv:=Kn m cs;have h1:af [(a9 16)] aM ρ μ=some (.d (.str (tS (vT m cs))),μ):=by
  refine d6 (V:=.d (.str (tS (xT m cs)))) rfl ?_;refine (s2 (YY m cs) (by unfold xT at hx;lia) (by lia)).trans ?_
  have:=gD m cs [] (zt 6)
  rw [DO] at this
  refine rA this ?_
  simp [clean,vT,vW]
 have h2:af [(aj (a9 16) (kS "\"(") aT)] aM ρ μ=some (.d (.str (tS (vT m cs++[34,40]))),μ):=by
  have hf:(units m cs false (zt 6)++[[34],[40]]).flatten=xT m cs++[34,40]:=by simp [xT]
  have a1:aj (a9 16) (kS "\"(") aT ρ μ=some (.d (.str (tS (units m cs false (zt 6)++[[34],[40]]).flatten)),μ):=by
   refine rA hf ?_;exact ml (b:=[34,40]) rfl rfl (by simp;lia)
  refine d6 a1 ?_;refine (s2 (GU m cs [[34],[40]] (by decide)) (by refine rA hf ?_;simp;lia) (by simp;lia)).trans ?_;refine rA (gD m cs [[34],[40]] (zt 6)) ?_
  simp [clean,vT,vW]
 have h3:aj (a9 17) (kS "\"(") aT ρ μ=some (.d (.str (tS (vT m cs++[34,40]))),μ):=ml (b:=[34,40]) rfl rfl (by simp;lia);have l1:=dJ (ds:=[.str (tS (vT m cs)),.str (tS (vT m cs++[34,40]))]) (an h1 (an h2 bX)) (aa (xM rfl));have l2:=dJ (ρ:=ρ) (μ:=μ) (fs:=[a9 17,aj (a9 17) (kS "\"(") aT]) (ds:=[.str (tS (vT m cs)),.str (tS (vT m cs++[34,40]))]) (an rfl (an h3 bX)) (aa (xM rfl));have h4:=d8 (ds:=[.list [.str (tS (vT m cs)),.str (tS (vT m cs++[34,40]))],.list [.str (tS (vT m cs)),.str (tS (vT m cs++[34,40]))]]) (an l1 (an l2 bX)) (aa (xM rfl));unfold n6;exact oc rfl h4 hc (by lia)
noncomputable def pU(u:U):Bool:=decide (u=[40])||decide (u=[41])
def fU(u:U):Int:=if u=[40] then 7 else 8
noncomputable def pD:PyData→Bool
 | .tuple [_,.str x]=>pU x.cps.toList
 |_=>false
noncomputable def fD:PyData→PyData
 | .tuple [_,.str x]=>.int (fU x.cps.toList)
 |x=>x
theorem Vt{a:PyData}{u:U}:pD (.tuple [a,uS u])=pU u:=congrArg pU (fZ u)
theorem ae5{a:PyData}{u:U}:fD (.tuple [a,uS u])=.int (fU u):=congrArg (λx=>F8 (fU x)) (fZ u)
theorem Cp:∀ (us:List U) (k:Nat) {x:PyData},x∈lf k us→∃ (n:Int) (u:U),u∈us∧x=.tuple [.int n,uS u]
 | [],_,_,h=>by cases h
 |u::us,k,x,h=>by
  rcases Cc.mp h with rfl|h
  ·exact (fO _ u (by simp) rfl)
  ·refine jS (Cp us _ h) λn v hv e=>?_
   exact (fO n v (by simp [hv]) e)
theorem C9:∀ (us:List U) (k:Nat),((lf k us).filter pD).map fD=iL ((us.filter pU).map fU)
 | [],_=>rfl
 |u::us,k=>by
  have ih:=C9 us (k+u.length);have e1:pD (.tuple [.int ((k+u.length:Nat)-1),uS u])=pU u:=Vt;have e2:fD (.tuple [.int ((k+u.length:Nat)-1),uS u])=.int (fU u):=ae5;rw [lf];refine rA KT ?_;refine rA KT ?_;refine rA e1 ?_
  split
  ·refine rA F7 ?_;refine rA F7 ?_;refine rA ih ?_;refine rA e2 ?_;rfl
  ·exact ih
theorem O_(m:List Nat)(cs:List Int)(p:Nat):((eJ m cs true p).filter pU).map fU=[sg m p]:=by
 have hq:=Zq (jz cs p);unfold eJ;generalize iJ cs p=q at*
 unfold t9 sg
 by_cases h:p<m.getD p 0
 ·refine rA (if_pos h) ?_;refine rA (if_pos h) ?_
  rcases hq with rfl|rfl|rfl|rfl|rfl|rfl|rfl<;>decide
 ·refine rA (if_neg h) ?_;refine rA (if_neg h) ?_
  rcases hq with rfl|rfl|rfl|rfl|rfl|rfl|rfl<;>decide
theorem sq(m:List Nat)(cs:List Int):∀pl:List Nat,((units m cs true pl).filter pU).map fU=pl.map (sg m)
 | []=>rfl
 |p::pl=>by
  have ih:=sq m cs pl;unfold units at ih⊢
  refine rA Fs ?_;refine rA (L4 _ _) ?_;refine rA Kf ?_;refine rA ih ?_;refine rA (O_ _ _ _) ?_;rfl
theorem HU(u v:U):(tS v==tS u)=decide (u=v):=by
 by_cases h:u=v
 ·subst h;simp
 ·refine rA (decide_eq_false h) ?_;refine rA (propext (beq_eq_false_iff_ne)) ?_
  intro q
  have:=congrArg (λs:Str=>s.cps.toList) q
  simp [tS] at this
  exact h this.symm
theorem Ux{u:U}(hu:∀c∈u,c<128)(μ:List ah):WK (.d (uS u)) (.d (.list [.str (tS [40]),.str (tS [41])])) μ=some (pU u):=by
 have hs:Si (uS u)=true:=(iz hu:pn 0 (.str (tS u))).shaped (by decide)
 show (if La [.str (tS [40]),.str (tS [41])]=true∧Si (uS u)=true then some (([.str (tS [40]),.str (tS [41])]:List PyData).any λy=>Mx y (uS u)) else none)=_
 have hl:La [.str (tS [40]),.str (tS [41])]=true:=(kL (n:=0) (xs:=[.str (tS [40]),.str (tS [41])]) λx hx=>by
  simp only [Cc,Er,or_false] at hx
  rcases hx with rfl|rfl
  ·exact iz (by simp)
  ·exact iz (by simp)).1
 refine rA (if_pos ⟨hl,hs⟩) ?_;refine (?_:some ((tS [40]==tS u)||((tS [41]==tS u)||false))=_);refine rA (HU _ _) ?_;refine rA (HU _ _) ?_;refine rA (UZ _) ?_;rfl
theorem ae8{u:U}(h:pU u=true):kn (tS u)=some (fU u):=by
 unfold pU at h
 rw [PL,decide_eq_true_iff,decide_eq_true_iff] at h
 rcases h with rfl|rfl<;>rfl
noncomputable def qN(y:Int):Bool:=decide (0<y)&&decide (y<256)
theorem ab1(h:a9 31 ρ μ=some (.d (.int y),μ)):BJ (kI 0) (a9 31) (kI 256) (eg λx y=>decide (x<y)) (eg λx y=>decide (x<y)) ρ μ=some (qN y,μ):=by
 refine (b5 (rfl:kI 0 ρ μ=some (.d (.int 0),μ))).trans ((b5 h).trans ?_);refine (?_:cond (decide (0<y)) (some (decide (y<256),μ)) (some (false,μ))=some (qN y,μ));unfold qN;cases decide (0<y)<;>rfl
theorem v0(m:List Nat):∀F:Fm,(F.pre m).filter qN=F.pl.map (sg m)
 | .at i=>by
  have:qN (sg m i)=true:=by rcases gI m i with q|q<;>rw [q]<;>decide
  simp [Fm.pre,Fm.pl,this]
 | .bin p l r=>by
  have h1:=v0 m l;have h2:=v0 m r;have h0:qN (if p then 274 else 272)=false:=by cases p<;>decide
  rw [Fm.pre];refine rA KT ?_;refine rA h0 ?_;refine rA (if_neg Hm) ?_;refine rA (L4 _ _) ?_;refine rA h1 ?_;refine rA h2 ?_;rw [Fm.pl];exact rA Kf rfl
theorem wN(m:List Nat):∀G:List Fm,(de m G).filter qN=(bJ G).map (sg m)
 | []=>rfl
 |F::G=>by refine rA (jj _ _ _) ?_;refine rA (L4 _ _) ?_;refine rA (v0 _ _) ?_;refine rA (wN m G) ?_;refine rA (b6 _ _) ?_;exact rA Kf rfl
noncomputable def sgs(m:List Nat):List Int:=(zt 6).map (sg m)
def lU(m:List Nat):PyData:=.tuple [.list (iL (sgs m)),.list (iL (sgs m))]
theorem GK(m:List Nat):Good (lU m):=dU (n:=1) (rD _) (by decide)
noncomputable def qD:PyData→Bool
 | .int y=>qN y
 |_=>false
theorem Zt(l:List Int):((iL l).filter qD).map id=iL (l.filter qN):=by
 induction l with
 |nil=>rfl
 |cons y l ih=>
  have e:qD (.int y)=qN y:=rfl;refine (?_:(((F8 y::iL l).filter qD).map id)=_);refine rA KT ?_;refine rA KT ?_;refine rA e ?_
  split
  ·refine rA F7 ?_;refine rA ih ?_;rfl
  ·exact ih
theorem ak7(x:c_)(m:List Nat)(cs:List Int)(G:List Fm)(X:List PyData)(μ:List ah)(hG:bJ G=Ff 0 6)(hg:(de m G).length≤100)(hc:μ[2]? =some (.live X))(hz:X.length≤1000):ou ({x with numbers:=some (.d (.list (iL (de m G++[0])))),asked:=some (.c 2),shorn:=some (.d (.str (tS (vT m cs))))}).loc μ=
  some (.next,({x with numbers:=some (.d (.list (iL (de m G++[0])))),asked:=some (.c 2),shorn:=some (.d (.str (tS (vT m cs))))}).loc,μ.set 2 (.live (X++[lU m]))):=by
 let ρ:=({x with numbers:=some (.d (.list (iL (de m G++[0])))),asked:=some (.c 2),shorn:=some (.d (.str (tS (vT m cs))))}:c_).loc
 have hl:=su m cs true;have c1:=rL (sc:=yh) (itf:=b_ [(a9 17)] aE) (t:=bA (a9 32) (aU [(kS "("),(kS ")")]) WK) (e:=jI kn (a9 32)) (ρ:=ρ) (μ:=μ) 31 32 (by decide) pD fD
  (pj (f:=a9 17) (vs:=vW m cs) rfl (mI m cs true _)) (az _ _) (λy hy=>by
   refine jS (Cp _ _ hy) λn u hu zq3=>?_;subst zq3;have huc:=uY m cs true _ u hu;refine (dy _ _ rfl ?_ ?_)
   ·refine (dH (V:=.d (uS u)) rfl (dJ (ds:=[.str (tS [40]),.str (tS [41])]) rfl (aa (xM rfl))) (Ux huc _)).trans ?_
    refine rA Vt ?_;rfl
   ·intro h
    have h':pU u=true:=Vt.symm.trans h;refine (?_:bo (kn (tS u)) (λi=>some (AV.d (.int i),μ))=_);refine (bU (ae8 h')).trans ?_;refine rA ae5 ?_;rfl) (by refine rA (v4 _ _) ?_;exact aa (by unfold vW;lia))
 rw [C9,show vW m cs=units m cs true (zt 6) from rfl,sq] at c1
 have c2:=jd (sc:=Au) (itf:=aK false (a9 4)) (t:=BJ (kI 0) (a9 31) (kI 256) (eg λx y=>decide (x<y)) (eg λx y=>decide (x<y))) (e:=a9 31) (ρ:=ρ) (μ:=μ) (g:=none) (xs:=iL (de m G++[0])) 31 qD id
  (d9 (V:=.d (.list (iL (de m G++[0])))) rfl rfl) (az _ _) (λy hy=>by
   refine au (DT.mp hy) λz zz zq2=>?_;subst zq2;exact ab1 rfl) (λzz zz zz=>rfl) (by refine rA (xO _) ?_;refine rA be ?_;exact aa (by simp;lia))
 rw [Zt,L4,wN,hG] at c2
 have e0:([0]:List Int).filter qN=[]:=by decide
 rw [e0,DO,←Lx] at c2
 have h:=d8 (ds:=[.list (iL (sgs m)),.list (iL (sgs m))]) (an (bY c1) (an (bY c2) bX)) (aa (xM rfl));unfold ou;exact oc rfl h hc (by lia)
theorem O5{k:EF}{a b:PyData}(h1:f ρ μ=some (.d a,μ))(h2:g ρ μ=some (.d b,μ))(h3:k ρ μ=some (.c μ.length,μ++[.live xs])):aU [f,g,k] ρ μ=some (.d (.list [a,b,.list xs]),μ++[.frozen xs]):=by
 exact (T7 (an h1 (zc h2 h3)) (fJ rfl (fJ rfl (fJ (rx dq) rfl))) (aa (xM rfl))).trans (by rw [fm])
theorem TP{X1:List PyData}(h0:a9 12 ρ μ=some (.c 2,μ))(hf:f ρ μ=some (.d d,μ1))(hc0:μ[2]? =some (.live X1))(hc:μ1[2]? =some (.live X))(hz:X.length≤100000):cj (eh (a9 12) f) ρ μ=some (.next,ρ,μ1.set 2 (.live (X++[d]))):=by
 refine er ?_;exact (b5 h0).trans ((bU (eR hc0)).trans ((b5 hf).trans ((b5 (rfl:xz (.d d) μ1=some (d,μ1))).trans ((bU hc).trans (if_pos (aa hz))))))
noncomputable def FD:((zt 5).all λi=>rU (aH.getD i []) 0 (zt 6)==some 0&&bj (aH.getD i []) (zt 6))=true:=by decide
theorem Cw(hi:i<5):rU (aH.getD i []) 0 (zt 6)=some 0∧bj (aH.getD i []) (zt 6)=true:=by
 have:=Bw.mp FD i (D3.mpr hi)
 rw [Fd,beq_iff_eq] at this
 exact this
theorem Bp(t:List U)(hb:rU m 0 (zt 6)=some 0)(hw:WF (units m cs false (zt 6)++t))(ht:t.flatten.length≤100)(ht2:t.length≤100)(b:Bool)(h:(match mD 0 (clean none t) with|some k=>k==0|none=>false)=b)(h0:f ρ μ=some (.d (.str (tS (xT m cs++t.flatten))),μ)):af [f] ar ρ μ=some (.d (.bool b),μ):=by
 have hl:=su m cs false;have hx:=rO m cs;have hf:(units m cs false (zt 6)++t).flatten=xT m cs++t.flatten:=by simp [xT]
 rw [←hf] at h0
 refine d6 h0 ((s3 hw (by refine rA hf ?_;refine rA be ?_;lia) (by refine rA be ?_;lia)).trans ?_);have e1:=gD m cs t (zt 6);have e2:=nC m cs (clean none t) (zt 6) 0;rw [hb] at e2
 dsimp only at e2
 have:LK (units m cs false (zt 6)++t)=b:=by
  unfold LK;refine rA e1 ?_;refine rA e2 ?_;exact h
 exact rA this rfl
def ky:PyData:=.tuple [.list [.bool true,.bool true,.list []],.list [.bool true,.bool true,.list []]]
theorem Jm:Good ky:=dU (n:=2) (gJ λx hx=>by
 simp only [Cc,Er,or_false] at hx
 rcases hx with rfl|rfl|rfl
 ·exact jk
 ·exact jk
 ·exact gJ (λzz h=>by cases h)) (by decide)
theorem aq3(x:c_)(m:List Nat)(cs:List Int)(X:List PyData)(μ:List ah)(hb:rU m 0 (zt 6)=some 0)(hc:μ[2]? =some (.live X))(hz:X.length≤1000):oo ({x with asked:=some (.c 2),text:=some (.d (.str (tS (xT m cs))))}).loc μ=
  some (.next,({x with asked:=some (.c 2),text:=some (.d (.str (tS (xT m cs))))}).loc,μ.set 2 (.live (X++[ky]))++[.frozen []]):=by
 let ρ:=({x with asked:=some (.c 2),text:=some (.d (.str (tS (xT m cs))))}:c_).loc
 have hx:=rO m cs;have a1:aj (a9 16) (kS "\"()\\") aT ρ μ=some (.d (.str (tS (xT m cs++[34,40,41,92]))),μ):=ml (b:=[34,40,41,92]) rfl rfl (by simp;lia);have a2:aj (a9 16) (kS "\"(") aT ρ μ=some (.d (.str (tS (xT m cs++[34,40]))),μ):=ml (b:=[34,40]) rfl rfl (by simp;lia);have w1:WF (units m cs false (zt 6)++[[34],[40],[41],[92]]):=(dy (units m cs false (zt 6)++[[34],[40],[41]]) ([[92]]) (by simp) (by refine rA Se ?_;refine rA (mh _ _ _ _) ?_;rfl) (.inr rfl));have b1:=isB (Bp [[34],[40],[41],[92]] hb w1 (by simp) (by simp) true (by decide) a1) (rfl:kB true ρ μ=some (.d (.bool true),μ));have b2:=isB (Bp [[34],[40]] hb (GU m cs [[34],[40]] (by decide)) (by simp) (by simp) false (by decide) a2) (rfl:kB false ρ μ=some (.d (.bool false),μ));have b3:af [(aU [])] aX ρ μ=some (.c μ.length,μ++[.live []]):=d6 uB (s4 (vss:=[]) (λzz h=>by cases h) (by simp));have l1:=O5 b1 b2 b3;have l2:aU [(kB true),(kB true),(aU [])] ρ (μ++[.frozen []])=some (.d (.list [.bool true,.bool true,.list []]),μ++[.frozen []]):=dJ (ds:=[.bool true,.bool true,.list []]) (an rfl (an rfl (an uB bX))) (aa (xM rfl));have h:cY [(aU [(d_ (af [(aj (a9 16) (kS "\"()\\") aT)] ar) (kB true) Lb),(d_ (af [(aj (a9 16) (kS "\"(") aT)] ar) (kB false) Lb),(af [(aU [])] aX)]),(aU [(kB true),(kB true),(aU [])])] ρ μ=some (.d ky,μ++[.frozen []]):=by
  exact Fz (zc l1 l2) (t_ [.list [.bool true,.bool true,.list []],.list [.bool true,.bool true,.list []]]) (aa (xM rfl))
 have hlt:2<μ.length:=(BW.mp hc).1;unfold oo;refine (TP (X:=X) rfl h hc (by rw [F9 hlt];exact hc) (by lia)).trans ?_;exact rA (Sw _ _ hlt) rfl
theorem AC:∀F:Fm,Rk F+1≤F.pl.length
 | .at _=>DU 1
 | .bin p l r=>by
  have h1:=AC l;have h2:=AC r;rw [Rk,Fm.pl];refine rA be ?_;cases p<;>simp<;>lia
theorem HV:∀G:List Fm,jl G≤(bJ G).length
 | []=>DU 0
 |F::G=>by
  have h1:=AC F;have h2:=HV G;refine rA (qr _ _) ?_;refine rA (b6 _ _) ?_;refine rA be ?_;lia
theorem AT{G:List Fm}(h:a9 10 ρ μ=some (.d (.list (bi m G++[Jy []])),μ))(hz:G.length≤100):ci (a9 10) ba (aL (jr (kI 1))) ρ μ=some (.d (.list (bi m G)),μ):=by
 have:=fg (f:=a9 10) (p:=ba) (q:=aL (jr (kI 1))) (ρ:=ρ) (μ:=μ) (lo:=none) (hi:=some (-1)) h rfl ab4 (aa (by simp [bi];lia))
 refine rA this ?_;exact congrArg (λl=>some (AV.d (.list l),μ)) (Cs _ _)
theorem ap1(x:c_)(i:Nat)(cs:List Int)(G:List Fm)(X:List PyData)(μ:List ah)(hi:i<5)(hcs:cs.length=6)(hG:bJ G=Ff 0 6)(hc:μ[2]? =some (.live X))(hz:X.length≤1000):∃Y,(∀x∈Y,Good x)∧Y.length≤300∧
  nH ({x with cells:=some (.d (.list (iL cs))),mates:=some (.d (.list (nL (aH.getD i [])))),read:=some (.d (.list (bi (aH.getD i []) G++[Jy []]))),asked:=some (.c 2)}).loc μ=
  some (.next,({x with cells:=some (.d (.list (iL cs))),mates:=some (.d (.list (nL (aH.getD i [])))),read:=some (.d (.list (bi (aH.getD i []) G++[Jy []]))),asked:=some (.c 2),proof:=some (.d (.bool (pr (aH.getD i []) 12 G)))}).loc,μ.set 2 (.live (X++Y))):=by
 let ρ:=({x with cells:=some (.d (.list (iL cs))),mates:=some (.d (.list (nL (aH.getD i [])))),read:=some (.d (.list (bi (aH.getD i []) G++[Jy []]))),asked:=some (.c 2)}:c_).loc
 have hs:bJ G=zt 6:=by refine rA hG ?_;exact rA Lx rfl
 have hl:=fB G;have h6:(bJ G).length=6:=by refine rA hs ?_;rfl
 have hst:=HV G;refine ct (s70 (cs:=cs) (ja:=2) hi hcs 12 G μ X hc (by refine rA hs ?_;exact QS _) (by refine rA hs ?_;exact (Cw hi).2) (by lia) (by lia)) λY h1 h2 h3=>?_;refine (cL Y h1 (by lia) ?_);have r1:=AT (m:=aH.getD i []) (G:=G) (ρ:=ρ) (μ:=μ) rfl (by lia);unfold nH;have hcall:af [(ci (a9 10) ba (aL (jr (kI 1)))),(a9 3),(a9 1),(a9 12)] aO ρ μ=some (.d (.bool (pr (aH.getD i []) 12 G)),μ.set 2 (.live (X++Y))):=sR (V':=.d (.list (nL (aH.getD i [])))) (V'':=.d (.list (iL cs))) (V3:=.c 2) r1 rfl rfl rfl h3;exact (bO hcall).trans rfl
theorem aq4(x:c_)(μ:List ah):nh x.loc μ=some (.next,({x with joins:=some (.c μ.length)}).loc,μ++[.live []]):=by
 unfold nh;exact (bO vD).trans rfl
theorem r7(x:c_)(m:List Nat)(xs:List PyData):∀ (G:List Fm) (J:List Jn) (μ:List ah) (w:Option AV),μ[j]? =some (.live (jL J))→(bJ G).length≤12→J.length+(eM G J.length).length≤1000→∃w',
  fR (dz 20) (ap (cj (af [(a9 20),(a9 19)] aW)) aP) aP none xs (bi m G) ({x with joins:=some (.c j),formula:=w}).loc μ=
   some (.next,({x with joins:=some (.c j),formula:=w'}).loc,μ.set j (.live (jL (J++eM G J.length))))
 | [],J,μ,w,hc,_,_=>⟨w,by
  refine rA (DO _) ?_;refine rA (eK hc) ?_;rfl⟩
 |F::G,J,μ,w,hc,h12,hz=>by
  have hlt:j<μ.length:=(BW.mp hc).1;rw [b6,be] at h12
  rw [ti,be] at hz
  have hh:=Cj F;have e:=s71 m F 12 μ J (by lia) hc (by lia);refine bP (r7 x m xs G (J++(gr F J.length).2) (μ.set j (.live (jL (J++(gr F J.length).2)))) (some (.d (F.enc m))) (cB hlt) (by lia) (by refine rA be ?_;lia)) λw' ih=>?_;refine ⟨w',?_⟩;have b:(ap (cj (af [(a9 20),(a9 19)] aW)) aP) ({x with joins:=some (.c j),formula:=some (.d (F.enc m))}:c_).loc μ=some (.next,({x with joins:=some (.c j),formula:=some (.d (F.enc m))}:c_).loc,μ.set j (.live (jL (J++(gr F J.length).2)))):=
   (aB (Ue (iR (V:=.d (F.enc m)) (V':=.c j) rfl rfl e))).trans bK
  refine (dP (ρ1:=({x with joins:=some (.c j),formula:=some (.d (F.enc m))}:c_).loc) rfl b (az _ _)).trans (ih.trans ?_);refine rA (HA _) ?_;refine rA be ?_;refine rA (Eu _ _ _) ?_;rfl
theorem ao3(x:c_)(m:List Nat)(G:List Fm)(j:Nat)(μ:List ah)(hc:μ[j]? =some (.live []))(hG:bJ G=Ff 0 6):∃w,nX ({x with read:=some (.d (.list (bi m G++[Jy []]))),joins:=some (.c j)}).loc μ=
  some (.next,({x with read:=some (.d (.list (bi m G++[Jy []]))),joins:=some (.c j),formula:=w}).loc,μ.set j (.live (jL (eM G 0)))):=by
 have h6:(bJ G).length=6:=by refine rA hG ?_;rfl
 have hl:=fB G;have hg:=kP G 0;refine bP (r7 ({x with read:=some (.d (.list (bi m G++[Jy []])))}) m (bi m G) G [] μ x.formula hc (by lia) (by simp;lia)) λw e=>?_;refine ⟨w,?_⟩;unfold nX;refine rA (gM (d9 (V:=.d (.list (bi m G))) (AT (m:=m) (G:=G) rfl (by lia)) rfl)) ?_;exact e
noncomputable def pJ:PyData→Bool
 | .tuple (.int n::_)=>n==18
 |_=>false
theorem Gz(y:Jn):pJ y.enc=y.par:=by
 unfold Jn.enc pJ;cases y.par<;>rfl
theorem UL(J:List Jn):((jL J).filter pJ).map id=jL (J.filter (·.par)):=by
 refine rA (List.map_id _) ?_;rw [jL];refine rA OD ?_
 have:(pJ∘Jn.enc)= λy:Jn=>y.par:=funext Gz
 refine rA this ?_;rfl
theorem ZG{y:Jn}(hf:f ρ μ=some (.d y.enc,μ)):aF f (kI 0) ρ μ=some (.d (.int (if y.par then 18 else 16)),μ):=cJ (k:=0) hf rfl rfl (by decide) rfl (aa (xM rfl))
theorem Z4{y:Jn}(hf:f ρ μ=some (.d y.enc,μ)):aF f (kI 1) ρ μ=some (.d (.int y.nd),μ):=cJ (k:=1) hf rfl rfl (by decide) rfl (aa (xM rfl))
theorem ap8{y:Jn}(hf:f ρ μ=some (.d y.enc,μ)):aF f (kI 2) ρ μ=some (.d (.int y.a),μ):=cJ (k:=2) hf rfl rfl (by decide) rfl (aa (xM rfl))
theorem ap3{y:Jn}(hf:f ρ μ=some (.d y.enc,μ)):aF f (kI 3) ρ μ=some (.d (.int y.b),μ):=cJ (k:=3) hf rfl rfl (by decide) rfl (aa (xM rfl))
theorem an7(x:c_)(J:List Jn)(j:Nat)(μ:List ah)(hc:μ[j]? =some (.live (jL J)))(hJ:J.length≤1000):ow ({x with joins:=some (.c j)}).loc μ=
  some (.next,({x with joins:=some (.c j),forks:=some (.d (.list (jL (J.filter (·.par)))))}).loc,μ):=by
 let ρ:=({x with joins:=some (.c j)}:c_).loc
 have hp:dc μ (.c j)=some (jL J):=eR hc;have hcm:=jd (sc:=z8) (itf:=aK false (a9 19)) (t:=bA (aF (a9 31) (kI 0)) (kI 18) dK) (e:=a9 31) (ρ:=ρ) (μ:=μ) (g:=Fb (.c j)) (xs:=jL J) 31 pJ id (d9 (V:=.c j) rfl hp) (pv hp) (λy hy=>by
  refine au (DT.mp hy) λz zz zq2=>?_;subst zq2;refine (o4 (y:=18) (ZG rfl) rfl).trans ?_;refine rA (Gz _) ?_;cases z.par<;>rfl) (λzz zz zz=>rfl) (by rw [jL];refine rA (xO _) ?_;exact aa (by lia))
 rw [UL] at hcm
 unfold ow;refine rA (jA hcm) ?_;rfl
noncomputable def HX:PyData→PyData
 | .tuple [.int a,.int b]=>.int (if b<a then b else a)
 |x=>x
theorem Kz:∀ (l:List Nat) (k:Nat),(cN k (nL l)).map HX=nL ((zt l.length).map λi=>min (k+i) (l.getD i 0))
 | [],_=>rfl
 |a::l,k=>by
  have ih:=Kz l (k+1);refine (?_:HX (.tuple [.int (k:Nat),.int (a:Nat)])::(cN (k+1) (nL l)).map HX=_);refine rA ih ?_;refine rA AH ?_;refine rA LP ?_;refine rA F7 ?_;refine rA E_ ?_;have e0:HX (.tuple [.int (k:Nat),.int (a:Nat)])=.int ((min (k+0) ((a::l).getD 0 0):Nat):Int):=by
   refine (?_:F8 _=F8 _)
   congr 1
   simp only [U9,List.getD_cons_zero]
   split<;>lia
  have e1:((λi=>min (k+i) ((a::l).getD i 0))∘Vq)= λi=>min (k+1+i) (l.getD i 0):=by
   funext i
   simp only [Function.comp_apply,SV,List.getD_cons_succ];exact rA (show k+(i+1)=k+1+i by lia) rfl
  refine rA e0 ?_;refine rA e1 ?_;rfl
theorem I8:∀ (l:List Nat) (k:Nat) {x:PyData},x∈cN k (nL l)→∃ (p o:Nat),x=.tuple [.int p,.int o]
 | [],_,_,h=>by cases h
 |a::l,k,x,h=>by
  rcases Cc.mp h with rfl|h
  ·exact (jN k a rfl)
  ·exact I8 l (k+1) h
theorem zw:((zt 64).all λa=>(zt 64).all λb=>KB (a:Int) (b:Int) 1)=true:=by decide+kernel
theorem Bl{a:Nat}(ha:a<64)(hb:b<64):KB (a:Int) (b:Int) 1=true:=
 Bw.mp (Bw.mp zw a (D3.mpr ha)) b (D3.mpr hb)
theorem rG{a:Nat}(hf:f ρ μ=some (.rng a b,μ))(ha:a<64)(hb:b<64):aK false f ρ μ=some ((zt (b-a)).map λ(i:Nat)=>F8 ((a+i:Nat):Int),none,μ):=by
 exact (nr hf (Bl ha hb)).trans (by rw [show ((b:Int)-(a:Int)).toNat=b-a by lia,m6])
theorem Ix{a:Nat}(hf:f ρ μ=some (.rng a b,μ))(ha:a<64)(hb:b<64):af [f] mo ρ μ=some (.d (.list ((zt (b-a)).map λ(i:Nat)=>F8 ((a+i:Nat):Int))),μ):=by
 have e:(2:Nat)^24=16777216:=by decide
 refine d6 hf ((bU (rfl:l1 [AV.rng a b]=some _)).trans ((oX (rfl:XX (.rng a b)=some _) rfl).trans ((if_pos ⟨Bl ha hb,by rw [e];lia⟩).trans ?_)));refine rA (show ((b:Int)-(a:Int)).toNat=b-a by lia) ?_;exact rA (m6 _ _) rfl
theorem ED(a n:Nat):((zt n).map λ(i:Nat)=>F8 ((a+i:Nat):Int))=nL (Ff a n):=by
 refine rA List.range'_eq_map_range ?_;rw [nL];refine rA E_ ?_;rfl
theorem Tu(a b:List Nat):nL (a++b)=nL a++nL b:=by simp [nL]
theorem am1(x:c_)(m:List Nat)(J:List Jn)(j:Nat)(μ:List ah)(hm:m.length=6)(hc:μ[j]? =some (.live (jL J)))(hJ:J.length≤20):n8 ({x with mates:=some (.d (.list (nL m))),joins:=some (.c j)}).loc μ=
  some (.next,({x with mates:=some (.d (.list (nL m))),joins:=some (.c j),start:=some (.d (.list (nL (start m J.length))))}).loc,μ):=by
 let ρ:=({x with mates:=some (.d (.list (nL m))),joins:=some (.c j)}:c_).loc
 have hcm:=t8 (sc:=zI) (itf:=b_ [(a9 3)] ga) (e:=af [(a9 31),(a9 32)] KE) (ρ:=ρ) (μ:=μ) 31 32 (by decide) HX
  (jV (V:=.d (.list (nL m))) rfl rfl) (az _ _) (λy hy=>by
   refine lP (I8 m 0 hy) λp o zq2=>?_;subst zq2;exact (fO _ _ rfl (iR (V:=.d (.int p)) (V':=.d (.int o)) rfl rfl rfl))) (by refine rA (ij _ _) ?_;rw [nL];refine rA (xO _) ?_;refine rA hm ?_;exact aa (by decide))
 rw [Kz,hm] at hcm
 have hlen:=VZ (k:=19) (ρ:=ρ) rfl hc (by lia);have hr:af [(kI 6),(aj (kI 6) (af [(a9 19)] dC) aT)] cH ρ μ=some (.rng (6:Nat) (6+J.length:Nat),μ):=iR (V:=.d (.int 6)) rfl (cT (x:=6) rfl hlen) (by
  refine (?_:some (AV.rng 6 (6+(J.length:Int)),μ)=_);refine rA (show (6:Int)+(J.length:Int)=((6+J.length:Nat):Int) by lia) ?_;rfl)
 have h2:=Ix hr (by decide) (by lia);rw [ED,show 6+J.length-6=J.length by lia] at h2
 have h3:=cU (bY hcm) h2 rfl rfl (aa (by rw [nL,nL];refine rA (xO _) ?_;refine rA (xO _) ?_;refine rA (xO _) ?_;refine rA Js ?_;refine rA Lk ?_;lia));rw [←Tu] at h3
 have e:(zt 6).map (λi=>min (0+i) (m.getD i 0))++Ff 6 J.length=start m J.length:=by
  unfold start;simp only [LC]
 rw [e] at h3
 unfold n8;exact (bO h3).trans rfl
noncomputable def pK:PyData→Bool
 | .tuple (.int n::_)=>n==16
 |_=>false
theorem Iw(y:Jn):pK y.enc= !y.par:=by
 unfold Jn.enc pK;cases y.par<;>rfl
noncomputable def ysK:PyData→List PyData
 | .tuple [_,_,a,b]=>[a,b]
 |_=>[]
noncomputable def vK:PyData→PyData→PyData
 | .tuple [_,n,_,_],y=>.tuple [n,y]
 |x,_=>x
theorem pW:∀J:List Jn,((jL J).flatMap λx=>if pK x then (ysK x).map (vK x) else [])=eL (iw J)
 | []=>rfl
 |y::J=>by
  have ih:=pW J
  show (if pK y.enc then (ysK y.enc).map (vK y.enc) else [])++((jL J).flatMap λx=>if pK x then (ysK x).map (vK x) else [])=_
  refine rA ih ?_;refine rA (Iw _) ?_;obtain ⟨p,nd,a,b⟩:=y;cases p<;>rfl
theorem HH:∀ (F:Fm) (n:Nat),(∀p∈F.pl,p<6)→(gr F n).1<6+(n+(gr F n).2.length)∧∀y∈(gr F n).2,y.nd<6+(n+(gr F n).2.length)∧y.a<6+(n+(gr F n).2.length)∧y.b<6+(n+(gr F n).2.length)
 | .at i,n,h=>by
  have:=h i (by simp [Fm.pl])
  refine ⟨by show i<_;lia,λy hy=>by cases hy⟩
 | .bin p l r,n,h=>by
  simp only [Fm.pl,AE] at h
  have h1:=HH l n (λq hq=>h q (.inl hq));have h2:=HH r (n+(gr l n).2.length) (λq hq=>h q (.inr hq));simp only [zZ,be,Gb,AE,Aq];refine ⟨by lia,λy hy=>?_⟩
  rcases hy with (hy|hy)|rfl
  ·have:=h1.2 y hy;lia
  ·have:=h2.2 y hy;lia
  ·dsimp only;lia
theorem K0:∀ (G:List Fm) (n:Nat),(∀p∈bJ G,p<6)→∀y∈eM G n,y.nd<6+(n+(eM G n).length)∧y.a<6+(n+(eM G n).length)∧y.b<6+(n+(eM G n).length)
 | [],n,_,y,hy=>by cases hy
 |F::G,n,h,y,hy=>by
  rw [b6] at h
  have h1:=HH F n (λq hq=>h q (ye _ hq));have h2:=K0 G (n+(gr F n).2.length) (λq hq=>h q (CR _ hq));rw [ti,AE] at hy
  rw [ti];refine rA be ?_
  rcases hy with hy|hy
  ·have:=h1.2 y hy;lia
  ·have:=h2 y hy;lia
theorem ot(m:List Nat)(n:Nat):(start m n).length=6+n:=by simp [start]
theorem Dd(J:List Jn):(iw J).length≤2*J.length:=by
 induction J with
 |nil=>exact DU 0
 |cons y J ih=>
  rw [iw];refine rA KT ?_;unfold iw at ih
  split
  ·refine rA Fs ?_;refine rA be ?_;refine rA AH ?_;simp only [AH,EZ];lia
  ·refine rA AH ?_;lia
theorem al1(x:c_)(m:List Nat)(J:List Jn)(j:Nat)(μ:List ah)(hc:μ[j]? =some (.live (jL J)))(hJ:J.length≤20)(hb:∀y∈J,y.nd<6+J.length∧y.a<6+J.length∧y.b<6+J.length):mY ({x with joins:=some (.c j),start:=some (.d (.list (nL (start m J.length))))}).loc μ=
  some (.next,({x with joins:=some (.c j),start:=some (.d (.list (nL (start m J.length)))),labels:=some (.d (.list (nL (di (start m J.length) (iw J)))))}).loc,μ):=by
 let ρ:=({x with joins:=some (.c j),start:=some (.d (.list (nL (start m J.length))))}:c_).loc
 have hp:dc μ (.c j)=some (jL J):=eR hc;have hl:=Dd J;have hcm:=pt (sc:=v5) (itf:=aK false (a9 19)) (itf2:=aK false (ci (a9 31) (aL (kI 2)) ba)) (t:=bA (aF (a9 31) (kI 0)) (kI 16) dK) (e:=cY [(aF (a9 31) (kI 1)),(a9 32)]) (ρ:=ρ) (μ:=μ) (g:=Fb (.c j)) (xs:=jL J) 31 32 (by decide) pK ysK vK
  (d9 (V:=.c j) rfl hp) (pv hp) (λy hy w=>by
   refine au (DT.mp hy) λz zz zq2=>?_;subst zq2;refine (o4 (y:=16) (ZG rfl) rfl).trans ?_;refine rA (Iw _) ?_;cases z.par<;>rfl) (λy hy zz w=>by
   refine au (DT.mp hy) λz zz zq2=>?_;subst zq2;exact l_ (tI (xs:=[.int (if z.par then 18 else 16),.int z.nd,.int z.a,.int z.b]) 2 rfl (by decide) (by simp) (aa (xM rfl)))) (λy hy zz w hw=>by
   refine au (DT.mp hy) λz zz zq2=>?_;subst zq2;exact d8 (ds:=[.int z.nd,w]) (an (Z4 rfl) (an rfl bX)) (aa (xM rfl))) (by refine rA (pW _) ?_;rw [eL];refine rA (xO _) ?_;exact aa (by lia))
 rw [pW] at hcm
 have h:=s72 (ls:=start m J.length) (es:=iw J) (μ:=μ) (by refine rA (ot _ _) ?_;lia) (λp hp=>by
  refine rA (ot _ _) ?_;refine au (Lm.mp hp) λy hy h=>?_
  have:=hb y (Ow.mp hy).1
  simp only [Cc,Er,or_false] at h
  rcases h with rfl|rfl<;>dsimp only<;>lia)
 unfold mY;exact (bO (iR (V:=.d (.list (nL (start m J.length)))) rfl (bY hcm) h)).trans rfl
theorem pS{s:Str}(h:s=wd k):kS s ρ μ=some (.d (.str (wd k)),μ):=by refine rB h ?_;rfl
noncomputable def rV:List Str:=(zt 10).map wd
theorem an4(x:c_)(μ:List ah):om x.loc μ=some (.next,({x with names:=some (.d (.list (bS rV)))}).loc,μ):=by
 have h:aU [(kS "OPTIMIZED"),(kS "NEWLOCALS"),(kS "VARARGS"),(kS "VARKEYWORDS"),(kS "NESTED"),(kS "GENERATOR"),(kS "NOFREE"),(kS "COROUTINE"),(kS "ITERABLE_COROUTINE"),(kS "ASYNC_GENERATOR")] x.loc μ=some (.d (.list (bS rV)),μ):=
  dJ (ds:=bS rV) (an (pS (k:=0) (by decide+kernel)) (an (pS (k:=1) (by decide+kernel)) (an (pS (k:=2) (by decide+kernel)) (an (pS (k:=3) (by decide+kernel)) (an (pS (k:=4) (by decide+kernel)) (an (pS (k:=5) (by decide+kernel)) (an (pS (k:=6) (by decide+kernel)) (an (pS (k:=7) (by decide+kernel)) (an (pS (k:=8) (by decide+kernel)) (an (pS (k:=9) (by decide+kernel)) bX)))))))))) (aa (by decide))
 unfold om;exact (bO h).trans rfl
theorem Iq:((zt 7).all λi=>hx (2^ (10+i))==wd (10+i)&&decide ((hx (2^ (10+i))).length≤1000))=true:=by decide+kernel
noncomputable def iG(low n:Nat):List Str:=(zt n).map λk=>wd (low+k)
noncomputable def hxD:PyData→PyData
 | .int p=>.str (hx (2^p.toNat))
 |x=>x
theorem am7(x:c_)(J:List Jn)(low:Nat)(μ:List ah)(hl:low<13)(hJ:J.length≤5):nW ({x with low:=some (.d (.int low)),forks:=some (.d (.list (jL J))),names:=some (.d (.list (bS rV)))}).loc μ=
  some (.next,({x with low:=some (.d (.int low)),forks:=some (.d (.list (jL J))),names:=some (.d (.list (bS rV))),words:=some (.d (.list (bS (iG low J.length))))}).loc,μ):=by
 let ρ:=({x with low:=some (.d (.int low)),forks:=some (.d (.list (jL J))),names:=some (.d (.list (bS rV)))}:c_).loc
 have hcm:=ic (sc:=tH) (itf:=aK false (af [(kI 10),(kI 17)] cH)) (e:=af [(aj (kI 2) (a9 31) (aS gu))] oS) (ρ:=ρ) (μ:=μ) (g:=none) (xs:=(zt 7).map λ(i:Nat)=>F8 ((10+i:Nat):Int)) 31 hxD (rG (a:=10) (b:=17) (iR (V:=.d (.int 10)) (V':=.d (.int 17)) rfl rfl rfl) (by decide) (by decide)) (az _ _) (λy hy=>by
  refine au (DT.mp hy) λi hi zq2=>?_;subst zq2
  have:=Bw.mp Iq i hi
  rw [Fd,decide_eq_true_iff] at this
  have hi7:=D3.mp hi;exact tn (kq rfl (by lia)) this.2) (aa (xM rfl))
 have e1:((zt 7).map λ(i:Nat)=>F8 ((10+i:Nat):Int)).map hxD=bS ((zt 7).map λi=>wd (10+i)):=by
  refine rA E_ ?_;rw [bS];refine rA E_ ?_;refine FO λi hi=>?_
  have:=Bw.mp Iq i hi
  rw [Fd,beq_iff_eq] at this
  refine (?_:Lv (hx (2^ ((10+i:Nat):Int).toNat))=Lv (wd (10+i)));refine rA (Fq _) ?_;exact rA this.1 rfl
 rw [e1] at hcm
 have h1:=cU (f:=a9 24) (ρ:=ρ) (V:=.d (.list (bS rV))) rfl (bY hcm) rfl rfl (aa (by decide));have e2:bS rV++bS ((zt 7).map λi=>wd (10+i))=bS (iG 0 17):=by
  unfold bS rV iG;refine rB Kf ?_
  congr 1
 rw [e2] at h1
 have h2:=gG (f:=a9 21) (ρ:=ρ) (μ:=μ) (V:=.d (.list (jL J))) (xs:=jL J) rfl rfl (by rw [jL];refine rA (xO _) ?_;exact aa (by lia));have h3:aL (aj (a9 5) (af [(a9 21)] dC) aT) ρ μ=some (some ((low+J.length:Nat):Int),μ):=by
  have:=dF (cT (f:=a9 5) (x:=low) rfl h2)
  rw [jL,xO] at this
  refine rA this ?_;rfl
 have hw:(bS (iG 0 17)).length=17:=by simp [bS,iG]
 have h4:=fg h1 (dF (x:=low) rfl:aL (a9 5) ρ μ=_) h3 (by refine rA hw ?_;exact aa (by decide));rw [G_ _ (by lia) (by refine rA hw ?_;lia)] at h4
 have e3:((bS (iG 0 17)).drop low).take (low+J.length-low)=bS (iG low J.length):=by
  rw [bS];refine rB Tm ?_;refine rB Rs ?_;rw [bS]
  congr 1
  apply TS;intro k;unfold iG;rw [List.getElem?_take,Qe,G1,G1]
  by_cases hk:k<J.length
  ·refine rA (if_pos (by lia)) ?_;rw [O4 (by lia),O4 hk]
   simp
  ·refine rA (if_neg (by lia)) ?_;rw [Po (by rw [Js];lia)]
   rfl
 rw [e3] at h4
 unfold nW;exact (bO h4).trans rfl
theorem ar0(x:c_)(μ:List ah):o9 x.loc μ=some (.next,({x with trees:=some (.c μ.length)}).loc,μ++[.live []]):=by
 unfold o9;exact (bO vD).trans rfl
noncomputable def wq(k:Nat):List Nat:=wX.getD k []
theorem ZW(k:Nat):wd k=tS (wq k):=rfl
noncomputable def gO(low f mask:Nat):List (List Nat):=if mask=0 then [[48,120,48]] else (hZ low f mask).map wq
theorem NU:((zt 6).all λf=>(zt (2^f)).all λmask=>((zt f).filter (iH mask)).isEmpty==decide (mask=0))=true:=by decide+kernel
theorem Vu:((zt 32).all λk=>(wq k).all (λc=>decide (c<128))&&!(wq k).isEmpty&&!(wq k).contains 44&&decide ((wq k).length≤20))=true:=by decide+kernel
theorem Tf:((zt 13).all λlow=>(zt 6).all λf=>(zt (2^f)).all λmask=>(zt f).all λk=>((gO low f mask).any λw=>w==wq (low+k))==iH mask k)=true:=by decide+kernel
theorem Pw:((zt 32).all λmask=>(zt 5).all λk=>((((mask:Int).fdiv (2^k)).fmod 2==1)==iH mask k)&&decide (¬((2:Int)^k=0∨2^64≤((2:Int)^k).natAbs)))=true:=by decide+kernel
theorem Cb{f:Nat}(hf:f<6):2^f≤2^5:=Su (by decide) (by lia)
theorem af5{p:Nat→Nat→Bool}(h:((zt 6).all λf=>(zt (2^f)).all λmask=>p f mask)=true){f:Nat}(hf:f<6)(hm:mask<2^f):p f mask=true:=
 Bw.mp (Bw.mp h f (D3.mpr hf)) mask (D3.mpr hm)
theorem lY{f:Nat}(low:Nat)(hf:f<6)(hm:mask<2^f):hZ low f mask=[]↔mask=0:=by
 have:=af5 (p:= λf mask=>((zt f).filter (iH mask)).isEmpty==decide (mask=0)) NU hf hm
 rw [beq_iff_eq] at this
 unfold hZ;refine rA (propext (O6)) ?_;refine rB (propext (Uh)) ?_;refine rA this ?_;rw [decide_eq_true_iff]
theorem yx{f:Nat}(hk:k∈hZ low f mask):k<low+f:=by
 refine au (DT.mp hk) λj hj zq2=>?_;subst zq2
 have:=D3.mp (Ow.mp hj).1
 lia
theorem AX(hk:k<32):(∀c∈wq k,c<128)∧wq k≠[]∧44∉wq k∧(wq k).length≤20:=by
 have:=Bw.mp Vu k (D3.mpr hk)
 simp only [Fd,Bw,decide_eq_true_eq,MW,List.isEmpty_eq_false_iff,N8,decide_eq_false_iff_not] at this
 exact (lq this.1.1.1 this.1.1.2 this.1.2 this.2)
theorem qL{f:Nat}(hl:low<13)(hf:f<6)(hm:mask<2^f):gO low f mask≠[]∧(gO low f mask).length≤5∧∀w∈gO low f mask,(∀c∈w,c<128)∧w≠[]∧44∉w∧w.length≤20:=by
 unfold gO
 split
 ·refine (fu (by simp) (by simp) (λw hw=>?_))
  refine rA (Aq.mp hw) ?_;refine (lq (by simp) (by simp) (by simp) (by simp))
 ·rename_i h
  refine (fu (λe=>h ((lY low hf hm).mp (O6.mp e))) ?_ (λw hw=>?_))
  ·have:=Hf (iH mask) (zt f)
   rw [Js] at this
   simp only [hZ,xO];lia
  ·refine au (DT.mp hw) λk hk zq2=>?_
   subst zq2;exact AX (by have:=yx hk;lia)
theorem lx:∀ws:List (List Nat),(∀w∈ws,w.length≤20)→(cG ws).length≤22*ws.length
 | [],_=>DU 0
 | [w],h=>by have:=h w (by simp);simp only [cG,Gb];lia
 |w::v::r,h=>by
  have ih:=lx (v::r) (λu hu=>h u (D1 _ hu))
  have:=h w (by simp)
  simp only [cG,be,AH,EZ] at ih⊢
  lia
theorem vo:∀ws:List (List Nat),(∀w∈ws,∀c∈w,c<128)→∀c∈cG ws,c<128
 | [],_,c,hc=>by cases hc
 | [w],h,c,hc=>h w (by simp) c hc
 |w::v::r,h,c,hc=>by
  simp only [cG,AE,Cc,Er,or_false] at hc
  rcases hc with (hc|hc)|hc
  ·exact h w (by simp) c hc
  ·lia
  ·exact vo (v::r) (λu hu=>h u (D1 _ hu)) c hc
theorem Dv:∀ws:List (List Nat),ws≠[]→(∀w∈ws,w≠[])→cG ws≠[]
 | [],h,_=>absurd rfl h
 | [w],_,h=>h w (by simp)
 |w::v::r,_,h=>by
  intro e;simp only [cG,List.append_eq_nil_iff] at e
  exact h w (by simp) e.1.1
def eS(low f mask:Nat):Str:=tS (cG (gO low f mask))
theorem G7{f:Nat}(hf:f<6)(hm:mask<2^f):LA ", " (FA (hZ low 5 mask) (if mask=0 then some 0 else none))=eS low f mask:=by
 have e5:=af5 (p:= λf mask=>(zt 5).filter (iH mask)==(zt f).filter (iH mask)) ZY hf hm;rw [beq_iff_eq] at e5
 have e5':hZ low 5 mask=hZ low f mask:=by unfold hZ;exact rA e5 rfl
 refine rA e5' ?_;unfold eS gO
 by_cases h:mask=0
 ·refine rA (if_pos h) ?_;refine rA (if_pos h) ?_;refine rA ((lY low hf hm).mpr h) ?_
  refine (?_:LA gY [hx 0]=_);refine rA YX ?_;exact qy [[48,120,48]]
 ·refine rA (if_neg h) ?_;refine rA (if_neg h) ?_
  refine (?_:LA gY ((hZ low f mask).map wd)=_);refine rA (show (hZ low f mask).map wd=((hZ low f mask).map wq).map tS by rw [E_];rfl) ?_;exact qy _
theorem ME{f:Nat}(hl:low<13)(hf:f<6)(hm:mask<2^f):cO [.d (.int ((mask:Int)*2^low))] μ=some (.d (.str (eS low f mask)),μ):=by
 have h:=Bw.mp (Bw.mp HE low (D3.mpr hl)) mask (D3.mpr (by have:=Cb hf;lia));rw [beq_iff_eq] at h
 refine rB (G7 hf hm) ?_;refine ab7 h (λfl' e=>?_)
 split at e
 ·refine cC e ?_;refine rA YX ?_;decide
 ·exact cv e
theorem Hb{f:Nat}(hl:low<13)(hf:f<6)(hm:mask<2^f):(cG (gO low f mask)).length≤110:=by
 refine dW (qL hl hf hm) λh1 h2 h3=>?_
 have:=lx _ (λw hw=>(h3 w hw).2.2.2)
 lia
theorem JS{f:Nat}(hl:low<13)(hf:f<6)(hm:mask<2^f):pn n (.str (eS low f mask)):=
 iz (vo _ λw hw=>((qL hl hf hm).2.2 w hw).1)
theorem qp(g:Nat→PyData):∀ (n a s:Nat),cN a ((Ff s n).map g)=(zt n).map λk=>.tuple [.int ((a+k:Nat):Int),g (s+k)]
 |0,_,_=>rfl
 |n+1,a,s=>by
  refine rA RB ?_;refine rA F7 ?_;rw [cN];refine rA (qp g n (a+1) (s+1)) ?_;refine rA LP ?_;refine rA F7 ?_;refine rA E_ ?_;refine congr (congrArg _ rfl) (FO λi zz=>?_);refine (?_:Jy [.int _,g _]=Jy [.int _,g _]);refine rA (show a+1+i=a+(i+1) by lia) ?_;exact rA (show s+1+i=s+(i+1) by lia) rfl
theorem tO(low n:Nat):bS (iG low n)=(Ff 0 n).map λk=>Lv (wd (low+k)):=by
 rw [bS,iG];refine rA E_ ?_;refine rA Lx ?_;rfl
noncomputable def pB(mask:Nat):PyData→Bool
 | .tuple [.int k,_]=>iH mask k.toNat
 |_=>false
theorem ap4{w:PyData}:pB mask (.tuple [.int k,w])=iH mask k:=rfl
noncomputable def wB:PyData→PyData
 | .tuple [_,w]=>w
 |x=>x
theorem CS(low f mask:Nat):((cN 0 (bS (iG low f))).filter (pB mask)).map wB=bS ((hZ low f mask).map wd):=by
 refine rA (tO _ _) ?_;refine rA (qp _ _ _ _) ?_;refine rA OD ?_;refine rA E_ ?_;rw [bS,hZ];refine rA E_ ?_;refine rA E_ ?_;have e:(pB mask∘ λk:Nat=>Jy [.int ((0+k:Nat):Int),.str (wd (low+(0+k)))])=iH mask:=by
  funext k
  refine (?_:iH mask ((0+k:Nat):Int).toNat=_);refine rA (Fq _) ?_;exact rA (LC _) rfl
 refine rA e ?_;refine FO λk zz=>?_;refine (?_:Lv (wd (low+(0+k)))=_);refine rA (LC _) ?_;rfl
theorem U1{a:List Nat}(hf:f ρ μ=some (.d (.str (tS a)),μ))(hz:a.length≤100000)(h1:a≠[]→V=.d (.str (tS a)))(h2:a=[]→g ρ μ=some (V,μ)):orA f g ρ μ=some (V,μ):=by
 have ht:ko (.d (.str (tS a))) μ=some ((a.length:Int) != 0):=by
  exact (eZ (rfl:Nw (.d (.str (tS a)))=none)).trans ((eZ (rfl:jM (.d (.str (tS a)))=none)).trans ((eZ (rfl:Pt (.d (.str (tS a)))=none)).trans ((oX (rfl:lS (.d (.str (tS a)))=some _) rfl).trans ((if_pos (by rw [eC];exact aa hz)).trans (by rw [eC])))))
 refine (b5 hf).trans ((bU ht).trans ?_);cases a with
 |nil=>exact h2 rfl
 |cons c a=>
  rw [show (((c::a).length:Int) != 0)=true from bne_iff_ne.mpr (by rw [AH];lia)];exact congrArg (λV=>some (V,μ)) (h1 (by simp)).symm
theorem nB:∀ (es:List (Nat×Nat)) (l:List Nat),di l es=[]∨(di l es).length=l.length
 | [],l=>.inr rfl
 | (a,b)::es,l=>by
  rw [di]
  split
  ·exact .inl rfl
  ·rcases nB es (l.map λx=>if x=l.getD b 0 then l.getD a 0 else x) with h|h
   ·exact .inl h
   ·exact .inr (h.trans (xO ..))
theorem R8(l:List Nat):nL l=iL (l.map λ(n:Nat)=>(n:Int)):=by simp [nL,iL]
theorem JY(a b:List Nat)(μ:List ah):dK (.d (.list (nL a))) (.d (.list (nL b))) μ=some (a==b):=by
 refine rA (R8 _) ?_;refine rA (R8 _) ?_;refine rA (Bt _ _ _) ?_
 congr 1
 refine rA (propext (PY)) ?_;refine rA (propext (beq_iff_eq)) ?_;refine rA (propext (beq_iff_eq)) ?_;constructor
 ·intro h
  have:=congrArg (List.map Int.toNat) h
  simpa [E_,N4] using this
 ·rintro rfl;rfl
theorem QM(a b:List Nat)(μ:List ah):p8 (.d (.list (nL a))) (.d (.list (nL b))) μ=some (!(a==b)):=by
 exact bU (JY _ _ _)
theorem KF(a:Nat):∀n,nu (nL [a]) n=nL (GW n a)
 |0=>rfl
 |n+1=>by rw [nu];refine rA (KF a n) ?_;rfl
theorem C7:∀ (a:Nat) (l:List Nat),((l==GW l.length a)=l.all (· ==a))
 |a,[]=>rfl
 |a,b::l=>by
  refine rA AH ?_;refine rA NA ?_;refine rA List.cons_beq_cons ?_;refine rA (C7 a l) ?_;exact rA Mm rfl
theorem Tb{l:List Nat}(h:a9 i ρ μ=some (.d (.list (nL l)),μ))(hz:l.length≤100):
  sk (d_ (a9 i) (aU []) p8) (d_ (a9 i) (aj (ci (a9 i) ba (aL (kI 1))) (af [(a9 i)] dC) l9) dK) ρ μ=some (.d (.bool (Xc l)),μ):=by
 have h1:d_ (a9 i) (aU []) p8 ρ μ=some (.d (.bool (!(l==[]))),μ):=hH h uB (QM l [] μ);have hn:(nL l).length=l.length:=by simp [nL]
 cases l with
 |nil=>exact (oZ (c:=false) (μ2:=μ) h1 (λq=>by cases q)).trans rfl
 |cons a l=>
  have a1:ci (a9 i) ba (aL (kI 1)) ρ μ=some (.d (.list (nL [a])),μ):=by
   have:=fg (f:=a9 i) (p:=ba) (q:=aL (kI 1)) (ρ:=ρ) (μ:=μ) (lo:=none) (hi:=some ((1:Nat):Int)) h rfl (dF (x:=1) rfl) (by refine rA hn ?_;exact aa (by lia))
   refine rA this ?_;refine rA (p0 _ (by rw [hn,AH];lia)) ?_;rfl
  have a2:=gG (f:=a9 i) h rfl (by refine rA hn ?_;exact aa (by lia));rw [hn] at a2
  have a3:=CE a1 a2 (by
   refine rA (Fq _) ?_;refine rA (Int.natAbs_natCast _) ?_;simp only [AH] at hz⊢
   simp only [nL,xO,AH,EZ];lia)
  rw [Fq,KF] at a3
  have h2:=hH h a3 (JY (a::l) (GW (a::l).length a) μ);refine (oZ h1 (λzz=>h2)).trans ?_;refine rA (if_pos (by rfl)) ?_;refine rA (C7 _ _) ?_;rfl
noncomputable def Xx(low f mask:Nat)(w:List Nat):Bool:=(gO low f mask).any λu=>u==w
theorem y5{f:Nat}(hl:low<13)(hf:f<6)(hm:mask<2^f)(hk:k<f):Xx low f mask (wq (low+k))=iH mask k:=by
 have:=Bw.mp (Bw.mp (Bw.mp (Bw.mp Tf low (D3.mpr hl)) f (D3.mpr hf)) mask (D3.mpr hm)) k (D3.mpr hk)
 rw [beq_iff_eq] at this
 exact this
noncomputable def chD(low f mask:Nat):PyData→PyData
 | .tuple [.str w,.tuple [_,nd,a,b]]=>.tuple [nd,if Xx low f mask w.cps.toList then b else a]
 |x=>x
theorem Bk(low f mask:Nat):∀ (J:List Jn) (s:Nat),(∀k,s≤k→k<s+J.length→Xx low f mask (wq (low+k))=iH mask k)→
  (m9 ((Ff s J.length).map λk=>Lv (wd (low+k))) (jL J)).map (chD low f mask)=eL (sO (mask/2^s) J)
 | [],s,_=>rfl
 |y::J,s,h=>by
  have ih:=Bk low f mask J (s+1) (λk h1 h2=>h k (by lia) (by refine rA AH ?_;lia));have h0:=h s (DU s) (by refine rA AH ?_;lia);refine rA AH ?_;refine rA RB ?_;refine rA F7 ?_
  show chD low f mask (.tuple [.str (wd (low+s)),y.enc])::(m9 ((Ff (s+1) J.length).map λk=>Lv (wd (low+k))) (jL J)).map (chD low f mask)=_
  refine rA ih ?_;refine rA (Qf _ _) ?_;refine rB (RK _ _ _) ?_;rw [sO]
  have:chD low f mask (.tuple [.str (wd (low+s)),y.enc])=.tuple [.int y.nd,.int ((if mask/2^s%2=1 then y.b else y.a:Nat):Int)]:=by
   refine (?_:Jy [.int y.nd,if Xx low f mask (wd (low+s)).cps.toList then .int y.b else .int y.a]=_);refine rA (ZW _) ?_;refine rA (fZ _) ?_;refine rA h0 ?_;unfold iH
   by_cases q:mask/2^s%2=1
   ·refine rA (if_pos q) ?_;exact rA (if_pos (by rw [q];rfl)) rfl
   ·refine rA (if_neg q) ?_;exact rA (if_neg (by rw [beq_iff_eq];exact q)) rfl
  refine rA this ?_;rfl
theorem Bh:∀ (J:List Jn) (k:Nat) {p:Nat×Nat},p∈sO k J→∃y∈J,p.1=y.nd∧(p.2=y.a∨p.2=y.b)
 | [],_,_,h=>by cases h
 |y::J,k,p,h=>by
  rcases Cc.mp h with rfl|h
  ·refine (cL y (by simp) rfl ?_)
   dsimp only
   split
   ·exact .inr rfl
   ·exact .inl rfl
  ·refine au (Bh J (k/2) h) λz hz e=>?_
   exact (aZ z (by simp [hz]) e)
theorem It{f:Nat}{h:EF}(hl:low<13)(hf:f<6)(hm:mask<2^f)(hk:k<f)(h1:g ρ μ=some (.d (.str (wd (low+k))),μ))(h2:h ρ μ=some (.d (.str (eS low f mask)),μ)):nz g h ", " ρ μ=some (iH mask k,μ):=by
 refine dW (qL hl hf hm) λw1 w2 w3=>?_;have hp:=qH (gO low f mask) w1 (λw hw=>(w3 w hw).2.2.1);have hs:=xZ (gO low f mask) w1 (λw hw=>(w3 w hw).2.2.1);have hlen:=Hb hl hf hm;have hc:La (((gO low f mask).map tS).map .str)=true:=(kL (n:=0) λx hx=>by
  refine au (DT.mp hx) λt ht zq2=>?_;subst zq2;refine au (DT.mp ht) λw hw zq2=>?_;subst zq2;exact iz (w3 w hw).1).1
 have ho:U3 (wd (low+k))=true:=(iz (n:=0) (AX (k:=low+k) (by lia)).1).1;have he:((((gO low f mask).map tS).map Lv).any λy=>Mx y (.str (wd (low+k))))=iH mask k:=by
  refine rB (y5 hl hf hm hk) ?_;rw [Xx];refine rA List.any_map ?_;refine rA List.any_map ?_
  congr 1
  funext u
  refine (?_:(tS u==tS (wq (low+k)))=_);refine rA (HU _ _) ?_;refine rA (propext (PY)) ?_;refine rA (propext (decide_eq_true_iff)) ?_;refine rA (propext (beq_iff_eq)) ?_;exact eq_comm
 refine (b5 h1).trans ((bU rfl).trans ((b5 h2).trans ((bU rfl).trans ?_)));have key:∀X:Str,X=tS (cG (gO low f mask))→(if X.length≤sizeLine∧(Ob X (Lz X gY 0 X.length (X.length+1)) gY.length).length≤sizeLine∧La ((PM X gY).map .str)=true∧U3 (wd (low+k))=true then some (((PM X gY).map Lv).any λy=>Mx y (.str (wd (low+k))),μ) else none)=some (iH mask k,μ):=by
  rintro X rfl
  refine rA hp ?_;refine rA hs ?_;refine rA he ?_;exact rA (if_pos (lq (by rw [eC];exact aa (by lia)) (by rw [xO];exact aa (by lia)) hc ho)) rfl
 exact key _ rfl
theorem Zh(hf:f ρ μ=some (.d (.list xs),μ))(hg:g ρ μ=some (.d (.list ys),μ)):b_ [f,g] lr ρ μ=some (m9 xs ys,none,μ):=by
 exact (b5 (zc hf hg)).trans rfl
theorem O0(xs ys:List PyData){z:PyData}(h:z∈m9 xs ys):∃ (i:Nat) (x y:PyData),xs[i]? =some x∧ys[i]? =some y∧z=.tuple [x,y]:=
 bP (iE h) λi e=>we e λx y h1 h2 h3=>pc i x y h1 h2 h3
theorem Mg(xs ys:List PyData):(m9 xs ys).length≤xs.length:=SL▸UA ..
noncomputable def bL(T:List Bool):List PyData:=T.map .bool
def oB(low f mask:Nat):PyData:=.tuple [.str (eS low f mask),.str (eS low f mask)]
theorem EX{f:Nat}(hl:low<13)(hf:f<6)(hm:mask<2^f):Good (oB low f mask):=dU (n:=0) (JS hl hf hm) (by decide)
noncomputable def Fk(L:List Nat)(J:List Jn)(mask:Nat):List Nat:=if L=[] then [] else di L (sO mask J)
abbrev Ki:SF:=(ap (cb 28 (af [(aj (a9 27) (aj (kI 2) (a9 5) (aS gu)) l9)] cO)) (ap (cj (eh (a9 12) (cY [(a9 28),(orA (dw (kS ", ") [(ce mK (b_ [(a9 25)] ga) (j6 31 32) (cX (bA (aj (aj (a9 27) (aj (kI 2) (a9 31) (aS gu)) (aS cQ)) (kI 2) (aS cu)) (kI 1) dK) (aY (a9 32))))] f5) (kS "0x0"))]))) (ap (gb 29 kK (b_ [(a9 25),(a9 21)] lr) (j6 31 32) (cX bg (aY (cY [(aF (a9 32) (kI 1)),(dx (nz (a9 31) (a9 28) ", ") (aF (a9 32) (kI 3)) (aF (a9 32) (kI 2)))]))) false) (ap (cb 30 (dx (bA (a9 23) (aU []) p8) (af [(a9 23),(a9 29)] df) (aU []))) (ap (cj (eh (a9 26) (sk (d_ (a9 30) (aU []) p8) (d_ (a9 30) (aj (ci (a9 30) ba (aL (kI 1))) (af [(a9 30)] dC) l9) dK)))) aP)))))
section
variable {f:Nat} {L:List Nat}
theorem ZD(x:c_)(hl:low<13)(hf:f<6)(hm:mask<2^f):cb 28 (af [(aj (a9 27) (aj (kI 2) (a9 5) (aS gu)) l9)] cO) ({x with low:=some (.d (.int low)),mask:=some (.d (.int mask))}).loc μ=
  some (.next,({x with low:=some (.d (.int low)),mask:=some (.d (.int mask)),said:=some (.d (.str (eS low f mask)))}).loc,μ):=by
 let ρ:=({x with low:=some (.d (.int low)),mask:=some (.d (.int mask))}:c_).loc
 have h:aj (a9 27) (aj (kI 2) (a9 5) (aS gu)) l9 ρ μ=some (.d (.int ((mask:Int)*2^low)),μ):=ur rfl (kq rfl (by lia)) (FQ (by lia));exact (bO (d6 h (ME hl hf hm))).trans rfl
theorem Z6(x:c_)(hl:low<13)(hf:f<6)(hm:mask<2^f)(hc:μ[2]? =some (.live X))(hz:X.length≤10000):cj (eh (a9 12) (cY [(a9 28),(orA (dw (kS ", ") [(ce mK (b_ [(a9 25)] ga) (j6 31 32) (cX (bA (aj (aj (a9 27) (aj (kI 2) (a9 31) (aS gu)) (aS cQ)) (kI 2) (aS cu)) (kI 1) dK) (aY (a9 32))))] f5) (kS "0x0"))])) ({x with asked:=some (.c 2),words:=some (.d (.list (bS (iG low f)))),mask:=some (.d (.int mask)),said:=some (.d (.str (eS low f mask)))}).loc μ=
  some (.next,({x with asked:=some (.c 2),words:=some (.d (.list (bS (iG low f)))),mask:=some (.d (.int mask)),said:=some (.d (.str (eS low f mask)))}).loc,μ.set 2 (.live (X++[oB low f mask]))):=by
 let ρ:=({x with asked:=some (.c 2),words:=some (.d (.list (bS (iG low f)))),mask:=some (.d (.int mask)),said:=some (.d (.str (eS low f mask)))}:c_).loc
 have h32:=Cb hf;have hcm:=rL (sc:=mK) (itf:=b_ [(a9 25)] ga) (t:=bA (aj (aj (a9 27) (aj (kI 2) (a9 31) (aS gu)) (aS cQ)) (kI 2) (aS cu)) (kI 1) dK) (e:=a9 32) (ρ:=ρ) (μ:=μ) 31 32 (by decide) (pB mask) wB
  (jV (V:=.d (.list (bS (iG low f)))) rfl rfl) (az _ _) (λy hy=>by
   rw [tO,qp] at hy
   refine au (DT.mp hy) λk hk zq2=>?_;subst zq2;have hk5:=D3.mp hk;have hb:=Bw.mp (Bw.mp Pw mask (D3.mpr (by lia))) k (D3.mpr (by lia));rw [Fd,beq_iff_eq,decide_eq_true_iff] at hb
   refine (dy _ _ rfl ?_ (λzz=>rfl));refine rA (LC _) ?_;refine (o4 (y:=1) (cW (cW (x:=mask) rfl (kq (y:=k) rfl (by lia)) (l6 hb.2)) rfl (fk (by decide))) rfl).trans ?_;refine rA hb.1 ?_;exact congrArg (λb=>some (b,μ)) ap4.symm) (by refine rA (ij _ _) ?_;exact aa (by simp [bS,iG];lia))
 rw [CS] at hcm
 have hsl:(hZ low f mask).length≤5:=by
  have:=Hf (iH mask) (zt f)
  rw [Js] at this
  simp only [hZ,xO];lia
 have hws:=uG (hZ low f mask);have hj:=ua (sep:=", ") (bY hcm) rfl (by
  refine rA (xO _) ?_;refine rA (show (", ":Str).length=2 from by decide) ?_;lia)
 have e0:(hZ low f mask).map wd=((hZ low f mask).map wq).map tS:=by rw [E_];rfl
 have ej:LA ", " ((hZ low f mask).map wd)=tS (cG ((hZ low f mask).map wq)):=by refine rA e0 ?_;exact qy _
 rw [ej] at hj
 have hlen:=lx ((hZ low f mask).map wq) (λw hw=>by
  refine au (DT.mp hw) λk hk zq2=>?_;subst zq2;exact (AX (by have:=yx hk;lia)).2.2.2)
 rw [xO] at hlen
 have ho:=U1 (g:=kS "0x0") (V:=.d (.str (eS low f mask))) hj (by lia) (λhne=>by
  unfold eS gO;exact rA (if_neg (λq=>hne (by rw [(lY low hf hm).mpr q];rfl))) rfl) (λhe=>by
  have:hZ low f mask=[]:=by
   apply Classical.byContradiction;intro hne;exact Dv _ (λq=>hne (O6.mp q)) (λw hw=>by
    refine au (DT.mp hw) λk hk zq2=>?_;subst zq2;exact (AX (by have:=yx hk;lia)).2.1) he
  have:=(lY low hf hm).mp this
  unfold eS gO;refine rA (if_pos this) ?_;rfl)
 exact oc rfl (d8 (ds:=[.str (eS low f mask),.str (eS low f mask)]) (an rfl (an ho bX)) (aa (xM rfl))) hc (by lia)
theorem Yp(x:c_)(hl:low<13)(hf:f<6)(hm:mask<2^f)(hJ:J.length=f):gb 29 kK (b_ [(a9 25),(a9 21)] lr) (j6 31 32) (cX bg (aY (cY [(aF (a9 32) (kI 1)),(dx (nz (a9 31) (a9 28) ", ") (aF (a9 32) (kI 3)) (aF (a9 32) (kI 2)))]))) false ({x with forks:=some (.d (.list (jL J))),words:=some (.d (.list (bS (iG low f)))),said:=some (.d (.str (eS low f mask)))}).loc μ=
  some (.next,({x with forks:=some (.d (.list (jL J))),words:=some (.d (.list (bS (iG low f)))),said:=some (.d (.str (eS low f mask))),chosen:=some (.d (.list (eL (sO mask J))))}).loc,μ):=by
 let ρ:=({x with forks:=some (.d (.list (jL J))),words:=some (.d (.list (bS (iG low f)))),said:=some (.d (.str (eS low f mask)))}:c_).loc
 have hcm:=t8 (sc:=kK) (itf:=b_ [(a9 25),(a9 21)] lr) (e:=cY [(aF (a9 32) (kI 1)),(dx (nz (a9 31) (a9 28) ", ") (aF (a9 32) (kI 3)) (aF (a9 32) (kI 2)))]) (ρ:=ρ) (μ:=μ) 31 32 (by decide) (chD low f mask)
  (Zh (xs:=bS (iG low f)) (ys:=jL J) rfl rfl) (az _ _) (λz hz=>by
   refine jx (O0 _ _ hz) λk a b h1 h2 zq5=>?_;subst zq5;have hk:k<J.length:=by
    have:=(BW.mp h2).1
    simpa [jL] using this
   have ea:a=.str (wd (low+k)):=by
    rw [bS,iG,E_,G1,O4 (by lia)] at h1
    exact (Fh h1).symm
   obtain ⟨y,hy,rfl⟩:∃y:Jn,J[k]? =some y∧b=y.enc:=by
    rw [jL,G1] at h2
    refine au (J4.mp h2) λy hy e=>?_;exact (aZ y hy e.symm)
   subst ea;refine (fO _ _ rfl ?_);have hs:=It (g:=a9 31) (h:=a9 28) (ρ:=((bG kK ρ).set 31 (some (.d (.str (wd (low+k)))))).set 32 (some (.d y.enc))) (μ:=μ) hl hf hm (by lia) rfl rfl;refine (d8 (ds:=[.int y.nd,if iH mask k then .int y.b else .int y.a]) (an (Z4 rfl) (an (ln hs (λhb=>?_) (λhb=>?_)) bX)) (aa (xM rfl))).trans ?_
   ·refine rA (if_pos hb) ?_;exact ap3 rfl
   ·refine rA (if_neg (by rw [hb];exact Hm)) ?_;exact ap8 rfl
   ·refine (?_:_=some (AV.d (Jy [.int y.nd,if Xx low f mask (wd (low+k)).cps.toList then .int y.b else .int y.a]),μ))
    refine rA (ZW _) ?_;refine rA (fZ _) ?_;exact rA (y5 hl hf hm (by lia)) rfl) (L3 (Mg _ _) (aa (by simp [bS,iG];lia)))
 have e:=Bk low f mask J 0 (λk zz hk=>y5 hl hf hm (by lia));rw [U8,Nat.div_one,hJ,←tO] at e
 rw [e] at hcm
 exact (jA hcm).trans rfl
theorem Oi(hL:L.length≤100):(Fk L J mask).length≤100:=by
 unfold Fk
 split
 ·simp
 ·rcases nB (sO mask J) L with h|h
  ·refine rA h ?_;simp
  ·lia
theorem aa6(x:c_)(hL:L.length≤100)(hb:L≠[]→∀y∈J,y.nd<L.length∧y.a<L.length∧y.b<L.length):cb 30 (dx (bA (a9 23) (aU []) p8) (af [(a9 23),(a9 29)] df) (aU [])) ({x with labels:=some (.d (.list (nL L))),chosen:=some (.d (.list (eL (sO mask J))))}).loc μ=
  some (.next,({x with labels:=some (.d (.list (nL L))),chosen:=some (.d (.list (eL (sO mask J)))),joined:=some (.d (.list (nL (Fk L J mask))))}).loc,μ):=by
 let ρ:=({x with labels:=some (.d (.list (nL L))),chosen:=some (.d (.list (eL (sO mask J))))}:c_).loc
 have ht:bA (a9 23) (aU []) p8 ρ μ=some (!(L==[]),μ):=dH (V:=.d (.list (nL L))) rfl uB (QM L [] μ);have h:dx (bA (a9 23) (aU []) p8) (af [(a9 23),(a9 29)] df) (aU []) ρ μ=some (.d (.list (nL (Fk L J mask))),μ):=by
  refine ln ht (λq=>?_) (λq=>?_)
  ·have hne:L≠[]:=by
    rintro rfl
    exact absurd q (by decide)
   unfold Fk;refine rA (if_neg hne) ?_;refine iR (V:=.d (.list (nL L))) (V':=.d (.list (eL (sO mask J)))) rfl rfl (s72 (by lia) (λp hp=>?_));refine ct (Bh J mask hp) λy hy e1 e2=>?_
   have:=hb hne y hy
   refine rA e1 ?_
   rcases e2 with e2|e2<;>rw [e2]<;>lia
  ·have he:L=[]:=by
    cases L with
    |nil=>rfl
    |cons a l=>exact absurd q (by simp)
   unfold Fk;refine rA (if_pos he) ?_;exact uB
 exact (bO h).trans rfl
theorem aa4(x:c_){T:List Bool}(hL:L.length≤100)(hT:T.length≤1000)(hc:μ[jt]? =some (.live (bL T))):cj (eh (a9 26) (sk (d_ (a9 30) (aU []) p8) (d_ (a9 30) (aj (ci (a9 30) ba (aL (kI 1))) (af [(a9 30)] dC) l9) dK))) ({x with trees:=some (.c jt),joined:=some (.d (.list (nL (Fk L J mask))))}).loc μ=
  some (.next,({x with trees:=some (.c jt),joined:=some (.d (.list (nL (Fk L J mask))))}).loc,μ.set jt (.live (bL (T++[je L J mask])))):=by
 refine (er (gj (j:=jt) (d:=.bool (je L J mask)) (xs:=bL T) rfl (Tb (l:=Fk L J mask) rfl (Oi hL)) hc (by rw [bL];refine rA (xO _) ?_;exact aa (by lia)))).trans ?_
 simp [bL]
theorem EQ(x:c_){T:List Bool}{sd ch jo:Option AV}(hl:low<13)(hf:f<6)(hm:mask<2^f)(hJ:J.length=f)(hL:L.length≤100)(hb:L≠[]→∀y∈J,y.nd<L.length∧y.a<L.length∧y.b<L.length)(hj:jt≠2)(hc:μ[2]? =some (.live X))(hz:X.length≤10000)(hT:T.length≤1000)(hct:μ[jt]? =some (.live (bL T))):
  Ki ({x with low:=some (.d (.int low)),asked:=some (.c 2),forks:=some (.d (.list (jL J))),labels:=some (.d (.list (nL L))),words:=some (.d (.list (bS (iG low f)))),trees:=some (.c jt),mask:=some (.d (.int mask)),said:=sd,chosen:=ch,joined:=jo}).loc μ=
   some (.next,({x with low:=some (.d (.int low)),asked:=some (.c 2),forks:=some (.d (.list (jL J))),labels:=some (.d (.list (nL L))),words:=some (.d (.list (bS (iG low f)))),trees:=some (.c jt),mask:=some (.d (.int mask)),said:=some (.d (.str (eS low f mask))),chosen:=some (.d (.list (eL (sO mask J)))),joined:=some (.d (.list (nL (Fk L J mask))))}).loc,(μ.set 2 (.live (X++[oB low f mask]))).set jt (.live (bL (T++[je L J mask])))):=by
 let y:c_:= {x with low:=some (.d (.int low)),asked:=some (.c 2),forks:=some (.d (.list (jL J))),labels:=some (.d (.list (nL L))),words:=some (.d (.list (bS (iG low f)))),trees:=some (.c jt),mask:=some (.d (.int mask)),said:=sd,chosen:=ch,joined:=jo}
 let y1:c_:= {y with said:=some (.d (.str (eS low f mask)))}
 let y2:c_:= {y1 with chosen:=some (.d (.list (eL (sO mask J))))}
 let y3:c_:= {y2 with joined:=some (.d (.list (nL (Fk L J mask))))}
 refine (aB (ρ1:=y1.loc) (ZD y hl hf hm)).trans ?_;refine (aB (ρ1:=y1.loc) (Z6 y1 hl hf hm hc hz)).trans ?_;refine (aB (ρ1:=y2.loc) (Yp y1 hl hf hm hJ)).trans ?_;refine (aB (ρ1:=y3.loc) (aa6 y2 hL hb)).trans ?_;exact (aB (ρ1:=y3.loc) (aa4 y3 hL hT (by rw [Lw (MP hj)];exact hct))).trans bK
end
theorem aq5(μ:List ah)(hj:j≠2)(a b c d:ah):(((μ.set 2 a).set j b).set 2 c).set j d=(μ.set 2 c).set j d:=by
 refine rA (Rn b c hj) ?_;refine rA (HA _) ?_;exact rA (HA _) rfl
theorem sU(x:c_){f:Nat}{L:List Nat}(xs:List PyData)(hl:low<13)(hf:f<6)(hJ:J.length=f)(hL:L.length≤100)(hb:L≠[]→∀y∈J,y.nd<L.length∧y.a<L.length∧y.b<L.length)(hj:jt≠2):∀ (n s:Nat) (X:List PyData) (T:List Bool) (μ:List ah) (mk sd ch jo:Option AV),s+n≤2^f→μ[2]? =some (.live X)→X.length+n≤10000→T.length+n≤1000→μ[jt]? =some (.live (bL T))→∃mk' sd' ch' jo',
  fR (dz 27) Ki aP none xs ((Ff s n).map λ(i:Nat)=>F8 (i:Int)) ({x with low:=some (.d (.int low)),asked:=some (.c 2),forks:=some (.d (.list (jL J))),labels:=some (.d (.list (nL L))),words:=some (.d (.list (bS (iG low f)))),trees:=some (.c jt),mask:=mk,said:=sd,chosen:=ch,joined:=jo}).loc μ=
   some (.next,({x with low:=some (.d (.int low)),asked:=some (.c 2),forks:=some (.d (.list (jL J))),labels:=some (.d (.list (nL L))),words:=some (.d (.list (bS (iG low f)))),trees:=some (.c jt),mask:=mk',said:=sd',chosen:=ch',joined:=jo'}).loc,(μ.set 2 (.live (X++(Ff s n).map (oB low f)))).set jt (.live (bL (T++(Ff s n).map (je L J)))))
 |0,s,X,T,μ,mk,sd,ch,jo,_,hc,_,_,hct=>(yM mk sd ch jo (by
  simp only [List.range'_zero,M3,DO];refine rA (eK hc) ?_;refine rA (eK hct) ?_;rfl))
 |n+1,s,X,T,μ,mk,sd,ch,jo,hs,hc,hz,hT,hct=>by
  have h2:2<μ.length:=(BW.mp hc).1;have h3:jt<μ.length:=(BW.mp hct).1;have hbd:=EQ (mask:=s) x (sd:=sd) (ch:=ch) (jo:=jo) hl hf (by lia) hJ hL hb hj hc (by lia) (by lia) hct;refine KA (sU x xs hl hf hJ hL hb hj n (s+1) (X++[oB low f s]) (T++[je L J s]) ((μ.set 2 (.live (X++[oB low f s]))).set jt (.live (bL (T++[je L J s])))) (some (.d (.int s))) (some (.d (.str (eS low f s)))) (some (.d (.list (eL (sO s J))))) (some (.d (.list (nL (Fk L J s))))) (by lia) (by rw [Lw hj];exact cB h2) (by simp;lia) (by simp;lia) (cB (by refine rA LF ?_;exact h3))) λmk' sd' ch' jo' e=>?_;refine (yM mk' sd' ch' jo' ?_);refine rA RB ?_;refine rA F7 ?_;refine rA F7 ?_;refine rA F7 ?_;refine (dP (ρ1:=({x with low:=some (.d (.int low)),asked:=some (.c 2),forks:=some (.d (.list (jL J))),labels:=some (.d (.list (nL L))),words:=some (.d (.list (bS (iG low f)))),trees:=some (.c jt),mask:=some (.d (.int s)),said:=sd,chosen:=ch,joined:=jo}:c_).loc) rfl hbd (az _ _)).trans (e.trans ?_);refine rA (aq5 μ hj _ _ _ _) ?_;refine rA (Eu _ _ _) ?_;refine rA (Eu _ _ _) ?_;rfl
theorem am8(x:c_){L:List Nat}(hl:low<13)(hf:J.length<6)(hL:L.length≤100)(hb:L≠[]→∀y∈J,y.nd<L.length∧y.a<L.length∧y.b<L.length)(hj:jt≠2)(hc:μ[2]? =some (.live X))(hz:X.length≤1000)(hct:μ[jt]? =some (.live [])):∃mk' sd' ch' jo',
  nZ ({x with low:=some (.d (.int low)),asked:=some (.c 2),forks:=some (.d (.list (jL J))),labels:=some (.d (.list (nL L))),words:=some (.d (.list (bS (iG low J.length)))),trees:=some (.c jt)}).loc μ=
   some (.next,({x with low:=some (.d (.int low)),asked:=some (.c 2),forks:=some (.d (.list (jL J))),labels:=some (.d (.list (nL L))),words:=some (.d (.list (bS (iG low J.length)))),trees:=some (.c jt),mask:=mk',said:=sd',chosen:=ch',joined:=jo'}).loc,(μ.set 2 (.live (X++(zt (2^J.length)).map (oB low J.length)))).set jt (.live (bL ((zt (2^J.length)).map (je L J))))):=by
 let ρ:=({x with low:=some (.d (.int low)),asked:=some (.c 2),forks:=some (.d (.list (jL J))),labels:=some (.d (.list (nL L))),words:=some (.d (.list (bS (iG low J.length)))),trees:=some (.c jt)}:c_).loc
 have h32:=Cb hf;have h2:=gG (f:=a9 21) (ρ:=ρ) (μ:=μ) (V:=.d (.list (jL J))) (xs:=jL J) rfl rfl (by rw [jL];refine rA (xO _) ?_;exact aa (by lia));rw [jL,xO] at h2
 have h3:af [(aj (kI 2) (af [(a9 21)] dC) (aS gu))] cH ρ μ=some (.rng (0:Nat) (2^J.length:Nat),μ):=d6 (kq h2 (by lia)) (by
  refine (?_:some (AV.rng 0 (2^J.length),μ)=_);refine rA (show ((2:Int)^J.length)=((2^J.length:Nat):Int) by simp) ?_;rfl)
 have hi:=rG h3 (by decide) (by lia);have e0:((zt (2^J.length-0)).map λ(i:Nat)=>F8 ((0+i:Nat):Int))=(Ff 0 (2^J.length)).map λ(i:Nat)=>F8 (i:Int):=by
  refine rA (Sd _) ?_;refine rB Lx ?_;refine FO λi zz=>?_;exact rA (LC _) rfl
 rw [e0] at hi
 refine KA (sU x ((Ff 0 (2^J.length)).map λ(i:Nat)=>F8 (i:Int)) hl hf rfl hL hb hj (2^J.length) 0 X [] μ x.mask x.said x.chosen x.joined (by lia) hc (by lia) (by simp;lia) hct) λmk' sd' ch' jo' e=>?_;refine (yM mk' sd' ch' jo' ?_);rw [←Lx,Ls] at e
 rw [←Lx] at hi
 unfold nZ;refine rA (gM hi) ?_;exact e
theorem an5:wd 31="0x80000000":=by decide+kernel
noncomputable def mA(low f r:Nat):List Str:=iG low f++[wd 31]++(if r=3 then [] else [hx (((r:Int)-3)*2^32)])
def JL(low f r:Nat):PyData:=.tuple [.str (LA ", " (mA low f r)),.str (LA ", " (mA low f r))]
theorem Dw(low f r:Nat):Good (JL low f r):=(fO _ _ rfl (λμ=>by
 refine (?_:some (LA ", " (mA low f r)==LA ", " (mA low f r))=_);exact rA (beq_self_eq_true _) rfl))
theorem uN{r:Nat}(hr:r<5):(hx (((r:Int)-3)*2^32)).length≤1000:=of_decide_eq_true (Bw.mp Um r (D3.mpr hr))
theorem TY{f r:Nat}(hl:low<13)(hf:f<6)(hr:r<5):cO [.d (.int ((2^f-1)*2^low+2^31+((r:Int)-3)*2^32))] μ=some (.d (.str (LA ", " (mA low f r))),μ):=by
 have h:=Bw.mp (Bw.mp (Bw.mp MZ f (D3.mpr hf)) low (D3.mpr hl)) r (D3.mpr hr);rw [beq_iff_eq] at h
 have e:FA ((zt f).map (λk=>low+k)++[31]) (if r=3 then none else some (((r:Int)-3)*2^32))=mA low f r:=by
  unfold mA iG
  by_cases q:r=3
  ·refine rA (if_pos q) ?_;refine rA (if_pos q) ?_
   simp only [FA,Kf,E_,DO,F7,M3];rfl
  ·refine rA (if_neg q) ?_;refine rA (if_neg q) ?_
   simp only [FA,Kf,E_,F7,M3];rfl
 refine rB e ?_;refine ab7 h (λfl' q=>?_)
 split at q
 ·exact cv q
 ·refine cC q ?_;exact uN hr
theorem Oo(low f:Nat):iG low f=((zt f).map λk=>low+k).map wd:=by rw [iG];refine rA E_ ?_;rfl
theorem Ji{r:Nat}:(((r:Int)-3)*2^32=0)↔r=3:=by
 refine rA (show (2:Int)^32=4294967296 by decide) ?_;lia
theorem qc(a b:List Str):bS (a++b)=bS a++bS b:=by simp [bS]
theorem al4(x:c_){f r:Nat}(hl:low<13)(hf:f<6)(hr:r<5)(hc:μ[2]? =some (.live X))(hz:X.length≤1000):
  nF ({x with far:=some (.d (.int (((r:Int)-3)*2^32))),beyond:=some (.d (.list (iL [(2^f-1)*2^low+2^31]))),asked:=some (.c 2),words:=some (.d (.list (bS (iG low f))))}).loc μ=
   some (.next,({x with far:=some (.d (.int (((r:Int)-3)*2^32))),beyond:=some (.d (.list (iL [(2^f-1)*2^low+2^31]))),asked:=some (.c 2),words:=some (.d (.list (bS (iG low f))))}).loc,μ.set 2 (.live (X++[JL low f r]))):=by
 let ρ:=({x with far:=some (.d (.int (((r:Int)-3)*2^32))),beyond:=some (.d (.list (iL [(2^f-1)*2^low+2^31]))),asked:=some (.c 2),words:=some (.d (.list (bS (iG low f))))}:c_).loc
 have a1:af [(a9 11)] wi ρ μ=some (.d (.int ((2^f-1)*2^low+2^31)),μ):=by
  have:=Ar (f:=a9 11) (ρ:=ρ) (μ:=μ) (l:=[(2^f-1)*2^low+2^31]) rfl
  refine rA this ?_;refine rA PB ?_;refine rA Sa ?_;exact rA (Int.add_zero _) rfl
 have a2:aj (af [(a9 11)] wi) (a9 6) aT ρ μ=some (.d (.int ((2^f-1)*2^low+2^31+((r:Int)-3)*2^32)),μ):=cT a1 rfl;have a3:=d6 a2 (TY hl hf hr);have hwl:(bS (iG low f)).length=f:=by simp [bS,iG]
 have b1:aj (a9 25) (aU [(kS "0x80000000")]) aT ρ μ=some (.d (.list (bS (iG low f++[wd 31]))),μ):=by
  refine rA (qc _ _) ?_;exact cU (V:=.d (.list (bS (iG low f)))) rfl (kt (pS an5.symm)) rfl rfl (aa (by refine rA hwl ?_;show f+1≤100000;lia))
 have b2:dx (bA (a9 6) (kI 0) p8) (aU [(af [(a9 6)] oS)]) (aU []) ρ μ=some (.d (.list (bS (if r=3 then [] else [hx (((r:Int)-3)*2^32)]))),μ):=by
  refine ln (neI (x:=((r:Int)-3)*2^32) (y:=0) rfl rfl) (λq=>?_) (λq=>?_)
  ·have hne:¬r=3:= λe=>by
    rw [Ji.mpr e] at q
    exact absurd q (by decide)
   refine rA (if_neg hne) ?_;exact kt (tn rfl (uN hr))
  ·have he:r=3:=by
    rw [Bool.not_eq_false',beq_iff_eq] at q
    exact Ji.mp q
   refine rA (if_pos he) ?_;exact uB
 have b3:=cU b1 b2 rfl rfl (aa (by
  refine rA (qc _ _) ?_;refine rA be ?_;refine rA hwl ?_
  split<;>simp [bS]<;>lia))
 rw [←qc] at b3
 have hs:=uG ((zt f).map λk=>low+k);rw [←Oo,xO,Js] at hs
 have h31:(wd 31).length≤20:=by
  have:=(H4 31).1
  rwa [←eC] at this
 have hxl:=uN hr;have b4:=ua (sep:=", ") b3 rfl (by
  refine rA (show (", ":Str).length=2 from by decide) ?_;have hwf:(iG low f).length=f:=by simp [iG]
  split
  ·simp only [Kf,S9,be,F7,M3,PB,Sa,AH,EZ,hwf];lia
  ·simp only [Kf,S9,be,F7,M3,PB,Sa,AH,EZ,hwf];lia)
 have h:=d8 (ds:=[.str (LA ", " (mA low f r)),.str (LA ", " (mA low f r))]) (an a3 (an b4 bX)) (aa (xM rfl));unfold nF;exact oc rfl h hc (by lia)
theorem EE:∀T:List Bool,La (bL T)=true:= λT=>(kL (n:=0) λx hx=>by
 refine au (DT.mp hx) λb zz zq2=>?_;subst zq2;exact jk).1
theorem VA(T:List Bool):((bL T).any λy=>Mx y (.bool false))= !T.all id:=by
 induction T with
 |nil=>rfl
 |cons b T ih=>
  show (Mx (.bool b) (.bool false)||(bL T).any λy=>Mx y (.bool false))=_
  refine rA ih ?_;refine rA Mm ?_;cases b with
  |true=>rfl
  |false=>rfl
theorem GB{T:List Bool}(hct:μ[jt]? =some (.live (bL T))):lF (.d (.bool false)) (.c jt) μ=some (T.all id):=by
 have:WK (.d (.bool false)) (.c jt) μ=some (!T.all id):=by
  exact (eZ (rfl:lS (.d (.bool false))=none)).trans ((oX (rfl:vd (.d (.bool false))=some _) (eR hct)).trans ((if_pos ⟨EE T,(jk (n:=0)).shaped (by decide)⟩).trans (congrArg some (VA _))))
 exact (bU this).trans (congrArg some (Bool.not_not _))
theorem ap6(x:c_){T:List Bool}{b:Bool}(hc:μ[2]? =some (.live X))(hz:X.length≤10000)(hX:∀y∈X,Good y)(hct:μ[jt]? =some (.live (bL T)))(hb:T.all id=b):
  oh ({x with asked:=some (.c 2),proof:=some (.d (.bool b)),trees:=some (.c jt)}).loc μ=some (.ret (.d (.bool true)),({x with asked:=some (.c 2),proof:=some (.d (.bool b)),trees:=some (.c jt)}).loc,μ):=by
 let ρ:=({x with asked:=some (.c 2),proof:=some (.d (.bool b)),trees:=some (.c jt)}:c_).loc
 have hp:dc μ (.c 2)=some X:=eR hc;have hcm:=jd (sc:=po) (itf:=aK false (a9 12)) (t:=bA (aF (a9 31) (kI 0)) (aF (a9 31) (kI 1)) p8) (e:=a9 31) (ρ:=ρ) (μ:=μ) (g:=Fb (.c 2)) (xs:=X) 31 (λzz=>false) id (d9 (V:=.c 2) rfl hp) (pv hp) (λy hy=>by
  refine jS (hX y hy) λa c zq2 h=>?_;subst zq2;refine dH (V:=.d a) (W:=.d c) (cJ (k:=0) (V:=.d (.tuple [a,c])) rfl rfl rfl (by decide) rfl (aa (xM rfl))) (cJ (k:=1) (V:=.d (.tuple [a,c])) rfl rfl rfl (by decide) rfl (aa (xM rfl))) ?_;exact bU (h μ)) (λzz zz zz=>rfl) (aa (by lia))
 have e0:(X.filter λzz=>false).map id=[]:=by simp
 rw [e0] at hcm
 have h1:d_ (ce po (aK false (a9 12)) (dz 31) (cX (bA (aF (a9 31) (kI 0)) (aF (a9 31) (kI 1)) p8) (aY (a9 31)))) (aU []) dK ρ μ=some (.d (.bool true),μ):=hH (bY hcm) uB (JY [] [] μ);have h2:d_ (kB false) (a9 26) lF ρ μ=some (.d (.bool b),μ):=hH (V:=.d (.bool false)) (W:=.c jt) rfl rfl ((GB hct).trans (by exact rA hb rfl));have h3:d_ (a9 18) (d_ (kB false) (a9 26) lF) dK ρ μ=some (.d (.bool true),μ):=hH (V:=.d (.bool b)) rfl h2 (by
  refine (?_:some (b==b)=_);exact rA (beq_self_eq_true _) rfl)
 unfold oh;exact dZ ((oZ h1 (λzz=>h3)).trans rfl)
theorem T_{a b:Int}(ha:0≤a)(hb:b≤63):(sliceRange a b 6).length≤100000:=by
 unfold sliceRange;simp only [xO,Js];refine rA (if_pos (by decide)) ?_
 split<;>lia
theorem Vg(xs:List Int)(h:xs.length≤63)(k:Int):(iQ xs (some k) (some 60) (some 6)).length≤100000:=by
 refine L3 (J1 ..) (T_ ?_ ?_)
 ·refine (?_:(0:Int)≤if (6:Int)>0 then max 0 (min (if k<0 then k+xs.length else k) xs.length) else max (-1) (min (if k<0 then k+xs.length else k) ((xs.length:Int)-1)))
  refine rA (if_pos (by decide)) ?_;exact Int.le_max_left ..
 ·refine (?_:(if (6:Int)>0 then max (0:Int) (min (if (60:Int)<0 then (60:Int)+(xs.length:Int) else 60) (xs.length:Int)) else max (-1:Int) (min (if (60:Int)<0 then (60:Int)+(xs.length:Int) else 60) ((xs.length:Int)-1)))≤63)
  refine rA (if_pos (by decide)) ?_;lia
theorem BL(h:μ[j]? =some c):j<μ.length:=(BW.mp h).1
abbrev SW:SF:=(ap nS (ap nJ (ap o0 (ap nT (ap n6 (ap ou (ap oo (ap nH (ap nh (ap nX (ap ow (ap n8 (ap mY (ap om (ap nW (ap o9 (ap nZ (ap nF (ap oh aP)))))))))))))))))))
theorem ad1(x:c_){T:Int}{G:List Fm}(hcs:cs.length=6)(hG:bJ G=Ff 0 6)(ht:G.length+g9 T=6)(hc:μ[2]? =some (.live X))(hX:∀y∈X,Good y)(hz:X.length≤200):∃ρ' μ',
  SW ({x with cells:=some (.d (.list (iL cs))),total:=some (.d (.int T)),mates:=some (.d (.list (nL (aH.getD (eB T) [])))),numbers:=some (.d (.list (iL (de (aH.getD (eB T) []) G++[0])))),low:=some (.d (.int (jy T))),far:=some (.d (.int (EJ T))),read:=some (.d (.list (bi (aH.getD (eB T) []) G++[Jy []]))),beyond:=some (.d (.list (iL [rP G T]))),asked:=some (.c 2)}).loc μ=some (.ret (.d (.bool true)),ρ',μ'):=by
 have hi:=tY T;have hm:=mq hi;have htn:=mw T;have h6:(bJ G).length=6:=by refine rA hG ?_;rfl
 have hgl:=kP G 0;have hpl:=rz (aH.getD (eB T) []) G;have hnet:=Uy (i:=eB T) (G:=G) hi hG (by lia) (by lia);have hbal:=Cw hi;have hlow:=uJ T;have hfar:=MH T;generalize eB T=i at*
 have hp6:∀p∈bJ G,p<6:= λp hp=>by
  rw [hG] at hp
  have:=P7.mp hp
  lia
 have hbd:=K0 G 0 hp6;have hJl:(eM G 0).length≤5:=by lia
 have hfl:=Hf (·.par) (eM G 0);have hfl5:((eM G 0).filter (·.par)).length<6:=by lia
 
 let x12:c_:= {x with cells:=some (.d (.list (iL cs))),total:=some (.d (.int T)),mates:=some (.d (.list (nL (aH.getD i [])))),numbers:=some (.d (.list (iL (de (aH.getD i []) G++[0])))),low:=some (.d (.int (jy T))),far:=some (.d (.int (EJ T))),read:=some (.d (.list (bi (aH.getD i []) G++[Jy []]))),beyond:=some (.d (.list (iL [rP G T]))),asked:=some (.c 2)}
 let x13:c_:= {x12 with units:=some (.d (.list (uL (uW (aH.getD i []) cs))))}
 let x14:c_:= {x13 with text:=some (.d (.str (tS (xT (aH.getD i []) cs))))}
 let x15:c_:= {x14 with shorn:=some (.d (.str (tS (vT (aH.getD i []) cs))))}
 have e12:nS x12.loc μ=some (.next,x13.loc,μ):=ar1 x12 _ cs μ hm hcs;have e13:nJ x13.loc μ=some (.next,x14.loc,μ):=ap0 x13 _ cs μ;have e14:o0 x14.loc μ=some (.next,x15.loc,μ):=ap7 x14 _ cs μ hm hcs;refine eE λGG kG=>?_;obtain ⟨μ15,e15,hc15⟩:∃μ',nT x15.loc μ=some (.next,x15.loc,μ')∧μ'[2]? =some (.live (X++[mF (aH.getD i []) cs])):=(aZ _ (al2 x15 _ cs X μ hc (by lia)) (cB (BL hc)));obtain ⟨X15,hX15⟩:∃Z,Z=X++[mF (aH.getD i []) cs]:=⟨_,rfl⟩;refine kG ?_;rw [←hX15] at hc15
 have hg15:∀y∈X15,Good y:= λy hy=>by
  rw [hX15,AE,Aq] at hy
  rcases hy with hy|rfl
  ·exact hX y hy
  ·exact Iy _ _
 have hl15:X15.length≤201:=by refine rA hX15 ?_;simp;lia
 refine eE λGG kG=>?_;obtain ⟨μ16,e16,hc16⟩:∃μ',n6 x15.loc μ15=some (.next,x15.loc,μ')∧μ'[2]? =some (.live (X15++[lZ (aH.getD i []) cs])):=(aZ _ (ak4 x15 _ cs X15 μ15 hc15 (by lia)) (cB (BL hc15)));obtain ⟨X16,hX16⟩:∃Z,Z=X15++[lZ (aH.getD i []) cs]:=⟨_,rfl⟩;refine kG ?_;rw [←hX16] at hc16
 have hg16:∀y∈X16,Good y:= λy hy=>by
  rw [hX16,AE,Aq] at hy
  rcases hy with hy|rfl
  ·exact hg15 y hy
  ·exact Kt _ _
 have hl16:X16.length≤202:=by refine rA hX16 ?_;simp;lia
 refine eE λGG kG=>?_;obtain ⟨μ17,e17,hc17⟩:∃μ',ou x15.loc μ16=some (.next,x15.loc,μ')∧μ'[2]? =some (.live (X16++[lU (aH.getD i [])])):=(aZ _ (ak7 x15 _ cs G X16 μ16 hG (by lia) hc16 (by lia)) (cB (BL hc16)));obtain ⟨X17,hX17⟩:∃Z,Z=X16++[lU (aH.getD i [])]:=⟨_,rfl⟩;refine kG ?_;rw [←hX17] at hc17
 have hg17:∀y∈X17,Good y:= λy hy=>by
  rw [hX17,AE,Aq] at hy
  rcases hy with hy|rfl
  ·exact hg16 y hy
  ·exact GK _
 have hl17:X17.length≤203:=by refine rA hX17 ?_;simp;lia
 refine eE λGG kG=>?_;obtain ⟨μ18,e18,hc18⟩:∃μ',oo x15.loc μ17=some (.next,x15.loc,μ')∧μ'[2]? =some (.live (X17++[ky])):=(aZ _ (aq3 x15 _ cs X17 μ17 hbal.1 hc17 (by lia)) (by
  rw [F9 (by rw [LF];exact BL hc17)];exact cB (BL hc17)))
 obtain ⟨X18,hX18⟩:∃Z,Z=X17++[ky]:=⟨_,rfl⟩;refine kG ?_;rw [←hX18] at hc18
 have hg18:∀y∈X18,Good y:= λy hy=>by
  rw [hX18,AE,Aq] at hy
  rcases hy with hy|rfl
  ·exact hg17 y hy
  ·exact Jm
 have hl18:X18.length≤204:=by refine rA hX18 ?_;simp;lia
 refine eE λGG kG=>?_;refine ct (ap1 x15 i cs G X18 μ18 hi hcs hG hc18 (by lia)) λY hY hYl e19'=>?_
 let x20:c_:= {x15 with proof:=some (.d (.bool (pr (aH.getD i []) 12 G)))}
 obtain ⟨μ19,e19,hc19⟩:∃μ',nH x15.loc μ18=some (.next,x20.loc,μ')∧μ'[2]? =some (.live (X18++Y)):=(aZ _ e19' (cB (BL hc18)));obtain ⟨X19,hX19⟩:∃Z,Z=X18++Y:=⟨_,rfl⟩;refine kG ?_;rw [←hX19] at hc19
 have hg19:∀y∈X19,Good y:= λy hy=>by
  rw [hX19,AE] at hy
  rcases hy with hy|hy
  ·exact hg18 y hy
  ·exact hY y hy
 have hl19:X19.length≤504:=by refine rA hX19 ?_;refine rA be ?_;lia
 refine eE λGG kG=>?_;obtain ⟨μ20,jn,e20,hc20,hj20,hjn⟩:∃μ' jn,nh x20.loc μ19=some (.next,({x20 with joins:=some (.c jn)}:c_).loc,μ')∧μ'[2]? =some (.live X19)∧μ'[jn]? =some (.live [])∧jn≠2:=(uX _ _ (aq4 x20 μ19) (by
  rw [F9 (BL hc19)];exact hc19) dq (by have:=BL hc19;lia))
 let x21:c_:= {x20 with joins:=some (.c jn)}
 refine bP (ao3 x21 (aH.getD i []) G jn μ20 hj20 hG) λw e21'=>?_
 let x22:c_:= {x21 with formula:=w}
 obtain ⟨μ21,e21,hc21,hj21⟩:∃μ',nX x21.loc μ20=some (.next,x22.loc,μ')∧μ'[2]? =some (.live X19)∧μ'[jn]? =some (.live (jL (eM G 0))):=(cL _ e21' (by
  rw [Lw hjn];exact hc20) (cB (BL hj20)))
 let x23:c_:= {x22 with forks:=some (.d (.list (jL ((eM G 0).filter (·.par)))))}
 let x24:c_:= {x23 with start:=some (.d (.list (nL (start (aH.getD i []) (eM G 0).length))))}
 let x25:c_:= {x24 with labels:=some (.d (.list (nL (di (start (aH.getD i []) (eM G 0).length) (iw (eM G 0))))))}
 let x26:c_:= {x25 with names:=some (.d (.list (bS rV)))}
 let x27:c_:= {x26 with words:=some (.d (.list (bS (iG (jy T) ((eM G 0).filter (·.par)).length))))}
 have e22:ow x22.loc μ21=some (.next,x23.loc,μ21):=an7 x22 (eM G 0) jn μ21 hj21 (by lia);have e23:n8 x23.loc μ21=some (.next,x24.loc,μ21):=am1 x23 _ (eM G 0) jn μ21 hm hj21 (by lia);have e24:mY x24.loc μ21=some (.next,x25.loc,μ21):=al1 x24 _ (eM G 0) jn μ21 hj21 (by lia) (λy hy=>by have:=hbd y hy;lia);have e25:om x25.loc μ21=some (.next,x26.loc,μ21):=an4 x25 μ21;have e26:nW x26.loc μ21=some (.next,x27.loc,μ21):=am7 x26 _ (jy T) μ21 hlow (by lia);obtain ⟨μ27,jt,e27,hc27,hj27,hjt⟩:∃μ' jt,o9 x27.loc μ21=some (.next,({x27 with trees:=some (.c jt)}:c_).loc,μ')∧μ'[2]? =some (.live X19)∧μ'[jt]? =some (.live [])∧jt≠2:=(uX _ _ (ar0 x27 μ21) (by
  rw [F9 (BL hc21)];exact hc21) dq (by have:=BL hc21;lia))
 refine kG ?_
 let x28:c_:= {x27 with trees:=some (.c jt)}
 have hLl:=nB (iw (eM G 0)) (start (aH.getD i []) (eM G 0).length);rw [ot] at hLl
 have hL100:(di (start (aH.getD i []) (eM G 0).length) (iw (eM G 0))).length≤100:=by
  rcases hLl with q|q
  ·refine rA q ?_;simp
  ·lia
 refine eE λGG kG=>?_;obtain ⟨mk,sd,ch,jo,e28'⟩:=am8 x28 (low:=jy T) (jt:=jt) (L:=di (start (aH.getD i []) (eM G 0).length) (iw (eM G 0))) (J:=(eM G 0).filter (·.par)) (X:=X19) (μ:=μ27) hlow hfl5 hL100 (λhne y hy=>by
  have hy':=hbd y (Ow.mp hy).1
  rcases hLl with q|q
  ·exact absurd q hne
  ·lia) hjt hc27 (by lia) hj27
 let x29:c_:= {x28 with mask:=mk,said:=sd,chosen:=ch,joined:=jo}
 obtain ⟨X28,hX28⟩:∃Z,Z=X19++(zt (2^ ((eM G 0).filter (·.par)).length)).map (oB (jy T) ((eM G 0).filter (·.par)).length):=⟨_,rfl⟩;refine kG ?_;rw [←hX28] at e28'
 refine eE λGG kG=>?_;obtain ⟨μ28,e28,hc28,hj28⟩:∃μ',nZ x28.loc μ27=some (.next,x29.loc,μ')∧μ'[2]? =some (.live X28)∧μ'[jt]? =some (.live (bL ((zt (2^ ((eM G 0).filter (·.par)).length)).map (je (di (start (aH.getD i []) (eM G 0).length) (iw (eM G 0))) ((eM G 0).filter (·.par)))))):=(cL _ e28' (by
  rw [Lw hjt];exact cB (BL hc27)) (cB (by refine rA LF ?_;exact BL hj27)))
 have hg28:∀y∈X28,Good y:= λy hy=>by
  rw [hX28,AE] at hy
  rcases hy with hy|hy
  ·exact hg19 y hy
  ·refine au (DT.mp hy) λk hk zq2=>?_
   subst zq2;exact EX hlow hfl5 (D3.mp hk)
 have hl28:X28.length≤600:=by
  have:=Cb hfl5
  refine rA hX28 ?_;refine rA be ?_;refine rA (xO _) ?_;refine rA Js ?_;lia
 obtain ⟨μ29,e29,hc29,hj29⟩:∃μ',nF x29.loc μ28=some (.next,x29.loc,μ')∧μ'[2]? =some (.live (X28++[JL (jy T) ((eM G 0).filter (·.par)).length (GF T)]))∧μ'[jt]? =some (.live (bL ((zt (2^ ((eM G 0).filter (·.par)).length)).map (je (di (start (aH.getD i []) (eM G 0).length) (iw (eM G 0))) ((eM G 0).filter (·.par)))))):=(cL _ (al4 x29 hlow hfl5 hfar hc28 (by lia)) (cB (BL hc28)) (by
  rw [Lw (MP hjt)];exact hj28))
 refine kG ?_;have e30:oh x29.loc μ29=some (.ret (.d (.bool true)),x29.loc,μ29):=ap6 x29 (jt:=jt) (T:=(zt (2^ ((eM G 0).filter (·.par)).length)).map (je (di (start (aH.getD i []) (eM G 0).length) (iw (eM G 0))) ((eM G 0).filter (·.par)))) (b:=pr (aH.getD i []) 12 G) hc29 (by refine rA be ?_;simp;lia) (λy hy=>by
  rw [AE,Aq] at hy
  rcases hy with hy|rfl
  ·exact hg28 y hy
  ·exact Dw _ _ _) hj29 (by
  refine rB hnet ?_;refine rA List.all_map ?_;rfl)
 exact (jN _ _ ((aB e12).trans ((aB e13).trans ((aB e14).trans ((aB e15).trans ((aB e16).trans ((aB e17).trans ((aB e18).trans ((aB e19).trans ((aB e20).trans ((aB e21).trans ((aB e22).trans ((aB e23).trans ((aB e24).trans ((aB e25).trans ((aB e26).trans ((aB e27).trans ((aB e28).trans ((aB e29).trans (cV e30))))))))))))))))))))
theorem plain_law(xs:List Int)(h:xs.length≤63):∃ρ' μ',Xw (cF (ao (ay 73)) [.d (.list (xs.map F8))]) []=some (.ret (.d (.bool true)),ρ',μ'):=by
 refine eE λGG kG=>?_;refine au (st0 {} xs [] h (Vg xs h)) λcs hcs e0'=>?_;obtain ⟨T,hT⟩:∃T,T=cs.sum:=⟨_,rfl⟩;have hi:=tY T;have hm:=mq hi
 let x0:c_:= {script:=some (.d (.list (iL xs)))}
 let x1:c_:= {x0 with cells:=some (.d (.list (iL cs)))}
 let x2:c_:= {x1 with total:=some (.d (.int T))}
 let x3:c_:= {x2 with mates:=some (.d (.list (nL (aH.getD (eB T) []))))}
 have e0:vv x0.loc []=some (.next,x1.loc,[]):=e0';have e1:w_ x1.loc []=some (.next,x2.loc,[]):=by
  have:=st1 x1 cs []
  rw [←hT] at this
  exact this
 have e2:xF x2.loc []=some (.next,x3.loc,[]):=st2 x2 T [];refine ct (st3 x3 cs T (aH.getD (eB T) []) [] hcs hm) λG hG ht e3'=>?_;have htn:=mw T;have h6:(bJ G).length=6:=by refine rA hG ?_;rfl
 have hgl:=kP G 0;have hpl:=rz (aH.getD (eB T) []) G;have hnf:nf G≤5:=by
  have:=Hf (·.par) (eM G 0)
  unfold nf;lia
 obtain ⟨N,hN⟩:∃N,N=de (aH.getD (eB T) []) G++[0]:=⟨_,rfl⟩;have hNl:N.length≤13:=by
  refine rA hN ?_;refine rA be ?_;refine (?_:_+1≤13);lia
 refine jS (yV (cs:=cs) (T:=T) (m:=aH.getD (eB T) []) (G:=G) hnf) λos1 p hR hr=>?_
 let x4:c_:= {x3 with numbers:=some (.d (.list (iL (de (aH.getD (eB T) []) G++[0]))))}
 let x5:c_:= {x4 with low:=some (.d (.int (jy T))),far:=some (.d (.int (EJ T)))}
 let x6:c_:= {x5 with great:=some (.d (.int (rP G T)))}
 let x7:c_:= {x6 with tape:=some (.c 0)}
 let x8:c_:= {x7 with told:=some (.c 1)}
 let x9:c_:= {x8 with read:=some (.d (.list (bi (aH.getD (eB T) []) G++[Jy []])))}
 let x10:c_:= {x9 with beyond:=some (.d (.list (iL [rP G T])))}
 let x11:c_:= {x10 with asked:=some (.c 2)}
 have e3:vn x3.loc []=some (.next,x4.loc,[]):=e3';have e4:xB x4.loc []=some (.next,x5.loc,[]):=st4 x4 T [];have e5:vx x5.loc []=some (.next,x6.loc,[]):=st5 x5 T _ G [] (by lia) (by lia);have e6:vU x6.loc []=some (.next,x7.loc,[.iter (iL (s_ cs T (de (aH.getD (eB T) []) G++[0]++[rP G T])))]):=st6 x6 cs _ T (rP G T) [] hcs (by refine rB hN ?_;lia);have e7:wu x7.loc [.iter (iL (s_ cs T (de (aH.getD (eB T) []) G++[0]++[rP G T])))]=some (.next,x8.loc,iA (s_ cs T (de (aH.getD (eB T) []) G++[0]++[rP G T])) []):=st7 x7 _;have e8:Ci x8.loc (iA (s_ cs T (de (aH.getD (eB T) []) G++[0]++[rP G T])) [])=some (.next,x9.loc,iA os1 (de (aH.getD (eB T) []) G++[0])):=st8 x8 T _ G _ os1 hG ht hR;have e9:xg x9.loc (iA os1 (de (aH.getD (eB T) []) G++[0]))=some (.next,x10.loc,iA [] (de (aH.getD (eB T) []) G++[0])):=st9 x9 T (rP G T) p os1 _ hr;have e10:rn x10.loc (iA [] (de (aH.getD (eB T) []) G++[0]))=some (.next,x11.loc,II (de (aH.getD (eB T) []) G++[0]) (qk (de (aH.getD (eB T) []) G++[0]) (rP G T))):=ap9 x10 _ (rP G T);refine lP (am2 x11 (de (aH.getD (eB T) []) G++[0]) (rP G T) T (qk (de (aH.getD (eB T) []) G++[0]) (rP G T)) (II (de (aH.getD (eB T) []) G++[0]) (qk (de (aH.getD (eB T) []) G++[0]) (rP G T))) (by refine rB hN ?_;lia) rfl rfl (by simp [qk])) λsy te e11'=>?_
 let x12:c_:= {x11 with symbol:=sy,tests:=te}
 obtain ⟨μ11,e11,hc11⟩:∃μ',rg x11.loc (II (de (aH.getD (eB T) []) G++[0]) (qk (de (aH.getD (eB T) []) G++[0]) (rP G T)))=some (.next,x12.loc,μ')∧μ'[2]? =some (.live (qk (de (aH.getD (eB T) []) G++[0]) (rP G T)++(zp (de (aH.getD (eB T) []) G++[0]) (rP G T) T).map y0)):=(aZ _ e11' (cB (by simp [II])));obtain ⟨ρ',μ',e⟩:=ad1 x12 hcs hG ht hc11 (λy hy=>by
  rw [AE] at hy
  rcases hy with hy|hy
  ·simp only [qk,Cc,Er,or_false] at hy
   rcases hy with rfl|rfl
   ·exact dU (n:=1) (rD _) (by decide)
   ·exact dU (n:=1) (rD _) (by decide)
  ·refine au (DT.mp hy) λs zz zq2=>?_
   subst zq2;exact Hj s) (by
  refine rA be ?_;refine rA (xO _) ?_;rw [zp];refine rB hN ?_
  simp [qk]
  lia)
 refine kG ?_;refine (jN ρ' μ' ?_);refine (?_:Xw x0.loc []=_);unfold Xw;exact (aB e0).trans ((aB e1).trans ((aB e2).trans ((aB e3).trans ((aB e4).trans ((aB e5).trans ((aB e6).trans ((aB e7).trans ((aB e8).trans ((aB e9).trans ((aB e10).trans ((aB e11).trans e)))))))))))
end Mine
open PySem PySem.W PyProof.Rows PySem.Calls
theorem PySem.Challenge.cw_tc0015_01_holds : PySem.Challenge.rw_tc0015_01.Holds :=
  Mine.hd2 (by
  intro w s₀ s₁ mg mb G Y fa o pm cd doc dV kV ho hd hcd hD hmg hg args vals as hpre hlay hrd hwl hlo;have X : Mine.Y4 mg s₁.heap := Ground.X G;refine Ground.open G ?_;intro T B D TE TW
  wrow_args hpre hlay hrd hwl hlo
  rename Well _ _ (Value.ref _) (ofPy (PyData.list (List.map PyData.int _))) => hw
  rename ¬ ((63 : Int) < _) => hlen
  rename List Int => xs
  clear hd hD hcd G
  let C : Mine.gK := { prog := Mine.RR.prog, w := w, B := s₁.heap, os := s₁.os, mg := mg, mb := mb, g := T.g, b := T.b, bt := T.builtins, nolim := T.nolimit }
  have hlaw : Mine.dj C "law" 73 := Mine.fnAt_of (C := C) T 73 "law" ∅
  have F : Mine.Qc C := ⟨Mine.fnAt_of (C := C) T 1 "_iter_escaped_chars" ∅, Mine.fnAt_of (C := C) T 2 "_strip_quoted_realnames" ∅, Mine.fnAt_of (C := C) T 3 "_check_parenthesis" ∅, Mine.fnAt_of (C := C) T 4 "_pre_parse_validation" ∅, Mine.fnAt_of (C := C) T 7 "pretty_flags" ∅, Mine.fnAt_of (C := C) T 8 "_parse_varint" ∅, Mine.fnAt_of (C := C) T 61 "ISTERMINAL" ∅, Mine.fnAt_of (C := C) T 62 "ISNONTERMINAL" ∅, Mine.fnAt_of (C := C) T 63 "ISEOF" ∅, Mine.fnAt_of (C := C) T 65 "_law_numbers" ∅, Mine.fnAt_of (C := C) T 66 "_law_octets" ∅, Mine.fnAt_of (C := C) T 67 "_law_units" ∅, Mine.fnAt_of (C := C) T 68 "_law_formula" ∅, Mine.fnAt_of (C := C) T 69 "_law_beyond" ∅, Mine.fnAt_of (C := C) T 70 "_law_proved" ∅, Mine.fnAt_of (C := C) T 71 "_law_graph" ∅, Mine.fnAt_of (C := C) T 72 "_law_joined" ∅⟩;have hno := Mine.noneOf (C := C) T (["len", "min", "range", "enumerate", "zip", "list", "sum", "iter", "next", "sorted", "isinstance", "hex", "int", "bool", "StopIteration"] : List Str) (by decide +kernel);have hm2 := Mine.mg_of2 X.2;have GG : Mine.cK C := ⟨hno, Mine.ext2 (C := C) Y hm2.1, Mine.cfn2 (C := C) Y hm2.2, Mine.constOf (C := C) T _ 256 ∅, Mine.constOf (C := C) T _ 0 ∅⟩;have hI : Mine.bl C [] [] [] s₁ := ⟨fun _ _ e => e, rfl, fun i a c e _ => by simp at e, List.nodup_nil, fun a h => by simp at h, fun a h => by simp at h, fun a h => by simp at h, fun a h => by simp at h, .of_eq hg, rfl⟩;obtain ⟨fa', o', pm', cd', doc', m1, m2, m3, m4⟩ := hlaw;obtain ⟨ρ', μ', hp⟩ := Mine.plain_law xs (by omega);have hfa : fa' = fa := by
    have := hmg;have m1' : mg "law" = some (.ref fa') := m1;rw [show Mine.dd.1.name = ("law" : Str) from ∅, m1'] at this
    cases this; rfl
  subst hfa;refine wpAny_mono (Mine.law_call (C := C) GG F m2 m3 m4 hI (Mine.well_list hw) hp) (fun v s' p => ?_) (fun _ _ x => x);obtain ⟨rfl, k1, k2, k3⟩ := p;refine ⟨.inl ⟨_, _, [], rfl, ?_, ReadsW.bool true, ?_, fun _ => ⟨List.nodup_nil, fun _ hm => (nomatch hm)⟩⟩, OldK.of_keep k1, k2, k3⟩
  · intro cls
    rfl
  · wrow_post)
