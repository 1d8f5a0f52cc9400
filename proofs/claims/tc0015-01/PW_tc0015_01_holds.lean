import PyProof.Rows.All
import Wide.All
import OpenK.AllK
import Wide.FinOn
import PySem.Challenge.RW_tc0015_01
set_option Elab.async false
set_option maxRecDepth 100000
set_option maxHeartbeats 8000000
set_option linter.all false
set_option tactic.hygienic false
noncomputable section
local macro_rules | `(∅) => `(by kernel_rfl)
open List renaming length_append→be,length_map→xG,mem_append_left→yo,range→yw,mem_singleton→yA,mem_append→AA,length_cons→AO,all_eq_true→Bb,getElem?_eq_some_iff→BJ,mem_cons→Ch,mem_append_right→CE,mem_cons_of_mem→D1,mem_range→D3,append_nil→DB,mem_map→DG,not_mem_nil→DM,append_assoc→E9,length_nil→EQ,map_map→ER,map_cons→ET,getElem?_append_left→EY,range'→F6,take_of_length_le→F7,flatMap_cons→Fb,getElem?_eq_getElem→Fe,mem_cons_self→Fp,map_congr_left→FH,mem_of_getElem?→FV,getElem?_map→Gi,length_singleton→Gp,flatten_cons→Gv,replicate→GE,getElem?_eq_none_iff→G_,length_filter_le→Hs,set_set→I9,getElem?_append_right→IK,length_range→IN,map_append→Jz,nodup_cons→J_,filter_cons→KC,filter_append→KR,cons_append→KV,length_range'→L2,mem_flatMap→L4,length_replicate→Lb,nil_append→Lc,getElem?_set_ne→Lh,range_eq_range'→Lj,length_set→Lq,flatten_append→Lx,range_succ_eq_map→LA,getD_eq_getElem?_getD→LC,length_take→LF,take_length→LG,flatten_nil→LH,take_append_drop→LM,map_nil→LQ,pairwise_iff_getElem→M0,filterMap_cons_some→M4,find?_cons→M9,all_cons→Ml,getElem?_zipWith_eq_some→Mo,take_append_of_le_length→Mp,drop_eq_nil_of_le→Ms,getElem?_set_self→Mt,pairwise_cons→Mz,contains_eq_mem→MZ,nodup_nil→N0,drop_eq_getElem_cons→Nb,mem_of_find?_eq_some→Nl,lookup_cons→Nn,drop_append→Nx,replicate_succ→Ny,length→NE,filterMap_cons→NW,getElem?_range→O1,map_eq_nil_iff→O6,getElem?_cons_succ→Oe,mem_filter→Oq,mem_filterMap→Ov,length_eq_zero_iff→OB,filter_map→OF,size_toArray→OP,mem_range'_1→P2,take_left→P5,lookup_cons_self→P8,getElem?_eq_none→Pb,sum_cons→Pn,mem_map_of_mem→Pq,set_cons_succ→PM,getElem?_drop→PW,drop_left→Q7,sublist_append_right→Qf,getElem?_set→Qk,filterMap_cons_none→Qn,nodup_append→Qt,getElem?_take_of_lt→Qx,getElem?_replicate→QR,set_comm→QY,map_take→R5,length_drop→Rg,range'_succ→Rj,getElem_cons_drop→Rt,zipWith→RA,singleton_append→RK,sum_append→RN,sum_nil→RO,all_append→RT,set_append_left→Sb,drop_zero→Sn,length_zipWith→Su,set_cons_zero→SL,drop→T1,map_drop→T9,all_eq_false→Tu,ext_getElem?→Tx,map_id'→TJ,mem_flatten→TV,isEmpty_iff→TY,getElem_mem→U1,forIn_cons→Ua,head?_drop→Uj,append_inj→Us,drop_drop→UC
open Nat renaming le_of_ble_eq_true→xF,le_refl→DI,le_add_right→Fj,add_sub_cancel_left→KO,le_trans→KQ,zero_add→Ln,zero_le→Lw,le_of_not_lt→LD,ne_of_lt→LJ,succ_ne_self→Nm,lt_of_lt_of_le→Ol,le_succ→OV,lt_succ_of_lt→P1,lor→Pj,ne_of_gt→PQ,pow_succ→PX,beq→Qc,lt_trichotomy→Qp,add_assoc→QZ,lt_succ_self→Rd,div_div_eq_div_mul→Rr,min_eq_left→RC,sub_zero→RS,pow_le_pow_right→S9,succ_eq_add_one→SI,le_of_eq→Tz,pow_zero→TK,add_zero→TQ,min_le_left→Um,two_pow_pos→Uv,mod→V7,succ→V8
open PySem renaming wpAny_bind→yt,wpAny_mono→D2,wpAny_pure→Et,wpAny_newObj_type→Ia,wpAny_callSpecial?_slot→IX,wpAny_execs_cons→Kh,wpAny_field→KP,seg_execs_cons→KU,wpAny_holding→KZ,slot_listiter_next→K_,wpAny_call_entry→L3,wpAny_standAt→L9,wpAny_specialOf→Lr,wpAny_pyIter_list→M6,wpAny_Assign_Name→M7,wpAny_of_eq→Mb,wpAny_seqItems→N2,wpAny_raiseNew_none→NH,wpAny_rule→O8,wpAny_updateSeq→Oi,wpAny_setField_rec→Oj,wpAny_truthy_bool→OO,wpAny_setField→P3,wpAny_storeName_local→P7,wpAny_pyIter_zip→Pi,wpAny_loadName_local→Pk,wpAny_pyNext_list_end→Pp,entry_listiter_next→PG,wpAny_letOwnedTupleGo_enum→PL,args_listiter_next→PS,wpAny_letOwnedTupleGo_zip→Q2,slot_list_getitem→Ql,wpAny_getItem_list_slice→Qo,wpAny_pyIter_enum→Qr,wpAny_assign_Name→Qs,getMethod_builtin→Qz,wpAny_list_append_plain→QN,Builtin→QV,wpAny_isInstance→Rb,wpAny_pyNext_list_item→Rl,wpAny_isTrue_Compare1→Rv,wpAny_execs_nil→RF,seg_wrap→RX,wpAny_newFunctionEnv→RZ,baseText→Sf,isSubtype_stop→Sj,isSubtype_type→Sq,wpAny_letGo→Sw,wpAny_onRaise→SQ,wpAny_attempt→SR,seg_again→Uh,wpAny_Name→UI,call_meets→UK
open PySem.Heap renaming get?_push_of_some→BO,get?_push_size→Dm,get?_update_self→Fk,SameBut→La,size_push→M3,lt_size→Ma,ExtBut→P0,MadeExcOf→Q6,get?_update_other→Ro,HeldW→Tm,IsList→Ub,get?→UV
open PySem.Builtin renaming bitAnd→D5,bitXor→IC,bitOr→Mj
open Eq renaming symm→ES,trans→Lz
open PySem.PyData renaming int→EU,tuple→J1,canLayAll0→KX,str→Lg,eqv→Mq,list→NZ,canLay0→Q3,strOk→TB,depth→TH,depthAll→Ux,eqvAll→UR
open Bool renaming and_eq_true→EZ,false_ne_true→HA,not_eq_true'→MT,false_eq_true→Ox,false_or→Pm,or_eq_true→Px,eq_iff_iff→PK,not_true→Q_,true_and→T3,not_false→UF,or_false→UO
open PySem.Calls renaming Name_function_global→E_,loadGlobal_global→L5,loadGlobal_builtin→Ld,callWith_function→MP,docDef→O9,callWith_builtin→OM,call_function_entry→PE,spliced_cons→Rw,evalArgs_plain→Se,spliced_nil→Sr
open Int renaming fmod_nonneg_of_pos→F8,toNat_natCast→Fa,fmod_lt_of_pos→Il,eq_ofNat_of_zero_le→L1,toNat_of_nonneg→Ly
open Option.some renaming inj→Fd
open PySem.Builtin.Int renaming intBits→HN
open Option renaming map_eq_some_iff→IA,bind_eq_some_iff→KJ,elim→SG
open PySem.Env renaming kindOf→J3
open PySem.Builtin.Str renaming strSliceIndices→Jo,occurrences→Ll,partsBetween→Oc,strSub→OJ,strKind→SD
open PySem.F renaming slot_str_join→JE,type_str_join→JH,plain_extend_loop→NS,slot_str_ascii_iterator_next→P9,slot_list_extend→Qq,slot_str_iterator_next→QB,plainAttrs_str→Rn,slot_enumerate_next→RJ,entry_extend_loop→SC
open PySem.Str renaming ofString→JI,cps_append→P4,join→U8,ext'→UP
open PySem.Builtin.Range renaming small→K4,rangeSize→Mg
open PySem.Builtin.SmallTypes renaming nextOf→KT,ownedTupleHandOut→N3,ownedTupleIsFree→NB,stopIteration→OL
open PySem.Heap.SameBut renaming update→KW
open Array renaming getElem?_toList→KY,getElem?_eq_some_iff→LB,getElem?_setIfInBounds_ne→M8,getElem?_eq_getElem→Nc,toList_append→Po,mem_toList_iff→S8,find?_toList→T2,toList_push→Tj
open PySem.Obj renaming data_mapFields→L0,isFreed_of_fields→LO,mapSeq→M5,cls_mapFields→Tk
open PySem.Value renaming none→L7,ref→Lu,isInt→PJ,isStrOf→QI,type→Tl,str→UU
open PySem.Challenge renaming rw_tc0015_01→Lk,pw_tc0015_01→Mw
open PySem.Txt renaming join→Lm,split→PC
open PySem.Sem renaming bind_eq_wrap'→Lp,wrap_wrap→MV,bind_eq_wrap→TR,wrap→UN
open ForInStep renaming yield→Lv
open PySem.NameKind renaming free→LK,cell→Oo
open Ne renaming symm→MA
open PySem.Builtin.List renaming listExtendWith→MI,listTooLong→Qi,listSameRef→QC,listItems→Rp
open Function renaming comp_def→MW
open PySem.Around renaming frames_deeper→Pl,under_plainId→R_
open PySem.Heap.IsSliceOf renaming new→PO
open PyProof.Rows renaming assignInOrder_cons→PR,MethodCall_→QM,tail_any→RW,slot_tuple_getitem→SP,assign_Tuple_tuple→SV,Subscript_→Tb,isTrue_and→UJ
open PySem.SeqAt renaming in_list_reads→P_,shaped→RU,eqv_refl→UG
open PySem.Builtin.Generator renaming genWake→Q4
open List.Sublist renaming refl→QE,append→SH,nodup→SY
open PySem.Shared renaming heap→QP
open Classical renaming propDecidable→QQ,em→US
open PySem.Heap.UpToSlots renaming of_keeps→QX
open PySem.StrLaws renaming partsBetween_eq→R1,glued_eq_join→RM,At→RY,partsFrom→Ts
open PySem.Heap.IsList renaming push→Rc
open Prod.mk renaming injEq→SX
open Prod renaming fst→U5,snd→U7
open And renaming intro→Ue
open List.cons renaming injEq→Ur,inj→UM
open PySem.IsRange renaming new→UZ
namespace Mine
open PySem PySem.W PySem.Calls PyProof.Rows
universe u0 u1 u2 u3 u4 u5 u6 u7 u8 u9
section
variable{X0:Sort u0}{X1:Sort u1}{X2:Sort u2}{X3:Sort u3}{X4:Sort u4}{X5:Sort u5}{A0 A1 A2 A3 A4 A5 A6 A7 A8 A9 A10 A11 A12 A13 R G:Prop}
theorem fY(h:A0∧R)(k:A0→R→G):G:=by obtain ⟨h0,hr⟩:=h;exact k h0 hr
theorem dU(h:A0∧A1∧R)(k:A0→A1→R→G):G:=by obtain ⟨h0,h1,hr⟩:=h;exact k h0 h1 hr
theorem mh(h:A0∧A1∧A2∧R)(k:A0→A1→A2→R→G):G:=by obtain ⟨h0,h1,h2,hr⟩:=h;exact k h0 h1 h2 hr
theorem ig(h:A0∧A1∧A2∧A3∧R)(k:A0→A1→A2→A3→R→G):G:=by obtain ⟨h0,h1,h2,h3,hr⟩:=h;exact k h0 h1 h2 h3 hr
theorem mB(h:A0∧A1∧A2∧A3∧A4∧A5∧R)(k:A0→A1→A2→A3→A4→A5→R→G):G:=by obtain ⟨h0,h1,h2,h3,h4,h5,hr⟩:=h;exact k h0 h1 h2 h3 h4 h5 hr
theorem Ga{A5 R:X0→X1→Prop}(h:A0∧A1∧A2∧∃x0 x1,A5 x0 x1∧R x0 x1)(k:A0→A1→A2→∀x0 x1,A5 x0 x1→R x0 x1→G):G:=by obtain ⟨h0,h1,h2,x0,x1,h5,hr⟩:=h;exact k h0 h1 h2 x0 x1 h5 hr
theorem tX{R:X0→X1→Prop}(h:A0∧A1∧∃x0 x1,R x0 x1)(k:A0→A1→∀x0 x1,R x0 x1→G):G:=by obtain ⟨h0,h1,x0,x1,hr⟩:=h;exact k h0 h1 x0 x1 hr
theorem oY{R:X0→X1→X2→Prop}(h:A0∧A1∧∃x0 x1 x2,R x0 x1 x2)(k:A0→A1→∀x0 x1 x2,R x0 x1 x2→G):G:=by obtain ⟨h0,h1,x0,x1,x2,hr⟩:=h;exact k h0 h1 x0 x1 x2 hr
theorem Aj{R:X0→Prop}(h:A0∧∃x0,R x0)(k:A0→∀x0,R x0→G):G:=by obtain ⟨h0,x0,hr⟩:=h;exact k h0 x0 hr
theorem iB{A2 R:X0→Prop}(h:A0∧∃x0,A2 x0∧R x0)(k:A0→∀x0,A2 x0→R x0→G):G:=by obtain ⟨h0,x0,h2,hr⟩:=h;exact k h0 x0 h2 hr
theorem TZ{A3 R:X0→X1→Prop}(h:A0∧∃x0 x1,A3 x0 x1∧R x0 x1)(k:A0→∀x0 x1,A3 x0 x1→R x0 x1→G):G:=by obtain ⟨h0,x0,x1,h3,hr⟩:=h;exact k h0 x0 x1 h3 hr
theorem Mn{A3 A4 R:X0→X1→Prop}(h:A0∧∃x0 x1,A3 x0 x1∧A4 x0 x1∧R x0 x1)(k:A0→∀x0 x1,A3 x0 x1→A4 x0 x1→R x0 x1→G):G:=by obtain ⟨h0,x0,x1,h3,h4,hr⟩:=h;exact k h0 x0 x1 h3 h4 hr
theorem Dq{A4 A5 A6 R:X0→X1→X2→Prop}(h:A0∧∃x0 x1 x2,A4 x0 x1 x2∧A5 x0 x1 x2∧A6 x0 x1 x2∧R x0 x1 x2)(k:A0→∀x0 x1 x2,A4 x0 x1 x2→A5 x0 x1 x2→A6 x0 x1 x2→R x0 x1 x2→G):G:=by obtain ⟨h0,x0,x1,x2,h4,h5,h6,hr⟩:=h;exact k h0 x0 x1 x2 h4 h5 h6 hr
theorem bP{R:X0→Prop}(h:∃x0,R x0)(k:∀x0,R x0→G):G:=by obtain ⟨x0,hr⟩:=h;exact k x0 hr
theorem au{A1 R:X0→Prop}(h:∃x0,A1 x0∧R x0)(k:∀x0,A1 x0→R x0→G):G:=by obtain ⟨x0,h1,hr⟩:=h;exact k x0 h1 hr
theorem cn{A1 A2 R:X0→Prop}(h:∃x0,A1 x0∧A2 x0∧R x0)(k:∀x0,A1 x0→A2 x0→R x0→G):G:=by obtain ⟨x0,h1,h2,hr⟩:=h;exact k x0 h1 h2 hr
theorem et{A1 A2 A3 R:X0→Prop}(h:∃x0,A1 x0∧A2 x0∧A3 x0∧R x0)(k:∀x0,A1 x0→A2 x0→A3 x0→R x0→G):G:=by obtain ⟨x0,h1,h2,h3,hr⟩:=h;exact k x0 h1 h2 h3 hr
theorem HO{A1 A2 A3 A4 A5 R:X0→Prop}(h:∃x0,A1 x0∧A2 x0∧A3 x0∧A4 x0∧A5 x0∧R x0)(k:∀x0,A1 x0→A2 x0→A3 x0→A4 x0→A5 x0→R x0→G):G:=by obtain ⟨x0,h1,h2,h3,h4,h5,hr⟩:=h;exact k x0 h1 h2 h3 h4 h5 hr
theorem Ka{A1 A2 A3:X0→Prop}{A5 R:X0→X1→Prop}(h:∃x0,A1 x0∧A2 x0∧A3 x0∧∃x1,A5 x0 x1∧R x0 x1)(k:∀x0,A1 x0→A2 x0→A3 x0→∀x1,A5 x0 x1→R x0 x1→G):G:=by obtain ⟨x0,h1,h2,h3,x1,h5,hr⟩:=h;exact k x0 h1 h2 h3 x1 h5 hr
theorem ye{A1 A2:X0→Prop}{R:X0→X1→Prop}(h:∃x0,A1 x0∧A2 x0∧∃x1,R x0 x1)(k:∀x0,A1 x0→A2 x0→∀x1,R x0 x1→G):G:=by obtain ⟨x0,h1,h2,x1,hr⟩:=h;exact k x0 h1 h2 x1 hr
theorem lK{R:X0→X1→Prop}(h:∃x0 x1,R x0 x1)(k:∀x0 x1,R x0 x1→G):G:=by obtain ⟨x0,x1,hr⟩:=h;exact k x0 x1 hr
theorem kv{A2 R:X0→X1→Prop}(h:∃x0 x1,A2 x0 x1∧R x0 x1)(k:∀x0 x1,A2 x0 x1→R x0 x1→G):G:=by obtain ⟨x0,x1,h2,hr⟩:=h;exact k x0 x1 h2 hr
theorem bq{A2 A3 R:X0→X1→Prop}(h:∃x0 x1,A2 x0 x1∧A3 x0 x1∧R x0 x1)(k:∀x0 x1,A2 x0 x1→A3 x0 x1→R x0 x1→G):G:=by obtain ⟨x0,x1,h2,h3,hr⟩:=h;exact k x0 x1 h2 h3 hr
theorem kA{A2 A3 A4 R:X0→X1→Prop}(h:∃x0 x1,A2 x0 x1∧A3 x0 x1∧A4 x0 x1∧R x0 x1)(k:∀x0 x1,A2 x0 x1→A3 x0 x1→A4 x0 x1→R x0 x1→G):G:=by obtain ⟨x0,x1,h2,h3,h4,hr⟩:=h;exact k x0 x1 h2 h3 h4 hr
theorem El{A2 A3 A4 A5 A6 R:X0→X1→Prop}(h:∃x0 x1,A2 x0 x1∧A3 x0 x1∧A4 x0 x1∧A5 x0 x1∧A6 x0 x1∧R x0 x1)(k:∀x0 x1,A2 x0 x1→A3 x0 x1→A4 x0 x1→A5 x0 x1→A6 x0 x1→R x0 x1→G):G:=by obtain ⟨x0,x1,h2,h3,h4,h5,h6,hr⟩:=h;exact k x0 x1 h2 h3 h4 h5 h6 hr
theorem jD{R:X0→X1→X2→Prop}(h:∃x0 x1 x2,R x0 x1 x2)(k:∀x0 x1 x2,R x0 x1 x2→G):G:=by obtain ⟨x0,x1,x2,hr⟩:=h;exact k x0 x1 x2 hr
theorem ft{A3 R:X0→X1→X2→Prop}(h:∃x0 x1 x2,A3 x0 x1 x2∧R x0 x1 x2)(k:∀x0 x1 x2,A3 x0 x1 x2→R x0 x1 x2→G):G:=by obtain ⟨x0,x1,x2,h3,hr⟩:=h;exact k x0 x1 x2 h3 hr
theorem jz{A3 A4 R:X0→X1→X2→Prop}(h:∃x0 x1 x2,A3 x0 x1 x2∧A4 x0 x1 x2∧R x0 x1 x2)(k:∀x0 x1 x2,A3 x0 x1 x2→A4 x0 x1 x2→R x0 x1 x2→G):G:=by obtain ⟨x0,x1,x2,h3,h4,hr⟩:=h;exact k x0 x1 x2 h3 h4 hr
theorem dg{A3 A4 A5 R:X0→X1→X2→Prop}(h:∃x0 x1 x2,A3 x0 x1 x2∧A4 x0 x1 x2∧A5 x0 x1 x2∧R x0 x1 x2)(k:∀x0 x1 x2,A3 x0 x1 x2→A4 x0 x1 x2→A5 x0 x1 x2→R x0 x1 x2→G):G:=by obtain ⟨x0,x1,x2,h3,h4,h5,hr⟩:=h;exact k x0 x1 x2 h3 h4 h5 hr
theorem i4{A3 A4 A5 A6 R:X0→X1→X2→Prop}(h:∃x0 x1 x2,A3 x0 x1 x2∧A4 x0 x1 x2∧A5 x0 x1 x2∧A6 x0 x1 x2∧R x0 x1 x2)(k:∀x0 x1 x2,A3 x0 x1 x2→A4 x0 x1 x2→A5 x0 x1 x2→A6 x0 x1 x2→R x0 x1 x2→G):G:=by obtain ⟨x0,x1,x2,h3,h4,h5,h6,hr⟩:=h;exact k x0 x1 x2 h3 h4 h5 h6 hr
theorem JX{R:X0→X1→X2→X3→Prop}(h:∃x0 x1 x2 x3,R x0 x1 x2 x3)(k:∀x0 x1 x2 x3,R x0 x1 x2 x3→G):G:=by obtain ⟨x0,x1,x2,x3,hr⟩:=h;exact k x0 x1 x2 x3 hr
theorem pE{A4 A5 R:X0→X1→X2→X3→Prop}(h:∃x0 x1 x2 x3,A4 x0 x1 x2 x3∧A5 x0 x1 x2 x3∧R x0 x1 x2 x3)(k:∀x0 x1 x2 x3,A4 x0 x1 x2 x3→A5 x0 x1 x2 x3→R x0 x1 x2 x3→G):G:=by obtain ⟨x0,x1,x2,x3,h4,h5,hr⟩:=h;exact k x0 x1 x2 x3 h4 h5 hr
theorem nh{A4 A5 A6 R:X0→X1→X2→X3→Prop}(h:∃x0 x1 x2 x3,A4 x0 x1 x2 x3∧A5 x0 x1 x2 x3∧A6 x0 x1 x2 x3∧R x0 x1 x2 x3)(k:∀x0 x1 x2 x3,A4 x0 x1 x2 x3→A5 x0 x1 x2 x3→A6 x0 x1 x2 x3→R x0 x1 x2 x3→G):G:=by obtain ⟨x0,x1,x2,x3,h4,h5,h6,hr⟩:=h;exact k x0 x1 x2 x3 h4 h5 h6 hr
theorem oK{A4 A5 A6 A7 A8 R:X0→X1→X2→X3→Prop}(h:∃x0 x1 x2 x3,A4 x0 x1 x2 x3∧A5 x0 x1 x2 x3∧A6 x0 x1 x2 x3∧A7 x0 x1 x2 x3∧A8 x0 x1 x2 x3∧R x0 x1 x2 x3)(k:∀x0 x1 x2 x3,A4 x0 x1 x2 x3→A5 x0 x1 x2 x3→A6 x0 x1 x2 x3→A7 x0 x1 x2 x3→A8 x0 x1 x2 x3→R x0 x1 x2 x3→G):G:=by obtain ⟨x0,x1,x2,x3,h4,h5,h6,h7,h8,hr⟩:=h;exact k x0 x1 x2 x3 h4 h5 h6 h7 h8 hr
theorem fp{A5 A6 A7 R:X0→X1→X2→X3→X4→Prop}(h:∃x0 x1 x2 x3 x4,A5 x0 x1 x2 x3 x4∧A6 x0 x1 x2 x3 x4∧A7 x0 x1 x2 x3 x4∧R x0 x1 x2 x3 x4)(k:∀x0 x1 x2 x3 x4,A5 x0 x1 x2 x3 x4→A6 x0 x1 x2 x3 x4→A7 x0 x1 x2 x3 x4→R x0 x1 x2 x3 x4→G):G:=by obtain ⟨x0,x1,x2,x3,x4,h5,h6,h7,hr⟩:=h;exact k x0 x1 x2 x3 x4 h5 h6 h7 hr
theorem gw{A5 A6 A7 A8 A9 A10 R:X0→X1→X2→X3→X4→Prop}(h:∃x0 x1 x2 x3 x4,A5 x0 x1 x2 x3 x4∧A6 x0 x1 x2 x3 x4∧A7 x0 x1 x2 x3 x4∧A8 x0 x1 x2 x3 x4∧A9 x0 x1 x2 x3 x4∧A10 x0 x1 x2 x3 x4∧R x0 x1 x2 x3 x4)(k:∀x0 x1 x2 x3 x4,A5 x0 x1 x2 x3 x4→A6 x0 x1 x2 x3 x4→A7 x0 x1 x2 x3 x4→A8 x0 x1 x2 x3 x4→A9 x0 x1 x2 x3 x4→A10 x0 x1 x2 x3 x4→R x0 x1 x2 x3 x4→G):G:=by obtain ⟨x0,x1,x2,x3,x4,h5,h6,h7,h8,h9,h10,hr⟩:=h;exact k x0 x1 x2 x3 x4 h5 h6 h7 h8 h9 h10 hr
theorem kb{A5 A6 A7 A8 A9 A10 A11 R:X0→X1→X2→X3→X4→Prop}(h:∃x0 x1 x2 x3 x4,A5 x0 x1 x2 x3 x4∧A6 x0 x1 x2 x3 x4∧A7 x0 x1 x2 x3 x4∧A8 x0 x1 x2 x3 x4∧A9 x0 x1 x2 x3 x4∧A10 x0 x1 x2 x3 x4∧A11 x0 x1 x2 x3 x4∧R x0 x1 x2 x3 x4)(k:∀x0 x1 x2 x3 x4,A5 x0 x1 x2 x3 x4→A6 x0 x1 x2 x3 x4→A7 x0 x1 x2 x3 x4→A8 x0 x1 x2 x3 x4→A9 x0 x1 x2 x3 x4→A10 x0 x1 x2 x3 x4→A11 x0 x1 x2 x3 x4→R x0 x1 x2 x3 x4→G):G:=by obtain ⟨x0,x1,x2,x3,x4,h5,h6,h7,h8,h9,h10,h11,hr⟩:=h;exact k x0 x1 x2 x3 x4 h5 h6 h7 h8 h9 h10 h11 hr
theorem gX{A6 A7 A8 A9 R:X0→X1→X2→X3→X4→X5→Prop}(h:∃x0 x1 x2 x3 x4 x5,A6 x0 x1 x2 x3 x4 x5∧A7 x0 x1 x2 x3 x4 x5∧A8 x0 x1 x2 x3 x4 x5∧A9 x0 x1 x2 x3 x4 x5∧R x0 x1 x2 x3 x4 x5)(k:∀x0 x1 x2 x3 x4 x5,A6 x0 x1 x2 x3 x4 x5→A7 x0 x1 x2 x3 x4 x5→A8 x0 x1 x2 x3 x4 x5→A9 x0 x1 x2 x3 x4 x5→R x0 x1 x2 x3 x4 x5→G):G:=by obtain ⟨x0,x1,x2,x3,x4,x5,h6,h7,h8,h9,hr⟩:=h;exact k x0 x1 x2 x3 x4 x5 h6 h7 h8 h9 hr
theorem nV{A6 A7 A8 A9 A10 A11 A12 A13 R:X0→X1→X2→X3→X4→X5→Prop}(h:∃x0 x1 x2 x3 x4 x5,A6 x0 x1 x2 x3 x4 x5∧A7 x0 x1 x2 x3 x4 x5∧A8 x0 x1 x2 x3 x4 x5∧A9 x0 x1 x2 x3 x4 x5∧A10 x0 x1 x2 x3 x4 x5∧A11 x0 x1 x2 x3 x4 x5∧A12 x0 x1 x2 x3 x4 x5∧A13 x0 x1 x2 x3 x4 x5∧R x0 x1 x2 x3 x4 x5)(k:∀x0 x1 x2 x3 x4 x5,A6 x0 x1 x2 x3 x4 x5→A7 x0 x1 x2 x3 x4 x5→A8 x0 x1 x2 x3 x4 x5→A9 x0 x1 x2 x3 x4 x5→A10 x0 x1 x2 x3 x4 x5→A11 x0 x1 x2 x3 x4 x5→A12 x0 x1 x2 x3 x4 x5→A13 x0 x1 x2 x3 x4 x5→R x0 x1 x2 x3 x4 x5→G):G:=by obtain ⟨x0,x1,x2,x3,x4,x5,h6,h7,h8,h9,h10,h11,h12,h13,hr⟩:=h;exact k x0 x1 x2 x3 x4 x5 h6 h7 h8 h9 h10 h11 h12 h13 hr
theorem fu(h0:A0)(h1:A1)(hr:R):A0∧A1∧R:=⟨h0,h1,hr⟩
theorem lm(h0:A0)(h1:A1)(h2:A2)(hr:R):A0∧A1∧A2∧R:=⟨h0,h1,h2,hr⟩
theorem uC(h0:A0)(h1:A1)(h2:A2)(h3:A3)(hr:R):A0∧A1∧A2∧A3∧R:=⟨h0,h1,h2,h3,hr⟩
theorem Fs(h0:A0)(h1:A1)(h2:A2)(h3:A3)(h4:A4)(h5:A5)(hr:R):A0∧A1∧A2∧A3∧A4∧A5∧R:=⟨h0,h1,h2,h3,h4,h5,hr⟩
theorem Ku{A5 R:X0→X1→Prop}(h0:A0)(h1:A1)(h2:A2)(x0:X0)(x1:X1)(h5:A5 x0 x1)(hr:R x0 x1):A0∧A1∧A2∧∃x0 x1,A5 x0 x1∧R x0 x1:=⟨h0,h1,h2,x0,x1,h5,hr⟩
theorem ji{R:X0→Prop}(h0:A0)(x0:X0)(hr:R x0):A0∧∃x0,R x0:=⟨h0,x0,hr⟩
theorem gR{A2 R:X0→Prop}(h0:A0)(x0:X0)(h2:A2 x0)(hr:R x0):A0∧∃x0,A2 x0∧R x0:=⟨h0,x0,h2,hr⟩
theorem Vq{A3 R:X0→X1→Prop}(h0:A0)(x0:X0)(x1:X1)(h3:A3 x0 x1)(hr:R x0 x1):A0∧∃x0 x1,A3 x0 x1∧R x0 x1:=⟨h0,x0,x1,h3,hr⟩
theorem NX{A3 A4 R:X0→X1→Prop}(h0:A0)(x0:X0)(x1:X1)(h3:A3 x0 x1)(h4:A4 x0 x1)(hr:R x0 x1):A0∧∃x0 x1,A3 x0 x1∧A4 x0 x1∧R x0 x1:=⟨h0,x0,x1,h3,h4,hr⟩
theorem aZ{A1 R:X0→Prop}(x0:X0)(h1:A1 x0)(hr:R x0):∃x0,A1 x0∧R x0:=⟨x0,h1,hr⟩
theorem cJ{A1 A2 R:X0→Prop}(x0:X0)(h1:A1 x0)(h2:A2 x0)(hr:R x0):∃x0,A1 x0∧A2 x0∧R x0:=⟨x0,h1,h2,hr⟩
theorem c_{A1 A2 A3 R:X0→Prop}(x0:X0)(h1:A1 x0)(h2:A2 x0)(h3:A3 x0)(hr:R x0):∃x0,A1 x0∧A2 x0∧A3 x0∧R x0:=⟨x0,h1,h2,h3,hr⟩
theorem j4{A1 A2 A3:X0→Prop}{A5 R:X0→X1→Prop}(x0:X0)(h1:A1 x0)(h2:A2 x0)(h3:A3 x0)(x1:X1)(h5:A5 x0 x1)(hr:R x0 x1):∃x0,A1 x0∧A2 x0∧A3 x0∧∃x1,A5 x0 x1∧R x0 x1:=⟨x0,h1,h2,h3,x1,h5,hr⟩
theorem VL{A1 A2:X0→Prop}{R:X0→X1→Prop}(x0:X0)(h1:A1 x0)(h2:A2 x0)(x1:X1)(hr:R x0 x1):∃x0,A1 x0∧A2 x0∧∃x1,R x0 x1:=⟨x0,h1,h2,x1,hr⟩
theorem C2{A1 A2:X0→Prop}{R:X0→X1→X2→Prop}(x0:X0)(h1:A1 x0)(h2:A2 x0)(x1:X1)(x2:X2)(hr:R x0 x1 x2):∃x0,A1 x0∧A2 x0∧∃x1 x2,R x0 x1 x2:=⟨x0,h1,h2,x1,x2,hr⟩
theorem yh{A1:X0→Prop}{A5 A6 A7 R:X0→X1→X2→X3→Prop}(x0:X0)(h1:A1 x0)(x1:X1)(x2:X2)(x3:X3)(h5:A5 x0 x1 x2 x3)(h6:A6 x0 x1 x2 x3)(h7:A7 x0 x1 x2 x3)(hr:R x0 x1 x2 x3):∃x0,A1 x0∧∃x1 x2 x3,A5 x0 x1 x2 x3∧A6 x0 x1 x2 x3∧A7 x0 x1 x2 x3∧R x0 x1 x2 x3:=⟨x0,h1,x1,x2,x3,h5,h6,h7,hr⟩
theorem jH{R:X0→X1→Prop}(x0:X0)(x1:X1)(hr:R x0 x1):∃x0 x1,R x0 x1:=⟨x0,x1,hr⟩
theorem fS{A2 R:X0→X1→Prop}(x0:X0)(x1:X1)(h2:A2 x0 x1)(hr:R x0 x1):∃x0 x1,A2 x0 x1∧R x0 x1:=⟨x0,x1,h2,hr⟩
theorem dw{A2 A3 R:X0→X1→Prop}(x0:X0)(x1:X1)(h2:A2 x0 x1)(h3:A3 x0 x1)(hr:R x0 x1):∃x0 x1,A2 x0 x1∧A3 x0 x1∧R x0 x1:=⟨x0,x1,h2,h3,hr⟩
theorem ul{A2 A3 A4 R:X0→X1→Prop}(x0:X0)(x1:X1)(h2:A2 x0 x1)(h3:A3 x0 x1)(h4:A4 x0 x1)(hr:R x0 x1):∃x0 x1,A2 x0 x1∧A3 x0 x1∧A4 x0 x1∧R x0 x1:=⟨x0,x1,h2,h3,h4,hr⟩
theorem Dx{A2 A3 A4 A5 A6 R:X0→X1→Prop}(x0:X0)(x1:X1)(h2:A2 x0 x1)(h3:A3 x0 x1)(h4:A4 x0 x1)(h5:A5 x0 x1)(h6:A6 x0 x1)(hr:R x0 x1):∃x0 x1,A2 x0 x1∧A3 x0 x1∧A4 x0 x1∧A5 x0 x1∧A6 x0 x1∧R x0 x1:=⟨x0,x1,h2,h3,h4,h5,h6,hr⟩
theorem BW{A2 A3:X0→X1→Prop}{R:X0→X1→X2→Prop}(x0:X0)(x1:X1)(h2:A2 x0 x1)(h3:A3 x0 x1)(x2:X2)(hr:R x0 x1 x2):∃x0 x1,A2 x0 x1∧A3 x0 x1∧∃x2,R x0 x1 x2:=⟨x0,x1,h2,h3,x2,hr⟩
theorem D_{A2 A3:X0→X1→Prop}{R:X0→X1→X2→X3→X4→Prop}(x0:X0)(x1:X1)(h2:A2 x0 x1)(h3:A3 x0 x1)(x2:X2)(x3:X3)(x4:X4)(hr:R x0 x1 x2 x3 x4):∃x0 x1,A2 x0 x1∧A3 x0 x1∧∃x2 x3 x4,R x0 x1 x2 x3 x4:=⟨x0,x1,h2,h3,x2,x3,x4,hr⟩
theorem jE{R:X0→X1→X2→Prop}(x0:X0)(x1:X1)(x2:X2)(hr:R x0 x1 x2):∃x0 x1 x2,R x0 x1 x2:=⟨x0,x1,x2,hr⟩
theorem lC{A3 R:X0→X1→X2→Prop}(x0:X0)(x1:X1)(x2:X2)(h3:A3 x0 x1 x2)(hr:R x0 x1 x2):∃x0 x1 x2,A3 x0 x1 x2∧R x0 x1 x2:=⟨x0,x1,x2,h3,hr⟩
theorem pe{A3 A4 R:X0→X1→X2→Prop}(x0:X0)(x1:X1)(x2:X2)(h3:A3 x0 x1 x2)(h4:A4 x0 x1 x2)(hr:R x0 x1 x2):∃x0 x1 x2,A3 x0 x1 x2∧A4 x0 x1 x2∧R x0 x1 x2:=⟨x0,x1,x2,h3,h4,hr⟩
theorem dy{A3 A4 A5 R:X0→X1→X2→Prop}(x0:X0)(x1:X1)(x2:X2)(h3:A3 x0 x1 x2)(h4:A4 x0 x1 x2)(h5:A5 x0 x1 x2)(hr:R x0 x1 x2):∃x0 x1 x2,A3 x0 x1 x2∧A4 x0 x1 x2∧A5 x0 x1 x2∧R x0 x1 x2:=⟨x0,x1,x2,h3,h4,h5,hr⟩
theorem h_{A3 A4 A5 A6 R:X0→X1→X2→Prop}(x0:X0)(x1:X1)(x2:X2)(h3:A3 x0 x1 x2)(h4:A4 x0 x1 x2)(h5:A5 x0 x1 x2)(h6:A6 x0 x1 x2)(hr:R x0 x1 x2):∃x0 x1 x2,A3 x0 x1 x2∧A4 x0 x1 x2∧A5 x0 x1 x2∧A6 x0 x1 x2∧R x0 x1 x2:=⟨x0,x1,x2,h3,h4,h5,h6,hr⟩
theorem yk{R:X0→X1→X2→X3→Prop}(x0:X0)(x1:X1)(x2:X2)(x3:X3)(hr:R x0 x1 x2 x3):∃x0 x1 x2 x3,R x0 x1 x2 x3:=⟨x0,x1,x2,x3,hr⟩
theorem LY{A4 R:X0→X1→X2→X3→Prop}(x0:X0)(x1:X1)(x2:X2)(x3:X3)(h4:A4 x0 x1 x2 x3)(hr:R x0 x1 x2 x3):∃x0 x1 x2 x3,A4 x0 x1 x2 x3∧R x0 x1 x2 x3:=⟨x0,x1,x2,x3,h4,hr⟩
theorem pR{A4 A5 R:X0→X1→X2→X3→Prop}(x0:X0)(x1:X1)(x2:X2)(x3:X3)(h4:A4 x0 x1 x2 x3)(h5:A5 x0 x1 x2 x3)(hr:R x0 x1 x2 x3):∃x0 x1 x2 x3,A4 x0 x1 x2 x3∧A5 x0 x1 x2 x3∧R x0 x1 x2 x3:=⟨x0,x1,x2,x3,h4,h5,hr⟩
theorem DD{A4 A5 A6 R:X0→X1→X2→X3→Prop}(x0:X0)(x1:X1)(x2:X2)(x3:X3)(h4:A4 x0 x1 x2 x3)(h5:A5 x0 x1 x2 x3)(h6:A6 x0 x1 x2 x3)(hr:R x0 x1 x2 x3):∃x0 x1 x2 x3,A4 x0 x1 x2 x3∧A5 x0 x1 x2 x3∧A6 x0 x1 x2 x3∧R x0 x1 x2 x3:=⟨x0,x1,x2,x3,h4,h5,h6,hr⟩
theorem oE{A4 A5 A6 A7 A8 R:X0→X1→X2→X3→Prop}(x0:X0)(x1:X1)(x2:X2)(x3:X3)(h4:A4 x0 x1 x2 x3)(h5:A5 x0 x1 x2 x3)(h6:A6 x0 x1 x2 x3)(h7:A7 x0 x1 x2 x3)(h8:A8 x0 x1 x2 x3)(hr:R x0 x1 x2 x3):∃x0 x1 x2 x3,A4 x0 x1 x2 x3∧A5 x0 x1 x2 x3∧A6 x0 x1 x2 x3∧A7 x0 x1 x2 x3∧A8 x0 x1 x2 x3∧R x0 x1 x2 x3:=⟨x0,x1,x2,x3,h4,h5,h6,h7,h8,hr⟩
theorem iz{A5 A6 A7 R:X0→X1→X2→X3→X4→Prop}(x0:X0)(x1:X1)(x2:X2)(x3:X3)(x4:X4)(h5:A5 x0 x1 x2 x3 x4)(h6:A6 x0 x1 x2 x3 x4)(h7:A7 x0 x1 x2 x3 x4)(hr:R x0 x1 x2 x3 x4):∃x0 x1 x2 x3 x4,A5 x0 x1 x2 x3 x4∧A6 x0 x1 x2 x3 x4∧A7 x0 x1 x2 x3 x4∧R x0 x1 x2 x3 x4:=⟨x0,x1,x2,x3,x4,h5,h6,h7,hr⟩
theorem m7{A5 A6 A7 A8 A9 R:X0→X1→X2→X3→X4→Prop}(x0:X0)(x1:X1)(x2:X2)(x3:X3)(x4:X4)(h5:A5 x0 x1 x2 x3 x4)(h6:A6 x0 x1 x2 x3 x4)(h7:A7 x0 x1 x2 x3 x4)(h8:A8 x0 x1 x2 x3 x4)(h9:A9 x0 x1 x2 x3 x4)(hr:R x0 x1 x2 x3 x4):∃x0 x1 x2 x3 x4,A5 x0 x1 x2 x3 x4∧A6 x0 x1 x2 x3 x4∧A7 x0 x1 x2 x3 x4∧A8 x0 x1 x2 x3 x4∧A9 x0 x1 x2 x3 x4∧R x0 x1 x2 x3 x4:=⟨x0,x1,x2,x3,x4,h5,h6,h7,h8,h9,hr⟩
theorem j1{A5 A6 A7 A8 A9 A10 R:X0→X1→X2→X3→X4→Prop}(x0:X0)(x1:X1)(x2:X2)(x3:X3)(x4:X4)(h5:A5 x0 x1 x2 x3 x4)(h6:A6 x0 x1 x2 x3 x4)(h7:A7 x0 x1 x2 x3 x4)(h8:A8 x0 x1 x2 x3 x4)(h9:A9 x0 x1 x2 x3 x4)(h10:A10 x0 x1 x2 x3 x4)(hr:R x0 x1 x2 x3 x4):∃x0 x1 x2 x3 x4,A5 x0 x1 x2 x3 x4∧A6 x0 x1 x2 x3 x4∧A7 x0 x1 x2 x3 x4∧A8 x0 x1 x2 x3 x4∧A9 x0 x1 x2 x3 x4∧A10 x0 x1 x2 x3 x4∧R x0 x1 x2 x3 x4:=⟨x0,x1,x2,x3,x4,h5,h6,h7,h8,h9,h10,hr⟩
theorem i8{A5 A6 A7 A8 A9 A10 A11 R:X0→X1→X2→X3→X4→Prop}(x0:X0)(x1:X1)(x2:X2)(x3:X3)(x4:X4)(h5:A5 x0 x1 x2 x3 x4)(h6:A6 x0 x1 x2 x3 x4)(h7:A7 x0 x1 x2 x3 x4)(h8:A8 x0 x1 x2 x3 x4)(h9:A9 x0 x1 x2 x3 x4)(h10:A10 x0 x1 x2 x3 x4)(h11:A11 x0 x1 x2 x3 x4)(hr:R x0 x1 x2 x3 x4):∃x0 x1 x2 x3 x4,A5 x0 x1 x2 x3 x4∧A6 x0 x1 x2 x3 x4∧A7 x0 x1 x2 x3 x4∧A8 x0 x1 x2 x3 x4∧A9 x0 x1 x2 x3 x4∧A10 x0 x1 x2 x3 x4∧A11 x0 x1 x2 x3 x4∧R x0 x1 x2 x3 x4:=⟨x0,x1,x2,x3,x4,h5,h6,h7,h8,h9,h10,h11,hr⟩
theorem oQ{A5 A6 A7 A8 A9 A10 A11 A12 R:X0→X1→X2→X3→X4→Prop}(x0:X0)(x1:X1)(x2:X2)(x3:X3)(x4:X4)(h5:A5 x0 x1 x2 x3 x4)(h6:A6 x0 x1 x2 x3 x4)(h7:A7 x0 x1 x2 x3 x4)(h8:A8 x0 x1 x2 x3 x4)(h9:A9 x0 x1 x2 x3 x4)(h10:A10 x0 x1 x2 x3 x4)(h11:A11 x0 x1 x2 x3 x4)(h12:A12 x0 x1 x2 x3 x4)(hr:R x0 x1 x2 x3 x4):∃x0 x1 x2 x3 x4,A5 x0 x1 x2 x3 x4∧A6 x0 x1 x2 x3 x4∧A7 x0 x1 x2 x3 x4∧A8 x0 x1 x2 x3 x4∧A9 x0 x1 x2 x3 x4∧A10 x0 x1 x2 x3 x4∧A11 x0 x1 x2 x3 x4∧A12 x0 x1 x2 x3 x4∧R x0 x1 x2 x3 x4:=⟨x0,x1,x2,x3,x4,h5,h6,h7,h8,h9,h10,h11,h12,hr⟩
theorem eK{A6 A7 A8 A9 R:X0→X1→X2→X3→X4→X5→Prop}(x0:X0)(x1:X1)(x2:X2)(x3:X3)(x4:X4)(x5:X5)(h6:A6 x0 x1 x2 x3 x4 x5)(h7:A7 x0 x1 x2 x3 x4 x5)(h8:A8 x0 x1 x2 x3 x4 x5)(h9:A9 x0 x1 x2 x3 x4 x5)(hr:R x0 x1 x2 x3 x4 x5):∃x0 x1 x2 x3 x4 x5,A6 x0 x1 x2 x3 x4 x5∧A7 x0 x1 x2 x3 x4 x5∧A8 x0 x1 x2 x3 x4 x5∧A9 x0 x1 x2 x3 x4 x5∧R x0 x1 x2 x3 x4 x5:=⟨x0,x1,x2,x3,x4,x5,h6,h7,h8,h9,hr⟩
theorem og{A6 A7 A8 A9 A10 A11 A12 A13 R:X0→X1→X2→X3→X4→X5→Prop}(x0:X0)(x1:X1)(x2:X2)(x3:X3)(x4:X4)(x5:X5)(h6:A6 x0 x1 x2 x3 x4 x5)(h7:A7 x0 x1 x2 x3 x4 x5)(h8:A8 x0 x1 x2 x3 x4 x5)(h9:A9 x0 x1 x2 x3 x4 x5)(h10:A10 x0 x1 x2 x3 x4 x5)(h11:A11 x0 x1 x2 x3 x4 x5)(h12:A12 x0 x1 x2 x3 x4 x5)(h13:A13 x0 x1 x2 x3 x4 x5)(hr:R x0 x1 x2 x3 x4 x5):∃x0 x1 x2 x3 x4 x5,A6 x0 x1 x2 x3 x4 x5∧A7 x0 x1 x2 x3 x4 x5∧A8 x0 x1 x2 x3 x4 x5∧A9 x0 x1 x2 x3 x4 x5∧A10 x0 x1 x2 x3 x4 x5∧A11 x0 x1 x2 x3 x4 x5∧A12 x0 x1 x2 x3 x4 x5∧A13 x0 x1 x2 x3 x4 x5∧R x0 x1 x2 x3 x4 x5:=⟨x0,x1,x2,x3,x4,x5,h6,h7,h8,h9,h10,h11,h12,h13,hr⟩
@[elab_as_elim] theorem cA {A:Type u0} {P:A→Prop} {a b:A} (h:some a=some b) (k:P a):P b:=by cases h;exact k
@[elab_as_elim] theorem cg {A:Type u0} {B:Type u1} {P:A→B→Prop} {a a':A} {b b':B} (h:some (a,b)=some (a',b')) (k:P a b):P a' b':=by cases h;exact k
@[elab_as_elim] theorem ga {A:Type u0} {B:Type u1} {D:Type u2} {P:A→B→D→Prop} {a a':A} {b b':B} {c c':D} (h:some (a,b,c)=some (a',b',c')) (k:P a b c):P a' b' c':=by cases h;exact k
theorem ct{A:Type u0}{a:A}(h:none=some a):G:=by cases h
@[elab_as_elim] theorem bH {A:Sort u0} {P:A→Prop} {a b:A} (h:a=b) (k:P a):P b:=h▸k
@[elab_as_elim] theorem rA {A:Sort u0} {P:A→Prop} {a b:A} (h:a=b) (k:P b):P a:=h▸k
@[elab_as_elim] theorem rB {A:Sort u0} {P:A→Prop} {a b:A} (h:b=a) (k:P b):P a:=h▸k
theorem eC{p:Prop}(h:∀q:Prop,(p→q)→q):p:=h p id
end
noncomputable def keep:List Nat:=[1,2,3,4,6,7,8]++F6 10 54++F6 65 9
noncomputable def vq:Program:=view Mw keep
noncomputable def loose:List Str:=["COMPILER_FLAG_NAMES","EXACT_TOKEN_TYPES"]
noncomputable def SN:List Str:=(["!","!=","%","%=","&","&=","(",")","*","**","**=","*=","+","+=",",","-","-=","->",".","...","/","//","//=","/=",":",":=",";","<","<<","<<=","<=","=","==",">",">=",">>",">>=","@","@=","[","]","^","^=","{","|","|=","}","~"]:List String).map JI
noncomputable def tyV:Value→Option String
 | .type T=>some T
 |_=>none
noncomputable def IW:Value→Option Str
 | .str x _=>some x
 |_=>none
noncomputable def MJ:Value→Option Int
 | .int i _=>some i
 |_=>none
noncomputable def Dc(e:DictEntry):Option (Int×Str):=(MJ e.key).bind λx=>(IW e.val).bind λy=>if e.hash=hashInt x then some (x,y) else none
theorem Fx{v:Value}{x:Str}(h:IW v=some x):∃t,v=.str x t:=by cases v<;>first|exact ct h| (refine cA h ?_;exact ⟨_,rfl⟩)
theorem Kk{v:Value}{x:Int}(h:MJ v=some x):∃t,v=.int x t:=by cases v<;>first|exact ct h| (refine cA h ?_;exact ⟨_,rfl⟩)
theorem ab5{v:Value}{x:String}(h:tyV v=some x):v=.type x:=by cases v<;>first|exact ct h| (refine cA h ?_;rfl)
noncomputable def TC:Value→Option Addr
 | .ref a=>some a
 |_=>none
noncomputable def YW:Data→Option (List DictEntry)
 | .dict es _=>some es.toList
 |_=>none
noncomputable def Sp(h:Heap)(a:Addr):Option (List DictEntry):=(h.get? a).bind λo=>if tyV o.cls=some "dict"∧o.dict=none∧o.slots.size=0 then YW o.data else none
theorem Ut{v:Data}{l:List DictEntry}(h:YW v=some l):∃es n,v=.dict es n∧es.toList=l:=by cases v<;>first|exact ct h| (refine cA h ?_;exact ⟨_,_,rfl,rfl⟩)
theorem ae0{o:Obj}{c:Value}{d:Option Addr}{D:Data}(h1:o.cls=c)(h2:o.dict=d)(h3:o.data=D)(h4:o.slots= #[]):o=⟨c,d,D,#[]⟩:=by subst h1 h2 h3;rw [←h4]
theorem xl{h:Heap}{a:Addr}{l:List DictEntry}(e:Sp h a=some l):∃es n,h.get? a=some ⟨.type "dict",none,.dict es n,#[]⟩∧es.toList=l:=by
 obtain ⟨o,e1,e2⟩:=KJ.mp e
 by_cases q:tyV o.cls=some "dict"∧o.dict=none∧o.slots.size=0
 ·obtain ⟨es,n,ed,el⟩:=Ut ((if_pos q).symm.trans e2)
  exact ⟨es,n,e1.trans (congrArg some (ae0 (ab5 q.1) q.2.1 ed (Array.eq_empty_of_size_eq_zero q.2.2))),el⟩
 ·exact ct ((if_neg q).symm.trans e2)
theorem xd{h h':Heap}{a:Addr}{l:List DictEntry}(e:Sp h a=some l)(k:∀b o,h.get? b=some o→h'.get? b=some o):Sp h' a=some l:=by
 obtain ⟨o,e1,e2⟩:=KJ.mp e;unfold Sp;rw [k _ _ e1];exact e2
noncomputable def v1(l:List DictEntry):List (Option Str×Int):=l.map λe=>(IW e.key,e.hash)
noncomputable def v2(l:List DictEntry):List (Option Int):=(["|","*","(",")"]:List Str).map λx=>((l.find? λe=>QI x e.key).map (·.val)).bind MJ
noncomputable def k1(w:World):List (Option Str×Int):=SN.map λx=>(some x,PyData.keyHash w.params x)
noncomputable def Z4:List (Int×Str):=[(1,"OPTIMIZED"),(2,"NEWLOCALS"),(4,"VARARGS"),(8,"VARKEYWORDS"),(16,"NESTED"),(32,"GENERATOR"),(64,"NOFREE"),(128,"COROUTINE"),(256,"ITERABLE_COROUTINE"),(512,"ASYNC_GENERATOR")]
noncomputable def yf(s:Shared):=((Sp s.heap 58).map λl=>(v1 l,v2 l),(Sp s.heap 43).map λl=>l.map Dc)
noncomputable def ya(w:World):=(some (k1 w,[some (18:Int),some 16,some 7,some 8]),some (Z4.map some))
def zf(w:World)(h:Heap):Prop:=∃l1 l2,Sp h 58=some l1∧Sp h 43=some l2∧v1 l1=k1 w∧v2 l1=[some 18,some 16,some 7,some 8]∧l2.map Dc=Z4.map some
theorem Os(w:World)(s:Shared)(e:yf s=ya w):zf w s.heap:=by
 have e1:=congrArg U5 e;have e2:=congrArg U7 e;obtain ⟨l1,a1,b1⟩:=IA.mp e1;obtain ⟨l2,a2,b2⟩:=IA.mp e2;exact ⟨l1,l2,a1,a2,congrArg U5 b1,congrArg U7 b1,b2⟩
theorem Dj(w:World)(h h':Heap)(t:zf w h)(k:∀b o,h.get? b=some o→h'.get? b=some o):zf w h':=by
 obtain ⟨l1,l2,a1,a2,r⟩:=t;exact ⟨l1,l2,xd a1 k,xd a2 k,r⟩
noncomputable def mgB(mg:Str→Option Value):Bool:=(mg "EXACT_TOKEN_TYPES").bind TC==some 58&&(mg "COMPILER_FLAG_NAMES").bind TC==some 43
noncomputable def xt(s:Shared):Bool:=xlAt vq [] s&&recOk [] s&&mgB (s.heap.nsMap mainGlobals)
def Zk(mg:Str→Option Value)(h:Heap):Prop:=XL vq [] mg h∧mgB mg=true
theorem ZI(s:Shared)(e:xt s=true):Zk (s.heap.nsMap mainGlobals) s.heap:=by
 unfold xt at e
 rw [EZ,EZ] at e
 exact ⟨xl_of s e.1.1,e.2⟩
theorem Ps(mg:Str→Option Value)(h h':Heap)(x:Zk mg h)(k:∀b o,h.get? b=some o→h'.get? b=some o):Zk mg h':=⟨XL.keeps mg h h' x.1 k,x.2⟩
theorem Hy{v:Option Value}{a:Addr}(e:v.bind TC=some a):v=some (.ref a):=by
 obtain ⟨x,rfl,e⟩:=KJ.mp e;cases x<;>first|exact ct e| (refine cA e ?_;rfl)
theorem mg_of2{mg:Str→Option Value}(e:mgB mg=true):mg "EXACT_TOKEN_TYPES"=some (.ref 58)∧mg "COMPILER_FLAG_NAMES"=some (.ref 43):=by
 unfold mgB at e
 rw [EZ,beq_iff_eq,beq_iff_eq] at e
 exact ⟨Hy e.1,Hy e.2⟩
theorem uu{v:Option Value}{i:Int}(e:v.bind MJ=some i):∃t,v=some (.int i t):=by
 obtain ⟨x,rfl,e⟩:=KJ.mp e;obtain ⟨t,q⟩:=Kk e;exact ⟨t,congrArg some q⟩
noncomputable def Vh:Str:="law"
theorem FU:(defOf vq Vh).isSome=true:= ∅
noncomputable def dd:DefRec×List (Str×Expr):=(defOf vq Vh).get FU
theorem ZF:defOf vq Vh=some (dd.1,dd.2):=(Option.some_get FU).symm
noncomputable abbrev P:=Mw
abbrev Si(w:World)(b:Bool):Prop:=(openEnds treeTable P (w.withFollow "special-get-raises" b) 4366).map (λs=>(openSeen vq loose (importedModules P.main.body) xt true s,yf s))=some (openGood vq loose,ya (w.withFollow "special-get-raises" b))
theorem ZY(w:World):Si w false:= ∅
theorem Zy(w:World):Si w true:= ∅
theorem X_:LeftO P vq loose xt yf ya 4366:=byRow2 "special-get-raises" (P:= λw=>(openEnds treeTable Mine.P w 4366).map (λs=>(openSeen vq loose (importedModules Mine.P.main.body) xt true s,yf s))=some (openGood vq loose,ya w)) ZY Zy
theorem Jf:Lk.wellSaid=true:= ∅
abbrev RR:=Lk.row
theorem LS:RR.toRowW.promised:=by w_witness2
theorem TS:RR.prog.theDef RR.name=some (dd.1.params,dd.1.body,dd.1.scope):= ∅
theorem YM:kwWritten? dd.1.params.kwonlyargs dd.1.params.kw_defaults=some dd.2:= ∅
theorem Ul:(chainsOk vq&&opensWell RR.prog&&(frees RR.toRowW&&RR.within.isEmpty))=true:= ∅
end Mine
namespace Mine
open PySem PySem.W PySem.Calls PyProof.Rows
variable {Cn D L TI TO a fa i1 i2 i3 z : Addr} {A : Around} {items zs : Array Value} {sh tup : Bool} {cenv env : Env} {mean : ExcName → Option Value} {e e1 e2 elt iter target test : Expr} {h h' : Heap} {y : Int} {M M' O T T' W wr α α' α1 α₀ : List Addr} {es : List Expr} {K cs ns os rest : List Int} {gi ls m ps : List Nat} {X acc acc' ds xs ys : List PyData} {body orelse : List Stmt} {vs : List Value} {b i j ja jt k kk low mask n p q tk : Nat} {o : Obj} {op : Operator} {hi lo : Option Expr} {gg : Option Nat} {apos pos px py sp tp xp : Pos} {prog : Program} {G : Prop} {d : PyData} {sc scope : Scope} {s s' s'' s1 s₀ : Shared} {st : Stmt} {name x : Str} {u : Tok} {cd cls doc fv it pm v : Value} {E Q : Value → Shared → Prop} {w : World}
def fZ(W:List Addr)(h h':Heap):Prop:=∀b o,h.get? b=some o→(b∈W→False)→h'.get? b=some o
theorem fZ.refl(W:List Addr)(h:Heap):fZ W h h:= λzz zz e zz=>e
theorem fZ.of_keeps(hk:∀b o,h.get? b=some o→h'.get? b=some o):fZ W h h':= λb o e zz=>hk b o e
theorem fZ.mono{W':List Addr}(x:fZ W h h')(hs:∀a∈W,a∈W'∨h.get? a=none):fZ W' h h':= λb o e ht=>x b o e λhb=>by
 rcases hs b hb with q|q
 ·exact ht q
 ·rw [e] at q;exact ct (ES q)
theorem fZ.trans{h'':Heap}(x:fZ W h h')(y:fZ W h' h''):fZ W h h'':= λb o e ht=>y b o (x b o e ht) ht
def SeqAt(h:Heap)(a:Addr):Prop:=∃o vs n,h.get? a=some o∧o.data=.seq vs n
theorem fH{vs:Array Value}(p:h.PlainList a vs):SeqAt h a:=let ⟨n,e⟩:=p;(lC _ vs n e rfl)
theorem i0{vs:Array Value}(p:h.IsTuple a vs):SeqAt h a:=let ⟨o,e,_,n,d⟩:=p;⟨o,vs,n,e,d⟩
theorem SeqAt.ext(x:fZ W h h')(ha:a∉W)(q:SeqAt h a):SeqAt h' a:=by
 refine ft q λo vs n e d=>?_;exact (lC o vs n (x _ _ e (λhm=>absurd hm ha)) d)
mutual
inductive aJ (h:Heap) (M:List Addr):Value→PyData→Prop
 |cnone:aJ h M .none .none
 |cbool (b:Bool):aJ h M (.bool b) (.bool b)
 |cint (i:Int) (t:Tok):aJ h M (.int i t) (.int i)
 |cstr (x:Str) (t:Tok):aJ h M (.str x t) (.str x)
 |clist {a:Addr} {vs:Array Value} {xs:List PyData}:h.PlainList a vs→a∉M→aw h M vs.toList xs→aJ h M (.ref a) (.list xs)
 |ctuple {a:Addr} {vs:Array Value} {xs:List PyData}:h.IsTuple a vs→a∉M→aw h M vs.toList xs→aJ h M (.ref a) (.tuple xs)
inductive aw (h:Heap) (M:List Addr):List Value→List PyData→Prop
 |cnil:aw h M [] []
 |ccons {v:Value} {vs:List Value} {d:PyData} {ds:List PyData}:aJ h M v d→aw h M vs ds→aw h M (v::vs) (d::ds)
end
theorem ku{vs:Array Value}(p:h.IsTuple a vs)(x:fZ W h h')(ha:a∉W):h'.IsTuple a vs:=let ⟨o,e,q⟩:=p;⟨o,x _ _ e (λz=>ha z),q⟩
theorem eO{vs:Array Value}(p:h.PlainList a vs)(x:fZ W h h')(ha:a∉W):h'.PlainList a vs:=let ⟨n,e⟩:=p;⟨n,x _ _ e (λz=>ha z)⟩
theorem fM(q:SeqAt h a):h.get? a≠none:=by
 refine ft q λo zz zz e zz=>?_;rw [e];simp
theorem aJ.step(r:aJ h M v d)(x:fZ W h h')(hw:∀a∈W,SeqAt h a→a∈M)(hm:∀a∈M',a∈M∨h.get? a=none):aJ h' M' v d:=by
 refine aJ.rec (motive_1:= λv d zz=>aJ h' M' v d) (motive_2:= λvs ds zz=>aw h' M' vs ds) .cnone .cbool .cint .cstr ?_ ?_ .cnil ?_ r
 ·intro a vs xs p ha _ ih
  exact .clist (eO p x λq=>ha (hw a q (fH p))) (λq=>(hm a q).elim ha λz=>fM (fH p) z) ih
 ·intro a vs xs p ha _ ih
  exact .ctuple (ku p x λq=>ha (hw a q (i0 p))) (λq=>(hm a q).elim ha λz=>fM (i0 p) z) ih
 ·intro v vs d ds _ _ i1 i2;exact .ccons i1 i2
theorem aw.step(x:fZ W h h')(hw:∀a∈W,SeqAt h a→a∈M)(hm:∀a∈M',a∈M∨h.get? a=none):∀ {vs:List Value} {ds:List PyData},aw h M vs ds→aw h' M' vs ds
 |_,_,.cnil=>.cnil
 |_,_,.ccons r rs=>.ccons (r.step x hw hm) (aw.step x hw hm rs)
theorem aJ.keeps(r:aJ h M v d)(hk:∀b o,h.get? b=some o→h'.get? b=some o):aJ h' M v d:=
 r.step (W:=[]) (fZ.of_keeps hk) (by simp) λa ha=>.inl ha
theorem aw.keeps{v:List Value}{d:List PyData}(r:aw h M v d)(hk:∀b o,h.get? b=some o→h'.get? b=some o):aw h' M v d:=
 aw.step (W:=[]) (fZ.of_keeps hk) (by simp) (λa ha=>.inl ha) r
theorem aJ.mono(r:aJ h M v d)(hm:∀a∈M',a∈M):aJ h M' v d:=r.step (W:=[]) (fZ.refl _ _) (by simp) λa ha=>.inl (hm a ha)
theorem aw.mono{v:List Value}{d:List PyData}(r:aw h M v d)(hm:∀a∈M',a∈M):aw h M' v d:=aw.step (W:=[]) (fZ.refl _ _) (by simp) (λa ha=>.inl (hm a ha)) r
theorem uN{vs:Array Value}{as:List Addr}(p:h.IsTuple a vs)(r:ReadsAll h vs.toList xs as):Reads h (.ref a) (.tuple xs) as:=let ⟨_,e,c,_,d⟩:=p;.tuple e c d r
theorem aJ.reads(r:aJ h M v d):∃as,Reads h v d as:=by
 refine aJ.rec (motive_1:= λv d zz=>∃as,Reads h v d as) (motive_2:= λvs ds zz=>∃as,ReadsAll h vs ds as) ⟨_,.none⟩ (λb=>⟨_,.bool b⟩) (λi t=>⟨_,.int i t⟩) (λx t=>⟨_,.str x t⟩) ?_ ?_ ⟨_,.nil⟩ ?_ r
 ·intro a vs xs zi0 ha _ zi1
  refine bP zi0 λn e=>?_;refine bP zi1 λas ih=>?_;exact ⟨_,.list e rfl rfl ih⟩
 ·intro a vs xs p ha _ zi2
  refine bP zi2 λas ih=>?_;exact ⟨_,uN p ih⟩
 ·rintro v vs d ds _ _ ⟨as,i1⟩ ⟨bs,i2⟩;exact ⟨_,.cons i1 i2⟩
theorem aw.readsAll:∀ {vs:List Value} {ds:List PyData},aw h M vs ds→∃as,ReadsAll h vs ds as
 |_,_,.cnil=>⟨_,.nil⟩
 |_,_,.ccons r rs=>let ⟨_,a⟩:=r.reads;let ⟨_,b⟩:=rs.readsAll;⟨_,.cons a b⟩
theorem aJ.none(h:Heap)(M:List Addr):aJ h M .none .none:=.cnone
theorem aJ.bool(h:Heap)(M:List Addr)(b:Bool):aJ h M (.bool b) (.bool b):=.cbool b
theorem aJ.int(h:Heap)(M:List Addr)(i:Int)(t:Tok):aJ h M (.int i t) (.int i):=.cint i t
theorem aJ.str(h:Heap)(M:List Addr)(x:Str)(t:Tok):aJ h M (.str x t) (.str x):=.cstr x t
theorem aw.nil(h:Heap)(M:List Addr):aw h M [] []:=.cnil
theorem aw.cons(r:aJ h M v d)(rs:aw h M vs ds):aw h M (v::vs) (d::ds):=.ccons r rs
theorem aw.uncons(r:aw h M (v::vs) (d::ds)):aJ h M v d∧aw h M vs ds:=by
 cases r with
 |ccons r1 r2=>exact ⟨r1,r2⟩
theorem aw.length:∀ {vs:List Value} {ds:List PyData},aw h M vs ds→vs.length=ds.length
 |_,_,.cnil=>rfl
 |_,_,.ccons _ r=>by simp [r.length]
theorem aw.append:∀ {vs ws:List Value} {ds es:List PyData},aw h M vs ds→aw h M ws es→aw h M (vs++ws) (ds++es)
 | [],ws,ds,es,r,r'=>by
  have:=r.length
  cases ds with
  |nil=>exact r'
  |cons _ _=>simp at this
 |v::vs,ws,[],es,r,_=>by have:=r.length;simp at this
 |v::vs,ws,d::ds,es,r,r'=>by
  refine fY r.uncons λa b=>?_;exact .cons a (b.append r')
theorem aw.get:∀ {vs:List Value} {ds:List PyData},aw h M vs ds→∀ {i:Nat} {d:PyData},ds[i]? =some d→∃v,vs[i]? =some v∧aJ h M v d
 | [],[],_,i,d,e=>by simp at e
 | [],_::_,r,_,_,_=>by have:=r.length;simp at this
 |_::_,[],r,_,_,_=>by have:=r.length;simp at this
 |v::vs,d::ds,r,i,d',e=>by
  refine fY r.uncons λa b=>?_;cases i with
  |zero=>simp at e;subst e;exact (aZ v (by simp) a)
  |succ i=>simpa using b.get (by simpa using e)
theorem aw.get':∀ {vs:List Value} {ds:List PyData},aw h M vs ds→∀ {i:Nat} {v:Value},vs[i]? =some v→∃d,ds[i]? =some d∧aJ h M v d
 | [],[],_,i,d,e=>by simp at e
 | [],_::_,r,_,_,_=>by have:=r.length;simp at this
 |_::_,[],r,_,_,_=>by have:=r.length;simp at this
 |v::vs,d::ds,r,i,v',e=>by
  refine fY r.uncons λa b=>?_;cases i with
  |zero=>simp at e;subst e;exact (aZ d (by simp) a)
  |succ i=>simpa using b.get' (by simpa using e)
theorem aw.drop:∀ (k:Nat) {vs:List Value} {ds:List PyData},aw h M vs ds→aw h M (vs.drop k) (ds.drop k)
 |0,_,_,r=>r
 |k+1,[],[],r=>by simpa using r
 |_+1,[],_::_,r=>by have:=r.length;simp at this
 |_+1,_::_,[],r=>by have:=r.length;simp at this
 |k+1,_::_,_::_,r=>r.uncons.2.drop k
theorem aw.take:∀ (k:Nat) {vs:List Value} {ds:List PyData},aw h M vs ds→aw h M (vs.take k) (ds.take k)
 |0,_,_,_=>by simpa using aw.nil h M
 |k+1,[],[],r=>by simpa using r
 |_+1,[],_::_,r=>by have:=r.length;simp at this
 |_+1,_::_,[],r=>by have:=r.length;simp at this
 |k+1,_::_,_::_,r=>by simpa using aw.cons r.uncons.1 (r.uncons.2.take k)
theorem aw.set:∀ {vs:List Value} {ds:List PyData} (k:Nat) {v:Value} {d:PyData},aw h M vs ds→aJ h M v d→aw h M (vs.set k v) (ds.set k d)
 | [],[],_,_,_,r,_=>by simpa using r
 | [],_::_,_,_,_,r,_=>by have:=r.length;simp at this
 |_::_,[],_,_,_,r,_=>by have:=r.length;simp at this
 |_::_,_::_,0,_,_,r,r'=>by simpa using aw.cons r' r.uncons.2
 |_::_,_::_,k+1,_,_,r,r'=>by simpa using aw.cons r.uncons.1 (r.uncons.2.set k r')
theorem aw.reverse:∀ {vs:List Value} {ds:List PyData},aw h M vs ds→aw h M vs.reverse ds.reverse
 | [],[],r=>by simpa using r
 | [],_::_,r=>by have:=r.length;simp at this
 |_::_,[],r=>by have:=r.length;simp at this
 |_::_,_::_,r=>by simpa using r.uncons.2.reverse.append (aw.cons r.uncons.1 (aw.nil h M))
theorem aJ.tuple{vs:Array Value}(ho:h.get? a=some o)(hc:o.cls=.type "tuple")(hd:o.data=.seq vs n)(r:aw h M vs.toList ds)(hM:a∉M):aJ h M (.ref a) (.tuple ds):=.ctuple (VL o ho hc n hd) hM r
theorem aJ.list{vs:Array Value}(hp:h.PlainList a vs)(r:aw h M vs.toList ds)(hM:a∉M):aJ h M (.ref a) (.list ds):=.clist hp hM r
theorem aJ.of_list(r:aJ h M v (.list ds)):∃a items,v=.ref a∧h.PlainList a items∧aw h M items.toList ds∧a∉M:=by
 cases r with
 |clist p ha r=>exact (ul _ _ rfl p r ha)
theorem aJ.of_tuple(r:aJ h M v (.tuple ds)):∃a items,v=.ref a∧h.IsTuple a items∧aw h M items.toList ds:=by
 cases r with
 |ctuple p ha r=>exact (dw _ _ rfl p r)
theorem aJ.of_int{i:Int}(r:aJ h M v (.int i)):∃t,v=.int i t:=by
 cases r with
 |cint _ t=>exact ⟨t,rfl⟩
theorem aJ.of_bool{i:Bool}(r:aJ h M v (.bool i)):v=.bool i:=by
 cases r;rfl
theorem aJ.of_none(r:aJ h M v .none):v=.none:=by
 cases r;rfl
theorem aJ.of_str{i:Str}(r:aJ h M v (.str i)):∃t,v=.str i t:=by
 cases r with
 |cstr _ t=>exact ⟨t,rfl⟩
inductive ah where
 |live (xs:List PyData)
 |frozen (xs:List PyData)
 |iter (xs:List PyData)
noncomputable def ah.isMut:ah→Bool
 | .frozen _=>false
 |_=>true
inductive AV where
 |d (x:PyData)
 |c (i:Nat)
 |rng (a b:Int)
 |ty (T:String)
noncomputable def ai:List Addr→List ah→List Addr
 |a::α,c::μ=>if c.isMut then a::ai α μ else ai α μ
 |_,_=>[]
theorem wb:∀ {μ:List ah},ai [] μ=[]
 | []=>rfl
 |_::_=>rfl
theorem pT{c:ah}{μ:List ah}:ai (a::α) (c::μ)=if c.isMut then a::ai α μ else ai α μ:=rfl
theorem db:∀ {α:List Addr} {μ:List ah} {a:Addr},a∈ai α μ→a∈α
 | [],_,_,h=>(DM (wb▸h)).elim
 |_::_,[],_,h=>(DM h).elim
 |b::α,c::μ,a,h=>by
  rw [pT] at h
  split at h
  ·rcases Ch.mp h with rfl|h
   ·exact Fp ..
   ·exact D1 _ (db h)
  ·exact D1 _ (db h)
theorem pI:∀ {α:List Addr} {μ:List ah} {i:Nat} {a:Addr} {c:ah},α[i]? =some a→μ[i]? =some c→c.isMut=true→a∈ai α μ
 | [],_,_,_,_,h,_,_=>by simp at h
 |_::_,[],_,_,_,_,h,_=>by simp at h
 |b::α,c::μ,0,a,c',h1,h2,h3=>by
  simp at h1 h2;subst h1;subst h2
  rw [pT,if_pos h3];exact Fp ..
 |b::α,c::μ,i+1,a,c',h1,h2,h3=>by
  have:=pI (α:=α) (μ:=μ) (i:=i) (by simpa using h1) (by simpa using h2) h3
  rw [pT];split
  ·exact D1 _ this
  ·exact this
theorem qj:∀ {α δ:List Addr} {μ κ:List ah},α.length=μ.length→ai (α++δ) (μ++κ)=ai α μ++ai δ κ
 | [],_,[],_,_=>rfl
 | [],_,_::_,_,h=>by simp at h
 |_::_,_,[],_,h=>by simp at h
 |a::α,δ,c::μ,κ,h=>by
  refine (?_:(if c.isMut then a::ai (α++δ) (μ++κ) else ai (α++δ) (μ++κ))=(if c.isMut then a::ai α μ else ai α μ)++ai δ κ);rw [qj (by simpa using h)]
  split<;>rfl
theorem rf:∀ {α:List Addr} {μ:List ah} {i:Nat} {c:ah} {a:Addr},a∈ai α (μ.set i c)→(∀c₀,μ[i]? =some c₀→c.isMut=true→c₀.isMut=true)→a∈ai α μ
 | [],_,_,_,_,h,_=>(DM (wb▸h)).elim
 |_::_,[],_,_,_,h,_=>h
 |b::α,c::μ,0,c',a,h,q=>by
  simp only [SL] at h
  rw [pT] at h⊢
  split at h
  ·rename_i hc
   rw [if_pos (q c rfl hc)];exact h
  ·split
   ·exact D1 _ h
   ·exact h
 |b::α,c::μ,i+1,c',a,h,q=>by
  simp only [PM] at h
  rw [pT] at h⊢
  split at h
  ·rename_i hc
   rw [if_pos hc]
   rcases Ch.mp h with rfl|h
   ·exact Fp ..
   ·exact D1 _ (rf h λc₀ e=>q c₀ (by simpa using e))
  ·rename_i hc
   rw [if_neg hc];exact rf h λc₀ e=>q c₀ (by simpa using e)
def GH(h:Heap)(a:Addr):Prop:=∃o k,h.get? a=some o∧o.cls=.type "list_iterator"∧o.data=.fields #[.none,k]
noncomputable def dX(h:Heap)(M:List Addr)(a:Addr):ah→Prop
 | .live xs=>∃items,h.PlainList a items∧aw h M items.toList xs
 | .frozen xs=>aJ h M (.ref a) (.list xs)
 | .iter xs=>(∃l k items,h.IsListIter a l k∧h.PlainList l items∧l∉M∧k≤items.size∧aw h M (items.toList.drop k) xs)∨(xs=[]∧GH h a)
noncomputable def bm(h:Heap)(α M:List Addr)(v:Value):AV→Prop
 | .d x=>aJ h M v x
 | .c i=>∃a,α[i]? =some a∧v=.ref a
 | .rng a b=>∃r t u w,v=.ref r∧IsRange h r a b 1 t u w∧r∉M
 | .ty T=>v=.type T
set_option genInjectivity false in
structure gK where
 prog:Program
 w:World
 B:Heap
 os:OsState
 mg:Str→Option Value
 mb:Str→Option Value
 g:B.Ns mainGlobals mg
 b:B.Ns builtinsNs mb
 bt:∀x:Str,x≠"__name__"→mb x=bootBuiltins x
 nolim:B.NoLimit
structure bl (C:gK) (T α:List Addr) (μ:List ah) (s:Shared):Prop where
 keep:∀b o,C.B.get? b=some o→s.heap.get? b=some o
 len:α.length=μ.length
 cells:∀ (i:Nat) a c,α[i]? =some a→μ[i]? =some c→dX s.heap (T++ai α μ) a c
 nodup:α.Nodup
 apart:∀a∈T,a∉α
 tdom:∀a∈T,∃o,s.heap.get? a=some o
 tnew:∀a∈T,C.B.get? a=none
 new:∀a∈α,C.B.get? a=none
 gens:AllBare s.gens
 os:s.os=C.os
structure aU (O α:List Addr) (μ:List ah) (s:Shared) (α':List Addr) (μ':List ah) (s':Shared):Prop where
 pre:∃δ,α'=α++δ∧∀a∈δ,s.heap.get? a=none
 ext:fZ (O++ai α μ) s.heap s'.heap
 mts:∀a∈ai α' μ',a∈ai α μ∨s.heap.get? a=none
 dom:∀a o,s.heap.get? a=some o→∃o',s'.heap.get? a=some o'
 gens:∀ (i:Nat) (x:GenState),s.gens[i]? =some x→s'.gens[i]? =some x
theorem dW(d:∀a o,h.get? a=some o→∃o',h'.get? a=some o')(e:h'.get? a=none):h.get? a=none:=by
 cases q:h.get? a with
 |none=>rfl
 |some o=>refine bP (d a o q) λo' z=>?_;rw [e] at z;exact ct z
theorem aU.refl(O α:List Addr)(μ:List ah)(s:Shared):aU O α μ s α μ s:=
 ⟨(aZ ([]) (by simp) (by simp)),fZ.refl _ _,λzz h=>.inl h,λzz o e=>⟨o,e⟩,λzz zz e=>e⟩
theorem aU.trans{α'':List Addr}{μ μ' μ'':List ah}(x:aU O α μ s α' μ' s')(y:aU O α' μ' s' α'' μ'' s''):aU O α μ s α'' μ'' s'':=by
 refine au x.pre λδ e1 d1=>?_;refine au y.pre λδ' e2 d2=>?_;refine ⟨(aZ (δ++δ') (by rw [e2,e1,E9]) (λa ha=>?_)),λb o e ht=>y.ext b o (x.ext b o e ht) λhb=>?_,λa ha=>?_,λa o e=>?_,λi z e=>y.gens i z (x.gens i z e)⟩
 ·rcases AA.mp ha with h|h
  ·exact d1 a h
  ·exact dW x.dom (d2 a h)
 ·rcases AA.mp hb with h|h
  ·exact ht (yo _ h)
  ·rcases x.mts b h with q|q
   ·exact ht (CE _ q)
   ·rw [e] at q;exact ct (ES q)
 ·rcases y.mts a ha with q|q
  ·exact x.mts a q
  ·exact .inr (dW x.dom q)
 ·refine bP (x.dom a o e) λo' e'=>?_
  exact y.dom a o' e'
theorem aU.weak{O':List Addr}{μ μ':List ah}(x:aU O α μ s α' μ' s')(h:∀a∈O,a∈O'∨s.heap.get? a=none):aU O' α μ s α' μ' s':=
 ⟨x.pre,x.ext.mono λa ha=>by
  rcases AA.mp ha with q|q
  ·rcases h a q with z|z
   ·exact .inl (yo _ z)
   ·exact .inr z
  ·exact .inl (CE _ q),x.mts,x.dom,x.gens⟩
theorem aU.up{μ μ':List ah}(x:aU [] α μ s α' μ' s'):aU O α μ s α' μ' s':=x.weak (by simp)
def bX(h:Heap)(a:Addr):Prop:=∃o,h.get? a=some o∧((∃es n,o.data=.dict es n)∨(∃v,o.data=.cell v))
theorem bX.notSeq(x:bX h a):¬SeqAt h a:=by
 intro zi0;refine ft zi0 λo vs n e d=>?_;refine au x λo' e' q=>?_;rw [e] at e';cases e'
 rcases q with ⟨es,n',q⟩| ⟨v,q⟩<;>rw [d] at q<;>cases q
theorem bX.notRange{r:Addr}(x:bX h r){t w:Tok}{p q z:Int}(hr:IsRange h r p q z t u w):False:=by
 refine au x λo' e' k=>?_;rw [hr] at e';cases e'
 rcases k with ⟨es,n',q⟩| ⟨v,q⟩<;>cases q
def iF(O T:List Addr)(h:Heap):Prop:=∀a∈O,h.get? a=none∨bX h a∨a∈T
theorem iF.nil(T:List Addr)(h:Heap):iF [] T h:= λa ha=>by cases ha
theorem iF.seq(k:iF W M h):∀a∈W,SeqAt h a→a∈M:= λa ha q=>(k a ha).elim (λz=>absurd z (fM q)) λz=>z.elim (λz=>absurd q z.notSeq) λz=>z
theorem iF.app{N:List Addr}(k:iF O T h):iF (O++N) (T++N) h:= λa ha=>(AA.mp ha).elim (λz=>(k a z).imp id (Or.imp id (yo _))) λz=>.inr (.inr (CE _ z))
theorem aU.hm{μ μ':List ah}(x:aU O α μ s α' μ' s')(hT:∀a∈T',a∈T∨s.heap.get? a=none):∀a∈T'++ai α' μ',a∈T++ai α μ∨s.heap.get? a=none:= λa ha=>
 (AA.mp ha).elim (λh=>(hT a h).imp_left (yo _)) λh=>(x.mts a h).imp_left (CE _)
section
theorem aJ.ext(r:aJ h M v d)(x:fZ W h h')(k:iF W M h)(hm:∀a∈M',a∈M∨h.get? a=.none):aJ h' M' v d:=r.step x k.seq hm
theorem aw.ext{v:List Value}{d:List PyData}(r:aw h M v d)(x:fZ W h h')(k:iF W M h)(hm:∀a∈M',a∈M∨h.get? a=none):aw h' M' v d:=aw.step x k.seq hm r
theorem bm.ext{V:AV}(r:bm h α M v V)(x:fZ W h h')(k:iF W M h)(hα:∀ (i:Nat) a,α[i]? =some a→α'[i]? =some a)(hm:∀a∈M',a∈M∨h.get? a=none):bm h' α' M' v V:=by
 cases V with
 |d y=>exact aJ.ext (d:=y) r x k hm
 |c i=>exact au r λa e z=>aZ a (hα i a e) z
 |ty T=>exact r
 |rng p q=>
  refine pE r λr t u w z hr hM=>?_;have dm:h.get? r≠none:= λz=>ct (z.symm.trans hr);exact pR r t u w z (x _ _ hr λhb=>(k r hb).elim dm λz=>z.elim (λz=>z.notRange hr) hM) (λq=>(hm r q).elim hM dm)
theorem dX.ext{c:ah}(y:dX h M a c)(x:fZ W h h')(k:iF W M h)(hm:∀a∈M',a∈M∨h.get? a=none)(ha:c.isMut=true→a∈W→False):dX h' M' a c:=by
 cases c with
 |live xs=>exact au y λitems p r=>aZ items (eO p x (ha rfl)) (r.ext x k hm)
 |frozen xs=>exact aJ.ext y x k hm
 |iter xs=>
  refine y.imp (λz=>i4 z λl k' items z p2 hl hk r=>?_) λz=>Mn z λz1 o k' e q d=>NX z1 o k' (x _ _ e (ha rfl)) q d;refine h_ l k' items (au z λo e q=>aZ o (x _ _ e (ha rfl)) q) (eO p2 x λq=>hl (k.seq _ q (fH p2))) (λq=>(hm l q).elim hl (fM (fH p2))) hk (r.ext x k hm)
end
theorem dX.dom{c:ah}(x:dX h M a c)(q:h.get? a=none):False:=by
 cases c with
 |live xs=>exact au x λitems p r=>fM (fH p) q
 |frozen xs=>exact bq (aJ.of_list x) λl items e p zz=>by cases e;exact fM (fH p) q
 |iter xs=>exact x.elim (λz=>i4 z λl k items z zz zz zz zz=>au z λo e zz=>ct (q.symm.trans e)) λz=>TZ z λzz o k e zz=>ct (q.symm.trans e)
theorem aU.at{μ μ':List ah}(x:aU O α μ s α' μ' s')(i:Nat)(a:Addr)(e:α[i]? =some a):α'[i]? =some a:=
 au x.pre λδ e1 zz=>by rw [e1,EY (BJ.mp e).1];exact e
theorem bm.stepO{μ μ':List ah}{V:AV}(r:bm s.heap α (T++ai α μ) v V)(x:aU O α μ s α' μ' s')(hO:iF O T s.heap)(hT:∀a∈T',a∈T∨s.heap.get? a=none):
 bm s'.heap α' (T'++ai α' μ') v V:=r.ext x.ext hO.app x.at (x.hm hT)
theorem bm.step0{μ μ':List ah}{V:AV}(r:bm s.heap α (T++ai α μ) v V)(x:aU [] α μ s α' μ' s'):bm s'.heap α' (T++ai α' μ') v V:=r.stepO x (iF.nil _ _) λa ha=>.inl ha
theorem aJ.step0{μ μ':List ah}(r:aJ s.heap (T++ai α μ) v d)(x:aU [] α μ s α' μ' s'):aJ s'.heap (T++ai α' μ') v d:=bm.step0 (V:=.d d) r x
theorem aw.stepO{μ μ':List ah}{v:List Value}{d:List PyData}(r:aw s.heap (T++ai α μ) v d)(x:aU O α μ s α' μ' s')(hO:iF O T s.heap)(hT:∀a∈T',a∈T∨s.heap.get? a=none):aw s'.heap (T'++ai α' μ') v d:=
 r.ext x.ext hO.app (x.hm hT)
theorem aw.step0{μ μ':List ah}{v:List Value}{d:List PyData}(r:aw s.heap (T++ai α μ) v d)(x:aU [] α μ s α' μ' s'):aw s'.heap (T++ai α' μ') v d:=r.stepO x (iF.nil _ _) λa ha=>.inl ha
variable {V V' : AV} {c c' : ah} {C : gK} {Vs : List AV} {Mid : List Addr → List Addr → List Addr → List ah → Nat → Value → Shared → Prop} {μ μ' μ'' μ1 μ2 μ3 μ₀ : List ah} {ha ke td te tx : Option AV}
noncomputable abbrev d0:=List (Option AV)
set_option genInjectivity false in
structure Cx where
 scope:Scope
 names:List (Str×Nat)
structure Qd (cx:Cx) (env:Env) (O:List Addr) (ρ:d0) (h:Heap) (α M:List Addr) (cad:Nat→Addr):Prop where
 look:∀ (i:Nat) x k,cx.names[i]? =some (x,k)→2≤k→env.cells.lookup x=some (cad i)
 has:∀ (i:Nat) x k,cx.names[i]? =some (x,k)→2≤k→∃o,h.IsCell (cad i) o∧∀V,ρ[i]? =some (some V)→∃v,o=some v∧bm h α M v V
 own:∀ (i:Nat) x,cx.names[i]? =some (x,2)→cad i∈O
 inj:∀ (i j:Nat) x y k l,cx.names[i]? =some (x,k)→cx.names[j]? =some (y,l)→2≤k→2≤l→cad i=cad j→i=j
def E3(cx:Cx)(env:Env)(a:Addr):Prop:=a=env.locals∨∃ (i:Nat) (x:Str) (k:Nat),cx.names[i]? =some (x,k)∧2≤k∧env.cells.lookup x=some a
structure bh (C:gK) (cx:Cx) (env:Env) (O:List Addr) (ρ:d0) (h:Heap) (α M:List Addr):Prop where
 sc:env.scope=cx.scope
 gl:env.globals=mainGlobals
 bn:env.builtins=builtinsNs
 len:ρ.length=cx.names.length
 loc:∃m,h.Ns env.locals m∧∀ (i:Nat) x V,cx.names[i]? =some (x,1)→ρ[i]? =some (some V)→∃v,m x=some v∧bm h α M v V
 cel:∃cad,Qd cx env O ρ h α M cad
 own:∀a∈O,bX h a∧C.B.get? a=none
 lo:env.locals∈O
 off:∀a∈M,¬ (E3 cx env a∨a∈O)
 nd:∀ (i j:Nat) x,cx.names[i]? =some (x,1)→cx.names[j]? =some (x,1)→i=j
theorem qm{c:Addr}{o:Option Value}(hc:h.IsCell c o)(x:fZ W h h')(hn:c∉W):h'.IsCell c o:=by
 refine au hc λob e d=>?_;exact (aZ ob (x _ _ e λq=>absurd q hn) d)
theorem zd{c:Addr}{m:Str→Option Value}(hc:h.Ns c m)(x:fZ W h h')(hn:c∉W):h'.Ns c m:=by
 refine ft hc λob es ep e d=>?_;exact (lC ob es ep (x _ _ e λq=>absurd q hn) d)
theorem dX.notFrame(x:dX h M a c):¬bX h a:=by
 intro zi0;refine au zi0 λo e q=>?_;cases c with
 |live xs=>
  refine au x λitems zp1 zz=>?_;refine bP zp1 λn e'=>?_;rw [e'] at e;cases e
  rcases q with ⟨es,n',q⟩| ⟨v,q⟩<;>cases q
 |frozen xs=>
  refine bq (aJ.of_list x) λl items e1 zp3 zz=>?_;refine bP zp3 λn e'=>?_;cases e1;rw [e'] at e;cases e
  rcases q with ⟨es,n',q⟩| ⟨v,q⟩<;>cases q
 |iter xs=>
  rcases x with ⟨l,k,items,⟨o',e',_,ed⟩,_⟩| ⟨_,o',k,e',_,ed⟩
  all_goals
   rw [e'] at e;cases e
   rcases q with ⟨es,n',q⟩| ⟨v,q⟩<;>rw [ed] at q<;>cases q
theorem iC{α:Type}{l:List α}{a:α}(h:a∈l):∃i:Nat,l[i]? =some a:=by
 obtain ⟨i,hi,e⟩:=List.mem_iff_getElem.mp h;exact ⟨i,by rw [Fe hi,e]⟩
theorem bl.at(I:bl C T α μ s)(ha:a∈α):∃c,dX s.heap (T++ai α μ) a c:=
 bP (iC ha) λi e=>⟨_,I.cells i a _ e (Fe (I.len▸(BJ.mp e).1))⟩
theorem bl.cdom(I:bl C T α μ s)(ha:a∈α)(q:s.heap.get? a=none):False:=bP (I.at ha) λzz z=>z.dom q
theorem bl.notFrame(I:bl C T α μ s)(ha:a∈α):¬bX s.heap a:=bP (I.at ha) λzz z=>z.notFrame
theorem gV{c:Addr}{o:Option Value}(x:h.IsCell c o):bX h c:=let ⟨ob,e,d⟩:=x;⟨ob,e,.inr ⟨o,d⟩⟩
theorem fO{c:Addr}{m:Str→Option Value}(x:h.Ns c m):bX h c:=let ⟨ob,es,ep,e,d,_⟩:=x;⟨ob,e,.inl (jH es ep d)⟩
theorem bX.ext(x:bX h a)(e:fZ W h h')(hn:a∉W):bX h' a:=let ⟨o,ho,q⟩:=x;⟨o,e _ _ ho λz=>absurd z hn,q⟩
theorem bh.inFr{cx:Cx}{ρ:d0}(F:bh C cx env O ρ h α M)(ha:E3 cx env a):bX h a:=by
 rcases ha with rfl| ⟨i,x,k,e,hk,hl⟩
 ·exact (F.own _ F.lo).1
 ·refine bP F.cel λcad hc=>?_
  have:=hc.look i x k e hk
  rw [hl] at this;refine cA (ES this) ?_
  refine au (hc.has i x k e hk) λo ho zz=>?_;exact gV ho
theorem bh.frA{cx:Cx}{ρ:d0}(F:bh C cx env O ρ h α M)(ha:E3 cx env a∨a∈O):bX h a:=ha.elim F.inFr λq=>(F.own a q).1
theorem bX.dom(x:bX h a):h.get? a≠none:=by
 refine au x λo e zz=>?_;rw [e];simp
theorem bh.ext{cx:Cx}{ρ:d0}(F:bh C cx env O ρ h α M)(x:fZ W h h')(k:iF W M h)(hα:∀ (i:Nat) a,α[i]? =some a→α'[i]? =some a)(hm:∀a∈M',a∈M∨h.get? a=none)(nf:∀a,E3 cx env a∨a∈O→a∈W→False):bh C cx env O ρ h' α' M':=by
 refine ⟨F.sc,F.gl,F.bn,F.len,au F.loc λm hq hl=>aZ m (zd hq x (nf _ (.inl (.inl rfl)))) λi y V h1 h2=>au (hl i y V h1 h2) λv e r=>aZ v e (r.ext x k hα hm),bP F.cel λcad hc=>⟨cad,hc.look,λi y j h1 h2=>?_,hc.own,hc.inj⟩,λa ha=>⟨(F.own a ha).1.ext x (nf _ (.inr ha)),(F.own a ha).2⟩,F.lo,λa ha q=>(hm a ha).elim (λz=>F.off a z q) (F.frA q).dom,F.nd⟩;refine au (hc.has i y j h1 h2) λo ho hv=>aZ o (qm ho x (nf _ (.inl (.inr (pe i y j h1 h2 (hc.look i y j h1 h2)))))) λV h3=>au (hv V h3) λv e r=>aZ v e (r.ext x k hα hm)
theorem bh.step{cx:Cx}{ρ:d0}(F:bh C cx env O ρ s.heap α (T++ai α μ))(I:bl C T α μ s)(x:aU [] α μ s α' μ' s'):
  bh C cx env O ρ s'.heap α' (T++ai α' μ'):=
 F.ext x.ext (iF.nil T _).app x.at (x.hm λzz h=>.inl h) λzz q h=>I.notFrame (db h) (F.frA q)
structure cP (A:Around) (n:Nat):Prop where
 depth:A.depth+4*n<600
 units:A.units+200*n+400<cLine
 handled:A.handled=none
theorem cP.mono{m:Nat}(r:cP A n)(h:m≤n):cP A m:=⟨by have:=r.depth;lia,by have:=r.units;have:200*m≤200*n:=Nat.mul_le_mul_left _ h;lia,r.handled⟩
noncomputable def bI(C:gK)(T α:List Addr)(μ:List ah)(s:Shared)(μ':List ah)(V:AV):Value→Shared→Prop:= λv s'=>
 ∃α',bl C T α' μ' s'∧aU [] α μ s α' μ' s'∧bm s'.heap α' (T++ai α' μ') v V
noncomputable abbrev EF:=d0→List ah→Option (AV×List ah)
structure ab (C:gK) (n:Nat) (cx:Cx) (e:Expr) (f:EF):Prop where
 of::
 run:∀A env O T ρ α μ s E V μ',cP A n→bl C T α μ s→bh C cx env O ρ s.heap α (T++ai α μ)→f ρ μ=some (V,μ')→
  wpAny (model C.prog C.w) A (eval e env) (bI C T α μ s μ' V) E s
section
theorem dX.stepO(x:dX s.heap (T++ai α μ) a c)(y:aU O α μ s α' μ' s')(hO:iF O T s.heap)(hT:∀a∈T',a∈T∨s.heap.get? a=none)(ha:c.isMut=true→a∈O++ai α μ→False):dX s'.heap (T'++ai α' μ') a c:=x.ext y.ext hO.app (y.hm hT) ha
theorem bl.ext(I:bl C T α μ s)(x:fZ W s.heap h')(hB:∀a∈W,C.B.get? a=none)(k:iF W T s.heap)(hα:∀a∈α,a∈W→False)(hT:∀a∈T',a∈T)(hd:∀a∈T',∃o,h'.get? a=some o)(hs:s'.heap=h')(hg:AllBare s'.gens)(ho:s'.os=s.os):bl C T' α μ s':=by
 subst hs;have k':iF W (T++ai α μ) s.heap:= λa ha=>(k a ha).imp id (Or.imp id (yo _));exact ⟨λb o e=>x b o (I.keep b o e) λq=>ct ((hB b q).symm.trans e),I.len,λi a c h1 h2=>(I.cells i a c h1 h2).ext x k' (λa ha=>.inl ((AA.mp ha).elim (λq=>yo _ (hT a q)) (CE _))) λzz=>hα a (FV h1),I.nodup,λa ha=>I.apart a (hT a ha),hd,λa ha=>I.tnew a (hT a ha),I.new,hg,ho.trans I.os⟩
theorem bl.keeps(I:bl C T α μ s)(hk:∀b o,s.heap.get? b=some o→h'.get? b=some o):bl C T α μ {s with heap:=h',toks:=tk}:=
 I.ext (W:=[]) (fZ.of_keeps hk) (λzz h=>nomatch h) (iF.nil _ _) (λzz zz h=>nomatch h) (λzz h=>h) (λa ha=>(I.tdom a ha).imp λo e=>hk a o e) rfl I.gens rfl
theorem aU.keeps(hk:∀b o,s.heap.get? b=some o→h'.get? b=some o):aU [] α μ s α μ {s with heap:=h',toks:=tk}:=
 ⟨(aZ ([]) (by simp) (by simp)),fZ.of_keeps hk,λzz h=>.inl h,λa o e=>⟨o,hk a o e⟩,λzz zz e=>e⟩
theorem bI.of_keeps(I:bl C T α μ s)(hk:∀b o,s.heap.get? b=some o→h'.get? b=some o)(hv:bm h' α (T++ai α μ) v V):bI C T α μ s μ V v {s with heap:=h',toks:=tk}:=
 (cJ α (I.keeps hk) (aU.keeps hk) hv)
theorem bI.tok(I:bl C T α μ s)(hv:bm s.heap α (T++ai α μ) v V):bI C T α μ s μ V v {s with toks:=tk}:=bI.of_keeps (h':=s.heap) I (λzz zz e=>e) hv
theorem bI.same(I:bl C T α μ s)(hv:bm s.heap α (T++ai α μ) v V):bI C T α μ s μ V v s:=(cJ α I (aU.refl _ _ _ _) hv)
theorem bI.trans(x:aU [] α μ s α' μ' s')(p:bI C T α' μ' s' μ'' V v s''):bI C T α μ s μ'' V v s'':=by
 refine cn p λα'' I y r=>?_;exact (cJ α'' I (x.trans y) r)
end
section
variable {cx:Cx}
theorem ab.go{f:EF}{ρ:d0}(hf:ab C n cx e f)(R:cP A n)(I:bl C T α μ s)(F:bh C cx env O ρ s.heap α (T++ai α μ))(q:f ρ μ=some (V,μ'))
  (k:∀v s' α',bl C T α' μ' s'→aU [] α μ s α' μ' s'→bm s'.heap α' (T++ai α' μ') v V→Q v s'):wpAny (model C.prog C.w) A (eval e env) Q E s:=
 D2 (hf.run A env O T ρ α μ s E V μ' R I F q) (λv s' p=>cn p λα' I' S' r=>k v s' α' I' S' r) λzz zz x=>x
theorem ab.goF{f:EF}{ρ:d0}(hf:ab C n cx e f)(R:cP A n)(I:bl C T α μ s)(F:bh C cx env O ρ s.heap α (T++ai α μ))(q:f ρ μ=some (V,μ'))
  (k:∀v s' α',bl C T α' μ' s'→aU [] α μ s α' μ' s'→bh C cx env O ρ s'.heap α' (T++ai α' μ')→bm s'.heap α' (T++ai α' μ') v V→Q v s'):wpAny (model C.prog C.w) A (eval e env) Q E s:=
 hf.go R I F q λv s' α' I' S' r=>k v s' α' I' S' (F.step I S') r
theorem W8{i:Int}:ab C n cx (.Constant (.int i) k pos) (λzz μ=>some (.d (.int i),μ)):=by
 refine .of ?_;intro A env O T ρ α μ s E V μ' _ I _ h;refine cg h ?_;exact λzz zz zz=>bI.tok I (aJ.int ..)
theorem Gr:ab C n cx (.Constant (.str x) k pos) (λzz μ=>some (.d (.str x),μ)):=by
 refine .of ?_;intro A env O T ρ α μ s E V μ' _ I _ h;refine cg h ?_;exact λzz zz zz=>bI.tok I (aJ.str ..)
theorem L_{b:Bool}:ab C n cx (.Constant (.bool b) k pos) (λzz μ=>some (.d (.bool b),μ)):=by
 refine .of ?_;intro A env O T ρ α μ s E V μ' _ I _ h;refine cg h ?_;exact Et (bI.same I (aJ.bool ..))
theorem N8:ab C n cx (.Constant .none k pos) (λzz μ=>some (.d .none,μ)):=by
 refine .of ?_;intro A env O T ρ α μ s E V μ' _ I _ h;refine cg h ?_;exact Et (bI.same I (aJ.none ..))
def a9(i:Nat):EF:= λρ μ=>(ρ[i]?.bind id).bind λV=>some (V,μ)
theorem y4{ρ:d0}(h:a9 i ρ μ=some (V,μ'))(k:ρ[i]? =some (some V)→μ=μ'→G):G:=by
 unfold a9 at h
 cases q:ρ[i]? with
 |none=>rw [q] at h;exact ct h
 |some o=>
  cases o with
  |none=>rw [q] at h;exact ct h
  |some W=>rw [q] at h;cases h;exact k q rfl
theorem qV(i:Nat)(hn:cx.names[i]? =some (x,1))(hl:cx.scope.names.lookup x=some .local)(hk:cx.scope.kind=.function)(hd:(x==("__debug__":Str))=false):ab C n cx (.Name x pos) (a9 i):=by
 refine .of ?_;intro A env O T ρ α μ s E V μ' _ I F h;refine au F.loc λm hm hq=>?_;refine y4 h λe z=>?_;subst z;refine au (hq i x V hn e) λv e1 r=>?_;exact UI (Pk (by rw [F.sc];exact hk) (by unfold J3;rw [F.sc];exact hl) hm e1 (bI.same I r)) hd
theorem bF(i:Nat)(k:Nat)(hn:cx.names[i]? =some (x,k))(h2:2≤k)(hl:cx.scope.names.lookup x=some .cell)(hk:cx.scope.kind=.function)(hd:(x==("__debug__":Str))=false):ab C n cx (.Name x pos) (a9 i):=by
 refine .of ?_;intro A env O T ρ α μ s E V μ' _ I F h;refine bP F.cel λcad hc=>?_;refine y4 h λe z=>?_;subst z;refine au (hc.has i x k hn h2) λo ho hv=>?_;refine au (hv _ e) λv zq1 r=>?_;subst zq1;exact UI (wpAny_loadName_cell (by rw [F.sc];exact hk) (by unfold J3;rw [F.sc];exact hl) (hc.look i x k hn h2) ho (bI.same I r)) hd
theorem Mk{i:Int}{t:Tok}(hg:C.mg x=some (.int i t))(hl:cx.scope.names.lookup x=some .globalImplicit)(hk:cx.scope.kind=.function)(hd:(x==("__debug__":Str))=false):ab C n cx (.Name x pos) (λzz μ=>some (.d (.int i),μ)):=by
 refine .of ?_;intro A env O T ρ α μ s E V μ' _ I F h;refine cg h ?_;exact E_ (by rw [F.sc];exact hk) (by unfold J3;rw [F.sc];exact hl) (L5 (by rw [F.gl];exact C.g.keeps I.keep) hg (bI.same I (aJ.int ..))) hd
end
variable {cx : Cx} {f fi fo g : EF} {fs : List EF} {ρ ρ' ρ1 ρ2 : d0} {tf : d0 → PyData → Option d0}
noncomputable def bp{X:Type u0}{Y:Type u1}{Z:Type u2}(o:Option (X×Y))(k:X→Y→Option Z):Option Z:=o.rec none λp=>k p.1 p.2
noncomputable def bo{X:Type u0}{Z:Type u2}(o:Option X)(k:X→Option Z):Option Z:=o.rec none k
noncomputable def oe{X:Type u0}{Y:Type u1}{Z:Type u2}(o:Option X)(p:Option Y)(k:X→Y→Z)(e:Z):Z:=o.rec e λa=>p.rec e λb=>k a b
theorem aD{X:Type u0}{Y:Type u1}{Z:Type u2}{o:Option (X×Y)}{k:X→Y→Option Z}{r:Z}(h:bp o k=some r)(q:∀a b,o=some (a,b)→k a b=some r→G):G:=by
 cases o with
 |none=>exact ct h
 |some p=>exact q p.1 p.2 rfl h
theorem ax{X:Type u0}{Z:Type u2}{o:Option X}{k:X→Option Z}{r:Z}(h:bo o k=some r)(q:∀a,o=some a→k a=some r→G):G:=by
 cases o with
 |none=>exact ct h
 |some p=>exact q p rfl h
theorem bU{X:Type u0}{Y:Type u1}{Z:Type u2}{o:Option X}{p:Option Y}{k:X→Y→Option Z}{e:Option Z}{r:Z}(h:oe o p k e=some r)(q:∀a b,o=some a→p=some b→k a b=some r→G)(q':e=some r→G):G:=by
 cases o with
 |none=>exact q' h
 |some a=>
  cases p with
  |none=>exact q' h
  |some b=>exact q a b rfl rfl h
theorem i6{c:Prop}{i:Decidable c}{Z:Type u0}{x:Option Z}{r:Z}{G:Prop}(h:(if c then x else none)=some r)(q:c→x=some r→G):G:=by
 by_cases hc:c
 ·rw [if_pos hc] at h;exact q hc h
 ·rw [if_neg hc] at h;exact ct h
theorem ifB{c:Prop}{i:Decidable c}{Z:Type u0}{x y:Option Z}{r:Z}(h:(if c then x else y)=some r)(q:c→x=some r→G)(q':¬c→y=some r→G):G:=by
 by_cases hc:c
 ·rw [if_pos hc] at h;exact q hc h
 ·rw [if_neg hc] at h;exact q' hc h
theorem bpS{X:Type u0}{Y:Type u1}{Z:Type u2}{a:X}{b:Y}{k:X→Y→Option Z}:bp (some (a,b)) k=k a b:=rfl
theorem bpN{X:Type u0}{Y:Type u1}{Z:Type u2}{k:X→Y→Option Z}:bp none k=none:=rfl
theorem boS{X:Type u0}{Z:Type u2}{a:X}{k:X→Option Z}:bo (some a) k=k a:=rfl
theorem boN{X:Type u0}{Z:Type u2}{k:X→Option Z}:bo none k=none:=rfl
noncomputable def dI:PyData→Option Int
 | .int x=>some x
 |_=>none
noncomputable def dS:PyData→Option Str
 | .str x=>some x
 |_=>none
noncomputable def dB:PyData→Option Bool
 | .bool x=>some x
 |_=>none
noncomputable def dN:PyData→Option Unit
 | .none=>some ()
 |_=>none
noncomputable def dT:PyData→Option (List PyData)
 | .tuple x=>some x
 |_=>none
noncomputable def dL:PyData→Option (List PyData)
 | .list x=>some x
 |_=>none
noncomputable def v7:AV→Option PyData
 | .d x=>some x
 |_=>none
noncomputable def Ff:AV→Option Nat
 | .c x=>some x
 |_=>none
noncomputable def T5:AV→Option String
 | .ty x=>some x
 |_=>none
noncomputable def jJ(V:AV):Option Int:=bo (v7 V) dI
noncomputable def mz(V:AV):Option Str:=bo (v7 V) dS
noncomputable def Pg(V:AV):Option Bool:=bo (v7 V) dB
noncomputable def Nw(V:AV):Option Unit:=bo (v7 V) dN
noncomputable def Iw(V:AV):Option (List PyData):=bo (v7 V) dT
noncomputable def Zh(V:AV):Option (List PyData):=bo (v7 V) dL
theorem Ud{x:Int}(h:dI d=some x):d=.int x:=by cases d<;>first|exact ct h| (cases h;rfl)
theorem XZ(h:dS d=some x):d=.str x:=by cases d<;>first|exact ct h| (cases h;rfl)
theorem al8{x:Bool}(h:dB d=some x):d=.bool x:=by cases d<;>first|exact ct h| (cases h;rfl)
theorem am6{x:Unit}(h:dN d=some x):d=.none:=by cases d<;>first|exact ct h|rfl
theorem TL{x:List PyData}(h:dT d=some x):d=.tuple x:=by cases d<;>first|exact ct h| (cases h;rfl)
theorem SM{x:List PyData}(h:dL d=some x):d=.list x:=by cases d<;>first|exact ct h| (cases h;rfl)
theorem iP{x:PyData}(h:v7 V=some x):V=.d x:=by cases V<;>first|exact ct h| (cases h;rfl)
theorem BH{x:Nat}(h:Ff V=some x):V=.c x:=by cases V<;>first|exact ct h| (cases h;rfl)
theorem Sv{x:String}(h:T5 V=some x):V=.ty x:=by cases V<;>first|exact ct h| (cases h;rfl)
section
theorem fK{x:Int}(e:jJ V=some x)(r:bm h α M v V):∃t,v=.int x t:=
 ax e λzz e1 e2=>aJ.of_int (M:=M) (h:=h) (by rw [iP e1,Ud e2] at r;exact r)
theorem iX(e:mz V=some x)(r:bm h α M v V):∃t,v=.str x t:=
 ax e λzz e1 e2=>aJ.of_str (M:=M) (h:=h) (by rw [iP e1,XZ e2] at r;exact r)
theorem xj{x:Bool}(e:Pg V=some x)(r:bm h α M v V):v=.bool x:=
 ax e λzz e1 e2=>aJ.of_bool (M:=M) (h:=h) (by rw [iP e1,al8 e2] at r;exact r)
theorem En{x:Unit}(e:Nw V=some x)(r:bm h α M v V):v=.none:=
 ax e λzz e1 e2=>aJ.of_none (M:=M) (h:=h) (by rw [iP e1,am6 e2] at r;exact r)
theorem GB{x:List PyData}(e:Iw V=some x)(r:bm h α M v V):∃a items,v=.ref a∧h.IsTuple a items∧aw h M items.toList x:=
 ax e λzz e1 e2=>aJ.of_tuple (M:=M) (h:=h) (by rw [iP e1,TL e2] at r;exact r)
theorem O4{x:List PyData}(e:Zh V=some x)(r:bm h α M v V):aJ h M v (.list x):=
 ax e λzz e1 e2=>(by rw [iP e1,SM e2] at r;exact r)
theorem Gh{x:Nat}(e:Ff V=some x)(r:bm h α M v V):∃a,α[x]? =some a∧v=.ref a:=(by rw [BH e] at r;exact r)
theorem Zc{x:String}(e:T5 V=some x)(r:bm h α M v V):v=.type x:=(by rw [Sv e] at r;exact r)
end
noncomputable def l1{X:Type u0}:List X→Option X
 | [a]=>some a
 |_=>none
noncomputable def l2{X:Type u0}:List X→Option (X×X)
 | [a,b]=>some (a,b)
 |_=>none
theorem Vg{X:Type u0}{l:List X}{a:X}(h:l1 l=some a):l=[a]:=by
 match l,h with
 | [b],h=>exact congrArg (λx=>[x]) (Fd h)
theorem yy{X:Type u0}{l:List X}{a b:X}(h:l2 l=some (a,b)):l=[a,b]:=by
 match l,h with
 | [c,d],h=>cases h;rfl
noncomputable def PV:ah→Option (List PyData)
 | .live xs=>some xs
 | .frozen xs=>some xs
 | .iter _=>none
noncomputable def da(μ:List ah)(V:AV):Option (List PyData):=oe (Zh V) (some ()) (λxs zz=>some xs) (bo (Ff V) λi=>bo μ[i]? PV)
section
theorem bm.isList(I:bl C T α μ s)(r:bm s.heap α (T++ai α μ) v V)(h:da μ V=some xs):
  ∃a items,v=.ref a∧s.heap.PlainList a items∧aw s.heap (T++ai α μ) items.toList xs:=by
 refine bU h (λxs' zz e zz h=>?_) λh=>ax h λi ei h=>ax h λc ec h=>?_
 ·refine cA (show some xs'=some xs from h) ?_
  exact kA (aJ.of_list (O4 e r)) λa items e hl r zz=>dw a items e hl r
 ·refine au (Gh ei r) λa ha z=>?_
  have q:=I.cells i a c ha ec;cases c with
  |live ys=>refine cA (show some ys=some xs from h) ?_;exact au q λitems hp r=>dw a items z hp r
  |frozen ys=>refine cA (show some ys=some xs from h) ?_;exact kA (aJ.of_list q) λa' items e' hl r zz=>dw a' items (z.trans e') hl r
  |iter ys=>exact ct h
end
def je(C:gK)(n:Nat)(op:Operator)(o:AV→AV→List ah→Option (AV×List ah)):Prop:=∀A T α μ s E a b Va Vb V μ',cP A n→bl C T α μ s→
 bm s.heap α (T++ai α μ) a Va→bm s.heap α (T++ai α μ) b Vb→o Va Vb μ=some (V,μ')→wpAny (model C.prog C.w) A (binaryOp op a b) (bI C T α μ s μ' V) E s
def gN(C:gK)(n:Nat)(op:CmpOp)(o:AV→AV→List ah→Option Bool):Prop:=∀A T α μ s E a b Va Vb r,cP A n→bl C T α μ s→
 bm s.heap α (T++ai α μ) a Va→bm s.heap α (T++ai α μ) b Vb→o Va Vb μ=some r→wpAny (model C.prog C.w) A (compareOp op a b) (λv s'=>v=.bool r∧∃tk,s'= {s with toks:=tk}) E s
structure gO (C:gK) (n:Nat) (cx:Cx) (e:Expr) (f:d0→List ah→Option (Bool×List ah)):Prop where
 of::
 run:∀A env O T ρ α μ s E r μ',cP A n→bl C T α μ s→bh C cx env O ρ s.heap α (T++ai α μ)→f ρ μ=some (r,μ')→
  wpAny (model C.prog C.w) A (isTrue e env (eval e env)) (λb s'=>b=r∧∃α',bl C T α' μ' s'∧aU [] α μ s α' μ' s') E s
section
variable {k:EF}
theorem mS{l r:Expr}{Va Vb:AV}{Q:Value→Value→Shared→Prop}
  (hl:ab C n cx l f) (hr:ab C n cx r g) (R:cP A n) (I:bl C T α μ s) (F:bh C cx env O ρ s.heap α (T++ai α μ)) (e1:f ρ μ=some (Va,μ1)) (e2:g ρ μ1=some (Vb,μ2))
  (h:∀a b s2 α2,bl C T α2 μ2 s2→aU [] α μ s α2 μ2 s2→bm s2.heap α2 (T++ai α2 μ2) a Va→bm s2.heap α2 (T++ai α2 μ2) b Vb→Q a b s2):
  wpAny (model C.prog C.w) A (eval l env) (λa s1=>wpAny (model C.prog C.w) A (eval r env) (λb s2=>Q a b s2) E s1) E s:=by
 refine D2 (hl.run A env O T ρ α μ s E Va μ1 R I F e1) (λa s1 p1=>?_) λzz zz x=>x;refine cn p1 λα1 I1 S1 r1=>?_;refine D2 (hr.run A env O T ρ α1 μ1 s1 E Vb μ2 R I1 (F.step I S1) e2) (λb s2 p2=>?_) λzz zz x=>x;refine cn p2 λα2 I2 S2 r2=>?_;exact h a b s2 α2 I2 (S1.trans S2) (r1.step0 S2) r2
def aj(f g:EF)(o:AV→AV→List ah→Option (AV×List ah)):EF:= λρ μ=>bp (f ρ μ) λa μ1=>bp (g ρ μ1) λb μ2=>o a b μ2
theorem av{l r:Expr}{o:AV→AV→List ah→Option (AV×List ah)}(hl:ab C n cx l f)(hr:ab C n cx r g)(ho:je C n op o):ab C n cx (.BinOp l op r pos) (aj f g o):=by
 refine .of ?_;intro A env O T ρ α μ s E V μ' R I F h;refine aD h λVa μ1 e1 h=>?_;refine aD h λVb μ2 e2 h=>?_;refine wpAny_BinOp (mS hl hr R I F e1 e2 λa b s2 α2 I2 S2 ra rb=>?_);exact D2 (ho A T α2 μ2 s2 E a b Va Vb V μ' R I2 ra rb h) (λv s3 p=>bI.trans S2 p) λzz zz x=>x
def dY(f g:EF)(o:AV→AV→List ah→Option Bool):EF:= λρ μ=>bp (f ρ μ) λa μ1=>bp (g ρ μ1) λb μ2=>bo (o a b μ2) λr=>some (.d (.bool r),μ2)
noncomputable def bC(f g:EF)(o:AV→AV→List ah→Option Bool):d0→List ah→Option (Bool×List ah):= λρ μ=>bp (f ρ μ) λa μ1=>bp (g ρ μ1) λb μ2=>bo (o a b μ2) λr=>some (r,μ2)
theorem fq{l r:Expr}{op:CmpOp}{o:AV→AV→List ah→Option Bool}(hl:ab C n cx l f)(hr:ab C n cx r g)(ho:gN C n op o)(hm:behindInMarks op r=false):ab C n cx (.Compare l [op] [r] pos) (dY f g o):=by
 refine .of ?_;intro A env O T ρ α μ s E V μ' R I F h;refine aD h λVa μ1 e1 h=>?_;refine aD h λVb μ2 e2 h=>?_;refine ax h λb e3 h=>?_;refine cg h ?_;refine wpAny_Compare1 (mS hl hr R I F e1 e2 λa b s2 α2 I2 S2 ra rb=>?_) hm;refine D2 (ho A T α2 _ s2 E a b Va Vb _ R I2 ra rb e3) (λv s3 p=>?_) λzz zz x=>x;refine Aj p λzq0 tk zq2=>?_;refine bH (ES zq0) ?_;refine bH (ES zq2) ?_;exact bI.trans S2 (bI.tok I2 (aJ.bool ..))
theorem cj{l r:Expr}{op:CmpOp}{o:AV→AV→List ah→Option Bool}(hl:ab C n cx l f)(hr:ab C n cx r g)(ho:gN C n op o)(hm:behindInMarks op r=false):gO C n cx (.Compare l [op] [r] pos) (bC f g o):=by
 refine .of ?_;intro A env O T ρ α μ s E b μ' R I F h;refine aD h λVa μ1 e1 h=>?_;refine aD h λVb μ2 e2 h=>?_;refine ax h λb e3 h=>?_;refine cg h ?_;refine Rv (mS hl hr R I F e1 e2 λa b s2 α2 I2 S2 ra rb=>?_) hm;refine D2 (ho A T α2 _ s2 E a b Va Vb _ R I2 ra rb e3) (λv s3 p=>?_) λzz zz x=>x;refine Aj p λzq0 tk zq2=>?_;refine bH (ES zq0) ?_;refine bH (ES zq2) ?_;have z:=S2.trans (aU.keeps (s:=s2) (h':=s2.heap) (tk:=tk) λzz zz e=>e);exact OO (gR rfl α2 (I2.keeps (h':=s2.heap) λzz zz e=>e) z)
noncomputable def ka(V:AV)(μ:List ah):Option Bool:=oe (Pg V) (some ()) (λb zz=>some b) (oe (jJ V) (some ()) (λi zz=>some (i != 0)) (oe (Nw V) (some ()) (λzz zz=>some false) (oe (mz V) (some ()) (λx zz=>if x.length≤sizeLine then some ((x.length:Int) != 0) else none) (bo (da μ V) λxs=>if xs.length<2^24 then some (!xs.isEmpty) else none))))
theorem l_{b:Bool}(I:bl C T α μ s)(r:bm s.heap α (T++ai α μ) v V)(h:ka V μ=some b):
  wpAny (model C.prog C.w) A (truthy v) (λb' s'=>b'=b∧∃tk,s'= {s with toks:=tk}) E s:=by
 refine bU h (λb' zz e zz h=>?_) λh=>bU h (λi zz e zz h=>?_) λh=>bU h (λb' zz e zz h=>?_) λh=>bU h (λx zz e zz h=>?_) λh=>?_
 ·refine cA h ?_
  rw [xj e r];exact OO (ji rfl _ rfl)
 ·refine cA h ?_
  refine bP (fK e r) λt zq1=>?_;refine bH (ES zq1) ?_;exact PyProof.Rows.truthy_int (ji rfl s.toks rfl)
 ·refine cA h ?_
  rw [En e r];exact truthy_none (ji rfl s.toks rfl)
 ·refine i6 h λhz h=>?_
  refine cA h ?_;refine bP (iX e r) λt zq1=>?_;refine bH (ES zq1) ?_;exact PySem.P.truthy_str (by unfold sizeLine at hz;lia) (ji rfl _ rfl)
 ·refine ax h λxs e h=>?_
  refine i6 h λhlen h=>?_;refine cA h ?_;refine bq (r.isList I e) λa items zq2 hl rr=>?_;refine bH (ES zq2) ?_;have hs:items.size=xs.length:=by rw [←rr.length];simp
  refine wpAny_truthy_list hl.isList (by lia) (ji ?_ _ rfl);have e1:items.isEmpty=xs.isEmpty:=by
   rw [Array.isEmpty,hs];cases xs<;>simp
  rw [e1]
noncomputable def gu(f:EF):d0→List ah→Option (Bool×List ah):= λρ μ=>bp (f ρ μ) λV μ1=>bo (ka V μ1) λb=>some (b,μ1)
theorem iD(he:∀env whole,isTrue e env whole=(do let v←whole;standAt e.pos;holding [v] (truthy v)))(hf:ab C n cx e f):gO C n cx e (gu f):=by
 refine .of ?_;intro A env O T ρ α μ s E b μ' R I F h;refine aD h λV μ1 e1 h=>?_;refine ax h λb' e2 h=>?_;refine cg h ?_;refine isTrue_plain (D2 (hf.run A env O T ρ α μ s E V _ R I F e1) (λv s1 p=>?_) λzz zz x=>x) (he _ _);refine cn p λα1 I1 S1 r1=>?_;refine D2 (l_ I1 r1 e2) (λc s2 q=>?_) λzz zz x=>x;refine Aj q λzq0 tk zq2=>?_;refine bH zq0 ?_;refine bH (ES zq2) ?_;exact (gR rfl α1 (I1.keeps (h':=s1.heap) λzz zz e=>e) (S1.trans (aU.keeps (s:=s1) (h':=s1.heap) (tk:=tk) λzz zz e=>e)))
noncomputable abbrev TF:=d0→List ah→Option (Bool×List ah)
def tV(f:TF):TF:= λρ μ=>bp (f ρ μ) λb μ1=>some (!b,μ1)
theorem HG{x:Expr}{t:TF}(h:gO C n cx x t):gO C n cx (.UnaryOp .Not x pos) (tV t):=by
 refine .of ?_;intro A env O T ρ α μ s E b μ' R I F q;refine aD q λb1 μ1 e1 q=>?_;refine cg q ?_;refine wpAny_isTrue_Not (D2 (h.run A env O T ρ α μ s E b1 _ R I F e1) (λc s1 p=>?_) λzz zz x=>x);obtain ⟨rfl,p⟩:=p;exact ⟨rfl,p⟩
def FO(f g:TF):TF:= λρ μ=>bp (f ρ μ) λb μ1=>cond b (g ρ μ1) (some (false,μ1))
theorem Tt{x y:Expr}{t u:TF}(h:gO C n cx x t)(h':gO C n cx y u):gO C n cx (.BoolOp .And [x,y] pos) (FO t u):=by
 refine .of ?_;intro A env O T ρ α μ s E b μ' R I F q;refine aD q λb1 μ1 e1 q=>?_;cases b1 with
 |true=>
  refine UJ (D2 (h.run A env O T ρ α μ s E true μ1 R I F e1) (λc s1 p=>?_) λzz zz x=>x);refine iB p λzq0 α1 I1 S1=>?_;refine bH (ES zq0) ?_;rw [if_pos rfl];refine UJ (D2 (h'.run A env O T ρ α1 μ1 s1 E b μ' R I1 (F.step I S1) q) (λc s2 p=>?_) λzz zz x=>x);refine iB p λzq0 α2 I2 S2=>?_;refine bH zq0 ?_;cases c
  ·exact (gR rfl α2 I2 (S1.trans S2))
  ·exact isTrue_and_nil (gR rfl α2 I2 (S1.trans S2))
 |false=>
  refine cg q ?_;refine UJ (D2 (h.run A env O T ρ α μ s E false _ R I F e1) (λc s1 p=>?_) λzz zz x=>x);refine iB p λzq0 α1 I1 S1=>?_;refine bH (ES zq0) ?_;exact (gR rfl α1 I1 S1)
def dx(t:TF)(f g:EF):EF:= λρ μ=>bp (t ρ μ) λb μ1=>cond b (f ρ μ1) (g ρ μ1)
theorem fV{x y z:Expr}{t:TF}(h:gO C n cx x t)(hf:ab C n cx y f)(hg:ab C n cx z g):ab C n cx (.IfExp x y z pos) (dx t f g):=by
 refine .of ?_;intro A env O T ρ α μ s E V μ' R I F q;refine aD q λb1 μ1 e1 q=>?_;refine wpAny_IfExp (D2 (h.run A env O T ρ α μ s E b1 μ1 R I F e1) (λc s1 p=>?_) λzz zz x=>x);refine iB p λzq0 α1 I1 S1=>?_;refine bH (ES zq0) ?_;cases b1 with
 |true=>
  rw [if_pos rfl];exact D2 (hf.run A env O T ρ α1 μ1 s1 E V μ' R I1 (F.step I S1) q) (λv s2 p=>bI.trans S1 p) λzz zz x=>x
 |false=>
  rw [if_neg HA];exact D2 (hg.run A env O T ρ α1 μ1 s1 E V μ' R I1 (F.step I S1) q) (λv s2 p=>bI.trans S1 p) λzz zz x=>x
def rW(f g:EF):EF:= λρ μ=>bp (f ρ μ) λV μ1=>bo (ka V μ1) λb=>cond b (g ρ μ1) (some (V,μ1))
def Za(f g:EF):EF:= λρ μ=>bp (f ρ μ) λV μ1=>bo (ka V μ1) λb=>cond b (some (V,μ1)) (g ρ μ1)
end
end Mine
namespace Mine
open PySem PySem.W PySem.Calls PyProof.Rows PySem.SeqAt
variable {V V' : AV} {Cn D L TI TO a fa i1 i2 i3 z : Addr} {A : Around} {items zs : Array Value} {sh tup : Bool} {c c' : ah} {C : gK} {cx : Cx} {f fi fo g : EF} {cenv env : Env} {mean : ExcName → Option Value} {e e1 e2 elt iter target test : Expr} {h h' : Heap} {y : Int} {Vs : List AV} {M M' O T T' W wr α α' α1 α₀ : List Addr} {Mid : List Addr → List Addr → List Addr → List ah → Nat → Value → Shared → Prop} {μ μ' μ'' μ1 μ2 μ3 μ₀ : List ah} {fs : List EF} {es : List Expr} {K cs ns os rest : List Int} {gi ls m ps : List Nat} {X acc acc' ds xs ys : List PyData} {body orelse : List Stmt} {vs : List Value} {ρ ρ' ρ1 ρ2 : d0} {tf : d0 → PyData → Option d0} {b i j ja jt k kk low mask n p q tk : Nat} {o : Obj} {op : Operator} {ha ke td te tx : Option AV} {hi lo : Option Expr} {gg : Option Nat} {apos pos px py sp tp xp : Pos} {prog : Program} {G : Prop} {d : PyData} {sc scope : Scope} {s s' s'' s1 s₀ : Shared} {st : Stmt} {name x : Str} {t : TF} {u : Tok} {cd cls doc fv it pm v : Value} {E Q : Value → Shared → Prop} {w : World}
section
theorem bb(h:Heap)(o:Obj):∀b ob,h.get? b=some ob→(h.push o).get? b=some ob:= λzz zz e=>BO _ e
theorem io(h:Heap):h.get? h.objs.size=none:=by
 cases e:h.get? h.objs.size with
 |none=>rfl
 |some o=>exact absurd (Ma e) (Nat.lt_irrefl _)
theorem eF(I:bl C T α μ s)(ha:s.heap.get? a=none):a∉T++ai α μ:= λh=>by
 rcases AA.mp h with h|h
 ·refine bP (I.tdom _ h) λo e=>?_
  rw [ha] at e;exact ct e
 ·refine bP (iC (db h)) λi e=>?_
  have:i<μ.length:=I.len▸(BJ.mp e).1
  have z:=I.cells i a μ[i] e (Fe this);generalize μ[i]=c at z
  cases c with
  |live xs=>refine au z λzz zp1 zz=>?_;obtain ⟨_,e⟩:=zp1;rw [ha] at e;exact ct e
  |frozen xs=>refine bq (aJ.of_list z) λzz zz e1 zp3 zz=>?_;obtain ⟨_,e⟩:=zp3;cases e1;rw [ha] at e;exact ct e
  |iter xs=>rcases z with ⟨_,_,_,⟨_,e,_⟩,_⟩| ⟨_,_,_,e,_⟩<;>rw [ha] at e<;>exact ct e
end
theorem bI.newList(I:bl C T α μ s)(hr:aw s.heap (T++ai α μ) items.toList xs):
  bI C T α μ s μ (.d (.list xs)) (.ref s.heap.objs.size) {s with heap:=s.heap.push {cls:=.type "list",data:=.seq items},toks:=tk}:=by
 refine bI.of_keeps I (bb _ _) ?_;have hf:=io s.heap;refine aJ.list (vs:=items) ⟨_,Dm _ rfl⟩ (hr.keeps (bb _ _)) (eF I hf)
noncomputable def aT(a b:AV)(μ:List ah):Option (AV×List ah):=oe (jJ a) (jJ b) (λx y=>some (.d (.int (x+y)),μ)) (oe (mz a) (mz b) (λx y=>if x.length+y.length≤sizeLine then some (.d (.str (x++y)),μ) else none) (bo (da μ a) λxs=>bo (da μ b) λys=>if xs.length+ys.length≤sizeLine then some (.d (.list (xs++ys)),μ) else none))
theorem br:je C n .Add aT:=by
 intro A T α μ s E a b Va Vb V μ' R I ra rb h;refine bU h (λx y ea eb h=>?_) λh=>bU h (λx y ea eb h=>i6 h λhz h=>?_) λh=>ax h λxs e1 h=>ax h λys e2 h=>i6 h λhz h=>?_
 ·refine cg h ?_
  refine bP (fK ea ra) λt zq1=>?_;refine bH (ES zq1) ?_;refine bP (fK eb rb) λu zq1=>?_;refine bH (ES zq1) ?_;exact PyProof.Rows.add_int (bI.tok I (aJ.int ..))
 ·refine cg h ?_
  refine bP (iX ea ra) λt zq1=>?_;refine bH (ES zq1) ?_;refine bP (iX eb rb) λu zq1=>?_;refine bH (ES zq1) ?_;exact PyProof.Rows.add_str (λt' tk=>bI.tok I (aJ.str ..)) hz
 ·refine cg h ?_
  refine bq (ra.isList I e1) λl i1 zq2 zp3 r1=>?_;refine bH (ES zq2) ?_;refine bP zp3 λn1 h1=>?_;refine bq (rb.isList I e2) λl2 i2 zq2 zp3 r2=>?_;refine bH (ES zq2) ?_;refine bP zp3 λn2 h2=>?_;refine P.add_list h1 h2 ?_ (by have:=r1.length;have:=r2.length;simp at*;lia);exact bI.newList (tk:=s.toks) I (by rw [Po];exact r1.append r2)
noncomputable def aS(o:Int→Int→Option Int)(a b:AV)(μ:List ah):Option (AV×List ah):=bo (jJ a) λx=>bo (jJ b) λy=>bo (o x y) λz=>some (.d (.int z),μ)
theorem k5{o:Int→Int→Option Int}(h:∀ (A:Around) (s:Shared) (E:Value→Shared→Prop) (x y z:Int) (t u:Tok) (Q:Value→Shared→Prop),o x y=some z→Q (.int z s.toks) {s with toks:=s.toks+1}→wpAny (model C.prog C.w) A (binaryOp op (.int x t) (.int y u)) Q E s):je C n op (aS o):=by
 intro A T α μ s E a b Va Vb V μ' R I ra rb q;refine ax q λx ea q=>ax q λy eb q=>ax q λz e q=>?_;refine cg q ?_;refine bP (fK ea ra) λt zq1=>?_;refine bH (ES zq1) ?_;refine bP (fK eb rb) λu zq1=>?_;refine bH (ES zq1) ?_;exact h A s E x y z t u _ e (bI.tok I (aJ.int ..))
noncomputable def cN(x y:Int):Option Int:=if y=0∨2^64≤y.natAbs then none else some (x.fdiv y)
noncomputable def cq(x y:Int):Option Int:=if y=0 then none else some (x.fmod y)
noncomputable def gj(x y:Int):Option Int:=if 0≤y∧y≤1000000∧x.natAbs<2^64 then some (x^y.toNat) else none
noncomputable def Dt(x y:Int):Option Int:=if 0≤y∧y≤1000000∧x.natAbs<2^64 then some (x*2^y.toNat) else none
theorem i_:je C n .Sub (aS λx y=>some (x-y)):=k5 λA s E x y z t u Q e=>cA e λq=>PyProof.Rows.sub_int q
theorem eM:je C n .FloorDiv (aS cN):=k5 λA s E x y z t u Q e=>by
 by_cases h:y=0∨2^64≤y.natAbs
 ·exact ct ((if_pos h).symm.trans e)
 ·refine cA ((if_neg h).symm.trans e) λq=>?_
  refine PyProof.Rows.floordiv_int (λz=>h (.inl z)) q (.inl (PyProof.noPylong_of_log2 ?_))
  by_cases hz:y.natAbs=0
  ·rw [hz];decide
  ·have:y.natAbs.log2<64:=(Nat.log2_lt hz).mpr (by lia)
   lia
theorem dk:je C n .Mod (aS cq):=k5 λA s E x y z t u Q e=>by
 by_cases h:y=0
 ·exact ct ((if_pos h).symm.trans e)
 ·exact cA ((if_neg h).symm.trans e) λq=>PyProof.Rows.mod_int h q
theorem j2:je C n .Pow (aS gj):=k5 λA s E x y z t u Q e=>by
 exact i6 e λh e=>cA e λq=>pow_int_small h.1 h.2.1 h.2.2 q
theorem Uu:je C n .LShift (aS Dt):=k5 λA s E x y z t u Q e=>by
 exact i6 e λh e=>cA e λq=>lshift_int_small h.1 h.2.1 h.2.2 q
theorem qy:je C n .BitAnd (aS λx y=>some (D5 x y)):=k5 λA s E x y z t u Q e=>cA e λq=>PyProof.Rows.and_int q
noncomputable def nN(xs:List PyData):Nat→List PyData
 |0=>[]
 |k+1=>xs++nN xs k
noncomputable def l8(a b:AV)(μ:List ah):Option (AV×List ah):=bo (jJ b) λy=>oe (jJ a) (some ()) (λx zz=>if x.natAbs<2^64∨y.natAbs<2^64 then some (.d (.int (x*y)),μ) else none) (bo (da μ a) λxs=>if xs.length*y.toNat≤2^24∧y.natAbs<2^63 then some (.d (.list (nN xs y.toNat)),μ) else none)
theorem Hi(xs:List PyData):∀k,(nN xs k).length=xs.length*k
 |0=>by simp [nN]
 |k+1=>by rw [nN,be,Hi xs k,Nat.mul_succ,Nat.add_comm]
theorem wW(vs:Array Value):∀ (k:Nat) (acc:Array Value),(List.foldl (λa b=>a++b) acc (GE k vs)).toList=acc.toList++(GE k vs.toList).flatten
 |0,acc=>by simp
 |k+1,acc=>by
  rw [Ny,List.foldl_cons,wW vs k,Po,Ny,Gv,E9]
theorem t0(r:aw h M vs xs):∀k,aw h M (GE k vs).flatten (nN xs k)
 |0=>by simpa [nN] using aw.nil h M
 |k+1=>by rw [Ny,Gv,nN];exact r.append (t0 r k)
theorem qP{l:Addr}{x:Int}
  (hl:s.heap.get? l=some {cls:=.type "list",dict:=none,data:=.seq items k,slots:= #[]})
  (hlo: -(2^63:Int)≤x) (hhi:x<2^63) (hsz:items.size*x.toNat≤2^24)
  (h:Q (.ref s.heap.objs.size) {s with heap:=s.heap.push {cls:=.type "list",data:=.seq (List.foldl (λx1 x2=>x1++x2) #[] (GE (if items.isEmpty=true then 0 else x.toNat) items))}}):
  wpAny (model prog w) A (binaryOp .Mult (.ref l) (.int x u)) Q E s:=
 wpAny_binaryOp_repeat_ref (T:="list") (U:="int") (by decide) ⟨_,hl,rfl⟩ (λs'=>typeIs_int s' x u) noFill_list_mul F.fills_int_mul F.slot_int_rmul repeat_list F.slot_int_index.lookup
  (UK F.slot_int_rmul (typeIs_int s x u) F.entry_int_rmul (F.args_int_rmul_2 _ _) (int___rmul___int_list x u l items k)
   ⟨hl,rfl,⟨_,hl,rfl⟩,UK F.slot_list_mul ⟨_,hl,rfl⟩ F.entry_list_mul (F.args_list_mul_2 _ _)
    (AutoListH.list___mul___list_int_3 l items k x u (by simp [Builtin.List.listFitsIndex];lia) (by lia) (by simp [Qi,sizeLine];lia))
    ⟨hl,h⟩⟩)
theorem KL{x:Int}(h:x.natAbs<2^64):HN x≤64:=intBits_le_64 (by omega) (by omega)
theorem qd:je C n .Mult l8:=by
 intro A T α μ s E a b Va Vb V μ' R I ra rb h;refine ax h λy eb h=>bU h (λx zz ea zz h=>i6 h λhz h=>?_) λh=>ax h λxs e1 h=>i6 h λhz h=>?_
 ·refine cg h ?_
  refine bP (fK ea ra) λt zq1=>?_;refine bH (ES zq1) ?_;refine bP (fK eb rb) λu zq1=>?_;refine bH (ES zq1) ?_;refine PyProof.Rows.mul_int (bI.tok I (aJ.int ..)) ?_;exact hz.elim (λhz=>IntMulOk.of_left (KL hz)) λhz=>IntMulOk.of_right (KL hz)
 ·refine cg h ?_
  refine bq (ra.isList I e1) λl i1 zq2 zp3 r1=>?_;refine bH (ES zq2) ?_;refine bP zp3 λn1 h1=>?_;refine bP (fK eb rb) λu zq1=>?_;refine bH (ES zq1) ?_;have hs:i1.size=xs.length:=by rw [←r1.length];simp
  refine qP h1 (by omega) (by omega) (by rw [hs];exact hz.1) ?_;refine bI.newList (tk:=s.toks) I ?_;rw [wW];have e2:(#[]:Array Value).toList++(GE (if i1.isEmpty=true then 0 else y.toNat) i1.toList).flatten=(GE y.toNat i1.toList).flatten:=by
   by_cases he:i1.isEmpty=true
   ·have:i1= #[]:=by simpa using he
    refine bH (ES this) ?_;simp
   ·rw [if_neg he];rfl
  rw [e2];exact t0 r1 _
noncomputable def ef(o:Int→Int→Bool)(a b:AV)(_:List ah):Option Bool:=bo (jJ a) λx=>bo (jJ b) λy=>some (o x y)
theorem oZ{op:CmpOp}{o:Int→Int→Bool}(h:∀ (A:Around) (s:Shared) (E:Value→Shared→Prop) (x y:Int) (t u:Tok) (Q:Value→Shared→Prop),Q (.bool (o x y)) s→wpAny (model C.prog C.w) A (compareOp op (.int x t) (.int y u)) Q E s):gN C n op (ef o):=by
 intro A T α μ s E a b Va Vb r R I ra rb q;refine ax q λx ea q=>ax q λy eb q=>?_;refine cA q ?_;refine bP (fK ea ra) λt zq1=>?_;refine bH (ES zq1) ?_;refine bP (fK eb rb) λu zq1=>?_;refine bH (ES zq1) ?_;exact h A s E x y t u _ ⟨rfl,s.toks,rfl⟩
theorem rq:gN C n .Lt (ef λx y=>decide (x<y)):=oZ λA s E x y t u Q q=>PyProof.Rows.lt_int q
theorem Kr:gN C n .Gt (ef λx y=>decide (y<x)):=oZ λA s E x y t u Q q=>PyProof.Rows.gt_int q
theorem Rf:gN C n .GtE (ef λx y=>decide (y≤x)):=oZ λA s E x y t u Q q=>PyProof.Rows.ge_int q
noncomputable def To(μ:List ah)(V:AV):Option PyData:=oe (v7 V) (some ()) (λx zz=>some x) (bo (da μ V) λxs=>some (.list xs))
theorem bm.readsL(I:bl C T α μ s)(r:bm s.heap α (T++ai α μ) v V)(h:da μ V=some xs):∃as,Reads s.heap v (.list xs) as:=by
 refine bq (r.isList I h) λa items zq2 zp3 rr=>?_;refine bH (ES zq2) ?_;refine bP zp3 λn e1=>?_;refine bP rr.readsAll λas rr=>?_;exact ⟨_,.list e1 rfl rfl rr⟩
theorem bm.reads(I:bl C T α μ s)(r:bm s.heap α (T++ai α μ) v V)(h:To μ V=some d):∃as,Reads s.heap v d as:=by
 refine bU h (λx zz ex zz h=>?_) λh=>ax h λxs e h=>?_
 ·refine cA h ?_
  rw [iP ex] at r
  exact aJ.reads r
 ·refine cA h ?_
  exact r.readsL I e
noncomputable def dH(a b:AV)(μ:List ah):Option Bool:=oe (jJ a) (jJ b) (λx y=>some (x==y)) (oe (mz a) (mz b) (λx y=>some (x==y)) (oe (Pg a) (Pg b) (λx y=>some (x==y)) (oe (To μ a) (To μ b) (λx y=>if shaped x=true∧shaped y=true then some (Mq x y) else none) none)))
noncomputable def po(a b:AV)(μ:List ah):Option Bool:=bo (dH a b μ) λr=>some (!r)
theorem dM:gN C n .Eq dH:=by
 intro A T α μ s E a b Va Vb r R I ra rb h;refine bU h (λx y ea eb h=>?_) λh=>bU h (λx y ea eb h=>?_) λh=>bU h (λx y ea eb h=>?_) λh=>bU h (λx y e1 e2 h=>i6 h λhs h=>?_) λh=>ct h
 ·refine cA h ?_
  refine bP (fK ea ra) λt zq1=>?_;refine bH (ES zq1) ?_;refine bP (fK eb rb) λu zq1=>?_;refine bH (ES zq1) ?_;exact PyProof.Rows.eq_int (ji rfl s.toks rfl)
 ·refine cA h ?_
  refine bP (iX ea ra) λt zq1=>?_;refine bH (ES zq1) ?_;refine bP (iX eb rb) λu zq1=>?_;refine bH (ES zq1) ?_;exact PyProof.Rows.eq_str (ji rfl s.toks rfl)
 ·refine cA h ?_
  rw [xj ea ra,xj eb rb];exact PyProof.Rows.eq_bool (ji rfl s.toks rfl)
 ·refine cA h ?_
  refine bP (ra.reads I e1) λas r1=>?_;refine bP (rb.reads I e2) λbs r2=>?_;exact compareEq_shaped r1 r2 hs.1 hs.2 (by have:=R.units;lia) (ji rfl s.toks rfl)
theorem se:gN C n .NotEq po:=by
 intro A T α μ s E a b Va Vb r R I ra rb h;refine ax h λr1 h1 h=>cA h ?_;refine bU h1 (λx y ea eb h=>?_) λh=>bU h (λx y ea eb h=>?_) λh=>bU h (λx y ea eb h=>?_) λh=>bU h (λx y e1 e2 h=>i6 h λhs h=>?_) λh=>ct h
 ·refine cA h ?_
  refine bP (fK ea ra) λt zq1=>?_;refine bH (ES zq1) ?_;refine bP (fK eb rb) λu zq1=>?_;refine bH (ES zq1) ?_;exact PyProof.Rows.ne_int (ji rfl s.toks rfl)
 ·refine cA h ?_
  refine bP (iX ea ra) λt zq1=>?_;refine bH (ES zq1) ?_;refine bP (iX eb rb) λu zq1=>?_;refine bH (ES zq1) ?_;exact PyProof.Rows.ne_str (ji rfl s.toks rfl)
 ·refine cA h ?_
  rw [xj ea ra,xj eb rb];exact PyProof.Rows.ne_bool (ji rfl s.toks rfl)
 ·refine cA h ?_
  refine bP (ra.reads I e1) λas r1=>?_;refine bP (rb.reads I e2) λbs r2=>?_;exact compareNe_shaped r1 r2 hs.1 hs.2 (by have:=R.units;lia) (ji rfl s.toks rfl)
noncomputable def XC(a b:AV)(μ:List ah):Option Bool:=oe (mz a) (mz b) (λx y=>some (!(Ll y x 0 y.length 1).isEmpty)) (oe (v7 a) (da μ b) (λx ys=>if KX ys=true∧shaped x=true then some (ys.any λy=>Mq y x) else none) none)
noncomputable def lB(a b:AV)(μ:List ah):Option Bool:=bo (XC a b μ) λr=>some (!r)
theorem Yw:gN C n .In XC:=by
 intro A T α μ s E a b Va Vb r R I ra rb h;refine bU h (λx y ea eb h=>?_) λh=>bU h (λx ys e1 e h=>i6 h λhs h=>?_) λh=>ct h
 ·refine cA h ?_
  refine bP (iX ea ra) λt zq1=>?_;refine bH (ES zq1) ?_;refine bP (iX eb rb) λu zq1=>?_;refine bH (ES zq1) ?_;exact PyProof.Rows.in_str (ji rfl s.toks rfl)
 ·refine cA h ?_
  rw [iP e1] at ra
  refine bP (aJ.reads ra) λas r1=>?_;refine bP (rb.readsL I e) λbs r2=>?_;exact P_ r2 r1 hs.1 (canLay_of_shaped hs.2) (by have:=R.units;have:=depth_of_shaped hs.2;lia) (ji rfl s.toks rfl)
theorem xB:gN C n .NotIn lB:=by
 intro A T α μ s E a b Va Vb r R I ra rb h;refine ax h λr1 h1 h=>cA h ?_;refine bU h1 (λx y ea eb h=>?_) λh=>bU h (λx ys e1 e h=>i6 h λhs h=>?_) λh=>ct h
 ·refine cA h ?_
  refine bP (iX ea ra) λt zq1=>?_;refine bH (ES zq1) ?_;refine bP (iX eb rb) λu zq1=>?_;refine bH (ES zq1) ?_;exact PyProof.Rows.notIn_str (ji rfl s.toks rfl)
 ·refine cA h ?_
  rw [iP e1] at ra
  refine bP (aJ.reads ra) λas r1=>?_;refine bP (rb.readsL I e) λbs r2=>?_;exact PySem.SeqAt.notIn_list_reads r2 r1 hs.1 (canLay_of_shaped hs.2) (by have:=R.units;have:=depth_of_shaped hs.2;lia) (ji rfl s.toks rfl)
noncomputable def L6(a b:AV)(_:List ah):Option Bool:=oe (Pg a) (Pg b) (λx y=>some (x==y)) (oe (Nw a) (Nw b) (λzz zz=>some true) (oe (jJ a) (Nw b) (λzz zz=>some false) none))
theorem wz:gN C n .Is L6:=by
 intro A T α μ s E a b Va Vb r R I ra rb h;refine bU h (λx y ea eb h=>?_) λh=>bU h (λx y ea eb h=>?_) λh=>bU h (λx y ea eb h=>?_) λh=>ct h
 ·refine cA h ?_
  rw [xj ea ra,xj eb rb];exact PyProof.Rows.is_bool (ji rfl s.toks rfl)
 ·refine cA h ?_
  rw [En ea ra,En eb rb];exact is_none_gen (ji rfl s.toks rfl)
 ·refine cA h ?_
  refine bP (fK ea ra) λt zq1=>?_;refine bH (ES zq1) ?_;rw [En eb rb];exact is_none_gen (ji rfl s.toks rfl)
section
variable {k:EF}
def ju(f:EF):EF:= λρ μ=>bp (f ρ μ) λV μ1=>bo (jJ V) λx=>some (.d (.int (-x)),μ1)
theorem nk{x:Expr}(hf:ab C n cx x f):ab C n cx (.UnaryOp .USub x pos) (ju f):=by
 refine .of ?_;intro A env O T ρ α μ s E V μ' R I F h;refine aD h λV1 μ1 e1 h=>ax h λx ex h=>?_;refine cg h ?_;refine wpAny_UnaryOp (D2 (hf.run A env O T ρ α μ s E _ _ R I F e1) (λv s1 p=>?_) λzz zz x=>x);refine cn p λα1 I1 S1 r1=>?_;refine bP (fK ex r1) λt zq1=>?_;refine bH (ES zq1) ?_;exact PyProof.Rows.neg_int (bI.trans S1 (bI.tok I1 (aJ.int ..)))
def xO(f:EF):EF:= λρ μ=>bp (f ρ μ) λV μ1=>bo (ka V μ1) λb=>some (.d (.bool (!b)),μ1)
theorem Sy{x:Expr}(hf:ab C n cx x f):ab C n cx (.UnaryOp .Not x pos) (xO f):=by
 refine .of ?_;intro A env O T ρ α μ s E V μ' R I F h;refine aD h λV1 μ1 e1 h=>?_;refine ax h λb e2 h=>?_;refine cg h ?_;refine wpAny_UnaryOp (D2 (hf.run A env O T ρ α μ s E _ _ R I F e1) (λv s1 p=>?_) λzz zz x=>x);refine cn p λα1 I1 S1 r1=>?_;refine not_of (D2 (l_ I1 r1 e2) (λc s2 q=>?_) λzz zz x=>x);refine Aj q λzq0 tk zq2=>?_;refine bH zq0 ?_;refine bH (ES zq2) ?_;exact bI.trans S1 (bI.tok I1 (aJ.bool ..))
theorem yO{x y:Expr}(hf:ab C n cx x f)(hg:ab C n cx y g):ab C n cx (.BoolOp .And [x,y] pos) (rW f g):=by
 refine .of ?_;intro A env O T ρ α μ s E V μ' R I F h;refine (?_:wpAny _ A (do let v←eval x env;standAt pos;let t←holding [v] (truthy v);match BoolOp.And,t with| .And,false| .Or,true=>pure v|_,_=>boolOp pos .And [eval y env]) _ _ s);refine aD h λV1 μ1 e1 h=>ax h λb e2 h=>?_;refine yt (D2 (hf.run A env O T ρ α μ s E _ _ R I F e1) (λv s1 p=>?_) λzz zz x=>x);refine cn p λα1 I1 S1 r1=>?_;refine yt (L9 (yt (KZ ?_)));refine D2 (l_ I1 r1 e2) (λc s2 q=>?_) λzz zz x=>x;refine Aj q λzq0 tk zq2=>?_;refine bH (ES zq0) ?_;refine bH (ES zq2) ?_;have S2:=aU.keeps (α:=α1) (μ:=μ1) (s:=s1) (h':=s1.heap) (tk:=tk) λzz zz e=>e;cases b with
 |true=>
  refine D2 (hg.run A env O T ρ α1 μ1 _ E V μ' R (I1.keeps (h':=s1.heap) λzz zz e=>e) ((F.step I S1).step I1 S2) h) (λv2 s3 p=>bI.trans (S1.trans S2) p) λzz zz x=>x
 |false=>
  refine cg h ?_;exact Et (bI.trans S1 (bI.tok I1 r1))
theorem YC{x y:Expr}(hf:ab C n cx x f)(hg:ab C n cx y g):ab C n cx (.BoolOp .Or [x,y] pos) (Za f g):=by
 refine .of ?_;intro A env O T ρ α μ s E V μ' R I F h;refine (?_:wpAny _ A (do let v←eval x env;standAt pos;let t←holding [v] (truthy v);match BoolOp.Or,t with| .And,false| .Or,true=>pure v|_,_=>boolOp pos .Or [eval y env]) _ _ s);refine aD h λV1 μ1 e1 h=>ax h λb e2 h=>?_;refine yt (D2 (hf.run A env O T ρ α μ s E _ _ R I F e1) (λv s1 p=>?_) λzz zz x=>x);refine cn p λα1 I1 S1 r1=>?_;refine yt (L9 (yt (KZ ?_)));refine D2 (l_ I1 r1 e2) (λc s2 q=>?_) λzz zz x=>x;refine Aj q λzq0 tk zq2=>?_;refine bH (ES zq0) ?_;refine bH (ES zq2) ?_;have S2:=aU.keeps (α:=α1) (μ:=μ1) (s:=s1) (h':=s1.heap) (tk:=tk) λzz zz e=>e;cases b with
 |true=>
  refine cg h ?_;exact Et (bI.trans S1 (bI.tok I1 r1))
 |false=>
  refine D2 (hg.run A env O T ρ α1 μ1 _ E V μ' R (I1.keeps (h':=s1.heap) λzz zz e=>e) ((F.step I S1).step I1 S2) h) (λv2 s3 p=>bI.trans (S1.trans S2) p) λzz zz x=>x
end
noncomputable def eZ(h:Heap)(α M:List Addr):List Value→List AV→Prop
 | [],[]=>True
 |v::vs,V::Vs=>bm h α M v V∧eZ h α M vs Vs
 |_,_=>False
theorem eZ.step0(x:aU [] α μ s α' μ' s'):∀ {vs:List Value} {Vs:List AV},eZ s.heap α (T++ai α μ) vs Vs→eZ s'.heap α' (T++ai α' μ') vs Vs
 | [],[],_=>trivial
 |_::_,_::_,r=>⟨r.1.step0 x,eZ.step0 x r.2⟩
 | [],_::_,r=>r.elim
 |_::_,[],r=>r.elim
noncomputable def eX:List EF→d0→List ah→Option (List AV×List ah)
 | [],_,μ=>some ([],μ)
 |f::fs,ρ,μ=>bp (f ρ μ) λV μ1=>bp (eX fs ρ μ1) λVs μ2=>some (V::Vs,μ2)
theorem zE(h:f ρ μ=some (V,μ')):eX [f] ρ μ=some ([V],μ'):=by
 refine (?_:bp (f ρ μ) _=_);refine rA h ?_;rfl
structure dc (C:gK) (n:Nat) (cx:Cx) (es:List Expr) (fs:List EF):Prop where
 of::
 run:∀A env O T ρ α μ s E Vs μ' pos,cP A n→bl C T α μ s→bh C cx env O ρ s.heap α (T++ai α μ)→eX fs ρ μ=some (Vs,μ')→
  wpAny (model C.prog C.w) A (spliced (backTo pos (starEach es env))) (λvs s'=>∃α',bl C T α' μ' s'∧aU [] α μ s α' μ' s'∧eZ s'.heap α' (T++ai α' μ') vs Vs) E s
section
theorem ae:dc C n cx [] []:=by
 refine .of ?_;intro A env O T ρ α μ s E Vs μ' pos R I F h;refine cg h ?_;exact Sr (cJ α I (aU.refl _ _ _ _) trivial)
theorem dA(hs:∀env,starEach (e::es) env=(false,eval e env)::starEach es env)(hf:ab C n cx e f)(hg:dc C n cx es fs):dc C n cx (e::es) (f::fs):=by
 refine .of ?_;intro A env O T ρ α μ s E Vs μ' pos R I F h;refine aD h λV μ1 e1 h=>?_;refine aD h λVs2 μ2 e2 h=>?_;refine cg h ?_;rw [hs env];refine Rw (D2 (hf.run A env O T ρ α μ s E V μ1 R I F e1) (λv s1 p=>?_) λzz zz x=>x);refine cn p λα1 I1 S1 r1=>?_;refine D2 (hg.run A env O T ρ α1 μ1 s1 E _ _ pos R I1 (F.step I S1) e2) (λvs s2 p=>?_) λzz zz x=>x;refine cn p λα2 I2 S2 r2=>?_;exact (c_ α2 I2 (S1.trans S2) (r1.step0 S2) r2)
end
theorem mH:∀ {α:List Addr} {μ:List ah} {i:Nat} {a:Addr} {c:ah},α.Nodup→α[i]? =some a→c.isMut=false→a∉ai α (μ.set i c)
 | [],_,_,_,_,_,h,_=>by simp at h
 |_::_,[],_,_,_,_,_,_=>by simp [ai]
 |b::α,c₀::μ,0,a,c,hn,h,hc=>by
  simp at h;refine bH h ?_
  simp only [SL,ai,hc];intro q;exact (J_.mp hn).1 (db q)
 |b::α,c₀::μ,i+1,a,c,hn,h,hc=>by
  simp only [PM,ai];have h':α[i]? =some a:=by simpa using h
  have ha:a∈α:=FV h';have q:=mH (μ:=μ) (c:=c) (J_.mp hn).2 h' hc
  split
  ·intro z
   rcases Ch.mp z with rfl|z
   ·exact (J_.mp hn).1 ha
   ·exact q z
  ·exact q
theorem Bi(h:(μ.set i c)[j]? =some c'):(j=i∧c'=c)∨(j≠i∧μ[j]? =some c'):=by
 rw [Qk] at h
 by_cases q:i=j
 ·rw [if_pos q] at h
  split at h
  ·exact .inl ⟨q.symm,(Fd h).symm⟩
  ·exact ct h
 ·rw [if_neg q] at h
  exact .inr ⟨λz=>q z.symm,h⟩
noncomputable def aj5(μ:List ah)(i:Nat):ah→Option (PyData×List ah)
 | .live xs=>some (.list xs,μ.set i (.frozen xs))
 | .frozen xs=>some (.list xs,μ)
 | .iter _=>none
noncomputable def w5(V:AV)(μ:List ah):Option (PyData×List ah):=oe (v7 V) (some ()) (λx zz=>some (x,μ)) (bo (Ff V) λi=>bo (μ[i]?) λc=>aj5 μ i c)
theorem dX.mono(x:dX h M a c)(hm:∀a∈M',a∈M):dX h M' a c:=by
 cases c with
 |live xs=>refine au x λitems p r=>?_;exact (aZ items p (r.mono hm))
 |frozen xs=>exact aJ.mono x hm
 |iter xs=>
  rcases x with ⟨l,k,items,p,q,hl,hk,r⟩|x
  ·exact .inl (h_ l k items p q (λz=>hl (hm _ z)) hk (r.mono hm))
  ·exact .inr x
theorem tb(I:bl C T α μ s)(r:bm s.heap α (T++ai α μ) v V)(h:w5 V μ=some (d,μ')):
  bl C T α μ' s∧aU [] α μ s α μ' s∧aJ s.heap (T++ai α μ') v d:=by
 refine bU h (λx zz ex zz h=>?_) λh=>ax h λi ei h=>ax h λc e h=>?_
 ·refine cg h ?_
  rw [iP ex] at r
  exact (fu I (aU.refl _ _ _ _) r)
 refine au (Gh ei r) λa ha zq2=>?_;refine bH (ES zq2) ?_;cases c with
 |live xs=>
  refine cg h ?_;have sub:∀b∈ai α (μ.set i (.frozen xs)),b∈ai α μ:= λb hb=>rf hb λc₀ e0 q=>by cases q
  have subT:∀b∈T++ai α (μ.set i (.frozen xs)),b∈T++ai α μ:= λb hb=>(AA.mp hb).elim (λq=>yo _ q) λq=>CE _ (sub b q);refine au (I.cells i a _ ha e) λitems hp rr=>?_;have key:aJ s.heap (T++ai α (μ.set i (.frozen xs))) (.ref a) (.list xs):=aJ.list hp (rr.mono subT) λz=>by
   rcases AA.mp z with z|z
   ·exact I.apart a z (FV ha)
   ·exact mH I.nodup ha rfl z
  refine (fu ⟨I.keep,by rw [Lq];exact I.len,λj b c h1 h2=>?_,I.nodup,I.apart,I.tdom,I.tnew,I.new,I.gens,I.os⟩ (⟨⟨[],by simp,by simp⟩,fZ.refl _ _,λb hb=>.inl (sub b hb),λzz o e=>⟨o,e⟩,λzz zz e=>e⟩) key)
  rcases Bi h2 with ⟨rfl,rfl⟩| ⟨_,h2⟩
  ·rw [ha] at h1;refine cA h1 ?_
   exact key
  ·exact (I.cells j b c h1 h2).mono subT
 |frozen xs=>
  refine cg h ?_;exact (fu I (aU.refl _ _ _ _) (I.cells i a _ ha e))
 |iter xs=>exact ct h
noncomputable def lJ:List AV→List ah→Option (List PyData×List ah)
 | [],μ=>some ([],μ)
 |V::Vs,μ=>bp (w5 V μ) λd μ1=>bp (lJ Vs μ1) λds μ2=>some (d::ds,μ2)
theorem jm:∀ {vs:List Value} {Vs:List AV} {μ μ':List ah} {ds:List PyData},bl C T α μ s→eZ s.heap α (T++ai α μ) vs Vs→lJ Vs μ=some (ds,μ')→
  bl C T α μ' s∧aU [] α μ s α μ' s∧aw s.heap (T++ai α μ') vs ds
 | [],[],μ,μ',ds,I,r,h=>by refine cg h ?_;exact (fu I (aU.refl _ _ _ _) (aw.nil _ _))
 | [],_::_,_,_,_,_,r,_=>r.elim
 |_::_,[],_,_,_,_,r,_=>r.elim
 |v::vs,V::Vs,μ,μ',ds,I,r,h=>by
  refine aD h λd μ1 e1 h=>?_;refine aD h λds2 μ2 e2 h=>?_;refine cg h ?_;refine dU (tb I r.1 e1) λI1 S1 r1=>?_;refine dU (jm I1 (eZ.step0 S1 r.2) e2) λI2 S2 r2=>?_;exact (fu I2 (S1.trans S2) (.cons (r1.step0 S2) r2))
def cX(fs:List EF):EF:= λρ μ=>bp (eX fs ρ μ) λVs μ1=>bp (lJ Vs μ1) λds μ2=>if ds.length≤sizeLine then some (.d (.tuple ds),μ2) else none
def aV(fs:List EF):EF:= λρ μ=>bp (eX fs ρ μ) λVs μ1=>bp (lJ Vs μ1) λds μ2=>if ds.length≤sizeLine then some (.d (.list ds),μ2) else none
section
theorem cY(h:dc C n cx es fs):ab C n cx (.Tuple es k pos) (cX fs):=by
 refine .of ?_;intro A env O T ρ α μ s E V μ' R I F q;refine aD q λVs μ1 e1 q=>?_;refine aD q λds μ2 e2 q=>?_;refine i6 q λhz q=>?_;refine cg q ?_;refine Tuple_ (D2 (h.run A env O T ρ α μ s E Vs μ1 pos R I F e1) (λvs s1 p=>?_) λzz zz x=>x);refine cn p λα1 I1 S1 r1=>?_;refine dU (jm I1 r1 e2) λI2 S2 r2=>?_;refine Ia (bI.trans (S1.trans S2) (bI.of_keeps (tk:=s1.toks) I2 (bb _ _) ?_)) (by show vs.toArray.size≤sizeLine;rw [OP,r2.length];exact hz);exact aJ.tuple (Dm _ rfl) rfl rfl ((by simpa using r2:aw s1.heap (T++ai α1 _) vs.toArray.toList ds).keeps (bb _ _)) (eF I2 (io _))
theorem bc(h:dc C n cx es fs):ab C n cx (.List es pos) (aV fs):=by
 refine .of ?_;intro A env O T ρ α μ s E V μ' R I F q;refine aD q λVs μ1 e1 q=>?_;refine aD q λds μ2 e2 q=>?_;refine i6 q λhz q=>?_;refine cg q ?_;refine List_ (D2 (h.run A env O T ρ α μ s E Vs μ1 pos R I F e1) (λvs s1 p=>?_) λzz zz x=>x);refine cn p λα1 I1 S1 r1=>?_;refine dU (jm I1 r1 e2) λI2 S2 r2=>?_;exact Ia (bI.trans (S1.trans S2) (bI.newList (tk:=s1.toks) I2 (by simpa using r2))) (by show vs.toArray.size≤sizeLine;rw [OP,r2.length];exact hz)
end
noncomputable def tT(μ:List ah)(V:AV):Option (List PyData):=oe (Iw V) (some ()) (λxs zz=>some xs) (da μ V)
noncomputable def Kq(V:AV)(k:Int)(μ:List ah):Option PyData:=if-(2^63)≤k∧k<2^63 then bo (tT μ V) λxs=>bo (seqIndex? k xs.length) λj=>xs[j]? else none
theorem n7{l:Addr}{k:Int}{t:Tok}{x:Value}
  (hl:s.heap.IsList l items) (hlo: -(2^63)≤k) (hhi:k<2^63) (hj:seqIndex? k items.size=some j) (hx:items[j]? =some x) (h:Q x s):wpAny (model prog w) A (getItem (.ref l) (.int k t)) Q E s:=by
 unfold seqIndex? at hj
 by_cases hk:k<0
 ·rw [if_pos hk] at hj
  refine i6 hj λq hj=>?_;cases hj;simp only [EZ,decide_eq_true_eq] at q
  exact wpAny_getItem_list_neg hl hk (by lia) hlo hx h
 ·rw [if_neg hk] at hj
  refine i6 hj λq hj=>?_;cases hj;exact wpAny_getItem_list hl (by lia) hhi hx h
theorem MY{k:Int}{t:Tok}{value slice:Expr}(I:bl C T α μ s)(r:bm s.heap α (T++ai α μ) v V)(h:Kq V k μ=some d)
  (hs:∀o i,subscripted slice false o i=operate [o,i] (getItem o i)):wpAny (model C.prog C.w) A (subscriptTail value slice v (.int k t)) (λv' s'=>s'=s∧aJ s.heap (T++ai α μ) v' d) E s:=by
 refine i6 h λhk h=>ax h λxs e1 h=>ax h λj e2 h=>?_;refine bU e1 (λxs' zz ex zz q=>?_) λe1=>?_
 ·have q':=Fd q
  subst q';refine bq (GB ex r) λa items zq2 ht r1=>?_;refine bH (ES zq2) ?_;refine au (r1.get h) λx e3 r2=>?_;have e4:items[j]? =some x:=by simpa using e3
  refine RW (o:=.ref a) (T:="tuple") (by refine cn ht λo ho hc zz=>?_;exact (aZ o ho hc)) SP.lookup (PyProof.Rows.getItem_tuple ht hk.1 hk.2 (j:=j) ?_ e4 ⟨rfl,r2⟩) (hs _ _);rw [show items.size=xs'.length from by rw [←r1.length];simp];exact e2
 ·refine bq (r.isList I e1) λa items zq2 hl r1=>?_
  refine bH (ES zq2) ?_;refine au (r1.get h) λx e3 r2=>?_;have e4:items[j]? =some x:=by simpa using e3
  refine RW hl.isList.typeIs Ql.lookup (n7 hl.isList hk.1 hk.2 (j:=j) ?_ e4 ⟨rfl,r2⟩) (hs _ _);rw [show items.size=xs.length from by rw [←r1.length];simp];exact e2
def aF(f g:EF):EF:= λρ μ=>bp (f ρ μ) λV μ1=>bp (g ρ μ1) λK μ2=>bo (jJ K) λk=>bo (Kq V k μ2) λd=>some (.d d,μ2)
section
theorem bj{x y:Expr}(hf:ab C n cx x f)(hg:ab C n cx y g)(hs:∀o i,subscripted y false o i=operate [o,i] (getItem o i)):ab C n cx (.Subscript x y pos) (aF f g):=by
 refine .of ?_;intro A env O T ρ α μ s E V μ' R I F h;refine aD h λV1 μ1 e1 h=>aD h λK μ2 e2 h=>ax h λk ek h=>ax h λd e3 h=>?_;refine cg h ?_;refine Tb (mS hf hg R I F e1 e2 λa b s2 α2 I2 S2 ra rb=>?_);refine bP (fK ek rb) λt zq1=>?_;refine bH (ES zq1) ?_;refine D2 (MY I2 ra e3 hs) (λv s3 p=>?_) λzz zz x=>x;refine fY p λzq0 r=>?_;refine bH (ES zq0) ?_;exact (cJ α2 I2 S2 r)
end
noncomputable abbrev PF:=d0→List ah→Option (Option Int×List ah)
structure lj (C:gK) (n:Nat) (cx:Cx) (e:Option Expr) (f:PF):Prop where
 of::
 run:∀A env O T ρ α μ s E k μ',cP A n→bl C T α μ s→bh C cx env O ρ s.heap α (T++ai α μ)→f ρ μ=some (k,μ')→
  wpAny (model C.prog C.w) A (evalPart e env) (λv s'=>∃α',bl C T α' μ' s'∧aU [] α μ s α' μ' s'∧IsPart v k) E s
def aL(f:EF):PF:= λρ μ=>bp (f ρ μ) λV μ1=>oe (jJ V) (some ()) (λk zz=>some (some k,μ1)) (oe (Nw V) (some ()) (λzz zz=>some (none,μ1)) none)
def ba:PF:= λzz μ=>some (none,μ)
section
variable {p q r:PF}
theorem dC:lj C n cx none ba:=by
 refine .of ?_;intro A env O T ρ α μ s E k μ' R I F h;refine cg h ?_;exact Et (cJ α I (aU.refl _ _ _ _) .none)
theorem cw(hf:ab C n cx e f):lj C n cx (some e) (aL f):=by
 refine .of ?_;intro A env O T ρ α μ s E k μ' R I F h;refine aD h λV μ1 e1 h=>?_;refine D2 (hf.run A env O T ρ α μ s E _ _ R I F e1) (λv s1 p=>?_) λzz zz x=>x;refine cn p λα1 I1 S1 r1=>?_;refine bU h (λk1 zz ek zz h=>?_) λh=>bU h (λzz zz ek zz h=>?_) λh=>ct h
 ·refine cg h ?_
  refine bP (fK ek r1) λt zq1=>?_;refine bH (ES zq1) ?_;exact (cJ α1 I1 S1 (.int _ _))
 ·refine cg h ?_
  rw [En ek r1];exact (cJ α1 I1 S1 .none)
theorem va{x:Expr}{st:Option Expr}{μ4:List ah}{kl kh ks:Option Int}{Q:Value→Value→Shared→Prop}
  (hf:ab C n cx x f) (hp:lj C n cx lo p) (hq:lj C n cx hi q) (hr:lj C n cx st r) (R:cP A n) (I:bl C T α μ s) (F:bh C cx env O ρ s.heap α (T++ai α μ))
  (e1:f ρ μ=some (V,μ1)) (e2:p ρ μ1=some (kl,μ2)) (e3:q ρ μ2=some (kh,μ3)) (e4:r ρ μ3=some (ks,μ4))
  (h:∀a vl vu vs s4 α4,bl C T α4 μ4 s4→aU [] α μ s α4 μ4 s4→bm s4.heap α4 (T++ai α4 μ4) a V→IsPart vl kl→IsPart vu kh→IsPart vs ks→Q a (.ref s4.heap.objs.size) {s4 with heap:=s4.heap.push {cls:=.type "slice",data:=.fields #[vl,vu,vs]}}):
  wpAny (model C.prog C.w) A (eval x env) (λa s1=>wpAny (model C.prog C.w) A (eval (.Slice lo hi st sp) env) (λb s2=>Q a b s2) E s1) E s:=by
 refine D2 (hf.run A env O T ρ α μ s E V μ1 R I F e1) (λa s1 p1=>?_) λzz zz x=>x;refine cn p1 λα1 I1 S1 r1=>?_;refine wpAny_Slice (D2 (hp.run A env O T ρ α1 μ1 s1 E kl μ2 R I1 (F.step I S1) e2) (λvl s2 p2=>?_) λzz zz x=>x);refine cn p2 λα2 I2 S2 r2=>?_;refine D2 (hq.run A env O T ρ α2 μ2 s2 E kh μ3 R I2 ((F.step I S1).step I1 S2) e3) (λvu s3 p3=>?_) λzz zz x=>x;refine cn p3 λα3 I3 S3 r3=>?_;refine D2 (hr.run A env O T ρ α3 μ3 s3 E ks μ4 R I3 (((F.step I S1).step I1 S2).step I2 S3) e4) (λvs s4 p4=>?_) λzz zz x=>x;refine cn p4 λα4 I4 S4 r4=>?_;exact h a vl vu vs s4 α4 I4 (((S1.trans S2).trans S3).trans S4) (((r1.step0 S2).step0 S3).step0 S4) r2 r3 r4
end
noncomputable def fA{X:Type}(xs:List X)(lo hi:Option Int):List X:=(xs.drop (lo.elim 0 (clipAt xs.length))).take (hi.elim xs.length (clipAt xs.length)-lo.elim 0 (clipAt xs.length))
noncomputable def iJ{X:Type}(xs:List X)(lo hi st:Option Int):List X:=(sliceRange (sliceBounds lo hi st xs.length).1 (sliceBounds lo hi st xs.length).2.1 (sliceBounds lo hi st xs.length).2.2).filterMap (xs[·]?)
noncomputable def oJ(x:Str)(lo hi:Option Int):Str:=if ((Jo lo hi 1 x.length).length==x.length)=true then x else ⟨((Jo lo hi 1 x.length).filterMap (x.cps[·]?)).toArray⟩
theorem ry(r:aw h M vs xs):∀is:List Nat,aw h M (is.filterMap (vs[·]?)) (is.filterMap (xs[·]?))
 | []=>by simpa using aw.nil h M
 |i::is=>by
  have ih:=ry r is;cases e:xs[i]? with
  |some d=>
   refine au (r.get e) λv e' rv=>?_;rw [M4 e',M4 e];exact .cons rv ih
  |none=>
   have e':vs[i]? =none:=by
    rw [G_] at e⊢
    rw [r.length];exact e
   rw [Qn e',Qn e];exact ih
def cc(f:EF)(p q:PF):EF:= λρ μ=>bp (f ρ μ) λV μ1=>bp (p ρ μ1) λlo μ2=>bp (q ρ μ2) λhi μ3=>oe (mz V) (some ()) (λx zz=>if x.length≤sizeLine∧(oJ x lo hi).length≤sizeLine then some (.d (.str (oJ x lo hi)),μ3) else none)
 (oe (Iw V) lo (λxs k=>if hi=none∧1≤k∧k≤xs.length∧xs.length≤sizeLine then some (.d (.tuple (xs.drop k.toNat)),μ3) else none)
  (bo (da μ3 V) λxs=>if xs.length≤sizeLine then some (.d (.list (fA xs lo hi)),μ3) else none))
def vB(f:EF)(p q r:PF):EF:= λρ μ=>bp (f ρ μ) λV μ1=>bp (p ρ μ1) λlo μ2=>bp (q ρ μ2) λhi μ3=>bp (r ρ μ3) λso μ4=>bo so λst=>bo (da μ4 V) λxs=>if xs.length≤sizeLine∧st≠0 then some (.d (.list (iJ xs lo hi (some st))),μ4) else none
theorem pA(items:Array Value)(lo hi:Option Int):(slicePick items lo hi none).toList=fA items.toList lo hi:=by
 rw [slicePick_plain];simp [fA]
theorem xk(r:aw h M vs xs)(lo hi:Option Int):aw h M (fA vs lo hi) (fA xs lo hi):=by
 unfold fA;rw [r.length];exact (r.drop _).take _
section
variable {p q r:PF}
theorem OK{x:Expr}{st:Option Expr}(hf:ab C n cx x f)(hp:lj C n cx lo p)(hq:lj C n cx hi q)(hr:lj C n cx st r)
  (hs:∀o i,subscripted (.Slice lo hi st sp) false o i=operate [o,i] (getItem o i)):ab C n cx (.Subscript x (.Slice lo hi st sp) pos) (vB f p q r):=by
 refine .of ?_;intro A env O T ρ α μ s E V μ' R I F h;refine aD h λV1 μ1 e1 h=>aD h λkl μ2 e2 h=>aD h λkh μ3 e3 h=>aD h λso μ4 e4 h=>ax h λks es h=>ax h λxs e5 h=>i6 h λhz h=>?_;refine cg h ?_;rw [es] at e4
 refine Tb (va hf hp hq hr R I F e1 e2 e3 e4 λa vl vu vs s4 α4 I4 S4 ra pl pu ps=>?_);refine bq (ra.isList I4 e5) λl items zq2 zp3 rr=>?_;refine bH (ES zq2) ?_;refine bP zp3 λn1 hl=>?_;have hsz:items.size=xs.length:=by rw [←rr.length];simp
 have I5:=I4.keeps (tk:=s4.toks) (bb s4.heap {cls:=.type "slice",data:=.fields #[vl,vu,vs]});have S5:=aU.keeps (α:=α4) (μ:=μ4) (s:=s4) (tk:=s4.toks) (bb s4.heap {cls:=.type "slice",data:=.fields #[vl,vu,vs]});have hl':(s4.heap.push {cls:=.type "slice",data:=.fields #[vl,vu,vs]}).PlainList l items:=⟨n1,bb _ _ _ _ hl⟩;refine RW (s:= {s4 with heap:=s4.heap.push {cls:=.type "slice",data:=.fields #[vl,vu,vs]}}) hl'.isList.typeIs Ql.lookup (Qo hl'.isList (PO ..) pl pu ps (by intro q;cases q;exact hz.2 rfl) ?_ (by lia)) (hs _ _);refine bI.trans (S4.trans S5) (bI.newList (tk:=s4.toks) I5 ?_)
 have:=ry (rr.keeps (bb s4.heap {cls:=.type "slice",data:=.fields #[vl,vu,vs]})) (sliceRange (sliceBounds kl kh (some ks) xs.length).1 (sliceBounds kl kh (some ks) xs.length).2.1 (sliceBounds kl kh (some ks) xs.length).2.2)
 unfold slicePick iJ;rw [hsz]
 simpa using this
end
theorem l9{t sl:Addr}{a:Nat}
 (ht:IsTup s.heap t items) (hs:s.heap.IsSliceOf sl (.int a u) .none .none) (h1:1≤a) (ha:a≤items.size)
 (h:Q (.ref s.heap.objs.size) {s with heap:=s.heap.push {cls:=.type "tuple",data:=.seq (items.toList.drop a).toArray}}) (hsz:items.size≤sizeLine):
 wpAny (model prog w) A (getItem (.ref t) (.ref sl)) Q E s:=getItem_tuple_from ht hs h1 ha h hsz
section
variable {p q r:PF}
theorem dJ{x:Expr}(hf:ab C n cx x f)(hp:lj C n cx lo p)(hq:lj C n cx hi q):ab C n cx (.Subscript x (.Slice lo hi none sp) pos) (cc f p q):=by
 refine .of ?_;intro A env O T ρ α μ s E V μ' R I F h;have hs:∀o i,subscripted (.Slice lo hi none sp) false o i=operate [i,o] (getItem o i):= λo i=>rfl;refine aD h λV1 μ1 e1 h=>aD h λkl μ2 e2 h=>aD h λkh μ3 e3 h=>?_;refine Tb (va hf hp hq dC R I F e1 e2 e3 rfl λa vl vu vs s4 α4 I4 S4 ra pl pu ps=>?_);have I5:=I4.keeps (tk:=s4.toks) (bb s4.heap {cls:=.type "slice",data:=.fields #[vl,vu,vs]});have S5:=aU.keeps (α:=α4) (μ:=μ3) (s:=s4) (tk:=s4.toks) (bb s4.heap {cls:=.type "slice",data:=.fields #[vl,vu,vs]});cases ps;refine bU h (λx zz ex zz h=>i6 h λhz h=>?_) λh=>bU h (λxs k ex ek h=>i6 h λhz h=>?_) λh=>ax h λxs e5 h=>i6 h λhz h=>?_
 ·refine cg h ?_
  refine bP (iX ex ra) λt zq1=>?_;subst zq1;have hlk:typeLookup (.type "str") "__getitem__"=pure (some (.builtin "str.__getitem__")):=PySem.F.slot_str_getitem.lookup;have part:∀ {v:Value} {k:Option Int},IsPart v k→∃l:Option (Int×Tok),v=partValue l∧l.map (·.1)=k:=by
   intro v k pk;cases pk with
   |none=>exact (aZ none rfl rfl)
   |int i t=>exact (aZ (some (i,t)) rfl rfl)
  refine au (part pl) λl zq1 hl=>?_;subst zq1;refine au (part pu) λu zq1 hu=>?_;subst zq1;refine RW (s:= {s4 with heap:=s4.heap.push {cls:=.type "slice",data:=.fields #[partValue l,partValue u,.none]}}) (T:="str") (typeIs_str _ x t) hlk (wpAny_getItem_str_slice (l:=l) (u:=u) (st:=none) (cJ _ (Dm _ rfl) rfl rfl) rfl ?_) (hs _ _);unfold sliceMade;have e9:slicePicked x l u none=Jo kl kh 1 x.length:=by unfold slicePicked;rw [hl,hu];rfl
  rw [e9];unfold oJ at hz⊢
  by_cases hc:((Jo kl kh 1 x.length).length==x.length)=true
  ·rw [if_pos (by simpa using hc)]
   refine bI.trans (S4.trans S5) (bI.same I5 ?_);rw [if_pos hc];exact aJ.str ..
  ·rw [if_neg (by simpa using hc)]
   refine ⟨?_,bI.trans (S4.trans S5) (bI.tok I5 ?_)⟩
   ·have:=hz.2
    rwa [if_neg hc] at this
   ·rw [if_neg hc]
    exact aJ.str ..
 ·refine cg h ?_
  refine fY hz λhh hz=>?_;subst hh;subst ek;refine bq (GB ex ra) λa' items zq2 ht rr=>?_;subst zq2;have hsz:items.size=xs.length:=by rw [←rr.length];simp
  cases pl with
  |int _ u=>
  cases pu;obtain ⟨m,rfl⟩:∃m:Nat,k=m:=⟨k.toNat,by lia⟩;have hk:=bb s4.heap {cls:=.type "slice",data:=.fields #[.int m u,.none,.none]};have ht':(s4.heap.push {cls:=.type "slice",data:=.fields #[.int m u,.none,.none]}).IsTuple a' items:=by refine au ht λo ho q=>?_;exact (aZ o (hk _ _ ho) q)
  refine RW (s:= {s4 with heap:=s4.heap.push {cls:=.type "slice",data:=.fields #[.int m u,.none,.none]}}) (o:=.ref a') (T:="tuple") (by refine cn ht' λo ho hc zz=>?_;exact (aZ o ho hc)) SP.lookup (l9 ht' (PO ..) (by lia) (by lia) ?_ (by lia)) (hs _ _);refine bI.trans (S4.trans S5) (bI.of_keeps (tk:=s4.toks) I5 (bb _ _) ?_);refine aJ.tuple (Dm _ rfl) rfl rfl (aw.keeps ?_ (bb _ _)) (eF I5 (io _))
  simpa using (rr.keeps hk).drop m
 ·refine cg h ?_
  refine bq (ra.isList I4 e5) λl items zq2 zp3 rr=>?_;subst zq2;refine bP zp3 λn1 hl=>?_;have hsz:items.size=xs.length:=by rw [←rr.length];simp
  have hl':(s4.heap.push {cls:=.type "slice",data:=.fields #[vl,vu,.none]}).PlainList l items:=⟨n1,bb _ _ _ _ hl⟩;refine RW (s:= {s4 with heap:=s4.heap.push {cls:=.type "slice",data:=.fields #[vl,vu,.none]}}) hl'.isList.typeIs Ql.lookup (Qo hl'.isList (PO ..) pl pu .none (by intro q;exact ct q) ?_ (by lia)) (hs _ _);refine bI.trans (S4.trans S5) (bI.newList (tk:=s4.toks) I5 ?_);rw [pA];exact xk (rr.keeps (bb s4.heap {cls:=.type "slice",data:=.fields #[vl,vu,.none]})) _ _
end
noncomputable abbrev a_:=List AV→List ah→Option (AV×List ah)
def af(fs:List EF)(spec:a_):EF:= λρ μ=>bp (eX fs ρ μ) λVs μ1=>spec Vs μ1
def eI(C:gK)(n:Nat)(f:Value)(spec:a_):Prop:=∀A T α μ s E vs Vs V μ',cP A n→bl C T α μ s→eZ s.heap α (T++ai α μ) vs Vs→spec Vs μ=some (V,μ')→
 wpAny (model C.prog C.w) A (call f vs) (bI C T α μ s μ' V) E s
def kO(f:Value):Prop:=∀ (M:Model) (A:Around) (E:Value→Shared→Prop) (s:Shared) (pos:Pos) (first:List Value) (args:List (Bool×Sem Value)) (Q:Value→Shared→Prop),args.any (·.1)=false→
 wpAny M A (evalArgs f true args []) (λa s₁=>wpAny M A (call f (first++a.pos) a.kw) Q E s₁) E s→wpAny M A (callWith pos f first args []) Q E s
theorem bf(id:String):kO (.builtin id):= λzz zz zz zz zz zz zz zz hp h=>OM hp h
theorem bD(T:String):kO (.type T):= λzz zz zz zz zz zz zz zz hp h=>PyProof.Rows.callWith_type hp h
section
variable {spec:a_}
theorem ee{Q:Args→Shared→Prop}
  (hs:starEach (e::es) env=(false,eval e env)::starEach es env) (ha:dc C n cx (e::es) fs) (R:cP A n) (I:bl C T α μ s) (F:bh C cx env O ρ s.heap α (T++ai α μ)) (h:eX fs ρ μ=some (Vs,μ1))
  (k:∀vs s1 α1,bl C T α1 μ1 s1→aU [] α μ s α1 μ1 s1→eZ s1.heap α1 (T++ai α1 μ1) vs Vs→Q ⟨vs,[]⟩ s1):
  wpAny (model C.prog C.w) A (evalArgs fv true (backTo pos (starEach (e::es) env)) []) Q E s:=by
 have z:=ha.run A env O T ρ α μ s E Vs μ1 pos R I F h;rw [hs] at z⊢
 refine Se (D2 z (λvs s1 p=>?_) λzz zz x=>x);refine cn p λα1 I1 S1 r1=>?_;exact k vs s1 α1 I1 S1 r1
theorem MC{fd:FuncData}(hg:C.mg x=some (.ref fa))(ho:C.B.get? fa=some o)(hd:o.data=.func fd)(hf:eI C n (.ref fa) spec)
  (ha:dc C n cx (e::es) fs) (hs:∀env,starEach (e::es) env=(false,eval e env)::starEach es env)
  (hl:cx.scope.names.lookup x=some .globalImplicit) (hk:cx.scope.kind=.function) (hdb:(x==("__debug__":Str))=false):
  ab C n cx (.Call (.Name x xp) (e::es) [] pos) (af fs spec):=by
 refine .of ?_;intro A env O T ρ α μ s E V μ' R I F h;refine aD h λVs μ1 e1 h=>?_;refine (?_:wpAny _ A (do callWith pos (←eval (.Name x xp) env) [] (backTo pos (starEach (e::es) env)) []) _ _ s);refine yt (E_ (by rw [F.sc];exact hk) (by unfold J3;rw [F.sc];exact hl) (L5 (by rw [F.gl];exact C.g.keeps I.keep) hg ?_) hdb);refine MP (o:=o) (fd:=fd) (ee (hs env) ha R I F e1 λvs s1 α1 I1 S1 r1=>⟨⟨I1.keep _ _ ho,hd⟩,?_⟩);exact D2 (hf A T α1 μ1 s1 E vs Vs V μ' R I1 r1 h) (λv s2 p=>bI.trans S1 p) λzz zz x=>x
theorem Vi(hg:C.mg x=none)(hb:bootBuiltins x=some fv)(hx:x≠"__name__")(hn:kO fv)(hf:eI C n fv spec)
  (ha:dc C n cx (e::es) fs) (hs:∀env,starEach (e::es) env=(false,eval e env)::starEach es env) (hp:∀env,(backTo pos (starEach (e::es) env)).any (·.1)=false)
  (hl:cx.scope.names.lookup x=some .globalImplicit) (hk:cx.scope.kind=.function) (hdb:(x==("__debug__":Str))=false):
  ab C n cx (.Call (.Name x xp) (e::es) [] pos) (af fs spec):=by
 refine .of ?_;intro A env O T ρ α μ s E V μ' R I F h;refine aD h λVs μ1 e1 h=>?_;refine (?_:wpAny _ A (do callWith pos (←eval (.Name x xp) env) [] (backTo pos (starEach (e::es) env)) []) _ _ s);refine yt (E_ (by rw [F.sc];exact hk) (by unfold J3;rw [F.sc];exact hl) (Ld (by rw [F.gl];exact C.g.keeps I.keep) hg (by rw [F.bn];exact C.b.keeps I.keep) ((C.bt x hx).trans hb) ?_) hdb);refine hn _ _ _ _ _ _ _ _ (hp env) (ee (hs env) ha R I F e1 λvs s1 α1 I1 S1 r1=>?_);exact D2 (hf A T α1 μ1 s1 E vs Vs V μ' R I1 r1 h) (λv s2 p=>bI.trans S1 p) λzz zz x=>x
end
noncomputable def dz:a_:= λVs μ=>bo (l1 Vs) λV=>oe (mz V) (some ()) (λx zz=>if x.length≤sizeLine then some (.d (.int x.length),μ) else none)
 (bo (tT μ V) λxs=>if xs.length≤sizeLine then some (.d (.int xs.length),μ) else none)
theorem Ss(e:l1 Vs=some V)(r:eZ h α M vs Vs):∃v,vs=[v]∧bm h α M v V:=by
 rw [Vg e] at r
 cases vs with
 |nil=>exact r.elim
 |cons v vs=>
  cases vs with
  |nil=>exact aZ v rfl r.1
  |cons w vs=>exact r.2.elim
theorem vr2{W:AV}(e:l2 Vs=some (V,W))(r:eZ h α M vs Vs):∃v w,vs=[v,w]∧bm h α M v V∧bm h α M w W:=by
 rw [yy e] at r
 cases vs with
 |nil=>exact r.elim
 |cons v vs=>
  refine au (Ss rfl r.2) λw e2 q=>?_;refine bH (ES e2) ?_;exact dw v w rfl r.1 q
theorem eR:eI C n (.builtin "len") dz:=by
 intro A T α μ s E vs Vs V μ' R I r h;refine ax h λV1 e1 h=>?_;refine au (Ss e1 r) λv zq1 r=>?_;refine bH (ES zq1) ?_;refine bU h (λx zz ex zz h=>i6 h λhz h=>?_) λh=>ax h λxs e h=>i6 h λhz h=>?_
 ·refine cg h ?_
  refine bP (iX ex r) λt zq1=>?_;refine bH (ES zq1) ?_;exact PyProof.Rows.len_str (by unfold sizeLine at hz;lia) (bI.tok I (aJ.int ..))
 ·refine cg h ?_
  unfold sizeLine at hz
  refine bU e (λx zz ex zz q=>?_) λe=>?_
  ·have q':=Fd q
   subst q';refine bq (GB ex r) λa items zq2 ht rr=>?_;refine bH (ES zq2) ?_;have hsz:items.size=x.length:=by rw [←rr.length];simp
   refine PyProof.Rows.len_tuple ht (by lia) ?_;rw [hsz];exact bI.tok I (aJ.int ..)
  ·refine bq (r.isList I e) λa items zq2 hl rr=>?_
   refine bH (ES zq2) ?_;have hsz:items.size=xs.length:=by rw [←rr.length];simp
   refine call_len_list hl.isList (by lia) ?_;rw [hsz];exact bI.tok I (aJ.int ..)
variable {spec : a_}
theorem lh:∀ {α:List Addr} {μ:List ah} {i:Nat} {c c₀:ah},μ[i]? =some c₀→c.isMut=c₀.isMut→ai α (μ.set i c)=ai α μ
 | [],_,_,_,_,_,_=>by simp [ai]
 |_::_,[],_,_,_,h,_=>by simp at h
 |b::α,c₁::μ,0,c,c₀,h,q=>by
  simp at h;subst h
  simp [ai,q]
 |b::α,c₁::μ,i+1,c,c₀,h,q=>by
  simp only [PM,ai];rw [lh (by simpa using h) q]
theorem CR(hn:α.Nodup)(h1:α[i]? =some a)(h2:α[j]? =some a):i=j:=by
 refine bP (BJ.mp h1) λp e1=>?_;refine bP (BJ.mp h2) λq e2=>?_
 rcases Qp i j with h|h|h
 ·exact absurd (e1.trans e2.symm) (M0.mp hn i j p q h)
 ·exact h
 ·exact absurd (e2.trans e1.symm) (M0.mp hn j i q p h)
theorem bl.setCell{c₀:ah}(I:bl C T α μ s)(ha:α[i]? =some a)(hc:μ[i]? =some c₀)(hm:c₀.isMut=true)(hm':c.isMut=true)
  (hs:∀b o,b≠a→s.heap.get? b=some o→h'.get? b=some o) (hd:∃o,h'.get? a=some o) (hcell:(∀ {v:List Value} {ds:List PyData},aw s.heap (T++ai α μ) v ds→aw h' (T++ai α μ) v ds)→dX h' (T++ai α μ) a c):
  bl C T α (μ.set i c) {s with heap:=h',toks:=tk}∧aU [] α μ s α (μ.set i c) {s with heap:=h',toks:=tk}:=by
 have hme:ai α (μ.set i c)=ai α μ:=lh hc (by rw [hm,hm']);have ham:a∈ai α μ:=pI ha hc hm;have X:fZ ([]++ai α μ) s.heap h':= λb o e ht=>by
  by_cases q:b=a
  ·subst q;exact (ht (by simpa using ham)).elim
  ·exact hs b o q e
 have St:aU [] α μ s α (μ.set i c) {s with heap:=h',toks:=tk}:=by
  refine ⟨(aZ ([]) (by simp) (by simp)),X,λb hb=>.inl (hme▸hb),λb o e=>?_,λzz zz e=>e⟩
  by_cases q:b=a
  ·subst q;exact hd
  ·exact ⟨o,hs b o q e⟩
 refine ⟨⟨λb o e=>hs b o (λq=>?_) (I.keep b o e),by rw [Lq];exact I.len,λj b c' h1 h2=>?_,I.nodup,I.apart,λb hb=>?_,I.tnew,I.new,I.gens,I.os⟩,St⟩
 ·have:=I.new a (FV ha)
  rw [q,this] at e;exact ct e
 ·rw [hme]
  rcases Bi h2 with ⟨rfl,rfl⟩| ⟨hne,h2⟩
  ·rw [ha] at h1;refine cA h1 ?_
   refine hcell λ{v ds} r=>?_
   have:=aw.step0 (T:=T) r St
   rwa [hme] at this
  ·have hba:b≠a:= λq=>hne (CR I.nodup h1 (q▸ha))
   have z:=I.cells j b c' h1 h2;have kd:∀ {v:Value} {d:PyData},aJ s.heap (T++ai α μ) v d→aJ h' (T++ai α μ) v d:= λ{v d} r=>by
    have:=aJ.step0 (T:=T) r St
    rwa [hme] at this
   have kds:∀ {v:List Value} {d:List PyData},aw s.heap (T++ai α μ) v d→aw h' (T++ai α μ) v d:= λ{v d} r=>by
    have:=aw.step0 (T:=T) r St
    rwa [hme] at this
   cases c' with
   |live xs=>
    refine eC λGG kG=>?_;refine au z λitems zp1 r=>?_;obtain ⟨n,e'⟩:=zp1;refine kG ?_;exact (aZ items ⟨n,hs _ _ hba e'⟩ (kds r))
   |frozen xs=>exact kd z
   |iter xs=>
    rcases z with ⟨l,k,items,⟨o',e',q⟩,⟨n2,e2⟩,hl,hk,r⟩| ⟨rfl,o',k,e',q⟩
    ·exact .inl (h_ l k items ⟨o',hs _ _ hba e',q⟩ ⟨n2,hs _ _ (λz=>hl (z▸CE _ ham)) e2⟩ hl hk (kds r))
    ·exact .inr (Vq rfl o' k (hs _ _ hba e') q)
 ·by_cases q:b=a
  ·subst q;exact hd
  ·exact (I.tdom b hb).imp λo e=>hs b o q e
theorem jS{M:Model}{l:Addr}{id:String}{pl:Sem Bool}{Q:Value×List Value→Shared→Prop}(ho:s.heap.PlainList l items)
  (hl:typeLookup (.type "list") name=pure (some (.builtin id))) (ht:typeOf (.builtin id)=pure (.type "method_descriptor")) (h:Q (.builtin id,[.ref l]) s):wpAny M A (getMethod (.ref l) name pl) Q E s:=by
 refine bP ho λn ho=>?_;have hT:s.TypeIs (.ref l) "list":=(aZ _ ho rfl);unfold getMethod;refine yt (Lr hT list_getattribute ?_);refine (?_:wpAny M A (if (Manifest.canonical "list.__getattribute__" != "object.__getattribute__")=true then _ else _) Q E s);rw [canon_list_getattribute,if_neg HA];refine yt (Lr hT list_getattr_none ?_);refine yt (Lr hT hl ?_);refine yt (Mb ht ?_);refine yt (wpAny_load ho ?_);exact yt (O8 (Et h))
abbrev oh(o:Expr)(name:Str)(apos:Pos)(args:List Expr)(pos:Pos):Prop:=∀env,eval (.Call (.Attribute o name apos) args [] pos) env=(do
 let ov←eval o env
 standAt apos.atName
 let (f,first)←holding [ov] (getMethod ov name (do return (←importBound o env).getD true))
 callWith pos f first (backTo pos (starEach args env)) [])
noncomputable def Bp:ah→Option (List PyData)
 | .live xs=>some xs
 |_=>none
theorem Mf(h:Bp c=some xs):c=.live xs:=by cases c<;>first|exact ct h| (cases h;rfl)
theorem IE(e:μ[i]? =some c)(h:Bp c=some xs):μ[i]? =some (.live xs):=e.trans (congrArg some (Mf h))
def d_(f g:EF):EF:= λρ μ=>bp (f ρ μ) λV0 μ1=>bo (Ff V0) λi=>bo (da μ1 (.c i)) λzz=>bp (g ρ μ1) λV μ2=>bp (w5 V μ2) λd μ3=>bo (μ3[i]?) λc=>bo (Bp c) λxs=>if xs.length≤sizeLine then some (.d .none,μ3.set i (.live (xs++[d]))) else none
section
theorem cv{o:Expr}(hm:oh o "append" apos [e] pos)(hf:ab C n cx o f)(hg:ab C n cx e g)(hs:∀env,starEach [e] env=[(false,eval e env)]):
  ab C n cx (.Call (.Attribute o "append" apos) [e] [] pos) (d_ f g):=by
 refine .of ?_;intro A env O T ρ α μ s E V μ' R I F h;refine aD h λV0 μ1 e1 h=>ax h λi ei h=>ax h λxs0 e0 h=>aD h λV2 μ2 e2 h=>aD h λd μ3 e3 h=>ax h λc ec h=>ax h λxs el h=>i6 h λhz h=>?_;rw [BH ei] at e1
 have e4:=IE ec el;refine cg h ?_;refine QM (D2 (hf.run A env O T ρ α μ s E _ _ R I F e1) (λv s1 p=>?_) λzz zz x=>x) (hm env);refine eC λGG kG=>?_;refine cn p λα1 I1 S1 r1=>?_;refine au r1 λa ha zq2=>?_;subst zq2;refine bq (bm.isList (V:=.c i) I1 (aZ a ha rfl) e0) λzz its1 e9 hp1 zz=>?_;cases e9;refine kG ?_;refine jS hp1 slot_list_append.lookup type_list_append ?_;have es1:dc C n cx [e] [g]:=dA (by intro env;exact hs env) hg ae;refine OM (by rw [hs env];rfl) (ee (fs:=[g]) (hs env) es1 R I1 (F.step I S1) (zE e2) λvs s2 α2 I2 S2 r2=>?_);refine au (Ss rfl r2) λv zq r2=>?_;refine bH (ES zq) ?_;refine eC λGG kG=>?_;refine dU (tb I2 r2 e3) λI3 S3 r3=>?_;refine au S2.pre λδ hδ zz=>?_;have ha2:α2[i]? =some a:=by rw [hδ,EY (BJ.mp ha).1];exact ha
 refine au (I3.cells i a _ ha2 e4) λitems hp rr=>?_;refine kG ?_;have hsz:items.size=xs.length:=by rw [←rr.length];simp
 refine QN hp (λh' hl' hs'=>?_) (by lia);obtain ⟨I4,S4⟩:=I3.setCell (c:=.live (xs++[d])) (h':=h') (tk:=s2.toks) ha2 e4 rfl rfl (λb o q e=>(hs'.2 b q).trans e) (by refine bP hl' λk e=>?_;exact ⟨_,e⟩) λkd=>(aZ _ hl' (by
  rw [Tj];exact kd (rr.append (.cons r3 (aw.nil _ _)))))
 exact bI.trans (S1.trans (S2.trans S3)) (cJ α2 I4 S4 (aJ.none _ _))
def rK(f g:EF):EF:= λρ μ=>bp (f ρ μ) λV0 μ1=>bo (Ff V0) λi=>bo (da μ1 (.c i)) λzz=>bp (g ρ μ1) λV μ2=>bo (Zh V) λys=>bo (μ2[i]?) λc=>bo (Bp c) λxs=>if xs.length+ys.length≤sizeLine then some (.d .none,μ2.set i (.live (xs++ys))) else none
theorem kz{o:Expr}(hm:oh o "extend" apos [e] pos)(hf:ab C n cx o f)(hg:ab C n cx e g)(hs:∀env,starEach [e] env=[(false,eval e env)]):
  ab C n cx (.Call (.Attribute o "extend" apos) [e] [] pos) (rK f g):=by
 refine .of ?_;intro A env O T ρ α μ s E V μ' R I F h;refine aD h λV0 μ1 e1 h=>ax h λi ei h=>ax h λxs0 e0 h=>aD h λV2 μ2 e2 h=>ax h λys ey h=>ax h λc ec h=>ax h λxs el h=>i6 h λhz h=>?_;rw [BH ei] at e1
 have e4:=IE ec el;refine cg h ?_;refine QM (D2 (hf.run A env O T ρ α μ s E _ _ R I F e1) (λv s1 p=>?_) λzz zz x=>x) (hm env);refine eC λGG kG=>?_;refine cn p λα1 I1 S1 r1=>?_;refine au r1 λa ha zq2=>?_;subst zq2;refine bq (bm.isList (V:=.c i) I1 (aZ a ha rfl) e0) λzz its1 e9 hp1 zz=>?_;cases e9;refine kG ?_;refine jS hp1 Qq.lookup PySem.F.type_list_extend ?_;have es1:dc C n cx [e] [g]:=dA (by intro env;exact hs env) hg ae;refine OM (by rw [hs env];rfl) (ee (fs:=[g]) (hs env) es1 R I1 (F.step I S1) (zE e2) λvs s2 α2 I2 S2 r2=>?_);refine au (Ss rfl r2) λv zq r2=>?_;refine bH (ES zq) ?_;refine eC λGG kG=>?_;refine kA (aJ.of_list (O4 ey r2)) λb its2 zq2 zp3 rr2 hbM=>?_;subst zq2;obtain ⟨n2,hb⟩:=zp3;refine au S2.pre λδ hδ zz=>?_;have ha2:α2[i]? =some a:=by rw [hδ,EY (BJ.mp ha).1];exact ha
 refine au (I2.cells i a _ ha2 e4) λitems zp1 rr=>?_;obtain ⟨n1,hp⟩:=zp1;refine kG ?_;have hsz:items.size=xs.length:=by rw [←rr.length];simp
 have hsz2:its2.size=ys.length:=by rw [←rr2.length];simp
 refine UK Qq (aZ _ hp rfl) PySem.F.entry_list_extend (PySem.F.args_list_extend_2 _ _) (PySem.AutoSeq1.list_extend_list_list_0 a items n1 b its2 n2 ?_ (by lia) (by lia)) (fu hp hb ?_)
 ·simp only [Qi]
  simp
  intro _;lia
 ·have hnew:(s2.heap.update a (M5 λx=>x++its2)).PlainList a (items++its2):=by
   rw [Heap.PlainList,Fk _ hp rfl];exact ⟨_,rfl⟩
  obtain ⟨I4,S4⟩:=I2.setCell (c:=.live (xs++ys)) (h':=s2.heap.update a (M5 λx=>x++its2)) (tk:=s2.toks) ha2 e4 rfl rfl (λb o q e=>((KW ..).2 b q).trans e) (by refine bP hnew λk e=>?_;exact ⟨_,e⟩) λkd=>(aZ _ hnew (by
   rw [Po];exact kd (rr.append rr2)))
  exact bI.trans (S1.trans S2) (cJ α2 I4 S4 (aJ.none _ _))
end
noncomputable def qT:List PyData→Option (List Int)
 | []=>some []
 |x::r=>bo (dI x) λi=>bo (qT r) λl=>some (i::l)
noncomputable def n9:List PyData→Option (List Str)
 | []=>some []
 |x::r=>bo (dS x) λi=>bo (n9 r) λl=>some (i::l)
theorem uM:∀ {vs:List Value} {xs:List PyData} {ns:List Int},aw h M vs xs→qT xs=some ns→IntsAre vs ns
 | [],[],ns,_,e=>by refine cA e ?_;exact .nil
 | [],_::_,_,r,_=>by have:=r.length;simp at this
 |_::_,[],_,r,_=>by have:=r.length;simp at this
 |v::vs,x::xs,ns,r,e=>by
  refine ax e λi ei e=>ax e λl e2 e=>?_;refine cA e ?_;refine fY r.uncons λr1 r2=>?_;rw [Ud ei] at r1
  refine bP (aJ.of_int r1) λt e3=>?_;refine bH (ES e3) ?_;exact .cons _ _ (uM r2 e2)
theorem Bt:∀ {vs:List Value} {xs:List PyData} {ns:List Str},aw h M vs xs→n9 xs=some ns→StrsAre vs ns
 | [],[],ns,_,e=>by refine cA e ?_;exact .nil
 | [],_::_,_,r,_=>by have:=r.length;simp at this
 |_::_,[],_,r,_=>by have:=r.length;simp at this
 |v::vs,x::xs,ns,r,e=>by
  refine ax e λi ei e=>ax e λl e2 e=>?_;refine cA e ?_;refine fY r.uncons λr1 r2=>?_;rw [XZ ei] at r1
  refine bP (aJ.of_str r1) λt e3=>?_;refine bH (ES e3) ?_;exact .cons _ _ (Bt r2 e2)
theorem z7(r:IntsAre vs ns):aw h M vs (ns.map .int):=by
 induction r with
 |nil=>exact aw.nil h M
 |cons i t r ih=>exact .cons (aJ.int ..) ih
theorem FZ(r:eZ h α M vs [V]):∃v,vs=[v]∧bm h α M v V:=Ss rfl r
theorem VY{W:AV}(r:eZ h α M vs [V,W]):∃v w,vs=[v,w]∧bm h α M v V∧bm h α M w W:=vr2 rfl r
noncomputable def fc:a_:= λVs μ=>bp (l2 Vs) λU V=>bo (mz U) λx=>bo (da μ V) λxs=>bo (n9 xs) λys=>if (ys.map (·.length)).sum+ys.length*x.length≤16777216 then some (.d (.str (Lm x ys)),μ) else none
theorem gU:eI C n (.builtin "str.join") fc:=by
 intro A T α μ s E vs Vs V μ' R I r h;refine aD h λU V1 eU h=>ax h λx ex h=>ax h λxs e1 h=>ax h λys e2 h=>i6 h λhz h=>?_;refine cg h ?_;refine bq (vr2 eU r) λv w zq2 r1 r2=>?_;refine bH (ES zq2) ?_;refine bP (iX ex r1) λt zq1=>?_;refine bH (ES zq1) ?_;refine bq (r2.isList I e1) λa items zq2 hl rr=>?_;refine bH (ES zq2) ?_;exact PyProof.Rows.join_list hl.isList (Bt rr e2) hz λt' k=>bI.tok I (aJ.str ..)
noncomputable def oM:a_:= λVs μ=>bo (l1 Vs) λV=>bo (jJ V) λi=>if (Sf "0x" 16 i).length≤sizeLine then some (.d (.str (Sf "0x" 16 i)),μ) else none
theorem tO:eI C n (.builtin "hex") oM:=by
 intro A T α μ s E vs Vs V μ' R I r h;refine ax h λV1 e1 h=>ax h λi ei h=>i6 h λhz h=>?_;refine cg h ?_;refine au (Ss e1 r) λv zq1 r1=>?_;refine bH (ES zq1) ?_;refine bP (fK ei r1) λt zq1=>?_;refine bH (ES zq1) ?_;exact PySem.P.hex_of_int (bI.tok I (aJ.str ..)) hz
noncomputable def gx:a_:= λVs μ=>bp (l2 Vs) λV W=>bo (T5 W) λT=>oe (jJ V) (some ()) (λzz zz=>if T="int" then some (.d (.bool true),μ) else if T="bool" then some (.d (.bool false),μ) else none)
 (oe (Pg V) (some ()) (λzz zz=>if T="int" then some (.d (.bool true),μ) else if T="bool" then some (.d (.bool true),μ) else none) none)
theorem sE:eI C n (.builtin "isinstance") gx:=by
 intro A T α μ s E vs Vs V μ' R I r h;refine aD h λV1 W eV h=>ax h λT' eT h=>?_;refine bq (vr2 eV r) λv w zq2 r1 r2=>?_;refine bH (ES zq2) ?_;refine bH (ES (Zc eT r2)) ?_;refine bU h (λi zz ei zz h=>?_) λh=>bU h (λi zz ei zz h=>?_) λh=>ct h
 ·refine bP (fK ei r1) λt zq1=>?_
  refine bH (ES zq1) ?_;refine ifB h (λe h=>?_) λzz h=>i6 h λe h=>?_
  ·refine cg h ?_;refine bH (ES e) ?_
   exact PySem.IsiPair.int_int (bI.same I (aJ.bool ..))
  ·refine cg h ?_;refine bH (ES e) ?_
   exact PySem.IsiPair.int_bool (bI.tok I (aJ.bool ..))
 ·refine bH (ES (xj ei r1)) ?_
  refine ifB h (λe h=>?_) λzz h=>i6 h λe h=>?_
  ·refine cg h ?_;refine bH (ES e) ?_
   exact PySem.IsiPair.bool_int (bI.same I (aJ.bool ..))
  ·refine cg h ?_;refine bH (ES e) ?_
   exact PySem.IsiPair.bool_bool (bI.same I (aJ.bool ..))
noncomputable def cF:a_:= λVs μ=>oe (l1 Vs) (some ()) (λV zz=>bo (jJ V) λb=>some (.rng 0 b,μ)) (bp (l2 Vs) λV W=>bo (jJ V) λa=>bo (jJ W) λb=>some (.rng a b,μ))
theorem dO:eI C n (.type "range") cF:=by
 intro A T α μ s E vs Vs V μ' R I r h;refine bU h (λV1 zz eV zz h=>ax h λb eb h=>?_) λh=>aD h λV1 W eV h=>ax h λa ea h=>ax h λb eb h=>?_
 ·refine cg h ?_
  refine au (Ss eV r) λv zq1 r1=>?_;refine bH (ES zq1) ?_;refine bP (fK eb r1) λt zq1=>?_;refine bH (ES zq1) ?_;refine call_range_1 ?_;refine bI.of_keeps I (bb _ _) (pR _ _ _ _ rfl (UZ ..) (eF I (io _)))
 ·refine cg h ?_
  refine bq (vr2 eV r) λv w zq2 r1 r2=>?_;refine bH (ES zq2) ?_;refine bP (fK ea r1) λt zq1=>?_;refine bH (ES zq1) ?_;refine bP (fK eb r2) λu zq1=>?_;refine bH (ES zq1) ?_;refine call_range_2 ?_;refine bI.of_keeps I (bb _ _) (pR _ _ _ _ rfl (UZ ..) (eF I (io _)))
noncomputable def iI:List Int→List Int
 | []=>[]
 |x::r=>ins x (iI r)
where ins (x:Int):List Int→List Int
 | []=>[x]
 |y::r=>if x≤y then x::y::r else y::ins x r
theorem qR(x:Int):∀l,(iI.ins x l).Perm (x::l)
 | []=>.refl _
 |y::r=>by
  unfold iI.ins;split
  ·exact .refl _
  ·exact ((qR x r).cons y).trans (.swap x y r)
theorem rH:∀l,(iI l).Perm l
 | []=>.refl _
 |x::r=>(qR x _).trans ((rH r).cons x)
theorem pL(x:Int):∀l:List Int,l.Pairwise (· ≤ ·)→(iI.ins x l).Pairwise (· ≤ ·)
 | [],_=>by simp [iI.ins]
 |y::r,h=>by
  refine fY (Mz.mp h) λh1 h2=>?_;unfold iI.ins;split
  ·rename_i q
   refine Mz.mpr ⟨λz hz=>?_,h⟩
   rcases Ch.mp hz with rfl|hz
   ·exact q
   ·exact Int.le_trans q (h1 z hz)
  ·rename_i q
   refine Mz.mpr ⟨λz hz=>?_,pL x r h2⟩
   rcases Ch.mp ((qR x r).mem_iff.mp hz) with rfl|hz
   ·lia
   ·exact h1 z hz
theorem mx:∀l,(iI l).Pairwise (· ≤ ·)
 | []=>by simp [iI]
 |x::r=>pL x _ (mx r)
theorem rL{a b:List Int}(h1:a.Pairwise (· ≤ ·))(h2:b.Pairwise (· ≤ ·))(p:a.Perm b):a=b:=by
 induction a generalizing b with
 |nil=>exact (List.nil_perm.mp p).symm
 |cons x r ih=>
  cases b with
  |nil=>exact absurd p.symm (by simp)
  |cons y t=>
   refine fY (Mz.mp h1) λa1 a2=>?_;refine fY (Mz.mp h2) λb1 b2=>?_;have hx:x∈y::t:=p.mem_iff.mp (Fp ..);have hy:y∈x::r:=p.mem_iff.mpr (Fp ..)
   have:x=y:=by
    rcases Ch.mp hx with e|e
    ·exact e
    ·rcases Ch.mp hy with e'|e'
     ·exact e'.symm
     ·exact Int.le_antisymm (a1 y e') (b1 x e)
   subst this;rw [ih a2 b2 (List.perm_cons x |>.mp p)]
noncomputable def l5:a_:= λVs μ=>bo (l1 Vs) λV=>bo (da μ V) λxs=>bo (qT xs) λns=>if xs.length<64 then some (.d (.list ((iI ns).map .int)),μ) else none
theorem DK:eI C n (.builtin "sorted") l5:=by
 intro A T α μ s E vs Vs V μ' R I r h;refine ax h λV1 eV h=>ax h λxs e1 h=>ax h λns e2 h=>i6 h λhz h=>?_;refine cg h ?_;refine au (Ss eV r) λv zq1 r1=>?_;subst zq1;refine bq (r1.isList I e1) λa items zq2 hl rr=>?_;subst zq2;refine PyProof.Rows.sorted_ints (vs:=items.toList) (by simpa using hl.isList) (uM rr e2) (by rw [rr.length];exact hz) λout ns' hi hp hs=>?_;have e9:ns'=iI ns:=rL hs (mx ns) (hp.trans (rH ns).symm);subst e9;refine bP (sortedAll_at s.heap items.toList out) λk hk=>?_;have keep:∀b o,s.heap.get? b=some o→(sortedAll s.heap items.toList out).get? b=some o:= λb o e=>sortedAll_old e;refine bI.of_keeps (tk:=s.toks) I keep (aJ.list (vs:=out) ⟨k,hk⟩ (z7 hi) (eF I ?_));cases e:s.heap.get? (s.heap.objs.size+1) with
 |none=>rfl
 |some o=>exact absurd (Ma e) (Nat.not_lt.mpr (OV _))
end Mine
namespace Mine
open PySem PySem.W PySem.Calls PyProof.Rows
variable {V V' : AV} {Cn D L TI TO a fa i1 i2 i3 z : Addr} {A : Around} {items zs : Array Value} {sh tup : Bool} {c c' : ah} {C : gK} {cx : Cx} {f fi fo g : EF} {cenv env : Env} {mean : ExcName → Option Value} {e e1 e2 elt iter target test : Expr} {h h' : Heap} {y : Int} {Vs : List AV} {M M' O T T' W wr α α' α1 α₀ : List Addr} {Mid : List Addr → List Addr → List Addr → List ah → Nat → Value → Shared → Prop} {μ μ' μ'' μ1 μ2 μ3 μ₀ : List ah} {fs : List EF} {es : List Expr} {K cs ns os rest : List Int} {gi ls m ps : List Nat} {X acc acc' ds xs ys : List PyData} {body orelse : List Stmt} {vs : List Value} {ρ ρ' ρ1 ρ2 : d0} {tf : d0 → PyData → Option d0} {b i j ja jt k kk low mask n p q tk : Nat} {o : Obj} {op : Operator} {ha ke td te tx : Option AV} {hi lo : Option Expr} {gg : Option Nat} {apos pos px py sp tp xp : Pos} {prog : Program} {G : Prop} {d : PyData} {sc scope : Scope} {s s' s'' s1 s₀ : Shared} {spec : a_} {st : Stmt} {name x : Str} {t : TF} {u : Tok} {cd cls doc fv it pm v : Value} {E Q : Value → Shared → Prop} {w : World}
structure aG (wr:List Addr) (gi:List Nat) (s s':Shared):Prop where
 heap:∀b o,b∉wr→s.heap.get? b=some o→s'.heap.get? b=some o
 gens:∀ (i:Nat) (x:GenState),i∉gi→s.gens[i]? =some x→s'.gens[i]? =some x
 os:s'.os=s.os
 bare:AllBare s.gens→AllBare s'.gens
theorem aG.refl(wr:List Addr)(gi:List Nat)(s:Shared):aG wr gi s s:=⟨λzz zz zz e=>e,λzz zz zz e=>e,rfl,λh=>h⟩
theorem aG.trans(x:aG wr gi s s')(y:aG wr gi s' s''):aG wr gi s s'':=
 ⟨λb o hb e=>y.heap b o hb (x.heap b o hb e),λi z hi e=>y.gens i z hi (x.gens i z hi e),y.os.trans x.os,λh=>y.bare (x.bare h)⟩
theorem aG.of_heap(hk:∀b o,b∉wr→s.heap.get? b=some o→h'.get? b=some o):aG wr gi s {s with heap:=h',toks:=tk}:=
 ⟨hk,λzz zz zz e=>e,rfl,λh=>h⟩
theorem aG.ext(x:aG wr gi s s'):fZ wr s.heap s'.heap:= λb o e hb=>x.heap b o (λq=>hb q) e
theorem iN(hw:∀b∈W,b∈T):iF W T h:= λa ha=>.inr (.inr (hw a ha))
theorem nv{N:List Addr}(k:iF W T h):iF W (T++N) h:= λa ha=>(k a ha).imp id (Or.imp id (yo _))
theorem bl.moves'(I:bl C T α μ s)(x:aG wr gi s s')(hw:∀b∈wr,b∈T)(hT:∀a∈T',a∈T)(hd:∀a∈T',∃o,s'.heap.get? a=some o):bl C T' α μ s':=
 I.ext x.ext (λa ha=>I.tnew a (hw a ha)) (iN hw) (λa ha q=>I.apart a (hw a q) ha) hT hd rfl (x.bare I.gens) x.os
theorem bl.moves(I:bl C T α μ s)(x:aG wr gi s s')(hw:∀b∈wr,b∈T)(hd:∀a∈wr,∃o,s'.heap.get? a=some o):bl C T α μ s':=
 I.moves' x hw (λzz h=>h) λa ha=>by
  by_cases q:a∈wr
  ·exact hd a q
  ·refine bP (I.tdom a ha) λo e=>?_
   exact ⟨o,x.heap a o q e⟩
theorem aJ.moves(r:aJ s.heap (T++ai α μ) v d)(x:aG wr gi s s')(hw:∀b∈wr,b∈T):aJ s'.heap (T++ai α μ) v d:=r.ext x.ext (nv (iN hw)) λzz=>.inl
theorem aw.moves{v:List Value}{d:List PyData}(r:aw s.heap (T++ai α μ) v d)(x:aG wr gi s s')(hw:∀b∈wr,b∈T):aw s'.heap (T++ai α μ) v d:=r.ext x.ext (nv (iN hw)) λzz=>.inl
theorem bm.moves(r:bm s.heap α (T++ai α μ) v V)(x:aG wr gi s s')(hw:∀b∈wr,b∈T):bm s'.heap α (T++ai α μ) v V:=r.ext x.ext (nv (iN hw)) (λzz zz=>id) λzz=>.inl
theorem aU.moves(x:aU O α μ s₀ α' μ' s)(y:aG wr gi s s')(hw:∀b∈wr,s₀.heap.get? b=none)(hg:∀i∈gi,s₀.gens[i]? =none):aU O α μ s₀ α' μ' s':=
 ⟨x.pre,λb o e hb=>y.heap b o (λq=>by rw [hw b q] at e;exact ct e) (x.ext b o e hb),x.mts,λa o e=>let ⟨o',e'⟩:=x.dom a o e;⟨o',y.heap a o' (λq=>by rw [hw a q] at e;exact ct e) e'⟩,λi z e=>y.gens i z (λq=>by rw [hg i q] at e;exact ct e) (x.gens i z e)⟩
def cu(g:Option Nat)(xs:List PyData)(μ:List ah):Prop:=∀j,g=some j→da μ (.c j)=some xs
def fk(tup:Bool)(h:Heap)(M:List Addr)(v:Value)(x:PyData):Prop:=match tup with
 |true=>∃a items ds,v=.ref a∧x=.tuple ds∧h.IsTuple a items∧aw h M items.toList ds
 |false=>aJ h M v x
def Hr(tup:Bool)(t:Expr):Prop:=match tup with
 |true=>∃elts k pos,t=.Tuple elts k pos
 |false=>∃x pos,t=.Name x pos
noncomputable abbrev xH:=List Addr→List Addr→List ah→Nat→Shared→Prop
structure lf (C:gK) (it:Value) (wr:List Addr) (gi:List Nat) (xs:List PyData) (g:Option Nat) (tup:Bool) (St:xH) (Mid:List Addr→List Addr→List ah→Nat→Value→Shared→Prop):Prop where
 frame:∀ {O T T' α α':List Addr} {μ μ':List ah} {i:Nat} {s s':Shared},St T α μ i s→aU O α μ s α' μ' s'→iF O T s.heap→(∀a∈O,a∉wr)→(∀a∈T',a∈T∨s.heap.get? a=none)→(∀b∈wr,b∈T)→bl C T α μ s→bl C T' α' μ' s'→cu g xs μ'→St T' α' μ' i s'
 item:∀ {A:Around} {T α:List Addr} {μ:List ah} {i:Nat} {x:PyData} {s:Shared} {Q:Option Value→Shared→Prop} {E:Value→Shared→Prop},cP A 2→bl C T α μ s→(∀b∈wr,b∈T)→St T α μ i s→xs[i]? =some x→
  (∀v s',aG wr gi s s'→bl C T α μ s'→fk tup s'.heap (T++ai α μ) v x→Mid T α μ i v s'→Q (some v) s')→wpAny (model C.prog C.w) A (pyNext it) Q E s
 go:∀ {A:Around} {T α:List Addr} {μ:List ah} {i:Nat} {x:PyData} {v:Value} {t:Expr} {s:Shared} {Q:Unit→Shared→Prop} {E:Value→Shared→Prop},bl C T α μ s→(∀b∈wr,b∈T)→Mid T α μ i v s→Hr tup t→fk tup s.heap (T++ai α μ) v x→
  (∀s',aG wr gi s s'→bl C T α μ s'→fk tup s'.heap (T++ai α μ) v x→St T α μ (i+1) s'→Q () s')→wpAny (model C.prog C.w) A (letOwnedTupleGo t it v) Q E s
 done:∀ {A:Around} {T α:List Addr} {μ:List ah} {i:Nat} {s:Shared} {Q:Option Value→Shared→Prop} {E:Value→Shared→Prop},cP A 2→bl C T α μ s→(∀b∈wr,b∈T)→St T α μ i s→xs[i]? =none→
  (∀s',aG wr gi s s'→(∀T',(∀a∈T',a∈T∧a∉wr)→bl C T' α μ s')→Q none s')→wpAny (model C.prog C.w) A (pyNext it) Q E s
 self:∀ {A:Around} {T α:List Addr} {μ:List ah} {i:Nat} {s:Shared} {Q:Value→Shared→Prop} {E:Value→Shared→Prop},St T α μ i s→Q it s→wpAny (model C.prog C.w) A (pyIter it) Q E s
structure hU (C:gK) (it:Value) (gi:List Nat) (xs:List PyData) (g:Option Nat) (tup:Bool) (St:List Addr→xH) (Mid:List Addr→List Addr→List Addr→List ah→Nat→Value→Shared→Prop):Prop where
 frame:∀ {wr O T T' α α':List Addr} {μ μ':List ah} {i:Nat} {s s':Shared},St wr T α μ i s→aU O α μ s α' μ' s'→iF O T s.heap→(∀a∈O,a∉wr)→(∀a∈T',a∈T∨s.heap.get? a=none)→(∀b∈wr,b∈T)→bl C T α μ s→bl C T' α' μ' s'→cu g xs μ'→St wr T' α' μ' i s'
 item:∀ {A:Around} {wr T α:List Addr} {μ:List ah} {i:Nat} {x:PyData} {s:Shared} {Q:Option Value→Shared→Prop} {E:Value→Shared→Prop},cP A 2→bl C (wr++T) α μ s→St wr (wr++T) α μ i s→xs[i]? =some x→
  (∀v s' wr',aG wr gi s s'→(∀b∈wr',b∈wr∨s.heap.get? b=none)→bl C (wr'++T) α μ s'→fk tup s'.heap ((wr'++T)++ai α μ) v x→Mid wr' (wr'++T) α μ i v s'→Q (some v) s')→wpAny (model C.prog C.w) A (pyNext it) Q E s
 go:∀ {A:Around} {wr T α:List Addr} {μ:List ah} {i:Nat} {x:PyData} {v:Value} {t:Expr} {s:Shared} {Q:Unit→Shared→Prop} {E:Value→Shared→Prop},bl C (wr++T) α μ s→Mid wr (wr++T) α μ i v s→Hr tup t→fk tup s.heap ((wr++T)++ai α μ) v x→
  (∀s',aG wr gi s s'→bl C (wr++T) α μ s'→fk tup s'.heap ((wr++T)++ai α μ) v x→St wr (wr++T) α μ (i+1) s'→Q () s')→wpAny (model C.prog C.w) A (letOwnedTupleGo t it v) Q E s
 done:∀ {A:Around} {wr T α:List Addr} {μ:List ah} {i:Nat} {s:Shared} {Q:Option Value→Shared→Prop} {E:Value→Shared→Prop},cP A 2→bl C (wr++T) α μ s→St wr (wr++T) α μ i s→xs[i]? =none→
  (∀s',aG wr gi s s'→(∀T',(∀a∈T',a∈wr++T∧a∉wr)→bl C T' α μ s')→Q none s')→wpAny (model C.prog C.w) A (pyNext it) Q E s
 self:∀ {A:Around} {wr T α:List Addr} {μ:List ah} {i:Nat} {s:Shared} {Q:Value→Shared→Prop} {E:Value→Shared→Prop},St wr T α μ i s→Q it s→wpAny (model C.prog C.w) A (pyIter it) Q E s
noncomputable def StW(w0:List Addr)(St:xH):List Addr→xH:= λwr T α μ i s=>wr=w0∧St T α μ i s
noncomputable def YT(w0:List Addr)(Mid:List Addr→List Addr→List ah→Nat→Value→Shared→Prop):List Addr→List Addr→List Addr→List ah→Nat→Value→Shared→Prop:= λwr T α μ i v s=>wr=w0∧Mid T α μ i v s
theorem lf.walk{g:Option Nat}{St:xH}{Mid:List Addr→List Addr→List ah→Nat→Value→Shared→Prop}(W:lf C it wr gi xs g tup St Mid):hU C it gi xs g tup (StW wr St) (YT wr Mid) where
 frame:=by
  intro wr' O T T' α α' μ μ' i s s' zi0 S h1 h2 h3 h4 I I' hg;refine fY zi0 λzq0 st=>?_;subst zq0;exact ⟨rfl,W.frame st S h1 h2 h3 h4 I I' hg⟩
 item:=by
  intro A wr' T α μ i x s Q E R I zi1 e k;refine fY zi1 λzq0 st=>?_;subst zq0;exact W.item R I (λb hb=>yo _ hb) st e λv s' mv I' ir md=>k v s' wr' mv (λb hb=>.inl hb) I' ir ⟨rfl,md⟩
 go:=by
  intro A wr' T α μ i x v t s Q E I zi2 tg ir k;refine fY zi2 λzq0 md=>?_;subst zq0;exact W.go I (λb hb=>yo _ hb) md tg ir λs' mv I' ir' st=>k s' mv I' ir' ⟨rfl,st⟩
 done:=by
  intro A wr' T α μ i s Q E R I zi3 e k;refine fY zi3 λzq0 st=>?_;subst zq0;exact W.done R I (λb hb=>yo _ hb) st e λs' mv h=>k s' mv h
 self:=by
  intro A wr' T α μ i s Q E zi4 h;refine fY zi4 λzq0 st=>?_;subst zq0;exact W.self st h
variable {St : List Addr → xH}
theorem in1{X:Type}{a:X}{l:List X}:a∈a::l:=Fp ..
theorem MB{X:Type}{a b:X}{l:List X}:b∈a::b::l:=D1 _ in1
theorem zg{X:Type}{a b c:X}{l:List X}:c∈a::b::c::l:=D1 _ MB
theorem BP{X:Type}{a b c d:X}{l:List X}:d∈a::b::c::d::l:=D1 _ zg
theorem FS{X:Type}{a b c d e:X}{l:List X}:e∈a::b::c::d::e::l:=D1 _ BP
theorem in6{X:Type}{a b c d e f:X}{l:List X}:f∈a::b::c::d::e::f::l:=D1 _ FS
theorem xY{X:Type}{x a:X}{l:List X}(h:x∈a::l)(k:x=a→G)(k':x∈l→G):G:=(Ch.mp h).elim k k'
theorem Es{b c d e x:Addr}{P:Addr→Prop}(ha:P a)(hb:P b)(hc:P c)(hd:P d)(he:P e)(h:x∈[a,b,c,d,e]):P x:=
 xY h (λq=>q▸ha) λh=>xY h (λq=>q▸hb) λh=>xY h (λq=>q▸hc) λh=>xY h (λq=>q▸hd) λh=>yA.mp h▸he
theorem UY{b c d e f x:Addr}{P:Addr→Prop}(ha:P a)(hb:P b)(hc:P c)(hd:P d)(he:P e)(hf:P f)(h:x∈[a,b,c,d,e,f]):P x:=xY h (λq=>q▸ha) (Es hb hc hd he hf)
theorem jr(I0:bl C T α μ s)(S:aU O α μ s α' μ' s')(hwr:∀a∈O,a∉wr)(hwT:∀b∈wr,b∈T){b:Addr}(hb:b∈wr)(o:Obj)(e:s.heap.get? b=some o):s'.heap.get? b=some o:=
 S.ext _ _ e λq=>(AA.mp q).elim (λq=>hwr b q hb) λq=>I0.apart b (hwT b hb) (db q)
theorem fG{vs:Array Value}(r:aw h M vs.toList xs)(e:xs[i]? =none):vs[i]? =none:=by
 rw [←KY,G_,r.length];exact G_.mp e
theorem j6{vs:Array Value}(r:aw h M vs.toList xs){x:PyData}(e:xs[i]? =some x):∃v,vs[i]? =some v∧aJ h M v x:=
 au (r.get e) λv e1 e2=>aZ v (KY.symm.trans e1) e2
theorem bl.done(I:bl C T α μ s)(mv:aG wr gi s s')(hw:∀b∈wr,b∈T)(h:∀a∈T',a∈T∧a∉wr):bl C T' α μ s':=
 I.moves' mv hw (λa ha=>(h a ha).1) λa ha=>(I.tdom a (h a ha).1).imp λo e=>mv.heap a o (h a ha).2 e
noncomputable def Fh:AV→Option Nat
 | .c j=>some j
 |_=>none
theorem xL(h:da μ V=some xs)(g:cu (Fh V) xs μ'):da μ' V=some xs:=by
 cases V with
 |d x=>cases x<;>first|exact h|cases h
 |c j=>exact g j rfl
 |rng a b=>exact ct h
 |ty T=>exact ct h
theorem bv{I l:Addr}(x:h.IsListIter I l i)(e:∀o,h.get? I=some o→h'.get? I=some o):h'.IsListIter I l i:=let ⟨o,ho,r⟩:=x;⟨o,e o ho,r⟩
noncomputable def ni(xs:List PyData):Bool:=xs.all λ| .tuple _=>true|_=>false
theorem xW(h:ni xs=true){x:PyData}(e:xs[i]? =some x):∃ds,x=.tuple ds:=by
 have:=Bb.mp h x (FV e)
 cases x<;>first|exact ⟨_,rfl⟩|exact (HA this).elim
theorem pF{A:Type}{f:A→PyData}{l:List A}(h:∀a,∃ds,f a=.tuple ds):ni (l.map f)=true:=
 Bb.mpr λx hx=>au (DG.mp hx) λa zz e=>bP (h a) λds q=>by rw [←e,q]
theorem yg{x:PyData}(r:aJ h M v x)(ht:tup=true→∃ds,x=.tuple ds):fk tup h M v x:=by
 cases tup with
 |false=>exact r
 |true=>
  refine bP (ht rfl) λds zq1=>?_;subst zq1;refine bq r.of_tuple λa items zq2 p rr=>?_;subst zq2;exact (dy a items ds rfl rfl p rr)
theorem fk.moves{x:PyData}(r:fk tup s.heap (T++ai α μ) v x)(y:aG wr gi s s')(hw:∀b∈wr,b∈T)(hv:tup=true→∀a,v=.ref a→∀o,s.heap.get? a=some o→s'.heap.get? a=some o):fk tup s'.heap (T++ai α μ) v x:=by
 cases tup with
 |false=>exact aJ.moves (d:=x) r y hw
 |true=>
  refine dg r λa items ds zq3 zq4 zp5 rr=>?_;subst zq3;subst zq4;obtain ⟨o,e,q⟩:=zp5;exact (dy a items ds rfl rfl ⟨o,hv rfl a rfl o e,q⟩ (rr.moves y hw))
section
variable {I l:Addr}
noncomputable def HB(I l:Addr)(V:AV)(xs:List PyData):xH:= λT α μ i s=>s.heap.IsListIter I l i∧bm s.heap α (T++ai α μ) (.ref l) V∧da μ V=some xs
theorem hU.list(hne:l≠I)(ht:tup=true→ni xs=true):lf C (.ref I) [I] [] xs (Fh V) tup (HB I l V xs) (λT α μ i v s=>HB I l V xs T α μ (i+1) s) where
 frame:=by
  intro O T T' α α' μ μ' i s s' st S hO hwr hT hwT I0 I1 hg;exact dU st λh1 h2 h3=>⟨bv h1 (jr I0 S hwr hwT in1),h2.stepO S hO hT,xL h3 hg⟩
 item:=by
  intro A T α μ i x s Q E R Iv hw st e k;refine dU st λh1 h2 h3=>?_;refine bq (h2.isList Iv h3) λa items e1 hp rr=>?_;cases e1;refine au (rr.get e) λv e2 r=>?_;refine Rl h1 hp.isList (x:=v) (KY.symm.trans e2) λh' hit' hs'=>?_;have mv:aG [I] [] s {s with heap:=h'}:=aG.of_heap (tk:=s.toks) (λb o hb e=>(hs'.2 b λq=>hb (q▸in1)).trans e);have J:=Iv.moves mv hw λb hb=>yA.mp hb▸au hit' λo e zz=>⟨o,e⟩;exact k v _ mv J (yg (r.moves mv hw) λq=>xW (ht q) e) ⟨hit',h2.moves mv hw,h3⟩
 go:=by
  intro A T α μ i x v t s Q E Iv hw md tg ir k;cases tup with
  |false=>
   refine lK tg λx pos zq2=>?_;subst zq2;exact Et (k s (aG.refl _ _ _) Iv ir md)
  |true=>
   refine jD tg λelts kk pos zq3=>?_;subst zq3;refine dg ir λa items ds zq3 zq4 p rr=>?_;subst zq3;subst zq4;exact wpAny_letOwnedTupleGo_listiter md.1 (k s (aG.refl _ _ _) Iv ⟨a,items,ds,rfl,rfl,p,rr⟩ md)
 done:=by
  intro A T α μ i s Q E R Iv hw st e k;refine dU st λh1 h2 h3=>bq (h2.isList Iv h3) λa items e1 hp rr=>?_;cases e1;refine Pp R.handled h1 hp.isList (fG rr e) λh' he'=>?_;have mv:aG [I] [] s {s with heap:=h'}:=aG.of_heap (tk:=s.toks) (λb o hb e=>he' b o (λq=>hb (q▸in1)) e);exact k _ mv λT' hT'=>Iv.done mv hw hT'
 self:=by
  intro A T α μ i s Q E st h;exact wpAny_pyIter_listiter st.1 h
end
theorem uw{I l:Addr}(x:h.IsTupleIter I l i)(e:∀o,h.get? I=some o→h'.get? I=some o):h'.IsTupleIter I l i:=let ⟨o,ho,r⟩:=x;⟨o,e o ho,r⟩
section
variable {I l:Addr}
noncomputable def RH(I l:Addr)(items:Array Value)(xs:List PyData):xH:= λT α μ i s=>s.heap.IsTupleIter I l i∧s.heap.IsTuple l items∧aw s.heap (T++ai α μ) items.toList xs∧l∉T++ai α μ
theorem hU.tuple(hne:l≠I):lf C (.ref I) [I] [] xs none false (RH I l items xs) (λT α μ i v s=>RH I l items xs T α μ (i+1) s) where
 frame:=by
  intro O T T' α α' μ μ' i s s' st S hO hwr hT hwT I0 I1 hg;exact mh st λh1 h2 h3 h4=>⟨uw h1 (jr I0 S hwr hwT in1),ku h2 S.ext λq=>h4 (hO.app.seq _ q (i0 h2)),h3.stepO S hO hT,λq=>(S.hm hT l q).elim h4 (fM (i0 h2))⟩
 item:=by
  intro A T α μ i x s Q E R Iv hw st e k;refine mh st λh1 h2 h3 h4=>au (h3.get e) λv e2 r=>?_;refine wpAny_pyNext_tuple_item h1 h2 (x:=v) (KY.symm.trans e2) λh' hit' hs'=>?_;have mv:aG [I] [] s {s with heap:=h'}:=aG.of_heap (tk:=s.toks) (λb o hb e=>(hs'.2 b λq=>hb (q▸in1)).trans e);have J:=Iv.moves mv hw λb hb=>yA.mp hb▸au hit' λo e zz=>⟨o,e⟩;exact k v _ mv J (r.moves mv hw) ⟨hit',h2.extBut hs'.extBut hne,h3.moves mv hw,h4⟩
 go:=by
  intro A T α μ i x v t s Q E Iv hw md tg ir k;refine lK tg λx pos zq2=>?_;subst zq2;exact Et (k s (aG.refl _ _ _) Iv ir md)
 done:=by
  intro A T α μ i s Q E R Iv hw st e k;refine mh st λh1 h2 h3 h4=>wpAny_pyNext_tuple_end R.handled h1 h2 (fG h3 e) λh' he'=>?_;have mv:aG [I] [] s {s with heap:=h'}:=aG.of_heap (tk:=s.toks) (λb o hb e=>he' b o (λq=>hb (q▸in1)) e);exact k _ mv λT' hT'=>Iv.done mv hw hT'
 self:=by
  intro A T α μ i s Q E st h;exact wpAny_pyIter_tupleiter st.1 h
end
noncomputable def fJ(a:Int):Nat→List PyData
 |0=>[]
 |n+1=>.int a::fJ (a+1) n
theorem w9(a:Int):∀n,(fJ a n).length=n
 |0=>rfl
 |n+1=>by simp [fJ,w9 (a+1) n]
theorem vA:∀ (a:Int) (n i:Nat) (x:PyData),(fJ a n)[i]? =some x→x=.int (a+i)∧i<n
 |_,0,_,_,h=>by simp [fJ] at h
 |a,n+1,0,x,h=>by simp [fJ] at h;simp [←h]
 |a,n+1,i+1,x,h=>by
  simp only [fJ,Oe] at h
  refine fY (vA (a+1) n i x h) λe q=>?_;refine ⟨?_,by lia⟩;rw [e];congr 1;push_cast;lia
section
variable {I:Addr}
noncomputable def QS(I:Addr)(a:Int)(n:Nat):xH:= λzz zz zz i s=>IsRangeIter s.heap I (a+(i:Nat)*1) ((n:Int)-(i:Nat)) 1
theorem hU.range{a:Int}:lf C (.ref I) [I] [] (fJ a n) none false (QS I a n) (λT α μ i v s=>QS I a n T α μ (i+1) s) where
 frame:=by
  intro O T T' α α' μ μ' i s s' h1 S hO hwr hT hwT I0 I1 hg;exact jr I0 S hwr hwT in1 _ h1
 item:=by
  intro A T α μ i x s Q E R Iv hw h1 e k;refine fY (vA _ _ _ _ e) λzq0 hi=>?_;subst zq0;refine (Walks.range (prog:=C.prog) (w:=C.w) R.handled I a 1 n).item i s Q E hi h1 λv h' tk hv hst hk=>?_;have mv:aG [I] [] s {s with heap:=h',toks:=tk}:=aG.of_heap hk;have J:=Iv.moves mv hw λb hb=>yA.mp hb▸⟨_,hst⟩;refine bP hv λt zq1=>?_;subst zq1;rw [show a+(i:Int)*1=a+i by lia];exact k _ _ mv J (aJ.int ..) hst
 go:=by
  intro A T α μ i x v t s Q E Iv hw md tg ir k;refine lK tg λx pos zq2=>?_;subst zq2;exact Et (k s (aG.refl _ _ _) Iv ir md)
 done:=by
  intro A T α μ i s Q E R Iv hw h1 e k;rw [G_,w9] at e
  refine wpAny_pyNext_range_end R.handled h1 (by lia) λh' he'=>?_;have mv:aG [I] [] s {s with heap:=h'}:=aG.of_heap (tk:=s.toks) (λb o hb e=>he' b o (λq=>hb (q▸in1)) e);exact k _ mv λT' hT'=>Iv.done mv hw hT'
 self:=by
  intro A T α μ i s Q E h1 h;exact wpAny_pyIter_rangeiter h1 h
end
noncomputable def cL:Nat→List PyData→List PyData
 |_,[]=>[]
 |k,x::r=>.tuple [.int k,x]::cL (k+1) r
theorem mU:∀ (k:Nat) (xs:List PyData) (i:Nat),(cL k xs)[i]? =(xs[i]?).map λx=>.tuple [.int (k+i),x]
 |_,[],_=>by simp [cL]
 |k,x::r,0=>by simp [cL]
 |k,x::r,i+1=>by
  simp only [cL,Oe,mU (k+1) r i]
  congr 1;funext x;congr 3;push_cast;lia
section
variable {e it l:Addr}
noncomputable def UA(e it l:Addr)(xs:List PyData):xH:= λT α μ i s=>(∃old,IsEnum s.heap e it i old)∧s.heap.IsListIter it l i∧bm s.heap α (T++ai α μ) (.ref l) (.d (.list xs))
noncomputable def Mm(e it l:Addr)(xs:List PyData):List Addr→List Addr→List ah→Nat→Value→Shared→Prop:= λT α μ i v s=>∃a,v=.ref a∧(∃x,IsEnumOut s.heap e it ((i:Int)+1) x a)∧s.heap.IsListIter it l (i+1)∧bm s.heap α (T++ai α μ) (.ref l) (.d (.list xs))∧a≠e∧a≠it
theorem hU.enum(hei:e≠it)(hle:l≠e)(hli:l≠it):lf C (.ref e) [e,it] [] (cL 0 xs) none true (UA e it l xs) (Mm e it l xs) where
 frame:=by
  intro O T T' α α' μ μ' i s s' st S hO hwr hT hwT I0 I1 hg;exact dU st λh0 h1 h2=>⟨bP h0 λold h0=>⟨old,jr I0 S hwr hwT in1 _ h0⟩,bv h1 (jr I0 S hwr hwT MB),h2.stepO S hO hT⟩
 item:=by
  intro A T α μ i x s Q E R Iv hw st ex k;refine dU st λh0 h1 h2=>?_;refine bq (h2.isList Iv rfl) λa items e1 hp rr=>?_;cases e1;rw [mU,IA] at ex
  refine au ex λy ey zq2=>?_;subst zq2;refine au (rr.get ey) λv ev r=>?_;have ev':items[i]? =some v:=KY.symm.trans ev;refine (WalksT.enumerate (prog:=C.prog) (w:=C.w) R.handled e it l hei hle hli items).item i s Q E (LB.mp ev').1 ⟨h0,h1,hp.isList⟩ λa' vals h' tk hP hsz hT' hM hk=>?_;have mv:aG [e,it] [] s {s with heap:=h',toks:=tk}:=aG.of_heap hk;refine ig hM λm0 m1 m2 m3 m4=>?_;have J:=Iv.moves mv hw λb hb=>xY hb (λq=>q▸bP m0 λzz z=>⟨_,z⟩) λhb=>yA.mp hb▸au m1 λo z zz=>⟨o,z⟩;refine kv hP λt x1 e2 zq3=>?_;subst zq3;rw [ev'] at e2;cases e2
  refine k _ _ mv J ⟨a',_,_,rfl,rfl,hT',?_⟩ ⟨a',rfl,m0,m1,h2.moves mv hw,m3,m4⟩;simp only [Int.natCast_zero,Int.zero_add];exact .cons (aJ.int ..) (.cons (r.moves mv hw) (aw.nil _ _))
 go:=by
  intro A T α μ i x v t s Q E Iv hw st tg ir k;refine HO st λa hv m0 m1 m2 m4 m5=>bP m0 λx0 m0=>?_;subst hv;refine jD tg λelts kk pos zq3=>?_;subst zq3;refine PL m0 λh' he' hs'=>?_;have mv:aG [e,it] [] s {s with heap:=h'}:=aG.of_heap (tk:=s.toks) (λb o hb z=>(hs'.2 b λq=>hb (q▸in1)).trans z);have hit':h'.IsListIter it l (i+1):=bv m1 λo z=>(hs'.2 it hei.symm).trans z;have J:=Iv.moves mv hw λb hb=>xY hb (λq=>q▸⟨_,he'⟩) λhb=>yA.mp hb▸au hit' λo z zz=>⟨o,z⟩;refine k _ mv J (ir.moves mv hw λzz a2 q o z=>?_) ⟨⟨x0,by simpa using he'⟩,hit',m2.moves mv hw⟩;cases q;exact (hs'.2 a m4).trans z
 done:=by
  intro A T α μ i s Q E R Iv hw st ex k;refine dU st λh0 h1 h2=>bP h0 λold h0=>bq (h2.isList Iv rfl) λa items e1 hp rr=>?_;cases e1;rw [mU,Option.map_eq_none_iff] at ex
  refine wpAny_pyNext_enum_end R.handled h0 h1 hp.isList (fG rr ex) λh' hx=>?_;have mv:aG [e,it] [] s {s with heap:=h'}:=aG.of_heap (tk:=s.toks) (λb o hb z=>hx b o (λq=>hb (q▸MB)) z);exact k _ mv λT' hT'=>Iv.done mv hw hT'
 self:=by
  intro A T α μ i s Q E st h;exact bP st.1 λold h0=>Qr h0 h
end
noncomputable def mJ(xs ys:List PyData):List PyData:=RA (λx y=>.tuple [x,y]) xs ys
theorem vO{x:PyData}(e:(mJ xs ys)[i]? =some x)(k:∀x1 x2,xs[i]? =some x1→ys[i]? =some x2→x=.tuple [x1,x2]→G):G:=
 bq (Mo.mp e) λx1 x2 e1 e2 e3=>k x1 x2 e1 e2 e3.symm
theorem uf{X Y Z:Type}{f:X→Y→Z}{xs:List X}{ys:List Y}(e:(RA f xs ys)[i]? =none):xs[i]? =none∨ys[i]? =none:=by
 rw [G_,Su] at e
 rw [G_,G_];exact (Nat.le_total xs.length ys.length).imp (λh=>by rw [RC h] at e;exact e) λh=>by rw [Nat.min_eq_right h] at e;exact e
noncomputable def xo(xs ys zs:List PyData):List PyData:=RA (λx p=>.tuple [x,p.1,p.2]) xs (RA Prod.mk ys zs)
theorem Ju{zs:List PyData}{x:PyData}(e:(xo xs ys zs)[i]? =some x)(k:∀x1 x2 x3,xs[i]? =some x1→ys[i]? =some x2→zs[i]? =some x3→x=.tuple [x1,x2,x3]→G):G:=
 bq (Mo.mp e) λx1 p e1 e2 e3=>bq (Mo.mp e2) λx2 x3 f2 f3 f4=>k x1 x2 x3 e1 f2 f3 (by rw [←e3,←f4])
section
variable {l1 l2:Addr}
noncomputable def IU(z TI TO i1 i2 l1 l2:Addr)(f0:Value)(xs ys:List PyData):xH:= λT α μ i s=>(IsZip s.heap z TI TO f0∧IsPair s.heap TI (.ref i1) (.ref i2)∧∃a b,IsPair s.heap TO a b)∧s.heap.IsListIter i1 l1 i∧s.heap.IsListIter i2 l2 i∧bm s.heap α (T++ai α μ) (.ref l1) (.d (.list xs))∧bm s.heap α (T++ai α μ) (.ref l2) (.d (.list ys))
theorem hU.zip2(D:ZipApart z TI TO i1 i2 l1 l2)(hTIl:TI≠l1∧TI≠l2):lf C (.ref z) [z,TI,TO,i1,i2] [] (mJ xs ys) none true (IU z TI TO i1 i2 l1 l2 .none xs ys)
  (λT α μ i v s=>∃a,v=.ref a∧IU z TI TO i1 i2 l1 l2 (rawInt a) xs ys T α μ (i+1) s∧a∉[z,TI,TO,i1,i2]) where
 frame:=by
  intro O T T' α α' μ μ' i s s' st S hO hwr hT hwT I0 I1 hg;refine ig st λz0 h3 h4 h5 h6=>tX z0 λh0 h1 a b h2=>?_;have kp:= λ{b}=>jr I0 S hwr hwT (b:=b);exact ⟨⟨kp in1 _ h0,kp MB _ h1,a,b,kp zg _ h2⟩,bv h3 (kp BP),bv h4 (kp FS),h5.stepO S hO hT,h6.stepO S hO hT⟩
 item:=by
  intro A T α μ i x s Q E R Iv hw st ex k;refine ig st λz0 h3 h4 h5 h6=>tX z0 λh0 h1 a0 b0 h2=>?_;refine bq (h5.isList Iv rfl) λzz its1 e1 hp1 rr1=>bq (h6.isList Iv rfl) λzz its2 e2 hp2 rr2=>?_;cases e1;cases e2;refine vO ex λx1 x2 ex1 ex2 zx=>au (j6 rr1 ex1) λv1 ev1 r1=>au (j6 rr2 ex2) λv2 ev2 r2=>?_;subst zx;refine wpAny_pyNext_zip_item D h0 h1 h2 h3 h4 hp1.isList hp2.isList ev1 ev2 λh' a1 a2 a3 a4 a5 a6 a7=>?_;have mv:aG [z,TI,TO,i1,i2] [] s {s with heap:=h'}:=aG.of_heap (tk:=s.toks) λb o hb e=>a7 b o (λq=>hb (q▸in1)) (λq=>hb (q▸zg)) (λq=>hb (q▸BP)) (λq=>hb (q▸FS)) e;have hTI:IsPair h' TI (.ref i1) (.ref i2):=a7 _ _ D.TIz D.TITO D.TIi1 D.TIi2 h1;have J:=Iv.moves mv hw λb hb=>Es (P:= λb=>∃o,h'.get? b=some o) ⟨_,a1⟩ ⟨_,hTI⟩ ⟨_,a2⟩ (au a3 λo e zz=>⟨o,e⟩) (au a4 λo e zz=>⟨o,e⟩) hb;have lt:∀ {c o},s.heap.get? c=some o→s.heap.objs.size≠c:= λe=>PQ (Ma e);exact k _ _ mv J ⟨_,_,_,rfl,rfl,⟨_,a5,rfl,_,rfl⟩,.cons (r1.moves mv hw) (.cons (r2.moves mv hw) (aw.nil _ _))⟩ ⟨_,rfl,⟨⟨a1,hTI,_,_,a2⟩,a3,a4,h5.moves mv hw,h6.moves mv hw⟩,λhb=>Es (P:= λb=>s.heap.objs.size≠b) (lt h0) (lt h1) (lt h2) (au h3 λo e zz=>lt e) (au h4 λo e zz=>lt e) hb rfl⟩
 go:=by
  intro A T α μ i x v t s Q E Iv hw st tg ir k;refine cn st λa hv st ha=>ig st λz0 h3 h4 h5 h6=>tX z0 λh0 h1 a0 b0 h2=>jD tg λelts kk pos zq3=>?_;subst hv;subst zq3;refine Q2 h0 λh' he' hs'=>?_;have mv:aG [z,TI,TO,i1,i2] [] s {s with heap:=h'}:=aG.of_heap (tk:=s.toks) (λb o hb e=>(hs'.2 b λq=>hb (q▸in1)).trans e);have kp:∀b,b≠z→∀o,s.heap.get? b=some o→h'.get? b=some o:= λb hb o e=>(hs'.2 b hb).trans e;have hTI:IsPair h' TI (.ref i1) (.ref i2):=kp _ D.TIz _ h1;have hTO:IsPair h' TO a0 b0:=kp _ D.TOz _ h2;have q3:h'.IsListIter i1 l1 (i+1):=bv h3 (kp _ D.i1z);have q4:h'.IsListIter i2 l2 (i+1):=bv h4 (kp _ D.i2z);have J:=Iv.moves mv hw λb hb=>Es (P:= λb=>∃o,h'.get? b=some o) ⟨_,he'⟩ ⟨_,hTI⟩ ⟨_,hTO⟩ (au q3 λo e zz=>⟨o,e⟩) (au q4 λo e zz=>⟨o,e⟩) hb;exact k _ mv J (ir.moves mv hw λzz a2 q o z=>by cases q;exact kp _ (λq=>ha (q▸in1)) _ z) ⟨⟨he',hTI,a0,b0,hTO⟩,q3,q4,h5.moves mv hw,h6.moves mv hw⟩
 done:=by
  intro A T α μ i s Q E R Iv hw st ex k;refine ig st λz0 h3 h4 h5 h6=>tX z0 λh0 h1 a0 b0 h2=>bq (h5.isList Iv rfl) λzz its1 e1 hp1 rr1=>bq (h6.isList Iv rfl) λzz its2 e2 hp2 rr2=>?_;cases e1;cases e2;refine wpAny_pyNext_zip_end R.handled D h0 h1 h2 h3 h4 hp1.isList hp2.isList ((uf ex).imp (fG rr1) (fG rr2)) λh' hx=>?_;have mv:aG [z,TI,TO,i1,i2] [] s {s with heap:=h'}:=aG.of_heap (tk:=s.toks) (λb o hb e=>hx b o (λq=>hb (q▸in1)) (λq=>hb (q▸zg)) (λq=>hb (q▸BP)) (λq=>hb (q▸FS)) e);exact k _ mv λT' hT'=>Iv.done mv hw hT'
 self:=by
  intro A T α μ i s Q E st h;exact Pi st.1.1 h
end
abbrev er(h:Heap)(T:Addr)(a b c:Value):Prop:=h.get? T=some {cls:=.type "tuple",data:=.seq #[a,b,c]}
structure kC (z TI TO i1 i2 i3 l1 l2 l3:Addr):Prop where
 nodup:[z,TI,TO,i1,i2,i3].Nodup
 d1:l1∉[z,TI,TO,i1,i2,i3]
 d2:l2∉[z,TI,TO,i1,i2,i3]
 d3:l3∉[z,TI,TO,i1,i2,i3]
section
theorem pW{T:Addr}{a b c x:Value}{Q:Unit→Shared→Prop}(hT:er s.heap T a b c)
  (h:∀h',h'.get? T=some {cls:=.type "tuple",data:=.seq ((#[a,b,c]:Array Value).setIfInBounds k x)}→La T s.heap h'→Q () {s with heap:=h'}):
  wpAny (model prog w) A (updateSeq T (·.setIfInBounds k x)) Q E s:=by
 refine Oi hT rfl (h _ ?_ (KW ..));rw [Fk _ hT rfl]
 simp [M5]
end
namespace F3
theorem typeCall_zip_3(a b c:Value):checkTypeCall "zip" ⟨[a,b,c],[]⟩=pure ():= ∅
theorem newCall_zip_3(a b c:Value):checkBuiltinCall "zip.__new__" ⟨[.type "zip",a,b,c],[]⟩=pure ():= ∅
theorem args_object_init_4(a b c d:Value):argsOk "object.__init__" ⟨[a,b,c,d],[]⟩:=by
 unfold argsOk;rw [signature?_of (id:="object.__init__") (n:=['_','_','t','i','n','i','_','_']) (o:=['t','c','e','j','b','o']) ∅ F.owner_object];kernel_rfl
end F3
section
abbrev Cq(h:Heap)(T:Addr)(vs:Array Value):Prop:=h.get? T=some {cls:=.type "tuple",data:=.seq vs}
abbrev HC(h:Heap)(e:Addr):Prop:=∃o,h.get? e=some o∧o.cls=.type "StopIteration"
abbrev ab3{β:Type}(prog:Program)(w:World)(A:Around)(E:Value→Shared→Prop)(s:Shared)(f:Value×Nat→β→Sem (ForInStep β))(b0:β)(z TI TO:Addr)(k:Nat):Prop:=
 ∀ (it l:Addr) (ws:Array Value) (a b c:Value) (m:Nat) (h:Heap) (Q:ForInStep β→Shared→Prop),IsZip h z TI TO .ellipsis→Cq h TO #[a,b,c]→h.IsListIter it l k→h.IsList l ws→z≠it→TO≠it→z≠TO→
  (∀x,ws[k]? =some x→∀h',Cq h' TO (#[a,b,c].setIfInBounds m x)→h'.IsListIter it l (k+1)→(∀c,c≠TO→c≠it→h'.get? c=h.get? c)→h'.objs.size=h.objs.size→Q (.yield b0) {s with heap:=h'})→
  (ws[k]? =none→∀h' e,(∀c o,c≠z→c≠it→h.get? c=some o→h'.get? c=some o)→HC h' e→E (.ref e) {s with heap:=h'})→
  wpAny (model prog w) A (f (.ref it,m) b0) Q E {s with heap:=h}
theorem aa1{β:Type}{f:Value×Nat→β→Sem (ForInStep β)}{b0:β}{l1 l2 l3:Addr}{xs ys:Array Value}{a b c:Value}{Q:β→Shared→Prop}(S:ab3 prog w A E s f b0 z TI TO k)(D:kC z TI TO i1 i2 i3 l1 l2 l3)
  (hz:IsZip h z TI TO .ellipsis) (hTO:Cq h TO #[a,b,c])
  (h1:h.IsListIter i1 l1 k) (h2:h.IsListIter i2 l2 k) (h3:h.IsListIter i3 l3 k) (hl1:h.IsList l1 xs) (hl2:h.IsList l2 ys) (hl3:h.IsList l3 zs)
  (hQ:∀x y u,xs[k]? =some x→ys[k]? =some y→zs[k]? =some u→∀h',Cq h' TO #[x,y,u]→h'.IsListIter i1 l1 (k+1)→h'.IsListIter i2 l2 (k+1)→h'.IsListIter i3 l3 (k+1)→(∀c,c∉[TO,i1,i2,i3]→h'.get? c=h.get? c)→h'.objs.size=h.objs.size→Q b0 {s with heap:=h'})
  (hE:(xs[k]? =none∨ys[k]? =none∨zs[k]? =none)→∀h' e,(∀c o,c∉[z,TI,TO,i1,i2,i3]→h.get? c=some o→h'.get? c=some o)→HC h' e→E (.ref e) {s with heap:=h'}):
  wpAny (model prog w) A (forIn [(Lu i1,0),(Lu i2,1),(Lu i3,2)] b0 f) Q E {s with heap:=h}:=by
 have nd:=D.nodup;simp only [J_,Ch,DM,or_false,not_or,not_false_eq_true,N0,and_true] at nd
 have apart:∀ {l c:Addr} {L:List Addr},l∉L→c∈L→l≠c:= λn q e=>n (e▸q);simp only [Ua,List.forIn_nil];refine ig nd λza tia toa i1a i23=>ig za λzz zTO zi1 zi2 zi3=>dU toa λTO1 TO2 TO3=>fY i1a λi12 i13=>?_;refine yt (S i1 l1 xs a b c 0 h _ hz hTO h1 hl1 zi1 TO1 zTO (λx ex h₁ t₁ f1 k1 n1=>?_) λq h' e kp st=>hE (.inl q) h' e (λc o hc=>kp c o (apart hc in1) (apart hc BP)) st);refine yt (S i2 l2 ys x b c 1 h₁ _ ((k1 _ zTO zi1).trans hz) t₁ (bv h2 λo=>(k1 _ (MA TO2) (MA i12)).trans) (hl2.at λo=>(k1 _ (apart D.d2 zg) (apart D.d2 BP)).trans) zi2 TO2 zTO (λy ey h₂ t₂ f2 k2 n2=>?_)
  λq h' e kp st=>hE (.inr (.inl q)) h' e (λc o hc e=>kp c o (apart hc in1) (apart hc FS) ((k1 _ (apart hc zg) (apart hc BP)).trans e)) st)
 refine yt (S i3 l3 zs x y c 2 h₂ _ ((k2 _ zTO zi2).trans ((k1 _ zTO zi1).trans hz)) t₂ (bv h3 λo e=>(k2 _ (MA TO3) (MA i23)).trans ((k1 _ (MA TO3) (MA i13)).trans e)) (hl3.at λo e=>(k2 _ (apart D.d3 zg) (apart D.d3 FS)).trans ((k1 _ (apart D.d3 zg) (apart D.d3 BP)).trans e)) zi3 TO3 zTO (λu eu h₃ t₃ f3 k3 n3=>?_)
  λq h' e kp st=>hE (.inr (.inr q)) h' e (λc o hc e=>kp c o (apart hc in1) (apart hc in6) ((k2 _ (apart hc zg) (apart hc FS)).trans ((k1 _ (apart hc zg) (apart hc BP)).trans e))) st)
 exact Et (hQ x y u ex ey eu h₃ t₃ (bv f1 λo e=>(k3 _ (MA TO1) i13).trans ((k2 _ (MA TO1) i12).trans e)) (bv f2 λo=>(k3 _ (MA TO2) i23).trans) f3
  (λc hc=>(k3 c (apart hc in1) (apart hc BP)).trans ((k2 c (apart hc in1) (apart hc zg)).trans (k1 c (apart hc in1) (apart hc MB)))) (n3.trans (n2.trans n1)))
theorem CO{l1 l2 l3:Addr}{xs ys:Array Value}{a b c:Value}(hh:A.handled=none)(D:kC z TI TO i1 i2 i3 l1 l2 l3)
  (hz:IsZip s.heap z TI TO .none) (hTI:er s.heap TI (.ref i1) (.ref i2) (.ref i3)) (hTO:er s.heap TO a b c)
  (h1:s.heap.IsListIter i1 l1 k) (h2:s.heap.IsListIter i2 l2 k) (h3:s.heap.IsListIter i3 l3 k) (hl1:s.heap.IsList l1 xs) (hl2:s.heap.IsList l2 ys) (hl3:s.heap.IsList l3 zs)
  (hQ:∀x y u,xs[k]? =some x→ys[k]? =some y→zs[k]? =some u→∀h',IsZip h' z TI TO (rawInt s.heap.objs.size)→er h' TO x y u→h'.IsListIter i1 l1 (k+1)→h'.IsListIter i2 l2 (k+1)→h'.IsListIter i3 l3 (k+1)→er h' s.heap.objs.size x y u→
   (∀c o,c∉[z,TI,TO,i1,i2,i3]→s.heap.get? c=some o→h'.get? c=some o)→h'.get? TI=s.heap.get? TI→Q (.ref s.heap.objs.size) {s with heap:=h'})
  (hE:(xs[k]? =none∨ys[k]? =none∨zs[k]? =none)→∀h' e,(∀c o,c∉[z,TI,TO,i1,i2,i3]→s.heap.get? c=some o→h'.get? c=some o)→(∃o,h'.get? e=some o∧o.cls=.type "StopIteration")→E (.ref e) {s with heap:=h'}):
  wpAny (model prog w) A (Builtin.«zip.__next__» ⟨[.ref z],[]⟩) (λfin s'=>∃v,fin=.done (.ret v)∧Q v s') E s:=by
 have apart:∀ {l c:Addr} {L:List Addr},l∉L→c∈L→l≠c:= λn q e=>n (e▸q);have nd:=J_.mp D.nodup;have nd2:=J_.mp nd.2;have zx:∀ {c},c∈[TI,TO,i1,i2,i3]→c≠z:= λq e=>nd.1 (e▸q);have TOx:∀ {c},c∈[i1,i2,i3]→c≠TO:= λq e=>(J_.mp nd2.2).1 (e▸q);refine (?_:wpAny _ _ (field (.ref z) 2>>=_) _ _ _);refine yt (KP hz rfl (x:=.bool false) rfl ?_);refine (?_:wpAny _ _ (field (.ref z) 3>>=_) _ _ _);refine yt (KP hz rfl (x:=.ref TI) rfl ?_);refine yt (N2 hTI rfl ?_);refine (?_:wpAny _ _ (NB (.ref z)>>=_) _ _ _);refine yt ?_;unfold NB;refine yt (KP hz rfl (x:=.none) rfl (Et ?_));simp only [if_true];refine yt (O8 ?_);refine yt (KP hz rfl (x:=.ref TO) rfl ?_);refine yt (Oj hz (by simp) λh₁ hz₁ hs₁=>?_);replace hz₁:IsZip h₁ z TI TO .ellipsis:=hz₁;have K1:∀ {c},c∈[TI,TO,i1,i2,i3]→∀o,s.heap.get? c=some o→h₁.get? c=some o:= λq o e=>(hs₁.2 _ (zx q)).trans e;refine yt (aa1 ?_ D hz₁ (K1 MB _ hTO) (bv h1 (K1 zg)) (bv h2 (K1 BP)) (bv h3 (K1 FS)) (hl1.at λo=>(hs₁.2 _ (apart D.d1 in1)).trans) (hl2.at λo=>(hs₁.2 _ (apart D.d2 in1)).trans) (hl3.at λo=>(hs₁.2 _ (apart D.d3 in1)).trans) (λx y u hx hy hu h₇ hTO₇ f1 f2 f3 K7 hsz=>?_) λq h' e kp=>hE q h' e λc o hc e=>kp c o hc ((hs₁.2 c (apart hc in1)).trans e))
 ·intro it l ws a b c m h Q hz ht hi hl zi toi zto k1 k2
  refine yt (SQ ?_);refine (?_:wpAny _ _ (KT (.ref it)>>=_) _ _ _);cases hx:ws[k]? with
  |none=>
   refine yt (wpAny_nextOf_list_end hh hi hl hx λh₂ e hs₂ he=>?_);have hz₂:IsZip h₂ z TI TO .ellipsis:=hs₂ _ _ zi hz;refine Oj hz₂ (by simp) λh₃ zz hs₃=>k2 hx h₃ e (λc o q q' x=>(hs₃.2 c q).trans (hs₂ _ _ q' x)) (au he λo ho hc=>⟨o,(hs₃.2 e λq=>?_).trans ho,hc⟩);subst q;cases hz₂.symm.trans ho;simp at hc
  |some x=>
   refine yt (wpAny_nextOf_list_item hi hl hx λh₂ h1₂ hs₂=>Et ?_);have ht₂:er h₂ TO a b c:=(hs₂.2 _ toi).trans ht;refine yt (N2 ht₂ rfl ?_);refine yt (pW ht₂ λh₃ ht₃ hs₃=>?_);exact yt (Sw (Et (k1 x hx h₃ ht₃ (bv h1₂ λo=>(hs₃.2 _ (MA toi)).trans) (λc q q'=>(hs₃.2 c q).trans (hs₂.2 c q')) (hs₃.1.trans hs₂.1))))
 refine yt (N2 hTO₇ rfl ?_);refine yt (wpAny_newTuple ?_);have hsz:h₇.objs.size=s.heap.objs.size:=hsz.trans hs₁.1;have hz₇:IsZip h₇ z TI TO .ellipsis:=(K7 _ λq=>nd.1 (D1 _ q)).trans hz₁;have hzlt:z<h₇.objs.size:=Ma hz₇;refine (?_:wpAny _ _ (N3 (.ref z) (.ref h₇.objs.size)>>=_) _ _ _);refine yt ?_;unfold N3;have hz₈:IsZip (h₇.push {cls:=.type "tuple",data:=.seq #[x,y,u]}) z TI TO .ellipsis:=BO _ hz₇;refine yt (Oj hz₈ (by simp) λh₉ hz₉ hs₉=>?_);replace hz₉:IsZip h₉ z TI TO (rawInt h₇.objs.size):=hz₉;refine Oj hz₉ (by simp) λh₀ hz₀ hs₀=>?_;replace hz₀:IsZip h₀ z TI TO (rawInt h₇.objs.size):=hz₀;have up:∀c o,c≠z→h₇.get? c=some o→h₀.get? c=some o:= λc o c1 e=>hs₀.extBut _ _ c1 (hs₉.extBut _ _ c1 (BO _ e));have hT₈:er h₀ h₇.objs.size x y u:=hs₀.extBut _ _ (PQ hzlt) (hs₉.extBut _ _ (PQ hzlt) (Dm _ rfl));rw [hsz] at hz₀ hT₈
 refine Et (aZ _ rfl ?_);refine (?_:Q (.ref h₇.objs.size) _);rw [hsz];refine hQ _ _ _ hx hy hu h₀ hz₀ (up _ _ (zx MB) hTO₇) (bv f1 λo e=>up _ o (zx zg) e) (bv f2 λo e=>up _ o (zx BP) e) (bv f3 λo e=>up _ o (zx FS) e) hT₈ (λc o hc e=>?_) ?_
 ·exact up c o (apart hc in1) ((K7 c λq=>hc (D1 _ (D1 _ q))).trans ((hs₁.2 c (apart hc in1)).trans e))
 ·exact (up _ _ (zx in1) ((K7 _ nd2.1).trans (K1 in1 _ hTI))).trans hTI.symm
theorem oq{l1 l2 l3:Addr}{xs ys:Array Value}{a b c:Value}{Q:Option Value→Shared→Prop}(hh:A.handled=none)(D:kC z TI TO i1 i2 i3 l1 l2 l3)
  (hz:IsZip s.heap z TI TO .none) (hTI:er s.heap TI (.ref i1) (.ref i2) (.ref i3)) (hTO:er s.heap TO a b c)
  (h1:s.heap.IsListIter i1 l1 k) (h2:s.heap.IsListIter i2 l2 k) (h3:s.heap.IsListIter i3 l3 k) (hl1:s.heap.IsList l1 xs) (hl2:s.heap.IsList l2 ys) (hl3:s.heap.IsList l3 zs)
  (hQ:∀x y u,xs[k]? =some x→ys[k]? =some y→zs[k]? =some u→∀h',IsZip h' z TI TO (rawInt s.heap.objs.size)→er h' TO x y u→h'.IsListIter i1 l1 (k+1)→h'.IsListIter i2 l2 (k+1)→h'.IsListIter i3 l3 (k+1)→er h' s.heap.objs.size x y u→
   (∀c o,c∉[z,TI,TO,i1,i2,i3]→s.heap.get? c=some o→h'.get? c=some o)→h'.get? TI=s.heap.get? TI→Q (some (.ref s.heap.objs.size)) {s with heap:=h'})
  (hE:(xs[k]? =none∨ys[k]? =none∨zs[k]? =none)→∀h',(∀c o,c∉[z,TI,TO,i1,i2,i3]→s.heap.get? c=some o→h'.get? c=some o)→Q none {s with heap:=h'}):wpAny (model prog w) A (pyNext (.ref z)) Q E s:=by
 have hT:s.TypeIs (.ref z) "zip":=(aZ _ hz rfl);unfold pyNext;refine yt (SR (IX (name:=JI "__next__") hT F.slot_zip_next
  (L3 F.slot_zip_next hT F.entry_zip_next (CO hh D hz hTI hTO h1 h2 h3 hl1 hl2 hl3 (λx y u ex ey eu h' a1 a2 a3 a4 a5 a6 a7 a8=>Et (hQ x y u ex ey eu h' a1 a2 a3 a4 a5 a6 a7 a8)) λq h' e hk he=>?_) (F.args_zip_next_1 _))))
 refine au he λo ho hc=>?_;refine yt (Rb (T:="StopIteration") (b:=true) (aZ o ho hc) Sj ?_);exact Et (hE q _ hk)
end
noncomputable abbrev oP(h:Heap)(l1:Addr):Heap:=h.push {cls:=.type "list_iterator",data:=.fields #[.ref l1,.int 0 0]}
noncomputable abbrev Nu(h:Heap)(l1 l2 l3:Addr):Heap:=oP (oP (oP h l1) l2) l3
noncomputable abbrev Oy(h:Heap)(l1 l2 l3:Addr):Heap:=(Nu h l1 l2 l3).push {cls:=.type "tuple",data:=.seq #[.ref h.objs.size,.ref (oP h l1).objs.size,.ref (oP (oP h l1) l2).objs.size]}
noncomputable abbrev MS(h:Heap)(l1 l2 l3:Addr):Heap:=(Oy h l1 l2 l3).push {cls:=.type "tuple",data:=.seq #[.none,.none,.none]}
noncomputable abbrev Ad(h:Heap)(l1 l2 l3:Addr):Heap:=(MS h l1 l2 l3).push {cls:=.type "zip",data:=.fields #[.none,.bool false,.bool false,.ref (Nu h l1 l2 l3).objs.size,.ref (Oy h l1 l2 l3).objs.size]}
theorem rF(l1 l2 l3:Addr)(xs ys zs:Array Value):
  Meets (Builtin.«zip.__new__» ⟨[.type "zip",.ref l1,.ref l2,.ref l3],[]⟩) (λzz R s=>s.heap.IsList l1 xs∧s.heap.IsList l2 ys∧s.heap.IsList l3 zs∧
   R (.ok (.ret (.ref (MS s.heap l1 l2 l3).objs.size))) {s with heap:=Ad s.heap l1 l2 l3}):=
 .of_wp λprog w A R s h=>by
  obtain ⟨hp,g,d,tk,os⟩:=s;refine mh h λhl1 hl2 hl3 h=>?_;have hsub:=sub_zip;have hL1:Ub (QP ⟨hp,g,d,tk,os⟩) l1 xs:=hl1;have hL2:Ub (QP ⟨hp.push {cls:=.type "list_iterator",data:=.fields #[.ref l1,.int 0 0]},g,d,tk,os⟩) l2 ys:=Rc hl2 _;have hL3:Ub (QP ⟨(hp.push {cls:=.type "list_iterator",data:=.fields #[.ref l1,.int 0 0]}).push {cls:=.type "list_iterator",data:=.fields #[.ref l2,.int 0 0]},g,d,tk,os⟩) l3 zs:=Rc (Rc hl3 _) _
  wp_walk using M6 hL1,M6 hL2,M6 hL3
  exact (aZ _ rfl h)
section
theorem zw{l1 l2 l3:Addr}{xs ys:Array Value}(hl1:s.heap.IsList l1 xs)(hl2:s.heap.IsList l2 ys)(hl3:s.heap.IsList l3 zs)
  (h:∀h',IsZip h' (s.heap.objs.size+5) (s.heap.objs.size+3) (s.heap.objs.size+4) .none→er h' (s.heap.objs.size+3) (.ref s.heap.objs.size) (.ref (s.heap.objs.size+1)) (.ref (s.heap.objs.size+2))→
   er h' (s.heap.objs.size+4) .none .none .none→h'.IsListIter s.heap.objs.size l1 0→h'.IsListIter (s.heap.objs.size+1) l2 0→h'.IsListIter (s.heap.objs.size+2) l3 0→
   (∀c o,s.heap.get? c=some o→h'.get? c=some o)→Q (.ref (s.heap.objs.size+5)) {s with heap:=h'}):
  wpAny (model prog w) A (call (.type "zip") [.ref l1,.ref l2,.ref l3]) Q E s:=by
 refine callType_new F.called_zip (by decide) (F3.typeCall_zip_3 _ _ _) (F3.newCall_zip_3 _ _ _) (λobj=>F3.args_object_init_4 obj _ _ _) F.entry_zip_new
  (rF l1 l2 l3 xs ys zs) (lm hl1 hl2 hl3 ?_)
 have z1:(oP s.heap l1).objs.size=s.heap.objs.size+1:=M3 ..;have z2:(oP (oP s.heap l1) l2).objs.size=s.heap.objs.size+2:=by rw [M3,z1]
 have z3:(Nu s.heap l1 l2 l3).objs.size=s.heap.objs.size+3:=by rw [M3,z2]
 have z4:(Oy s.heap l1 l2 l3).objs.size=s.heap.objs.size+4:=by rw [M3,z3]
 have z5:(MS s.heap l1 l2 l3).objs.size=s.heap.objs.size+5:=by rw [M3,z4]
 have g6:(Ad s.heap l1 l2 l3).get? (MS s.heap l1 l2 l3).objs.size=some _:=Dm _ rfl;have g5:(Ad s.heap l1 l2 l3).get? (Oy s.heap l1 l2 l3).objs.size=some _:=BO _ (Dm _ rfl);have g4:(Ad s.heap l1 l2 l3).get? (Nu s.heap l1 l2 l3).objs.size=some _:=BO _ (BO _ (Dm _ rfl));have g3:(Ad s.heap l1 l2 l3).get? (oP (oP s.heap l1) l2).objs.size=some _:=BO _ (BO _ (BO _ (Dm _ rfl)));have g2:(Ad s.heap l1 l2 l3).get? (oP s.heap l1).objs.size=some _:=BO _ (BO _ (BO _ (BO _ (Dm _ rfl))));have g1:(Ad s.heap l1 l2 l3).get? s.heap.objs.size=some _:=BO _ (BO _ (BO _ (BO _ (BO _ (Dm _ rfl)))));refine (?_:_∧_);rw [z3,z4,z5] at g6
 rw [z4] at g5
 rw [z1,z2,z3] at g4
 rw [z2] at g3
 rw [z1] at g2
 rw [z5];exact ⟨(aZ _ g6 rfl),h _ g6 g4 g5 (cJ _ g1 rfl rfl) (cJ _ g2 rfl rfl) (cJ _ g3 rfl rfl) λc o x=>
  BO _ (BO _ (BO _ (BO _ (BO _ (BO _ x)))))⟩
end
section
variable {l1 l2 l3:Addr} {zs:List PyData}
noncomputable def Hq(z TI TO i1 i2 i3 l1 l2 l3:Addr)(f0:Value)(xs ys zs:List PyData):xH:= λT α μ i s=>(IsZip s.heap z TI TO f0∧er s.heap TI (.ref i1) (.ref i2) (.ref i3)∧∃a b c,er s.heap TO a b c)∧s.heap.IsListIter i1 l1 i∧s.heap.IsListIter i2 l2 i∧s.heap.IsListIter i3 l3 i∧bm s.heap α (T++ai α μ) (.ref l1) (.d (.list xs))∧bm s.heap α (T++ai α μ) (.ref l2) (.d (.list ys))∧bm s.heap α (T++ai α μ) (.ref l3) (.d (.list zs))
theorem hU.zip3(D:kC z TI TO i1 i2 i3 l1 l2 l3):lf C (.ref z) [z,TI,TO,i1,i2,i3] [] (xo xs ys zs) none true (Hq z TI TO i1 i2 i3 l1 l2 l3 .none xs ys zs)
  (λT α μ i v s=>∃a,v=.ref a∧Hq z TI TO i1 i2 i3 l1 l2 l3 (rawInt a) xs ys zs T α μ (i+1) s∧a∉[z,TI,TO,i1,i2,i3]) where
 frame:=by
  intro O T T' α α' μ μ' i s s' st S hO hwr hT hwT I0 I1 hg;refine mB st λz0 h3 h4 h7 h5 h6 h8=>oY z0 λh0 h1 a b c h2=>?_;have kp:= λ{b}=>jr I0 S hwr hwT (b:=b);exact ⟨⟨kp in1 _ h0,kp MB _ h1,a,b,c,kp zg _ h2⟩,bv h3 (kp BP),bv h4 (kp FS),bv h7 (kp in6),h5.stepO S hO hT,h6.stepO S hO hT,h8.stepO S hO hT⟩
 item:=by
  intro A T α μ i x s Q E R Iv hw st ex k;refine mB st λz0 h3 h4 h7 h5 h6 h8=>oY z0 λh0 h1 a0 b0 c0 h2=>?_;refine bq (h5.isList Iv rfl) λzz its1 e1 hp1 rr1=>bq (h6.isList Iv rfl) λzz its2 e2 hp2 rr2=>bq (h8.isList Iv rfl) λzz its3 e3 hp3 rr3=>?_;cases e1;cases e2;cases e3;refine Ju ex λx1 x2 x3 ex1 ex2 ex3 zx=>au (j6 rr1 ex1) λv1 ev1 r1=>au (j6 rr2 ex2) λv2 ev2 r2=>au (j6 rr3 ex3) λv3 ev3 r3=>?_;subst zx;refine oq R.handled D h0 h1 h2 h3 h4 h7 hp1.isList hp2.isList hp3.isList (λx' y' u' ex ey eu h' a1 a2 a3 a4 a5 a6 a7 a8=>?_) (λq=>q.elim (λq=>ct (q.symm.trans ev1)) λq=>q.elim (λq=>ct (q.symm.trans ev2)) λq=>ct (q.symm.trans ev3));have r1:=Fd (ev1.symm.trans ex)▸r1;have r2:=Fd (ev2.symm.trans ey)▸r2;have r3:=Fd (ev3.symm.trans eu)▸r3;have mv:aG [z,TI,TO,i1,i2,i3] [] s {s with heap:=h'}:=aG.of_heap (tk:=s.toks) λb o hb e=>a7 b o hb e;have hTI:er h' TI (.ref i1) (.ref i2) (.ref i3):=a8.trans h1;have J:=Iv.moves mv hw λb hb=>UY (P:= λb=>∃o,h'.get? b=some o) ⟨_,a1⟩ ⟨_,hTI⟩ ⟨_,a2⟩ (au a3 λo e zz=>⟨o,e⟩) (au a4 λo e zz=>⟨o,e⟩) (au a5 λo e zz=>⟨o,e⟩) hb;have lt:∀ {c o},s.heap.get? c=some o→s.heap.objs.size≠c:= λe=>PQ (Ma e);exact k _ _ mv J ⟨_,_,_,rfl,rfl,⟨_,a6,rfl,_,rfl⟩,.cons (r1.moves mv hw) (.cons (r2.moves mv hw) (.cons (r3.moves mv hw) (aw.nil _ _)))⟩ ⟨_,rfl,⟨⟨a1,hTI,_,_,_,a2⟩,a3,a4,a5,h5.moves mv hw,h6.moves mv hw,h8.moves mv hw⟩,λhb=>UY (P:= λb=>s.heap.objs.size≠b) (lt h0) (lt h1) (lt h2) (au h3 λo e zz=>lt e) (au h4 λo e zz=>lt e) (au h7 λo e zz=>lt e) hb rfl⟩
 go:=by
  intro A T α μ i x v t s Q E Iv hw st tg ir k;refine cn st λa hv st ha=>mB st λz0 h3 h4 h7 h5 h6 h8=>oY z0 λh0 h1 a0 b0 c0 h2=>jD tg λelts kk pos zq3=>?_;subst hv;subst zq3;have hnd:z∉[TI,TO,i1,i2,i3]:=(J_.mp D.nodup).1;refine Q2 h0 λh' he' hs'=>?_;have mv:aG [z,TI,TO,i1,i2,i3] [] s {s with heap:=h'}:=aG.of_heap (tk:=s.toks) (λb o hb e=>(hs'.2 b λq=>hb (q▸in1)).trans e);have kp:∀b,b≠z→∀o,s.heap.get? b=some o→h'.get? b=some o:= λb hb o e=>(hs'.2 b hb).trans e;have hTI:er h' TI (.ref i1) (.ref i2) (.ref i3):=kp _ (λq=>hnd (q▸in1)) _ h1;have hTO:er h' TO a0 b0 c0:=kp _ (λq=>hnd (q▸MB)) _ h2;have q3:h'.IsListIter i1 l1 (i+1):=bv h3 (kp _ λq=>hnd (q▸zg));have q4:h'.IsListIter i2 l2 (i+1):=bv h4 (kp _ λq=>hnd (q▸BP));have q7:h'.IsListIter i3 l3 (i+1):=bv h7 (kp _ λq=>hnd (q▸FS));have J:=Iv.moves mv hw λb hb=>UY (P:= λb=>∃o,h'.get? b=some o) ⟨_,he'⟩ ⟨_,hTI⟩ ⟨_,hTO⟩ (au q3 λo e zz=>⟨o,e⟩) (au q4 λo e zz=>⟨o,e⟩) (au q7 λo e zz=>⟨o,e⟩) hb;exact k _ mv J (ir.moves mv hw λzz a2 q o z=>by cases q;exact kp _ (λq=>ha (q▸in1)) _ z) ⟨⟨he',hTI,a0,b0,c0,hTO⟩,q3,q4,q7,h5.moves mv hw,h6.moves mv hw,h8.moves mv hw⟩
 done:=by
  intro A T α μ i s Q E R Iv hw st ex k;refine mB st λz0 h3 h4 h7 h5 h6 h8=>oY z0 λh0 h1 a0 b0 c0 h2=>bq (h5.isList Iv rfl) λzz its1 e1 hp1 rr1=>bq (h6.isList Iv rfl) λzz its2 e2 hp2 rr2=>bq (h8.isList Iv rfl) λzz its3 e3 hp3 rr3=>?_;cases e1;cases e2;cases e3;have hend:its1[i]? =none∨its2[i]? =none∨its3[i]? =none:=(uf ex).imp (fG rr1) λq=>(uf q).imp (fG rr2) (fG rr3);refine oq R.handled D h0 h1 h2 h3 h4 h7 hp1.isList hp2.isList hp3.isList (λx' y' u' ex ey eu=>hend.elim (λq=>ct (q.symm.trans ex)) λq=>q.elim (λq=>ct (q.symm.trans ey)) λq=>ct (q.symm.trans eu)) (λzz h' hx=>?_);have mv:aG [z,TI,TO,i1,i2,i3] [] s {s with heap:=h'}:=aG.of_heap (tk:=s.toks) (λb o hb e=>hx b o hb e);exact k _ mv λT' hT'=>Iv.done mv hw hT'
 self:=by
  intro A T α μ i s Q E st h;exact Pi st.1.1 h
end
section
theorem aJ.frames(hx:fZ O h h')(hO:∀a∈O,bX h a)(r:aJ h M v d):aJ h' M v d:=r.ext hx (λa ha=>.inr (.inl (hO a ha))) λzz=>.inl
theorem aw.frames(hx:fZ O h h')(hO:∀a∈O,bX h a){v:List Value}{d:List PyData}(r:aw h M v d):aw h' M v d:=r.ext hx (λa ha=>.inr (.inl (hO a ha))) λzz=>.inl
theorem bm.frames(hx:fZ O h h')(hO:∀a∈O,bX h a)(r:bm h α M v V):bm h' α M v V:=r.ext hx (λa ha=>.inr (.inl (hO a ha))) (λzz zz=>id) λzz=>.inl
theorem bl.frames(I:bl C T α μ s)(hx:fZ O s.heap h')(hO:∀a∈O,bX s.heap a∧C.B.get? a=none)(hd:∀a∈O,∃o,h'.get? a=some o):
  bl C T α μ {s with heap:=h',toks:=tk}∧aU O α μ s α μ {s with heap:=h',toks:=tk}:=by
 have dm:∀a o,s.heap.get? a=some o→∃o',h'.get? a=some o':= λa o e=>(US (a∈O)).elim (hd a) λq=>⟨o,hx a o e q⟩;exact ⟨I.ext hx (λa ha=>(hO a ha).2) (λa ha=>.inr (.inl (hO a ha).1)) (λa ha q=>I.notFrame ha (hO a q).1) (λzz=>id) (λa ha=>(I.tdom a ha).elim (dm a)) rfl I.gens rfl,aZ [] (DB _).symm (λzz h=>nomatch h),λb o e ht=>hx b o e λq=>ht (yo _ q),λzz h=>.inl h,dm,λzz zz e=>e⟩
theorem bl.frames'(I:bl C T α μ s)(hx:fZ O s.heap h')(hO:∀a∈O,bX s.heap a∧C.B.get? a=none)(hd:∀a∈O,a∉T):bl C T α μ {s with heap:=h',toks:=tk}:=
 I.ext hx (λa ha=>(hO a ha).2) (λa ha=>.inr (.inl (hO a ha).1)) (λa ha q=>I.notFrame ha (hO a q).1) (λzz=>id) (λa ha=>(I.tdom a ha).imp λo e=>hx a o e λq=>hd a q ha) rfl I.gens rfl
def gc(C:gK)(cx:Cx)(env:Env)(O T α:List Addr)(μ:List ah)(ρ':d0)(s s':Shared):Prop:=
 bl C T α μ s'∧aU O α μ s α μ s'∧bh C cx env O ρ' s'.heap α (T++ai α μ)
theorem ly{m:Str→Option Value}{o:Option Value}(x:h.Ns a m)(y:h.IsCell a o):False:=by
 refine jz x λob es ep e d zz=>?_;refine au y λob' e' d'=>?_;rw [e] at e';cases e'
 rw [d] at d';cases d'
theorem qI{W:AV}(h:(ρ.set i (some V))[j]? =some (some W))(k:j=i→W=V→G)(k':j≠i→ρ[j]? =some (some W)→G):G:=by
 rw [Qk] at h
 by_cases q:i=j
 ·rw [if_pos q] at h
  by_cases z:i<ρ.length
  ·rw [if_pos z] at h;exact k q.symm (Fd (Fd h)).symm
  ·rw [if_neg z] at h;exact ct h
 ·rw [if_neg q] at h
  exact k' (λz=>q z.symm) h
theorem bX.but{b:Addr}(x:bX h b)(hs:La a h h')(ha:bX h' a):bX h' b:=by
 by_cases q:b=a
 ·subst q;exact ha
 ·refine au x λo e z=>?_
  exact (aZ o ((hs.2 b q).trans e) z)
theorem iT(hs:La a h h'):fZ [a] h h':= λb o e hb=>(hs.2 b λq=>hb (by simp [q])).trans e
theorem sA(I:bl C T α μ s)(F:bh C cx env O ρ s.heap α (T++ai α μ))(ha:a∈O)(hs:La a s.heap h')(hf:bX h' a)(hl:ρ'.length=ρ.length)
  (loc:∀m,s.heap.Ns env.locals m→(∀ (i:Nat) x V,cx.names[i]? =some (x,1)→ρ[i]? =some (some V)→∃v,m x=some v∧bm s.heap α (T++ai α μ) v V)→(∀ {v V},bm s.heap α (T++ai α μ) v V→bm h' α (T++ai α μ) v V)→∃m,h'.Ns env.locals m∧∀ (i:Nat) x V,cx.names[i]? =some (x,1)→ρ'[i]? =some (some V)→∃v,m x=some v∧bm h' α (T++ai α μ) v V)
  (cel:∀cad,Qd cx env O ρ s.heap α (T++ai α μ) cad→(∀ {v V},bm s.heap α (T++ai α μ) v V→bm h' α (T++ai α μ) v V)→∀ (i:Nat) x k,cx.names[i]? =some (x,k)→2≤k→∃o,h'.IsCell (cad i) o∧∀V,ρ'[i]? =some (some V)→∃v,o=some v∧bm h' α (T++ai α μ) v V):gc C cx env O T α μ ρ' s {s with heap:=h',toks:=tk}:=by
 have hO1:∀b∈[a],bX s.heap b∧C.B.get? b=none:= λb hb=>(yA.mp hb)▸F.own a ha;have mv:∀ {v V},bm s.heap α (T++ai α μ) v V→bm h' α (T++ai α μ) v V:=bm.frames (iT hs) λb hb=>(hO1 b hb).1;refine fY (I.frames (tk:=tk) (iT hs) hO1 λb hb=>(yA.mp hb)▸(au hf λo e zz=>⟨o,e⟩)) λI' S'=>?_;exact ⟨I',S'.weak λb hb=>.inl ((yA.mp hb)▸ha),F.sc,F.gl,F.bn,hl.trans F.len,au F.loc λm hm hq=>loc m hm hq mv,bP F.cel λcad hc=>⟨cad,hc.look,cel cad hc mv,hc.own,hc.inj⟩,λb hb=>⟨(F.own b hb).1.but hs hf,(F.own b hb).2⟩,F.lo,F.off,F.nd⟩
theorem sF(i:Nat)(hn:cx.names[i]? =some (x,1))(hl:cx.scope.names.lookup x=some .local)(hk:cx.scope.kind=.function)
  (I:bl C T α μ s) (F:bh C cx env O ρ s.heap α (T++ai α μ)) (r:bm s.heap α (T++ai α μ) v V):
  wpAny (model C.prog C.w) A (storeName env x v) (λzz s'=>gc C cx env O T α μ (ρ.set i (some V)) s s') E s:=by
 refine au F.loc λm0 hm0 hq0=>?_;refine P7 (by unfold J3;rw [F.sc];exact hl) hm0 (λh' hn' hs'=>?_) (by rw [F.sc,hk];rfl);refine sA I F F.lo hs' (fO hn') Lq (λzz hm zz mv=>aZ _ hn' λj y W h1 h2=>qI h2 (λe1 e2=>?_) λhj h2=>?_) λcad hc mv j y k h1 h2=>?_
 ·subst e1;subst e2
  rw [hn] at h1;refine cg h1 ?_
  exact aZ v (if_pos rfl) (mv r)
 ·have hy:y≠x:= λq=>hj (F.nd j i x (q▸h1) hn)
  exact au (hq0 j y W h1 h2) λu e ru=>aZ u ((if_neg hy).trans e) (mv ru)
 ·refine au (hc.has j y k h1 h2) λo ho hv=>aZ o (qm ho (iT hs') λq=>ly hm0 ((yA.mp q)▸ho)) λW h3=>qI h3 (λe1 e2=>?_) λhj h3=>au (hv W h3) λu e ru=>aZ u e (mv ru)
  subst e1;cases hn.symm.trans h1;exact absurd h2 (by decide)
theorem Em(i:Nat)(hn:cx.names[i]? =some (x,2))(hl:cx.scope.names.lookup x=some .cell)(hk:cx.scope.kind=.function)
  (I:bl C T α μ s) (F:bh C cx env O ρ s.heap α (T++ai α μ)) (r:bm s.heap α (T++ai α μ) v V):
  wpAny (model C.prog C.w) A (storeName env x v) (λzz s'=>gc C cx env O T α μ (ρ.set i (some V)) s s') E s:=by
 refine bP F.cel λcad0 hc0=>?_;refine au (hc0.has i x 2 hn (DI _)) λo ho hv=>?_;have hlk:=hc0.look i x 2 hn (DI _);refine wpAny_storeName_cell (by rw [F.sc];exact hk) (by unfold J3;rw [F.sc];exact hl) hlk ho λh' hn' hs'=>?_;refine sA (tk:=s.toks) I F (hc0.own i x hn) hs' (gV hn') Lq (λm hm hq mv=>aZ m (zd hm (iT hs') λq=>ly hm ((yA.mp q)▸ho)) λj y W h1 h2=>qI h2 (λe1 e2=>?_) λhj h2=>?_) λcad hc mv j y k h1 h2=>?_
 ·subst e1
  rw [hn] at h1;cases h1
 ·exact au (hq j y W h1 h2) λu e ru=>aZ u e (mv ru)
 ·have ec:cad i=cad0 i:=Fd ((hc.look i x 2 hn (DI _)).symm.trans hlk)
  by_cases hji:j=i
  ·subst hji
   refine aZ (some v) (ec▸hn') λW h3=>aZ v rfl (qI h3 (λzz e2=>?_) λhj zz=>absurd rfl hj);rw [e2];exact mv r
  ·refine au (hc.has j y k h1 h2) λo' ho' hv'=>aZ o' (qm ho' (iT hs') λq=>hji (hc.inj j i y x k 2 h1 hn h2 (DI _) ((yA.mp q).trans ec.symm))) λW h3=>qI h3 (λhj zz=>absurd hj hji) λzz h3=>au (hv' W h3) λu e ru=>aZ u e (mv ru)
end
def nP(C:gK)(cx:Cx)(tgt:Expr)(tup:Bool)(tf:d0→PyData→Option d0):Prop:=Hr tup tgt∧∀A env O T ρ α μ s E v x ρ',A.handled=none→bl C T α μ s→bh C cx env O ρ s.heap α (T++ai α μ)→
 fk tup s.heap (T++ai α μ) v x→tf ρ x=some ρ'→wpAny (model C.prog C.w) A (assign tgt env v) (λzz s'=>gc C cx env O T α μ ρ' s s') E s
def aA(C:gK)(cx:Cx)(x:Str)(i:Nat):Prop:=∀A env O T ρ α μ s E v V,bl C T α μ s→bh C cx env O ρ s.heap α (T++ai α μ)→bm s.heap α (T++ai α μ) v V→
 wpAny (model C.prog C.w) A (storeName env x v) (λzz s'=>gc C cx env O T α μ (ρ.set i (some V)) s s') E s
noncomputable def du(i:Nat):d0→PyData→Option d0:= λρ x=>some (ρ.set i (some (.d x)))
noncomputable def l3{X:Type}:List X→Option (X×X×X)
 | [a,b,c]=>some (a,b,c)
 |_=>none
theorem YE{X:Type}{l:List X}{p:X×X×X}(h:l3 l=some p):l=[p.1,p.2.1,p.2.2]:=by
 cases l with
 |nil=>exact ct h
 |cons a l=>
  cases l with
  |nil=>exact ct h
  |cons b l=>
   cases l with
   |nil=>exact ct h
   |cons c l=>
    cases l with
    |nil=>cases h;rfl
    |cons d l=>exact ct h
noncomputable def jc(i j:Nat):d0→PyData→Option d0:= λρ d=>bp ((dT d).bind l2) λa b=>some ((ρ.set i (some (.d a))).set j (some (.d b)))
noncomputable def XS(i j k:Nat):d0→PyData→Option d0:= λρ d=>bp ((dT d).bind l3) λa p=>some (((ρ.set i (some (.d a))).set j (some (.d p.1))).set k (some (.d p.2)))
theorem So{X:Type}{f:List PyData→Option X}{p:X}(h:(dT d).bind f=some p)(k:∀ds,d=.tuple ds→f ds=some p→G):G:=by
 cases q:dT d with
 |none=>rw [q] at h;exact ct h
 |some ds=>rw [q] at h;exact k ds (TL q) h
theorem iu(r:aw h M vs (d::ds))(k:∀v us,vs=v::us→aJ h M v d→aw h M us ds→G):G:=by
 cases r with
 |ccons r rs=>exact k _ _ rfl r rs
theorem kY(r:aw h M vs []):vs=[]:=by
 cases r with
 |cnil=>rfl
section
theorem tv(i:Nat)(hn:cx.names[i]? =some (x,1))(hl:cx.scope.names.lookup x=some .local)(hk:cx.scope.kind=.function):aA C cx x i:= λzz zz zz zz zz zz zz zz zz zz zz I F r=>sF i hn hl hk I F r
theorem eS(i:Nat)(hn:cx.names[i]? =some (x,2))(hl:cx.scope.names.lookup x=some .cell)(hk:cx.scope.kind=.function):aA C cx x i:= λzz zz zz zz zz zz zz zz zz zz zz I F r=>Em i hn hl hk I F r
theorem bM(h:aA C cx x i):nP C cx (.Name x pos) false (du i):=by
 refine ⟨(jH x pos rfl),λA env O T ρ α μ s E v x ρ' hh I F r e=>?_⟩;refine cA e ?_;exact Qs (h A env O T ρ α μ s E v (.d x) I F r)
theorem gc.trans{s2:Shared}(x:gc C cx env O T α μ ρ1 s s1)(y:gc C cx env O T α μ ρ2 s1 s2):gc C cx env O T α μ ρ2 s s2:=(fu y.1 (x.2.1.trans y.2.1) y.2.2)
theorem gZ(x:P0 h.objs.size h h'):∀b o,h.get? b=some o→h'.get? b=some o:= λb o e=>x b o (LJ (Ma e)) e
theorem bh.keeps(F:bh C cx env O ρ s.heap α (T++ai α μ))(I:bl C T α μ s)(hk:∀b o,s.heap.get? b=some o→h'.get? b=some o):bh C cx env O ρ h' α (T++ai α μ):=
 F.step (s':= {s with heap:=h'}) I (aU.keeps (tk:=s.toks) hk)
section
variable {s0:Shared}
theorem Gn{elts:List Expr}{Q:Unit→Shared→Prop}(hh:A.handled=none)(I:bl C T α μ s)(F:bh C cx env O ρ s.heap α (T++ai α μ))(r:fk true s.heap (T++ai α μ) v d)(e:d=.tuple ds)(hn:(assignEach elts env).length=ds.length)(hstar:(assignEach elts env).findIdx? (·.1)=none)
  (k:∀vs s1,bl C T α μ s1→bh C cx env O ρ s1.heap α (T++ai α μ)→aU O α μ s α μ s1→aw s1.heap (T++ai α μ) vs ds→wpAny (model C.prog C.w) A (assignInOrder ((assignEach elts env).map (·.2)) vs) Q E s1):wpAny (model C.prog C.w) A (assign (.Tuple elts kk pos) env v) Q E s:=by
 refine dg r λa items ds' zq3 zq4 ht rr=>?_;subst zq3;cases e.symm.trans zq4;refine SV hh ht (hn.trans (rr.length.symm.trans (Array.length_toList))) hstar λh' he=>?_;have hk:=gZ he;exact k _ _ (I.keeps (tk:=s.toks) hk) (F.keeps I hk) (aU.keeps (tk:=s.toks) hk).up (rr.keeps hk)
theorem kn{t:Value→Sem Unit}{ts:List (Value→Sem Unit)}{Q:Unit→Shared→Prop}(ht:∀v (Q:Unit→Shared→Prop),wpAny (model C.prog C.w) A (storeName env x v) Q E s→wpAny (model C.prog C.w) A (t v) Q E s)(hx:aA C cx x i)(I:bl C T α μ s)(F:bh C cx env O ρ s.heap α (T++ai α μ))(S:aU O α μ s0 α μ s)(r:aw s.heap (T++ai α μ) vs (d::ds))
  (k:∀us s1,bl C T α μ s1→bh C cx env O (ρ.set i (some (.d d))) s1.heap α (T++ai α μ)→aU O α μ s0 α μ s1→aw s1.heap (T++ai α μ) us ds→wpAny (model C.prog C.w) A (assignInOrder ts us) Q E s1):wpAny (model C.prog C.w) A (assignInOrder (t::ts) vs) Q E s:=
 iu r λv us e r rs=>e▸PR (ht v _ (D2 (hx A env O T ρ α μ _ E v (.d d) I F r) (λzz s2 st=>k us s2 st.1 st.2.2 (S.trans st.2.1) (rs.ext st.2.1.ext (iF.app λa ha=>.inr (.inl (F.own a ha).1)) λzz=>.inl)) λzz zz x=>x))
theorem fm{ts:List (Value→Sem Unit)}{Q:Unit→Shared→Prop}(hx:aA C cx x i)(I:bl C T α μ s)(F:bh C cx env O ρ s.heap α (T++ai α μ))(S:aU O α μ s0 α μ s)(r:aw s.heap (T++ai α μ) vs (d::ds))
  (k:∀us s1,bl C T α μ s1→bh C cx env O (ρ.set i (some (.d d))) s1.heap α (T++ai α μ)→aU O α μ s0 α μ s1→aw s1.heap (T++ai α μ) us ds→wpAny (model C.prog C.w) A (assignInOrder ts us) Q E s1):wpAny (model C.prog C.w) A (assignInOrder (assign (.Name x px) env::ts) vs) Q E s:=
 kn (λzz zz h=>Qs h) hx I F S r k
theorem kH(I:bl C T α μ s)(F:bh C cx env O ρ s.heap α (T++ai α μ))(S:aU O α μ s0 α μ s)(r:aw s.heap (T++ai α μ) vs []):wpAny (model C.prog C.w) A (assignInOrder [] vs) (λzz s'=>gc C cx env O T α μ ρ s0 s') E s:=
 kY r▸assignInOrder_nil (fu I S F)
end
theorem eW{y:Str}(hx:aA C cx x i)(hy:aA C cx y j):nP C cx (.Tuple [.Name x px,.Name y py] kk pos) true (jc i j):=
 ⟨jE _ _ _ rfl,λA env O T ρ α μ s E v d ρ' hh I F r e=>aD e λa b q e=>So q λds ed q=>cA e (Gn hh I F r (ed.trans (congrArg _ (yy q))) rfl rfl λzz zz I F S r=>fm hx I F S r λzz zz I F S r=>fm hy I F S r λzz zz I F S r=>kH I F S r)⟩
theorem Ji{y z:Str}{pz:Pos}(hx:aA C cx x i)(hy:aA C cx y j)(hz:aA C cx z k):nP C cx (.Tuple [.Name x px,.Name y py,.Name z pz] kk pos) true (XS i j k):=
 ⟨jE _ _ _ rfl,λA env O T ρ α μ s E v d ρ' hh I F r e=>aD e λa b q e=>So q λds ed q=>cA e (Gn hh I F r (ed.trans (congrArg _ (YE q))) rfl rfl λzz zz I F S r=>fm hx I F S r λzz zz I F S r=>fm hy I F S r λzz zz I F S r=>fm hz I F S r λzz zz I F S r=>kH I F S r)⟩
end
def cQ(C:gK)(T α:List Addr)(μ:List ah)(s:Shared)(xs:List PyData)(g:Option Nat)(tup:Bool)(μ':List ah)(it:Value)(s':Shared):Prop:=
 ∃wr gi St Mid α',hU C it gi xs g tup St Mid∧bl C (wr++T) α' μ' s'∧aU [] α μ s α' μ' s'∧St wr (wr++T) α' μ' 0 s'∧(∀b∈wr,s.heap.get? b=none)∧(∀i∈gi,s.gens[i]? =none)∧cu g xs μ'
noncomputable abbrev IF:=d0→List ah→Option (List PyData×Option Nat×List ah)
structure lS (C:gK) (n:Nat) (cx:Cx) (e:Expr) (tup:Bool) (f:IF):Prop where
 of::
 run:∀A env O T ρ α μ s E xs g μ',cP A n→bl C T α μ s→bh C cx env O ρ s.heap α (T++ai α μ)→f ρ μ=some (xs,g,μ')→
  wpAny (model C.prog C.w) A (eval e env) (λv s1=>wpAny (model C.prog C.w) A (pyIter v) (cQ C T α μ s xs g tup μ') E s1) E s
section
theorem EH{g g':Array GenState}(h:∀ (i:Nat) (x:GenState),g[i]? =some x→g'[i]? =some x)(e:g'[i]? =none):g[i]? =none:=by
 cases q:g[i]? with
 |none=>rfl
 |some x=>rw [h i x q] at e;exact ct (ES e)
theorem cQ.trans{g:Option Nat}(x:aU [] α μ s α' μ' s')(p:cQ C T α' μ' s' xs g tup μ'' it s''):cQ C T α μ s xs g tup μ'' it s'':=by
 refine gw p λwr gi St Mid α'' W I S st hw hg hgd=>?_;exact (j1 wr gi St Mid α'' W I (x.trans S) st (λb hb=>dW x.dom (hw b hb)) (λi hi=>EH x.gens (hg i hi)) hgd)
theorem lu(hW:∀a∈W,s.heap.get? a=none):∀a∈(W++T)++ai α μ,a∈T++ai α μ∨s.heap.get? a=none:= λa ha=>
 (AA.mp ha).elim (λh=>(AA.mp h).elim (λh=>.inr (hW a h)) λh=>.inl (yo _ h)) λh=>.inl (CE _ h)
theorem aJ.grow(r:aJ s.heap (T++ai α μ) v d)(hk:∀b o,s.heap.get? b=some o→s'.heap.get? b=some o)(hW:∀a∈W,s.heap.get? a=.none):aJ s'.heap ((W++T)++ai α μ) v d:=
 r.ext (W:=[]) (fZ.of_keeps hk) (iF.nil _ _) (lu hW)
theorem aw.grow{v:List Value}{d:List PyData}(r:aw s.heap (T++ai α μ) v d)(hk:∀b o,s.heap.get? b=some o→s'.heap.get? b=some o)(hW:∀a∈W,s.heap.get? a=none):aw s'.heap ((W++T)++ai α μ) v d:=
 r.ext (W:=[]) (fZ.of_keeps hk) (iF.nil _ _) (lu hW)
theorem bm.grow(r:bm s.heap α (T++ai α μ) v V)(hk:∀b o,s.heap.get? b=some o→s'.heap.get? b=some o)(hW:∀a∈W,s.heap.get? a=none):bm s'.heap α ((W++T)++ai α μ) v V:=
 r.ext (W:=[]) (fZ.of_keeps hk) (iF.nil _ _) (λzz zz=>id) (lu hW)
theorem bl.grow(I:bl C T α μ s)(hk:∀b o,s.heap.get? b=some o→s'.heap.get? b=some o)(hos:s'.os=s.os)(hb:AllBare s.gens→AllBare s'.gens)(hW:∀a∈W,s.heap.get? a=none)(hd:∀a∈W,∃o,s'.heap.get? a=some o):bl C (W++T) α μ s':=by
 refine ⟨λb o e=>hk b o (I.keep b o e),I.len,λi a c h1 h2=>(I.cells i a c h1 h2).ext (W:=[]) (fZ.of_keeps hk) (iF.nil _ _) (lu hW) (λzz q=>nomatch q),I.nodup,λa ha q=>(AA.mp ha).elim (λh=>I.cdom q (hW a h)) (λh=>I.apart a h q),λa ha=>(AA.mp ha).elim (hd a) (λh=>(I.tdom a h).imp λo e=>hk a o e),λa ha=>(AA.mp ha).elim (λh=>?_) (I.tnew a),I.new,hb I.gens,hos.trans I.os⟩;cases e:C.B.get? a with
 |none=>rfl
 |some o=>exact ct ((hW a h).symm.trans (I.keep a o e))
theorem bh.grow(F:bh C cx env O ρ s.heap α (T++ai α μ))(hk:∀b o,s.heap.get? b=some o→s'.heap.get? b=some o)(hW:∀a∈W,s.heap.get? a=none):bh C cx env O ρ s'.heap α ((W++T)++ai α μ):=
 F.ext (W:=[]) (fZ.of_keeps hk) (iF.nil _ _) (λzz zz=>id) (lu hW) λzz zz q=>nomatch q
theorem aU.of_keeps(hk:∀b o,s.heap.get? b=some o→s'.heap.get? b=some o)(hg:∀ (i:Nat) (x:GenState),s.gens[i]? =some x→s'.gens[i]? =some x):aU [] α μ s α μ s':=
 ⟨(aZ ([]) (by simp) (by simp)),fZ.of_keeps hk,λzz h=>.inl h,λa o e=>⟨o,hk a o e⟩,hg⟩
theorem cQ.new{g:Option Nat}{St:xH}{Mid:List Addr→List Addr→List ah→Nat→Value→Shared→Prop}(I:bl C T α μ s)(W:lf C it wr [] xs g tup St Mid)
  (hk:∀b o,s.heap.get? b=some o→h'.get? b=some o) (hw:∀a∈wr,s.heap.get? a=none) (hd:∀a∈wr,∃o,h'.get? a=some o) (hg:cu g xs μ)
  (st:St (wr++T) α μ 0 {s with heap:=h',toks:=tk}):cQ C T α μ s xs g tup μ it {s with heap:=h',toks:=tk}:=
 (j1 wr ([]) (StW wr St) (YT wr Mid) α W.walk (I.grow (s':= {s with heap:=h',toks:=tk}) hk rfl (λh=>h) hw hd) (aU.of_keeps hk λzz zz e=>e) ⟨rfl,st⟩ hw (by simp) hg)
theorem bw(ha:h.objs.size≤a):h.get? a=none:=by
 cases e:h.get? a with
 |none=>rfl
 |some o'=>exact absurd (Ma e) (Nat.not_lt.mpr ha)
theorem Aw(h:da μ V=some xs):cu (Fh V) xs μ:=by
 intro j e;cases V with
 |c i=>refine cA e ?_;exact h
 |d x=>exact ct e
 |rng a b=>exact ct e
 |ty T=>exact ct e
theorem DV:∀b∈[h.objs.size],h.get? b=none:= λzz hb=>(yA.mp hb)▸bw (DI _)
theorem cQ.push{g:Option Nat}{St:xH}{Mid:List Addr→List Addr→List ah→Nat→Value→Shared→Prop}(I:bl C T α μ s)(W:lf C (.ref s.heap.objs.size) [s.heap.objs.size] [] xs g tup St Mid)(hg:cu g xs μ)(hf:o.isFreed=false)
  (st:St ([s.heap.objs.size]++T) α μ 0 {s with heap:=s.heap.push o}):cQ C T α μ s xs g tup μ (.ref s.heap.objs.size) {s with heap:=s.heap.push o}:=
 cQ.new (tk:=s.toks) I W (bb _ _) DV (λb hb=>(yA.mp hb)▸⟨_,Dm _ hf⟩) hg st
theorem E0(I:bl C T α μ s)(r:bm s.heap α (T++ai α μ) v V)(h:da μ V=some xs)(ht:tup=false∨ni xs=true):
  wpAny (model C.prog C.w) A (pyIter v) (cQ C T α μ s xs (Fh V) tup μ) E s:=by
 refine bq (r.isList I h) λa items zq2 hp rr=>?_;subst zq2;refine M6 hp.isList ?_;exact cQ.push I (hU.list (V:=V) (λq=>fM (fH hp) (bw (Tz q.symm))) λq=>ht.elim (λz=>nomatch q.symm.trans z) id) (Aw h) rfl (fu (cJ _ (Dm _ rfl) rfl rfl) (r.grow (s':= {s with heap:=_}) (bb _ _) DV) h)
theorem Aa(I:bl C T α μ s)(r:bm s.heap α (T++ai α μ) v (.d (.tuple xs))):
  wpAny (model C.prog C.w) A (pyIter v) (cQ C T α μ s xs none false μ) E s:=by
 cases r with
 | @ctuple a items _ hp haM rr=>
 refine wpAny_pyIter_tuple hp ?_;exact cQ.push I (hU.tuple (items:=items) λq=>fM (i0 hp) (bw (Tz q.symm))) (λzz e=>nomatch e) rfl (lm (cJ _ (Dm _ rfl) rfl rfl) (ku hp (W:=[]) (fZ.of_keeps (bb _ _)) (λq=>nomatch q)) (rr.grow (s':= {s with heap:=_}) (bb _ _) DV) (λq=>(lu DV a q).elim haM (fM (i0 hp))))
theorem zC{a b:Int}(I:bl C T α μ s)(r:bm s.heap α (T++ai α μ) v (.rng a b))(hsm:K4 a b 1=true):
  wpAny (model C.prog C.w) A (pyIter v) (cQ C T α μ s (fJ a (b-a).toNat) none false μ) E s:=by
 refine pE r λr t u w zq4 hr hM=>?_;subst zq4;refine wpAny_pyIter_range hr hsm ?_;have hz:Mg a b 1=((b-a).toNat:Int)-(0:Nat):=by
  unfold Mg;simp only [show (1:Int)>0 by decide,if_true]
  split<;>lia
 refine cQ.push I hU.range (λzz e=>nomatch e) rfl (?_:IsRangeIter _ s.heap.objs.size (a+((0:Nat):Int)*1) (((b-a).toNat:Int)-(0:Nat)) 1);rw [←hz,show a+((0:Nat):Int)*1=a by lia];exact Dm _ rfl
end
theorem ac8(h:Iw V=some xs):V=.d (.tuple xs):=ax h λd e1 e2=>(iP e1).trans (congrArg _ (TL e2))
noncomputable def WD:AV→Option (Int×Int)
 | .rng a b=>some (a,b)
 |_=>none
theorem PY{p:Int×Int}(h:WD V=some p):V=.rng p.1 p.2:=by
 cases V with
 |rng a b=>cases h;rfl
 |_=>exact ct h
def aK(tup:Bool)(f:EF):IF:= λρ μ=>bp (f ρ μ) λV μ1=>oe (Iw V) (some ()) (λxs zz=>if tup=false then some (xs,none,μ1) else none) (oe (WD V) (some ()) (λr zz=>if tup=false∧K4 r.1 r.2 1=true then some (fJ r.1 (r.2-r.1).toNat,none,μ1) else none)
 (bo (da μ1 V) λxs=>if tup=false∨ni xs=true then some (xs,Fh V,μ1) else none))
section
theorem c5(hf:ab C n cx e f):lS C n cx e tup (aK tup f):=by
 refine .of ?_;intro A env O T ρ α μ s E xs g μ' R I F h;refine aD h λV μ1 e1 h=>hf.go R I F e1 λv s1 α1 I1 S1 r1=>?_;refine bU h (λys zz e2 zz h=>i6 h λhq h=>?_) λh=>bU h (λp zz e2 zz h=>i6 h λhq h'=>?_) λh=>ax h λys e2 h=>i6 h λhq h=>?_
 ·subst hq
  exact ga h (D2 (Aa I1 (ac8 e2▸r1)) (λzz zz q=>cQ.trans S1 q) λzz zz x=>x)
 ·refine fY hq λz hsm=>?_
  subst z;exact ga h' (D2 (zC I1 (PY e2▸r1) hsm) (λzz zz q=>cQ.trans S1 q) λzz zz x=>x)
 ·exact ga h (D2 (E0 I1 r1 e2 hq) (λzz zz q=>cQ.trans S1 q) λzz zz x=>x)
noncomputable abbrev iW:=List AV→List ah→Option (List PyData×Option Nat×List ah)
def ij(C:gK)(n:Nat)(f:Value)(tup:Bool)(spec:iW):Prop:=∀A T α μ s E vs Vs xs g μ',cP A n→bl C T α μ s→eZ s.heap α (T++ai α μ) vs Vs→spec Vs μ=some (xs,g,μ')→
 wpAny (model C.prog C.w) A (call f vs) (λv s1=>wpAny (model C.prog C.w) A (pyIter v) (cQ C T α μ s xs g tup μ') E s1) E s
def b_(fs:List EF)(spec:iW):IF:= λρ μ=>bp (eX fs ρ μ) spec
variable {spec:iW}
theorem Tc(hg:C.mg x=none)(hb:bootBuiltins x=some fv)(hx:x≠"__name__")(hn:kO fv)(hf:ij C n fv tup spec)
  (ha:dc C n cx (e::es) fs) (hs:∀env,starEach (e::es) env=(false,eval e env)::starEach es env) (hp:∀env,(backTo pos (starEach (e::es) env)).any (·.1)=false)
  (hl:cx.scope.names.lookup x=some .globalImplicit) (hk:cx.scope.kind=.function) (hdb:(x==("__debug__":Str))=false):
  lS C n cx (.Call (.Name x xp) (e::es) [] pos) tup (b_ fs spec):=by
 refine .of ?_;intro A env O T ρ α μ s E xs g μ' R I F h;refine aD h λVs μ1 e1 h=>?_
 ·refine (?_:wpAny _ A (do callWith pos (←eval (.Name x xp) env) [] (backTo pos (starEach (e::es) env)) []) _ _ s)
  refine yt (E_ (by rw [F.sc];exact hk) (by unfold J3;rw [F.sc];exact hl) (Ld (by rw [F.gl];exact C.g.keeps I.keep) hg (by rw [F.bn];exact C.b.keeps I.keep) ((C.bt x hx).trans hb) ?_) hdb);refine hn _ _ _ _ _ _ _ _ (hp env) (ee (hs env) ha R I F e1 λvs s1 α1 I1 S1 r1=>?_);exact D2 (hf A T α1 μ1 s1 E vs Vs xs g μ' R I1 r1 h) (λv s2 p=>D2 p (λzz zz q=>cQ.trans S1 q) λzz zz x=>x) λzz zz x=>x
theorem MU{fd:FuncData}(hg:C.mg x=some (.ref fa))(ho:C.B.get? fa=some o)(hd:o.data=.func fd)(hf:ij C n (.ref fa) tup spec)
  (ha:dc C n cx (e::es) fs) (hs:∀env,starEach (e::es) env=(false,eval e env)::starEach es env)
  (hl:cx.scope.names.lookup x=some .globalImplicit) (hk:cx.scope.kind=.function) (hdb:(x==("__debug__":Str))=false):
  lS C n cx (.Call (.Name x xp) (e::es) [] pos) tup (b_ fs spec):=by
 refine .of ?_;intro A env O T ρ α μ s E xs g μ' R I F h;refine aD h λVs μ1 e1 h=>?_
 ·refine (?_:wpAny _ A (do callWith pos (←eval (.Name x xp) env) [] (backTo pos (starEach (e::es) env)) []) _ _ s)
  refine yt (E_ (by rw [F.sc];exact hk) (by unfold J3;rw [F.sc];exact hl) (L5 (by rw [F.gl];exact C.g.keeps I.keep) hg ?_) hdb);refine MP (o:=o) (fd:=fd) (ee (hs env) ha R I F e1 λvs s1 α1 I1 S1 r1=>⟨⟨I1.keep _ _ ho,hd⟩,?_⟩);exact D2 (hf A T α1 μ1 s1 E vs Vs xs g μ' R I1 r1 h) (λv s2 p=>D2 p (λzz zz q=>cQ.trans S1 q) λzz zz x=>x) λzz zz x=>x
end
variable {itf : IF}
noncomputable def g9:iW:= λVs μ=>bo (l1 Vs) λV=>bp (w5 V μ) λd μ1=>bo (dL d) λxs=>some (cL 0 xs,none,μ1)
theorem JL(r:aJ h M v (.list xs)):∃a items,v=.ref a∧h.PlainList a items∧a<h.objs.size:=
 bq r.of_list λa items z hp zz=>dw a items z hp (bP hp λn e=>Ma e)
theorem gF(r:eZ h α M vs Vs)(e:l1 Vs=some V)(k:∀v,vs=[v]→bm h α M v V→G):G:=by
 rw [Vg e] at r
 exact au (FZ r) k
theorem uA{a:Nat}(h:a<k)(j:Nat):a≠k+j:=LJ (Ol h (Fj ..))
theorem iO:ij C n (.type "enumerate") true g9:=by
 intro A T α μ s E vs Vs xs g μ' R I r h;refine ax h λV eV h=>aD h λd μ1 e1 h=>ax h λys ed h=>ga h (gF r eV λv zq1 r1=>?_);subst zq1;refine dU (tb I r1 e1) λI1 S1 r2=>?_;rw [SM ed] at r2
 refine bq (JL r2) λa items zq2 hp hlt=>?_;subst zq2;refine call_enumerate_list hp.isList λh' he hi hsz hk=>Qr he (cQ.trans S1 ?_);have hw:∀b∈[s.heap.objs.size+1,s.heap.objs.size],s.heap.get? b=none∧∃o,h'.get? b=some o:= λb hb=>(Ch.mp hb).elim (λq=>q▸⟨bw (OV _),_,he⟩) λq=>(yA.mp q)▸⟨bw (DI _),au hi λo e zz=>⟨o,e⟩⟩;exact cQ.new (tk:=s.toks) I1 (hU.enum (e:=s.heap.objs.size+1) (it:=s.heap.objs.size) (l:=a) (Nm _) (uA hlt 1) (uA hlt 0)) hk (λb hb=>(hw b hb).1) (λb hb=>(hw b hb).2) (λzz e=>nomatch e) (fu ⟨_,he⟩ hi (bm.grow (V:=.d (.list ys)) (s':= {s with heap:=h'}) r2 hk λb hb=>(hw b hb).1))
noncomputable def lk:iW:= λVs μ=>bp (lJ Vs μ) λds μ1=>bp (l2 ds) λx y=>oe (dL x) (dL y) (λxs ys=>some (mJ xs ys,none,μ1)) none
noncomputable def AH:iW:= λVs μ=>bp (lJ Vs μ) λds μ1=>bp (l3 ds) λx p=>oe (dL x) (dL p.1) (λxs ys=>bo (dL p.2) λzs=>some (xo xs ys zs,none,μ1)) none
theorem ii(r:aw h M vs (d::ds))(e:dL d=some xs)(k:∀a items us,vs=.ref a::us→aJ h M (.ref a) (.list xs)→h.PlainList a items→a<h.objs.size→aw h M us ds→G):G:=by
 rw [SM e] at r
 exact iu r λv us z r1 rs=>bq (JL r1) λa items zv hp hl=>k a items us (zv▸z) (zv▸r1) hp hl rs
theorem Bu:ij C n (.type "zip") true lk:=by
 intro A T α μ s E vs Vs xs g μ' R I r h;refine aD h λds μ1 e1 h=>aD h λx y el h=>bU h (λxs1 ys1 ex ey h=>ga h ?_) λh=>ct h;refine dU (jm I r e1) λI1 S1 r2=>?_;rw [yy el] at r2
 refine ii r2 ex λa its1 us zu q1 hp1 hl1 r2=>ii r2 ey λb its2 us2 zu2 q2 hp2 hl2 r2=>?_;cases kY r2;subst zu2;subst zu;refine call_zip_2 hp1.isList hp2.isList λh' hz hTI hTO i1 i2 hsz hk=>Pi hz (cQ.trans S1 ?_);have hw:∀b∈[s.heap.objs.size+4,s.heap.objs.size+2,s.heap.objs.size+3,s.heap.objs.size,s.heap.objs.size+1],s.heap.get? b=none∧∃o,h'.get? b=some o:= λb hb=>Es (P:= λb=>s.heap.get? b=none∧∃o,h'.get? b=some o) ⟨bw (Fj ..),_,hz⟩ ⟨bw (Fj ..),_,hTI⟩ ⟨bw (Fj ..),_,hTO⟩ ⟨bw (DI _),au i1 λo e zz=>⟨o,e⟩⟩ ⟨bw (Fj ..),au i2 λo e zz=>⟨o,e⟩⟩ hb;have hw1:= λb hb=>(hw b hb).1;have na:=uA hl1;have nb:=uA hl2;have D:ZipApart (s.heap.objs.size+4) (s.heap.objs.size+2) (s.heap.objs.size+3) s.heap.objs.size (s.heap.objs.size+1) a b:=by
  constructor<;>first|exact na _|exact nb _|exact na 0|exact nb 0| (refine LJ ?_;lia)| (refine PQ ?_;lia)
 exact cQ.new (tk:=s.toks) I1 (hU.zip2 (xs:=xs1) (ys:=ys1) D ⟨(na 2).symm,(nb 2).symm⟩) hk hw1 (λc hc=>(hw c hc).2) (λzz e=>nomatch e) (uC ⟨hz,hTI,_,_,hTO⟩ i1 i2 (bm.grow (V:=.d (.list xs1)) (s':= {s with heap:=h'}) q1 hk hw1) (bm.grow (V:=.d (.list ys1)) (s':= {s with heap:=h'}) q2 hk hw1))
theorem nd6(k:Nat):([k+5,k+3,k+4,k,k+1,k+2]:List Nat).Nodup:=by
 simp only [J_,Ch,DM,or_false,not_false_eq_true,N0,and_true];lia
theorem TU{a:Nat}(h:a<k):a∉([k+5,k+3,k+4,k,k+1,k+2]:List Nat):=by
 simp only [Ch,DM,or_false];lia
theorem Nk:ij C n (.type "zip") true AH:=by
 intro A T α μ s E vs Vs xs g μ' R I r h;refine aD h λds μ1 e1 h=>aD h λx p el h=>bU h (λxs1 ys1 ex ey h=>ax h λzs1 ez h=>ga h ?_) λh=>ct h;refine dU (jm I r e1) λI1 S1 r2=>?_;rw [YE el] at r2
 refine ii r2 ex λa its1 us zu q1 hp1 hl1 r2=>ii r2 ey λb its2 us2 zu2 q2 hp2 hl2 r2=>ii r2 ez λc its3 us3 zu3 q3 hp3 hl3 r2=>?_;cases kY r2;subst zu3;subst zu2;subst zu;refine zw hp1.isList hp2.isList hp3.isList λh' hz hTI hTO i1 i2 i3 hk=>Pi hz (cQ.trans S1 ?_);have hw:∀b∈[s.heap.objs.size+5,s.heap.objs.size+3,s.heap.objs.size+4,s.heap.objs.size,s.heap.objs.size+1,s.heap.objs.size+2],s.heap.get? b=none∧∃o,h'.get? b=some o:= λb hb=>(Ch.mp hb).elim (λq=>q▸⟨bw (Fj ..),_,hz⟩) (Es (P:= λb=>s.heap.get? b=none∧∃o,h'.get? b=some o) ⟨bw (Fj ..),_,hTI⟩ ⟨bw (Fj ..),_,hTO⟩ ⟨bw (DI _),au i1 λo e zz=>⟨o,e⟩⟩ ⟨bw (Fj ..),au i2 λo e zz=>⟨o,e⟩⟩ ⟨bw (Fj ..),au i3 λo e zz=>⟨o,e⟩⟩);have hw1:= λb hb=>(hw b hb).1;exact cQ.new (tk:=s.toks) I1 (hU.zip3 (xs:=xs1) (ys:=ys1) (zs:=zs1) ⟨nd6 _,TU hl1,TU hl2,TU hl3⟩) hk hw1 (λc hc=>(hw c hc).2) (λzz e=>nomatch e) (Fs ⟨hz,hTI,_,_,_,hTO⟩ i1 i2 i3 (bm.grow (V:=.d (.list xs1)) (s':= {s with heap:=h'}) q1 hk hw1) (bm.grow (V:=.d (.list ys1)) (s':= {s with heap:=h'}) q2 hk hw1) (bm.grow (V:=.d (.list zs1)) (s':= {s with heap:=h'}) q3 hk hw1))
section
variable {O2:List Addr}
theorem C0(hT:∀a∈T',a∈T∨s.heap.get? a=none):∀a∈T'++ai α μ,a∈T++ai α μ∨s.heap.get? a=none:= λa ha=>
 (AA.mp ha).elim (λh=>(hT a h).imp_left (yo _)) λh=>.inl (CE _ h)
theorem aw.movesG{v:List Value}{d:List PyData}(r:aw s.heap (T++ai α μ) v d)(x:aG wr gi s s')(hw:∀b∈wr,b∈T)(hT:∀a∈T',a∈T∨s.heap.get? a=none):aw s'.heap (T'++ai α μ) v d:=r.ext x.ext (nv (iN hw)) (C0 hT)
theorem bm.movesG(r:bm s.heap α (T++ai α μ) v V)(x:aG wr gi s s')(hw:∀b∈wr,b∈T)(hT:∀a∈T',a∈T∨s.heap.get? a=none):bm s'.heap α (T'++ai α μ) v V:=r.ext x.ext (nv (iN hw)) (λzz zz=>id) (C0 hT)
theorem bh.movesG(F:bh C cx env O ρ s.heap α (T++ai α μ))(x:aG wr gi s s')(hw:∀a∈wr,a∈T)(hT:∀a∈T',a∈T∨s.heap.get? a=none):bh C cx env O ρ s'.heap α (T'++ai α μ):=
 F.ext x.ext (nv (iN hw)) (λzz zz=>id) (C0 hT) λa ha h=>F.off a (yo _ (hw a h)) ha
theorem bh.moves(F:bh C cx env O ρ s.heap α (T++ai α μ))(x:aG wr gi s s')(hw:∀a∈wr,a∈T):bh C cx env O ρ s'.heap α (T++ai α μ):=F.movesG x hw λzz=>.inl
def dt(D:Addr)(acc:List PyData)(T α:List Addr)(μ:List ah)(s:Shared):Prop:=∃items,s.heap.PlainList D items∧aw s.heap (T++ai α μ) items.toList acc
theorem dt.stepO(x:dt D acc T α μ s)(I:bl C T α μ s)(hD:D∈T)(y:aU O2 α μ s α' μ' s')(hO:iF O2 T s.heap)(hn:D∉O2):dt D acc T α' μ' s':=by
 refine au x λitems p r=>?_;exact (aZ items (eO p y.ext λq=>(AA.mp q).elim hn λq=>I.apart D hD (db q)) (r.stepO y hO λa ha=>.inl ha))
theorem dt.moves(x:dt D acc T α μ s)(y:aG wr gi s s')(hw:∀a∈wr,a∈T)(hn:D∉wr):dt D acc T α μ s':=by
 refine au x λitems p r=>?_;exact (aZ items (eO p y.ext hn) (r.moves y hw))
theorem dt.movesG(x:dt D acc T α μ s)(y:aG wr gi s s')(hw:∀a∈wr,a∈T)(hn:D∉wr)(hT:∀a∈T',a∈T∨s.heap.get? a=none):dt D acc T' α μ s':=by
 refine au x λitems p r=>?_;exact (aZ items (eO p y.ext hn) (r.movesG y hw hT))
theorem aU.of_moves(x:aG wr [] s s')(hd:∀a∈wr,∃o,s'.heap.get? a=some o):aU wr α μ s α μ s':=
 ⟨aZ [] (DB _).symm (λzz h=>nomatch h),λb o e ht=>x.heap b o (λq=>ht (yo _ q)) e,λzz=>.inl,λa o e=>(US (a∈wr)).elim (hd a) λq=>⟨o,x.heap a o q e⟩,λi z e=>x.gens i z (λh=>nomatch h) e⟩
end
noncomputable abbrev CF:=d0→List ah→List PyData→Option (d0×List ah×List PyData)
def AM(C:gK)(cx:Cx)(T α:List Addr)(μ:List ah)(s:Shared)(cenv:Env)(Cn D:Addr)(ρ':d0)(μ':List ah)(acc':List PyData)(s':Shared):Prop:=
 ∃α',bl C T α' μ' s'∧aU [Cn,D] α μ s α' μ' s'∧bh C cx cenv [Cn] ρ' s'.heap α' (T++ai α' μ')∧dt D acc' T α' μ' s'
structure Ys (C:gK) (n:Nat) (cx:Cx) (m:Value→Env→Sem Unit) (cf:CF):Prop where
 of::
 run:∀A cenv Cn D T ρ α μ s E acc ρ' μ' acc',cP A n→D∈T→bl C T α μ s→bh C cx cenv [Cn] ρ s.heap α (T++ai α μ)→dt D acc T α μ s→cf ρ μ acc=some (ρ',μ',acc')→
  wpAny (model C.prog C.w) A (m (.ref D) cenv) (λzz s'=>AM C cx T α μ s cenv Cn D ρ' μ' acc' s') E s
noncomputable def Qe(elt:Expr):Value→Env→Sem Unit:= λacc env=>do let _←call (.builtin "list.append") [acc,←eval elt env]
def aY(f:EF):CF:= λρ μ acc=>bp (f ρ μ) λV μ1=>bp (w5 V μ1) λd μ2=>if acc.length≤sizeLine then some (ρ,μ2,acc++[d]) else none
section
theorem N4(hf:ab C n cx elt f):Ys C n cx (Qe elt) (aY f):=by
 refine .of ?_;intro A cenv Cn D T ρ α μ s E acc ρ' μ' acc' R hD I F ac h;refine aD h λV μ1 e1 h=>aD h λd μ2 e2 h=>i6 h λhz h=>ga h ?_;refine yt (hf.go R I F e1 λv s1 α1 I1 S1 r1=>?_);refine dU (tb I1 r1 e2) λI2 S2 r2=>?_;have S12:=S1.trans S2;refine au (ac.stepO I hD S12 (iF.nil _ _) (DM)) λitems hp rr=>?_;refine yt (QN hp (λh' hl' hs'=>Et ?_) (by rw [show items.size=acc.length from by rw [←rr.length];simp];exact hz));have mv:aG [D] [] s1 {s1 with heap:=h'}:=aG.of_heap (tk:=s1.toks) λb o hb e=>(hs'.2 b λq=>hb (yA.mpr q)).trans e;have hw:∀b∈[D],b∈T:= λb hb=>yA.mp hb▸hD;have hd:∀b∈[D],∃o,h'.get? b=some o:= λb hb=>yA.mp hb▸bP hl' λk e=>⟨_,e⟩;exact (j4 α1 (I2.moves mv hw hd) ((S12.up).trans ((aU.of_moves mv hd).weak λa ha=>.inl (D1 _ ha))) ((F.step I S12).moves mv hw) _ hl' (by rw [Tj];exact (rr.moves mv hw).append (.cons (r2.moves mv hw) (aw.nil _ _))))
structure j0 (C:gK) (n:Nat) (cx:Cx) (ifs:List Expr) (t:TF):Prop where
 of::
 run:∀A env O T ρ α μ s E r μ',cP A n→bl C T α μ s→bh C cx env O ρ s.heap α (T++ai α μ)→t ρ μ=some (r,μ')→
  wpAny (model C.prog C.w) A (forIn ifs true λc r=>if r=true then do let ok←isTrue c env (eval c env);pure (Lv ok) else pure (Lv r)) (λb s'=>b=r∧∃α',bl C T α' μ' s'∧aU [] α μ s α' μ' s') E s
def bg:TF:= λzz μ=>some (true,μ)
theorem cG:j0 C n cx [] bg:=by
 refine .of ?_;intro A env O T ρ α μ s E r μ' R I F h;refine cg h ?_;exact wpAny_tests_nil (gR rfl α I (aU.refl _ _ _ _))
theorem iY{c:Expr}(ht:gO C n cx c t):j0 C n cx [c] t:=by
 refine .of ?_;intro A env O T ρ α μ s E r μ' R I F h;exact wpAny_tests_one (ht.run A env O T ρ α μ s E r μ' R I F h)
def cU(t:TF)(cf:CF):CF:= λρ μ acc=>bp (t ρ μ) λb μ1=>cond b (cf ρ μ1 acc) (some (ρ,μ1,acc))
end
open Classical in
def f9(tf:d0→PyData→Option d0)(cf:CF)(g:Option Nat)(xs:List PyData)(r:List PyData):CF:=
 r.foldr (λx k ρ μ acc=>bo (tf ρ x) λρ1=>bp (cf ρ1 μ acc) λρ2 p=>if cu g xs p.1 then k ρ2 p.1 p.2 else none) λρ μ acc=>some (ρ,μ,acc)
open Classical in
theorem rj{cf:CF}{g:Option Nat}{r:List PyData}{x:PyData}:f9 tf cf g xs (x::r) ρ μ acc=bo (tf ρ x) λρ1=>bp (cf ρ1 μ acc) λρ2 p=>if cu g xs p.1 then f9 tf cf g xs r ρ2 p.1 p.2 else none:=rfl
abbrev gD(elt:Expr)(gens:List Comprehension)(scope:Scope)(pos:Pos)(d:Nat)(target iter:Expr)(ifs:List Expr)(K:Value→Env→Sem Fin→Sem Fin):Prop:=∀it acc env,
 compTurn (.ListComp elt gens scope pos) d it acc env=(standAt iter.pos>>= λzz=>pyNext it>>= λr=>match r with
  |none=>pure (.done .next)
  |some v=>letOwnedTupleGo target it v>>= λzz=>assign target env v>>= λzz=>
   (forIn ifs true λc r=>if r=true then do let ok←isTrue c env (eval c env);pure (Lv ok) else pure (Lv r))>>= λok=>
    if ok=true then K acc env (again (.compLoop (.ListComp elt gens scope pos) d it acc env)) else again (.compLoop (.ListComp elt gens scope pos) d it acc env))
noncomputable def IG(elt:Expr):Value→Env→Sem Fin→Sem Fin:= λacc env k=>Qe elt acc env>>= λzz=>k
theorem bN(elt target iter:Expr)(ifs:List Expr)(scope:Scope)(pos:Pos):gD elt [⟨target,iter,ifs,0⟩] scope pos 0 target iter ifs (IG elt):= λzz zz zz=>rfl
theorem Dr(elt target iter:Expr)(ifs:List Expr)(scope:Scope)(pos:Pos)(g:Comprehension):gD elt [g,⟨target,iter,ifs,0⟩] scope pos 1 target iter ifs (IG elt):= λzz zz zz=>rfl
noncomputable def Gx(e:Expr)(iter:Expr):Value→Env→Sem Fin→Sem Fin:= λacc env k=>do
 let x←eval iter env
 standAt iter.pos
 let x←foldedSetIterable iter env x
 let it←holding [x] (pyIter x)
 let _←runOwn (.compStart e 1 it acc env) env
 k
theorem iq(elt target iter:Expr)(ifs:List Expr)(scope:Scope)(pos:Pos)(target' iter':Expr)(ifs':List Expr):
 gD elt [⟨target,iter,ifs,0⟩,⟨target',iter',ifs',0⟩] scope pos 0 target iter ifs (Gx (.ListComp elt [⟨target,iter,ifs,0⟩,⟨target',iter',ifs',0⟩] scope pos) iter'):= λzz zz zz=>rfl
variable {cf : CF}
structure lL (C:gK) (n:Nat) (cx:Cx) (K:Value→Env→Sem Fin→Sem Fin) (cf:CF):Prop where
 of::
 run:∀A cenv Cn D T ρ α μ s E Q k acc ρ' μ' acc',cP A n→D∈T→bl C T α μ s→bh C cx cenv [Cn] ρ s.heap α (T++ai α μ)→dt D acc T α μ s→cf ρ μ acc=some (ρ',μ',acc')→
  (∀s',AM C cx T α μ s cenv Cn D ρ' μ' acc' s'→wpAny (model C.prog C.w) A k Q E s')→wpAny (model C.prog C.w) A (K (.ref D) cenv k) Q E s
section
theorem bZ(hf:ab C n cx elt f):lL C n cx (IG elt) (aY f):=by
 refine .of ?_;intro A cenv Cn D T ρ α μ s E Q k acc ρ' μ' acc' R hD I F ac h hk;exact yt (D2 ((N4 hf).run A cenv Cn D T ρ α μ s E acc ρ' μ' acc' R hD I F ac h) (λzz s' p=>hk s' p) λzz zz x=>x)
theorem bh.mono(F:bh C cx env O ρ h α M)(hm:∀a∈M',a∈M):bh C cx env O ρ h α M':=
 F.ext (fZ.refl [] h) (iF.nil _ _) (λzz zz=>id) (λa ha=>.inl (hm a ha)) λzz zz q=>nomatch q
theorem mi{m:List Addr}:∀a∈T++m,a∈(wr++T)++m:= λa ha=>(AA.mp ha).elim (λh=>yo _ (CE _ h)) (CE _)
theorem wJ{x:PyData}(e:xs[i]? =some x):xs.drop i=x::xs.drop (i+1):=by
 refine bP (BJ.mp e) λh e'=>?_;rw [Nb h,e']
variable {gens:List Comprehension} {d:Nat} {ifs:List Expr} {K:Value→Env→Sem Fin→Sem Fin}
theorem J8{g:Option Nat}{r:List PyData}{x:PyData}{P:Prop}(h:f9 tf (cU t cf) g xs (x::r) ρ μ acc=some (ρ',μ',acc'))
  (H:∀ρ1 b μ1 ρ2 μ2 acc2,tf ρ x=some ρ1→t ρ1 μ=some (b,μ1)→(if b=true then cf ρ1 μ1 acc=some (ρ2,μ2,acc2) else ρ2=ρ1∧μ2=μ1∧acc2=acc)→cu g xs μ2→f9 tf (cU t cf) g xs r ρ2 μ2 acc2=some (ρ',μ',acc')→P):P:=by
 refine ax h λρ1 e1 h=>aD h λρ2 p e2 h=> @i6 _ (QQ _) _ _ _ _ h λq h=>?_;refine aD e2 λb μ1 e3 e2=>?_;cases b with
 |true=>exact H ρ1 true μ1 ρ2 p.1 p.2 e1 e3 (by rw [if_pos rfl];exact e2) q h
 |false=>exact H ρ1 false μ1 ρ2 p.1 p.2 e1 e3 (by rw [if_neg HA];exact ga e2 (fu rfl rfl rfl)) q h
abbrev WG(C:gK)(cx:Cx)(T:List Addr)(cenv:Env)(Cn D:Addr)(α₀:List Addr)(μ₀:List ah)(s₀:Shared)(St:List Addr→xH)(xs:List PyData)(F:List PyData→d0→List ah→List PyData→Prop)(k:Nat)(s:Shared):Prop:=
 ∃wr i ρ α μ acc,(Cn∉wr∧(∀a∈T,a∉wr)∧∀b∈wr,s₀.heap.get? b=none)∧k=xs.length+1-i∧i≤xs.length∧bl C (wr++T) α μ s∧bh C cx cenv [Cn] ρ s.heap α ((wr++T)++ai α μ)∧dt D acc (wr++T) α μ s∧St wr (wr++T) α μ i s∧aU [Cn,D] α₀ μ₀ s₀ α μ s∧F (xs.drop i) ρ μ acc
theorem WG.mk{F:List PyData→d0→List ah→List PyData→Prop}
  (h1:Cn∉wr) (h2:∀a∈T,a∉wr) (h3:∀b∈wr,s₀.heap.get? b=none) (hk:k=xs.length+1-i) (hi:i≤xs.length) (I:bl C (wr++T) α μ s) (Fr:bh C cx cenv [Cn] ρ s.heap α ((wr++T)++ai α μ)) (ac:dt D acc (wr++T) α μ s) (st:St wr (wr++T) α μ i s) (S:aU [Cn,D] α₀ μ₀ s₀ α μ s) (h:F (xs.drop i) ρ μ acc):WG C cx T cenv Cn D α₀ μ₀ s₀ St xs F k s:=
 (og wr i ρ α μ acc ⟨h1,h2,h3⟩ hk hi I Fr ac st S h)
theorem Bv{wr1:List Addr}{h0:Heap}(hfr:∀b∈wr1,b∈wr∨h.get? b=none):(∀a∈wr1++T,a∈wr++T∨h.get? a=none)∧((∀b∈wr,h0.get? b=none)→(∀b o,h0.get? b=some o→∃o',h.get? b=some o')→∀b∈wr1,h0.get? b=none)∧∀a,a∉wr→(∃o,h.get? a=some o)→a∉wr1:=
 fu (λa ha=>(AA.mp ha).elim (λq=>(hfr a q).imp_left (yo _)) λq=>.inl (CE _ q)) (λhw hd b hb=>(hfr b hb).elim (hw b) (dW hd)) λa hn ho q=>(hfr a q).elim hn λq=>bP ho λo e=>ct (q.symm.trans e)
theorem BB{a:Nat}(h:i<a):a+1-(i+1)<a+1-i:=Nat.sub_lt_sub_left (P1 h) (Rd i)
theorem j0.go{Q:Bool→Shared→Prop}{r:Bool}(ht:j0 C n cx ifs t)(R:cP A n)(I:bl C T α μ s)(F:bh C cx env O ρ s.heap α (T++ai α μ))(e:t ρ μ=some (r,μ'))
  (k:∀α' s',bl C T α' μ' s'→aU [] α μ s α' μ' s'→Q r s'):wpAny (model C.prog C.w) A (forIn ifs true λc r=>if r=true then do let ok←isTrue c env (eval c env);pure (Lv ok) else pure (Lv r)) Q E s:=
 D2 (ht.run A env O T ρ α μ s E r μ' R I F e) (λzz s' p=>iB p λq α' I' S'=>q▸k α' s' I' S') λzz zz x=>x
theorem Ej{g:Option Nat}{Q:Fin→Shared→Prop}
  (turn:gD elt gens scope pos d target iter ifs K) (tg:nP C cx target tup tf) (ts:j0 C n cx ifs t) (ck:lL C n cx K cf) (R:cP A n) (hn2:2≤n) (hD:D∈T) (W:hU C it gi xs g tup St Mid)
  (hCw:Cn∉wr) (hCD:Cn≠D) (hTw:∀a∈T,a∉wr) (hw0:∀b∈wr,s₀.heap.get? b=none) (hg0:∀i∈gi,s₀.gens[i]? =none)
  (I:bl C (wr++T) α μ s) (F:bh C cx cenv [Cn] ρ s.heap α ((wr++T)++ai α μ)) (ac:dt D acc (wr++T) α μ s) (st:St wr (wr++T) α μ i s) (S:aU [Cn,D] α₀ μ₀ s₀ α μ s)
  (h:f9 tf (cU t cf) g xs (xs.drop i) ρ μ acc=some (ρ',μ',acc')) (kD:∀s',AM C cx T α₀ μ₀ s₀ cenv Cn D ρ' μ' acc' s'→Q (.done .next) s')
  (kN:∀s',i<xs.length→WG C cx T cenv Cn D α₀ μ₀ s₀ St xs (λr ρ μ acc=>f9 tf (cU t cf) g xs r ρ μ acc=some (ρ',μ',acc')) (xs.length+1-(i+1)) s'→Q (.again (.compLoop (.ListComp elt gens scope pos) d it (.ref D) cenv)) s'):
  wpAny (model C.prog C.w) A ((compTurn (.ListComp elt gens scope pos) d it (.ref D) cenv).onRaise (λx=>do noteFrame x cenv;theTreesLotGoes x)) Q E s:=by
 have hwT:∀b∈wr,b∈wr++T:= λb hb=>yo _ hb;refine wpAny_noted ?_;rw [turn];refine yt (L9 (yt ?_));cases ex:xs[i]? with
 |none=>
  rw [Ms (G_.mp ex)] at h
  cases (h:some (ρ,μ,acc)=some (ρ',μ',acc'));refine W.done (R.mono hn2) I st ex λs1 mv hI=>Et (kD s1 (c_ α (hI T λa ha=>⟨CE _ ha,hTw a ha⟩) (S.moves mv hw0 hg0) ((F.moves mv hwT).mono mi) ?_));refine au (ac.moves mv hwT (hTw D hD)) λitems p r=>?_;exact (aZ items p (r.mono mi))
 |some x=>
  rw [wJ ex] at h
  refine J8 h λρ1 b μ1 ρ2 μ2 acc2 e1 e3 e2 hgd h'=>?_;clear h;refine W.item (R.mono hn2) I st ex λv s1 wr1 mv1 hfr I1 ir1 md1=>?_;refine yt (W.go I1 md1 tg.1 ir1 λs2 mv2 I2 ir2 st2=>?_);refine dU (Bv (T:=T) (h0:=s₀.heap) hfr) λhT1 hw1' hn1=>?_;have hwT1:∀b∈wr1,b∈wr1++T:= λb hb=>yo _ hb;have hDT:D∈wr1++T:=CE _ hD;have hCw1:Cn∉wr1:=hn1 Cn hCw (by
   refine au ((F.own Cn (Fp ..)).1) λo e zz=>?_;exact ⟨o,e⟩)
  have hTw1:∀a∈T,a∉wr1:= λa ha=>hn1 a (hTw a ha) (I.tdom a (CE _ ha));have hw1:=hw1' hw0 S.dom;have F2:=(F.movesG mv1 hwT hT1).moves mv2 hwT1;have ac2:=(ac.movesG mv1 hwT (hTw D hD) hT1).moves mv2 hwT1 (hTw1 D hD);have S2:=(S.moves mv1 hw0 hg0).moves mv2 hw1 hg0;refine yt (D2 (tg.2 A cenv [Cn] (wr1++T) ρ α μ s2 _ v x ρ1 R.handled I2 F2 ir2 e1) (λzz s3 sd=>?_) λzz zz x=>x);have hO3:iF [Cn] (wr1++T) s2.heap:= λa ha=>.inr (.inl (F2.own a ha).1);have ac3:dt D acc (wr1++T) α μ s3:=ac2.stepO I2 hDT sd.2.1 hO3 λq=>hCD (by simpa using q:D=Cn).symm;have fin:∀s5 α5,bl C (wr1++T) α5 μ2 s5→aU [Cn,D] α μ s3 α5 μ2 s5→bh C cx cenv [Cn] ρ2 s5.heap α5 ((wr1++T)++ai α5 μ2)→dt D acc2 (wr1++T) α5 μ2 s5→Q (.again (.compLoop (.ListComp elt gens scope pos) d it (.ref D) cenv)) s5:= λs5 α5 I5 S5 F5 ac5=>by
   have S25:aU [Cn,D] α μ s2 α5 μ2 s5:=(sd.2.1.weak λa ha=>.inl (Ch.mpr (.inl (yA.mp ha)))).trans S5;have hlt:=(BJ.mp ex).1;refine kN s5 hlt (WG.mk hCw1 hTw1 hw1 rfl hlt I5 F5 ac5 (W.frame st2 S25 (λa ha=>?_) (λa ha=>?_) (λa ha=>.inl ha) hwT1 I2 I5 hgd) (S2.trans S25) h')
   ·rcases Ch.mp ha with q|ha
    ·exact .inr (.inl (q▸(F2.own Cn (Fp ..)).1))
    ·exact .inr (.inr (yA.mp ha▸hDT))
   ·rcases Ch.mp ha with q|ha
    ·exact q▸hCw1
    ·exact yA.mp ha▸hTw1 D hD
  refine yt (ts.go R sd.1 sd.2.2 e3 λα4 s4 I4 S4=>?_);have F4:=sd.2.2.step sd.1 S4;have ac4:=ac3.stepO sd.1 hDT S4 (iF.nil _ _) (DM);cases b with
  |true=>
   rw [if_pos rfl] at e2⊢
   exact ck.run A cenv Cn D (wr1++T) ρ1 α4 μ1 s4 _ _ _ acc ρ2 μ2 acc2 R hDT I4 F4 ac4 e2 λs5 p5=>et p5 λα5 I5 S5 F5 ac5=>Et (fin s5 α5 I5 (S4.up.trans S5) F5 ac5)
  |false=>
   rw [if_neg HA] at e2⊢
   refine eC λGG kG=>?_;refine dU e2 λzq0 zq1 zq2=>?_;subst zq0;subst zq1;subst zq2;refine kG ?_;exact Et (fin s4 α4 I4 S4.up F4 ac4)
theorem sN{g:Option Nat}{RR:Result→Shared→Prop}
  (turn:gD elt gens scope pos d target iter ifs K) (tg:nP C cx target tup tf) (ts:j0 C n cx ifs t) (ck:lL C n cx K cf) (R:cP A n) (hn2:2≤n) (hD:D∈T) (W:hU C it gi xs g tup St Mid)
  (hCw:Cn∉wr) (hCD:Cn≠D) (hTw:∀a∈T,a∉wr) (hw0:∀b∈wr,s₀.heap.get? b=none) (hg0:∀i∈gi,s₀.gens[i]? =none)
  (I:bl C (wr++T) α μ s) (F:bh C cx cenv [Cn] ρ s.heap α ((wr++T)++ai α μ)) (ac:dt D acc (wr++T) α μ s) (st:St wr (wr++T) α μ 0 s) (S:aU [Cn,D] α₀ μ₀ s₀ α μ s)
  (h:f9 tf (cU t cf) g xs xs ρ μ acc=some (ρ',μ',acc')) (hR:∀s',AM C cx T α₀ μ₀ s₀ cenv Cn D ρ' μ' acc' s'→RR (.ok .next) s'):
  codeAny (model C.prog C.w) A (.compLoop (.ListComp elt gens scope pos) d it (.ref D) cenv) RR s:=by
 refine codeAny_loop rfl (WG C cx T cenv Cn D α₀ μ₀ s₀ St xs λr ρ μ acc=>f9 tf (cU t cf) g xs r ρ μ acc=some (ρ',μ',acc')) (λk s=>?_) (xs.length+1) (WG.mk (i:=0) hCw hTw hw0 rfl (Lw _) I F ac st S h);clear hCw hTw hw0 I F ac st S h;intro p;refine nV p λwr i ρ α μ acc q zk hi I F ac st S h=>?_;refine bH (ES zk) ?_;refine dU q λhCw hTw hw0=>?_;exact Ej (A:=A) turn tg ts ck R hn2 hD W hCw hCD hTw hw0 hg0 I F ac st S h hR λs' hl p=>(gR rfl _ (BB hl) p)
end
theorem rP{R:Result→Shared→Prop}{ifs:List Expr}{g:Comprehension}{acc:Value}
  (h0:codeAny (model prog w) A (.compLoop (.ListComp elt [g,⟨target,iter,ifs,0⟩] scope pos) 1 it acc env) R s)
  (h:wpAny (model prog w) A (pyIter it) (λit' s'=>codeAny (model prog w) A (.compLoop (.ListComp elt [g,⟨target,iter,ifs,0⟩] scope pos) 1 it' acc env) R s')
   (notedBy (model prog w) A env λx s'=>R (.error x) s') s):
  codeAny (model prog w) A (.compStart (.ListComp elt [g,⟨target,iter,ifs,0⟩] scope pos) 1 it acc env) R s:=by
 refine codeAny_of_tree ?_;refine (?_:wpAny _ _ ((compStart (.ListComp elt [g,⟨target,iter,ifs,0⟩] scope pos) 1 it acc env).onRaise (λx=>do noteFrame x env;standAt theWindowsPlace)) _ _ s);refine wpAny_notedAt ?_;unfold compStart;refine (?_:wpAny _ _ (ask>>=_) _ _ s);refine yt (wpAny_askSetting (wpAny_ite ?_))
 split
 ·first
   |exact yt (Et (Et (Ue rfl h0)))
   |exact Et (Ue rfl h0)
 ·first
   |exact yt (O8 (yt (L9 (yt (D2 h (λit' s' h'=>Et (Ue rfl h')) λzz zz x=>x)))))
   | (refine yt (O8 ?_);show wpAny _ _ (standAt iter.pos>>=_) _ _ s;exact yt (L9 (yt (D2 h (λit' s' h'=>Et (Ue rfl h')) λzz zz x=>x))))
def gf(itf:IF)(tf:d0→PyData→Option d0)(cf:CF):CF:= λρ μ acc=>bp (itf ρ μ) λxs p=>f9 tf cf p.1 xs xs ρ p.2 acc
section
theorem AE(F:bh C cx env O ρ h α M)(hw:∀b∈wr,h.get? b=none):∀a∈O,a∉wr:= λa ha q=>(F.own a ha).1.dom (hw a q)
theorem bh.growStep(F:bh C cx env O ρ s.heap α (T++ai α μ))(I:bl C T α μ s)(S:aU [] α μ s α' μ' s')(hw:∀b∈wr,s.heap.get? b=none):
  bh C cx env O ρ s'.heap α' ((wr++T)++ai α' μ'):=
 F.ext S.ext (iF.nil T _).app S.at (S.hm λa ha=>(AA.mp ha).elim (λq=>.inr (hw a q)) .inl) λzz q h=>I.notFrame (db h) (F.frA q)
variable {iter' target':Expr} {ifs ifs':List Expr}
theorem ko(hn2:2≤n)(hit:lS C n cx iter' tup itf)(tg:nP C cx target' tup tf)(ts:j0 C n cx ifs' t)(hf:ab C n cx elt f)(hs:∀env x,foldedSetIterable iter' env x=pure x):
  lL C n cx (Gx (.ListComp elt [⟨target,iter,ifs,0⟩,⟨target',iter',ifs',0⟩] scope pos) iter') (gf itf tf (cU t (aY f))):=by
 refine .of ?_;intro A cenv Cn D T ρ α μ s E Q k acc ρ' μ' acc' R hD I F ac h hk;refine aD h λxs pp e1 h=>?_;refine yt (D2 (hit.run A cenv [Cn] T ρ α μ s _ xs pp.1 pp.2 R I F e1) (λx s1 p=>?_) λzz zz x=>x);refine yt (L9 (yt (Mb (hs cenv x) (yt (KZ (D2 p (λit s2 q=>?_) λzz zz x=>x))))));refine gw q λwr gi St Mid α1 W I1 S1 st hw hg hgd=>?_;have hCw:=AE F hw Cn (yA.mpr rfl);have hTw:∀a∈T,a∉wr:= λa ha q=>bP (I.tdom a ha) λo e=>ct ((hw a q).symm.trans e);have hCD:Cn≠D:= λq=>F.off D (yo _ hD) (.inr (by simp [q]));have F1:bh C cx cenv [Cn] ρ s2.heap α1 ((wr++T)++ai α1 pp.2):=F.growStep I S1 hw;have ac1:dt D acc (wr++T) α1 pp.2 s2:=by
  refine au ac λitems hp rr=>?_;exact (aZ items (eO hp S1.ext λq=>I.apart D hD (db (by simpa using q))) (rr.stepO S1 (iF.nil _ _) λa ha=>(AA.mp ha).elim (λq=>.inr (hw a q)) .inl))
 have loop:codeAny (model C.prog C.w) A (.compLoop (.ListComp elt [⟨target,iter,ifs,0⟩,⟨target',iter',ifs',0⟩] scope pos) 1 it (.ref D) cenv)
   (λr s'=>match r with| .ok f=>wpAny (model C.prog C.w) A k Q E s'| .error e=>cameBackBy (model C.prog C.w) A cenv E e s') s2:=
  sN (Dr _ _ _ _ _ _ _) tg ts (bZ hf) R hn2 hD W hCw hCD hTw hw hg I1 F1 ac1 st S1.up h λs' cp=>hk s' cp
 exact yt (wpAny_runOwn (rP loop (W.self st loop)))
end
noncomputable def tC(env:Env)(p:Str×NameKind)(cs:List (Str×Addr)):List (Str×Addr):=if (p.2== .free)=true then (env.cells.lookup p.1).elim cs λc=>(p.1,c)::cs else cs
noncomputable def mr(env:Env)(l:List (Str×NameKind))(cs:List (Str×Addr)):List (Str×Addr):=l.foldl (λcs p=>tC env p cs) cs
theorem Ev(env:Env)(l:List (Str×NameKind))(cs:List (Str×Addr))(h:∀x∈l,x.2=.free→∃c,env.cells.lookup x.1=some c):
  (forIn l cs λ(p:Str×NameKind) r=>if (p.2== .free)=true then do let a←cellOf env p.1;pure (Lv ((p.1,a)::r)) else pure (Lv r):Sem _)=pure (mr env l cs):=by
 induction l generalizing cs with
 |nil=>rfl
 |cons p r ih=>
  rw [Ua];have ih':=ih (tC env p cs) λy hy=>h y (D1 _ hy);refine Lz ?_ ih'
  by_cases hk:(p.2==LK)=true
  ·refine bP (h p (Fp ..) (eq_of_beq hk)) λc hc=>?_
   rw [if_pos hk,show tC env p cs=(p.1,c)::cs from (if_pos hk).trans (by rw [hc];rfl),show cellOf env p.1=pure c by unfold cellOf;rw [hc]];rfl
  ·rw [if_neg hk,show tC env p cs=cs from if_neg hk]
   rfl
theorem y_(env:Env)(l:List (Str×NameKind))(cs:List (Str×Addr))(x:Str)(c:Addr)(he:env.cells.lookup x=some c)(h:cs.lookup x=some c):(mr env l cs).lookup x=some c:=by
 induction l generalizing cs with
 |nil=>exact h
 |cons p r ih=>
  refine ih _ ?_;refine (?_:(tC env p cs).lookup x=some c)
  by_cases hk:(p.2==LK)=true
  ·rw [show tC env p cs=_ from if_pos hk]
   cases e:env.cells.lookup p.1 with
   |none=>exact h
   |some c'=>
    refine (Nn).trans ?_;cases q:x==p.1 with
    |true=>rw [←eq_of_beq q] at e;exact e.symm.trans he
    |false=>exact h
  ·rw [show tC env p cs=cs from if_neg hk];exact h
theorem sQ(env:Env)(l:List (Str×NameKind))(cs:List (Str×Addr))(x:Str)(c:Addr)(he:env.cells.lookup x=some c)(h:(x,LK)∈l):(mr env l cs).lookup x=some c:=by
 induction l generalizing cs with
 |nil=>exact nomatch h
 |cons p r ih=>
  refine (Ch.mp h).elim (λq=>y_ env r _ _ c he ?_) λq=>ih _ q;subst q;refine (?_:(tC env (x,LK) cs).lookup x=some c);rw [show tC env (x,LK) cs=(x,c)::cs from (if_pos rfl).trans (by rw [he];rfl)];exact P8
theorem ym(h:∀x∈scope.names,x.2=.free→∃c,env.cells.lookup x.1=some c):closureFor scope env=pure (mr env scope.names []):=by
 unfold closureFor;rw [←Ev env scope.names [] h]
 simp
def OX(scope s0:Scope):Scope:= {scope with names:=scope.names.map λ(n,k)=>if (k== .free&&s0.kind== .function&&s0.names.lookup n==some .cell) then (n,.cell) else (n,k)}
def bR(cx:Cx)(scope:Scope):Cx:= {scope:=OX scope cx.scope,names:=(cx.names.map λp=>(p.1,if decide (2≤p.2)&&scope.names.contains (p.1,.free) then 3 else 0))++(scope.names.filter (λx=>x.2== .local&&x.1 != (".0":Str))).map λx=>(x.1,1)}
noncomputable def bG(scope:Scope)(ρ:d0):d0:=ρ++GE (scope.names.filter (λx=>x.2== .local&&x.1 != (".0":Str))).length none
noncomputable def vt(cx:Cx)(scope:Scope):Bool:=scope.names.all λx=>x.2 != .free||cx.names.any λp=>p.1==x.1&&decide (2≤p.2)
theorem Dd(h:vt cx scope=true){x:Str×NameKind}(hx:x∈scope.names)(hf:x.2=.free):∃ (i k:Nat),cx.names[i]? =some (x.1,k)∧2≤k:=by
 have:=Bb.mp h x hx
 simp only [hf,bne_self_eq_false,Pm,List.any_eq_true,EZ,beq_iff_eq,decide_eq_true_eq] at this
 refine cn this λzp0 hp hy hk=>?_;obtain ⟨y,k⟩:=zp0;refine bP (iC hp) λi e=>?_;exact (fS i k (by rw [e];simp at hy;rw [hy]) hk)
theorem gb(h:(bR cx scope).names[i]? =some (x,k))(hi:i<cx.names.length):(k=0∨(k=3∧(x,LK)∈scope.names))∧∃k0,cx.names[i]? =some (x,k0)∧(k=3→2≤k0):=by
 unfold bR at h
 simp only at h
 rw [EY (by simpa using hi),Gi,IA] at h
 obtain ⟨⟨y,k0⟩,e,q⟩:=h;simp only [SX] at q
 obtain ⟨rfl,q⟩:=q
 split at q
 ·rename_i hc
  simp only [EZ,decide_eq_true_eq] at hc
  exact (gR (.inr ⟨q.symm,by simpa using hc.2⟩) k0 e (λzz=>hc.1))
 ·exact (gR (.inl q.symm) k0 e (λz=>by lia))
theorem Dz(h:(bR cx scope).names[i]? =some (x,k))(hi:¬i<cx.names.length):k=1:=by
 unfold bR at h
 simp only at h
 rw [IK (by simpa using LD hi),Gi,IA] at h
 refine au h λzz zz q=>?_;cases q;rfl
section
theorem bh.sub{m:Str→Option Value}(F:bh C cx env O ρ h α M)(hcap:vt cx scope=true)(hn:h.Ns Cn m)(hM:Cn∉M)(hB:C.B.get? Cn=none)
  (hnd:∀ (i j:Nat) x,(bR cx scope).names[i]? =some (x,1)→(bR cx scope).names[j]? =some (x,1)→i=j):
  bh C (bR cx scope) (compEnvC scope (mr env scope.names []) Cn env) [Cn] (bG scope ρ) h α M:=by
 refine bP F.cel λcad hc=>?_;have old:∀ {i:Nat} {x k},(bR cx scope).names[i]? =some (x,k)→2≤k→i<cx.names.length:= λ{i x k} e hk=>by
  by_cases hi:i<cx.names.length
  ·exact hi
  ·have:=Dz e hi;lia
 have rho:∀i,i<cx.names.length→(bG scope ρ)[i]? =ρ[i]? := λi hi=>by
  unfold bG;rw [EY (by rw [F.len];exact hi)]
 refine ⟨by show OX scope env.scope=OX scope cx.scope;rw [F.sc],F.gl,F.bn,?_,(aZ m hn (λi x V h1 h2=>?_)),⟨cad,λi x k h1 h2=>?_,λi x k h1 h2=>?_,λi x h1=>?_,λi j x y k l h1 h2 h3 h4=>?_⟩,λa ha=>?_,yA.mpr rfl,λa ha q=>?_,hnd⟩
 ·simp [bG,bR,F.len]
 ·by_cases hi:i<cx.names.length
  ·have:=(gb h1 hi).1;lia
  ·unfold bG at h2
   rw [IK (by rw [F.len];exact LD hi),QR] at h2
   split at h2<;>cases h2
 ·have hi:=old h1 h2
  refine iB (gb h1 hi) λq k0 e hk0=>?_;obtain ⟨rfl,hf⟩:k=3∧(x,LK)∈scope.names:=q.elim (λz=>by lia) id;exact sQ env _ _ _ _ (hc.look i x k0 e (hk0 rfl)) hf
 ·have hi:=old h1 h2
  refine iB (gb h1 hi) λq k0 e hk0=>?_;obtain ⟨rfl,hf⟩:k=3∧(x,LK)∈scope.names:=q.elim (λz=>by lia) id;rw [rho i hi];exact hc.has i x k0 e (hk0 rfl)
 ·have hi:=old h1 (DI _)
  have:=(gb h1 hi).1
  lia
 ·have hi:=old h1 h3
  have hj:=old h2 h4;refine iB (gb h1 hi) λq k0 e hk0=>?_;refine iB (gb h2 hj) λq' l0 e' hl0=>?_;exact hc.inj i j x y k0 l0 e e' (hk0 (by lia)) (hl0 (by lia))
 ·obtain rfl:a=Cn:=by simpa using ha
  exact ⟨fO hn,hB⟩
 ·have hCa:a≠Cn:= λz=>hM (z▸ha)
  rcases q with (q| ⟨i,x,k,h1,h2,h3⟩)|q
  ·exact hCa q
  ·have hi:=old h1 h2
   refine iB (gb h1 hi) λq k0 e hk0=>?_;obtain ⟨rfl,hf⟩:k=3∧(x,LK)∈scope.names:=q.elim (λz=>by lia) id;have hl:=hc.look i x k0 e (hk0 rfl)
   have:(mr env scope.names []).lookup x=some a:=h3
   rw [sQ env _ _ _ _ hl hf] at this
   cases this;exact F.off _ ha (.inl (.inr (pe i x k0 e (hk0 rfl) hl)))
  ·exact hCa (by simpa using q)
end
section
theorem bl.mdom(I:bl C T α μ s):∀a∈T++ai α μ,s.heap.get? a≠none:= λa ha=>
 (AA.mp ha).elim (λh q=>bP (I.tdom a h) λo e=>ct (q.symm.trans e)) λh=>I.cdom (db h)
theorem bl.sub(I:bl C T α μ s)(h:∀a∈T',a∈T):bl C T' α μ s:=
 I.moves' (aG.refl [] [] s) (λzz q=>nomatch q) h λa ha=>I.tdom a (h a ha)
theorem bl.fresh(I:bl C T α μ s)(h:s.heap.get? a=none):C.B.get? a=none:=by
 cases e:C.B.get? a with
 |none=>rfl
 |some o=>exact ct (h.symm.trans (I.keep a o e))
theorem dt.mono(x:dt D acc T α μ s)(h:∀a∈T',a∈T):dt D acc T' α μ s:=
 au x λitems p r=>aZ items p (r.mono λa ha=>(AA.mp ha).elim (λq=>yo _ (h a q)) (CE _))
variable {rest:List Comprehension} {ifs:List Expr} {K:Value→Env→Sem Fin→Sem Fin}
theorem yz(hn2:2≤n){s2:Shared}{g:Option Nat}{RR:Value→Addr→Result→Shared→Prop}
  (turn:gD elt (⟨target,iter,ifs,0⟩::rest) scope pos 0 target iter ifs K) (tg:nP C (bR cx scope) target tup tf) (ts:j0 C n (bR cx scope) ifs t) (ck:lL C n (bR cx scope) K cf)
  (hcap:vt cx scope=true) (hcell:∀y∈scope.names,y.2≠ .cell) (hkind:scope.kind=.function)
  (hnd:∀ (i j:Nat) x,(bR cx scope).names[i]? =some (x,1)→(bR cx scope).names[j]? =some (x,1)→i=j)
  (R:cP A n) (I:bl C T α μ s) (F:bh C cx env O ρ s.heap α (T++ai α μ)) (ia:cQ C T α μ s xs g tup μ1 it s2)
  (h:f9 tf (cU t cf) g xs xs (bG scope ρ) μ1 []=some (ρ',μ',acc'))
  (hRR:∀D Cn α' s' m,bl C (D::T) α' μ' s'→aU [Cn,D] α μ s α' μ' s'→s.heap.get? D=none→s.heap.get? Cn=none→D≠Cn→dt D acc' (D::T) α' μ' s'→s'.heap.Ns Cn m→RR (.ref D) Cn (.ok .next) s'):
  wpAny (model C.prog C.w) A (newList []) (λacc s₃=>wpAny (model C.prog C.w) A (newFunctionEnv scope env.globals (mr env scope.names []) [] env.qual none .none (some env)) (λcenv s₄=>
   codeAny (model C.prog C.w) A (.compStart (.ListComp elt (⟨target,iter,ifs,0⟩::rest) scope pos) 0 it acc {cenv with scope:=relabel scope env}) (RR acc cenv.locals) s₄) E s₃) E s2:=by
 refine gw ia λwr gi St Mid α1 W I1 S1 st hw hg hgd=>?_;have F1:bh C cx env O ρ s2.heap α1 ((wr++T)++ai α1 μ1):=F.growStep I S1 hw;refine Ia (RZ hcell (by intro y hy;simp at hy) (λh₁ hns₁ hsb₁=>?_) hkind);dsimp only at hns₁ hsb₁⊢
 generalize hH2:s2.heap.push {cls:=.type "list",dict:=none,data:=.seq ([]:List Value).toArray}=H2 at hns₁ hsb₁⊢
 generalize hDD:s2.heap.objs.size=D;have hCz:H2.objs.size=D+1:=by rw [←hH2,M3,hDD]
 generalize hCC:H2.objs.size=Cn at hns₁ hsb₁ hCz⊢
 have hDf:s2.heap.get? D=none:=bw (Tz hDD);have hCf:s2.heap.get? Cn=none:=bw (by rw [hDD,hCz];exact OV _);have hCD:Cn≠D:=by rw [hCz];exact Nm _
 have hk:∀b o,s2.heap.get? b=some o→h₁.get? b=some o:= λb o e=>by
  have hb:b≠Cn:= λq=>by rw [q,hCf] at e;exact ct e
  exact (hsb₁.2 b hb).trans (BO _ (hH2▸BO _ e))
 have hacc:h₁.PlainList D #[]:=⟨_,(hsb₁.2 D hCD.symm).trans (BO _ (hH2▸hDD▸Dm _ rfl))⟩;have hk':∀b o,s2.heap.get? b=some o→(QP {s2 with heap:=h₁,toks:=s2.toks+([]:List (Str×Value)).length}).get? b=some o:=hk;have hW1:∀a∈[D],s2.heap.get? a=none:= λa ha=>yA.mp ha▸hDf;have I4':bl C ([D]++(wr++T)) α1 μ1 {s2 with heap:=h₁,toks:=s2.toks+([]:List (Str×Value)).length}:=I1.grow hk' rfl (λh=>h) hW1 λa ha=>yA.mp ha▸bP hacc λk e=>⟨_,e⟩;have perm:∀a,a∈wr++(D::T)→a∈[D]++(wr++T):= λa ha=>(AA.mp ha).elim (λh=>CE _ (yo _ h)) λh=>(Ch.mp h).elim (λq=>yo _ (yA.mpr q)) λh=>CE _ (CE _ h);have perm':∀ {m:List Addr} a,a∈(wr++(D::T))++m→a∈([D]++(wr++T))++m:= λ{m} a ha=>(AA.mp ha).elim (λq=>yo _ (perm a q)) λq=>CE _ q;have I4:=I4'.sub perm;have F4:bh C cx env O ρ h₁ α1 ((wr++(D::T))++ai α1 μ1):=(F1.grow (s':= {s2 with heap:=h₁,toks:=s2.toks+([]:List (Str×Value)).length}) hk' hW1).mono perm';have S24:aU [] α1 μ1 s2 α1 μ1 {s2 with heap:=h₁,toks:=s2.toks+([]:List (Str×Value)).length}:=aU.of_keeps hk' λzz zz e=>e;have st4:=W.frame (T':=wr++(D::T)) st S24 (iF.nil _ _) (λzz q=>nomatch q) (λa ha=>(AA.mp ha).elim (λq=>.inl (yo _ q)) λq=>(Ch.mp q).elim (λq=>.inr (q▸hDf)) λq=>.inl (CE _ q)) (λb hb=>yo _ hb) I1 I4 hgd;have hTs:∀a∈T,s.heap.get? a≠none:= λa ha=>I.mdom a (yo _ ha);have hwd:∀b∈wr,s2.heap.get? b≠none:= λb hb=>I1.mdom b (yo _ (yo _ hb));have hDw:D∉wr:= λq=>hwd D q hDf;have hCw:Cn∉wr:= λq=>hwd Cn q hCf;have hDs:s.heap.get? D=none:=dW S1.dom hDf;have hCs:s.heap.get? Cn=none:=dW S1.dom hCf;have hCM:Cn∉(wr++(D::T))++ai α1 μ1:= λq=>(AA.mp (perm' _ q)).elim (λz=>(AA.mp z).elim (λz=>hCD (yA.mp z)) λz=>I1.mdom Cn (yo _ z) hCf) λz=>I1.mdom Cn (CE _ z) hCf;have Fc:=F4.sub hcap hns₁ hCM (I1.fresh hCf) hnd;have S4:aU [Cn,D] α μ s α1 μ1 {s2 with heap:=h₁,toks:=s2.toks+([]:List (Str×Value)).length}:=(S1.trans S24).up;have ac4:dt D [] (wr++(D::T)) α1 μ1 {s2 with heap:=h₁,toks:=s2.toks+([]:List (Str×Value)).length}:=(aZ (#[]) hacc (aw.nil _ _));have loop:codeAny (model C.prog C.w) A (.compLoop (.ListComp elt (⟨target,iter,ifs,0⟩::rest) scope pos) 0 it (.ref D) (compEnvC scope (mr env scope.names []) Cn env)) (RR (.ref D) Cn)
   {s2 with heap:=h₁,toks:=s2.toks+([]:List (Str×Value)).length}:=
  sN turn tg ts ck R hn2 (Fp ..) W hCw hCD (λa ha q=>(Ch.mp ha).elim (λz=>hDw (z▸q)) λha=>hTs a ha (hw a q)) hw hg I4 Fc ac4 st4 S4 h λs' cp=>et cp λα' I' S' F' ac'=>au F'.loc λm' hm' zz=>hRR D Cn α' s' m' I' S' hDs hCs hCD.symm ac' hm'
 exact codeAny_compStart_list loop (W.self st4 loop)
theorem pZ{m:List Addr}:∀a∈T++m,a∈(D::T)++m:= λa ha=>(AA.mp ha).elim (λq=>yo _ (D1 _ q)) λq=>CE _ q
theorem sS(I:bl C (D::T) α' μ' s')(ac:dt D acc (D::T) α' μ' s')(hDT:D∉T):bl C T α' μ' s'∧aJ s'.heap (T++ai α' μ') (.ref D) (.list acc):=
 au ac λitems p r=>⟨I.sub λa ha=>D1 _ ha,aJ.list p (r.mono pZ) λq=>(AA.mp q).elim hDT λq=>I.apart D (Fp ..) (db q)⟩
theorem tY{X:Type}{l:List X}{a y:X}(h:(l++[y])[i]? =some a)(k:i<l.length→l[i]? =some a→G)(k':i=l.length→y=a→G):G:=by
 by_cases hi:i<l.length
 ·rw [EY hi] at h;exact k hi h
 ·rw [IK (LD hi)] at h
  cases e:i-l.length with
  |zero=>rw [e] at h;exact k' (Nat.le_antisymm (Nat.le_of_sub_eq_zero e) (LD hi)) (Fd h)
  |succ j=>rw [e] at h;exact ct h
theorem Kp(I:bl C (D::T) α' μ' s')(hc:c.isMut=true)(ca:dX s'.heap ((D::T)++ai α' μ') D c)(hDT:D∉T):
  bl C T (α'++[D]) (μ'++[c]) s'∧ai (α'++[D]) (μ'++[c])=ai α' μ'++[D]∧(∀a,a∈T++ai (α'++[D]) (μ'++[c])→a∈(D::T)++ai α' μ'):=by
 have hDa:D∉α':=I.apart D (Fp ..);have hm:ai (α'++[D]) (μ'++[c])=ai α' μ'++[D]:=(qj I.len).trans (congrArg _ (if_pos hc));have hs:∀a,a∈T++ai (α'++[D]) (μ'++[c])→a∈(D::T)++ai α' μ':= λa ha=>by
  rw [hm] at ha
  exact (AA.mp ha).elim (λh=>yo _ (D1 _ h)) λh=>(AA.mp h).elim (CE _) λh=>yo _ (Ch.mpr (.inl (yA.mp h)))
 refine fu ⟨I.keep,by rw [be,be,I.len];rfl,λi a c h1 h2=>tY h1 (λhi h1=>tY h2 (λzz h2=>(I.cells i a c h1 h2).mono hs) λq zz=>absurd (q.trans I.len.symm) (LJ hi)) λhi h1=>tY h2 (λhi2 zz=>absurd (hi.trans I.len) (LJ hi2)) λzz h2=>?_,Qt.mpr (fu I.nodup (List.pairwise_singleton _ _) λa ha b hb q=>hDa ((yA.mp hb)▸q▸ha)),λa ha q=>(AA.mp q).elim (I.apart a (D1 _ ha)) λq=>hDT ((yA.mp q)▸ha),λa ha=>I.tdom a (D1 _ ha),λa ha=>I.tnew a (D1 _ ha),λa ha=>(AA.mp ha).elim (I.new a) λq=>I.tnew a (Ch.mpr (.inl (yA.mp q))),I.gens,I.os⟩ hm hs;subst h1;subst h2;exact ca.mono hs
theorem Da(I:bl C (D::T) α' μ' s')(ac:dt D acc (D::T) α' μ' s')(hDT:D∉T):
 bl C T (α'++[D]) (μ'++[.live acc]) s'∧ai (α'++[D]) (μ'++[.live acc])=ai α' μ'++[D]∧(∀a,a∈T++ai (α'++[D]) (μ'++[.live acc])→a∈(D::T)++ai α' μ'):=Kp I rfl ac hDT
theorem ND{m:Str→Option Value}(I:bl C (D::T) α' μ' s')(S:aU [Cn,D] α μ s α' μ' s')(hD:s.heap.get? D=none)(hC:s.heap.get? Cn=none)(hDC:D≠Cn)
  (ac:dt D acc (D::T) α' μ' s') (hn:s'.heap.Ns Cn m) (hB:C.B.get? Cn=none) (hs:La Cn s'.heap h') (hCT:Cn∉T):
  bl C (D::T) α' μ' {s' with heap:=h'}∧aU [] α μ s α' μ' {s' with heap:=h'}∧dt D acc (D::T) α' μ' {s' with heap:=h'}:=by
 have hx:=iT hs;have hO:∀a∈[Cn],bX s'.heap a∧C.B.get? a=none:= λa ha=>yA.mp ha▸⟨fO hn,hB⟩;have I':bl C (D::T) α' μ' {s' with heap:=h'}:=bl.frames' (tk:=s'.toks) I hx hO λa ha q=>(Ch.mp q).elim (λz=>hDC (z.symm.trans (yA.mp ha))) λq=>hCT (yA.mp ha▸q);have mv:aG [Cn] [] s' {s' with heap:=h'}:=aG.of_heap (tk:=s'.toks) λb o hb e=>(hs.2 b λq=>hb (yA.mpr q)).trans e;exact fu I' ((S.weak λa ha=>.inr ((Ch.mp ha).elim (λq=>q▸hC) λha=>yA.mp ha▸hD)).moves mv (λb hb=>yA.mp hb▸hC) (λzz q=>nomatch q)) (au ac λitems p r=>aZ items (eO p hx λq=>hDC (yA.mp q)) (r.frames hx λa ha=>(hO a ha).1))
noncomputable def fg(scope:Scope)(itf:IF)(tf:d0→PyData→Option d0)(cf:CF):d0→List ah→Option (List PyData×List ah):= λρ μ=>bp (itf ρ μ) λxs p=>bp (f9 tf cf p.1 xs xs (bG scope ρ) p.2 []) λzz q=>some (q.2,q.1)
def cb(scope:Scope)(itf:IF)(tf:d0→PyData→Option d0)(cf:CF):EF:= λρ μ=>bp (fg scope itf tf cf ρ μ) λacc μ2=>some (.d (.list acc),μ2)
structure AI (C:gK) (n:Nat) (cx:Cx) (elt target iter:Expr) (ifs:List Expr) (rest:List Comprehension) (scope:Scope) (pos:Pos) (itf:IF) (tf:d0→PyData→Option d0) (cf:CF):Prop where
 intro::
 run:∃tup t cf0 K,cf=cU t cf0∧gD elt (⟨target,iter,ifs,0⟩::rest) scope pos 0 target iter ifs K∧nP C (bR cx scope) target tup tf∧j0 C n (bR cx scope) ifs t∧lL C n (bR cx scope) K cf0∧lS C n cx iter tup itf
 cap:vt cx scope=true
 cell:∀y∈scope.names,y.2≠ .cell
 kind:scope.kind=.function
 nd:∀ (i j:Nat) x,(bR cx scope).names[i]? =some (x,1)→(bR cx scope).names[j]? =some (x,1)→i=j
 loc:∀x∈scope.names,x.2=.local→scope.names.lookup x.1=some .local
 set:∀env x,foldedSetIterable iter env x=pure x
 two:2≤n
theorem vw{use:Option (Value→Sem Unit)}
  (c:AI C n cx elt target iter ifs rest scope pos itf tf cf) (R:cP A n) (I:bl C T α μ s) (F:bh C cx env O ρ s.heap α (T++ai α μ)) (h:fg scope itf tf cf ρ μ=some (acc',μ'))
  (hRR:∀D Cn α' s' m,bl C (D::T) α' μ' s'→aU [Cn,D] α μ s α' μ' s'→s.heap.get? D=none→s.heap.get? Cn=none→D≠Cn→dt D acc' (D::T) α' μ' s'→s'.heap.Ns Cn m→compPost (model C.prog C.w) A E use Q (.ref D) Cn (.ok .next) s') (pos':Pos):
  wpAny (model C.prog C.w) A (comprehension (.ListComp elt (⟨target,iter,ifs,0⟩::rest) scope pos) scope env pos' (newList []) false (eval iter env) use) Q E s:=by
 refine aD h λxs p e1 h=>aD h λρ2 q e2 hq=>?_;refine oK c.run λtup t cf0 K zq4 turn tg ts ck it=>?_;subst zq4;have hcl:closureFor scope env=pure (mr env scope.names []):=ym λx hx hf=>kv (Dd c.cap hx hf) λi k e hk=>bP F.cel λcad hc=>⟨_,hc.look i x.1 k e hk⟩;refine wpAny_comprehension_free rfl (c.set env) hcl c.kind c.loc (D2 (it.run A env O T ρ α μ s E xs p.1 p.2 R I F e1) (λv s1 pp=>D2 pp (λit s2 ia=>?_) λzz zz x=>x) λzz zz x=>x);cases (hq:some (q.2,q.1)=some (acc',μ'));exact yz c.two (RR:= λacc Cn=>compPost (model C.prog C.w) A E use Q acc Cn) turn tg ts ck c.cap c.cell c.kind c.nd R I F ia e2 hRR
theorem cD(c:AI C n cx elt target iter ifs rest scope pos itf tf cf):ab C n cx (.ListComp elt (⟨target,iter,ifs,0⟩::rest) scope pos) (cb scope itf tf cf):=by
 refine .of ?_;intro A env O T ρ α μ s E V μ' R I F h;refine aD h λacc μ2 e h=>cg h ?_;rw [eval_ListComp];refine vw (use:=none) c R I F e (λD Cn α' s' m I' S' hD hCn hDC ac hn=>(aZ m hn (λh' hs=>?_))) _;have hT:∀a,s.heap.get? a=none→a∉T:= λa e q=>I.mdom a (yo _ q) e;exact dU (ND I' S' hD hCn hDC ac hn (I.fresh hCn) hs (hT Cn hCn)) λI2 S2 ac2=>fY (sS I2 ac2 (hT D hD)) λI3 r3=>cJ α' I3 S2 r3
end
inductive Fl where
 |next
 |brk
 |ret (V:AV)
noncomputable def C1(h:Heap)(α M:List Addr):Fl→Flow→Prop
 | .next,f=>f=.next
 | .brk,f=>f=.brk
 | .ret V,f=>∃v,f=.ret v∧bm h α M v V
def ix(C:gK)(cx:Cx)(env:Env)(O T α:List Addr)(μ:List ah)(s:Shared)(fl:Fl)(ρ':d0)(μ':List ah)(f:Flow)(s':Shared):Prop:=
 ∃α',bl C T α' μ' s'∧aU O α μ s α' μ' s'∧bh C cx env O ρ' s'.heap α' (T++ai α' μ')∧C1 s'.heap α' (T++ai α' μ') fl f
noncomputable abbrev SF:=d0→List ah→Option (Fl×d0×List ah)
structure aQ (C:gK) (n:Nat) (cx:Cx) (st:Stmt) (f:SF):Prop where
 of::
 run:∀A env O T ρ α μ s E fl ρ' μ',cP A n→bl C T α μ s→bh C cx env O ρ s.heap α (T++ai α μ)→f ρ μ=some (fl,ρ',μ')→
  wpAny (model C.prog C.w) A (exec st env) (ix C cx env O T α μ s fl ρ' μ') E s
structure cB (C:gK) (n:Nat) (cx:Cx) (sts:List Stmt) (f:SF):Prop where
 of::
 run:∀A env O T ρ α μ s E fl ρ' μ',cP A n→bl C T α μ s→bh C cx env O ρ s.heap α (T++ai α μ)→f ρ μ=some (fl,ρ',μ')→
  wpAny (model C.prog C.w) A (execs sts env) (ix C cx env O T α μ s fl ρ' μ') E s
def aP:SF:= λρ μ=>some (.next,ρ,μ)
noncomputable def flC{Z:Type}(fl:Fl)(a b:Z):Z:=Fl.rec a b (λzz=>b) fl
def ap(f g:SF):SF:= λρ μ=>bp (f ρ μ) λfl p=>flC fl (g p.1 p.2) (some (fl,p))
section
variable {f g:SF}
theorem aQ.go{Q:Flow→Shared→Prop}{fl:Fl}(hb:aQ C n cx st f)(R:cP A n)(I:bl C T α μ s)(F:bh C cx env O ρ s.heap α (T++ai α μ))(e:f ρ μ=some (fl,ρ',μ'))
  (k:∀α' fw s',bl C T α' μ' s'→aU O α μ s α' μ' s'→bh C cx env O ρ' s'.heap α' (T++ai α' μ')→C1 s'.heap α' (T++ai α' μ') fl fw→Q fw s'):wpAny (model C.prog C.w) A (exec st env) Q E s:=
 D2 (hb.run A env O T ρ α μ s E _ _ _ R I F e) (λfw s' p=>et p λα' I' S' F' r=>k α' fw s' I' S' F' r) λzz zz x=>x
theorem cB.go{sts:List Stmt}{Q:Flow→Shared→Prop}{fl:Fl}(hb:cB C n cx sts f)(R:cP A n)(I:bl C T α μ s)(F:bh C cx env O ρ s.heap α (T++ai α μ))(e:f ρ μ=some (fl,ρ',μ'))
  (k:∀α' fw s',bl C T α' μ' s'→aU O α μ s α' μ' s'→bh C cx env O ρ' s'.heap α' (T++ai α' μ')→C1 s'.heap α' (T++ai α' μ') fl fw→Q fw s'):wpAny (model C.prog C.w) A (execs sts env) Q E s:=
 D2 (hb.run A env O T ρ α μ s E _ _ _ R I F e) (λfw s' p=>et p λα' I' S' F' r=>k α' fw s' I' S' F' r) λzz zz x=>x
theorem aN:cB C n cx [] aP:=by
 refine .of ?_;intro A env O T ρ α μ s E fl ρ' μ' R I F h;refine ga h ?_;exact RF (c_ α I (aU.refl _ _ _ _) F rfl)
theorem ak{rest:List Stmt}(hf:aQ C n cx st f)(hg:cB C n cx rest g):cB C n cx (st::rest) (ap f g):=by
 refine .of ?_;intro A env O T ρ α μ s E fl ρ' μ' R I F h;refine aD h λfl1 p e1 h=>Kh (hf.go R I F e1 λα1 fw s1 I1 S1 F1 r1=>?_);cases fl1 with
 |next=>subst r1;exact hg.go R I1 F1 h λα2 fw s2 I2 S2 F2 r2=>c_ α2 I2 (S1.trans S2) F2 r2
 |brk=>subst r1;exact ga h (c_ α1 I1 S1 F1 rfl)
 |ret V=>exact au r1 λv zq1 rv=>by subst zq1;exact ga h (j4 α1 I1 S1 F1 v rfl rv)
def ci(f:EF):SF:= λρ μ=>bp (f ρ μ) λV μ1=>oe (Nw V) (some ()) (λzz zz=>some (.next,ρ,μ1)) (bo (jJ V) λzz=>some (.next,ρ,μ1))
theorem cK{f:EF}(hf:ab C n cx e f)(hk:cx.scope.kind=.function)(hs:∀env,swapsWith e none pos.line env=pure false):aQ C n cx (.Expr e pos) (ci f):=by
 refine .of ?_;intro A env O T ρ α μ s E fl ρ' μ' R I F h;have hi:interactive env=false:=by unfold interactive;rw [F.sc,hk];rfl
 refine aD h λV μ1 e1 h=>wpAny_Expr (hf.goF R I F e1 λv s1 α1 I1 S1 F1 r1=>?_) hi (hs env);refine bU h (λzz zz e2 zz h=>ga h ?_) λh=>ax h λzz e2 h=>ga h (bP (fK e2 r1) λt zq1=>?_)
 ·rw [En e2 r1];exact c_ α1 I1 S1.up F1 rfl
 ·subst zq1;exact c_ α1 I1 S1.up F1 rfl
def c6(i:Nat)(f:EF):SF:= λρ μ=>bp (f ρ μ) λV μ1=>some (.next,ρ.set i (some V),μ1)
theorem jN{s2:Shared}(S1:aU O α μ s α1 μ1 s1)(st:gc C cx env O T α1 μ1 ρ' s1 s2):ix C cx env O T α μ s .next ρ' μ1 .next s2:=
 (c_ α1 st.1 (S1.trans st.2.1) st.2.2 rfl)
theorem bE{f:EF}(hf:ab C n cx e f)(hx:aA C cx x i)(hs:∀env,env.scope=cx.scope→swapsWith e (some (.Name x px)) pos.line env=pure false):aQ C n cx (.Assign [.Name x px] e pos) (c6 i f):=by
 refine .of ?_;intro A env O T ρ α μ s E fl ρ' μ' R I F h;refine aD h λV μ1 e1 h=>ga h (M7 (hf.goF R I F e1 λv s1 α1 I1 S1 F1 r1=>?_) (hs env F.sc));exact D2 (hx A env O T ρ α1 _ s1 E v V I1 F1 r1) (λzz s2 st=>jN S1.up st) λzz zz x=>x
end
variable {fl : Fl}
section
theorem HE(I:bl C T α μ s)(hk:∀b o,s.heap.get? b=some o→h'.get? b=some o)(hD:s.heap.get? D=none)(hd:∃o,h'.get? D=some o)(hc:c.isMut=true)(ca:dX h' ((D::T)++ai α μ) D c):
  bI C T α μ s (μ++[c]) (.c μ.length) (.ref D) {s with heap:=h',toks:=tk}:=by
 have h1:∀b∈[D],s.heap.get? b=none:= λb hb=>yA.mp hb▸hD;have I1:bl C ([D]++T) α μ {s with heap:=h',toks:=tk}:=I.grow hk rfl id h1 λb hb=>yA.mp hb▸hd;refine dU (Kp I1 hc ca λq=>I.mdom _ (yo _ q) hD) λI2 hm hsub=>?_;exact (cJ (α++[D]) I2 (⟨⟨[D],rfl,h1⟩,fZ.of_keeps hk,λa ha=>(AA.mp (hm▸ha)).elim .inl λh=>.inr (h1 a h),λa o e=>⟨o,hk a o e⟩,λzz zz e=>e⟩) ⟨D,by rw [←I.len];simp,rfl⟩)
theorem KI{vs:Array Value}(I:bl C T α μ s)(r:aw s.heap (T++ai α μ) vs.toList xs):
  bI C T α μ s (μ++[.live xs]) (.c μ.length) (.ref s.heap.objs.size) {s with heap:=s.heap.push {cls:=.type "list",data:=.seq vs},toks:=tk}:=
 HE I (bb _ _) (bw (DI _)) ⟨_,Dm _ rfl⟩ rfl (aZ vs ⟨_,Dm _ rfl⟩ (r.grow (s':= {s with heap:=s.heap.push {cls:=.type "list",data:=.seq vs}}) (bb _ _) DV))
def oa(fs:List EF):EF:= λρ μ=>bp (eX fs ρ μ) λVs μ1=>bp (lJ Vs μ1) λds μ2=>if ds.length≤sizeLine then some (.c μ2.length,μ2++[.live ds]) else none
theorem jx(h:dc C n cx es fs):ab C n cx (.List es pos) (oa fs):=by
 refine .of ?_;intro A env O T ρ α μ s E V μ' R I F q;refine aD q λVs μ1 e1 q=>aD q λds μ2 e2 q=>i6 q λhz q=>cg q ?_;refine List_ (D2 (h.run A env O T ρ α μ s E Vs μ1 pos R I F e1) (λvs s1 p=>cn p λα1 I1 S1 r1=>dU (jm I1 r1 e2) λI2 S2 r2=>?_) λzz zz x=>x);exact Ia (bI.trans (S1.trans S2) (KI (tk:=s1.toks) I2 (by simpa using r2))) (by show vs.toArray.size≤sizeLine;rw [OP,r2.length];exact hz)
theorem bh.letgo(F:bh C cx env O ρ h α M)(hs:La Cn h h')(hf:bX h Cn)(hni:¬ (E3 cx env Cn∨Cn∈O)):bh C cx env O ρ h' α M:=
 F.ext (iT hs) (λa ha=>.inr (.inl (yA.mp ha▸hf))) (λzz zz=>id) (λzz=>.inl) λa ha q=>hni (yA.mp q▸ha)
variable {rest:List Comprehension} {ifs:List Expr}
def f_(i:Nat)(scope:Scope)(itf:IF)(tf:d0→PyData→Option d0)(cf:CF)(cell:Bool):SF:= λρ μ=>bp (fg scope itf tf cf ρ μ) λacc μ2=>if cell=true then some (.next,ρ.set i (some (.c μ2.length)),μ2++[.live acc]) else some (.next,ρ.set i (some (.d (.list acc))),μ2)
theorem Ey(cell:Bool)(I:bl C T α μ s)(F:bh C cx env O ρ s.heap α (T++ai α μ))(I':bl C (D::T) α' μ' s')(S':aU [Cn,D] α μ s α' μ' s')(hD:s.heap.get? D=none)
  (hCn:s.heap.get? Cn=none) (ac:dt D acc (D::T) α' μ' s'):∃α2,bl C T α2 (if cell=true then μ'++[.live acc] else μ') s'∧aU [] α μ s α2 (if cell=true then μ'++[.live acc] else μ') s'∧
   bh C cx env O ρ s'.heap α2 (T++ai α2 (if cell=true then μ'++[.live acc] else μ'))∧bm s'.heap α2 (T++ai α2 (if cell=true then μ'++[.live acc] else μ')) (.ref D) (if cell=true then .c μ'.length else .d (.list acc)):=by
 have S0:aU [] α μ s α' μ' s':=S'.weak λa ha=>.inr ((Ch.mp ha).elim (λq=>q▸hCn) λha=>yA.mp ha▸hD);have hDT:D∉T:= λq=>I.mdom D (yo _ q) hD;have F':bh C cx env O ρ s'.heap α' ((D::T)++ai α' μ'):=F.growStep (wr:=[D]) I S0 λb hb=>yA.mp hb▸hD;cases cell with
 |false=>
  refine fY (sS I' ac hDT) λI2 r2=>?_;exact (c_ α' I2 S0 (F'.mono pZ) r2)
 |true=>
  refine dU (Da I' ac hDT) λI2 hm hsub=>?_;refine (c_ (α'++[D]) I2 (au S0.pre λδ e d=>⟨aZ (δ++[D]) (by rw [e,E9]) (λa ha=>(AA.mp ha).elim (d a) λq=>yA.mp q▸hD),S0.ext,λa ha=>(AA.mp (hm▸ha)).elim (S0.mts a) λq=>.inr (yA.mp q▸hD),S0.dom,S0.gens⟩) ?_ ⟨D,by rw [←I'.len];simp,rfl⟩);exact F'.ext (fZ.refl [] _) (iF.nil _ _) (λi a e=>(EY (BJ.mp e).1).trans e) (λa ha=>.inl (hsub a ha)) λzz zz q=>nomatch q
theorem gz{spos:Pos}(cell:Bool)(c:AI C n cx elt target iter ifs rest scope pos itf tf cf)(hx:aA C cx x i)
  (hs:∀env,env.scope=cx.scope→swapsWith (.ListComp elt (⟨target,iter,ifs,0⟩::rest) scope pos) (some (.Name x px)) spos.line env=pure true):
  aQ C n cx (.Assign [.Name x px] (.ListComp elt (⟨target,iter,ifs,0⟩::rest) scope pos) spos) (f_ i scope itf tf cf cell):=by
 refine .of ?_;intro A env O T ρ α μ s E fl ρ' μ' R I F h;refine aD h λacc μ2 e h=>?_;rw [exec_Assign_Name_used _ _ _ _ (hs env F.sc)];refine yt (L9 (yt ?_));refine (?_:wpAny _ A (do let _←comprehension (.ListComp elt (⟨target,iter,ifs,0⟩::rest) scope pos) scope env _ (newList []) false (eval iter env) (some (assign (.Name x px) env))) _ _ s);have key:fl=.next∧ρ'=ρ.set i (some (if cell=true then .c μ2.length else .d (.list acc)))∧μ'=(if cell=true then μ2++[.live acc] else μ2):=by
  cases cell<;>exact ga h (fu rfl rfl rfl)
 refine dU key λzq0 zq1 zq2=>?_;refine bH (ES zq0) ?_;refine bH (ES zq1) ?_;refine bH (ES zq2) ?_;refine yt (D2 (vw (use:=some (assign (.Name x px) env)) (Q:= λzz s'=>ix C cx env O T α μ s .next (ρ.set i (some (if cell=true then .c μ2.length else .d (.list acc)))) (if cell=true then μ2++[.live acc] else μ2) .next s') c R I F e
  (λD Cn α' s' m I' S' hD hCn hDC ac hn=>?_) _) (λzz s' hq=>Et (Et hq)) λzz zz e=>e)
 refine et (Ey cell I F I' S' hD hCn ac) λα2 I2 S2 F2 r2=>?_;have hfr:∀a,E3 cx env a∨a∈O→a≠Cn:= λa ha q=>(F.frA ha).dom (q▸hCn);refine (?_:wpAny _ A (assign (.Name x px) env (.ref D)) _ _ _);refine Qs (D2 (hx A env O T ρ α2 _ s' E _ _ I2 F2 r2) (λzz s3 st=>?_) λzz zz x=>x);have hnO:Cn∉O++ai α2 (if cell=true then μ2++[.live acc] else μ2):= λq=>(AA.mp q).elim (λq=>hfr Cn (.inr q) rfl) λq=>I2.notFrame (db q) (fO hn);have hn3:=zd hn st.2.1.ext hnO;refine (aZ m hn3 (λh' hs'=>?_));have hx1:=iT hs';exact (c_ α2 (bl.frames' (tk:=s3.toks) st.1 hx1 (λa ha=>yA.mp ha▸⟨fO hn3,I.fresh hCn⟩) λa ha q=>I.mdom a (yo _ q) (yA.mp ha▸hCn)) (((S2.up).trans st.2.1).moves (wr:=[Cn]) (gi:=[]) (aG.of_heap (tk:=s3.toks) λb o hb e=>(hs'.2 b λq=>hb (yA.mpr q)).trans e) (λb hb=>yA.mp hb▸hCn) (λzz q=>nomatch q)) (st.2.2.letgo hs' (fO hn3) λq=>hfr Cn q rfl) rfl)
theorem eY{line:Nat}(hl:cx.scope.names.lookup x=some .local)(hk:cx.scope.kind=.function)(hp:px.line=pos.line)(hn:scope.names.any (λ(n,k)=>n==x&&(k== .local||k== .cell))=false):
  ∀env,env.scope=cx.scope→swapsWith (.ListComp elt rest scope pos) (some (.Name x px)) line env=pure true:=by
 intro env he
 show (pure (env.blockKind== .function&&env.kindOf x==some .local&&px.line==pos.line&&!(scope.names.any λ(n,k)=>n==x&&(k== .local||k== .cell))):Sem Bool)=pure true
 have h1:env.blockKind=.function:=by unfold Env.blockKind;rw [he,hk];rfl
 have h2:env.kindOf x=some .local:=by unfold J3;rw [he];exact hl
 rw [h1,h2,hp,hn]
 simp
theorem oS{line:Nat}(hl:cx.scope.names.lookup x=some .cell):
  ∀env,env.scope=cx.scope→swapsWith (.ListComp elt rest scope pos) (some (.Name x px)) line env=pure false:=by
 intro env he
 show (pure (env.blockKind== .function&&env.kindOf x==some .local&&px.line==pos.line&&!(scope.names.any λ(n,k)=>n==x&&(k== .local||k== .cell))):Sem Bool)=pure false
 have h2:env.kindOf x=some .cell:=by unfold J3;rw [he];exact hl
 rw [h2,show (some Oo==some NameKind.local)=false from rfl]
 simp
end
def e_(f:EF):SF:= λρ μ=>bp (f ρ μ) λV μ1=>some (.ret V,ρ,μ1)
def Mx:SF:= λρ μ=>some (.brk,ρ,μ)
def jC(t:TF)(f g:SF):SF:= λρ μ=>bp (t ρ μ) λb μ1=>cond b (f ρ μ1) (g ρ μ1)
noncomputable def R9(fl:Fl)(a:Option (Fl×d0×List ah))(p:d0×List ah):Option (Fl×d0×List ah):=Fl.rec a (some (.next,p)) (λV=>some (.ret V,p)) fl
def j3(t:TF)(f:SF)(k:Nat):SF:=Nat.rec (λzz zz=>none) (λzz w ρ μ=>bp (t ρ μ) λb μ1=>cond b (bp (f ρ μ1) λfl p=>R9 fl (w p.1 p.2) p) (some (.next,ρ,μ1))) k
theorem iS{f:SF}:j3 t f (k+1) ρ μ=bp (t ρ μ) λb μ1=>cond b (bp (f ρ μ1) λfl p=>R9 fl (j3 t f k p.1 p.2) p) (some (.next,ρ,μ1)):=rfl
open Classical in
def fN(tf:d0→PyData→Option d0)(f e:SF)(g:Option Nat)(xs r:List PyData):SF:=
 r.foldr (λx k ρ μ=>bo (tf ρ x) λρ1=>bp (f ρ1 μ) λfl p=>R9 fl (if cu g xs p.2 then k p.1 p.2 else none) p) e
open Classical in
theorem mY{f e:SF}{g:Option Nat}{r:List PyData}{x:PyData}:fN tf f e g xs (x::r) ρ μ=bo (tf ρ x) λρ1=>bp (f ρ1 μ) λfl p=>R9 fl (if cu g xs p.2 then fN tf f e g xs r p.1 p.2 else none) p:=rfl
def jI(itf:IF)(tf:d0→PyData→Option d0)(f e:SF):SF:= λρ μ=>bp (itf ρ μ) λxs p=>fN tf f e p.1 xs xs ρ p.2
def ie(i:Nat)(f:EF)(o:AV→AV→List ah→Option (AV×List ah)):SF:= λρ μ=>bo (ρ[i]?.bind id) λV=>bp (f ρ μ) λW μ1=>bp (o V W μ1) λr μ2=>some (.next,ρ.set i (some r),μ2)
def qQ(C:gK)(n:Nat)(op:Operator)(o:AV→AV→List ah→Option (AV×List ah)):Prop:=∀A T α μ s E a b Va Vb V μ',cP A n→bl C T α μ s→
 bm s.heap α (T++ai α μ) a Va→bm s.heap α (T++ai α μ) b Vb→o Va Vb μ=some (V,μ')→wpAny (model C.prog C.w) A (inplaceOp op a b) (bI C T α μ s μ' V) E s
section
variable {f g:SF}
theorem d8{f:EF}(hf:ab C n cx e f):aQ C n cx (.Return (some e) pos) (e_ f):=by
 refine .of ?_;intro A env O T ρ α μ s E fl ρ' μ' R I F h;exact aD h λV μ1 e1 h=>ga h (rA (exec_Return_some ..) (yt (L9 (yt (hf.goF R I F e1 λv s1 α1 I1 S1 F1 r1=>Et (j4 α1 I1 S1.up F1 v rfl r1))))))
theorem SB:aQ C n cx (.Break pos) Mx:=by
 refine .of ?_;intro A env O T ρ α μ s E fl ρ' μ' R I F h;refine ga h ?_;rw [arm_exec_Break];exact yt (L9 (Et (c_ α I (aU.refl _ _ _ _) F rfl)))
theorem gO.go{Q:Bool→Shared→Prop}{r:Bool}(ht:gO C n cx test t)(R:cP A n)(I:bl C T α μ s)(F:bh C cx env O ρ s.heap α (T++ai α μ))(e:t ρ μ=some (r,μ'))
  (k:∀α' s',bl C T α' μ' s'→aU [] α μ s α' μ' s'→Q r s'):wpAny (model C.prog C.w) A (isTrue test env (eval test env)) Q E s:=
 D2 (ht.run A env O T ρ α μ s E r μ' R I F e) (λzz s' p=>iB p λq α' I' S'=>q▸k α' s' I' S') λzz zz x=>x
theorem ix.trans{fw:Flow}(S:aU O α μ s α1 μ1 s1)(p:ix C cx env O T α1 μ1 s1 fl ρ' μ' fw s'):ix C cx env O T α μ s fl ρ' μ' fw s':=
 et p λα2 I2 S2 F2 r2=>c_ α2 I2 (S.trans S2) F2 r2
theorem g8(ht:gO C n cx test t)(hf:cB C n cx body f)(hg:cB C n cx orelse g):aQ C n cx (.If test body orelse pos) (jC t f g):=by
 refine .of ?_;intro A env O T ρ α μ s E fl ρ' μ' R I F h;refine aD h λb μ1 e1 h=>wpAny_If (ht.go R I F e1 λα1 s1 I1 S1=>?_);cases b with
 |true=>exact D2 (hf.run A env O T ρ α1 μ1 s1 E fl ρ' μ' R I1 (F.step I S1) h) (λr s2 p=>ix.trans S1.up p) λzz zz x=>x
 |false=>exact D2 (hg.run A env O T ρ α1 μ1 s1 E fl ρ' μ' R I1 (F.step I S1) h) (λr s2 p=>ix.trans S1.up p) λzz zz x=>x
theorem LR{X:Type}{o:Option (Option X)}{V:X}(h:o.bind id=some V):o=some (some V):=by
 cases o with
 |none=>exact ct h
 |some o=>exact congrArg some h
theorem o3{f:EF}{o:AV→AV→List ah→Option (AV×List ah)}(hn:cx.names[i]? =some (x,1))(hl:cx.scope.names.lookup x=some .local)(hk:cx.scope.kind=.function)(hf:ab C n cx e f)(ho:qQ C n op o):
  aQ C n cx (.AugAssign (.Name x px) op e pos) (ie i f o):=by
 refine .of ?_;intro A env O T ρ α μ s E fl ρ' μ' R I F h;refine ax h λV eV h=>aD h λW μ1 e1 h=>aD h λr μ2 e2 h=>ga h (au F.loc λm hm hq=>?_);refine au (hq i x V hn (LR eV)) λv e3 rv=>?_;refine wpAny_AugAssign_Name (Pk (by rw [F.sc];exact hk) (by unfold J3;rw [F.sc];exact hl) hm e3 (hf.go R I F e1 λw s1 α1 I1 S1 r1=>?_));refine D2 (ho A T α1 μ1 s1 E v w V W r μ2 R I1 (rv.step0 S1) r1 e2) (λu s2 p=>cn p λα2 I2 S2 r2=>?_) λzz zz x=>x;have S12:=S1.trans S2;exact D2 (sF i hn hl hk I2 (F.step I S12) r2) (λzz s3 st=>jN S12.up st) λzz zz x=>x
def Jw(fl2 fl:Fl):Prop:=(fl2=.brk∧fl=.next)∨∃V,fl2=.ret V∧fl=.ret V
theorem Qb{fl':Fl}{a:Option (Fl×d0×List ah)}{p:d0×List ah}(h:R9 fl a p=some (fl',ρ',μ'))(k1:fl=.next→a=some (fl',ρ',μ')→G)(k2:Jw fl fl'→p=(ρ',μ')→G):G:=by
 cases fl with
 |next=>exact k1 rfl h
 |brk=>exact k2 (.inl ⟨rfl,(congrArg U5 (Fd h)).symm⟩) (congrArg U7 (Fd h))
 |ret V=>exact k2 (.inr ⟨V,rfl,(congrArg U5 (Fd h)).symm⟩) (congrArg U7 (Fd h))
theorem Jw.el{fl2:Fl}{fw:Flow}(q:Jw fl2 fl)(r:C1 h α M fl2 fw)(k1:fl=.next→fw=.brk→G)(k2:∀V v,fl=.ret V→fw=.ret v→bm h α M v V→G):G:=
 q.elim (λz=>by cases z.1;exact k1 z.2 r) λz=>au z λV z1 z2=>by cases z1;exact au r λv e rv=>k2 V v z2 e rv
abbrev WLI(C:gK)(cx:Cx)(env:Env)(O T α₀:List Addr)(μ₀:List ah)(s₀:Shared)(F:Nat→d0→List ah→Prop)(k:Nat)(s:Shared):Prop:=
 ∃ρ α μ,bl C T α μ s∧aU O α₀ μ₀ s₀ α μ s∧bh C cx env O ρ s.heap α (T++ai α μ)∧F k ρ μ
theorem HF(N:Nat)(ht:gO C n cx test t)(hf:cB C n cx body f):aQ C n cx (.While test body [] pos) (j3 t f N):=by
 refine .of ?_;intro A env O T ρ α μ s E fl ρ' μ' R I F h;refine wpAny_While (codeAny_whileLoop (WLI C cx env O T α μ s λk ρ μ=>j3 t f k ρ μ=some (fl,ρ',μ')) (λk s1 p=>?_) N (dy ρ α μ I (aU.refl _ _ _ _) F h));refine dg p λρ1 α1 μ1 I1 S1 F1 h=>?_;cases k with
 |zero=>exact ct h
 |succ k=>
  refine aD (iS.symm.trans h) λb μ2 e1 h=>ht.go R I1 F1 e1 λα2 s2 I2 S2=>?_;cases b with
  |true=>
   refine aD (o:=f ρ1 μ2) (k:= λfl p=>R9 fl (j3 t f k p.1 p.2) p) h λfl2 q e3 h=>hf.go R I2 (F1.step I1 S2) e3 λα3 fw s3 I3 S3 F3 r3=>?_;have S13:=S1.trans (S2.up.trans S3);refine Qb h (λz h=>?_) λz zz=>?_
   ·subst z
    subst r3;exact yh k (Rd _) q.1 α3 q.2 I3 S13 F3 h
   ·subst zz
    refine z.el r3 (λz z2=>?_) λV v z z2 rv=>?_
    ·subst z;subst z2;exact c_ α3 I3 S13 F3 rfl
    ·subst z;subst z2;exact j4 α3 I3 S13 F3 v rfl rv
  |false=>exact ga h (RF (c_ α2 I2 (S1.trans S2.up) (F1.step I1 S2) rfl))
theorem bm.mono(r:bm h α M v V)(hm:∀a∈M',a∈M):bm h α M' v V:=r.ext (fZ.refl [] h) (iF.nil _ _) (λzz zz=>id) λa ha=>.inl (hm a ha)
abbrev Xq(C:gK)(cx:Cx)(env:Env)(O T α₀:List Addr)(μ₀:List ah)(s₀:Shared)(St:List Addr→xH)(xs:List PyData)(F:List PyData→d0→List ah→Prop)(k:Nat)(s:Shared):Prop:=
 ∃wr i ρ α μ,((∀a∈O,a∉wr)∧(∀a∈T,a∉wr)∧∀b∈wr,s₀.heap.get? b=none)∧k=xs.length+1-i∧i≤xs.length∧bl C (wr++T) α μ s∧bh C cx env O ρ s.heap α ((wr++T)++ai α μ)∧St wr (wr++T) α μ i s∧aU O α₀ μ₀ s₀ α μ s∧F (xs.drop i) ρ μ
theorem Xq.mk{F:List PyData→d0→List ah→Prop}
  (h1:∀a∈O,a∉wr) (h2:∀a∈T,a∉wr) (h3:∀b∈wr,s₀.heap.get? b=none) (hk:k=xs.length+1-i) (hi:i≤xs.length) (I:bl C (wr++T) α μ s) (Fr:bh C cx env O ρ s.heap α ((wr++T)++ai α μ)) (st:St wr (wr++T) α μ i s) (S:aU O α₀ μ₀ s₀ α μ s) (h:F (xs.drop i) ρ μ):Xq C cx env O T α₀ μ₀ s₀ St xs F k s:=
 (i8 wr i ρ α μ ⟨h1,h2,h3⟩ hk hi I Fr st S h)
theorem Jt{g0:Option Nat}{Q:Fin→Shared→Prop}
  (tg:nP C cx target tup tf) (hb:cB C n cx body f) (R:cP A n) (hn2:2≤n) (W:hU C it gi xs g0 tup St Mid)
  (hOw:∀a∈O,a∉wr) (hTw:∀a∈T,a∉wr) (hw0:∀b∈wr,s₀.heap.get? b=none) (hg0:∀i∈gi,s₀.gens[i]? =none)
  (I:bl C (wr++T) α μ s) (F:bh C cx env O ρ s.heap α ((wr++T)++ai α μ)) (st:St wr (wr++T) α μ i s) (S:aU O α₀ μ₀ s₀ α μ s)
  (h:fN tf f g g0 xs (xs.drop i) ρ μ=some (fl,ρ',μ'))
  (kD:∀s1,bl C T α μ s1→bh C cx env O ρ s1.heap α (T++ai α μ)→aU O α₀ μ₀ s₀ α μ s1→g ρ μ=some (fl,ρ',μ')→Q (.again (.block orelse env)) s1)
  (kN:∀s4,i<xs.length→Xq C cx env O T α₀ μ₀ s₀ St xs (λr ρ μ=>fN tf f g g0 xs r ρ μ=some (fl,ρ',μ')) (xs.length+1-(i+1)) s4→Q (.again (.forLoop target it body orelse env)) s4)
  (kX:∀fw s4,ix C cx env O T α₀ μ₀ s₀ fl ρ' μ' fw s4→Q (.done fw) s4):wpAny (model C.prog C.w) A ((forTurn target it body orelse env).onRaise (λx=>do noteFrame x env;theTreesLotGoes x)) Q E s:=by
 have hwT:∀b∈wr,b∈wr++T:= λb hb=>yo _ hb;refine wpAny_noted ?_;simp only [forTurn];refine yt (L9 (yt (SQ ?_)));cases ex:xs[i]? with
 |none=>
  rw [Ms (G_.mp ex)] at h
  exact W.done (R.mono hn2) I st ex λs1 mv hI=>Et (kD s1 (hI T λa ha=>⟨CE _ ha,hTw a ha⟩) ((F.moves mv hwT).mono mi) (S.moves mv hw0 hg0) h)
 |some x=>
  rw [wJ ex] at h
  refine ax h λρ1 e1 h=>aD h λfl2 p e2 hh=>?_;clear h;refine W.item (R.mono hn2) I st ex λv s1 wr1 mv1 hfr I1 ir1 md1=>?_;refine yt (W.go I1 md1 tg.1 ir1 λs2 mv2 I2 ir2 st2=>?_);refine dU (Bv (T:=T) (h0:=s₀.heap) hfr) λhT1 hw1' hn1=>?_;have hwT1:∀b∈wr1,b∈wr1++T:= λb hb=>yo _ hb;have hOw1:∀a∈O,a∉wr1:= λa ha=>hn1 a (hOw a ha) (au ((F.own a ha).1) λo e zz=>⟨o,e⟩);have hTw1:∀a∈T,a∉wr1:= λa ha=>hn1 a (hTw a ha) (I.tdom a (CE _ ha));have hw1:=hw1' hw0 S.dom;have F2:=(F.movesG mv1 hwT hT1).moves mv2 hwT1;have S2:=(S.moves mv1 hw0 hg0).moves mv2 hw1 hg0;refine yt (D2 (tg.2 A env O (wr1++T) ρ α μ s2 _ v x ρ1 R.handled I2 F2 ir2 e1) (λzz s3 sd=>?_) λzz zz x=>x);refine yt (hb.go R sd.1 sd.2.2 e2 λα4 fw s4 I4 S4 F4 r4=>?_);have S24:=sd.2.1.trans S4;refine Qb hh (λz h=>?_) λz zz=>?_
  ·subst z
   subst r4;have hlt:=(BJ.mp ex).1;exact @i6 _ (QQ _) _ _ _ _ h λhgd h=>Et (kN s4 hlt (Xq.mk hOw1 hTw1 hw1 rfl hlt I4 F4 (W.frame st2 S24 (λa ha=>.inr (.inl (F2.own a ha).1)) hOw1 (λa ha=>.inl ha) hwT1 I2 I4 hgd) (S2.trans S24) h))
  ·have I5:=I4.sub (T':=T) λa ha=>CE _ ha
   have F5:=F4.mono (M':=T++ai α4 p.2) mi;subst zz;refine z.el r4 (λz z2=>?_) λV v z z2 rv=>?_
   ·subst z;subst z2;exact Et (kX _ s4 (c_ α4 I5 (S2.trans S24) F5 rfl))
   ·subst z;subst z2;exact Et (kX _ s4 (j4 α4 I5 (S2.trans S24) F5 v rfl (rv.mono mi)))
theorem Gw{g0:Option Nat}{RR:Result→Shared→Prop}
  (tg:nP C cx target tup tf) (hb:cB C n cx body f) (he:cB C n cx orelse g) (R:cP A n) (hn2:2≤n) (W:hU C it gi xs g0 tup St Mid)
  (hOw:∀a∈O,a∉wr) (hTw:∀a∈T,a∉wr) (hw0:∀b∈wr,s₀.heap.get? b=none) (hg0:∀i∈gi,s₀.gens[i]? =none)
  (I:bl C (wr++T) α μ s) (F:bh C cx env O ρ s.heap α ((wr++T)++ai α μ)) (st:St wr (wr++T) α μ 0 s) (S:aU O α₀ μ₀ s₀ α μ s)
  (h:fN tf f g g0 xs xs ρ μ=some (fl,ρ',μ')) (hR:∀fw s',ix C cx env O T α₀ μ₀ s₀ fl ρ' μ' fw s'→RR (.ok fw) s'):
  codeAny (model C.prog C.w) A (.forLoop target it body orelse env) RR s:=by
 refine codeAny_loop' rfl (Xq C cx env O T α₀ μ₀ s₀ St xs λr ρ μ=>fN tf f g g0 xs r ρ μ=some (fl,ρ',μ')) (λk s=>?_) (xs.length+1) (Xq.mk (i:=0) hOw hTw hw0 rfl (Lw _) I F st S h);clear hOw hTw hw0 I F st S h;intro p;refine kb p λwr i ρ α μ q zk hi I F st S h=>?_;refine bH (ES zk) ?_;refine dU q λhOw hTw hw0=>?_;exact Jt (A:=A) tg hb R hn2 W hOw hTw hw0 hg0 I F st S h (λs1 I1 F1 S1 e=>.inr ⟨rfl,codeAny_block (he.go R I1 F1 e λα2 fw s2 I2 S2 F2 r2=>hR fw s2 (c_ α2 I2 (S1.trans S2) F2 r2))⟩) (λs4 hl p=>.inl (gR rfl _ (BB hl) p)) hR
theorem gn(hn2:2≤n)(hit:lS C n cx iter tup itf)(tg:nP C cx target tup tf)(hb:cB C n cx body f)(he:cB C n cx orelse g)(hs:∀env x,foldedSetIterable iter env x=pure x):aQ C n cx (.For target iter body orelse pos) (jI itf tf f g):=by
 refine .of ?_;intro A env O T ρ α μ s E fl ρ' μ' R I F h;refine aD h λxs p e1 h=>wpAny_For (D2 (hit.run A env O T ρ α μ s _ xs p.1 p.2 R I F e1) (λx s1 pp=>D2 pp (λit s2 q=>?_) λzz zz x=>x) λzz zz x=>x) (hs env);refine gw q λwr gi St Mid α1 W I1 S1 st hw hg hgd=>?_;exact Gw tg hb he R hn2 W (AE F hw) (λa ha q=>I.mdom a (yo _ ha) (hw a q)) hw hg I1 (F.growStep I S1 hw) st S1.up h λfw s' p=>p
end
def df(scope:Scope):Cx:= {scope:=scope,names:=(scope.names.filter λx=>x.2== .local||x.2== .cell).map λx=>(x.1,if x.2== .local then 1 else 2)}
noncomputable def cC(scope:Scope)(Vs:List AV):d0:=Vs.map some++GE ((df scope).names.length-Vs.length) none
theorem lZ{l:List (Str×NameKind)}{k:NameKind}(hn:(l.map (·.1)).Nodup)(h:(x,k)∈l):l.lookup x=some k:=by
 induction l with
 |nil=>exact nomatch h
 |cons p r ih=>
  have hn':=J_.mp hn;refine (Ch.mp h).elim (λq=>q▸P8) λq=>?_;have hxy:(x==p.1)=false:=by simpa using λz:x=p.1=>hn'.1 (by show p.1∈_;rw [←z];exact Pq (f:=(·.1)) q)
  refine (Nn).trans ?_;rw [hxy];exact ih hn'.2 q
theorem mK(h:(df scope).names[i]? =some (x,k)):(k=1∧(x,NameKind.local)∈scope.names)∨(k=2∧(x,Oo)∈scope.names):=by
 unfold df at h
 simp only [Gi,IA] at h
 obtain ⟨⟨y,j⟩,e,q⟩:=h;have hm:=Oq.mp (FV e);simp only [SX] at q
 obtain ⟨rfl,q⟩:=q;simp only [Px,beq_iff_eq] at hm
 rcases hm.2 with z|z
 ·subst z;exact .inl ⟨by simpa using q.symm,hm.1⟩
 ·subst z;exact .inr ⟨by simpa using q.symm,hm.1⟩
theorem jf{β:Type}{l:List (Str×β)}(p:Str×β→Bool)(h:(l.map (·.1)).Nodup):((l.filter p).map (·.1)).Nodup:=
 SY (List.Sublist.map _ List.filter_sublist) h
theorem pY(hn:(scope.names.map (·.1)).Nodup){l:Nat}(h1:(df scope).names[i]? =some (x,k))(h2:(df scope).names[j]? =some (x,l)):i=j:=by
 have hnd:((df scope).names.map (·.1)).Nodup:=by
  unfold df;simp only [ER];exact jf _ hn
 have e1:((df scope).names.map (·.1))[i]? =some x:=by rw [Gi,h1];rfl
 have e2:((df scope).names.map (·.1))[j]? =some x:=by rw [Gi,h2];rfl
 refine bP (BJ.mp e1) λp q1=>?_;refine bP (BJ.mp e2) λp' q2=>?_
 rcases Qp i j with h|h|h
 ·exact absurd (q1.trans q2.symm) (M0.mp hnd i j p p' h)
 ·exact h
 ·exact absurd (q2.trans q1.symm) (M0.mp hnd j i p' p h)
theorem rC{names:List (Str×NameKind)}{acc:List (Str×Addr)}(h:∃c,acc.lookup x=some c):∃c,(cellsFrom n names acc).lookup x=some c:=by
 induction names generalizing n acc with
 |nil=>exact h
 |cons p r ih=>
  refine (?_:∃c,(if p.2== .cell then cellsFrom (n+1) r ((p.1,n)::acc) else cellsFrom n r acc).lookup x=some c)
  by_cases q:(p.2== .cell)=true
  ·rw [if_pos q]
   refine ih ?_;rw [Nn];cases x==p.1 with
   |true=>exact ⟨_,rfl⟩
   |false=>exact h
  ·rw [if_neg q];exact ih h
theorem jQ{names:List (Str×NameKind)}(n:Nat)(acc:List (Str×Addr))(x:Str)(h:(x,Oo)∈names):∃c,(cellsFrom n names acc).lookup x=some c:=by
 induction names generalizing n acc with
 |nil=>exact nomatch h
 |cons p r ih=>
  refine (?_:∃c,(if p.2== .cell then cellsFrom (n+1) r ((p.1,n)::acc) else cellsFrom n r acc).lookup x=some c);refine (Ch.mp h).elim (λq=>q▸rC ⟨n,P8⟩) λq=>?_
  by_cases z:(p.2== .cell)=true
  ·rw [if_pos z];exact ih _ _ q
  ·rw [if_neg z];exact ih _ _ q
section
variable {kd:Str→Option NameKind} {ps:List Str} {m:Str→Option Value}
theorem DJ(h:x∉ps):bindL kd (ps.zip vs) m x=m x:=by
 induction ps generalizing vs m with
 |nil=>rfl
 |cons p ps ih=>
  cases vs with
  |nil=>rfl
  |cons v vs=>
   refine (ih λq=>h (D1 _ q)).trans ?_
   by_cases q:kd p=some .local
   ·rw [if_pos q];exact if_neg λq=>h (Ch.mpr (.inl q))
   ·rw [if_neg q]
theorem DE(h:x∉ps):bindC kd (ps.zip vs) m x=m x:=by
 induction ps generalizing vs m with
 |nil=>rfl
 |cons p ps ih=>
  cases vs with
  |nil=>rfl
  |cons v vs=>
   refine (ih λq=>h (D1 _ q)).trans ?_
   by_cases q:kd p=some .local
   ·rw [if_pos q]
   ·rw [if_neg q];exact if_neg λq=>h (Ch.mpr (.inl q))
theorem FI{G:List (Str×Value)→(Str→Option Value)→Prop}(hn:ps.Nodup)(h1:ps[i]? =some x)(h2:vs[i]? =some v)(b:∀ (qs:List Str) (us:List Value) m,x∉qs→G ((x,v)::qs.zip us) m)(k:∀p l m,(∀m,G l m)→G (p::l) m):G (ps.zip vs) m:=by
 induction ps generalizing vs m i with
 |nil=>exact ct h1
 |cons p ps ih=>
  cases vs with
  |nil=>exact ct h2
  |cons w vs=>
   have hn':=J_.mp hn;cases i with
   |zero=>cases h1;cases h2;exact b ps vs m hn'.1
   |succ i=>exact k _ _ m λm=>ih hn'.2 h1 h2
theorem Eh(hn:ps.Nodup)(h1:ps[i]? =some x)(h2:vs[i]? =some v)(hk:kd x=some .local):bindL kd (ps.zip vs) m x=some v:=
 FI (G:= λl m=>bindL kd l m x=some v) hn h1 h2 (λzz zz zz hq=>(DJ hq).trans (by rw [if_pos hk];exact if_pos rfl)) λzz zz zz h=>h _
theorem DO(hn:ps.Nodup)(h1:ps[i]? =some x)(h2:vs[i]? =some v)(hk:kd x≠some .local):bindC kd (ps.zip vs) m x=some v:=
 FI (G:= λl m=>bindC kd l m x=some v) hn h1 h2 (λzz zz zz hq=>(DE hq).trans (by rw [if_neg hk];exact if_pos rfl)) λzz zz zz h=>h _
end
theorem Er(r:eZ h α M vs Vs)(e:Vs[i]? =some V):∃v,vs[i]? =some v∧bm h α M v V:=by
 induction Vs generalizing vs i with
 |nil=>exact ct e
 |cons W Vs ih=>
  cases vs with
  |nil=>exact r.elim
  |cons v vs=>
   cases i with
   |zero=>exact ⟨v,rfl,Fd e▸r.1⟩
   |succ i=>exact ih (vs:=vs) (i:=i) r.2 e
theorem CQ(r:eZ h α M vs Vs):vs.length=Vs.length:=by
 induction Vs generalizing vs with
 |nil=>cases vs with
  |nil=>rfl
  |cons _ _=>exact r.elim
 |cons W Vs ih=>cases vs with
  |nil=>exact r.elim
  |cons _ _=>exact congrArg V8 (ih r.2)
theorem Ex(h:(cC scope Vs)[i]? =some (some V)):Vs[i]? =some V:=by
 unfold cC at h
 by_cases hi:i<Vs.length
 ·rw [EY (by simpa using hi),Gi,IA] at h
  exact au h λW e q=>e.trans q
 ·rw [IK (by simpa using LD hi),QR] at h
  by_cases q:i-(Vs.map some).length< (df scope).names.length-Vs.length
  ·rw [if_pos q] at h;exact ct (Fd h)
  ·rw [if_neg q] at h;exact ct h
theorem bl.drop{α₁ δ:List Addr}{μ₁ κ:List ah}(I:bl C T (α₁++δ) (μ₁++κ) s)(hl:α₁.length=μ₁.length):bl C T α₁ μ₁ s∧(∀a,a∈T++ai α₁ μ₁→a∈T++ai (α₁++δ) (μ₁++κ)):=by
 have hm:∀a,a∈T++ai α₁ μ₁→a∈T++ai (α₁++δ) (μ₁++κ):= λa ha=>by
  rw [qj hl];exact (AA.mp ha).elim (yo _) λh=>CE _ (yo _ h)
 exact ⟨⟨I.keep,hl,λi a c h1 h2=>(I.cells i a c ((EY (BJ.mp h1).1).trans h1) ((EY (BJ.mp h2).1).trans h2)).mono hm,(Qt.mp I.nodup).1,λa ha q=>I.apart a ha (yo _ q),I.tdom,I.tnew,λa ha=>I.new a (yo _ ha),I.gens,I.os⟩,hm⟩
noncomputable def ZU(fl:Fl)(μ μ':List ah):Option (AV×List ah):=Fl.rec (some (.d .none,μ'.take μ.length)) none (λV=>oe (v7 V) (some ()) (λx zz=>some (.d x,μ'.take μ.length)) (some (V,μ'))) fl
theorem Gq{W:AV}:ZU (.ret W) μ μ'=oe (v7 W) (some ()) (λx zz=>some (.d x,μ'.take μ.length)) (some (W,μ')):=rfl
noncomputable def Zz(scope:Scope)(f:SF):a_:= λVs μ=>bp (f (cC scope Vs) μ) λfl p=>ZU fl μ p.2
noncomputable def cy(k:Nat)(scope:Scope)(f:SF):a_:= λVs μ=>if Vs.length=k then Zz scope f Vs μ else none
theorem sC{x:PyData}(I:bl C T α μ s)(I':bl C T α' μ' s')(S:aU [] α μ s α' μ' s')(r:aJ s'.heap (T++ai α' μ') v x):bI C T α μ s (μ'.take μ.length) (.d x) v s':=by
 refine au S.pre λδ e hd=>?_;have hlen:μ.length≤μ'.length:=by rw [←I.len,←I'.len,e];simp
 have hμ:μ'=μ'.take μ.length++μ'.drop μ.length:=(LM _ _).symm;have hl:α.length=(μ'.take μ.length).length:=by rw [LF,RC hlen];exact I.len
 have I2:bl C T (α++δ) (μ'.take μ.length++μ'.drop μ.length) s':=by rw [←e,←hμ];exact I'
 refine fY (I2.drop hl) λI3 hm=>?_;rw [←e,←hμ] at hm
 exact (cJ α I3 (⟨aZ [] (DB _).symm (λzz h=>nomatch h),S.ext,λa ha=>(AA.mp (hm a (CE _ ha))).elim (λq=>absurd (e▸yo _ (db ha)) (I'.apart a q)) (S.mts a),S.dom,S.gens⟩) (r.mono hm))
section
variable {f:SF}
set_option tactic.hygienic true in
theorem mE{params:Arguments}(ps:List Str)(ho:C.B.get? fa=some o)(hdata:o.data=.func (O9 name params body scope pm cd doc))(hcd:C.B.CodeRec cd name)
  (hbind:∀args:List Value,args.length=ps.length→bindArgs (O9 name params body scope pm cd doc) ⟨args,[]⟩=pure (ps.zip args)) (hnd:(scope.names.map (·.1)).Nodup) (hps:((df scope).names.map (·.1)).take ps.length=ps)
  (hco:scope.isCoroutine=false) (hgen:scope.isGenerator=false) (hk:scope.kind=.function)
      (hd:A.depth<recursionLimit) (I:bl C T α μ s) (r:eZ s.heap α (T++ai α μ) vs Vs) (hVl:Vs.length=ps.length)
  (kont:∀L O h₁ tk,s.heap.get? L=none→L∈O→(∀a∈O,s.heap.get? a=none)→bl C T α μ {s with heap:=h₁,toks:=tk}→aU [] α μ s α μ {s with heap:=h₁,toks:=tk}→
   bh C (df scope) (envOfC name scope L fa cd) O (cC scope Vs) h₁ α (T++ai α μ)→(∀b o,s.heap.get? b=some o→h₁.get? b=some o)→
   wpAny (model C.prog C.w) (A.deeper (envOfC name scope L fa cd)) (execs body (envOfC name scope L fa cd)) (λf s'=>Q (match f with| .ret v=>v|_=>.none) s')
    (λe s'=>wpAny (model C.prog C.w) (A.deeper (envOfC name scope L fa cd)) (leaving (envOfC name scope L fa cd) e) (λzz s''=>E e s'') (λe' s''=>E e' s'') s') {s with heap:=h₁,toks:=tk}):
  wpAny (model C.prog C.w) A (call (.ref fa) vs) Q E s:=by
 have hvl:vs.length=ps.length:=(CQ r).trans hVl;have hpget:∀i x,ps[i]? =some x→∃k,(df scope).names[i]? =some (x,k):= λi x e=>by
  rw [←hps] at e
  refine bP (BJ.mp e) λhi zz=>?_;rw [LF] at hi
  rw [Qx (by lia),Gi,IA] at e
  refine au e λzp0 e q=>?_;obtain ⟨y,k⟩:=zp0;exact ⟨k,by rw [e];simp at q;rw [q]⟩
 have hplt:∀i x k,(df scope).names[i]? =some (x,k)→i<ps.length→ps[i]? =some x:= λi x k e hi=>by
  rw [←hps,Qx hi,Gi,e];rfl
 have hpnd:ps.Nodup:=by
  rw [←hps];refine SY (List.take_sublist _ _) ?_;unfold df;simp only [ER];exact jf _ hnd
 have kindL:∀x,(x,NameKind.local)∈scope.names→scope.names.lookup x=some .local:= λx hx=>lZ hnd hx;have kindC:∀x,(x,Oo)∈scope.names→scope.names.lookup x=some .cell:= λx hx=>lZ hnd hx;refine wpAny_call (call_cells (name:=name) (params:=params) (body:=body) (scope:=scope) (pm:=pm) (cd:=cd) (doc:=doc) hd (I.keep _ _ ho) hdata (C.nolim.keeps I.keep) (hcd.keeps I.keep) (hbind vs hvl) (λx hx=>?_) (λh₁ tk Fr₁ Cl₁=>?_) hco hgen hk)
 ·refine bP (iC (List.of_mem_zip hx).1) λi e=>?_
  refine bP (hpget i x.1 e) λk e'=>?_
  rcases mK e' with ⟨_,q⟩| ⟨_,q⟩
  ·exact .inl (kindL _ q)
  ·refine .inr ⟨kindC _ q,?_⟩
   refine bP (jQ (s.heap.objs.size+1) [] x.1 q) λc e=>?_;rw [e];rfl
 ·generalize hL:s.heap.objs.size=L at Fr₁ Cl₁⊢
  have above:∀ {a},L≤a→s.heap.get? a=none:= λ{a} ha=>bw (by rw [hL];exact ha);have hLf:s.heap.get? L=none:=above (DI _);generalize hcs:cellsFrom (L+1) scope.names []=cs at Cl₁
  have csome:∀x,(x,Oo)∈scope.names→∃c,cs.lookup x=some c:= λx hx=>hcs▸jQ (L+1) [] x hx;obtain ⟨cad,hcad⟩:∃cad:Nat→Addr,∀i x k,(df scope).names[i]? =some (x,k)→2≤k→cs.lookup x=some (cad i):=by
   refine ⟨λi=>(((df scope).names[i]?).bind λp=>cs.lookup p.1).getD 0,λi x k e h2=>?_⟩
   rcases mK e with ⟨rfl,_⟩| ⟨_,q⟩
   ·lia
   ·refine bP (csome x q) λc hc=>?_
    show _=some ((((df scope).names[i]?).bind λp=>cs.lookup p.1).getD 0)
    rw [e]
    show _=some ((cs.lookup x).getD 0)
    rw [hc];rfl
  have hcf:∀i x k,(df scope).names[i]? =some (x,k)→2≤k→s.heap.get? (cad i)=none:= λi x k e h2=>above (Nat.le_of_lt (Cl₁.above x (cad i) (mem_of_lookup (hcad i x k e h2))));have I₁:bl C T α μ {s with heap:=h₁,toks:=tk}:=I.keeps Fr₁.keep;have S₁:aU [] α μ s α μ {s with heap:=h₁,toks:=tk}:=aU.keeps Fr₁.keep;have hkL:∀x,(x,NameKind.local)∈scope.names→(envOfC name scope L fa cd).kindOf x=some .local:= λx hx=>kindL x hx;have hkC:∀x,(x,Oo)∈scope.names→(envOfC name scope L fa cd).kindOf x≠some .local:= λx hx q=>by
   have:scope.names.lookup x=some .local:=q
   rw [kindC x hx] at this;cases this
  obtain ⟨O,hO1,hO2⟩:∃O:List Addr,L∈O∧(∀i x,(df scope).names[i]? =some (x,2)→cad i∈O)∧∀a∈O,a=L∨∃ (i:Nat) (x:Str),(df scope).names[i]? =some (x,2)∧a=cad i:=by
   refine (cJ (L::(yw (df scope).names.length).filterMap λi=>((df scope).names[i]?).bind λp=>if p.2=2 then some (cad i) else none) (Fp ..) (λi x e=>D1 _ (Ov.mpr ⟨i,D3.mpr (BJ.mp e).1,by rw [e];rfl⟩)) (λa ha=>?_))
   rcases Ch.mp ha with q|q
   ·exact .inl q
   ·refine au (Ov.mp q) λi zz e=>?_
    refine au (KJ.mp e) λp e' e=>i6 e λq2 e=>?_;refine cA e ?_;exact .inr (fS i p.1 (by rw [e',←q2]) rfl)
  have hOf:∀a∈O,s.heap.get? a=none:= λa ha=>by
   rcases hO2.2 a ha with rfl| ⟨i,x,e,rfl⟩
   ·exact hLf
   ·exact hcf i x 2 e (DI _)
  have arg:∀i x k V,(df scope).names[i]? =some (x,k)→(cC scope Vs)[i]? =some (some V)→∃v,ps[i]? =some x∧vs[i]? =some v∧bm h₁ α (T++ai α μ) v V:= λi x k V e1 e2=>by
   have e3:=Ex e2;refine au (Er r e3) λv e4 rv=>?_;have hi:i<ps.length:=by rw [←hVl];exact (BJ.mp e3).1
   exact (cJ v (hplt i x k e1 hi) e4 (rv.step0 S₁))
  have F₁:bh C (df scope) (envOfC name scope L fa cd) O (cC scope Vs) h₁ α (T++ai α μ):=by
   refine ⟨rfl,rfl,rfl,?_,(aZ _ Fr₁.ns (λi x V e1 e2=>?_)),⟨cad,λi x k e hk=>by show (cellsFrom (L+1) scope.names []).lookup x=some (cad i);rw [hcs];exact hcad i x k e hk,λi x k e hk=>(aZ _ (Cl₁.cell x (cad i) (hcad i x k e hk)) (λV e2=>?_)),hO2.1,λi j x y k l e1 e2 hk hl q=>?_⟩,λa ha=>⟨?_,I.fresh (hOf a ha)⟩,hO1,λa ha q=>?_,λi j x e1 e2=>pY hnd e1 e2⟩
   ·have:ps.length≤(df scope).names.length:=by
     have:=congrArg NE hps
     rw [LF,xG] at this
     lia
    unfold cC;simp only [be,xG,Lb];lia
   ·refine cn (arg i x 1 V e1 e2) λv p1 p2 rv=>?_
    rcases mK e1 with ⟨_,q⟩| ⟨q,_⟩
    ·exact (aZ v (Eh hpnd p1 p2 (hkL x q)) rv)
    ·cases q
   ·refine cn (arg i x k V e e2) λv p1 p2 rv=>?_
    rcases mK e with ⟨q,_⟩| ⟨_,q⟩
    ·lia
    ·exact (aZ v (DO hpnd p1 p2 (hkC x q)) rv)
   ·have m1:=mem_of_lookup (hcad i x k e1 hk)
    have m2:=mem_of_lookup (hcad j y l e2 hl);have hxy:x=y:=name_of_addr Cl₁.apart m1 (q▸m2);subst hxy;exact pY hnd e1 e2
   ·rcases hO2.2 a ha with rfl| ⟨i,x,e,rfl⟩
    ·exact fO Fr₁.ns
    ·exact gV (Cl₁.cell x (cad i) (hcad i x 2 e (DI _)))
   ·have hM:=I.mdom a ha
    rcases q with (q| ⟨i,x,k,e,hk,q⟩)|q
    ·exact hM (q▸hLf)
    ·have q':cs.lookup x=some a:=by rw [←hcs];exact q
     rw [hcad i x k e hk] at q';cases q'
     exact hM (hcf i x k e hk)
    ·exact hM (hOf a q)
  exact kont L O h₁ tk hLf hO1 hOf I₁ S₁ F₁ Fr₁.keep
theorem ZB{params:Arguments}(ps:List Str)(ho:C.B.get? fa=some o)(hdata:o.data=.func (O9 name params body scope pm cd doc))(hcd:C.B.CodeRec cd name)
  (hbind:∀args:List Value,args.length=ps.length→bindArgs (O9 name params body scope pm cd doc) ⟨args,[]⟩=pure (ps.zip args)) (hnd:(scope.names.map (·.1)).Nodup) (hps:((df scope).names.map (·.1)).take ps.length=ps)
  (hco:scope.isCoroutine=false) (hgen:scope.isGenerator=false) (hk:scope.kind=.function) (hb:cB C n (df scope) body f):
  eI C (n+1) (.ref fa) (cy ps.length scope f):=by
 intro A T α μ s E vs Vs V μ' R I r h;refine i6 h λhVl h=>aD h λfl p e h=>?_;refine mE ps ho hdata hcd hbind hnd hps hco hgen hk (by have:=R.depth;unfold recursionLimit;omega) I r hVl λL O h₁ tk hL hLO hOf I₁ S₁ F₁ hk1=>?_;have R':cP (A.deeper (envOfC name scope L fa cd)) n:=⟨by have:=R.depth;show A.depth+1+4*n<600;omega,by have:=R.units;show A.units+3+200*n+400<cLine;omega,R.handled⟩;refine hb.go R' I₁ F₁ e λα' fw s' I' S' F' r'=>?_;have fin:aU [] α μ s α' p.2 s':=((S₁.up (O:=O)).trans S').weak λa ha=>.inr (hOf a ha);cases fl with
 |next=>subst r';exact cg h (sC I I' fin (aJ.none _ _))
 |brk=>exact ct h
 |ret W=>
  refine au r' λv z rv=>?_;subst z;exact bU (Gq.symm.trans h) (λx zz ex zz h=>cg h (sC I I' fin (by rw [iP ex] at rv;exact rv))) λh=>cg h (cJ α' I' fin rv)
end
noncomputable def Iy:a_:= λVs μ=>bp (l2 Vs) λV W=>oe (jJ V) (jJ W) (λa b=>some (.d (.int (if b<a then b else a)),μ)) none
theorem Fo{W:AV}(r:eZ h α M vs Vs)(e:l2 Vs=some (V,W))(k:∀v w,vs=[v,w]→bm h α M v V→bm h α M w W→G):G:=by
 rw [yy e] at r
 exact bq (VY r) k
theorem Js:eI C n (.builtin "min") Iy:=by
 intro A T α μ s E vs Vs V μ' R I r h;refine aD h λV1 W1 el h=>bU h (λa b ea eb h=>cg h (Fo r el λv w z r1 r2=>?_)) λh=>ct h;subst z;refine bP (fK ea r1) λt z1=>bP (fK eb r2) λu z2=>?_;subst z1;subst z2;refine min_two_ints R.handled λh' tk hk=>?_
 by_cases hc:b<a
 ·rw [if_pos hc,if_pos hc];exact bI.of_keeps I hk (aJ.int ..)
 ·rw [if_neg hc,if_neg hc];exact bI.of_keeps I hk (aJ.int ..)
noncomputable def v8:a_:= λVs μ=>bo (l1 Vs) λV=>bo (da μ V) λxs=>bo (qT xs) λns=>some (.d (.int ns.sum),μ)
theorem xR(h:IntsAre vs ns):∃xs:Array (Int×Tok),vs.toArray=intItems xs∧ns.sum=preSum (numAt xs) xs.size:=by
 refine bP (AllInts.items (h.allInts)) λxs e=>?_;refine (aZ xs e ?_);have h2:=h.numsOf
 have:numsOf (intItems xs).toList=ns:=by rw [←e];simpa using h2
 rw [nums_intItems] at this
 rw [preSum_eq,F7 (by simp),this]
theorem yi:eI C n (.builtin "sum") v8:=by
 intro A T α μ s E vs Vs V μ' R I r h;refine ax h λV1 el h=>ax h λxs e1 h=>ax h λns e2 h=>cg h (gF r el λv z r1=>?_);subst z;refine bq (r1.isList I e1) λa items zq2 hl rr=>?_;subst zq2;refine au (xR (uM rr e2)) λys e3 e4=>?_;refine sum_intListG R.handled (e3▸hl.isList:s.heap.IsList a (intItems ys)) λh' tk t' hk=>?_;rw [←e4];exact bI.of_keeps I hk (aJ.int ..)
theorem bI.list{vs:Array Value}{c:Nat}(I:bl C T α μ s)(hk:∀b o,s.heap.get? b=some o→h'.get? b=some o)
  (hn:h'.get? s.heap.objs.size=some {cls:=.type "list",dict:=none,data:=.seq vs c,slots:= #[]}) (r:aw h' (T++ai α μ) vs.toList xs):bI C T α μ s μ (.d (.list xs)) (.ref s.heap.objs.size) {s with heap:=h',toks:=tk}:=
 bI.of_keeps I hk (aJ.list ⟨c,hn⟩ r (eF I (bw (DI _))))
theorem vh{a:Int}:∀ {n:Nat} {acc:Array Value},ItemsOf (λi v=>∃t,v=.int (a+(i:Int)*1) t) acc n→aw h M acc.toList (fJ a n):=by
 intro n acc H;have hl:acc.toList.length=n:=by simpa using H.1
 have hg:∀ (i:Nat) (v:Value),acc.toList[i]? =some v→∃t,v=Value.int (a+(i:Int)) t:= λi v e=>by
  refine bP (H.2 i v (by rw [←KY];exact e)) λt e'=>?_;exact ⟨t,by rw [e',show a+(i:Int)*1=a+(i:Int) by lia]⟩
 clear H
 revert hl hg
 generalize acc.toList=l;intro hl hg
 induction l generalizing a n with
 |nil=>simp at hl;refine bH hl ?_;exact aw.nil _ _
 |cons v l ih=>
  cases n with
  |zero=>simp at hl
  |succ n=>
   refine bP (hg 0 v (by simp)) λt zq1=>?_;refine bH (ES zq1) ?_;refine .ccons ?_ (ih (by simpa using hl) λi v e=>?_)
   ·rw [show a+((0:Nat):Int)=a by lia];exact aJ.int ..
   ·refine bP (hg (i+1) v (by simpa using e)) λt e'=>?_
    exact ⟨t,by rw [e'];congr 1;push_cast;lia⟩
noncomputable def mo:a_:= λVs μ=>bo (l1 Vs) λV=>oe (WD V) (some ()) (λp zz=>if K4 p.1 p.2 1=true∧(p.2-p.1).toNat≤2^24 then some (.d (.list (fJ p.1 (p.2-p.1).toNat)),μ) else none) (bo (da μ V) λxs=>if xs.length≤sizeLine then some (.d (.list xs),μ) else none)
theorem yG(a b:Int):Mg a b 1=(b-a).toNat:=by
 unfold Mg;simp only [show (1:Int)>0 by decide,if_true]
 split<;>lia
theorem tK:eI C n (.type "list") mo:=by
 intro A T α μ s E vs Vs V μ' R I r h;refine ax h λV1 el h=>gF r el λv z r1=>?_;subst z;refine bU h (λp zz e1 zz h=>i6 h λhc h=>cg h ?_) λh=>ax h λxs e1 h=>i6 h λhz h=>cg h ?_
 ·rw [PY e1] at r1
  refine pE r1 λra t u w zq4 hr hM=>?_;subst zq4;exact call_list_range R.handled hr hc.1 (n:=(p.2-p.1).toNat) (yG _ _) hc.2 λh' tk acc' c' hk hn hit=>bI.list I hk hn (vh hit)
 ·refine bq (r1.isList I e1) λa items zq2 zp3 rr=>bP zp3 λk hl=>?_
  subst zq2;refine call_list_seq a (.inl rfl) hl rfl rfl (λh' c' hk hn=>?_) (by have:=rr.length;simp at this;lia);exact bI.list (tk:=s.toks) I hk hn (rr.keeps hk)
section
noncomputable abbrev AJ:AV→AV→List ah→Option (AV×List ah):=aS λx y=>some (x+y)
noncomputable abbrev Az:AV→AV→List ah→Option (AV×List ah):=aS λx y=>some (x-y)
noncomputable abbrev BI:AV→AV→List ah→Option (AV×List ah):=aS λx y=>some (IC x y)
noncomputable abbrev VP:AV→AV→List ah→Option (AV×List ah):=aS λx y=>some (Mj x y)
noncomputable abbrev pC:AV→AV→List ah→Option (AV×List ah):=aS λa b=>if 0≤b∧(HN a:Int)+b≤2^27 then some (a*2^b.toNat) else none
theorem pV{o:Int→Int→Option Int}(h:∀ (A:Around) (s:Shared) (E:Value→Shared→Prop) (x y z:Int) (t u:Tok) (Q:Value→Shared→Prop),o x y=some z→Q (.int z s.toks) {s with toks:=s.toks+1}→wpAny (model C.prog C.w) A (inplaceOp op (.int x t) (.int y u)) Q E s):qQ C n op (aS o):=by
 intro A T α μ s E a b Va Vb V μ' R I ra rb q;refine ax q λx ea q=>ax q λy eb q=>ax q λz e q=>cg q (bP (fK ea ra) λt z1=>bP (fK eb rb) λu z2=>?_);subst z1;subst z2;exact h A s E x y z t u _ e (bI.tok I (aJ.int ..))
theorem NR:qQ C n .Add AJ:=pV λA s E x y z t u Q e=>cA e λq=>wpAny_iadd_int q
theorem NQ:qQ C n .Sub Az:=pV λA s E x y z t u Q e=>cA e λq=>isub_int q
theorem LN:qQ C n .BitXor BI:=pV λA s E x y z t u Q e=>cA e λq=>ixor_int q
theorem VN:qQ C n .BitOr VP:=pV λA s E x y z t u Q e=>cA e λq=>ior_int q
theorem Cs:qQ C n .LShift pC:=pV λA s E x y z t u Q e=>i6 e λhc e=>cA e λq=>ilshift_int hc.1 hc.2 q
end
def dv(f:EF)(fs:List EF)(spec:a_):EF:= λρ μ=>bp (f ρ μ) λV μ1=>bo (mz V) λx=>bp (eX fs ρ μ1) λVs μ2=>spec (.d (.str x)::Vs) μ2
section
theorem fQ{o:Expr}{id:String}(hm:oh o name apos (e::es) pos)(slot:Slot "str" name id)(hty:typeOf (.builtin id)=pure (.type "method_descriptor"))(hok:eI C n (.builtin id) spec)
  (hf:ab C n cx o f) (ha:dc C n cx (e::es) fs) (hs:∀env,starEach (e::es) env=(false,eval e env)::starEach es env) (hp:∀env,(backTo pos (starEach (e::es) env)).any (·.1)=false):
  ab C n cx (.Call (.Attribute o name apos) (e::es) [] pos) (dv f fs spec):=by
 refine .of ?_;intro A env O T ρ α μ s E V μ' R I F h;refine aD h λW μ1 e1 h=>ax h λx ex h=>aD h λVs μ2 e2 h=>?_;refine QM (hf.goF R I F e1 λv s1 α1 I1 S1 F1 r1=>bP (iX ex r1) λt z=>?_) (hm env);subst z;refine Qz rfl Rn slot hty (λa e=>nomatch e) ?_;refine bf id _ _ _ _ _ _ _ _ (hp env) (ee (hs env) ha R I1 F1 e2 λvs s2 α2 I2 S2 r2=>?_);exact D2 (hok A T α2 μ2 s2 E (.str x t::vs) (.d (.str x)::Vs) V μ' R I2 ⟨aJ.str ..,r2⟩ h) (λv s3 p=>bI.trans (S1.trans S2) p) λzz zz x=>x
def jF(tbl:Str→Option Int)(g:EF):EF:= λρ μ=>bp (g ρ μ) λV μ1=>bo (mz V) λx=>bo (tbl x) λi=>some (.d (.int i),μ1)
theorem kq{K:Type} [DecidableEq K] {knd:KeyKind prog w K}{f:K→Option Value}(hm:h.MapOf knd a f)(hk:∀b o,h.get? b=some o→h'.get? b=some o):h'.MapOf knd a f:=
 let ⟨o,es,ep,ho,r⟩:=hm;⟨o,es,ep,hk _ _ ho,r⟩
theorem MX{d:Addr}{m:Str→Option Value}{tbl:Str→Option Int}(hg:C.mg x=some (.ref d))(hm:C.B.MapOf (strKind C.prog C.w) d m)(ht:∀y i,tbl y=some i→∃t,m y=some (.int i t))(hf:ab C n cx e g)
  (hs:∀o i,subscripted e false o i=operate [o,i] (getItem o i))
  (hl:cx.scope.names.lookup x=some .globalImplicit) (hk:cx.scope.kind=.function) (hdb:(x==("__debug__":Str))=false):ab C n cx (.Subscript (.Name x xp) e pos) (jF tbl g):=by
 refine .of ?_;intro A env O T ρ α μ s E V μ' R I F h;refine aD h λW μ1 e1 h=>ax h λy ey h=>ax h λi e2 h=>cg h (Tb ?_);refine E_ (by rw [F.sc];exact hk) (by unfold J3;rw [F.sc];exact hl) (L5 (by rw [F.gl];exact C.g.keeps I.keep) hg ?_) hdb;refine hf.go R I F e1 λv s1 α1 I1 S1 r1=>bP (iX ey r1) λt z=>bP (ht y i e2) λu hu=>?_;subst z;have hm':=kq hm I1.keep;exact RW (T:="dict") hm'.typeIs slot_dict_getitem.lookup (wpAny_getItem_of (k:=y) (strKind_is ..) hm' hu (bI.trans S1 (bI.tok I1 (aJ.int ..)))) (hs _ _)
def sU(tbl:Int→Option Str)(f g:EF):EF:= λρ μ=>bp (f ρ μ) λV μ1=>bo (jJ V) λk=>bp (g ρ μ1) λW μ2=>bo (mz W) λx=>some (.d (.str ((tbl k).getD x)),μ2)
theorem MG{d:Addr}{m:Int→Option Value}{tbl:Int→Option Str}(hmeth:oh (.Name x xp) "get" apos [e1,e2] pos)(hg:C.mg x=some (.ref d))(hm:C.B.MapOf (intKind C.prog C.w) d m)
  (ht:∀k,(∃y t,tbl k=some y∧m k=some (.str y t))∨(tbl k=none∧m k=none)) (hd:(d==sysModules)=false) (hf:ab C n cx e1 f) (hg2:ab C n cx e2 g)
  (hs:∀env,backTo pos (starEach [e1,e2] env)=[(false,eval e1 env),(false,eval e2 env)])
  (hl:cx.scope.names.lookup x=some .globalImplicit) (hk:cx.scope.kind=.function) (hdb:(x==("__debug__":Str))=false):ab C n cx (.Call (.Attribute (.Name x xp) "get" apos) [e1,e2] [] pos) (sU tbl f g):=by
 refine .of ?_;intro A env O T ρ α μ s E V μ' R I F h;refine aD h λV1 μ1 q1 h=>ax h λk ek h=>aD h λV2 μ2 q2 h=>ax h λy ey h=>cg h (QM ?_ (hmeth env));refine E_ (by rw [F.sc];exact hk) (by unfold J3;rw [F.sc];exact hl) (L5 (by rw [F.gl];exact C.g.keeps I.keep) hg ?_) hdb;have hm0:=kq hm I.keep;refine Qz hm0.typeIs PySem.F.plainAttrs_dict PySem.F.slot_dict_get PySem.F.type_dict_get hm0.noDict ?_;rw [hs env];refine wpAny_dict_get2 (knd:=intKind C.prog C.w) hd (hf.goF R I F q1 λv s1 α1 I1 S1 F1 r1=>bP (fK ek r1) λt z=>hg2.go R I1 F1 q2 λw s2 α2 I2 S2 r2=>bP (iX ey r2) λu z2=>?_);subst z;subst z2;refine (dw k m (intKind_is ..) (kq hm I2.keep) (bI.trans (S1.trans S2) (bI.tok I2 ?_)));exact (ht k).elim (λz=>kv z λz t' h1 h2=>by rw [h1,h2];exact aJ.str ..) λz=>by rw [z.1,z.2];exact aJ.str ..
theorem Yh{T:String}(hg:C.mg x=none)(hb:bootBuiltins x=some (.type T))(hx:x≠"__name__")(hl:cx.scope.names.lookup x=some .globalImplicit)(hk:cx.scope.kind=.function)(hd:(x==("__debug__":Str))=false):
  ab C n cx (.Name x pos) (λzz μ=>some (.ty T,μ)):=by
 refine .of ?_;intro A env O T' ρ α μ s E V μ' R I F h;refine cg h ?_;exact E_ (by rw [F.sc];exact hk) (by unfold J3;rw [F.sc];exact hl) (Ld (by rw [F.gl];exact C.g.keeps I.keep) hg (by rw [F.bn];exact C.b.keeps I.keep) ((C.bt x hx).trans hb) (bI.same I rfl)) hd
def nQ(f g:EF)(sep:Str):TF:= λρ μ=>bp (f ρ μ) λV μ1=>bo (mz V) λw=>bp (g ρ μ1) λW μ2=>bo (mz W) λx=>
 if x.length≤sizeLine∧(Oc x (Ll x sep 0 x.length (x.length+1)) sep.length).length≤sizeLine∧KX ((PC x sep).map .str)=true∧TB w=true then some (((PC x sep).map Lg).any λy=>Mq y (.str w),μ2) else none
theorem qv:∀ (l:List (Str×Tok)),∃as,ReadsAll h (strValues l) (l.map λp=>.str p.1) as
 | []=>⟨_,.nil⟩
 | (x,t)::r=>let ⟨_,q⟩:=qv r;⟨_,.cons (.str x t) q⟩
theorem GQ{o:Expr}{sep:Str}{cpos spos:Pos}(hmeth:oh o "split" apos [.Constant (.str sep) k cpos] pos)(hf:ab C n cx e1 f)(hg:ab C n cx o g)(hsep:(sep.length==0)=false):
  gO C n cx (.Compare e1 [.In] [.Call (.Attribute o "split" apos) [.Constant (.str sep) k cpos] [] pos] spos) (nQ f g sep):=by
 refine .of ?_;intro A env O T ρ α μ s E b μ' R I F h;refine aD h λV1 μ1 q1 h=>ax h λw ew h=>aD h λV2 μ2 q2 h=>ax h λx ex h=>i6 h λhz h=>cg h ?_;refine Rv (hf.goF R I F q1 λv s1 α1 I1 S1 F1 r1=>?_) (by with_unfolding_all rfl);refine QM (hg.goF R I1 F1 q2 λv2 s2 α2 I2 S2 F2 r2=>bP (iX ex r2) λt z=>bP (iX ew (r1.step0 S2)) λt1 z1=>?_) (hmeth env);subst z;subst z1;refine Qz rfl Rn PySem.F.slot_str_split PySem.F.type_str_split (λa e=>nomatch e) ?_;have es1:dc C n cx [.Constant (.str sep) k cpos] [λzz μ=>some (.d (.str sep),μ)]:=dA (by intro env;rfl) Gr ae;refine bf "str.split" _ _ _ _ _ _ _ _ rfl (ee (by rfl) es1 R I2 F2 (show eX [λzz μ=>some (.d (.str sep),μ)] ρ μ2=some ([.d (.str sep)],μ2) from rfl) λvs s3 α3 I3 S3 r3=>?_);refine au (FZ r3) λv3 z r4=>bP (aJ.of_str r4) λu z1=>?_;subst z;subst z1;refine SCH.split1 (P:= λh'=>∀b o,s3.heap.get? b=some o→h'.get? b=some o) (λh ob hp b o e=>BO _ (hp b o e)) (λzz zz e=>e) hsep (λD l h' kk hl hk hD=>?_) hz.1 hz.2.1;refine ye hD λod hod hcd nd hdd=>bP (qv (h:=h') l) λas ra=>?_;have hxs:(l.map λp=>Lg p.1)=(PC x sep).map Lg:=by rw [←hl,ER];rfl
 have rc:Reads h' (.ref D) (.list ((PC x sep).map Lg)) _:=.list hod hcd hdd (by rw [←hxs];simpa using ra);refine P_ (s:= {s3 with heap:=h',toks:=kk}) rc (.str w t1) hz.2.2.1 (by simpa [Q3] using hz.2.2.2) (by have:=R.units;have h9:(Lg w).depth≤1:=(by simp [TH]);lia) ?_;exact OO (gR rfl α3 (I3.keeps hk) (S1.trans (S2.trans (S3.trans (aU.keeps hk)))))
end
noncomputable def Qg:a_:= λVs μ=>bo (l1 Vs) λV=>bo (Zh V) λxs=>some (.c μ.length,μ++[.iter xs])
section
theorem Kv(I:bl C T α μ s)(r:aJ s.heap (T++ai α μ) (.ref a) (.list xs)):
  bI C T α μ s (μ++[.iter xs]) (.c μ.length) (.ref s.heap.objs.size) {s with heap:=s.heap.push {cls:=.type "list_iterator",data:=.fields #[.ref a,.int 0 0]}}:=by
 refine kA r.of_list λzz items e1 hp rr haM=>?_;cases e1;have hw:∀b∈[s.heap.objs.size],s.heap.get? b=none:=DV;exact HE (tk:=s.toks) I (bb _ _) (bw (DI _)) ⟨_,Dm _ rfl⟩ rfl (.inl (h_ a 0 items (cJ _ (Dm _ rfl) rfl rfl) (eO hp (W:=[]) (fZ.of_keeps (bb _ _)) (λq=>nomatch q)) (λq=>(lu hw a q).elim haM (fM (fH hp))) (Lw _) (rr.grow (s':= {s with heap:=s.heap.push {cls:=.type "list_iterator",data:=.fields #[.ref a,.int 0 0]}}) (bb _ _) hw)))
theorem NT:eI C n (.builtin "iter") Qg:=by
 intro A T α μ s E vs Vs V μ' R I r h;refine ax h λW el h=>ax h λxs ex h=>cg h (gF r el λv z r1=>?_);subst z;have r2:=O4 ex r1;refine bq r2.of_list λa items zq2 hp zz=>?_;subst zq2;refine PE (by decide+kernel) (by decide+kernel) kdk_entry_iter (kdk_args_iter _) ?_;unfold Builtin.«iter»;refine yt (m:=someArgs "iter" 1 2 _) (Mb (a:=[Lu a]) (by first|rfl|kernel_rfl!) ?_);refine (?_:wpAny _ _ (pyIter (.ref a)>>=_) _ _ _);exact yt (M6 hp.isList (Et (aZ _ rfl (Kv I r2))))
noncomputable def QD:ah→Option (List PyData)
 | .iter xs=>some xs
 |_=>none
theorem ZA(h:QD c=some xs):c=.iter xs:=by
 cases c with
 |iter _=>exact congrArg _ (Fd h)
 |_=>exact ct h
noncomputable def uncons{X:Type}(l:List X):Option (X×List X):=List.rec none (λx r zz=>some (x,r)) l
theorem H8{X:Type}{l r:List X}{x:X}(h:uncons l=some (x,r)):l=x::r:=by
 cases l with
 |nil=>exact ct h
 |cons y t=>cases h;rfl
noncomputable def j_:a_:= λVs μ=>bo (l1 Vs) λV=>bo (Ff V) λi=>bo (μ[i]?.bind QD) λxs=>bp (uncons xs) λx r=>some (.d x,μ.set i (.iter r))
theorem uI{o:Option ah}(h:o.bind QD=some xs):o=some (.iter xs):=by
 cases o with
 |none=>exact ct h
 |some c=>exact congrArg some (ZA h)
theorem lU{it l:Addr}{x:Value}{Q:Option Value→Shared→Prop}(hit:s.heap.IsListIter it l i)(hl:s.heap.IsList l items)(hx:items[i]? =some x)
  (hQ:∀h',h'.IsListIter it l (i+1)→La it s.heap h'→Q (some x) {s with heap:=h'}):wpAny (model C.prog C.w) A (callSpecial? (.ref it) (JI "__next__")) Q E s:=by
 refine cn (id hit) λo ho hc hd=>?_;refine ye hl λol hol zz nl hdl=>?_;refine IX (name:=JI "__next__") hit.typeIs K_
  (L3 K_ hit.typeIs PG ?_ (PS _))
 refine (?_:wpAny _ _ (field (.ref it) 0>>=_) _ _ s);refine yt (KP ho hd (x:=.ref l) rfl ?_);refine (?_:wpAny _ _ (if (Lu l==L7)=true then _ else _) _ _ s);rw [if_neg (show ¬ ((Lu l==L7)=true) from HA)];refine (?_:wpAny _ _ (field (.ref it) 1>>=_) _ _ s);refine yt (KP ho hd (x:=.int i 0) rfl ?_);refine (?_:wpAny _ _ (seqItems? (.ref l)>>=_) _ _ s);refine yt (N2 hol hdl ?_);simp only [Fa,hx];refine yt (P3 ho hd (by simp) (Et (aZ x rfl (hQ _ ?_ (KW ..)))));exact (cJ _ (Fk _ ho (LO (L0 hd _))) ((Tk ..).trans hc) (by
  rw [L0 hd];simp [rawInt]))
theorem Bm:eI C n (.builtin "next") j_:=by
 intro A T α μ s E vs Vs V μ' R I r h;refine ax h λW el h=>ax h λi ei h=>ax h λxs e h=>aD h λx rst eu h=>cg h (gF r el λv z r1=>?_);subst z;refine au (Gh ei r1) λa ha z=>?_;subst z;have e:=uI e;rw [H8 eu] at e
 refine (I.cells i a _ ha e).elim (λz=>i4 z λl k items hit hp hl hk rr=>?_) λz=>nomatch z.1;refine PE (by decide+kernel) (by decide+kernel) kdk_entry_next (kdk_args_next _) ?_;unfold Builtin.«next»
 refine yt (m:=someArgs "next" 1 2 _) (Mb (a:=[Lu a]) (by first|rfl|kernel_rfl!) ?_);dsimp only;refine yt (Lr (name:=JI "__next__") hit.typeIs K_.lookup ?_);refine wpAny_ite_split (λhab=>absurd hab (by decide)) (λzz=>?_);refine iu rr λv us hd rv rs=>?_;have hk':k<items.toList.length:=Nat.lt_of_not_le λq=>by rw [Ms q] at hd;exact nomatch hd
 have hd2:=(Nb hk').symm.trans hd;have e2:items[k]? =some v:=by rw [←KY,Fe hk'];exact congrArg some (UM hd2).1
 refine yt (lU (C:=C) hit hp.isList e2 λh' hit' hs=>Et (aZ _ rfl ?_));have hla:l≠a:= λq=>hl (q▸CE _ (pI ha e rfl));refine fY (I.setCell (c:=.iter rst) (h':=h') (tk:=s.toks) ha e rfl rfl (λb o q e=>(hs.2 b q).trans e) (au hit' λo z zz=>⟨o,z⟩) λkd=>.inl (h_ l (k+1) items hit' (bP hp λm z=>⟨m,(hs.2 l hla).trans z⟩) hl (Nat.succ_le_of_lt (by simpa using hk')) (kd ((UM hd2).2▸rs)))) λI' S'=>?_;exact cJ α I' S' (aJ.step0 (T:=T) rv S')
end
section
theorem Ep{it t:Addr}(hne:t≠it)(n i:Nat)(s:Shared)(Q:List Value→Shared→Prop)(hit:s.heap.IsListIter it t i)(ht:s.heap.IsList t items)(hle:i+n≤items.size)
  (hQ:∀h',h'.IsListIter it t (i+n)→La it s.heap h'→Q ((items.toList.drop i).take n) {s with heap:=h'}):wpAny (model prog w) A (draw (.ref it) n) Q E s:=by
 induction n generalizing i s Q with
 |zero=>
  refine (?_:wpAny _ _ (pure []) Q E s);exact Et (by simpa using hQ s.heap hit (La.refl ..))
 |succ n ih=>
  have hlt:i<items.size:=Ol (Nat.lt_add_of_pos_right (Nat.succ_pos n)) hle;refine (?_:wpAny _ _ (pyNext (.ref it)>>=_) Q E s);refine yt (Rl hit ht (x:=items[i]) (Nc hlt) λh₁ hit₁ hs₁=>?_);have e:i+(n+1)=i+1+n:=by lia
  refine yt (KZ (ih (i+1) _ _ hit₁ (ht.extBut hs₁.extBut hne) (e▸hle) λh₂ hit₂ hs₂=>Et ?_));have z:=hQ h₂ (e▸hit₂) (hs₁.trans hs₂);rw [show items.toList.drop i=items[i]::items.toList.drop (i+1) by simp [Nb,hlt],List.take_succ_cons] at z
  exact z
theorem nX{t:Addr}{Q:List Value→Shared→Prop}(hh:A.handled=none)(ht:s.heap.IsList t items)
  (hQ:∀h',P0 s.heap.objs.size s.heap h'→Q items.toList {s with heap:=h'}):wpAny (model prog w) A (unpackItems (.ref t) items.size none) Q E s:=by
 have hlt:t≠s.heap.objs.size:=by refine au ht λo ho zz=>?_;exact LJ (Ma ho)
 unfold unpackItems;refine yt ?_
 ·unfold notIterableAtAll
  refine yt (Lr ht.typeIs slot_list_iter.lookup ?_);refine Et ?_;simp only [Ox,if_false];refine yt (KZ (M6 ht ?_));refine yt (KZ (Ep hlt items.size 0 _ _ (cJ _ (Dm _ rfl) rfl rfl) (ht.push _) (by lia) λh₁ hit₁ hs₁=>?_));have hall:List.take items.size (T1 0 items.toList)=items.toList:=by
   rw [Sn];exact F7 (by simp)
  rw [hall];rw [if_neg (by simp)];have ht₁:h₁.IsList t items:=(ht.push _).extBut hs₁.extBut hlt;refine yt (KZ (Pp hh hit₁ ht₁ (by simp) λh₂ he₂=>?_));simp only [Option.isSome_none,Ox,if_false];refine Et (hQ h₂ λb o hb e=>he₂ b o hb (hs₁.extBut b o hb (BO _ e)))
theorem lQ{elts:List Expr}{x1}{t:Addr}{Q:Unit→Shared→Prop}(hh:A.handled=none)(ht:s.heap.IsList t items)
  (hn:(assignEach elts env).length=items.size) (hstar:(assignEach elts env).findIdx? (·.1)=none)
  (h:∀h',P0 s.heap.objs.size s.heap h'→wpAny (model prog w) A (assignInOrder ((assignEach elts env).map (·.2)) items.toList) Q E {s with heap:=h'}):
  wpAny (model prog w) A (assign (.Tuple elts x1 pos) env (.ref t)) Q E s:=by
 rw [PyProof.Rows.assign_Tuple];refine yt (L9 ?_);unfold unpack;rw [hn,hstar];exact yt (KZ (nX hh ht h))
end
def VM(i j:Nat)(f:EF):SF:= λρ μ=>bp (f ρ μ) λV μ1=>bo (Zh V) λds=>bp (l2 ds) λa b=>some (.next,(ρ.set i (some (.d a))).set j (some (.d b)),μ1)
def wy(i j:Nat)(f:EF):SF:= λρ μ=>bp (f ρ μ) λV μ1=>bo (Iw V) λds=>bp (l2 ds) λa b=>some (.next,(ρ.set j (some (.d b))).set i (some (.d a)),μ1)
section
theorem nR{a b:PyData}(r:aw h M items.toList [a,b])(k:∀v1 v2,items= #[v1,v2]→aJ h M v1 a→aJ h M v2 b→G):G:=
 iu r λv1 us e r1 r=>iu r λv2 us2 e2 r2 r=>k v1 v2 (by rw [←Array.toArray_toList (xs:=items),e,e2,kY r]) r1 r2
theorem U9{y:Str}(hf:ab C n cx e f)(hx:aA C cx x i)(hy:aA C cx y j)
  (hs:∀env,swapsWithSole [.Tuple [.Name x px,.Name y py] kk tp] e pos.line env=pure false) (hw:∀env,swappedStores [.Tuple [.Name x px,.Name y py] kk tp] e env=pure none):
  aQ C n cx (.Assign [.Tuple [.Name x px,.Name y py] kk tp] e pos) (VM i j f):=by
 refine .of ?_;intro A env O T ρ α μ s E fl ρ' μ' R I F h;refine aD h λV μ1 e1 h=>ax h λds ed h=>aD h λa b el h=>ga h (Assign_Tuple (hf.goF R I F e1 λv s1 α1 I1 S1 F1 r1=>?_) (hs env) (hw env));refine kA (O4 ed r1).of_list λl items zq2 hp rr zz=>?_;subst zq2;rw [yy el] at rr
 refine nR rr λv1 v2 z r1 r2=>?_;subst z;refine lQ R.handled hp.isList rfl rfl λh' he=>?_;have hk:=gZ he;exact D2 (fm hx (I1.keeps (tk:=s1.toks) hk) (F1.keeps I1 hk) (aU.keeps (tk:=s1.toks) hk).up (rr.keeps hk) λzz zz I F S r=>fm hy I F S r λzz zz I F S r=>kH I F S r) (λzz zz st=>jN S1.up st) λzz zz x=>x
theorem AD{y:Str}(hf:ab C n cx e f)(hx:aA C cx x i)(hy:aA C cx y j)
  (hs:∀env,swapsWithSole [.Tuple [.Name x px,.Name y py] kk tp] e pos.line env=pure false) (hw:∀env,env.scope=cx.scope→swappedStores [.Tuple [.Name x px,.Name y py] kk tp] e env=pure (some [x,y])):
  aQ C n cx (.Assign [.Tuple [.Name x px,.Name y py] kk tp] e pos) (wy i j f):=by
 refine .of ?_;intro A env O T ρ α μ s E fl ρ' μ' R I F h;refine aD h λV μ1 e1 h=>ax h λds ed h=>aD h λa b el h=>ga h (Assign_Tuple_swapped (hf.goF R I F e1 λv s1 α1 I1 S1 F1 r1=>?_) (hs env) (hw env F.sc));refine bq (GB ed r1) λl items zq2 hp rr=>?_;subst zq2;rw [yy el] at rr
 refine nR rr λv1 v2 z r1 r2=>?_;subst z;refine (?_:wpAny _ A (unpackItems (.ref l) (#[v1,v2]:Array Value).size none) _ _ _);refine PyProof.Rows.unpackItems_tuple R.handled hp λh' he=>?_;have hk:=gZ he
 show wpAny _ A (assignInOrder [λv=>bindName env y v,λv=>bindName env x v] [v2,v1]) _ _ _
 exact D2 (kn (λzz zz h=>wpAny_bindName h) hy (I1.keeps (tk:=s1.toks) hk) (F1.keeps I1 hk) (aU.keeps (tk:=s1.toks) hk).up (.cons (r2.keeps hk) (.cons (r1.keeps hk) (aw.nil _ _))) λzz zz I F S r=>kn (λzz zz h=>wpAny_bindName h) hx I F S r λzz zz I F S r=>kH I F S r) (λzz zz st=>jN S1.up st) λzz zz x=>x
theorem rV{l:Addr}{k:Int}{t:Tok}{Q:Unit→Shared→Prop}(hp:s.heap.PlainList l items)
  (h0:0≤k) (hfit:k<2^63) (hn:k<items.size)
  (hQ:∀h',h'.PlainList l (items.setIfInBounds k.toNat v)→La l s.heap h'→Q () {s with heap:=h'}):
  wpAny (model prog w) A (setItem (.ref l) (.int k t) v) Q E s:=by
 have hl:=hp.isList;refine bP hp λne ho=>?_;unfold setItem
 try with_reducible refine KZ ?_
 first|refine yt (Et ?_)|skip
 refine yt (wpAny_sequenceKey hl.typeIs (by decide) ?_);refine yt (IX (name:=JI "__setitem__") hl.typeIs slot_list_setitem
  (L3 slot_list_setitem hl.typeIs entry_list_setitem ?_ (args_list_setitem _ _ _)))
 refine (?_:wpAny _ _ (Builtin.List.listSubscript? (.int k t)>>=_) _ _ s);refine yt (wpAny_listSubscript_int (fitsIndex_of h0 hfit) ?_);clear hfit;refine bP (L1 h0) λj zq1=>?_;subst zq1;have hj:j<items.size:=by lia
 have hx':items[j]? =some items[j]:=Nc hj
 show wpAny _ _ ((seqItemAt l j>>= λr=>pure (r.map (j,·)))>>=_) _ _ s
 refine yt (yt (wpAny_seqItemAt ho rfl (Et ?_)));rw [hx'];refine (?_:wpAny _ _ (setSeqItemAt l j v>>=_) _ _ s);have hfin:∃n',(s.heap.update l (M5 (·.setIfInBounds j v))).get? l=some {cls:=.type "list",data:=.seq (items.setIfInBounds j v) n'}:=by
  rw [Fk _ ho rfl];exact ⟨_,rfl⟩
 refine yt (wpAny_setSeqItemAt ho rfl ?_)
 first
  |exact yt (Et (Et (aZ .none rfl (Et (hQ _ hfin (KW ..))))))
  |exact Et ⟨.none,rfl,Et (hQ _ hfin (KW ..))⟩
noncomputable def liC:ah→Option (List PyData)
 | .live xs=>some xs
 |_=>none
theorem C8{o:Option ah}(h:o.bind liC=some xs):o=some (.live xs):=by
 cases o with
 |none=>exact ct h
 |some c=>
  cases c with
  |live _=>exact congrArg (λx=>some (ah.live x)) (Fd h)
  |_=>exact ct h
noncomputable def Zg(i:Nat)(k:Int)(d:PyData)(μ:List ah):Option (List ah):=bo (μ[i]?.bind liC) λxs=>if 0≤k∧k<xs.length∧k<2^63 then some (μ.set i (.live (xs.set k.toNat d))) else none
theorem EK{k:Int}{t:Tok}(I:bl C T α μ s)(ha:α[i]? =some a)(r:aJ s.heap (T++ai α μ) v d)(h:Zg i k d μ=some μ'):
  wpAny (model C.prog C.w) A (setItem (.ref a) (.int k t) v) (λzz s'=>bl C T α μ' s'∧aU [] α μ s α μ' s') E s:=by
 refine ax h λxs e h=>i6 h λhc h=>cA h (au (I.cells i a _ ha (C8 e)) λitems hp rr=>?_);refine rV hp hc.1 hc.2.2 (by rw [show items.size=xs.length from by rw [←rr.length];simp];exact hc.2.1) λh' hpl hs=>?_;exact I.setCell (c:=.live (xs.set k.toNat d)) (h':=h') (tk:=s.toks) ha (C8 e) rfl rfl (λb o q e=>(hs.2 b q).trans e) (bP hpl λk z=>⟨_,z⟩) λkd=>(aZ _ hpl (by
  rw [Array.toList_setIfInBounds];exact kd (rr.set _ r)))
end
theorem pH{M:Model}{o i:Expr}{Q:Unit→Shared→Prop}
 (h:wpAny M A (eval o env) (λov s₂=>wpAny M A (eval i env) (λiv s₃=>wpAny M A (setItem ov iv v) Q E s₃) E s₂) E s):wpAny M A (assign (.Subscript o i pos) env v) Q E s:=kas_sub h
noncomputable def wL(fo fi:EF)(d:PyData):d0→List ah→Option (List ah):= λρ μ=>bp (fo ρ μ) λV μ1=>bo (Ff V) λi=>bp (fi ρ μ1) λW μ2=>bo (jJ W) λk=>Zg i k d μ2
def UT(fv fo fi:EF):SF:= λρ μ=>bp (fv ρ μ) λV μ1=>bo (v7 V) λd=>bo (wL fo fi d ρ μ1) λμ2=>some (.next,ρ,μ2)
def FB(fv fo fi fo' fi':EF):SF:= λρ μ=>bp (fv ρ μ) λV μ1=>bo (Iw V) λds=>bp (l2 ds) λa b=>bo (wL fo fi a ρ μ1) λμ2=>bo (wL fo' fi' b ρ μ2) λμ3=>some (.next,ρ,μ3)
section
theorem qc{o i:Expr}(ho:ab C n cx o fo)(hi:ab C n cx i fi){Q:Unit→Shared→Prop}(R:cP A n)(I:bl C T α μ s)(F:bh C cx env O ρ s.heap α (T++ai α μ))
  (r:aJ s.heap (T++ai α μ) v d) (h:wL fo fi d ρ μ=some μ') (k:∀α' s',bl C T α' μ' s'→aU [] α μ s α' μ' s'→bh C cx env O ρ s'.heap α' (T++ai α' μ')→Q () s'):
  wpAny (model C.prog C.w) A (eval o env) (λov s₂=>wpAny (model C.prog C.w) A (eval i env) (λiv s₃=>wpAny (model C.prog C.w) A (setItem ov iv v) Q E s₃) E s₂) E s:=by
 refine aD h λV μ1 e1 h=>ax h λj ej h=>aD h λW μ2 e2 h=>ax h λkk ek h=>mS ho hi R I F e1 e2 λa b s2 α2 I2 S2 ra rb=>?_;refine au (Gh ej ra) λad ha z=>bP (fK ek rb) λt z1=>?_;subst z;subst z1;exact D2 (EK I2 ha (aJ.step0 (T:=T) r S2) h) (λzz s3 p=>k α2 s3 p.1 (S2.trans p.2) (F.step I (S2.trans p.2))) λzz zz x=>x
theorem Uf{o i:Expr}{pos':Pos}{fv:EF}(hv:ab C n cx e fv)(ho:ab C n cx o fo)(hi:ab C n cx i fi)(hs:∀env,swapsWith e (some (.Subscript o i pos')) pos.line env=pure false):aQ C n cx (.Assign [.Subscript o i pos'] e pos) (UT fv fo fi):=by
 refine .of ?_;intro A env O T ρ α μ s E fl ρ' μ' R I F h;refine aD h λV μ1 e1 h=>ax h λd ed h=>ax h λμ2 e2 h=>ga h (wpAny_Assign_Subscript (hv.goF R I F e1 λv s1 α1 I1 S1 F1 r1=>?_) (hs env));rw [iP ed] at r1
 exact qc ho hi R I1 F1 r1 e2 λα2 s2 I2 S2 F2=>c_ α2 I2 (S1.up.trans S2.up) F2 rfl
theorem O0{o i o' i':Expr}{p1 p2:Pos}{fv fo' fi':EF}(hv:ab C n cx e fv)(ho:ab C n cx o fo)(hi:ab C n cx i fi)(ho':ab C n cx o' fo')(hi':ab C n cx i' fi')
  (hs:∀env,swapsWithSole [.Tuple [.Subscript o i p1,.Subscript o' i' p2] kk tp] e pos.line env=pure false) (hw:∀env,swappedStores [.Tuple [.Subscript o i p1,.Subscript o' i' p2] kk tp] e env=pure none):
  aQ C n cx (.Assign [.Tuple [.Subscript o i p1,.Subscript o' i' p2] kk tp] e pos) (FB fv fo fi fo' fi'):=by
 refine .of ?_;intro A env O T ρ α μ s E fl ρ' μ' R I F h;refine aD h λV μ1 e1 h=>ax h λds ed h=>aD h λa b el h=>ax h λμ2 e2 h=>ax h λμ3 e3 h=>ga h (Assign_Tuple (hv.goF R I F e1 λv s1 α1 I1 S1 F1 r1=>?_) (hs env) (hw env));refine bq (GB ed r1) λl items zq2 hp rr=>?_;subst zq2;rw [yy el] at rr
 refine nR rr λv1 v2 z r1 r2=>?_;subst z;refine SV R.handled hp rfl rfl λh' he=>?_;have hk:=gZ he;refine PR (pH (qc ho hi R (I1.keeps (tk:=s1.toks) hk) (F1.keeps I1 hk) (r1.keeps hk) e2 λα4 s4 I4 S4 F4=>?_));have r2':aJ s4.heap (T++ai α4 μ2) v2 b:=aJ.step0 (s:= {s1 with heap:=h'}) (T:=T) (r2.keeps hk) S4;exact PR (pH (qc ho' hi' R I4 F4 r2' e3 λα5 s5 I5 S5 F5=>assignInOrder_nil (c_ α5 I5 ((S1.trans ((aU.keeps (tk:=s1.toks) hk).trans (S4.trans S5))).up) F5 rfl)))
end
def kI(i:Int):EF:= λzz μ=>some (.d (.int i),μ)
def kS(x:Str):EF:= λzz μ=>some (.d (.str x),μ)
def kB(b:Bool):EF:= λzz μ=>some (.d (.bool b),μ)
def kN:EF:= λzz μ=>some (.d .none,μ)
def kT(T:String):EF:= λzz μ=>some (.ty T,μ)
section
theorem am{i:Int}:ab C n cx (.Constant (.int i) k pos) (kI i):=W8
theorem bT:ab C n cx (.Constant (.str x) k pos) (kS x):=Gr
theorem dh{b:Bool}:ab C n cx (.Constant (.bool b) k pos) (kB b):=L_
theorem yR:ab C n cx (.Constant .none k pos) kN:=N8
noncomputable def Vt:Expr→Bool| .Starred .. =>true|_=>false
theorem LX(h:Vt e=false):∀env,starEach (e::es) env=(false,eval e env)::starEach es env:=by
 intro env;cases e<;>first|rfl|cases h
theorem ag(h:Vt e=false)(he:ab C n cx e f)(hs:dc C n cx es fs):dc C n cx (e::es) (f::fs):=dA (LX h) he hs
noncomputable def OG(cx:Cx)(x:Str)(i:Nat):Bool:=decide (cx.names[i]? =some (x,1))&&(cx.scope.names.lookup x==some .local)&&(cx.scope.kind== .function)&&!(x==("__debug__":Str))
theorem ID(h:OG cx x i=true)(k:cx.names[i]? =some (x,1)→cx.scope.names.lookup x=some .local→cx.scope.kind=.function→(x==("__debug__":Str))=false→G):G:=by
 unfold OG at h
 simp only [EZ,MT,beq_iff_eq,decide_eq_true_eq] at h
 exact k h.1.1.1 h.1.1.2 h.1.2 (by simpa using h.2)
theorem b9(i:Nat)(h:OG cx x i=true):ab C n cx (.Name x pos) (a9 i):=ID h λa b c d=>qV i a b c d
theorem bu(i:Nat)(h:OG cx x i=true):aA C cx x i:=ID h λa b c zz=>tv i a b c
def Bs(f g h:EF)(o o':AV→AV→List ah→Option Bool):TF:= λρ μ=>bp (f ρ μ) λa μ1=>bp (g ρ μ1) λb μ2=>bo (o a b μ2) λr=>cond r (bp (h ρ μ2) λc μ3=>bo (o' b c μ3) λr=>some (r,μ3)) (some (false,μ2))
theorem gN.go{op:CmpOp}{o:AV→AV→List ah→Option Bool}{a b:Value}{Va Vb:AV}{r:Bool}{Q:Bool→Shared→Prop}(ho:gN C n op o)(R:cP A n)(I:bl C T α μ s)(ra:bm s.heap α (T++ai α μ) a Va)(rb:bm s.heap α (T++ai α μ) b Vb)(h:o Va Vb μ=some r)
  (k:∀tk,bl C T α μ {s with toks:=tk}→aU [] α μ s α μ {s with toks:=tk}→Q r {s with toks:=tk}):wpAny (model C.prog C.w) A (compareOp op a b) (λv s3=>wpAny (model C.prog C.w) A (truthy v) Q E s3) E s:=
 D2 (ho A T α μ s E a b Va Vb r R I ra rb h) (λv s3 p=>Aj p λz tk z2=>by subst z;subst z2;exact OO (k tk (I.keeps (h':=s.heap) λzz zz e=>e) (aU.keeps (h':=s.heap) λzz zz e=>e))) λzz zz x=>x
theorem TM{Z:Type}{x y z:Z}(h:cond true x y=z):x=z:=h
theorem NI{l r r':Expr}{op op':CmpOp}{h:EF}{o o':AV→AV→List ah→Option Bool}(hl:ab C n cx l f)(hr:ab C n cx r g)(hr':ab C n cx r' h)(ho:gN C n op o)(ho':gN C n op' o')(hm:lastMarks [op,op'] [r,r']=false):
  gO C n cx (.Compare l [op,op'] [r,r'] pos) (Bs f g h o o'):=by
 refine .of ?_;intro A env O T ρ α μ s E b μ' R I F q;refine aD q λVa μ1 e1 q=>aD q λVb μ2 e2 q=>ax q λr e3 q=>?_;have two:=mS (E:=E) (Q:= λa b s2=>∃α2,bl C T α2 μ2 s2∧aU [] α μ s α2 μ2 s2∧bm s2.heap α2 (T++ai α2 μ2) a Va∧bm s2.heap α2 (T++ai α2 μ2) b Vb) hl hr R I F e1 e2 λa b s2 α2 I2 S2 ra rb=>(c_ α2 I2 S2 ra rb);refine isTrue_chain (D2 two (λa s1 p1=>test_link (D2 p1 (λb2 s2 p2=>et p2 λα2 I2 S2 ra rb=>ho.go R I2 ra rb e3 λtk I3 S3=>?_) λzz zz x=>x)) λzz zz x=>x) hm;cases r with
 |true=>
  refine aD (TM q) λVc μ3 e4 q=>ax q λb' e5 q=>cg q ?_;have F3:bh C cx env O ρ (QP {s2 with toks:=tk}) α2 (T++ai α2 μ2):=F.step I (S2.trans S3);rw [if_pos rfl];exact test_last (hr'.go R I3 F3 e4 λc s4 α4 I4 S4 rc=>ho'.go R I4 ((rb.step0 S3).step0 S4) rc e5 λtk' I5 S5=>gR rfl α4 I5 (S2.trans (S3.trans (S4.trans S5))))
 |false=>
  refine cg q ?_;rw [if_neg HA];exact gR rfl α2 I3 (S2.trans S3)
end
noncomputable def Q0(cx:Cx)(scope:Scope):Bool:=vt cx scope&&(scope.names.all λy=>y.2 != .cell)&&(scope.kind== .function)&&decide ((((bR cx scope).names.filter λp=>p.2==1).map (·.1)).Nodup)&&(scope.names.all λx=>x.2 != .local||scope.names.lookup x.1==some .local)
theorem ab9{l:List (Str×Nat)}:((l.filter λp=>p.2==1).map (·.1)).Nodup→∀ (i j:Nat) x,l[i]? =some (x,1)→l[j]? =some (x,1)→i=j:=by
 induction l with
 |nil=>intro _ i j x h;simp at h
 |cons p l ih=>
  intro h i j x h1 h2;obtain ⟨y,k⟩:=p
  by_cases hk:k=1
  ·subst hk
   simp only [KC,beq_self_eq_true,if_true,ET,J_] at h
   have nm:∀ (m:Nat),l[m]? =some (y,1)→False:= λm e=>h.1 (DG.mpr (aZ (y,1) (Oq.mpr ⟨FV e,rfl⟩) rfl));cases i with
   |zero=>
    simp at h1;subst h1
    cases j with
    |zero=>rfl
    |succ j=>exact (nm j (by simpa using h2)).elim
   |succ i=>
    cases j with
    |zero=>simp at h2;subst h2;exact (nm i (by simpa using h1)).elim
    |succ j=>rw [ih h.2 i j x (by simpa using h1) (by simpa using h2)]
  ·have hk':(k==1)=false:=by simpa using hk
   simp only [KC,hk',Ox,if_false] at h
   cases i with
   |zero=>simp at h1;exact (hk h1.2).elim
   |succ i=>
    cases j with
    |zero=>simp at h2;exact (hk h2.2).elim
    |succ j=>rw [ih h i j x (by simpa using h1) (by simpa using h2)]
theorem bx{ifs:List Expr}{rest:List Comprehension}{K:Value→Env→Sem Fin→Sem Fin}
  (hB:Q0 cx scope=true) (h2:2≤n) (hs:∀env x,foldedSetIterable iter env x=pure x) (turn:gD elt (⟨target,iter,ifs,0⟩::rest) scope pos 0 target iter ifs K) (it:lS C n cx iter tup itf) (tg:nP C (bR cx scope) target tup tf) (ts:j0 C n (bR cx scope) ifs t) (ck:lL C n (bR cx scope) K cf):
  AI C n cx elt target iter ifs rest scope pos itf tf (cU t cf):=by
 unfold Q0 at hB
 simp only [EZ,beq_iff_eq,decide_eq_true_eq] at hB
 refine fY hB λz h6=>fY z λz h5=>fY z λz h4=>fY z λh1 h3=>?_;refine ⟨(oE tup t cf K rfl turn tg ts ck it),h1,λy hy=>?_,h4,ab9 h5,λx hx hl=>?_,hs,h2⟩
 ·simpa using Bb.mp h3 y hy
 ·simpa [hl] using Bb.mp h6 x hx
noncomputable def dE:List Stmt→Nat→Stmt
 |s::_,0=>s
 |_::r,k+1=>dE r k
 | [],_=>.Pass ⟨0,0,0,0⟩
noncomputable def ar:Stmt→List Stmt
 | .FunctionDef _ _ b _ _ _ _ _ _ _=>b
 |_=>[]
noncomputable def ao:Stmt→Scope
 | .FunctionDef _ _ _ _ _ _ s _ _ _=>s
 |_=> {kind:=.function,names:=[],isGenerator:=false,isCoroutine:=false,more:=[]}
noncomputable def lP:Stmt→Arguments
 | .FunctionDef _ a _ _ _ _ _ _ _ _=>a
 |_=> {posonlyargs:=[],args:=[],vararg:=none,kwonlyargs:=[],kw_defaults:=[],kwarg:=none,defaults:=[]}
noncomputable def ay(k:Nat):Stmt:=dE Mw.main.body k
def jM(names:List (Str×NameKind)):Scope:= {kind:=.function,names:=names,isGenerator:=false,isCoroutine:=false,more:=[]}
def di(C:gK)(x:Str)(k:Nat):Prop:=∃fa o pm cd doc,C.mg x=some (.ref fa)∧C.B.get? fa=some o∧o.data=.func (O9 x (lP (ay k)) (ar (ay k)) (ao (ay k)) pm cd doc)∧C.B.CodeRec cd x
def aI(C:gK)(n:Nat)(x:Str)(spec:a_):Prop:=∃fa o fd,C.mg x=some (.ref fa)∧C.B.get? fa=some o∧o.data=.func fd∧eI C n (.ref fa) spec
def gL(C:gK)(n:Nat)(x:Str)(spec:iW):Prop:=∃fa o fd,C.mg x=some (.ref fa)∧C.B.get? fa=some o∧o.data=.func fd∧ij C n (.ref fa) true spec
section
variable {m:Nat} {ispec:iW}
theorem aI.mono(h:aI C n x spec)(hm:n≤m):aI C m x spec:=by
 refine dg h λfa o fd h1 h2 h3 h4=>?_;exact (dy fa o fd h1 h2 h3 (λA T α μ s E vs Vs V μ' R I r q=>h4 A T α μ s E vs Vs V μ' (R.mono hm) I r q))
theorem gL.mono(h:gL C n x ispec)(hm:n≤m):gL C m x ispec:=by
 refine dg h λfa o fd h1 h2 h3 h4=>?_;exact (dy fa o fd h1 h2 h3 (λA T α μ s E vs Vs xs g μ' R I r q=>h4 A T α μ s E vs Vs xs g μ' (R.mono hm) I r q))
theorem ce(h:aI C n x spec)(ha:dc C n cx (e::es) fs)(hs:∀env,starEach (e::es) env=(false,eval e env)::starEach es env)
  (hl:cx.scope.names.lookup x=some .globalImplicit) (hk:cx.scope.kind=.function) (hdb:(x==("__debug__":Str))=false):ab C n cx (.Call (.Name x xp) (e::es) [] pos) (af fs spec):=by
 refine dg h λfa o fd h1 h2 h3 h4=>?_;exact MC h1 h2 h3 h4 ha hs hl hk hdb
theorem yr(h:gL C n x ispec)(ha:dc C n cx (e::es) fs)(hs:∀env,starEach (e::es) env=(false,eval e env)::starEach es env)
  (hl:cx.scope.names.lookup x=some .globalImplicit) (hk:cx.scope.kind=.function) (hdb:(x==("__debug__":Str))=false):lS C n cx (.Call (.Name x xp) (e::es) [] pos) true (b_ fs ispec):=by
 refine dg h λfa o fd h1 h2 h3 h4=>?_;exact MU h1 h2 h3 h4 ha hs hl hk hdb
theorem Ap{i:Int}(hg:∃t,C.mg x=some (.int i t))(hl:cx.scope.names.lookup x=some .globalImplicit)(hk:cx.scope.kind=.function)(hd:(x==("__debug__":Str))=false):ab C n cx (.Name x pos) (kI i):=by
 refine bP hg λt h=>?_;exact Mk h hl hk hd
theorem gM{f:SF}(ps:List Str)(h:di C x k)(hb:cB C n (df (ao (ay k))) (ar (ay k)) f)
  (hbind:∀ (pm cd doc:Value) (args:List Value),args.length=ps.length→bindArgs (O9 x (lP (ay k)) (ar (ay k)) (ao (ay k)) pm cd doc) ⟨args,[]⟩=pure (ps.zip args))
  (hnd:decide (((ao (ay k)).names.map (·.1)).Nodup)=true) (hps:((df (ao (ay k))).names.map (·.1)).take ps.length=ps) (hco:(ao (ay k)).isCoroutine=false) (hgen:(ao (ay k)).isGenerator=false) (hk:(ao (ay k)).kind=.function):
  aI C (n+1) x (cy ps.length (ao (ay k)) f):=by
 refine fp h λfa o pm cd doc h1 h2 h3 h4=>?_;exact (dy fa o _ h1 h2 h3 (ZB ps h2 h3 h4 (hbind pm cd doc) (of_decide_eq_true hnd) hps hco hgen hk hb))
end
noncomputable def kc(x:Str):Option Int:=([("|",18),("*",16),("(",7),(")",8)]:List (Str×Int)).lookup x
noncomputable def rR(k:Int):Option Str:=([(1,"OPTIMIZED"),(2,"NEWLOCALS"),(4,"VARARGS"),(8,"VARKEYWORDS"),(16,"NESTED"),(32,"GENERATOR"),(64,"NOFREE"),(128,"COROUTINE"),(256,"ITERABLE_COROUTINE"),(512,"ASYNC_GENERATOR")]:List (Int×Str)).lookup k
structure cI (C:gK):Prop where
 no:∀x:Str,((["len","min","range","enumerate","zip","list","sum","iter","next","sorted","isinstance","hex","int","bool","StopIteration"]:List Str).contains x)=true→C.mg x=none
 ext:∃d m,C.mg "EXACT_TOKEN_TYPES"=some (.ref d)∧C.B.MapOf (strKind C.prog C.w) d m∧∀y i,kc y=some i→∃t,m y=some (.int i t)
 cfn:∃d m,C.mg "COMPILER_FLAG_NAMES"=some (.ref d)∧C.B.MapOf (intKind C.prog C.w) d m∧(∀k,(∃y t,rR k=some y∧m k=some (.str y t))∨(rR k=none∧m k=none))∧(d==sysModules)=false
 nt:∃t,C.mg "NT_OFFSET"=some (.int 256 t)
 em:∃t,C.mg "ENDMARKER"=some (.int 0 t)
section
variable {ispec:iW}
theorem ki{y:Str}(h:(x==y)=false):x≠y:=by simpa using h
theorem co(hg:C.mg x=none)(hb:bootBuiltins x=some fv)(hx:(x==("__name__":Str))=false)(hn:kO fv)(hf:eI C n fv spec)
 (ha:dc C n cx (e::es) fs) (hs:∀env,starEach (e::es) env=(false,eval e env)::starEach es env) (hp:∀env,(backTo pos (starEach (e::es) env)).any (·.1)=false)
 (hl:cx.scope.names.lookup x=some .globalImplicit) (hk:cx.scope.kind=.function) (hdb:(x==("__debug__":Str))=false):
 ab C n cx (.Call (.Name x xp) (e::es) [] pos) (af fs spec):=Vi hg hb (ki hx) hn hf ha hs hp hl hk hdb
theorem jW(hg:C.mg x=none)(hb:bootBuiltins x=some fv)(hx:(x==("__name__":Str))=false)(hn:kO fv)(hf:ij C n fv tup ispec)
 (ha:dc C n cx (e::es) fs) (hs:∀env,starEach (e::es) env=(false,eval e env)::starEach es env) (hp:∀env,(backTo pos (starEach (e::es) env)).any (·.1)=false)
 (hl:cx.scope.names.lookup x=some .globalImplicit) (hk:cx.scope.kind=.function) (hdb:(x==("__debug__":Str))=false):
 lS C n cx (.Call (.Name x xp) (e::es) [] pos) tup (b_ fs ispec):=Tc hg hb (ki hx) hn hf ha hs hp hl hk hdb
theorem ad6{T:String}(hg:C.mg x=none)(hb:bootBuiltins x=some (.type T))(hx:(x==("__name__":Str))=false)(hl:cx.scope.names.lookup x=some .globalImplicit)(hk:cx.scope.kind=.function)(hd:(x==("__debug__":Str))=false):
 ab C n cx (.Name x pos) (kT T):=Yh hg hb (ki hx) hl hk hd
theorem KB(G:cI C)(hf:ab C n cx e g)(hs:∀o i,subscripted e false o i=operate [o,i] (getItem o i))(hl:cx.scope.names.lookup ("EXACT_TOKEN_TYPES":Str)=some .globalImplicit)(hk:cx.scope.kind=.function):
  ab C n cx (.Subscript (.Name "EXACT_TOKEN_TYPES" xp) e pos) (jF kc g):=by
 refine bq G.ext λd m h1 h2 h3=>?_;exact MX h1 h2 h3 hf hs hl hk ∅
theorem Zw(G:cI C)(hmeth:oh (.Name "COMPILER_FLAG_NAMES" xp) "get" apos [e1,e2] pos)(hf:ab C n cx e1 f)(hg2:ab C n cx e2 g)
  (hs:∀env,backTo pos (starEach [e1,e2] env)=[(false,eval e1 env),(false,eval e2 env)]) (hl:cx.scope.names.lookup ("COMPILER_FLAG_NAMES":Str)=some .globalImplicit) (hk:cx.scope.kind=.function):
  ab C n cx (.Call (.Attribute (.Name "COMPILER_FLAG_NAMES" xp) "get" apos) [e1,e2] [] pos) (sU rR f g):=by
 refine kA G.cfn λd m h1 h2 h3 h4=>?_;exact MG hmeth h1 h2 h3 h4 hf hg2 hs hl hk ∅
end
theorem jG{α:Type}{P:List α→Prop}(h:∀a,P [a]):∀l:List α,l.length=1→P l
 | [a],_=>h a
 | [],h=>by simp at h
 |_::_::_,h=>by simp at h
theorem Jd{α:Type}{P:List α→Prop}(h:∀a b,P [a,b]):∀l:List α,l.length=2→P l
 | [a,b],_=>h a b
 | [],h=>by simp at h
 | [_],h=>by simp at h
 |_::_::_::_,h=>by simp at h
theorem PH{α:Type}{P:List α→Prop}(h:∀a b c,P [a,b,c]):∀l:List α,l.length=3→P l
 | [a,b,c],_=>h a b c
 | [],h=>by simp at h
 | [_],h=>by simp at h
 | [_,_],h=>by simp at h
 |_::_::_::_::_,h=>by simp at h
theorem Rz{α:Type}{P:List α→Prop}(h:∀a b c d,P [a,b,c,d]):∀l:List α,l.length=4→P l
 | [a,b,c,d],_=>h a b c d
 | [],h=>by simp at h
 | [_],h=>by simp at h
 | [_,_],h=>by simp at h
 | [_,_,_],h=>by simp at h
 |_::_::_::_::_::_,h=>by simp at h
theorem Ec{a b c d x y:Expr}{p q vp:Pos}{k':Nat}:∀env,swappedStores [.Tuple [.Subscript a b p,.Subscript c d q] k tp] (.Tuple [x,y] k' vp) env=pure none:=by
 have gen:∀ (b c:Bool),(if b=true then pure none else if c=true then pure none else pure none:Sem (Option (List Str)))=pure none:= λb c=>by cases b<;>cases c<;>rfl
 exact λenv=>gen _ _
theorem wl{y:Str}{vp:Pos}{k':Nat}(hk:cx.scope.kind=.function)(h1:cx.scope.names.lookup x=some .local)(h2:cx.scope.names.lookup y=some .local)(hxy:(x==y)=false)(hline:(px.line==py.line)=true)
  (hs:[e1,e2].any Vt=false) (hf:[e1,e2].all (foldedForSure 8)=false) (hc:[e1,e2].all (constantsAlone 8)=false):
  ∀env,env.scope=cx.scope→swappedStores [.Tuple [.Name x px,.Name y py] k tp] (.Tuple [e1,e2] k' vp) env=pure (some [x,y]):=by
 intro env he;have hb:env.blockKind=.function:=by unfold Env.blockKind;rw [he,hk];rfl
 have k1:env.kindOf x=some .local:=by unfold J3;rw [he];exact h1
 have k2:env.kindOf y=some .local:=by unfold J3;rw [he];exact h2
 have hne:x≠y:=by simpa using hxy
 have hlen:([x,y]:List Str).eraseDups.length=2:=by
  simp [List.eraseDups_cons,show (y==x)=false by simpa using hne.symm]
 have gen:∀ (b s:Bool) (names:List Str) (f c:Bool) (u:Sem PUnit),b=false→s=false→names=[x,y]→f=false→c=false→
   (if b=true then pure none else if s=true then pure none else if (names.length != 2||names.eraseDups.length != names.length)=true then pure none else if f=true then pure none else if c=true then u>>= λzz=>pure (some names) else pure (some names):Sem (Option (List Str)))=pure (some [x,y]):=by
  intro b s names f c u hb hs hn hf hc;rw [hb,hs,hn,hf,hc,hlen];rfl
 refine gen _ _ _ _ _ _ ?_ hs ?_ hf hc
 ·rw [hb];rfl
 ·refine (M4 (b:=x) ?_).trans (congrArg (x:: ·) ((M4 (b:=y) ?_).trans (congrArg (y:: ·) List.filterMap_nil)))
  ·exact (if_pos (by rw [k1];exact beq_self_eq_true px.line):(if (env.kindOf x==some .local&&px.line==px.line)=true then some x else none)=some x)
  ·exact (if_pos (by rw [k2,show py.line=px.line from (eq_of_beq hline).symm];exact beq_self_eq_true px.line):(if (env.kindOf y==some .local&&py.line==px.line)=true then some y else none)=some y)
noncomputable def eh:List Nat→Nat→Bool→List PyData
 | [],pos,true=>[.tuple [.int ((pos:Int)-1),.str ⟨#[92]⟩]]
 | [],_,false=>[]
 |c::r,pos,true=>.tuple [.int pos,.str ⟨#[92,c]⟩]::eh r (pos+1) false
 |c::r,pos,false=>if c=92 then eh r (pos+1) true else .tuple [.int pos,.str ⟨#[c]⟩]::eh r (pos+1) false
theorem An{c:Nat}{r:List Nat}:eh (c::r) p false=if c=92 then eh r (p+1) true else .tuple [.int p,.str ⟨#[c]⟩]::eh r (p+1) false:=rfl
noncomputable def aE:iW:= λVs μ=>bo (l1 Vs) λV=>bo (mz V) λx=>some (eh x.cps.toList 0 false,none,μ)
def Cy(C:gK)(n:Nat)(x:Str)(spec:iW):Prop:=∃fa o fd,C.mg x=some (.ref fa)∧C.B.get? fa=some o∧o.data=.func fd∧∀A T α μ s E vs Vs xs g μ',cP A n→bl C T α μ s→eZ s.heap α (T++ai α μ) vs Vs→spec Vs μ=some (xs,g,μ')→xs.length≤sizeLine→
 wpAny (model C.prog C.w) A (call (.ref fa) vs) (λv s1=>wpAny (model C.prog C.w) A (call (.type "list") [v]) (bI C T α μ s μ' (.d (.list xs))) E s1) E s
def xP(fs:List EF)(spec:iW):EF:= λρ μ=>bp (eX fs ρ μ) λVs μ1=>bp (spec Vs μ1) λxs p=>if xs.length≤sizeLine then some (.d (.list xs),p.2) else none
section
variable {ispec:iW}
theorem DF{lp lpos:Pos}(hg:C.mg "list"=none)(h:Cy C n x ispec)(ha:dc C n cx (e::es) fs)(hs:∀env,starEach (e::es) env=(false,eval e env)::starEach es env)
  (hll:cx.scope.names.lookup ("list":Str)=some .globalImplicit) (hl:cx.scope.names.lookup x=some .globalImplicit) (hk:cx.scope.kind=.function) (hdb:(x==("__debug__":Str))=false):
  ab C n cx (.Call (.Name "list" lp) [.Call (.Name x xp) (e::es) [] pos] [] lpos) (xP fs ispec):=by
 refine dg h λfa o fd h1 h2 h3 h4=>?_;refine .of ?_;intro A env O T ρ α μ s E V μ' R I F q;refine aD q λVs μ1 e1 q=>aD q λxs p e2 q=>i6 q λhsz q=>cg q ?_;refine (?_:wpAny _ A (do callWith lpos (←eval (.Name "list" lp) env) [] (backTo lpos (starEach [.Call (.Name x xp) (e::es) [] pos] env)) []) _ _ s);refine yt (E_ (by rw [F.sc];exact hk) (by unfold J3;rw [F.sc];exact hll) (Ld (by rw [F.gl];exact C.g.keeps I.keep) hg (by rw [F.bn];exact C.b.keeps I.keep) ((C.bt _ (by decide+kernel)).trans (∅ :bootBuiltins "list"=some (.type "list"))) ?_) ∅);refine bD "list" _ _ _ _ _ _ _ _ ∅ ?_
 refine Se (Rw ?_);refine (?_:wpAny _ A (do callWith pos (←eval (.Name x xp) env) [] (backTo pos (starEach (e::es) env)) []) _ _ s);refine yt (E_ (by rw [F.sc];exact hk) (by unfold J3;rw [F.sc];exact hl) (L5 (by rw [F.gl];exact C.g.keeps I.keep) h1 ?_) hdb);refine MP (o:=o) (fd:=fd) (ee (hs env) ha R I F e1 λvs s1 α1 I1 S1 r1=>⟨⟨I1.keep _ _ h2,h3⟩,?_⟩);refine D2 (h4 A T α1 μ1 s1 E vs Vs xs p.1 p.2 R I1 r1 e2 hsz) (λv s2 pp=>Sr ?_) λzz zz x=>x;exact D2 pp (λw s3 p=>bI.trans S1 p) λzz zz x=>x
theorem tL(h:di C x k):aI C n x (λzz zz=>none):=by
 refine fp h λfa o pm cd doc h1 h2 h3 h4=>?_;exact (dy fa o _ h1 h2 h3 (λA T α μ s E vs Vs V μ' R I r q=>by exact ct q))
end
section
abbrev Uy:Cx:=df (ao (ay 61))
theorem ad8:ab C n Uy (.Name "x" pos) (a9 0):=b9 0 ∅
def R8:SF:=(e_ (dY (a9 0) (kI 256) (ef λx y=>decide (x<y))))
theorem I8(G:cI C)(h2:2≤n):aQ C n Uy (dE (ar (ay 61)) 0) R8:=(d8 (fq ad8 (Ap G.nt ∅ ∅ ∅) rq ∅))
def f61:SF:=(ap R8 aP)
theorem b61(G:cI C)(h2:2≤n):cB C n Uy (ar (ay 61)) f61:=(ak (I8 G h2) aN)
theorem c61(G:cI C)(h2:2≤n)(h:di C "ISTERMINAL" 61):aI C (n+1) "ISTERMINAL" (cy 1 (ao (ay 61)) f61):=
 gM ["x"] h (b61 G h2) (λzz zz zz=>jG λzz=> ∅) ∅ ∅ ∅ ∅ ∅
noncomputable def cm:a_:=cy 1 (ao (ay 61)) f61
abbrev V4:Cx:=df (ao (ay 62))
theorem Zo:ab C n V4 (.Name "x" pos) (a9 0):=b9 0 ∅
def RP:SF:=(e_ (dY (a9 0) (kI 256) (ef λx y=>decide (y≤x))))
theorem Ja(G:cI C)(h2:2≤n):aQ C n V4 (dE (ar (ay 62)) 0) RP:=(d8 (fq Zo (Ap G.nt ∅ ∅ ∅) Rf ∅))
def f62:SF:=(ap RP aP)
theorem b62(G:cI C)(h2:2≤n):cB C n V4 (ar (ay 62)) f62:=(ak (Ja G h2) aN)
theorem c62(G:cI C)(h2:2≤n)(h:di C "ISNONTERMINAL" 62):aI C (n+1) "ISNONTERMINAL" (cy 1 (ao (ay 62)) f62):=
 gM ["x"] h (b62 G h2) (λzz zz zz=>jG λzz=> ∅) ∅ ∅ ∅ ∅ ∅
noncomputable def bQ:a_:=cy 1 (ao (ay 62)) f62
abbrev W2:Cx:=df (ao (ay 63))
theorem ZQ:ab C n W2 (.Name "x" pos) (a9 0):=b9 0 ∅
def Sk:SF:=(e_ (dY (a9 0) (kI 0) dH))
theorem IP(G:cI C)(h2:2≤n):aQ C n W2 (dE (ar (ay 63)) 0) Sk:=(d8 (fq ZQ (Ap G.em ∅ ∅ ∅) dM ∅))
def f63:SF:=(ap Sk aP)
theorem b63(G:cI C)(h2:2≤n):cB C n W2 (ar (ay 63)) f63:=(ak (IP G h2) aN)
theorem c63(G:cI C)(h2:2≤n)(h:di C "ISEOF" 63):aI C (n+1) "ISEOF" (cy 1 (ao (ay 63)) f63):=
 gM ["x"] h (b63 G h2) (λzz zz zz=>jG λzz=> ∅) ∅ ∅ ∅ ∅ ∅
noncomputable def fB:a_:=cy 1 (ao (ay 63)) f63
abbrev pG:Cx:=df (ao (ay 72))
theorem Nz:aA C pG "one" 2:=eS 2 ∅ ∅ ∅
theorem Pr:aA C pG "two" 3:=eS 3 ∅ ∅ ∅
theorem EG:ab C n pG (.Name "edges" pos) (a9 1):=b9 1 ∅
theorem jq:ab C n pG (.Name "labels" pos) (a9 0):=bF 0 2 ∅ (by decide) ∅ ∅ ∅
theorem Pz:ab C n pG (.Name "one" pos) (a9 2):=bF 2 2 ∅ (by decide) ∅ ∅ ∅
theorem Mr:ab C n pG (.Name "two" pos) (a9 3):=bF 3 2 ∅ (by decide) ∅ ∅ ∅
theorem xM:aA C pG "labels" 0:=eS 0 ∅ ∅ ∅
abbrev pw:Scope:=jM [(".0",.local),("label",.local),("labels",.free),("one",.free),("two",.free)]
abbrev qg:Cx:=bR pG pw
theorem xa:aA C qg "label" 4:=bu 4 ∅
theorem oL:ab C n qg (.Name "label" pos) (a9 4):=b9 4 ∅
theorem mN:ab C n qg (.Name "labels" pos) (a9 0):=bF 0 3 ∅ (by decide) ∅ ∅ ∅
theorem Eu:ab C n qg (.Name "two" pos) (a9 3):=bF 3 3 ∅ (by decide) ∅ ∅ ∅
theorem Di:ab C n qg (.Name "one" pos) (a9 2):=bF 2 3 ∅ (by decide) ∅ ∅ ∅
def Cb:SF:=(jI (aK true (a9 1)) (jc 2 3) (ap (jC (bC (aF (a9 0) (a9 2)) (aF (a9 0) (a9 3)) dH) (ap (e_ (aV [])) aP) aP) (ap (c6 0 (cb pw (aK false (a9 0)) (du 4) (cU bg (aY (dx (bC (a9 4) (aF (a9 0) (a9 3)) dH) (aF (a9 0) (a9 2)) (a9 4)))))) aP)) aP)
theorem H4(G:cI C)(h2:2≤n):aQ C n pG (dE (ar (ay 72)) 0) Cb:=(gn h2 (c5 EG) (eW Nz Pr) (ak (g8 (cj (bj jq Pz (λzz zz=>rfl)) (bj jq Mr (λzz zz=>rfl)) dM ∅) (ak (d8 (bc ae)) aN) aN) (ak (bE (cD (bx ∅ h2 (λzz zz=>rfl) (bN _ _ _ _ _ _) (c5 jq) (bM xa) cG (bZ (fV (cj oL (bj mN Eu (λzz zz=>rfl)) dM ∅) (bj mN Di (λzz zz=>rfl)) oL)))) xM (oS ∅)) aN)) aN (λzz zz=>rfl))
def JS:SF:=(e_ (a9 0))
theorem JR(G:cI C)(h2:2≤n):aQ C n pG (dE (ar (ay 72)) 1) JS:=(d8 jq)
def f72:SF:=(ap Cb (ap JS aP))
theorem b72(G:cI C)(h2:2≤n):cB C n pG (ar (ay 72)) f72:=(ak (H4 G h2) (ak (JR G h2) aN))
theorem c72(G:cI C)(h2:2≤n)(h:di C "_law_joined" 72):aI C (n+1) "_law_joined" (cy 2 (ao (ay 72)) f72):=
 gM ["labels","edges"] h (b72 G h2) (λzz zz zz=>Jd λzz zz=> ∅) ∅ ∅ ∅ ∅ ∅
noncomputable def de:a_:=cy 2 (ao (ay 72)) f72
abbrev oR:Cx:=df (ao (ay 71))
theorem iM:ab C n oR (.Name "formula" pos) (a9 0):=b9 0 ∅
def sj(aW:a_):SF:=(jC (bC (af [(a9 0)] dz) (kI 2) dH) (ap (e_ (aF (aF (a9 0) (kI 1)) (kI 0))) aP) aP)
theorem KN{aW:a_}(G:cI C)(h2:2≤n):aQ C n oR (dE (ar (ay 71)) 0) (sj aW):=(g8 (cj (co (fv:=.builtin "len") (G.no _ ∅) ∅ ∅ (bf _) eR (ag rfl iM ae) (λzz=>rfl) (λzz=>rfl) ∅ ∅ ∅) am dM ∅) (ak (d8 (bj (bj iM am (λzz zz=>rfl)) am (λzz zz=>rfl))) aN) aN)
theorem Gc:aA C oR "left" 2:=bu 2 ∅
theorem DS:aA C oR "right" 3:=bu 3 ∅
abbrev qZ:Scope:=jM [(".0",.local),("part",.local),("_law_graph",.globalImplicit),("joins",.free)]
abbrev Ao:Cx:=bR oR qZ
theorem yx:aA C Ao "part" 4:=bu 4 ∅
theorem y8:ab C n Ao (.Name "part" pos) (a9 4):=b9 4 ∅
theorem vc:ab C n Ao (.Name "joins" pos) (a9 1):=bF 1 3 ∅ (by decide) ∅ ∅ ∅
def GK(aW:a_):SF:=(VM 2 3 (cb qZ (aK false (cc (a9 0) (aL (kI 2)) ba)) (du 4) (cU bg (aY (af [(a9 4),(a9 1)] aW)))))
theorem Ig{aW:a_}(G:cI C)(h2:2≤n)(h_law_graph:aI C n "_law_graph" aW):aQ C n oR (dE (ar (ay 71)) 1) (GK aW):=(U9 (cD (bx ∅ h2 (λzz zz=>rfl) (bN _ _ _ _ _ _) (c5 (dJ iM (cw am) dC)) (bM yx) cG (bZ (ce h_law_graph (ag rfl y8 (ag rfl vc ae)) (λzz=>rfl) ∅ ∅ ∅)))) Gc DS (λzz=>rfl) (λzz=>rfl))
theorem nc:ab C n oR (.Name "joins" pos) (a9 1):=bF 1 2 ∅ (by decide) ∅ ∅ ∅
theorem Jx:ab C n oR (.Name "left" pos) (a9 2):=b9 2 ∅
theorem CT:ab C n oR (.Name "right" pos) (a9 3):=b9 3 ∅
def AN(aW:a_):SF:=(ci (d_ (a9 1) (cX [(aF (a9 0) (kI 0)),(aj (kI 6) (af [(a9 1)] dz) aT),(a9 2),(a9 3)])))
theorem Hz{aW:a_}(G:cI C)(h2:2≤n)(h_law_graph:aI C n "_law_graph" aW):aQ C n oR (dE (ar (ay 71)) 2) (AN aW):=(cK (cv (λzz=>rfl) nc (cY (ag rfl (bj iM am (λzz zz=>rfl)) (ag rfl (av am (co (fv:=.builtin "len") (G.no _ ∅) ∅ ∅ (bf _) eR (ag rfl nc ae) (λzz=>rfl) (λzz=>rfl) ∅ ∅ ∅) br) (ag rfl Jx (ag rfl CT ae))))) (λzz=>rfl)) ∅ (λzz=>rfl))
def IB(aW:a_):SF:=(e_ (aj (kI 5) (af [(a9 1)] dz) aT))
theorem Hp{aW:a_}(G:cI C)(h2:2≤n)(h_law_graph:aI C n "_law_graph" aW):aQ C n oR (dE (ar (ay 71)) 3) (IB aW):=(d8 (av am (co (fv:=.builtin "len") (G.no _ ∅) ∅ ∅ (bf _) eR (ag rfl nc ae) (λzz=>rfl) (λzz=>rfl) ∅ ∅ ∅) br))
def f71(aW:a_):SF:=(ap (sj aW) (ap (GK aW) (ap (AN aW) (ap (IB aW) aP))))
theorem b71{aW:a_}(G:cI C)(h2:2≤n)(h_law_graph:aI C n "_law_graph" aW):cB C n oR (ar (ay 71)) (f71 aW):=(ak (KN G h2) (ak (Ig G h2 h_law_graph) (ak (Hz G h2 h_law_graph) (ak (Hp G h2 h_law_graph) aN))))
theorem c71{aW:a_}(G:cI C)(h2:2≤n)(h_law_graph:aI C n "_law_graph" aW)(h:di C "_law_graph" 71):aI C (n+1) "_law_graph" (cy 2 (ao (ay 71)) (f71 aW)):=
 gM ["formula","joins"] h (b71 G h2 h_law_graph) (λzz zz zz=>Jd λzz zz=> ∅) ∅ ∅ ∅ ∅ ∅
noncomputable def EW:Nat→a_
 |0=> λzz zz=>none
 |m+1=>cy 2 (ao (ay 71)) (f71 (EW m))
theorem d71(G:cI C)(h2:2≤n)(h:di C "_law_graph" 71):∀m,aI C (n+m) "_law_graph" (EW m)
 |0=>tL h
 |m+1=>c71 G (KQ h2 (Fj ..)) (d71 G h2 h m) h
noncomputable def aW:a_:=EW 12
abbrev DZ:Cx:=df (ao (ay 8))
theorem Y3:aA C DZ "b" 1:=bu 1 ∅
theorem iQ:ab C n DZ (.Name "iterator" pos) (a9 0):=b9 0 ∅
def Eb:SF:=(c6 1 (af [(a9 0)] j_))
theorem Bh(G:cI C)(h2:2≤n):aQ C n DZ (dE (ar (ay 8)) 0) Eb:=(bE (co (fv:=.builtin "next") (G.no _ ∅) ∅ ∅ (bf _) Bm (ag rfl iQ ae) (λzz=>rfl) (λzz=>rfl) ∅ ∅ ∅) Y3 (λzz zz=> ∅))
theorem Th:aA C DZ "val" 2:=bu 2 ∅
theorem N1:ab C n DZ (.Name "b" pos) (a9 1):=b9 1 ∅
def JP:SF:=(c6 2 (aj (a9 1) (kI 63) (aS λx y=>some (D5 x y))))
theorem Bx(G:cI C)(h2:2≤n):aQ C n DZ (dE (ar (ay 8)) 1) JP:=(bE (av N1 am qy) Th (λzz zz=> ∅))
def Oa:SF:=(j3 (gu (aj (a9 1) (kI 64) (aS λx y=>some (D5 x y)))) (ap (ie 2 (kI 6) pC) (ap (c6 1 (af [(a9 0)] j_)) (ap (ie 2 (aj (a9 1) (kI 63) (aS λx y=>some (D5 x y))) VP) aP))) 64)
theorem Mu(G:cI C)(h2:2≤n):aQ C n DZ (dE (ar (ay 8)) 2) Oa:=(HF 64 (iD (λzz zz=>rfl) (av N1 am qy)) (ak (o3 (i:=2) ∅ ∅ ∅ am Cs) (ak (bE (co (fv:=.builtin "next") (G.no _ ∅) ∅ ∅ (bf _) Bm (ag rfl iQ ae) (λzz=>rfl) (λzz=>rfl) ∅ ∅ ∅) Y3 (λzz zz=> ∅)) (ak (o3 (i:=2) ∅ ∅ ∅ (av N1 am qy) VN) aN))))
theorem V6:ab C n DZ (.Name "val" pos) (a9 2):=b9 2 ∅
def T0:SF:=(e_ (a9 2))
theorem MK(G:cI C)(h2:2≤n):aQ C n DZ (dE (ar (ay 8)) 3) T0:=(d8 V6)
def f8:SF:=(ap Eb (ap JP (ap Oa (ap T0 aP))))
theorem b8(G:cI C)(h2:2≤n):cB C n DZ (ar (ay 8)) f8:=(ak (Bh G h2) (ak (Bx G h2) (ak (Mu G h2) (ak (MK G h2) aN))))
theorem c8(G:cI C)(h2:2≤n)(h:di C "_parse_varint" 8):aI C (n+1) "_parse_varint" (cy 1 (ao (ay 8)) f8):=
 gM ["iterator"] h (b8 G h2) (λzz zz zz=>jG λzz=> ∅) ∅ ∅ ∅ ∅ ∅
noncomputable def aR:a_:=cy 1 (ao (ay 8)) f8
abbrev JB:Cx:=df (ao (ay 7))
theorem Jh:aA C JB "names" 1:=bu 1 ∅
def NP:SF:=(c6 1 (oa []))
theorem N7(G:cI C)(h2:2≤n):aQ C n JB (dE (ar (ay 7)) 0) NP:=(bE (jx ae) Jh (λzz zz=> ∅))
theorem an2:aA C JB "i" 2:=bu 2 ∅
theorem LP:aA C JB "flag" 3:=bu 3 ∅
theorem al9:ab C n JB (.Name "i" pos) (a9 2):=b9 2 ∅
theorem qS:ab C n JB (.Name "flags" pos) (a9 0):=b9 0 ∅
theorem p8:ab C n JB (.Name "flag" pos) (a9 3):=b9 3 ∅
theorem qE:ab C n JB (.Name "names" pos) (a9 1):=b9 1 ∅
def N9:SF:=(jI (aK false (af [(kI 32)] cF)) (du 2) (ap (c6 3 (aj (kI 1) (a9 2) (aS Dt))) (ap (jC (gu (aj (a9 0) (a9 3) (aS λx y=>some (D5 x y)))) (ap (ci (d_ (a9 1) (sU rR (a9 3) (af [(a9 3)] oM)))) (ap (ie 0 (a9 3) BI) (ap (jC (tV (gu (a9 0))) (ap Mx aP) aP) aP))) aP) aP)) (ap (ci (d_ (a9 1) (af [(a9 0)] oM))) aP))
theorem No(G:cI C)(h2:2≤n):aQ C n JB (dE (ar (ay 7)) 1) N9:=(gn h2 (c5 (co (fv:=.type "range") (G.no _ ∅) ∅ ∅ (bD _) dO (ag rfl am ae) (λzz=>rfl) (λzz=>rfl) ∅ ∅ ∅)) (bM an2) (ak (bE (av am al9 Uu) LP (λzz zz=> ∅)) (ak (g8 (iD (λzz zz=>rfl) (av qS p8 qy)) (ak (cK (cv (λzz=>rfl) qE (Zw G (λzz=>rfl) p8 (co (fv:=.builtin "hex") (G.no _ ∅) ∅ ∅ (bf _) tO (ag rfl p8 ae) (λzz=>rfl) (λzz=>rfl) ∅ ∅ ∅) (λzz=>rfl) ∅ ∅) (λzz=>rfl)) ∅ (λzz=>rfl)) (ak (o3 (i:=0) ∅ ∅ ∅ p8 LN) (ak (g8 (HG (iD (λzz zz=>rfl) qS)) (ak SB aN) aN) aN))) aN) aN)) (ak (cK (cv (λzz=>rfl) qE (co (fv:=.builtin "hex") (G.no _ ∅) ∅ ∅ (bf _) tO (ag rfl qS ae) (λzz=>rfl) (λzz=>rfl) ∅ ∅ ∅) (λzz=>rfl)) ∅ (λzz=>rfl)) aN) (λzz zz=>rfl))
def OH:SF:=(e_ (dv (kS ", ") [(a9 1)] fc))
theorem NV(G:cI C)(h2:2≤n):aQ C n JB (dE (ar (ay 7)) 2) OH:=(d8 (fQ (λzz=>rfl) JE JH gU bT (ag rfl qE ae) (λzz=>rfl) (λzz=>rfl)))
def f7:SF:=(ap NP (ap N9 (ap OH aP)))
theorem b7(G:cI C)(h2:2≤n):cB C n JB (ar (ay 7)) f7:=(ak (N7 G h2) (ak (No G h2) (ak (NV G h2) aN)))
theorem c7(G:cI C)(h2:2≤n)(h:di C "pretty_flags" 7):aI C (n+1) "pretty_flags" (cy 1 (ao (ay 7)) f7):=
 gM ["flags"] h (b7 G h2) (λzz zz zz=>jG λzz=> ∅) ∅ ∅ ∅ ∅ ∅
noncomputable def cM:a_:=cy 1 (ao (ay 7)) f7
abbrev la:Cx:=df (ao (ay 66))
theorem yW:aA C la "octets" 3:=bu 3 ∅
def HR:SF:=(c6 3 (oa []))
theorem JO(G:cI C)(h2:2≤n):aQ C n la (dE (ar (ay 66)) 0) HR:=(bE (jx ae) yW (λzz zz=> ∅))
theorem XU:aA C la "k" 4:=bu 4 ∅
theorem zt:aA C la "number" 5:=eS 5 ∅ ∅ ∅
theorem vU:ab C n la (.Name "numbers" pos) (a9 0):=b9 0 ∅
theorem jp:ab C n la (.Name "octets" pos) (a9 3):=b9 3 ∅
theorem CG:ab C n la (.Name "cells" pos) (a9 1):=b9 1 ∅
theorem ae3:ab C n la (.Name "k" pos) (a9 4):=b9 4 ∅
abbrev qX:Scope:=jM [(".0",.local),("high",.local),("number",.free)]
abbrev zO:Cx:=bR la qX
theorem zN:aA C zO "high" 6:=bu 6 ∅
theorem lV:ab C n zO (.Name "number" pos) (a9 5):=bF 5 3 ∅ (by decide) ∅ ∅ ∅
theorem qh:ab C n zO (.Name "high" pos) (a9 6):=b9 6 ∅
theorem xN:ab C n la (.Name "number" pos) (a9 5):=bF 5 2 ∅ (by decide) ∅ ∅ ∅
def KG:SF:=(jI (b_ [(a9 0)] g9) (jc 4 5) (ap (ci (rK (a9 3) (aj (aV [(kI 64)]) (aj (aj (aF (a9 1) (aj (a9 4) (kI 6) (aS cq))) (kI 420) (aS cN)) (kI 3) (aS cq)) l8))) (ap (ci (rK (a9 3) (aj (cb qX (aK false (aV [(kI 5),(kI 4),(kI 3),(kI 2),(kI 1)])) (du 6) (cU (bC (a9 5) (aj (kI 64) (a9 6) (aS gj)) (ef λx y=>decide (y≤x))) (aY (aj (aj (aj (a9 5) (aj (kI 64) (a9 6) (aS gj)) (aS cN)) (kI 64) (aS cq)) (kI 64) aT)))) (aV [(aj (a9 5) (kI 64) (aS cq))]) aT))) aP)) aP)
theorem Jj(G:cI C)(h2:2≤n):aQ C n la (dE (ar (ay 66)) 1) KG:=(gn h2 (jW (fv:=.type "enumerate") (G.no _ ∅) ∅ ∅ (bD _) iO (ag rfl vU ae) (λzz=>rfl) (λzz=>rfl) ∅ ∅ ∅) (eW XU zt) (ak (cK (kz (λzz=>rfl) jp (av (bc (ag rfl am ae)) (av (av (bj CG (av ae3 am dk) (λzz zz=>rfl)) am eM) am dk) qd) (λzz=>rfl)) ∅ (λzz=>rfl)) (ak (cK (kz (λzz=>rfl) jp (av (cD (bx ∅ h2 (λzz zz=>rfl) (bN _ _ _ _ _ _) (c5 (bc (ag rfl am (ag rfl am (ag rfl am (ag rfl am (ag rfl am ae))))))) (bM zN) (iY (cj lV (av am qh j2) Rf ∅)) (bZ (av (av (av lV (av am qh j2) eM) am dk) am br)))) (bc (ag rfl (av xN am dk) ae)) br) (λzz=>rfl)) ∅ (λzz=>rfl)) aN)) aN (λzz zz=>rfl))
theorem E8:ab C n la (.Name "total" pos) (a9 2):=bF 2 2 ∅ (by decide) ∅ ∅ ∅
def IJ:SF:=(ci (d_ (a9 3) (aj (kI 64) (aj (a9 2) (kI 64) (aS cq)) aT)))
theorem Fq(G:cI C)(h2:2≤n):aQ C n la (dE (ar (ay 66)) 2) IJ:=(cK (cv (λzz=>rfl) jp (av am (av E8 am dk) br) (λzz=>rfl)) ∅ (λzz=>rfl))
abbrev tm:Scope:=jM [(".0",.local),("place",.local),("octet",.local),("total",.free)]
abbrev qe:Cx:=bR la tm
theorem xv:aA C qe "place" 6:=bu 6 ∅
theorem vV:aA C qe "octet" 7:=bu 7 ∅
theorem vk:ab C n qe (.Name "place" pos) (a9 6):=b9 6 ∅
theorem vD:ab C n qe (.Name "total" pos) (a9 2):=bF 2 3 ∅ (by decide) ∅ ∅ ∅
theorem ot:ab C n qe (.Name "octet" pos) (a9 7):=b9 7 ∅
def Jy:SF:=(e_ (cb tm (b_ [(a9 3)] g9) (jc 6 7) (cU bg (aY (dx (bC (aj (aj (a9 6) (a9 2) aT) (kI 3) (aS cq)) (kI 0) dH) (aj (a9 7) (kI 128) aT) (a9 7))))))
theorem Hh(G:cI C)(h2:2≤n):aQ C n la (dE (ar (ay 66)) 3) Jy:=(d8 (cD (bx ∅ h2 (λzz zz=>rfl) (bN _ _ _ _ _ _) (jW (fv:=.type "enumerate") (G.no _ ∅) ∅ ∅ (bD _) iO (ag rfl jp ae) (λzz=>rfl) (λzz=>rfl) ∅ ∅ ∅) (eW xv vV) cG (bZ (fV (cj (av (av vk vD br) am dk) am dM ∅) (av ot am br) ot)))))
def f66:SF:=(ap HR (ap KG (ap IJ (ap Jy aP))))
theorem b66(G:cI C)(h2:2≤n):cB C n la (ar (ay 66)) f66:=(ak (JO G h2) (ak (Jj G h2) (ak (Fq G h2) (ak (Hh G h2) aN))))
theorem c66(G:cI C)(h2:2≤n)(h:di C "_law_octets" 66):aI C (n+1) "_law_octets" (cy 3 (ao (ay 66)) f66):=
 gM ["numbers","cells","total"] h (b66 G h2) (λzz zz zz=>PH λzz zz zz=> ∅) ∅ ∅ ∅ ∅ ∅
noncomputable def fX:a_:=cy 3 (ao (ay 66)) f66
abbrev rQ:Cx:=df (ao (ay 67))
theorem Ab:aA C rQ "pieces" 4:=eS 4 ∅ ∅ ∅
def Hf:SF:=(c6 4 (aV [(aV []),(aV [(kS "\\(")]),(aV [(kS "\""),(kS ")"),(kS "\"")]),(aV [(kS "\\\\")]),(aV [(kS "\""),(kS "\\\""),(kS ")"),(kS "\"")]),(aV [(kS "a"),(kS "\\\"")]),(aV [(kS "\""),(kS "\"")])]))
theorem JJ(G:cI C)(h2:2≤n):aQ C n rQ (dE (ar (ay 67)) 0) Hf:=(bE (bc (ag rfl (bc ae) (ag rfl (bc (ag rfl bT ae)) (ag rfl (bc (ag rfl bT (ag rfl bT (ag rfl bT ae)))) (ag rfl (bc (ag rfl bT ae)) (ag rfl (bc (ag rfl bT (ag rfl bT (ag rfl bT (ag rfl bT ae))))) (ag rfl (bc (ag rfl bT (ag rfl bT ae))) (ag rfl (bc (ag rfl bT (ag rfl bT ae))) ae)))))))) Ab (λzz zz=> ∅))
theorem y5:aA C rQ "picked" 5:=bu 5 ∅
theorem yn:ab C n rQ (.Name "places" pos) (a9 0):=b9 0 ∅
abbrev lD:Scope:=jM [(".0",.local),("place",.local),("cells",.free),("mates",.free),("pieces",.free)]
abbrev pX:Cx:=bR rQ lD
theorem vj:aA C pX "place" 6:=bu 6 ∅
theorem th:ab C n pX (.Name "pieces" pos) (a9 4):=bF 4 3 ∅ (by decide) ∅ ∅ ∅
theorem wg:ab C n pX (.Name "cells" pos) (a9 2):=bF 2 3 ∅ (by decide) ∅ ∅ ∅
theorem jV:ab C n pX (.Name "place" pos) (a9 6):=b9 6 ∅
theorem wG:ab C n pX (.Name "mates" pos) (a9 1):=bF 1 3 ∅ (by decide) ∅ ∅ ∅
def IR:SF:=(f_ 5 lD (aK false (a9 0)) (du 6) (cU bg (aY (cX [(aF (a9 4) (aj (aj (aF (a9 2) (a9 6)) (kI 60) (aS cN)) (kI 7) (aS cq))),(dx (bC (aF (a9 1) (a9 6)) (a9 6) (ef λx y=>decide (y<x))) (kS "(") (kS ")"))]))) false)
theorem K3(G:cI C)(h2:2≤n):aQ C n rQ (dE (ar (ay 67)) 1) IR:=(gz false (bx ∅ h2 (λzz zz=>rfl) (bN _ _ _ _ _ _) (c5 yn) (bM vj) cG (bZ (cY (ag rfl (bj th (av (av (bj wg jV (λzz zz=>rfl)) am eM) am dk) (λzz zz=>rfl)) (ag rfl (fV (cj (bj wG jV (λzz zz=>rfl)) jV Kr ∅) bT bT) ae))))) y5 (eY ∅ ∅ ∅ ∅))
theorem zM:ab C n rQ (.Name "picked" pos) (a9 5):=b9 5 ∅
abbrev Ag:Scope:=jM [(".0",.local),("piece",.local),("sign",.local),("unit",.local),("shorn",.free)]
abbrev lI:Cx:=bR rQ Ag
theorem vC:aA C lI "piece" 6:=bu 6 ∅
theorem yJ:aA C lI "sign" 7:=bu 7 ∅
theorem wZ:ab C n lI (.Name "shorn" pos) (a9 3):=bF 3 3 ∅ (by decide) ∅ ∅ ∅
theorem oA:ab C n lI (.Name "piece" pos) (a9 6):=b9 6 ∅
theorem z6:ab C n lI (.Name "sign" pos) (a9 7):=b9 7 ∅
theorem yb:aA C lI "unit" 8:=bu 8 ∅
theorem z9:ab C n lI (.Name "unit" pos) (a9 8):=b9 8 ∅
def F_:SF:=(e_ (cb Ag (aK true (a9 5)) (jc 6 7) (cU bg (gf (aK false (aj (dx (FO (gu (a9 3)) (bC (cc (a9 6) ba (aL (kI 1))) (aV [(kS "\"")]) dH)) (aV []) (a9 6)) (aV [(a9 7)]) aT)) (du 8) (cU bg (aY (a9 8)))))))
theorem Hd(G:cI C)(h2:2≤n):aQ C n rQ (dE (ar (ay 67)) 2) F_:=(d8 (cD (bx ∅ h2 (λzz zz=>rfl) (iq _ _ _ _ _ _ _ _ _) (c5 zM) (eW vC yJ) cG (ko h2 (c5 (av (fV (Tt (iD (λzz zz=>rfl) wZ) (cj (dJ oA dC (cw am)) (bc (ag rfl bT ae)) dM ∅)) (bc ae) oA) (bc (ag rfl z6 ae)) br)) (bM yb) cG z9 (λzz zz=>rfl)))))
def f67:SF:=(ap Hf (ap IR (ap F_ aP)))
theorem b67(G:cI C)(h2:2≤n):cB C n rQ (ar (ay 67)) f67:=(ak (JJ G h2) (ak (K3 G h2) (ak (Hd G h2) aN)))
theorem c67(G:cI C)(h2:2≤n)(h:di C "_law_units" 67):aI C (n+1) "_law_units" (cy 4 (ao (ay 67)) f67):=
 gM ["places","mates","cells","shorn"] h (b67 G h2) (λzz zz zz=>Rz λzz zz zz zz=> ∅) ∅ ∅ ∅ ∅ ∅
noncomputable def bB:a_:=cy 4 (ao (ay 67)) f67
abbrev fW:Cx:=df (ao (ay 65))
theorem sV:aA C fW "roots" 3:=bu 3 ∅
abbrev Ar:Scope:=jM [(".0",.local),("place",.local)]
abbrev Jv:Cx:=bR fW Ar
theorem wh:aA C Jv "place" 10:=bu 10 ∅
theorem vd:ab C n Jv (.Name "place" pos) (a9 10):=b9 10 ∅
def By:SF:=(f_ 3 Ar (aK false (af [(kI 6)] cF)) (du 10) (cU bg (aY (aV [(a9 10)]))) false)
theorem H7(G:cI C)(h2:2≤n):aQ C n fW (dE (ar (ay 65)) 0) By:=(gz false (bx ∅ h2 (λzz zz=>rfl) (bN _ _ _ _ _ _) (c5 (co (fv:=.type "range") (G.no _ ∅) ∅ ∅ (bD _) dO (ag rfl am ae) (λzz=>rfl) (λzz=>rfl) ∅ ∅ ∅)) (bM wh) cG (bZ (bc (ag rfl vd ae)))) sV (eY ∅ ∅ ∅ ∅))
theorem si:aA C fW "parts" 4:=eS 4 ∅ ∅ ∅
abbrev Ae:Scope:=jM [(".0",.local),("place",.local),("min",.globalImplicit),("mates",.free)]
abbrev Av:Cx:=bR fW Ae
theorem xr:aA C Av "place" 10:=bu 10 ∅
theorem oF:ab C n Av (.Name "place" pos) (a9 10):=b9 10 ∅
theorem vE:ab C n Av (.Name "mates" pos) (a9 2):=bF 2 3 ∅ (by decide) ∅ ∅ ∅
def BV:SF:=(c6 4 (cb Ae (aK false (af [(kI 6)] cF)) (du 10) (cU bg (aY (af [(a9 10),(aF (a9 2) (a9 10))] Iy)))))
theorem Ft(G:cI C)(h2:2≤n):aQ C n fW (dE (ar (ay 65)) 1) BV:=(bE (cD (bx ∅ h2 (λzz zz=>rfl) (bN _ _ _ _ _ _) (c5 (co (fv:=.type "range") (G.no _ ∅) ∅ ∅ (bD _) dO (ag rfl am ae) (λzz=>rfl) (λzz=>rfl) ∅ ∅ ∅)) (bM xr) cG (bZ (co (fv:=.builtin "min") (G.no _ ∅) ∅ ∅ (bf _) Js (ag rfl oF (ag rfl (bj vE oF (λzz zz=>rfl)) ae)) (λzz=>rfl) (λzz=>rfl) ∅ ∅ ∅)))) si (oS ∅))
theorem DW:aA C fW "kinds" 5:=eS 5 ∅ ∅ ∅
def Bw:SF:=(c6 5 (oa []))
theorem Hk(G:cI C)(h2:2≤n):aQ C n fW (dE (ar (ay 65)) 2) Bw:=(bE (jx ae) DW (λzz zz=> ∅))
theorem FP:aA C fW "turn" 6:=bu 6 ∅
theorem kE:ab C n fW (.Name "total" pos) (a9 1):=b9 1 ∅
theorem YU:aA C fW "k" 7:=eS 7 ∅ ∅ ∅
theorem CL:ab C n fW (.Name "cells" pos) (a9 0):=b9 0 ∅
theorem wS:ab C n fW (.Name "turn" pos) (a9 6):=b9 6 ∅
theorem i7:ab C n fW (.Name "roots" pos) (a9 3):=b9 3 ∅
theorem eg:ab C n fW (.Name "kinds" pos) (a9 5):=bF 5 2 ∅ (by decide) ∅ ∅ ∅
theorem mX:ab C n fW (.Name "parts" pos) (a9 4):=bF 4 2 ∅ (by decide) ∅ ∅ ∅
theorem sG:ab C n fW (.Name "k" pos) (a9 7):=bF 7 2 ∅ (by decide) ∅ ∅ ∅
abbrev on:Scope:=jM [(".0",.local),("n",.local),("part",.local),("k",.free),("parts",.free)]
abbrev o9:Cx:=bR fW on
theorem NK:aA C o9 "n" 10:=bu 10 ∅
theorem zF:aA C o9 "part" 11:=bu 11 ∅
theorem Mc:ab C n o9 (.Name "n" pos) (a9 10):=b9 10 ∅
theorem tF:ab C n o9 (.Name "k" pos) (a9 7):=bF 7 3 ∅ (by decide) ∅ ∅ ∅
theorem qt:ab C n o9 (.Name "part" pos) (a9 11):=b9 11 ∅
theorem oH:ab C n o9 (.Name "parts" pos) (a9 4):=bF 4 3 ∅ (by decide) ∅ ∅ ∅
def Cr:SF:=(jI (aK false (af [(aF (aV [(kI 5),(kI 5),(kI 4),(kI 3)]) (aj (aj (a9 1) (kI 25) (aS cN)) (kI 4) (aS cq)))] cF)) (du 6) (ap (c6 7 (aj (aF (a9 0) (a9 6)) (aj (af [(a9 3)] dz) (kI 1) (aS λx y=>some (x-y))) (aS cq))) (ap (ci (d_ (a9 5) (dx (bC (aF (a9 4) (a9 7)) (aF (a9 4) (aj (a9 7) (kI 1) aT)) dH) (kI 274) (kI 272)))) (ap (c6 4 (cb on (b_ [(a9 4)] g9) (jc 10 11) (cU (bC (a9 10) (a9 7) po) (aY (dx (bC (a9 11) (aF (a9 4) (aj (a9 7) (kI 1) aT)) dH) (aF (a9 4) (a9 7)) (a9 11)))))) (ap (c6 3 (aj (aj (cc (a9 3) ba (aL (a9 7))) (aV [(aj (aj (aV [(aj (ju (kI 1)) (a9 6) (aS λx y=>some (x-y)))]) (aF (a9 3) (a9 7)) aT) (aF (a9 3) (aj (a9 7) (kI 1) aT)) aT)]) aT) (cc (a9 3) (aL (aj (a9 7) (kI 2) aT)) ba) aT)) aP)))) aP)
theorem Hc(G:cI C)(h2:2≤n):aQ C n fW (dE (ar (ay 65)) 3) Cr:=(gn h2 (c5 (co (fv:=.type "range") (G.no _ ∅) ∅ ∅ (bD _) dO (ag rfl (bj (bc (ag rfl am (ag rfl am (ag rfl am (ag rfl am ae))))) (av (av kE am eM) am dk) (λzz zz=>rfl)) ae) (λzz=>rfl) (λzz=>rfl) ∅ ∅ ∅)) (bM FP) (ak (bE (av (bj CL wS (λzz zz=>rfl)) (av (co (fv:=.builtin "len") (G.no _ ∅) ∅ ∅ (bf _) eR (ag rfl i7 ae) (λzz=>rfl) (λzz=>rfl) ∅ ∅ ∅) am i_) dk) YU (λzz zz=> ∅)) (ak (cK (cv (λzz=>rfl) eg (fV (cj (bj mX sG (λzz zz=>rfl)) (bj mX (av sG am br) (λzz zz=>rfl)) dM ∅) am am) (λzz=>rfl)) ∅ (λzz=>rfl)) (ak (bE (cD (bx ∅ h2 (λzz zz=>rfl) (bN _ _ _ _ _ _) (jW (fv:=.type "enumerate") (G.no _ ∅) ∅ ∅ (bD _) iO (ag rfl mX ae) (λzz=>rfl) (λzz=>rfl) ∅ ∅ ∅) (eW NK zF) (iY (cj Mc tF se ∅)) (bZ (fV (cj qt (bj oH (av tF am br) (λzz zz=>rfl)) dM ∅) (bj oH tF (λzz zz=>rfl)) qt)))) si (oS ∅)) (ak (bE (av (av (dJ i7 dC (cw sG)) (bc (ag rfl (av (av (bc (ag rfl (av (nk am) wS i_) ae)) (bj i7 sG (λzz zz=>rfl)) br) (bj i7 (av sG am br) (λzz zz=>rfl)) br) ae)) br) (dJ i7 (cw (av sG am br)) dC) br) sV (λzz zz=> ∅)) aN)))) aN (λzz zz=>rfl))
theorem Of:aA C fW "one" 8:=bu 8 ∅
theorem Ok:aA C fW "two" 9:=bu 9 ∅
def BG:SF:=(wy 8 9 (cX [(aj (aj (a9 1) (kI 100) (aS cN)) (af [(a9 5)] dz) (aS cq)),(aj (aj (a9 1) (kI 500) (aS cN)) (af [(a9 5)] dz) (aS cq))]))
theorem HP(G:cI C)(h2:2≤n):aQ C n fW (dE (ar (ay 65)) 4) BG:=(AD (cY (ag rfl (av (av kE am eM) (co (fv:=.builtin "len") (G.no _ ∅) ∅ ∅ (bf _) eR (ag rfl eg ae) (λzz=>rfl) (λzz=>rfl) ∅ ∅ ∅) dk) (ag rfl (av (av kE am eM) (co (fv:=.builtin "len") (G.no _ ∅) ∅ ∅ (bf _) eR (ag rfl eg ae) (λzz=>rfl) (λzz=>rfl) ∅ ∅ ∅) dk) ae))) Of Ok (λzz=>rfl) (wl ∅ ∅ ∅ ∅ ∅ ∅ ∅ ∅))
theorem AT:ab C n fW (.Name "two" pos) (a9 9):=b9 9 ∅
theorem my:ab C n fW (.Name "one" pos) (a9 8):=b9 8 ∅
def AL:SF:=(FB (cX [(aF (a9 5) (a9 9)),(aF (a9 5) (a9 8))]) (a9 5) (a9 8) (a9 5) (a9 9))
theorem Ke(G:cI C)(h2:2≤n):aQ C n fW (dE (ar (ay 65)) 5) AL:=(O0 (cY (ag rfl (bj eg AT (λzz zz=>rfl)) (ag rfl (bj eg my (λzz zz=>rfl)) ae))) eg my eg AT (λzz=>rfl) Ec)
def Ci:SF:=(UT (dx (bC (aj (aj (a9 1) (kI 2500) (aS cN)) (kI 4) (aS cq)) (kI 3) dH) (aj (kI 546) (aF (a9 5) (a9 8)) (aS λx y=>some (x-y))) (aF (a9 5) (a9 8))) (a9 5) (a9 8))
theorem Ib(G:cI C)(h2:2≤n):aQ C n fW (dE (ar (ay 65)) 6) Ci:=(Uf (fV (cj (av (av kE am eM) am dk) am dM ∅) (av am (bj eg my (λzz zz=>rfl)) i_) (bj eg my (λzz zz=>rfl))) eg my (λzz=>rfl))
abbrev qp:Scope:=jM [(".0",.local),("root",.local),("sign",.local),("kinds",.free),("mates",.free)]
abbrev n_:Cx:=bR fW qp
theorem yB:aA C n_ "root" 10:=bu 10 ∅
theorem yN:ab C n n_ (.Name "root" pos) (a9 10):=b9 10 ∅
theorem y0:aA C n_ "sign" 11:=bu 11 ∅
theorem jB:ab C n n_ (.Name "sign" pos) (a9 11):=b9 11 ∅
theorem vr:ab C n n_ (.Name "kinds" pos) (a9 5):=bF 5 3 ∅ (by decide) ∅ ∅ ∅
theorem xm:ab C n n_ (.Name "mates" pos) (a9 2):=bF 2 3 ∅ (by decide) ∅ ∅ ∅
def Bk:SF:=(e_ (aj (cb qp (aK false (a9 3)) (du 10) (cU bg (gf (aK false (a9 10)) (du 11) (cU bg (aY (dx (bC (a9 11) (kI 0) (ef λx y=>decide (x<y))) (aF (a9 5) (aj (ju (kI 1)) (a9 11) (aS λx y=>some (x-y)))) (dx (bC (aF (a9 2) (a9 11)) (a9 11) (ef λx y=>decide (y<x))) (kI 7) (kI 8)))))))) (aV [(kI 0)]) aT))
theorem Hg(G:cI C)(h2:2≤n):aQ C n fW (dE (ar (ay 65)) 7) Bk:=(d8 (av (cD (bx ∅ h2 (λzz zz=>rfl) (iq _ _ _ _ _ _ _ _ _) (c5 i7) (bM yB) cG (ko h2 (c5 yN) (bM y0) cG (fV (cj jB am rq ∅) (bj vr (av (nk am) jB i_) (λzz zz=>rfl)) (fV (cj (bj xm jB (λzz zz=>rfl)) jB Kr ∅) am am)) (λzz zz=>rfl)))) (bc (ag rfl am ae)) br))
def f65:SF:=(ap By (ap BV (ap Bw (ap Cr (ap BG (ap AL (ap Ci (ap Bk aP))))))))
theorem b65(G:cI C)(h2:2≤n):cB C n fW (ar (ay 65)) f65:=(ak (H7 G h2) (ak (Ft G h2) (ak (Hk G h2) (ak (Hc G h2) (ak (HP G h2) (ak (Ke G h2) (ak (Ib G h2) (ak (Hg G h2) aN))))))))
theorem c65(G:cI C)(h2:2≤n)(h:di C "_law_numbers" 65):aI C (n+1) "_law_numbers" (cy 3 (ao (ay 65)) f65):=
 gM ["cells","total","mates"] h (b65 G h2) (λzz zz zz=>PH λzz zz zz=> ∅) ∅ ∅ ∅ ∅ ∅
noncomputable def gv:a_:=cy 3 (ao (ay 65)) f65
end
section
abbrev tq:Cx:=df (ao (ay 2))
theorem kL:ab C n tq (.Name "addr" pos) (a9 0):=b9 0 ∅
def Gk:SF:=(jC (bC (kS "\"") (a9 0) lB) (ap (e_ (a9 0)) aP) aP)
theorem LW(G:cI C)(h2:2≤n):aQ C n tq (dE (ar (ay 2)) 0) Gk:=(g8 (cj bT kL xB ∅) (ak (d8 kL) aN) aN)
theorem xE:aA C tq "start" 1:=bu 1 ∅
def Tn:SF:=(c6 1 (kI 0))
theorem NG(G:cI C)(h2:2≤n):aQ C n tq (dE (ar (ay 2)) 1) Tn:=(bE am xE (λzz zz=> ∅))
theorem kx:aA C tq "open_pos" 2:=bu 2 ∅
def Uk:SF:=(c6 2 kN)
theorem Nh(G:cI C)(h2:2≤n):aQ C n tq (dE (ar (ay 2)) 2) Uk:=(bE yR kx (λzz zz=> ∅))
theorem Dn:aA C tq "result" 3:=bu 3 ∅
def LZ:SF:=(c6 3 (oa []))
theorem N_(G:cI C)(h2:2≤n):aQ C n tq (dE (ar (ay 2)) 3) LZ:=(bE (jx ae) Dn (λzz zz=> ∅))
theorem S_:aA C tq "pos" 4:=bu 4 ∅
theorem Yb:aA C tq "ch" 5:=bu 5 ∅
theorem ad4:ab C n tq (.Name "ch" pos) (a9 5):=b9 5 ∅
theorem jO:ab C n tq (.Name "open_pos" pos) (a9 2):=b9 2 ∅
theorem HJ:ab C n tq (.Name "pos" pos) (a9 4):=b9 4 ∅
theorem m6:ab C n tq (.Name "start" pos) (a9 1):=b9 1 ∅
theorem n8:ab C n tq (.Name "result" pos) (a9 3):=b9 3 ∅
def MD:SF:=(jI (b_ [(a9 0)] aE) (jc 4 5) (ap (jC (bC (a9 5) (kS "\"") dH) (ap (jC (bC (a9 2) kN L6) (ap (c6 2 (a9 4)) aP) (ap (jC (bC (a9 1) (a9 2) po) (ap (ci (d_ (a9 3) (cc (a9 0) (aL (a9 1)) (aL (a9 2))))) aP) aP) (ap (c6 1 (aj (a9 4) (kI 1) aT)) (ap (c6 2 kN) aP)))) aP) aP) aP) aP)
theorem Me(G:cI C)(h2:2≤n)(h_iter_escaped_chars:gL C n "_iter_escaped_chars" aE):aQ C n tq (dE (ar (ay 2)) 4) MD:=(gn h2 (yr h_iter_escaped_chars (ag rfl kL ae) (λzz=>rfl) ∅ ∅ ∅) (eW S_ Yb) (ak (g8 (cj ad4 bT dM ∅) (ak (g8 (cj jO yR wz ∅) (ak (bE HJ kx (λzz zz=> ∅)) aN) (ak (g8 (cj m6 jO se ∅) (ak (cK (cv (λzz=>rfl) n8 (dJ kL (cw m6) (cw jO)) (λzz=>rfl)) ∅ (λzz=>rfl)) aN) aN) (ak (bE (av HJ am br) xE (λzz zz=> ∅)) (ak (bE yR kx (λzz zz=> ∅)) aN)))) aN) aN) aN) aN (λzz zz=>rfl))
def Nr:SF:=(jC (bC (a9 1) (af [(a9 0)] dz) (ef λx y=>decide (x<y))) (ap (ci (d_ (a9 3) (cc (a9 0) (aL (a9 1)) ba))) aP) aP)
theorem OZ(G:cI C)(h2:2≤n)(h_iter_escaped_chars:gL C n "_iter_escaped_chars" aE):aQ C n tq (dE (ar (ay 2)) 5) Nr:=(g8 (cj m6 (co (fv:=.builtin "len") (G.no _ ∅) ∅ ∅ (bf _) eR (ag rfl kL ae) (λzz=>rfl) (λzz=>rfl) ∅ ∅ ∅) rq ∅) (ak (cK (cv (λzz=>rfl) n8 (dJ kL (cw m6) dC) (λzz=>rfl)) ∅ (λzz=>rfl)) aN) aN)
def MN:SF:=(e_ (dv (kS "") [(a9 3)] fc))
theorem Nj(G:cI C)(h2:2≤n)(h_iter_escaped_chars:gL C n "_iter_escaped_chars" aE):aQ C n tq (dE (ar (ay 2)) 6) MN:=(d8 (fQ (λzz=>rfl) JE JH gU bT (ag rfl n8 ae) (λzz=>rfl) (λzz=>rfl)))
def f2:SF:=(ap Gk (ap Tn (ap Uk (ap LZ (ap MD (ap Nr (ap MN aP)))))))
theorem b2(G:cI C)(h2:2≤n)(h_iter_escaped_chars:gL C n "_iter_escaped_chars" aE):cB C n tq (ar (ay 2)) f2:=(ak (LW G h2) (ak (NG G h2) (ak (Nh G h2) (ak (N_ G h2) (ak (Me G h2 h_iter_escaped_chars) (ak (OZ G h2 h_iter_escaped_chars) (ak (Nj G h2 h_iter_escaped_chars) aN)))))))
theorem c2(G:cI C)(h2:2≤n)(h_iter_escaped_chars:gL C n "_iter_escaped_chars" aE)(h:di C "_strip_quoted_realnames" 2):aI C (n+1) "_strip_quoted_realnames" (cy 1 (ao (ay 2)) f2):=
 gM ["addr"] h (b2 G h2 h_iter_escaped_chars) (λzz zz zz=>jG λzz=> ∅) ∅ ∅ ∅ ∅ ∅
noncomputable def aM:a_:=cy 1 (ao (ay 2)) f2
abbrev Fg:Cx:=df (ao (ay 3))
theorem Pf:aA C Fg "addr" 0:=bu 0 ∅
theorem C4:ab C n Fg (.Name "addr" pos) (a9 0):=b9 0 ∅
def Pa:SF:=(c6 0 (af [(a9 0)] aM))
theorem Pu(G:cI C)(h2:2≤n)(h_strip_quoted_realnames:aI C n "_strip_quoted_realnames" aM):aQ C n Fg (dE (ar (ay 3)) 0) Pa:=(bE (ce h_strip_quoted_realnames (ag rfl C4 ae) (λzz=>rfl) ∅ ∅ ∅) Pf (λzz zz=> ∅))
theorem IQ:aA C Fg "opens" 1:=bu 1 ∅
def U4:SF:=(c6 1 (kI 0))
theorem OR(G:cI C)(h2:2≤n)(h_strip_quoted_realnames:aI C n "_strip_quoted_realnames" aM):aQ C n Fg (dE (ar (ay 3)) 1) U4:=(bE am IQ (λzz zz=> ∅))
theorem Vv:aA C Fg "pos" 2:=bu 2 ∅
theorem XR:aA C Fg "ch" 3:=bu 3 ∅
theorem Sd:ab C n Fg (.Name "ch" pos) (a9 3):=b9 3 ∅
theorem xc:ab C n Fg (.Name "opens" pos) (a9 1):=b9 1 ∅
def MR:SF:=(jI (b_ [(a9 0)] aE) (jc 2 3) (ap (jC (bC (a9 3) (kS "(") dH) (ap (ie 1 (kI 1) AJ) aP) (ap (jC (bC (a9 3) (kS ")") dH) (ap (ie 1 (kI 1) Az) (ap (jC (bC (a9 1) (kI 0) (ef λx y=>decide (x<y))) (ap (e_ (kB false)) aP) aP) aP)) aP) aP)) aP) aP)
theorem Ph(G:cI C)(h2:2≤n)(h_strip_quoted_realnames:aI C n "_strip_quoted_realnames" aM)(h_iter_escaped_chars:gL C n "_iter_escaped_chars" aE):aQ C n Fg (dE (ar (ay 3)) 2) MR:=(gn h2 (yr h_iter_escaped_chars (ag rfl C4 ae) (λzz=>rfl) ∅ ∅ ∅) (eW Vv XR) (ak (g8 (cj Sd bT dM ∅) (ak (o3 (i:=1) ∅ ∅ ∅ am NR) aN) (ak (g8 (cj Sd bT dM ∅) (ak (o3 (i:=1) ∅ ∅ ∅ am NQ) (ak (g8 (cj xc am rq ∅) (ak (d8 dh) aN) aN) aN)) aN) aN)) aN) aN (λzz zz=>rfl))
def Ve:SF:=(e_ (dY (a9 1) (kI 0) dH))
theorem Od(G:cI C)(h2:2≤n)(h_strip_quoted_realnames:aI C n "_strip_quoted_realnames" aM)(h_iter_escaped_chars:gL C n "_iter_escaped_chars" aE):aQ C n Fg (dE (ar (ay 3)) 3) Ve:=(d8 (fq xc am dM ∅))
def f3:SF:=(ap Pa (ap U4 (ap MR (ap Ve aP))))
theorem b3(G:cI C)(h2:2≤n)(h_strip_quoted_realnames:aI C n "_strip_quoted_realnames" aM)(h_iter_escaped_chars:gL C n "_iter_escaped_chars" aE):cB C n Fg (ar (ay 3)) f3:=(ak (Pu G h2 h_strip_quoted_realnames) (ak (OR G h2 h_strip_quoted_realnames) (ak (Ph G h2 h_strip_quoted_realnames h_iter_escaped_chars) (ak (Od G h2 h_strip_quoted_realnames h_iter_escaped_chars) aN))))
theorem c3(G:cI C)(h2:2≤n)(h_strip_quoted_realnames:aI C n "_strip_quoted_realnames" aM)(h_iter_escaped_chars:gL C n "_iter_escaped_chars" aE)(h:di C "_check_parenthesis" 3):aI C (n+1) "_check_parenthesis" (cy 1 (ao (ay 3)) f3):=
 gM ["addr"] h (b3 G h2 h_strip_quoted_realnames h_iter_escaped_chars) (λzz zz zz=>jG λzz=> ∅) ∅ ∅ ∅ ∅ ∅
noncomputable def aq:a_:=cy 1 (ao (ay 3)) f3
abbrev Om:Cx:=df (ao (ay 4))
theorem lH:aA C Om "accepted_values" 1:=bu 1 ∅
def OS:SF:=(c6 1 (oa []))
theorem PB(G:cI C)(h2:2≤n):aQ C n Om (dE (ar (ay 4)) 0) OS:=(bE (jx ae) lH (λzz zz=> ∅))
theorem YL:aA C Om "v" 2:=bu 2 ∅
theorem jw:ab C n Om (.Name "email_header_fields" pos) (a9 0):=b9 0 ∅
theorem Zu:ab C n Om (.Name "v" pos) (a9 2):=b9 2 ∅
theorem iy:ab C n Om (.Name "accepted_values" pos) (a9 1):=b9 1 ∅
def Mi:SF:=(jI (aK false (a9 0)) (du 2) (ap (jC (tV (gu (af [(a9 2)] aq))) (ap (c6 2 (kS "('', '')")) aP) aP) (ap (ci (d_ (a9 1) (a9 2))) aP)) aP)
theorem OT(G:cI C)(h2:2≤n)(h_check_parenthesis:aI C n "_check_parenthesis" aq):aQ C n Om (dE (ar (ay 4)) 1) Mi:=(gn h2 (c5 jw) (bM YL) (ak (g8 (HG (iD (λzz zz=>rfl) (ce h_check_parenthesis (ag rfl Zu ae) (λzz=>rfl) ∅ ∅ ∅))) (ak (bE bT YL (λzz zz=> ∅)) aN) aN) (ak (cK (cv (λzz=>rfl) iy Zu (λzz=>rfl)) ∅ (λzz=>rfl)) aN)) aN (λzz zz=>rfl))
def YQ:SF:=(e_ (a9 1))
theorem NA(G:cI C)(h2:2≤n)(h_check_parenthesis:aI C n "_check_parenthesis" aq):aQ C n Om (dE (ar (ay 4)) 2) YQ:=(d8 iy)
def f4:SF:=(ap OS (ap Mi (ap YQ aP)))
theorem b4(G:cI C)(h2:2≤n)(h_check_parenthesis:aI C n "_check_parenthesis" aq):cB C n Om (ar (ay 4)) f4:=(ak (PB G h2) (ak (OT G h2 h_check_parenthesis) (ak (NA G h2 h_check_parenthesis) aN)))
theorem c4(G:cI C)(h2:2≤n)(h_check_parenthesis:aI C n "_check_parenthesis" aq)(h:di C "_pre_parse_validation" 4):aI C (n+1) "_pre_parse_validation" (cy 1 (ao (ay 4)) f4):=
 gM ["email_header_fields"] h (b4 G h2 h_check_parenthesis) (λzz zz zz=>jG λzz=> ∅) ∅ ∅ ∅ ∅ ∅
noncomputable def aX:a_:=cy 1 (ao (ay 4)) f4
end
section
abbrev lq:Cx:=df (ao (ay 68))
theorem zn:aA C lq "number" 2:=bu 2 ∅
theorem rg:ab C n lq (.Name "tape" pos) (a9 0):=b9 0 ∅
def xh(aC:a_):SF:=(c6 2 (af [(a9 0)] aR))
theorem KF{aC:a_}(G:cI C)(h2:2≤n)(h_parse_varint:aI C n "_parse_varint" aR):aQ C n lq (dE (ar (ay 68)) 0) (xh aC):=(bE (ce h_parse_varint (ag rfl rg ae) (λzz=>rfl) ∅ ∅ ∅) zn (λzz zz=> ∅))
theorem lR:ab C n lq (.Name "told" pos) (a9 1):=b9 1 ∅
theorem ic:ab C n lq (.Name "number" pos) (a9 2):=b9 2 ∅
def vx(aC:a_):SF:=(ci (d_ (a9 1) (a9 2)))
theorem KA{aC:a_}(G:cI C)(h2:2≤n)(h_parse_varint:aI C n "_parse_varint" aR):aQ C n lq (dE (ar (ay 68)) 1) (vx aC):=(cK (cv (λzz=>rfl) lR ic (λzz=>rfl)) ∅ (λzz=>rfl))
def lg(aC:a_):SF:=(jC (gu (af [(a9 2)] fB)) (ap (e_ (cX [])) aP) aP)
theorem FY{aC:a_}(G:cI C)(h2:2≤n)(h_parse_varint:aI C n "_parse_varint" aR)(hISEOF:aI C n "ISEOF" fB):aQ C n lq (dE (ar (ay 68)) 2) (lg aC):=(g8 (iD (λzz zz=>rfl) (ce hISEOF (ag rfl ic ae) (λzz=>rfl) ∅ ∅ ∅)) (ak (d8 (cY ae)) aN) aN)
theorem Hb:aA C lq "left" 3:=bu 3 ∅
theorem DC:aA C lq "right" 4:=bu 4 ∅
theorem wK:ab C n lq (.Name "left" pos) (a9 3):=b9 3 ∅
theorem su:ab C n lq (.Name "right" pos) (a9 4):=b9 4 ∅
def ou(aC:a_):SF:=(jC (gu (af [(a9 2)] bQ)) (ap (c6 3 (af [(a9 0),(a9 1)] aC)) (ap (c6 4 (af [(a9 0),(a9 1)] aC)) (ap (e_ (cX [(aj (a9 2) (kI 256) (aS λx y=>some (x-y))),(aj (aF (a9 3) (kI 1)) (aF (a9 4) (kI 1)) aT),(a9 3),(a9 4)])) aP))) aP)
theorem Jc{aC:a_}(G:cI C)(h2:2≤n)(h_parse_varint:aI C n "_parse_varint" aR)(hISEOF:aI C n "ISEOF" fB)(hISNONTERMINAL:aI C n "ISNONTERMINAL" bQ)(h_law_formula:aI C n "_law_formula" aC):aQ C n lq (dE (ar (ay 68)) 3) (ou aC):=(g8 (iD (λzz zz=>rfl) (ce hISNONTERMINAL (ag rfl ic ae) (λzz=>rfl) ∅ ∅ ∅)) (ak (bE (ce h_law_formula (ag rfl rg (ag rfl lR ae)) (λzz=>rfl) ∅ ∅ ∅) Hb (λzz zz=> ∅)) (ak (bE (ce h_law_formula (ag rfl rg (ag rfl lR ae)) (λzz=>rfl) ∅ ∅ ∅) DC (λzz zz=> ∅)) (ak (d8 (cY (ag rfl (av ic am i_) (ag rfl (av (bj wK am (λzz zz=>rfl)) (bj su am (λzz zz=>rfl)) br) (ag rfl wK (ag rfl su ae)))))) aN))) aN)
abbrev tH:Scope:=jM [(".0",.local),("one",.local),("ISTERMINAL",.globalImplicit)]
abbrev H6:Cx:=bR lq tH
theorem EJ:aA C H6 "one" 5:=bu 5 ∅
theorem t8:ab C n H6 (.Name "one" pos) (a9 5):=b9 5 ∅
def t4(aC:a_):SF:=(e_ (cX [(a9 2),(aV [(aj (af [(cb tH (aK false (a9 1)) (du 5) (cU (gu (af [(a9 5)] cm)) (aY (a9 5))))] dz) (kI 1) (aS λx y=>some (x-y)))])]))
theorem Kx{aC:a_}(G:cI C)(h2:2≤n)(h_parse_varint:aI C n "_parse_varint" aR)(hISEOF:aI C n "ISEOF" fB)(hISNONTERMINAL:aI C n "ISNONTERMINAL" bQ)(h_law_formula:aI C n "_law_formula" aC)(hISTERMINAL:aI C n "ISTERMINAL" cm):aQ C n lq (dE (ar (ay 68)) 4) (t4 aC):=(d8 (cY (ag rfl ic (ag rfl (bc (ag rfl (av (co (fv:=.builtin "len") (G.no _ ∅) ∅ ∅ (bf _) eR (ag rfl (cD (bx ∅ h2 (λzz zz=>rfl) (bN _ _ _ _ _ _) (c5 lR) (bM EJ) (iY (iD (λzz zz=>rfl) (ce hISTERMINAL (ag rfl t8 ae) (λzz=>rfl) ∅ ∅ ∅))) (bZ t8))) ae) (λzz=>rfl) (λzz=>rfl) ∅ ∅ ∅) am i_) ae)) ae))))
def f68(aC:a_):SF:=(ap (xh aC) (ap (vx aC) (ap (lg aC) (ap (ou aC) (ap (t4 aC) aP)))))
theorem b68{aC:a_}(G:cI C)(h2:2≤n)(h_parse_varint:aI C n "_parse_varint" aR)(hISEOF:aI C n "ISEOF" fB)(hISNONTERMINAL:aI C n "ISNONTERMINAL" bQ)(h_law_formula:aI C n "_law_formula" aC)(hISTERMINAL:aI C n "ISTERMINAL" cm):cB C n lq (ar (ay 68)) (f68 aC):=(ak (KF G h2 h_parse_varint) (ak (KA G h2 h_parse_varint) (ak (FY G h2 h_parse_varint hISEOF) (ak (Jc G h2 h_parse_varint hISEOF hISNONTERMINAL h_law_formula) (ak (Kx G h2 h_parse_varint hISEOF hISNONTERMINAL h_law_formula hISTERMINAL) aN)))))
theorem c68{aC:a_}(G:cI C)(h2:2≤n)(h_parse_varint:aI C n "_parse_varint" aR)(hISEOF:aI C n "ISEOF" fB)(hISNONTERMINAL:aI C n "ISNONTERMINAL" bQ)(h_law_formula:aI C n "_law_formula" aC)(hISTERMINAL:aI C n "ISTERMINAL" cm)(h:di C "_law_formula" 68):aI C (n+1) "_law_formula" (cy 2 (ao (ay 68)) (f68 aC)):=
 gM ["tape","told"] h (b68 G h2 h_parse_varint hISEOF hISNONTERMINAL h_law_formula hISTERMINAL) (λzz zz zz=>Jd λzz zz=> ∅) ∅ ∅ ∅ ∅ ∅
noncomputable def wA:Nat→a_
 |0=> λzz zz=>none
 |m+1=>cy 2 (ao (ay 68)) (f68 (wA m))
theorem d68(G:cI C)(h2:2≤n)(h_parse_varint:aI C n "_parse_varint" aR)(hISEOF:aI C n "ISEOF" fB)(hISNONTERMINAL:aI C n "ISNONTERMINAL" bQ)(hISTERMINAL:aI C n "ISTERMINAL" cm)(h:di C "_law_formula" 68):∀m,aI C (n+m) "_law_formula" (wA m)
 |0=>tL h
 |m+1=>c68 G (KQ h2 (Fj ..)) (h_parse_varint.mono (Fj ..)) (hISEOF.mono (Fj ..)) (hISNONTERMINAL.mono (Fj ..)) (d68 G h2 h_parse_varint hISEOF hISNONTERMINAL hISTERMINAL h m) (hISTERMINAL.mono (Fj ..)) h
noncomputable def aC:a_:=wA 12
abbrev dQ:Cx:=df (ao (ay 70))
theorem Fu:aA C dQ "turn" 4:=bu 4 ∅
theorem C_:aA C dQ "roots" 0:=eS 0 ∅ ∅ ∅
theorem fC:ab C n dQ (.Name "roots" pos) (a9 0):=bF 0 2 ∅ (by decide) ∅ ∅ ∅
abbrev ta:Scope:=jM [(".0",.local),("one",.local),("part",.local),("EXACT_TOKEN_TYPES",.globalImplicit)]
abbrev ua:Cx:=bR dQ ta
theorem De:aA C ua "one" 16:=bu 16 ∅
theorem nE:ab C n ua (.Name "one" pos) (a9 16):=b9 16 ∅
theorem yC:aA C ua "part" 17:=bu 17 ∅
theorem zr:ab C n ua (.Name "part" pos) (a9 17):=b9 17 ∅
def BM(aO:a_):SF:=(jI (aK false (af [(kI 5)] cF)) (du 4) (ap (c6 0 (cb ta (aK false (a9 0)) (du 16) (cU bg (gf (aK false (dx (bC (aF (a9 16) (kI 0)) (jF kc (kS "|")) dH) (cc (a9 16) (aL (kI 2)) ba) (cX [(a9 16)]))) (du 17) (cU bg (aY (a9 17))))))) aP) aP)
theorem Ks{aO:a_}(G:cI C)(h2:2≤n):aQ C n dQ (dE (ar (ay 70)) 0) (BM aO):=(gn h2 (c5 (co (fv:=.type "range") (G.no _ ∅) ∅ ∅ (bD _) dO (ag rfl am ae) (λzz=>rfl) (λzz=>rfl) ∅ ∅ ∅)) (bM Fu) (ak (bE (cD (bx ∅ h2 (λzz zz=>rfl) (iq _ _ _ _ _ _ _ _ _) (c5 fC) (bM De) cG (ko h2 (c5 (fV (cj (bj nE am (λzz zz=>rfl)) (KB G bT (λzz zz=>rfl) ∅ ∅) dM ∅) (dJ nE (cw am) dC) (cY (ag rfl nE ae)))) (bM yC) cG zr (λzz zz=>rfl)))) C_ (oS ∅)) aN) aN (λzz zz=>rfl))
abbrev uX:Scope:=jM [(".0",.local),("one",.local),("len",.globalImplicit)]
abbrev IS:Cx:=bR dQ uX
theorem Ee:aA C IS "one" 16:=bu 16 ∅
theorem CW:ab C n IS (.Name "one" pos) (a9 16):=b9 16 ∅
theorem Kg:aA C dQ "pair" 6:=bu 6 ∅
abbrev xS:Scope:=jM [(".0",.local),("places",.local),("_law_units",.globalImplicit),("cells",.free),("mates",.free)]
abbrev v0:Cx:=bR dQ xS
theorem uz:aA C v0 "places" 16:=bu 16 ∅
theorem ux:ab C n v0 (.Name "places" pos) (a9 16):=b9 16 ∅
theorem xy:ab C n v0 (.Name "mates" pos) (a9 1):=bF 1 3 ∅ (by decide) ∅ ∅ ∅
theorem vF:ab C n v0 (.Name "cells" pos) (a9 2):=bF 2 3 ∅ (by decide) ∅ ∅ ∅
theorem ky:ab C n dQ (.Name "asked" pos) (a9 3):=b9 3 ∅
theorem vy:ab C n dQ (.Name "pair" pos) (a9 6):=b9 6 ∅
def sK(aO:a_):SF:=(jC (bC (cb uX (aK false (a9 0)) (du 16) (cU bg (aY (af [(a9 16)] dz)))) (aV [(kI 2),(kI 2)]) dH) (ap (f_ 6 xS (aK false (cX [(aj (aF (aF (a9 0) (kI 0)) (kI 1)) (aF (aF (a9 0) (kI 1)) (kI 1)) aT),(aj (aF (aF (a9 0) (kI 1)) (kI 1)) (aF (aF (a9 0) (kI 0)) (kI 1)) aT)])) (du 16) (cU bg (aY (dv (kS "") [(af [(a9 16),(a9 1),(a9 2),(kB false)] bB)] fc))) false) (ap (ci (d_ (a9 3) (cX [(aV [(dY (af [(aF (a9 6) (kI 0))] aq) (kB true) L6),(dY (af [(aF (a9 6) (kI 1))] aq) (kB false) L6)]),(aV [(kB true),(kB true)])]))) (ap (e_ (kB true)) aP))) aP)
theorem Jl{aO:a_}(G:cI C)(h2:2≤n)(h_law_units:aI C n "_law_units" bB)(h_check_parenthesis:aI C n "_check_parenthesis" aq):aQ C n dQ (dE (ar (ay 70)) 1) (sK aO):=(g8 (cj (cD (bx ∅ h2 (λzz zz=>rfl) (bN _ _ _ _ _ _) (c5 fC) (bM Ee) cG (bZ (co (fv:=.builtin "len") (G.no _ ∅) ∅ ∅ (bf _) eR (ag rfl CW ae) (λzz=>rfl) (λzz=>rfl) ∅ ∅ ∅)))) (bc (ag rfl am (ag rfl am ae))) dM ∅) (ak (gz false (bx ∅ h2 (λzz zz=>rfl) (bN _ _ _ _ _ _) (c5 (cY (ag rfl (av (bj (bj fC am (λzz zz=>rfl)) am (λzz zz=>rfl)) (bj (bj fC am (λzz zz=>rfl)) am (λzz zz=>rfl)) br) (ag rfl (av (bj (bj fC am (λzz zz=>rfl)) am (λzz zz=>rfl)) (bj (bj fC am (λzz zz=>rfl)) am (λzz zz=>rfl)) br) ae)))) (bM uz) cG (bZ (fQ (λzz=>rfl) JE JH gU bT (ag rfl (ce h_law_units (ag rfl ux (ag rfl xy (ag rfl vF (ag rfl dh ae)))) (λzz=>rfl) ∅ ∅ ∅) ae) (λzz=>rfl) (λzz=>rfl)))) Kg (eY ∅ ∅ ∅ ∅)) (ak (cK (cv (λzz=>rfl) ky (cY (ag rfl (bc (ag rfl (fq (ce h_check_parenthesis (ag rfl (bj vy am (λzz zz=>rfl)) ae) (λzz=>rfl) ∅ ∅ ∅) dh wz ∅) (ag rfl (fq (ce h_check_parenthesis (ag rfl (bj vy am (λzz zz=>rfl)) ae) (λzz=>rfl) ∅ ∅ ∅) dh wz ∅) ae))) (ag rfl (bc (ag rfl dh (ag rfl dh ae))) ae))) (λzz=>rfl)) ∅ (λzz=>rfl)) (ak (d8 dh) aN))) aN)
theorem Z3:aA C dQ "k" 7:=eS 7 ∅ ∅ ∅
theorem Mh:aA C dQ "one" 5:=eS 5 ∅ ∅ ∅
theorem Nf:ab C n dQ (.Name "one" pos) (a9 5):=bF 5 2 ∅ (by decide) ∅ ∅ ∅
theorem HU:aA C dQ "ways" 8:=bu 8 ∅
theorem Qj:ab C n dQ (.Name "k" pos) (a9 7):=bF 7 2 ∅ (by decide) ∅ ∅ ∅
abbrev nU:Scope:=jM [(".0",.local),("j",.local),("k",.free),("one",.free),("roots",.free)]
abbrev rG:Cx:=bR dQ nU
theorem NF:aA C rG "j" 16:=bu 16 ∅
theorem kt:ab C n rG (.Name "roots" pos) (a9 0):=bF 0 3 ∅ (by decide) ∅ ∅ ∅
theorem BS:ab C n rG (.Name "j" pos) (a9 16):=b9 16 ∅
theorem Bq:ab C n rG (.Name "k" pos) (a9 7):=bF 7 3 ∅ (by decide) ∅ ∅ ∅
theorem sH:ab C n rG (.Name "one" pos) (a9 5):=bF 5 3 ∅ (by decide) ∅ ∅ ∅
theorem qL:ab C n dQ (.Name "ways" pos) (a9 8):=b9 8 ∅
abbrev o6:Scope:=jM [(".0",.local),("j",.local),("k",.free),("one",.free),("roots",.free)]
abbrev pO:Cx:=bR dQ o6
theorem O_:aA C pO "j" 16:=bu 16 ∅
theorem t6:ab C n pO (.Name "one" pos) (a9 5):=bF 5 3 ∅ (by decide) ∅ ∅ ∅
theorem jY:ab C n pO (.Name "roots" pos) (a9 0):=bF 0 3 ∅ (by decide) ∅ ∅ ∅
theorem Cj:ab C n pO (.Name "k" pos) (a9 7):=bF 7 3 ∅ (by decide) ∅ ∅ ∅
theorem BN:ab C n pO (.Name "j" pos) (a9 16):=b9 16 ∅
theorem rY:aA C dQ "stretches" 10:=bu 10 ∅
abbrev om:Scope:=jM [(".0",.local),("way",.local)]
abbrev yS:Cx:=bR dQ om
theorem DX:aA C yS "way" 16:=bu 16 ∅
theorem E5:ab C n yS (.Name "way" pos) (a9 16):=b9 16 ∅
abbrev nz:Scope:=jM [(".0",.local),("part",.local),("place",.local)]
abbrev uB:Cx:=bR yS nz
theorem yT:aA C uB "part" 17:=bu 17 ∅
theorem As:ab C n uB (.Name "part" pos) (a9 17):=b9 17 ∅
theorem v_:aA C uB "place" 18:=bu 18 ∅
theorem vJ:ab C n uB (.Name "place" pos) (a9 18):=b9 18 ∅
theorem CX:aA C dQ "texts" 11:=bu 11 ∅
theorem ll:ab C n dQ (.Name "stretches" pos) (a9 10):=b9 10 ∅
abbrev r8:Scope:=jM [(".0",.local),("stretch",.local),("_law_units",.globalImplicit),("cells",.free),("mates",.free)]
abbrev v4:Cx:=bR dQ r8
theorem rS:aA C v4 "stretch" 16:=bu 16 ∅
theorem rM:ab C n v4 (.Name "stretch" pos) (a9 16):=b9 16 ∅
theorem vN:ab C n v4 (.Name "mates" pos) (a9 1):=bF 1 3 ∅ (by decide) ∅ ∅ ∅
theorem xD:ab C n v4 (.Name "cells" pos) (a9 2):=bF 2 3 ∅ (by decide) ∅ ∅ ∅
theorem zS:aA C dQ "handed" 12:=bu 12 ∅
theorem kF:ab C n dQ (.Name "texts" pos) (a9 11):=b9 11 ∅
theorem Jk:aA C dQ "told" 13:=bu 13 ∅
theorem qG:ab C n dQ (.Name "handed" pos) (a9 12):=b9 12 ∅
theorem rD:ab C n dQ (.Name "told" pos) (a9 13):=b9 13 ∅
abbrev mW:Scope:=jM [(".0",.local),("text",.local),("stretch",.local),("sorted",.globalImplicit),("mates",.free)]
abbrev qU:Cx:=bR dQ mW
theorem Aq:aA C qU "text" 16:=bu 16 ∅
theorem rZ:aA C qU "stretch" 17:=bu 17 ∅
theorem li:ab C n qU (.Name "stretch" pos) (a9 17):=b9 17 ∅
abbrev lA:Scope:=jM [(".0",.local),("place",.local),("mates",.free)]
abbrev yl:Cx:=bR qU lA
theorem wQ:aA C yl "place" 18:=bu 18 ∅
theorem xC:ab C n yl (.Name "mates" pos) (a9 1):=bF 1 3 ∅ (by decide) ∅ ∅ ∅
theorem vI:ab C n yl (.Name "place" pos) (a9 18):=b9 18 ∅
theorem yV:ab C n qU (.Name "text" pos) (a9 16):=b9 16 ∅
theorem Ni:aA C dQ "way" 9:=bu 9 ∅
theorem Gl:aA C dQ "text" 14:=bu 14 ∅
theorem Ix:aA C dQ "kept" 15:=bu 15 ∅
theorem IM:ab C n dQ (.Name "kept" pos) (a9 15):=b9 15 ∅
theorem FK:ab C n dQ (.Name "text" pos) (a9 14):=b9 14 ∅
theorem BL:ab C n dQ (.Name "way" pos) (a9 9):=b9 9 ∅
theorem sW:ab C n dQ (.Name "mates" pos) (a9 1):=bF 1 2 ∅ (by decide) ∅ ∅ ∅
theorem sY:ab C n dQ (.Name "cells" pos) (a9 2):=bF 2 2 ∅ (by decide) ∅ ∅ ∅
def C7(aO:a_):SF:=(jI (b_ [(a9 0)] g9) (jc 7 5) (ap (jC (bC (aF (a9 5) (kI 0)) (jF kc (kS "*")) dH) (ap (f_ 8 nU (aK false (af [(aj (a9 7) (kI 1) aT)] cF)) (du 16) (cU bg (aY (cX [(aj (cc (a9 0) (aL (a9 16)) (aL (a9 7))) (aV [(aF (a9 5) (kI 2))]) aT),(aj (aj (cc (a9 0) ba (aL (a9 16))) (aV [(aF (a9 5) (kI 3))]) aT) (cc (a9 0) (aL (aj (a9 7) (kI 1) aT)) ba) aT)]))) true) (ap (ci (rK (a9 8) (cb o6 (aK false (af [(aj (a9 7) (kI 1) aT),(aj (af [(a9 0)] dz) (kI 1) aT)] cF)) (du 16) (cU bg (aY (cX [(aj (aV [(aF (a9 5) (kI 3))]) (cc (a9 0) (aL (aj (a9 7) (kI 1) aT)) (aL (a9 16))) aT),(aj (aj (cc (a9 0) ba (aL (a9 7))) (aV [(aF (a9 5) (kI 2))]) aT) (cc (a9 0) (aL (a9 16)) ba) aT)])))))) (ap (f_ 10 om (aK false (a9 8)) (du 16) (cU bg (aY (cb nz (aK false (aF (a9 16) (kI 0))) (du 17) (cU bg (gf (aK false (aF (a9 17) (kI 1))) (du 18) (cU bg (aY (a9 18)))))))) false) (ap (f_ 11 r8 (aK false (a9 10)) (du 16) (cU bg (aY (dv (kS "") [(af [(a9 16),(a9 1),(a9 2),(kB false)] bB)] fc))) false) (ap (c6 12 (af [(a9 11)] mo)) (ap (c6 13 (af [(a9 12)] aX)) (ap (ci (rK (a9 3) (aV [(cX [(af [(a9 13)] mo),(cb mW (b_ [(a9 11),(a9 10)] lk) (jc 16 17) (cU bg (aY (dx (bC (af [(cb lA (aK false (a9 17)) (du 18) (cU bg (aY (aF (a9 1) (a9 18)))))] l5) (a9 17) dH) (a9 16) (kS "('', '')")))))]),(cX [(a9 12),(a9 11)])]))) (ap (ci (d_ (a9 13) (kS ""))) (ap (jI (b_ [(a9 8),(a9 11),(a9 13)] AH) (XS 9 14 15) (ap (jC (bC (a9 15) (a9 14) dH) (ap (e_ (rW (af [(aF (a9 9) (kI 0)),(a9 1),(a9 2),(a9 3)] aO) (af [(aF (a9 9) (kI 1)),(a9 1),(a9 2),(a9 3)] aO))) aP) aP) aP) aP) aP))))))))) aP) aP) aP)
theorem HT{aO:a_}(G:cI C)(h2:2≤n)(h_law_units:aI C n "_law_units" bB)(h_check_parenthesis:aI C n "_check_parenthesis" aq)(h_pre_parse_validation:aI C n "_pre_parse_validation" aX)(h_law_proved:aI C n "_law_proved" aO):aQ C n dQ (dE (ar (ay 70)) 2) (C7 aO):=(gn h2 (jW (fv:=.type "enumerate") (G.no _ ∅) ∅ ∅ (bD _) iO (ag rfl fC ae) (λzz=>rfl) (λzz=>rfl) ∅ ∅ ∅) (eW Z3 Mh) (ak (g8 (cj (bj Nf am (λzz zz=>rfl)) (KB G bT (λzz zz=>rfl) ∅ ∅) dM ∅) (ak (gz true (bx ∅ h2 (λzz zz=>rfl) (bN _ _ _ _ _ _) (c5 (co (fv:=.type "range") (G.no _ ∅) ∅ ∅ (bD _) dO (ag rfl (av Qj am br) ae) (λzz=>rfl) (λzz=>rfl) ∅ ∅ ∅)) (bM NF) cG (bZ (cY (ag rfl (av (dJ kt (cw BS) (cw Bq)) (bc (ag rfl (bj sH am (λzz zz=>rfl)) ae)) br) (ag rfl (av (av (dJ kt dC (cw BS)) (bc (ag rfl (bj sH am (λzz zz=>rfl)) ae)) br) (dJ kt (cw (av Bq am br)) dC) br) ae))))) HU (eY ∅ ∅ ∅ ∅)) (ak (cK (kz (λzz=>rfl) qL (cD (bx ∅ h2 (λzz zz=>rfl) (bN _ _ _ _ _ _) (c5 (co (fv:=.type "range") (G.no _ ∅) ∅ ∅ (bD _) dO (ag rfl (av Qj am br) (ag rfl (av (co (fv:=.builtin "len") (G.no _ ∅) ∅ ∅ (bf _) eR (ag rfl fC ae) (λzz=>rfl) (λzz=>rfl) ∅ ∅ ∅) am br) ae)) (λzz=>rfl) (λzz=>rfl) ∅ ∅ ∅)) (bM O_) cG (bZ (cY (ag rfl (av (bc (ag rfl (bj t6 am (λzz zz=>rfl)) ae)) (dJ jY (cw (av Cj am br)) (cw BN)) br) (ag rfl (av (av (dJ jY dC (cw Cj)) (bc (ag rfl (bj t6 am (λzz zz=>rfl)) ae)) br) (dJ jY (cw BN) dC) br) ae)))))) (λzz=>rfl)) ∅ (λzz=>rfl)) (ak (gz false (bx ∅ h2 (λzz zz=>rfl) (bN _ _ _ _ _ _) (c5 qL) (bM DX) cG (bZ (cD (bx ∅ h2 (λzz zz=>rfl) (iq _ _ _ _ _ _ _ _ _) (c5 (bj E5 am (λzz zz=>rfl))) (bM yT) cG (ko h2 (c5 (bj As am (λzz zz=>rfl))) (bM v_) cG vJ (λzz zz=>rfl)))))) rY (eY ∅ ∅ ∅ ∅)) (ak (gz false (bx ∅ h2 (λzz zz=>rfl) (bN _ _ _ _ _ _) (c5 ll) (bM rS) cG (bZ (fQ (λzz=>rfl) JE JH gU bT (ag rfl (ce h_law_units (ag rfl rM (ag rfl vN (ag rfl xD (ag rfl dh ae)))) (λzz=>rfl) ∅ ∅ ∅) ae) (λzz=>rfl) (λzz=>rfl)))) CX (eY ∅ ∅ ∅ ∅)) (ak (bE (co (fv:=.type "list") (G.no _ ∅) ∅ ∅ (bD _) tK (ag rfl kF ae) (λzz=>rfl) (λzz=>rfl) ∅ ∅ ∅) zS (λzz zz=> ∅)) (ak (bE (ce h_pre_parse_validation (ag rfl qG ae) (λzz=>rfl) ∅ ∅ ∅) Jk (λzz zz=> ∅)) (ak (cK (kz (λzz=>rfl) ky (bc (ag rfl (cY (ag rfl (co (fv:=.type "list") (G.no _ ∅) ∅ ∅ (bD _) tK (ag rfl rD ae) (λzz=>rfl) (λzz=>rfl) ∅ ∅ ∅) (ag rfl (cD (bx ∅ h2 (λzz zz=>rfl) (bN _ _ _ _ _ _) (jW (fv:=.type "zip") (G.no _ ∅) ∅ ∅ (bD _) Bu (ag rfl kF (ag rfl ll ae)) (λzz=>rfl) (λzz=>rfl) ∅ ∅ ∅) (eW Aq rZ) cG (bZ (fV (cj (co (fv:=.builtin "sorted") (G.no _ ∅) ∅ ∅ (bf _) DK (ag rfl (cD (bx ∅ h2 (λzz zz=>rfl) (bN _ _ _ _ _ _) (c5 li) (bM wQ) cG (bZ (bj xC vI (λzz zz=>rfl))))) ae) (λzz=>rfl) (λzz=>rfl) ∅ ∅ ∅) li dM ∅) yV bT)))) ae))) (ag rfl (cY (ag rfl qG (ag rfl kF ae))) ae))) (λzz=>rfl)) ∅ (λzz=>rfl)) (ak (cK (cv (λzz=>rfl) rD bT (λzz=>rfl)) ∅ (λzz=>rfl)) (ak (gn h2 (jW (fv:=.type "zip") (G.no _ ∅) ∅ ∅ (bD _) Nk (ag rfl qL (ag rfl kF (ag rfl rD ae))) (λzz=>rfl) (λzz=>rfl) ∅ ∅ ∅) (Ji Ni Gl Ix) (ak (g8 (cj IM FK dM ∅) (ak (d8 (yO (ce h_law_proved (ag rfl (bj BL am (λzz zz=>rfl)) (ag rfl sW (ag rfl sY (ag rfl ky ae)))) (λzz=>rfl) ∅ ∅ ∅) (ce h_law_proved (ag rfl (bj BL am (λzz zz=>rfl)) (ag rfl sW (ag rfl sY (ag rfl ky ae)))) (λzz=>rfl) ∅ ∅ ∅))) aN) aN) aN) aN (λzz zz=>rfl)) aN))))))))) aN) aN) aN (λzz zz=>rfl))
def J2(aO:a_):SF:=(e_ (kB false))
theorem HX{aO:a_}(G:cI C)(h2:2≤n)(h_law_units:aI C n "_law_units" bB)(h_check_parenthesis:aI C n "_check_parenthesis" aq)(h_pre_parse_validation:aI C n "_pre_parse_validation" aX)(h_law_proved:aI C n "_law_proved" aO):aQ C n dQ (dE (ar (ay 70)) 3) (J2 aO):=(d8 dh)
def f70(aO:a_):SF:=(ap (BM aO) (ap (sK aO) (ap (C7 aO) (ap (J2 aO) aP))))
theorem b70{aO:a_}(G:cI C)(h2:2≤n)(h_law_units:aI C n "_law_units" bB)(h_check_parenthesis:aI C n "_check_parenthesis" aq)(h_pre_parse_validation:aI C n "_pre_parse_validation" aX)(h_law_proved:aI C n "_law_proved" aO):cB C n dQ (ar (ay 70)) (f70 aO):=(ak (Ks G h2) (ak (Jl G h2 h_law_units h_check_parenthesis) (ak (HT G h2 h_law_units h_check_parenthesis h_pre_parse_validation h_law_proved) (ak (HX G h2 h_law_units h_check_parenthesis h_pre_parse_validation h_law_proved) aN))))
theorem c70{aO:a_}(G:cI C)(h2:2≤n)(h_law_units:aI C n "_law_units" bB)(h_check_parenthesis:aI C n "_check_parenthesis" aq)(h_pre_parse_validation:aI C n "_pre_parse_validation" aX)(h_law_proved:aI C n "_law_proved" aO)(h:di C "_law_proved" 70):aI C (n+1) "_law_proved" (cy 4 (ao (ay 70)) (f70 aO)):=
 gM ["roots","mates","cells","asked"] h (b70 G h2 h_law_units h_check_parenthesis h_pre_parse_validation h_law_proved) (λzz zz zz=>Rz λzz zz zz zz=> ∅) ∅ ∅ ∅ ∅ ∅
noncomputable def J5:Nat→a_
 |0=> λzz zz=>none
 |m+1=>cy 4 (ao (ay 70)) (f70 (J5 m))
theorem d70(G:cI C)(h2:2≤n)(h_law_units:aI C n "_law_units" bB)(h_check_parenthesis:aI C n "_check_parenthesis" aq)(h_pre_parse_validation:aI C n "_pre_parse_validation" aX)(h:di C "_law_proved" 70):∀m,aI C (n+m) "_law_proved" (J5 m)
 |0=>tL h
 |m+1=>c70 G (KQ h2 (Fj ..)) (h_law_units.mono (Fj ..)) (h_check_parenthesis.mono (Fj ..)) (h_pre_parse_validation.mono (Fj ..)) (d70 G h2 h_law_units h_check_parenthesis h_pre_parse_validation h m) h
noncomputable def aO:a_:=J5 12
end
noncomputable def r9(μ:List ah)(i:Nat):Option (List ah):=bo (μ[i]?.bind QD) λxs=>oe (uncons xs) (some ()) (λp zz=>oe (dI p.1) (uncons p.2) (λzz zz=>none) (bo (dI p.1) λb=>if D5 b 64≠0∧(HN (D5 b 63):Int)+6≤2^27 then some (μ.set i (.iter [])) else none)) (some (μ.set i (.iter [])))
theorem OE(h:r9 μ i=some μ')(k1:μ[i]? =some (.iter [])→μ'=μ.set i (.iter [])→G)
  (k2:∀b,μ[i]? =some (.iter [.int b])→D5 b 64≠0∧(HN (D5 b 63):Int)+6≤2^27→μ'=μ.set i (.iter [])→G):G:=by
 refine ax h λxs e h=>?_;cases xs with
 |nil=>exact k1 (uI e) (Fd h).symm
 |cons d t=>
  have h:oe (dI d) (uncons t) (λzz zz=>none) (bo (dI d) λb=>if D5 b 64≠0∧(HN (D5 b 63):Int)+6≤2^27 then some (μ.set i (.iter [])) else none)=some μ':=h;cases hd:dI d with
  |none=>rw [hd] at h;exact ct h
  |some b=>
   rw [hd] at h
   cases t with
   |nil=>exact i6 h λhc h=>k2 b (by rw [Ud hd] at e;exact uI e) hc (Fd h).symm
   |cons _ _=>exact ct h
noncomputable def cO:a_:= λVs μ=>bo (l1 Vs) λV=>bo (Ff V) λi=>(aR [.c i] μ).elim (bo (r9 μ i) λμ'=>some (.d (.list []),μ')) (λp=>bo (v7 p.1) λx=>some (.d (.list [x]),p.2))
end Mine
namespace Mine
open PySem PySem.W PySem.Calls PyProof.Rows
open Sem (wp)
variable {V V' : AV} {Cn D L TI TO a fa i1 i2 i3 z : Addr} {A : Around} {items zs : Array Value} {sh tup : Bool} {cf : CF} {c c' : ah} {C : gK} {cx : Cx} {f fi fo g : EF} {cenv env : Env} {mean : ExcName → Option Value} {e e1 e2 elt iter target test : Expr} {fl : Fl} {h h' : Heap} {itf : IF} {y : Int} {Vs : List AV} {M M' O T T' W wr α α' α1 α₀ : List Addr} {Mid : List Addr → List Addr → List Addr → List ah → Nat → Value → Shared → Prop} {St : List Addr → xH} {μ μ' μ'' μ1 μ2 μ3 μ₀ : List ah} {fs : List EF} {es : List Expr} {K cs ns os rest : List Int} {gi ls m ps : List Nat} {X acc acc' ds xs ys : List PyData} {body orelse : List Stmt} {vs : List Value} {ρ ρ' ρ1 ρ2 : d0} {tf : d0 → PyData → Option d0} {b i j ja jt k kk low mask n p q tk : Nat} {o : Obj} {op : Operator} {ha ke td te tx : Option AV} {hi lo : Option Expr} {gg : Option Nat} {apos pos px py sp tp xp : Pos} {prog : Program} {G : Prop} {d : PyData} {sc scope : Scope} {s s' s'' s1 s₀ : Shared} {spec : a_} {st : Stmt} {name x : Str} {t : TF} {u : Tok} {cd cls doc fv it pm v : Value} {E Q : Value → Shared → Prop} {w : World}
section
variable {M:Model} {R:GenEnd} {Y:Protocol} {c:Code} {fs:List Frame}
 {K:Flow→Sem Fin} {H:Value→Sem Fin} {gd:Bool→Bool} {lv:List Value→List Value}
theorem qk(h:wpAny M (A.over c fs) (exec st env) (λf s'=>Seg M A R Y n s₀ c (K f) fs s') (λx s'=>Seg M A R Y n s₀ c (H x) fs s') s):
 Seg M A R Y n s₀ c ((exec st env).wrap K H gd lv) fs s:=RX h
theorem VG
  (h:wpAny M (A.over c fs) (isTrue test env (eval test env)) (λb s'=>if b=true then Seg M A R Y n s₀ c ((execs body env).wrap K H gd lv) fs s' else Seg M A R Y n s₀ c ((execs orelse env).wrap K H gd lv) fs s') (λx s'=>Seg M A R Y n s₀ c (H x) fs s') s):
  Seg M A R Y n s₀ c ((exec (.If test body orelse pos) env).wrap K H gd lv) fs s:=by
 rw [exec_If];refine seg_at ?_
 show Seg M A R Y n s₀ c (UN K H gd lv (isTrue test env (eval test env)>>= λb=>if b=true then execs body env else execs orelse env)) fs s
 rw [Lp,MV];refine RX (D2 h (λb s' hb=>?_) λzz zz x=>x);cases b with
 |true=>simpa using hb
 |false=>simpa using hb
theorem OD(hs:∀x,foldedSetIterable iter env x=pure x)
  (h:wpAny M (A.over c fs) (eval iter env) (λx s1=>wpAny M (A.over c fs) (pyIter x) (λit s2=>∀p,Seg M A R Y n s₀ (.forLoop target it body orelse env) (M.den (.forLoop target it body orelse env))
   (.ret (λr=>((match r with| .ok f=>(.pure f:Sem Flow)| .error e=>.raise e).onRaise λ(x:Value)=>do
    if (←field x 1)==L7 then unsupported "frame.own-activation:exception-without-traceback"
    setFlight x env.frame).wrap K H gd lv) none (gd false) (lv []) c p []::fs) s2) (λx s'=>Seg M A R Y n s₀ c (H x) fs s') s1) (λx s'=>Seg M A R Y n s₀ c (H x) fs s') s):
  Seg M A R Y n s₀ c ((exec (.For target iter body orelse pos) env).wrap K H gd lv) fs s:=by
 rw [exec_For];refine seg_at ?_
 show Seg M A R Y n s₀ c (UN K H gd lv (eval iter env>>= λx=>foldedSetIterable iter env x>>= λx=>standAt iter.pos>>= λzz=>holding [x] (pyIter x)>>= λit=>runOwn (.forLoop target it body orelse env) env)) fs s
 rw [Lp,MV];refine RX (D2 h (λx s1 h1=>?_) λzz zz x=>x);rw [hs]
 show Seg M A R Y n s₀ c (.at iter.pos λzz=>UN K H gd lv (holding [x] (pyIter x)>>= λit=>runOwn (.forLoop target it body orelse env) env)) fs s1
 refine seg_at ?_;rw [Lp,MV];refine RX (KZ (D2 h1 (λit s2 h2=>?_) λzz zz x=>x));exact seg_call h2
end
section
variable {R:GenEnd} {Y:Protocol} {fs:List Frame}
theorem oD
  (h:wpAny (model prog w) (A.over (.forLoop target it body orelse env) fs) (pyNext it) (λr s1=>match r with
   |none=>Seg (model prog w) A R Y n s₀ (.block orelse env) ((model prog w).den (.block orelse env)) fs s1
   |some v=>wpAny (model prog w) (A.over (.forLoop target it body orelse env) fs) (letOwnedTupleGo target it v) (λzz s2=>wpAny (model prog w) (A.over (.forLoop target it body orelse env) fs) (assign target env v) (λzz s3=>
     Seg (model prog w) A R Y n s₀ (.forLoop target it body orelse env) ((execs body env).wrap (λf=>match f with
      | .next| .cont=>.pure (.again (.forLoop target it body orelse env))
      | .brk=>.pure (.done .next)
      | .ret v=>.pure (.done (.ret v))) (λe=>(do noteFrame e env;theTreesLotGoes e:Sem Unit).wrap (λzz=>.raise e) .raise id id) id id) fs s3) (λzz zz=>False) s2) (λzz zz=>False) s1) (λzz zz=>False) s):
  Seg (model prog w) A R Y n s₀ (.forLoop target it body orelse env) ((model prog w).den (.forLoop target it body orelse env)) fs s:=by
 refine (?_:Seg _ A R Y n s₀ _ ((forTurn target it body orelse env).onRaise (λx=>do noteFrame x env;theTreesLotGoes x)) fs s);unfold forTurn;rw [Sem.onRaise_eq_wrap];refine seg_at ?_;refine (?_:Seg _ A R Y n s₀ _ (UN .pure _ id id (((pyNext it).onRaise _)>>=_)) fs s);rw [Lp,MV];refine RX (SQ (D2 h (λr s1 h1=>?_) λzz zz x=>x.elim));cases r with
 |none=>exact Uh rfl h1
 |some v=>
  dsimp only at h1⊢
  rw [Lp,MV];refine RX (D2 h1 (λzz s2 h2=>?_) λzz zz x=>x.elim);rw [Lp,MV];refine RX (D2 h2 (λzz s3 h3=>?_) λzz zz x=>x.elim);rw [Lp,MV];rw [Sem.wrap_congr (execs body env) _ _ (K':= λf=>match f with
      | .next| .cont=>.pure (.again (.forLoop target it body orelse env))
      | .brk=>.pure (.done .next)
      | .ret v=>.pure (.done (.ret v))) (H':=(λe=>(do noteFrame e env;theTreesLotGoes e:Sem Unit).wrap (λzz=>.raise e) .raise id id))
    (λf=>by cases f<;>rfl)
    (λe=>by first|exact TR _ _| (show (do noteFrame e env;theTreesLotGoes e:Sem Unit).bind (λzz=>.raise e)=_;rw [TR]))]
  exact h3
end
noncomputable def A0:Around:=⟨none,591,none,none,9099⟩
theorem YS{Γ:Ctx}(R:cP A 2)(h:Γ.In A):Γ.In A0:=by
 refine ig h λh1 h2 h3 h4 h5=>?_;have d:=R.depth;have u:=R.units;unfold cLine at u
 refine (uC (by rw [h1,R.handled];rfl) ?_ (λl e=>by exact ct e) (λg e=>by exact ct e) ?_)
 ·show _≤591;lia
 ·show _≤9099;lia
theorem w_{M:Model}{α:Type}{m:Sem α}{Q:α→Shared→Prop}(R:cP A 2)(h:wpAny M A0 m Q E s):wpAny M A m Q E s:=
 λΓ p hΓ=>h Γ p (YS R hΓ)
section
theorem oz{g:Nat}{gs:GenState}{P:Nat→Shared→Shared→Prop}{Y:Protocol}{Q:Option Value→Shared→Prop}(hh:A.handled=none)
  (hl:s.heap.NoLimit) (hroom:A.depth<recursionLimit)
  (hg:s.heap.IsGen a g) (hgs:s.gens[g]? =some gs)
  (hgo:gs.Goes (model prog w) A.in1 (λn s₀ r s₁=>r=.ok (.ret .none)∧P n s₀ s₁) Y n (.send .none) (s.setGen g .running))
  (hY:∀v s₁ gs',gs'.bare=true→Y (n-1) (s.setGen g .running) v s₁ (λr' s''=>match n with
    |0=>False
    |m+1=>gs'.Goes (model prog w) A.in1 (λn s₀ r s₁=>r=.ok (.ret .none)∧P n s₀ s₁) Y m r' s'')→Q (some v) (s₁.setGen g gs'))
  (hP:∀s₁,P n (s.setGen g .running) s₁→∀h',(∀b o,s₁.heap.get? b=some o→h'.get? b=some o)→Q none {s₁.setGen g .finished with heap:=h'}):
  wpAny (model prog w) A (pyNext (.ref a)) Q E s:=by
 unfold pyNext;refine yt (SR (IX (name:=JI "__next__") hg.typeIs slot_gen_next
  (L3 slot_gen_next hg.typeIs entry_gen_next ?_ (args_gen_next _))))
 refine (?_:wpAny _ A.in1 (Q4 (.ref a) (.send .none)) _ _ s);unfold Q4;refine yt (KZ (wpAny_genNumber hg (yt (wpAny_genState hgs ?_))));cases gs with
 |running=>exact hgo.elim
 |finished=>exact hgo.elim
 |_=>
  refine yt (wpAny_roomToWake hl hroom ?_);refine (?_:wpAny _ A.in1 (.resume g (.send .none) [] _) _ _ s);refine wpAny_resumeQ hgs hgo (λx s₁ hx=>?_) (λv s₁ gs' hb hv=>?_)
  ·refine fY hx λzq0 hp=>?_
   refine bH (ES zq0) ?_;refine (?_:wpAny _ A.in1 (newExc (.type "StopIteration") []>>=_) _ _ _);refine yt ?_;simp only [newExc,newTuple];refine yt (Ia ?_ (by size_fits));refine yt (m:=firstArgMember _ _) (Mb (a:=L7) (by first|rfl| (simp only [firstArgMember];rfl)) ?_);refine Ia ?_ (by size_fits);refine yt (NH hh ?_);refine yt (Rb (T:="StopIteration") (b:=true) (aZ _ (Dm _ rfl) rfl) Sj ?_);exact Et (hP s₁ hp _ λb o hb=>BO _ (BO _ hb))
  ·exact Et (aZ v rfl (Et (hY v s₁ gs' hb hv)))
theorem VX{g:Nat}{t:Expr}{Q:Unit→Shared→Prop}(hg:s.heap.IsGen a g)(h:Q () s):wpAny (model prog w) A (letOwnedTupleGo t (.ref a) v) Q E s:=by
 have key:∀t:Expr,letOwnedTupleGo t (.ref a) v=letOwnedTupleGo (.List [] ⟨0,0,0,0⟩) (.ref a) v∨letOwnedTupleGo t (.ref a) v=pure ():= λt=>by cases t<;>first|exact .inr rfl|exact .inl rfl
 refine (key t).elim (λe=>?_) λe=>?_
 ·rw [e]
  cases v with
  |ref b=>
   refine dg hg λo nm qn ho hc hd hsl=>?_;refine (?_:wpAny _ A (load a>>=_) _ _ s);refine yt (wpAny_load ho ?_);rw [hc,hd];refine (?_:wpAny _ A (if (["enumerate","zip","dict_itemiterator","dict_reverseitemiterator","odict_iterator","itertools.zip_longest","itertools.pairwise"].contains "generator"&&_)=true then _ else _) _ _ s);rw [if_neg (by simp)];exact Et h
  |_=>exact Et h
 ·rw [e];exact Et h
end
section
variable {M:Model} {R:GenEnd} {Y:Protocol} {fs:List Frame}
theorem rT{k:Result→Sem Fin}{h:Option Value}{g:Bool}{l:List Value}{c₁:Code}{p₁:Pos}{kp:List Value}
  (hk:Seg (model prog w) A R Y n s₀ c₁ (k (.ok .next)) fs s):Seg (model prog w) A R Y n s₀ (.block [] env) ((model prog w).den (.block [] env)) (.ret k h g l c₁ p₁ kp::fs) s:=by
 have:(model prog w).den (.block [] env)=leafOf (.ok .next):=rfl
 rw [this];exact seg_leaf (.ok .next) hk
end
theorem bl.movesG(I:bl C T α μ s)(x:aG wr gi s s')(hw:∀b∈wr,b∈T∨s.heap.get? b=none)(hT:∀a∈T',a∈T∨s.heap.get? a=none)(hd:∀a∈T',∃o,s'.heap.get? a=some o):bl C T' α μ s':=by
 have nw:∀b,b∈T∨s.heap.get? b=none→C.B.get? b=none:= λb hb=>hb.elim (I.tnew b) I.fresh;have nα:∀b,b∈T∨s.heap.get? b=none→b∉α:= λb hb q=>hb.elim (λz=>I.apart b z q) (I.cdom q);have k:iF wr (T++ai α μ) s.heap:= λa ha=>(hw a ha).elim (λz=>.inr (.inr (yo _ z))) .inl;exact ⟨λb o e=>x.ext b o (I.keep b o e) λq=>ct ((nw b (hw b q)).symm.trans e),I.len,λi a c h1 h2=>(I.cells i a c h1 h2).ext x.ext k (C0 hT) (λzz q=>nα a (hw a q) (FV h1)),I.nodup,λa ha=>nα a (hT a ha),hd,λa ha=>nw a (hT a ha),I.new,x.bare I.gens,x.os.trans I.os⟩
theorem bl.base(I:bl C T α μ s)(hT:∀a∈T',a∈T):bl C T' [] [] s:=
 ⟨I.keep,rfl,λi a c h1 zz=>ct h1,N0,λa zz h=>(nomatch h),λa ha=>I.tdom a (hT a ha),λa ha=>I.tnew a (hT a ha),λa h=>(nomatch h),I.gens,I.os⟩
theorem wT{gens:Array GenState}{g:Nat}{x:GenState}(h:AllBare gens)(hx:x.bare=true):AllBare (gens.setIfInBounds g x):= λy hy=>by
 obtain ⟨i,hi,rfl⟩:=Array.mem_iff_getElem.mp hy;have hi':i<gens.size:=by simpa using hi
 rw [Array.getElem_setIfInBounds hi']
 split
 ·exact hx
 ·exact h _ (Array.getElem_mem hi')
theorem bl.setGen{g:Nat}{x:GenState}(I:bl C T α μ s)(hx:x.bare=true):bl C T α μ (s.setGen g x):=
 ⟨I.keep,I.len,I.cells,I.nodup,I.apart,I.tdom,I.tnew,I.new,wT I.gens hx,I.os⟩
theorem aG.setGen{g:Nat}{x:GenState}(hx:x.bare=true):aG [] [g] s (s.setGen g x):=
 ⟨λzz zz zz e=>e,λi y hi e=>by
  refine (?_:(s.gens.setIfInBounds g x)[i]? =some y);rw [M8 (λq=>hi (by simp [q]))];exact e,rfl,λh=>wT h hx⟩
theorem aG.mono{wr':List Addr}{gi':List Nat}(x:aG wr gi s s')(h:∀a∈wr,a∈wr'∨s.heap.get? a=none)(hg:∀a∈gi,a∈gi'):aG wr' gi' s s':=
 ⟨λb o hb e=>x.heap b o (λq=>(h b q).elim hb λz=>by rw [z] at e;exact ct e) e,λi y hi e=>x.gens i y (λq=>hi (hg i q)) e,x.os,x.bare⟩
theorem aG.of_step(S:aU O [] [] s [] [] s')(I:bl C T [] [] s)(I':bl C T' [] [] s'):aG O [] s s':=
 ⟨λb o hb e=>S.ext b o e λq=>hb (by simpa [ai] using q),λi x zz e=>S.gens i x e,I'.os.trans I.os.symm,λzz=>I'.gens⟩
abbrev rN:Cx:=df (ao (ay 1))
theorem kW:rN.names=([("addr",1),("pos",1),("escape",1),("ch",1)]:List (Str×Nat)):= ∅
structure z8 (env:Env) (L:Addr):Prop where
 lo:env.locals=L
 sc:env.scope=rN.scope
 gl:env.globals=mainGlobals
 bn:env.builtins=builtinsNs
def QK(x:Str)(i:Nat)(v:Value):Prop:=∃c u,x.cps[i]? =some c∧v=UU ⟨#[c]⟩ u
noncomputable def mF(x:Str)(p:Int)(esc:Bool)(c:Option AV):d0:=[some (.d (.str x)),some (.d (.int p)),some (.d (.bool esc)),c]
theorem Zf{m:Str→Option Value}(G:z8 env L)(hn:h.Ns L m)(hb:C.B.get? L=none)(hL:L∉T)(hl:ρ.length=4)
  (hv:∀ (i:Nat) x V,rN.names[i]? =some (x,1)→ρ[i]? =some (some V)→∃v,m x=some v∧bm h [] (T++ai [] []) v V):bh C rN env [L] ρ h [] (T++ai [] []):=by
 have hk1:∀ (i:Nat) x k,rN.names[i]? =some (x,k)→k=1:= λi x k e=>by
  rw [kW] at e
  have:=FV e
  simp only [Ch,SX,DM,or_false] at this
  rcases this with ⟨_,q⟩| ⟨_,q⟩| ⟨_,q⟩| ⟨_,q⟩<;>exact q
 refine ⟨G.sc,G.gl,G.bn,by rw [hl,kW];rfl,(aZ m (by rw [G.lo];exact hn) hv),⟨λzz=>0,λi x k e h2=>?_,λi x k e h2=>?_,λi x e=>?_,λi j x y k l e1 e2 h1 h2 q=>?_⟩,λa ha=>?_,by rw [G.lo];simp,λa ha q=>?_,λi j x e1 e2=>?_⟩
 ·have:=hk1 i x k e;lia
 ·have:=hk1 i x k e;lia
 ·have:=hk1 i x 2 e;lia
 ·have:=hk1 i x k e1;lia
 ·obtain rfl:a=L:=by simpa using ha
  exact ⟨fO hn,hb⟩
 ·have ha':a∈T:=by simpa [ai] using ha
  rcases q with (q| ⟨i,x,k,e,h2,_⟩)|q
  ·rw [G.lo] at q;exact hL (q▸ha')
  ·have:=hk1 i x k e;lia
  ·obtain rfl:a=L:=by simpa using q
   exact hL ha'
 ·exact pY (scope:=ao (ay 1)) (of_decide_eq_true ∅) e1 e2
noncomputable def gq:Option AV→Prop
 |some (.d (.str _))=>True
 |some (.d (.int _))=>True
 |some (.d (.bool _))=>True
 |none=>True
 |_=>False
theorem UW{i:Int}:∀d∈([.int i,.str x]:List PyData),gq (some (.d d)):= λd h=>by
 rcases Ch.mp h with h|h
 ·rw [h];trivial
 ·rw [yA.mp h];trivial
theorem qu(h:gq (some V)){h1 h2:Heap}{α2 M1 M2:List Addr}(r:bm h1 α1 M1 v V):bm h2 α2 M2 v V:=by
 match V,h,r with
 | .d (.str _),_,r=>refine bP (aJ.of_str r) λt zq1=>?_;refine bH (ES zq1) ?_;exact aJ.str ..
 | .d (.int _),_,r=>refine bP (aJ.of_int r) λt zq1=>?_;refine bH (ES zq1) ?_;exact aJ.int ..
 | .d (.bool _),_,r=>obtain rfl:=aJ.of_bool r;exact aJ.bool ..
theorem t_{m:Str→Option Value}(hn:h.Ns L m)(hs:∀o,h.get? L=some o→h'.get? L=some o):h'.Ns L m:=by
 refine ft hn λob es ep e d=>?_;exact (lC ob es ep (hs _ e) d)
theorem bh.same(G:z8 env L)(F:bh C rN env [L] ρ h [] (T++ai [] []))(hs:∀o,h.get? L=some o→h'.get? L=some o)(hsm:∀V∈ρ,gq V):bh C rN env [L] ρ h' [] (T++ai [] []):=by
 refine au F.loc λm hm hq=>?_;rw [G.lo] at hm
 refine Zf G (t_ hm hs) (F.own L (by simp)).2 (λq=>F.off L (yo _ q) (.inr (by simp))) (by rw [F.len,kW];rfl) λi x V e1 e2=>?_;refine au (hq i x V e1 e2) λv e r=>?_;exact (aZ v e (qu (hsm _ (FV e2)) r))
section
open PySem.Builtin PySem.Builtin.Str in
theorem mO{it:Addr}{t:Tok}(hh:A.handled=none)
  (hit:s.heap.IsStrIter it "str_ascii_iterator" x t i) (hx:x.cps[i]? =none)
  (hE:∀h' e,P0 it s.heap h'→(∃o,h'.get? it=some o)→(∃o,h'.get? e=some o∧o.cls=.type "StopIteration")→E (.ref e) {s with heap:=h'}):
  wpAny (model prog w) A (KT (.ref it)) Q E s:=by
 refine cn (id hit) λo ho hc hd=>?_;unfold KT;refine yt (IX (name:=JI "__next__") hit.typeIs P9
  (L3 P9 hit.typeIs F.entry_str_ascii_iterator_next ?_ (F.args_str_ascii_iterator_next_1 _)))
 refine (?_:wpAny _ _ (field (.ref it) 0>>=_) _ _ s);refine yt (KP ho hd (x:=.str x t) rfl ?_);refine (?_:wpAny _ _ (field (.ref it) 1>>=_) _ _ s);refine yt (KP ho hd (x:=.int i 0) rfl ?_);simp only [Fa,hx];refine yt (O8 (yt (P3 ho hd (by simp) (yt (Sw ?_)))));refine (?_:wpAny _ _ (newExc (.type "StopIteration") []>>=_) _ _ _);refine yt ?_;simp only [newExc,newTuple];refine yt (Ia ?_ (by size_fits));refine yt (m:=firstArgMember _ _) (Mb (a:=L7) (by first|rfl| (simp only [firstArgMember];rfl)) ?_);refine Ia ?_ (by size_fits);refine NH hh ?_;exact hE _ _ (((KW ..).extBut.push _).push _) ⟨_,BO _ (BO _ (Fk _ ho (LO (L0 hd _))))⟩ (aZ _ (Dm _ rfl) rfl)
open PySem.Builtin PySem.Builtin.Str in
theorem nW{it:Addr}{t:Tok}(hh:A.handled=none)
  (hit:s.heap.IsStrIter it "str_iterator" x t i) (hx:x.cps[i]? =none)
  (hE:∀h' e,P0 it s.heap h'→(∃o,h'.get? it=some o)→(∃o,h'.get? e=some o∧o.cls=.type "StopIteration")→E (.ref e) {s with heap:=h'}):
  wpAny (model prog w) A (KT (.ref it)) Q E s:=by
 refine cn (id hit) λo ho hc hd=>?_;unfold KT;refine yt (IX (name:=JI "__next__") hit.typeIs QB
  (L3 QB hit.typeIs F.entry_str_iterator_next ?_ (F.args_str_iterator_next_1 _)))
 refine (?_:wpAny _ _ (field (.ref it) 0>>=_) _ _ s);refine yt (KP ho hd (x:=.str x t) rfl ?_);refine (?_:wpAny _ _ (field (.ref it) 1>>=_) _ _ s);refine yt (KP ho hd (x:=.int i 0) rfl ?_);simp only [Fa,hx];refine yt (O8 (yt (P3 ho hd (by simp) (yt (Sw ?_)))));refine (?_:wpAny _ _ (newExc (.type "StopIteration") []>>=_) _ _ _);refine yt ?_;simp only [newExc,newTuple];refine yt (Ia ?_ (by size_fits));refine yt (m:=firstArgMember _ _) (Mb (a:=L7) (by first|rfl| (simp only [firstArgMember];rfl)) ?_);refine Ia ?_ (by size_fits);refine NH hh ?_;exact hE _ _ (((KW ..).extBut.push _).push _) ⟨_,BO _ (BO _ (Fk _ ho (LO (L0 hd _))))⟩ (aZ _ (Dm _ rfl) rfl)
def Af(prog:Program)(w:World)(it:Addr)(n:Nat)(St:Nat→Heap→Prop):Prop:=∀ (A:Around) (s:Shared) (Q:Value→Shared→Prop) (E:Value→Shared→Prop),A.handled=none→St n s.heap→
 (∀h' e,P0 it s.heap h'→(∃o,h'.get? it=some o)→(∃o,h'.get? e=some o∧o.cls=.type "StopIteration")→E (.ref e) {s with heap:=h'})→wpAny (model prog w) A (KT (.ref it)) Q E s
theorem np{e it:Addr}{St:Nat→Heap→Prop}{i:Int}{old:Value}{Q:Option Value→Shared→Prop}
  (D:Af prog w it n St) (hh:A.handled=none) (he:IsEnum s.heap e it i old) (hst:St n s.heap)
  (hQ:∀h',P0 it s.heap h'→(∃o,h'.get? it=some o)→Q none {s with heap:=h'}):wpAny (model prog w) A (pyNext (.ref e)) Q E s:=by
 have hT:s.TypeIs (.ref e) "enumerate":=(aZ _ he rfl);unfold pyNext;refine yt (SR (IX (name:=JI "__next__") hT RJ
  (L3 RJ hT F.entry_enumerate_next ?_ (F.args_enumerate_next_1 _))))
 refine (?_:wpAny _ _ (field (.ref e) 2>>=_) _ _ _);refine yt (KP he rfl (x:=.ref it) rfl ?_);refine yt (D _ _ _ _ hh hst λh' x he' hl hx'=>?_);refine au hx' λo ho hc=>?_;refine yt (Rb (T:="StopIteration") (b:=true) (aZ o ho hc) Sj ?_);exact Et (hQ _ he' hl)
end
structure v6 (C:gK) (env:Env) (L e it:Addr) (x:Str) (St:Nat→Heap→Prop) (al:Bool) (k:Nat) (ρ:d0) (s:Shared):Prop where
 inv:bl C [e,it] [] [] s
 fr:bh C rN env [L] ρ s.heap [] ([e,it]++ai [] [])
 en:al=true→∃old,IsEnum s.heap e it k old
 st:al=true→St k s.heap
structure Rh (C:gK) (env:Env) (L e it:Addr) (x:Str) (St:Nat→Heap→Prop):Prop where
 ge:z8 env L
 dr:∀A':Around,A'.handled=none→Draws C.prog C.w A' it [it] x.cps.size (QK x) St
 dn:Af C.prog C.w it x.cps.size St
 ei:e≠it
 Le:L≠e
 Li:L≠it
theorem fy{k:Result→Sem Fin}{g:Bool}{l:List Value}{p:Pos}{kp:List Value}{t:Expr}{fb:List Stmt}{env':Env}:
  cP (A0.in1.over (.forLoop t v body orelse env) [.ret k none g l (.func fb env') p kp]) 1:=by
 refine ⟨?_,?_,?_⟩
 ·refine (?_:A0.in1.depth+_+_+4*1<600)
  exact of_decide_eq_true rfl
 ·refine (?_:A0.in1.units+_+_+200*1+400<cLine)
  exact of_decide_eq_true rfl
 ·rfl
theorem qr{fb:List Stmt}{env':Env}:cP (A0.in1.over (.func fb env') []) 1:=by
 refine ⟨?_,?_,?_⟩
 ·refine (?_:A0.in1.depth+_+_+4*1<600)
  exact of_decide_eq_true rfl
 ·refine (?_:A0.in1.units+_+_+200*1+400<cLine)
  exact of_decide_eq_true rfl
 ·rfl
end Mine
namespace Mine
open PySem PySem.W PySem.Calls PyProof.Rows PySem.SeqAt
open Sem (wp)
variable {V V' : AV} {Cn D L TI TO a fa i1 i2 i3 z : Addr} {A : Around} {items zs : Array Value} {sh tup : Bool} {cf : CF} {c c' : ah} {C : gK} {cx : Cx} {f fi fo g : EF} {cenv env : Env} {mean : ExcName → Option Value} {e e1 e2 elt iter target test : Expr} {fl : Fl} {h h' : Heap} {itf : IF} {y : Int} {Vs : List AV} {M M' O T T' W wr α α' α1 α₀ : List Addr} {Mid : List Addr → List Addr → List Addr → List ah → Nat → Value → Shared → Prop} {St : List Addr → xH} {μ μ' μ'' μ1 μ2 μ3 μ₀ : List ah} {fs : List EF} {es : List Expr} {K cs ns os rest : List Int} {gi ls m ps : List Nat} {X acc acc' ds xs ys : List PyData} {body orelse : List Stmt} {vs : List Value} {ρ ρ' ρ1 ρ2 : d0} {tf : d0 → PyData → Option d0} {b i j ja jt k kk low mask n p q tk : Nat} {o : Obj} {op : Operator} {ha ke td te tx : Option AV} {hi lo : Option Expr} {gg : Option Nat} {apos pos px py sp tp xp : Pos} {prog : Program} {G : Prop} {d : PyData} {sc scope : Scope} {s s' s'' s1 s₀ : Shared} {spec : a_} {st : Stmt} {name x : Str} {t : TF} {u : Tok} {cd cls doc fv it pm v : Value} {E Q : Value → Shared → Prop} {w : World}
noncomputable def RG(L e it:Addr):GenEnd:= λn s₀ r s₁=>r=.ok (.ret .none)∧(n=0∧aG [L,e,it] [] s₀ s₁)
def YZ(s₀ s:Shared)(v:Value)(d:PyData):Prop:=∃a items ds,v=.ref a∧d=.tuple ds∧s.heap.IsTuple a items∧(∀h M,aw h M items.toList ds)∧s₀.heap.get? a=none
noncomputable def YG(C:gK)(L e it:Addr)(out:List PyData):Protocol:= λm s₀ v s kap=>(∃d,out[out.length-1-m]? =some d∧YZ s₀ s v d∧∀a,v=.ref a→a∉[L,e,it])∧aG [L,e,it] [] s₀ s∧bl C [e,it] [] [] s∧(∃o,s.heap.get? L=some o)∧
 ∀s'',(∀b∈[L,e,it],∀o,s.heap.get? b=some o→s''.heap.get? b=some o)→bl C [e,it] [] [] s''→kap (.send .none) s''
section
variable {e it:Addr} {St:Nat→Heap→Prop} {al:Bool} {out:List PyData} {c:Code} {fs:List Frame}
 {K:Flow→Sem Fin} {H:Value→Sem Fin} {gd:Bool→Bool} {lv:List Value→List Value}
theorem v6.step(G:Rh C env L e it x St)(I:v6 C env L e it x St al k ρ s)(S:aU [L] [] [] s [] [] s')(I':bl C [e,it] [] [] s')(F':bh C rN env [L] ρ' s'.heap [] ([e,it]++ai [] [])):v6 C env L e it x St al k ρ' s':=by
 refine ⟨I',F',λha=>?_,λha=>(G.dr A0 rfl).frame _ _ _ (I.st ha) λb hb o y=>S.ext _ _ y λq=>?_⟩
 ·refine bP (I.en ha) λold he=>?_
  exact ⟨old,S.ext _ _ he λq=>G.Le.symm (by simpa [ai] using q)⟩
 ·obtain rfl:b=it:=by simpa using hb
  exact G.Li.symm (by simpa [ai] using q)
theorem aG.up1(x:aG [L] [] s s'):aG [L,e,it] [] s s':=x.mono (λzz ha=>.inl (yA.mp ha▸Fp ..)) λzz h=>h
theorem lr(I:bl C T α [] s):α=[]:=by
 have:=I.len
 exact OB.mp (by simpa using this)
theorem v6.same(G:Rh C env L e it x St)(I:v6 C env L e it x St al k ρ s)(hs:∀b∈[L,e,it],∀o,s.heap.get? b=some o→s'.heap.get? b=some o)(I':bl C [e,it] [] [] s')(hρ:∀V∈ρ,gq V):v6 C env L e it x St al k ρ s':=by
 refine ⟨I',bh.same G.ge I.fr (hs L (by simp)) hρ,λha=>?_,λha=>(G.dr A0 rfl).frame _ _ _ (I.st ha) λb hb o y=>hs b (D1 _ (D1 _ hb)) o y⟩;refine bP (I.en ha) λold he=>?_;exact ⟨old,hs e (by simp) _ he⟩
theorem J0(R:cP (A0.in1.over c fs) 1)(G:Rh C env L e it x St)(I:v6 C env L e it x St al k ρ s)(mv:aG [L,e,it] [] s₀ s){f:SF}(h:aQ C 1 rN st f)(q:f ρ []=some (.next,ρ',[]))
  (next:∀s',v6 C env L e it x St al k ρ' s'→aG [L,e,it] [] s₀ s'→Seg (model C.prog C.w) A0.in1 (RG L e it) (YG C L e it out) n s₀ c (K .next) fs s'):
  Seg (model C.prog C.w) A0.in1 (RG L e it) (YG C L e it out) n s₀ c ((exec st env).wrap K H gd lv) fs s:=by
 refine qk (D2 (h.run _ env [L] [e,it] ρ [] [] s _ _ _ _ R I.inv I.fr q) (λfw s' p=>?_) λzz zz x=>x);refine et p λα' I' S' F' zq4=>?_;subst zq4;obtain rfl:=lr I';exact next s' (I.step G S' I' F') (mv.trans (aG.of_step S' I.inv I').up1)
theorem tE(R:cP (A0.in1.over c fs) 1)(G:Rh C env L e it x St)(I:v6 C env L e it x St al k ρ s)(mv:aG [L,e,it] [] s₀ s){t:d0→List ah→Option (Bool×List ah)}{b:Bool}(h:gO C 1 rN test t)(q:t ρ []=some (b,[]))
  (next:∀s',v6 C env L e it x St al k ρ s'→aG [L,e,it] [] s₀ s'→if b=true then Seg (model C.prog C.w) A0.in1 (RG L e it) (YG C L e it out) n s₀ c ((execs body env).wrap K H gd lv) fs s' else Seg (model C.prog C.w) A0.in1 (RG L e it) (YG C L e it out) n s₀ c ((execs orelse env).wrap K H gd lv) fs s'):
  Seg (model C.prog C.w) A0.in1 (RG L e it) (YG C L e it out) n s₀ c ((exec (.If test body orelse pos) env).wrap K H gd lv) fs s:=by
 refine VG (D2 (h.run _ env [L] [e,it] ρ [] [] s _ _ _ R I.inv I.fr q) (λfw s' p=>?_) λzz zz x=>x);refine iB p λzq0 α' I' S'=>?_;subst zq0;obtain rfl:=lr I';have S2:aU [L] [] [] s [] [] s':=S'.up;exact next s' (I.step G S2 I' (I.fr.step I.inv S')) (mv.trans (aG.of_step S2 I.inv I').up1)
theorem ow:∀ {vs:List Value} {ds:List PyData} {h1 h2:Heap} {M1 M2:List Addr},(∀d∈ds,gq (some (.d d)))→aw h1 M1 vs ds→aw h2 M2 vs ds
 | [],[],_,_,_,_,_,_=>aw.nil _ _
 | [],_::_,_,_,_,_,_,r=>by have:=r.length;simp at this
 |_::_,[],_,_,_,_,_,r=>by have:=r.length;simp at this
 |v::vs,d::ds,h1,h2,M1,M2,hd,r=>by
  refine fY r.uncons λa b=>?_;exact .ccons (qu (V:=.d d) (α1:=[]) (α2:=[]) (hd d (by simp)) a) (ow (λd hd'=>hd d (by simp [hd'])) b)
theorem uO(R:cP (A0.in1.over c fs) 1)(G:Rh C env L e it x St)(I:v6 C env L e it x St al k ρ s)(mv:aG [L,e,it] [] s₀ s){yp:Pos}{gs:List EF}
  (h:dc C 1 rN es gs) (q:eX gs ρ []=some (Vs,[])) (q2:lJ Vs []=some (ds,[])) (hsz:ds.length≤sizeLine) (hds:∀d∈ds,gq (some (.d d))) (hρ:∀V∈ρ,gq V) (hout:out[out.length-1-n]? =some (.tuple ds))
  (hfs:splitAtGen fs=none) (hgd:gd false=false) (hfg:fs.any Frame.guarded=false)
  (next:∀s',v6 C env L e it x St al k ρ s'→Seg (model C.prog C.w) A0.in1 (RG L e it) (YG C L e it out) n s' c (K .next) fs s'):
  Seg (model C.prog C.w) A0.in1 (RG L e it) (YG C L e it out) (n+1) s₀ c ((exec (.Expr (.Yield (some (.Tuple es kk tp)) yp) pos) env).wrap K H gd lv) fs s:=by
 refine seg_Expr_Yield hfs hgd hfg ?_ (by rw [G.ge.sc];kernel_rfl) (by unfold interactive;rw [G.ge.sc];kernel_rfl);refine Tuple_ (D2 (h.run _ env [L] [e,it] ρ [] [] s _ Vs [] tp R I.inv I.fr q) (λvs s1 p=>?_) λzz zz x=>x);refine cn p λα1 I1 S1 r1=>?_;obtain rfl:=lr I1;refine dU (jm I1 r1 q2) λI2 S2 r2=>?_;refine Ia ?_ (by show vs.toArray.size≤sizeLine;rw [OP,r2.length];exact hsz);intro kap hk;have S12:aU [L] [] [] s [] [] s1:=S1.up;have I3:=I2.keeps (tk:=s1.toks) (bb s1.heap {cls:=.type "tuple",data:=.seq vs.toArray});have S3:aU [L] [] [] s1 [] [] {s1 with heap:=s1.heap.push {cls:=.type "tuple",data:=.seq vs.toArray},toks:=s1.toks}:=(aU.keeps (bb s1.heap _)).up;have S4:=S12.trans S3;have GI1:v6 C env L e it x St al k ρ s1:=I.step G S12 I1 (I.fr.step I.inv S1);have GI:v6 C env L e it x St al k ρ {s1 with heap:=s1.heap.push {cls:=.type "tuple",data:=.seq vs.toArray},toks:=s1.toks}:=GI1.step G S3 I3 (GI1.fr.step I1 (aU.keeps (bb s1.heap _)));have hnew:s1.heap.objs.size∉[L,e,it]:= λhb=>by
  have hdom:∀b∈[L,e,it],∃o,s1.heap.get? b=some o:= λb hb=>by
   simp only [Ch,DM,or_false] at hb
   rcases hb with rfl|rfl|rfl
   ·refine au ((GI1.fr.own b (by simp)).1) λo ho zz=>?_
    exact ⟨o,ho⟩
   ·exact GI1.inv.tdom b (by simp)
   ·exact GI1.inv.tdom b (by simp)
  refine bP (hdom _ hb) λo ho=>?_;rw [bw (DI _)] at ho;exact ct ho
 refine (uC (⟨_,hout,⟨s1.heap.objs.size,vs.toArray,ds,rfl,rfl,⟨_,Dm _ rfl,rfl,_,rfl⟩,λh M=>ow hds (by simpa using r2),?_⟩,λa ha=>by cases ha;exact hnew⟩) (mv.trans (aG.of_step S4 I.inv I3).up1) I3 ((let ⟨o,ho,_⟩:=(GI.fr.own L (by simp)).1;⟨o,ho⟩)) (λs'' hs I''=>?_))
 ·have h1:s.heap.get? s1.heap.objs.size=none:=dW S1.dom (bw (DI _))
  cases q:s₀.heap.get? s1.heap.objs.size with
  |none=>rfl
  |some o=>
   have:=mv.heap _ o hnew q
   rw [h1] at this;exact ct this
 ·refine hk .none s'' ?_
  exact next s'' (GI.same G hs I'' hρ)
end
noncomputable def FE:Stmt→Expr
 | .For t _ _ _ _=>t
 |_=>.Constant .none 0 ⟨0,0,0,0⟩
noncomputable def Yl:Stmt→List Stmt
 | .For _ _ b _ _=>b
 |_=>[]
noncomputable abbrev GD:Stmt:=dE (ar (ay 1)) 2
section
theorem HL:ab C n rN (.Name "pos" pos) (a9 1):=qV 1 ∅ ∅ ∅ ∅
theorem Rq:ab C n rN (.Name "escape" pos) (a9 2):=qV 2 ∅ ∅ ∅ ∅
theorem MQ:ab C n rN (.Name "ch" pos) (a9 3):=qV 3 ∅ ∅ ∅ ∅
theorem UE:aA C rN "pos" 1:=tv 1 ∅ ∅ ∅
theorem JN:aA C rN "escape" 2:=tv 2 ∅ ∅ ∅
theorem aa4:aA C rN "ch" 3:=tv 3 ∅ ∅ ∅
theorem ae1:nP C rN (FE GD) true (jc 1 3):=eW UE aa4
end
theorem gE{p:Int}{b:Bool}{c:Option AV}(h:gq c):∀V∈mF x p b c,gq V:= λV hV=>by
 simp only [mF,Ch,DM,or_false] at hV
 rcases hV with rfl|rfl|rfl|rfl
 ·trivial
 ·trivial
 ·trivial
 ·exact h
theorem XW(c:Nat)(μ:List ah):aT (.d (.str "\\")) (.d (.str ⟨#[c]⟩)) μ=some (.d (.str ⟨#[92,c]⟩),μ):=by
 refine (?_:(if ("\\":Str).length+(⟨#[c]⟩:Str).length≤sizeLine then some (AV.d (.str (("\\":Str)++⟨#[c]⟩)),μ) else none)=_);refine rA (if_pos (show ("\\":Str).length+(⟨#[c]⟩:Str).length≤sizeLine by show ("\\":Str).length+1≤sizeLine;decide+kernel)) ?_;rfl
theorem al4{k:Int}{b:Bool}(c:Nat):eX [a9 1,aj (kS "\\") (a9 3) aT] (mF x k b (some (.d (.str ⟨#[c]⟩)))) []=some ([.d (.int k),.d (.str ⟨#[92,c]⟩)],[]):=by
 have hb:aj (kS "\\") (a9 3) aT (mF x k b (some (.d (.str ⟨#[c]⟩)))) []=some (.d (.str ⟨#[92,c]⟩),[]):=XW c [];have ha:a9 1 (mF x k b (some (.d (.str ⟨#[c]⟩)))) []=some (.d (.int k),[]):=rfl;simp only [eX,ha,hb,bpS]
theorem ao4{k:Int}{b:Bool}{c:Nat}(h:¬c=92):bC (a9 3) (kS "\\") dH (mF x k b (some (.d (.str ⟨#[c]⟩)))) []=some (false,[]):=by
 refine (?_:some ((⟨#[c]⟩:Str)==("\\":Str),([]:List ah))=_)
 have:((⟨#[c]⟩:Str)==("\\":Str))=false:=by
  rw [beq_eq_false_iff_ne];intro q
  have:(⟨#[c]⟩:Str)=⟨#[92]⟩:=q
  injection this with this
  have:=congrArg Array.toList this
  simp at this
  exact h this
 rw [this]
theorem xU{out r:List PyData}(h:out.drop (out.length-(d::r).length)=d::r):out[out.length-1-r.length]? =some d∧out.drop (out.length-r.length)=r:=by
 have hl:(out.drop (out.length-(d::r).length)).length=(d::r).length:=by rw [h]
 rw [Rg,AO] at hl
 have hlen:r.length+1≤out.length:=by lia
 have e:out.length-1-r.length=out.length-(d::r).length:=by rw [AO];lia
 constructor
 ·rw [e,←Uj,h];rfl
 ·have:out.length-r.length=1+(out.length-(d::r).length):=by rw [AO];lia
  rw [Nat.add_comm] at this
  rw [this,←UC,h];rfl
section
variable {e it:Addr} {St:Nat→Heap→Prop} {out:List PyData} {kf:Result→Sem Fin} {g:Bool} {l:List Value} {kp:List Value}
theorem Df{p:Pos}(hg:g=false)(G:Rh C env L e it x St)
  (tail:∀k pp esc och s₀ s,v6 C env L e it x St false k (mF x pp esc och) s→gq och→pp=(k:Int)-1∨esc=false→aG [L,e,it] [] s₀ s→out.drop (out.length-(eh [] k esc).length)=eh [] k esc→
   Seg (model C.prog C.w) A0.in1 (RG L e it) (YG C L e it out) (eh [] k esc).length s₀ (.func (ar (ay 1)) env) (kf (.ok .next)) [] s):
  ∀ (r:List Nat) (k:Nat) (pp:Int) (esc:Bool) (och:Option AV) (s₀ s:Shared),x.cps.toList.drop k=r→k≤x.cps.size→v6 C env L e it x St true k (mF x pp esc och) s→gq och→pp=(k:Int)-1∨esc=false→aG [L,e,it] [] s₀ s→
   out.drop (out.length-(eh r k esc).length)=eh r k esc→
   Seg (model C.prog C.w) A0.in1 (RG L e it) (YG C L e it out) (eh r k esc).length s₀ (.forLoop (FE GD) (.ref e) (Yl GD) [] env) ((model C.prog C.w).den (.forLoop (FE GD) (.ref e) (Yl GD) [] env)) [.ret kf none g l (.func (ar (ay 1)) env) p kp] s:=by
 subst hg;intro r
 induction r with
 |nil=>
  intro k pp esc och s₀ s hx hk I ho hp mv hout;have hkz:k=x.cps.size:=by
   have:=congrArg NE hx
   simp at this;lia
  refine oD ?_;refine bP (I.en rfl) λold he=>?_;refine np G.dn rfl he (hkz▸I.st rfl) λh' hx' hlv=>rT ?_;have mv':aG [it] [] s {s with heap:=h'}:=aG.of_heap (tk:=s.toks) λb o hb z=>hx' b o (λq=>hb (by simp [q])) z;have mv2:aG [L,e,it] [] s₀ {s with heap:=h'}:=mv.trans (mv'.mono (λa ha=>.inl (by simp at ha;simp [ha])) λzz h=>h);have I':bl C [e,it] [] [] {s with heap:=h'}:=I.inv.moves mv' (λb hb=>by simp at hb;simp [hb]) λb hb=>?_
  ·have F':=bh.same G.ge I.fr (h':=h') (λo z=>hx' L o G.Li z) (gE ho)
   exact tail k pp esc och s₀ _ ⟨I',F',λq=>(by cases q),λq=>(by cases q)⟩ ho hp mv2 hout
  ·simp only [Ch,DM,or_false] at hb
   obtain rfl:=hb;exact hlv
 |cons c r ih=>
  intro k pp esc och s₀ s hx hk I ho hp mv hout;have hc:x.cps[k]? =some c:=by
   have:=congrArg List.head? hx
   rw [Uj] at this
   simpa using this
  have hlt:k<x.cps.size:=(LB.mp hc).1;have hx2:x.cps.toList.drop (k+1)=r:=by
   rw [←UC,hx];rfl
  refine oD ?_;refine bP (I.en rfl) λold he=>?_;refine wpAny_pyNext_enum_itemD (G.dr _ rfl) he (I.st rfl) hlt G.ei (by simpa using G.ei) λv h' tk hP ho' hs' hT hsz hkp=>?_;refine kv hP λc' u hc' zq3=>?_;subst zq3;rw [hc] at hc';cases hc'
  refine PL ho' λh2 he2 hsb=>?_;have mv':aG [e,it] [] s {s with heap:=h2,toks:=tk+1}:=aG.of_heap λb o hb z=>by
   simp only [Ch,DM,or_false,not_or] at hb
   exact (hsb.2 b hb.1).trans (hkp b o hb.1 hb.2 z)
  have st2:St (k+1) h2:=(G.dr A0 rfl).frame _ _ _ hs' λb hb o y=>by
   obtain rfl:b=it:=by simpa using hb
   exact (hsb.2 b G.ei.symm).trans y
  have I2:bl C [e,it] [] [] {s with heap:=h2,toks:=tk+1}:=I.inv.moves mv' (λb hb=>hb) λb hb=>by
   simp only [Ch,DM,or_false] at hb
   rcases hb with rfl|rfl
   ·exact ⟨_,he2⟩
   ·exact (G.dr A0 rfl).live _ _ st2
  have F2:=bh.same G.ge I.fr (h':=h2) (λo z=>mv'.heap L o (by simp [G.Le,G.Li]) z) (gE ho);have G2:v6 C env L e it x St true (k+1) (mF x pp esc och) {s with heap:=h2,toks:=tk+1}:=⟨I2,F2,λzz=>⟨_,by simpa using he2⟩,λzz=>st2⟩;have hae:s.heap.objs.size≠e:= λq=>by rw [←q] at he;rw [show IsEnum s.heap s.heap.objs.size it (k:Int) old=(s.heap.get? s.heap.objs.size=some _) from rfl,bw (DI _)] at he;cases he
  refine D2 (ae1.2 _ env [L] [e,it] (mF x pp esc och) [] [] _ _ (.ref s.heap.objs.size) (.tuple [.int k,.str ⟨#[c]⟩]) (mF x k esc (some (.d (.str ⟨#[c]⟩)))) rfl I2 F2
   (dy _ (#[.int k tk,.str ⟨#[c]⟩ u]) _ rfl rfl ⟨_,(hsb.2 _ hae).trans hT,rfl,_,rfl⟩ (.ccons (aJ.int ..) (.ccons (aJ.str ..) (aw.nil _ _)))) rfl) (λzz s3 st=>?_) λzz zz x=>x
  refine dU st λI3 S3 F3=>?_;have G3:=G2.step G S3 I3 F3;have mv3:aG [L,e,it] [] s₀ s3:=(mv.trans (mv'.mono (λa ha=>.inl (D1 _ ha)) λzz h=>h)).trans (aG.of_step S3 I2 I3).up1;have ho3:gq (some (.d (.str ⟨#[c]⟩))):=trivial;have hk1:(k:Int)=((k+1:Nat):Int)-1:=by push_cast;lia
  refine KU (tE fy G G3 mv3 (iD (λzz zz=>rfl) Rq) rfl λs4 G4 mv4=>?_);cases esc with
  |true=>
   rw [if_pos rfl];have ho:=xU (show out.drop (out.length-(J1 [.int k,.str ⟨#[92,c]⟩]::eh r (k+1) false).length)=_ from hout);refine KU (uO (n:=(eh r (k+1) false).length) fy G G4 mv4 (dA (λzz=> ∅) HL (dA (λzz=> ∅) (av bT MQ br) ae)) (Vs:=[.d (.int k),.d (.str ⟨#[92,c]⟩)]) (al4 c) rfl (by show 2≤sizeLine;decide) UW (gE ho3) ho.1 rfl rfl rfl λs5 G5=>?_);refine KU (J0 fy G G5 (aG.refl _ _ _) (bE dh JN (λzz zz=> ∅)) rfl λs6 G6 mv6=>?_);exact Uh rfl (ih (k+1) k false _ _ _ hx2 hlt G6 ho3 (.inl hk1) mv6 ho.2)
  |false=>
   rw [if_neg (by decide)]
   by_cases h92:c=92
   ·have hout':out.drop (out.length-(eh r (k+1) true).length)=eh r (k+1) true:=by simpa [An,h92] using hout
    have hlen:(eh (c::r) k false).length=(eh r (k+1) true).length:=by simp [An,h92]
    rw [hlen];refine KU (tE fy G G4 mv4 (b:=true) (cj MQ bT dM ∅) (by subst h92;rfl) λs5 G5 mv5=>?_);rw [if_pos rfl];refine KU (J0 fy G G5 mv5 (bE dh JN (λzz zz=> ∅)) rfl λs6 G6 mv6=>?_);exact Uh rfl (ih (k+1) k true _ _ _ hx2 hlt G6 ho3 (.inl hk1) mv6 hout')
   ·have hesc:eh (c::r) k false=.tuple [.int k,.str ⟨#[c]⟩]::eh r (k+1) false:=by simp [An,h92]
    rw [hesc] at hout⊢
    have ho:=xU hout;refine KU (tE fy G G4 mv4 (b:=false) (cj MQ bT dM ∅) (ao4 h92) λs5 G5 mv5=>?_);rw [if_neg (by decide)];refine KU (uO (n:=(eh r (k+1) false).length) fy G G5 mv5 (dA (λzz=> ∅) HL (dA (λzz=> ∅) MQ ae)) (Vs:=[.d (.int k),.d (.str ⟨#[c]⟩)]) rfl rfl (by show 2≤sizeLine;decide) UW (gE ho3) ho.1 rfl rfl rfl λs6 G6=>?_);exact Uh rfl (ih (k+1) k false _ _ _ hx2 hlt G6 ho3 (.inl hk1) (aG.refl _ _ _) ho.2)
end
theorem FC{it:Addr}{t:Tok}(hit:h'.IsStrIter it (strIterType x) x t 0):∃St:Nat→Heap→Prop,(∀A':Around,A'.handled=none→Draws C.prog C.w A' it [it] x.cps.size (QK x) St)∧Af C.prog C.w it x.cps.size St∧St 0 h':=by
 cases ha:x.cps.all (· <128)
 ·have hit':h'.IsStrIter it "str_iterator" x t 0:=by simpa [strIterType,ha] using hit
  exact (cJ (λi h=>h.IsStrIter it "str_iterator" x t i) (λA' hA=>Draws.strWide hA it x t) (λA s Q E hh hst hE=>nW hh hst (by simp) hE) hit')
 ·have hit':h'.IsStrIter it "str_ascii_iterator" x t 0:=by simpa [strIterType,ha] using hit
  exact (cJ (λi h=>h.IsStrIter it "str_ascii_iterator" x t i) (λA' hA=>Draws.strAscii hA it x t) (λA s Q E hh hst hE=>mO hh hst (by simp) hE) hit')
theorem Nd{i:Int}(h:Q (.int i s.toks) {s with toks:=s.toks+1}):wpAny (model prog w) A (eval (.Constant (.int i) k pos) env) Q E s:= λzz zz zz=>h
section
variable {e it:Addr} {St:Nat→Heap→Prop} {out:List PyData}
theorem CD{K:Flow→Sem Fin}{H:Value→Sem Fin}{gd:Bool→Bool}{lv:List Value→List Value}(hgd:gd false=false)(hK:K .next=leafOf (.ok (.ret .none)))(G:Rh C env L e it x St){pp:Int}{esc:Bool}{och:Option AV}(I:v6 C env L e it x St false k (mF x pp esc och) s)(ho:gq och)(hp:pp=(k:Int)-1∨esc=false)(mv:aG [L,e,it] [] s₀ s)
  (hout:out.drop (out.length-(eh [] k esc).length)=eh [] k esc):
  Seg (model C.prog C.w) A0.in1 (RG L e it) (YG C L e it out) (eh [] k esc).length s₀ (.func (ar (ay 1)) env) ((execs [dE (ar (ay 1)) 3] env).wrap K H gd lv) [] s:=by
 refine KU (tE qr G I mv (iD (λzz zz=>rfl) Rq) rfl λs4 G4 mv4=>?_);cases esc with
 |true=>
  rw [if_pos rfl];obtain rfl:pp=(k:Int)-1:=by simpa using hp
  have ho2:=xU (show out.drop (out.length-(J1 [.int ((k:Int)-1),.str ⟨#[92]⟩]::[]).length)=_ from hout);refine KU (uO (n:=0) qr G G4 mv4 (dA (λzz=> ∅) HL (dA (λzz=> ∅) bT ae)) (Vs:=[.d (.int ((k:Int)-1)),.d (.str "\\")]) rfl rfl (by show 2≤sizeLine;decide) UW (gE ho) ho2.1 rfl hgd rfl λs5 G5=>?_);refine (?_:Seg _ _ _ _ _ _ _ (K .next) _ _);rw [hK];exact seg_end _ (fu rfl rfl (aG.refl _ _ _))
 |false=>
  rw [if_neg (by decide)];refine (?_:Seg _ _ _ _ _ _ _ (K .next) _ _);rw [hK];exact seg_end _ (fu rfl rfl mv4)
theorem y9(hg:C.mg "enumerate"=none)(G:z8 env L)(hLb:C.B.get? L=none){t:Tok}{m:Str→Option Value}(I:bl C [] [] [] s)(hn:s.heap.Ns L m)(hm:m "addr"=some (.str x t)):
  ∃e it,s.heap.get? e=none∧s.heap.get? it=none∧e≠it∧L≠e∧L≠it∧
   Seg (model C.prog C.w) A0.in1 (RG L e it) (YG C L e it (eh x.cps.toList 0 false)) (eh x.cps.toList 0 false).length s (.func (ar (ay 1)) env) ((model C.prog C.w).den (.func (ar (ay 1)) env)) [] s:=by
 have hLs:L<s.heap.objs.size:=hn.lt;refine (Dx (s.heap.objs.size+1) s.heap.objs.size (bw (OV _)) (bw (DI _)) (Nm _) (LJ (P1 hLs)) (LJ hLs) ?_);have hkk:(env.scope.kind== .class||(env.scope.kind== .module&&env.locals != env.globals))=false:=by rw [G.sc];kernel_rfl
 have kl:∀y,rN.scope.names.lookup y=some .local→env.kindOf y=some .local:= λy h=>by unfold J3;rw [G.sc];exact h
 have hn0:s.heap.Ns env.locals m:=by rw [G.lo];exact hn
 refine seg_func (KU (qk (M7 (Nd ?_) ∅)));refine P7 (m:=m) (kl _ ∅) hn0 (λh1 hn1 hs1=>?_) hkk;refine KU (qk (M7 (Et ?_) ∅));refine P7 (kl _ ∅) hn1 (λh2 hn2 hs2=>?_) hkk;refine KU (OD (λzz=>rfl) ?_);have hsz2:h2.objs.size=s.heap.objs.size:=hs2.1.trans hs1.1;have hk2:∀b o,b≠L→s.heap.get? b=some o→h2.get? b=some o:= λb o hb z=>(hs2.2 b (by rw [G.lo];exact hb)).trans ((hs1.2 b (by rw [G.lo];exact hb)).trans z);have hg2:h2.Ns mainGlobals C.mg:=by
  refine (C.g.keeps I.keep).at' λo z=>hk2 _ _ (λq=>?_) z;refine ft C.g λob zz zz z' zz=>?_;rw [←q,z'] at hLb;exact ct (ES hLb)
 have hb2:h2.Ns builtinsNs C.mb:=by
  refine (C.b.keeps I.keep).at' λo z=>hk2 _ _ (λq=>?_) z;refine ft C.b λob zz zz z' zz=>?_;rw [←q,z'] at hLb;exact ct (ES hLb)
 refine yt (m:=eval (.Name "enumerate" _) env) (E_ (by rw [G.sc];kernel_rfl) (by unfold J3;rw [G.sc];kernel_rfl) (Ld (by rw [G.gl];exact hg2) hg (by rw [G.bn];exact hb2) ((C.bt _ (by decide+kernel)).trans (∅ :bootBuiltins "enumerate"=some (.type "enumerate"))) ?_) ∅);refine bD "enumerate" _ _ _ _ _ _ _ _ ∅ ?_
 refine Se (Rw ?_);refine UI (Pk (by rw [G.sc];kernel_rfl) (kl _ ∅) hn2 (v:=.str x t) (by rw [if_neg (by decide+kernel),if_neg (by decide+kernel)];exact hm) ?_) ∅
 refine Sr ?_;refine call_enumerate_str λh3 he3 hit3 hsz3 hk3=>?_;replace he3:IsEnum h3 (h2.objs.size+1) h2.objs.size 0 .none:=he3;replace hit3:h3.IsStrIter h2.objs.size (strIterType x) x t 0:=hit3;rw [hsz2] at he3 hit3
 refine (?_:wpAny _ _ (pyIter (.ref (h2.objs.size+1))) _ _ _);rw [hsz2];refine Qr he3 λp=>?_;refine cn (FC (C:=C) hit3) λSt hD hdn hst=>?_;have hLn:h3.Ns L _:=t_ (by rw [←G.lo];exact hn2) λo z=>hk3 _ _ z;have hk03:∀b o,b≠L→s.heap.get? b=some o→h3.get? b=some o:= λb o hb z=>hk3 b o (hk2 b o hb z);have GC:Rh C env L (s.heap.objs.size+1) s.heap.objs.size x St:=⟨G,hD,hdn,Nm _,LJ (P1 hLs),LJ hLs⟩;have hLg:s.heap.get? L≠none:= λq=>by
  refine ft hn λob zz zz z zz=>?_;rw [q] at z;exact ct z
 have mv:aG [L] [] s {s with heap:=h3,toks:=s.toks+1+1+1}:=aG.of_heap λb o hb z=>hk03 b o (λq=>hb (by simp [q])) z;have I3:bl C [s.heap.objs.size+1,s.heap.objs.size] [] [] {s with heap:=h3,toks:=s.toks+1+1+1}:=by
  have I0:bl C [L] [] [] s:=⟨I.keep,rfl,λi a c h1 zz=>by simp at h1,N0,λa zz h=>by simp at h,λa ha=>by
   obtain rfl:a=L:=by simpa using ha
   exact Option.ne_none_iff_exists'.mp hLg,λa ha=>by
   obtain rfl:a=L:=by simpa using ha
   exact hLb,λa h=>by simp at h,I.gens,I.os⟩
  refine I0.movesG mv (λb hb=>.inl hb) (λa ha=>.inr ?_) λa ha=>?_
  ·simp only [Ch,DM,or_false] at ha
   rcases ha with rfl|rfl
   ·exact bw (OV _)
   ·exact bw (DI _)
  ·simp only [Ch,DM,or_false] at ha
   rcases ha with rfl|rfl
   ·exact ⟨_,he3⟩
   ·refine au hit3 λo z zz=>?_;exact ⟨o,z⟩
 have F3:bh C rN env [L] (mF x 0 false none) h3 [] ([s.heap.objs.size+1,s.heap.objs.size]++ai [] []):=by
  refine Zf G hLn hLb (by simp [GC.Le,GC.Li]) rfl λi y V e1 e2=>?_;rw [kW] at e1
  match i,e1,e2 with
  |0,e1,e2=>cases e1;cases e2;exact (aZ _ (by rw [if_neg (by decide+kernel),if_neg (by decide+kernel)];exact hm) (aJ.str ..))
  |1,e1,e2=>cases e1;cases e2;exact (aZ _ (by rw [if_neg (by decide+kernel),if_pos rfl]) (aJ.int ..))
  |2,e1,e2=>cases e1;cases e2;exact (aZ _ (by rw [if_pos rfl]) (aJ.bool ..))
  |3,e1,e2=>cases e2
 have GI:v6 C env L (s.heap.objs.size+1) s.heap.objs.size x St true 0 (mF x 0 false none) {s with heap:=h3,toks:=s.toks+1+1+1}:=⟨I3,F3,λzz=>⟨_,he3⟩,λzz=>hst⟩;exact Df (out:=eh x.cps.toList 0 false) rfl GC (λk pp esc och s₀ s I ho hp mv hout=>CD rfl rfl GC I ho hp mv hout) x.cps.toList 0 0 false none _ _ rfl (Lw _) GI trivial (.inr rfl) mv.up1 (by simp)
end
noncomputable abbrev oN(x:Str):List PyData:=eh x.cps.toList 0 false
def GSt(C:gK)(a L:Addr)(g:Nat)(env:Env)(x:Str)(wr:List Addr)(i:Nat)(s:Shared):Prop:=
 (i=0∧wr=[a,L]∧s.gens[g]? =some (.fresh (.func (ar (ay 1)) env))∧∃m t,s.heap.Ns L m∧m "addr"=some (.str x t))∨
 (0<i∧∃e it gs,wr=[a,L,e,it]∧a∉[L,e,it]∧s.gens[g]? =some gs∧∀s'',(∀b∈[L,e,it],∀o,s.heap.get? b=some o→s''.heap.get? b=some o)→bl C [e,it] [] [] s''→
  gs.Goes (model C.prog C.w) A0.in1 (RG L e it) (YG C L e it (oN x)) ((oN x).length-i) (.send .none) s'')
noncomputable def Qv(C:gK)(a L:Addr)(g:Nat)(env:Env)(x:Str):List Addr→xH:= λwr zz zz zz i s=>s.heap.IsGen a g∧GSt C a L g env x wr i s
noncomputable def T7(C:gK)(a L:Addr)(g:Nat)(env:Env)(x:Str):List Addr→List Addr→List Addr→List ah→Nat→Value→Shared→Prop:= λwr T α μ i v s=>(s.heap.IsGen a g∧GSt C a L g env x wr (i+1) s)∧∀a',v=.ref a'→a'∉T++ai α μ
section
variable {g:Nat}
theorem aG.running{s₁:Shared}{gs':GenState}{g:Nat}(mv:aG W [] (s.setGen g .running) s₁)(hb:gs'.bare=true):aG W [g] s (s₁.setGen g gs'):=
 ((aG.setGen (g:=g) (x:=.running) rfl).mono (λzz h=>by simp at h) λzz h=>h).trans ((mv.mono (λzz h=>.inl h) λzz h=>by simp at h).trans ((aG.setGen hb).mono (λzz h=>by simp at h) λzz h=>h))
theorem ve(hg:C.mg "enumerate"=none)(G:z8 env L)(hLb:C.B.get? L=none)(haL:a≠L)(I:bl C (wr++T) α μ s)(st:s.heap.IsGen a g∧GSt C a L g env x wr i s):
  ∃e it gs,s.gens[g]? =some gs∧a∉[L,e,it]∧(∀b∈[a,L,e,it],b∈wr∨s.heap.get? b=none)∧(∀b∈wr,b∈[a,L,e,it])∧gs.Goes (model C.prog C.w) A0.in1 (RG L e it) (YG C L e it (oN x)) ((oN x).length-i) (.send .none) (s.setGen g .running):=by
 obtain ⟨ho,h|h⟩:=st
 ·refine Ga h λzq0 zq1 hgs m t hn hm=>?_
  subst zq0;subst zq1;refine El (y9 hg G hLb (s:=s.setGen g .running) ((I.base (T':=[]) (λzz h=>by simp at h)).setGen rfl) hn hm) λe it he hi hei hLe hLi sg=>?_;have hae:a≠e:= λq=>by refine ft ho λo zz zz z zz=>?_;rw [q] at z;rw [show s.heap.get? e=none from he] at z;exact ct z
  have hai:a≠it:= λq=>by refine ft ho λo zz zz z zz=>?_;rw [q] at z;rw [show s.heap.get? it=none from hi] at z;exact ct z
  refine ⟨e,it,_,hgs,by simp [haL,hae,hai],λb hb=>?_,λb hb=>?_,rfl,sg⟩
  ·simp only [Ch,DM,or_false] at hb
   rcases hb with rfl|rfl|rfl|rfl
   ·exact .inl (by simp)
   ·exact .inl (by simp)
   ·exact .inr he
   ·exact .inr hi
  ·simp only [Ch,DM,or_false] at hb
   rcases hb with rfl|rfl<;>simp
 ·refine Dq h λhi0 e it gs zq4 han hgs hk=>?_
  subst zq4;exact (h_ e it gs hgs han (λb hb=>.inl hb) (λb hb=>hb) (hk _ (λzz zz zz z=>z) ((I.base (T':=[e,it]) (λb hb=>yo _ (D1 _ (D1 _ hb)))).setGen rfl)))
theorem hU.gen(hg:C.mg "enumerate"=none)(G:z8 env L)(hLb:C.B.get? L=none)(haL:a≠L):hU C (.ref a) [g] (oN x) none true (Qv C a L g env x) (T7 C a L g env x) where
 frame:=by
  intro wr O T T' α α' μ μ' i s s' st S hO hwr hT hwT I I' hgd;refine fY st λho h=>?_;have hkeep:∀b∈wr,∀o,s.heap.get? b=some o→s'.heap.get? b=some o:= λb hb o z=>S.ext b o z λq=>(AA.mp q).elim (λq=>hwr b q hb) λq=>I.apart b (hwT b hb) (db q);have haw:a∈wr:=by
   rcases h with ⟨_,rfl,_⟩| ⟨_,e,it,gs,rfl,_⟩<;>simp
  refine ⟨let ⟨o,nm,qn,z,r⟩:=ho;⟨o,nm,qn,hkeep a haw o z,r⟩,?_⟩
  rcases h with ⟨rfl,rfl,hgs,m,t,hn,hm⟩| ⟨hi0,e,it,gs,rfl,han,hgs,hk⟩
  ·exact .inl ⟨rfl,rfl,S.gens _ _ hgs,m,t,t_ hn λo z=>hkeep L (by simp) o z,hm⟩
  ·exact .inr ⟨hi0,e,it,gs,rfl,han,S.gens _ _ hgs,λs'' hs I''=>hk s'' (λb hb o z=>hs b hb o (hkeep b (D1 _ hb) o z)) I''⟩
 item:=by
  intro A wr T α μ i d s Q E R I st ed k;refine i4 (ve hg G hLb haL I st) λe it gs hgs han hwf hww hgo=>?_;have hlt:i< (oN x).length:=(BJ.mp ed).1;obtain ⟨m,hm⟩:∃m,(oN x).length-i=m+1:=⟨(oN x).length-i-1,by lia⟩;rw [hm] at hgo
  refine w_ R (oz (P:= λn s₀ s₁=>n=0∧aG [L,e,it] [] s₀ s₁) rfl (C.nolim.keeps I.keep) (by show 591<1000;decide) st.1 hgs hgo (λv s₁ gs' hb hv=>?_) λs₁ hp h' hk=>absurd hp.1 (Nat.succ_ne_zero m));refine ig hv λzp0 mv I1 hL1 hk=>?_;obtain ⟨d',hd',hit,hna⟩:=zp0;have hidx:(oN x).length-1-(m+1-1)=i:=by lia
  rw [hidx,ed] at hd'
  cases hd';refine i4 hit λa' items ds zq3 zq4 htup hrel hfr=>?_;subst zq3;subst zq4;have mv':aG [L,e,it] [g] s (s₁.setGen g gs'):=mv.running hb;have hdom:∀b∈[L,e,it],∃o,s₁.heap.get? b=some o:= λb hb=>by
   rcases Ch.mp hb with rfl|hb
   ·exact hL1
   ·exact I1.tdom b hb
  have hgens:s₁.gens[g]? =some .running:=mv.gens g _ (by simp) (setGen_self hgs);have hIg:(s₁.setGen g gs').heap.IsGen a g:=let ⟨o,nm,qn,z,r⟩:=st.1;⟨o,nm,qn,mv'.heap a o han z,r⟩
  refine k (.ref a') _ [a,L,e,it] (mv'.mono (λb hb=>hwf b (D1 _ hb)) λzz h=>h) hwf (I.movesG mv' (λb hb=>(hwf b (D1 _ hb)).imp (yo _) id) (λb hb=>?_) λb hb=>?_) ⟨a',items,ds,rfl,rfl,htup,hrel _ _⟩ ⟨⟨hIg,.inr ⟨Nat.succ_pos _,e,it,gs',rfl,han,setGen_self hgens,λs'' hs I''=>?_⟩⟩,λa2 ha2 hm=>?_⟩
  ·rcases AA.mp hb with h|h
   ·exact (hwf b h).imp (yo _) id
   ·exact .inl (CE _ h)
  ·by_cases q:b∈[L,e,it]
   ·exact hdom b q
   ·rcases AA.mp hb with h|h
    ·rcases Ch.mp h with rfl|h
     ·refine ft hIg λo zz zz z zz=>?_;exact ⟨o,z⟩
     ·exact absurd h q
    ·refine bP (I.tdom b (CE _ h)) λo z=>?_
     exact ⟨o,mv'.heap b o q z⟩
  ·rw [show (oN x).length-(i+1)=m by lia]
   exact hk s'' hs I''
  ·cases ha2
   have hdn:s.heap.get? a'=none:=hfr
   rcases AA.mp hm with h|h
   ·rcases AA.mp h with h|h
    ·rcases Ch.mp h with rfl|h
     ·refine ft st.1 λo zz zz z zz=>?_;rw [hdn] at z;cases z
     ·exact hna a' rfl h
    ·refine bP (I.tdom a' (CE _ h)) λo z=>?_
     rw [hdn] at z;cases z
   ·exact I.mdom a' (CE _ h) hdn
 go:=by
  intro A wr T α μ i d v t s Q E I md tg ir k;exact VX md.1.1 (k s (aG.refl _ _ _) I ir md.1)
 done:=by
  intro A wr T α μ i s Q E R I st ed k;refine i4 (ve hg G hLb haL I st) λe it gs hgs han hwf hww hgo=>?_;have hle:(oN x).length≤i:=G_.mp ed;have hz:(oN x).length-i=0:=by lia
  rw [hz] at hgo
  refine w_ R (oz (P:= λn s₀ s₁=>n=0∧aG [L,e,it] [] s₀ s₁) rfl (C.nolim.keeps I.keep) (by show 591<1000;decide) st.1 hgs hgo (λv s₁ gs' hb hv=>?_) λs₁ hp h' hkp=>?_)
  ·refine ig hv λzz mv I1 hL1 hk=>?_
   exact (hk s₁ (λzz zz zz z=>z) I1).elim
  ·have mv':aG [L,e,it] [g] s {s₁.setGen g .finished with heap:=h'}:=(hp.2.running (gs':=.finished) rfl).trans (aG.mono (wr:=[]) (gi:=[]) ⟨λb o zz z=>hkp b o z,λzz zz zz z=>z,rfl,λh=>h⟩ (λzz h=>by simp at h) λzz h=>by simp at h)
   refine k _ (mv'.mono (λb hb=>hwf b (D1 _ hb)) λzz h=>h) λT' hT'=>I.movesG mv' (λb hb=>(hwf b (D1 _ hb)).imp (yo _) id) (λb hb=>.inl (hT' b hb).1) λb hb=>?_;refine bP (I.tdom b (hT' b hb).1) λo z=>?_;refine ⟨o,mv'.heap b o (λq=>?_) z⟩
   rcases hwf b (D1 _ q) with y|y
   ·exact (hT' b hb).2 y
   ·rw [y] at z;cases z
 self:=by
  intro A wr T α μ i s Q E st h;exact wpAny_pyIter_gen st.1 h
end
section
theorem xn(h:di C "_iter_escaped_chars" 1)(hg:C.mg "enumerate"=none):∃fa o fd,C.mg "_iter_escaped_chars"=some (.ref fa)∧C.B.get? fa=some o∧o.data=.func fd∧
  ∀ (A:Around) (T α:List Addr) (μ:List ah) (s:Shared) (E:Value→Shared→Prop) (x:Str) (t:Tok) (Q:Value→Shared→Prop),A.depth<recursionLimit→bl C T α μ s→
   (∀a L g env s',z8 env L→C.B.get? L=none→a≠L→s.heap.get? a=none→s.heap.get? L=none→s.gens[g]? =none→(∀b o,s.heap.get? b=some o→s'.heap.get? b=some o)→(∀ (i:Nat) (x:GenState),s.gens[i]? =some x→s'.gens[i]? =some x)→bl C ([a,L]++T) α μ s'→
    Qv C a L g env x [a,L] ([a,L]++T) α μ 0 s'→Q (.ref a) s')→wpAny (model C.prog C.w) A (call (.ref fa) [.str x t]) Q E s:=by
 refine fp h λfa o pm cd doc h1 h2 h3 h4=>?_;refine (dy fa o _ h1 h2 h3 (λA T α μ s E x t Q hd I k=>?_));refine wpAny_call (codeAny_call_generator (body:=ar (ay 1)) hd (I.keep _ _ h2) h3 ∅ ∅ rfl (h4.keeps I.keep) ?_);refine Mb (a:=([("addr",UU x t)]:List (Str×Value))) ∅ ?_
 refine RZ (λy hy=>?_) (λy hy=>?_) (λh' hn hs=>?_) ∅
 ·have:((ao (ay 1)).names.all λy=>y.2 != .cell)=true:= ∅
  simpa using Bb.mp this y hy
 ·obtain rfl:y=(("addr",UU x t):Str×Value):=by simpa using hy
  kernel_rfl
 ·have hz:h'.objs.size=s.heap.objs.size+1:=by rw [hs.1,M3]
  have hk1:∀b o,s.heap.get? b=some o→h'.get? b=some o:= λb o z=>(hs.2 b (λq=>by rw [q,bw (DI _)] at z;exact ct z)).trans (BO _ z);have hgn:∀ (i:Nat) (y:GenState),s.gens[i]? =some y→(s.gens.push (.fresh (.func (ar (ay 1)) (newEnv (ao (ay 1)) s.heap.objs.size mainGlobals [] ("_iter_escaped_chars"++".<locals>.") (some fa) cd none builtinsNs))))[i]? =some y:= λi y z=>by
   rw [Array.getElem?_push_lt (LB.mp z).1];exact (Nc _).symm.trans z
  have hk2:∀b o,s.heap.get? b=some o→(h'.push {cls:=.type "generator",data:=.fields #[.int s.gens.size 0,.str "_iter_escaped_chars" (s.toks+1),.str "_iter_escaped_chars" (s.toks+1+1)]}).get? b=some o:= λb o z=>BO _ (hk1 b o z);have haf:s.heap.get? h'.objs.size=none:=bw (by rw [hz];exact OV _);have hLf:s.heap.get? s.heap.objs.size=none:=bw (DI _);have nb:∀b,s.heap.get? b=none→C.B.get? b=none:= λb=>I.fresh;refine ⟨(C.nolim.keeps I.keep).keeps hk1,k h'.objs.size s.heap.objs.size s.gens.size (newEnv (ao (ay 1)) s.heap.objs.size mainGlobals [] ("_iter_escaped_chars"++".<locals>.") (some fa) cd none builtinsNs) _ ⟨rfl,rfl,rfl,rfl⟩ (nb _ hLf) (by rw [hz];exact Nm _) haf hLf (Array.getElem?_size ..) hk2 hgn ?_ ⟨(dy _ _ _ (Dm _ rfl) rfl rfl rfl),.inl (Ku rfl rfl (Array.getElem?_push_size ..) _ t (hn.keeps λb o z=>BO _ z) rfl)⟩⟩;refine I.grow hk2 rfl (λhb=>hb.push rfl) (λb hb=>?_) λb hb=>?_
  ·simp only [Ch,DM,or_false] at hb
   rcases hb with rfl|rfl
   ·exact haf
   ·exact hLf
  ·simp only [Ch,DM,or_false] at hb
   rcases hb with rfl|rfl
   ·exact ⟨_,Dm _ rfl⟩
   ·refine ft hn λo zz zz z zz=>?_
    exact ⟨o,BO _ z⟩
theorem c1(h:di C "_iter_escaped_chars" 1)(hg:C.mg "enumerate"=none):gL C (n+1) "_iter_escaped_chars" aE:=by
 refine dg (xn h hg) λfa o fd h1 h2 h3 hc=>?_;refine (dy fa o fd h1 h2 h3 ?_);intro A T α μ s E vs Vs xs g μ' R I r q;refine ax q λW el q=>ax q λx ex q=>ga q (gF r el λv z rv=>bP (iX ex rv) λt z1=>?_);subst z;subst z1;refine hc A T α μ s E x t _ (by have:=R.depth;unfold recursionLimit;lia) I λa L g env s' G hLb haL haf hLf hgf hk hgk I' st=>?_;exact wpAny_pyIter_gen st.1 (j1 ([a,L]) ([g]) _ _ α (hU.gen hg G hLb haL) I' (aU.of_keeps hk hgk) st (λb hb=>(Ch.mp hb).elim (λq=>q▸haf) λq=>yA.mp q▸hLf) (λi hi=>yA.mp hi▸hgf) (λzz e=>nomatch e))
end
def KS(s₀ s:Shared):Prop:=(∀b o,s₀.heap.get? b=some o→s.heap.get? b=some o)∧∀ (i:Nat) (x:GenState),s₀.gens[i]? =some x→s.gens[i]? =some x
theorem KS.moves(k:KS s₀ s)(x:aG wr gi s s')(hw:∀b∈wr,s₀.heap.get? b=none)(hg:∀i∈gi,s₀.gens[i]? =none):KS s₀ s':=
 ⟨λb o e=>x.heap b o (λq=>by rw [hw b q] at e;exact ct e) (k.1 b o e),λi y e=>x.gens i y (λq=>by rw [hg i q] at e;exact ct e) (k.2 i y e)⟩
theorem KS.fresh(k:KS s₀ s){b:Addr}(h:s.heap.get? b=none):s₀.heap.get? b=none:=by
 cases q:s₀.heap.get? b with
 |none=>rfl
 |some o=>rw [k.1 b o q] at h;exact ct (ES h)
section
theorem wu{S:Addr}{f:Obj→Obj}(I:bl C (wr++S::T) α μ s)(hS:s.heap.get? S=some o)(hf:(f o).isFreed=false):
  aG [S] [] s {s with heap:=s.heap.update S f}∧bl C (wr++S::T) α μ {s with heap:=s.heap.update S f}:=by
 have mv:aG [S] [] s {s with heap:=s.heap.update S f}:=aG.of_heap (tk:=s.toks) λb o hb z=>(Ro _ _ (λq:S=b=>hb (by simp [q]))).trans z;refine ⟨mv,I.moves mv (λb hb=>?_) λb hb=>?_⟩
 ·obtain rfl:b=S:=by simpa using hb
  simp
 ·obtain rfl:b=S:=by simpa using hb
  exact ⟨_,Fk _ hS hf⟩
theorem aG.stepS{S:Addr}(x:aG [S] [] s s')(hd:∃o,s'.heap.get? S=some o):aU [S] α μ s α μ s':=
 ⟨⟨[],by simp,by simp⟩,λb o e hb=>x.heap b o (λq=>hb (yo _ q)) e,λzz h=>.inl h,λb o e=>by
  by_cases q:b=S
  ·exact q▸hd
  ·exact ⟨o,x.heap b o (by simpa using q) e⟩,λi y e=>x.gens i y (by simp) e⟩
theorem Dh{R:Result→Shared→Prop}(W:hU C (.ref a) gi xs none true St Mid)(toSt:∀wr T α μ i v s,Mid wr T α μ i v s→St wr T α μ (i+1) s)
  (fresh:∀wr T α μ i v s,Mid wr T α μ i v s→∀a',v=.ref a'→a'∉T++ai α μ) (S:Addr) (hn:xs.length≤sizeLine) (Rm:cP A.in1 2) (hSf:s₀.heap.get? S=none) (hgi:∀i∈gi,s₀.gens[i]? =none) (hTd:∀b∈T,s₀.heap.get? b≠none) (res:Value):
  ∀ (k i:Nat) (s:Shared) (acc:Array Value) (c:Nat) (wr:List Addr),xs.length-i=k→i≤xs.length→St wr (wr++S::T) α μ i s→bl C (wr++S::T) α μ s→S∉wr→s.heap.get? S=some {cls:=.type "list",dict:=none,data:=.seq acc c,slots:= #[]}→
   aw s.heap ((wr++S::T)++ai α μ) acc.toList (xs.take i)→KS s₀ s→(∀b∈wr,s₀.heap.get? b=none)→
  (∀s' acc' c',bl C (S::T) α μ s'→s'.heap.get? S=some {cls:=.type "list",dict:=none,data:=.seq acc' c',slots:= #[]}→aw s'.heap ((S::T)++ai α μ) acc'.toList xs→KS s₀ s'→R (.ok (.ret res)) s')→
  codeAny (model C.prog C.w) A (.builtin "list.extend.loop" ⟨[.ref S,.ref a,res],[]⟩) R s:=by
 intro k
 induction k with
 |zero=>
  intro i s acc c wr hk hi st I hSw hS hacc ks hwr hR;have hin:i=xs.length:=by lia
  subst hin;refine codeAny_builtin SC ?_;rw [R_ NS _];refine (?_:wpAny _ A.in1 (pyNext (.ref a)>>=_) _ _ s);refine yt (W.done Rm I st (by simp) λs' mv hI=>?_);refine Et (hR s' acc c (hI (S::T) λb hb=>⟨CE _ hb,λq=>?_⟩) (mv.heap S _ hSw hS) ?_ (ks.moves mv hwr hgi))
  ·rcases Ch.mp hb with rfl|hb
   ·exact hSw q
   ·exact hTd b hb (hwr b q)
  ·rw [LG] at hacc
   refine aw.step (W:=wr) (λb o e hb=>mv.heap b o (λq=>hb q) e) (λb hb zz=>yo _ (yo _ hb)) (λb hb=>.inl ?_) hacc
   rcases AA.mp hb with h|h
   ·exact yo _ (CE _ h)
   ·exact CE _ h
 |succ k ih=>
  intro i s acc c wr hk hi st I hSw hS hacc ks hwr hR;have hlt:i<xs.length:=by lia
  have hacs:acc.size=i:=by
   have:=hacc.length
   rw [LF,RC hi] at this
   simpa using this
  refine codeAny_builtin SC ?_;rw [R_ NS _];refine (?_:wpAny _ A.in1 (pyNext (.ref a)>>=_) _ _ s);refine yt (W.item Rm I st (x:=xs[i]) (Fe hlt) λv s' wr' mv hwr' I' ir md=>?_);have hSw':S∉wr':= λq=>by
   rcases hwr' S q with h|h
   ·exact hSw h
   ·rw [hS] at h;exact ct (ES h)
  have hS':=mv.heap S _ hSw hS;have ks':=ks.moves mv hwr hgi;have hwf':∀b∈wr',s₀.heap.get? b=none:= λb hb=>(hwr' b hb).elim (hwr b) ks.fresh;refine dg ir λa' items ds zq3 hxi htup hrel=>?_;subst zq3;have hit:aJ s'.heap ((wr'++S::T)++ai α μ) (.ref a') xs[i]:=by
   rw [hxi];exact .ctuple htup (fresh _ _ _ _ _ _ _ md a' rfl) hrel
  have hacc':aw s'.heap ((wr'++S::T)++ai α μ) acc.toList (xs.take i):=aw.step (W:=wr) (λb o e hb=>mv.heap b o (λq=>hb q) e) (λb hb zz=>yo _ (yo _ hb)) (λb hb=>by
   rcases AA.mp hb with h|h
   ·rcases AA.mp h with h|h
    ·exact (hwr' b h).imp (λz=>yo _ (yo _ z)) id
    ·exact .inl (yo _ (CE _ h))
   ·exact .inl (CE _ h)) hacc
  refine (?_:wpAny _ A.in1 (updateSeq S (·.push (.ref a'))>>=_) _ _ _);refine yt ?_;have hSn:=Fk (M5 (·.push (Lu a'))) hS' rfl;refine fY (wu (f:=M5 (·.push (Lu a'))) I' hS' rfl) λmv2 I2=>?_;refine Oi hS' rfl (Et ⟨plainId_quiet NS _,ih (i+1) _ (acc.push (.ref a')) _ wr' (by lia) hlt (W.frame (O:=[S]) (toSt _ _ _ _ _ _ _ md) (mv2.stepS ⟨_,hSn⟩) (λb hb=>.inr (.inr ?_)) (λb hb q=>?_) (λb hb=>.inl hb) (λb hb=>yo _ hb) I' I2 λzz e=>by exact ct e) I2 hSw' hSn ?_ (ks'.moves mv2 (λb hb=>?_) λzz h=>by simp at h) hwf' hR⟩)
   (by rw [hacs];lia) (by show (acc.push _).size≤sizeLine+1;rw [Array.size_push,hacs];lia)
  ·obtain rfl:b=S:=by simpa using hb
   simp
  ·obtain rfl:b=S:=by simpa using hb
   exact hSw' q
  ·have:=(hacc'.append (aw.cons hit (aw.nil _ _))).moves (T:=wr'++S::T) mv2 (λb hb=>by
    obtain rfl:b=S:=by simpa using hb
    simp)
   rw [show xs.take (i+1)=xs.take i++[xs[i]] from List.take_succ_eq_append_getElem hlt]
   simpa using this
  ·obtain rfl:b=S:=by simpa using hb
   exact hSf
end
section
theorem Kt(W:hU C (.ref a) gi xs none true St Mid)(toSt:∀wr T α μ i v s,Mid wr T α μ i v s→St wr T α μ (i+1) s)
  (fresh:∀wr T α μ i v s,Mid wr T α μ i v s→∀a',v=.ref a'→a'∉T++ai α μ) (hT:∀wr T α μ i s,St wr T α μ i s→s.TypeIs (.ref a) "generator") (hn:xs.length≤sizeLine) (Rm:cP A.in1.in1 2)
  (ks:KS s₀ s) (hgi:∀i∈gi,s₀.gens[i]? =none) (hwr:∀b∈wr,s₀.heap.get? b=none) (hTd:∀b∈T,s₀.heap.get? b≠none) (st:St wr (wr++T) α μ 0 s) (I:bl C (wr++T) α μ s)
  (hQ:∀S s' acc' c',s₀.heap.get? S=none→bl C (S::T) α μ s'→s'.heap.get? S=some {cls:=.type "list",dict:=none,data:=.seq acc' c',slots:= #[]}→aw s'.heap ((S::T)++ai α μ) acc'.toList xs→KS s₀ s'→Q (.ref S) s'):
  wpAny (model C.prog C.w) A (call (.type "list") [.ref a]) Q E s:=by
 have hSf:s.heap.get? s.heap.objs.size=none:=bw (DI _);generalize hSe:s.heap.objs.size=S at hSf
 have hS0:s₀.heap.get? S=none:=ks.fresh hSf;refine callType_codes (Q₁:= λobj s₁=>obj=.ref s.heap.objs.size∧s₁= {s with heap:=s.heap.push {cls:=.type "list",data:=.seq #[]}}) F.called_list (F.typeCall_list_1 _) F.entry_list_init
  (code_list_new _ ⟨rfl,rfl⟩) λobj s₁ h₁=>?_
 refine fY h₁ λzq0 zq1=>?_;refine bH (ES zq0) ?_;refine bH (ES zq1) ?_;have hS:(s.heap.push {cls:=.type "list",data:=.seq #[]}).get? s.heap.objs.size=some {cls:=.type "list",data:=.seq #[]}:=Dm _ rfl;rw [hSe] at hS⊢
 have hk1:∀b o,s.heap.get? b=some o→(s.heap.push {cls:=.type "list",data:=.seq #[]}).get? b=some o:=bb _ _;have mv1:aG [] [] s {s with heap:=s.heap.push {cls:=.type "list",data:=.seq #[]}}:=aG.of_heap (tk:=s.toks) λb o zz z=>hk1 b o z;have I1:bl C (wr++S::T) α μ {s with heap:=s.heap.push {cls:=.type "list",data:=.seq #[]}}:=I.movesG mv1 (λb hb=>by simp at hb) (λb hb=>by
  rcases AA.mp hb with h|h
  ·exact .inl (yo _ h)
  ·rcases Ch.mp h with rfl|h
   ·exact .inr hSf
   ·exact .inl (CE _ h)) λb hb=>by
  rcases AA.mp hb with h|h
  ·exact (I.tdom b (yo _ h)).imp λo z=>hk1 b o z
  ·rcases Ch.mp h with rfl|h
   ·exact ⟨_,hS⟩
   ·exact (I.tdom b (CE _ h)).imp λo z=>hk1 b o z
 have hSw:S∉wr:= λq=>by
  refine bP (I.tdom S (yo _ q)) λo z=>?_;rw [hSf] at z;exact ct z
 have st1:St wr (wr++S::T) α μ 0 {s with heap:=s.heap.push {cls:=.type "list",data:=.seq #[]}}:=W.frame (O:=[]) st (aU.keeps (tk:=s.toks) hk1) (iF.nil _ _) (λzz h=>by simp at h) (λb hb=>by
  rcases AA.mp hb with h|h
  ·exact .inl (yo _ h)
  ·rcases Ch.mp h with rfl|h
   ·exact .inr hSf
   ·exact .inl (CE _ h)) (λb hb=>yo _ hb) I I1 λzz e=>by exact ct e
 have upd:∀ {s1:Shared} {o:Obj} {f:Obj→Obj},St wr (wr++S::T) α μ 0 s1→bl C (wr++S::T) α μ s1→s1.heap.get? S=some o→(f o).isFreed=false→
   St wr (wr++S::T) α μ 0 {s1 with heap:=s1.heap.update S f}∧bl C (wr++S::T) α μ {s1 with heap:=s1.heap.update S f}∧(KS s₀ s1→KS s₀ {s1 with heap:=s1.heap.update S f}):= λ{s1 o f} st1 I1 h1 hf=>by
  refine fY (wu (f:=f) I1 h1 hf) λmv2 I2=>?_;refine (fu (W.frame (O:=[S]) st1 (mv2.stepS ⟨_,Fk _ h1 hf⟩) (λb hb=>.inr (.inr ?_)) (λb hb q=>?_) (λb hb=>.inl hb) (λb hb=>yo _ hb) I1 I2 (λzz e=>by exact ct e)) I2 (λk=>KS.moves k mv2 (λb hb=>?_) λzz h=>by simp at h))
  ·obtain rfl:b=S:=by simpa using hb
   simp
  ·obtain rfl:b=S:=by simpa using hb
   exact hSw q
  ·obtain rfl:b=S:=by simpa using hb
   exact hS0
 refine (fu ⟨_,hS,rfl⟩ (F.args_list_init_2 _ _) ?_);refine (?_:wpAny _ A.in1.in1 (do let old←Rp (.ref S);Builtin.List.listUpdate (.ref S) (λzz=> #[]);letGo old.toList.reverse;MI (.ref S) (.ref a) .none) _ _ _);refine yt ?_;unfold Rp;refine yt (N2 hS rfl (Et ?_))
 show wpAny _ A.in1.in1 (updateSeq S (λzz=> #[])>>= λzz=>letGo (#[]:Array Value).toList.reverse>>= λzz=>MI (.ref S) (.ref a) .none) _ _ _
 refine yt (Oi hS rfl ?_);have hS₂:=Fk (M5 (λzz=>(#[]:Array Value))) hS rfl;refine dU (upd (f:=M5 (λzz=>(#[]:Array Value))) st1 I1 hS rfl) λst2 I2 k2=>?_;refine yt (Sw ?_);have hSI:S≠a:= λe=>by
  refine au (hT _ _ _ _ _ _ st1) λo z q=>?_;rw [←e] at z
  rw [hS] at z;cases z;exact absurd q (by decide)
 unfold MI;refine yt (wpAny_typeOf (hT _ _ _ _ _ _ st2) ?_);have h1:QC (.ref S) (.ref a)=false:=by simp [QC,hSI]
 have h2:(Tl "generator"==Tl "list")=false:=by decide
 have h3:(Tl "generator"==Tl "tuple")=false:=by decide
 simp only [h1,h2,h3,UO,Ox,if_false];refine yt (W.self st2 ?_);refine yt (KZ ?_);unfold Builtin.List.listLengthHint;refine yt (Lr (hT _ _ _ _ _ _ st2) F.gen_no_len ?_);refine (?_:wpAny _ A.in1.in1 (specialOf (Lu a) (JI "__length_hint__")>>=_) _ _ _);refine yt (Lr (hT _ _ _ _ _ _ st2) F.gen_no_hint ?_);refine Et ?_
 show wpAny _ A.in1.in1 (rule "list.extend.makes-room">>= λzz=>Builtin.List.listTouch (.ref S)>>= λzz=>
  again (.builtin "list.extend.loop" ⟨[.ref S,.ref a,.none],[]⟩)) _ _ _
 refine yt (O8 ?_);refine yt ?_
 show wpAny _ A.in1.in1 (updateSeq S (·.push .none)>>= λzz=>updateSeq S (·.pop)) _ _ _
 refine yt (Oi hS₂ rfl ?_);have hS₃:=Fk (M5 (·.push L7)) hS₂ rfl;refine dU (upd (f:=M5 (·.push L7)) st2 I2 hS₂ rfl) λst3 I3 k3=>?_;refine Oi (hz:=by seq_fits) hS₃ rfl ?_;have hS₄:=Fk (M5 (·.pop)) hS₃ rfl;refine dU (upd (f:=M5 (·.pop)) st3 I3 hS₃ rfl) λst4 I4 k4=>?_;have ks4:=k4 (k3 (k2 (ks.moves mv1 (λzz h=>by simp at h) λzz h=>by simp at h)));refine Et ⟨plainId_quiet NS _,Dh W toSt fresh S hn Rm hS0 hgi hTd .none _ 0 _ _ _ wr rfl (Lw _) st4 I4 hSw hS₄ (by simpa using aw.nil _ _) ks4 hwr λs' acc' c' I' hS' hd hk=>?_⟩;exact ⟨rfl,hQ S s' acc' c' hS0 I' hS' hd hk⟩
end
theorem c1L(h:di C "_iter_escaped_chars" 1)(hg:C.mg "enumerate"=none):Cy C (n+3) "_iter_escaped_chars" aE:=by
 refine dg (xn h hg) λfa o fd h1 h2 h3 hc=>?_;refine (dy fa o fd h1 h2 h3 ?_);intro A T α μ s E vs Vs xs g μ' R I r q hsz;refine ax q λW el q=>ax q λx ex q=>?_;cases (q:some (eh x.cps.toList 0 false,none,μ)=some (xs,g,μ'));refine gF r el λv z rv=>bP (iX ex rv) λt z1=>?_;subst z;subst z1;refine hc A T α μ s E x t _ (by have:=R.depth;unfold recursionLimit;lia) I λa L g env s' G hLb haL haf hLf hgf hk hgk I' st=>?_;refine Kt (T:=T) (α:=α) (wr:=[a,L]) (μ:=μ) (s₀:=s) (hU.gen (x:=x) (env:=env) (g:=g) hg G hLb haL) (λwr T α μ i v s md=>md.1) (λwr T α μ i v s md=>md.2) (λwr T α μ i s st=>st.1.typeIs) hsz ⟨?_,?_,R.handled⟩ ⟨hk,hgk⟩ (λi hi=>yA.mp hi▸hgf) (λb hb=>(Ch.mp hb).elim (λq=>q▸haf) λq=>yA.mp q▸hLf) (λb hb q=>I.mdom b (yo _ hb) q) st I' λS s2 acc c hS I2 hS2 hd ks=>?_
 ·have:=R.depth
  show A.depth+4*2<600;lia
 ·have:=R.units
  show A.units+1+1+200*2+400<cLine;lia
 ·exact (cJ α (I2.sub λb hb=>D1 _ hb) (aU.of_keeps ks.1 ks.2) (aJ.list (vs:=acc) ⟨_,hS2⟩ (hd.mono pZ) λq=>I.mdom S q hS))
theorem Y6(h:Heap)(S:List Addr):∃b:Heap,(∀a,a∉S→b.get? a=h.get? a)∧∀a∈S,b.get? a=none:=by
 induction S with
 |nil=>exact (aZ h (λzz zz=>rfl) (λzz q=>by cases q))
 |cons x S ih=>
  refine au ih λb h1 h2=>?_;refine ⟨{b with objs:=b.objs.setIfInBounds x {cls:=.none,data:=.freed}},λa ha=>?_,λa ha=>?_⟩
  ·simp only [Ch,not_or] at ha
   rw [←h1 a ha.2];unfold UV;dsimp only;rw [M8 (MA ha.1)]
  ·by_cases q:a=x
   ·refine bH q ?_
    unfold UV;dsimp only
    by_cases hlt:a<b.objs.size
    ·rw [Array.getElem?_setIfInBounds_self_of_lt hlt]
    ·rw [Array.getElem?_eq_none (by simpa using hlt)]
   ·rw [←h2 a ((Ch.mp ha).resolve_left q)]
    unfold UV;dsimp only;rw [M8 (MA q)]
section
theorem ng{it:Addr}{Q:Option Value→Shared→Prop}(hh:A.handled=none)(hit:dX s.heap M it (.iter []))
  (hE:∀h1 h' e,GH h1 it→La it s.heap h1→Q6 h1 h' e (.type "StopIteration") []→E (.ref e) {s with heap:=h'}):wpAny (model C.prog C.w) A (callSpecial? (.ref it) (JI "__next__")) Q E s:=by
 have fin:∀ {β:Type} (Q':β→Shared→Prop) (h1:Heap),GH h1 it→La it s.heap h1→wpAny (model C.prog C.w) A.in1 (OL (α:=β)) Q' E {s with heap:=h1}:= λQ' h1 hs hb=>by
  unfold OL;refine yt ?_;simp only [newExc,newTuple];refine yt (Ia ?_ (by size_fits));refine yt (m:=firstArgMember _ _) (Mb (a:=L7) (by first|rfl| (simp only [firstArgMember];rfl)) ?_);refine Ia ?_ (by size_fits);refine NH hh ?_;refine hE h1 _ _ hs hb ⟨λb o z=>BO _ (BO _ z),bw (by show h1.objs.size≤(h1.push _).objs.size;rw [M3];exact OV _),h1.objs.size,Dm _ rfl,bw (DI _),BO _ (Dm _ rfl)⟩
 rcases hit with ⟨l,k,items,hli,hp,hl,hk,rr⟩| ⟨_,o,k,ho,hc,hd⟩
 ·refine cn (id hli) λo ho hc hd=>?_
  refine ye hp.isList λol hol zz nl hdl=>?_;have hx:items[k]? =none:=by
   have:=rr.length
   simp at this⊢;lia
  refine IX (name:=JI "__next__") hli.typeIs K_
   (L3 K_ hli.typeIs PG ?_ (PS _))
  refine (?_:wpAny _ _ (field (.ref it) 0>>=_) _ _ s);refine yt (KP ho hd (x:=.ref l) rfl ?_);refine (?_:wpAny _ _ (if (Lu l==L7)=true then _ else _) _ _ s);rw [if_neg (show ¬ ((Lu l==L7)=true) from HA)];refine (?_:wpAny _ _ (field (.ref it) 1>>=_) _ _ s);refine yt (KP ho hd (x:=.int k 0) rfl ?_);refine (?_:wpAny _ _ (seqItems? (.ref l)>>=_) _ _ s);refine yt (N2 hol hdl ?_);simp only [Fa,hx];refine yt (O8 (yt (P3 ho hd (by simp) ?_)));exact fin _ _ (dw _ _ (Fk _ ho (LO (L0 hd _))) ((Tk ..).trans hc) (by rw [L0 hd];rfl)) (KW ..)
 ·refine IX (name:=JI "__next__") (T:="list_iterator") (aZ o ho hc) K_
   (L3 K_ (aZ o ho hc) PG ?_ (PS _))
  refine (?_:wpAny _ _ (field (.ref it) 0>>=_) _ _ s);refine yt (KP ho hd (x:=.none) rfl ?_);refine (?_:wpAny _ _ (if (L7==L7)=true then _ else _) _ _ s);rw [if_pos (by decide)];refine yt (O8 ?_);exact yt (fin _ s.heap (dw o k ho hc hd) ⟨rfl,λzz zz=>rfl⟩)
end
section
end
noncomputable abbrev JA:Value:=.type "StopIteration"
def Lo(h:Heap)(L:Addr):Prop:=∃o es n,h.get? L=some o∧o.data=.dict es n
def FF(h:Heap)(l:List Env):Prop:=∀env∈l,env.scope.kind≠ .module∧∃L,env.frame=some L∧Lo h L
theorem FF.fun{base:Heap}:∀ {l:List Env},FF h l→(∀L∈l.filterMap (·.frame),base.get? L=none)→h.FunFrames base l
 | [],_,_=>trivial
 |env::l,f,hb=>by
  obtain ⟨hk,L,hL,o,es,n,ho,hd⟩:=f env (by simp);refine (fu hk ⟨L,o,hL,hb L ?_,ho,λvs q=>by rw [hd] at q;cases q⟩ (FF.fun (λe he=>f e (D1 _ he)) λL' hL'=>hb L' ?_))
  ·rw [NW,hL];simp
  ·rw [NW,hL];exact D1 _ hL'
theorem Lo.ext(x:Lo h L)(e:fZ W h h')(hn:L∉W):Lo h' L:=by
 refine ft x λo es n ho hd=>?_;exact (lC o es n (e L o ho λq=>absurd q hn) hd)
theorem Lo.frameAt(x:Lo h L):bX h L:=let ⟨o,es,n,ho,hd⟩:=x;⟨o,ho,.inl (jH es n hd)⟩
theorem FF.step{l:List Env}(f:FF s.heap l)(I:bl C T α μ s)(S:aU O α μ s α' μ' s')(hO:∀L∈l.filterMap (·.frame),L∉O):FF s'.heap l:= λenv he=>by
 refine iB (f env he) λhk L hL hd=>?_;refine (gR hk L hL (hd.ext S.ext λq=>?_))
 rcases AA.mp q with q|q
 ·exact hO L (Ov.mpr (aZ env he hL)) q
 ·exact I.notFrame (db q) hd.frameAt
theorem FF.mem{l:List Env}(f:FF h l)(hL:L∈l.filterMap (·.frame)):Lo h L:=by
 refine au (Ov.mp hL) λenv he q=>?_;refine iB (f env he) λzz L' q' hd=>?_;rw [q] at q';cases q'
 exact hd
section
variable {M:Model}
theorem E7{base:Heap}{outer:List Env}{e:Addr}{args:List Value}{Q:Unit→Shared→Prop}
  (hfr:A.frames=some (env::outer)) (hf:env.frame=some L) (hkb:base.StaysIn h) (hl:h.FunFrames base (env::outer)) (hx:Q6 h s.heap e cls args)
  (hQ:∀h' t,Tm base (env::outer) e cls (.ref t) L h'→s.heap.UpToSlots h'→Q () {s with heap:=h'}):wpAny M A (noteFrame (.ref e) env) Q E s:=by
 refine cn hx.there λt he htn ht=>?_;have fresh:∀b,h.get? b=none→base.get? b=none:= λb hb=>by
  cases hq:base.get? b with
  |none=>rfl
  |some o'=>have:=hkb b o' hq;rw [hb] at this;exact ct this
 unfold noteFrame;simp only [hf];refine yt (KP he rfl (x:=.none) rfl ?_);rw [if_neg (by decide)];refine wpAny_entryW (vs:= #[.ref t,.none,.none,.none,.bool false,.none]) hfr (hl.of_keeps λb o hb zz=>(aZ o (hx.keeps b o hb) rfl)) hf he (λb o hb=>hx.keeps b o (hkb b o hb)) (fresh e hx.new) rfl (by show 1<6;decide) rfl λh' hN=>?_;refine mh hN λk1 k2 k3 k4=>?_;exact hQ h' t (lm k1 (fresh e hx.new) k2 k3) k4
theorem CS{base:Heap}{l:List Env}{e:Addr}{a0:Value}(hf:env.frame=some L)(hh:Tm base l e cls a0 L s.heap)
  (hQ:∀h',Tm base l e cls a0 L h'→s.heap.UpToSlots h'→Q (.ref e) {s with heap:=h'}):cameBackBy M A env Q (.ref e) s:=by
 obtain ⟨hkb,hen,hl,oe,vs,T,oT,ts,he,hcls,hd,h1,hnT,hTe,hT,hdT,h3⟩:=hh;have hsz3:3<ts.size:=(LB.mp h3).1;have other:∀b,b≠T→(s.heap.update T (Obj.mapFields (·.setIfInBounds 3 ((some L:Option Addr).elim L7 λf=>rawInt f)))).get? b=s.heap.get? b:=
  λb hb=>Ro _ _ (MA hb)
 have noRecord:∀b o,s.heap.get? b=some o→(∀vs,o.data≠ .fields vs)→b≠T:= λb o hb hnf q=>by
  rw [q,hT] at hb;injection hb with hb;subst hb;exact hnf ts hdT
 unfold cameBackBy;refine yt (KP he hd h1 ?_);rw [if_neg (show ¬ ((Lu T==L7)=true) from by simp)];unfold setFlight;refine yt (KP he hd h1 ?_);rw [if_pos (show (Lu T != L7)=true from by simp),hf];refine P3 hT hdT hsz3 (hQ _ (lm (λb o hbo=>(other b λq=>by rw [q,hnT] at hbo;exact ct hbo).trans (hkb b o hbo)) hen (hl.of_keeps λb o hb hnf=>⟨o,(other b (noRecord b o hb hnf)).trans hb,rfl⟩) ?_) λb o hb hnf=>⟨o.slots,(other b (noRecord b o hb hnf)).trans hb⟩);exact (oQ oe vs T _ _ ((other e (MA hTe)).trans he) hcls hd h1 hnT hTe (Fk _ hT (LO (L0 hdT _))) (L0 hdT _) (by simp [hsz3]))
theorem wP{base:Heap}{outer:List Env}{e:Addr}{a0:Value}{Q:Unit→Shared→Prop}(hf:env.frame=some L)
  (hh:Tm base (env::outer) e cls a0 L s.heap) (hQ:∀h',Heap.FlyingW base outer e cls a0 h'→s.heap.UpToSlots h'→Q () {s with heap:=h'}):wpAny M A (leaving env (.ref e)) Q E s:=by
 unfold leaving;refine yt (wpAny_noteFrame_againW hf hh.2.2.2 ?_);refine wpAny_landsW hh λh' hfl hu=>?_;refine mh hfl λk1 k2 zp2 k4=>?_;refine dU zp2 λzz zz k3=>?_;exact hQ h' (lm k1 k2 k3 k4) hu
end
section
theorem lN(hg:C.mg "next"=none)
  (ha:dc C n cx [e] [f]) (hs:∀env,starEach [e] env=(false,eval e env)::starEach [] env) (hp:∀env,(backTo pos (starEach [e] env)).any (·.1)=false)
  (hl:cx.scope.names.lookup ("next":Str)=some .globalImplicit) (hk:cx.scope.kind=.function)
  (R:cP A n) (I:bl C T α μ s) (F:bh C cx env O ρ s.heap α (T++ai α μ)) (hf:f ρ μ=some (.c i,μ)) (hc:μ[i]? =some (.iter []))
  (hE:∀α1 s1 h' ex,bl C T α1 (μ.set i (.iter [])) s1→aU [] α μ s α1 (μ.set i (.iter [])) s1→Q6 s1.heap h' ex JA []→E (.ref ex) {s1 with heap:=h'}):
  wpAny (model C.prog C.w) A (eval (.Call (.Name "next" xp) [e] [] pos) env) Q E s:=by
 refine (?_:wpAny _ A (do callWith pos (←eval (.Name "next" xp) env) [] (backTo pos (starEach [e] env)) []) _ _ s);refine yt (E_ (by rw [F.sc];exact hk) (by unfold J3;rw [F.sc];exact hl) (Ld (by rw [F.gl];exact C.g.keeps I.keep) hg (by rw [F.bn];exact C.b.keeps I.keep) ((C.bt _ (by decide+kernel)).trans (∅ :bootBuiltins "next"=some (.builtin "next"))) ?_) ∅);refine bf "next" _ _ _ _ _ _ _ _ (hp env) (ee (hs env) ha R I F (show eX [f] ρ μ=some ([.c i],μ) by simp [eX,hf,bpS,bpN,boS,boN]) λvs s1 α1 I1 S1 r1=>?_)
 match vs,r1 with
 | [v],r1=>
 obtain ⟨a,hαi,rfl⟩:=r1.1;refine PE (by decide+kernel) (by decide+kernel) kdk_entry_next (kdk_args_next _) ?_;unfold Builtin.«next»
 refine yt (m:=someArgs "next" 1 2 _) (Mb (a:=[Lu a]) (by first|rfl|kernel_rfl!) ?_);dsimp only;have hcell:=I1.cells i a _ hαi hc;have hty:s1.TypeIs (.ref a) "list_iterator":=by
  rcases hcell with ⟨l,k,items,⟨o,ho,hcl,hd⟩,_⟩| ⟨_,o,k,ho,hcl,hd⟩
  ·exact (aZ o ho hcl)
  ·exact (aZ o ho hcl)
 refine yt (Lr (name:=JI "__next__") hty K_.lookup ?_);refine wpAny_ite_split (λhab=>absurd hab (by decide)) (λzz=>?_);refine yt (ng (C:=C) R.handled hcell λh1 h' ex hsp hsb hx=>?_);obtain ⟨I2,S2⟩:=I1.setCell (c:=.iter []) (h':=h1) (tk:=s1.toks) hαi hc rfl rfl (λb o q z=>(hsb.2 b q).trans z) (by obtain ⟨o,k,z,_⟩:=hsp;exact ⟨o,z⟩) λkd=>.inr ⟨rfl,hsp⟩;exact hE α1 {s1 with heap:=h1} h' ex I2 (S1.trans S2) hx
end
def Fly(C:gK)(T α:List Addr)(μ μ':List ah)(s:Shared)(outer:List Env)(e:Addr)(s':Shared):Prop:=
 ∃s1 h' base t LV,s'= {s1 with heap:=h'}∧bl C T α μ' s1∧aU [] α μ s α μ' s1∧s.heap.get? LV=none∧bX s1.heap LV∧(∀b,b∉LV::outer.filterMap (·.frame)→base.get? b=s1.heap.get? b)∧Heap.FlyingW base outer e JA (.ref t) h'∧s1.heap.UpToSlots h'
theorem Gu{v b:Int}(h0:0≤b)(h:(HN v:Int)+b≤2^27):pC (.d (.int v)) (.d (.int b)) μ=some (.d (.int (v*2^b.toNat)),μ):=by
 refine (?_:bo (if 0≤b∧(HN v:Int)+b≤2^27 then some (v*2^b.toNat) else none) (λz=>some (AV.d (.int z),μ))=_);rw [if_pos ⟨h0,h⟩];rfl
theorem wx{x:PyData}{r:List PyData}(hc:μ[i]? =some (.iter (x::r))):j_ [.c i] μ=some (.d x,μ.set i (.iter r)):=by
 refine (?_:bo (μ[i]?.bind QD) (λxs=>bp (uncons xs) λx r=>some (AV.d x,μ.set i (.iter r)))=_);rw [hc];rfl
theorem J4{o:AV→AV→List ah→Option (AV×List ah)}{v w:Int}(e:ρ[2]? =some (some (.d (.int v))))(h:o (.d (.int v)) (.d (.int 6)) μ=some (.d (.int w),μ)):ie 2 (kI 6) o ρ μ=some (.next,ρ.set 2 (some (.d (.int w))),μ):=by
 refine (?_:bo (ρ[2]?.bind id) (λV=>bp (o V (.d (.int 6)) μ) λr μ2=>some (Fl.next,ρ.set 2 (some r),μ2))=_);rw [e];refine (?_:bp (o (.d (.int v)) (.d (.int 6)) μ) (λr μ2=>some (Fl.next,ρ.set 2 (some r),μ2))=_);rw [h];rfl
theorem ox:(0:Int)≤6:=by decide
theorem ML{v:Int}(e:ρ[2]? =some (some (.d (.int v))))(h:(HN v:Int)+6≤2^27):∃w,ie 2 (kI 6) pC ρ μ=some (.next,ρ.set 2 (some (.d (.int w))),μ):=by
 have:∃w,pC (.d (.int v)) (.d (.int 6)) μ=some (.d (.int w),μ):=⟨_,Gu ox h⟩
 refine bP this λw hw=>?_;exact ⟨w,J4 e hw⟩
section
theorem Mv(G:cI C)(h:di C "_parse_varint" 8):∃fa o fd,C.mg "_parse_varint"=some (.ref fa)∧C.B.get? fa=some o∧o.data=.func fd∧
  ∀ (A:Around) (T α:List Addr) (μ μ':List ah) (s:Shared) (i:Nat) (a:Addr) (outer:List Env) (Q E:Value→Shared→Prop),cP A 3→bl C T α μ s→α[i]? =some a→r9 μ i=some μ'→A.frames=some outer→FF s.heap outer→
   (∀e s',Fly C T α μ μ' s outer e s'→E (.ref e) s')→wpAny (model C.prog C.w) A (call (.ref fa) [.ref a]) Q E s:=by
 refine fp h λfa o pm cd doc h1 h2 h3 h4=>?_;refine (dy fa o _ h1 h2 h3 (λA T α μ μ' s i a outer Q E R I ha hst hfr hff hE=>?_));refine mE (Vs:=[.c i]) ["iterator"] h2 h3 h4 (jG λzz=> ∅) (of_decide_eq_true ∅) ∅ ∅ ∅ ∅ (by have:=R.depth;unfold recursionLimit;lia) I ⟨(aZ a ha rfl),trivial⟩ rfl λL O h₁ tk hL hLO hO I1 S1 F1 hk1=>?_
 generalize henv:envOfC "_parse_varint" (ao (ay 8)) L fa cd=env at F1⊢
 have hef:env.frame=some L:=by rw [←henv];rfl
 have hek:env.scope.kind≠ .module:=by rw [←henv];show (ao (ay 8)).kind≠ .module;rw [show (ao (ay 8)).kind=.function from ∅];decide
 have R2:cP (A.deeper env) 2:=⟨by have:=R.depth;show A.depth+1+4*2<600;lia,by have:=R.units;show A.units+3+200*2+400<cLine;lia,R.handled⟩;have hfr2:(A.deeper env).frames=some (env::outer):=Pl hfr;have hLout:∀L'∈outer.filterMap (·.frame),L'∉O:= λL' hL' q=>(hff.mem hL').frameAt.dom (hO L' q);have hff1:FF h₁ outer:= λenv' he=>by
  obtain ⟨hk,L',hL',o',es,m,ho',hd⟩:=hff env' he;exact ⟨hk,L',hL',o',es,m,hk1 _ _ ho',hd⟩
 have hnext:C.mg "next"=none:=G.no _ ∅
 
 have made:∀ {α1 μ1 s1 h' ex},bl C T α1 μ1 s1→aU O α μ {s with heap:=h₁,toks:=tk} α1 μ1 s1→α1=α→Lo s1.heap L→Q6 s1.heap h' ex JA []→
   ∃base,(∀b,b∉L::outer.filterMap (·.frame)→base.get? b=s1.heap.get? b)∧base.StaysIn s1.heap∧s1.heap.FunFrames base (env::outer)∧aU [] α μ s α μ1 s1:= λ{α1 μ1 s1 h' ex} I' S' hα hLd hx=>by
  subst hα;refine au (Y6 s1.heap (L::outer.filterMap (·.frame))) λbase g1 g2=>?_;have hfs:FF s1.heap (env::outer):= λenv' he=>by
   rcases Ch.mp he with rfl|he
   ·exact (gR hek L hef hLd)
   ·exact FF.step (s:= {s with heap:=h₁,toks:=tk}) hff1 I1 S' hLout env' he
  refine (c_ base g1 (λb o z=>?_) (hfs.fun λL' hL'=>g2 L' ?_) (((S1.up (O:=O)).trans S').weak λb hb=>.inr (hO b hb)))
  ·by_cases q:b∈L::outer.filterMap (·.frame)
   ·rw [g2 b q] at z;cases z
   ·rw [←g1 b q];exact z
  ·rwa [NW,hef] at hL'
 have hnsD:∀ {ρ:d0} {s1:Shared} {α1:List Addr} {M:List Addr},bh C DZ env O ρ s1.heap α1 M→Lo s1.heap L:= λF=>by
  refine au F.loc λm zp1 zz=>?_;refine jz zp1 λob es ep z d zz=>?_;rw [show env.locals=L by rw [←henv];rfl] at z
  exact (lC ob es ep z d)
 have sameα:∀ {α1:List Addr} {μ0 μ1:List ah} {s0 s1:Shared},bl C T α1 μ1 s1→aU O α μ s0 α1 μ1 s1→μ1.length=μ.length→α1=α:= λ{α1 μ0 μ1 s0 s1} I' S' hl=>by
  refine au S'.pre λδ e zz=>?_
  have:=I'.len
  rw [hl,←I.len,e,be] at this
  have hz:δ=[]:=OB.mp (by lia);rw [e,hz,DB]
 refine OE hst (λhc z=>?_) λb hc hb z=>?_
 ·subst z
  refine Kh (M7 (lN (cx:=DZ) (f:=a9 0) (n:=2) hnext (dA (λzz=> ∅) iQ ae) (λzz=> ∅) (λzz=>rfl) ∅ ∅ R2 I1 F1 rfl hc λα1 s1 h' ex I' S' hx=>?_) ∅);have hα:α1=α:=sameα (μ0:=μ) (s0:= {s with heap:=h₁,toks:=tk}) I' S'.up (by simp);subst hα;refine et (made I' S'.up rfl (hnsD (F1.step I1 S')) hx) λbase g1 hkb hl hSt=>?_;refine wpAny_leaves_madeW hfr2 hef hkb hl hx λh'' t fly zz zz up=>?_;exact hE ex _ (i8 s1 h'' base t L rfl I' hSt hL ((hnsD (F1.step I1 S')).frameAt) g1 fly ((QX hx.keeps).trans up))
 ·subst z
  have hlen:i<μ.length:=(BJ.mp hc).1;refine Kh (D2 ((Bh G (DI 2)).run _ env O T _ α μ _ _ .next ((cC (ao (ay 8)) [.c i]).set 1 (some (.d (.int b)))) (μ.set i (.iter [])) R2 I1 F1 ?_) (λfw s2 p=>?_) λzz zz x=>x)
  ·refine (?_:bp (j_ [.c i] μ) (λV μ1=>some (Fl.next,(cC (ao (ay 8)) [.c i]).set 1 (some V),μ1))=_)
   rw [wx hc];rfl
  refine et p λα2 I2 S2 F2 zq4=>?_;subst zq4;refine Kh (D2 ((Bx G (DI 2)).run _ env O T _ α2 _ _ _ .next (((cC (ao (ay 8)) [.c i]).set 1 (some (.d (.int b)))).set 2 (some (.d (.int (D5 b 63))))) (μ.set i (.iter [])) R2 I2 F2 ?_) (λfw s3 p=>?_) λzz zz x=>x)
  ·rfl
  refine et p λα3 I3 S3 F3 zq4=>?_;subst zq4;refine Kh (wpAny_While (codeAny_whileLoop (λk s'=>s'=s3) ?_ 0 rfl))
  rintro k s' rfl
  refine D2 ((iD (λzz zz=>rfl) (av N1 am qy)).run _ env O T _ α3 _ _ _ true (μ.set i (.iter [])) R2 I3 F3 ?_) (λb' s4 p=>?_) λzz zz x=>x
  ·refine (?_:some (D5 b 64 != 0,μ.set i (.iter []))=_)
   rw [bne_iff_ne.mpr hb.1]
  refine iB p λzq0 α4 I4 S4=>?_;subst zq0;rw [if_pos rfl];have F4:=F3.step I3 S4;refine bP (ML (ρ:=((cC (ao (ay 8)) [.c i]).set 1 (some (.d (.int b)))).set 2 (some (.d (.int (D5 b 63))))) (μ:=μ.set i (.iter [])) rfl hb.2) λw hw=>?_;refine Kh (D2 ((o3 (i:=2) ∅ ∅ ∅ am Cs).run _ env O T _ α4 _ _ _ .next _ _ R2 I4 F4 hw) (λfw s5 p=>?_) λzz zz x=>x);refine et p λα5 I5 S5 F5 zq4=>?_;subst zq4;have hc5:(μ.set i (.iter []))[i]? =some (.iter []):=by simp [hlen]
  refine Kh (M7 (lN (cx:=DZ) (f:=a9 0) (n:=2) hnext (dA (λzz=> ∅) iQ ae) (λzz=> ∅) (λzz=>rfl) ∅ ∅ R2 I5 F5 rfl hc5 λα6 s6 h' ex I6 S6 hx=>?_) ∅);have SS:=((S2.trans (S3.trans (S4.up (O:=O)))).trans S5).trans (S6.up (O:=O));rw [I9] at I6 S6 SS
  have hα:α6=α:=sameα (μ0:=μ) (s0:= {s with heap:=h₁,toks:=tk}) I6 SS (by simp);subst hα;have hLd:=hnsD (F5.step I5 S6);refine et (made I6 SS rfl hLd hx) λbase g1 hkb hl hSt=>?_;refine E7 hfr2 hef hkb hl hx λh7 t held up7=>?_;refine CS hef held λh8 held8 up8=>?_;refine wP hef held8 λh9 fly up9=>?_;exact hE ex _ (i8 s6 h9 base t L rfl I6 hSt hL hLd.frameAt g1 fly ((((QX hx.keeps).trans up7).trans up8).trans up9))
end
section
variable {f:SF}
theorem SU{h₀:ExceptHandler}{hs:List ExceptHandler}(hf:cB C n cx body f):aQ C n cx (.Try body (h₀::hs) [] [] pos) f:=by
 refine .of ?_;intro A env O T ρ α μ s E fl ρ' μ' R I F h;refine wpAny_Try_except (D2 (hf.run A env O T ρ α μ s _ fl ρ' μ' R I F h) (λfw s1 p=>?_) λzz zz x=>x);have p':=p;refine et p λα1 I1 S1 F1 r1=>?_;cases fl with
 |next=>cases r1;exact RF p'
 |brk=>cases r1;exact p'
 |ret V=>refine au r1 λv zq1 rv=>?_;subst zq1;exact p'
abbrev TP:Cx:=df (ao (ay 69))
theorem wH:ab C n TP (.Name "tape" pos) (a9 0):=qV 0 ∅ ∅ ∅ ∅
def f69:SF:=ap (e_ (aV [af [a9 0] aR])) aP
theorem b69(hp:aI C n "_parse_varint" aR):cB C n TP (ar (ay 69)) (ap f69 aP):=
 ak (SU (ak (d8 (bc (dA (λzz=> ∅) (ce hp (dA (λzz=> ∅) wH ae) (λzz=>rfl) ∅ ∅ ∅) ae))) aN)) aN
theorem an4(hp:aI C n "_parse_varint" aR)(h:di C "_law_beyond" 69):aI C (n+1) "_law_beyond" (cy 1 (ao (ay 69)) (ap f69 aP)):=
 gM ["tape"] h (b69 hp) (λzz zz zz=>jG λzz=> ∅) ∅ ∅ ∅ ∅ ∅
end
section
theorem wO(G:cI C)(hv:di C "_parse_varint" 8)(h:di C "_law_beyond" 69):∃fa o fd,C.mg "_law_beyond"=some (.ref fa)∧C.B.get? fa=some o∧o.data=.func fd∧
  ∀ (A:Around) (T α:List Addr) (μ μ':List ah) (s:Shared) (i:Nat) (a:Addr) (outer:List Env) (Q:Value→Shared→Prop) (E:Value→Shared→Prop),cP A 4→bl C T α μ s→α[i]? =some a→r9 μ i=some μ'→A.frames=some outer→FF s.heap outer→(∀L∈outer.filterMap (·.frame),L∉T∧C.B.get? L=none)→
   (∀r s1 s',bl C T α μ' s1→aU [] α μ s α μ' s1→bl C T α μ' s'→s1.gens=s'.gens→(∀b,b∉outer.filterMap (·.frame)→s.heap.get? b≠none→∀o,s1.heap.get? b=some o→s'.heap.get? b=some o)→(∀b o,s1.heap.get? b=some o→(∀vs,o.data≠ .fields vs)→∃sl,s'.heap.get? b=some {o with slots:=sl})→aJ s'.heap (T++ai α μ') (.ref r) (.list [])→Q (.ref r) s')→
    wpAny (model C.prog C.w) A (call (.ref fa) [.ref a]) Q E s:=by
 refine dg (Mv G hv) λfv ov fdv g1 g2 g3 pvs=>?_;refine fp h λfa o pm cd doc h1 h2 h3 h4=>?_;refine (dy fa o _ h1 h2 h3 (λA T α μ μ' s i a outer Q E R I ha hst hfr hff hout hQ=>?_));refine mE (Vs:=[.c i]) ["tape"] h2 h3 h4 (jG λzz=> ∅) (of_decide_eq_true ∅) ∅ ∅ ∅ ∅ (by have:=R.depth;unfold recursionLimit;lia) I ⟨(aZ a ha rfl),trivial⟩ rfl λL O h₁ tk hL hLO hO I1 S1 F1 hk1=>?_
 generalize henv:envOfC "_law_beyond" (ao (ay 69)) L fa cd=env at F1⊢
 have hef:env.frame=some L:=by rw [←henv];rfl
 have hek:env.scope.kind≠ .module:=by rw [←henv];show (ao (ay 69)).kind≠ .module;rw [show (ao (ay 69)).kind=.function from ∅];decide
 have R2:cP (A.deeper env) 3:=⟨by have:=R.depth;show A.depth+1+4*3<600;lia,by have:=R.units;show A.units+3+200*3+400<cLine;lia,R.handled⟩;have hfr2:(A.deeper env).frames=some (env::outer):=Pl hfr;have hnsD:∀ {ρ:d0} {s1:Shared} {α1:List Addr} {M:List Addr},bh C TP env O ρ s1.heap α1 M→Lo s1.heap L:= λF=>by
  refine au F.loc λm zp1 zz=>?_;refine jz zp1 λob es ep z d zz=>?_;rw [show env.locals=L by rw [←henv];rfl] at z
  exact (lC ob es ep z d)
 have hff1:FF h₁ (env::outer):= λenv' he=>by
  rcases Ch.mp he with rfl|he
  ·exact (gR hek L hef (hnsD (s1:= {s with heap:=h₁}) F1))
  ·obtain ⟨hk,L',hL',o',es,m,ho',hd⟩:=hff env' he
   exact ⟨hk,L',hL',o',es,m,hk1 _ _ ho',hd⟩
 have hstop:C.mg "StopIteration"=none:=G.no _ ∅
 refine Kh (wpAny_Try_except ?_);refine Kh (wpAny_Return_some (List_ ?_));refine Rw ?_;refine yt (m:=eval (.Name "_parse_varint" _) env) (E_ (by rw [F1.sc];kernel_rfl) (by unfold J3;rw [F1.sc];kernel_rfl) (L5 (by rw [F1.gl];exact C.g.keeps I1.keep) g1 ?_) ∅);refine MP (o:=ov) (fd:=fdv) (ee (n:=3) (fs:=[a9 0]) ∅ (dA (λzz=> ∅) wH ae) R2 I1 F1 (Vs:=[.c i]) (μ1:=μ) rfl λvs s2 α2 I2 S2 r2=>⟨⟨I2.keep _ _ g2,g3⟩,?_⟩);have hα:α2=α:=by
  refine au S2.pre λδ e zz=>?_
  have:=I2.len
  rw [←I.len,e,be] at this
  have hz:δ=[]:=OB.mp (by lia);rw [e,hz,DB]
 subst hα
 match vs,r2 with
 | [v],r2=>
 refine au r2.1 λa' ha' zq2=>?_;subst zq2;rw [ha] at ha';cases ha'
 have S02:aU [] α2 μ s α2 μ s2:=S1.trans S2;have hff2:FF s2.heap (env::outer):=FF.step (s:= {s with heap:=h₁,toks:=tk}) hff1 I1 S2 (λzz zz q=>by simp at q);refine pvs _ T α2 μ μ' s2 i a (env::outer) _ _ R2 I2 ha hst hfr2 hff2 λe s' fly=>?_;refine kb fly λs1 h' base t LV zq5 I3 S3 hLV hLVf hgh hfl hup=>?_;subst zq5;refine wpAny_looks_onW hfr2 hef hfl λh5 held up5=>?_;refine wpAny_landsW held λh6 fly6 up6=>?_;have nb:∀b,s.heap.get? b=none→C.B.get? b=none:= λb z=>by
  cases q:C.B.get? b with
  |none=>rfl
  |some o=>have:=I.keep b o q;rw [z] at this;cases this
 have hLV0:s.heap.get? LV=none:=dW S02.dom hLV;have hS:∀b,b∈LV::(env::outer).filterMap (·.frame)→b=LV∨b=L∨b∈outer.filterMap (·.frame):= λb hb=>by
  rw [NW,hef] at hb
  simpa using hb
 have hSb:∀b,b∈LV::(env::outer).filterMap (·.frame)→C.B.get? b=none:= λb hb=>by
  rcases hS b hb with rfl|rfl|hb
  ·exact nb _ hLV0
  ·exact nb _ hL
  ·exact (hout b hb).2
 have keepB:∀ {hh:Heap},base.StaysIn hh→∀b o,C.B.get? b=some o→hh.get? b=some o:= λ{hh} st b o z=>st b o ((hgh b λq=>by rw [hSb b q] at z;cases z).trans (I3.keep b o z));refine wpAny_handleBy_builtin (X:="StopIteration") (T:="StopIteration") (b:=true) (by rw [Sq];kernel_rfl) (by rw [Sq];kernel_rfl) (by rw [Sq];kernel_rfl) ?_;refine E_ (by rw [F1.sc];kernel_rfl) (by unfold J3;rw [F1.sc];kernel_rfl) (Ld (by rw [F1.gl];exact C.g.keeps (keepB fly6.1)) hstop (by rw [F1.bn];exact C.b.keeps (keepB fly6.1)) ((C.bt _ (by decide+kernel)).trans (∅ :bootBuiltins "StopIteration"=some (.type "StopIteration"))) ?_) ∅
 refine (fu rfl fly6.there ?_);rw [if_pos rfl];refine lands_againW fly6 λh7 fly7 up7=>?_;refine Kh (wpAny_Return_some (List_ (Sr (Ia ?_ (by size_fits)))));have hup7:s1.heap.UpToSlots h7:=((hup.trans up5).trans up6).trans up7;have hff3:FF s1.heap (env::outer):=FF.step hff2 I2 S3 (λzz zz q=>by simp at q);have hkeep:∀b o,b∉LV::(env::outer).filterMap (·.frame)→s1.heap.get? b=some o→(h7.push {cls:=.type "list",data:=.seq ([]:List Value).toArray}).get? b=some o:= λb o hb z=>BO _ (fly7.1 b o ((hgh b hb).trans z));have I4:=I3.frames' (O:=LV::(env::outer).filterMap (·.frame)) (h':=h7.push {cls:=.type "list",data:=.seq ([]:List Value).toArray}) (tk:=s1.toks) (λb o z hb=>hkeep b o (λq=>hb q) z) (λb hb=>⟨?_,hSb b hb⟩) λb hb hT=>?_
 ·refine hQ _ s1 _ I3 (S02.trans S3) I4 rfl (λb hb hd o z=>hkeep b o (λq=>?_) z) (λb o z hn=>?_) ?_
  ·rcases hS b q with rfl|rfl|q
   ·exact hd hLV0
   ·exact hd hL
   ·exact hb q
  ·refine bP (hup7 b o z hn) λsl z'=>?_
   exact ⟨sl,BO _ z'⟩
  ·refine aJ.list (vs:= #[]) ⟨0,Dm _ rfl⟩ (by simpa using aw.nil _ _) λq=>?_
   have hn:h7.get? h7.objs.size=none:=bw (DI _)
   have:=I3.mdom _ q
   cases z:s1.heap.get? h7.objs.size with
   |none=>exact this z
   |some o=>
    by_cases hv:∀vs,o.data≠ .fields vs
    ·refine bP (hup7 _ _ z hv) λsl z'=>?_
     rw [hn] at z';cases z'
    ·by_cases hm:h7.objs.size∈LV::(env::outer).filterMap (·.frame)
     ·rcases Ch.mp hm with q|hm
      ·refine au hLVf λo' z' q'=>?_
       rw [←q,z] at z';cases z'
       rcases q' with ⟨es,m,d⟩| ⟨w,d⟩<;>exact hv λvs q2=>by rw [d] at q2;cases q2
      ·refine ft (FF.mem hff3 hm) λo' es m z' d=>?_
       rw [z] at z';cases z'
       exact hv λvs q2=>by rw [d] at q2;cases q2
     ·have:=fly7.1 _ _ ((hgh _ hm).trans z)
      rw [hn] at this;cases this
 ·rcases Ch.mp hb with rfl|hb
  ·exact hLVf
  ·exact (FF.mem hff3 hb).frameAt
 ·rcases hS b hb with rfl|rfl|hb
  ·refine bP (I.tdom _ hT) λo z=>?_;rw [hLV0] at z;cases z
  ·refine bP (I.tdom _ hT) λo z=>?_;rw [hL] at z;cases z
  ·exact (hout b hb).1 hT
end
noncomputable def ad3(C:gK)(cx:Cx)(env:Env)(O T α:List Addr)(μ:List ah)(s:Shared)(ρ:d0)(μ':List ah)(V:AV):Value→Shared→Prop:= λv s'=>
 ∃α',bl C T α' μ' s'∧aU O α μ s α' μ' s'∧bh C cx env O ρ s'.heap α' (T++ai α' μ')∧bm s'.heap α' (T++ai α' μ') v V
structure wa (C:gK) (n:Nat) (cx:Cx) (e:Expr) (f:EF):Prop where
 of::
 run:∀A env O T ρ α μ s E V μ',cP A n→A.frames=some [env]→env.frame=some env.locals→bl C T α μ s→bh C cx env O ρ s.heap α (T++ai α μ)→f ρ μ=some (V,μ')→
  wpAny (model C.prog C.w) A (eval e env) (ad3 C cx env O T α μ s ρ μ' V) E s
structure Cv (C:gK) (n:Nat) (cx:Cx) (st:Stmt) (f:SF):Prop where
 of::
 run:∀A env O T ρ α μ s E fl ρ' μ',cP A n→A.frames=some [env]→env.frame=some env.locals→bl C T α μ s→bh C cx env O ρ s.heap α (T++ai α μ)→f ρ μ=some (fl,ρ',μ')→
  wpAny (model C.prog C.w) A (exec st env) (ix C cx env O T α μ s fl ρ' μ') E s
structure q8 (C:gK) (n:Nat) (cx:Cx) (sts:List Stmt) (f:SF):Prop where
 of::
 run:∀A env O T ρ α μ s E fl ρ' μ',cP A n→A.frames=some [env]→env.frame=some env.locals→bl C T α μ s→bh C cx env O ρ s.heap α (T++ai α μ)→f ρ μ=some (fl,ρ',μ')→
  wpAny (model C.prog C.w) A (execs sts env) (ix C cx env O T α μ s fl ρ' μ') E s
section
theorem dq{f:SF}(h:aQ C n cx st f):Cv C n cx st f:=.of λA env O T ρ α μ s E fl ρ' μ' R zz zz I F q=>h.run A env O T ρ α μ s E fl ρ' μ' R I F q
theorem UH:q8 C n cx [] aP:=.of λA env O T ρ α μ s E fl ρ' μ' R zz zz I F q=>aN.run A env O T ρ α μ s E fl ρ' μ' R I F q
theorem c9{rest:List Stmt}{f g:SF}(hf:Cv C n cx st f)(hg:q8 C n cx rest g):q8 C n cx (st::rest) (ap f g):=by
 refine .of ?_;intro A env O T ρ α μ s E fl ρ' μ' R hA hef I F h;refine aD h λfl1 p e1 h=>Kh (D2 (hf.run A env O T ρ α μ s E _ _ _ R hA hef I F e1) (λr s1 pp=>et pp λα1 I1 S1 F1 r1=>?_) λzz zz x=>x);cases fl1 with
 |next=>subst r1;exact D2 (hg.run A env O T p.1 α1 p.2 s1 E fl ρ' μ' R hA hef I1 F1 h) (λr s2 p=>ix.trans S1 p) λzz zz x=>x
 |brk=>subst r1;exact ga h (c_ α1 I1 S1 F1 rfl)
 |ret V=>exact au r1 λv zq1 rv=>by subst zq1;exact ga h (j4 α1 I1 S1 F1 v rfl rv)
theorem p_(hO:∀a∈O,bX h a∧C.B.get? a=none):iF O T h:= λa ha=>.inr (.inl (hO a ha).1)
theorem JY{l r:Expr}{o:AV→AV→List ah→Option (AV×List ah)}(hl:wa C n cx l f)(hr:wa C n cx r g)(ho:je C n op o):wa C n cx (.BinOp l op r pos) (aj f g o):=by
 refine .of ?_;intro A env O T ρ α μ s E V μ' R hA hef I F h;refine aD h λVa μ1 e1 h=>aD h λVb μ2 e2 h=>?_;refine wpAny_BinOp (D2 (hl.run A env O T ρ α μ s E Va μ1 R hA hef I F e1) (λa s1 p1=>?_) λzz zz x=>x);refine et p1 λα1 I1 S1 F1 r1=>?_;refine D2 (hr.run A env O T ρ α1 μ1 s1 E Vb μ2 R hA hef I1 F1 e2) (λb s2 p2=>?_) λzz zz x=>x;refine et p2 λα2 I2 S2 F2 r2=>?_;refine D2 (ho A T α2 μ2 s2 E a b Va Vb V μ' R I2 (r1.stepO S2 (p_ F1.own) λa ha=>.inl ha) r2 h) (λv s3 p=>?_) λzz zz x=>x;refine cn p λα3 I3 S3 r3=>?_;exact (c_ α3 I3 ((S1.trans S2).trans S3.up) (F2.step I2 S3) r3)
theorem SO(hf:wa C n cx e f)(hx:aA C cx x i)(hs:∀env,env.scope=cx.scope→swapsWith e (some (.Name x px)) pos.line env=pure false):Cv C n cx (.Assign [.Name x px] e pos) (c6 i f):=by
 refine .of ?_;intro A env O T ρ α μ s E fl ρ' μ' R hA hef I F h;refine aD h λV μ1 e1 h=>ga h (M7 (D2 (hf.run A env O T ρ α μ s E _ _ R hA hef I F e1) (λv s1 p=>et p λα1 I1 S1 F1 r1=>?_) λzz zz x=>x) (hs env F.sc));exact D2 (hx A env O T ρ α1 _ s1 E v V I1 F1 r1) (λzz s2 st=>jN S1 st) λzz zz x=>x
end
theorem He{f:SF}{x:PyData}(h:cy k sc f Vs μ=some (.d x,μ')):μ'.length≤μ.length:=by
 have t:∀ν:List ah,(ν.take μ.length).length≤μ.length:= λν=>by rw [LF];exact Um ..
 refine i6 h λzz h=>aD h λfl p zz h=>?_;cases fl with
 |next=>cases (h:some (AV.d .none,p.2.take μ.length)=some (.d x,μ'));exact t p.2
 |brk=>exact ct h
 |ret W=>
  cases W with
  |d y=>cases (h:some (AV.d y,p.2.take μ.length)=some (.d x,μ'));exact t p.2
  |_=>exact nomatch (Fd h)
def W0(C:gK)(n:Nat):Prop:=cI C∧di C "_parse_varint" 8∧di C "_law_beyond" 69∧aI C n "_law_beyond" (cy 1 (ao (ay 69)) (ap f69 aP))∧4≤n
theorem s9{x:PyData}(h:aR [.c i] μ=some (.d x,μ')):cy 1 (ao (ay 69)) (ap f69 aP) [.c i] μ=some (.d (.list [x]),μ'):=by
 have hl:μ'.take μ.length=μ':=F7 (He h);have ec:af [a9 0] aR (cC (ao (ay 69)) [.c i]) μ=some (.d x,μ'):=h;have e1:aV [af [a9 0] aR] (cC (ao (ay 69)) [.c i]) μ=some (.d (.list [x]),μ'):=by
  refine (?_:bp (eX [af [a9 0] aR] _ _) _=_);refine rA (zE ec) ?_;exact if_pos (e:=none) (by show 1≤sizeLine;decide)
 have e2:ap f69 aP (cC (ao (ay 69)) [.c i]) μ=some (.ret (.d (.list [x])),cC (ao (ay 69)) [.c i],μ'):=by
  simp only [ap,f69,e_,e1,bpS];rfl
 unfold cy Zz;rw [if_pos (show [AV.c i].length=1 from rfl),e2];exact congrArg (λz=>some (AV.d (.list [x]),z)) hl
theorem bh.slots(F:bh C cx env O ρ s.heap α (T++ai α μ))(I:bl C T α μ s)(S1:aU [] α μ s α μ' s1)
  (S:aU O α μ s α μ' s') (keep:∀b,b≠env.locals→s.heap.get? b≠none→∀o,s1.heap.get? b=some o→s'.heap.get? b=some o) (up:∀b o,s1.heap.get? b=some o→(∀vs,o.data≠ .fields vs)→∃sl,s'.heap.get? b=some {o with slots:=sl}):bh C cx env O ρ s'.heap α (T++ai α μ'):=by
 have hOk:=p_ F.own (T:=T);have fr:∀a o,s.heap.get? a=some o→bX s.heap a→s1.heap.get? a=some o:= λa o z fa=>S1.ext a o z λq=>I.notFrame (db q) fa;have mv:∀ {v V},bm s.heap α (T++ai α μ) v V→bm s'.heap α (T++ai α μ') v V:= λr=>r.stepO S hOk λzz=>.inl;refine ⟨F.sc,F.gl,F.bn,F.len,au F.loc λm hm hl=>aZ m (jz (id hm) λob es ep z d r=>bP (up _ ob (fr _ _ z (fO hm)) λvs q=>nomatch d.symm.trans q) λsl z'=>pe _ es ep z' d r) λi y V h1 h2=>au (hl i y V h1 h2) λv e r=>aZ v e (mv r),au F.loc λm hm zz=>bP F.cel λcad hc=>⟨cad,hc.look,λi y k h1 h2=>au (hc.has i y k h1 h2) λo ho hv=>aZ o (au (id ho) λob z d=>aZ ob (keep _ (λq=>ly hm (q▸ho)) (λq=>nomatch q.symm.trans z) ob (fr _ _ z (gV ho))) d) λV h3=>au (hv V h3) λv e r=>aZ v e (mv r),hc.own,hc.inj⟩,λa ha=>⟨?_,(F.own a ha).2⟩,F.lo,λa ha q=>(S.hm (T:=T) (λzz=>.inl) a ha).elim (λz=>F.off a z q) (F.frA q).dom,F.nd⟩;refine au ((F.own a ha).1) λo z q=>?_;refine bP (up _ o (fr _ _ z (F.own a ha).1) λvs q2=>by rcases q with ⟨es,n,q⟩| ⟨v,q⟩<;>rw [q] at q2<;>cases q2) λsl z'=>?_;exact (aZ _ z' q)
theorem nx(B:W0 C n)(he:ab C n cx e f)(hs:∀env,starEach [e] env=(false,eval e env)::starEach [] env)
  (hl:cx.scope.names.lookup ("_law_beyond":Str)=some .globalImplicit) (hk:cx.scope.kind=.function):wa C n cx (.Call (.Name "_law_beyond" xp) [e] [] pos) (af [f] cO):=by
 refine ig B λG hv hb hn h4=>?_;refine .of ?_;intro A env O T ρ α μ s E V μ' R hA hef I F h;refine aD h λVs μ1 hev h=>ax h λV0 el h=>ax h λi ei h=>?_;cases e1:aR [.c i] μ1 with
 |some p=>
  rw [e1] at h
  refine ax h λx ex h=>cg h ?_;have e2:aR [.c i] μ1=some (.d x,p.2):=by rw [e1,←iP ex]
  refine (ce (xp:=xp) (pos:=pos) hn (dA hs he ae) hs hl hk ∅).go R I F ?_ λv s1 α1 I1 S1 r1=>c_ α1 I1 S1.up (F.step I S1) r1;refine (?_:bp (eX [f] ρ μ) _=_);rw [hev,Vg el,BH ei];exact s9 e2
 |none=>
  rw [e1] at h
  refine ax h λμ2 e2 h=>?_;cases (h:some (AV.d (.list []),μ2)=some (V,μ'));refine dg (wO G hv hb) λfa o fd g1 g2 g3 st=>?_;refine (?_:wpAny _ A (do callWith pos (←eval (.Name "_law_beyond" xp) env) [] (backTo pos (starEach [e] env)) []) _ _ s);refine yt (E_ (by rw [F.sc];exact hk) (by unfold J3;rw [F.sc];exact hl) (L5 (by rw [F.gl];exact C.g.keeps I.keep) g1 ?_) ∅);refine MP (o:=o) (fd:=fd) (ee (fs:=[f]) (hs env) (dA hs he ae) R I F hev λvs s1 α1 I1 S1 r1=>⟨⟨I1.keep _ _ g2,g3⟩,?_⟩);refine gF r1 el λv z rv=>au (Gh ei rv) λa ha z2=>?_;subst z;subst z2;have F1:=F.step I S1;have hfm:∀L,L∈[env].filterMap (·.frame)→L=env.locals:= λL hL=>by simpa [hef] using hL
  refine st A T α1 μ1 μ' s1 i a [env] _ _ (R.mono h4) I1 ha e2 hA (λenv' he'=>?_) (λL hL=>?_) λr s2 s' I2 S2 I' hgn keep up rel=>?_
  ·obtain rfl:env'=env:=by simpa using he'
   refine au F1.loc λm zp1 zz=>?_;refine jz zp1 λob es ep z d zz=>?_;exact ⟨by rw [F.sc,hk];decide,env'.locals,hef,ob,es,ep,z,d⟩
  ·rw [hfm L hL]
   exact ⟨λq=>F1.off _ (yo _ q) (.inr F1.lo),(F1.own _ F1.lo).2⟩
  ·have keep':∀b,b≠env.locals→s1.heap.get? b≠none→∀o,s2.heap.get? b=some o→s'.heap.get? b=some o:= λb hb=>keep b (λq=>hb (hfm b q))
   have S':aU O α1 μ1 s1 α1 μ' s':=⟨S2.pre,λb o z hb=>keep' b (λq=>hb (yo _ (q▸F1.lo))) (by rw [z];simp) o (S2.ext b o z λq=>hb (CE _ (by simpa using q))),S2.mts,λb o z=>by
    by_cases q:b=env.locals
    ·refine bH (ES q) ?_
     refine au ((F1.step I1 S2).loc) λm zp1 zz=>?_;refine jz zp1 λob es ep z' d zz=>?_;refine bP (up _ ob z' λvs q=>by rw [d] at q;cases q) λsl z2=>?_;exact ⟨_,z2⟩
    ·refine bP (S2.dom b o z) λo' z'=>?_
     exact ⟨o',keep' b q (by rw [z];simp) o' z'⟩,λi x z=>by rw [←hgn];exact S2.gens i x z⟩
   exact (c_ α1 I' (S1.up.trans S') (F1.slots I1 S2 S' keep' up) rel)
end Mine
namespace Mine
open PySem PySem.W PySem.Calls PyProof.Rows
variable {V V' : AV} {Cn D L TI TO a fa i1 i2 i3 z : Addr} {A : Around} {items zs : Array Value} {sh tup : Bool} {cf : CF} {c c' : ah} {C : gK} {cx : Cx} {f fi fo g : EF} {cenv env : Env} {mean : ExcName → Option Value} {e e1 e2 elt iter target test : Expr} {fl : Fl} {h h' : Heap} {itf : IF} {y : Int} {Vs : List AV} {M M' O T T' W wr α α' α1 α₀ : List Addr} {Mid : List Addr → List Addr → List Addr → List ah → Nat → Value → Shared → Prop} {St : List Addr → xH} {μ μ' μ'' μ1 μ2 μ3 μ₀ : List ah} {fs : List EF} {es : List Expr} {K cs ns os rest : List Int} {gi ls m ps : List Nat} {X acc acc' ds xs ys : List PyData} {body orelse : List Stmt} {vs : List Value} {ρ ρ' ρ1 ρ2 : d0} {tf : d0 → PyData → Option d0} {b i j ja jt k kk low mask n p q tk : Nat} {o : Obj} {op : Operator} {ha ke td te tx : Option AV} {hi lo : Option Expr} {gg : Option Nat} {apos pos px py sp tp xp : Pos} {prog : Program} {G : Prop} {d : PyData} {sc scope : Scope} {s s' s'' s1 s₀ : Shared} {spec : a_} {st : Stmt} {name x : Str} {t : TF} {u : Tok} {cd cls doc fv it pm v : Value} {E Q : Value → Shared → Prop} {w : World}
section
set_option genInjectivity false in
structure lX (C:gK) (n:Nat):Prop where
 h_law_numbers:aI C n "_law_numbers" gv
 h_law_octets:aI C n "_law_octets" fX
 h_law_formula:aI C n "_law_formula" aC
 h_law_beyond:W0 C n
 hISTERMINAL:aI C n "ISTERMINAL" cm
 hISNONTERMINAL:aI C n "ISNONTERMINAL" bQ
 hISEOF:aI C n "ISEOF" fB
 h_law_units:aI C n "_law_units" bB
 hL:Cy C n "_iter_escaped_chars" aE
 h_strip_quoted_realnames:aI C n "_strip_quoted_realnames" aM
 h_iter_escaped_chars:gL C n "_iter_escaped_chars" aE
 h_check_parenthesis:aI C n "_check_parenthesis" aq
 h_pre_parse_validation:aI C n "_pre_parse_validation" aX
 h_law_proved:aI C n "_law_proved" aO
 h_law_graph:aI C n "_law_graph" aW
 h_law_joined:aI C n "_law_joined" de
 hpretty_flags:aI C n "pretty_flags" cM
abbrev bA:Cx:=df (ao (ay 73))
theorem CU:aA C bA "cells" 1:=bu 1 ∅
abbrev uD:Scope:=jM [(".0",.local),("k",.local),("cell",.local),("sum",.globalImplicit),("script",.free)]
abbrev n5:Cx:=bR bA uD
theorem OA:aA C n5 "k" 31:=bu 31 ∅
theorem Ac:aA C n5 "cell" 32:=bu 32 ∅
theorem yc:ab C n n5 (.Name "cell" pos) (a9 32):=b9 32 ∅
theorem uQ:ab C n n5 (.Name "script" pos) (a9 0):=bF 0 3 ∅ (by decide) ∅ ∅ ∅
theorem Pv:ab C n n5 (.Name "k" pos) (a9 31):=b9 31 ∅
abbrev tM:Scope:=jM [(".0",.local),("x",.local)]
abbrev JW:Cx:=bR n5 tM
theorem MH:aA C JW "x" 33:=bu 33 ∅
theorem Nt:ab C n JW (.Name "x" pos) (a9 33):=b9 33 ∅
def wn:SF:=(f_ 1 uD (b_ [(aV [(kI 125),(kI 9),(kI 187),(kI 70),(kI 428),(kI 191)])] g9) (jc 31 32) (cU bg (aY (aj (a9 32) (af [(cb tM (aK false (vB (a9 0) (aL (a9 31)) (aL (kI 60)) (aL (kI 6)))) (du 33) (cU bg (aY (aj (a9 33) (kI 5040) (aS cq)))))] v8) aT))) false)
theorem Jr(G:cI C)(h2:2≤n):aQ C n bA (dE (ar (ay 73)) 0) wn:=(gz false (bx ∅ h2 (λzz zz=>rfl) (bN _ _ _ _ _ _) (jW (fv:=.type "enumerate") (G.no _ ∅) ∅ ∅ (bD _) iO (ag rfl (bc (ag rfl am (ag rfl am (ag rfl am (ag rfl am (ag rfl am (ag rfl am ae))))))) ae) (λzz=>rfl) (λzz=>rfl) ∅ ∅ ∅) (eW OA Ac) cG (bZ (av yc (co (fv:=.builtin "sum") (G.no _ ∅) ∅ ∅ (bf _) yi (ag rfl (cD (bx ∅ h2 (λzz zz=>rfl) (bN _ _ _ _ _ _) (c5 (OK uQ (cw Pv) (cw am) (cw am) (λzz zz=>rfl))) (bM MH) cG (bZ (av Nt am dk)))) ae) (λzz=>rfl) (λzz=>rfl) ∅ ∅ ∅) br))) CU (eY ∅ ∅ ∅ ∅))
theorem CK:aA C bA "total" 2:=bu 2 ∅
theorem i5:ab C n bA (.Name "cells" pos) (a9 1):=b9 1 ∅
def vX:SF:=(c6 2 (af [(a9 1)] v8))
theorem Ho(G:cI C)(h2:2≤n):aQ C n bA (dE (ar (ay 73)) 1) vX:=(bE (co (fv:=.builtin "sum") (G.no _ ∅) ∅ ∅ (bf _) yi (ag rfl i5 ae) (λzz=>rfl) (λzz=>rfl) ∅ ∅ ∅) CK (λzz zz=> ∅))
theorem D7:aA C bA "mates" 3:=bu 3 ∅
theorem gp:ab C n bA (.Name "total" pos) (a9 2):=b9 2 ∅
def wE:SF:=(c6 3 (aF (aV [(aV [(kI 5),(kI 4),(kI 3),(kI 2),(kI 1),(kI 0)]),(aV [(kI 5),(kI 2),(kI 1),(kI 4),(kI 3),(kI 0)]),(aV [(kI 3),(kI 2),(kI 1),(kI 0),(kI 5),(kI 4)]),(aV [(kI 1),(kI 0),(kI 5),(kI 4),(kI 3),(kI 2)]),(aV [(kI 1),(kI 0),(kI 3),(kI 2),(kI 5),(kI 4)])]) (aj (aj (a9 2) (kI 5) (aS cN)) (kI 5) (aS cq))))
theorem GO(G:cI C)(h2:2≤n):aQ C n bA (dE (ar (ay 73)) 2) wE:=(bE (bj (bc (ag rfl (bc (ag rfl am (ag rfl am (ag rfl am (ag rfl am (ag rfl am (ag rfl am ae))))))) (ag rfl (bc (ag rfl am (ag rfl am (ag rfl am (ag rfl am (ag rfl am (ag rfl am ae))))))) (ag rfl (bc (ag rfl am (ag rfl am (ag rfl am (ag rfl am (ag rfl am (ag rfl am ae))))))) (ag rfl (bc (ag rfl am (ag rfl am (ag rfl am (ag rfl am (ag rfl am (ag rfl am ae))))))) (ag rfl (bc (ag rfl am (ag rfl am (ag rfl am (ag rfl am (ag rfl am (ag rfl am ae))))))) ae)))))) (av (av gp am eM) am dk) (λzz zz=>rfl)) D7 (λzz zz=> ∅))
theorem xe:aA C bA "numbers" 4:=bu 4 ∅
theorem j7:ab C n bA (.Name "mates" pos) (a9 3):=b9 3 ∅
def xi:SF:=(c6 4 (af [(a9 1),(a9 2),(a9 3)] gv))
theorem Ik(G:cI C)(h2:2≤n)(H:lX C n):aQ C n bA (dE (ar (ay 73)) 3) xi:=(bE (ce H.h_law_numbers (ag rfl i5 (ag rfl gp (ag rfl j7 ae))) (λzz=>rfl) ∅ ∅ ∅) xe (λzz zz=> ∅))
theorem LU:aA C bA "low" 5:=bu 5 ∅
theorem N5:aA C bA "far" 6:=bu 6 ∅
def xA:SF:=(wy 5 6 (cX [(aj (a9 2) (kI 13) (aS cq)),(aj (aj (aj (aj (a9 2) (kI 13) (aS cN)) (kI 5) (aS cq)) (kI 3) (aS λx y=>some (x-y))) (aj (kI 2) (kI 32) (aS gj)) l8)]))
theorem JU(G:cI C)(h2:2≤n)(H:lX C n):aQ C n bA (dE (ar (ay 73)) 4) xA:=(AD (cY (ag rfl (av gp am dk) (ag rfl (av (av (av (av gp am eM) am dk) am i_) (av am am j2) qd) ae))) LU N5 (λzz=>rfl) (wl ∅ ∅ ∅ ∅ ∅ ∅ ∅ ∅))
theorem Du:aA C bA "great" 7:=bu 7 ∅
theorem iR:ab C n bA (.Name "numbers" pos) (a9 4):=b9 4 ∅
abbrev uU:Scope:=jM [(".0",.local),("number",.local)]
abbrev H_:Cx:=bR bA uU
theorem tW:aA C H_ "number" 31:=bu 31 ∅
theorem m8:ab C n H_ (.Name "number" pos) (a9 31):=b9 31 ∅
theorem pd:ab C n bA (.Name "low" pos) (a9 5):=b9 5 ∅
def wN:SF:=(c6 7 (aj (aj (aj (aj (kI 2) (af [(cb uU (aK false (a9 4)) (du 31) (cU (bC (a9 31) (kI 274) dH) (aY (a9 31))))] dz) (aS gj)) (kI 1) (aS λx y=>some (x-y))) (aj (kI 2) (a9 5) (aS gj)) l8) (aj (kI 2) (kI 31) (aS gj)) aT))
theorem Fv(G:cI C)(h2:2≤n)(H:lX C n):aQ C n bA (dE (ar (ay 73)) 5) wN:=(bE (av (av (av (av am (co (fv:=.builtin "len") (G.no _ ∅) ∅ ∅ (bf _) eR (ag rfl (cD (bx ∅ h2 (λzz zz=>rfl) (bN _ _ _ _ _ _) (c5 iR) (bM tW) (iY (cj m8 am dM ∅)) (bZ m8))) ae) (λzz=>rfl) (λzz=>rfl) ∅ ∅ ∅) j2) am i_) (av am pd j2) qd) (av am am j2) br) Du (λzz zz=> ∅))
theorem GP:aA C bA "tape" 8:=eS 8 ∅ ∅ ∅
theorem sM:ab C n bA (.Name "great" pos) (a9 7):=b9 7 ∅
def wR:SF:=(c6 8 (af [(af [(aj (a9 4) (aV [(a9 7)]) aT),(a9 1),(a9 2)] fX)] Qg))
theorem K9(G:cI C)(h2:2≤n)(H:lX C n):aQ C n bA (dE (ar (ay 73)) 6) wR:=(bE (co (fv:=.builtin "iter") (G.no _ ∅) ∅ ∅ (bf _) NT (ag rfl (ce H.h_law_octets (ag rfl (av iR (bc (ag rfl sM ae)) br) (ag rfl i5 (ag rfl gp ae))) (λzz=>rfl) ∅ ∅ ∅) ae) (λzz=>rfl) (λzz=>rfl) ∅ ∅ ∅) GP (λzz zz=> ∅))
theorem JM:aA C bA "told" 9:=eS 9 ∅ ∅ ∅
def wF:SF:=(c6 9 (oa []))
theorem Ht(G:cI C)(h2:2≤n)(H:lX C n):aQ C n bA (dE (ar (ay 73)) 7) wF:=(bE (jx ae) JM (λzz zz=> ∅))
theorem HD:aA C bA "read" 10:=bu 10 ∅
abbrev xQ:Scope:=jM [(".0",.local),("turn",.local),("_law_formula",.globalImplicit),("tape",.free),("told",.free)]
abbrev xX:Cx:=bR bA xQ
theorem yK:aA C xX "turn" 31:=bu 31 ∅
theorem zZ:ab C n xX (.Name "tape" pos) (a9 8):=bF 8 3 ∅ (by decide) ∅ ∅ ∅
theorem zT:ab C n xX (.Name "told" pos) (a9 9):=bF 9 3 ∅ (by decide) ∅ ∅ ∅
def BU:SF:=(f_ 10 xQ (aK false (af [(aF (aV [(kI 2),(kI 2),(kI 3),(kI 4)]) (aj (aj (a9 2) (kI 25) (aS cN)) (kI 4) (aS cq)))] cF)) (du 31) (cU bg (aY (af [(a9 8),(a9 9)] aC))) false)
theorem IV(G:cI C)(h2:2≤n)(H:lX C n):aQ C n bA (dE (ar (ay 73)) 8) BU:=(gz false (bx ∅ h2 (λzz zz=>rfl) (bN _ _ _ _ _ _) (c5 (co (fv:=.type "range") (G.no _ ∅) ∅ ∅ (bD _) dO (ag rfl (bj (bc (ag rfl am (ag rfl am (ag rfl am (ag rfl am ae))))) (av (av gp am eM) am dk) (λzz zz=>rfl)) ae) (λzz=>rfl) (λzz=>rfl) ∅ ∅ ∅)) (bM yK) cG (bZ (ce H.h_law_formula (ag rfl zZ (ag rfl zT ae)) (λzz=>rfl) ∅ ∅ ∅))) HD (eY ∅ ∅ ∅ ∅))
theorem Au:aA C bA "beyond" 11:=bu 11 ∅
theorem rI:ab C n bA (.Name "tape" pos) (a9 8):=bF 8 2 ∅ (by decide) ∅ ∅ ∅
def vM:SF:=(c6 11 (aj (aj (af [(a9 8)] cO) (af [(a9 8)] cO) aT) (af [(a9 8)] cO) aT))
theorem Iz(G:cI C)(h2:2≤n)(H:lX C n):Cv C n bA (dE (ar (ay 73)) 9) vM:=(SO (JY (JY (nx H.h_law_beyond rI (λzz=> ∅) ∅ ∅) (nx H.h_law_beyond rI (λzz=> ∅) ∅ ∅) br) (nx H.h_law_beyond rI (λzz=> ∅) ∅ ∅) br) Au (λzz zz=> ∅))
theorem Ef:aA C bA "asked" 12:=bu 12 ∅
theorem vi:ab C n bA (.Name "told" pos) (a9 9):=bF 9 2 ∅ (by decide) ∅ ∅ ∅
theorem lE:ab C n bA (.Name "beyond" pos) (a9 11):=b9 11 ∅
def rt:SF:=(c6 12 (oa [(cX [(a9 9),(a9 4)]),(cX [(a9 11),(aV [(a9 7)])])]))
theorem CI(G:cI C)(h2:2≤n)(H:lX C n):aQ C n bA (dE (ar (ay 73)) 10) rt:=(bE (jx (ag rfl (cY (ag rfl vi (ag rfl iR ae))) (ag rfl (cY (ag rfl lE (ag rfl (bc (ag rfl sM ae)) ae))) ae))) Ef (λzz zz=> ∅))
theorem zy:aA C bA "symbol" 13:=bu 13 ∅
theorem CB:aA C bA "tests" 14:=bu 14 ∅
theorem eH:ab C n bA (.Name "symbol" pos) (a9 13):=b9 13 ∅
theorem eN:ab C n bA (.Name "asked" pos) (a9 12):=b9 12 ∅
theorem sm:ab C n bA (.Name "tests" pos) (a9 14):=b9 14 ∅
abbrev nG:Scope:=jM [(".0",.local),("one",.local),("isinstance",.globalImplicit),("bool",.globalImplicit)]
abbrev IY:Cx:=bR bA nG
theorem CZ:aA C IY "one" 31:=bu 31 ∅
theorem Dg:ab C n IY (.Name "one" pos) (a9 31):=b9 31 ∅
def r5:SF:=(jI (aK false (aj (aj (a9 9) (a9 11) aT) (aV [(kI 255),(kI 256),(ju (kI 256)),(aj (a9 2) (kI 2000) (aS λx y=>some (x-y)))]) aT)) (du 13) (ap (c6 14 (aV [(af [(a9 13)] cm),(af [(a9 13)] bQ),(af [(a9 13)] fB)])) (ap (ci (d_ (a9 12) (cX [(aj (aj (aV [(af [(a9 13),(kT "int")] gx)]) (cb nG (aK false (aj (aV [(a9 13)]) (a9 14) aT)) (du 31) (cU bg (aY (af [(a9 31),(kT "bool")] gx)))) aT) (a9 14) aT),(aV [(kB true),(kB false),(kB true),(kB true),(kB true),(dY (aj (a9 13) (kI 256) (aS cN)) (kI 1) (ef λx y=>decide (x<y))),(dY (aj (a9 13) (kI 256) (aS cN)) (kI 0) (ef λx y=>decide (y<x))),(xO (a9 13))])]))) aP)) aP)
theorem DP(G:cI C)(h2:2≤n)(H:lX C n):aQ C n bA (dE (ar (ay 73)) 11) r5:=(gn h2 (c5 (av (av vi lE br) (bc (ag rfl am (ag rfl am (ag rfl (nk am) (ag rfl (av gp am i_) ae))))) br)) (bM zy) (ak (bE (bc (ag rfl (ce H.hISTERMINAL (ag rfl eH ae) (λzz=>rfl) ∅ ∅ ∅) (ag rfl (ce H.hISNONTERMINAL (ag rfl eH ae) (λzz=>rfl) ∅ ∅ ∅) (ag rfl (ce H.hISEOF (ag rfl eH ae) (λzz=>rfl) ∅ ∅ ∅) ae)))) CB (λzz zz=> ∅)) (ak (cK (cv (λzz=>rfl) eN (cY (ag rfl (av (av (bc (ag rfl (co (fv:=.builtin "isinstance") (G.no _ ∅) ∅ ∅ (bf _) sE (ag rfl eH (ag rfl (ad6 (G.no _ ∅) ∅ ∅ ∅ ∅ ∅) ae)) (λzz=>rfl) (λzz=>rfl) ∅ ∅ ∅) ae)) (cD (bx ∅ h2 (λzz zz=>rfl) (bN _ _ _ _ _ _) (c5 (av (bc (ag rfl eH ae)) sm br)) (bM CZ) cG (bZ (co (fv:=.builtin "isinstance") (G.no _ ∅) ∅ ∅ (bf _) sE (ag rfl Dg (ag rfl (ad6 (G.no _ ∅) ∅ ∅ ∅ ∅ ∅) ae)) (λzz=>rfl) (λzz=>rfl) ∅ ∅ ∅)))) br) sm br) (ag rfl (bc (ag rfl dh (ag rfl dh (ag rfl dh (ag rfl dh (ag rfl dh (ag rfl (fq (av eH am eM) am rq ∅) (ag rfl (fq (av eH am eM) am Kr ∅) (ag rfl (Sy eH) ae))))))))) ae))) (λzz=>rfl)) ∅ (λzz=>rfl)) aN)) aN (λzz zz=>rfl))
theorem Ea:aA C bA "units" 15:=eS 15 ∅ ∅ ∅
def nS:SF:=(c6 15 (aj (af [(af [(kI 6)] cF),(a9 3),(a9 1),(kB false)] bB) (aV [(kS "\\")]) aT))
theorem Db(G:cI C)(h2:2≤n)(H:lX C n):aQ C n bA (dE (ar (ay 73)) 12) nS:=(bE (av (ce H.h_law_units (ag rfl (co (fv:=.type "range") (G.no _ ∅) ∅ ∅ (bD _) dO (ag rfl am ae) (λzz=>rfl) (λzz=>rfl) ∅ ∅ ∅) (ag rfl j7 (ag rfl i5 (ag rfl dh ae)))) (λzz=>rfl) ∅ ∅ ∅) (bc (ag rfl bT ae)) br) Ea (λzz zz=> ∅))
theorem FX:aA C bA "text" 16:=bu 16 ∅
theorem sI:ab C n bA (.Name "units" pos) (a9 15):=bF 15 2 ∅ (by decide) ∅ ∅ ∅
def oc:SF:=(c6 16 (dv (kS "") [(cc (a9 15) ba (aL (ju (kI 1))))] fc))
theorem Dl(G:cI C)(h2:2≤n)(H:lX C n):aQ C n bA (dE (ar (ay 73)) 13) oc:=(bE (fQ (λzz=>rfl) JE JH gU bT (ag rfl (dJ sI dC (cw (nk am))) ae) (λzz=>rfl) (λzz=>rfl)) FX (λzz zz=> ∅))
theorem CY:aA C bA "shorn" 17:=bu 17 ∅
def nT:SF:=(c6 17 (dv (kS "") [(af [(af [(kI 6)] cF),(a9 3),(a9 1),(kB true)] bB)] fc))
theorem Ek(G:cI C)(h2:2≤n)(H:lX C n):aQ C n bA (dE (ar (ay 73)) 14) nT:=(bE (fQ (λzz=>rfl) JE JH gU bT (ag rfl (ce H.h_law_units (ag rfl (co (fv:=.type "range") (G.no _ ∅) ∅ ∅ (bD _) dO (ag rfl am ae) (λzz=>rfl) (λzz=>rfl) ∅ ∅ ∅) (ag rfl j7 (ag rfl i5 (ag rfl dh ae)))) (λzz=>rfl) ∅ ∅ ∅) ae) (λzz=>rfl) (λzz=>rfl)) CY (λzz zz=> ∅))
theorem jP:ab C n bA (.Name "text" pos) (a9 16):=b9 16 ∅
abbrev uk:Scope:=jM [(".0",.local),("k",.local),("unit",.local),("len",.globalImplicit),("units",.free)]
abbrev qa:Cx:=bR bA uk
theorem PA:aA C qa "k" 31:=bu 31 ∅
theorem y6:aA C qa "unit" 32:=bu 32 ∅
theorem wi:ab C n qa (.Name "units" pos) (a9 15):=bF 15 3 ∅ (by decide) ∅ ∅ ∅
theorem Ot:ab C n qa (.Name "k" pos) (a9 31):=b9 31 ∅
theorem zK:ab C n qa (.Name "unit" pos) (a9 32):=b9 32 ∅
def n4:SF:=(ci (d_ (a9 12) (cX [(xP [(aj (a9 16) (kS "\\") aT)] aE),(cb uk (b_ [(a9 15)] g9) (jc 31 32) (cU bg (aY (cX [(aj (af [(dv (kS "") [(cc (a9 15) ba (aL (aj (a9 31) (kI 1) aT)))] fc)] dz) (kI 1) (aS λx y=>some (x-y))),(a9 32)]))))])))
theorem Dv(G:cI C)(h2:2≤n)(H:lX C n):aQ C n bA (dE (ar (ay 73)) 15) n4:=(cK (cv (λzz=>rfl) eN (cY (ag rfl (DF (G.no _ ∅) H.hL (ag rfl (av jP bT br) ae) (λzz=> ∅) ∅ ∅ ∅ ∅) (ag rfl (cD (bx ∅ h2 (λzz zz=>rfl) (bN _ _ _ _ _ _) (jW (fv:=.type "enumerate") (G.no _ ∅) ∅ ∅ (bD _) iO (ag rfl sI ae) (λzz=>rfl) (λzz=>rfl) ∅ ∅ ∅) (eW PA y6) cG (bZ (cY (ag rfl (av (co (fv:=.builtin "len") (G.no _ ∅) ∅ ∅ (bf _) eR (ag rfl (fQ (λzz=>rfl) JE JH gU bT (ag rfl (dJ wi dC (cw (av Ot am br))) ae) (λzz=>rfl) (λzz=>rfl)) ae) (λzz=>rfl) (λzz=>rfl) ∅ ∅ ∅) am i_) (ag rfl zK ae)))))) ae))) (λzz=>rfl)) ∅ (λzz=>rfl))
theorem mZ:ab C n bA (.Name "shorn" pos) (a9 17):=b9 17 ∅
def ny:SF:=(ci (d_ (a9 12) (cX [(aV [(af [(a9 16)] aM),(af [(aj (a9 16) (kS "\"(") aT)] aM)]),(aV [(a9 17),(aj (a9 17) (kS "\"(") aT)])])))
theorem DL(G:cI C)(h2:2≤n)(H:lX C n):aQ C n bA (dE (ar (ay 73)) 16) ny:=(cK (cv (λzz=>rfl) eN (cY (ag rfl (bc (ag rfl (ce H.h_strip_quoted_realnames (ag rfl jP ae) (λzz=>rfl) ∅ ∅ ∅) (ag rfl (ce H.h_strip_quoted_realnames (ag rfl (av jP bT br) ae) (λzz=>rfl) ∅ ∅ ∅) ae))) (ag rfl (bc (ag rfl mZ (ag rfl (av mZ bT br) ae))) ae))) (λzz=>rfl)) ∅ (λzz=>rfl))
abbrev yD:Scope:=jM [(".0",.local),("place",.local),("unit",.local),("EXACT_TOKEN_TYPES",.globalImplicit)]
abbrev yq:Cx:=bR bA yD
theorem vZ:aA C yq "place" 31:=bu 31 ∅
theorem zA:aA C yq "unit" 32:=bu 32 ∅
theorem pQ:ab C n yq (.Name "unit" pos) (a9 32):=b9 32 ∅
abbrev y7:Scope:=jM [(".0",.local),("number",.local)]
abbrev GL:Cx:=bR bA y7
theorem uF:aA C GL "number" 31:=bu 31 ∅
theorem mD:ab C n GL (.Name "number" pos) (a9 31):=b9 31 ∅
def nB:SF:=(ci (d_ (a9 12) (cX [(cb yD (b_ [(a9 17)] aE) (jc 31 32) (cU (bC (a9 32) (aV [(kS "("),(kS ")")]) XC) (aY (jF kc (a9 32))))),(cb y7 (aK false (a9 4)) (du 31) (cU (Bs (kI 0) (a9 31) (kI 256) (ef λx y=>decide (x<y)) (ef λx y=>decide (x<y))) (aY (a9 31))))])))
theorem DH(G:cI C)(h2:2≤n)(H:lX C n):aQ C n bA (dE (ar (ay 73)) 17) nB:=(cK (cv (λzz=>rfl) eN (cY (ag rfl (cD (bx ∅ h2 (λzz zz=>rfl) (bN _ _ _ _ _ _) (yr H.h_iter_escaped_chars (ag rfl mZ ae) (λzz=>rfl) ∅ ∅ ∅) (eW vZ zA) (iY (cj pQ (bc (ag rfl bT (ag rfl bT ae))) Yw ∅)) (bZ (KB G pQ (λzz zz=>rfl) ∅ ∅)))) (ag rfl (cD (bx ∅ h2 (λzz zz=>rfl) (bN _ _ _ _ _ _) (c5 iR) (bM uF) (iY (NI am mD am rq rq ∅)) (bZ mD))) ae))) (λzz=>rfl)) ∅ (λzz=>rfl))
def nY:SF:=(ci (d_ (a9 12) (cX [(aV [(dY (af [(aj (a9 16) (kS "\"()\\") aT)] aq) (kB true) L6),(dY (af [(aj (a9 16) (kS "\"(") aT)] aq) (kB false) L6),(af [(aV [])] aX)]),(aV [(kB true),(kB true),(aV [])])])))
theorem EB(G:cI C)(h2:2≤n)(H:lX C n):aQ C n bA (dE (ar (ay 73)) 18) nY:=(cK (cv (λzz=>rfl) eN (cY (ag rfl (bc (ag rfl (fq (ce H.h_check_parenthesis (ag rfl (av jP bT br) ae) (λzz=>rfl) ∅ ∅ ∅) dh wz ∅) (ag rfl (fq (ce H.h_check_parenthesis (ag rfl (av jP bT br) ae) (λzz=>rfl) ∅ ∅ ∅) dh wz ∅) (ag rfl (ce H.h_pre_parse_validation (ag rfl (bc ae) ae) (λzz=>rfl) ∅ ∅ ∅) ae)))) (ag rfl (bc (ag rfl dh (ag rfl dh (ag rfl (bc ae) ae)))) ae))) (λzz=>rfl)) ∅ (λzz=>rfl))
theorem D6:aA C bA "proof" 18:=bu 18 ∅
theorem w4:ab C n bA (.Name "read" pos) (a9 10):=b9 10 ∅
def o8:SF:=(c6 18 (af [(cc (a9 10) ba (aL (ju (kI 1)))),(a9 3),(a9 1),(a9 12)] aO))
theorem DT(G:cI C)(h2:2≤n)(H:lX C n):aQ C n bA (dE (ar (ay 73)) 19) o8:=(bE (ce H.h_law_proved (ag rfl (dJ w4 dC (cw (nk am))) (ag rfl j7 (ag rfl i5 (ag rfl eN ae)))) (λzz=>rfl) ∅ ∅ ∅) D6 (λzz zz=> ∅))
theorem Eo:aA C bA "joins" 19:=bu 19 ∅
def n0:SF:=(c6 19 (oa []))
theorem CJ(G:cI C)(h2:2≤n)(H:lX C n):aQ C n bA (dE (ar (ay 73)) 20) n0:=(bE (jx ae) Eo (λzz zz=> ∅))
theorem wc:aA C bA "formula" 20:=bu 20 ∅
theorem vf:ab C n bA (.Name "formula" pos) (a9 20):=b9 20 ∅
theorem kM:ab C n bA (.Name "joins" pos) (a9 19):=b9 19 ∅
def nq:SF:=(jI (aK false (cc (a9 10) ba (aL (ju (kI 1))))) (du 20) (ap (ci (af [(a9 20),(a9 19)] aW)) aP) aP)
theorem EI(G:cI C)(h2:2≤n)(H:lX C n):aQ C n bA (dE (ar (ay 73)) 21) nq:=(gn h2 (c5 (dJ w4 dC (cw (nk am)))) (bM wc) (ak (cK (ce H.h_law_graph (ag rfl vf (ag rfl kM ae)) (λzz=>rfl) ∅ ∅ ∅) ∅ (λzz=>rfl)) aN) aN (λzz zz=>rfl))
theorem CV:aA C bA "forks" 21:=bu 21 ∅
abbrev xV:Scope:=jM [(".0",.local),("join",.local)]
abbrev JT:Cx:=bR bA xV
theorem zQ:aA C JT "join" 31:=bu 31 ∅
theorem qH:ab C n JT (.Name "join" pos) (a9 31):=b9 31 ∅
def mT:SF:=(f_ 21 xV (aK false (a9 19)) (du 31) (cU (bC (aF (a9 31) (kI 0)) (kI 18) dH) (aY (a9 31))) false)
theorem Ds(G:cI C)(h2:2≤n)(H:lX C n):aQ C n bA (dE (ar (ay 73)) 22) mT:=(gz false (bx ∅ h2 (λzz zz=>rfl) (bN _ _ _ _ _ _) (c5 kM) (bM zQ) (iY (cj (bj qH am (λzz zz=>rfl)) am dM ∅)) (bZ qH)) CV (eY ∅ ∅ ∅ ∅))
theorem CM:aA C bA "start" 22:=bu 22 ∅
abbrev yI:Scope:=jM [(".0",.local),("place",.local),("mate",.local),("min",.globalImplicit)]
abbrev tN:Cx:=bR bA yI
theorem vP:aA C tN "place" 31:=bu 31 ∅
theorem yF:aA C tN "mate" 32:=bu 32 ∅
theorem wV:ab C n tN (.Name "place" pos) (a9 31):=b9 31 ∅
theorem Ah:ab C n tN (.Name "mate" pos) (a9 32):=b9 32 ∅
def mR:SF:=(c6 22 (aj (cb yI (b_ [(a9 3)] g9) (jc 31 32) (cU bg (aY (af [(a9 31),(a9 32)] Iy)))) (af [(af [(kI 6),(aj (kI 6) (af [(a9 19)] dz) aT)] cF)] mo) aT))
theorem E2(G:cI C)(h2:2≤n)(H:lX C n):aQ C n bA (dE (ar (ay 73)) 23) mR:=(bE (av (cD (bx ∅ h2 (λzz zz=>rfl) (bN _ _ _ _ _ _) (jW (fv:=.type "enumerate") (G.no _ ∅) ∅ ∅ (bD _) iO (ag rfl j7 ae) (λzz=>rfl) (λzz=>rfl) ∅ ∅ ∅) (eW vP yF) cG (bZ (co (fv:=.builtin "min") (G.no _ ∅) ∅ ∅ (bf _) Js (ag rfl wV (ag rfl Ah ae)) (λzz=>rfl) (λzz=>rfl) ∅ ∅ ∅)))) (co (fv:=.type "list") (G.no _ ∅) ∅ ∅ (bD _) tK (ag rfl (co (fv:=.type "range") (G.no _ ∅) ∅ ∅ (bD _) dO (ag rfl am (ag rfl (av am (co (fv:=.builtin "len") (G.no _ ∅) ∅ ∅ (bf _) eR (ag rfl kM ae) (λzz=>rfl) (λzz=>rfl) ∅ ∅ ∅) br) ae)) (λzz=>rfl) (λzz=>rfl) ∅ ∅ ∅) ae) (λzz=>rfl) (λzz=>rfl) ∅ ∅ ∅) br) CM (λzz zz=> ∅))
theorem yP:aA C bA "labels" 23:=bu 23 ∅
theorem DQ:ab C n bA (.Name "start" pos) (a9 22):=b9 22 ∅
abbrev ui:Scope:=jM [(".0",.local),("join",.local),("part",.local)]
abbrev pn:Cx:=bR bA ui
theorem wo:aA C pn "join" 31:=bu 31 ∅
theorem jX:ab C n pn (.Name "join" pos) (a9 31):=b9 31 ∅
theorem wY:aA C pn "part" 32:=bu 32 ∅
theorem vz:ab C n pn (.Name "part" pos) (a9 32):=b9 32 ∅
def m_:SF:=(c6 23 (af [(a9 22),(cb ui (aK false (a9 19)) (du 31) (cU (bC (aF (a9 31) (kI 0)) (kI 16) dH) (gf (aK false (cc (a9 31) (aL (kI 2)) ba)) (du 32) (cU bg (aY (cX [(aF (a9 31) (kI 1)),(a9 32)]))))))] de))
theorem E6(G:cI C)(h2:2≤n)(H:lX C n):aQ C n bA (dE (ar (ay 73)) 24) m_:=(bE (ce H.h_law_joined (ag rfl DQ (ag rfl (cD (bx ∅ h2 (λzz zz=>rfl) (iq _ _ _ _ _ _ _ _ _) (c5 kM) (bM wo) (iY (cj (bj jX am (λzz zz=>rfl)) am dM ∅)) (ko h2 (c5 (dJ jX (cw am) dC)) (bM wY) cG (cY (ag rfl (bj jX am (λzz zz=>rfl)) (ag rfl vz ae))) (λzz zz=>rfl)))) ae)) (λzz=>rfl) ∅ ∅ ∅) yP (λzz zz=> ∅))
theorem EE:aA C bA "names" 24:=bu 24 ∅
def nH:SF:=(c6 24 (aV [(kS "OPTIMIZED"),(kS "NEWLOCALS"),(kS "VARARGS"),(kS "VARKEYWORDS"),(kS "NESTED"),(kS "GENERATOR"),(kS "NOFREE"),(kS "COROUTINE"),(kS "ITERABLE_COROUTINE"),(kS "ASYNC_GENERATOR")]))
theorem DY(G:cI C)(h2:2≤n)(H:lX C n):aQ C n bA (dE (ar (ay 73)) 25) nH:=(bE (bc (ag rfl bT (ag rfl bT (ag rfl bT (ag rfl bT (ag rfl bT (ag rfl bT (ag rfl bT (ag rfl bT (ag rfl bT (ag rfl bT ae))))))))))) EE (λzz zz=> ∅))
theorem E4:aA C bA "words" 25:=bu 25 ∅
theorem D0:ab C n bA (.Name "names" pos) (a9 24):=b9 24 ∅
abbrev ub:Scope:=jM [(".0",.local),("place",.local),("hex",.globalImplicit)]
abbrev BQ:Cx:=bR bA ub
theorem uK:aA C BQ "place" 31:=bu 31 ∅
theorem uZ:ab C n BQ (.Name "place" pos) (a9 31):=b9 31 ∅
theorem oj:ab C n bA (.Name "forks" pos) (a9 21):=b9 21 ∅
def nM:SF:=(c6 25 (cc (aj (a9 24) (cb ub (aK false (af [(kI 10),(kI 17)] cF)) (du 31) (cU bg (aY (af [(aj (kI 2) (a9 31) (aS gj))] oM)))) aT) (aL (a9 5)) (aL (aj (a9 5) (af [(a9 21)] dz) aT))))
theorem EC(G:cI C)(h2:2≤n)(H:lX C n):aQ C n bA (dE (ar (ay 73)) 26) nM:=(bE (dJ (av D0 (cD (bx ∅ h2 (λzz zz=>rfl) (bN _ _ _ _ _ _) (c5 (co (fv:=.type "range") (G.no _ ∅) ∅ ∅ (bD _) dO (ag rfl am (ag rfl am ae)) (λzz=>rfl) (λzz=>rfl) ∅ ∅ ∅)) (bM uK) cG (bZ (co (fv:=.builtin "hex") (G.no _ ∅) ∅ ∅ (bf _) tO (ag rfl (av am uZ j2) ae) (λzz=>rfl) (λzz=>rfl) ∅ ∅ ∅)))) br) (cw pd) (cw (av pd (co (fv:=.builtin "len") (G.no _ ∅) ∅ ∅ (bf _) eR (ag rfl oj ae) (λzz=>rfl) (λzz=>rfl) ∅ ∅ ∅) br))) E4 (λzz zz=> ∅))
theorem CC:aA C bA "trees" 26:=bu 26 ∅
def oi:SF:=(c6 26 (oa []))
theorem Ez(G:cI C)(h2:2≤n)(H:lX C n):aQ C n bA (dE (ar (ay 73)) 27) oi:=(bE (jx ae) CC (λzz zz=> ∅))
theorem Kz:aA C bA "mask" 27:=eS 27 ∅ ∅ ∅
theorem Gf:aA C bA "said" 28:=eS 28 ∅ ∅ ∅
theorem Kb:ab C n bA (.Name "mask" pos) (a9 27):=bF 27 2 ∅ (by decide) ∅ ∅ ∅
theorem Kc:ab C n bA (.Name "said" pos) (a9 28):=bF 28 2 ∅ (by decide) ∅ ∅ ∅
theorem nF:ab C n bA (.Name "words" pos) (a9 25):=b9 25 ∅
abbrev mf:Scope:=jM [(".0",.local),("k",.local),("word",.local),("mask",.free)]
abbrev lT:Cx:=bR bA mf
theorem Gd:aA C lT "k" 31:=bu 31 ∅
theorem xx:aA C lT "word" 32:=bu 32 ∅
theorem vv:ab C n lT (.Name "mask" pos) (a9 27):=bF 27 3 ∅ (by decide) ∅ ∅ ∅
theorem J7:ab C n lT (.Name "k" pos) (a9 31):=b9 31 ∅
theorem vb:ab C n lT (.Name "word" pos) (a9 32):=b9 32 ∅
theorem yE:aA C bA "chosen" 29:=bu 29 ∅
abbrev kQ:Scope:=jM [(".0",.local),("word",.local),("fork",.local),("said",.free)]
abbrev lM:Cx:=bR bA kQ
theorem w6:aA C lM "word" 31:=bu 31 ∅
theorem vm:aA C lM "fork" 32:=bu 32 ∅
theorem kg:ab C n lM (.Name "fork" pos) (a9 32):=b9 32 ∅
theorem xz:ab C n lM (.Name "word" pos) (a9 31):=b9 31 ∅
theorem vS:ab C n lM (.Name "said" pos) (a9 28):=bF 28 3 ∅ (by decide) ∅ ∅ ∅
theorem zU:aA C bA "joined" 30:=bu 30 ∅
theorem qB:ab C n bA (.Name "labels" pos) (a9 23):=b9 23 ∅
theorem x_:ab C n bA (.Name "chosen" pos) (a9 29):=b9 29 ∅
theorem sX:ab C n bA (.Name "trees" pos) (a9 26):=b9 26 ∅
theorem jk:ab C n bA (.Name "joined" pos) (a9 30):=b9 30 ∅
def oo:SF:=(jI (aK false (af [(aj (kI 2) (af [(a9 21)] dz) (aS gj))] cF)) (du 27) (ap (c6 28 (af [(aj (a9 27) (aj (kI 2) (a9 5) (aS gj)) l8)] cM)) (ap (ci (d_ (a9 12) (cX [(a9 28),(Za (dv (kS ", ") [(cb mf (b_ [(a9 25)] g9) (jc 31 32) (cU (bC (aj (aj (a9 27) (aj (kI 2) (a9 31) (aS gj)) (aS cN)) (kI 2) (aS cq)) (kI 1) dH) (aY (a9 32))))] fc) (kS "0x0"))]))) (ap (f_ 29 kQ (b_ [(a9 25),(a9 21)] lk) (jc 31 32) (cU bg (aY (cX [(aF (a9 32) (kI 1)),(dx (nQ (a9 31) (a9 28) ", ") (aF (a9 32) (kI 3)) (aF (a9 32) (kI 2)))]))) false) (ap (c6 30 (dx (bC (a9 23) (aV []) po) (af [(a9 23),(a9 29)] de) (aV []))) (ap (ci (d_ (a9 26) (rW (dY (a9 30) (aV []) po) (dY (a9 30) (aj (cc (a9 30) ba (aL (kI 1))) (af [(a9 30)] dz) l8) dH)))) aP))))) aP)
theorem Do(G:cI C)(h2:2≤n)(H:lX C n):aQ C n bA (dE (ar (ay 73)) 28) oo:=(gn h2 (c5 (co (fv:=.type "range") (G.no _ ∅) ∅ ∅ (bD _) dO (ag rfl (av am (co (fv:=.builtin "len") (G.no _ ∅) ∅ ∅ (bf _) eR (ag rfl oj ae) (λzz=>rfl) (λzz=>rfl) ∅ ∅ ∅) j2) ae) (λzz=>rfl) (λzz=>rfl) ∅ ∅ ∅)) (bM Kz) (ak (bE (ce H.hpretty_flags (ag rfl (av Kb (av am pd j2) qd) ae) (λzz=>rfl) ∅ ∅ ∅) Gf (λzz zz=> ∅)) (ak (cK (cv (λzz=>rfl) eN (cY (ag rfl Kc (ag rfl (YC (fQ (λzz=>rfl) JE JH gU bT (ag rfl (cD (bx ∅ h2 (λzz zz=>rfl) (bN _ _ _ _ _ _) (jW (fv:=.type "enumerate") (G.no _ ∅) ∅ ∅ (bD _) iO (ag rfl nF ae) (λzz=>rfl) (λzz=>rfl) ∅ ∅ ∅) (eW Gd xx) (iY (cj (av (av vv (av am J7 j2) eM) am dk) am dM ∅)) (bZ vb))) ae) (λzz=>rfl) (λzz=>rfl)) bT) ae))) (λzz=>rfl)) ∅ (λzz=>rfl)) (ak (gz false (bx ∅ h2 (λzz zz=>rfl) (bN _ _ _ _ _ _) (jW (fv:=.type "zip") (G.no _ ∅) ∅ ∅ (bD _) Bu (ag rfl nF (ag rfl oj ae)) (λzz=>rfl) (λzz=>rfl) ∅ ∅ ∅) (eW w6 vm) cG (bZ (cY (ag rfl (bj kg am (λzz zz=>rfl)) (ag rfl (fV (GQ (λzz=>rfl) xz vS ∅) (bj kg am (λzz zz=>rfl)) (bj kg am (λzz zz=>rfl))) ae))))) yE (eY ∅ ∅ ∅ ∅)) (ak (bE (fV (cj qB (bc ae) se ∅) (ce H.h_law_joined (ag rfl qB (ag rfl x_ ae)) (λzz=>rfl) ∅ ∅ ∅) (bc ae)) zU (λzz zz=> ∅)) (ak (cK (cv (λzz=>rfl) sX (yO (fq jk (bc ae) se ∅) (fq jk (av (dJ jk dC (cw am)) (co (fv:=.builtin "len") (G.no _ ∅) ∅ ∅ (bf _) eR (ag rfl jk ae) (λzz=>rfl) (λzz=>rfl) ∅ ∅ ∅) qd) dM ∅)) (λzz=>rfl)) ∅ (λzz=>rfl)) aN))))) aN (λzz zz=>rfl))
theorem uE:ab C n bA (.Name "far" pos) (a9 6):=b9 6 ∅
def o7:SF:=(ci (d_ (a9 12) (cX [(af [(aj (af [(a9 11)] v8) (a9 6) aT)] cM),(dv (kS ", ") [(aj (aj (a9 25) (aV [(kS "0x80000000")]) aT) (dx (bC (a9 6) (kI 0) po) (aV [(af [(a9 6)] oM)]) (aV [])) aT)] fc)])))
theorem DA(G:cI C)(h2:2≤n)(H:lX C n):aQ C n bA (dE (ar (ay 73)) 29) o7:=(cK (cv (λzz=>rfl) eN (cY (ag rfl (ce H.hpretty_flags (ag rfl (av (co (fv:=.builtin "sum") (G.no _ ∅) ∅ ∅ (bf _) yi (ag rfl lE ae) (λzz=>rfl) (λzz=>rfl) ∅ ∅ ∅) uE br) ae) (λzz=>rfl) ∅ ∅ ∅) (ag rfl (fQ (λzz=>rfl) JE JH gU bT (ag rfl (av (av nF (bc (ag rfl bT ae)) br) (fV (cj uE am se ∅) (bc (ag rfl (co (fv:=.builtin "hex") (G.no _ ∅) ∅ ∅ (bf _) tO (ag rfl uE ae) (λzz=>rfl) (λzz=>rfl) ∅ ∅ ∅) ae)) (bc ae)) br) ae) (λzz=>rfl) (λzz=>rfl)) ae))) (λzz=>rfl)) ∅ (λzz=>rfl))
abbrev pb:Scope:=jM [(".0",.local),("one",.local)]
abbrev Ct:Cx:=bR bA pb
theorem yZ:aA C Ct "one" 31:=bu 31 ∅
theorem lG:ab C n Ct (.Name "one" pos) (a9 31):=b9 31 ∅
theorem Dy:ab C n bA (.Name "proof" pos) (a9 18):=b9 18 ∅
def nZ:SF:=(e_ (rW (dY (cb pb (aK false (a9 12)) (du 31) (cU (bC (aF (a9 31) (kI 0)) (aF (a9 31) (kI 1)) po) (aY (a9 31)))) (aV []) dH) (dY (a9 18) (dY (kB false) (a9 26) lB) dH)))
theorem D8(G:cI C)(h2:2≤n)(H:lX C n):aQ C n bA (dE (ar (ay 73)) 30) nZ:=(d8 (yO (fq (cD (bx ∅ h2 (λzz zz=>rfl) (bN _ _ _ _ _ _) (c5 eN) (bM yZ) (iY (cj (bj lG am (λzz zz=>rfl)) (bj lG am (λzz zz=>rfl)) se ∅)) (bZ lG))) (bc ae) dM ∅) (fq Dy (fq dh sX xB ∅) dM ∅)))
def Xm:SF:=(ap wn (ap vX (ap wE (ap xi (ap xA (ap wN (ap wR (ap wF (ap BU (ap vM (ap rt (ap r5 (ap nS (ap oc (ap nT (ap n4 (ap ny (ap nB (ap nY (ap o8 (ap n0 (ap nq (ap mT (ap mR (ap m_ (ap nH (ap nM (ap oi (ap oo (ap o7 (ap nZ aP)))))))))))))))))))))))))))))))
theorem b73(G:cI C)(h2:2≤n)(H:lX C n):q8 C n bA (ar (ay 73)) Xm:=(c9 (dq (Jr G h2)) (c9 (dq (Ho G h2)) (c9 (dq (GO G h2)) (c9 (dq (Ik G h2 H)) (c9 (dq (JU G h2 H)) (c9 (dq (Fv G h2 H)) (c9 (dq (K9 G h2 H)) (c9 (dq (Ht G h2 H)) (c9 (dq (IV G h2 H)) (c9 (Iz G h2 H) (c9 (dq (CI G h2 H)) (c9 (dq (DP G h2 H)) (c9 (dq (Db G h2 H)) (c9 (dq (Dl G h2 H)) (c9 (dq (Ek G h2 H)) (c9 (dq (Dv G h2 H)) (c9 (dq (DL G h2 H)) (c9 (dq (DH G h2 H)) (c9 (dq (EB G h2 H)) (c9 (dq (DT G h2 H)) (c9 (dq (CJ G h2 H)) (c9 (dq (EI G h2 H)) (c9 (dq (Ds G h2 H)) (c9 (dq (E2 G h2 H)) (c9 (dq (E6 G h2 H)) (c9 (dq (DY G h2 H)) (c9 (dq (EC G h2 H)) (c9 (dq (Ez G h2 H)) (c9 (dq (Do G h2 H)) (c9 (dq (DA G h2 H)) (c9 (dq (D8 G h2 H)) UH)))))))))))))))))))))))))))))))
end
structure Rk (C:gK):Prop where
 f1:di C "_iter_escaped_chars" 1
 f2:di C "_strip_quoted_realnames" 2
 f3:di C "_check_parenthesis" 3
 f4:di C "_pre_parse_validation" 4
 f7:di C "pretty_flags" 7
 f8:di C "_parse_varint" 8
 f61:di C "ISTERMINAL" 61
 f62:di C "ISNONTERMINAL" 62
 f63:di C "ISEOF" 63
 f65:di C "_law_numbers" 65
 f66:di C "_law_octets" 66
 f67:di C "_law_units" 67
 f68:di C "_law_formula" 68
 f69:di C "_law_beyond" 69
 f70:di C "_law_proved" 70
 f71:di C "_law_graph" 71
 f72:di C "_law_joined" 72
theorem I_(G:cI C)(F:Rk C):q8 C 18 bA (ar (ay 73)) Xm:=by
 have he:C.mg "enumerate"=none:=G.no _ ∅
 have k61:aI C 3 "ISTERMINAL" cm:=c61 G (DI 2) F.f61;have k62:aI C 3 "ISNONTERMINAL" bQ:=c62 G (DI 2) F.f62;have k63:aI C 3 "ISEOF" fB:=c63 G (DI 2) F.f63;have k72:aI C 3 "_law_joined" de:=c72 G (DI 2) F.f72;have k71:aI C 14 "_law_graph" aW:=d71 G (DI 2) F.f71 12;have k8:aI C 3 "_parse_varint" aR:=c8 G (DI 2) F.f8;have k7:aI C 3 "pretty_flags" cM:=c7 G (DI 2) F.f7;have k66:aI C 3 "_law_octets" fX:=c66 G (DI 2) F.f66;have k67:aI C 3 "_law_units" bB:=c67 G (DI 2) F.f67;have k65:aI C 3 "_law_numbers" gv:=c65 G (DI 2) F.f65;have k1:gL C 3 "_iter_escaped_chars" aE:=c1 F.f1 he;have k1L:Cy C 18 "_iter_escaped_chars" aE:=c1L F.f1 he;have k2:aI C 4 "_strip_quoted_realnames" aM:=c2 G (by decide) k1 F.f2;have k3:aI C 5 "_check_parenthesis" aq:=c3 G (by decide) k2 (k1.mono (by decide)) F.f3;have k4:aI C 6 "_pre_parse_validation" aX:=c4 G (by decide) k3 F.f4;have k68:aI C 15 "_law_formula" aC:=d68 G (by decide) k8 k63 k62 k61 F.f68 12;have k70:aI C 18 "_law_proved" aO:=d70 G (by decide) (k67.mono (by decide)) (k3.mono (by decide)) k4 F.f70 12;have k69:W0 C 18:=(uC G F.f8 F.f69 (an4 (n:=17) (k8.mono (by decide)) F.f69) (by decide));exact b73 G (by decide) ⟨k65.mono (by decide),k66.mono (by decide),k68.mono (by decide),k69,k61.mono (by decide),k62.mono (by decide),k63.mono (by decide),k67.mono (by decide),k1L,k2.mono (by decide),k1.mono (by decide),k3.mono (by decide),k4.mono (by decide),k70,k71.mono (by decide),k72.mono (by decide),k7.mono (by decide)⟩
theorem law_call(G:cI C)(F:Rk C)(ho:C.B.get? fa=some o)(hd:o.data=.func (O9 "law" (lP (ay 73)) (ar (ay 73)) (ao (ay 73)) pm cd doc))(hcd:C.B.CodeRec cd "law")
   {l:Addr} (I:bl C [] [] [] s) (hl:aJ s.heap [] (.ref l) (.list xs))
  (h:Xm (cC (ao (ay 73)) [.d (.list xs)]) []=some (.ret (.d (.bool true)),ρ',μ')):
  wpAny (model C.prog C.w) callerA (call (.ref fa) [.ref l]) (λv s'=>v=.bool true∧(∀b o,C.B.get? b=some o→s'.heap.get? b=some o)∧s'.os=C.os∧AllBare s'.gens) E s:=by
 refine mE (Vs:=[.d (.list xs)]) ["script"] ho hd hcd (jG λzz=> ∅) (of_decide_eq_true ∅) ∅ ∅ ∅ ∅ (by decide) I ⟨hl,trivial⟩ rfl λL O h₁ tk hL hLO hO I1 S1 F1 hk1=>?_
 refine D2 ((I_ G F).run _ _ O [] _ [] [] _ _ _ ρ' μ' ⟨of_decide_eq_true rfl,of_decide_eq_true rfl,rfl⟩ (Pl rfl) rfl I1 F1 h) (λfw s' p=>?_) λzz zz x=>x;refine Ka p λα' I' S' F' v zq5 rv=>?_;refine bH (ES zq5) ?_;exact (lm (aJ.of_bool rv) I'.keep I'.os I'.gens)
theorem fnAt_of{p:Program}{loose:List Str}(T:Top p loose mean C.mg C.mb C.B)(k:Nat)(x:Str)
  (e:(((recsOf p).find? λd=>d.name==x).map λd=>(d.name,d.params,d.body,d.scope))=some (x,lP (ay k),ar (ay k),ao (ay k))):di C x k:=by
 rw [IA] at e
 refine au e λzp0 e q=>?_;obtain ⟨n,ps,bd,sc,pos⟩:=zp0;cases q;refine fp (T.fn _ (Nl e)) λa o pm cd doc h1 h2 h3 h4=>?_;exact (iz a o pm cd doc h1 h2 h3 h4)
theorem noneOf{p:Program}{loose:List Str}(T:Top p loose mean C.mg C.mb C.B)(l:List Str)
  (e:(l.all λx=>!startupNames.contains x&&!loose.contains x&&!((recsOf p).map (·.name)).contains x&&!((litsOf p).map (·.1)).contains x&&!((clssOf p loose).map (·.name)).contains x)=true):∀x:Str,l.contains x=true→C.mg x=none:= λx hx=>by
 have:=Bb.mp e x (by simpa using hx)
 simp only [EZ,MT,MZ,decide_eq_false_iff_not] at this
 refine fY this λzp0 h5=>?_;refine fY zp0 λzp0 h4=>?_;obtain ⟨⟨h1,h2⟩,h3⟩:=zp0;exact T.free x h1 h2 h3 h4 h5
theorem constOf{p:Program}{loose:List Str}(T:Top p loose mean C.mg C.mb C.B)(x:Str)(i:Int)(e:valOf p x=some (.int i)):∃t,C.mg x=some (.int i t):=by
 refine au (T.const x _ e) λv h1 h2=>?_
 have:=h2 C.B
 cases this;exact ⟨_,h1⟩
theorem sx{P:Params}:∀ {vs:List Value} {xs:List Int},WellAll P h vs (ofPys (xs.map EU))→aw h [] vs (xs.map EU)
 | [],[],_=>aw.nil _ _
 | [],_::_,x=>by cases x
 |_::_,[],x=>by cases x
 |v::vs,i::xs,x=>by
  cases x with
  |cons a b=>
   refine .ccons ?_ (sx b);cases a;exact aJ.int ..
theorem well_list{P:Params}{xs:List Int}(x:Well P h (.ref a) (ofPy (NZ (xs.map EU)))):aJ h [] (.ref a) (.list (xs.map EU)):=by
 have x':Well P h (.ref a) (.list (ofPys (xs.map EU))):=x;cases x' with
 |list e q=>exact aJ.list ⟨0,e⟩ (by simpa using sx q) (by simp)
theorem sk{e:DictEntry}{x:Int}{y:Str}(h:Dc e=some (x,y)):∃t u,e.key=.int x t∧e.val=.str y u∧e.hash=hashInt x:=by
 refine au (KJ.mp h) λa ea h=>au (KJ.mp h) λb eb h=>?_
 by_cases q:e.hash=hashInt a
 ·refine cg ((if_pos q).symm.trans h) ?_
  exact bP (Kk ea) λt e1=>bP (Fx eb) λu e2=>dw t u e1 e2 q
 ·exact ct ((if_neg q).symm.trans h)
theorem xZ{es:List DictEntry}{l:List (Int×Str)}(h:es.map Dc=l.map some):∀e∈es,∃x t,e.key=.int x t∧e.hash=hashInt x:= λe he=>by
 have:Dc e∈l.map some:=h▸Pq he
 refine au (DG.mp this) λzp0 zz q=>?_;obtain ⟨x,y⟩:=zp0;refine bq (sk q.symm) λt u e1 e2 e3=>?_;exact (fS x t e1 e3)
theorem AF{k x:Int}{t:Tok}:PJ k (.int x t)=(x==k):=rfl
theorem qW:∀ {es:List DictEntry} {l:List (Int×Str)} (k:Int),es.map Dc=l.map some→
  (∃y t,l.lookup k=some y∧(es.find? λe=>PJ k e.key).map (·.val)=some (.str y t))∨(l.lookup k=none∧(es.find? λe=>PJ k e.key).map (·.val)=none)
 | [],[],k,_=>.inr ⟨rfl,rfl⟩
 | [],_::_,_,h=>by simp at h
 |e::es,[],k,h=>by simp at h
 |e::es,(x,y)::l,k,h=>by
  simp only [ET,Ur] at h
  refine bq (sk h.1) λt u e1 e2 e3=>?_
  by_cases q:k=x
  ·subst q
   exact .inl (fS y u (by simp) (by simp [e1,e2,AF]))
  ·have hn:PJ k e.key=false:=by
    rw [e1];exact AF.trans (beq_eq_false_iff_ne.mpr (MA q))
   rw [Nn,show (k==x)=false by simpa using q,M9,hn];exact qW k h.2
theorem zD{y:Str}{i:Int}(h:kc y=some i):(y="|"∧i=18)∨(y="*"∧i=16)∨(y="("∧i=7)∨(y=")"∧i=8):=by
 unfold kc at h
 simp only [Nn,List.lookup_nil] at h
 repeat' split at h
 all_goals first| (cases h;rename_i q;simp only [beq_iff_eq] at q;refine bH (ES q) ?_;simp;done)|exact ct h
end Mine
namespace Mine
open PySem PySem.W PySem.Calls PyProof.Rows
theorem ext2{C:gK}(t:zf C.w C.B)(hm:C.mg "EXACT_TOKEN_TYPES"=some (.ref 58)):
  ∃d m,C.mg "EXACT_TOKEN_TYPES"=some (.ref d)∧C.B.MapOf (strKind C.prog C.w) d m∧∀y i,kc y=some i→∃t,m y=some (.int i t):=by
 obtain ⟨l1,l2,a1,_,b1,b2,_⟩:=t;obtain ⟨es,n,g,rfl⟩:=xl a1;refine ⟨58,λk=>findBy QI es k,hm,⟨_,es,n,g,⟨rfl,rfl,rfl⟩,rfl,λe he=>?_,λzz=>rfl⟩,λy i q=>?_⟩
 ·have:(IW e.key,e.hash)∈k1 C.w:=b1▸Pq (f:= λe:DictEntry=>(IW e.key,e.hash)) (S8.mpr he)
  obtain ⟨x,_,q⟩:=DG.mp this;have q1:=congrArg U5 q;have q2:=congrArg U7 q;refine ⟨x,?_,q2.symm⟩;dsimp only at q1
  obtain ⟨t,hk⟩:=Fx q1.symm;rw [hk];exact strKind_is C.prog C.w _ _
 ·have fb:∀x:Str,findBy QI es x=((es.toList.find? λe=>QI x e.key).map (·.val)):= λx=>by
   unfold findBy;rw [←T2]
  have hv:v2 es.toList=[some 18,some 16,some 7,some 8]:=b2;unfold v2 at hv
  simp only [ET,LQ,←fb,Ur] at hv
  rcases zD q with ⟨rfl,rfl⟩| ⟨rfl,rfl⟩| ⟨rfl,rfl⟩| ⟨rfl,rfl⟩
  ·exact uu hv.1
  ·exact uu hv.2.1
  ·exact uu hv.2.2.1
  ·exact uu hv.2.2.2.1
theorem cfn2{C:gK}(t:zf C.w C.B)(hm:C.mg "COMPILER_FLAG_NAMES"=some (.ref 43)):
  ∃d m,C.mg "COMPILER_FLAG_NAMES"=some (.ref d)∧C.B.MapOf (intKind C.prog C.w) d m∧(∀k,(∃y t,rR k=some y∧m k=some (.str y t))∨(rR k=none∧m k=none))∧(d==sysModules)=false:=by
 obtain ⟨l1,l2,_,a2,_,_,b⟩:=t;obtain ⟨es,n,g,rfl⟩:=xl a2;have hk:=xZ b;refine ⟨43,λk=>findBy PJ es k,hm,⟨_,es,n,g,⟨rfl,rfl,rfl⟩,rfl,λe he=>?_,λzz=>rfl⟩,λk=>?_,by decide⟩
 ·obtain ⟨x,t,e1,e2⟩:=hk e (S8.mpr he)
  exact ⟨x,by rw [e1];simp [intKind,PJ],e2⟩
 ·have:=qW k b
  dsimp only;unfold findBy;rw [←T2];exact this
theorem hd2(call:WalkO vq loose Zk zf RR.toRowW dd.1 dd.2 λf vs=>PySem.call f vs):Lk.Holds:=
 holds_law Jf λsaid=>holds_open (q:=vq) (loose:=loose) (Xt:=xt) (XP:=Zk) (Yf:=yf) (Ya:=ya) (YP:=zf) (N:=4366) X_ Os Dj ZI Ps ZF TS YM
  (λs e=>recFacts_of (by unfold xt at e;rw [EZ,EZ] at e;exact e.1.2)) rfl said Ul ⟨rfl,rfl,rfl,rfl,rfl,∅⟩ LS call
end Mine
namespace Mine
open PySem PySem.W PySem.Calls PyProof.Rows
variable {V V' : AV} {Cn D L TI TO a fa i1 i2 i3 z : Addr} {A : Around} {items zs : Array Value} {sh tup : Bool} {cf : CF} {c c' : ah} {C : gK} {cx : Cx} {f fi fo g : EF} {cenv env : Env} {mean : ExcName → Option Value} {e e1 e2 elt iter target test : Expr} {fl : Fl} {h h' : Heap} {itf : IF} {y : Int} {Vs : List AV} {M M' O T T' W wr α α' α1 α₀ : List Addr} {Mid : List Addr → List Addr → List Addr → List ah → Nat → Value → Shared → Prop} {St : List Addr → xH} {μ μ' μ'' μ1 μ2 μ3 μ₀ : List ah} {fs : List EF} {es : List Expr} {K cs ns os rest : List Int} {gi ls m ps : List Nat} {X acc acc' ds xs ys : List PyData} {body orelse : List Stmt} {vs : List Value} {ρ ρ' ρ1 ρ2 : d0} {tf : d0 → PyData → Option d0} {b i j ja jt k kk low mask n p q tk : Nat} {o : Obj} {op : Operator} {ha ke td te tx : Option AV} {hi lo : Option Expr} {gg : Option Nat} {apos pos px py sp tp xp : Pos} {prog : Program} {G : Prop} {d : PyData} {sc scope : Scope} {s s' s'' s1 s₀ : Shared} {spec : a_} {st : Stmt} {name x : Str} {t : TF} {u : Tok} {cd cls doc fv it pm v : Value} {E Q : Value → Shared → Prop} {w : World}
section
theorem b5{X:Type u0}{Y:Type u1}{Z:Type u2}{o:Option (X×Y)}{k:X→Y→Option Z}{a:X}{b:Y}(h:o=some (a,b)):bp o k=k a b:=by rw [h];rfl
theorem bV{X:Type u0}{Z:Type u2}{o:Option X}{k:X→Option Z}{a:X}(h:o=some a):bo o k=k a:=by rw [h];rfl
theorem oO{X:Type u0}{Y:Type u1}{Z:Type u2}{o:Option X}{p:Option Y}{k:X→Y→Z}{e:Z}{a:X}{b:Y}(h:o=some a)(h':p=some b):oe o p k e=k a b:=by rw [h,h'];rfl
theorem GX{X:Type u0}{Y:Type u1}{Z:Type u2}{o:Option (X×Y)}{k:X→Y→Option Z}(h:o=none):bp o k=none:=by rw [h];rfl
theorem f5{X:Type u0}{Y:Type u1}{Z:Type u2}{o:Option X}{p:Option Y}{k:X→Y→Z}{e:Z}(h:o=none):oe o p k e=e:=by rw [h];rfl
end
section
variable {h:EF} {sf sg:SF} {W:AV}
theorem wk(e:t ρ μ=some (true,μ1)):dx t f g ρ μ=f ρ μ1:=b5 e
theorem sL(e:t ρ μ=some (false,μ1)):dx t f g ρ μ=g ρ μ1:=b5 e
theorem yu(e:t ρ μ=some (true,μ1)):jC t sf sg ρ μ=sf ρ μ1:=b5 e
theorem D4(e:t ρ μ=some (false,μ1)):jC t sf sg ρ μ=sg ρ μ1:=b5 e
theorem aB(e:sf ρ μ=some (.next,ρ1,μ1)):ap sf sg ρ μ=sg ρ1 μ1:=b5 e
theorem cT(e:sf ρ μ=some (.ret V,ρ1,μ1)):ap sf sg ρ μ=some (.ret V,ρ1,μ1):=b5 e
theorem Kw(e:sf ρ μ=some (.brk,ρ1,μ1)):ap sf sg ρ μ=some (.brk,ρ1,μ1):=b5 e
theorem bO(e:f ρ μ=some (V,μ1)):c6 i f ρ μ=some (.next,ρ.set i (some V),μ1):=b5 e
theorem dZ(e:f ρ μ=some (V,μ1)):e_ f ρ μ=some (.ret V,ρ,μ1):=b5 e
theorem bK:aP ρ μ=some (.next,ρ,μ):=rfl
theorem nD{b:Bool}(e:f ρ μ=some (V,μ1))(h:ka V μ1=some b):gu f ρ μ=some (b,μ1):=(b5 e).trans (bV h)
theorem Cd{o:AV→AV→List ah→Option (AV×List ah)}{W r:AV}(e:ρ[i]? =some (some V))(e1:f ρ μ=some (W,μ1))(h:o V W μ1=some (r,μ2)):ie i f o ρ μ=some (.next,ρ.set i (some r),μ2):=
 (bV (show ρ[i]?.bind id=some V by rw [e];rfl)).trans ((b5 e1).trans (b5 h))
end
theorem az(xs:List PyData)(μ:List ah):cu none xs μ:= λzz e=>by exact ct e
def TfB(tf:d0→PyData→Option d0)(ρ0 ρ:d0):Prop:=∀y,tf ρ y=tf ρ0 y
theorem PN(i:Nat)(ρ0:d0)(v:Option AV):TfB (du i) ρ0 (ρ0.set i v):= λy=>by simp [du,I9]
theorem FJ{g:Option Nat}{ρ0:d0}(hg:cu g xs μ)(out:PyData→List PyData)(r:List PyData)(ρ:d0)(acc:List PyData)(hb:TfB tf ρ0 ρ)(h:∀x∈r,∀acc,∃ρ1 ρ2,tf ρ0 x=some ρ1∧(acc.length+(out x).length≤sizeLine→cf ρ1 μ acc=some (ρ2,μ,acc++out x))∧TfB tf ρ0 ρ2)(hz:acc.length+(r.flatMap out).length≤sizeLine):
  ∃ρ',f9 tf cf g xs r ρ μ acc=some (ρ',μ,acc++r.flatMap out):=by
 induction r generalizing ρ acc with
 |nil=>exact ⟨ρ,congrArg (λz=>some (ρ,μ,z)) (DB _).symm⟩
 |cons x r ih=>
  refine bq (h x (Fp ..) acc) λρ1 ρ2 e1 e2 e3=>?_;rw [Fb,be] at hz
  refine bP (ih ρ2 (acc++out x) e3 (λy hy=>h y (D1 _ hy)) (by rw [be];lia)) λρ' e=>⟨ρ',?_⟩;refine rj.trans ((bV ((hb x).trans e1)).trans ((b5 (e2 (by lia))).trans ((if_pos hg).trans (e.trans ?_))));rw [Fb,E9]
theorem mC{g:Option Nat}(hi:itf ρ μ=some (xs,g,μ1))(hg:cu g xs μ1)(out:PyData→List PyData)
  (h:∀x∈xs,∀acc,∃ρ1 ρ2,tf (bG sc ρ) x=some ρ1∧(acc.length+(out x).length≤sizeLine→cf ρ1 μ1 acc=some (ρ2,μ1,acc++out x))∧TfB tf (bG sc ρ) ρ2) (hz:(xs.flatMap out).length≤sizeLine):
  fg sc itf tf cf ρ μ=some (xs.flatMap out,μ1):=by
 refine bP (FJ hg out xs (bG sc ρ) [] (λzz=>rfl) h (by simpa using hz)) λρ' e=>?_;exact (b5 hi).trans (b5 e)
theorem pN{g:Option Nat}(h:itf ρ μ=some (xs,g,μ1))(h':f9 tf cf g xs xs (bG sc ρ) μ1 []=some (ρ',μ2,acc)):fg sc itf tf cf ρ μ=some (acc,μ2):=(b5 h).trans (b5 h')
theorem o_{g:Option Nat}{r acc2:List PyData}{x:PyData}(e:tf ρ x=some ρ1)(e':cf ρ1 μ acc=some (ρ2,μ2,acc2))(hg:cu g xs μ2):f9 tf cf g xs (x::r) ρ μ acc=f9 tf cf g xs r ρ2 μ2 acc2:=
 rj.trans ((bV e).trans ((b5 e').trans (if_pos hg)))
theorem VO{a b:PyData}(h:f ρ μ=some (.d (.list [a,b]),μ1)):VM i j f ρ μ=some (.next,(ρ.set i (some (.d a))).set j (some (.d b)),μ1):=b5 h
theorem AX{a b:PyData}(h:f ρ μ=some (.d (.tuple [a,b]),μ1)):wy i j f ρ μ=some (.next,(ρ.set j (some (.d b))).set i (some (.d a)),μ1):=b5 h
theorem bY(h:fg sc itf tf cf ρ μ=some (acc,μ1)):cb sc itf tf cf ρ μ=some (.d (.list acc),μ1):=b5 h
theorem ab7(e:t ρ μ=some (true,μ1)):cU t cf ρ μ acc=cf ρ μ1 acc:=b5 e
theorem Y0(e:t ρ μ=some (false,μ1)):cU t cf ρ μ acc=some (ρ,μ1,acc):=b5 e
theorem xw{e:EF}(h:e ρ μ=some (.d d,μ))(acc:List PyData)(hz:acc.length+1≤sizeLine):aY e ρ μ acc=some (ρ,μ,acc++[d]):=
 (b5 h).trans ((b5 (rfl:w5 (.d d) μ=some (d,μ))).trans (if_pos (Nat.le_of_succ_le hz)))
theorem oU{e:EF}(h:e ρ μ=some (.d d,μ))(acc:List PyData)(hz:acc.length+1≤sizeLine):cU bg (aY e) ρ μ acc=some (ρ,μ,acc++[d]):=xw h acc hz
theorem C6{e:EF}{b:Bool}(ht:t ρ μ=some (b,μ))(h:b=true→e ρ μ=some (.d d,μ))(acc:List PyData)(hz:acc.length+(if b then [d] else []).length≤sizeLine):cU t (aY e) ρ μ acc=some (ρ,μ,acc++if b then [d] else []):=by
 refine (b5 ht).trans ?_;cases b with
 |true=>exact xw (h rfl) acc hz
 |false=>exact congrArg (λz=>some (ρ,μ,z)) (DB _).symm
theorem iw{e:EF}{g:Option Nat}(i:Nat)(f:PyData→PyData)(hi:itf ρ μ=some (xs,g,μ1))(hg:cu g xs μ1)
  (h:∀x∈xs,e ((bG sc ρ).set i (some (.d x))) μ1=some (.d (f x),μ1)) (hz:xs.length≤sizeLine):fg sc itf (du i) (cU bg (aY e)) ρ μ=some (xs.map f,μ1):=by
 have hl:∀l:List PyData,l.flatMap (λx=>[f x])=l.map f:= λl=>by
  induction l with
  |nil=>rfl
  |cons x l ih=>refine rA Fb ?_;refine rA ih ?_;rfl
 have:=mC (sc:=sc) (tf:=du i) (cf:=cU bg (aY e)) hi hg (λx=>[f x]) (λx hx acc=>(dw _ _ rfl (λhz=>oU (h x hx) acc (by simpa using hz)) (PN i _ _))) (by refine rA (hl _) ?_;refine rA (xG _) ?_;exact hz)
 refine rA this ?_;exact rA (hl _) rfl
theorem jh{e:EF}{g:Option Nat}(i:Nat)(p:PyData→Bool)(f:PyData→PyData)(hi:itf ρ μ=some (xs,g,μ1))(hg:cu g xs μ1)
  (ht:∀x∈xs,t ((bG sc ρ).set i (some (.d x))) μ1=some (p x,μ1)) (h:∀x∈xs,p x=true→e ((bG sc ρ).set i (some (.d x))) μ1=some (.d (f x),μ1)) (hz:xs.length≤sizeLine):
  fg sc itf (du i) (cU t (aY e)) ρ μ=some ((xs.filter p).map f,μ1):=by
 have hl:∀l:List PyData,l.flatMap (λx=>if p x then [f x] else [])=(l.filter p).map f:= λl=>by
  induction l with
  |nil=>rfl
  |cons x l ih=>
   refine rA Fb ?_;refine rA ih ?_;refine rA KC ?_
   split<;>simp
 have:=mC (sc:=sc) (tf:=du i) (cf:=cU t (aY e)) hi hg (λx=>if p x then [f x] else []) (λx hx acc=>(dw _ _ rfl (λhz=>C6 (ht x hx) (h x hx) acc hz) (PN i _ _))) (by
  refine rA (hl _) ?_;refine rA (xG _) ?_;exact KQ (Hs ..) hz)
 refine rA this ?_;exact rA (hl _) rfl
theorem cZ{f:SF}{x:PyData}(hl:Vs.length=k)(h:f (cC sc Vs) μ=some (.ret (.d x),ρ',μ')):cy k sc f Vs μ=some (.d x,μ'.take μ.length):=
 (if_pos hl).trans (b5 h)
theorem s61{x:Int}:cm [.d (.int x)] μ=some (.d (.bool (decide (x<256))),μ):=by
 refine (cZ (k:=1) rfl (rfl:f61 (cC (ao (ay 61)) [.d (.int x)]) μ=some (.ret (.d (.bool (decide (x<256)))),cC (ao (ay 61)) [.d (.int x)],μ))).trans ?_;rw [LG]
theorem s62{x:Int}:bQ [.d (.int x)] μ=some (.d (.bool (decide (256≤x))),μ):=by
 refine (cZ (k:=1) rfl (rfl:f62 (cC (ao (ay 62)) [.d (.int x)]) μ=some (.ret (.d (.bool (decide (256≤x)))),cC (ao (ay 62)) [.d (.int x)],μ))).trans ?_;rw [LG]
theorem s63{x:Int}:fB [.d (.int x)] μ=some (.d (.bool (x==0)),μ):=by
 refine (cZ (k:=1) rfl (rfl:f63 (cC (ao (ay 63)) [.d (.int x)]) μ=some (.ret (.d (.bool (x==0))),cC (ao (ay 63)) [.d (.int x)],μ))).trans ?_;rw [LG]
noncomputable def EL:Nat→Int→Int→List Int→Option (Int×List Int)
 |0,_,_,_=>none
 |k+1,b,val,os=>if D5 b 64≠0 then
   (match os with
   |b'::os'=>if 0≤val∧val<4294967296 then EL k b' (Mj (val*64) (D5 b' 63)) os' else none
   | []=>none)
  else some (val,os)
noncomputable def rd:List Int→Option (Int×List Int)
 | []=>none
 |b::os=>EL 64 b (D5 b 63) os
noncomputable abbrev iL(l:List Int):List PyData:=l.map .int
noncomputable def L8(i:Nat)(b val:Int):d0:=[some (.c i),some (.d (.int b)),some (.d (.int val))]
theorem tJ{x:PyData}{r:List PyData}(h0:a9 0 ρ μ=some (.c i,μ))(hc:μ[i]? =some (.iter (x::r))):af [a9 0] j_ ρ μ=some (.d x,μ.set i (.iter r)):=by
 refine (?_:bp (bp (a9 0 ρ μ) λV μ1=>bp (some ([],μ1)) λVs μ2=>some (V::Vs,μ2)) j_=_);rw [h0];exact wx hc
theorem cz(h:i<μ.length):(μ.set i c)[i]? =some c:=Mt h
theorem eD(h:μ[i]? =some c):μ.set i c=μ:=by
 obtain ⟨hlt,e⟩:=BJ.mp h;refine rB e ?_;exact rA (List.set_getElem_self _) rfl
section
variable {o1 o2:AV→AV→List ah→Option (AV×List ah)}
theorem VH(h1:∀ (v:Int) (μ:List ah),0≤v→v<4294967296→o1 (.d (.int v)) (.d (.int 6)) μ=some (.d (.int (v*64)),μ))(h2:∀ (a b:Int) (μ:List ah),o2 (.d (.int a)) (.d (.int b)) μ=some (.d (.int (Mj a b)),μ))(k:Nat)(b val:Int)(os rest:List Int)(μ:List ah)(v:Int)(hc:μ[i]? =some (.iter (iL os)))(h:EL k b val os=some (v,rest)):
  ∃b',j3 (gu (aj (a9 1) (kI 64) (aS λx y=>some (D5 x y)))) (ap (ie 2 (kI 6) o1) (ap (c6 1 (af [a9 0] j_)) (ap (ie 2 (aj (a9 1) (kI 63) (aS λx y=>some (D5 x y))) o2) aP))) k (L8 i b val) μ
   =some (.next,L8 i b' v,μ.set i (.iter (iL rest))):=by
 induction k generalizing b val os μ with
 |zero=>exact ct h
 |succ k ih=>
  have hlt:i<μ.length:=(BJ.mp hc).1;have ht:gu (aj (a9 1) (kI 64) (aS λx y=>some (D5 x y))) (L8 i b val) μ=some (D5 b 64 != 0,μ):=rfl;refine ifB h (λhb h=>?_) λhb h=>?_
  ·cases os with
   |nil=>exact ct h
   |cons b1 os=>
    refine i6 h λhz h=>?_;have e1:ie 2 (kI 6) o1 (L8 i b val) μ=some (.next,L8 i b (val*64),μ):=J4 (v:=val) (w:=val*64) rfl (h1 _ _ hz.1 hz.2);have e2:c6 1 (af [a9 0] j_) (L8 i b (val*64)) μ=some (.next,L8 i b1 (val*64),μ.set i (.iter (iL os))):=b5 (tJ (i:=i) rfl hc);have e3:ie 2 (aj (a9 1) (kI 63) (aS λx y=>some (D5 x y))) o2 (L8 i b1 (val*64)) (μ.set i (.iter (iL os)))=some (.next,L8 i b1 (Mj (val*64) (D5 b1 63)),μ.set i (.iter (iL os))):=Cd (V:=.d (.int (val*64))) (W:=.d (.int (D5 b1 63))) (μ1:=μ.set i (.iter (iL os))) rfl rfl (h2 _ _ _);refine bP (ih b1 (Mj (val*64) (D5 b1 63)) os (μ.set i (.iter (iL os))) (cz hlt) h) λb' ih=>⟨b',?_⟩;have e4:ap (ie 2 (kI 6) o1) (ap (c6 1 (af [a9 0] j_)) (ap (ie 2 (aj (a9 1) (kI 63) (aS λx y=>some (D5 x y))) o2) aP)) (L8 i b val) μ=some (.next,L8 i b1 (Mj (val*64) (D5 b1 63)),μ.set i (.iter (iL os))):=(aB e1).trans ((aB e2).trans (aB e3));refine iS.trans ((b5 ht).trans ?_);rw [bne_iff_ne.mpr hb];refine (?_:bp (ap _ _ _ _) (λfl p=>R9 fl (j3 _ _ _ p.1 p.2) p)=_);exact (b5 e4).trans (ih.trans (by rw [I9]))
  ·refine cg h ⟨b,iS.trans ((b5 ht).trans ?_)⟩
   rw [show (D5 b 64 != 0)=false by simpa using hb,eD hc];rfl
end
theorem Z9(v:Int)(μ:List ah)(h0:0≤v)(h1:v<4294967296):pC (.d (.int v)) (.d (.int 6)) μ=some (.d (.int (v*64)),μ):=by
 have hb:(HN v:Int)+6≤2^27:=by
  have hb:HN v≤33:=by
   unfold HN
   split
   ·lia
   ·rename_i hz
    have hz':v≠0:=by simpa using hz
    have:v.natAbs.log2<32:=(Nat.log2_lt (by lia)).mpr (by lia)
    lia
  have e27:(2:Int)^27=134217728:=by decide
  refine rA e27 ?_;lia
 have e:v*2^ (6:Int).toNat=v*64:=by
  exact congrArg (v* ·) (by decide:(2:Int)^6=64)
 refine rB e ?_;exact Gu ox hb
theorem ao2(a b:Int)(μ:List ah):VP (.d (.int a)) (.d (.int b)) μ=some (.d (.int (Mj a b)),μ):=rfl
theorem s8{v:Int}(hc:μ[i]? =some (.iter (iL os)))(h:rd os=some (v,rest)):aR [.c i] μ=some (.d (.int v),μ.set i (.iter (iL rest))):=by
 have hlt:i<μ.length:=(BJ.mp hc).1;cases os with
 |nil=>exact ct h
 |cons b os=>
  obtain ⟨b',e⟩:=VH Z9 ao2 64 b (D5 b 63) os rest (μ.set i (.iter (iL os))) v (cz hlt) h;have e0:Eb (cC (ao (ay 8)) [.c i]) μ=some (.next,[some (.c i),some (.d (.int b)),none],μ.set i (.iter (iL os))):=by
   exact bO (tJ (i:=i) (ρ:=cC (ao (ay 8)) [.c i]) rfl hc)
  have e1:JP [some (.c i),some (.d (.int b)),none] (μ.set i (.iter (iL os)))=some (.next,L8 i b (D5 b 63),μ.set i (.iter (iL os))):=rfl;have e2:Oa (L8 i b (D5 b 63)) (μ.set i (.iter (iL os)))=some (.next,L8 i b' v,μ.set i (.iter (iL rest))):=by
   exact e.trans (by rw [I9])
  have e3:T0 (L8 i b' v) (μ.set i (.iter (iL rest)))=some (.ret (.d (.int v)),L8 i b' v,μ.set i (.iter (iL rest))):=rfl
  have:f8 (cC (ao (ay 8)) [.c i]) μ=some (.ret (.d (.int v)),L8 i b' v,μ.set i (.iter (iL rest))):=by
   exact (aB e0).trans ((aB e1).trans ((aB e2).trans (cT e3)))
  unfold aR;refine rA (cZ (k:=1) rfl this) ?_;exact rA (F7 (by simp)) rfl
section
theorem p63:(2:Int)^63=9223372036854775808:=by decide
theorem OU{k:Int}(hs:tT μ V=some xs)(hk:0≤k)(hx:xs[k.toNat]? =some d)(hl:xs.length≤sizeLine):Kq V k μ=some d:=by
 have h24:sizeLine=16777216:=by decide
 have hlt:k.toNat<xs.length:=(BJ.mp hx).1;have e:seqIndex? k xs.length=some k.toNat:=by
  unfold seqIndex?;dsimp only;refine rA (if_neg (show ¬k<0 by lia)) ?_;exact rA (if_pos (by simp only [EZ,decide_eq_true_eq];lia)) rfl
 exact (if_pos (by rw [p63];lia)).trans ((bV hs).trans ((bV e).trans hx))
theorem cH{k:Int}(hf:f ρ μ=some (V,μ))(hg:g ρ μ=some (.d (.int k),μ))(hs:tT μ V=some xs)(hk:0≤k)(hx:xs[k.toNat]? =some d)(hl:xs.length≤sizeLine):aF f g ρ μ=some (.d d,μ):=
 (b5 hf).trans ((b5 hg).trans (bV (OU hs hk hx hl)))
theorem bW:eX [] ρ μ=some ([],μ):=rfl
theorem an(h:f ρ μ=some (V,μ1))(hs:eX fs ρ μ1=some (Vs,μ2)):eX (f::fs) ρ μ=some (V::Vs,μ2):=(b5 h).trans (b5 hs)
theorem xg(h:f ρ μ=some (V,μ1)):eX [f] ρ μ=some ([V],μ1):=an h bW
theorem zc(h:f ρ μ=some (V,μ1))(h':g ρ μ1=some (V',μ2)):eX [f,g] ρ μ=some ([V,V'],μ2):=an h (xg h')
theorem d4{W:AV}(hf:f ρ μ=some (V,μ))(hs:spec [V] μ=some (W,μ')):af [f] spec ρ μ=some (W,μ'):=(b5 (xg hf)).trans hs
theorem iV{W:AV}(hf:f ρ μ=some (V,μ))(hg:g ρ μ=some (V',μ))(hs:spec [V,V'] μ=some (W,μ')):af [f,g] spec ρ μ=some (W,μ'):=(b5 (zc hf hg)).trans hs
theorem pS{o:AV→AV→List ah→Option (AV×List ah)}{W R:AV}(hf:f ρ μ=some (V,μ1))(hg:g ρ μ1=some (W,μ2))(h:o V W μ2=some (R,μ3)):aj f g o ρ μ=some (R,μ3):=(b5 hf).trans ((b5 hg).trans h)
theorem cR{x:Int}(hf:f ρ μ=some (.d (.int x),μ))(hg:g ρ μ=some (.d (.int y),μ)):aj f g aT ρ μ=some (.d (.int (x+y)),μ):=pS hf hg rfl
theorem lF(h:da μ V=some xs):jJ V=none∧mz V=none∧Iw V=none∧WD V=none∧Pg V=none∧Nw V=none:=by
 cases V with
 |d x=>cases x<;>first|exact ct h|exact ⟨rfl,rfl,rfl,rfl,rfl,rfl⟩
 |rng _ _=>exact ct h
 |_=>exact ⟨rfl,rfl,rfl,rfl,rfl,rfl⟩
theorem eP(hc:μ[j]? =some (.live xs)):da μ (.c j)=some xs:=(bV (k:=PV) hc:_)
theorem cS{W:AV}(hf:f ρ μ=some (V,μ))(hg:g ρ μ=some (W,μ))(hV:da μ V=some xs)(hW:da μ W=some ys)(hz:xs.length+ys.length≤sizeLine):aj f g aT ρ μ=some (.d (.list (xs++ys)),μ):=
 pS hf hg ((f5 (lF hV).1).trans ((f5 (lF hV).2.1).trans ((bV hV).trans ((bV hW).trans (if_pos hz)))))
theorem cV{o:Int→Int→Option Int}{x z:Int}(hf:f ρ μ=some (.d (.int x),μ))(hg:g ρ μ=some (.d (.int y),μ))(h:o x y=some z):aj f g (aS o) ρ μ=some (.d (.int z),μ):=pS hf hg (bV (k:= λz=>some (AV.d (.int z),μ)) h)
theorem tU(ds:List PyData):lJ (ds.map .d) μ=some (ds,μ):=by
 induction ds with
 |nil=>rfl
 |cons d ds ih=>exact (b5 (rfl:w5 (.d d) μ=some (d,μ))).trans (b5 ih)
theorem d7(h:eX fs ρ μ=some (ds.map .d,μ))(hz:ds.length≤sizeLine):cX fs ρ μ=some (.d (.tuple ds),μ):=(b5 h).trans ((b5 (tU ds)).trans (if_pos hz))
theorem dG(h:eX fs ρ μ=some (ds.map .d,μ))(hz:ds.length≤sizeLine):aV fs ρ μ=some (.d (.list ds),μ):=(b5 h).trans ((b5 (tU ds)).trans (if_pos hz))
theorem tu:aV [] ρ μ=some (.d (.list []),μ):=dG (ds:=[]) rfl (Lw _)
theorem jR(hf:f ρ μ=some (.d d,μ)):aV [f] ρ μ=some (.d (.list [d]),μ):=dG (ds:=[d]) (xg hf) (show 1≤sizeLine by decide)
theorem qo(hc:μ[j]? =some (.live xs)):w5 (.c j) μ=some (.list xs,μ.set j (.frozen xs)):=(f5 (rfl:v7 (.c j)=none)).trans ((bV (rfl:Ff (.c j)=some j)).trans (bV hc))
theorem fE(h:w5 V μ=some (d,μ1))(hs:lJ Vs μ1=some (ds,μ2)):lJ (V::Vs) μ=some (d::ds,μ2):=(b5 h).trans (b5 hs)
theorem Ic(h:eX fs ρ μ=some (Vs,μ1))(h':lJ Vs μ1=some (ds,μ2))(hz:ds.length≤sizeLine):oa fs ρ μ=some (.c μ2.length,μ2++[.live ds]):=(b5 h).trans ((b5 h').trans (if_pos hz))
theorem T_(h:eX fs ρ μ=some (Vs,μ1))(h':lJ Vs μ1=some (ds,μ2))(hz:ds.length≤sizeLine):aV fs ρ μ=some (.d (.list ds),μ2):=(b5 h).trans ((b5 h').trans (if_pos hz))
theorem Hx(h:eX fs ρ μ=some (Vs,μ1))(h':lJ Vs μ1=some (ds,μ2))(hz:ds.length≤sizeLine):cX fs ρ μ=some (.d (.tuple ds),μ2):=(b5 h).trans ((b5 h').trans (if_pos hz))
theorem JQ(hf:f ρ μ=some (.d (.str x),μ1))(ha:eX fs ρ μ1=some (Vs,μ2)):dv f fs spec ρ μ=spec (.d (.str x)::Vs) μ2:=(b5 hf).trans ((bV (rfl:mz (.d (.str x))=some x)).trans (b5 ha))
theorem Cp{ys:List Str}(hf:f ρ μ=some (V,μ))(hp:da μ V=some xs)(ha:n9 xs=some ys)(hz:(ys.map (·.length)).sum+ys.length*x.length≤16777216):dv (kS x) [f] fc ρ μ=some (.d (.str (Lm x ys)),μ):=
 (JQ (x:=x) rfl (xg hf)).trans ((b5 (rfl:l2 [.d (.str x),V]=some (.d (.str x),V))).trans ((bV (rfl:mz (.d (.str x))=some x)).trans ((bV hp).trans ((bV ha).trans (if_pos hz)))))
theorem len_str(hz:x.length≤sizeLine):dz [.d (.str x)] μ=some (.d (.int x.length),μ):=(bV (rfl:l1 [AV.d (.str x)]=some _)).trans ((oO (rfl:mz (.d (.str x))=some x) rfl).trans (if_pos hz))
theorem gt(hf:f ρ μ=some (.c j,μ))(hg:g ρ μ=some (.d d,μ))(hc:μ[j]? =some (.live xs))(hz:xs.length≤sizeLine):d_ f g ρ μ=some (.d .none,μ.set j (.live (xs++[d]))):=
 (b5 hf).trans ((bV (eP hc)).trans ((b5 hg).trans ((b5 (rfl:w5 (.d d) μ=some (d,μ))).trans ((bV hc).trans (if_pos hz)))))
theorem pc(hf:f ρ μ=some (.c j,μ))(hg:g ρ μ=some (.d (.list ys),μ))(hc:μ[j]? =some (.live xs))(hz:xs.length+ys.length≤sizeLine):rK f g ρ μ=some (.d .none,μ.set j (.live (xs++ys))):=
 (b5 hf).trans ((bV (eP hc)).trans ((b5 hg).trans ((bV hc).trans (if_pos hz))))
theorem d6(hf:f ρ μ=some (V,μ))(hp:da μ V=some xs):aK false f ρ μ=some (xs,Fh V,μ):=
 (b5 hf).trans ((f5 (lF hp).2.2.1).trans ((f5 (lF hp).2.2.2.1).trans ((bV hp).trans (if_pos (.inl rfl)))))
theorem mm(hf:f ρ μ=some (.d (.tuple xs),μ)):aK false f ρ μ=some (xs,none,μ):=b5 hf
theorem AB(hf:f ρ μ=some (V,μ))(hp:da μ V=some xs)(ht:ni xs=true):aK true f ρ μ=some (xs,Fh V,μ):=
 (b5 hf).trans ((f5 (lF hp).2.2.1).trans ((f5 (lF hp).2.2.2.1).trans ((bV hp).trans (if_pos (.inr ht)))))
theorem mV{a b:Int}(hf:f ρ μ=some (.rng a b,μ))(hs:K4 a b 1=true):aK false f ρ μ=some (fJ a (b-a).toNat,none,μ):=
 (b5 hf).trans ((f5 (rfl:Iw (.rng a b)=none)).trans ((oO (rfl:WD (.rng a b)=some (a,b)) rfl).trans (if_pos ⟨rfl,hs⟩)))
theorem BC(hp:da μ V=some xs)(hz:xs.length≤sizeLine):mo [V] μ=some (.d (.list xs),μ):=
 (bV (rfl:l1 [V]=some V)).trans ((f5 (lF hp).2.2.2.1).trans ((bV hp).trans (if_pos hz)))
theorem Up(h:tT μ V=some xs):mz V=none:=by
 cases V with
 |d x=>cases x<;>first|exact ct h|rfl
 |_=>rfl
theorem gH(hf:f ρ μ=some (V,μ))(hs:tT μ V=some xs)(hz:xs.length≤sizeLine):af [f] dz ρ μ=some (.d (.int xs.length),μ):=
 d4 hf ((bV (rfl:l1 [V]=some V)).trans ((f5 (Up hs)).trans ((bV hs).trans (if_pos hz))))
end
theorem aa(h:n≤100000):n≤sizeLine:=by
 have h24:sizeLine=16777216:=by decide
 lia
section
variable {h:EF} {sf sg:SF} {W:AV}
theorem eB(e:f ρ μ=some (.d .none,μ1)):ci f ρ μ=some (.next,ρ,μ1):=b5 e
theorem Te{i:Int}(e:f ρ μ=some (.d (.int i),μ1)):ci f ρ μ=some (.next,ρ,μ1):=b5 e
theorem Ta:Mx ρ μ=some (.brk,ρ,μ):=rfl
theorem not_of{b:Bool}(e:t ρ μ=some (b,μ1)):tV t ρ μ=some (!b,μ1):=b5 e
theorem Zd{t':TF}(e:t ρ μ=some (true,μ1)):FO t t' ρ μ=t' ρ μ1:=b5 e
theorem Yo{t':TF}(e:t ρ μ=some (false,μ1)):FO t t' ρ μ=some (false,μ1):=b5 e
theorem dF{o:AV→AV→List ah→Option Bool}{r:Bool}(e:f ρ μ=some (V,μ1))(e':g ρ μ1=some (W,μ2))(h:o V W μ2=some r):bC f g o ρ μ=some (r,μ2):=(b5 e).trans ((b5 e').trans (bV h))
theorem hH{o:AV→AV→List ah→Option Bool}{r:Bool}(e:f ρ μ=some (V,μ1))(e':g ρ μ1=some (W,μ2))(h:o V W μ2=some r):dY f g o ρ μ=some (.d (.bool r),μ2):=(b5 e).trans ((b5 e').trans (bV h))
theorem gI(e:itf ρ μ=some (xs,gg,μ1)):jI itf tf sf sg ρ μ=fN tf sf sg gg xs xs ρ μ1:=b5 e
theorem dK{r:List PyData}{x:PyData}(e:tf ρ x=some ρ1)(e':sf ρ1 μ=some (.next,ρ2,μ2))(hg:cu gg xs μ2):fN tf sf sg gg xs (x::r) ρ μ=fN tf sf sg gg xs r ρ2 μ2:=mY.trans ((bV e).trans ((b5 e').trans (if_pos hg)))
theorem pv{r:List PyData}{x:PyData}(e:tf ρ x=some ρ1)(e':sf ρ1 μ=some (.ret V,ρ2,μ2)):fN tf sf sg gg xs (x::r) ρ μ=some (.ret V,ρ2,μ2):=mY.trans ((bV e).trans (b5 e'))
theorem UL{r:List PyData}{x:PyData}(e:tf ρ x=some ρ1)(e':sf ρ1 μ=some (.brk,ρ2,μ2)):fN tf sf sg gg xs (x::r) ρ μ=some (.next,ρ2,μ2):=mY.trans ((bV e).trans (b5 e'))
theorem Jp:fN tf sf sg gg xs [] ρ μ=sg ρ μ:=rfl
theorem o4{x:Int}(hf:f ρ μ=some (.d (.int x),μ))(hg:g ρ μ=some (.d (.int y),μ)):bC f g dH ρ μ=some (x==y,μ):=dF hf hg rfl
theorem jv(e:fg sc itf tf cf ρ μ=some (acc,μ1)):f_ i sc itf tf cf false ρ μ=some (.next,ρ.set i (some (.d (.list acc))),μ1):=b5 e
theorem Td(e:fg sc itf tf cf ρ μ=some (acc,μ1)):f_ i sc itf tf cf true ρ μ=some (.next,ρ.set i (some (.c μ1.length)),μ1++[.live acc]):=b5 e
end
theorem gB{sf sg:SF}{b:Bool}(e:t ρ μ=some (b,μ))(h:b=true):jC t sf sg ρ μ=sf ρ μ:=yu (e.trans (by exact rA h rfl))
theorem gP{sf sg:SF}{b:Bool}(e:t ρ μ=some (b,μ))(h:b=false):jC t sf sg ρ μ=sg ρ μ:=D4 (e.trans (by exact rA h rfl))
inductive Fm where
 |at (i:Nat)
 |bin (par:Bool) (l r:Fm)
noncomputable def sg(m:List Nat)(i:Nat):Int:=if i<m.getD i 0 then 7 else 8
noncomputable def Fm.pre(m:List Nat):Fm→List Int
 | .at i=>[sg m i]
 | .bin p l r=>(if p then 274 else 272)::(l.pre m++r.pre m)
noncomputable def Fm.pl:Fm→List Nat
 | .at i=>[i]
 | .bin _ l r=>l.pl++r.pl
noncomputable def nL(l:List Nat):List PyData:=l.map λ(i:Nat)=>EU (i:Int)
noncomputable def Fm.enc(m:List Nat):Fm→PyData
 | .at i=>.tuple [.int (sg m i),.list [.int i]]
 | .bin p l r=>.tuple [.int (if p then 18 else 16),.list (nL (l.pl++r.pl)),l.enc m,r.enc m]
noncomputable def Fm.ht:Fm→Nat
 | .at _=>1
 | .bin _ l r=>max l.ht r.ht+1
inductive yH:List Int→List Int→List Int→Prop
 |nil (os:List Int):yH os [] os
 |cons {os os1 os2:List Int} {n:Int} {ns:List Int}:rd os=some (n,os1)→yH os1 ns os2→yH os (n::ns) os2
theorem yH.split:∀ {os os2 a b:List Int},yH os (a++b) os2→∃os1,yH os a os1∧yH os1 b os2
 |os,os2,[],b,h=>(aZ os (.nil _) h)
 |os,os2,n::a,b,h=>by
  cases h with
  |cons e h=>
   refine au (yH.split (a:=a) h) λos1 h1 h2=>?_;exact (aZ os1 (.cons e h1) h2)
noncomputable def qC(l:List Int):Nat:=(l.filter λx=>decide (x<256)).length
theorem lO(a b:List Int):qC (a++b)=qC a+qC b:=by simp [qC]
theorem gG(m:List Nat)(i:Nat):sg m i=7∨sg m i=8:=by
 unfold sg;split
 ·exact .inl rfl
 ·exact .inr rfl
theorem l4(m:List Nat):∀f:Fm,qC (f.pre m)=f.pl.length
 | .at i=>by
  rcases gG m i with h|h<;>simp [Fm.pre,Fm.pl,qC,h]
 | .bin p l r=>by
  have h:qC ((if p then (274:Int) else 272)::(l.pre m++r.pre m))=qC (l.pre m++r.pre m):=by
   cases p<;>simp [qC]
  simp only [Fm.pre,Fm.pl,be];refine rA h ?_;refine rA (lO _ _) ?_;refine rA (l4 m l) ?_;exact rA (l4 m r) rfl
theorem EN(m:List Nat)(f:Fm):∃a ds,f.enc m=.tuple (a::.list (nL f.pl)::ds):=by
 cases f with
 |«at» i=>exact (jH _ ([]) rfl)
 |bin p l r=>exact (jH _ _ rfl)
theorem qA{F:Fm}(hf:f ρ μ=some (.d (F.enc m),μ)):aF f (kI 1) ρ μ=some (.d (.list (nL F.pl)),μ):=by
 refine lK (EN m F) λa ds e=>?_;rw [e] at hf
 refine cH (k:=1) hf rfl (xs:=a::.list (nL F.pl)::ds) rfl (by decide) rfl ?_;cases F with
 |«at» i=>cases e;exact aa (by simp)
 |bin p l r=>cases e;exact aa (by simp)
noncomputable def gW(μ:List ah)(i j:Nat)(os td:List Int):List ah:=(μ.set i (.iter (iL os))).set j (.live (iL td))
section
variable {td os' td':List Int}
theorem YN(hi:i<μ.length)(hij:i≠j):(gW μ i j os td)[i]? =some (.iter (iL os)):=by
 unfold gW;rw [Lh hij.symm,Mt hi]
theorem QF(hj:j<μ.length):(gW μ i j os td)[j]? =some (.live (iL td)):=by
 unfold gW;rw [Mt (by simpa using hj)]
theorem Vp(hij:i≠j):(gW μ i j os td).set i (.iter (iL os'))=gW μ i j os' td:=by
 unfold gW;refine rA (QY _ _ hij.symm) ?_;exact rA (I9 _) rfl
theorem TD:(gW μ i j os td).set j (.live (iL td'))=gW μ i j os td':=by
 unfold gW;exact rA (I9 _) rfl
theorem kJ:(gW μ i j os td).length=μ.length:=by simp [gW]
end
noncomputable def oG(i j:Nat)(n l r:Option AV):d0:=[some (.c i),some (.c j),n,l,r]
theorem lw(a b:List Int):iL a++iL b=iL (a++b):=by simp [iL]
theorem U0{b:Bool}(h:f ρ μ=some (.d (.bool b),μ)):gu f ρ μ=some (b,μ):=(b5 h).trans (bV rfl)
theorem JC{n:Int}(h:a9 k ρ μ=some (.d (.int n),μ)):gu (af [a9 k] fB) ρ μ=some (n==0,μ):=by
 exact U0 (d4 h s63)
theorem QJ{n:Int}(h:a9 k ρ μ=some (.d (.int n),μ)):gu (af [a9 k] bQ) ρ μ=some (decide (256≤n),μ):=by
 exact U0 (d4 h s62)
theorem Yp{n:Int}(h:a9 k ρ μ=some (.d (.int n),μ)):gu (af [a9 k] cm) ρ μ=some (decide (n<256),μ):=by
 exact U0 (d4 h s61)
noncomputable def tmD:PyData→Bool
 | .int y=>decide (y<256)
 |_=>false
theorem Op(l:List Int):((iL l).filter tmD).length=qC l:=by
 unfold qC iL;refine rA OF ?_;refine rA (xG _) ?_;rfl
theorem rn{s:a_}{os1 td:List Int}{n:Int}(hi:i<μ.length)(hj:j<μ.length)(hij:i≠j)(h:rd os=some (n,os1))(hz:td.length≤100000):
  ap (xh s) (ap (vx s) (ap (lg s) (ap (ou s) (ap (t4 s) aP)))) (cC (ao (ay 68)) [.c i,.c j]) (gW μ i j os td)
   =ap (lg s) (ap (ou s) (ap (t4 s) aP)) (oG i j (some (.d (.int n))) none none) (gW μ i j os1 (td++[n])):=by
 have e0:xh s (cC (ao (ay 68)) [.c i,.c j]) (gW μ i j os td)=some (.next,oG i j (some (.d (.int n))) none none,gW μ i j os1 td):=by
  unfold xh;refine rA (bO (d4 (f:=a9 0) (V:=.c i) rfl (s8 (YN hi hij) h))) ?_;refine rA (Vp hij) ?_;rfl
 have e1:vx s (oG i j (some (.d (.int n))) none none) (gW μ i j os1 td)=some (.next,oG i j (some (.d (.int n))) none none,gW μ i j os1 (td++[n])):=by
  unfold vx;refine rA (eB (gt (j:=j) (d:=.int n) (xs:=iL td) rfl rfl (QF hj) (by rw [xG];exact aa hz))) ?_;refine rA (show iL td++[EU n]=iL (td++[n]) by simp [iL]) ?_;exact rA TD rfl
 exact (aB e0).trans (aB e1)
set_option tactic.hygienic true in
theorem s68(hi:i<μ.length)(hj:j<μ.length)(hij:i≠j)(m:List Nat):∀ (F:Fm) (k:Nat) (os os' td:List Int),F.ht≤k→yH os (F.pre m) os'→F.pl=F6 (qC td) F.pl.length→td.length+(F.pre m).length≤1000→
  wA k [.c i,.c j] (gW μ i j os td)=some (.d (F.enc m),gW μ i j os' (td++F.pre m))
 |F,0,os,os',td,hk,_,_,_=>by cases F<;>simp [Fm.ht] at hk
 | .at p,k+1,os,os',td,hk,h,hp,hz=>by
  cases h with
  |cons e h=>
  cases h;have hz':td.length+1≤1000:=by simpa [Fm.pre] using hz
  have hpp:p=qC td:=by simpa [Fm.pl] using hp
  have hsg:=gG m p;have e2:lg (wA k) (oG i j (some (.d (.int (sg m p)))) none none) (gW μ i j os' (td++[sg m p]))=some (.next,oG i j (some (.d (.int (sg m p)))) none none,gW μ i j os' (td++[sg m p])):=by
   unfold lg;exact (gP (JC (n:=sg m p) rfl) (by rcases hsg with q|q<;>rw [q]<;>rfl)).trans bK
  have e3:ou (wA k) (oG i j (some (.d (.int (sg m p)))) none none) (gW μ i j os' (td++[sg m p]))=some (.next,oG i j (some (.d (.int (sg m p)))) none none,gW μ i j os' (td++[sg m p])):=by
   unfold ou;exact (gP (QJ (n:=sg m p) rfl) (by rcases hsg with q|q<;>rw [q]<;>rfl)).trans bK
  have e4:t4 (wA k) (oG i j (some (.d (.int (sg m p)))) none none) (gW μ i j os' (td++[sg m p]))=some (.ret (.d (.tuple [.int (sg m p),.list [.int p]])),oG i j (some (.d (.int (sg m p)))) none none,gW μ i j os' (td++[sg m p])):=by
   have hpk:da (gW μ i j os' (td++[sg m p])) (.c j)=some (iL (td++[sg m p])):=eP (QF hj);have hc:=jh (sc:=tH) (itf:=aK false (a9 1)) (t:=gu (af [a9 5] cm)) (e:=a9 5) (ρ:=oG i j (some (.d (.int (sg m p)))) none none) (μ:=gW μ i j os' (td++[sg m p])) 5 tmD id (d6 (V:=.c j) rfl hpk) (λj' e=>by refine cA e ?_;exact hpk) (λx hx=>by
    refine au (DG.mp hx) λy zz zq2=>?_;subst zq2;exact Yp (n:=y) rfl) (λx zz zz=>rfl) (by refine rA (xG _) ?_;refine rA be ?_;exact aa (by simp;lia))
   have hlen:=gH (f:=cb tH (aK false (a9 1)) (du 5) (cU (gu (af [a9 5] cm)) (aY (a9 5)))) (bY hc) rfl (by
    refine rA (xG _) ?_;exact aa (KQ (Hs ..) (by refine rA (xG _) ?_;refine rA be ?_;simp;lia)))
   have hl2:=cV (o:= λx y=>some (x-y)) hlen (rfl:kI 1 _ _=some (.d (.int 1),_)) rfl;have hn:((((iL (td++[sg m p])).filter tmD).map id).length:Int)-1=p:=by
    have:qC [sg m p]=1:=by rcases hsg with q|q<;>rw [q]<;>rfl
    refine rA (xG _) ?_;refine rA (Op _) ?_;refine rA (lO _ _) ?_;refine rA this ?_;refine rA hpp ?_;lia
   rw [hn] at hl2
   have ht:=d7 (ds:=[.int (sg m p),.list [.int p]]) (an (f:=a9 2) (V:=.d (.int (sg m p))) (ρ:=oG i j (some (.d (.int (sg m p)))) none none) (μ:=gW μ i j os' (td++[sg m p])) rfl (an (jR hl2) bW)) (aa (xF rfl));unfold t4;exact dZ ht
  have:f68 (wA k) (cC (ao (ay 68)) [.c i,.c j]) (gW μ i j os td)=some (.ret (.d (.tuple [.int (sg m p),.list [.int p]])),oG i j (some (.d (.int (sg m p)))) none none,gW μ i j os' (td++[sg m p])):=by
   unfold f68;exact (rn hi hj hij e (by omega)).trans ((aB e2).trans ((aB e3).trans (cT e4)))
  refine (?_:cy 2 _ _ _ _=_);refine rA (cZ (k:=2) rfl this) ?_;refine rA (F7 (by rw [kJ,kJ];exact DI _)) ?_;rfl
 | .bin p l r,k+1,os,os',td,hk,h,hp,hz=>by
  have hk':l.ht≤k∧r.ht≤k:=by simp only [Fm.ht] at hk;lia
  cases h with
  |cons e h=>
  rename_i os1;refine au h.split λos2 hl hr=>?_;have hn:(if p then (274:Int) else 272)=274∨(if p then (274:Int) else 272)=272:=by cases p<;>simp
  generalize hN:(if p then (274:Int) else 272)=N at e hn
  simp only [Fm.pre,AO,be,hN] at hz
  have htn:qC (td++[N])=qC td:=by
   refine rA (lO _ _) ?_
   rcases hn with q|q<;>rw [q]<;>rfl
  simp only [Fm.pl,be] at hp
  rw [←List.range'_append] at hp
  refine fY (Us hp (by simp)) λhpl hpr=>?_;have il:=s68 hi hj hij m l k _ os2 (td++[N]) hk'.1 hl (by refine rA htn ?_;exact hpl) (by refine rA be ?_;refine rA Gp ?_;lia);have htl:qC (td++[N]++l.pre m)=qC td+l.pl.length:=by refine rA (lO _ _) ?_;refine rA htn ?_;exact rA (l4 _ _) rfl
  have ir:=s68 hi hj hij m r k os2 os' (td++[N]++l.pre m) hk'.2 hr (by refine rA htl ?_;simpa using hpr) (by simp only [be,Gp];lia);have e2:∀ (μ0:List ah),lg (wA k) (oG i j (some (.d (.int N))) none none) μ0=some (.next,oG i j (some (.d (.int N))) none none,μ0):= λμ0=>by
   unfold lg;exact (gP (JC (n:=N) rfl) (by rcases hn with q|q<;>rw [q]<;>rfl)).trans bK
  have hlz:(nL l.pl).length≤1000∧(nL r.pl).length≤1000:=by
   have h1:=l4 m l;have h2:=l4 m r;have h3:qC (l.pre m)≤(l.pre m).length:=Hs ..;have h4:qC (r.pre m)≤(r.pre m).length:=Hs ..;simp only [nL,xG];lia
  have hv:(J1 [.int (N-256),.list (nL l.pl++nL r.pl),l.enc m,r.enc m])=(Fm.bin p l r).enc m:=by
   simp only [Fm.enc];refine rA (show N-256=(if p then (18:Int) else 16) by rw [←hN];cases p<;>rfl) ?_;exact rA (show nL (l.pl++r.pl)=nL l.pl++nL r.pl by simp [nL]) rfl
  have e3:ou (wA k) (oG i j (some (.d (.int N))) none none) (gW μ i j os1 (td++[N]))=some (.ret (.d ((Fm.bin p l r).enc m)),oG i j (some (.d (.int N))) (some (.d (l.enc m))) (some (.d (r.enc m))),gW μ i j os' (td++[N]++l.pre m++r.pre m)):=by
   unfold ou;refine (gB (QJ (n:=N) rfl) (by rcases hn with q|q<;>rw [q]<;>rfl)).trans ?_;have a1:c6 3 (af [a9 0,a9 1] (wA k)) (oG i j (some (.d (.int N))) none none) (gW μ i j os1 (td++[N]))=some (.next,oG i j (some (.d (.int N))) (some (.d (l.enc m))) none,gW μ i j os2 (td++[N]++l.pre m)):=by
    exact (bO (iV (f:=a9 0) (g:=a9 1) (V:=.c i) (V':=.c j) rfl rfl il)).trans rfl
   have a2:c6 4 (af [a9 0,a9 1] (wA k)) (oG i j (some (.d (.int N))) (some (.d (l.enc m))) none) (gW μ i j os2 (td++[N]++l.pre m))=some (.next,oG i j (some (.d (.int N))) (some (.d (l.enc m))) (some (.d (r.enc m))),gW μ i j os' (td++[N]++l.pre m++r.pre m)):=by
    exact (bO (iV (f:=a9 0) (g:=a9 1) (V:=.c i) (V':=.c j) rfl rfl ir)).trans rfl
   refine (aB a1).trans ((aB a2).trans ?_);have ht:=d7 (ds:=[.int (N-256),.list (nL l.pl++nL r.pl),l.enc m,r.enc m]) (ρ:=oG i j (some (.d (.int N))) (some (.d (l.enc m))) (some (.d (r.enc m)))) (μ:=gW μ i j os' (td++[N]++l.pre m++r.pre m))
    (an (cV (f:=a9 2) (g:=kI 256) (o:= λx y=>some (x-y)) (x:=N) rfl rfl rfl) (an (cS (qA (f:=a9 3) (F:=l) rfl) (qA (f:=a9 4) (F:=r) rfl) rfl rfl (aa (by lia))) (an (f:=a9 3) (V:=.d (l.enc m)) rfl (an (f:=a9 4) (V:=.d (r.enc m)) rfl bW)))) (aa (xF rfl))
   rw [hv] at ht
   exact cT (dZ ht)
  have:f68 (wA k) (cC (ao (ay 68)) [.c i,.c j]) (gW μ i j os td)=some (.ret (.d ((Fm.bin p l r).enc m)),oG i j (some (.d (.int N))) (some (.d (l.enc m))) (some (.d (r.enc m))),gW μ i j os' (td++[N]++l.pre m++r.pre m)):=by
   unfold f68;exact (rn hi hj hij e (by omega)).trans ((aB (e2 _)).trans (cT e3))
  refine (?_:cy 2 _ _ _ _=_);refine rA (cZ (k:=2) rfl this) ?_;refine rA (F7 (by rw [kJ,kJ];exact DI _)) ?_;simp only [Fm.pre,hN,E9,KV,Lc]
variable {F l r : Fm} {B : List Fm} {rc : List Fm → Bool}
structure Jn where
 par:Bool
 nd:Nat
 a:Nat
 b:Nat
noncomputable def Jn.enc(x:Jn):PyData:=.tuple [.int (if x.par then 18 else 16),.int x.nd,.int x.a,.int x.b]
noncomputable def gr:Fm→Nat→Nat×List Jn
 | .at i,_=>(i,[])
 | .bin p l r,n=>
  let x:=gr l n
  let y:=gr r (n+x.2.length)
  (6+(n+x.2.length+y.2.length),x.2++y.2++[⟨p,6+(n+x.2.length+y.2.length),x.1,y.1⟩])
theorem Jg:gr (.at i) n=(i,[]):=rfl
theorem zR{p:Bool}:gr (.bin p l r) n=(6+(n+(gr l n).2.length+(gr r (n+(gr l n).2.length)).2.length),(gr l n).2++(gr r (n+(gr l n).2.length)).2++[⟨p,6+(n+(gr l n).2.length+(gr r (n+(gr l n).2.length)).2.length),(gr l n).1,(gr r (n+(gr l n).2.length)).1⟩]):=rfl
noncomputable def jL(l:List Jn):List PyData:=l.map Jn.enc
noncomputable def rX(F:PyData)(j:Nat)(l r:Option AV):d0:=[some (.d F),some (.c j),l,r]
theorem tR(hc:μ[j]? =some (.live xs)):tT μ (.c j)=some xs:=eP hc
theorem TN{J:List Jn}(hk:a9 k ρ μ=some (.c j,μ))(hc:μ[j]? =some (.live (jL J)))(hz:J.length≤1000):af [a9 k] dz ρ μ=some (.d (.int J.length),μ):=by
 have:=gH hk (tR hc) (by rw [jL];refine rA (xG _) ?_;exact aa (by lia))
 refine rA this ?_;rw [jL];exact rA (xG _) rfl
theorem ti(k:Nat)(hf:f ρ μ=some (.d (.tuple xs),μ))(h1:1≤k)(h2:k≤xs.length)(hz:xs.length≤sizeLine):cc f (aL (kI k)) ba ρ μ=some (.d (.tuple (xs.drop k)),μ):=
 (b5 hf).trans ((b5 (rfl:aL (kI k) ρ μ=some (some (k:Int),μ))).trans ((b5 (rfl:ba ρ μ=some (none,μ))).trans (if_pos (by lia))))
theorem pj{e:EF}(h:e ρ μ=some (.d d,μ1))(acc:List PyData)(hz:acc.length≤sizeLine):cU bg (aY e) ρ μ acc=some (ρ,μ1,acc++[d]):=
 (show aY e ρ μ acc=some (ρ,μ1,acc++[d]) from (b5 h).trans ((b5 (rfl:w5 (.d d) μ1=some (d,μ1))).trans (if_pos hz)))
theorem s71(m:List Nat):∀ (F:Fm) (k:Nat) (μ:List ah) (J:List Jn),F.ht≤k→μ[j]? =some (.live (jL J))→J.length+(gr F J.length).2.length≤1000→
  EW k [.d (F.enc m),.c j] μ=some (.d (.int (gr F J.length).1),μ.set j (.live (jL (J++(gr F J.length).2))))
 |F,0,μ,J,hk,_,_=>by cases F<;>simp [Fm.ht] at hk
 | .at p,k+1,μ,J,hk,hc,hz=>by
  have e0:sj (EW k) (rX ((Fm.at p).enc m) j none none) μ=some (.ret (.d (.int p)),rX ((Fm.at p).enc m) j none none,μ):=by
   have ht:bC (af [a9 0] dz) (kI 2) dH (rX ((Fm.at p).enc m) j none none) μ=some (true,μ):=by
    exact dF (gH (f:=a9 0) (xs:=[.int (sg m p),.list [.int p]]) rfl rfl (aa (xF rfl))) rfl rfl
   have hi:=cH (f:=aF (a9 0) (kI 1)) (g:=kI 0) (k:=0) (xs:=[.int p]) (d:=.int p) (ρ:=rX ((Fm.at p).enc m) j none none) (μ:=μ) (cH (f:=a9 0) (g:=kI 1) (k:=1) (xs:=[.int (sg m p),.list [.int p]]) rfl rfl rfl (by decide) rfl (aa (xF rfl))) rfl rfl (by decide) rfl (aa (xF rfl));unfold sj;exact (yu ht).trans (cT (dZ hi))
  have:f71 (EW k) (cC (ao (ay 71)) [.d ((Fm.at p).enc m),.c j]) μ=some (.ret (.d (.int p)),rX ((Fm.at p).enc m) j none none,μ):=by
   unfold f71;exact cT e0
  refine (?_:cy 2 _ _ _ _=_);refine rA (cZ (k:=2) rfl this) ?_;refine rA (F7 (DI _)) ?_;simp only [Jg,DB];exact rA (eD hc) rfl
 | .bin p l r,k+1,μ,J,hk,hc,hz=>by
  have hk':l.ht≤k∧r.ht≤k:=by simp only [Fm.ht] at hk;lia
  have hlt:j<μ.length:=(BJ.mp hc).1;simp only [zR,be,Gp] at hz
  generalize hx:gr l J.length=x at hz
  generalize hy:gr r (J.length+x.2.length)=y at hz
  have il:=s71 m l k μ J hk'.1 hc (by refine rA hx ?_;lia);rw [hx] at il
  have ir:=s71 m r k (μ.set j (.live (jL (J++x.2)))) (J++x.2) hk'.2 (cz hlt) (by refine rA be ?_;refine rA hy ?_;lia);rw [be,hy,I9] at ir
  have e0:sj (EW k) (rX ((Fm.bin p l r).enc m) j none none) μ=some (.next,rX ((Fm.bin p l r).enc m) j none none,μ):=by
   have ht:bC (af [a9 0] dz) (kI 2) dH (rX ((Fm.bin p l r).enc m) j none none) μ=some (false,μ):=by
    exact dF (gH (f:=a9 0) (xs:=[.int (if p then 18 else 16),.list (nL (l.pl++r.pl)),l.enc m,r.enc m]) rfl rfl (aa (xF rfl))) rfl rfl
   unfold sj;exact (D4 ht).trans bK
  have e1:GK (EW k) (rX ((Fm.bin p l r).enc m) j none none) μ=some (.next,rX ((Fm.bin p l r).enc m) j (some (.d (.int x.1))) (some (.d (.int y.1))),μ.set j (.live (jL (J++x.2++y.2)))):=by
   have hs:aK false (cc (a9 0) (aL (kI 2)) ba) (rX ((Fm.bin p l r).enc m) j none none) μ=some ([l.enc m,r.enc m],none,μ):=
    mm (ti (xs:=[.int (if p then 18 else 16),.list (nL (l.pl++r.pl)),l.enc m,r.enc m]) 2 rfl (by decide) (by simp) (aa (xF rfl)))
   have c1:=pj (iV (f:=a9 4) (g:=a9 1) (V:=.d (l.enc m)) (V':=.c j) (ρ:=(bG qZ (rX ((Fm.bin p l r).enc m) j none none)).set 4 (some (.d (l.enc m)))) rfl rfl il) [] (aa (xF rfl));have c2:=pj (iV (f:=a9 4) (g:=a9 1) (V:=.d (r.enc m)) (V':=.c j) (ρ:=((bG qZ (rX ((Fm.bin p l r).enc m) j none none)).set 4 (some (.d (l.enc m)))).set 4 (some (.d (r.enc m)))) rfl rfl ir) ([]++[.int x.1]) (aa (xF rfl));have hc:fg qZ (aK false (cc (a9 0) (aL (kI 2)) ba)) (du 4) (cU bg (aY (af [a9 4,a9 1] (EW k)))) (rX ((Fm.bin p l r).enc m) j none none) μ=some ([.int x.1,.int y.1],μ.set j (.live (jL (J++x.2++y.2)))):=by
    exact pN hs ((o_ rfl c1 (az _ _)).trans (o_ rfl c2 (az _ _)))
   exact VO (bY hc)
  have hJ:(μ.set j (.live (jL (J++x.2++y.2))))[j]? =some (.live (jL (J++x.2++y.2))):=cz hlt;have hjl:(J++x.2++y.2).length≤1000:=by simp only [be];lia
  have hnd:(6:Int)+((J++x.2++y.2).length:Nat)=((6+(J.length+x.2.length+y.2.length):Nat):Int):=by simp only [be];push_cast;lia
  have e2:AN (EW k) (rX ((Fm.bin p l r).enc m) j (some (.d (.int x.1))) (some (.d (.int y.1)))) (μ.set j (.live (jL (J++x.2++y.2))))=some (.next,rX ((Fm.bin p l r).enc m) j (some (.d (.int x.1))) (some (.d (.int y.1))),
    μ.set j (.live (jL (J++(x.2++y.2++[⟨p,6+(J.length+x.2.length+y.2.length),x.1,y.1⟩]))))):=by
   have ht:=d7 (ds:=[.int (if p then 18 else 16),.int (6+((J++x.2++y.2).length:Nat)),.int x.1,.int y.1]) (ρ:=rX ((Fm.bin p l r).enc m) j (some (.d (.int x.1))) (some (.d (.int y.1)))) (μ:=μ.set j (.live (jL (J++x.2++y.2))))
    (an (cH (f:=a9 0) (g:=kI 0) (k:=0) (xs:=[.int (if p then 18 else 16),.list (nL (l.pl++r.pl)),l.enc m,r.enc m]) rfl rfl rfl (by decide) rfl (aa (xF rfl))) (an (cR (f:=kI 6) rfl (TN (k:=1) rfl hJ hjl)) (an (f:=a9 2) (V:=.d (.int x.1)) rfl (an (f:=a9 3) (V:=.d (.int y.1)) rfl bW)))) (aa (xF rfl))
   unfold AN;refine rA (eB (gt (f:=a9 1) (j:=j) rfl ht hJ (by rw [jL,xG];exact aa (by omega)))) ?_;refine rA (I9 _) ?_;refine rA hnd ?_
   simp [jL,Jn.enc]
  have hJ2:(μ.set j (.live (jL (J++(x.2++y.2++[⟨p,6+(J.length+x.2.length+y.2.length),x.1,y.1⟩])))))[j]? =some (.live (jL (J++(x.2++y.2++[⟨p,6+(J.length+x.2.length+y.2.length),x.1,y.1⟩])))):=cz hlt;have e3:IB (EW k) (rX ((Fm.bin p l r).enc m) j (some (.d (.int x.1))) (some (.d (.int y.1)))) (μ.set j (.live (jL (J++(x.2++y.2++[⟨p,6+(J.length+x.2.length+y.2.length),x.1,y.1⟩])))))=some (.ret (.d (.int ((6+(J.length+x.2.length+y.2.length):Nat):Int))),rX ((Fm.bin p l r).enc m) j (some (.d (.int x.1))) (some (.d (.int y.1))),
    μ.set j (.live (jL (J++(x.2++y.2++[⟨p,6+(J.length+x.2.length+y.2.length),x.1,y.1⟩]))))):=by
   have h5:=cR (f:=kI 5) (x:=5) (ρ:=rX ((Fm.bin p l r).enc m) j (some (.d (.int x.1))) (some (.d (.int y.1)))) rfl (TN (k:=1) rfl hJ2 (by simp only [be,Gp];lia));exact (dZ h5).trans (congrArg (λz=>some (Fl.ret (.d (.int z)),_,_)) (show (5:Int)+((J++(x.2++y.2++[(⟨p,6+(J.length+x.2.length+y.2.length),x.1,y.1⟩:Jn)])).length:Nat)=((6+(J.length+x.2.length+y.2.length):Nat):Int) by simp only [be,Gp];push_cast;lia))
  have:f71 (EW k) (cC (ao (ay 71)) [.d ((Fm.bin p l r).enc m),.c j]) μ=some (.ret (.d (.int ((6+(J.length+x.2.length+y.2.length):Nat):Int))),rX ((Fm.bin p l r).enc m) j (some (.d (.int x.1))) (some (.d (.int y.1))),
    μ.set j (.live (jL (J++(x.2++y.2++[⟨p,6+(J.length+x.2.length+y.2.length),x.1,y.1⟩]))))):=by
   exact (aB e0).trans ((aB e1).trans ((aB e2).trans (cT e3)))
  refine (?_:cy 2 _ _ _ _=_);refine rA (cZ (k:=2) rfl this) ?_;refine rA (F7 (by simp)) ?_;simp only [zR,hx,hy]
variable {J S : List Jn}
noncomputable def dj:List Nat→List (Nat×Nat)→List Nat
 |ls,[]=>ls
 |ls,(a,b)::r=>if ls.getD a 0=ls.getD b 0 then [] else dj (ls.map λx=>if x=ls.getD b 0 then ls.getD a 0 else x) r
theorem Cu{l:List Nat}{a:Nat}{r:List (Nat×Nat)}:dj l ((a,b)::r)=if l.getD a 0=l.getD b 0 then [] else dj (l.map λx=>if x=l.getD b 0 then l.getD a 0 else x) r:=rfl
noncomputable def eL(es:List (Nat×Nat)):List PyData:=es.map λp=>.tuple [.int p.1,.int p.2]
noncomputable def vQ(ls:List Nat)(E:List PyData)(o t:Option AV):d0:=[some (.d (.list (nL ls))),some (.d (.list E)),o,t]
theorem tQ{a:Nat}(h:a<ls.length):(nL ls)[a]? =some (.int (ls.getD a 0)):=by
 simp [nL,Gi,Fe h]
theorem AQ{a:Nat}(hf:f ρ μ=some (.d (.list (nL ls)),μ))(hg:g ρ μ=some (.d (.int a),μ))(h:a<ls.length)(hz:ls.length≤1000):aF f g ρ μ=some (.d (.int (ls.getD a 0)),μ):=
 cH hf hg rfl (by lia) (by simpa using tQ h) (by rw [nL];refine rA (xG _) ?_;exact aa (by lia))
abbrev u_:SF:=(ap (jC (bC (aF (a9 0) (a9 2)) (aF (a9 0) (a9 3)) dH) (ap (e_ (aV [])) aP) aP) (ap (c6 0 (cb pw (aK false (a9 0)) (du 4) (cU bg (aY (dx (bC (a9 4) (aF (a9 0) (a9 3)) dH) (aF (a9 0) (a9 2)) (a9 4)))))) aP))
noncomputable def On(u v:Int):PyData→PyData
 | .int y=>.int (if y=u then v else y)
 |x=>x
theorem JV{u v:Int}:On u v (.int y)=.int (if y=u then v else y):=rfl
theorem RE{E:List PyData}{a:Nat}(h:a<ls.length)(hz:ls.length≤1000):aF (a9 0) (a9 2) (vQ ls E (some (.d (.int a))) (some (.d (.int b)))) μ=some (.d (.int (ls.getD a 0)),μ):=AQ rfl rfl h hz
theorem QL{E:List PyData}{a:Nat}(h:b<ls.length)(hz:ls.length≤1000):aF (a9 0) (a9 3) (vQ ls E (some (.d (.int a))) (some (.d (.int b)))) μ=some (.d (.int (ls.getD b 0)),μ):=AQ rfl rfl h hz
noncomputable def GN(ls:List Nat)(E:List PyData)(a b:Nat)(y:Int):d0:=[some (.d (.list (nL ls))),some (.d (.list E)),some (.d (.int a)),some (.d (.int b)),some (.d (.int y))]
theorem U6{E:List PyData}{a:Nat}(h:a<ls.length)(hz:ls.length≤1000):aF (a9 0) (a9 2) (GN ls E a b y) μ=some (.d (.int (ls.getD a 0)),μ):=AQ rfl rfl h hz
theorem Un{E:List PyData}{a:Nat}(h:b<ls.length)(hz:ls.length≤1000):aF (a9 0) (a9 3) (GN ls E a b y) μ=some (.d (.int (ls.getD b 0)),μ):=AQ rfl rfl h hz
theorem EM{E:List PyData}{a:Nat}(ha:a<ls.length)(hb:b<ls.length)(hz:ls.length≤1000)(q:ls.getD a 0=ls.getD b 0):
  u_ (vQ ls E (some (.d (.int a))) (some (.d (.int b)))) μ=some (.ret (.d (.list [])),vQ ls E (some (.d (.int a))) (some (.d (.int b))),μ):=by
 have hcmp:=o4 (RE (E:=E) (b:=b) (μ:=μ) ha hz) (QL hb hz);rw [q,beq_self_eq_true] at hcmp
 exact cT ((yu hcmp).trans (cT (dZ tu)))
theorem Y7{E:List PyData}{a:Nat}(ha:a<ls.length)(hb:b<ls.length)(hz:ls.length≤1000):dx (bC (a9 4) (aF (a9 0) (a9 3)) dH) (aF (a9 0) (a9 2)) (a9 4) (GN ls E a b y) μ=some (.d (On (ls.getD b 0) (ls.getD a 0) (.int y)),μ):=by
 have k3:bC (a9 4) (aF (a9 0) (a9 3)) dH (GN ls E a b y) μ=some (y==(ls.getD b 0:Int),μ):=o4 rfl (Un hb hz);have k4:a9 4 (GN ls E a b y) μ=some (.d (.int y),μ):=rfl
 by_cases z:y=(ls.getD b 0:Int)
 ·rw [show (y==(ls.getD b 0:Int))=true from beq_iff_eq.mpr z] at k3
  refine rA (wk k3) ?_;refine rA (U6 ha hz) ?_;refine rA JV ?_;exact rA (if_pos z) rfl
 ·rw [show (y==(ls.getD b 0:Int))=false from beq_eq_false_iff_ne.mpr z] at k3
  refine rA (sL k3) ?_;refine rA k4 ?_;refine rA JV ?_;exact rA (if_neg z) rfl
theorem ZH(ls:List Nat)(u v:Nat):(nL ls).map (On u v)=nL (ls.map λx=>if x=u then v else x):=by
 simp only [nL,ER];refine FH λy zz=>?_;refine (?_:EU (if (y:Int)=(u:Int) then (v:Int) else (y:Int))=EU ((if y=u then v else y:Nat):Int))
 by_cases z:y=u
 ·refine rA (if_pos z) ?_;exact rA (if_pos (by rw [z])) rfl
 ·refine rA (if_neg z) ?_;exact rA (if_neg (λq=>z (by exact_mod_cast q))) rfl
theorem CH{E:List PyData}{a:Nat}(ha:a<ls.length)(hb:b<ls.length)(hz:ls.length≤1000)(q:¬ls.getD a 0=ls.getD b 0):
  u_ (vQ ls E (some (.d (.int a))) (some (.d (.int b)))) μ=some (.next,vQ (ls.map λx=>if x=ls.getD b 0 then ls.getD a 0 else x) E (some (.d (.int a))) (some (.d (.int b))),μ):=by
 have hcmp:=o4 (RE (E:=E) (b:=b) (μ:=μ) ha hz) (QL hb hz);rw [show ((ls.getD a 0:Int)==(ls.getD b 0:Int))=false from beq_eq_false_iff_ne.mpr λz=>q (by exact_mod_cast z)] at hcmp
 have hi:aK false (a9 0) (vQ ls E (some (.d (.int a))) (some (.d (.int b)))) μ=some (nL ls,none,μ):=d6 (V:=.d (.list (nL ls))) rfl rfl;have hc:=iw (sc:=pw) (e:=dx (bC (a9 4) (aF (a9 0) (a9 3)) dH) (aF (a9 0) (a9 2)) (a9 4)) 4 (On (ls.getD b 0) (ls.getD a 0)) hi (az _ _) (λx hx=>by
  refine au (DG.mp hx) λy zz zq2=>?_;subst zq2;exact Y7 ha hb hz) (by rw [nL];refine rA (xG _) ?_;exact aa (by lia))
 rw [ZH] at hc
 have hd:=bY hc;have ha:c6 0 (cb pw (aK false (a9 0)) (du 4) (cU bg (aY (dx (bC (a9 4) (aF (a9 0) (a9 3)) dH) (aF (a9 0) (a9 2)) (a9 4))))) (vQ ls E (some (.d (.int a))) (some (.d (.int b)))) μ=some (.next,vQ (ls.map λx=>if x=ls.getD b 0 then ls.getD a 0 else x) E (some (.d (.int a))) (some (.d (.int b))),μ):=by
  exact bO hd
 exact (aB ((D4 hcmp).trans bK)).trans ((aB ha).trans bK)
theorem Rs(E:List PyData)(xs:List PyData)(μ:List ah):∀ (es:List (Nat×Nat)) (ls:List Nat) (o t:Option AV),ls.length≤1000→(∀p∈es,p.1<ls.length∧p.2<ls.length)→
  ∃ρ',ap (fN (jc 2 3) u_ aP none xs (eL es)) (ap JS aP) (vQ ls E o t) μ=some (.ret (.d (.list (nL (dj ls es)))),ρ',μ)
 | [],ls,o,t,hz,_=>⟨_,rfl⟩
 | (a,b)::es,ls,o,t,hz,hp=>by
  refine fY (hp (a,b) (by simp)) λha hb=>?_;have htf:jc 2 3 (vQ ls E o t) (.tuple [.int a,.int b])=some (vQ ls E (some (.d (.int a))) (some (.d (.int b)))):=rfl
  by_cases q:ls.getD a 0=ls.getD b 0
  ·refine ⟨vQ ls E (some (.d (.int a))) (some (.d (.int b))),?_⟩
   refine rA Cu ?_;refine rA (if_pos q) ?_;exact cT (pv htf (EM ha hb hz q))
  ·refine bP (Rs E xs μ es (ls.map λx=>if x=ls.getD b 0 then ls.getD a 0 else x) (some (.d (.int a))) (some (.d (.int b))) (by simpa using hz) (λp hp'=>by simpa using hp p (D1 _ hp'))) λρ' ih=>?_
   refine ⟨ρ',?_⟩;refine rA Cu ?_;refine rA (if_neg q) ?_;refine rB ih ?_;rw [ap,ap];refine rA (show eL ((a,b)::es)=.tuple [.int a,.int b]::eL es from rfl) ?_;rw [dK htf (CH ha hb hz q) (az _ _)]
theorem s72{es:List (Nat×Nat)}(hz:ls.length≤1000)(hp:∀p∈es,p.1<ls.length∧p.2<ls.length):de [.d (.list (nL ls)),.d (.list (eL es))] μ=some (.d (.list (nL (dj ls es))),μ):=by
 refine bP (Rs (eL es) (eL es) μ es ls none none hz hp) λρ' h=>?_;have hi:aK true (a9 1) (vQ ls (eL es) none none) μ=some (eL es,none,μ):=AB (V:=.d (.list (eL es))) rfl rfl (pF λzz=>⟨_,rfl⟩)
 have:f72 (cC (ao (ay 72)) [.d (.list (nL ls)),.d (.list (eL es))]) μ=some (.ret (.d (.list (nL (dj ls es)))),ρ',μ):=by
  refine rB h ?_;refine rA (show cC (ao (ay 72)) [.d (.list (nL ls)),.d (.list (eL es))]=vQ ls (eL es) none none from rfl) ?_;unfold f72;rw [ap,ap]
  have:Cb (vQ ls (eL es) none none) μ=fN (jc 2 3) u_ aP none (eL es) (eL es) (vQ ls (eL es) none none) μ:=by
   unfold Cb jI;exact rA hi rfl
  exact rA this rfl
 unfold de;refine rA (cZ (k:=2) rfl this) ?_;exact rA (F7 (DI _)) rfl
theorem Qy(hij:i≠j)(ρ0:d0)(u v:Option AV):TfB (jc i j) ρ0 ((ρ0.set i u).set j v):= λy=>by
 refine congrArg (bp ((dT y).bind l2)) (funext λa=>funext λb=>?_);rw [QY _ _ hij.symm,I9,I9]
theorem fF{X Y:Type}(f:X→Y)(l:List X):l.flatMap (λx=>[f x])=l.map f:=by
 induction l with
 |nil=>rfl
 |cons x l ih=>refine rA Fb ?_;refine rA ih ?_;rfl
theorem B8{X Y:Type}(p:X→Bool)(f:X→Y)(l:List X):l.flatMap (λx=>if p x then [f x] else [])=(l.filter p).map f:=by
 induction l with
 |nil=>rfl
 |cons x l ih=>
  refine rA Fb ?_;refine rA ih ?_;refine rA KC ?_
  split<;>simp
theorem sP{e:EF}{g:Option Nat}(i j:Nat)(hij:i≠j)(f:PyData→PyData)(hi:itf ρ μ=some (xs,g,μ1))(hg:cu g xs μ1)
  (h:∀x∈xs,∃a b,x=.tuple [a,b]∧e (((bG sc ρ).set i (some (.d a))).set j (some (.d b))) μ1=some (.d (f x),μ1)) (hz:xs.length≤sizeLine):fg sc itf (jc i j) (cU bg (aY e)) ρ μ=some (xs.map f,μ1):=by
 have:=mC (sc:=sc) (tf:=jc i j) (cf:=cU bg (aY e)) hi hg (λx=>[f x]) (λx hx acc=>by
  refine kv (h x hx) λa b zq2 he=>?_;subst zq2;exact (dw _ _ rfl (λhz=>oU he acc (by simpa using hz)) (Qy hij _ _ _))) (by refine rA (fF _ _) ?_;refine rA (xG _) ?_;exact hz)
 refine rA this ?_;exact rA (fF _ _) rfl
theorem qf{e:EF}{g:Option Nat}(i j:Nat)(hij:i≠j)(p:PyData→Bool)(f:PyData→PyData)(hi:itf ρ μ=some (xs,g,μ1))(hg:cu g xs μ1)
  (h:∀x∈xs,∃a b,x=.tuple [a,b]∧t (((bG sc ρ).set i (some (.d a))).set j (some (.d b))) μ1=some (p x,μ1)∧(p x=true→e (((bG sc ρ).set i (some (.d a))).set j (some (.d b))) μ1=some (.d (f x),μ1))) (hz:xs.length≤sizeLine):fg sc itf (jc i j) (cU t (aY e)) ρ μ=some ((xs.filter p).map f,μ1):=by
 have:=mC (sc:=sc) (tf:=jc i j) (cf:=cU t (aY e)) hi hg (λx=>if p x then [f x] else []) (λx hx acc=>by
  refine bq (h x hx) λa b zq2 ht he=>?_;subst zq2;exact (dw _ _ rfl (λhz=>C6 ht he acc hz) (Qy hij _ _ _))) (by
   refine rA (B8 _ _ _) ?_;refine rA (xG _) ?_;exact KQ (Hs ..) hz)
 refine rA this ?_;exact rA (B8 _ _ _) rfl
theorem km(hf:f ρ μ=some (V,μ))(h:w5 V μ=some (.list xs,μ1)):b_ [f] g9 ρ μ=some (cL 0 xs,none,μ1):=by
 exact (b5 (xg hf)).trans ((bV (rfl:l1 [V]=some V)).trans (b5 h))
theorem fj{x:Int}(h:y≠0):cq x y=some (x.fmod y):=if_neg h
theorem kP{x:Int}(h:¬(y=0∨2^64≤y.natAbs)):cN x y=some (x.fdiv y):=if_neg h
theorem Bf(hf:f ρ μ=some (.d (.list xs),μ))(hg:g ρ μ=some (.d (.int y),μ))(h:xs.length*y.toNat≤16777216∧y.natAbs<9223372036854775808):aj f g l8 ρ μ=some (.d (.list (nN xs y.toNat)),μ):=by
 have e24:(2:Nat)^24=16777216:=by decide
 have e63:(2:Nat)^63=9223372036854775808:=by decide
 exact pS hf hg ((bV (rfl:jJ (.d (.int y))=some y)).trans ((f5 (rfl:jJ (.d (.list xs))=none)).trans ((bV (rfl:da μ (.d (.list xs))=some xs)).trans (if_pos (by rw [e24,e63];exact h)))))
noncomputable def rp(n:Int):List Int:=(([5,4,3,2,1]:List Int).filter λh=>decide (64^h.toNat≤n)).map (λh=>(n.fdiv (64^h.toNat)).fmod 64+64)++[n.fmod 64]
noncomputable def zL(cs:List Int)(k:Nat):Nat:=(((cs.getD (k%6) 0).fdiv 420).fmod 3).toNat
noncomputable def gh(cs:List Int):Nat→List Int→List Int
 |_,[]=>[]
 |k,n::ns=>(GE (zL cs k) 64++rp n)++gh cs (k+1) ns
noncomputable def rU(ns cs:List Int)(T:Int)(j:Nat)(a b:Option AV):d0:=[some (.d (.list (iL ns))),some (.d (.list (iL cs))),some (.d (.int T)),some (.c j),a,b]
theorem PI(h:Int)(hh:h∈([5,4,3,2,1]:List Int)):gj 64 h=some (64^h.toNat)∧¬((64:Int)^h.toNat=0∨2^64≤((64:Int)^h.toNat).natAbs):=by
 simp only [Ch,DM,or_false] at hh
 rcases hh with rfl|rfl|rfl|rfl|rfl<;>exact ⟨by decide,by decide⟩
theorem QA:∀k:Nat,nN [.int 64] k=iL (GE k 64)
 |0=>rfl
 |k+1=>by rw [nN];refine rA (QA k) ?_;rfl
abbrev aa6:EF:=aj (aV [kI 64]) (aj (aj (aF (a9 1) (aj (a9 4) (kI 6) (aS cq))) (kI 420) (aS cN)) (kI 3) (aS cq)) l8
abbrev Y5:TF:=bC (a9 5) (aj (kI 64) (a9 6) (aS gj)) (ef λx y=>decide (y≤x))
abbrev ae4:EF:=aj (aj (aj (a9 5) (aj (kI 64) (a9 6) (aS gj)) (aS cN)) (kI 64) (aS cq)) (kI 64) aT
abbrev YX:EF:=aj (cb qX (aK false (aV [(kI 5),(kI 4),(kI 3),(kI 2),(kI 1)])) (du 6) (cU Y5 (aY ae4))) (aV [(aj (a9 5) (kI 64) (aS cq))]) aT
theorem W9{T:Int}{b:Option AV}(hc:cs.length=6):aa6 (rU ns cs T j (some (.d (.int k))) b) μ=some (.d (.list (iL (GE (zL cs k) 64))),μ):=by
 have h6:k%6<cs.length:=by lia
 have hm:((k:Int).fmod 6)=((k%6:Nat):Int):=by refine rA (Int.fmod_eq_emod_of_nonneg _ (by decide)) ?_;rfl
 have e1:aj (a9 4) (kI 6) (aS cq) (rU ns cs T j (some (.d (.int k))) b) μ=some (.d (.int ((k%6:Nat):Int)),μ):=by
  refine rB hm ?_;exact cV (f:=a9 4) (x:=k) rfl rfl (fj (by decide))
 have e2:aF (a9 1) (aj (a9 4) (kI 6) (aS cq)) (rU ns cs T j (some (.d (.int k))) b) μ=some (.d (.int (cs.getD (k%6) 0)),μ):=
  cH (f:=a9 1) (V:=.d (.list (iL cs))) rfl e1 rfl (by lia) (by refine rA (Fa _) ?_;simp [iL,Fe h6]) (by refine rA (xG _) ?_;exact aa (by lia))
 have e3:=cV (cV e2 (rfl:kI 420 _ _=some (.d (.int 420),_)) (kP (by decide))) (rfl:kI 3 _ _=some (.d (.int 3),_)) (fj (by decide));have h0:0≤((cs.getD (k%6) 0).fdiv 420).fmod 3:=F8 _ (by decide);have h3:((cs.getD (k%6) 0).fdiv 420).fmod 3<3:=Il _ (by decide)
 have:=Bf (f:=aV [kI 64]) (xs:=[.int 64]) (jR rfl) e3 ⟨by simp only [Gp];lia,by lia⟩
 rw [QA] at this
 exact this
noncomputable def Y8(n:Int):PyData→Bool
 | .int h=>decide (64^h.toNat≤n)
 |_=>false
noncomputable def an1(n:Int):PyData→PyData
 | .int h=>.int ((n.fdiv (64^h.toNat)).fmod 64+64)
 |x=>x
theorem Uq{T n:Int}{a:Option AV}:YX (rU ns cs T j a (some (.d (.int n)))) μ=some (.d (.list (iL (rp n))),μ):=by
 have hi:aK false (aV [(kI 5),(kI 4),(kI 3),(kI 2),(kI 1)]) (rU ns cs T j a (some (.d (.int n)))) μ=some (iL [5,4,3,2,1],none,μ):=
  d6 (V:=.d (.list (iL [5,4,3,2,1]))) (dG (ds:=[.int 5,.int 4,.int 3,.int 2,.int 1]) rfl (aa (xF rfl))) rfl
 have hpw:∀h∈([5,4,3,2,1]:List Int),aj (kI 64) (a9 6) (aS gj) ((bG qX (rU ns cs T j a (some (.d (.int n))))).set 6 (some (.d (.int h)))) μ=some (.d (.int (64^h.toNat)),μ):= λh hh=>cV (f:=kI 64) (g:=a9 6) (x:=64) (y:=h) rfl rfl (PI h hh).1;have hc:=jh (sc:=qX) (t:=Y5) (e:=ae4) 6 (Y8 n) (an1 n) hi (az _ _) (λx hx=>by
  refine au (DG.mp hx) λh hh zq2=>?_;subst zq2;exact dF (f:=a9 5) (V:=.d (.int n)) rfl (hpw h hh) rfl) (λx hx zz=>by
  refine au (DG.mp hx) λh hh zq2=>?_;subst zq2;exact cR (cV (cV (f:=a9 5) (x:=n) rfl (hpw h hh) (kP (PI h hh).2)) (rfl:kI 64 _ _=some (.d (.int 64),_)) (fj (by decide))) rfl) (by refine rA (xG _) ?_;exact aa (by simp))
 have hd:=bY hc;have hl:=jR (cV (f:=a9 5) (g:=kI 64) (o:=cq) (ρ:=rU ns cs T j a (some (.d (.int n)))) (μ:=μ) (x:=n) (y:=64) rfl rfl (fj (by decide)))
 have:=cS hd hl rfl rfl (aa (by
  refine rA (xG _) ?_
  have:=Hs (Y8 n) (iL [5,4,3,2,1])
  simp only [xG,AO,EQ] at this⊢
  lia))
 refine this.trans ?_;refine congrArg (λl=>some (AV.d (.list l),μ)) ?_;unfold iL rp;rw [Jz,OF,ER,ER];rfl
abbrev Tp:SF:=(ap (ci (rK (a9 3) aa6)) (ap (ci (rK (a9 3) YX)) aP))
theorem qx(n:Int):(rp n).length≤6:=by
 unfold rp;rw [be,xG]
 have:=Hs (λh:Int=>decide (64^h.toNat≤n)) [5,4,3,2,1]
 simp only [AO,EQ] at this⊢
 lia
theorem p0(cs:List Int)(k:Nat):zL cs k≤2:=by
 unfold zL;have h0:0≤((cs.getD (k%6) 0).fdiv 420).fmod 3:=F8 _ (by decide);have h3:((cs.getD (k%6) 0).fdiv 420).fmod 3<3:=Il _ (by decide);lia
theorem xu(cs:List Int):∀ (ns:List Int) (k:Nat),(gh cs k ns).length≤8*ns.length
 | [],k=>by simp [gh]
 |n::ns,k=>by
  have:=xu cs ns (k+1)
  have:=qx n
  have:=p0 cs k
  simp only [gh,be,Lb,AO];lia
theorem QH{nn:List Int}{T:Int}(hc:cs.length=6):∀ (ns:List Int) (k:Nat) (acc:List Int) (a b:Option AV) (μ:List ah),μ[j]? =some (.live (iL acc))→acc.length+8*ns.length≤10000→
  ∃a' b',fN (jc 4 5) Tp aP none xs (cL k (iL ns)) (rU nn cs T j a b) μ=some (.next,rU nn cs T j a' b',μ.set j (.live (iL (acc++gh cs k ns))))
 | [],k,acc,a,b,μ,hm,_=>(jH a b (by
  refine rA (show cL k (iL [])=[] from rfl) ?_;refine rA Jp ?_;rw [gh];refine rA (DB _) ?_;refine rA (eD hm) ?_;rfl))
 |n::ns,k,acc,a,b,μ,hm,hz=>by
  have hlt:j<μ.length:=(BJ.mp hm).1;have hd:=qx n;have hp:=p0 cs k;simp only [AO] at hz
  have e1:=eB (pc (f:=a9 3) (j:=j) rfl (W9 (ns:=nn) (T:=T) (j:=j) (k:=k) (b:=some (.d (.int n))) (μ:=μ) hc) hm (by simp only [xG,Lb];exact aa (by lia)));rw [lw] at e1
  have e2:=eB (pc (f:=a9 3) (j:=j) rfl (Uq (ns:=nn) (cs:=cs) (T:=T) (n:=n) (j:=j) (a:=some (.d (.int k))) (μ:=μ.set j (.live (iL (acc++GE (zL cs k) 64))))) (cz hlt) (by simp only [xG,be,Lb];exact aa (by lia)));rw [lw,I9] at e2
  obtain ⟨a',b',ih⟩:=QH hc ns (k+1) (acc++GE (zL cs k) 64++rp n) (some (.d (.int k))) (some (.d (.int n))) (μ.set j (.live (iL (acc++GE (zL cs k) 64++rp n)))) (cz hlt) (by simp only [be,Lb];lia);refine (jH a' b' ?_);rw [I9] at ih
  refine rA (show cL k (iL (n::ns))=.tuple [.int k,.int n]::cL (k+1) (iL ns) from rfl) ?_;refine rA (dK (ρ1:=rU nn cs T j (some (.d (.int k))) (some (.d (.int n)))) rfl ((aB e1).trans ((aB e2).trans bK)) (az _ _)) ?_;refine rA ih ?_;rw [gh];simp only [E9]
noncomputable def mk(T:Int):Nat→List Int→List Int
 |_,[]=>[]
 |p,o::r=>(if ((p:Int)+T).fmod 3=0 then o+128 else o)::mk T (p+1) r
noncomputable def mkF(T:Int):PyData→PyData
 | .tuple [.int p,.int o]=>.int (if (p+T).fmod 3=0 then o+128 else o)
 |x=>x
theorem Qm(T p o:Int):mkF T (.tuple [.int p,.int o])=.int (if (p+T).fmod 3=0 then o+128 else o):=rfl
theorem FD(T:Int):∀ (l:List Int) (k:Nat),(cL k (iL l)).map (mkF T)=iL (mk T k l)
 | [],k=>rfl
 |o::l,k=>by
  refine rA (show cL k (iL (o::l))=.tuple [.int k,.int o]::cL (k+1) (iL l) from rfl) ?_;refine rA ET ?_;refine rA (FD T l (k+1)) ?_;rfl
theorem ms:∀ (l:List Int) (k:Nat) {x:PyData},x∈cL k (iL l)→∃p o:Int,x=.tuple [.int p,.int o]
 | [],k,x,h=>by cases h
 |o::l,k,x,h=>by
  rw [show cL k (iL (o::l))=.tuple [.int k,.int o]::cL (k+1) (iL l) from rfl] at h
  rcases Ch.mp h with rfl|h
  ·exact (jH _ _ rfl)
  ·exact ms l (k+1) h
theorem iA:∀ (l:List PyData) (k:Nat),(cL k l).length=l.length
 | [],k=>rfl
 |o::l,k=>by simp [cL,iA l (k+1)]
theorem xf:oa [] ρ μ=some (.c μ.length,μ++[.live []]):=by
 exact Ic rfl rfl (Lw _)
theorem dp:(μ++[c])[μ.length]? =some c:=by simp
theorem fh:(μ++[c]).set μ.length c'=μ++[c']:=by simp
theorem ml:(μ++[c]).take μ.length=μ:=by simp
theorem s66{T:Int}(hc:cs.length=6)(hz:ns.length≤1000):
  fX [.d (.list (iL ns)),.d (.list (iL cs)),.d (.int T)] μ=some (.d (.list (iL (mk T 0 (gh cs 0 ns++[64+T.fmod 64])))),μ):=by
 have hol:=xu cs ns 0;have e0:HR (cC (ao (ay 66)) [.d (.list (iL ns)),.d (.list (iL cs)),.d (.int T)]) μ=some (.next,rU ns cs T μ.length none none,μ++[.live (iL [])]):=bO xf;refine lK (QH (nn:=ns) (T:=T) (xs:=cL 0 (iL ns)) hc ns 0 [] none none (μ++[.live (iL [])]) dp (by simp only [EQ];lia)) λa b h1=>?_;rw [fh,Lc] at h1
 have e1:KG (rU ns cs T μ.length none none) (μ++[.live (iL [])])=some (.next,rU ns cs T μ.length a b,μ++[.live (iL (gh cs 0 ns))]):=(gI (km (f:=a9 0) rfl rfl)).trans h1;have e2:IJ (rU ns cs T μ.length a b) (μ++[.live (iL (gh cs 0 ns))])=some (.next,rU ns cs T μ.length a b,μ++[.live (iL (gh cs 0 ns++[64+T.fmod 64]))]):=by
  have h:=gt (f:=a9 3) (g:=aj (kI 64) (aj (a9 2) (kI 64) (aS cq)) aT) (j:=μ.length) (d:=.int (64+T.fmod 64)) (ρ:=rU ns cs T μ.length a b) (μ:=μ++[.live (iL (gh cs 0 ns))]) rfl (cR (f:=kI 64) rfl (cV (f:=a9 2) (x:=T) rfl (rfl:kI 64 _ _=some (.d (.int 64),_)) (fj (by decide)))) dp (by refine rA (xG _) ?_;exact aa (by lia));rw [fh,show iL (gh cs 0 ns)++[EU (64+T.fmod 64)]=iL (gh cs 0 ns++[64+T.fmod 64]) by simp [iL]] at h
  exact eB h
 have hfr:w5 (.c μ.length) (μ++[.live (iL (gh cs 0 ns++[64+T.fmod 64]))])=some (.list (iL (gh cs 0 ns++[64+T.fmod 64])),μ++[.frozen (iL (gh cs 0 ns++[64+T.fmod 64]))]):=by
  exact (qo dp).trans (by rw [fh])
 have hcm:=sP (sc:=tm) (e:=dx (bC (aj (aj (a9 6) (a9 2) aT) (kI 3) (aS cq)) (kI 0) dH) (aj (a9 7) (kI 128) aT) (a9 7)) 6 7 (by decide) (mkF T) (km (f:=a9 3) (ρ:=rU ns cs T μ.length a b) rfl hfr) (az _ _) (λx hx=>by
  refine lK (ms _ _ hx) λp o zq2=>?_;subst zq2;refine (fS _ _ rfl ?_);have hcmp:bC (aj (aj (a9 6) (a9 2) aT) (kI 3) (aS cq)) (kI 0) dH (((bG tm (rU ns cs T μ.length a b)).set 6 (some (.d (.int p)))).set 7 (some (.d (.int o)))) (μ++[.frozen (iL (gh cs 0 ns++[64+T.fmod 64]))])=some ((p+T).fmod 3==0,_):=
   o4 (cV (cR (f:=a9 6) (g:=a9 2) rfl rfl) (rfl:kI 3 _ _=some (.d (.int 3),_)) (fj (by decide))) rfl
  by_cases z:(p+T).fmod 3=0
  ·rw [show ((p+T).fmod 3==0)=true from beq_iff_eq.mpr z] at hcmp
   refine rA (wk hcmp) ?_;refine rA (Qm _ _ _) ?_;refine rA (if_pos z) ?_;exact cR (f:=a9 7) (g:=kI 128) rfl rfl
  ·rw [show ((p+T).fmod 3==0)=false from beq_eq_false_iff_ne.mpr z] at hcmp
   refine rA (sL hcmp) ?_;refine rA (Qm _ _ _) ?_;refine rA (if_neg z) ?_;rfl) (by refine rA (iA _ _) ?_;refine rA (xG _) ?_;exact aa (by simp;lia))
 rw [FD] at hcm
 have e3:Jy (rU ns cs T μ.length a b) (μ++[.live (iL (gh cs 0 ns++[64+T.fmod 64]))])=some (.ret (.d (.list (iL (mk T 0 (gh cs 0 ns++[64+T.fmod 64]))))),rU ns cs T μ.length a b,μ++[.frozen (iL (gh cs 0 ns++[64+T.fmod 64]))]):=dZ (bY hcm)
 have:f66 (cC (ao (ay 66)) [.d (.list (iL ns)),.d (.list (iL cs)),.d (.int T)]) μ=some (.ret (.d (.list (iL (mk T 0 (gh cs 0 ns++[64+T.fmod 64]))))),rU ns cs T μ.length a b,μ++[.frozen (iL (gh cs 0 ns++[64+T.fmod 64]))]):=
  (aB e0).trans ((aB e1).trans ((aB e2).trans (cT e3)))
 unfold fX;refine rA (cZ (k:=3) rfl this) ?_;exact rA ml rfl
noncomputable def Zi:Int→Int→List Int→Option (Int×List Int)
 |o,val,[]=>if 64≤o then none else some (val,[])
 |o,val,o'::os=>if 64≤o then (if 0≤val∧val<4294967296 then Zi o' (val*64+o'%64) os else none) else some (val,o'::os)
noncomputable def rdF:List Int→Option (Int×List Int)
 | []=>none
 |o::os=>Zi o (o%64) os
theorem Pw:(yw 128).all (λo=>D5 (o:Int) 64==(if 64≤(o:Int) then 64 else 0)&&D5 ((o:Int)+128) 64==(if 64≤(o:Int) then 64 else 0)&&D5 (o:Int) 63==(o:Int)%64&&D5 ((o:Int)+128) 63==(o:Int)%64)=true:=by decide+kernel
theorem j9{o m:Int}(h0:0≤o)(h1:o<128)(hm:m=o∨m=o+128):D5 m 64=(if 64≤o then 64 else 0)∧D5 m 63=o%64:=by
 refine bP (L1 h0) λn zq1=>?_;subst zq1
 have:=Bb.mp Pw n (D3.mpr (by lia))
 simp only [EZ,beq_iff_eq] at this
 refine fY this λzp0 d=>?_;refine fY zp0 λzp0 c=>?_;obtain ⟨a,b⟩:=zp0
 rcases hm with rfl|rfl
 ·exact ⟨a,c⟩
 ·exact ⟨b,d⟩
theorem am3{v d:Int}(h0:0≤v)(h1:0≤d)(h2:d<64):Mj (v*64) d=v*64+d:=by
 have hz:D5 (v*64) d=0:=by
  refine bP (L1 h0) λa zq1=>?_;subst zq1;refine bP (L1 h1) λb zq1=>?_;subst zq1;have hb:b<64:=by lia
  have hn:(a*64) &&& b=0:=by
   apply Nat.eq_of_testBit_eq;intro i;refine rA (Nat.testBit_and _ _ _) ?_;refine rA (Nat.zero_testBit _) ?_;refine rA (show a*64=a <<< 6 by rw [Nat.shiftLeft_eq]) ?_;refine rA (Nat.testBit_shiftLeft _) ?_
   by_cases hi:6≤i
   ·refine rA (Nat.testBit_lt_two_pow (x:=b) (i:=i) (Ol hb (S9 (n:=2) (by decide) hi))) ?_
    simp
   ·simp [hi]
  have e:D5 ((a:Int)*64) (b:Int)=(((a*64) &&& b:Nat):Int):=by
   unfold D5;refine rA (decide_eq_true (show (0:Int)≤(a:Int)*64 by lia)) ?_;refine rA (decide_eq_true (show (0:Int)≤(b:Int) by lia)) ?_;dsimp only;refine rA (show ((a:Int)*64).toNat=a*64 by lia) ?_;exact rA (Fa _) rfl
  refine rA e ?_;refine rA hn ?_;rfl
 refine rA (PyProof.Rows.bitOr_and _ _) ?_;refine rA hz ?_;lia
theorem Re(T:Int)(rest:List Int):∀ (os:List Int) (o val:Int) (p k:Nat) (v:Int),os.length<k→0≤o→o<128→(∀x∈os,0≤x∧x<128)→Zi o val os=some (v,[])→∀m,m=o∨m=o+128→∃p',EL k m val (mk T p (os++rest))=some (v,mk T p' rest)
 |os,o,val,p,0,v,hk,_,_,_,_,_,_=>by lia
 | [],o,val,p,k+1,v,hk,h0,h1,ho,h,m,hm=>by
  unfold Zi at h
  split at h
  ·exact ct h
  ·rename_i hq
   cases h;refine ⟨p,?_⟩;unfold EL;refine rA ((j9 h0 h1 hm).1) ?_;refine rA (if_neg hq) ?_;refine rA (if_neg (by decide)) ?_;rfl
 |o'::os,o,val,p,k+1,v,hk,h0,h1,ho,h,m,hm=>by
  unfold Zi at h
  split at h
  ·rename_i hq
   split at h
   ·rename_i hv
    have h':=ho o' (by simp);have hm':(if ((p:Int)+T).fmod 3=0 then o'+128 else o')=o'∨(if ((p:Int)+T).fmod 3=0 then o'+128 else o')=o'+128:=by
     split
     ·exact .inr rfl
     ·exact .inl rfl
    refine bP (Re T rest os o' (val*64+o'%64) (p+1) k v (by simp at hk;lia) h'.1 h'.2 (λx hx=>ho x (D1 _ hx)) h _ hm') λp' ih=>?_;refine ⟨p',?_⟩;refine rA KV ?_;rw [mk];unfold EL;refine rA ((j9 h0 h1 hm).1) ?_;refine rA (if_pos hq) ?_;refine rA (if_pos (by decide)) ?_;dsimp only;refine rA (if_pos hv) ?_;refine rA ((j9 h'.1 h'.2 hm').2) ?_;refine rA (am3 hv.1 (Int.emod_nonneg _ (by decide)) (Int.emod_lt_of_pos _ (by decide))) ?_;exact ih
   ·exact ct h
  ·cases h
theorem Uz{T:Int}{blk:List Int}{v:Int}(hz:blk.length≤60)(hb:∀x∈blk,0≤x∧x<128)(h:rdF blk=some (v,[])):∃p',rd (mk T p (blk++rest))=some (v,mk T p' rest):=by
 cases blk with
 |nil=>exact ct h
 |cons o os=>
  have h':=hb o (by simp);have hm':(if ((p:Int)+T).fmod 3=0 then o+128 else o)=o∨(if ((p:Int)+T).fmod 3=0 then o+128 else o)=o+128:=by
   split
   ·exact .inr rfl
   ·exact .inl rfl
  refine bP (Re T rest os o (o%64) (p+1) 64 v (by simp at hz;lia) h'.1 h'.2 (λx hx=>hb x (D1 _ hx)) h _ hm') λp' e=>?_;refine ⟨p',?_⟩;refine rA KV ?_;rw [mk,rd];refine rA ((j9 h'.1 h'.2 hm').2) ?_;exact e
noncomputable def oB:List Int:=[0,7,8,272,274]++(yw 6).flatMap λf=>(yw 13).map λlow=>(2^f-1)*2^low+2^31
theorem Pd:(oB.all λn=>(yw 3).all λq=>rdF (GE q 64++rp n)==some (n,[]))=true:=by decide+kernel
theorem Jb:(oB.all λn=>(rp n).all λo=>decide (0≤o∧o<128))=true:=by decide+kernel
theorem H0{n:Int}(hn:n∈oB)(hq:q≤2):rdF (GE q 64++rp n)=some (n,[])∧∀x∈GE q 64++rp n,0≤x∧x<128:=by
 refine ⟨?_,λx hx=>?_⟩
 ·have:=Bb.mp (Bb.mp Pd n hn) q (D3.mpr (by lia))
  simpa using this
 ·rcases AA.mp hx with h|h
  ·have:=List.eq_of_mem_replicate h
   lia
  ·have:=Bb.mp (Bb.mp Jb n hn) x h
   simpa using this
theorem vn(T:Int)(cs tail:List Int):∀ (ns:List Int) (k p:Nat),(∀n∈ns,n∈oB)→∃p',yH (mk T p (gh cs k ns++tail)) ns (mk T p' tail)
 | [],k,p,_=>⟨p,.nil _⟩
 |n::ns,k,p,h=>by
  refine fY (H0 (h n (by simp)) (p0 cs k)) λg1 g2=>?_;have hd:=qx n;have hp:=p0 cs k;refine bP (Uz (T:=T) (rest:=gh cs (k+1) ns++tail) (p:=p) (by refine rA be ?_;refine rA Lb ?_;lia) g2 g1) λp1 e1=>?_;refine bP (vn T cs tail ns (k+1) p1 λx hx=>h x (D1 _ hx)) λp2 e2=>?_;refine ⟨p2,.cons ?_ e2⟩;rw [gh];refine rA (E9 _ _ _) ?_;exact e1
theorem nI{g:Option Nat}(hg:cu g xs μ)(Good:d0→Prop)(out:PyData→List PyData)
  (r:List PyData) (ρ:d0) (acc:List PyData) (hb:Good ρ) (h:∀x∈r,∀ρ,Good ρ→∀acc,acc.length+(out x).length≤sizeLine→∃ρ1 ρ2,tf ρ x=some ρ1∧cf ρ1 μ acc=some (ρ2,μ,acc++out x)∧Good ρ2) (hz:acc.length+(r.flatMap out).length≤sizeLine):
   ∃ρ',Good ρ'∧f9 tf cf g xs r ρ μ acc=some (ρ',μ,acc++r.flatMap out):=by
 induction r generalizing ρ acc with
 |nil=>exact aZ ρ hb (congrArg (λz=>some (ρ,μ,z)) (DB _).symm)
 |cons x r ih=>
  rw [Fb,be] at hz
  refine bq (h x (Fp ..) ρ hb acc (by lia)) λρ1 ρ2 e1 e2 e3=>?_;refine au (ih ρ2 (acc++out x) e3 (λy hy=>h y (D1 _ hy)) (by rw [be];lia)) λρ' hb' e=>aZ ρ' hb' ?_;refine (o_ e1 e2 hg).trans (e.trans ?_);rw [Fb,E9]
theorem vL{g:Option Nat}(hi:itf ρ μ=some (xs,g,μ1))(hg:cu g xs μ1)(Good:d0→Prop)(out:PyData→List PyData)(h0:Good (bG sc ρ))
  (h:∀x∈xs,∀ρ,Good ρ→∀acc,acc.length+(out x).length≤sizeLine→∃ρ1 ρ2,tf ρ x=some ρ1∧cf ρ1 μ1 acc=some (ρ2,μ1,acc++out x)∧Good ρ2) (hz:(xs.flatMap out).length≤sizeLine):
  fg sc itf tf cf ρ μ=some (xs.flatMap out,μ1):=by
 refine au (nI hg Good out xs (bG sc ρ) [] h0 h (by simpa using hz)) λρ' zz e=>?_;exact pN hi e
theorem K5:cU bg cf ρ μ acc=cf ρ μ acc:=rfl
theorem vo{g:Option Nat}(hi:itf ρ μ=some (xs,g,μ1)):gf itf tf cf ρ μ acc=f9 tf cf g xs xs ρ μ1 acc:=b5 hi
noncomputable abbrev U:=List Nat
noncomputable def uS(u:U):PyData:=.str ⟨u.toArray⟩
noncomputable def uL(l:List U):List PyData:=l.map uS
noncomputable def o5:Nat→List U
 |0=>[]
 |1=>[[92,40]]
 |2=>[[34],[41],[34]]
 |3=>[[92,92]]
 |4=>[[34],[92,34],[41],[34]]
 |5=>[[97],[92,34]]
 |_=>[[34],[34]]
noncomputable def iG(cs:List Int)(p:Nat):Nat:=(((cs.getD p 0).fdiv 60).fmod 7).toNat
noncomputable def s_(m:List Nat)(p:Nat):U:=if p<m.getD p 0 then [40] else [41]
noncomputable def UX(l:List U):Bool:=l.head?==some [34]
noncomputable def eJ(m:List Nat)(cs:List Int)(sh:Bool)(p:Nat):List U:=(if sh&&UX (o5 (iG cs p)) then [] else o5 (iG cs p))++[s_ m p]
noncomputable def units(m:List Nat)(cs:List Int)(sh:Bool)(pl:List Nat):List U:=pl.flatMap (eJ m cs sh)
noncomputable def me:PyData:=.list ((yw 7).map λi=>.list (uL (o5 i)))
noncomputable def Fi(M C:PyData)(V:AV)(sh:Bool)(pieces picked:Option AV):d0:=[some V,some (.d M),some (.d C),some (.d (.bool sh)),pieces,picked]
theorem Hl{M C:PyData}:Hf [some V,some (.d M),some (.d C),some (.d (.bool sh)),none,none] μ=some (.next,Fi M C V sh (some (.d me)) none,μ):=rfl
noncomputable def fT(m:List Nat)(cs:List Int)(p:Nat):PyData:=.tuple [.list (uL (o5 (iG cs p))),uS (s_ m p)]
noncomputable def Sg(m:List Nat)(cs:List Int):PyData→PyData
 | .int i=>fT m cs i.toNat
 |x=>x
theorem js(cs:List Int)(p:Nat):iG cs p<7:=by
 unfold iG;have h0:0≤((cs.getD p 0).fdiv 60).fmod 7:=F8 _ (by decide);have h7:((cs.getD p 0).fdiv 60).fmod 7<7:=Il _ (by decide);lia
theorem HW{pl:List Nat}{g:Option Nat}(hm:m.length=6)(hc:cs.length=6)(hp:∀p∈pl,p<6)(hz:pl.length≤1000)
  (hi:aK false (a9 0) (Fi (.list (nL m)) (.list (iL cs)) V sh (some (.d me)) none) μ=some (nL pl,g,μ)) (hg:cu g (nL pl) μ):
  IR (Fi (.list (nL m)) (.list (iL cs)) V sh (some (.d me)) none) μ=some (.next,Fi (.list (nL m)) (.list (iL cs)) V sh (some (.d me)) (some (.d (.list (pl.map (fT m cs))))),μ):=by
 have hcm:=iw (sc:=lD) (e:=cX [(aF (a9 4) (aj (aj (aF (a9 2) (a9 6)) (kI 60) (aS cN)) (kI 7) (aS cq))),(dx (bC (aF (a9 1) (a9 6)) (a9 6) (ef λx y=>decide (y<x))) (kS "(") (kS ")"))]) 6 (Sg m cs) hi hg (λx hx=>by
  refine au (DG.mp hx) λp hpm zq2=>?_;subst zq2;have h6:=hp p hpm;have e1:aF (a9 2) (a9 6) ((bG lD (Fi (.list (nL m)) (.list (iL cs)) V sh (some (.d me)) none)).set 6 (some (.d (.int (p:Int))))) μ=some (.d (.int (cs.getD p 0)),μ):=
   cH (f:=a9 2) (V:=.d (.list (iL cs))) (k:=p) rfl rfl rfl (by lia) (by refine rA (Fa _) ?_;simp [iL,Fe (hc.symm▸h6:p<cs.length)]) (by refine rA (xG _) ?_;exact aa (by lia))
  have e2:=cV (cV e1 (rfl:kI 60 _ _=some (.d (.int 60),_)) (kP (by decide))) (rfl:kI 7 _ _=some (.d (.int 7),_)) (fj (by decide));have h0:0≤((cs.getD p 0).fdiv 60).fmod 7:=F8 _ (by decide);have hq:=js cs p;have e3:=cH (f:=a9 4) (V:=.d me) (xs:=(yw 7).map λi=>.list (uL (o5 i))) (d:=.list (uL (o5 (iG cs p)))) rfl e2 rfl h0 (by
   show ((yw 7).map λi=>NZ (uL (o5 i)))[iG cs p]? =_
   rw [Gi,O1 hq];rfl) (by refine rA (xG _) ?_;refine rA IN ?_;exact aa (by decide))
  have e4:aF (a9 1) (a9 6) ((bG lD (Fi (.list (nL m)) (.list (iL cs)) V sh (some (.d me)) none)).set 6 (some (.d (.int (p:Int))))) μ=some (.d (.int (m.getD p 0)),μ):=
   cH (f:=a9 1) (V:=.d (.list (nL m))) (k:=p) rfl rfl rfl (by lia) (by refine rA (Fa _) ?_;exact tQ (by lia)) (by rw [nL];refine rA (xG _) ?_;exact aa (by lia))
  have e5:bC (aF (a9 1) (a9 6)) (a9 6) (ef λx y=>decide (y<x)) ((bG lD (Fi (.list (nL m)) (.list (iL cs)) V sh (some (.d me)) none)).set 6 (some (.d (.int (p:Int))))) μ=some (decide ((p:Int)< (m.getD p 0:Nat)),μ):=dF e4 (rfl:a9 6 _ _=some (.d (.int p),_)) rfl;have e6:dx (bC (aF (a9 1) (a9 6)) (a9 6) (ef λx y=>decide (y<x))) (kS "(") (kS ")") ((bG lD (Fi (.list (nL m)) (.list (iL cs)) V sh (some (.d me)) none)).set 6 (some (.d (.int (p:Int))))) μ=some (.d (uS (s_ m p)),μ):=by
   unfold s_
   by_cases z:p<m.getD p 0
   ·rw [decide_eq_true (show (p:Int)< (m.getD p 0:Nat) by lia)] at e5
    refine rA (wk e5) ?_;refine rA (if_pos z) ?_;rfl
   ·rw [decide_eq_false (show ¬ (p:Int)< (m.getD p 0:Nat) by lia)] at e5
    refine rA (sL e5) ?_;refine rA (if_neg z) ?_;rfl
  exact d7 (ds:=[.list (uL (o5 (iG cs p))),uS (s_ m p)]) (an e3 (an e6 bW)) (aa (xF rfl))) (by rw [nL];refine rA (xG _) ?_;exact aa (by lia))
 rw [show (nL pl).map (Sg m cs)=pl.map (fT m cs) by rw [nL,ER];rfl] at hcm
 exact jv hcm
noncomputable abbrev Ry(M C:PyData)(V:AV)(sh:Bool)(K:PyData)(a b c:Option AV):d0:=[some V,some (.d M),some (.d C),some (.d (.bool sh)),some (.d me),some (.d K),a,b,c]
abbrev pcE:EF:=dx (FO (gu (a9 3)) (bC (cc (a9 6) ba (aL (kI 1))) (aV [(kS "\"")]) dH)) (aV []) (a9 6)
theorem KD(hq:q<7):dH (.d (.list (uL ((o5 q).take 1)))) (.d (.list [.str "\""])) μ=some (UX (o5 q)):=by
 match q,hq with
 |0,_=>kernel_rfl
 |1,_=>kernel_rfl
 |2,_=>kernel_rfl
 |3,_=>kernel_rfl
 |4,_=>kernel_rfl
 |5,_=>kernel_rfl
 |6,_=>kernel_rfl
theorem ad0{M C:PyData}{K:PyData}{s c:Option AV}(hq:q<7):pcE (Ry M C V sh K (some (.d (.list (uL (o5 q))))) s c) μ=some (.d (.list (uL (if sh&&UX (o5 q) then [] else o5 q))),μ):=by
 cases sh with
 |false=>exact (sL (Yo (nD (V:=.d (.bool false)) rfl rfl))).trans rfl
 |true=>
  have hv:gu (a9 3) (Ry M C V true K (some (.d (.list (uL (o5 q))))) s c) μ=some (true,μ):=nD (V:=.d (.bool true)) rfl rfl;have hc:bC (cc (a9 6) ba (aL (kI 1))) (aV [(kS "\"")]) dH (Ry M C V true K (some (.d (.list (uL (o5 q))))) s c) μ=some (UX (o5 q),μ):=by
   have hs:cc (a9 6) ba (aL (kI 1)) (Ry M C V true K (some (.d (.list (uL (o5 q))))) s c) μ=some (.d (.list (uL ((o5 q).take 1))),μ):=by
    match q,hq with
    |0,_=>rfl
    |1,_=>rfl
    |2,_=>rfl
    |3,_=>rfl
    |4,_=>rfl
    |5,_=>rfl
    |6,_=>rfl
   exact dF hs (jR (f:=kS "\"") rfl) (KD hq)
  have ha:=(Zd (t':=bC (cc (a9 6) ba (aL (kI 1))) (aV [(kS "\"")]) dH) hv).trans hc;cases hqq:UX (o5 q) with
  |true=>rw [hqq] at ha;exact (wk ha).trans tu
  |false=>rw [hqq] at ha;exact (sL ha).trans rfl
noncomputable def TG:List PyData→Bool
 | .str x::_=>x.cps.toList==[34]
 |_=>false
theorem Oz(l:List U):TG (uL l)=UX l:=by
 cases l with
 |nil=>rfl
 |cons u l=>
  refine (?_:(u.toArray.toList==[34])=(some u==some [34]));refine rA (show u.toArray.toList=u by simp) ?_;rfl
noncomputable def Ai(sh:Bool):PyData→List PyData
 | .tuple [.list ps,s]=>(if sh&&TG ps then [] else ps)++[s]
 |_=>[]
theorem B3(m:List Nat)(cs:List Int)(sh:Bool)(p:Nat):Ai sh (fT m cs p)=uL (eJ m cs sh p):=by
 refine (?_:(if sh&&TG (uL (o5 (iG cs p))) then [] else uL (o5 (iG cs p)))++[uS (s_ m p)]=_);refine rA (Oz _) ?_;rw [eJ,uL,uL];refine rA Jz ?_
 split<;>rfl
theorem Be(q:Nat):(o5 q).length≤4:=by
 match q with
 |0=>decide
 |1=>decide
 |2=>decide
 |3=>decide
 |4=>decide
 |5=>decide
 | (n+6)=>exact (by decide:2≤4)
theorem zj(m:List Nat)(cs:List Int)(sh:Bool)(p:Nat):(eJ m cs sh p).length≤5:=by
 unfold eJ
 have:=Be (iG cs p)
 refine rA be ?_;refine rA Gp ?_
 split
 ·simp
 ·lia
theorem hZ(m:List Nat)(cs:List Int)(sh:Bool):∀pl:List Nat,(units m cs sh pl).length≤5*pl.length
 | []=>by simp [units]
 |p::pl=>by
  have h1:=zj m cs sh p;have h2:=hZ m cs sh pl;simp only [units,Fb,be,AO] at h2⊢
  lia
theorem tw(m:List Nat)(cs:List Int)(sh:Bool):∀pl:List Nat,(pl.map (fT m cs)).flatMap (Ai sh)=uL (units m cs sh pl)
 | []=>rfl
 |p::pl=>by
  refine rA ET ?_;refine rA Fb ?_;refine rA (tw m cs sh pl) ?_;refine rA (B3 _ _ _ _) ?_
  simp [units,uL]
theorem Iu{pl:List Nat}{M C:PyData}(hz:pl.length≤1000):
  F_ (Fi M C V sh (some (.d me)) (some (.d (.list (pl.map (fT m cs)))))) μ=some (.ret (.d (.list (uL (units m cs sh pl)))),Fi M C V sh (some (.d me)) (some (.d (.list (pl.map (fT m cs))))),μ):=by
 have hi:aK true (a9 5) (Fi M C V sh (some (.d me)) (some (.d (.list (pl.map (fT m cs)))))) μ=some (pl.map (fT m cs),none,μ):=AB (V:=.d (.list (pl.map (fT m cs)))) rfl rfl (pF λzz=>⟨_,rfl⟩);have hul:=hZ m cs sh pl;have hcm:=vL (sc:=Ag) (tf:=jc 6 7) (cf:=cU bg (gf (aK false (aj pcE (aV [(a9 7)]) aT)) (du 8) (cU bg (aY (a9 8))))) hi (az _ _) (λρ=>∃a b c,ρ=Ry M C V sh (.list (pl.map (fT m cs))) a b c) (Ai sh) (jE none none none rfl) (λx hx ρ hρ acc hacc=>by
  refine au (DG.mp hx) λp hp zq2=>?_;subst zq2;refine jD hρ λa b c zq3=>?_;subst zq3;have hadd:=cS (ad0 (M:=M) (C:=C) (V:=V) (sh:=sh) (K:=.list (pl.map (fT m cs))) (s:=some (.d (uS (s_ m p)))) (c:=c) (μ:=μ) (js cs p)) (jR (f:=a9 7) (d:=uS (s_ m p)) rfl) rfl rfl (aa (by
   have:=Be (iG cs p)
   refine rA Gp ?_;rw [uL];refine rA (xG _) ?_
   split
   ·simp
   ·lia))
  have hl:uL (if sh&&UX (o5 (iG cs p)) then [] else o5 (iG cs p))++[uS (s_ m p)]=Ai sh (fT m cs p):=by
   refine rA (B3 _ _ _ _) ?_;rw [eJ,uL,uL];refine rA Jz ?_;rfl
  rw [hl] at hadd
  obtain ⟨ρ',⟨w,hw⟩,hf⟩:=nI (tf:=du 8) (cf:=cU bg (aY (a9 8))) (μ:=μ) (xs:=Ai sh (fT m cs p)) (az _ _) (λρ=>∃w,ρ=Ry M C V sh (.list (pl.map (fT m cs))) (some (.d (.list (uL (o5 (iG cs p)))))) (some (.d (uS (s_ m p)))) w) (λx=>[x]) (Ai sh (fT m cs p)) _ acc ⟨c,rfl⟩ (λy zz ρ hρ acc hacc=>by
   refine bP hρ λw zq1=>?_;subst zq1;exact (BW _ _ rfl (oU (d:=y) rfl acc hacc) _ rfl)) (by simpa [fF] using hacc)
  rw [fF,TJ] at hf
  subst hw;refine (D_ (Ry M C V sh (.list (pl.map (fT m cs))) (some (.d (.list (uL (o5 (iG cs p)))))) (some (.d (uS (s_ m p)))) c) (Ry M C V sh (.list (pl.map (fT m cs))) (some (.d (.list (uL (o5 (iG cs p)))))) (some (.d (uS (s_ m p)))) w) rfl ?_ _ _ _ rfl);refine Lz K5 ?_;refine Lz (vo (d6 (V:=.d (.list (Ai sh (fT m cs p)))) hadd rfl)) ?_;exact hf) (by refine rA (tw _ _ _ _) ?_;rw [uL];refine rA (xG _) ?_;exact aa (by lia))
 rw [tw] at hcm
 exact dZ (bY hcm)
theorem s67{pl:List Nat}{g:Option Nat}(hm:m.length=6)(hc:cs.length=6)(hp:∀p∈pl,p<6)(hz:pl.length≤1000)
  (hi:aK false (a9 0) (Fi (.list (nL m)) (.list (iL cs)) V sh (some (.d me)) none) μ=some (nL pl,g,μ)) (hg:cu g (nL pl) μ):
  bB [V,.d (.list (nL m)),.d (.list (iL cs)),.d (.bool sh)] μ=some (.d (.list (uL (units m cs sh pl))),μ):=by
 have:f67 (cC (ao (ay 67)) [V,.d (.list (nL m)),.d (.list (iL cs)),.d (.bool sh)]) μ=_:=(aB Hl).trans ((aB (HW hm hc hp hz hi hg)).trans (cT (Iu hz)))
 unfold bB;refine Lz (cZ (k:=4) rfl this) ?_;exact rA (F7 (DI _)) rfl
theorem ac7{pl:List Nat}(hm:m.length=6)(hc:cs.length=6)(hp:∀p∈pl,p<6)(hz:pl.length≤1000):
 bB [.d (.list (nL pl)),.d (.list (nL m)),.d (.list (iL cs)),.d (.bool sh)] μ=some (.d (.list (uL (units m cs sh pl))),μ):=s67 hm hc hp hz (d6 (V:=.d (.list (nL pl))) rfl rfl) (az _ _)
theorem RB(hm:m.length=6)(hc:cs.length=6):
 bB [.rng 0 6,.d (.list (nL m)),.d (.list (iL cs)),.d (.bool sh)] μ=some (.d (.list (uL (units m cs sh (yw 6)))),μ):=s67 (pl:=yw 6) hm hc (λp hp=>D3.mp hp) (by decide) rfl (az _ _)
noncomputable def tS(l:List Nat):Str:=⟨l.toArray⟩
theorem eA(l:List Nat):(tS l).length=l.length:=by simp [tS,Str.length]
theorem fR(l:List Nat):(tS l).cps.toList=l:=by simp [tS]
noncomputable def wf:U→Bool
 | [c]=>c != 92
 | [a,_]=>a==92
 |_=>false
theorem HI:∀ {u:U},wf u=true→(∃c,u=[c]∧c≠92)∨∃c,u=[92,c]
 | [c],h=>.inl ⟨c,rfl,bne_iff_ne.mp h⟩
 | [a,c],h=>.inr ⟨c,by exact rA (show a=92 from beq_iff_eq.mp h) rfl⟩
noncomputable def l6:Nat→List U→List PyData
 |_,[]=>[]
 |k,u::r=>.tuple [.int ((k+u.length:Nat)-1),uS u]::l6 (k+u.length) r
theorem tj:∀ (us:List U) (k:Nat) (tail:List Nat),(us.all wf)=true→eh (us.flatten++tail) k false=l6 k us++eh tail (k+us.flatten.length) false
 | [],k,tail,_=>by simp [l6]
 |u::us,k,tail,h=>by
  simp only [Ml,EZ] at h
  have ih:=tj us (k+u.length) tail h.2
  rcases HI h.1 with ⟨c,rfl,hc⟩| ⟨c,rfl⟩
  ·refine rA Gv ?_;refine rA (E9 _ _ _) ?_;refine rA RK ?_;rw [eh];refine rA (if_neg hc) ?_;refine rA be ?_
   simp only [Gp] at ih⊢
   refine rA ih ?_;rw [l6];refine rA KV ?_;refine rA Gp ?_;refine rB (QZ _ _ _) ?_
   congr 3
   simp
  ·refine rA Gv ?_;refine rA (E9 _ _ _) ?_
   refine (?_:eh (92::c::(us.flatten++tail)) k false=_);rw [eh];refine rA (if_pos rfl) ?_;rw [eh];simp only [AO,EQ,Ln,Nat.reduceAdd] at ih
   refine rA (show k+1+1=k+2 from rfl) ?_;refine rA ih ?_;rw [l6];refine rA KV ?_;refine rA be ?_;simp only [AO,EQ,Ln,Nat.reduceAdd];refine rB (QZ _ _ _) ?_
   congr 3
   congr 1
   lia
theorem zb{us:List U}(hf:f ρ μ=some (.d (.str (tS us.flatten)),μ))(hw:us.all wf=true):b_ [f] aE ρ μ=some (l6 0 us,none,μ):=by
 have:=tj us 0 [] hw
 simp only [DB] at this
 refine (b5 (xg hf)).trans (congrArg (λl=>some (l,none,μ)) ?_);rw [fR,this];exact DB _
theorem T8(u:U)(c:Nat):((tS u)==(⟨#[c]⟩:Str))=decide (u=[c]):=by
 by_cases h:u=[c]
 ·subst h
  refine rA (decide_eq_true rfl) ?_;exact beq_self_eq_true _
 ·refine rA (decide_eq_false h) ?_;refine rA (propext (beq_eq_false_iff_ne)) ?_
  intro q
  have:=congrArg (λs:Str=>s.cps.toList) q
  simp [tS] at this
  exact h this
theorem BZ{u:U}{c:Nat}(hf:f ρ μ=some (.d (uS u),μ))(hg:g ρ μ=some (.d (.str ⟨#[c]⟩),μ)):bC f g dH ρ μ=some (decide (u=[c]),μ):=
 (dF hf hg rfl).trans (by refine rB (T8 _ _) ?_;rfl)
theorem JK(l:List Nat){a:Nat}(hab:a≤b)(hb:b≤l.length):oJ (tS l) (some (a:Int)) (some (b:Int))=tS ((l.drop a).take (b-a)):=by
 unfold oJ;refine rA (eA _) ?_;refine rA (StrLaws.strSliceIndices_plain hab hb) ?_
 split
 ·rename_i h
  simp only [xG,IN,beq_iff_eq] at h
  have h0:a=0:=by lia
  have h1:b=l.length:=by lia
  subst h0 h1
  simp
 ·have:=StrLaws.picks l (b-a) a (by lia)
  unfold tS
  congr 2
  simpa using this
theorem HM{a len:Nat}:Jo (some (a:Int)) none 1 len=Jo (some (a:Int)) (some (len:Int)) 1 len:=by
 have h1:¬ ((len:Int)<0):=by lia
 have e1:max (0:Int) (min (len:Int) (len:Int))=len:=by lia
 simp only [Jo,h1,if_false,e1,show ((1:Int)>0)=True from by simp,if_true]
theorem NL(l:List Nat){a:Nat}(ha:a≤l.length):oJ (tS l) (some (a:Int)) none=tS (l.drop a):=by
 have:=JK l ha (DI _)
 unfold oJ at this⊢
 rw [eA] at this⊢
 refine rA HM ?_;refine rA this ?_;exact rA (F7 (by rw [Rg];exact DI _)) rfl
theorem B9:∀us:List U,n9 (uL us)=some (us.map tS)
 | []=>rfl
 |u::us=>by
  exact (bV (rfl:dS (uS u)=some (tS u))).trans (bV (B9 us))
theorem Kd:∀us:List U,U8 "" (us.map tS)=tS us.flatten
 | []=>rfl
 | [u]=>by simp [U8,tS]
 |u::v::us=>by
  have ih:=Kd (v::us);refine (?_:tS u++("":Str)++U8 "" ((v::us).map tS)=_);refine rA ih ?_;apply UP;refine rA (P4 _ _) ?_;refine rA (P4 _ _) ?_;have e0:(JI "").cps= #[]:=by decide
  simp [tS,e0]
theorem mj{us:List U}(hf:f ρ μ=some (V,μ))(hp:da μ V=some (uL us))(hz:us.flatten.length≤100000):dv (kS "") [f] fc ρ μ=some (.d (.str (tS us.flatten)),μ):=by
 have hs:((us.map tS).map (·.length)).sum=us.flatten.length:=by
  refine rA ER ?_;refine rA List.length_flatten ?_
  congr 1
 refine (Cp hf hp (B9 us) (by rw [hs,show ("":Str).length=0 from rfl];lia)).trans ?_;refine (?_:some (AV.d (.str (Builtin.Str.glued "" (us.map tS))),μ)=_);refine rA (RM _ _) ?_;exact rA (Kd _) rfl
theorem AR{p q:PF}{l:List Nat}{lo hi:Option Int}{l':List Nat}(hf:f ρ μ=some (.d (.str (tS l)),μ))(hp:p ρ μ=some (lo,μ))(hq:q ρ μ=some (hi,μ))(h:oJ (tS l) lo hi=tS l')(hz:l.length≤100000)(hz':l'.length≤100000):cc f p q ρ μ=some (.d (.str (tS l')),μ):=by
 exact (b5 hf).trans ((b5 hp).trans ((b5 hq).trans ((oO (rfl:mz (.d (.str (tS l)))=some (tS l)) rfl).trans ((if_pos ⟨by rw [eA];exact aa hz,by rw [h,eA];exact aa hz'⟩).trans (by rw [h])))))
def WF(vs:List U):Prop:=∃us t,vs=us++t∧us.all wf=true∧(t=[]∨t=[[92]])
theorem B5:∀ (us:List U) (k:Nat) (t:List U),l6 k (us++t)=l6 k us++l6 (k+us.flatten.length) t
 | [],k,t=>by simp [l6]
 |u::us,k,t=>by
  simp only [KV,l6,B5 us,Gv,be,QZ]
theorem oX{vs:List U}(hf:f ρ μ=some (.d (.str (tS vs.flatten)),μ))(hw:WF vs):b_ [f] aE ρ μ=some (l6 0 vs,none,μ):=by
 refine bq hw λus t zq2 h q=>?_;subst zq2
 rcases q with rfl|rfl
 ·rw [DB] at hf⊢;exact zb hf h
 ·have e:=tj us 0 [92] h
  refine (b5 (xg hf)).trans (congrArg (λl=>some (l,none,μ)) ?_);simp only [fR,Lx,Gv,LH,DB,B5];refine rA e ?_;simp only [eh,l6,AO,EQ,uS,Ln];have h0:(((us.flatten.length+1:Nat):Int)-1)=(us.flatten.length:Int):=by lia
  refine rA (if_pos trivial) ?_;exact rA h0 rfl
noncomputable def clean:Option (List U)→List U→List U
 |none,[]=>[]
 |some q,[]=>[34]::q
 |none,u::r=>if u=[34] then clean (some []) r else u::clean none r
 |some q,u::r=>if u=[34] then clean none r else clean (some (q++[u])) r
noncomputable def jy:Option (List U)→List Nat
 |none=>[]
 |some q=>34::q.flatten
noncomputable def opV:Option (List U)→Nat→AV
 |none,_=>.d .none
 |some _,k=>.d (.int k)
noncomputable def R2(t:List Nat)(st:Nat)(op:AV)(i:Nat)(a b:Option AV):d0:=[some (.d (.str (tS t))),some (.d (.int st)),some op,some (.c i),a,b]
abbrev Q8:SF:=(ap (jC (bC (a9 1) (a9 2) po) (ap (ci (d_ (a9 3) (cc (a9 0) (aL (a9 1)) (aL (a9 2))))) aP) aP) (ap (c6 1 (aj (a9 4) (kI 1) aT)) (ap (c6 2 kN) aP)))
abbrev RL:SF:=(ap (jC (bC (a9 5) (kS "\"") dH) (ap (jC (bC (a9 2) kN L6) (ap (c6 2 (a9 4)) aP) Q8) aP) aP) aP)
theorem neI{x:Int}(hf:f ρ μ=some (.d (.int x),μ))(hg:g ρ μ=some (.d (.int y),μ)):bC f g po ρ μ=some (!(x==y),μ):=dF hf hg rfl
theorem dD{x:Int}(hf:f ρ μ=some (.d (.int x),μ)):aL f ρ μ=some (some x,μ):=by
 exact b5 hf
theorem NC{t:List Nat}{st:Nat}{b:Option AV}{op:Nat}{Ws Ws':List U}(hc:μ[i]? =some (.live (uL Ws)))(ht:t.length≤100000)(h1:st≤op)(h2:op≤t.length)(hl:Ws.length≤1000)
  (hw:Ws'=if st=op then Ws else Ws++[(t.drop st).take (op-st)]):
  Q8 (R2 t st (.d (.int op)) i (some (.d (.int k))) b) μ=some (.next,R2 t (k+1) (.d .none) i (some (.d (.int k))) b,μ.set i (.live (uL Ws'))):=by
 have e1:(jC (bC (a9 1) (a9 2) po) (ap (ci (d_ (a9 3) (cc (a9 0) (aL (a9 1)) (aL (a9 2))))) aP) aP) (R2 t st (.d (.int op)) i (some (.d (.int k))) b) μ=some (.next,R2 t st (.d (.int op)) i (some (.d (.int k))) b,μ.set i (.live (uL Ws'))):=by
  by_cases q:st=op
  ·rw [if_pos q] at hw
   subst hw;refine rA (D4 (μ1:=μ) ((neI (x:=st) (y:=op) rfl rfl).trans (by simp [q]))) ?_;refine rA (eD hc) ?_;exact bK
  ·rw [if_neg q] at hw
   subst hw;have q':¬ ((st:Int)=(op:Int)):=by lia
   refine rA (yu (μ1:=μ) ((neI (x:=st) (y:=op) rfl rfl).trans (by simp [q']))) ?_;refine rA (aB (eB (gt (j:=i) (d:=uS ((t.drop st).take (op-st))) rfl (AR (l:=t) rfl (dD rfl) (dD rfl) (JK t h1 h2) ht (by rw [LF];lia)) hc (aa (by simp [uL];lia))))) ?_;refine rA bK ?_
   simp [uL]
 refine (aB e1).trans ?_;refine rA (aB (bO (cR (x:=k) (y:=1) rfl rfl))) ?_;refine rA (aB (bO rfl)) ?_;rfl
theorem QW{u:U}(h:a9 n ρ μ=some (.d (uS u),μ)):bC (a9 n) (kS "\"") dH ρ μ=some (decide (u=[34]),μ):=BZ h rfl
theorem FW(h:a9 n ρ μ=some (.d (uS [34]),μ)):bC (a9 n) (kS "\"") dH ρ μ=some (true,μ):=(QW h).trans (by simp)
theorem wM{t:List Nat}(ht:t.length≤100000)(xs:List PyData)(i:Nat)(μ0:List ah)(hi:i=μ0.length):∀ (r:List U) (op:Option (List U)) (P C:List Nat) (Ws:List U) (a b:Option AV),
  t=P++C++jy op++r.flatten→Ws.length+r.length≤1000→Ws.flatten.length≤P.length→
  ∃ (op':AV) (P' C':List Nat) (Ws':List U) (a' b':Option AV),t=P'++C'∧Ws'.length≤1000∧Ws'.flatten.length≤P'.length∧Ws'.flatten++C'=Ws.flatten++C++(clean op r).flatten∧
   fN (jc 4 5) RL aP none xs (l6 (P.length+C.length+(jy op).length) r) (R2 t P.length (opV op (P.length+C.length)) i a b) (μ0++[.live (uL Ws)])=some (.next,R2 t P'.length op' i a' b',μ0++[.live (uL Ws')])
 | [],none,P,C,Ws,a,b,h,hn,hw=>(eK _ P C Ws a b (by simpa [jy] using h) (by simpa using hn) hw (by simp [clean]) rfl)
 | [],some q,P,C,Ws,a,b,h,hn,hw=>(eK _ P (C++jy (some q)) Ws a b (by simpa [jy] using h) (by simpa using hn) hw (by simp [clean,jy]) rfl)
 |u::r,op,P,C,Ws,a,b,h,hn,hw=>by
  simp only [AO] at hn
  have hcell:(μ0++[ah.live (uL Ws)])[i]? =some (.live (uL Ws)):=by subst hi;exact dp
  generalize hk:P.length+C.length+(jy op).length=k;have hk1:((k+u.length:Nat):Int)-1=((k+u.length-1:Nat):Int)∨u=[]:=by
   cases u with
   |nil=>exact .inr rfl
   |cons c l=>left;simp only [AO];lia
  by_cases hu:u=[34]
  ·subst hu
   have hk2:((k+([34]:U).length:Nat):Int)-1=(k:Int):=by simp
   cases op with
   |none=>
    have hk0:k=P.length+C.length:=by simpa [jy] using hk.symm
    refine gX (wM ht xs i μ0 hi r (some []) P C Ws (some (.d (.int k))) (some (.d (uS [34]))) (by simpa [jy] using h) (by lia) hw) λop' P' C' Ws' a' b' g1 g2 g3 g4 g5=>?_;refine (eK op' P' C' Ws' a' b' g1 g2 g3 (by simpa [clean] using g4) ?_);rw [l6];refine rA hk2 ?_;refine Lz (dK (ρ1:=R2 t P.length (.d .none) i (some (.d (.int k))) (some (.d (uS [34])))) rfl ?_ (az _ _)) (by
     have e:P.length+C.length+(jy (some ([]:List U))).length=k+([34]:U).length:=by simp [jy,hk0]
     rw [e] at g5
     exact g5)
    refine (aB (ρ1:=R2 t P.length (.d (.int k)) i (some (.d (.int k))) (some (.d (uS [34])))) (μ1:=μ0++[ah.live (uL Ws)]) ?_).trans ?_
    rotate_left
    ·refine rA bK ?_
     simp only [opV,hk0]
    ·refine rA (yu (μ1:=μ0++[ah.live (uL Ws)]) (FW rfl)) ?_;rw [aB (ρ1:=R2 t P.length (.d (.int k)) i (some (.d (.int k))) (some (.d (uS [34])))) (μ1:=μ0++[ah.live (uL Ws)])]
     ·exact bK
     ·refine rA (yu (μ1:=μ0++[ah.live (uL Ws)]) (dF (V:=.d .none) (W:=.d .none) rfl rfl rfl)) ?_;refine rA (aB (bO rfl)) ?_
      rfl
   |some q=>
    have hk0:k=P.length+C.length+(q.flatten.length+1):=by simpa [jy] using hk.symm
    have ht2:t.length=P.length+C.length+(q.flatten.length+1)+(1+r.flatten.length):=by refine rA h ?_;simp [jy];lia
    have hd:(t.drop P.length).take (P.length+C.length-P.length)=C:=by
     refine rA h ?_;refine rA (E9 _ _ _) ?_;refine rA (E9 _ _ _) ?_;refine rA Q7 ?_;refine rA (KO _ _) ?_;exact rA P5 rfl
    obtain ⟨op',P',C',Ws',a',b',g1,g2,g3,g4,g5⟩:=wM ht xs i μ0 hi r none (P++C++jy (some q)++[34]) [] (if P.length=P.length+C.length then Ws else Ws++[C]) (some (.d (.int k))) (some (.d (uS [34])))
     (by refine rA h ?_;simp [jy]) (by split<;>(try simp only [be,AO,EQ])<;>lia) (by split<;>simp only [jy,Lx,Gv,LH,be,AO,EQ,DB]<;>lia)
    have hC:(if P.length=P.length+C.length then Ws else Ws++[C]).flatten=Ws.flatten++C:=by
     split
     ·have:C=[]:=List.eq_nil_of_length_eq_zero (by lia)
      simp [this]
     ·simp
    refine (eK op' P' C' Ws' a' b' g1 g2 g3 (by refine rA g4 ?_;refine rA hC ?_;simp [clean]) ?_);rw [l6];refine rA hk2 ?_;have hP:(P++C++jy (some q)++[34]).length=k+1:=by simp [jy,hk0];lia
    refine Lz (dK (ρ1:=R2 t P.length (.d (.int ((P.length+C.length:Nat):Int))) i (some (.d (.int k))) (some (.d (uS [34])))) rfl ?_ (az _ _)) (by
     have e:(P++C++jy (some q)++[34]).length+([]:List Nat).length+(jy (none:Option (List U))).length=k+([34]:U).length:=by refine rA hP ?_;simp [jy]
     rw [e,hP] at g5
     exact g5)
    have hcl:=NC (t:=t) (st:=P.length) (k:=k) (i:=i) (b:=some (.d (uS [34]))) (μ:=μ0++[ah.live (uL Ws)]) (op:=P.length+C.length) (Ws:=Ws) (Ws':=if P.length=P.length+C.length then Ws else Ws++[C]) hcell ht (by lia) (by lia) (by lia) (by exact rA hd rfl);refine (aB (ρ1:=R2 t (k+1) (.d .none) i (some (.d (.int k))) (some (.d (uS [34])))) (μ1:=μ0++[ah.live (uL (if P.length=P.length+C.length then Ws else Ws++[C]))]) ?_).trans ?_
    rotate_left
    ·refine rA bK ?_;rfl
    ·refine rA (yu (μ1:=μ0++[ah.live (uL Ws)]) (FW rfl)) ?_;rw [aB (ρ1:=R2 t (k+1) (.d .none) i (some (.d (.int k))) (some (.d (uS [34])))) (μ1:=μ0++[ah.live (uL (if P.length=P.length+C.length then Ws else Ws++[C]))])]
     ·exact bK
     ·refine rA (D4 (μ1:=μ0++[ah.live (uL Ws)]) (dF (V:=.d (.int ((P.length+C.length:Nat):Int))) (W:=.d .none) rfl rfl rfl)) ?_;refine rA hcl ?_
      exact rA (show (μ0++[ah.live (uL Ws)]).set i (.live (uL (if P.length=P.length+C.length then Ws else Ws++[C])))=μ0++[ah.live (uL (if P.length=P.length+C.length then Ws else Ws++[C]))] by subst hi;exact fh) rfl
  ·have step:RL (R2 t P.length (opV op (P.length+C.length)) i (some (.d (.int (((k+u.length:Nat):Int)-1)))) (some (.d (uS u)))) (μ0++[.live (uL Ws)])=some (.next,R2 t P.length (opV op (P.length+C.length)) i (some (.d (.int (((k+u.length:Nat):Int)-1)))) (some (.d (uS u))),μ0++[.live (uL Ws)]):=by
    refine (aB ?_).trans bK;refine rA (D4 (μ1:=μ0++[ah.live (uL Ws)]) ((QW rfl).trans (by simp [hu]))) ?_;exact bK
   cases op with
   |none=>
    refine gX (wM ht xs i μ0 hi r none P (C++u) Ws (some (.d (.int (((k+u.length:Nat):Int)-1)))) (some (.d (uS u))) (by refine rA h ?_;simp [jy]) (by lia) hw) λop' P' C' Ws' a' b' g1 g2 g3 g4 g5=>?_;refine (eK op' P' C' Ws' a' b' g1 g2 g3 (by refine rA g4 ?_;rw [clean];refine rA (if_neg hu) ?_;simp) ?_);rw [l6];refine Lz (dK rfl step (az _ _)) ?_;have e:P.length+(C++u).length+(jy (none:Option (List U))).length=k+u.length:=by refine rB hk ?_;refine rA be ?_;simp [jy];lia
    rw [e] at g5
    exact g5
   |some q=>
    refine gX (wM ht xs i μ0 hi r (some (q++[u])) P C Ws (some (.d (.int (((k+u.length:Nat):Int)-1)))) (some (.d (uS u))) (by refine rA h ?_;simp [jy]) (by lia) hw) λop' P' C' Ws' a' b' g1 g2 g3 g4 g5=>?_;refine (eK op' P' C' Ws' a' b' g1 g2 g3 (by refine rA g4 ?_;rw [clean];exact rA (if_neg hu) rfl) ?_);rw [l6];refine Lz (dK rfl step (az _ _)) ?_;have e:P.length+C.length+(jy (some (q++[u]))).length=k+u.length:=by refine rB hk ?_;simp [jy];lia
    rw [e] at g5
    exact g5
theorem w7:∀ (vs:List U),(∀u∈vs,u≠[34])→clean none vs=vs
 | [],_=>rfl
 |u::r,h=>by
  rw [clean];refine rA (if_neg (h u (by simp))) ?_;exact rA (w7 r λv hv=>h v (by simp [hv])) rfl
theorem jZ(t:List U)(ht:t=[]∨t=[[92]]):∀ (us:List U) (op:Option (List U)),us.all wf=true→(∀q,op=some q→q.all wf=true)→∃X,clean op (us++t)=X++t∧X.all wf=true
 | [],none,_,_=>by
  rcases ht with rfl|rfl
  ·exact (aZ ([]) rfl rfl)
  ·exact (aZ ([]) (by decide) rfl)
 | [],some q,_,h=>by
  have hq:=h q rfl
  rcases ht with rfl|rfl
  ·exact (aZ ([34]::q) (by simp [clean]) hq)
  ·exact (aZ ([34]::q) (by simp [clean]) hq)
 |u::us,none,hu,_=>by
  simp only [Ml,EZ] at hu
  by_cases q:u=[34]
  ·refine au (jZ t ht us (some []) hu.2 (λq e=>by refine cA e ?_;rfl)) λX e w=>?_
   exact (aZ X (by refine rA KV ?_;rw [clean];refine rA (if_pos q) ?_;exact rA e rfl) w)
  ·refine au (jZ t ht us none hu.2 (λq e=>by exact ct e)) λX e w=>?_
   exact (aZ (u::X) (by refine rA KV ?_;rw [clean];refine rA (if_neg q) ?_;refine rA e ?_;rfl) (by simp [hu.1,w]))
 |u::us,some q,hu,h=>by
  simp only [Ml,EZ] at hu
  have hq:=h q rfl
  by_cases z:u=[34]
  ·refine au (jZ t ht us none hu.2 (λq e=>by exact ct e)) λX e w=>?_
   exact (aZ X (by refine rA KV ?_;rw [clean];refine rA (if_pos z) ?_;exact rA e rfl) w)
  ·refine au (jZ t ht us (some (q++[u])) hu.2 (λq' e=>by refine cA e ?_;simp [hq,hu.1])) λX e w=>?_
   exact (aZ X (by refine rA KV ?_;rw [clean];refine rA (if_neg z) ?_;exact rA e rfl) w)
theorem WF.clean{vs:List U}(h:WF vs):WF (clean none vs):=by
 refine bq h λus t zq2 hu ht=>?_;subst zq2;refine au (jZ t ht us none hu (λq e=>by exact ct e)) λX e w=>?_;exact (dw X t e w ht)
theorem kZ:∀ (vs:List U) (op:Option (List U)),(clean op vs).length≤vs.length+(match op with|none=>0|some q=>q.length+1)
 | [],none=>by simp [clean]
 | [],some q=>by simp [clean]
 |u::r,none=>by
  rw [clean];split
  ·have:=kZ r (some []);simp only [EQ] at this;simp only [AO];lia
  ·have:=kZ r none;simp only at this;simp only [AO];lia
 |u::r,some q=>by
  rw [clean];split
  ·have:=kZ r none;simp only at this;simp only [AO];lia
  ·have:=kZ r (some (q++[u]));simp only [be,AO,EQ] at this;simp only [AO];lia
theorem ik:∀ (vs:List U) (op:Option (List U)),(clean op vs).flatten.length≤vs.flatten.length+(jy op).length
 | [],none=>by simp [clean]
 | [],some q=>by simp [clean,jy]
 |u::r,none=>by
  rw [clean];split
  ·rename_i h;subst h;have:=ik r (some []);simp only [jy,LH,AO,EQ] at this;simp only [Gv,be,AO,EQ,jy];lia
  ·have:=ik r none;simp only [jy,EQ] at this;simp only [Gv,be,jy,EQ];lia
 |u::r,some q=>by
  rw [clean];split
  ·have:=ik r none;simp only [jy,EQ] at this;simp only [Gv,be,jy,AO];lia
  ·have:=ik r (some (q++[u]));simp only [jy,Lx,Gv,LH,be,AO,DB] at this;simp only [Gv,be,jy,AO];lia
theorem sO{t:List Nat}(hf:f ρ μ=some (.d (.str (tS t)),μ)):bC (kS "\"") f lB ρ μ=some (!decide (34∈t),μ):=by
 refine dF (V:=.d (.str ⟨#[34]⟩)) (W:=.d (.str (tS t))) rfl hf ?_
 have:=StrLaws.found_one (tS t) 34
 rw [fR] at this
 refine (?_:some (!(!(Ll (tS t) ⟨#[34]⟩ 0 (tS t).length 1).isEmpty))=_);exact rA this rfl
theorem ltI{x:Int}(hf:f ρ μ=some (.d (.int x),μ))(hg:g ρ μ=some (.d (.int y),μ)):bC f g (ef λx y=>decide (x<y)) ρ μ=some (decide (x<y),μ):=dF hf hg rfl
theorem gtI{x:Int}(hf:f ρ μ=some (.d (.int x),μ))(hg:g ρ μ=some (.d (.int y),μ)):bC f g (ef λx y=>decide (y<x)) ρ μ=some (decide (y<x),μ):=dF hf hg rfl
noncomputable def PP(t:List Nat):d0:=[some (.d (.str (tS t))),none,none,none,none,none]
theorem s2{vs:List U}(hw:WF vs)(hz:vs.flatten.length≤100000)(hn:vs.length≤1000):aM [.d (.str (tS vs.flatten))] μ=some (.d (.str (tS (clean none vs).flatten)),μ):=by
 by_cases h34:34∈vs.flatten
 ·refine gX (wM hz (l6 0 vs) μ.length μ rfl vs none [] [] [] none none (by simp [jy]) (by simpa using hn) (by simp)) λop' P' C' Ws' a' b' g1 g2 g3 g4 g5=>?_
  have e5:Nr (R2 vs.flatten P'.length op' μ.length a' b') (μ++[.live (uL Ws')])=some (.next,R2 vs.flatten P'.length op' μ.length a' b',μ++[.live (uL (if C'=[] then Ws' else Ws'++[C']))]):=by
   unfold Nr;have el:af [a9 0] dz (R2 vs.flatten P'.length op' μ.length a' b') (μ++[.live (uL Ws')])=some (.d (.int vs.flatten.length),μ++[.live (uL Ws')]):=by
    refine d4 (V:=.d (.str (tS vs.flatten))) rfl ?_;exact (len_str (by rw [eA];exact aa hz)).trans (by rw [eA])
   have hcm:=ltI (f:=a9 1) (g:=af [a9 0] dz) (ρ:=R2 vs.flatten P'.length op' μ.length a' b') (x:=P'.length) rfl el;have hl:vs.flatten.length=P'.length+C'.length:=by refine rA g1 ?_;exact rA be rfl
   by_cases q:C'=[]
   ·subst q
    refine rA (if_pos rfl) ?_;refine rA (gP hcm (by simp [hl])) ?_;exact rA bK rfl
   ·have:0<C'.length:=List.length_pos_iff.mpr q
    refine rA (if_neg q) ?_;refine rA (gB hcm (decide_eq_true (by lia))) ?_;refine (aB (eB (gt (j:=μ.length) (d:=uS C') rfl (AR (l:=vs.flatten) rfl (dD rfl) rfl (l':=C') ?_ hz (by lia)) dp (aa (by simp [uL];lia))))).trans ?_
    ·refine rA (NL _ (by lia)) ?_;refine rA g1 ?_;exact rA Q7 rfl
    ·refine rA bK ?_;refine rA fh ?_
     simp [uL]
  have e6:MN (R2 vs.flatten P'.length op' μ.length a' b') (μ++[.live (uL (if C'=[] then Ws' else Ws'++[C']))])=some (.ret (.d (.str (tS (clean none vs).flatten))),R2 vs.flatten P'.length op' μ.length a' b',μ++[.live (uL (if C'=[] then Ws' else Ws'++[C']))]):=by
   unfold MN;have hfl:(if C'=[] then Ws' else Ws'++[C']).flatten=(clean none vs).flatten:=by
    have:(if C'=[] then Ws' else Ws'++[C']).flatten=Ws'.flatten++C':=by split<;>simp_all
    refine rA this ?_;refine rA g4 ?_;simp
   have:=ik vs none
   simp only [jy,EQ] at this
   refine rA (dZ (mj (f:=a9 3) (V:=.c μ.length) (us:=if C'=[] then Ws' else Ws'++[C']) rfl (eP dp) (by rw [hfl];lia))) ?_;exact rA hfl rfl
  refine (cZ (ρ':=R2 vs.flatten P'.length op' μ.length a' b') (μ':=μ++[.live (uL (if C'=[] then Ws' else Ws'++[C']))]) (x:=.str (tS (clean none vs).flatten)) rfl ?_).trans (by exact rA ml rfl);refine (?_:f2 (PP vs.flatten) μ=_);unfold f2;have e0:Gk (PP vs.flatten) μ=some (.next,PP vs.flatten,μ):=by
   unfold Gk;refine rA (gP (sO (t:=vs.flatten) rfl) (by simp only [h34,decide_true,Q_])) ?_;exact bK
  have e1:Tn (PP vs.flatten) μ=some (.next,(PP vs.flatten).set 1 (some (.d (.int 0))),μ):=rfl;have e2:Uk ((PP vs.flatten).set 1 (some (.d (.int 0)))) μ=some (.next,[some (.d (.str (tS vs.flatten))),some (.d (.int 0)),some (.d .none),none,none,none],μ):=rfl;have e3:LZ [some (.d (.str (tS vs.flatten))),some (.d (.int 0)),some (.d .none),none,none,none] μ=some (.next,R2 vs.flatten 0 (.d .none) μ.length none none,μ++[.live []]):=by
   unfold LZ;refine rA (bO xf) ?_;rfl
  have e4:MD (R2 vs.flatten 0 (.d .none) μ.length none none) (μ++[.live []])=some (.next,R2 vs.flatten P'.length op' μ.length a' b',μ++[.live (uL Ws')]):=by
   unfold MD;refine rA (gI (oX (vs:=vs) rfl hw)) ?_;exact g5
  refine rA (aB e0) ?_;refine rA (aB e1) ?_;refine rA (aB e2) ?_;refine rA (aB e3) ?_;refine rA (aB e4) ?_;refine rA (aB e5) ?_;exact rA (cT e6) rfl
 ·refine (cZ (ρ':=PP vs.flatten) (μ':=μ) (x:=.str (tS vs.flatten)) rfl ?_).trans ?_
  ·refine (?_:f2 (PP vs.flatten) μ=_)
   unfold f2;refine cT ?_;unfold Gk;refine rA (gB (sO (t:=vs.flatten) rfl) (by simp only [h34,decide_false,UF])) ?_;exact cT (dZ rfl)
  ·refine rA LG ?_;exact rA (w7 vs λu hu q=>h34 (TV.mpr (aZ u hu (by simp [q])))) rfl
noncomputable def mI:Int→List U→Option Int
 |n,[]=>some n
 |n,u::r=>if u=[40] then mI (n+1) r else if u=[41] then (if n-1<0 then none else mI (n-1) r) else mI n r
noncomputable def LL(vs:List U):Bool:=match mI 0 (clean none vs) with
 |some m=>m==0
 |none=>false
noncomputable def R3(t:List Nat)(n:Int)(a b:Option AV):d0:=[some (.d (.str (tS t))),some (.d (.int n)),a,b]
abbrev ap7:SF:=(jC (bC (a9 3) (kS ")") dH) (ap (ie 1 (kI 1) Az) (ap (jC (bC (a9 1) (kI 0) (ef λx y=>decide (x<y))) (ap (e_ (kB false)) aP) aP) aP)) aP)
abbrev Qa:SF:=(ap (jC (bC (a9 3) (kS "(") dH) (ap (ie 1 (kI 1) AJ) aP) (ap ap7 aP)) aP)
theorem GY{u:U}(c:Nat){s:Str}(hs:s=⟨#[c]⟩)(h:a9 n ρ μ=some (.d (uS u),μ)):bC (a9 n) (kS s) dH ρ μ=some (decide (u=[c]),μ):=BZ h (by refine rA hs ?_;rfl)
theorem an6{t:List Nat}{n:Int}{a b:Option AV}:(ie 1 (kI 1) AJ) (R3 t n a b) μ=some (.next,R3 t (n+1) a b,μ):=rfl
theorem Yv{t:List Nat}{n:Int}{a b:Option AV}:(ie 1 (kI 1) Az) (R3 t n a b) μ=some (.next,R3 t (n-1) a b,μ):=rfl
theorem BE(t:List Nat)(xs:List PyData)(μ:List ah):∀ (r:List U) (k:Nat) (n:Int) (a b:Option AV),∃a' b' n',
  fN (jc 2 3) Qa aP none xs (l6 k r) (R3 t n a b) μ=(match mI n r with|some m=>some (.next,R3 t m a' b',μ)|none=>some (.ret (.d (.bool false)),R3 t n' a' b',μ))
 | [],k,n,a,b=>(jE a b n rfl)
 |u::r,k,n,a,b=>by
  have tf:jc 2 3 (R3 t n a b) (.tuple [.int (((k+u.length:Nat):Int)-1),uS u])=some (R3 t n (some (.d (.int (((k+u.length:Nat):Int)-1)))) (some (.d (uS u)))):=rfl;rw [l6,mI];generalize hA:(some (AV.d (.int (((k+u.length:Nat):Int)-1))))=A at tf
  have hL:=GY (ρ:=R3 t n A (some (.d (uS u)))) (μ:=μ) (u:=u) (n:=3) 40 (s:="(") (by decide) rfl;have hR:=GY (ρ:=R3 t n A (some (.d (uS u)))) (μ:=μ) (u:=u) (n:=3) 41 (s:=")") (by decide) rfl
  by_cases q:u=[40]
  ·refine rA (if_pos q) ?_
   refine jD (BE t xs μ r (k+u.length) (n+1) A (some (.d (uS u)))) λa' b' n' e=>?_;refine (jE a' b' n' (Lz (dK tf ?_ (az _ _)) e));refine (aB ?_).trans bK;refine rA (gB hL (decide_eq_true q)) ?_;refine rA (aB an6) ?_;exact rA bK rfl
  ·refine rA (if_neg q) ?_
   by_cases z:u=[41]
   ·refine rA (if_pos z) ?_
    by_cases w:n-1<0
    ·refine rA (if_pos w) ?_
     refine (jE A (some (.d (uS u))) (n-1) (pv tf ?_));refine cT ?_;refine rA (gP hL (decide_eq_false q)) ?_;refine cT ?_;refine (gB hR (decide_eq_true z)).trans ?_;refine rA (aB Yv) ?_;refine cT ?_;refine rA (gB (ltI (x:=n-1) (y:=0) rfl rfl) (decide_eq_true w)) ?_;exact cT rfl
    ·refine rA (if_neg w) ?_
     refine jD (BE t xs μ r (k+u.length) (n-1) A (some (.d (uS u)))) λa' b' n' e=>?_;refine (jE a' b' n' (Lz (dK tf ?_ (az _ _)) e));refine (aB ?_).trans bK;refine rA (gP hL (decide_eq_false q)) ?_;refine (aB ?_).trans bK;refine (gB hR (decide_eq_true z)).trans ?_;refine rA (aB Yv) ?_;refine (aB ?_).trans bK;refine rA (gP (ltI (x:=n-1) (y:=0) rfl rfl) (decide_eq_false w)) ?_;exact bK
   ·refine rA (if_neg z) ?_
    refine jD (BE t xs μ r (k+u.length) n A (some (.d (uS u)))) λa' b' n' e=>?_;refine (jE a' b' n' (Lz (dK tf ?_ (az _ _)) e));refine (aB ?_).trans bK;refine rA (gP hL (decide_eq_false q)) ?_;refine (aB ?_).trans bK;refine (gP hR (decide_eq_false z)).trans bK
theorem s3{vs:List U}(hw:WF vs)(hz:vs.flatten.length≤100000)(hn:vs.length≤1000):aq [.d (.str (tS vs.flatten))] μ=some (.d (.bool (LL vs)),μ):=by
 refine jD (BE (clean none vs).flatten (l6 0 (clean none vs)) μ (clean none vs) 0 0 none none) λa' b' n' e=>?_;have e0:Pa [some (.d (.str (tS vs.flatten))),none,none,none] μ=some (.next,[some (.d (.str (tS (clean none vs).flatten))),none,none,none],μ):=by
  unfold Pa;refine rA (bO (d4 (V:=.d (.str (tS vs.flatten))) rfl (s2 hw hz hn))) ?_;rfl
 have e1:U4 [some (.d (.str (tS (clean none vs).flatten))),none,none,none] μ=some (.next,R3 (clean none vs).flatten 0 none none,μ):=rfl;have e2:MR (R3 (clean none vs).flatten 0 none none) μ=fN (jc 2 3) Qa aP none (l6 0 (clean none vs)) (l6 0 (clean none vs)) (R3 (clean none vs).flatten 0 none none) μ:=by
  unfold MR;exact rA (gI (oX (vs:=clean none vs) rfl hw.clean)) rfl
 rw [e] at e2
 unfold LL;cases hc:mI 0 (clean none vs) with
 |none=>
  rw [hc] at e2
  refine (cZ (ρ':=R3 (clean none vs).flatten n' a' b') (μ':=μ) (x:=.bool false) rfl ?_).trans (by exact rA LG rfl);refine (?_:f3 [some (.d (.str (tS vs.flatten))),none,none,none] μ=_);unfold f3;refine rA (aB e0) ?_;refine rA (aB e1) ?_;exact rA (cT e2) rfl
 |some m=>
  rw [hc] at e2
  refine (cZ (ρ':=R3 (clean none vs).flatten m a' b') (μ':=μ) (x:=.bool (m==0)) rfl ?_).trans (by exact rA LG rfl);refine (?_:f3 [some (.d (.str (tS vs.flatten))),none,none,none] μ=_);unfold f3;refine rA (aB e0) ?_;refine rA (aB e1) ?_;refine rA (aB e2) ?_;refine cT ?_;unfold Ve;exact dZ (hH (V:=.d (.int m)) (W:=.d (.int 0)) rfl rfl rfl)
theorem UQ{f:SF}(hl:Vs.length=k)(h:f (cC sc Vs) μ=some (.ret (.c j),ρ',μ')):cy k sc f Vs μ=some (.c j,μ'):=by
 exact (if_pos hl).trans (b5 h)
noncomputable def k6(vs:List U):PyData:=if LL vs then .str (tS vs.flatten) else .str "('', '')"
noncomputable def R4(T:PyData)(i:Nat)(a:Option AV):d0:=[some (.d T),some (.c i),a]
abbrev ZC:SF:=(ap (jC (tV (gu (af [(a9 2)] aq))) (ap (c6 2 (kS "('', '')")) aP) aP) (ap (ci (d_ (a9 1) (a9 2))) aP))
theorem Q5(T:PyData)(xs:List PyData)(μ:List ah)(i:Nat)(hi:i=μ.length):∀ (r:List (List U)) (acc:List PyData) (a:Option AV),(∀vs∈r,WF vs∧vs.flatten.length≤100000∧vs.length≤1000)→acc.length+r.length≤1000→∃a',
  fN (du 2) ZC aP none xs (r.map λvs=>.str (tS vs.flatten)) (R4 T i a) (μ++[.live acc])=some (.next,R4 T i a',μ++[.live (acc++r.map k6)])
 | [],acc,a,_,_=>⟨a,congrArg (λz=>some (Fl.next,R4 T i a,μ++[ah.live z])) (DB _).symm⟩
 |vs::r,acc,a,h,hz=>by
  simp only [AO] at hz
  refine dU (h vs (by simp)) λh1 h2 h3=>?_;refine bP (Q5 T xs μ i hi r (acc++[k6 vs]) (some (.d (k6 vs))) (λv hv=>h v (by simp [hv])) (by simp only [be,AO,EQ];lia)) λa' e=>?_;refine ⟨a',?_⟩;refine rA ET ?_;refine rA ET ?_;refine rA (show acc++k6 vs::r.map k6=acc++[k6 vs]++r.map k6 by simp) ?_;refine Lz (dK (ρ1:=R4 T i (some (.d (.str (tS vs.flatten))))) rfl ?_ (az _ _)) e;have hv:tV (gu (af [a9 2] aq)) (R4 T i (some (.d (.str (tS vs.flatten))))) (μ++[.live acc])=some (!(LL vs),μ++[.live acc]):=
   not_of (nD (V:=.d (.bool (LL vs))) (d4 (V:=.d (.str (tS vs.flatten))) rfl (s3 h1 h2 h3)) rfl)
  have e1:(jC (tV (gu (af [(a9 2)] aq))) (ap (c6 2 (kS "('', '')")) aP) aP) (R4 T i (some (.d (.str (tS vs.flatten))))) (μ++[.live acc])=some (.next,R4 T i (some (.d (k6 vs))),μ++[.live acc]):=by
   by_cases q:LL vs=true
   ·refine rA (gP hv (by rw [q];rfl)) ?_;refine rA bK ?_
    simp only [k6,q,if_true]
   ·refine rA (gB hv (by simp [q])) ?_;refine rA (aB (bO rfl)) ?_;refine rA bK ?_
    simp only [k6,q];rfl
  refine (aB e1).trans ?_;refine rA (aB (eB (gt (j:=i) (d:=k6 vs) rfl rfl (by subst hi;exact dp) (aa (by lia))))) ?_;refine rA bK ?_;subst hi;exact rA fh rfl
theorem s4{vss:List (List U)}(h:∀vs∈vss,WF vs∧vs.flatten.length≤100000∧vs.length≤1000)(hz:vss.length≤1000):
  aX [.d (.list (vss.map λvs=>.str (tS vs.flatten)))] μ=some (.c μ.length,μ++[.live (vss.map k6)]):=by
 refine bP (Q5 (.list (vss.map λvs=>.str (tS vs.flatten))) (vss.map λvs=>.str (tS vs.flatten)) μ μ.length rfl vss [] none h (by simpa using hz)) λa' e=>?_;have e0:OS [some (.d (.list (vss.map λvs=>.str (tS vs.flatten)))),none,none] μ=some (.next,R4 (.list (vss.map λvs=>.str (tS vs.flatten))) μ.length none,μ++[.live []]):=by
  unfold OS;refine rA (bO xf) ?_;rfl
 have e1:Mi (R4 (.list (vss.map λvs=>.str (tS vs.flatten))) μ.length none) (μ++[.live []])=some (.next,R4 (.list (vss.map λvs=>.str (tS vs.flatten))) μ.length a',μ++[.live (vss.map k6)]):=by
  unfold Mi;refine rA (gI (d6 (V:=.d (.list (vss.map λvs=>.str (tS vs.flatten)))) rfl rfl)) ?_;exact e
 have:f4 [some (.d (.list (vss.map λvs=>.str (tS vs.flatten)))),none,none] μ=some (.ret (.c μ.length),R4 (.list (vss.map λvs=>.str (tS vs.flatten))) μ.length a',μ++[.live (vss.map k6)]):=by
  unfold f4;refine rA (aB e0) ?_;refine rA (aB e1) ?_;exact cT (dZ rfl)
 exact UQ rfl this
noncomputable def hx(i:Int):Str:=Sf "0x" 16 i
noncomputable def qJ(flag:Int):Str:=(rR flag).getD (hx flag)
noncomputable def um:List Nat→Int→List Str→Option (List Str)
 | [],fl,ns=>if (hx fl).length≤1000 then some (ns++[hx fl]) else none
 |i::r,fl,ns=>if D5 fl (1*2^i)=0 then um r fl ns else
  if (hx (1*2^i)).length≤1000 then (if IC fl (1*2^i)=0 then some (ns++[qJ (1*2^i)]) else um r (IC fl (1*2^i)) (ns++[qJ (1*2^i)])) else none
noncomputable def pf(fl:Int):Option Str:=match um (yw 32) fl [] with
 |some l=>if (l.map (·.length)).sum+l.length*2≤10000 then some (Lm ", " l) else none
 |none=>none
noncomputable def R7(fl:Int)(i:Nat)(a b:Option AV):d0:=[some (.d (.int fl)),some (.c i),a,b]
theorem am0(i:Nat)(h:i<32):Dt 1 i=some (1*2^i):=by
 unfold Dt;refine rA (if_pos (fu (by lia) (by lia) (by decide))) ?_;rfl
theorem uY{x:Int}(hf:f ρ μ=some (.d (.int x),μ))(h:(hx x).length≤1000):af [f] oM ρ μ=some (.d (.str (hx x)),μ):=by
 exact d4 hf ((bV (rfl:l1 [AV.d (.int x)]=some _)).trans ((bV (rfl:jJ (.d (.int x))=some x)).trans (if_pos (aa (KQ h (by decide))))))
abbrev YI:SF:=(ap (c6 3 (aj (kI 1) (a9 2) (aS Dt))) (ap (jC (gu (aj (a9 0) (a9 3) (aS λx y=>some (D5 x y)))) (ap (ci (d_ (a9 1) (sU rR (a9 3) (af [(a9 3)] oM)))) (ap (ie 0 (a9 3) BI) (ap (jC (tV (gu (a9 0))) (ap Mx aP) aP) aP))) aP) aP))
abbrev XV:SF:=(ap (ci (d_ (a9 1) (af [(a9 0)] oM))) aP)
noncomputable def bS(l:List Str):List PyData:=l.map .str
theorem BY(x:Int):(x != 0)= !decide (x=0):=by
 by_cases h:x=0<;>simp [h]
theorem Kf(xs:List PyData)(μ:List ah)(j:Nat)(hj:j=μ.length):∀ (r:List Nat) (fl:Int) (ns:List Str) (a b:Option AV) (l:List Str),(∀i∈r,i<32)→um r fl ns=some l→ns.length+r.length≤100→
  ∃fl' a' b',fN (du 2) YI XV none xs (r.map λ(i:Nat)=>.int i) (R7 fl j a b) (μ++[.live (bS ns)])=some (.next,R7 fl' j a' b',μ++[.live (bS l)])
 | [],fl,ns,a,b,l,_,h,hz=>by
  unfold um at h
  split at h
  ·rename_i q
   refine cA h ?_;refine (jE fl a b ?_);refine rA LQ ?_;refine rA Jp ?_;refine (aB (eB (gt (j:=j) (d:=.str (hx fl)) rfl (uY rfl q) (by subst hj;exact dp) (aa (by simp only [bS,xG];lia))))).trans ?_;refine rA bK ?_;subst hj;refine rA fh ?_
   simp [bS]
  ·exact ct h
 |i::r,fl,ns,a,b,l,hr,h,hz=>by
  simp only [AO] at hz
  have hi:i<32:=hr i (by simp);rw [um] at h
  refine rA ET ?_;have tf:du 2 (R7 fl j a b) (.int (i:Int))=some (R7 fl j (some (.d (.int i))) b):=rfl;have e0:c6 3 (aj (kI 1) (a9 2) (aS Dt)) (R7 fl j (some (.d (.int i))) b) (μ++[.live (bS ns)])=some (.next,R7 fl j (some (.d (.int i))) (some (.d (.int (1*2^i)))),μ++[.live (bS ns)]):=
   bO (cV (x:=1) (y:=i) rfl rfl (am0 i hi))
  have ev:gu (aj (a9 0) (a9 3) (aS λx y=>some (D5 x y))) (R7 fl j (some (.d (.int i))) (some (.d (.int (1*2^i))))) (μ++[.live (bS ns)])=some (!decide (D5 fl (1*2^i)=0),μ++[.live (bS ns)]):=by
   refine rB (BY _) ?_;exact nD (cV (x:=fl) (y:=1*2^i) rfl rfl rfl) rfl
  by_cases q:D5 fl (1*2^i)=0
  ·rw [if_pos q] at h
   refine jD (Kf xs μ j hj r fl ns (some (.d (.int i))) (some (.d (.int (1*2^i)))) l (λk hk=>hr k (by simp [hk])) h (by lia)) λfl' a' b' e=>?_;refine (jE fl' a' b' (Lz (dK tf ?_ (az _ _)) e));refine (aB e0).trans ?_;refine (aB ?_).trans bK;refine rA (gP ev (by rw [decide_eq_true q];rfl)) ?_;exact bK
  ·rw [if_neg q] at h
   by_cases hl:(hx (1*2^i)).length≤1000
   ·rw [if_pos hl] at h
    have ea:ci (d_ (a9 1) (sU rR (a9 3) (af [(a9 3)] oM))) (R7 fl j (some (.d (.int i))) (some (.d (.int (1*2^i))))) (μ++[.live (bS ns)])=some (.next,R7 fl j (some (.d (.int i))) (some (.d (.int (1*2^i)))),μ++[.live (bS (ns++[qJ (1*2^i)]))]):=by
     have hd:sU rR (a9 3) (af [(a9 3)] oM) (R7 fl j (some (.d (.int i))) (some (.d (.int (1*2^i))))) (μ++[.live (bS ns)])=some (.d (.str (qJ (1*2^i))),μ++[.live (bS ns)]):=by
      have hh:=uY (f:=a9 3) (ρ:=R7 fl j (some (.d (.int i))) (some (.d (.int (1*2^i))))) (μ:=μ++[.live (bS ns)]) (x:=1*2^i) rfl hl;have hg:a9 3 (R7 fl j (some (.d (.int i))) (some (.d (.int (1*2^i))))) (μ++[.live (bS ns)])=some (.d (.int (1*2^i)),μ++[.live (bS ns)]):=rfl;exact (b5 hg).trans ((bV (rfl:jJ (.d (.int (1*2^i)))=some _)).trans ((b5 hh).trans (bV rfl)))
     refine rA (eB (gt (j:=j) rfl hd (by subst hj;exact dp) (aa (by simp only [bS,xG];lia)))) ?_;subst hj;refine rA fh ?_
     simp [bS]
    have ex:ie 0 (a9 3) BI (R7 fl j (some (.d (.int i))) (some (.d (.int (1*2^i))))) (μ++[.live (bS (ns++[qJ (1*2^i)]))])=some (.next,R7 (IC fl (1*2^i)) j (some (.d (.int i))) (some (.d (.int (1*2^i)))),μ++[.live (bS (ns++[qJ (1*2^i)]))]):=rfl;have en:tV (gu (a9 0)) (R7 (IC fl (1*2^i)) j (some (.d (.int i))) (some (.d (.int (1*2^i))))) (μ++[.live (bS (ns++[qJ (1*2^i)]))])=some (decide (IC fl (1*2^i)=0),μ++[.live (bS (ns++[qJ (1*2^i)]))]):=by
     have:=not_of (nD (f:=a9 0) (ρ:=R7 (IC fl (1*2^i)) j (some (.d (.int i))) (some (.d (.int (1*2^i))))) (μ:=μ++[.live (bS (ns++[qJ (1*2^i)]))]) (V:=.d (.int (IC fl (1*2^i)))) rfl rfl)
     rw [BY,Bool.not_not] at this
     exact this
    by_cases z:IC fl (1*2^i)=0
    ·rw [if_pos z] at h
     refine cA h ?_;refine (jE (IC fl (1*2^i)) (some (.d (.int i))) (some (.d (.int (1*2^i)))) (UL tf ?_));refine (aB e0).trans ?_;refine Kw ?_;refine rA (gB ev (by rw [decide_eq_false q];rfl)) ?_;refine rA (aB ea) ?_;refine rA (aB ex) ?_;refine Kw ?_;refine rA (gB en (decide_eq_true z)) ?_;exact Kw Ta
    ·rw [if_neg z] at h
     refine jD (Kf xs μ j hj r (IC fl (1*2^i)) (ns++[qJ (1*2^i)]) (some (.d (.int i))) (some (.d (.int (1*2^i)))) l (λk hk=>hr k (by simp [hk])) h (by simp only [be,AO,EQ];lia)) λfl' a' b' e=>?_;refine (jE fl' a' b' (Lz (dK tf ?_ (az _ _)) e));refine (aB e0).trans ?_;refine (aB ?_).trans bK;refine rA (gB ev (by rw [decide_eq_false q];rfl)) ?_;refine rA (aB ea) ?_;refine rA (aB ex) ?_;refine (aB ?_).trans bK;refine rA (gP en (decide_eq_false z)) ?_;exact bK
   ·rw [if_neg hl] at h
    exact ct h
theorem BA:∀l:List Str,n9 (bS l)=some l
 | []=>rfl
 |x::l=>by
  exact (bV (rfl:dS (.str x)=some x)).trans (bV (BA l))
theorem tc{l:List Str}{sep:Str}(hf:f ρ μ=some (V,μ))(hp:da μ V=some (bS l))(hz:(l.map (·.length)).sum+l.length*sep.length≤10000):dv (kS sep) [f] fc ρ μ=some (.d (.str (Lm sep l)),μ):=by
 exact Cp hf hp (BA l) (KQ hz (by decide))
set_option tactic.hygienic true in
theorem s7{fl:Int}(h:pf fl=some x):cM [.d (.int fl)] μ=some (.d (.str x),μ):=by
 unfold pf at h
 split at h
 ·rename_i l hl
  split at h
  ·rename_i hz
   refine cA h ?_;refine jD (Kf (fJ 0 32) μ μ.length rfl (yw 32) fl [] none none l (λi hi=>D3.mp hi) hl (by decide)) λfl' a' b' e=>?_;refine (cZ (k:=1) (ρ':=R7 fl' μ.length a' b') (μ':=μ++[.live (bS l)]) (x:=.str (Lm ", " l)) rfl ?_).trans (by exact rA ml rfl);refine (?_:f7 [some (.d (.int fl)),none,none,none] μ=_);unfold f7;have e0:NP [some (.d (.int fl)),none,none,none] μ=some (.next,R7 fl μ.length none none,μ++[.live []]):=by
    unfold NP;refine rA (bO xf) ?_;rfl
   have e1:N9 (R7 fl μ.length none none) (μ++[.live []])=some (.next,R7 fl' μ.length a' b',μ++[.live (bS l)]):=by
    unfold N9;refine rA (gI (xs:=fJ 0 32) (gg:=none) (μ1:=μ++[.live []]) rfl) ?_;exact e
   have e2:OH (R7 fl' μ.length a' b') (μ++[.live (bS l)])=some (.ret (.d (.str (Lm ", " l))),R7 fl' μ.length a' b',μ++[.live (bS l)]):=by
    unfold OH;exact dZ (tc (V:=.c μ.length) rfl (eP dp) (by refine rA (show (JI ", ").length=2 from by decide) ?_;exact hz))
   refine rA (aB e0) ?_;refine rA (aB e1) ?_;exact rA (cT e2) rfl
  ·exact ct h
 ·exact ct h
noncomputable def wX:List (List Nat):=[[79,80,84,73,77,73,90,69,68],[78,69,87,76,79,67,65,76,83],[86,65,82,65,82,71,83],[86,65,82,75,69,89,87,79,82,68,83],[78,69,83,84,69,68],[71,69,78,69,82,65,84,79,82],[78,79,70,82,69,69],[67,79,82,79,85,84,73,78,69],[73,84,69,82,65,66,76,69,95,67,79,82,79,85,84,73,78,69],[65,83,89,78,67,95,71,69,78,69,82,65,84,79,82],[48,120,52,48,48],[48,120,56,48,48],[48,120,49,48,48,48],[48,120,50,48,48,48],[48,120,52,48,48,48],[48,120,56,48,48,48],[48,120,49,48,48,48,48],[48,120,50,48,48,48,48],[48,120,52,48,48,48,48],[48,120,56,48,48,48,48],[48,120,49,48,48,48,48,48],[48,120,50,48,48,48,48,48],[48,120,52,48,48,48,48,48],[48,120,56,48,48,48,48,48],[48,120,49,48,48,48,48,48,48],[48,120,50,48,48,48,48,48,48],[48,120,52,48,48,48,48,48,48],[48,120,56,48,48,48,48,48,48],[48,120,49,48,48,48,48,48,48,48],[48,120,50,48,48,48,48,48,48,48],[48,120,52,48,48,48,48,48,48,48],[48,120,56,48,48,48,48,48,48,48]]
noncomputable def wd(k:Nat):Str:=tS (wX.getD k [])
noncomputable def gY:Str:=", "
theorem AC:gY=⟨#[44,32]⟩:=by decide
theorem PD:((yw 32).all λi=>qJ (1*2^i)==wd i&&decide ((hx (1*2^i)).length≤1000))=true:=by decide+kernel
theorem ad1:(wX.all λw=>decide (w.length≤20)&&!w.contains 44)=true:=by decide+kernel
theorem H5(k:Nat):(wX.getD k []).length≤20∧44∉wX.getD k []:=by
 rw [LC];cases h:wX[k]? with
 |none=>simp
 |some w=>
  have:=Bb.mp ad1 w (FV h)
  simp only [EZ,decide_eq_true_eq,MT,MZ,decide_eq_false_iff_not] at this
  exact this
noncomputable def xK:List Nat→Int→List Nat×Option Int
 | [],fl=>([],some fl)
 |i::r,fl=>if D5 fl (1*2^i)=0 then xK r fl else if IC fl (1*2^i)=0 then ([i],none) else
  (i::(xK r (IC fl (1*2^i))).1,(xK r (IC fl (1*2^i))).2)
noncomputable def FR(b:List Nat):Option Int→List Str
 |none=>b.map wd
 |some fl=>b.map wd++[hx fl]
theorem ud:∀ (r:List Nat) (fl:Int) (ns:List Str),(∀i∈r,i<32)→(∀fl',(xK r fl).2=some fl'→(hx fl').length≤1000)→um r fl ns=some (ns++FR (xK r fl).1 (xK r fl).2)
 | [],fl,ns,_,h=>by
  have:=h fl rfl
  simp only [um,if_pos this,xK,FR,LQ,Lc]
 |i::r,fl,ns,hr,h=>by
  have hw:=Bb.mp PD i (D3.mpr (hr i (by simp)));simp only [EZ,beq_iff_eq,decide_eq_true_eq] at hw
  have hr':∀i∈r,i<32:= λk hk=>hr k (by simp [hk]);rw [um];rw [xK] at h⊢
  by_cases q:D5 fl (1*2^i)=0
  ·rw [if_pos q] at h⊢
   refine rA (if_pos q) ?_;exact ud r fl ns hr' h
  ·rw [if_neg q] at h⊢
   refine rA (if_neg q) ?_;refine rA (if_pos hw.2) ?_;refine rA hw.1 ?_
   by_cases z:IC fl (1*2^i)=0
   ·refine rA (if_pos z) ?_;refine rA (if_pos z) ?_;rfl
   ·rw [if_neg z] at h⊢
    refine rA (if_neg z) ?_;refine rA (ud r _ _ hr' h) ?_;cases (xK r (IC fl (1*2^i))).2<;>simp [FR]
theorem uc:∀ (r:List Nat) (fl:Int),(xK r fl).1.length≤r.length
 | [],_=>by simp [xK]
 |i::r,fl=>by
  rw [xK]
  split
  ·have:=uc r fl;simp only [AO];lia
  ·split
   ·simp
   ·have:=uc r (IC fl (1*2^i));simp only [AO];lia
theorem tl:∀b:List Nat,((b.map wd).map (·.length)).sum≤20*b.length
 | []=>by simp
 |i::b=>by
  have:=tl b
  have h:=(H5 i).1;simp only [ET,Pn,AO]
  have:(wd i).length=(wX.getD i []).length:=eA _
  lia
theorem YY{fl:Int}{b:List Nat}{o:Option Int}(h:xK (yw 32) fl=(b,o))(ho:∀fl',o=some fl'→(hx fl').length≤1000):pf fl=some (Lm ", " (FR b o)):=by
 have e:=ud (yw 32) fl [] (λi hi=>D3.mp hi) (by refine rA h ?_;exact ho);have hb:=uc (yw 32) fl;rw [h] at e hb
 unfold pf;refine rA e ?_;dsimp only;refine rA (Lc _) ?_;rw [if_pos];have hs:=tl b;simp only [IN] at hb
 cases o with
 |none=>simp only [FR,xG];lia
 |some fl'=>
  have:=ho fl' rfl
  simp only [FR,be,xG,Jz,RN,ET,LQ,Pn,RO,AO,EQ];lia
theorem aa2{fl:Int}{b:List Nat}{o:Option Int}(h:xK (yw 32) fl=(b,o))(ho:∀fl',o=some fl'→(hx fl').length≤1000):cM [.d (.int fl)] μ=some (.d (.str (Lm ", " (FR b o))),μ):=s7 (YY h ho)
noncomputable def iE(mask k:Nat):Bool:=mask/2^k%2==1
noncomputable def g_(low f mask:Nat):List Nat:=((yw f).filter (iE mask)).map λk=>low+k
theorem HQ:((yw 13).all λlow=>(yw 32).all λmask=>xK (yw 32) ((mask:Int)*2^low)==(g_ low 5 mask,if mask=0 then some 0 else none))=true:=by decide+kernel
theorem Md:((yw 6).all λf=>(yw 13).all λlow=>(yw 5).all λr=>xK (yw 32) ((2^f-1)*2^low+2^31+((r:Int)-3)*2^32)==((yw f).map (λk=>low+k)++[31],if r=3 then none else some (((r:Int)-3)*2^32)))=true:=by decide+kernel
theorem TA:((yw 5).all λr=>decide ((hx (((r:Int)-3)*2^32)).length≤1000))=true:=by decide+kernel
theorem Zq:hx 0="0x0":=by decide+kernel
theorem YV:((yw 6).all λf=>(yw (2^f)).all λmask=>(yw 5).filter (iE mask)==(yw f).filter (iE mask))=true:=by decide+kernel
noncomputable def cE:List (List Nat)→List Nat
 | []=>[]
 | [w]=>w
 |w::v::r=>w++[44,32]++cE (v::r)
theorem Bz:∀ws:List (List Nat),U8 gY (ws.map tS)=tS (cE ws)
 | []=>rfl
 | [w]=>rfl
 |w::v::r=>by
  have ih:=Bz (v::r);refine (?_:tS w++gY++U8 gY ((v::r).map tS)=_);refine rA ih ?_;apply UP;refine rA (P4 _ _) ?_;refine rA (P4 _ _) ?_;refine rA AC ?_
  simp [tS,cE]
theorem r6(ws:List (List Nat)):Lm gY (ws.map tS)=tS (cE ws):=(RM _ _).trans (Bz ws)
theorem Am(l:List Nat)(i:Nat):RY (tS l) gY (tS l).length i↔(l[i]? =some 44∧l[i+1]? =some 32):=by
 unfold RY;refine rA (StrLaws.subAt_eq _ _ _) ?_;refine rA (eA _) ?_;refine rA (fR _) ?_;refine rA AC ?_;refine (?_:(i+2≤l.length∧((l.drop i).take 2==[44,32])=true)↔_);have e0:l[i]? =(l.drop i)[0]? :=by rw [PW];rfl
 have e1:l[i+1]? =(l.drop i)[1]? :=by rw [PW]
 refine rA e0 ?_;refine rA e1 ?_;refine rA (propext (beq_iff_eq)) ?_;have hl:(l.drop i).length=l.length-i:=Rg;constructor
 ·intro zi0
  refine fY zi0 λh e=>?_;cases hd:l.drop i with
  |nil=>rw [hd] at e;cases e
  |cons a r=>
   cases r with
   |nil=>rw [hd] at e;simp at e
   |cons b r=>rw [hd] at e;simpa using e
 ·intro zi1
  refine fY zi1 λh e=>?_;cases hd:l.drop i with
  |nil=>rw [hd] at h;exact ct h
  |cons a r=>
   cases r with
   |nil=>rw [hd] at e;simp at e
   |cons b r=>
    rw [hd] at h e hl
    simp only [AO] at hl
    simp only [List.getElem?_cons_zero,Oe,Option.some.injEq] at h e
    subst h e;exact ⟨by lia,rfl⟩
theorem AP(a w b:List Nat):OJ (tS (a++w++b)) a.length (a.length+w.length)=tS w:=by
 apply UP;apply Array.toList_inj.mp;refine rA (StrLaws.strSub_toList _ _ _) ?_;refine rA (fR _) ?_;refine rA (fR _) ?_;refine rA (KO _ _) ?_;refine rA (E9 _ _ _) ?_;refine rA Q7 ?_;exact rA P5 rfl
theorem vR(l:List Nat):∀ (ws:List (List Nat)) (pre:List Nat) (cuts:List Nat) (f:Nat),ws≠[]→(∀w∈ws,44∉w)→l=pre++cE ws→
  StrLaws.ChainG (tS l) gY (tS l).length pre.length cuts f→(∀k,f≤k→¬RY (tS l) gY (tS l).length k)→Ts (tS l) 2 pre.length cuts=ws.map tS
 | [],_,_,_,h,_,_,_,_=>absurd rfl h
 | [w],pre,cuts,f,_,hw,hl,hG,_=>by
  cases cuts with
  |nil=>
   refine (?_:[OJ (tS l) pre.length (tS l).length]=[tS w])
   have:=AP pre w []
   rw [DB] at this
   refine rA hl ?_;refine rA (eA _) ?_;refine rA be ?_;simp only [cE] at this⊢
   exact rA this rfl
  |cons c r=>
   refine mh hG λh1 h2 zz zz=>?_;rw [Am,hl] at h2
   have h2:=h2.1;rw [IK h1] at h2
   exact absurd (FV h2) (hw w (by simp))
 |w::v::r,pre,cuts,f,_,hw,hl,hG,hn=>by
  have hat:RY (tS l) gY (tS l).length (pre.length+w.length):=by
   refine rA (propext (Am _ _)) ?_;refine rA hl ?_;simp only [cE];have e1:(pre++(w++[44,32]++cE (v::r)))=(pre++w)++([44,32]++cE (v::r)):=by simp
   have hl2:pre.length+w.length=(pre++w).length:=be.symm;refine rA e1 ?_;refine rA hl2 ?_;constructor
   ·rw [IK (DI _)];refine rA (Nat.sub_self _) ?_;rfl
   ·rw [IK (by lia)];refine rA (KO _ _) ?_;rfl
  have hno:∀k,pre.length≤k→k<pre.length+w.length→¬RY (tS l) gY (tS l).length k:=by
   intro k h1 h2 h;rw [Am,hl] at h
   have h:=h.1;simp only [cE] at h
   rw [IK h1,E9,EY (by lia)] at h
   exact hw w (by simp) (FV h)
  cases cuts with
  |nil=>
   have e:f=pre.length:=hG;exact absurd hat (hn _ (by lia))
  |cons c r'=>
   refine mh hG λh1 h2 h3 h4=>?_;have hc:c=pre.length+w.length:=by
    rcases Qp c (pre.length+w.length) with q|q|q
    ·exact absurd h2 (hno c h1 q)
    ·exact q
    ·exact absurd hat (h3 _ (by lia) q)
   subst hc;have hs:gY.length=2:=by decide
   rw [hs] at h4
   have hpre:(pre++w++[44,32]).length=pre.length+w.length+2:=by simp;lia
   have ih:=vR l (v::r) (pre++w++[44,32]) r' f (by simp) (λu hu=>hw u (by simp at hu⊢;exact .inr hu)) (by refine rA hl ?_;simp [cE]) (by refine rA hpre ?_;exact h4) hn;rw [hpre] at ih
   refine (?_:OJ (tS l) pre.length (pre.length+w.length)::Ts (tS l) 2 (pre.length+w.length+2) r'=_);refine rA ih ?_;refine rA hl ?_
   have:=AP pre w ([44,32]++cE (v::r))
   simp only [cE,ET,←E9] at this⊢
   exact rA this rfl
theorem rE(ws:List (List Nat))(h0:ws≠[])(hw:∀w∈ws,44∉w):Oc (tS (cE ws)) (Ll (tS (cE ws)) gY 0 (tS (cE ws)).length ((tS (cE ws)).length+1)) gY.length=ws.map tS:=by
 refine au (StrLaws.occ_tight (tS (cE ws)) gY (by decide)) λf hG hn=>?_;refine rA (R1 _ _ _) ?_;refine rA (show gY.length=2 from by decide) ?_;exact vR (cE ws) ws [] _ f h0 hw rfl hG hn
theorem zJ(ws:List (List Nat))(h0:ws≠[])(hw:∀w∈ws,44∉w):PC (tS (cE ws)) gY=ws.map tS:=by
 have hp:=rE ws h0 hw;unfold PC
 split
 ·rename_i h
  simp only [Px,decide_eq_true_eq,eA,show gY.length=2 from by decide] at h
  have hk:SD gY=1:=by decide+kernel
  rcases h with h|h
  ·match ws,h with
   | [w],_=>rfl
   |w::v::r,h=>simp [cE] at h;lia
  ·rw [hk] at h
   exfalso
   unfold SD at h
   split at h
   ·lia
   ·split at h<;>lia
 ·split
  ·rename_i h
   rw [TY.mp h,R1] at hp
   refine rB hp ?_;refine (?_:[_]=[OJ _ 0 _]);exact rA (StrLaws.sub_whole _) rfl
  ·exact hp
noncomputable def xI:Fm→List Fm
 | .bin true l r=>[l,r]
 |F=>[F]
noncomputable def fI(G:List Fm):List Fm:=((((G.flatMap xI).flatMap xI).flatMap xI).flatMap xI).flatMap xI
noncomputable def bJ(G:List Fm):List Nat:=G.flatMap Fm.pl
noncomputable def bk(m:List Nat)(s:List Nat):Bool:=s.all λp=>s.contains (m.getD p 0)
noncomputable def gQ(l r:Fm)(B:List Fm):List Fm→List Fm→List (List Fm×List Fm)
 | [],pre=>[([l],pre++r::B)]
 |F::A,pre=>(F::(A++[l]),pre++r::B)::gQ l r B A (pre++[F])
noncomputable def iU(l r:Fm)(A:List Fm):List Fm→List Fm→List (List Fm×List Fm)
 | [],pre=>[(r::pre,A++[l])]
 |F::B,pre=>(r::pre,A++l::F::B)::iU l r A B (pre++[F])
theorem Vk{pre:List Fm}:gQ l r B [] pre=[([l],pre++r::B)]:=rfl
theorem VU{A pre:List Fm}:gQ l r B (F::A) pre=(F::(A++[l]),pre++r::B)::gQ l r B A (pre++[F]):=rfl
theorem SJ{A pre:List Fm}:iU l r A [] pre=[(r::pre,A++[l])]:=rfl
theorem TT{A pre:List Fm}:iU l r A (F::B) pre=(r::pre,A++l::F::B)::iU l r A B (pre++[F]):=rfl
theorem K0:xI (.at i)=[.at i]:=rfl
theorem Sa:xI (.bin true l r)=[l,r]:=rfl
theorem R6:xI (.bin false l r)=[.bin false l r]:=rfl
noncomputable def two:List Fm→Bool
 | [.at _,.at _]=>true
 |_=>false
noncomputable def xJ(m:List Nat)(rc:List Fm→Bool):List Fm→List Fm→Bool
 |_,[]=>false
 |A,F::B=>match F with
  | .bin false l r=>(match (gQ l r B A []++iU l r A B []).find? (λw=>bk m (bJ w.1)) with
   |some w=>rc w.1&&rc w.2
   |none=>xJ m rc (A++[F]) B)
  |_=>xJ m rc (A++[F]) B
noncomputable def pr(m:List Nat):Nat→List Fm→Bool
 |0,_=>false
 |k+1,G=>two (fI G)||xJ m (pr m k) [] (fI G)
noncomputable def eE:List Fm→Nat→List Jn
 | [],_=>[]
 |F::r,n=>(gr F n).2++eE r (n+(gr F n).2.length)
theorem sq{r:List Fm}:eE (F::r) n=(gr F n).2++eE r (n+(gr F n).2.length):=rfl
noncomputable def start(m:List Nat)(n:Nat):List Nat:=(yw 6).map (λi=>min i (m.getD i 0))++F6 6 n
noncomputable def i9(J:List Jn):List (Nat×Nat):=(J.filter λx=>!x.par).flatMap λx=>[(x.nd,x.a),(x.nd,x.b)]
noncomputable def sr:Nat→List Jn→List (Nat×Nat)
 |_,[]=>[]
 |k,f::r=>(f.nd,if k%2=1 then f.b else f.a)::sr (k/2) r
theorem Zn:sr k []=[]:=rfl
theorem K8{f:Jn}{r:List Jn}:sr k (f::r)=(f.nd,if k%2=1 then f.b else f.a)::sr (k/2) r:=rfl
theorem My{l:List Nat}:dj l []=l:=rfl
noncomputable def Xj(l:List Nat):Bool:=l != []&&l.all (· ==l.headD 0)
noncomputable def j5(L:List Nat)(forks:List Jn)(mask:Nat):Bool:=Xj (if L=[] then [] else dj L (sr mask forks))
noncomputable def trees(m:List Nat)(G:List Fm):Bool:=
 (yw (2^ ((eE G 0).filter (·.par)).length)).all (j5 (dj (start m (eE G 0).length) (i9 (eE G 0))) ((eE G 0).filter (·.par)))
noncomputable def aH:List (List Nat):=[[5,4,3,2,1,0],[5,2,1,4,3,0],[3,2,1,0,5,4],[1,0,5,4,3,2],[1,0,3,2,5,4]]
noncomputable def R0:Nat→Nat→Nat→List Fm
 |0,_,_=>[]
 |_+1,a,1=>[.at a]
 |k+1,a,n=>(F6 1 (n-1)).flatMap λi=>(R0 k a i).flatMap λl=>(R0 k (a+i) (n-i)).flatMap λr=>[.bin true l r,.bin false l r]
theorem ad9{a:Nat}:∀ {n:Nat},n≠1→R0 (k+1) a n=(F6 1 (n-1)).flatMap λi=>(R0 k a i).flatMap λl=>(R0 k (a+i) (n-i)).flatMap λr=>[.bin true l r,.bin false l r]
 |0,_=>rfl
 |1,h=>absurd rfl h
 |_+2,_=>rfl
noncomputable def ZE:Nat→Nat→Nat→List (List Fm)
 |0,_,n=>if n=0 then [[]] else []
 |r+1,a,n=>(F6 1 n).flatMap λi=>(R0 6 a i).flatMap λF=>(ZE r (a+i) (n-i)).map λG=>F::G
theorem Zt{r a:Nat}:ZE (r+1) a n=(F6 1 n).flatMap λi=>(R0 6 a i).flatMap λF=>(ZE r (a+i) (n-i)).map λG=>F::G:=rfl
theorem nO:∀F:Fm,1≤F.pl.length
 | .at _=>DI 1
 | .bin _ l r=>by have:=nO l;simp only [Fm.pl,be];lia
theorem jT{a:Nat}{x y:List Nat}(h:x++y=F6 a n):x=F6 a x.length∧y=F6 (a+x.length) (n-x.length)∧x.length≤n:=by
 have hl:=congrArg NE h;simp only [be,L2] at hl
 have e:F6 a n=F6 a x.length++F6 (a+x.length) (n-x.length):=by
  refine rA List.range'_append_1 ?_;congr 1;lia
 rw [e] at h
 have:=Us h (by simp)
 exact (fu this.1 this.2 (by lia))
theorem uV:∀ (F:Fm) (k a n:Nat),F.pl=F6 a n→n≤k→F∈R0 k a n
 | .at i,k,a,n,h,hk=>by
  have hl:=congrArg NE h;simp only [Fm.pl,AO,EQ,L2] at hl
  subst hl;cases k with
  |zero=>lia
  |succ k=>
   obtain rfl:i=a:=by simpa [Fm.pl] using h
   exact yA.mpr rfl
 | .bin p l r,k,a,n,h,hk=>by
  refine dU (jT h) λh1 h2 h3=>?_;have hl:=congrArg NE h;simp only [Fm.pl,be,L2] at hl
  have p1:=nO l;have p2:=nO r;cases k with
  |zero=>lia
  |succ k=>
   refine rA (ad9 (by lia)) ?_;refine L4.mpr (aZ l.pl.length (by refine rA (propext (P2)) ?_;lia) ?_);refine L4.mpr (aZ l (uV l k a _ h1 (by lia)) ?_);refine L4.mpr (aZ r (uV r k _ _ h2 (by lia)) ?_);cases p<;>simp
theorem AS:∀ (G:List Fm) (a n:Nat),bJ G=F6 a n→n≤6→G∈ZE G.length a n
 | [],a,n,h,_=>by
  have hl:=congrArg NE h;simp only [bJ,List.flatMap_nil,EQ,L2] at hl
  subst hl;exact yA.mpr rfl
 |F::G,a,n,h,hk=>by
  have h':F.pl++bJ G=F6 a n:=h;refine dU (jT h') λh1 h2 h3=>?_;have p1:=nO F;refine rA AO ?_;refine rA Zt ?_;refine L4.mpr (aZ F.pl.length (by refine rA (propext (P2)) ?_;lia) ?_);refine L4.mpr (aZ F (uV F 6 a _ h1 (by lia)) ?_);exact DG.mpr (aZ G (AS G _ _ h2 (by lia)) rfl)
noncomputable def LI{α:Type}(t:Nat)(k:Nat→α):α:=Nat.casesOn t (k 0) (λn=>k (V8 n))
theorem o0{α:Type}(t:Nat)(k:Nat→α):LI t k=k t:=by cases t<;>rfl
theorem J9{a:Nat}(h:¬a=b):Qc a b=false:=by
 cases e:Qc a b with
 |false=>rfl
 |true=>exact absurd (Nat.eq_of_beq_eq_true e) h
noncomputable def Hj(L i:Nat):Nat:=V7 (Nat.div L (Nat.pow 16 i)) 16
noncomputable def unP(u v:Nat):Nat→Nat→Nat
 |0,_=>0
 |k+1,L=>Nat.add (bif Qc (V7 L 16) v then u else V7 L 16) (Nat.mul 16 (unP u v k (Nat.div L 16)))
noncomputable def pM(N L a b:Nat)(k:Nat→Bool):Bool:=
 LI (Hj L a) λu=>LI (Hj L b) λv=>bif Qc u v then false else LI (unP u v N L) k
noncomputable def Ko(u:Nat):Nat→Nat→Bool
 |0,_=>true
 |k+1,L=>Qc (V7 L 16) u&&Ko u k (Nat.div L 16)
noncomputable def Ri(N:Nat):List Jn→Nat→Bool
 | [],L=>Ko (Hj L 0) N L
 |f::r,L=>pM N L f.nd f.b (Ri N r)&&pM N L f.nd f.a (Ri N r)
noncomputable def stP(N:Nat):List Jn→Nat→(Nat→Bool)→Bool
 | [],L,k=>k L
 |f::r,L,k=>pM N L f.nd f.a λL=>pM N L f.nd f.b λL=>stP N r L k
noncomputable def ME{α:Type}:Fm→Nat→List Jn→List Jn→(Nat→Nat→List Jn→List Jn→α)→α
 | .at i,n,S,P,k=>LI i λi=>k i n S P
 | .bin p l r,n,S,P,k=>ME l n S P λx n S P=>ME r n S P λy n S P=>LI (6+n) λnd=>LI (n+1) λn=>bif p then k nd n S (P++[⟨true,nd,x,y⟩]) else k nd n (S++[⟨false,nd,x,y⟩]) P
noncomputable def Dw{α:Type}:List Fm→Nat→List Jn→List Jn→(List Jn→List Jn→α)→α
 | [],_,S,P,k=>k S P
 |F::G,n,S,P,k=>ME F n S P λzz n S P=>Dw G n S P k
theorem T6{α:Type}{P:List Jn}{k:Nat→Nat→List Jn→List Jn→α}:ME (.at i) n S P k=LI i λi=>k i n S P:=rfl
theorem XQ{α:Type}{p:Bool}{P:List Jn}{k:Nat→Nat→List Jn→List Jn→α}:ME (.bin p l r) n S P k=ME l n S P λx n S P=>ME r n S P λy n S P=>LI (6+n) λnd=>LI (n+1) λn=>bif p then k nd n S (P++[⟨true,nd,x,y⟩]) else k nd n (S++[⟨false,nd,x,y⟩]) P:=rfl
theorem Tv{α:Type}{G:List Fm}{P:List Jn}{k:List Jn→List Jn→α}:Dw (F::G) n S P k=ME F n S P λzz n S P=>Dw G n S P k:=rfl
noncomputable def ff:List Nat→Nat
 | []=>0
 |a::l=>a+16*ff l
noncomputable def zW(N L:Nat)(G:List Fm):Bool:=Dw G 0 [] [] λS P=>stP N S L (Ri N P)
theorem Tq{a:Nat}{l:List Nat}:ff (a::l)=a+16*ff l:=rfl
theorem mq{a:Nat}{l:List Nat}(h:a<16):ff (a::l)/16=ff l∧ff (a::l)%16=a:=by
 rw [Tq];lia
theorem ph:∀ (l:List Nat) (i:Nat),(∀x∈l,x<16)→Hj (ff l) i=l.getD i 0
 | [],i,_=>by
  refine (?_:0/16^i%16=0);exact rA (Nat.zero_div _) rfl
 |a::l,0,h=>by
  refine (?_:ff (a::l)/16^0%16=a);refine rA (TK _) ?_;refine rA (Nat.div_one _) ?_;exact (mq (h a (by simp))).2
 |a::l,i+1,h=>by
  refine (?_:ff (a::l)/16^ (i+1)%16=_);refine rA (PX _ _) ?_;refine rA (Nat.mul_comm _ _) ?_;refine rB (Rr _ _ _) ?_;refine rA ((mq (h a (by simp))).1) ?_;exact (ph l i λx hx=>h x (by simp [hx])).trans (by simp)
noncomputable def EX(ls:List Nat)(a b:Nat):List Nat:=ls.map λx=>if x=b then a else x
theorem JF(u v:Nat):∀ (l:List Nat),(∀x∈l,x<16)→unP u v l.length (ff l)=ff (EX l u v)
 | [],_=>rfl
 |a::l,h=>by
  have e:=mq (l:=l) (h a (by simp));refine (?_:(bif Qc (ff (a::l)%16) v then u else ff (a::l)%16)+16*unP u v l.length (ff (a::l)/16)=_);refine rA e.1 ?_;refine rA e.2 ?_;refine rA (JF u v l λx hx=>h x (by simp [hx])) ?_;refine (?_:_=(if a=v then u else a)+16*ff (EX l u v))
  by_cases q:a=v
  ·refine rA (if_pos q) ?_;refine rA (show Qc a v=true from by rw [q];exact Nat.beq_refl v) ?_;rfl
  ·refine rA (if_neg q) ?_;refine rA (J9 q) ?_;rfl
theorem yQ{l:List Nat}{u v:Nat}(h:∀x∈l,x<16)(hu:u<16):∀x∈EX l u v,x<16:=by
 intro x hx;simp only [EX,DG] at hx
 refine au hx λy hy zq2=>?_;subst zq2
 split
 ·exact hu
 ·exact h y hy
theorem uy{l:List Nat}(h:∀x∈l,x<16)(i:Nat):l.getD i 0<16:=by
 rw [LC];cases e:l[i]? with
 |none=>simp
 |some a=>exact h a (FV e)
theorem uG{l:List Nat}{a:Nat}{k:Nat→Bool}(h:∀x∈l,x<16):pM l.length (ff l) a b k=if l.getD a 0=l.getD b 0 then false else k (ff (EX l (l.getD a 0) (l.getD b 0))):=by
 unfold pM;refine rA (o0 _ _) ?_;refine rA (o0 _ _) ?_;refine rA (ph l a h) ?_;refine rA (ph l b h) ?_;refine rA (o0 _ _) ?_;refine rA (JF _ _ l h) ?_
 by_cases q:l.getD a 0=l.getD b 0
 ·refine rA (if_pos q) ?_;refine rA q ?_;refine rA (Nat.beq_refl _) ?_;rfl
 ·refine rA (if_neg q) ?_;refine rA (J9 q) ?_;rfl
theorem AZ(u:Nat):∀ (l:List Nat),(∀x∈l,x<16)→Ko u l.length (ff l)=l.all (· ==u)
 | [],_=>rfl
 |a::l,h=>by
  have e:=mq (l:=l) (h a (by simp));refine (?_:(Qc (ff (a::l)%16) u&&Ko u l.length (ff (a::l)/16))=_);refine rA e.1 ?_;refine rA e.2 ?_;refine rA (AZ u l λx hx=>h x (by simp [hx])) ?_;refine rA Ml ?_
  have:Qc a u=(a==u):=by
   by_cases q:a=u
   ·subst q;simp
   ·refine rA (J9 q) ?_;exact rA (beq_eq_false_iff_ne.mpr q) rfl
  exact rA this rfl
theorem Ca:Xj []=false:=rfl
theorem ze{l:List Nat}{u v:Nat}(h:l≠[]):EX l u v≠[]:=by
 intro q;exact h (O6.mp q)
theorem tP{l:List Nat}{u v:Nat}:(EX l u v).length=l.length:=by simp [EX]
theorem kU(l:List Nat)(a b:Nat)(r:List (Nat×Nat)):dj l ((a,b)::r)=if l.getD a 0=l.getD b 0 then [] else dj (EX l (l.getD a 0) (l.getD b 0)) r:=rfl
theorem Hu:∀ (forks:List Jn) (l:List Nat),(∀x∈l,x<16)→l≠[]→Ri l.length forks (ff l)=(yw (2^forks.length)).all λk=>Xj (dj l (sr k forks))
 | [],l,h,hn=>by
  refine (?_:Ko (Hj (ff l) 0) l.length (ff l)=_);refine rA (ph l 0 h) ?_;refine rA (AZ _ l h) ?_;simp only [EQ,TK,List.range_one,Ml,List.all_nil,Bool.and_true,Zn,My,Xj]
  have:(l != [])=true:=by simpa using hn
  refine rA this ?_;refine rA (T3 _) ?_;cases l<;>rfl
 |f::r,l,h,hn=>by
  have ih:∀ (a b:Nat),pM l.length (ff l) a b (Ri l.length r)=(yw (2^r.length)).all λk=>Xj (dj l ((a,b)::sr k r)):=by
   intro a b;refine rA (uG h) ?_
   by_cases q:l.getD a 0=l.getD b 0
   ·refine rA (if_pos q) ?_
    symm
    refine rA (propext (Tu)) ?_;refine (aZ 0 (D3.mpr (Uv _)) ?_);refine rA (kU _ _ _ _) ?_;refine rA (if_pos q) ?_;refine rA Ca ?_;exact HA
   ·refine rA (if_neg q) ?_
    have:=Hu r (EX l (l.getD a 0) (l.getD b 0)) (yQ h (uy h _)) (ze hn)
    rw [tP] at this
    refine rA this ?_
    congr 1
    funext k
    refine rA (kU _ _ _ _) ?_;exact rA (if_neg q) rfl
  refine (?_:(pM l.length (ff l) f.nd f.b (Ri l.length r)&&pM l.length (ff l) f.nd f.a (Ri l.length r))=_);refine rA (ih _ _) ?_;refine rA (ih _ _) ?_;refine rA (propext (PK)) ?_;refine rA (EZ _ _) ?_;rw [Bb,Bb,Bb];simp only [D3];constructor
  ·intro zi0 k hk
   obtain ⟨h1,h2⟩:=zi0;rw [AO,PX] at hk
   refine rA K8 ?_
   by_cases q:k%2=1
   ·refine rA (if_pos q) ?_;exact h1 (k/2) (by lia)
   ·refine rA (if_neg q) ?_;exact h2 (k/2) (by lia)
  ·intro hh
   constructor
   ·intro k hk
    have:=hh (2*k+1) (by refine rA AO ?_;refine rA (PX _ _) ?_;lia)
    rw [K8] at this
    rw [if_pos (by lia),show (2*k+1)/2=k by lia] at this
    exact this
   ·intro k hk
    have:=hh (2*k) (by refine rA AO ?_;refine rA (PX _ _) ?_;lia)
    rw [K8] at this
    rw [if_neg (by lia),show 2*k/2=k by lia] at this
    exact this
noncomputable def Lf(S:List Jn):List (Nat×Nat):=S.flatMap λx=>[(x.nd,x.a),(x.nd,x.b)]
theorem HH(k:Nat→Bool):∀ (S:List Jn) (l:List Nat),(∀x∈l,x<16)→l≠[]→(stP l.length S (ff l) k=if dj l (Lf S)=[] then false else k (ff (dj l (Lf S))))∧(dj l (Lf S)≠[]→(dj l (Lf S)).length=l.length∧∀x∈dj l (Lf S),x<16)
 | [],l,h,hn=>⟨by show k (ff l)=_;refine rA (show dj l (Lf [])=l from rfl) ?_;exact rA (if_neg hn) rfl,λzz=>⟨rfl,h⟩⟩
 |f::r,l,h,hn=>by
  have e0:Lf (f::r)=(f.nd,f.a)::(f.nd,f.b)::Lf r:=rfl
  show (pM l.length (ff l) f.nd f.a (λL=>pM l.length L f.nd f.b λL=>stP l.length r L k))=_∧_
  refine rA (uG h) ?_;refine rA e0 ?_;refine rA (kU _ _ _ _) ?_
  by_cases q:l.getD f.nd 0=l.getD f.a 0
  ·refine rA (if_pos q) ?_;refine rA (if_pos q) ?_;exact ⟨rfl,λx=>absurd rfl x⟩
  ·refine rA (if_neg q) ?_;refine rA (if_neg q) ?_
   have h1:=yQ (v:=l.getD f.a 0) h (uy h f.nd);have n1:=ze (u:=l.getD f.nd 0) (v:=l.getD f.a 0) hn;have e1:=tP (l:=l) (u:=l.getD f.nd 0) (v:=l.getD f.a 0);generalize EX l (l.getD f.nd 0) (l.getD f.a 0)=l1 at h1 n1 e1⊢
   refine rB e1 ?_;refine rA (uG h1) ?_;refine rA (kU _ _ _ _) ?_
   by_cases q':l1.getD f.nd 0=l1.getD f.b 0
   ·refine rA (if_pos q') ?_;refine rA (if_pos q') ?_;exact ⟨rfl,λx=>absurd rfl x⟩
   ·refine rA (if_neg q') ?_;refine rA (if_neg q') ?_
    have h2:=yQ (v:=l1.getD f.b 0) h1 (uy h1 f.nd);have n2:=ze (u:=l1.getD f.nd 0) (v:=l1.getD f.b 0) n1;have e2:=tP (l:=l1) (u:=l1.getD f.nd 0) (v:=l1.getD f.b 0);generalize EX l1 (l1.getD f.nd 0) (l1.getD f.b 0)=l2 at h2 n2 e2⊢
    refine rB e2 ?_;exact HH k r l2 h2 n2
theorem Ak{α:Type}:∀ (F:Fm) (n:Nat) (S P:List Jn) (k:Nat→Nat→List Jn→List Jn→α),
  ME F n S P k=k (gr F n).1 (n+(gr F n).2.length) (S++(gr F n).2.filter λx=>!x.par) (P++(gr F n).2.filter (·.par))
 | .at i,n,S,P,k=>by simp only [T6,o0,Jg,List.filter_nil,DB,EQ,TQ]
 | .bin p l r,n,S,P,k=>by
  refine rA XQ ?_;refine rA (Ak l _ _ _ _) ?_;refine rA (Ak r _ _ _ _) ?_;refine rA (o0 _ _) ?_;refine rA (o0 _ _) ?_;cases p<;>simp [zR,QZ]
theorem Bn{α:Type}:∀ (G:List Fm) (n:Nat) (S P:List Jn) (k:List Jn→List Jn→α),Dw G n S P k=k (S++(eE G n).filter λx=>!x.par) (P++(eE G n).filter (·.par))
 | [],n,S,P,k=>by rw [show eE [] n=[] from rfl];simp [show Dw [] n S P k=k S P from rfl]
 |F::G,n,S,P,k=>by
  refine rA Tv ?_;rw [Ak];refine rA (Bn G _ _ _ _) ?_;rw [sq]
  simp
theorem Kl{G:List Fm}(hm:∀x∈start m (eE G 0).length,x<16):trees m G=zW (6+(eE G 0).length) (ff (start m (eE G 0).length)) G:=by
 unfold zW;rw [Bn];refine rA (Lc _) ?_;refine rA (Lc _) ?_;have hl:(start m (eE G 0).length).length=6+(eE G 0).length:=by simp [start]
 have hn:start m (eE G 0).length≠[]:=by intro q;rw [q] at hl;simp at hl;lia
 refine fY (HH (Ri (6+(eE G 0).length) ((eE G 0).filter (·.par))) ((eE G 0).filter λx=>!x.par) _ hm hn) λe h=>?_;rw [hl] at e
 refine rA e ?_;unfold trees;have hs:i9 (eE G 0)=Lf ((eE G 0).filter λx=>!x.par):=rfl;refine rA hs ?_;generalize dj (start m (eE G 0).length) (Lf ((eE G 0).filter λx=>!x.par))=L at h⊢
 by_cases q:L=[]
 ·refine rA (if_pos q) ?_
  refine rA (propext (Tu)) ?_;refine (aZ 0 (D3.mpr (Uv _)) ?_);unfold j5;refine rA (if_pos q) ?_;refine rA Ca ?_;exact HA
 ·refine rA (if_neg q) ?_
  refine fY (h q) λh1 h2=>?_;refine rB hl ?_;refine rB h1 ?_;refine rA (Hu _ L h2 q) ?_;unfold j5;simp only [if_neg q]
noncomputable def lb:Fm→Nat
 | .at i=>Nat.pow 2 i
 | .bin _ l r=>Pj (lb l) (lb r)
noncomputable def ue:List Fm→Nat
 | []=>0
 |F::A=>Pj (lb F) (ue A)
noncomputable def HZ:List Nat→Nat→Bool
 | [],_=>true
 |p::r,x=>(Qc (Nat.land x p) 0||Qc (Nat.land x p) p)&&HZ r x
noncomputable def zo(ps:List Nat)(l r:Fm)(B:List Fm):List Fm→List Fm→Option (List Fm×List Fm)
 | [],pre=>bif HZ ps (lb l) then some ([l],pre++r::B) else none
 |F::A,pre=>bif HZ ps (Pj (lb F) (Pj (ue A) (lb l))) then some (F::(A++[l]),pre++r::B) else zo ps l r B A (pre++[F])
noncomputable def yL(ps:List Nat)(l r:Fm)(A:List Fm):List Fm→List Fm→Option (List Fm×List Fm)
 | [],pre=>bif HZ ps (Pj (lb r) (ue pre)) then some (r::pre,A++[l]) else none
 |F::B,pre=>bif HZ ps (Pj (lb r) (ue pre)) then some (r::pre,A++l::F::B) else yL ps l r A B (pre++[F])
noncomputable def WE(ps:List Nat)(rc:List Fm→Bool):List Fm→List Fm→Bool
 |_,[]=>false
 |A,.bin false l r::B=>match zo ps l r B A [] with
  |some w=>rc w.1&&rc w.2
  |none=>match yL ps l r A B [] with
   |some w=>rc w.1&&rc w.2
   |none=>WE ps rc (A++[.bin false l r]) B
 |A,F::B=>WE ps rc (A++[F]) B
noncomputable def prM(ps:List Nat):Nat→List Fm→Bool
 |0,_=>false
 |k+1,G=>two (fI G)||WE ps (prM ps k) [] (fI G)
noncomputable def F9:List (List Nat):=[[33,18,12],[33,6,24],[9,6,48],[3,36,24],[3,12,48]]
def NY(x:Nat)(s:List Nat):Prop:=∀p,x.testBit p=true↔p∈s
theorem Vo(i:Nat):NY (Nat.pow 2 i) [i]:= λp=>by
 refine (?_:(2^i).testBit p=true↔_);refine rA Nat.testBit_two_pow ?_;simp [eq_comm]
theorem NY.or{x y:Nat}{s t:List Nat}(h:NY x s)(h':NY y t):NY (Pj x y) (s++t):= λp=>by
 refine (?_:(x ||| y).testBit p=true↔_);refine rA (Nat.testBit_or _ _ _) ?_;refine rA (Px _ _) ?_;refine rA (propext (AA)) ?_;refine rA (propext (h p)) ?_;rw [h' p]
theorem oy:∀F:Fm,NY (lb F) F.pl
 | .at i=>Vo i
 | .bin _ l r=>(oy l).or (oy r)
theorem Bl:∀G:List Fm,NY (ue G) (bJ G)
 | []=> λp=>by show (0:Nat).testBit p=true↔_;simp [bJ]
 |F::G=>(oy F).or (Bl G)
theorem O3:((yw 5).all λi=>(yw 64).all λx=>HZ (F9.getD i []) x==(yw 6).all λp=>!x.testBit p||x.testBit ((aH.getD i []).getD p 0))=true:=by decide+kernel
theorem v5{x:Nat}{s:List Nat}(hi:i<5)(hx:NY x s)(hs:∀p∈s,p<6):HZ (F9.getD i []) x=bk (aH.getD i []) s:=by
 have hlt:x<2^6:=by
  apply Nat.lt_pow_two_of_testBit;intro j hj;cases e:x.testBit j with
  |false=>rfl
  |true=>have:=hs j ((hx j).mp e);lia
 have:=Bb.mp (Bb.mp O3 i (D3.mpr hi)) x (D3.mpr hlt)
 rw [beq_iff_eq] at this
 refine rA this ?_;refine rA (propext (PK)) ?_;rw [Bb];unfold bk;rw [Bb];constructor
 ·intro h p hp
  have:=h p (D3.mpr (hs p hp))
  rw [(hx p).mpr hp] at this
  simp only [Q_,Pm] at this
  simpa using (hx _).mp this
 ·intro h p _
  cases e:x.testBit p with
  |false=>rfl
  |true=>
   have:=h p ((hx p).mp e)
   simp only [Q_,Pm];exact (hx _).mpr (by simpa using this)
abbrev P6(G:List Fm):Prop:=∀p∈bJ G,p<6
theorem d5(A B:List Fm):bJ (A++B)=bJ A++bJ B:=List.flatMap_append
theorem b6(F:Fm)(B:List Fm):bJ (F::B)=F.pl++bJ B:=rfl
theorem gy:bJ []=[]:=rfl
theorem gT:∀G:List Fm,bJ (G.flatMap xI)=bJ G
 | []=>rfl
 |F::G=>by
  refine rA Fb ?_;refine rA (d5 _ _) ?_;refine rA (gT G) ?_;refine rA (b6 _ _) ?_
  congr 1
  cases F with
  |«at» i=>simp [K0,bJ]
  |bin p l r=>cases p<;>simp [Sa,R6,bJ,Fm.pl]
theorem qF(G:List Fm):bJ (fI G)=bJ G:=by
 unfold fI;refine rA (gT _) ?_;refine rA (gT _) ?_;refine rA (gT _) ?_;refine rA (gT _) ?_;exact rA (gT _) rfl
theorem ak9{pre:List Fm}:zo ps l r B [] pre=bif HZ ps (lb l) then some ([l],pre++r::B) else none:=rfl
theorem al7{A pre:List Fm}:zo ps l r B (F::A) pre=bif HZ ps (Pj (lb F) (Pj (ue A) (lb l))) then some (F::(A++[l]),pre++r::B) else zo ps l r B A (pre++[F]):=rfl
theorem ak7{A pre:List Fm}:yL ps l r A [] pre=bif HZ ps (Pj (lb r) (ue pre)) then some (r::pre,A++[l]) else none:=rfl
theorem aj9{A pre:List Fm}:yL ps l r A (F::B) pre=bif HZ ps (Pj (lb r) (ue pre)) then some (r::pre,A++l::F::B) else yL ps l r A B (pre++[F]):=rfl
theorem Bc(hi:i<5)(l r:Fm)(B:List Fm)(hl:∀p∈l.pl,p<6):∀ (A pre:List Fm),P6 A→zo (F9.getD i []) l r B A pre=(gQ l r B A pre).find? (λw=>bk (aH.getD i []) (bJ w.1))
 | [],pre,_=>by
  have e:bJ [l]=l.pl:=by simp [bJ]
  rw [ak9,Vk];refine rA (v5 hi (oy l) hl) ?_;rw [M9];refine rA e ?_;cases bk (aH.getD i []) l.pl<;>rfl
 |F::A,pre,h=>by
  have hr:NY (Pj (lb F) (Pj (ue A) (lb l))) (bJ (F::(A++[l]))):=by
   have:=(oy F).or ((Bl A).or (oy l))
   refine rA (b6 _ _) ?_;refine rA (d5 _ _) ?_
   simpa [bJ] using this
  have hs:∀p∈bJ (F::(A++[l])),p<6:=by
   intro p hp;rw [b6,d5] at hp
   simp only [AA] at hp
   rcases hp with q|q|q
   ·exact h p (by refine rA (b6 _ _) ?_;simp [q])
   ·exact h p (by refine rA (b6 _ _) ?_;simp [q])
   ·exact hl p (by simpa [bJ] using q)
  rw [al7,VU];refine rA (v5 hi hr hs) ?_;rw [M9];refine rA (Bc hi l r B hl A (pre++[F]) λp hp=>h p (by rw [b6];simp [hp])) ?_;cases bk (aH.getD i []) (bJ (F::(A++[l])))<;>rfl
theorem Ax(hi:i<5)(l r:Fm)(A:List Fm)(hr:∀p∈r.pl,p<6):∀ (B pre:List Fm),P6 B→P6 pre→yL (F9.getD i []) l r A B pre=(iU l r A B pre).find? (λw=>bk (aH.getD i []) (bJ w.1))
 | [],pre,_,hp=>by
  have hs:∀p∈bJ (r::pre),p<6:=by
   intro p q;rw [b6,AA] at q
   exact q.elim (hr p) (hp p)
  rw [ak7,SJ];refine rA (v5 hi ((oy r).or (Bl pre)) hs) ?_;rw [M9];refine (?_:_=match bk (aH.getD i []) (r.pl++bJ pre) with|true=>_|false=>_);cases bk (aH.getD i []) (r.pl++bJ pre)<;>rfl
 |F::B,pre,h,hp=>by
  have hs:∀p∈bJ (r::pre),p<6:=by
   intro p q;rw [b6,AA] at q
   exact q.elim (hr p) (hp p)
  rw [aj9,TT,v5 hi ((oy r).or (Bl pre)) hs,M9,Ax hi l r A hr B (pre++[F]) (λp hp=>h p (by refine rA (b6 _ _) ?_;simp [hp])) (by
   intro p q;rw [d5,AA] at q
   rcases q with q|q
   ·exact hp p q
   ·exact h p (by refine rA (b6 _ _) ?_;simp [bJ] at q;simp [q]))]
  refine (?_:_=match bk (aH.getD i []) (r.pl++bJ pre) with|true=>_|false=>_);cases bk (aH.getD i []) (r.pl++bJ pre)<;>rfl
theorem wj(l r:Fm)(B:List Fm):∀ (A pre:List Fm) (w:List Fm×List Fm),w∈gQ l r B A pre→∀p,(p∈bJ w.1∨p∈bJ w.2)→(p∈bJ pre∨p∈bJ A∨p∈l.pl∨p∈r.pl∨p∈bJ B)
 | [],pre,w,h,p,hp=>by
  simp only [Vk,yA] at h
  subst h;simp only [d5,b6,gy,DB,AA] at hp
  rcases hp with q|q|q|q<;>simp [q]
 |F::A,pre,w,h,p,hp=>by
  simp only [VU,Ch] at h
  rcases h with rfl|h
  ·simp only [d5,b6,gy,DB,AA] at hp⊢
   rcases hp with (q|q|q)|q|q|q<;>simp [q]
  ·have:=wj l r B A (pre++[F]) w h p hp
   simp only [d5,b6,gy,DB,AA] at this⊢
   rcases this with (q|q)|q|q|q|q<;>simp [q]
theorem v9(l r:Fm)(A:List Fm):∀ (B pre:List Fm) (w:List Fm×List Fm),w∈iU l r A B pre→∀p,(p∈bJ w.1∨p∈bJ w.2)→(p∈bJ pre∨p∈bJ A∨p∈l.pl∨p∈r.pl∨p∈bJ B)
 | [],pre,w,h,p,hp=>by
  simp only [SJ,yA] at h
  subst h;simp only [d5,b6,gy,DB,AA] at hp⊢
  rcases hp with (q|q)|q|q<;>simp [q]
 |F::B,pre,w,h,p,hp=>by
  simp only [TT,Ch] at h
  rcases h with rfl|h
  ·simp only [d5,b6,gy,DB,AA] at hp⊢
   rcases hp with (q|q)|q|q|q|q<;>simp [q]
  ·have:=v9 l r A B (pre++[F]) w h p hp
   simp only [d5,b6,gy,DB,AA] at this⊢
   rcases this with (q|q)|q|q|q|q<;>simp [q]
theorem tA(hi:i<5){rm:List Fm→Bool}(hrc:∀G,P6 G→rm G=rc G):∀ (B A:List Fm),P6 A→P6 B→WE (F9.getD i []) rm A B=xJ (aH.getD i []) rc A B
 | [],A,_,_=>rfl
 | .at p::B,A,hA,hB=>by
  exact tA hi hrc B (A++[.at p]) (λq hq=>by rw [d5,AA] at hq;exact hq.elim (hA q) λh=>hB q (by refine rA (b6 _ _) ?_;simp [bJ] at h;simp [Fm.pl] at h⊢;simp [h])) λq hq=>hB q (by refine rA (b6 _ _) ?_;simp [hq])
 | .bin true l r::B,A,hA,hB=>by
  exact tA hi hrc B (A++[.bin true l r]) (λq hq=>by rw [d5,AA] at hq;exact hq.elim (hA q) λh=>hB q (by refine rA (b6 _ _) ?_;rw [b6,gy,DB] at h;simp [h])) λq hq=>hB q (by refine rA (b6 _ _) ?_;simp [hq])
 | .bin false l r::B,A,hA,hB=>by
  have hl:∀p∈l.pl,p<6:= λp hp=>hB p (by refine rA (b6 _ _) ?_;simp [Fm.pl,hp]);have hr:∀p∈r.pl,p<6:= λp hp=>hB p (by refine rA (b6 _ _) ?_;simp [Fm.pl,hp]);have hB':P6 B:= λq hq=>hB q (by refine rA (b6 _ _) ?_;simp [hq]);have hw:∀w,w∈gQ l r B A []∨w∈iU l r A B []→P6 w.1∧P6 w.2:=by
   intro w h;have key:∀p,(p∈bJ w.1∨p∈bJ w.2)→p<6:=by
    intro p hp
    have:=h.elim (λh=>wj l r B A [] w h p hp) λh=>v9 l r A B [] w h p hp
    rcases this with q|q|q|q|q
    ·simp [bJ] at q
    ·exact hA p q
    ·exact hl p q
    ·exact hr p q
    ·exact hB' p q
   exact ⟨λp hp=>key p (.inl hp),λp hp=>key p (.inr hp)⟩
  refine (?_:(match zo (F9.getD i []) l r B A [] with
   |some w=>rm w.1&&rm w.2
   |none=>match yL (F9.getD i []) l r A B [] with
    |some w=>rm w.1&&rm w.2
    |none=>WE (F9.getD i []) rm (A++[Fm.bin false l r]) B)=(match (gQ l r B A []++iU l r A B []).find? (λw=>bk (aH.getD i []) (bJ w.1)) with
   |some w=>rc w.1&&rc w.2
   |none=>xJ (aH.getD i []) rc (A++[Fm.bin false l r]) B))
  refine rA (Bc hi l r B hl A [] hA) ?_;refine rA (Ax hi l r A hr B [] hB' (λp hp=>by simp [bJ] at hp)) ?_;simp only [List.find?_append];cases e1:(gQ l r B A []).find? (λw=>bk (aH.getD i []) (bJ w.1)) with
  |some w=>
   refine fY (hw w (.inl (Nl e1))) λh1 h2=>?_;simp only [Option.some_or,hrc _ h1,hrc _ h2]
  |none=>
   simp only [Option.none_or];cases e2:(iU l r A B []).find? (λw=>bk (aH.getD i []) (bJ w.1)) with
   |some w=>
    refine fY (hw w (.inr (Nl e2))) λh1 h2=>?_;simp only [hrc _ h1,hrc _ h2]
   |none=>
    exact tA hi hrc B (A++[.bin false l r]) (λq hq=>by rw [d5,AA] at hq;exact hq.elim (hA q) λh=>hB q (by refine rA (b6 _ _) ?_;rw [b6,gy,DB] at h;simp [h])) hB'
theorem HS(hi:i<5):∀ (k:Nat) (G:List Fm),P6 G→prM (F9.getD i []) k G=pr (aH.getD i []) k G
 |0,_,_=>rfl
 |k+1,G,h=>by
  refine (?_:(two (fI G)||WE (F9.getD i []) (prM (F9.getD i []) k) [] (fI G))=(two (fI G)||xJ (aH.getD i []) (pr (aH.getD i []) k) [] (fI G)));exact rA (tA hi (λG hG=>HS hi k G hG) (fI G) [] (λp hp=>by simp [bJ] at hp) (λp hp=>h p (by rw [qF] at hp;exact hp))) rfl
theorem zI:∀ (F:Fm) (n:Nat),(gr F n).2.length+1=F.pl.length
 | .at _,_=>rfl
 | .bin p l r,n=>by
  have h1:=zI l n;have h2:=zI r (n+(gr l n).2.length);simp only [zR,Fm.pl,be,AO,EQ];lia
theorem kR:∀ (G:List Fm) (n:Nat),(eE G n).length+G.length=(bJ G).length
 | [],_=>rfl
 |F::G,n=>by
  have h1:=zI F n;have h2:=kR G (n+(gr F n).2.length);simp only [sq,b6,be,AO];lia
theorem KH:((yw 5).all λi=>(yw 6).all λn=>(start (aH.getD i []) n).all λx=>decide (x<16))=true:=by decide+kernel
noncomputable def Na(r N:Nat):Bool:=(yw 5).all λi=>(ZE r 0 6).all λG=>zW N (ff (start (aH.getD i []) (6-r))) G==prM (F9.getD i []) 12 G
theorem al0:Na 1 11=true:=by decide+kernel
theorem an3:Na 2 10=true:=by decide+kernel
theorem ap0:Na 3 9=true:=by decide+kernel
theorem SZ{G:List Fm}(hi:i<5)(hp:bJ G=F6 0 6)(h1:1≤G.length)(h3:G.length≤3):trees (aH.getD i []) G=pr (aH.getD i []) 12 G:=by
 have hl:=kR G 0;rw [hp,L2] at hl
 have hn:(eE G 0).length=6-G.length:=by lia
 have hs:∀x∈start (aH.getD i []) (eE G 0).length,x<16:=by
  have:=Bb.mp (Bb.mp KH i (D3.mpr hi)) (eE G 0).length (D3.mpr (by lia))
  intro x hx
  simpa using Bb.mp this x hx
 have h6:P6 G:= λp h=>by rw [hp,P2] at h;lia
 refine rA (Kl hs) ?_;refine rB (HS hi 12 G h6) ?_;refine rA hn ?_;have hm:=AS G 0 6 hp (DI _);have key:Na G.length (6+(6-G.length))=true:=by
  have:G.length=1∨G.length=2∨G.length=3:=by lia
  rcases this with q|q|q
  ·refine rA q ?_;exact al0
  ·refine rA q ?_;exact an3
  ·refine rA q ?_;exact ap0
 have:=Bb.mp (Bb.mp key i (D3.mpr hi)) G hm
 simpa using this
theorem p6{k:Int}(h0:0≤k)(h1:k≤n):clipAt n k=k.toNat:=by
 unfold clipAt;refine rA (if_neg (by lia)) ?_
 congr 1;lia
theorem p7{X:Type}(xs:List X)(h:k≤xs.length):fA xs none (some (k:Int))=xs.take k:=by
 simp only [fA,SG,p6 (n:=xs.length) (k:=k) (by lia) (by lia),Fa,Sn,RS]
theorem Bj{X:Type}(xs:List X)(h:k≤xs.length):fA xs (some (k:Int)) none=xs.drop k:=by
 simp only [fA,SG,p6 (n:=xs.length) (k:=k) (by lia) (by lia),Fa];exact F7 (by simp)
theorem JG{X:Type}(xs:List X){a:Nat}(hab:a≤b)(h:b≤xs.length):fA xs (some (a:Int)) (some (b:Int))=(xs.drop a).take (b-a):=by
 simp only [fA,SG,p6 (n:=xs.length) (k:=a) (by lia) (by lia),p6 (n:=xs.length) (k:=b) (by lia) (by lia),Fa]
theorem f6{p q:PF}{lo hi:Option Int}(hf:f ρ μ=some (.d (.list xs),μ))(hp:p ρ μ=some (lo,μ))(hq:q ρ μ=some (hi,μ))(hz:xs.length≤sizeLine):cc f p q ρ μ=some (.d (.list (fA xs lo hi)),μ):=by
 exact (b5 hf).trans ((b5 hp).trans ((b5 hq).trans ((f5 (rfl:mz (.d (.list xs))=none)).trans ((f5 (rfl:Iw (.d (.list xs))=none)).trans ((bV (rfl:da μ (.d (.list xs))=some xs)).trans (if_pos hz))))))
theorem jU{x:Int}(hf:f ρ μ=some (.d (.int x),μ))(hg:g ρ μ=some (.d (.int y),μ)):aj f g (aS λx y=>some (x-y)) ρ μ=some (.d (.int (x-y)),μ):=cV hf hg rfl
theorem ln{b:Bool}(e:t ρ μ=some (b,μ))(ht:b=true→f ρ μ=some (V,μ))(hf:b=false→g ρ μ=some (V,μ)):dx t f g ρ μ=some (V,μ):=by
 cases b with
 |true=>refine rA (wk e) ?_;exact ht rfl
 |false=>refine rA (sL e) ?_;exact hf rfl
inductive Tr where
 |at (i:Nat)
 |nd (t:Nat) (l r:Tr)
noncomputable def Tr.code:Tr→List Int
 | .at i=>[(i:Int)]
 | .nd t l r=>(-1-(t:Int))::(l.code++r.code)
noncomputable def Tr.pl:Tr→List Nat
 | .at i=>[i]
 | .nd _ l r=>l.pl++r.pl
noncomputable def Tr.ok(n:Nat):Tr→Prop
 | .at i=>i<6
 | .nd t l r=>t<n∧l.ok n∧r.ok n
theorem Tr.ok.up:∀ {T:Tr},T.ok n→T.ok (n+1)
 | .at _,h=>h
 | .nd _ _ _,h=>(fu (P1 h.1) h.2.1.up h.2.2.up)
noncomputable def Tr.sz:Tr→Nat
 | .at _=>1
 | .nd _ l r=>l.sz+r.sz+1
theorem Tr.code_len:∀T:Tr,T.code.length+1=2*T.pl.length
 | .at _=>rfl
 | .nd _ l r=>by
  have:=l.code_len;have:=r.code_len
  simp only [Tr.code,Tr.pl,AO,be];lia
noncomputable def gJ(F:List Tr):List PyData:=F.map λT=>.list (iL T.code)
noncomputable def l7(F:List Tr):List Nat:=F.flatMap Tr.pl
noncomputable def t7(C m ro pa:PyData)(T:Int)(j:Nat)(a b c d:Option AV):d0:=[some (.d C),some (.d (.int T)),some (.d m),some (.d ro),some (.d pa),some (.c j),a,b,c,d]
theorem Vx{l:List Int}(h:k<l.length):(iL l)[k]? =some (.int (l.getD k 0)):=by
 simp [iL,Fe h]
theorem lx{l:List Int}(hf:f ρ μ=some (V,μ))(hs:tT μ V=some (iL l))(hg:g ρ μ=some (.d (.int k),μ))(h:k<l.length)(hz:l.length≤1000):aF f g ρ μ=some (.d (.int (l.getD k 0)),μ):=
 cH hf hg hs (by lia) (by refine rA (Fa _) ?_;exact Vx h) (by refine rA (xG _) ?_;exact aa (by lia))
theorem Zv(k:Int)(fP:PyData→PyData)(hf:∀ (n x:Int),∃y:Int,fP (.tuple [.int n,.int x])=.int y)(pP:PyData→Bool)(hp:∀ (n:Nat) (x:Int),pP (.tuple [.int n,.int x])= !((n:Int)==k)):
  ∀ (ps:List Int) (j:Nat),∃ps',((cL j (iL ps)).filter pP).map fP=iL ps'∧(((j:Int)≤k∧k<j+ps.length)→ps'.length+1=ps.length)∧(¬((j:Int)≤k∧k<j+ps.length)→ps'.length=ps.length)
 | [],j=>(cJ ([]) rfl (λh=>by simp at h;omega) (λzz=>rfl))
 |x::ps,j=>by
  refine cn (Zv k fP hf pP hp ps (j+1)) λps' e h1 h2=>?_;refine bP (hf j x) λy ey=>?_;have hc:cL j (iL (x::ps))=.tuple [.int j,.int x]::cL (j+1) (iL ps):=rfl;refine rA hc ?_;refine rA KC ?_;refine rA (hp _ _) ?_
  by_cases q:(j:Int)=k
  ·refine (cJ ps' ?_ (λzz=>?_) (λh=>absurd ⟨by omega,by simp only [AO];omega⟩ h))
   ·have:((j:Int)==k)=true:=by simpa using q
    refine rA this ?_;exact e
   ·refine rA (h2 (by omega)) ?_;exact rA AO rfl
  ·refine (cJ (y::ps') ?_ (λh=>?_) (λh=>?_))
   ·have:((j:Int)==k)=false:=by simpa using q
    refine rA this ?_;simp only [UF,if_true,ET,e,ey]
   ·simp only [AO] at h⊢
    exact rA (h1 (by omega)) rfl
   ·simp only [AO] at h⊢
    exact rA (h2 (by omega)) rfl
abbrev RD:SF:=(c6 7 (aj (aF (a9 0) (a9 6)) (aj (af [(a9 3)] dz) (kI 1) (aS λx y=>some (x-y))) (aS cq)))
abbrev Qw:SF:=(ci (d_ (a9 5) (dx (bC (aF (a9 4) (a9 7)) (aF (a9 4) (aj (a9 7) (kI 1) aT)) dH) (kI 274) (kI 272))))
abbrev Q1:SF:=(c6 4 (cb on (b_ [(a9 4)] g9) (jc 10 11) (cU (bC (a9 10) (a9 7) po) (aY (dx (bC (a9 11) (aF (a9 4) (aj (a9 7) (kI 1) aT)) dH) (aF (a9 4) (a9 7)) (a9 11))))))
abbrev QG:SF:=(c6 3 (aj (aj (cc (a9 3) ba (aL (a9 7))) (aV [(aj (aj (aV [(aj (ju (kI 1)) (a9 6) (aS λx y=>some (x-y)))]) (aF (a9 3) (a9 7)) aT) (aF (a9 3) (aj (a9 7) (kI 1) aT)) aT)]) aT) (cc (a9 3) (aL (aj (a9 7) (kI 2) aT)) ba) aT))
abbrev Jq:SF:=(ap RD (ap Qw (ap Q1 (ap QG aP))))
noncomputable def ae7(a b:Int):PyData→PyData
 | .tuple [_,.int y]=>.int (if y=b then a else y)
 |y=>y
noncomputable def YF(k:Int):PyData→Bool
 | .tuple [.int n,_]=>!(n==k)
 |_=>false
noncomputable def zl:Int→Prop:= λx=>x=272∨x=274
theorem Tf{M:PyData}{T:Int}{t:Nat}{F:List Tr}{ps:List Int}{b c d:Option AV}(hc:cs.length=6)(ht:t<6)(hF:2≤F.length)(h6:F.length≤6)(hps:ps.length=F.length)(hK:K.length≤10)
  (hpl:l7 F=F6 0 6) (hok:∀x∈F,x.ok t) (hj:μ[j]? =some (.live (iL K))):
  ∃F' ps' x k,Jq (t7 (.list (iL cs)) M (.list (gJ F)) (.list (iL ps)) T j (some (.d (.int t))) b c d) μ=some (.next,t7 (.list (iL cs)) M (.list (gJ F')) (.list (iL ps')) T j (some (.d (.int t))) (some (.d (.int k))) c d,μ.set j (.live (iL (K++[x]))))∧
   F'.length+1=F.length∧ps'.length=F'.length∧l7 F'=F6 0 6∧(∀x∈F',x.ok (t+1))∧zl x:=by
 have hz:(gJ F).length≤sizeLine:=by rw [gJ];refine rA (xG _) ?_;exact aa (by lia)
 have hrl:(gJ F).length=F.length:=by rw [gJ];exact rA (xG _) rfl
 
 have hm0:0≤(cs.getD t 0).fmod ((F.length:Int)-1):=F8 _ (by lia);have hm1:(cs.getD t 0).fmod ((F.length:Int)-1)< (F.length:Int)-1:=Il _ (by lia);refine eC λGG kG=>?_;refine bP (L1 hm0) λk hk=>?_;have hkF:k+1<F.length:=by lia
 obtain ⟨A,l,r,B,rfl,hA⟩:∃A l r B,F=A++l::r::B∧A.length=k:=by
  refine (LY (F.take k) (F[k]) (F[k+1]) (F.drop (k+2)) ?_ (by refine rA LF ?_;lia));refine rA (Rt _) ?_;refine rA (Rt _) ?_;exact rA (LM _ _) rfl
 refine kG ?_;have hlen:(A++l::r::B).length=A.length+B.length+2:=by simp only [be,AO];lia
 generalize hFF:A++l::r::B=F at*
 let ρ0:=t7 (.list (iL cs)) M (.list (gJ F)) (.list (iL ps)) T j (some (.d (.int t))) b c d
 let ρ1:=t7 (.list (iL cs)) M (.list (gJ F)) (.list (iL ps)) T j (some (.d (.int t))) (some (.d (.int k))) c d
 have e0:RD ρ0 μ=some (.next,ρ1,μ):=by
  refine (bO (cV (lx (f:=a9 0) (g:=a9 6) (V:=.d (.list (iL cs))) (k:=t) rfl rfl rfl (by lia) (by lia)) (jU (gH (f:=a9 3) (xs:=gJ F) rfl rfl hz) rfl) (fj (by lia)))).trans ?_;refine rA hrl ?_;refine rA hk ?_;rfl
 
 have ei:∀μ,aF (a9 4) (a9 7) ρ1 μ=some (.d (.int (ps.getD k 0)),μ):= λμ=>lx (V:=.d (.list (iL ps))) rfl rfl rfl (by lia) (by lia);have ei1:∀μ,aF (a9 4) (aj (a9 7) (kI 1) aT) ρ1 μ=some (.d (.int (ps.getD (k+1) 0)),μ):= λμ=>lx (V:=.d (.list (iL ps))) rfl rfl (cR (x:=k) (y:=1) rfl rfl) (by lia) (by lia)
 let x:Int:=if ps.getD k 0=ps.getD (k+1) 0 then 274 else 272
 have ex:dx (bC (aF (a9 4) (a9 7)) (aF (a9 4) (aj (a9 7) (kI 1) aT)) dH) (kI 274) (kI 272) ρ1 μ=some (.d (.int x),μ):=by
  refine ln (o4 (ei μ) (ei1 μ)) (λh=>?_) (λh=>?_)
  ·show _=some (AV.d (.int (if _ then _ else _)),μ)
   refine rA (if_pos (by simpa using h)) ?_;rfl
  ·show _=some (AV.d (.int (if _ then _ else _)),μ)
   refine rA (if_neg (by simpa using h)) ?_;rfl
 have e1:Qw ρ1 μ=some (.next,ρ1,μ.set j (.live (iL (K++[x])))):=by
  refine (eB (gt (j:=j) rfl ex hj (by refine rA (xG _) ?_;exact aa (by lia)))).trans ?_;exact rA (show iL K++[EU x]=iL (K++[x]) by simp) rfl
 generalize hμ:μ.set j (.live (iL (K++[x])))=μ1 at e1⊢
 
 refine cn (Zv (k:Int) (ae7 (ps.getD k 0) (ps.getD (k+1) 0)) (λn y=>⟨_,rfl⟩) (YF k) (λn y=>rfl) ps 0) λps' eps hp1 zz=>?_;have hpl':=hp1 (by lia)
 let ρ2:=t7 (.list (iL cs)) M (.list (gJ F)) (.list (iL ps')) T j (some (.d (.int t))) (some (.d (.int k))) c d
 have e2:Q1 ρ1 μ1=some (.next,ρ2,μ1):=by
  have hcm:=qf (sc:=on) (t:=bC (a9 10) (a9 7) po) (e:=dx (bC (a9 11) (aF (a9 4) (aj (a9 7) (kI 1) aT)) dH) (aF (a9 4) (a9 7)) (a9 11)) (ρ:=ρ1) (μ:=μ1) 10 11 (by decide) (YF k) (ae7 (ps.getD k 0) (ps.getD (k+1) 0))
   (km (f:=a9 4) (V:=.d (.list (iL ps))) (xs:=iL ps) rfl rfl) (az _ _) (λy hy=>by
    refine eC λGG kG=>?_;refine lK (ms ps 0 hy) λn o zq2=>?_;subst zq2;refine kG ?_;refine (dw (.int n) (.int o) rfl (neI (x:=n) (y:=k) rfl rfl) (λzz=>?_));have q1:aF (a9 4) (a9 7) (((bG on ρ1).set 10 (some (.d (.int n)))).set 11 (some (.d (.int o)))) μ1=some (.d (.int (ps.getD k 0)),μ1):=lx (V:=.d (.list (iL ps))) rfl rfl rfl (by lia) (by lia);have q2:aF (a9 4) (aj (a9 7) (kI 1) aT) (((bG on ρ1).set 10 (some (.d (.int n)))).set 11 (some (.d (.int o)))) μ1=some (.d (.int (ps.getD (k+1) 0)),μ1):=lx (V:=.d (.list (iL ps))) rfl rfl (cR (x:=k) (y:=1) rfl rfl) (by lia) (by lia);refine ln (o4 (x:=o) rfl q2) (λh=>?_) (λh=>?_)
    ·show _=some (AV.d (.int (if _ then _ else _)),μ1)
     refine rA (if_pos (by simpa using h)) ?_;exact q1
    ·show _=some (AV.d (.int (if _ then _ else _)),μ1)
     refine rA (if_neg (by simpa using h)) ?_;rfl) (by refine rA (iA _ _) ?_;refine rA (xG _) ?_;exact aa (by lia))
  refine (bO (bY hcm)).trans ?_;refine rA eps ?_;rfl
 
 let F':=A++.nd t l r::B
 let ρ3:=t7 (.list (iL cs)) M (.list (gJ F')) (.list (iL ps')) T j (some (.d (.int t))) (some (.d (.int k))) c d
 have hg:∀ (i:Nat) (T:Tr),F[i]? =some T→(gJ F)[i]? =some (.list (iL T.code)):= λi T h=>by rw [gJ,Gi];refine rA h ?_;rfl
 have gl:F[k]? =some l:=by refine rB hFF ?_;refine rB hA ?_;simp
 have gr':F[k+1]? =some r:=by refine rB hFF ?_;refine rB hA ?_;simp
 have pll:l7 F=l7 A++(l.pl++(r.pl++l7 B)):=by refine rB hFF ?_;simp [l7]
 have plen:=congrArg NE hpl;rw [pll] at plen
 simp only [be,L2] at plen
 have cl:=l.code_len;have cr:=r.code_len;have e3:QG ρ2 μ1=some (.next,ρ3,μ1):=by
  have q1:cc (a9 3) ba (aL (a9 7)) ρ2 μ1=some (.d (.list (gJ A)),μ1):=by
   refine (f6 (f:=a9 3) (xs:=gJ F) (lo:=none) (hi:=some (k:Int)) rfl rfl (dD rfl) hz).trans ?_;refine rA (p7 _ (by lia)) ?_;rw [gJ];refine rB R5 ?_;refine rB hFF ?_;refine rB hA ?_;refine rA P5 ?_;rfl
  have q2:aF (a9 3) (a9 7) ρ2 μ1=some (.d (.list (iL l.code)),μ1):=cH (f:=a9 3) (g:=a9 7) (V:=.d (.list (gJ F))) (k:=(k:Int)) rfl rfl rfl (by lia) (by refine rA (Fa _) ?_;exact hg k l gl) hz;have q3:aF (a9 3) (aj (a9 7) (kI 1) aT) ρ2 μ1=some (.d (.list (iL r.code)),μ1):=cH (f:=a9 3) (V:=.d (.list (gJ F))) (k:=(k:Int)+1) rfl (cR (x:=k) (y:=1) rfl rfl) rfl (by lia) (by refine rA (show ((k:Int)+1).toNat=k+1 by lia) ?_;exact hg (k+1) r gr') hz;have q4:cc (a9 3) (aL (aj (a9 7) (kI 2) aT)) ba ρ2 μ1=some (.d (.list (gJ B)),μ1):=by
   refine (f6 (f:=a9 3) (xs:=gJ F) (lo:=some ((k+2:Nat):Int)) (hi:=none) rfl (dD (cR (x:=k) (y:=2) rfl rfl)) rfl hz).trans ?_;refine rA (Bj _ (by lia)) ?_;rw [gJ];refine rB T9 ?_;refine rB hFF ?_;refine rB hA ?_
   have:(A++l::r::B).drop (A.length+2)=B:=by refine rA Nx ?_;simp
   refine rA this ?_;rfl
  have q5:aV [(aj (ju (kI 1)) (a9 6) (aS λx y=>some (x-y)))] ρ2 μ1=some (.d (.list (iL [-1-(t:Int)])),μ1):=jR (jU (f:=ju (kI 1)) (g:=a9 6) (x:= -1) (y:=t) rfl rfl);have q6:=cS (cS q5 q2 (xs:=iL [-1-(t:Int)]) (ys:=iL l.code) rfl rfl (aa (by simp only [xG,AO,EQ];lia))) q3 (xs:=iL [-1-(t:Int)]++iL l.code) (ys:=iL r.code) rfl rfl (aa (by simp only [be,xG,AO,EQ];lia));have q7:=cS (cS q1 (jR q6) (xs:=gJ A) rfl rfl (aa (by simp only [gJ,xG,AO,EQ];lia))) q4 rfl (ys:=gJ B) rfl (aa (by simp only [gJ,be,xG,AO,EQ];lia));refine (bO q7).trans ?_
  have:gJ A++[NZ (iL [-1-(t:Int)]++iL l.code++iL r.code)]++gJ B=gJ F':=by
   simp [F',gJ,Tr.code]
  refine rA this ?_;rfl
 have hF'pl:l7 F'=l7 A++((l.pl++r.pl)++l7 B):=by simp [F',l7,Tr.pl]
 refine (oE F' ps' x k ((aB e0).trans ((aB e1).trans ((aB e2).trans ((aB e3).trans (bK.trans (by exact rA hμ rfl)))))) (by simp only [F',be,AO];lia) (by simp only [F',be,AO];lia) ?_ ?_ ?_)
 ·refine rA hF'pl ?_;refine rB hpl ?_;refine rA pll ?_;simp
 ·intro y hy
  simp only [F',AA,Ch] at hy
  rcases hy with q|q|q
  ·exact (hok y (by refine rB hFF ?_;simp [q])).up
  ·subst q
   exact (fu (Rd t) ((hok l (by refine rB hFF ?_;simp)).up) ((hok r (by refine rB hFF ?_;simp)).up))
  ·exact (hok y (by refine rB hFF ?_;simp [q])).up
 ·show (if _ then (274:Int) else 272)=272∨(if _ then (274:Int) else 272)=274
  split
  ·exact .inr rfl
  ·exact .inl rfl
theorem p9{itf2:IF}{e:EF}{g:Option Nat}(i j:Nat)(hij:i≠j)(p:PyData→Bool)(ys:PyData→List PyData)(v:PyData→PyData→PyData)(hi:itf ρ μ=some (xs,g,μ1))(hg:cu g xs μ1)
  (ht:∀x∈xs,∀w,t (((bG sc ρ).set i (some (.d x))).set j w) μ1=some (p x,μ1))
  (h2:∀x∈xs,p x=true→∀w,itf2 (((bG sc ρ).set i (some (.d x))).set j w) μ1=some (ys x,none,μ1))
  (h3:∀x∈xs,p x=true→∀y∈ys x,e (((bG sc ρ).set i (some (.d x))).set j (some (.d y))) μ1=some (.d (v x y),μ1))
  (hz:(xs.flatMap λx=>if p x then (ys x).map (v x) else []).length≤sizeLine):
  fg sc itf (du i) (cU t (gf itf2 (du j) (cU bg (aY e)))) ρ μ=some (xs.flatMap λx=>if p x then (ys x).map (v x) else [],μ1):=by
 refine vL hi hg (λσ=>∃u w,σ=((bG sc ρ).set i u).set j w) (λx=>if p x then (ys x).map (v x) else []) (jH ((bG sc ρ)[i]?.join) ((bG sc ρ)[j]?.join) ?_) (λx hx σ hσ acc hacc=>?_) hz
 ·apply Tx
  intro k;simp only [Qk,Lq]
  split
  ·rename_i h;subst h
   split
   ·rename_i h;simp [Fe h]
   ·rename_i h;simp [Pb (LD h)]
  ·split
   ·rename_i h;subst h
    split
    ·rename_i h;simp [Fe h]
    ·rename_i h;simp [Pb (LD h)]
   ·rfl
 ·refine lK hσ λu w zq2=>?_
  subst zq2;have es:(((bG sc ρ).set i u).set j w).set i (some (.d x))=((bG sc ρ).set i (some (.d x))).set j w:=by
   refine rA (QY _ _ (MA hij)) ?_;exact rA (I9 _) rfl
  refine ⟨((bG sc ρ).set i (some (.d x))).set j w,?_⟩;cases hp:p x with
  |false=>
   refine (C2 (((bG sc ρ).set i (some (.d x))).set j w) ?_ ?_ _ _ rfl)
   ·show some _=some _;exact rA es rfl
   ·refine (Y0 ((ht x hx w).trans (by rw [hp]))).trans ?_
    simp
  |true=>
   rw [hp] at hacc
   simp only [if_true,xG] at hacc
   obtain ⟨ρ',⟨w',hw⟩,hf⟩:=nI (tf:=du j) (cf:=cU bg (aY e)) (μ:=μ1) (xs:=ys x) (g:=none) (az _ _) (λσ=>∃w,σ=((bG sc ρ).set i (some (.d x))).set j w) (λy=>[v x y]) (ys x) _ acc ⟨w,rfl⟩ (λy hy σ hσ acc hacc=>by
    refine bP hσ λw zq1=>?_;subst zq1;refine (BW (((bG sc ρ).set i (some (.d x))).set j (some (.d y))) _ ?_ (oU (h3 x hx hp y hy) acc hacc) _ rfl)
    show some _=some _
    exact rA (I9 _) rfl) (by refine rA (fF _ _) ?_;refine rA (xG _) ?_;exact hacc)
   rw [fF] at hf
   refine (C2 ρ' ?_ ?_ _ w' hw)
   ·show some _=some _;exact rA es rfl
   ·exact (ab7 ((ht x hx w).trans (by rw [hp]))).trans ((vo (h2 x hx hp w)).trans hf)
theorem GV{M:PyData}{T:Int}{μ0:List ah}(hj:j=μ0.length)(hc:cs.length=6)(xs:List PyData):∀ (n t:Nat) (F:List Tr) (ps K:List Int) (a b c d:Option AV),n+t≤5→F.length+t=6→ps.length=F.length→K.length=t→l7 F=F6 0 6→(∀x∈F,x.ok t)→(∀x∈K,zl x)→
  ∃F' ps' K' a' b',fN (du 6) Jq aP none xs (fJ t n) (t7 (.list (iL cs)) M (.list (gJ F)) (.list (iL ps)) T j a b c d) (μ0++[.live (iL K)])=some (.next,t7 (.list (iL cs)) M (.list (gJ F')) (.list (iL ps')) T j a' b' c d,μ0++[.live (iL K')])∧
   F'.length+(n+t)=6∧K'.length=n+t∧l7 F'=F6 0 6∧(∀x∈F',x.ok (n+t))∧(∀x∈K',zl x)
 |0,t,F,ps,K,a,b,c,d,h,hF,hps,hK,hpl,hok,hkin=>(m7 F ps K a b rfl (by lia) (by lia) hpl (by simpa using hok) hkin)
 |n+1,t,F,ps,K,a,b,c,d,h,hF,hps,hK,hpl,hok,hkin=>by
  refine eC λGG kG=>?_;refine oK (Tf (cs:=cs) (M:=M) (T:=T) (t:=t) (F:=F) (ps:=ps) (K:=K) (j:=j) (b:=b) (c:=c) (d:=d) (μ:=μ0++[.live (iL K)]) hc (by lia) (by lia) (by lia) hps (by lia) hpl hok (by subst hj;exact dp)) λF1 ps1 x k e h1 h2 h3 h4 h5=>?_;obtain ⟨F',ps',K',a',b',g,g1,g2,g3,g4,g5⟩:=GV hj hc xs n (t+1) F1 ps1 (K++[x]) (some (.d (.int t))) (some (.d (.int k))) c d (by lia) (by lia) h2 (by simp [hK]) h3 h4 (λy hy=>by
   rcases AA.mp hy with q|q
   ·exact hkin y q
   ·refine rA (yA.mp q) ?_;exact h5)
  refine kG ?_;refine (m7 F' ps' K' a' b' ?_ (by lia) (by lia) g3 (by refine rA (show n+1+t=n+(t+1) by lia) ?_;exact g4) g5);rw [show (μ0++[ah.live (iL K)]).set j (.live (iL (K++[x])))=μ0++[.live (iL (K++[x]))] by rw [hj];exact fh] at e
  exact Lz (dK (ρ1:=t7 (.list (iL cs)) M (.list (gJ F)) (.list (iL ps)) T j (some (.d (.int t))) b c d) rfl e (az _ _)) g
noncomputable def lc(K:List Int):Tr→Fm
 | .at i=>.at i
 | .nd t l r=>.bin (K.getD t 0==274) (lc K l) (lc K r)
theorem uJ(K:List Int):∀T:Tr,(lc K T).pl=T.pl
 | .at _=>rfl
 | .nd _ l r=>by simp only [lc,Fm.pl,Tr.pl,uJ K l,uJ K r]
noncomputable def Uo(K:List Int)(m:List Nat):PyData→PyData
 | .int s=>.int (if s<0 then K.getD (-1-s).toNat 0 else if (m.getD s.toNat 0:Int)>s then 7 else 8)
 |x=>x
theorem ri(K:List Int)(m:List Nat)(hK:∀x∈K,zl x):∀T:Tr,T.ok K.length→(iL T.code).map (Uo K m)=iL ((lc K T).pre m)
 | .at i,_=>by
  refine (?_:[EU (if (i:Int)<0 then K.getD (-1-(i:Int)).toNat 0 else if (m.getD (i:Int).toNat 0:Int)>(i:Int) then 7 else 8)]=[EU (if i<m.getD i 0 then 7 else 8)]);refine rA (if_neg (by lia)) ?_;refine rA (Fa _) ?_
  by_cases q:i<m.getD i 0
  ·refine rA (if_pos q) ?_;exact rA (if_pos (by lia)) rfl
  ·refine rA (if_neg q) ?_;exact rA (if_neg (by lia)) rfl
 | .nd t l r,h=>by
  refine dU h λh1 h2 h3=>?_;have ek:K.getD t 0=if (K.getD t 0==274)=true then 274 else 272:=by
   have:zl (K.getD t 0):=by
    rw [LC,Fe h1];exact hK _ (U1 h1)
   rcases this with q|q<;>rw [q]<;>rfl
  simp only [Tr.code,ET,Jz,lc,Fm.pre,ri K m hK l h2,ri K m hK r h3]
  congr 1
  refine (?_:EU (if (-1-(t:Int))<0 then K.getD (-1-(-1-(t:Int))).toNat 0 else _)=_);refine rA (if_pos (by lia)) ?_;refine rA (show (-1-(-1-(t:Int))).toNat=t by lia) ?_;exact congrArg EU ek
noncomputable def g7(T:Int):Nat:=([5,5,4,3]:List Nat).getD ((T.fdiv 25).fmod 4).toNat 0
theorem mu(T:Int):3≤g7 T∧g7 T≤5:=by
 have h0:0≤(T.fdiv 25).fmod 4:=F8 _ (by decide);have h1:(T.fdiv 25).fmod 4<4:=Il _ (by decide);unfold g7;generalize (T.fdiv 25).fmod 4=x at*
 have:x=0∨x=1∨x=2∨x=3:=by lia
 rcases this with rfl|rfl|rfl|rfl<;>decide
theorem jA{T:Int}(a b:Int)(ha:¬(a=0∨2^64≤a.natAbs))(hb:b≠0)(hf:f ρ μ=some (.d (.int T),μ))(hg:g ρ μ=some (.d (.int b),μ)):aj (aj f (kI a) (aS cN)) g (aS cq) ρ μ=some (.d (.int ((T.fdiv a).fmod b)),μ):=
 cV (cV hf (rfl:kI a _ _=some (.d (.int a),_)) (kP ha)) hg (fj hb)
theorem Gz{T:Int}(h1:a9 1 ρ μ=some (.d (.int T),μ)):aF (aV [(kI 5),(kI 5),(kI 4),(kI 3)]) (aj (aj (a9 1) (kI 25) (aS cN)) (kI 4) (aS cq)) ρ μ=some (.d (.int (g7 T)),μ):=by
 have h0:0≤(T.fdiv 25).fmod 4:=F8 _ (by decide);have h4:(T.fdiv 25).fmod 4<4:=Il _ (by decide);refine cH (V:=.d (.list [.int 5,.int 5,.int 4,.int 3])) (dG (ds:=[.int 5,.int 5,.int 4,.int 3]) rfl (aa (xF rfl))) (jA 25 4 (by decide) (by decide) h1 rfl) rfl h0 ?_ (aa (xF rfl));unfold g7;generalize (T.fdiv 25).fmod 4=x at*
 have:x=0∨x=1∨x=2∨x=3:=by lia
 rcases this with rfl|rfl|rfl|rfl<;>rfl
theorem uv{x:Int}(hK:∀x∈K,zl x)(hx:zl x):∀y∈K.set i x,zl y:=by
 intro y hy
 rcases List.mem_or_eq_of_mem_set hy with q|q
 ·exact hK y q
 ·refine rA q ?_;exact hx
theorem tI(hK:∀x∈K,zl x)(hi:i<K.length):zl (K.getD i 0):=by
 rw [LC,Fe hi];exact hK _ (U1 hi)
theorem Vd(K:List Int)(i:Nat)(x:Int):(iL K).set i (.int x)=iL (K.set i x):=by simp [iL,List.map_set]
theorem tr{x:Int}(hf:fo ρ μ=some (.c j,μ))(hg:fi ρ μ=some (.d (.int k),μ))(hc:μ[j]? =some (.live (iL K)))(hk:k<K.length)(hz:K.length≤1000):wL fo fi (.int x) ρ μ=some (μ.set j (.live (iL (K.set k x)))):=by
 refine (b5 hf).trans ((bV (rfl:Ff (.c j)=some j)).trans ((b5 hg).trans ((bV (rfl:jJ (.d (.int k))=some (k:Int))).trans ((bV (show μ[j]?.bind liC=some (iL K) by rw [hc];rfl)).trans ((if_pos (fu (by lia) (by rw [xG];lia) (by rw [p63];lia))).trans ?_)))));rw [Fa,Vd]
theorem Ob{fv fo' fi':EF}{a b:PyData}(h:fv ρ μ=some (.d (.tuple [a,b]),μ1))(h1:wL fo fi a ρ μ1=some μ2)(h2:wL fo' fi' b ρ μ2=some μ3):FB fv fo fi fo' fi' ρ μ=some (.next,ρ,μ3):=by
 exact (b5 h).trans ((bV (rfl:Iw (.d (.tuple [a,b]))=some _)).trans ((b5 (rfl:l2 [a,b]=some (a,b))).trans ((bV h1).trans (bV h2))))
theorem MF{fv:EF}{a:PyData}(h:fv ρ μ=some (.d a,μ1))(h1:wL fo fi a ρ μ1=some μ2):UT fv fo fi ρ μ=some (.next,ρ,μ2):=by
 exact (b5 h).trans ((bV (rfl:v7 (.d a)=some a)).trans (bV h1))
theorem Hv(hk:f ρ μ=some (.c j,μ))(hc:μ[j]? =some (.live (iL K)))(hz:K.length≤1000):af [f] dz ρ μ=some (.d (.int K.length),μ):=by
 have:=gH hk (xs:=iL K) (tR hc) (by refine rA (xG _) ?_;exact aa (by lia))
 refine rA this ?_;exact rA (xG _) rfl
theorem zB(hf:f ρ μ=some (V,μ))(hs:tT μ V=some (nL m))(hg:g ρ μ=some (.d (.int k),μ))(h:k<m.length)(hz:m.length≤1000):aF f g ρ μ=some (.d (.int (m.getD k 0:Nat)),μ):=
 cH hf hg hs (by lia) (by refine rA (Fa _) ?_;exact tQ h) (by rw [nL];refine rA (xG _) ?_;exact aa (by lia))
theorem SK:fJ 0 6=(yw 6).map λ(i:Nat)=>EU i:=rfl
theorem qw:∀ (T:Tr) (n:Nat),T.ok n→∀y∈T.code,(0≤y∧y<6)∨(y<0∧(-1-y).toNat<n)
 | .at i,n,h,y,hy=>by
  have h:i<6:=h;simp only [Tr.code,yA] at hy
  subst hy;exact .inl ⟨by lia,by lia⟩
 | .nd t l r,n,h,y,hy=>by
  refine dU h λh1 h2 h3=>?_;simp only [Tr.code,Ch,AA] at hy
  rcases hy with q|q|q
  ·subst q;exact .inr ⟨by lia,by lia⟩
  ·exact qw l n h2 y q
  ·exact qw r n h3 y q
theorem r7:∀F:List Tr,(F.flatMap λT=>T.code).length≤2*(l7 F).length
 | []=>by simp [l7]
 |T::F=>by
  have:=r7 F
  have h:=T.code_len;simp only [l7,Fb,be] at this⊢
  lia
theorem mG(K:List Int)(m:List Nat)(hK:∀x∈K,zl x):∀F:List Tr,(∀T∈F,T.ok K.length)→(gJ F).flatMap (λx=>if true then ((match x with| .list l=>l|_=>[]):List PyData).map (Uo K m) else [])=iL ((F.map (lc K)).flatMap λF=>F.pre m)
 | [],_=>rfl
 |T::F,h=>by
  have ih:=mG K m hK F λx hx=>h x (by simp [hx]);simp only [gJ,ET,Fb,if_true] at ih⊢
  rw [ih,ri K m hK T (h T (by simp)),lw]
theorem Gy{C ps:PyData}{T:Int}{F:List Tr}{K2:List Int}{a b c d:Option AV}(hm:m.length=6)(hK2:∀x∈K2,zl x)(hok:∀T∈F,T.ok K2.length)(hkl:K2.length≤10)(hpl:(iL ((F.map (lc K2)).flatMap λF=>F.pre m)).length≤12):
  Bk (t7 C (.list (nL m)) (.list (gJ F)) ps T μ.length a b c d) (μ++[.live (iL K2)])=some (.ret (.d (.list (iL ((F.map (lc K2)).flatMap (λF=>F.pre m)++[0])))),t7 C (.list (nL m)) (.list (gJ F)) ps T μ.length a b c d,μ++[.live (iL K2)]):=by
 have hcell:(μ++[ah.live (iL K2)])[μ.length]? =some (.live (iL K2)):=dp;unfold Bk;have hcm:=p9 (sc:=qp) (itf:=aK false (a9 3)) (itf2:=aK false (a9 10)) (t:=bg) (e:=(dx (bC (a9 11) (kI 0) (ef λx y=>decide (x<y))) (aF (a9 5) (aj (ju (kI 1)) (a9 11) (aS λx y=>some (x-y)))) (dx (bC (aF (a9 2) (a9 11)) (a9 11) (ef λx y=>decide (y<x))) (kI 7) (kI 8)))) (ρ:=(t7 C (.list (nL m)) (.list (gJ F)) ps T μ.length a b c d)) (μ:=μ++[.live (iL K2)]) (xs:=gJ F) 10 11 (by decide) (λzz=>true) (λx=>match x with| .list l=>l|_=>[]) (λzz=>Uo K2 m)
  (d6 (V:=.d (.list (gJ F))) rfl rfl) (az _ _) (λzz zz zz=>rfl) (λx hx zz w=>by
   refine eC λGG kG=>?_;refine au (DG.mp hx) λT hT zq2=>?_;subst zq2;refine kG ?_;exact d6 (V:=.d (.list (iL T.code))) rfl rfl) (λx hx zz y hy=>by
   refine eC λGG kG=>?_;refine au (DG.mp hx) λT' hT zq2=>?_;subst zq2;refine au (DG.mp hy) λs hs zq2=>?_;subst zq2;refine kG ?_;have hb:=qw T' _ (hok T' hT) s hs;refine (?_:_=some (AV.d (.int (if s<0 then K2.getD (-1-s).toNat 0 else if (m.getD s.toNat 0:Int)>s then 7 else 8)),_));refine ln (ltI (x:=s) (y:=0) rfl rfl) (λh=>?_) (λh=>?_)
   ·have h:=of_decide_eq_true h
    refine rA (if_pos h) ?_;have hsub:aj (ju (kI 1)) (a9 11) (aS λx y=>some (x-y)) (((bG qp (t7 C (.list (nL m)) (.list (gJ F)) ps T μ.length a b c d)).set 10 (some (.d (.list (iL T'.code))))).set 11 (some (.d (.int s)))) (μ++[.live (iL K2)])=some (.d (.int ((-1-s).toNat:Nat)),μ++[.live (iL K2)]):=by
     refine rA (Ly (by lia)) ?_;exact jU (x:= -1) (y:=s) rfl rfl
    exact lx (f:=a9 5) (V:=.c μ.length) rfl (tR hcell) hsub (by lia) (by lia)
   ·have h:=of_decide_eq_false h
    refine rA (if_neg h) ?_;have hg:a9 11 (((bG qp (t7 C (.list (nL m)) (.list (gJ F)) ps T μ.length a b c d)).set 10 (some (.d (.list (iL T'.code))))).set 11 (some (.d (.int s)))) (μ++[.live (iL K2)])=some (.d (.int (s.toNat:Nat)),μ++[.live (iL K2)]):=by
     refine rA (Ly (by lia)) ?_;rfl
    have hmt:=zB (f:=a9 2) (V:=.d (.list (nL m))) (m:=m) rfl rfl hg (by lia) (by lia);refine ln (gtI (y:=s) hmt rfl) (λh=>?_) (λh=>?_)
    ·refine rA (if_pos (of_decide_eq_true h)) ?_;rfl
    ·refine rA (if_neg (of_decide_eq_false h)) ?_;rfl) (by
   refine rA (mG K2 m hK2 F hok) ?_;exact aa (by lia))
 rw [mG K2 m hK2 F hok] at hcm
 have:=cS (bY hcm) (jR (f:=kI 0) (d:=.int 0) rfl) rfl rfl (aa (by simp only [Gp];lia))
 refine (dZ this).trans ?_;exact rA (show iL ((F.map (lc K2)).flatMap λF=>F.pre m)++[EU 0]=iL ((F.map (lc K2)).flatMap (λF=>F.pre m)++[0]) by rw [←lw];rfl) rfl
theorem s65{T:Int}(hc:cs.length=6)(hm:m.length=6):
  ∃G:List Fm,bJ G=F6 0 6∧G.length+g7 T=6∧gv [.d (.list (iL cs)),.d (.int T),.d (.list (nL m))] μ=some (.d (.list (iL (G.flatMap (λF=>F.pre m)++[0]))),μ):=by
 let M:PyData:=.list (nL m)
 let F0:List Tr:=(yw 6).map Tr.at
 let ps0:List Int:=(yw 6).map λ(i:Nat)=>if (m.getD i 0:Int)<i then (m.getD i 0:Int) else i
 let ρe:d0:=[some (.d (.list (iL cs))),some (.d (.int T)),some (.d M),none,none,none,none,none,none,none]
 let ρr:d0:=[some (.d (.list (iL cs))),some (.d (.int T)),some (.d M),some (.d (.list (gJ F0))),none,none,none,none,none,none]
 let ρp:d0:=[some (.d (.list (iL cs))),some (.d (.int T)),some (.d M),some (.d (.list (gJ F0))),some (.d (.list (iL ps0))),none,none,none,none,none]
 have e0:By ρe μ=some (.next,ρr,μ):=by
  unfold By
  have:=iw (xs:=fJ 0 6) (g:=none) (sc:=Ar) (e:=aV [a9 10]) (ρ:=ρe) (μ:=μ) 10 (λx=>.list [x]) (rfl:aK false (af [kI 6] cF) ρe μ=some (fJ 0 6,none,μ)) (az _ _) (λx hx=>jR rfl) (aa (by decide))
  refine rA (jv this) ?_;have e:(fJ 0 6).map (λx=>NZ [x])=gJ F0:=by refine rA SK ?_;rfl
  refine rA e ?_;rfl
 have e1:BV ρr μ=some (.next,ρp,μ):=by
  unfold BV
  have:=iw (xs:=fJ 0 6) (g:=none) (sc:=Ae) (e:=af [(a9 10),(aF (a9 2) (a9 10))] Iy) (ρ:=ρr) (μ:=μ) 10 (λ| .int x=>.int (if (m.getD x.toNat 0:Int)<x then (m.getD x.toNat 0:Int) else x)|x=>x) (rfl:aK false (af [kI 6] cF) ρr μ=some (fJ 0 6,none,μ)) (az _ _) (λx hx=>by
   rw [SK] at hx
   refine eC λGG kG=>?_;refine au (DG.mp hx) λi hi zq2=>?_;subst zq2;refine kG ?_;have hi:=D3.mp hi;exact iV (V:=.d (.int i)) rfl (zB (V:=.d M) (k:=i) rfl rfl rfl (by lia) (by lia)) rfl) (aa (by decide))
  refine rA (bO (bY this)) ?_;have e:(fJ 0 6).map (λ| .int x=>EU (if (m.getD x.toNat 0:Int)<x then (m.getD x.toNat 0:Int) else x)|x=>x)=iL ps0:=by
   refine rA SK ?_;refine rA ER ?_;simp only [ps0,iL,ER];rfl
  refine rA e ?_;rfl
 have e2:Bw ρp μ=some (.next,t7 (.list (iL cs)) M (.list (gJ F0)) (.list (iL ps0)) T μ.length none none none none,μ++[.live (iL [])]):=by
  unfold Bw;refine rA (bO xf) ?_;rfl
 refine eC λGG kG=>?_;refine fY (mu T) λt3 t5=>?_;obtain ⟨F,ps,K,a,b,g,g1,g2,g3,g4,g5⟩:=GV (cs:=cs) (M:=M) (T:=T) (μ0:=μ) rfl hc (fJ 0 (g7 T)) (g7 T) 0 F0 ps0 [] none none none none (by lia) rfl rfl rfl (by decide) (by
  intro x hx;refine au (DG.mp hx) λi hi zq2=>?_;subst zq2;exact D3.mp hi) (by simp)
 refine kG ?_;simp only [TQ] at g1 g2 g4
 let ρ3:=t7 (.list (iL cs)) M (.list (gJ F)) (.list (iL ps)) T μ.length a b none none
 have e3:Cr (t7 (.list (iL cs)) M (.list (gJ F0)) (.list (iL ps0)) T μ.length none none none none) (μ++[.live (iL [])])=some (.next,ρ3,μ++[.live (iL K)]):=by
  unfold Cr;have hi:aK false (af [(aF (aV [(kI 5),(kI 5),(kI 4),(kI 3)]) (aj (aj (a9 1) (kI 25) (aS cN)) (kI 4) (aS cq)))] cF) (t7 (.list (iL cs)) M (.list (gJ F0)) (.list (iL ps0)) T μ.length none none none none) (μ++[.live (iL [])])=some (fJ 0 (g7 T),none,μ++[.live (iL [])]):=by
   have hr:af [(aF (aV [(kI 5),(kI 5),(kI 4),(kI 3)]) (aj (aj (a9 1) (kI 25) (aS cN)) (kI 4) (aS cq)))] cF (t7 (.list (iL cs)) M (.list (gJ F0)) (.list (iL ps0)) T μ.length none none none none) (μ++[.live (iL [])])=some (.rng 0 (g7 T),μ++[.live (iL [])]):=d4 (Gz rfl) rfl;have hs:∀n:Nat,n≤5→K4 0 n 1=true:=by
    intro n hn
    have:n=0∨n=1∨n=2∨n=3∨n=4∨n=5:=by lia
    rcases this with rfl|rfl|rfl|rfl|rfl|rfl<;>decide+kernel
   exact (mV hr (hs _ t5)).trans (by simp)
  refine rA (gI hi) ?_;exact g
 let one:Nat:=((T.fdiv 100).fmod K.length).toNat
 let two:Nat:=((T.fdiv 500).fmod K.length).toNat
 have hKp:(K.length:Int)>0:=by lia
 have one_i:(T.fdiv 100).fmod K.length=(one:Int):=(Ly (F8 _ hKp)).symm;have two_i:(T.fdiv 500).fmod K.length=(two:Int):=(Ly (F8 _ hKp)).symm;have hone:one<K.length:=by have:=Il (T.fdiv 100) hKp;lia
 have htwo:two<K.length:=by have:=Il (T.fdiv 500) hKp;lia
 let ρ4:=t7 (.list (iL cs)) M (.list (gJ F)) (.list (iL ps)) T μ.length a b (some (.d (.int one))) (some (.d (.int two)))
 have hcell:∀K:List Int,(μ++[ah.live (iL K)])[μ.length]? =some (.live (iL K)):= λK=>dp;have hset:∀K K':List Int,(μ++[ah.live (iL K)]).set μ.length (.live (iL K'))=μ++[.live (iL K')]:= λK K'=>fh;have e4:BG ρ3 (μ++[.live (iL K)])=some (.next,ρ4,μ++[.live (iL K)]):=by
  unfold BG;have hl:af [a9 5] dz ρ3 (μ++[.live (iL K)])=some (.d (.int K.length),μ++[.live (iL K)]):=Hv rfl (hcell K) (by lia);have h1:=jA (f:=a9 1) (g:=af [a9 5] dz) (ρ:=ρ3) (T:=T) 100 K.length (by decide) (by lia) rfl hl;have h2:=jA (f:=a9 1) (g:=af [a9 5] dz) (ρ:=ρ3) (T:=T) 500 K.length (by decide) (by lia) rfl hl;rw [one_i] at h1
  rw [two_i] at h2
  have ht:=d7 (ds:=[.int one,.int two]) (an h1 (an h2 bW)) (aa (xF rfl));exact AX ht
 have iK:∀ (K:List Int) (k i:Nat),a9 i ρ4 (μ++[.live (iL K)])=some (.d (.int k),μ++[.live (iL K)])→k<K.length→K.length≤1000→aF (a9 5) (a9 i) ρ4 (μ++[.live (iL K)])=some (.d (.int (K.getD k 0)),μ++[.live (iL K)]):= λK k i h hk hz=>
  lx (f:=a9 5) (V:=.c μ.length) rfl (tR (hcell K)) h hk hz
 let K1:=(K.set one (K.getD two 0)).set two (K.getD one 0)
 have hK1:∀x∈K1,zl x:=uv (uv g5 (tI g5 htwo)) (tI g5 hone);have lK1:K1.length=K.length:=by simp [K1]
 have e5:AL ρ4 (μ++[.live (iL K)])=some (.next,ρ4,μ++[.live (iL K1)]):=by
  unfold AL;have ht:=d7 (ds:=[.int (K.getD two 0),.int (K.getD one 0)]) (an (iK K two 9 rfl htwo (by lia)) (an (iK K one 8 rfl hone (by lia)) bW)) (aa (xF rfl));have s1:=tr (fo:=a9 5) (fi:=a9 8) (ρ:=ρ4) (j:=μ.length) (k:=one) (K:=K) (x:=K.getD two 0) rfl rfl (hcell K) hone (by lia);rw [hset] at s1
  have s2:=tr (fo:=a9 5) (fi:=a9 9) (ρ:=ρ4) (j:=μ.length) (k:=two) (K:=K.set one (K.getD two 0)) (x:=K.getD one 0) rfl rfl (hcell _) (by simpa using htwo) (by simp;lia);rw [hset] at s2
  exact Ob ht s1 s2
 let x6:Int:=if (T.fdiv 2500).fmod 4=3 then 546-K1.getD one 0 else K1.getD one 0
 have hx6:zl x6:=by
  have hk:=tI hK1 (i:=one) (by lia)
  show (if _ then _ else _:Int)=272∨(if _ then _ else _:Int)=274
  split<;>rcases hk with q|q<;>rw [q]<;>simp
 let K2:=K1.set one x6
 have hK2:∀x∈K2,zl x:=uv hK1 hx6;have lK2:K2.length=K.length:=by simp [K2,lK1]
 have e6:Ci ρ4 (μ++[.live (iL K1)])=some (.next,ρ4,μ++[.live (iL K2)]):=by
  unfold Ci;have hi:=iK K1 one 8 rfl (by lia) (by lia);have hv:dx (bC (aj (aj (a9 1) (kI 2500) (aS cN)) (kI 4) (aS cq)) (kI 3) dH) (aj (kI 546) (aF (a9 5) (a9 8)) (aS λx y=>some (x-y))) (aF (a9 5) (a9 8)) ρ4 (μ++[.live (iL K1)])=some (.d (.int x6),μ++[.live (iL K1)]):=by
   refine ln (o4 (jA (f:=a9 1) (T:=T) 2500 4 (by decide) (by decide) rfl rfl) rfl) (λh=>?_) (λh=>?_)
   ·show _=some (AV.d (.int (if _ then _ else _)),_)
    refine rA (if_pos (by simpa using h)) ?_;exact jU rfl hi
   ·show _=some (AV.d (.int (if _ then _ else _)),_)
    refine rA (if_neg (by simpa using h)) ?_;exact hi
  exact (MF hv (tr (k:=one) (hc:=hcell _) (hk:=by lia) (hz:=by lia) rfl rfl)).trans (by rw [hset])
 have hok:∀T∈F,T.ok K2.length:=by refine rA lK2 ?_;refine rA g2 ?_;exact g4
 have hlen:=r7 F;rw [g3,L2] at hlen
 have hF6:F.length≤6:=by lia
 have hpl:(iL ((F.map (lc K2)).flatMap λF=>F.pre m)).length≤12:=by
  refine rB (mG K2 m hK2 F hok) ?_;simp only [gJ,List.flatMap_map,if_true,List.length_flatMap,xG] at hlen⊢
  exact hlen
 have hG:bJ (F.map (lc K2))=F6 0 6:=by
  refine rB g3 ?_
  have:∀F:List Tr,bJ (F.map (lc K2))=l7 F:= λF=>by
   induction F with
   |nil=>rfl
   |cons T F ih=>refine rA ET ?_;refine rA (b6 _ _) ?_;refine rA ih ?_;refine rA (uJ _ _) ?_;rfl
  exact this F
 have e7:=Gy (C:=.list (iL cs)) (ps:=.list (iL ps)) (m:=m) (T:=T) (F:=F) (K2:=K2) (μ:=μ) (a:=a) (b:=b) (c:=some (.d (.int one))) (d:=some (.d (.int two))) hm hK2 hok (by lia) hpl;refine (cJ (F.map (lc K2)) hG (by simp only [xG];lia) ?_);refine (cZ (k:=3) (ρ':=ρ4) (μ':=μ++[.live (iL K2)]) (x:=.list (iL ((F.map (lc K2)).flatMap (λF=>F.pre m)++[0]))) rfl ?_).trans (by exact rA ml rfl)
 show f65 ρe μ=_
 unfold f65;refine rA (aB e0) ?_;refine rA (aB e1) ?_;refine rA (aB e2) ?_;refine rA (aB e3) ?_;refine rA (aB e4) ?_;refine rA (aB e5) ?_;refine rA (aB e6) ?_;exact rA (cT e7) rfl
theorem ZJ(h:q<7):q=0∨q=1∨q=2∨q=3∨q=4∨q=5∨q=6:=by lia
theorem nK(m:List Nat)(p:Nat):s_ m p=[40]∨s_ m p=[41]:=by unfold s_;split<;>simp
theorem zm(m:List Nat)(cs:List Int)(p:Nat)(tail:List U):clean none (eJ m cs false p++tail)=eJ m cs true p++clean none tail:=by
 have hq:=ZJ (js cs p);have hs:=nK m p;unfold eJ;generalize iG cs p=q at*
 generalize s_ m p=s at*
 rcases hs with rfl|rfl<;>rcases hq with rfl|rfl|rfl|rfl|rfl|rfl|rfl<;>rfl
theorem gA(m:List Nat)(cs:List Int)(tail:List U):∀pl:List Nat,clean none (units m cs false pl++tail)=units m cs true pl++clean none tail
 | []=>rfl
 |p::pl=>by
  simp only [units,Fb,E9];refine rA (zm _ _ _ _) ?_
  congr 1
  exact gA m cs tail pl
noncomputable def r_(m:List Nat):Int→List Nat→Option Int
 |n,[]=>some n
 |n,p::r=>if p<m.getD p 0 then r_ m (n+1) r else if n-1<0 then none else r_ m (n-1) r
theorem HY(m:List Nat)(cs:List Int)(p:Nat)(n:Int)(tail:List U):mI n (eJ m cs true p++tail)=if p<m.getD p 0 then mI (n+1) tail else if n-1<0 then none else mI (n-1) tail:=by
 have hq:=ZJ (js cs p);unfold eJ;generalize iG cs p=q at*
 unfold s_
 by_cases h:p<m.getD p 0
 ·refine rA (if_pos h) ?_;refine rA (if_pos h) ?_
  rcases hq with rfl|rfl|rfl|rfl|rfl|rfl|rfl<;>rfl
 ·refine rA (if_neg h) ?_;refine rA (if_neg h) ?_
  rcases hq with rfl|rfl|rfl|rfl|rfl|rfl|rfl<;>rfl
theorem nr(m:List Nat)(cs:List Int)(tail:List U):∀ (pl:List Nat) (n:Int),mI n (units m cs true pl++tail)=match r_ m n pl with|some k=>mI k tail|none=>none
 | [],n=>rfl
 |p::pl,n=>by
  simp only [units,Fb,E9];rw [HY,r_];have ih:= λn=>nr m cs tail pl n;unfold units at ih
  split
  ·exact ih _
  ·split
   ·rfl
   ·exact ih _
noncomputable def Ls(m:List Nat)(pl:List Nat):Bool:=r_ m 0 pl==some 0
theorem BD(m:List Nat)(cs:List Int)(pl:List Nat):LL (units m cs false pl)=Ls m pl:=by
 have h1:=gA m cs [] pl;have h2:=nr m cs [] pl 0;simp only [DB,clean] at h1 h2
 unfold LL Ls;refine rA h1 ?_;refine rA h2 ?_;cases r_ m 0 pl with
 |none=>rfl
 |some k=>simp [mI]
noncomputable def wC:List Nat→List (List Nat)
 | []=>[[]]
 |a::l=>wC l++(wC l).map (a:: ·)
theorem B6{s l:List Nat}(h:s.Sublist l):s∈wC l:=by
 induction h with
 |slnil=>simp [wC]
 |cons a _ ih=>simp [wC,ih]
 |cons_cons a _ ih=>simp [wC,ih]
noncomputable def run(s:List Nat)(a b:Nat):List Nat:=(s.drop a).take b
theorem Oh:((yw 5).all λi=>(wC (yw 6)).all λs=>!bk (aH.getD i []) s||(yw 7).all λa=>(yw 7).all λb=>Ls (aH.getD i []) (run s a b)==bk (aH.getD i []) (run s a b))=true:=by decide+kernel
theorem GR:((yw 5).all λi=>(wC (yw 6)).all λs=>(iI (s.map λp=>((aH.getD i []).getD p 0:Int))==s.map λ(p:Nat)=>(p:Int))==bk (aH.getD i []) s)=true:=by decide+kernel
theorem KM:((yw 5).all λi=>(yw 6).all λq=>(yw q).all λp=>!bk (aH.getD i []) [p,q]||(Ls (aH.getD i []) [p,q]&&!Ls (aH.getD i []) [q,p]))=true:=by decide+kernel
theorem ma(hi:i<5):(aH.getD i []).length=6:=by
 have:i=0∨i=1∨i=2∨i=3∨i=4:=by lia
 rcases this with rfl|rfl|rfl|rfl|rfl<;>rfl
theorem yY(hi:i<5){s r:List Nat}(hs:s.Sublist (yw 6))(hc:bk (aH.getD i []) s=true)(hr:r<:+:s):Ls (aH.getD i []) r=bk (aH.getD i []) r:=by
 have hl:=hs.length_le;rw [IN] at hl
 refine lK hr λx y e=>?_;have he:r=run s x.length r.length:=by
  unfold run;refine rB e ?_;refine rA (E9 _ _ _) ?_;refine rA Q7 ?_;exact rA P5 rfl
 have hle:=congrArg NE e;simp only [be] at hle
 have h1:=Bb.mp (Bb.mp Oh i (D3.mpr hi)) s (B6 hs);rw [hc] at h1
 simp only [Q_,Pm] at h1
 have h2:=Bb.mp (Bb.mp h1 x.length (D3.mpr (by lia))) r.length (D3.mpr (by lia));rw [←he] at h2
 simpa using h2
theorem wv(hi:i<5){s:List Nat}(hs:s.Sublist (yw 6)):(iI (s.map λp=>((aH.getD i []).getD p 0:Int))==s.map λ(p:Nat)=>(p:Int))=bk (aH.getD i []) s:=by
 have:=Bb.mp (Bb.mp GR i (D3.mpr hi)) s (B6 hs)
 simpa using this
theorem Og(hi:i<5)(hq:q<6)(hp:p<q)(hc:bk (aH.getD i []) [p,q]=true):Ls (aH.getD i []) [p,q]=true∧Ls (aH.getD i []) [q,p]=false:=by
 have:=Bb.mp (Bb.mp (Bb.mp KM i (D3.mpr hi)) q (D3.mpr hq)) p (D3.mpr hp)
 rw [hc] at this
 simpa using this
theorem yj(m:List Nat)(cs:List Int)(sh:Bool)(p:Nat):(eJ m cs sh p).all (λu=>wf u&&decide (u.length≤2)&&!u.contains 39)=true:=by
 have hq:=ZJ (js cs p);have hs:=nK m p;unfold eJ;generalize iG cs p=q at*
 generalize s_ m p=s at*
 cases sh<;>rcases hs with rfl|rfl<;>rcases hq with rfl|rfl|rfl|rfl|rfl|rfl|rfl<;>decide
theorem nu(m:List Nat)(cs:List Int)(sh:Bool):∀pl:List Nat,(units m cs sh pl).all (λu=>wf u&&decide (u.length≤2)&&!u.contains 39)=true
 | []=>rfl
 |p::pl=>by
  simp only [units,Fb,RT,yj,T3];exact nu m cs sh pl
theorem lW(m:List Nat)(cs:List Int)(sh:Bool)(pl:List Nat):(units m cs sh pl).all wf=true:=by
 have:=nu m cs sh pl
 rw [Bb] at this⊢
 intro u hu
 have:=this u hu
 simp only [EZ] at this
 exact this.1.1
theorem mn(m:List Nat)(cs:List Int)(sh:Bool)(pl:List Nat):WF (units m cs sh pl):=(dw _ ([]) ((DB _).symm) (lW m cs sh pl) (.inl rfl))
theorem Sl:∀us:List U,us.all (λu=>wf u&&decide (u.length≤2)&&!u.contains 39)=true→us.flatten.length≤2*us.length∧39∉us.flatten
 | [],_=>⟨DI _,by simp⟩
 |u::us,h=>by
  simp only [Ml,EZ,decide_eq_true_eq,MT,MZ,decide_eq_false_iff_not] at h
  refine fY (Sl us (by simpa [EZ] using h.2)) λh1 h2=>?_;refine ⟨?_,?_⟩
  ·simp only [Gv,be,AO];lia
  ·refine rA Gv ?_;refine rA (propext (AA)) ?_
   exact λq=>q.elim h.1.2 h2
theorem gk(m:List Nat)(cs:List Int)(sh:Bool)(pl:List Nat):(units m cs sh pl).flatten.length≤10*pl.length∧39∉(units m cs sh pl).flatten:=by
 refine fY (Sl _ (nu m cs sh pl)) λh1 h2=>?_
 have:=hZ m cs sh pl
 exact ⟨by lia,h2⟩
theorem MM{vs:List U}(h:39∉vs.flatten):tS vs.flatten≠("('', '')":Str):=by
 intro q
 have:=congrArg (λs:Str=>s.cps.toList) q
 simp only [fR] at this
 rw [this] at h
 exact h (by decide)
def pg(n:Nat)(d:PyData):Prop:=d.canLay0=true∧d.depth≤n
theorem B_{i:Int}:pg n (.int i):=⟨rfl,Lw _⟩
theorem jb{b:Bool}:pg n (.bool b):=⟨rfl,Lw _⟩
theorem Bo(h:x.cps.all (· <0x110000)=true):pg n (.str x):=⟨h,Lw _⟩
theorem kK:∀ {xs:List PyData},(∀x∈xs,pg n x)→KX xs=true∧Ux xs≤n
 | [],_=>⟨rfl,Lw _⟩
 |x::xs,h=>by
  refine fY (kK (xs:=xs) λy hy=>h y (by simp [hy])) λh1 h2=>?_;refine fY (h x (by simp)) λh3 h4=>?_;refine ⟨by rw [KX];refine rA h3 ?_;refine rA h1 ?_;rfl,?_⟩;rw [Ux];lia
theorem gC(h:∀x∈xs,pg n x):pg (n+1) (.list xs):=by
 refine fY (kK h) λh1 h2=>?_;exact ⟨by rw [Q3];exact h1,by rw [TH];lia⟩
theorem CP(h:∀x∈xs,pg n x):pg (n+1) (.tuple xs):=by
 refine fY (kK h) λh1 h2=>?_;exact ⟨by rw [Q3];exact h1,by rw [TH];lia⟩
theorem pg.mono(h:pg n d)(hk:n≤k):pg k d:=⟨h.1,KQ h.2 hk⟩
theorem pg.shaped(h:pg n d)(hn:n≤64):RU d=true:=by
 unfold RU;refine rA h.1 ?_;refine rA (decide_eq_true (KQ h.2 hn)) ?_;rfl
theorem rk(l:List Int):pg (n+1) (.list (iL l)):=gC λx hx=>by
 refine au (DG.mp hx) λi zz zq2=>?_;subst zq2;exact B_
theorem im{l:List Nat}(h:∀c∈l,c<128):pg n (.str (tS l)):=Bo (by
 refine rB Array.all_toList ?_;rw [Bb];intro c hc
 have:=h c (by simpa [tS] using hc)
 exact decide_eq_true (by lia))
theorem M_{a:PyData}(h:pg n a)(hn:n≤64)(μ:List ah):dH (.d a) (.d a) μ=some true:=by
 have hs:=h.shaped hn;cases a with
 |none=>exact (f5 rfl).trans ((f5 rfl).trans ((f5 rfl).trans ((oO (rfl:To μ _=some _) rfl).trans (if_pos ⟨hs,hs⟩))))
 |bool b=>exact congrArg some (beq_self_eq_true b)
 |int i=>exact congrArg some (beq_self_eq_true i)
 |str x=>exact congrArg some (beq_self_eq_true x)
 |list xs=>exact (f5 rfl).trans ((f5 rfl).trans ((f5 rfl).trans ((oO (rfl:To μ _=some _) rfl).trans ((if_pos ⟨hs,hs⟩).trans (congrArg some (UG _ h.1))))))
 |tuple xs=>exact (f5 rfl).trans ((f5 rfl).trans ((f5 rfl).trans ((oO (rfl:To μ _=some _) rfl).trans ((if_pos ⟨hs,hs⟩).trans (congrArg some (UG _ h.1))))))
 |dict d=>exact absurd h.1 (by simp [Q3])
def Good(x:PyData):Prop:=∃a b,x=.tuple [a,b]∧∀μ,dH (.d a) (.d b) μ=some true
theorem dP{a:PyData}(h:pg n a)(hn:n≤64):Good (.tuple [a,a]):=(fS a a rfl (M_ h hn))
theorem G1:∀xs ys:List Int,UR (iL xs) (iL ys)=(xs==ys)
 | [],[]=>rfl
 | [],_::_=>rfl
 |_::_,[]=>rfl
 |x::xs,y::ys=>by
  refine (?_:(Mq (.int x) (.int y)&&UR (iL xs) (iL ys))=_);refine rA (G1 xs ys) ?_;rfl
theorem B7(xs ys:List Int)(μ:List ah):dH (.d (.list (iL xs))) (.d (.list (iL ys))) μ=some (xs==ys):=by
 exact (f5 rfl).trans ((f5 rfl).trans ((f5 rfl).trans ((oO (rfl:To μ _=some _) rfl).trans ((if_pos ⟨(rk (n:=0) xs).shaped (by decide),(rk (n:=0) ys).shaped (by decide)⟩).trans (congrArg some (by simp only [Mq,G1]))))))
theorem RQ{h:EF}{V'' W:AV}(hf:f ρ μ=some (V,μ))(hg:g ρ μ=some (V',μ))(hh:h ρ μ=some (V'',μ))(hs:spec [V,V',V''] μ=some (W,μ')):af [f,g,h] spec ρ μ=some (W,μ'):=by
 exact (b5 (an hf (zc hg hh))).trans hs
theorem sZ{h k:EF}{V'' V3 W:AV}(hf:f ρ μ=some (V,μ))(hg:g ρ μ=some (V',μ))(hh:h ρ μ=some (V'',μ))(hk:k ρ μ=some (V3,μ))(hs:spec [V,V',V'',V3] μ=some (W,μ')):af [f,g,h,k] spec ρ μ=some (W,μ'):=by
 exact (b5 (an hf (an hg (zc hh hk)))).trans hs
noncomputable def uT(m:List Nat)(cs:List Int)(pl:List Nat):List Nat:=(units m cs false pl).flatten
theorem GZ(m:List Nat)(cs:List Int)(sh:Bool)(p:Nat):(eJ m cs sh p).all (λu=>u.all λc=>decide (c<128))=true:=by
 have hq:=ZJ (js cs p);have hs:=nK m p;unfold eJ;generalize iG cs p=q at*
 generalize s_ m p=s at*
 cases sh<;>rcases hs with rfl|rfl<;>rcases hq with rfl|rfl|rfl|rfl|rfl|rfl|rfl<;>decide
theorem tn(m:List Nat)(cs:List Int)(sh:Bool)(pl:List Nat):∀u∈units m cs sh pl,∀c∈u,c<128:=by
 intro u hu c hc;refine au (L4.mp hu) λp zz hp=>?_
 have:=Bb.mp (Bb.mp (GZ m cs sh p) u hp) c hc
 simpa using this
theorem zX(m:List Nat)(cs:List Int)(sh:Bool)(pl:List Nat):∀c∈(units m cs sh pl).flatten,c<128:=by
 intro c hc;refine au (TV.mp hc) λu hu h=>?_;exact tn m cs sh pl u hu c h
theorem uH{pl:List Nat}(hm:m.length=6)(hc:cs.length=6)(hp:∀p∈pl,p<6)(hz:pl.length≤1000)(h0:a9 i ρ μ=some (.d (.list (nL pl)),μ))(h1:a9 1 ρ μ=some (.d (.list (nL m)),μ))(h2:a9 2 ρ μ=some (.d (.list (iL cs)),μ)):
  dv (kS "") [(af [(a9 i),(a9 1),(a9 2),(kB false)] bB)] fc ρ μ=some (.d (.str (tS (uT m cs pl))),μ):=
 mj (sZ h0 h1 h2 rfl (ac7 hm hc hp hz)) rfl (by have:=(gk m cs false pl).1;lia)
theorem vH{pl:List Nat}(hz:pl.length≤100)(h0:f ρ μ=some (.d (.str (tS (uT m cs pl))),μ)):af [f] aq ρ μ=some (.d (.bool (Ls m pl)),μ):=by
 refine rB (BD m cs pl) ?_;refine d4 h0 (s3 (mn m cs false pl) ?_ ?_)
 ·have:=(gk m cs false pl).1;lia
 ·have:=hZ m cs false pl;lia
noncomputable def bi(m:List Nat)(G:List Fm):List PyData:=G.map (Fm.enc m)
noncomputable def mQ(R M C:PyData)(j:Nat)(t o pr k w y st tx ha td te ke:Option AV):d0:=[some (.d R),some (.d M),some (.d C),some (.c j),t,o,pr,k,w,y,st,tx,ha,td,te,ke]
noncomputable def hdF(m:List Nat):Fm→Int
 | .at i=>sg m i
 | .bin true _ _=>18
 | .bin false _ _=>16
theorem Gg(m:List Nat)(F:Fm):∃ds,F.enc m=.tuple (.int (hdF m F)::ds)∧ds.length≤3:=by
 cases F with
 |«at» i=>exact (aZ _ rfl (by simp))
 |bin p l r=>cases p<;>exact (aZ _ rfl (by simp))
theorem Bd(hf:f ρ μ=some (.d (F.enc m),μ)):aF f (kI 0) ρ μ=some (.d (.int (hdF m F)),μ):=by
 refine au (Gg m F) λds e h=>?_;rw [e] at hf
 exact cH hf rfl rfl (by decide) rfl (aa (by simp only [AO];lia))
noncomputable def ZZ:Fm→Bool
 | .bin true _ _=>true
 |_=>false
noncomputable def wI:Fm→Bool
 | .bin false _ _=>true
 |_=>false
theorem U2(hf:f ρ μ=some (.d (F.enc m),μ)):bC (aF f (kI 0)) (jF kc (kS "|")) dH ρ μ=some (ZZ F,μ):=by
 refine (o4 (y:=18) (Bd hf) (by rfl)).trans ?_;cases F with
 |«at» i=>rcases gG m i with q|q<;>(refine (?_:some (sg m i==18,μ)=some (false,μ));rw [q];rfl)
 |bin p l r=>cases p<;>rfl
theorem VC(hf:f ρ μ=some (.d (F.enc m),μ)):bC (aF f (kI 0)) (jF kc (kS "*")) dH ρ μ=some (wI F,μ):=by
 refine (o4 (y:=16) (Bd hf) (by rfl)).trans ?_;cases F with
 |«at» i=>rcases gG m i with q|q<;>(refine (?_:some (sg m i==16,μ)=some (false,μ));rw [q];rfl)
 |bin p l r=>cases p<;>rfl
noncomputable def opD:PyData→List PyData
 | .tuple (.int n::r)=>if n=18 then r.drop 1 else [.tuple (.int n::r)]
 |x=>[x]
theorem C3(m:List Nat)(F:Fm):opD (F.enc m)=bi m (xI F):=by
 cases F with
 |«at» i=>exact if_neg (by rcases gG m i with q|q<;>rw [q]<;>decide)
 |bin p l r=>cases p<;>rfl
theorem ur(m:List Nat):∀G:List Fm,((bi m G).flatMap λx=>if true then (opD x).map (λy=>y) else [])=bi m (G.flatMap xI)
 | []=>rfl
 |F::G=>by
  have ih:=ur m G;simp only [bi,ET,Fb,if_true,TJ] at ih⊢
  refine rA ih ?_;refine rA (C3 _ _) ?_
  simp [bi]
theorem fx(G:List Fm):G.length≤(bJ G).length:=by
 have:=kR G 0;lia
abbrev Ru:SF:=(ap (c6 0 (cb ta (aK false (a9 0)) (du 16) (cU bg (gf (aK false (dx (bC (aF (a9 16) (kI 0)) (jF kc (kS "|")) dH) (cc (a9 16) (aL (kI 2)) ba) (cX [(a9 16)]))) (du 17) (cU bg (aY (a9 17))))))) aP)
theorem HV{G:List Fm}{M C:PyData}{t o pr k w y st:Option AV}(hz:(bJ G).length≤6):
  Ru (mQ (.list (bi m G)) M C j t o pr k w y st tx ha td te ke) μ=some (.next,mQ (.list (bi m (G.flatMap xI))) M C j t o pr k w y st tx ha td te ke,μ):=by
 have hl:=fx (G.flatMap xI);rw [gT] at hl
 have hcm:=p9 (sc:=ta) (itf:=aK false (a9 0)) (itf2:=aK false (dx (bC (aF (a9 16) (kI 0)) (jF kc (kS "|")) dH) (cc (a9 16) (aL (kI 2)) ba) (cX [(a9 16)]))) (t:=bg) (e:=a9 17) (ρ:=mQ (.list (bi m G)) M C j t o pr k w y st tx ha td te ke) (μ:=μ) (xs:=bi m G) 16 17 (by decide) (λzz=>true) opD (λzz y=>y)
  (d6 (V:=.d (.list (bi m G))) rfl rfl) (az _ _) (λzz zz zz=>rfl) (λx hx zz w=>by
   refine au (DG.mp hx) λF hF zq2=>?_;subst zq2;refine mm (ln (U2 (F:=F) (m:=m) rfl) (λh=>?_) (λh=>?_))
   ·cases F with
    |«at» i=>cases h
    |bin p l r=>
     cases p with
     |false=>cases h
     |true=>exact ti (xs:=[.int 18,.list (nL (l.pl++r.pl)),l.enc m,r.enc m]) 2 rfl (by decide) (by simp) (aa (xF rfl))
   ·have:opD (F.enc m)=[F.enc m]:=by
     refine rA (C3 _ _) ?_;cases F with
     |«at» i=>rfl
     |bin p l r=>
      cases p with
      |false=>rfl
      |true=>cases h
    refine rA this ?_;exact d7 (ds:=[F.enc m]) rfl (aa (xF rfl))) (λzz zz zz zz zz=>rfl) (by refine rA (ur _ _) ?_;rw [bi];refine rA (xG _) ?_;exact aa (by lia))
 rw [ur] at hcm
 exact (aB (bO (bY hcm))).trans bK
noncomputable def opI:Nat→List Fm→List Fm
 |0,G=>G
 |n+1,G=>opI n (G.flatMap xI)
theorem NM:∀ (n:Nat) (G:List Fm),bJ (opI n G)=bJ G
 |0,_=>rfl
 |n+1,G=>by rw [opI];refine rA (NM n _) ?_;exact rA (gT _) rfl
theorem vY{m:List Nat}{M C:PyData}{j:Nat}{o pr k w y st tx ha td te ke:Option AV}{μ:List ah}(xs:List PyData):∀ (r:List PyData) (G:List Fm) (t:Option AV),(bJ G).length≤6→∃t',
  fN (du 4) Ru aP none xs r (mQ (.list (bi m G)) M C j t o pr k w y st tx ha td te ke) μ=some (.next,mQ (.list (bi m (opI r.length G))) M C j t' o pr k w y st tx ha td te ke,μ)
 | [],G,t,_=>⟨t,rfl⟩
 |x::r,G,t,h=>by
  refine bP (vY (m:=m) (M:=M) (C:=C) (j:=j) (o:=o) (pr:=pr) (k:=k) (w:=w) (y:=y) (st:=st) (tx:=tx) (ha:=ha) (td:=td) (te:=te) (ke:=ke) (μ:=μ) xs r (G.flatMap xI) (some (.d x)) (by refine rA (gT _) ?_;exact h)) λt' e=>?_;exact ⟨t',Lz (dK (ρ1:=mQ (.list (bi m G)) M C j (some (.d x)) o pr k w y st tx ha td te ke) rfl (HV h) (az _ _)) e⟩
theorem Gm{s:a_}{G:List Fm}{M C:PyData}(hz:(bJ G).length≤6):∃t,
  BM s (mQ (.list (bi m G)) M C j none none none none none none none none none none none none) μ=some (.next,mQ (.list (bi m (fI G))) M C j t none none none none none none none none none none none,μ):=by
 refine bP (vY (m:=m) (M:=M) (C:=C) (j:=j) (o:=none) (pr:=none) (k:=none) (w:=none) (y:=none) (st:=none) (tx:=none) (ha:=none) (td:=none) (te:=none) (ke:=none) (μ:=μ) (fJ 0 5) (fJ 0 5) G none hz) λt' e=>?_;refine ⟨t',?_⟩;unfold BM;refine rA (gI (xs:=fJ 0 5) (gg:=none) (μ1:=μ) rfl) ?_;exact e
noncomputable def fL:Fm→Int
 | .at _=>2
 | .bin .. =>4
theorem Vz(G:List Fm):(G.map fL==[2,2])=two G:=by
 match G with
 | []=>rfl
 | [.at _]=>rfl
 | [.bin ..]=>rfl
 | [.at _,.at _]=>rfl
 | [.at _,.bin ..]=>rfl
 | [.bin ..,.at _]=>rfl
 | [.bin ..,.bin ..]=>rfl
 |F::F'::F''::G=>
  have h1:two (F::F'::F''::G)=false:=by cases F<;>cases F'<;>rfl
  refine rA h1 ?_
  simp
theorem Ie{G:List Fm}(h:G[k]? =some F):(bi m G)[k]? =some (F.enc m):=by
 rw [bi,Gi];refine rA h ?_;rfl
theorem BX{G:List Fm}(hf:f ρ μ=some (.d (.list (bi m G)),μ))(hg:g ρ μ=some (.d (.int k),μ))(h:G[k]? =some F)(hz:G.length≤6):aF f g ρ μ=some (.d (F.enc m),μ):=
 cH hf hg rfl (by omega) (by refine rA (Fa _) ?_;exact Ie h) (by rw [bi];refine rA (xG _) ?_;exact aa (by omega))
theorem oW{s:List Nat}(h:s.Sublist (yw 6)):∀p∈s,p<6:= λp hp=>D3.mp (h.subset hp)
theorem ip{s:List Nat}(h:s.Sublist (yw 6)):s.length≤6:=by have:=h.length_le;rwa [IN] at this
theorem I7{s:a_}{G:List Fm}{M C:PyData}{t:Option AV}(hz:(bJ G).length≤6)(h2:two G=false):
  sK s (mQ (.list (bi m G)) M C j t none none none none none none none none none none none) μ=some (.next,mQ (.list (bi m G)) M C j t none none none none none none none none none none none,μ):=by
 have hl:=fx G;have hcm:=iw (sc:=uX) (itf:=aK false (a9 0)) (e:=af [a9 16] dz) (ρ:=mQ (.list (bi m G)) M C j t none none none none none none none none none none none) (μ:=μ) (xs:=bi m G) (g:=none) 16 (λx=>match x with| .tuple l=>.int l.length|x=>x) (d6 (V:=.d (.list (bi m G))) rfl rfl) (az _ _) (λx hx=>by
  refine au (DG.mp hx) λF hF zq2=>?_;subst zq2;cases F with
  |«at» i=>exact gH rfl (xs:=[.int (sg m i),.list [.int i]]) rfl (aa (xF rfl))
  |bin p l r=>exact gH rfl (xs:=[.int (if p then 18 else 16),.list (nL (l.pl++r.pl)),l.enc m,r.enc m]) rfl (aa (xF rfl))) (by rw [bi];refine rA (xG _) ?_;exact aa (by omega))
 have e:(bi m G).map (λx=>match x with| .tuple l=>EU l.length|x=>x)=iL (G.map fL):=by
  simp only [bi,iL,ER];apply FH;intro F _;cases F<;>rfl
 rw [e] at hcm
 unfold sK;refine rA (gP (dF (bY hcm) (dG (ds:=[.int 2,.int 2]) rfl (aa (xF rfl))) (B7 (G.map fL) [2,2] μ)) (by rw [Vz];exact h2)) ?_;exact bK
noncomputable def Fz(b1 b2:Bool):PyData:=.tuple [.list [.bool b1,.bool b2],.list [.bool true,.bool true]]
theorem isB{b c:Bool}(hf:f ρ μ=some (.d (.bool b),μ))(hg:g ρ μ=some (.d (.bool c),μ)):dY f g L6 ρ μ=some (.d (.bool (b==c)),μ):=hH hf hg rfl
theorem D9{s:a_}{t:Option AV}(hi:i<5)(hc:cs.length=6)(hs:(bJ [Fm.at p,Fm.at q]).Sublist (yw 6))(hcl:bk (aH.getD i []) (bJ [Fm.at p,Fm.at q])=true)(hj:μ[j]? =some (.live X))(hX:X.length≤10000):
  ∃ρ',sK s (mQ (.list (bi (aH.getD i []) [.at p,.at q])) (.list (nL (aH.getD i []))) (.list (iL cs)) j t none none none none none none none none none none none) μ=some (.ret (.d (.bool true)),ρ',μ.set j (.live (X++[Fz true true]))):=by
 have hm:=ma hi;have hpq:bJ [Fm.at p,Fm.at q]=[p,q]:=rfl;rw [hpq] at hs hcl
 have h6:=oW hs;have hlt:p<q:=by
  have:([p,q]:List Nat).Pairwise (· < ·):=List.Pairwise.sublist hs List.pairwise_lt_range
  simpa using this
 refine fY (Og hi (h6 q (by simp)) hlt hcl) λb1 b2=>?_;generalize hmm:aH.getD i []=m at*
 let ρ0:=mQ (.list (bi m [.at p,.at q])) (.list (nL m)) (.list (iL cs)) j t none none none none none none none none none none none
 have hcm:=iw (sc:=uX) (itf:=aK false (a9 0)) (e:=af [a9 16] dz) (ρ:=ρ0) (μ:=μ) (xs:=bi m [.at p,.at q]) (g:=none) 16 (λzz=>.int 2) (d6 (V:=.d (.list (bi m [.at p,.at q]))) rfl rfl) (az _ _) (λx hx=>by
  refine au (DG.mp hx) λF hF zq2=>?_;subst zq2;simp only [Ch,DM,or_false] at hF
  rcases hF with rfl|rfl
  ·exact gH rfl (xs:=[.int (sg m p),.list [.int p]]) rfl (aa (xF rfl))
  ·exact gH rfl (xs:=[.int (sg m q),.list [.int q]]) rfl (aa (xF rfl))) (aa (by simp [bi]))
 have g0:aF (a9 0) (kI 0) ρ0 μ=some (.d ((Fm.at p).enc m),μ):=BX (G:=[.at p,.at q]) (k:=0) rfl rfl rfl (by simp);have g1:aF (a9 0) (kI 1) ρ0 μ=some (.d ((Fm.at q).enc m),μ):=BX (G:=[.at p,.at q]) (k:=1) rfl rfl rfl (by simp);have q0:=qA g0;have q1:=qA g1;have a1:=cS q0 q1 (xs:=nL [p]) (ys:=nL [q]) rfl rfl (aa (by simp [nL]));have a2:=cS q1 q0 (xs:=nL [q]) (ys:=nL [p]) rfl rfl (aa (by simp [nL]));have ht:=d7 (ds:=[.list (nL [p,q]),.list (nL [q,p])]) (an a1 (an a2 bW)) (aa (xF rfl));have hcm2:=iw (sc:=xS) (e:=dv (kS "") [(af [(a9 16),(a9 1),(a9 2),(kB false)] bB)] fc) (ρ:=ρ0) (μ:=μ) (xs:=[.list (nL [p,q]),.list (nL [q,p])]) (g:=none) 16 (λx=>match x with| .list [.int a,.int b]=>.str (tS (uT m cs [a.toNat,b.toNat]))|x=>x) (mm ht) (az _ _) (λx hx=>by
  simp only [Ch,DM,or_false] at hx
  rcases hx with rfl|rfl
  ·exact uH (pl:=[p,q]) hm hc h6 (by simp) rfl rfl rfl
  ·exact uH (pl:=[q,p]) hm hc (λx hx=>h6 x (by simp at hx⊢;exact hx.symm)) (by simp) rfl rfl rfl) (aa (xF rfl))
 let ρ1:=mQ (.list (bi m [.at p,.at q])) (.list (nL m)) (.list (iL cs)) j t none (some (.d (.list [.str (tS (uT m cs [p,q])),.str (tS (uT m cs [q,p]))]))) none none none none none none none none none
 have c0:af [aF (a9 6) (kI 0)] aq ρ1 μ=some (.d (.bool true),μ):=by
  refine rB b1 ?_;exact vH (by simp) (cH (f:=a9 6) (V:=.d (.list [.str (tS (uT m cs [p,q])),.str (tS (uT m cs [q,p]))])) (k:=0) rfl rfl rfl (by decide) rfl (aa (xF rfl)))
 have c1:af [aF (a9 6) (kI 1)] aq ρ1 μ=some (.d (.bool false),μ):=by
  refine rB b2 ?_;exact vH (by simp) (cH (f:=a9 6) (V:=.d (.list [.str (tS (uT m cs [p,q])),.str (tS (uT m cs [q,p]))])) (k:=1) rfl rfl rfl (by decide) rfl (aa (xF rfl)))
 have l1:=dG (ds:=[.bool true,.bool true]) (an (isB c0 (rfl:kB true _ _=some (.d (.bool true),_))) (an (isB c1 (rfl:kB false _ _=some (.d (.bool false),_))) bW)) (aa (xF rfl));have l2:aV [kB true,kB true] ρ1 μ=some (.d (.list [.bool true,.bool true]),μ):=dG (ds:=[.bool true,.bool true]) rfl (aa (xF rfl));have tt:=d7 (ds:=[.list [.bool true,.bool true],.list [.bool true,.bool true]]) (an l1 (an l2 bW)) (aa (xF rfl));refine ⟨ρ1,?_⟩;unfold sK;refine (gB (dF (bY hcm) (dG (ds:=[.int 2,.int 2]) rfl (aa (xF rfl))) (B7 [2,2] [2,2] μ)) rfl).trans ?_;refine (aB (jv hcm2)).trans ?_;refine (aB (ρ1:=ρ1) (eB (gt (j:=j) rfl tt hj (aa (by omega))))).trans ?_;exact cT (dZ rfl)
theorem jd(l r:Fm)(B:List Fm):∀ (A pre:List Fm),gQ l r B A pre=(yw (A.length+1)).map λj=>(A.drop j++[l],pre++A.take j++r::B)
 | [],pre=>by simp [Vk]
 |F::A,pre=>by
  rw [VU];refine rA (jd l r B A (pre++[F])) ?_;refine rA AO ?_;refine rA (LA (n:=A.length+1)) ?_;refine rA ET ?_;refine rA ER ?_
  congr 1
  ·simp
  ·apply FH
   intro j _
   simp
theorem j8(l r:Fm)(A:List Fm):∀ (B pre:List Fm),iU l r A B pre=(yw (B.length+1)).map λj=>(r::(pre++B.take j),A++l::B.drop j)
 | [],pre=>by simp [SJ]
 |F::B,pre=>by
  rw [TT];refine rA (j8 l r A B (pre++[F])) ?_;refine rA AO ?_;refine rA (LA (n:=B.length+1)) ?_;refine rA ET ?_;refine rA ER ?_
  congr 1
  ·simp
  ·apply FH
   intro j _
   simp
def WU(A B:List Fm)(l r:Fm)(w:List Fm×List Fm):Prop:=
 (∃A1 A2,A=A1++A2∧w=(A2++[l],A1++r::B))∨(∃B1 B2,B=B1++B2∧w=(r::B1,A++l::B2))
theorem GF{A:List Fm}{w:List Fm×List Fm}(h:w∈gQ l r B A []++iU l r A B []):WU A B l r w:=by
 rcases AA.mp h with h|h
 ·rw [jd] at h
  refine au (DG.mp h) λj zz zq2=>?_;subst zq2;exact .inl (fS (A.take j) (A.drop j) ((LM j A).symm) (by simp))
 ·rw [j8] at h
  refine au (DG.mp h) λj zz zq2=>?_;subst zq2;exact .inr (fS (B.take j) (B.drop j) ((LM j B).symm) (by simp))
noncomputable def PU:Fm→Nat
 | .at _=>0
 | .bin p l r=>(if p then 0 else 1)+PU l+PU r
noncomputable def jj(G:List Fm):Nat:=(G.map PU).sum
theorem Cm(A B:List Fm):jj (A++B)=jj A+jj B:=by simp [jj]
theorem qM(F:Fm)(B:List Fm):jj (F::B)=PU F+jj B:=by simp [jj]
theorem Pc:jj []=0:=rfl
theorem k_:∀G:List Fm,jj (G.flatMap xI)=jj G
 | []=>rfl
 |F::G=>by
  refine rA Fb ?_;refine rA (Cm _ _) ?_;refine rA (k_ G) ?_;refine rA (qM _ _) ?_
  congr 1
  cases F with
  |«at» i=>simp [K0,jj]
  |bin p l r=>cases p<;>simp [Sa,R6,jj,PU]
theorem K6(G:List Fm):jj (fI G)=jj G:=by
 unfold fI;refine rA (k_ _) ?_;refine rA (k_ _) ?_;refine rA (k_ _) ?_;refine rA (k_ _) ?_;exact rA (k_ _) rfl
theorem SE{A:List Fm}{w:List Fm×List Fm}(h:WU A B l r w):jj w.1+jj w.2+1=jj (A++.bin false l r::B):=by
 rcases h with ⟨A1,A2,rfl,rfl⟩| ⟨B1,B2,rfl,rfl⟩<;>simp only [Cm,qM,Pc,PU]<;>simp<;>lia
theorem GW{A:List Fm}{w:List Fm×List Fm}(h:WU A B l r w):(bJ w.1++bJ w.2).Perm (bJ (A++.bin false l r::B)):=by
 rw [List.perm_iff_count];intro a
 rcases h with ⟨A1,A2,rfl,rfl⟩| ⟨B1,B2,rfl,rfl⟩<;>simp only [d5,b6,gy,Fm.pl,List.count_append,List.count_nil]<;>lia
theorem sn{A:List Fm}{w:List Fm×List Fm}(h:WU A B l r w):bJ w.1<:+:bJ (A++.bin false l r::B):=by
 rcases h with ⟨A1,A2,rfl,rfl⟩| ⟨B1,B2,rfl,rfl⟩
 ·exact (jH (bJ A1) (r.pl++bJ B) (by simp [d5,b6,gy,Fm.pl]))
 ·exact (jH (bJ A++l.pl) (bJ B2) (by simp [d5,b6,Fm.pl]))
theorem FA{A:List Fm}{w:List Fm×List Fm}(h:WU A B l r w):(bJ w.2).Sublist (bJ (A++.bin false l r::B)):=by
 rcases h with ⟨A1,A2,rfl,rfl⟩| ⟨B1,B2,rfl,rfl⟩
 ·have:bJ ((A1++A2)++.bin false l r::B)=bJ A1++((bJ A2++l.pl)++(r.pl++bJ B)):=by simp [d5,b6,Fm.pl]
  refine rA this ?_;simp only [d5,b6];exact SH (QE _) (Qf _ _)
 ·have:bJ (A++.bin false l r::(B1++B2))=(bJ A++l.pl)++((r.pl++bJ B1)++bJ B2):=by simp [d5,b6,Fm.pl]
  refine rA this ?_;simp only [d5,b6,←E9];refine rA (E9 (bJ A++l.pl) _ _) ?_;refine rA (E9 (bJ A++l.pl) _ _) ?_;exact SH (QE _) (Qf _ _)
theorem Ed:((yw 5).all λi=>(yw 6).all λp=>(aH.getD i []).getD ((aH.getD i []).getD p 0) 0==p)=true:=by decide+kernel
theorem Z6(hi:i<5)(hp:p<6):(aH.getD i []).getD ((aH.getD i []).getD p 0) 0=p:=by
 have:=Bb.mp (Bb.mp Ed i (D3.mpr hi)) p (D3.mpr hp)
 simpa using this
theorem q_{s:List Nat}(h:bk m s=true)(hp:p∈s):m.getD p 0∈s:=by
 have:=Bb.mp h p hp
 simpa using this
theorem yX{A:List Fm}{w:List Fm×List Fm}(hi:i<5)(h:WU A B l r w)(hs:(bJ (A++.bin false l r::B)).Sublist (yw 6))(hc:bk (aH.getD i []) (bJ (A++.bin false l r::B))=true)(h1:bk (aH.getD i []) (bJ w.1)=true):bk (aH.getD i []) (bJ w.2)=true:=by
 have hp:=GW h;have hn:(bJ w.1++bJ w.2).Nodup:=hp.symm.nodup (List.Nodup.sublist hs List.nodup_range);unfold bk;rw [Bb];intro p hpw;have hpG:p∈bJ (A++.bin false l r::B):=hp.subset (CE _ hpw);have hm:=q_ hc hpG
 rcases AA.mp (hp.symm.subset hm) with q|q
 ·have:=q_ h1 q
  rw [Z6 hi (oW hs p hpG)] at this
  exact absurd rfl ((Qt.mp hn).2.2 p this p hpw)
 ·simpa using q
noncomputable def iZ(m:List Nat)(w:List Fm×List Fm):PyData:=.tuple [.list (bi m w.1),.list (bi m w.2)]
theorem Fy(m:List Nat)(A B:List Fm):bi m (A++B)=bi m A++bi m B:=by simp [bi]
theorem fe(m:List Nat)(A:List Fm):(bi m A).length=A.length:=by simp [bi]
theorem sw(m:List Nat)(A:List Fm)(k:Nat):(bi m A).take k=bi m (A.take k):=by simp [bi,R5]
theorem t9(m:List Nat)(A:List Fm)(k:Nat):(bi m A).drop k=bi m (A.drop k):=by simp [bi,T9]
theorem m9:∀ (n:Nat) (a:Nat),fJ a n=(yw n).map λ(i:Nat)=>EU ((a+i:Nat):Int)
 |0,_=>rfl
 |n+1,a=>by
  rw [fJ];refine rA LA ?_;refine rA ET ?_;refine rA ER ?_;refine rA (show ((a:Int)+1)=((a+1:Nat):Int) by lia) ?_;refine rA (m9 n (a+1)) ?_
  congr 1
  apply FH;intro i _;refine (?_:EU _=EU _)
  congr 1
  simp only [SI];lia
theorem FT:((yw 8).all λa=>(yw 8).all λb=>K4 (a:Int) (b:Int) 1)=true:=by decide+kernel
theorem GT{a:Nat}(ha:a<8)(hb:b<8):K4 (a:Int) (b:Int) 1=true:=
 Bb.mp (Bb.mp FT a (D3.mpr ha)) b (D3.mpr hb)
theorem qO{a:Nat}(hf:f ρ μ=some (.rng a b,μ))(ha:a<8)(hb:b<8):aK false f ρ μ=some ((yw (b-a)).map λ(i:Nat)=>EU ((a+i:Nat):Int),none,μ):=by
 exact (mV hf (GT ha hb)).trans (by rw [show ((b:Int)-(a:Int)).toNat=b-a by lia,m9])
section
variable {A:List Fm} {M C:PyData} {t pr w y st:Option AV}
noncomputable abbrev dR(A B:List Fm)(l r:Fm):List Fm:=A++.bin false l r::B
theorem Qu(hf:f ρ μ=some (.d ((Fm.bin false l r).enc m),μ)):aF f (kI 2) ρ μ=some (.d (l.enc m),μ):=
 cH (xs:=[.int 16,.list (nL (l.pl++r.pl)),l.enc m,r.enc m]) (k:=2) hf rfl rfl (by decide) rfl (aa (xF rfl))
theorem Sc(hf:f ρ μ=some (.d ((Fm.bin false l r).enc m),μ)):aF f (kI 3) ρ μ=some (.d (r.enc m),μ):=
 cH (xs:=[.int 16,.list (nL (l.pl++r.pl)),l.enc m,r.enc m]) (k:=3) hf rfl rfl (by decide) rfl (aa (xF rfl))
theorem q9:(dR A B l r).length=A.length+B.length+1:=by simp [dR];lia
theorem Kj{G:List Fm}(h0:a9 0 ρ μ=some (.d (.list (bi m G)),μ))(hk:f ρ μ=some (.d (.int k),μ))(h:k≤G.length)(hz:G.length≤6):cc (a9 0) ba (aL f) ρ μ=some (.d (.list (bi m (G.take k))),μ):=by
 refine (f6 (lo:=none) (hi:=some (k:Int)) h0 rfl (dD hk) (by refine rA (fe _ _) ?_;exact aa (by lia))).trans ?_;refine rA (p7 _ (by rw [fe];exact h)) ?_;exact rA (sw _ _ _) rfl
theorem Hw{G:List Fm}(h0:a9 0 ρ μ=some (.d (.list (bi m G)),μ))(hk:f ρ μ=some (.d (.int k),μ))(h:k≤G.length)(hz:G.length≤6):cc (a9 0) (aL f) ba ρ μ=some (.d (.list (bi m (G.drop k))),μ):=by
 refine (f6 (lo:=some (k:Int)) (hi:=none) h0 (dD hk) rfl (by refine rA (fe _ _) ?_;exact aa (by lia))).trans ?_;refine rA (Bj _ (by rw [fe];exact h)) ?_;exact rA (t9 _ _ _) rfl
theorem Jm{G:List Fm}{a:Nat}(h0:a9 0 ρ μ=some (.d (.list (bi m G)),μ))(hf:f ρ μ=some (.d (.int a),μ))(hg:g ρ μ=some (.d (.int b),μ))(hab:a≤b)(h:b≤G.length)(hz:G.length≤6):cc (a9 0) (aL f) (aL g) ρ μ=some (.d (.list (bi m ((G.drop a).take (b-a)))),μ):=by
 refine (f6 (lo:=some (a:Int)) (hi:=some (b:Int)) h0 (dD hf) (dD hg) (by refine rA (fe _ _) ?_;exact aa (by lia))).trans ?_;refine rA (JG _ hab (by rw [fe];exact h)) ?_;refine rA (t9 _ _ _) ?_;exact rA (sw _ _ _) rfl
theorem E1{X Y:List Fm}(hf:f ρ μ=some (.d (.list (bi m X)),μ))(hg:g ρ μ=some (.d (.list (bi m Y)),μ))(hz:X.length+Y.length≤100):aj f g aT ρ μ=some (.d (.list (bi m (X++Y))),μ):=by
 refine rA (Fy _ _ _) ?_;exact cS hf hg rfl rfl (aa (by refine rA (fe _ _) ?_;refine rA (fe _ _) ?_;lia))
theorem Ng(hf:f ρ μ=some (.d (F.enc m),μ)):aV [f] ρ μ=some (.d (.list (bi m [F])),μ):=jR hf
noncomputable abbrev ρB(m:List Nat)(A B:List Fm)(l r:Fm)(M C:PyData)(ja:Nat)(t pr w y st tx ha td te ke:Option AV):d0:=mQ (.list (bi m (dR A B l r))) M C ja t (some (.d ((Fm.bin false l r).enc m))) pr (some (.d (.int A.length))) w y st tx ha td te ke
theorem Je(hz:(dR A B l r).length≤6):fg nU (aK false (af [(aj (a9 7) (kI 1) aT)] cF)) (du 16) (cU bg (aY (cX [(aj (cc (a9 0) (aL (a9 16)) (aL (a9 7))) (aV [(aF (a9 5) (kI 2))]) aT),(aj (aj (cc (a9 0) ba (aL (a9 16))) (aV [(aF (a9 5) (kI 3))]) aT) (cc (a9 0) (aL (aj (a9 7) (kI 1) aT)) ba) aT)])))
  (ρB m A B l r M C ja t pr w y st tx ha td te ke) μ=some ((gQ l r B A []).map (iZ m),μ):=by
 have hG:=q9 (A:=A) (B:=B) (l:=l) (r:=r);have hi:aK false (af [(aj (a9 7) (kI 1) aT)] cF) (ρB m A B l r M C ja t pr w y st tx ha td te ke) μ=some ((yw (A.length+1-0)).map λ(i:Nat)=>EU ((0+i:Nat):Int),none,μ):=
  qO (d4 (cR (x:=A.length) (y:=1) rfl rfl) rfl) (by lia) (by lia)
 have hcm:=iw (sc:=nU) (e:=(cX [(aj (cc (a9 0) (aL (a9 16)) (aL (a9 7))) (aV [(aF (a9 5) (kI 2))]) aT),(aj (aj (cc (a9 0) ba (aL (a9 16))) (aV [(aF (a9 5) (kI 3))]) aT) (cc (a9 0) (aL (aj (a9 7) (kI 1) aT)) ba) aT)])) 16
  (λx=>match x with| .int j=>iZ m (A.drop j.toNat++[l],[]++A.take j.toNat++r::B)|x=>x) hi (az _ _) (λx hx=>by
   refine au (DG.mp hx) λj hj zq2=>?_;subst zq2;have hj:=D3.mp hj;refine rA (Ln _) ?_
   let ρ':d0:=(bG nU (ρB m A B l r M C ja t pr w y st tx ha td te ke)).set 16 (some (.d (.int (j:Int))))
   have s1:cc (a9 0) (aL (a9 16)) (aL (a9 7)) ρ' μ=some (.d (.list (bi m (A.drop j))),μ):=by
    have:=Jm (m:=m) (ρ:=ρ') (f:=a9 16) (g:=a9 7) (G:=dR A B l r) (a:=j) (b:=A.length) (μ:=μ) rfl rfl rfl (by lia) (by lia) (by lia)
    refine rA this ?_;have e:(T1 j (dR A B l r)).take (A.length-j)=A.drop j:=by
     refine rA Nx ?_;refine rA (Mp (by simp)) ?_;exact rA (F7 (by simp)) rfl
    exact rA e rfl
   have s2:cc (a9 0) ba (aL (a9 16)) ρ' μ=some (.d (.list (bi m (A.take j))),μ):=by
    have:=Kj (m:=m) (ρ:=ρ') (f:=a9 16) (G:=dR A B l r) (k:=j) (μ:=μ) rfl rfl (by lia) (by lia)
    refine rA this ?_;exact rA (Mp (by lia)) rfl
   have s3:cc (a9 0) (aL (aj (a9 7) (kI 1) aT)) ba ρ' μ=some (.d (.list (bi m B)),μ):=by
    have:=Hw (m:=m) (ρ:=ρ') (f:=aj (a9 7) (kI 1) aT) (G:=dR A B l r) (k:=A.length+1) (μ:=μ) rfl (cR (x:=A.length) (y:=1) rfl rfl) (by lia) (by lia)
    refine rA this ?_;have e:T1 (A.length+1) (dR A B l r)=B:=by refine rA Nx ?_;simp
    exact rA e rfl
   have p2:aV [aF (a9 5) (kI 2)] ρ' μ=some (.d (.list (bi m [l])),μ):=Ng (Qu rfl);have p3:aV [aF (a9 5) (kI 3)] ρ' μ=some (.d (.list (bi m [r])),μ):=Ng (Sc rfl);have a1:=E1 s1 p2 (by simp;lia);have a2:=E1 (E1 s2 p3 (by simp;lia)) s3 (by simp;lia);refine (d7 (ds:=[.list (bi m (A.drop j++[l])),.list (bi m (A.take j++[r]++B))]) (an a1 (an a2 bW)) (aa (xF rfl))).trans ?_
   simp [iZ]) (by simp;exact aa (by lia))
 refine hcm.trans (congrArg (λL=>some (L,μ)) ?_);rw [jd];refine rA ER ?_;refine rA ER ?_;refine rA (RS _) ?_;apply FH;intro j _
 simp
theorem Km(hz:(dR A B l r).length≤6):fg o6 (aK false (af [(aj (a9 7) (kI 1) aT),(aj (af [(a9 0)] dz) (kI 1) aT)] cF)) (du 16) (cU bg (aY (cX [(aj (aV [(aF (a9 5) (kI 3))]) (cc (a9 0) (aL (aj (a9 7) (kI 1) aT)) (aL (a9 16))) aT),(aj (aj (cc (a9 0) ba (aL (a9 7))) (aV [(aF (a9 5) (kI 2))]) aT) (cc (a9 0) (aL (a9 16)) ba) aT)])))
  (ρB m A B l r M C ja t pr w y st tx ha td te ke) μ=some ((iU l r A B []).map (iZ m),μ):=by
 have hG:=q9 (A:=A) (B:=B) (l:=l) (r:=r);have hlen:af [a9 0] dz (ρB m A B l r M C ja t pr w y st tx ha td te ke) μ=some (.d (.int ((dR A B l r).length:Nat)),μ):=by
  refine rA (gH (f:=a9 0) (xs:=bi m (dR A B l r)) rfl rfl (by rw [fe];exact aa (by lia))) ?_;exact rA (fe _ _) rfl
 have hi:aK false (af [(aj (a9 7) (kI 1) aT),(aj (af [(a9 0)] dz) (kI 1) aT)] cF) (ρB m A B l r M C ja t pr w y st tx ha td te ke) μ=some ((yw ((dR A B l r).length+1-(A.length+1))).map λ(i:Nat)=>EU ((A.length+1+i:Nat):Int),none,μ):=
  qO (iV (cR (x:=A.length) (y:=1) rfl rfl) (cR hlen rfl) rfl) (by lia) (by lia)
 have hcm:=iw (sc:=o6) (e:=(cX [(aj (aV [(aF (a9 5) (kI 3))]) (cc (a9 0) (aL (aj (a9 7) (kI 1) aT)) (aL (a9 16))) aT),(aj (aj (cc (a9 0) ba (aL (a9 7))) (aV [(aF (a9 5) (kI 2))]) aT) (cc (a9 0) (aL (a9 16)) ba) aT)])) 16
  (λx=>match x with| .int j=>iZ m (r::([]++B.take (j.toNat-(A.length+1))),A++l::B.drop (j.toNat-(A.length+1)))|x=>x) hi (az _ _) (λx hx=>by
   refine au (DG.mp hx) λj hj zq2=>?_;subst zq2;have hj:=D3.mp hj
   let ρ':d0:=(bG o6 (ρB m A B l r M C ja t pr w y st tx ha td te ke)).set 16 (some (.d (.int ((A.length+1+j:Nat):Int))))
   have eG:dR A B l r=(A++[.bin false l r])++B:=by simp [dR]
   have s1:cc (a9 0) (aL (aj (a9 7) (kI 1) aT)) (aL (a9 16)) ρ' μ=some (.d (.list (bi m (B.take j))),μ):=by
    have:=Jm (m:=m) (ρ:=ρ') (f:=aj (a9 7) (kI 1) aT) (g:=a9 16) (G:=dR A B l r) (a:=A.length+1) (b:=A.length+1+j) (μ:=μ) rfl (cR (x:=A.length) (y:=1) rfl rfl) rfl (by lia) (by lia) (by lia)
    refine rA this ?_;have e:T1 (A.length+1) (dR A B l r)=B:=by refine rA Nx ?_;simp
    refine rA e ?_;exact rA (KO _ _) rfl
   have s2:cc (a9 0) ba (aL (a9 7)) ρ' μ=some (.d (.list (bi m A)),μ):=by
    have:=Kj (m:=m) (ρ:=ρ') (f:=a9 7) (G:=dR A B l r) (k:=A.length) (μ:=μ) rfl rfl (by lia) (by lia)
    refine rA this ?_;exact rA P5 rfl
   have s3:cc (a9 0) (aL (a9 16)) ba ρ' μ=some (.d (.list (bi m (B.drop j))),μ):=by
    have:=Hw (m:=m) (ρ:=ρ') (f:=a9 16) (G:=dR A B l r) (k:=A.length+1+j) (μ:=μ) rfl rfl (by lia) (by lia)
    refine rA this ?_;have e:T1 (A.length+1+j) (dR A B l r)=B.drop j:=by
     refine rA eG ?_;refine rA Nx ?_;refine rA (Ms (by simp)) ?_;simp
    exact rA e rfl
   have p2:aV [aF (a9 5) (kI 2)] ρ' μ=some (.d (.list (bi m [l])),μ):=Ng (Qu rfl);have p3:aV [aF (a9 5) (kI 3)] ρ' μ=some (.d (.list (bi m [r])),μ):=Ng (Sc rfl);have a1:=E1 p3 s1 (by simp;lia);have a2:=E1 (E1 s2 p2 (by simp;lia)) s3 (by simp;lia);refine (d7 (ds:=[.list (bi m ([r]++B.take j)),.list (bi m (A++[l]++B.drop j))]) (an a1 (an a2 bW)) (aa (xF rfl))).trans ?_;simp only [Fa,KO]
   simp [iZ]) (by simp;exact aa (by lia))
 refine hcm.trans (congrArg (λL=>some (L,μ)) ?_);rw [j8];refine rA ER ?_;refine rA ER ?_;refine rA hG ?_;refine rA (show A.length+B.length+1+1-(A.length+1)=B.length+1 by lia) ?_;apply FH;intro j _;simp only [Function.comp,Fa,KO]
end
noncomputable abbrev Wy:=List Fm×List Fm
noncomputable def qY(w:Wy):PyData:=.list (nL (bJ w.1))
noncomputable def jK(m:List Nat)(cs:List Int)(w:Wy):PyData:=.str (tS (uT m cs (bJ w.1)))
noncomputable def le(m:List Nat)(cs:List Int)(w:Wy):PyData:=if bk m (bJ w.1) then jK m cs w else .str "('', '')"
theorem nC:∀l:List Int,qT (iL l)=some l
 | []=>rfl
 |x::l=>by
  exact (bV (rfl:dI (.int x)=some x)).trans (bV (nC l))
theorem we{Z:Type}(f g:Z→PyData):∀W:List Z,mJ (W.map f) (W.map g)=W.map λw=>.tuple [f w,g w]
 | []=>rfl
 |w::W=>congrArg (_:: ·) (we f g W)
theorem wt{Z:Type}(f g h:Z→PyData)(x:List PyData):∀W:List Z,xo (W.map f) (W.map g) (W.map h++x)=W.map λw=>.tuple [f w,g w,h w]
 | []=>rfl
 |w::W=>congrArg (_:: ·) (wt f g h x W)
noncomputable def XM:PyData→List PyData
 | .tuple (_::.list l::_)=>l
 |_=>[]
theorem AW(m:List Nat)(F:Fm):XM (F.enc m)=nL F.pl:=by cases F<;>rfl
theorem uh(m:List Nat):∀G:List Fm,((bi m G).flatMap λx=>if true then (XM x).map (λy=>y) else [])=nL (bJ G)
 | []=>rfl
 |F::G=>by
  have ih:=uh m G;simp only [bi,ET,Fb,if_true,TJ] at ih⊢
  refine rA ih ?_;refine rA (AW _ _) ?_;refine rA (b6 _ _) ?_
  simp [nL]
theorem pt(h:da μ (.c n)=some xs):cu (Fh (.c n)) xs μ:= λj e=>by
 refine cA e ?_;exact h
section
variable {R:PyData} {t o pr k y st:Option AV} {W:List Wy}
theorem zP(hn:da μ (.c n)=some (W.map (iZ m)))(hW:W.length≤100)(hw:∀w∈W,(bJ w.1).length≤6):
  fg om (aK false (a9 8)) (du 16) (cU bg (aY (cb nz (aK false (aF (a9 16) (kI 0))) (du 17) (cU bg (gf (aK false (aF (a9 17) (kI 1))) (du 18) (cU bg (aY (a9 18)))))))) (mQ R (.list (nL m)) (.list (iL cs)) ja t o pr k (some (.c n)) y st tx ha td te ke) μ=some (W.map qY,μ):=by
 have hcm:=iw (sc:=om) (itf:=aK false (a9 8)) (e:=(cb nz (aK false (aF (a9 16) (kI 0))) (du 17) (cU bg (gf (aK false (aF (a9 17) (kI 1))) (du 18) (cU bg (aY (a9 18))))))) (ρ:=mQ R (.list (nL m)) (.list (iL cs)) ja t o pr k (some (.c n)) y st tx ha td te ke) (μ:=μ) (xs:=W.map (iZ m)) (g:=Fh (.c n)) 16
  (λx=>match x with| .tuple [.list E,_]=>.list (E.flatMap λx=>if true then (XM x).map (λy=>y) else [])|x=>x) (d6 (V:=.c n) rfl hn) (pt hn) (λx hx=>by
   refine au (DG.mp hx) λw hwm zq2=>?_;subst zq2;have hl:=hw w hwm;have hg:=fx w.1;have hi:aK false (aF (a9 16) (kI 0)) ((bG om (mQ R (.list (nL m)) (.list (iL cs)) ja t o pr k (some (.c n)) y st tx ha td te ke)).set 16 (some (.d (iZ m w)))) μ=some (bi m w.1,none,μ):=
    d6 (V:=.d (.list (bi m w.1))) (cH (f:=a9 16) (g:=kI 0) (V:=.d (iZ m w)) (xs:=[.list (bi m w.1),.list (bi m w.2)]) (k:=0) rfl rfl rfl (by decide) rfl (aa (xF rfl))) rfl
   have hin:=p9 (sc:=nz) (itf:=aK false (aF (a9 16) (kI 0))) (itf2:=aK false (aF (a9 17) (kI 1))) (t:=bg) (e:=a9 18) 17 18 (by decide) (λzz=>true) XM (λzz y=>y) hi (az _ _) (λzz zz zz=>rfl) (λx hx zz w'=>by
    refine au (DG.mp hx) λF hF zq2=>?_;subst zq2;have e:XM (F.enc m)=nL F.pl:=AW m F;refine rA e ?_;exact d6 (V:=.d (.list (nL F.pl))) (qA (m:=m) (F:=F) rfl) rfl) (λzz zz zz zz zz=>rfl) (by refine rA (uh _ _) ?_;rw [nL];refine rA (xG _) ?_;exact aa (by lia))
   exact bY hin) (by refine rA (xG _) ?_;exact aa (by lia))
 refine hcm.trans (congrArg (λL=>some (L,μ)) ?_);refine rA ER ?_;apply FH;intro w _;refine (?_:NZ _=NZ _);exact rA (uh _ _) rfl
theorem H3(hm:m.length=6)(hc:cs.length=6)(hW:W.length≤100)(hw:∀w∈W,(bJ w.1).length≤6∧∀p∈bJ w.1,p<6):
  fg r8 (aK false (a9 10)) (du 16) (cU bg (aY (dv (kS "") [(af [(a9 16),(a9 1),(a9 2),(kB false)] bB)] fc))) (mQ R (.list (nL m)) (.list (iL cs)) ja t o pr k (some (.c n)) y (some (.d (.list (W.map qY)))) tx ha td te ke) μ=some (W.map (jK m cs),μ):=by
 have hcm:=iw (sc:=r8) (itf:=aK false (a9 10)) (e:=(dv (kS "") [(af [(a9 16),(a9 1),(a9 2),(kB false)] bB)] fc)) (ρ:=mQ R (.list (nL m)) (.list (iL cs)) ja t o pr k (some (.c n)) y (some (.d (.list (W.map qY)))) tx ha td te ke) (μ:=μ) (xs:=W.map qY) (g:=none) 16
  (λx=>match x with| .list l=>.str (tS (uT m cs (l.map λ| .int i=>i.toNat|_=>0)))|x=>x) (d6 (V:=.d (.list (W.map qY))) rfl rfl) (az _ _) (λx hx=>by
   refine au (DG.mp hx) λw hwm zq2=>?_;subst zq2;refine fY (hw w hwm) λh1 h2=>?_;have e:(nL (bJ w.1)).map (λ|EU i=>i.toNat|_=>0)=bJ w.1:=by
    simp [nL,ER,MW]
   refine (?_:_=some (AV.d (.str (tS (uT m cs ((nL (bJ w.1)).map _)))),μ));refine rA e ?_;exact uH (pl:=bJ w.1) hm hc h2 (by lia) rfl rfl rfl) (by refine rA (xG _) ?_;exact aa (by lia))
 refine hcm.trans (congrArg (λL=>some (L,μ)) ?_);refine rA ER ?_;apply FH;intro w _;refine (?_:Lg (tS (uT m cs ((nL (bJ w.1)).map _)))=_);have e:(nL (bJ w.1)).map (λ|EU i=>i.toNat|_=>0)=bJ w.1:=by
  simp [nL,ER,MW]
 refine rA e ?_;rfl
end
theorem DR{R:PyData}{t o pr k y:Option AV}{W:List Wy}(hi:i<5)(hW:W.length≤100)(hw:∀w∈W,(bJ w.1).Sublist (yw 6)):
  fg mW (b_ [(a9 11),(a9 10)] lk) (jc 16 17) (cU bg (aY (dx (bC (af [(cb lA (aK false (a9 17)) (du 18) (cU bg (aY (aF (a9 1) (a9 18)))))] l5) (a9 17) dH) (a9 16) (kS "('', '')"))))
   (mQ R (.list (nL (aH.getD i []))) (.list (iL cs)) ja t o pr k (some (.c n)) y (some (.d (.list (W.map qY)))) (some (.d (.list (W.map (jK (aH.getD i []) cs))))) ha td te ke) μ=some (W.map (le (aH.getD i []) cs),μ):=by
 have hm:=ma hi;have hsc:= λ(s:List Nat) (hs:s.Sublist (yw 6))=>wv hi hs;generalize aH.getD i []=m at*
 let ρ0:=mQ R (.list (nL m)) (.list (iL cs)) ja t o pr k (some (.c n)) y (some (.d (.list (W.map qY)))) (some (.d (.list (W.map (jK m cs))))) ha td te ke
 have hit:b_ [(a9 11),(a9 10)] lk ρ0 μ=some (W.map (λw=>J1 [jK m cs w,qY w]),none,μ):=by
  refine rB (we _ _ _) ?_;rfl
 have hcm:=sP (sc:=mW) (e:=(dx (bC (af [(cb lA (aK false (a9 17)) (du 18) (cU bg (aY (aF (a9 1) (a9 18)))))] l5) (a9 17) dH) (a9 16) (kS "('', '')"))) (ρ:=ρ0) (μ:=μ) 16 17 (by decide)
  (λx=>match x with| .tuple [T,.list l]=>if bk m (l.map λ| .int i=>i.toNat|_=>0) then T else .str "('', '')"|x=>x) hit (az _ _) (λx hx=>by
   refine au (DG.mp hx) λw hwm zq2=>?_;subst zq2;refine (fS (jK m cs w) (qY w) rfl ?_);have hs:=hw w hwm;have hl:=ip hs;have e:(nL (bJ w.1)).map (λ|EU i=>i.toNat|_=>0)=bJ w.1:=by
    simp [nL,ER,MW]
   refine (?_:_=some (AV.d (if bk m ((nL (bJ w.1)).map _) then jK m cs w else .str "('', '')"),μ));refine rA e ?_
   let ρ1:d0:=((bG mW ρ0).set 16 (some (.d (jK m cs w)))).set 17 (some (.d (qY w)))
   have hin:=iw (sc:=lA) (itf:=aK false (a9 17)) (e:=aF (a9 1) (a9 18)) (ρ:=ρ1) (μ:=μ) (xs:=nL (bJ w.1)) (g:=none) 18 (λx=>match x with| .int i=>.int (m.getD i.toNat 0:Nat)|x=>x) (d6 (V:=.d (.list (nL (bJ w.1)))) rfl rfl) (az _ _) (λx hx=>by
    refine au (DG.mp hx) λp hp zq2=>?_;subst zq2
    have:=oW hs p hp
    exact zB (V:=.d (.list (nL m))) (k:=p) rfl rfl rfl (by lia) (by lia)) (by rw [nL];refine rA (xG _) ?_;exact aa (by lia))
   have e2:(nL (bJ w.1)).map (λx=>match x with| .int i=>EU (m.getD i.toNat 0:Nat)|x=>x)=iL ((bJ w.1).map λp=>(m.getD p 0:Int)):=by
    simp only [nL,iL,ER];rfl
   rw [e2] at hin
   have hso:af [(cb lA (aK false (a9 17)) (du 18) (cU bg (aY (aF (a9 1) (a9 18)))))] l5 ρ1 μ=some (.d (.list (iL (iI ((bJ w.1).map λp=>(m.getD p 0:Int))))),μ):=by
    refine d4 (bY hin) ?_;exact (bV (rfl:l1 [_]=some _)).trans ((bV (rfl:da μ (.d (.list _))=some _)).trans ((bV (nC _)).trans (if_pos (by simp;lia))))
   have e3:a9 17 ρ1 μ=some (.d (.list (iL ((bJ w.1).map λ(p:Nat)=>(p:Int)))),μ):=by
    refine (?_:some (AV.d (.list (nL (bJ w.1))),μ)=_);simp only [nL,iL,ER];rfl
   have hcmp:=dF hso e3 (B7 _ _ μ);rw [hsc _ hs] at hcmp
   refine ln hcmp (λh=>?_) (λh=>?_)
   ·refine rA (if_pos h) ?_;rfl
   ·refine rA (if_neg (by rw [h];exact HA)) ?_;rfl) (by refine rA (xG _) ?_;exact aa (by lia))
 refine hcm.trans (congrArg (λL=>some (L,μ)) ?_);refine rA ER ?_;apply FH;intro w _;have e:(nL (bJ w.1)).map (λ|EU i=>i.toNat|_=>0)=bJ w.1:=by
  simp [nL,ER,MW]
 refine (?_:(if bk m ((nL (bJ w.1)).map _) then jK m cs w else .str "('', '')")=_);refine rA e ?_;rfl
theorem oV{b c:Bool}(hf:f ρ μ=some (.d (.bool b),μ1))(hg:b=true→g ρ μ1=some (.d (.bool c),μ2)):rW f g ρ μ=if b then some (.d (.bool c),μ2) else some (.d (.bool false),μ1):=by
 refine (b5 hf).trans ((bV (rfl:ka (.d (.bool b)) μ1=some b)).trans ?_);cases b with
 |true=>exact hg rfl
 |false=>rfl
def oC(i:Nat)(cs:List Int)(ja:Nat)(s:a_)(rc:List Fm→Bool)(st0:Nat):Prop:=
 ∀ (G:List Fm) (μ:List ah) (X:List PyData),μ[ja]? =some (.live X)→(bJ G).Sublist (yw 6)→bk (aH.getD i []) (bJ G)=true→jj G<st0→X.length+40*jj G+12≤5000→
  ∃Y,(∀x∈Y,Good x)∧Y.length≤40*jj G+12∧s [.d (.list (bi (aH.getD i []) G)),.d (.list (nL (aH.getD i []))),.d (.list (iL cs)),.c ja] μ=some (.d (.bool (rc G)),μ.set ja (.live (X++Y)))
abbrev bz(s:a_):SF:=(ap (jC (bC (a9 15) (a9 14) dH) (ap (e_ (rW (af [(aF (a9 9) (kI 0)),(a9 1),(a9 2),(a9 3)] s) (af [(aF (a9 9) (kI 1)),(a9 1),(a9 2),(a9 3)] s))) aP) aP) aP)
noncomputable def Cc(m:List Nat)(cs:List Int)(w:Wy):PyData:=.tuple [iZ m w,jK m cs w,le m cs w]
theorem V5{w:Wy}(h15:a9 15 ρ μ=some (.d (le m cs w),μ))(h14:a9 14 ρ μ=some (.d (jK m cs w),μ)):bC (a9 15) (a9 14) dH ρ μ=some (bk m (bJ w.1),μ):=by
 cases q:bk m (bJ w.1) with
 |true=>
  have e:le m cs w=jK m cs w:=by unfold le;exact rA (if_pos q) rfl
  rw [e] at h15
  refine dF h15 h14 ?_;refine (?_:some (tS (uT m cs (bJ w.1))==tS (uT m cs (bJ w.1)))=_);exact rA (beq_self_eq_true _) rfl
 |false=>
  have e:le m cs w=.str "('', '')":=by unfold le;exact rA (if_neg (by rw [q];exact HA)) rfl
  rw [e] at h15
  refine dF h15 h14 ?_;refine (?_:some (("('', '')":Str)==tS (uT m cs (bJ w.1)))=_)
  have:tS (uT m cs (bJ w.1))≠("('', '')":Str):=MM (gk m cs false (bJ w.1)).2
  exact rA (beq_eq_false_iff_ne.mpr (λh=>this h.symm)) rfl
theorem FM(h:μ[j]? =some c):(μ.set j c')[j]? =some c':=by
 rw [Mt (BJ.mp h).1]
theorem Q9{R:PyData}{n st0:Nat}{s:a_}{t o pr k st tx ha td w8:Option AV}(xs:List PyData)(hrec:oC i cs ja s rc st0)(hj:μ[ja]? =some (.live X))(hX:X.length+40*st0≤5000):
  ∀ (r:List Wy) (y te ke:Option AV),(∀w∈r,(bJ w.1).Sublist (yw 6)∧(bJ w.2).Sublist (yw 6)∧(bk (aH.getD i []) (bJ w.1)=true→bk (aH.getD i []) (bJ w.2)=true)∧jj w.1+jj w.2+1=st0)→
  ∃y' te' ke' Y μ',(∀x∈Y,Good x)∧(Y.length≤40*st0∧(r.find? (λw=>bk (aH.getD i []) (bJ w.1))=none→Y=[]))∧μ'=μ.set ja (.live (X++Y))∧
   fN (XS 9 14 15) (bz s) aP none xs (r.map (Cc (aH.getD i []) cs)) (mQ R (.list (nL (aH.getD i []))) (.list (iL cs)) ja t o pr k w8 y st tx ha td te ke) μ=
    some ((match r.find? (λw=>bk (aH.getD i []) (bJ w.1)) with|some w=>.ret (.d (.bool (rc w.1&&rc w.2)))|none=>.next),mQ R (.list (nL (aH.getD i []))) (.list (iL cs)) ja t o pr k w8 y' st tx ha td te' ke',μ')
 | [],y,te,ke,_=>(iz y te ke ([]) μ (by simp) ⟨by simp,λzz=>rfl⟩ (by refine rA (DB _) ?_;exact rA (eD hj) rfl) rfl)
 |w::r,y,te,ke,h=>by
  refine mh (h w (by simp)) λh1 h2 h3 h4=>?_
  let m:=aH.getD i []
  let ρ1:=mQ R (.list (nL m)) (.list (iL cs)) ja t o pr k w8 (some (.d (iZ m w))) st tx ha td (some (.d (jK m cs w))) (some (.d (le m cs w)))
  have tf:XS 9 14 15 (mQ R (.list (nL m)) (.list (iL cs)) ja t o pr k w8 y st tx ha td te ke) (Cc m cs w)=some ρ1:=rfl;have ht:bC (a9 15) (a9 14) dH ρ1 μ=some (bk m (bJ w.1),μ):=V5 rfl rfl;cases q:bk m (bJ w.1) with
  |true=>
   refine cn (hrec w.1 μ X hj h1 q (by lia) (by lia)) λY1 g1 l1 e1=>?_;refine cn (hrec w.2 (μ.set ja (.live (X++Y1))) (X++Y1) (FM hj) h2 (h3 q) (by lia) (by refine rA be ?_;lia)) λY2 g2 l2 e2=>?_;have a1:∀μ,aF (a9 9) (kI 0) ρ1 μ=some (.d (.list (bi m w.1)),μ):= λμ=>cH (V:=.d (iZ m w)) (xs:=[.list (bi m w.1),.list (bi m w.2)]) (k:=0) rfl rfl rfl (by decide) rfl (aa (xF rfl));have a2:∀μ,aF (a9 9) (kI 1) ρ1 μ=some (.d (.list (bi m w.2)),μ):= λμ=>cH (V:=.d (iZ m w)) (xs:=[.list (bi m w.1),.list (bi m w.2)]) (k:=1) rfl rfl rfl (by decide) rfl (aa (xF rfl));have c1:af [(aF (a9 9) (kI 0)),(a9 1),(a9 2),(a9 3)] s ρ1 μ=_:=sZ (a1 μ) rfl rfl rfl e1;have c2:af [(aF (a9 9) (kI 1)),(a9 1),(a9 2),(a9 3)] s ρ1 (μ.set ja (.live (X++Y1)))=_:=sZ (a2 _) rfl rfl rfl e2;have ca:=oV c1 (λzz=>c2);have hfind:(w::r).find? (λw=>bk m (bJ w.1))=some w:=by rw [M9];exact rA q rfl
   refine rA hfind ?_;cases hb:rc w.1 with
   |true=>
    rw [hb] at ca
    simp only [if_true,I9,E9] at ca
    refine (iz (some (.d (iZ m w))) (some (.d (jK m cs w))) (some (.d (le m cs w))) (Y1++Y2) _ ?_ ⟨by refine rA be ?_;lia,λh=>nomatch h⟩ rfl ?_)
    ·intro x hx
     exact (AA.mp hx).elim (g1 x) (g2 x)
    ·refine rA ET ?_
     refine pv tf ?_;refine cT ?_;refine (gB ht q).trans ?_;exact cT (dZ (ca.trans (by refine rA hb ?_;exact rA (T3 _) rfl)))
   |false=>
    rw [hb] at ca
    refine (iz (some (.d (iZ m w))) (some (.d (jK m cs w))) (some (.d (le m cs w))) Y1 _ g1 ⟨by lia,λh=>nomatch h⟩ rfl ?_);refine rA ET ?_;refine pv tf ?_;refine cT ?_;refine (gB ht q).trans ?_;exact cT (dZ (ca.trans (by refine rA hb ?_;refine rA (Bool.false_and _) ?_;rfl)))
  |false=>
   refine fp (Q9 (R:=R) (t:=t) (o:=o) (pr:=pr) (k:=k) (st:=st) (tx:=tx) (ha:=ha) (td:=td) (w8:=w8) (n:=n) xs hrec hj hX r (some (.d (iZ m w))) (some (.d (jK m cs w))) (some (.d (le m cs w))) (λv hv=>h v (by simp [hv]))) λy' te' ke' Y μ' g gl gm e=>?_;have hfind:(w::r).find? (λw=>bk m (bJ w.1))=r.find? (λw=>bk m (bJ w.1)):=by rw [M9];exact rA q rfl
   refine rA hfind ?_;refine (iz y' te' ke' Y μ' g gl gm ?_);refine rA ET ?_;refine Lz (dK tf ?_ (az _ _)) e;refine (aB ?_).trans bK;exact (gP ht q).trans bK
abbrev Sm:SF:=(f_ 8 nU (aK false (af [(aj (a9 7) (kI 1) aT)] cF)) (du 16) (cU bg (aY (cX [(aj (cc (a9 0) (aL (a9 16)) (aL (a9 7))) (aV [(aF (a9 5) (kI 2))]) aT),(aj (aj (cc (a9 0) ba (aL (a9 16))) (aV [(aF (a9 5) (kI 3))]) aT) (cc (a9 0) (aL (aj (a9 7) (kI 1) aT)) ba) aT)]))) true)
abbrev QU:SF:=(ci (rK (a9 8) (cb o6 (aK false (af [(aj (a9 7) (kI 1) aT),(aj (af [(a9 0)] dz) (kI 1) aT)] cF)) (du 16) (cU bg (aY (cX [(aj (aV [(aF (a9 5) (kI 3))]) (cc (a9 0) (aL (aj (a9 7) (kI 1) aT)) (aL (a9 16))) aT),(aj (aj (cc (a9 0) ba (aL (a9 7))) (aV [(aF (a9 5) (kI 2))]) aT) (cc (a9 0) (aL (a9 16)) ba) aT)]))))))
abbrev Qh:SF:=(f_ 10 om (aK false (a9 8)) (du 16) (cU bg (aY (cb nz (aK false (aF (a9 16) (kI 0))) (du 17) (cU bg (gf (aK false (aF (a9 17) (kI 1))) (du 18) (cU bg (aY (a9 18)))))))) false)
abbrev QO:SF:=(f_ 11 r8 (aK false (a9 10)) (du 16) (cU bg (aY (dv (kS "") [(af [(a9 16),(a9 1),(a9 2),(kB false)] bB)] fc))) false)
abbrev PT:SF:=(c6 12 (af [(a9 11)] mo))
abbrev Ra:SF:=(c6 13 (af [(a9 12)] aX))
abbrev QT:SF:=(ci (rK (a9 3) (aV [(cX [(af [(a9 13)] mo),(cb mW (b_ [(a9 11),(a9 10)] lk) (jc 16 17) (cU bg (aY (dx (bC (af [(cb lA (aK false (a9 17)) (du 18) (cU bg (aY (aF (a9 1) (a9 18)))))] l5) (a9 17) dH) (a9 16) (kS "('', '')")))))]),(cX [(a9 12),(a9 11)])])))
abbrev Sh:SF:=(ci (d_ (a9 13) (kS "")))
abbrev Rx(s:a_):SF:=(jI (b_ [(a9 8),(a9 11),(a9 13)] AH) (XS 9 14 15) (ap (jC (bC (a9 15) (a9 14) dH) (ap (e_ (rW (af [(aF (a9 9) (kI 0)),(a9 1),(a9 2),(a9 3)] s) (af [(aF (a9 9) (kI 1)),(a9 1),(a9 2),(a9 3)] s))) aP) aP) aP) aP)
abbrev k70(s:a_):SF:=ap Sm (ap QU (ap Qh (ap QO (ap PT (ap Ra (ap QT (ap Sh (ap (Rx s) aP))))))))
abbrev zh(s:a_):SF:=(ap (jC (bC (aF (a9 5) (kI 0)) (jF kc (kS "*")) dH) (k70 s) aP) aP)
theorem FG(s:a_):C7 s=jI (b_ [(a9 0)] g9) (jc 7 5) (zh s) aP:=rfl
theorem OY{w:Wy}:pg n (le m cs w):=by
 unfold le
 split
 ·exact im (zX m cs false (bJ w.1))
 ·exact Bo (by decide+kernel)
theorem Np{w:Wy}:pg n (jK m cs w):=im (zX m cs false (bJ w.1))
theorem Cw{Z:Type}{f:Z→PyData}{W:List Z}(h:∀w,pg n (f w)):pg (n+1) (.list (W.map f)):=gC λx hx=>by
 refine au (DG.mp hx) λw zz zq2=>?_;subst zq2;exact h w
theorem XT{a b:ah}:(μ++[a,b])[μ.length]? =some a:=by simp
theorem IT{a b:ah}:(μ++[a,b])[μ.length+1]? =some b:=by simp
theorem U3{a b:ah}:(μ++[a,b]).set μ.length c=μ++[c,b]:=by simp
theorem Kn{a b:ah}:(μ++[a,b]).set (μ.length+1) c=μ++[a,c]:=by
 refine rA (List.set_append_right _ _ (by lia)) ?_;simp
theorem tZ{δ:List ah}(h:μ[j]? =some c):(μ++δ)[j]? =some c:=by
 rw [EY (BJ.mp h).1];exact h
theorem uR{δ:List ah}(h:μ[j]? =some c):(μ++δ).set j c'=μ.set j c'++δ:=by
 rw [Sb _ _ (BJ.mp h).1]
noncomputable abbrev kr(A B:List Fm)(l r:Fm):List Wy:=gQ l r B A []++iU l r A B []
theorem It(A B:List Fm)(l r:Fm):(kr A B l r).length=A.length+B.length+2:=by
 simp only [kr,be,jd,j8,xG,IN];lia
theorem Uw{A:List Fm}{s:a_}{t pr w y st:Option AV}(hi:i<5)(hc:cs.length=6)
  (hs:(bJ (dR A B l r)).Sublist (yw 6)) (hcl:bk (aH.getD i []) (bJ (dR A B l r))=true) (hrec:oC i cs ja s rc (jj (dR A B l r))) (hj:μ[ja]? =some (.live X)) (hX:X.length+2+40*jj (dR A B l r)≤5000):
  ∃w' y' st' tx' ha' td' te' ke' Y δ,(∀x∈Y,Good x)∧(Y.length≤2+40*jj (dR A B l r)∧((kr A B l r).find? (λw=>bk (aH.getD i []) (bJ w.1))=none→Y.length≤2))∧
   k70 s (ρB (aH.getD i []) A B l r (.list (nL (aH.getD i []))) (.list (iL cs)) ja t pr w y st tx ha td te ke) μ=
    some ((match (kr A B l r).find? (λw=>bk (aH.getD i []) (bJ w.1)) with|some w=>.ret (.d (.bool (rc w.1&&rc w.2)))|none=>.next),
     ρB (aH.getD i []) A B l r (.list (nL (aH.getD i []))) (.list (iL cs)) ja t pr w' y' st' tx' ha' td' te' ke',μ.set ja (.live (X++Y))++δ):=by
 have hm:=ma hi;have hlen:=ip hs;have hG:=fx (dR A B l r);have hGl:=q9 (A:=A) (B:=B) (l:=l) (r:=r);have hz:(dR A B l r).length≤6:=by lia
 have hw:∀w∈kr A B l r,(bJ w.1).Sublist (yw 6)∧(bJ w.2).Sublist (yw 6)∧(bk (aH.getD i []) (bJ w.1)=true→bk (aH.getD i []) (bJ w.2)=true)∧jj w.1+jj w.2+1=jj (dR A B l r):= λw hw=>by
  have hcut:=GF hw;exact (lm ((sn hcut).sublist.trans hs) ((FA hcut).trans hs) (yX hi hcut hs hcl) (SE hcut))
 have hbal:∀w∈kr A B l r,Ls (aH.getD i []) (bJ w.1)=bk (aH.getD i []) (bJ w.1):= λw hw=>yY hi hs hcl (sn (GF hw));have hwl:=It A B l r;generalize hWW:kr A B l r=W at*
 have hW100:W.length≤100:=by lia
 let m:=aH.getD i []
 let n:=μ.length
 let wD:=W.map (iZ m)
 let kD:=W.map (le m cs)
 let tD:=W.map (jK m cs)
 let sD:=W.map qY
 let μ2:=μ++[ah.live wD]
 let μ6:=μ++[ah.live wD,ah.live kD]
 have e0:Sm (ρB m A B l r (.list (nL m)) (.list (iL cs)) ja t pr w y st tx ha td te ke) μ=some (.next,ρB m A B l r (.list (nL m)) (.list (iL cs)) ja t pr (some (.c n)) y st tx ha td te ke,μ++[ah.live ((gQ l r B A []).map (iZ m))]):=Td (Je hz);have e1:QU (ρB m A B l r (.list (nL m)) (.list (iL cs)) ja t pr (some (.c n)) y st tx ha td te ke) (μ++[ah.live ((gQ l r B A []).map (iZ m))])=some (.next,ρB m A B l r (.list (nL m)) (.list (iL cs)) ja t pr (some (.c n)) y st tx ha td te ke,μ2):=by
  refine (eB (pc (j:=n) rfl (bY (Km hz)) dp (aa (by
   rw [jd,j8];simp;lia)))).trans ?_
  refine rA fh ?_;refine rB Jz ?_;refine (?_:some (Fl.next,_,μ++[ah.live ((kr A B l r).map (iZ m))])=_);exact rA hWW rfl
 have hp2:da μ2 (.c n)=some wD:=eP dp;have e2:Qh (ρB m A B l r (.list (nL m)) (.list (iL cs)) ja t pr (some (.c n)) y st tx ha td te ke) μ2=some (.next,ρB m A B l r (.list (nL m)) (.list (iL cs)) ja t pr (some (.c n)) y (some (.d (.list sD))) tx ha td te ke,μ2):=jv (zP hp2 hW100 λw h=>ip (hw w h).1);have e3:QO (ρB m A B l r (.list (nL m)) (.list (iL cs)) ja t pr (some (.c n)) y (some (.d (.list sD))) tx ha td te ke) μ2=some (.next,ρB m A B l r (.list (nL m)) (.list (iL cs)) ja t pr (some (.c n)) y (some (.d (.list sD))) (some (.d (.list tD))) ha td te ke,μ2):=jv (H3 hm hc hW100 λw h=>⟨ip (hw w h).1,oW (hw w h).1⟩);have e4:PT (ρB m A B l r (.list (nL m)) (.list (iL cs)) ja t pr (some (.c n)) y (some (.d (.list sD))) (some (.d (.list tD))) ha td te ke) μ2=some (.next,ρB m A B l r (.list (nL m)) (.list (iL cs)) ja t pr (some (.c n)) y (some (.d (.list sD))) (some (.d (.list tD))) (some (.d (.list tD))) td te ke,μ2):=by
  refine bO (d4 (V:=.d (.list tD)) rfl ?_);exact BC rfl (by simp only [tD,xG];exact aa (by lia))
 have hvs:(W.map λw=>units m cs false (bJ w.1)).map (λvs=>Lg (tS vs.flatten))=tD:=by refine rA ER ?_;rfl
 have hkp:(W.map λw=>units m cs false (bJ w.1)).map k6=kD:=by
  refine rA ER ?_;apply FH;intro w hwm;refine (?_:k6 (units m cs false (bJ w.1))=le m cs w);unfold k6 le;refine rA (BD _ _ _) ?_;refine rA (hbal w hwm) ?_;rfl
 have e5:Ra (ρB m A B l r (.list (nL m)) (.list (iL cs)) ja t pr (some (.c n)) y (some (.d (.list sD))) (some (.d (.list tD))) (some (.d (.list tD))) td te ke) μ2=some (.next,ρB m A B l r (.list (nL m)) (.list (iL cs)) ja t pr (some (.c n)) y (some (.d (.list sD))) (some (.d (.list tD))) (some (.d (.list tD))) (some (.c (n+1))) te ke,μ6):=by
  have h4:=s4 (vss:=W.map λw=>units m cs false (bJ w.1)) (μ:=μ2) (λvs hv=>by
   refine eC λGG kG=>?_;refine au (DG.mp hv) λw hwm zq2=>?_;subst zq2;refine kG ?_;have h6:=ip (hw w hwm).1
   have:=(gk m cs false (bJ w.1)).1
   have:=hZ m cs false (bJ w.1)
   exact (fu (mn m cs false (bJ w.1)) (by lia) (by lia))) (by refine rA (xG _) ?_;lia)
  rw [hvs,hkp] at h4
  have hl2:μ2.length=n+1:=by simp [μ2,n]
  rw [hl2] at h4
  refine (bO (d4 (V:=.d (.list tD)) rfl h4)).trans ?_;simp only [μ2,μ6,E9];rfl
 let ρ6:=ρB m A B l r (.list (nL m)) (.list (iL cs)) ja t pr (some (.c n)) y (some (.d (.list sD))) (some (.d (.list tD))) (some (.d (.list tD))) (some (.c (n+1))) te ke
 let t1:PyData:=.tuple [.list kD,.list kD]
 let t2:PyData:=.tuple [.list tD,.list tD]
 have e6:QT ρ6 μ6=some (.next,ρ6,μ.set ja (.live (X++[t1,t2]))++[ah.live wD,ah.live kD]):=by
  have hl1:af [a9 13] mo ρ6 μ6=some (.d (.list kD),μ6):=by
   refine d4 (V:=.c (n+1)) rfl ?_;exact BC (eP IT) (by simp only [kD,xG];exact aa (by lia))
  have hx:=bY (DR (i:=i) (cs:=cs) (R:=.list (bi m (dR A B l r))) (ja:=ja) (n:=n) (t:=t) (o:=some (.d ((Fm.bin false l r).enc m))) (pr:=pr) (k:=some (.d (.int A.length))) (y:=y) (ha:=some (.d (.list tD))) (td:=some (.c (n+1))) (te:=te) (ke:=ke) (μ:=μ6) (W:=W) hi hW100 λw h=>(hw w h).1);have q1:=d7 (ds:=[.list kD,.list kD]) (an hl1 (an hx bW)) (aa (xF rfl));have q2:cX [a9 12,a9 11] ρ6 μ6=some (.d t2,μ6):=d7 (ds:=[.list tD,.list tD]) rfl (aa (xF rfl));have q3:=dG (ds:=[t1,t2]) (an q1 (an q2 bW)) (aa (xF rfl));refine (eB (pc (j:=ja) rfl q3 (tZ hj) (aa (by simp;lia)))).trans ?_;exact rA (uR hj) rfl
 have hsl:(μ.set ja (.live (X++[t1,t2]))).length=n:=by simp [n]
 generalize hν:μ.set ja (.live (X++[t1,t2]))=ν at e6 hsl
 have e7:Sh ρ6 (ν++[ah.live wD,ah.live kD])=some (.next,ρ6,ν++[ah.live wD,ah.live (kD++[.str ""])]):=by
  refine (eB (gt (j:=n+1) (d:=.str "") rfl rfl (by refine rB hsl ?_;exact IT) (by simp only [kD,xG];exact aa (by lia)))).trans ?_;refine rB hsl ?_;exact rA Kn rfl
 have hz3:b_ [(a9 8),(a9 11),(a9 13)] AH ρ6 (ν++[ah.live wD,ah.live (kD++[.str ""])])=some (W.map (Cc m cs),none,ν++[ah.frozen wD,ah.frozen (kD++[.str ""])]):=by
  have f1:w5 (.c n) (ν++[ah.live wD,ah.live (kD++[.str ""])])=some (.list wD,ν++[ah.frozen wD,ah.live (kD++[.str ""])]):=by
   refine rB hsl ?_;exact (qo XT).trans (by rw [U3])
  have f2:w5 (.c (n+1)) (ν++[ah.frozen wD,ah.live (kD++[.str ""])])=some (.list (kD++[.str ""]),ν++[ah.frozen wD,ah.frozen (kD++[.str ""])]):=by
   refine rB hsl ?_;exact (qo IT).trans (by rw [Kn])
  have ev:eX [(a9 8),(a9 11),(a9 13)] ρ6 (ν++[ah.live wD,ah.live (kD++[.str ""])])=some ([.c n,.d (.list tD),.c (n+1)],ν++[ah.live wD,ah.live (kD++[.str ""])]):=rfl;have fz:lJ [.c n,.d (.list tD),.c (n+1)] (ν++[ah.live wD,ah.live (kD++[.str ""])])=some ([.list wD,.list tD,.list (kD++[.str ""])],ν++[ah.frozen wD,ah.frozen (kD++[.str ""])]):=fE f1 (fE rfl (fE f2 rfl));refine (b5 ev).trans ((b5 fz).trans (?_:some (xo wD tD (kD++[.str ""]),none,_)=_));simp only [wD,tD,kD,wt];rfl
 have hjν:(ν++[ah.frozen wD,ah.frozen (kD++[.str ""])])[ja]? =some (.live (X++[t1,t2])):=tZ (by refine rB hν ?_;exact FM hj);refine eC λGG kG=>?_;obtain ⟨y',te',ke',Y,μ',g,gl,gm,e8⟩:=Q9 (i:=i) (cs:=cs) (R:=.list (bi m (dR A B l r))) (ja:=ja) (n:=n) (st0:=jj (dR A B l r)) (s:=s) (rc:=rc) (t:=t) (o:=some (.d ((Fm.bin false l r).enc m))) (pr:=pr) (k:=some (.d (.int A.length))) (st:=some (.d (.list sD))) (tx:=some (.d (.list tD))) (ha:=some (.d (.list tD))) (td:=some (.c (n+1))) (w8:=some (.c n))
  (μ:=ν++[ah.frozen wD,ah.frozen (kD++[.str ""])]) (X:=X++[t1,t2]) (W.map (Cc m cs)) hrec hjν (by simp;lia) W y te ke hw
 have e9:Rx s ρ6 (ν++[ah.live wD,ah.live (kD++[.str ""])])=_:=(gI hz3).trans e8;have hμ':μ'=μ.set ja (.live (X++([t1,t2]++Y)))++[ah.frozen wD,ah.frozen (kD++[.str ""])]:=by
  refine rA gm ?_;refine rA (uR (c:=.live (X++[t1,t2])) (by rw [←hν];exact FM hj)) ?_;refine rB hν ?_;refine rA (I9 _) ?_;exact rA (E9 _ _ _) rfl
 subst hμ';refine kG ?_;refine ⟨some (.c n),y',some (.d (.list sD)),some (.d (.list tD)),some (.d (.list tD)),some (.c (n+1)),te',ke',[t1,t2]++Y,[ah.frozen wD,ah.frozen (kD++[.str ""])],?_,⟨by simp;lia,λh=>by refine rA (gl.2 h) ?_;simp⟩,?_⟩
 ·intro x hx
  rcases AA.mp hx with q|q
  ·simp only [Ch,DM,or_false] at q
   rcases q with rfl|rfl
   ·exact dP (n:=1) (Cw λzz=>OY) (by decide)
   ·exact dP (n:=1) (Cw λzz=>Np) (by decide)
  ·exact g x q
 ·refine (aB e0).trans ((aB e1).trans ((aB e2).trans ((aB e3).trans ((aB e4).trans ((aB e5).trans ((aB e6).trans ((aB e7).trans ?_)))))))
  cases hf:W.find? (λw=>bk (aH.getD i []) (bJ w.1)) with
  |some w=>
   rw [hf] at e9
   exact cT e9
  |none=>
   rw [hf] at e9
   exact (aB e9).trans bK
theorem NN(m:List Nat)(rc:List Fm→Bool)(A B:List Fm)(l r:Fm):xJ m rc A (.bin false l r::B)=match (kr A B l r).find? (λw=>bk m (bJ w.1)) with
  |some w=>rc w.1&&rc w.2
  |none=>xJ m rc (A++[.bin false l r]) B:=by
 rfl
theorem Pe(m:List Nat)(rc:List Fm→Bool)(A B:List Fm)(F:Fm)(h:wI F=false):xJ m rc A (F::B)=xJ m rc (A++[F]) B:=by
 cases F with
 |«at» i=>rfl
 |bin p l r=>
  cases p with
  |true=>rfl
  |false=>cases h
set_option genSizeOfSpec false in
set_option genInjectivity false in
structure Ow where
 (o k w y st tx ha td te ke:Option AV)
noncomputable abbrev RV(m:List Nat)(cs:List Int)(ja:Nat)(t pr:Option AV)(G:List Fm)(x:Ow):d0:=mQ (.list (bi m G)) (.list (nL m)) (.list (iL cs)) ja t x.o pr x.k x.w x.y x.st x.tx x.ha x.td x.te x.ke
noncomputable abbrev xOK(x:Ow)(m:List Nat)(F:Fm)(k:Nat):Ow:=⟨some (.d (F.enc m)),some (.d (.int k)),x.w,x.y,x.st,x.tx,x.ha,x.td,x.te,x.ke⟩
def Go(m:List Nat)(cs:List Int)(ja:Nat)(s:a_)(rc:List Fm→Bool)(t pr:Option AV)(G:List Fm)(xs:List PyData)(B A:List Fm)(x:Ow)(μ:List ah)(X:List PyData):Prop:=
 ∃fl x' Y δ,(∀x∈Y,Good x)∧Y.length≤2*B.length+40*jj G∧(fl=.ret (.d (.bool (xJ m rc A B)))∨(fl=.next∧xJ m rc A B=false))∧fN (jc 7 5) (zh s) aP none xs (cL A.length (bi m B)) (RV m cs ja t pr G x) μ=some (fl,RV m cs ja t pr G x',μ.set ja (.live (X++Y))++δ)
theorem Go.mk{s:a_}{t pr:Option AV}{G:List Fm}{A:List Fm}{x:Ow}(fl:Fl)(x':Ow)(Y:List PyData)(δ:List ah)(h1:∀x∈Y,Good x)(h2:Y.length≤2*B.length+40*jj G)(h3:fl=.ret (.d (.bool (xJ m rc A B)))∨(fl=.next∧xJ m rc A B=false))
 (h4:fN (jc 7 5) (zh s) aP none xs (cL A.length (bi m B)) (RV m cs ja t pr G x) μ=some (fl,RV m cs ja t pr G x',μ.set ja (.live (X++Y))++δ)):Go m cs ja s rc t pr G xs B A x μ X:=(DD fl x' Y δ h1 h2 h3 h4)
theorem Ha(m:List Nat)(F:Fm)(A B:List Fm):cL A.length (bi m (F::B))=.tuple [.int A.length,F.enc m]::cL (A++[F]).length (bi m B):=by
 refine rA be ?_;rfl
section
variable {s:a_} {t pr:Option AV} {G:List Fm} {A:List Fm} {x:Ow}
theorem GM:bC (aF (a9 5) (kI 0)) (jF kc (kS "*")) dH (RV m cs ja t pr G (xOK x m F A.length)) μ=some (wI F,μ):=VC rfl
theorem aa9(q:wI F=false)(h:Go m cs ja s rc t pr G xs B (A++[F]) (xOK x m F A.length) μ X):Go m cs ja s rc t pr G xs (F::B) A x μ X:=by
 refine nh h λfl x' Y δ g1 g2 g3 g4=>?_;refine Go.mk fl x' Y δ g1 (KQ g2 (by simp only [AO];omega)) (by refine rA (Pe _ _ _ _ _ q) ?_;exact g3) ?_;refine rA (Ha _ _ _ _) ?_;exact Lz (dK rfl ((aB ((gP GM q).trans bK)).trans bK) (az _ _)) g4
theorem Tg(hi:i<5)(hc:cs.length=6)(hs:(bJ (dR A B l r)).Sublist (yw 6))(hcl:bk (aH.getD i []) (bJ (dR A B l r))=true)(hrec:oC i cs ja s rc (jj (dR A B l r)))(hj:μ[ja]? =some (.live X))(hX:X.length+2+40*jj (dR A B l r)≤5000)
  (h:∀x' Y δ,Y.length≤2→Go (aH.getD i []) cs ja s rc t pr (dR A B l r) xs B (A++[.bin false l r]) x' (μ.set ja (.live (X++Y))++δ) (X++Y)):Go (aH.getD i []) cs ja s rc t pr (dR A B l r) xs (.bin false l r::B) A x μ X:=by
 obtain ⟨w1,y1,st1,tx1,ha1,td1,te1,ke1,Y1,δ1,b1,b2,b3⟩:=Uw (t:=t) (pr:=pr) (w:=x.w) (y:=x.y) (st:=x.st) (tx:=x.tx) (ha:=x.ha) (td:=x.td) (te:=x.te) (ke:=x.ke) (μ:=μ) (X:=X) hi hc hs hcl hrec hj hX
 let x1:Ow:=⟨some (.d ((Fm.bin false l r).enc (aH.getD i []))),some (.d (.int A.length)),w1,y1,st1,tx1,ha1,td1,te1,ke1⟩
 generalize hx1:x1=z at*
 have b4:k70 s (RV (aH.getD i []) cs ja t pr (dR A B l r) (xOK x (aH.getD i []) (.bin false l r) A.length)) μ=some ((match (kr A B l r).find? (λw=>bk (aH.getD i []) (bJ w.1)) with|some w=>.ret (.d (.bool (rc w.1&&rc w.2)))|none=>.next),RV (aH.getD i []) cs ja t pr (dR A B l r) z,μ.set ja (.live (X++Y1))++δ1):=by
  refine rB hx1 ?_;exact b3
 clear b3 hx1;have hg:=NN (aH.getD i []) rc A B l r;cases hf:(kr A B l r).find? (λw=>bk (aH.getD i []) (bJ w.1)) with
 |some ww=>
  rw [hf] at b4 hg
  refine Go.mk _ z Y1 δ1 b1 (KQ b2.1 (by simp only [AO];omega)) (.inl (by exact rA hg rfl)) ?_;refine rA (Ha _ _ _ _) ?_;exact pv rfl (cT ((gB GM rfl).trans b4))
 |none=>
  rw [hf] at b4 hg
  refine nh (h z Y1 δ1 (b2.2 hf)) λfl x' Y δ g1 g2 g3 g4=>?_;refine Go.mk fl x' (Y1++Y) (δ1++δ) (λy hy=>(AA.mp hy).elim (b1 y) (g1 y)) (by have:=b2.2 hf;simp only [AO,be];omega) (by refine rA hg ?_;exact g3) ?_;refine rA (Ha _ _ _ _) ?_;refine Lz (dK rfl ((aB ((gB GM rfl).trans b4)).trans bK) (az _ _)) (g4.trans ?_);refine rA (uR (FM hj)) ?_;refine rA (I9 _) ?_;refine rA (E9 _ _ _) ?_;exact rA (E9 _ _ _) rfl
end
theorem SA{s:a_}{t pr:Option AV}{G:List Fm}(hi:i<5)(hc:cs.length=6)(hs:(bJ G).Sublist (yw 6))(hcl:bk (aH.getD i []) (bJ G)=true)(hrec:oC i cs ja s rc (jj G))(xs:List PyData):
  ∀ (B A:List Fm) (x:Ow) (μ:List ah) (X:List PyData),G=A++B→μ[ja]? =some (.live X)→X.length+2*B.length+40*jj G≤5000→Go (aH.getD i []) cs ja s rc t pr G xs B A x μ X
 | [],A,x,μ,X,hG,hj,hX=>Go.mk .next x [] [] (λzz h=>nomatch h) (Lw _) (.inr ⟨rfl,rfl⟩) (by
   refine rA (DB _) ?_;refine rA (DB _) ?_;refine rA (eD hj) ?_;rfl)
 |F::B,A,x,μ,X,hG,hj,hX=>by
  simp only [AO] at hX
  cases q:wI F with
  |false=>exact aa9 q (SA hi hc hs hcl hrec xs B (A++[F]) _ μ X (by refine rA hG ?_;simp) hj (by omega))
  |true=>
   cases F with
   |«at» p=>exact nomatch q
   |bin p l r=>
    cases p with
    |true=>exact nomatch q
    |false=>
     subst hG;have e:jj (dR A B l r)=jj (A++.bin false l r::B):=rfl;exact Tg hi hc hs hcl hrec hj (by omega) λx' Y δ hY=>SA hi hc hs hcl hrec xs B (A++[.bin false l r]) x' _ (X++Y) (by simp) (tZ (FM hj)) (by refine rA be ?_;omega)
theorem Vr{G:List Fm}(h:two G=true):∃p q,G=[.at p,.at q]:=by
 match G,h with
 | [.at p,.at q],_=>exact (jH p q rfl)
theorem oC.mono{s:a_}{a:Nat}(h:oC i cs ja s rc b)(hab:a≤b):oC i cs ja s rc a:=
 λG μ X h1 h2 h3 h4 h5=>h G μ X h1 h2 h3 (Ol h4 hab) h5
theorem s70{ja:Nat}(hi:i<5)(hc:cs.length=6):∀k,oC i cs ja (J5 k) (pr (aH.getD i []) k) k
 |0=> λG μ X zz zz zz h zz=>absurd h (Nat.not_lt_zero _)
 |k+1=>by
  intro G μ X hj hs hcl hst hX;have hz:=ip hs;refine bP (Gm (s:=J5 k) (m:=aH.getD i []) (G:=G) (M:=.list (nL (aH.getD i []))) (C:=.list (iL cs)) (j:=ja) (μ:=μ) hz) λt e0=>?_;have hs5:(bJ (fI G)).Sublist (yw 6):=by refine rA (qF _) ?_;exact hs
  have hcl5:bk (aH.getD i []) (bJ (fI G))=true:=by refine rA (qF _) ?_;exact hcl
  have hst5:jj (fI G)=jj G:=K6 G;have hl5:=fx (fI G);have hz5:=ip hs5;have hlt:ja<μ.length:=(BJ.mp hj).1;have hpr:pr (aH.getD i []) (k+1) G=(two (fI G)||xJ (aH.getD i []) (pr (aH.getD i []) k) [] (fI G)):=rfl;cases h2:two (fI G) with
  |true=>
   refine lK (Vr h2) λp q hpq=>?_;rw [hpq] at hs5 hcl5 e0
   refine bP (D9 (s:=J5 k) (t:=t) (μ:=μ) hi hc hs5 hcl5 hj (by lia)) λρ' e1=>?_;refine (cJ ([Fz true true]) ?_ (by simp) ?_)
   ·intro x hx
    refine rA (yA.mp hx) ?_;exact dP (n:=1) (gC λx hx=>by simp at hx;refine rA hx ?_;exact jb) (by decide)
   ·have:f70 (J5 k) (cC (ao (ay 70)) [.d (.list (bi (aH.getD i []) G)),.d (.list (nL (aH.getD i []))),.d (.list (iL cs)),.c ja]) μ=some (.ret (.d (.bool true)),ρ',μ.set ja (.live (X++[Fz true true]))):=by
     unfold f70;exact (aB e0).trans (cT e1)
    refine (cZ (k:=4) rfl this).trans ?_;refine rA (F7 (by simp)) ?_;refine rA hpr ?_;refine rA h2 ?_;exact rA (Bool.true_or _) rfl
  |false=>
   have e1:=I7 (s:=J5 k) (m:=aH.getD i []) (G:=fI G) (M:=.list (nL (aH.getD i []))) (C:=.list (iL cs)) (j:=ja) (t:=t) (μ:=μ) hz5 h2;refine nh (SA (t:=t) (pr:=none) hi hc hs5 hcl5 ((s70 (ja:=ja) hi hc k).mono (by omega)) (cL 0 (bi (aH.getD i []) (fI G))) (fI G) [] ⟨none,none,none,none,none,none,none,none,none,none⟩ μ X rfl hj (by omega)) λfl x' Y δ g1 g2 g3 g4=>?_;refine (cJ Y g1 (by omega) ?_);have e2:C7 (J5 k) (mQ (.list (bi (aH.getD i []) (fI G))) (.list (nL (aH.getD i []))) (.list (iL cs)) ja t none none none none none none none none none none none) μ=some (fl,RV (aH.getD i []) cs ja t none (fI G) x',μ.set ja (.live (X++Y))++δ):=by
    refine rA (FG _) ?_;refine rA (gI (km (f:=a9 0) (V:=.d (.list (bi (aH.getD i []) (fI G)))) rfl rfl)) ?_;exact g4
   have htk:(μ.set ja (.live (X++Y))++δ).take μ.length=μ.set ja (.live (X++Y)):=by
    refine rA (Mp (by simp)) ?_;exact rA (F7 (by simp)) rfl
   refine rA hpr ?_;refine rA h2 ?_;refine rA (Pm _) ?_
   rcases g3 with rfl| ⟨rfl,g3⟩
   ·have:f70 (J5 k) (cC (ao (ay 70)) [.d (.list (bi (aH.getD i []) G)),.d (.list (nL (aH.getD i []))),.d (.list (iL cs)),.c ja]) μ=some (.ret (.d (.bool (xJ (aH.getD i []) (pr (aH.getD i []) k) [] (fI G)))),RV (aH.getD i []) cs ja t none (fI G) x',μ.set ja (.live (X++Y))++δ):=by
     unfold f70;exact (aB e0).trans ((aB e1).trans (cT e2))
    refine (cZ (k:=4) rfl this).trans ?_;exact rA htk rfl
   ·have:f70 (J5 k) (cC (ao (ay 70)) [.d (.list (bi (aH.getD i []) G)),.d (.list (nL (aH.getD i []))),.d (.list (iL cs)),.c ja]) μ=some (.ret (.d (.bool false)),RV (aH.getD i []) cs ja t none (fI G) x',μ.set ja (.live (X++Y))++δ):=by
     unfold f70;refine (aB e0).trans ((aB e1).trans ((aB e2).trans (cT ?_)));unfold J2;exact dZ rfl
    refine (cZ (k:=4) rfl this).trans ?_;refine rA htk ?_;exact rA g3 rfl
theorem Ba{r:List PyData}{x:PyData}{acc2:List PyData}(e1:tf ρ x=some ρ1)(e2:cf ρ1 μ acc=some (ρ2,μ2,acc2)):f9 tf cf none xs (x::r) ρ μ acc=f9 tf cf none xs r ρ2 μ2 acc2:=by
 exact o_ e1 e2 (az _ _)
theorem O7{os1 td:List Int}(hi:i<μ.length)(hj:j<μ.length)(hij:i≠j)(h:rd os=some (0,os1))(hz:td.length≤1000):wA (k+1) [.c i,.c j] (gW μ i j os td)=some (.d (.tuple []),gW μ i j os1 (td++[0])):=by
 have e2:lg (wA k) (oG i j (some (.d (.int 0))) none none) (gW μ i j os1 (td++[0]))=some (.ret (.d (.tuple [])),oG i j (some (.d (.int 0))) none none,gW μ i j os1 (td++[0])):=by
  unfold lg;refine (gB (JC (n:=0) rfl) rfl).trans ?_;exact cT (dZ (d7 (ds:=[]) rfl (aa (xF rfl))))
 have:f68 (wA k) (cC (ao (ay 68)) [.c i,.c j]) (gW μ i j os td)=some (.ret (.d (.tuple [])),oG i j (some (.d (.int 0))) none none,gW μ i j os1 (td++[0])):=by
  unfold f68;refine rA (rn hi hj hij h (by lia)) ?_;exact rA (cT e2) rfl
 refine (?_:cy 2 _ _ _ _=_);refine rA (cZ (k:=2) rfl this) ?_;exact rA (F7 (by rw [kJ,kJ];exact DI _)) rfl
theorem AU:∀F:Fm,F.ht≤F.pl.length
 | .at _=>DI 1
 | .bin p l r=>by
  have h1:=AU l;have h2:=AU r;have p1:=nO l;have p2:=nO r;simp only [Fm.ht,Fm.pl,be];lia
theorem pq(m:List Nat):∀F:Fm,(F.pre m).length+1=2*F.pl.length
 | .at _=>rfl
 | .bin p l r=>by
  have h1:=pq m l;have h2:=pq m r;simp only [Fm.pre,Fm.pl,AO,be];lia
noncomputable def d9(m:List Nat)(G:List Fm):List Int:=G.flatMap λF=>F.pre m
theorem jg(m:List Nat)(F:Fm)(G:List Fm):d9 m (F::G)=F.pre m++d9 m G:=rfl
theorem qb(m:List Nat):∀G:List Fm,(d9 m G).length≤2*(bJ G).length
 | []=>DI 0
 |F::G=>by
  have:=qb m G;have:=pq m F
  refine rA (jg _ _ _) ?_;refine rA (b6 _ _) ?_;refine rA be ?_;refine rA be ?_;lia
theorem sT(hi:i<μ.length)(hj:j<μ.length)(hij:i≠j){ρ0:d0}{e:EF}(he:∀w μ',e (ρ0.set 31 w) μ'=wA 12 [.c i,.c j] μ')(xs:List PyData)(os':List Int):∀ (G:List Fm) (r:List PyData) (w:Option AV) (os td:List Int) (acc:List PyData),
  r.length=G.length+1→yH os (d9 m G++[0]) os'→bJ G=F6 (qC td) (bJ G).length→(bJ G).length≤12→td.length+2*(bJ G).length≤100→acc.length+G.length≤100→
  ∃w',f9 (du 31) (cU bg (aY e)) none xs r (ρ0.set 31 w) (gW μ i j os td) acc=some (ρ0.set 31 w',gW μ i j os' (td++d9 m G++[0]),acc++bi m G++[.tuple []])
 | [],[x],w,os,td,acc,_,h,_,_,hz,ha=>by
  cases h with
  |cons e1 h=>
  cases h;refine ⟨some (.d x),?_⟩;refine rA (Ba (ρ1:=ρ0.set 31 (some (.d x))) (by show some ((ρ0.set 31 w).set 31 _)=_;rw [I9]) (pj ((he _ _).trans (O7 hi hj hij e1 (by lia))) acc (aa (by lia)))) ?_
  simp [f9,d9,bi]
 |F::G,x::r,w,os,td,acc,hr,h,hp,h12,hz,ha=>by
  simp only [AO] at hr ha
  rw [jg,E9] at h
  refine au (yH.split h) λos1 h1 h2=>?_;rw [b6] at hp h12 hz
  refine dU (jT hp) λq1 q2 q3=>?_;rw [be] at q2 hz h12
  have hl:=pq m F;have hh:=AU F;have hs:=s68 (μ:=μ) hi hj hij m F 12 os os1 td (by lia) h1 q1 (by lia);have ht:qC (td++F.pre m)=qC td+F.pl.length:=by refine rA (lO _ _) ?_;exact rA (l4 _ _) rfl
  refine bP (sT hi hj hij he xs os' G r (some (.d x)) os1 (td++F.pre m) (acc++[F.enc m]) (by lia) h2 (by refine rA ht ?_;rw [KO] at q2;exact q2) (by lia) (by refine rA be ?_;lia) (by simp;lia)) λw' g=>?_;refine ⟨w',?_⟩;refine rA (Ba (ρ1:=ρ0.set 31 (some (.d x))) (by show some ((ρ0.set 31 w).set 31 _)=_;rw [I9]) (pj ((he _ _).trans hs) acc (aa (by lia)))) ?_;refine rA g ?_;refine rA (jg _ _ _) ?_
  simp [bi]
theorem OI:((yw 64).all λx=>decide ((HN ((x:Nat):Int):Int)+6≤1000))=true:=by decide+kernel
theorem NO{x:Int}(h0:0≤x)(h1:x<64):(HN x:Int)+6≤2^27:=by
 refine bP (L1 h0) λn zq1=>?_;subst zq1
 have:=Bb.mp OI n (D3.mpr (by lia))
 have:=of_decide_eq_true this
 have e:(2:Int)^27=134217728:=by decide
 lia
theorem ql{f g:SF}(h:f ρ μ=none):ap f g ρ μ=none:=GX h
theorem xb(h:f ρ μ=none):c6 i f ρ μ=none:=GX h
theorem sR{f:SF}(h:f (cC sc Vs) μ=none):cy k sc f Vs μ=none:=by
 by_cases hl:Vs.length=k
 ·exact (if_pos hl).trans (GX h)
 ·exact if_neg hl
theorem sv(h0:a9 0 ρ μ=some (.c i,μ))(hc:μ[i]? =some (.iter [])):af [a9 0] j_ ρ μ=none:=by
 exact (b5 (xg h0)).trans ((bV (rfl:l1 [AV.c i]=some _)).trans ((bV (rfl:Ff (.c i)=some i)).trans ((bV (show μ[i]?.bind QD=some [] by rw [hc];rfl)).trans (GX rfl))))
theorem EP(hc:μ[i]? =some (.iter [])):aR [.c i] μ=none:=by
 refine sR ?_;refine (?_:f8 [some (.c i),none,none] μ=none);unfold f8;refine ql ?_;unfold Eb;exact xb (sv rfl hc)
theorem OQ{o:AV→AV→List ah→Option (AV×List ah)}{W r:AV}(h:ρ[i]? =some (some V))(hf:f ρ μ=some (W,μ1))(ho:o V W μ1=some (r,μ2)):ie i f o ρ μ=some (.next,ρ.set i (some r),μ2):=by
 exact Cd h hf ho
theorem NJ{f:SF}(ht:t ρ μ=some (true,μ))(hf:f ρ μ=none):j3 t f (k+1) ρ μ=none:=by
 refine iS.trans ((b5 ht).trans (?_:bp (f ρ μ) (λfl p=>R9 fl (j3 t f k p.1 p.2) p)=none));exact GX hf
theorem Ei{b o:Int}(hc:μ[i]? =some (.iter [.int b]))(h0:64≤o)(h1:o<128)(hb:b=o∨b=o+128):aR [.c i] μ=none:=by
 refine fY (j9 (by lia) h1 hb) λhb1 hb2=>?_;rw [if_pos h0] at hb1
 refine sR ?_;refine (?_:f8 [some (.c i),none,none] μ=none);have hlt:i<μ.length:=(BJ.mp hc).1;have e0:Eb [some (.c i),none,none] μ=some (.next,[some (.c i),some (.d (.int b)),none],μ.set i (.iter [])):=by
  unfold Eb;exact bO (tJ (x:=.int b) (r:=[]) rfl hc)
 have e1:JP [some (.c i),some (.d (.int b)),none] (μ.set i (.iter []))=some (.next,[some (.c i),some (.d (.int b)),some (.d (.int (o%64)))],μ.set i (.iter [])):=by
  unfold JP;refine rB hb2 ?_;exact bO (cV (x:=b) (y:=63) rfl rfl rfl)
 unfold f8;refine rA (aB e0) ?_;refine rA (aB e1) ?_;refine ql ?_;unfold Oa;refine NJ ?_ ?_
 ·exact nD (V:=.d (.int 64)) ((cV (x:=b) (y:=64) rfl rfl rfl).trans (by exact rA hb1 rfl)) rfl
 ·have ea:ie 2 (kI 6) pC [some (.c i),some (.d (.int b)),some (.d (.int (o%64)))] (μ.set i (.iter []))=some (.next,[some (.c i),some (.d (.int b)),some (.d (.int (o%64*64)))],μ.set i (.iter [])):=by
   exact OQ (V:=.d (.int (o%64))) (W:=.d (.int 6)) rfl rfl (Z9 (o%64) (μ.set i (.iter [])) (by lia) (by lia))
  refine rA (aB ea) ?_;exact ql (xb (sv rfl (cz hlt)))
theorem r0:cO [.c i] μ=(aR [.c i] μ).elim (bo (r9 μ i) λμ'=>some (.d (.list []),μ')) (λp=>bo (v7 p.1) λx=>some (.d (.list [x]),p.2)):=rfl
theorem yd{v:Int}(hc:μ[i]? =some (.iter (iL os)))(h:rd os=some (v,rest)):cO [.c i] μ=some (.d (.list [.int v]),μ.set i (.iter (iL rest))):=by
 rw [r0,s8 hc h];rfl
theorem yU{b o:Int}(hc:μ[i]? =some (.iter [.int b]))(h0:64≤o)(h1:o<128)(hb:b=o∨b=o+128):cO [.c i] μ=some (.d (.list []),μ.set i (.iter [])):=by
 refine fY (j9 (by lia) h1 hb) λhb1 hb2=>?_;rw [if_pos h0] at hb1
 have hst:r9 μ i=some (μ.set i (.iter [])):=by
  exact (bV (show μ[i]?.bind QD=some [.int b] by rw [hc];rfl)).trans (if_pos ⟨by rw [hb1];decide,by rw [hb2];exact NO (by lia) (by lia)⟩)
 rw [r0,Ei hc h0 h1 hb];exact bV hst
theorem zY(hc:μ[i]? =some (.iter [])):cO [.c i] μ=some (.d (.list []),μ):=by
 have hst:r9 μ i=some μ:=by
  exact (bV (show μ[i]?.bind QD=some [] by rw [hc];rfl)).trans (congrArg some (eD hc))
 rw [r0,EP hc];exact bV hst
set_option genInjectivity false in
structure cW where
 script:Option AV:=none
 cells:Option AV:=none
 total:Option AV:=none
 mates:Option AV:=none
 numbers:Option AV:=none
 low:Option AV:=none
 far:Option AV:=none
 great:Option AV:=none
 tape:Option AV:=none
 told:Option AV:=none
 read:Option AV:=none
 beyond:Option AV:=none
 asked:Option AV:=none
 symbol:Option AV:=none
 tests:Option AV:=none
 units:Option AV:=none
 text:Option AV:=none
 shorn:Option AV:=none
 proof:Option AV:=none
 joins:Option AV:=none
 formula:Option AV:=none
 forks:Option AV:=none
 start:Option AV:=none
 labels:Option AV:=none
 names:Option AV:=none
 words:Option AV:=none
 trees:Option AV:=none
 mask:Option AV:=none
 said:Option AV:=none
 chosen:Option AV:=none
 joined:Option AV:=none
noncomputable def cW.loc(x:cW):d0:=[x.script,x.cells,x.total,x.mates,x.numbers,x.low,x.far,x.great,x.tape,x.told,x.read,x.beyond,x.asked,x.symbol,x.tests,x.units,x.text,x.shorn,x.proof,x.joins,x.formula,x.forks,x.start,x.labels,x.names,x.words,x.trees,x.mask,x.said,x.chosen,x.joined]
theorem DN{X Y:Type}(f:X→Y)(xs:List X)(lo hi st:Option Int):iJ (xs.map f) lo hi st=(iJ xs lo hi st).map f:=by
 unfold iJ;refine rA (xG _) ?_;refine rA List.map_filterMap ?_
 congr 1
 funext i
 rw [Gi]
noncomputable def AK:List Int:=[125,9,187,70,428,191]
noncomputable def RI(xs:List Int)(k:Int):Int:=((iJ xs (some k) (some 60) (some 6)).map λx=>x.fmod 5040).sum
noncomputable def C5(xs:List Int):PyData→PyData
 | .tuple [.int k,.int c]=>.int (c+RI xs k)
 |x=>x
theorem xq(xs:List Int):∀ (l:List Int) (k:Nat),∃cs:List Int,(cL k (iL l)).map (C5 xs)=iL cs∧cs.length=l.length
 | [],_=>(aZ ([]) rfl rfl)
 |c::l,k=>by
  refine au (xq xs l (k+1)) λcs e h=>?_;refine (aZ ((c+RI xs k)::cs) ?_ (by simp [h]));refine (?_:C5 xs (.tuple [.int k,.int c])::(cL (k+1) (iL l)).map (C5 xs)=_);refine rA e ?_;rfl
theorem GS{X:Type}(xs:List X)(lo hi st:Option Int):(iJ xs lo hi st).length≤(sliceRange (sliceBounds lo hi st xs.length).1 (sliceBounds lo hi st xs.length).2.1 (sliceBounds lo hi st xs.length).2.2).length:=by
 unfold iJ;exact List.length_filterMap_le _ _
theorem Al{l:List Int}(hf:f ρ μ=some (.d (.list (iL l)),μ)):af [f] v8 ρ μ=some (.d (.int l.sum),μ):=by
 refine d4 hf ?_;exact (bV (rfl:l1 [_]=some _)).trans ((bV (rfl:da μ (.d (.list (iL l)))=some _)).trans (bV (nC l)))
theorem st0(x:cW)(xs:List Int)(μ:List ah)(hx:xs.length≤63)(hr:∀k:Int,(iJ xs (some k) (some 60) (some 6)).length≤100000):∃cs:List Int,cs.length=6∧wn ({x with script:=some (.d (.list (iL xs)))}).loc μ=some (.next,({x with script:=some (.d (.list (iL xs))),cells:=some (.d (.list (iL cs)))}).loc,μ):=by
 refine au (xq xs AK 0) λcs e h=>?_;refine (aZ cs h ?_)
 let ρ:=({x with script:=some (.d (.list (iL xs)))}:cW).loc
 have hl:aV [(kI 125),(kI 9),(kI 187),(kI 70),(kI 428),(kI 191)] ρ μ=some (.d (.list (iL AK)),μ):=dG (ds:=iL AK) rfl (aa (by decide));have hcm:=sP (sc:=uD) (itf:=b_ [(aV [(kI 125),(kI 9),(kI 187),(kI 70),(kI 428),(kI 191)])] g9) (e:=(aj (a9 32) (af [(cb tM (aK false (vB (a9 0) (aL (a9 31)) (aL (kI 60)) (aL (kI 6)))) (du 33) (cU bg (aY (aj (a9 33) (kI 5040) (aS cq)))))] v8) aT)) (ρ:=ρ) (μ:=μ) 31 32 (by decide) (C5 xs)
  (km hl rfl) (az _ _) (λy hy=>by
   refine lK (ms AK 0 hy) λk c zq2=>?_;subst zq2;refine (fS (.int k) (.int c) rfl ?_)
   let ρ1:d0:=((bG uD ρ).set 31 (some (.d (.int k)))).set 32 (some (.d (.int c)))
   have hs:vB (a9 0) (aL (a9 31)) (aL (kI 60)) (aL (kI 6)) ρ1 μ=some (.d (.list (iL (iJ xs (some k) (some 60) (some 6)))),μ):=by
    have h0:a9 0 ρ1 μ=some (.d (.list (iL xs)),μ):=rfl;have h1:aL (a9 31) ρ1 μ=some (some k,μ):=dD rfl;have h2:aL (kI 60) ρ1 μ=some (some 60,μ):=dD rfl;have h3:aL (kI 6) ρ1 μ=some (some 6,μ):=dD rfl;refine (b5 h0).trans ((b5 h1).trans ((b5 h2).trans ((b5 h3).trans ((bV (rfl:some (6:Int)=some 6)).trans ((bV (rfl:da μ (.d (.list (iL xs)))=some _)).trans ((if_pos ⟨by rw [xG];exact aa (by lia),by decide⟩).trans ?_))))));rw [iL,DN]
   have hin:=iw (sc:=tM) (itf:=aK false (vB (a9 0) (aL (a9 31)) (aL (kI 60)) (aL (kI 6)))) (e:=aj (a9 33) (kI 5040) (aS cq)) (ρ:=ρ1) (μ:=μ) (g:=none) 33 (λx=>match x with| .int x=>.int (x.fmod 5040)|x=>x) (d6 (V:=.d (.list (iL (iJ xs (some k) (some 60) (some 6))))) hs rfl) (az _ _) (λy hy=>by
    refine au (DG.mp hy) λz zz zq2=>?_;subst zq2;exact cV (x:=z) (y:=5040) rfl rfl (fj (by decide))) (by refine rA (xG _) ?_;exact aa (hr k))
   have e2:(iL (iJ xs (some k) (some 60) (some 6))).map (λx=>match x with| .int x=>EU (x.fmod 5040)|x=>x)=iL ((iJ xs (some k) (some 60) (some 6)).map λx=>x.fmod 5040):=by
    simp only [iL,ER];rfl
   rw [e2] at hin
   exact cR (x:=c) rfl (Al (bY hin))) (by refine rA (iA _ _) ?_;exact aa (by decide))
 unfold wn;refine rA (jv hcm) ?_;refine rA e ?_;rfl
theorem st1(x:cW)(cs:List Int)(μ:List ah):vX ({x with cells:=some (.d (.list (iL cs)))}).loc μ=some (.next,({x with cells:=some (.d (.list (iL cs))),total:=some (.d (.int cs.sum))}).loc,μ):=by
 unfold vX;exact (bO (Al rfl)).trans rfl
noncomputable def eo(T:Int):Nat:=((T.fdiv 5).fmod 5).toNat
theorem tG(T:Int):eo T<5:=by
 have h0:0≤(T.fdiv 5).fmod 5:=F8 _ (by decide);have h1:(T.fdiv 5).fmod 5<5:=Il _ (by decide);unfold eo;lia
theorem Ky{a c d e f:Nat}:aV [kI a,kI b,kI c,kI d,kI e,kI f] ρ μ=some (.d (.list (nL [a,b,c,d,e,f])),μ):=dG (ds:=nL [a,b,c,d,e,f]) rfl (aa (by simp [nL]))
theorem st2(x:cW)(T:Int)(μ:List ah):wE ({x with total:=some (.d (.int T))}).loc μ=some (.next,({x with total:=some (.d (.int T)),mates:=some (.d (.list (nL (aH.getD (eo T) []))))}).loc,μ):=by
 have h0:0≤(T.fdiv 5).fmod 5:=F8 _ (by decide);have h1:=tG T;unfold wE;refine (bO (cH (V:=.d (.list (aH.map λm=>.list (nL m)))) (xs:=aH.map λm=>.list (nL m)) (d:=.list (nL (aH.getD (eo T) []))) (dG (ds:=aH.map λm=>.list (nL m)) (an Ky (an Ky (an Ky (an Ky (an Ky bW))))) (aa (by decide))) (jA (T:=T) 5 5 (by decide) (by decide) rfl rfl) rfl h0 ?_ (aa (by decide)))).trans rfl
 show (aH.map λm=>NZ (nL m))[eo T]? =_
 generalize eo T=i at h1
 have:i=0∨i=1∨i=2∨i=3∨i=4:=by lia
 rcases this with rfl|rfl|rfl|rfl|rfl<;>rfl
theorem st3(x:cW)(cs:List Int)(T:Int)(m:List Nat)(μ:List ah)(hc:cs.length=6)(hm:m.length=6):∃G:List Fm,bJ G=F6 0 6∧G.length+g7 T=6∧
  xi ({x with cells:=some (.d (.list (iL cs))),total:=some (.d (.int T)),mates:=some (.d (.list (nL m)))}).loc μ=some (.next,({x with cells:=some (.d (.list (iL cs))),total:=some (.d (.int T)),mates:=some (.d (.list (nL m))),numbers:=some (.d (.list (iL (d9 m G++[0]))))}).loc,μ):=by
 refine cn (s65 (cs:=cs) (m:=m) (T:=T) (μ:=μ) hc hm) λG h1 h2 h3=>?_;refine (cJ G h1 h2 ?_);unfold xi;exact (bO (RQ rfl rfl rfl h3)).trans rfl
noncomputable def Io(T:Int):Nat:=((T.fdiv 13).fmod 5).toNat
noncomputable def Eg(T:Int):Int:=((Io T:Int)-3)*2^32
noncomputable def jl(T:Int):Nat:=(T.fmod 13).toNat
theorem Nq(T:Int):Io T<5:=by
 have h0:0≤(T.fdiv 13).fmod 5:=F8 _ (by decide);have h1:(T.fdiv 13).fmod 5<5:=Il _ (by decide);unfold Io;lia
theorem uq(T:Int):jl T<13:=by
 have h0:0≤T.fmod 13:=F8 _ (by decide);have h1:T.fmod 13<13:=Il _ (by decide);unfold jl;lia
theorem tz{x:Int}(hf:f ρ μ=some (.d (.int x),μ))(hg:g ρ μ=some (.d (.int y),μ))(h:y.natAbs<2^64):aj f g l8 ρ μ=some (.d (.int (x*y)),μ):=by
 exact pS hf hg ((bV (rfl:jJ (.d (.int y))=some y)).trans ((oO (rfl:jJ (.d (.int x))=some x) rfl).trans (if_pos (.inr h))))
theorem kj{y:Nat}(hg:g ρ μ=some (.d (.int y),μ))(h:y≤1000):aj (kI 2) g (aS gj) ρ μ=some (.d (.int (2^y)),μ):=by
 refine cV (x:=2) rfl hg ?_;unfold gj;refine rA (if_pos (fu (by lia) (by lia) (by decide))) ?_;rfl
theorem st4(x:cW)(T:Int)(μ:List ah):xA ({x with total:=some (.d (.int T))}).loc μ=some (.next,({x with total:=some (.d (.int T)),low:=some (.d (.int (jl T))),far:=some (.d (.int (Eg T)))}).loc,μ):=by
 let ρ:=({x with total:=some (.d (.int T))}:cW).loc
 have h1:aj (a9 2) (kI 13) (aS cq) ρ μ=some (.d (.int (jl T)),μ):=by
  have:T.fmod 13=(jl T:Int):=(Ly (F8 _ (by decide))).symm
  refine rB this ?_;exact cV (x:=T) (y:=13) rfl rfl (fj (by decide))
 have h2:aj (aj (aj (aj (a9 2) (kI 13) (aS cN)) (kI 5) (aS cq)) (kI 3) (aS λx y=>some (x-y))) (aj (kI 2) (kI 32) (aS gj)) l8 ρ μ=some (.d (.int (Eg T)),μ):=by
  have e:(T.fdiv 13).fmod 5=(Io T:Int):=(Ly (F8 _ (by decide))).symm;have a:=jA (f:=a9 2) (g:=kI 5) (ρ:=ρ) (μ:=μ) (T:=T) 13 5 (by decide) (by decide) rfl rfl;rw [e] at a
  exact tz (jU a (rfl:kI 3 _ _=some (.d (.int 3),_))) (kj (y:=32) rfl (by decide)) (by decide)
 have ht:=d7 (ds:=[.int (jl T),.int (Eg T)]) (an h1 (an h2 bW)) (aa (xF rfl));unfold xA;refine (?_:wy 5 6 _ ρ μ=_);exact AX ht
noncomputable def nf(G:List Fm):Nat:=((eE G 0).filter (·.par)).length
theorem ug(m:List Nat):∀ (F:Fm) (n:Nat),((F.pre m).filter λx=>x==274).length=((gr F n).2.filter (·.par)).length
 | .at i,n=>by
  have:=gG m i
  simp only [Fm.pre,Jg]
  rcases this with q|q<;>rw [q]<;>rfl
 | .bin p l r,n=>by
  have h1:=ug m l n;have h2:=ug m r (n+(gr l n).2.length);cases p
  ·simp only [Fm.pre,zR,KR,be]
   simp [h1,h2]
  ·simp only [Fm.pre,zR,KR,be]
   simp [h1,h2]
theorem wm(m:List Nat):∀ (G:List Fm) (n:Nat),((d9 m G).filter λx=>x==274).length=((eE G n).filter (·.par)).length
 | [],_=>rfl
 |F::G,n=>by
  refine rA (jg _ _ _) ?_;rw [sq];refine rA (KR _ _) ?_;refine rA (KR _ _) ?_;refine rA be ?_;refine rA be ?_;refine rA (ug m F n) ?_;rw [wm m G]
noncomputable def rJ(G:List Fm)(T:Int):Int:=(2^nf G-1)*2^jl T+2^31
theorem FQ(h:n≤40):((2:Int)^n).natAbs<2^64:=by
 refine rA (Int.natAbs_pow _ _) ?_;exact Nat.pow_lt_pow_right (by decide) (by lia)
theorem st5(x:cW)(T:Int)(m:List Nat)(G:List Fm)(μ:List ah)(hG:(d9 m G).length≤100)(hn:nf G≤100):wN ({x with numbers:=some (.d (.list (iL (d9 m G++[0])))),low:=some (.d (.int (jl T)))}).loc μ=some (.next,({x with numbers:=some (.d (.list (iL (d9 m G++[0])))),low:=some (.d (.int (jl T))),great:=some (.d (.int (rJ G T)))}).loc,μ):=by
 let ρ:=({x with numbers:=some (.d (.list (iL (d9 m G++[0])))),low:=some (.d (.int (jl T)))}:cW).loc
 have hlow:=uq T;have hcm:=jh (sc:=uU) (itf:=aK false (a9 4)) (t:=bC (a9 31) (kI 274) dH) (e:=a9 31) (ρ:=ρ) (μ:=μ) 31 (λx=>match x with| .int y=>y==274|_=>false) id (d6 (V:=.d (.list (iL (d9 m G++[0])))) rfl rfl) (az _ _) (λy hy=>by
  refine au (DG.mp hy) λz zz zq2=>?_;subst zq2;exact o4 (x:=z) (y:=274) rfl rfl) (λzz zz zz=>rfl) (by refine rA (xG _) ?_;refine rA be ?_;exact aa (by simp;lia))
 have hlen:=gH (f:=cb uU (aK false (a9 4)) (du 31) (cU (bC (a9 31) (kI 274) dH) (aY (a9 31)))) (bY hcm) rfl (by
  refine rA (xG _) ?_;refine aa (KQ (Hs ..) ?_);refine rA (xG _) ?_;refine rA be ?_;simp;lia)
 have hcount:(((iL (d9 m G++[0])).filter (λx=>match x with| .int y=>y==274|_=>false)).map id).length=nf G:=by
  refine rA (xG _) ?_;rw [iL];refine rA OF ?_;refine rA (xG _) ?_;have e:((λx=>match x with|EU y=>y==274|_=>false)∘EU)= λy=>y==274:=rfl;refine rA e ?_;refine rA (KR _ _) ?_;refine rA be ?_;refine rA (wm m G 0) ?_;rfl
 rw [hcount] at hlen
 have h1:=jU (kj hlen (by lia)) (rfl:kI 1 _ _=some (.d (.int 1),_));have h2:aj (kI 2) (a9 5) (aS gj) ρ μ=some (.d (.int (2^jl T)),μ):=kj rfl (by lia);have h3:=cR (tz h1 h2 (FQ (by lia))) (kj (g:=kI 31) (y:=31) (ρ:=ρ) (μ:=μ) rfl (by decide));unfold wN;exact (bO h3).trans rfl
noncomputable def sa(cs:List Int)(T:Int)(ns:List Int):List Int:=mk T 0 (gh cs 0 ns++[64+T.fmod 64])
theorem st6(x:cW)(cs N:List Int)(T g:Int)(μ:List ah)(hc:cs.length=6)(hN:N.length≤100):wR ({x with cells:=some (.d (.list (iL cs))),total:=some (.d (.int T)),numbers:=some (.d (.list (iL N))),great:=some (.d (.int g))}).loc μ=
  some (.next,({x with cells:=some (.d (.list (iL cs))),total:=some (.d (.int T)),numbers:=some (.d (.list (iL N))),great:=some (.d (.int g)),tape:=some (.c μ.length)}).loc,μ++[.iter (iL (sa cs T (N++[g])))]):=by
 let ρ:=({x with cells:=some (.d (.list (iL cs))),total:=some (.d (.int T)),numbers:=some (.d (.list (iL N))),great:=some (.d (.int g))}:cW).loc
 have h1:aj (a9 4) (aV [a9 7]) aT ρ μ=some (.d (.list (iL (N++[g]))),μ):=by
  refine rB (lw _ _) ?_;exact cS (f:=a9 4) (xs:=iL N) (ys:=iL [g]) rfl (jR rfl) rfl rfl (aa (by refine rA (xG _) ?_;refine rA (xG _) ?_;simp;lia))
 have h2:=RQ (g:=a9 1) (h:=a9 2) (ρ:=ρ) h1 rfl rfl (s66 (ns:=N++[g]) (cs:=cs) (T:=T) (μ:=μ) hc (by simp;lia));unfold wR;exact (bO (d4 h2 rfl)).trans rfl
theorem st7(x:cW)(μ:List ah):wF x.loc μ=some (.next,({x with told:=some (.c μ.length)}).loc,μ++[.live []]):=by
 unfold wF;exact (bO xf).trans rfl
theorem n6(m:List Nat):∀ (F:Fm),∀n∈F.pre m,n∈oB
 | .at i,n,h=>by
  simp only [Fm.pre,yA] at h
  subst h
  rcases gG m i with q|q<;>rw [q]<;>decide
 | .bin p l r,n,h=>by
  simp only [Fm.pre,Ch,AA] at h
  rcases h with q|q|q
  ·subst q;cases p<;>decide
  ·exact n6 m l n q
  ·exact n6 m r n q
theorem MO(m:List Nat)(G:List Fm):∀n∈d9 m G,n∈oB:= λn h=>by
 refine au (L4.mp h) λF zz hF=>?_;exact n6 m F n hF
theorem Ip{f:Nat}(hf:f≤5)(hl:low<13):((2:Int)^f-1)*2^low+2^31∈oB:=by
 unfold oB;refine CE _ (L4.mpr (aZ f (D3.mpr (by lia)) (DG.mpr ⟨low,D3.mpr hl,rfl⟩)))
theorem zG{T:Int}{G:List Fm}(hn:nf G≤5):∃os1 p',yH (sa cs T (d9 m G++[0]++[rJ G T])) (d9 m G++[0]) os1∧rd os1=some (rJ G T,mk T p' [64+T.fmod 64]):=by
 obtain ⟨p',h⟩:=vn T cs [64+T.fmod 64] (d9 m G++[0]++[rJ G T]) 0 0 (λn hn'=>by
  simp only [AA,yA] at hn'
  rcases hn' with (q|q)|q
  ·exact MO m G n q
  ·subst q;decide
  ·subst q;exact Ip hn (uq T))
 refine au (yH.split h) λos1 h1 h2=>?_;cases h2 with
 |cons e h2=>
 cases h2;exact (fS os1 p' h1 e)
theorem EO{T:Int}(h1:a9 2 ρ μ=some (.d (.int T),μ)):aF (aV [(kI 2),(kI 2),(kI 3),(kI 4)]) (aj (aj (a9 2) (kI 25) (aS cN)) (kI 4) (aS cq)) ρ μ=some (.d (.int ((7-g7 T:Nat):Int)),μ):=by
 have h0:0≤(T.fdiv 25).fmod 4:=F8 _ (by decide);have h4:(T.fdiv 25).fmod 4<4:=Il _ (by decide);refine cH (V:=.d (.list [.int 2,.int 2,.int 3,.int 4])) (dG (ds:=[.int 2,.int 2,.int 3,.int 4]) rfl (aa (xF rfl))) (jA 25 4 (by decide) (by decide) h1 rfl) rfl h0 ?_ (aa (xF rfl));unfold g7;generalize (T.fdiv 25).fmod 4=x at*
 have:x=0∨x=1∨x=2∨x=3:=by lia
 rcases this with rfl|rfl|rfl|rfl<;>rfl
noncomputable def ib(os td:List Int):List ah:=[.iter (iL os),.live (iL td)]
theorem st8(x:cW)(T:Int)(m:List Nat)(G:List Fm)(os os1:List Int)(hG:bJ G=F6 0 6)(ht:G.length+g7 T=6)(h:yH os (d9 m G++[0]) os1):BU ({x with total:=some (.d (.int T)),tape:=some (.c 0),told:=some (.c 1)}).loc (ib os [])=
  some (.next,({x with total:=some (.d (.int T)),tape:=some (.c 0),told:=some (.c 1),read:=some (.d (.list (bi m G++[J1 []])))}).loc,ib os1 (d9 m G++[0])):=by
 let ρ:=({x with total:=some (.d (.int T)),tape:=some (.c 0),told:=some (.c 1)}:cW).loc
 have h6:(bJ G).length=6:=by refine rA hG ?_;rfl
 have ht5:=mu T;have hi:aK false (af [(aF (aV [(kI 2),(kI 2),(kI 3),(kI 4)]) (aj (aj (a9 2) (kI 25) (aS cN)) (kI 4) (aS cq)))] cF) ρ (ib os [])=some ((yw (7-g7 T-0)).map λ(i:Nat)=>EU ((0+i:Nat):Int),none,ib os []):=
  qO (d4 (EO rfl) rfl) (by decide) (by lia)
 obtain ⟨w',e⟩:=sT (m:=m) (μ:=[.iter [],.live []]) (i:=0) (j:=1) (by decide) (by decide) (by decide) (ρ0:=ρ++[none]) (e:=af [a9 8,a9 9] aC) (λw μ'=>by
   have:af [a9 8,a9 9] aC ((ρ++[none]).set 31 w) μ'=aC [.c 0,.c 1] μ':=rfl
   refine rA this ?_;rfl) ((yw (7-g7 T-0)).map λ(i:Nat)=>EU ((0+i:Nat):Int)) os1 G ((yw (7-g7 T-0)).map λ(i:Nat)=>EU ((0+i:Nat):Int)) none os [] [] (by simp;lia) h (by refine rA hG ?_;rfl) (by lia) (by simp;lia) (by simp;lia)
 have hcm:fg xQ (aK false (af [(aF (aV [(kI 2),(kI 2),(kI 3),(kI 4)]) (aj (aj (a9 2) (kI 25) (aS cN)) (kI 4) (aS cq)))] cF)) (du 31) (cU bg (aY (af [(a9 8),(a9 9)] aC))) ρ (ib os [])=some (bi m G++[.tuple []],ib os1 (d9 m G++[0])):=by
  have e':=e;simp only [Lc] at e'
  rw [show gW [.iter [],.live []] 0 1 os []=ib os [] from rfl] at e'
  exact pN hi e'
 exact jv hcm
theorem Fn(hf:f ρ μ=some (.d (.list xs),μ1))(hg:g ρ μ1=some (.d (.list ys),μ2))(hz:xs.length+ys.length≤sizeLine):aj f g aT ρ μ=some (.d (.list (xs++ys)),μ2):=by
 exact pS hf hg ((f5 (rfl:jJ (.d (.list xs))=none)).trans ((f5 (rfl:mz (.d (.list xs))=none)).trans ((bV (rfl:da μ2 (.d (.list xs))=some _)).trans ((bV (rfl:da μ2 (.d (.list ys))=some _)).trans (if_pos hz)))))
theorem Tw(T:Int)(p:Nat)(o:Int):∃b,mk T p [o]=[b]∧(b=o∨b=o+128):=by
 simp only [mk]
 split
 ·exact (aZ _ rfl (.inr rfl))
 ·exact (aZ _ rfl (.inl rfl))
theorem st9(x:cW)(T g:Int)(p:Nat)(os1 td:List Int)(h:rd os1=some (g,mk T p [64+T.fmod 64])):vM ({x with tape:=some (.c 0)}).loc (ib os1 td)=some (.next,({x with tape:=some (.c 0),beyond:=some (.d (.list (iL [g])))}).loc,ib [] td):=by
 let ρ:=({x with tape:=some (.c 0)}:cW).loc
 refine au (Tw T p (64+T.fmod 64)) λb hb hb2=>?_;rw [hb] at h
 have h0:0≤T.fmod 64:=F8 _ (by decide);have h1:T.fmod 64<64:=Il _ (by decide);have c1:af [a9 8] cO ρ (ib os1 td)=some (.d (.list [.int g]),ib [b] td):=d4 (V:=.c 0) rfl (yd rfl h);have c2:af [a9 8] cO ρ (ib [b] td)=some (.d (.list []),ib [] td):=d4 (V:=.c 0) rfl (yU (b:=b) rfl (by lia) (by lia) hb2);have c3:af [a9 8] cO ρ (ib [] td)=some (.d (.list []),ib [] td):=d4 (V:=.c 0) rfl (zY rfl);unfold vM;exact (bO (Fn (Fn c1 c2 (aa (xF rfl))) c3 (aa (xF rfl)))).trans rfl
noncomputable def rh(N:List Int)(g:Int):List PyData:=[.tuple [.list (iL N),.list (iL N)],.tuple [.list (iL [g]),.list (iL [g])]]
noncomputable def Gb(N:List Int)(X:List PyData):List ah:=[.iter [],.frozen (iL N),.live X]
theorem Sx(hf:f ρ μ=some (.c j,μ))(hg:g ρ μ=some (.d d,μ))(hc:μ[j]? =some (.live xs)):cX [f,g] ρ μ=some (.d (.tuple [.list xs,d]),μ.set j (.frozen xs)):=by
 exact Hx (zc hf hg) (fE (qo hc) (fE rfl rfl)) (aa (xF rfl))
theorem ZR(h:eX fs ρ μ=some (ds.map .d,μ1))(hz:ds.length≤sizeLine):oa fs ρ μ=some (.c μ1.length,μ1++[.live ds]):=by
 exact Ic h (tU ds) hz
theorem ap6(x:cW)(N:List Int)(g:Int):rt ({x with numbers:=some (.d (.list (iL N))),great:=some (.d (.int g)),told:=some (.c 1),beyond:=some (.d (.list (iL [g])))}).loc (ib [] N)=
  some (.next,({x with numbers:=some (.d (.list (iL N))),great:=some (.d (.int g)),told:=some (.c 1),beyond:=some (.d (.list (iL [g]))),asked:=some (.c 2)}).loc,Gb N (rh N g)):=by
 let ρ:=({x with numbers:=some (.d (.list (iL N))),great:=some (.d (.int g)),told:=some (.c 1),beyond:=some (.d (.list (iL [g])))}:cW).loc
 have h1:cX [(a9 9),(a9 4)] ρ (ib [] N)=some (.d (.tuple [.list (iL N),.list (iL N)]),[.iter [],.frozen (iL N)]):=Sx (j:=1) rfl rfl rfl;have h2:cX [(a9 11),(aV [(a9 7)])] ρ [.iter [],.frozen (iL N)]=some (.d (.tuple [.list (iL [g]),.list (iL [g])]),[.iter [],.frozen (iL N)]):=d7 (ds:=[.list (iL [g]),.list (iL [g])]) (an rfl (an (jR rfl) bW)) (aa (xF rfl));unfold rt;exact (bO (ZR (ds:=rh N g) (an h1 (an h2 bW)) (aa (by simp [rh])))).trans rfl
theorem nA(h0:a9 12 ρ μ=some (.c 2,μ))(hf:f ρ μ=some (.d d,μ))(hc:μ[2]? =some (.live X))(hz:X.length≤100000):ci (d_ (a9 12) f) ρ μ=some (.next,ρ,μ.set 2 (.live (X++[d]))):=
 eB (gt h0 hf hc (aa hz))
noncomputable def yM(N:List Int)(g T:Int):List Int:=N++[g]++[255,256,-256,T-2000]
noncomputable def uj(s:Int):List PyData:=[.bool true,.bool false,.bool true,.bool true,.bool true,.bool (decide (s<256)),.bool (decide (256≤s)),.bool (s==0)]
noncomputable def zp(s:Int):PyData:=.tuple [.list (uj s),.list (uj s)]
theorem KE(s:Int):Good (zp s):=dP (n:=1) (gC λx hx=>by
 simp only [uj,Ch,DM,or_false] at hx
 rcases hx with rfl|rfl|rfl|rfl|rfl|rfl|rfl|rfl<;>exact jb) (by decide)
noncomputable def mL(s:Int):List PyData:=[.bool (decide (s<256)),.bool (decide (256≤s)),.bool (s==0)]
theorem Ay(s:Int):s.fdiv 256=s/256:=Int.fdiv_eq_ediv_of_nonneg _ (by decide)
theorem Gs(x:cW)(s:Int)(X:List PyData)(μ:List ah)(sy te:Option AV)(hc:μ[2]? =some (.live X))(hz:X.length≤10000):
  (ap (c6 14 (aV [(af [(a9 13)] cm),(af [(a9 13)] bQ),(af [(a9 13)] fB)])) (ap (ci (d_ (a9 12) (cX [(aj (aj (aV [(af [(a9 13),(kT "int")] gx)]) (cb nG (aK false (aj (aV [(a9 13)]) (a9 14) aT)) (du 31) (cU bg (aY (af [(a9 31),(kT "bool")] gx)))) aT) (a9 14) aT),(aV [(kB true),(kB false),(kB true),(kB true),(kB true),(dY (aj (a9 13) (kI 256) (aS cN)) (kI 1) (ef λx y=>decide (x<y))),(dY (aj (a9 13) (kI 256) (aS cN)) (kI 0) (ef λx y=>decide (y<x))),(xO (a9 13))])]))) aP)) ({x with asked:=some (.c 2),symbol:=some (.d (.int s)),tests:=te}).loc μ=
   some (.next,({x with asked:=some (.c 2),symbol:=some (.d (.int s)),tests:=some (.d (.list (mL s)))}).loc,μ.set 2 (.live (X++[zp s]))):=by
 have h1:aV [(af [(a9 13)] cm),(af [(a9 13)] bQ),(af [(a9 13)] fB)] ({x with asked:=some (.c 2),symbol:=some (.d (.int s)),tests:=te}:cW).loc μ=some (.d (.list (mL s)),μ):=
  dG (ds:=mL s) (an (d4 rfl s61) (an (d4 rfl s62) (an (d4 rfl s63) bW))) (aa (by simp [mL]))
 let ρ:=({x with asked:=some (.c 2),symbol:=some (.d (.int s)),tests:=some (.d (.list (mL s)))}:cW).loc
 have hcm:=iw (sc:=nG) (itf:=aK false (aj (aV [(a9 13)]) (a9 14) aT)) (e:=af [(a9 31),(kT "bool")] gx) (ρ:=ρ) (μ:=μ) (g:=none) (xs:=.int s::mL s) 31 (λx=>match x with| .bool _=>.bool true|_=>.bool false) (d6 (V:=.d (.list (.int s::mL s))) (cS (xs:=[.int s]) (ys:=mL s) (jR rfl) rfl rfl rfl (aa (by simp [mL]))) rfl) (az _ _) (λy hy=>by
  simp only [mL,Ch,DM,or_false] at hy
  rcases hy with rfl|rfl|rfl|rfl<;>exact iV rfl rfl rfl) (aa (by simp [mL]))
 have h2:aj (aj (aV [(af [(a9 13),(kT "int")] gx)]) (cb nG (aK false (aj (aV [(a9 13)]) (a9 14) aT)) (du 31) (cU bg (aY (af [(a9 31),(kT "bool")] gx)))) aT) (a9 14) aT ρ μ=some (.d (.list (uj s)),μ):=
  cS (V:=.d (.list [.bool true,.bool false,.bool true,.bool true,.bool true])) (xs:=[.bool true,.bool false,.bool true,.bool true,.bool true]) (ys:=mL s) (cS (xs:=[.bool true]) (ys:=[.bool false,.bool true,.bool true,.bool true]) (jR (iV rfl rfl rfl)) (bY hcm) rfl rfl (aa (xF rfl))) rfl rfl rfl (aa (by simp [mL]))
 have hq:aj (a9 13) (kI 256) (aS cN) ρ μ=some (.d (.int (s.fdiv 256)),μ):=cV rfl rfl (kP (by decide));have e1:dY (aj (a9 13) (kI 256) (aS cN)) (kI 1) (ef λx y=>decide (x<y)) ρ μ=some (.d (.bool (decide (s<256))),μ):=by
  refine (hH (W:=.d (.int 1)) hq rfl rfl).trans ?_;refine rA (Ay _) ?_
  congr 4
  exact decide_eq_decide.mpr (by omega)
 have e2:dY (aj (a9 13) (kI 256) (aS cN)) (kI 0) (ef λx y=>decide (y<x)) ρ μ=some (.d (.bool (decide (256≤s))),μ):=by
  refine (hH (W:=.d (.int 0)) hq rfl rfl).trans ?_;refine rA (Ay _) ?_
  congr 4
  exact decide_eq_decide.mpr (by omega)
 have e3:xO (a9 13) ρ μ=some (.d (.bool (s==0)),μ):=by
  have:xO (a9 13) ρ μ=some (.d (.bool (!(s != 0))),μ):=rfl
  refine rA this ?_
  simp [bne]
 have l3:aV [(kB true),(kB false),(kB true),(kB true),(kB true),(dY (aj (a9 13) (kI 256) (aS cN)) (kI 1) (ef λx y=>decide (x<y))),(dY (aj (a9 13) (kI 256) (aS cN)) (kI 0) (ef λx y=>decide (y<x))),(xO (a9 13))] ρ μ=some (.d (.list (uj s)),μ):=
  dG (ds:=uj s) (an rfl (an rfl (an rfl (an rfl (an rfl (an e1 (an e2 (an e3 bW)))))))) (aa (by simp [uj]))
 have h3:=d7 (ds:=[.list (uj s),.list (uj s)]) (an h2 (an l3 bW)) (aa (xF rfl));refine (aB (bO h1)).trans ?_;exact (aB (nA rfl h3 hc (by omega))).trans bK
theorem wU(x:cW)(xs:List PyData):∀ (r:List Int) (X:List PyData) (μ:List ah) (sy te:Option AV),μ[2]? =some (.live X)→X.length+r.length≤10000→∃sy' te',
  fN (du 13) (ap (c6 14 (aV [(af [(a9 13)] cm),(af [(a9 13)] bQ),(af [(a9 13)] fB)])) (ap (ci (d_ (a9 12) (cX [(aj (aj (aV [(af [(a9 13),(kT "int")] gx)]) (cb nG (aK false (aj (aV [(a9 13)]) (a9 14) aT)) (du 31) (cU bg (aY (af [(a9 31),(kT "bool")] gx)))) aT) (a9 14) aT),(aV [(kB true),(kB false),(kB true),(kB true),(kB true),(dY (aj (a9 13) (kI 256) (aS cN)) (kI 1) (ef λx y=>decide (x<y))),(dY (aj (a9 13) (kI 256) (aS cN)) (kI 0) (ef λx y=>decide (y<x))),(xO (a9 13))])]))) aP)) aP none xs (iL r) ({x with asked:=some (.c 2),symbol:=sy,tests:=te}).loc μ=
   some (.next,({x with asked:=some (.c 2),symbol:=sy',tests:=te'}).loc,μ.set 2 (.live (X++r.map zp)))
 | [],X,μ,sy,te,hc,_=>(jH sy te (by
  refine rA LQ ?_;refine rA (DB _) ?_;refine rA (eD hc) ?_;rfl))
 |s::r,X,μ,sy,te,hc,hz=>by
  simp only [AO] at hz
  have hlt:2<μ.length:=(BJ.mp hc).1;refine lK (wU x xs r (X++[zp s]) (μ.set 2 (.live (X++[zp s]))) (some (.d (.int s))) (some (.d (.list (mL s)))) (cz hlt) (by simp;lia)) λsy' te' e=>?_;refine (jH sy' te' ?_);refine (dK (ρ1:=({x with asked:=some (.c 2),symbol:=some (.d (.int s)),tests:=te}:cW).loc) rfl (Gs x s X μ sy te hc (by lia)) (az _ _)).trans (e.trans ?_)
  simp [I9]
theorem aj3(x:cW)(N:List Int)(g T:Int)(X:List PyData)(μ:List ah)(hN:N.length≤100)(h1:da μ (.c 1)=some (iL N))(hc:μ[2]? =some (.live X))(hz:X.length≤1000):∃sy te,
  r5 ({x with total:=some (.d (.int T)),told:=some (.c 1),beyond:=some (.d (.list (iL [g]))),asked:=some (.c 2)}).loc μ=
   some (.next,({x with total:=some (.d (.int T)),told:=some (.c 1),beyond:=some (.d (.list (iL [g]))),asked:=some (.c 2),symbol:=sy,tests:=te}).loc,μ.set 2 (.live (X++(yM N g T).map zp))):=by
 let ρ:=({x with total:=some (.d (.int T)),told:=some (.c 1),beyond:=some (.d (.list (iL [g]))),asked:=some (.c 2)}:cW).loc
 have a1:aj (a9 9) (a9 11) aT ρ μ=some (.d (.list (iL (N++[g]))),μ):=by
  refine rB (lw _ _) ?_;exact cS (V:=.c 1) (xs:=iL N) (ys:=iL [g]) rfl rfl h1 rfl (aa (by refine rA (xG _) ?_;simp;lia))
 have a2:aV [(kI 255),(kI 256),(ju (kI 256)),(aj (a9 2) (kI 2000) (aS λx y=>some (x-y)))] ρ μ=some (.d (.list (iL [255,256,-256,T-2000])),μ):=
  dG (ds:=iL [255,256,-256,T-2000]) (an rfl (an rfl (an rfl (an (jU (x:=T) (y:=2000) rfl rfl) bW)))) (aa (xF rfl))
 have a3:=cS a1 a2 rfl rfl (aa (by refine rA (xG _) ?_;refine rA (xG _) ?_;simp;lia));rw [lw] at a3
 refine lK (wU ({x with total:=some (.d (.int T)),told:=some (.c 1),beyond:=some (.d (.list (iL [g])))}) (iL (yM N g T)) (yM N g T) X μ x.symbol x.tests hc (by simp [yM];lia)) λsy te e=>?_;refine (jH sy te ?_);unfold r5;refine rA (gI (d6 (V:=.d (.list (iL (yM N g T)))) a3 rfl)) ?_;exact e
noncomputable def uW(m:List Nat)(cs:List Int):List U:=units m cs false (yw 6)++[[92]]
noncomputable def vW(m:List Nat)(cs:List Int):List U:=units m cs true (yw 6)
noncomputable def xT(m:List Nat)(cs:List Int):List Nat:=(units m cs false (yw 6)).flatten
noncomputable def vT(m:List Nat)(cs:List Int):List Nat:=(vW m cs).flatten
theorem re(m:List Nat)(cs:List Int):(xT m cs).length≤60:=(gk m cs false (yw 6)).1
theorem Gj(m:List Nat)(cs:List Int):(vT m cs).length≤60:=(gk m cs true (yw 6)).1
theorem sJ(m:List Nat)(cs:List Int)(sh:Bool):(units m cs sh (yw 6)).length≤30:=hZ m cs sh (yw 6)
theorem al6(x:cW)(m:List Nat)(cs:List Int)(μ:List ah)(hm:m.length=6)(hc:cs.length=6):nS ({x with cells:=some (.d (.list (iL cs))),mates:=some (.d (.list (nL m)))}).loc μ=
  some (.next,({x with cells:=some (.d (.list (iL cs))),mates:=some (.d (.list (nL m))),units:=some (.d (.list (uL (uW m cs))))}).loc,μ):=by
 let ρ:=({x with cells:=some (.d (.list (iL cs))),mates:=some (.d (.list (nL m)))}:cW).loc
 have hl:=sJ m cs false;have h1:af [(af [(kI 6)] cF),(a9 3),(a9 1),(kB false)] bB ρ μ=some (.d (.list (uL (units m cs false (yw 6)))),μ):=
  sZ (V:=.rng 0 6) (V':=.d (.list (nL m))) (V'':=.d (.list (iL cs))) (V3:=.d (.bool false)) rfl rfl rfl rfl (RB hm hc)
 have h2:aV [kS "\\"] ρ μ=some (.d (.list (uL [[92]])),μ):=jR rfl;have h3:=cS h1 h2 rfl rfl (aa (by simp [uL];lia));rw [show uL (units m cs false (yw 6))++uL [[92]]=uL (uW m cs) by simp [uL,uW]] at h3
 unfold nS;exact (bO h3).trans rfl
theorem Cf{X:Type}(xs:List X)(a:X):fA (xs++[a]) none (some (-1))=xs:=by
 have:clipAt (xs++[a]).length (-1)=xs.length:=by
  unfold clipAt
  simp
  lia
 simp only [fA,SG,this,Sn,RS]
 simp
theorem Vl(a b:List U):uL (a++b)=uL a++uL b:=by simp [uL]
theorem Yz:aL (ju (kI 1)) ρ μ=some (some (-1),μ):=dD rfl
theorem ak8(x:cW)(m:List Nat)(cs:List Int)(μ:List ah):oc ({x with units:=some (.d (.list (uL (uW m cs))))}).loc μ=
  some (.next,({x with units:=some (.d (.list (uL (uW m cs)))),text:=some (.d (.str (tS (xT m cs))))}).loc,μ):=by
 let ρ:=({x with units:=some (.d (.list (uL (uW m cs))))}:cW).loc
 have hl:=sJ m cs false;have hx:=re m cs;have h1:cc (a9 15) ba (aL (ju (kI 1))) ρ μ=some (.d (.list (uL (units m cs false (yw 6)))),μ):=by
  have:=f6 (f:=a9 15) (p:=ba) (q:=aL (ju (kI 1))) (ρ:=ρ) (μ:=μ) (xs:=uL (uW m cs)) (lo:=none) (hi:=some (-1)) rfl rfl Yz (aa (by simp [uL,uW];lia))
  refine rA this ?_;rw [uW];refine rA (Vl _ _) ?_;exact congrArg (λl=>some (AV.d (.list l),μ)) (Cf _ _)
 unfold oc;exact (bO (mj h1 rfl (by unfold xT at hx;lia))).trans rfl
theorem ao1(x:cW)(m:List Nat)(cs:List Int)(μ:List ah)(hm:m.length=6)(hc:cs.length=6):nT ({x with cells:=some (.d (.list (iL cs))),mates:=some (.d (.list (nL m)))}).loc μ=
  some (.next,({x with cells:=some (.d (.list (iL cs))),mates:=some (.d (.list (nL m))),shorn:=some (.d (.str (tS (vT m cs))))}).loc,μ):=by
 let ρ:=({x with cells:=some (.d (.list (iL cs))),mates:=some (.d (.list (nL m)))}:cW).loc
 have hx:=Gj m cs;have h1:af [(af [(kI 6)] cF),(a9 3),(a9 1),(kB true)] bB ρ μ=some (.d (.list (uL (vW m cs))),μ):=
  sZ (V:=.rng 0 6) (V':=.d (.list (nL m))) (V'':=.d (.list (iL cs))) (V3:=.d (.bool true)) rfl rfl rfl rfl (RB hm hc)
 unfold nT;exact (bO (mj h1 rfl (by unfold vT at hx;lia))).trans rfl
theorem mc{a b:List Nat}(hf:f ρ μ=some (.d (.str (tS a)),μ))(hg:g ρ μ=some (.d (.str (tS b)),μ))(hz:a.length+b.length≤100000):aj f g aT ρ μ=some (.d (.str (tS (a++b))),μ):=by
 refine pS hf hg ((f5 (rfl:jJ (.d (.str (tS a)))=none)).trans ((oO (rfl:mz (.d (.str (tS a)))=some _) (rfl:mz (.d (.str (tS b)))=some _)).trans ((if_pos (by rw [eA,eA];exact aa hz)).trans (congrArg (λz=>some (AV.d (.str z),μ)) ?_))));apply UP;refine rA (P4 _ _) ?_
 simp [tS]
theorem GJ{spec:iW}{g:Option Nat}(h:b_ fs spec ρ μ=some (xs,g,μ1))(hz:xs.length≤sizeLine):xP fs spec ρ μ=some (.d (.list xs),μ1):=by
 exact aD h λVs μ2 e1 h=>(b5 e1).trans ((b5 h).trans (if_pos hz))
theorem TX{a:List Nat}(hf:f ρ μ=some (.d (.str (tS a)),μ))(hz:a.length≤100000):af [f] dz ρ μ=some (.d (.int a.length),μ):=by
 refine d4 hf ?_;exact (len_str (by rw [eA];exact aa hz)).trans (by rw [eA])
theorem uP:∀ (us:List U) (k:Nat),(l6 k us).length=us.length
 | [],_=>rfl
 |u::us,k=>by simp [l6,uP us]
noncomputable def Iq(us:List U):PyData→PyData
 | .tuple [.int k,u]=>.tuple [.int (((us.take (k.toNat+1)).flatten.length:Int)-1),u]
 |x=>x
theorem IL{us:List U}{u:PyData}:Iq us (.tuple [.int k,u])=.tuple [.int (((us.take (k+1)).flatten.length:Int)-1),u]:=rfl
theorem BK:∀ (us pre:List U),(cL pre.length (uL us)).map (Iq (pre++us))=l6 pre.flatten.length us
 | [],pre=>rfl
 |u::us,pre=>by
  have ih:=BK us (pre++[u]);rw [be,E9,Lx,be] at ih
  simp only [AO,EQ,RK,Gv,LH,DB,Ln] at ih
  refine (?_:Iq (pre++u::us) (.tuple [.int (pre.length:Nat),uS u])::(cL (pre.length+1) (uL us)).map (Iq (pre++u::us))=_);refine rA ih ?_;rw [l6]
  congr 1
  have ht:(pre++u::us).take (pre.length+1)=pre++[u]:=by
   refine rA List.take_append ?_;refine rA (F7 (by lia)) ?_
   simp
  simp only [IL,ht,Lx,be,Gv,LH,DB]
theorem sB:∀ (us:List U) (k:Nat) {x:PyData},x∈cL k (uL us)→∃ (i:Nat) (u:U),i<us.length∧x=.tuple [.int ((k+i:Nat):Int),uS u]
 | [],_,_,h=>by cases h
 |u::us,k,x,h=>by
  rcases Ch.mp h with rfl|h
  ·exact (fS 0 u (by simp) rfl)
  ·refine kv (sB us (k+1) h) λi v hi e=>?_
   refine (fS (i+1) v (by simp;lia) ?_);refine rA e ?_;exact rA (show k+1+i=k+(i+1) by lia) rfl
theorem ZM(m:List Nat)(cs:List Int):WF (uW m cs):=(dw _ ([[92]]) rfl (lW m cs false (yw 6)) (.inr rfl))
theorem B0(m:List Nat)(cs:List Int):(uW m cs).flatten=xT m cs++[92]:=by simp [uW,xT]
noncomputable def NU(m:List Nat)(cs:List Int):PyData:=.list (l6 0 (uW m cs))
theorem an8(m:List Nat)(cs:List Int):∀u∈uW m cs,∀c∈u,c<128:= λu hu c hc=>by
 rcases AA.mp hu with h|h
 ·exact tn m cs false _ u h c hc
 ·simp only [yA] at h
  subst h;simp only [yA] at hc
  lia
theorem A_:∀ (us:List U) (k:Nat),(∀u∈us,∀c∈u,c<128)→∀x∈l6 k us,pg 1 x
 | [],_,_,_,h=>by cases h
 |u::us,k,hu,x,h=>by
  rcases Ch.mp h with rfl|h
  ·refine CP λy hy=>?_
   simp only [Ch,DM,or_false] at hy
   rcases hy with rfl|rfl
   ·exact B_
   ·exact im (hu u (by simp))
  ·exact A_ us _ (λv hv=>hu v (by simp [hv])) x h
theorem CN(us:List U)(k:Nat):(us.take k).flatten.length≤us.flatten.length:=by
 conv=>rhs;rw [←LM k us]
 rw [Lx,be];lia
noncomputable def mA(m:List Nat)(cs:List Int):PyData:=.tuple [NU m cs,NU m cs]
theorem JZ(m:List Nat)(cs:List Int):Good (mA m cs):=dP (n:=2) (gC (A_ _ _ (an8 m cs))) (by decide)
theorem am9(x:cW)(m:List Nat)(cs:List Int)(X:List PyData)(μ:List ah)(hc:μ[2]? =some (.live X))(hz:X.length≤1000):n4 ({x with asked:=some (.c 2),units:=some (.d (.list (uL (uW m cs)))),text:=some (.d (.str (tS (xT m cs))))}).loc μ=
  some (.next,({x with asked:=some (.c 2),units:=some (.d (.list (uL (uW m cs)))),text:=some (.d (.str (tS (xT m cs))))}).loc,μ.set 2 (.live (X++[mA m cs]))):=by
 let ρ:=({x with asked:=some (.c 2),units:=some (.d (.list (uL (uW m cs)))),text:=some (.d (.str (tS (xT m cs))))}:cW).loc
 have hl:=sJ m cs false;have hx:=re m cs;have hwl:(uW m cs).length≤31:=by simp [uW];lia
 have hwf:(uW m cs).flatten.length≤61:=by refine rA (B0 _ _) ?_;simp;lia
 have h1:aj (a9 16) (kS "\\") aT ρ μ=some (.d (.str (tS (uW m cs).flatten)),μ):=by
  refine rA (B0 _ _) ?_;exact mc (b:=[92]) rfl rfl (by simp;lia)
 have h2:=GJ (oX h1 (ZM m cs)) (by refine rA (uP _ _) ?_;exact aa (by lia));have hcm:=sP (sc:=uk) (itf:=b_ [(a9 15)] g9) (e:=(cX [(aj (af [(dv (kS "") [(cc (a9 15) ba (aL (aj (a9 31) (kI 1) aT)))] fc)] dz) (kI 1) (aS λx y=>some (x-y))),(a9 32)])) (ρ:=ρ) (μ:=μ) 31 32 (by decide) (Iq (uW m cs))
  (km (V:=.d (.list (uL (uW m cs)))) rfl rfl) (az _ _) (λy hy=>by
   refine kv (sB (uW m cs) 0 hy) λi u hi zq3=>?_;subst zq3;refine (fS _ _ rfl ?_);refine rA (Ln _) ?_
   let ρ1:d0:=((bG uk ρ).set 31 (some (.d (.int (i:Int))))).set 32 (some (.d (uS u)))
   have a0:aL (aj (a9 31) (kI 1) aT) ρ1 μ=some (some ((i+1:Nat):Int),μ):=dD (cR (x:=i) (y:=1) rfl rfl);have a1:cc (a9 15) ba (aL (aj (a9 31) (kI 1) aT)) ρ1 μ=some (.d (.list (uL ((uW m cs).take (i+1)))),μ):=by
    have:=f6 (f:=a9 15) (p:=ba) (ρ:=ρ1) (μ:=μ) (xs:=uL (uW m cs)) (lo:=none) rfl rfl a0 (aa (by simp [uL];lia))
    refine rA this ?_;refine rA (p7 _ (by simp [uL];lia)) ?_;simp only [uL,R5]
   have hf:=CN (uW m cs) (i+1);have a2:=TX (mj a1 rfl (by lia)) (by lia);have a3:=jU a2 (rfl:kI 1 ρ1 μ=some (.d (.int 1),μ));refine (d7 (ds:=[.int ((((uW m cs).take (i+1)).flatten.length:Int)-1),uS u]) (an a3 (an rfl bW)) (aa (xF rfl))).trans ?_;simp only [IL]) (by refine rA (iA _ _) ?_;exact aa (by simp [uL];lia))
 have e:=BK (uW m cs) [];simp only [EQ,Lc,LH] at e
 rw [e] at hcm
 have h3:=d7 (ds:=[NU m cs,NU m cs]) (an h2 (an (bY hcm) bW)) (aa (xF rfl));unfold n4;exact nA rfl h3 hc (by lia)
theorem ac9(m:List Nat)(cs:List Int):WF (units m cs false (yw 6)):=mn m cs false _
theorem Ir(m:List Nat)(cs:List Int)(t:List U)(ht:t.all wf=true):WF (units m cs false (yw 6)++t):=(dw _ ([]) ((DB _).symm) (by refine rA RT ?_;refine rA (lW _ _ _ _) ?_;refine rA ht ?_;rfl) (.inl rfl))
noncomputable def mM(m:List Nat)(cs:List Int):PyData:=.tuple [.list [.str (tS (vT m cs)),.str (tS (vT m cs++[34,40]))],.list [.str (tS (vT m cs)),.str (tS (vT m cs++[34,40]))]]
theorem Ii(m:List Nat)(cs:List Int):Good (mM m cs):=dP (n:=1) (gC λx hx=>by
 have:=zX m cs true (yw 6)
 simp only [Ch,DM,or_false] at hx
 rcases hx with rfl|rfl
 ·exact im this
 ·refine im λc hc=>?_
  rcases AA.mp hc with h|h
  ·exact this c h
  ·simp only [Ch,DM,or_false] at h
   lia) (by decide)
theorem am1(x:cW)(m:List Nat)(cs:List Int)(X:List PyData)(μ:List ah)(hc:μ[2]? =some (.live X))(hz:X.length≤1000):ny ({x with asked:=some (.c 2),text:=some (.d (.str (tS (xT m cs)))),shorn:=some (.d (.str (tS (vT m cs))))}).loc μ=
  some (.next,({x with asked:=some (.c 2),text:=some (.d (.str (tS (xT m cs)))),shorn:=some (.d (.str (tS (vT m cs))))}).loc,μ.set 2 (.live (X++[mM m cs]))):=by
 let ρ:=({x with asked:=some (.c 2),text:=some (.d (.str (tS (xT m cs)))),shorn:=some (.d (.str (tS (vT m cs))))}:cW).loc
 have hl:=sJ m cs false;have hx:=re m cs;have hv:=Gj m cs;have h1:af [(a9 16)] aM ρ μ=some (.d (.str (tS (vT m cs))),μ):=by
  refine d4 (V:=.d (.str (tS (xT m cs)))) rfl ?_;refine (s2 (ac9 m cs) (by unfold xT at hx;lia) (by lia)).trans ?_
  have:=gA m cs [] (yw 6)
  rw [DB] at this
  refine rA this ?_
  simp [clean,vT,vW]
 have h2:af [(aj (a9 16) (kS "\"(") aT)] aM ρ μ=some (.d (.str (tS (vT m cs++[34,40]))),μ):=by
  have hf:(units m cs false (yw 6)++[[34],[40]]).flatten=xT m cs++[34,40]:=by simp [xT]
  have a1:aj (a9 16) (kS "\"(") aT ρ μ=some (.d (.str (tS (units m cs false (yw 6)++[[34],[40]]).flatten)),μ):=by
   refine rA hf ?_;exact mc (b:=[34,40]) rfl rfl (by simp;lia)
  refine d4 a1 ?_;refine (s2 (Ir m cs [[34],[40]] (by decide)) (by refine rA hf ?_;simp;lia) (by simp;lia)).trans ?_;refine rA (gA m cs [[34],[40]] (yw 6)) ?_
  simp [clean,vT,vW]
 have h3:aj (a9 17) (kS "\"(") aT ρ μ=some (.d (.str (tS (vT m cs++[34,40]))),μ):=mc (b:=[34,40]) rfl rfl (by simp;lia);have l1:=dG (ds:=[.str (tS (vT m cs)),.str (tS (vT m cs++[34,40]))]) (an h1 (an h2 bW)) (aa (xF rfl));have l2:=dG (ρ:=ρ) (μ:=μ) (fs:=[a9 17,aj (a9 17) (kS "\"(") aT]) (ds:=[.str (tS (vT m cs)),.str (tS (vT m cs++[34,40]))]) (an rfl (an h3 bW)) (aa (xF rfl));have h4:=d7 (ds:=[.list [.str (tS (vT m cs)),.str (tS (vT m cs++[34,40]))],.list [.str (tS (vT m cs)),.str (tS (vT m cs++[34,40]))]]) (an l1 (an l2 bW)) (aa (xF rfl));unfold ny;exact nA rfl h4 hc (by lia)
noncomputable def pU(u:U):Bool:=decide (u=[40])||decide (u=[41])
noncomputable def fU(u:U):Int:=if u=[40] then 7 else 8
noncomputable def pD:PyData→Bool
 | .tuple [_,.str x]=>pU x.cps.toList
 |_=>false
noncomputable def fD:PyData→PyData
 | .tuple [_,.str x]=>.int (fU x.cps.toList)
 |x=>x
theorem VQ{a:PyData}{u:U}:pD (.tuple [a,uS u])=pU u:=congrArg pU (fR u)
theorem Z8{a:PyData}{u:U}:fD (.tuple [a,uS u])=.int (fU u):=congrArg (λx=>EU (fU x)) (fR u)
theorem Br:∀ (us:List U) (k:Nat) {x:PyData},x∈l6 k us→∃ (n:Int) (u:U),u∈us∧x=.tuple [.int n,uS u]
 | [],_,_,h=>by cases h
 |u::us,k,x,h=>by
  rcases Ch.mp h with rfl|h
  ·exact (fS _ u (by simp) rfl)
  ·refine kv (Br us _ h) λn v hv e=>?_
   exact (fS n v (by simp [hv]) e)
theorem Cg:∀ (us:List U) (k:Nat),((l6 k us).filter pD).map fD=iL ((us.filter pU).map fU)
 | [],_=>rfl
 |u::us,k=>by
  have ih:=Cg us (k+u.length);have e1:pD (.tuple [.int ((k+u.length:Nat)-1),uS u])=pU u:=VQ;have e2:fD (.tuple [.int ((k+u.length:Nat)-1),uS u])=.int (fU u):=Z8;rw [l6];refine rA KC ?_;refine rA KC ?_;refine rA e1 ?_
  split
  ·refine rA ET ?_;refine rA ET ?_;refine rA ih ?_;refine rA e2 ?_;rfl
  ·exact ih
theorem Ou(m:List Nat)(cs:List Int)(p:Nat):((eJ m cs true p).filter pU).map fU=[sg m p]:=by
 have hq:=ZJ (js cs p);unfold eJ;generalize iG cs p=q at*
 unfold s_ sg
 by_cases h:p<m.getD p 0
 ·refine rA (if_pos h) ?_;refine rA (if_pos h) ?_
  rcases hq with rfl|rfl|rfl|rfl|rfl|rfl|rfl<;>decide
 ·refine rA (if_neg h) ?_;refine rA (if_neg h) ?_
  rcases hq with rfl|rfl|rfl|rfl|rfl|rfl|rfl<;>decide
theorem sb(m:List Nat)(cs:List Int):∀pl:List Nat,((units m cs true pl).filter pU).map fU=pl.map (sg m)
 | []=>rfl
 |p::pl=>by
  have ih:=sb m cs pl;unfold units at ih⊢
  refine rA Fb ?_;refine rA (KR _ _) ?_;refine rA Jz ?_;refine rA ih ?_;refine rA (Ou _ _ _) ?_;rfl
theorem GU(u v:U):(tS v==tS u)=decide (u=v):=by
 by_cases h:u=v
 ·subst h;simp
 ·refine rA (decide_eq_false h) ?_;refine rA (propext (beq_eq_false_iff_ne)) ?_
  intro q
  have:=congrArg (λs:Str=>s.cps.toList) q
  simp [tS] at this
  exact h this.symm
theorem Sz{u:U}(hu:∀c∈u,c<128)(μ:List ah):XC (.d (uS u)) (.d (.list [.str (tS [40]),.str (tS [41])])) μ=some (pU u):=by
 have hs:RU (uS u)=true:=(im hu:pg 0 (.str (tS u))).shaped (by decide)
 show (if KX [.str (tS [40]),.str (tS [41])]=true∧RU (uS u)=true then some (([.str (tS [40]),.str (tS [41])]:List PyData).any λy=>Mq y (uS u)) else none)=_
 have hl:KX [.str (tS [40]),.str (tS [41])]=true:=(kK (n:=0) (xs:=[.str (tS [40]),.str (tS [41])]) λx hx=>by
  simp only [Ch,DM,or_false] at hx
  rcases hx with rfl|rfl
  ·exact im (by simp)
  ·exact im (by simp)).1
 refine rA (if_pos ⟨hl,hs⟩) ?_;refine (?_:some ((tS [40]==tS u)||((tS [41]==tS u)||false))=_);refine rA (GU _ _) ?_;refine rA (GU _ _) ?_;refine rA (UO _) ?_;rfl
theorem YO{u:U}(h:pU u=true):kc (tS u)=some (fU u):=by
 unfold pU at h
 rw [Px,decide_eq_true_iff,decide_eq_true_iff] at h
 rcases h with rfl|rfl<;>rfl
noncomputable def qN(y:Int):Bool:=decide (0<y)&&decide (y<256)
theorem Zs(h:a9 31 ρ μ=some (.d (.int y),μ)):Bs (kI 0) (a9 31) (kI 256) (ef λx y=>decide (x<y)) (ef λx y=>decide (x<y)) ρ μ=some (qN y,μ):=by
 refine (b5 (rfl:kI 0 ρ μ=some (.d (.int 0),μ))).trans ((b5 h).trans ?_);refine (?_:cond (decide (0<y)) (some (decide (y<256),μ)) (some (false,μ))=some (qN y,μ));unfold qN;cases decide (0<y)<;>rfl
theorem uo(m:List Nat):∀F:Fm,(F.pre m).filter qN=F.pl.map (sg m)
 | .at i=>by
  have:qN (sg m i)=true:=by rcases gG m i with q|q<;>rw [q]<;>decide
  simp [Fm.pre,Fm.pl,this]
 | .bin p l r=>by
  have h1:=uo m l;have h2:=uo m r;have h0:qN (if p then 274 else 272)=false:=by cases p<;>decide
  rw [Fm.pre];refine rA KC ?_;refine rA h0 ?_;refine rA (if_neg HA) ?_;refine rA (KR _ _) ?_;refine rA h1 ?_;refine rA h2 ?_;rw [Fm.pl];exact rA Jz rfl
theorem vG(m:List Nat):∀G:List Fm,(d9 m G).filter qN=(bJ G).map (sg m)
 | []=>rfl
 |F::G=>by refine rA (jg _ _ _) ?_;refine rA (KR _ _) ?_;refine rA (uo _ _) ?_;refine rA (vG m G) ?_;refine rA (b6 _ _) ?_;exact rA Jz rfl
noncomputable def sgs(m:List Nat):List Int:=(yw 6).map (sg m)
noncomputable def mP(m:List Nat):PyData:=.tuple [.list (iL (sgs m)),.list (iL (sgs m))]
theorem FL(m:List Nat):Good (mP m):=dP (n:=1) (rk _) (by decide)
noncomputable def qD:PyData→Bool
 | .int y=>qN y
 |_=>false
theorem YK(l:List Int):((iL l).filter qD).map id=iL (l.filter qN):=by
 induction l with
 |nil=>rfl
 |cons y l ih=>
  have e:qD (.int y)=qN y:=rfl;refine (?_:(((EU y::iL l).filter qD).map id)=_);refine rA KC ?_;refine rA KC ?_;refine rA e ?_
  split
  ·refine rA ET ?_;refine rA ih ?_;rfl
  ·exact ih
theorem am7(x:cW)(m:List Nat)(cs:List Int)(G:List Fm)(X:List PyData)(μ:List ah)(hG:bJ G=F6 0 6)(hg:(d9 m G).length≤100)(hc:μ[2]? =some (.live X))(hz:X.length≤1000):nB ({x with numbers:=some (.d (.list (iL (d9 m G++[0])))),asked:=some (.c 2),shorn:=some (.d (.str (tS (vT m cs))))}).loc μ=
  some (.next,({x with numbers:=some (.d (.list (iL (d9 m G++[0])))),asked:=some (.c 2),shorn:=some (.d (.str (tS (vT m cs))))}).loc,μ.set 2 (.live (X++[mP m]))):=by
 let ρ:=({x with numbers:=some (.d (.list (iL (d9 m G++[0])))),asked:=some (.c 2),shorn:=some (.d (.str (tS (vT m cs))))}:cW).loc
 have hl:=sJ m cs true;have c1:=qf (sc:=yD) (itf:=b_ [(a9 17)] aE) (t:=bC (a9 32) (aV [(kS "("),(kS ")")]) XC) (e:=jF kc (a9 32)) (ρ:=ρ) (μ:=μ) 31 32 (by decide) pD fD
  (oX (f:=a9 17) (vs:=vW m cs) rfl (mn m cs true _)) (az _ _) (λy hy=>by
   refine kv (Br _ _ hy) λn u hu zq3=>?_;subst zq3;have huc:=tn m cs true _ u hu;refine (dw _ _ rfl ?_ ?_)
   ·refine (dF (V:=.d (uS u)) rfl (dG (ds:=[.str (tS [40]),.str (tS [41])]) rfl (aa (xF rfl))) (Sz huc _)).trans ?_
    refine rA VQ ?_;rfl
   ·intro h
    have h':pU u=true:=VQ.symm.trans h;refine (?_:bo (kc (tS u)) (λi=>some (AV.d (.int i),μ))=_);refine (bV (YO h')).trans ?_;refine rA Z8 ?_;rfl) (by refine rA (uP _ _) ?_;exact aa (by unfold vW;lia))
 rw [Cg,show vW m cs=units m cs true (yw 6) from rfl,sb] at c1
 have c2:=jh (sc:=y7) (itf:=aK false (a9 4)) (t:=Bs (kI 0) (a9 31) (kI 256) (ef λx y=>decide (x<y)) (ef λx y=>decide (x<y))) (e:=a9 31) (ρ:=ρ) (μ:=μ) (g:=none) (xs:=iL (d9 m G++[0])) 31 qD id
  (d6 (V:=.d (.list (iL (d9 m G++[0])))) rfl rfl) (az _ _) (λy hy=>by
   refine au (DG.mp hy) λz zz zq2=>?_;subst zq2;exact Zs rfl) (λzz zz zz=>rfl) (by refine rA (xG _) ?_;refine rA be ?_;exact aa (by simp;lia))
 rw [YK,KR,vG,hG] at c2
 have e0:([0]:List Int).filter qN=[]:=by decide
 rw [e0,DB,←Lj] at c2
 have h:=d7 (ds:=[.list (iL (sgs m)),.list (iL (sgs m))]) (an (bY c1) (an (bY c2) bW)) (aa (xF rfl));unfold nB;exact nA rfl h hc (by lia)
theorem N6{k:EF}{a b:PyData}(h1:f ρ μ=some (.d a,μ))(h2:g ρ μ=some (.d b,μ))(h3:k ρ μ=some (.c μ.length,μ++[.live xs])):aV [f,g,k] ρ μ=some (.d (.list [a,b,.list xs]),μ++[.frozen xs]):=by
 exact (T_ (an h1 (zc h2 h3)) (fE rfl (fE rfl (fE (qo dp) rfl))) (aa (xF rfl))).trans (by rw [fh])
theorem Ug{X1:List PyData}(h0:a9 12 ρ μ=some (.c 2,μ))(hf:f ρ μ=some (.d d,μ1))(hc0:μ[2]? =some (.live X1))(hc:μ1[2]? =some (.live X))(hz:X.length≤100000):ci (d_ (a9 12) f) ρ μ=some (.next,ρ,μ1.set 2 (.live (X++[d]))):=by
 refine eB ?_;exact (b5 h0).trans ((bV (eP hc0)).trans ((b5 hf).trans ((b5 (rfl:w5 (.d d) μ1=some (d,μ1))).trans ((bV hc).trans (if_pos (aa hz))))))
noncomputable def HK:((yw 5).all λi=>r_ (aH.getD i []) 0 (yw 6)==some 0&&bk (aH.getD i []) (yw 6))=true:=by decide
theorem C9(hi:i<5):r_ (aH.getD i []) 0 (yw 6)=some 0∧bk (aH.getD i []) (yw 6)=true:=by
 have:=Bb.mp HK i (D3.mpr hi)
 rw [EZ,beq_iff_eq] at this
 exact this
theorem Ck(t:List U)(hb:r_ m 0 (yw 6)=some 0)(hw:WF (units m cs false (yw 6)++t))(ht:t.flatten.length≤100)(ht2:t.length≤100)(b:Bool)(h:(match mI 0 (clean none t) with|some k=>k==0|none=>false)=b)(h0:f ρ μ=some (.d (.str (tS (xT m cs++t.flatten))),μ)):af [f] aq ρ μ=some (.d (.bool b),μ):=by
 have hl:=sJ m cs false;have hx:=re m cs;have hf:(units m cs false (yw 6)++t).flatten=xT m cs++t.flatten:=by simp [xT]
 rw [←hf] at h0
 refine d4 h0 ((s3 hw (by refine rA hf ?_;refine rA be ?_;lia) (by refine rA be ?_;lia)).trans ?_);have e1:=gA m cs t (yw 6);have e2:=nr m cs (clean none t) (yw 6) 0;rw [hb] at e2
 dsimp only at e2
 have:LL (units m cs false (yw 6)++t)=b:=by
  unfold LL;refine rA e1 ?_;refine rA e2 ?_;exact h
 exact rA this rfl
noncomputable def k9:PyData:=.tuple [.list [.bool true,.bool true,.list []],.list [.bool true,.bool true,.list []]]
theorem Hm:Good k9:=dP (n:=2) (gC λx hx=>by
 simp only [Ch,DM,or_false] at hx
 rcases hx with rfl|rfl|rfl
 ·exact jb
 ·exact jb
 ·exact gC (λzz h=>by cases h)) (by decide)
theorem al3(x:cW)(m:List Nat)(cs:List Int)(X:List PyData)(μ:List ah)(hb:r_ m 0 (yw 6)=some 0)(hc:μ[2]? =some (.live X))(hz:X.length≤1000):nY ({x with asked:=some (.c 2),text:=some (.d (.str (tS (xT m cs))))}).loc μ=
  some (.next,({x with asked:=some (.c 2),text:=some (.d (.str (tS (xT m cs))))}).loc,μ.set 2 (.live (X++[k9]))++[.frozen []]):=by
 let ρ:=({x with asked:=some (.c 2),text:=some (.d (.str (tS (xT m cs))))}:cW).loc
 have hx:=re m cs;have a1:aj (a9 16) (kS "\"()\\") aT ρ μ=some (.d (.str (tS (xT m cs++[34,40,41,92]))),μ):=mc (b:=[34,40,41,92]) rfl rfl (by simp;lia);have a2:aj (a9 16) (kS "\"(") aT ρ μ=some (.d (.str (tS (xT m cs++[34,40]))),μ):=mc (b:=[34,40]) rfl rfl (by simp;lia);have w1:WF (units m cs false (yw 6)++[[34],[40],[41],[92]]):=(dw (units m cs false (yw 6)++[[34],[40],[41]]) ([[92]]) (by simp) (by refine rA RT ?_;refine rA (lW _ _ _ _) ?_;rfl) (.inr rfl));have b1:=isB (Ck [[34],[40],[41],[92]] hb w1 (by simp) (by simp) true (by decide) a1) (rfl:kB true ρ μ=some (.d (.bool true),μ));have b2:=isB (Ck [[34],[40]] hb (Ir m cs [[34],[40]] (by decide)) (by simp) (by simp) false (by decide) a2) (rfl:kB false ρ μ=some (.d (.bool false),μ));have b3:af [(aV [])] aX ρ μ=some (.c μ.length,μ++[.live []]):=d4 tu (s4 (vss:=[]) (λzz h=>by cases h) (by simp));have l1:=N6 b1 b2 b3;have l2:aV [(kB true),(kB true),(aV [])] ρ (μ++[.frozen []])=some (.d (.list [.bool true,.bool true,.list []]),μ++[.frozen []]):=dG (ds:=[.bool true,.bool true,.list []]) (an rfl (an rfl (an tu bW))) (aa (xF rfl));have h:cX [(aV [(dY (af [(aj (a9 16) (kS "\"()\\") aT)] aq) (kB true) L6),(dY (af [(aj (a9 16) (kS "\"(") aT)] aq) (kB false) L6),(af [(aV [])] aX)]),(aV [(kB true),(kB true),(aV [])])] ρ μ=some (.d k9,μ++[.frozen []]):=by
  exact Hx (zc l1 l2) (tU [.list [.bool true,.bool true,.list []],.list [.bool true,.bool true,.list []]]) (aa (xF rfl))
 have hlt:2<μ.length:=(BJ.mp hc).1;unfold nY;refine (Ug (X:=X) rfl h hc (by rw [EY hlt];exact hc) (by lia)).trans ?_;exact rA (Sb _ _ hlt) rfl
theorem zV:∀F:Fm,PU F+1≤F.pl.length
 | .at _=>DI 1
 | .bin p l r=>by
  have h1:=zV l;have h2:=zV r;rw [PU,Fm.pl];refine rA be ?_;cases p<;>simp<;>lia
theorem H9:∀G:List Fm,jj G≤(bJ G).length
 | []=>DI 0
 |F::G=>by
  have h1:=zV F;have h2:=H9 G;refine rA (qM _ _) ?_;refine rA (b6 _ _) ?_;refine rA be ?_;lia
theorem Bg{G:List Fm}(h:a9 10 ρ μ=some (.d (.list (bi m G++[J1 []])),μ))(hz:G.length≤100):cc (a9 10) ba (aL (ju (kI 1))) ρ μ=some (.d (.list (bi m G)),μ):=by
 have:=f6 (f:=a9 10) (p:=ba) (q:=aL (ju (kI 1))) (ρ:=ρ) (μ:=μ) (lo:=none) (hi:=some (-1)) h rfl Yz (aa (by simp [bi];lia))
 refine rA this ?_;exact congrArg (λl=>some (AV.d (.list l),μ)) (Cf _ _)
theorem ak3(x:cW)(i:Nat)(cs:List Int)(G:List Fm)(X:List PyData)(μ:List ah)(hi:i<5)(hcs:cs.length=6)(hG:bJ G=F6 0 6)(hc:μ[2]? =some (.live X))(hz:X.length≤1000):∃Y,(∀x∈Y,Good x)∧Y.length≤300∧
  o8 ({x with cells:=some (.d (.list (iL cs))),mates:=some (.d (.list (nL (aH.getD i [])))),read:=some (.d (.list (bi (aH.getD i []) G++[J1 []]))),asked:=some (.c 2)}).loc μ=
  some (.next,({x with cells:=some (.d (.list (iL cs))),mates:=some (.d (.list (nL (aH.getD i [])))),read:=some (.d (.list (bi (aH.getD i []) G++[J1 []]))),asked:=some (.c 2),proof:=some (.d (.bool (pr (aH.getD i []) 12 G)))}).loc,μ.set 2 (.live (X++Y))):=by
 let ρ:=({x with cells:=some (.d (.list (iL cs))),mates:=some (.d (.list (nL (aH.getD i [])))),read:=some (.d (.list (bi (aH.getD i []) G++[J1 []]))),asked:=some (.c 2)}:cW).loc
 have hs:bJ G=yw 6:=by refine rA hG ?_;exact rA Lj rfl
 have hl:=fx G;have h6:(bJ G).length=6:=by refine rA hs ?_;rfl
 have hst:=H9 G;refine cn (s70 (cs:=cs) (ja:=2) hi hcs 12 G μ X hc (by refine rA hs ?_;exact QE _) (by refine rA hs ?_;exact (C9 hi).2) (by lia) (by lia)) λY h1 h2 h3=>?_;refine (cJ Y h1 (by lia) ?_);have r1:=Bg (m:=aH.getD i []) (G:=G) (ρ:=ρ) (μ:=μ) rfl (by lia);unfold o8;have hcall:af [(cc (a9 10) ba (aL (ju (kI 1)))),(a9 3),(a9 1),(a9 12)] aO ρ μ=some (.d (.bool (pr (aH.getD i []) 12 G)),μ.set 2 (.live (X++Y))):=sZ (V':=.d (.list (nL (aH.getD i [])))) (V'':=.d (.list (iL cs))) (V3:=.c 2) r1 rfl rfl rfl h3;exact (bO hcall).trans rfl
theorem an0(x:cW)(μ:List ah):n0 x.loc μ=some (.next,({x with joins:=some (.c μ.length)}).loc,μ++[.live []]):=by
 unfold n0;exact (bO xf).trans rfl
theorem qq(x:cW)(m:List Nat)(xs:List PyData):∀ (G:List Fm) (J:List Jn) (μ:List ah) (w:Option AV),μ[j]? =some (.live (jL J))→(bJ G).length≤12→J.length+(eE G J.length).length≤1000→∃w',
  fN (du 20) (ap (ci (af [(a9 20),(a9 19)] aW)) aP) aP none xs (bi m G) ({x with joins:=some (.c j),formula:=w}).loc μ=
   some (.next,({x with joins:=some (.c j),formula:=w'}).loc,μ.set j (.live (jL (J++eE G J.length))))
 | [],J,μ,w,hc,_,_=>⟨w,by
  refine rA (DB _) ?_;refine rA (eD hc) ?_;rfl⟩
 |F::G,J,μ,w,hc,h12,hz=>by
  have hlt:j<μ.length:=(BJ.mp hc).1;rw [b6,be] at h12
  rw [sq,be] at hz
  have hh:=AU F;have e:=s71 m F 12 μ J (by lia) hc (by lia);refine bP (qq x m xs G (J++(gr F J.length).2) (μ.set j (.live (jL (J++(gr F J.length).2)))) (some (.d (F.enc m))) (cz hlt) (by lia) (by refine rA be ?_;lia)) λw' ih=>?_;refine ⟨w',?_⟩;have b:(ap (ci (af [(a9 20),(a9 19)] aW)) aP) ({x with joins:=some (.c j),formula:=some (.d (F.enc m))}:cW).loc μ=some (.next,({x with joins:=some (.c j),formula:=some (.d (F.enc m))}:cW).loc,μ.set j (.live (jL (J++(gr F J.length).2)))):=
   (aB (Te (iV (V:=.d (F.enc m)) (V':=.c j) rfl rfl e))).trans bK
  refine (dK (ρ1:=({x with joins:=some (.c j),formula:=some (.d (F.enc m))}:cW).loc) rfl b (az _ _)).trans (ih.trans ?_);refine rA (I9 _) ?_;refine rA be ?_;refine rA (E9 _ _ _) ?_;rfl
theorem ao5(x:cW)(m:List Nat)(G:List Fm)(j:Nat)(μ:List ah)(hc:μ[j]? =some (.live []))(hG:bJ G=F6 0 6):∃w,nq ({x with read:=some (.d (.list (bi m G++[J1 []]))),joins:=some (.c j)}).loc μ=
  some (.next,({x with read:=some (.d (.list (bi m G++[J1 []]))),joins:=some (.c j),formula:=w}).loc,μ.set j (.live (jL (eE G 0)))):=by
 have h6:(bJ G).length=6:=by refine rA hG ?_;rfl
 have hl:=fx G;have hg:=kR G 0;refine bP (qq ({x with read:=some (.d (.list (bi m G++[J1 []])))}) m (bi m G) G [] μ x.formula hc (by lia) (by simp;lia)) λw e=>?_;refine ⟨w,?_⟩;unfold nq;refine rA (gI (d6 (V:=.d (.list (bi m G))) (Bg (m:=m) (G:=G) rfl (by lia)) rfl)) ?_;exact e
noncomputable def pJ:PyData→Bool
 | .tuple (.int n::_)=>n==18
 |_=>false
theorem J6(y:Jn):pJ y.enc=y.par:=by
 unfold Jn.enc pJ;cases y.par<;>rfl
theorem Ui(J:List Jn):((jL J).filter pJ).map id=jL (J.filter (·.par)):=by
 refine rA (List.map_id _) ?_;rw [jL];refine rA OF ?_
 have:(pJ∘Jn.enc)= λy:Jn=>y.par:=funext J6
 refine rA this ?_;rfl
theorem ab4{y:Jn}(hf:f ρ μ=some (.d y.enc,μ)):aF f (kI 0) ρ μ=some (.d (.int (if y.par then 18 else 16)),μ):=cH (k:=0) hf rfl rfl (by decide) rfl (aa (xF rfl))
theorem ZT{y:Jn}(hf:f ρ μ=some (.d y.enc,μ)):aF f (kI 1) ρ μ=some (.d (.int y.nd),μ):=cH (k:=1) hf rfl rfl (by decide) rfl (aa (xF rfl))
theorem al5{y:Jn}(hf:f ρ μ=some (.d y.enc,μ)):aF f (kI 2) ρ μ=some (.d (.int y.a),μ):=cH (k:=2) hf rfl rfl (by decide) rfl (aa (xF rfl))
theorem aj7{y:Jn}(hf:f ρ μ=some (.d y.enc,μ)):aF f (kI 3) ρ μ=some (.d (.int y.b),μ):=cH (k:=3) hf rfl rfl (by decide) rfl (aa (xF rfl))
theorem an9(x:cW)(J:List Jn)(j:Nat)(μ:List ah)(hc:μ[j]? =some (.live (jL J)))(hJ:J.length≤1000):mT ({x with joins:=some (.c j)}).loc μ=
  some (.next,({x with joins:=some (.c j),forks:=some (.d (.list (jL (J.filter (·.par)))))}).loc,μ):=by
 let ρ:=({x with joins:=some (.c j)}:cW).loc
 have hp:da μ (.c j)=some (jL J):=eP hc;have hcm:=jh (sc:=xV) (itf:=aK false (a9 19)) (t:=bC (aF (a9 31) (kI 0)) (kI 18) dH) (e:=a9 31) (ρ:=ρ) (μ:=μ) (g:=Fh (.c j)) (xs:=jL J) 31 pJ id (d6 (V:=.c j) rfl hp) (pt hp) (λy hy=>by
  refine au (DG.mp hy) λz zz zq2=>?_;subst zq2;refine (o4 (y:=18) (ab4 rfl) rfl).trans ?_;refine rA (J6 _) ?_;cases z.par<;>rfl) (λzz zz zz=>rfl) (by rw [jL];refine rA (xG _) ?_;exact aa (by lia))
 rw [Ui] at hcm
 unfold mT;refine rA (jv hcm) ?_;rfl
noncomputable def G7:PyData→PyData
 | .tuple [.int a,.int b]=>.int (if b<a then b else a)
 |x=>x
theorem GA:∀ (l:List Nat) (k:Nat),(cL k (nL l)).map G7=nL ((yw l.length).map λi=>min (k+i) (l.getD i 0))
 | [],_=>rfl
 |a::l,k=>by
  have ih:=GA l (k+1);refine (?_:G7 (.tuple [.int (k:Nat),.int (a:Nat)])::(cL (k+1) (nL l)).map G7=_);refine rA ih ?_;refine rA AO ?_;refine rA LA ?_;refine rA ET ?_;refine rA ER ?_;have e0:G7 (.tuple [.int (k:Nat),.int (a:Nat)])=.int ((min (k+0) ((a::l).getD 0 0):Nat):Int):=by
   refine (?_:EU _=EU _)
   congr 1
   simp only [TQ,List.getD_cons_zero]
   split<;>lia
  have e1:((λi=>min (k+i) ((a::l).getD i 0))∘V8)= λi=>min (k+1+i) (l.getD i 0):=by
   funext i
   simp only [Function.comp_apply,SI,List.getD_cons_succ];exact rA (show k+(i+1)=k+1+i by lia) rfl
  refine rA e0 ?_;refine rA e1 ?_;rfl
theorem IH:∀ (l:List Nat) (k:Nat) {x:PyData},x∈cL k (nL l)→∃ (p o:Nat),x=.tuple [.int p,.int o]
 | [],_,_,h=>by cases h
 |a::l,k,x,h=>by
  rcases Ch.mp h with rfl|h
  ·exact (jH k a rfl)
  ·exact IH l (k+1) h
theorem yv:((yw 64).all λa=>(yw 64).all λb=>K4 (a:Int) (b:Int) 1)=true:=by decide+kernel
theorem Ce{a:Nat}(ha:a<64)(hb:b<64):K4 (a:Int) (b:Int) 1=true:=
 Bb.mp (Bb.mp yv a (D3.mpr ha)) b (D3.mpr hb)
theorem rz{a:Nat}(hf:f ρ μ=some (.rng a b,μ))(ha:a<64)(hb:b<64):aK false f ρ μ=some ((yw (b-a)).map λ(i:Nat)=>EU ((a+i:Nat):Int),none,μ):=by
 exact (mV hf (Ce ha hb)).trans (by rw [show ((b:Int)-(a:Int)).toNat=b-a by lia,m9])
theorem Ge{a:Nat}(hf:f ρ μ=some (.rng a b,μ))(ha:a<64)(hb:b<64):af [f] mo ρ μ=some (.d (.list ((yw (b-a)).map λ(i:Nat)=>EU ((a+i:Nat):Int))),μ):=by
 have e:(2:Nat)^24=16777216:=by decide
 refine d4 hf ((bV (rfl:l1 [AV.rng a b]=some _)).trans ((oO (rfl:WD (.rng a b)=some _) rfl).trans ((if_pos ⟨Ce ha hb,by rw [e];lia⟩).trans ?_)));refine rA (show ((b:Int)-(a:Int)).toNat=b-a by lia) ?_;exact rA (m9 _ _) rfl
theorem EA(a n:Nat):((yw n).map λ(i:Nat)=>EU ((a+i:Nat):Int))=nL (F6 a n):=by
 refine rA List.range'_eq_map_range ?_;rw [nL];refine rA ER ?_;rfl
theorem T4(a b:List Nat):nL (a++b)=nL a++nL b:=by simp [nL]
theorem al2(x:cW)(m:List Nat)(J:List Jn)(j:Nat)(μ:List ah)(hm:m.length=6)(hc:μ[j]? =some (.live (jL J)))(hJ:J.length≤20):mR ({x with mates:=some (.d (.list (nL m))),joins:=some (.c j)}).loc μ=
  some (.next,({x with mates:=some (.d (.list (nL m))),joins:=some (.c j),start:=some (.d (.list (nL (start m J.length))))}).loc,μ):=by
 let ρ:=({x with mates:=some (.d (.list (nL m))),joins:=some (.c j)}:cW).loc
 have hcm:=sP (sc:=yI) (itf:=b_ [(a9 3)] g9) (e:=af [(a9 31),(a9 32)] Iy) (ρ:=ρ) (μ:=μ) 31 32 (by decide) G7
  (km (V:=.d (.list (nL m))) rfl rfl) (az _ _) (λy hy=>by
   refine lK (IH m 0 hy) λp o zq2=>?_;subst zq2;exact (fS _ _ rfl (iV (V:=.d (.int p)) (V':=.d (.int o)) rfl rfl rfl))) (by refine rA (iA _ _) ?_;rw [nL];refine rA (xG _) ?_;refine rA hm ?_;exact aa (by decide))
 rw [GA,hm] at hcm
 have hlen:=TN (k:=19) (ρ:=ρ) rfl hc (by lia);have hr:af [(kI 6),(aj (kI 6) (af [(a9 19)] dz) aT)] cF ρ μ=some (.rng (6:Nat) (6+J.length:Nat),μ):=iV (V:=.d (.int 6)) rfl (cR (x:=6) rfl hlen) (by
  refine (?_:some (AV.rng 6 (6+(J.length:Int)),μ)=_);refine rA (show (6:Int)+(J.length:Int)=((6+J.length:Nat):Int) by lia) ?_;rfl)
 have h2:=Ge hr (by decide) (by lia);rw [EA,show 6+J.length-6=J.length by lia] at h2
 have h3:=cS (bY hcm) h2 rfl rfl (aa (by rw [nL,nL];refine rA (xG _) ?_;refine rA (xG _) ?_;refine rA (xG _) ?_;refine rA IN ?_;refine rA L2 ?_;lia));rw [←T4] at h3
 have e:(yw 6).map (λi=>min (0+i) (m.getD i 0))++F6 6 J.length=start m J.length:=by
  unfold start;simp only [Ln]
 rw [e] at h3
 unfold mR;exact (bO h3).trans rfl
noncomputable def pK:PyData→Bool
 | .tuple (.int n::_)=>n==16
 |_=>false
theorem JD(y:Jn):pK y.enc= !y.par:=by
 unfold Jn.enc pK;cases y.par<;>rfl
noncomputable def ysK:PyData→List PyData
 | .tuple [_,_,a,b]=>[a,b]
 |_=>[]
noncomputable def vK:PyData→PyData→PyData
 | .tuple [_,n,_,_],y=>.tuple [n,y]
 |x,_=>x
theorem rl:∀J:List Jn,((jL J).flatMap λx=>if pK x then (ysK x).map (vK x) else [])=eL (i9 J)
 | []=>rfl
 |y::J=>by
  have ih:=rl J
  show (if pK y.enc then (ysK y.enc).map (vK y.enc) else [])++((jL J).flatMap λx=>if pK x then (ysK x).map (vK x) else [])=_
  refine rA ih ?_;refine rA (JD _) ?_;obtain ⟨p,nd,a,b⟩:=y;cases p<;>rfl
theorem G8:∀ (F:Fm) (n:Nat),(∀p∈F.pl,p<6)→(gr F n).1<6+(n+(gr F n).2.length)∧∀y∈(gr F n).2,y.nd<6+(n+(gr F n).2.length)∧y.a<6+(n+(gr F n).2.length)∧y.b<6+(n+(gr F n).2.length)
 | .at i,n,h=>by
  have:=h i (by simp [Fm.pl])
  refine ⟨by show i<_;lia,λy hy=>by cases hy⟩
 | .bin p l r,n,h=>by
  simp only [Fm.pl,AA] at h
  have h1:=G8 l n (λq hq=>h q (.inl hq));have h2:=G8 r (n+(gr l n).2.length) (λq hq=>h q (.inr hq));simp only [zR,be,Gp,AA,yA];refine ⟨by lia,λy hy=>?_⟩
  rcases hy with (hy|hy)|rfl
  ·have:=h1.2 y hy;lia
  ·have:=h2.2 y hy;lia
  ·dsimp only;lia
theorem II:∀ (G:List Fm) (n:Nat),(∀p∈bJ G,p<6)→∀y∈eE G n,y.nd<6+(n+(eE G n).length)∧y.a<6+(n+(eE G n).length)∧y.b<6+(n+(eE G n).length)
 | [],n,_,y,hy=>by cases hy
 |F::G,n,h,y,hy=>by
  rw [b6] at h
  have h1:=G8 F n (λq hq=>h q (yo _ hq));have h2:=II G (n+(gr F n).2.length) (λq hq=>h q (CE _ hq));rw [sq,AA] at hy
  rw [sq];refine rA be ?_
  rcases hy with hy|hy
  ·have:=h1.2 y hy;lia
  ·have:=h2 y hy;lia
theorem nJ(m:List Nat)(n:Nat):(start m n).length=6+n:=by simp [start]
theorem Cz(J:List Jn):(i9 J).length≤2*J.length:=by
 induction J with
 |nil=>exact DI 0
 |cons y J ih=>
  rw [i9];refine rA KC ?_;unfold i9 at ih
  split
  ·refine rA Fb ?_;refine rA be ?_;refine rA AO ?_;simp only [AO,EQ];lia
  ·refine rA AO ?_;lia
theorem ak2(x:cW)(m:List Nat)(J:List Jn)(j:Nat)(μ:List ah)(hc:μ[j]? =some (.live (jL J)))(hJ:J.length≤20)(hb:∀y∈J,y.nd<6+J.length∧y.a<6+J.length∧y.b<6+J.length):m_ ({x with joins:=some (.c j),start:=some (.d (.list (nL (start m J.length))))}).loc μ=
  some (.next,({x with joins:=some (.c j),start:=some (.d (.list (nL (start m J.length)))),labels:=some (.d (.list (nL (dj (start m J.length) (i9 J)))))}).loc,μ):=by
 let ρ:=({x with joins:=some (.c j),start:=some (.d (.list (nL (start m J.length))))}:cW).loc
 have hp:da μ (.c j)=some (jL J):=eP hc;have hl:=Cz J;have hcm:=p9 (sc:=ui) (itf:=aK false (a9 19)) (itf2:=aK false (cc (a9 31) (aL (kI 2)) ba)) (t:=bC (aF (a9 31) (kI 0)) (kI 16) dH) (e:=cX [(aF (a9 31) (kI 1)),(a9 32)]) (ρ:=ρ) (μ:=μ) (g:=Fh (.c j)) (xs:=jL J) 31 32 (by decide) pK ysK vK
  (d6 (V:=.c j) rfl hp) (pt hp) (λy hy w=>by
   refine au (DG.mp hy) λz zz zq2=>?_;subst zq2;refine (o4 (y:=16) (ab4 rfl) rfl).trans ?_;refine rA (JD _) ?_;cases z.par<;>rfl) (λy hy zz w=>by
   refine au (DG.mp hy) λz zz zq2=>?_;subst zq2;exact mm (ti (xs:=[.int (if z.par then 18 else 16),.int z.nd,.int z.a,.int z.b]) 2 rfl (by decide) (by simp) (aa (xF rfl)))) (λy hy zz w hw=>by
   refine au (DG.mp hy) λz zz zq2=>?_;subst zq2;exact d7 (ds:=[.int z.nd,w]) (an (ZT rfl) (an rfl bW)) (aa (xF rfl))) (by refine rA (rl _) ?_;rw [eL];refine rA (xG _) ?_;exact aa (by lia))
 rw [rl] at hcm
 have h:=s72 (ls:=start m J.length) (es:=i9 J) (μ:=μ) (by refine rA (nJ _ _) ?_;lia) (λp hp=>by
  refine rA (nJ _ _) ?_;refine au (L4.mp hp) λy hy h=>?_
  have:=hb y (Oq.mp hy).1
  simp only [Ch,DM,or_false] at h
  rcases h with rfl|rfl<;>dsimp only<;>lia)
 unfold m_;exact (bO (iV (V:=.d (.list (nL (start m J.length)))) rfl (bY hcm) h)).trans rfl
theorem qi{s:Str}(h:s=wd k):kS s ρ μ=some (.d (.str (wd k)),μ):=by refine rB h ?_;rfl
noncomputable def rO:List Str:=(yw 10).map wd
theorem ao7(x:cW)(μ:List ah):nH x.loc μ=some (.next,({x with names:=some (.d (.list (bS rO)))}).loc,μ):=by
 have h:aV [(kS "OPTIMIZED"),(kS "NEWLOCALS"),(kS "VARARGS"),(kS "VARKEYWORDS"),(kS "NESTED"),(kS "GENERATOR"),(kS "NOFREE"),(kS "COROUTINE"),(kS "ITERABLE_COROUTINE"),(kS "ASYNC_GENERATOR")] x.loc μ=some (.d (.list (bS rO)),μ):=
  dG (ds:=bS rO) (an (qi (k:=0) (by decide+kernel)) (an (qi (k:=1) (by decide+kernel)) (an (qi (k:=2) (by decide+kernel)) (an (qi (k:=3) (by decide+kernel)) (an (qi (k:=4) (by decide+kernel)) (an (qi (k:=5) (by decide+kernel)) (an (qi (k:=6) (by decide+kernel)) (an (qi (k:=7) (by decide+kernel)) (an (qi (k:=8) (by decide+kernel)) (an (qi (k:=9) (by decide+kernel)) bW)))))))))) (aa (by decide))
 unfold nH;exact (bO h).trans rfl
theorem Ki:((yw 7).all λi=>hx (2^ (10+i))==wd (10+i)&&decide ((hx (2^ (10+i))).length≤1000))=true:=by decide+kernel
noncomputable def iH(low n:Nat):List Str:=(yw n).map λk=>wd (low+k)
noncomputable def hxD:PyData→PyData
 | .int p=>.str (hx (2^p.toNat))
 |x=>x
theorem an7(x:cW)(J:List Jn)(low:Nat)(μ:List ah)(hl:low<13)(hJ:J.length≤5):nM ({x with low:=some (.d (.int low)),forks:=some (.d (.list (jL J))),names:=some (.d (.list (bS rO)))}).loc μ=
  some (.next,({x with low:=some (.d (.int low)),forks:=some (.d (.list (jL J))),names:=some (.d (.list (bS rO))),words:=some (.d (.list (bS (iH low J.length))))}).loc,μ):=by
 let ρ:=({x with low:=some (.d (.int low)),forks:=some (.d (.list (jL J))),names:=some (.d (.list (bS rO)))}:cW).loc
 have hcm:=iw (sc:=ub) (itf:=aK false (af [(kI 10),(kI 17)] cF)) (e:=af [(aj (kI 2) (a9 31) (aS gj))] oM) (ρ:=ρ) (μ:=μ) (g:=none) (xs:=(yw 7).map λ(i:Nat)=>EU ((10+i:Nat):Int)) 31 hxD (rz (a:=10) (b:=17) (iV (V:=.d (.int 10)) (V':=.d (.int 17)) rfl rfl rfl) (by decide) (by decide)) (az _ _) (λy hy=>by
  refine au (DG.mp hy) λi hi zq2=>?_;subst zq2
  have:=Bb.mp Ki i hi
  rw [EZ,decide_eq_true_iff] at this
  have hi7:=D3.mp hi;exact uY (kj rfl (by lia)) this.2) (aa (xF rfl))
 have e1:((yw 7).map λ(i:Nat)=>EU ((10+i:Nat):Int)).map hxD=bS ((yw 7).map λi=>wd (10+i)):=by
  refine rA ER ?_;rw [bS];refine rA ER ?_;refine FH λi hi=>?_
  have:=Bb.mp Ki i hi
  rw [EZ,beq_iff_eq] at this
  refine (?_:Lg (hx (2^ ((10+i:Nat):Int).toNat))=Lg (wd (10+i)));refine rA (Fa _) ?_;exact rA this.1 rfl
 rw [e1] at hcm
 have h1:=cS (f:=a9 24) (ρ:=ρ) (V:=.d (.list (bS rO))) rfl (bY hcm) rfl rfl (aa (by decide));have e2:bS rO++bS ((yw 7).map λi=>wd (10+i))=bS (iH 0 17):=by
  unfold bS rO iH;refine rB Jz ?_
  congr 1
 rw [e2] at h1
 have h2:=gH (f:=a9 21) (ρ:=ρ) (μ:=μ) (V:=.d (.list (jL J))) (xs:=jL J) rfl rfl (by rw [jL];refine rA (xG _) ?_;exact aa (by lia));have h3:aL (aj (a9 5) (af [(a9 21)] dz) aT) ρ μ=some (some ((low+J.length:Nat):Int),μ):=by
  have:=dD (cR (f:=a9 5) (x:=low) rfl h2)
  rw [jL,xG] at this
  refine rA this ?_;rfl
 have hw:(bS (iH 0 17)).length=17:=by simp [bS,iH]
 have h4:=f6 h1 (dD (x:=low) rfl:aL (a9 5) ρ μ=_) h3 (by refine rA hw ?_;exact aa (by decide));rw [JG _ (by lia) (by refine rA hw ?_;lia)] at h4
 have e3:((bS (iH 0 17)).drop low).take (low+J.length-low)=bS (iH low J.length):=by
  rw [bS];refine rB T9 ?_;refine rB R5 ?_;rw [bS]
  congr 1
  apply Tx;intro k;unfold iH;rw [List.getElem?_take,PW,Gi,Gi]
  by_cases hk:k<J.length
  ·refine rA (if_pos (by lia)) ?_;rw [O1 (by lia),O1 hk]
   simp
  ·refine rA (if_neg (by lia)) ?_;rw [Pb (by rw [IN];lia)]
   rfl
 rw [e3] at h4
 unfold nM;exact (bO h4).trans rfl
theorem ao3(x:cW)(μ:List ah):oi x.loc μ=some (.next,({x with trees:=some (.c μ.length)}).loc,μ++[.live []]):=by
 unfold oi;exact (bO xf).trans rfl
noncomputable def wq(k:Nat):List Nat:=wX.getD k []
theorem Y9(k:Nat):wd k=tS (wq k):=rfl
noncomputable def gS(low f mask:Nat):List (List Nat):=if mask=0 then [[48,120,48]] else (g_ low f mask).map wq
theorem Pt:((yw 6).all λf=>(yw (2^f)).all λmask=>((yw f).filter (iE mask)).isEmpty==decide (mask=0))=true:=by decide+kernel
theorem SW:((yw 32).all λk=>(wq k).all (λc=>decide (c<128))&&!(wq k).isEmpty&&!(wq k).contains 44&&decide ((wq k).length≤20))=true:=by decide+kernel
theorem W3:((yw 13).all λlow=>(yw 6).all λf=>(yw (2^f)).all λmask=>(yw f).all λk=>((gS low f mask).any λw=>w==wq (low+k))==iE mask k)=true:=by decide+kernel
theorem Nv:((yw 32).all λmask=>(yw 5).all λk=>((((mask:Int).fdiv (2^k)).fmod 2==1)==iE mask k)&&decide (¬((2:Int)^k=0∨2^64≤((2:Int)^k).natAbs)))=true:=by decide+kernel
theorem AY{f:Nat}(hf:f<6):2^f≤2^5:=S9 (by decide) (by lia)
theorem YR{p:Nat→Nat→Bool}(h:((yw 6).all λf=>(yw (2^f)).all λmask=>p f mask)=true){f:Nat}(hf:f<6)(hm:mask<2^f):p f mask=true:=
 Bb.mp (Bb.mp h f (D3.mpr hf)) mask (D3.mpr hm)
theorem lY{f:Nat}(low:Nat)(hf:f<6)(hm:mask<2^f):g_ low f mask=[]↔mask=0:=by
 have:=YR (p:= λf mask=>((yw f).filter (iE mask)).isEmpty==decide (mask=0)) Pt hf hm
 rw [beq_iff_eq] at this
 unfold g_;refine rA (propext (O6)) ?_;refine rB (propext (TY)) ?_;refine rA this ?_;rw [decide_eq_true_iff]
theorem z_{f:Nat}(hk:k∈g_ low f mask):k<low+f:=by
 refine au (DG.mp hk) λj hj zq2=>?_;subst zq2
 have:=D3.mp (Oq.mp hj).1
 lia
theorem Co(hk:k<32):(∀c∈wq k,c<128)∧wq k≠[]∧44∉wq k∧(wq k).length≤20:=by
 have:=Bb.mp SW k (D3.mpr hk)
 simp only [EZ,Bb,decide_eq_true_eq,MT,List.isEmpty_eq_false_iff,MZ,decide_eq_false_iff_not] at this
 exact (lm this.1.1.1 this.1.1.2 this.1.2 this.2)
theorem rx{f:Nat}(hl:low<13)(hf:f<6)(hm:mask<2^f):gS low f mask≠[]∧(gS low f mask).length≤5∧∀w∈gS low f mask,(∀c∈w,c<128)∧w≠[]∧44∉w∧w.length≤20:=by
 unfold gS
 split
 ·refine (fu (by simp) (by simp) (λw hw=>?_))
  refine rA (yA.mp hw) ?_;refine (lm (by simp) (by simp) (by simp) (by simp))
 ·rename_i h
  refine (fu (λe=>h ((lY low hf hm).mp (O6.mp e))) ?_ (λw hw=>?_))
  ·have:=Hs (iE mask) (yw f)
   rw [IN] at this
   simp only [g_,xG];lia
  ·refine au (DG.mp hw) λk hk zq2=>?_
   subst zq2;exact Co (by have:=z_ hk;lia)
theorem lz:∀ws:List (List Nat),(∀w∈ws,w.length≤20)→(cE ws).length≤22*ws.length
 | [],_=>DI 0
 | [w],h=>by have:=h w (by simp);simp only [cE,Gp];lia
 |w::v::r,h=>by
  have ih:=lz (v::r) (λu hu=>h u (D1 _ hu))
  have:=h w (by simp)
  simp only [cE,be,AO,EQ] at ih⊢
  lia
theorem vg:∀ws:List (List Nat),(∀w∈ws,∀c∈w,c<128)→∀c∈cE ws,c<128
 | [],_,c,hc=>by cases hc
 | [w],h,c,hc=>h w (by simp) c hc
 |w::v::r,h,c,hc=>by
  simp only [cE,AA,Ch,DM,or_false] at hc
  rcases hc with (hc|hc)|hc
  ·exact h w (by simp) c hc
  ·lia
  ·exact vg (v::r) (λu hu=>h u (D1 _ hu)) c hc
theorem ED:∀ws:List (List Nat),ws≠[]→(∀w∈ws,w≠[])→cE ws≠[]
 | [],h,_=>absurd rfl h
 | [w],_,h=>h w (by simp)
 |w::v::r,_,h=>by
  intro e;simp only [cE,List.append_eq_nil_iff] at e
  exact h w (by simp) e.1.1
noncomputable def eQ(low f mask:Nat):Str:=tS (cE (gS low f mask))
theorem FN{f:Nat}(hf:f<6)(hm:mask<2^f):Lm ", " (FR (g_ low 5 mask) (if mask=0 then some 0 else none))=eQ low f mask:=by
 have e5:=YR (p:= λf mask=>(yw 5).filter (iE mask)==(yw f).filter (iE mask)) YV hf hm;rw [beq_iff_eq] at e5
 have e5':g_ low 5 mask=g_ low f mask:=by unfold g_;exact rA e5 rfl
 refine rA e5' ?_;unfold eQ gS
 by_cases h:mask=0
 ·refine rA (if_pos h) ?_;refine rA (if_pos h) ?_;refine rA ((lY low hf hm).mpr h) ?_
  refine (?_:Lm gY [hx 0]=_);refine rA Zq ?_;exact r6 [[48,120,48]]
 ·refine rA (if_neg h) ?_;refine rA (if_neg h) ?_
  refine (?_:Lm gY ((g_ low f mask).map wd)=_);refine rA (show (g_ low f mask).map wd=((g_ low f mask).map wq).map tS by rw [ER];rfl) ?_;exact r6 _
theorem O5{f:Nat}(hl:low<13)(hf:f<6)(hm:mask<2^f):cM [.d (.int ((mask:Int)*2^low))] μ=some (.d (.str (eQ low f mask)),μ):=by
 have h:=Bb.mp (Bb.mp HQ low (D3.mpr hl)) mask (D3.mpr (by have:=AY hf;lia));rw [beq_iff_eq] at h
 refine rB (FN hf hm) ?_;refine aa2 h (λfl' e=>?_)
 split at e
 ·refine cA e ?_;refine rA Zq ?_;decide
 ·exact ct e
theorem G9{f:Nat}(hl:low<13)(hf:f<6)(hm:mask<2^f):(cE (gS low f mask)).length≤110:=by
 refine dU (rx hl hf hm) λh1 h2 h3=>?_
 have:=lz _ (λw hw=>(h3 w hw).2.2.2)
 lia
theorem Hn{f:Nat}(hl:low<13)(hf:f<6)(hm:mask<2^f):pg n (.str (eQ low f mask)):=
 im (vg _ λw hw=>((rx hl hf hm).2.2 w hw).1)
theorem qz(g:Nat→PyData):∀ (n a s:Nat),cL a ((F6 s n).map g)=(yw n).map λk=>.tuple [.int ((a+k:Nat):Int),g (s+k)]
 |0,_,_=>rfl
 |n+1,a,s=>by
  refine rA Rj ?_;refine rA ET ?_;rw [cL];refine rA (qz g n (a+1) (s+1)) ?_;refine rA LA ?_;refine rA ET ?_;refine rA ER ?_;refine congr (congrArg _ rfl) (FH λi zz=>?_);refine (?_:J1 [.int _,g _]=J1 [.int _,g _]);refine rA (show a+1+i=a+(i+1) by lia) ?_;exact rA (show s+1+i=s+(i+1) by lia) rfl
theorem tB(low n:Nat):bS (iH low n)=(F6 0 n).map λk=>Lg (wd (low+k)):=by
 rw [bS,iH];refine rA ER ?_;refine rA Lj ?_;rfl
noncomputable def pB(mask:Nat):PyData→Bool
 | .tuple [.int k,_]=>iE mask k.toNat
 |_=>false
theorem ao8{w:PyData}:pB mask (.tuple [.int k,w])=iE mask k:=rfl
noncomputable def wB:PyData→PyData
 | .tuple [_,w]=>w
 |x=>x
theorem CA(low f mask:Nat):((cL 0 (bS (iH low f))).filter (pB mask)).map wB=bS ((g_ low f mask).map wd):=by
 refine rA (tB _ _) ?_;refine rA (qz _ _ _ _) ?_;refine rA OF ?_;refine rA ER ?_;rw [bS,g_];refine rA ER ?_;refine rA ER ?_;have e:(pB mask∘ λk:Nat=>J1 [.int ((0+k:Nat):Int),.str (wd (low+(0+k)))])=iE mask:=by
  funext k
  refine (?_:iE mask ((0+k:Nat):Int).toNat=_);refine rA (Fa _) ?_;exact rA (Ln _) rfl
 refine rA e ?_;refine FH λk zz=>?_;refine (?_:Lg (wd (low+(0+k)))=_);refine rA (Ln _) ?_;rfl
theorem UB{a:List Nat}(hf:f ρ μ=some (.d (.str (tS a)),μ))(hz:a.length≤100000)(h1:a≠[]→V=.d (.str (tS a)))(h2:a=[]→g ρ μ=some (V,μ)):Za f g ρ μ=some (V,μ):=by
 have ht:ka (.d (.str (tS a))) μ=some ((a.length:Int) != 0):=by
  exact (f5 (rfl:Pg (.d (.str (tS a)))=none)).trans ((f5 (rfl:jJ (.d (.str (tS a)))=none)).trans ((f5 (rfl:Nw (.d (.str (tS a)))=none)).trans ((oO (rfl:mz (.d (.str (tS a)))=some _) rfl).trans ((if_pos (by rw [eA];exact aa hz)).trans (by rw [eA])))))
 refine (b5 hf).trans ((bV ht).trans ?_);cases a with
 |nil=>exact h2 rfl
 |cons c a=>
  rw [show (((c::a).length:Int) != 0)=true from bne_iff_ne.mpr (by rw [AO];lia)];exact congrArg (λV=>some (V,μ)) (h1 (by simp)).symm
theorem nj:∀ (es:List (Nat×Nat)) (l:List Nat),dj l es=[]∨(dj l es).length=l.length
 | [],l=>.inr rfl
 | (a,b)::es,l=>by
  rw [dj]
  split
  ·exact .inl rfl
  ·rcases nj es (l.map λx=>if x=l.getD b 0 then l.getD a 0 else x) with h|h
   ·exact .inl h
   ·exact .inr (h.trans (xG ..))
theorem S7(l:List Nat):nL l=iL (l.map λ(n:Nat)=>(n:Int)):=by simp [nL,iL]
theorem IZ(a b:List Nat)(μ:List ah):dH (.d (.list (nL a))) (.d (.list (nL b))) μ=some (a==b):=by
 refine rA (S7 _) ?_;refine rA (S7 _) ?_;refine rA (B7 _ _ _) ?_
 congr 1
 refine rA (propext (PK)) ?_;refine rA (propext (beq_iff_eq)) ?_;refine rA (propext (beq_iff_eq)) ?_;constructor
 ·intro h
  have:=congrArg (List.map Int.toNat) h
  simpa [ER,MW] using this
 ·rintro rfl;rfl
theorem PZ(a b:List Nat)(μ:List ah):po (.d (.list (nL a))) (.d (.list (nL b))) μ=some (!(a==b)):=by
 exact bV (IZ _ _ _)
theorem Ih(a:Nat):∀n,nN (nL [a]) n=nL (GE n a)
 |0=>rfl
 |n+1=>by rw [nN];refine rA (Ih a n) ?_;rfl
theorem BR:∀ (a:Nat) (l:List Nat),((l==GE l.length a)=l.all (· ==a))
 |a,[]=>rfl
 |a,b::l=>by
  refine rA AO ?_;refine rA Ny ?_;refine rA List.cons_beq_cons ?_;refine rA (BR a l) ?_;exact rA Ml rfl
theorem U_{l:List Nat}(h:a9 i ρ μ=some (.d (.list (nL l)),μ))(hz:l.length≤100):
  rW (dY (a9 i) (aV []) po) (dY (a9 i) (aj (cc (a9 i) ba (aL (kI 1))) (af [(a9 i)] dz) l8) dH) ρ μ=some (.d (.bool (Xj l)),μ):=by
 have h1:dY (a9 i) (aV []) po ρ μ=some (.d (.bool (!(l==[]))),μ):=hH h tu (PZ l [] μ);have hn:(nL l).length=l.length:=by simp [nL]
 cases l with
 |nil=>exact (oV (c:=false) (μ2:=μ) h1 (λq=>by cases q)).trans rfl
 |cons a l=>
  have a1:cc (a9 i) ba (aL (kI 1)) ρ μ=some (.d (.list (nL [a])),μ):=by
   have:=f6 (f:=a9 i) (p:=ba) (q:=aL (kI 1)) (ρ:=ρ) (μ:=μ) (lo:=none) (hi:=some ((1:Nat):Int)) h rfl (dD (x:=1) rfl) (by refine rA hn ?_;exact aa (by lia))
   refine rA this ?_;refine rA (p7 _ (by rw [hn,AO];lia)) ?_;rfl
  have a2:=gH (f:=a9 i) h rfl (by refine rA hn ?_;exact aa (by lia));rw [hn] at a2
  have a3:=Bf a1 a2 (by
   refine rA (Fa _) ?_;refine rA (Int.natAbs_natCast _) ?_;simp only [AO] at hz⊢
   simp only [nL,xG,AO,EQ];lia)
  rw [Fa,Ih] at a3
  have h2:=hH h a3 (IZ (a::l) (GE (a::l).length a) μ);refine (oV h1 (λzz=>h2)).trans ?_;refine rA (if_pos (by rfl)) ?_;refine rA (BR _ _) ?_;rfl
noncomputable def We(low f mask:Nat)(w:List Nat):Bool:=(gS low f mask).any λu=>u==w
theorem zH{f:Nat}(hl:low<13)(hf:f<6)(hm:mask<2^f)(hk:k<f):We low f mask (wq (low+k))=iE mask k:=by
 have:=Bb.mp (Bb.mp (Bb.mp (Bb.mp W3 low (D3.mpr hl)) f (D3.mpr hf)) mask (D3.mpr hm)) k (D3.mpr hk)
 rw [beq_iff_eq] at this
 exact this
noncomputable def ZW(low f mask:Nat):PyData→PyData
 | .tuple [.str w,.tuple [_,nd,a,b]]=>.tuple [nd,if We low f mask w.cps.toList then b else a]
 |x=>x
theorem B4(low f mask:Nat):∀ (J:List Jn) (s:Nat),(∀k,s≤k→k<s+J.length→We low f mask (wq (low+k))=iE mask k)→
  (mJ ((F6 s J.length).map λk=>Lg (wd (low+k))) (jL J)).map (ZW low f mask)=eL (sr (mask/2^s) J)
 | [],s,_=>rfl
 |y::J,s,h=>by
  have ih:=B4 low f mask J (s+1) (λk h1 h2=>h k (by lia) (by refine rA AO ?_;lia));have h0:=h s (DI s) (by refine rA AO ?_;lia);refine rA AO ?_;refine rA Rj ?_;refine rA ET ?_
  show ZW low f mask (.tuple [.str (wd (low+s)),y.enc])::(mJ ((F6 (s+1) J.length).map λk=>Lg (wd (low+k))) (jL J)).map (ZW low f mask)=_
  refine rA ih ?_;refine rA (PX _ _) ?_;refine rB (Rr _ _ _) ?_;rw [sr]
  have:ZW low f mask (.tuple [.str (wd (low+s)),y.enc])=.tuple [.int y.nd,.int ((if mask/2^s%2=1 then y.b else y.a:Nat):Int)]:=by
   refine (?_:J1 [.int y.nd,if We low f mask (wd (low+s)).cps.toList then .int y.b else .int y.a]=_);refine rA (Y9 _) ?_;refine rA (fR _) ?_;refine rA h0 ?_;unfold iE
   by_cases q:mask/2^s%2=1
   ·refine rA (if_pos q) ?_;exact rA (if_pos (by rw [q];rfl)) rfl
   ·refine rA (if_neg q) ?_;exact rA (if_neg (by rw [beq_iff_eq];exact q)) rfl
  refine rA this ?_;rfl
theorem AG:∀ (J:List Jn) (k:Nat) {p:Nat×Nat},p∈sr k J→∃y∈J,p.1=y.nd∧(p.2=y.a∨p.2=y.b)
 | [],_,_,h=>by cases h
 |y::J,k,p,h=>by
  rcases Ch.mp h with rfl|h
  ·refine (cJ y (by simp) rfl ?_)
   dsimp only
   split
   ·exact .inr rfl
   ·exact .inl rfl
  ·refine au (AG J (k/2) h) λz hz e=>?_
   exact (aZ z (by simp [hz]) e)
theorem Im{f:Nat}{h:EF}(hl:low<13)(hf:f<6)(hm:mask<2^f)(hk:k<f)(h1:g ρ μ=some (.d (.str (wd (low+k))),μ))(h2:h ρ μ=some (.d (.str (eQ low f mask)),μ)):nQ g h ", " ρ μ=some (iE mask k,μ):=by
 refine dU (rx hl hf hm) λw1 w2 w3=>?_;have hp:=rE (gS low f mask) w1 (λw hw=>(w3 w hw).2.2.1);have hs:=zJ (gS low f mask) w1 (λw hw=>(w3 w hw).2.2.1);have hlen:=G9 hl hf hm;have hc:KX (((gS low f mask).map tS).map .str)=true:=(kK (n:=0) λx hx=>by
  refine au (DG.mp hx) λt ht zq2=>?_;subst zq2;refine au (DG.mp ht) λw hw zq2=>?_;subst zq2;exact im (w3 w hw).1).1
 have ho:TB (wd (low+k))=true:=(im (n:=0) (Co (k:=low+k) (by lia)).1).1;have he:((((gS low f mask).map tS).map Lg).any λy=>Mq y (.str (wd (low+k))))=iE mask k:=by
  refine rB (zH hl hf hm hk) ?_;rw [We];refine rA List.any_map ?_;refine rA List.any_map ?_
  congr 1
  funext u
  refine (?_:(tS u==tS (wq (low+k)))=_);refine rA (GU _ _) ?_;refine rA (propext (PK)) ?_;refine rA (propext (decide_eq_true_iff)) ?_;refine rA (propext (beq_iff_eq)) ?_;exact eq_comm
 refine (b5 h1).trans ((bV rfl).trans ((b5 h2).trans ((bV rfl).trans ?_)));have key:∀X:Str,X=tS (cE (gS low f mask))→(if X.length≤sizeLine∧(Oc X (Ll X gY 0 X.length (X.length+1)) gY.length).length≤sizeLine∧KX ((PC X gY).map .str)=true∧TB (wd (low+k))=true then some (((PC X gY).map Lg).any λy=>Mq y (.str (wd (low+k))),μ) else none)=some (iE mask k,μ):=by
  rintro X rfl
  refine rA hp ?_;refine rA hs ?_;refine rA he ?_;exact rA (if_pos (lm (by rw [eA];exact aa (by lia)) (by rw [xG];exact aa (by lia)) hc ho)) rfl
 exact key _ rfl
theorem ab8(hf:f ρ μ=some (.d (.list xs),μ))(hg:g ρ μ=some (.d (.list ys),μ)):b_ [f,g] lk ρ μ=some (mJ xs ys,none,μ):=by
 exact (b5 (zc hf hg)).trans rfl
theorem OC(xs ys:List PyData){z:PyData}(h:z∈mJ xs ys):∃ (i:Nat) (x y:PyData),xs[i]? =some x∧ys[i]? =some y∧z=.tuple [x,y]:=
 bP (iC h) λi e=>vO e λx y h1 h2 h3=>pe i x y h1 h2 h3
theorem OW(xs ys:List PyData):(mJ xs ys).length≤xs.length:=Su▸Um ..
noncomputable def bL(T:List Bool):List PyData:=T.map .bool
noncomputable def oI(low f mask:Nat):PyData:=.tuple [.str (eQ low f mask),.str (eQ low f mask)]
theorem Ew{f:Nat}(hl:low<13)(hf:f<6)(hm:mask<2^f):Good (oI low f mask):=dP (n:=0) (Hn hl hf hm) (by decide)
noncomputable def EV(L:List Nat)(J:List Jn)(mask:Nat):List Nat:=if L=[] then [] else dj L (sr mask J)
abbrev Fw:SF:=(ap (c6 28 (af [(aj (a9 27) (aj (kI 2) (a9 5) (aS gj)) l8)] cM)) (ap (ci (d_ (a9 12) (cX [(a9 28),(Za (dv (kS ", ") [(cb mf (b_ [(a9 25)] g9) (jc 31 32) (cU (bC (aj (aj (a9 27) (aj (kI 2) (a9 31) (aS gj)) (aS cN)) (kI 2) (aS cq)) (kI 1) dH) (aY (a9 32))))] fc) (kS "0x0"))]))) (ap (f_ 29 kQ (b_ [(a9 25),(a9 21)] lk) (jc 31 32) (cU bg (aY (cX [(aF (a9 32) (kI 1)),(dx (nQ (a9 31) (a9 28) ", ") (aF (a9 32) (kI 3)) (aF (a9 32) (kI 2)))]))) false) (ap (c6 30 (dx (bC (a9 23) (aV []) po) (af [(a9 23),(a9 29)] de) (aV []))) (ap (ci (d_ (a9 26) (rW (dY (a9 30) (aV []) po) (dY (a9 30) (aj (cc (a9 30) ba (aL (kI 1))) (af [(a9 30)] dz) l8) dH)))) aP)))))
section
variable {f:Nat} {L:List Nat}
theorem ZX(x:cW)(hl:low<13)(hf:f<6)(hm:mask<2^f):c6 28 (af [(aj (a9 27) (aj (kI 2) (a9 5) (aS gj)) l8)] cM) ({x with low:=some (.d (.int low)),mask:=some (.d (.int mask))}).loc μ=
  some (.next,({x with low:=some (.d (.int low)),mask:=some (.d (.int mask)),said:=some (.d (.str (eQ low f mask)))}).loc,μ):=by
 let ρ:=({x with low:=some (.d (.int low)),mask:=some (.d (.int mask))}:cW).loc
 have h:aj (a9 27) (aj (kI 2) (a9 5) (aS gj)) l8 ρ μ=some (.d (.int ((mask:Int)*2^low)),μ):=tz rfl (kj rfl (by lia)) (FQ (by lia));exact (bO (d4 h (O5 hl hf hm))).trans rfl
theorem Y_(x:cW)(hl:low<13)(hf:f<6)(hm:mask<2^f)(hc:μ[2]? =some (.live X))(hz:X.length≤10000):ci (d_ (a9 12) (cX [(a9 28),(Za (dv (kS ", ") [(cb mf (b_ [(a9 25)] g9) (jc 31 32) (cU (bC (aj (aj (a9 27) (aj (kI 2) (a9 31) (aS gj)) (aS cN)) (kI 2) (aS cq)) (kI 1) dH) (aY (a9 32))))] fc) (kS "0x0"))])) ({x with asked:=some (.c 2),words:=some (.d (.list (bS (iH low f)))),mask:=some (.d (.int mask)),said:=some (.d (.str (eQ low f mask)))}).loc μ=
  some (.next,({x with asked:=some (.c 2),words:=some (.d (.list (bS (iH low f)))),mask:=some (.d (.int mask)),said:=some (.d (.str (eQ low f mask)))}).loc,μ.set 2 (.live (X++[oI low f mask]))):=by
 let ρ:=({x with asked:=some (.c 2),words:=some (.d (.list (bS (iH low f)))),mask:=some (.d (.int mask)),said:=some (.d (.str (eQ low f mask)))}:cW).loc
 have h32:=AY hf;have hcm:=qf (sc:=mf) (itf:=b_ [(a9 25)] g9) (t:=bC (aj (aj (a9 27) (aj (kI 2) (a9 31) (aS gj)) (aS cN)) (kI 2) (aS cq)) (kI 1) dH) (e:=a9 32) (ρ:=ρ) (μ:=μ) 31 32 (by decide) (pB mask) wB
  (km (V:=.d (.list (bS (iH low f)))) rfl rfl) (az _ _) (λy hy=>by
   rw [tB,qz] at hy
   refine au (DG.mp hy) λk hk zq2=>?_;subst zq2;have hk5:=D3.mp hk;have hb:=Bb.mp (Bb.mp Nv mask (D3.mpr (by lia))) k (D3.mpr (by lia));rw [EZ,beq_iff_eq,decide_eq_true_iff] at hb
   refine (dw _ _ rfl ?_ (λzz=>rfl));refine rA (Ln _) ?_;refine (o4 (y:=1) (cV (cV (x:=mask) rfl (kj (y:=k) rfl (by lia)) (kP hb.2)) rfl (fj (by decide))) rfl).trans ?_;refine rA hb.1 ?_;exact congrArg (λb=>some (b,μ)) ao8.symm) (by refine rA (iA _ _) ?_;exact aa (by simp [bS,iH];lia))
 rw [CA] at hcm
 have hsl:(g_ low f mask).length≤5:=by
  have:=Hs (iE mask) (yw f)
  rw [IN] at this
  simp only [g_,xG];lia
 have hws:=tl (g_ low f mask);have hj:=tc (sep:=", ") (bY hcm) rfl (by
  refine rA (xG _) ?_;refine rA (show (", ":Str).length=2 from by decide) ?_;lia)
 have e0:(g_ low f mask).map wd=((g_ low f mask).map wq).map tS:=by rw [ER];rfl
 have ej:Lm ", " ((g_ low f mask).map wd)=tS (cE ((g_ low f mask).map wq)):=by refine rA e0 ?_;exact r6 _
 rw [ej] at hj
 have hlen:=lz ((g_ low f mask).map wq) (λw hw=>by
  refine au (DG.mp hw) λk hk zq2=>?_;subst zq2;exact (Co (by have:=z_ hk;lia)).2.2.2)
 rw [xG] at hlen
 have ho:=UB (g:=kS "0x0") (V:=.d (.str (eQ low f mask))) hj (by lia) (λhne=>by
  unfold eQ gS;exact rA (if_neg (λq=>hne (by rw [(lY low hf hm).mpr q];rfl))) rfl) (λhe=>by
  have:g_ low f mask=[]:=by
   apply Classical.byContradiction;intro hne;exact ED _ (λq=>hne (O6.mp q)) (λw hw=>by
    refine au (DG.mp hw) λk hk zq2=>?_;subst zq2;exact (Co (by have:=z_ hk;lia)).2.1) he
  have:=(lY low hf hm).mp this
  unfold eQ gS;refine rA (if_pos this) ?_;rfl)
 exact nA rfl (d7 (ds:=[.str (eQ low f mask),.str (eQ low f mask)]) (an rfl (an ho bW)) (aa (xF rfl))) hc (by lia)
theorem YD(x:cW)(hl:low<13)(hf:f<6)(hm:mask<2^f)(hJ:J.length=f):f_ 29 kQ (b_ [(a9 25),(a9 21)] lk) (jc 31 32) (cU bg (aY (cX [(aF (a9 32) (kI 1)),(dx (nQ (a9 31) (a9 28) ", ") (aF (a9 32) (kI 3)) (aF (a9 32) (kI 2)))]))) false ({x with forks:=some (.d (.list (jL J))),words:=some (.d (.list (bS (iH low f)))),said:=some (.d (.str (eQ low f mask)))}).loc μ=
  some (.next,({x with forks:=some (.d (.list (jL J))),words:=some (.d (.list (bS (iH low f)))),said:=some (.d (.str (eQ low f mask))),chosen:=some (.d (.list (eL (sr mask J))))}).loc,μ):=by
 let ρ:=({x with forks:=some (.d (.list (jL J))),words:=some (.d (.list (bS (iH low f)))),said:=some (.d (.str (eQ low f mask)))}:cW).loc
 have hcm:=sP (sc:=kQ) (itf:=b_ [(a9 25),(a9 21)] lk) (e:=cX [(aF (a9 32) (kI 1)),(dx (nQ (a9 31) (a9 28) ", ") (aF (a9 32) (kI 3)) (aF (a9 32) (kI 2)))]) (ρ:=ρ) (μ:=μ) 31 32 (by decide) (ZW low f mask)
  (ab8 (xs:=bS (iH low f)) (ys:=jL J) rfl rfl) (az _ _) (λz hz=>by
   refine jz (OC _ _ hz) λk a b h1 h2 zq5=>?_;subst zq5;have hk:k<J.length:=by
    have:=(BJ.mp h2).1
    simpa [jL] using this
   have ea:a=.str (wd (low+k)):=by
    rw [bS,iH,ER,Gi,O1 (by lia)] at h1
    exact (Fd h1).symm
   obtain ⟨y,hy,rfl⟩:∃y:Jn,J[k]? =some y∧b=y.enc:=by
    rw [jL,Gi] at h2
    refine au (IA.mp h2) λy hy e=>?_;exact (aZ y hy e.symm)
   subst ea;refine (fS _ _ rfl ?_);have hs:=Im (g:=a9 31) (h:=a9 28) (ρ:=((bG kQ ρ).set 31 (some (.d (.str (wd (low+k)))))).set 32 (some (.d y.enc))) (μ:=μ) hl hf hm (by lia) rfl rfl;refine (d7 (ds:=[.int y.nd,if iE mask k then .int y.b else .int y.a]) (an (ZT rfl) (an (ln hs (λhb=>?_) (λhb=>?_)) bW)) (aa (xF rfl))).trans ?_
   ·refine rA (if_pos hb) ?_;exact aj7 rfl
   ·refine rA (if_neg (by rw [hb];exact HA)) ?_;exact al5 rfl
   ·refine (?_:_=some (AV.d (J1 [.int y.nd,if We low f mask (wd (low+k)).cps.toList then .int y.b else .int y.a]),μ))
    refine rA (Y9 _) ?_;refine rA (fR _) ?_;exact rA (zH hl hf hm (by lia)) rfl) (KQ (OW _ _) (aa (by simp [bS,iH];lia)))
 have e:=B4 low f mask J 0 (λk zz hk=>zH hl hf hm (by lia));rw [TK,Nat.div_one,hJ,←tB] at e
 rw [e] at hcm
 exact (jv hcm).trans rfl
theorem ON(hL:L.length≤100):(EV L J mask).length≤100:=by
 unfold EV
 split
 ·simp
 ·rcases nj (sr mask J) L with h|h
  ·refine rA h ?_;simp
  ·lia
theorem aa3(x:cW)(hL:L.length≤100)(hb:L≠[]→∀y∈J,y.nd<L.length∧y.a<L.length∧y.b<L.length):c6 30 (dx (bC (a9 23) (aV []) po) (af [(a9 23),(a9 29)] de) (aV [])) ({x with labels:=some (.d (.list (nL L))),chosen:=some (.d (.list (eL (sr mask J))))}).loc μ=
  some (.next,({x with labels:=some (.d (.list (nL L))),chosen:=some (.d (.list (eL (sr mask J)))),joined:=some (.d (.list (nL (EV L J mask))))}).loc,μ):=by
 let ρ:=({x with labels:=some (.d (.list (nL L))),chosen:=some (.d (.list (eL (sr mask J))))}:cW).loc
 have ht:bC (a9 23) (aV []) po ρ μ=some (!(L==[]),μ):=dF (V:=.d (.list (nL L))) rfl tu (PZ L [] μ);have h:dx (bC (a9 23) (aV []) po) (af [(a9 23),(a9 29)] de) (aV []) ρ μ=some (.d (.list (nL (EV L J mask))),μ):=by
  refine ln ht (λq=>?_) (λq=>?_)
  ·have hne:L≠[]:=by
    rintro rfl
    exact absurd q (by decide)
   unfold EV;refine rA (if_neg hne) ?_;refine iV (V:=.d (.list (nL L))) (V':=.d (.list (eL (sr mask J)))) rfl rfl (s72 (by lia) (λp hp=>?_));refine cn (AG J mask hp) λy hy e1 e2=>?_
   have:=hb hne y hy
   refine rA e1 ?_
   rcases e2 with e2|e2<;>rw [e2]<;>lia
  ·have he:L=[]:=by
    cases L with
    |nil=>rfl
    |cons a l=>exact absurd q (by simp)
   unfold EV;refine rA (if_pos he) ?_;exact tu
 exact (bO h).trans rfl
theorem Zb(x:cW){T:List Bool}(hL:L.length≤100)(hT:T.length≤1000)(hc:μ[jt]? =some (.live (bL T))):ci (d_ (a9 26) (rW (dY (a9 30) (aV []) po) (dY (a9 30) (aj (cc (a9 30) ba (aL (kI 1))) (af [(a9 30)] dz) l8) dH))) ({x with trees:=some (.c jt),joined:=some (.d (.list (nL (EV L J mask))))}).loc μ=
  some (.next,({x with trees:=some (.c jt),joined:=some (.d (.list (nL (EV L J mask))))}).loc,μ.set jt (.live (bL (T++[j5 L J mask])))):=by
 refine (eB (gt (j:=jt) (d:=.bool (j5 L J mask)) (xs:=bL T) rfl (U_ (l:=EV L J mask) rfl (ON hL)) hc (by rw [bL];refine rA (xG _) ?_;exact aa (by lia)))).trans ?_
 simp [bL]
theorem DU(x:cW){T:List Bool}{sd ch jo:Option AV}(hl:low<13)(hf:f<6)(hm:mask<2^f)(hJ:J.length=f)(hL:L.length≤100)(hb:L≠[]→∀y∈J,y.nd<L.length∧y.a<L.length∧y.b<L.length)(hj:jt≠2)(hc:μ[2]? =some (.live X))(hz:X.length≤10000)(hT:T.length≤1000)(hct:μ[jt]? =some (.live (bL T))):
  Fw ({x with low:=some (.d (.int low)),asked:=some (.c 2),forks:=some (.d (.list (jL J))),labels:=some (.d (.list (nL L))),words:=some (.d (.list (bS (iH low f)))),trees:=some (.c jt),mask:=some (.d (.int mask)),said:=sd,chosen:=ch,joined:=jo}).loc μ=
   some (.next,({x with low:=some (.d (.int low)),asked:=some (.c 2),forks:=some (.d (.list (jL J))),labels:=some (.d (.list (nL L))),words:=some (.d (.list (bS (iH low f)))),trees:=some (.c jt),mask:=some (.d (.int mask)),said:=some (.d (.str (eQ low f mask))),chosen:=some (.d (.list (eL (sr mask J)))),joined:=some (.d (.list (nL (EV L J mask))))}).loc,(μ.set 2 (.live (X++[oI low f mask]))).set jt (.live (bL (T++[j5 L J mask])))):=by
 let y:cW:= {x with low:=some (.d (.int low)),asked:=some (.c 2),forks:=some (.d (.list (jL J))),labels:=some (.d (.list (nL L))),words:=some (.d (.list (bS (iH low f)))),trees:=some (.c jt),mask:=some (.d (.int mask)),said:=sd,chosen:=ch,joined:=jo}
 let y1:cW:= {y with said:=some (.d (.str (eQ low f mask)))}
 let y2:cW:= {y1 with chosen:=some (.d (.list (eL (sr mask J))))}
 let y3:cW:= {y2 with joined:=some (.d (.list (nL (EV L J mask))))}
 refine (aB (ρ1:=y1.loc) (ZX y hl hf hm)).trans ?_;refine (aB (ρ1:=y1.loc) (Y_ y1 hl hf hm hc hz)).trans ?_;refine (aB (ρ1:=y2.loc) (YD y1 hl hf hm hJ)).trans ?_;refine (aB (ρ1:=y3.loc) (aa3 y2 hL hb)).trans ?_;exact (aB (ρ1:=y3.loc) (Zb y3 hL hT (by rw [Lh (MA hj)];exact hct))).trans bK
end
theorem ap2(μ:List ah)(hj:j≠2)(a b c d:ah):(((μ.set 2 a).set j b).set 2 c).set j d=(μ.set 2 c).set j d:=by
 refine rA (QY b c hj) ?_;refine rA (I9 _) ?_;exact rA (I9 _) rfl
theorem ss(x:cW){f:Nat}{L:List Nat}(xs:List PyData)(hl:low<13)(hf:f<6)(hJ:J.length=f)(hL:L.length≤100)(hb:L≠[]→∀y∈J,y.nd<L.length∧y.a<L.length∧y.b<L.length)(hj:jt≠2):∀ (n s:Nat) (X:List PyData) (T:List Bool) (μ:List ah) (mk sd ch jo:Option AV),s+n≤2^f→μ[2]? =some (.live X)→X.length+n≤10000→T.length+n≤1000→μ[jt]? =some (.live (bL T))→∃mk' sd' ch' jo',
  fN (du 27) Fw aP none xs ((F6 s n).map λ(i:Nat)=>EU (i:Int)) ({x with low:=some (.d (.int low)),asked:=some (.c 2),forks:=some (.d (.list (jL J))),labels:=some (.d (.list (nL L))),words:=some (.d (.list (bS (iH low f)))),trees:=some (.c jt),mask:=mk,said:=sd,chosen:=ch,joined:=jo}).loc μ=
   some (.next,({x with low:=some (.d (.int low)),asked:=some (.c 2),forks:=some (.d (.list (jL J))),labels:=some (.d (.list (nL L))),words:=some (.d (.list (bS (iH low f)))),trees:=some (.c jt),mask:=mk',said:=sd',chosen:=ch',joined:=jo'}).loc,(μ.set 2 (.live (X++(F6 s n).map (oI low f)))).set jt (.live (bL (T++(F6 s n).map (j5 L J)))))
 |0,s,X,T,μ,mk,sd,ch,jo,_,hc,_,_,hct=>(yk mk sd ch jo (by
  simp only [List.range'_zero,LQ,DB];refine rA (eD hc) ?_;refine rA (eD hct) ?_;rfl))
 |n+1,s,X,T,μ,mk,sd,ch,jo,hs,hc,hz,hT,hct=>by
  have h2:2<μ.length:=(BJ.mp hc).1;have h3:jt<μ.length:=(BJ.mp hct).1;have hbd:=DU (mask:=s) x (sd:=sd) (ch:=ch) (jo:=jo) hl hf (by lia) hJ hL hb hj hc (by lia) (by lia) hct;refine JX (ss x xs hl hf hJ hL hb hj n (s+1) (X++[oI low f s]) (T++[j5 L J s]) ((μ.set 2 (.live (X++[oI low f s]))).set jt (.live (bL (T++[j5 L J s])))) (some (.d (.int s))) (some (.d (.str (eQ low f s)))) (some (.d (.list (eL (sr s J))))) (some (.d (.list (nL (EV L J s))))) (by lia) (by rw [Lh hj];exact cz h2) (by simp;lia) (by simp;lia) (cz (by refine rA Lq ?_;exact h3))) λmk' sd' ch' jo' e=>?_;refine (yk mk' sd' ch' jo' ?_);refine rA Rj ?_;refine rA ET ?_;refine rA ET ?_;refine rA ET ?_;refine (dK (ρ1:=({x with low:=some (.d (.int low)),asked:=some (.c 2),forks:=some (.d (.list (jL J))),labels:=some (.d (.list (nL L))),words:=some (.d (.list (bS (iH low f)))),trees:=some (.c jt),mask:=some (.d (.int s)),said:=sd,chosen:=ch,joined:=jo}:cW).loc) rfl hbd (az _ _)).trans (e.trans ?_);refine rA (ap2 μ hj _ _ _ _) ?_;refine rA (E9 _ _ _) ?_;refine rA (E9 _ _ _) ?_;rfl
theorem ak5(x:cW){L:List Nat}(hl:low<13)(hf:J.length<6)(hL:L.length≤100)(hb:L≠[]→∀y∈J,y.nd<L.length∧y.a<L.length∧y.b<L.length)(hj:jt≠2)(hc:μ[2]? =some (.live X))(hz:X.length≤1000)(hct:μ[jt]? =some (.live [])):∃mk' sd' ch' jo',
  oo ({x with low:=some (.d (.int low)),asked:=some (.c 2),forks:=some (.d (.list (jL J))),labels:=some (.d (.list (nL L))),words:=some (.d (.list (bS (iH low J.length)))),trees:=some (.c jt)}).loc μ=
   some (.next,({x with low:=some (.d (.int low)),asked:=some (.c 2),forks:=some (.d (.list (jL J))),labels:=some (.d (.list (nL L))),words:=some (.d (.list (bS (iH low J.length)))),trees:=some (.c jt),mask:=mk',said:=sd',chosen:=ch',joined:=jo'}).loc,(μ.set 2 (.live (X++(yw (2^J.length)).map (oI low J.length)))).set jt (.live (bL ((yw (2^J.length)).map (j5 L J))))):=by
 let ρ:=({x with low:=some (.d (.int low)),asked:=some (.c 2),forks:=some (.d (.list (jL J))),labels:=some (.d (.list (nL L))),words:=some (.d (.list (bS (iH low J.length)))),trees:=some (.c jt)}:cW).loc
 have h32:=AY hf;have h2:=gH (f:=a9 21) (ρ:=ρ) (μ:=μ) (V:=.d (.list (jL J))) (xs:=jL J) rfl rfl (by rw [jL];refine rA (xG _) ?_;exact aa (by lia));rw [jL,xG] at h2
 have h3:af [(aj (kI 2) (af [(a9 21)] dz) (aS gj))] cF ρ μ=some (.rng (0:Nat) (2^J.length:Nat),μ):=d4 (kj h2 (by lia)) (by
  refine (?_:some (AV.rng 0 (2^J.length),μ)=_);refine rA (show ((2:Int)^J.length)=((2^J.length:Nat):Int) by simp) ?_;rfl)
 have hi:=rz h3 (by decide) (by lia);have e0:((yw (2^J.length-0)).map λ(i:Nat)=>EU ((0+i:Nat):Int))=(F6 0 (2^J.length)).map λ(i:Nat)=>EU (i:Int):=by
  refine rA (RS _) ?_;refine rB Lj ?_;refine FH λi zz=>?_;exact rA (Ln _) rfl
 rw [e0] at hi
 refine JX (ss x ((F6 0 (2^J.length)).map λ(i:Nat)=>EU (i:Int)) hl hf rfl hL hb hj (2^J.length) 0 X [] μ x.mask x.said x.chosen x.joined (by lia) hc (by lia) (by simp;lia) hct) λmk' sd' ch' jo' e=>?_;refine (yk mk' sd' ch' jo' ?_);rw [←Lj,Lc] at e
 rw [←Lj] at hi
 unfold oo;refine rA (gI hi) ?_;exact e
theorem am4:wd 31="0x80000000":=by decide+kernel
noncomputable def mw(low f r:Nat):List Str:=iH low f++[wd 31]++(if r=3 then [] else [hx (((r:Int)-3)*2^32)])
noncomputable def Ij(low f r:Nat):PyData:=.tuple [.str (Lm ", " (mw low f r)),.str (Lm ", " (mw low f r))]
theorem Dp(low f r:Nat):Good (Ij low f r):=(fS _ _ rfl (λμ=>by
 refine (?_:some (Lm ", " (mw low f r)==Lm ", " (mw low f r))=_);exact rA (beq_self_eq_true _) rfl))
theorem ut{r:Nat}(hr:r<5):(hx (((r:Int)-3)*2^32)).length≤1000:=of_decide_eq_true (Bb.mp TA r (D3.mpr hr))
theorem UD{f r:Nat}(hl:low<13)(hf:f<6)(hr:r<5):cM [.d (.int ((2^f-1)*2^low+2^31+((r:Int)-3)*2^32))] μ=some (.d (.str (Lm ", " (mw low f r))),μ):=by
 have h:=Bb.mp (Bb.mp (Bb.mp Md f (D3.mpr hf)) low (D3.mpr hl)) r (D3.mpr hr);rw [beq_iff_eq] at h
 have e:FR ((yw f).map (λk=>low+k)++[31]) (if r=3 then none else some (((r:Int)-3)*2^32))=mw low f r:=by
  unfold mw iH
  by_cases q:r=3
  ·refine rA (if_pos q) ?_;refine rA (if_pos q) ?_
   simp only [FR,Jz,ER,DB,ET,LQ];rfl
  ·refine rA (if_neg q) ?_;refine rA (if_neg q) ?_
   simp only [FR,Jz,ER,ET,LQ];rfl
 refine rB e ?_;refine aa2 h (λfl' q=>?_)
 split at q
 ·exact ct q
 ·refine cA q ?_;exact ut hr
theorem Py(low f:Nat):iH low f=((yw f).map λk=>low+k).map wd:=by rw [iH];refine rA ER ?_;rfl
theorem H1{r:Nat}:(((r:Int)-3)*2^32=0)↔r=3:=by
 refine rA (show (2:Int)^32=4294967296 by decide) ?_;lia
theorem qK(a b:List Str):bS (a++b)=bS a++bS b:=by simp [bS]
theorem ak4(x:cW){f r:Nat}(hl:low<13)(hf:f<6)(hr:r<5)(hc:μ[2]? =some (.live X))(hz:X.length≤1000):
  o7 ({x with far:=some (.d (.int (((r:Int)-3)*2^32))),beyond:=some (.d (.list (iL [(2^f-1)*2^low+2^31]))),asked:=some (.c 2),words:=some (.d (.list (bS (iH low f))))}).loc μ=
   some (.next,({x with far:=some (.d (.int (((r:Int)-3)*2^32))),beyond:=some (.d (.list (iL [(2^f-1)*2^low+2^31]))),asked:=some (.c 2),words:=some (.d (.list (bS (iH low f))))}).loc,μ.set 2 (.live (X++[Ij low f r]))):=by
 let ρ:=({x with far:=some (.d (.int (((r:Int)-3)*2^32))),beyond:=some (.d (.list (iL [(2^f-1)*2^low+2^31]))),asked:=some (.c 2),words:=some (.d (.list (bS (iH low f))))}:cW).loc
 have a1:af [(a9 11)] v8 ρ μ=some (.d (.int ((2^f-1)*2^low+2^31)),μ):=by
  have:=Al (f:=a9 11) (ρ:=ρ) (μ:=μ) (l:=[(2^f-1)*2^low+2^31]) rfl
  refine rA this ?_;refine rA Pn ?_;refine rA RO ?_;exact rA (Int.add_zero _) rfl
 have a2:aj (af [(a9 11)] v8) (a9 6) aT ρ μ=some (.d (.int ((2^f-1)*2^low+2^31+((r:Int)-3)*2^32)),μ):=cR a1 rfl;have a3:=d4 a2 (UD hl hf hr);have hwl:(bS (iH low f)).length=f:=by simp [bS,iH]
 have b1:aj (a9 25) (aV [(kS "0x80000000")]) aT ρ μ=some (.d (.list (bS (iH low f++[wd 31]))),μ):=by
  refine rA (qK _ _) ?_;exact cS (V:=.d (.list (bS (iH low f)))) rfl (jR (qi am4.symm)) rfl rfl (aa (by refine rA hwl ?_;show f+1≤100000;lia))
 have b2:dx (bC (a9 6) (kI 0) po) (aV [(af [(a9 6)] oM)]) (aV []) ρ μ=some (.d (.list (bS (if r=3 then [] else [hx (((r:Int)-3)*2^32)]))),μ):=by
  refine ln (neI (x:=((r:Int)-3)*2^32) (y:=0) rfl rfl) (λq=>?_) (λq=>?_)
  ·have hne:¬r=3:= λe=>by
    rw [H1.mpr e] at q
    exact absurd q (by decide)
   refine rA (if_neg hne) ?_;exact jR (uY rfl (ut hr))
  ·have he:r=3:=by
    rw [Bool.not_eq_false',beq_iff_eq] at q
    exact H1.mp q
   refine rA (if_pos he) ?_;exact tu
 have b3:=cS b1 b2 rfl rfl (aa (by
  refine rA (qK _ _) ?_;refine rA be ?_;refine rA hwl ?_
  split<;>simp [bS]<;>lia))
 rw [←qK] at b3
 have hs:=tl ((yw f).map λk=>low+k);rw [←Py,xG,IN] at hs
 have h31:(wd 31).length≤20:=by
  have:=(H5 31).1
  rwa [←eA] at this
 have hxl:=ut hr;have b4:=tc (sep:=", ") b3 rfl (by
  refine rA (show (", ":Str).length=2 from by decide) ?_;have hwf:(iH low f).length=f:=by simp [iH]
  split
  ·simp only [Jz,RN,be,ET,LQ,Pn,RO,AO,EQ,hwf];lia
  ·simp only [Jz,RN,be,ET,LQ,Pn,RO,AO,EQ,hwf];lia)
 have h:=d7 (ds:=[.str (Lm ", " (mw low f r)),.str (Lm ", " (mw low f r))]) (an a3 (an b4 bW)) (aa (xF rfl));unfold o7;exact nA rfl h hc (by lia)
theorem Dk:∀T:List Bool,KX (bL T)=true:= λT=>(kK (n:=0) λx hx=>by
 refine au (DG.mp hx) λb zz zq2=>?_;subst zq2;exact jb).1
theorem Vf(T:List Bool):((bL T).any λy=>Mq y (.bool false))= !T.all id:=by
 induction T with
 |nil=>rfl
 |cons b T ih=>
  show (Mq (.bool b) (.bool false)||(bL T).any λy=>Mq y (.bool false))=_
  refine rA ih ?_;refine rA Ml ?_;cases b with
  |true=>rfl
  |false=>rfl
theorem G0{T:List Bool}(hct:μ[jt]? =some (.live (bL T))):lB (.d (.bool false)) (.c jt) μ=some (T.all id):=by
 have:XC (.d (.bool false)) (.c jt) μ=some (!T.all id):=by
  exact (f5 (rfl:mz (.d (.bool false))=none)).trans ((oO (rfl:v7 (.d (.bool false))=some _) (eP hct)).trans ((if_pos ⟨Dk T,(jb (n:=0)).shaped (by decide)⟩).trans (congrArg some (Vf _))))
 exact (bV this).trans (congrArg some (Bool.not_not _))
theorem ap4(x:cW){T:List Bool}{b:Bool}(hc:μ[2]? =some (.live X))(hz:X.length≤10000)(hX:∀y∈X,Good y)(hct:μ[jt]? =some (.live (bL T)))(hb:T.all id=b):
  nZ ({x with asked:=some (.c 2),proof:=some (.d (.bool b)),trees:=some (.c jt)}).loc μ=some (.ret (.d (.bool true)),({x with asked:=some (.c 2),proof:=some (.d (.bool b)),trees:=some (.c jt)}).loc,μ):=by
 let ρ:=({x with asked:=some (.c 2),proof:=some (.d (.bool b)),trees:=some (.c jt)}:cW).loc
 have hp:da μ (.c 2)=some X:=eP hc;have hcm:=jh (sc:=pb) (itf:=aK false (a9 12)) (t:=bC (aF (a9 31) (kI 0)) (aF (a9 31) (kI 1)) po) (e:=a9 31) (ρ:=ρ) (μ:=μ) (g:=Fh (.c 2)) (xs:=X) 31 (λzz=>false) id (d6 (V:=.c 2) rfl hp) (pt hp) (λy hy=>by
  refine kv (hX y hy) λa c zq2 h=>?_;subst zq2;refine dF (V:=.d a) (W:=.d c) (cH (k:=0) (V:=.d (.tuple [a,c])) rfl rfl rfl (by decide) rfl (aa (xF rfl))) (cH (k:=1) (V:=.d (.tuple [a,c])) rfl rfl rfl (by decide) rfl (aa (xF rfl))) ?_;exact bV (h μ)) (λzz zz zz=>rfl) (aa (by lia))
 have e0:(X.filter λzz=>false).map id=[]:=by simp
 rw [e0] at hcm
 have h1:dY (cb pb (aK false (a9 12)) (du 31) (cU (bC (aF (a9 31) (kI 0)) (aF (a9 31) (kI 1)) po) (aY (a9 31)))) (aV []) dH ρ μ=some (.d (.bool true),μ):=hH (bY hcm) tu (IZ [] [] μ);have h2:dY (kB false) (a9 26) lB ρ μ=some (.d (.bool b),μ):=hH (V:=.d (.bool false)) (W:=.c jt) rfl rfl ((G0 hct).trans (by exact rA hb rfl));have h3:dY (a9 18) (dY (kB false) (a9 26) lB) dH ρ μ=some (.d (.bool true),μ):=hH (V:=.d (.bool b)) rfl h2 (by
  refine (?_:some (b==b)=_);exact rA (beq_self_eq_true _) rfl)
 unfold nZ;exact dZ ((oV h1 (λzz=>h3)).trans rfl)
theorem VR{a b:Int}(ha:0≤a)(hb:b≤63):(sliceRange a b 6).length≤100000:=by
 unfold sliceRange;simp only [xG,IN];refine rA (if_pos (by decide)) ?_
 split<;>lia
theorem Uc(xs:List Int)(h:xs.length≤63)(k:Int):(iJ xs (some k) (some 60) (some 6)).length≤100000:=by
 refine KQ (GS ..) (VR ?_ ?_)
 ·refine (?_:(0:Int)≤if (6:Int)>0 then max 0 (min (if k<0 then k+xs.length else k) xs.length) else max (-1) (min (if k<0 then k+xs.length else k) ((xs.length:Int)-1)))
  refine rA (if_pos (by decide)) ?_;exact Int.le_max_left ..
 ·refine (?_:(if (6:Int)>0 then max (0:Int) (min (if (60:Int)<0 then (60:Int)+(xs.length:Int) else 60) (xs.length:Int)) else max (-1:Int) (min (if (60:Int)<0 then (60:Int)+(xs.length:Int) else 60) ((xs.length:Int)-1)))≤63)
  refine rA (if_pos (by decide)) ?_;lia
theorem BF(h:μ[j]? =some c):j<μ.length:=(BJ.mp h).1
abbrev Ti:SF:=(ap nS (ap oc (ap nT (ap n4 (ap ny (ap nB (ap nY (ap o8 (ap n0 (ap nq (ap mT (ap mR (ap m_ (ap nH (ap nM (ap oi (ap oo (ap o7 (ap nZ aP)))))))))))))))))))
theorem Yq(x:cW){T:Int}{G:List Fm}(hcs:cs.length=6)(hG:bJ G=F6 0 6)(ht:G.length+g7 T=6)(hc:μ[2]? =some (.live X))(hX:∀y∈X,Good y)(hz:X.length≤200):∃ρ' μ',
  Ti ({x with cells:=some (.d (.list (iL cs))),total:=some (.d (.int T)),mates:=some (.d (.list (nL (aH.getD (eo T) [])))),numbers:=some (.d (.list (iL (d9 (aH.getD (eo T) []) G++[0])))),low:=some (.d (.int (jl T))),far:=some (.d (.int (Eg T))),read:=some (.d (.list (bi (aH.getD (eo T) []) G++[J1 []]))),beyond:=some (.d (.list (iL [rJ G T]))),asked:=some (.c 2)}).loc μ=some (.ret (.d (.bool true)),ρ',μ'):=by
 have hi:=tG T;have hm:=ma hi;have htn:=mu T;have h6:(bJ G).length=6:=by refine rA hG ?_;rfl
 have hgl:=kR G 0;have hpl:=qb (aH.getD (eo T) []) G;have hnet:=SZ (i:=eo T) (G:=G) hi hG (by lia) (by lia);have hbal:=C9 hi;have hlow:=uq T;have hfar:=Nq T;generalize eo T=i at*
 have hp6:∀p∈bJ G,p<6:= λp hp=>by
  rw [hG] at hp
  have:=P2.mp hp
  lia
 have hbd:=II G 0 hp6;have hJl:(eE G 0).length≤5:=by lia
 have hfl:=Hs (·.par) (eE G 0);have hfl5:((eE G 0).filter (·.par)).length<6:=by lia
 
 let x12:cW:= {x with cells:=some (.d (.list (iL cs))),total:=some (.d (.int T)),mates:=some (.d (.list (nL (aH.getD i [])))),numbers:=some (.d (.list (iL (d9 (aH.getD i []) G++[0])))),low:=some (.d (.int (jl T))),far:=some (.d (.int (Eg T))),read:=some (.d (.list (bi (aH.getD i []) G++[J1 []]))),beyond:=some (.d (.list (iL [rJ G T]))),asked:=some (.c 2)}
 let x13:cW:= {x12 with units:=some (.d (.list (uL (uW (aH.getD i []) cs))))}
 let x14:cW:= {x13 with text:=some (.d (.str (tS (xT (aH.getD i []) cs))))}
 let x15:cW:= {x14 with shorn:=some (.d (.str (tS (vT (aH.getD i []) cs))))}
 have e12:nS x12.loc μ=some (.next,x13.loc,μ):=al6 x12 _ cs μ hm hcs;have e13:oc x13.loc μ=some (.next,x14.loc,μ):=ak8 x13 _ cs μ;have e14:nT x14.loc μ=some (.next,x15.loc,μ):=ao1 x14 _ cs μ hm hcs;refine eC λGG kG=>?_;obtain ⟨μ15,e15,hc15⟩:∃μ',n4 x15.loc μ=some (.next,x15.loc,μ')∧μ'[2]? =some (.live (X++[mA (aH.getD i []) cs])):=(aZ _ (am9 x15 _ cs X μ hc (by lia)) (cz (BF hc)));obtain ⟨X15,hX15⟩:∃Z,Z=X++[mA (aH.getD i []) cs]:=⟨_,rfl⟩;refine kG ?_;rw [←hX15] at hc15
 have hg15:∀y∈X15,Good y:= λy hy=>by
  rw [hX15,AA,yA] at hy
  rcases hy with hy|rfl
  ·exact hX y hy
  ·exact JZ _ _
 have hl15:X15.length≤201:=by refine rA hX15 ?_;simp;lia
 refine eC λGG kG=>?_;obtain ⟨μ16,e16,hc16⟩:∃μ',ny x15.loc μ15=some (.next,x15.loc,μ')∧μ'[2]? =some (.live (X15++[mM (aH.getD i []) cs])):=(aZ _ (am1 x15 _ cs X15 μ15 hc15 (by lia)) (cz (BF hc15)));obtain ⟨X16,hX16⟩:∃Z,Z=X15++[mM (aH.getD i []) cs]:=⟨_,rfl⟩;refine kG ?_;rw [←hX16] at hc16
 have hg16:∀y∈X16,Good y:= λy hy=>by
  rw [hX16,AA,yA] at hy
  rcases hy with hy|rfl
  ·exact hg15 y hy
  ·exact Ii _ _
 have hl16:X16.length≤202:=by refine rA hX16 ?_;simp;lia
 refine eC λGG kG=>?_;obtain ⟨μ17,e17,hc17⟩:∃μ',nB x15.loc μ16=some (.next,x15.loc,μ')∧μ'[2]? =some (.live (X16++[mP (aH.getD i [])])):=(aZ _ (am7 x15 _ cs G X16 μ16 hG (by lia) hc16 (by lia)) (cz (BF hc16)));obtain ⟨X17,hX17⟩:∃Z,Z=X16++[mP (aH.getD i [])]:=⟨_,rfl⟩;refine kG ?_;rw [←hX17] at hc17
 have hg17:∀y∈X17,Good y:= λy hy=>by
  rw [hX17,AA,yA] at hy
  rcases hy with hy|rfl
  ·exact hg16 y hy
  ·exact FL _
 have hl17:X17.length≤203:=by refine rA hX17 ?_;simp;lia
 refine eC λGG kG=>?_;obtain ⟨μ18,e18,hc18⟩:∃μ',nY x15.loc μ17=some (.next,x15.loc,μ')∧μ'[2]? =some (.live (X17++[k9])):=(aZ _ (al3 x15 _ cs X17 μ17 hbal.1 hc17 (by lia)) (by
  rw [EY (by rw [Lq];exact BF hc17)];exact cz (BF hc17)))
 obtain ⟨X18,hX18⟩:∃Z,Z=X17++[k9]:=⟨_,rfl⟩;refine kG ?_;rw [←hX18] at hc18
 have hg18:∀y∈X18,Good y:= λy hy=>by
  rw [hX18,AA,yA] at hy
  rcases hy with hy|rfl
  ·exact hg17 y hy
  ·exact Hm
 have hl18:X18.length≤204:=by refine rA hX18 ?_;simp;lia
 refine eC λGG kG=>?_;refine cn (ak3 x15 i cs G X18 μ18 hi hcs hG hc18 (by lia)) λY hY hYl e19'=>?_
 let x20:cW:= {x15 with proof:=some (.d (.bool (pr (aH.getD i []) 12 G)))}
 obtain ⟨μ19,e19,hc19⟩:∃μ',o8 x15.loc μ18=some (.next,x20.loc,μ')∧μ'[2]? =some (.live (X18++Y)):=(aZ _ e19' (cz (BF hc18)));obtain ⟨X19,hX19⟩:∃Z,Z=X18++Y:=⟨_,rfl⟩;refine kG ?_;rw [←hX19] at hc19
 have hg19:∀y∈X19,Good y:= λy hy=>by
  rw [hX19,AA] at hy
  rcases hy with hy|hy
  ·exact hg18 y hy
  ·exact hY y hy
 have hl19:X19.length≤504:=by refine rA hX19 ?_;refine rA be ?_;lia
 refine eC λGG kG=>?_;obtain ⟨μ20,jn,e20,hc20,hj20,hjn⟩:∃μ' jn,n0 x20.loc μ19=some (.next,({x20 with joins:=some (.c jn)}:cW).loc,μ')∧μ'[2]? =some (.live X19)∧μ'[jn]? =some (.live [])∧jn≠2:=(ul _ _ (an0 x20 μ19) (by
  rw [EY (BF hc19)];exact hc19) dp (by have:=BF hc19;lia))
 let x21:cW:= {x20 with joins:=some (.c jn)}
 refine bP (ao5 x21 (aH.getD i []) G jn μ20 hj20 hG) λw e21'=>?_
 let x22:cW:= {x21 with formula:=w}
 obtain ⟨μ21,e21,hc21,hj21⟩:∃μ',nq x21.loc μ20=some (.next,x22.loc,μ')∧μ'[2]? =some (.live X19)∧μ'[jn]? =some (.live (jL (eE G 0))):=(cJ _ e21' (by
  rw [Lh hjn];exact hc20) (cz (BF hj20)))
 let x23:cW:= {x22 with forks:=some (.d (.list (jL ((eE G 0).filter (·.par)))))}
 let x24:cW:= {x23 with start:=some (.d (.list (nL (start (aH.getD i []) (eE G 0).length))))}
 let x25:cW:= {x24 with labels:=some (.d (.list (nL (dj (start (aH.getD i []) (eE G 0).length) (i9 (eE G 0))))))}
 let x26:cW:= {x25 with names:=some (.d (.list (bS rO)))}
 let x27:cW:= {x26 with words:=some (.d (.list (bS (iH (jl T) ((eE G 0).filter (·.par)).length))))}
 have e22:mT x22.loc μ21=some (.next,x23.loc,μ21):=an9 x22 (eE G 0) jn μ21 hj21 (by lia);have e23:mR x23.loc μ21=some (.next,x24.loc,μ21):=al2 x23 _ (eE G 0) jn μ21 hm hj21 (by lia);have e24:m_ x24.loc μ21=some (.next,x25.loc,μ21):=ak2 x24 _ (eE G 0) jn μ21 hj21 (by lia) (λy hy=>by have:=hbd y hy;lia);have e25:nH x25.loc μ21=some (.next,x26.loc,μ21):=ao7 x25 μ21;have e26:nM x26.loc μ21=some (.next,x27.loc,μ21):=an7 x26 _ (jl T) μ21 hlow (by lia);obtain ⟨μ27,jt,e27,hc27,hj27,hjt⟩:∃μ' jt,oi x27.loc μ21=some (.next,({x27 with trees:=some (.c jt)}:cW).loc,μ')∧μ'[2]? =some (.live X19)∧μ'[jt]? =some (.live [])∧jt≠2:=(ul _ _ (ao3 x27 μ21) (by
  rw [EY (BF hc21)];exact hc21) dp (by have:=BF hc21;lia))
 refine kG ?_
 let x28:cW:= {x27 with trees:=some (.c jt)}
 have hLl:=nj (i9 (eE G 0)) (start (aH.getD i []) (eE G 0).length);rw [nJ] at hLl
 have hL100:(dj (start (aH.getD i []) (eE G 0).length) (i9 (eE G 0))).length≤100:=by
  rcases hLl with q|q
  ·refine rA q ?_;simp
  ·lia
 refine eC λGG kG=>?_;obtain ⟨mk,sd,ch,jo,e28'⟩:=ak5 x28 (low:=jl T) (jt:=jt) (L:=dj (start (aH.getD i []) (eE G 0).length) (i9 (eE G 0))) (J:=(eE G 0).filter (·.par)) (X:=X19) (μ:=μ27) hlow hfl5 hL100 (λhne y hy=>by
  have hy':=hbd y (Oq.mp hy).1
  rcases hLl with q|q
  ·exact absurd q hne
  ·lia) hjt hc27 (by lia) hj27
 let x29:cW:= {x28 with mask:=mk,said:=sd,chosen:=ch,joined:=jo}
 obtain ⟨X28,hX28⟩:∃Z,Z=X19++(yw (2^ ((eE G 0).filter (·.par)).length)).map (oI (jl T) ((eE G 0).filter (·.par)).length):=⟨_,rfl⟩;refine kG ?_;rw [←hX28] at e28'
 refine eC λGG kG=>?_;obtain ⟨μ28,e28,hc28,hj28⟩:∃μ',oo x28.loc μ27=some (.next,x29.loc,μ')∧μ'[2]? =some (.live X28)∧μ'[jt]? =some (.live (bL ((yw (2^ ((eE G 0).filter (·.par)).length)).map (j5 (dj (start (aH.getD i []) (eE G 0).length) (i9 (eE G 0))) ((eE G 0).filter (·.par)))))):=(cJ _ e28' (by
  rw [Lh hjt];exact cz (BF hc27)) (cz (by refine rA Lq ?_;exact BF hj27)))
 have hg28:∀y∈X28,Good y:= λy hy=>by
  rw [hX28,AA] at hy
  rcases hy with hy|hy
  ·exact hg19 y hy
  ·refine au (DG.mp hy) λk hk zq2=>?_
   subst zq2;exact Ew hlow hfl5 (D3.mp hk)
 have hl28:X28.length≤600:=by
  have:=AY hfl5
  refine rA hX28 ?_;refine rA be ?_;refine rA (xG _) ?_;refine rA IN ?_;lia
 obtain ⟨μ29,e29,hc29,hj29⟩:∃μ',o7 x29.loc μ28=some (.next,x29.loc,μ')∧μ'[2]? =some (.live (X28++[Ij (jl T) ((eE G 0).filter (·.par)).length (Io T)]))∧μ'[jt]? =some (.live (bL ((yw (2^ ((eE G 0).filter (·.par)).length)).map (j5 (dj (start (aH.getD i []) (eE G 0).length) (i9 (eE G 0))) ((eE G 0).filter (·.par)))))):=(cJ _ (ak4 x29 hlow hfl5 hfar hc28 (by lia)) (cz (BF hc28)) (by
  rw [Lh (MA hjt)];exact hj28))
 refine kG ?_;have e30:nZ x29.loc μ29=some (.ret (.d (.bool true)),x29.loc,μ29):=ap4 x29 (jt:=jt) (T:=(yw (2^ ((eE G 0).filter (·.par)).length)).map (j5 (dj (start (aH.getD i []) (eE G 0).length) (i9 (eE G 0))) ((eE G 0).filter (·.par)))) (b:=pr (aH.getD i []) 12 G) hc29 (by refine rA be ?_;simp;lia) (λy hy=>by
  rw [AA,yA] at hy
  rcases hy with hy|rfl
  ·exact hg28 y hy
  ·exact Dp _ _ _) hj29 (by
  refine rB hnet ?_;refine rA List.all_map ?_;rfl)
 exact (jH _ _ ((aB e12).trans ((aB e13).trans ((aB e14).trans ((aB e15).trans ((aB e16).trans ((aB e17).trans ((aB e18).trans ((aB e19).trans ((aB e20).trans ((aB e21).trans ((aB e22).trans ((aB e23).trans ((aB e24).trans ((aB e25).trans ((aB e26).trans ((aB e27).trans ((aB e28).trans ((aB e29).trans (cT e30))))))))))))))))))))
theorem plain_law(xs:List Int)(h:xs.length≤63):∃ρ' μ',Xm (cC (ao (ay 73)) [.d (.list (xs.map EU))]) []=some (.ret (.d (.bool true)),ρ',μ'):=by
 refine eC λGG kG=>?_;refine au (st0 {} xs [] h (Uc xs h)) λcs hcs e0'=>?_;obtain ⟨T,hT⟩:∃T,T=cs.sum:=⟨_,rfl⟩;have hi:=tG T;have hm:=ma hi
 let x0:cW:= {script:=some (.d (.list (iL xs)))}
 let x1:cW:= {x0 with cells:=some (.d (.list (iL cs)))}
 let x2:cW:= {x1 with total:=some (.d (.int T))}
 let x3:cW:= {x2 with mates:=some (.d (.list (nL (aH.getD (eo T) []))))}
 have e0:wn x0.loc []=some (.next,x1.loc,[]):=e0';have e1:vX x1.loc []=some (.next,x2.loc,[]):=by
  have:=st1 x1 cs []
  rw [←hT] at this
  exact this
 have e2:wE x2.loc []=some (.next,x3.loc,[]):=st2 x2 T [];refine cn (st3 x3 cs T (aH.getD (eo T) []) [] hcs hm) λG hG ht e3'=>?_;have htn:=mu T;have h6:(bJ G).length=6:=by refine rA hG ?_;rfl
 have hgl:=kR G 0;have hpl:=qb (aH.getD (eo T) []) G;have hnf:nf G≤5:=by
  have:=Hs (·.par) (eE G 0)
  unfold nf;lia
 obtain ⟨N,hN⟩:∃N,N=d9 (aH.getD (eo T) []) G++[0]:=⟨_,rfl⟩;have hNl:N.length≤13:=by
  refine rA hN ?_;refine rA be ?_;refine (?_:_+1≤13);lia
 refine kv (zG (cs:=cs) (T:=T) (m:=aH.getD (eo T) []) (G:=G) hnf) λos1 p hR hr=>?_
 let x4:cW:= {x3 with numbers:=some (.d (.list (iL (d9 (aH.getD (eo T) []) G++[0]))))}
 let x5:cW:= {x4 with low:=some (.d (.int (jl T))),far:=some (.d (.int (Eg T)))}
 let x6:cW:= {x5 with great:=some (.d (.int (rJ G T)))}
 let x7:cW:= {x6 with tape:=some (.c 0)}
 let x8:cW:= {x7 with told:=some (.c 1)}
 let x9:cW:= {x8 with read:=some (.d (.list (bi (aH.getD (eo T) []) G++[J1 []])))}
 let x10:cW:= {x9 with beyond:=some (.d (.list (iL [rJ G T])))}
 let x11:cW:= {x10 with asked:=some (.c 2)}
 have e3:xi x3.loc []=some (.next,x4.loc,[]):=e3';have e4:xA x4.loc []=some (.next,x5.loc,[]):=st4 x4 T [];have e5:wN x5.loc []=some (.next,x6.loc,[]):=st5 x5 T _ G [] (by lia) (by lia);have e6:wR x6.loc []=some (.next,x7.loc,[.iter (iL (sa cs T (d9 (aH.getD (eo T) []) G++[0]++[rJ G T])))]):=st6 x6 cs _ T (rJ G T) [] hcs (by refine rB hN ?_;lia);have e7:wF x7.loc [.iter (iL (sa cs T (d9 (aH.getD (eo T) []) G++[0]++[rJ G T])))]=some (.next,x8.loc,ib (sa cs T (d9 (aH.getD (eo T) []) G++[0]++[rJ G T])) []):=st7 x7 _;have e8:BU x8.loc (ib (sa cs T (d9 (aH.getD (eo T) []) G++[0]++[rJ G T])) [])=some (.next,x9.loc,ib os1 (d9 (aH.getD (eo T) []) G++[0])):=st8 x8 T _ G _ os1 hG ht hR;have e9:vM x9.loc (ib os1 (d9 (aH.getD (eo T) []) G++[0]))=some (.next,x10.loc,ib [] (d9 (aH.getD (eo T) []) G++[0])):=st9 x9 T (rJ G T) p os1 _ hr;have e10:rt x10.loc (ib [] (d9 (aH.getD (eo T) []) G++[0]))=some (.next,x11.loc,Gb (d9 (aH.getD (eo T) []) G++[0]) (rh (d9 (aH.getD (eo T) []) G++[0]) (rJ G T))):=ap6 x10 _ (rJ G T);refine lK (aj3 x11 (d9 (aH.getD (eo T) []) G++[0]) (rJ G T) T (rh (d9 (aH.getD (eo T) []) G++[0]) (rJ G T)) (Gb (d9 (aH.getD (eo T) []) G++[0]) (rh (d9 (aH.getD (eo T) []) G++[0]) (rJ G T))) (by refine rB hN ?_;lia) rfl rfl (by simp [rh])) λsy te e11'=>?_
 let x12:cW:= {x11 with symbol:=sy,tests:=te}
 obtain ⟨μ11,e11,hc11⟩:∃μ',r5 x11.loc (Gb (d9 (aH.getD (eo T) []) G++[0]) (rh (d9 (aH.getD (eo T) []) G++[0]) (rJ G T)))=some (.next,x12.loc,μ')∧μ'[2]? =some (.live (rh (d9 (aH.getD (eo T) []) G++[0]) (rJ G T)++(yM (d9 (aH.getD (eo T) []) G++[0]) (rJ G T) T).map zp)):=(aZ _ e11' (cz (by simp [Gb])));obtain ⟨ρ',μ',e⟩:=Yq x12 hcs hG ht hc11 (λy hy=>by
  rw [AA] at hy
  rcases hy with hy|hy
  ·simp only [rh,Ch,DM,or_false] at hy
   rcases hy with rfl|rfl
   ·exact dP (n:=1) (rk _) (by decide)
   ·exact dP (n:=1) (rk _) (by decide)
  ·refine au (DG.mp hy) λs zz zq2=>?_
   subst zq2;exact KE s) (by
  refine rA be ?_;refine rA (xG _) ?_;rw [yM];refine rB hN ?_
  simp [rh]
  lia)
 refine kG ?_;refine (jH ρ' μ' ?_);refine (?_:Xm x0.loc []=_);unfold Xm;exact (aB e0).trans ((aB e1).trans ((aB e2).trans ((aB e3).trans ((aB e4).trans ((aB e5).trans ((aB e6).trans ((aB e7).trans ((aB e8).trans ((aB e9).trans ((aB e10).trans ((aB e11).trans e)))))))))))
end Mine
open PySem PySem.W PyProof.Rows PySem.Calls
theorem PySem.Challenge.cw_tc0015_01_holds : PySem.Challenge.rw_tc0015_01.Holds :=
  Mine.hd2 (by
  intro w s₀ s₁ mg mb G Y fa o pm cd doc dV kV ho hd hcd hD hmg hg args vals as hpre hlay hrd hwl hlo;have X : Mine.Zk mg s₁.heap := Ground.X G;refine Ground.open G ?_;intro T B D TE TW
  wrow_args hpre hlay hrd hwl hlo
  rename Well _ _ (Value.ref _) (ofPy (PyData.list (List.map PyData.int _))) => hw
  rename ¬ ((63 : Int) < _) => hlen
  rename List Int => xs
  clear hd hD hcd G
  let C : Mine.gK := { prog := Mine.RR.prog, w := w, B := s₁.heap, os := s₁.os, mg := mg, mb := mb, g := T.g, b := T.b, bt := T.builtins, nolim := T.nolimit }
  have hlaw : Mine.di C "law" 73 := Mine.fnAt_of (C := C) T 73 "law" ∅
  have F : Mine.Rk C := ⟨Mine.fnAt_of (C := C) T 1 "_iter_escaped_chars" ∅, Mine.fnAt_of (C := C) T 2 "_strip_quoted_realnames" ∅, Mine.fnAt_of (C := C) T 3 "_check_parenthesis" ∅, Mine.fnAt_of (C := C) T 4 "_pre_parse_validation" ∅, Mine.fnAt_of (C := C) T 7 "pretty_flags" ∅, Mine.fnAt_of (C := C) T 8 "_parse_varint" ∅, Mine.fnAt_of (C := C) T 61 "ISTERMINAL" ∅, Mine.fnAt_of (C := C) T 62 "ISNONTERMINAL" ∅, Mine.fnAt_of (C := C) T 63 "ISEOF" ∅, Mine.fnAt_of (C := C) T 65 "_law_numbers" ∅, Mine.fnAt_of (C := C) T 66 "_law_octets" ∅, Mine.fnAt_of (C := C) T 67 "_law_units" ∅, Mine.fnAt_of (C := C) T 68 "_law_formula" ∅, Mine.fnAt_of (C := C) T 69 "_law_beyond" ∅, Mine.fnAt_of (C := C) T 70 "_law_proved" ∅, Mine.fnAt_of (C := C) T 71 "_law_graph" ∅, Mine.fnAt_of (C := C) T 72 "_law_joined" ∅⟩;have hno := Mine.noneOf (C := C) T (["len", "min", "range", "enumerate", "zip", "list", "sum", "iter", "next", "sorted", "isinstance", "hex", "int", "bool", "StopIteration"] : List Str) (by decide +kernel);have hm2 := Mine.mg_of2 X.2;have GG : Mine.cI C := ⟨hno, Mine.ext2 (C := C) Y hm2.1, Mine.cfn2 (C := C) Y hm2.2, Mine.constOf (C := C) T _ 256 ∅, Mine.constOf (C := C) T _ 0 ∅⟩;have hI : Mine.bl C [] [] [] s₁ := ⟨fun _ _ e => e, rfl, fun i a c e _ => by simp at e, List.nodup_nil, fun a h => by simp at h, fun a h => by simp at h, fun a h => by simp at h, fun a h => by simp at h, .of_eq hg, rfl⟩;obtain ⟨fa', o', pm', cd', doc', m1, m2, m3, m4⟩ := hlaw;obtain ⟨ρ', μ', hp⟩ := Mine.plain_law xs (by omega);have hfa : fa' = fa := by
    have := hmg;have m1' : mg "law" = some (.ref fa') := m1;rw [show Mine.dd.1.name = ("law" : Str) from ∅, m1'] at this
    cases this; rfl
  subst hfa;refine wpAny_mono (Mine.law_call (C := C) GG F m2 m3 m4 hI (Mine.well_list hw) hp) (fun v s' p => ?_) (fun _ _ x => x);obtain ⟨rfl, k1, k2, k3⟩ := p;refine ⟨.inl ⟨_, _, [], rfl, ?_, ReadsW.bool true, ?_, fun _ => ⟨List.nodup_nil, fun _ hm => (nomatch hm)⟩⟩, OldK.of_keep k1, k2, k3⟩
  · intro cls
    rfl
  · wrow_post)
