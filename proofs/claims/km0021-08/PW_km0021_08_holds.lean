import PyProof.Rows.All
import Wide.All
import OpenK.AllK
import KE.KDictIter
import Wide.FinOn
import PySem.Challenge.RW_km0021_08
set_option Elab.async false
set_option compiler.extract_closed false
set_option tactic.hygienic false
set_option linter.unusedVariables false
set_option genSizeOf false
set_option genInjectivity false
local macro_rules | `(tactic| omega) => `(tactic| first | lia | omega (config := {}))
namespace Ts
theorem oA1(h:True:=by rfl):True:=h
theorem oA2(h:True:=by intro _;rfl):True:=h
theorem oA3(h:True:=by decide):True:=h
theorem oA4(h:True:=by intro _;exact⟨_,_,rfl⟩):True:=h
theorem oA5(h:True:=by with_unfolding_all rfl):True:=h
theorem oA6(h:True:=by intro _;with_unfolding_all rfl):True:=h
theorem oA7(h:True:=by intro _ _;exact⟨_,rfl⟩):True:=h
theorem oA8(h:True:=by assumption):True:=h
theorem oA9(h:True:=by intro _ _;rfl):True:=h
theorem oA10(h:True:=by intro _;first|exact .inr ⟨_,_,rfl⟩|exact .inl rfl):True:=h
theorem oA11(h:True:=by intro _ _ _;rfl):True:=h
theorem oA12(h:True:=by intro _;first|exact⟨_,.inr rfl⟩|exact⟨_,.inl ⟨rfl,rfl⟩⟩):True:=h
open Nat renaming le_trans → Rk,lt_of_lt_of_le → Ru,le_refl → Rx,lt_of_le_of_lt → RJ,le_of_lt → RS,zero_le → RU,lt_trans → R0,le_antisymm → Sa,le_sub_one_of_lt → Sd,add_le_add_left → Se,le_add_right → Sh,ne_of_lt → Sm,lt_of_le_of_ne → Sp,le_of_lt_succ → Sy,add_lt_add_left → SD,lt_of_succ_lt → SH,sub_le → SK,not_lt → SV,lt_irrefl → S8,add_le_add → Tb,le_succ_of_le → Tc,add_le_add_right → Tf,add_sub_cancel' → Th,le_of_sub_eq_zero → Tp,ne_of_gt → TA,lt_succ_of_lt → TN,max_eq_right → TY,lt_succ_self → TZ,lt_of_not_le → T5,le_of_not_lt → T6,zero_add → T8,lt_or_eq_of_le → T9,not_lt_zero → Ui,le_add_left → Uj,sub_lt_sub_left → Uo,lt_add_of_pos_right → Up,min_le_right → Ur,pos_of_ne_zero → Uw,min_le_left → UH,le_of_eq → UI,add_lt_of_lt_sub' → UJ,sub_pos_of_lt → UL,eq_zero_of_not_pos → Vc,not_le → Vf,lt_or_ge → Vk,add_lt_add_right → Vq,mul_le_mul_left → Vw,min_eq_left → Vx,min_self → VG,add_comm → VH,le_of_succ_le → VT,casesOn → VW,add_assoc → VX,sub_self → Wd,sub_lt_sub_right → Wk,mul_le_mul_right → Wl,sub_add_cancel → WB,lt_succ_of_le → WL,succ_mul → WO,succ_le_succ → WW,min_eq_right → WX,noConfusion → Xd,le_zero → Xe,le_of_add_le_add_left → Xp,sub_add_sub_cancel → Xx,sub_le_sub_right → XO,one_pos → XW,le_succ → XX,add_left_cancel → XY,sub_lt → Yk,add_sub_assoc → Yl,le_of_not_le → Yu,zero_lt_one → YK,max_eq_left → YL,mul_le_mul → YS,lt_one_iff → YT,succ_pos → Zm,lt_asymm → Zn
open List renaming length_map → Rl,mem_cons_self → Rm,mem_cons_of_mem → Rn,mem_singleton → Rq,mem_cons → Rr,mem_append → Rw,lookup_cons → RB,mem_append_left → RC,mem_map → RE,range → RG,nodup_append → RH,not_mem_nil → RN,nodup_cons → RO,length_append → RQ,getElem?_eq_getElem → RT,mem_range → RW,size_toArray → RX,getElem?_eq_some_iff → RY,getElem?_map → RZ,mem_append_right → R3,mem_of_getElem? → R4,map_map → R6,map_append → R9,length_range → R',getD_eq_getElem?_getD → Sb,map_cons → Sl,nodup_nil → Sn,append_assoc → Sq,all_eq_true → Sv,length_eq_zero_iff → SI,flatMap_cons → SO,append_nil → SP,replicate → SQ,length_cons → SS,forall_mem_cons → SW,count_pos_iff → SY,filter_cons → S9,pairwise_append → Te,map_congr_left → Tg,take_append_drop → To,sum_cons → Tt,length_take_le' → Tu,dropLast_concat → Tv,nodup_range → Tw,mem_map_of_mem → TF,mem_filter → TJ,find?_cons → TQ,take_of_length_le → TU,mem_flatMap → TX,length_filter_le → T7,getElem?_append_left → Ub,mem_of_mem_drop → Uc,take_add_one → Ue,idxOf_lt_length_iff → Ug,replicate_succ → Um,getLast?_eq_some_getLast → Uq,mem_filterMap → Uu,range' → UA,nil_append → UB,length_zip → UC,length_singleton → UD,getElem?_eq_none → UE,getElem?_append_right → UM,mem_of_mem_take → UN,mem_take_iff_getElem → UR,cons_append → UT,flatMap_append → UU,zip_cons_cons → UZ,map_take → U0,flatMap_eq_nil_iff → U5,count_cons → U6,filter_eq_nil_iff → Va,eq_nil_or_concat → Vh,eq_nil_iff_forall_not_mem → Vi,cons_lt_cons_iff → Vj,take_length → Vm,length_drop → Vn,map_drop → Vr,getElem_range → VA,getElem_idxOf → VB,count_eq_zero → VC,pairwise_iff_getElem → VI,mem_of_find?_eq_some → VJ,getLastD_eq_getLast? → VK,getElem?_zip_eq_some → VL,getElem?_eq_none_iff → VM,drop_eq_getElem_cons → VN,pairwise_map → VQ,length_erase_of_mem → VR,flatten_cons → VS,getElem?_cons_succ → VV,mem_reverse → VY,any_eq_true → VZ,length_pos_of_mem → V1,pairwise_reverse → V8,getElem?_toArray → V9,filter_map → V',dropLast_subset → Wh,reverse_append → Wm,map_id → Wn,getElem?_range → Wo,filter_eq_self → Wp,findIdx? → Wv,filter_append → Ww,eraseIdx_append_of_length_le → Wx,all_cons → Wy,reverse_perm → WE,find?_isSome → WG,eraseIdx_eq_take_drop_succ → WH,map_nil → WM,all_map → WN,length_take → WQ,getElem_mem → WR,getD → W1,find?_some → W2,getLast?_eq_getElem? → Xj,foldl → Xq,sublist_cons_self → Xv,set_append_right → Xy,mem_iff_getElem? → Xz,reverse_reverse → XI,mem_erase_of_ne → XJ,getElem_toArray → XK,drop_eq_nil_iff → XM,getElem_of_mem → XQ,filter_flatMap → XR,filter → XS,pairwise_cons → XZ,ne_nil_of_mem → X1,map_replicate → X2,map → X3,lookup_append → X4,length_range' → X5,find?_eq_none → X6,append_of_mem → X7,getLast?_map → X9,foldl_append → Ya,find?_append → Yb,filter_congr → Yc,count_append → Yd,getElem_zip → Ym,getElem_map → Yn,flatMap_map → Yo,append_inj' → Yp,any_toArray → Yq,zip_append → Yv,range_succ → Yw,of_mem_zip → Yx,not_lt_nil → Yy,lookup_nil → Yz,length_set → YA,foldl_cons → YB,erase_cons → YC,take_left → YN,drop_left → YO,any_cons → YU,map_set → Y4,any_nil → Y5,any_map → Y6
open PySem renaming Shared → Ro,wpAny_bind → Rp,mainGlobals → Rt,Value → Rz,Addr → RD,model → RF,wpAny_execs_cons → RI,wpAny_pure → RK,wpAny → RM,starEach → RV,foldedSetIterable → R8,wpAny_mono → Sf,Around → Sg,wpAny_holding → Sr,Program → Sw,wpAny_Name → Sz,backTo → SF,wpAny_standAt → SJ,swapsWith → SR,wpAny_Call_method → Tq,behindInMarks → TB,wpAny_Call_NameR → TC,World → TG,reprText → TL,codeAny → TR,attributeBase → TS,wpAny_Expr_any → Uh,isSubtype → Ux,wpAny_call → Uy,builtinLookup_eq_fast → UO,assign → Ve,wpAny_truthy_bool → Vo,mem_of_lookup → Vt,wpAny_rule → VE,typeLookup_type → VO,wpAny_newObj_type → V2,wpAny_assign_Name → V3,wpAny_Assign_Name → V4,wpAny_of_eq → Wb,wpAny_isTrue_Compare1 → Wr,wpAny_execs_nil → Ws,wpAny_field → WJ,wpAny_Constant_none → WK,wpAny_getItem_list → WT,wpAny_Constant_int → WU,wpAny_pyIter_list → W7,wpAny_isNot_plain → W8,wpAny_Return_some → W9,builtinsNs → Xa,wpAny_eqBool_int → Xm,wpAny_Try_except → Xo,wpAny_AugAssign_AttributeAny → Xs,wpAny_newTuple → XE,wpAny_is_plain → XF,evalArgs_none → XG,wpAny_callSpecial?_slot → XU,wpAny_getItem_list_neg → X8,wpAny_setFlight_noneW → Yf,wpAny_allTrue_Or_cons → Yg,wpAny_For → Yh,wpAny_allTrue_Or_nil → Yr,wpAny_setItem_pairs → YD,wpAny_point → YE,wpAny_isTrue_BoolOp → YF,wpAny_evalPart_none → YG,wpAny_BinOp → YH,wpAny_assign_Tuple → YR,wpAny_truthy_list → YY,wpAny_sequenceKey → YZ,wpAny_load → Y0,wpAny_collect_seq → Y1,wpAny_getItem_of → Y9,wpAny_call_entry → Y',wpAny_Dict_empty → Za,wpAny_tests_nil → Zr
open Option renaming isSome_iff_exists → Rv,map_some → SM,bind_some → Vg,isSome_map → VF,map_eq_some_iff → VU,map_none → V0,none_or → Yj
open PySem.Heap renaming get?_push_of_some → Ry,get?_push_size → RL,lt_size → Ss,SameBut → Ul,size_push → US,get?_update_other → Vb,get?_update_self → Wa
open PyProof.Rows renaming wpS_bind → RP,wpS_pure → R2,Keyed → R5,Attribute_any_ → TV,wpS_mono → Vd,wpS_forRange → Vs,wpS_modify → VD,wpS_get → Wq,wpS_lift → WS,lt_int → W0,truthy_none → Zc,sub_int → Zd,neg_int → Ze,ne_int → Zf,mul_list → Zg,lt_str → Zh,gt_int → Zi,ge_int → Zj,eq_int → Zk,add_str → Zl
open Option.some renaming inj → R7,injEq → Wc
open Bool renaming and_eq_true_iff → Sj,false_eq_true → Sx,and_eq_true → SU,noConfusion → Tz,false_ne_true → Uv,not_eq_true' → WI,or_eq_true → W3,eq_iff_iff → W4,false_and → Xl,and_false → YQ,or_false → YW
open PySem.Str renaming ofString → So
open Int renaming natCast_nonneg → Su,toNat_natCast → SA,le_trans → SX,ofNat_lt → Ta,le_of_lt → TM,not_lt → Uk,le_refl → UX,lt_of_lt_of_le → U7,eq_ofNat_of_zero_le → U8,toNat_of_nonneg → Vy,fmod_nonneg_of_pos → V6,le_antisymm → Wf,fmod_lt_of_pos → WC,not_le → Xt,ofNat_le → XN,ediv_nonneg → YP,ofNat_sub → Y8,sub_zero → Zo
open Break.runK renaming match_1 → SE
open PySem.Challenge renaming rw_km0021_08 → SG,pw_km0021_08 → V7
open Array renaming size_extract_of_le → SN,getElem?_toList → TH,toList_append → TP,getElem?_eq_getElem → Ua,extract_size → UY,getElem?_extract → U9,perm_iff_toList_perm → Vz,toList_eraseIdxIfInBounds → WD,replicate → WY,toList_setIfInBounds → W5,getElem?_eq_some_iff → W6,mem_of_getElem? → Xw,toList_reverse → XB,mem_toList_iff → XC,size_extract → XT,toList → YX,ext' → Zq
open Ne renaming symm → Td
open PySem.Calls renaming spliced_cons → Tr,spliced_nil → Ud,callWith_builtin → Xu
open PySem.F renaming plainAttrs_list → TK,excRaise_ValueError → Ut,excCall_ValueError → Uz,type_list_append → UP,slot_list_append → UQ,plainAttrs_dict → VP,slot_dict_delitem → WV,slot_dict_values → WZ,slot_dict_items → Xc
open PySem.PyData renaming keyHash → Un,strOk → YJ
open PySem.Obj renaming mapSeq → Us,data_mapFields → WA,isFreed_of_fields → XH,mapFields → Y3
open PySem.Heap.SameBut renaming update → UG
open Classical renaming byContradiction → UK,choose → Wt,choose_spec → Xh,em → Ye
open Prod.mk renaming injEq → UW
open PySem.Around renaming frames_deeper → Vl,under_of_weight → Xr
open PySem.P renaming append_list → Vp
open Nat.succ renaming inj → Vu
open List.Nodup renaming mem_erase_iff → Vv
open PySem.Manifest renaming find? → V5
open List.cons renaming inj → We
open PyProof.Rows.TI renaming gone_none → Wg
open PySem.AutoIntOps renaming iadd_0 → Wi
open PySem.Value renaming isStrOf_shape → Wj,isInt_shape → Wz,isStrOf → YI,isInt → Y2
open PyProof.Rows.SortSt renaming mk' → Wu
open PySem.W renaming ownOf → Xb
open List.Perm renaming append_left → Xg
open PySem.SeqAt renaming shaped → Xi,notIn_listAt → Zs,in_listAt → Zt,eqv_refl → Zu,eqAt_reads → Zv,EqAt → Zw
open Function renaming comp_def → XA
open Array.Perm renaming refl → XD
open PySem.SeqAt.Reads renaming unique → Yi
open PySem.SeqAt.EqAt renaming str_int → Ys,int_str → Yt
open PySem.W.Looks renaming of_pure → YM
open PySem.Heap.IsSliceOf renaming new → YV
open List.Pairwise renaming of_map → Y7
open PySem.W.Fast renaming te9446332074065402090 → Zb
open False renaming elim → Zp
open PySem.Heap.DictOf renaming new → Zx
open PySem PySem.Spec PySem.Calls PyProof.Rows PySem.W
variable{G c:Prop}{e r elt target iter test arg oe:Expr}{f f':List RD}{i j dp d9 nx:Nat}{v u dflt cls:Rz}{h h₁ h₀ s₀:Heap}{x:Str}{α β:Type}{S' F0 bo:RD->Prop}{vs us:List Rz}{md m1 m2 m3:Bool}{p p' px apos fq tp:Pos}{M:Model}{op:CmpOp}{L I D fa dx:RD}{es elts args:List Expr}{T:String}{R:Result->Ro->Prop}{gens cs:List Comprehension}{scope:Scope}{s' sh:Ro}{cells:List (Str×RD)}{body orelse l6:List Stmt}{fd:FuncData}{sl:Array (Option Rz)}{kv:R5->Int}{tb:Stmt}{names:List (Str×NameKind)}{need:Nat->List Nat}{row left:List Nat}{κ:SortKind}{arr:Array R5}{s0:SortSt}
theorem oA {a b:Prop}(h:a/\b)(k:a→b→G):G:=k h.1 h.2
theorem dd{a b:Prop}(h:a/\b/\c)(k:a→b→c→G):G:=k h.1 h.2.1 h.2.2
theorem iC{a b d:Prop}(h:a/\b/\c/\d)(k:a→b→c→d→G):G:=k h.1 h.2.1 h.2.2.1 h.2.2.2
theorem Hq{a b d e:Prop}(h:a/\b/\c/\d/\e)(k:a→b→c→d→e→G):G:=k h.1 h.2.1 h.2.2.1 h.2.2.2.1 h.2.2.2.2
theorem rM{a b d e f g:Prop}(h:a/\b/\c/\d/\e/\f/\g)(k:a→b→c→d→e→f→g→G):G:=k h.1 h.2.1 h.2.2.1 h.2.2.2.1 h.2.2.2.2.1 h.2.2.2.2.2.1 h.2.2.2.2.2.2
theorem td{a b d e f g i:Prop}(h:a/\b/\c/\d/\e/\f/\g/\i)(k:a→b→c→d→e→f→g→i→G):G:=k h.1 h.2.1 h.2.2.1 h.2.2.2.1 h.2.2.2.2.1 h.2.2.2.2.2.1 h.2.2.2.2.2.2.1 h.2.2.2.2.2.2.2
theorem CA.{u0} {α:Sort u0}{a b d e:Prop}{f:α→Prop}(h:a/\b/\c/\d/\e/\∃x,f x)(k:a→b→c→d→e→∀x,f x→G):G:=h.2.2.2.2.2.elim λx h1=>k h.1 h.2.1 h.2.2.1 h.2.2.2.1 h.2.2.2.2.1 x h1
theorem eQ.{u0,u1,u2} {α:Sort u0}{β:Sort u1}{γ:Sort u2}{a b:Prop}{c d:α→β→γ→Prop}(h:a/\b/\∃x y z,c x y z/\d x y z)(k:a→b→∀x y z,c x y z→d x y z→G):G:=h.2.2.elim λx h1=>h1.elim λy h2=>h2.elim λz h3=>k h.1 h.2.1 x y z h3.1 h3.2
theorem J'.{u0} {α:Sort u0}{a:Prop}{b:α→Prop}(h:a/\∃x,b x)(k:a→∀x,b x→G):G:=h.2.elim λx h1=>k h.1 x h1
theorem ei.{u0} {α:Sort u0}{a:Prop}{b c:α→Prop}(h:a/\∃x,b x/\c x)(k:a→∀x,b x→c x→G):G:=h.2.elim λx h1=>k h.1 x h1.1 h1.2
theorem fP.{u0,u1,u2,u3} {α:Sort u0}{β:Sort u1}{γ:Sort u2}{δ:Sort u3}{a:Prop}{b c d e f:α→β→γ→δ→Prop}(h:a/\∃x y z u,b x y z u/\c x y z u/\d x y z u/\e x y z u/\f x y z u)(k:a→∀x y z u,b x y z u→c x y z u→d x y z u→e x y z u→f x y z u→G):G:=h.2.elim λx h1=>h1.elim λy h2=>h2.elim λz h3=>h3.elim λu h4=>k h.1 x y z u h4.1 h4.2.1 h4.2.2.1 h4.2.2.2.1 h4.2.2.2.2
theorem oE.{u0} {α:Sort u0}{a:α→Prop}(h:∃x,a x)(k:∀x,a x→G):G:=h.elim λx h1=>k x h1
theorem aD.{u0} {α:Sort u0}{a b:α→Prop}(h:∃x,a x/\b x)(k:∀x,a x→b x→G):G:=h.elim λx h1=>k x h1.1 h1.2
theorem bM.{u0} {α:Sort u0}{a b c:α→Prop}(h:∃x,a x/\b x/\c x)(k:∀x,a x→b x→c x→G):G:=h.elim λx h1=>k x h1.1 h1.2.1 h1.2.2
theorem gj.{u0} {α:Sort u0}{a b c d:α→Prop}(h:∃x,a x/\b x/\c x/\d x)(k:∀x,a x→b x→c x→d x→G):G:=h.elim λx h1=>k x h1.1 h1.2.1 h1.2.2.1 h1.2.2.2
theorem AR.{u0} {α:Sort u0}{a b c d e:α→Prop}(h:∃x,a x/\b x/\c x/\d x/\e x)(k:∀x,a x→b x→c x→d x→e x→G):G:=h.elim λx h1=>k x h1.1 h1.2.1 h1.2.2.1 h1.2.2.2.1 h1.2.2.2.2
theorem Cj.{u0} {α:Sort u0}{a b c d e f:α→Prop}(h:∃x,a x/\b x/\c x/\d x/\e x/\f x)(k:∀x,a x→b x→c x→d x→e x→f x→G):G:=h.elim λx h1=>k x h1.1 h1.2.1 h1.2.2.1 h1.2.2.2.1 h1.2.2.2.2.1 h1.2.2.2.2.2
theorem AG.{u0} {α:Sort u0}{a b c d e f g:α→Prop}(h:∃x,a x/\b x/\c x/\d x/\e x/\f x/\g x)(k:∀x,a x→b x→c x→d x→e x→f x→g x→G):G:=h.elim λx h1=>k x h1.1 h1.2.1 h1.2.2.1 h1.2.2.2.1 h1.2.2.2.2.1 h1.2.2.2.2.2.1 h1.2.2.2.2.2.2
theorem m8.{u0} {α:Sort u0}{a b c d e f g i j:α→Prop}(h:∃x,a x/\b x/\c x/\d x/\e x/\f x/\g x/\i x/\j x)(k:∀x,a x→b x→c x→d x→e x→f x→g x→i x→j x→G):G:=h.elim λx h1=>k x h1.1 h1.2.1 h1.2.2.1 h1.2.2.2.1 h1.2.2.2.2.1 h1.2.2.2.2.2.1 h1.2.2.2.2.2.2.1 h1.2.2.2.2.2.2.2.1 h1.2.2.2.2.2.2.2.2
theorem vV.{u0,u1} {α:Sort u0}{β:Sort u1}{a b c d e f:α→Prop}{g i:α→β→Prop}(h:∃x,a x/\b x/\c x/\d x/\e x/\f x/\∃y,g x y/\i x y)(k:∀x,a x→b x→c x→d x→e x→f x→∀y,g x y→i x y→G):G:=h.elim λx h1=>h1.2.2.2.2.2.2.elim λy h2=>k x h1.1 h1.2.1 h1.2.2.1 h1.2.2.2.1 h1.2.2.2.2.1 h1.2.2.2.2.2.1 y h2.1 h2.2
theorem Dj.{u0,u1} {α:Sort u0}{β:Sort u1}{a b:α→Prop}{c:α→β→Prop}(h:∃x,a x/\b x/\∃y,c x y)(k:∀x,a x→b x→∀y,c x y→G):G:=h.elim λx h1=>h1.2.2.elim λy h2=>k x h1.1 h1.2.1 y h2
theorem DA.{u0,u1} {α:Sort u0}{β:Sort u1}{a:α→Prop}{b c:α→β→Prop}(h:∃x,a x/\∃y,b x y/\c x y)(k:∀x,a x→∀y,b x y→c x y→G):G:=h.elim λx h1=>h1.2.elim λy h2=>k x h1.1 y h2.1 h2.2
theorem DL.{u0,u1} {α:Sort u0}{β:Sort u1}{a:α→Prop}{b c d:α→β→Prop}(h:∃x,a x/\∃y,b x y/\c x y/\d x y)(k:∀x,a x→∀y,b x y→c x y→d x y→G):G:=h.elim λx h1=>h1.2.elim λy h2=>k x h1.1 y h2.1 h2.2.1 h2.2.2
theorem HY.{u0,u1,u2} {α:Sort u0}{β:Sort u1}{γ:Sort u2}{a:α→Prop}{b:α→β→γ→Prop}(h:∃x,a x/\∃y z,b x y z)(k:∀x,a x→∀y z,b x y z→G):G:=h.elim λx h1=>h1.2.elim λy h2=>h2.elim λz h3=>k x h1.1 y z h3
theorem jH.{u0,u1} {α:Sort u0}{β:Sort u1}{a:α→β→Prop}(h:∃x y,a x y)(k:∀x y,a x y→G):G:=h.elim λx h1=>h1.elim λy h2=>k x y h2
theorem aM.{u0,u1} {α:Sort u0}{β:Sort u1}{a b:α→β→Prop}(h:∃x y,a x y/\b x y)(k:∀x y,a x y→b x y→G):G:=h.elim λx h1=>h1.elim λy h2=>k x y h2.1 h2.2
theorem lW.{u0,u1} {α:Sort u0}{β:Sort u1}{a b c:α→β→Prop}(h:∃x y,a x y/\b x y/\c x y)(k:∀x y,a x y→b x y→c x y→G):G:=h.elim λx h1=>h1.elim λy h2=>k x y h2.1 h2.2.1 h2.2.2
theorem qW.{u0,u1} {α:Sort u0}{β:Sort u1}{a b c d:α→β→Prop}(h:∃x y,a x y/\b x y/\c x y/\d x y)(k:∀x y,a x y→b x y→c x y→d x y→G):G:=h.elim λx h1=>h1.elim λy h2=>k x y h2.1 h2.2.1 h2.2.2.1 h2.2.2.2
theorem xc.{u0,u1} {α:Sort u0}{β:Sort u1}{a b c d e:α→β→Prop}(h:∃x y,a x y/\b x y/\c x y/\d x y/\e x y)(k:∀x y,a x y→b x y→c x y→d x y→e x y→G):G:=h.elim λx h1=>h1.elim λy h2=>k x y h2.1 h2.2.1 h2.2.2.1 h2.2.2.2.1 h2.2.2.2.2
theorem uY.{u0,u1,u2} {α:Sort u0}{β:Sort u1}{γ:Sort u2}{a:α→β→Prop}{b c:α→β→γ→Prop}(h:∃x y,a x y/\∃z,b x y z/\c x y z)(k:∀x y,a x y→∀z,b x y z→c x y z→G):G:=h.elim λx h1=>h1.elim λy h2=>h2.2.elim λz h3=>k x y h2.1 z h3.1 h3.2
theorem Ck.{u0,u1,u2} {α:Sort u0}{β:Sort u1}{γ:Sort u2}{a:α→β→Prop}{b c d:α→β→γ→Prop}(h:∃x y,a x y/\∃z,b x y z/\c x y z/\d x y z)(k:∀x y,a x y→∀z,b x y z→c x y z→d x y z→G):G:=h.elim λx h1=>h1.elim λy h2=>h2.2.elim λz h3=>k x y h2.1 z h3.1 h3.2.1 h3.2.2
theorem aP.{u0,u1,u2} {α:Sort u0}{β:Sort u1}{γ:Sort u2}{a b:α→β→γ→Prop}(h:∃x y z,a x y z/\b x y z)(k:∀x y z,a x y z→b x y z→G):G:=h.elim λx h1=>h1.elim λy h2=>h2.elim λz h3=>k x y z h3.1 h3.2
theorem fh.{u0,u1,u2} {α:Sort u0}{β:Sort u1}{γ:Sort u2}{a b c:α→β→γ→Prop}(h:∃x y z,a x y z/\b x y z/\c x y z)(k:∀x y z,a x y z→b x y z→c x y z→G):G:=h.elim λx h1=>h1.elim λy h2=>h2.elim λz h3=>k x y z h3.1 h3.2.1 h3.2.2
theorem mD.{u0,u1,u2} {α:Sort u0}{β:Sort u1}{γ:Sort u2}{a b c d:α→β→γ→Prop}(h:∃x y z,a x y z/\b x y z/\c x y z/\d x y z)(k:∀x y z,a x y z→b x y z→c x y z→d x y z→G):G:=h.elim λx h1=>h1.elim λy h2=>h2.elim λz h3=>k x y z h3.1 h3.2.1 h3.2.2.1 h3.2.2.2
theorem zh.{u0,u1,u2} {α:Sort u0}{β:Sort u1}{γ:Sort u2}{a b c d e:α→β→γ→Prop}(h:∃x y z,a x y z/\b x y z/\c x y z/\d x y z/\e x y z)(k:∀x y z,a x y z→b x y z→c x y z→d x y z→e x y z→G):G:=h.elim λx h1=>h1.elim λy h2=>h2.elim λz h3=>k x y z h3.1 h3.2.1 h3.2.2.1 h3.2.2.2.1 h3.2.2.2.2
theorem fA.{u0,u1,u2} {α:Sort u0}{β:Sort u1}{γ:Sort u2}{a b c d e f:α→β→γ→Prop}(h:∃x y z,a x y z/\b x y z/\c x y z/\d x y z/\e x y z/\f x y z)(k:∀x y z,a x y z→b x y z→c x y z→d x y z→e x y z→f x y z→G):G:=h.elim λx h1=>h1.elim λy h2=>h2.elim λz h3=>k x y z h3.1 h3.2.1 h3.2.2.1 h3.2.2.2.1 h3.2.2.2.2.1 h3.2.2.2.2.2
theorem vH.{u0,u1,u2} {α:Sort u0}{β:Sort u1}{γ:Sort u2}{a b c d e f g:α→β→γ→Prop}(h:∃x y z,a x y z/\b x y z/\c x y z/\d x y z/\e x y z/\f x y z/\g x y z)(k:∀x y z,a x y z→b x y z→c x y z→d x y z→e x y z→f x y z→g x y z→G):G:=h.elim λx h1=>h1.elim λy h2=>h2.elim λz h3=>k x y z h3.1 h3.2.1 h3.2.2.1 h3.2.2.2.1 h3.2.2.2.2.1 h3.2.2.2.2.2.1 h3.2.2.2.2.2.2
theorem kZ.{u0,u1,u2,u3} {α:Sort u0}{β:Sort u1}{γ:Sort u2}{δ:Sort u3}{a:α→β→γ→δ→Prop}(h:∃x y z u,a x y z u)(k:∀x y z u,a x y z u→G):G:=h.elim λx h1=>h1.elim λy h2=>h2.elim λz h3=>h3.elim λu h4=>k x y z u h4
theorem cU.{u0,u1,u2,u3} {α:Sort u0}{β:Sort u1}{γ:Sort u2}{δ:Sort u3}{a b:α→β→γ→δ→Prop}(h:∃x y z u,a x y z u/\b x y z u)(k:∀x y z u,a x y z u→b x y z u→G):G:=h.elim λx h1=>h1.elim λy h2=>h2.elim λz h3=>h3.elim λu h4=>k x y z u h4.1 h4.2
theorem xh.{u0,u1,u2,u3} {α:Sort u0}{β:Sort u1}{γ:Sort u2}{δ:Sort u3}{a b c:α→β→γ→δ→Prop}(h:∃x y z u,a x y z u/\b x y z u/\c x y z u)(k:∀x y z u,a x y z u→b x y z u→c x y z u→G):G:=h.elim λx h1=>h1.elim λy h2=>h2.elim λz h3=>h3.elim λu h4=>k x y z u h4.1 h4.2.1 h4.2.2
theorem nA.{u0,u1,u2,u3} {α:Sort u0}{β:Sort u1}{γ:Sort u2}{δ:Sort u3}{a b c d:α→β→γ→δ→Prop}(h:∃x y z u,a x y z u/\b x y z u/\c x y z u/\d x y z u)(k:∀x y z u,a x y z u→b x y z u→c x y z u→d x y z u→G):G:=h.elim λx h1=>h1.elim λy h2=>h2.elim λz h3=>h3.elim λu h4=>k x y z u h4.1 h4.2.1 h4.2.2.1 h4.2.2.2
theorem xx.{u0,u1,u2,u3} {α:Sort u0}{β:Sort u1}{γ:Sort u2}{δ:Sort u3}{a b c d e:α→β→γ→δ→Prop}(h:∃x y z u,a x y z u/\b x y z u/\c x y z u/\d x y z u/\e x y z u)(k:∀x y z u,a x y z u→b x y z u→c x y z u→d x y z u→e x y z u→G):G:=h.elim λx h1=>h1.elim λy h2=>h2.elim λz h3=>h3.elim λu h4=>k x y z u h4.1 h4.2.1 h4.2.2.1 h4.2.2.2.1 h4.2.2.2.2
theorem wm.{u0,u1,u2,u3,u4} {α:Sort u0}{β:Sort u1}{γ:Sort u2}{δ:Sort u3}{ε:Sort u4}{a b:α→β→γ→δ→ε→Prop}(h:∃x y z u v,a x y z u v/\b x y z u v)(k:∀x y z u v,a x y z u v→b x y z u v→G):G:=h.elim λx h1=>h1.elim λy h2=>h2.elim λz h3=>h3.elim λu h4=>h4.elim λv h5=>k x y z u v h5.1 h5.2
theorem xy.{u0,u1,u2,u3,u4} {α:Sort u0}{β:Sort u1}{γ:Sort u2}{δ:Sort u3}{ε:Sort u4}{a b c d:α→β→γ→δ→ε→Prop}(h:∃x y z u v,a x y z u v/\b x y z u v/\c x y z u v/\d x y z u v)(k:∀x y z u v,a x y z u v→b x y z u v→c x y z u v→d x y z u v→G):G:=h.elim λx h1=>h1.elim λy h2=>h2.elim λz h3=>h3.elim λu h4=>h4.elim λv h5=>k x y z u v h5.1 h5.2.1 h5.2.2.1 h5.2.2.2
theorem ua.{u0,u1,u2,u3,u4,u5} {α:Sort u0}{β:Sort u1}{γ:Sort u2}{δ:Sort u3}{ε:Sort u4}{ζ:Sort u5}{a b:α→β→γ→δ→ε→ζ→Prop}(h:∃x y z u v w,a x y z u v w/\b x y z u v w)(k:∀x y z u v w,a x y z u v w→b x y z u v w→G):G:=h.elim λx h1=>h1.elim λy h2=>h2.elim λz h3=>h3.elim λu h4=>h4.elim λv h5=>h5.elim λw h6=>k x y z u v w h6.1 h6.2
theorem jQ.{u0,u1,u2,u3,u4,u5,u6} {α:Sort u0}{β:Sort u1}{γ:Sort u2}{δ:Sort u3}{ε:Sort u4}{ζ:Sort u5}{η:Sort u6}{a b c d e f g i j k l:α→β→γ→δ→ε→ζ→η→Prop}(h:∃x y z u v w r,a x y z u v w r/\b x y z u v w r/\c x y z u v w r/\d x y z u v w r/\e x y z u v w r/\f x y z u v w r/\g x y z u v w r/\i x y z u v w r/\j x y z u v w r/\k x y z u v w r/\l x y z u v w r)(k:∀x y z u v w r,a x y z u v w r→b x y z u v w r→c x y z u v w r→d x y z u v w r→e x y z u v w r→f x y z u v w r→g x y z u v w r→i x y z u v w r→j x y z u v w r→k x y z u v w r→l x y z u v w r→G):G:=h.elim λx h1=>h1.elim λy h2=>h2.elim λz h3=>h3.elim λu h4=>h4.elim λv h5=>h5.elim λw h6=>h6.elim λr h7=>k x y z u v w r h7.1 h7.2.1 h7.2.2.1 h7.2.2.2.1 h7.2.2.2.2.1 h7.2.2.2.2.2.1 h7.2.2.2.2.2.2.1 h7.2.2.2.2.2.2.2.1 h7.2.2.2.2.2.2.2.2.1 h7.2.2.2.2.2.2.2.2.2.1 h7.2.2.2.2.2.2.2.2.2.2
noncomputable abbrev dD(pos:Pos)(env:Env)(as:List Expr):Prop:=((SF pos (RV as env)).all (λx=>!x.1)&&(backToKw pos (keywordEach [] env)).all (λx=>x.1.isSome)&&decide (as.length+([]:List Keyword).length+(if([]:List Keyword).isEmpty then 0 else 1)<30))=true
noncomputable abbrev fH(e:Expr)(name:Str):Prop:=∀env,TS e name env (eval e env)=eval e env
noncomputable abbrev kH(args:List Expr)(pos:Pos)(b:Bool):Prop:=∀env,methodCallForm (args.length+([]:List Keyword).length) (SF pos (RV args env)) (backToKw pos (keywordEach [] env))=b
noncomputable abbrev Hk(args:List Expr)(pos:Pos):Prop:=∀env,SF pos (RV args env)=[]\/∃x r,SF pos (RV args env)=(false,x)::r
noncomputable abbrev zT(args:List Expr)(pos:Pos):Prop:=∀env,∃x rest,SF pos (RV args env)=(false,x)::rest
noncomputable abbrev jq(args:List Expr)(pos:Pos)(b:Bool):Prop:=∀env,(SF pos (RV args env)).any (·.1)=b
noncomputable abbrev uC(e:Expr)(es:List Expr):Prop:=∀env,RV (e::es) env=(false,eval e env)::RV es env
noncomputable abbrev treeE(e:Expr)(pos:Pos):Prop:=∀env,SF pos (RV [e] env)=[(false,eval e env)]
noncomputable abbrev bk(x:Str):Prop:=(x==("__debug__":Str))=false
noncomputable abbrev kB(i:Expr):Prop:=∀o iv,∃ops,subscripted i false o iv=operate ops (getItem o iv)
set_option genInjectivity true in
inductive Key where
 |int (i:Int)
 |str (s:Str)
 deriving DecidableEq
variable{ks ot:List Key}
noncomputable def Key.is:Key->Rz->Bool
 | .int i,v=>Y2 i v
 | .str s,v=>YI s v
theorem Key.shape{k:Key}(h:k.is v=true):(∃i t,k= .int i/\v= .int i t)\/(∃x t,k= .str x/\v= .str x t):=by
 cases k with
 |int i=>refine oE (Wz (k:=i) h) λt e=>?_;exact .inl ⟨i,t,rfl,e⟩
 |str x=>refine oE (Wj (x:=x) h) λt e=>?_;exact .inr ⟨x,t,rfl,e⟩
theorem Key.Ew(i:Int)(t:Tok):(Key.int i).is (.int i t)=true:=by simp[Key.is,Y2]
theorem Key.DZ(x:Str)(t:Tok):(Key.str x).is (.str x t)=true:=by simp[Key.is,YI]
theorem CD(i j:Int):(i==j)=decide (Key.int i=Key.int j):=by
 by_cases h:i=j
 ·rw[h,beq_self_eq_true,decide_eq_true rfl]
 ·rw[decide_eq_false λe=>h (Key.int.inj e)];exact beq_eq_false_iff_ne.mpr h
noncomputable def aw(prog:Sw)(w:TG):PySem.KeyKind prog w Key where
 is:=Key.is
 hash:=λk=>match k with| .int i=>hashInt i| .str x=>hashStr w x
 inj:=λv a b ha hb=>by
  rcases Key.shape ha with⟨i,t,rfl,rfl⟩|⟨x,t,rfl,rfl⟩<;>rcases Key.shape hb with⟨j,u,rfl,e⟩|⟨y,u,rfl,e⟩<;>cases e<;>rfl
 byValue:=λk v h=>by
  rcases Key.shape h with⟨i,t,rfl,rfl⟩|⟨x,t,rfl,rfl⟩<;>rfl
 pyHash:=λhv h=>by
  rcases Key.shape hv with⟨i,t,rfl,rfl⟩|⟨x,t,rfl,rfl⟩
  ·exact wpAny_pyHash_int h
  ·exact wpAny_pyHash_str h
 eqBool:=λ{A E s a b u v Q} hu hv h=>by
  rcases Key.shape hu with⟨i,t,rfl,rfl⟩|⟨x,t,rfl,rfl⟩<;>rcases Key.shape hv with⟨j,r,rfl,rfl⟩|⟨y,r,rfl,rfl⟩
  ·refine Xm ?_;rw[CD];exact h
  ·refine Yt i t y r prog w E Q ?_;rwa[decide_eq_false nofun]at h
  ·refine Ys x t j r prog w E Q ?_;rwa[decide_eq_false nofun]at h
  ·refine wpAny_eqBool_str ?_;rw[decide_eq_decide.mpr (⟨congrArg Key.str,Key.str.inj⟩:x=y↔Key.str x=Key.str y)];exact h
 «strs»:=λk x t v h=>by
  rcases Key.shape h with⟨i,u,rfl,e⟩|⟨y,u,rfl,e⟩<;>cases e
  cases v<;>rfl
structure aj where
 key:Key
 np:Int
 succ:List Key
 loc:RD
 dc:RD
 lst:RD
structure aa where
 loc:RD
 d:RD
 n2:RD
 nodes:List aj
 aI:Option (RD×List Key)
 au:Int
 az:Int
variable{X:aa}
structure AN where
 key:Key
 np:Int
 succ:List Key
set_option genInjectivity true in
structure AS where
 nodes:List AN
 aI:Option (List Key)
 au:Int
 az:Int
variable{a a':AS}
noncomputable def aj.abs(x:aj):AN:=⟨x.key,x.np,x.succ⟩
noncomputable def aa.abs(St:aa):AS:=⟨St.nodes.map aj.abs,St.aI.map (·.2),St.au,St.az⟩
noncomputable def kD:RD:=137
noncomputable def lL:RD:=40
noncomputable def aj.fp(x:aj):List RD:=[x.loc,x.dc,x.lst]
noncomputable def aa.sV(S:aa):List RD:=match S.aI with|none=>[]|some r=>[r.1]
noncomputable def aa.fp(S:aa)(a:RD):List RD:=a::S.d::S.n2::(S.sV++S.nodes.flatMap aj.fp)
noncomputable def aa.tR(S:aa):Rz:=match S.aI with|none=>.none|some r=>.ref r.1
inductive KeysAre:List Rz->List Key->Prop
 |nil:KeysAre [] []
 |cons {v vs k ks:_}:k.is v=true->KeysAre vs ks->KeysAre (v::vs) (k::ks)
noncomputable def eU(x:aj)(kv:Rz)(t:Tok):Obj:={cls:=.ref lL,dict:=some x.dc,data:=.plain,slots:=#[some kv,some (.int x.np t),some (.ref x.lst)]}
structure da(h:Heap)(x:aj):Prop where
 inst:∃kv t,x.key.is kv=true/\h.get? x.loc=some (eU x kv t)
 dict:h.get? x.dc=some {cls:=.type "dict",data:=.dict #[]}
 list:∃vs n,h.get? x.lst=some {cls:=.type "list",data:=.seq (vs:List Rz).toArray n}/\KeysAre vs x.succ
noncomputable def bL(w:TG)(ks:Tok×Tok×Tok×Tok)(n2:RD)(aI:Rz)(np nf:Int)(t1 t2:Tok):List DictEntry:=
 [⟨Un w.params (So "_node2info"),.str (So "_node2info") ks.1,.ref n2⟩,
  ⟨Un w.params (So "_ready_nodes"),.str (So "_ready_nodes") ks.2.1,aI⟩,
  ⟨Un w.params (So "_npassedout"),.str (So "_npassedout") ks.2.2.1,.int np t1⟩,
  ⟨Un w.params (So "_nfinished"),.str (So "_nfinished") ks.2.2.2,.int nf t2⟩]
structure ah(prog:Sw)(w:TG)(h:Heap)(a:RD)(S:aa):Prop where
 at_:a=S.loc
 lo:Rt<S.n2
 nd:(S.fp a).Nodup
 inst:h.get? a=some {cls:=.ref kD,dict:=some S.d}
 dict:∃ks t1 t2 n,h.get? S.d=some {cls:=.type "dict",data:=.dict (bL w ks S.n2 S.tR S.au S.az t1 t2).toArray n}
 map:h.DictOf (aw prog w) S.n2 (S.nodes.map λx=>(x.key,Value.ref x.loc))
 nodes:∀x∈S.nodes,da h x
 ready:∀r,S.aI=some r->∃vs n,h.get? r.1=some {cls:=.type "list",data:=.seq (vs:List Rz).toArray n}/\KeysAre vs r.2
theorem da.mono{h':Heap}{x:aj}(r:da h x)(hk:∀b∈x.fp,∀o,h.get? b=some o->h'.get? b=some o):da h' x where
 inst:=aM r.inst λkv t h1 h2=>⟨kv,t,h1,hk _ (by simp[aj.fp]) _ h2⟩
 dict:=hk _ (by simp[aj.fp]) _ r.dict
 list:=aM r.list λvs n h1 h2=>⟨vs,n,hk _ (by simp[aj.fp]) _ h1,h2⟩
theorem da.there{x:aj}(r:da h x):∀b∈x.fp,(h.get? b).isSome=true:=by
 intro b hb;simp only[aj.fp,Rr,RN,or_false]at hb;rcases hb with rfl|rfl|rfl
 ·refine aM r.inst λkv t _ h2=>?_;rw[h2];rfl
 ·rw[r.dict];rfl
 ·refine aM r.list λvs n h1 _=>?_;rw[h1];rfl
theorem aa.cb{S:aa}{a b:RD}{x:aj}(hx:x∈S.nodes)(hb:b∈x.fp):b∈S.fp a:=by
 unfold aa.fp;simp only[Rr,Rw,TX];exact .inr (.inr (.inr (.inr ⟨x,hx,hb⟩)))
theorem aa.gZ{S:aa}{a:RD}{r:RD×List Key}(hr:S.aI=some r):r.1∈S.fp a:=by
 unfold aa.fp aa.sV;simp[hr]
theorem ah.mono{prog:Sw}{w:TG}{h':Heap}{a:RD}{S:aa}(x:ah prog w h a S)(hk:∀b∈S.fp a,∀o,h.get? b=some o->h'.get? b=some o):ah prog w h' a S where
 at_:=x.at_
 lo:=x.lo
 nd:=x.nd
 inst:=hk _ (by simp[aa.fp]) _ x.inst
 dict:=x.dict.imp λks h=>h.imp λt1 h=>h.imp λt2 h=>h.imp λn h1=>hk _ (by simp[aa.fp]) _ h1
 map:=x.map.imp λo h=>h.imp λes h=>h.imp λep h=>⟨hk _ (by simp[aa.fp]) _ h.1,h.2⟩
 nodes:=λy hy=>(x.nodes y hy).mono λb hb=>hk b (aa.cb hy hb)
 ready:=λr hr=>(x.ready r hr).imp λvs h=>h.imp λn h=>⟨hk _ (aa.gZ hr) _ h.1,h.2⟩
theorem ah.there{prog:Sw}{w:TG}{a:RD}{S:aa}(x:ah prog w h a S):∀b∈S.fp a,(h.get? b).isSome=true:=by
 intro b hb;unfold aa.fp at hb;simp only[Rr,Rw,TX]at hb;rcases hb with rfl|rfl|rfl|hb|⟨y,hy,hb⟩
 ·rw[x.inst];rfl
 ·refine kZ x.dict λks t1 t2 n h1=>?_;rw[h1];rfl
 ·refine aP x.map λo _ _ ho _=>?_;rw[ho];rfl
 ·unfold aa.sV at hb;cases hr:S.aI with
  |none=>rw[hr]at hb;simp at hb
  |some r=>
   rw[hr]at hb;refine aM (x.ready r hr) λvs n h1 _=>?_;have:b=r.1:=by simpa using hb
   rw[this,h1];rfl
 ·have r:=x.nodes y hy;simp only[aj.fp,Rr,RN,or_false]at hb;rcases hb with rfl|rfl|rfl
  ·refine aM r.inst λkv t _ h2=>?_;rw[h2];rfl
  ·rw[r.dict];rfl
  ·refine aM r.list λvs n h1 _=>?_;rw[h1];rfl
inductive PV where
 |none|bool (b:Bool)|int (i:Int)|str (s:Str)
 |list (xs:List PV)|tuple (xs:List PV)
 |jD (a b c:Int)
 |dict (kvs:List (Key×PV))
 |raw (v:Rz)
 |aK (S:aa)
 |ay (a:AS)
 |info (x:aj)
 |set (ks:List Key)
 |exc (cls:Rz) (args:List PV)
 |i6 (p:Option (RD×Nat))
variable{kvs:List (Key×PV)}{xs ys outs:List PV}{y:PV}{post:aa->PV->Prop}
noncomputable abbrev cz(it:RD):Obj:={cls:=.type "method-wrapper",data:=.fields #[.builtin "list_iterator.__next__",.ref it]}
noncomputable abbrev gN(vs:List Rz)(n:Nat):Obj:={cls:=.type "list",data:=.seq vs.toArray n}
noncomputable abbrev yO(vs:List Rz)(n:Nat):Obj:={cls:=.type "tuple",data:=.seq vs.toArray n}
noncomputable abbrev LY(a b c:Int)(t1 t2 t3:Tok):Obj:={cls:=.type "range",data:=.fields #[.int a t1,.int b t2,.int c t3]}
mutual
inductive Rd(prog:Sw)(w:TG)(S:RD->Prop)(h:Heap):Rz->PV->Prop
 |none:Rd prog w S h .none .none
 |bool (b:_):Rd prog w S h (.bool b) (.bool b)
 |int (i t:_):Rd prog w S h (.int i t) (.int i)
 |str (x t:_):Rd prog w S h (.str x t) (.str x)
 |list {a vs n xs:_}:S a->h.get? a=some (gN vs n)->ab prog w S h vs xs->Rd prog w S h (.ref a) (.list xs)
 |tuple {a vs n xs:_}:S a->h.get? a=some (yO vs n)->ab prog w S h vs xs->Rd prog w S h (.ref a) (.tuple xs)
 |jD {a x y z t1 t2 t3:_}:S a->h.get? a=some (LY x y z t1 t2 t3)->Rd prog w S h (.ref a) (.jD x y z)
 |dict {a vs:_} {kvs:List (Key×PV)}:S a->Rt<a->h.DictOf (aw prog w) a ((kvs.map (·.1)).zip vs)->ab prog w S h vs (kvs.map (·.2))->Rd prog w S h (.ref a) (.dict kvs)
 |raw (v:_):Rd prog w S h v (.raw v)
 |aK {a:_} {St:aa}:(∀b∈St.fp a,S b)->ah prog w h a St->Rd prog w S h (.ref a) (.aK St)
 |ay {a:_} {St:aa} {x:_}:(∀b∈St.fp a,S b)->ah prog w h a St->St.abs=x->Rd prog w S h (.ref a) (.ay x)
 |info {x:aj}:(∀b∈x.fp,S b)->da h x->Rd prog w S h (.ref x.loc) (.info x)
 |set {a:_} {ks:List Key}:S a->h.SetOf (aw prog w) a (λk=>decide (k∈ks)) ks.length->ks.Nodup->Rd prog w S h (.ref a) (.set ks)
 |exc {a t oe vs us n cls args:_}:S a->h.get? a=some oe->oe.cls=cls->oe.data= .fields vs->vs[0]?=some (.ref t)->S t->h.get? t=some (yO us n)->ab prog w S h us args->Rd prog w S h (.ref a) (.exc cls args)
 |i6 {b it p:_}:S b->S it->h.get? b=some (cz it)->(h.get? it).isSome=true->(∀l i,p=some (l,i)->h.IsListIter it l i)->Rd prog w S h (.ref b) (.i6 p)
inductive ab(prog:Sw)(w:TG)(S:RD->Prop)(h:Heap):List Rz->List PV->Prop
 |nil:ab prog w S h [] []
 |cons {v vs x xs:_}:Rd prog w S h v x->ab prog w S h vs xs->ab prog w S h (v::vs) (x::xs)
end
section
variable{prog:Sw}{w:TG}
theorem eP{h':Heap}{a:RD}(x:(h.get? a).isSome=true)(e:∀o,h.get? a=some o->h'.get? a=some o):(h'.get? a).isSome=true:=by
 refine oE (Rv.mp x) λo ho=>?_;rw[e o ho];rfl
theorem jC.at{h':Heap}{a:RD}{S:Key->Bool}{n:Nat}(x:h.SetOf (aw prog w) a S n)(e:∀o,h.get? a=some o->h'.get? a=some o):h'.SetOf (aw prog w) a S n:=
 x.imp λo h=>h.imp λes h=>h.imp λep h=>h.imp λt h=>⟨e _ h.1,h.2⟩
theorem cJ.at{h':Heap}{a:RD}{kvs:List (Key×Rz)}(x:h.DictOf (aw prog w) a kvs)(e:∀o,h.get? a=some o->h'.get? a=some o):h'.DictOf (aw prog w) a kvs:=
 x.imp λo h=>h.imp λes h=>h.imp λep h=>⟨e _ h.1,h.2⟩
noncomputable def Pw(prog:Sw)(w:TG)(S:RD->Prop)(h:Heap)(v:Rz)(x:PV):Prop:=match x with
 | .none=>v= .none
 | .bool b=>v= .bool b
 | .int i=>∃t,v= .int i t
 | .str y=>∃t,v= .str y t
 | .list xs=>∃a vs n,v= .ref a/\S a/\h.get? a=some (gN vs n)/\ab prog w S h vs xs
 | .tuple xs=>∃a vs n,v= .ref a/\S a/\h.get? a=some (yO vs n)/\ab prog w S h vs xs
 | .jD x y z=>∃a t1 t2 t3,v= .ref a/\S a/\h.get? a=some (LY x y z t1 t2 t3)
 | .dict kvs=>∃a vs,v= .ref a/\S a/\Rt<a/\h.DictOf (aw prog w) a ((kvs.map (·.1)).zip vs)/\ab prog w S h vs (kvs.map (·.2))
 | .raw u=>v=u
 | .aK St=>∃a,v= .ref a/\(∀b∈St.fp a,S b)/\ah prog w h a St
 | .ay x=>∃a St,v= .ref a/\(∀b∈aa.fp St a,S b)/\ah prog w h a St/\St.abs=x
 | .info x=>v= .ref x.loc/\(∀b∈x.fp,S b)/\da h x
 | .set ks=>∃a,v= .ref a/\S a/\h.SetOf (aw prog w) a (λk=>decide (k∈ks)) ks.length/\ks.Nodup
 | .exc cls args=>∃a t oe vs us n,v= .ref a/\S a/\h.get? a=some oe/\oe.cls=cls/\oe.data= .fields vs/\vs[0]?=some (.ref t)/\S t/\h.get? t=some (yO us n)/\ab prog w S h us args
 | .i6 _=>True
theorem Rd.view{S:RD->Prop}{x:PV}(r:Rd prog w S h v x):Pw prog w S h v x:=by
 cases r with
 |none=>exact rfl
 |bool=>exact rfl
 |int i t=>exact⟨t,rfl⟩
 |str y t=>exact⟨t,rfl⟩
 |list a b c=>exact⟨_,_,_,rfl,a,b,c⟩
 |tuple a b c=>exact⟨_,_,_,rfl,a,b,c⟩
 |jD a b=>exact⟨_,_,_,_,rfl,a,b⟩
 |dict a b c d=>exact⟨_,_,rfl,a,b,c,d⟩
 |raw=>exact rfl
 |aK a b=>exact⟨_,rfl,a,b⟩
 |ay a b c=>exact⟨_,_,rfl,a,b,c⟩
 |info a b=>exact⟨rfl,a,b⟩
 |set a b c=>exact⟨_,rfl,a,b,c⟩
 |exc a b c d e f g i=>exact⟨_,_,_,_,_,_,rfl,a,b,c,d,e,f,g,i⟩
 |i6=>exact trivial
theorem gn{vs:List α}(h:vs.length=1):∃u,vs=[u]:=by
 cases vs with
 |nil=>cases h
 |cons u r=>exact⟨u,congrArg _ (SI.mp (Vu h))⟩
theorem wz{vs:List α}(h:vs.length=2):∃u w,vs=[u,w]:=by
 cases vs with
 |nil=>cases h
 |cons u r=>refine oE (gn (Vu h)) λw zr=>?_;subst zr;exact⟨u,w,rfl⟩
theorem so{o:Option α}{x:α}(e:o=some x):o.isSome=true:=e▸rfl
theorem jC.so{a:RD}{S:Key->Bool}{n:Nat}(x:h.SetOf (aw prog w) a S n):(h.get? a).isSome=true:=x.elim λω h=>h.elim λω h=>h.elim λω h=>h.elim λω h=>Ts.so h.1
theorem cJ.so{a:RD}{kvs:List (Key×Rz)}(x:h.DictOf (aw prog w) a kvs):(h.get? a).isSome=true:=x.elim λω h=>h.elim λω h=>h.elim λω h=>Ts.so h.1
theorem Rd.gen{S:RD->Prop}{h':Heap}(hS:∀a,S a->(h.get? a).isSome=true->S' a)(hk:∀a o,S a->h.get? a=some o->h'.get? a=some o):
  (∀v x,Rd prog w S h v x->Rd prog w S' h' v x)/\∀v x,ab prog w S h v x->ab prog w S' h' v x:=
 ⟨λv x r=>Rd.rec (motive_1:=λv x ω=>Rd prog w S' h' v x) (motive_2:=λv x ω=>ab prog w S' h' v x) .none .bool .int .str
  (λha ho ω ih=>.list (hS _ ha (so ho)) (hk _ _ ha ho) ih) (λha ho ω ih=>.tuple (hS _ ha (so ho)) (hk _ _ ha ho) ih) (λha ho=>.jD (hS _ ha (so ho)) (hk _ _ ha ho))
  (λha hl hd ω ih=>.dict (hS _ ha (cJ.so hd)) hl (cJ.at hd λo e=>hk _ o ha e) ih) .raw
  (λhf hs=>.aK (λb hb=>hS b (hf b hb) (hs.there b hb)) (hs.mono λb hb o e=>hk b o (hf b hb) e)) (λhf hs e=>.ay (λb hb=>hS b (hf b hb) (hs.there b hb)) (hs.mono λb hb o e=>hk b o (hf b hb) e) e)
  (λhf hs=>.info (λb hb=>hS b (hf b hb) (hs.there b hb)) (hs.mono λb hb o e=>hk b o (hf b hb) e)) (λha hs hn=>.set (hS _ ha (jC.so hs)) (jC.at hs λo e=>hk _ o ha e) hn)
  (λha ho hc hd h0 ht Dx ω ih=>.exc (hS _ ha (so ho)) (hk _ _ ha ho) hc hd h0 (hS _ ht (so Dx)) (hk _ _ ht Dx) ih)
  (λhb hi h1 h2 h3=>.i6 (hS _ hb (so h1)) (hS _ hi h2) (hk _ _ hb h1) (eP h2 λo e=>hk _ o hi e) λl i e=>(h3 l i e).at λo e=>hk _ o hi e) .nil (λω ω a b=>.cons a b) r,
  λv x r=>ab.rec (motive_1:=λv x ω=>Rd prog w S' h' v x) (motive_2:=λv x ω=>ab prog w S' h' v x) .none .bool .int .str
  (λha ho ω ih=>.list (hS _ ha (so ho)) (hk _ _ ha ho) ih) (λha ho ω ih=>.tuple (hS _ ha (so ho)) (hk _ _ ha ho) ih) (λha ho=>.jD (hS _ ha (so ho)) (hk _ _ ha ho))
  (λha hl hd ω ih=>.dict (hS _ ha (cJ.so hd)) hl (cJ.at hd λo e=>hk _ o ha e) ih) .raw
  (λhf hs=>.aK (λb hb=>hS b (hf b hb) (hs.there b hb)) (hs.mono λb hb o e=>hk b o (hf b hb) e)) (λhf hs e=>.ay (λb hb=>hS b (hf b hb) (hs.there b hb)) (hs.mono λb hb o e=>hk b o (hf b hb) e) e)
  (λhf hs=>.info (λb hb=>hS b (hf b hb) (hs.there b hb)) (hs.mono λb hb o e=>hk b o (hf b hb) e)) (λha hs hn=>.set (hS _ ha (jC.so hs)) (jC.at hs λo e=>hk _ o ha e) hn)
  (λha ho hc hd h0 ht Dx ω ih=>.exc (hS _ ha (so ho)) (hk _ _ ha ho) hc hd h0 (hS _ ht (so Dx)) (hk _ _ ht Dx) ih)
  (λhb hi h1 h2 h3=>.i6 (hS _ hb (so h1)) (hS _ hi h2) (hk _ _ hb h1) (eP h2 λo e=>hk _ o hi e) λl i e=>(h3 l i e).at λo e=>hk _ o hi e) .nil (λω ω a b=>.cons a b) r⟩
theorem Rd.mono{S:RD->Prop}{h':Heap}{x:PV}(hS:∀a,S a->S' a)(hk:∀a o,S a->h.get? a=some o->h'.get? a=some o)(r:Rd prog w S h v x):Rd prog w S' h' v x:=
 (Rd.gen (λa x ω=>hS a x) hk).1 v x r
theorem ab.mono{S:RD->Prop}{h':Heap}(hS:∀a,S a->S' a)(hk:∀a o,S a->h.get? a=some o->h'.get? a=some o)(r:ab prog w S h vs xs):ab prog w S' h' vs xs:=
 (Rd.gen (λa x ω=>hS a x) hk).2 vs xs r
theorem Rd.there{S:RD->Prop}{x:PV}(r:Rd prog w S h v x):Rd prog w (λa=>S a/\(h.get? a).isSome=true) h v x:=
 (Rd.gen (λω x y=>⟨x,y⟩) λω ω ω e=>e).1 v x r
theorem ab.there{S:RD->Prop}(r:ab prog w S h vs xs):ab prog w (λa=>S a/\(h.get? a).isSome=true) h vs xs:=
 (Rd.gen (λω x y=>⟨x,y⟩) λω ω ω e=>e).2 vs xs r
theorem ab.ind{S:RD->Prop}{P:List Rz->List PV->Prop}(n:P [] [])(c:∀v vs x xs,Rd prog w S h v x->ab prog w S h vs xs->P vs xs->P (v::vs) (x::xs))(r:ab prog w S h vs xs):P vs xs:=
 ab.rec (motive_1:=λω ω ω=>True) (motive_2:=λvs xs ω=>P vs xs) trivial (λω=>trivial) (λω ω=>trivial) (λω ω=>trivial) (λω ω ω ω=>trivial) (λω ω ω ω=>trivial) (λω ω=>trivial) (λω ω ω ω ω=>trivial)
  (λω=>trivial) (λω ω=>trivial) (λω ω ω=>trivial) (λω ω=>trivial) (λω ω ω=>trivial) (λω ω ω ω ω ω ω ω ω=>trivial) (λω ω ω ω ω=>trivial) n (λa b ω i=>c _ _ _ _ a b i) r
theorem ab.length{S:RD->Prop}(r:ab prog w S h vs xs):vs.length=xs.length:=
 ab.ind (P:=λvs xs=>vs.length=xs.length) rfl (λω ω ω ω ω ω ih=>congrArg Nat.succ ih) r
theorem ab.get{S:RD->Prop}{x:PV}(r:ab prog w S h vs xs):xs[i]?=some x->∃v,vs[i]?=some v/\Rd prog w S h v x:=
 ab.ind (P:=λvs xs=>∀i,xs[i]?=some x->∃v,vs[i]?=some v/\Rd prog w S h v x) (λω e=>by cases e)
  (λv ω ω ω a ω ih i=>VW i (λe=>⟨v,rfl,R7 e▸a⟩) λi e=>ih i e) r i
theorem ab.yw{S:RD->Prop}(r:ab prog w S h vs xs):vs[i]?=some v->∃x,xs[i]?=some x/\Rd prog w S h v x:=
 ab.ind (P:=λvs xs=>∀i,vs[i]?=some v->∃x,xs[i]?=some x/\Rd prog w S h v x) (λω e=>by cases e)
  (λω ω x ω a ω ih i=>VW i (λe=>⟨x,rfl,R7 e▸a⟩) λi e=>ih i e) r i
theorem ab.append{S:RD->Prop}(r:ab prog w S h vs xs)(r':ab prog w S h us ys):ab prog w S h (vs++us) (xs++ys):=
 ab.ind (P:=λvs xs=>ab prog w S h (vs++us) (xs++ys)) r' (λω ω ω ω a ω ih=>.cons a ih) r
theorem ab.of_get{S:RD->Prop}:∀ {xs:List PV},vs.length=xs.length->(∀ (i:Nat) v x,vs[i]?=some v->xs[i]?=some x->Rd prog w S h v x)->ab prog w S h vs xs:=by
 induction vs with
 |nil=>intro xs hl _;cases xs with
  |nil=>exact .nil
  |cons x xs=>exact nomatch hl
 |cons v vs ih=>intro xs hl hg;cases xs with
  |nil=>exact nomatch hl
  |cons x xs=>exact .cons (hg 0 v x rfl rfl) (ih (Vu hl) λi u y hu hy=>hg (i+1) u y hu hy)
theorem ab.take{S:RD->Prop}(n:Nat)(r:ab prog w S h vs xs):ab prog w S h (vs.take n) (xs.take n):=
 ab.ind (P:=λvs xs=>∀n:Nat,ab prog w S h (vs.take n) (xs.take n)) (λn=>by cases n<;>exact .nil) (λω ω ω ω a ω ih n=>VW n .nil λn=>.cons a (ih n)) r n
theorem ab.drop{S:RD->Prop}(n:Nat)(r:ab prog w S h vs xs):ab prog w S h (vs.drop n) (xs.drop n):=
 ab.ind (P:=λvs xs=>∀n:Nat,ab prog w S h (vs.drop n) (xs.drop n)) (λn=>by cases n<;>exact .nil) (λω ω ω ω a b ih n=>VW n (.cons a b) λn=>ih n) r n
theorem ab.set{S:RD->Prop}(n:Nat){x:PV}(r:ab prog w S h vs xs)(rv:Rd prog w S h v x):ab prog w S h (vs.set n v) (xs.set n x):=
 ab.ind (P:=λvs xs=>∀n:Nat,ab prog w S h (vs.set n v) (xs.set n x)) (λn=>.nil) (λω ω ω ω a b ih n=>VW n (.cons rv b) λn=>.cons a (ih n)) r n
noncomputable def PV.fy:PV->Bool
 | .none| .bool _| .int _| .str _| .raw _=>true
 |_=>false
theorem Rd.fy{S:RD->Prop}{h':Heap}{x:PV}(hi:x.fy=true)(r:Rd prog w S h v x):Rd prog w S' h' v x:=by
 cases r with
 |none=>exact .none
 |bool b=>exact .bool b
 |int i t=>exact .int i t
 |str y t=>exact .str y t
 |raw v=>exact .raw v
 |list=>exact nomatch hi
 |tuple=>exact nomatch hi
 |jD=>exact nomatch hi
 |dict=>exact nomatch hi
 |aK=>exact nomatch hi
 |ay=>exact nomatch hi
 |info=>exact nomatch hi
 |set=>exact nomatch hi
 |exc=>exact nomatch hi
 |i6=>exact nomatch hi
theorem ab.fy{S:RD->Prop}{h':Heap}(hi:∀x∈xs,x.fy=true)(r:ab prog w S h vs xs):ab prog w S' h' vs xs:=
 ab.ind (P:=λvs xs=>(∀x∈xs,x.fy=true)->ab prog w S' h' vs xs) (λω=>.nil) (λω ω ω ω a ω ih hi=>.cons (a.fy (hi _ Rm)) (ih λx hx=>hi x (Rn _ hx))) r hi
mutual
noncomputable def PV.plain:PV->Bool
 | .none| .bool _| .int _=>true
 | .str s=>YJ s
 | .list xs| .tuple xs=>PV.plainAll xs
 | .jD _ _ _| .dict _| .raw _| .aK _| .ay _| .info _| .set _| .exc _ _| .i6 _=>false
noncomputable def PV.plainAll:List PV->Bool
 |[]=>true
 |x::xs=>x.plain&&PV.plainAll xs
end
mutual
noncomputable def PV.py:PV->PyData
 | .none=>.none| .bool b=>.bool b| .int i=>.int i| .str s=>.str s
 | .list xs=>.list (PV.pG xs)| .tuple xs=>.tuple (PV.pG xs)
 | .jD _ _ _=>.none| .dict _=>.none| .raw _=>.none| .aK _=>.none| .ay _=>.none| .info _=>.none| .set _=>.none| .exc _ _=>.none| .i6 _=>.none
noncomputable def PV.pG:List PV->List PyData
 |[]=>[]
 |x::xs=>x.py::PV.pG xs
end
theorem Rd.reads{S:RD->Prop}{x:PV}(hp:x.plain=true)(r:Rd prog w S h v x):∃as,Reads h v x.py as:=
 Rd.rec (motive_1:=λv x ω=>x.plain=true->∃as,Reads h v x.py as) (motive_2:=λvs xs ω=>PV.plainAll xs=true->∃as,ReadsAll h vs (PV.pG xs) as) (λω=>⟨_,.none⟩) (λω ω=>⟨_,.bool _⟩) (λω ω ω=>⟨_,.int _ _⟩) (λω ω ω=>⟨_,.str _ _⟩)
  (λω ho ω ih hp=>(ih hp).elim λas ra=>⟨_,.list ho rfl rfl ra⟩) (λω ho ω ih hp=>(ih hp).elim λas ra=>⟨_,.tuple ho rfl rfl ra⟩)
  (λω ω hp=>nomatch hp) (λω ω ω ω ω hp=>nomatch hp) (λω hp=>nomatch hp) (λω ω hp=>nomatch hp) (λω ω ω hp=>nomatch hp) (λω ω hp=>nomatch hp) (λω ω ω hp=>nomatch hp) (λω ω ω ω ω ω ω ω ω hp=>nomatch hp) (λω ω ω ω ω hp=>nomatch hp)
  (λω=>⟨_,.nil⟩) (λω ω h1 h2 hp=>(h1 (Sj.mp hp).1).elim λω ra=>(h2 (Sj.mp hp).2).elim λω rb=>⟨_,.cons ra rb⟩) r hp
theorem PV.canLay0:∀x:PV,x.plain=true->x.py.canLay0=true:=λx=>
 PV.rec (motive_1:=λx=>x.plain=true->x.py.canLay0=true) (motive_2:=λxs=>PV.plainAll xs=true->PyData.canLayAll0 (PV.pG xs)=true) (motive_3:=λω=>True) (motive_4:=λω=>True)
  (λω=>rfl) (λω ω=>rfl) (λω ω=>rfl) (λω h=>h) (λω i h=>i h) (λω i h=>i h) (λω ω ω h=>nomatch h) (λω ω h=>nomatch h) (λω h=>nomatch h) (λω h=>nomatch h) (λω h=>nomatch h) (λω h=>nomatch h) (λω h=>nomatch h) (λω ω ω h=>nomatch h) (λω h=>nomatch h)
  (λω=>rfl) (λω ω i j h=>Sj.mpr ⟨i (Sj.mp h).1,j (Sj.mp h).2⟩) trivial (λω ω ω ω=>trivial) (λω ω ω=>trivial) x
end
set_option genInjectivity true in
structure Cx where
 prog:Sw
 w:TG
 K:Frag
 cc:Nat
 hd:Bool
variable{C:Cx}{A:Sg}{env:Env}{U:RD->Prop}{h':Heap}{E:Rz->Ro->Prop}{rest:List Stmt}
noncomputable def Cx.oj(C:Cx):Option (Array DictEntry):=
 match C.K.lookup Rt with
 |some o=>match o.data with| .dict es _=>some es|_=>none
 |none=>none
noncomputable def Cx.glob(C:Cx)(x:Str):Option Rz:=match C.oj with|some es=>nsFind es x|none=>none
structure Cx.Ok(C:Cx):Prop where
 g:∃es,C.oj=some es/\StrKeys es
structure Base(C:Cx)(h:Heap):Prop where
 cB:C.K.In h
 nolimit:h.NoLimit
 o3:∃mb,h.Ns Xa mb/\∀x:Str,x≠"__name__"->mb x=bootBuiltins x
 nodigits:∃mc,h.Ns cStatics mc/\mc "sys.int_max_str_digits" =none
noncomputable def onStack(A:Sg)(a:RD):Prop:=∃l,A.frames=some l/\∃e∈l,e.frame=some a
noncomputable def Fz(A:Sg)(env:Env)(a:RD):Prop:=a=env.locals\/onStack A a
noncomputable def Sk(A:Sg)(env:Env)(h h':Heap):Prop:=∀a o,onStack A a->a≠env.locals->h.get? a=some o->∃sl,h'.get? a=some {o with slots:=sl}
theorem Sk.refl(h:Heap):Sk A env h h:=λω o ω ω e=>⟨o.slots,e⟩
theorem Sk.trans{eC:Heap}(x:Sk A env h h')(y:Sk A env h' eC):Sk A env h eC:=λa o ha hl e=>oE (x a o ha hl e) λ_ e1=>oE (y a _ ha hl e1) λsl e2=>⟨sl,e2⟩
theorem Sk.of_keep(k:∀a o,onStack A a->a≠env.locals->h.get? a=some o->h'.get? a=some o):Sk A env h h':=λa o ha hl e=>⟨o.slots,k a o ha hl e⟩
structure Ext(A:Sg)(env:Env)(h h':Heap):Prop where
 keep:∀a o,¬Fz A env a->h.get? a=some o->h'.get? a=some o
 ns:∀m,h.Ns env.locals m->h'.Ns env.locals m
 fr:Sk A env h h'
theorem Ext.refl(A:Sg)(env:Env)(h:Heap):Ext A env h h:=⟨λω ω ω e=>e,λω e=>e,λω o ω ω e=>⟨o.slots,e⟩⟩
theorem Ext.trans{h₂ bO:Heap}(x:Ext A env h₁ h₂)(y:Ext A env h₂ bO):Ext A env h₁ bO:=
 ⟨λa o ha e=>y.keep a o ha (x.keep a o ha e),λm e=>y.ns m (x.ns m e),λa o ha hl e=>oE (x.fr a o ha hl e) λ_ e1=>oE (y.fr a _ ha hl e1) λsl e2=>⟨sl,e2⟩⟩
theorem Ext.j4(k:∀a o,a≠env.locals->h.get? a=some o->h'.get? a=some o)(n:∀m,h.Ns env.locals m->h'.Ns env.locals m):Ext A env h h':=
 ⟨λa o ha e=>k a o (λh=>ha (.inl h)) e,n,λa o ω hl e=>⟨o.slots,k a o hl e⟩⟩
theorem Ext.of_keeps(k:∀a o,h.get? a=some o->h'.get? a=some o):Ext A env h h':=
 .j4 (λa o ω e=>k a o e) λω e=>e.keeps k
theorem Ext.push(x:Ext A env h h')(o:Obj):Ext A env h (h'.push o):=
 x.trans (.of_keeps λω ω e=>Ry _ e)
theorem Ext.sameBut{a:RD}{eC:Heap}(x:Ext A env h h')(hs:Ul a h' eC)(ha:h.get? a=none)(hL:a≠env.locals):Ext A env h eC:=by
 have aX:∀b o,h.get? b=some o->b≠a:=λb o e q=>by rw[<-q,e]at ha;cases ha
 refine⟨λb o hb e=>?_,λm e=>(x.ns m e).sameBut hs (Td hL),λb o hb hl e=>?_⟩
 ·exact(hs.2 b (aX b o e)).trans (x.keep b o hb e)
 ·refine oE (x.fr b o hb hl e) λsl h1=>?_;exact⟨sl,(hs.2 b (aX b o e)).trans h1⟩
structure bH(C:Cx)(h:Heap)(env:Env):Prop where
 kind:env.scope.kind= .function
 glob:env.globals=Rt
 gY:env.builtins=Xa
 ns:∃m,h.Ns env.locals m
 cell:∀x,(env.kindOf x=some .cell\/env.kindOf x=some .free)->∃c v,env.cells.lookup x=some c/\h.IsCell c v
 call:∀x c,env.cells.lookup x=some c->∃v,h.IsCell c v
 apart:∀x y c,env.cells.lookup x=some c->env.cells.lookup y=some c->x=y
 et:∀x c,env.cells.lookup x=some c->c≠env.locals
 below:∀a o,C.K.lookup a=some o->a<env.locals
 high:Rt<env.locals
 dB:∀x c,env.cells.lookup x=some c->Rt<c/\∀a o,C.K.lookup a=some o->a≠c
structure fc(C:Cx)(A:Sg)(h:Heap):Prop where
 ex:∃l,A.frames=some l/\∀e∈l,e.scope.kind≠.module/\∃L o es ep,e.frame=some L/\(∀a o,C.K.lookup a=some o->a<L)/\Rt<L/\h.get? L=some o/\o.data= .dict es ep
theorem fc.high(x:fc C A h){a:RD}(ha:onStack A a):(∀b o,C.K.lookup b=some o->b<a)/\Rt<a/\∃o es ep,h.get? a=some o/\o.data= .dict es ep:=by
 refine aD x.ex λl hl hx=>?_;refine DA ha λl' vP e he hf=>?_;clear ha;rw[hl]at vP;cases vP;refine fP (hx e he) λ_ L o es ep h1 h2 h3 h4 h5=>?_;rw[hf]at h1;cases h1;exact⟨h2,h3,o,es,ep,h4,h5⟩
theorem fc.move(x:fc C A h)(k:∀a o,onStack A a->h.get? a=some o->(∃es ep,o.data= .dict es ep)->∃o',h'.get? a=some o'/\∃es ep,o'.data= .dict es ep):fc C A h':=by
 refine aD x.ex λl hl hx=>?_;refine⟨l,hl,λe he=>?_⟩;refine fP (hx e he) λh0 L o es ep h1 h2 h3 h4 h5=>?_;refine HY (k L o ⟨l,hl,e,he,h1⟩ h4 ⟨es,ep,h5⟩) λo' h6 QG PZ h7=>?_;exact⟨h0,L,o',QG,PZ,h1,h2,h3,h6,h7⟩
theorem fc.ext(x:fc C A h)(hn:∃m,h.Ns env.locals m)(e:Ext A env h h'):fc C A h':=x.move λa o ha ho hd=>by
 by_cases hl:a=env.locals
 ·subst hl;refine oE hn λm hm=>?_;clear hn;refine fh (e.ns m hm) λo' es ep jy Bc _=>?_;exact⟨o',jy,es,ep,Bc⟩
 ·refine oE (e.fr a o ha hl ho) λsl h1=>?_;exact⟨_,h1,hd⟩
theorem fc.sk(x:fc C A h)(hn:∃m,h'.Ns env.locals m)(sk:Sk A env h h'):fc C A h':=x.move λa o ha ho hd=>by
 by_cases hl:a=env.locals
 ·subst hl;refine xh hn λm o' es ep jy Bc _=>?_;clear hn;exact⟨o',jy,es,ep,Bc⟩
 ·refine oE (sk a o ha hl ho) λsl h1=>?_;exact⟨_,h1,hd⟩
theorem fc.ne(x:fc C A h){a:RD}{o:Obj}(ho:h.get? a=some o)(hd:∀es ep,o.data≠.dict es ep): ¬onStack A a:=λha=>by
 refine eQ (x.high ha) λ_ _ o' es ep h1 h2=>?_;rw[ho]at h1;cases h1;exact hd es ep h2
theorem bH.ext(x:bH C h env)(fx:fc C A h)(e:Ext A env h h'):bH C h' env where
 kind:=x.kind
 glob:=x.glob
 gY:=x.gY
 ns:=oE x.ns λm hm=>⟨m,e.ns m hm⟩
 cell:=λy hy=>uY (x.cell y hy) λc v h1 o h2 h3=>⟨c,v,h1,o,e.keep c o (λhz=>hz.elim (x.et y c h1) (fx.ne h2 (by rw[h3];nofun))) h2,h3⟩
 call:=λy c hy=>aM (x.call y c hy) λv o h2 h3=>⟨v,o,e.keep c o (λhz=>hz.elim (x.et y c hy) (fx.ne h2 (by rw[h3];nofun))) h2,h3⟩
 apart:=x.apart
 et:=x.et
 below:=x.below
 high:=x.high
 dB:=x.dB
theorem fc.low(x:fc C A h)(k:bH C h env){a:RD}(ha:Fz A env a):(∀b o,C.K.lookup b=some o->b<a)/\Rt<a:=by
 rcases ha with rfl|ha
 ·exact⟨k.below,k.high⟩
 ·exact⟨(x.high ha).1,(x.high ha).2.1⟩
theorem Base.ext(x:Base C h)(e:Ext A env h h')(fx:fc C A h)(k:bH C h env):Base C h':=by
 have aX:∀ {a:RD} {m},a<=Rt->h.Ns a m->h'.Ns a m:=λ{a m} ha hn=>by
  refine aP hn λo es ep ho r=>?_;clear hn;exact⟨o,es,ep,e.keep a o (λhz=>Vf.mpr (fx.low k hz).2 ha) ho,r⟩
 refine⟨λa o hk=>e.keep a o (λhz=>S8 _ ((fx.low k hz).1 a o hk)) (x.cB a o hk),?_,?_,?_⟩
 ·refine aD x.nolimit λmc h1 h2=>?_;exact⟨mc,aX (by decide) h1,h2⟩
 ·refine aD x.o3 λmb h1 h2=>?_;exact⟨mb,aX (by decide) h1,h2⟩
 ·refine aD x.nodigits λmc h1 h2=>?_;exact⟨mc,aX (by decide) h1,h2⟩
noncomputable def aZ(h:Heap)(env:Env)(x:Str)(v:Rz):Prop:=
 (env.kindOf x=some .local/\∃m,h.Ns env.locals m/\m x=some v)\/
 ((env.kindOf x=some .cell\/env.kindOf x=some .free)/\x≠"__classdict__"/\∃c,env.cells.lookup x=some c/\h.IsCell c (some v))
theorem aZ.ext(k:bH C h env)(fx:fc C A h)(a:aZ h env x v)(e:Ext A env h h'):aZ h' env x v:=by
 rcases a with⟨h1,m,h2,h3⟩|⟨h1,h0,c,h2,o,h3,h4⟩
 ·exact .inl ⟨h1,m,e.ns m h2,h3⟩
 ·exact .inr ⟨h1,h0,c,h2,o,e.keep c o (λhz=>hz.elim (k.et x c h2) (fx.ne h3 (by rw[h4];nofun))) h3,h4⟩
noncomputable def aA(k:Option NameKind):Bool:=match k with|some .local|some .cell|some .free=>true|_=>false
noncomputable abbrev fT:=List (Str×Option (Nat×PV))
variable{Γ:fT}
noncomputable def bn(md:Bool):Nat:=if md then 0 else 2
theorem HO(md:Bool):(bn md==0)=md:=by cases md<;>rfl
noncomputable def A3(C:Cx)(S U:RD->Prop)(h:Heap)(v:Rz):PV->Prop
 | .list xs=>∃a vs n,v= .ref a/\U a/\h.get? a=some (gN vs n)/\ab C.prog C.w S h vs xs
 | .dict kvs=>∃a vs,v= .ref a/\U a/\Rt<a/\h.DictOf (aw C.prog C.w) a ((kvs.map (·.1)).zip vs)/\ab C.prog C.w S h vs (kvs.map (·.2))
 |_=>True
theorem A3.mono{S U':RD->Prop}{x:PV}(hS:∀a,S a->S' a)(hU:∀a,U a->U' a)(Jo:∀a,S a->U a)(hk:∀a o,U a->h.get? a=some o->h'.get? a=some o)(r:A3 C S U h v x):A3 C S' U' h' v x:=by
 cases x with
 |list xs=>refine mD r λa vs n e ha ho rs=>?_;clear r;exact⟨a,vs,n,e,hU a ha,hk a _ ha ho,rs.mono hS λa o ha=>hk a o (Jo a ha)⟩
 |dict kvs=>refine xc r λa vs e ha hl hd rs=>?_;clear r;exact⟨a,vs,e,hU a ha,hl,cJ.at hd λo ho=>hk a o ha ho,rs.mono hS λa o ha=>hk a o (Jo a ha)⟩
 |_=>trivial
structure Here(C:Cx)(A:Sg)(S U:RD->Prop)(env:Env)(Γ:fT)(h:Heap):Prop where
 cx:C.Ok
 base:Base C h
 aq:bH C h env
 bE:fc C A h
 sub:∀a,S a->U a
 old:∀a,U a->(h.get? a).isSome=true/\¬Fz A env a/\∀x c,env.cells.lookup x=some c->a≠c
 has:∀x n pv,Γ.lookup x=some (some (n,pv))->aA (env.kindOf x)=true->∃v,aZ h env x v/\Rd C.prog C.w (λa=>if n==0 then S a else U a) h v pv/\(n=1->A3 C S U h v pv)
structure Bk(C:Cx)(A:Sg)(env:Env)(h:Heap):Prop where
 ns:∃m,h.Ns env.locals m
 bE:fc C A h
theorem Here.C5{S:RD->Prop}(x:Here C A S U env Γ h):Bk C A env h:=⟨x.aq.ns,x.bE⟩
theorem Bk.there(x:Bk C A env h){a:RD}(ha:Fz A env a):(h.get? a).isSome=true:=by
 rcases ha with rfl|ha
 ·refine cU x.ns λm o' _ _ jy _=>?_;rw[jy];rfl
 ·refine eQ (x.bE.high ha) λ_ _ o _ _ ho _=>?_;rw[ho];rfl
theorem Here.ext{S:RD->Prop}(x:Here C A S U env Γ h)(e:Ext A env h h'):Here C A S U env Γ h' where
 cx:=x.cx
 base:=x.base.ext e x.bE x.aq
 aq:=x.aq.ext x.bE e
 bE:=x.bE.ext x.aq.ns e
 sub:=x.sub
 old:=λa ha=>by
  refine dd (x.old a ha) λh1 h2 h3=>?_;refine oE (Rv.mp h1) λo ho=>?_;exact⟨by rw[e.keep a o h2 ho];rfl,h2,h3⟩
 has:=λy n pv hy hv=>by
  refine bM (x.has y n pv hy hv) λv h1 h2 h3=>?_;refine⟨v,h1.ext x.aq x.bE e,h2.mono (λω z=>z) λa o ha ho=>e.keep a o ?_ ho,λhn=>(h3 hn).mono (λω z=>z) (λω z=>z) x.sub λa o ha ho=>e.keep a o (x.old a ha).2.1 ho⟩;by_cases hn:(n==0)=true
  ·rw[if_pos hn]at ha;exact(x.old a (x.sub a ha)).2.1
  ·rw[if_neg hn]at ha;exact(x.old a ha).2.1
noncomputable def aB(C:Cx)(A:Sg):Prop:=(C.hd=false->A.handled=none)/\A.depth+40+4*C.cc<recursionLimit/\A.units+400+40*C.cc<cLine
noncomputable def dH(md:Bool)(S U:RD->Prop)(h:Heap)(a:RD):Prop:=(if md then S a else U a)\/h.get? a=none
theorem Ext.live(e:Ext A env h h')(hn:∃m,h.Ns env.locals m){a:RD}(ha:(h.get? a).isSome=true):(h'.get? a).isSome=true:=by
 refine oE (Rv.mp ha) λo ho=>?_;by_cases Ge:a=env.locals
 ·subst Ge;refine oE hn λm hm=>?_;clear hn;refine aP (e.ns m hm) λo' _ _ jy _=>?_;rw[jy];rfl
 ·by_cases hs:onStack A a
  ·refine oE (e.fr a o hs Ge ho) λsl h1=>?_;rw[h1];rfl
  ·rw[e.keep a o (λhz=>hz.elim Ge hs) ho];rfl
theorem Ext.fresh(e:Ext A env h h')(hn:∃m,h.Ns env.locals m){a:RD}(ha:h'.get? a=none):h.get? a=none:=by
 cases hh:h.get? a with
 |none=>rfl
 |some o=>have:=e.live hn (a:=a) (by rw[hh];rfl);rw[ha]at this;cases this
theorem Ext.fresh_at(e:Ext A env h h')(hn:∃m,h.Ns env.locals m):h.get? h'.objs.size=none:=
 e.fresh hn (by cases hh:h'.get? h'.objs.size with|none=>rfl|some o=>exact absurd (Ss hh) (S8 _))
noncomputable def Ev(C:Cx)(env:Env)(Γ:fT)(e:Expr)(md:Bool)(x:PV):Prop:=
 ∀ (A:Sg) (S U:RD->Prop) (s:Ro) (Q:Rz->Ro->Prop) (E:Rz->Ro->Prop),aB C A->Here C A S U env Γ s.heap->
  (∀v h' t',Ext A env s.heap h'->Rd C.prog C.w (dH md S U s.heap) h' v x->Q v {s with heap:=h',toks:=t'})->
  RM (RF C.prog C.w) A (eval e env) Q E s
noncomputable def cX(C:Cx)(env:Env)(Γ:fT)(e:Expr)(b:Bool):Prop:=
 ∀ (A:Sg) (S U:RD->Prop) (s:Ro) (Q:Bool->Ro->Prop) (E:Rz->Ro->Prop),aB C A->Here C A S U env Γ s.heap->
  (∀h' t',Ext A env s.heap h'->Q b {s with heap:=h',toks:=t'})->
  RM (RF C.prog C.w) A (isTrue e env (eval e env)) Q E s
theorem Ev.fy{x:PV}(h:Ev C env Γ e md x)(hi:x.fy=true){uv:Bool}:Ev C env Γ e uv x:=
 λA S U s Q E hr hh hq=>h A S U s Q E hr hh λv h' t' e r=>hq v h' t' e (r.fy hi)
theorem Ev.F1{x:PV}(h:Ev C env Γ e true x):Ev C env Γ e md x:=
 λA S U s Q E hr hh hq=>h A S U s Q E hr hh λv h' t' e r=>hq v h' t' e (r.mono (λa ra=>by
  rcases ra with ra|ra
  ·left;cases md
   ·exact hh.sub a ra
   ·exact ra
  ·exact .inr ra) λω ω ω e=>e)
theorem Ev.int{i:Int}{k:Nat}:Ev C env Γ (.Constant (.int i) k p) md (.int i):=
 λω ω ω s ω ω ω ω hq=>WU (hq _ s.heap _ (.refl _ _ _) (.int _ _))
theorem Ev.str{k:Nat}:Ev C env Γ (.Constant (.str x) k p) md (.str x):=
 λω ω ω s ω ω ω ω hq=>wpAny_Constant_str (hq _ s.heap _ (.refl _ _ _) (.str _ _))
theorem Ev.bool{b:Bool}{k:Nat}:Ev C env Γ (.Constant (.bool b) k p) md (.bool b):=
 λω ω ω s ω ω ω ω hq=>wpAny_Constant_bool (hq _ s.heap _ (.refl _ _ _) (.bool _))
theorem Ev.By{k:Nat}:Ev C env Γ (.Constant .none k p) md .none:=
 λω ω ω s ω ω ω ω hq=>WK (hq _ s.heap _ (.refl _ _ _) .none)
theorem iQ{k:Option NameKind}(h:aA k=true):k=some .local\/k=some .cell\/k=some .free:=by
 cases k with
 |none=>exact nomatch h
 |some k=>
  cases k with
  |«local»=>exact .inl rfl
  |cell=>exact .inr (.inl rfl)
  |free=>exact .inr (.inr rfl)
  |_=>exact nomatch h
theorem ao{s:Ro}{Q:Rz->Ro->Prop}(k:bH C s.heap env)(a:aZ s.heap env x v)(h:Q v s):RM M A (loadName env x) Q E s:=by
 rcases a with⟨h1,m,h2,h3⟩|⟨h1|h1,h0,c,h2,h3⟩
 ·exact wpAny_loadName_local k.kind h1 h2 h3 h
 ·exact wpAny_loadName_cell k.kind h1 h2 h3 h
 ·exact wpAny_loadName_free k.kind h1 h2 h3 h (by simpa using h0)
theorem Ev.name{n:Nat}{pv:PV}(hx:Γ.lookup x=some (some (n,pv)))(hk:aA (env.kindOf x)=true)(zX:autoParam (md=(n==0)) oA1._auto_1)(hd:autoParam (bk x) oA1._auto_1):
  Ev C env Γ (.Name x p) md pv:=λA S U s Q E hr hh hq=>by
 subst zX;refine bM (hh.has x n pv hx hk) λv h1 h2 _=>?_;refine Sz (ao hh.aq h1 ?_) hd;exact hq v s.heap s.toks (.refl _ _ _) (h2.mono (λa ha=>.inl ha) λω ω ω e=>e)
set_option tactic.hygienic true in
theorem qP(ok:C.Ok)(B:Base C h):∃m,h.Ns Rt m/\∀x,m x=C.glob x:=by
 refine aD ok.g λes h1 h2=>?_;unfold Cx.oj at h1;cases hk:C.K.lookup Rt with
 |none=>rw[hk]at h1;cases h1
 |some o=>
  rw[hk]at h1;cases hd:o.data<;>simp only[hd]at h1<;>try cases h1
  rename_i n;refine⟨nsFind es,⟨o,es,n,B.cB _ _ hk,hd,h2,λω=>rfl⟩,λx=>?_⟩;unfold Cx.glob Cx.oj;simp only[hk,hd]
theorem bu{s:Ro}{Q:Rz->Ro->Prop}(ok:C.Ok)(B:Base C s.heap)(k:bH C s.heap env)
  (hk:env.kindOf x=some .globalImplicit) (hv:C.glob x=some v\/(C.glob x=none/\x≠"__name__"/\bootBuiltins x=some v)) (h:Q v s):RM M A (loadName env x) Q E s:=by
 refine aD (qP ok B) λm hm M4=>?_;have hg:env.globals=Rt:=k.glob;have hb:env.builtins=Xa:=k.gY;unfold loadName;simp only[Env.blockKind,k.kind,hk,ScopeKind.isAnnotationScope,Xl,Sx,if_false];unfold loadGlobal;rw[hg,hb];refine Rp (wpAny_nsGet hm ?_);rcases hv with hv|⟨h1,h2,h3⟩
 ·rw[M4,hv];exact RK h
 ·rw[M4,h1];refine aD B.o3 λmb Be iG=>?_;refine Rp (wpAny_nsGet Be ?_);rw[iG x h2,h3];exact RK h
theorem Ev.builtin(hk:env.kindOf x=some .globalImplicit)(hg:C.glob x=none)(hv:bootBuiltins x=some v)(hn:autoParam (x≠"__name__") oA3._auto_1)(hd:autoParam (bk x) oA1._auto_1):
  Ev C env Γ (.Name x p) md (.raw v):=λω ω ω s ω ω ω hh hq=>
 Sz (bu hh.cx hh.base hh.aq hk (.inr ⟨hg,hn,hv⟩) (hq v s.heap s.toks (.refl _ _ _) (.raw _))) hd
theorem Fz.there{S:RD->Prop}(hh:Here C A S U env Γ h){a:RD}(ha:Fz A env a):(h.get? a).isSome=true:=by
 rcases ha with rfl|ha
 ·refine cU hh.aq.ns λm o' _ _ jy _=>?_;rw[jy];rfl
 ·refine eQ (hh.bE.high ha) λ_ _ o _ _ ho _=>?_;rw[ho];rfl
theorem dH.xI{S:RD->Prop}{s:Ro}{a:RD}(hh:Here C A S U env Γ s.heap)(ha:dH m1 S U s.heap a): ¬Fz A env a:=by
 rcases ha with ha|ha
 ·cases m1
  ·exact(hh.old a ha).2.1
  ·exact(hh.old a (hh.sub a ha)).2.1
 ·intro hz;have:=Fz.there hh hz;rw[ha]at this;cases this
theorem Ev.two{l:Expr}{x:PV}(h1:Ev C env Γ l m1 x)(h2:Ev C env Γ r m2 y){S:RD->Prop}{s:Ro}{F:Rz->Rz->Ro->Prop}
  (hr:aB C A) (hh:Here C A S U env Γ s.heap)
  (hq:∀v u h' t',Ext A env s.heap h'->Rd C.prog C.w (dH m1 S U s.heap) h' v x->Rd C.prog C.w (dH m2 S U s.heap) h' u y->F v u {s with heap:=h',toks:=t'}):
  RM (RF C.prog C.w) A (eval l env) (λa s₁=>RM (RF C.prog C.w) A (eval r env) (λb s₂=>F a b s₂) E s₁) E s:=
 h1 A S U s _ E hr hh λv h' t' e rd=>h2 A S U _ _ E hr (hh.ext e) λu eC gV e' yh=>
  hq v u eC gV (e.trans e')
   (rd.mono (λω z=>z) λa o ha ho=>e'.keep a o (dH.xI hh ha) ho)
   (yh.mono (λa ha=>ha.imp id (e.fresh hh.aq.ns)) λω ω ω z=>z)
theorem Ev.bin{l:Expr}{op:Operator}{x z:PV}(h1:Ev C env Γ l m1 x)(h2:Ev C env Γ r m2 y)
  (qp:∀ (A:Sg) (S U:RD->Prop) (s:Ro) (h₀:Heap) (v u:Rz) (Q:Rz->Ro->Prop) (E:Rz->Ro->Prop),aB C A->Here C A S U env Γ s.heap->Ext A env h₀ s.heap->Bk C A env h₀->
   Rd C.prog C.w (dH m1 S U h₀) s.heap v x->Rd C.prog C.w (dH m2 S U h₀) s.heap u y->
   (∀v h' t',Ext A env s.heap h'->Rd C.prog C.w (dH md S U h₀) h' v z->Q v {s with heap:=h',toks:=t'})->RM (RF C.prog C.w) A (binaryOp op v u) Q E s):
  Ev C env Γ (.BinOp l op r p) md z:=λA S U s Q E hr hh hq=>
 YH (Ev.two h1 h2 hr hh λv u h' t' e rv ru=>qp A S U _ s.heap v u Q E hr (hh.ext e) e hh.C5 rv ru λv' eC gV e' r'=>hq v' eC gV (e.trans e') r')
theorem Rd.int_inv{S:RD->Prop}{i:Int}{prog:Sw}{w:TG}(r:Rd prog w S h v (.int i)):∃t,v= .int i t:=r.view
theorem Rd.str_inv{S:RD->Prop}{i:Str}{prog:Sw}{w:TG}(r:Rd prog w S h v (.str i)):∃t,v= .str i t:=r.view
theorem Rd.bool_inv{S:RD->Prop}{i:Bool}{prog:Sw}{w:TG}(r:Rd prog w S h v (.bool i)):v= .bool i:=r.view
theorem Rd.none_inv{S:RD->Prop}{prog:Sw}{w:TG}(r:Rd prog w S h v .none):v= .none:=r.view
theorem Rd.aQ{S:RD->Prop}{prog:Sw}{w:TG}(r:Rd prog w S h v (.raw u)):v=u:=r.view
theorem Rd.aS{S:RD->Prop}{prog:Sw}{w:TG}(r:Rd prog w S h v (.list xs)):∃a vs n,v= .ref a/\S a/\h.get? a=some (gN vs n)/\ab prog w S h vs xs:=r.view
theorem Rd.gD{S:RD->Prop}{prog:Sw}{w:TG}(r:Rd prog w S h v (.tuple xs)):∃a vs n,v= .ref a/\S a/\h.get? a=some (yO vs n)/\ab prog w S h vs xs:=r.view
section
variable{l:Expr}
theorem Ev.add_int{i j:Int}(h1:Ev C env Γ l m1 (.int i))(h2:Ev C env Γ r m2 (.int j)):Ev C env Γ (.BinOp l .Add r p) md (.int (i+j)):=
 Ev.bin h1 h2 λA S U s h₀ v u Q E hr hh e bR rv ru hq=>by
  refine oE rv.int_inv λt zr=>?_;subst zr;refine oE ru.int_inv λt' zr=>?_;subst zr;exact wpAny_add_int (hq _ s.heap _ (.refl _ _ _) (.int _ _))
theorem Ev.sub_int{i j:Int}(h1:Ev C env Γ l m1 (.int i))(h2:Ev C env Γ r m2 (.int j)):Ev C env Γ (.BinOp l .Sub r p) md (.int (i - j)):=
 Ev.bin h1 h2 λA S U s h₀ v u Q E hr hh e bR rv ru hq=>by
  refine oE rv.int_inv λt zr=>?_;subst zr;refine oE ru.int_inv λt' zr=>?_;subst zr;exact Zd (hq _ s.heap _ (.refl _ _ _) (.int _ _))
end
noncomputable def hb(h:Heap)(L:Nat):Heap:={objs:=h.objs.extract 0 L,life:=h.life}
theorem vE{L a:Nat}:(hb h L).get? a=if a<L then h.get? a else none:=by
 have e:(hb h L).objs[a]?=if a<L then h.objs[a]? else none:=by
  show(h.objs.extract 0 L)[a]?=_;rw[U9];by_cases hl:a<L
  ·rw[if_pos hl];by_cases h2:a<h.objs.size
   ·rw[if_pos (by omega),T8]
   ·rw[if_neg (by omega),Array.getElem?_eq_none (by omega)]
  ·rw[if_neg hl,if_neg (by omega)]
 unfold Heap.get?;rw[e];by_cases hl:a<L
 ·rw[if_pos hl,if_pos hl]
 ·rw[if_neg hl,if_neg hl]
noncomputable def Cu(h:Heap)(L:RD):List (RD×Obj):=(RG h.objs.size).filterMap λa=>if a<=L then none else(h.get? a).map λo=>(a,o)
set_option tactic.hygienic true in
theorem ug{a:RD}{o:Obj}:(a,o)∈Cu h L↔L<a/\h.get? a=some o:=by
 unfold Cu;rw[Uu];constructor
 ·rintro⟨b,_,hb⟩;split at hb
  ·cases hb
  ·rename_i aX;cases hg:h.get? b with
   |none=>rw[hg]at hb;cases hb
   |some o'=>rw[hg]at hb;simp at hb;refine oA hb λzr zw=>?_;clear hb;subst zr;subst zw;exact⟨T5 aX,hg⟩
 ·rintro⟨aX,ho⟩;exact⟨a,RW.mpr (Ss ho),by simp[Vf.mpr aX,ho]⟩
theorem Fg{m:Str->Option Rz}(hn:h.Ns L m):Fr (hb h L) L h m:=
 ⟨hn,λb o e=>(by rw[vE]at e;split at e<;>first|exact e|cases e),(by show(h.objs.extract 0 L).size<=L;rw[XT];exact Rk (SK _ _) (UH _ _))⟩
theorem oF:News (hb h L) L h (Cu h L):=by
 rintro⟨a,o⟩ hp;refine oA (ug.mp hp) λh1 h2=>?_;exact⟨h2,TA h1,by rw[vE,if_neg (by exact SV.mpr (RS h1))]⟩
theorem jk{m:Str->Option Rz}{news:List (RD×Obj)}(hn:h.Ns env.locals m)(F:Fr (hb h env.locals) env.locals h' m)(N:News (hb h env.locals) env.locals h' news)(sub:∀p∈Cu h env.locals,p∈news):Ext A env h h':=
 .j4 (λa o ha e=>by
  rcases Nat.lt_or_gt_of_ne ha with hl|hl
  ·exact F.keep a o (by rw[vE,if_pos hl];exact e)
  ·exact(N (a,o) (sub _ (ug.mpr ⟨hl,e⟩))).1) λm' iA=>by
  have:m'=m:=funext λx=>iA.agree hn x;subst this;exact F.ns
section
theorem bz.bw{a:RD}{n:Nat}(e:h.get? a=some (gN vs n)):h.IsList a vs.toArray:=⟨_,e,rfl,n,rfl⟩
theorem CL.Fk{a:RD}{n:Nat}(e:h.get? a=some (yO vs n)):h.IsTuple a vs.toArray:=⟨_,e,rfl,n,rfl⟩
noncomputable def lim:Nat:=2^20
theorem Rd.up{S:RD->Prop}{x:PV}(r:Rd C.prog C.w S h v x)(e:Ext A env h h')(hL:∀a,S a->¬Fz A env a)(hS:∀a,S a->S' a):Rd C.prog C.w S' h' v x:=
 r.mono hS λa o ha ho=>e.keep a o (hL a ha) ho
theorem ab.up{S:RD->Prop}{v:List Rz}{x:List PV}(r:ab C.prog C.w S h v x)(e:Ext A env h h')(hL:∀a,S a->¬Fz A env a)(hS:∀a,S a->S' a):ab C.prog C.w S' h' v x:=
 r.mono hS λa o ha ho=>e.keep a o (hL a ha) ho
theorem rT{S:RD->Prop}(hh:Here C A S U env Γ h)(e:Ext A env h₀ h)(bR:Bk C A env h₀){a:RD}(ha:dH md S U h₀ a): ¬Fz A env a:=by
 rcases ha with ha|ha
 ·cases md
  ·exact(hh.old a ha).2.1
  ·exact(hh.old a (hh.sub a ha)).2.1
 ·intro hz;have:=bR.there hz;rw[ha]at this;cases this
variable{l:Expr}
noncomputable def bI(C:Cx)(env:Env)(Γ:fT)(e:Expr)(md:Bool)(xs:List PV):Prop:=
 ∀ (A:Sg) (S U:RD->Prop) (s:Ro) (Q:Rz->Ro->Prop) (E:Rz->Ro->Prop),aB C A->Here C A S U env Γ s.heap->
  (∀a vs n h' t',Ext A env s.heap h'->s.heap.get? a=none->Rt<a->h'.get? a=some (gN vs n)->ab C.prog C.w (λb=>dH md S U s.heap b/\b≠a) h' vs xs->Q (.ref a) {s with heap:=h',toks:=t'})->
  RM (RF C.prog C.w) A (eval e env) Q E s
theorem bI.ev(h:bI C env Γ e md xs):Ev C env Γ e md (.list xs):=λA S U s Q E hr hh hq=>
 h A S U s Q E hr hh λa vs n h' t' ex hn hl ho ra=>hq _ h' t' ex (.list (.inr hn) ho (ra.mono (λω z=>z.1) λω ω ω z=>z))
theorem ab.new{S:RD->Prop}{v:List Rz}{x:List PV}{a:RD}(r:ab C.prog C.w S h v x)(e:Ext A env h h')(hL:∀a,S a->¬Fz A env a)(ha:h.get? a=none):ab C.prog C.w (λb=>S b/\b≠a) h' v x:=
 r.there.mono (λb hb=>⟨hb.1,by rintro rfl;have:=hb.2;rw[ha]at this;cases this⟩) λa o ha ho=>e.keep a o (hL a ha.1) ho
theorem Ext.df{S:RD->Prop}(e:Ext A env h₀ h)(hh:Here C A S U env Γ h₀):Rt<h.objs.size:=by
 refine oE hh.aq.ns λm hm=>?_;exact R0 hh.aq.high (e.ns m hm).lt
theorem Ev.IA{op:Operator}{x:PV}{zs:List PV}(h1:Ev C env Γ l m1 x)(h2:Ev C env Γ r m2 y)
  (qp:∀ (A:Sg) (S U:RD->Prop) (s:Ro) (h₀:Heap) (v u:Rz) (Q:Rz->Ro->Prop) (E:Rz->Ro->Prop),aB C A->Here C A S U env Γ s.heap->Ext A env h₀ s.heap->Bk C A env h₀->
   Rd C.prog C.w (dH m1 S U h₀) s.heap v x->Rd C.prog C.w (dH m2 S U h₀) s.heap u y->
   (∀a vs n h' t',Ext A env s.heap h'->s.heap.get? a=none->h'.get? a=some (gN vs n)->ab C.prog C.w (λb=>dH md S U h₀ b/\b≠a) h' vs zs->a=s.heap.objs.size->Q (.ref a) {s with heap:=h',toks:=t'})->RM (RF C.prog C.w) A (binaryOp op v u) Q E s):
  bI C env Γ (.BinOp l op r p) md zs:=λA S U s Q E hr hh hq=>
 YH (Ev.two h1 h2 hr hh λv u h' t' e rv ru=>qp A S U _ s.heap v u Q E hr (hh.ext e) e hh.C5 rv ru λa vs n eC gV e' hn ho r' ha=>hq a vs n eC gV (e.trans e') (e.fresh hh.aq.ns hn) (by rw[ha];exact e.df hh) ho r')
theorem bI.add(h1:Ev C env Γ l md (.list xs))(h2:Ev C env Γ r md (.list ys))(aF:xs.length+ys.length<=lim):bI C env Γ (.BinOp l .Add r p) md (xs++ys):=
 Ev.IA h1 h2 λA S U s h₀ v u Q E hr hh e bR rv ru hq=>by
  refine aP rv.aS λa vs n zr zw=>?_;subst zr;refine dd zw λha eh ra=>?_;clear zw;refine aP ru.aS λb us k zr zw=>?_;subst zr;refine dd zw λhb fo rb=>?_;clear zw;refine oE hh.aq.ns λm hm=>?_;have du:s.heap.get? s.heap.objs.size=none:=(Ext.refl A env s.heap).fresh_at ⟨m,hm⟩;refine add_arrays (Fg hm) oF (bz.bw eh) (bz.bw fo) ?_ (by
   have e1:=ra.length;have e2:=rb.length;simp only[RX,e1,e2];unfold lim at aF;show _<=2^24;omega)
  intro h' F N;have e':Ext A env s.heap h':=jk hm F N λω hp=>Rn _ hp;refine hq _ (vs++us) 0 h' s.toks e' du (N.get Rm) ?_ rfl;exact ab.append (ra.new e' (λa=>rT hh e bR) du) (rb.new e' (λa=>rT hh e bR) du)
noncomputable def ba(C:Cx)(env:Env)(Γ:fT)(es:List Expr)(md:Bool)(xs:List PV):Prop:=
 ∀ (A:Sg) (S U:RD->Prop) (s:Ro) (p:Pos) (F:List Rz->Ro->Prop) (E:Rz->Ro->Prop),aB C A->Here C A S U env Γ s.heap->
  (∀vs h' t',Ext A env s.heap h'->ab C.prog C.w (dH md S U s.heap) h' vs xs->F vs {s with heap:=h',toks:=t'})->
  RM (RF C.prog C.w) A (spliced (SF p (RV es env))) F E s
theorem ba.nil:ba C env Γ [] md []:=λA S U s p F E hr hh hq=>Ud (hq [] s.heap s.toks (.refl _ _ _) .nil)
theorem ba.cons{x:PV}(h1:Ev C env Γ e md x)(h2:ba C env Γ es md xs)(hs:autoParam (∀env,RV (e::es) env=(false,eval e env)::RV es env) oA2._auto_1):
  ba C env Γ (e::es) md (x::xs):=λA S U s p F E hr hh hq=>by
 rw[hs];refine Tr ?_;refine h1 A S U s _ E hr hh λv h' t' e rd=>?_;refine h2 A S U _ p _ E hr (hh.ext e) λvs eC gV e' Cw=>?_;exact hq (v::vs) eC gV (e.trans e') (.cons (rd.up e' (λa ha=>dH.xI hh ha) λω z=>z) (Cw.mono (λa ha=>ha.imp id (e.fresh hh.aq.ns)) λω ω ω z=>z))
theorem bI.list(h:ba C env Γ es md xs)(aF:xs.length<=lim):bI C env Γ (.List es p) md xs:=λA S U s Q E hr hh hq=>by
 refine wpAny_List_spliced (h A S U s p _ E hr hh λvs h' t' e Cw=>⟨?_,?_⟩)
 ·rw[Cw.length];unfold lim at aF;show _<=2^24;omega
 ·have du:h'.get? h'.objs.size=none:=(Ext.refl A env h').fresh_at (hh.ext e).aq.ns;refine hq _ vs 0 _ _ (e.push _) (e.fresh_at hh.aq.ns) (e.df hh) (RL _ rfl) ?_;exact Cw.there.mono (λb hb=>⟨hb.1,by rintro rfl;have:=hb.2;rw[du]at this;cases this⟩) λa o ω ho=>Ry _ ho
theorem Ev.tuple{k:Nat}(h:ba C env Γ es md xs)(aF:xs.length<=lim):Ev C env Γ (.Tuple es k p) md (.tuple xs):=λA S U s Q E hr hh hq=>by
 refine wpAny_Tuple_spliced (h A S U s p _ E hr hh λvs h' t' e Cw=>⟨?_,?_⟩)
 ·rw[Cw.length];unfold lim at aF;show _<=2^24;omega
 ·refine hq _ _ _ (e.push _) (.tuple (.inr (e.fresh_at hh.aq.ns)) (RL _ rfl) ?_);exact Cw.mono (λω z=>z) λa o ω ho=>Ry _ ho
theorem iw(items:Array Rz):∀ (k:Nat) (acc:Array Rz),(Xq (λx1 x2=>x1++x2) acc (SQ k items))=acc++((SQ k items.toList).flatten).toArray
 |0,acc=>by simp
 |k+1,acc=>by
  rw[Um,YB,iw items k,Um,VS];apply Zq;simp
theorem ab.replicate{S:RD->Prop}(r:ab C.prog C.w S h vs xs):∀k:Nat,ab C.prog C.w S h (SQ k vs).flatten (SQ k xs).flatten
 |0=>.nil
 |k+1=>by rw[Um,VS,Um,VS];exact r.append (ab.replicate r k)
theorem bI.mul{k:Int}(h1:Ev C env Γ l md (.list xs))(h2:Ev C env Γ r m2 (.int k))(cY: -(2^63:Int)<=k)(Du:k<2^63)(aF:xs.length*k.toNat<=lim):
  bI C env Γ (.BinOp l .Mult r p) md (SQ k.toNat xs).flatten:=
 Ev.IA h1 h2 λA S U s h₀ v u Q E hr hh e bR rv ru hq=>by
  refine aP rv.aS λa vs n zr zw=>?_;subst zr;refine dd zw λha eh ra=>?_;clear zw;refine oE ru.int_inv λt zr=>?_;subst zr;refine oE hh.aq.ns λm hm=>?_;have du:s.heap.get? s.heap.objs.size=none:=(Ext.refl A env s.heap).fresh_at ⟨m,hm⟩;refine Zg (Fg hm) oF eh cY Du ?_ ?_
  ·have e1:=ra.length;simp only[RX,e1];unfold lim at aF;omega
  ·intro h' F N;have e':Ext A env s.heap h':=jk hm F N λω hp=>Rn _ hp;have fo:=N.get Rm;have Eb:(Xq (λx1 x2=>x1++x2) #[] (SQ (if vs.toArray.isEmpty=true then 0 else k.toNat) vs.toArray))=(SQ k.toNat vs).flatten.toArray:=by
    rw[iw];cases vs with
    |nil=>
     have:∀k,(SQ k ([]:List Rz)).flatten=[]:=λk=>by induction k<;>simp[Um, *]
     simp[this]
    |cons v vs=>simp
   rw[Eb]at fo;refine hq _ (SQ k.toNat vs).flatten 0 h' s.toks e' du fo ?_ rfl;exact(ra.new e' (λa=>rT hh e bR) du).replicate _
theorem Ev.sub{i:Expr}{x z:PV}{id:String}(h1:Ev C env Γ l m1 x)(h2:Ev C env Γ i m2 y)
  (hT:∀ (s:Ro) (S:RD->Prop) (v:Rz),Rd C.prog C.w S s.heap v x->s.TypeIs v T) (PO:typeLookup (.type T) (So "__getitem__")=pure (some (.builtin id)))
  (eY:kB i)
  (qp:∀ (A:Sg) (S U:RD->Prop) (s:Ro) (h₀:Heap) (v u:Rz) (Q:Rz->Ro->Prop) (E:Rz->Ro->Prop),aB C A->Here C A S U env Γ s.heap->Ext A env h₀ s.heap->Bk C A env h₀->
   Rd C.prog C.w (dH m1 S U h₀) s.heap v x->Rd C.prog C.w (dH m2 S U h₀) s.heap u y->
   (∀v h' t',Ext A env s.heap h'->Rd C.prog C.w (dH md S U h₀) h' v z->Q v {s with heap:=h',toks:=t'})->RM (RF C.prog C.w) A (getItem v u) Q E s):
  Ev C env Γ (.Subscript l i p) md z:=λA S U s Q E hr hh hq=>by
 refine Subscript_ (Ev.two h1 h2 hr hh λv u h' t' e rv ru=>?_);refine oE (eY v u) λops vz=>?_;refine tail_any (hT {s with heap:=h',toks:=t'} _ v rv) PO ?_ vz;exact qp A S U _ s.heap v u Q E hr (hh.ext e) e hh.C5 rv ru λv' eC gV e' r'=>hq v' eC gV (e.trans e') r'
theorem Rd.pJ{S:RD->Prop}{s:Ro}(r:Rd C.prog C.w S s.heap v (.list xs)):s.TypeIs v "list":=by
 refine aP r.aS λa vs n zr zw=>?_;subst zr;refine dd zw λ_ ho _=>?_;clear zw;exact⟨_,ho,rfl⟩
theorem Rd.vJ{S:RD->Prop}{s:Ro}(r:Rd C.prog C.w S s.heap v (.tuple xs)):s.TypeIs v "tuple":=by
 refine aP r.gD λa vs n zr zw=>?_;subst zr;refine dd zw λ_ ho _=>?_;clear zw;exact⟨_,ho,rfl⟩
theorem Ev.item{k:Int}{x:PV}{i:Expr}(h1:Ev C env Γ l md (.list xs))(h2:Ev C env Γ i m2 (.int k))(h0:0<=k)(Du:k<2^63)(hx:xs[k.toNat]?=some x)
  (eY:autoParam (kB i) oA7._auto_1):Ev C env Γ (.Subscript l i p) md x:=
 Ev.sub h1 h2 (λs S v r=>r.pJ) slot_list_getitem.lookup eY λA S U s h₀ v u Q E hr hh e bR rv ru hq=>by
  refine aP rv.aS λa vs n zr zw=>?_;subst zr;refine dd zw λha eh ra=>?_;clear zw;refine oE ru.int_inv λt zr=>?_;subst zr;refine aD (ra.get hx) λy hy ry=>?_;exact WT (bz.bw eh) h0 Du (by simpa using hy) (hq y s.heap s.toks (.refl _ _ _) ry)
theorem Ev.item_last{x:PV}{i:Expr}(h1:Ev C env Γ l md (.list xs))(h2:Ev C env Γ i m2 (.int (-1)))(aF:xs.length<=lim)(hx:xs.getLast?=some x)
  (eY:autoParam (kB i) oA7._auto_1):Ev C env Γ (.Subscript l i p) md x:=
 Ev.sub h1 h2 (λs S v r=>r.pJ) slot_list_getitem.lookup eY λA S U s h₀ v u Q E hr hh e bR rv ru hq=>by
  refine aP rv.aS λa vs n zr zw=>?_;subst zr;refine dd zw λha eh ra=>?_;clear zw;refine oE ru.int_inv λt zr=>?_;subst zr;rw[Xj]at hx;refine aD (ra.get hx) λy hy ry=>?_;have hl:=ra.length;have iI:0<xs.length:=by
   rcases Nat.eq_zero_or_pos xs.length with h|h
   ·rw[SI]at h;subst h;simp at hx
   ·exact h
  refine X8 (bz.bw eh) (by decide) ?_ (by decide) ?_ (hq y s.heap s.toks (.refl _ _ _) ry)
  ·simp only[RX,hl];omega
  ·have:((-1:Int)+(vs.toArray.size:Int)).toNat=xs.length - 1:=by simp only[RX,hl];omega
   rw[this];simpa using hy
end
section
variable{l:Expr}
noncomputable def F4(C:Cx)(env:Env)(Γ:fT)(o:Option Expr)(k:Option Int):Prop:=
 ∀ (A:Sg) (S U:RD->Prop) (s:Ro) (Q:Rz->Ro->Prop) (E:Rz->Ro->Prop),aB C A->Here C A S U env Γ s.heap->
  (∀v h' t',Ext A env s.heap h'->IsPart v k->Q v {s with heap:=h',toks:=t'})->RM (RF C.prog C.w) A (evalPart o env) Q E s
theorem F4.none:F4 C env Γ none none:=λA S U s Q E hr hh hq=>YG (hq _ s.heap s.toks (.refl _ _ _) .none)
theorem F4.some{k:Int}(h:Ev C env Γ e md (.int k)):F4 C env Γ (some e) (some k):=λA S U s Q E hr hh hq=>
 wpAny_evalPart_some (h A S U s Q E hr hh λv h' t' e rd=>by refine oE rd.int_inv λt zr=>?_;subst zr;exact hq _ h' t' e (.int _ _))
theorem bI.gU{lo hi:Option Expr}{a b:Option Int}(g:List Rz->List Rz)(h1:Ev C env Γ l md (.list xs))(ha:F4 C env Γ lo a)(hb:F4 C env Γ hi b)(aF:xs.length<=lim)
  (hg:∀vs:List Rz,vs.length=xs.length->slicePick vs.toArray a b none=(g vs).toArray) (hr:∀S h vs,ab C.prog C.w S h vs xs->ab C.prog C.w S h (g vs) ys):
  bI C env Γ (.Subscript l (.Slice lo hi none p') p) md ys:=λA S U s Q E mz hh hq=>by
 refine Subscript_ (h1 A S U s _ E mz hh λv h' t' e rd=>wpAny_Slice (ha A S U _ _ E mz (hh.ext e) λvl h₂ t₂ lM pl=>hb A S U _ _ E mz ((hh.ext e).ext lM) λvu bO Cz u7 pu=>YG ?_));refine aP rd.aS λq vs n zr zw=>?_;subst zr;refine dd zw λEH Px ra=>?_;clear zw;have L8:=lM.trans u7;have H':bO.get? q=some (gN vs n):=L8.keep q _ (dH.xI hh EH) Px;have hlen:=ra.length;have CJ:=e.trans L8;refine tail_any (T:="list") (ops:=[.ref bO.objs.size,.ref q]) ⟨_,Ry _ H',rfl⟩ slot_list_getitem.lookup ?_ rfl;refine wpAny_getItem_list_slice (bz.bw (Ry _ H')) (YV ..) pl pu .none (by simp) ?_ ?_
 ·rw[hg vs hlen];have du:bO.get? (bO.push {cls:=.type "slice",data:=.fields #[vl,vu,.none]}).objs.size=none:=((Ext.refl A env bO).push _).fresh_at (hh.ext CJ).aq.ns;refine hq _ (g vs) 0 _ _ ((CJ.push _).push _) ?_ ?_ (RL _ rfl) ?_
  ·exact(CJ.push {cls:=.type "slice",data:=.fields #[vl,vu,.none]}).fresh_at hh.aq.ns
  ·exact(CJ.push {cls:=.type "slice",data:=.fields #[vl,vu,.none]}).df hh
  ·refine(hr _ _ _ (ra.up L8 (λa ha=>dH.xI hh ha) λω z=>z)).there.mono (λb hb=>⟨hb.1,?_⟩) λa o ω ho=>Ry _ (Ry _ ho);rintro rfl;have:=hb.2;rw[du]at this;cases this
 ·simp only[RX,hlen];unfold lim at aF;show _<=2^24;omega
theorem bI.j7{hi:Expr}{k:Int}(h1:Ev C env Γ l md (.list xs))(h2:Ev C env Γ hi m2 (.int k))(h0:0<=k)(aF:xs.length<=lim):
  bI C env Γ (.Subscript l (.Slice none (some hi) none p') p) md (xs.take k.toNat):=
 bI.gU (λvs=>vs.take k.toNat) h1 .none (.some h2) aF (λvs ω=>by have:=slicePick_upto' vs.toArray k.toNat;rwa[Vy h0]at this) λS h vs r=>r.take _
theorem bI.jG{lo:Expr}{k:Int}(h1:Ev C env Γ l md (.list xs))(h2:Ev C env Γ lo m2 (.int k))(h0:0<=k)(aF:xs.length<=lim):
  bI C env Γ (.Subscript l (.Slice (some lo) none none p') p) md (xs.drop k.toNat):=
 bI.gU (λvs=>vs.drop k.toNat) h1 (.some h2) .none aF (λvs ω=>by have:=slicePick_from' vs.toArray k.toNat;rwa[Vy h0]at this) λS h vs r=>r.drop _
theorem bI.oQ{hi:Expr}(h1:Ev C env Γ l md (.list xs))(h2:Ev C env Γ hi m2 (.int (-1)))(aF:xs.length<=lim):
  bI C env Γ (.Subscript l (.Slice none (some hi) none p') p) md (xs.take (xs.length - 1)):=
 bI.gU (λvs=>vs.take (xs.length - 1)) h1 .none (.some h2) aF (λvs hl=>by have:=slicePick_butLast vs.toArray 1 (by decide);simpa [hl]using this) λS h vs r=>r.take _
theorem bI.vR{lo:Expr}(h1:Ev C env Γ l md (.list xs))(h2:Ev C env Γ lo m2 (.int (-1)))(aF:xs.length<=lim):
  bI C env Γ (.Subscript l (.Slice (some lo) none none p') p) md (xs.drop (xs.length - 1)):=
 bI.gU (λvs=>vs.drop (xs.length - 1)) h1 (.some h2) .none aF (λvs hl=>by have:=slicePick_last vs.toArray 1 (by decide);simpa [hl]using this) λS h vs r=>r.drop _
noncomputable def cw(C:Cx)(env:Env)(Γ:fT)(op:CmpOp)(m1 m2:Bool)(x y z:PV):Prop:=
 ∀ (A:Sg) (S U:RD->Prop) (s:Ro) (h₀:Heap) (v u:Rz) (Q:Rz->Ro->Prop) (E:Rz->Ro->Prop),aB C A->Here C A S U env Γ s.heap->Ext A env h₀ s.heap->Bk C A env h₀->
   Rd C.prog C.w (dH m1 S U h₀) s.heap v x->Rd C.prog C.w (dH m2 S U h₀) s.heap u y->
   (∀v h' t',Ext A env s.heap h'->(∀md,Rd C.prog C.w (dH md S U h₀) h' v z)->Q v {s with heap:=h',toks:=t'})->RM (RF C.prog C.w) A (compareOp op v u) Q E s
theorem Ev.cmp{p:Pos}{md:Bool}{x z:PV}(h1:Ev C env Γ l m1 x)(h2:Ev C env Γ r m2 y)(qp:cw C env Γ op m1 m2 x y z)
  (hm:autoParam (TB op r=false) oA5._auto_1):
  Ev C env Γ (.Compare l [op] [r] p) md z:=λA S U s Q E hr hh hq=>
 wpAny_Compare1 (Ev.two h1 h2 hr hh λv u h' t' e rv ru=>qp A S U _ s.heap v u Q E hr (hh.ext e) e hh.C5 rv ru λv' eC gV e' r'=>hq v' eC gV (e.trans e') (r' md)) hm
theorem cX.cmp{p:Pos}{x:PV}{b:Bool}(h1:Ev C env Γ l m1 x)(h2:Ev C env Γ r m2 y)(qp:cw C env Γ op m1 m2 x y (.bool b))
  (hm:autoParam (TB op r=false) oA5._auto_1):
  cX C env Γ (.Compare l [op] [r] p) b:=λA S U s Q E hr hh hq=>
 Wr (Ev.two h1 h2 hr hh λv u h' t' e rv ru=>qp A S U _ s.heap v u _ E hr (hh.ext e) e hh.C5 rv ru λv' eC gV e' r'=>by
  cases(r' true).bool_inv;exact Vo (hq eC gV (e.trans e'))) hm
theorem cw.lt_int{i j:Int}:cw C env Γ .Lt m1 m2 (.int i) (.int j) (.bool (decide (i<j))):=λA S U s h₀ v u Q E hr hh e bR rv ru hq=>by
 refine oE rv.int_inv λt zr=>?_;subst zr;refine oE ru.int_inv λt' zr=>?_;subst zr;exact W0 (hq _ s.heap _ (.refl _ _ _) λω=>.bool _)
theorem cw.gt_int{i j:Int}:cw C env Γ .Gt m1 m2 (.int i) (.int j) (.bool (decide (i>j))):=λA S U s h₀ v u Q E hr hh e bR rv ru hq=>by
 refine oE rv.int_inv λt zr=>?_;subst zr;refine oE ru.int_inv λt' zr=>?_;subst zr;exact Zi (hq _ s.heap _ (.refl _ _ _) λω=>.bool _)
theorem cw.ge_int{i j:Int}:cw C env Γ .GtE m1 m2 (.int i) (.int j) (.bool (decide (i≥j))):=λA S U s h₀ v u Q E hr hh e bR rv ru hq=>by
 refine oE rv.int_inv λt zr=>?_;subst zr;refine oE ru.int_inv λt' zr=>?_;subst zr;exact Zj (hq _ s.heap _ (.refl _ _ _) λω=>.bool _)
theorem cw.eq_int{i j:Int}:cw C env Γ .Eq m1 m2 (.int i) (.int j) (.bool (i==j)):=λA S U s h₀ v u Q E hr hh e bR rv ru hq=>by
 refine oE rv.int_inv λt zr=>?_;subst zr;refine oE ru.int_inv λt' zr=>?_;subst zr;exact Zk (hq _ s.heap _ (.refl _ _ _) λω=>.bool _)
theorem cw.ne_int{i j:Int}:cw C env Γ .NotEq m1 m2 (.int i) (.int j) (.bool (i !=j)):=λA S U s h₀ v u Q E hr hh e bR rv ru hq=>by
 refine oE rv.int_inv λt zr=>?_;subst zr;refine oE ru.int_inv λt' zr=>?_;subst zr;exact Zf (hq _ s.heap _ (.refl _ _ _) λω=>.bool _)
noncomputable def PV.Me(f:List PV->Bool):PV->Bool
 | .none| .bool _| .int _=>true
 | .str s=>YJ s
 | .list xs| .tuple xs=>f xs
 |_=>false
noncomputable def PV.Ha:Nat->PV->Bool
 |0=>PV.Me λω=>false
 |n+1=>PV.Me λxs=>xs.all (PV.Ha n)
noncomputable abbrev PV.BU(n:Nat)(xs:List PV):Bool:=xs.all (PV.Ha n)
theorem PV.qz(n:Nat)(xs:List PV):PV.BU n xs=xs.all (PV.Ha n):=rfl
theorem PV.eN:∀ (n:Nat) (x:PV),x.Ha n=true->x.plain=true/\x.py.depth<=n:=by
 have H:∀ (n:Nat) (f:List PV->Bool),(∀xs,f xs=true->1<=n/\PV.plainAll xs=true/\PyData.depthAll (PV.pG xs)<=n - 1)->∀x,PV.Me f x=true->x.plain=true/\x.py.depth<=n:=λn f hf x h=>by
  cases x with
  |none=>exact⟨rfl,RU _⟩
  |bool b=>exact⟨rfl,RU _⟩
  |int i=>exact⟨rfl,RU _⟩
  |str s=>exact⟨h,RU _⟩
  |list xs=>exact⟨(hf xs h).2.1,Rk (WW (hf xs h).2.2) (UI (WB (hf xs h).1))⟩
  |tuple xs=>exact⟨(hf xs h).2.1,Rk (WW (hf xs h).2.2) (UI (WB (hf xs h).1))⟩
  |_=>exact Tz h
 intro n
 induction n with
 |zero=>exact H 0 _ λω h=>Tz h
 |succ n ih=>
  refine H (n+1) _ λxs=>?_
  induction xs with
  |nil=>exact λω=>⟨Zm n,rfl,RU _⟩
  |cons x xs h2=>
   intro h;have h:=Sj.mp h;exact⟨Zm n,Sj.mpr ⟨(ih x h.1).1,(h2 h.2).2.1⟩,Nat.max_le.mpr ⟨(ih x h.1).2,(h2 h.2).2.2⟩⟩
noncomputable def PV.eqv(x y:PV):Bool:=x.py.eqv y.py
noncomputable def PV.ok(x:PV):Bool:=x.Ha 8
theorem PV.e9{S:RD->Prop}{x:PV}(hx:x.ok=true)(r:Rd C.prog C.w S h v x):∃as,Reads h v x.py as:=r.reads (PV.eN _ _ hx).1
theorem PV.jj{x:PV}(hx:x.ok=true):Xi x.py=true:=by
 have h:=PV.eN _ _ hx;unfold Xi;rw[PV.canLay0 x h.1,decide_eq_true (Rk h.2 (by decide))];rfl
theorem cw.eq{x:PV}(hx:x.ok=true)(hy:y.ok=true):cw C env Γ .Eq m1 m2 x y (.bool (x.eqv y)):=λA S U s h₀ v u Q E hr hh e bR rv ru hq=>by
 refine oE (PV.e9 hx rv) λas ra=>?_;refine oE (PV.e9 hy ru) λbs rb=>?_;exact eq_dataH ra rb (PV.jj hx) (PV.jj hy) (by have:=hr.2.2;omega) (hq _ s.heap _ (.refl _ _ _) λω=>.bool _)
theorem cw.ne{x:PV}(hx:x.ok=true)(hy:y.ok=true):cw C env Γ .NotEq m1 m2 x y (.bool (!x.eqv y)):=λA S U s h₀ v u Q E hr hh e bR rv ru hq=>by
 refine oE (PV.e9 hx rv) λas ra=>?_;refine oE (PV.e9 hy ru) λbs rb=>?_;exact ne_dataH ra rb (PV.jj hx) (PV.jj hy) (by have:=hr.2.2;omega) (hq _ s.heap _ (.refl _ _ _) λω=>.bool _)
theorem qX{S:RD->Prop}{x:PV}{e:Rz->Bool}(r:ab C.prog C.w S h vs xs):(∀v y,v∈vs->y∈xs->Rd C.prog C.w S h v y->e v=y.eqv x)->vs.any e=xs.any (λy=>y.eqv x):=
 ab.ind (P:=λvs xs=>(∀v y,v∈vs->y∈xs->Rd C.prog C.w S h v y->e v=y.eqv x)->vs.any e=xs.any (λy=>y.eqv x)) (λω=>rfl) (λω ω ω ω a ω ih he=>by
  rw[YU,YU,he _ _ Rm Rm a,ih λv y hv hy=>he v y (Rn _ hv) (Rn _ hy)]) r
theorem ab.mem{S:RD->Prop}(r:ab C.prog C.w S h vs xs):v∈vs->∃x∈xs,Rd C.prog C.w S h v x:=
 ab.ind (P:=λvs xs=>v∈vs->∃x∈xs,Rd C.prog C.w S h v x) (λh=>nomatch h)
  (λω ω x ω a ω ih hv=>(Rr.mp hv).elim (λe=>⟨x,Rm,e▸a⟩) λhv=>aD (ih hv) λx hx rx=>⟨x,Rn _ hx,rx⟩) r
theorem Rd.uW{S:RD->Prop}{x:PV}(hx:x.ok=true)(hy:y.ok=true)(rx:Rd C.prog C.w S h v x)(ry:Rd C.prog C.w S' h v y):x.py=y.py:=by
 refine oE (PV.e9 hx rx) λas ra=>?_;refine oE (PV.e9 hy ry) λbs rb=>?_;exact Yi _ _ _ _ _ (PV.canLay0 x (PV.eN _ _ hx).1) ra rb
theorem xt{s:Ro}{S:RD->Prop}{x:PV}(hr:A.units+100<cLine)(ra:ab C.prog C.w S s.heap vs xs)(ru:Rd C.prog C.w S' s.heap u x)(hx:x.ok=true)(ur:xs.all PV.ok=true):
  ∃e:Rz->Bool,(∀y∈vs,Zw A.in1 s y u (e y))/\vs.any e=xs.any λy=>y.eqv x:=by
 classical
 have key:∀v∈vs,∃y∈xs,Rd C.prog C.w S s.heap v y:=λv hv=>ra.mem hv;refine⟨λv=>if hv:v∈vs then(Wt (key v hv)).eqv x else false,λv hv=>?_,?_⟩
 ·simp only[hv,dif_pos];refine oA (Xh (key v hv)) λhy ry=>?_;have MZ:(Wt (key v hv)).ok=true:=Sv.mp ur _ hy;refine oE (PV.e9 MZ ry) λas r1=>?_;refine oE (PV.e9 hx ru) λbs r2=>?_;refine Zv _ _ _ _ _ _ _ _ r1 r2 (PV.canLay0 _ (PV.eN _ _ MZ).1) (PV.canLay0 _ (PV.eN _ _ hx).1) ?_;have:=(PV.eN _ _ hx).2;have h2:A.in1.units=A.units+1:=rfl;rw[h2];have h3:=Ur (Wt (key v hv)).py.depth x.py.depth;omega
 ·refine qX ra λv y hv hy ry=>?_;simp only[hv,dif_pos];refine oA (Xh (key v hv)) λoY OJ=>?_;unfold PV.eqv;rw[Rd.uW (Sv.mp ur _ oY) (Sv.mp ur _ hy) OJ ry]
theorem cw.in_list{x:PV}(hx:x.ok=true)(ur:xs.all PV.ok=true):cw C env Γ .In m1 m2 x (.list xs) (.bool (xs.any λy=>y.eqv x)):=λA S U s h₀ v u Q E hr hh e bR rv ru hq=>by
 refine aP ru.aS λa vs n zr zw=>?_;subst zr;refine dd zw λha eh ra=>?_;clear zw;refine aD (xt (A:=A) (by have:=hr.2.2;omega) ra rv hx ur) λf hf tK=>?_;refine Zt f (bz.bw eh) (λy hy=>hf y (by simpa using hy)) ?_;rw[Yq,tK];exact hq _ s.heap _ (.refl _ _ _) λω=>.bool _
theorem cw.vD{x:PV}(hx:x.ok=true)(ur:xs.all PV.ok=true):cw C env Γ .NotIn m1 m2 x (.list xs) (.bool (!xs.any λy=>y.eqv x)):=λA S U s h₀ v u Q E hr hh e bR rv ru hq=>by
 refine aP ru.aS λa vs n zr zw=>?_;subst zr;refine dd zw λha eh ra=>?_;clear zw;refine aD (xt (A:=A) (by have:=hr.2.2;omega) ra rv hx ur) λf hf tK=>?_;refine Zs f (bz.bw eh) (λy hy=>hf y (by simpa using hy)) ?_;rw[Yq,tK];exact hq _ s.heap _ (.refl _ _ _) λω=>.bool _
noncomputable def Key.pv:Key->PV| .int i=>.int i| .str x=>.str x
noncomputable def dP(kvs:List (Key×PV))(k:Key):Option PV:=(kvs.find? λkv=>kv.1=k).map (·.2)
theorem Rd.key{S:RD->Prop}{k:Key}(r:Rd C.prog C.w S h v k.pv):(aw C.prog C.w).is k v=true:=by
 cases k with
 |int i=>refine oE (Rd.int_inv r) λt zr=>?_;subst zr;exact Key.Ew i t
 |str x=>refine oE (Rd.str_inv r) λt zr=>?_;subst zr;exact Key.DZ x t
theorem Rd.ku{S:RD->Prop}(r:Rd C.prog C.w S h v (.dict kvs)):∃a vs,v= .ref a/\S a/\Rt<a/\h.DictOf (aw C.prog C.w) a ((kvs.map (·.1)).zip vs)/\ab C.prog C.w S h vs (kvs.map (·.2)):=r.view
theorem iU{S:RD->Prop}(k:Key):∀ {vs:List Rz},ab C.prog C.w S h vs (kvs.map (·.2))->
  (match dP kvs k with|some x=>∃v,valueAt ((kvs.map (·.1)).zip vs) k=some v/\Rd C.prog C.w S h v x|none=>valueAt ((kvs.map (·.1)).zip vs) k=none):=by
 induction kvs with
 |nil=>intro vs _;simp[dP,valueAt]
 |cons q kvs ih=>
  intro vs r;obtain⟨a,x⟩:=q;cases r with
  |cons h1 h2=>
   have ih:=ih h2;unfold dP valueAt at*;simp only[Sl,UZ,TQ];by_cases hk:a=k
   ·simp only[hk,decide_true,SM];exact⟨_,rfl,h1⟩
   ·simp only[hk,decide_false];exact ih
theorem noSys{a:RD}(h:Rt<a):(a==sysModules)=false:=by
 have:a≠sysModules:=TA (R0 (by decide) h);simpa using this
theorem cw.in_dict{k:Key}:cw C env Γ .In m1 m2 k.pv (.dict kvs) (.bool ((dP kvs k).isSome)):=λA S U s h₀ v u Q E hr hh e bR rv ru hq=>by
 refine aM ru.ku λa vs zr zw=>?_;subst zr;refine iC zw λha cY hd ra=>?_;clear zw;refine wpAny_in_of rv.key (noSys cY) hd.mapOf ?_;have:=iU k ra;cases hk:dP kvs k with
 |none=>rw[hk]at this hq;rw[this];exact hq _ s.heap _ (.refl _ _ _) λω=>.bool _
 |some x=>rw[hk]at this hq;refine aD this λv' e' _=>?_;clear this;rw[e'];exact hq _ s.heap _ (.refl _ _ _) λω=>.bool _
theorem Ev.item_dict{k:Key}{x:PV}{i:Expr}(h1:Ev C env Γ l md (.dict kvs))(h2:Ev C env Γ i m2 k.pv)(hx:dP kvs k=some x)
  (eY:autoParam (kB i) oA7._auto_1):Ev C env Γ (.Subscript l i p) md x:=
 Ev.sub h1 h2 (λs S v r=>by refine aM r.ku λa vs zr zw=>?_;subst zr;refine iC zw λ_ _ hd _=>?_;clear zw;exact hd.typeIs) slot_dict_getitem.lookup eY λA S U s h₀ v u Q E hr hh e bR rv ru hq=>by
  refine aM rv.ku λa vs zr zw=>?_;subst zr;refine iC zw λha cY hd ra=>?_;clear zw;have:=iU k ra;rw[hx]at this;refine aD this λy hy ry=>?_;clear this;exact Y9 ru.key hd.mapOf hy (hq y s.heap _ (.refl _ _ _) ry)
theorem cw.is_none{x:PV}{b:Bool}(hb:(match x with| .none=>some true| .aK _=>some false| .list _=>some false| .tuple _=>some false| .dict _=>some false| .bool _=>some false|_=>none)=some b):cw C env Γ .Is m1 m2 x .none (.bool (b)):=λA S U s h₀ v u Q E hr hh e bR rv ru hq=>by
 cases ru.none_inv;have hv:plainIs v .none=true/\(v== .none)=b:=by
  cases rv<;>cases hb<;>exact⟨rfl,rfl⟩
 refine XF hv.1 ?_;rw[hv.2];exact hq _ s.heap _ (.refl _ _ _) λω=>.bool _
theorem cw.jR{x:PV}{b:Bool}(hb:(match x with| .none=>some true| .aK _=>some false| .list _=>some false| .tuple _=>some false| .dict _=>some false| .bool _=>some false|_=>none)=some b):cw C env Γ .IsNot m1 m2 x .none (.bool (!b)):=λA S U s h₀ v u Q E hr hh e bR rv ru hq=>by
 cases ru.none_inv;have hv:plainIs v .none=true/\(v== .none)=b:=by
  cases rv<;>cases hb<;>exact⟨rfl,rfl⟩
 refine W8 hv.1 ?_;rw[hv.2];exact hq _ s.heap _ (.refl _ _ _) λω=>.bool _
theorem cw.isnot_bool{a b:Bool}:cw C env Γ .IsNot m1 m2 (.bool a) (.bool b) (.bool (a !=b)):=λA S U s h₀ v u Q E hr hh e bR rv ru hq=>by
 cases rv.bool_inv;cases ru.bool_inv;refine W8 rfl ?_;have:(!Value.bool a==Value.bool b)=(a !=b):=by cases a<;>cases b<;>rfl
 rw[this];exact hq _ s.heap _ (.refl _ _ _) λω=>.bool _
theorem cw.isnot_type{a b:String}:cw C env Γ .IsNot m1 m2 (.raw (.type a)) (.raw (.type b)) (.bool (a !=b)):=λA S U s h₀ v u Q E hr hh e bR rv ru hq=>by
 cases rv.aQ;cases ru.aQ;refine W8 rfl ?_;have:(!Value.type a==Value.type b)=(a !=b):=by
  rw[W4];simp
 rw[this];exact hq _ s.heap _ (.refl _ _ _) λω=>.bool _
theorem cw.BZ{a b:String}:cw C env Γ .Is m1 m2 (.raw (.type a)) (.raw (.type b)) (.bool (a==b)):=λA S U s h₀ v u Q E hr hh e bR rv ru hq=>by
 cases rv.aQ;cases ru.aQ;refine XF rfl ?_;have:(Value.type a==Value.type b)=(a==b):=by
  rw[W4];simp
 rw[this];exact hq _ s.heap _ (.refl _ _ _) λω=>.bool _
end
theorem fz{xl n:Nat}(hn:n=xl - i)(hlt:i<xl):xl - (i+1)<n:=hn▸Uo hlt (TZ i)
theorem O7{t:Sem α}{Q:α->Ro->Prop}{s:Ro}(h:∀ (Q':α->Ro->Prop) (E':Rz->Ro->Prop),(∀a s,Q a s->Q' a s)->(∀e s,E e s->E' e s)->RM M A t Q' E' s):RM M A t Q E s:=h Q E (λω ω x=>x) λω ω x=>x
section
variable{prog:Sw}{w:TG}
theorem q7{s:Ro}{pos:Pos}{d:Nat}{it acc:Rz}{g:Comprehension}(I:Nat->Ro->Prop)
  (hg:gens[d]?=some g) (ha:g.is_async=0) (k9:∀g',gens[d+1]?=some g'->g'.is_async=0/\∀x,R8 g'.iter env x=pure x)
  (vc:∀n s,I n s->RM (RF prog w) A (pyNext it) (λr s₁=>match r with
   |none=>R (.ok .next) s₁
   |some v=>RM (RF prog w) A (letOwnedTupleGo g.target it v) (λω pE=>RM (RF prog w) A (assign g.target env v) (λω s₂=>
     RM (RF prog w) A (forIn g.ifs true λc r=>if r=true then do let ok ←isTrue c env (eval c env);pure (ForInStep.yield ok)else pure (ForInStep.yield r)) (λok cL=>
      if ok=true then(match gens[d+1]? with
       |none=>RM (RF prog w) A (eval elt env) (λx jP=>RM (RF prog w) A (call (.builtin "list.append") [acc,x]) (λω mj=>∃m,m<n/\I m mj) (λω ω=>False) jP) (λω ω=>False) cL
       |some g'=>RM (RF prog w) A (eval g'.iter env) (λx jP=>RM (RF prog w) A (pyIter x) (λit' mj=>
         TR (RF prog w) A (.compStart (.ListComp elt gens scope pos) (d+1) it' acc env) (λr zR=>match r with| .ok _=>∃m,m<n/\I m zR| .error _=>False) mj) (λω ω=>False) jP) (λω ω=>False) cL)
      else ∃m,m<n/\I m cL) (λω ω=>False) s₂) (λω ω=>False) pE) (λω ω=>False) s₁) (λω ω=>False) s)
  (n:Nat) (h:I n s):TR (RF prog w) A (.compLoop (.ListComp elt gens scope pos) d it acc env) R s:=by
 refine codeAny_loop (c:=.compLoop (.ListComp elt gens scope pos) d it acc env) rfl I (λn s hI=>?_) n h;have hu:A.under (.compLoop (.ListComp elt gens scope pos) d it acc env)=A:=Xr rfl rfl;rw[hu];show RM _ A ((compTurn (.ListComp elt gens scope pos) d it acc env).onRaise (λx=>do noteFrame x env;theTreesLotGoes x)) _ _ s;refine wpAny_noted ?_;unfold compTurn;simp only[hg,ha];refine Rp (SJ ?_);refine Rp (Sf (vc n s hI) (λr s₁ h₁=>?_) λω ω h'=>h'.elim);cases r with
 |none=>exact RK h₁
 |some v=>
  refine Rp (Sf h₁ (λω pE Hn=>?_) λω ω h'=>h'.elim);refine Rp (Sf Hn (λω s₂ h₂=>?_) λω ω h'=>h'.elim);refine Rp (Sf h₂ (λok cL bO=>?_) λω ω h'=>h'.elim);cases ok with
  |false=>exact RK ⟨rfl,bO⟩
  |true=>
   simp only[if_true]at bO⊢;cases CV:gens[d+1]? with
   |none=>
    rw[CV]at bO;simp only at bO⊢;refine Rp (Rp (Sf bO (λx jP dU=>Rp (Sf dU (λω mj pe=>RK (RK ⟨rfl,pe⟩)) λω ω h'=>h'.elim)) λω ω h'=>h'.elim))
   |some g'=>
    rw[CV]at bO;refine oA (k9 g' CV) λhz Fq=>?_;simp only[hz]at bO⊢;refine Rp (Sf bO (λx jP dU=>?_) λω ω h'=>h'.elim);refine Rp (SJ ?_);refine Rp ?_;simp only[Fq];refine RK ?_;refine Rp (Sr (Sf dU (λit' mj pe=>?_) λω ω h'=>h'.elim));refine Rp (wpAny_runOwn (codeAny_mono pe λr zR Io=>?_));cases r with
    |error e=>exact Io.elim
    |ok f=>exact RK ⟨rfl,Io⟩
end
theorem oW{s:Ro}{pos:Pos}{d:Nat}{it acc:Rz}{g:Comprehension}(I:Nat->Ro->Prop)
  (hg:gens[d]?=some g) (ha:g.is_async=0) (k9:∀g',gens[d+1]?=some g'->g'.is_async=0/\∀x,R8 g'.iter env x=pure x)
  (vc:∀n s,I n s->∀ (Qn:Option Rz->Ro->Prop) (Ef:Rz->Ro->Prop) (QT:Bool->Ro->Prop),(∀s,R (.ok .next) s->Qn none s)->
   (∀v s₁,RM (RF prog w) A (letOwnedTupleGo g.target it v) (λω pE=>RM (RF prog w) A (assign g.target env v) (λω s₂=>
     RM (RF prog w) A (forIn g.ifs true λc r=>if r=true then do let ok ←isTrue c env (eval c env);pure (ForInStep.yield ok)else pure (ForInStep.yield r)) QT Ef s₂) Ef pE) Ef s₁->Qn (some v) s₁)->
   (∀m s,m<n->I m s->QT false s)->
   (gens[d+1]?=none->∀cL,(∀Qe:Rz->Ro->Prop,(∀x jP,(∀Qa:Rz->Ro->Prop,(∀u m s,m<n->I m s->Qa u s)->RM (RF prog w) A (call (.builtin "list.append") [acc,x]) Qa Ef jP)->Qe x jP)->RM (RF prog w) A (eval elt env) Qe Ef cL)->QT true cL)->
   (∀g',gens[d+1]?=some g'->∀cL,(∀Qi:Rz->Ro->Prop,(∀it' mj,(∀RR:Result->Ro->Prop,(∀f m zR,m<n->I m zR->RR (.ok f) zR)->TR (RF prog w) A (.compStart (.ListComp elt gens scope pos) (d+1) it' acc env) RR mj)->Qi it' mj)->
    RM (RF prog w) A (eval g'.iter env) (λx jP=>RM (RF prog w) A (pyIter x) Qi Ef jP) Ef cL)->QT true cL)->
   RM (RF prog w) A (pyNext it) Qn Ef s)
  (n:Nat) (h:I n s):TR (RF prog w) A (.compLoop (.ListComp elt gens scope pos) d it acc env) R s:=by
 refine q7 I hg ha k9 (λn s hI=>vc n s hI _ _ _ (λω x=>x) (λω ω x=>x) (λm s hm hi=>?_) (λe cL k=>?_) λg' e cL k=>?_) n h
 ·exact⟨m,hm,hi⟩
 ·show(match gens[d+1]? with|none=>_|some g'=>_);rw[e];exact k _ λx jP k=>k _ λω m ω hm hi=>⟨m,hm,hi⟩
 ·show(match gens[d+1]? with|none=>_|some g'=>_);rw[e];exact k _ λit' mj k=>k _ λω m ω hm hi=>⟨m,hm,hi⟩
section
variable{prog:Sw}{w:TG}{s:Ro}
theorem jx{pos:Pos}{d:Nat}{it acc:Rz}{g:Comprehension}
  (hg:gens[d]?=some g) (ha:g.is_async=0)
  (h0:TR (RF prog w) A (.compLoop (.ListComp elt gens scope pos) d it acc env) R s)
  (h:RM (RF prog w) A (pyIter it) (λit' s'=>TR (RF prog w) A (.compLoop (.ListComp elt gens scope pos) d it' acc env) R s') (λω ω=>False) s):
  TR (RF prog w) A (.compStart (.ListComp elt gens scope pos) d it acc env) R s:=by
 refine codeAny_of_tree ?_;have hu:A.under (.compStart (.ListComp elt gens scope pos) d it acc env)=A:=Xr rfl rfl;rw[hu];show RM _ _ ((compStart (.ListComp elt gens scope pos) d it acc env).onRaise (λx=>do noteFrame x env;standAt theWindowsPlace)) _ _ s;refine wpAny_notedAt ?_;unfold compStart;have oU:(clausesOf (.ListComp elt gens scope pos))[d]?=some g:=hg;simp only[oU,Option.elim,ha];show RM _ _ (ask>>=_) _ _ s;refine Rp (wpAny_askSetting ?_);refine wpAny_ite ?_;split
 ·first
   |exact Rp (RK (RK (And.intro rfl h0)))
   |exact RK (And.intro rfl h0)
 ·refine Rp (VE ?_);refine Rp (SJ ?_);refine Rp (Sf h (λit' s' h'=>RK (And.intro rfl h')) λω ω x=>x.elim)
noncomputable def ik:List String:=["enumerate","zip","dict_itemiterator","dict_reverseitemiterator","odict_iterator","itertools.zip_longest","itertools.pairwise"]
set_option tactic.hygienic true in
theorem fF{o:Obj}{Q:Unit->Ro->Prop}(ho:s.heap.get? I=some o)(hc:o.cls= .type T)(hT:ik.contains T=false)(h:Q () s):
  RM (RF prog w) A (letOwnedTupleGo target (.ref I) v) Q E s:=by
 have key:RM (RF prog w) A (letOwnedTupleGo (.Tuple [] default default) (.ref I) v) Q E s:=by
  cases v with
  |ref a=>
   refine Rp (Y0 ho ?_);rw[hc];cases hd:o.data<;>simp only[]<;>try exact RK h
   rename_i vs;show RM _ A (if(ik.contains T&&vs[0]?==some (rawInt a))=true then _ else _) Q E s;rw[hT,Xl,if_neg (by decide)];exact RK h
  |_=>exact RK h
 cases target<;>first|exact RK h|exact key
end
noncomputable def dw(C:Cx)(env:Env)(Γ:fT)(e:Expr)(md:Bool)(xs:List PV):Prop:=
 ∀ (A:Sg) (S U:RD->Prop) (s:Ro) (Q:Rz->Ro->Prop) (E:Rz->Ro->Prop),aB C A->Here C A S U env Γ s.heap->
  (∀I h' t' fp P St,Ext A env s.heap h'->s.heap.get? I=none->Rt<I->Walks C.prog C.w A I fp [I] xs.length P St->St 0 h'->
   (∀i v,P i v->∃x,xs[i]?=some x/\Rd C.prog C.w (λa=>dH md S U s.heap a/\a≠I) h' v x)->(∀b∈fp,(b=I\/dH md S U s.heap b)/\(h'.get? b).isSome=true)->xs.length<=2^24->
   (∀i h,St i h->∃o T,h.get? I=some o/\o.cls= .type T/\ik.contains T=false)->Q (.ref I) {s with heap:=h',toks:=t'})->
  RM (RF C.prog C.w) A (eval e env) (λx s₁=>RM (RF C.prog C.w) A (pyIter x) Q E s₁) E s
theorem bf:h.get? h.objs.size=none:=by
 cases hh:h.get? h.objs.size with
 |none=>rfl
 |some o=>exact absurd (Ss hh) (S8 _)
theorem Ext.high{S:RD->Prop}(e:Ext A env h h')(hh:Here C A S U env Γ h):Rt<h'.objs.size:=by
 refine oE hh.aq.ns λm hm=>?_;exact R0 hh.aq.high (e.ns m hm).lt
theorem dw.list(h:Ev C env Γ e md (.list xs))(aF:xs.length<=lim)(hN:autoParam (C.hd=false) oA8._auto_1):dw C env Γ e md xs:=λA S U s Q E hr hh hq=>by
 refine h A S U s _ E hr hh λv h' t' ex rd=>?_;refine aP rd.aS λa vs n zr zw=>?_;subst zr;refine dd zw λha eh ra=>?_;clear zw;have aX:a≠h'.objs.size:=Sm (Ss eh);refine W7 (bz.bw eh) ?_;have hk:∀b o,h'.get? b=some o->(h'.push {cls:=.type "list_iterator",data:=.fields #[.ref a,.int 0 0]}).get? b=some o:=λb o ho=>Ry _ ho;have hW:=Walks.list (prog:=C.prog) (w:=C.w) (hr.1 hN) h'.objs.size a aX vs.toArray;have hlen:vs.toArray.size=xs.length:=by simp[ra.length]
 rw[hlen]at hW;refine hq h'.objs.size _ t' _ _ _ (ex.push _) (ex.fresh_at hh.aq.ns) (ex.high hh) hW ⟨⟨_,RL _ rfl,rfl,rfl⟩,(bz.bw eh).at λo ho=>hk _ _ ho⟩ ?_ ?_ (by unfold lim at aF;omega) ?_
 ·intro i v hv;refine aD (ra.yw (i:=i) (v:=v) (by simpa using hv)) λx hx rx=>?_;exact⟨x,hx,rx.there.mono (λb hb=>⟨hb.1,by rintro rfl;have:=hb.2;rw[bf]at this;cases this⟩) λb o ω ho=>hk b o ho⟩
 ·intro b hb;rcases Rr.mp hb with rfl|hb
  ·exact⟨.inl rfl,by rw[RL _ rfl];rfl⟩
  ·rcases Rq.mp hb with rfl
   exact⟨.inr ha,by rw[hk _ _ eh];rfl⟩
 ·rintro i h ⟨⟨o,ho,hc,_⟩,_⟩;exact⟨o,_,ho,hc,by decide⟩
theorem dw.tuple(h:Ev C env Γ e md (.tuple xs))(aF:xs.length<=lim)(hN:autoParam (C.hd=false) oA8._auto_1):dw C env Γ e md xs:=λA S U s Q E hr hh hq=>by
 refine h A S U s _ E hr hh λv h' t' ex rd=>?_;refine aP rd.gD λa vs n zr zw=>?_;subst zr;refine dd zw λha eh ra=>?_;clear zw;have aX:a≠h'.objs.size:=Sm (Ss eh);refine wpAny_pyIter_tuple (CL.Fk eh) ?_;have hk:∀b o,h'.get? b=some o->(h'.push {cls:=.type "tuple_iterator",data:=.fields #[.ref a,.int 0 0]}).get? b=some o:=λb o ho=>Ry _ ho;have hW:=Walks.tuple (prog:=C.prog) (w:=C.w) (hr.1 hN) h'.objs.size a aX vs.toArray;have hlen:vs.toArray.size=xs.length:=by simp[ra.length]
 rw[hlen]at hW;refine hq h'.objs.size _ t' _ _ _ (ex.push _) (ex.fresh_at hh.aq.ns) (ex.high hh) hW ⟨⟨_,RL _ rfl,rfl,rfl⟩,⟨_,hk _ _ eh,rfl,n,rfl⟩⟩ ?_ ?_ (by unfold lim at aF;omega) ?_
 ·intro i v hv;refine aD (ra.yw (i:=i) (v:=v) (by simpa using hv)) λx hx rx=>?_;exact⟨x,hx,rx.there.mono (λb hb=>⟨hb.1,by rintro rfl;have:=hb.2;rw[bf]at this;cases this⟩) λb o ω ho=>hk b o ho⟩
 ·intro b hb;rcases Rr.mp hb with rfl|hb
  ·exact⟨.inl rfl,by rw[RL _ rfl];rfl⟩
  ·rcases Rq.mp hb with rfl
   exact⟨.inr ha,by rw[hk _ _ eh];rfl⟩
 ·rintro i h ⟨⟨o,ho,hc,_⟩,_⟩;exact⟨o,_,ho,hc,by decide⟩
noncomputable def mi(a b c:Int):Nat:=(Builtin.Range.rangeSize a b c).toNat
noncomputable def i4(a b c:Int):List Int:=(RG (mi a b c)).map λ(i:Nat)=>a+(i:Int)*c
theorem Rd.Cr{S:RD->Prop}{x y z:Int}(r:Rd C.prog C.w S h v (.jD x y z)):∃a t1 t2 t3,v= .ref a/\S a/\h.get? a=some (LY x y z t1 t2 t3):=r.view
theorem lP(a b c:Int):0<=Builtin.Range.rangeSize a b c:=by
 unfold Builtin.Range.rangeSize;split
 ·split
  ·have:0<=(b - a - 1) / c:=YP (by omega) (by omega);omega
  ·exact UX _
 ·split
  ·have:0<=(a - b - 1) / -c:=by
    rcases(by omega:c<0\/0<=c)with h|h
    ·exact YP (by omega) (by omega)
    ·have:c=0:=by omega
     subst this;simp
   omega
  ·exact UX _
theorem dw.jD{a b c:Int}(h:Ev C env Γ e md (.jD a b c))(hs:Builtin.Range.small a b c=true)(aF:mi a b c<=2^24)(hN:autoParam (C.hd=false) oA8._auto_1):dw C env Γ e md ((i4 a b c).map .int):=λA S U s Q E hr hh hq=>by
 refine h A S U s _ E hr hh λv h' t' ex rd=>?_;refine cU rd.Cr λq t1 t2 t3 zr zw=>?_;subst zr;refine oA zw λha eh=>?_;clear zw;refine wpAny_pyIter_range eh hs ?_;have hk:∀ (b':RD) o,h'.get? b'=some o->(h'.push {cls:=.type "range_iterator",data:=.fields #[rawInt a,rawInt (Builtin.Range.rangeSize a b c),rawInt c]}).get? b'=some o:=λb o ho=>Ry _ ho;have hW:=Walks.range (prog:=C.prog) (w:=C.w) (hr.1 hN) h'.objs.size a c (mi a b c);have hlen:((i4 a b c).map PV.int).length=mi a b c:=by simp[i4]
 refine hq h'.objs.size _ t' [h'.objs.size] (λ(i:Nat) v=>(∃t,v=Value.int (a+(i:Int)*c) t)/\i<mi a b c) (λ(i:Nat) h=>IsRangeIter h h'.objs.size (a+(i:Int)*c) ((mi a b c:Int) - (i:Int)) c) (ex.push _) (ex.fresh_at hh.aq.ns) (ex.high hh) ?_ ?_ ?_ ?_ (by rw[hlen];exact aF) ?_
 ·rw[hlen];exact{sub:=hW.sub,frame:=hW.frame,item:=λi s Q E hi st hQ=>hW.item i s Q E hi st λv h' tk hp=>hQ v h' tk ⟨hp,hi⟩,done:=hW.done,self:=hW.self}
 ·have:(mi a b c:Int)=Builtin.Range.rangeSize a b c:=Vy (lP a b c);show IsRangeIter _ _ (a+((0:Nat):Int)*c) ((mi a b c:Int) - ((0:Nat):Int)) c;rw[this];simp only[Int.natCast_zero,Int.zero_mul,Int.add_zero,Zo];exact RL _ rfl
 ·rintro i v ⟨⟨t,rfl⟩,hi⟩;refine⟨.int (a+i*c),?_,.int _ _⟩;simp only[i4,R6];rw[RZ,Wo hi];rfl
 ·intro b hb;rcases Rq.mp hb with rfl
  exact⟨.inl rfl,by rw[RL _ rfl];rfl⟩
 ·intro i h av;exact⟨_,_,av,rfl,by decide⟩
noncomputable def iS(env:Env):List (Str×NameKind)->List (Str×RD)->List (Str×RD)
 |[],acc=>acc
 |(n,k)::r,acc=>iS env r (if k== .free then(n,(env.cells.lookup n).getD 0)::acc else acc)
theorem o5(hc:∀x∈scope.names,x.2= .free->∃c,env.cells.lookup x.1=some c):closureFor scope env=pure (iS env scope.names []):=by
 have key:∀ (names:List (Str×NameKind)) (acc:List (Str×RD)),(∀x∈names,x.2= .free->∃c,env.cells.lookup x.1=some c)->
   (forIn names acc λ(x:Str×NameKind) (cs:List (Str×RD))=>(match x with
    |(name,kind)=>if kind== .free then(do let c ←cellOf env name;pure (ForInStep.yield ((name,c)::cs)))else pure (ForInStep.yield cs):Sem (ForInStep (List (Str×RD)))))=pure (iS env names acc):=by
  intro names
  induction names with
  |nil=>intro acc _;rfl
  |cons x r ih=>
   intro acc h;obtain⟨n,k⟩:=x;rw[List.forIn_cons];unfold iS;by_cases hk:k= .free
   ·subst hk;refine oE (h (n,.free) Rm rfl) λc hc=>?_;have yI:env.cells.lookup n=some c:=hc;have:cellOf env n=pure c:=by unfold cellOf;rw[yI]
    simp only[beq_self_eq_true,if_true,this,yI,Option.getD_some];exact ih _ λy hy=>h y (Rn _ hy)
   ·have jT:(k==NameKind.free)=false:=by simpa using hk
    simp only[jT,Sx,if_false];exact ih _ λy hy=>h y (Rn _ hy)
 have:=key scope.names [] hc;unfold closureFor;exact congrArg (λt=>t>>=λcs=>pure cs) this
theorem lX:∀ (names:List (Str×NameKind)) (acc:List (Str×RD)) (x:Str),(∀n k,(n,k)∈names->n=x->k≠.free)->(iS env names acc).lookup x=acc.lookup x
 |[],acc,x,_=>rfl
 |(n,k)::r,acc,x,h=>by
  unfold iS;rw[lX r _ x λn' k' hm=>h n' k' (Rn _ hm)];by_cases hk:k= .free
  ·subst hk;have aX:n≠x:=λe=>h n .free Rm e rfl;have:(x==n)=false:=by simpa using Td aX
   simp[RB,this]
  ·have jT:(k==NameKind.free)=false:=by simpa using hk
   simp[jT]
theorem eM:∀ (names:List (Str×NameKind)) (acc:List (Str×RD)) (x:Str) (c:RD),(names.map (·.1)).Nodup->(x,.free)∈names->env.cells.lookup x=some c->(iS env names acc).lookup x=some c
 |[],acc,x,c,_,h,_=>by cases h
 |(n,k)::r,acc,x,c,aG,hm,hc=>by
  unfold iS;have gw:n∉r.map (·.1)/\(r.map (·.1)).Nodup:=by simpa using aG
  rcases Rr.mp hm with e|hm
  ·cases e;rw[lX r _ n λn' k' iA e=>absurd (RE.mpr ⟨(n',k'),iA,e⟩) gw.1];simp[RB,hc]
  ·exact eM r _ x c gw.2 hm hc
theorem ym(names:List (Str×NameKind)):∀ (acc:List (Str×RD)) (x:Str) (c:RD),(∀y∈names,y.2= .free->∃c,env.cells.lookup y.1=some c)->(iS env names acc).lookup x=some c->acc.lookup x=some c\/((x,.free)∈names/\env.cells.lookup x=some c):=by
 induction names with
 |nil=>exact λω ω ω ω h=>.inl h
 |cons q r ih=>
  obtain⟨n,k⟩:=q;intro acc x c hf h;unfold iS at h;rcases ih _ x c (λy hy=>hf y (Rn _ hy)) h with h1|⟨h1,h2⟩
  ·by_cases hk:k= .free
   ·subst hk;simp only[beq_self_eq_true,if_true,RB]at h1;cases hx:x==n with
    |true=>
     rw[hx]at h1;have:x=n:=beq_iff_eq.mp hx;subst this;refine oE (hf (x,.free) Rm rfl) λc' yI=>?_;have H8:env.cells.lookup x=some c':=yI;rw[H8]at h1;cases h1;exact .inr ⟨Rm,H8⟩
    |false=>rw[hx]at h1;exact .inl h1
   ·have jT:(k==NameKind.free)=false:=by simpa using hk
    rw[jT]at h1;exact .inl h1
  ·exact .inr ⟨Rn _ h1,h2⟩
structure q5(N:Nat)(h0 h:Heap)(base cells:List (Str×RD))(done:List (Str×NameKind)):Prop where
 keep:∀a o,h0.get? a=some o->h.get? a=some o
 size:N<=h.objs.size
 old:∀x,(∀k,(x,k)∈done->k≠.cell)->cells.lookup x=base.lookup x
 fresh:∀x,(x,.cell)∈done->∃c,cells.lookup x=some c/\N<=c
 all:∀x c,cells.lookup x=some c->(base.lookup x=some c/\∀k,(x,k)∈done->k≠.cell)\/(N<=c/\c<h.objs.size/\h.IsCell c none/\(x,.cell)∈done)
 apart:∀x y c,N<=c->cells.lookup x=some c->cells.lookup y=some c->x=y
theorem Ct(N:Nat)(h0:Heap)(base:List (Str×RD))(aJ:∀x c,base.lookup x=some c->c<N)(names:List (Str×NameKind)):∀ (h:Heap) (cells:List (Str×RD)) (done:List (Str×NameKind)),
  q5 N h0 h base cells done->q5 N h0 (pushCells h names) base (cellsFrom h.objs.size names cells) (done++names):=by
 induction names with
 |nil=>exact λh cells done x=>by simpa [pushCells,cellsFrom]using x
 |cons q r ih=>
  obtain⟨n,k⟩:=q;intro h cells done x;unfold pushCells cellsFrom;by_cases hk:k= .cell
  ·subst hk;simp only[beq_self_eq_true,if_true];have:=ih (h.push {cls:=.type "cell",data:=.cell none}) ((n,h.objs.size)::cells) (done++[(n,.cell)]) ?_
   ·rw[US]at this;simpa using this
   ·refine⟨λa o e=>Ry _ (x.keep a o e),?_,?_,?_,?_,?_⟩
    ·rw[US];exact Tc x.size
    ·intro y hy;have aX:y≠n:=λe=>hy .cell (by simp[e]) rfl;have:(y==n)=false:=by simpa using aX
     rw[RB,this];exact x.old y λk hk=>hy k (RC _ hk)
    ·intro y hy;rw[RB];cases hb:y==n with
     |true=>exact⟨_,rfl,x.size⟩
     |false=>
      rcases Rw.mp hy with hy|hy
      ·exact x.fresh y hy
      ·simp only[Rq,UW,and_true]at hy;subst hy;simp at hb
    ·intro y c hc;rw[RB]at hc;cases hb:y==n with
     |true=>
      rw[hb]at hc;cases hc;have:y=n:=beq_iff_eq.mp hb;subst this;exact .inr ⟨x.size,by rw[US];exact TZ _,⟨_,RL _ rfl,rfl⟩,by simp⟩
     |false=>
      rw[hb]at hc;rcases x.all y c hc with⟨h1,h2⟩|⟨h1,h2,h3,h4⟩
      ·refine .inl ⟨h1,λk hk=>?_⟩;rcases Rw.mp hk with hk|hk
       ·exact h2 k hk
       ·simp only[Rq,UW]at hk;rw[hk.1]at hb;simp at hb
      ·exact .inr ⟨h1,by rw[US];exact TN h2,h3.keeps λb o e=>Ry _ e,RC _ h4⟩
    ·intro y z c hN hy hz;rw[RB]at hy hz;have lt:∀y,cells.lookup y=some c->c≠h.objs.size:=λy hy e=>by
      rcases x.all y c hy with⟨h1,_⟩|⟨_,h2,_⟩
      ·exact absurd (aJ y c h1) (SV.mpr hN)
      ·exact absurd h2 (by rw[e];exact S8 _)
     cases hb:y==n with
     |true=>
      cases iG:z==n with
      |true=>rw[beq_iff_eq.mp hb,beq_iff_eq.mp iG]
      |false=>
       rw[hb]at hy;rw[iG]at hz;cases hy;exact absurd rfl (lt z hz)
     |false=>
      cases iG:z==n with
      |true=>
       rw[hb]at hy;rw[iG]at hz;cases hz;exact absurd rfl (lt y hy)
      |false=>rw[hb]at hy;rw[iG]at hz;exact x.apart y z c hN hy hz
  ·have jT:(k==NameKind.cell)=false:=by simpa using hk
   simp only[jT,Sx,if_false];have:=ih h cells (done++[(n,k)]) ?_
   ·simpa using this
   ·refine⟨x.keep,x.size,λy hy=>x.old y λk hk=>hy k (RC _ hk),λy hy=>?_,λy c hc=>?_,x.apart⟩
    ·rcases Rw.mp hy with hy|hy
     ·exact x.fresh y hy
     ·simp only[Rq,UW]at hy;exact absurd hy.2.symm hk
    ·rcases x.all y c hc with⟨h1,h2⟩|⟨h1,h2,h3,h4⟩
     ·refine .inl ⟨h1,λk' mW=>?_⟩;rcases Rw.mp mW with mW|mW
      ·exact h2 k' mW
      ·simp only[Rq,UW]at mW;rw[mW.2];exact hk
     ·exact .inr ⟨h1,h2,h3,RC _ h4⟩
structure jA(env:Env)(ns:List Str)(h h':Heap):Prop where
 keep:∀a o,a≠env.locals->(∀y∈ns,env.cells.lookup y≠some a)->h.get? a=some o->h'.get? a=some o
 live:∀a,(h.get? a).isSome=true->(h'.get? a).isSome=true
theorem cm{s:Ro}{Q:Unit->Ro->Prop}(k:bH C s.heap env)
  (hx:env.kindOf x=some .local\/env.kindOf x=some .cell) (fe:x≠"__classdict__")
  (h:∀h' t',bH C h' env->aZ h' env x v->(∀y u,y≠x->aZ s.heap env y u->aZ h' env y u)->jA env [x] s.heap h'->h'.objs.size=s.heap.objs.size->Q () {s with heap:=h',toks:=t'}):
  RM M A (storeName env x v) Q E s:=by
 rcases hx with hx|hx
 ·refine oE k.ns λm hm=>?_;refine wpAny_storeName_local hx hm (λh' hn hs=>?_) (by rw[k.kind];rfl);refine h h' _ ?_ ?_ ?_ ?_ hs.1
  ·exact{kind:=k.kind,glob:=k.glob,gY:=k.gY,ns:=⟨_,hn⟩,cell:=λy hy=>by
              refine aM (k.cell y hy) λc u h1 h2=>?_;exact⟨c,u,h1,h2.sameBut hs (k.et y c h1)⟩,call:=λy c hy=>oE (k.call y c hy) λu h2=>⟨u,h2.sameBut hs (k.et y c hy)⟩,apart:=k.apart,et:=k.et,below:=k.below,high:=k.high,dB:=k.dB}
  ·exact .inl ⟨hx,_,hn,by simp⟩
  ·rintro y u hy (⟨h1,m',h2,h3⟩|⟨h1,h0,c,h2,h3⟩)
   ·refine .inl ⟨h1,_,hn,?_⟩;simp only[hy,if_false];rw[<-h2.agree hm y];exact h3
   ·exact .inr ⟨h1,h0,c,h2,h3.sameBut hs (k.et y c h2)⟩
  ·refine⟨λa o ha ω ho=>(hs.2 a ha).trans ho,λa ha=>?_⟩;by_cases hL:a=env.locals
   ·subst hL;refine aP hn λo _ _ ho _=>?_;clear hn;rw[ho];rfl
   ·rw[hs.2 a hL];exact ha
 ·refine aM (k.cell x (.inl hx)) λc PW hc hv=>?_;refine wpAny_storeName_cell k.kind hx hc hv λh' yI hs=>?_;refine h h' s.toks ?_ ?_ ?_ ?_ hs.1
  ·refine oE k.ns λm hm=>?_;refine{kind:=k.kind,glob:=k.glob,gY:=k.gY,ns:=⟨_,hm.sameBut hs (Td (k.et x c hc))⟩,cell:=λy hy=>?_,call:=λy c₂ hy=>?_,apart:=k.apart,et:=k.et,below:=k.below,high:=k.high,dB:=k.dB}
   rotate_left
   ·refine oE (k.call y c₂ hy) λu h2=>?_;by_cases He:c₂=c
    ·subst He;exact⟨_,yI⟩
    ·exact⟨u,h2.sameBut hs He⟩
   refine aM (k.cell y hy) λc₂ u h1 h2=>?_;by_cases He:c₂=c
   ·subst He;exact⟨c₂,_,h1,yI⟩
   ·exact⟨c₂,u,h1,h2.sameBut hs He⟩
  ·exact .inr ⟨.inl hx,fe,c,hc,yI⟩
  ·rintro y u hy (⟨h1,m',h2,h3⟩|⟨h1,h0,c₂,h2,h3⟩)
   ·exact .inl ⟨h1,m',h2.sameBut hs (Td (k.et x c hc)),h3⟩
   ·refine .inr ⟨h1,h0,c₂,h2,h3.sameBut hs ?_⟩;rintro rfl;exact hy (k.apart y x c₂ h2 hc)
  ·refine⟨λa o ω Qp ho=>(hs.2 a (λe=>Qp x (by simp) (by rw[e];exact hc))).trans ho,λa ha=>?_⟩;by_cases hL:a=c
   ·subst hL;refine aD yI λo ho _=>?_;clear yI;rw[ho];rfl
   ·rw[hs.2 a hL];exact ha
noncomputable def Dp(C:Cx)(env:Env)(Γ:fT)(target:Expr)(md:Bool)(x:PV)(ns:List Str)(af:fT):Prop:=
 ∀ (A:Sg) (S U:RD->Prop) (s:Ro) (v:Rz) (Q:Unit->Ro->Prop) (E:Rz->Ro->Prop),aB C A->Here C A S U env Γ s.heap->
  Rd C.prog C.w (λa=>if md then S a else U a) s.heap v x->
  (∀h' t',Here C A S U env af h'->jA env ns s.heap h'->(∀y u,y∉ns->aZ s.heap env y u->aZ h' env y u)->Q () {s with heap:=h',toks:=t'})->RM (RF C.prog C.w) A (assign target env v) Q E s
theorem Here.low{S:RD->Prop}(x:Here C A S U env Γ h){a:RD}{o:Obj}(e:C.K.lookup a=some o):a<env.locals:=x.aq.below a o e
theorem Here.store{S:RD->Prop}{pv:PV}(hh:Here C A S U env Γ h)(hr:Rd C.prog C.w (λa=>if md then S a else U a) h v pv)
  (ek:bH C h' env) (hx:aZ h' env x v) (hy:∀y u,y≠x->aZ h env y u->aZ h' env y u) (kx:jA env [x] h h'):Here C A S U env ((x,some (bn md,pv))::Γ) h':=by
 have kU:∀a o,U a->h.get? a=some o->h'.get? a=some o:=λa o ha ho=>kx.keep a o (λe=>(hh.old a ha).2.1 (.inl e)) (λy oY hc=>(hh.old a ha).2.2 y a hc rfl) ho;have kM:∀ (a:RD) o,a<=Rt->h.get? a=some o->h'.get? a=some o:=λa o ha ho=>kx.keep a o (Sm (RJ ha hh.aq.high)) (λy oY hc=>by
  rcases Rq.mp oY with rfl
  exact absurd ha (Vf.mpr (hh.aq.dB _ a hc).1)) ho
 have xp:∀ {a:RD} {m},a<=Rt->h.Ns a m->h'.Ns a m:=λ{a m} ha hn=>by
  refine aP hn λo es ep ho r=>?_;clear hn;exact⟨o,es,ep,kM a o ha ho,r⟩
 refine{cx:=hh.cx,base:=⟨λa o e=>kx.keep a o (Sm (hh.low e)) (λy oY hc=>by
             rcases Rq.mp oY with rfl
             exact(hh.aq.dB _ a hc).2 a o e rfl) (hh.base.cB a o e),?_,?_,?_⟩,aq:=ek,bE:=hh.bE.move λa o ha ho hd=>?_,sub:=hh.sub,old:=λa ha=>?_,has:=λy uv AJ hl hv=>?_}
 ·refine aD hh.base.nolimit λmc h1 h2=>?_;exact⟨mc,xp (by decide) h1,h2⟩
 ·refine aD hh.base.o3 λmb h1 h2=>?_;exact⟨mb,xp (by decide) h1,h2⟩
 ·refine aD hh.base.nodigits λmc h1 h2=>?_;exact⟨mc,xp (by decide) h1,h2⟩
 ·by_cases hl:a=env.locals
  ·subst hl;refine xh ek.ns λm o' es ep jy Bc _=>?_;exact⟨o',jy,es,ep,Bc⟩
  ·refine⟨o,kx.keep a o hl (λy ω hc=>?_) ho,hd⟩;refine aM (hh.aq.call y a hc) λu o2 sF FE=>?_;refine jH hd λes ep hd=>?_;rw[ho]at sF;cases sF;rw[hd]at FE;cases FE
 ·refine dd (hh.old a ha) λh1 h2 h3=>?_;refine oE (Rv.mp h1) λo ho=>?_;exact⟨by rw[kU a o ha ho];rfl,h2,h3⟩
 ·rw[RB]at hl;cases hb:y==x with
  |true=>
   rw[hb]at hl;cases hl;have:y=x:=beq_iff_eq.mp hb;subst this;refine⟨v,hx,hr.mono (λa ha=>by rw[HO];exact ha) λa o ha ho=>kU a o ?_ ho,λhn=>by cases md<;>simp[bn]at hn⟩;cases md
   ·exact ha
   ·exact hh.sub a ha
  |false=>
   rw[hb]at hl;refine bM (hh.has y uv AJ hl hv) λu h1 h2 h3=>?_;refine⟨u,hy y u (by simpa using hb) h1,h2.mono (λω z=>z) λa o ha ho=>kU a o ?_ ho,λhn=>(h3 hn).mono (λω z=>z) (λω z=>z) hh.sub kU⟩;by_cases hn:(uv==0)=true
   ·rw[if_pos hn]at ha;exact hh.sub a ha
   ·rw[if_neg hn]at ha;exact ha
theorem Dp.name{p:Pos}{md:Bool}{pv:PV}(hx:env.kindOf x=some .local\/env.kindOf x=some .cell)(fe:autoParam (x≠"__classdict__") oA3._auto_1):
  Dp C env Γ (.Name x p) md pv [x] ((x,some (bn md,pv))::Γ):=λA S U s v Q E hr hh rd hq=>
 V3 (cm hh.aq hx fe λh' t' ek h1 h2 kx ω=>hq h' t' (hh.store rd ek h1 h2 kx) kx λy u hy=>h2 y u (by simpa using hy))
noncomputable def pB(C:Cx)(env:Env)(Γ:fT)(fs:List Expr)(b:Bool):Prop:=
 ∀ (A:Sg) (S U:RD->Prop) (s:Ro) (Q:Bool->Ro->Prop) (E:Rz->Ro->Prop),aB C A->Here C A S U env Γ s.heap->
  (∀h' t',Ext A env s.heap h'->Q b {s with heap:=h',toks:=t'})->
  RM (RF C.prog C.w) A (forIn fs true λc r=>if r=true then do let ok ←isTrue c env (eval c env);pure (ForInStep.yield ok)else pure (ForInStep.yield r)) Q E s
theorem pB.nil:pB C env Γ [] true:=λA S U s Q E hr hh hq=>Zr (hq s.heap s.toks (.refl _ _ _))
theorem pB.one{c:Expr}{b:Bool}(h:cX C env Γ c b):pB C env Γ [c] b:=λA S U s Q E hr hh hq=>wpAny_tests_one (h A S U s Q E hr hh hq)
mutual
inductive aC(C:Cx)(S:RD->Prop)(h:Heap):Nat->Rz->PV->List RD->Prop
 |val {v x:_}:Rd C.prog C.w S h v x->aC C S h 0 v x []
 |list {k a vs n xs cW:_}:h.get? a=some (gN vs n)->ar C S h k vs xs cW->aC C S h (k+1) (.ref a) (.list xs) (a::cW)
 |dict {k a vs cW:_} {kvs:List (Key×PV)}:Rt<a->h.DictOf (aw C.prog C.w) a ((kvs.map (·.1)).zip vs)->ar C S h k vs (kvs.map (·.2)) cW->aC C S h (k+1) (.ref a) (.dict kvs) (a::cW)
 |aK {k a:_} {St:aa}:ah C.prog C.w h a St->aC C S h (k+1) (.ref a) (.aK St) (St.fp a)
 |set {k a:_} {ks:List Key}:h.SetOf (aw C.prog C.w) a (λk=>decide (k∈ks)) ks.length->ks.Nodup->aC C S h (k+1) (.ref a) (.set ks) [a]
 |i6 {k b it p:_}:h.get? b=some (cz it)->(h.get? it).isSome=true->(∀l i,p=some (l,i)->h.IsListIter it l i)->aC C S h (k+1) (.ref b) (.i6 p) [b,it]
 |ay {k a:_} {St:aa} {x:_}:ah C.prog C.w h a St->St.abs=x->aC C S h (k+1) (.ref a) (.ay x) (St.fp a)
inductive ar(C:Cx)(S:RD->Prop)(h:Heap):Nat->List Rz->List PV->List RD->Prop
 |nil {k:_}:ar C S h k [] [] []
 |cons {k v vs x xs f fs:_}:aC C S h k v x f->ar C S h k vs xs fs->ar C S h k (v::vs) (x::xs) (f++fs)
end
theorem aC.gen(b:Bool){S:RD->Prop}(hS:∀a,S a->(h.get? a).isSome=true->S' a)(hk:∀a o,S a->h.get? a=some o->h'.get? a=some o):
  (∀k v x fp,aC C S h k v x fp->(∀a∈fp,∀o,h.get? a=some o->h'.get? a=some o)->aC {C with hd:=b} S' h' k v x fp)/\∀k v x fp,ar C S h k v x fp->(∀a∈fp,∀o,h.get? a=some o->h'.get? a=some o)->ar {C with hd:=b} S' h' k v x fp:=
 ⟨λω ω ω ω r=>aC.rec (C:=C) (motive_1:=λk v x fp ω=>(∀a∈fp,∀o,h.get? a=some o->h'.get? a=some o)->aC {C with hd:=b} S' h' k v x fp) (motive_2:=λk v x fp ω=>(∀a∈fp,∀o,h.get? a=some o->h'.get? a=some o)->ar {C with hd:=b} S' h' k v x fp) (λr ω=>.val ((Rd.gen hS hk).1 _ _ r)) (λho ω ih hf=>.list (hf _ Rm _ ho) (ih λa ha=>hf a (Rn _ ha)))
  (λhl hd ω ih hf=>.dict hl (cJ.at hd λo e=>hf _ Rm o e) (ih λa ha=>hf a (Rn _ ha))) (λhs hf=>.aK (hs.mono hf)) (λhs hn hf=>.set (jC.at hs λo e=>hf _ Rm o e) hn)
  (λh1 h2 h3 hf=>.i6 (hf _ Rm _ h1) (eP h2 λo e=>hf _ (Rn _ Rm) o e) λl i e=>(h3 l i e).at λo e=>hf _ (Rn _ Rm) o e) (λhs e hf=>.ay (hs.mono hf) e)
  (λω=>.nil) (λω ω a b hf=>.cons (a λq hq=>hf q (RC _ hq)) (b λq hq=>hf q (R3 _ hq))) r,
  λω ω ω ω r=>ar.rec (C:=C) (motive_1:=λk v x fp ω=>(∀a∈fp,∀o,h.get? a=some o->h'.get? a=some o)->aC {C with hd:=b} S' h' k v x fp) (motive_2:=λk v x fp ω=>(∀a∈fp,∀o,h.get? a=some o->h'.get? a=some o)->ar {C with hd:=b} S' h' k v x fp) (λr ω=>.val ((Rd.gen hS hk).1 _ _ r)) (λho ω ih hf=>.list (hf _ Rm _ ho) (ih λa ha=>hf a (Rn _ ha)))
  (λhl hd ω ih hf=>.dict hl (cJ.at hd λo e=>hf _ Rm o e) (ih λa ha=>hf a (Rn _ ha))) (λhs hf=>.aK (hs.mono hf)) (λhs hn hf=>.set (jC.at hs λo e=>hf _ Rm o e) hn)
  (λh1 h2 h3 hf=>.i6 (hf _ Rm _ h1) (eP h2 λo e=>hf _ (Rn _ Rm) o e) λl i e=>(h3 l i e).at λo e=>hf _ (Rn _ Rm) o e) (λhs e hf=>.ay (hs.mono hf) e)
  (λω=>.nil) (λω ω a b hf=>.cons (a λq hq=>hf q (RC _ hq)) (b λq hq=>hf q (R3 _ hq))) r⟩
theorem aC.mono{S:RD->Prop}{k:Nat}{x:PV}{fp:List RD}(hS:∀a,S a->S' a)(hk:∀a o,S a->h.get? a=some o->h'.get? a=some o)(hf:∀a∈fp,∀o,h.get? a=some o->h'.get? a=some o)
  (r:aC C S h k v x fp):aC C S' h' k v x fp:=(aC.gen C.hd (λa x ω=>hS a x) hk).1 k v x fp r hf
theorem ar.mono{S:RD->Prop}{k:Nat}{v:List Rz}{x:List PV}{fp:List RD}(hS:∀a,S a->S' a)(hk:∀a o,S a->h.get? a=some o->h'.get? a=some o)(hf:∀a∈fp,∀o,h.get? a=some o->h'.get? a=some o)
  (r:ar C S h k v x fp):ar C S' h' k v x fp:=(aC.gen C.hd (λa x ω=>hS a x) hk).2 k v x fp r hf
theorem aC.OS{S:RD->Prop}(hS:∀a,S a->U a):(∀k v x fp,aC C S h k v x fp->(∀a∈fp,U a)->Rd C.prog C.w U h v x)/\∀k v x fp,ar C S h k v x fp->(∀a∈fp,U a)->ab C.prog C.w U h v x:=
 ⟨λω ω ω ω r=>aC.rec (motive_1:=λω v x fp ω=>(∀a∈fp,U a)->Rd C.prog C.w U h v x) (motive_2:=λω v x fp ω=>(∀a∈fp,U a)->ab C.prog C.w U h v x) (λr ω=>r.mono hS λω ω ω e=>e) (λho ω ih hf=>.list (hf _ Rm) ho (ih λa ha=>hf a (Rn _ ha)))
  (λhl hd ω ih hf=>.dict (hf _ Rm) hl hd (ih λa ha=>hf a (Rn _ ha))) (λhs hf=>.aK hf hs) (λhs hn hf=>.set (hf _ Rm) hs hn)
  (λh1 h2 h3 hf=>.i6 (hf _ Rm) (hf _ (Rn _ Rm)) h1 h2 h3) (λhs e hf=>.ay hf hs e)
  (λω=>.nil) (λω ω a b hf=>.cons (a λq hq=>hf q (RC _ hq)) (b λq hq=>hf q (R3 _ hq))) r,
  λω ω ω ω r=>ar.rec (motive_1:=λω v x fp ω=>(∀a∈fp,U a)->Rd C.prog C.w U h v x) (motive_2:=λω v x fp ω=>(∀a∈fp,U a)->ab C.prog C.w U h v x) (λr ω=>r.mono hS λω ω ω e=>e) (λho ω ih hf=>.list (hf _ Rm) ho (ih λa ha=>hf a (Rn _ ha)))
  (λhl hd ω ih hf=>.dict (hf _ Rm) hl hd (ih λa ha=>hf a (Rn _ ha))) (λhs hf=>.aK hf hs) (λhs hn hf=>.set (hf _ Rm) hs hn)
  (λh1 h2 h3 hf=>.i6 (hf _ Rm) (hf _ (Rn _ Rm)) h1 h2 h3) (λhs e hf=>.ay hf hs e)
  (λω=>.nil) (λω ω a b hf=>.cons (a λq hq=>hf q (RC _ hq)) (b λq hq=>hf q (R3 _ hq))) r⟩
theorem aC.rd{S:RD->Prop}{k:Nat}{x:PV}{fp:List RD}(hS:∀a,S a->U a)(hf:∀a∈fp,U a)(r:aC C S h k v x fp):Rd C.prog C.w U h v x:=(aC.OS hS).1 k v x fp r hf
theorem aC.A0{S:RD->Prop}:(∀k v x fp,aC C S h k v x fp->∀a∈fp,(h.get? a).isSome=true)/\∀k v x fp,ar C S h k v x fp->∀a∈fp,(h.get? a).isSome=true:=
 ⟨λω ω ω ω r=>aC.rec (motive_1:=λω ω ω fp ω=>∀a∈fp,(h.get? a).isSome=true) (motive_2:=λω ω ω fp ω=>∀a∈fp,(h.get? a).isSome=true) (λω ω h=>nomatch h) (λho ω ih=>SW.mpr ⟨so ho,ih⟩) (λω hd ω ih=>SW.mpr ⟨cJ.so hd,ih⟩) (λhs=>hs.there) (λhs ω=>SW.mpr ⟨jC.so hs,λω h=>nomatch h⟩)
  (λh1 h2 ω=>SW.mpr ⟨so h1,SW.mpr ⟨h2,λω h=>nomatch h⟩⟩) (λhs ω=>hs.there)
  (λω h=>nomatch h) (λω ω a b q hq=>(Rw.mp hq).elim (a q) (b q)) r,
  λω ω ω ω r=>ar.rec (motive_1:=λω ω ω fp ω=>∀a∈fp,(h.get? a).isSome=true) (motive_2:=λω ω ω fp ω=>∀a∈fp,(h.get? a).isSome=true) (λω ω h=>nomatch h) (λho ω ih=>SW.mpr ⟨so ho,ih⟩) (λω hd ω ih=>SW.mpr ⟨cJ.so hd,ih⟩) (λhs=>hs.there) (λhs ω=>SW.mpr ⟨jC.so hs,λω h=>nomatch h⟩)
  (λh1 h2 ω=>SW.mpr ⟨so h1,SW.mpr ⟨h2,λω h=>nomatch h⟩⟩) (λhs ω=>hs.there)
  (λω h=>nomatch h) (λω ω a b q hq=>(Rw.mp hq).elim (a q) (b q)) r⟩
theorem aC.there{S:RD->Prop}{k:Nat}{x:PV}{fp:List RD}(r:aC C S h k v x fp):∀a∈fp,(h.get? a).isSome=true:=aC.A0.1 k v x fp r
theorem ar.there{S:RD->Prop}{k:Nat}{v:List Rz}{x:List PV}{fp:List RD}(r:ar C S h k v x fp):∀a∈fp,(h.get? a).isSome=true:=aC.A0.2 k v x fp r
theorem aC.gu{S:RD->Prop}{k:Nat}{x:PV}{fp:List RD}(r:aC C S h k v x fp):aC C (λa=>S a/\(h.get? a).isSome=true) h k v x fp:=
 (aC.gen C.hd (λω x y=>⟨x,y⟩) λω ω ω e=>e).1 k v x fp r λω ω ω e=>e
theorem ar.gu{S:RD->Prop}{k:Nat}{v:List Rz}{x:List PV}{fp:List RD}(r:ar C S h k v x fp):ar C (λa=>S a/\(h.get? a).isSome=true) h k v x fp:=
 (aC.gen C.hd (λω x y=>⟨x,y⟩) λω ω ω e=>e).2 k v x fp r λω ω ω e=>e
theorem ar.ind{S:RD->Prop}{k:Nat}{P:List Rz->List PV->List RD->Prop}(n:P [] [] [])(c:∀v vs x xs f fs,aC C S h k v x f->ar C S h k vs xs fs->P vs xs fs->P (v::vs) (x::xs) (f++fs)){fp:List RD}(r:ar C S h k vs xs fp):P vs xs fp:=
 ar.rec (motive_1:=λω ω ω ω ω=>True) (motive_2:=λk' vs xs fp ω=>k'=k->P vs xs fp) (λω=>trivial) (λω ω ω=>trivial) (λω ω ω ω=>trivial) (λω=>trivial) (λω ω=>trivial) (λω ω ω=>trivial) (λω ω=>trivial)
  (λω=>n) (λa b ω i e=>by subst e;exact c _ _ _ _ _ _ a b (i rfl)) r rfl
theorem aC.zero{S:RD->Prop}{x:PV}(r:aC C S h 0 v x f):Rd C.prog C.w S h v x/\f=[]:=by
 cases r with
 |val r=>exact⟨r,rfl⟩
theorem ar.p9{S:RD->Prop}(r:ab C.prog C.w S h vs xs):ar C S h 0 vs xs []:=
 ab.ind (P:=λvs xs=>ar C S h 0 vs xs []) .nil (λω ω ω ω a ω ih=>.cons (.val a) ih) r
theorem ar.oo{S:RD->Prop}{fp:List RD}(r:ar C S h 0 vs xs fp):ab C.prog C.w S h vs xs/\fp=[]:=
 ar.ind (P:=λvs xs fp=>ab C.prog C.w S h vs xs/\fp=[]) ⟨.nil,rfl⟩ (λω ω ω ω ω ω a ω ih=>⟨.cons a.zero.1 ih.1,by rw[a.zero.2,ih.2];rfl⟩) r
noncomputable def Hv(C:Cx)(S:RD->Prop)(h:Heap)(n:Nat)(v:Rz)(f:List RD)(x:PV):Prop:=match x with
 | .list xs=>∃a vs m cW,v= .ref a/\f=a::cW/\h.get? a=some (gN vs m)/\ar C S h n vs xs cW
 | .dict kvs=>∃a vs cW,v= .ref a/\f=a::cW/\Rt<a/\h.DictOf (aw C.prog C.w) a ((kvs.map (·.1)).zip vs)/\ar C S h n vs (kvs.map (·.2)) cW
 | .aK St=>∃a,v= .ref a/\f=St.fp a/\ah C.prog C.w h a St
 | .ay x=>∃a St,v= .ref a/\f=aa.fp St a/\ah C.prog C.w h a St/\St.abs=x
 | .set ks=>∃a,v= .ref a/\f=[a]/\h.SetOf (aw C.prog C.w) a (λk=>decide (k∈ks)) ks.length/\ks.Nodup
 | .i6 p=>∃b it,v= .ref b/\f=[b,it]/\h.get? b=some (cz it)/\(h.get? it).isSome=true/\∀l i,p=some (l,i)->h.IsListIter it l i
 |_=>True
theorem aC.view{S:RD->Prop}{n:Nat}{x:PV}(r:aC C S h (n+1) v x f):Hv C S h n v f x:=by
 generalize hk:n+1=k at r;cases r with
 |val=>cases hk
 |list a b=>cases hk;exact⟨_,_,_,_,rfl,rfl,a,b⟩
 |dict a b c=>cases hk;exact⟨_,_,_,rfl,rfl,a,b,c⟩
 |aK a=>exact⟨_,rfl,rfl,a⟩
 |set a b=>exact⟨_,rfl,rfl,a,b⟩
 |i6 a b c=>exact⟨_,_,rfl,rfl,a,b,c⟩
 |ay a b=>exact⟨_,_,rfl,rfl,a,b⟩
theorem ar.nil_of{S:RD->Prop}{k:Nat}{fp:List RD}(e:k=0)(r:ar C S h k vs xs fp):fp=[]:=by
 subst e;exact r.oo.2
theorem ar.length{S:RD->Prop}{k:Nat}{fp:List RD}(r:ar C S h k vs xs fp):vs.length=xs.length:=
 ar.ind (P:=λvs xs ω=>vs.length=xs.length) rfl (λω ω ω ω ω ω ω ω ih=>congrArg Nat.succ ih) r
theorem ar.at{S:RD->Prop}{k:Nat}{fp:List RD}{x:PV}(r:ar C S h k vs xs fp):fp.Nodup->xs[i]?=some x->
  ∃v f,vs[i]?=some v/\aC C S h k v x f/\f.Nodup/\(∀a∈f,a∈fp)/\
   ∀ (S':RD->Prop) h' y,(∀a,S a->S' a)->(∀a o,S a->h.get? a=some o->h'.get? a=some o)->(∀a∈fp,a∉f->∀o,h.get? a=some o->h'.get? a=some o)->aC C S' h' k v y f->ar C S' h' k vs (xs.set i y) fp:=
 ar.ind (P:=λvs xs fp=>∀i:Nat,fp.Nodup->xs[i]?=some x->∃v f,vs[i]?=some v/\aC C S h k v x f/\f.Nodup/\(∀a∈f,a∈fp)/\
   ∀ (S':RD->Prop) h' y,(∀a,S a->S' a)->(∀a o,S a->h.get? a=some o->h'.get? a=some o)->(∀a∈fp,a∉f->∀o,h.get? a=some o->h'.get? a=some o)->aC C S' h' k v y f->ar C S' h' k vs (xs.set i y) fp)
  (λω ω e=>by cases e) (λv ω ω ω f ω a b ih i aG=>VW i
   (λe=>⟨v,f,rfl,R7 e▸a,(RH.mp aG).1,λq hq=>RC _ hq,λS' h' y rm hS hf r=>.cons r (b.mono rm hS λq hq o ho=>hf q (R3 _ hq) (λPG=>(RH.mp aG).2.2 q PG q hq rfl) o ho)⟩)
   λi e=>(ih i (RH.mp aG).2.1 e).imp λv h=>h.imp λg h=>
    ⟨h.1,h.2.1,h.2.2.1,λq hq=>R3 _ (h.2.2.2.1 q hq),λS' h' y rm hS hf r=>.cons (a.mono rm hS λq hq o ho=>hf q (RC _ hq) (λKY=>(RH.mp aG).2.2 q hq q (h.2.2.2.1 q KY) rfl) o ho)
     (h.2.2.2.2 S' h' y rm hS (λq hq KY o ho=>hf q (R3 _ hq) KY o ho) r)⟩) r i
noncomputable def mr(C:Cx)(env:Env)(Γ:fT)(e:Expr)(k:Nat)(x:PV):Prop:=
 ∀ (A:Sg) (S U:RD->Prop) (s:Ro) (Q:Rz->Ro->Prop) (E:Rz->Ro->Prop),aB C A->Here C A S U env Γ s.heap->
  (∀v h' t' f,Ext A env s.heap h'->aC C (λa=>k=0/\dH true S U s.heap a) h' k v x f->f.Nodup->(∀a∈f,s.heap.get? a=none/\Rt<a)->Q v {s with heap:=h',toks:=t'})->
  RM (RF C.prog C.w) A (eval e env) Q E s
theorem mr.b9{x:PV}(h:Ev C env Γ e true x):mr C env Γ e 0 x:=λA S U s Q E hr hh hq=>
 h A S U s Q E hr hh λv h' t' ex rd=>hq v h' t' [] ex (.val (rd.mono (λa ha=>⟨rfl,ha⟩) λω ω ω z=>z)) Sn (λω h=>nomatch h)
theorem mr.lO(h:bI C env Γ e md xs)(hi:∀x∈xs,x.fy=true):mr C env Γ e 1 (.list xs):=λA S U s Q E hr hh hq=>
 h A S U s Q E hr hh λa vs n h' t' ex hn hl ho ra=>hq (.ref a) h' t' [a] ex (.list ho (ar.p9 (ra.fy hi))) (by simp) (λb hb=>by
  rcases Rq.mp hb with rfl
  exact⟨hn,hl⟩)
noncomputable def dr(C:Cx)(env:Env)(Γ:fT)(e:Expr)(k:Nat)(x:PV):Prop:=
 ∀ (A:Sg) (S U:RD->Prop) (s:Ro) (Q:Rz->Ro->Prop) (E:Rz->Ro->Prop),aB C A->Here C A S U env Γ s.heap->
  (∀v h' t' f,Ext A env s.heap h'->aC C (λa=>dH true S U s.heap a/\a∉f) h' k v x f->f.Nodup->(∀a∈f,s.heap.get? a=none/\Rt<a)->Q v {s with heap:=h',toks:=t'})->
  RM (RF C.prog C.w) A (eval e env) Q E s
theorem bI.k1(h:bI C env Γ e true xs):dr C env Γ e 1 (.list xs):=λA S U s Q E hr hh hq=>
 h A S U s Q E hr hh λa vs n h' t' ex hn hl ho ra=>hq (.ref a) h' t' [a] ex (.list ho (ar.p9 (ra.mono (λb hb=>⟨hb.1,by simpa using hb.2⟩) λω ω ω z=>z))) (by simp) (λb hb=>by
  rcases Rq.mp hb with rfl
  exact⟨hn,hl⟩)
theorem bI.P5(h:bI C env Γ e md xs)(hi:∀x∈xs,x.fy=true):dr C env Γ e 1 (.list xs):=λA S U s Q E hr hh hq=>
 h A S U s Q E hr hh λa vs n h' t' ex hn hl ho ra=>hq (.ref a) h' t' [a] ex (.list ho (ar.p9 (ra.fy hi))) (by simp) (λb hb=>by
  rcases Rq.mp hb with rfl
  exact⟨hn,hl⟩)
noncomputable def FW(Γ af:fT):Prop:=∀y e,Γ.lookup y=some (some e)->af.lookup y=some (some e)
theorem FW.cons{e:Option (Nat×PV)}(h:Γ.lookup x=some none\/Γ.lookup x=none):FW Γ ((x,e)::Γ):=λy e' hy=>by
 rw[RB];cases hb:y==x with
 |true=>
  have:y=x:=beq_iff_eq.mp hb;subst this;rcases h with h|h<;>rw[h]at hy<;>cases hy
 |false=>exact hy
section
variable{af:fT}{S:RD->Prop}
theorem Here.move(hh:Here C A S U env Γ h)(B:RD->Prop)(ek:bH C h' env)(vk:∀y e u,Γ.lookup y=some (some e)->aZ h env y u->aZ h' env y u)
  (hk:∀a o,¬B a->h.get? a=some o->h'.get? a=some o) (hU:∀a,U a->¬B a) (hB:∀a,B a->Rt<a/\∀o,C.K.lookup a≠some o) (sk:Sk A env h h'):Here C A S U env Γ h':=by
 have xp:∀ {a:RD} {m},a<=Rt->h.Ns a m->h'.Ns a m:=λ{a m} ha hn=>by
  refine aP hn λo es ep ho r=>?_;clear hn;exact⟨o,es,ep,hk a o (λhb=>absurd ha (Vf.mpr (hB a hb).1)) ho,r⟩
 refine{cx:=hh.cx,base:=⟨λa o e=>hk a o (λhb=>(hB a hb).2 o e) (hh.base.cB a o e),?_,?_,?_⟩,aq:=ek,bE:=hh.bE.sk ek.ns sk,sub:=hh.sub,old:=λa ha=>?_,has:=λy md pv hl hv=>?_}
 ·refine aD hh.base.nolimit λmc h1 h2=>?_;exact⟨mc,xp (by decide) h1,h2⟩
 ·refine aD hh.base.o3 λmb h1 h2=>?_;exact⟨mb,xp (by decide) h1,h2⟩
 ·refine aD hh.base.nodigits λmc h1 h2=>?_;exact⟨mc,xp (by decide) h1,h2⟩
 ·refine dd (hh.old a ha) λh1 h2 h3=>?_;refine oE (Rv.mp h1) λo ho=>?_;exact⟨by rw[hk a o (hU a ha) ho];rfl,h2,h3⟩
 ·refine bM (hh.has y md pv hl hv) λu h1 h2 h3=>?_;refine⟨u,vk y _ u hl h1,h2.mono (λω z=>z) λa o ha ho=>hk a o ?_ ho,λhn=>(h3 hn).mono (λω z=>z) (λω z=>z) hh.sub λa o ha=>hk a o (hU a ha)⟩;by_cases hn:(md==0)=true
  ·rw[if_pos hn]at ha;exact hU a (hh.sub a ha)
  ·rw[if_neg hn]at ha;exact hU a ha
theorem bH.move(ek:bH C h env)(B:RD->Prop)(hk:∀a o,¬B a->h.get? a=some o->h'.get? a=some o)(hL: ¬B env.locals)(hc:∀x c,env.cells.lookup x=some c->¬B c):bH C h' env:=
 {kind:=ek.kind,glob:=ek.glob,gY:=ek.gY,apart:=ek.apart,et:=ek.et,below:=ek.below,high:=ek.high,dB:=ek.dB
  ns:=cU ek.ns λm o es ep ho r=>⟨m,o,es,ep,hk _ o hL ho,r⟩
  cell:=λx hx=>uY (ek.cell x hx) λc v h1 o h2 h3=>⟨c,v,h1,o,hk c o (hc x c h1) h2,h3⟩
  call:=λx c hx=>aM (ek.call x c hx) λv o h2 h3=>⟨v,o,hk c o (hc x c hx) h2,h3⟩}
theorem aZ.move(a:aZ h env x u)(B:RD->Prop)(hk:∀a o,¬B a->h.get? a=some o->h'.get? a=some o)(hL: ¬B env.locals)(hc:∀x c,env.cells.lookup x=some c->¬B c):aZ h' env x u:=by
 rcases a with⟨h1,m,⟨o,es,ep,ho,r⟩,h3⟩|⟨h1,h0,c,h2,o,h3,h4⟩
 ·exact .inl ⟨h1,m,⟨o,es,ep,hk _ o hL ho,r⟩,h3⟩
 ·exact .inr ⟨h1,h0,c,h2,o,hk c o (hc x c h2) h3,h4⟩
end
noncomputable def Cl(C:Cx)(env:Env)(own:Str->Prop)(elt:Expr)(dp:Nat):List Comprehension->fT->List PV->Prop
 |[],Γ,out=>∃x,out=[x]/\mr C env Γ elt dp x
 |c::cs,Γ,out=>∃ (md:Bool) (xs:List PV) (f:Nat->List PV),dw C env Γ c.iter md xs/\
   (∀i x,xs[i]?=some x->∃ns af b,Dp C env Γ c.target md x ns af/\FW Γ af/\(∀y∈ns,own y/\∀e,Γ.lookup y≠some (some e))/\pB C env af c.ifs b/\(b=true->Cl C env own elt dp cs af (f i))/\(b=false->f i=[]))/\
   out=(RG xs.length).flatMap f
noncomputable def Tn(C:Cx)(env:Env)(own:Str->Prop)(elt:Expr)(dp:Nat)(c:Comprehension)(cs:List Comprehension)(Γ:fT)(md:Bool)(xs:List PV)(f:Nat->List PV):Prop:=
 ∀i x,xs[i]?=some x->∃ns af b,Dp C env Γ c.target md x ns af/\FW Γ af/\(∀y∈ns,own y/\∀e,Γ.lookup y≠some (some e))/\pB C env af c.ifs b/\(b=true->Cl C env own elt dp cs af (f i))/\(b=false->f i=[])
theorem lq(f:Nat->List α){n:Nat}(h:i<=n):((RG i).flatMap f).length<=((RG n).flatMap f).length:=by
 refine oE (Nat.exists_eq_add_of_le h) λk zr=>?_;subst zr;rw[List.range_add,UU,RQ];exact Sh _ _
noncomputable def KV(A:Sg)(env:Env)(own:Str->Prop)(I D a:RD):Prop:=a=D\/a=I\/Fz A env a\/∃y,own y/\env.cells.lookup y=some a
noncomputable def wg(C:Cx)(dp:Nat)(G F0 bo:RD->Prop)(h:Heap)(ys:List Rz)(outs:List PV):Prop:=
 ∃cW,ar C (λa=>dp=0/\G a/\¬bo a) h dp ys outs cW/\cW.Nodup/\∀a∈cW,F0 a/\Rt<a/\¬bo a
theorem wg.mono{G:RD->Prop}{ys:List Rz}(x:wg C dp G F0 bo h ys outs)(hk:∀a o,¬bo a->h.get? a=some o->h'.get? a=some o):wg C dp G F0 bo h' ys outs:=
 let⟨cW,h1,h2,h3⟩:=x
 ⟨cW,h1.mono (λω z=>z) (λa o ha ho=>hk a o ha.2.2 ho) (λa ha o ho=>hk a o (h3 a ha).2.2 ho),h2,h3⟩
theorem wg.length{G:RD->Prop}{ys:List Rz}(x:wg C dp G F0 bo h ys outs):ys.length=outs.length:=aD x λ_ h1 _=>h1.length
theorem ar.append{S:RD->Prop}{k:Nat}{g:List RD}(r:ar C S h k vs xs f)(r':ar C S h k us ys g):ar C S h k (vs++us) (xs++ys) (f++g):=
 ar.ind (P:=λvs xs f=>ar C S h k (vs++us) (xs++ys) (f++g)) r' (λω ω ω ω f ω a ω ih=>(Sq f _ _).symm▸ .cons a ih) r
theorem wg.snoc{G:RD->Prop}{ys:List Rz}{x:PV}(e:wg C dp G F0 bo h ys outs)(Rc:∀a,(h₀.get? a).isSome=true\/h₀.get? a=none)
  (JB:wg C dp G F0 bo h₀ ys outs) (r:aC C (λa=>dp=0/\G a/\¬bo a) h dp v x f) (hf:f.Nodup) (hn:∀a∈f,h₀.get? a=none/\F0 a/\Rt<a/\¬bo a) (hk:∀a o,¬bo a->h₀.get? a=some o->h.get? a=some o):wg C dp G F0 bo h (ys++[v]) (outs++[x]):=by
 refine bM JB λcW h1 h2 h3=>?_;clear JB;refine⟨cW++(f++[]),ar.append (h1.mono (λω z=>z) (λa o ha ho=>hk a o ha.2.2 ho) (λa ha o ho=>hk a o (h3 a ha).2.2 ho)) (.cons r .nil),?_,?_⟩
 ·rw[SP];refine RH.mpr ⟨h2,hf,λa ha b hb e=>?_⟩;subst e;have:=h1.there a ha;rw[(hn a hb).1]at this;cases this
 ·intro a ha;rw[SP]at ha;rcases Rw.mp ha with ha|ha
  ·exact h3 a ha
  ·exact(hn a ha).2
structure bY(C:Cx)(A:Sg)(env:Env)(Γ:fT)(own:Str->Prop)(md:Bool)(xs:List PV)(I D:RD)(fp:List RD)(P:Nat->Rz->Prop)(St:Nat->Heap->Prop)(S U bo G F0:RD->Prop)(h:Heap)(d0:Obj):Prop where
 hh:Here C A S U env Γ h
 W:Walks C.prog C.w A I fp [I] xs.length P St
 st:St 0 h
 hP:∀i v,P i v->∃x,xs[i]?=some x/\Rd C.prog C.w (λa=>if md then S a else U a) h v x
 qu:∀i h,St i h->∃o T,h.get? I=some o/\o.cls= .type T/\ik.contains T=false
 bad:bo I/\bo D/\bo env.locals/\∀y,own y->∀k,env.cells.lookup y=some k->bo k
 bs:∀a,onStack A a->bo a
 bx:∀a,bo a->(h.get? a).isSome=true/\Rt<a/\∀o,C.K.lookup a≠some o
 ub:∀a,U a->¬bo a
 sg:∀a,S a->G a
 fg:∀a,h.get? a=none->G a/\F0 a
 fp:∀b∈fp,b=I\/¬bo b
 ap:I≠D/\¬Fz A env D/\¬Fz A env I/\∀y k,env.cells.lookup y=some k->k≠D/\k≠I
 at_:h.get? D=some d0
structure LD(C:Cx)(A:Sg)(env:Env)(Γ:fT)(own:Str->Prop)(I D:RD)(bo:RD->Prop)(h h':Heap):Prop where
 aq:bH C h' env
 vk:∀y e u,Γ.lookup y=some (some e)->aZ h env y u->aZ h' env y u
 kc:∀a o,¬KV A env own I D a->h.get? a=some o->h'.get? a=some o
 live:∀a,bo a->a≠I->(h'.get? a).isSome=true
 sk:Sk A env h h'
noncomputable def Kp(T:RD->Prop)(h h':Heap):Prop:=∀a o,T a->h.get? a=some o->h'.get? a=some o
inductive B4(C:Cx)(A:Sg)(env:Env)(Γ:fT)(own:Str->Prop)(I D:RD)(bo:RD->Prop)(St:Nat->Heap->Prop)(h:Heap)(n:Nat)(Acc:Nat->Heap->Prop)(s:Ro)(k:Nat)(s':Ro):Prop
 |mk (h':Heap) (t' i:Nat):k=n+1 - i->i<=n->s'={s with heap:=h',toks:=t'}->St i h'->LD C A env Γ own I D bo h h'->Acc i h'->B4 C A env Γ own I D bo St h n Acc s k s'
theorem mK{o:Option α}(h:∀x,o≠some x):o=none:=by
 cases o with
 |none=>rfl
 |some x=>exact absurd rfl (h x)
theorem qE{o:Option α}(h:o.isSome=true)(e:o=none):False:=by rw[e]at h;cases h
theorem NO{S N M:RD->Prop}{uv:Bool}{a:RD}(h:(if uv then S a else U a)\/N a)(h1:M a)(h2:a≠I):(if uv then S a\/(N a/\M a/\a≠I)else U a\/(N a/\M a/\a≠I)):=by
 cases uv
 ·exact h.imp id λh=>⟨h,h1,h2⟩
 ·exact h.imp id λh=>⟨h,h1,h2⟩
section
variable{af:fT}{own:Str->Prop}{fp:List RD}{P:Nat->Rz->Prop}{St:Nat->Heap->Prop}{S G:RD->Prop}{h₂:Heap}{d0:Obj}
theorem bY.nc(b:bY C A env Γ own md xs I D fp P St S U bo G F0 h d0){a:RD}(hb: ¬bo a): ¬KV A env own I D a:=λhc=>
 hb (hc.elim (λe=>e▸b.bad.2.1) λh=>h.elim (λe=>e▸b.bad.1) λh=>h.elim (λh=>h.elim (λe=>e▸b.bad.2.2.1) (b.bs a)) λh=>h.elim λy h=>b.bad.2.2.2 y h.1 a h.2)
theorem bY.nF(b:bY C A env Γ own md xs I D fp P St S U bo G F0 h d0){a:RD}(hb: ¬bo a\/a=D\/a=I): ¬Fz A env a:=λhz=>
 hb.elim (λhb=>b.nc hb (.inr (.inr (.inl hz)))) λe=>e.elim (λe=>b.ap.2.1 (e▸hz)) λe=>b.ap.2.2.1 (e▸hz)
theorem bY.Oe(b:bY C A env Γ own md xs I D fp P St S U bo G F0 h d0)(hs:St i h₁):(h₁.get? I).isSome=true:=(b.qu _ _ hs).elim λω h=>h.elim λω h=>so h.1
theorem bY.zero(b:bY C A env Γ own md xs I D fp P St S U bo G F0 h d0):LD C A env Γ own I D bo h h:=⟨b.hh.aq,λω ω ω ω e=>e,λω ω ω e=>e,λa ha ω=>(b.bx a ha).1,.refl _⟩
theorem bY.here(b:bY C A env Γ own md xs I D fp P St S U bo G F0 h d0)(x:LD C A env Γ own I D bo h h₁):Here C A S U env Γ h₁:=
 b.hh.move bo x.aq x.vk (λa o hb ho=>x.kc a o (b.nc hb) ho) b.ub (λa ha=>(b.bx a ha).2) x.sk
theorem bY.new(b:bY C A env Γ own md xs I D fp P St S U bo G F0 h d0)(x:LD C A env Γ own I D bo h h₁)(hs:St i h₁){a:RD}(ha:h₁.get? a=none):(G a/\F0 a)/\¬bo a:=by
 have nb: ¬bo a:=λhb=>by
  by_cases e:a=I
  ·exact qE (b.Oe hs) (e▸ha)
  ·exact qE (x.live a hb e) ha
 exact⟨b.fg a (mK λo hq=>nomatch ha.symm.trans (x.kc a o (b.nc nb) hq)),nb⟩
theorem bY.frame(b:bY C A env Γ own md xs I D fp P St S U bo G F0 h d0)(hs:St i h₁)(k:Kp (λa=>¬bo a\/a=I) h₁ h₂):St i h₂:=b.W.frame _ _ _ hs λa ha o=>k a o ((b.fp a ha).elim .inr .inl)
theorem bY.C8(b:bY C A env Γ own md xs I D fp P St S U bo G F0 h d0)(x:LD C A env Γ own I D bo h h₁)(hk:∀a o,a∉[I]->h₁.get? a=some o->h₂.get? a=some o):LD C A env Γ own I D bo h h₂/\Kp (λa=>¬bo a\/a=D) h₁ h₂:=by
 have k1:∀a o,a≠I->h₁.get? a=some o->h₂.get? a=some o:=λa o ha=>hk a o λh=>ha (Rq.mp h);have nL: ¬env.locals=I:=λe=>b.ap.2.2.1 (.inl e.symm);have nc:∀x c,env.cells.lookup x=some c->¬c=I:=λx c hc e=>(b.ap.2.2.2 x c hc).2 e;exact⟨⟨x.aq.move (· =I) k1 nL nc,λy e u hy hu=>(x.vk y e u hy hu).move (· =I) k1 nL nc,λa o hb ho=>k1 a o (λe=>hb (.inr (.inl e))) (x.kc a o hb ho),λa ha aX=>eP (x.live a ha aX) λo=>k1 a o aX,
  x.sk.trans (.of_keep λa o hs ω ho=>k1 a o (λe=>b.ap.2.2.1 (.inr (e▸hs))) ho)⟩,λa o ha ho=>k1 a o (ha.elim (λhb e=>hb (e▸b.bad.1)) λe e'=>b.ap.1 (e'.symm.trans e)) ho⟩
theorem bY.asg(b:bY C A env Γ own md xs I D fp P St S U bo G F0 h d0)(x:LD C A env Γ own I D bo h h₁){ns:List Str}(bR:∀y∈ns,own y/\∀e,Γ.lookup y≠some (some e))(ek:bH C h₂ env)(kx:jA env ns h₁ h₂)
  (vk:∀y u,y∉ns->aZ h₁ env y u->aZ h₂ env y u):LD C A env Γ own I D bo h h₂/\Kp (λa=>¬bo a\/a=D\/a=I) h₁ h₂:=by
 have yF:=b.here x;exact⟨⟨ek,λy e u hy hu=>vk y u (λhm=>(bR y hm).2 e hy) (x.vk y e u hy hu),λa o hb ho=>kx.keep a o (λe=>hb (.inr (.inr (.inl (.inl e))))) (λy hy hc=>hb (.inr (.inr (.inr ⟨y,(bR y hy).1,hc⟩)))) (x.kc a o hb ho),λa ha aX=>kx.live a (x.live a ha aX),
  x.sk.trans (.of_keep λa o hs hl ho=>kx.keep a o hl (λy ω hc=>by
   refine aM (yF.aq.call y a hc) λu o2 sF FE=>?_;exact yF.bE.ne sF (by rw[FE];nofun) hs) ho)⟩,λa o ha ho=>kx.keep a o (λe=>b.nF ha (.inl e)) (λy hy hc=>ha.elim (λha=>ha (b.bad.2.2.2 y (bR y hy).1 a hc)) λe=>e.elim (b.ap.2.2.2 y a hc).1 (b.ap.2.2.2 y a hc).2) ho⟩
theorem bY.ext(b:bY C A env Γ own md xs I D fp P St S U bo G F0 h d0)(x:LD C A env Γ own I D bo h h₁)(hh:Here C A S U env af h₁)(e:Ext A env h₁ h₂):LD C A env Γ own I D bo h h₂/\Kp (λa=>¬bo a\/a=D\/a=I) h₁ h₂:=
 ⟨⟨hh.aq.ext hh.bE e,λy q u hy hu=>(x.vk y q u hy hu).ext hh.aq hh.bE e,λa o hb ho=>e.keep a o (λhz=>hb (.inr (.inr (.inl hz)))) (x.kc a o hb ho),λa ha aX=>e.live hh.aq.ns (x.live a ha aX),x.sk.trans e.fr⟩,λa o ha ho=>e.keep a o (b.nF ha) ho⟩
theorem bY.Nq(b:bY C A env Γ own md xs I D fp P St S U bo G F0 h d0)(x:LD C A env Γ own I D bo h h₁)(hk:∀a o,a≠D->h₁.get? a=some o->h₂.get? a=some o)(hD:(h₂.get? D).isSome=true):LD C A env Γ own I D bo h h₂/\Kp (λa=>¬bo a\/a=I) h₁ h₂:=by
 have nL: ¬env.locals=D:=λe=>b.ap.2.1 (.inl e.symm);have nc:∀x c,env.cells.lookup x=some c->¬c=D:=λx c hc e=>(b.ap.2.2.2 x c hc).1 e;refine⟨⟨x.aq.move (· =D) hk nL nc,λy e u hy hu=>(x.vk y e u hy hu).move (· =D) hk nL nc,λa o hb ho=>hk a o (λe=>hb (.inl e)) (x.kc a o hb ho),λa ha aX=>?_,x.sk.trans (.of_keep λa o hs ω ho=>hk a o (λe=>b.ap.2.1 (.inr (e▸hs))) ho)⟩,
  λa o ha ho=>hk a o (ha.elim (λhb e=>hb (e▸b.bad.2.1)) λe e'=>b.ap.1 (e.symm.trans e')) ho⟩
 by_cases e:a=D
 ·exact e▸hD
 ·exact eP (x.live a ha aX) λo=>hk a o e
theorem bY.snoc(b:bY C A env Γ own md xs I D fp P St S U bo G F0 h d0)(x:LD C A env Γ own I D bo h h₁)(hs:St i h₁){ys:List Rz}(Jp:wg C dp G F0 bo h₁ ys outs){bO:Heap}{fv:List RD}
  (rv:aC C (λa=>dp=0/\dH true S U h₁ a) h₂ dp v y fv) (aG:fv.Nodup) (Cs:∀a∈fv,h₁.get? a=none/\Rt<a) (k1:Kp (λa=>¬bo a\/a=D\/a=I) h₁ h₂) (k2:Kp (λa=>¬bo a\/a=I) h₂ bO):wg C dp G F0 bo bO (ys++[v]) (outs++[y]):=by
 have k:∀a o,¬bo a->h₁.get? a=some o->bO.get? a=some o:=λa o hb ho=>k2 a o (.inl hb) (k1 a o (.inl hb) ho);refine wg.snoc (h₀:=h₁) (Jp.mono k) (λa=>by cases h₁.get? a<;>simp) Jp ?_ aG (λa ha=>⟨(Cs a ha).1,(b.new x hs (Cs a ha).1).1.2,(Cs a ha).2,(b.new x hs (Cs a ha).1).2⟩) k;have rg:∀a,(dp=0/\dH true S U h₁ a)->dp=0/\G a/\¬bo a:=λa ha=>⟨ha.1,ha.2.elim (λha=>⟨b.sg a ha,b.ub a (b.hh.sub a ha)⟩) λha=>⟨(b.new x hs ha).1.1,(b.new x hs ha).2⟩⟩;exact rv.mono rg (λa o ha ho=>k2 a o (.inl (rg a ha).2.2) ho) λa ha o ho=>k2 a o (.inl (b.new x hs (Cs a ha).1).2) ho
theorem bY.turn(b:bY C A env Γ own md xs I D fp P St S U bo G F0 h d0){Acc:Nat->Heap->Prop}(HG:∀i h₁ h₂,Kp (λa=>¬bo a\/a=D) h₁ h₂->Acc i h₁->Acc i h₂){s:Ro}{k:Nat}{Qn:Option Rz->Ro->Prop}{Ef:Rz->Ro->Prop}
  (x:B4 C A env Γ own I D bo St h xs.length Acc s k s') (tO:∀h₁ t₁,LD C A env Γ own I D bo h h₁->Acc xs.length h₁->Qn none {s with heap:=h₁,toks:=t₁})
  (Ho:∀i v x h₁ t₁,k=xs.length+1 - i->i<xs.length->xs[i]?=some x->Rd C.prog C.w (λa=>if md then S a else U a) h₁ v x->St (i+1) h₁->LD C A env Γ own I D bo h h₁->Acc i h₁->Qn (some v) {s with heap:=h₁,toks:=t₁}):
  RM (RF C.prog C.w) A (pyNext (.ref I)) Qn Ef s':=by
 obtain⟨H,tk,i,jw,hi,rfl,av,x,ha⟩:=x;by_cases hlt:i<xs.length
 ·refine b.W.item i _ _ _ hlt av λv h₁ AF PI lK zg=>?_;refine oA (b.C8 x zg) λx1 k1=>?_;refine aD (b.hP i v PI) λz hz rz=>?_;have nb:∀a,(if md then S a else U a)->¬bo a:=λa ha=>b.ub a (by cases md;exact ha;exact b.hh.sub a ha);exact Ho i v z h₁ AF jw hlt hz (rz.mono (λω z=>z) λa o ha ho=>x1.kc a o (b.nc (nb a ha)) ho) lK x1 (HG i H h₁ k1 ha)
 ·have cO:i=xs.length:=Sa hi (SV.mp hlt);subst cO;refine b.W.done _ _ _ av λh₁ AF zg=>?_;refine oA (b.C8 x zg) λx1 k1=>?_;exact tO h₁ AF x1 (HG _ H h₁ k1 ha)
end
noncomputable def q9(C:Cx)(dp:Nat)(G F0 bo:RD->Prop)(D:RD)(outs:List PV)(h:Heap):Prop:=∃ys n,h.get? D=some (gN ys n)/\wg C dp G F0 bo h ys outs
theorem q9.mono{G:RD->Prop}(k:Kp (λa=>¬bo a\/a=D) h h')(x:q9 C dp G F0 bo D outs h):q9 C dp G F0 bo D outs h':=
 let⟨ys,n,h1,h2⟩:=x
 ⟨ys,n,k D _ (.inr rfl) h1,h2.mono λa o ha ho=>k a o (.inl ha) ho⟩
noncomputable def vI(C:Cx)(elt:Expr)(dp:Nat)(gens:List Comprehension)(scope:Scope)(pos:Pos)(env:Env)(own:Str->Prop)(cs:List Comprehension)(d:Nat)(c:Comprehension):Prop:=
  ∀ {A:Sg} {S U:RD->Prop} {s:Ro} {Γ:fT} {md:Bool} {xs:List PV} {f:Nat->List PV} {I D:RD} {fp:List RD} {P:Nat->Rz->Prop} {St:Nat->Heap->Prop} {d0:Obj} {outs:List PV} {R:Result->Ro->Prop}
   {bo G F0:RD->Prop},aB C A->bY C A env Γ own md xs I D fp P St S U bo G F0 s.heap d0->Tn C env own elt dp c cs Γ md xs f->q9 C dp G F0 bo D outs s.heap->outs.length+((RG xs.length).flatMap f).length<=2^24->
   (∀h' t',LD C A env Γ own I D bo s.heap h'->q9 C dp G F0 bo D (outs++(RG xs.length).flatMap f) h'->R (.ok .next) {s with heap:=h',toks:=t'})->
   TR (RF C.prog C.w) A (.compLoop (.ListComp elt gens scope pos) d (.ref I) (.ref D) env) R s
theorem mZ{pos:Pos}{own:Str->Prop}{d:Nat}{c:Comprehension}
  (cH:∀c∈gens,c.is_async=0/\∀x,R8 c.iter env x=pure x) (hd:gens.drop d=c::cs)
  (Pz:∀c' FZ,cs=c'::FZ->vI C elt dp gens scope pos env own FZ (d+1) c'):vI C elt dp gens scope pos env own cs d c:=by
 intro A S U s Γ md xs f I D fp P St d0 outs R bo G F0 hr b hT Jp aF hR;have NB:∀k,gens[d+k]?=(c::cs)[k]?:=λk=>by rw[<-hd,List.getElem?_drop]
 have hg:gens[d]?=some c:=NB 0;have Dc:gens[d+1]?=cs[0]?:=NB 1;refine oW (I:=B4 C A env Γ own I D bo St s.heap xs.length (λi=>q9 C dp G F0 bo D (outs++(RG i).flatMap f)) s)
  hg (cH c (R4 hg)).1 (λg' CV=>cH g' (R4 CV)) (λk s' hIn Qn Ef QT qD qV qF qN qC=>?_) (xs.length+1) ⟨s.heap,s.toks,0,rfl,RU _,rfl,b.st,b.zero,(SP outs).symm▸Jp⟩
 refine b.turn (Acc:=λi=>q9 C dp G F0 bo D (outs++(RG i).flatMap f)) (λω ω ω=>q9.mono) hIn (λh₁ t₁ x a=>qD _ (hR h₁ t₁ x a)) λi v x h₁ t₁ jw hlt hx rx lK x1 a1=>qV v _ ?_;refine lW (b.qu _ _ lK) λoI TI JI JK QC=>?_;refine fF (s:={s with heap:=h₁,toks:=t₁}) JI JK QC ?_;refine fA (hT i x hx) λns af t hA La bR KS Mr Dh=>?_;refine hA A S U _ v _ _ hr (b.here x1) rx λh₂ t₂ iE kx Jq=>?_;refine oA (b.asg x1 bR iE.aq kx Jq) λx2 k2=>?_;refine KS A S U _ _ _ hr iE λbO Cz u7=>?_;refine oA (b.ext x2 iE u7) λx3 k3=>?_;have xV:Here C A S U env af bO:=iE.ext u7;have a3:=a1.mono λa o h ho=>k3 a o (h.imp id .inl) (k2 a o (h.imp id .inl) ho);have gr:St (i+1) bO:=b.frame (b.frame lK λa o h=>k2 a o (h.imp id .inr)) λa o h=>k3 a o (h.imp id .inr);have Hm:outs++(RG (i+1)).flatMap f=outs++(RG i).flatMap f++f i:=by rw[Yw,UU,Sq];simp
 have hle:(outs++(RG i).flatMap f++f i).length<=2^24:=Hm▸RQ▸Rk (Se (lq f hlt) _) aF;have je:xs.length+1 - (i+1)<k:=fz jw (TN hlt);clear hR aF hT hA bR kx Jq k2 k3 a1;cases t with
 |false=>
  refine qF _ _ je ⟨bO,Cz,i+1,rfl,hlt,rfl,gr,x3,?_⟩;rw[Hm,Dh rfl,SP];exact a3
 |true=>
  have oU:=Mr rfl;cases cs with
  |nil=>
   refine aD oU λy hy lI=>?_;clear oU;refine aM a3 λBa n' IZ uQ=>?_;clear a3;refine qN Dc _ λQe qe=>lI A S U _ _ _ hr xV λv' dU ve fv r9 rv Fb Cs=>qe _ _ λQa qa=>?_;refine oA (b.ext x3 xV r9) λx4 k4=>?_;rw[hy]at Hm hle;refine wpAny_list_append_plain ⟨n',k4 D _ (.inr (.inl rfl)) IZ⟩ (λpe j3 yX=>?_) (by rw[RX,uQ.length];exact VT (by rw[RQ (bs:=[y])]at hle;exact hle));refine oE j3 λKL j3=>?_;refine oA (b.Nq x4 (λa o ha ho=>(yX.2 a ha).trans ho) (so j3)) λx5 k5=>?_;refine qa _ _ _ je ⟨pe,ve,i+1,rfl,hlt,rfl,b.frame (b.frame gr λa o h=>k4 a o (h.imp id .inr)) k5,x5,Ba++[v'],KL,by rw[j3];simp,?_⟩;rw[Hm];exact b.snoc x3 gr uQ rv Fb Cs k4 k5
  |cons c' FZ=>
   refine fh oU λuv Nf f' pW OV Hf=>?_;clear oU;refine qC c' Dc _ λQi qi=>pW A S U _ _ _ hr xV λI' dU ve ed P' a8 r9 qg Iz W' dE Pb E7 MI ID=>qi _ _ λRR qr=>?_;refine oA (b.ext x3 xV r9) λx4 k4=>?_;have xI:∀a,bO.get? a=none->¬Fz A env a:=λa ha hz=>qE (Fz.there xV hz) ha;have JN:∀a,bO.get? a=none->∀y k,env.cells.lookup y=some k->k≠a:=λa ha y k hk e=>(xV.aq.call y k hk).elim λv h=>h.elim λo h=>qE (so h.1) (e▸ha);have b3:∀a,bo a->(bO.get? a).isSome=true:=λa ha=>by
    by_cases e:a=I
    ·exact e▸b.Oe gr
    ·exact x3.live a ha e
   have L9:∀a,bo a->a≠I':=λa hb e=>qE (b3 a hb) (e▸qg);have O2:∀a o,bO.get? a=some o->a≠I':=λa o ho e=>qE (so ho) (e▸qg);have Kf:∀a,(if uv then S a else U a)->¬bo a:=λa ha=>b.ub a (by cases uv;exact ha;exact b.hh.sub a ha);have Dl:∀a,(bO.get? a).isSome=true->(dU.get? a).isSome=true:=λa ha=>r9.live xV.aq.ns ha;refine aM a3 λBa n' IZ uQ=>?_;clear a3;have hB:bY C A env af own uv Nf I' D ed P' a8 (λa=>S a\/(bO.get? a=none/\(dU.get? a).isSome=true/\a≠I')) (λa=>U a\/(bO.get? a=none/\(dU.get? a).isSome=true/\a≠I')) (λa=>bo a\/a=I') G F0 dU (gN Ba n'):=by
    have x:=xV.ext r9;refine⟨{cx:=x.cx,base:=x.base,aq:=x.aq,bE:=x.bE,sub:=λa ha=>ha.imp (b.hh.sub a) id,old:=λa ha=>?_,has:=λy m pv hl hv=>?_},W',dE,λq u hq=>?_,ID,⟨.inr rfl,.inl b.bad.2.1,.inl b.bad.2.2.1,λy hy k hk=>.inl (b.bad.2.2.2 y hy k hk)⟩,λa ha=>.inl (b.bs a ha),λa ha=>?_,λa ha hb=>?_,λa ha=>ha.elim (b.sg a) λh=>(b.new x3 gr h.1).1.1,
     λa ha=>(b.new x3 gr (mK λo hq=>qE (Dl a (so hq)) ha)).1,λa hb=>?_,⟨λe=>(nomatch (e▸qg).symm.trans IZ),b.ap.2.1,xI I' qg,λy k hk=>⟨(b.ap.2.2.2 y k hk).1,JN I' qg y k hk⟩⟩,k4 D _ (.inr (.inl rfl)) IZ⟩
    ·exact ha.elim (x.old a) λh=>⟨h.2.1,xI a h.1,λy k hk e=>JN a h.1 y k hk e.symm⟩
    ·refine bM (x.has y m pv hl hv) λu h1 h2 h3=>?_;refine⟨u,h1,h2.mono (λa ha=>?_) (λω ω ω e=>e),λhn=>(h3 hn).mono (λω z=>.inl z) (λω z=>.inl z) b.hh.sub λω ω ω e=>e⟩;by_cases hn:(m==0)=true
     ·rw[if_pos hn]at ha⊢;exact .inl ha
     ·rw[if_neg hn]at ha⊢;exact .inl ha
    ·refine aD (Pb q u hq) λz hz rz=>?_;exact⟨z,hz,rz.there.mono (λa ha=>NO (uv:=uv) (N:=λa=>bO.get? a=none) (M:=λa=>(dU.get? a).isSome=true) (show(if uv then S a else U a)\/bO.get? a=none from ha.1.1) ha.2 ha.1.2) λω ω ω e=>e⟩
    ·exact ha.elim (λha=>⟨Dl a (b3 a ha),(b.bx a ha).2⟩) λe=>e▸⟨(ID _ _ dE).elim λω h=>h.elim λω h=>so h.1,Iz,λo ho=>(nomatch qg.symm.trans (xV.base.cB _ _ ho))⟩
    ·exact hb.elim (λhb=>ha.elim (λha=>b.ub a ha hb) λh=>qE (b3 a hb) h.1) λe=>ha.elim (λha=>qE (xV.old a ha).1 (e▸qg)) λh=>h.2.2 e
    ·by_cases Fx:a=I'
     ·exact .inl Fx
     ·exact .inr λBV=>BV.elim (λBV=>(E7 a hb).1.elim Fx λh=>h.elim (λh=>Kf a h BV) λh=>qE (b3 a BV) h) Fx
   have IH:TR (RF C.prog C.w) A (.compLoop (.ListComp elt gens scope pos) (d+1) (.ref I') (.ref D) env) RR {s with heap:=dU,toks:=ve}:=by
    refine Pz c' FZ rfl (s:={s with heap:=dU,toks:=ve}) (outs:=outs++(RG i).flatMap f) hr hB OV ⟨Ba,n',hB.at_,?_⟩ (by rw[<-Hf,<-RQ];exact hle) λpe Lo x5 a5=>?_
    ·refine bM uQ λcW g1 g2 g3=>?_;clear uQ;exact⟨cW,g1.gu.mono (λa ha=>⟨ha.1.1,ha.1.2.1,λhb=>hb.elim ha.1.2.2 λe=>qE ha.2 (e▸qg)⟩) (λa o ha ho=>k4 a o (.inl ha.1.2.2) ho) (λa ha o ho=>k4 a o (.inl (g3 a ha).2.2) ho),g2,
      λa ha=>⟨(g3 a ha).1,(g3 a ha).2.1,λhb=>hb.elim (g3 a ha).2.2 λe=>qE (g1.there _ ha) (e▸qg)⟩⟩
    ·have c5:∀a o,¬KV A env own I D a\/a=I->bO.get? a=some o->pe.get? a=some o:=λa o hc ho=>by
      have nz:a≠D/\¬Fz A env a/\¬ ∃y,own y/\env.cells.lookup y=some a:=hc.elim (λhc=>⟨λe=>hc (.inl e),λe=>hc (.inr (.inr (.inl e))),λe=>hc (.inr (.inr (.inr e)))⟩) λe=>e▸⟨b.ap.1,b.ap.2.2.1,λh=>h.elim λy h=>(b.ap.2.2.2 y I h.2).2 rfl⟩;exact x5.kc a o (λh=>h.elim nz.1 λh=>h.elim (O2 a o ho) λh=>h.elim nz.2.1 nz.2.2) (r9.keep a o nz.2.1 ho)
     refine qr _ _ _ je ⟨pe,Lo,i+1,rfl,hlt,rfl,b.frame gr λa o ha=>c5 a o (ha.imp b.nc id),⟨x5.aq,λy e u hy hu=>x5.vk y e u (La y e hy) (x4.vk y e u hy hu),λa o hb ho=>c5 a o (.inl hb) (x3.kc a o hb ho),λa ha ω=>x5.live a (.inl ha) (L9 a ha),x4.sk.trans x5.sk⟩,?_⟩;rw[Hm,Hf];refine Ck a5 λQQ n5 O5 cW g1 g2 g3=>?_;clear a5;exact⟨QQ,n5,O5,cW,g1.mono (λa ha=>⟨ha.1,ha.2.1,λhb=>ha.2.2 (.inl hb)⟩) (λω ω ω e=>e) (λω ω ω e=>e),g2,λa ha=>⟨(g3 a ha).1,(g3 a ha).2.1,λhb=>(g3 a ha).2.2 (.inl hb)⟩⟩
   refine jx (g:=c') (by rw[Dc];rfl) (cH c' (R4 (i:=d+1) (by rw[Dc];rfl))).1 IH ?_;exact W'.self 0 _ _ _ dE IH
theorem yc{pos:Pos}(own:Str->Prop)
  (cH:∀c∈gens,c.is_async=0/\∀x,R8 c.iter env x=pure x):
  ∀ (cs:List Comprehension) (d:Nat) (c:Comprehension),gens.drop d=c::cs->vI C elt dp gens scope pos env own cs d c:=by
 intro cs
 induction cs with
 |nil=>exact λd c hd=>mZ cH hd λω ω h=>by cases h
 |cons c' FZ ih=>
  intro d c hd;refine mZ cH hd ?_;intro c₂ MS h;cases h;have e:gens.drop (d+1)=c'::FZ:=by rw[<-List.drop_drop,hd];rfl
  exact @ih (d+1) c' e
noncomputable def CE(scope:Scope)(env:Env)(D:RD)(cells:List (Str×RD)):Env:=
 {scope:=relabel scope env,locals:=D,globals:=env.globals,cells:=cells,qual:=env.qual,func:=none,code:=env.code,frame:=env.frame,builtins:=env.builtins}
noncomputable def n8(scope:Scope)(y:Str):Prop:=scope.names.lookup y=some .local\/scope.names.lookup y=some .cell
noncomputable def nN(scope:Scope):List Str:=(scope.names.filter λx=>x.2== .local||x.2== .cell).map (·.1)
noncomputable def inner(scope:Scope)(Γ:fT):fT:=(nN scope).map (λx=>(x,none))++Γ
structure bB(scope:Scope)(env:Env):Prop where
 kind:scope.kind= .function
 nodup:(scope.names.map (·.1)).Nodup
 free:∀x∈scope.names,x.2= .free->env.kindOf x.1=some .cell\/env.kindOf x.1=some .free
 OF:∀x∈scope.names,x.1≠"__classdict__"
theorem dg:∀ {l:List (Str×α)} {x:Str} {k:α},(l.map (·.1)).Nodup->(x,k)∈l->l.lookup x=some k
 |(n,j)::r,x,k,aG,hm=>by
  have gw:n∉r.map (·.1)/\(r.map (·.1)).Nodup:=by simpa using aG
  rw[RB];rcases Rr.mp hm with e|hm
  ·cases e;simp
  ·have aX:x≠n:=by rintro rfl;exact gw.1 (RE.mpr ⟨_,‹(x,k)∈r›,rfl⟩)
   have:(x==n)=false:=by simpa using aX
   rw[this];exact dg gw.2 hm
theorem bC:∀ {l:List (Str×α)} {x:Str} {k:α},l.lookup x=some k->(x,k)∈l
 |(n,j)::r,x,k,h=>by
  rw[RB]at h;cases hb:x==n with
  |true=>rw[hb]at h;cases h;rw[beq_iff_eq.mp hb];exact Rm
  |false=>rw[hb]at h;exact Rn _ (bC h)
theorem i8(env:Env):∀ (names:List (Str×NameKind)) (x:Str),
  (names.map λ(n,k)=>if(k==NameKind.free&&env.scope.kind== .function&&env.kindOf n==some .cell)then(n,NameKind.cell)else(n,k)).lookup x=
   (names.lookup x).map λk=>if(k==NameKind.free&&env.scope.kind== .function&&env.kindOf x==some .cell)then .cell else k
 |[],x=>rfl
 |(n,k)::r,x=>by
  have ih:=i8 env r x;show List.lookup x ((if(k==NameKind.free&&env.scope.kind== .function&&env.kindOf n==some .cell)=true then(n,NameKind.cell)else(n,k))::_)=_;by_cases hc:(k==NameKind.free&&env.scope.kind== .function&&env.kindOf n==some .cell)=true
  ·rw[if_pos hc,RB,RB];cases hb:x==n with
   |true=>
    have:x=n:=beq_iff_eq.mp hb;subst this;simp only[SM,hc,if_true]
   |false=>exact ih
  ·rw[if_neg hc,RB,RB];cases hb:x==n with
   |true=>
    have:x=n:=beq_iff_eq.mp hb;subst this;simp only[SM];rw[if_neg hc]
   |false=>exact ih
theorem dz(x:Str):
  (CE scope env D cells).kindOf x=(scope.names.lookup x).map λk=>if(k==NameKind.free&&env.scope.kind== .function&&env.kindOf x==some .cell)then .cell else k:=i8 env scope.names x
theorem oB(h:aA (scope.names.lookup x)=true):aA ((CE scope env D cells).kindOf x)=true:=by
 rw[dz];rcases iQ h with h|h|h<;>rw[h]
 ·rfl
 ·rfl
 ·simp only[SM];split<;>rfl
theorem kj(h:aA ((CE scope env D cells).kindOf x)=true):aA (scope.names.lookup x)=true:=by
 rw[dz]at h;cases hl:scope.names.lookup x with
 |none=>rw[hl]at h;simp[aA]at h
 |some k=>
  rw[hl]at h;simp only[SM]at h;cases k<;>simp_all [aA]
theorem xe(h:scope.names.lookup x=some .globalImplicit):(CE scope env D cells).kindOf x=some .globalImplicit:=by
 rw[dz,h];rfl
theorem m7(h:scope.names.lookup x=some .local\/scope.names.lookup x=some .cell):(CE scope env D cells).kindOf x=some .local\/(CE scope env D cells).kindOf x=some .cell:=by
 rw[dz];rcases h with h|h<;>rw[h]<;>simp
theorem qs{e:Nat×PV}(h:(inner scope Γ).lookup x=some (some e)):Γ.lookup x=some (some e)/\x∉nN scope:=by
 unfold inner at h;generalize nN scope=ns at h⊢
 induction ns with
 |nil=>exact⟨h,by simp⟩
 |cons n r ih=>
  rw[Sl,UT,RB]at h;cases hb:x==n with
  |true=>rw[hb]at h;cases h
  |false=>
   rw[hb]at h;have:=ih h;refine⟨this.1,?_⟩;rw[Rr,not_or];exact⟨by simpa using hb,this.2⟩
theorem o7{s:Ro}{cl:List (Str×RD)}{Q:Env->Ro->Prop}
  (h:Q {scope:=scope,locals:=s.heap.objs.size,globals:=env.globals,cells:=cellsFrom (s.heap.objs.size+1) scope.names cl,qual:=env.qual,func:=none,code:=env.code,frame:=env.frame,builtins:=env.builtins}
   {s with heap:=pushCells (s.heap.push {cls:=.type "dict",data:=.dict #[]}) scope.names}):
  RM M A (newFunctionEnv scope env.globals cl [] env.qual none .none (some env)) Q E s:=by
 unfold newFunctionEnv;simp only[Option.isSome_some,if_true];refine Rp (wpAny_alloc ?_);refine Rp (wpAny_layCells _ (λname kind cells=>by cases PL:kind==NameKind.cell<;>simp[PL]) _ _ _ _ ?_);rw[US];exact Rp (RK (RK h))
theorem tm{c:Comprehension}{use:Option (Rz->Sem Unit)}{Aj:Sem Rz}{d0:Obj}
  (oU:clausesOf e=c::cs) (cH:c.is_async=0/\∀env x,R8 c.iter env x=pure x) (hs:bB scope env) (h1:dw C env Γ c.iter md xs)
  (Pk:d0.isFreed=false) (hnew:∀ {A:Sg} {E:Rz->Ro->Prop} {s:Ro} {Q:Rz->Ro->Prop},Q (.ref s.heap.objs.size) {s with heap:=s.heap.push d0}->RM (RF C.prog C.w) A Aj Q E s)
  {S:RD->Prop} {s:Ro} {Q:Rz->Ro->Prop}  (hr:aB C A) (hh:Here C A S U env Γ s.heap) (Acc:(RD->Prop)->RD->Heap->Prop)
  (loop:∀ (I D L:RD) (h:Heap) (t:Nat) (cells:List (Str×RD)) (fp:List RD) (P:Nat->Rz->Prop) (St:Nat->Heap->Prop) (S' U' bo:RD->Prop) (R:Result->Ro->Prop),bY C A (CE scope env L cells) (inner scope Γ) (n8 scope) md xs I D fp P St S' U' bo (λa=>S a\/s.heap.get? a=none) (λa=>s.heap.get? a=none) h d0->
   (∀h' t',LD C A (CE scope env L cells) (inner scope Γ) (n8 scope) I D bo h h'->Acc bo D h'->R (.ok .next) {s with heap:=h',toks:=t'})->
   TR (RF C.prog C.w) A (.compStart e 0 (.ref I) (.ref D) (CE scope env L cells)) R {s with heap:=h,toks:=t})
  (hq:∀L D h' t' m (bo:RD->Prop),s.heap.get? L=none->L≠D->s.heap.get? D=none->Ext A env s.heap h'->bo L->bo D->Acc bo D h'->Rt<D->Rt<L->h'.Ns L m->
   compPost (RF C.prog C.w) A E use Q (.ref D) L (.ok .next) {s with heap:=h',toks:=t'}):
  RM (RF C.prog C.w) A (comprehension e scope env p Aj false (eval c.iter env) use) Q E s:=by
 have Ag:∀x∈scope.names,x.2= .free->∃c,env.cells.lookup x.1=some c:=λx hx hf=>by
  refine aM (hh.aq.cell x.1 (hs.free x hx hf)) λc v h1 _=>?_;exact⟨c,h1⟩
 refine wpAny_comprehension_free (cl:=iS env scope.names []) oU (cH.2 env) (o5 Ag) hs.kind (λx hx hl=>by
  have:=dg hs.nodup (k:=x.2) (x:=x.1) hx;rw[this,hl]) ?_
 refine h1 A S U s _ E hr hh λI h₂ t₂ fp P St lM xW lp W av hP jt J4 Hx=>?_;refine hnew ?_;refine o7 ?_;refine oE hh.aq.ns λmL Lj=>?_;have Ig:env.locals<h₂.objs.size:=(lM.ns mL Lj).lt
 let D:RD:=h₂.objs.size
 let bO:Heap:=h₂.push d0
 have hL:bO.objs.size=D+1:=US ..
 let L:RD:=bO.objs.size
 let sN:Heap:=bO.push {cls:=.type "dict",data:=.dict #[]}
 have z4:sN.objs.size=L+1:=US ..
 let cells:=cellsFrom (L+1) scope.names (iS env scope.names [])
 let dU:Heap:=pushCells sN scope.names
 have eX:∀x k,(iS env scope.names []).lookup x=some k->(x,.free)∈scope.names/\env.cells.lookup x=some k:=λx k hx=>(ym scope.names [] x k Ag hx).elim (λh=>nomatch h) id;have ou:∀x k,env.cells.lookup x=some k->∃v,h₂.IsCell k v:=λx k hx=>(hh.aq.ext hh.bE lM).call x k hx;have aJ:∀x k,(iS env scope.names []).lookup x=some k->k<L+1:=λx k hx=>by
  refine oE (ou x k (eX x k hx).2) λv hv=>?_;have:=hv.lt;show k<bO.objs.size+1;rw[hL];exact TN (TN this)
 have CI:q5 (L+1) sN dU (iS env scope.names []) cells scope.names:=by
  have:=Ct (L+1) sN (iS env scope.names []) aJ scope.names sN (iS env scope.names []) [] ⟨λω ω e=>e,by rw[z4];exact Rx _,λω ω=>rfl,λω h=>(nomatch h),λx k hx=>.inl ⟨hx,λω h=>(nomatch h)⟩,
   λx y k hN hx ω=>absurd (aJ x k hx) (SV.mpr hN)⟩
  rw[z4]at this;simpa using this
 have uj:∀a o,h₂.get? a=some o->dU.get? a=some o:=λa o ho=>CI.keep a o (Ry _ (Ry _ ho));have Jc:dU.get? D=some d0:=CI.keep _ _ (Ry _ (RL _ Pk));have Nw:dU.Ns L λω=>none:=(Heap.Ns.new bO (.type "dict")).keeps CI.keep;have Gx:∀ {a:RD},(h₂.get? a).isSome=true->a<D:=λ{a} ha=>by
  refine oE (Rv.mp ha) λo ho=>?_;exact Ss ho
 have o6:D<L:=by show D<bO.objs.size;rw[hL];exact TZ _
 have M7:∀a,dU.get? a=none->s.heap.get? a=none:=λa ha=>lM.fresh hh.aq.ns (mK λo EH=>nomatch ha.symm.trans (uj a o EH));have BD:∀a,D<=a->s.heap.get? a=none:=λa ha=>lM.fresh hh.aq.ns (mK λo EH=>absurd (Ss EH) (SV.mpr ha));have tC:Rt<D:=lM.high hh;have kK:∀a o,C.K.lookup a=some o->a<env.locals:=hh.aq.below;have DG:∀y,(y,NameKind.free)∈scope.names->(∀k,(y,k)∈scope.names->k≠.cell):=λy hy k hk hc=>by
  subst hc;have h1:=dg hs.nodup hy;have h2:=dg hs.nodup hk;rw[h1]at h2;cases h2
 have gy:∀y,n8 scope y->∀a,cells.lookup y=some a->L+1<=a:=λy hy a ha=>by
  rcases CI.all y a ha with⟨h1,h2⟩|⟨h1,_⟩
  ·have hf:=(eX y a h1).1;have:=dg hs.nodup hf;rcases hy with hy|hy<;>rw[this]at hy<;>cases hy
  ·exact h1
 have Bm:bH C dU (CE scope env L cells):=by
  refine{kind:=hs.kind,glob:=hh.aq.glob,gY:=hh.aq.gY,ns:=⟨_,Nw⟩,cell:=λx hx=>?_,call:=λx k hx=>?_,apart:=λx y k hx hy=>?_,et:=λx k hx=>?_,below:=λa o ho=>?_,high:=R0 tC o6,dB:=λx k hx=>?_}
  ·have hv:aA (scope.names.lookup x)=true:=kj (env:=env) (D:=L) (cells:=cells) (by rcases hx with hx|hx<;>rw[hx]<;>rfl);have hk:=dz (scope:=scope) (env:=env) (D:=L) (cells:=cells) x;rcases iQ hv with h|h|h
   ·rw[h]at hk;rcases hx with hx|hx<;>rw[hx]at hk<;>simp at hk
   ·refine aD (CI.fresh x (bC h)) λk h1 h2=>?_;rcases CI.all x k h1 with⟨_,h3⟩|⟨_,_,h3,_⟩
    ·exact absurd rfl (h3 _ (bC h))
    ·exact⟨k,_,h1,h3⟩
   ·have hm:=bC h;refine aM (hh.aq.cell x (hs.free _ hm rfl)) λk v h1 h2=>?_;have h3:cells.lookup x=some k:=by rw[CI.old x (DG x hm)];exact eM _ _ _ _ hs.nodup hm h1
    refine aM (ou x k h1) λv' o h4 h5=>?_;exact⟨k,v',h3,o,uj _ _ h4,h5⟩
  ·rcases CI.all x k hx with⟨h1,_⟩|⟨_,_,h3,_⟩
   ·refine aM (ou x k (eX x k h1).2) λv o h4 h5=>?_;exact⟨v,o,uj _ _ h4,h5⟩
   ·exact⟨_,h3⟩
  ·by_cases hN:L+1<=k
   ·exact CI.apart x y k hN hx hy
   ·rcases CI.all x k hx with⟨h1,_⟩|⟨h1,_⟩
    ·rcases CI.all y k hy with⟨h2,_⟩|⟨h2,_⟩
     ·exact hh.aq.apart x y k (eX x k h1).2 (eX y k h2).2
     ·exact absurd h2 hN
    ·exact absurd h1 hN
  ·rcases CI.all x k hx with⟨h1,_⟩|⟨h1,_⟩
   ·refine oE (ou x k (eX x k h1).2) λv hv=>?_;exact Sm (R0 hv.lt o6)
   ·exact TA h1
  ·exact R0 (kK a o ho) (R0 Ig o6)
  ·rcases CI.all x k hx with⟨h1,_⟩|⟨h1,_⟩
   ·exact hh.aq.dB x k (eX x k h1).2
   ·exact⟨R0 (R0 tC o6) h1,λa o ho=>Sm (R0 (R0 (kK a o ho) (R0 Ig o6)) h1)⟩
 let S':RD->Prop:=λa=>S a\/(s.heap.get? a=none/\(h₂.get? a).isSome=true/\a≠I)
 let U':RD->Prop:=λa=>U a\/(s.heap.get? a=none/\(h₂.get? a).isSome=true/\a≠I)
 have iE:=hh.ext lM;have BJ:∀a,U' a->a<D:=λa ha=>Gx (ha.elim (λha=>(iE.old a ha).1) λh=>h.2.1);have JN:∀a,U' a->∀x k,env.cells.lookup x=some k->a≠k:=λa ha x k hx e=>ha.elim (λha=>(hh.old _ ha).2.2 x _ hx e) λh=>(hh.aq.call x _ hx).elim λv g=>g.elim λo g=>qE (so g.1) (e▸h.1);have nS:∀a,U' a->¬onStack A a:=λa ha hs=>ha.elim (λha=>(hh.old a ha).2.1 (.inr hs)) λh=>qE (Fz.there hh (.inr hs)) h.1;have H6:∀a,onStack A a->(s.heap.get? a).isSome=true:=λa hs=>Fz.there hh (.inr hs);have PH:Here C A S' U' (CE scope env L cells) (inner scope Γ) dU:=by
  have xp:∀ {a:RD} {m},h₂.Ns a m->dU.Ns a m:=λ{a m} hn=>hn.keeps uj;refine{cx:=hh.cx,base:=⟨λa o ho=>uj a o (iE.base.cB a o ho),?_,?_,?_⟩,aq:=Bm,bE:=iE.bE.move λa o ω ho hd=>⟨o,uj a o ho,hd⟩,sub:=λa ha=>ha.imp (hh.sub a) id,old:=λa ha=>?_,has:=λy m pv hl hv=>?_}
  ·exact iE.base.nolimit.keeps uj
  ·refine aD iE.base.o3 λmb h1 h2=>?_;exact⟨mb,xp h1,h2⟩
  ·refine aD iE.base.nodigits λmc h1 h2=>?_;exact⟨mc,xp h1,h2⟩
  ·have hlt:=BJ a ha;refine⟨?_,λhz=>hz.elim (λe=>Sm (R0 hlt o6) e) (nS a ha),λx k hx e=>?_⟩
   ·exact eP (ha.elim (λha=>(iE.old a ha).1) λh=>h.2.1) (uj a)
   ·rcases CI.all x k hx with⟨h1,_⟩|⟨h1,_⟩
    ·exact JN a ha x k (eX x k h1).2 e
    ·exact absurd (R0 hlt o6) (SV.mpr (e▸VT h1))
  ·refine oA (qs hl) λrX Dh=>?_;have F9:=kj hv;have du:scope.names.lookup y=some .free:=by
    rcases iQ F9 with h|h|h
    ·exact absurd (RE.mpr ⟨(y,.local),TJ.mpr ⟨bC h,rfl⟩,rfl⟩) Dh
    ·exact absurd (RE.mpr ⟨(y,.cell),TJ.mpr ⟨bC h,rfl⟩,rfl⟩) Dh
    ·exact h
   have hm:=bC du;have A9:=hs.free _ hm rfl;refine bM (iE.has y m pv rX (by rcases A9 with h|h<;>rw[h]<;>rfl)) λv h1 h2 we=>?_;refine⟨v,?_,h2.mono (λa ha=>?_) (λa o ω ho=>uj a o ho),λhn=>(we hn).mono (λω z=>.inl z) (λω z=>.inl z) hh.sub λa o ω ho=>uj a o ho⟩
   ·rcases h1 with⟨h3,_⟩|⟨h3,h0,k,h4,o,h5,h6⟩
    ·rcases A9 with h|h<;>rw[h]at h3<;>cases h3
    ·refine .inr ⟨?_,h0,k,?_,o,uj _ _ h5,h6⟩
     ·rw[dz,du];simp only[SM];split<;>simp
     ·show cells.lookup y=some k;rw[CI.old y (DG y hm)];exact eM _ _ _ _ hs.nodup hm h4
   ·by_cases hn:(m==0)=true
    ·rw[if_pos hn]at ha⊢;exact .inl ha
    ·rw[if_neg hn]at ha⊢;exact .inl ha
 let bo:RD->Prop:=λa=>a=I\/a=D\/a=L\/(∃y,n8 scope y/\cells.lookup y=some a)\/onStack A a
 have Kj:I<D:=by
  refine aM (Hx _ _ av) λo T ho _=>?_;exact Ss ho
 have Nt:∀a,U' a->¬bo a:=λa ha hb=>hb.elim (λe=>ha.elim (λha=>qE (hh.old _ ha).1 (e▸xW)) λh=>h.2.2 e) λhb=>hb.elim (λe=>Sm (BJ a ha) e) λhb=>hb.elim (λe=>Sm (R0 (BJ a ha) o6) e) λhb=>
  hb.elim (λh=>h.elim λy h=>absurd (R0 (BJ a ha) o6) (SV.mpr (VT (gy y h.1 a h.2)))) (nS a ha)
 have xD:St 0 dU:=W.frame _ _ _ av λb ω o ho=>uj b o ho;refine loop I D L dU t₂ cells fp P St S' U' bo _ ⟨PH,W,xD,?_,Hx,⟨.inl rfl,.inr (.inl rfl),.inr (.inr (.inl rfl)),λy hy k hk=>.inr (.inr (.inr (.inl ⟨y,hy,hk⟩)))⟩,(λa ha=>.inr (.inr (.inr (.inr ha)))),?_,Nt,?_,(λa ha=>⟨.inr (M7 a ha),M7 a ha⟩),?_,?_,Jc⟩ ?_
 ·intro i v hv;refine aD (hP i v hv) λz hz rz=>?_;refine⟨z,hz,rz.there.mono (λa ha=>?_) λa o ω ho=>uj a o ho⟩;exact NO (uv:=md) (N:=λa=>s.heap.get? a=none) (M:=λa=>(h₂.get? a).isSome=true) (show(if md then S a else U a)\/s.heap.get? a=none from ha.1.1) ha.2 ha.1.2
 ·intro a ha;by_cases hs:onStack A a
  ·refine dd (iE.bE.high hs) λh1 h2 _=>?_;refine oE (Rv.mp (lM.live hh.aq.ns (H6 a hs))) λo ho=>?_;exact⟨by rw[uj a o ho];rfl,h2,λo ho=>S8 _ (h1 a o ho)⟩
  have big:(dU.get? a).isSome=true/\(a=I\/D<=a):=ha.elim (λe=>⟨e▸(Hx _ _ xD).elim λo h=>h.elim λT h=>so h.1,.inl e⟩) λha=>ha.elim (λe=>⟨e▸so Jc,.inr (e▸Rx _)⟩) λha=>
   ha.elim (λe=>⟨e▸Nw.elim λo h=>h.elim λω h=>h.elim λω h=>so h.1,.inr (e▸RS o6)⟩) λha=>ha.elim (λh=>h.elim λy h=>⟨(Bm.call y a h.2).elim λv g=>g.elim λo g=>so g.1,.inr (RS (Ru (TN o6) (gy y h.1 a h.2)))⟩) λh=>absurd h hs
  exact⟨big.1,big.2.elim (λe=>e▸lp) (Ru tC),λo ho=>qE (so (hh.base.cB a o ho)) (big.2.elim (λe=>e▸xW) (BD a))⟩
 ·intro a ha;exact ha.imp id λh=>h.1
 ·intro b hb;by_cases Fx:b=I
  ·exact .inl Fx
  ·exact .inr (Nt b ((jt b hb).1.elim (λe=>absurd e Fx) λh=>h.elim (λh=>.inl (by cases md;exact h;exact hh.sub b h)) λh=>.inr ⟨h,(jt b hb).2,Fx⟩))
 ·have Oq:∀a,s.heap.get? a=none->¬onStack A a:=λa h hs=>qE (H6 a hs) h;refine⟨Sm Kj,λhz=>hz.elim (λe=>Sm o6 e) (Oq D (BD D (Rx _))),λhz=>hz.elim (λe=>Sm (R0 Kj o6) e) (Oq I xW),λy k hk=>?_⟩;rcases CI.all y k hk with⟨h1,_⟩|⟨h1,_⟩
  ·refine oE (ou y k (eX y k h1).2) λv hv=>?_;refine⟨Sm hv.lt,?_⟩;exact λe=>(hh.aq.call y k (eX y k h1).2).elim λv' g=>g.elim λo g=>qE (so g.1) (e▸xW)
  ·exact⟨TA (Ru (TN o6) h1),TA (Ru (R0 Kj (TN o6)) h1)⟩
 ·intro h' t' x v9;have Ii:∀a o,a<D->a≠I->¬onStack A a->h₂.get? a=some o->h'.get? a=some o:=λa o hlt aX bR ho=>x.kc a o (λhc=>hc.elim (Sm hlt) λhc=>hc.elim aX λhc=>hc.elim (λhc=>hc.elim (Sm (R0 hlt o6)) bR) λh=>h.elim λy h=>absurd (R0 hlt o6) (SV.mpr (VT (gy y h.1 a h.2)))) (uj a o ho);have Ni:∀a o,s.heap.get? a=some o->a≠I:=λa o ho e=>qE (so ho) (e▸xW);have FC:∀a o,h₂.get? a=some o->a<D:=λa o ho=>Ss ho;have ks:∀a o,onStack A a->h₂.get? a=some o->∃sl,h'.get? a=some {o with slots:=sl}:=λa o hs ho=>
   x.sk a o hs (Sm (R0 (FC a o ho) o6)) (uj a o ho)
  have ex:Ext A env s.heap h':=⟨λa o ha ho=>by
    have h2:=lM.keep a o ha ho;exact Ii a o (FC a o h2) (Ni a o ho) (λhs=>ha (.inr hs)) h2,λm hm=>by
    refine fh (lM.ns m hm) λo es ep ho hd r=>?_;refine aP hm λo' _ _ jy _=>?_;clear hm;by_cases hs:onStack A env.locals
    ·refine oE (ks _ o hs ho) λsl h1=>?_;exact⟨_,es,ep,h1,hd,r⟩
    ·exact⟨o,es,ep,Ii _ o (FC _ o ho) (Ni _ _ jy) hs ho,hd,r⟩,λa o hs hl ho=>by
    refine oE (lM.fr a o hs hl ho) λsl h1=>?_;refine oE (ks a _ hs h1) λsI h2=>?_;exact⟨sI,h2⟩⟩
  refine oE x.aq.ns λm' iA=>?_;exact hq L D h' t' m' bo (BD L (RS o6)) (TA o6) (BD D (Rx _)) ex (.inr (.inr (.inl rfl))) (.inr (.inl rfl)) v9 tC (R0 tC o6) iA
theorem xH{pos:Pos}{c:Comprehension}{f:Nat->List PV}{use:Option (Rz->Sem Unit)}
  (cH:∀g∈c::cs,g.is_async=0/\∀env x,R8 g.iter env x=pure x) (hs:bB scope env) (h1:dw C env Γ c.iter md xs)
  (hT:∀L cells,Tn C (CE scope env L cells) (n8 scope) elt dp c cs (inner scope Γ) md xs f) (aF:((RG xs.length).flatMap f).length<=2^24)
  {S:RD->Prop} {s:Ro} {Q:Rz->Ro->Prop}  (hr:aB C A) (hh:Here C A S U env Γ s.heap)
  (hq:∀L D h' t' m,s.heap.get? L=none->L≠D->s.heap.get? D=none->Ext A env s.heap h'->(∀n vs,h'.get? D=some (gN vs n)->∃cW,ar C (λa=>dp=0/\(S a\/s.heap.get? a=none)/\a≠L/\a≠D) h' dp vs ((RG xs.length).flatMap f) cW/\(D::cW).Nodup/\∀a∈cW,s.heap.get? a=none/\Rt<a/\a≠L)->(∃n vs,h'.get? D=some (gN vs n))->Rt<D->Rt<L->h'.Ns L m->
   compPost (RF C.prog C.w) A E use Q (.ref D) L (.ok .next) {s with heap:=h',toks:=t'}):
  RM (RF C.prog C.w) A (comprehension (.ListComp elt (c::cs) scope pos) scope env p (newList []) false (eval c.iter env) use) Q E s:=by
 refine tm (C:=C) (d0:=gN [] 0) rfl (cH c Rm) hs h1 rfl (λh=>V2 h (by show(0:Nat)<=sizeLine;exact RU _)) hr hh
  (λbo D=>q9 C dp (λa=>S a\/s.heap.get? a=none) (λa=>s.heap.get? a=none) bo D ((RG xs.length).flatMap f)) (λI D L h t cells fp P St S' U' bo R b hR=>?_) λL D h' t' m' bo g1 g2 g3 ex Li Kr v9 B3 GC iA=>?_
 ·have main:TR (RF C.prog C.w) A (.compLoop (.ListComp elt (c::cs) scope pos) 0 (.ref I) (.ref D) (CE scope env L cells)) R {s with heap:=h,toks:=t}:=
   yc (C:=C) (n8 scope) (λg hg=>⟨(cH g hg).1,(cH g hg).2 _⟩) cs 0 c rfl (s:={s with heap:=h,toks:=t}) (outs:=[]) hr b (hT L cells) ⟨[],0,b.at_,[],.nil,Sn,λω h=>nomatch h⟩ (Rk (UI (T8 _)) aF) hR
  exact jx (g:=c) rfl (cH c Rm).1 main (b.W.self 0 _ _ _ b.st main)
 ·refine aM v9 λBa n' I1 Hs=>?_;clear v9;refine hq L D h' t' m' g1 g2 g3 ex (λOB HW Dy=>?_) ⟨_,_,I1⟩ B3 GC iA;rw[I1]at Dy;have QF:HW=Ba:=by
   injection Dy with e;injection e with _ _ e;injection e with e _
   have:=congrArg YX e;simpa using this.symm
  subst QF;refine bM Hs λcW f1 f2 f3=>?_;clear Hs;have nL:∀a,¬bo a->a≠L:=λa hb e=>hb (e▸Li);have nD:∀a,¬bo a->a≠D:=λa hb e=>hb (e▸Kr);exact⟨cW,f1.mono (λa ha=>⟨ha.1,ha.2.1,nL a ha.2.2,nD a ha.2.2⟩) (λω ω ω e=>e) (λω ω ω e=>e),RO.mpr ⟨λhm=>nD D (f3 D hm).2.2 rfl,f2⟩,λa ha=>⟨(f3 a ha).1,(f3 a ha).2.1,nL a (f3 a ha).2.2⟩⟩
noncomputable def jl(C:Cx)(env:Env)(Γ:fT)(e:Expr)(dp:Nat)(out:List PV):Prop:=
 ∃elt c cs scope pos,e= .ListComp elt (c::cs) scope pos/\c.is_async=0/\∀ (p:Pos) (use:Option (Rz->Sem Unit)) (A:Sg) (S U:RD->Prop) (s:Ro) (Q:Rz->Ro->Prop) (E:Rz->Ro->Prop),aB C A->Here C A S U env Γ s.heap->
  (∀L D h' t' m,s.heap.get? L=none->L≠D->s.heap.get? D=none->Ext A env s.heap h'->(∀n vs,h'.get? D=some (gN vs n)->∃cW,ar C (λa=>dp=0/\(S a\/s.heap.get? a=none)/\a≠L/\a≠D) h' dp vs out cW/\(D::cW).Nodup/\∀a∈cW,s.heap.get? a=none/\Rt<a/\a≠L)->(∃n vs,h'.get? D=some (gN vs n))->Rt<D->Rt<L->h'.Ns L m->
   compPost (RF C.prog C.w) A E use Q (.ref D) L (.ok .next) {s with heap:=h',toks:=t'})->
  RM (RF C.prog C.w) A (comprehension e scope env p (newList []) false (eval c.iter env) use) Q E s
theorem jl.k{out:List PV}(h:jl C env Γ e dp out):dr C env Γ e (dp+1) (.list out):=by
 refine wm h λelt c cs scope pos zr zw=>?_;clear h;subst zr;refine oA zw λha h=>?_;clear zw;intro A S U s Q E hr hh hq;have k9:(c.is_async !=0)=false:=by rw[ha];rfl
 obtain⟨Gy,it,ifs,as⟩:=c;show RM _ A (comprehension (.ListComp elt (⟨Gy,it,ifs,as⟩::cs) scope pos) scope env _ (newList []) (as !=0) (eval it env)) Q E s;rw[k9];refine h _ none A S U s Q E hr hh λL D h' t' m hL KH hD ex rd fo lp DE hm=>⟨m,hm,λeC zl=>?_⟩;refine jH fo λn vs fo=>?_;refine bM (rd n vs fo) λcW g1 g2 g3=>?_;have kk:∀a o,a≠L->h'.get? a=some o->eC.get? a=some o:=λa o ha ho=>(zl.2 a ha).trans ho;have Bb:Ext A env s.heap eC:=ex.sameBut zl hL (by
  rintro rfl;refine cU hh.aq.ns λm0 o _ _ ho _=>?_;rw[hL]at ho;cases ho)
 refine hq _ eC t' (D::cW) Bb (.list (kk D _ (Td KH) fo) ?_) g2 (λa ha=>?_)
 ·have jt:dp=0->cW=[]:=λhz=>ar.nil_of hz g1;refine g1.gu.mono (λa ha=>⟨ha.1.2.1,?_⟩) (λa o ha ho=>kk a o ha.1.2.2.1 ho) λa ha o ho=>kk a o (g3 a ha).2.2 ho;rw[jt ha.1.1];simpa using ha.1.2.2.2
 ·rcases Rr.mp ha with rfl|ha
  ·exact⟨hD,lp⟩
  ·exact⟨(g3 a ha).1,(g3 a ha).2.1⟩
theorem jl.ev{out:List PV}(h:jl C env Γ e 0 out):Ev C env Γ e md (.list out):=Ev.F1 λA S U s Q E hr hh hq=>
 h.k A S U s Q E hr hh λv h' t' f ex r ω hf=>hq v h' t' ex (r.rd (λa ha=>ha.1) λa ha=>.inr (hf a ha).1)
theorem jl.mk{pos:Pos}{c:Comprehension}{f:Nat->List PV}
  (cH:∀g∈c::cs,g.is_async=0/\∀env x,R8 g.iter env x=pure x) (hs:bB scope env) (h1:dw C env Γ c.iter md xs)
  (hT:∀L cells,Tn C (CE scope env L cells) (n8 scope) elt dp c cs (inner scope Γ) md xs f) (aF:((RG xs.length).flatMap f).length<=2^24):
  jl C env Γ (.ListComp elt (c::cs) scope pos) dp ((RG xs.length).flatMap f):=
 ⟨elt,c,cs,scope,pos,rfl,(cH c Rm).1,λp use A S U s Q E hr hh hq=>xH cH hs h1 hT aF hr hh hq⟩
noncomputable def lS(outer inner:Scope):Bool:=
 inner.kind== .function&&decide (inner.names.map (·.1)).Nodup&&inner.names.all (λx=>x.1 !=("__classdict__":Str))&&
 inner.names.all (λx=>x.2 != .free||(outer.names.lookup x.1==some .cell||outer.names.lookup x.1==some .free))
theorem bB.of{outer:Scope}(h:lS outer scope=true)(hk:∀x,(outer.names.lookup x=some .cell\/outer.names.lookup x=some .free)->env.kindOf x=some .cell\/env.kindOf x=some .free):bB scope env:=by
 simp only[lS,SU,beq_iff_eq,decide_eq_true_eq,Sv,bne_iff_ne,ne_eq,W3]at h;refine⟨h.1.1.1,h.1.1.2,λx hx hf=>hk x.1 ?_,λx hx=>h.1.2 x hx⟩;rcases h.2 x hx with h1|h1
 ·exact absurd hf h1
 ·exact h1
theorem bB.base(h:lS env.scope scope=true):bB scope env:=.of h λω h=>h
theorem gi(L:List α)(F:α->List β):((RG L.length).flatMap λi=>match L[i]? with|some a=>F a|none=>[])=L.flatMap F:=by
 induction L with
 |nil=>rfl
 |cons a r ih=>
  rw[SS,List.range_succ_eq_map,SO,Yo];simp only[List.getElem?_cons_zero,VV,SO];rw[ih]
noncomputable def TurnOk(C:Cx)(env:Env)(own:Str->Prop)(elt:Expr)(dp:Nat)(c:Comprehension)(cs:List Comprehension)(Γ:fT)(md:Bool)(x:PV)(out:List PV):Prop:=
 ∃ns af b,Dp C env Γ c.target md x ns af/\FW Γ af/\(∀y∈ns,own y/\∀e,Γ.lookup y≠some (some e))/\pB C env af c.ifs b/\(b=true->Cl C env own elt dp cs af out)/\(b=false->out=[])
theorem Tn.typed{own:Str->Prop}{c:Comprehension}{L:List α}{g:α->PV}{F:α->List PV}(h:∀a∈L,TurnOk C env own elt dp c cs Γ md (g a) (F a)):
  Tn C env own elt dp c cs Γ md (L.map g) λi=>match L[i]? with|some a=>F a|none=>[]:=λi x hx=>by
 rw[RZ]at hx;cases hl:L[i]? with
 |none=>rw[hl]at hx;cases hx
 |some a=>
  rw[hl]at hx;cases hx;simp only[hl];exact h a (R4 hl)
theorem Cl.typed{own:Str->Prop}{c:Comprehension}{L:List α}{g:α->PV}{F:α->List PV}(h1:dw C env Γ c.iter md (L.map g))
  (h:∀a∈L,TurnOk C env own elt dp c cs Γ md (g a) (F a)):Cl C env own elt dp (c::cs) Γ (L.flatMap F):=
 ⟨md,L.map g,_,h1,Tn.typed h,by rw[Rl,gi]⟩
theorem Cl.emit{own:Str->Prop}{x:PV}(h:mr C env Γ elt dp x):Cl C env own elt dp [] Γ [x]:=⟨x,rfl,h⟩
theorem TurnOk.name{px:Pos}{iter:Expr}{ifs:List Expr}{k:Int}{v:PV}{b:Bool}{out:List PV}
  (gy:scope.names.lookup x=some .local\/scope.names.lookup x=some .cell) (rX:Γ.lookup x=some none) (hT:pB C (CE scope env L cells) ((x,some (bn md,v))::Γ) ifs b)
  (hy:b=true->Cl C (CE scope env L cells) (n8 scope) elt dp cs ((x,some (bn md,v))::Γ) out) (hn:b=false->out=[]) (fe:autoParam (x≠"__classdict__") oA3._auto_1):
  TurnOk C (CE scope env L cells) (n8 scope) elt dp ⟨.Name x px,iter,ifs,k⟩ cs Γ md v out:=
 ⟨[x],_,b,Dp.name (m7 gy) fe,FW.cons (.inl rX),λy hy=>by
  rcases Rq.mp hy with rfl
  exact⟨gy,λe he=>by rw[rX]at he;cases he⟩,hT,hy,hn⟩
theorem jl.lc{pos:Pos}{c:Comprehension}{L:List α}{g:α->PV}{F:α->List PV}
  (h1:dw C env Γ c.iter md (L.map g)) (hs:bB scope env) (hT:∀D cells,∀a∈L,TurnOk C (CE scope env D cells) (n8 scope) elt dp c cs (inner scope Γ) md (g a) (F a))
  (cH:∀g∈c::cs,g.is_async=0/\∀env x,R8 g.iter env x=pure x) (aF:(L.flatMap F).length<=2^24):
  jl C env Γ (.ListComp elt (c::cs) scope pos) dp (L.flatMap F):=by
 have e:((RG (L.map g).length).flatMap λi=>match L[i]? with|some a=>F a|none=>[])=L.flatMap F:=by rw[Rl,gi]
 rw[<-e];exact jl.mk cH hs h1 (λD cells=>Tn.typed (hT D cells)) (by rw[e];exact aF)
theorem dW(L:List α)(h:α->β):(L.flatMap λa=>[h a])=L.map h:=by
 induction L with
 |nil=>rfl
 |cons a r ih=>rw[SO,ih];rfl
theorem jN(L:List α)(p:α->Bool)(h:α->β):(L.flatMap λa=>if p a then [h a]else [])=(L.filter p).map h:=by
 induction L with
 |nil=>rfl
 |cons a r ih=>
  rw[SO,ih,S9];cases p a<;>simp
theorem AA{t i:Expr}{ifs:List Expr}(h:∀env x,R8 i env x=pure x):∀g∈[(⟨t,i,ifs,0⟩:Comprehension)],g.is_async=0/\∀env x,R8 g.iter env x=pure x:=λg hg=>by
 rcases Rq.mp hg with rfl
 exact⟨rfl,h⟩
theorem mU{t i t' i':Expr}{ifs J6:List Expr}(h:∀env x,R8 i env x=pure x)(h':∀env x,R8 i' env x=pure x):∀g∈[(⟨t,i,ifs,0⟩:Comprehension),⟨t',i',J6,0⟩],g.is_async=0/\∀env x,R8 g.iter env x=pure x:=λg hg=>by
 simp only[Rr,RN,or_false]at hg;rcases hg with rfl|rfl
 ·exact⟨rfl,h⟩
 ·exact⟨rfl,h'⟩
theorem jl.map{pos:Pos}{px:Pos}{L:List α}{g h:α->PV}
  (h1:dw C env Γ iter md (L.map g)) (hs:bB scope env) (gy:scope.names.lookup x=some .local\/scope.names.lookup x=some .cell) (rX:(inner scope Γ).lookup x=some none)
  (he:∀D cells,∀a∈L,mr C (CE scope env D cells) ((x,some (bn md,g a))::inner scope Γ) elt dp (h a)) (aF:L.length<=lim)
  (fe:autoParam (x≠"__classdict__") oA3._auto_1) (hf:autoParam (∀env x,R8 iter env x=pure x) oA9._auto_1):
  jl C env Γ (.ListComp elt [⟨.Name x px,iter,[],0⟩] scope pos) dp (L.map h):=by
 rw[<-dW];refine jl.lc h1 hs (λD cells a ha=>TurnOk.name gy rX pB.nil (λω=>Cl.emit (he D cells a ha)) (λh=>by cases h) fe) (AA hf) ?_;rw[dW,Rl];unfold lim at aF;omega
theorem jl.filter{pos:Pos}{px:Pos}{L:List α}{g h:α->PV}{p:α->Bool}
  (h1:dw C env Γ iter md (L.map g)) (hs:bB scope env) (gy:scope.names.lookup x=some .local\/scope.names.lookup x=some .cell) (rX:(inner scope Γ).lookup x=some none)
  (ht:∀D cells,∀a∈L,cX C (CE scope env D cells) ((x,some (bn md,g a))::inner scope Γ) test (p a))
  (he:∀D cells,∀a∈L,p a=true->mr C (CE scope env D cells) ((x,some (bn md,g a))::inner scope Γ) elt dp (h a)) (aF:L.length<=lim)
  (fe:autoParam (x≠"__classdict__") oA3._auto_1) (hf:autoParam (∀env x,R8 iter env x=pure x) oA9._auto_1):
  jl C env Γ (.ListComp elt [⟨.Name x px,iter,[test],0⟩] scope pos) dp ((L.filter p).map h):=by
 rw[<-jN];refine jl.lc h1 hs (λD cells a ha=>TurnOk.name (b:=p a) gy rX (pB.one (ht D cells a ha)) (λhb=>by rw[hb];exact Cl.emit (he D cells a ha hb)) (λhb=>by rw[hb];rfl) fe) (AA hf) ?_;rw[jN,Rl];have:=T7 p L;unfold lim at aF;omega
theorem cX.val{b:Bool}(h:Ev C env Γ e md (.bool b))(hi:autoParam (∀env whole,isTrue e env whole=(do let v ←whole;standAt e.pos;holding [v] (truthy v))) oA9._auto_1):cX C env Γ e b:=λA S U s Q E hr hh hq=>
 wpAny_isTrue_value (h A S U s _ E hr hh λv h' t' e rd=>by
  cases rd.bool_inv;exact Vo (hq h' t' e)) (hi _ _)
noncomputable def gv(C:Cx)(env:Env)(Γ:fT)(op:BoolOp)(es:List Expr)(b:Bool):Prop:=
 ∀ (A:Sg) (S U:RD->Prop) (s:Ro) (Q:Bool->Ro->Prop) (E:Rz->Ro->Prop),aB C A->Here C A S U env Γ s.heap->
  (∀h' t',Ext A env s.heap h'->Q b {s with heap:=h',toks:=t'})->RM (RF C.prog C.w) A (allTrue op es env) Q E s
theorem gv.and_nil:gv C env Γ .And [] true:=λA S U s Q E hr hh hq=>wpAny_allTrue_And_nil (hq s.heap s.toks (.refl _ _ _))
theorem gv.or_nil:gv C env Γ .Or [] false:=λA S U s Q E hr hh hq=>Yr (hq s.heap s.toks (.refl _ _ _))
theorem gv.and{x:Expr}{a b:Bool}(h1:cX C env Γ x a)(h2:a=true->gv C env Γ .And es b):gv C env Γ .And (x::es) (a&&b):=λA S U s Q E hr hh hq=>
 wpAny_allTrue_And_cons (h1 A S U s _ E hr hh λh' t' e=>by
  cases a with
  |true=>exact h2 rfl A S U _ _ E hr (hh.ext e) λeC gV e'=>hq eC gV (e.trans e')
  |false=>exact hq h' t' e)
theorem gv.or{x:Expr}{a b:Bool}(h1:cX C env Γ x a)(h2:a=false->gv C env Γ .Or es b):gv C env Γ .Or (x::es) (a||b):=λA S U s Q E hr hh hq=>
 Yg (h1 A S U s _ E hr hh λh' t' e=>by
  cases a with
  |true=>exact hq h' t' e
  |false=>exact h2 rfl A S U _ _ E hr (hh.ext e) λeC gV e'=>hq eC gV (e.trans e'))
theorem cX.bools{op:BoolOp}{b:Bool}(h:gv C env Γ op es b):cX C env Γ (.BoolOp op es p) b:=λA S U s Q E hr hh hq=>
 YF (h A S U s Q E hr hh hq)
theorem cX.Lm{x y:Expr}{a b:Bool}(h1:cX C env Γ x a)(h2:a=true->cX C env Γ y b):cX C env Γ (.BoolOp .And [x,y] p) (a&&b):=by
 have:=cX.bools (p:=p) (gv.and h1 λha=>gv.and (h2 ha) λω=>gv.and_nil);simpa using this
theorem cX.NS{x y:Expr}{a b:Bool}(h1:cX C env Γ x a)(h2:a=false->cX C env Γ y b):cX C env Γ (.BoolOp .Or [x,y] p) (a||b):=by
 have:=cX.bools (p:=p) (gv.or h1 λha=>gv.or (h2 ha) λω=>gv.or_nil);simpa using this
theorem Ev.ite{t x y:Expr}{b:Bool}{f:α->PV}{u v:α}(ht:cX C env Γ t b)(hx:b=true->Ev C env Γ x md (f u))(hy:b=false->Ev C env Γ y md (f v)):Ev C env Γ (.IfExp t x y p) md (f (if b then u else v)):=λA S U s Q E hr hh hq=>
 wpAny_IfExp (ht A S U s _ E hr hh λh' t' e=>by
  cases b with
  |true=>exact hx rfl A S U _ Q E hr (hh.ext e) λv eC gV e' rd=>hq v eC gV (e.trans e') (rd.mono (λa ha=>ha.imp id (e.fresh hh.aq.ns)) λω ω ω z=>z)
  |false=>exact hy rfl A S U _ Q E hr (hh.ext e) λv eC gV e' rd=>hq v eC gV (e.trans e') (rd.mono (λa ha=>ha.imp id (e.fresh hh.aq.ns)) λω ω ω z=>z))
theorem Ev.neg{i:Int}(h:Ev C env Γ e m1 (.int i)):Ev C env Γ (.UnaryOp .USub e p) md (.int (-i)):=λA S U s Q E hr hh hq=>
 wpAny_UnaryOp (h A S U s _ E hr hh λv h' t' e rd=>by
  refine oE rd.int_inv λt zr=>?_;subst zr;exact Ze (hq _ h' _ e (.int _ _)))
noncomputable abbrev ag:=List (Str×Option (Nat×PV))
noncomputable def ax(A:Sg)(env:Env)(a:RD):Prop:=Fz A env a\/∃x,env.cells.lookup x=some a
structure At(C:Cx)(A:Sg)(env:Env)(S:RD->Prop)(fp:Str->List RD)(Γ:ag)(h:Heap):Prop where
 cx:C.Ok
 base:Base C h
 aq:bH C h env
 bE:fc C A h
 aO:∀a,S a->(h.get? a).isSome=true/\¬ax A env a/\∀x,a∉fp x
 cZ:∀x y a,a∈fp x->a∈fp y->x=y
 c9:∀x,(fp x).Nodup
 fold:∀x a,a∈fp x->(h.get? a).isSome=true/\¬ax A env a/\Rt<a/\∀o,C.K.lookup a≠some o
 vars:∀x n pv,Γ.lookup x=some (some (n,pv))->aA (env.kindOf x)=true/\∃v,aZ h env x v/\aC C S h n v pv (fp x)
structure iD where
 S:RD->Prop
 fp:Str->List RD
 s:Ro
variable{o:iD}
structure Step(A:Sg)(env:Env)(o:iD)(S:RD->Prop)(fp:Str->List RD)(s:Ro):Prop where
 same:∃h t,s={o.s with heap:=h,toks:=t}
 grow:∀a,o.S a->S a
 mu:∀a,S a->o.S a\/(∃y,a∈o.fp y)\/o.s.heap.get? a=none
 mw:∀x a,a∈fp x->(∃y,a∈o.fp y)\/o.s.heap.get? a=none
 keep:∀a b,¬ax A env a->(∀y,a∉o.fp y)->o.s.heap.get? a=some b->s.heap.get? a=some b
 live:∀a,(o.s.heap.get? a).isSome=true->(s.heap.get? a).isSome=true
 fr:Sk A env o.s.heap s.heap
theorem Step.refl(A:Sg)(env:Env)(S:RD->Prop)(fp:Str->List RD)(s:Ro):Step A env ⟨S,fp,s⟩ S fp s:=
 ⟨⟨s.heap,s.toks,rfl⟩,λω h=>h,λω h=>.inl h,λx a h=>.inl ⟨x,h⟩,λω ω ω ω e=>e,λω h=>h,Sk.refl _⟩
theorem Step.trans{S:RD->Prop}{fp ed:Str->List RD}{s:Ro}(x:Step A env o S fp s)(y:Step A env ⟨S,fp,s⟩ S' ed s'):Step A env o S' ed s':=by
 have hf:∀a,s.heap.get? a=none->o.s.heap.get? a=none:=λa ha=>by
  cases hq:o.s.heap.get? a with
  |none=>rfl
  |some b=>have:=x.live a (by rw[hq];rfl);rw[ha]at this;cases this
 refine jH x.same λh t e=>?_;refine jH y.same λh' t' e'=>?_;have OC:s'={s with heap:=h',toks:=t'}:=e';refine⟨⟨h',t',by rw[OC,e]⟩,λa ha=>y.grow a (x.grow a ha),λa ha=>?_,λz a ha=>?_,λa b hF hn ho=>?_,λa ha=>y.live a (x.live a ha),x.fr.trans y.fr⟩
 ·rcases y.mu a ha with h|⟨z,h⟩|h
  ·exact x.mu a h
  ·exact .inr (x.mw z a h)
  ·exact .inr (.inr (hf a h))
 ·rcases y.mw z a ha with⟨w,h⟩|h
  ·exact x.mw w a h
  ·exact .inr (hf a h)
 ·refine y.keep a b hF (λw hw=>?_) (x.keep a b hF hn ho);rcases x.mw w a hw with⟨v,h⟩|h
  ·exact hn v h
  ·rw[ho]at h;cases h
inductive aV(C:Cx)(A:Sg)(env:Env)(o:iD)(Γ:ag)(s:Ro):Prop
 |mk (S:RD->Prop) (fp:Str->List RD):At C A env S fp Γ s.heap->Step A env o S fp s->aV C A env o Γ s
theorem aV.of{Γ:ag}{s:Ro}{S:RD->Prop}{fp:Str->List RD}(h:At C A env S fp Γ s.heap/\Step A env o S fp s):aV C A env o Γ s:=⟨S,fp,h.1,h.2⟩
noncomputable def dY(Γ af:ag):Prop:=∀y e,Γ.lookup y=some (some e)->af.lookup y=some (some e)
theorem aV.weak{Γ af:ag}{s:Ro}(x:aV C A env o af s)(h:dY Γ af):aV C A env o Γ s:=
 x.casesOn λS fp a b=>⟨S,fp,{cx:=a.cx,base:=a.base,aq:=a.aq,bE:=a.bE,aO:=a.aO,cZ:=a.cZ,c9:=a.c9,fold:=a.fold,vars:=λy n pv hy=>a.vars y n pv (h y _ hy)},b⟩
noncomputable abbrev cv(Γ:ag):fT:=Γ
section
variable{S:RD->Prop}{fp:Str->List RD}{Γ:ag}
noncomputable def qh(A:Sg)(env:Env)(h:Heap)(a:RD):Prop:=(h.get? a).isSome=true/\¬ax A env a
theorem aC.GR{x:PV}{fp:List RD}(hf:∀a∈fp,U a)(r:aC C S h 1 v x fp):A3 C S U h v x:=by
 cases r with
 |list ho rs=>exact⟨_,_,_,rfl,hf _ Rm,ho,(ar.oo rs).1⟩
 |dict hl hd rs=>exact⟨_,_,rfl,hf _ Rm,hl,hd,(ar.oo rs).1⟩
 |aK hs=>trivial
 |ay hs e=>trivial
 |set hs hn=>trivial
 |i6 h1 h2 h3=>trivial
theorem At.here(x:At C A env S fp Γ h):Here C A S (qh A env h) env (cv Γ) h where
 cx:=x.cx
 base:=x.base
 aq:=x.aq
 bE:=x.bE
 sub:=λa ha=>⟨(x.aO a ha).1,(x.aO a ha).2.1⟩
 old:=λa ha=>⟨ha.1,λe=>ha.2 (.inl e),λy c hc e=>ha.2 (.inr ⟨y,by rw[e];exact hc⟩)⟩
 has:=λy n pv hl hv=>by
  refine ei (x.vars y n pv hl) λ_ v h2 h3=>?_;have Jo:∀a,S a->qh A env h a:=λa ha=>⟨(x.aO a ha).1,(x.aO a ha).2.1⟩;have NM:∀a∈fp y,qh A env h a:=λa ha=>⟨(x.fold y a ha).1,(x.fold y a ha).2.1⟩;refine⟨v,h2,?_,λhn=>?_⟩
  ·cases n with
   |zero=>exact h3.zero.1
   |succ n=>exact h3.rd Jo NM
  ·subst hn;exact h3.GR NM
theorem At.ext(x:At C A env S fp Γ h)(e:Ext A env h h')(N:RD->Prop)(hN:∀a,N a->h.get? a=none/\(h'.get? a).isSome=true):At C A env (λa=>S a\/N a) fp Γ h' where
 cx:=x.cx
 base:=x.base.ext e x.bE x.aq
 aq:=x.aq.ext x.bE e
 bE:=x.bE.ext x.aq.ns e
 aO:=λa ha=>by
  rcases ha with ha|ha
  ·refine dd (x.aO a ha) λh1 h2 h3=>?_;exact⟨e.live x.aq.ns h1,h2,h3⟩
  ·refine oA (hN a ha) λh1 h2=>?_;refine⟨h2,λhf=>?_,λy hy=>?_⟩
   ·rcases hf with hz|⟨y,hc⟩
    ·have:=Fz.there x.here hz;rw[h1]at this;cases this
    ·refine aM (x.aq.call y a hc) λv o ho _=>?_;rw[h1]at ho;cases ho
   ·have:=(x.fold y a hy).1;rw[h1]at this;cases this
 cZ:=x.cZ
 c9:=x.c9
 fold:=λy a ha=>⟨e.live x.aq.ns (x.fold y a ha).1,(x.fold y a ha).2⟩
 vars:=λy n pv hy=>by
  refine ei (x.vars y n pv hy) λh0 v h1 h2=>?_;exact⟨h0,v,h1.ext x.aq x.bE e,h2.mono (λω z=>.inl z) (λa o ha ho=>e.keep a o (λq=>(x.aO a ha).2.1 (.inl q)) ho) λa ha o ho=>e.keep a o (λq=>(x.fold y a ha).2.1 (.inl q)) ho⟩
end
section
variable{S:RD->Prop}{fp:Str->List RD}{Γ:ag}{h₂:Heap}
theorem Base.move(hb:Base C h)(B:RD->Prop)(hk:∀a o,¬B a->h.get? a=some o->h₁.get? a=some o)(hB:∀a,B a->Rt<a/\∀o,C.K.lookup a≠some o):Base C h₁:=by
 have xp:∀ {a:RD} {m},a<=Rt->h.Ns a m->h₁.Ns a m:=λ{a m} ha hn=>by
  refine aP hn λo es ep ho r=>?_;clear hn;exact⟨o,es,ep,hk a o (λhb=>absurd ha (Vf.mpr (hB a hb).1)) ho,r⟩
 refine⟨λa o e=>hk a o (λhb=>(hB a hb).2 o e) (hb.cB a o e),?_,?_,?_⟩
 ·refine aD hb.nolimit λmc h1 h2=>?_;exact⟨mc,xp (by decide) h1,h2⟩
 ·refine aD hb.o3 λmb h1 h2=>?_;exact⟨mb,xp (by decide) h1,h2⟩
 ·refine aD hb.nodigits λmc h1 h2=>?_;exact⟨mc,xp (by decide) h1,h2⟩
theorem bH.mX(ek:bH C h env)(fx:fc C A h):∀a,ax A env a->Rt<a/\∀o,C.K.lookup a≠some o:=λa ha=>by
 rcases ha with hz|⟨y,hc⟩
 ·exact⟨(fx.low ek hz).2,λo ho=>S8 _ ((fx.low ek hz).1 a o ho)⟩
 ·exact⟨(ek.dB y a hc).1,λo ho=>(ek.dB y a hc).2 a o ho rfl⟩
theorem bH.frame_there(ek:bH C h env)(fx:fc C A h):∀a,ax A env a->(h.get? a).isSome=true:=λa ha=>by
 rcases ha with hz|⟨y,hc⟩
 ·exact Bk.there ⟨ek.ns,fx⟩ hz
 ·refine aM (ek.call y a hc) λv o ho _=>?_;rw[ho];rfl
theorem jA.sk{ns:List Str}(kx:jA env ns h h₁)(ek:bH C h env)(fx:fc C A h):Sk A env h h₁:=.of_keep λa o hs hl ho=>kx.keep a o hl (λy ω hc=>by
 refine aM (ek.call y a hc) λu o2 sF FE=>?_;exact fx.ne sF (by rw[FE];nofun) hs) ho
theorem jA.off{ns:List Str}(kx:jA env ns h h₁):∀a o,¬ax A env a->h.get? a=some o->h₁.get? a=some o:=λa o ha ho=>
 kx.keep a o (λe=>ha (.inl (.inl e))) (λy ω hc=>ha (.inr ⟨y,hc⟩)) ho
theorem At.put(hA:At C A env S fp Γ h)(e:Ext A env h h₁)(X:RD->Prop){n:Nat}{pv:PV}{R:RD->Prop}(r:aC C R h₁ n v pv f)
  (hR:∀a,R a->(h₁.get? a).isSome=true->(S a\/(h.get? a=none/\¬X a))/\a∉f) (aG:f.Nodup) (hf:∀a∈f,h.get? a=none/\Rt<a) (hk:aA (env.kindOf x)=true)
  (ek:bH C h₂ env) (hx:aZ h₂ env x v) (hy:∀y u,y≠x->aZ h₁ env y u->aZ h₂ env y u) (kx:jA env [x] h₁ h₂):
  At C A env (λa=>S a\/(h.get? a=none/\(h₁.get? a).isSome=true/\a∉f/\¬X a)) (λy=>if y=x then f else fp y) ((x,some (n,pv))::Γ) h₂:=by
 have nF:∀a,h.get? a=none->¬ax A env a:=λa ha du=>by
  have:=hA.aq.frame_there hA.bE a du;rw[ha]at this;cases this
 have live:∀a,(h.get? a).isSome=true->(h₂.get? a).isSome=true:=λa ha=>kx.live a (e.live hA.aq.ns ha);have EM:∀a y,h.get? a=none->a∉fp y:=λa y ha hm=>by
  have:=(hA.fold y a hm).1;rw[ha]at this;cases this
 have oM:∀a o,¬ax A env a->h₁.get? a=some o->h₂.get? a=some o:=kx.off;have e1:=hA.aq.ext hA.bE e;have f1:=hA.bE.ext hA.aq.ns e;refine{cx:=hA.cx,base:=(hA.base.ext e hA.bE hA.aq).move (ax A env) oM (e1.mX f1),aq:=ek,bE:=f1.sk ek.ns (kx.sk e1 f1),aO:=λa ha=>?_,cZ:=λy z a hy hz=>?_,c9:=λy=>?_,fold:=λy a ha=>?_,vars:=λy m q hl=>?_}
 ·rcases ha with ha|⟨h1,h2,h3,_⟩
  ·refine dd (hA.aO a ha) λg1 g2 g3=>?_;refine⟨live a g1,g2,λy hm=>?_⟩;by_cases iT:y=x
   ·simp only[iT,if_true]at hm;rw[(hf a hm).1]at g1;cases g1
   ·simp only[iT,if_false]at hm;exact g3 y hm
  ·refine⟨kx.live a h2,nF a h1,λy hm=>?_⟩;by_cases iT:y=x
   ·simp only[iT,if_true]at hm;exact h3 hm
   ·simp only[iT,if_false]at hm;exact EM a y h1 hm
 ·by_cases h1:y=x<;>by_cases h2:z=x
  ·rw[h1,h2]
  ·simp only[h1,h2,if_true,if_false]at hy hz;exact absurd hz (EM a z (hf a hy).1)
  ·simp only[h1,h2,if_true,if_false]at hy hz;exact absurd hy (EM a y (hf a hz).1)
  ·simp only[h1,h2,if_false]at hy hz;exact hA.cZ y z a hy hz
 ·by_cases h1:y=x
  ·simp only[h1,if_true];exact aG
  ·simp only[h1,if_false];exact hA.c9 y
 ·by_cases h1:y=x
  ·simp only[h1,if_true]at ha;refine⟨kx.live a (r.there a ha),nF a (hf a ha).1,(hf a ha).2,λo ho=>?_⟩;have:=hA.base.cB a o ho;rw[(hf a ha).1]at this;cases this
  ·simp only[h1,if_false]at ha;exact⟨live a (hA.fold y a ha).1,(hA.fold y a ha).2⟩
 ·rw[RB]at hl;cases hb:y==x with
  |true=>
   rw[hb]at hl;cases hl;have iT:y=x:=beq_iff_eq.mp hb;subst iT;refine⟨hk,v,hx,?_⟩;simp only[if_true];have nR:∀a,(R a/\(h₁.get? a).isSome=true)->¬ax A env a:=λa ha=>by
    rcases(hR a ha.1 ha.2).1 with h|h
    ·exact(hA.aO a h).2.1
    ·exact nF a h.1
   refine r.gu.mono (λa ha=>?_) (λa o ha ho=>oM a o (nR a ha) ho) λa ha o ho=>oM a o (nF a (hf a ha).1) ho;refine oA (hR a ha.1 ha.2) λh1 h2=>?_;rcases h1 with h1|h1
   ·exact .inl h1
   ·exact .inr ⟨h1.1,ha.2,h2,h1.2⟩
  |false=>
   rw[hb]at hl;have aX:y≠x:=by simpa using hb
   refine ei (hA.vars y m q hl) λh0 u h1 h2=>?_;refine⟨h0,u,hy y u aX (h1.ext hA.aq hA.bE e),?_⟩;simp only[aX,if_false];refine h2.mono (λa ha=>.inl ha) (λa o ha ho=>?_) λa ha o ho=>?_
   ·have hn:=(hA.aO a ha).2.1;exact oM a o hn (e.keep a o (λq=>hn (.inl q)) ho)
   ·have hn:=(hA.fold y a ha).2.1;exact oM a o hn (e.keep a o (λq=>hn (.inl q)) ho)
theorem Step.put{s s':Ro}(av:Step A env o S fp s)(hA:At C A env S fp Γ s.heap)(e:Ext A env s.heap h₁)(X:RD->Prop)(hf:∀a∈f,s.heap.get? a=none/\Rt<a)
  (kx:jA env [x] h₁ h₂) (t':Nat):Step A env o (λa=>S a\/(s.heap.get? a=none/\(h₁.get? a).isSome=true/\a∉f/\¬X a)) (λy=>if y=x then f else fp y) {s with heap:=h₂,toks:=t'}:=by
 refine av.trans ⟨⟨h₂,t',rfl⟩,λa ha=>.inl ha,λa ha=>?_,λy a ha=>?_,λa b hF hn ho=>?_,λa ha=>kx.live a (e.live hA.aq.ns ha),e.fr.trans (kx.sk (hA.aq.ext hA.bE e) (hA.bE.ext hA.aq.ns e))⟩
 ·rcases ha with ha|ha
  ·exact .inl ha
  ·exact .inr (.inr ha.1)
 ·by_cases h1:y=x
  ·simp only[h1,if_true]at ha;exact .inr (hf a ha).1
  ·simp only[h1,if_false]at ha;exact .inl ⟨y,ha⟩
 ·exact kx.off a b hF (e.keep a b (λq=>hF (.inl q)) ho)
theorem At.quiet(hA:At C A env S fp Γ h)(B:RD->Prop)(hk:∀a o,¬B a->h.get? a=some o->h₁.get? a=some o)(hB:∀a,B a->Rt<a/\(∀o,C.K.lookup a≠some o)/\¬S a/\¬ax A env a/\∀y,a∉fp y):At C A env S fp Γ h₁:=by
 have hL: ¬B env.locals:=λh=>(hB _ h).2.2.2.1 (.inl (.inl rfl));have hc:∀x c,env.cells.lookup x=some c->¬B c:=λx c hx h=>(hB _ h).2.2.2.1 (.inr ⟨x,hx⟩);have live:∀a,¬B a->(h.get? a).isSome=true->(h₁.get? a).isSome=true:=λa hb ha=>by
  refine oE (Rv.mp ha) λo ho=>?_;rw[hk a o hb ho];rfl
 refine{cx:=hA.cx,base:=hA.base.move B hk λa ha=>⟨(hB a ha).1,(hB a ha).2.1⟩,aq:=hA.aq.move B hk hL hc,bE:=hA.bE.sk (hA.aq.move B hk hL hc).ns (.of_keep λa o hs ω ho=>hk a o (λh=>(hB a h).2.2.2.1 (.inl (.inr hs))) ho),aO:=λa ha=>?_,cZ:=hA.cZ,c9:=hA.c9,fold:=λy a ha=>?_,vars:=λy n pv hy=>?_}
 ·refine oA (hA.aO a ha) λh1 h2=>?_;exact⟨live a (λhb=>(hB a hb).2.2.1 ha) h1,h2⟩
 ·refine oA (hA.fold y a ha) λh1 h2=>?_;exact⟨live a (λhb=>(hB a hb).2.2.2.2 y ha) h1,h2⟩
 ·refine ei (hA.vars y n pv hy) λh0 v h1 h2=>?_;exact⟨h0,v,h1.move B hk hL hc,h2.mono (λω z=>z) (λa o ha ho=>hk a o (λhb=>(hB a hb).2.2.1 ha) ho) λa ha o ho=>hk a o (λhb=>(hB a hb).2.2.2.2 y ha) ho⟩
end
section
variable{Γ:ag}{s:Ro}{Q:Flow->Ro->Prop}
theorem il{f:Rz->Sem Unit}(h:RM M A (f v) (λω=>Q .next) E s):RM M A (assignStores env v none [f]) Q E s:=by
 show RM M A (do assignAll v [f];pure .next) Q E s;exact Rp (show RM M A (f v) _ E s from Sf h (λω ω z=>RK z) λω ω z=>z)
theorem St.pA{n:Nat}{pv:PV}{R:Unit->Ro->Prop}(hr:aB C A)(hA:aV C A env o Γ s)(hE:dr C env (cv Γ) e n pv)(hk:env.kindOf x=some .local\/env.kindOf x=some .cell)(fe:x≠"__classdict__")
  (k:∀s',aV C A env o ((x,some (n,pv))::Γ) s'->R () s'):
  RM (RF C.prog C.w) A (eval e env) (λv s₁=>RM (RF C.prog C.w) A (storeName env x v) R E s₁) E s:=by
 obtain⟨S,fp,hA,av⟩:=hA;refine hE A S _ s _ E hr hA.here λv h' t' f ex r aG hf=>?_;refine cm (C:=C) (hA.aq.ext hA.bE ex) hk fe λeC gV ek h1 h2 kx ω=>?_;have bS:aA (env.kindOf x)=true:=by rcases hk with h|h<;>rw[h]<;>rfl
 refine k _ ⟨_,_,hA.put ex (λω=>False) r (λa ha hs=>⟨?_,ha.2⟩) aG hf bS ek h1 h2 kx,Step.put (s':=s) av hA ex (λω=>False) hf kx gV⟩;rcases ha.1 with h|h
 ·exact .inl h
 ·exact .inr ⟨h,λh=>h⟩
theorem dr.b9{x:PV}{Γ:fT}(h:Ev C env Γ e true x):dr C env Γ e 0 x:=λA S U s Q E hr hh hq=>
 h A S U s Q E hr hh λv h' t' ex rd=>hq v h' t' [] ex (.val (rd.mono (λa ha=>⟨ha,by simp⟩) λω ω ω z=>z)) Sn (λω h=>nomatch h)
theorem St.assign{pos:Pos}{n:Nat}{pv:PV}(hr:aB C A)(hA:aV C A env o Γ s)(hE:dr C env (cv Γ) e n pv)(hk:env.kindOf x=some .local\/env.kindOf x=some .cell)
  (k:∀s',aV C A env o ((x,some (n,pv))::Γ) s'->RM (RF C.prog C.w) A (execs rest env) Q E s')
  (fe:autoParam (x≠"__classdict__") oA3._auto_1) (hs:autoParam (SR e (some (.Name x px)) pos.line env=pure false) oA1._auto_1):
  RM (RF C.prog C.w) A (execs (.Assign [.Name x px] e pos::rest) env) Q E s:=
 RI (V4 (St.pA hr hA hE hk fe k) hs)
theorem St.cE{px pos:Pos}{out:List PV}(hr:aB C A)(hA:aV C A env o Γ s)(hE:jl C env (cv Γ) e dp out)(hk:env.kindOf x=some .local\/env.kindOf x=some .cell)
  (k:∀s',aV C A env o ((x,some (dp+1,.list out))::Γ) s'->RM (RF C.prog C.w) A (execs rest env) Q E s')
  (fe:autoParam (x≠"__classdict__") oA3._auto_1):
  RM (RF C.prog C.w) A (execs (.Assign [.Name x px] e pos::rest) env) Q E s:=by
 refine RI ?_;refine wm (id hE) λelt c cs scope p zr zw=>?_;subst zr;refine oA zw λha lI=>?_;clear zw;rw[exec_Assign];refine Rp (SJ ?_);have Bb:∃b:Bool,swapsWithSole [.Name x px] (.ListComp elt (c::cs) scope p) pos.line env=pure b:=⟨_,rfl⟩;refine oE Bb λb hb=>?_;clear Bb;rw[hb];refine Rp (RK ?_);cases b with
 |false=>
  simp only[Sx,if_false];have:=St.pA (E:=E) (R:=λω s'=>RM (RF C.prog C.w) A (execs rest env) Q E s') hr hA hE.k hk fe k;refine Rp (Sf this (λv s₁ h₁=>?_) λω ω h=>h);have PS:swappedStores [.Name x px] (.ListComp elt (c::cs) scope p) env=pure none:=rfl;rw[PS];refine Rp (RK ?_);refine il ?_;exact V3 h₁
 |true=>
  simp only[if_true];obtain⟨Gy,it,ifs,as⟩:=c;have k9:(as !=0)=false:=by have:as=0:=ha;rw[this];rfl
  have Fi:evalThenUse (.ListComp elt (⟨Gy,it,ifs,as⟩::cs) scope p) env (λv=>assignAll v ((assignEach [.Name x px] env).map (·.2)))=
    (do let _ ←comprehension (.ListComp elt (⟨Gy,it,ifs,as⟩::cs) scope p) scope env (firstIterPos (⟨Gy,it,ifs,as⟩::cs) p) (newList []) (as !=0) (eval it env) (some λv=>assignAll v ((assignEach [.Name x px] env).map (·.2)))):=rfl
  rw[Fi,k9];obtain⟨S,fp,hA,av⟩:=hA;refine Rp (Rp ?_);refine lI _ _ A S _ s _ E hr hA.here λL D h' t' m hL KH hD ex rd fo lp DE hm=>?_;refine jH fo λn vs fo=>?_;refine bM (rd n vs fo) λcW g1 g2 g3=>?_;show RM _ A (Ve (Expr.Name x px) env (Value.ref D)) _ E _;refine V3 (cm (C:=C) (hA.aq.ext hA.bE ex) hk fe λeC gV ek h1 h2 kx ω=>?_);have bS:aA (env.kindOf x)=true:=by rcases hk with h|h<;>rw[h]<;>rfl
  have jt:dp=0->cW=[]:=λhz=>ar.nil_of hz g1;have du:∀a,s.heap.get? a=none->¬ax A env a:=λa ha du=>by
   have:=hA.aq.frame_there hA.bE a du;rw[ha]at this;cases this
  have Lj:eC.Ns L m:=by
   refine aP hm λo' es ep jy r'=>?_;clear hm;exact⟨o',es,ep,kx.off L o' (du L hL) jy,r'⟩
  refine⟨m,Lj,λbO HB=>?_⟩;refine RK (RK ?_);have JZ:aC C (λa=>(dH true S (qh A env s.heap) s.heap a/\a≠L)/\a∉D::cW) h' (dp+1) (.ref D) (.list out) (D::cW):=
   .list fo (g1.mono (λa ha=>⟨⟨ha.2.1,ha.2.2.1⟩,by rw[jt ha.1];simpa using ha.2.2.2⟩) (λω ω ω e=>e) λω ω ω e=>e)
  have NJ:∀a∈D::cW,s.heap.get? a=none/\Rt<a:=λa ha=>by
   rcases Rr.mp ha with rfl|ha
   ·exact⟨hD,lp⟩
   ·exact⟨(g3 a ha).1,(g3 a ha).2.1⟩
  have yd:=hA.put ex (λa=>a=L) JZ (λa ha hs=>⟨by
   rcases ha.1.1 with h|h
   ·exact .inl h
   ·exact .inr ⟨h,ha.1.2⟩,ha.2⟩) g2 NJ bS ek h1 h2 kx
  have Gc:∀y,L∉(if y=x then D::cW else fp y):=λy hy=>by
   by_cases iT:y=x
   ·simp only[iT,if_true]at hy;rcases Rr.mp hy with h|h
    ·exact KH h
    ·exact(g3 L h).2.2 rfl
   ·simp only[iT,if_false]at hy;have:=(hA.fold y L hy).1;rw[hL]at this;cases this
  have PF:∀a,(S a\/(s.heap.get? a=none/\(h'.get? a).isSome=true/\a∉D::cW/\¬a=L))->a≠L:=λa ha e=>by
   subst e;rcases ha with ha|⟨_,_,_,h⟩
   ·have:=(hA.aO _ ha).1;rw[hL]at this;cases this
   ·exact h rfl
  have vA:∀a o,a≠L->eC.get? a=some o->bO.get? a=some o:=λa o ha ho=>(HB.2 a ha).trans ho;have Nz:=du L hL;have hB:∀a,a=L->Rt<a/\(∀o,C.K.lookup a≠some o)/\¬(S a\/(s.heap.get? a=none/\(h'.get? a).isSome=true/\a∉D::cW/\¬a=L))/\¬ax A env a/\∀y,a∉(if y=x then D::cW else fp y):=by
   rintro a rfl;exact⟨DE,λo ho=>(by have:=hA.base.cB _ o ho;rw[hL]at this;cases this),λh=>PF _ h rfl,Nz,Gc⟩
  refine k _ ⟨_,_,yd.quiet (λa=>a=L) vA hB,av.trans ⟨⟨bO,gV,rfl⟩,λa ha=>.inl ha,λa ha=>?_,λy a ha=>?_,λa b hF hn ho=>?_,λa ha=>?_,(ex.fr.trans (kx.sk (hA.aq.ext hA.bE ex) (hA.bE.ext hA.aq.ns ex))).trans (.of_keep λa o hs ω ho=>vA a o (λe=>Nz (.inl (.inr (e▸hs)))) ho)⟩⟩
  ·rcases ha with ha|ha
   ·exact .inl ha
   ·exact .inr (.inr ha.1)
  ·by_cases h1:y=x
   ·simp only[h1,if_true]at ha;exact .inr (NJ a ha).1
   ·simp only[h1,if_false]at ha;exact .inl ⟨y,ha⟩
  ·exact vA a b (by rintro rfl;rw[hL]at ho;cases ho) (kx.off a b hF (ex.keep a b (λq=>hF (.inl q)) ho))
  ·have h1:=kx.live a (ex.live hA.aq.ns ha);refine oE (Rv.mp h1) λb hb=>?_;rw[vA a b (by rintro rfl;rw[hL]at ha;cases ha) hb];rfl
end
section
variable{prog:Sw}{w:TG}{s:Ro}
theorem wc{l:RD}{n:Nat}(ho:h.get? l=some (gN vs n))(f:Array Rz->Array Rz)(hu:f vs.toArray=us.toArray):∃k,(h.update l (Us f)).get? l=some (gN us k):=by
 refine⟨if(f vs.toArray).size==vs.toArray.size then n else n+1,(Wa _ ho rfl).trans ?_⟩;show some _=some (gN us _);unfold gN;rw[<-hu];rfl
theorem tG{l:RD}{n:Nat}{k:Int}{t:Tok}{Q:Unit->Ro->Prop}(ho:s.heap.get? l=some (gN vs n))
  (h0:0<=k) (iH:k<2^63) (hn:k<vs.length)
  (hQ:∀h' n',h'.get? l=some (gN (vs.set k.toNat v) n')->Ul l s.heap h'->Q () {s with heap:=h'}):
  RM (RF prog w) A (setItem (.ref l) (.int k t) v) Q E s:=by
 have hl:s.heap.IsList l vs.toArray:=⟨_,ho,rfl,n,rfl⟩;unfold setItem
 try with_reducible refine Sr ?_
 first|refine Rp (RK ?_)|skip
 refine Rp (YZ hl.typeIs (by decide) ?_);refine Rp (XU (name:=So "__setitem__") hl.typeIs slot_list_setitem
  (Y' slot_list_setitem hl.typeIs entry_list_setitem ?_ (args_list_setitem _ _ _)))
 show RM _ _ (Builtin.List.listSubscript? (.int k t)>>=_) _ _ s;refine Rp (wpAny_listSubscript_int (fitsIndex_of h0 iH) ?_);clear iH;refine oE (U8 h0) λj zr=>?_;subst zr;have hj:j<vs.toArray.size:=by simp;omega
 have rU:vs.toArray[j]?=some vs.toArray[j]:=Ua hj;show RM _ _ ((seqItemAt l j>>=λr=>pure (r.map (j,·)))>>=_) _ _ s;refine Rp (Rp (wpAny_seqItemAt ho rfl (RK ?_)));rw[rU];show RM _ _ (setSeqItemAt l j v>>=_) _ _ s;refine oE (wc ho (λx=>x.setIfInBounds j v) (us:=vs.set j v) (by simp)) λk hk=>?_;refine Rp (wpAny_setSeqItemAt ho rfl ?_)
 first
  |exact Rp (RK (RK ⟨.none,rfl,RK (hQ _ k hk (UG ..))⟩))
  |exact RK ⟨.none,rfl,RK (hQ _ k hk (UG ..))⟩
end
section
variable{S:RD->Prop}{fp:Str->List RD}{Γ:ag}{s:Ro}
theorem Base.turn(hb:Base C h)(fx:fc C A h)(ek:bH C h env)(B:RD->Prop)(hk:∀a o,¬Fz A env a->¬B a->h.get? a=some o->h₁.get? a=some o)(hB:∀a,B a->Rt<a/\∀o,C.K.lookup a≠some o):Base C h₁:=
 hb.move (λa=>Fz A env a\/B a) (λa o hn e=>hk a o (λh=>hn (.inl h)) (λh=>hn (.inr h)) e) λa ha=>by
  rcases ha with ha|ha
  ·exact⟨(fx.low ek ha).2,λo ho=>S8 _ ((fx.low ek ha).1 _ o ho)⟩
  ·exact hB a ha
theorem bH.turn(ek:bH C h env)(fx:fc C A h)(B:RD->Prop)(hk:∀a o,¬Fz A env a->¬B a->h.get? a=some o->h₁.get? a=some o)(bR:∀m,h.Ns env.locals m->h₁.Ns env.locals m)(hc:∀x c,env.cells.lookup x=some c->¬B c):bH C h₁ env:=
 {kind:=ek.kind,glob:=ek.glob,gY:=ek.gY,apart:=ek.apart,et:=ek.et,below:=ek.below,high:=ek.high,dB:=ek.dB
  ns:=oE ek.ns λm hm=>⟨m,bR m hm⟩
  cell:=λx hx=>uY (ek.cell x hx) λc v h1 o h2 h3=>⟨c,v,h1,o,hk c o (λhz=>hz.elim (ek.et x c h1) (fx.ne h2 (by rw[h3];nofun))) (hc x c h1) h2,h3⟩
  call:=λx c hx=>aM (ek.call x c hx) λv o h2 h3=>⟨v,o,hk c o (λhz=>hz.elim (ek.et x c hx) (fx.ne h2 (by rw[h3];nofun))) (hc x c hx) h2,h3⟩}
theorem aZ.turn(a:aZ h env x u)(ek:bH C h env)(fx:fc C A h)(B:RD->Prop)(hk:∀a o,¬Fz A env a->¬B a->h.get? a=some o->h₁.get? a=some o)(bR:∀m,h.Ns env.locals m->h₁.Ns env.locals m)(hc:∀x c,env.cells.lookup x=some c->¬B c):aZ h₁ env x u:=by
 rcases a with⟨h1,m,h2,h3⟩|⟨h1,h0,c,h2,o,h3,h4⟩
 ·exact .inl ⟨h1,m,bR m h2,h3⟩
 ·exact .inr ⟨h1,h0,c,h2,o,hk c o (λhz=>hz.elim (ek.et x c h2) (fx.ne h3 (by rw[h4];nofun))) (hc x c h2) h3,h4⟩
theorem At.Hw(hA:At C A env S fp Γ s.heap)(av:Step A env o S fp s)(ex:Ext A env s.heap h'){n:Nat}{pv:PV}(bS:aA (env.kindOf x)=true)(hx:aZ s.heap env x v)
  (B:RD->Prop) (hk:∀a b,¬Fz A env a->¬B a->h'.get? a=some b->h₁.get? a=some b) (H4:Sk A env h' h₁) (bR:∀m,h'.Ns env.locals m->h₁.Ns env.locals m) (hB:∀a,B a->a∈fp x) (live:∀a,B a->(h₁.get? a).isSome=true)
  (pj:∀a∈f',a∈fp x\/(s.heap.get? a=none/\Rt<a)) (aG:f'.Nodup)
  (r:aC C (λa=>S a\/(s.heap.get? a=none/\(h₁.get? a).isSome=true/\a∉f')) h₁ n v pv f') (t:Nat):
  At C A env (λa=>S a\/(s.heap.get? a=none/\(h₁.get? a).isSome=true/\a∉f')) (λy=>if y=x then f' else fp y) ((x,some (n,pv))::Γ) h₁/\Step A env o (λa=>S a\/(s.heap.get? a=none/\(h₁.get? a).isSome=true/\a∉f')) (λy=>if y=x then f' else fp y) {s with heap:=h₁,toks:=t}:=by
 have Nd:∀a,s.heap.get? a=none->¬ax A env a:=λa ha du=>by
  have:=hA.aq.frame_there hA.bE a du;rw[ha]at this;cases this
 have EM:∀a y,s.heap.get? a=none->a∉fp y:=λa y ha hm=>by
  have:=(hA.fold y a hm).1;rw[ha]at this;cases this
 have Oy:∀a,B a->Rt<a/\∀o,C.K.lookup a≠some o:=λa ha=>(hA.fold x a (hB a ha)).2.2;have f1:=hA.bE.ext hA.aq.ns ex;have hc:∀y c,env.cells.lookup y=some c->¬B c:=λy c hy hb=>(hA.fold x _ (hB _ hb)).2.1 (.inr ⟨y,hy⟩);have e1:=hA.aq.ext hA.bE ex;have Lc:∀a,(h'.get? a).isSome=true->(h₁.get? a).isSome=true:=λa ha=>by
  by_cases hb:B a
  ·exact live a hb
  ·refine oE (Rv.mp ha) λb iG=>?_;by_cases hl:a=env.locals
   ·subst hl;refine oE e1.ns λm hm=>?_;refine aP (bR m hm) λob _ _ h _=>?_;rw[h];rfl
   ·by_cases hs:onStack A a
    ·refine oE (H4 a b hs hl iG) λsl h1=>?_;rw[h1];rfl
    ·rw[hk a b (λhz=>hz.elim hl hs) hb iG];rfl
 have lv:∀a,(s.heap.get? a).isSome=true->(h₁.get? a).isSome=true:=λa ha=>Lc a (ex.live hA.aq.ns ha);have kk:∀a b,¬ax A env a->¬B a->s.heap.get? a=some b->h₁.get? a=some b:=λa b hf hb ho=>hk a b (λe=>hf (.inl e)) hb (ex.keep a b (λe=>hf (.inl e)) ho);refine⟨{cx:=hA.cx,base:=(hA.base.ext ex hA.bE hA.aq).turn f1 e1 B hk Oy,aq:=e1.turn f1 B hk bR hc,bE:=f1.sk (oE e1.ns λm hm=>⟨m,bR m hm⟩) H4,aO:=λa ha=>?_,cZ:=λy z a hy hz=>?_,c9:=λy=>?_,fold:=λy a ha=>?_,vars:=λy m q hl=>?_},
  av.trans ⟨⟨h₁,t,rfl⟩,λa ha=>.inl ha,λa ha=>ha.imp id λq=>.inr q.1,λy a ha=>?_,λa b hF hn ho=>kk a b hF (λhb=>hn x (hB a hb)) ho,lv,ex.fr.trans H4⟩⟩
 ·rcases ha with ha|⟨h1,h2,h3⟩
  ·refine dd (hA.aO a ha) λg1 g2 g3=>?_;refine⟨lv a g1,g2,λy hm=>?_⟩;by_cases iT:y=x
   ·simp only[iT,if_true]at hm;rcases pj a hm with q|q
    ·exact g3 x q
    ·rw[q.1]at g1;cases g1
   ·simp only[iT,if_false]at hm;exact g3 y hm
  ·refine⟨h2,Nd a h1,λy hm=>?_⟩;by_cases iT:y=x
   ·simp only[iT,if_true]at hm;exact h3 hm
   ·simp only[iT,if_false]at hm;exact EM a y h1 hm
 ·by_cases h1:y=x<;>by_cases h2:z=x
  ·rw[h1,h2]
  ·simp only[h1,h2,if_true,if_false]at hy hz;rcases pj a hy with q|q
   ·rw[h1];exact hA.cZ x z a q hz
   ·exact absurd hz (EM a z q.1)
  ·simp only[h1,h2,if_true,if_false]at hy hz;rcases pj a hz with q|q
   ·rw[h2];exact hA.cZ y x a hy q
   ·exact absurd hy (EM a y q.1)
  ·simp only[h1,h2,if_false]at hy hz;exact hA.cZ y z a hy hz
 ·by_cases h1:y=x
  ·simp only[h1,if_true];exact aG
  ·simp only[h1,if_false];exact hA.c9 y
 ·by_cases h1:y=x
  ·simp only[h1,if_true]at ha;rcases pj a ha with q|q
   ·refine oA (hA.fold x a q) λg1 g2=>?_;exact⟨lv a g1,g2⟩
   ·exact⟨r.there a ha,Nd a q.1,q.2,λo ho=>by
     have:=hA.base.cB a o ho;rw[q.1]at this;cases this⟩
  ·simp only[h1,if_false]at ha;exact⟨lv a (hA.fold y a ha).1,(hA.fold y a ha).2⟩
 ·rw[RB]at hl;cases hb:y==x with
  |true=>
   rw[hb]at hl;cases hl;have iT:y=x:=beq_iff_eq.mp hb;subst iT;refine⟨bS,v,(hx.ext hA.aq hA.bE ex).turn e1 f1 B hk bR hc,?_⟩;simp only[if_true];exact r
  |false=>
   rw[hb]at hl;have aX:y≠x:=by simpa using hb
   refine ei (hA.vars y m q hl) λh0 u h1 h2=>?_;refine⟨h0,u,(h1.ext hA.aq hA.bE ex).turn e1 f1 B hk bR hc,?_⟩;simp only[aX,if_false];refine h2.mono (λa ha=>.inl ha) (λa b ha ho=>?_) λa ha b ho=>?_
   ·refine dd (hA.aO a ha) λ_ g2 g3=>?_;exact kk a b g2 (λhb=>g3 x (hB a hb)) ho
   ·have hn:=(hA.fold y a ha).2.1;exact kk a b hn (λhb=>aX (hA.cZ y x a ha (hB a hb))) ho
 ·by_cases h1:y=x
  ·simp only[h1,if_true]at ha;exact(pj a ha).imp (λq=>⟨x,q⟩) λq=>q.1
  ·simp only[h1,if_false]at ha;exact .inl ⟨y,ha⟩
theorem At.Ar(hA:At C A env S fp Γ s.heap)(av:Step A env o S fp s)(ex:Ext A env s.heap h'){n:Nat}{pv:PV}(bS:aA (env.kindOf x)=true)(hx:aZ s.heap env x v)
  (B:RD->Prop) (hk:∀a b,a≠env.locals->¬B a->h'.get? a=some b->h₁.get? a=some b) (bR:∀m,h'.Ns env.locals m->h₁.Ns env.locals m) (hB:∀a,B a->a∈fp x) (live:∀a,B a->(h₁.get? a).isSome=true)
  (pj:∀a∈f',a∈fp x\/(s.heap.get? a=none/\Rt<a)) (aG:f'.Nodup)
  (r:aC C (λa=>S a\/(s.heap.get? a=none/\(h₁.get? a).isSome=true/\a∉f')) h₁ n v pv f') (t:Nat):
  At C A env (λa=>S a\/(s.heap.get? a=none/\(h₁.get? a).isSome=true/\a∉f')) (λy=>if y=x then f' else fp y) ((x,some (n,pv))::Γ) h₁/\Step A env o (λa=>S a\/(s.heap.get? a=none/\(h₁.get? a).isSome=true/\a∉f')) (λy=>if y=x then f' else fp y) {s with heap:=h₁,toks:=t}:=
 At.Hw hA av ex bS hx B (λa b hz hb=>hk a b (λe=>hz (.inl e)) hb) (.of_keep λa b hs hl ho=>hk a b hl (λhb=>(hA.fold x a (hB a hb)).2.1 (.inl (.inr hs))) ho) bR hB live pj aG r t
theorem aV.Ar(hA:At C A env S fp Γ s.heap)(av:Step A env o S fp s)(ex:Ext A env s.heap h'){n:Nat}{pv:PV}(bS:aA (env.kindOf x)=true)(hx:aZ s.heap env x v)
  (B:RD->Prop) (hk:∀a b,a≠env.locals->¬B a->h'.get? a=some b->h₁.get? a=some b) (bR:∀m,h'.Ns env.locals m->h₁.Ns env.locals m) (hB:∀a,B a->a∈fp x) (live:∀a,B a->(h₁.get? a).isSome=true)
  (pj:∀a∈f',a∈fp x\/(s.heap.get? a=none/\Rt<a)) (aG:f'.Nodup)
  (r:aC C (λa=>S a\/(s.heap.get? a=none/\(h'.get? a).isSome=true/\a∉f')) h₁ n v pv f') (t:Nat):
  aV C A env o ((x,some (n,pv))::Γ) {s with heap:=h₁,toks:=t}:=by
 refine .of (At.Ar hA av ex bS hx B hk bR hB live pj aG (r.mono (λa ha=>ha.imp id λq=>⟨q.1,?_,q.2.2⟩) (λω ω ω e=>e) λω ω ω e=>e) t);by_cases hb:B a
 ·exact live a hb
 ·by_cases hl:a=env.locals
  ·subst hl;refine oE ((hA.aq.ext hA.bE ex).ns) λm hm=>?_;refine aP (bR m hm) λob _ _ h _=>?_;rw[h];rfl
  ·refine oE (Rv.mp q.2.1) λb iG=>?_;rw[hk a b hl hb iG];rfl
theorem aV.upd(hA:At C A env S fp Γ s.heap)(av:Step A env o S fp s)(ex:Ext A env s.heap h'){n:Nat}{pv:PV}(bS:aA (env.kindOf x)=true)(hx:aZ s.heap env x v)
  (B:RD->Prop) (hk:∀a b,¬B a->h'.get? a=some b->h₁.get? a=some b) (hB:∀a,B a->a∈fp x) (live:∀a,B a->(h₁.get? a).isSome=true)
  (pj:∀a∈f',a∈fp x\/(s.heap.get? a=none/\Rt<a)) (aG:f'.Nodup)
  (r:aC C (λa=>S a\/(s.heap.get? a=none/\(h'.get? a).isSome=true/\a∉f')) h₁ n v pv f') (t:Nat):
  aV C A env o ((x,some (n,pv))::Γ) {s with heap:=h₁,toks:=t}:=
 aV.Ar hA av ex bS hx B (λa b ω=>hk a b) (λm ⟨ob,es,ep,ho,r⟩=>⟨ob,es,ep,hk _ ob (λhb=>(hA.fold x _ (hB _ hb)).2.1 (.inl (.inl rfl))) ho,r⟩) hB live pj aG r t
theorem aV.freeze{n:Nat}{pv:PV}(hA:aV C A env o Γ s)(hx:Γ.lookup x=some (some (n,pv))):aV C A env o ((x,some (0,pv))::Γ) s:=by
 obtain⟨S,fp,hA,av⟩:=hA;refine ei (hA.vars x n pv hx) λhk v hv r=>?_;refine⟨λa=>S a\/a∈fp x,λy=>if y=x then []else fp y,{cx:=hA.cx,base:=hA.base,aq:=hA.aq,bE:=hA.bE,aO:=λa ha=>?_,cZ:=λy z a hy hz=>?_,c9:=λy=>?_,fold:=λy a ha=>?_,vars:=λy m q hl=>?_},
  av.trans ⟨⟨s.heap,s.toks,rfl⟩,λa ha=>.inl ha,λa ha=>?_,λy a ha=>?_,λa b hF hn ho=>ho,λa ha=>ha,Sk.refl _⟩⟩
 ·rcases ha with ha|ha
  ·refine dd (hA.aO a ha) λg1 g2 g3=>?_;refine⟨g1,g2,λy hm=>?_⟩;by_cases iT:y=x
   ·simp[iT]at hm
   ·simp only[iT,if_false]at hm;exact g3 y hm
  ·refine dd (hA.fold x a ha) λg1 g2 _=>?_;refine⟨g1,g2,λy hm=>?_⟩;by_cases iT:y=x
   ·simp[iT]at hm
   ·simp only[iT,if_false]at hm;exact iT (hA.cZ y x a hm ha)
 ·by_cases h1:y=x
  ·simp[h1]at hy
  ·by_cases h2:z=x
   ·simp[h2]at hz
   ·simp only[h1,h2,if_false]at hy hz;exact hA.cZ y z a hy hz
 ·by_cases h1:y=x
  ·simp[h1]
  ·simp only[h1,if_false];exact hA.c9 y
 ·by_cases h1:y=x
  ·simp[h1]at ha
  ·simp only[h1,if_false]at ha;exact hA.fold y a ha
 ·rw[RB]at hl;cases hb:y==x with
  |true=>
   rw[hb]at hl;cases hl;have iT:y=x:=beq_iff_eq.mp hb;subst iT;refine⟨hk,v,hv,?_⟩;simp only[if_true];exact .val (r.rd (λa ha=>.inl ha) λa ha=>.inr ha)
  |false=>
   rw[hb]at hl;have aX:y≠x:=by simpa using hb
   refine ei (hA.vars y m q hl) λh0 u h1 h2=>?_;refine⟨h0,u,h1,?_⟩;simp only[aX,if_false];exact h2.mono (λa ha=>.inl ha) (λa b ha ho=>ho) λa ha b ho=>ho
 ·exact ha.imp id λq=>.inl ⟨x,q⟩
 ·by_cases h1:y=x
  ·simp[h1]at ha
  ·simp only[h1,if_false]at ha;exact .inl ⟨y,ha⟩
end
section
variable{S:RD->Prop}
theorem aC.list1(r:aC C S h 1 v (.list xs) f):∃a vs n,v= .ref a/\f=[a]/\h.get? a=some (gN vs n)/\ab C.prog C.w S h vs xs:=by
 refine nA r.view λa vs m cW e ef ho rs=>?_;exact⟨a,vs,m,e,by rw[ef,rs.oo.2],ho,rs.oo.1⟩
theorem aC.Ie(r:aC C S h 1 v (.dict kvs) f):∃a vs,v= .ref a/\f=[a]/\Rt<a/\h.DictOf (aw C.prog C.w) a ((kvs.map (·.1)).zip vs)/\ab C.prog C.w S h vs (kvs.map (·.2)):=by
 refine zh r.view λa vs cW e ef hl hd rs=>?_;exact⟨a,vs,e,by rw[ef,rs.oo.2],hl,hd,rs.oo.1⟩
end
noncomputable def sW(C:Cx)(env:Env)(Γ:ag)(e:Expr)(x:Str)(d9:Nat)(q:PV)(upd:PV->PV):Prop:=
 ∀ (A:Sg) (S:RD->Prop) (fp:Str->List RD) (s:Ro) (Q:Rz->Ro->Prop) (E:Rz->Ro->Prop),aB C A->At C A env S fp Γ s.heap->
  (∀a h' t' v,Ext A env s.heap h'->aA (env.kindOf x)=true->aZ s.heap env x v->a∈fp x->aC C S h' 1 (.ref a) q [a]->
   (∀h₁ q' (S':RD->Prop),(∀b,S b->S' b)->(∀b o,b≠a->(S b\/b∈fp x)->h'.get? b=some o->h₁.get? b=some o)->aC C S' h₁ 1 (.ref a) q' [a]->aC C S' h₁ d9 v (upd q') (fp x))->
   Q (.ref a) {s with heap:=h',toks:=t'})->
  RM (RF C.prog C.w) A (eval e env) Q E s
section
variable{Γ:ag}
theorem sW.list(hx:Γ.lookup x=some (some (1,.list xs)))(hd:autoParam (bk x) oA1._auto_1):sW C env Γ (.Name x p) x 1 (.list xs) id:=λA S fp s Q E hr hA hq=>by
 refine ei (hA.vars x 1 _ hx) λhk v hv r=>?_;refine Sz (ao hA.aq hv ?_) hd;refine aP r.list1 λa vs n zr zw=>?_;subst zr;refine dd zw λhf ho rs=>?_;clear zw;exact hq a s.heap s.toks _ (.refl _ _ _) hk hv (by rw[hf];simp) (by rw[hf]at r;exact r) λh₁ q' S' hS hk r'=>by rw[hf];exact r'
theorem sW.item{i:Expr}{k:Int}{q:PV}(hx:Γ.lookup x=some (some (2,.list xs)))(hi:Ev C env (cv Γ) i true (.int k))(h0:0<=k)(Du:k<2^63)(EH:xs[k.toNat]?=some q)
  (G1:∃ys,q= .list ys) (hd:autoParam (bk x) oA1._auto_1) (eY:autoParam (kB i) oA7._auto_1):
  sW C env Γ (.Subscript (.Name x p) i p') x 2 q (λq'=>.list (xs.set k.toNat q')):=λA S fp s Q E hr hA hq=>by
 refine ei (hA.vars x 2 _ hx) λhk v hv r=>?_;refine Subscript_ (Sz (ao hA.aq hv ?_) hd);refine hi A S _ s _ E hr hA.here λu h' t' ex rd=>?_;refine oE rd.int_inv λt zr=>?_;subst zr;have aG:=hA.c9 x;have fC:=λa ha=>(hA.fold x a ha).2.1;have FN:∀c,S c->c∉fp x:=λc hc=>(hA.aO c hc).2.2 x;refine cU r.view λa vs n cW zr zw=>?_;subst zr;refine dd zw λhF ho rs=>?_;clear zw;rw[hF]at aG fC hq FN;refine xc (ar.at rs (RO.mp aG).2 EH) λv' f g1 g2 g3 g4 g5=>?_;have jy:h'.get? a=some (gN vs n):=ex.keep a _ (λe=>fC a Rm (.inl e)) ho;obtain⟨ops,vz⟩:=eY (.ref a) (.int k t);refine tail_any (s:={s with heap:=h',toks:=t'}) (T:="list") ⟨_,jy,rfl⟩ slot_list_getitem.lookup ?_ vz;refine WT (bz.bw jy) h0 Du (by simpa using g1) ?_;obtain⟨ys,rfl⟩:=G1;obtain⟨b,us,n',rfl,rfl,hb,rb⟩:=g2.list1;have kF:∀c o,c∈a::cW->s.heap.get? c=some o->h'.get? c=some o:=λc o hc e=>ex.keep c o (λe=>fC c hc (.inl e)) e;have kS:∀c o,S c->s.heap.get? c=some o->h'.get? c=some o:=λc o hc e=>ex.keep c o (λe=>(hA.aO c hc).2.1 (.inl e)) e;have MB:b∈a::cW:=Rn _ (g4 b (by simp));refine hq b h' t' _ ex hk hv MB (.list (kF b _ MB hb) (ar.p9 (rb.mono (λω z=>z) kS))) λh₁ q' S' hS jw r'=>?_;have l7:a≠b:=λe=>(RO.mp aG).1 (by rw[e];exact g4 b (by simp));have CX:∀c,S c->c≠b:=λc hc e=>FN c hc (by rw[e];exact MB);refine .list (jw a _ l7 (.inr Rm) jy) (g5 S' h₁ q' hS (λc o hc e=>jw c o (CX c hc) (.inl hc) (kS c o hc e)) (λc hc PK o e=>jw c o (by simpa using PK) (.inr (Rn _ hc)) (kF c o (Rn _ hc) e)) r')
end
section
variable{S:RD->Prop}{fp:Str->List RD}{Γ:ag}{s:Ro}
theorem At.grow(hA:At C A env S fp Γ s.heap)(av:Step A env o S fp s)(ex:Ext A env s.heap h')(t:Nat):
  ∃S',At C A env S' fp Γ h'/\Step A env o S' fp {s with heap:=h',toks:=t}/\(∀a,S a->S' a)/\∀a,s.heap.get? a=none->(h'.get? a).isSome=true->S' a:=
 ⟨λa=>S a\/(s.heap.get? a=none/\(h'.get? a).isSome=true),hA.ext ex _ (λω h=>h),
  av.trans ⟨⟨h',t,rfl⟩,λa ha=>.inl ha,λa ha=>ha.imp id λq=>.inr q.1,λy a ha=>.inl ⟨y,ha⟩,λa b hF hn ho=>ex.keep a b (λe=>hF (.inl e)) ho,λa ha=>ex.live hA.aq.ns ha,ex.fr⟩,λω h=>.inl h,λω h1 h2=>.inr ⟨h1,h2⟩⟩
theorem aV.ext(x:aV C A env o Γ s)(ex:Ext A env s.heap h')(t:Nat):aV C A env o Γ {s with heap:=h',toks:=t}:=
 let⟨S,fp,hA,av⟩:=x
 let⟨S',h1,h2,_⟩:=hA.grow av ex t
 ⟨S',fp,h1,h2⟩
theorem Rd.grow{pv:PV}(r:Rd C.prog C.w (dH true S U h) h' v pv)(h1:∀a,S a->S' a)(h2:∀a,h.get? a=Option.none->(h'.get? a).isSome=true->S' a):Rd C.prog C.w S' h' v pv:=
 r.there.mono (λa ha=>by
  rcases ha.1 with g|g
  ·exact h1 a g
  ·exact h2 a g ha.2) λω ω ω e=>e
theorem aV.fin(hA:At C A env S fp Γ s.heap)(av:Step A env o S fp s){a:RD}{upd:PV->PV}{eC:Heap}(ex:Ext A env s.heap h')(bS:aA (env.kindOf x)=true)(hx:aZ s.heap env x v)(ha:a∈fp x)
  (yM:∀h₁ q' (S':RD->Prop),(∀b,S b->S' b)->(∀b o,b≠a->(S b\/b∈fp x)->h'.get? b=some o->h₁.get? b=some o)->aC C S' h₁ 1 (.ref a) q' [a]->aC C S' h₁ d9 v (upd q') (fp x))
  (c7:Ext A env h' eC) (hs:Ul a eC h₁)  {n:Nat}  (ho:h₁.get? a=some (gN vs n)) (r:ab C.prog C.w (λb=>S b\/s.heap.get? b=none) eC vs ys) (t:Nat):
  aV C A env o ((x,some (d9,upd (.list ys)))::Γ) {s with heap:=h₁,toks:=t}:=by
 have hk:∀b o,b≠a->eC.get? b=some o->h₁.get? b=some o:=λb o hb e=>(hs.2 b hb).trans e;have jS:∀b,(S b\/b∈fp x)->¬Fz A env b:=λb hb e=>by
  rcases hb with hb|hb
  ·exact(hA.aO b hb).2.1 (.inl e)
  ·exact(hA.fold x b hb).2.1 (.inl e)
 refine aV.upd hA av (ex.trans c7) bS hx (λb=>b=a) hk (λb hb=>by rw[hb];exact ha) (λb hb=>by rw[hb,ho];rfl) (λb hb=>.inl hb) (hA.c9 x) ?_ t;refine yM h₁ (.list ys) _ (λb hb=>.inl hb) (λb o hb iG e=>hk b o hb (c7.keep b o (jS b iG) e)) (.list ho (ar.p9 (r.there.mono (λb hb=>?_) λb o hb e=>hk b o ?_ e)))
 ·rcases hb.1 with g|g
  ·exact .inl g
  ·exact .inr ⟨g,hb.2,λhm=>by have:=(hA.fold x b hm).1;rw[g]at this;cases this⟩
 ·rintro rfl;rcases hb.1 with g|g
  ·exact(hA.aO _ g).2.2 x ha
  ·have:=(hA.fold x _ ha).1;rw[g]at this;cases this
end
section
variable{Γ:ag}{s:Ro}{Q:Flow->Ro->Prop}
theorem ab.one{prog:Sw}{w:TG}{S:RD->Prop}{x:PV}(r:Rd prog w S h v x):ab prog w S h [v] [x]:=.cons r .nil
theorem St.uU{name:Str}{id:String}{pos:Pos}{Ba:List PV}{upd:PV->PV}(hr:aB C A)(hA:aV C A env o Γ s)(hF:sW C env Γ e x d9 (.list ys) upd)(hE:Ev C env (cv Γ) arg true y)
  (slot:Slot "list" name id) (Pu:typeOf (.builtin id)=pure (.type "method_descriptor"))
  (qp:∀ (s₀:Ro) (a:RD) (vs:List Rz) (n:Nat) (S:RD->Prop) (Q:Rz->Ro->Prop) (T:Sem Rz),
   RM (RF C.prog C.w) A T (λu s₁=>∃n',s₁.heap.get? a=some (gN vs n')/\ab C.prog C.w S s₁.heap vs ys/\Rd C.prog C.w S s₁.heap u y/\
    ∀h₁ I9 n',h₁.get? a=some (gN I9 n')->Ul a s₁.heap h₁->ab C.prog C.w S s₁.heap I9 Ba->Q .none {s₁ with heap:=h₁}) E s₀->
   RM (RF C.prog C.w) A (callWith pos (.builtin id) [.ref a] [(false,T)] []) Q E s₀)
  (k:∀s',aV C A env o ((x,some (d9,upd (.list Ba)))::Γ) s'->RM (RF C.prog C.w) A (execs rest env) Q E s')
  (aJ:autoParam (TS e name env (eval e env)=eval e env) oA1._auto_1)
  (cy:autoParam (dD pos env [arg]) oA1._auto_1)
  (aW:autoParam ((apos.endLine==pos.line)=true) oA1._auto_1) (bg:autoParam (SF pos (RV [arg] env)=[(false,eval arg env)]) oA1._auto_1)
  (hi:autoParam (interactive env=false) oA1._auto_1) (hs:autoParam (SR (.Call (.Attribute e name apos) [arg] [] pos) none fq.line env=pure false) oA1._auto_1):
  RM (RF C.prog C.w) A (execs (.Expr (.Call (.Attribute e name apos) [arg] [] pos) fq::rest) env) Q E s:=by
 refine RI (Uh ?_ hi hs);refine Tq aJ cy aW TK slot Pu ?_;obtain⟨S,fp,hA,av⟩:=hA;refine hF A S fp s _ E hr hA λa h' t' v ex bS hv ha r yM=>?_;refine mD r.list1 λa' vs n e1 e2 ho rs=>?_;cases e1;refine⟨⟨_,ho,rfl⟩,λb e=>by cases e;exact⟨_,ho,rfl⟩,?_⟩;rw[bg];refine qp _ a vs n (λb=>S b\/s.heap.get? b=none) _ _ ?_;refine hE A S _ {s with heap:=h',toks:=t'} _ E hr (hA.here.ext ex) λu eC gV c7 rd=>?_;have jS: ¬Fz A env a:=λe=>(hA.fold x a ha).2.1 (.inl e);have Et:∀b,S b->¬Fz A env b:=λb hb e=>(hA.aO b hb).2.1 (.inl e);refine⟨n,c7.keep a _ jS ho,rs.mono (λb hb=>.inl hb) λb ob hb e=>c7.keep b ob (Et b hb) e,?_,λh₁ I9 n' yV jK r'=>?_⟩
 ·exact rd.mono (λb hb=>hb.imp (λz=>z) (ex.fresh hA.aq.ns)) λω ω ω e=>e
 ·exact k _ (aV.fin hA av ex bS hv ha yM c7 jK yV r' _)
theorem gc{a:RD}{n:Nat}(ho:h.get? a=some (gN vs n))(f:Array Rz->Array Rz)(hu:f vs.toArray=us.toArray):∃k,(h.update a (Us f)).get? a=some (gN us k)/\Ul a h (h.update a (Us f)):=
 let⟨k,hk⟩:=wc ho f hu
 ⟨k,hk,UG ..⟩
theorem St.append{pos:Pos}{upd:PV->PV}(hr:aB C A)(hA:aV C A env o Γ s)(hF:sW C env Γ e x d9 (.list ys) upd)(hE:Ev C env (cv Γ) arg true y)(aF:ys.length<=lim)
  (k:∀s',aV C A env o ((x,some (d9,upd (.list (ys++[y]))))::Γ) s'->RM (RF C.prog C.w) A (execs rest env) Q E s')
  (aJ:autoParam (TS e "append" env (eval e env)=eval e env) oA1._auto_1)
  (cy:autoParam (dD pos env [arg]) oA1._auto_1)
  (aW:autoParam ((apos.endLine==pos.line)=true) oA1._auto_1) (bg:autoParam (SF pos (RV [arg] env)=[(false,eval arg env)]) oA1._auto_1)
  (hi:autoParam (interactive env=false) oA1._auto_1) (hs:autoParam (SR (.Call (.Attribute e "append" apos) [arg] [] pos) none fq.line env=pure false) oA1._auto_1):
  RM (RF C.prog C.w) A (execs (.Expr (.Call (.Attribute e "append" apos) [arg] [] pos) fq::rest) env) Q E s:=
 St.uU hr hA hF hE UQ UP (λs₀ a vs n S Q T h=>Vp (Sf h (λu s₁ h₁=>by
  refine gj h₁ λn' ho rs ru hq=>?_;clear h₁;refine aD (gc ho (λxs=>xs.push u) (us:=vs++[u]) (by simp)) λk h1 h2=>?_;refine⟨vs.toArray,n',?_,ho,hq _ _ k h1 h2 (rs.append (.one ru))⟩;have:=rs.length;unfold lim at aF;simp only[RX,this];show _<=2^24;omega) λω ω x=>x)) k aJ cy aW bg hi hs
theorem St.extend{pos:Pos}{zs:List PV}{upd:PV->PV}(hr:aB C A)(hA:aV C A env o Γ s)(hF:sW C env Γ e x d9 (.list ys) upd)(hE:Ev C env (cv Γ) arg true (.list zs))(aF:ys.length+zs.length<=lim)
  (k:∀s',aV C A env o ((x,some (d9,upd (.list (ys++zs))))::Γ) s'->RM (RF C.prog C.w) A (execs rest env) Q E s')
  (aJ:autoParam (TS e "extend" env (eval e env)=eval e env) oA1._auto_1)
  (cy:autoParam (dD pos env [arg]) oA1._auto_1)
  (aW:autoParam ((apos.endLine==pos.line)=true) oA1._auto_1) (bg:autoParam (SF pos (RV [arg] env)=[(false,eval arg env)]) oA1._auto_1)
  (hi:autoParam (interactive env=false) oA1._auto_1) (hs:autoParam (SR (.Call (.Attribute e "extend" apos) [arg] [] pos) none fq.line env=pure false) oA1._auto_1):
  RM (RF C.prog C.w) A (execs (.Expr (.Call (.Attribute e "extend" apos) [arg] [] pos) fq::rest) env) Q E s:=
 St.uU hr hA hF hE PySem.F.slot_list_extend PySem.F.type_list_extend (λs₀ a vs n S Q T h=>PySem.P.extend_list (Sf h (λu s₁ h₁=>by
  refine gj h₁ λn' ho rs ru hq=>?_;clear h₁;refine aP ru.aS λb us m zr zw=>?_;subst zr;refine dd zw λ_ fo rb=>?_;clear zw;refine aD (gc ho (λxs=>xs++us.toArray) (us:=vs++us) (by simp)) λk h1 h2=>?_;have e1:=rs.length;have e2:=rb.length;unfold lim at aF;have kz:vs.toArray.size<=2^24:=by simp only[RX];omega
  have wX:vs.toArray.size+us.toArray.size<=2^24:=by simp only[RX];omega
  refine⟨b,vs.toArray,us.toArray,n',m,kz,Tc wX,?_,rfl,ho,fo,hq _ _ k h1 h2 (rs.append rb)⟩;intro hc;have:Builtin.List.listTooLong (vs.toArray.size+us.toArray.size)=true:=by
   simp only[SU]at hc;exact hc.2
  simp[Builtin.List.listTooLong,sizeLine]at this;simp only[RX]at wX;omega) λω ω x=>x)) k aJ cy aW bg hi hs
theorem gG{S:RD->Prop}{fp:Str->List RD}(hA:At C A env S fp Γ h){a:RD}(ha:a∈fp x): ¬Fz A env a:=λe=>(hA.fold x a ha).2.1 (.inl e)
theorem St.qL{i:Expr}{p pos:Pos}{upd:PV->PV}{y z:Int}{j:Int}(hr:aB C A)(hA:aV C A env o Γ s)(hF:sW C env Γ oe x d9 (.list ys) upd)(hi:Ev C env (cv Γ) i true (.int j))(hE:Ev C env (cv Γ) e true (.int y))
  (h0:0<=j) (hz:ys[j.toNat]?=some (.int z)) (aF:ys.length<=lim)
  (k:∀s',aV C A env o ((x,some (d9,upd (.list (ys.set j.toNat (.int (z+y))))))::Γ) s'->RM (RF C.prog C.w) A (execs rest env) Q E s')
  (ha:autoParam (∀ov iv new,augStore i ov iv new=(do holding [new,ov,iv] (setItem ov iv new);release [new,ov,iv] [];pure .next)) oA11._auto_1):
  RM (RF C.prog C.w) A (execs (.AugAssign (.Subscript oe i p) .Add e pos::rest) env) Q E s:=by
 have hj:j<ys.length:=by
  have:=(RY.mp hz).1;omega
 refine RI (wpAny_AugAssign_Subscript_any ?_ ha);obtain⟨S,fp,hA,av⟩:=hA;refine hF A S fp s _ E hr hA λa h2 t2 v c7 bS hv Od r yM=>?_;refine mD r.list1 λa' vs n e1 e2 ho rs=>?_;cases e1;refine hi A S _ {s with heap:=h2,toks:=t2} _ E hr (hA.here.ext c7) λw h3 t3 iF zL=>?_;refine oE zL.int_inv λt zr=>?_;subst zr;have jS:=gG hA Od;have NH:=iF.keep a _ jS ho;refine aD (rs.get hz) λold KQ K6=>?_;refine oE K6.int_inv λto zr=>?_;subst zr;have iH:j<2^63:=by unfold lim at aF;omega
 refine WT (s:={s with heap:=h3,toks:=t3}) (bz.bw NH) h0 iH (by simpa using KQ) ?_;refine hE A S _ {s with heap:=h3,toks:=t3} _ E hr ((hA.here.ext c7).ext iF) λu h4 t4 Am ru=>?_;refine oE ru.int_inv λtu zr=>?_;subst zr;refine Wi ?_;have Qb:=Am.keep a _ jS NH;have Et:∀b,S b->¬Fz A env b:=λb hb e=>(hA.aO b hb).2.1 (.inl e);refine tG (s:={s with heap:=h4,toks:=t4+1}) Qb h0 iH (by rw[rs.length];exact hj) λh₁ n' yV jK=>?_;exact k _ (aV.fin hA av c7 bS hv Od yM (iF.trans Am) jK yV ((rs.mono (λb hb=>.inl hb) λb ob hb e=>(iF.trans Am).keep b ob (Et b hb) e).set _ (.int _ _)) _)
end
section
variable{Γ:ag}{s:Ro}{Q:Flow->Ro->Prop}
noncomputable abbrev F2(C:Cx)(A:Sg)(env:Env)(rest:List Stmt)(Q:Flow->Ro->Prop)(E:Rz->Ro->Prop)(f:Flow)(s:Ro):Prop:=match f with| .next=>RM (RF C.prog C.w) A (execs rest env) Q E s|f=>Q f s
noncomputable def dI(C:Cx)(env:Env)(Γ:ag)(target:Expr)(x:PV)(af:ag):Prop:=
 ∀ (A:Sg) (o:iD) (S:RD->Prop) (fp:Str->List RD) (s:Ro) (v:Rz) (Q:Unit->Ro->Prop) (E:Rz->Ro->Prop),aB C A->At C A env S fp Γ s.heap->Step A env o S fp s->Rd C.prog C.w S s.heap v x->
  (∀ed h' t',At C A env S ed af h'->Step A env o S ed {s with heap:=h',toks:=t'}->(∀a b,¬ax A env a->s.heap.get? a=some b->h'.get? a=some b)->(∀y a,a∈ed y->a∈fp y)->Q () {s with heap:=h',toks:=t'})->
  RM (RF C.prog C.w) A (Ve target env v) Q E s
theorem dI.name{p:Pos}{pv:PV}(hk:env.kindOf x=some .local\/env.kindOf x=some .cell)(fe:autoParam (x≠"__classdict__") oA3._auto_1):dI C env Γ (.Name x p) pv ((x,some (0,pv))::Γ):=
 λA o S fp s v Q E hr hA av rd hq=>by
  refine V3 (cm (C:=C) hA.aq hk fe λeC gV ek h1 h2 kx ω=>?_);have bS:aA (env.kindOf x)=true:=by rcases hk with h|h<;>rw[h]<;>rfl
  have r0:aC C S s.heap 0 v pv []:=.val rd;have e:(λa=>S a\/(s.heap.get? a=none/\(s.heap.get? a).isSome=true/\a∉([]:List RD)/\¬False))=S:=funext λa=>propext ⟨λh=>(by
   rcases h with h|⟨h1,h2,_⟩
   ·exact h
   ·rw[h1]at h2;cases h2),.inl⟩
  have yd:=hA.put (.refl _ _ _) (λω=>False) r0 (λa ha ω=>⟨.inl ha,by simp⟩) Sn (λω h=>nomatch h) bS ek h1 h2 kx;have GB:=Step.put (s':=s) (f:=[]) av hA (.refl _ _ _) (λω=>False) (λω h=>nomatch h) kx gV;rw[e]at yd GB;refine hq _ eC gV yd GB kx.off λy a ha=>?_;by_cases hy:y=x
  ·simp[hy]at ha
  ·simpa [hy]using ha
noncomputable def fm(C:Cx)(env:Env)(Γ:ag)(ts:List Expr)(xs:List PV)(af:ag):Prop:=
 ∀ (A:Sg) (o:iD) (S:RD->Prop) (fp:Str->List RD) (s:Ro) (vs:List Rz) (Q:Unit->Ro->Prop) (E:Rz->Ro->Prop),aB C A->At C A env S fp Γ s.heap->Step A env o S fp s->ab C.prog C.w S s.heap vs xs->
  (∀ed h' t',At C A env S ed af h'->Step A env o S ed {s with heap:=h',toks:=t'}->(∀a b,¬ax A env a->s.heap.get? a=some b->h'.get? a=some b)->(∀y a,a∈ed y->a∈fp y)->Q () {s with heap:=h',toks:=t'})->
  RM (RF C.prog C.w) A (assignInOrder ((assignEach ts env).map (·.2)) vs) Q E s
theorem fm.nil:fm C env Γ [] [] Γ:=λA o S fp s vs Q E hr hA av rd hq=>by
 cases rd;exact RK (hq fp s.heap s.toks hA av (λω ω ω e=>e) λω ω h=>h)
theorem fm.cons{t:Expr}{ts:List Expr}{x:PV}{af mq:ag}(h1:dI C env Γ t x af)(h2:fm C env af ts xs mq)
  (hs:autoParam (∀env,assignEach (t::ts) env=(false,Ve t env)::assignEach ts env) oA2._auto_1):fm C env Γ (t::ts) (x::xs) mq:=λA o S fp s vs Q E hr hA av rd hq=>by
 cases rd with
 |cons r1 r2=>
  rw[hs];refine wpAny_assignInOrder_more ?_;refine h1 A o S fp s _ _ E hr hA av r1 λed h' t' bF dE hk hf=>?_;refine h2 A o S ed {s with heap:=h',toks:=t'} _ _ E hr bF dE (r2.mono (λω z=>z) λa b ha hb=>hk a b (hA.aO a ha).2.1 hb) λKz eC gV jL Iy jT pj=>?_;exact hq Kz eC gV jL Iy (λa b ha hb=>jT a b ha (hk a b ha hb)) λy a ha=>hf y a (pj y a ha)
theorem Step.off{S:RD->Prop}{fp:Str->List RD}(av:Step A env o S fp s)(hI:o.s.heap.get? I=none)(hk:∀a b,a≠I->s.heap.get? a=some b->h₁.get? a=some b)(t:Nat):Step A env o S fp {s with heap:=h₁,toks:=t}:=by
 refine jH av.same λh t0 e=>?_;have ne:∀a,(o.s.heap.get? a).isSome=true->a≠I:=λa ha e=>by rw[e,hI]at ha;cases ha
 refine⟨⟨h₁,t,by rw[e]⟩,av.grow,av.mu,av.mw,λa b hF hn ho=>hk a b (ne a (by rw[ho];rfl)) (av.keep a b hF hn ho),λa ha=>?_,λa b hs hl ho=>oE (av.fr a b hs hl ho) λsl h1=>⟨sl,hk a _ (ne a (by rw[ho];rfl)) h1⟩⟩;refine oE (Rv.mp (av.live a ha)) λb hb=>?_;rw[hk a b (ne a ha) hb];rfl
inductive Gs(C:Cx)(A:Sg)(env:Env)(o:iD)(pv:PV)(v:Rz)(s:Ro):Prop
 |mk (S:RD->Prop) (fp:Str->List RD) (Γ:ag):At C A env S fp Γ s.heap->Step A env o S fp s->Rd C.prog C.w S s.heap v pv->Gs C A env o pv v s
theorem aV.trans{o':iD}{S:RD->Prop}{fp:Str->List RD}(x:aV C A env ⟨S,fp,s⟩ Γ s')(av:Step A env o S fp s):aV C A env o Γ s':=
 x.casesOn λS' ed h1 h2=>⟨S',ed,h1,av.trans h2⟩
theorem Step.fresh{S:RD->Prop}{fp:Str->List RD}(av:Step A env o S fp s){a:RD}(ha:s.heap.get? a=none):o.s.heap.get? a=none:=by
 cases hq:o.s.heap.get? a with
 |none=>rfl
 |some b=>have:=av.live a (by rw[hq];rfl);rw[ha]at this;cases this
theorem At.zW{S:RD->Prop}{fp:Str->List RD}(hA:At C A env S fp Γ h)(hf:h.get? I=none):(∀b,C.K.lookup I≠some b)/\¬ax A env I/\(∀y,I∉fp y)/\¬S I:=
 have no: ¬(h.get? I).isSome=true:=by rw[hf];nofun
 ⟨λb hb=>(nomatch hf.symm.trans (hA.base.cB I b hb)),λh=>no (hA.aq.frame_there hA.bE I h),λy hy=>no (hA.fold y I hy).1,λh=>no (hA.aO I h).1⟩
theorem Step.tF{S:RD->Prop}{fp:Str->List RD}(hs:Step A env o S fp s)(h1: ¬o.S I)(h2:∀y,I∉o.fp y)(h3:(o.s.heap.get? I).isSome=true): ¬S I/\∀y,I∉fp y:=
 have no:o.s.heap.get? I≠none:=λe=>by rw[e]at h3;cases h3
 ⟨λh=>(hs.mu I h).elim h1 λh=>h.elim (λh=>h.elim h2) no,λy h=>(hs.mw y I h).elim (λh=>h.elim h2) no⟩
theorem Ext.step{S:RD->Prop}{fp:Str->List RD}{h1:Heap}(ex:Ext A env s.heap h1)(av:Step A env o S fp s)(bR:∃m,s.heap.Ns env.locals m)(N:RD->Prop)(hN:∀a,N a->s.heap.get? a=none)(t1:Nat):Step A env o (λa=>S a\/N a) fp {s with heap:=h1,toks:=t1}:=
 av.trans ⟨⟨h1,t1,rfl⟩,λa ha=>.inl ha,λa ha=>ha.imp id λq=>.inr (hN a q),λy a ha=>.inl ⟨y,ha⟩,λa b hF ω ho=>ex.keep a b (λe=>hF (.inl e)) ho,λa ha=>ex.live bR ha,ex.fr⟩
theorem HX{t:Sem α}{Q:α->Ro->Prop}(h:∀Q':α->Ro->Prop,(∀a s,Q a s->Q' a s)->RM M A t Q' E s):RM M A t Q E s:=h Q λω ω x=>x
theorem ft{prog:Sw}{w:TG}{it:Rz}(I:Nat->Ro->Prop)
  (vc:∀n s,I n s->∀ (Qn:Option Rz->Ro->Prop) (En:Rz->Ro->Prop) (QB:Flow->Ro->Prop),(∀e s',notedBy (RF prog w) A env (λe s'=>R (.error e) s') e s'->En e s')->
   (∀s₁,RM (RF prog w) A (execs orelse env) (λf cL=>R (.ok f) cL) En s₁->Qn none s₁)->
   (∀v s₁,RM (RF prog w) A (letOwnedTupleGo target it v) (λω pE=>RM (RF prog w) A (Ve target env v) (λω s₂=>RM (RF prog w) A (execs body env) QB En s₂) En pE) En s₁->Qn (some v) s₁)->
   (∀m s',m<n->I m s'->QB .next s'/\QB .cont s')->(∀s',R (.ok .next) s'->QB .brk s')->(∀v s',R (.ok (.ret v)) s'->QB (.ret v) s')->RM (RF prog w) A (pyNext it) Qn En s)
  (n:Nat) (h:I n s):TR (RF prog w) A (.forLoop target it body orelse env) R s:=
 codeAny_forLoop_any I (λn s hI=>vc n s hI _ _ _ (λω ω x=>x) (λω x=>x) (λω ω x=>x) (λm ω hm x=>⟨⟨m,hm,x⟩,⟨m,hm,x⟩⟩) (λω x=>x) λω ω x=>x) n h
inductive Hd(C:Cx)(A:Sg)(env:Env)(o:iD)(inv:Nat->ag->Prop)(xl:Nat)(S:RD->Prop)(h1:Heap)(St:Nat->Heap->Prop)(I:RD)(n:Nat)(s':Ro):Prop
 |mk (i:Nat) (aE:ag) (Si:RD->Prop) (iJ:Str->List RD):i<=xl->n=xl - i->inv i aE->At C A env Si iJ aE s'.heap->Step A env o Si iJ s'->(∀a,S a->Si a)->(∀a b,S a->h1.get? a=some b->s'.heap.get? a=some b)->St i s'.heap->¬Si I->(∀y,I∉iJ y)->Hd C A env o inv xl S h1 St I n s'
theorem St.uR{it:Expr}{pos:Pos}(hr:aB C A)(hA:aV C A env o Γ s)(hI:dw C env (cv Γ) it true xs)(inv:Nat->ag->Prop)(tg:Nat->PV->ag->ag)(h0:inv 0 Γ)
  (uO:∀ (i:Nat) (x:PV) aE,xs[i]?=some x->inv i aE->dI C env aE target x (tg i x aE))
  (step:∀ (i:Nat) (x:PV) aE,xs[i]?=some x->inv i aE->∀ (o':iD) (s':Ro) (Q':Flow->Ro->Prop) (E':Rz->Ro->Prop),(PassesOwn (RF C.prog C.w) A env E->∀e s',E e s'->E' e s')->(∀S fp cP,Step A env o' S fp cP->Step A env o S fp cP)->aV C A env o' (tg i x aE) s'->(∀af cP,inv (i+1) af->aV C A env o' af cP->Q' .next cP/\Q' .cont cP)->
   (∀s,RM (RF C.prog C.w) A (execs rest env) Q E s->Q' .brk s)->(∀v s,Q (.ret v) s->Q' (.ret v) s)->RM (RF C.prog C.w) A (execs body env) Q' E' s')
  (k:∀s' af,inv xs.length af->aV C A env o af s'->RM (RF C.prog C.w) A (execs orelse env) (F2 C A env rest Q E) (λe cP=>notedBy (RF C.prog C.w) A env (λe s'=>cameBackBy (RF C.prog C.w) A env E e s') e cP) s')
  (hs:autoParam (∀x,R8 it env x=pure x) oA2._auto_1):
  RM (RF C.prog C.w) A (execs (.For target it body orelse pos::rest) env) Q E s:=by
 refine RI (HX λQ1 hQ=>Yh ?_ hs);obtain⟨S,fp,hA,av⟩:=hA;refine hI A S _ s _ E hr hA.here λI h1 t1 QV P St ex xW lp W yC hP jt J4 Hx=>?_;have wA:=hA.zW xW;refine ft (Hd C A env o inv xs.length (λa=>S a\/(s.heap.get? a=none/\(h1.get? a).isSome=true/\a≠I)) h1 St I) (λn s' pW Qn En QB hE hN hV EB Jf Jj=>?_) xs.length
  ⟨0,Γ,_,fp,RU _,rfl,h0,hA.ext ex _ (λa ha=>⟨ha.1,ha.2.1⟩),ex.step av hA.aq.ns _ (λa ha=>ha.1) t1,λω h=>h,λω ω ω e=>e,yC,λh=>h.elim wA.2.2.2 λh=>h.2.2 rfl,wA.2.2.1⟩
 obtain⟨i,aE,Si,iJ,hi,hn,sm,uJ,yH,rm,FO,sP,xE,xA⟩:=pW;have hB:∀a,a=I->Rt<a/\(∀b,C.K.lookup a≠some b)/\¬Si a/\¬ax A env a/\∀y,a∉iJ y:=λa ha=>ha▸⟨lp,wA.1,xE,wA.2.1,xA⟩;have nI:∀a,¬a=I->a∉[I]:=λa h hm=>h (Rq.mp hm);rcases Vk i xs.length with hlt|iy
 ·refine W.item i s' _ _ hlt sP λv h2 t2 hv Im mW=>hV v _ ?_;have kI:∀a b,¬(a=I)->s'.heap.get? a=some b->h2.get? a=some b:=λa b ha hb=>mW a b (nI a ha) hb;refine lW (Hx _ _ Im) λob T ho oU hT=>?_;refine fF (s:={s' with heap:=h2,toks:=t2}) ho oU hT ?_;refine aD (hP i v hv) λx hx rx=>?_;have sn:∀a,(S a\/s.heap.get? a=none)->(h1.get? a).isSome=true->a≠I->S a\/(s.heap.get? a=none/\(h1.get? a).isSome=true/\a≠I):=λa h h' n=>h.imp id λh=>⟨h,h',n⟩;refine uO i x aE hx sm A o Si iJ {s' with heap:=h2,toks:=t2} v _ _ hr (uJ.quiet (λa=>a=I) kI hB) (yH.off (av.fresh xW) kI t2)
   (rx.there.mono (λa ha=>rm a (sn a ha.1.1 ha.2 ha.1.2)) λa b ha hb=>kI a b ha.1.2 (FO a b (sn a ha.1.1 ha.2 ha.1.2) hb)) λME h3 t3 jv Ji jW NR=>?_
  have uk:=λa ha=>(jv.aO a (rm a ha)).2;have z7:St (i+1) h3:=W.frame _ _ _ Im λb hb ob fo=>jW b ob (by
   rcases Ye (b=I)with e|e
   ·exact e▸wA.2.1
   ·exact(uk b ((jt b hb).1.elim (λh=>absurd h e) λh=>sn b h (jt b hb).2 e)).1) fo
  refine step i x aE hx sm ⟨Si,ME,{s' with heap:=h3,toks:=t3}⟩ _ _ _ (λhp e s' he=>hE e s' (hp e s' he)) (λS fp cP h=>Ji.trans h) ⟨Si,ME,jv,Step.refl _ _ _ _ _⟩ (λaf cP hinv jL=>EB (xs.length - (i+1)) cP (fz hn hlt) ?_) (λs h=>Jf s (hQ .next s h)) λv s h=>Jj v s (hQ (.ret v) s h);obtain⟨S4,Hp,pK,Ds⟩:=jL;have hIn:=Ds.tF xE (λy hy=>xA y (NR y I hy)) (so (jW I ob wA.2.1 ho));refine⟨i+1,af,S4,Hp,hlt,rfl,hinv,pK,Ji.trans Ds,λa ha=>Ds.grow a (rm a ha),λa b ha hb=>Ds.keep a b (uk a ha).1 (uk a ha).2 (jW a b (uk a ha).1 (kI a b (λe=>?_) (FO a b ha hb))),W.frame _ _ _ z7 λb hb ob fo=>?_,hIn.1,hIn.2⟩
  ·exact xE (e▸rm a ha)
  ·rcases Ye (b=I)with e|e
   ·exact Ds.keep b ob (e▸wA.2.1) (λy hy=>xA y (e▸NR y b hy)) fo
   ·have:=uk b ((jt b hb).1.elim (λh=>absurd h e) λh=>sn b h (jt b hb).2 e);exact Ds.keep b ob this.1 this.2 fo
 ·have uP:i=xs.length:=Sa hi iy;refine W.done s' _ _ (uP▸sP) λh2 t2 mW=>hN _ ?_;have kI:∀a b,¬(a=I)->s'.heap.get? a=some b->h2.get? a=some b:=λa b ha hb=>mW a b (nI a ha) hb;exact Sf (k _ aE (uP▸sm) ⟨Si,iJ,uJ.quiet (λa=>a=I) kI hB,yH.off (av.fresh xW) kI t2⟩) (λf cP h=>hQ f cP (by cases f<;>exact h)) hE
end
section
variable{Γ:ag}{s:Ro}{Q:Flow->Ro->Prop}{S:RD->Prop}{fp:Str->List RD}
theorem Step.Md{J:RD}(av:Step A env o S fp s)(hI:o.s.heap.get? I=none)(hJ:o.s.heap.get? J=none)(hk:∀a b,a≠I->a≠J->s.heap.get? a=some b->h₁.get? a=some b)(t:Nat):Step A env o S fp {s with heap:=h₁,toks:=t}:=by
 refine jH av.same λh t0 e=>?_;have ne:∀a,(o.s.heap.get? a).isSome=true->a≠I/\a≠J:=λa ha=>⟨λe=>(by rw[e,hI]at ha;cases ha),λe=>(by rw[e,hJ]at ha;cases ha)⟩;refine⟨⟨h₁,t,by rw[e]⟩,av.grow,av.mu,av.mw,λa b hF hn ho=>?_,λa ha=>?_,λa b hs hl ho=>?_⟩
 ·have:=ne a (by rw[ho];rfl);exact hk a b this.1 this.2 (av.keep a b hF hn ho)
 ·refine oE (Rv.mp (av.live a ha)) λb hb=>?_;rw[hk a b (ne a ha).1 (ne a ha).2 hb];rfl
 ·refine oE (av.fr a b hs hl ho) λsl h1=>?_;have:=ne a (by rw[ho];rfl);exact⟨sl,hk a _ this.1 this.2 h1⟩
noncomputable abbrev rA(I it l:RD)(items:Array Rz)(i:Nat)(h:Heap):Prop:=(∃old,IsEnum h I it i old)/\h.IsListIter it l i/\h.IsList l items
theorem rA.live{it l:RD}{items:Array Rz}(x:rA I it l items i h){a:RD}(ha:a=I\/a=it):(h.get? a).isSome=true:=
 ha.elim (λe=>x.1.elim λold g=>e▸so g) λe=>x.2.1.elim λob g=>e▸so g.1
inductive HE(C:Cx)(A:Sg)(env:Env)(o:iD)(inv:Nat->ag)(xl:Nat)(S:RD->Prop)(h1:Heap)(I it l:RD)(items:Array Rz)(n:Nat)(s':Ro):Prop
 |mk (i:Nat) (Si:RD->Prop) (iJ:Str->List RD):i<=xl->n=xl - i->At C A env Si iJ (inv i) s'.heap->Step A env o Si iJ s'->(∀a,S a->Si a)->(∀a b,S a->h1.get? a=some b->s'.heap.get? a=some b)->rA I it l items i s'.heap->(∀a,a=I\/a=it->¬Si a/\∀y,a∉iJ y)->HE C A env o inv xl S h1 I it l items n s'
theorem yz{tk:Nat}{tp:Pos}{body orelse:List Stmt}{it l:RD}{items:Array Rz}{R:Result->Ro->Prop}(hr:aB C A)(hA:At C A env S fp Γ s.heap)(av:Step A env o S fp s)
  (FF:S l) (hl:s.heap.IsList l items) (he:IsEnum s.heap I it 0 .none) (hit:s.heap.IsListIter it l 0) (OO:I≠it)
  (hI:o.s.heap.get? I=none/\Rt<I/\¬S I/\¬ax A env I/\(∀y,I∉fp y)/\∀b,C.K.lookup I≠some b) (hJ:o.s.heap.get? it=none/\Rt<it/\¬S it/\¬ax A env it/\(∀y,it∉fp y)/\∀b,C.K.lookup it≠some b)
  (ur:∀ (i:Nat) v,items[i]?=some v->∃x,xs[i]?=some x/\Rd C.prog C.w S s.heap v x) (hlen:items.size=xs.length) (inv tg:Nat->ag) (h0:dY (inv 0) Γ)
  (hN:C.hd=false) (uO:∀ (i:Nat) (x:PV),xs[i]?=some x->fm C env (inv i) elts [.int i,x] (tg i))
  (IP:autoParam (∀env,(assignEach elts env).length=2) oA2._auto_1) (bR:autoParam (∀env,Wv (λx=>x.fst) (assignEach elts env)=none) oA2._auto_1)
  (step:∀ (i:Nat) (x:PV),xs[i]?=some x->∀ (o':iD) (s':Ro) (Q':Flow->Ro->Prop) (E':Rz->Ro->Prop),aV C A env o' (tg i) s'->(∀cP,aV C A env o' (inv (i+1)) cP->Q' .next cP)->RM (RF C.prog C.w) A (execs body env) Q' E' s')
  (k:∀s',aV C A env o (inv xs.length) s'->RM (RF C.prog C.w) A (execs orelse env) (λf cL=>R (.ok f) cL) (notedBy (RF C.prog C.w) A env λe s'=>R (.error e) s') s'):
  TR (RF C.prog C.w) A (.forLoop (.Tuple elts tk tp) (.ref I) body orelse env) R s:=by
 have hle:l≠I:=λe=>hI.2.2.1 (e▸FF);have JX:l≠it:=λe=>hJ.2.2.1 (e▸FF);have W:=WalksT.enumerate (prog:=C.prog) (w:=C.w) (hr.1 hN) I it l OO hle JX items;have O9: ¬ax A env l/\∀y,l∉fp y:=(hA.aO l FF).2;have Iu:∀a,(a=I\/a=it)->o.s.heap.get? a=none/\Rt<a/\¬S a/\¬ax A env a/\(∀y,a∉fp y)/\∀b,C.K.lookup a≠some b:=λa ha=>ha.elim (λe=>e▸hI) λe=>e▸hJ;have Mi:∀a,¬(a=I\/a=it)->a∉[I,it]:=λa h hm=>h ((Rr.mp hm).imp_right Rq.mp);refine ft (HE C A env o inv xs.length S s.heap I it l items) (λn s' pW Qn En QB hE Gw hV EB Jf Jj=>?_) xs.length ⟨0,S,fp,RU _,rfl,
  {cx:=hA.cx,base:=hA.base,aq:=hA.aq,bE:=hA.bE,aO:=hA.aO,cZ:=hA.cZ,c9:=hA.c9,fold:=hA.fold,vars:=λy n pv hy=>hA.vars y n pv (h0 y _ hy)},av,λω h=>h,λω ω ω e=>e,⟨⟨_,he⟩,hit,hl⟩,λa ha=>⟨(Iu a ha).2.2.1,(Iu a ha).2.2.2.2.1⟩⟩
 obtain⟨i,Si,iJ,hi,hn,uJ,yH,rm,FO,sP,Bw⟩:=pW;have hB:∀a,(a=I\/a=it)->Rt<a/\(∀b,C.K.lookup a≠some b)/\¬Si a/\¬ax A env a/\∀y,a∉iJ y:=λa ha=>⟨(Iu a ha).2.1,(Iu a ha).2.2.2.2.2,(Bw a ha).1,(Iu a ha).2.2.2.1,(Bw a ha).2⟩;have off:∀ {s1:Ro} (h2:Heap) (t2:Nat),Step A env o Si iJ s1->(∀a b,¬(a=I\/a=it)->s1.heap.get? a=some b->h2.get? a=some b)->Step A env o Si iJ {s1 with heap:=h2,toks:=t2}:=λh2 t2 x k=>x.Md hI.1 hJ.1 (λa b ha k9 hb=>k a b (λh=>h.elim ha k9) hb) t2;rcases Vk i xs.length with hlt|iy
 ·refine W.item i s' _ _ (by rw[hlen];exact hlt) sP λT vals h2 t2 hv hT Ff zM mW=>hV _ _ ?_;refine aM hv λt v PA zr=>?_;clear hv;subst zr;have kI:∀a b,¬(a=I\/a=it)->s'.heap.get? a=some b->h2.get? a=some b:=λa b ha hb=>mW a b (Mi a ha) hb;refine W.go elts tk tp i T {s' with heap:=h2,toks:=t2} _ _ zM λh3 z7 jW=>?_;have Na:∀a b,¬(a=I\/a=it)->h2.get? a=some b->h3.get? a=some b:=λa b ha hb=>jW a b (Mi a ha) hb;have Lq: ¬(T=I\/T=it):=λh=>W.apart i T h2 zM (Rr.mpr (h.imp_right Rq.mpr));refine aD (ur i v PA) λx hx rx=>?_;refine YR (s:={s' with heap:=h3,toks:=t2}) (hr.1 hN) (items:=#[.int i t,v]) (Ff.elim λob h=>⟨ob,Na T ob Lq h.1,h.2⟩) (by rw[IP];rfl) (bR env) λh4 JY=>?_;have kT:∀a b,h3.get? a=some b->h4.get? a=some b:=λa b hb=>JY a b (Sm (Ss hb)) hb;have k4:∀a b,¬(a=I\/a=it)->s'.heap.get? a=some b->h4.get? a=some b:=λa b ha hb=>kT a b (Na a b ha (kI a b ha hb));have Ay:∀a b,S a->s.heap.get? a=some b->h4.get? a=some b:=λa b ha hb=>k4 a b (λh=>(hB a h).2.2.1 (rm a ha)) (FO a b ha hb);refine uO i x hx A o Si iJ {s' with heap:=h4,toks:=t2} _ _ _ hr (uJ.quiet (λa=>a=I\/a=it) k4 hB) (off h4 t2 yH k4) (.cons (.int _ _) (.cons (rx.mono rm Ay) .nil)) λwC h5 t5 m9 DR IT L6=>?_;have Az:rA I it l items (i+1) h5:=W.frame _ _ _ (W.frame _ _ _ z7 λb ω ob fo=>kT b ob fo) λb hb ob fo=>IT b ob (by
   rcases Rr.mp hb with e|hb
   ·exact e▸hI.2.2.2.1
   ·rcases Rr.mp hb with e|hb
    ·exact e▸hJ.2.2.2.1
    ·exact Rq.mp hb▸O9.1) fo
  have FT:∀a,(a=I\/a=it)->∀y,a∉wC y:=λa ha y hy=>(Bw a ha).2 y (L6 y a hy);refine step i x hx ⟨Si,wC,{s' with heap:=h5,toks:=t5}⟩ _ _ _ ⟨Si,wC,m9,Step.refl _ _ _ _ _⟩ λcP jL=>(EB (xs.length - (i+1)) cP (fz hn hlt) ?_).1;obtain⟨S6,J2,rZ,wG⟩:=jL;have uk:∀a,S a->¬ax A env a/\∀y,a∉wC y:=λa ha=>(m9.aO a (rm a ha)).2;refine⟨i+1,S6,J2,hlt,rfl,rZ,DR.trans wG,λa ha=>wG.grow a (rm a ha),λa b ha hb=>wG.keep a b (uk a ha).1 (uk a ha).2 (IT a b (uk a ha).1 (Ay a b ha hb)),W.frame _ _ _ Az λb hb ob fo=>?_,λa ha=>wG.tF (Bw a ha).1 (FT a ha) (Az.live ha)⟩;rcases Rr.mp hb with e|hb
  ·exact wG.keep _ ob (e▸hI.2.2.2.1) (FT _ (.inl e)) fo
  ·rcases Rr.mp hb with e|hb
   ·exact wG.keep _ ob (e▸hJ.2.2.2.1) (FT _ (.inr e)) fo
   ·have:=uk b (Rq.mp hb▸FF);exact wG.keep _ ob this.1 this.2 fo
 ·have uP:i=xs.length:=Sa hi iy;refine W.done s' _ _ (by rw[hlen,<-uP];exact sP) λh2 t2 mW=>Gw _ ?_;have kI:∀a b,¬(a=I\/a=it)->s'.heap.get? a=some b->h2.get? a=some b:=λa b ha hb=>mW a b (Mi a ha) hb;exact Sf (k _ ⟨Si,iJ,uP▸uJ.quiet (λa=>a=I\/a=it) kI hB,off h2 t2 yH kI⟩) (λω ω h=>h) hE
end
section
variable{l:Expr}
theorem Ev.mod_int{i j:Int}(h1:Ev C env Γ l m1 (.int i))(h2:Ev C env Γ r m2 (.int j))(hj:j≠0):Ev C env Γ (.BinOp l .Mod r p) md (.int (i.fmod j)):=
 Ev.bin h1 h2 λA S U s h₀ v u Q E hr hh e bR rv ru hq=>by
  refine oE rv.int_inv λt zr=>?_;subst zr;refine oE ru.int_inv λt' zr=>?_;subst zr;exact mod_int' hj (hq _ s.heap _ (.refl _ _ _) (.int _ _))
theorem Ev.add_str{y:Str}(h1:Ev C env Γ l m1 (.str x))(h2:Ev C env Γ r m2 (.str y))(aF:x.length+y.length<=2^24):Ev C env Γ (.BinOp l .Add r p) md (.str (x++y)):=
 Ev.bin h1 h2 λA S U s h₀ v u Q E hr hh e bR rv ru hq=>by
  refine oE rv.str_inv λt zr=>?_;subst zr;refine oE ru.str_inv λt' zr=>?_;subst zr;exact Zl (λt' tk=>hq _ s.heap tk (.refl _ _ _) (.str _ _)) aF
end
theorem eR{s:Ro}{f:Rz}{args:List (Bool×Sem Rz)}{pos:Pos}{Q:Rz->Ro->Prop}(hf:(∃T,f= .type T)\/∃id,f= .builtin id)
  (aX:∃x rest,args=(false,x)::rest) (cI:args.any (·.1)=false) (h:RM M A (spliced args) (λvs s₁=>RM M A (call f vs) Q E s₁) E s):RM M A (callWith pos f [] args []) Q E s:=by
 refine jH aX λx rest zr=>?_;clear aX;subst zr;rcases hf with⟨T,rfl⟩|⟨id,rfl⟩
 ·exact PySem.callWith_type cI (evalArgs_plain h)
 ·exact Xu cI (evalArgs_plain h)
noncomputable def a7(C:Cx)(env:Env)(Γ:fT)(f:Rz)(m1:Bool)(xs:List PV)(md:Bool)(y:PV):Prop:=
 ((∃T,f= .type T)\/∃id,f= .builtin id)/\
 ∀ (A:Sg) (S U:RD->Prop) (s:Ro) (h₀:Heap) (vs:List Rz) (Q:Rz->Ro->Prop) (E:Rz->Ro->Prop),aB C A->Here C A S U env Γ s.heap->Ext A env h₀ s.heap->Bk C A env h₀->
   ab C.prog C.w (dH m1 S U h₀) s.heap vs xs->
   (∀v h' t',Ext A env s.heap h'->Rd C.prog C.w (dH md S U h₀) h' v y->Q v {s with heap:=h',toks:=t'})->RM (RF C.prog C.w) A (call f vs) Q E s
theorem Ev.call{id:Str}{pos:Pos}{f:Rz}(hf:Ev C env Γ (.Name id p) true (.raw f))(ha:ba C env Γ args m1 xs)(hB:a7 C env Γ f m1 xs md y)
  (aX:autoParam (zT args pos) oA4._auto_1) (cI:autoParam (jq args pos false) oA2._auto_1):
  Ev C env Γ (.Call (.Name id p) args [] pos) md y:=λA S U s Q E hr hh hq=>by
 refine TC ?_;refine hf A S U s _ E hr hh λv h1 t1 e1 r1=>?_;cases r1.aQ;refine eR hB.1 (aX env) (cI env) ?_;refine ha A S U {s with heap:=h1,toks:=t1} pos _ E hr (hh.ext e1) λvs h2 t2 e2 r2=>?_;refine hB.2 A S U {s with heap:=h2,toks:=t2} s.heap vs _ E hr ((hh.ext e1).ext e2) (e1.trans e2) hh.C5 (r2.mono (λa ha=>ha.imp (λz=>z) (e1.fresh hh.aq.ns)) λω ω ω z=>z) λu h3 t3 e3 r3=>?_;exact hq u h3 t3 ((e1.trans e2).trans e3) r3
theorem ab.dq{prog:Sw}{w:TG}{S:RD->Prop}{x:PV}(r:ab prog w S h vs [x]):∃v,vs=[v]/\Rd prog w S h v x:=by
 cases r with|cons a b=>cases b;exact⟨_,rfl,a⟩
theorem ab.q8{prog:Sw}{w:TG}{S:RD->Prop}{x:PV}(r:ab prog w S h vs [x,y]):∃v u,vs=[v,u]/\Rd prog w S h v x/\Rd prog w S h u y:=by
 cases r with|cons a b=>refine aD b.dq λu zr r=>?_;subst zr;exact⟨_,_,rfl,a,r⟩
theorem a7.len_list(aF:xs.length<=lim):a7 C env Γ (.builtin "len") m1 [.list xs] md (.int xs.length):=
 ⟨.inr ⟨_,rfl⟩,λA S U s h₀ vs Q E hr hh e bR rv hq=>by
  refine aD rv.dq λv zr r=>?_;subst zr;refine aP r.aS λa us n zr zw=>?_;subst zr;refine dd zw λha eh ra=>?_;clear zw;have hl:=ra.length;refine Calls.call_len_list (bz.bw eh) (by simp only[RX,hl];unfold lim at aF;omega) ?_;have:(us.toArray.size:Int)=xs.length:=by simp[hl]
  rw[this];exact hq _ s.heap _ (.refl _ _ _) (.int _ _)⟩
theorem a7.fK{n:Int}:a7 C env Γ (.type "range") m1 [.int n] md (.jD 0 n 1):=
 ⟨.inl ⟨_,rfl⟩,λA S U s h₀ vs Q E hr hh e bR rv hq=>by
  refine aD rv.dq λv zr r=>?_;subst zr;refine oE r.int_inv λt zr=>?_;subst zr;refine oE hh.aq.ns λm hm=>?_;refine range1_rows (Fg hm) oF λh' tk t1 u1 v1 hR F N hk=>?_;exact hq _ h' tk (.of_keeps hk) (.jD (.inr (e.fresh bR.ns bf)) hR)⟩
theorem a7.zK{a b:Int}:a7 C env Γ (.type "range") m1 [.int a,.int b] md (.jD a b 1):=
 ⟨.inl ⟨_,rfl⟩,λA S U s h₀ vs Q E hr hh e bR rv hq=>by
  refine aM rv.q8 λv u zr zw=>?_;subst zr;refine oA zw λr r'=>?_;clear zw;refine oE r.int_inv λt zr=>?_;subst zr;refine oE r'.int_inv λt' zr=>?_;subst zr;refine oE hh.aq.ns λm hm=>?_;refine range2_rows (Fg hm) oF λh' tk t1 u1 v1 hR F N hk=>?_;exact hq _ h' tk (.of_keeps hk) (.jD (.inr (e.fresh bR.ns bf)) hR)⟩
theorem a7.D4{a b c:Int}(hc:c≠0)(Dv:c.natAbs<1073741824):a7 C env Γ (.type "range") m1 [.int a,.int b,.int c] md (.jD a b c):=
 ⟨.inl ⟨_,rfl⟩,λA S U s h₀ vs Q E hr hh e bR rv hq=>by
  cases rv with
  |cons r rv=>
   refine aM rv.q8 λv u zr zw=>?_;subst zr;refine oA zw λr' O'=>?_;clear zw;refine oE r.int_inv λt zr=>?_;subst zr;refine oE r'.int_inv λt' zr=>?_;subst zr;refine oE O'.int_inv λgV zr=>?_;subst zr;refine oE hh.aq.ns λm hm=>?_;refine range3_rows (Fg hm) oF hc (λh' tk t1 u1 v1 hR F N hk=>?_) (.inl (PyProof.noPylong_small Dv));exact hq _ h' tk (.of_keeps hk) (.jD (.inr (e.fresh bR.ns bf)) hR)⟩
noncomputable def A1(ns:List Int):List PV:=ns.map .int
theorem ab.ints{S:RD->Prop}:∀ {vs:List Rz} {ns:List Int},ab C.prog C.w S h vs (A1 ns)->IntsAre vs ns
 |[],[],_=>.nil
 |v::vs,n::ns,r=>by
  cases r with
  |cons a b=>
   refine oE a.int_inv λt zr=>?_;subst zr;exact .cons _ _ (ab.ints b)
 |[],n::ns,r=>by cases r
 |v::vs,[],r=>by cases r
theorem a7.max_list{ns:List Int}{M:Int}(hM:M∈ns)(hle:∀a∈ns,a<=M)(hN:autoParam (C.hd=false) oA8._auto_1):a7 C env Γ (.builtin "max") m1 [.list (A1 ns)] md (.int M):=
 ⟨.inr ⟨_,rfl⟩,λA S U s h₀ vs Q E hr hh e bR rv hq=>by
  refine aD rv.dq λv zr r=>?_;subst zr;refine aP r.aS λa us n zr zw=>?_;subst zr;refine dd zw λha eh ra=>?_;clear zw;refine oE hh.aq.ns λm hm=>?_;refine max_list_N (hr.1 hN) (Fg hm) oF (bz.bw eh) ra.ints (V1 hM) λh' M' t tk F N h1 h2=>?_;have:M'=M:=Wf (hle M' h1) (h2 M hM);subst this;exact hq _ h' tk (jk hm F N λω h=>h) (.int _ _)⟩
theorem a7.sum{ns:List Int}(hN:autoParam (C.hd=false) oA8._auto_1):a7 C env Γ (.builtin "sum") m1 [.list (A1 ns)] md (.int ns.sum):=
 ⟨.inr ⟨_,rfl⟩,λA S U s h₀ vs Q E hr hh e bR rv hq=>by
  refine aD rv.dq λv zr r=>?_;subst zr;refine aP r.aS λa us n zr zw=>?_;subst zr;refine dd zw λha eh ra=>?_;clear zw;refine oE hh.aq.ns λm hm=>?_;have hi:=ra.ints;refine oE hi.allInts.items λxs e'=>?_;have hl:=bz.bw eh;have q6:ns=xs.toList.map (·.1):=by
   rw[<-hi.numsOf,<-nums_intItems,<-e']
  rw[e']at hl;refine sum_intListG (hr.1 hN) hl λh' tk t' hk=>?_;have hs:preSum (numAt xs) xs.size=ns.sum:=by
   rw[q6,preSum_eq,TU (by simp)]
  rw[hs];exact hq _ h' tk (.of_keeps hk) (.int _ _)⟩
theorem a7.mP{x:PV}(hx:x= .list xs\/x= .tuple xs)(aF:xs.length<=lim):a7 C env Γ (.type "list") m1 [x] m1 (.list xs):=
 ⟨.inl ⟨_,rfl⟩,λA S U s h₀ vs Q E hr hh e bR rv hq=>by
  refine aD rv.dq λv zr r=>?_;subst zr;have MK:∀a us n T,(T= "list"\/T= "tuple")->s.heap.get? a=some {cls:=.type T,data:=.seq (us:List Rz).toArray n}->ab C.prog C.w (dH m1 S U h₀) s.heap us xs->RM (RF C.prog C.w) A (call (.type "list") [.ref a]) Q E s:=by
   intro a us n T hT eh ra;have hl:=ra.length;refine call_list_seq a hT eh rfl rfl (λh' c' hk ho=>?_) (by simp only[RX,hl];unfold lim at aF;show _<=2^24;omega);exact hq _ h' _ (.of_keeps hk) (.list (.inr (e.fresh bR.ns bf)) ho (ra.mono (λω z=>z) λb o ω ho=>hk b o ho))
  rcases hx with rfl|rfl
  ·refine aP r.aS λa us n zr zw=>?_;subst zr;refine dd zw λha eh ra=>?_;clear zw;exact MK a us n "list" (.inl rfl) eh ra
  ·refine aP r.gD λa us n zr zw=>?_;subst zr;refine dd zw λha eh ra=>?_;clear zw;exact MK a us n "tuple" (.inr rfl) eh ra⟩
theorem a7.vQ:a7 C env Γ (.type "type") m1 [.tuple xs] md (.raw (.type "tuple")):=
 ⟨.inl ⟨_,rfl⟩,λA S U s h₀ vs Q E hr hh e bR rv hq=>by
  refine aD rv.dq λv zr r=>?_;subst zr;exact call_type_of r.vJ (by decide) (hq _ s.heap _ (.refl _ _ _) (.raw _))⟩
section
variable{S:RD->Prop}
theorem ar.one{k:Nat}{x:PV}(r:aC C S h k v x f):ar C S h k [v] [x] f:=by
 have:=ar.cons r (.nil);simpa using this
end
section
variable{Γ:ag}{s:Ro}{Q:Flow->Ro->Prop}
theorem St.B1{i:Expr}{pos:Pos}{m:Nat}{k:Key}(hr:aB C A)(hA:aV C A env o Γ s)(hx:Γ.lookup x=some (some (m+1,.dict kvs)))(hE:dr C env (cv Γ) e m y)(hi:Ev C env (cv Γ) i true k.pv)
  (hnew:∀kv∈kvs,kv.1≠k) (aF:kvs.length<=lim)
  (kk:∀s',aV C A env o ((x,some (m+1,.dict (kvs++[(k,y)])))::Γ) s'->RM (RF C.prog C.w) A (execs rest env) Q E s')
  (hs:autoParam (SR e (some (.Subscript (.Name x px) i p)) pos.line env=pure false) oA1._auto_1) (hd:autoParam (bk x) oA1._auto_1):
  RM (RF C.prog C.w) A (execs (.Assign [.Subscript (.Name x px) i p] e pos::rest) env) Q E s:=by
 refine RI (wpAny_Assign_Subscript ?_ hs);obtain⟨S,fp,hA,av⟩:=hA;refine hE A S _ s _ E hr hA.here λu h1 t1 f bQ ru aG hf=>?_;refine ei (hA.vars x _ _ hx) λbS v hv r=>?_;have Bq:=hv.ext hA.aq hA.bE bQ;refine Sz (ao (s:={s with heap:=h1,toks:=t1}) (hA.aq.ext hA.bE bQ) Bq ?_) hd;refine hi A S _ {s with heap:=h1,toks:=t1} _ E hr (hA.here.ext bQ) λw h2 t2 c7 zL=>?_;have ex:=bQ.trans c7;refine aP r.view λa vs cW zr zw=>?_;subst zr;refine iC zw λhF hl ho rs=>?_;clear zw;have oR:=hA.c9 x;have fC:=λa ha=>(hA.fold x a ha);have FN:∀c,S c->c∉fp x:=λc hc=>(hA.aO c hc).2.2 x;have MO:∀c,S c->¬Fz A env c:=λc hc e=>(hA.aO c hc).2.1 (.inl e);rw[hF]at oR fC FN;have Pd: ¬Fz A env a:=λe=>(fC a Rm).2.1 (.inl e);have sF:=cJ.at ho λob e=>ex.keep a ob Pd e;have hlen:=ar.length rs;have IL:((kvs.map (·.1)).zip vs).length=kvs.length:=by simp at hlen;simp[hlen]
 refine YD (s:={s with heap:=h2,toks:=t2}) zL.key sF (λh₁ kC zo=>?_) (by rw[IL];unfold lim at aF;show _<=2^24;omega);have dE:stored ((kvs.map (·.1)).zip vs) k u=((kvs++[(k,y)]).map (·.1)).zip (vs++[u]):=by
  unfold stored;rw[if_neg]
  ·rw[R9,Yv (by simp at hlen;simp[hlen])];rfl
  ·simp only[VZ,not_exists,not_and,decide_eq_true_eq];rintro⟨a',b'⟩ hm;have:=(Yx hm).1;refine aD (RE.mp this) λkv h1 h2=>?_;exact λe=>hnew kv h1 (h2.trans e)
 rw[dE]at kC;have kd:∀b ob,b≠a->h2.get? b=some ob->h₁.get? b=some ob:=λb ob hb e=>(zo.2 b hb).trans e;have HP:∀b∈cW,b≠a/\¬Fz A env b:=λb hb=>⟨λe=>(RO.mp oR).1 (e▸hb),λe=>(fC b (Rn _ hb)).2.1 (.inl e)⟩;have du:∀b∈f,b≠a/\¬Fz A env b/\b∉a::cW:=λb hb=>by
  have hn:=(hf b hb).1;refine⟨λe=>?_,λe=>?_,λhm=>?_⟩
  ·have:=(fC a Rm).1;rw[<-e,hn]at this;cases this
  ·have:=Fz.there hA.here e;rw[hn]at this;cases this
  ·have:=(fC b hm).1;rw[hn]at this;cases this
 refine kk _ (aV.upd (f':=a::(cW++f)) hA av ex bS hv (λb=>b=a) kd (λb hb=>by rw[hb,hF];exact Rm) (λb hb=>by rw[hb];refine aP kC λob _ _ h _=>?_;clear kC;rw[h];rfl) (λb hb=>?_) ?_ ?_ _)
 ·rcases Rr.mp hb with e|hb
  ·exact .inl (by rw[hF,e];exact Rm)
  ·rcases Rw.mp hb with hb|hb
   ·exact .inl (by rw[hF];exact Rn _ hb)
   ·exact .inr (hf b hb)
 ·rw[RO];refine⟨λhm=>?_,?_⟩
  ·rcases Rw.mp hm with hm|hm
   ·exact(RO.mp oR).1 hm
   ·exact(du a hm).1 rfl
  ·rw[RH];exact⟨(RO.mp oR).2,aG,λb hb c hc e=>(du c hc).2.2 (by rw[<-e];exact Rn _ hb)⟩
 ·refine .dict hl kC ?_;rw[R9];refine ar.append ?_ (ar.one ?_)
  ·exact rs.mono (λb hb=>.inl hb) (λb ob hb e=>kd b ob (λe'=>FN b hb (e'▸Rm)) (ex.keep b ob (MO b hb) e)) λb hb ob e=>kd b ob (HP b hb).1 (ex.keep b ob (HP b hb).2 e)
  ·refine ru.gu.mono (λb hb=>?_) (λb ob hb e=>?_) λb hb ob e=>kd b ob (du b hb).1 (c7.keep b ob (du b hb).2.1 e)
   ·rcases hb.1.1 with g|g
    ·exact .inl g
    ·refine .inr ⟨g,c7.live (hA.aq.ext hA.bE bQ).ns hb.2,λhm=>?_⟩;rcases Rr.mp hm with e|hm
     ·have:=(fC a Rm).1;rw[<-e,g]at this;cases this
     ·rcases Rw.mp hm with hm|hm
      ·have:=(fC b (Rn _ hm)).1;rw[g]at this;cases this
      ·exact hb.1.2 hm
   ·have Qh:b≠a:=λe'=>by
     rcases hb.1.1 with g|g
     ·exact FN b g (e'▸Rm)
     ·have:=(fC a Rm).1;rw[<-e',g]at this;cases this
    have Lr: ¬Fz A env b:=λe'=>by
     rcases hb.1.1 with g|g
     ·exact MO b g e'
     ·have:=Fz.there hA.here e';rw[g]at this;cases this
    exact kd b ob Qh (c7.keep b ob Lr e)
theorem St.ite{pos:Pos}{b:Bool}(hr:aB C A)(hA:aV C A env o Γ s)(hB:cX C env (cv Γ) test b)
  (k:∀s',aV C A env o Γ s'->RM (RF C.prog C.w) A (execs (if b then body else orelse) env) (F2 C A env rest Q E) E s'):
  RM (RF C.prog C.w) A (execs (.If test body orelse pos::rest) env) Q E s:=by
 refine RI (wpAny_If ?_);obtain⟨S,fp,bF,av⟩:=id hA;refine hB A S _ s _ E hr bF.here λh' t' ex=>?_;have:=k _ (hA.ext ex t');cases b
 ·exact Sf this (λf s h=>by cases f<;>exact h) λω ω h=>h
 ·exact Sf this (λf s h=>by cases f<;>exact h) λω ω h=>h
theorem St.nil(h:Q .next s):RM (RF C.prog C.w) A (execs [] env) Q E s:=Ws h
theorem St.brk{pos:Pos}(h:Q .brk s):RM (RF C.prog C.w) A (execs (.Break pos::rest) env) Q E s:=RI (wpAny_Break h)
end
noncomputable def Cx.up(C:Cx):Cx:={C with cc:=C.cc+1}
noncomputable def qO(fd:FuncData):Bool:=
 fd.scope.kind== .function&&decide (fd.scope.names.map (·.1)).Nodup&&fd.scope.names.all (λx=>x.2 != .free&&x.1 !=("__classdict__":Str))&& !fd.scope.isCoroutine&& !fd.scope.isGenerator&&fd.globals==Rt&&fd.builtins==Xa&&fd.closure.isEmpty
structure vp(fd:FuncData):Prop where
 kind:fd.scope.kind= .function
 nodup:(fd.scope.names.map (·.1)).Nodup
 free:∀x∈fd.scope.names,x.2≠.free/\x.1≠("__classdict__":Str)
 co:fd.scope.isCoroutine=false
 gen:fd.scope.isGenerator=false
 glob:fd.globals=Rt
 gY:fd.builtins=Xa
 Qz:fd.closure=[]
theorem vp.of(h:qO fd=true):vp fd:=by
 simp only[qO,SU,beq_iff_eq,decide_eq_true_eq,Sv,bne_iff_ne,ne_eq,WI,List.isEmpty_iff]at h;refine oA h λrE h8=>?_;clear h;obtain⟨⟨⟨⟨⟨⟨h1,h2⟩,h3⟩,h4⟩,h5⟩,h6⟩,h7⟩:=rE;exact⟨h1,h2,h3,h4,h5,h6,h7,h8⟩
theorem pL{kindOf:Str->Option NameKind}:∀ (aY:List (Str×Rz)) (m:Str->Option Rz) (x:Str) (v:Rz),(aY.map (·.1)).Nodup->kindOf x=some .local->((x,v)∈aY\/(m x=some v/\∀u,(x,u)∉aY))->bindL kindOf aY m x=some v
 |[],m,x,v,_,hk,h=>by
  rcases h with h|h
  ·cases h
  ·exact h.1
 |(n,u)::r,m,x,v,aG,hk,h=>by
  have gw:n∉r.map (·.1)/\(r.map (·.1)).Nodup:=by simpa using aG
  unfold bindL;refine pL r _ x v gw.2 hk ?_;rcases h with h|⟨h1,h2⟩
  ·rcases Rr.mp h with e|h
   ·cases e;refine .inr ⟨by rw[if_pos hk];simp,λu hu=>gw.1 (RE.mpr ⟨_,hu,rfl⟩)⟩
   ·exact .inl h
  ·refine .inr ⟨?_,λu hu=>h2 u (Rn _ hu)⟩;have aX:x≠n:=λe=>h2 u (e▸Rm);split
   ·simp only[aX,if_false];exact h1
   ·exact h1
theorem pV{kindOf:Str->Option NameKind}:∀ (aY:List (Str×Rz)) (m:Str->Option Rz) (x:Str) (v:Rz),(aY.map (·.1)).Nodup->kindOf x≠some .local->((x,v)∈aY\/(m x=some v/\∀u,(x,u)∉aY))->bindC kindOf aY m x=some v
 |[],m,x,v,_,hk,h=>by
  rcases h with h|h
  ·cases h
  ·exact h.1
 |(n,u)::r,m,x,v,aG,hk,h=>by
  have gw:n∉r.map (·.1)/\(r.map (·.1)).Nodup:=by simpa using aG
  unfold bindC;refine pV r _ x v gw.2 hk ?_;rcases h with h|⟨h1,h2⟩
  ·rcases Rr.mp h with e|h
   ·cases e;refine .inr ⟨by rw[if_neg hk];simp,λu hu=>gw.1 (RE.mpr ⟨_,hu,rfl⟩)⟩
   ·exact .inl h
  ·refine .inr ⟨?_,λu hu=>h2 u (Rn _ hu)⟩;have aX:x≠n:=λe=>h2 u (e▸Rm);split
   ·exact h1
   ·simp only[aX,if_false];exact h1
theorem aB.down(hr:aB C.up A)(env:Env):aB C (A.deeper env):=by
 refine dd hr λh1 h2 h3=>?_;clear hr;refine⟨h1,?_,?_⟩
 ·show A.depth+1+40+4*C.cc<recursionLimit;have:C.up.cc=C.cc+1:=rfl;rw[this]at h2;omega
 ·show A.units+3+400+40*C.cc<cLine;have:C.up.cc=C.cc+1:=rfl;rw[this]at h3;omega
theorem aB.mono{A':Sg}(hr:aB C A)(h1:A'.handled=A.handled)(h2:A'.depth<=A.depth+2)(h3:A'.units<=A.units+8)(C':Cx)(hl:C'.cc+1<=C.cc)(hh:C'.hd=C.hd):aB C' A':=by
 refine dd hr λg1 g2 g3=>?_;clear hr;exact⟨λhd=>h1.trans (g1 (hh▸hd)),by omega,by omega⟩
theorem fc.of{C':Cx}(x:fc C A h)(e:C'.K=C.K):fc C' A h:=by
 refine aD x.ex λl hl hx=>?_;exact⟨l,hl,by rw[e];exact hx⟩
theorem ez{A':Sg}(e:A'.frames=A.frames){a:RD}:onStack A' a↔onStack A a:=by unfold onStack;rw[e]
theorem fc.frames{A':Sg}(x:fc C A h)(e:A'.frames=A.frames):fc C A' h:=by
 refine aD x.ex λl hl hx=>?_;exact⟨l,e.trans hl,hx⟩
structure j1(A:Sg)(env:Env):Prop where
 kind:env.scope.kind= .function
 fr:∃l,A.frames=some (env::l)
 own:env.frame=some env.locals
noncomputable def i7(env:Env)(a:RD):Prop:=a=env.locals\/∃x,env.cells.lookup x=some a
theorem nK{a:RD}(fx:∃l,A.frames=some l)(hf:env.frame=some env.locals):onStack (A.deeper env) a↔a=env.locals\/onStack A a:=by
 refine oE fx λl hl=>?_;clear fx;have e:(A.deeper env).frames=some (env::l):=Vl hl;unfold onStack;rw[e,hl];constructor
 ·rintro⟨l',vP,e',he,tK⟩;cases vP;rcases Rr.mp he with rfl|he
  ·rw[hf]at tK;exact .inl (R7 tK).symm
  ·exact .inr ⟨l,rfl,e',he,tK⟩
 ·rintro(rfl|⟨l',vP,e',he,tK⟩)
  ·exact⟨_,rfl,env,Rm,hf⟩
  ·cases vP;exact⟨_,rfl,e',Rn _ he,tK⟩
structure dv(A:Sg)(h h':Heap):Prop where
 keep:∀a b,¬onStack A a->h.get? a=some b->h'.get? a=some b
 fr:∀a b,onStack A a->h.get? a=some b->∃sl,h'.get? a=some {b with slots:=sl}
theorem dv.slots(k:dv A h h'){a:RD}{b:Obj}(e:h.get? a=some b):∃sl,h'.get? a=some {b with slots:=sl}:=by
 by_cases hs:onStack A a
 ·exact k.fr a b hs e
 ·exact⟨b.slots,k.keep a b hs e⟩
theorem dv.ns(k:dv A h h'){a:RD}{m:Str->Option Rz}(hn:h.Ns a m):h'.Ns a m:=by
 refine fh hn λo es ep ho hd r=>?_;clear hn;refine oE (k.slots ho) λsl h1=>?_;exact⟨_,es,ep,h1,hd,r⟩
theorem dv.ext(k:dv A h h'):Ext A env h h':=
 ⟨λa b ha e=>k.keep a b (λhs=>ha (.inr hs)) e,λm hm=>k.ns hm,λa b hs ω e=>k.fr a b hs e⟩
structure pF(A:Sg)(B:RD->Prop)(h h':Heap):Prop where
 keep:∀a b,¬onStack A a->¬B a->h.get? a=some b->h'.get? a=some b
 fr:∀a b,onStack A a->h.get? a=some b->∃sl,h'.get? a=some {b with slots:=sl}
theorem dv.b{B:RD->Prop}(x:dv A h h'):pF A B h h':=⟨λa b ha ω e=>x.keep a b ha e,x.fr⟩
theorem pF.ns{B:RD->Prop}(k:pF A B h h'){a:RD}{m:Str->Option Rz}(hb: ¬B a)(hn:h.Ns a m):h'.Ns a m:=by
 refine fh hn λo es ep ho hd r=>?_;clear hn;by_cases hs:onStack A a
 ·refine oE (k.fr a o hs ho) λsl h1=>?_;exact⟨_,es,ep,h1,hd,r⟩
 ·exact⟨o,es,ep,k.keep a o hs hb ho,hd,r⟩
theorem eH{ob:Obj}{args:Args}{s:Ro}{S:RD->Prop}{fp:Str->List RD}{Γ:ag}(P:List (Str×Rz)->Heap->Prop)(hr:aB C.up A)(cx:C.Ok)(B:Base C s.heap)(fx:fc C A s.heap)
  (hf:C.K.lookup fa=some ob) (hd:ob.data= .func fd) (iH:vp fd) (pN:codeIn C.K fd.code fd.qualname=true) (i5:fd.body= .stmts body)
  (e7:∀ (Q:List (Str×Rz)->Ro->Prop) (E:Rz->Ro->Prop),(∀aY h1 t1,P aY h1->Q aY {s with heap:=h1,toks:=t1})->RM (RF C.prog C.w) A.in1 (bindArgs fd args) Q E s)
  (hP:∀aY h1,P aY h1->(∀a b,s.heap.get? a=some b->h1.get? a=some b)/\(aY.map (·.1)).Nodup/\(∀x∈aY,fd.scope.names.lookup x.1=some .local\/fd.scope.names.lookup x.1=some .cell)/\
   (∀a,S a->(h1.get? a).isSome=true/\¬onStack A a)/\(∀a,S a->∀x,a∉fp x)/\(∀x a,a∈fp x->(h1.get? a).isSome=true/\¬onStack A a/\Rt<a/\∀o,C.K.lookup a≠some o)/\
   ∀x n pv,Γ.lookup x=some (some (n,pv))->∃v,(x,v)∈aY/\aC C S h1 n v pv (fp x))
  (cZ:∀x y a,a∈fp x->a∈fp y->x=y) (c9:∀x,(fp x).Nodup)
  (h:∀env h2 t2,env.scope=fd.scope->(∀a b,s.heap.get? a=some b->h2.get? a=some b)->(∀a,i7 env a->s.heap.get? a=none)->At C (A.deeper env) env S fp Γ h2->(∀x,env.kindOf x=fd.scope.names.lookup x)->aB C (A.deeper env)->(∀a,onStack (A.deeper env) a↔a=env.locals\/onStack A a)->j1 (A.deeper env) env->
   RM (RF C.prog C.w) (A.deeper env) (execs body env) (λf s'=>R (.ok (.ret (match f with| .ret v=>v|_=>.none))) s')
    (λe s'=>RM (RF C.prog C.w) (A.deeper env) (leaving env e) (λω cP=>R (.error e) cP) (λe' cP=>R (.error e') cP) s') {s with heap:=h2,toks:=t2}):
  TR (RF C.prog C.w) A (.call (.ref fa) args) R s:=by
 refine codeAny_call_function (by have:=hr.2.1;omega) (B.cB _ _ hf) hd iH.co iH.gen i5 (codeRec_of B.cB pN) ?_;refine e7 _ _ λaY h1 t1 hp=>?_;refine rM (hP aY h1 hp) λhk aG cK hS GG jt hv=>?_;rw[iH.Qz];refine wpAny_newFunctionEnv_cells (s:={s with heap:=h1,toks:=t1}) iH.kind (λx hx=>?_) λenv he s' X=>?_
 ·rcases cK x hx with h|h
  ·exact .inl h
  ·exact .inr ⟨h,cellsFrom_some _ _ _ (.inl h)⟩
 have Xk:=X.toInCall.keep;have kk:∀a b,s.heap.get? a=some b->s'.heap.get? a=some b:=λa b e=>Xk a b (hk a b e);have me:∀x,env.kindOf x=fd.scope.names.lookup x:=λx=>by rw[he];rfl
 have A4:env.scope=fd.scope:=by rw[he];rfl
 refine jH X.toInCall.same λh2 t2 zr=>?_;subst zr;have Xn:=X.toInCall.ns;have Xf:=X.toInCall.fresh;have oD:∀a,h1.objs.size<=a->h1.get? a=none:=λa ha=>by
  cases hq:h1.get? a with
  |none=>rfl
  |some b=>exact absurd (Ss hq) (SV.mpr ha)
 have Kl:∀a b,C.K.lookup a=some b->a<h1.objs.size:=λa b e=>Ss (hk a b (B.cB a b e));refine aD cx.g λes hg _=>?_;have Bn:Rt<h1.objs.size:=by
  unfold Cx.oj at hg;cases jT:C.K.lookup Rt with
  |none=>rw[jT]at hg;cases hg
  |some b=>exact Kl _ _ jT
 have Gc:h1.objs.size<=env.locals:=Xf;have J3:∀x c,env.cells.lookup x=some c->h1.objs.size<=c:=λx c hc=>RS (RJ Gc (X.above x c (Vt hc)));have Bm:bH C h2 env:=by
  refine{kind:=by rw[A4];exact iH.kind,glob:=by rw[he];exact iH.glob,gY:=by rw[he];exact iH.gY,ns:=⟨_,Xn⟩,cell:=λx hx=>?_,call:=λx c hc=>⟨_,X.cell x c hc⟩,apart:=λx y c hx hy=>PySem.name_of_addr X.apart (Vt hx) (Vt hy),et:=λx c hc=>TA (X.above x c (Vt hc)),below:=λa b e=>Ru (Kl a b e) Gc,high:=Ru Bn Gc,dB:=λx c hc=>⟨Ru Bn (J3 x c hc),λa b e=>Sm (Ru (Kl a b e) (J3 x c hc))⟩};rw[me]at hx;rcases hx with hx|hx
  ·have:(env.cells.lookup x).isSome=true:=by rw[he];exact cellsFrom_some _ _ _ (.inl hx)
   refine oE (Rv.mp this) λc hc=>?_;exact⟨c,_,hc,X.cell x c hc⟩
  ·exact absurd rfl (iH.free _ (bC hx)).1
 have N2:Base C h2:=by
  refine⟨λa b e=>kk a b (B.cB a b e),B.nolimit.keeps kk,?_,?_⟩
  ·refine aD B.o3 λmb g1 g2=>?_;exact⟨mb,g1.keeps kk,g2⟩
  ·refine aD B.nodigits λmc g1 g2=>?_;exact⟨mc,g1.keeps kk,g2⟩
 have du:∀a,i7 env a->h1.get? a=none:=λa ha=>by
  rcases ha with rfl|⟨x,hc⟩
  ·exact oD _ Gc
  ·exact oD _ (J3 x a hc)
 have te:env.frame=some env.locals:=by rw[he];rfl
 have mm:∀a,onStack (A.deeper env) a↔a=env.locals\/onStack A a:=λa=>nK (aD fx.ex λl hl _=>⟨l,hl⟩) te;have yW:∀a,(h1.get? a).isSome=true->¬onStack A a->¬ax (A.deeper env) env a:=λa ha hs hf=>by
  rcases hf with(hf|hf)|hf
  ·rw[du a (.inl hf)]at ha;cases ha
  ·rcases(mm a).mp hf with hf|hf
   ·rw[du a (.inl hf)]at ha;cases ha
   ·exact hs hf
  ·rw[du a (.inr hf)]at ha;cases ha
 have P0:fc C (A.deeper env) h2:=by
  refine aD fx.ex λl hl hx=>?_;refine⟨env::l,Vl hl,λe hm=>?_⟩;rcases Rr.mp hm with rfl|hm
  ·refine fh Xn λo es ep ho hd _=>?_;clear Xn;exact⟨by rw[Bm.kind];decide,_,o,es,ep,te,Bm.below,Bm.high,ho,hd⟩
  ·refine fP (hx e hm) λg0 L o es ep g1 g2 g3 g4 g5=>?_;exact⟨g0,L,o,es,ep,g1,g2,g3,kk L o g4,g5⟩
 have hA:At C (A.deeper env) env S fp Γ h2:=by
  refine{cx:=cx,base:=N2,aq:=Bm,bE:=P0,aO:=λa ha=>⟨?_,yW a (hS a ha).1 (hS a ha).2,GG a ha⟩,cZ:=cZ,c9:=c9,fold:=λx a ha=>⟨?_,yW a (jt x a ha).1 (jt x a ha).2.1,(jt x a ha).2.2⟩,vars:=λx n pv hx=>?_}
  ·refine oE (Rv.mp (hS a ha).1) λb hb=>?_;rw[Xk a b hb];rfl
  ·refine oE (Rv.mp (jt x a ha).1) λb hb=>?_;rw[Xk a b hb];rfl
  ·refine aD (hv x n pv hx) λv hm ro=>?_;have hl:=cK _ hm;refine⟨by rw[me];rcases hl with h|h<;>rw[h]<;>rfl,v,?_,ro.mono (λω z=>z) (λa b ω e=>Xk a b e) λa ω b e=>Xk a b e⟩;rcases hl with h|h
   ·exact .inl ⟨by rw[me];exact h,_,Xn,pL aY _ x v aG (by rw[me];exact h) (.inl hm)⟩
   ·have:(env.cells.lookup x).isSome=true:=by rw[he];exact cellsFrom_some _ _ _ (.inl h)
    refine oE (Rv.mp this) λc hc=>?_;have M6:=X.cell x c hc;rw[pV aY _ x v aG (by rw[me,h];decide) (.inl hm)]at M6;exact .inr ⟨.inl (by rw[me];exact h),(iH.free _ (bC h)).2,c,hc,M6⟩
 refine⟨N2.nolimit,codeAny_func ?_⟩;refine h env h2 t2 A4 kk (λa ha=>?_) hA me (hr.down env) mm ⟨Bm.kind,(aD fx.ex λl hl _=>⟨l,Vl hl⟩),te⟩;cases hq:s.heap.get? a with
 |none=>rfl
 |some b=>have:=du a ha;rw[hk a b hq]at this;cases this
noncomputable def Fn(C:Cx)(fa:RD)(xs:List PV)(pv:PV):Prop:=
 ∀ (A:Sg) (S:RD->Prop) (s:Ro) (vs:List Rz) (R:Result->Ro->Prop),aB C.up A->C.Ok->Base C s.heap->fc C A s.heap->(∀a,S a->(s.heap.get? a).isSome=true/\¬onStack A a)->ab C.prog C.w S s.heap vs xs->
  (∀v h' t',dv A s.heap h'->Rd C.prog C.w (λa=>S a\/s.heap.get? a=none) h' v pv->R (.ok (.ret v)) {s with heap:=h',toks:=t'})->TR (RF C.prog C.w) A (.call (.ref fa) ⟨vs,[]⟩) R s
noncomputable def fG:List Str->List PV->ag
 |n::ns,x::xs=>(n,some (0,x))::fG ns xs
 |_,_=>[]
theorem gM{S:RD->Prop}(ns:List Str):∀ (xs:List PV) (vs:List Rz) (x:Str) (n:Nat) (pv:PV),ab C.prog C.w S h vs xs->(fG ns xs).lookup x=some (some (n,pv))->n=0/\∃v,(x,v)∈ns.zip vs/\Rd C.prog C.w S h v pv:=by
 induction ns with
 |nil=>intro xs vs x n pv r hl;cases xs<;>cases hl
 |cons m ns ih=>
  intro xs vs x n pv r hl;cases xs with
  |nil=>cases hl
  |cons y xs=>
  cases r with
  |cons a b=>
   unfold fG at hl;rw[RB]at hl;cases hb:x==m with
   |true=>
    rw[hb]at hl;cases hl;rw[beq_iff_eq.mp hb];exact⟨rfl,_,Rm,a⟩
   |false=>
    rw[hb]at hl;refine ei (ih xs _ x n pv b hl) λh1 v h2 h3=>?_;exact⟨h1,v,Rn _ h2,h3⟩
theorem hZ:∀ (ns:List α) (vs:List β),ns.length=vs.length->(ns.zip vs).map (·.1)=ns
 |[],[],_=>rfl
 |n::ns,v::vs,h=>by simp[hZ ns vs (by simpa using h)]
theorem Fn.of{ob:Obj}{pv:PV}(ns:List Str)(hf:C.K.lookup fa=some ob)(hd:ob.data= .func fd)(iH:qO fd=true)(pN:codeIn C.K fd.code fd.qualname=true)(i5:fd.body= .stmts body)
  (hlen:ns.length=xs.length) (aG:ns.Nodup) (cK:∀x∈ns,fd.scope.names.lookup x=some .local\/fd.scope.names.lookup x=some .cell)
  (e7:∀vs:List Rz,vs.length=xs.length->bindArgs fd ⟨vs,[]⟩=pure (ns.zip vs))
  (walk:∀ (A:Sg) (env:Env) (o:iD) (s:Ro) (Q:Flow->Ro->Prop) (E:Rz->Ro->Prop),env.scope=fd.scope->j1 A env->aB C A->aV C A env o (fG ns xs) s->(∀v s',Gs C A env o pv v s'->Q (.ret v) s')->RM (RF C.prog C.w) A (execs body env) Q E s):
  Fn C fa xs pv:=λA S s vs R hr cx B fx hS rv hR=>by
 have zy:=rv.length;refine eH (S:=S) (fp:=λω=>[]) (Γ:=fG ns xs) (λaY h1=>aY=ns.zip vs/\h1=s.heap) hr cx B fx hf hd (.of iH) pN i5 (λQ E hq=>?_) (λaY h1 hp=>?_) (λω ω ω h=>nomatch h) (λω=>Sn) λenv h2 t2 yL hk du hA eJ mz mm g9=>?_
 ·rw[e7 vs zy];exact RK (hq _ s.heap s.toks ⟨rfl,rfl⟩)
 ·obtain rfl:=hp.1.symm;obtain rfl:=hp.2.symm;have hz:(ns.zip vs).map (·.1)=ns:=hZ ns vs (by rw[hlen,zy]);refine⟨λω ω e=>e,by rw[hz];exact aG,λx hx=>cK _ (by rw[<-hz];exact RE.mpr ⟨x,hx,rfl⟩),hS,(λω ω ω h=>nomatch h),(λω ω h=>nomatch h),λx n pv hl=>?_⟩;refine oA (gM ns xs vs x n pv rv hl) λzr zw=>?_;subst zr;refine aD zw λv h1 h2=>?_;clear zw;exact⟨v,h1,.val h2⟩
 ·refine walk _ env ⟨S,λω=>[],{s with heap:=h2,toks:=t2}⟩ _ _ _ yL g9 mz ⟨S,λω=>[],hA,Step.refl _ _ _ _ _⟩ λv s' fV=>?_;obtain⟨S',ed,af,bF,av,rd⟩:=fV;refine jH av.same λh3 t3 e=>?_;subst e;have own:∀a b,s.heap.get? a=some b->¬i7 env a:=λa b hb hf=>by rw[du a hf]at hb;cases hb
  refine hR v h3 t3 ⟨λa b hs hb=>?_,λa b hs hb=>?_⟩ (rd.mono (λa ha=>?_) λω ω ω e=>e)
  ·refine av.keep a b (λhf=>?_) (λω h=>nomatch h) (hk a b hb);rcases hf with(hf|hf)|hf
   ·exact own a b hb (.inl hf)
   ·exact((mm a).mp hf).elim (λh=>own a b hb (.inl h)) hs
   ·exact own a b hb (.inr hf)
  ·exact av.fr a b ((mm a).mpr (.inr hs)) (λe=>own a b hb (.inl e)) (hk a b hb)
  ·rcases av.mu a ha with h|⟨_,h⟩|h
   ·exact .inl h
   ·exact nomatch h
   ·refine .inr ?_;cases hq:s.heap.get? a with
    |none=>rfl
    |some b=>have h':h2.get? a=none:=h;rw[hk a b hq]at h';cases h'
theorem Ev.fn{id:Str}{pos:Pos}{ob:Obj}(hk:env.kindOf id=some .globalImplicit)(hg:C.glob id=some (.ref fa))(hf:C.K.lookup fa=some ob)(hd:ob.data= .func fd)
  (ha:ba C.up env Γ args md xs) (hF:Fn C fa xs y)
  (aX:autoParam (zT args pos) oA4._auto_1) (eg:autoParam (bk id) oA1._auto_1):
  Ev C.up env Γ (.Call (.Name id p) args [] pos) md y:=λA S U s Q E hr hh hq=>by
 refine TC ?_;refine Sz (bu hh.cx hh.base hh.aq hk (.inl hg) ?_) eg;refine callWith_function (o:=ob) (fd:=fd) ?_;refine jH (aX env) λx rest C2=>?_;rw[C2];refine evalArgs_plain ?_;rw[<-C2];refine ha A S U s pos _ E hr hh λvs h2 t2 e2 r2=>?_;have hB:=(hh.ext e2).base;refine⟨⟨hB.cB _ _ hf,hd⟩,Uy ?_⟩;have B':Base C h2:=⟨hB.cB,hB.nolimit,hB.o3,hB.nodigits⟩;have Ov:C.Ok:=⟨hh.cx.g⟩;have Lc:ab C.prog C.w (λa=>dH md S U s.heap a/\(h2.get? a).isSome=true) h2 vs xs:=r2.there;have bR:∀a,dH md S U s.heap a->¬onStack A a:=λa ha hs=>dH.xI hh ha (.inr hs);refine hF A _ {s with heap:=h2,toks:=t2} vs _ hr Ov B' ((hh.ext e2).bE.of rfl) (λa ha=>⟨ha.2,bR a ha.1⟩) Lc λv h3 t3 jW rd=>?_;refine hq v h3 t3 (e2.trans jW.ext) (rd.mono (λa ha=>?_) λω ω ω e=>e);rcases ha with ha|ha
 ·exact ha.1
 ·exact .inr (e2.fresh hh.aq.ns ha)
noncomputable def e0:Heap:={objs:=#[]}
noncomputable def sT(h:Heap)(L:RD):List (RD×Obj):=(RG h.objs.size).filterMap λa=>if a=L then none else(h.get? a).map λo=>(a,o)
set_option tactic.hygienic true in
theorem dO{a:RD}{o:Obj}:(a,o)∈sT h L↔a≠L/\h.get? a=some o:=by
 unfold sT;rw[Uu];constructor
 ·rintro⟨b,_,hb⟩;split at hb
  ·cases hb
  ·rename_i aX;cases hg:h.get? b with
   |none=>rw[hg]at hb;cases hb
   |some o'=>rw[hg]at hb;simp at hb;refine oA hb λzr zw=>?_;clear hb;subst zr;subst zw;exact⟨aX,hg⟩
 ·rintro⟨aX,ho⟩;exact⟨a,RW.mpr (Ss ho),by simp[aX,ho]⟩
theorem Aa{a:RD}:e0.get? a=none:=by
 cases hq:e0.get? a with
 |none=>rfl
 |some o=>exact absurd (Ss hq) (Ui _)
theorem JJ{m:Str->Option Rz}(hn:h.Ns L m):Fr e0 L h m:=⟨hn,λb o e=>(by rw[Aa]at e;cases e),RU _⟩
theorem xf:News e0 L h (sT h L):=by
 rintro⟨a,o⟩ hp;refine oA (dO.mp hp) λh1 h2=>?_;exact⟨h2,h1,Aa⟩
theorem nJ{a:RD}{o:Obj}(hL:a≠L)(ho:h.get? a=some o):∃pre post,sT h L=pre++(a,o)::post/\(∀p∈pre,p.1≠a)/\∀p∈post,p.1≠a:=by
 refine jH (X7 (dO.mpr ⟨hL,ho⟩)) λpre post e=>?_;have aG:((sT h L).map (·.1)).Nodup:=by
  have hs:((sT h L).map (·.1)).Sublist (RG h.objs.size):=by
   unfold sT;generalize RG h.objs.size=l
   induction l with
   |nil=>simp
   |cons b r ih=>
    rw[List.filterMap_cons];by_cases hb:b=L
    ·simp only[hb,if_true];exact ih.trans (Xv _ _)
    ·simp only[hb,if_false];cases hq:h.get? b with
     |none=>simp only[V0];exact ih.trans (Xv _ _)
     |some q=>simp only[SM,Sl];exact ih.cons_cons b
  exact hs.nodup Tw
 refine⟨pre,post,e,λp hp Kx=>?_,λp hp Kx=>?_⟩
 ·rw[e,R9,Sl,RH]at aG;exact aG.2.2 p.1 (RE.mpr ⟨p,hp,rfl⟩) a Rm Kx
 ·rw[e,R9,Sl,RH]at aG;exact(RO.mp aG.2.1).1 (RE.mpr ⟨p,hp,Kx⟩)
section
variable{prog:Sw}{w:TG}{s:Ro}{K:Frag}{x c p:RD}{ox:Obj}{name:Str}
noncomputable def fQ(L d:RD)(h h':Heap):Prop:=(∀a o,a≠L->a≠d->h.get? a=some o->h'.get? a=some o)/\∀m,h.Ns L m->h'.Ns L m
theorem pR{d:RD}{m:Str->Option Rz}{pre post:List (RD×Obj)}{od Ks:Obj}(hn:h.Ns L m)(e:sT h L=pre++(d,od)::post)(F:Fr e0 L h' m)(N:News e0 L h' (pre++(d,Ks)::post)):fQ L d h h'/\h'.get? d=some Ks:=by
 refine⟨⟨λa o ha hd ho=>?_,λm' iA=>?_⟩,(N (d,Ks) (R3 _ Rm)).1⟩
 ·have hm:=dO.mpr ⟨ha,ho⟩;rw[e]at hm;rcases Rw.mp hm with hm|hm
  ·exact(N (a,o) (RC _ hm)).1
  ·rcases Rr.mp hm with hm|hm
   ·cases hm;exact absurd rfl hd
   ·exact(N (a,o) (R3 _ (Rn _ hm))).1
 ·have:m'=m:=funext λx=>iA.agree hn x;subst this;exact F.ns
theorem wo{es:List DictEntry}{n:Nat}{m:Str->Option Rz}{Q:Unit->Ro->Prop}(hn:s.heap.Ns L m)(X:K.In s.heap)(I:InstAt s.heap x ox c (some (dictOf es n)))(hd:ox.dict=some dx)(hL:dx≠L)
  (hs:findIn K (.ref c) "__setattr__" =some (some (.builtin "object.__setattr__"))) (hp:plainOver K c=true) (ht:takerIn K c name=some none) (hh:hasDictIn K c=true) (hl:(getL name es).isSome=true)
  (hz:(putL name (Un w.params name) (.str name (s.toks+1)) v es).length<=1000)
  (h:∀h',fQ L dx s.heap h'->h'.get? dx=some (dictOf (putL name (Un w.params name) (.str name (s.toks+1)) v es) (putN name es n))->Q () {s with heap:=h',toks:=s.toks+2}):
  RM (RF prog w) A (setAttr (.ref x) name v) Q E s:=by
 have oN:s.heap.get? dx=some (dictOf es n):=by
  have:=I.dict;rw[hd]at this;exact this
 refine lW (nJ hL oN) λpre post e a b=>?_;have N:=xf (h:=s.heap) (L:=L);rw[e]at N;refine set_plain X I hs (osa_dict (s:={s with toks:=s.toks+1}) (JJ hn) N X I hd hp ht hh hl a b (putName_dict ..) rfl hz λh' F' N'=>?_);refine oA (pR hn e F' N') λh1 h2=>?_;exact h h' h1 h2
theorem w0{FI:Obj}{od:Option Obj}{m:Str->Option Rz}{Q:Unit->Ro->Prop}(hn:s.heap.Ns L m)(X:K.In s.heap)(I:InstAt s.heap x ox c od)(hL:x≠L)
  (hs:findIn K (.ref c) "__setattr__" =some (some (.builtin "object.__setattr__"))) (hp:plainOver K c=true) (ht:takerIn K c name=some (some (.ref p))) (hT:typeIn K (.ref p)=some (.type "member_descriptor")) (hi:slotIn K p c=some i) (hz:i<1000)
  (e:{ox with slots:=(ox.slots++WY (i+1 - ox.slots.size) none).setIfInBounds i (some v)}=FI) (hf:FI.isFreed=false)
  (h:∀h',fQ L x s.heap h'->h'.get? x=some FI->Q () {s with heap:=h',toks:=s.toks+1}):RM (RF prog w) A (setAttr (.ref x) name v) Q E s:=by
 refine lW (nJ hL I.at_) λpre post e' a b=>?_;have N:=xf (h:=s.heap) (L:=L);rw[e']at N;refine set_plain X I hs (osa_descr (s:={s with toks:=s.toks+1}) KF.slot_mset X I hp ht hT (slot_set (s:={s with toks:=s.toks+1}) (JJ hn) N X I hi hz a b e hf λh' F' N'=>?_));refine oA (pR hn e' F' N') λh1 h2=>?_;exact h h' h1 h2
theorem rJ{es:List DictEntry}{n:Nat}{expr:Bool}{Q:Rz->Ro->Prop}{attr:Option Rz}(X:K.In s.heap)(I:InstAt s.heap x ox c (some (dictOf es n)))(hg:plainGet K c name=true)(hh:hasDictIn K c=true)
  (ha:findIn K (.ref c) name=some attr) (hn:noGet K attr=true) (hl:getL name es=some (some v)) (hv:handedIn v=true) (h:Q v {s with toks:=s.toks+1}):RM (RF prog w) A (getAttr (.ref x) name expr) Q E s:=
 get_value X I (plainGet_of hg).1 (findObj_own hh ha hn hl) hv h
theorem ja{od:Obj}{expr:Bool}{Q:Rz->Ro->Prop}(X:K.In s.heap)(I:InstAt s.heap x ox c (some od))(hg:plainGet K c name=true)(hc:isClsIn K c=true)
  (ha:findIn K (.ref c) name=some (some (.ref p))) (hn:specialIn K (.ref p) "__get__" =some (some (.builtin "member_descriptor.__get__"))) (ht:takesIn K (.ref p)=some true) (hp:slotIn K p c=some i)
  (hv:(ox.slots[i]?).join=some v) (hh:handedIn v=true) (h:Q v {s with toks:=s.toks+1}):RM (RF prog w) A (getAttr (.ref x) name expr) Q E s:=
 get_bind X I (plainGet_of hg).1 (findObj_data hc ha hn ht) (plainGet_of hg).2 (Uy (slot_get (s:={s with toks:=s.toks+1}) X I hp hv (handed_on hh h)))
theorem ql{es:List DictEntry}{n:Nat}{pl:Sem Bool}{Q:Rz×List Rz->Ro->Prop}{f:RD}(X:K.In s.heap)(I:InstAt s.heap x ox c (some (dictOf es n)))(hg:plainGet K c name=true)
  (hf:findIn K (.ref c) name=some (some (.ref f))) (ht:isFn K (.ref f)=true) (hl:getL name es=some none) (h:Q (.ref f,[.ref x]) s):RM (RF prog w) A (getMethod (.ref x) name pl) Q E s:=
 method_fn X I (plainGet_of hg).1 (plainGet_of hg).2 hf (beq_iff_eq.mp ht) (by show(lookIn name (dictOf es n)).map _=_;rw[lookIn_dict,hl];rfl) h
end
noncomputable def aU:List Str:=["_node2info","_ready_nodes","_npassedout","_nfinished"]
noncomputable def dy:List (Str×Nat):=[("node",0),("npredecessors",1),("successors",2)]
noncomputable def su(K:Frag)(x:Str×Nat):Bool:=match findIn K (.ref lL) x.1 with
 |some (some (.ref p))=>specialIn K (.ref p) "__get__" ==some (some (.builtin "member_descriptor.__get__"))&&takesIn K (.ref p)==some true&&slotIn K p lL==some x.2&&takerIn K lL x.1==some (some (.ref p))&&typeIn K (.ref p)==some (.type "member_descriptor")
 |_=>false
noncomputable def b0(K:Frag)(c:RD):Bool:=plainGet K c "" &&plainOver K c&&findIn K (.ref c) "__setattr__" ==some (some (.builtin "object.__setattr__"))&&isClsIn K c&&makesIn K c
structure bD(K:Frag):Prop where
 ts:b0 K kD=true
 Fe:hasDictIn K kD=true
 own:(aU.all λx=>findIn K (.ref kD) x==some none)=true
 ni:b0 K lL=true
 slot:(dy.all λx=>su K x)=true
section
variable{K:Frag}{c:RD}
theorem aL(h:b0 K c=true)(x:Str):plainGet K c x=true:=by
 simp only[b0,SU]at h;exact h.1.1.1.1
theorem dR(h:b0 K c=true):plainOver K c=true:=by
 simp only[b0,SU]at h;exact h.1.1.1.2
theorem eT(h:b0 K c=true):findIn K (.ref c) "__setattr__" =some (some (.builtin "object.__setattr__")):=by
 simp only[b0,SU,beq_iff_eq]at h;exact h.1.1.2
theorem cG(h:b0 K c=true):isClsIn K c=true:=by
 simp only[b0,SU]at h;exact h.1.2
theorem iK(h:b0 K c=true):makesIn K c=true:=by
 simp only[b0,SU]at h;exact h.2
theorem bD.none(k:bD K)(hx:x∈aU):findIn K (.ref kD) x=some Option.none:=by
 have:=Sv.mp k.own x hx;exact beq_iff_eq.mp this
inductive y5(K:Frag)(x:Str)(i:Nat):Prop
 |mk (p:RD):findIn K (.ref lL) x=some (some (.ref p))->specialIn K (.ref p) "__get__" =some (some (.builtin "member_descriptor.__get__"))->takesIn K (.ref p)=some true->slotIn K p lL=some i->takerIn K lL x=some (some (.ref p))->typeIn K (.ref p)=some (.type "member_descriptor")->y5 K x i
set_option tactic.hygienic true in
theorem bD.slots(k:bD K)(hx:(x,i)∈dy):y5 K x i:=by
 have h:=Sv.mp k.slot (x,i) hx;unfold su at h;split at h
 ·rename_i p hp;simp only[SU,beq_iff_eq]at h;exact⟨p,hp,h.1.1.1.1,h.1.1.1.2,h.1.1.2,h.1.2,h.2⟩
 ·cases h
end
noncomputable def Key.cV(ks:List Key):List PV:=ks.map Key.pv
theorem Key.rd{prog:Sw}{w:TG}{S:RD->Prop}{k:Key}(hk:k.is v=true):Rd prog w S h v k.pv:=by
 cases k with
 |int i=>refine oE (Wz (k:=i) hk) λt zr=>?_;subst zr;exact .int _ _
 |str x=>refine oE (Wj (x:=x) hk) λt zr=>?_;subst zr;exact .str _ _
theorem KeysAre.rd{prog:Sw}{w:TG}{S:RD->Prop}(r:KeysAre vs ks):ab prog w S h vs (Key.cV ks):=by
 induction r with
 |nil=>exact .nil
 |cons a _ ih=>exact .cons (Key.rd a) ih
theorem ab.keys{S:RD->Prop}:∀ {vs:List Rz} {ks:List Key},ab C.prog C.w S h vs (Key.cV ks)->KeysAre vs ks
 |[],[],_=>.nil
 |v::vs,k::ks,r=>by cases r with|cons a b=>exact .cons a.key (ab.keys b)
 |[],k::ks,r=>by cases r
 |v::vs,[],r=>by cases r
noncomputable def jI(x:aj):Nat->PV
 |0=>x.key.pv
 |1=>.int x.np
 |_=>.list (Key.cV x.succ)
noncomputable def eK(St:aa):Nat->PV
 |0=>.raw (.ref St.n2)
 |1=>match St.aI with|none=>.none|some r=>.list (Key.cV r.2)
 |2=>.int St.au
 |_=>.int St.az
theorem Rd.rF{S:RD->Prop}{St:aa}{prog:Sw}{w:TG}(r:Rd prog w S h v (.aK St)):∃a,v= .ref a/\(∀b∈St.fp a,S b)/\ah prog w h a St:=r.view
theorem cR{prog:Sw}{w:TG}{a:RD}{St:aa}(x:ah prog w h a St):∃ks t1 t2 n,InstAt h a {cls:=.ref kD,dict:=some St.d} kD (some (dictOf (bL w ks St.n2 St.tR St.au St.az t1 t2) n)):=by
 refine kZ x.dict λks t1 t2 n hd=>?_;exact⟨ks,t1,t2,n,x.inst,rfl,rfl,hd⟩
theorem fE{x:aj}(r:da h x):∃kv t,x.key.is kv=true/\InstAt h x.loc (eU x kv t) lL (some {cls:=.type "dict",data:=.dict #[]}):=by
 refine aM r.inst λkv t h1 h2=>?_;exact⟨kv,t,h1,h2,rfl,rfl,r.dict⟩
theorem Ev.kJ{St:aa}{pos:Pos}{name:Str}(k:bD C.K)(he:Ev C env Γ e md (.aK St))(hn:aU[i]?=some name)
  (lI:autoParam (∀env,eval (.Attribute e name pos) env=(do
   let o ←eval e env
   standAt pos.atName
   let r ←holding [o] (getAttr o name true)
   letTemporaryGo e o r
   pure r)) oA6._auto_1):Ev C env Γ (.Attribute e name pos) md (eK St i):=λA S U s Q E hr hh hq=>by
 refine TV ?_ (lI env);refine he A S U s _ E hr hh λv h' t' ex rd=>?_;refine aD rd.rF λa zr zw=>?_;subst zr;refine oA zw λhf hs=>?_;clear zw;refine kZ (cR hs) λks t1 t2 n I=>?_;have X:=(hh.ext ex).base.cB;have hm:name∈aU:=R4 hn;have go:∀v,getL name (bL C.w ks St.n2 St.tR St.au St.az t1 t2)=some (some v)->handedIn v=true->Rd C.prog C.w (dH md S U s.heap) h' v (eK St i)->RM (RF C.prog C.w) A (getAttr (.ref a) name true) Q E {s with heap:=h',toks:=t'}:=λv hg hv rd=>rJ (attr:=Option.none) X I (aL k.ts name) k.Fe (k.none hm) rfl hg hv (hq v h' _ ex rd);have hi:i=0\/i=1\/i=2\/i=3:=by
  have:=(RY.mp hn).1;simp[aU]at this;omega
 rcases hi with rfl|rfl|rfl|rfl<;>(have:=R7 hn;subst this)
 ·exact go (.ref St.n2) rfl rfl (.raw _)
 ·refine go St.tR rfl ?_ ?_
  ·unfold aa.tR;cases St.aI<;>rfl
  ·show Rd _ _ _ _ St.tR (match St.aI with|none=>.none|some r=>.list (Key.cV r.2));unfold aa.tR;cases mz:St.aI with
   |none=>exact .none
   |some r=>
    refine aM (hs.ready r mz) λvs m h1 h2=>?_;exact .list (hf _ (aa.gZ mz)) h1 h2.rd
 ·exact go (.int St.au t1) rfl rfl (.int _ _)
 ·exact go (.int St.az t2) rfl rfl (.int _ _)
theorem Here.aK{S:RD->Prop}(hh:Here C A S U env Γ h){St:aa}(hx:Γ.lookup x=some (some (nx,.aK St)))(hk:aA (env.kindOf x)=true):∃a,aZ h env x (.ref a)/\(∀b∈St.fp a,if nx==0 then S b else U b)/\ah C.prog C.w h a St:=by
 refine bM (hh.has x nx _ hx hk) λv h1 h2 _=>?_;refine aD h2.rF λa zr zw=>?_;subst zr;refine oA zw λh3 h4=>?_;clear zw;exact⟨a,h1,h3,h4⟩
theorem Ev.Ac{St:aa}{nd:aj}{pos:Pos}{name:Str}(k:bD C.K)(hx:Γ.lookup x=some (some (nx,.aK St)))(bS:aA (env.kindOf x)=true)(aG:nd∈St.nodes)(he:Ev C env Γ e m2 (.raw (.ref nd.loc)))(hn:(name,i)∈dy)
  (lI:autoParam (∀env,eval (.Attribute e name pos) env=(do
   let o ←eval e env
   standAt pos.atName
   let r ←holding [o] (getAttr o name true)
   letTemporaryGo e o r
   pure r)) oA6._auto_1) (zX:autoParam (md=(nx==0)) oA1._auto_1):Ev C env Γ (.Attribute e name pos) md (jI nd i):=λA S U s Q E hr hh hq=>by
 refine TV ?_ (lI env);refine he A S U s _ E hr hh λv h' t' ex rd=>?_;cases rd.aQ;refine bM ((hh.ext ex).aK hx bS) λa _ hf hs=>?_;rw[<-zX]at hf;have r:=hs.nodes nd aG;refine aM (fE r) λkv t jw I=>?_;obtain⟨p,h1,h2,h3,h4,h5,h6⟩:=k.slots hn;have X:=(hh.ext ex).base.cB;have go:∀v,((eU nd kv t).slots[i]?).join=some v->handedIn v=true->Rd C.prog C.w (dH md S U s.heap) h' v (jI nd i)->RM (RF C.prog C.w) A (getAttr (.ref nd.loc) name true) Q E {s with heap:=h',toks:=t'}:=λv hg hv rd=>ja X I (aL k.ni name) (cG k.ni) h1 h2 h3 h4 hg hv (hq v h' _ ex rd);have hi:i=0\/i=1\/i=2:=by
  simp only[dy,Rr,UW,RN,or_false]at hn;omega
 rcases hi with rfl|rfl|rfl
 ·refine go kv rfl ?_ (Key.rd jw);rcases Key.shape jw with⟨_,_,_,rfl⟩|⟨_,_,_,rfl⟩<;>rfl
 ·exact go (.int nd.np t) rfl rfl (.int _ _)
 ·refine go (.ref nd.lst) rfl rfl ?_;refine aM r.list λvs m g1 g2=>?_;exact .list (.inl (hf _ (aa.cb aG (by simp[aj.fp])))) g1 g2.rd
noncomputable def aa.dF(St:aa)(loc:RD)(f:aj->aj):aa:={St with nodes:=St.nodes.map λx=>if x.loc=loc then f x else x}
structure gQ(f:aj->aj):Prop where
 key:∀x,(f x).key=x.key
 fp:∀x,(f x).fp=x.fp
theorem gQ.loc{f:aj->aj}(k:gQ f)(x:aj):(f x).loc=x.loc:=by
 have:=k.fp x;simp only[aj.fp,List.cons.injEq]at this;exact this.1
noncomputable def bA(v:Int)(x:aj):aj:={x with np:=v}
noncomputable def cA(k:Key)(x:aj):aj:={x with succ:=x.succ++[k]}
theorem eo(v:Int):gQ (bA v):=⟨λω=>rfl,λω=>rfl⟩
theorem ij(k:Key):gQ (cA k):=⟨λω=>rfl,λω=>rfl⟩
theorem aa.mG(St:aa)(loc:RD){f:aj->aj}(k:gQ f)(a:RD):(St.dF loc f).fp a=St.fp a:=by
 unfold aa.fp aa.sV aa.dF;simp only[Yo]
 congr 4
 apply congrArg (λg=>List.flatMap g St.nodes);funext x;split
 ·exact k.fp x
 ·rfl
theorem B5{l:List aj}(aG:(l.flatMap aj.fp).Nodup){x y:aj}{b:RD}(hx:x∈l)(hy:y∈l)(NX:b∈x.fp)(NG:b∈y.fp):x=y:=by
 induction l with
 |nil=>cases hx
 |cons z r ih=>
  rw[SO,RH]at aG;have no:∀u v,u=z->v∈r->b∈u.fp->b∈v.fp->False:=λu v e hv hu hb=>aG.2.2 b (e▸hu) b (TX.mpr ⟨v,hv,hb⟩) rfl;exact(Rr.mp hx).elim (λrU=>(Rr.mp hy).elim (λoY=>rU.trans oY.symm) λoY=>(no x y rU oY NX NG).elim) λrU=>(Rr.mp hy).elim (λoY=>(no y x oY rU NG NX).elim) λoY=>ih aG.2.1 rU oY
section
variable{prog:Sw}{w:TG}{a:RD}{St:aa}
theorem ah.qt(x:ah prog w h a St):(St.nodes.flatMap aj.fp).Nodup:=by
 have:=x.nd;unfold aa.fp at this;exact(RH.mp (RO.mp (RO.mp (RO.mp this).2).2).2).2.1
theorem ah.same(x:ah prog w h a St){y z:aj}{b:RD}(hy:y∈St.nodes)(hz:z∈St.nodes)(h1:b∈y.fp)(h2:b∈z.fp):y=z:=B5 x.qt hy hz h1 h2
theorem ah.apart(x:ah prog w h a St){y:aj}{b:RD}(hy:y∈St.nodes)(hb:b∈y.fp):b≠a/\b≠St.d/\b≠St.n2/\∀r,St.aI=some r->b≠r.1:=by
 have aG:=x.nd;unfold aa.fp at aG;have hm:b∈St.nodes.flatMap aj.fp:=TX.mpr ⟨y,hy,hb⟩;rw[RO,RO,RO,RH]at aG;refine iC aG λh1 h2 h3 h4=>?_;clear aG;refine⟨λe=>h1 ?_,λe=>h2 ?_,λe=>h3 ?_,λr hr e=>?_⟩
 ·subst e;exact Rn _ (Rn _ (R3 _ hm))
 ·subst e;exact Rn _ (R3 _ hm)
 ·subst e;exact R3 _ hm
 ·exact h4.2.2 r.1 (by unfold aa.sV;rw[hr];exact Rq.mpr rfl) b hm e.symm
theorem ah.lQ(x:ah prog w h a St){r:RD×List Key}(hr:St.aI=some r):r.1≠a/\r.1≠St.d/\r.1≠St.n2/\∀y∈St.nodes,r.1∉y.fp:=by
 have aG:=x.nd;unfold aa.fp at aG;have hm:r.1∈St.sV:=by unfold aa.sV;rw[hr];exact Rq.mpr rfl
 rw[RO,RO,RO,RH]at aG;refine iC aG λh1 h2 h3 h4=>?_;clear aG;refine⟨λe=>h1 ?_,λe=>h2 ?_,λe=>h3 ?_,λy hy hb=>?_⟩
 ·rw[<-e];exact Rn _ (Rn _ (RC _ hm))
 ·rw[<-e];exact Rn _ (RC _ hm)
 ·rw[<-e];exact RC _ hm
 ·exact h4.2.2 r.1 hm r.1 (TX.mpr ⟨y,hy,hb⟩) rfl
theorem ah.lA(x:ah prog w h a St):a≠St.d/\a≠St.n2/\St.d≠St.n2:=by
 have aG:=x.nd;unfold aa.fp at aG;rw[RO,RO,RO]at aG;exact⟨λe=>aG.1 (by rw[e];exact Rm),λe=>aG.1 (by rw[e];exact Rn _ Rm),λe=>aG.2.1 (by rw[e];exact Rm)⟩
theorem ah.dF(x:ah prog w h a St){nd:aj}(aG:nd∈St.nodes){c:RD}(hc:c∈nd.fp){f:aj->aj}(k:gQ f)(hk:∀b,b≠c->b∈St.fp a->∀o,h.get? b=some o->h₁.get? b=some o)(hn:da h₁ (f nd)):ah prog w h₁ a (St.dF nd.loc f)where
 at_:=x.at_
 lo:=x.lo
 nd:=by rw[St.mG _ k];exact x.nd
 inst:=hk _ (Td (x.apart aG hc).1) (by simp[aa.fp]) _ x.inst
 dict:=kZ x.dict λks t1 t2 n h1=>⟨ks,t1,t2,n,hk _ (Td (x.apart aG hc).2.1) (by simp[aa.fp]) _ h1⟩
 map:=by
  have e:(St.dF nd.loc f).nodes.map (λx=>(x.key,Value.ref x.loc))=St.nodes.map λx=>(x.key,Value.ref x.loc):=by
   unfold aa.dF;rw[R6];apply Tg;intro y _;show(_,_)=_;by_cases hy:y.loc=nd.loc
   ·simp only[hy,if_true,k.key,k.loc]
   ·simp only[hy,if_false]
  rw[e];exact cJ.at x.map λo ho=>hk _ (Td (x.apart aG hc).2.2.1) (by simp[aa.dF,aa.fp]) o ho
 nodes:=λy hy=>by
  refine aD (RE.mp hy) λz hz e=>?_;by_cases hl:z.loc=nd.loc
  ·have:z=nd:=x.same hz aG (b:=z.loc) (by simp[aj.fp]) (by rw[hl];simp[aj.fp]);subst this;simp only[if_true]at e;rw[<-e];exact hn
  ·simp only[hl,if_false]at e;subst e;refine(x.nodes z hz).mono λb hb o ho=>hk b (λe=>?_) (aa.cb hz hb) o ho;subst e;exact hl (congrArg aj.loc (x.same hz aG hb hc))
 ready:=λr hr=>aM (x.ready r hr) λvs n h1 h2=>⟨vs,n,hk _ (Td ((x.apart aG hc).2.2.2 r hr)) (aa.gZ hr) _ h1,h2⟩
theorem ah.LP(x:ah prog w h a St){np nf:Int}(hk:∀b,b≠St.d->b∈St.fp a->∀o,h.get? b=some o->h₁.get? b=some o)
  (hd:∃ks t1 t2 n,h₁.get? St.d=some {cls:=.type "dict",data:=.dict (bL w ks St.n2 St.tR np nf t1 t2).toArray n}):ah prog w h₁ a {St with au:=np,az:=nf}where
 at_:=x.at_
 lo:=x.lo
 nd:=x.nd
 inst:=hk _ x.lA.1 (by simp[aa.fp]) _ x.inst
 dict:=hd
 map:=cJ.at x.map λo ho=>hk _ (Td x.lA.2.2) (by simp[aa.fp]) o ho
 nodes:=λy hy=>(x.nodes y hy).mono λb hb o ho=>hk b (x.apart hy hb).2.1 (aa.cb hy hb) o ho
 ready:=λr hr=>aM (x.ready r hr) λvs n h1 h2=>⟨vs,n,hk _ (x.lQ hr).2.1 (aa.gZ hr) _ h1,h2⟩
theorem ah.Ip(x:ah prog w h a St){r:RD×List Key}(hr:St.aI=some r){n:Nat}(hk:∀b,b≠r.1->b∈St.fp a->∀o,h.get? b=some o->h₁.get? b=some o)
  (hl:h₁.get? r.1=some (gN vs n)) (wQ:KeysAre vs ks):ah prog w h₁ a {St with aI:=some (r.1,ks)}where
 at_:=x.at_
 lo:=x.lo
 nd:=by
  have:=x.nd;unfold aa.fp aa.sV at this⊢;rw[hr]at this;exact this
 inst:=hk _ (Td (x.lQ hr).1) (by simp[aa.fp]) _ x.inst
 dict:=by
  refine kZ x.dict λNj t1 t2 n h1=>?_;have e:aa.tR {St with aI:=some (r.1,ks)}=St.tR:=by unfold aa.tR;rw[hr]
  exact⟨Nj,t1,t2,n,by rw[e];exact hk _ (Td (x.lQ hr).2.1) (by simp[aa.fp]) _ h1⟩
 map:=cJ.at x.map λo ho=>hk _ (Td (x.lQ hr).2.2.1) (by simp[aa.fp]) o ho
 nodes:=λy hy=>(x.nodes y hy).mono λb hb o ho=>hk b (λe=>(x.lQ hr).2.2.2 y hy (e▸hb)) (aa.cb hy hb) o ho
 ready:=λr' mz=>by cases mz;exact⟨vs,n,hl,wQ⟩
theorem ah.Ej(x:ah prog w h a St)(hr:St.aI=none){l:RD}{n:Nat}(hk:∀b,b≠St.d->b∈St.fp a->∀o,h.get? b=some o->h₁.get? b=some o)
  (hd:∃kt t1 t2 n,h₁.get? St.d=some {cls:=.type "dict",data:=.dict (bL w kt St.n2 (.ref l) St.au St.az t1 t2).toArray n})
  (hl:h₁.get? l=some (gN vs n)) (wQ:KeysAre vs ks) (jS:l∉St.fp a):ah prog w h₁ a {St with aI:=some (l,ks)}where
 at_:=x.at_
 lo:=x.lo
 nd:=by
  have:=x.nd;unfold aa.fp aa.sV at this jS⊢;rw[hr]at this jS;simp only[UB,Rr,not_or,List.singleton_append,RO]at this jS⊢;refine iC jS λn1 n2 n3 n4=>?_;clear jS;refine iC this λm1 m2 m3 m4=>?_;clear this;exact⟨⟨m1.1,m1.2.1,Td n1,m1.2.2⟩,⟨m2.1,Td n2,m2.2⟩,⟨Td n3,m3⟩,n4,m4⟩
 inst:=hk _ x.lA.1 (by simp[aa.fp]) _ x.inst
 dict:=hd
 map:=cJ.at x.map λo ho=>hk _ (Td x.lA.2.2) (by simp[aa.fp]) o ho
 nodes:=λy hy=>(x.nodes y hy).mono λb hb o ho=>hk b (x.apart hy hb).2.1 (aa.cb hy hb) o ho
 ready:=λr' mz=>by cases mz;exact⟨vs,n,hl,wQ⟩
theorem ah.Iv(x:ah prog w h a St){nd:aj}(hk:∀b,b≠St.n2->b∈St.fp a->∀o,h.get? b=some o->h₁.get? b=some o)
  (hm:h₁.DictOf (aw prog w) St.n2 (St.nodes.map (λx=>(x.key,Value.ref x.loc))++[(nd.key,Value.ref nd.loc)])) (hn:da h₁ nd) (aG:nd.fp.Nodup) (OL:∀b∈nd.fp,b∉St.fp a):ah prog w h₁ a {St with nodes:=St.nodes++[nd]}where
 at_:=x.at_
 lo:=x.lo
 nd:=by
  have e:aa.fp {St with nodes:=St.nodes++[nd]} a=St.fp a++nd.fp:=by
   unfold aa.fp aa.sV;simp[Sq]
  rw[e,RH];exact⟨x.nd,aG,λb hb c hc e=>OL c hc (e▸hb)⟩
 inst:=hk _ x.lA.2.1 (by simp[aa.fp]) _ x.inst
 dict:=kZ x.dict λks t1 t2 n h1=>⟨ks,t1,t2,n,hk _ x.lA.2.2 (by simp[aa.fp]) _ h1⟩
 map:=by rw[R9];exact hm
 nodes:=λy hy=>by
  rcases Rw.mp hy with hy|hy
  ·exact(x.nodes y hy).mono λb hb o ho=>hk b (x.apart hy hb).2.2.1 (aa.cb hy hb) o ho
  ·rcases Rq.mp hy with rfl
   exact hn
 ready:=λr hr=>aM (x.ready r hr) λvs n h1 h2=>⟨vs,n,hk _ (x.lQ hr).2.2.1 (aa.gZ hr) _ h1,h2⟩
end
theorem wx{l:List aj}(aG:(l.flatMap aj.fp).Nodup){x:aj}(hx:x∈l):x.fp.Nodup:=by
 refine jH (X7 hx) λp q zr=>?_;subst zr;rw[UU,SO]at aG;exact(RH.mp (RH.mp aG).2.1).1
noncomputable def aa.find(St:aa)(k:Key):Option aj:=St.nodes.find? λx=>x.key=k
theorem j8(St:aa)(k:Key):valueAt (St.nodes.map λx=>(x.key,Value.ref x.loc)) k=(St.find k).map λx=>Value.ref x.loc:=by
 unfold valueAt aa.find
 induction St.nodes with
 |nil=>rfl
 |cons x r ih=>
  rw[Sl,TQ,TQ];by_cases hk:x.key=k
  ·simp[hk]
  ·simp only[hk,decide_false];exact ih
theorem Ev.rK{i:Expr}{St:aa}{nd:aj}{k:Key}{p:Pos}{mo:Bool}(hx:Γ.lookup x=some (some (nx,.aK St)))(bS:aA (env.kindOf x)=true)(he:Ev C env Γ e m2 (.raw (.ref St.n2)))(hi:Ev C env Γ i m3 k.pv)(hf:St.find k=some nd)
  (eY:autoParam (kB i) oA7._auto_1):Ev C env Γ (.Subscript e i p) mo (.raw (.ref nd.loc)):=λA S U s Q E hr hh hq=>by
 refine Subscript_ (Ev.two he hi hr hh λv u h' t' ex rv ru=>?_);cases rv.aQ;refine bM ((hh.ext ex).aK hx bS) λa _ _ hs=>?_;refine oE (eY (.ref St.n2) u) λops vz=>?_;refine tail_any (s:={s with heap:=h',toks:=t'}) hs.map.typeIs slot_dict_getitem.lookup ?_ vz;have hv:=j8 St k;rw[hf]at hv;exact Y9 ru.key hs.map.mapOf hv (hq _ h' _ ex (.raw _))
theorem Ev.vW{i:Expr}{St:aa}{k:Key}{pos:Pos}{mo:Bool}(hx:Γ.lookup x=some (some (nx,.aK St)))(bS:aA (env.kindOf x)=true)(cY:Rt<St.n2)(he:Ev C env Γ e m2 (.raw (.ref St.n2)))(hi:Ev C env Γ i m3 k.pv)
  (aJ:autoParam (fH e "get") oA2._auto_1)
  (cy:autoParam (∀env,dD pos env [i]) oA2._auto_1)
  (aW:autoParam ((apos.endLine==pos.line)=true) oA1._auto_1) (bg:autoParam (treeE i pos) oA2._auto_1):
  Ev C env Γ (.Call (.Attribute e "get" apos) [i] [] pos) mo (match St.find k with|some nd=>.raw (.ref nd.loc)|none=>.none):=λA S U s Q E hr hh hq=>by
 refine Tq (aJ env) (cy env) aW VP PySem.F.slot_dict_get PySem.F.type_dict_get ?_;refine he A S U s _ E hr hh λv h' t' ex rd=>?_;cases rd.aQ;refine bM ((hh.ext ex).aK hx bS) λa _ _ hs=>?_;refine⟨hs.map.typeIs,λb e=>?_,?_⟩
 ·cases e;refine fh hs.map λob es ep ho hr _=>?_;exact⟨ob,ho,hr.2.1⟩
 rw[bg env];refine wpAny_dict_get1 (knd:=aw C.prog C.w) (noSys cY) ?_;refine hi A S U {s with heap:=h',toks:=t'} _ E hr (hh.ext ex) λu eC gV c7 ru=>?_;refine bM (((hh.ext ex).ext c7).aK hx bS) λa _ _ mh=>?_;refine⟨k,_,ru.key,mh.map.mapOf,?_⟩;have hv:=j8 St k;rw[hv];refine hq _ eC _ (ex.trans c7) ?_;cases St.find k with
 |none=>exact .none
 |some nd=>exact .raw _
theorem ah.vM{prog:Sw}{w:TG}{a:RD}{St:aa}(hs:ah prog w h a St):(St.nodes.map aj.key).Nodup:=by
 refine fA hs.map λob es ep _ _ _ _ _ hn=>?_;rw[R6]at hn;exact hn
section
variable{Γ:ag}{s:Ro}{Q:Flow->Ro->Prop}{S:RD->Prop}{fp:Str->List RD}
theorem fQ.of_same{d:RD}(hs:Ul d h h₁)(hL:d≠L):fQ L d h h₁:=⟨λa ob ω ha e=>(hs.2 a ha).trans e,λm hm=>hm.sameBut hs (Td hL)⟩
inductive C4(C:Cx)(A:Sg)(env:Env)(o:iD)(Γ:ag)(fp:Str->List RD)(s:Ro)(h':Heap)(x:Str)(n:Nat)(St:aa):Prop
 |mk (a:RD):aA (env.kindOf x)=true->aZ s.heap env x (.ref a)->fp x=St.fp a->ah C.prog C.w h' a St->(∀b∈St.fp a,b≠env.locals/\Rt<b/\(s.heap.get? b).isSome=true)->
   (∀h₁ t a8 c,fQ env.locals c h' h₁->c∈St.fp a->ah C.prog C.w h₁ a a8->(∀b∈a8.fp a,b∈St.fp a\/(s.heap.get? b=none/\Rt<b))->(h₁.get? c).isSome=true->aV C A env o ((x,some (n+1,.aK a8))::Γ) {s with heap:=h₁,toks:=t})->C4 C A env o Γ fp s h' x n St
theorem aV.aK(hA:At C A env S fp Γ s.heap)(av:Step A env o S fp s)(ex:Ext A env s.heap h'){n:Nat}{St:aa}(hx:Γ.lookup x=some (some (n+1,.aK St))):C4 C A env o Γ fp s h' x n St:=by
 refine ei (hA.vars x _ _ hx) λbS v hv r=>?_;refine aD r.view λa zr zw=>?_;subst zr;refine oA zw λhf hs=>?_;clear zw;have hF:=hA.fold x;rw[hf]at hF
 ·refine⟨a,bS,hv,hf,hs.mono λb hb ob e=>ex.keep b ob (λe=>(hF b hb).2.1 (.inl e)) e,λb hb=>⟨λe=>(hF b hb).2.1 (.inl (.inl e)),(hF b hb).2.2.1,(hF b hb).1⟩,λh₁ t a8 c T hc gd jt hl=>?_⟩;refine aV.Ar hA av ex bS hv (λb=>b=c) (λb ob Lr hb e=>T.1 b ob Lr hb e) T.2 (λb hb=>by rw[hb,hf];exact hc) (λb hb=>by rw[hb];exact hl) (λb hb=>?_) gd.nd (.aK gd) t;rw[hf];exact jt b hb
theorem ue(nd:aj)(kv:Rz)(t:Tok)(v:Int)(t':Tok):{(eU nd kv t)with slots:=((eU nd kv t).slots++WY (1+1 - (eU nd kv t).slots.size) none).setIfInBounds 1 (some (.int v t'))}=eU (bA v nd) kv t':=rfl
theorem vr(k:bD C.K)(hA:At C A env S fp Γ s.heap)(av:Step A env o S fp s)(ex:Ext A env s.heap h'){n:Nat}{St:aa}{nd:aj}(hx:Γ.lookup x=some (some (n+1,.aK St)))(aG:nd∈St.nodes){v:Int}{tv:Tok}{t:Nat}{Q:Unit->Ro->Prop}
  (kk:∀s',aV C A env o ((x,some (n+1,.aK (St.dF nd.loc (bA v))))::Γ) s'->Q () s'):
  RM (RF C.prog C.w) A (setAttr (.ref nd.loc) "npredecessors" (.int v tv)) Q E {s with heap:=h',toks:=t}:=by
 obtain⟨a,bS,hv,hf,hs,fC,close⟩:=aV.aK hA av ex hx;have r:=hs.nodes nd aG;refine aM (fE r) λkv t0 jw I=>?_;obtain⟨p,h1,h2,h3,h4,h5,h6⟩:=k.slots (x:="npredecessors") (i:=1) (by decide);have hB:=hA.base.ext ex hA.bE hA.aq;have Bm:=hA.aq.ext hA.bE ex;refine oE Bm.ns λm hm=>?_;have cK:nd.loc∈nd.fp:=by simp[aj.fp]
 have lu:=aa.cb (a:=a) aG cK;refine w0 (s:={s with heap:=h',toks:=t}) hm hB.cB I (fC _ lu).1 (eT k.ni) (dR k.ni) h5 h6 h4 (by decide) (ue nd kv t0 v tv) rfl λh₁ T ho=>?_;have EK:∀b,b≠nd.loc->b∈St.fp a->∀ob,h'.get? b=some ob->h₁.get? b=some ob:=λb hb zZ ob e=>T.1 b ob (fC b zZ).1 hb e;have rH:nd.loc≠nd.dc/\nd.loc≠nd.lst:=by
  have h0:nd.fp.Nodup:=wx hs.qt aG;simp only[aj.fp,RO,Rr,RN,or_false,not_or]at h0;exact⟨h0.1.1,h0.1.2⟩
 have hn:da h₁ (bA v nd):=by
  refine⟨⟨kv,tv,jw,ho⟩,EK _ (Td rH.1) (aa.cb aG (by simp[aj.fp])) _ r.dict,?_⟩;refine aM r.list λvs q g1 g2=>?_;exact⟨vs,q,EK _ (Td rH.2) (aa.cb aG (by simp[aj.fp])) _ g1,g2⟩
 exact kk _ (close h₁ _ _ nd.loc T lu (hs.dF aG cK (eo v) EK hn) (λb hb=>.inl (by rw[St.mG _ (eo v)]at hb;exact hb)) (by rw[ho];rfl))
theorem St.Ai(k:bD C.K){pos:Pos}{n:Nat}{St:aa}{nd:aj}{v:Int}(hr:aB C A)(hA:aV C A env o Γ s)(hx:Γ.lookup x=some (some (n+1,.aK St)))(aG:nd∈St.nodes)(hE:Ev C env (cv Γ) e m3 (.int v))(ho:Ev C env (cv Γ) oe m2 (.raw (.ref nd.loc)))
  (kk:∀s',aV C A env o ((x,some (n+1,.aK (St.dF nd.loc (bA v))))::Γ) s'->RM (RF C.prog C.w) A (execs rest env) Q E s')
  (hs:autoParam (SR e (some (.Attribute oe "npredecessors" p)) pos.line env=pure false) oA1._auto_1):
  RM (RF C.prog C.w) A (execs (.Assign [.Attribute oe "npredecessors" p] e pos::rest) env) Q E s:=by
 refine RI (plainObj_wpAny_Assign_Attribute ?_ hs);obtain⟨S,fp,hA,av⟩:=hA;refine hE A S _ s _ E hr hA.here λu h1 t1 bQ ru=>?_;refine oE ru.int_inv λtv zr=>?_;subst zr;refine ho A S _ {s with heap:=h1,toks:=t1} _ E hr (hA.here.ext bQ) λw h2 t2 c7 zL=>?_;cases zL.aQ;exact vr k hA av (bQ.trans c7) hx aG kk
theorem St.zG(k:bD C.K){pos:Pos}{n:Nat}{St:aa}{nd:aj}{v:Int}{op:Operator}(qp:op= .Add\/op= .Sub)(hr:aB C A)(hA:aV C A env o Γ s)(hx:Γ.lookup x=some (some (n+1,.aK St)))(aG:nd∈St.nodes)(ho:Ev C env (cv Γ) oe m2 (.raw (.ref nd.loc)))(hE:Ev C env (cv Γ) e m3 (.int v))
  (kk:∀s',aV C A env o ((x,some (n+1,.aK (St.dF nd.loc (bA (if op= .Add then nd.np+v else nd.np - v)))))::Γ) s'->RM (RF C.prog C.w) A (execs rest env) Q E s'):
  RM (RF C.prog C.w) A (execs (.AugAssign (.Attribute oe "npredecessors" p) op e pos::rest) env) Q E s:=by
 refine RI (Xs ?_);obtain⟨S,fp,hA,av⟩:=hA;refine ho A S _ s _ E hr hA.here λw h1 t1 bQ zL=>?_;cases zL.aQ;obtain⟨a,bS,hv,hf,hs,fC,_⟩:=aV.aK hA av bQ hx;have r:=hs.nodes nd aG;refine aM (fE r) λkv t0 jw I=>?_;obtain⟨q,g1,g2,g3,g4,g5,g6⟩:=k.slots (x:="npredecessors") (i:=1) (by decide);have X:=(hA.base.ext bQ hA.bE hA.aq).cB;refine ja (s:={s with heap:=h1,toks:=t1}) X I (aL k.ni _) (cG k.ni) g1 g2 g3 g4 (v:=.int nd.np t0) rfl rfl ?_;refine hE A S _ {s with heap:=h1,toks:=t1+1} _ E hr (hA.here.ext bQ) λu h2 t2 c7 ru=>?_;refine oE ru.int_inv λtv zr=>?_;subst zr;rcases qp with rfl|rfl
 ·refine Wi ?_;exact vr k hA av (bQ.trans c7) hx aG kk
 ·refine AutoIntOps.isub_0 ?_;exact vr k hA av (bQ.trans c7) hx aG kk
end
section
variable{Γ:ag}{s:Ro}{Q:Flow->Ro->Prop}{S:RD->Prop}{fp:Str->List RD}
theorem aZ.same(ek:bH C h env)(a:aZ h env x u)(b:aZ h env x v):u=v:=by
 rcases a with⟨h1,m,h2,h3⟩|⟨h1,_,c,h2,ob,h3,h4⟩
 ·rcases b with⟨_,m',we,Gf⟩|⟨qK,_⟩
  ·rw[h2.agree we x]at h3;rw[h3]at Gf;exact R7 Gf
  ·rw[h1]at qK;rcases qK with h|h<;>cases h
 ·rcases b with⟨qK,_⟩|⟨_,_,c',we,N8,Gf,JU⟩
  ·rw[qK]at h1;rcases h1 with h|h<;>cases h
  ·rw[h2]at we;cases we;rw[h3]at Gf;cases Gf;rw[h4]at JU;cases JU;rfl
theorem tY(k:bD C.K)(hA:At C A env S fp Γ s.heap)(av:Step A env o S fp s)(ex:Ext A env s.heap h'){n:Nat}{St a8:aa}(hx:Γ.lookup x=some (some (n+1,.aK St))){a:RD}(PR:aZ s.heap env x (.ref a)){name:Str}(hn:name∈aU){t:Nat}{Q:Unit->Ro->Prop}
  (yd:∀ks t1 t2 Mt key,∃Nm GX,putL name Mt key v (bL C.w ks St.n2 St.tR St.au St.az t1 t2)=bL C.w ks a8.n2 a8.tR a8.au a8.az Nm GX) (hd:a8.d=St.d)
  (gd:∀h₁,(∀b,b≠St.d->b∈St.fp a->∀ob,h'.get? b=some ob->h₁.get? b=some ob)->(∀b ob,b≠St.d->b≠env.locals->h'.get? b=some ob->h₁.get? b=some ob)->ah C.prog C.w h' a St->(∃ks t1 t2 n,h₁.get? St.d=some {cls:=.type "dict",data:=.dict (bL C.w ks a8.n2 a8.tR a8.au a8.az t1 t2).toArray n})->ah C.prog C.w h₁ a a8)
  (jt:∀b∈a8.fp a,b∈St.fp a\/(s.heap.get? b=none/\Rt<b))
  (kk:∀s',aV C A env o ((x,some (n+1,.aK a8))::Γ) s'->Q () s'):
  RM (RF C.prog C.w) A (setAttr (.ref a) name v) Q E {s with heap:=h',toks:=t}:=by
 obtain⟨a',bS,hv,hf,hs,fC,close⟩:=aV.aK hA av ex hx;have:Value.ref a=Value.ref a':=aZ.same hA.aq PR hv;cases this;refine kZ (cR hs) λks t1 t2 q I=>?_;have hB:=hA.base.ext ex hA.bE hA.aq;refine oE ((hA.aq.ext hA.bE ex).ns) λm hm=>?_;have MJ:St.d∈St.fp a:=by simp[aa.fp]
 have aX:findIn C.K (.ref kD) name=some none:=k.none hn;refine jH (yd ks t1 t2 (Un C.w.params name) (.str name (t+1))) λNm GX C1=>?_;have OD:name= "_node2info"\/name= "_ready_nodes"\/name= "_npassedout"\/name= "_nfinished":=by simpa [aU]using hn
 refine wo (s:={s with heap:=h',toks:=t}) (dx:=St.d) hm hB.cB I rfl (fC _ MJ).1 (eT k.ts) (dR k.ts) (by unfold takerIn;rw[aX];rfl) k.Fe ?_ ?_ λh₁ T ho=>?_
 ·rcases OD with rfl|rfl|rfl|rfl<;>rfl
 ·rw[C1];show 4<=1000;decide
 ·rw[C1]at ho;exact kk _ (close h₁ _ a8 St.d T MJ (gd h₁ (λb hb zZ ob e=>T.1 b ob (fC b zZ).1 hb e) (λb ob hb hl e=>T.1 b ob hl hb e) hs ⟨_,_,_,_,ho⟩) jt (by rw[ho];rfl))
theorem St.r6(k:bD C.K){pos:Pos}{n:Nat}{St:aa}{v:Int}(i:Nat){name:Str}(hi:(i=2/\name= "_npassedout")\/(i=3/\name= "_nfinished"))(hr:aB C A)(hA:aV C A env o Γ s)(hx:Γ.lookup x=some (some (n+1,.aK St)))(hE:Ev C env (cv Γ) e m3 (.int v))
  (kk:∀s',aV C A env o ((x,some (n+1,.aK {St with au:=if i=2 then St.au+v else St.au,az:=if i=2 then St.az else St.az+v}))::Γ) s'->RM (RF C.prog C.w) A (execs rest env) Q E s')
  (eg:autoParam (bk x) oA1._auto_1):
  RM (RF C.prog C.w) A (execs (.AugAssign (.Attribute (.Name x px) name p) .Add e pos::rest) env) Q E s:=by
 refine RI (Xs ?_);obtain⟨S,fp,hA,av⟩:=hA;obtain⟨a,bS,hv,hf,hs,fC,_⟩:=aV.aK hA av (.refl _ _ _) hx;refine Sz (ao hA.aq hv ?_) eg;refine kZ (cR hs) λks t1 t2 q I=>?_;have hm:name∈aU:=by rcases hi with⟨_,rfl⟩|⟨_,rfl⟩<;>simp[aU]
 have gK:∃t,getL name (bL C.w ks St.n2 St.tR St.au St.az t1 t2)=some (some (.int (if i=2 then St.au else St.az) t)):=by
  rcases hi with⟨rfl,rfl⟩|⟨rfl,rfl⟩
  ·exact⟨t1,rfl⟩
  ·exact⟨t2,rfl⟩
 refine oE gK λt0 gK=>?_;refine rJ (attr:=none) hA.base.cB I (aL k.ts name) k.Fe (k.none hm) rfl gK rfl ?_;refine hE A S _ {s with toks:=s.toks+1} _ E hr hA.here λu h2 t3 c7 ru=>?_;refine oE ru.int_inv λtv zr=>?_;subst zr;refine Wi ?_;refine tY (a8:={St with au:=if i=2 then St.au+v else St.au,az:=if i=2 then St.az else St.az+v}) k hA av c7 hx hv hm ?_ rfl ?_ (λb hb=>.inl hb) kk
 ·intro ks t1 t2 Mt key;rcases hi with⟨rfl,rfl⟩|⟨rfl,rfl⟩
  ·exact⟨_,t2,rfl⟩
  ·exact⟨t1,_,rfl⟩
 ·intro h₁ h1 _ hs hd;exact hs.LP h1 hd
theorem St.ye(k:bD C.K){pos:Pos}{n:Nat}{St:aa}(hr:aB C A)(hA:aV C A env o Γ s)(hx:Γ.lookup x=some (some (n+1,.aK St)))(nX:St.aI=none)(hE:bI C env (cv Γ) e md (Key.cV ks))
  (kk:∀s' l,aV C A env o ((x,some (n+1,.aK {St with aI:=some (l,ks)}))::Γ) s'->RM (RF C.prog C.w) A (execs rest env) Q E s')
  (hs:autoParam (SR e (some (.Attribute (.Name x px) "_ready_nodes" p)) pos.line env=pure false) oA1._auto_1) (eg:autoParam (bk x) oA1._auto_1):
  RM (RF C.prog C.w) A (execs (.Assign [.Attribute (.Name x px) "_ready_nodes" p] e pos::rest) env) Q E s:=by
 refine RI (plainObj_wpAny_Assign_Attribute ?_ hs);obtain⟨S,fp,hA,av⟩:=hA;refine hE A S _ s _ E hr hA.here λl vs q h1 t1 bQ te cY rW rl=>?_;obtain⟨a,bS,hv,hf,hs,fC,_⟩:=aV.aK hA av bQ hx;refine Sz (ao (s:={s with heap:=h1,toks:=t1}) (hA.aq.ext hA.bE bQ) (hv.ext hA.aq hA.bE bQ) ?_) eg;have jS:l∉St.fp a:=λhm=>by have:=(fC l hm).2.2;rw[te]at this;cases this
 have Gb:l≠env.locals:=λe=>by refine cU hA.aq.ns λm' om _ _ Di _=>?_;rw[<-e,te]at Di;cases Di
 refine tY (a8:={St with aI:=some (l,ks)}) k hA av bQ hx hv (by simp[aU]) ?_ rfl ?_ ?_ (λs' h=>kk s' l h)
 ·intro Nj t1 t2 Mt key;exact⟨t1,t2,rfl⟩
 ·intro h₁ qK we hs hd;have OT:l≠St.d:=λe=>jS (by rw[e];simp[aa.fp]);exact hs.Ej nX qK hd (we l _ OT Gb rW) rl.keys jS
 ·intro b hb;unfold aa.fp aa.sV at hb;simp only[Rr,Rw,RN,or_false,UT,UB]at hb;rcases hb with rfl|rfl|rfl|rfl|hb
  ·exact .inl (by simp[aa.fp])
  ·exact .inl (by simp[aa.fp])
  ·exact .inl (by simp[aa.fp])
  ·exact .inr ⟨te,cY⟩
  ·refine .inl ?_;unfold aa.fp;simp only[Rr,Rw];exact .inr (.inr (.inr (.inr hb)))
end
section
variable{Γ:ag}{s:Ro}{Q:Flow->Ro->Prop}{S:RD->Prop}{fp:Str->List RD}
theorem KeysAre.append{js:List Key}(a:KeysAre vs ks)(b:KeysAre us js):KeysAre (vs++us) (ks++js):=by
 induction a with
 |nil=>exact b
 |cons h _ ih=>exact .cons h ih
theorem KeysAre.length(a:KeysAre vs ks):vs.length=ks.length:=by
 induction a with
 |nil=>rfl
 |cons _ _ ih=>simp[ih]
theorem ng(k:bD C.K)(hA:At C A env S fp Γ s.heap)(av:Step A env o S fp s){n:Nat}{St:aa}{r:RD×List Key}(hx:Γ.lookup x=some (some (n+1,.aK St)))(oP:St.aI=some r){Q:Rz->Ro->Prop}
  (kk:Q (.ref r.1) {s with toks:=s.toks+1}) (eg:autoParam (bk x) oA1._auto_1)
  (lI:autoParam (∀env,eval (.Attribute (.Name x px) "_ready_nodes" p) env=(do
   let o ←eval (.Name x px) env
   standAt p.atName
   let r ←holding [o] (getAttr o "_ready_nodes" true)
   letTemporaryGo (.Name x px) o r
   pure r)) oA6._auto_1):RM (RF C.prog C.w) A (eval (.Attribute (.Name x px) "_ready_nodes" p) env) Q E s:=by
 obtain⟨a,bS,hv,hf,hs,fC,_⟩:=aV.aK hA av (.refl _ _ _) hx;refine TV (Sz (ao hA.aq hv ?_) eg) (lI env);refine kZ (cR hs) λks t1 t2 q I=>?_;refine rJ (attr:=none) hA.base.cB I (aL k.ts _) k.Fe (k.none (by simp[aU])) rfl (v:=.ref r.1) ?_ rfl kk;have:St.tR= .ref r.1:=by unfold aa.tR;rw[oP]
 rw[<-this];rfl
theorem St.qw(k:bD C.K){pos:Pos}{n:Nat}{St:aa}{r:RD×List Key}{key:Key}(hr:aB C A)(hA:aV C A env o Γ s)(hx:Γ.lookup x=some (some (n+1,.aK St)))(oP:St.aI=some r)(hE:Ev C env (cv Γ) arg m3 key.pv)(aF:r.2.length<=lim)
  (kk:∀s',aV C A env o ((x,some (n+1,.aK {St with aI:=some (r.1,r.2++[key])}))::Γ) s'->RM (RF C.prog C.w) A (execs rest env) Q E s')
  (eg:autoParam (bk x) oA1._auto_1)
  (lI:autoParam (∀env,eval (.Attribute (.Name x px) "_ready_nodes" p) env=(do
   let o ←eval (.Name x px) env
   standAt p.atName
   let r ←holding [o] (getAttr o "_ready_nodes" true)
   letTemporaryGo (.Name x px) o r
   pure r)) oA6._auto_1)
  (aJ:autoParam (TS (.Attribute (.Name x px) "_ready_nodes" p) "append" env (eval (.Attribute (.Name x px) "_ready_nodes" p) env)=eval (.Attribute (.Name x px) "_ready_nodes" p) env) oA1._auto_1)
  (cy:autoParam (dD pos env [arg]) oA1._auto_1)
  (aW:autoParam ((apos.endLine==pos.line)=true) oA1._auto_1) (bg:autoParam (SF pos (RV [arg] env)=[(false,eval arg env)]) oA1._auto_1)
  (hi:autoParam (interactive env=false) oA1._auto_1) (hs:autoParam (SR (.Call (.Attribute (.Attribute (.Name x px) "_ready_nodes" p) "append" apos) [arg] [] pos) none fq.line env=pure false) oA1._auto_1):
  RM (RF C.prog C.w) A (execs (.Expr (.Call (.Attribute (.Attribute (.Name x px) "_ready_nodes" p) "append" apos) [arg] [] pos) fq::rest) env) Q E s:=by
 refine RI (Uh ?_ hi hs);refine Tq aJ cy aW TK UQ UP ?_;obtain⟨S,fp,hA,av⟩:=hA;refine ng k hA av hx oP ?_ eg lI;obtain⟨a,_,_,_,Gi,_,_⟩:=aV.aK hA av (.refl _ _ _) hx;refine aM (Gi.ready r oP) λOa q0 g0 _=>?_;refine⟨⟨_,g0,rfl⟩,λb e=>by cases e;exact⟨_,g0,rfl⟩,?_⟩;rw[bg];refine Vp ?_;refine hE A S _ {s with toks:=s.toks+1} _ E hr hA.here λu h2 t2 ex ru=>?_;obtain⟨a,bS,hv,hf,hs,fC,close⟩:=aV.aK hA av ex hx;refine aM (hs.ready r oP) λvs q g1 g2=>?_;have hm:=aa.gZ (a:=a) oP;refine aD (gc g1 (λxs=>xs.push u) (us:=vs++[u]) (by simp)) λk' h1 jK=>?_;refine⟨vs.toArray,q,?_,g1,?_⟩
 ·have:=g2.length;unfold lim at aF;simp only[RX,this];show _<=2^24;omega
 ·have T:=fQ.of_same jK (fC _ hm).1;refine kk _ (close _ t2 _ r.1 T hm (hs.Ip oP (λb hb zZ ob e=>T.1 b ob (fC b zZ).1 hb e) h1 (g2.append (.cons ru.key .nil))) (λb hb=>.inl ?_) (by rw[h1];rfl));unfold aa.fp aa.sV at hb⊢;rw[oP];exact hb
theorem St.tZ(k:bD C.K){pos:Pos}{n:Nat}{St:aa}{r:RD×List Key}(hr:aB C A)(hA:aV C A env o Γ s)(hx:Γ.lookup x=some (some (n+1,.aK St)))(oP:St.aI=some r)(aF:r.2.length<=lim)
  (kk:∀s',aV C A env o ((x,some (n+1,.aK {St with aI:=some (r.1,[])}))::Γ) s'->RM (RF C.prog C.w) A (execs rest env) Q E s')
  (eg:autoParam (bk x) oA1._auto_1)
  (lI:autoParam (∀env,eval (.Attribute (.Name x px) "_ready_nodes" p) env=(do
   let o ←eval (.Name x px) env
   standAt p.atName
   let r ←holding [o] (getAttr o "_ready_nodes" true)
   letTemporaryGo (.Name x px) o r
   pure r)) oA6._auto_1)
  (aJ:autoParam (TS (.Attribute (.Name x px) "_ready_nodes" p) "clear" env (eval (.Attribute (.Name x px) "_ready_nodes" p) env)=eval (.Attribute (.Name x px) "_ready_nodes" p) env) oA1._auto_1)
  (cy:autoParam (dD pos env []) oA1._auto_1)
  (aW:autoParam ((apos.endLine==pos.line)=true) oA1._auto_1) (bg:autoParam (SF pos (RV [] env)=[]) oA1._auto_1)
  (hi:autoParam (interactive env=false) oA1._auto_1) (hs:autoParam (SR (.Call (.Attribute (.Attribute (.Name x px) "_ready_nodes" p) "clear" apos) [] [] pos) none fq.line env=pure false) oA1._auto_1):
  RM (RF C.prog C.w) A (execs (.Expr (.Call (.Attribute (.Attribute (.Name x px) "_ready_nodes" p) "clear" apos) [] [] pos) fq::rest) env) Q E s:=by
 refine RI (Uh ?_ hi hs);refine Tq aJ cy aW TK PySem.F.slot_list_clear PySem.F.type_list_clear ?_;obtain⟨S,fp,hA,av⟩:=hA;refine ng k hA av hx oP ?_ eg lI;obtain⟨a,bS,hv,hf,hs,fC,close⟩:=aV.aK hA av (.refl _ _ _) hx;refine aM (hs.ready r oP) λvs q g1 g2=>?_;have hm:=aa.gZ (a:=a) oP;refine⟨⟨_,g1,rfl⟩,λb e=>by cases e;exact⟨_,g1,rfl⟩,?_⟩;rw[bg];refine aD (gc g1 (λω=>#[]) (us:=[]) rfl) λk' h1 jK=>?_;refine PySem.P.clear_list (items:=vs.toArray) (n:=q) g1 ?_ ?_
 ·have T:=fQ.of_same jK (fC _ hm).1;refine kk _ (close _ (s.toks+1) _ r.1 T hm (hs.Ip oP (λb hb zZ ob e=>T.1 b ob (fC b zZ).1 hb e) h1 .nil) (λb hb=>.inl ?_) (by rw[h1];rfl));unfold aa.fp aa.sV at hb⊢;rw[oP];exact hb
 ·have:=g2.length;unfold lim at aF;simp only[RX,this];show _<=2^24;omega
theorem St.tE(k:bD C.K){pos:Pos}{n:Nat}{St:aa}{nd:aj}{key:Key}(hr:aB C A)(hA:aV C A env o Γ s)(hx:Γ.lookup x=some (some (n+1,.aK St)))(aG:nd∈St.nodes)(ho:Ev C env (cv Γ) oe m2 (.raw (.ref nd.loc)))(hE:Ev C env (cv Γ) arg m3 key.pv)(aF:nd.succ.length<=lim)
  (kk:∀s',aV C A env o ((x,some (n+1,.aK (St.dF nd.loc (cA key))))::Γ) s'->RM (RF C.prog C.w) A (execs rest env) Q E s')
  (lI:autoParam (∀env,eval (.Attribute oe "successors" p) env=(do
   let o ←eval oe env
   standAt p.atName
   let r ←holding [o] (getAttr o "successors" true)
   letTemporaryGo oe o r
   pure r)) oA6._auto_1)
  (aJ:autoParam (TS (.Attribute oe "successors" p) "append" env (eval (.Attribute oe "successors" p) env)=eval (.Attribute oe "successors" p) env) oA1._auto_1)
  (cy:autoParam (dD pos env [arg]) oA1._auto_1)
  (aW:autoParam ((apos.endLine==pos.line)=true) oA1._auto_1) (bg:autoParam (SF pos (RV [arg] env)=[(false,eval arg env)]) oA1._auto_1)
  (hi:autoParam (interactive env=false) oA1._auto_1) (hs:autoParam (SR (.Call (.Attribute (.Attribute oe "successors" p) "append" apos) [arg] [] pos) none fq.line env=pure false) oA1._auto_1):
  RM (RF C.prog C.w) A (execs (.Expr (.Call (.Attribute (.Attribute oe "successors" p) "append" apos) [arg] [] pos) fq::rest) env) Q E s:=by
 refine RI (Uh ?_ hi hs);refine Tq aJ cy aW TK UQ UP ?_;obtain⟨S,fp,hA,av⟩:=hA;refine TV ?_ (lI env);refine ho A S _ s _ E hr hA.here λw h1 t1 bQ zL=>?_;cases zL.aQ;obtain⟨a,bS,hv,hf,Gi,fC,_⟩:=aV.aK hA av bQ hx;have r0:=Gi.nodes nd aG;refine aM (fE r0) λkv t0 jw I=>?_;obtain⟨q,g1,g2,g3,g4,g5,g6⟩:=k.slots (x:="successors") (i:=2) (by decide);have X:=(hA.base.ext bQ hA.bE hA.aq).cB;refine ja (s:={s with heap:=h1,toks:=t1}) X I (aL k.ni _) (cG k.ni) g1 g2 g3 g4 (v:=.ref nd.lst) rfl rfl ?_;refine aM r0.list λOa q0 e0 _=>?_;refine⟨⟨_,e0,rfl⟩,λb e=>by cases e;exact⟨_,e0,rfl⟩,?_⟩;rw[bg];refine Vp ?_;refine hE A S _ {s with heap:=h1,toks:=t1+1} _ E hr (hA.here.ext bQ) λu h2 t2 ex ru=>?_;obtain⟨a,bS,hv,hf,hs,fC,close⟩:=aV.aK hA av (bQ.trans ex) hx;have r:=hs.nodes nd aG;refine aM r.list λvs q e1 e2=>?_;have GY:nd.lst∈nd.fp:=by simp[aj.fp]
 have hm:=aa.cb (a:=a) aG GY;refine aD (gc e1 (λxs=>xs.push u) (us:=vs++[u]) (by simp)) λk' qK jK=>?_;refine⟨vs.toArray,q,?_,e1,?_⟩
 ·have:=e2.length;unfold lim at aF;simp only[RX,this];show _<=2^24;omega
 ·have T:=fQ.of_same jK (fC _ hm).1;have EK:∀b,b≠nd.lst->b∈St.fp a->∀ob,h2.get? b=some ob->(h2.update nd.lst (Us λxs=>xs.push u)).get? b=some ob:=λb hb zZ ob e=>T.1 b ob (fC b zZ).1 hb e;have rH:nd.loc≠nd.lst/\nd.dc≠nd.lst:=by
   have h0:nd.fp.Nodup:=wx hs.qt aG;simp only[aj.fp,RO,Rr,RN,or_false,not_or]at h0;exact⟨h0.1.2,h0.2.1⟩
  have hn:da (h2.update nd.lst (Us λxs=>xs.push u)) (cA key nd):=by
   refine aM r.inst λJ1 t' f1 f2=>?_;exact⟨⟨J1,t',f1,EK _ rH.1 (aa.cb aG (by simp[aj.fp])) _ f2⟩,EK _ rH.2 (aa.cb aG (by simp[aj.fp])) _ r.dict,⟨_,_,qK,e2.append (.cons ru.key .nil)⟩⟩
  exact kk _ (close _ t2 _ nd.lst T hm (hs.dF aG GY (ij key) EK hn) (λb hb=>.inl (by rw[St.mG _ (ij key)]at hb;exact hb)) (by rw[qK];rfl))
end
noncomputable def cq(l:List Stmt)(i:Nat):Stmt:=(l[i]?).getD (.Pass default)
noncomputable def bh:Stmt->List Stmt
 | .FunctionDef _ _ b _ _ _ _ _ _ _=>b
 | .ClassDef _ _ _ b _ _ _ _ _ _ _=>b
 |_=>[]
noncomputable def ae:Stmt->List (Str×NameKind)
 | .FunctionDef _ _ _ _ _ _ s _ _ _=>s.names
 |_=>[]
noncomputable def jz:Stmt->Arguments
 | .FunctionDef _ a _ _ _ _ _ _ _ _=>a
 |_=>default
noncomputable def HS:List Stmt:=V7.main.body
noncomputable def G6(i:Nat):Stmt:=cq (bh (cq HS 4)) i
noncomputable def cC(i:Nat):Stmt:=cq (bh (cq HS 6)) i
inductive HR(K:Frag)(fa:RD)(d:Stmt)(dflt:Rz):Prop
 |mk (ob:Obj) (fd:FuncData):K.lookup fa=some ob->ob.data= .func fd->qO fd=true->codeIn K fd.code fd.qualname=true->fd.body= .stmts (bh d)->fd.scope.names=ae d->fd.params=jz d->fd.defaults=dflt->fd.kwdefaults= .none->HR K fa d dflt
structure FnAt(K:Frag)(fa:RD)(d:Stmt)(dflt:Rz):Prop where
 ex:HR K fa d dflt
section
variable{S:RD->Prop}{fp:Str->List RD}{Γ:ag}
theorem At.G5(hA:At C A env S fp Γ h)(B:RD->Prop)(hk:∀a o,a≠env.locals->¬B a->h.get? a=some o->h₁.get? a=some o)(bR:∀m,h.Ns env.locals m->h₁.Ns env.locals m)
  (hB:∀a,B a->Rt<a/\(∀o,C.K.lookup a≠some o)/\¬S a/\¬ax A env a/\∀y,a∉fp y):At C A env S fp Γ h₁:=by
 have hc:∀x c,env.cells.lookup x=some c->¬B c:=λx c hx h=>(hB _ h).2.2.2.1 (.inr ⟨x,hx⟩);have live:∀a,a≠env.locals->¬B a->(h.get? a).isSome=true->(h₁.get? a).isSome=true:=λa hl hb ha=>by
  refine oE (Rv.mp ha) λo ho=>?_;rw[hk a o hl hb ho];rfl
 have nl:∀a,¬ax A env a->a≠env.locals:=λa h e=>h (.inl (.inl e));have jT:∀a o,¬Fz A env a->¬B a->h.get? a=some o->h₁.get? a=some o:=λa o hz=>hk a o λe=>hz (.inl e);refine{cx:=hA.cx,base:=hA.base.turn hA.bE hA.aq B jT (λa ha=>⟨(hB a ha).1,(hB a ha).2.1⟩),aq:=hA.aq.turn hA.bE B jT bR hc,bE:=hA.bE.sk (oE hA.aq.ns λm hm=>⟨m,bR m hm⟩) (.of_keep λa o hs hl ho=>hk a o hl (λh=>(hB a h).2.2.2.1 (.inl (.inr hs))) ho),aO:=λa ha=>?_,cZ:=hA.cZ,c9:=hA.c9,fold:=λy a ha=>?_,vars:=λy n pv hy=>?_}
 ·refine oA (hA.aO a ha) λh1 h2=>?_;exact⟨live a (nl a h2.1) (λhb=>(hB a hb).2.2.1 ha) h1,h2⟩
 ·refine oA (hA.fold y a ha) λh1 h2=>?_;exact⟨live a (nl a h2.1) (λhb=>(hB a hb).2.2.2.2 y ha) h1,h2⟩
 ·refine ei (hA.vars y n pv hy) λh0 v h1 h2=>?_;exact⟨h0,v,h1.turn hA.aq hA.bE B jT bR hc,h2.mono (λω z=>z) (λa o ha ho=>hk a o (nl a (hA.aO a ha).2.1) (λhb=>(hB a hb).2.2.1 ha) ho) λa ha o ho=>hk a o (nl a (hA.fold y a ha).2.1) (λhb=>(hB a hb).2.2.2.2 y ha) ho⟩
end
structure ff(C:Cx)(A:Sg)(env:Env)(Γ:ag)(s₀:Heap)(x:RD)(ox:Obj)(s:Ro)(sh:Ro):Prop where
 at_:At C A env (λω=>False) (λω=>[]) Γ s.heap
 same:∃h t,s={sh with heap:=h,toks:=t}
 inst:s.heap.get? x=some ox
 off:Rt<x/\(∀o,C.K.lookup x≠some o)/\¬ax A env x
 keep:∀a o,¬onStack A a->a≠x->s₀.get? a=some o->s.heap.get? a=some o
 fr:∀a o,onStack A a->s₀.get? a=some o->∃sl,s.heap.get? a=some {o with slots:=sl}
 frame:∀a,i7 env a->s₀.get? a=none
theorem ff.ext{Γ:ag}{x:RD}{ox:Obj}{s:Ro}{t:Nat}(l:ff C A env Γ s₀ x ox s sh)(ex:Ext A env s.heap h'):ff C A env Γ s₀ x ox {s with heap:=h',toks:=t} sh where
 at_:=by
  have:=l.at_.ext ex (λω=>False) λa ha=>ha.elim;have e:(λ(a:RD)=>False\/False)=(λω=>False):=funext λa=>propext ⟨λh=>h.elim id id,.inl⟩;rw[e]at this;exact this
 same:=jH l.same λh t0 e=>⟨h',t,by rw[e]⟩
 inst:=ex.keep x _ (λe=>l.off.2.2 (.inl e)) l.inst
 off:=l.off
 keep:=λa o hs ha ho=>ex.keep a o (λe=>e.elim (λe=>by have:=l.frame a (.inl e);rw[ho]at this;cases this) hs) (l.keep a o hs ha ho)
 fr:=λa o hs ho=>by
  refine oE (l.fr a o hs ho) λsl h1=>?_;refine oE (ex.fr a _ hs (λe=>by have:=l.frame a (.inl e);rw[ho]at this;cases this) h1) λsI h2=>?_;exact⟨sI,h2⟩
 frame:=l.frame
theorem ff.turn{Γ:ag}{x:RD}{ox FI:Obj}{s:Ro}{t:Nat}(l:ff C A env Γ s₀ x ox s sh)(T:fQ env.locals x s.heap h')(ho:h'.get? x=some FI):ff C A env Γ s₀ x FI {s with heap:=h',toks:=t} sh where
 at_:=l.at_.G5 (λa=>a=x) (λa o hl hb e=>T.1 a o hl hb e) T.2 λa ha=>by subst ha;exact⟨l.off.1,l.off.2.1,(λh=>h),l.off.2.2,λω h=>nomatch h⟩
 same:=jH l.same λh t0 e=>⟨h',t,by rw[e]⟩
 inst:=ho
 off:=l.off
 keep:=λa o hs ha hq=>T.1 a o (λe=>by have:=l.frame a (.inl e);rw[hq]at this;cases this) ha (l.keep a o hs ha hq)
 fr:=λa o hs hq=>by
  refine oE (l.fr a o hs hq) λsl h1=>?_;exact⟨sl,T.1 a _ (λe=>by have:=l.frame a (.inl e);rw[hq]at this;cases this) (λe=>l.off.2.2 (.inl (.inr (e▸hs)))) h1⟩
 frame:=l.frame
theorem oJ(R:Rz->Heap->Prop)(next:Rz->Array (Option Rz)){Γ:ag}{x:RD}{s:Ro}{name xs:Str}{pos:Pos}{Q:Flow->Ro->Prop}(k:bD C.K)(hi:(name,i)∈dy)
  (l:ff C A env Γ s₀ x ⟨.ref lL,some dx,.plain,sl⟩ s sh) (oN:s₀.get? dx=some {cls:=.type "dict",data:=.dict #[]}/\dx≠x/\¬onStack A dx) (hx:Γ.lookup xs=some (some (0,.raw (.ref x))))
  (hE:∀Q:Rz->Ro->Prop,(∀v h' t',Ext A env s.heap h'->R v h'->Q v {s with heap:=h',toks:=t'})->RM (RF C.prog C.w) A (eval e env) Q E s)
  (kk:∀s' v h',R v h'->ff C A env Γ s₀ x ⟨.ref lL,some dx,.plain,next v⟩ s' sh->(∀a o,a≠env.locals->a≠x->h'.get? a=some o->s'.heap.get? a=some o)->RM (RF C.prog C.w) A (execs rest env) Q E s')
  (iz:autoParam (∀v,(sl++WY (i+1 - sl.size) none).setIfInBounds i (some v)=next v) oA2._auto_1)
  (hs:autoParam (SR e (some (.Attribute (.Name xs px) name p)) pos.line env=pure false) oA1._auto_1) (eg:autoParam (bk xs) oA1._auto_1):
  RM (RF C.prog C.w) A (execs (.Assign [.Attribute (.Name xs px) name p] e pos::rest) env) Q E s:=by
 refine RI (plainObj_wpAny_Assign_Attribute (hE _ λv h' t' ex hR=>?_) hs);have l1:=l.ext (t:=t') ex;refine ei (l1.at_.vars xs _ _ hx) λbS u hu r=>?_;cases r.zero.1.aQ;refine Sz (ao (s:={s with heap:=h',toks:=t'}) l1.at_.aq hu ?_) eg;obtain⟨p',h1,h2,h3,h4,h5,h6⟩:=k.slots hi;have Le:=l1.keep dx _ oN.2.2 oN.2.1 oN.1;refine oE l1.at_.aq.ns λm hm=>?_;have Hg:i<1000:=by
  simp only[dy,Rr,UW,RN,or_false]at hi;rcases hi with h|h|h<;>omega
 refine w0 (s:={s with heap:=h',toks:=t'}) hm l1.at_.base.cB (od:=some {cls:=.type "dict",data:=.dict #[]}) ⟨l1.inst,rfl,rfl,Le⟩ (λe=>l1.off.2.2 (.inl (.inl e))) (eT k.ni) (dR k.ni) h5 h6 h4 Hg (by rw[iz]) rfl λh₁ T ho=>?_;exact kk _ v h' hR (l1.turn T ho) T.1
theorem x9(k:bD C.K)(f:FnAt C.K 36 (G6 1) .none){s:Ro}{x:RD}{key:Key}{kv:Rz}(hr:aB C.up A)(cx:C.Ok)(B:Base C s.heap)(fx:fc C A s.heap)(bS:key.is kv=true)
  (hx:s.heap.get? x=some ⟨.ref lL,some dx,.plain,#[]⟩) (oN:s.heap.get? dx=some {cls:=.type "dict",data:=.dict #[]}) (rN:dx≠x) (cY:Rt<x/\∀o,C.K.lookup x≠some o) (lh: ¬onStack A x/\¬onStack A dx)
  (kk:∀h' t' l,pF A (λa=>a=x) s.heap h'->(∃kv t,key.is kv=true/\h'.get? x=some (eU ⟨key,0,[],x,dx,l⟩ kv t))->s.heap.get? l=none->l≠x->(∃n,h'.get? l=some (gN [] n))->Rt<l->R (.ok (.ret .none)) {s with heap:=h',toks:=t'}):
  TR (RF C.prog C.w) A (.call (.ref 36) ⟨[.ref x,kv],[]⟩) R s:=by
 obtain⟨ob,fd,f1,f2,f3,f4,f5,f6,f7,f8,f9⟩:=f.ex;have Ax:fd.scope.names.lookup ("self":Str)=some .local:=by rw[f6];rfl
 have t7:fd.scope.names.lookup ("node":Str)=some .local:=by rw[f6];rfl
 refine eH (S:=λω=>False) (fp:=λω=>[]) (Γ:=[(("self":Str),some (0,.raw (.ref x))),("node",some (0,key.pv))]) (λaY h1=>aY=[(("self":Str),.ref x),("node",kv)]/\h1=s.heap) hr cx B fx f1 f2 (.of f3) f4 f5 (λQ E hq=>?_) (λaY h1 hp=>?_) (λω ω ω h=>nomatch h) (λω=>Sn) λenv h2 t2 yL hk du hA eJ mz mm g9=>?_
 ·have e:bindArgs fd ⟨[.ref x,kv],[]⟩=pure [(("self":Str),.ref x),("node",kv)]:=by unfold bindArgs;rw[f7,f8];rfl
  rw[e];exact RK (hq _ s.heap s.toks ⟨rfl,rfl⟩)
 ·obtain rfl:=hp.1.symm;obtain rfl:=hp.2.symm;refine⟨λω ω e=>e,(show([("self":Str),"node"]).Nodup by decide),λy hy=>?_,(λω h=>h.elim),(λω h=>h.elim),(λω ω h=>nomatch h),λy n pv hl=>?_⟩
  ·simp only[Rr,RN,or_false]at hy;rcases hy with rfl|rfl
   ·exact .inl Ax
   ·exact .inl t7
  ·rw[RB]at hl;cases hb:y==("self":Str)with
   |true=>
    rw[hb]at hl;cases hl;rw[beq_iff_eq.mp hb];exact⟨_,Rm,.val (.raw _)⟩
   |false=>
    rw[hb]at hl;simp only[RB]at hl;cases uw:y==("node":Str)with
    |true=>
     rw[uw]at hl;cases hl;rw[beq_iff_eq.mp uw];exact⟨kv,by simp,.val (Key.rd bS)⟩
    |false=>rw[uw]at hl;cases hl
 ·have own:∀a o,s.heap.get? a=some o->¬i7 env a:=λa o ho h=>by have:=du a h;rw[ho]at this;cases this
  have vX:∀a o,s.heap.get? a=some o->¬onStack A a->¬onStack (A.deeper env) a:=λa o ho hn hs=>((mm a).mp hs).elim (λe=>own a o ho (.inl e)) hn;have Cf: ¬ax (A.deeper env) env x:=λh=>by
   rcases h with(h|h)|h
   ·exact own x _ hx (.inl h)
   ·exact vX x _ hx lh.1 h
   ·exact own x _ hx (.inr h)
  have Fc:s.heap.get? dx=some {cls:=.type "dict",data:=.dict #[]}/\dx≠x/\¬onStack (A.deeper env) dx:=⟨oN,rN,vX dx _ oN lh.2⟩;have l0:ff C (A.deeper env) env [("self",some (0,.raw (.ref x))),("node",some (0,key.pv))] s.heap x ⟨.ref lL,some dx,.plain,#[]⟩ {s with heap:=h2,toks:=t2} s:=
   ⟨hA,⟨h2,t2,rfl⟩,hk x _ hx,⟨cY.1,cY.2,Cf⟩,λa o ω ω ho=>hk a o ho,λa o ω ho=>⟨o.slots,hk a o ho⟩,du⟩
  have mY:env.kindOf "node" =some .local:=by rw[eJ];exact t7
  refine oJ (λv ω=>key.is v=true) (λv=>#[some v]) (i:=0) (dx:=dx) k (by decide) l0 Fc rfl (λQ hq=>?_) λs1 v1 ω Bq l1 ω=>?_
  ·refine(Ev.name (C:=C) (Γ:=cv [(("self":Str),some (0,.raw (.ref x))),(("node":Str),some (0,key.pv))]) (md:=true) (pv:=key.pv) rfl (by rw[mY];rfl)) _ _ _ _ _ _ mz hA.here λv h' t' ex rd=>hq v h' t' ex rd.key
  refine oJ (λv ω=>∃t,v= .int 0 t) (λv=>#[some v1,some v]) (i:=1) (dx:=dx) k (by decide) l1 Fc rfl (λQ hq=>?_) λs2 v2 ω DI l2 ω=>?_
  ·exact(Ev.int (C:=C) (md:=true)) _ _ _ _ _ _ mz l1.at_.here λv h' t' ex rd=>hq v h' t' ex rd.int_inv
  refine oJ (λv h=>∃l,v= .ref l/\s2.heap.get? l=none/\(∃n,h.get? l=some (gN [] n))/\Rt<l) (λv=>#[some v1,some v2,some v]) (i:=2) (dx:=dx) k (by decide) l2 Fc rfl (λQ hq=>?_) λs3 v3 h3 HC l3 T3=>?_
  ·refine(bI.list (C:=C) (md:=true) (ba.nil) (by decide)) _ _ _ _ _ _ mz l2.at_.here λa vs n h' t' ex hn cY ho rv=>hq _ h' t' ex ⟨a,rfl,hn,⟨n,?_⟩,cY⟩;cases rv;exact ho
  refine Ws ?_;refine oE DI λGX zr=>?_;clear DI;subst zr;refine aD HC λl zr zw=>?_;clear HC;subst zr;refine dd zw λkz yi HN=>?_;clear zw;obtain⟨n,wX⟩:=yi;refine jH l3.same λh4 t4 e4=>?_;subst e4;have IW:l≠x:=λe=>by rw[e,l2.inst]at kz;cases kz
  have Gb:l≠env.locals:=λe=>by refine cU l2.at_.aq.ns λm' om _ _ Di _=>?_;rw[<-e,kz]at Di;cases Di
  have Bo:s.heap.get? l=none:=by
   cases hq:s.heap.get? l with
   |none=>rfl
   |some b=>
    have hl:(s2.heap.get? l).isSome=true:=by
     by_cases hs:onStack (A.deeper env) l
     ·refine oE (l2.fr l b hs hq) λsl h1=>?_;rw[h1];rfl
     ·rw[l2.keep l b hs IW hq];rfl
    rw[kz]at hl;cases hl
  have cO:h4.get? x=some (eU ⟨key,0,[],x,dx,l⟩ v1 GX):=l3.inst;exact kk h4 t4 l ⟨λa b hs hb hq=>l3.keep a b (vX a b hq hs) hb hq,λa b hs hq=>l3.fr a b ((mm a).mpr (.inr hs)) hq⟩ ⟨v1,GX,Bq,cO⟩ Bo IW ⟨n,T3 l _ Gb IW wX⟩ HN
noncomputable abbrev sf:Str:="self"
structure Grows(St a8:aa):Prop where
 loc:a8.loc=St.loc
 fp:∀b∈St.fp St.loc,b∈a8.fp a8.loc
noncomputable def fU(C:Cx)(fa:RD)(St:aa)(xs:List PV)(post:aa->PV->Prop):Prop:=
 ∀ (A:Sg) (S:RD->Prop) (s:Ro) (vs:List Rz) (R:Result->Ro->Prop),aB C.up A->C.Ok->Base C s.heap->fc C A s.heap->(∀b,S b->(s.heap.get? b).isSome=true/\b∉St.fp St.loc/\¬onStack A b)->ah C.prog C.w s.heap St.loc St->
  (∀b∈St.fp St.loc,¬onStack A b/\Rt<b/\∀o,C.K.lookup b≠some o)->ab C.prog C.w S s.heap vs xs->
  (∀v h' t' a8 pv,post a8 pv->Grows St a8->ah C.prog C.w h' a8.loc a8->pF A (λb=>b∈St.fp St.loc) s.heap h'->(∀b∈a8.fp a8.loc,b∈St.fp St.loc\/(s.heap.get? b=none/\Rt<b))->
   Rd C.prog C.w (λb=>(S b\/s.heap.get? b=none)/\b∉a8.fp a8.loc) h' v pv->R (.ok (.ret v)) {s with heap:=h',toks:=t'})->
  TR (RF C.prog C.w) A (.call (.ref fa) ⟨.ref St.loc::vs,[]⟩) R s
inductive ya(C:Cx)(A:Sg)(env:Env)(o:iD)(x:Str)(St:aa)(pv:PV)(v:Rz)(s:Ro):Prop
 |mk (S:RD->Prop) (fp:Str->List RD) (Γ:ag):At C A env S fp Γ s.heap->Step A env o S fp s->Γ.lookup x=some (some (1,.aK St))->Rd C.prog C.w S s.heap v pv->ya C A env o x St pv v s
theorem fU.core{sv:Str}{d:Stmt}(f:FnAt C.K fa d dflt){St:aa}(nG:ag)
  (hb:∀ (fd:FuncData) (A:Sg) (S:RD->Prop) (s:Ro) (vs:List Rz),fd.params=jz d->fd.defaults=dflt->fd.kwdefaults= .none->Base C s.heap->(∀b,S b->(s.heap.get? b).isSome=true)->ab C.prog C.w S s.heap vs xs->∃ (kO:RD->Prop) (aY:List (Str×Rz)) (h1:Heap),
   (∀ (Q:List (Str×Rz)->Ro->Prop) (E:Rz->Ro->Prop),(∀t1,Q aY {s with heap:=h1,toks:=t1})->RM (RF C.prog C.w) A.in1 (bindArgs fd ⟨.ref St.loc::vs,[]⟩) Q E s)/\
   (∀a b,s.heap.get? a=some b->h1.get? a=some b)/\(aY.map (·.1)).Nodup/\(∀x∈aY,(ae d).lookup x.1=some .local\/(ae d).lookup x.1=some .cell)/\
   (∀a,kO a->(S a\/s.heap.get? a=none)/\(h1.get? a).isSome=true)/\(sv,Value.ref St.loc)∈aY/\∀x n pv,x≠sv->nG.lookup x=some (some (n,pv))->n=0/\∃v,(x,v)∈aY/\Rd C.prog C.w kO h1 v pv)
  (oi:∀a8 pv,post a8 pv->Grows St a8)
  (walk:∀ (A:Sg) (env:Env) (o:iD) (s:Ro) (Q:Flow->Ro->Prop) (E:Rz->Ro->Prop),(∀x,env.kindOf x=(ae d).lookup x)->j1 A env->aB C A->aV C A env o ((sv,some (1,.aK St))::nG) s->
   (∀v s' a8 pv,post a8 pv->ya C A env o sv a8 pv v s'->Q (.ret v) s')->(∀s' a8 af,post a8 .none->aV C A env o af s'->af.lookup sv=some (some (1,.aK a8))->Q .next s')->RM (RF C.prog C.w) A (execs (bh d) env) Q E s):
  fU C fa St xs post:=λA S s vs R hr cx B fx hS hs jt rv hR=>by
 obtain⟨ob,fd,f1,f2,f3,f4,f5,f6,f7,f8,f9⟩:=f.ex;refine vH (hb fd A S s vs f7 f8 f9 B (λb hb=>(hS b hb).1) rv) λkO aY h1 b1 b2 b3 b4 b5 b6 b7=>?_;have Qo:∀b,kO b->b∉St.fp St.loc:=λb hb hm=>by
  rcases(b5 b hb).1 with h|h
  ·exact(hS b h).2.1 hm
  ·have:=hs.there b hm;rw[h]at this;cases this
 refine eH (S:=kO) (fp:=λy=>if y=sv then St.fp St.loc else []) (Γ:=(sv,some (1,.aK St))::nG) (λbs h=>bs=aY/\h=h1) hr cx B fx f1 f2 (.of f3) f4 f5 (λQ E hq=>?_) (λbs h hp=>?_) (λx y a h1 h2=>?_) (λx=>?_) λenv h2 t2 yL hk du hA eJ mz mm g9=>?_
 ·exact b1 Q E λt1=>hq _ h1 t1 ⟨rfl,rfl⟩
 ·obtain rfl:=hp.1.symm;obtain rfl:=hp.2.symm;refine⟨b2,b3,λx hx=>by rw[f6];exact b4 x hx,λb hb=>⟨(b5 b hb).2,λlh=>?_⟩,λb hb x hm=>?_,λx b hb=>?_,λx n pv hl=>?_⟩
  ·rcases(b5 b hb).1 with h|h
   ·exact(hS b h).2.2 lh
   ·refine eQ (fx.high lh) λ_ _ N8 _ _ jy _=>?_;rw[h]at jy;cases jy
  ·by_cases hx:x=sv
   ·simp only[hx,if_true]at hm;exact Qo b hb hm
   ·simp[hx]at hm
  ·by_cases hx:x=sv
   ·simp only[hx,if_true]at hb;have:=hs.there b hb;refine oE (Rv.mp this) λq hq=>?_;exact⟨by rw[b2 b q hq];rfl,jt b hb⟩
   ·simp[hx]at hb
  ·rw[RB]at hl;cases hb:x==sv with
   |true=>
    rw[hb]at hl;cases hl;rw[beq_iff_eq.mp hb];exact⟨_,b6,by simp only[if_true];exact .aK (hs.mono λb ω q e=>b2 b q e)⟩
   |false=>
    rw[hb]at hl;have aX:x≠sv:=by simpa using hb
    refine oA (b7 x n pv aX hl) λzr zw=>?_;subst zr;refine aD zw λv h1 h2=>?_;clear zw;refine⟨v,h1,?_⟩;simp only[aX,if_false];exact .val h2
 ·by_cases h3:x=sv<;>by_cases h4:y=sv
  ·rw[h3,h4]
  ·simp[h4]at h2
  ·simp[h3]at h1
  ·simp[h3]at h1
 ·by_cases h3:x=sv
  ·simp only[h3,if_true];exact hs.nd
  ·simp[h3]
 ·let o:iD:=⟨kO,λy=>if y=sv then St.fp St.loc else [],{s with heap:=h2,toks:=t2}⟩
  have fin:∀v s' a8 pv,post a8 pv->ya C (A.deeper env) env o sv a8 pv v s'->R (.ok (.ret v)) s':=by
   rintro v s' a8 pv hp ⟨S',ed,af,bF,av,hl,rd⟩;have hg:=oi a8 pv hp;refine jH av.same λh3 t3 e=>?_;subst e;refine ei (bF.vars _ _ _ hl) λ_ u hu ro=>?_;have As:∀b,h2.get? b=none->s.heap.get? b=none:=λb hb=>by
    cases hq:s.heap.get? b with
    |none=>rfl
    |some q=>rw[hk b q hq]at hb;cases hb
   have fC:=bF.fold sv;have KP:∀b,S' b->b∉ed sv:=λb hb=>(bF.aO b hb).2.2 _;have M9:=av.mw sv;refine aD ro.view λa zr zw=>?_;subst zr;refine oA zw λhF gd=>?_;clear zw;rw[hF]at fC KP M9
   ·have ha:=gd.at_;subst ha;have J5:∀b,(∃y,b∈o.fp y)->b∈St.fp St.loc:=by
     rintro b ⟨y,hb⟩;by_cases hy:y=sv
     ·have:b∈(if y=sv then St.fp St.loc else []):=hb;simpa only[hy,if_true]using this
     ·have:b∈(if y=sv then St.fp St.loc else []):=hb;simp[hy]at this
    have own:∀b q,s.heap.get? b=some q->¬i7 env b:=λb q ho hf=>by rw[du b hf]at ho;cases ho
    refine hR v h3 t3 a8 pv hp hg gd ⟨λb q lh hb ho=>?_,λb q lh ho=>?_⟩ (λb hb=>?_) (rd.mono (λb hb=>⟨?_,KP b hb⟩) λω ω ω e=>e)
    ·refine av.keep b q (λhf=>?_) (λy hy=>hb (J5 b ⟨y,hy⟩)) (hk b q ho);rcases hf with(hf|hf)|hf
     ·exact own b q ho (.inl hf)
     ·exact((mm b).mp hf).elim (λh=>own b q ho (.inl h)) lh
     ·exact own b q ho (.inr hf)
    ·exact av.fr b q ((mm b).mpr (.inr lh)) (λe=>own b q ho (.inl e)) (hk b q ho)
    ·rcases M9 b hb with h|h
     ·exact .inl (J5 b h)
     ·exact .inr ⟨As b h,(fC b hb).2.2.1⟩
    ·rcases av.mu b hb with h|h|h
     ·exact(b5 b h).1
     ·exact absurd (hg.fp b (J5 b h)) (KP b hb)
     ·exact .inr (As b h)
  have zO:∀x,env.kindOf x=(ae d).lookup x:=λx=>by rw[eJ x,f6]
  refine walk _ env o _ _ _ zO g9 mz ⟨kO,_,hA,Step.refl _ _ _ _ _⟩ (λv s' a8 pv hp fV=>fin v s' a8 pv hp fV) λs' a8 af hp bF hl=>?_;obtain⟨S',ed,h5,h6⟩:=bF;exact fin .none s' a8 .none hp ⟨S',ed,af,h5,h6,hl,.none⟩
theorem fU.of{d:Stmt}(f:FnAt C.K fa d dflt){St:aa}(ns:List Str)(hlen:ns.length=xs.length)(aG:(sf::ns:List Str).Nodup)
  (cK:∀x∈(sf::ns:List Str),(ae d).lookup x=some .local\/(ae d).lookup x=some .cell)
  (e7:∀ (fd:FuncData) (v:Rz) (vs:List Rz),fd.params=jz d->fd.defaults=dflt->fd.kwdefaults= .none->vs.length=xs.length->bindArgs fd ⟨v::vs,[]⟩=pure (((sf,v))::ns.zip vs))
  (oi:∀a8 pv,post a8 pv->Grows St a8)
  (walk:∀ (A:Sg) (env:Env) (o:iD) (s:Ro) (Q:Flow->Ro->Prop) (E:Rz->Ro->Prop),(∀x,env.kindOf x=(ae d).lookup x)->j1 A env->aB C A->aV C A env o ((sf,some (1,.aK St))::fG ns xs) s->
   (∀v s' a8 pv,post a8 pv->ya C A env o sf a8 pv v s'->Q (.ret v) s')->(∀s' a8 af,post a8 .none->aV C A env o af s'->af.lookup sf=some (some (1,.aK a8))->Q .next s')->RM (RF C.prog C.w) A (execs (bh d) env) Q E s):
  fU C fa St xs post:=by
 refine fU.core f (fG ns xs) (λfd A S s vs h1 h2 h3 B hS rv=>?_) oi walk;have zy:=rv.length;have hz:((sf,Value.ref St.loc)::ns.zip vs).map (·.1)=sf::ns:=by rw[Sl,hZ ns vs (by rw[hlen,zy])]
 refine⟨λa=>S a/\(s.heap.get? a).isSome=true,(sf,.ref St.loc)::ns.zip vs,s.heap,λQ E hq=>?_,λω ω e=>e,by rw[hz];exact aG,λx hx=>cK _ (by rw[<-hz];exact RE.mpr ⟨x,hx,rfl⟩),λa ha=>⟨.inl ha.1,ha.2⟩,Rm,λx n pv aX hl=>?_⟩
 ·rw[e7 fd _ vs h1 h2 h3 zy];exact RK (hq s.toks)
 ·refine oA (gM ns xs vs x n pv rv.there hl) λzr zw=>?_;subst zr;refine aD zw λv g1 g2=>?_;clear zw;exact⟨rfl,v,Rn _ g1,g2⟩
theorem vG{Γ:ag}{S:RD->Prop}{fp:Str->List RD}{s:Ro}{n:Nat}{St:aa}{t:Nat}{Q:Rz->Ro->Prop}
  (hr:aB C.up A) (hA:At C.up A env S fp Γ s.heap) (av:Step A env o S fp s) (ex:Ext A env s.heap h') (hx:Γ.lookup x=some (some (n+1,.aK St))) (hM:fU C fa St xs post) (rv:ab C.prog C.w (λa=>S a\/s.heap.get? a=none) h' vs xs)
  (kk:∀v h₁ t a8 pv S' ed,post a8 pv->Grows St a8->At C.up A env S' ed ((x,some (n+1,.aK a8))::Γ) h₁->Step A env o S' ed {s with heap:=h₁,toks:=t}->Rd C.prog C.w S' h₁ v pv->Q v {s with heap:=h₁,toks:=t}):
  TR (RF C.prog C.w) A (.call (.ref fa) ⟨.ref St.loc::vs,[]⟩) (λr s'=>match r with| .ok (.ret v)=>Q v s'| .ok _=>False| .error e=>E e s') {s with heap:=h',toks:=t}:=by
 obtain⟨a,bS,hv,hf,hs,fC,_⟩:=aV.aK hA av ex hx;have ha:=hs.at_;subst ha;have hB:=hA.base.ext ex hA.bE hA.aq;have O0:=hA.bE.ext hA.aq.ns ex;have Cf:=hA.fold x;rw[hf]at Cf;have GG:∀b,S b->b∉St.fp St.loc:=λb hb=>by rw[<-hf];exact(hA.aO b hb).2.2 x
 refine hM A (λb=>(S b\/s.heap.get? b=none)/\(h'.get? b).isSome=true) {s with heap:=h',toks:=t} vs _ hr ⟨hA.cx.g⟩ ⟨hB.cB,hB.nolimit,hB.o3,hB.nodigits⟩ (O0.of rfl) (λb hb=>⟨hb.2,λhm=>?_,λlh=>?_⟩) hs (λb hb=>⟨λlh=>(Cf b hb).2.1 (.inl (.inr lh)),(Cf b hb).2.2.1,(Cf b hb).2.2.2⟩) rv.there λv h₁ t₁ a8 pv hp hg gd hk jt rd=>?_
 ·rcases hb.1 with h|h
  ·exact GG b h hm
  ·have:=(fC b hm).2.2;rw[h]at this;cases this
 ·rcases hb.1 with h|h
  ·exact(hA.aO b h).2.1 (.inl (.inr lh))
  ·have:=Fz.there hA.here (.inr lh);rw[h]at this;cases this
 ·have oD:∀b,h'.get? b=none->s.heap.get? b=none:=λb hb=>ex.fresh hA.aq.ns hb;have kL:∀b ob,¬Fz A env b->¬b∈St.fp St.loc->h'.get? b=some ob->h₁.get? b=some ob:=λb ob hz hb e=>hk.keep b ob (λlh=>hz (.inr lh)) hb e;have Kq:env.locals∉St.fp St.loc:=λhm=>(fC _ hm).1 rfl;have yM:=At.Hw (C:=C.up) (n:=n+1) (pv:=.aK a8) hA av ex bS hv (λb=>b∈St.fp St.loc) (h₁:=h₁) (f':=a8.fp a8.loc) kL (λb ob lh ω e=>hk.fr b ob lh e) (λm hm=>hk.ns Kq hm) (λb hb=>by rw[hf];exact hb)
   (λb hb=>gd.there b (hg.fp b hb)) (λb hb=>by
    rw[hf];rcases jt b hb with h|h
    ·exact .inl h
    ·exact .inr ⟨oD b h.1,h.2⟩) gd.nd (by rw[<-hg.loc];exact .aK gd) t₁
  refine kk v h₁ t₁ a8 pv _ _ hp hg yM.1 yM.2 (rd.there.mono (λb hb=>?_) λω ω ω e=>e);refine oA hb λrE h3=>?_;clear hb;obtain⟨h1,h2⟩:=rE;rcases h1 with⟨h1|h1,_⟩|h1
  ·exact .inl h1
  ·exact .inr ⟨h1,h3,h2⟩
  ·exact .inr ⟨oD b h1,h3,h2⟩
theorem AV{Γ:ag}{S:RD->Prop}{fp:Str->List RD}{s:Ro}{n:Nat}{St:aa}{t:Nat}{Q:Rz->Ro->Prop}
  (hr:aB C.up A) (hA:At C.up A env S fp Γ s.heap) (av:Step A env o S fp s) (ex:Ext A env s.heap h') (hx:Γ.lookup x=some (some (n+1,.aK St))) (hM:fU C fa St xs post) (rv:ab C.prog C.w (λa=>S a\/s.heap.get? a=none) h' vs xs)
  (kk:∀v h₁ t a8 pv S' ed,post a8 pv->Grows St a8->At C.up A env S' ed ((x,some (n+1,.aK a8))::Γ) h₁->Step A env o S' ed {s with heap:=h₁,toks:=t}->Rd C.prog C.w S' h₁ v pv->Q v {s with heap:=h₁,toks:=t}):
  RM (RF C.prog C.w) A (call (.ref fa) (.ref St.loc::vs)) Q E {s with heap:=h',toks:=t}:=
 Uy (vG hr hA av ex hx hM rv kk)
structure tB(K:Frag)(c fi:RD):Prop where
 keep:keepIn K (.ref c)=true
 init:findIn K (.ref c) "__init__" =some (some (.ref fi))
 fn:isFn K (.ref fi)=true
section
variable{Γ:ag}{s:Ro}{Q:Flow->Ro->Prop}{S:RD->Prop}{fp:Str->List RD}
theorem Base.of{C':Cx}(B:Base C h)(hk:C'.K=C.K):Base C' h:=⟨by rw[hk];exact B.cB,B.nolimit,B.o3,B.nodigits⟩
theorem yA{fI:Stmt}{Γ:fT}{p pos:Pos}{key:Key}{Q:Rz->Ro->Prop}(k:bD C.K)(f:FnAt C.K 36 (G6 1) .none)(mk:tB C.K lL 36)(hr:aB C.up.up A)(hh:Here C.up.up A S U env Γ s.heap)(hk:env.kindOf "_NodeInfo" =some .globalImplicit)(hg:C.glob "_NodeInfo" =some (.ref lL))(hE:Ev C.up.up env Γ arg md key.pv)
  (kk:∀x dx l h' t',Ext A env s.heap h'->da h' ⟨key,0,[],x,dx,l⟩->s.heap.get? x=none->s.heap.get? dx=none->s.heap.get? l=none->Rt<x->Rt<dx->Rt<l->x≠dx->x≠l->dx≠l->Q (.ref x) {s with heap:=h',toks:=t'})
  (he:autoParam (uC arg []) oA2._auto_1):
  RM (RF C.prog C.w) A (eval (.Call (.Name "_NodeInfo" p) [arg] [] pos) env) Q E s:=by
 refine TC (Sz (bu hh.cx hh.base hh.aq hk (.inl hg) ?_) rfl);refine callWith_K (K:=C.K) hh.base.cB mk.keep ?_ (he env) rfl;rw[he env];refine Tr ?_;refine hE A S U s _ E hr hh λkv h1 t1 bQ rk=>?_;refine Ud ?_;have yF:=hh.ext bQ;refine⟨yF.base.cB,Uy ?_⟩;refine oE yF.aq.ns λm hm=>?_;refine make_K (s:={s with heap:=h1,toks:=t1}) (JJ hm) xf yF.base.cB (iK k.ni) mk.init (beq_iff_eq.mp mk.fn) λx dx h2 F N hlt rN=>?_;have oM:∀a ob,a≠env.locals->h1.get? a=some ob->h2.get? a=some ob:=λa ob hl e=>(N (a,ob) (Rn _ (Rn _ (dO.mpr ⟨hl,e⟩)))).1;have c7:Ext A env h1 h2:=.j4 oM λm' iA=>by
  have:m'=m:=funext λy=>iA.agree hm y;subst this;exact F.ns
 have Ao:=(N _ Rm);have sr:=(N _ (Rn _ Rm));have yJ:∀a,a≠env.locals->dx<=a->h1.get? a=none:=λa hl ha=>by
  cases hq:h1.get? a with
  |none=>rfl
  |some ob=>exact absurd (hlt (a,ob) (dO.mpr ⟨hl,hq⟩)) (SV.mpr ha)
 have yQ:=yJ x Ao.2.1 (RS rN);have yt:=yJ dx sr.2.1 (Rx _);have kE:=bQ.trans c7;have ta:Rt<dx:=by
  have Lf:Rt≠env.locals:=Sm hh.aq.high;refine aD (qP yF.cx yF.base) λmg Bn _=>?_;refine aP Bn λob _ _ fo _=>?_;clear Bn;exact hlt (_,ob) (dO.mpr ⟨Lf,fo⟩)
 have Iw:Rt<x:=R0 ta rN;have B2:Base C h2:=((hh.ext kE).base).of rfl;have Ci:aB C.up (A.under (.builtin "type.__call__" ⟨.ref lL::[kv],[]⟩)):=aB.mono (A':=A.under (.builtin "type.__call__" ⟨.ref lL::[kv],[]⟩)) hr rfl (by show A.depth+1<=A.depth+2;omega) (by
  have e:(Code.builtin "type.__call__" ⟨.ref lL::[kv],[]⟩).cUnits=1:=rfl;show A.units+(Code.builtin "type.__call__" ⟨.ref lL::[kv],[]⟩).cUnits<=A.units+8;rw[e];omega) C.up (Rx _) rfl
 have tK:(A.under (.builtin "type.__call__" ⟨.ref lL::[kv],[]⟩)).frames=A.frames:=rfl;have FQ:∀a,h1.get? a=none->¬onStack (A.under (.builtin "type.__call__" ⟨.ref lL::[kv],[]⟩)) a:=λa ha hs=>by
  have:=Fz.there yF (.inr ((ez tK).mp hs));rw[ha]at this;cases this
 refine x9 k f Ci ⟨hh.cx.g⟩ B2 ((fc.of (C':=C) (hh.ext kE).bE rfl).frames rfl) rk.key Ao.1 sr.1 (Sm rN) ⟨Iw,λob fo=>?_⟩ ⟨FQ x yQ,FQ dx yt⟩ λh3 t3 l jW cO wX IW HN cY=>?_
 ·have:=yF.base.cB x ob fo;rw[yQ]at this;cases this
 ·refine⟨rfl,?_⟩;have Ja:=bQ.fresh hh.aq.ns yQ;have iF:Ext A env s.heap h3:=⟨λa ob hl e=>jW.keep a ob (λhs=>hl (.inr ((ez tK).mp hs))) (λe'=>by rw[e',Ja]at e;cases e) (kE.keep a ob hl e),λm' iA=>jW.ns (λe=>Ao.2.1 e.symm) (kE.ns m' iA),λa ob hs hl e=>by
   refine oE (kE.fr a ob hs hl e) λsl h1=>?_;refine oE (jW.fr a _ ((ez tK).mpr hs) h1) λsI h2=>?_;exact⟨sI,h2⟩⟩
  have Mn:=jW.keep dx _ (FQ dx yt) (Sm rN) sr.1;refine aM cO λJ1 t' LV cO=>?_;refine oE HN λn HN=>?_;refine kk x dx l h3 t3 iF ⟨⟨J1,t',LV,cO⟩,Mn,⟨[],n,HN,.nil⟩⟩ (bQ.fresh hh.aq.ns yQ) (bQ.fresh hh.aq.ns yt) (kE.fresh hh.aq.ns wX) Iw ta cY (TA rN) (Td IW) λe=>?_;rw[<-e,sr.1]at wX;cases wX
theorem lJ{i:Expr}{Q:Unit->Ro->Prop}(h:RM M A (eval oe env) (λov s₂=>RM M A (eval i env) (λiv cL=>RM M A (setItem ov iv v) Q E cL) E s₂) E s):RM M A (Ve (.Subscript oe i p) env v) Q E s:=by
 rw[assign_Subscript];exact Rp (Sr (Sf h (λov s₂ h₂=>Rp (Sr (Sf h₂ (λiv cL bO=>Rp (SJ (Rp (Sr (Sf bO (λω jP dU=>wpAny_releaseD dU) λω ω x=>x))))) λω ω x=>x))) λω ω x=>x))
theorem St.AL{res:Str}{p1 p2 pr pc pos' pos:Pos}{i:Expr}{n:Nat}{St:aa}{key:Key}(k:bD C.K)(f:FnAt C.K 36 (G6 1) .none)(mk:tB C.K lL 36)(hr:aB C.up.up A)(hA:aV C.up.up A env o Γ s)(hx:Γ.lookup x=some (some (n+1,.aK St)))
  (hk:env.kindOf "_NodeInfo" =some .globalImplicit) (hg:C.glob "_NodeInfo" =some (.ref lL)) (hE:Ev C.up.up env (cv Γ) arg m2 key.pv) (hi:Ev C.up.up env (cv Γ) i m3 key.pv) (hnew:St.find key=none) (aF:St.nodes.length<=lim) (KJ:env.kindOf res=some .local\/env.kindOf res=some .cell)
  (kk:∀s' nd,nd.key=key->nd.np=0->nd.succ=[]->aV C.up.up A env o ((res,some (0,.raw (.ref nd.loc)))::(x,some (n+1,.aK {St with nodes:=St.nodes++[nd]}))::Γ) s'->RM (RF C.prog C.w) A (execs rest env) Q E s')
  (fe:autoParam (res≠"__classdict__") oA3._auto_1) (eg:autoParam (bk x) oA1._auto_1)
  (lI:autoParam (∀env,eval (.Attribute (.Name x px) "_node2info" p1) env=(do
   let o ←eval (.Name x px) env
   standAt p1.atName
   let r ←holding [o] (getAttr o "_node2info" true)
   letTemporaryGo (.Name x px) o r
   pure r)) oA6._auto_1)
  (he:autoParam (uC arg []) oA2._auto_1)
  (LI:autoParam (∀env,(assignEach [.Subscript (.Attribute (.Name x px) "_node2info" p1) i p2,.Name res pr] env).map (·.2)=[Ve (.Subscript (.Attribute (.Name x px) "_node2info" p1) i p2) env,Ve (.Name res pr) env]) oA2._auto_1)
  (Bb:autoParam (swappedStores [.Subscript (.Attribute (.Name x px) "_node2info" p1) i p2,.Name res pr] (.Call (.Name "_NodeInfo" pc) [arg] [] pos') env=pure none) oA1._auto_1):
  RM (RF C.prog C.w) A (execs (.Assign [.Subscript (.Attribute (.Name x px) "_node2info" p1) i p2,.Name res pr] (.Call (.Name "_NodeInfo" pc) [arg] [] pos') pos::rest) env) Q E s:=by
 refine RI (wpAny_Assign_two ?_ (LI env) Bb);obtain⟨S,fp,hA,av⟩:=hA;refine yA (fI:=default) k f mk hr hA.here hk hg hE (λx' dx l h1 t1 bQ hn Ja JT Bo lx PX ll d1 d2 d3=>?_) he
 let nd:aj:=⟨key,0,[],x',dx,l⟩
 obtain⟨a,bS,hv,hf,hs,fC,_⟩:=aV.aK hA av bQ hx;have cK:=hs.at_;subst cK;refine lJ ?_;refine TV (Sz (ao (s:={s with heap:=h1,toks:=t1}) (hA.aq.ext hA.bE bQ) (hv.ext hA.aq hA.bE bQ) ?_) eg) (lI env);obtain⟨ks,q1,q2,q,I⟩:=cR hs;refine rJ (attr:=none) (s:={s with heap:=h1,toks:=t1}) (hA.here.ext bQ).base.cB I (aL k.ts _) k.Fe (k.none (by simp[aU])) rfl (v:=.ref St.n2) rfl rfl ?_;refine hi A S _ {s with heap:=h1,toks:=t1+1} _ E hr (hA.here.ext bQ) λiv h2 t2 c7 Qx=>?_;have ex:=bQ.trans c7;obtain⟨a,_,_,_,mh,ER,_⟩:=aV.aK hA av ex hx;have cK:=mh.at_;subst cK;have lu:St.n2∈St.fp St.loc:=by simp[aa.fp]
 refine YD (s:={s with heap:=h2,toks:=t2}) Qx.key mh.map (λh₁ kC zo=>?_) (by rw[Rl];unfold lim at aF;show _<=2^24;omega);have dE:stored (St.nodes.map λy=>(y.key,Value.ref y.loc)) key (.ref x')=St.nodes.map (λy=>(y.key,Value.ref y.loc))++[(nd.key,Value.ref nd.loc)]:=by
  unfold stored;rw[if_neg];simp only[Y6,VZ,not_exists,not_and,XA,decide_eq_true_eq];intro y hy e;have:=X6.mp hnew y hy;exact this (by simpa using e)
 rw[dE]at kC;have T:=fQ.of_same zo (ER _ lu).1;have xb:∀b,s.heap.get? b=none->¬Fz A env b/\b≠St.n2/\b∉St.fp St.loc:=λb hb=>by
  have h0:b∉St.fp St.loc:=λhm=>by have:=(ER b hm).2.2;rw[hb]at this;cases this
  refine⟨λe=>?_,λe=>h0 (e▸lu),h0⟩;have:=Fz.there hA.here e;rw[hb]at this;cases this
 have EW:da h₁ nd:=hn.mono λb hb ob e=>by
  have Ml:s.heap.get? b=none:=by
   simp only[aj.fp,Rr,RN,or_false]at hb;rcases hb with rfl|rfl|rfl<;>assumption
  refine dd (xb b Ml) λg1 g2 _=>?_;exact T.1 b ob (λe=>g1 (.inl e)) g2 (c7.keep b ob g1 e)
 have HZ:nd.fp.Nodup:=by
  show [x',dx,l].Nodup;simp only[RO,Rr,RN,or_false,not_or];exact⟨⟨d1,d2⟩,d3,λh=>h,Sn⟩
 have gd:ah C.prog C.w h₁ St.loc {St with nodes:=St.nodes++[nd]}:=mh.Iv (λb hb zZ ob e=>T.1 b ob (ER b zZ).1 hb e) kC EW HZ λb hb=>by
  have Ml:s.heap.get? b=none:=by
   have iG:b∈[x',dx,l]:=hb;simp only[Rr,RN,or_false]at iG;rcases iG with rfl|rfl|rfl<;>assumption
  exact(xb b Ml).2.2
 have E7:aa.fp {St with nodes:=St.nodes++[nd]} St.loc=St.fp St.loc++nd.fp:=by
  unfold aa.fp aa.sV;simp[Sq]
 obtain⟨gH,uD⟩:=At.Ar (n:=n+1) (pv:=.aK {St with nodes:=St.nodes++[nd]}) hA av ex bS hv (λb=>b=St.n2) (λb ob hl hb e=>T.1 b ob hl hb e) T.2 (λb hb=>by rw[hb,hf];exact lu) (λb hb=>by rw[hb];refine aP kC λob _ _ h _=>?_;clear kC;rw[h];rfl) (λb hb=>by
  rw[E7]at hb;rw[hf];rcases Rw.mp hb with hb|hb
  ·exact .inl hb
  ·have iG:b∈[x',dx,l]:=hb;simp only[Rr,RN,or_false]at iG;rcases iG with rfl|rfl|rfl
   ·exact .inr ⟨Ja,lx⟩
   ·exact .inr ⟨JT,PX⟩
   ·exact .inr ⟨Bo,ll⟩) gd.nd (.aK gd) (t2+1)
 refine(dI.name (C:=C.up.up) (pv:=.raw (.ref x')) KJ fe) A o _ _ {s with heap:=h₁,toks:=t2+1} _ _ E hr gH uD (.raw _) λed h3 t3 jv yY ω ω=>?_;exact kk _ nd rfl rfl rfl ⟨_,ed,jv,yY⟩
end
theorem Grows.refl(St:aa):Grows St St:=⟨rfl,λω h=>h⟩
theorem Grows.trans{a b c:aa}(x:Grows a b)(y:Grows b c):Grows a c:=⟨y.loc.trans x.loc,λq h=>y.fp q (x.fp q h)⟩
theorem Grows.add(St:aa)(nd:aj):Grows St {St with nodes:=St.nodes++[nd]}:=⟨rfl,λb h=>by
 have e:aa.fp {St with nodes:=St.nodes++[nd]} St.loc=St.fp St.loc++nd.fp:=by
  unfold aa.fp aa.sV;simp[Sq]
 show b∈aa.fp {St with nodes:=St.nodes++[nd]} St.loc;rw[e];exact RC _ h⟩
theorem Grows.dF(St:aa)(loc:RD){f:aj->aj}(k:gQ f):Grows St (St.dF loc f):=⟨rfl,λb h=>by
 show b∈(St.dF loc f).fp St.loc;rw[St.mG loc k];exact h⟩
section
variable{Γ:ag}{s:Ro}{Q:Flow->Ro->Prop}
theorem aV.xi(hA:aV C A env o Γ s){n:Nat}{St:aa}(hx:Γ.lookup x=some (some (n+1,.aK St))):Rt<St.n2:=by
 obtain⟨S,fp,hA,av⟩:=hA;obtain⟨a,_,_,_,_,fC,_⟩:=aV.aK hA av (.refl _ _ _) hx;exact(fC _ (by simp[aa.fp])).2.1
theorem St.iu{px pn pc pos:Pos}{kc:Nat}{pk:Pos}{pv:PV}(b:Bool)(hr:aB C A)(hA:aV C A env o Γ s)(hE:Ev C env (cv Γ) e true pv)(hb:(pv= .none/\b=true)\/(∃a,pv= .raw (.ref a)/\b=false))(hk:env.kindOf x=some .local\/env.kindOf x=some .cell)
  (k:∀s',aV C A env o ((x,some (0,pv))::Γ) s'->RM (RF C.prog C.w) A (execs (if b then body else orelse) env) (F2 C A env rest Q E) E s') (fe:autoParam (x≠"__classdict__") oA3._auto_1):
  RM (RF C.prog C.w) A (execs (.If (.Compare (.NamedExpr (.Name x px) e pn) [.Is] [.Constant .none kc pk] pc) body orelse pos::rest) env) Q E s:=by
 refine RI (wpAny_If (Wr (wpAny_NamedExpr ?_) rfl));obtain⟨S,fp,hA,av⟩:=hA;refine hE A S _ s _ E hr hA.here λv h1 t1 ex rd=>?_;refine gj (hA.grow av ex t1) λS' gX yC g1 g2=>?_;refine(dI.name (C:=C) (pv:=pv) hk fe) A o S' fp {s with heap:=h1,toks:=t1} v _ E hr gX yC (Rd.grow rd g1 g2) λed h2 t2 gH uD ω ω=>?_;refine WK ?_;have hv:plainIs v .none=true/\(v== .none)=b:=by
  rcases hb with⟨rfl,rfl⟩|⟨a,rfl,rfl⟩
  ·cases rd.none_inv;exact⟨rfl,rfl⟩
  ·cases rd.aQ;exact⟨rfl,rfl⟩
 refine XF hv.1 ?_;rw[hv.2];refine Vo ?_;have:=k _ ⟨S',ed,gH,uD⟩;cases b
 ·exact Sf this (λf s h=>by cases f<;>exact h) λω ω h=>h
 ·exact Sf this (λf s h=>by cases f<;>exact h) λω ω h=>h
theorem St.E8{pos:Pos}{pv:PV}{St:aa}(hr:aB C A)(hA:aV C A env o Γ s)(hx:Γ.lookup x=some (some (1,.aK St)))(hE:Ev C env (cv Γ) e true pv)(k:∀v s',ya C A env o x St pv v s'->Q (.ret v) s'):
  RM (RF C.prog C.w) A (execs (.Return (some e) pos::rest) env) Q E s:=by
 refine RI (W9 ?_);obtain⟨S,fp,hA,av⟩:=hA;refine hE A S _ s _ E hr hA.here λv h' t' ex rd=>?_;refine gj (hA.grow av ex t') λS' h1 h2 h3 h4=>?_;exact k v _ ⟨S',fp,Γ,h1,h2,hx,Rd.grow rd h3 h4⟩
end
noncomputable def xj(St:aa)(key:Key)(a8:aa)(pv:PV):Prop:=∃nd,pv= .raw (.ref nd.loc)/\nd.key=key/\nd∈a8.nodes/\((St.find key=some nd/\a8=St)\/(St.find key=none/\nd.np=0/\nd.succ=[]/\a8={St with nodes:=St.nodes++[nd]}))
theorem cT{St:aa}{key:Key}{nd:aj}(h:St.find key=some nd):nd∈St.nodes/\nd.key=key:=by
 unfold aa.find at h;exact⟨VJ h,by simpa using W2 h⟩
theorem ke(k:bD C.K)(F7:FnAt C.K 36 (G6 1) .none)(mk:tB C.K lL 36)(f:FnAt C.K 80 (cC 1) .none)(hg:C.glob "_NodeInfo" =some (.ref lL))(T:aa)(key:Key)(aF:T.nodes.length<=lim):fU C.up.up 80 T [key.pv] (xj T key):=by
 have ks:(ae (cC 1)).lookup sf=some .local:=by rfl
 have kn:(ae (cC 1)).lookup ("node":Str)=some .local:=by rfl
 have kr:(ae (cC 1)).lookup ("result":Str)=some .local:=by rfl
 have kN:(ae (cC 1)).lookup ("_NodeInfo":Str)=some .globalImplicit:=by rfl
 refine fU.of (C:=C.up.up) f ["node"] rfl (by decide) (λx hx=>?_) (λfd v vs h1 h2 h3 h4=>?_) (λT' pv hp=>?_) λA env o s Q E eJ rV hr hA fV iz=>?_
 ·simp only[Rr,RN,or_false]at hx;rcases hx with rfl|rfl
  ·exact .inl ks
  ·exact .inl kn
 ·refine oE (gn h4) λu zr=>?_;subst zr;unfold bindArgs;rw[h1,h2];rfl
 ·obtain⟨nd,_,_,_,⟨_,rfl⟩|⟨_,_,_,rfl⟩⟩:=hp
  ·exact Grows.refl _
  ·exact Grows.add _ _
 ·have cY:=hA.xi (x:=sf) rfl;have e1:Ev C.up.up env (cv ((sf,some (1,.aK T))::fG ["node"] [key.pv])) (.Name sf ⟨28,22,28,26⟩) false (.aK T):=Ev.name rfl (by rw[eJ,ks];rfl);have en:∀p,Ev C.up.up env (cv ((sf,some (1,.aK T))::fG ["node"] [key.pv])) (.Name "node" p) true key.pv:=λp=>Ev.name rfl (by rw[eJ,kn];rfl);have wQ:aA (env.kindOf sf)=true:=by rw[eJ,ks];rfl
  refine St.iu (T.find key).isNone hr hA (Ev.vW (St:=T) rfl wQ cY (Ev.kJ (i:=0) k (Ev.name rfl wQ) rfl) (en _)) ?_ (.inl (by rw[eJ,kr])) λs1 gX=>?_
  ·cases hf:T.find key with
   |none=>exact .inl ⟨rfl,rfl⟩
   |some nd=>exact .inr ⟨nd.loc,rfl,rfl⟩
  ·cases hf:T.find key with
   |none=>
    rw[hf]at gX;refine St.AL (C:=C) (x:=sf) (n:=0) (St:=T) k F7 mk hr gX rfl (by rw[eJ,kN]) hg (Ev.name (md:=true) rfl (by rw[eJ,kn];rfl)) (Ev.name (md:=true) rfl (by rw[eJ,kn];rfl)) hf aF (.inl (by rw[eJ,kr])) λs2 nd g1 g2 g3 gH=>?_;refine Ws ?_;exact St.E8 (x:=sf) (St:={T with nodes:=T.nodes++[nd]}) hr gH rfl (Ev.name (md:=true) rfl (by rw[eJ,kr];rfl)) λv s' hR=>fV v s' _ _ ⟨nd,rfl,g1,R3 _ (Rq.mpr rfl),.inr ⟨hf,g2,g3,rfl⟩⟩ hR
   |some nd=>
    rw[hf]at gX;refine Ws ?_;exact St.E8 (x:=sf) (St:=T) hr gX rfl (Ev.name (md:=true) rfl (by rw[eJ,kr];rfl)) λv s' hR=>fV v s' _ _ ⟨nd,rfl,(cT hf).2,(cT hf).1,.inl ⟨hf,rfl⟩⟩ hR
noncomputable def dQ(K:Frag)(name:Str)(f:RD):Bool:=findIn K (.ref kD) name==some (some (.ref f))&&isFn K (.ref f)&&fnIn K f&&keepIn K (.ref f)&&specialIn K (.ref f) "__get__" ==some (some (.builtin "function.__get__"))&&takesIn K (.ref f)==some false&& !(copiedNames.contains name)&& !(aU.contains name)
structure b8(K:Frag)(name:Str)(f:RD):Prop where
 find:findIn K (.ref kD) name=some (some (.ref f))
 fn:isFn K (.ref f)=true
 fnIn:fnIn K f=true
 keep:keepIn K (.ref f)=true
 get:specialIn K (.ref f) "__get__" =some (some (.builtin "function.__get__"))
 takes:takesIn K (.ref f)=some false
 Ed:copiedNames.contains name=false
 own:name∉aU
theorem b8.of{K:Frag}{name:Str}{f:RD}(h:dQ K name f=true):b8 K name f:=by
 simp only[dQ,SU,beq_iff_eq,WI]at h;refine oA h λrE h8=>?_;clear h;obtain⟨⟨⟨⟨⟨⟨h1,h2⟩,h3⟩,h4⟩,h5⟩,h6⟩,h7⟩:=rE;exact⟨h1,h2,h3,h4,h5,h6,h7,λhm=>by rw[List.contains_iff_mem.mpr hm]at h8;cases h8⟩
theorem fB{w:TG}{ks:Tok×Tok×Tok×Tok}{n2:RD}{aI:Rz}{np nf:Int}{t1 t2:Tok}{name:Str}(h:name∉aU):getL name (bL w ks n2 aI np nf t1 t2)=some none:=by
 simp only[aU,Rr,RN,or_false,not_or]at h;refine iC h λh1 h2 h3 h4=>?_;clear h;unfold getL bL;have e:∀ (x:Str) (t:Tok),name≠x->(Value.str x t).isStr name=false:=λx t hx=>by
  simp only[Value.isStr];simpa using Td hx
 simp only[TQ,e _ _ h1,e _ _ h2,e _ _ h3,e _ _ h4,List.find?_nil];rfl
theorem findObj_fn{K:Frag}{f:RD}{od:Obj}{name:Str}(hh:hasDictIn K kD=true)(m:b8 K name f)(hl:lookIn name od=some none):findObj K kD (some od) name=some (.bind (.builtin "function.__get__") (.ref f)):=by
 refine aD (any_some hh) λcd yI hd=>?_;unfold findObj;have ho:Xb cd (some od) name=some none:=by unfold Xb;rw[if_pos hd];exact hl
 rw[yI,Vg,m.find,Vg];show(specialIn K _ _).bind _=_;rw[m.get,Vg];show(takesIn K _).bind _=_;rw[m.takes,Vg];show(Xb cd (some od) name).bind _=_;rw[ho,Vg];show(if(copiedNames.contains name&&_)=true then none else _)=_;rw[m.Ed,Xl];rfl
section
variable{Γ:ag}{s:Ro}
noncomputable def fL(C:Cx)(env:Env)(Γ:ag)(e:Expr)(P:ag->PV->Prop):Prop:=
 ∀ (A:Sg) (o:iD) (s:Ro) (Q:Rz->Ro->Prop) (E:Rz->Ro->Prop),aB C A->aV C A env o Γ s->
  (∀v S fp s' af pv,P af pv->At C A env S fp af s'.heap->Step A env o S fp s'->Rd C.prog C.w S s'.heap v pv->Q v s')->RM (RF C.prog C.w) A (eval e env) Q E s
theorem c6{f:Rz}{ts:List (Bool×Sem Rz)}{Q:Args->Ro->Prop}(aX:ts=[]\/∃x r,ts=(false,x)::r)(h:RM M A (spliced ts) (λvs s'=>Q ⟨vs,[]⟩ s') E s):RM M A (evalArgs f true ts []) Q E s:=by
 rcases aX with rfl|⟨x,r,rfl⟩
 ·unfold evalArgs;show RM M A (spliced []>>=_) Q E s;refine Rp (Sf h (λvs s' h'=>?_) λω ω x=>x);refine Sr ?_;exact Rp (RK (Rp (RK (RK h'))))
 ·exact evalArgs_plain h
theorem fL.uU{name:Str}{pos:Pos}{n:Nat}{St:aa}(k:bD C.K)(mk:b8 C.K name fa)(hx:Γ.lookup x=some (some (n+1,.aK St)))(ha:ba C.up env (cv Γ) args true xs)(hM:fU C fa St xs post)
  (aJ:autoParam (fH (.Name x p) name) oA2._auto_1)
  (dT:autoParam (kH args pos true) oA2._auto_1)
  (aW:autoParam ((apos.endLine==pos.line)=true) oA1._auto_1) (aX:autoParam (Hk args pos) oA10._auto_1)
  (cI:autoParam (jq args pos false) oA2._auto_1) (eg:autoParam (bk x) oA1._auto_1):
  fL C.up env Γ (.Call (.Attribute (.Name x p) name apos) args [] pos) (λaf pv=>∃a8,post a8 pv/\af=(x,some (n+1,.aK a8))::Γ):=λA o s Q E hr hA hq=>by
 rw[arm_eval_Call,aJ];obtain⟨S,fp,hA,av⟩:=hA;obtain⟨a,bS,hv,hf,hs,fC,_⟩:=aV.aK hA av (.refl _ _ _) hx;have cK:=hs.at_;subst cK;refine Rp (Sz (ao hA.aq hv ?_) eg);refine Rp (SJ ?_);unfold methodCall;rw[dT];obtain⟨ks,q1,q2,q,I⟩:=cR hs;refine Rp (Sr (ql hA.base.cB I (aL k.ts name) mk.find mk.fn (fB mk.own) ?_));have iI:methodCallPos true (.Name x p) env apos pos=pure pos:=by unfold methodCallPos;simp[aW]
 refine Rp (Wb iI ?_);refine callWith_of (P:=λh=>C.K.In h) (by show((SF pos (RV args env)).any (·.1)||false)=false;rw[cI];rfl) (keeps_K mk.keep) ?_;refine c6 (aX env) ?_;refine ha A S _ s pos _ E hr hA.here λvs h2 t2 ex rv=>?_;refine⟨(hA.base.ext ex hA.bE hA.aq).cB,?_⟩;exact AV (C:=C) hr hA av ex hx hM rv λv h₁ t a8 pv S' ed hp hg bF dE rd=>hq v S' ed _ _ pv ⟨a8,hp,rfl⟩ bF dE rd
theorem iZ{S:RD->Prop}{fp:Str->List RD}{pv:PV}{Q:Unit->Ro->Prop}(hk:env.kindOf x=some .local\/env.kindOf x=some .cell)(fe:x≠"__classdict__")(hA:At C A env S fp Γ s.heap)(av:Step A env o S fp s)(rd:Rd C.prog C.w S s.heap v pv)
  (hq:∀h' t',aV C A env o ((x,some (0,pv))::Γ) {s with heap:=h',toks:=t'}->Q () {s with heap:=h',toks:=t'}):RM (RF C.prog C.w) A (storeName env x v) Q E s:=by
 refine cm (C:=C) hA.aq hk fe λeC gV ek h1 h2 kx ω=>?_;have bS:aA (env.kindOf x)=true:=by rcases hk with h|h<;>rw[h]<;>rfl
 have r0:aC C S s.heap 0 v pv []:=.val rd;exact hq _ _ ⟨_,_,hA.put (.refl _ _ _) (λω=>False) r0 (λa ha ω=>⟨.inl ha,by simp⟩) Sn (λω h=>nomatch h) bS ek h1 h2 kx,Step.put (s':=s) (f:=[]) av hA (.refl _ _ _) (λω=>False) (λω h=>nomatch h) kx gV⟩
variable{Q:Flow->Ro->Prop}
theorem St.gR{y:Str}{py pos:Pos}{P:ag->PV->Prop}(hr:aB C A)(hA:aV C A env o Γ s)(hE:fL C env Γ e P)(hk:env.kindOf y=some .local\/env.kindOf y=some .cell)
  (k:∀s' af pv,P af pv->aV C A env o ((y,some (0,pv))::af) s'->RM (RF C.prog C.w) A (execs rest env) Q E s') (fe:autoParam (y≠"__classdict__") oA3._auto_1)
  (hs:autoParam (SR e (some (.Name y py)) pos.line env=pure false) oA1._auto_1):
  RM (RF C.prog C.w) A (execs (.Assign [.Name y py] e pos::rest) env) Q E s:=by
 refine RI (V4 ?_ hs);refine hE A o s _ E hr hA λv S fp s' af pv hp bF dE rd=>?_;exact iZ hk fe bF dE rd λh t gH=>k _ af pv hp gH
theorem St.pC{pos:Pos}{P:ag->PV->Prop}(hr:aB C A)(hA:aV C A env o Γ s)(hE:fL C env Γ e P)(k:∀s' af pv,P af pv->aV C A env o af s'->RM (RF C.prog C.w) A (execs rest env) Q E s')
  (hi:autoParam (interactive env=false) oA1._auto_1) (hs:autoParam (SR e none pos.line env=pure false) oA1._auto_1):RM (RF C.prog C.w) A (execs (.Expr e pos::rest) env) Q E s:=by
 refine RI (Uh ?_ hi hs);exact hE A o s _ E hr hA λv S fp s' af pv hp bF dE rd=>k s' af pv hp ⟨S,fp,bF,dE⟩
end
noncomputable def AS.find(a:AS)(k:Key):Option AN:=a.nodes.find? λx=>x.key=k
noncomputable def AS.upd(a:AS)(k:Key)(f:AN->AN):AS:={a with nodes:=a.nodes.map λx=>if x.key=k then f x else x}
noncomputable def AS.get(a:AS)(k:Key):AS:=match a.find k with|some _=>a|none=>{a with nodes:=a.nodes++[⟨k,0,[]⟩]}
noncomputable def AN.cN(v:Int)(x:AN):AN:={x with np:=x.np+v}
noncomputable def AN.bA(v:Int)(x:AN):AN:={x with np:=v}
noncomputable def AN.cA(k:Key)(x:AN):AN:={x with succ:=x.succ++[k]}
noncomputable def AS.cg(a:AS)(k p:Key):AS:=(a.get p).upd p (AN.cA k)
noncomputable def AS.add(a:AS)(k:Key)(ps:List Key):AS:=ps.foldl (λa p=>a.cg k p) ((a.get k).upd k (AN.cN ps.length))
noncomputable def AS.small(a:AS)(n:Nat):Prop:=a.nodes.length+n<=lim/\∀x∈a.nodes,x.succ.length+n<=lim
theorem dM(St:aa)(k:Key):St.abs.find k=(St.find k).map aj.abs:=by
 unfold AS.find aa.find aa.abs
 induction St.nodes with
 |nil=>rfl
 |cons x r ih=>
  rw[Sl,TQ,TQ];have e:x.abs.key=x.key:=rfl;by_cases hk:x.key=k
  ·simp[e,hk]
  ·simp only[e,hk,decide_false];exact ih
noncomputable def HV(St:aa):Prop:=∀y∈St.nodes,∀z∈St.nodes,(y.loc=z.loc↔y.key=z.key)
theorem gO{St:aa}(u:HV St){nd:aj}(aG:nd∈St.nodes){f:aj->aj}{g:AN->AN}(PB:(f nd).abs=g nd.abs)(xn:∀y∈St.nodes,y.key=nd.key->y=nd):(St.dF nd.loc f).abs=St.abs.upd nd.key g:=by
 unfold aa.dF aa.abs AS.upd;simp only[AS.mk.injEq,R6,and_self,and_true];apply Tg;intro y hy;show aj.abs (if y.loc=nd.loc then f y else y)=if y.abs.key=nd.key then g y.abs else y.abs
 have e:y.abs.key=y.key:=rfl;by_cases hl:y.loc=nd.loc
 ·have hk:=(u y hy nd aG).mp hl;have:=xn y hy hk;subst this;simp only[if_true,e];exact PB
 ·have hk:y.key≠nd.key:=λh=>hl ((u y hy nd aG).mpr h);simp only[hl,if_false,e,hk]
section
variable{Γ:ag}{s:Ro}
theorem pD{l:List aj}(h:(l.map aj.key).Nodup):∀ {y z:aj},y∈l->z∈l->y.key=z.key->y=z:=by
 induction l with
 |nil=>intro y z hy;cases hy
 |cons x r ih=>
  intro y z hy hz e;have h':x.key∉r.map aj.key/\(r.map aj.key).Nodup:=by simpa using h
  rcases Rr.mp hy with hy|hy<;>rcases Rr.mp hz with hz|hz
  ·rw[hy,hz]
  ·exact absurd (RE.mpr ⟨z,hz,by rw[<-e,hy]⟩) h'.1
  ·exact absurd (RE.mpr ⟨y,hy,by rw[e,hz]⟩) h'.1
  ·exact ih h'.2 hy hz e
theorem aV.uniq(hA:aV C A env o Γ s){n:Nat}{St:aa}(hx:Γ.lookup x=some (some (n+1,.aK St))):HV St/\∀y∈St.nodes,∀z∈St.nodes,y.key=z.key->y=z:=by
 obtain⟨S,fp,hA,av⟩:=hA;obtain⟨a,_,_,_,hs,_,_⟩:=aV.aK hA av (.refl _ _ _) hx;have rt:∀y∈St.nodes,∀z∈St.nodes,y.key=z.key->y=z:=λy hy z hz e=>pD hs.vM hy hz e;refine⟨λy hy z hz=>⟨λe=>?_,λe=>by rw[rt y hy z hz e]⟩,rt⟩;rw[hs.same hy hz (b:=y.loc) (by simp[aj.fp]) (by rw[e];simp[aj.fp])]
end
theorem lY{St a8:aa}{key:Key}{pv:PV}(h:xj St key a8 pv):a8.abs=St.abs.get key/\Grows St a8:=by
 obtain⟨nd,rfl,hk,hm,⟨hf,rfl⟩|⟨hf,h1,h2,rfl⟩⟩:=h
 ·refine⟨?_,Grows.refl _⟩;unfold AS.get;rw[dM,hf];rfl
 ·refine⟨?_,Grows.add _ _⟩;unfold AS.get;rw[dM,hf];show aa.abs _={nodes:=St.abs.nodes++[⟨key,0,[]⟩],aI:=_,au:=_,az:=_};unfold aa.abs;simp only[R9,Sl,WM];rw[<-hk,<-h1,<-h2];rfl
theorem a7.len_tuple(aF:xs.length<=lim):a7 C env Γ (.builtin "len") m1 [.tuple xs] md (.int xs.length):=
 ⟨.inr ⟨_,rfl⟩,λA S U s h₀ vs Q E hr hh e bR rv hq=>by
  refine aD rv.dq λv zr r=>?_;subst zr;refine aP r.gD λa us n zr zw=>?_;subst zr;refine dd zw λha eh ra=>?_;clear zw;have hl:=ra.length;refine PySem.P.len_tuple (items:=us.toArray) (n:=n) eh (by simp only[RX,hl];unfold lim at aF;omega) ?_;have:(us.toArray.size:Int)=xs.length:=by simp[hl]
  rw[this];exact hq _ s.heap _ (.refl _ _ _) (.int _ _)⟩
theorem fU.JG{d:Stmt}(f:FnAt C.K fa d dflt){St:aa}(ns:List Str)(va:Str)(hlen:ns.length=xs.length)(aG:(sf::ns++[va]:List Str).Nodup)
  (cK:∀x∈(sf::ns++[va]:List Str),(ae d).lookup x=some .local\/(ae d).lookup x=some .cell) (aF:ys.length<=lim)
  (e7:∀ (fd:FuncData) (v:Rz) (vs us:List Rz),fd.params=jz d->fd.defaults=dflt->fd.kwdefaults= .none->vs.length=xs.length->bindArgs fd ⟨v::(vs++us),[]⟩=(do let t ←newTuple us;pure (((sf,v)::ns.zip vs)++[(va,t)])))
  (oi:∀a8 pv,post a8 pv->Grows St a8)
  (walk:∀ (A:Sg) (env:Env) (o:iD) (s:Ro) (Q:Flow->Ro->Prop) (E:Rz->Ro->Prop),(∀x,env.kindOf x=(ae d).lookup x)->j1 A env->aB C A->aV C A env o ((sf,some (1,.aK St))::(fG ns xs++[(va,some (0,.tuple ys))])) s->
   (∀v s' a8 pv,post a8 pv->ya C A env o sf a8 pv v s'->Q (.ret v) s')->(∀s' a8 af,post a8 .none->aV C A env o af s'->af.lookup sf=some (some (1,.aK a8))->Q .next s')->RM (RF C.prog C.w) A (execs (bh d) env) Q E s):
  fU C fa St (xs++ys) post:=by
 refine fU.core f (fG ns xs++[(va,some (0,.tuple ys))]) (λfd A S s vs h1 h2 h3 B hS rv=>?_) oi walk;have IB:∃v1 v2,vs=v1++v2/\ab C.prog C.w S s.heap v1 xs/\ab C.prog C.w S s.heap v2 ys:=by
  refine⟨vs.take xs.length,vs.drop xs.length,(To _ _).symm,?_,?_⟩
  ·have:=rv.take xs.length;rwa[YN]at this
  ·have:=rv.drop xs.length;rwa[YO]at this
 refine aM IB λv1 v2 zr zw=>?_;clear IB;subst zr;refine oA zw λr1 r2=>?_;clear zw;have kz:=r1.length;have hz:(((sf,Value.ref St.loc)::ns.zip v1)++[(va,Value.ref s.heap.objs.size)]).map (·.1)=sf::ns++[va]:=by rw[R9,Sl,hZ ns v1 (by rw[hlen,kz])];rfl
 have hT:(s.heap.push {cls:=.type "tuple",data:=.seq v2.toArray}).get? s.heap.objs.size=some (yO v2 0):=RL _ rfl;have kk:∀a b,s.heap.get? a=some b->(s.heap.push {cls:=.type "tuple",data:=.seq v2.toArray}).get? a=some b:=λa b e=>Ry _ e;refine⟨λa=>(S a/\(s.heap.get? a).isSome=true)\/a=s.heap.objs.size,((sf,.ref St.loc)::ns.zip v1)++[(va,.ref s.heap.objs.size)],s.heap.push {cls:=.type "tuple",data:=.seq v2.toArray},λQ E hq=>?_,kk,by rw[hz];exact aG,λx hx=>cK _ (by rw[<-hz];exact RE.mpr ⟨x,hx,rfl⟩),λa ha=>?_,by simp,λx n pv aX hl=>?_⟩
 ·rw[e7 fd _ v1 v2 h1 h2 h3 kz];refine Rp (XE ?_ ?_)
  ·exact RK (hq s.toks)
  ·rw[r2.length];unfold lim at aF;show _<=2^24;omega
 ·rcases ha with ha|rfl
  ·refine oE (Rv.mp ha.2) λb hb=>?_;exact⟨.inl ha.1,by rw[kk a b hb];rfl⟩
  ·exact⟨.inr bf,by rw[hT];rfl⟩
 ·have e:(fG ns xs++[(va,some (0,PV.tuple ys))]).lookup x=match(fG ns xs).lookup x with|some q=>some q|none=>if x=va then some (some (0,.tuple ys))else none:=by
   rw[X4];cases(fG ns xs).lookup x with
   |some q=>rfl
   |none=>
    simp only[Yj,RB,Yz];by_cases hx:x=va
    ·simp[hx]
    ·have:(x==va)=false:=by simpa using hx
     simp[this,hx]
  rw[e]at hl;cases hp:(fG ns xs).lookup x with
  |some q=>
   rw[hp]at hl;have hq:q=some (n,pv):=R7 hl;rw[hq]at hp;refine oA (gM ns xs v1 x n pv r1.there hp) λzr zw=>?_;subst zr;refine aD zw λv g1 g2=>?_;clear zw;exact⟨rfl,v,by simp[g1],g2.mono (λa ha=>.inl ha) λa b ω e=>kk a b e⟩
  |none=>
   rw[hp]at hl;by_cases hx:x=va
   ·simp only[hx,if_true]at hl;cases hl;exact⟨rfl,_,by simp[hx],.tuple (.inr rfl) hT (r2.there.mono (λa ha=>.inl ha) λa b ω e=>kk a b e)⟩
   ·simp[hx]at hl
theorem bb{Γ:ag}{n:Nat}{pv:PV}(hx:Γ.lookup x=some (some (n,pv))):(cv Γ).lookup x=some (some (n,pv)):=hx
theorem ai{Γ:ag}{y:Str}{e:Option (Nat×PV)}{q:Option (Option (Nat×PV))}(aX:(x==y)=false)(h:Γ.lookup x=q):(((y,e)::Γ:ag)).lookup x=q:=by
 rw[RB,aX];exact h
structure TopK(C:Cx):Prop where
 sk:bD C.K
 JE:tB C.K lL 36
 Iq:tB C.K kD 73
 F7:FnAt C.K 36 (G6 1) .none
 Jr:FnAt C.K 80 (cC 1) .none
 Ky:FnAt C.K 87 (cC 2) .none
 K1:FnAt C.K 92 (cC 3) .none
 LW:FnAt C.K 99 (cC 4) .none
 EO:FnAt C.K 106 (cC 5) .none
 BK:FnAt C.K 120 (cC 7) .none
 EU:FnAt C.K 127 (cC 8) .none
 Ju:dQ C.K "_get_nodeinfo" 80=true
 I7:dQ C.K "add" 87=true
 J9:dQ C.K "prepare" 92=true
 JA:dQ C.K "get_ready" 99=true
 uM:dQ C.K "is_active" 106=true
 CC:dQ C.K "done" 120=true
 D7:dQ C.K "_find_cycle" 127=true
 Jl:C.glob "_NodeInfo" =some (.ref lL)
 Mx:C.glob "TopologicalSorter" =some (.ref kD)
 z6:∃t,C.glob "_NODE_OUT" =some (.int (-1) t)
 wu:∃t,C.glob "_NODE_DONE" =some (.int (-2) t)
 KA:(["len","range","enumerate","min","max","sum","list","tuple","set","str","type","isinstance","repr","abs","sorted","bool","iter","ValueError","StopIteration"].all λx=>C.glob (So x)==none)=true
theorem TopK.none(T:TopK C){x:String}(hx:x∈["len","range","enumerate","min","max","sum","list","tuple","set","str","type","isinstance","repr","abs","sorted","bool","iter","ValueError","StopIteration"]):C.glob (So x)=Option.none:=by
 have:=Sv.mp T.KA x hx;exact beq_iff_eq.mp this
theorem qZ(a:AS)(k:Key):(a.get k).nodes.length<=a.nodes.length+1:=by
 unfold AS.get;split<;>simp
theorem jo{n:Nat}(k:Key)(h:a.small (n+1)):(a.get k).small n:=by
 refine⟨?_,λx hx=>?_⟩
 ·have:=qZ a k;have:=h.1;omega
 ·unfold AS.get at hx;split at hx
  ·have:=h.2 x hx;omega
  ·rcases Rw.mp hx with hx|hx
   ·have:=h.2 x hx;omega
   ·rcases Rq.mp hx with rfl
    have:=h.1;simp;omega
theorem pM{n:Nat}{k:Key}{f:AN->AN}(h:a.small n)(hf:∀x∈a.nodes,(f x).succ.length+n<=lim):(a.upd k f).small n:=by
 refine⟨by unfold AS.upd;simp;exact h.1,λx hx=>?_⟩;unfold AS.upd at hx;refine aD (RE.mp hx) λy hy e=>?_;by_cases hk:y.key=k
 ·simp only[hk,if_true]at e;rw[<-e];exact hf y hy
 ·simp only[hk,if_false]at e;rw[<-e];exact h.2 y hy
theorem gS{n m:Nat}(h:a.small n)(hm:m<=n):a.small m:=⟨by have:=h.1;omega,λx hx=>by have:=h.2 x hx;omega⟩
theorem gP(f:β->α->β)(b:β)(l:List α)(i:Nat)(x:α)(h:l[i]?=some x):(l.take (i+1)).foldl f b=f ((l.take i).foldl f b) x:=by
 rw[Ue,h];simp[Ya]
noncomputable def rO(St:aa)(k:Key)(ps:List Key)(a8:aa)(pv:PV):Prop:=pv= .none/\a8.abs=St.abs.add k ps/\Grows St a8
theorem zv(T:TopK C)(hN:C.hd=false)(T0:aa)(key:Key)(ps:List Key)(mf:T0.aI=none)(D9:T0.abs.small (2*ps.length+4)):fU C.up.up.up 87 T0 ([key.pv]++Key.cV ps) (rO T0 key ps):=by
 have ks:(ae (cC 2)).lookup sf=some .local:=by rfl
 have kn:(ae (cC 2)).lookup ("node":Str)=some .local:=by rfl
 have kp:(ae (cC 2)).lookup ("predecessors":Str)=some .local:=by rfl
 have ki:(ae (cC 2)).lookup ("nodeinfo":Str)=some .local:=by rfl
 have kq:(ae (cC 2)).lookup ("pred":Str)=some .local:=by rfl
 have kr:(ae (cC 2)).lookup ("pred_info":Str)=some .local:=by rfl
 have kl:(ae (cC 2)).lookup ("len":Str)=some .globalImplicit:=by rfl
 have Eg:(Key.cV ps).length=ps.length:=by simp[Key.cV]
 refine fU.JG (C:=C.up.up.up) T.Ky ["node"] "predecessors" rfl (by decide) (λx hx=>?_) (by rw[Eg];have:=D9.1;omega) (λfd v vs us h1 h2 h3 h4=>?_) (λa8 pv hp=>hp.2.2) λA env o s Q E eJ rV hr hA fV iz=>?_
 ·simp only[Rr,RN,or_false,UT,UB]at hx;rcases hx with rfl|rfl|rfl
  ·exact .inl ks
  ·exact .inl kn
  ·exact .inl kp
 ·refine oE (gn h4) λu zr=>?_;subst zr
  ·cases us with
   |nil=>unfold bindArgs;rw[h1,h2];rfl
   |cons u0 us=>
    unfold bindArgs;rw[h1,h2];have e:decide (us.length+1+1+1>2)=true:=decide_eq_true (by omega);rfl
 ·have v1:∀x,(ae (cC 2)).lookup x=some .local->aA (env.kindOf x)=true:=λx hx=>by rw[eJ,hx];rfl
  have v2:∀x,(ae (cC 2)).lookup x=some .local->(env.kindOf x=some .local\/env.kindOf x=some .cell):=λx hx=>.inl (by rw[eJ,hx]);refine St.ite (b:=false) hr hA (cX.cmp (y:=.none) (m2:=true) (Ev.kJ (C:=C.up.up.up) (i:=1) (St:=T0) (md:=false) T.sk (Ev.name rfl (v1 _ ks)) rfl) Ev.By (by
   have e:eK T0 1= .none:=by show(match T0.aI with|none=>PV.none|some r=>_)=_;rw[mf]
   rw[e];exact cw.jR (b:=true) rfl)) λs1 gX=>?_
  refine St.nil ?_;have hint:interactive env=false:=by unfold interactive;rw[rV.kind];rfl
  have Oi:∀X:aa,X.abs.nodes.length=X.nodes.length:=λX=>by simp[aa.abs]
  refine St.gR (C:=C.up.up.up) hr gX (fL.uU (C:=C.up.up) T.sk (b8.of T.Ju) (St:=T0) (n:=0) rfl (ba.cons (Ev.name rfl (v1 _ kn)) ba.nil) (ke (C:=C) T.sk T.F7 T.JE T.Jr T.Jl T0 key (by rw[<-Oi];have:=D9.1;omega))) (v2 _ ki) λs2 C7 Q4 JC gH=>?_;refine aD JC λT1 Dc zr=>?_;clear JC;subst zr;refine oA (lY Dc) λxZ LZ=>?_;refine aD Dc λnd zr zw=>?_;clear Dc;subst zr;refine dd zw λKk je _=>?_;clear zw;have PN:T1.abs.small (2*ps.length+3):=by rw[xZ];exact jo key D9
  have F8:=gH.uniq (x:=sf) (n:=0) (St:=T1) rfl;refine St.zG (C:=C.up.up.up) T.sk (x:=sf) (n:=0) (St:=T1) (nd:=nd) (op:=.Add) (v:=(Key.cV ps).length) (.inl rfl) hr gH rfl je (Ev.name (md:=true) rfl (v1 _ ki)) (Ev.call (md:=true) (Ev.builtin (v:=.builtin "len") (by rw[eJ,kl]) (T.none (x:="len") (by decide)) (by decide +kernel)) (ba.cons (Ev.name (md:=true) rfl (v1 _ kp)) ba.nil) (a7.len_tuple (by rw[Eg];have:=D9.1;omega))) λs3 jv=>?_;simp only[if_true]at jv
  let A2:AS:=(T0.abs.get key).upd key (AN.cN ps.length)
  have xO:(T1.dF nd.loc (bA (nd.np+(Key.cV ps).length))).abs=A2:=by
   rw[gO F8.1 je (g:=AN.cN ps.length) (by show AN.mk _ _ _=AN.mk _ _ _;rw[Eg];rfl) (λy hy e=>F8.2 y hy nd je e),xZ,Kk]
  have JS:A2.small (2*ps.length+3):=pM (jo key D9) λx hx=>(jo key D9).2 x hx;refine St.uR (C:=C.up.up.up) hr jv (dw.tuple (xs:=Key.cV ps) (Ev.name rfl (v1 _ kp)) (by rw[Eg];have:=D9.1;omega))
   (λi aE=>∃Ti,aE.lookup sf=some (some (1,.aK Ti))/\aE.lookup ("node":Str)=some (some (0,key.pv))/\Ti.abs=(ps.take i).foldl (λa p=>a.cg key p) A2/\Grows T0 Ti/\Ti.abs.small (2*(ps.length - i)+3))
   (λi x aE=>("pred",some (0,x))::aE) ⟨_,rfl,rfl,by rw[xO];rfl,LZ.trans (Grows.dF _ _ (eo _)),by rw[xO];exact JS⟩ (λi x aE hx hi=>dI.name (v2 _ kq)) (λi x aE hx hi o' s' Q' E' ω ω bF hn ω ω=>?_) λs' af hi bF=>?_
  ·refine AR hi λTi l1 l2 l7 x7 HU=>?_;clear hi;have M0:∃p,ps[i]?=some p/\x=p.pv:=by
    simp only[Key.cV,RZ]at hx;cases hp:ps[i]? with
    |none=>rw[hp]at hx;cases hx
    |some p=>rw[hp]at hx;exact⟨p,rfl,(R7 hx).symm⟩
   refine aD M0 λp hp zr=>?_;clear M0;subst zr;have Rf:i<ps.length:=(RY.mp hp).1;have Ih:Ti.abs.small (2*(ps.length - (i+1))+5):=gS HU (by omega);refine St.gR (C:=C.up.up.up) hr bF (fL.uU (C:=C.up.up) (x:=sf) T.sk (b8.of T.Ju) (St:=Ti) (n:=0) (ai rfl l1) (ba.cons (Ev.name rfl (v1 _ kq)) ba.nil) (ke (C:=C) T.sk T.F7 T.JE T.Jr T.Jl Ti p (by rw[<-Oi];have:=HU.1;omega))) (v2 _ kr) λs4 Q6 QR ML pK=>?_;refine aD ML λT4 JV zr=>?_;clear ML;subst zr;refine oA (lY JV) λHh J8=>?_;refine aD JV λC0 zr zw=>?_;clear JV;subst zr;refine dd zw λK9 CS _=>?_;clear zw;have Jk:=pK.uniq (x:=sf) (n:=0) (St:=T4) (ai rfl (by rw[RB];rfl));have EJ:T4.abs.small (2*(ps.length - (i+1))+4):=by rw[Hh];exact jo p Ih
   have t7:∀q:ag,q=(("pred_info",some (0,PV.raw (Value.ref C0.loc)))::(sf,some (1,PV.aK T4))::("pred",some (0,p.pv))::aE:ag)->q.lookup ("node":Str)=some (some (0,key.pv)):=λq e=>by
    rw[e];exact ai rfl (ai rfl (ai rfl l2))
   refine St.tE (C:=C.up.up.up) T.sk (x:=sf) (n:=0) (St:=T4) (nd:=C0) (key:=key) hr pK (ai rfl (by rw[RB];rfl)) CS (Ev.name (md:=true) rfl (v1 _ kr)) (Ev.name (md:=true) (bb (t7 _ rfl)) (v1 _ kn)) ?_ (λs5 m9=>?_) (hi:=hint)
   ·have:=EJ.2 C0.abs (by unfold aa.abs;exact RE.mpr ⟨C0,CS,rfl⟩);show C0.abs.succ.length<=lim;omega
   ·refine St.nil ((hn _ _ ⟨T4.dF C0.loc (cA key),by rw[RB];rfl,ai rfl (t7 _ rfl),?_,(x7.trans J8).trans (Grows.dF _ _ (ij _)),?_⟩ m9).1)
    ·rw[gO Jk.1 CS (g:=AN.cA key) rfl (λy hy e=>Jk.2 y hy C0 CS e),Hh,l7,K9,gP _ _ _ _ _ hp];rfl
    ·rw[gO Jk.1 CS (g:=AN.cA key) rfl (λy hy e=>Jk.2 y hy C0 CS e)];refine pM (gS EJ (by omega)) λy hy=>?_;have:=EJ.2 y hy;simp[AN.cA];omega
  ·refine AR hi λTi l1 l2 l7 x7 _=>?_;clear hi;refine St.nil (St.nil (iz s' Ti af ⟨rfl,?_,x7⟩ bF l1));rw[l7,Eg,TU (Rx _)];rfl
theorem jr(l:RD)(items:Array Rz):Meets (Builtin.«bool.__new__» ⟨[.type "bool",.ref l],[]⟩) (λω R s=>s.heap.IsList l items/\(items.size:Int)<2^63/\R (.ok (.ret (.bool (!items.isEmpty)))) {s with toks:=s.toks+1+1}):=
 Meets.of_wp λprog w A R s hs=>by
  obtain⟨hp,g,d,tk,os⟩:=s;refine dd hs λh1 h2 h3=>?_;clear hs;have f1:=F.conv_sub_bool
  repeat (any_goals (first|assumption|(refine YY h1 h2 ?_)|wp_step))
  all_goals first|exact⟨_,rfl,h3⟩|skip
theorem a7.bool_list(aF:xs.length<=lim):a7 C env Γ (.type "bool") m1 [.list xs] md (.bool (!xs.isEmpty)):=
 ⟨.inl ⟨_,rfl⟩,λA S U s h₀ vs Q E hr hh e bR rv hq=>by
  refine aD rv.dq λv zr r=>?_;subst zr;refine aP r.aS λa us n zr zw=>?_;subst zr;refine dd zw λha eh ra=>?_;clear zw;have hl:=ra.length;refine PySem.call_bool_1 (jr a us.toArray) ⟨bz.bw eh,by simp only[RX,hl];unfold lim at aF;omega,?_⟩;have:(!us.toArray.isEmpty)= !xs.isEmpty:=by
   cases us<;>cases xs<;>simp_all
  rw[this];exact⟨rfl,hq _ s.heap _ (.refl _ _ _) (.bool _)⟩⟩
theorem a7.tuple_list(hi:∀x∈xs,x.fy=true)(aF:xs.length<=lim):a7 C env Γ (.type "tuple") m1 [.list xs] md (.tuple xs):=
 ⟨.inl ⟨_,rfl⟩,λA S U s h₀ vs Q E hr hh e bR rv hq=>by
  refine aD rv.dq λv zr r=>?_;subst zr;refine aP r.aS λa us n zr zw=>?_;subst zr;refine dd zw λha eh ra=>?_;clear zw;have hl:=ra.length;refine call_tuple_list (bz.bw eh) (λh' hk=>?_) (by simp only[RX,hl];unfold lim at aF;show _<=2^24;omega);have ex:Ext A env s.heap h':=.of_keeps hk;refine hq _ _ _ (ex.push _) (.tuple (.inr ((e.trans ex).fresh bR.ns bf)) (RL _ rfl) (ra.fy hi))⟩
theorem Ev.or_val{x y:Expr}{a b:Bool}(h1:Ev C env Γ x m2 (.bool a))(h2:a=false->Ev C env Γ y m3 (.bool b)):Ev C env Γ (.BoolOp .Or [x,y] p) md (.bool (a||b)):=λA S U s Q E hr hh hq=>
 BoolOp_or (h1 A S U s _ E hr hh λv h' t' e rd=>by
  cases rd.bool_inv;refine Vo ?_;cases a with
  |false=>
   rw[if_neg (by decide)];refine BoolOp_one (h2 rfl A S U _ _ E hr (hh.ext e) λv eC gV e' rd=>?_);cases rd.bool_inv;exact hq _ eC gV (e.trans e') (.bool _)
  |true=>
   rw[if_pos rfl];exact hq _ h' t' e (.bool _))
theorem Ev.zN{i:Int}{t:Tok}(hk:env.kindOf x=some .globalImplicit)(hv:C.glob x=some (.int i t))(hd:autoParam (bk x) oA1._auto_1):Ev C env Γ (.Name x p) md (.int i):=λω ω ω s ω ω ω hh hq=>
 Sz (bu hh.cx hh.base hh.aq hk (.inl hv) (hq _ s.heap s.toks (.refl _ _ _) (.int _ _))) hd
theorem mJ(ks:List Key):∀x∈Key.cV ks,x.fy=true:=λx hx=>by
 refine aD (RE.mp hx) λk _ zr=>?_;subst zr;cases k<;>rfl
theorem wO{x:PV}(hx:(Key.cV ks)[i]?=some x):∃k,ks[i]?=some k/\x=k.pv:=by
 simp only[Key.cV,RZ]at hx;cases hp:ks[i]? with
 |none=>rw[hp]at hx;cases hx
 |some p=>rw[hp]at hx;exact⟨p,rfl,(R7 hx).symm⟩
theorem dS(ks:List Key):(Key.cV ks).length=ks.length:=by simp[Key.cV]
theorem Grows.aI(St:aa){r:RD×List Key}(hr:St.aI=some r)(ks:List Key):Grows St {St with aI:=some (r.1,ks)}:=⟨rfl,λb h=>by
 unfold aa.fp aa.sV at h⊢;rw[hr]at h;exact h⟩
theorem Grows.cnt(St:aa)(a b:Int):Grows St {St with au:=a,az:=b}:=⟨rfl,λb h=>h⟩
theorem Grows.Ej(St:aa)(hr:St.aI=none)(l:RD)(ks:List Key):Grows St {St with aI:=some (l,ks)}:=⟨rfl,λb h=>by
 unfold aa.fp aa.sV at h⊢;rw[hr]at h;simp only[Rr,Rw,RN,or_false,false_or]at h⊢;rcases h with h|h|h|h
 ·exact .inl h
 ·exact .inr (.inl h)
 ·exact .inr (.inr (.inl h))
 ·exact .inr (.inr (.inr (.inr h)))⟩
noncomputable def AS.out(a:AS)(ks:List Key):AS:=ks.foldl (λa k=>a.upd k (AN.bA (-1))) a
noncomputable def yb(T:aa)(ks:List Key)(T':aa)(pv:PV):Prop:=pv= .tuple (Key.cV ks)/\Grows T T'/\T'.abs={T.abs.out ks with aI:=some [],au:=T.au+ks.length,az:=T.az}
theorem qA(T:TopK C)(hN:C.hd=false)(T0:aa)(l:RD)(ks:List Key)(mf:T0.aI=some (l,ks))(aF:ks.length<=lim)(cO:∀k∈ks,(T0.abs.find k).isSome=true):fU C 99 T0 [] (yb T0 ks):=by
 have my:(ae (cC 4)).lookup sf=some .local:=by rfl
 have kr:(ae (cC 4)).lookup ("result":Str)=some .local:=by rfl
 have Bh:(ae (cC 4)).lookup ("n2i":Str)=some .local:=by rfl
 have kn:(ae (cC 4)).lookup ("node":Str)=some .local:=by rfl
 have kt:(ae (cC 4)).lookup ("tuple":Str)=some .globalImplicit:=by rfl
 have kl:(ae (cC 4)).lookup ("len":Str)=some .globalImplicit:=by rfl
 have ko:(ae (cC 4)).lookup ("_NODE_OUT":Str)=some .globalImplicit:=by rfl
 refine oE T.z6 λG0 hOut=>?_;have eY:=dS ks;refine fU.of (C:=C) T.LW [] rfl (by decide) (λx hx=>?_) (λfd v vs h1 h2 h3 h4=>?_) (λa8 pv hp=>hp.2.1) λA env o s Q E eJ rV hr hA fV iz=>?_
 ·simp only[Rr,RN,or_false]at hx;subst hx;exact .inl my
 ·obtain rfl:=SI.mp h4;unfold bindArgs;rw[h1,h2];rfl
 ·have v1:∀x,(ae (cC 4)).lookup x=some .local->aA (env.kindOf x)=true:=λx hx=>by rw[eJ,hx];rfl
  have v2:∀x,(ae (cC 4)).lookup x=some .local->(env.kindOf x=some .local\/env.kindOf x=some .cell):=λx hx=>.inl (by rw[eJ,hx]);have hint:interactive env=false:=by unfold interactive;rw[rV.kind];rfl
  have er:eK T0 1= .list (Key.cV ks):=by show(match T0.aI with|none=>PV.none|some r=>_)=_;rw[mf]
  have sv:∀ (i:Nat) (nm:Str) (p pos:Pos),aU[i]?=some nm->∀Γ:ag,Γ.lookup sf=some (some (1,.aK T0))->Ev C env (cv Γ) (.Attribute (.Name sf p) nm pos) false (eK T0 i):=λi nm p pos h Γ hl=>Ev.kJ (C:=C) (i:=i) (St:=T0) (md:=false) T.sk (Ev.name (bb hl) (v1 _ my)) h;refine St.ite (b:=false) hr hA (cX.cmp (y:=.none) (m2:=true) (sv 1 _ _ _ rfl _ rfl) Ev.By (by
   rw[er];exact cw.is_none rfl)) λs1 gX=>?_
  refine St.nil ?_;refine St.assign (n:=0) (pv:=.tuple (Key.cV ks)) hr gX (dr.b9 (Ev.call (m1:=false) (Ev.builtin (v:=.type "tuple") (by rw[eJ,kt]) (T.none (x:="tuple") (by decide)) boot_tuple) (ba.cons (by rw[<-er];exact sv 1 _ _ _ rfl _ rfl) ba.nil) (a7.tuple_list (mJ ks) (by rw[eY];exact aF)))) (v2 _ kr) λs2 gH=>?_;refine St.assign (n:=0) (pv:=.raw (.ref T0.n2)) hr gH (dr.b9 (Ev.fy (sv 0 _ _ _ rfl _ rfl) rfl)) (v2 _ Bh) λs3 jv=>?_;refine St.uR (C:=C) hr jv (dw.tuple (xs:=Key.cV ks) (Ev.name rfl (v1 _ kr)) (by rw[eY];exact aF))
   (λi aE=>∃Ti,aE.lookup sf=some (some (1,.aK Ti))/\aE.lookup ("result":Str)=some (some (0,.tuple (Key.cV ks)))/\aE.lookup ("n2i":Str)=some (some (0,.raw (.ref T0.n2)))/\Ti.abs=T0.abs.out (ks.take i)/\Grows T0 Ti/\Ti.n2=T0.n2/\Ti.aI=T0.aI/\Ti.au=T0.au/\Ti.az=T0.az)
   (λi x aE=>("node",some (0,x))::aE) ⟨_,rfl,rfl,rfl,rfl,Grows.refl _,rfl,rfl,rfl,rfl⟩ (λi x aE hx hi=>dI.name (v2 _ kn)) (λi x aE hx hi o' s' Q' E' ω ω bF hn ω ω=>?_) λs' af hi bF=>?_
  ·refine m8 hi λTi l1 l2 l3 l7 x7 e1 e2 e3 e4=>?_;clear hi;refine aD (wO hx) λp hp zr=>?_;subst zr;have hf:∃nd,Ti.find p=some nd:=by
    have h0:=cO p (R4 hp);have h1:((T0.abs.out (ks.take i)).find p).isSome=true:=by
     unfold AS.out;generalize ks.take i=js;generalize T0.abs=a at h0;clear l7
     induction js generalizing a with
     |nil=>exact h0
     |cons j r ih=>
      refine ih _ ?_;unfold AS.find AS.upd at*;rw[WG]at h0⊢;refine aD h0 λy hy NA=>?_;clear h0;refine⟨_,RE.mpr ⟨y,hy,rfl⟩,?_⟩;split
      ·exact NA
      ·exact NA
    rw[<-l7,dM]at h1;cases hq:Ti.find p with
    |none=>rw[hq]at h1;cases h1
    |some nd=>exact⟨nd,rfl⟩
   refine oE hf λnd hf=>?_;refine oA (cT hf) λhm hk=>?_;have OQ:aE.lookup ("n2i":Str)=some (some (0,.raw (.ref Ti.n2))):=by rw[e1];exact l3
   have hu:=bF.uniq (x:=sf) (n:=0) (St:=Ti) (ai rfl l1);refine St.Ai (C:=C) T.sk (x:=sf) (n:=0) (St:=Ti) (nd:=nd) (v:=-1) (m3:=true) hr bF (ai rfl l1) hm (Ev.zN (by rw[eJ,ko]) hOut) (Ev.rK (C:=C) (x:=sf) (mo:=true) (bb (ai rfl l1)) (v1 _ my) (Ev.name (md:=true) (bb (ai rfl OQ)) (v1 _ Bh)) (Ev.name (md:=true) rfl (v1 _ kn)) hf) λs4 pK=>?_;refine St.nil ((hn _ _ ⟨Ti.dF nd.loc (bA (-1)),by rw[RB];rfl,ai rfl (ai rfl l2),ai rfl (ai rfl l3),?_,x7.trans (Grows.dF _ _ (eo _)),e1,e2,e3,e4⟩ pK).1);rw[gO hu.1 hm (g:=AN.bA (-1)) rfl (λy hy e=>hu.2 y hy nd hm e),l7,hk];unfold AS.out;rw[gP _ _ _ _ _ hp]
  ·refine m8 hi λTi l1 l2 l3 l7 x7 e1 e2 e3 e4=>?_;clear hi;refine St.nil ?_;have C6:Ti.aI=some (l,ks):=by rw[e2];exact mf
   refine St.tZ (C:=C) T.sk (x:=sf) (n:=0) (St:=Ti) hr bF l1 C6 aF (λs5 m9=>?_) (hi:=hint);refine St.r6 (C:=C) T.sk (x:=sf) (n:=0) (v:=(Key.cV ks).length) 2 (.inl ⟨rfl,rfl⟩) hr m9 (by rw[RB];rfl) (Ev.call (m1:=true) (md:=true) (Ev.builtin (v:=.builtin "len") (by rw[eJ,kl]) (T.none (x:="len") (by decide)) (by decide +kernel)) (ba.cons (Ev.name (md:=true) (bb (ai rfl l2)) (v1 _ kr)) ba.nil) (a7.len_tuple (by rw[eY];exact aF))) λs6 rZ=>?_;refine St.E8 (x:=sf) hr rZ (by rw[RB];rfl) (Ev.name (md:=true) (bb (ai rfl (ai rfl l2))) (v1 _ kr)) λv s' hR=>fV v s' _ _ ⟨rfl,?_,?_⟩ hR
   ·exact(x7.trans (Grows.aI Ti C6 [])).trans (Grows.cnt _ _ _)
   ·rw[eY,TU (Rx _)]at l7;unfold aa.abs at l7⊢;rw[<-l7];simp only[if_true,eY,e3,e4,SM]
theorem KeysAre.get(r:KeysAre vs ks){k:Key}(h:ks[i]?=some k):∃v,vs[i]?=some v/\k.is v=true:=by
 induction r generalizing i with
 |nil=>simp at h
 |cons hk _ ih=>
  cases i with
  |zero=>simp at h;subst h;exact⟨_,by simp,hk⟩
  |succ i=>simp at h;refine aD (ih h) λv h1 h2=>?_;exact⟨v,by simpa using h1,h2⟩
section
variable{Γ:ag}{s:Ro}{Q:Flow->Ro->Prop}
inductive GZ(C:Cx)(A:Sg)(env:Env)(o:iD)(inv:Nat->ag->Prop)(xl:Nat)(I l:RD)(n:Nat)(s':Ro):Prop
 |mk (i:Nat) (aE:ag) (Si:RD->Prop) (iJ:Str->List RD):i<=xl->n=xl - i->inv i aE->At C A env Si iJ aE s'.heap->Step A env o Si iJ s'->s'.heap.IsListIter I l i->¬Si I->(∀y,I∉iJ y)->GZ C A env o inv xl I l n s'
theorem St.Lz(hN:C.hd=false){pos:Pos}{n:Nat}{nd:aj}(k:bD C.K)(hr:aB C A)(hA:aV C A env o Γ s)(hx:Γ.lookup x=some (some (n+1,.aK X)))(aG:nd∈X.nodes)(ho:Ev C env (cv Γ) oe m2 (.raw (.ref nd.loc)))
  (inv:Nat->ag->Prop) (tg:Nat->Key->ag->ag) (h0:inv 0 Γ)
  (hinv:∀i aE,inv i aE->∃Ti uq,aE.lookup x=some (some (n+1,.aK Ti))/\uq∈Ti.nodes/\uq.lst=nd.lst/\uq.succ=nd.succ)
  (uO:∀ (i:Nat) (y:Key) aE,nd.succ[i]?=some y->inv i aE->dI C env aE target y.pv (tg i y aE))
  (step:∀ (i:Nat) (y:Key) aE,nd.succ[i]?=some y->inv i aE->∀ (o':iD) (s':Ro) (Q':Flow->Ro->Prop) (E':Rz->Ro->Prop),aV C A env o' (tg i y aE) s'->(∀af cP,inv (i+1) af->aV C A env o' af cP->Q' .next cP)->RM (RF C.prog C.w) A (execs body env) Q' E' s')
  (kk:∀s' af,inv nd.succ.length af->aV C A env o af s'->RM (RF C.prog C.w) A (execs orelse env) (F2 C A env rest Q E) (λe cP=>notedBy (RF C.prog C.w) A env (λe s'=>cameBackBy (RF C.prog C.w) A env E e s') e cP) s')
  (hs:autoParam (∀x,R8 (.Attribute oe "successors" p) env x=pure x) oA2._auto_1)
  (lI:autoParam (∀env,eval (.Attribute oe "successors" p) env=(do
   let o ←eval oe env
   standAt p.atName
   let r ←holding [o] (getAttr o "successors" true)
   letTemporaryGo oe o r
   pure r)) oA6._auto_1):
  RM (RF C.prog C.w) A (execs (.For target (.Attribute oe "successors" p) body orelse pos::rest) env) Q E s:=by
 refine RI (HX λQ1 hQ=>Yh ?_ hs);obtain⟨S,fp,hA,av⟩:=hA;refine TV ?_ (lI env);refine ho A S _ s _ E hr hA.here λw h1 t1 bQ zL=>?_;cases zL.aQ;obtain⟨a,bS,hv,hf,Gi,fC,_⟩:=aV.aK hA av bQ hx;have r0:=Gi.nodes nd aG;refine aM (fE r0) λkv t0 jw I0=>?_;obtain⟨q,g1,g2,g3,g4,g5,g6⟩:=k.slots (x:="successors") (i:=2) (by decide);have X0:=(hA.base.ext bQ hA.bE hA.aq).cB;refine ja (s:={s with heap:=h1,toks:=t1}) X0 I0 (aL k.ni _) (cG k.ni) g1 g2 g3 g4 (v:=.ref nd.lst) rfl rfl ?_;refine aM r0.list λOa q0 e0 _=>?_;refine W7 (s:={s with heap:=h1,toks:=t1+1}) (bz.bw e0) ?_
 let I:RD:=h1.objs.size
 let h2:Heap:=h1.push {cls:=.type "list_iterator",data:=.fields #[.ref nd.lst,.int 0 0]}
 have hk:∀b ob,h1.get? b=some ob->h2.get? b=some ob:=λb ob e=>Ry _ e;have sX:h2.get? I=some {cls:=.type "list_iterator",data:=.fields #[.ref nd.lst,.int 0 0]}:=RL _ rfl;have ex:Ext A env s.heap h2:=bQ.push _;have xW:s.heap.get? I=none:=bQ.fresh_at hA.aq.ns;have lp:Rt<I:=bQ.df hA.here;have gX:=hA.ext ex (λω=>False) λa ha=>ha.elim;have eS:(λa=>S a\/False)=S:=funext λa=>propext ⟨λh=>h.elim id Zp,.inl⟩;rw[eS]at gX;have yN:Step A env o S fp {s with heap:=h2,toks:=t1+1}:=av.trans ⟨⟨h2,t1+1,rfl⟩,λa ha=>ha,λa ha=>.inl ha,λy a ha=>.inl ⟨y,ha⟩,λa b hF hn ho=>ex.keep a b (λe=>hF (.inl e)) ho,λa ha=>ex.live hA.aq.ns ha,ex.fr⟩;have wA:=hA.zW xW;refine ft (GZ C A env o inv nd.succ.length I nd.lst) (λm s' pW Qn En QB hE Gw hV EB Jf Jj=>?_) nd.succ.length ⟨0,Γ,S,fp,RU _,rfl,h0,gX,yN,⟨_,sX,rfl,rfl⟩,wA.2.2.2,wA.2.2.1⟩;obtain⟨i,aE,Si,iJ,hi,hm,sm,uJ,yH,hit,xE,xA⟩:=pW;have hB:∀a,a=I->Rt<a/\(∀b,C.K.lookup a≠some b)/\¬Si a/\¬ax A env a/\∀y,a∉iJ y:=λa ha=>ha▸⟨lp,wA.1,xE,wA.2.1,xA⟩;refine qW (hinv i aE sm) λTi uq l1 m1 e1 e2=>?_;obtain⟨a',_,_,pj,PJ,_⟩:=aV.aK uJ yH (.refl _ _ _) l1;refine aM ((PJ.nodes uq m1).list) λvs q' ol My=>?_;rw[e1]at ol;rw[e2]at My;rcases Vk i nd.succ.length with hlt|iy
 ·have hy:nd.succ[i]?=some nd.succ[i]:=RT hlt;refine aD (My.get hy) λv Bq DI=>?_;refine wpAny_pyNext_list_item hit (bz.bw ol) (x:=v) (by rw[V9];exact Bq) λh3 G4 Ji=>hV v _ ?_;have kI:∀a b,¬(a=I)->s'.heap.get? a=some b->h3.get? a=some b:=λa b ha hb=>(Ji.2 a ha).trans hb;refine bM G4 λJP JI JK Pl=>?_;clear G4;refine fF (s:={s' with heap:=h3}) JI JK (by decide) ?_;refine uO i _ aE hy sm A o Si iJ {s' with heap:=h3} v _ _ hr (uJ.quiet (λa=>a=I) kI hB) (yH.off (av.fresh xW) kI s'.toks) (Key.rd DI) λHp h4 t4 pK Ds K9 Ph=>?_;have G3:∀y,I∉Hp y:=λy hy=>xA y (Ph y I hy);have NT:h4.get? I=some JP:=K9 I JP wA.2.1 JI;refine step i _ aE hy sm ⟨Si,Hp,{s' with heap:=h4,toks:=t4}⟩ _ _ _ ⟨Si,Hp,pK,Step.refl _ _ _ _ _⟩ λaf cP Pf jL=>(EB (nd.succ.length - (i+1)) cP (fz hm hlt) ?_).1;obtain⟨S5,wC,m9,DR⟩:=jL;have hIn:=DR.tF xE G3 (so NT);exact⟨i+1,af,S5,wC,hlt,rfl,Pf,m9,Ds.trans DR,⟨JP,DR.keep I JP wA.2.1 G3 NT,JK,Pl⟩,hIn.1,hIn.2⟩
 ·have uP:i=nd.succ.length:=Sa hi iy;refine wpAny_pyNext_list_end (hr.1 hN) hit (bz.bw ol) (by rw[V9,uP,<-My.length];exact UE (Rx _)) λh3 LR=>Gw _ ?_;have kI:∀a b,¬(a=I)->s'.heap.get? a=some b->h3.get? a=some b:=λa b ha hb=>LR a b ha hb;exact Sf (kk _ aE (uP▸sm) ⟨Si,iJ,uJ.quiet (λa=>a=I) kI hB,yH.off (av.fresh xW) kI s'.toks⟩) (λf cP h=>hQ f cP (by cases f<;>exact h)) hE
end
noncomputable def AS.dec(a:AS)(s:Key):AS:=if((a.find s).map (·.np))=some 1 then{a.upd s (AN.cN (-1))with aI:=a.aI.map (· ++[s])}else a.upd s (AN.cN (-1))
noncomputable def AS.cu(a:AS)(k:Key):AS:=match a.find k with
 |some x=>{x.succ.foldl AS.dec (a.upd k (AN.bA (-2)))with az:=a.az+1}
 |none=>a
noncomputable def AS.gh:AS->List Key->Prop
 |_,[]=>True
 |a,k::r=>(∃x,a.find k=some x/\x.np= -1/\(∀s∈x.succ,(a.find s).isSome=true)/\∃l,a.aI=some l/\l.length+x.succ.length<=lim)/\(a.cu k).gh r
theorem oL:∀ (ks:List Key) (a:AS) (i:Nat) (k:Key),a.gh ks->ks[i]?=some k->∃x,((ks.take i).foldl AS.cu a).find k=some x/\x.np= -1/\(∀s∈x.succ,(((ks.take i).foldl AS.cu a).find s).isSome=true)/\∃l,((ks.take i).foldl AS.cu a).aI=some l/\l.length+x.succ.length<=lim
 |[],a,i,k,h,hk=>by simp at hk
 |j::r,a,0,k,h,hk=>by
  simp at hk;subst hk;exact h.1
 |j::r,a,i+1,k,h,hk=>by
  simp only[VV]at hk;exact oL r (a.cu j) i k h.2 hk
theorem fJ{k j:Key}{f:AN->AN}(hf:∀x,(f x).key=x.key):(a.upd k f).find j=(a.find j).map λx=>if x.key=k then f x else x:=by
 unfold AS.find AS.upd
 induction a.nodes with
 |nil=>rfl
 |cons x r ih=>
  rw[Sl,TQ,TQ];have hk:(if x.key=k then f x else x).key=x.key:=by split<;>simp[hf]
  have hd:decide ((if x.key=k then f x else x).key=j)=decide (x.key=j):=by rw[hk]
  rw[hd];by_cases hj:x.key=j
  ·simp only[hj,decide_true,SM]
  ·simp only[hj,decide_false];exact ih
theorem gA{k j:Key}{f:AN->AN}(hf:∀x,(f x).key=x.key)(h:(a.find j).isSome=true):((a.upd k f).find j).isSome=true:=by
 rw[fJ hf,VF];exact h
theorem zt{s j:Key}(h:(a.find j).isSome=true):((a.dec s).find j).isSome=true:=by
 unfold AS.dec;split
 ·exact gA (k:=s) (f:=AN.cN (-1)) (λω=>rfl) h
 ·exact gA (k:=s) (f:=AN.cN (-1)) (λω=>rfl) h
theorem Bs{s:Key}{l:List Key}(h:a.aI=some l):∃l',(a.dec s).aI=some l'/\l'.length<=l.length+1:=by
 unfold AS.dec;split
 ·exact⟨l++[s],by simp[h],by simp⟩
 ·exact⟨l,h,by omega⟩
theorem Au{s:Key}:(a.dec s).az=a.az:=by unfold AS.dec;split<;>rfl
theorem Ev.lU{mo:Bool}{i:Expr}{nd:aj}{k:Key}{pos:Pos}(hx:Γ.lookup x=some (some (nx,.aK X)))(bS:aA (env.kindOf x)=true)(cY:Rt<X.n2)(he:Ev C env Γ e m2 (.raw (.ref X.n2)))(hi:Ev C env Γ i m3 k.pv)(hf:X.find k=some nd)
  (aJ:autoParam (fH e "get") oA2._auto_1)
  (cy:autoParam (∀env,dD pos env [i]) oA2._auto_1)
  (aW:autoParam ((apos.endLine==pos.line)=true) oA1._auto_1) (bg:autoParam (treeE i pos) oA2._auto_1):
  Ev C env Γ (.Call (.Attribute e "get" apos) [i] [] pos) mo (.raw (.ref nd.loc)):=by
 have:=Ev.vW (mo:=mo) hx bS cY he hi aJ cy aW bg;rw[hf]at this;exact this
noncomputable def ud(T:aa)(ks:List Key)(T':aa)(pv:PV):Prop:=pv= .none/\Grows T T'/\T'.abs=ks.foldl AS.cu T.abs
theorem CT(T:TopK C)(hN:C.hd=false)(T0:aa)(l:RD)(rk:List Key)(ks:List Key)(mf:T0.aI=some (l,rk))(aF:ks.length<=lim)(AB:T0.abs.gh ks):fU C 120 T0 (Key.cV ks) (ud T0 ks):=by
 have my:(ae (cC 7)).lookup sf=some .local:=by rfl
 have IC:(ae (cC 7)).lookup ("nodes":Str)=some .local:=by rfl
 have Bh:(ae (cC 7)).lookup ("n2i":Str)=some .local:=by rfl
 have kn:(ae (cC 7)).lookup ("node":Str)=some .local:=by rfl
 have ki:(ae (cC 7)).lookup ("nodeinfo":Str)=some .local:=by rfl
 have Fm:(ae (cC 7)).lookup ("stat":Str)=some .local:=by rfl
 have KO:(ae (cC 7)).lookup ("successor":Str)=some .local:=by rfl
 have Kh:(ae (cC 7)).lookup ("successor_info":Str)=some .local:=by rfl
 have ko:(ae (cC 7)).lookup ("_NODE_OUT":Str)=some .globalImplicit:=by rfl
 have kd:(ae (cC 7)).lookup ("_NODE_DONE":Str)=some .globalImplicit:=by rfl
 refine oE T.z6 λG0 hOut=>?_;refine oE T.wu λH9 y7=>?_;have eY:=dS ks;have:=fU.JG (C:=C) T.BK (St:=T0) (xs:=[]) (ys:=Key.cV ks) (post:=ud T0 ks) [] "nodes" rfl (by decide) (λx hx=>?_) (by rw[eY];exact aF) (λfd v vs us h1 h2 h3 h4=>?_) (λa8 pv hp=>hp.2.1) λA env o s Q E eJ rV hr hA fV iz=>?_
 ·exact this
 ·simp only[Rr,RN,or_false,UT,UB]at hx;rcases hx with rfl|rfl
  ·exact .inl my
  ·exact .inl IC
 ·obtain rfl:=SI.mp h4
  ·cases us with
   |nil=>unfold bindArgs;rw[h1,h2];rfl
   |cons u0 us=>unfold bindArgs;rw[h1,h2];rfl
 ·have v1:∀x,(ae (cC 7)).lookup x=some .local->aA (env.kindOf x)=true:=λx hx=>by rw[eJ,hx];rfl
  have v2:∀x,(ae (cC 7)).lookup x=some .local->(env.kindOf x=some .local\/env.kindOf x=some .cell):=λx hx=>.inl (by rw[eJ,hx]);have hint:interactive env=false:=by unfold interactive;rw[rV.kind];rfl
  have er:∀X:aa,∀r,X.aI=some r->eK X 1= .list (Key.cV r.2):=λX r h=>by show(match X.aI with|none=>PV.none|some r=>_)=_;rw[h]
  have sv:∀ (X:aa) (i:Nat) (nm:Str) (p pos:Pos),aU[i]?=some nm->∀Γ:ag,Γ.lookup sf=some (some (1,.aK X))->Ev C env (cv Γ) (.Attribute (.Name sf p) nm pos) false (eK X i):=λX i nm p pos h Γ hl=>Ev.kJ (C:=C) (i:=i) (St:=X) (md:=false) T.sk (Ev.name (bb hl) (v1 _ my)) h;refine St.ite (b:=false) hr hA (cX.cmp (y:=.none) (m2:=true) (sv T0 1 _ _ _ rfl _ rfl) Ev.By (by
   rw[er T0 _ mf];exact cw.is_none rfl)) λs1 gX=>?_
  refine St.nil ?_;refine St.assign (n:=0) (pv:=.raw (.ref T0.n2)) hr gX (dr.b9 (Ev.fy (sv T0 0 _ _ _ rfl _ rfl) rfl)) (v2 _ Bh) λs3 jv=>?_;refine St.uR (C:=C) hr jv (dw.tuple (xs:=Key.cV ks) (Ev.name rfl (v1 _ IC)) (by rw[eY];exact aF))
   (λi aE=>∃Ti,aE.lookup sf=some (some (1,.aK Ti))/\aE.lookup ("n2i":Str)=some (some (0,.raw (.ref Ti.n2)))/\Ti.abs=(ks.take i).foldl AS.cu T0.abs/\Grows T0 Ti)
   (λi x aE=>("node",some (0,x))::aE) ⟨_,rfl,rfl,rfl,Grows.refl _⟩ (λi x aE hx hi=>dI.name (v2 _ kn)) (λi x aE hx hi o' s' Q' E' ω ω bF hn ω ω=>?_) λs' af hi bF=>?_
  ·refine gj hi λTi l1 l3 l7 x7=>?_;clear hi;obtain⟨k,hk,rfl⟩:=wO hx;obtain⟨xa,c1,c2,c3,lk,c4,c5⟩:=oL ks T0.abs i k AB hk;rw[<-l7]at c1 c3 c4;have hf:∃nd,Ti.find k=some nd/\nd.abs=xa:=by
    rw[dM]at c1;cases hq:Ti.find k with
    |none=>rw[hq]at c1;cases c1
    |some nd=>rw[hq]at c1;exact⟨nd,rfl,R7 c1⟩
   obtain⟨nd,hf,OP⟩:=hf;subst OP;refine oA (cT hf) λhm A9=>?_;have cY:=bF.xi (x:=sf) (n:=0) (St:=Ti) (ai rfl l1);refine St.iu (C:=C) (pv:=.raw (.ref nd.loc)) false hr bF (Ev.lU (C:=C) (X:=Ti) (x:=sf) (k:=k) (bb (ai rfl l1)) (v1 _ my) cY (Ev.name (md:=true) (bb (ai rfl l3)) (v1 _ Bh)) (Ev.name (md:=true) (x:=("node":Str)) rfl (v1 _ kn)) hf) (.inr ⟨_,rfl,rfl⟩) (v2 _ ki) λs4 pK=>?_;refine St.nil ?_;have uu:nd.np= -1:=c2;have uP:jI nd 1= .int (-1):=by show PV.int nd.np=_;rw[uu]
   have l4:(("nodeinfo",some (0,PV.raw (Value.ref nd.loc)))::("node",some (0,k.pv))::aE:ag).lookup sf=some (some (1,.aK Ti)):=ai rfl (ai rfl l1);refine St.assign (n:=0) (pv:=.int (-1)) hr pK (dr.b9 (Ev.fy (md:=false) (by
    rw[<-uP];exact Ev.Ac (C:=C) (md:=false) (x:=sf) (St:=Ti) (nd:=nd) (i:=1) (m2:=true) T.sk (bb l4) (v1 _ my) hm (Ev.name (md:=true) rfl (v1 _ ki)) (by decide)) rfl)) (v2 _ Fm) λs5 m9=>?_
   refine St.ite (C:=C) (b:=false) hr m9 (cX.cmp (m1:=true) (m2:=true) (x:=.int (-1)) (y:=.int (-1)) (Ev.name (md:=true) rfl (v1 _ Fm)) (Ev.zN (by rw[eJ,ko]) hOut) cw.ne_int) λs6 rZ=>?_;refine St.nil ?_;have hu:=rZ.uniq (x:=sf) (n:=0) (St:=Ti) (ai rfl l4);refine St.Ai (C:=C) T.sk (x:=sf) (n:=0) (St:=Ti) (nd:=nd) (v:=-2) (m3:=true) (m2:=true) hr rZ (ai rfl l4) hm (Ev.zN (by rw[eJ,kd]) y7) (Ev.name (md:=true) rfl (v1 _ ki)) λs7 Dr=>?_
   let T1:=Ti.dF nd.loc (bA (-2))
   have xZ:T1.abs=Ti.abs.upd k (AN.bA (-2)):=by rw[gO hu.1 hm (g:=AN.bA (-2)) rfl (λy hy e=>hu.2 y hy nd hm e),A9]
   have je:bA (-2) nd∈T1.nodes:=RE.mpr ⟨nd,hm,by simp⟩;have cl:∀s∈nd.succ,(T1.abs.find s).isSome=true:=λs hs=>by rw[xZ];exact gA (λω=>rfl) (c3 s hs)
   have r1:T1.abs.aI=some lk:=by rw[xZ];exact c4
   have Q8:lk.length+nd.succ.length<=lim:=c5;refine St.Lz (C:=C) hN (x:=sf) (n:=0) (X:=T1) (nd:=bA (-2) nd) (m2:=true) T.sk hr Dr (by rw[RB];rfl) je (Ev.name (md:=true) rfl (v1 _ ki))
    (λj CY=>∃Tj,CY.lookup sf=some (some (1,.aK Tj))/\CY.lookup ("n2i":Str)=some (some (0,.raw (.ref Tj.n2)))/\Tj.abs=(nd.succ.take j).foldl AS.dec T1.abs/\Grows T1 Tj/\(∃uq,uq∈Tj.nodes/\uq.lst=nd.lst/\uq.succ=nd.succ)/\(∀s∈nd.succ,(Tj.abs.find s).isSome=true)/\∃lj,Tj.abs.aI=some lj/\lj.length<=lk.length+j)
    (λj y CY=>("successor",some (0,y.pv))::CY) ⟨T1,by rw[RB];rfl,ai rfl (ai rfl (ai rfl (ai rfl l3))),rfl,Grows.refl _,⟨_,je,rfl,rfl⟩,cl,lk,r1,by omega⟩
    (λj CY hj=>by refine Cj hj λTj a1 _ _ _ Ka _=>?_;clear hj;obtain⟨uq,b1,b2,b3⟩:=Ka;exact⟨Tj,uq,a1,b1,b2,b3⟩) (λj y CY hy hj=>dI.name (v2 _ KO)) (λj y CY hy hj o2 s8 Q2 E2 IX xb=>?_) λs8 QW hj IX=>?_
   ·refine vV hj λTj a1 a2 y6 Fl Ka Oj lj rj QO=>?_;clear hj;obtain⟨uq,b1,b2,b3⟩:=Ka;have oY:nd.succ[j]?=some y:=hy;have Fq:∃sd,Tj.find y=some sd:=by
     have:=Oj y (R4 oY);rw[dM]at this;cases hq:Tj.find y with
     |none=>rw[hq]at this;cases this
     |some sd=>exact⟨sd,rfl⟩
    refine oE Fq λsd Fq=>?_;refine oA (cT Fq) λJO wQ=>?_;refine St.assign (n:=0) (pv:=.raw (.ref sd.loc)) hr IX (dr.b9 (Ev.rK (C:=C) (x:=sf) (mo:=true) (bb (ai rfl a1)) (v1 _ my) (Ev.name (md:=true) (bb (ai rfl a2)) (v1 _ Bh)) (Ev.name (md:=true) rfl (v1 _ KO)) Fq)) (v2 _ Kh) λs9 I3=>?_;have MQ:=I3.uniq (x:=sf) (n:=0) (St:=Tj) (ai rfl (ai rfl a1));refine St.zG (C:=C) T.sk (x:=sf) (n:=0) (St:=Tj) (nd:=sd) (op:=.Sub) (v:=1) (m2:=true) (m3:=true) (.inr rfl) hr I3 (ai rfl (ai rfl a1)) JO (Ev.name (md:=true) rfl (v1 _ Kh)) Ev.int λQ9 GW=>?_;simp only[reduceCtorEq,if_false]at GW
    let T2:=Tj.dF sd.loc (bA (sd.np - 1))
    have xO:T2.abs=Tj.abs.upd y (AN.cN (-1)):=by rw[gO MQ.1 JO (g:=AN.cN (-1)) (by show AN.mk _ _ _=AN.mk _ _ _;rfl) (λz hz e=>MQ.2 z hz sd JO e),wQ]
    have fS:bA (sd.np - 1) sd∈T2.nodes:=RE.mpr ⟨sd,JO,by simp⟩;have HM:((Tj.abs.find y).map (·.np))=some sd.np:=by rw[dM,Fq];rfl
    have zz:∃D3,D3∈T2.nodes/\D3.lst=nd.lst/\D3.succ=nd.succ:=⟨if uq.loc=sd.loc then bA (sd.np - 1) uq else uq,RE.mpr ⟨uq,b1,rfl⟩,by split<;>exact b2,by split<;>exact b3⟩;have tk:(nd.succ.take (j+1)).foldl AS.dec T1.abs=(Tj.abs).dec y:=by rw[gP _ _ _ _ _ oY,y6]
    have Ol:∀q:ag,q=((sf,some (1,PV.aK T2))::("successor_info",some (0,PV.raw (Value.ref sd.loc)))::("successor",some (0,y.pv))::CY:ag)->q.lookup sf=some (some (1,.aK T2))/\q.lookup ("n2i":Str)=some (some (0,.raw (.ref T2.n2)))/\q.lookup ("successor":Str)=some (some (0,y.pv)):=λq e=>by
     rw[e];exact⟨by rw[RB];rfl,ai rfl (ai rfl (ai rfl a2)),ai rfl (ai rfl (by rw[RB];rfl))⟩
    have Mb:jI (bA (sd.np - 1) sd) 1= .int (sd.np - 1):=rfl;refine St.ite (C:=C) (b:=sd.np - 1==0) hr GW (cX.cmp (m1:=false) (m2:=true) (x:=.int (sd.np - 1)) (y:=.int 0) (by
     rw[<-Mb];exact Ev.Ac (C:=C) (md:=false) (x:=sf) (St:=T2) (nd:=bA (sd.np - 1) sd) (i:=1) (m2:=true) T.sk (bb (Ol _ rfl).1) (v1 _ my) fS (Ev.name (md:=true) rfl (v1 _ Kh)) (by decide)) Ev.int cw.eq_int) λRi IY=>?_
    have LH:∀h:sd.np - 1≠0,(Tj.abs).dec y=Tj.abs.upd y (AN.cN (-1)):=λh=>by
     unfold AS.dec;rw[HM,if_neg (λe=>h (by have:=R7 e;omega))]
    have GL:sd.np - 1=0->(Tj.abs).dec y={Tj.abs.upd y (AN.cN (-1))with aI:=Tj.abs.aI.map (· ++[y])}:=λh=>by
     unfold AS.dec;rw[HM,if_pos (by congr 1;omega)]
    have Ep:j<nd.succ.length:=(RY.mp oY).1;have HA:Grows T1 T2:=Fl.trans (Grows.dF _ _ (eo _));have QA:T2.abs.aI=some lj:=by rw[xO];exact rj
    refine dd (Ol _ rfl) λq1 q2 q3=>?_;refine aD (Bs (s:=y) rj) λNC Nr N0=>?_;have IV:∀s∈nd.succ,((Tj.abs.dec y).find s).isSome=true:=λs hs=>zt (Oj s hs);by_cases hz:sd.np - 1=0
    ·have:(sd.np - 1==0)=true:=by simpa using hz
     rw[this];simp only[if_true];have Ci:∃ad,T2.aI=some (ad,lj):=by
      have h0:T2.aI.map (·.2)=some lj:=QA;cases hq:T2.aI with
      |none=>rw[hq]at h0;cases h0
      |some r=>rw[hq]at h0;exact⟨r.1,by rw[<-R7 h0]⟩
     refine oE Ci λad Ci=>?_;refine St.qw (C:=C) T.sk (x:=sf) (n:=0) (St:=T2) (r:=(ad,lj)) (key:=y) (m3:=true) hr IY q1 Ci (Ev.name (md:=true) (bb q3) (v1 _ KO)) (by show lj.length<=lim;omega) (λQS MC=>?_) (hi:=hint);have nq:aa.abs {T2 with aI:=some (ad,lj++[y])}=(Tj.abs).dec y:=by
      rw[GL hz,<-xO,rj];rfl
     refine St.nil (St.nil (xb _ _ ⟨{T2 with aI:=some (ad,lj++[y])},by rw[RB];rfl,ai rfl q2,by rw[nq,tk],HA.trans (Grows.aI T2 Ci _),zz,by rw[nq];exact IV,NC,by rw[nq];exact Nr,by omega⟩ MC))
    ·have:(sd.np - 1==0)=false:=by simpa using hz
     rw[this];simp only[Sx,if_false];have nq:T2.abs=(Tj.abs).dec y:=by rw[LH hz,xO]
     refine St.nil (St.nil (xb _ _ ⟨T2,q1,q2,by rw[nq,tk],HA,zz,by rw[nq];exact IV,NC,by rw[nq];exact Nr,by omega⟩ IY))
   ·refine AG hj λTj a1 a2 y6 Fl _ _ _=>?_;clear hj;refine St.nil ?_;refine St.r6 (C:=C) T.sk (x:=sf) (n:=0) (St:=Tj) (v:=1) (m3:=true) 3 (.inr ⟨rfl,rfl⟩) hr IX a1 Ev.int λs9 I3=>?_;refine St.nil ((hn _ _ ⟨{Tj with au:=if(3:Nat)=2 then Tj.au+1 else Tj.au,az:=if(3:Nat)=2 then Tj.az else Tj.az+1},by rw[RB];rfl,ai rfl a2,?_,?_⟩ I3).1)
    ·rw[gP _ _ _ _ _ hk,<-l7];unfold AS.cu;rw[c1];have hl:(bA (-2) nd).succ.length=nd.succ.length:=rfl;rw[hl,TU (Rx _),xZ]at y6;have I6:∀ (js:List Key) (a:AS),(js.foldl AS.dec a).az=a.az:=λjs=>by
      induction js with
      |nil=>intro a;rfl
      |cons j r ih=>intro a;rw[YB,ih,Au]
     have h1:Tj.az=Ti.az:=by
      have:Tj.abs.az=Ti.az:=by rw[y6,I6];rfl
      exact this
     show aa.abs _={nd.succ.foldl AS.dec (Ti.abs.upd k (AN.bA (-2)))with az:=Ti.az+1};rw[<-y6];unfold aa.abs;simp[h1]
    ·exact(x7.trans (Grows.dF _ _ (eo _))).trans (Fl.trans (Grows.cnt _ _ _))
  ·refine gj hi λTi l1 l3 l7 x7=>?_;clear hi;refine St.nil (St.nil (iz s' Ti af ⟨rfl,x7,?_⟩ bF l1));rw[l7,eY,TU (Rx _)]
theorem dr.n(h:dr C env Γ e 1 (.list xs)):bI C env Γ e true xs:=λA S U s Q E hr hh hq=>
 h A S U s Q E hr hh λv h' t' f ex r aG hf=>by
  refine aP r.list1 λa vs n zr zw=>?_;subst zr;refine oA zw λzr Hr=>?_;clear zw;subst zr;refine oA Hr λho rs=>?_;clear Hr;exact hq a vs n h' t' ex (hf a (by simp)).1 (hf a (by simp)).2 ho (rs.mono (λb hb=>⟨hb.1,by simpa using hb.2⟩) λω ω ω e=>e)
theorem Ev.DJ{nd:aj}{pos:Pos}{name:Str}(k:bD C.K)(he:Ev C env Γ e md (.info nd))(hn:(name,i)∈dy)
  (lI:autoParam (∀env,eval (.Attribute e name pos) env=(do
   let o ←eval e env
   standAt pos.atName
   let r ←holding [o] (getAttr o name true)
   letTemporaryGo e o r
   pure r)) oA6._auto_1):Ev C env Γ (.Attribute e name pos) md (jI nd i):=λA S U s Q E hr hh hq=>by
 refine TV ?_ (lI env);refine he A S U s _ E hr hh λv h' t' ex rd=>?_;refine oA rd.view λzr zw=>?_;subst zr;refine oA zw λhf r=>?_;clear zw;refine aM (fE r) λkv t jw I=>?_;obtain⟨p,h1,h2,h3,h4,h5,h6⟩:=k.slots hn;have X:=(hh.ext ex).base.cB;have go:∀v,((eU nd kv t).slots[i]?).join=some v->handedIn v=true->Rd C.prog C.w (dH md S U s.heap) h' v (jI nd i)->RM (RF C.prog C.w) A (getAttr (.ref nd.loc) name true) Q E {s with heap:=h',toks:=t'}:=λv hg hv rd=>ja X I (aL k.ni name) (cG k.ni) h1 h2 h3 h4 hg hv (hq v h' _ ex rd);have hi:i=0\/i=1\/i=2:=by
  simp only[dy,Rr,UW,RN,or_false]at hn;omega
 rcases hi with rfl|rfl|rfl
 ·refine go kv rfl ?_ (Key.rd jw);rcases Key.shape jw with⟨_,_,_,rfl⟩|⟨_,_,_,rfl⟩<;>rfl
 ·exact go (.int nd.np t) rfl rfl (.int _ _)
 ·refine go (.ref nd.lst) rfl rfl ?_;refine aM r.list λvs m g1 g2=>?_;exact .list (hf _ (by simp[aj.fp])) g1 g2.rd
theorem Ev.zY(hx:Γ.lookup x=some (some (nx,.aK X)))(bS:aA (env.kindOf x)=true)(cY:Rt<X.n2)(he:Ev C env Γ e m2 (.raw (.ref X.n2)))(zX:autoParam (md=(nx==0)) oA1._auto_1):
  Ev C env Γ e md (.dict (X.nodes.map λnd=>(nd.key,.info nd))):=λA S U s Q E hr hh hq=>by
 refine he A S U s _ E hr hh λv h1 t1 bQ rd=>?_;cases rd.aQ;refine bM ((hh.ext bQ).aK hx bS) λa _ hf hs=>?_;rw[<-zX]at hf;refine hq _ h1 t1 bQ (.dict (vs:=X.nodes.map λnd=>.ref nd.loc) (.inl (hf _ (by simp[aa.fp]))) cY ?_ (ab.of_get (by simp) λi v x hv hx=>?_))
 ·rw[R6,List.zip_map'];exact hs.map
 ·rw[RZ]at hv;refine aD (VU.mp hv) λnd hn zr=>?_;subst zr;rw[R6,RZ,hn]at hx;cases hx;have hm:=R4 hn;exact .info (λb hb=>.inl (hf b (aa.cb hm hb))) (hs.nodes nd hm)
theorem dw.Il{pos:Pos}(he:Ev C env Γ e md (.dict kvs))(aF:kvs.length<=lim)
  (aJ:autoParam (fH e "values") oA2._auto_1)
  (cy:autoParam (∀env,dD pos env []) oA2._auto_1)
  (aW:autoParam ((apos.endLine==pos.line)=true) oA1._auto_1) (bg:autoParam (∀env,SF pos (RV [] env)=[]) oA2._auto_1) (hN:autoParam (C.hd=false) oA8._auto_1):
  dw C env Γ (.Call (.Attribute e "values" apos) [] [] pos) md (kvs.map (·.2)):=λA S U s Q E hr hh hq=>by
 refine Tq (aJ env) (cy env) aW VP WZ PySem.F.type_dict_values ?_;refine he A S U s _ E hr hh λv h1 t1 bQ rd=>?_;refine aM rd.view λd vs zr zw=>?_;subst zr;refine iC zw λhd cY hm ra=>?_;clear zw;refine⟨hm.typeIs,λb e=>?_,?_⟩
 ·cases e;refine fh hm λob es ep ho hr _=>?_;clear hm;exact⟨ob,ho,hr.2.1⟩
 rw[bg env];refine method_meetsIn WZ PySem.F.entry_dict_values rfl (XG ⟨rfl,hm.typeIs,PySem.F.args_dict_values_1 _,_,meets_dict_values (aw C.prog C.w) d (noSys cY),⟨_,hm⟩,?_⟩);refine fA hm λob es ep d1 d2 d3 d4 d5 d6=>?_;clear hm;have oM:∀b ob,h1.get? b=some ob->(h1.push {cls:=.type "dict_values",data:=.fields #[.ref d]}).get? b=some ob:=λb ob e=>Ry _ e;generalize iE:h1.push {cls:=.type "dict_values",data:=.fields #[.ref d]}=h2 at oM;have c7:Ext A env s.heap h2:=iE▸bQ.push _;have DI:h2.get? h1.objs.size=some {cls:=.type "dict_values",data:=.fields #[.ref d]}:=iE▸RL _ rfl;have Bo:=ra.length;rw[Rl]at Bo;have kz:((kvs.map (·.1)).zip vs).length=(kvs.map (·.2)).length:=by rw[UC,Rl,Rl,Bo,VG]
 have fS:h2.DictAt (aw C.prog C.w) d ((kvs.map (·.1)).zip vs) ep:=⟨ob,es,oM _ _ d1,d2,d3,d4,d5,d6⟩;refine wpAny_pyIter_values (s:={s with heap:=h2,toks:=t1}) ⟨_,DI,rfl,rfl⟩ fS ?_;have aX:d≠h2.objs.size:=Sm (Ss (oM _ _ d1));have vA:∀b ob,h2.get? b=some ob->(h2.push {cls:=.type "dict_valueiterator",data:=.fields #[.ref d,.int 0 0,.int ((kvs.map (·.1)).zip vs).length 0,.int ep 0]}).get? b=some ob:=λb ob e=>Ry _ e;have W:=Walks.dictValues (prog:=C.prog) (w:=C.w) (knd:=aw C.prog C.w) (hr.1 hN) h2.objs.size d aX ((kvs.map (·.1)).zip vs) ep;rw[kz]at W;refine hq h2.objs.size _ t1 _ _ _ (c7.push _) (c7.fresh_at hh.aq.ns) (c7.df hh) W ⟨by rw[<-kz];exact⟨_,RL _ rfl,rfl,rfl⟩,fS.at' λo e=>vA _ _ e⟩ ?_ ?_ ?_ ?_
 ·rintro i v ⟨key,hv⟩;refine aD (ra.there.yw (VL.mp hv).2) λz hz rz=>?_;exact⟨z,hz,rz.mono (λb hb=>⟨hb.1,λe=>by
   refine oE (Rv.mp hb.2) λo ho=>?_;exact S8 _ (e▸Ss (oM _ _ ho))⟩) λb o ω e=>vA _ _ (oM _ _ e)⟩
 ·intro b hb;rcases Rr.mp hb with rfl|hb
  ·exact⟨.inl rfl,by rw[RL _ rfl];rfl⟩
  ·rcases Rq.mp hb with rfl
   exact⟨.inr hd,by rw[vA _ _ (oM _ _ d1)];rfl⟩
 ·rw[Rl];exact Rk aF (by decide)
 ·rintro i h ⟨⟨o',jy,hc,_⟩,_⟩;exact⟨o',_,jy,hc,by decide⟩
theorem dw.Eh{pos:Pos}(hx:Γ.lookup x=some (some (nx,.aK X)))(bS:aA (env.kindOf x)=true)(cY:Rt<X.n2)(he:Ev C env Γ e m2 (.raw (.ref X.n2)))(aF:X.nodes.length<=lim)
  (aJ:autoParam (fH e "values") oA2._auto_1)
  (cy:autoParam (∀env,dD pos env []) oA2._auto_1)
  (aW:autoParam ((apos.endLine==pos.line)=true) oA1._auto_1) (bg:autoParam (∀env,SF pos (RV [] env)=[]) oA2._auto_1) (zX:autoParam (md=(nx==0)) oA1._auto_1) (hN:autoParam (C.hd=false) oA8._auto_1):
  dw C env Γ (.Call (.Attribute e "values" apos) [] [] pos) md (X.nodes.map .info):=by
 have:=dw.Il (apos:=apos) (pos:=pos) (Ev.zY hx bS cY he zX) (by rw[Rl];exact aF) aJ cy aW bg;rw[R6]at this;exact this
theorem cX.none(h:Ev C env Γ e md .none)(hi:autoParam (∀env whole,isTrue e env whole=(do let v ←whole;standAt e.pos;holding [v] (truthy v))) oA9._auto_1):cX C env Γ e false:=λA S U s Q E hr hh hq=>by
 rw[hi];refine Rp (h A S U s _ E hr hh λv h' t' ex rd=>?_);cases rd.none_inv;exact Rp (SJ (Sr (Zc (hq h' t' ex))))
noncomputable def AS.iL(a:AS):AS:={a with aI:=some ((a.nodes.filter λx=>x.np==0).map AN.key)}
noncomputable def t8(T:aa)(T':aa)(pv:PV):Prop:=pv= .none/\Grows T T'/\T'.abs=T.abs.iL
noncomputable def vU(T:aa)(T':aa)(pv:PV):Prop:=T'=T/\pv= .none
theorem uE(T:TopK C)(hN:C.hd=false)(T0:aa)(mf:T0.aI=none)(aF:T0.nodes.length<=lim)(zF:∀X:aa,X.abs=T0.abs.iL->fU C 127 X [] (vU X)):fU C.up 92 T0 [] (t8 T0):=by
 have my:(ae (cC 3)).lookup sf=some .local:=by rfl
 have kc:(ae (cC 3)).lookup ("cycle":Str)=some .local:=by rfl
 refine fU.of (C:=C.up) T.K1 [] rfl (by decide) (λx hx=>?_) (λfd v vs h1 h2 h3 h4=>?_) (λa8 pv hp=>hp.2.1) λA env o s Q E eJ rV hr hA fV iz=>?_
 ·simp only[Rr,RN,or_false]at hx;subst hx;exact .inl my
 ·obtain rfl:=SI.mp h4;unfold bindArgs;rw[h1,h2];rfl
 ·have v1:∀x,(ae (cC 3)).lookup x=some .local->aA (env.kindOf x)=true:=λx hx=>by rw[eJ,hx];rfl
  have v2:∀x,(ae (cC 3)).lookup x=some .local->(env.kindOf x=some .local\/env.kindOf x=some .cell):=λx hx=>.inl (by rw[eJ,hx]);refine St.ite (b:=false) hr hA (cX.cmp (y:=.none) (m2:=true) (Ev.kJ (C:=C.up) (i:=1) (St:=T0) (md:=false) T.sk (Ev.name rfl (v1 _ my)) rfl) Ev.By (by
   have e:eK T0 1= .none:=by show(match T0.aI with|none=>PV.none|some r=>_)=_;rw[mf]
   rw[e];exact cw.jR (b:=true) rfl)) λs1 gX=>?_
  refine St.nil ?_;have cY:=gX.xi (x:=sf) (n:=0) (St:=T0) rfl
  let ks:List Key:=(T0.nodes.filter λx=>x.np==0).map aj.key
  have QI:((T0.nodes.filter λx=>x.np==0).map λx=>x.key.pv)=Key.cV ks:=by simp[Key.cV,ks,R6,XA]
  refine St.ye (C:=C.up) (ks:=ks) (md:=true) T.sk (x:=sf) (n:=0) (St:=T0) hr gX rfl mf (dr.n (by
   rw[<-QI];refine jl.k (jl.filter (C:=C.up) (dp:=0) (md:=false) (L:=T0.nodes) (g:=.info) (h:=λx=>x.key.pv) (p:=λx=>x.np==0) (dw.Eh (C:=C.up) (X:=T0) (x:=sf) rfl (v1 _ my) cY (Ev.kJ (C:=C.up) (i:=0) (St:=T0) (md:=false) T.sk (Ev.name rfl (v1 _ my)) rfl) aF) (bB.base (by rfl)) (.inl rfl) rfl (λD cells a ha=>?_) (λD cells a ha hp=>?_) aF)
   ·exact cX.cmp (m1:=false) (m2:=true) (x:=.int a.np) (y:=.int 0) (Ev.DJ (C:=C.up) (nd:=a) (i:=1) T.sk (Ev.name rfl (oB rfl)) (by decide)) Ev.int cw.eq_int
   ·exact mr.b9 (Ev.fy (md:=false) (Ev.DJ (C:=C.up) (nd:=a) (i:=0) T.sk (Ev.name rfl (oB rfl)) (by decide)) (by show a.key.pv.fy=true;cases a.key<;>rfl)))) λs2 l gH=>?_
  have l7:aa.abs {T0 with aI:=some (l,ks)}=T0.abs.iL:=by
   unfold aa.abs AS.iL;simp only[SM,ks,AS.mk.injEq,true_and,and_true,Wc,and_self];rw[V',R6];rfl
  refine St.gR (C:=C.up) hr gH (fL.uU (C:=C) (x:=sf) (n:=0) (St:={T0 with aI:=some (l,ks)}) T.sk (b8.of T.D7) rfl ba.nil (zF _ l7)) (v2 _ kc) λs3 Bl Q0 Nb jv=>?_;refine aD Nb λT3 yi zr=>?_;clear Nb;obtain⟨rfl,rfl⟩:=yi;subst zr;refine St.ite (C:=C.up) (b:=false) hr jv (cX.none (md:=true) (Ev.name rfl (v1 _ kc))) λs4 pK=>?_;exact St.nil (St.nil (iz s4 _ _ ⟨rfl,Grows.Ej T0 mf l ks,l7⟩ pK rfl))
theorem k7(R:Rz->Heap->Prop){Γ:ag}{x:RD}{es:List DictEntry}{n:Nat}{s:Ro}{name xs:Str}{pos:Pos}{Q:Flow->Ro->Prop}(k:bD C.K)(hi:name∈aU)
  (l:ff C A env Γ s₀ dx (dictOf es n) s sh) (oN:s₀.get? x=some ⟨.ref kD,some dx,.plain,#[]⟩/\x≠dx/\¬onStack A x) (hx:Γ.lookup xs=some (some (0,.raw (.ref x)))) (QD:(getL name es).isSome=true) (hlen:∀h key v,(putL name h key v es).length<=1000)
  (hE:∀Q:Rz->Ro->Prop,(∀v h' t',Ext A env s.heap h'->R v h'->Q v {s with heap:=h',toks:=t'})->RM (RF C.prog C.w) A (eval e env) Q E s)
  (kk:∀s' v h' t,R v h'->ff C A env Γ s₀ dx (dictOf (putL name (Un C.w.params name) (.str name t) v es) (putN name es n)) s' sh->(∀a o,a≠env.locals->a≠dx->h'.get? a=some o->s'.heap.get? a=some o)->(∀a o,¬Fz A env a->a≠dx->s.heap.get? a=some o->s'.heap.get? a=some o)->RM (RF C.prog C.w) A (execs rest env) Q E s')
  (hs:autoParam (SR e (some (.Attribute (.Name xs px) name p)) pos.line env=pure false) oA1._auto_1) (eg:autoParam (bk xs) oA1._auto_1):
  RM (RF C.prog C.w) A (execs (.Assign [.Attribute (.Name xs px) name p] e pos::rest) env) Q E s:=by
 refine RI (plainObj_wpAny_Assign_Attribute (hE _ λv h' t' ex hR=>?_) hs);have l1:=l.ext (t:=t') ex;refine ei (l1.at_.vars xs _ _ hx) λbS u hu r=>?_;cases r.zero.1.aQ;refine Sz (ao (s:={s with heap:=h',toks:=t'}) l1.at_.aq hu ?_) eg;have Le:=l1.keep x _ oN.2.2 oN.2.1 oN.1;refine oE l1.at_.aq.ns λm hm=>?_;have aX:findIn C.K (.ref kD) name=some none:=k.none hi;refine wo (s:={s with heap:=h',toks:=t'}) (dx:=dx) (es:=es) (n:=n) (ox:=⟨.ref kD,some dx,.plain,#[]⟩) hm l1.at_.base.cB ⟨Le,rfl,rfl,l1.inst⟩ rfl (λe=>l1.off.2.2 (.inl (.inl e))) (eT k.ts) (dR k.ts) (by unfold takerIn;rw[aX];rfl) k.Fe QD (hlen _ _ _) λh₁ T ho=>?_;exact kk _ v h' _ hR (l1.turn T ho) T.1 λa o hl hd e=>T.1 a o (λe=>hl (.inl e)) hd (ex.keep a o hl e)
noncomputable def S0(x d n2:RD):aa:=⟨x,d,n2,[],none,0,0⟩
section
variable{s:Ro}
theorem jM{K:Frag}{prog:Sw}{w:TG}{a:RD}{ox:Obj}{es:List DictEntry}{n:Nat}{name:Str}{Q:Rz->Ro->Prop}(X:K.In s.heap)(I:InstAt s.heap a ox kD (some (dictOf es n)))(k:bD K)(mk:b8 K name fa)(hl:getL name es=some none)
  (h:Q (.ref s.heap.objs.size) {s with heap:=s.heap.push (methodObj (.ref fa) (.ref a)),toks:=s.toks+1}):RM (RF prog w) A (getAttr (.ref a) name true) Q E s:=
 get_bind X I (plainGet_of (aL k.ts name)).1 (findObj_fn k.Fe mk (by rw[lookIn_dict];exact hl)) (plainGet_of (aL k.ts name)).2 (Uy (fn_get (s:={s with toks:=s.toks+1}) X (beq_iff_eq.mp mk.fn) (handed_on rfl h)))
set_option tactic.hygienic true in
theorem gz{K:Frag}{q g:RD}{self:Rz}{pos:Pos}{args:List (Bool×Sem Rz)}{Q:Rz->Ro->Prop}(hf:fnIn K g=true)(iR:args.any (·.1)=true)
  (h:RM M A (evalArgs (.ref q) true args []) (λa s₁=>MethP K q g self s₁.heap/\RM M A (call (.ref q) a.pos a.kw) Q E s₁) E s):RM M A (callWith pos (.ref q) [] args []) Q E s:=by
 unfold callWith;refine Rp (Sr (Sf h (λa s₁ h₁=>Rp (SJ ?_)) λω ω x=>x));have L:Looks M s₁.heap (keeperOf (.ref q)) .boundFrame:=by
  unfold fnIn at hf;split at hf
  ·rename_i e;exact(Looks.ld (part:=none) h₁.1.1).andThen ((Looks.ld (part:=none) (h₁.1.2 _ _ e)).andThen .now)
  ·cases hf
 have e2:(args.any (·.1)||([]:List (Option Str×Sem Rz)).any λx=>x.1.isNone)=true:=by rw[iR];rfl
 rw[e2];refine Rp (L.here ?_);exact Rp (wpAny_operateT (Sf h₁.2 (λr s₂ hr=>Rp (Sr (YE (RK hr)))) λω ω x=>x))
theorem km{l:RD}{n:Nat}{Q:Bool->Ro->Prop}(ho:s.heap.get? l=some (gN vs n))(h:Q false s):RM M A (notIterableAtAll (.ref l)) Q E s:=by
 unfold notIterableAtAll;refine Rp (wpAny_specialOf (T:="list") ⟨_,ho,rfl⟩ PySem.F.slot_list_iter.lookup ?_);exact RK h
theorem rR{prog:Sw}{w:TG}{x:Sem Rz}{rest:List (Bool×Sem Rz)}{Q:List Rz->Ro->Prop}
  (h:RM (RF prog w) A x (λv s₁=>∃l vs n,v= .ref l/\s₁.heap.get? l=some (gN vs n)/\vs.length<=2^24/\∀h',(∀b o,s₁.heap.get? b=some o->h'.get? b=some o)->RM (RF prog w) A (spliced rest) (λus s₂=>Q (vs++us) s₂) E {s₁ with heap:=h'}) E s):
  RM (RF prog w) A (spliced ((true,x)::rest)) Q E s:=by
 rw[spliced];refine Rp (Sf h (λv s₁ h₁=>?_) λω ω x=>x);refine aP h₁ λl vs n zr zw=>?_;clear h₁;subst zr;refine dd zw λho aF hq=>?_;clear zw;simp only[if_true];refine Rp (m:=notIterableAtAll (.ref l)) (km ho ?_);simp only[Sx,if_false];refine Rp (m:=collect (.ref l)) ?_;refine Y1 l (.inl rfl) ho rfl rfl (λh' hk=>?_) (by rw[RX];exact aF);refine Rp (Sr (Sf (hq h' hk) (λus s₂ h₂=>RK (by simpa using h₂)) λω ω x=>x))
end
theorem ba.sG{st:Expr}(h1:Ev C env Γ e md (.list ys))(h2:ba C env Γ es md xs)(aF:ys.length<=lim)(hs:autoParam (∀env,RV (st::es) env=(true,eval e env)::RV es env) oA2._auto_1):
  ba C env Γ (st::es) md (ys++xs):=λA S U s p F E hr hh hq=>by
 rw[hs];refine rR ?_;simp only[if_true];refine Rp (h1 A S U s _ E hr hh λv h' t' ex rd=>Rp (SJ (RK ?_)));refine aP rd.aS λl vs n zr zw=>?_;subst zr;refine dd zw λhl ho ra=>?_;clear zw;refine⟨l,vs,n,rfl,ho,by rw[ra.length];unfold lim at aF;omega,λwe hk=>?_⟩;have c7:Ext A env h' we:=.of_keeps hk;refine h2 A S U {s with heap:=we,toks:=t'} p _ E hr ((hh.ext ex).ext c7) λus h3 t3 iF Cw=>?_;exact hq (vs++us) h3 t3 ((ex.trans c7).trans iF) ((ra.up (c7.trans iF) (λa ha=>dH.xI hh ha) λω z=>z).append (Cw.mono (λa ha=>ha.imp (λz=>z) ((ex.trans c7).fresh hh.aq.ns)) λω ω ω z=>z))
section
variable{Γ:ag}{s:Ro}
theorem oS{prog:Sw}{w:TG}{f:Rz}{x:Sem Rz}{Q:Args->Ro->Prop}
  (h:RM (RF prog w) A x (λv s₁=>∃l vs n,v= .ref l/\s₁.heap.get? l=some (gN vs n)/\vs.length<=2^24/\∀h',(∀b o,s₁.heap.get? b=some o->h'.get? b=some o)->Q ⟨vs,[]⟩ {s₁ with heap:=h'}) E s):
  RM (RF prog w) A (evalArgs f true [(true,x)] []) Q E s:=by
 unfold evalArgs;refine Rp (Sf h (λv s₁ h₁=>?_) λω ω x=>x);refine aP h₁ λl vs n zr zw=>?_;clear h₁;subst zr;refine dd zw λho aF hq=>?_;clear zw;refine Rp (RK ?_);refine Sr ?_;refine Rp (RK ?_);refine Rp ?_;refine Rp (m:=notIterableAtAll (.ref l)) (km ho ?_);simp only[Sx,if_false];refine Sr ?_;exact Y1 l (.inl rfl) ho rfl rfl (λh' hk=>RK (by simpa using hq h' hk)) (by rw[RX];exact aF)
end
section
variable{Γ:ag}{s:Ro}
noncomputable def e6(C:Cx)(env:Env)(Γ:fT)(ts:List (Bool×Sem Rz))(xs:List PV):Prop:=
 ∀ (A:Sg) (S U:RD->Prop) (s:Ro) (f:Rz) (Q:Args->Ro->Prop) (E:Rz->Ro->Prop),aB C A->Here C A S U env Γ s.heap->
  (∀vs h' t',Ext A env s.heap h'->ab C.prog C.w (dH true S U s.heap) h' vs xs->Q ⟨vs,[]⟩ {s with heap:=h',toks:=t'})->RM (RF C.prog C.w) A (evalArgs f true ts []) Q E s
theorem fL.DH{name:Str}{pos:Pos}{n:Nat}{St:aa}(k:bD C.K)(mk:b8 C.K name fa)(hx:Γ.lookup x=some (some (n+1,.aK St)))(ha:e6 C.up env (cv Γ) (SF pos (RV args env)) xs)(hM:fU C fa St xs post)
  (aJ:autoParam (fH (.Name x p) name) oA2._auto_1)
  (dT:autoParam (kH args pos false) oA2._auto_1)
  (iR:autoParam (jq args pos true) oA2._auto_1) (eg:autoParam (bk x) oA1._auto_1):
  fL C.up env Γ (.Call (.Attribute (.Name x p) name apos) args [] pos) (λaf pv=>∃a8,post a8 pv/\af=(x,some (n+1,.aK a8))::Γ):=λA o s Q E hr hA hq=>by
 rw[arm_eval_Call,aJ];obtain⟨S,fp,hA,av⟩:=hA;obtain⟨a,bS,hv,hf,hs,fC,_⟩:=aV.aK hA av (.refl _ _ _) hx;have cK:=hs.at_;subst cK;refine Rp (Sz (ao hA.aq hv ?_) eg);refine Rp (SJ ?_);unfold methodCall;rw[dT];obtain⟨ks,q1,q2,q,I⟩:=cR hs;refine Rp (Sr (Rp (jM hA.base.cB I k mk (fB mk.own) (RK ?_))));refine Rp (RK ?_)
 let h1:Heap:=s.heap.push (methodObj (.ref fa) (.ref St.loc))
 have bQ:Ext A env s.heap h1:=(Ext.refl _ _ _).push _;have BL:h1.get? s.heap.objs.size=some (methodObj (.ref fa) (.ref St.loc)):=RL _ rfl;refine gz (K:=C.K) (self:=.ref St.loc) mk.fnIn (iR env) ?_;refine ha A S _ {s with heap:=h1,toks:=s.toks+1} _ _ E hr (hA.here.ext bQ) λvs h2 t2 c7 rv=>?_;have IU: ¬Fz A env s.heap.objs.size:=λe=>by have:=Fz.there hA.here e;rw[bf]at this;cases this
 have sF:=c7.keep _ _ IU BL;have ex:=bQ.trans c7;refine⟨⟨sF,(hA.base.ext ex hA.bE hA.aq).cB⟩,Uy (method_call (s:={s with heap:=h2,toks:=t2}) sF ?_)⟩;exact vG (C:=C) hr hA av ex hx hM (rv.mono (λb hb=>hb.imp (λz=>z) (bQ.fresh hA.aq.ns)) λω ω ω z=>z) λv h₁ t a8 pv S' ed hp hg bF dE rd=>hq v S' ed _ _ pv ⟨a8,hp,rfl⟩ bF dE rd
end
theorem e6.of{pos:Pos}(h:ba C env Γ args true xs)(aX:∃x r,SF pos (RV args env)=(false,x)::r:=by exact⟨_,_,rfl⟩):e6 C env Γ (SF pos (RV args env)) xs:=λA S U s f Q E hr hh hq=>by
 refine jH aX λx r e=>?_;clear aX;rw[e];refine evalArgs_plain ?_;rw[<-e];exact h A S U s pos _ E hr hh hq
theorem e6.GQ{st:Expr}{pos:Pos}(h:Ev C env Γ e true (.list ys))(aF:ys.length<=lim)(hs:autoParam (SF pos (RV [st] env)=[(true,do let v ←eval e env;standAt pos;pure v)]) oA1._auto_1):e6 C env Γ (SF pos (RV [st] env)) ys:=λA S U s f Q E hr hh hq=>by
 rw[hs];refine oS (Rp (h A S U s _ E hr hh λv h' t' ex rd=>Rp (SJ (RK ?_))));refine aP rd.aS λl vs n zr zw=>?_;subst zr;refine dd zw λhl ho ra=>?_;clear zw;refine⟨l,vs,n,rfl,ho,by rw[ra.length];unfold lim at aF;omega,λh2 hk=>?_⟩;have c7:Ext A env h' h2:=.of_keeps hk;exact hq vs h2 t' (ex.trans c7) (ra.up c7 (λa ha=>dH.xI hh ha) λω z=>z)
noncomputable def Cx.kR(C:Cx):Cx:={C with hd:=true}
section
variable{b:Bool}
theorem aC.kR{S:RD->Prop}{k:Nat}{x:PV}(r:aC C S h k v x f):aC {C with hd:=b} S h k v x f:=(aC.gen b (λω x ω=>x) λω ω ω e=>e).1 k v x f r λω ω ω e=>e
theorem bH.kR(x:bH C h env):bH {C with hd:=b} h env:=⟨x.kind,x.glob,x.gY,x.ns,x.cell,x.call,x.apart,x.et,x.below,x.high,x.dB⟩
theorem At.kR{v:Option Rz}{S:RD->Prop}{fp:Str->List RD}{Γ:ag}(x:At C A env S fp Γ h):At {C with hd:=b} (A.mark v) env S fp Γ h:=
 {cx:=⟨x.cx.g⟩,base:=x.base.of rfl,aq:=x.aq.kR,bE:=(fc.of (C':={C with hd:=b}) x.bE rfl).frames rfl,aO:=x.aO,cZ:=x.cZ,c9:=x.c9,fold:=x.fold
  vars:=λy n pv hy=>ei (x.vars y n pv hy) λh0 v h1 h2=>⟨h0,v,h1,h2.kR⟩}
theorem Step.mark{v:Option Rz}{S:RD->Prop}{fp:Str->List RD}{s:Ro}(x:Step A env o S fp s):Step (A.mark v) env o S fp s:=⟨x.same,x.grow,x.mu,x.mw,x.keep,x.live,x.fr⟩
theorem Step.unmark{v:Option Rz}{S:RD->Prop}{fp:Str->List RD}{s:Ro}(x:Step (A.mark v) env o S fp s):Step A env o S fp s:=⟨x.same,x.grow,x.mu,x.mw,x.keep,x.live,x.fr⟩
theorem At.xY{v:Option Rz}{S:RD->Prop}{fp:Str->List RD}{Γ:ag}(x:At C.kR (A.mark v) env S fp Γ h):At C A env S fp Γ h:=
 {cx:=⟨x.cx.g⟩,base:=x.base.of rfl,aq:=(x.aq.kR (b:=C.hd):bH {C with hd:=C.hd} h env),bE:=(fc.of (C':=C) x.bE rfl).frames rfl,aO:=x.aO,cZ:=x.cZ,c9:=x.c9,fold:=x.fold
  vars:=λy n pv hy=>ei (x.vars y n pv hy) λh0 v h1 h2=>⟨h0,v,h1,(h2.kR (b:=C.hd):aC {C with hd:=C.hd} _ _ _ _ _ _)⟩}
theorem aB.kR{v:Option Rz}(hr:aB C A):aB C.kR (A.mark v):=⟨λh=>Tz h,hr.2.1,hr.2.2⟩
end
theorem Ev.Dn{y:Str}{x:PV}(h:Ev C env Γ e m1 x)(hy:y.length<=2^24)
  (Lx:∀ (A:Sg) (s:Ro) (v:Rz) (Q:Rz->Ro->Prop) (E:Rz->Ro->Prop) (S:RD->Prop),Rd C.prog C.w S s.heap v x->(∀t tk,Q (.str y t) {s with toks:=tk})->RM (RF C.prog C.w) A (pyReprObj v) Q E s):
  Ev C env Γ (.FormattedValue e 114 none p) md (.str y):=λA S U s Q E hr hh hq=>by
 refine wpAny_FormattedValue_repr (h A S U s _ E hr hh λv h' t' ex rd=>?_);refine Lx A {s with heap:=h',toks:=t'} v _ E _ rd λt tk=>?_;exact wpAny_formatField_str (hq _ h' _ ex (.str _ _)) (hq _ h' _ ex (.str _ _)) hy
theorem Ev.xT{i:Int}(h:Ev C env Γ e m1 (.int i))(hi:i.natAbs.log2<1920):Ev C env Γ (.FormattedValue e 114 none p) md (.str (So (toString i))):=
 Ev.Dn h (int_text_fits hi) λA s v Q E S rd hq=>by
  refine oE rd.int_inv λt zr=>?_;subst zr;exact pyReprObj_int hi (hq _ _)
theorem Ev.x6(h:Ev C env Γ e m1 (.str x))(hx:(TL x).length<=2^24):Ev C env Γ (.FormattedValue e 114 none p) md (.str (TL x)):=
 Ev.Dn h hx λA s v Q E S rd hq=>by
  refine oE rd.str_inv λt zr=>?_;subst zr;exact pyReprObj_str (hq _ _) hx
theorem Ev.z5{e1 e2 e3:Expr}{p:Pos}{y1 y2 y3:Str}(h1:Ev C env Γ e1 true (.str y1))(h2:Ev C env Γ e2 true (.str y2))(h3:Ev C env Γ e3 true (.str y3))(aF:y1.length+y2.length+y3.length<=2^24)
  (he:autoParam (∀env,evalEach [e1,e2,e3] env=[eval e1 env,eval e2 env,eval e3 env]) oA2._auto_1):Ev C env Γ (.JoinedStr [e1,e2,e3] p) md (.str (y1++y2++y3)):=λA S U s Q E hr hh hq=>by
 refine wpAny_JoinedStr ?_;rw[he];have e0:Str.empty++y1=y1:=by
  show Str.mk _=_;simp[Str.empty]
 have Oo:(y1++y2).length=y1.length+y2.length:=strLen_append ..;have H5:(y1++y2++y3).length=y1.length+y2.length+y3.length:=by rw[strLen_append,Oo]
 refine h1 A S U s _ E hr hh λv1 Ga t1 bQ r1=>?_;refine oE r1.str_inv λq1 zr=>?_;subst zr;refine⟨y1,q1,rfl,by rw[e0];show _<=2^24;omega,?_⟩;refine h2 A S U {s with heap:=Ga,toks:=t1} _ E hr (hh.ext bQ) λv2 Mk t2 c7 r2=>?_;refine oE r2.str_inv λq2 zr=>?_;subst zr;refine⟨y2,q2,rfl,by rw[e0,Oo];show _<=2^24;omega,?_⟩;refine h3 A S U {s with heap:=Mk,toks:=t2} _ E hr ((hh.ext bQ).ext c7) λv3 P7 t3 iF r3=>?_;refine oE r3.str_inv λq3 zr=>?_;subst zr;refine⟨y3,q3,rfl,by rw[e0,H5];show _<=2^24;omega,?_⟩;refine⟨by rw[e0,H5];show _<=2^24;omega,?_⟩;rw[e0];exact hq _ P7 _ ((bQ.trans c7).trans iF) (.str _ _)
inductive Al(prog:Sw)(w:TG)(A:Sg)(S:RD->Prop)(h₀:Heap)(cls:Rz)(args:List PV)(e:RD)(h':Heap):Prop
 |mk (l:List Env) (base:Heap) (t:RD) (us:List Rz) (n:Nat):A.frames=some l->Heap.FlyingW base l e cls (.ref t) h'->base.get? t=some (yO us n)->(∀a o,¬onStack A a->h₀.get? a=some o->base.get? a=some o)->
  (∀a o,onStack A a->h₀.get? a=some o->∃sl,h'.get? a=some {o with slots:=sl})->h₀.get? e=none->h₀.get? t=none->ab prog w (λa=>S a\/h₀.get? a=none) base us args->Al prog w A S h₀ cls args e h'
structure Flew(C:Cx)(A:Sg)(S:RD->Prop)(h₀:Heap)(cls:Rz)(args:List PV)(e:RD)(h':Heap):Prop where
 ex:Al C.prog C.w A S h₀ cls args e h'
theorem Flew.H7{S:RD->Prop}{args:List PV}{e:RD}(x:Flew C A S h₀ cls args e h'):dv A h₀ h':=by
 obtain⟨l,base,t,us,n,h1,h2,h3,h4,h5,_⟩:=x.ex;exact⟨λa b hs hb=>h2.1 a b (h4 a b hs hb),h5⟩
noncomputable def yl(C:Cx)(fa:RD)(xs:List PV)(cls:Rz)(args:List PV):Prop:=
 ∀ (A:Sg) (S:RD->Prop) (s:Ro) (vs:List Rz) (R:Result->Ro->Prop),aB C.up A->C.Ok->Base C s.heap->fc C A s.heap->(∀a,S a->(s.heap.get? a).isSome=true/\¬onStack A a)->ab C.prog C.w S s.heap vs xs->
  (∀e h' t',Flew C A S s.heap cls args e h'->R (.error (.ref e)) {s with heap:=h',toks:=t'})->TR (RF C.prog C.w) A (.call (.ref fa) ⟨vs,[]⟩) R s
inductive yf(C:Cx)(A:Sg)(env:Env)(o:iD)(cls:Rz)(args:List PV)(e:RD)(s':Ro):Prop
 |mk (S:RD->Prop) (fp:Str->List RD) (Γ:ag) (h₁:Heap) (us:List Rz):At C A env S fp Γ h₁->Step A env o S fp {s' with heap:=h₁}->ab C.prog C.w S h₁ us args->Heap.MadeExcOf h₁ s'.heap e cls us->yf C A env o cls args e s'
theorem ow(h:Heap)(l:List RD):(TI.gone h l).StaysIn h:=λb o e=>(TI.gone_some e).2
theorem qY{args:List PV}{e:RD}{sS:RD->Prop}{Q:Unit->Ro->Prop}(me:env.scope.kind≠.module)(te:env.frame=some env.locals)(fx:∃l,A.frames=some l)
  (hT:yf C (A.deeper env) env o cls args e s') (mm:∀a,onStack (A.deeper env) a↔a=env.locals\/onStack A a) (own:∀a,i7 env a->s₀.get? a=none) (hk:∀a b,s₀.get? a=some b->o.s.heap.get? a=some b) (jt:∀y,o.fp y=[]) (hS:∀a,o.S a->sS a\/s₀.get? a=none)
  (kk:∀h',Flew C A sS s₀ cls args e h'->Q () {s' with heap:=h'}):RM (RF C.prog C.w) (A.deeper env) (leaving env (.ref e)) Q E s':=by
 obtain⟨S,fp,Γ,h₁,us,hA,av,rd,hx⟩:=hT;refine oE fx λl hl=>?_;clear fx;refine bM hx.there λt he NK ht=>?_;have du:(A.deeper env).frames=some (env::l):=Vl hl;have yJ:fc C (A.deeper env) s'.heap:=hA.bE.move λa o ω ho hd=>⟨o,hx.keeps a o ho,hd⟩;have tL:∀a,a∈(env::l).filterMap (·.frame)↔onStack (A.deeper env) a:=λa=>by
  unfold onStack;rw[du];simp only[Uu,Wc];exact⟨λ⟨e,h1,h2⟩=>⟨_,rfl,e,h1,h2⟩,λ⟨_,h0,e,h1,h2⟩=>⟨e,by rw[h0];exact h1,h2⟩⟩
 let gl:List RD:=e::(env::l).filterMap (·.frame)
 let base:=TI.gone s'.heap gl
 have aJ:∀a ob,a∉gl->s'.heap.get? a=some ob->base.get? a=some ob:=λa ob hn ho=>(TI.gone_get hn).trans ho;have hF:s'.heap.FunFrames base (env::l):=by
  refine aD yJ.ex λl' vP rU=>?_;rw[du]at vP;cases vP;have key:∀BN:List Env,(∀e'∈BN,e'∈env::l)->s'.heap.FunFrames base BN:=by
   intro BN
   induction BN with
   |nil=>intro _;trivial
   |cons e' r ih=>
    intro hm;refine fP (rU e' (hm e' Rm)) λg0 L ob es ep g1 _ _ g4 g5=>?_;refine⟨g0,⟨L,ob,g1,Wg ?_,g4,λvs q=>by rw[g5]at q;cases q⟩,ih λx hx=>hm x (Rn _ hx)⟩;exact Rn _ (Uu.mpr ⟨e',hm e' Rm,g1⟩)
  exact key _ λω h=>h
 refine wpAny_leaving_firstW (base:=base) (outer:=l) (L:=env.locals) (a0:=.ref t) du hF te he (ow _ _) (Wg Rm) rfl rfl rfl λh' hL=>?_;refine iC hL λk1 yi k3 k4=>?_;clear hL;obtain⟨_,_,k2⟩:=yi;have Ra:∀a,onStack (A.deeper env) a->a≠e:=λa hs Pm=>by
  refine eQ (yJ.high hs) λ_ _ ob es ep h4 h5=>?_;rw[Pm,he]at h4;cases h4;cases h5
 have Qu:t∉gl:=λhm=>by
  rcases Rr.mp hm with hm|hm
  ·rw[hm,he]at ht;cases ht
  ·refine eQ (yJ.high ((tL t).mp hm)) λ_ _ ob es ep h4 h5=>?_;rw[ht]at h4;cases h4;cases h5
 have zi:∀a b,s₀.get? a=some b->¬i7 env a:=λa b hb hf=>by rw[own a hf]at hb;cases hb
 have Og:∀a b,¬onStack A a->s₀.get? a=some b->h₁.get? a=some b:=λa b hs hb=>by
  refine av.keep a b (λhf=>?_) (λy h=>by rw[jt y]at h;cases h) (hk a b hb);rcases hf with(hf|hf)|hf
  ·exact zi a b hb (.inl hf)
  ·exact((mm a).mp hf).elim (λh=>zi a b hb (.inl h)) hs
  ·exact zi a b hb (.inr hf)
 have NU:∀a b,onStack A a->s₀.get? a=some b->∃sl,h₁.get? a=some {b with slots:=sl}:=λa b hs hb=>
  av.fr a b ((mm a).mpr (.inr hs)) (λe=>zi a b hb (.inl e)) (hk a b hb)
 have fresh:∀a,h₁.get? a=none->s₀.get? a=none:=λa ha=>by
  cases hq:s₀.get? a with
  |none=>rfl
  |some b=>
   by_cases hs:onStack A a
   ·refine oE (NU a b hs hq) λsl h1=>?_;rw[h1]at ha;cases ha
   ·rw[Og a b hs hq]at ha;cases ha
 have QK:∀a b,s₀.get? a=some b->¬onStack A a->a∉gl:=λa b hb hs hm=>by
  rcases Rr.mp hm with hm|hm
  ·rw[hm,fresh e hx.new]at hb;cases hb
  ·exact((mm a).mp ((tL a).mp hm)).elim (λh=>zi a b hb (.inl h)) hs
 refine kk h' ⟨l,base,t,us,0,hl,⟨k1,Wg Rm,k2,k3⟩,aJ t _ Qu ht,λa b hs hb=>aJ a b (QK a b hb hs) (hx.keeps a b (Og a b hs hb)),λa b hs hb=>?_,fresh e hx.new,fresh t NK,?_⟩
 ·refine oE (NU a b hs hb) λsl h1=>?_;have qK:=hx.keeps a _ h1;refine eQ (yJ.high ((mm a).mpr (.inr hs))) λ_ _ ob es ep h4 h5=>?_;rw[qK]at h4;obtain⟨sI,h2⟩:=k4 a _ qK λvs q=>by cases h4;rw[q]at h5;cases h5
  exact⟨sI,h2⟩
 ·refine rd.there.mono (λa ha=>?_) λa ob ha ho=>aJ a ob (λhm=>?_) (hx.keeps a ob ho)
  ·rcases av.mu a ha.1 with h|⟨y,h⟩|h
   ·exact hS a h
   ·rw[jt y]at h;cases h
   ·refine .inr ?_;cases hq:s₀.get? a with
    |none=>rfl
    |some b=>have h':o.s.heap.get? a=none:=h;rw[hk a b hq]at h';cases h'
  ·rcases Rr.mp hm with hm|hm
   ·rw[hm,hx.new]at ho;cases ho
   ·exact(hA.aO a ha.1).2.1 (.inl (.inr ((tL a).mp hm)))
theorem yl.core{d:Stmt}(f:FnAt C.K fa d dflt){args:List PV}(nG:ag)
  (hb:∀ (fd:FuncData) (A:Sg) (S:RD->Prop) (s:Ro) (vs:List Rz),fd.params=jz d->fd.defaults=dflt->fd.kwdefaults= .none->Base C s.heap->(∀b,S b->(s.heap.get? b).isSome=true)->ab C.prog C.w S s.heap vs xs->∃ (kO:RD->Prop) (aY:List (Str×Rz)) (h1:Heap),
   (∀ (Q:List (Str×Rz)->Ro->Prop) (E:Rz->Ro->Prop),(∀t1,Q aY {s with heap:=h1,toks:=t1})->RM (RF C.prog C.w) A.in1 (bindArgs fd ⟨vs,[]⟩) Q E s)/\
   (∀a b,s.heap.get? a=some b->h1.get? a=some b)/\(aY.map (·.1)).Nodup/\(∀x∈aY,(ae d).lookup x.1=some .local\/(ae d).lookup x.1=some .cell)/\
   (∀a,kO a->(S a\/s.heap.get? a=none)/\(h1.get? a).isSome=true)/\∀x n pv,nG.lookup x=some (some (n,pv))->n=0/\∃v,(x,v)∈aY/\Rd C.prog C.w kO h1 v pv)
  (walk:∀ (A:Sg) (env:Env) (o:iD) (s:Ro) (Q:Flow->Ro->Prop) (E:Rz->Ro->Prop),(∀x,env.kindOf x=(ae d).lookup x)->j1 A env->aB C A->aV C A env o nG s->PassesOwn (RF C.prog C.w) A env E->
   (∀e s',yf C A env o cls args e s'->E (.ref e) s')->RM (RF C.prog C.w) A (execs (bh d) env) Q E s):yl C fa xs cls args:=λA S s vs R hr cx B fx hS rv hR=>by
 obtain⟨ob,fd,f1,f2,f3,f4,f5,f6,f7,f8,f9⟩:=f.ex;refine fA (hb fd A S s vs f7 f8 f9 B (λb hb=>(hS b hb).1) rv) λkO aY h1 b1 b2 b3 b4 b5 b7=>?_;refine eH (S:=kO) (fp:=λω=>[]) (Γ:=nG) (λbs h=>bs=aY/\h=h1) hr cx B fx f1 f2 (.of f3) f4 f5 (λQ E hq=>?_) (λbs h hp=>?_) (λω ω ω h=>nomatch h) (λω=>Sn) λenv h2 t2 yL hk du hA eJ mz mm g9=>?_
 ·exact b1 Q E λt1=>hq _ h1 t1 ⟨rfl,rfl⟩
 ·obtain rfl:=hp.1.symm;obtain rfl:=hp.2.symm;refine⟨b2,b3,λx hx=>by rw[f6];exact b4 x hx,λb hb=>⟨(b5 b hb).2,λlh=>?_⟩,(λω ω ω h=>nomatch h),(λω ω h=>nomatch h),λx n pv hl=>?_⟩
  ·rcases(b5 b hb).1 with h|h
   ·exact(hS b h).2 lh
   ·refine eQ (fx.high lh) λ_ _ N8 _ _ jy _=>?_;rw[h]at jy;cases jy
  ·refine oA (b7 x n pv hl) λzr zw=>?_;subst zr;refine aD zw λv h1 h2=>?_;clear zw;exact⟨v,h1,.val h2⟩
 ·have zO:∀x,env.kindOf x=(ae d).lookup x:=λx=>by rw[eJ x,f6]
  refine aD fx.ex λl hl _=>?_;refine walk _ env ⟨kO,λω=>[],{s with heap:=h2,toks:=t2}⟩ _ _ _ zO g9 mz ⟨kO,λω=>[],hA,Step.refl _ _ _ _ _⟩ PassesOwn.leaving λe s' hT=>?_;have xn:∃h t,s'={s with heap:=h,toks:=t}:=by
   obtain⟨_,_,_,h₁,_,_,av,_⟩:=hT;refine jH av.same λh t e=>?_;obtain⟨ph,pg,pd,pt,po⟩:=s';simp only[Shared.mk.injEq]at e;refine Hq e λ_ e1 e2 _ e4=>?_;clear e;exact⟨ph,pt,by rw[e1,e2,e4]⟩
  refine qY (s₀:=s.heap) (sS:=S) (by rw[g9.kind];decide) g9.own ⟨l,hl⟩ hT mm du hk (λω=>rfl) (λa ha=>(b5 a ha).1) λh' hF=>?_;refine jH xn λh t e=>?_;clear xn;subst e;exact hR e h' t hF
theorem yl.JG{d:Stmt}(f:FnAt C.K fa d dflt){args:List PV}(ns:List Str)(va:Str)(hlen:ns.length=xs.length)(aG:(ns++[va]:List Str).Nodup)
  (cK:∀x∈(ns++[va]:List Str),(ae d).lookup x=some .local\/(ae d).lookup x=some .cell) (aF:ys.length<=lim)
  (e7:∀ (fd:FuncData) (vs us:List Rz),fd.params=jz d->fd.defaults=dflt->fd.kwdefaults= .none->vs.length=xs.length->bindArgs fd ⟨vs++us,[]⟩=(do let t ←newTuple us;pure (ns.zip vs++[(va,t)])))
  (walk:∀ (A:Sg) (env:Env) (o:iD) (s:Ro) (Q:Flow->Ro->Prop) (E:Rz->Ro->Prop),(∀x,env.kindOf x=(ae d).lookup x)->j1 A env->aB C A->aV C A env o (fG ns xs++[(va,some (0,.tuple ys))]) s->PassesOwn (RF C.prog C.w) A env E->
   (∀e s',yf C A env o cls args e s'->E (.ref e) s')->RM (RF C.prog C.w) A (execs (bh d) env) Q E s):yl C fa (xs++ys) cls args:=by
 refine yl.core f (fG ns xs++[(va,some (0,.tuple ys))]) (λfd A S s vs h1 h2 h3 B hS rv=>?_) walk;have IB:∃v1 v2,vs=v1++v2/\ab C.prog C.w S s.heap v1 xs/\ab C.prog C.w S s.heap v2 ys:=by
  refine⟨vs.take xs.length,vs.drop xs.length,(To _ _).symm,?_,?_⟩
  ·have:=rv.take xs.length;rwa[YN]at this
  ·have:=rv.drop xs.length;rwa[YO]at this
 refine aM IB λv1 v2 zr zw=>?_;clear IB;subst zr;refine oA zw λr1 r2=>?_;clear zw;have kz:=r1.length;have hz:(ns.zip v1++[(va,Value.ref s.heap.objs.size)]).map (·.1)=ns++[va]:=by rw[R9,hZ ns v1 (by rw[hlen,kz])];rfl
 have hT:(s.heap.push {cls:=.type "tuple",data:=.seq v2.toArray}).get? s.heap.objs.size=some (yO v2 0):=RL _ rfl;have kk:∀a b,s.heap.get? a=some b->(s.heap.push {cls:=.type "tuple",data:=.seq v2.toArray}).get? a=some b:=λa b e=>Ry _ e;refine⟨λa=>(S a/\(s.heap.get? a).isSome=true)\/a=s.heap.objs.size,ns.zip v1++[(va,.ref s.heap.objs.size)],s.heap.push {cls:=.type "tuple",data:=.seq v2.toArray},λQ E hq=>?_,kk,by rw[hz];exact aG,λx hx=>cK _ (by rw[<-hz];exact RE.mpr ⟨x,hx,rfl⟩),λa ha=>?_,λx n pv hl=>?_⟩
 ·rw[e7 fd v1 v2 h1 h2 h3 kz];refine Rp (XE ?_ ?_)
  ·exact RK (hq s.toks)
  ·rw[r2.length];unfold lim at aF;show _<=2^24;omega
 ·rcases ha with ha|rfl
  ·refine oE (Rv.mp ha.2) λb hb=>?_;exact⟨.inl ha.1,by rw[kk a b hb];rfl⟩
  ·exact⟨.inr bf,by rw[hT];rfl⟩
 ·rw[X4]at hl;cases hp:(fG ns xs).lookup x with
  |some q=>
   rw[hp]at hl;have hq:q=some (n,pv):=R7 hl;rw[hq]at hp;refine oA (gM ns xs v1 x n pv r1.there hp) λzr zw=>?_;subst zr;refine aD zw λv g1 g2=>?_;clear zw;exact⟨rfl,v,by simp[g1],g2.mono (λa ha=>.inl ha) λa b ω e=>kk a b e⟩
  |none=>
   rw[hp]at hl;simp only[Yj,RB,Yz]at hl;cases hb:x==va with
   |true=>
    rw[hb]at hl;cases hl;exact⟨rfl,_,by rw[beq_iff_eq.mp hb];simp,.tuple (.inr rfl) hT (r2.there.mono (λa ha=>.inl ha) λa b ω e=>kk a b e)⟩
   |false=>rw[hb]at hl;cases hl
section
variable{Γ:ag}{s:Ro}{Q:Flow->Ro->Prop}
theorem St.qS{cls newId initId:String}(F:ExcCallFacts cls newId initId)(G:ExcRaiseFacts cls){np pf pos:Pos}(hN:C.hd=false)(hr:aB C A)(hA:aV C A env o Γ s)(hx:Ev C env (cv Γ) (.Name x np) true (.raw (.type cls)))
  (ha:ba C env (cv Γ) args true xs) (aF:xs.length<=lim) (k:∀e s',yf C A env o (.type cls) xs e s'->E (.ref e) s')
  (aX:SF pf (RV args env)=[]\/∃x r,SF pf (RV args env)=(false,x)::r:=by first|exact .inr ⟨_,_,rfl⟩|exact .inl rfl) (cI:autoParam ((SF pf (RV args env)).any (·.1)=false) oA1._auto_1):
  RM (RF C.prog C.w) A (execs (.Raise (some (.Call (.Name x np) args [] pf)) none pos::rest) env) Q E s:=by
 obtain⟨S,fp,hA,av⟩:=hA;refine RI (wpAny_Raise_call F G (hr.1 hN) cI ?_);refine hx A S _ s _ E hr hA.here λv h1 t1 bQ rd=>⟨rd.aQ,?_⟩;refine c6 aX ?_;refine ha A S _ {s with heap:=h1,toks:=t1} pf _ E hr (hA.here.ext bQ) λvs h2 t2 c7 rv=>⟨rfl,?_,λh' e hm=>?_⟩
 ·show vs.length<=_;rw[rv.length];unfold lim at aF;show _<=2^24;omega
 ·refine gj (hA.grow av (bQ.trans c7) t2) λS' h3 h4 h5 h6=>?_;refine k e _ ⟨S',fp,Γ,h2,vs,h3,h4,?_,hm.of⟩;refine rv.there.mono (λa ha=>?_) λω ω ω e=>e;rcases ha.1 with g|g
  ·exact h5 a g
  ·exact h6 a (bQ.fresh hA.aq.ns g) ha.2
end
inductive CU(C:Cx)(A:Sg)(env:Env)(o:iD)(Γ:ag)(cls:Rz)(args:List PV)(e:RD)(s':Ro):Prop
 |mk (S:RD->Prop) (fp:Str->List RD) (h₁:Heap):At C A env S fp Γ h₁->Step A env o S fp {s' with heap:=h₁}->Flew C A (λω=>False) h₁ cls args e s'.heap->CU C A env o Γ cls args e s'
noncomputable def Bf(C:Cx)(env:Env)(Γ:ag)(e:Expr)(cls:Rz)(args:List PV):Prop:=
 ∀ (A:Sg) (o:iD) (s:Ro) (Q:Rz->Ro->Prop) (E:Rz->Ro->Prop),aB C A->aV C A env o Γ s->(∀e' s',CU C A env o Γ cls args e' s'->E (.ref e') s')->RM (RF C.prog C.w) A (eval e env) Q E s
section
variable{Γ:ag}{s:Ro}{Q:Flow->Ro->Prop}{S:RD->Prop}{fp:Str->List RD}
theorem Flew.fy{args:List PV}{e:RD}(x:Flew C A S h₀ cls args e h')(hi:∀a∈args,a.fy=true):Flew C A S' h₀ cls args e h':=by
 obtain⟨l,base,t,us,n,h1,h2,h3,h4,h5,h6,h7,h8⟩:=x.ex;exact⟨l,base,t,us,n,h1,h2,h3,h4,h5,h6,h7,h8.fy hi⟩
theorem Flew.cx{C':Cx}{args:List PV}{e:RD}(x:Flew C A S h₀ cls args e h')(hp:C'.prog=C.prog)(hw:C'.w=C.w):Flew C' A S h₀ cls args e h':=by
 obtain⟨l,base,t,us,n,h1,h2,h3,h4,h5,h6,h7,h8⟩:=x.ex;exact⟨l,base,t,us,n,h1,h2,h3,h4,h5,h6,h7,by rw[hp,hw];exact h8⟩
theorem At.gone(hA:At C A env S fp Γ h){n:Str}{m:Str->Option Rz}{v:Option Rz}(hn:h.Ns env.locals m)(oO:h₁.Ns env.locals (λx=>if x=n then v else m x))(hs:Ul env.locals h h₁):At C A env S fp ((n,none)::Γ) h₁:=by
 have hk:∀a b,¬(a=env.locals)->h.get? a=some b->h₁.get? a=some b:=λa b ha e=>(hs.2 a ha).trans e;have kc:∀x c,env.cells.lookup x=some c->∀u,h.IsCell c u->h₁.IsCell c u:=λx c hx u hu=>hu.sameBut hs (hA.aq.et x c hx);have live:∀a,(h.get? a).isSome=true->(h₁.get? a).isSome=true:=λa ha=>by
  refine oE (Rv.mp ha) λb hb=>?_;by_cases hl:a=env.locals
  ·subst hl;refine aP oO λob _ _ h1 _=>?_;clear oO;rw[h1];rfl
  ·rw[hk a b hl hb];rfl
 have nl:∀a,¬ax A env a->¬a=env.locals:=λa hf e=>hf (.inl (.inl e));refine{cx:=hA.cx,base:=hA.base.move (λa=>a=env.locals) hk λa ha=>by subst ha;exact⟨hA.aq.high,λo ho=>S8 _ (hA.aq.below _ o ho)⟩,aq:=?_,bE:=hA.bE.sk ⟨_,oO⟩ (.of_keep λa b ω hl e=>hk a b hl e),aO:=λa ha=>?_,cZ:=hA.cZ,c9:=hA.c9,fold:=λx a ha=>⟨live a (hA.fold x a ha).1,(hA.fold x a ha).2⟩,vars:=λx k pv hl=>?_}
 ·exact{kind:=hA.aq.kind,glob:=hA.aq.glob,gY:=hA.aq.gY,ns:=⟨_,oO⟩,cell:=λx hx=>(aM (hA.aq.cell x hx) λc u h1 h2=>⟨c,u,h1,kc x c h1 u h2⟩),call:=λx c hx=>(oE (hA.aq.call x c hx) λu h2=>⟨u,kc x c hx u h2⟩),apart:=hA.aq.apart,et:=hA.aq.et,below:=hA.aq.below,high:=hA.aq.high,dB:=hA.aq.dB}
 ·refine dd (hA.aO a ha) λh1 h2 h3=>?_;exact⟨live a h1,h2,h3⟩
 ·rw[RB]at hl;cases hb:x==n with
  |true=>rw[hb]at hl;cases hl
  |false=>
   rw[hb]at hl;have aX:x≠n:=by simpa using hb
   refine ei (hA.vars x k pv hl) λh0 u h1 h2=>?_;refine⟨h0,u,?_,h2.mono (λω z=>z) (λa b ha e=>hk a b (nl a (hA.aO a ha).2.1) e) λa ha b e=>hk a b (nl a (hA.fold x a ha).2.1) e⟩;rcases h1 with⟨g1,m2,g2,g3⟩|⟨g1,g0,c,g2,g3⟩
   ·refine .inl ⟨g1,_,oO,?_⟩;simp only[aX,if_false];rw[<-g2.agree hn x];exact g3
   ·exact .inr ⟨g1,g0,c,g2,kc x c g2 _ g3⟩
end
section
variable{Γ:ag}{s:Ro}{Q:Flow->Ro->Prop}{S:RD->Prop}{fp:Str->List RD}
theorem Step.ext'{t:Nat}{s₁:Ro}(av:Step A env o S fp {s₁ with heap:=h₁})(hn:∃m,h₁.Ns env.locals m)(ex:Ext A env h₁ h')(N:RD->Prop)(hN:∀a,N a->h₁.get? a=none):Step A env o (λa=>S a\/N a) fp {s₁ with heap:=h',toks:=t}:=
 av.trans ⟨⟨h',t,rfl⟩,λa ha=>.inl ha,λa ha=>ha.imp id λh=>.inr (hN a h),λy a ha=>.inl ⟨y,ha⟩,λa b hF ω ho=>ex.keep a b (λe=>hF (.inl e)) ho,λa ha=>ex.live hn ha,ex.fr⟩
theorem sQ{n:Str}{pos:Pos}{Q:Unit->Ro->Prop}(hl:env.kindOf n=some .local)(hA:At C A env S fp Γ s.heap)(av:Step A env o S fp s)
  (h:∀h' t,At C A env S fp ((n,none)::Γ) h'->Step A env o S fp {s with heap:=h',toks:=t}->(∀a b,S a->s.heap.get? a=some b->h'.get? a=some b)->Q () {s with heap:=h',toks:=t}):
  RM (RF C.prog C.w) A (do bindName env n .none;unbindBehindTheSuite env n pos) Q E s:=by
 refine oE hA.aq.ns λm hm=>?_;refine wpAny_nameGoes_keeps hl hm (by rw[hA.aq.kind];rfl) λh' v oO hs=>?_;have hk:∀a b,¬(a=env.locals)->s.heap.get? a=some b->h'.get? a=some b:=λa b ha e=>(hs.2 a ha).trans e;have nl:∀a,¬ax A env a->¬a=env.locals:=λa hf e=>hf (.inl (.inl e));refine h h' _ (hA.gone hm oO hs) (av.trans ⟨⟨h',_,rfl⟩,λω h=>h,λω h=>.inl h,λy a h=>.inl ⟨y,h⟩,λa b hF ω ho=>hk a b (nl a hF) ho,λa ha=>?_,.of_keep λa b ω hl ho=>hk a b hl ho⟩) λa b ha ho=>hk a b (nl a (hA.aO a ha).2.1) ho;refine oE (Rv.mp ha) λb hb=>?_;by_cases hl:a=env.locals
 ·subst hl;refine aP oO λob _ _ h1 _=>?_;clear oO;rw[h1];rfl
 ·rw[hk a b hl hb];rfl
theorem St.DX{X:String}{tn n:Str}{iI pos:Pos}{more:List ExceptHandler}{args:List PV}(hr:aB C A)(g9:j1 A env)
  (i5:∀ (Q':Flow->Ro->Prop) (E':Rz->Ro->Prop),(∀e s',CU C A env o Γ (.type X) args e s'->E' (.ref e) s')->RM (RF C.prog C.w) A (execs body env) Q' E' s)
  (hk:env.kindOf tn=some .globalImplicit) (hg:C.glob tn=none) (hb:bootBuiltins tn=some (.type T)) (hl:env.kindOf n=some .local)
  (zB:Ux (.type T) (.type "BaseException")=pure true) (Hb:Ux (.type ((V5 T).elim "type" λx=>x.metatype)) (.type "tuple")=pure false) (ml:Ux (.type X) (.type T)=pure true)
  (oz:∀ (e:RD) (s₁:Ro) (Q':Flow->Ro->Prop),aV C.kR (A.mark (some (.ref e))) env o ((n,some (0,.exc (.type X) args))::Γ) s₁->aB C.kR (A.mark (some (.ref e)))->
   (∀af s₂,aV C.kR (A.mark (some (.ref e))) env o af s₂->(∀cL,aV C A env o ((n,none)::af) cL->RM (RF C.prog C.w) A (execs rest env) Q E cL)->Q' .next s₂)->
   (∀ (W:Heap->Prop) v s₂ S fp af,At C.kR (A.mark (some (.ref e))) env S fp af s₂.heap->Step (A.mark (some (.ref e))) env o S fp s₂->(∀h',(∀a b,S a->s₂.heap.get? a=some b->h'.get? a=some b)->W h')->(∀cL Bl,At C A env S fp Bl cL.heap->Step A env o S fp cL->W cL.heap->Q (.ret v) cL)->Q' (.ret v) s₂)->
   RM (RF C.prog C.w) (A.mark (some (.ref e))) (execs (tb::l6) env) Q' (λω ω=>False) s₁)
  (sO:autoParam (tn≠"__name__") oA3._auto_1) (fe:autoParam (n≠"__classdict__") oA3._auto_1) (eg:autoParam (bk tn) oA1._auto_1):
  RM (RF C.prog C.w) A (execs (.Try body (.ExceptHandler (some (.Name tn tp)) (some n) (tb::l6) iI::more) orelse [] pos::rest) env) Q E s:=by
 refine RI (Xo (i5 _ _ λe s₁ hT=>?_));obtain⟨S,fp,h₁,hA,av,hF⟩:=hT;refine oE g9.fr λouter du=>?_;have kS:=hF.H7;obtain⟨l,base,t,us,k,vP,L7,Ox,Qs,MA,JB,OE,Ib⟩:=hF.ex;rw[du]at vP;cases vP;refine wpAny_looks_onW du g9.own L7 λha Ak F8=>?_;refine wpAny_landsW (s:={s₁ with heap:=ha}) Ak λiG i0 Ma=>?_;have tN:∀ {h':Heap},base.StaysIn h'->(∀a b,onStack A a->s₁.heap.get? a=some b->(∃es ep,b.data= .dict es ep)->∃sl,h'.get? a=some {b with slots:=sl})->dv A h₁ h':=λ{h'} k1 k2=>by
  refine⟨λa b hs hb=>k1 a b (Qs a b hs hb),λa b hs hb=>?_⟩;refine oE (MA a b hs hb) λsl h1=>?_;refine eQ (hA.bE.high hs) λ_ _ ob es ep h4 h5=>?_;rw[hb]at h4;cases h4;refine oE (k2 a _ hs h1 ⟨es,ep,h5⟩) λsI h2=>?_;exact⟨sI,h2⟩
 have jF:∀ {b:Obj},(∃es ep,b.data= .dict es ep)->∀vs,b.data≠.fields vs:=λ{b} ⟨es,ep,h⟩ vs q=>by rw[h]at q;cases q
 have IF:∀a b,onStack A a->s₁.heap.get? a=some b->(∃es ep,b.data= .dict es ep)->∃sl,iG.get? a=some {b with slots:=sl}:=λa b ω hb hd=>by
  refine oE (F8 a b hb (jF hd)) λsl h1=>?_;refine oE (Ma a _ h1 (jF hd)) λsI h2=>?_;exact⟨sI,h2⟩
 have k2:dv A h₁ iG:=tN i0.1 IF;have gH:=hA.ext (k2.ext (env:=env)) (λω=>False) λa ha=>ha.elim;refine wpAny_handleBy_builtin_as (b:=true) zB Hb ml ?_;refine Sz (bu (C:=C) gH.cx gH.base gH.aq hk (.inr ⟨hg,sO,hb⟩) ?_) eg;refine⟨rfl,i0.there,?_⟩;simp only[if_true];refine Yf (s:={s₁ with heap:=iG}) i0.1 i0.2.2.1 i0.2.2.2.at λh4 b1 b2 b3 b4=>?_;have k4:dv A h₁ h4:=tN b1 λa b hs hb hd=>by
  refine oE (IF a b hs hb hd) λsl h1=>?_;exact⟨sl,b4 a _ h1 (jF hd)⟩
 have Am:Ext A env h₁ h4:=k4.ext
 let N:RD->Prop:=λa=>h₁.get? a=none/\(h4.get? a).isSome=true
 have pK:=hA.ext Am N λa ha=>ha;have xD:=Step.ext' (t:=s₁.toks) av hA.aq.ns Am N λa ha=>ha.1;refine xy b3 λoe vs T' oT ts g1 OK g4 _=>?_;clear b3;obtain⟨g2,g3⟩:=OK;have NY:=b1 t _ Ox;have LX:Rd C.prog C.w (λa=>S a\/N a) h4 (.ref e) (.exc (.type X) args):=
  .exc (.inr ⟨JB,by rw[g1];rfl⟩) g1 g2 g4 g3 (.inr ⟨OE,by rw[NY];rfl⟩) NY (Ib.there.mono (λa ha=>.inr ⟨ha.1.elim Zp id,by
   refine oE (Rv.mp ha.2) λb hb=>?_;rw[b1 a b hb];rfl⟩) λa b ω hb=>b1 a b hb)
 refine iZ (C:=C.kR) (A:=A.mark (some (.ref e))) (s:={s₁ with heap:=h4}) (o:=o) (.inl hl) fe pK.kR xD.mark LX λh5 t5 m9=>?_;refine Sf (oz e _ (λf jP=>RM (RF C.prog C.w) A (do bindName env n .none;unbindBehindTheSuite env n iI) (λω mj=>F2 C A env rest Q E f mj) E jP) m9 hr.kR (λaf s₂ bF kn=>?_) λW v s₂ S' ed af h1 h2 w kn=>sQ hl h1.xY h2.unmark λh' t rZ y9 Pp=>kn _ _ rZ y9 (w h' Pp)) (λf jP h=>?_) λω ω h=>h.elim
 ·obtain⟨S',ed,h1,h2⟩:=bF;exact sQ hl h1.xY h2.unmark λh' t rZ y9 ω=>kn _ ⟨S',ed,rZ,y9⟩
 ·exact Sf h (λω mj h'=>by cases f<;>exact h') λω ω h'=>h'
end
theorem Rd.xr{S:RD->Prop}{args:List PV}{prog:Sw}{w:TG}(r:Rd prog w S h v (.exc cls args)):
  ∃a t oe vs us n,v= .ref a/\S a/\h.get? a=some oe/\oe.cls=cls/\oe.data= .fields vs/\vs[0]?=some (.ref t)/\S t/\h.get? t=some (yO us n)/\ab prog w S h us args:=r.view
theorem Ev.AW{X:String}{args:List PV}{pos:Pos}(FX:ExcAttrFacts X)(he:Ev C env Γ e md (.exc (.type X) args))
  (lI:autoParam (∀env,eval (.Attribute e "args" pos) env=(do
   let o ←eval e env
   standAt pos.atName
   let r ←holding [o] (getAttr o "args" true)
   letTemporaryGo e o r
   pure r)) oA6._auto_1):Ev C env Γ (.Attribute e "args" pos) md (.tuple args):=λA S U s Q E hr hh hq=>by
 refine TV ?_ (lI env);refine he A S U s _ E hr hh λv h' t' ex rd=>?_;refine ua rd.xr λa t oe vs us n zr zw=>?_;subst zr;refine td zw λha ho hc hd h0 ht Dx ra=>?_;clear zw;exact args_attr FX ho hc hd h0 (hq _ h' _ ex (.tuple ht Dx ra))
theorem a7.y8{X:String}{args:List PV}(hX:autoParam ((Value.type X==Value.type "builtin_function_or_method")=false) oA3._auto_1):a7 C env Γ (.type "type") m1 [.exc (.type X) args] md (.raw (.type X)):=
 ⟨.inl ⟨_,rfl⟩,λA S U s h₀ vs Q E hr hh e bR rv hq=>by
  refine aD rv.dq λv zr r=>?_;subst zr;refine ua r.xr λa t oe vs us n zr zw=>?_;subst zr;refine td zw λha ho hc hd h0 ht Dx ra=>?_;clear zw;exact call_type_of (Tx:=X) ⟨oe,ho,hc⟩ hX (hq _ s.heap _ (.refl _ _ _) (.raw _))⟩
noncomputable def Key.repr:Key->Str
 | .int i=>So (toString i)
 | .str x=>TL x
noncomputable def Key.small:Key->Prop
 | .int i=>i.natAbs.log2<1920
 | .str x=>(TL x).length<=2^20
theorem Key.repr_len{k:Key}(h:k.small):k.repr.length<=2^20:=by
 cases k with
 |int i=>
  have:=int_text_len_1921 (i:=i) h;exact Rk this (by decide)
 |str x=>exact h
theorem Ev.lB{k:Key}(h:Ev C env Γ e m1 k.pv)(hk:k.small):Ev C env Γ (.FormattedValue e 114 none p) md (.str k.repr):=by
 cases k with
 |int i=>exact Ev.xT h hk
 |str x=>exact Ev.x6 h (Rk hk (by decide))
noncomputable def AS.cn(a:AS)(k:Key):Option Str:=
 match a.aI with
 |none=>some "prepare() must be called first"
 |some _=>match a.find k with
  |none=>some ("node " ++k.repr++ " was not added using add()")
  |some x=>if 0<=x.np then some ("node " ++k.repr++ " was not passed out (still not ready)")else if x.np= -2 then some ("node " ++k.repr++ " was already marked done")else none
theorem Ev.sY{mo:Bool}{i:Expr}{k:Key}{pos:Pos}(hx:Γ.lookup x=some (some (nx,.aK X)))(bS:aA (env.kindOf x)=true)(cY:Rt<X.n2)(he:Ev C env Γ e m2 (.raw (.ref X.n2)))(hi:Ev C env Γ i m3 k.pv)(hf:X.find k=none)
  (aJ:autoParam (fH e "get") oA2._auto_1)
  (cy:autoParam (∀env,dD pos env [i]) oA2._auto_1)
  (aW:autoParam ((apos.endLine==pos.line)=true) oA1._auto_1) (bg:autoParam (treeE i pos) oA2._auto_1):
  Ev C env Γ (.Call (.Attribute e "get" apos) [i] [] pos) mo .none:=by
 have:=Ev.vW (mo:=mo) hx bS cY he hi aJ cy aW bg;rw[hf]at this;exact this
theorem Co(T:TopK C)(hN:C.hd=false)(T0:aa)(key:Key)(hk:key.small){msg:Str}(qG:T0.abs.cn key=some msg):yl C 120 [.aK T0,key.pv] (.type "ValueError") [.str msg]:=by
 have my:(ae (cC 7)).lookup sf=some .local:=by rfl
 have IC:(ae (cC 7)).lookup ("nodes":Str)=some .local:=by rfl
 have Bh:(ae (cC 7)).lookup ("n2i":Str)=some .local:=by rfl
 have kn:(ae (cC 7)).lookup ("node":Str)=some .local:=by rfl
 have ki:(ae (cC 7)).lookup ("nodeinfo":Str)=some .local:=by rfl
 have Fm:(ae (cC 7)).lookup ("stat":Str)=some .local:=by rfl
 have ko:(ae (cC 7)).lookup ("_NODE_OUT":Str)=some .globalImplicit:=by rfl
 have kd:(ae (cC 7)).lookup ("_NODE_DONE":Str)=some .globalImplicit:=by rfl
 have kv:(ae (cC 7)).lookup ("ValueError":Str)=some .globalImplicit:=by rfl
 refine oE T.z6 λG0 hOut=>?_;refine oE T.wu λH9 y7=>?_;have l9:=Key.repr_len hk;have uf:("node ":Str).length+key.repr.length+(" was not added using add()":Str).length<=2^24:=by
  have h1:("node ":Str).length=5:=by rfl
  have h2:(" was not added using add()":Str).length=26:=by rfl
  rw[h1,h2];omega
 have Ht:("node ":Str).length+key.repr.length+(" was not passed out (still not ready)":Str).length<=2^24:=by
  have h1:("node ":Str).length=5:=by rfl
  have h2:(" was not passed out (still not ready)":Str).length=37:=by rfl
  rw[h1,h2];omega
 have z4:("node ":Str).length+key.repr.length+(" was already marked done":Str).length<=2^24:=by
  have h1:("node ":Str).length=5:=by rfl
  have h2:(" was already marked done":Str).length=24:=by rfl
  rw[h1,h2];omega
 have:=yl.JG (C:=C) T.BK (xs:=[.aK T0]) (ys:=[key.pv]) (cls:=.type "ValueError") (args:=[.str msg]) [sf] "nodes" rfl (by decide) (λx hx=>?_) (by show 1<=lim;decide) (λfd vs us h1 h2 h3 h4=>?_) λA env o s Q E eJ rV hr hA IM hE=>?_
 ·exact this
 ·simp only[Rr,RN,or_false,UT,UB]at hx;rcases hx with rfl|rfl
  ·exact .inl my
  ·exact .inl IC
 ·refine oE (gn h4) λv zr=>?_;subst zr
  ·cases us with
   |nil=>unfold bindArgs;rw[h1,h2];rfl
   |cons u0 us=>unfold bindArgs;rw[h1,h2];rfl
 ·have v1:∀x,(ae (cC 7)).lookup x=some .local->aA (env.kindOf x)=true:=λx hx=>by rw[eJ,hx];rfl
  have v2:∀x,(ae (cC 7)).lookup x=some .local->(env.kindOf x=some .local\/env.kindOf x=some .cell):=λx hx=>.inl (by rw[eJ,hx]);have sv:∀ (i:Nat) (nm:Str) (p pos:Pos),aU[i]?=some nm->∀Γ:ag,Γ.lookup sf=some (some (0,.aK T0))->Ev C env (cv Γ) (.Attribute (.Name sf p) nm pos) true (eK T0 i):=λi nm p pos h Γ hl=>Ev.kJ (C:=C) (i:=i) (St:=T0) (md:=true) T.sk (Ev.name (bb hl) (v1 _ my)) h;have eV:∀ (Γ:ag) (p:Pos),Ev C env (cv Γ) (.Name "ValueError" p) true (.raw (.type "ValueError")):=λΓ p=>Ev.builtin (by rw[eJ,kv]) (T.none (x:="ValueError") (by decide)) (by decide +kernel);cases oP:T0.aI with
  |none=>
   have hm:msg= "prepare() must be called first":=by
    unfold AS.cn at qG;have:T0.abs.aI=none:=by unfold aa.abs;rw[oP];rfl
    rw[this]at qG;exact(R7 qG).symm
   subst hm;refine St.ite (b:=true) hr hA (cX.cmp (y:=.none) (m2:=true) (sv 1 _ _ _ rfl _ rfl) Ev.By (by
    have e:eK T0 1= .none:=by show(match T0.aI with|none=>PV.none|some r=>_)=_;rw[oP]
    rw[e];exact cw.is_none rfl)) λs1 gX=>?_
   exact St.qS Uz Ut hN hr gX (eV _ _) (ba.cons Ev.str ba.nil) (by decide) λe s' hT=>hE e s' hT
  |some r=>
   have er:eK T0 1= .list (Key.cV r.2):=by show(match T0.aI with|none=>PV.none|some r=>_)=_;rw[oP]
   have GH:T0.abs.aI=some r.2:=by unfold aa.abs;rw[oP];rfl
   refine St.ite (b:=false) hr hA (cX.cmp (y:=.none) (m2:=true) (sv 1 _ _ _ rfl _ rfl) Ev.By (by
    rw[er];exact cw.is_none rfl)) λs1 gX=>?_
   refine St.nil ?_;have cY:Rt<T0.n2:=by
    obtain⟨S,fp,bF,_⟩:=gX;refine bM (bF.here.aK (x:=sf) (nx:=0) (St:=T0) rfl (v1 _ my)) λa _ _ hs=>?_;exact hs.lo
   refine St.assign (n:=0) (pv:=.raw (.ref T0.n2)) hr gX (dr.b9 (sv 0 _ _ _ rfl _ rfl)) (v2 _ Bh) λs3 jv=>?_;refine St.uR (C:=C) hr jv (dw.tuple (xs:=[key.pv]) (Ev.name rfl (v1 _ IC)) (by show 1<=lim;decide))
    (λi aE=>i=0/\aE.lookup sf=some (some (0,.aK T0))/\aE.lookup ("n2i":Str)=some (some (0,.raw (.ref T0.n2))))
    (λi x aE=>("node",some (0,x))::aE) ⟨rfl,rfl,rfl⟩ (λi x aE hx hi=>dI.name (v2 _ kn)) (λi x aE hx hi o' s' Q' E' OZ O3 bF hn ω ω=>?_) λs' af hi bF=>?_
   ·refine oA hi λzr zw=>?_;clear hi;subst zr;refine oA zw λl1 l3=>?_;clear zw;have rU:x=key.pv:=by simpa using hx.symm
    subst rU;have L3:∀e cP,yf C A env o' (.type "ValueError") [.str msg] e cP->E' (.ref e) cP:=λe cP hT=>by
     refine OZ IM (.ref e) cP (hE e cP ?_);obtain⟨S,fp,Bp,h1,us,g1,g2,g3,g4⟩:=hT;exact⟨S,fp,Bp,h1,us,g1,O3 _ _ _ g2,g3,g4⟩
    cases hf:T0.find key with
    |none=>
     have hm:msg= "node " ++key.repr++ " was not added using add()":=by
      unfold AS.cn at qG;rw[GH,dM,hf]at qG;exact(R7 qG).symm
     subst hm;refine St.iu (C:=C) (pv:=.none) true hr bF (Ev.sY (C:=C) (X:=T0) (x:=sf) (k:=key) (bb (ai rfl l1)) (v1 _ my) cY (Ev.name (md:=true) (bb (ai rfl l3)) (v1 _ Bh)) (Ev.name (md:=true) (x:=("node":Str)) rfl (v1 _ kn)) hf) (.inl ⟨rfl,rfl⟩) (v2 _ ki) λs4 pK=>?_;exact St.qS Uz Ut hN hr pK (eV _ _) (ba.cons (Ev.z5 Ev.str (Ev.lB (Ev.name (md:=true) rfl (v1 _ kn)) hk) Ev.str uf) ba.nil) (by show 1<=lim;decide) λe s' hT=>L3 e s' hT
    |some nd=>
     refine oA (cT hf) λhm A9=>?_;refine St.iu (C:=C) (pv:=.raw (.ref nd.loc)) false hr bF (Ev.lU (C:=C) (X:=T0) (x:=sf) (k:=key) (bb (ai rfl l1)) (v1 _ my) cY (Ev.name (md:=true) (bb (ai rfl l3)) (v1 _ Bh)) (Ev.name (md:=true) (x:=("node":Str)) rfl (v1 _ kn)) hf) (.inr ⟨_,rfl,rfl⟩) (v2 _ ki) λs4 pK=>?_;refine St.nil ?_;have hw:(if 0<=nd.np then some ("node " ++key.repr++ " was not passed out (still not ready)")else if nd.np= -2 then some ("node " ++key.repr++ " was already marked done")else none)=some msg:=by
      unfold AS.cn at qG;rw[GH,dM,hf]at qG;exact qG
     have uP:jI nd 1= .int nd.np:=rfl;have l4:(("nodeinfo",some (0,PV.raw (Value.ref nd.loc)))::("node",some (0,key.pv))::aE:ag).lookup sf=some (some (0,.aK T0)):=ai rfl (ai rfl l1);refine St.assign (n:=0) (pv:=.int nd.np) hr pK (dr.b9 (by
      rw[<-uP];exact Ev.Ac (C:=C) (md:=true) (x:=sf) (St:=T0) (nd:=nd) (i:=1) (m2:=true) T.sk (bb l4) (v1 _ my) hm (Ev.name (md:=true) rfl (v1 _ ki)) (by decide))) (v2 _ Fm) λs5 m9=>?_
     have aX:(nd.np != -1)=true:=by
      by_cases h:0<=nd.np
      ·simp;omega
      ·rw[if_neg h]at hw;by_cases h2:nd.np= -2
       ·rw[h2];rfl
       ·rw[if_neg h2]at hw;cases hw
     refine St.ite (C:=C) (b:=nd.np != -1) hr m9 (cX.cmp (m1:=true) (m2:=true) (x:=.int nd.np) (y:=.int (-1)) (Ev.name (md:=true) rfl (v1 _ Fm)) (Ev.zN (by rw[eJ,ko]) hOut) cw.ne_int) λs6 rZ=>?_;rw[aX];simp only[if_true];refine St.ite (C:=C) (b:=decide (0<=nd.np)) hr rZ (cX.cmp (m1:=true) (m2:=true) (x:=.int nd.np) (y:=.int 0) (Ev.name (md:=true) rfl (v1 _ Fm)) Ev.int cw.ge_int) λs7 Dr=>?_;by_cases h:0<=nd.np
     ·rw[if_pos h]at hw;have iA:=(R7 hw).symm;subst iA;simp only[h,decide_true,if_true];exact St.qS Uz Ut hN hr Dr (eV _ _) (ba.cons (Ev.z5 Ev.str (Ev.lB (Ev.name (md:=true) rfl (v1 _ kn)) hk) Ev.str Ht) ba.nil) (by show 1<=lim;decide) λe s' hT=>L3 e s' hT
     ·rw[if_neg h]at hw;by_cases h2:nd.np= -2
      ·rw[if_pos h2]at hw;have iA:=(R7 hw).symm;subst iA;simp only[h,decide_false,Sx,if_false];refine St.ite (C:=C) (b:=nd.np== -2) hr Dr (cX.cmp (m1:=true) (m2:=true) (x:=.int nd.np) (y:=.int (-2)) (Ev.name (md:=true) rfl (v1 _ Fm)) (Ev.zN (by rw[eJ,kd]) y7) cw.eq_int) λs8 IX=>?_;have:(nd.np== -2)=true:=by simpa using h2
       rw[this];simp only[if_true];exact St.qS Uz Ut hN hr IX (eV _ _) (ba.cons (Ev.z5 Ev.str (Ev.lB (Ev.name (md:=true) rfl (v1 _ kn)) hk) Ev.str z4) ba.nil) (by show 1<=lim;decide) λe s' hT=>L3 e s' hT
      ·rw[if_neg h2]at hw;cases hw
   ·refine oA hi λh _=>?_;clear hi;cases h
inductive cM where
 |next|brk|cont|ret (pv:PV)|d' (xs:List PV)
variable{P:cM->ag->Prop}
inductive xC(C:Cx)(A:Sg)(env:Env)(o:iD)(Γ:ag)(pv:PV)(v:Rz)(s:Ro):Prop
 |mk (S:RD->Prop) (fp:Str->List RD):At C A env S fp Γ s.heap->Step A env o S fp s->Rd C.prog C.w S s.heap v pv->xC C A env o Γ pv v s
inductive xS(C:Cx)(A:Sg)(env:Env)(o:iD)(Γ:ag)(xs:List PV)(v:Rz)(s:Ro):Prop
 |mk (S:RD->Prop) (fp:Str->List RD) (a:RD) (vs:List Rz) (n:Nat):At C A env S fp Γ s.heap->Step A env o S fp s->v= .ref a->o.s.heap.get? a=none->Rt<a->s.heap.get? a=some (gN vs n)->ab C.prog C.w (λω=>False) s.heap vs xs->S a->xS C A env o Γ xs v s
theorem xC.trans{Γ:ag}{S:RD->Prop}{fp:Str->List RD}{s:Ro}{pv:PV}(x:xC C A env ⟨S,fp,s⟩ Γ pv v s')(av:Step A env o S fp s):xC C A env o Γ pv v s':=
 x.casesOn λS' ed h1 h2 h3=>⟨S',ed,h1,av.trans h2,h3⟩
theorem xS.trans{Γ:ag}{S:RD->Prop}{fp:Str->List RD}{s:Ro}(x:xS C A env ⟨S,fp,s⟩ Γ xs v s')(av:Step A env o S fp s):xS C A env o Γ xs v s':=by
 obtain⟨S',ed,a,vs,n,h1,h2,h3,h4,h5,h6,h7,h8⟩:=x;exact⟨S',ed,a,vs,n,h1,av.trans h2,h3,av.fresh h4,h5,h6,h7,h8⟩
structure Ends(C:Cx)(A:Sg)(env:Env)(o:iD)(P:cM->ag->Prop)(Q:Flow->Ro->Prop):Prop where
 next:∀s' af,P .next af->aV C A env o af s'->Q .next s'
 brk:∀s' af,P .brk af->aV C A env o af s'->Q .brk s'
 cont:∀s' af,P .cont af->aV C A env o af s'->Q .cont s'
 ret:∀v s' pv af,P (.ret pv) af->xC C A env o af pv v s'->Q (.ret v) s'
 d':∀v s' xs af,P (.d' xs) af->xS C A env o af xs v s'->Q (.ret v) s'
noncomputable def ak(C:Cx)(env:Env)(Γ:ag)(ss:List Stmt)(P:cM->ag->Prop):Prop:=
 ∀ (A:Sg) (o:iD) (s:Ro) (Q:Flow->Ro->Prop) (E:Rz->Ro->Prop),aB C A->j1 A env->aV C A env o Γ s->Ends C A env o P Q->RM (RF C.prog C.w) A (execs ss env) Q E s
noncomputable def B0(C:Cx)(env:Env)(rest:List Stmt)(P:cM->ag->Prop):cM->ag->Prop
 | .next,Γ=>ak C env Γ rest P
 |f,Γ=>P f Γ
section
variable{Γ:ag}{ss:List Stmt}
theorem Ends.B0{Q:Flow->Ro->Prop}(hr:aB C A)(ht:j1 A env)(h:Ends C A env o P Q):Ends C A env o (B0 C env rest P) (F2 C A env rest Q E)where
 next:=λs' af hB hA=>hB A o s' Q E hr ht hA h
 brk:=λs' af hp hA=>h.brk s' af hp hA
 cont:=λs' af hp hA=>h.cont s' af hp hA
 ret:=λv s' pv af hp hR=>h.ret v s' pv af hp hR
 d':=λv s' xs af hp hR=>h.d' v s' xs af hp hR
theorem ak.weak{af:ag}(h:ak C env af ss P)(hs:dY af Γ):ak C env Γ ss P:=λA o s Q E hr ht hA he=>h A o s Q E hr ht (hA.weak hs) he
theorem ak.freeze{n:Nat}{pv:PV}(hx:Γ.lookup x=some (some (n,pv)))(h:ak C env ((x,some (0,pv))::Γ) ss P):ak C env Γ ss P:=λA o s Q E hr ht hA he=>h A o s Q E hr ht (hA.freeze hx) he
theorem ak.nil(h:P .next Γ):ak C env Γ [] P:=λA o s Q E hr ht hA he=>St.nil (he.next s Γ h hA)
theorem ak.brk{pos:Pos}(h:P .brk Γ):ak C env Γ (.Break pos::rest) P:=λA o s Q E hr ht hA he=>St.brk (he.brk s Γ h hA)
theorem ak.assign{pos:Pos}{n:Nat}{pv:PV}(hE:dr C env (cv Γ) e n pv)(hk:env.kindOf x=some .local\/env.kindOf x=some .cell)
  (k:ak C env ((x,some (n,pv))::Γ) rest P) (fe:autoParam (x≠"__classdict__") oA3._auto_1) (hs:autoParam (SR e (some (.Name x px)) pos.line env=pure false) oA1._auto_1):
  ak C env Γ (.Assign [.Name x px] e pos::rest) P:=λA o s Q E hr ht hA he=>St.assign hr hA hE hk (λs' bF=>k A o s' Q E hr ht bF he) fe hs
theorem ak.cE{px pos:Pos}{out:List PV}(hE:jl C env (cv Γ) e dp out)(hk:env.kindOf x=some .local\/env.kindOf x=some .cell)
  (k:ak C env ((x,some (dp+1,.list out))::Γ) rest P) (fe:autoParam (x≠"__classdict__") oA3._auto_1):
  ak C env Γ (.Assign [.Name x px] e pos::rest) P:=λA o s Q E hr ht hA he=>St.cE hr hA hE hk (λs' bF=>k A o s' Q E hr ht bF he) fe
theorem ak.gR{y:Str}{py pos:Pos}{R:ag->PV->Prop}(hE:fL C env Γ e R)(hk:env.kindOf y=some .local\/env.kindOf y=some .cell)
  (k:∀af pv,R af pv->ak C env ((y,some (0,pv))::af) rest P) (fe:autoParam (y≠"__classdict__") oA3._auto_1) (hs:autoParam (SR e (some (.Name y py)) pos.line env=pure false) oA1._auto_1):
  ak C env Γ (.Assign [.Name y py] e pos::rest) P:=λA o s Q E hr ht hA he=>St.gR hr hA hE hk (λs' af pv hp bF=>k af pv hp A o s' Q E hr ht bF he) fe hs
theorem ak.pC{pos:Pos}{R:ag->PV->Prop}(hE:fL C env Γ e R)(k:∀af pv,R af pv->ak C env af rest P)(hi:interactive env=false)(hs:autoParam (SR e none pos.line env=pure false) oA1._auto_1):
  ak C env Γ (.Expr e pos::rest) P:=λA o s Q E hr ht hA he=>St.pC hr hA hE (λs' af pv hp bF=>k af pv hp A o s' Q E hr ht bF he) hi hs
theorem ak.ite{pos:Pos}{b:Bool}(hB:cX C env (cv Γ) test b)(k:ak C env Γ (if b then body else orelse) (B0 C env rest P)):
  ak C env Γ (.If test body orelse pos::rest) P:=λA o s Q E hr ht hA he=>St.ite hr hA hB λs' bF=>k A o s' _ _ hr ht bF (he.B0 hr ht)
theorem ak.ret{pos:Pos}{pv:PV}(hE:Ev C env (cv Γ) e true pv)(k:P (.ret pv) Γ):ak C env Γ (.Return (some e) pos::rest) P:=λA o s Q E hr ht hA he=>by
 refine RI (W9 ?_);obtain⟨S,fp,hA,av⟩:=hA;refine hE A S _ s _ E hr hA.here λv h' t' ex rd=>?_;refine gj (hA.grow av ex t') λS' h1 h2 h3 h4=>?_;exact he.ret v _ pv Γ k ⟨S',fp,h1,h2,Rd.grow rd h3 h4⟩
theorem ak.qL{i:Expr}{p pos:Pos}{upd:PV->PV}{y z:Int}{j:Int}(hF:sW C env Γ oe x d9 (.list ys) upd)(hi:Ev C env (cv Γ) i true (.int j))(hE:Ev C env (cv Γ) e true (.int y))
  (h0:0<=j) (hz:ys[j.toNat]?=some (.int z)) (aF:ys.length<=lim) (k:ak C env ((x,some (d9,upd (.list (ys.set j.toNat (.int (z+y))))))::Γ) rest P)
  (ha:autoParam (∀ov iv new,augStore i ov iv new=(do holding [new,ov,iv] (setItem ov iv new);release [new,ov,iv] [];pure .next)) oA11._auto_1):
  ak C env Γ (.AugAssign (.Subscript oe i p) .Add e pos::rest) P:=λA o s Q E hr ht hA he=>St.qL hr hA hF hi hE h0 hz aF (λs' bF=>k A o s' Q E hr ht bF he) ha
theorem ak.append{pos:Pos}{upd:PV->PV}(hF:sW C env Γ e x d9 (.list ys) upd)(hE:Ev C env (cv Γ) arg true y)(aF:ys.length<=lim)(hi:interactive env=false)
  (k:ak C env ((x,some (d9,upd (.list (ys++[y]))))::Γ) rest P)
  (aJ:autoParam (TS e "append" env (eval e env)=eval e env) oA1._auto_1)
  (cy:autoParam (dD pos env [arg]) oA1._auto_1)
  (aW:autoParam ((apos.endLine==pos.line)=true) oA1._auto_1) (bg:autoParam (SF pos (RV [arg] env)=[(false,eval arg env)]) oA1._auto_1)
  (hs:autoParam (SR (.Call (.Attribute e "append" apos) [arg] [] pos) none fq.line env=pure false) oA1._auto_1):
  ak C env Γ (.Expr (.Call (.Attribute e "append" apos) [arg] [] pos) fq::rest) P:=λA o s Q E hr ht hA he=>St.append hr hA hF hE aF (λs' bF=>k A o s' Q E hr ht bF he) aJ cy aW bg hi hs
theorem ak.extend{pos:Pos}{zs:List PV}{upd:PV->PV}(hF:sW C env Γ e x d9 (.list ys) upd)(hE:Ev C env (cv Γ) arg true (.list zs))(aF:ys.length+zs.length<=lim)(hi:interactive env=false)
  (k:ak C env ((x,some (d9,upd (.list (ys++zs))))::Γ) rest P)
  (aJ:autoParam (TS e "extend" env (eval e env)=eval e env) oA1._auto_1)
  (cy:autoParam (dD pos env [arg]) oA1._auto_1)
  (aW:autoParam ((apos.endLine==pos.line)=true) oA1._auto_1) (bg:autoParam (SF pos (RV [arg] env)=[(false,eval arg env)]) oA1._auto_1)
  (hs:autoParam (SR (.Call (.Attribute e "extend" apos) [arg] [] pos) none fq.line env=pure false) oA1._auto_1):
  ak C env Γ (.Expr (.Call (.Attribute e "extend" apos) [arg] [] pos) fq::rest) P:=λA o s Q E hr ht hA he=>St.extend hr hA hF hE aF (λs' bF=>k A o s' Q E hr ht bF he) aJ cy aW bg hi hs
theorem ak.B1{i:Expr}{pos:Pos}{m:Nat}{k:Key}(hx:Γ.lookup x=some (some (m+1,.dict kvs)))(hE:dr C env (cv Γ) e m y)(hi:Ev C env (cv Γ) i true k.pv)
  (hnew:∀kv∈kvs,kv.1≠k) (aF:kvs.length<=lim) (kk:ak C env ((x,some (m+1,.dict (kvs++[(k,y)])))::Γ) rest P)
  (hs:autoParam (SR e (some (.Subscript (.Name x px) i p)) pos.line env=pure false) oA1._auto_1) (hd:autoParam (bk x) oA1._auto_1):
  ak C env Γ (.Assign [.Subscript (.Name x px) i p] e pos::rest) P:=λA o s Q E hr ht hA he=>St.B1 hr hA hx hE hi hnew aF (λs' bF=>kk A o s' Q E hr ht bF he) hs hd
theorem ak.d'{pos:Pos}(hE:bI C env (cv Γ) e md xs)(hi:∀x∈xs,x.fy=true)(k:P (.d' xs) Γ):ak C env Γ (.Return (some e) pos::rest) P:=λA o s Q E hr ht hA he=>by
 refine RI (W9 ?_);obtain⟨S,fp,hA,av⟩:=hA;refine hE A S _ s _ E hr hA.here λa vs n h' t' ex ha cY eh ra=>?_;refine gj (hA.grow av ex t') λS' h1 h2 h3 h4=>?_;exact he.d' _ _ xs Γ k ⟨S',fp,a,vs,n,h1,h2,rfl,(by
  cases hq:o.s.heap.get? a with
  |none=>rfl
  |some b=>have:=av.live a (by rw[hq];rfl);rw[ha]at this;cases this),cY,eh,ab.fy hi ra,h4 a ha (by rw[eh];rfl)⟩
noncomputable def DB(C:Cx)(env:Env)(rest:List Stmt)(P:cM->ag->Prop)(I:ag->Prop):cM->ag->Prop
 | .next,Γ=>I Γ
 | .cont,Γ=>I Γ
 | .brk,Γ=>ak C env Γ rest P
 | .ret pv,Γ=>P (.ret pv) Γ
 | .d' xs,Γ=>P (.d' xs) Γ
theorem ak.uR{it:Expr}{pos:Pos}(hI:dw C env (cv Γ) it true xs)(inv:Nat->ag->Prop)(tg:Nat->PV->ag->ag)(h0:inv 0 Γ)
  (uO:∀ (i:Nat) (x:PV) aE,xs[i]?=some x->inv i aE->dI C env aE target x (tg i x aE))
  (step:∀ (i:Nat) (x:PV) aE,xs[i]?=some x->inv i aE->ak C env (tg i x aE) body (DB C env rest P (inv (i+1))))
  (k:∀af,inv xs.length af->ak C env af rest P)
  (hs:autoParam (∀x,R8 it env x=pure x) oA2._auto_1):
  ak C env Γ (.For target it body [] pos::rest) P:=λA o s Q E hr ht hA he=>by
 refine Ts.St.uR (hs:=hs) hr hA hI inv tg h0 uO (λi x aE hx hi o' s' Q' E' ω Py bF hn hb hv=>?_) λs' af hi bF=>Ts.St.nil (k _ hi A o _ Q E hr ht bF he);have h0:Step A env o o'.S o'.fp o'.s:=Py _ _ _ (Step.refl A env o'.S o'.fp o'.s);exact step i x aE hx hi A o' s' Q' E' hr ht bF ⟨λcP af hp jL=>(hn af cP hp jL).1,λcP af hp jL=>hb cP (hp A o cP Q E hr ht (aV.trans (o':=o') (S:=o'.S) (fp:=o'.fp) (s:=o'.s) jL h0) he),λcP af hp jL=>(hn af cP hp jL).2,
  λv cP pv af hp hR=>hv v cP (he.ret v cP pv af hp (xC.trans (S:=o'.S) (fp:=o'.fp) (s:=o'.s) hR h0)),λv cP pv af hp hR=>hv v cP (he.d' v cP pv af hp (xS.trans (S:=o'.S) (fp:=o'.fp) (s:=o'.s) hR h0))⟩
theorem ak.nU{it:Expr}{pos:Pos}{L:List α}{g:α->PV}(hI:dw C env (cv Γ) it true (L.map g))(inv:Nat->ag->Prop)(tg:α->ag->ag)(h0:inv 0 Γ)
  (uO:∀ (a:α) aE,a∈L->dI C env aE target (g a) (tg a aE))
  (step:∀ (i:Nat) (a:α) aE,L[i]?=some a->inv i aE->ak C env (tg a aE) body (DB C env rest P (inv (i+1))))
  (k:∀af,inv L.length af->ak C env af rest P)
  (hs:autoParam (∀x,R8 it env x=pure x) oA2._auto_1):
  ak C env Γ (.For target it body [] pos::rest) P:=by
 classical
 have get:∀ {i:Nat} {x:PV},(L.map g)[i]?=some x->∃a,L[i]?=some a/\g a=x:=λ{i x} hx=>by
  rw[RZ]at hx;cases h:L[i]? with
  |none=>rw[h]at hx;cases hx
  |some a=>rw[h]at hx;exact⟨a,rfl,R7 hx⟩
 refine ak.uR hI inv (λi x aE=>match L[i]? with|some a=>tg a aE|none=>aE) h0 (λi x aE hx ω=>?_) (λi x aE hx hi=>?_) (λaf hi=>k af (by simpa using hi)) hs
 ·refine aD (get hx) λa ha zr=>?_;subst zr;rw[ha];exact uO a aE (R4 ha)
 ·refine aD (get hx) λa ha zr=>?_;subst zr;rw[ha];exact step i a aE ha hi
theorem dY.nil:dY [] Γ:=λy e h=>by simp at h
theorem dY.cons{L:ag}{e:Option (Nat×PV)}(h:Γ.lookup x=some e)(hs:dY L Γ):dY ((x,e)::L) Γ:=λy e' hy=>by
 rw[RB]at hy;cases hb:y==x with
 |true=>
  rw[hb]at hy;have:y=x:=by simpa using hb
  subst this;rw[h,R7 hy]
 |false=>rw[hb]at hy;exact hs y e' hy
theorem dY.refl(Γ:ag):dY Γ Γ:=λω ω h=>h
theorem dY.trans{a b c:ag}(x:dY a b)(y:dY b c):dY a c:=λz e h=>y z e (x z e h)
theorem dY.look{af:ag}(h:dY Γ af){e:Nat×PV}(hx:Γ.lookup x=some (some e)):af.lookup x=some (some e):=h x e hx
theorem aT(x:Str)(e:Option (Nat×PV)){Bp C7:ag}(h:dY Bp C7):dY ((x,e)::Bp) ((x,e)::C7):=λy e' hy=>by
 rw[RB]at hy⊢;cases hb:y==x with
 |true=>rw[hb]at hy;simpa using hy
 |false=>rw[hb]at hy;exact h y e' hy
end
structure d7(env:Env)(names:List (Str×NameKind)):Prop where
 var:∀x,aA (names.lookup x)=true->aA (env.kindOf x)=true
 loc:∀x,(names.lookup x=some .local\/names.lookup x=some .cell)->(env.kindOf x=some .local\/env.kindOf x=some .cell)
 jZ:∀x,names.lookup x=some .globalImplicit->env.kindOf x=some .globalImplicit
 Nl:∀x,names.lookup x=some .local->env.kindOf x=some .local
 cf:∀x,(names.lookup x=some .cell\/names.lookup x=some .free)->(env.kindOf x=some .cell\/env.kindOf x=some .free)
theorem d7.of(h:∀x,env.kindOf x=names.lookup x):d7 env names:=
 ⟨λx hx=>by rw[h x];exact hx,λx hx=>by rw[h x];exact hx,λx hx=>by rw[h x];exact hx,λx hx=>by rw[h x];exact hx,λx hx=>by rw[h x];exact hx⟩
theorem d7.ce:d7 (CE scope env L cells) scope.names where
 var:=λx hx=>oB hx
 loc:=λx hx=>m7 hx
 jZ:=λx hx=>xe hx
 Nl:=λx hx=>by rw[dz,hx];rfl
 cf:=λx hx=>by
  rw[dz];rcases hx with h|h
  ·rw[h];exact .inl rfl
  ·rw[h];show some (if(_:Bool)=true then NameKind.cell else NameKind.free)=_\/some (if(_:Bool)=true then NameKind.cell else NameKind.free)=_;split
   ·exact .inl rfl
   ·exact .inr rfl
noncomputable def jO(names:List (Str×NameKind))(inner:Scope):Bool:=
 inner.kind== .function&&decide (inner.names.map (·.1)).Nodup&&inner.names.all (λx=>x.1 !=("__classdict__":Str))&&
 inner.names.all (λx=>x.2 != .free||(names.lookup x.1==some .cell||names.lookup x.1==some .free))
theorem bB.CW(K:d7 env names)(h:jO names scope=true):bB scope env:=by
 refine bB.of (outer:={scope with names:=names}) (scope:=scope) ?_ λx hx=>K.cf x hx;exact h
section
variable{S:RD->Prop}{fp:Str->List RD}{Γ DC:ag}{s:Ro}
theorem aC.nY{n:Nat}(r:aC C S h (n+1) v (.ay a) f):∃St,St.abs=a/\aC C S h (n+1) v (.aK St) f:=by
 obtain⟨a,St,rfl,rfl,hs,e⟩:=r.view;exact⟨St,e,.aK hs⟩
theorem aC.wJ{n:Nat}{St:aa}(r:aC C S h (n+1) v (.aK St) f):aC C S h (n+1) v (.ay St.abs) f:=by
 obtain⟨a,rfl,rfl,hs⟩:=r.view;exact .ay hs rfl
theorem eZ{y:Str}{e:Option (Nat×PV)}(h:y≠x):(((x,e)::Γ:ag)).lookup y=Γ.lookup y:=by
 rw[RB];have:(y==x)=false:=by simpa using h
 rw[this]
theorem fu{e:Option (Nat×PV)}:(((x,e)::Γ:ag)).lookup x=some e:=by
 rw[RB];simp
theorem At.pP(hA:At C A env S fp Γ h){n:Nat}(hx:Γ.lookup x=some (some (n+1,.ay a))):∃St,St.abs=a/\At C A env S fp ((x,some (n+1,.aK St))::Γ) h:=by
 refine ei (hA.vars x _ _ hx) λh0 v h1 h2=>?_;refine aD h2.nY λSt e h3=>?_;refine⟨St,e,{hA with vars:=λy k pv hy=>?_}⟩;by_cases iT:y=x
 ·subst iT;rw[fu]at hy;cases hy;exact⟨h0,v,h1,h3⟩
 ·rw[eZ iT]at hy;exact hA.vars y k pv hy
theorem At.j5{n:Nat}{St:aa}(hA:At C A env S fp ((x,some (n+1,.aK St))::DC) h)(hg:∀y,y≠x->∀e,Γ.lookup y=some (some e)->DC.lookup y=some (some e)):At C A env S fp ((x,some (n+1,.ay St.abs))::Γ) h:=by
 refine{hA with vars:=λy k pv hy=>?_};by_cases iT:y=x
 ·subst iT;rw[fu]at hy;cases hy;refine ei (hA.vars y _ _ fu) λh0 v h1 h2=>?_;exact⟨h0,v,h1,h2.wJ⟩
 ·rw[eZ iT]at hy;exact hA.vars y k pv (by rw[eZ iT];exact hg y iT _ hy)
noncomputable def u9(C:Cx)(fa:RD)(a:AS)(xs:List PV)(pv:PV)(a':AS):Prop:=∀St:aa,St.abs=a->fU C fa St xs λa8 q=>q=pv/\a8.abs=a'/\Grows St a8
theorem fU.mono{St:aa}{DD:aa->PV->Prop}(h:fU C fa St xs post)(hp:∀a8 q,post a8 q->DD a8 q):fU C fa St xs DD:=λA S s vs R h1 h2 h3 h4 h5 h6 h7 h8 h9=>
 h A S s vs R h1 h2 h3 h4 h5 h6 h7 h8 λv h' t' a8 pv p=>h9 v h' t' a8 pv (hp _ _ p)
noncomputable def Cx.l(C:Cx)(n:Nat):Cx:={C with cc:=n}
theorem aB.le{n:Nat}(hr:aB C A)(h:n<=C.cc):aB (C.l n) A:=⟨hr.1,by have:=hr.2.1;show A.depth+40+4*n<_;omega,by have:=hr.2.2;show A.units+400+40*n<_;omega⟩
theorem fc.l{n:Nat}(x:fc C A h):fc (C.l n) A h:=x.of rfl
theorem fU.up{n:Nat}{St:aa}(h:fU (C.l n) fa St xs post)(hn:n<=C.cc):fU C fa St xs post:=λA S s vs R h1 h2 h3 h4 h5 h6 h7 h8 h9=>
 h A S s vs R (aB.le (C:=C.up) (n:=n+1) h1 (by show n+1<=C.cc+1;omega)) ⟨h2.g⟩ ⟨h3.cB,h3.nolimit,h3.o3,h3.nodigits⟩ h4.l h5 h6 h7 h8 h9
theorem u9.up{n:Nat}{pv:PV}(h:u9 (C.l n) fa a xs pv a')(hn:n<=C.cc):u9 C fa a xs pv a':=λSt e=>(h St e).up hn
theorem Fn.up{n:Nat}{pv:PV}(h:Fn (C.l n) fa xs pv)(hn:n<=C.cc):Fn C fa xs pv:=λA S s vs R h1 h2 h3 h4 h5 h6 h7=>
 h A S s vs R (aB.le (C:=C.up) (n:=n+1) h1 (by show n+1<=C.cc+1;omega)) ⟨h2.g⟩ ⟨h3.cB,h3.nolimit,h3.o3,h3.nodigits⟩ h4.l h5 h6 h7
theorem Flew.l{n:Nat}{args:List PV}{e:RD}(x:Flew (C.l n) A S h₀ cls args e h'):Flew C A S h₀ cls args e h':=⟨x.ex⟩
theorem yl.up{n:Nat}{args:List PV}(h:yl (C.l n) fa xs cls args)(hn:n<=C.cc):yl C fa xs cls args:=λA S s vs R h1 h2 h3 h4 h5 h6 h7=>
 h A S s vs R (aB.le (C:=C.up) (n:=n+1) h1 (by show n+1<=C.cc+1;omega)) ⟨h2.g⟩ ⟨h3.cB,h3.nolimit,h3.o3,h3.nodigits⟩ h4.l h5 h6 λe h' t' x=>h7 e h' t' x.l
theorem Cx.down(C:Cx){n:Nat}(hn:n+1<=C.cc):(C.l (C.cc - 1)).up=C:=by
 cases C;unfold Cx.up Cx.l;simp only[Cx.mk.injEq,true_and,and_true];simp only at hn;omega
end
section
variable{Γ:ag}
theorem fL.Ft{name:Str}{pos:Pos}{n:Nat}{pv:PV}(k:bD C.K)(mk:b8 C.K name fa)(hx:Γ.lookup x=some (some (n+1,.ay a)))(ha:ba C.up env (cv Γ) args true xs)(hM:u9 C fa a xs pv a')
  (aJ:autoParam (fH (.Name x p) name) oA2._auto_1)
  (dT:autoParam (kH args pos true) oA2._auto_1)
  (aW:autoParam ((apos.endLine==pos.line)=true) oA1._auto_1) (aX:autoParam (Hk args pos) oA10._auto_1)
  (cI:autoParam (jq args pos false) oA2._auto_1) (eg:autoParam (bk x) oA1._auto_1):
  fL C.up env Γ (.Call (.Attribute (.Name x p) name apos) args [] pos) (λaf q=>q=pv/\af=(x,some (n+1,.ay a'))::Γ):=λA o s Q E hr hA hq=>by
 rw[arm_eval_Call,aJ];obtain⟨S,fp,pO,av⟩:=hA;obtain⟨St,CB,hA⟩:=pO.pP hx;obtain⟨a0,bS,hv,hf,hs,fC,_⟩:=aV.aK hA av (.refl _ _ _) fu;have cK:=hs.at_;subst cK;refine Rp (Sz (ao hA.aq hv ?_) eg);refine Rp (SJ ?_);unfold methodCall;rw[dT];obtain⟨ks,q1,q2,q,I⟩:=cR hs;refine Rp (Sr (ql hA.base.cB I (aL k.ts name) mk.find mk.fn (fB mk.own) ?_));have iI:methodCallPos true (.Name x p) env apos pos=pure pos:=by unfold methodCallPos;simp[aW]
 refine Rp (Wb iI ?_);refine callWith_of (P:=λh=>C.K.In h) (by show((SF pos (RV args env)).any (·.1)||false)=false;rw[cI];rfl) (keeps_K mk.keep) ?_;refine c6 (aX env) ?_;refine ha A S _ s pos _ E hr pO.here λvs h2 t2 ex rv=>?_;refine⟨(hA.base.ext ex hA.bE hA.aq).cB,?_⟩;exact AV (C:=C) hr hA av ex fu (hM St CB) rv λv h₁ t a8 AJ S' ed hp hg bF dE rd=>by
  obtain⟨rfl,rfl,_⟩:=hp;exact hq v S' ed _ _ _ ⟨rfl,rfl⟩ (bF.j5 λy hy e he=>by rw[eZ hy];exact he) dE rd
theorem fL.qJ{name:Str}{pos:Pos}{n:Nat}{pv:PV}(k:bD C.K)(mk:b8 C.K name fa)(hx:Γ.lookup x=some (some (n+1,.ay a)))(ha:e6 C.up env (cv Γ) (SF pos (RV args env)) xs)(hM:u9 C fa a xs pv a')
  (aJ:autoParam (fH (.Name x p) name) oA2._auto_1)
  (dT:autoParam (kH args pos false) oA2._auto_1)
  (iR:autoParam (jq args pos true) oA2._auto_1) (eg:autoParam (bk x) oA1._auto_1):
  fL C.up env Γ (.Call (.Attribute (.Name x p) name apos) args [] pos) (λaf q=>q=pv/\af=(x,some (n+1,.ay a'))::Γ):=λA o s Q E hr hA hq=>by
 rw[arm_eval_Call,aJ];obtain⟨S,fp,pO,av⟩:=hA;obtain⟨St,CB,hA⟩:=pO.pP hx;obtain⟨a0,bS,hv,hf,hs,fC,_⟩:=aV.aK hA av (.refl _ _ _) fu;have cK:=hs.at_;subst cK;refine Rp (Sz (ao hA.aq hv ?_) eg);refine Rp (SJ ?_);unfold methodCall;rw[dT];obtain⟨ks,q1,q2,q,I⟩:=cR hs;refine Rp (Sr (Rp (jM hA.base.cB I k mk (fB mk.own) (RK ?_))));refine Rp (RK ?_)
 let h1:Heap:=s.heap.push (methodObj (.ref fa) (.ref St.loc))
 have bQ:Ext A env s.heap h1:=(Ext.refl _ _ _).push _;have BL:h1.get? s.heap.objs.size=some (methodObj (.ref fa) (.ref St.loc)):=RL _ rfl;refine gz (K:=C.K) (self:=.ref St.loc) mk.fnIn (iR env) ?_;refine ha A S _ {s with heap:=h1,toks:=s.toks+1} _ _ E hr (pO.here.ext bQ) λvs h2 t2 c7 rv=>?_;have IU: ¬Fz A env s.heap.objs.size:=λe=>by have:=Fz.there hA.here e;rw[bf]at this;cases this
 have sF:=c7.keep _ _ IU BL;have ex:=bQ.trans c7;refine⟨⟨sF,(hA.base.ext ex hA.bE hA.aq).cB⟩,Uy (method_call (s:={s with heap:=h2,toks:=t2}) sF ?_)⟩;exact vG (C:=C) hr hA av ex fu (hM St CB) (rv.mono (λb hb=>hb.imp (λz=>z) (bQ.fresh hA.aq.ns)) λω ω ω z=>z) λv h₁ t a8 AJ S' ed hp hg bF dE rd=>by
  obtain⟨rfl,rfl,_⟩:=hp;exact hq v S' ed _ _ _ ⟨rfl,rfl⟩ (bF.j5 λy hy e he=>by rw[eZ hy];exact he) dE rd
theorem Here.ay{Γ:fT}{S:RD->Prop}(hh:Here C A S U env Γ h)(hx:Γ.lookup x=some (some (nx,.ay a)))(hk:aA (env.kindOf x)=true):∃b St,aa.abs St=a/\aZ h env x (.ref b)/\(∀c∈St.fp b,if nx==0 then S c else U c)/\ah C.prog C.w h b St:=by
 refine bM (hh.has x nx _ hx hk) λv h1 h2 _=>?_;refine aM h2.view λb St zr zw=>?_;subst zr;refine dd zw λh3 h4 e=>?_;clear zw;exact⟨b,St,e,h1,h3,h4⟩
end
theorem Fn.FG{d:Stmt}(f:FnAt C.K fa d dflt){pv:PV}(ns:List Str)(hlen:ns.length=xs.length)(aG:ns.Nodup)
  (cK:∀x∈ns,(ae d).lookup x=some .local\/(ae d).lookup x=some .cell)
  (e7:∀ (fd:FuncData) (vs:List Rz),fd.params=jz d->fd.defaults=dflt->fd.kwdefaults= .none->vs.length=xs.length->bindArgs fd ⟨vs,[]⟩=pure (ns.zip vs))
  (walk:∀env:Env,d7 env (ae d)->interactive env=false->ak C env (fG ns xs) (bh d) (λfl ω=>fl= .ret pv)):Fn C fa xs pv:=by
 obtain⟨ob,fd,f1,f2,f3,f4,f5,f6,f7,f8,f9⟩:=f.ex;refine Fn.of ns f1 f2 f3 f4 f5 hlen aG (λx hx=>by rw[f6];exact cK x hx) (λvs h=>e7 fd vs f7 f8 f9 h) λA env o s Q E yL ht hr hA fV=>?_;have hk:∀x,env.kindOf x=(ae d).lookup x:=λx=>by rw[<-f6,<-yL];rfl
 refine walk env (d7.of hk) (by unfold interactive;rw[ht.kind];rfl) A o s Q E hr ht hA ⟨(λs' af h=>nomatch h),(λs' af h=>nomatch h),(λs' af h=>nomatch h),λv s' AJ af h hR=>?_,(λv s' Nf af h hR=>nomatch h)⟩;cases h;obtain⟨S,fp,h1,h2,h3⟩:=hR;exact fV v s' ⟨S,fp,af,h1,h2,h3⟩
theorem fU.PQ{sv:Str}{d:Stmt}(f:FnAt C.K fa d dflt){St:aa}(ns:List Str)(hlen:ns.length=xs.length)(aG:(sv::ns:List Str).Nodup)
  (cK:∀x∈(sv::ns:List Str),(ae d).lookup x=some .local\/(ae d).lookup x=some .cell)
  (e7:∀ (fd:FuncData) (v:Rz) (vs:List Rz),fd.params=jz d->fd.defaults=dflt->fd.kwdefaults= .none->vs.length=xs.length->bindArgs fd ⟨v::vs,[]⟩=pure (((sv,v))::ns.zip vs))
  (oi:∀a8 pv,post a8 pv->Grows St a8)
  (walk:∀env:Env,d7 env (ae d)->interactive env=false->ak C env ((sv,some (1,.aK St))::fG ns xs) (bh d) (λfl af=>∃pv a8,fl= .ret pv/\af.lookup sv=some (some (1,.aK a8))/\post a8 pv)):
  fU C fa St xs post:=by
 refine fU.core (sv:=sv) f (fG ns xs) (λfd A S s vs h1 h2 h3 B hS rv=>?_) oi λA env o s Q E hk ht hr hA fV iz=>?_
 ·have zy:=rv.length;have hz:((sv,Value.ref St.loc)::ns.zip vs).map (·.1)=sv::ns:=by rw[Sl,hZ ns vs (by rw[hlen,zy])]
  refine⟨λa=>S a/\(s.heap.get? a).isSome=true,(sv,.ref St.loc)::ns.zip vs,s.heap,λQ E hq=>?_,λω ω e=>e,by rw[hz];exact aG,λx hx=>cK _ (by rw[<-hz];exact RE.mpr ⟨x,hx,rfl⟩),λa ha=>⟨.inl ha.1,ha.2⟩,Rm,λx n pv aX hl=>?_⟩
  ·rw[e7 fd _ vs h1 h2 h3 zy];exact RK (hq s.toks)
  ·refine oA (gM ns xs vs x n pv rv.there hl) λzr zw=>?_;subst zr;refine aD zw λv g1 g2=>?_;clear zw;exact⟨rfl,v,Rn _ g1,g2⟩
 ·refine walk env (d7.of hk) (by unfold interactive;rw[ht.kind];rfl) A o s Q E hr ht hA ⟨λs' af h=>?_,λs' af h=>?_,λs' af h=>?_,λv s' AJ af h hR=>?_,λv s' AJ af h hR=>?_⟩
  ·refine aM h λ_ _ h _=>?_;cases h
  ·refine aM h λ_ _ h _=>?_;cases h
  ·refine aM h λ_ _ h _=>?_;cases h
  ·refine lW h λpv a8 h hl hp=>?_;cases h;obtain⟨S,fp,h1,h2,h3⟩:=hR;exact fV v s' a8 AJ hp ⟨S,fp,af,h1,h2,hl,h3⟩
  ·refine aM h λ_ _ h _=>?_;cases h
section
variable{Γ:ag}
theorem fL.Fh{id:Str}{pos:Pos}{n:Nat}{d:Stmt}{pv:PV}(hk:env.kindOf id=some .globalImplicit)(hg:C.glob id=some (.ref fa))(f:FnAt C.K fa d dflt)
  (hx:Γ.lookup x=some (some (n+1,.ay a))) (ha:ba C.up env (cv Γ) args true xs) (hM:u9 C fa a xs pv a')
  (hs:autoParam (∀env,RV (.Name x px::args) env=(false,eval (.Name x px) env)::RV args env) oA2._auto_1)
  (aX:autoParam (zT (.Name x px::args) pos) oA4._auto_1) (KI:autoParam (bk id) oA1._auto_1) (eg:autoParam (bk x) oA1._auto_1)
  (hb:autoParam (∀env,∃x₀,SF pos (RV (.Name x px::args) env)=(false,x₀)::SF pos (RV args env)/\x₀=(do let v ←eval (.Name x px) env;standAt pos;pure v)\/SF pos (RV (.Name x px::args) env)=(false,eval (.Name x px) env)::SF pos (RV args env)) oA12._auto_1):
  fL C.up env Γ (.Call (.Name id p) (.Name x px::args) [] pos) (λaf q=>q=pv/\af=(x,some (n+1,.ay a'))::Γ):=λA o s Q E hr hA hq=>by
 obtain⟨S,fp,pO,av⟩:=hA;obtain⟨St,CB,hA⟩:=pO.pP hx;obtain⟨a0,bS,hv,hf,gd,fC,_⟩:=aV.aK hA av (.refl _ _ _) fu;have cK:=gd.at_;subst cK;obtain⟨ob,fd,f1,f2,_⟩:=f.ex;refine TC ?_;refine Sz (bu (C:=C.up) hA.cx hA.base hA.aq hk (.inl hg) ?_) KI;refine callWith_function (o:=ob) (fd:=fd) ?_;obtain⟨y,rest,C2⟩:=aX env;rw[C2];refine evalArgs_plain ?_;rw[<-C2];have fin:RM (RF C.up.prog C.up.w) A (spliced (SF pos (RV args env))) (λvs s₁=>(s₁.heap.get? fa=some ob/\ob.data= .func fd)/\RM (RF C.up.prog C.up.w) A (call (.ref fa) ([]++(.ref St.loc::vs)) []) Q E s₁) E s:=by
  refine ha A S _ s pos _ E hr pO.here λvs h2 t2 ex rv=>?_;refine⟨⟨(hA.base.ext ex hA.bE hA.aq).cB _ _ f1,f2⟩,?_⟩;exact AV (C:=C) hr hA av ex fu (hM St CB) rv λv h₁ t a8 AJ S' ed hp hg bF dE rd=>by
   obtain⟨rfl,rfl,_⟩:=hp;exact hq v S' ed _ _ _ ⟨rfl,rfl⟩ (bF.j5 λy hy e he=>by rw[eZ hy];exact he) dE rd
 obtain⟨x₀,⟨e1,e2⟩|e1⟩:=hb env
 ·rw[e1,e2];refine Tr (Rp (Sz (ao hA.aq hv ?_) eg));exact Rp (SJ (RK fin))
 ·rw[e1];refine Tr (Sz (ao hA.aq hv ?_) eg);exact fin
end
theorem aa.qo{St:aa}(h:St.abs.aI=some ks):∃l,St.aI=some (l,ks):=by
 have h:St.aI.map (·.2)=some ks:=h;refine aD (VU.mp h) λr hr e=>?_;exact⟨r.1,by rw[hr,<-e]⟩
theorem aa.n9{St:aa}(h:St.abs.aI=none):St.aI=none:=
 have h:St.aI.map (·.2)=none:=h
 Option.map_eq_none_iff.mp h
theorem TopK.l(T:TopK C)(n:Nat):TopK (C.l n):=⟨T.sk,T.JE,T.Iq,T.F7,T.Jr,T.Ky,T.K1,T.LW,T.EO,T.BK,T.EU,T.Ju,T.I7,T.J9,T.JA,T.uM,T.CC,T.D7,T.Jl,T.Mx,T.z6,T.wu,T.KA⟩
theorem Bx(T:TopK C)(hN:C.hd=false)(hl:3<=C.cc)(key:Key)(ps:List Key)(hr:a.aI=none)(hs:a.small (2*ps.length+4)):u9 C 87 a (key.pv::Key.cV ps) .none (a.add key ps):=λSt e=>by
 subst e;have h:=zv (C:=C.l 0) (T.l 0) hN St key ps (aa.n9 hr) hs;have h':fU (C.l 3) 87 St ([key.pv]++Key.cV ps) (rO St key ps):=h;exact((fU.up h' hl).mono λa8 q hp=>⟨hp.1,hp.2.1,hp.2.2⟩)
theorem jB(T:TopK C)(hN:C.hd=false)(hr:a.aI=some ks)(hs:ks.length<=lim)(cO:∀k∈ks,(a.find k).isSome=true):u9 C 99 a [] (.tuple (Key.cV ks)) {a.out ks with aI:=some [],au:=a.au+ks.length,az:=a.az}:=λSt e=>by
 subst e;refine oE (aa.qo hr) λl hl=>?_;exact(qA T hN St l ks hl hs cO).mono λa8 q hp=>⟨hp.1,hp.2.2,hp.2.1⟩
theorem zC(T:TopK C)(hN:C.hd=false){rk:List Key}(hr:a.aI=some rk)(hs:ks.length<=lim)(hc:a.gh ks):u9 C 120 a (Key.cV ks) .none (ks.foldl AS.cu a):=λSt e=>by
 subst e;refine oE (aa.qo hr) λl hl=>?_;exact(CT T hN St l rk ks hl hs hc).mono λa8 q hp=>⟨hp.1,hp.2.2,hp.2.1⟩
theorem qI(T:TopK C)(hN:C.hd=false)(hl:1<=C.cc)(hr:a.aI=none)(hs:a.nodes.length<=lim)(zF:∀X:aa,X.abs=a.iL->fU (C.l 0) 127 X [] (vU X)):u9 C 92 a [] .none a.iL:=λSt e=>by
 subst e;have h:=uE (C:=C.l 0) (T.l 0) hN St (aa.n9 hr) (by
  have:St.abs.nodes.length=St.nodes.length:=by unfold aa.abs;simp
  omega) zF
 have h':fU (C.l 1) 92 St [] (t8 St):=h;exact(fU.up h' hl).mono λa8 q hp=>⟨hp.1,hp.2.2,hp.2.1⟩
theorem zI(T:TopK C)(hN:C.hd=false){key:Key}(hk:key.small){msg:Str}(hw:a.cn key=some msg):∀St:aa,St.abs=a->yl C 120 [.aK St,key.pv] (.type "ValueError") [.str msg]:=λSt e=>by
 subst e;exact Co T hN St key hk hw
noncomputable def AS.cS(a:AS):Bool:=match a.aI with|some ks=>decide (a.az<a.au)|| !ks.isEmpty|none=>false
theorem gE(T:TopK C)(hN:C.hd=false)(hr:a.aI=some ks)(hs:ks.length<=lim):∀St:aa,St.abs=a->Fn C 106 [.aK St] (.bool a.cS):=λSt e=>by
 subst e;refine oE (aa.qo hr) λl mf=>?_;have my:(ae (cC 5)).lookup sf=some .local:=by rfl
 have kb:(ae (cC 5)).lookup ("bool":Str)=some .globalImplicit:=by rfl
 refine Fn.FG (C:=C) T.EO [sf] rfl (by decide) (λx hx=>?_) (λfd vs h1 h2 h3 h4=>?_) λenv K hi=>?_
 ·simp only[Rr,RN,or_false]at hx;subst hx;exact .inl my
 ·refine oE (gn h4) λu zr=>?_;subst zr;unfold bindArgs;rw[h1,h2];rfl
 ·have er:eK St 1= .list (Key.cV ks):=by show(match St.aI with|none=>PV.none|some r=>_)=_;rw[mf]
  have sv:∀ (i:Nat) (nm:Str) (p pos:Pos),aU[i]?=some nm->∀Γ:ag,Γ.lookup sf=some (some (0,.aK St))->Ev C env (cv Γ) (.Attribute (.Name sf p) nm pos) true (eK St i):=λi nm p pos h Γ hl=>Ev.kJ (C:=C) (i:=i) (St:=St) (md:=true) T.sk (Ev.name (bb hl) (K.var _ (by rw[my];rfl))) h;refine ak.ite (b:=false) (cX.cmp (y:=.none) (m2:=true) (sv 1 _ _ _ rfl _ rfl) Ev.By (by
   rw[er];exact cw.is_none rfl)) (ak.nil ?_)
  refine ak.ret (Ev.or_val (Ev.cmp (md:=true) (sv 3 _ _ _ rfl _ rfl) (sv 2 _ _ _ rfl _ rfl) cw.lt_int) λω=>Ev.call (md:=true) (m1:=true) (Ev.builtin (v:=.type "bool") (K.jZ _ kb) (T.none (x:="bool") (by decide)) boot_bool) (ba.cons (by rw[<-er];exact sv 1 _ _ _ rfl _ rfl) ba.nil) (a7.bool_list (by rw[dS];exact hs))) ?_;show cM.ret _=cM.ret _;have:(Key.cV ks).isEmpty=ks.isEmpty:=by cases ks<;>rfl
  rw[this];unfold AS.cS;rw[hr];rfl
theorem Ev.D1{name:Str}{pos:Pos}{n:Nat}{pv:PV}(k:bD C.K)(mk:b8 C.K name fa)(hx:Γ.lookup x=some (some (n,.ay a)))(bS:aA (env.kindOf x)=true)(ha:ba C.up env Γ args md xs)(hM:∀St:aa,St.abs=a->Fn C fa (.aK St::xs) pv)
  (zX:autoParam (md=(n==0)) oA1._auto_1)
  (aJ:autoParam (fH (.Name x p) name) oA2._auto_1)
  (dT:autoParam (kH args pos true) oA2._auto_1)
  (aW:autoParam ((apos.endLine==pos.line)=true) oA1._auto_1) (aX:autoParam (Hk args pos) oA10._auto_1)
  (cI:autoParam (jq args pos false) oA2._auto_1) (eg:autoParam (bk x) oA1._auto_1):
  Ev C.up env Γ (.Call (.Attribute (.Name x p) name apos) args [] pos) md pv:=λA S U s Q E hr hh hq=>by
 rw[arm_eval_Call,aJ];refine qW (Here.ay (C:=C.up) hh hx bS) λa0 St CB hv hf hs=>?_;have cK:=hs.at_;subst cK;refine Rp (Sz (ao hh.aq hv ?_) eg);refine Rp (SJ ?_);unfold methodCall;rw[dT];obtain⟨ks,q1,q2,q,I⟩:=cR hs;refine Rp (Sr (ql hh.base.cB I (aL k.ts name) mk.find mk.fn (fB mk.own) ?_));have iI:methodCallPos true (.Name x p) env apos pos=pure pos:=by unfold methodCallPos;simp[aW]
 refine Rp (Wb iI ?_);refine callWith_of (P:=λh=>C.K.In h) (by show((SF pos (RV args env)).any (·.1)||false)=false;rw[cI];rfl) (keeps_K mk.keep) ?_;refine c6 (aX env) ?_;refine ha A S U s pos _ E hr hh λvs h2 t2 ex rv=>?_;have iE:=hh.ext ex;refine⟨iE.base.cB,Uy ?_⟩;have Gp:∀b∈St.fp St.loc,dH md S U s.heap b:=λb hb=>.inl (by rw[zX];exact hf b hb);have mh:ah C.prog C.w h2 St.loc St:=hs.mono λb hb ob e=>ex.keep b ob (dH.xI hh (Gp b hb)) e;have rs:Rd C.prog C.w (λa=>dH md S U s.heap a/\(h2.get? a).isSome=true) h2 (.ref St.loc) (.aK St):=.aK (λb hb=>⟨Gp b hb,mh.there b hb⟩) mh;have bR:∀a,dH md S U s.heap a->¬onStack A a:=λa ha hs=>dH.xI hh ha (.inr hs);refine hM St CB A _ {s with heap:=h2,toks:=t2} (.ref St.loc::vs) _ hr ⟨hh.cx.g⟩ ⟨iE.base.cB,iE.base.nolimit,iE.base.o3,iE.base.nodigits⟩ (fc.of (C':=C) iE.bE rfl) (λa ha=>⟨ha.2,bR a ha.1⟩) (.cons rs rv.there) λv h3 t3 jW rd=>?_;refine hq v h3 t3 (ex.trans jW.ext) (rd.mono (λa ha=>?_) λω ω ω e=>e);rcases ha with ha|ha
 ·exact ha.1
 ·exact .inr (ex.fresh hh.aq.ns ha)
section
variable{Γ:ag}
noncomputable def AS.zero:AS:=⟨[],none,0,0⟩
end
namespace Nx
theorem ga:Slot "list_iterator" "__getattribute__" "object.__getattribute__":=
 .of (owner:="object") (n:="__getattribute__") (by rw[VO,UO];kernel_rfl) (by decide +kernel) (by decide +kernel) (by decide +kernel)
  (by first|exact .inl (by decide +kernel)|exact .inr (by decide +kernel)) (by rw[isSubtype_type];kernel_rfl)
theorem Pq:typeLookup (.type "list_iterator") "__next__" =pure (some (.builtin "list_iterator.__next__")):=by rw[VO,UO];kernel_rfl
theorem Kg:typeOf (.builtin "list_iterator.__next__")=pure (.type "wrapper_descriptor"):=by show builtinType _=_;rw[builtinType_eq_fast];kernel_rfl
theorem E9:Slot "wrapper_descriptor" "__get__" "wrapper_descriptor.__get__":=
 .of (owner:="wrapper_descriptor") (n:="__get__") (by rw[VO,UO];kernel_rfl) (by decide +kernel) (by decide +kernel) (by decide +kernel)
  (by first|exact .inl (by decide +kernel)|exact .inr (by decide +kernel)) (by rw[isSubtype_type];kernel_rfl)
theorem G9:typeLookup (.type "wrapper_descriptor") "__set__" =pure none:=by rw[VO,UO];kernel_rfl
theorem GJ:typeLookup (.type "wrapper_descriptor") "__delete__" =pure none:=by rw[VO,UO];kernel_rfl
theorem ET:entryFor table "wrapper_descriptor.__get__" =some Builtin.«wrapper_descriptor.__get__»:=entryFor_of_fast (by kernel_rfl)
theorem Gk(a b c:Rz):argsOk "wrapper_descriptor.__get__" ⟨[a,b,c],[]⟩:=by unfold argsOk;kernel_rfl
theorem sub:Ux (.type "list_iterator") (.type "list_iterator")=pure true:=by rw[isSubtype_type];kernel_rfl
theorem owner:(".".intercalate ("list_iterator.__next__".cutAt '.').dropLast)= "list_iterator":=by decide +kernel
theorem Em:entryFor table "object.__getattribute__" =some Builtin.«object.__getattribute__»:=entryFor_of_fast (by kernel_rfl)
theorem Hc(a b:Rz):argsOk "object.__getattribute__" ⟨[a,b],[]⟩:=by unfold argsOk;kernel_rfl
end Nx
section
variable{prog:Sw}{w:TG}{g:Array GenState}{d:Drawn}{t:Nat}{os:OsState}{a:RD}{o:Obj}
set_option maxRecDepth 20000 in
theorem zj(ho:h.get? a=some o)(hc:o.cls= .type "list_iterator")(hq:R (.ok (.ret (.ref h.objs.size))) ⟨h.push (cz a),g,d,t,os⟩):
  TR (RF prog w) A (.call (.builtin "wrapper_descriptor.__get__") ⟨[.builtin "list_iterator.__next__",.ref a,.type "list_iterator"],[]⟩) R ⟨h,g,d,t,os⟩:=by
 have hT:(⟨h,g,d,t,os⟩:Ro).TypeIs (.ref a) "list_iterator":=⟨_,ho,hc⟩;have N3:(⟨h,g,d,t,os⟩:Ro).TypeIs (.builtin "list_iterator.__next__") "wrapper_descriptor":=Nx.Kg;have f8:Ux (.type "list_iterator") (.type (".".intercalate ("list_iterator.__next__".cutAt '.').dropLast))=pure true:=by rw[Nx.owner];exact Nx.sub
 refine codeAny_call_builtin Nx.E9.plain Nx.ET (Nx.E9.check _ _ _ _ _ _ _ _ N3 (Nx.Gk _ _ _) ?_)
 repeat (any_goals (first|assumption|wp_step))
set_option maxRecDepth 20000 in
theorem uX{tk:Tok}{Q:Fin->Ro->Prop}{vs:Array Rz}(ho:h.get? a=some {cls:=.type "list_iterator",data:=.fields vs,slots:=sl})(hq:Q (.done (.ret (.ref h.objs.size))) ⟨h.push (cz a),g,d,t,os⟩):
  RM (RF prog w) A (Builtin.«object.__getattribute__» ⟨[.ref a,.str "__next__" tk],[]⟩) Q E ⟨h,g,d,t,os⟩:=by
 have hT:(⟨h,g,d,t,os⟩:Ro).TypeIs (.ref a) "list_iterator":=⟨_,ho,rfl⟩;have N3:(⟨h,g,d,t,os⟩:Ro).TypeIs (.builtin "list_iterator.__next__") "wrapper_descriptor":=Nx.Kg;have f4:=Nx.Pq;have f5:=Nx.Kg;have f6:=Nx.E9.lookup;have f7:=Nx.G9;have f8:=Nx.GJ
 repeat (any_goals (first|assumption|with_reducible refine wpAny_loadPart_at ho ?_|wp_step))
 refine zj ho rfl ?_
 repeat (any_goals (first|assumption|wp_step))
theorem yn{tk:Tok}{vs:Array Rz}(ho:h.get? a=some {cls:=.type "list_iterator",data:=.fields vs,slots:=sl})(hq:R (.ok (.ret (.ref h.objs.size))) ⟨h.push (cz a),g,d,t,os⟩):
  TR (RF prog w) A (.call (.builtin "object.__getattribute__") ⟨[.ref a,.str "__next__" tk],[]⟩) R ⟨h,g,d,t,os⟩:=
 codeAny_call_builtin Nx.ga.plain Nx.Em (Nx.ga.check _ _ _ _ _ _ _ _ (show(⟨h,g,d,t,os⟩:Ro).TypeIs (.ref a) "list_iterator" from⟨_,ho,rfl⟩) (Nx.Hc _ _) (uX ho hq))
set_option maxRecDepth 20000 in
theorem BO{tk:Tok}{fill expr:Bool}{Q:Rz->Ro->Prop}{vs:Array Rz}(ho:h.get? a=some {cls:=.type "list_iterator",data:=.fields vs,slots:=sl})
  (hq:Q (.ref h.objs.size) ⟨h.push (cz a),g,d,t,os⟩):RM (RF prog w) A (getAttrBy (.ref a) (.str "__next__" tk) fill expr) Q E ⟨h,g,d,t,os⟩:=by
 have hT:(⟨h,g,d,t,os⟩:Ro).TypeIs (.ref a) "list_iterator":=⟨_,ho,rfl⟩;have f2:=Nx.ga.lookup;have f3:=Nx.ga.bind (.ref a);have Ja:(expr&&onTheHeap (Value.builtin "object.__getattribute__"))=false:=by cases expr<;>rfl
 repeat (any_goals (first|assumption|wp_step))
 refine yn ho ?_
 repeat (any_goals (first|assumption|wp_step))
theorem xG{expr:Bool}{Q:Rz->Ro->Prop}{vs:Array Rz}(ho:h.get? a=some {cls:=.type "list_iterator",data:=.fields vs,slots:=sl})
  (hq:Q (.ref h.objs.size) ⟨h.push (cz a),g,d,t+1,os⟩):RM (RF prog w) A (getAttr (.ref a) "__next__" expr) Q E ⟨h,g,d,t,os⟩:=by
 unfold getAttr
 repeat (any_goals (first|assumption|with_reducible apply BO ho|wp_step))
end
namespace Nx
theorem check(a:Rz):checkBoundCall "list_iterator.__next__" ⟨[a],[]⟩=pure ():=by first|kernel_rfl|rfl
theorem quiet(a:Rz):(Code.builtin "list_iterator.__next__" ⟨[a],[]⟩).quiet=true:=Code.quiet_builtin _ (by decide +kernel)
end Nx
section
variable{prog:Sw}{w:TG}{s:Ro}{b it l:RD}
theorem oV{pos:Pos}{Q:Rz->Ro->Prop}(ho:s.heap.get? b=some (cz it))(h:RM M A (call (.ref b) [] []) Q E s):RM M A (callWith pos (.ref b) [] [] []) Q E s:=by
 unfold callWith;have e0:RM M A (evalArgs (.ref b) true [] []) (λa s'=>a=⟨[],[]⟩/\s'=s) E s:=c6 (.inl rfl) (by
  unfold spliced;exact RK ⟨rfl,rfl⟩)
 refine Rp (Sr (Sf e0 (λx s₁ h₁=>Rp (SJ ?_)) λω ω x=>x));refine oA h₁ λzr zw=>?_;clear h₁;subst zr;subst zw;simp only[Y5,YW];refine Rp (m:=keeperOf (.ref b)) ?_;unfold keeperOf;refine Rp (Y0 ho ?_);simp only[show(Value.type "method-wrapper" !=Value.type "method")=true by decide,show(Value.type "method-wrapper" ==Value.type "builtin_function_or_method" ||Value.type "method-wrapper" ==Value.type "method-wrapper")=true by decide,if_true];refine RK ?_;exact Rp (Sf h (λr s₂ hr=>Rp (Sr (YE (RK hr)))) λω ω x=>x)
theorem iX{Q:Rz->Ro->Prop}(ho:s.heap.get? b=some (cz it))
  (h:∀A':Sg,A'.handled=A.handled->RM (RF prog w) A' (Builtin.«list_iterator.__next__» ⟨[.ref it],[]⟩) (λf s'=>∃v,f= .done (.ret v)/\Q v s') E s):RM (RF prog w) A (call (.ref b) [] []) Q E s:=by
 refine Uy (codeAny_of_tree ?_);show RM _ A.in1 (callAny (.ref b) ⟨[],[]⟩) _ _ s;simp only[callAny];refine Rp (Y0 ho ?_);simp only[show(Value.type "method-wrapper" ==Value.type "method" ||Value.type "method-wrapper" ==Value.type "builtin_function_or_method" ||Value.type "method-wrapper" ==Value.type "method-wrapper")=true by decide,if_true];show RM _ _ (if(Value.type "method-wrapper" !=Value.type "method")=true then _ else _) _ _ _;rw[if_pos (show(Value.type "method-wrapper" !=Value.type "method")=true by decide)];refine Rp (Wb (a:=()) (Nx.check _) ?_);refine Rp (RK (RK ?_));refine⟨Nx.quiet _,codeAny_builtin entry_listiter_next (Sf (h _ rfl) (λf s' hf=>?_) λω ω h'=>h')⟩;refine aD hf λv zr hq=>?_;clear hf;subst zr;exact hq
theorem nk{items:Array Rz}{x:Rz}{Q:Rz->Ro->Prop}(ho:s.heap.get? b=some (cz it))(hit:s.heap.IsListIter it l i)(hl:s.heap.IsList l items)(hx:items[i]?=some x)
  (hQ:∀h',h'.IsListIter it l (i+1)->Ul it s.heap h'->Q x {s with heap:=h'}):RM (RF prog w) A (call (.ref b) [] []) Q E s:=by
 refine iX ho λA' ω=>?_;refine bM (id hit) λo ho hc hd=>?_;refine Dj hl λol rW _ nl rH=>?_;clear hl;show RM _ _ (field (.ref it) 0>>=_) _ _ s;refine Rp (WJ ho hd (x:=.ref l) rfl ?_);show RM _ _ (if(Value.ref l==Value.none)=true then _ else _) _ _ s;rw[if_neg (show ¬((Value.ref l==Value.none)=true)from Uv)];show RM _ _ (field (.ref it) 1>>=_) _ _ s;refine Rp (WJ ho hd (x:=.int i 0) rfl ?_);show RM _ _ (seqItems? (.ref l)>>=_) _ _ s;refine Rp (wpAny_seqItems rW rH ?_);simp only[SA,hx];refine Rp (wpAny_setField ho hd (by simp) (RK ⟨x,rfl,hQ _ ?_ (UG ..)⟩));exact⟨_,Wa _ ho (XH (WA hd _)),(Obj.cls_mapFields ..).trans hc,by
  rw[WA hd];simp[rawInt]⟩
theorem oZ{items:Array Rz}{Q:Rz->Ro->Prop}(hh:A.handled=none)(ho:s.heap.get? b=some (cz it))(hit:s.heap.IsListIter it l i)(hl:s.heap.IsList l items)(hx:items[i]?=none)
  (hE:∀h1 h' e t vs,Ul it s.heap h1->(∀a o,h1.get? a=some o->h'.get? a=some o)->h1.get? e=none->h'.get? e=some {cls:=.type "StopIteration",data:=.fields vs}->vs[0]?=some (.ref t)->vs[1]?=some .none->h1.get? t=none->h'.get? t=some (yO [] 0)->h1.objs.size=s.heap.objs.size->(h1.get? it).isSome=true->E (.ref e) {s with heap:=h'}):
  RM (RF prog w) A (call (.ref b) [] []) Q E s:=by
 refine iX ho λA' bF=>?_;refine bM (id hit) λo ho hc hd=>?_;refine Dj hl λol rW _ nl rH=>?_;clear hl;show RM _ _ (field (.ref it) 0>>=_) _ _ s;refine Rp (WJ ho hd (x:=.ref l) rfl ?_);show RM _ _ (if(Value.ref l==Value.none)=true then _ else _) _ _ s;rw[if_neg (show ¬((Value.ref l==Value.none)=true)from Uv)];show RM _ _ (field (.ref it) 1>>=_) _ _ s;refine Rp (WJ ho hd (x:=.int i 0) rfl ?_);show RM _ _ (seqItems? (.ref l)>>=_) _ _ s;refine Rp (wpAny_seqItems rW rH ?_);simp only[SA,hx];refine Rp (VE (Rp (wpAny_setField ho hd (by simp) ?_)));show RM _ _ (newExc (.type "StopIteration") []>>=_) _ _ _;refine Rp ?_;simp only[newExc,newTuple];refine Rp (V2 ?_ (by size_fits));refine Rp (m:=firstArgMember _ _) (Wb (a:=Value.none) (by first|rfl|(simp only[firstArgMember];rfl)) ?_);refine V2 ?_ (by size_fits);simp only[raiseNew];refine Rp (wpAny_handled ?_);rw[bF,hh];refine Rp (RK (wpAny_throw ?_))
 let h1:=s.heap.update it (Y3 λx=>x.setIfInBounds 0 Value.none)
 have n1:h1.get? (h1.push {cls:=.type "tuple",data:=.seq #[]}).objs.size=none:=by
  cases hq:h1.get? (h1.push {cls:=.type "tuple",data:=.seq #[]}).objs.size with
  |none=>rfl
  |some q=>
   have h2:=Ss hq;have h3:(h1.push {cls:=.type "tuple",data:=.seq #[]}).objs.size=h1.objs.size+1:=by simp[Heap.push]
   rw[h3]at h2;exact absurd h2 (SV.mpr (XX _))
 exact hE h1 _ _ h1.objs.size _ (UG ..) (λa o e=>Ry _ (Ry _ e)) n1 (RL _ rfl) rfl rfl bf (Ry _ (RL _ rfl)) (by simp[h1,Heap.update]) (by
  have:=Wa (Y3 λx=>x.setIfInBounds 0 Value.none) ho (XH (WA hd _));rw[this];rfl)
end
theorem dr.nil{k:Nat}:dr C env Γ (.List [] p) (k+1) (.list []):=λA S U s Q E hr hh hq=>
 (bI.list (md:=true) ba.nil (by decide)) A S U s Q E hr hh λa vs n h' t' ex ha cY ho ra=>by
  cases ra;exact hq (.ref a) h' t' [a] ex (.list ho .nil) (by simp) (λb hb=>by simp at hb;subst hb;exact⟨ha,cY⟩)
theorem dr.DF{k:Nat}:dr C env Γ (.Dict [] [] p) (k+1) (.dict []):=λA S U s Q E hr hh hq=>by
 refine Za ?_;have cY:Rt<s.heap.objs.size:=(Ext.refl A env s.heap).df hh;exact hq (.ref s.heap.objs.size) _ s.toks [s.heap.objs.size] ((Ext.refl _ _ _).push _) (.dict (kvs:=[]) (vs:=[]) cY (Zx _) .nil) (by simp) (λb hb=>by simp at hb;subst hb;exact⟨bf,cY⟩)
theorem dr.L5{id:Str}{pos:Pos}{k:Nat}(hf:Ev C env Γ (.Name id p) true (.raw (.type "set"))):dr C env Γ (.Call (.Name id p) [] [] pos) (k+1) (.set []):=λA S U s Q E hr hh hq=>by
 refine TC ?_;refine hf A S U s _ E hr hh λv h1 t1 ex rd=>?_;cases rd.aQ;have e0:SF pos (RV [] env)=[]:=rfl;rw[e0];have hc:RM (RF C.prog C.w) A (call (.type "set") []) Q E {s with heap:=h1,toks:=t1}:=call_set_0 λled=>by
  have cY:Rt<h1.objs.size:=ex.df hh;refine hq (.ref h1.objs.size) _ t1 [h1.objs.size] (ex.push _) (.set (ks:=[]) ?_ Sn) (by simp) (λb hb=>by simp at hb;subst hb;exact⟨ex.fresh_at hh.aq.ns,cY⟩);have:=(setObjOf_fresh (knd:=aw C.prog C.w) led).setOf (h:=h1.push {cls:=.type "set",dict:=none,data:=.set #[] 0 (.fresh 0 0 led)}) (RL _ rfl) (by decide);simpa using this
 unfold callWith;have e1:RM (RF C.prog C.w) A (evalArgs (.type "set") true [] []) (λa s'=>a=⟨[],[]⟩/\s'={s with heap:=h1,toks:=t1}) E {s with heap:=h1,toks:=t1}:=c6 (.inl rfl) (by
  unfold spliced;exact RK ⟨rfl,rfl⟩)
 refine Rp (Sr (Sf e1 (λx s₁ h₁=>Rp (SJ ?_)) λω ω x=>x));refine oA h₁ λzr zw=>?_;clear h₁;subst zr;subst zw;simp only[Y5,YW];refine Rp (m:=keeperOf (.type "set")) (RK ?_);exact Rp (Sf hc (λr s₂ hr=>Rp (Sr (YE (RK hr)))) λω ω x=>x)
theorem Key.scan{k:Key}(h:k.is v=true):v.scannable=true:=by
 rcases Key.shape h with⟨i,t,rfl,rfl⟩|⟨x,t,rfl,rfl⟩<;>rfl
theorem Rd.set_inv{S:RD->Prop}(r:Rd C.prog C.w S h v (.set ks)):∃a,v= .ref a/\S a/\h.SetOf (aw C.prog C.w) a (λk=>decide (k∈ks)) ks.length/\ks.Nodup:=r.view
theorem cw.An{k:Key}:cw C env Γ .In m1 m2 k.pv (.set ks) (.bool (decide (k∈ks))):=λA S U s h₀ v u Q E hr hh e bR rv ru hq=>by
 refine aD ru.set_inv λa zr zw=>?_;subst zr;refine dd zw λha hS _=>?_;clear zw;have hk:(aw C.prog C.w).is k v=true:=rv.key;exact wpAny_inSet_of (knd:=aw C.prog C.w) hk (Key.scan hk) hS (hq _ s.heap _ (.refl _ _ _) λω=>.bool _)
theorem cX.list(h:Ev C env Γ e md (.list xs))(aF:xs.length<=lim)(hi:autoParam (∀env whole,isTrue e env whole=(do let v ←whole;standAt e.pos;holding [v] (truthy v))) oA9._auto_1):cX C env Γ e (!xs.isEmpty):=λA S U s Q E hr hh hq=>by
 rw[hi];refine Rp (h A S U s _ E hr hh λv h' t' ex rd=>Rp (SJ (Sr ?_)));refine aP rd.aS λa vs n zr zw=>?_;subst zr;refine dd zw λha ho ra=>?_;clear zw;have e:(!vs.toArray.isEmpty)=(!xs.isEmpty):=by
  have:=ra.length;cases vs<;>cases xs<;>simp_all
 refine YY (bz.bw ho) (by have:=ra.length;unfold lim at aF;simp only[RX];omega) ?_;rw[e];exact hq h' _ ex
theorem dw.Dg(he:Ev C env Γ e md (.dict kvs))(aF:kvs.length<=lim)(hN:autoParam (C.hd=false) oA8._auto_1):dw C env Γ e md (Key.cV (kvs.map (·.1))):=λA S U s Q E hr hh hq=>by
 refine he A S U s _ E hr hh λv h1 t1 bQ rd=>?_;refine aM rd.view λd vs zr zw=>?_;subst zr;refine iC zw λhd cY hm ra=>?_;clear zw;refine fA hm λob es ep d1 d2 d3 d4 d5 d6=>?_;clear hm;have je:h1.DictAt (aw C.prog C.w) d ((kvs.map (·.1)).zip vs) ep:=⟨ob,es,d1,d2,d3,d4,d5,d6⟩;refine wpAny_pyIter_dict (s:={s with heap:=h1,toks:=t1}) (noSys cY) je ?_;have aX:d≠h1.objs.size:=Sm (Ss d1);have Bo:=ra.length;rw[Rl]at Bo;have kz:((kvs.map (·.1)).zip vs).length=(Key.cV (kvs.map (·.1))).length:=by
  unfold Key.cV;rw[UC,Rl,Rl,Rl,Bo,VG]
 have vA:∀b ob,h1.get? b=some ob->(h1.push {cls:=.type "dict_keyiterator",data:=.fields #[.ref d,.int 0 0,.int ((kvs.map (·.1)).zip vs).length 0,.int ep 0]}).get? b=some ob:=λb ob e=>Ry _ e;have W:=Walks.dictKeys (prog:=C.prog) (w:=C.w) (knd:=aw C.prog C.w) (hr.1 hN) h1.objs.size d aX ((kvs.map (·.1)).zip vs) ep;rw[kz]at W;refine hq h1.objs.size _ t1 _ _ _ (bQ.push _) (bQ.fresh_at hh.aq.ns) (bQ.df hh) W ⟨by rw[<-kz];exact⟨_,RL _ rfl,rfl,rfl⟩,je.at' λo e=>vA _ _ e⟩ ?_ ?_ ?_ ?_
 ·rintro i v ⟨key,x',hv,rt⟩;have h2:=VL.mp hv;exact⟨key.pv,by unfold Key.cV;rw[RZ,h2.1];rfl,Key.rd rt⟩
 ·intro b hb;rcases Rr.mp hb with rfl|hb
  ·exact⟨.inl rfl,by rw[RL _ rfl];rfl⟩
  ·rcases Rq.mp hb with rfl
   exact⟨.inr hd,by rw[vA _ _ d1];rfl⟩
 ·rw[<-kz,UC];exact Rk (Ur _ _) (by rw[Bo];exact Rk aF (by decide))
 ·rintro i h ⟨⟨o',jy,hc,_⟩,_⟩;exact⟨o',_,jy,hc,by decide⟩
theorem dw.Fw(hx:Γ.lookup x=some (some (nx,.aK X)))(bS:aA (env.kindOf x)=true)(cY:Rt<X.n2)(he:Ev C env Γ e m2 (.raw (.ref X.n2)))(aF:X.nodes.length<=lim)
  (zX:autoParam (md=(nx==0)) oA1._auto_1) (hN:autoParam (C.hd=false) oA8._auto_1):dw C env Γ e md (Key.cV (X.nodes.map aj.key)):=by
 have:=dw.Dg (Ev.zY hx bS cY he zX) (by rw[Rl];exact aF);rw[R6]at this;exact this
section
variable{Γ:ag}
noncomputable def E6(C:Cx)(env:Env)(rest:List Stmt)(P:cM->ag->Prop)(I:ag->Prop):cM->ag->Prop
 | .next,Γ=>I Γ
 | .cont,Γ=>I Γ
 | .brk,Γ=>ak C env Γ rest P
 | .ret pv,Γ=>P (.ret pv) Γ
 | .d' xs,Γ=>P (.d' xs) Γ
theorem ak.while{pos:Pos}(I:Nat->ag->Prop)(d9:Nat)(h0:I d9 Γ)
  (vc:∀n aE,I n aE->∃b,cX C env (cv aE) test b/\(b=true->ak C env aE body (E6 C env rest P λaf=>∃m,m<n/\I m af))/\(b=false->ak C env aE orelse (B0 C env rest P))):
  ak C env Γ (.While test body orelse pos::rest) P:=λA o s Q E hr ht hA he=>by
 refine RI (wpAny_While (codeAny_whileLoop (λn s'=>∃aE,I n aE/\aV C A env o aE s') (λn s' hI=>?_) d9 ⟨Γ,h0,hA⟩));refine aD hI λaE hi uJ=>?_;clear hI;refine bM (vc n aE hi) λb hB OI Ql=>?_;obtain⟨S,fp,gX,yC⟩:=id uJ;refine hB A S _ s' _ _ hr gX.here λh' t' ex=>?_;have gH:=uJ.ext ex t';cases b with
 |true=>
  simp only[if_true];refine OI rfl A o _ _ _ hr ht gH ⟨λs2 af hp jv=>?_,λs2 af hp jv=>?_,λs2 af hp jv=>?_,λv s2 pv af hp hR=>?_,λv s2 pv af hp hR=>he.d' v s2 pv af hp hR⟩
  ·refine aD hp λm hm hI=>?_;clear hp;exact⟨m,hm,af,hI,jv⟩
  ·exact hp A o s2 Q E hr ht jv he
  ·refine aD hp λm hm hI=>?_;clear hp;exact⟨m,hm,af,hI,jv⟩
  ·exact he.ret v s2 pv af hp hR
 |false=>
  simp only[Sx,if_false];refine Ql rfl A o _ _ _ hr ht gH ⟨λs2 af hp jv=>?_,λs2 af hp jv=>?_,λs2 af hp jv=>?_,λv s2 pv af hp hR=>?_,λv s2 pv af hp hR=>he.d' v s2 pv af hp hR⟩
  ·exact hp A o s2 Q E hr ht jv he
  ·exact he.brk s2 af hp jv
  ·exact he.cont s2 af hp jv
  ·exact he.ret v s2 pv af hp hR
theorem ak.cont{pos:Pos}(h:P .cont Γ):ak C env Γ (.Continue pos::rest) P:=λA o s Q E hr ht hA he=>RI (wpAny_Continue (he.cont s Γ h hA))
end
theorem nH{prog:Sw}{w:TG}{s:Ro}{l:RD}{items:Array Rz}{Q:Rz->Ro->Prop}(hl:s.heap.IsList l items)
  (h:Q (.ref s.heap.objs.size) {s with heap:=s.heap.push {cls:=.type "list_iterator",data:=.fields #[.ref l,.int 0 0]}}):
  RM (RF prog w) A (call (.builtin "iter") [.ref l]) Q E s:=by
 refine call_function_entry (by decide +kernel) (by decide +kernel) kdk_entry_iter (kdk_args_iter _) ?_;unfold Builtin.«iter»;refine Rp (m:=someArgs "iter" 1 2 _) (Wb (a:=[Value.ref l]) (by first|rfl|kernel_rfl!) ?_);show RM _ _ (pyIter (.ref l)>>=_) _ _ _;exact Rp (W7 hl (RK ⟨_,rfl,h⟩))
theorem BE{nd:aj}{sp:Pos}(k:bD C.K)(hx:Γ.lookup x=some (some (nx,.aK X)))(bS:aA (env.kindOf x)=true)(aG:nd∈X.nodes)(ho:Ev C env Γ oe m2 (.raw (.ref nd.loc)))
  (lI:∀env,eval (.Attribute oe "successors" sp) env=(do
   let o ←eval oe env
   standAt sp.atName
   let r ←holding [o] (getAttr o "successors" true)
   letTemporaryGo oe o r
   pure r))
  {S:RD->Prop} {s:Ro} {Q:Rz->Ro->Prop}  (hr:aB C A) (hh:Here C A S U env Γ s.heap)
  (hq:∀h' t',Ext A env s.heap h'->da h' nd->Q (.ref nd.lst) {s with heap:=h',toks:=t'}):RM (RF C.prog C.w) A (eval (.Attribute oe "successors" sp) env) Q E s:=by
 refine TV ?_ (lI env);refine ho A S U s _ E hr hh λv h' t' ex rd=>?_;cases rd.aQ;refine bM ((hh.ext ex).aK hx bS) λa _ hf hs=>?_;have r:=hs.nodes nd aG;refine aM (fE r) λkv t jw I=>?_;obtain⟨p,h1,h2,h3,h4,h5,h6⟩:=k.slots (x:="successors") (i:=2) (by decide);have X:=(hh.ext ex).base.cB;exact ja X I (aL k.ni _) (cG k.ni) h1 h2 h3 h4 (v:=.ref nd.lst) rfl rfl (hq h' _ ex r)
theorem dr.z'{nd:aj}{sp pos apos:Pos}{id:Str}{kk:Nat}(k:bD C.K)(hx:Γ.lookup x=some (some (nx,.aK X)))(bS:aA (env.kindOf x)=true)(aG:nd∈X.nodes)(ho:Ev C env Γ oe m2 (.raw (.ref nd.loc)))
  (hf:Ev C env Γ (.Name id p) true (.raw (.builtin "iter")))
  (lI:autoParam (∀env,eval (.Attribute oe "successors" sp) env=(do
   let o ←eval oe env
   standAt sp.atName
   let r ←holding [o] (getAttr o "successors" true)
   letTemporaryGo oe o r
   pure r)) oA6._auto_1)
  (LN:autoParam (∀env,eval (.Attribute (.Call (.Name id p) [.Attribute oe "successors" sp] [] pos) "__next__" apos) env=(do
   let o ←eval (.Call (.Name id p) [.Attribute oe "successors" sp] [] pos) env
   standAt apos.atName
   let r ←holding [o] (getAttr o "__next__" true)
   letTemporaryGo (.Call (.Name id p) [.Attribute oe "successors" sp] [] pos) o r
   pure r)) oA6._auto_1)
  (aX:autoParam (∀env,SF pos (RV [.Attribute oe "successors" sp] env)=[(false,eval (.Attribute oe "successors" sp) env)]) oA2._auto_1):
  dr C env Γ (.Attribute (.Call (.Name id p) [.Attribute oe "successors" sp] [] pos) "__next__" apos) (kk+1) (.i6 (some (nd.lst,0))):=λA S U s Q E hr hh hq=>by
 refine TV ?_ (LN env);refine TC ?_;refine hf A S U s _ E hr hh λv h1 t1 bQ rd=>?_;cases rd.aQ;rw[aX];refine eR (.inr ⟨_,rfl⟩) ⟨_,_,rfl⟩ rfl ?_;refine Tr (BE (s:={s with heap:=h1,toks:=t1}) k hx bS aG ho lI hr (hh.ext bQ) λh2 t2 c7 r2=>Ud ?_);refine aM r2.list λvs n o2 _=>?_;refine nH (bz.bw o2) ?_
 let it:RD:=h2.objs.size
 let h3:Heap:=h2.push {cls:=.type "list_iterator",data:=.fields #[.ref nd.lst,.int 0 0]}
 have Hg:h3.get? it=some {cls:=.type "list_iterator",data:=.fields #[.ref nd.lst,.int 0 0]}:=RL _ rfl;have kE:=bQ.trans c7;have iF:Ext A env s.heap h3:=kE.push _;refine xG (h:=h3) Hg ?_
 let h4:Heap:=h3.push (cz it)
 have Ow:h4.get? h3.objs.size=some (cz it):=RL _ rfl;have Oh:h4.get? it=some {cls:=.type "list_iterator",data:=.fields #[.ref nd.lst,.int 0 0]}:=Ry _ Hg;have Am:Ext A env s.heap h4:=iF.push _;have LB:h3.objs.size≠it:=by
  have:=Ss Hg;exact TA this
 refine hq (.ref h3.objs.size) h4 _ [h3.objs.size,it] Am (.i6 Ow (by rw[Oh];rfl) λl i e=>?_) ?_ λa ha=>?_
 ·cases e;exact⟨_,Oh,rfl,rfl⟩
 ·simp[LB]
 ·simp only[Rr,RN,or_false]at ha;rcases ha with rfl|rfl
  ·exact⟨iF.fresh_at hh.aq.ns,iF.df hh⟩
  ·exact⟨kE.fresh_at hh.aq.ns,kE.df hh⟩
section
variable{S:RD->Prop}
theorem aC.Lv{n:Nat}(r:aC C S h (n+1) v (.set ks) f):∃a,v= .ref a/\f=[a]/\h.SetOf (aw C.prog C.w) a (λk=>decide (k∈ks)) ks.length/\ks.Nodup:=r.view
theorem aC.listS{n:Nat}(r:aC C S h (n+1) v (.list xs) f):∃a vs m cW,v= .ref a/\f=a::cW/\h.get? a=some (gN vs m)/\ar C S h n vs xs cW:=r.view
theorem aC.Gm{n:Nat}{p:Option (RD×Nat)}(r:aC C S h (n+1) v (.i6 p) f):∃b it,v= .ref b/\f=[b,it]/\h.get? b=some (cz it)/\(h.get? it).isSome=true/\∀l i,p=some (l,i)->h.IsListIter it l i:=r.view
theorem ar.EZ{k:Nat}(r:ar C S h k vs [] f):f=[]:=ar.ind (P:=λω xs f=>xs=[]->f=[]) (λω=>rfl) (λω ω ω ω ω ω ω ω ω e=>nomatch e) r rfl
theorem ar.snoc_inv{k:Nat}{x:PV}(r:ar C S h k vs (xs++[x]) f):∃us u g e,vs=us++[u]/\f=g++e/\ar C S h k us xs g/\aC C S h k u x e:=
 ar.ind (P:=λvs zs f=>∀xs,zs=xs++[x]->∃us u g e,vs=us++[u]/\f=g++e/\ar C S h k us xs g/\aC C S h k u x e) (λxs e=>by cases xs<;>cases e) (λv vs y ys f fs a b ih xs e=>by
  cases xs with
  |nil=>
   obtain⟨rfl,rfl⟩:=We e;refine⟨[],v,[],f,?_,?_,.nil,a⟩
   ·rw[SI.mp b.length];rfl
   ·rw[ar.EZ b];exact SP _
  |cons z zs=>
   obtain⟨rfl,rfl⟩:=We e;obtain⟨us,u,g,e,rfl,rfl,h1,h2⟩:=ih zs rfl;exact⟨v::us,u,f++g,e,rfl,(Sq f g e).symm,.cons a h1,h2⟩) r xs rfl
end
section
variable{Γ:ag}
theorem ak.D6{pos:Pos}{n:Nat}{key:Key}(hx:Γ.lookup x=some (some (n+1,.set ks)))(hE:Ev C env (cv Γ) arg true key.pv)(hk:key∉ks)(aF:ks.length<=4000)(hi:interactive env=false)
  (k:ak C env ((x,some (n+1,.set (ks++[key])))::Γ) rest P)
  (cy:autoParam (dD pos env [arg]) oA1._auto_1)
  (aW:autoParam ((apos.endLine==pos.line)=true) oA1._auto_1) (bg:autoParam (SF pos (RV [arg] env)=[(false,eval arg env)]) oA1._auto_1)
  (hs:autoParam (SR (.Call (.Attribute (.Name x px) "add" apos) [arg] [] pos) none fq.line env=pure false) oA1._auto_1) (hd:autoParam (bk x) oA1._auto_1):
  ak C env Γ (.Expr (.Call (.Attribute (.Name x px) "add" apos) [arg] [] pos) fq::rest) P:=λA o s Q E hr ht hA he=>by
 refine RI (Uh ?_ hi hs);refine Tq rfl cy aW PySem.F.plainAttrs_set PySem.F.slot_set_add PySem.F.type_set_add ?_;obtain⟨S,fp,hA,av⟩:=hA;obtain⟨bS,v,hv,ro⟩:=hA.vars x _ _ hx;refine aD ro.Lv λa zr zw=>?_;subst zr;refine dd zw λhf hS aG=>?_;clear zw;refine Sz (ao hA.aq hv ?_) hd;refine⟨hS.typeIs,hS.noDict,?_⟩;rw[bg];refine Xu rfl (evalArgs_plain (Tr ?_));refine hE A S _ s _ E hr hA.here λu h1 t1 ex rd=>Ud ?_;have ha:a∈fp x:=by rw[hf];simp
 have jS: ¬Fz A env a:=gG hA ha;have Pg:h1.SetOf (aw C.prog C.w) a (λk=>decide (k∈ks)) ks.length:=jC.at hS λob e=>ex.keep a ob jS e;have Jt:(aw C.prog C.w).is key u=true:=rd.key;refine call_set_add (s:={s with heap:=h1,toks:=t1}) Jt (Key.scan Jt) Pg (by show _<4096;omega) λh2 jK mQ=>?_;refine k A o _ Q E hr ht (aV.upd hA av ex bS hv (λb=>b=a) (h₁:=h2) (f':=[a]) (n:=n+1) (pv:=.set (ks++[key])) (λb ob hb e=>(jK.2 b hb).trans e) (λb hb=>by rw[hb];exact ha) (λb hb=>?_) (λb hb=>.inl (by rw[Rq.mp hb];exact ha)) (by simp) (.set ?_ ?_) _) he
 ·subst hb;refine cU mQ λob _ _ _ ho _=>?_;clear mQ;rw[ho];rfl
 ·have e1:(λk'=>decide (k'∈ks)||decide (k'=key))=λk'=>decide (k'∈ks++[key]):=by
   funext k';simp
  have e2:(if decide (key∈ks)=true then ks.length else ks.length+1)=(ks++[key]).length:=by simp[hk]
  rw[e1,e2]at mQ;exact mQ
 ·rw[RH];exact⟨aG,by simp,λb hb c hc=>by simp at hc;subst hc;rintro rfl;exact hk hb⟩
theorem ak.CR{pos:Pos}{n:Nat}(hx:Γ.lookup x=some (some (n+1,.list ys)))(hE:dr C env (cv Γ) arg n y)(aF:ys.length<=lim)(hi:interactive env=false)
  (k:ak C env ((x,some (n+1,.list (ys++[y])))::Γ) rest P)
  (cy:autoParam (dD pos env [arg]) oA1._auto_1)
  (aW:autoParam ((apos.endLine==pos.line)=true) oA1._auto_1) (bg:autoParam (SF pos (RV [arg] env)=[(false,eval arg env)]) oA1._auto_1)
  (hs:autoParam (SR (.Call (.Attribute (.Name x px) "append" apos) [arg] [] pos) none fq.line env=pure false) oA1._auto_1) (hd:autoParam (bk x) oA1._auto_1):
  ak C env Γ (.Expr (.Call (.Attribute (.Name x px) "append" apos) [arg] [] pos) fq::rest) P:=λA o s Q E hr ht hA he=>by
 refine RI (Uh ?_ hi hs);refine Tq rfl cy aW TK UQ UP ?_;obtain⟨S,fp,hA,av⟩:=hA;obtain⟨bS,v,hv,ro⟩:=hA.vars x _ _ hx;obtain⟨a,vs,m,cW,rfl,hf,ho,rs⟩:=ro.listS;refine Sz (ao hA.aq hv ?_) hd;refine⟨⟨_,ho,rfl⟩,λb e=>by cases e;exact⟨_,ho,rfl⟩,?_⟩;rw[bg];have ha:a∈fp x:=by rw[hf];simp
 have aG:=hA.c9 x;rw[hf]at aG;have gw:a∉cW/\cW.Nodup:=by simpa using aG
 refine Vp ?_;refine hE A S _ s _ E hr hA.here λu h1 t1 g ex rg Pj hg=>?_;have jS: ¬Fz A env a:=gG hA ha;have Bj:=ex.keep a _ jS ho;refine aD (gc Bj (λxs=>xs.push u) (us:=vs++[u]) (by simp)) λq HI jK=>?_;refine⟨vs.toArray,m,?_,Bj,?_⟩
 ·have:=rs.length;unfold lim at aF;simp only[RX,this];show _<=2^24;omega
 let h2:Heap:=h1.update a (Us λxs=>xs.push u)
 have Gj:∀b∈cW,¬Fz A env b:=λb hb=>gG hA (by rw[hf];exact Rn _ hb);have Nh:a∉g:=λhm=>by have:=(hg a hm).1;rw[ho]at this;cases this
 have OA:∀b∈cW,b∉g:=λb hb hm=>by
  have h1:=(hg b hm).1;have h2:=rs.there b hb;rw[h1]at h2;cases h2
 let R:RD->Prop:=λb=>S b\/(s.heap.get? b=none/\(h1.get? b).isSome=true/\b∉a::(cW++g))
 have CX:∀b,S b->b≠a:=λb hb e=>(hA.aO b hb).2.2 x (by rw[hf,e];simp);have GG:∀b,S b->∀o,s.heap.get? b=some o->h2.get? b=some o:=λb hb o e=>(jK.2 b (CX b hb)).trans (ex.keep b o (λhz=>(hA.aO b hb).2.1 (.inl hz)) e);have r1:ar C R h2 n vs ys cW:=rs.mono (λb hb=>.inl hb) (λb o hb e=>GG b hb o e) λb hb o e=>(jK.2 b (λe'=>gw.1 (e'▸hb))).trans (ex.keep b o (Gj b hb) e);have r2:aC C R h2 n u y g:=rg.gu.mono (λb hb=>by
   refine oA hb λrE Qc=>?_;clear hb;obtain⟨uK,uw⟩:=rE;rcases uK with uK|uK
   ·exact .inl uK
   ·refine .inr ⟨uK,Qc,λhm=>?_⟩;rcases Rr.mp hm with rfl|hm
    ·rw[ho]at uK;cases uK
    ·rcases Rw.mp hm with hm|hm
     ·have:=rs.there b hm;rw[uK]at this;cases this
     ·exact uw hm)
  (λb o hb e=>(jK.2 b (λe'=>by
   refine oA hb λrE _=>?_;clear hb;obtain⟨uK,_⟩:=rE;rcases uK with uK|uK
   ·exact CX b uK e'
   ·rw[e',ho]at uK;cases uK)).trans e)
  (λb hb o e=>(jK.2 b (λe'=>Nh (e'▸hb))).trans e)
 have r3:aC C R h2 (n+1) (.ref a) (.list (ys++[y])) (a::(cW++g)):=.list HI (r1.append (ar.one r2));refine k A o _ Q E hr ht (aV.upd hA av ex bS hv (λb=>b=a) (h₁:=h2) (f':=a::(cW++g)) (n:=n+1) (pv:=.list (ys++[y])) (λb ob hb e=>(jK.2 b hb).trans e) (λb hb=>by rw[hb];exact ha) (λb hb=>by rw[hb,HI];rfl) (λb hb=>?_) ?_ r3 _) he
 ·rcases Rr.mp hb with rfl|hb
  ·exact .inl ha
  ·rcases Rw.mp hb with hb|hb
   ·exact .inl (by rw[hf];exact Rn _ hb)
   ·exact .inr (hg b hb)
 ·rw[RO,RH];refine⟨λhm=>?_,gw.2,Pj,λb hb c hc e=>OA b hb (e▸hc)⟩;rcases Rw.mp hm with hm|hm
  ·exact gw.1 hm
  ·exact Nh hm
end
theorem aZ.unique(a:aZ h env x u)(b:aZ h env x v):u=v:=by
 rcases a with⟨h1,m,h2,h3⟩|⟨h1,h0,c,h2,o,h3,h4⟩<;>rcases b with⟨g1,m',g2,g3⟩|⟨g1,g0,c',g2,o',g3,g4⟩
 ·have:=h2.agree g2 x;rw[h3,g3]at this;exact R7 this
 ·rcases g1 with g1|g1<;>rw[h1]at g1<;>cases g1
 ·rcases h1 with h1|h1<;>rw[g1]at h1<;>cases h1
 ·rw[h2]at g2;cases g2;rw[h3]at g3;cases g3;rw[h4]at g4;simp at g4;exact g4
theorem qT{prog:Sw}{w:TG}{s:Ro}{d:RD}{kvs:List (Key×Rz)}{k:Key}{key:Rz}{Q:Unit->Ro->Prop}(rt:(aw prog w).is k key=true)
  (hD:s.heap.DictOf (aw prog w) d kvs) (aF:kvs.length<=sizeLine) (hl:(valueAt kvs k).isSome=true)
  (h:∀h',h'.DictOf (aw prog w) d (without kvs k)->Ul d s.heap h'->Q () {s with heap:=h',toks:=s.toks+1}):
  RM (RF prog w) A (delItem (.ref d) key) Q E s:=by
 unfold delItem
 try with_reducible refine Sr ?_
 refine Rp (YZ hD.typeIs (by decide) ?_);refine Rp (XU (name:=So "__delitem__") hD.typeIs WV
  (call_meetsIn WV hD.typeIs PySem.F.entry_dict_delitem (PySem.F.args_dict_delitem_2 _ _) (meets_dict_delitem_pairs (aw prog w) d rt) ⟨kvs,hD,aF,hl,λh' QL hs=>?_⟩))
 exact RK (h h' QL hs)
section
variable{S:RD->Prop}
theorem tT(k:Key):∀ {vs:List Rz},ab C.prog C.w S h vs (kvs.map (·.2))->
  ∃us,without ((kvs.map (·.1)).zip vs) k=(((kvs.filter λp=>decide (p.1≠k)).map (·.1)).zip us)/\ab C.prog C.w S h us ((kvs.filter λp=>decide (p.1≠k)).map (·.2)):=by
 induction kvs with
 |nil=>exact λ{vs} _=>⟨[],by cases vs<;>rfl,.nil⟩
 |cons p kvs ih=>
  intro vs r;obtain⟨a,x⟩:=p;cases vs with
  |nil=>cases r
  |cons v vs=>
   cases r with
   |cons r1 r2=>
    refine aD (ih r2) λus e r=>?_;unfold without at e⊢;simp only[Sl,UZ,S9];by_cases hk:a=k
    ·simp only[hk,ne_eq,not_true_eq_false,decide_false,Sx,if_false];exact⟨us,e,r⟩
    ·simp only[ne_eq,hk,not_false_eq_true,decide_true,if_true,Sl];exact⟨v::us,by rw[UZ,<-e],.cons r1 r⟩
theorem uZ(us:List Rz)(u:Rz):(us++[u]).toArray.eraseIdxIfInBounds ((us++[u]).toArray.size - 1)=us.toArray:=by
 have:(us++[u]).toArray.size - 1=us.length:=by simp
 rw[this];apply Zq;simp[Array.eraseIdxIfInBounds,Wx]
end
section
variable{Γ:ag}{s:Ro}
theorem Dm{pos:Pos}{n:Nat}{Q:Rz->Ro->Prop}(hA:aV C A env o Γ s)(hx:Γ.lookup x=some (some (n+1,.list (ys++[y]))))(aF:ys.length+1<=lim)
  (k:∀u h' t' R e,aV C A env o ((x,some (n+1,.list ys))::Γ) {s with heap:=h',toks:=t'}->aC C R s.heap n u y e->(∀z v,aZ s.heap env z v->aZ h' env z v)->Q u {s with heap:=h',toks:=t'})
  (cy:autoParam (dD pos env []) oA1._auto_1)
  (aW:autoParam ((apos.endLine==pos.line)=true) oA1._auto_1) (hd:autoParam (bk x) oA1._auto_1):
  RM (RF C.prog C.w) A (eval (.Call (.Attribute (.Name x px) "pop" apos) [] [] pos) env) Q E s:=by
 refine Tq rfl cy aW TK PySem.F.slot_list_pop PySem.F.type_list_pop ?_;obtain⟨S,fp,hA,av⟩:=hA;obtain⟨bS,v,hv,ro⟩:=hA.vars x _ _ hx;obtain⟨a,vs,m,cW,rfl,hf,ho,rs⟩:=ro.listS;obtain⟨us,u,g,e,rfl,rfl,r1,r2⟩:=rs.snoc_inv;refine Sz (ao hA.aq hv ?_) hd;refine⟨⟨_,ho,rfl⟩,λb e=>by cases e;exact⟨_,ho,rfl⟩,?_⟩;have e0:SF pos (RV [] env)=[]:=rfl;rw[e0];have hlen:=r1.length;have ha:a∈fp x:=by rw[hf];simp
 have aG:=hA.c9 x;rw[hf]at aG;have gw:a∉g++e/\(g++e).Nodup:=by simpa only[RO]using aG
 refine PySem.P.pop_list (items:=(us++[u]).toArray) (n:=m) ho (y:=u) (by simp) ?_ (by simp only[RX,RQ,UD,hlen];unfold lim at aF;show _<=2^24;omega);refine aD (gc ho (λxs=>xs.eraseIdxIfInBounds ((us++[u]).toArray.size - 1)) (us:=us) (uZ us u)) λq HI jK=>?_
 let h2:Heap:=s.heap.update a (Us λxs=>xs.eraseIdxIfInBounds ((us++[u]).toArray.size - 1))
 have CX:∀b,S b->b≠a:=λb hb e=>(hA.aO b hb).2.2 x (by rw[hf,e];simp);have jS: ¬ax A env a:=(hA.fold x a ha).2.1;refine k u h2 s.toks S e (aV.upd (h':=s.heap) hA av (.refl _ _ _) bS hv (λb=>b=a) (h₁:=h2) (f':=a::g) (n:=n+1) (pv:=.list ys) (λb ob hb e=>(jK.2 b hb).trans e) (λb hb=>by rw[hb];exact ha) (λb hb=>by rw[hb,HI];rfl) (λb hb=>?_) ?_ ?_ _) r2 λz v hz=>?_
 ·rcases Rr.mp hb with rfl|hb
  ·exact .inl ha
  ·exact .inl (by rw[hf];exact Rn _ (RC _ hb))
 ·rw[RO];exact⟨λhm=>gw.1 (RC _ hm),(RH.mp gw.2).1⟩
 ·refine .list HI (r1.mono (λb hb=>.inl hb) (λb o hb e=>(jK.2 b (CX b hb)).trans e) λb hb o e=>(jK.2 b (λe'=>gw.1 (e'▸RC _ hb))).trans e)
 ·have hl:env.locals≠a:=λe=>jS (.inl (.inl e.symm));rcases hz with⟨h1,m',g2,g3⟩|⟨h1,h0,c,g2,o',g3,g4⟩
  ·exact .inl ⟨h1,m',g2.sameBut jK hl,g3⟩
  ·exact .inr ⟨h1,h0,c,g2,o',(jK.2 c (λe=>jS (.inr ⟨z,by rw[<-e];exact g2⟩))).trans g3,g4⟩
theorem ak.pop{pos:Pos}{n:Nat}(hx:Γ.lookup x=some (some (n+1,.list (ys++[y]))))(aF:ys.length+1<=lim)(hi:interactive env=false)(k:ak C env ((x,some (n+1,.list ys))::Γ) rest P)
  (cy:autoParam (dD pos env []) oA1._auto_1)
  (aW:autoParam ((apos.endLine==pos.line)=true) oA1._auto_1) (hs:autoParam (SR (.Call (.Attribute (.Name x px) "pop" apos) [] [] pos) none fq.line env=pure false) oA1._auto_1) (hd:autoParam (bk x) oA1._auto_1):
  ak C env Γ (.Expr (.Call (.Attribute (.Name x px) "pop" apos) [] [] pos) fq::rest) P:=λA o s Q E hr ht hA he=>
 RI (Uh (Dm hA hx aF (λu h' t' R e bF ω ω=>k A o _ Q E hr ht bF he) cy aW hd) hi hs)
theorem aC.IQ{S:RD->Prop}(r:aC C S h 1 v (.dict kvs) f):∃a vs,v= .ref a/\f=[a]/\Rt<a/\h.DictOf (aw C.prog C.w) a ((kvs.map (·.1)).zip vs)/\ab C.prog C.w S h vs (kvs.map (·.2)):=r.Ie
theorem ak.DQ{d:Str}{pd pos sp KZ:Pos}{key:Key}(hd:Γ.lookup d=some (some (1,.dict kvs)))(hx:Γ.lookup x=some (some (1,.list (ys++[key.pv]))))(aX:d≠x)(aF:ys.length+1<=lim)(H4:kvs.length<=lim)(cO:(dP kvs key).isSome=true)
  (k:ak C env ((d,some (1,.dict (kvs.filter λp=>decide (p.1≠key))))::(x,some (1,.list ys))::Γ) rest P)
  (cy:autoParam (dD pos env []) oA1._auto_1)
  (aW:autoParam ((apos.endLine==pos.line)=true) oA1._auto_1) (rN:autoParam (bk x) oA1._auto_1) (PU:autoParam (bk d) oA1._auto_1):
  ak C env Γ (.Delete [.Subscript (.Name d pd) (.Call (.Attribute (.Name x px) "pop" apos) [] [] pos) sp] KZ::rest) P:=λA o s Q E hr ht hA he=>by
 refine RI (wpAny_Delete ?_);have e1:deleteEach [Expr.Subscript (.Name d pd) (.Call (.Attribute (.Name x px) "pop" apos) [] [] pos) sp] env=(do delete (.Subscript (.Name d pd) (.Call (.Attribute (.Name x px) "pop" apos) [] [] pos) sp) env;deleteEach [] env):=rfl;rw[e1];refine Rp (delete_Subscript ?_);obtain⟨S0,Rb,pO,IG⟩:=id hA;refine ei (pO.vars d _ _ hd) λbS v hv ro=>?_;refine Sz (ao pO.aq hv ?_) PU;refine Dm hA hx aF (λu h' t' R e gX ru Qk=>?_) cy aW rN;obtain⟨S,fp,gX,av⟩:=gX;have Bc:((x,some (1,PV.list ys))::Γ:ag).lookup d=some (some (1,.dict kvs)):=by rw[eZ aX];exact hd
 refine ei (gX.vars d _ _ Bc) λ_ v' F9 OG=>?_;have:=(Qk d v hv).unique F9;subst this;refine aM OG.IQ λa vs zr zw=>?_;subst zr;refine iC zw λhf cY hD ra=>?_;clear zw;have Jt:(aw C.prog C.w).is key u=true:=by
  refine oA ru.zero λr _=>?_;exact r.key
 have Ki:=iU key ra;have Kd:(valueAt ((kvs.map (·.1)).zip vs) key).isSome=true:=by
  cases hg:dP kvs key with
  |none=>rw[hg]at cO;cases cO
  |some y=>rw[hg]at Ki;refine aD Ki λw' e' _=>?_;clear Ki;rw[e'];rfl
 have ha:a∈fp d:=by rw[hf];simp
 refine qT (s:={s with heap:=h',toks:=t'}) Jt hD (by rw[UC,Rl];unfold lim at H4;show _<=2^24;omega) Kd λh2 Jg jK=>?_;refine aD (tT key ra) λus eu QJ=>?_;rw[eu]at Jg;have CX:∀b,S b->b≠a:=λb hb e=>(gX.aO b hb).2.2 d (by rw[hf,e];simp);refine wpAny_deleteEach_nil ?_;refine k A o _ Q E hr ht (aV.upd (s:={s with heap:=h',toks:=t'}) (h':=h') gX av (.refl _ _ _) bS F9 (λb=>b=a) (h₁:=h2) (f':=[a]) (n:=1) (pv:=.dict (kvs.filter λp=>decide (p.1≠key))) (λb ob hb e=>(jK.2 b hb).trans e) (λb hb=>by rw[hb];exact ha) (λb hb=>?_) (λb hb=>.inl (by rw[Rq.mp hb];exact ha)) (by simp) ?_ _) he
 ·subst hb;refine aP Jg λob _ _ ho _=>?_;clear Jg;rw[ho];rfl
 ·exact .dict cY Jg (ar.p9 (QJ.mono (λb hb=>.inl hb) λb ob hb e=>(jK.2 b (CX b hb)).trans e))
end
section
variable{s:Ro}
theorem sJ{base:Heap}{outer:List Env}{e:RD}{oe:Obj}{vs:Array Rz}{a0:Rz}{Q:Unit->Ro->Prop}
  (du:A.frames=some (env::outer)) (hl:s.heap.FunFrames base (env::outer)) (hf:env.frame=some L)
  (he:s.heap.get? e=some oe) (I4:base.StaysIn s.heap) (Gh:base.get? e=none) (hd:oe.data= .fields vs) (h1:vs[1]?=some .none) (h0:vs[0]?=some a0)
  (h:∀h',Heap.HeldW base (env::outer) e oe.cls a0 L h'->s.heap.UpToSlots h'->Q () {s with heap:=h'}):RM M A (noteFrame (.ref e) env) Q E s:=by
 unfold noteFrame;simp only[hf];refine Rp (WJ he hd h1 ?_);rw[if_neg (by decide)];refine wpAny_entryW du hl hf he I4 Gh hd (W6.mp h1).1 h0 λh' hN=>?_;refine iC hN λk1 k2 k3 k4=>?_;clear hN;exact h h' ⟨k1,Gh,k2,k3⟩ k4
end
section
variable{S:RD->Prop}{fp:Str->List RD}{Γ:ag}{s₁:Ro}
theorem caught_here{X:String}{tn:Str}{iI:Pos}{more:List ExceptHandler}{e t:RD}{vs:Array Rz}{Q:Flow->Ro->Prop}(g9:j1 A env)(hA:At C A env S fp Γ h₁)
  (zJ:∀a b,h₁.get? a=some b->s₁.heap.get? a=some b) (Gh:h₁.get? e=none) (he:s₁.heap.get? e=some {cls:=.type X,data:=.fields vs}) (h0:vs[0]?=some (.ref t)) (h1:vs[1]?=some .none)
  (hk:env.kindOf tn=some .globalImplicit) (hg:C.glob tn=none) (hb:bootBuiltins tn=some (.type T))
  (zB:Ux (.type T) (.type "BaseException")=pure true) (Hb:Ux (.type ((V5 T).elim "type" λx=>x.metatype)) (.type "tuple")=pure false) (ml:Ux (.type X) (.type T)=pure true)
  (oz:∀h4 E',dv A h₁ h4->RM (RF C.prog C.w) (A.mark (some (.ref e))) (execs (tb::l6) env) Q E' {s₁ with heap:=h4})
  (sO:autoParam (tn≠"__name__") oA3._auto_1) (eg:autoParam (bk tn) oA1._auto_1):
  RM (RF C.prog C.w) A (noteFrame (.ref e) env) (λω s₂=>RM (RF C.prog C.w) A (setFlight (.ref e) none) (λω cL=>RM (RF C.prog C.w) A (handleBy (.ref e) env (.ExceptHandler (some (.Name tn tp)) none (tb::l6) iI::more)) Q E cL) E s₂) E s₁:=by
 refine oE g9.fr λl du=>?_;have yJ:fc C A s₁.heap:=hA.bE.move λa o ω ho hd=>⟨o,zJ a o ho,hd⟩;have tL:∀a,a∈(env::l).filterMap (·.frame)↔onStack A a:=λa=>by
  unfold onStack;rw[du];simp only[Uu,Wc];exact⟨λ⟨e,h1,h2⟩=>⟨_,rfl,e,h1,h2⟩,λ⟨_,h0,e,h1,h2⟩=>⟨e,by rw[h0];exact h1,h2⟩⟩
 let gl:List RD:=e::(env::l).filterMap (·.frame)
 let base:=TI.gone s₁.heap gl
 have aJ:∀a ob,a∉gl->s₁.heap.get? a=some ob->base.get? a=some ob:=λa ob hn ho=>(TI.gone_get hn).trans ho;have hF:s₁.heap.FunFrames base (env::l):=by
  refine aD yJ.ex λl' vP rU=>?_;rw[du]at vP;cases vP;have key:∀BN:List Env,(∀e'∈BN,e'∈env::l)->s₁.heap.FunFrames base BN:=by
   intro BN
   induction BN with
   |nil=>intro _;trivial
   |cons e' r ih=>
    intro hm;refine fP (rU e' (hm e' Rm)) λg0 L ob es ep g1 _ _ g4 g5=>?_;refine⟨g0,⟨L,ob,g1,Wg ?_,g4,λvs q=>by rw[g5]at q;cases q⟩,ih λx hx=>hm x (Rn _ hx)⟩;exact Rn _ (Uu.mpr ⟨e',hm e' Rm,g1⟩)
  exact key _ λω h=>h
 have jF:∀ {b:Obj},(∃es ep,b.data= .dict es ep)->∀vs,b.data≠.fields vs:=λ{b} ⟨es,ep,h⟩ vs q=>by rw[h]at q;cases q
 refine sJ (base:=base) (outer:=l) (L:=env.locals) (a0:=.ref t) du hF g9.own he (ow _ _) (Wg Rm) rfl h1 h0 λha Ak F8=>?_;refine wpAny_landsW (s:={s₁ with heap:=ha}) Ak λiG i0 Ma=>?_;have tN:∀ {h':Heap},base.StaysIn h'->(∀a b,onStack A a->s₁.heap.get? a=some b->(∃es ep,b.data= .dict es ep)->∃sl,h'.get? a=some {b with slots:=sl})->dv A h₁ h':=λ{h'} k1 k2=>by
  refine⟨λa b hs hb=>k1 a b (aJ a b (λhm=>?_) (zJ a b hb)),λa b hs hb=>?_⟩
  ·rcases Rr.mp hm with hm|hm
   ·rw[hm,Gh]at hb;cases hb
   ·exact hs ((tL a).mp hm)
  ·refine eQ (hA.bE.high hs) λ_ _ ob es ep h4 h5=>?_;rw[hb]at h4;cases h4;exact k2 a b hs (zJ a b hb) ⟨es,ep,h5⟩
 have IF:∀a b,onStack A a->s₁.heap.get? a=some b->(∃es ep,b.data= .dict es ep)->∃sl,iG.get? a=some {b with slots:=sl}:=λa b ω hb hd=>by
  refine oE (F8 a b hb (jF hd)) λsl h1=>?_;refine oE (Ma a _ h1 (jF hd)) λsI h2=>?_;exact⟨sI,h2⟩
 have k2:dv A h₁ iG:=tN i0.1 IF;have gH:=hA.ext (k2.ext (env:=env)) (λω=>False) λa ha=>ha.elim;refine wpAny_handleBy_builtin (b:=true) zB Hb ml ?_;refine Sz (bu (C:=C) gH.cx gH.base gH.aq hk (.inr ⟨hg,sO,hb⟩) ?_) eg;refine⟨rfl,i0.there,?_⟩;simp only[if_true];refine Yf (s:={s₁ with heap:=iG}) i0.1 i0.2.2.1 i0.2.2.2.at λh4 b1 b2 b3 b4=>?_;have k4:dv A h₁ h4:=tN b1 λa b hs hb hd=>by
  refine oE (IF a b hs hb hd) λsl h1=>?_;exact⟨sl,b4 a _ h1 (jF hd)⟩
 exact oz h4 _ k4
end
section
variable{Γ:ag}
theorem ak.B8{y xs tn sv:Str}{pn sp pf bp iI pos:Pos}{ie:Expr}{ps:List PV}{n:Nat}{nd:aj}(hN:C.hd=false)(hx:Γ.lookup xs=some (some (n+2,.list (ps++[.i6 (some (nd.lst,i))]))))(hs:Γ.lookup sv=some (some (0,.aK X)))(aG:nd∈X.nodes)
  (hi:Ev C env (cv Γ) ie true (.int (-1))) (aF:ps.length+1<=lim) (hy:env.kindOf y=some .local\/env.kindOf y=some .cell)
  (hk:env.kindOf tn=some .globalImplicit) (hg:C.glob tn=none) (hb:bootBuiltins tn=some (.type "StopIteration"))
  (item:∀k,nd.succ[i]?=some k->P .brk ((y,some (0,k.pv))::(xs,some (n+2,.list (ps++[.i6 (some (nd.lst,i+1))])))::Γ))
  (last:nd.succ[i]?=none->ak C.kR env ((xs,some (n+2,.list (ps++[.i6 none])))::Γ) (tb::l6) (λfl af=>fl= .next/\ak C env af rest P))
  (fe:autoParam (y≠"__classdict__") oA3._auto_1) (sO:autoParam (tn≠"__name__") oA3._auto_1) (eg:autoParam (bk tn) oA1._auto_1) (oN:autoParam (bk xs) oA1._auto_1)
  (Bb:autoParam (∀env,SR (.Call (.Subscript (.Name xs px) ie sp) [] [] pf) (some (.Name y pn)) apos.line env=pure false) oA2._auto_1)
  (HQ:autoParam (∀env,eval (.Call (.Subscript (.Name xs px) ie sp) [] [] pf) env=(do callWith pf (←eval (.Subscript (.Name xs px) ie sp) env) [] [] [])) oA2._auto_1)
  (eY:autoParam (kB ie) oA7._auto_1):
  ak C env Γ (.Try [.Assign [.Name y pn] (.Call (.Subscript (.Name xs px) ie sp) [] [] pf) apos,.Break bp] [.ExceptHandler (some (.Name tn tp)) none (tb::l6) iI] [] [] pos::rest) P:=λA o s Q E hr ht hA he=>by
 refine RI (Xo (RI (V4 ?_ (Bb env))));rw[HQ];refine O7 λQ1 E1 hQ hE=>?_;obtain⟨S,fp,hA,av⟩:=hA;refine ei (hA.vars xs _ _ hx) λbS v hv ro=>?_;obtain⟨a,vs,m,cW,rfl,hf,ho,rs⟩:=ro.listS;refine cU rs.snoc_inv λus u g ee zr zw=>?_;subst zr;refine oA zw λzr Hr=>?_;clear zw;subst zr;refine oA Hr λr1 r2=>?_;clear Hr;obtain⟨b,it,rfl,rfl,fo,hit,JX⟩:=r2.Gm;have hlen:=r1.length;refine Rp (Subscript_ (Sz (ao hA.aq hv ?_) oN));refine hi A S _ s _ _ hr hA.here λiv h1 t1 bQ ri=>?_;refine oE ri.int_inv λti zr=>?_;subst zr;have ha:a∈fp xs:=by rw[hf];simp
 have Pc:b∈fp xs:=by rw[hf];simp
 have Gg:it∈fp xs:=by rw[hf];simp
 have k1:∀c∈fp xs,∀ob,s.heap.get? c=some ob->h1.get? c=some ob:=λc hc ob e=>bQ.keep c ob (gG hA hc) e;have Bj:=k1 a ha _ ho;have AX:=k1 b Pc _ fo;refine oE (eY (.ref a) (.int (-1) ti)) λops vz=>?_;refine tail_any (T:="list") ⟨_,Bj,rfl⟩ slot_list_getitem.lookup ?_ vz;refine X8 (bz.bw Bj) (by decide) ?_ (by decide) (x:=.ref b) ?_ ?_
 ·simp only[RX,RQ,UD];omega
 ·have:((-1:Int)+((us++[Value.ref b]).toArray.size:Int)).toNat=us.length:=by simp only[RX,RQ,UD];omega
  rw[this];simp
 refine oV (s:={s with heap:=h1,toks:=t1}) AX ?_;have Ir:h1.IsListIter it nd.lst i:=(JX _ _ rfl).at λob e=>k1 it Gg ob e;have Ly:aA (env.kindOf sv)=true:=(hA.vars sv _ _ hs).1;refine bM ((hA.here.ext bQ).aK hs Ly) λsa _ _ OH=>?_;refine aM ((OH.nodes nd aG).list) λls ln kz Ce=>?_;have oR:=hA.c9 xs;rw[hf]at oR;have HL:a∉g++[b,it]/\(g++[b,it]).Nodup:=by simpa only[RO]using oR
 have zz:=RH.mp HL.2;have NN:b≠it:=by have:=zz.2.1;simp at this;exact this
 have NQ:∀c∈g,c≠it:=λc hc e=>zz.2.2 c hc it (by simp) e;have M5:a≠it:=λe=>HL.1 (by rw[e];simp);have Rj: ¬ax A env it:=(hA.fold xs it Gg).2.1;have MW:∀c,S c->c≠it:=λc hc e=>(hA.aO c hc).2.2 xs (e▸Gg);cases hq:nd.succ[i]? with
 |some k=>
  refine aD (Ce.get hq) λkv LK Kv=>?_;refine nk (s:={s with heap:=h1,toks:=t1}) AX Ir (bz.bw kz) (x:=kv) (by simpa using LK) λh2 yx jK=>hQ _ _ ?_;have k2:∀c ob,c≠it->h1.get? c=some ob->h2.get? c=some ob:=λc ob hc e=>(jK.2 c hc).trans e;have r3:aC C (λb'=>S b'\/(s.heap.get? b'=none/\(h2.get? b').isSome=true/\b'∉fp xs)) h2 (n+2) (.ref a) (.list (ps++[.i6 (some (nd.lst,i+1))])) (fp xs):=by
   rw[hf];refine .list (k2 a _ M5 Bj) ((r1.mono (λc hc=>.inl hc) (λc ob hc e=>k2 c ob (MW c hc) (bQ.keep c ob (λhz=>(hA.aO c hc).2.1 (.inl hz)) e)) λc hc ob e=>k2 c ob (NQ c hc) (k1 c (by rw[hf];exact Rn _ (RC _ hc)) ob e)).append (ar.one (.i6 (k2 b _ NN AX) ?_ λl j e=>?_)))
   ·exact yx.elim λob h=>so h.1
   ·cases e;exact yx
  have yM:=aV.upd (h':=h1) hA av bQ bS hv (λb'=>b'=it) (h₁:=h2) (f':=fp xs) (n:=n+2) (pv:=.list (ps++[.i6 (some (nd.lst,i+1))])) (λc ob hc e=>k2 c ob hc e) (λc hc=>by rw[hc];exact Gg) (λc hc=>hc▸yx.elim λob h=>so h.1) (λc hc=>.inl hc) (hA.c9 xs) (r3.mono (λc hc=>hc.imp id λh=>⟨h.1,(by
     by_cases Nc:c=it
     ·exact absurd (Nc▸Gg) h.2.2
     ·exact(jK.2 c Nc)▸h.2.1),h.2.2⟩) (λω ω ω e=>e) (λω ω ω e=>e)) t1
  obtain⟨S5,wC,m9,EN⟩:=yM;refine iZ (s:={s with heap:=h2,toks:=t1}) (v:=kv) (pv:=k.pv) hy fe m9 EN (Key.rd Kv) λh6 t6 rZ=>?_;refine RI (wpAny_Break ?_);exact he.brk _ _ (item k hq) rZ
 |none=>
  have nX:ls.toArray[i]?=none:=by
   have hl:=Ce.rd (prog:=C.prog) (w:=C.w) (S:=λω=>True) (h:=h1);have h2:=hl.length;rw[VM]at hq;simp only[V9,VM];rw[h2,dS];exact hq
  refine oZ (s:={s with heap:=h1,toks:=t1}) (hr.1 hN) AX Ir (bz.bw kz) nX λh2 h3 e t I9 jK jW Gh LR Pr Bq NK Q5 Ht yx=>hE _ _ ?_;have k2:∀c ob,c≠it->h1.get? c=some ob->h2.get? c=some ob:=λc ob hc e=>(jK.2 c hc).trans e;have r3:aC C (λb'=>S b'\/(s.heap.get? b'=none/\(h1.get? b').isSome=true/\b'∉fp xs)) h2 (n+2) (.ref a) (.list (ps++[.i6 none])) (fp xs):=by
   rw[hf];refine .list (k2 a _ M5 Bj) ((r1.mono (λc hc=>.inl hc) (λc ob hc e=>k2 c ob (MW c hc) (bQ.keep c ob (λhz=>(hA.aO c hc).2.1 (.inl hz)) e)) λc hc ob e=>k2 c ob (NQ c hc) (k1 c (by rw[hf];exact Rn _ (RC _ hc)) ob e)).append (ar.one (.i6 (k2 b _ NN AX) yx λl j e=>by cases e)))
  have yM:=aV.upd (h':=h1) hA av bQ bS hv (λb'=>b'=it) (h₁:=h2) (f':=fp xs) (n:=n+2) (pv:=.list (ps++[.i6 none])) (λc ob hc e=>k2 c ob hc e) (λc hc=>by rw[hc];exact Gg) (λc hc=>by rw[hc];exact yx) (λc hc=>.inl hc) (hA.c9 xs) r3 t1;obtain⟨S5,wC,m9,EN⟩:=yM;refine caught_here (C:=C) (s₁:={s with heap:=h3,toks:=t1}) ht m9 jW Gh LR Pr Bq hk hg hb (by rw[isSubtype_type];kernel_rfl) (by kernel_rfl) (by rw[isSubtype_type];kernel_rfl) (λh4 E' k4=>?_) sO eg;have Am:Ext A env h2 h4:=k4.ext
  let N:RD->Prop:=λa=>h2.get? a=none/\(h4.get? a).isSome=true
  have rZ:=m9.ext Am N λa ha=>ha;have y9:=Step.ext' (t:=t1) (s₁:={s with heap:=h2,toks:=t1}) EN m9.aq.ns Am N λa ha=>ha.1;have Mg:j1 (A.mark (some (.ref e))) env:=⟨ht.kind,ht.fr,ht.own⟩;refine last hq (A.mark (some (.ref e))) o _ _ _ hr.kR Mg ⟨_,wC,rZ.kR,y9.mark⟩ ⟨λs' af hp Dr=>?_,λs' af hp Dr=>?_,λs' af hp Dr=>?_,λv s' pv af hp hR=>?_,λv s' pv af hp hR=>?_⟩
  ·refine oA hp λ_ hB=>?_;clear hp;obtain⟨S7,Qw,h7,h8⟩:=Dr;exact hB A o s' Q E hr ht ⟨S7,Qw,h7.xY,h8.unmark⟩ he
  ·exact nomatch hp.1
  ·exact nomatch hp.1
  ·exact nomatch hp.1
  ·exact nomatch hp.1
end
noncomputable def uN(C:Cx)(fa:RD)(xs:List PV)(P:cM->Prop):Prop:=
 ∀ (A:Sg) (S:RD->Prop) (s:Ro) (vs:List Rz) (R:Result->Ro->Prop),aB C.up A->C.Ok->Base C s.heap->fc C A s.heap->(∀a,S a->(s.heap.get? a).isSome=true/\¬onStack A a)->ab C.prog C.w S s.heap vs xs->
  (∀v h' t' pv,P (.ret pv)->dv A s.heap h'->Rd C.prog C.w (λa=>S a\/s.heap.get? a=none) h' v pv->R (.ok (.ret v)) {s with heap:=h',toks:=t'})->
  (∀a us n h' t' ys,P (.d' ys)->dv A s.heap h'->s.heap.get? a=none->Rt<a->h'.get? a=some (gN us n)->ab C.prog C.w (λω=>False) h' us ys->R (.ok (.ret (.ref a))) {s with heap:=h',toks:=t'})->
  TR (RF C.prog C.w) A (.call (.ref fa) ⟨vs,[]⟩) R s
theorem uN.FG{d:Stmt}(f:FnAt C.K fa d dflt){P:cM->Prop}(ns:List Str)(hlen:ns.length=xs.length)(aG:ns.Nodup)
  (cK:∀x∈ns,(ae d).lookup x=some .local\/(ae d).lookup x=some .cell)
  (e7:∀ (fd:FuncData) (vs:List Rz),fd.params=jz d->fd.defaults=dflt->fd.kwdefaults= .none->vs.length=xs.length->bindArgs fd ⟨vs,[]⟩=pure (ns.zip vs))
  (hP:∀fl,P fl->(∃pv,fl= .ret pv)\/∃ys,fl= .d' ys)
  (walk:∀env:Env,d7 env (ae d)->interactive env=false->ak C env (fG ns xs) (bh d) (λfl ω=>P fl)):uN C fa xs P:=λA S s vs R hr cx B fx hS rv hR mE=>by
 obtain⟨ob,fd,f1,f2,f3,f4,f5,f6,f7,f8,f9⟩:=f.ex;have zy:=rv.length;refine eH (S:=S) (fp:=λω=>[]) (Γ:=fG ns xs) (λaY h1=>aY=ns.zip vs/\h1=s.heap) hr cx B fx f1 f2 (.of f3) f4 f5 (λQ E hq=>?_) (λaY h1 hp=>?_) (λω ω ω h=>nomatch h) (λω=>Sn) λenv h2 t2 yL hk du hA eJ mz mm g9=>?_
 ·rw[e7 fd vs f7 f8 f9 zy];exact RK (hq _ s.heap s.toks ⟨rfl,rfl⟩)
 ·obtain rfl:=hp.1.symm;obtain rfl:=hp.2.symm;have hz:(ns.zip vs).map (·.1)=ns:=hZ ns vs (by rw[hlen,zy]);refine⟨λω ω e=>e,by rw[hz];exact aG,λx hx=>by rw[f6];exact cK _ (by rw[<-hz];exact RE.mpr ⟨x,hx,rfl⟩),hS,(λω ω ω h=>nomatch h),(λω ω h=>nomatch h),λx n pv hl=>?_⟩;refine oA (gM ns xs vs x n pv rv hl) λzr zw=>?_;subst zr;refine aD zw λv h1 h2=>?_;clear zw;exact⟨v,h1,.val h2⟩
 ·have zO:∀x,env.kindOf x=(ae d).lookup x:=λx=>by rw[eJ x,f6]
  have own:∀a b,s.heap.get? a=some b->¬i7 env a:=λa b hb hf=>by rw[du a hf]at hb;cases hb
  have keep:∀ {S' ed s'},Step (A.deeper env) env ⟨S,λω=>[],{s with heap:=h2,toks:=t2}⟩ S' ed s'->dv A s.heap s'.heap:=λ{S' ed s'} av=>by
   refine⟨λa b hs hb=>?_,λa b hs hb=>?_⟩
   ·refine av.keep a b (λhf=>?_) (λω h=>nomatch h) (hk a b hb);rcases hf with(hf|hf)|hf
    ·exact own a b hb (.inl hf)
    ·exact((mm a).mp hf).elim (λh=>own a b hb (.inl h)) hs
    ·exact own a b hb (.inr hf)
   ·exact av.fr a b ((mm a).mpr (.inr hs)) (λe=>own a b hb (.inl e)) (hk a b hb)
  have fresh:∀a,h2.get? a=none->s.heap.get? a=none:=λa ha=>by
   cases hq:s.heap.get? a with
   |none=>rfl
   |some b=>rw[hk a b hq]at ha;cases ha
  refine walk env (d7.of zO) (by unfold interactive;rw[g9.kind];rfl) _ ⟨S,λω=>[],{s with heap:=h2,toks:=t2}⟩ _ _ _ mz g9 ⟨S,λω=>[],hA,Step.refl _ _ _ _ _⟩ ⟨λs' af h=>?_,λs' af h=>?_,λs' af h=>?_,λv s' AJ af h fV=>?_,λv s' ys af h fV=>?_⟩
  ·rcases hP _ h with⟨_,h⟩|⟨_,h⟩<;>cases h
  ·rcases hP _ h with⟨_,h⟩|⟨_,h⟩<;>cases h
  ·rcases hP _ h with⟨_,h⟩|⟨_,h⟩<;>cases h
  ·obtain⟨S',ed,bF,av,rd⟩:=fV;have wQ:=keep av;refine jH av.same λh3 t3 e=>?_;subst e;refine hR v h3 t3 AJ h wQ (rd.mono (λa ha=>?_) λω ω ω e=>e);rcases av.mu a ha with h|⟨_,h⟩|h
   ·exact .inl h
   ·exact nomatch h
   ·exact .inr (fresh a h)
  ·obtain⟨S',ed,a,us,n,bF,av,rfl,ha,cY,eh,ra,_⟩:=fV;have wQ:=keep av;refine jH av.same λh3 t3 e=>?_;subst e;exact mE a us n h3 t3 ys h wQ (fresh a ha) cY eh ra
theorem uN.N1{St:aa}{P:cM->Prop}(h:uN C fa [.aK St] P)(hi:∀pv,P (.ret pv)->pv.fy=true):fU C fa St [] (λa8 pv=>a8=St/\(P (.ret pv)\/∃ys,pv= .list ys/\P (.d' ys))):=λA S s vs R hr cx B fx hS hs jt rv hR=>by
 cases rv;refine h A (λb=>b∈St.fp St.loc) s [.ref St.loc] R hr cx B fx (λa ha=>⟨hs.there a ha,(jt a ha).1⟩) (.cons (.aK (λb hb=>hb) hs) .nil) (λv h' t' pv hp hk rd=>?_) λa us n h' t' ys hp hk ha cY eh ra=>?_
 ·exact hR v h' t' St pv ⟨rfl,.inl hp⟩ (Grows.refl _) (hs.mono λb hb o e=>hk.keep b o (jt b hb).1 e) hk.b (λb hb=>.inl hb) (Rd.fy (hi pv hp) rd)
 ·refine hR _ h' t' St (.list ys) ⟨rfl,.inr ⟨ys,rfl,hp⟩⟩ (Grows.refl _) (hs.mono λb hb o e=>hk.keep b o (jt b hb).1 e) hk.b (λb hb=>.inl hb) (.list ⟨.inr ha,λhm=>?_⟩ eh (ra.mono (λω h=>h.elim) λω ω ω e=>e));have:=hs.there a hm;rw[ha]at this;cases this
noncomputable abbrev iP:=aj×Nat
noncomputable def aH(fs:List iP):List Key:=fs.map (·.1.key)
noncomputable def dm(fs:List iP):List (Key×PV):=(aH fs).zipIdx.map λp=>(p.1,PV.int p.2)
noncomputable def fits(fs:List iP):List PV:=fs.map λf=>PV.i6 (some (f.1.lst,f.2))
theorem bX(fs:List iP)(f:iP):aH (fs++[f])=aH fs++[f.1.key]:=by simp[aH]
theorem mT(fs:List iP)(f:iP):dm (fs++[f])=dm fs++[(f.1.key,.int fs.length)]:=by
 unfold dm;rw[bX,List.zipIdx_append,R9];simp[aH]
theorem lz(fs:List iP)(f:iP):fits (fs++[f])=fits fs++[PV.i6 (some (f.1.lst,f.2))]:=by simp[fits]
theorem fO(fs:List iP):(dm fs).map (·.1)=aH fs:=by
 unfold dm;rw[R6];show((aH fs).zipIdx.map λp=>p.1)=_;exact List.zipIdx_map_fst 0 (aH fs)
theorem xK(fs:List iP)(f:iP)(h:f.1.key∉aH fs):(dm (fs++[f])).filter (λp=>decide (p.1≠f.1.key))=dm fs:=by
 rw[mT,Ww];have h1:(dm fs).filter (λp=>decide (p.1≠f.1.key))=dm fs:=by
  rw[Wp];intro p hp;have:p.1∈aH fs:=by rw[<-fO];exact TF hp
  simp only[decide_eq_true_eq];rintro e;exact h (e▸this)
 rw[h1];simp
theorem ig{k:Key}:(dP kvs k).isSome=decide (k∈kvs.map (·.1)):=by
 unfold dP;rw[VF,W4];simp only[WG,decide_eq_true_eq,RE]
theorem yG{fs:List iP}{k:Key}(h:k∈aH fs):∃j:Nat,dP (dm fs) k=some (.int j)/\(aH fs)[j]?=some k:=by
 have hs:(dP (dm fs) k).isSome=true:=by rw[ig,fO];simpa using h
 unfold dP at hs⊢;cases hq:(dm fs).find? λkv=>decide (kv.1=k)with
 |none=>rw[hq]at hs;cases hs
 |some p=>
  have h1:=VJ hq;have h2:=W2 hq;simp only[decide_eq_true_eq]at h2;unfold dm at h1;refine aD (RE.mp h1) λq BL zr=>?_;subst zr;refine⟨q.2,rfl,?_⟩;have:=List.mem_zipIdx' BL;simp only at h2;rw[<-h2,this.2];exact RT this.1
noncomputable def aa.succ(X:aa)(k:Key):List Key:=match X.find k with|some nd=>nd.succ|none=>[]
noncomputable def kQ(X:aa)(fin:List Key):Prop:=∀a k b,fin=a++k::b->∀s∈X.succ k,s∈a
theorem kQ.snoc{fin:List Key}{k:Key}(h:kQ X fin)(hk:∀s∈X.succ k,s∈fin):kQ X (fin++[k]):=by
 intro a j b e s hs;rcases Vh b with rfl|⟨b',x,rfl⟩
 ·have:=Yp (s₁:=fin) (t₁:=[k]) (s₂:=a) (t₂:=[j]) e rfl;refine oA this λzr h2=>?_;clear this;subst zr;cases h2;exact hk s hs
 ·have e':fin++[k]=(a++j::b')++[x]:=by rw[e];simp
  have:=Yp e' rfl;exact h a j b' this.1 s hs
noncomputable def qc(X:aa)(r:List Key):Prop:=∃k mid,r=k::mid++[k]/\(k::mid).Nodup/\(∀i a b,r[i]?=some a->r[i+1]?=some b->b∈X.succ a)/\∀x∈r,(X.find x).isSome=true
noncomputable def cQ:List iP->Key->Prop
 |[],_=>True
 |[f],k=>1<=f.2/\f.1.succ[f.2 - 1]?=some k
 |f::g::r,k=>(1<=f.2/\f.1.succ[f.2 - 1]?=some g.1.key)/\cQ (g::r) k
theorem cQ.snoc:∀ {fs:List iP} {f:iP} {k:Key},cQ (fs++[f]) k↔cQ fs f.1.key/\1<=f.2/\f.1.succ[f.2 - 1]?=some k
 |[],f,k=>by simp[cQ]
 |[g],f,k=>by simp[cQ]
 |g::h::r,f,k=>by
  have ih:=cQ.snoc (fs:=h::r) (f:=f) (k:=k);simp only[UT]at ih⊢;simp only[cQ];rw[ih];simp only[and_assoc]
theorem cQ.drop:∀ {fs:List iP} {k:Key} (j:Nat),cQ fs k->cQ (fs.drop j) k
 |fs,k,0,h=>h
 |[],k,j+1,h=>by simpa using h
 |[f],k,j+1,h=>by simp[cQ]
 |f::g::r,k,j+1,h=>by
  simp only[List.drop_succ_cons];exact cQ.drop j h.2
theorem cQ.step:∀ {fs:List iP} {k:Key},cQ fs k->∀i (f:iP) b,fs[i]?=some f->(aH fs++[k])[i+1]?=some b->b∈f.1.succ
 |[],k,h,i,f,b,h1,_=>by simp at h1
 |[g],k,h,0,f,b,h1,h2=>by
  simp[aH]at h1 h2;subst h1;subst h2;exact R4 h.2
 |[g],k,h,i+1,f,b,h1,h2=>by simp at h1
 |g::e::r,k,h,0,f,b,h1,h2=>by
  simp[aH]at h1 h2;subst h1;subst h2;exact R4 h.1.2
 |g::e::r,k,h,i+1,f,b,h1,h2=>by
  simp only[VV]at h1;have we:(aH (e::r)++[k])[i+1]?=some b:=by simpa [aH]using h2
  exact cQ.step h.2 i f b h1 we
structure tM(X:aa)(fs:List iP)(seen fin:List Key):Prop where
 mem:∀f∈fs,f.1∈X.nodes
 nd:(aH fs).Nodup
 sn:seen.Nodup
 lT:∀k,k∈seen↔k∈fin\/k∈aH fs
 cZ:∀k∈fin,k∉aH fs
 CN:kQ X fin
 known:∀k∈seen,(X.find k).isSome=true
theorem pZ(u:∀y∈X.nodes,∀z∈X.nodes,y.key=z.key->y=z){nd:aj}(h:nd∈X.nodes):X.find nd.key=some nd:=by
 cases hq:X.find nd.key with
 |none=>
  unfold aa.find at hq;rw[X6]at hq;exact absurd (by simp) (hq nd h)
 |some e=>
  refine oA (cT hq) λh1 h2=>?_;rw[u e h1 nd h h2]
theorem p0(u:∀y∈X.nodes,∀z∈X.nodes,y.key=z.key->y=z){nd:aj}(h:nd∈X.nodes):X.succ nd.key=nd.succ:=by
 unfold aa.succ;rw[pZ u h]
noncomputable def weight(X:aa)(fs:List iP)(seen:List Key):Nat:=((X.nodes.filter λnd=>decide (nd.key∉seen)).map λnd=>nd.succ.length+1).sum+(fs.map λf=>f.1.succ.length - f.2).sum
theorem iY(X:aa)(fs:List iP)(f:iP)(seen:List Key):weight X (fs++[f]) seen=weight X fs seen+(f.1.succ.length - f.2):=by
 unfold weight;simp only[R9,Sl,WM,List.sum_append,Tt,List.sum_nil];omega
theorem sL(u:∀y∈X.nodes,∀z∈X.nodes,y.key=z.key->y=z)(aG:X.nodes.Nodup){nd:aj}(h:nd∈X.nodes){seen:List Key}(hs:nd.key∉seen):
  ((X.nodes.filter λx=>decide (x.key∉seen)).map λx=>x.succ.length+1).sum=((X.nodes.filter λx=>decide (x.key∉seen++[nd.key])).map λx=>x.succ.length+1).sum+(nd.succ.length+1):=by
 have key:∀ (l:List aj),(∀x∈l,x∈X.nodes)->l.Nodup->nd∈l->((l.filter λx=>decide (x.key∉seen)).map λx=>x.succ.length+1).sum=((l.filter λx=>decide (x.key∉seen++[nd.key])).map λx=>x.succ.length+1).sum+(nd.succ.length+1):=by
  intro l
  induction l with
  |nil=>intro _ _ h;cases h
  |cons x r ih=>
   intro hl hn hm;have oO:=RO.mp hn;by_cases hx:x=nd
   ·subst hx;have hr:∀y∈r,y.key≠x.key:=λy hy e=>oO.1 (u y (hl y (Rn _ hy)) x (hl x Rm) e▸hy);have e1:r.filter (λy=>decide (y.key∉seen++[x.key]))=r.filter (λy=>decide (y.key∉seen)):=by
     apply Yc;intro y hy;have:=hr y hy;simp[this]
    rw[S9,S9,e1];simp[hs];omega
   ·have iA:nd∈r:=by
     rcases Rr.mp hm with h|h
     ·exact absurd h.symm hx
     ·exact h
    have Mf:x.key≠nd.key:=λe=>hx (u x (hl x Rm) nd h e);have NF:=ih (λy hy=>hl y (Rn _ hy)) oO.2 iA;rw[S9,S9];by_cases ur:x.key∈seen
    ·have h1:decide (x.key∉seen)=false:=by simpa using ur
     have h2:decide (x.key∉seen++[nd.key])=false:=by simp[ur]
     rw[h1,h2];exact NF
    ·have h1:decide (x.key∉seen)=true:=by simpa using ur
     have h2:decide (x.key∉seen++[nd.key])=true:=by simp[ur,Mf]
     rw[h1,h2];simp only[if_true,Sl,Tt];omega
 exact key X.nodes (λω h=>h) aG h
noncomputable def Bg(X:aa)(fs:List iP)(seen:List Key):ag:=
 [("self",some (0,.aK X)),("n2i",some (0,.raw (.ref X.n2))),("stack",some (1,.list (Key.cV (aH fs)))),("itstack",some (2,.list (fits fs))),("seen",some (1,.set seen)),("node2stacki",some (1,.dict (dm fs)))]
noncomputable def zD(X:aa)(fs:List iP)(seen:List Key)(node:Key):ag:=("node",some (0,node.pv))::Bg X fs seen
structure BG(X:aa)(fs:List iP)(seen fin:List Key):Prop where
 s:tM X fs seen fin
 top:∀f,fs.getLast?=some f->cQ (fs.dropLast) f.1.key/\∀j a,j<f.2->f.1.succ[j]?=some a->a∈fin
 low:∀f∈fs.dropLast,∀j a,j+1<f.2->f.1.succ[j]?=some a->a∈fin
structure rD(X:aa)(fs:List iP)(seen fin:List Key)(node:Key):Prop where
 s:tM X fs seen fin
 links:cQ fs node
 low:∀f∈fs,∀j a,j+1<f.2->f.1.succ[j]?=some a->a∈fin
 there:(X.find node).isSome=true
section
variable{fs:List iP}{seen fin:List Key}{node:Key}
theorem BG.next(u:∀y∈X.nodes,∀z∈X.nodes,y.key=z.key->y=z)(oU:∀nd∈X.nodes,∀s∈nd.succ,(X.find s).isSome=true){f:iP}(h:BG X (fs++[f]) seen fin)(hk:f.1.succ[f.2]?=some node):rD X (fs++[(f.1,f.2+1)]) seen fin node:=by
 have jT:aH (fs++[(f.1,f.2+1)])=aH (fs++[f]):=by simp[aH]
 have ht:=h.top f (by simp);rw[Tv]at ht;refine⟨⟨λg hg=>?_,by rw[jT];exact h.s.nd,h.s.sn,λk=>by rw[jT];exact h.s.lT k,λk rV=>by rw[jT];exact h.s.cZ k rV,h.s.CN,h.s.known⟩,?_,λg hg j a hj ha=>?_,?_⟩
 ·rcases Rw.mp hg with hg|hg
  ·exact h.s.mem g (RC _ hg)
  ·rw[Rq.mp hg];exact h.s.mem f (by simp)
 ·rw[cQ.snoc];exact⟨ht.1,by simp,by simpa using hk⟩
 ·rcases Rw.mp hg with hg|hg
  ·exact h.low g (by rw[Tv];exact hg) j a hj ha
  ·rw[Rq.mp hg]at hj ha;exact ht.2 j a (by simpa using hj) ha
 ·exact oU f.1 (h.s.mem f (by simp)) node (R4 hk)
theorem BG.pop(u:∀y∈X.nodes,∀z∈X.nodes,y.key=z.key->y=z){f:iP}(h:BG X (fs++[f]) seen fin)(hk:f.1.succ[f.2]?=none):BG X fs seen (fin++[f.1.key]):=by
 have ht:=h.top f (by simp);rw[Tv]at ht;have lp:=h.low;rw[Tv]at lp;have qR:∀s∈f.1.succ,s∈fin:=λs hs=>by
  obtain⟨j,hj,e⟩:=XQ hs;rw[VM]at hk;exact ht.2 j s (by omega) (by rw[RT hj,e])
 have aG:=h.s.nd;rw[bX,RH]at aG;refine⟨⟨λg hg=>h.s.mem g (RC _ hg),aG.1,h.s.sn,λk=>?_,λk rV=>?_,?_,h.s.known⟩,λg hg=>?_,λg hg j a hj ha=>?_⟩
 ·rw[h.s.lT k,bX];simp only[Rw,Rq];constructor
  ·rintro(a|a|a)
   ·exact .inl (.inl a)
   ·exact .inr a
   ·exact .inl (.inr a)
  ·rintro((a|a)|a)
   ·exact .inl a
   ·exact .inr (.inr a)
   ·exact .inr (.inl a)
 ·rcases Rw.mp rV with a|a
  ·have:=h.s.cZ k a;rw[bX]at this;exact λhm=>this (RC _ hm)
  ·rw[Rq.mp a];exact λhm=>aG.2.2 _ hm _ (by simp) rfl
 ·exact h.s.CN.snoc (by rw[p0 u (h.s.mem f (by simp))];exact qR)
 ·obtain⟨Cn,rfl⟩:∃Cn,fs=Cn++[g]:=by
   rcases Vh fs with rfl|⟨Cn,x,rfl⟩
   ·simp at hg
   ·simp at hg;subst hg;exact⟨Cn,by simp⟩
  rw[cQ.snoc]at ht;rw[Tv];refine⟨ht.1.1,λj a hj ha=>?_⟩;rcases Vk (j+1) g.2 with hlt|iy
  ·exact RC _ (lp g (by simp) j a hlt ha)
  ·have:j=g.2 - 1:=by omega
   rw[this,ht.1.2.2]at ha;cases ha;exact R3 _ (Rq.mpr rfl)
 ·have CV:g∈fs:=Wh _ hg;exact RC _ (lp g CV j a hj ha)
theorem rD.HH(h:rD X fs seen fin node)(hf:node∈fin):BG X fs seen fin:=by
 refine⟨h.s,λf pj=>?_,λg hg=>h.low g (Wh _ hg)⟩;obtain⟨Cn,rfl⟩:∃Cn,fs=Cn++[f]:=by
  rcases Vh fs with rfl|⟨Cn,x,rfl⟩
  ·simp at pj
  ·simp at pj;subst pj;exact⟨Cn,by simp⟩
 have hl:=h.links;rw[cQ.snoc]at hl;rw[Tv];refine⟨hl.1,λj a hj ha=>?_⟩;rcases Vk (j+1) f.2 with hlt|iy
 ·exact h.low f (by simp) j a hlt ha
 ·have:j=f.2 - 1:=by omega
  rw[this,hl.2.2]at ha;cases ha;exact hf
theorem rD.push(u:∀y∈X.nodes,∀z∈X.nodes,y.key=z.key->y=z){nd:aj}(h:rD X fs seen fin node)(hs:node∉seen)(hn:X.find node=some nd):BG X (fs++[(nd,0)]) (seen++[node]) fin:=by
 refine oA (cT hn) λhm hk=>?_;have bR:node∉fin/\node∉aH fs:=by
  rw[h.s.lT]at hs;exact⟨λa=>hs (.inl a),λa=>hs (.inr a)⟩
 refine⟨⟨λg hg=>?_,?_,?_,λk=>?_,λk rV=>?_,h.s.CN,λk rV=>?_⟩,λg hg=>?_,λg hg=>?_⟩
 ·rcases Rw.mp hg with hg|hg
  ·exact h.s.mem g hg
  ·rw[Rq.mp hg];exact hm
 ·rw[bX,RH];refine⟨h.s.nd,by simp,λa ha b hb e=>?_⟩;rw[Rq.mp hb]at e;exact bR.2 (by rw[<-hk,<-e];exact ha)
 ·rw[RH];exact⟨h.s.sn,by simp,λa ha b hb e=>hs (by rw[Rq.mp hb]at e;exact e▸ha)⟩
 ·rw[bX,Rw,h.s.lT k];simp only[Rw,Rq,hk,or_assoc]
 ·rw[bX,Rw];rintro(a|a)
  ·exact h.s.cZ k rV a
  ·rw[Rq.mp a,hk]at rV;exact bR.1 rV
 ·rcases Rw.mp rV with a|a
  ·exact h.s.known k a
  ·rw[Rq.mp a];exact h.there
 ·simp at hg;subst hg;rw[Tv];exact⟨hk▸h.links,λj a hj=>absurd hj (Ui _)⟩
 ·rw[Tv]at hg;exact h.low g hg
theorem rD.ring(u:∀y∈X.nodes,∀z∈X.nodes,y.key=z.key->y=z)(h:rD X fs seen fin node)(hj:(aH fs)[j]?=some node):qc X ((aH fs).drop j++[node]):=by
 have hlt:j<(aH fs).length:=(RY.mp hj).1;have e0:(aH fs).drop j=node::(aH fs).drop (j+1):=by
  rw[VN hlt]
  congr 1
  rw[RT hlt]at hj;exact R7 hj
 have e1:(aH fs).drop j=aH (fs.drop j):=by simp[aH]
 refine⟨node,(aH fs).drop (j+1),by rw[e0],by rw[<-e0];exact h.s.nd.sublist (List.drop_sublist _ _),λi a b ha hb=>?_,λx hx=>?_⟩
 ·rw[e1]at ha hb;have hl:=cQ.drop j h.links;have hi:i<(aH (fs.drop j)).length:=by
   have:=(RY.mp hb).1;simp only[RQ,UD]at this;omega
  rw[Ub hi]at ha;unfold aH at ha;rw[RZ]at ha;cases hf:(fs.drop j)[i]? with
  |none=>rw[hf]at ha;cases ha
  |some f=>
   rw[hf]at ha;have k9:f.1.key=a:=R7 ha;have:=cQ.step hl i f b hf hb;rw[<-k9,p0 u (h.s.mem f (Uc (R4 hf)))];exact this
 ·rcases Rw.mp hx with hx|hx
  ·exact h.s.known x ((h.s.lT x).mpr (.inr (Uc hx)))
  ·rw[Rq.mp hx];exact h.there
end
noncomputable def DY(X:aa)(fl:cM):Prop:=(fl= .ret .none/\∃fin,kQ X fin/\∀nd∈X.nodes,nd.key∈fin)\/∃r,fl= .d' (Key.cV r)/\qc X r
theorem wR(a b:List Key):Key.cV (a++b)=Key.cV a++Key.cV b:=by simp[Key.cV]
theorem nt(fs:List iP):(fits fs).length=fs.length:=by simp[fits]
theorem dC(fs:List iP):(aH fs).length=fs.length:=by simp[aH]
theorem pU(fs:List iP):(dm fs).length=fs.length:=by simp[dm,aH]
theorem bT[DecidableEq α]:∀ (l m:List α),l.Nodup->(∀x∈l,x∈m)->l.length<=m.length
 |[],m,_,_=>RU _
 |x::l,m,hn,hs=>by
  have oO:=RO.mp hn;have hx:=hs x Rm;have ih:=bT l (m.erase x) oO.2 λy hy=>by
   have aX:y≠x:=λe=>oO.1 (e▸hy);exact(XJ aX).mpr (hs y (Rn _ hy))
  have hl:=VR hx;have hp:0<m.length:=V1 hx;rw[SS];omega
theorem tM.le{fs:List iP}{seen fin:List Key}(h:tM X fs seen fin):fs.length<=X.nodes.length/\seen.length<=X.nodes.length:=by
 have sub:∀l:List Key,l.Nodup->(∀k∈l,k∈X.nodes.map aj.key)->l.length<=X.nodes.length:=λl hn hs=>by
  have:=bT l (X.nodes.map aj.key) hn hs;simpa using this
 refine⟨?_,sub _ h.sn λk hk=>?_⟩
 ·have:=sub _ h.nd λk hk=>by
   refine aD (RE.mp hk) λf hf zr=>?_;subst zr;exact TF (h.mem f hf)
  rwa[dC]at this
 ·have:=h.known k hk;refine oE (Rv.mp this) λnd aG=>?_;refine oA (cT aG) λh1 h2=>?_;rw[<-h2];exact TF h1
noncomputable def vi:Stmt->List Stmt
 | .For _ _ b _ _=>b
 | .While _ b _ _=>b
 | .If _ b _ _=>b
 |_=>[]
noncomputable def Cq:Stmt:=cq (vi (cq (vi (cq (bh (cC 8)) 5)) 1)) 1
theorem tU(T:TopK C)(hN:C.hd=false)(X:aa)(aF:X.nodes.length<=3000)(oU:∀nd∈X.nodes,∀s∈nd.succ,(X.find s).isSome=true)(u:∀y∈X.nodes,∀z∈X.nodes,y.key=z.key->y=z)
   (K:d7 env (ae (cC 8))) (hi:interactive env=false) (W:cM->ag->Prop) (seen:List Key):
  ∀ (fs:List iP) (fin:List Key) (Γ:ag),BG X fs seen fin->dY (Bg X fs seen) Γ->
   (MV:∀af mC nv pX,rD X mC seen nv pX->weight X mC seen<weight X fs seen->dY (zD X mC seen pX) af->W .next af)->
   (MD:∀af nv,tM X [] seen nv->dY (Bg X [] seen) af->W .brk af)->ak C env Γ [Cq] W:=λfs fin Γ hI kX MV MD=>by
 have v1:∀x,(ae (cC 8)).lookup x=some .local->aA (env.kindOf x)=true:=λx hx=>K.var x (by rw[hx];rfl);have v2:∀x,(ae (cC 8)).lookup x=some .local->(env.kindOf x=some .local\/env.kindOf x=some .cell):=λx hx=>K.loc x (.inl hx);have dG:(3000:Nat)+1<=lim:=by decide
 refine ak.weak (af:=Bg X fs seen) ?_ kX;refine ak.while (C:=C) (λn aE=>∃BS Cc,BG X BS seen Cc/\weight X BS seen<=weight X fs seen/\dY (Bg X BS seen) aE/\n=BS.length) fs.length ⟨fs,fin,hI,Rx _,.refl _,rfl⟩ λn aE hJ=>?_;refine qW hJ λBS Cc h1 hw zx zr=>?_;clear hJ;subst zr;refine oA h1.s.le λkz _=>?_;refine⟨!(Key.cV (aH BS)).isEmpty,cX.list (md:=false) (Ev.name (zx.look rfl) (v1 "stack" rfl)) (by rw[dS,dC];omega),λhb=>?_,λhb=>?_⟩
 ·rcases Vh BS with rfl|⟨mC,f,e⟩
  ·simp[aH,Key.cV]at hb
  ·rw[List.concat_eq_append]at e;subst e;refine ak.weak (af:=Bg X (mC++[f]) seen) ?_ zx;have hm:f.1∈X.nodes:=h1.s.mem f (by simp);have wX:mC.length+1<=X.nodes.length:=by simpa using kz
   refine ak.B8 (C:=C) (sv:=sf) (xs:="itstack") (y:="node") (n:=0) (ps:=fits mC) (i:=f.2) (X:=X) (nd:=f.1) hN (by rw[<-lz];rfl) rfl hm (Ev.neg (m1:=true) Ev.int) (by rw[nt];omega) (v2 "node" rfl) (K.jZ _ rfl) (T.none (x:="StopIteration") (by decide)) (by decide +kernel) (λk hk=>?_) (λhk=>?_)
   ·refine ak.nil ?_;have hO:=h1.next u oU hk;have hlt:f.2<f.1.succ.length:=(RY.mp hk).1;refine MV _ (mC++[(f.1,f.2+1)]) Cc k hO ?_ ?_
    ·rw[iY]at hw⊢;simp only;omega
    ·refine .cons rfl (.cons rfl (.cons rfl (.cons ?_ (.cons ?_ (.cons rfl (.cons ?_ .nil))))))
     ·show some (some (1,PV.list (Key.cV (aH (mC++[f])))))=_;simp[aH]
     ·rw[lz];rfl
     ·show some (some (1,PV.dict (dm (mC++[f]))))=_;have:aH (mC++[f])=aH (mC++[(f.1,f.2+1)]):=by simp[aH]
      unfold dm;rw[this]
   ·have hP:=h1.pop u hk;have aG:f.1.key∉aH mC:=by
     have:=h1.s.nd;rw[bX,RH]at this;exact λhm=>this.2.2 _ hm _ (by simp) rfl
    refine ak.DQ (C:=C.kR) (d:="node2stacki") (x:="stack") (ys:=Key.cV (aH mC)) (key:=f.1.key) (kvs:=dm (mC++[f])) rfl (by rw[eZ (by decide)];show some (some (1,PV.list (Key.cV (aH (mC++[f])))))=_;rw[bX,wR];rfl) (by decide) (by rw[dS,dC];omega) (by rw[pU];simp;omega) (by rw[ig,fO,bX];simp) ?_;rw[xK mC f aG];refine ak.pop (C:=C.kR) (x:="itstack") (n:=1) (ys:=fits mC) (y:=.i6 none) (by rw[eZ (by decide),eZ (by decide)];rfl) (by rw[nt];omega) hi ?_;refine ak.nil ⟨rfl,ak.nil ⟨mC.length,by simp,mC,_,hP,?_,.cons rfl (.cons rfl (.cons rfl (.cons rfl (.cons rfl (.cons rfl .nil))))),rfl⟩⟩;rw[iY]at hw;omega
 ·have:BS=[]:=by
   cases BS with
   |nil=>rfl
   |cons f r=>simp[aH,Key.cV]at hb
  subst this;exact ak.brk (MD _ Cc h1.s zx)
theorem vt(T:TopK C)(hN:C.hd=false)(X:aa)(aF:X.nodes.length<=3000)(cY:Rt<X.n2)(oU:∀nd∈X.nodes,∀s∈nd.succ,(X.find s).isSome=true)(u:∀y∈X.nodes,∀z∈X.nodes,y.key=z.key->y=z)(Lw:X.nodes.Nodup):
  uN C 127 [.aK X] (DY X):=by
 refine uN.FG (C:=C) T.EU [sf] rfl (by decide) (λx hx=>?_) (λfd vs h1 h2 h3 h4=>?_) (λfl h=>?_) λenv K hi=>?_
 ·simp only[Rr,RN,or_false]at hx;subst hx;exact .inl rfl
 ·refine oE (gn h4) λu zr=>?_;subst zr;unfold bindArgs;rw[h1,h2];rfl
 ·rcases h with⟨h,_⟩|⟨r,h,_⟩
  ·exact .inl ⟨_,h⟩
  ·exact .inr ⟨_,h⟩
 have v1:∀x,(ae (cC 8)).lookup x=some .local->aA (env.kindOf x)=true:=λx hx=>K.var x (by rw[hx];rfl);have v2:∀x,(ae (cC 8)).lookup x=some .local->(env.kindOf x=some .local\/env.kindOf x=some .cell):=λx hx=>K.loc x (.inl hx);have dG:(3000:Nat)+1<=lim:=by decide
 refine ak.assign (n:=0) (pv:=.raw (.ref X.n2)) (dr.b9 (Ev.fy (Ev.kJ (C:=C) (i:=0) (St:=X) (md:=true) T.sk (Ev.name rfl (v1 sf rfl)) rfl) rfl)) (v2 "n2i" rfl) ?_;refine ak.assign (n:=1) (pv:=.list []) dr.nil (v2 "stack" rfl) ?_;refine ak.assign (n:=2) (pv:=.list []) dr.nil (v2 "itstack" rfl) ?_;refine ak.assign (n:=1) (pv:=.set []) (dr.L5 (Ev.builtin (v:=.type "set") (K.jZ _ rfl) (T.none (x:="set") (by decide)) (by decide +kernel))) (v2 "seen" rfl) ?_;refine ak.assign (n:=1) (pv:=.dict []) dr.DF (v2 "node2stacki" rfl) ?_;refine ak.weak (af:=Bg X [] []) ?_ (.cons rfl (.cons rfl (.cons rfl (.cons rfl (.cons rfl (.cons rfl .nil))))));refine ak.nU (C:=C) (L:=X.nodes.map aj.key) (g:=Key.pv) (dw.Fw (C:=C) (X:=X) (x:=sf) (md:=true) (m2:=true) rfl (v1 sf rfl) cY (Ev.name rfl (v1 "n2i" rfl)) (by omega))
  (λi aE=>∃seen fin,tM X [] seen fin/\(∀j nd,j<i->X.nodes[j]?=some nd->nd.key∈seen)/\dY (Bg X [] seen) aE)
  (λk aE=>("node",some (0,k.pv))::aE) ⟨[],[],⟨(λω h=>nomatch h),Sn,Sn,(λk=>by simp[aH]),(λω h=>nomatch h),(λa k b e=>by simp at e),(λω h=>nomatch h)⟩,(λj nd h=>absurd h (Ui _)),.refl _⟩
  (λk aE ω=>dI.name (v2 "node" rfl)) (λi k0 aE lH hinv=>?_) λaf hinv=>?_
 ·refine lW hinv λseen fin hS tO kX=>?_;clear hinv;have GS:∃uo,X.nodes[i]?=some uo/\uo.key=k0:=by
   rw[RZ]at lH;cases hq:X.nodes[i]? with
   |none=>rw[hq]at lH;cases lH
   |some uo=>rw[hq]at lH;exact⟨uo,rfl,R7 lH⟩
  refine aD GS λuo oR zr=>?_;clear GS;subst zr;have Qq:uo∈X.nodes:=R4 oR;refine ak.weak (af:=zD X [] seen uo.key) ?_ (aT _ _ kX);refine ak.ite (b:=decide (uo.key∈seen)) (cX.cmp (m1:=true) (m2:=false) (Ev.name rfl (v1 "node" rfl)) (Ev.name rfl (v1 "seen" rfl)) cw.An) ?_;have A8:∀bU rh,tM X [] bU rh->(∀k∈seen,k∈bU)->uo.key∈bU->∀af,dY (Bg X [] bU) af->∃seen fin,tM X [] seen fin/\(∀j nd,j<i+1->X.nodes[j]?=some nd->nd.key∈seen)/\dY (Bg X [] seen) af:=λbU rh h1 h2 h3 af h4=>⟨bU,rh,h1,λj nd hj aG=>by
   rcases Vk j i with hlt|iy
   ·exact h2 _ (tO j nd hlt aG)
   ·have:j=i:=by omega
    subst this;rw[oR]at aG;cases aG;exact h3,h4⟩
  cases hd:decide (uo.key∈seen)with
  |true=>
   simp only[if_true];refine ak.cont ?_;exact A8 seen fin hS (λω h=>h) (of_decide_eq_true hd) _ (.cons rfl (.cons rfl (.cons rfl (.cons rfl (.cons rfl (.cons rfl .nil))))))
  |false=>
   have bR:uo.key∉seen:=of_decide_eq_false hd;simp only[Sx,if_false];refine ak.nil ?_;show ak C env _ _ _;refine ak.while (C:=C) (λn aE=>∃fs bU rh node,rD X fs bU rh node/\(∀k∈seen,k∈bU)/\(uo.key∈bU\/node=uo.key)/\dY (zD X fs bU node) aE/\n=weight X fs bU) (weight X [] seen) ⟨[],seen,fin,uo.key,⟨hS,trivial,(λω h=>nomatch h),by rw[pZ u Qq];rfl⟩,λω h=>h,.inr rfl,.refl _,rfl⟩ λn aE hI=>?_;refine xx hI λfs bU rh node hO ml CZ GN zr=>?_;clear hI;subst zr;refine⟨true,cX.val (md:=true) Ev.bool,λω=>?_,λh=>nomatch h⟩;refine ak.weak (af:=zD X fs bU node) ?_ GN;refine oA hO.s.le λkz wX=>?_;refine ak.ite (b:=decide (node∈bU)) (cX.cmp (m1:=true) (m2:=false) (Ev.name rfl (v1 "node" rfl)) (Ev.name rfl (v1 "seen" rfl)) cw.An) ?_;cases Bc:decide (node∈bU)with
   |true=>
    have q6:node∈bU:=of_decide_eq_true Bc;have nB:uo.key∈bU:=CZ.elim id λe=>e▸q6;simp only[if_true];refine ak.ite (b:=(dP (dm fs) node).isSome) (cX.cmp (m1:=true) (m2:=false) (Ev.name rfl (v1 "node" rfl)) (Ev.name rfl (v1 "node2stacki" rfl)) cw.in_dict) ?_;rw[ig,fO];by_cases av:node∈aH fs
    ·refine aD (yG av) λj BB D8=>?_;simp only[av,decide_true,if_true];refine ak.d' (md:=false) (xs:=((Key.cV (aH fs)).drop (j:Int).toNat)++[node.pv]) (bI.add (md:=false) (bI.ev (bI.jG (md:=false) (m2:=false) (k:=(j:Int)) (Ev.name rfl (v1 "stack" rfl)) (Ev.item_dict (m2:=true) (k:=node) (Ev.name rfl (v1 "node2stacki" rfl)) (Ev.name rfl (v1 "node" rfl)) BB) (by omega) (by rw[dS,dC];omega)))
       (bI.ev (bI.list (ba.cons (Ev.fy (md:=true) (Ev.name rfl (v1 "node" rfl)) (mJ [node] _ (by simp[Key.cV]))) ba.nil) (by show 1<=lim;decide))) (by
        rw[Vn,dS,dC];simp;omega)) (λx hx=>?_) (.inr ⟨(aH fs).drop j++[node],?_,hO.ring u D8⟩)
     ·rcases Rw.mp hx with h|h
      ·exact mJ _ x (Uc h)
      ·rw[Rq.mp h];exact mJ [node] _ (by simp[Key.cV])
     ·simp[Key.cV,Vr]
    ·simp only[av,decide_false,Sx,if_false];have CG:node∈rh:=by
      rcases(hO.s.lT node).mp q6 with h|h
      ·exact h
      ·exact absurd h av
     refine ak.nil (ak.nil ?_);refine tU T hN X aF oU u K hi _ bU fs rh _ (hO.HH CG) (.cons rfl (.cons rfl (.cons rfl (.cons rfl (.cons rfl (.cons rfl .nil)))))) (λaf mC nv pX h1 h2 h3=>?_) λaf nv h1 h2=>?_
     ·exact⟨_,h2,mC,bU,nv,pX,h1,ml,.inl nB,h3,rfl⟩
     ·exact ak.nil (A8 bU nv h1 ml nB _ h2)
   |false=>
    have q6:node∉bU:=of_decide_eq_false Bc;simp only[Sx,if_false];refine oE (Rv.mp hO.there) λnd aG=>?_;refine oA (cT aG) λhm A9=>?_;have nB:uo.key∈bU++[node]:=by
     rcases CZ with h|h
     ·exact RC _ h
     ·rw[h];simp
    refine ak.D6 (C:=C) (x:="seen") (n:=0) (ks:=bU) (key:=node) rfl (Ev.name rfl (v1 "node" rfl)) q6 (by omega) hi ?_;refine ak.CR (C:=C) (x:="itstack") (n:=1) (ys:=fits fs) (y:=.i6 (some (nd.lst,0))) rfl (dr.z' (C:=C) (x:=sf) (X:=X) (nd:=nd) (m2:=true) T.sk rfl (v1 sf rfl) hm (Ev.rK (C:=C) (x:=sf) (m2:=true) (m3:=true) rfl (v1 sf rfl) (Ev.name rfl (v1 "n2i" rfl)) (Ev.name rfl (v1 "node" rfl)) aG) (Ev.builtin (v:=.builtin "iter") (K.jZ _ rfl) (T.none (x:="iter") (by decide)) (by decide +kernel))) (by rw[nt];omega) hi ?_;refine ak.B1 (C:=C) (x:="node2stacki") (m:=0) (kvs:=dm fs) (k:=node) (y:=.int (aH fs).length) rfl (dr.b9 (Ev.call (m1:=false) (Ev.builtin (v:=.builtin "len") (K.jZ _ rfl) (T.none (x:="len") (by decide)) (by decide +kernel)) (ba.cons (Ev.name rfl (v1 "stack" rfl)) ba.nil) (by
      have:=a7.len_list (C:=C) (env:=env) (Γ:=cv (("itstack",some (2,PV.list (fits fs++[PV.i6 (some (nd.lst,0))])))::("seen",some (1,PV.set (bU++[node])))::zD X fs bU node)) (m1:=false) (md:=true) (xs:=Key.cV (aH fs)) (by rw[dS,dC];omega);rwa[dS]at this))) (Ev.name rfl (v1 "node" rfl)) (λkv bS e=>?_) (by rw[pU];omega) ?_
    ·have:kv.1∈aH fs:=by rw[<-fO];exact TF bS
     exact q6 ((hO.s.lT node).mpr (.inr (e▸this)))
    refine ak.append (C:=C) (x:="stack") (d9:=1) (ys:=Key.cV (aH fs)) (upd:=id) (y:=node.pv) (sW.list rfl) (Ev.name rfl (v1 "node" rfl)) (by rw[dS,dC];omega) hi ?_;refine ak.nil ?_;have hI:=hO.push u q6 aG;have MA:aH (fs++[(nd,0)])=aH fs++[node]:=by rw[bX];simp[A9]
    refine tU T hN X aF oU u K hi _ (bU++[node]) (fs++[(nd,0)]) rh _ hI (.cons rfl (.cons rfl (.cons ?_ (.cons ?_ (.cons rfl (.cons ?_ .nil)))))) (λaf mC nv pX h1 h2 h3=>?_) λaf nv h1 h2=>?_
    ·rw[MA,wR];rfl
    ·rw[lz];rfl
    ·rw[mT,dC];simp only[A9];rfl
    ·refine⟨_,?_,mC,bU++[node],nv,pX,h1,(λk hk=>RC _ (ml k hk)),.inl nB,h3,rfl⟩;have e1:=iY X fs (nd,0) (bU++[node]);have e2:=sL (X:=X) u Lw hm (seen:=bU) (by rw[A9];exact q6);rw[A9]at e2;have e3:weight X fs bU=weight X fs (bU++[node])+(nd.succ.length+1):=by unfold weight;omega
     simp only[Nat.sub_zero]at e1;omega
    ·exact ak.nil (A8 _ nv h1 (λk hk=>RC _ (ml k hk)) nB _ h2)
 ·refine lW hinv λseen fin hS tO kX=>?_;clear hinv;refine ak.ret (Ev.By (md:=true)) (.inl ⟨rfl,fin,hS.CN,λnd aG=>?_⟩);obtain⟨j,hj,e⟩:=XQ aG;have:=tO j nd (by simpa using hj) (by rw[RT hj,e]);rcases(hS.lT _).mp this with h|h
  ·exact h
  ·simp[aH]at h
noncomputable def AS.closed(a:AS):Prop:=∀nd∈a.nodes,∀s∈nd.succ,(a.find s).isSome=true
noncomputable def AS.xP(a:AS):Prop:=∃f:Key->Nat,∀nd∈a.nodes,∀s∈nd.succ,f nd.key<f s
theorem yk{f:Key->Nat}(hf:∀k,∀s∈X.succ k,f k<f s){r:List Key}(h:qc X r):False:=by
 refine aM h λk mid zr zw=>?_;clear h;subst zr;refine dd zw λ_ hs _=>?_;clear zw;have key:∀i a,(k::mid++[k])[i]?=some a->f k+i<=f a:=by
  intro i
  induction i with
  |zero=>intro a ha;simp at ha;subst ha;omega
  |succ i ih=>
   intro a ha;have hlt:i<(k::mid++[k]).length:=by
    have:=(RY.mp ha).1;omega
   have hb:(k::mid++[k])[i]?=some ((k::mid++[k])[i]):=RT hlt;have h1:=ih _ hb;have h2:=hf _ a (hs i _ a hb ha);omega
 have:=key (mid.length+1) k (by simp);omega
theorem fU.lift{St:aa}(h:∀A:Sg,∀s:Ro,ah C.prog C.w s.heap St.loc St->fU C fa St xs post):fU C fa St xs post:=λA S s vs R h1 h2 h3 h4 h5 h6 h7 h8 h9=>
 h A s h6 A S s vs R h1 h2 h3 h4 h5 h6 h7 h8 h9
theorem r5{prog:Sw}{w:TG}{a:RD}{St:aa}(hs:ah prog w h a St):(∀y∈St.nodes,∀z∈St.nodes,y.key=z.key->y=z)/\St.nodes.Nodup:=
 ⟨λy hy z hz e=>pD hs.vM hy hz e,by
  have:=hs.vM;unfold List.Nodup at this⊢;rw[VQ]at this;exact this.imp λh e=>h (by rw[e])⟩
theorem uI(T:TopK C)(hN:C.hd=false)(X:aa)(aF:X.abs.nodes.length<=3000)(oU:X.abs.closed)(JM:X.abs.xP):fU C 127 X [] (vU X):=fU.lift λA s hs=>by
 refine oA (r5 hs) λu aG=>?_;have LQ:∀nd∈X.nodes,∀s∈nd.succ,(X.find s).isSome=true:=λnd h s hm=>by
  have:=oU nd.abs (TF h) s hm;rw[dM,VF]at this;exact this
 have LL:X.nodes.length<=3000:=by
  have:X.abs.nodes.length=X.nodes.length:=by unfold aa.abs;simp
  omega
 refine((vt T hN X LL hs.lo LQ u aG).N1 λpv hp=>?_).mono λa8 pv hp=>?_
 ·rcases hp with⟨h,_⟩|⟨r,h,_⟩
  ·cases h;rfl
  ·cases h
 ·refine oA hp λzr h=>?_;clear hp;subst zr;have no:∀r,¬qc a8 r:=λr hr=>by
   refine oE JM λf hf=>?_;clear JM;refine yk (f:=f) (λk s hs=>?_) hr;unfold aa.succ at hs;cases hq:a8.find k with
   |none=>rw[hq]at hs;cases hs
   |some nd=>
    rw[hq]at hs;refine oA (cT hq) λh1 h2=>?_;have:=hf nd.abs (TF h1) s hs;rw[<-h2];exact this
  rcases h with h|⟨ys,rfl,h⟩
  ·rcases h with⟨h,_⟩|⟨r,h,_⟩
   ·cases h;exact⟨rfl,rfl⟩
   ·cases h
  ·rcases h with⟨h,_⟩|⟨r,h,hr⟩
   ·cases h
   ·exact absurd hr (no r)
theorem tq(T:TopK C)(hN:C.hd=false)(hl:1<=C.cc)(hr:a.aI=none)(aF:a.nodes.length<=3000)(oU:a.closed)(JM:a.xP):u9 C 92 a [] .none a.iL:=
 qI T hN hl hr (Rk aF (by decide)) λX e=>uI (C:=C.l 0) (T.l 0) hN X (by rw[e];exact aF) (by
  rw[e];intro nd h s hm;exact oU nd h s hm) (by
  rw[e];exact JM)
namespace AS
noncomputable def has(a:AS)(k:Key):Bool:=(a.find k).isSome
noncomputable def bj(a:AS)(k:Key):Int:=match a.find k with|some x=>x.np|none=>0
noncomputable def bV(a:AS)(k:Key):List Key:=match a.find k with|some x=>x.succ|none=>[]
noncomputable def keys(a:AS):List Key:=a.nodes.map AN.key
theorem gL{k:Key}{x:AN}(h:a.find k=some x):x∈a.nodes/\x.key=k:=by
 unfold AS.find at h;exact⟨VJ h,by simpa using W2 h⟩
theorem kY{k:Key}:a.has k=true↔k∈a.keys:=by
 unfold has keys;constructor
 ·intro h;refine oE (Rv.mp h) λx hx=>?_;refine oA (gL hx) λh1 h2=>?_;rw[<-h2];exact TF h1
 ·intro h;refine aD (RE.mp h) λx hx zr=>?_;subst zr;unfold AS.find;rw[WG];exact⟨x,hx,by simp⟩
theorem gg(hn:a.keys.Nodup){x:AN}(h:x∈a.nodes):a.find x.key=some x:=by
 have hs:(a.find x.key).isSome=true:=kY.mpr (TF h);refine oE (Rv.mp hs) λy hy=>?_;refine oA (gL hy) λh1 h2=>?_;rw[hy]
 congr 1
 unfold keys at hn;have key:∀ (l:List AN),(l.map AN.key).Nodup->∀y z,y∈l->z∈l->y.key=z.key->y=z:=by
  intro l
  induction l with
  |nil=>intro _ y z hy;cases hy
  |cons w r ih=>
   intro hn y z hy hz e;have oO:w.key∉r.map AN.key/\(r.map AN.key).Nodup:=by simpa only[Sl,RO]using hn
   rcases Rr.mp hy with hy|hy<;>rcases Rr.mp hz with hz|hz
   ·rw[hy,hz]
   ·exact absurd (RE.mpr ⟨z,hz,by rw[<-e,hy]⟩) oO.1
   ·exact absurd (RE.mpr ⟨y,hy,by rw[e,hz]⟩) oO.1
   ·exact ih oO.2 y z hy hz e
 exact key a.nodes hn y x h1 h h2
theorem m6(a:AS)(k j:Key):(a.get k).find j=if j=k/\a.find k=none then some ⟨k,0,[]⟩else a.find j:=by
 unfold AS.get;cases hq:a.find k with
 |some x=>simp
 |none=>
  by_cases hj:j=k
  ·subst hj;simp only[and_self,if_true];unfold AS.find at hq⊢;rw[Yb,hq];simp
  ·simp only[hj,false_and,if_false];unfold AS.find;have: ¬k=j:=λe=>hj e.symm;rw[Yb];simp[this]
theorem mH(a:AS)(k j:Key):(a.get k).has j=(a.has j||decide (j=k)):=by
 unfold has;rw[m6];by_cases hj:j=k
 ·subst hj;cases hq:a.find j<;>simp[hq]
 ·simp[hj]
theorem r8(a:AS)(k j:Key):(a.get k).bj j=a.bj j:=by
 unfold bj;rw[m6];by_cases h:j=k/\a.find k=none
 ·rw[if_pos h,h.1,h.2]
 ·rw[if_neg h]
theorem sR(a:AS)(k j:Key):(a.get k).bV j=a.bV j:=by
 unfold bV;rw[m6];by_cases h:j=k/\a.find k=none
 ·rw[if_pos h,h.1,h.2]
 ·rw[if_neg h]
theorem iM(a:AS)(k:Key){f:AN->AN}(hf:∀x,(f x).key=x.key):(a.upd k f).keys=a.keys:=by
 unfold keys AS.upd;rw[R6];apply Tg;intro x _;show(if x.key=k then f x else x).key=x.key;split<;>simp[hf]
theorem si(a:AS)(k:Key)(h:a.keys.Nodup):(a.get k).keys.Nodup:=by
 unfold AS.get;cases hq:a.find k with
 |some x=>exact h
 |none=>
  show((a.nodes++[(⟨k,0,[]⟩:AN)]).map AN.key).Nodup;rw[R9,RH];refine⟨h,by simp,λx hx y hy e=>?_⟩;simp at hy;rw[hy]at e;have hk:k∈a.keys:=by rw[<-e];exact hx
  have:a.has k=true:=kY.mpr hk;unfold has at this;rw[hq]at this;cases this
theorem fw(a:AS)(k j:Key){f:AN->AN}(hf:∀x,(f x).key=x.key):(a.upd k f).has j=a.has j:=by
 unfold has;rw[fJ hf,VF]
set_option tactic.hygienic true in
theorem tj(a:AS)(k j:Key)(v:Int):(a.upd k (AN.cN v)).bj j=if j=k/\a.has k=true then a.bj j+v else a.bj j:=by
 unfold bj has;rw[fJ (f:=AN.cN v) (λω=>rfl)];cases hq:a.find j with
 |none=>
  simp only[V0];split
  ·rename_i h;rw[<-h.1,hq]at h;simp at h
  ·rfl
 |some x=>
  refine oA (gL hq) λ_ hk=>?_;simp only[SM,hk];by_cases hj:j=k
  ·subst hj;simp[hq,AN.cN]
  ·simp[hj]
set_option tactic.hygienic true in
theorem tJ(a:AS)(k j:Key)(v:Int):(a.upd k (AN.bA v)).bj j=if j=k/\a.has k=true then v else a.bj j:=by
 unfold bj has;rw[fJ (f:=AN.bA v) (λω=>rfl)];cases hq:a.find j with
 |none=>
  simp only[V0];split
  ·rename_i h;rw[<-h.1,hq]at h;simp at h
  ·rfl
 |some x=>
  refine oA (gL hq) λ_ hk=>?_;simp only[SM,hk];by_cases hj:j=k
  ·subst hj;simp[hq,AN.bA]
  ·simp[hj]
theorem jg(a:AS)(k j:Key){f:AN->AN}(hf:∀x,(f x).key=x.key)(hs:∀x,(f x).succ=x.succ):(a.upd k f).bV j=a.bV j:=by
 unfold bV;rw[fJ hf];cases hq:a.find j with
 |none=>rfl
 |some x=>simp only[SM];split<;>simp[hs]
theorem xM(a:AS)(k j:Key){f:AN->AN}(hf:∀x,(f x).key=x.key)(hs:∀x,(f x).np=x.np):(a.upd k f).bj j=a.bj j:=by
 unfold bj;rw[fJ hf];cases hq:a.find j with
 |none=>rfl
 |some x=>simp only[SM];split<;>simp[hs]
set_option tactic.hygienic true in
theorem y0(a:AS)(k j s:Key):(a.upd k (AN.cA s)).bV j=if j=k/\a.has k=true then a.bV j++[s]else a.bV j:=by
 unfold bV has;rw[fJ (f:=AN.cA s) (λω=>rfl)];cases hq:a.find j with
 |none=>
  simp only[V0];split
  ·rename_i h;rw[<-h.1,hq]at h;simp at h
  ·rfl
 |some x=>
  refine oA (gL hq) λ_ hk=>?_;simp only[SM,hk];by_cases hj:j=k
  ·subst hj;simp[hq,AN.cA]
  ·simp[hj]
structure Pre(a:AS)(pr:Key->List Key):Prop where
 nd:a.keys.Nodup
 np:∀k,a.bj k=(pr k).length
 sc:∀p k,(a.bV p).count k=(pr k).count p
 hs:∀k p,p∈pr k->a.has p=true/\a.has k=true
 aI:a.aI=none
 Ng:a.au=0
 MN:a.az=0
theorem Pre.zero:Pre AS.zero (λω=>[]):=⟨Sn,λω=>rfl,λω ω=>rfl,(λω ω h=>nomatch h),rfl,rfl,rfl⟩
theorem j9(a:AS)(k p:Key):(a.cg k p).aI=a.aI/\(a.cg k p).au=a.au/\(a.cg k p).az=a.az/\(∀j,(a.cg k p).bj j=a.bj j)/\(∀j,(a.cg k p).has j=(a.has j||decide (j=p)))/\
  (∀j,(a.cg k p).bV j=if j=p then a.bV j++[k]else a.bV j)/\(a.keys.Nodup->(a.cg k p).keys.Nodup):=by
 have hr:(a.get p).aI=a.aI/\(a.get p).au=a.au/\(a.get p).az=a.az:=by
  unfold AS.get;cases a.find p<;>exact⟨rfl,rfl,rfl⟩
 refine⟨hr.1,hr.2.1,hr.2.2,λj=>?_,λj=>?_,λj=>?_,λh=>?_⟩
 ·unfold AS.cg;rw[xM _ _ _ (f:=AN.cA k) (λω=>rfl) (λω=>rfl),r8]
 ·unfold AS.cg;rw[fw _ _ _ (f:=AN.cA k) (λω=>rfl),mH]
 ·unfold AS.cg;rw[y0,sR,mH];simp
 ·unfold AS.cg;rw[iM _ _ (f:=AN.cA k) (λω=>rfl)];exact si a p h
structure Ll(k:Key)(ps:List Key)(a c:AS):Prop where
 aI:c.aI=a.aI
 au:c.au=a.au
 az:c.az=a.az
 nd:c.keys.Nodup
 np:∀j,c.bj j=a.bj j
 has:∀j,c.has j=(a.has j||decide (j∈ps))
 sc:∀j s,(c.bV j).count s=(a.bV j).count s+if s=k then ps.count j else 0
theorem CM(k:Key)(ps:List Key):∀a:AS,a.keys.Nodup->Ll k ps a (ps.foldl (λa p=>a.cg k p) a):=by
 induction ps with
 |nil=>exact λa h=>⟨rfl,rfl,rfl,h,λω=>rfl,λω=>by simp,λω ω=>by simp⟩
 |cons p ps ih=>
  intro a h;refine rM (j9 a k p) λv1 v2 v3 v4 v5 v6 v7=>?_;have w:=ih (a.cg k p) (v7 h);refine⟨w.aI.trans v1,w.au.trans v2,w.az.trans v3,w.nd,λj=>(w.np j).trans (v4 j),λj=>(w.has j).trans ?_,λj s=>(w.sc j s).trans ?_⟩
  ·rw[v5];simp[Bool.or_assoc]
  ·rw[v6,U6];by_cases hj:j=p
   ·rw[if_pos hj,Yd,U6];by_cases hs:s=k
    ·simp[hj,hs];omega
    ·have: ¬k=s:=λe=>hs e.symm;simp[hs,this]
   ·have: ¬p=j:=λe=>hj e.symm;rw[if_neg hj];simp[this]
theorem Pre.add{pr:Key->List Key}(h:Pre a pr)(k:Key)(ps:List Key):Pre (a.add k ps) (λj=>if j=k then pr j++ps else pr j)/\∀j,(a.add k ps).has j=(a.has j||decide (j=k)||decide (j∈ps)):=by
 have kW:=si a k h.nd;have Kk:((a.get k).upd k (AN.cN ps.length)).keys.Nodup:=by rw[iM _ _ (f:=AN.cN ps.length) (λω=>rfl)];exact kW
 obtain⟨w1,w2,w3,w4,w5,w6,w7⟩:=CM k ps _ Kk;have hr:(a.get k).aI=a.aI/\(a.get k).au=a.au/\(a.get k).az=a.az:=by
  unfold AS.get;cases a.find k<;>exact⟨rfl,rfl,rfl⟩
 have yS:∀j,(a.add k ps).has j=(a.has j||decide (j=k)||decide (j∈ps)):=λj=>by
  have:=w6 j;rw[fw _ _ _ (f:=AN.cN ps.length) (λω=>rfl),mH]at this;exact this
 refine⟨⟨w4,λj=>?_,λp j=>?_,λj p hp=>?_,w1.trans (hr.1.trans h.aI),w2.trans (hr.2.1.trans h.Ng),w3.trans (hr.2.2.trans h.MN)⟩,yS⟩
 ·have:=w5 j;rw[tj,r8,mH,h.np]at this;refine this.trans ?_;by_cases hj:j=k
  ·subst hj;simp
  ·simp[hj]
 ·have:=w7 p j;rw[jg _ _ _ (f:=AN.cN ps.length) (λω=>rfl) (λω=>rfl),sR,h.sc]at this;refine this.trans ?_;by_cases hj:j=k
  ·subst hj;simp[Yd]
  ·simp[hj]
 ·rw[yS,yS];by_cases hj:j=k
  ·subst hj;simp only[if_true,Rw]at hp;rcases hp with hp|hp
   ·simp[(h.hs j p hp).1]
   ·simp[hp]
  ·simp only[hj,if_false]at hp;simp[(h.hs j p hp).1,(h.hs j p hp).2]
end AS
namespace AS
noncomputable def z8(a:AS)(n:Nat):Prop:=a.nodes.length<=n/\∀k,(a.bV k).length<=n
structure Ik(b c:AS)(s:Key)(r0:List Key):Prop where
 aI:c.aI=some (if b.bj s=1 then r0++[s]else r0)
 au:c.au=b.au
 az:c.az=b.az
 np:∀j,c.bj j=if j=s then b.bj j - 1 else b.bj j
 has:∀j,c.has j=b.has j
 sc:∀j,c.bV j=b.bV j
 keys:c.keys=b.keys
theorem zV{b:AS}{s:Key}{r0:List Key}(hr:b.aI=some r0)(hh:b.has s=true):Ik b (b.dec s) s r0:=by
 refine oE (Rv.mp hh) λx hx=>?_;have uu:b.bj s=x.np:=by unfold bj;rw[hx]
 have h1:((b.find s).map (·.np)=some 1)↔b.bj s=1:=by rw[hx,uu];simp
 have e:∀j,(b.upd s (AN.cN (-1))).bj j=if j=s then b.bj j - 1 else b.bj j:=λj=>by
  rw[tj,hh];simp only[and_true];split<;>simp[Int.sub_eq_add_neg]
 have g1:=λj=>fw b s j (f:=AN.cN (-1)) λω=>rfl;have g2:=λj=>jg b s j (f:=AN.cN (-1)) (λω=>rfl) λω=>rfl;have g3:=iM b s (f:=AN.cN (-1)) λω=>rfl;unfold AS.dec;by_cases hc:b.bj s=1
 ·rw[if_pos (h1.mpr hc)];exact⟨by rw[if_pos hc,hr];rfl,rfl,rfl,e,g1,g2,g3⟩
 ·rw[if_neg (λh=>hc (h1.mp h))];exact⟨by rw[if_neg hc];exact hr,rfl,rfl,e,g1,g2,g3⟩
structure Bz(b:AS)(ss r0:List Key)(c:AS)(new:List Key):Prop where
 aI:c.aI=some (r0++new)
 nd:new.Nodup
 mem:∀j,j∈new↔j∈ss/\b.bj j=ss.count j
 np:∀j,c.bj j=b.bj j - ss.count j
 has:∀j,c.has j=b.has j
 sc:∀j,c.bV j=b.bV j
 keys:c.keys=b.keys
 au:c.au=b.au
 az:c.az=b.az
theorem fM(s j:Key)(t:List Key):((s::t).count j:Int)=t.count j+if j=s then 1 else 0:=by
 rw[U6];by_cases Cm:j=s
 ·simp[Cm]
 ·have h2: ¬s=j:=λe=>Cm e.symm;simp[Cm,h2]
theorem Bz.cons{b c:AS}{s:Key}{t r0 new:List Key}(hc:∀j∈s::t,((s::t).count j:Int)<=b.bj j)(v:Ik b (b.dec s) s r0)(w:Bz (b.dec s) t (if b.bj s=1 then r0++[s]else r0) c new):∃new,Bz b (s::t) r0 c new:=by
 have uu:∀j,c.bj j=b.bj j - (s::t).count j:=λj=>by
  rw[w.np,v.np,fM];split<;>omega
 have lu:∀j,j∈new↔j∈t/\(if j=s then b.bj j - 1 else b.bj j)=t.count j:=λj=>by rw[w.mem,v.np]
 have OW:=hc s Rm;rw[fM,if_pos rfl]at OW;by_cases Ek:b.bj s=1
 ·have av:t.count s=0:=by omega
  have w1:=w.aI;rw[if_pos Ek]at w1;refine⟨s::new,by rw[w1];simp,RO.mpr ⟨λhm=>VC.mp av ((lu s).mp hm).1,w.nd⟩,λj=>?_,uu,λj=>(w.has j).trans (v.has j),λj=>(w.sc j).trans (v.sc j),w.keys.trans v.keys,w.au.trans v.au,w.az.trans v.az⟩;rw[Rr,lu,Rr,fM];by_cases Cm:j=s
  ·simp[Cm,av,Ek]
  ·simp[Cm]
 ·have w1:=w.aI;rw[if_neg Ek]at w1;refine⟨new,w1,w.nd,λj=>?_,uu,λj=>(w.has j).trans (v.has j),λj=>(w.sc j).trans (v.sc j),w.keys.trans v.keys,w.au.trans v.au,w.az.trans v.az⟩;rw[lu,Rr,fM];by_cases Cm:j=s
  ·rw[Cm,if_pos rfl,if_pos rfl];exact⟨λh=>⟨.inl rfl,by omega⟩,λh=>⟨SY.mp (by omega),by omega⟩⟩
  ·simp[Cm]
theorem BH(ss:List Key):∀ (b:AS) (r0:List Key),b.aI=some r0->(∀s∈ss,b.has s=true)->(∀j∈ss,(ss.count j:Int)<=b.bj j)->∃new,Bz b ss r0 (ss.foldl AS.dec b) new:=by
 induction ss with
 |nil=>exact λb r0 hr ω ω=>⟨[],by rw[SP];exact hr,Sn,λj=>by simp,λj=>by simp,λω=>rfl,λω=>rfl,rfl,rfl,rfl⟩
 |cons s t ih=>
  intro b r0 hr hh hc;have v:=zV hr (hh s Rm);obtain⟨new,w⟩:=ih (b.dec s) _ v.aI (λx hx=>(v.has x).trans (hh x (Rn _ hx))) λj hj=>by
   have:=hc j (Rn _ hj);rw[fM]at this;rw[v.np];split<;>simp_all<;>omega
  exact w.cons hc v
structure Run(a:AS)(pr:Key->List Key)(dn ot rd:List Key):Prop where
 nd:a.keys.Nodup
 hs:∀k p,p∈pr k->a.has p=true/\a.has k=true
 sc:∀p k,(a.bV p).count k=(pr k).count p
 aI:a.aI=some rd
 GV:rd.Nodup
 um:∀k,k∈rd↔a.has k=true/\k∉dn/\k∉ot/\∀p∈pr k,p∈dn
 np:∀k,a.has k=true->a.bj k=if k∈dn then -2 else if k∈ot then -1 else(((pr k).filter λp=>decide (p∉dn)).length:Int)
 Je:dn.Nodup
 FV:ot.Nodup
 dj:∀k∈ot,k∉dn
 Hl:∀k∈dn,a.has k=true
 GU:∀k∈ot,a.has k=true
 own:∀k,k∈dn\/k∈ot->∀p∈pr k,p∈dn
 au:a.au=dn.length+ot.length
 az:a.az=dn.length
 big:a.z8 1000
theorem Run.oh{pr:Key->List Key}{dn rd:List Key}(h:Run a pr dn ot rd):rd.length<=1000:=by
 have:=bT rd a.keys h.GV λk hk=>kY.mp ((h.um k).mp hk).1;have h2:a.keys.length=a.nodes.length:=by unfold keys;simp
 have:=h.big.1;omega
theorem j6(l:List Key)(dn:List Key)(k:Key)(hk:k∉dn):(l.filter λp=>decide (p∉dn)).length=(l.filter λp=>decide (p∉dn++[k])).length+l.count k:=by
 induction l with
 |nil=>rfl
 |cons x r ih=>
  rw[S9,S9,U6];by_cases hx:x=k
  ·subst hx;have h1:decide (x∉dn)=true:=by simpa using hk
   have h2:decide (x∉dn++[x])=false:=by simp
   rw[h1,h2,if_pos rfl,if_neg Uv,SS,ih];simp;omega
  ·have h2:decide (x∉dn++[k])=decide (x∉dn):=by simp[hx]
   have h3:(x==k)=false:=by simpa using hx
   rw[h2,h3,if_neg Uv,Nat.add_zero];cases decide (x∉dn)with
   |true=>rw[if_pos rfl,if_pos rfl,SS,SS,ih];omega
   |false=>rw[if_neg Uv,if_neg Uv,ih]
theorem Run.cu{pr:Key->List Key}{dn rd:List Key}(h:Run a pr dn ot rd){k:Key}(hk:k∈ot):
  (∃x,a.find k=some x/\x.np= -1/\(∀s∈x.succ,(a.find s).isSome=true)/\∃l,a.aI=some l/\l.length+x.succ.length<=lim)/\∃yh,Run (a.cu k) pr (dn++[k]) (ot.erase k) yh:=by
 have JQ:=h.GU k hk;have eJ:=h.dj k hk;refine oE (Rv.mp JQ) λx hx=>?_;have uu:x.np= -1:=by
  have:=h.np k JQ;unfold bj at this;rw[hx]at this;simpa [eJ,hk]using this
 have yL:x.succ=a.bV k:=by unfold bV;rw[hx]
 have cO:∀s∈x.succ,k∈pr s:=λs hs=>by
  rw[yL]at hs;have:=SY.mpr hs;rw[h.sc]at this;exact SY.mp this
 have vX:∀s,k∈pr s->s∉dn/\s∉ot:=λs hs=>⟨λhm=>eJ (h.own s (.inl hm) k hs),λhm=>eJ (h.own s (.inr hm) k hs)⟩;have jw:k∉pr k:=λhm=>(vX k hm).2 hk;have Bv:∀j,k∈pr j->j≠k:=λj hj e=>jw (by rw[e]at hj;exact hj);have hlen:=h.oh;have Qg:=h.big.2 k;refine⟨⟨x,hx,uu,λs hs=>(h.hs s k (cO s hs)).2,rd,h.aI,?_⟩,?_⟩
 ·rw[yL];have:(2000:Nat)<=lim:=by decide
  omega
 let b:=a.upd k (AN.bA (-2))
 have JD:∀j,b.bj j=if j=k then -2 else a.bj j:=λj=>by
  show(a.upd k (AN.bA (-2))).bj j=_;rw[tJ,JQ];simp
 have Nk:∀j,b.has j=a.has j:=λj=>fw a k j (f:=AN.bA (-2)) λω=>rfl;have Ou:∀j,b.bV j=a.bV j:=λj=>jg a k j (f:=AN.bA (-2)) (λω=>rfl) λω=>rfl;have oc:∀j,x.succ.count j=(pr j).count k:=λj=>by rw[yL,h.sc]
 have E0:∀j,k∈pr j->a.bj j=(((pr j).filter λp=>decide (p∉dn++[k])).length:Int)+(pr j).count k:=λj hj=>by
  have:=h.np j (h.hs j k hj).2;rw[if_neg (vX j hj).1,if_neg (vX j hj).2,j6 _ _ _ eJ]at this;rw[this];push_cast;rfl
 obtain⟨new,w1,w2,w3,w4,w5,w6,w7,w8,w9⟩:=BH x.succ b rd h.aI (λs hs=>by rw[Nk];exact(h.hs s k (cO s hs)).2) (λj hj=>by
  rw[JD,if_neg (Bv j (cO j hj)),E0 j (cO j hj),oc];omega)
 have hd:a.cu k={x.succ.foldl AS.dec b with az:=a.az+1}:=by
  unfold AS.cu;rw[hx]
 rw[hd];have g1:∀j,AS.has {x.succ.foldl AS.dec b with az:=a.az+1} j=a.has j:=λj=>(w5 j).trans (Nk j);have g2:∀j,AS.bV {x.succ.foldl AS.dec b with az:=a.az+1} j=a.bV j:=λj=>(w6 j).trans (Ou j);have g3:∀j,AS.bj {x.succ.foldl AS.dec b with az:=a.az+1} j=b.bj j - x.succ.count j:=λj=>w4 j;have g4:AS.keys {x.succ.foldl AS.dec b with az:=a.az+1}=a.keys:=w7.trans (iM a k (f:=AN.bA (-2)) λω=>rfl);have Fi:∀j,j∈ot.erase k↔j∈ot/\j≠k:=λj=>by
  rw[Vv h.FV];exact⟨λh=>⟨h.2,h.1⟩,λh=>⟨h.2,h.1⟩⟩
 have hnew:∀j,j∈new↔k∈pr j/\((pr j).filter λp=>decide (p∉dn++[k])).length=0:=λj=>by
  rw[w3];constructor
  ·rintro⟨h1,h2⟩;have hj:=cO j h1;rw[JD,if_neg (Bv j hj),E0 j hj,oc]at h2;exact⟨hj,by omega⟩
  ·rintro⟨hj,h2⟩;have iI:0<x.succ.count j:=by rw[oc];exact SY.mpr hj
   refine⟨SY.mp iI,?_⟩;rw[JD,if_neg (Bv j hj),E0 j hj,oc];omega
 have qR:∀j,((pr j).filter λp=>decide (p∉dn++[k])).length=0↔∀p∈pr j,p∈dn++[k]:=λj=>by
  rw[SI,Va];simp only[decide_eq_true_eq,Decidable.not_not]
 refine⟨rd++new,?_,λj p hp=>by rw[g1,g1];exact h.hs j p hp,λp j=>by rw[g2];exact h.sc p j,w1,?_,λj=>?_,λj hj=>?_,?_,?_,λj hj=>?_,λj hj=>?_,λj hj=>?_,λj hj p hp=>?_,?_,?_,?_⟩
 ·rw[g4];exact h.nd
 ·rw[RH];refine⟨h.GV,w2,λp hp q hq e=>?_⟩;subst e;exact eJ (((h.um p).mp hp).2.2.2 k ((hnew p).mp hq).1)
 ·rw[Rw,h.um,hnew,qR,g1,Fi];constructor
  ·rintro(⟨h1,h2,h3,h4⟩|⟨h1,h2⟩)
   ·have wa:j≠k:=λe=>h3 (e▸hk);exact⟨h1,by simp[h2,wa],λhm=>h3 hm.1,λp hp=>RC _ (h4 p hp)⟩
   ·have wa:j≠k:=Bv j h1;exact⟨(h.hs j k h1).2,by simp[(vX j h1).1,wa],λhm=>(vX j h1).2 hm.1,h2⟩
  ·rintro⟨h1,h2,h3,h4⟩;have wa:j≠k:=λe=>h2 (by simp[e]);by_cases M3:k∈pr j
   ·exact .inr ⟨M3,h4⟩
   ·refine .inl ⟨h1,λhm=>h2 (RC _ hm),λhm=>h3 ⟨hm,wa⟩,λp hp=>?_⟩;rcases Rw.mp (h4 p hp)with a|a
    ·exact a
    ·rw[Rq.mp a]at hp;exact absurd hp M3
 ·rw[g3,JD,oc];rw[g1]at hj;by_cases wa:j=k
  ·subst wa;have:(pr j).count j=0:=VC.mpr jw;simp[this]
  ·rw[if_neg wa];have e1:(j∈dn++[k])↔j∈dn:=by simp[wa]
   have e2:(j∈ot.erase k)↔j∈ot:=by rw[Fi];simp[wa]
   simp only[e1,e2];rw[h.np j hj];by_cases ED:j∈dn
   ·have:(pr j).count k=0:=VC.mpr λhm=>(vX j hm).1 ED;simp[ED,this]
   ·by_cases Jx:j∈ot
    ·have:(pr j).count k=0:=VC.mpr λhm=>(vX j hm).2 Jx;simp[ED,Jx,this]
    ·rw[if_neg ED,if_neg Jx,if_neg ED,if_neg Jx,j6 _ _ _ eJ]
     push_cast;omega
 ·rw[RH];exact⟨h.Je,by simp,λp hp q hq e=>by rw[Rq.mp hq]at e;exact eJ (e▸hp)⟩
 ·exact h.FV.erase k
 ·have:=(Fi j).mp hj;simp[h.dj j this.1,this.2]
 ·rw[g1];rcases Rw.mp hj with a|a
  ·exact h.Hl j a
  ·rw[Rq.mp a];exact JQ
 ·rw[g1];exact h.GU j ((Fi j).mp hj).1
 ·refine RC _ (h.own j ?_ p hp);rcases hj with hj|hj
  ·rcases Rw.mp hj with a|a
   ·exact .inl a
   ·rw[Rq.mp a];exact .inr hk
  ·exact .inr ((Fi j).mp hj).1
 ·show(x.succ.foldl AS.dec b).au=_;rw[w8];show a.au=_;rw[h.au,RQ,UD,VR hk];have:0<ot.length:=V1 hk
  push_cast;omega
 ·show a.az+1=_;rw[h.az];simp
 ·refine⟨?_,λj=>by rw[g2];exact h.big.2 j⟩;have e1:(AS.keys {x.succ.foldl AS.dec b with az:=a.az+1}).length=a.keys.length:=by rw[g4]
  unfold keys at e1;simp only[Rl]at e1;rw[e1];exact h.big.1
end AS
namespace AS
theorem tH(ks:List Key):∀ (a:AS),(∀j,(a.out ks).bj j=if j∈ks/\a.has j=true then -1 else a.bj j)/\(∀j,(a.out ks).has j=a.has j)/\(∀j,(a.out ks).bV j=a.bV j)/\(a.out ks).keys=a.keys:=by
 induction ks with
 |nil=>exact λa=>⟨λj=>by simp[AS.out],λω=>rfl,λω=>rfl,rfl⟩
 |cons k ks ih=>
  intro a;refine iC (ih (a.upd k (AN.bA (-1)))) λh1 h2 h3 h4=>?_;have e:a.out (k::ks)=(a.upd k (AN.bA (-1))).out ks:=rfl;rw[e];refine⟨λj=>?_,λj=>?_,λj=>?_,?_⟩
  ·rw[h1,fw _ _ _ (f:=AN.bA (-1)) (λω=>rfl),tJ];by_cases hj:j∈ks
   ·by_cases hh:a.has j=true<;>by_cases wa:j=k<;>simp_all
   ·by_cases hh:a.has j=true<;>by_cases wa:j=k<;>simp_all
  ·rw[h2,fw _ _ _ (f:=AN.bA (-1)) (λω=>rfl)]
  ·rw[h3,jg _ _ _ (f:=AN.bA (-1)) (λω=>rfl) (λω=>rfl)]
  ·rw[h4,iM _ _ (f:=AN.bA (-1)) (λω=>rfl)]
theorem Run.get{pr:Key->List Key}{dn rd:List Key}(h:Run a pr dn ot rd):Run {a.out rd with aI:=some [],au:=a.au+rd.length,az:=a.az} pr dn (ot++rd) []:=by
 refine iC (tH rd a) λh1 h2 h3 h4=>?_;have g1:∀j,AS.has {a.out rd with aI:=some [],au:=a.au+rd.length,az:=a.az} j=a.has j:=h2;have g2:∀j,AS.bV {a.out rd with aI:=some [],au:=a.au+rd.length,az:=a.az} j=a.bV j:=h3;have g3:∀j,AS.bj {a.out rd with aI:=some [],au:=a.au+rd.length,az:=a.az} j=if j∈rd/\a.has j=true then -1 else a.bj j:=h1
 have g4:AS.keys {a.out rd with aI:=some [],au:=a.au+rd.length,az:=a.az}=a.keys:=h4;refine⟨by rw[g4];exact h.nd,λj p hp=>by rw[g1,g1];exact h.hs j p hp,λp j=>by rw[g2];exact h.sc p j,rfl,Sn,λj=>?_,λj hj=>?_,h.Je,?_,λj hj=>?_,λj hj=>by rw[g1];exact h.Hl j hj,λj hj=>?_,λj hj p hp=>?_,?_,h.az,?_⟩
 ·rw[g1];refine⟨(λh=>nomatch h),λ⟨a1,a2,a3,a4⟩=>?_⟩;have:j∈rd:=(h.um j).mpr ⟨a1,a2,λhm=>a3 (RC _ hm),a4⟩;exact absurd (R3 _ this) a3
 ·rw[g1]at hj;rw[g3,hj];simp only[and_true];by_cases hr:j∈rd
  ·have:=(h.um j).mp hr;simp[hr,this.2.1]
  ·rw[if_neg hr,h.np j hj];simp only[Rw,hr,or_false]
 ·rw[RH];exact⟨h.FV,h.GV,λp hp q hq e=>((h.um q).mp hq).2.2.1 (e▸hp)⟩
 ·rcases Rw.mp hj with b|b
  ·exact h.dj j b
  ·exact((h.um j).mp b).2.1
 ·rw[g1];rcases Rw.mp hj with b|b
  ·exact h.GU j b
  ·exact((h.um j).mp b).1
 ·rcases hj with b|b
  ·exact h.own j (.inl b) p hp
  ·rcases Rw.mp b with c|c
   ·exact h.own j (.inr c) p hp
   ·exact((h.um j).mp c).2.2.2 p hp
 ·show a.au+rd.length=_;rw[h.au,RQ];push_cast;omega
 ·refine⟨?_,λj=>by rw[g2];exact h.big.2 j⟩;have e1:=congrArg List.length g4;unfold keys at e1;simp only[Rl]at e1;rw[e1];exact h.big.1
noncomputable def less(ot ks:List Key):List Key:=ks.foldl List.erase ot
theorem sZ:∀ {ot:List Key},ot.Nodup->∀j,j∈less ot ks↔j∈ot/\j∉ks:=by
 induction ks with
 |nil=>intro ot _ j;simp[less]
 |cons k r ih=>
  intro ot hn j;show j∈less (ot.erase k) r↔_;rw[ih (hn.erase k),Vv hn];simp only[Rr,not_or];constructor
  ·rintro⟨⟨h1,h2⟩,h3⟩;exact⟨h2,h1,h3⟩
  ·rintro⟨h1,h2,h3⟩;exact⟨⟨h2,h1⟩,h3⟩
theorem Run.lV:∀ (ks:List Key) {a:AS} {pr:Key->List Key} {dn ot rd:List Key},Run a pr dn ot rd->ks.Nodup->(∀k∈ks,k∈ot)->a.gh ks/\∃yh,Run (ks.foldl AS.cu a) pr (dn++ks) (less ot ks) yh
 |[],a,pr,dn,ot,rd,h,_,_=>⟨trivial,rd,by simpa [less]using h⟩
 |k::ks,a,pr,dn,ot,rd,h,hn,hs=>by
  have oO:=RO.mp hn;refine J' (h.cu (hs k Rm)) λh1 Q3 h2=>?_;obtain⟨h3,zP,h4⟩:=Run.lV ks h2 oO.2 λj hj=>by
   have wa:j≠k:=λe=>oO.1 (e▸hj);exact(Vv h.FV).mpr ⟨wa,hs j (Rn _ hj)⟩
  refine⟨⟨h1,h3⟩,zP,?_⟩;have e:dn++k::ks=(dn++[k])++ks:=by simp
  rw[e];exact h4
theorem Run.cS{pr:Key->List Key}{dn rd:List Key}(h:Run a pr dn ot rd):a.cS=(!ot.isEmpty|| !rd.isEmpty):=by
 unfold AS.cS;rw[h.aI,h.au,h.az]
 congr 1
 cases ot with
 |nil=>simp
 |cons x r=>simp;omega
theorem Run.fR{pr:Key->List Key}{dn rd:List Key}(h:Run a pr dn ot rd){k:Key}(hk:k∈dn):a.cn k=some ("node " ++k.repr++ " was already marked done"):=by
 unfold AS.cn;rw[h.aI];have hh:=h.Hl k hk;refine oE (Rv.mp hh) λx hx=>?_;have:=h.np k hh;unfold bj at this;rw[hx,if_pos hk]at this;simp only[hx];have h2:x.np= -2:=this;rw[if_neg (by omega),if_pos h2]
theorem Run.iq{pr:Key->List Key}{dn rd:List Key}(h:Run a pr dn ot rd){k:Key}(hh:a.has k=true)(hd:k∉dn)(ho:k∉ot):a.cn k=some ("node " ++k.repr++ " was not passed out (still not ready)"):=by
 unfold AS.cn;rw[h.aI];refine oE (Rv.mp hh) λx hx=>?_;have:=h.np k hh;unfold bj at this;rw[hx,if_neg hd,if_neg ho]at this;simp only[hx];have h2:x.np=(((pr k).filter λp=>decide (p∉dn)).length:Int):=this;rw[if_pos (by omega)]
theorem Run.se{pr:Key->List Key}{dn rd:List Key}(h:Run a pr dn ot rd){k:Key}(hh:a.has k=false):a.cn k=some ("node " ++k.repr++ " was not added using add()"):=by
 unfold AS.cn;rw[h.aI];unfold has at hh;cases hq:a.find k with
 |some x=>rw[hq]at hh;cases hh
 |none=>rfl
theorem Pre.iL{pr:Key->List Key}(h:Pre a pr)(hb:a.z8 1000):∃rd,Run a.iL pr [] [] rd:=by
 have g1:∀j,a.iL.has j=a.has j:=λω=>rfl;have g3:∀j,a.iL.bj j=a.bj j:=λω=>rfl;refine⟨(a.nodes.filter λx=>x.np==0).map AN.key,h.nd,h.hs,h.sc,rfl,?_,λj=>?_,λj hj=>?_,Sn,Sn,(λω h=>nomatch h),(λω h=>nomatch h),(λω h=>nomatch h),(λω h=>by rcases h with h|h<;>exact nomatch h),?_,?_,hb⟩
 ·have:=h.nd;unfold keys at this;exact this.sublist (List.filter_sublist.map _)
 ·rw[g1];constructor
  ·intro hm;refine aD (RE.mp hm) λx hx zr=>?_;subst zr;refine oA (TJ.mp hx) λh1 h2=>?_;have hf:=gg h.nd h1;have uu:=h.np x.key;unfold bj at uu;rw[hf]at uu;have:x.np=0:=by simpa using h2
   have hz:(pr x.key).length=0:=by
    have e:x.np=((pr x.key).length:Int):=uu;omega
   refine⟨by unfold has;rw[hf];rfl,by simp,by simp,λp hp=>?_⟩;rw[SI.mp hz]at hp;cases hp
  ·rintro⟨h1,_,_,h4⟩;refine oE (Rv.mp h1) λx hx=>?_;refine oA (gL hx) λhm hk=>?_;have hz:pr j=[]:=by
    cases hq:pr j with
    |nil=>rfl
    |cons p r=>have:=h4 p (by rw[hq];simp);cases this
   have uu:=h.np j;unfold bj at uu;rw[hx,hz]at uu;exact RE.mpr ⟨x,TJ.mpr ⟨hm,by simpa using uu⟩,hk⟩
 ·rw[g3,h.np];have:(pr j).filter (λp=>decide (p∉([]:List Key)))=pr j:=by rw[Wp];simp
  rw[this];simp
 ·show a.au=_;rw[h.Ng];simp
 ·show a.az=_;rw[h.MN];simp
theorem Pre.why{pr:Key->List Key}(h:Pre a pr)(k:Key):a.cn k=some ("prepare() must be called first":Str):=by
 unfold AS.cn;rw[h.aI]
theorem Pre.closed{pr:Key->List Key}(h:Pre a pr):a.closed:=λnd aG s hs=>by
 have hf:=gg h.nd aG;have:0<(a.bV nd.key).count s:=by
  unfold bV;rw[hf];exact SY.mpr hs
 rw[h.sc]at this;exact(h.hs s nd.key (SY.mp this)).2
theorem Pre.xP{pr:Key->List Key}(h:Pre a pr)(f:Key->Nat)(hf:∀k p,p∈pr k->f p<f k):a.xP:=⟨f,λnd aG s hs=>by
 have Qr:=gg h.nd aG;have:0<(a.bV nd.key).count s:=by
  unfold bV;rw[Qr];exact SY.mpr hs
 rw[h.sc]at this;exact hf s nd.key (SY.mp this)⟩
theorem Pre.len{pr:Key->List Key}(h:Pre a pr)(L:List Key)(n:Nat)(hL:∀k,a.has k=true->k∈L)(hl:L.length<=n):a.nodes.length<=n:=by
 have:=bT a.keys L h.nd λk hk=>hL k (kY.mpr hk);have e:a.keys.length=a.nodes.length:=by unfold keys;simp
 omega
theorem xU(L:List Key)(l:List Key)(hl:∀x∈l,x∈L):l.length<=(L.map λk=>l.count k).sum:=by
 induction l with
 |nil=>simp
 |cons x r ih=>
  have NF:=ih λy hy=>hl y (Rn _ hy);have hx:=hl x Rm;have:∀ (M:List Key),x∈M->(M.map λk=>r.count k).sum+1<=(M.map λk=>(x::r).count k).sum:=by
   intro M
   induction M with
   |nil=>intro h;cases h
   |cons y M Jw=>
    intro hm;simp only[Sl,Tt,U6];by_cases hy:x=y
    ·subst hy;have:(M.map λk=>r.count k).sum<=(M.map λk=>(r.count k+if(x==k)=true then 1 else 0)).sum:=by
      clear Jw hm
      induction M with
      |nil=>simp
      |cons z M QY=>simp only[Sl,Tt];omega
     simp only[beq_self_eq_true,if_true];omega
    ·have iA:x∈M:=by
      rcases Rr.mp hm with h|h
      ·exact absurd h hy
      ·exact h
     have:=Jw iA;simp only[U6]at this;have h3:(x==y)=false:=by simpa using hy
     simp only[h3,Sx,if_false];omega
  have:=this L hx;rw[SS];omega
theorem Pre.EX{pr:Key->List Key}(h:Pre a pr)(L:List Key)(n m:Nat)(hL:∀k,a.has k=true->k∈L)(hl:L.length<=n)(hm:∀k,(pr k).length<=m)(p:Key):(a.bV p).length<=n*m:=by
 have h1:=xU L (a.bV p) λx hx=>by
  have:0<(a.bV p).count x:=SY.mpr hx;rw[h.sc]at this;exact hL x (h.hs x p (SY.mp this)).2
 have h2:(L.map λk=>(a.bV p).count k).sum<=L.length*m:=by
  clear h1 hl hL
  induction L with
  |nil=>simp
  |cons x r ih=>
   simp only[Sl,Tt,SS];have:(a.bV p).count x<=m:=by rw[h.sc];exact Rk List.count_le_length (hm x)
   rw[WO];omega
 exact Rk h1 (Rk h2 (Wl m hl))
end AS
noncomputable abbrev PV.ints(L:List Int):PV:=.list (L.map .int)
noncomputable abbrev PV.B6(M:List (List Int)):PV:=.list (M.map PV.ints)
noncomputable def ix{α:Type}[Inhabited α](L:List α)(k:Int):α:=L.getD k.toNat default
section
variable{l i:Expr}
theorem V.name{n:Nat}{pv:PV}(hx:Γ.lookup x=some (some (n,pv)))(hk:aA (env.kindOf x)=true)(hd:autoParam (bk x) oA1._auto_1):Ev C env Γ (.Name x p) false pv:=by
 cases n with
 |zero=>exact(Ev.name hx hk rfl hd).F1
 |succ n=>exact Ev.name hx hk rfl hd
theorem V.int{j:Int}{k:Nat}:Ev C env Γ (.Constant (.int j) k p) false (.int j):=Ev.int
theorem V.str{k:Nat}:Ev C env Γ (.Constant (.str x) k p) false (.str x):=Ev.str
theorem V.bool{b:Bool}{k:Nat}:Ev C env Γ (.Constant (.bool b) k p) false (.bool b):=Ev.bool
theorem V.add{a b:Int}(h1:Ev C env Γ l false (.int a))(h2:Ev C env Γ r false (.int b)):Ev C env Γ (.BinOp l .Add r p) false (.int (a+b)):=Ev.add_int h1 h2
theorem V.sub{a b:Int}(h1:Ev C env Γ l false (.int a))(h2:Ev C env Γ r false (.int b)):Ev C env Γ (.BinOp l .Sub r p) false (.int (a - b)):=Ev.sub_int h1 h2
theorem V.mod{a b:Int}(h1:Ev C env Γ l false (.int a))(h2:Ev C env Γ r false (.int b))(hb:b≠0):Ev C env Γ (.BinOp l .Mod r p) false (.int (a.fmod b)):=Ev.mod_int h1 h2 hb
theorem V.neg{a:Int}(h1:Ev C env Γ e false (.int a)):Ev C env Γ (.UnaryOp .USub e p) false (.int (-a)):=Ev.neg h1
theorem V.yj{a b:Str}(h1:Ev C env Γ l false (.str a))(h2:Ev C env Γ r false (.str b))(hs:a.length+b.length<=2^24):Ev C env Γ (.BinOp l .Add r p) false (.str (a++b)):=Ev.add_str h1 h2 hs
theorem V.item[Inhabited α]{L:List α}{g:α->PV}{k:Int}(h1:Ev C env Γ l false (.list (L.map g)))(h2:Ev C env Γ i false (.int k))(h0:0<=k)(hlt:k<L.length)(aF:L.length<=lim)
  (eY:autoParam (kB i) oA7._auto_1):Ev C env Γ (.Subscript l i p) false (g (ix L k)):=
 Ev.item h1 h2 h0 (by unfold lim at aF;omega) (by
  unfold ix;have:k.toNat<L.length:=by omega
  rw[RZ,Sb,RT this];rfl) eY
theorem V.cmp{x z:PV}(h1:Ev C env Γ l false x)(h2:Ev C env Γ r false y)(qp:cw C env Γ op false false x y z)(hm:autoParam (TB op r=false) oA5._auto_1):Ev C env Γ (.Compare l [op] [r] p) false z:=Ev.cmp h1 h2 qp hm
theorem V.iV{x:PV}{b:Bool}(h1:Ev C env Γ l false x)(h2:Ev C env Γ r false y)(qp:cw C env Γ op false false x y (.bool b))(hm:autoParam (TB op r=false) oA5._auto_1):cX C env Γ (.Compare l [op] [r] p) b:=cX.cmp h1 h2 qp hm
theorem V.builtin(hk:env.kindOf x=some .globalImplicit)(hg:C.glob x=none)(hv:bootBuiltins x=some v)(hn:autoParam (x≠"__name__") oA3._auto_1)(hd:autoParam (bk x) oA1._auto_1):Ev C env Γ (.Name x p) true (.raw v):=Ev.builtin hk hg hv hn hd
theorem V.call{id:Str}{f:Rz}(hf:Ev C env Γ (.Name id p) true (.raw f))(ha:ba C env Γ args false xs)(hB:a7 C env Γ f false xs false y)
  (aX:autoParam (zT args p') oA4._auto_1) (cI:autoParam (jq args p' false) oA2._auto_1):
  Ev C env Γ (.Call (.Name id p) args [] p') false y:=Ev.call hf ha hB aX cI
theorem V.eO:ba C env Γ [] false []:=ba.nil
theorem V.br{x:PV}(h1:Ev C env Γ e false x)(h2:ba C env Γ es false xs)(hs:autoParam (∀env,RV (e::es) env=(false,eval e env)::RV es env) oA2._auto_1):ba C env Γ (e::es) false (x::xs):=ba.cons h1 h2 hs
theorem V.k0{x:PV}(h:Ev C env Γ e false x)(hi:autoParam (x.fy=true) oA1._auto_1):dr C env Γ e 0 x:=dr.b9 (Ev.fy h hi)
theorem V.t{x:PV}(h:Ev C env Γ e false x)(hi:autoParam (x.fy=true) oA1._auto_1):Ev C env Γ e md x:=Ev.fy h hi
theorem V.e0{x:PV}(h:Ev C env Γ e false x)(hi:autoParam (x.fy=true) oA1._auto_1):mr C env Γ e 0 x:=mr.b9 (Ev.fy h hi)
theorem V.vZ(h:bI C env Γ e false xs):Ev C env Γ e false (.list xs):=bI.ev h
theorem V.list(h:ba C env Γ es false xs)(aF:xs.length<=lim):bI C env Γ (.List es p) false xs:=bI.list h aF
theorem V.Kt(h1:Ev C env Γ l false (.list xs))(h2:Ev C env Γ r false (.list ys))(aF:xs.length+ys.length<=lim):bI C env Γ (.BinOp l .Add r p) false (xs++ys):=bI.add h1 h2 aF
theorem V.Mv{t x y:Expr}{b:Bool}{u v:PV}(ht:cX C env Γ t b)(hx:b=true->Ev C env Γ x false u)(hy:b=false->Ev C env Γ y false v):Ev C env Γ (.IfExp t x y p) false (if b then u else v):=by
 have:=Ev.ite (p:=p) (f:=λx:PV=>x) ht hx hy;cases b<;>exact this
theorem V.map{px:Pos}{L:List α}{g:α->PV}{h:α->β}{g':β->PV}(K:d7 env names)
  (h1:dw C env Γ iter md (L.map g)) (hs:jO names scope=true) (gy:scope.names.lookup x=some .local\/scope.names.lookup x=some .cell) (rX:(inner scope Γ).lookup x=some none)
  (he:∀D cells,∀a∈L,mr C (CE scope env D cells) ((x,some (bn md,g a))::inner scope Γ) elt dp (g' (h a))) (aF:L.length<=lim)
  (fe:autoParam (x≠"__classdict__") oA3._auto_1) (hf:autoParam (∀env x,R8 iter env x=pure x) oA9._auto_1):
  jl C env Γ (.ListComp elt [⟨.Name x px,iter,[],0⟩] scope p) dp ((L.map h).map g'):=by
 rw[R6];exact jl.map h1 (bB.CW K hs) gy rX he aF fe hf
theorem V.B7{px:Pos}{L:List α}{g:α->PV}{h:α->β}{g':β->PV}{q:α->Bool}(K:d7 env names)
  (h1:dw C env Γ iter md (L.map g)) (hs:jO names scope=true) (gy:scope.names.lookup x=some .local\/scope.names.lookup x=some .cell) (rX:(inner scope Γ).lookup x=some none)
  (ht:∀D cells,∀a∈L,cX C (CE scope env D cells) ((x,some (bn md,g a))::inner scope Γ) test (q a))
  (he:∀D cells,∀a∈L,q a=true->mr C (CE scope env D cells) ((x,some (bn md,g a))::inner scope Γ) elt dp (g' (h a))) (aF:L.length<=lim)
  (fe:autoParam (x≠"__classdict__") oA3._auto_1) (hf:autoParam (∀env x,R8 iter env x=pure x) oA9._auto_1):
  jl C env Γ (.ListComp elt [⟨.Name x px,iter,[test],0⟩] scope p) dp (((L.filter q).map h).map g'):=by
 rw[R6];exact jl.filter h1 (bB.CW K hs) gy rX ht he aF fe hf
end
noncomputable def gI(n:Int):List Int:=(RG n.toNat).map Int.ofNat
theorem wN(n:Int):mi 0 n 1=n.toNat:=by
 unfold mi Builtin.Range.rangeSize;rw[if_pos (by decide)];by_cases h:0<n
 ·rw[if_pos h,Zo,Int.ediv_one,Int.sub_add_cancel]
 ·rw[if_neg h,Int.toNat_of_nonpos (Uk.mp h)];rfl
theorem Ap(n:Int):i4 0 n 1=gI n:=by
 unfold i4 gI;rw[wN];apply Tg;intro a _;simp
theorem Af(n:Int):(gI n).length=n.toNat:=by simp[gI]
theorem AY{n:Int}{i:Int}(h:(gI n)[j]?=some i):i=j/\(j:Int)<n:=by
 unfold gI at h;rw[RZ]at h;cases hq:(RG n.toNat)[j]? with
 |none=>rw[hq]at h;cases h
 |some a=>
  rw[hq]at h;have h1:=(RY.mp hq);refine oE h1 λh2 h3=>?_;clear h1;simp at h2 h3;have:(Int.ofNat a)=i:=R7 h;subst this;subst h3;exact⟨rfl,by omega⟩
theorem sq(n:Int)(hn:n<=1000000)(h0:0<=n):Builtin.Range.small 0 n 1=true:=by
 have fl:∀k:Int,0<=k->k<=1000001->Builtin.Range.rangeFitsLong k=true:=λk h1 h2=>by
  unfold Builtin.Range.rangeFitsLong;simp only[SU,decide_eq_true_eq];omega
 have hs:Builtin.Range.rangeSize 0 n 1=n:=by
  unfold Builtin.Range.rangeSize;by_cases h:0<n
  ·simp[h]
  ·have:n=0:=by omega
   subst this;rfl
 unfold Builtin.Range.small;rw[hs,fl 0 (by omega) (by omega),fl n h0 (by omega),fl 1 (by omega) (by omega),if_pos (by decide),fl (n+(1 - 1)) (by omega) (by omega)];simp
theorem V.LG{n:Int}(h:Ev C env Γ e md (.jD 0 n 1))(hn:n<=1000000)(h0:0<=n)(hN:autoParam (C.hd=false) oA8._auto_1):dw C env Γ e md ((gI n).map .int):=by
 have:=dw.jD h (sq n hn h0) (by rw[wN];omega);rwa[Ap]at this
section
variable{Γ:ag}
noncomputable def BP(C:Cx)(env:Env)(Γ:ag)(ss:List Stmt)(cls:Rz)(args:List PV):Prop:=
 ∀ (A:Sg) (o:iD) (s:Ro) (Q:Flow->Ro->Prop) (E:Rz->Ro->Prop),aB C A->aV C A env o Γ s->(∀e s',CU C A env o Γ cls args e s'->E (.ref e) s')->RM (RF C.prog C.w) A (execs ss env) Q E s
theorem BP.expr{pos:Pos}{args:List PV}(h:Bf C env Γ e cls args)(hi:interactive env=false)(hs:autoParam (SR e none pos.line env=pure false) oA1._auto_1):BP C env Γ (.Expr e pos::rest) cls args:=λA o s Q E hr hA hE=>
 RI (Uh (h A o s _ _ hr hA hE) hi hs)
theorem Bf.dn{n:Nat}(hn:n+1<=C.cc){args:List PV}(h:Bf (C.l (C.cc - 1)).up env Γ e cls args):Bf C env Γ e cls args:=by
 have:=Cx.down C hn;rwa[this]at h
theorem fL.dn{n:Nat}(hn:n+1<=C.cc){R:ag->PV->Prop}(h:fL (C.l (C.cc - 1)).up env Γ e R):fL C env Γ e R:=by
 have:=Cx.down C hn;rwa[this]at h
theorem Ev.dn{n:Nat}(hn:n+1<=C.cc){Γ:fT}{x:PV}(h:Ev (C.l (C.cc - 1)).up env Γ e md x):Ev C env Γ e md x:=by
 have:=Cx.down C hn;rwa[this]at h
theorem ba.up{n:Nat}(hn:n+1<=C.cc){Γ:fT}(h:ba C env Γ es md xs):ba (C.l (C.cc - 1)).up env Γ es md xs:=by
 have:=Cx.down C hn;rwa[this]
theorem e6.up{n:Nat}(hn:n+1<=C.cc){Γ:fT}{ts:List (Bool×Sem Rz)}(h:e6 C env Γ ts xs):e6 (C.l (C.cc - 1)).up env Γ ts xs:=by
 have:=Cx.down C hn;rwa[this]
theorem ak.DX{X:String}{tn n:Str}{iI pos:Pos}{more:List ExceptHandler}{args:List PV}(i5:BP C env Γ body (.type X) args)
  (hk:env.kindOf tn=some .globalImplicit) (hg:C.glob tn=none) (hb:bootBuiltins tn=some (.type T)) (hl:env.kindOf n=some .local)
  (zB:Ux (.type T) (.type "BaseException")=pure true) (Hb:Ux (.type ((V5 T).elim "type" λx=>x.metatype)) (.type "tuple")=pure false) (ml:Ux (.type X) (.type T)=pure true)
  (oz:ak C.kR env ((n,some (0,.exc (.type X) args))::Γ) (tb::l6) (λfl af=>match fl with| .next=>ak C env ((n,none)::af) rest P| .ret pv=>∀mq,P (.ret pv) mq| .d' xs=>∀mq,P (.d' xs) mq|_=>False))
  (sO:autoParam (tn≠"__name__") oA3._auto_1) (fe:autoParam (n≠"__classdict__") oA3._auto_1) (eg:autoParam (bk tn) oA1._auto_1):
  ak C env Γ (.Try body (.ExceptHandler (some (.Name tn tp)) (some n) (tb::l6) iI::more) orelse [] pos::rest) P:=λA o s Q E hr ht hA he=>by
 refine St.DX (C:=C) (X:=X) (T:=T) (args:=args) hr ht (λQ' E' h=>i5 A o s Q' E' hr hA h) hk hg hb hl zB Hb ml (λe s₁ Q' gX Nn iz fV=>?_) sO fe eg;have Mg:j1 (A.mark (some (.ref e))) env:=⟨ht.kind,ht.fr,ht.own⟩;refine oz (A.mark (some (.ref e))) o s₁ Q' _ Nn Mg gX ⟨λs' af hp gH=>iz af s' gH λcL jv=>hp A o cL Q E hr ht jv he,(λs' af hp gH=>hp.elim),(λs' af hp gH=>hp.elim),λv s' pv af hp hR=>?_,λv s' xs af hp hR=>?_⟩
 ·obtain⟨S,fp,h1,h2,h3⟩:=hR;exact fV (λh=>Rd C.prog C.w S h v pv) v s' S fp af h1 h2 (λh' hk=>h3.mono (λω z=>z) hk) λcL Bl g1 g2 g3=>he.ret v cL pv Bl (hp Bl) ⟨S,fp,g1,g2,g3⟩
 ·obtain⟨S,fp,a,vs,n,h1,h2,rfl,h4,h5,h6,h7,h8⟩:=hR;exact fV (λh=>h.get? a=some (gN vs n)) _ s' S fp af h1 h2 (λh' hk=>hk a _ h8 h6) λcL Bl g1 g2 g3=>he.d' _ cL xs Bl (hp Bl) ⟨S,fp,a,vs,n,g1,g2,rfl,h4,h5,g3,h7.mono (λω z=>z) λω ω f=>f.elim,h8⟩
end
theorem vq:Ux (.type "ValueError") (.type "BaseException")=pure true/\Ux (.type ((V5 "ValueError").elim "type" λx=>x.metatype)) (.type "tuple")=pure false/\Ux (.type "ValueError") (.type "ValueError")=pure true:=⟨by rw[isSubtype_type];kernel_rfl,by kernel_rfl,by rw[isSubtype_type];kernel_rfl⟩
theorem wM:bootBuiltins (So "ValueError")=some (.type "ValueError"):=by decide +kernel
section
variable{Γ:ag}
theorem fL.AD{name:Str}{pos:Pos}{n m:Nat}{pv:PV}(k:bD C.K)(mk:b8 C.K name fa)(hn:m+1<=C.cc)(hx:Γ.lookup x=some (some (n+1,.ay a)))(ha:ba C env (cv Γ) args true xs)(hM:u9 (C.l m) fa a xs pv a')
  (aJ:autoParam (fH (.Name x p) name) oA2._auto_1)
  (dT:autoParam (kH args pos true) oA2._auto_1)
  (aW:autoParam ((apos.endLine==pos.line)=true) oA1._auto_1) (aX:autoParam (Hk args pos) oA10._auto_1)
  (cI:autoParam (jq args pos false) oA2._auto_1) (eg:autoParam (bk x) oA1._auto_1):
  fL C env Γ (.Call (.Attribute (.Name x p) name apos) args [] pos) (λaf q=>q=pv/\af=(x,some (n+1,.ay a'))::Γ):=
 .dn hn (fL.Ft (C:=C.l (C.cc - 1)) k mk hx (ha.up hn) (hM.up (C:=C.l (C.cc - 1)) (by show m<=C.cc - 1;omega)) aJ dT aW aX cI eg)
theorem fL.vK{name:Str}{pos:Pos}{n m:Nat}{pv:PV}(k:bD C.K)(mk:b8 C.K name fa)(hn:m+1<=C.cc)(hx:Γ.lookup x=some (some (n+1,.ay a)))(ha:e6 C env (cv Γ) (SF pos (RV args env)) xs)(hM:u9 (C.l m) fa a xs pv a')
  (aJ:autoParam (fH (.Name x p) name) oA2._auto_1)
  (dT:autoParam (kH args pos false) oA2._auto_1)
  (iR:autoParam (jq args pos true) oA2._auto_1) (eg:autoParam (bk x) oA1._auto_1):
  fL C env Γ (.Call (.Attribute (.Name x p) name apos) args [] pos) (λaf q=>q=pv/\af=(x,some (n+1,.ay a'))::Γ):=
 .dn hn (fL.qJ (C:=C.l (C.cc - 1)) k mk hx (ha.up hn) (hM.up (C:=C.l (C.cc - 1)) (by show m<=C.cc - 1;omega)) aJ dT iR eg)
theorem fL.C9{id:Str}{pos:Pos}{n m:Nat}{d:Stmt}{pv:PV}(hn:m+1<=C.cc)(hk:env.kindOf id=some .globalImplicit)(hg:C.glob id=some (.ref fa))(f:FnAt C.K fa d dflt)
  (hx:Γ.lookup x=some (some (n+1,.ay a))) (ha:ba C env (cv Γ) args true xs) (hM:u9 (C.l m) fa a xs pv a')
  (hs:autoParam (∀env,RV (.Name x px::args) env=(false,eval (.Name x px) env)::RV args env) oA2._auto_1)
  (aX:autoParam (zT (.Name x px::args) pos) oA4._auto_1) (KI:autoParam (bk id) oA1._auto_1) (eg:autoParam (bk x) oA1._auto_1)
  (hb:autoParam (∀env,∃x₀,SF pos (RV (.Name x px::args) env)=(false,x₀)::SF pos (RV args env)/\x₀=(do let v ←eval (.Name x px) env;standAt pos;pure v)\/SF pos (RV (.Name x px::args) env)=(false,eval (.Name x px) env)::SF pos (RV args env)) oA12._auto_1):
  fL C env Γ (.Call (.Name id p) (.Name x px::args) [] pos) (λaf q=>q=pv/\af=(x,some (n+1,.ay a'))::Γ):=
 .dn hn (fL.Fh (C:=C.l (C.cc - 1)) hk hg f hx (ha.up hn) (hM.up (C:=C.l (C.cc - 1)) (by show m<=C.cc - 1;omega)) hs aX KI eg hb)
theorem V.fn{Γ:fT}{id:Str}{pos:Pos}{d:Stmt}{m:Nat}(hn:m+1<=C.cc)(hk:env.kindOf id=some .globalImplicit)(hg:C.glob id=some (.ref fa))(f:FnAt C.K fa d dflt)
  (ha:ba C env Γ args md xs) (hF:Fn (C.l m) fa xs y)
  (aX:autoParam (zT args pos) oA4._auto_1) (eg:autoParam (bk id) oA1._auto_1):
  Ev C env Γ (.Call (.Name id p) args [] pos) md y:=by
 obtain⟨ob,fd,f1,f2,_⟩:=f.ex;exact .dn hn (Ev.fn (C:=C.l (C.cc - 1)) hk hg f1 f2 (ha.up hn) (hF.up (C:=C.l (C.cc - 1)) (by show m<=C.cc - 1;omega)) aX eg)
theorem V.methP{Γ:fT}{name:Str}{pos:Pos}{n m:Nat}{pv:PV}(k:bD C.K)(mk:b8 C.K name fa)(hn:m+1<=C.cc)(hx:Γ.lookup x=some (some (n,.ay a)))(bS:aA (env.kindOf x)=true)(ha:∀md,ba C env Γ args md xs)(hM:∀St:aa,St.abs=a->Fn (C.l m) fa (.aK St::xs) pv)
  (aJ:autoParam (fH (.Name x p) name) oA2._auto_1)
  (dT:autoParam (kH args pos true) oA2._auto_1)
  (aW:autoParam ((apos.endLine==pos.line)=true) oA1._auto_1) (aX:autoParam (Hk args pos) oA10._auto_1)
  (cI:autoParam (jq args pos false) oA2._auto_1) (eg:autoParam (bk x) oA1._auto_1):
  Ev C env Γ (.Call (.Attribute (.Name x p) name apos) args [] pos) false pv:=by
 have h:=Ev.D1 (C:=C.l (C.cc - 1)) (md:=n==0) k mk hx bS ((ha _).up hn) (λSt e=>(hM St e).up (C:=C.l (C.cc - 1)) (by show m<=C.cc - 1;omega)) rfl aJ dT aW aX cI eg;have h2:Ev C env Γ (.Call (.Attribute (.Name x p) name apos) args [] pos) (n==0) pv:=.dn hn h;cases n with
 |zero=>exact h2.F1
 |succ n=>exact h2
end
section
variable{e2 e3:Expr}
theorem V.len(T:TopK C)(K:d7 env names)(hk:names.lookup ("len":Str)=some .globalImplicit)(h:Ev C env Γ e false (.list xs))(hs:xs.length<=lim)
  (rY:autoParam (uC e []) oA2._auto_1) (aX:autoParam (zT [e] p') oA4._auto_1) (eY:autoParam (jq [e] p' false) oA2._auto_1):
  Ev C env Γ (.Call (.Name "len" p) [e] [] p') md (.int xs.length):=
 Ev.fy (V.call (V.builtin (v:=.builtin "len") (K.jZ _ hk) (T.none (x:="len") (by decide)) (by decide +kernel)) (V.br h V.eO rY) (a7.len_list hs) aX eY) rfl
theorem V.fK(T:TopK C)(K:d7 env names)(hk:names.lookup ("range":Str)=some .globalImplicit){a:Int}(h:Ev C env Γ e false (.int a))
  (rY:autoParam (uC e []) oA2._auto_1) (aX:autoParam (zT [e] p') oA4._auto_1) (eY:autoParam (jq [e] p' false) oA2._auto_1):
  Ev C env Γ (.Call (.Name "range" p) [e] [] p') md (.jD 0 a 1):=
 Ev.call (m1:=true) (V.builtin (v:=.type "range") (K.jZ _ hk) (T.none (x:="range") (by decide)) (by decide +kernel)) (ba.cons (Ev.fy h rfl) ba.nil rY) a7.fK aX eY
theorem V.HJ(T:TopK C)(K:d7 env names)(hN:C.hd=false)(hk:names.lookup ("max":Str)=some .globalImplicit){ns:List Int}{M:Int}(h:Ev C env Γ e false (.ints ns))(hM:M∈ns)(hle:∀a∈ns,a<=M)
  (rY:autoParam (uC e []) oA2._auto_1) (aX:autoParam (zT [e] p') oA4._auto_1) (eY:autoParam (jq [e] p' false) oA2._auto_1):
  Ev C env Γ (.Call (.Name "max" p) [e] [] p') md (.int M):=
 Ev.fy (V.call (V.builtin (v:=.builtin "max") (K.jZ _ hk) (T.none (x:="max") (by decide)) (by decide +kernel)) (V.br h V.eO rY) (a7.max_list hM hle hN) aX eY) rfl
theorem V.sum(T:TopK C)(K:d7 env names)(hN:C.hd=false)(hk:names.lookup ("sum":Str)=some .globalImplicit){ns:List Int}(h:Ev C env Γ e false (.ints ns))
  (rY:autoParam (uC e []) oA2._auto_1) (aX:autoParam (zT [e] p') oA4._auto_1) (eY:autoParam (jq [e] p' false) oA2._auto_1):
  Ev C env Γ (.Call (.Name "sum" p) [e] [] p') md (.int ns.sum):=
 Ev.fy (V.call (V.builtin (v:=.builtin "sum") (K.jZ _ hk) (T.none (x:="sum") (by decide)) (by decide +kernel)) (V.br h V.eO rY) (a7.sum hN) aX eY) rfl
theorem V.Dd(T:TopK C)(K:d7 env names)(hk:names.lookup ("type":Str)=some .globalImplicit)(h:Ev C env Γ e false (.tuple xs))
  (rY:autoParam (uC e []) oA2._auto_1) (aX:autoParam (zT [e] p') oA4._auto_1) (eY:autoParam (jq [e] p' false) oA2._auto_1):
  Ev C env Γ (.Call (.Name "type" p) [e] [] p') md (.raw (.type "tuple")):=
 Ev.fy (V.call (V.builtin (v:=.type "type") (K.jZ _ hk) (T.none (x:="type") (by decide)) (by decide +kernel)) (V.br h V.eO rY) a7.vQ aX eY) rfl
theorem V.tyName(T:TopK C)(K:d7 env names){x:String}(hx:x∈["len","range","enumerate","min","max","sum","list","tuple","set","str","type","isinstance","repr","abs","sorted","bool","iter","ValueError","StopIteration"])(hk:names.lookup (So x)=some .globalImplicit)(hv:bootBuiltins (So x)=some v)(hn:autoParam (So x≠"__name__") oA3._auto_1)(hd:autoParam ((So x==("__debug__":Str))=false) oA1._auto_1):Ev C env Γ (.Name (So x) p) md (.raw v):=
 Ev.builtin (K.jZ _ hk) (T.none hx) hv hn hd
end
theorem j2(xs:List PV):(PV.list xs).eqv (.list [])=xs.isEmpty:=by
 cases xs<;>rfl
section
variable{l:Expr}
theorem V.MU(h1:Ev C env Γ l false (.list xs))(h2:Ev C env Γ r false (.list []))(hx:(PV.list xs).ok=true)(hm:autoParam (TB .Eq r=false) oA5._auto_1):cX C env Γ (.Compare l [.Eq] [r] p) xs.isEmpty:=by
 have:=V.iV (p:=p) h1 h2 (cw.eq (y:=.list []) hx rfl) hm;rwa[j2]at this
theorem V.LC(h1:Ev C env Γ l false (.list xs))(h2:Ev C env Γ r false (.list []))(hx:(PV.list xs).ok=true)(hm:autoParam (TB .NotEq r=false) oA5._auto_1):Ev C env Γ (.Compare l [.NotEq] [r] p) false (.bool (!xs.isEmpty)):=by
 have:=V.cmp (p:=p) h1 h2 (cw.ne (y:=.list []) hx rfl) hm;rwa[j2]at this
theorem V.mx:Ev C env Γ (.List [] p) false (.list []):=bI.ev (bI.list ba.nil (by decide))
end
noncomputable def ju(C:Cx)(env:Env)(Γ:ag)(e:Expr)(R:ag->Bool->Prop):Prop:=
 ∀ (A:Sg) (o:iD) (s:Ro) (Q:Bool->Ro->Prop) (E:Rz->Ro->Prop),aB C A->aV C A env o Γ s->
  (∀b s' af,R af b->aV C A env o af s'->Q b s')->RM (RF C.prog C.w) A (isTrue e env (eval e env)) Q E s
section
variable{Γ:ag}
theorem ju.of{b:Bool}(h:cX C env (cv Γ) e b):ju C env Γ e (λaf q=>af=Γ/\q=b):=λA o s Q E hr hA hq=>by
 obtain⟨S,fp,gX,av⟩:=id hA;exact h A S _ s _ E hr gX.here λh' t' ex=>hq b _ Γ ⟨rfl,rfl⟩ (hA.ext ex t')
theorem ju.cmp{l:Expr}{p:Pos}{R1:ag->PV->Prop}{R:ag->Bool->Prop}(h1:fL C env Γ l R1)
  (h2:∀af x,R1 af x->∃y b,Ev C env (cv af) r false y/\cw C env (cv af) op false false x y (.bool b)/\R af b)
  (hm:autoParam (TB op r=false) oA5._auto_1):ju C env Γ (.Compare l [op] [r] p) R:=λA o s Q E hr hA hq=>by
 refine Wr ?_ hm;refine h1 A o s _ E hr hA λv S fp s' af x hR bF dE rd=>?_;refine lW (h2 af x hR) λy b e2 qp ON=>?_;refine e2 A S _ s' _ E hr bF.here λu h2 t2 ex ru=>?_;have hv:Rd C.prog C.w (dH false S (qh A env s'.heap) s'.heap) h2 v x:=(rd.mono (λa ha=>.inl (bF.here.sub a ha)) λa o ha e=>ex.keep a o (bF.here.old a (bF.here.sub a ha)).2.1 e);refine qp A S _ {s' with heap:=h2,toks:=t2} s'.heap v u _ E hr (bF.here.ext ex) ex bF.here.C5 hv ru λz h3 t3 iF rz=>?_;cases(rz true).bool_inv;exact Vo (hq b _ af ON (aV.ext ⟨S,fp,bF,dE⟩ (ex.trans iF) t3))
noncomputable def jY(C:Cx)(env:Env)(Γ:ag)(es:List Expr)(R:ag->Bool->Prop):Prop:=
 ∀ (A:Sg) (o:iD) (s:Ro) (Q:Bool->Ro->Prop) (E:Rz->Ro->Prop),aB C A->aV C A env o Γ s->
  (∀b s' af,R af b->aV C A env o af s'->Q b s')->RM (RF C.prog C.w) A (allTrue .Or es env) Q E s
theorem jY.nil{R:ag->Bool->Prop}(h:R Γ false):jY C env Γ [] R:=λA o s Q E hr hA hq=>Yr (hq false s Γ h hA)
theorem jY.cons{x:Expr}{R1 R:ag->Bool->Prop}(h1:ju C env Γ x R1)(ht:∀af,R1 af true->R af true)(hf:∀af,R1 af false->jY C env af es R):jY C env Γ (x::es) R:=λA o s Q E hr hA hq=>
 Yg (h1 A o s _ E hr hA λb s' af hR bF=>by
  cases b with
  |true=>exact hq true s' af (ht af hR) bF
  |false=>exact hf af hR A o s' Q E hr bF hq)
theorem ju.N7{R:ag->Bool->Prop}(h:jY C env Γ es R):ju C env Γ (.BoolOp .Or es p) R:=λA o s Q E hr hA hq=>YF (h A o s Q E hr hA hq)
theorem ak.GO{pos:Pos}{R:ag->Bool->Prop}(hB:ju C env Γ test R)(k:∀af b,R af b->ak C env af (if b then body else orelse) (B0 C env rest P)):
  ak C env Γ (.If test body orelse pos::rest) P:=λA o s Q E hr ht hA he=>by
 refine RI (wpAny_If ?_);refine hB A o s _ E hr hA λb s' af hR bF=>?_;have:=k af b hR A o s' _ E hr ht bF (he.B0 (E:=E) hr ht);cases b
 ·exact Sf this (λf s h=>by cases f<;>exact h) λω ω h=>h
 ·exact Sf this (λf s h=>by cases f<;>exact h) λω ω h=>h
theorem ak.enum{Mp:Str}{tk:Nat}{tp ip cp pos:Pos}(hN:C.hd=false)(hf:Ev C env (cv Γ) (.Name Mp ip) true (.raw (.type "enumerate")))(h:Ev C env (cv Γ) e true (.list xs))(aF:xs.length<=lim)
  (inv tg:Nat->ag) (h0:dY (inv 0) Γ) (uO:∀ (i:Nat) (x:PV),xs[i]?=some x->fm C env (inv i) elts [.int i,x] (tg i))
  (step:∀ (i:Nat) (x:PV),xs[i]?=some x->ak C env (tg i) body (λfl af=>fl= .next/\dY (inv (i+1)) af))
  (k:ak C env (inv xs.length) rest P)
  (IP:autoParam (∀env,(assignEach elts env).length=2) oA2._auto_1) (bR:autoParam (∀env,Wv (λx=>x.fst) (assignEach elts env)=none) oA2._auto_1)
  (hs:autoParam (∀x,R8 (.Call (.Name Mp ip) [e] [] cp) env x=pure x) oA2._auto_1)
  (rY:autoParam (treeE e cp) oA2._auto_1):
  ak C env Γ (.For (.Tuple elts tk tp) (.Call (.Name Mp ip) [e] [] cp) body [] pos::rest) P:=λA o s Q E hr ht hA he=>by
 refine RI (Yh ?_ hs);obtain⟨S,fp,hA,av⟩:=hA;refine TC ?_;refine hf A S _ s _ E hr hA.here λv h1 t1 bQ r1=>?_;cases r1.aQ;rw[rY];refine eR (.inl ⟨_,rfl⟩) ⟨_,_,rfl⟩ rfl ?_;refine Tr (h A S _ {s with heap:=h1,toks:=t1} _ E hr (hA.here.ext bQ) λu h2 t2 c7 ru=>Ud ?_);refine aP ru.aS λl vs n zr zw=>?_;subst zr;refine dd zw λhl ho ra=>?_;clear zw;refine call_enumerate_list (s:={s with heap:=h2,toks:=t2}) (bz.bw ho) λh3 hE hI z4 jW=>?_;refine wpAny_pyIter_enum hE ?_
 let I:RD:=h2.objs.size+1
 let J:RD:=h2.objs.size
 have kE:=bQ.trans c7;have iF:Ext A env s.heap h3:=kE.trans (.of_keeps jW)
 let N:RD->Prop:=λa=>s.heap.get? a=none/\(h2.get? a).isSome=true
 have jv:=hA.ext iF N λa ha=>⟨ha.1,by refine oE (Rv.mp ha.2) λb hb=>?_;rw[jW a b hb];rfl⟩;have yY:Step A env o (λa=>S a\/N a) fp {s with heap:=h3,toks:=t2}:=av.trans ⟨⟨h3,t2,rfl⟩,λa ha=>.inl ha,λa ha=>ha.imp id λq=>.inr q.1,λy a ha=>.inl ⟨y,ha⟩,λa b hF hn ho=>iF.keep a b (λe=>hF (.inl e)) ho,λa ha=>iF.live hA.aq.ns ha,iF.fr⟩;have M8:∀a,h2.objs.size<=a->h2.get? a=none:=λa ha=>by
  cases hq:h2.get? a with
  |none=>rfl
  |some b=>exact absurd (Ss hq) (SV.mpr ha)
 have PT:∀a,h2.objs.size<=a->s.heap.get? a=none:=λa ha=>kE.fresh hA.aq.ns (M8 a ha);have cY:=kE.df hA.here;have off:∀a,h2.objs.size<=a->o.s.heap.get? a=none/\Rt<a/\¬(S a\/N a)/\¬ax A env a/\(∀y,a∉fp y)/\∀b,C.K.lookup a≠some b:=λa ha=>by
  have h0:=PT a ha;refine⟨av.fresh h0,Ru cY ha,λhm=>?_,λhF=>?_,λy hy=>?_,λb hb=>?_⟩
  ·rcases hm with hm|hm
   ·have:=(hA.aO a hm).1;rw[h0]at this;cases this
   ·have:=hm.2;rw[M8 a ha]at this;cases this
  ·have:=hA.aq.frame_there hA.bE a hF;rw[h0]at this;cases this
  ·have:=(hA.fold y a hy).1;rw[h0]at this;cases this
  ·have:=hA.base.cB a b hb;rw[h0]at this;cases this
 have FF:S l\/N l:=by
  rcases hl with hl|hl
  ·exact .inl hl
  ·exact .inr ⟨bQ.fresh hA.aq.ns hl,by rw[ho];rfl⟩
 have hlen:=ra.length;refine yz (C:=C) (s:={s with heap:=h3,toks:=t2}) (Γ:=Γ) (xs:=xs) (l:=l) (it:=J) (I:=I) hr jv yY FF ((bz.bw ho).at λo e=>jW l o e) hE hI (TA (TZ _)) (off I (XX _)) (off J (Rx _)) (λi v hv=>?_) (by simp[hlen]) inv tg h0 hN uO IP bR (λi x hx o' s' Q' E' bF hn=>?_) λs' bF=>?_
 ·have F9:vs[i]?=some v:=by simpa using hv
  refine aD (ra.yw F9) λx hx rx=>?_;refine⟨x,hx,rx.there.mono (λa ha=>?_) λa o ha e=>jW a o e⟩;rcases ha.1 with hm|hm
  ·exact .inl hm
  ·exact .inr ⟨bQ.fresh hA.aq.ns hm,ha.2⟩
 ·exact step i x hx A o' s' Q' E' hr ht bF ⟨λcP af hp gH=>hn cP (gH.weak hp.2),(λcP af hp gH=>nomatch hp.1),(λcP af hp gH=>nomatch hp.1),(λv cP pv af hp hR=>nomatch hp.1),(λv cP pv af hp hR=>nomatch hp.1)⟩
 ·exact St.nil (k A o s' Q E hr ht bF he)
end
theorem qU{P:Params}{i:Int}(x:Well P h v (ofPy (.int i))):∃t,v= .int i t:=by
 cases x with
 |int i t=>exact⟨t,rfl⟩
theorem n7{prog:Sw}{w:TG}{P:Params}{S:RD->Prop}:∀ (xs:List Int) (vs:List Rz),WellAll P h vs (ofPys (xs.map .int))->ab prog w S h vs (xs.map .int)
 |[],vs,x=>by
  cases x;exact .nil
 |i::xs,vs,x=>by
  cases x with
  |cons h1 h2=>
   refine oE (qU h1) λt zr=>?_;subst zr;exact .cons (.int i t) (n7 xs _ h2)
theorem BR{prog:Sw}{w:TG}{P:Params}{S:RD->Prop}{a:RD}{xs:List Int}(ha:S a)(x:Well P h (.ref a) (ofPy (.list (xs.map .int)))):Rd prog w S h (.ref a) (.ints xs):=by
 have x':Well P h (.ref a) (.list (ofPys (xs.map .int))):=x;cases x' with
 |list e hw=>exact .list (n:=0) ha e (n7 xs _ hw)
theorem IK{mg:Str->Option Rz}(KX:C.K.In h)(g:h.Ns Rt mg)(hk:(C.K.lookup Rt).isSome=true):C.Ok/\∀x,mg x=C.glob x:=by
 refine mD g λo es ep ho hd hs hf=>?_;clear g;refine oE (Rv.mp hk) λo' jy=>?_;have e:=KX _ _ jy;rw[ho]at e;cases e;have hg:C.oj=some es:=by unfold Cx.oj;rw[jy];simp only;rw[hd]
 exact⟨⟨es,hg,hs⟩,λx=>by unfold Cx.glob;rw[hg];exact(hf x).symm⟩
theorem tV(C:Cx)(hl:C.cc<=12):aB C callerA:=by
 have h1:callerA.depth+40+4*12<recursionLimit:=by show(1+300)+40+4*12<1000;omega
 have h2:callerA.units+400+40*12<cLine:=by show 4+400+40*12<9900;omega
 exact⟨λω=>rfl,RJ (Se (Vw 4 hl) _) h1,RJ (Se (Vw 40 hl) _) h2⟩
theorem z0{fb:RD}{p:Sw}{loose:List Str}{mn:ExcName->Option Rz}{mg mb:Str->Option Rz}{a:RD}{xs:List Int}{s₁:Ro}{c:ClaimW}{cl:Str->Option RD}{mean:ExcName->Option Rz}{args:List WData}(hF:Fn C fb [.ints xs] (.bool true))(hr:aB C.up callerA)(T:Top p loose mn mg mb s₁.heap)(KX:C.K.In s₁.heap)(hk:(C.K.lookup Rt).isSome=true)(hm:mg (So "law")=some (.ref fa))(hl:C.glob (So "law")=some (.ref fb))(w:Well C.w.params s₁.heap (.ref a) (ofPy (.list (xs.map .int))))
  (hc:(∀cls,c.raises args cls=false)) (hp:c.post args (.bool true) args=true) (hg:s₁.gens=#[]):
  RM (RF C.prog C.w) callerA (call (.ref fa) [.ref a]) (λv s'=>GoodWG c cl mean args s₁ (.ok (.ret v)) s') (λe s'=>GoodWG c cl mean args s₁ (.error e) s') s₁:=by
 refine enter_call ?_;refine oA (IK KX T.g hk) λok Pn=>?_;rw[Pn,hl]at hm;cases hm;have b:Base C s₁.heap:=⟨KX,T.nolimit,⟨mb,T.b,T.builtins⟩,T.nodigits⟩;have bR:∀x,¬onStack callerA x:=λx hx=>by
  refine DA hx λl hl e he _=>?_;clear hx;cases hl;cases he
 refine hF callerA (λx=>(s₁.heap.get? x).isSome=true) s₁ [.ref a] _ hr ok b ⟨[],rfl,λe he=>nomatch he⟩ (λx hx=>⟨hx,bR x⟩) (.cons (BR ?_ w) .nil) λv h' t' k r=>?_
 ·cases w with
  |list e _=>rw[e];rfl
 ·cases r with
  |bool b=>
   refine⟨.inl ⟨_,.bool true,[],rfl,hc,.bool true,hp,λω=>⟨Sn,λa ha=>nomatch ha⟩⟩,?_,rfl,.of_eq hg⟩;exact OldK.of_keep λb o e=>k.keep b o (bR b) e
theorem zU(l:OpenLaw)(args:List WData):l.row.claim.post args (.bool true) args=true:=by kernel_rfl
theorem zA{n:Nat}(h:n<=1000):n<=lim:=Rk h (by decide)
theorem jb{n:Nat}:(gI (n:Int)).length=n:=by rw[Af];rfl
theorem Ah{n:Nat}(hn:n<=1000):(gI (n:Int)).length<=lim:=by rw[jb];exact zA hn
theorem pT{n:Nat}{i:Int}(h:(gI (n:Int))[j]?=some i):0<=i/\i<n/\i=j:=by
 refine oA (AY h) λh1 h2=>?_;omega
section
variable{l i:Expr}
theorem V.tw[Inhabited α]{L:List α}{g:α->PV}{k:Int}{n:Nat}(h1:Ev C env Γ l false (.list (L.map g)))(h2:Ev C env Γ i false (.int k))(h0:0<=k)(hlt:k<n)(hl:L.length=n)(hn:n<=1000)
  (eY:autoParam (kB i) oA7._auto_1):Ev C env Γ (.Subscript l i p) false (g (ix L k)):=
 V.item h1 h2 h0 (hl▸hlt) (hl▸zA hn) eY
theorem V.BY{n:Nat}(h:Ev C env Γ e md (.jD 0 n 1))(hn:n<=1000)(hN:C.hd=false):dw C env Γ e md ((gI n).map .int):=
 V.LG h (by omega) (by omega) hN
end
theorem tI{prog:Sw}{w:TG}(hh:A.handled=none)(it d:RD)(aX:d≠it)(kvs:List (Key×Rz))(ep:Nat):
  WalksT prog w A it [it,d] [it] kvs.length
   (λi vals=>∃k v key,kvs[i]?=some (k,v)/\(aw prog w).is k key=true/\vals=#[key,v])
   (λi h=>(∃ok ov,IsItemIter h it d i kvs.length ep ok ov)/\h.DictAt (aw prog w) d kvs ep)
   (λi T h=>(∃ok ov,IsItemIterOut h it d (i+1) kvs.length ep ok ov T)/\h.DictAt (aw prog w) d kvs ep/\T≠it)where
 sub:=λb hb=>by rw[Rq.mp hb];exact Rm ..
 frame:=λi h h' av hk=>⟨av.1.imp λok h1=>h1.imp λov h2=>hk it (Rm ..) _ h2,av.2.at λo e=>hk d (by simp) o e⟩
 item:=λi s Q E hi av hQ=>by
  refine oA av λrE hm=>?_;clear av;obtain⟨ok,ov,he⟩:=rE;have hx:kvs[i]?=some (kvs[i].1,kvs[i].2):=RT hi;refine wpAny_pyNext_items_item he hm hx λkey h' hk ho hT aF jw=>?_;exact hQ s.heap.objs.size #[key,kvs[i].2] h' s.toks ⟨_,_,key,hx,hk,rfl⟩ (Rx _) ⟨_,hT,rfl,_,rfl⟩ ⟨⟨_,_,ho⟩,hm.at λo e=>jw d o aX e,TA (Ss he)⟩ λb o hb e=>jw b o (λe'=>hb (by simp[e'])) e
 go:=λelts k pos i T s Q E hm hQ=>by
  refine dd hm λrE hd hT=>?_;clear hm;obtain⟨ok,ov,ho⟩:=rE;exact wpAny_letOwnedTupleGo_items ho λh' Ke gd=>hQ h' ⟨⟨ok,ov,Ke⟩,hd.at λo e=>(gd.2 d aX).trans e⟩ λb o hb e=>(gd.2 b λe'=>hb (by simp[e'])).trans e
 apart:=λi T h hm hT=>hm.2.2 (Rq.mp hT)
 done:=λs Q E av hQ=>by
  refine oA av λrE hm=>?_;clear av;obtain⟨ok,ov,he⟩:=rE;exact wpAny_pyNext_items_end hh he hm (UE (Rx _)) λh' hx=>hQ h' s.toks λb o hb e=>hx b o (λe'=>hb (by simp[e'])) e
 self:=λi s Q E av hQ=>by
  refine oA av λrE _=>?_;clear av;obtain⟨ok,ov,he⟩:=rE;exact kcp_self he hQ
section
variable{Γ:ag}{s:Ro}{Q:Flow->Ro->Prop}{S:RD->Prop}{fp:Str->List RD}
theorem Step.Mw{B:RD->Prop}(av:Step A env o S fp s)(hB:∀a,B a->o.s.heap.get? a=none)(hk:∀a b,¬B a->s.heap.get? a=some b->h₁.get? a=some b)(t:Nat):Step A env o S fp {s with heap:=h₁,toks:=t}:=by
 refine jH av.same λh t0 e=>?_;have ne:∀a,(o.s.heap.get? a).isSome=true->¬B a:=λa ha hb=>by rw[hB a hb]at ha;cases ha
 refine⟨⟨h₁,t,by rw[e]⟩,av.grow,av.mu,av.mw,λa b hF hn ho=>hk a b (ne a (by rw[ho];rfl)) (av.keep a b hF hn ho),λa ha=>?_,λa b hs hl ho=>?_⟩
 ·refine oE (Rv.mp (av.live a ha)) λb hb=>?_;rw[hk a b (ne a ha) hb];rfl
 ·refine oE (av.fr a b hs hl ho) λsl h1=>?_;exact⟨sl,hk a _ (ne a (by rw[ho];rfl)) h1⟩
inductive GD(C:Cx)(A:Sg)(env:Env)(o:iD)(inv:Nat->ag->Prop)(xl:Nat)(S:RD->Prop)(h1:Heap)(wr:List RD)(St:Nat->Heap->Prop)(n:Nat)(s':Ro):Prop
 |mk (i:Nat) (aE:ag) (Si:RD->Prop) (iJ:Str->List RD):i<=xl->n=xl - i->inv i aE->At C A env Si iJ aE s'.heap->Step A env o Si iJ s'->(∀a,S a->Si a)->(∀a b,S a->h1.get? a=some b->s'.heap.get? a=some b)->St i s'.heap->(∀a∈wr,¬Si a/\∀y,a∉iJ y)->GD C A env o inv xl S h1 wr St n s'
theorem uT{tk:Nat}{xs:List (List PV)}{fl wr:List RD}{Pt:Nat->Array Rz->Prop}{St:Nat->Heap->Prop}{Mid:Nat->RD->Heap->Prop}(hr:aB C A)(hA:At C A env S fp Γ s.heap)(av:Step A env o S fp s)
  (W:WalksT C.prog C.w A I fl wr xs.length Pt St Mid) (KR:St 0 s.heap)
  (De:∀a∈wr,o.s.heap.get? a=none/\Rt<a/\¬S a/\¬ax A env a/\(∀y,a∉fp y)/\∀b,C.K.lookup a≠some b)
  (te:∀a∈fl,a∈wr\/S a) (IJ:∀i h,St i h->∀a∈wr,(h.get? a).isSome=true)
  (ur:∀i vals,Pt i vals->∃ys,xs[i]?=some ys/\ab C.prog C.w S s.heap vals.toList ys) (inv:Nat->ag->Prop) (tg:List PV->ag->ag) (h0:inv 0 Γ)
  (hN:C.hd=false) (uO:∀ (i:Nat) (ys:List PV) aE,xs[i]?=some ys->inv i aE->fm C env aE elts ys (tg ys aE)/\(assignEach elts env).length=ys.length)
  (bR:Wv (λx=>x.fst) (assignEach elts env)=none)
  (step:∀ (i:Nat) (ys:List PV) aE,xs[i]?=some ys->inv i aE->∀ (o':iD) (s':Ro) (Q':Flow->Ro->Prop) (E':Rz->Ro->Prop),aV C A env o' (tg ys aE) s'->(∀cP mq,inv (i+1) mq->aV C A env o' mq cP->Q' .next cP)->RM (RF C.prog C.w) A (execs body env) Q' E' s')
  (k:∀s' af,inv xs.length af->aV C A env o af s'->RM (RF C.prog C.w) A (execs orelse env) (λf cL=>R (.ok f) cL) (notedBy (RF C.prog C.w) A env λe s'=>R (.error e) s') s'):
  TR (RF C.prog C.w) A (.forLoop (.Tuple elts tk tp) (.ref I) body orelse env) R s:=by
 refine ft (GD C A env o inv xs.length S s.heap wr St) (λn s' pW Qn En QB hE Gw hV EB Jf Jj=>?_) xs.length ⟨0,Γ,S,fp,RU _,rfl,h0,hA,av,λω h=>h,λω ω ω e=>e,KR,λa ha=>⟨(De a ha).2.2.1,(De a ha).2.2.2.2.1⟩⟩;obtain⟨i,aE,Si,iJ,hi,hn,hinv,uJ,yH,rm,FO,sP,Bw⟩:=pW;have hB:∀a,a∈wr->Rt<a/\(∀b,C.K.lookup a≠some b)/\¬Si a/\¬ax A env a/\∀y,a∉iJ y:=λa ha=>⟨(De a ha).2.1,(De a ha).2.2.2.2.2,(Bw a ha).1,(De a ha).2.2.2.1,(Bw a ha).2⟩;have off:∀ {s1:Ro} (h2:Heap) (t2:Nat),Step A env o Si iJ s1->(∀a b,a∉wr->s1.heap.get? a=some b->h2.get? a=some b)->Step A env o Si iJ {s1 with heap:=h2,toks:=t2}:=λh2 t2 x k=>x.Mw (λa ha=>(De a ha).1) k t2;rcases Vk i xs.length with hlt|iy
 ·refine W.item i s' _ _ hlt sP λT vals h2 t2 hv hT Ff zM mW=>hV _ _ ?_;refine W.go elts tk tp i T {s' with heap:=h2,toks:=t2} _ _ zM λh3 z7 jW=>?_;have Lq:T∉wr:=W.apart i T h2 zM;refine aD (ur i vals hv) λys hx rx=>?_;refine oA (uO i ys aE hx hinv) λP9 Qy=>?_;refine YR (s:={s' with heap:=h3,toks:=t2}) (hr.1 hN) (items:=vals) (Ff.elim λob h=>⟨ob,jW T ob Lq h.1,h.2⟩) (by rw[Qy,<-rx.length];simp) bR λh4 JY=>?_;have kT:∀a b,h3.get? a=some b->h4.get? a=some b:=λa b hb=>JY a b (Sm (Ss hb)) hb;have k4:∀a b,a∉wr->s'.heap.get? a=some b->h4.get? a=some b:=λa b ha hb=>kT a b (jW a b ha (mW a b ha hb));have Ay:∀a b,S a->s.heap.get? a=some b->h4.get? a=some b:=λa b ha hb=>k4 a b (λh=>(hB a h).2.2.1 (rm a ha)) (FO a b ha hb);refine P9 A o Si iJ {s' with heap:=h4,toks:=t2} _ _ _ hr (uJ.quiet (λa=>a∈wr) k4 hB) (off h4 t2 yH k4) (rx.mono rm Ay) λwC h5 t5 m9 DR IT L6=>?_;have Az:St (i+1) h5:=W.frame _ _ _ (W.frame _ _ _ z7 λb ω ob fo=>kT b ob fo) λb hb ob fo=>IT b ob ((te b hb).elim (λh=>(De b h).2.2.2.1) λh=>(hA.aO b h).2.1) fo;have FT:∀a,a∈wr->∀y,a∉wC y:=λa ha y hy=>(Bw a ha).2 y (L6 y a hy);refine step i ys aE hx hinv ⟨Si,wC,{s' with heap:=h5,toks:=t5}⟩ _ _ _ ⟨Si,wC,m9,Step.refl _ _ _ _ _⟩ λcP mq EF jL=>(EB (xs.length - (i+1)) cP (fz hn hlt) ?_).1;obtain⟨S6,J2,rZ,wG⟩:=jL;have uk:∀a,S a->¬ax A env a/\∀y,a∉wC y:=λa ha=>(m9.aO a (rm a ha)).2;refine⟨i+1,mq,S6,J2,hlt,rfl,EF,rZ,DR.trans wG,λa ha=>wG.grow a (rm a ha),λa b ha hb=>wG.keep a b (uk a ha).1 (uk a ha).2 (IT a b (uk a ha).1 (Ay a b ha hb)),W.frame _ _ _ Az λb hb ob fo=>?_,λa ha=>wG.tF (Bw a ha).1 (FT a ha) (IJ _ _ Az a ha)⟩;rcases te b hb with hb|hb
  ·exact wG.keep _ ob (De b hb).2.2.2.1 (FT b hb) fo
  ·exact wG.keep _ ob (uk b hb).1 (uk b hb).2 fo
 ·have uP:i=xs.length:=Sa hi iy;refine W.done s' _ _ (uP▸sP) λh2 t2 mW=>Gw _ ?_;exact Sf (k _ aE (uP▸hinv) ⟨Si,iJ,uJ.quiet (λa=>a∈wr) mW hB,off h2 t2 yH mW⟩) (λω ω h=>h) hE
end
section
variable{Γ:ag}
theorem ak.items{tk:Nat}{cp pos:Pos}(hN:C.hd=false)(h:Ev C env (cv Γ) e true (.dict kvs))
  (inv:Nat->ag->Prop) (tg:List PV->ag->ag) (h0:inv 0 Γ) (uO:∀ (i:Nat) k v aE,kvs[i]?=some (k,v)->inv i aE->fm C env aE elts [k.pv,v] (tg [k.pv,v] aE))
  (step:∀ (i:Nat) k v aE,kvs[i]?=some (k,v)->inv i aE->ak C env (tg [k.pv,v] aE) body (λfl af=>fl= .next/\inv (i+1) af))
  (k:∀af,inv kvs.length af->ak C env af rest P)
  (IP:autoParam (∀env,(assignEach elts env).length=2) oA2._auto_1) (bR:autoParam (∀env,Wv (λx=>x.fst) (assignEach elts env)=none) oA2._auto_1)
  (hs:autoParam (∀x,R8 (.Call (.Attribute e "items" apos) [] [] cp) env x=pure x) oA2._auto_1)
  (aJ:autoParam (fH e "items") oA2._auto_1)
  (cy:autoParam (∀env,dD cp env []) oA2._auto_1)
  (aW:autoParam ((apos.endLine==cp.line)=true) oA1._auto_1) (bg:autoParam (∀env,SF cp (RV [] env)=[]) oA2._auto_1):
  ak C env Γ (.For (.Tuple elts tk tp) (.Call (.Attribute e "items" apos) [] [] cp) body [] pos::rest) P:=λA o s Q E hr ht hA he=>by
 refine RI (Yh ?_ hs);obtain⟨S,fp,hA,av⟩:=hA;refine Tq (aJ env) (cy env) aW VP Xc PySem.F.type_dict_items ?_;refine h A S _ s _ E hr hA.here λv h1 t1 bQ rd=>?_;refine aM rd.ku λd vs zr zw=>?_;subst zr;refine iC zw λhd cY Dt ra=>?_;clear zw;refine⟨Dt.typeIs,λb e=>?_,?_⟩
 ·cases e;refine fh Dt λob es ep ho hr _=>?_;clear Dt;exact⟨ob,ho,hr.2.1⟩
 rw[bg env];refine method_meetsIn Xc PySem.F.entry_dict_items rfl (XG ⟨rfl,Dt.typeIs,PySem.F.args_dict_items_1 _,_,meets_dict_items (aw C.prog C.w) d (noSys cY),⟨_,Dt⟩,?_⟩);have hlen:((kvs.map (·.1)).zip vs).length=kvs.length:=by have:=ra.length;simp at this;simp[this]
 have gK:∀ (i:Nat) k v,((kvs.map (·.1)).zip vs)[i]?=some (k,v)->∃y,kvs[i]?=some (k,y)/\Rd C.prog C.w (dH true S (qh A env s.heap) s.heap) h1 v y:=λi k v hx=>by
  rw[VL]at hx;refine aD (ra.yw hx.2) λy hy ry=>?_;rw[RZ]at hy hx;cases hq:kvs[i]? with
  |none=>rw[hq]at hy;cases hy
  |some p=>
   rw[hq]at hy hx;cases hy;have e:p.1=k:=R7 hx.1;exact⟨p.2,by rw[<-e],ry⟩
 generalize (kvs.map (·.1)).zip vs=zs at Dt hlen gK;refine fA Dt λob es ep d1 d2 d3 d4 d5 d6=>?_;clear Dt
 let h2:Heap:=h1.push {cls:=.type "dict_items",data:=.fields #[.ref d]}
 have oM:∀b ob,h1.get? b=some ob->h2.get? b=some ob:=λb ob e=>Ry _ e;have fS:h2.DictAt (aw C.prog C.w) d zs ep:=⟨ob,es,oM _ _ d1,d2,d3,d4,d5,d6⟩;refine wpAny_pyIter_items (s:={s with heap:=h2,toks:=t1}) ⟨_,RL _ rfl,rfl,rfl⟩ fS ?_;have aX:d≠h2.objs.size:=Sm (Ss (oM _ _ d1))
 let h3:Heap:=h2.push {cls:=.type "dict_itemiterator",data:=.fields #[.none,.bool false,.ref d,.int 0 0,.int zs.length 0,.int ep 0,.none,.none]}
 have vA:∀b ob,h2.get? b=some ob->h3.get? b=some ob:=λb ob e=>Ry _ e;have iF:Ext A env s.heap h3:=(bQ.push _).push _
 let N:RD->Prop:=λa=>s.heap.get? a=none/\(h1.get? a).isSome=true
 have jv:=hA.ext iF N λa ha=>⟨ha.1,by refine oE (Rv.mp ha.2) λb hb=>?_;rw[vA a b (oM a b hb)];rfl⟩;have yY:Step A env o (λa=>S a\/N a) fp {s with heap:=h3,toks:=t1}:=av.trans ⟨⟨h3,t1,rfl⟩,λa ha=>.inl ha,λa ha=>ha.imp id λq=>.inr q.1,λy a ha=>.inl ⟨y,ha⟩,λa b hF hn ho=>iF.keep a b (λe=>hF (.inl e)) ho,λa ha=>iF.live hA.aq.ns ha,iF.fr⟩;have Ey:s.heap.get? h2.objs.size=none:=(bQ.push _).fresh_at hA.aq.ns;have Nu:∀a,dH true S (qh A env s.heap) s.heap a->(h1.get? a).isSome=true->S a\/N a:=λa ha hl=>ha.imp id λh=>⟨h,hl⟩;have hW:=tI (prog:=C.prog) (w:=C.w) (hr.1 hN) h2.objs.size d aX zs ep;have MF:zs.length=(kvs.map λp=>[p.1.pv,p.2]).length:=by rw[Rl];exact hlen
 have KR:(∃ok ov,IsItemIter h3 h2.objs.size d 0 zs.length ep ok ov)/\h3.DictAt (aw C.prog C.w) d zs ep:=⟨⟨_,_,RL _ rfl⟩,fS.at λo e=>vA _ _ e⟩;rw[MF]at hW;have gx:∀ (i:Nat) ys,(kvs.map λp=>[p.1.pv,p.2])[i]?=some ys->∃k v,kvs[i]?=some (k,v)/\[k.pv,v]=ys:=λi ys hy=>by
  rw[RZ]at hy;cases hq:kvs[i]? with
  |none=>rw[hq]at hy;cases hy
  |some p=>rw[hq]at hy;exact⟨p.1,p.2,rfl,R7 hy⟩
 refine uT (C:=C) (s:={s with heap:=h3,toks:=t1}) (Γ:=Γ) (xs:=kvs.map λp=>[p.1.pv,p.2]) hr jv yY hW (by rw[<-MF];exact KR) (λa ha=>?_) (λa ha=>?_) (λi h hi a ha=>?_) (λi vals hv=>?_) inv tg h0 hN (λi ys aE hy hi=>?_) (bR env) (λi ys aE hy hi o' s' Q' E' bF hn=>?_) λs' af hi bF=>?_
 ·rw[Rq.mp ha];refine⟨av.fresh Ey,(bQ.push _).high hA.here,λhm=>?_,λhF=>?_,λy hy=>?_,λb hb=>?_⟩
  ·rcases hm with hm|hm
   ·have:=(hA.aO _ hm).1;rw[Ey]at this;cases this
   ·refine oE (Rv.mp hm.2) λb hb=>?_;exact absurd (Ss (oM _ _ hb)) (S8 _)
  ·have:=hA.aq.frame_there hA.bE _ hF;rw[Ey]at this;cases this
  ·have:=(hA.fold y _ hy).1;rw[Ey]at this;cases this
  ·have:=hA.base.cB _ b hb;rw[Ey]at this;cases this
 ·rcases Rr.mp ha with rfl|ha
  ·exact .inl (Rq.mpr rfl)
  ·rw[Rq.mp ha];exact .inr (Nu d hd (by rw[d1];rfl))
 ·rw[Rq.mp ha];refine oA hi λrE _=>?_;clear hi;obtain⟨ok,ov,h1⟩:=rE;rw[h1];rfl
 ·refine fh hv λk v key hx hk zr=>?_;clear hv;subst zr;refine aD (gK i k v hx) λy hy ry=>?_;refine⟨[k.pv,y],by rw[RZ,hy];rfl,.cons ?_ (.cons ?_ .nil)⟩
  ·cases k with
   |int j=>refine oE (Wz hk) λt zr=>?_;subst zr;exact .int _ _
   |str x=>refine oE (Wj hk) λt zr=>?_;subst zr;exact .str _ _
  ·exact ry.there.mono (λa ha=>Nu a ha.1 ha.2) λa o ω e=>vA a o (oM a o e)
 ·refine aM (gx i ys hy) λk v h1 zr=>?_;subst zr;exact⟨uO i k v aE h1 hi,IP env⟩
 ·refine aM (gx i ys hy) λk v h1 zr=>?_;subst zr;exact step i k v aE h1 hi A o' s' Q' E' hr ht bF ⟨λcP af hp gH=>hn cP af hp.2 gH,(λcP af hp gH=>nomatch hp.1),(λcP af hp gH=>nomatch hp.1),(λv cP pv af hp hR=>nomatch hp.1),(λv cP pv af hp hR=>nomatch hp.1)⟩
 ·rw[Rl]at hi;exact St.nil (k af hi A o s' Q E hr ht bF he)
end
structure z2(C:Cx)(A:Sg)(s:Ro)(x dx n2:RD)(g:Rz)(env:Env)(h:Heap):Prop where
 kd:∀y,env.kindOf y=(ae (cC 0)).lookup y
 room:aB C (A.deeper env)
 top:j1 (A.deeper env) env
 at_:At C (A.deeper env) env (λω=>False) (λω=>[]) [(sf,some (0,.raw (.ref x))),(("graph":Str),some (0,.raw g))] h
 aK:ah C.prog C.w h x (S0 x dx n2)
 n0:s.heap.get? n2=none
 OM:Rt<n2
 yW:∀a,a=dx\/a=n2\/((s.heap.get? a).isSome=true/\¬onStack A a)->¬ax (A.deeper env) env a
 keep:∀a b,¬onStack A a->a≠dx->s.heap.get? a=some b->h.get? a=some b
 fr:∀a b,onStack A a->s.heap.get? a=some b->∃sl,h.get? a=some {b with slots:=sl}
 on:∀a,onStack (A.deeper env) a↔a=env.locals\/onStack A a
 own:∀a,i7 env a->s.heap.get? a=none
theorem yg(k:bD C.K)(f:FnAt C.K 73 (cC 0) (.ref 66)){s:Ro}{x:RD}{g:Rz}(hr:aB C.up A)(cx:C.Ok)(B:Base C s.heap)(fx:fc C A s.heap)
  (e7:∀fd:FuncData,fd.params=jz (cC 0)->fd.defaults= .ref 66->BindsTo s fd ⟨.ref x::vs,[]⟩ [(sf,.ref x),(("graph":Str),g)])
  (hx:s.heap.get? x=some ⟨.ref kD,some dx,.plain,#[]⟩) (oN:s.heap.get? dx=some (dictOf [] 0)) (rN:x≠dx) (cY:Rt<dx/\∀o,C.K.lookup dx≠some o) (lh: ¬onStack A x/\¬onStack A dx)
  (kk:∀env h t n2,z2 C A s x dx n2 g env h->RM (RF C.prog C.w) (A.deeper env) (execs [cq (bh (cC 0)) 4] env) (λf s'=>R (.ok (.ret (match f with| .ret v=>v|_=>.none))) s')
   (λe s'=>RM (RF C.prog C.w) (A.deeper env) (leaving env e) (λω cP=>R (.error e) cP) (λe' cP=>R (.error e') cP) s') {s with heap:=h,toks:=t}):
  TR (RF C.prog C.w) A (.call (.ref 73) ⟨.ref x::vs,[]⟩) R s:=by
 obtain⟨ob,fd,f1,f2,f3,f4,f5,f6,f7,f8,f9⟩:=f.ex;have Ax:fd.scope.names.lookup sf=some .local:=by rw[f6];rfl
 have x7:fd.scope.names.lookup ("graph":Str)=some .local:=by rw[f6];rfl
 refine eH (S:=λω=>False) (fp:=λω=>[]) (Γ:=[(sf,some (0,.raw (.ref x))),(("graph":Str),some (0,.raw g))]) (λaY h1=>aY=[(sf,.ref x),(("graph":Str),g)]/\h1=s.heap) hr cx B fx f1 f2 (.of f3) f4 f5 (λQ E hq=>?_) (λaY h1 hp=>?_) (λω ω ω h=>nomatch h) (λω=>Sn) λenv h2 t2 yL hk du hA eJ mz mm g9=>?_
 ·exact e7 fd f7 f8 _ _ _ _ (hq _ s.heap s.toks ⟨rfl,rfl⟩)
 ·obtain rfl:=hp.1.symm;obtain rfl:=hp.2.symm;refine⟨λω ω e=>e,(show([sf,"graph"]:List Str).Nodup by decide),λy hy=>?_,(λω h=>h.elim),(λω h=>h.elim),(λω ω h=>nomatch h),λy n pv hl=>?_⟩
  ·simp only[Rr,RN,or_false]at hy;rcases hy with rfl|rfl
   ·exact .inl Ax
   ·exact .inl x7
  ·rw[RB]at hl;cases hb:y==sf with
   |true=>
    rw[hb]at hl;cases hl;rw[beq_iff_eq.mp hb];exact⟨_,Rm,.val (.raw _)⟩
   |false=>
    rw[hb]at hl;simp only[RB]at hl;cases uw:y==("graph":Str)with
    |true=>
     rw[uw]at hl;cases hl;rw[beq_iff_eq.mp uw];exact⟨g,by simp,.val (.raw _)⟩
    |false=>rw[uw]at hl;cases hl
 ·have own:∀a o,s.heap.get? a=some o->¬i7 env a:=λa o ho h=>by have:=du a h;rw[ho]at this;cases this
  have vX:∀a o,s.heap.get? a=some o->¬onStack A a->¬onStack (A.deeper env) a:=λa o ho hn hs=>((mm a).mp hs).elim (λe=>own a o ho (.inl e)) hn;have yW:∀a o,s.heap.get? a=some o->¬onStack A a->¬ax (A.deeper env) env a:=λa o ho hn h=>by
   rcases h with(h|h)|h
   ·exact own a o ho (.inl h)
   ·exact vX a o ho hn h
   ·exact own a o ho (.inr h)
  have Cf: ¬ax (A.deeper env) env dx:=yW dx _ oN lh.2;have rU:s.heap.get? x=some ⟨.ref kD,some dx,.plain,#[]⟩/\x≠dx/\¬onStack (A.deeper env) x:=⟨hx,rN,vX x _ hx lh.1⟩;have l0:ff C (A.deeper env) env [(sf,some (0,.raw (.ref x))),(("graph":Str),some (0,.raw g))] s.heap dx (dictOf [] 0) {s with heap:=h2,toks:=t2} s:=
   ⟨hA,⟨h2,t2,rfl⟩,hk dx _ oN,⟨cY.1,cY.2,Cf⟩,λa o ω ω ho=>hk a o ho,λa o ω ho=>⟨o.slots,hk a o ho⟩,du⟩
  refine k7 (λv h=>∃d,v= .ref d/\h2.get? d=none/\h.get? d=some {cls:=.type "dict",data:=.dict #[]}/\Rt<d) k (by decide) l0 rU rfl rfl (λω ω ω=>by show 1<=1000;decide) (λQ hq=>?_) λs1 v1 qK q1 Bq l1 T1 U1=>?_
  ·refine Za ?_;have ex:Ext (A.deeper env) env h2 (h2.push {cls:=.type "dict",data:=.dict #[]}):=(Ext.refl _ _ _).push _;exact hq _ _ _ ex ⟨h2.objs.size,rfl,bf,RL _ rfl,(Ext.refl _ _ _).df hA.here⟩
  refine k7 (λv ω=>v= .none) k (by decide) l1 rU rfl rfl (λω ω ω=>by show 2<=1000;decide) (λQ hq=>?_) λs2 v2 we q2 DI l2 T2 U2=>?_
  ·exact WK (hq _ _ _ (.refl _ _ _) rfl)
  refine k7 (λv ω=>∃t,v= .int 0 t) k (by decide) l2 rU rfl rfl (λω ω ω=>by show 3<=1000;decide) (λQ hq=>?_) λs3 v3 Gf q3 HC l3 T3 U3=>?_
  ·exact WU (hq _ _ _ (.refl _ _ _) ⟨_,rfl⟩)
  refine k7 (λv ω=>∃t,v= .int 0 t) k (by decide) l3 rU rfl rfl (λω ω ω=>by show 4<=1000;decide) (λQ hq=>?_) λs4 v4 JU q4 Om l4 T4 U4=>?_
  ·exact WU (hq _ _ _ (.refl _ _ _) ⟨_,rfl⟩)
  refine aD Bq λn2 zr zw=>?_;clear Bq;subst zr;refine dd zw λsO xb zE=>?_;clear zw;refine oE HC λt3 zr=>?_;clear HC;subst zr;refine oE Om λt4 zr=>?_;clear Om;subst zr;subst DI;have kW:s.heap.get? n2=none:=by
   cases hq:s.heap.get? n2 with
   |none=>rfl
   |some b=>rw[hk n2 b hq]at sO;cases sO
  have jS:n2≠env.locals:=λe=>by refine cU hA.aq.ns λm' om _ _ Di _=>?_;rw[<-e,sO]at Di;cases Di
  have aG:n2≠dx:=λe=>by rw[e,oN]at kW;cases kW
  have Qt:n2≠x:=λe=>by rw[e,hx]at kW;cases kW
  have I6: ¬ax (A.deeper env) env n2:=λhf=>by have:=hA.aq.frame_there hA.bE n2 hf;rw[sO]at this;cases this
  have D5: ¬Fz (A.deeper env) env n2:=λh=>I6 (.inl h);have o4:=U4 n2 _ D5 aG (U3 n2 _ D5 aG (U2 n2 _ D5 aG (T1 n2 _ jS aG xb)));have k0:∀a b,¬onStack A a->a≠dx->s.heap.get? a=some b->s4.heap.get? a=some b:=λa b hs hd hb=>l4.keep a b (vX a b hb hs) hd hb;refine jH l4.same λh4 Qv e4=>?_;subst e4;refine kk env h4 Qv n2 ⟨λy=>by rw[eJ y,f6],mz,g9,l4.at_,⟨rfl,zE,?_,k0 x _ lh.1 rN hx,⟨(q1,q2,q3,q4),t3,t4,_,l4.inst⟩,⟨_,#[],0,o4,⟨rfl,rfl,rfl⟩,rfl,?_,?_,Sn⟩,(λω h=>nomatch h),(λω h=>nomatch h)⟩,kW,zE,λa ha=>?_,k0,λa b hs hb=>l4.fr a b ((mm a).mpr (.inr hs)) hb,mm,du⟩
  ·show [x,dx,n2].Nodup;simp only[RO,Rr,RN,or_false,not_or];exact⟨⟨rN,Td Qt⟩,Td aG,λh=>h,Sn⟩
  ·intro e he;simp at he
  ·exact .nil
  ·rcases ha with rfl|rfl|⟨ha,hs⟩
   ·exact Cf
   ·exact I6
   ·refine oE (Rv.mp ha) λb hb=>?_;exact yW a b hb hs
theorem z2.conv{s:Ro}{x n2:RD}{g:Rz}(l:z2 C A s x dx n2 g env h)(B:Base C s.heap){S:RD->Prop}{pv:PV}(hx:s.heap.get? x=some ⟨.ref kD,some dx,.plain,#[]⟩)(oN:s.heap.get? dx=some (dictOf [] 0))
  (hS:∀a,S a->(s.heap.get? a).isSome=true/\¬onStack A a/\a≠x/\a≠dx) (rg:Rd C.prog C.w S s.heap g pv) (lo:∀a,a=x\/a=dx->Rt<a/\(∀o,C.K.lookup a≠some o)/\¬onStack A a):
  At C (A.deeper env) env S (λy=>if y=sf then [x,dx,n2]else []) [(sf,some (1,.aK (S0 x dx n2))),(("graph":Str),some (0,pv))] h where
 cx:=l.at_.cx
 base:=l.at_.base
 aq:=l.at_.aq
 bE:=l.at_.bE
 aO:=λa ha=>by
  refine iC (hS a ha) λh1 h2 h3 h4=>?_;refine oE (Rv.mp h1) λb hb=>?_;refine⟨by rw[l.keep a b h2 h4 hb];rfl,l.yW a (.inr (.inr ⟨h1,h2⟩)),λy hy=>?_⟩;split at hy
  ·simp only[Rr,RN,or_false]at hy;rcases hy with e|e|e
   ·exact h3 e
   ·exact h4 e
   ·rw[e,l.n0]at hb;cases hb
  ·cases hy
 cZ:=λy z a hy hz=>by
  by_cases h1:y=sf
  ·by_cases h2:z=sf
   ·rw[h1,h2]
   ·rw[if_neg h2]at hz;cases hz
  ·rw[if_neg h1]at hy;cases hy
 c9:=λy=>by
  split
  ·exact l.aK.nd
  ·exact Sn
 fold:=λy a hy=>by
  split at hy
  ·have h1:=l.aK.there a hy;simp only[Rr,RN,or_false]at hy;rcases hy with e|e|e
   ·have:=lo a (.inl e);exact⟨h1,l.yW a (.inr (.inr ⟨by rw[e,hx];rfl,this.2.2⟩)),this.1,this.2.1⟩
   ·have:=lo a (.inr e);exact⟨h1,l.yW a (.inl e),this.1,this.2.1⟩
   ·refine⟨h1,l.yW a (.inr (.inl e)),e▸l.OM,λo ho=>?_⟩;have:=B.cB a o ho;rw[e,l.n0]at this;cases this
  ·cases hy
 vars:=λy n AJ hy=>by
  rw[RB]at hy;cases hb:y==sf with
  |true=>
   rw[hb]at hy;cases hy;rw[beq_iff_eq.mp hb];refine ei (l.at_.vars sf 0 (.raw (.ref x)) rfl) λh0 v h1 r=>?_;cases r.zero.1.aQ;exact⟨h0,_,h1,by rw[if_pos rfl];exact .aK l.aK⟩
  |false=>
   rw[hb]at hy;simp only[RB]at hy;cases uw:y==("graph":Str)with
   |true=>
    rw[uw]at hy;cases hy;rw[beq_iff_eq.mp uw];refine ei (l.at_.vars ("graph":Str) 0 (.raw g) rfl) λh0 v h1 r=>?_;cases r.zero.1.aQ;refine⟨h0,_,h1,?_⟩;rw[if_neg (by decide)];exact .val (rg.mono (λω h=>h) λa o ha e=>l.keep a o (hS a ha).2.1 (hS a ha).2.2.2 e)
   |false=>rw[uw]at hy;cases hy
theorem zQ{L:List α}{x:α}(h:L[i]?=some x):L.take (i+1)=L.take i++[x]:=by rw[Ue,h];rfl
noncomputable def g7(G:List (Key×List Key))(a:AS):AS:=G.foldl (λa p=>a.add p.1 p.2) a
theorem Br(a:AS)(k:Key)(ps:List Key):(a.add k ps).aI=a.aI:=by
 have h:∀ (ps:List Key) (a:AS),(ps.foldl (λa p=>a.cg k p) a).aI=a.aI:=λps=>by
  induction ps with
  |nil=>exact λa=>rfl
  |cons p ps ih=>exact λa=>(ih _).trans (AS.j9 a k p).1
 unfold AS.add;rw[h];unfold AS.upd AS.get;split<;>rfl
theorem uy:∀ (G:List (Key×List Key)) (a:AS),(g7 G a).aI=a.aI:=λG=>by
 induction G with
 |nil=>exact λa=>rfl
 |cons p G ih=>exact λa=>(ih _).trans (Br a p.1 p.2)
noncomputable def kG(G:List (Key×List Key)):List (Key×PV):=G.map λp=>(p.1,.list (Key.cV p.2))
structure zb(G:List (Key×List Key)):Prop where
 small:∀ (i:Nat) (p:Key×List Key),G[i]?=some p->(g7 (G.take i) AS.zero).small (2*p.2.length+4)
 len:∀ (i:Nat) (p:Key×List Key),G[i]?=some p->p.2.length<=lim
noncomputable def GI(G:List (Key×List Key))(X0:aa)(i:Nat)(Γ:ag):Prop:=∃X,X.abs=g7 (G.take i) AS.zero/\Grows X0 X/\dY [(sf,some (1,.aK X)),(("graph":Str),some (0,.dict (kG G)))] Γ
theorem uz(T:TopK C)(hN:C.hd=false)(hl:4<=C.cc)(eJ:∀y,env.kindOf y=(ae (cC 0)).lookup y)(hi:interactive env=false){G:List (Key×List Key)}(hG:zb G){X0:aa}(h0:X0.abs=AS.zero):
  ak C env [(sf,some (1,.aK X0)),(("graph":Str),some (0,.dict (kG G)))] [cq (bh (cC 0)) 4] (λfl af=>fl= .next/\GI G X0 G.length af):=by
 have K:d7 env (ae (cC 0)):=.of eJ;refine ak.ite (b:=true) (cX.cmp (m1:=true) (m2:=true) (x:=.dict (kG G)) (y:=.none) (Ev.name rfl (K.var "graph" rfl)) Ev.By (cw.jR (b:=false) rfl)) ?_;refine ak.items (C:=C) (kvs:=kG G) hN (Ev.name rfl (K.var "graph" rfl)) (GI G X0) (λys aE=>match ys with|[x,y]=>("predecessors",some (0,y))::("node",some (0,x))::aE|_=>aE) ⟨X0,h0,⟨rfl,λω h=>h⟩,.refl _⟩
  (λi k v aE ω ω=>fm.cons (dI.name (K.loc "node" (.inl rfl))) (fm.cons (dI.name (K.loc "predecessors" (.inl rfl))) fm.nil)) (λi k v aE hx hinv=>?_) λaf hinv=>?_
 ·refine bM hinv λX h1 h2 h3=>?_;clear hinv;obtain⟨p,hp,e⟩:∃p,G[i]?=some p/\(p.1,PV.list (Key.cV p.2))=(k,v):=by
   unfold kG at hx;rw[RZ]at hx;cases hq:G[i]? with
   |none=>rw[hq]at hx;cases hx
   |some p=>rw[hq]at hx;exact⟨p,rfl,R7 hx⟩
  cases e;have OU:=hG.len i p hp;refine ak.weak (af:=("predecessors",some (0,.list (Key.cV p.2)))::("node",some (0,p.1.pv))::[(sf,some (1,.aK X)),(("graph":Str),some (0,.dict (kG G)))]) ?_ (aT _ _ (aT _ _ h3));have hM:=zv (C:=C.l 0) (T.l 0) hN X p.1 p.2 (aa.n9 (by rw[h1,uy];rfl)) (by rw[h1];exact hG.small i p hp);have hM:fU (C.l 3) 87 X ([p.1.pv]++Key.cV p.2) (rO X p.1 p.2):=hM;have e1:C=(C.l (C.cc - 1)).up:=(Cx.down C hl).symm;refine ak.pC (fL.dn (C:=C) (n:=3) hl (fL.DH (C:=C.l (C.cc - 1)) (n:=0) T.sk (b8.of T.I7) rfl (e6.up hl (e6.of (xs:=[p.1.pv]++Key.cV p.2) ?_)) (hM.up (C:=C.l (C.cc - 1)) (by show 3<=C.cc - 1;omega)))) (λBp pv hR=>?_) hi
  ·refine ba.cons (Ev.name (n:=0) rfl (K.var "node" rfl)) ?_;exact Eq.mp (congrArg (ba C env _ _ true) (SP (Key.cV p.2))) (ba.sG (Ev.name (n:=0) rfl (K.var "predecessors" rfl)) ba.nil (by simp only[Key.cV,Rl];exact OU))
  ·refine aD hR λX' yi zr=>?_;clear hR;obtain⟨_,g1,g2⟩:=yi;subst zr;refine ak.nil ⟨rfl,X',?_,⟨g2.loc.trans h2.loc,λb hb=>g2.fp b (h2.fp b hb)⟩,.cons rfl (.cons rfl .nil)⟩;rw[g1,h1,zQ hp];unfold g7;rw[Ya];rfl
 ·have e:(kG G).length=G.length:=by simp[kG]
  rw[e]at hinv;exact ak.nil (ak.nil ⟨rfl,hinv⟩)
theorem DS(T:TopK C)(hN:C.hd=false)(hl:4<=C.cc)(f:FnAt C.K 73 (cC 0) (.ref 66))(n6:C.K.lookup 66=some {cls:=.type "tuple",data:=.seq #[.none]}){s:Ro}{x:RD}{G:List (Key×List Key)}(hG:zb G)(hr:aB C.up A)(cx:C.Ok)(B:Base C s.heap)(fx:fc C A s.heap)
  (hx:s.heap.get? x=some ⟨.ref kD,some dx,.plain,#[]⟩) (oN:s.heap.get? dx=some (dictOf [] 0)) (rN:x≠dx) (lo:∀a,a=x\/a=dx->Rt<a/\(∀o,C.K.lookup a≠some o)/\¬onStack A a)
  {S:RD->Prop} (hS:∀a,S a->(s.heap.get? a).isSome=true/\¬onStack A a/\a≠x/\a≠dx) (rg:Rd C.prog C.w S s.heap v (.dict (kG G)))
  (kk:∀h' t' X,X.abs=g7 G AS.zero->pF A (λa=>a=x\/a=dx) s.heap h'->ah C.prog C.w h' x X->(∀a∈X.fp x,a=x\/a=dx\/s.heap.get? a=none)->(∀a∈X.fp x,Rt<a)->R (.ok (.ret .none)) {s with heap:=h',toks:=t'}):
  TR (RF C.prog C.w) A (.call (.ref 73) ⟨[.ref x,v],[]⟩) R s:=by
 refine yg T.sk f hr cx B fx (λfd p1 p2=>by
  refine BindsTo.of_defaults (T:=66) (items:=#[.none]) (n:=0) (k:=?_) p2 (B.cB _ _ n6) rfl ?_ ?_
  rotate_left
  ·unfold bindArgs;rw[p1];rfl
  ·rfl) hx oN rN ⟨(lo dx (.inr rfl)).1,(lo dx (.inr rfl)).2.1⟩ ⟨(lo x (.inl rfl)).2.2,(lo dx (.inr rfl)).2.2⟩ λenv h t n2 l=>?_
 have hA:=l.conv B hx oN hS rg lo;have IG:=Step.refl (A.deeper env) env S (λy=>if y=sf then [x,dx,n2]else []) {s with heap:=h,toks:=t};have ne:∀s' af (o:iD),o=⟨S,(λy=>if y=sf then [x,dx,n2]else []),{s with heap:=h,toks:=t}⟩->GI G (S0 x dx n2) G.length af->aV C (A.deeper env) env o af s'->R (.ok (.ret .none)) s':=λs' af o ho hinv bF=>by
  subst ho;refine bM hinv λX h1 h2 h3=>?_;clear hinv;rw[Vm]at h1;obtain⟨S',ed,hB,av⟩:=bF.weak h3;refine ei (hB.vars sf 1 (.aK X) rfl) λ_ u _ r=>?_;refine aD r.view λa zr zw=>?_;subst zr;refine oA zw λhf hs=>?_;clear zw;have ea:a=x:=hs.at_▸h2.loc;subst ea;refine jH av.same λh5 t5 e5=>?_;subst e5;refine kk h5 t5 X h1 ⟨λb ob hb hd e=>?_,λb ob hb e=>?_⟩ hs (λb hb=>?_) λb hb=>(hB.fold sf b (hf▸hb)).2.2.1
  ·rw[not_or]at hd;refine av.keep b ob (l.yW b (.inr (.inr ⟨by rw[e];rfl,hb⟩))) (λy hy=>?_) (l.keep b ob hb hd.2 e);have hy:b∈(if y=sf then [a,dx,n2]else []):=hy;split at hy
   ·simp only[Rr,RN,or_false]at hy;rcases hy with e'|e'|e'
    ·exact hd.1 e'
    ·exact hd.2 e'
    ·rw[e',l.n0]at e;cases e
   ·cases hy
  ·refine oE (l.fr b ob hb e) λsl g1=>?_;refine oE (av.fr b _ ((l.on b).mpr (.inr hb)) (λe'=>by have:=l.own b (.inl e');rw[e]at this;cases this) g1) λsI g2=>?_;exact⟨sI,g2⟩
  ·rcases av.mw sf b (hf▸hb)with⟨y,hy⟩|hn
   ·have hy:b∈(if y=sf then [a,dx,n2]else []):=hy;split at hy
    ·simp only[Rr,RN,or_false]at hy;rcases hy with e'|e'|e'
     ·exact .inl e'
     ·exact .inr (.inl e')
     ·exact .inr (.inr (e'▸l.n0))
    ·cases hy
   ·refine .inr (.inr ?_);cases hq:s.heap.get? b with
    |none=>rfl
    |some ob=>
     have hn:h.get? b=none:=hn;by_cases gd:onStack A b
     ·refine oE (l.fr b ob gd hq) λsl g=>?_;rw[hn]at g;cases g
     ·by_cases hd:b=dx
      ·have:=l.aK.there b (by rw[hd];exact Rn _ Rm);rw[hn]at this;cases this
      ·have:=l.keep b ob gd hd hq;rw[hn]at this;cases this
 exact uz T hN hl l.kd (by unfold interactive;rw[l.top.kind];rfl) hG (X0:=S0 x dx n2) rfl (A.deeper env) _ _ _ _ l.room l.top ⟨_,_,hA,IG⟩ ⟨λs' af hp bF=>ne s' af _ rfl hp.2 bF,(λs' af hp bF=>nomatch hp.1),(λs' af hp bF=>nomatch hp.1),(λv s' pv af hp bF=>nomatch hp.1),λv s' xs af hp bF=>nomatch hp.1⟩
section
variable{Γ:ag}
theorem ak.vj{pc pos' pos:Pos}(T:TopK C)(hN:C.hd=false)(hl:4<=C.cc)(f:FnAt C.K 73 (cC 0) (.ref 66))(n6:C.K.lookup 66=some {cls:=.type "tuple",data:=.seq #[.none]})(hk:env.kindOf (So "TopologicalSorter")=some .globalImplicit)(hx:env.kindOf x=some .local\/env.kindOf x=some .cell)
  {G:List (Key×List Key)} (hG:zb G) (hE:Ev C.up.up env (cv Γ) e true (.dict (kG G)))
  (kk:ak C.up.up env ((x,some (1,.ay (g7 G AS.zero)))::Γ) rest P) (fe:autoParam (x≠"__classdict__") oA3._auto_1)
  (hs:autoParam (SR (.Call (.Name "TopologicalSorter" pc) [e] [] pos') (some (.Name x px)) pos.line env=pure false) oA1._auto_1)
  (rY:autoParam (RV [e] env=(false,eval e env)::RV [] env) oA1._auto_1):
  ak C.up.up env Γ (.Assign [.Name x px] (.Call (.Name "TopologicalSorter" pc) [e] [] pos') pos::rest) P:=λA o s₀ Q E hr ht hA he=>by
 refine RI (V4 ?_ hs);obtain⟨sS,fp,zS,EV⟩:=hA;have pI:=zS.here;refine TC (Sz (bu pI.cx pI.base pI.aq hk (.inl T.Mx) ?_) rfl);refine callWith_K (K:=C.K) (h₀:=s₀.heap) pI.base.cB T.Iq.keep ?_ rY rfl;have eb:SF pos' (RV [e] env)=[(false,eval e env)]:=by rw[rY];rfl
 rw[eb];refine Tr (hE A sS _ s₀ _ E hr pI λg h1 t1 bQ rg=>Ud ?_);refine⟨(pI.ext bQ).base.cB,?_⟩;show RM (RF C.prog C.w) A (call (.ref kD) [g] []) _ E {s₀ with heap:=h1,toks:=t1};refine Uy ?_
 let Cp:RD->Prop:=λa=>s₀.heap.get? a=none/\(h1.get? a).isSome=true
 have hA:=zS.ext bQ Cp λa ha=>ha;have av:Step A env o (λa=>sS a\/Cp a) fp {s₀ with heap:=h1,toks:=t1}:=EV.trans ⟨⟨h1,t1,rfl⟩,λa ha=>.inl ha,λa ha=>ha.imp id λq=>.inr q.1,λy a ha=>.inl ⟨y,ha⟩,λa b hF hn ho=>bQ.keep a b (λe=>hF (.inl e)) ho,λa ha=>bQ.live zS.aq.ns ha,bQ.fr⟩;have Ob:Rd C.prog C.w (λa=>(sS a\/Cp a)) h1 g (.dict (kG G)):=rg.there.mono (λa ha=>ha.1.imp id λh=>⟨h,ha.2⟩) λω ω ω e=>e;generalize hS:(λa=>sS a\/Cp a)=S at hA av Ob;have es:({s₀ with heap:=h1,toks:=t1}:Ro).heap=h1:=rfl;generalize ({s₀ with heap:=h1,toks:=t1}:Ro)=s at av es;subst es;have hh:=hA.here;refine oE hh.aq.ns λm hm=>?_;refine make_K (JJ hm) xf hh.base.cB (iK T.sk.ts) T.Iq.init (beq_iff_eq.mp T.Iq.fn) λx' dx h2 F N hlt rN=>?_;have oM:∀a ob,a≠env.locals->s.heap.get? a=some ob->h2.get? a=some ob:=λa ob hl e=>(N (a,ob) (Rn _ (Rn _ (dO.mpr ⟨hl,e⟩)))).1;have c7:Ext A env s.heap h2:=.j4 oM λm' iA=>by
  have:m'=m:=funext λy=>iA.agree hm y;subst this;exact F.ns
 have Ao:=(N _ Rm);have sr:=(N _ (Rn _ Rm));have yJ:∀a,a≠env.locals->dx<=a->s.heap.get? a=none:=λa hl ha=>by
  cases hq:s.heap.get? a with
  |none=>rfl
  |some ob=>exact absurd (hlt (a,ob) (dO.mpr ⟨hl,hq⟩)) (SV.mpr ha)
 have yQ:=yJ x' Ao.2.1 (RS rN);have yt:=yJ dx sr.2.1 (Rx _);have ta:Rt<dx:=by
  have Lf:Rt≠env.locals:=Sm hh.aq.high;refine aD (qP hh.cx hh.base) λmg Bn _=>?_;refine aP Bn λob _ _ fo _=>?_;clear Bn;exact hlt (_,ob) (dO.mpr ⟨Lf,fo⟩)
 have B2:Base C h2:=((hh.ext c7).base).of rfl;have Ci:aB C.up (A.under (.builtin "type.__call__" ⟨[.ref kD,g],[]⟩)):=aB.mono (A':=A.under (.builtin "type.__call__" ⟨[.ref kD,g],[]⟩)) hr rfl (by show A.depth+1<=A.depth+2;omega) (by
  have e:(Code.builtin "type.__call__" ⟨[.ref kD,g],[]⟩).cUnits=1:=rfl;show A.units+(Code.builtin "type.__call__" ⟨[.ref kD,g],[]⟩).cUnits<=A.units+8;rw[e];omega) C.up (Rx _) rfl
 have tK:(A.under (.builtin "type.__call__" ⟨[.ref kD,g],[]⟩)).frames=A.frames:=rfl;have FQ:∀a,¬onStack A a->¬onStack (A.under (.builtin "type.__call__" ⟨[.ref kD,g],[]⟩)) a:=λa ha hs=>ha ((ez tK).mp hs);have nS:∀a,s.heap.get? a=none->¬onStack A a:=λa ha hs=>by have:=Fz.there hh (.inr hs);rw[ha]at this;cases this
 have off:∀a,a=x'\/a=dx->s.heap.get? a=none/\Rt<a:=λa ha=>by
  rcases ha with rfl|rfl
  ·exact⟨yQ,R0 ta rN⟩
  ·exact⟨yt,ta⟩
 refine DS (C:=C) (s:={s with heap:=h2}) T hN hl f n6 hG Ci ⟨hh.cx.g⟩ B2 ((fc.of (C':=C) (hh.ext c7).bE rfl).frames rfl) Ao.1 sr.1 (TA rN) (λa ha=>⟨(off a ha).2,λob fo=>?_,FQ a (nS a (off a ha).1)⟩) (S:=S) (λa ha=>?_) (Ob.mono (λω h=>h) λa ob ha e=>c7.keep a ob (λhz=>(hA.aO a ha).2.1 (.inl hz)) e) λh3 t3 X hX jW hs hf cY=>⟨rfl,?_⟩
 ·have:=hh.base.cB a ob fo;rw[(off a ha).1]at this;cases this
 ·refine dd (hA.aO a ha) λg1 g2 g3=>?_;refine oE (Rv.mp g1) λb hb=>?_;refine⟨by rw[c7.keep a b (λhz=>g2 (.inl hz)) hb];rfl,FQ a λhs=>g2 (.inl (.inr hs)),λe=>?_,λe=>?_⟩
  ·rw[e,yQ]at hb;cases hb
  ·rw[e,yt]at hb;cases hb
 have iF:Ext A env s.heap h3:=⟨λa ob hl e=>jW.keep a ob (λhs=>hl (.inr ((ez tK).mp hs))) (λe'=>by rw[(off a e').1]at e;cases e) (c7.keep a ob hl e),λm' iA=>jW.ns (λe=>e.elim (λe=>Ao.2.1 e.symm) λe=>sr.2.1 e.symm) (c7.ns m' iA),λa ob hs hl e=>by
  refine oE (c7.fr a ob hs hl e) λsl h1=>?_;refine oE (jW.fr a _ ((ez tK).mpr hs) h1) λsI h2=>?_;exact⟨sI,h2⟩⟩
 refine cm (C:=C.up.up) (s:={s with heap:=h3,toks:=t3}) (hA.aq.ext hA.bE iF) hx fe λeC gV ek g1 g2 kx ω=>?_;have bS:aA (env.kindOf x)=true:=by rcases hx with h|h<;>rw[h]<;>rfl
 have du:∀a∈X.fp x',s.heap.get? a=none/\Rt<a:=λa ha=>by
  refine⟨?_,cY a ha⟩;rcases hf a ha with e|e|e
  ·exact(off a (.inl e)).1
  ·exact(off a (.inr e)).1
  ·exact c7.fresh hh.aq.ns e
 have r:aC C.up.up (λω=>False) h3 1 (.ref x') (.aK X) (X.fp x'):=.aK hs;have pK:=hA.put iF (λω=>False) r (λa ha ω=>ha.elim) hs.nd du bS ek g1 g2 kx;have xD:=Step.put (s':=s) av hA iF (λω=>False) du kx gV;have:=At.j5 (Γ:=Γ) pK λy hy e' Ke=>Ke;rw[hX]at this;exact kk A o _ Q E hr ht ⟨_,_,this,xD⟩ he
theorem ak.xX{pc pos' pos:Pos}(T:TopK C)(hN:C.hd=false)(hl:6<=C.cc)(f:FnAt C.K 73 (cC 0) (.ref 66))(n6:C.K.lookup 66=some {cls:=.type "tuple",data:=.seq #[.none]})(hk:env.kindOf (So "TopologicalSorter")=some .globalImplicit)(hx:env.kindOf x=some .local\/env.kindOf x=some .cell)
  {G:List (Key×List Key)} (hG:zb G) (hE:Ev C env (cv Γ) e true (.dict (kG G)))
  (kk:ak C env ((x,some (1,.ay (g7 G AS.zero)))::Γ) rest P) (fe:autoParam (x≠"__classdict__") oA3._auto_1)
  (hs:autoParam (SR (.Call (.Name "TopologicalSorter" pc) [e] [] pos') (some (.Name x px)) pos.line env=pure false) oA1._auto_1)
  (rY:autoParam (RV [e] env=(false,eval e env)::RV [] env) oA1._auto_1):
  ak C env Γ (.Assign [.Name x px] (.Call (.Name "TopologicalSorter" pc) [e] [] pos') pos::rest) P:=by
 have e0:(C.l (C.cc - 2)).up.up=C:=by
  cases C;unfold Cx.up Cx.l;simp only[Cx.mk.injEq,true_and,and_true];simp only at hl;omega
 have:=λa b=>ak.vj (C:=C.l (C.cc - 2)) (env:=env) (Γ:=Γ) (rest:=rest) (P:=P) (x:=x) (px:=px) (pc:=pc) (pos':=pos') (pos:=pos) (e:=e) (G:=G) (T.l _) hN (by show 4<=C.cc - 2;omega) f n6 hk hx hG a b fe hs rY;rw[e0]at this;exact this hE kk
end
noncomputable def Av(C:Cx)(dp:Nat)(G F0 bo:RD->Prop)(D:RD)(keys:List Key)(vals:List PV)(h:Heap):Prop:=∃ys,h.DictOf (aw C.prog C.w) D (keys.zip ys)/\wg C dp G F0 bo h ys vals
theorem lN{L:List α}{x:α}(h:L[i]?=some x):L.take (i+1)=L.take i++[x]:=by rw[Ue,h];rfl
theorem vY{kx vx iter:Expr}{scope:Scope}{pos px:Pos}{own:Str->Prop}{S G:RD->Prop}{m:Bool}{L:List α}{g:α->PV}{kf:α->Key}{vf:α->PV}{fp:List RD}{P:Nat->Rz->Prop}{St:Nat->Heap->Prop}{d0:Obj}{t:Nat}{s:Ro}
  (hr:aB C A) (b:bY C A env Γ own md (L.map g) I D fp P St S U bo G F0 h d0) (hD:Av C dp G F0 bo D [] [] h) (gy:own x) (Mf:env.kindOf x=some .local\/env.kindOf x=some .cell) (rX:Γ.lookup x=some none)
  (hk:∀a∈L,Ev C env ((x,some (bn md,g a))::Γ) kx m (kf a).pv) (hv:∀a∈L,mr C env ((x,some (bn md,g a))::Γ) vx dp (vf a)) (aG:(L.map kf).Nodup) (aF:L.length<=lim)
  (hR:∀h' t',LD C A env Γ own I D bo h h'->Av C dp G F0 bo D (L.map kf) (L.map vf) h'->R (.ok .next) {s with heap:=h',toks:=t'})
  (fe:autoParam (x≠"__classdict__") oA3._auto_1):
  TR (RF C.prog C.w) A (.compLoop (.DictComp kx vx [⟨.Name x px,iter,[],0⟩] scope pos) 0 (.ref I) (.ref D) env) R {s with heap:=h,toks:=t}:=by
 have hl:(L.map g).length=L.length:=Rl ..;refine codeAny_compLoop_testsD (B4 C A env Γ own I D bo St h (L.map g).length (λi=>Av C dp G F0 bo D ((L.map kf).take i) ((L.map vf).take i)) s) (λk s' hIn=>?_) ((L.map g).length+1) ⟨h,t,0,rfl,RU _,rfl,b.st,b.zero,hD⟩;refine b.turn (Acc:=λi=>Av C dp G F0 bo D ((L.map kf).take i) ((L.map vf).take i)) (λi ω ω k x=>x.elim λys x=>⟨ys,cJ.at x.1 λo e=>k D o (.inr rfl) e,x.2.mono λa o ha ho=>k a o (.inl ha) ho⟩) hIn (λh₁ t₁ x a=>?_) λi v z h₁ t₁ jw hlt hz rx lK x1 a1=>?_
 ·have e:∀ {β:Type} (f:α->β),(L.map f).take (L.map g).length=L.map f:=λf=>TU (by rw[hl,Rl];exact Rx _);rw[e,e]at a;exact hR h₁ t₁ x a
 rw[RZ]at hz;refine aD (VU.mp hz) λa ha zr=>?_;subst zr;have Ge:a∈L:=R4 ha;have bR:∀y∈[x],own y/\∀e,Γ.lookup y≠some (some e):=λy hy=>by
  rw[Rq.mp hy,rX];exact⟨gy,nofun⟩
 refine(Dp.name Mf fe:Dp C env Γ (.Name x px) md (g a) [x] _) A S U _ v _ _ hr (b.here x1) rx λh₂ t₂ iE P6 Jq=>?_;refine oA (b.asg x1 bR iE.aq P6 Jq) λx2 k2=>?_;refine Zr ?_;rw[if_pos rfl];refine hk a Ge A S U {s with heap:=h₂,toks:=t₂} _ _ hr iE λkv bO Cz u7 rk=>?_;have xV:=iE.ext u7;refine oA (b.ext x2 iE u7) λx3 k3=>?_;refine hv a Ge A S U {s with heap:=bO,toks:=Cz} _ _ hr xV λvv dU ve fv r9 rv Fb Cs=>?_;refine oA (b.ext x3 xV r9) λx4 k4=>?_;refine aD a1 λys Oz Gv=>?_;clear a1;have Jc:dU.DictOf (aw C.prog C.w) D (((L.map kf).take i).zip ys):=cJ.at Oz λo e=>k4 D o (.inr (.inl rfl)) (k3 D o (.inr (.inl rfl)) (k2 D o (.inr (.inl rfl)) e));have uQ:=Gv.mono (h':=bO) λa o hb ho=>k3 a o (.inl hb) (k2 a o (.inl hb) ho);have gr:St (i+1) bO:=b.frame (b.frame lK λa o h=>k2 a o (h.imp id .inr)) λa o h=>k3 a o (h.imp id .inr);have rt:(L.map kf)[i]?=some (kf a):=by rw[RZ,ha];rfl
 have Po:(L.map vf)[i]?=some (vf a):=by rw[RZ,ha];rfl
 have NI:i<=L.length:=hl▸RS hlt;have MP:((L.map kf).take i).length=ys.length:=by rw[Gv.length,WQ,WQ,Rl,Rl]
 have Dz:((L.map kf).take i).length=i:=by rw[WQ,Rl,Vx NI]
 have gw:=RH.mp (lN rt▸aG.sublist (List.take_sublist (i+1) _));refine wpAny_dictSet_pairs (knd:=aw C.prog C.w) (s:={s with heap:=dU,toks:=ve}) rk.key Jc (λpe j3 yX=>?_) (by rw[UC,<-MP,VG,Dz];exact Rk NI (Rk aF (by decide)));have O6:stored (((L.map kf).take i).zip ys) (kf a) vv=((L.map kf).take (i+1)).zip (ys++[vv]):=by
  unfold stored;rw[if_neg]
  ·rw[lN rt,Yv MP];rfl
  ·simp only[VZ,not_exists,not_and,decide_eq_true_eq];exact λp hp e=>gw.2.2 _ (Yx hp).1 _ (Rq.mpr rfl) e
 rw[O6]at j3;refine oA (b.Nq x4 (λa o ha ho=>(yX.2 a ha).trans ho) (by refine aP j3 λo _ _ h _=>?_;clear j3;exact so h)) λx5 k5=>?_;refine⟨(L.map g).length+1 - (i+1),fz jw (TN hlt),pe,ve+1,i+1,rfl,hlt,rfl,b.frame (b.frame gr λa o h=>k4 a o (h.imp id .inr)) k5,x5,ys++[vv],j3,?_⟩;rw[lN Po];exact b.snoc x3 gr uQ rv Fb Cs k4 k5
theorem dr.HT{kx vx:Expr}{pos px:Pos}{m:Bool}{L:List α}{g:α->PV}{kf:α->Key}{vf:α->PV}(hs:bB scope env)(h1:dw C env Γ iter md (L.map g))(gy:n8 scope x)(rX:(inner scope Γ).lookup x=some none)
  (hk:∀D cells,∀a∈L,Ev C (CE scope env D cells) ((x,some (bn md,g a))::inner scope Γ) kx m (kf a).pv) (hv:∀D cells,∀a∈L,mr C (CE scope env D cells) ((x,some (bn md,g a))::inner scope Γ) vx dp (vf a)) (aG:(L.map kf).Nodup) (aF:L.length<=lim)
  (fe:autoParam (x≠"__classdict__") oA3._auto_1) (hf:autoParam (∀env x,R8 iter env x=pure x) oA9._auto_1):
  dr C env Γ (.DictComp kx vx [⟨.Name x px,iter,[],0⟩] scope pos) (dp+1) (.dict (L.map λa=>(kf a,vf a))):=λA S U s Q E hr hh hq=>by
 show RM (RF C.prog C.w) A (comprehension (.DictComp kx vx [⟨.Name x px,iter,[],0⟩] scope pos) scope env _ newDict false (eval iter env)) Q E s;refine tm (C:=C) (c:=⟨.Name x px,iter,[],0⟩) (cs:=[]) (d0:={cls:=.type "dict",data:=.dict #[]}) (use:=none) rfl ⟨rfl,hf⟩ hs h1 rfl (λh=>V2 h) hr hh
  (λbo D=>Av C dp (λa=>S a\/s.heap.get? a=none) (λa=>s.heap.get? a=none) bo D (L.map kf) (L.map vf)) (λI D L' h t cells fp P St S' U' bo R b hR=>?_) λL' D h' t' m' bo g1 g2 g3 ex Li Kr v9 B3 GC iA=>?_
 ·have hD:h.DictOf (aw C.prog C.w) D []:=⟨_,#[],0,b.at_,⟨rfl,rfl,rfl⟩,rfl,λe he=>absurd he (Array.not_mem_empty e),.nil,Sn⟩;have main:=vY (kx:=kx) (vx:=vx) (iter:=iter) (scope:=scope) (pos:=pos) (px:=px) (t:=t) (s:=s) hr b ⟨[],hD,[],.nil,Sn,λω h=>nomatch h⟩ gy (m7 gy) rX (hk L' cells) (hv L' cells) aG aF hR fe;exact codeAny_compStart_dict main (b.W.self 0 _ _ _ b.st main)
 ·refine DL v9 λys I1 cW f1 f2 f3=>?_;clear v9;have nL:∀a,¬bo a->a≠L':=λa hb e=>hb (e▸Li);have nD:∀a,¬bo a->a≠D:=λa hb e=>hb (e▸Kr);refine⟨m',iA,λeC zl=>?_⟩;have kk:∀a o,a≠L'->h'.get? a=some o->eC.get? a=some o:=λa o ha ho=>(zl.2 a ha).trans ho;have Bb:Ext A env s.heap eC:=ex.sameBut zl g1 (by
   rintro rfl;refine cU hh.aq.ns λm0 o _ _ ho _=>?_;rw[g1]at ho;cases ho)
  have K2:(L.map λa=>(kf a,vf a)).map (·.1)=L.map kf:=by rw[R6];rfl
  have Eb:(L.map λa=>(kf a,vf a)).map (·.2)=L.map vf:=by rw[R6];rfl
  refine hq (.ref D) eC t' (D::cW) Bb (.dict B3 (by rw[K2];exact cJ.at I1 λo e=>kk D o (Td g2) e) ?_) (RO.mpr ⟨λhm=>nD D (f3 D hm).2.2 rfl,f2⟩) (λa ha=>?_)
  ·rw[Eb];have jt:dp=0->cW=[]:=λhz=>ar.nil_of hz f1;refine f1.gu.mono (λa ha=>⟨ha.1.2.1,?_⟩) (λa o ha ho=>kk a o (nL a ha.1.2.2) ho) λa ha o ho=>kk a o (nL a (f3 a ha).2.2) ho;rw[jt ha.1.1];simpa using nD a ha.1.2.2
  ·rcases Rr.mp ha with rfl|ha
   ·exact⟨g3,B3⟩
   ·exact⟨(f3 a ha).1,(f3 a ha).2.1⟩
theorem dr.ev{k:Nat}{x:PV}(h:dr C env Γ e k x):Ev C env Γ e md x:=Ev.F1 λA S U s Q E hr hh hq=>
 h A S U s Q E hr hh λv h' t' f ex r ω hf=>hq v h' t' ex (r.rd (λa ha=>ha.1) λa ha=>.inr (hf a ha).1)
noncomputable def bP:Nat->List (List Nat)
 |0=>[[]]
 |m+1=>(bP m).flatMap λrow=>(RG (row.length+1)).map λk=>row.take k++m::row.drop k
noncomputable def fk(n:Nat):Nat->List (List Nat)
 |0=>[[]]
 |t+1=>(fk n t).flatMap λws=>(UA (ws.foldl max 0) (n - ws.foldl max 0)).map λw=>ws++[w]
noncomputable def tf(n:Nat):Nat->List (List Nat)
 |0=>[[]]
 |t+1=>(tf n t).flatMap λp=>(RG n).map λw=>p++[w]
noncomputable def qB(n:Nat)(need:Nat->List Nat):Nat->List (List Nat)
 |0=>[[]]
 |t+1=>(qB n need t).flatMap λp=>((RG n).filter λw=>(need t).all λa=>decide (p.getD a 0<=w)).map λw=>p++[w]
noncomputable def ck(n:Nat)(row:List Nat):List Nat:=(UA 1 (n - 1)).filter λk=>decide (row.getD k 0<row.getD (k - 1) 0)
noncomputable def gf(ws:List Nat):Nat:=ws.getLastD 0
noncomputable def iO(n:Nat)(row ws:List Nat):Bool:=decide (gf ws+(ck n row).length<n)
noncomputable def cj(n:Nat)(row ws:List Nat):Nat×Nat:=(gf ws+(ck n row).length,ws.sum+((ck n row).map λk=>n - k).sum)
noncomputable def gB(need:Nat->List Nat)(n:Nat)(row:List Nat):Bool:=(RG n).all λj=>(need j).all λa=>decide (row.idxOf a<row.idxOf j)
noncomputable def xR(n:Nat)(need:Nat->List Nat):List (Nat×Nat):=(bP n).flatMap λrow=>if gB need n row then((fk n n).filter (iO n row)).map (cj n row)else []
noncomputable def pS:Nat->Nat->List Nat->List Nat
 |_,_,[]=>[]
 |p,d,a::r=>if a<p then(d+1)::pS a (d+1) r else d::pS a d r
noncomputable def Kn:Nat->List Nat->Bool
 |_,[]=>true
 |m,c::r=>!m.testBit c&&Kn (m|||2^c) r
noncomputable def A6(n:Nat)(row ws ds:List Nat):Nat:=((row.zip (ws.zip ds)).map λx=>(x.2.1+x.2.2)*n^x.1).sum
noncomputable def Jb(n:Nat):List Nat:=(bP n).flatMap λrow=>((fk n n).filter (iO n row)).map λws=>A6 n row ws (pS 0 0 row)
noncomputable def EC(n:Nat)(row:List Nat):Bool:=row.isPerm (RG n)&&(pS 0 0 row).length==n&&(gf (pS 0 0 row)==(ck n row).length)&&((pS 0 0 row).sum==((ck n row).map λk=>n - k).sum)&&
 (RG n).all λj=>(RG j).all λi=>decide ((pS 0 0 row).getD i 0<=(pS 0 0 row).getD j 0)&&(decide (row.getD i 0<row.getD j 0)||decide ((pS 0 0 row).getD i 0<(pS 0 0 row).getD j 0))
noncomputable def Eo(n:Nat)(ws:List Nat):Bool:=ws.length==n&&(RG n).all λj=>(RG j).all λi=>decide (ws.getD i 0<=ws.getD j 0)
noncomputable def xB(n:Nat):Bool:=(bP n).all (EC n)&&((fk n n).all (Eo n)&&(Kn 0 (Jb n)&&(Jb n).length==n^n))
theorem KG:xB 3=true:=by decide +kernel
theorem JW:xB 4=true:=by decide +kernel
theorem LU:xB 5=true:=by decide +kernel
theorem yT:∀ (l:List Nat) (m:Nat),Kn m l=true->l.Nodup/\∀c∈l,m.testBit c=false
 |[],_,_=>⟨.nil,λω h=>nomatch h⟩
 |c::r,m,h=>by
  have h:=Sj.mp h;have i:=yT r _ h.2;have hb:∀x∈r,m.testBit x=false/\c≠x:=λx hx=>by
   have e:=i.2 x hx;rw[Nat.testBit_or,Nat.testBit_two_pow]at e;have e:=Bool.or_eq_false_iff.mp e;exact⟨e.1,of_decide_eq_false e.2⟩
  refine⟨RO.mpr ⟨λhc=>(hb c hc).2 rfl,i.1⟩,λx hx=>?_⟩;rcases Rr.mp hx with rfl|hx
  ·exact(WI _).mp h.1
  ·exact(hb x hx).1
theorem iW[DecidableEq α]:∀ {L F:List α},L.Nodup->(∀x∈L,x∈F)->F.length<=L.length->L.Perm F
 |[],F,_,_,h=>by
  rw[SI.mp (Xe.mp h)]
 |x::L,F,hn,hs,h=>by
  have hx:=hs x (.head _);have hn:=RO.mp hn;have e:=List.perm_cons_erase hx;refine((iW (F:=F.erase x) hn.2 (λy hy=>?_) ?_).cons x).trans e.symm
  ·exact(XJ λq=>hn.1 (by rw[<-q];exact hy)).mpr (hs y (.tail _ hy))
  ·rw[VR hx];exact Nat.sub_le_of_le_add h
theorem i9(n:Nat):∀ (t:Nat) (f:List Nat),f∈tf n t↔f.length=t/\∀x∈f,x<n
 |0,f=>⟨λh=>by rw[Rq.mp h];exact⟨rfl,λω h=>nomatch h⟩,λh=>Rq.mpr (SI.mp h.1)⟩
 |t+1,f=>by
  constructor
  ·intro h;refine aD (TX.mp h) λp hp hf=>?_;refine aD (RE.mp hf) λw hw zr=>?_;subst zr;have i:=(i9 n t p).mp hp;refine⟨by rw[RQ,i.1];rfl,λx hx=>?_⟩;rcases Rw.mp hx with hx|hx
   ·exact i.2 x hx
   ·rw[Rq.mp hx];exact RW.mp hw
  ·rintro⟨h1,h2⟩;have aX:f≠[]:=λe=>by rw[e]at h1;exact Xd h1
   have e:=List.dropLast_concat_getLast aX;refine TX.mpr ⟨f.dropLast,(i9 n t _).mpr ⟨by rw[List.length_dropLast,h1];rfl,λx hx=>h2 x (Wh f hx)⟩,RE.mpr ⟨f.getLast aX,RW.mpr (h2 _ (List.getLast_mem aX)),e⟩⟩
theorem sA{k:Nat}{g:α->List β}:∀ {L:List α},(∀a∈L,(g a).length=k)->(L.flatMap g).length=L.length*k
 |[],_=>(Nat.zero_mul k).symm
 |a::L,h=>by
  rw[SO,RQ,h a (.head _),sA λb hb=>h b (.tail _ hb),SS,WO,VH]
theorem nW(n:Nat):∀t,(tf n t).length=n^t
 |0=>rfl
 |t+1=>by
  have e:(tf n (t+1)).length=(tf n t).length*n:=sA λp ω=>by rw[Rl,R']
  rw[e,nW n t];rfl
noncomputable def Cg(need:Nat->List Nat)(t:Nat)(f:List Nat):Bool:=(RG t).all λj=>(need j).all λa=>decide (f.getD a 0<=f.getD j 0)
theorem lr{p:List Nat}{w:Nat}(h:i<p.length):(p++[w]).getD i 0=p.getD i 0:=by
 rw[Sb,Sb,Ub h]
theorem fD{p q:α->Bool}:∀ {L:List α},(∀a∈L,p a=q a)->L.all p=L.all q
 |[],_=>rfl
 |a::L,h=>by
  rw[Wy,Wy,h a (.head _),fD λb hb=>h b (.tail _ hb)]
theorem dt{f g:α->List β}:∀ {L:List α},(∀a∈L,f a=g a)->L.flatMap f=L.flatMap g
 |[],_=>rfl
 |a::L,h=>by
  rw[SO,SO,h a (.head _),dt λb hb=>h b (.tail _ hb)]
theorem wY{p:α->Bool}{g:α->List β}:∀ {L:List α},(L.flatMap λa=>if p a then g a else [])=(L.filter p).flatMap g
 |[]=>rfl
 |a::L=>by
  rw[SO,wY,S9];cases p a with
  |true=>rfl
  |false=>rfl
theorem rn(n:Nat)(cO:∀j a,a∈need j->a<j):∀t,qB n need t=(tf n t).filter (Cg need t)
 |0=>rfl
 |t+1=>by
  show(qB n need t).flatMap _=XS _ ((tf n t).flatMap _);rw[rn n cO t,XR,<-wY];refine dt λp hp=>?_;have hl:=((i9 n t p).mp hp).1;have e:∀w,Cg need (t+1) (p++[w])=(Cg need t p&&(need t).all λa=>decide (p.getD a 0<=w)):=λw=>by
   unfold Cg;rw[Yw,List.all_append,Wy,List.all_nil,Bool.and_true];have ew:(p++[w]).getD t 0=w:=by rw[Sb,UM (UI hl),hl,Wd];rfl
   congr 1
   ·refine fD λj hj=>fD λa ha=>?_;have hj:=RW.mp hj;rw[lr (hl▸R0 (cO j a ha) hj),lr (hl▸hj)]
   ·refine fD λa ha=>?_;rw[ew,lr (hl▸cO t a ha)]
  rw[V'];have e2:(Cg need (t+1)∘λw=>p++[w])=λw=>(Cg need t p&&(need t).all λa=>decide (p.getD a 0<=w)):=funext e;rw[e2];cases Cg need t p with
  |true=>rfl
  |false=>
   show []=X3 _ (XS (λω=>false) _);rw[Va.mpr λω ω h=>Tz h];rfl
structure gF(n:Nat)(row:List Nat):Prop where
 perm:row.Perm (RG n)
 len:(pS 0 0 row).length=n
 top:gf (pS 0 0 row)=(ck n row).length
 sum:(pS 0 0 row).sum=((ck n row).map λk=>n - k).sum
 up:∀i j,i<j->j<n->(pS 0 0 row).getD i 0<=(pS 0 0 row).getD j 0/\(row.getD i 0<row.getD j 0\/(pS 0 0 row).getD i 0<(pS 0 0 row).getD j 0)
structure kg(n:Nat)(ws:List Nat):Prop where
 len:ws.length=n
 up:∀i j,i<j->j<n->ws.getD i 0<=ws.getD j 0
theorem wB{n:Nat}(h:EC n row=true):gF n row:=by
 unfold EC at h;simp only[SU,beq_iff_eq,Sv,RW,W3,decide_eq_true_eq,List.isPerm_iff]at h;exact⟨h.1.1.1.1,h.1.1.1.2,h.1.1.2,h.1.2,λi j hi hj=>h.2 j hj i hi⟩
theorem wW{n:Nat}{ws:List Nat}(h:Eo n ws=true):kg n ws:=by
 unfold Eo at h;simp only[SU,beq_iff_eq,Sv,RW,decide_eq_true_eq]at h;exact⟨h.1,λi j hi hj=>h.2 j hj i hi⟩
noncomputable def vF(row ws:List Nat)(a:Nat):Nat:=ws.getD (row.idxOf a) 0+(pS 0 0 row).getD (row.idxOf a) 0
noncomputable def fN(n:Nat)(q:List Nat×List Nat):List Nat:=(RG n).map (vF q.1 q.2)
section
variable{n:Nat}{ws:List Nat}
theorem uL(q:List Nat×List Nat){a:Nat}(ha:a<n):(fN n q).getD a 0=vF q.1 q.2 a:=by
 unfold fN;rw[Sb,RZ,Wo ha];rfl
theorem gF.ix(h:gF n row){a:Nat}(ha:a<n):row.idxOf a<n:=by
 have e:=Ug.mpr (h.perm.mem_iff.mpr (RW.mpr ha));rwa[h.perm.length_eq,R']at e
theorem gF.at(h:gF n row){a:Nat}(ha:a<n):row.getD (row.idxOf a) 0=a:=by
 have e:=Ug.mpr (h.perm.mem_iff.mpr (RW.mpr ha));rw[Sb,RT e,VB];rfl
theorem Gl(h:gF n row)(hw:kg n ws){a b:Nat}(ha:a<b)(hb:b<n):decide (vF row ws a<=vF row ws b)=decide (row.idxOf a<row.idxOf b):=by
 have k9:=R0 ha hb;unfold vF;rcases Nat.lt_trichotomy (row.idxOf a) (row.idxOf b)with c|c|c
 ·rw[decide_eq_true c];exact decide_eq_true (Tb (hw.up _ _ c (h.ix hb)) (h.up _ _ c (h.ix hb)).1)
 ·have e1:=h.at k9;rw[c,h.at hb]at e1;exact absurd e1 (TA ha)
 ·rw[decide_eq_false (Zn c)];have e:=(h.up _ _ c (h.ix k9)).2;rw[h.at k9,h.at hb]at e;exact decide_eq_false (Vf.mpr (Nat.add_lt_add_of_le_of_lt (hw.up _ _ c (h.ix k9)) (e.resolve_left (Zn ha))))
theorem wV(h:gF n row)(hw:kg n ws)(g:Nat->Nat->Nat):(row.map λa=>g a (vF row ws a))=(row.zip (ws.zip (pS 0 0 row))).map λx=>g x.1 (x.2.1+x.2.2):=by
 have hl:row.length=n:=by rw[h.perm.length_eq,R']
 have aG:row.Nodup:=h.perm.nodup_iff.mpr Tw;apply List.ext_getElem
 ·rw[Rl,Rl,UC,UC,hw.len,h.len,VG,hl,VG]
 ·intro i h1 h2;rw[Rl]at h1;have hi:i<n:=hl▸h1;rw[Yn,Yn,Ym,Ym];unfold vF;rw[aG.idxOf_getElem i h1,Sb,Sb,RT (hw.len▸hi),RT (h.len▸hi)];rfl
noncomputable def JH(n:Nat)(f:List Nat):Nat:=((RG n).map λa=>f.getD a 0*n^a).sum
theorem CH(h:gF n row)(hw:kg n ws):A6 n row ws (pS 0 0 row)=JH n (fN n (row,ws)):=by
 unfold A6 JH;rw[<-wV h hw λa v=>v*n^a];have e:((RG n).map λa=>(fN n (row,ws)).getD a 0*n^a)=(RG n).map λa=>vF row ws a*n^a:=Tg λa ha=>by rw[uL _ (RW.mp ha)]
 rw[e];exact(h.perm.map _).sum_nat
theorem wD:∀ {r u v:List Nat},u.length=r.length->v.length=r.length->((r.zip (u.zip v)).map λx=>x.2.1+x.2.2).sum=u.sum+v.sum
 |[],[],[],_,_=>rfl
 |_::r,a::u,b::v,h1,h2=>by
  rw[UZ,UZ,Sl,Tt,wD (Vu h1) (Vu h2),Tt,Tt,Nat.add_add_add_comm]
theorem DK(h:gF n row)(hw:kg n ws):(fN n (row,ws)).sum=(cj n row ws).2:=by
 have hl:row.length=n:=by rw[h.perm.length_eq,R']
 have e:=wV h hw λω v=>v;have e2:=(h.perm.map (vF row ws)).sum_nat;unfold fN cj;rw[<-e2];show(row.map λa=>vF row ws a).sum=_;rw[e,wD (hw.len.trans hl.symm) (h.len.trans hl.symm),h.sum]
theorem lR{l:List Nat}:gf l=l.getD (l.length - 1) 0:=by
 unfold gf;rw[VK,Xj,Sb]
theorem wF{l:List Nat}(hu:∀i j,i<j->j<n->l.getD i 0<=l.getD j 0)(hl:l.length=n)(hi:i<n):l.getD i 0<=gf l:=by
 rw[lR,hl];rcases T9 (Sd hi)with c|c
 ·exact hu _ _ c (Yk (RJ (RU _) hi) XW)
 ·rw[<-c];exact Rx _
theorem z9(h:gF n row)(hw:kg n ws){a:Nat}(ha:a<n):vF row ws a<=(cj n row ws).1:=by
 unfold vF cj;rw[<-h.top];exact Tb (wF hw.up hw.len (h.ix ha)) (wF (λi j x y=>(h.up i j x y).1) h.len (h.ix ha))
theorem Fd(h:gF n row)(hw:kg n ws)(hn:0<n):∃a,a<n/\vF row ws a=(cj n row ws).1:=by
 have hl:row.length=n:=by rw[h.perm.length_eq,R']
 have aG:row.Nodup:=h.perm.nodup_iff.mpr Tw;have hi:n - 1<row.length:=by rw[hl];exact Yk hn XW
 refine⟨row[n - 1],RW.mp (h.perm.mem_iff.mp (WR hi)),?_⟩;unfold vF cj;rw[aG.idxOf_getElem _ hi,<-h.top,lR,lR,hw.len,h.len]
theorem jf:∀ (l:List Nat) (m:Nat),m<=l.foldl max m/\(∀x∈l,x<=l.foldl max m)/\(l.foldl max m=m\/l.foldl max m∈l)
 |[],m=>⟨Rx _,(λω h=>nomatch h),.inl rfl⟩
 |x::l,m=>by
  have i:=jf l (max m x);refine⟨Rk (Nat.le_max_left _ _) i.1,λy hy=>?_,?_⟩
  ·rcases Rr.mp hy with rfl|hy
   ·exact Rk (Nat.le_max_right _ _) i.1
   ·exact i.2.1 y hy
  ·show Xq max (max m x) l=m\/Xq max (max m x) l∈x::l;rcases i.2.2 with e|e
   ·rw[e];rcases Nat.le_total m x with c|c
    ·rw[TY c];exact .inr (.head _)
    ·rw[YL c];exact .inl rfl
   ·exact .inr (.tail _ e)
theorem FA{l:List Nat}{m:Nat}(hm:m∈l)(hle:∀x∈l,x<=m):l.foldl max 0=m:=by
 have i:=jf l 0;refine Sa ?_ (i.2.1 m hm);rcases i.2.2 with e|e
 ·rw[e];exact RU _
 ·exact hle _ e
theorem ES(h:gF n row)(hw:kg n ws)(hn:0<n):(fN n (row,ws)).foldl max 0=(cj n row ws).1:=by
 refine aD (Fd h hw hn) λa ha e=>?_;refine FA (RE.mpr ⟨a,RW.mpr ha,e⟩) λx hx=>?_;refine aD (RE.mp hx) λb hb zr=>?_;subst zr;exact z9 h hw (RW.mp hb)
end
noncomputable def fj(n:Nat):List (List Nat×List Nat):=(bP n).flatMap λrow=>((fk n n).filter (iO n row)).map λws=>(row,ws)
theorem gJ{γ:Type}{g:α->List β}{f:β->γ}:∀ {L:List α},(L.flatMap g).map f=L.flatMap λa=>(g a).map f
 |[]=>rfl
 |a::L=>by
  rw[SO,R9,gJ,SO]
theorem yp{n:Nat}(hn:0<n)(hc:xB n=true)(cO:∀j a,a∈need j->a<j):((qB n need n).map λf=>(f.foldl max 0,f.sum)).Perm (xR n need):=by
 have hc:=Sj.mp hc;have Dv:=Sj.mp hc.2;have NL:=Sj.mp Dv.2;have hq:∀q∈fj n,gF n q.1/\kg n q.2/\iO n q.1 q.2=true:=λq hq=>by
  refine aD (TX.mp hq) λrow hr hq=>?_;refine aD (RE.mp hq) λws hw zr=>?_;subst zr;have hw:=TJ.mp hw;exact⟨wB (Sv.mp hc.1 row hr),wW (Sv.mp Dv.1 ws hw.1),hw.2⟩
 have pN:Jb n=((fj n).map (fN n)).map (JH n):=by
  rw[R6];unfold Jb fj;rw[gJ];refine dt λrow hr=>?_;rw[R6];refine Tg λws hw=>?_;exact CH (wB (Sv.mp hc.1 row hr)) (wW (Sv.mp Dv.1 ws (TJ.mp hw).1))
 have aG:((fj n).map (fN n)).Nodup:=Y7 (JH n) (λa b h e=>h (by rw[e])) (pN▸(yT _ _ NL.1).1);have hlen:((fj n).map (fN n)).length=n^n:=by
  have e:=beq_iff_eq.mp NL.2;rw[pN,Rl]at e;exact e
 have hp:((fj n).map (fN n)).Perm (tf n n):=iW aG (λf hf=>by
  refine aD (RE.mp hf) λq BL zr=>?_;subst zr;have h:=hq q BL;refine(i9 n n _).mpr ⟨by unfold fN;rw[Rl,R'],λx hx=>?_⟩;refine aD (RE.mp hx) λa ha zr=>?_;subst zr;exact RJ (z9 h.1 h.2.1 (RW.mp ha)) (of_decide_eq_true h.2.2)) (by rw[nW,hlen];exact Rx _)
 rw[rn n cO n];refine((hp.symm.filter (Cg need n)).map _).trans ?_;rw[V',R6];have e1:(fj n).filter (Cg need n∘fN n)=(fj n).filter λq=>gB need n q.1:=Yc λq h1=>by
  have h:=hq q h1;refine fD λj hj=>fD λa ha=>?_;have hj:=RW.mp hj;rw[uL q (R0 (cO j a ha) hj),uL q hj];exact Gl h.1 h.2.1 (cO j a ha) hj
 rw[e1];have e2:(((fj n).filter λq=>gB need n q.1).map ((λf:List Nat=>(f.foldl max 0,f.sum))∘fN n))=((fj n).filter λq=>gB need n q.1).map λq=>cj n q.1 q.2:=Tg λq h1=>by
  have h:=hq q (TJ.mp h1).1;show((fN n (q.1,q.2)).foldl max 0,(fN n (q.1,q.2)).sum)=_;rw[ES h.1 h.2.1 hn,DK h.1 h.2.1]
 rw[e2];have e3:(((fj n).filter λq=>gB need n q.1).map λq=>cj n q.1 q.2)=xR n need:=by
  unfold fj xR;rw[XR,gJ];refine dt λrow ω=>?_;rw[V',R6];show(XS (λω=>gB need n row) _).map _=_;cases gB need n row with
  |true=>
   rw[Wp.mpr λω ω=>rfl];rfl
  |false=>
   rw[Va.mpr λω ω h=>Tz h];rfl
 rw[e3]
noncomputable def gm:Bool->R5->Array R5->Nat->Nat->Nat->StateT SortSt Sem (Option Nat):=sortPriv% PySem.Builtin.gallop
noncomputable def cF:Nat->StateT SortSt Sem Unit:=sortPriv% PySem.Builtin.setMinGallop
theorem lF(g:Nat):cF g=modify λs=>Wu (kindOf s) (arrOf s) (pendingOf s) g (failedOf s):=rfl
noncomputable def ji(left:Bool)(key:R5)(arr:Array R5)(base i:Nat):StateT SortSt Sem (Option Bool):=do
 let x ←elem' arr (base+i)
 if left then lt' x key else return (←lt' key x).map (!·)
section
variable{prog:Sw}{w:TG}{s:Ro}
structure dk(prog:Sw)(w:TG)(A:Sg)(s:Ro)(κ:SortKind)(G:R5->Prop)(kv:R5->Int):Prop where
 lt:∀x y,G x->G y->∀ (E:Rz->Ro->Prop) (Q:Bool->Ro->Prop),Q (decide (kv x<kv y)) s->RM (RF prog w) A (keyLt' κ x.1 y.1) Q E s
noncomputable def kA(kv:R5->Int)(arr:Array R5)(i:Nat):Int:=(arr[i]?).elim 0 kv
noncomputable def GA(G:R5->Prop)(arr:Array R5):Prop:=∀ (i:Nat) (p:R5),arr[i]?=some p->G p
variable{G:R5->Prop}
theorem GA.at(h:GA G arr)(hi:i<arr.size):∃p,arr[i]?=some p/\G p/\kA kv arr i=kv p:=by
 have e:arr[i]?=some arr[i]:=getElem?_pos arr i hi;refine⟨_,e,h i _ e,?_⟩;unfold kA;rw[e];rfl
theorem GA.perm{a b:Array R5}(h:GA G b)(hp:a.Perm b):GA G a:=by
 intro i p e;have hm:p∈a.toList:=by
  rw[XC];exact Xw e
 refine oE (Xz.mp ((Vz.mp hp).mem_iff.mp hm)) λj hj=>?_;exact h j p (by rw[<-TH];exact hj)
theorem de{a b:Array R5}(h:a[i]?=b[j]?):kA kv a i=kA kv b j:=by
 unfold kA;rw[h]
theorem nC(hL:dk prog w A s κ G kv){st:SortSt}(hk:kindOf st=κ){x y:R5}(hx:G x)(hy:G y){Q:Option Bool->SortSt->Prop}
  (h:Q (some (decide (kv x<kv y))) st):wpS (RF prog w) A E s (lt' x y) Q st:=by
 rw[lt'_eq];refine RP (Wq ?_);rw[hk];refine RP (WS (wpAny_attempt (hL.lt x y hx hy _ _ ⟨rfl,?_⟩)));exact R2 h
theorem a6{p:R5}{st:SortSt}{Q:R5->SortSt->Prop}(e:arr[i]?=some p)(h:Q p st):
  wpS M A E s (elem' arr i) Q st:=by
 rw[elem'_eq,e];exact R2 h
theorem BX(hL:dk prog w A s κ G kv){st:SortSt}(hk:kindOf st=κ)(hG:GA G (arrOf st))(hi:i<(arrOf st).size)(hj:j<(arrOf st).size)
  {Q:Option Bool->SortSt->Prop} (h:Q (some (decide (kA kv (arrOf st) i<kA kv (arrOf st) j))) st):wpS (RF prog w) A E s (ltAt' i j) Q st:=by
 refine bM (hG.at (kv:=kv) hi) λp ep gp kp=>?_;refine bM (hG.at (kv:=kv) hj) λq eq gq kq=>?_;rw[ltAt'_eq];refine RP (Wq (RP (a6 ep (RP (a6 eq (nC hL hk gp gq ?_))))));rw[<-kp,<-kq];exact h
noncomputable def Bt(left:Bool)(k x:Int):Bool:=cond left (decide (x<k)) (decide (x<=k))
theorem BF{left:Bool}{k x y:Int}(h:x<=y)(hy:Bt left k y=true):Bt left k x=true:=by
 cases left with
 |true=>exact decide_eq_true (Int.lt_of_le_of_lt h (of_decide_eq_true hy))
 |false=>exact decide_eq_true (SX h (of_decide_eq_true hy))
theorem nr(hL:dk prog w A s κ G kv){st:SortSt}(hk:kindOf st=κ){left:Bool}{key:R5}(gk:G key)(hG:GA G arr)
  {base:Nat} (hi:base+i<arr.size) {Q:Option Bool->SortSt->Prop} (h:Q (some (Bt left (kv key) (kA kv arr (base+i)))) st):
  wpS (RF prog w) A E s (ji left key arr base i) Q st:=by
 refine bM (hG.at (kv:=kv) hi) λp ep gp kp=>?_;unfold ji;refine RP (a6 ep ?_);rw[kp]at h;cases left with
 |true=>exact nC hL hk gp gk h
 |false=>
  refine RP (nC hL hk gk gp (R2 ?_));have e:(!decide (kv key<kv p))=decide (kv p<=kv key):=by
   by_cases c:kv key<kv p
   ·rw[decide_eq_true c,decide_eq_false (Xt.mpr c)];rfl
   ·rw[decide_eq_false c,decide_eq_true (Uk.mp c)];rfl
  show Q (some (!decide (kv key<kv p))) st;rw[e];exact h
end
noncomputable abbrev zm:=Nat->StateT SortSt Sem (Option Bool)
noncomputable def Cd(f:zm)(n QE Mo:Nat):StateT SortSt Sem (Option Nat):=do
 let mut lo:=QE
 let mut hi:=Mo
 for _ in [0:n]do
  if lo≥hi then break
  let m:=lo+(hi - lo) / 2
  let some more ←f m|return none
  if more then lo:=m+1 else hi:=m
 return some hi
noncomputable def Lg(f:zm)(n hint nh:Nat):StateT SortSt Sem (Option Nat):=do
 let mut ka:=0
 let mut yo:=1
 for _ in [0:n]do
  if yo≥nh then break
  let some more ←f (hint+yo)|return none
  if !more then break
  ka:=yo
  yo:=2*yo+1
 Cd f n (hint+ka+1) (hint+min yo nh)
noncomputable def z1(f:zm)(n hint nh:Nat):StateT SortSt Sem (Option Nat):=do
 let mut ka:=0
 let mut yo:=1
 for _ in [0:n]do
  if yo≥nh then break
  let some found ←f (hint - yo)|return none
  if found then break
  ka:=yo
  yo:=2*yo+1
 Cd f n (hint+1 - min yo nh) (hint - ka)
theorem x8(left:Bool)(key:R5)(arr:Array R5)(base n hint:Nat):gm left key arr base n hint=(do
 let some right ←ji left key arr base hint|return none
 if right then Lg (ji left key arr base) n hint (n - hint)else z1 (ji left key arr base) n hint (hint+1)):=rfl
noncomputable abbrev Ld{β σ:Type}(μ:β->Nat)(I Q:β->σ->Prop)(c:β)(r:ForInStep β)(st':σ):Prop:=match r with
 | .done c'=>Q c' st'
 | .yield c'=>I c' st'/\μ c'<μ c
theorem di{σ:Type}{s:Ro}{n:Nat}{f:Nat->β->StateT σ Sem (ForInStep β)}(μ:β->Nat)(I:β->σ->Prop){Q:β->σ->Prop}{c:β}{st:σ}
  (h:I c st) (P4:μ c<=n) (LA:∀c st,I c st->μ c=0->Q c st)
  (Gq:∀x c st,I c st->wpS M A E s (f x c) (Ld μ I Q c) st):
  wpS M A E s (forIn [0:n] c f) Q st:=by
 refine Vs (I:=λx c st=>I c st/\x+μ c<=n) (λx c st ω hx hi=>?_) (λc st hi=>LA c st hi.1 ?_) ⟨h,by rw[T8];exact P4⟩
 ·refine Vd (Gq x c st hi.1) λr st' hr=>?_;cases r with
  |done c'=>exact hr
  |yield c'=>exact⟨hr.1,by rw[Nat.succ_add,<-Nat.add_succ];exact Rk (Se hr.2 x) hi.2⟩
 ·have h3:=hi.2;rw[TY (RU n)]at h3;exact Xe.mp (Xp h3)
section
variable{s:Ro}{f:zm}{B:Nat->Bool}{n:Nat}{st:SortSt}{Q:Option Nat->SortSt->Prop}
noncomputable def xd(M:Model)(A:Sg)(E:Rz->Ro->Prop)(s:Ro)(f:zm)(B:Nat->Bool)(n:Nat)(st:SortSt):Prop:=
 ∀i (Q:Option Bool->SortSt->Prop),i<n->Q (some (B i)) st->wpS M A E s (f i) Q st
noncomputable def pQ(B:Nat->Bool):Prop:=∀i j,i<=j->B j=true->B i=true
theorem pQ.up(hB:pQ B)(h:i<=j)(h2:B i=false):B j=false:=by
 cases e:B j with
 |false=>rfl
 |true=>
  rw[hB i j h e]at h2;exact h2
noncomputable abbrev H3(B:Nat->Bool)(n:Nat)(st:SortSt)(c:Option (Option Nat)×Nat×Nat)(st':SortSt):Prop:=
 st'=st/\c.1=none/\c.2.1<=c.2.2/\c.2.2<=n/\(∀i,i<c.2.1->B i=true)/\∀i,c.2.2<=i->i<n->B i=false
theorem qm(o:Nat):o<2*o+1:=by omega
theorem E5{l r:Nat}(h: ¬l≥r):l+(r - l) / 2<r:=by omega
theorem tW(hf:xd M A E s f B n st)(hB:pQ B){lo hi:Nat}(cY:lo<=hi)(Du:hi<=n)(h1:∀i,i<lo->B i=true)
  (h2:∀i,hi<=i->i<n->B i=false) (h:∀k,k<=n->(∀i,i<k->B i=true)->(∀i,k<=i->i<n->B i=false)->Q (some k) st):
  wpS M A E s (Cd f n lo hi) Q st:=by
 unfold Cd;refine RP (Vd (di (λc=>c.2.2 - c.2.1) (H3 B n st) (Q:=λc st'=>H3 B n st c st'/\c.2.1=c.2.2) ⟨rfl,rfl,cY,Du,h1,h2⟩ (Rk (SK _ _) Du)
  (λc st' hi h0=>⟨hi,Sa hi.2.2.1 (Tp h0)⟩) ?_) ?_)
 ·rintro x ⟨e0,l,r⟩ st' ⟨rfl,(rfl:e0=none),(a:l<=r),(b:r<=n),(c1:∀i,i<l->B i=true),(c2:∀i,r<=i->i<n->B i=false)⟩;show wpS M A E s (if l≥r then _ else _) _ _;by_cases iy:l≥r
  ·rw[if_pos iy];exact R2 ⟨⟨rfl,rfl,a,b,c1,c2⟩,Sa a iy⟩
  ·rw[if_neg iy];have hm:=E5 iy;have fS:l<=l+(r - l) / 2:=Sh _ _;generalize l+(r - l) / 2=m at hm fS⊢;refine RP (hf _ _ (Ru hm b) ?_);dsimp only;cases hb:B m with
   |true=>exact R2 ⟨⟨rfl,rfl,hm,b,λi hi=>hB _ _ (Sy hi) hb,c2⟩,Uo (T5 iy) (WL fS)⟩
   |false=>exact R2 ⟨⟨rfl,rfl,fS,Rk (RS hm) b,c1,λi h1 h2=>hB.up h1 hb⟩,Wk fS hm⟩
 ·rintro⟨e0,l,r⟩ st' ⟨⟨rfl,(rfl:e0=none),(a:l<=r),(b:r<=n),(c1:∀i,i<l->B i=true),(c2:∀i,r<=i->i<n->B i=false)⟩,(e:l=r)⟩;subst e;exact R2 (h l b c1 c2)
noncomputable abbrev CK(P:Nat->Prop)(st:SortSt)(c:Option (Option Nat)×Nat×Nat)(st':SortSt):Prop:=st'=st/\c.1=none/\c.2.1<c.2.2/\P c.2.1
theorem BM(hf:xd M A E s f B n st)(hB:pQ B){hint:Nat}(hh:hint<n)(hb:B hint=true)
  (h:∀k,k<=n->(∀i,i<k->B i=true)->(∀i,k<=i->i<n->B i=false)->Q (some k) st):
  wpS M A E s (Lg f n hint (n - hint)) Q st:=by
 unfold Lg;refine RP (Vd (di (λc=>n - c.2.2) (CK (λl=>l<n - hint/\B (hint+l)=true) st)
  (Q:=λc st'=>CK (λl=>l<n - hint/\B (hint+l)=true) st c st'/\(n - hint<=c.2.2\/B (hint+c.2.2)=false))
  ⟨rfl,rfl,YK,UL hh,hb⟩ (SK _ _) (λc st' hi h0=>⟨hi,.inl (Rk (SK _ _) (Tp h0))⟩) ?_) ?_)
 ·rintro x ⟨e0,l,o⟩ st' ⟨rfl,(rfl:e0=none),(a:l<o),(b:l<n - hint),(c:B (hint+l)=true)⟩;show wpS M A E s (if o≥n - hint then _ else _) _ _;by_cases iy:o≥n - hint
  ·rw[if_pos iy];exact R2 ⟨⟨rfl,rfl,a,b,c⟩,.inl iy⟩
  ·rw[if_neg iy];have ho:=T5 iy;refine RP (hf _ _ (UJ ho) ?_);dsimp only;cases hb:B (hint+o)with
   |false=>exact R2 ⟨⟨rfl,rfl,a,b,c⟩,.inr hb⟩
   |true=>exact R2 ⟨⟨rfl,rfl,qm o,ho,hb⟩,Uo (Ru ho (SK _ _)) (qm o)⟩
 ·rintro⟨e0,l,o⟩ st' ⟨⟨rfl,(rfl:e0=none),(a:l<o),(b:l<n - hint),(c:B (hint+l)=true)⟩,(d:n - hint<=o\/B (hint+o)=false)⟩;dsimp only;refine tW hf hB (Se (Nat.le_min.mpr ⟨a,b⟩) _) (Nat.add_le_of_le_sub' (RS hh) (Ur _ _)) (λi hi=>hB _ _ (Sy hi) c) (λi hi cO=>?_) h;rcases d with d|d
  ·rw[WX d,Th (RS hh)]at hi;exact absurd cO (SV.mpr hi)
  ·by_cases h1:n - hint<=o
   ·rw[WX h1,Th (RS hh)]at hi;exact absurd cO (SV.mpr hi)
   ·rw[Vx (Yu h1)]at hi;exact hB.up hi d
theorem yq(hf:xd M A E s f B n st)(hB:pQ B){hint:Nat}(hh:hint<n)(hb:B hint=false)
  (h:∀k,k<=n->(∀i,i<k->B i=true)->(∀i,k<=i->i<n->B i=false)->Q (some k) st):
  wpS M A E s (z1 f n hint (hint+1)) Q st:=by
 unfold z1;refine RP (Vd (di (λc=>n - c.2.2) (CK (λl=>l<=hint/\B (hint - l)=false) st)
  (Q:=λc st'=>CK (λl=>l<=hint/\B (hint - l)=false) st c st'/\(hint+1<=c.2.2\/B (hint - c.2.2)=true))
  ⟨rfl,rfl,YK,RU _,hb⟩ (SK _ _) (λc st' hi h0=>⟨hi,.inl (Rk hh (Tp h0))⟩) ?_) ?_)
 ·rintro x ⟨e0,l,o⟩ st' ⟨rfl,(rfl:e0=none),(a:l<o),(b:l<=hint),(c:B (hint - l)=false)⟩;show wpS M A E s (if o≥hint+1 then _ else _) _ _;by_cases iy:o≥hint+1
  ·rw[if_pos iy];exact R2 ⟨⟨rfl,rfl,a,b,c⟩,.inl iy⟩
  ·rw[if_neg iy];have ho:=T5 iy;refine RP (hf _ _ (RJ (SK _ _) hh) ?_);dsimp only;cases hb:B (hint - o)with
   |true=>exact R2 ⟨⟨rfl,rfl,a,b,c⟩,.inr hb⟩
   |false=>exact R2 ⟨⟨rfl,rfl,qm o,Sy ho,hb⟩,Uo (Ru ho hh) (qm o)⟩
 ·rintro⟨e0,l,o⟩ st' ⟨⟨rfl,(rfl:e0=none),(a:l<o),(b:l<=hint),(c:B (hint - l)=false)⟩,(d:hint+1<=o\/B (hint - o)=true)⟩;dsimp only;have O8:l<min o (hint+1):=Nat.lt_min.mpr ⟨a,WL b⟩;refine tW hf hB (by omega) (Rk (SK _ _) (RS hh)) (λi hi=>?_) (λi hi cO=>hB.up hi c) h;by_cases h1:hint+1<=o
  ·rw[WX h1,Wd]at hi;exact absurd hi (Ui _)
  ·rw[Vx (Yu h1)]at hi;exact hB _ _ (by omega) (d.resolve_left h1)
end
section
variable{prog:Sw}{w:TG}{s:Ro}{G:R5->Prop}
noncomputable def bl(kv:R5->Int)(arr:Array R5)(i j:Nat):Prop:=∀p q,i<=p->p<=q->q<j->kA kv arr p<=kA kv arr q
theorem eD(hL:dk prog w A s κ G kv){st:SortSt}(hk:kindOf st=κ){left:Bool}{key:R5}(gk:G key)(hG:GA G arr)
  {base n hint:Nat} (hn:base+n<=arr.size) (hh:hint<n) (hs:bl kv arr base (base+n)) {Q:Option Nat->SortSt->Prop}
  (h:∀k,k<=n->(∀i,base<=i->i<base+k->Bt left (kv key) (kA kv arr i)=true)->(∀i,base+k<=i->i<base+n->Bt left (kv key) (kA kv arr i)=false)->Q (some k) st):
  wpS (RF prog w) A E s (gm left key arr base n hint) Q st:=by
 have hf:∀ (E:Rz->Ro->Prop),xd (RF prog w) A E s (ji left key arr base) (λi=>decide (i<n)&&Bt left (kv key) (kA kv arr (base+i))) n st:=by
  intro E i Q hi hq;refine nr hL hk gk hG (by omega) ?_;dsimp only at hq;rw[decide_eq_true hi]at hq;exact hq
 have hB:pQ (λi=>decide (i<n)&&Bt left (kv key) (kA kv arr (base+i))):=by
  intro i j FR hj;have EI:=Sj.mp hj;have oa:=of_decide_eq_true EI.1;exact Sj.mpr ⟨decide_eq_true (RJ FR oa),BF (hs _ _ (Sh _ _) (Se FR _) (SD oa _)) EI.2⟩
 have CG:∀k,k<=n->(∀i,i<k->(decide (i<n)&&Bt left (kv key) (kA kv arr (base+i)))=true)->
   (∀i,k<=i->i<n->(decide (i<n)&&Bt left (kv key) (kA kv arr (base+i)))=false)->Q (some k) st:=by
  intro k hk h1 h2;refine h k hk (λi hb hi=>?_) (λi hb hi=>?_)
  ·have e:=(Sj.mp (h1 (i - base) (by omega))).2;rwa[show base+(i - base)=i by omega]at e
  ·have e:=h2 (i - base) (by omega) (by omega);rw[decide_eq_true (show i - base<n by omega),show base+(i - base)=i by omega]at e;exact e
 rw[x8];refine RP (nr hL hk gk hG (by omega) ?_);dsimp only;cases hb:Bt left (kv key) (kA kv arr (base+hint))with
 |true=>exact BM (hf E) hB hh (Sj.mpr ⟨decide_eq_true hh,hb⟩) CG
 |false=>exact yq (hf E) hB hh (by rw[hb];exact YQ _) CG
end
structure MG(r:R5->R5->Prop)(T O X Y:List R5):Prop where
 sx:(O++X).Pairwise r
 sy:(O++Y).Pairwise r
 pm:(O++X++Y).Perm T
section
variable{r:R5->R5->Prop}{T O X Y P:List R5}
theorem MG.symm(h:MG r T O X Y):MG r T O Y X:=
 ⟨h.sy,h.sx,((Sq O Y X).symm▸(Xg O List.perm_append_comm)).trans (Sq O X Y▸h.pm)⟩
theorem MG.move(h:MG r T O (P++X) Y)(hp:∀p,p∈P->∀y,y∈Y->r p y):MG r T (O++P) X Y:=by
 have h1:=h.sx;have h3:=h.pm;rw[<-Sq]at h1 h3;refine⟨h1,?_,h3⟩;have qK:=Te.mp (Te.mp h1).1;have h2:=Te.mp h.sy;refine Te.mpr ⟨(Te.mp h1).1,h2.2.1,λx hx y hy=>?_⟩;rcases Rw.mp hx with hx|hx
 ·exact h2.2.2 x hx y hy
 ·exact hp x hx y hy
theorem MG.fin(h:MG r T O X Y)(hp:∀y,y∈Y->∀x,x∈X->r y x):(O++Y++X).Pairwise r/\(O++Y++X).Perm T:=by
 have h1:=Te.mp h.sx;refine⟨Te.mpr ⟨h.sy,h1.2.1,λa ha x hx=>?_⟩,h.symm.pm⟩;rcases Rw.mp ha with ha|ha
 ·exact h1.2.2 a ha x hx
 ·exact hp a ha x hx
end
section
variable{a b out:Array R5}{T:List R5}
noncomputable def Dw(kv:R5->Int)(x y:R5):Prop:=kv x<=kv y
noncomputable def QM(kv:R5->Int)(x y:R5):Prop:=kv y<=kv x
theorem wI{p:R5}(h:p∈(a.extract i j).toList):∃n,i<=n/\n<j/\a[n]?=some p:=by
 refine oE (Xz.mp h) λn hn=>?_;rw[TH,U9]at hn;by_cases c:n<min j a.size - i
 ·rw[if_pos c]at hn;exact⟨i+n,Sh _ _,VH i n▸Nat.add_lt_of_lt_sub (Ru c (XO (UH _ _) _)),hn⟩
 ·rw[if_neg c]at hn;cases hn
theorem dA{k:Nat}(h1:i<=j)(h2:j<=k):(a.extract i k).toList=(a.extract i j).toList++(a.extract j k).toList:=by
 rw[<-TP,Array.extract_append_extract,Vx h1,TY h2]
theorem th{p:R5}(h:a[i]?=some p):out.push p=out++a.extract i (i+1):=by
 refine oE (W6.mp h) λhi zr=>?_;subst zr;rw[Array.push_eq_append]
 congr 1
 rw[Array.extract_succ_right (TZ i) hi,Array.extract_empty_of_stop_le_start (Rx i)];rfl
noncomputable def eE(kv:R5->Int)(T:List R5)(res:Array R5):Prop:=res.toList.Pairwise (Dw kv)/\res.toList.Perm T
noncomputable def lD(kv:R5->Int)(a b:Array R5)(T:List R5)(out:Array R5)(ia ib:Nat):Prop:=
 MG (Dw kv) T out.toList (a.extract ia a.size).toList (b.extract ib b.size).toList
noncomputable def mI(kv:R5->Int)(a b:Array R5)(T:List R5)(out:Array R5)(na nb:Nat):Prop:=
 MG (QM kv) T out.toList (a.extract 0 na).toList.reverse (b.extract 0 nb).toList.reverse
theorem ir{p:R5}(h:a[i]?=some p):kA kv a i=kv p:=by
 unfold kA;rw[h];rfl
theorem gT{i' j':Nat}(hc:∀x y,i<=x->x<j->i'<=y->y<j'->kA kv a x<=kA kv b y){p q:R5}(hp:p∈(a.extract i j).toList)(hq:q∈(b.extract i' j').toList):kv p<=kv q:=by
 refine bM (wI hp) λx yQ Ao ex=>?_;refine bM (wI hq) λy Mu LF ey=>?_;rw[<-ir (kv:=kv) ex,<-ir (kv:=kv) ey];exact hc x y yQ Ao Mu LF
theorem jc(h:bl kv a 0 a.size):a.toList.Pairwise (Dw kv):=by
 refine VI.mpr λi j hi hj FR=>?_;have e:=h i j (RU _) (RS FR) hj;rw[ir (Ua hi),ir (Ua hj)]at e;exact e
section
variable{ia ib k:Nat}
theorem lD.symm(h:lD kv a b T out ia ib):lD kv b a T out ib ia:=MG.symm h
theorem lD.move(h:lD kv a b T out ia ib)(hk:ia+k<=a.size)(hc:∀i j,ia<=i->i<ia+k->ib<=j->j<b.size->kA kv a i<=kA kv b j):
  lD kv a b T (out++a.extract ia (ia+k)) (ia+k) ib:=by
 unfold lD at h⊢;rw[dA (Sh ia k) hk]at h;rw[TP];exact h.move λp hp y hy=>gT hc hp hy
theorem lD.fin(h:lD kv a b T out ia ib)(hc:∀j i,ib<=j->j<b.size->ia<=i->i<a.size->kA kv b j<=kA kv a i):
  eE kv T (out++b.extract ib b.size++a.extract ia a.size):=by
 unfold eE;rw[TP,TP];exact MG.fin h λy hy x hx=>gT hc hy hx
end
section
variable{na nb m:Nat}
theorem mI.symm(h:mI kv a b T out na nb):mI kv b a T out nb na:=MG.symm h
theorem mI.move(h:mI kv a b T out na nb)(hk:m<=na)(hc:∀j i,0<=j->j<nb->m<=i->i<na->kA kv b j<=kA kv a i):
  mI kv a b T (out++(a.extract m na).reverse) m nb:=by
 unfold mI at h⊢;rw[dA (RU m) hk,Wm]at h;rw[TP,XB];exact h.move λp hp y hy=>gT hc (VY.mp hy) (VY.mp hp)
theorem mI.fin(h:mI kv a b T out na nb)(hc:∀i j,0<=i->i<na->0<=j->j<nb->kA kv a i<=kA kv b j):
  eE kv T (a.extract 0 na++b.extract 0 nb++out.reverse):=by
 have h2:=MG.fin h λy hy x hx=>(gT hc (VY.mp hx) (VY.mp hy):_);have e:(a.extract 0 na++b.extract 0 nb++out.reverse).toList=(out.toList++(b.extract 0 nb).toList.reverse++(a.extract 0 na).toList.reverse).reverse:=by
  rw[TP,TP,XB,Wm,Wm,XI,XI,Sq]
 unfold eE;rw[e];exact⟨V8.mpr h2.1,(WE _).trans h2.2⟩
end
end
section
variable{s:Ro}{σ:Type}{m1 m2:StateT σ Sem α}{st:σ}{Q:α->σ->Prop}
theorem bt[Decidable c](h1:c->wpS M A E s m1 Q st)(h2: ¬c->wpS M A E s m2 Q st):wpS M A E s (if c then m1 else m2) Q st:=by
 by_cases h:c
 ·rw[if_pos h];exact h1 h
 ·rw[if_neg h];exact h2 h
theorem bJ{x y:Nat}(h1:x=y->wpS M A E s m1 Q st)(h2:x≠y->wpS M A E s m2 Q st):wpS M A E s (if(x==y)=true then m1 else m2) Q st:=
 bt (λh=>h1 (beq_iff_eq.mp h)) λh=>h2 λe=>h (beq_iff_eq.mpr e)
end
noncomputable abbrev SRun:=StateT SortSt Sem
noncomputable abbrev L0:=Option (Array R5)×Array R5×Nat×Nat×Nat
noncomputable abbrev L1:=Option (Array R5)×Array R5×Nat×Nat×Nat×Nat
noncomputable abbrev L2:=Option (Array R5)×Array R5×Nat×Nat×Nat×Nat×Nat
noncomputable abbrev dJ(a b out:Array R5)(ia ib:Nat):Array R5:=out++a.extract ia a.size++b.extract ib b.size
noncomputable def uH(a b:Array R5)(mg:Nat)(out:Array R5)(ia ib ac bc:Nat):SRun (ForInStep L1):=do
 let some G' ←lt' (←elem' b ib) (←elem' a ia)|pure (.done (some (dJ a b out ia ib),out,ia,ib,ac,bc))
 if G' then do
  let out:=out.push (←elem' b ib)
  if ib+1==b.size then pure (.done (some (dJ a b out ia (ib+1)),out,ia,ib+1,0,bc+1))
  else if bc+1≥mg then pure (.done (none,out,ia,ib+1,0,bc+1))else pure (.yield (none,out,ia,ib+1,0,bc+1))
 else do
  let out:=out.push (←elem' a ia)
  if ia+1+1==a.size then pure (.done (some (dJ b a out ib (ia+1)),out,ia+1,ib,ac+1,0))
  else if ac+1≥mg then pure (.done (none,out,ia+1,ib,ac+1,0))else pure (.yield (none,out,ia+1,ib,ac+1,0))
noncomputable def qn(a b:Array R5)(mg ac bc:Nat)(out:Array R5)(ia ib:Nat):SRun (ForInStep L2):=do
 let out:=out.push (←elem' a ia)
 if ia+1+1==a.size then pure (.done (some (dJ b a out ib (ia+1)),out,ia+1,ib,mg,ac,bc))
 else if ac<7&&bc<7 then pure (.done (none,out,ia+1,ib,mg,ac,bc))else pure (.yield (none,out,ia+1,ib,mg,ac,bc))
noncomputable def qy(a b:Array R5)(mg ac bc:Nat)(out:Array R5)(ia ib:Nat):SRun (ForInStep L2):=do
 let out:=out.push (←elem' b ib)
 if ib+1==b.size then pure (.done (some (dJ a b out ia (ib+1)),out,ia,ib+1,mg,ac,bc))else do
 let some k ←gm true (←elem' a ia) b (ib+1) (b.size - (ib+1)) 0|pure (.done (some (dJ a b out ia (ib+1)),out,ia,ib+1,mg,ac,bc))
 if k>0 then
  if ib+1+k==b.size then pure (.done (some (dJ a b (out++b.extract (ib+1) (ib+1+k)) ia (ib+1+k)),out++b.extract (ib+1) (ib+1+k),ia,ib+1+k,mg,ac,k))
  else qn a b mg ac k (out++b.extract (ib+1) (ib+1+k)) ia (ib+1+k)
 else qn a b mg ac k out ia (ib+1)
noncomputable def xk(a b:Array R5)(ac bc:Nat)(out:Array R5)(ia ib mg:Nat):SRun (ForInStep L2):=do
 cF mg
 let some k ←gm false (←elem' b ib) a ia (a.size - ia) 0|pure (.done (some (dJ a b out ia ib),out,ia,ib,mg,ac,bc))
 if k>0 then
  if ia+k+1==a.size then pure (.done (some (dJ b a (out++a.extract ia (ia+k)) ib (ia+k)),out++a.extract ia (ia+k),ia+k,ib,mg,k,bc))
  else if ia+k==a.size then pure (.done (some (dJ a b (out++a.extract ia (ia+k)) (ia+k) ib),out++a.extract ia (ia+k),ia+k,ib,mg,k,bc))
  else qy a b mg k bc (out++a.extract ia (ia+k)) (ia+k) ib
 else qy a b mg k bc out ia ib
noncomputable def rB(a b out:Array R5)(ia ib mg:Nat):SRun (ForInStep L0):=do
 let c ←forIn [:a.size+b.size] (none,out,ia,ib,0,0) λω c=>uH a b mg c.2.1 c.2.2.1 c.2.2.2.1 c.2.2.2.2.1 c.2.2.2.2.2
 SE (motive:=λω=>SRun (ForInStep L0)) c.1 (λr=>pure (.done (some r,c.2.1,c.2.2.1,c.2.2.2.1,mg))) λω=>do
  rule "list.sort.gallop"
  let c ←forIn [:a.size+b.size] (none,c.2.1,c.2.2.1,c.2.2.2.1,mg+1,c.2.2.2.2.1,c.2.2.2.2.2) λω c=>
   if c.2.2.2.2.1>1 then xk a b c.2.2.2.2.2.1 c.2.2.2.2.2.2 c.2.1 c.2.2.1 c.2.2.2.1 (c.2.2.2.2.1 - 1)else xk a b c.2.2.2.2.2.1 c.2.2.2.2.2.2 c.2.1 c.2.2.1 c.2.2.2.1 c.2.2.2.2.1
  SE (motive:=λω=>SRun (ForInStep L0)) c.1 (λr=>pure (.done (some r,c.2.1,c.2.2.1,c.2.2.2.1,c.2.2.2.2.1))) λω=>do
   cF (c.2.2.2.2.1+1)
   pure (.yield (none,c.2.1,c.2.2.1,c.2.2.2.1,c.2.2.2.2.1+1))
noncomputable def m5:Array R5->Array R5->SRun (Array R5):=sortPriv% PySem.Builtin.mergeLo
theorem tD(a b:Array R5):m5 a b=(do
 rule "list.sort.merge-lo"
 let out:=#[<-elem' b 0]
 if 1==b.size then pure (dJ a b out 0 1)
 else if 0+1==a.size then pure (dJ b a out 1 0)
 else do
  let mg:=gallopOf (←get)
  let c ←forIn [:a.size+b.size] (none,out,0,1,mg) λω c=>rB a b c.2.1 c.2.2.1 c.2.2.2.1 c.2.2.2.2
  SE (motive:=λω=>SRun (Array R5)) c.1 (λr=>pure r) λω=>unsupported "internal:list.sort.merge-bound"):=rfl
noncomputable def ct(st st':SortSt):Prop:=∃g,st'=Wu (kindOf st) (arrOf st) (pendingOf st) g (failedOf st)
theorem ct.refl(st:SortSt):ct st st:=⟨gallopOf st,rfl⟩
theorem ct.trans{a b c:SortSt}(h:ct a b)(h2:ct b c):ct a c:=by
 refine oE h λg zr=>?_;clear h;subst zr;refine oE h2 λg2 zr=>?_;clear h2;subst zr;exact⟨g2,rfl⟩
theorem ct.kind{a b:SortSt}(h:ct a b):kindOf b=kindOf a:=by
 refine oE h λg zr=>?_;clear h;subst zr;rfl
theorem jX{s:Ro}{g:Nat}{st:SortSt}{Q:Unit->SortSt->Prop}(h:∀st',ct st st'->Q () st'):
  wpS M A E s (cF g) Q st:=by
 rw[lF];exact VD (h _ ⟨g,rfl⟩)
section
variable{prog:Sw}{w:TG}{s:Ro}{G:R5->Prop}
variable{a b out:Array R5}{T:List R5}{ia ib mg ac bc:Nat}{st:SortSt}
structure DV(kv:R5->Int)(G:R5->Prop)(a b:Array R5):Prop where
 ga:GA G a
 gb:GA G b
 sa:bl kv a 0 a.size
 sb:bl kv b 0 b.size
 last:∀j,j<b.size->kA kv b j<=kA kv a (a.size - 1)
noncomputable def wd(kv:R5->Int)(a b:Array R5)(T:List R5)(out:Array R5)(ia ib:Nat):Prop:=lD kv a b T out ia ib/\ia+1<a.size/\ib<b.size
theorem lD.all(h:lD kv a b T out ia b.size):eE kv T (dJ a b out ia b.size):=
 h.symm.fin λj i ω ω h1 h2=>absurd h2 (SV.mpr h1)
theorem lD.t9(hC:DV kv G a b)(h:lD kv a b T out ia ib)(e:ia+1=a.size):eE kv T (dJ b a out ib ia):=
 h.fin λj i ω hj h1 h2=>by
  have e2:i=a.size - 1:=by
   rw[<-e]at h2⊢;exact Sa (Sy h2) h1
  rw[e2];exact hC.last j hj
theorem lD.push{p:R5}(sb:bl kv b 0 b.size)(h:lD kv a b T out ia ib)(ha:ia<a.size)(e:a[ia]?=some p)(hle:ib<b.size->kA kv a ia<=kA kv b ib):
  lD kv a b T (out.push p) (ia+1) ib:=by
 rw[th e];refine h.move ha λi j Lu K' BB D8=>?_;have e2:=Sa (Sy K') Lu;rw[e2];exact SX (hle (RJ BB D8)) (sb ib j (RU _) BB D8)
theorem uB(hL:dk prog w A s κ G kv)(hC:DV kv G a b)(hk:kindOf st=κ)(hI:wd kv a b T out ia ib){R:ForInStep L1->SortSt->Prop}
  (hd:∀r c,eE kv T r->R (.done (some r,c)) st)
  (hn:∀o x y ac bc,wd kv a b T o x y->ia+ib<x+y->R (.done (none,o,x,y,ac,bc)) st/\R (.yield (none,o,x,y,ac,bc)) st):
  wpS (RF prog w) A E s (uH a b mg out ia ib ac bc) R st:=by
 refine dd hI λhM ha hb=>?_;clear hI;have k9:=SH ha;refine bM (hC.gb.at (kv:=kv) hb) λq eq gq kq=>?_;refine bM (hC.ga.at (kv:=kv) k9) λp ep gp kp=>?_;unfold uH;refine RP (a6 eq (RP (a6 ep (RP (nC hL hk gq gp ?_)))));rw[<-kq,<-kp];refine bt (λhlt=>?_) λhlt=>?_
 ·have lg:=(lD.push hC.sa hM.symm hb eq λω=>TM (of_decide_eq_true hlt)).symm;refine RP (a6 eq (bJ (λe=>?_) λe=>?_))
  ·rw[e]at lg⊢;exact R2 (hd _ _ lg.all)
  ·have hR:=λac bc=>hn _ _ _ ac bc ⟨lg,ha,Sp hb e⟩ (TZ _);exact bt (λω=>R2 (hR _ _).1) λω=>R2 (hR _ _).2
 ·have lg:=lD.push hC.sb hM k9 ep λω=>Uk.mp λh=>hlt (decide_eq_true h);refine RP (a6 ep (bJ (λe=>?_) λe=>?_))
  ·exact R2 (hd _ _ (lg.t9 hC e))
  ·have hR:=λac bc=>hn _ _ _ ac bc ⟨lg,Sp ha e,hb⟩ (Vq (TZ _) _);exact bt (λω=>R2 (hR _ _).1) λω=>R2 (hR _ _).2
theorem oy(hC:DV kv G a b)(hM:lD kv a b T out ia ib)(ha:ia+1<a.size)(hb:ib<b.size)(hle:kA kv a ia<=kA kv b ib){m:Nat}(hm:m<=ia+ib){R:ForInStep L2->SortSt->Prop}
  (hd:∀r c,eE kv T r->R (.done (some r,c)) st)
  (hn:∀o x y mg ac bc,wd kv a b T o x y->m<x+y->R (.done (none,o,x,y,mg,ac,bc)) st/\R (.yield (none,o,x,y,mg,ac,bc)) st):
  wpS (RF prog w) A E s (qn a b mg ac bc out ia ib) R st:=by
 have k9:=SH ha;refine bM (hC.ga.at (kv:=kv) k9) λp ep gp kp=>?_;have lg:=lD.push hC.sb hM k9 ep λω=>hle;unfold qn;refine RP (a6 ep (bJ (λe=>?_) λe=>?_))
 ·exact R2 (hd _ _ (lg.t9 hC e))
 ·have hR:=λmg ac bc=>hn _ _ _ mg ac bc ⟨lg,Sp ha e,hb⟩ (RJ hm (Vq (TZ _) _));exact bt (λω=>R2 (hR _ _ _).1) λω=>R2 (hR _ _ _).2
theorem nZ(hL:dk prog w A s κ G kv)(hC:DV kv G a b)(hk:kindOf st=κ)(hM:lD kv a b T out ia ib)(ha:ia+1<a.size)(hb:ib<b.size)(hle:kA kv b ib<=kA kv a ia)
  {m:Nat} (hm:m<=ia+ib) {R:ForInStep L2->SortSt->Prop}
  (hd:∀r c,eE kv T r->R (.done (some r,c)) st)
  (hn:∀o x y mg ac bc,wd kv a b T o x y->m<x+y->R (.done (none,o,x,y,mg,ac,bc)) st/\R (.yield (none,o,x,y,mg,ac,bc)) st):
  wpS (RF prog w) A E s (qy a b mg ac bc out ia ib) R st:=by
 have k9:=SH ha;refine bM (hC.gb.at (kv:=kv) hb) λq eq gq kq=>?_;refine bM (hC.ga.at (kv:=kv) k9) λp ep gp kp=>?_;have lg:=(lD.push hC.sa hM.symm hb eq λω=>hle).symm;unfold qy;refine RP (a6 eq (bJ (λe=>?_) λe=>?_))
 ·rw[e]at lg⊢;exact R2 (hd _ _ lg.all)
 ·have iG:=Sp hb e;have es:ib+1+(b.size - (ib+1))=b.size:=Th hb;refine RP (a6 ep (RP (eD hL hk gp hC.gb (UI es) (UL iG) (by rw[es];exact λp q ω h1 h2=>hC.sb p q (RU _) h1 h2) λk mY h1 h2=>?_)));rw[<-kp]at h1 h2;rw[es]at h2;have iy:∀i,ib+1+k<=i->i<b.size->kA kv a ia<=kA kv b i:=λi x y=>Uk.mp (of_decide_eq_false (h2 i x y));have I4:ib+1+k<=b.size:=by rw[<-es];exact Se mY _
  have iA:m<=ia+(ib+1):=Tc hm;refine bt (λlH=>?_) λlH=>?_
  ·have sC:=(lg.symm.move I4 λi j x y u v=>SX (TM (of_decide_eq_true (h1 i x y))) (hC.sa ia j (RU _) u v)).symm;refine bJ (λe=>?_) λe=>?_
   ·rw[e]at sC⊢;exact R2 (hd _ _ sC.all)
   ·have uw:=Sp I4 e;exact oy hC sC ha uw (iy _ (Rx _) uw) (Rk iA (Se (Sh _ _) _)) hd hn
  ·rw[Vc lH]at iy;exact oy hC lg ha iG (iy _ (Rx _) iG) iA hd hn
theorem xF(hL:dk prog w A s κ G kv)(hC:DV kv G a b)(hk:kindOf st=κ)(hI:wd kv a b T out ia ib){R:ForInStep L2->SortSt->Prop}
  (hd:∀r c st',ct st st'->eE kv T r->R (.done (some r,c)) st')
  (hn:∀o x y mg ac bc st',ct st st'->wd kv a b T o x y->ia+ib<x+y->R (.done (none,o,x,y,mg,ac,bc)) st'/\R (.yield (none,o,x,y,mg,ac,bc)) st'):
  wpS (RF prog w) A E s (xk a b ac bc out ia ib mg) R st:=by
 refine dd hI λhM ha hb=>?_;clear hI;have k9:=SH ha;refine bM (hC.gb.at (kv:=kv) hb) λq eq gq kq=>?_;unfold xk;refine RP (jX λst' hS=>?_);have jT:=hS.kind.trans hk;have es:ia+(a.size - ia)=a.size:=Th (RS k9);refine RP (a6 eq (RP (eD hL jT gq hC.ga (UI es) (UL k9) (by rw[es];exact λp q ω h1 h2=>hC.sa p q (RU _) h1 h2) λk mY h1 h2=>?_)));rw[<-kq]at h1 h2;rw[es]at h2;have iy:∀i,ia+k<=i->i<a.size->kA kv b ib<=kA kv a i:=λi x y=>TM (Xt.mp (of_decide_eq_false (h2 i x y)));have Ce:ia+k<=a.size:=by rw[<-es];exact Se mY _
 refine bt (λlH=>?_) λlH=>?_
 ·have sC:=hM.move Ce λi j x y u v=>SX (of_decide_eq_true (h1 i x y)) (hC.sb ib j (RU _) u v);refine bJ (λe=>R2 (hd _ _ _ hS (sC.t9 hC e))) λe=>bJ (λe2=>?_) λe2=>?_
  ·refine R2 (hd _ _ _ hS ?_);rw[e2]at sC⊢;exact sC.symm.fin λj i h1 h2 ω ω=>absurd h2 (SV.mpr h1)
  ·have NW:=Sp Ce e2;exact nZ hL hC jT sC (Sp NW e) hb (iy _ (Rx _) NW) (Rx _) (λr c=>hd r c _ hS) λo x y mg ac bc hI hm=>hn o x y mg ac bc _ hS hI (RJ (Tf (Sh _ _) _) hm)
 ·rw[Vc lH]at iy;exact nZ hL hC jT hM ha hb (iy _ (Rx _) k9) (Rx _) (λr c=>hd r c _ hS) λo x y mg ac bc=>hn o x y mg ac bc _ hS
end
section
variable{prog:Sw}{w:TG}{s:Ro}{G:R5->Prop}
variable{a b out:Array R5}{T:List R5}{ia ib mg ac bc:Nat}{st:SortSt}
theorem wd.pos{x y:Nat}(h:wd kv a b T out x y):x+y<a.size+b.size:=Nat.add_lt_add (SH h.2.1) h.2.2
noncomputable def L4(kv:R5->Int)(a b:Array R5)(T:List R5)(st:SortSt)(m:Nat)(c0:Option (Array R5))(out:Array R5)(x y:Nat)(st':SortSt):Prop:=
 ct st st'/\((∃r,c0=some r/\eE kv T r)\/(c0=none/\wd kv a b T out x y/\m<x+y))
noncomputable def FP(kv:R5->Int)(a b:Array R5)(T:List R5)(st:SortSt)(m:Nat)(c0:Option (Array R5))(out:Array R5)(x y:Nat)(st':SortSt):Prop:=
 ct st st'/\c0=none/\wd kv a b T out x y/\m<=x+y
theorem FP.end{m:Nat}{c0:Option (Array R5)}{x y:Nat}{st':SortSt}{P:Prop}(h:FP kv a b T st m c0 out x y st')(h0:a.size+b.size - (x+y)=0):P:=
 absurd h.2.2.1.pos (SV.mpr (Tp h0))
theorem wd.less{x y x' y':Nat}(h:wd kv a b T out x y)(hm:x+y<x'+y'):a.size+b.size - (x'+y')<a.size+b.size - (x+y):=Uo h.pos hm
theorem ui(hL:dk prog w A s κ G kv)(hC:DV kv G a b)(hk:kindOf st=κ)(hI:wd kv a b T out ia ib){R:ForInStep L0->SortSt->Prop}
  (hd:∀r c st',ct st st'->eE kv T r->R (.done (some r,c)) st')
  (hn:∀o x y mg st',ct st st'->wd kv a b T o x y->ia+ib<x+y->R (.yield (none,o,x,y,mg)) st'):
  wpS (RF prog w) A E s (rB a b out ia ib mg) R st:=by
 unfold rB;refine RP (Vd (di (λc=>a.size+b.size - (c.2.2.1+c.2.2.2.1)) (λc=>FP kv a b T st (ia+ib) c.1 c.2.1 c.2.2.1 c.2.2.2.1)
  (Q:=λc=>L4 kv a b T st (ia+ib) c.1 c.2.1 c.2.2.1 c.2.2.2.1) ⟨.refl _,rfl,hI,Rx _⟩ (SK _ _) (λc st' h h0=>h.end h0) ?_) ?_)
 ·intro i c st' h;refine uB hL hC (h.1.kind.trans hk) h.2.2.1 (λr c hr=>⟨h.1,.inl ⟨r,rfl,hr⟩⟩) λo x y ac bc sX hm=>?_;have fS:=RJ h.2.2.2 hm;exact⟨⟨h.1,.inr ⟨rfl,sX,fS⟩⟩,⟨h.1,rfl,sX,RS fS⟩,h.2.2.1.less hm⟩
 ·rintro⟨c0,o1,x1,y1,ac,bc⟩ Fo ⟨hS,⟨r,(rfl:c0=some r),hr⟩|⟨(rfl:c0=none),Jm,je⟩⟩
  ·exact R2 (hd _ _ _ hS hr)
  ·refine RP (WS (VE ⟨rfl,?_⟩));refine RP (Vd (di (λc=>a.size+b.size - (c.2.2.1+c.2.2.2.1)) (λc=>FP kv a b T st (ia+ib+1) c.1 c.2.1 c.2.2.1 c.2.2.2.1)
    (Q:=λc=>L4 kv a b T st (ia+ib) c.1 c.2.1 c.2.2.1 c.2.2.2.1) ⟨hS,rfl,Jm,je⟩ (SK _ _) (λc st' h h0=>h.end h0) ?_) ?_)
   ·intro i c st' h;have hg:=λmg=>xF (mg:=mg) (ac:=c.2.2.2.2.2.1) (bc:=c.2.2.2.2.2.2) (E:=E) hL hC (h.1.kind.trans hk) h.2.2.1 (R:=Ld (λc=>a.size+b.size - (c.2.2.1+c.2.2.2.1)) (λc=>FP kv a b T st (ia+ib+1) c.1 c.2.1 c.2.2.1 c.2.2.2.1) (λc=>L4 kv a b T st (ia+ib) c.1 c.2.1 c.2.2.1 c.2.2.2.1) c)
     (λr c qQ mQ hr=>⟨h.1.trans mQ,.inl ⟨r,rfl,hr⟩⟩) λo x y mg ac bc qQ mQ sX hm=>by
      have fS:=RJ h.2.2.2 hm;exact⟨⟨h.1.trans mQ,.inr ⟨rfl,sX,SH fS⟩⟩,⟨h.1.trans mQ,rfl,sX,RS fS⟩,h.2.2.1.less hm⟩
    exact bt (λω=>hg _) λω=>hg _
   ·rintro⟨c0,o2,x2,y2,mg,c⟩ qQ ⟨mQ,⟨r,(rfl:c0=some r),hr⟩|⟨(rfl:c0=none),sX,fS⟩⟩
    ·exact R2 (hd _ _ _ mQ hr)
    ·exact RP (jX λKu Ls=>R2 (hn _ _ _ _ _ (mQ.trans Ls) sX fS))
theorem uc(hL:dk prog w A s κ G kv)(hC:DV kv G a b)(hk:kindOf st=κ)(ha:0<a.size)(hb:0<b.size)(h0:kA kv b 0<=kA kv a 0){Q:Array R5->SortSt->Prop}
  (h:∀r st',ct st st'->eE kv (a.toList++b.toList) r->Q r st'):wpS (RF prog w) A E s (m5 a b) Q st:=by
 rw[tD];refine bM (hC.gb.at (kv:=kv) hb) λq eq gq kq=>?_;have Mc:lD kv a b (a.toList++b.toList) #[] 0 0:=by
  have ea:a.extract 0 a.size=a:=UY;have eb:b.extract 0 b.size=b:=UY;unfold lD;rw[ea,eb];exact⟨jc hC.sa,jc hC.sb,List.Perm.refl _⟩
 have hM:lD kv a b (a.toList++b.toList) #[q] 0 1:=(lD.push hC.sa Mc.symm hb eq λω=>h0).symm;refine RP (WS (VE ⟨rfl,?_⟩));refine RP (a6 eq (bJ (λe=>?_) λe=>bJ (λe2=>?_) λe2=>?_))
 ·rw[e]at hM⊢;exact R2 (h _ _ (.refl _) hM.all)
 ·exact R2 (h _ _ (.refl _) (hM.t9 hC e2))
 ·refine RP (Wq ?_);refine RP (Vd (di (λc=>a.size+b.size - (c.2.2.1+c.2.2.2.1)) (λc=>FP kv a b (a.toList++b.toList) st 0 c.1 c.2.1 c.2.2.1 c.2.2.2.1)
   (Q:=λc st'=>ct st st'/\∃r,c.1=some r/\eE kv (a.toList++b.toList) r) ⟨.refl _,rfl,⟨hM,Sp ha e2,Sp hb e⟩,RU _⟩ (SK _ _) (λc st' h h0=>h.end h0) ?_) ?_)
  ·intro i c st' h;refine ui hL hC (h.1.kind.trans hk) h.2.2.1 (λr c qQ hS hr=>⟨h.1.trans hS,r,rfl,hr⟩) λo x y mg qQ hS hI hm=>?_;exact⟨⟨h.1.trans hS,rfl,hI,RU _⟩,h.2.2.1.less hm⟩
  ·rintro⟨c0,c⟩ st' ⟨hS,r,(rfl:c0=some r),hr⟩;exact R2 (h r st' hS hr)
end
noncomputable abbrev H0:=Option (Array R5)×Nat×Nat×Array R5×Nat
noncomputable abbrev H1:=Option (Array R5)×Nat×Nat×Array R5×Nat×Nat
noncomputable abbrev H2:=Option (Array R5)×Nat×Nat×Array R5×Nat×Nat×Nat
noncomputable abbrev dK(a b out:Array R5)(na nb:Nat):Array R5:=a.extract 0 na++b.extract 0 nb++out.reverse
noncomputable def vh(a b:Array R5)(mg na nb:Nat)(out:Array R5)(ac bc:Nat):SRun (ForInStep H1):=do
 let some G7 ←lt' (←elem' b (nb - 1)) (←elem' a (na - 1))|pure (.done (some (dK a b out na nb),na,nb,out,ac,bc))
 if G7 then do
  let out:=out.push (←elem' a (na - 1))
  if na - 1==0 then pure (.done (some (dK a b out (na - 1) nb),na - 1,nb,out,ac+1,0))
  else if ac+1≥mg then pure (.done (none,na - 1,nb,out,ac+1,0))else pure (.yield (none,na - 1,nb,out,ac+1,0))
 else do
  let out:=out.push (←elem' b (nb - 1))
  if nb - 1==1 then pure (.done (some (dK b a out (nb - 1) na),na,nb - 1,out,0,bc+1))
  else if bc+1≥mg then pure (.done (none,na,nb - 1,out,0,bc+1))else pure (.yield (none,na,nb - 1,out,0,bc+1))
noncomputable def qk(a b:Array R5)(mg ac bc na nb:Nat)(out:Array R5):SRun (ForInStep H2):=do
 let out:=out.push (←elem' a (na - 1))
 if na - 1==0 then pure (.done (some (dK a b out (na - 1) nb),na - 1,nb,out,mg,ac,bc))
 else if ac<7&&bc<7 then pure (.done (none,na - 1,nb,out,mg,ac,bc))else pure (.yield (none,na - 1,nb,out,mg,ac,bc))
noncomputable def qx(a b:Array R5)(mg ac bc na nb:Nat)(out:Array R5):SRun (ForInStep H2):=do
 let out:=out.push (←elem' b (nb - 1))
 if nb - 1==1 then pure (.done (some (dK b a out (nb - 1) na),na,nb - 1,out,mg,ac,bc))else do
 let some k ←gm true (←elem' a (na - 1)) b 0 (nb - 1) (nb - 1 - 1)|pure (.done (some (dK a b out na (nb - 1)),na,nb - 1,out,mg,ac,bc))
 if nb - 1 - k>0 then
  if k==1 then pure (.done (some (dK b a (out++(b.extract k (nb - 1)).reverse) k na),na,k,out++(b.extract k (nb - 1)).reverse,mg,ac,nb - 1 - k))
  else if k==0 then pure (.done (some (dK a b (out++(b.extract k (nb - 1)).reverse) na k),na,k,out++(b.extract k (nb - 1)).reverse,mg,ac,nb - 1 - k))
  else qk a b mg ac (nb - 1 - k) na k (out++(b.extract k (nb - 1)).reverse)
 else qk a b mg ac (nb - 1 - k) na (nb - 1) out
noncomputable def wH(a b:Array R5)(ac bc na nb:Nat)(out:Array R5)(mg:Nat):SRun (ForInStep H2):=do
 cF mg
 let some k ←gm false (←elem' b (nb - 1)) a 0 na (na - 1)|pure (.done (some (dK a b out na nb),na,nb,out,mg,ac,bc))
 if na - k>0 then
  if k==0 then pure (.done (some (dK a b (out++(a.extract k na).reverse) k nb),k,nb,out++(a.extract k na).reverse,mg,na - k,bc))
  else qx a b mg (na - k) bc k nb (out++(a.extract k na).reverse)
 else qx a b mg (na - k) bc na nb out
noncomputable def rC(a b:Array R5)(na nb:Nat)(out:Array R5)(mg:Nat):SRun (ForInStep H0):=do
 let c ←forIn [:a.size+b.size] (none,na,nb,out,0,0) λω c=>vh a b mg c.2.1 c.2.2.1 c.2.2.2.1 c.2.2.2.2.1 c.2.2.2.2.2
 SE (motive:=λω=>SRun (ForInStep H0)) c.1 (λr=>pure (.done (some r,c.2.1,c.2.2.1,c.2.2.2.1,mg))) λω=>do
  rule "list.sort.gallop"
  let c ←forIn [:a.size+b.size] (none,c.2.1,c.2.2.1,c.2.2.2.1,mg+1,c.2.2.2.2.1,c.2.2.2.2.2) λω c=>
   if c.2.2.2.2.1>1 then wH a b c.2.2.2.2.2.1 c.2.2.2.2.2.2 c.2.1 c.2.2.1 c.2.2.2.1 (c.2.2.2.2.1 - 1)else wH a b c.2.2.2.2.2.1 c.2.2.2.2.2.2 c.2.1 c.2.2.1 c.2.2.2.1 c.2.2.2.2.1
  SE (motive:=λω=>SRun (ForInStep H0)) c.1 (λr=>pure (.done (some r,c.2.1,c.2.2.1,c.2.2.2.1,c.2.2.2.2.1))) λω=>do
   cF (c.2.2.2.2.1+1)
   pure (.yield (none,c.2.1,c.2.2.1,c.2.2.2.1,c.2.2.2.2.1+1))
noncomputable def mO:Array R5->Array R5->SRun (Array R5):=sortPriv% PySem.Builtin.mergeHi
theorem tP(a b:Array R5):mO a b=(do
 rule "list.sort.merge-hi"
 let out:=#[<-elem' a (a.size - 1)]
 if a.size - 1==0 then pure (dK a b out (a.size - 1) b.size)
 else if b.size==1 then pure (dK b a out b.size (a.size - 1))
 else do
  let mg:=gallopOf (←get)
  let c ←forIn [:a.size+b.size] (none,a.size - 1,b.size,out,mg) λω c=>rC a b c.2.1 c.2.2.1 c.2.2.2.1 c.2.2.2.2
  SE (motive:=λω=>SRun (Array R5)) c.1 (λr=>pure r) λω=>unsupported "internal:list.sort.merge-bound"):=rfl
section
variable{prog:Sw}{w:TG}{s:Ro}{G:R5->Prop}
variable{a b out:Array R5}{T:List R5}{na nb mg ac bc:Nat}{st:SortSt}
structure DO(kv:R5->Int)(G:R5->Prop)(a b:Array R5):Prop where
 ga:GA G a
 gb:GA G b
 sa:bl kv a 0 a.size
 sb:bl kv b 0 b.size
 first:∀i,i<a.size->kA kv b 0<=kA kv a i
structure vL(kv:R5->Int)(a b:Array R5)(T:List R5)(out:Array R5)(na nb:Nat):Prop where
 m:mI kv a b T out na nb
 pa:0<na
 pb:1<nb
 la:na<=a.size
 lb:nb<=b.size
theorem aN{n k:Nat}(h:0<n)(h2:n<=k):n - 1<k:=Ru (Yk h XW) h2
theorem mI.all(h:mI kv a b T out na nb)(e:na=0\/nb=0):eE kv T (dK a b out na nb):=
 h.fin λi j ω hi ω hj=>by
  rcases e with rfl|rfl
  ·exact absurd hi (Ui _)
  ·exact absurd hj (Ui _)
theorem mI.nE(hC:DO kv G a b)(h:mI kv a b T out na nb)(la:na<=a.size)(e:nb=1):eE kv T (dK b a out nb na):=
 h.symm.fin λj i ω hj ω hi=>by
  rw[e]at hj;rw[YT.mp hj];exact hC.first i (Ru hi la)
theorem mI.push{p:R5}(sb:bl kv b 0 b.size)(h:mI kv a b T out na nb)(pa:0<na)(lb:nb<=b.size)(e:a[na - 1]?=some p)(hle:kA kv b (nb - 1)<=kA kv a (na - 1)):
  mI kv a b T (out.push p) (na - 1) nb:=by
 have e1:na - 1+1=na:=WB pa;have e2:out.push p=out++(a.extract (na - 1) na).reverse:=by
  have e3:=th (out:=#[]) e;rw[e1,Array.empty_append]at e3;rw[<-e3];rfl
 rw[e2];refine h.move (SK _ _) λj i ω hj Lu K'=>?_;have e4:i=na - 1:=Sa (Sd K') Lu;rw[e4];exact SX (sb j (nb - 1) (RU _) (Sd hj) (aN (RJ (RU _) hj) lb)) hle
theorem vd(hL:dk prog w A s κ G kv)(hC:DO kv G a b)(hk:kindOf st=κ)(hI:vL kv a b T out na nb){R:ForInStep H1->SortSt->Prop}
  (hd:∀r c,eE kv T r->R (.done (some r,c)) st)
  (hn:∀x y o ac bc,vL kv a b T o x y->x+y<na+nb->R (.done (none,x,y,o,ac,bc)) st/\R (.yield (none,x,y,o,ac,bc)) st):
  wpS (RF prog w) A E s (vh a b mg na nb out ac bc) R st:=by
 obtain⟨hM,pa,pb,la,lb⟩:=hI;have AI:=SH pb;refine bM (hC.gb.at (kv:=kv) (aN AI lb)) λq eq gq kq=>?_;refine bM (hC.ga.at (kv:=kv) (aN pa la)) λp ep gp kp=>?_;unfold vh;refine RP (a6 eq (RP (a6 ep (RP (nC hL hk gq gp ?_)))));rw[<-kq,<-kp];refine bt (λhlt=>?_) λhlt=>?_
 ·have lg:=mI.push hC.sb hM pa lb ep (TM (of_decide_eq_true hlt));refine RP (a6 ep (bJ (λe=>R2 (hd _ _ (lg.all (.inl e)))) λe=>?_));have hR:=λac bc=>hn _ _ _ ac bc ⟨lg,Uw e,pb,RS (aN pa la),lb⟩ (Vq (aN pa (Rx _)) _);exact bt (λω=>R2 (hR _ _).1) λω=>R2 (hR _ _).2
 ·have lg:=(mI.push hC.sa hM.symm AI la eq (Uk.mp λh=>hlt (decide_eq_true h))).symm;refine RP (a6 eq (bJ (λe=>R2 (hd _ _ (lg.nE hC la e))) λe=>?_));have hR:=λac bc=>hn _ _ _ ac bc ⟨lg,pa,Sp (Sd pb) (Td e),la,RS (aN AI lb)⟩ (SD (aN AI (Rx _)) _);exact bt (λω=>R2 (hR _ _).1) λω=>R2 (hR _ _).2
theorem og(hC:DO kv G a b)(hI:vL kv a b T out na nb)(hle:kA kv b (nb - 1)<=kA kv a (na - 1)){m:Nat}(hm:na+nb<=m){R:ForInStep H2->SortSt->Prop}
  (hd:∀r c,eE kv T r->R (.done (some r,c)) st)
  (hn:∀x y o mg ac bc,vL kv a b T o x y->x+y<m->R (.done (none,x,y,o,mg,ac,bc)) st/\R (.yield (none,x,y,o,mg,ac,bc)) st):
  wpS (RF prog w) A E s (qk a b mg ac bc na nb out) R st:=by
 obtain⟨hM,pa,pb,la,lb⟩:=hI;refine bM (hC.ga.at (kv:=kv) (aN pa la)) λp ep gp kp=>?_;have lg:=mI.push hC.sb hM pa lb ep hle;unfold qk;refine RP (a6 ep (bJ (λe=>R2 (hd _ _ (lg.all (.inl e)))) λe=>?_));have hR:=λmg ac bc=>hn _ _ _ mg ac bc ⟨lg,Uw e,pb,RS (aN pa la),lb⟩ (Ru (Vq (aN pa (Rx _)) _) hm);exact bt (λω=>R2 (hR _ _ _).1) λω=>R2 (hR _ _ _).2
theorem nj(hL:dk prog w A s κ G kv)(hC:DO kv G a b)(hk:kindOf st=κ)(hI:vL kv a b T out na nb)(hle:kA kv a (na - 1)<=kA kv b (nb - 1))
  {m:Nat} (hm:na+nb<=m) {R:ForInStep H2->SortSt->Prop}
  (hd:∀r c,eE kv T r->R (.done (some r,c)) st)
  (hn:∀x y o mg ac bc,vL kv a b T o x y->x+y<m->R (.done (none,x,y,o,mg,ac,bc)) st/\R (.yield (none,x,y,o,mg,ac,bc)) st):
  wpS (RF prog w) A E s (qx a b mg ac bc na nb out) R st:=by
 obtain⟨hM,pa,pb,la,lb⟩:=hI;have AI:=SH pb;refine bM (hC.gb.at (kv:=kv) (aN AI lb)) λq eq gq kq=>?_;refine bM (hC.ga.at (kv:=kv) (aN pa la)) λp ep gp kp=>?_;have lg:=(mI.push hC.sa hM.symm AI la eq hle).symm;unfold qx;refine RP (a6 eq (bJ (λe=>R2 (hd _ _ (lg.nE hC la e))) λe=>?_));have iG:1<nb - 1:=Sp (Sd pb) (Td e);have hlt:nb - 1<nb:=aN AI (Rx _);generalize nb - 1=n at iG hlt lg⊢;have FJ:n<=b.size:=Rk (RS hlt) lb;have iA:na+n<=m:=Rk (Se (RS hlt) _) hm;have kW:=SH iG;refine RP (a6 ep (RP (eD hL hk gp hC.gb (by rw[T8];exact FJ) (aN kW (Rx _)) (by rw[T8];exact λp q h0 h1 h2=>hC.sb p q h0 h1 (Ru h2 FJ)) λk mY h1 h2=>?_)));rw[<-kp,T8]at h1 h2;rw[T8]at h2;have iy:∀i,k<=i->i<n->kA kv a (na - 1)<=kA kv b i:=λi x y=>Uk.mp (of_decide_eq_false (h2 i x y));have uF:0<k->kA kv b (k - 1)<=kA kv a (na - 1):=λlH=>TM (of_decide_eq_true (h1 _ (RU _) (aN lH (Rx _))));have sC:=(lg.symm.move mY λj i ω hj x y=>SX (hC.sa j (na - 1) (RU _) (Sd hj) (aN pa la)) (iy i x y)).symm;refine bt (λlH=>?_) λlH=>?_
 ·refine bJ (λe=>R2 (hd _ _ (sC.nE hC la e))) λe=>bJ (λe2=>R2 (hd _ _ (sC.all (.inr e2)))) λe2=>?_;have lH:=Uw e2;exact og hC ⟨sC,pa,Sp lH (Td e),la,Rk mY FJ⟩ (uF lH) (Rk (Se mY _) iA) hd hn
 ·rw[Sa mY (Tp (Vc lH))]at uF⊢;exact og hC ⟨lg,pa,iG,la,FJ⟩ (uF kW) iA hd hn
theorem yE(hL:dk prog w A s κ G kv)(hC:DO kv G a b)(hk:kindOf st=κ)(hI:vL kv a b T out na nb){R:ForInStep H2->SortSt->Prop}
  (hd:∀r c st',ct st st'->eE kv T r->R (.done (some r,c)) st')
  (hn:∀x y o mg ac bc st',ct st st'->vL kv a b T o x y->x+y<na+nb->R (.done (none,x,y,o,mg,ac,bc)) st'/\R (.yield (none,x,y,o,mg,ac,bc)) st'):
  wpS (RF prog w) A E s (wH a b ac bc na nb out mg) R st:=by
 have Ey:=hI;obtain⟨hM,pa,pb,la,lb⟩:=hI;have AI:=SH pb;refine bM (hC.gb.at (kv:=kv) (aN AI lb)) λq eq gq kq=>?_;unfold wH;refine RP (jX λst' hS=>?_);have jT:=hS.kind.trans hk;refine RP (a6 eq (RP (eD hL jT gq hC.ga (by rw[T8];exact la) (aN pa (Rx _)) (by rw[T8];exact λp q h0 h1 h2=>hC.sa p q h0 h1 (Ru h2 la)) λk mY h1 h2=>?_)));rw[<-kq,T8]at h1 h2;rw[T8]at h2;have iy:∀i,k<=i->i<na->kA kv b (nb - 1)<=kA kv a i:=λi x y=>TM (Xt.mp (of_decide_eq_false (h2 i x y)));have uF:0<k->kA kv a (k - 1)<=kA kv b (nb - 1):=λlH=>of_decide_eq_true (h1 _ (RU _) (aN lH (Rx _)));have sC:=hM.move mY λj i ω hj x y=>SX (hC.sb j (nb - 1) (RU _) (Sd hj) (aN AI lb)) (iy i x y);refine bt (λlH=>?_) λlH=>?_
 ·refine bJ (λe=>R2 (hd _ _ _ hS (sC.all (.inl e)))) λe=>?_;have lH:=Uw e;exact nj hL hC jT ⟨sC,lH,pb,Rk mY la,lb⟩ (uF lH) (Tf mY _) (λr c=>hd r c _ hS) λx y o mg ac bc=>hn x y o mg ac bc _ hS
 ·rw[Sa mY (Tp (Vc lH))]at uF⊢;exact nj hL hC jT Ey (uF pa) (Rx _) (λr c=>hd r c _ hS) λx y o mg ac bc=>hn x y o mg ac bc _ hS
noncomputable def Mz(kv:R5->Int)(a b:Array R5)(T:List R5)(st:SortSt)(m:Nat)(c0:Option (Array R5))(out:Array R5)(x y:Nat)(st':SortSt):Prop:=
 ct st st'/\((∃r,c0=some r/\eE kv T r)\/(c0=none/\vL kv a b T out x y/\x+y<m))
noncomputable def FK(kv:R5->Int)(a b:Array R5)(T:List R5)(st:SortSt)(m:Nat)(c0:Option (Array R5))(out:Array R5)(x y:Nat)(st':SortSt):Prop:=
 ct st st'/\c0=none/\vL kv a b T out x y/\x+y<=m
theorem FK.end{m:Nat}{c0:Option (Array R5)}{x y:Nat}{st':SortSt}{P:Prop}(h:FK kv a b T st m c0 out x y st')(h0:x+y=0):P:=
 absurd h.2.2.1.pa (by rw[Nat.eq_zero_of_add_eq_zero_right h0];exact S8 0)
theorem vL.len(h:vL kv a b T out na nb):na+nb<=a.size+b.size:=Tb h.la h.lb
theorem uh(hL:dk prog w A s κ G kv)(hC:DO kv G a b)(hk:kindOf st=κ)(hI:vL kv a b T out na nb){R:ForInStep H0->SortSt->Prop}
  (hd:∀r c st',ct st st'->eE kv T r->R (.done (some r,c)) st')
  (hn:∀x y o mg st',ct st st'->vL kv a b T o x y->x+y<na+nb->R (.yield (none,x,y,o,mg)) st'):
  wpS (RF prog w) A E s (rC a b na nb out mg) R st:=by
 unfold rC;refine RP (Vd (di (λc=>c.2.1+c.2.2.1) (λc=>FK kv a b T st (na+nb) c.1 c.2.2.2.1 c.2.1 c.2.2.1)
  (Q:=λc=>Mz kv a b T st (na+nb) c.1 c.2.2.2.1 c.2.1 c.2.2.1) ⟨.refl _,rfl,hI,Rx _⟩ hI.len (λc st' h h0=>h.end h0) ?_) ?_)
 ·intro i c st' h;refine vd hL hC (h.1.kind.trans hk) h.2.2.1 (λr c hr=>⟨h.1,.inl ⟨r,rfl,hr⟩⟩) λx y o ac bc sX hm=>?_;have fS:=Ru hm h.2.2.2;exact⟨⟨h.1,.inr ⟨rfl,sX,fS⟩⟩,⟨h.1,rfl,sX,RS fS⟩,hm⟩
 ·rintro⟨c0,x1,y1,o1,ac,bc⟩ Fo ⟨hS,⟨r,(rfl:c0=some r),hr⟩|⟨(rfl:c0=none),Jm,je⟩⟩
  ·exact R2 (hd _ _ _ hS hr)
  ·refine RP (WS (VE ⟨rfl,?_⟩));refine RP (Vd (di (λc=>c.2.1+c.2.2.1) (λc=>FK kv a b T st (x1+y1) c.1 c.2.2.2.1 c.2.1 c.2.2.1)
    (Q:=λc=>Mz kv a b T st (na+nb) c.1 c.2.2.2.1 c.2.1 c.2.2.1) ⟨hS,rfl,Jm,Rx _⟩ Jm.len (λc st' h h0=>h.end h0) ?_) ?_)
   ·intro i c st' h;have hg:=λmg=>yE (mg:=mg) (ac:=c.2.2.2.2.2.1) (bc:=c.2.2.2.2.2.2) (E:=E) hL hC (h.1.kind.trans hk) h.2.2.1 (R:=Ld (λc=>c.2.1+c.2.2.1) (λc=>FK kv a b T st (x1+y1) c.1 c.2.2.2.1 c.2.1 c.2.2.1) (λc=>Mz kv a b T st (na+nb) c.1 c.2.2.2.1 c.2.1 c.2.2.1) c)
     (λr c qQ mQ hr=>⟨h.1.trans mQ,.inl ⟨r,rfl,hr⟩⟩) λx y o mg ac bc qQ mQ sX hm=>by
      have fS:=Ru hm h.2.2.2;exact⟨⟨h.1.trans mQ,.inr ⟨rfl,sX,R0 fS je⟩⟩,⟨h.1.trans mQ,rfl,sX,RS fS⟩,hm⟩
    exact bt (λω=>hg _) λω=>hg _
   ·rintro⟨c0,x2,y2,o2,mg,c⟩ qQ ⟨mQ,⟨r,(rfl:c0=some r),hr⟩|⟨(rfl:c0=none),sX,fS⟩⟩
    ·exact R2 (hd _ _ _ mQ hr)
    ·exact RP (jX λKu Ls=>R2 (hn _ _ _ _ _ (mQ.trans Ls) sX fS))
theorem sM(hL:dk prog w A s κ G kv)(hC:DO kv G a b)(hk:kindOf st=κ)(ha:0<a.size)(hb:0<b.size)(h0:kA kv b (b.size - 1)<=kA kv a (a.size - 1)){Q:Array R5->SortSt->Prop}
  (h:∀r st',ct st st'->eE kv (a.toList++b.toList) r->Q r st'):wpS (RF prog w) A E s (mO a b) Q st:=by
 rw[tP];refine bM (hC.ga.at (kv:=kv) (aN ha (Rx _))) λp ep gp kp=>?_;have Mc:mI kv a b (a.toList++b.toList) #[] a.size b.size:=by
  have ea:a.extract 0 a.size=a:=UY;have eb:b.extract 0 b.size=b:=UY;unfold mI;rw[ea,eb];exact⟨V8.mpr (jc hC.sa),V8.mpr (jc hC.sb),List.Perm.append (WE _) (WE _)⟩
 have hM:=mI.push hC.sb Mc ha (Rx _) ep h0;refine RP (WS (VE ⟨rfl,?_⟩));refine RP (a6 ep (bJ (λe=>R2 (h _ _ (.refl _) (hM.all (.inl e)))) λe=>bJ (λe2=>R2 (h _ _ (.refl _) (hM.nE hC (SK _ _) e2))) λe2=>?_));refine RP (Wq ?_);have hI:vL kv a b (a.toList++b.toList) (#[].push p) (a.size - 1) b.size:=⟨hM,Uw e,Sp hb (Td e2),SK _ _,Rx _⟩;refine RP (Vd (di (λc=>c.2.1+c.2.2.1) (λc=>FK kv a b (a.toList++b.toList) st (a.size - 1+b.size) c.1 c.2.2.2.1 c.2.1 c.2.2.1)
  (Q:=λc st'=>ct st st'/\∃r,c.1=some r/\eE kv (a.toList++b.toList) r) ⟨.refl _,rfl,hI,Rx _⟩ hI.len (λc st' h h0=>h.end h0) ?_) ?_)
 ·intro i c st' h;refine uh hL hC (h.1.kind.trans hk) h.2.2.1 (λr c qQ hS hr=>⟨h.1.trans hS,r,rfl,hr⟩) λx y o mg qQ hS hI hm=>?_;exact⟨⟨h.1.trans hS,rfl,hI,RS (Ru hm h.2.2.2)⟩,hm⟩
 ·rintro⟨c0,c⟩ st' ⟨hS,r,(rfl:c0=some r),hr⟩;exact R2 (h r st' hS hr)
end
noncomputable def wb(arr:Array R5)(sa:Nat)(l:List (R5×Nat)):Array R5:=l.foldl (λa (p,j)=>a.setIfInBounds (sa+j) p) arr
noncomputable def yZ(arr:Array R5)(sa na sb nb:Nat):SRun Bool:=do
 let merged ←if na<=nb then m5 (arr.extract sa sb) (arr.extract sb (sb+nb))else mO (arr.extract sa sb) (arr.extract sb (sb+nb))
 modify λs=>setArr s (wb (arrOf s) sa merged.toList.zipIdx)
 return (failedOf (←get)).isNone
noncomputable def AO(arr:Array R5)(sa na sb nb:Nat):SRun Bool:=do
 let some k ←gm false (←elem' arr sb) arr sa na 0|return false
 if na - k==0 then return true
 let some nb ←gm true (←elem' arr (sa+k+(na - k) - 1)) arr sb nb (nb - 1)|return false
 if nb==0 then return true
 yZ arr (sa+k) (na - k) sb nb
theorem r7(i:Nat):mergeAt' i=(do
 let s ←get
 let(some (sa,na,power),some (sb,nb,_)):=((pendingOf s)[i]?,(pendingOf s)[i+1]?)|unsupported "internal:list.sort.pending"
 set (setPending s (((pendingOf s).setIfInBounds i (sa,na+nb,power)).eraseIdxIfInBounds (i+1)))
 AO (arrOf s) sa na sb nb):=rfl
theorem xv:∀ (l:List R5) {arr:Array R5} {A X B:List R5} {sa n:Nat},arr.toList=A++(X++B)->A.length=sa+n->X.length=l.length->(wb arr sa (l.zipIdx n)).toList=A++(l++B)
 |[],arr,A,[],B,sa,n,h,_,_=>h
 |[],_,_,_::_,_,_,_,_,_,e=>Xd e
 |_::_,_,_,[],_,_,_,_,_,e=>Xd e
 |p::l,arr,A,x::X,B,sa,n,h,e1,e2=>by
  have h2:(arr.setIfInBounds (sa+n) p).toList=(A++[p])++(X++B):=by
   rw[W5,h,<-e1,Xy _ _ (Rx _),Wd,Sq];rfl
  have h3:=xv l h2 (sa:=sa) (n:=n+1) (by rw[RQ,e1];rfl) (Vu e2);rw[Sq]at h3;exact h3
theorem bl.pw(h:bl kv arr i j):(arr.extract i j).toList.Pairwise (Dw kv):=by
 refine VI.mpr λx y hx hy yy=>?_;have oY:y<(arr.extract i j).size:=hy;rw[XT]at oY;have h1:i+y<min j arr.size:=UJ oY;have hj:=Ru h1 (UH _ _);have hs:=Ru h1 (Ur _ _);have e:=h (i+x) (i+y) (Sh _ _) (Se (RS yy) _) hj;rw[ir (Ua hs),ir (Ua (R0 (SD yy _) hs))]at e;simp only[Array.getElem_toList,Array.getElem_extract];exact e
theorem bl.Ij{P L R:List R5}(e:arr.toList=P++(L++R))(hi:P.length=i)(hj:i+L.length=j)(h:L.Pairwise (Dw kv)):bl kv arr i j:=by
 have hL:∀x,i<=x->x<j->∃p,L[x - i]?=some p/\kA kv arr x=kv p:=λx h1 h2=>by
  have h3:x - i<L.length:=Nat.sub_lt_left_of_lt_add h1 (hj▸h2);refine⟨_,RT h3,ir ?_⟩;rw[<-TH,e,UM (hi▸h1),hi,Ub h3,RT h3]
 intro x y h1 h2 h3;refine aD (hL x h1 (RJ h2 h3)) λp ep kp=>?_;refine aD (hL y (Rk h1 h2) h3) λq eq kq=>?_;rw[kp,kq];rcases T9 h2 with h4|rfl
 ·refine oE (RY.mp ep) λhp zr=>?_;subst zr;refine oE (RY.mp eq) λhq zr=>?_;subst zr;exact VI.mp h _ _ hp hq (Wk h1 h4)
 ·rw[ep]at eq;rw[R7 eq];exact UX _
theorem bl.join{m:Nat}(h1:bl kv arr i m)(h2:bl kv arr m j)(h:∀x y,i<=x->x<m->m<=y->y<j->kA kv arr x<=kA kv arr y):bl kv arr i j:=by
 intro x y hx yy hy;by_cases c:y<m
 ·exact h1 x y hx yy c
 ·by_cases d:x<m
  ·exact h x y hx d (T6 c) hy
  ·exact h2 x y (T6 d) yy hy
theorem bl.sub{i' j':Nat}(h:bl kv arr i j)(h1:i<=i')(h2:j'<=j):bl kv arr i' j':=λx y hx yy hy=>h x y (Rk h1 hx) yy (Ru hy h2)
structure Kw(kv:R5->Int)(arr iB:Array R5)(i j:Nat):Prop where
 perm:iB.Perm arr
 out:∀x,x<i\/j<=x->iB[x]?=arr[x]?
 aK:bl kv iB i j
theorem II{a m b:Nat}{r:Array R5}(FH:i<=a)(FL:a<=m)(Be:m<=b)(Dq:b<=j)(hj:j<=arr.size)(hX:bl kv arr i m)(hY:bl kv arr m j)
  (h1:∀x y,i<=x->x<a->m<=y->y<j->kA kv arr x<=kA kv arr y) (h2:∀x y,i<=x->x<m->b<=y->y<j->kA kv arr x<=kA kv arr y)
  (hr:eE kv ((arr.extract a m).toList++(arr.extract m b).toList) r):Kw kv arr (wb arr a r.toList.zipIdx) i j:=by
 have l7:=Rk FL Be;have F3:=Rk l7 Dq;have eA:arr.toList=(arr.extract 0 a).toList++((arr.extract a b).toList++(arr.extract b arr.size).toList):=by
  rw[<-dA l7 (Rk Dq hj),<-dA (RU _) (Rk F3 hj),UY]
 have la:(arr.extract 0 a).toList.length=a+0:=by
  show(arr.extract 0 a).size=a;rw[SN (Rk F3 hj)];rfl
 have hp:r.toList.Perm (arr.extract a b).toList:=by
  rw[dA FL Be];exact hr.2
 have eW:=xv r.toList eA la hp.length_eq.symm;generalize hW:wb arr a (r.toList.zipIdx 0)=iB at eW;have lu:∀ {z},z∈r.toList->z∈(arr.extract a m).toList\/z∈(arr.extract m b).toList:=λhz=>Rw.mp (hr.2.mem_iff.mp hz);have Lk:(arr.extract 0 i).toList.length=i:=by
  show(arr.extract 0 i).size=i;rw[SN (Rk (Rk FH F3) hj)];rfl
 have eL:(arr.extract i a).toList.length+(r.toList.length+(arr.extract b j).toList.length)=j - i:=by
  have e1:(arr.extract i a).toList.length=a - i:=SN (Rk F3 hj);have e2:(arr.extract a b).toList.length=b - a:=SN (Rk Dq hj);have e3:(arr.extract b j).toList.length=j - b:=SN hj;rw[hp.length_eq,e1,e2,e3,VH (b - a),Xx Dq l7,VH,Xx F3 FH]
 have PM:iB.toList=(arr.extract 0 i).toList++(((arr.extract i a).toList++(r.toList++(arr.extract b j).toList))++(arr.extract j arr.size).toList):=by
  rw[eW,dA (RU _) FH,dA (i:=b) Dq hj];simp only[Sq]
 refine⟨Vz.mpr ?_,λx hx=>?_,bl.Ij PM Lk ?_ ?_⟩
 ·rw[eW,eA];exact Xg _ (List.Perm.append_right _ hp)
 ·rw[<-TH,<-TH,eW,eA];rcases hx with hx|hx
  ·have h3:x<(arr.extract 0 a).toList.length:=by rw[la];exact Ru hx FH
   rw[Ub h3,Ub h3]
  ·rw[<-Sq,<-Sq,UM,UM,RQ,RQ,hp.length_eq]
   all_goals
    rw[RQ]
    try rw[hp.length_eq]
    rw[<-RQ,<-dA (RU _) l7];show(arr.extract 0 b).size<=x;rw[SN (Rk Dq hj)];exact Rk Dq hx
 ·rw[RQ,RQ,eL];exact Th (Rk FH F3)
 ·refine Te.mpr ⟨(hX.sub (Rx _) FL).pw,Te.mpr ⟨hr.1,(hY.sub Be (Rx _)).pw,λz hz y hy=>?_⟩,λx hx z hz=>?_⟩
  ·rcases lu hz with hz|hz
   ·exact gT (λu v a1 a2=>h2 u v (Rk FH a1) a2) hz hy
   ·exact gT (λu v a1 a2 b1 b2=>hY u v a1 (Rk (RS a2) b1) b2) hz hy
  ·rcases Rw.mp hz with hz|hz
   ·rcases lu hz with hz|hz
    ·exact gT (λu v a1 a2 b1 b2=>hX u v a1 (Rk (RS a2) b1) b2) hx hz
    ·exact gT (λu v a1 a2 b1 b2=>h1 u v a1 a2 b1 (Ru b2 Dq)) hx hz
   ·exact gT (λu v a1 a2 b1 b2=>h1 u v a1 a2 (Rk Be b1) b2) hx hz
section
variable{G:R5->Prop}
theorem B9{n:Nat}(hj:j<=arr.size)(hn:n<j - i):(arr.extract i j)[n]?=arr[i+n]?:=by
 rw[U9,Vx hj,if_pos hn]
theorem qM{n:Nat}(hj:j<=arr.size)(hn:n<j - i):kA kv (arr.extract i j) n=kA kv arr (i+n):=de (B9 hj hn)
theorem rL(h:GA G arr):GA G (arr.extract i j):=by
 intro n p e;rw[U9]at e;by_cases c:n<min j arr.size - i
 ·rw[if_pos c]at e;exact h _ _ e
 ·rw[if_neg c]at e;cases e
theorem mM(hj:j<=arr.size)(h:bl kv arr i j):bl kv (arr.extract i j) 0 (arr.extract i j).size:=by
 rw[SN hj];intro x y _ yy hy;rw[qM hj hy,qM hj (RJ yy hy)];exact h _ _ (Sh _ _) (Se yy _) (UJ hy)
end
section
variable{prog:Sw}{w:TG}{s:Ro}{G:R5->Prop}
variable{st:SortSt}{Q:Bool->SortSt->Prop}
theorem xw(hL:dk prog w A s κ G kv)(hk:kindOf st=κ)(hf:failedOf st=none)(hG:GA G (arrOf st)){a na m nb b:Nat}(FL:a<m)(Be:m<b)(hb:b<=(arrOf st).size)(PE:m+nb=b)
  (hX:bl kv (arrOf st) a m) (hY:bl kv (arrOf st) m b) (h1:kA kv (arrOf st) m<=kA kv (arrOf st) a) (h2:kA kv (arrOf st) (b - 1)<=kA kv (arrOf st) (m - 1))
  (h:∀Fo r,ct st Fo->eE kv (((arrOf st).extract a m).toList++((arrOf st).extract m b).toList) r->Q true (setArr Fo (wb (arrOf Fo) a r.toList.zipIdx))):
  wpS (RF prog w) A E s (yZ (arrOf st) a na m nb) Q st:=by
 have hm:=Rk (RS Be) hb;unfold yZ;rw[PE];have sx:((arrOf st).extract a m).size=m - a:=SN hm;have sy:((arrOf st).extract m b).size=b - m:=SN hb;have px:0<m - a:=UL FL;have py:0<b - m:=UL Be;have kx:∀ {n},n<m - a->kA kv ((arrOf st).extract a m) n=kA kv (arrOf st) (a+n):=λhn=>qM hm hn;have ky:∀ {n},n<b - m->kA kv ((arrOf st).extract m b) n=kA kv (arrOf st) (m+n):=λhn=>qM hb hn;have lx:a+(m - a - 1)=m - 1:=by rw[<-Yl px,Th (RS FL)]
 have ly:m+(b - m - 1)=b - 1:=by rw[<-Yl py,Th (RS Be)]
 have fin:∀r st',ct st st'->eE kv (((arrOf st).extract a m).toList++((arrOf st).extract m b).toList) r->
   wpS (RF prog w) A E s (do modify λs=>setArr s (wb (arrOf s) a r.toList.zipIdx);return (failedOf (←get)).isNone) Q st':=by
  intro r st' hS hr;have pj:failedOf st'=none:=by
   refine oE hS λg zr=>?_;clear hS;subst zr;exact hf
  refine RP (VD (RP (Wq (R2 ?_))));show Q (failedOf st').isNone _;rw[pj];exact h st' r hS hr
 have b1:∀j,m<=j->j<b->kA kv (arrOf st) j<=kA kv (arrOf st) (m - 1):=λj BB D8=>SX (hY j (b - 1) BB (Sd D8) (aN (RJ (RU _) D8) (Rx _))) h2;refine bt (λω=>RP ?_) λω=>RP ?_
 ·refine uc hL ⟨rL hG,rL hG,mM hm hX,mM hb hY,λj hj=>?_⟩ hk (sx▸px) (sy▸py) ?_ λr st' hS hr=>fin r st' hS hr
  ·rw[sy]at hj;rw[sx,ky hj,kx (aN px (Rx _)),lx];exact b1 _ (Sh _ _) (UJ hj)
  ·rw[kx px,ky py];exact h1
 ·refine sM hL ⟨rL hG,rL hG,mM hm hX,mM hb hY,λj hj=>?_⟩ hk (sx▸px) (sy▸py) ?_ λr st' hS hr=>fin r st' hS hr
  ·rw[sx]at hj;rw[kx hj,ky py];exact SX h1 (hX a (a+j) (Rx _) (Sh _ _) (UJ hj))
  ·rw[sx,sy,ky (aN py (Rx _)),kx (aN px (Rx _)),lx,ly];exact h2
theorem yv(hL:dk prog w A s κ G kv)(hk:kindOf st=κ)(hG:GA G (arrOf st))(hf:failedOf st=none){sa na nb:Nat}(El:0<na)(F6:0<nb)(aF:sa+na+nb<=(arrOf st).size)
  (hX:bl kv (arrOf st) sa (sa+na)) (hY:bl kv (arrOf st) (sa+na) (sa+na+nb))
  (h:∀st':SortSt,kindOf st'=κ->failedOf st'=none->pendingOf st'=pendingOf st->Kw kv (arrOf st) (arrOf st') sa (sa+na+nb)->Q true st'):
  wpS (RF prog w) A E s (AO (arrOf st) sa na (sa+na) nb) Q st:=by
 have hm:sa+na<sa+na+nb:=Up F6;have ha:sa<sa+na:=Up El;have Mh:=Ru hm aF;have MT:bl kv (arrOf st) sa (sa+na+nb)->Q true st:=λx=>h st hk hf rfl ⟨.refl _,λx ω=>rfl,x⟩;refine bM (hG.at (kv:=kv) Mh) λq eq gq kq=>?_;unfold AO;refine RP (a6 eq (RP (eD hL hk gq hG (RS Mh) El hX λk mY g1 g2=>?_)));rw[<-kq]at g1 g2;have Mm:∀x,sa<=x->x<sa+k->kA kv (arrOf st) x<=kA kv (arrOf st) (sa+na):=λx u v=>of_decide_eq_true (g1 x u v);refine bJ (λe=>?_) λe=>?_
 ·refine R2 (MT (hX.join hY λx y u v u2 v2=>?_));rw[Sa mY (Tp e)]at Mm;exact SX (Mm x u v) (hY _ y (Rx _) u2 v2)
 ·have K0:k<na:=Nat.lt_of_sub_ne_zero e;have e3:sa+k+(na - k)=sa+na:=by rw[VX,Th mY]
  rw[e3];have hl:sa+na - 1<sa+na:=aN (RJ (RU _) ha) (Rx _);refine bM (hG.at (kv:=kv) (R0 hl Mh)) λp ep gp kp=>?_;refine RP (a6 ep (RP (eD hL hk gp hG aF (aN F6 (Rx _)) hY λn QP g3 g4=>?_)));rw[<-kp]at g3 g4;have Qf:∀x,sa+na+n<=x->x<sa+na+nb->kA kv (arrOf st) (sa+na - 1)<=kA kv (arrOf st) x:=λx u v=>Uk.mp (of_decide_eq_false (g4 x u v));have PY:∀x y,sa<=x->x<sa+k->sa+na<=y->y<sa+na+nb->kA kv (arrOf st) x<=kA kv (arrOf st) y:=λx y u v u2 v2=>SX (Mm x u v) (hY _ y (Rx _) u2 v2);have Dv:∀x y,sa<=x->x<sa+na->sa+na+n<=y->y<sa+na+nb->kA kv (arrOf st) x<=kA kv (arrOf st) y:=λx y u v u2 v2=>SX (hX x _ u (Sd v) hl) (Qf y u2 v2);refine bJ (λe=>?_) λe=>?_
  ·subst e;exact R2 (MT (hX.join hY Dv))
  ·have kW:=Uw e;have D5:sa+na+n<=sa+na+nb:=Se QP _;have Ce:sa+k<sa+na:=SD K0 _;have jS:sa+na+n - 1<sa+na+n:=aN (Ru kW (Uj _ _)) (Rx _);refine xw hL hk hf hG Ce (Up kW) (Rk D5 aF) rfl (hX.sub (Sh _ _) (Rx _)) (hY.sub (Rx _) D5)
    (TM (Xt.mp (of_decide_eq_false (g2 _ (Rx _) Ce)))) (TM (of_decide_eq_true (g3 _ (Sd (Up kW)) jS))) λFo r hS hr=>?_
   refine oE hS λg zr=>?_;clear hS;subst zr;exact h _ hk hf rfl (II (Sh _ _) (RS Ce) (Sh _ _) D5 aF hX hY PY Dv hr)
theorem tQ(hL:dk prog w A s κ G kv)(hk:kindOf st=κ)(hG:GA G (arrOf st))(hf:failedOf st=none){sa na nb pa pb:Nat}(e1:(pendingOf st)[i]?=some (sa,na,pa))
  (e2:(pendingOf st)[i+1]?=some (sa+na,nb,pb)) (El:0<na) (F6:0<nb) (aF:sa+na+nb<=(arrOf st).size)
  (hX:bl kv (arrOf st) sa (sa+na)) (hY:bl kv (arrOf st) (sa+na) (sa+na+nb))
  (h:∀st':SortSt,kindOf st'=κ->failedOf st'=none->pendingOf st'=((pendingOf st).setIfInBounds i (sa,na+nb,pa)).eraseIdxIfInBounds (i+1)->Kw kv (arrOf st) (arrOf st') sa (sa+na+nb)->Q true st'):
  wpS (RF prog w) A E s (mergeAt' i) Q st:=by
 rw[r7];refine RP (Wq ?_);rw[e1,e2];refine RP (show wpS _ A E s (modify λω=>setPending st (((pendingOf st).setIfInBounds i (sa,na+nb,pa)).eraseIdxIfInBounds (i+1))) _ st from VD ?_);exact yv (st:=setPending st (((pendingOf st).setIfInBounds i (sa,na+nb,pa)).eraseIdxIfInBounds (i+1))) hL hk hG hf El F6 aF hX hY h
end
noncomputable abbrev Lb:=Option (Option Nat)×Nat
noncomputable abbrev Lp:=Option (Option Nat)×Nat×Nat
noncomputable def qd(lo a bW:Nat):SRun Lb:=forIn [a:bW] ((none,a):Lb) λω c=>do
 let some qq ←ltAt' (lo+c.2) (lo+c.2 - 1)|pure (.done (some none,c.2))
 if qq then pure (.done (none,c.2))else pure (.yield (none,c.2+1))
noncomputable def rq(lo n bW:Nat):SRun (Option Nat):=do
 reverseSlice' lo (lo+n)
 let c ←qd lo n bW
 SE (motive:=λω=>SRun (Option Nat)) c.1 (λr=>pure r) λω=>pure (some c.2)
noncomputable def xu(lo:Nat)(c:Lp):SRun (ForInStep Lp):=do
 let some qq ←ltAt' (lo+c.2.1) (lo+c.2.1 - 1)|pure (.done (some none,c.2.1,c.2.2))
 if qq then
  if c.2.2>0 then do
   reverseSlice' (lo+c.2.1 - (c.2.2+1)) (lo+c.2.1)
   pure (.yield (none,c.2.1+1,0))
  else pure (.yield (none,c.2.1+1,0))
 else
  let some Er ←ltAt' (lo+c.2.1 - 1) (lo+c.2.1)|pure (.done (some none,c.2.1,c.2.2))
  if Er then pure (.done (none,c.2.1,c.2.2))else pure (.yield (none,c.2.1+1,c.2.2+1))
noncomputable def rp(lo n bW:Nat):SRun (Option Nat):=do
 rule "list.sort.descending-run"
 let c ←forIn [n+1:bW] ((none,n+1,0):Lp) λω c=>xu lo c
 SE (motive:=λω=>SRun (Option Nat)) c.1 (λr=>pure r) λω=>
  if c.2.2>0 then do
   reverseSlice' (lo+c.2.1 - (c.2.2+1)) (lo+c.2.1)
   rq lo c.2.1 bW
  else rq lo c.2.1 bW
theorem sH(lo bW:Nat):countRun' lo bW=(do
 let c ←qd lo 1 bW
 SE (motive:=λω=>SRun (Option Nat)) c.1 (λr=>pure r) λω=>
  if c.2==bW then pure (some c.2)
  else if c.2>1 then do
   let some K3 ←ltAt' lo (lo+c.2 - 1)|pure none
   if K3 then pure (some c.2)else do
    reverseSlice' lo (lo+c.2)
    rp lo c.2 bW
  else rp lo c.2 bW):=rfl
noncomputable abbrev JF:=Option Bool×Nat×Nat
noncomputable def uS(lo k l r m:Nat):SRun (ForInStep JF):=do
 let some less ←ltAt' (lo+k) (lo+m)|pure (.done (some false,l,r))
 if less then pure (.yield (none,l,m))else pure (.yield (none,m+1,r))
noncomputable def vO(lo k:Nat):SRun JF:=forIn [0:k] ((none,0,k):JF) λω c=>
 if c.2.1≥c.2.2 then pure (.done (none,c.2.1,c.2.2))else uS lo k c.2.1 c.2.2 ((c.2.1+c.2.2) / 2)
theorem o9(lo n ok:Nat):binarySort' lo n ok=(do
 let c ←forIn [max ok 1:n] ((none,()):Option Bool×Unit) λk ω=>do
  let c ←vO lo k
  SE (motive:=λω=>SRun (ForInStep (Option Bool×Unit))) c.1 (λr=>pure (.done (some r,()))) λω=>do
   moveDown' (lo+k) (lo+c.2.1)
   pure (.yield (none,()))
 SE (motive:=λω=>SRun Bool) c.1 (λr=>pure r) λω=>pure true):=rfl
section
variable{G:R5->Prop}
noncomputable def kh(kv:R5->Int)(arr:Array R5)(i j:Nat):Prop:=∀p q,i<=p->p<=q->q<j->kA kv arr q<=kA kv arr p
theorem bl.one(i:Nat):bl kv arr i (i+1):=λp q h1 h2 h3=>by
 rw[Sa (Rk (Sy h3) h1) h2];exact UX _
theorem bl.ext(h:bl kv arr i j)(h2:kA kv arr (j - 1)<=kA kv arr j):bl kv arr i (j+1):=
 h.join (.one j) λx y hx Jh Mu LF=>by
  rw[Sa (Sy LF) Mu];exact SX (h x (j - 1) hx (Sd Jh) (aN (RJ (RU _) Jh) (Rx _))) h2
theorem kh.one(i:Nat):kh kv arr i (i+1):=λp q h1 h2 h3=>by
 rw[Sa (Rk (Sy h3) h1) h2];exact UX _
theorem kh.ext(h:kh kv arr i j)(h2:kA kv arr j<=kA kv arr (j - 1)):kh kv arr i (j+1):=λx y hx yy hy=>by
 by_cases c:y<j
 ·exact h x y hx yy c
 ·have e:=Sa (Sy hy) (T6 c);subst e;rcases T9 yy with d|rfl
  ·exact SX h2 (h x (y - 1) hx (Sd d) (aN (RJ (RU _) d) (Rx _)))
  ·exact UX _
theorem kh.congr{iB:Array R5}(h:kh kv arr i j)(e:∀x,kA kv iB x=kA kv arr x):kh kv iB i j:=λx y h1 h2 h3=>by
 rw[e,e];exact h x y h1 h2 h3
theorem vT(hj:j<=arr.size)(k:Nat):kA kv (mirror arr i j ((j - i) / 2)) k=if i<=k/\k<j then kA kv arr (i+j - 1 - k)else kA kv arr k:=by
 have e:=getElem?_mirror_all (i:=i) hj k;by_cases h1:i<=k/\k<j
 ·rw[if_pos h1]at e⊢;exact de e
 ·rw[if_neg h1]at e⊢;exact de e
theorem uG{k:Nat}(h1:i<=k)(h2:k<j):i<=i+j - 1 - k/\i+j - 1 - k<j:=by omega
theorem lC(hj:j<=arr.size)(he:∀k,i<=k->k<j->kA kv arr k=kA kv arr (j - 1))(k:Nat):kA kv (mirror arr i j ((j - i) / 2)) k=kA kv arr k:=by
 rw[vT hj];by_cases h1:i<=k/\k<j
 ·have h2:=uG h1.1 h1.2;rw[if_pos h1,he _ h2.1 h2.2,he k h1.1 h1.2]
 ·rw[if_neg h1]
theorem Cb(hj:j<=arr.size)(h:kh kv arr i j):bl kv (mirror arr i j ((j - i) / 2)) i j:=λx y h1 h2 h3=>by
 have h4:=RJ h2 h3;have h5:=Rk h1 h2;rw[vT hj,vT hj,if_pos ⟨h1,h4⟩,if_pos ⟨h5,h3⟩];exact h _ _ (uG h5 h3).1 (Nat.sub_le_sub_left h2 _) (uG h1 h4).2
structure lG(lo:Nat)(s0 st:SortSt):Prop where
 kind:kindOf st=kindOf s0
 failed:failedOf st=failedOf s0
 pend:pendingOf st=pendingOf s0
 perm:(arrOf st).Perm (arrOf s0)
 low:∀x,x<lo->(arrOf st)[x]?=(arrOf s0)[x]?
theorem lG.refl(lo:Nat)(st:SortSt):lG lo st st:=⟨rfl,rfl,rfl,.refl _,λω ω=>rfl⟩
theorem lG.size{lo:Nat}{st:SortSt}(h:lG lo s0 st):(arrOf st).size=(arrOf s0).size:=h.perm.size_eq
theorem lG.set{lo:Nat}{st:SortSt}(h:lG lo s0 st){xs:Array R5}(hp:xs.Perm (arrOf st))(hl:∀x,x<lo->xs[x]?=(arrOf st)[x]?):lG lo s0 (setArr st xs):=
 ⟨h.kind,h.failed,h.pend,hp.trans h.perm,λx hx=>(hl x hx).trans (h.low x hx)⟩
theorem lG.Js{lo:Nat}{st:SortSt}(h:lG lo s0 st)(hi:lo<=i)(hj:j<=(arrOf st).size):lG lo s0 (setArr st (mirror (arrOf st) i j ((j - i) / 2))):=
 h.set (mirror_perm _ _ _ _) λx hx=>by
  rw[getElem?_mirror_all hj,if_neg λc=>absurd (Ru hx hi) (SV.mpr c.1)]
end
section
variable{prog:Sw}{w:TG}{s:Ro}{G:R5->Prop}
variable{st:SortSt}{lo bW:Nat}{Q:Option Nat->SortSt->Prop}
structure Bd(κ:SortKind)(G:R5->Prop)(s0:SortSt)(lo bW:Nat):Prop where
 kind:kindOf s0=κ
 ga:GA G (arrOf s0)
 le:lo+bW<=(arrOf s0).size
theorem Bd.at(h:Bd κ G s0 lo bW)(hK:lG lo s0 st)(hi:i<bW):lo+i<(arrOf st).size:=by
 rw[hK.size];exact Ru (SD hi lo) h.le
theorem iN(hL:dk prog w A s κ G kv)(hH:Bd κ G s0 lo bW)(hK:lG lo s0 st){x y:Nat}(hx:x<lo+bW)(hy:y<lo+bW){Q:Option Bool->SortSt->Prop}
  (h:Q (some (decide (kA kv (arrOf st) x<kA kv (arrOf st) y))) st):wpS (RF prog w) A E s (ltAt' x y) Q st:=
 BX hL (hK.kind.trans hH.kind) (hH.ga.perm hK.perm) (by rw[hK.size];exact Ru hx hH.le) (by rw[hK.size];exact Ru hy hH.le) h
theorem mA{Q:Unit->SortSt->Prop}(h:Q () (setArr st (mirror (arrOf st) i j ((j - i) / 2)))):wpS M A E s (reverseSlice' i j) Q st:=by
 rw[reverseSlice'_eq];exact VD h
theorem oq(hL:dk prog w A s κ G kv)(hH:Bd κ G s0 lo bW)(hK:lG lo s0 st){a:Nat}(ha:1<=a)(Nv:a<=bW)(hs:bl kv (arrOf st) lo (lo+a)){Q:Lb->SortSt->Prop}
  (h:∀n,a<=n->n<=bW->bl kv (arrOf st) lo (lo+n)->(n=bW\/kA kv (arrOf st) (lo+n)<kA kv (arrOf st) (lo+n - 1))->Q (none,n) st):
  wpS (RF prog w) A E s (qd lo a bW) Q st:=by
 unfold qd;refine Vs (I:=λx c st'=>st'=st/\c=(none,x)/\bl kv (arrOf st) lo (lo+x)) ?step ?fin ⟨rfl,rfl,hs⟩
 case fin=>
  rintro c st' ⟨rfl,rfl,gd⟩;rw[TY Nv]at gd⊢;exact h bW Nv (Rx _) gd (.inl rfl)
 case step=>
  rintro x c st' Of DU ⟨rfl,rfl,gd⟩;refine RP (iN hL hH hK (SD DU lo) (RJ (SK _ _) (SD DU lo)) ?_);refine bt (λc=>R2 (h x Of (RS DU) gd (.inr (of_decide_eq_true c)))) λc=>?_;exact R2 ⟨rfl,rfl,gd.ext (Uk.mp λd=>c (decide_eq_true d))⟩
theorem oC(hL:dk prog w A s κ G kv)(hH:Bd κ G s0 lo bW)(hK:lG lo s0 st){n:Nat}(h1:1<=n)(hn:n<=bW)(hs:kh kv (arrOf st) lo (lo+n))
  (h:∀m st',lG lo s0 st'->1<=m->m<=bW->bl kv (arrOf st') lo (lo+m)->Q (some m) st'):wpS (RF prog w) A E s (rq lo n bW) Q st:=by
 unfold rq;have hj:lo+n<=(arrOf st).size:=by
  rw[hK.size];exact Rk (Se hn lo) hH.le
 have yK:=hK.Js (Rx lo) hj;exact RP (mA (RP (oq hL hH yK h1 hn (Cb hj hs) λm je fS gd ω=>R2 (h m _ yK (Rk h1 je) fS gd))))
structure F5(kv:R5->Int)(lo:Nat)(s0:SortSt)(n q:Nat)(st:SortSt):Prop where
 kp:lG lo s0 st
 Jy:kh kv (arrOf st) lo (lo+n)
 hq:q+1<=n
 eq:∀i,lo+n - (q+1)<=i->i<lo+n->kA kv (arrOf st) i=kA kv (arrOf st) (lo+n - 1)
theorem qH{z:Nat}(h1:z - (0+1)<=i)(h2:i<z):i=z - 1:=Sa (Sd h2) h1
theorem F5.lo_le{n q:Nat}(h:F5 kv lo s0 n q st):lo<=lo+n - (q+1):=Nat.le_sub_of_add_le (Se h.hq lo)
theorem oK(hL:dk prog w A s κ G kv)(hH:Bd κ G s0 lo bW)(hK:lG lo s0 st){n:Nat}(hn:n+1<=bW)(hs:kh kv (arrOf st) lo (lo+(n+1)))
  (h:∀m st',lG lo s0 st'->1<=m->m<=bW->bl kv (arrOf st') lo (lo+m)->Q (some m) st'):wpS (RF prog w) A E s (rp lo n bW) Q st:=by
 unfold rp;have hle:∀ {st' m},lG lo s0 st'->m<=bW->lo+m<=(arrOf st').size:=λyK hm=>by
  rw[yK.size];exact Rk (Se hm lo) hH.le
 refine RP (WS (VE ⟨rfl,?_⟩));refine RP (Vd (Vs (I:=λx c st'=>c.1=none/\c.2.1=x/\F5 kv lo s0 c.2.1 c.2.2 st') (Q:=λc st'=>c.1=none/\c.2.1<=bW/\F5 kv lo s0 c.2.1 c.2.2 st') ?step ?fin
  ⟨rfl,rfl,hK,hs,Uj 1 n,λi h1 h2=>by rw[qH h1 h2]⟩) ?post)
 case fin=>
  rintro c st' ⟨e,hx,hI⟩;refine⟨e,?_,hI⟩;rw[hx,TY hn];exact Rx _
 case post=>
  rintro⟨c0,m,q⟩ st' ⟨(rfl:c0=none),hm,hI⟩;have pW:F5 kv lo s0 m q st':=hI;have iA:m<=bW:=hm;have h1:1<=m:=Rk (Uj 1 q) pW.hq;have hj:=hle pW.kp iA;refine bt (λω=>?_) λω=>oC hL hH pW.kp h1 iA pW.Jy h;exact RP (mA (oC hL hH (pW.kp.Js pW.lo_le hj) h1 iA (pW.Jy.congr (lC hj pW.eq)) h))
 case step=>
  rintro x ⟨c0,m,q⟩ st' Of DU ⟨(rfl:c0=none),(rfl:m=x),pW⟩;have hI:F5 kv lo s0 m q st':=pW;have hx:=SD DU lo;have yQ:=RJ (SK (lo+m) 1) hx;have hj:=hle hI.kp (RS DU);unfold xu;refine RP (iN hL hH hI.kp hx yQ ?_);refine bt (λc=>?_) λc=>?_
  ·have hd:=hI.Jy.ext (TM (of_decide_eq_true c));refine bt (λω=>?_) λω=>?_
   ·exact RP (mA (R2 ⟨rfl,rfl,hI.kp.Js hI.lo_le hj,hd.congr (lC hj hI.eq),Uj 1 m,λi h1 h2=>by rw[qH h1 h2]⟩))
   ·exact R2 ⟨rfl,rfl,hI.kp,hd,Uj 1 m,λi h1 h2=>by rw[qH h1 h2]⟩
  ·refine RP (iN hL hH hI.kp yQ hx ?_);have c1:=Uk.mp λd=>c (decide_eq_true d);refine bt (λd=>R2 ⟨rfl,RS DU,hI⟩) λd=>?_;have c2:=Uk.mp λe=>d (decide_eq_true e);refine R2 ⟨rfl,rfl,hI.kp,hI.Jy.ext c2,Tf hI.hq 1,λi h1 h2=>?_⟩;have e:=Wf c2 c1;show kA kv (arrOf st') i=kA kv (arrOf st') (lo+m);rcases T9 (Sy h2)with h3|rfl
   ·rw[e];refine hI.eq i ?_ h3;have qK:lo+(m+1) - (q+1+1)<=i:=h1;rwa[<-VX,Nat.add_sub_add_right]at qK
   ·rfl
theorem wpS_countRun(hL:dk prog w A s κ G kv)(hH:Bd κ G s0 lo bW)(hn:1<=bW)(h:∀m st',lG lo s0 st'->1<=m->m<=bW->bl kv (arrOf st') lo (lo+m)->Q (some m) st'):
  wpS (RF prog w) A E s (countRun' lo bW) Q s0:=by
 rw[sH];have hK:=lG.refl lo s0;refine RP (oq hL hH hK (Rx 1) hn (.one lo) λn sO xb hs OR=>?_);refine bJ (λω=>R2 (h n s0 hK sO xb hs)) λe=>?_;have hlt:=OR.resolve_left e;have zE:n+1<=bW:=Sp xb e;have hx:=SD zE lo;have hj:lo+n<=(arrOf s0).size:=Rk (RS hx) hH.le;have hl:lo+n - 1<lo+n:=aN (Ru sO (Uj _ _)) (Rx _);refine bt (λc=>?_) λc=>?_
 ·refine RP (iN hL hH hK (RJ (Sh _ _) hx) (R0 hl hx) ?_);refine bt (λω=>R2 (h n s0 hK sO xb hs)) λd=>?_;have d:=Uk.mp λe=>d (decide_eq_true e);have qR:∀k,lo<=k->k<lo+n->kA kv (arrOf s0) k=kA kv (arrOf s0) (lo+n - 1):=λk k1 k2=>
   Wf (hs k _ k1 (Sd k2) hl) (SX d (hs lo k (Rx _) k1 k2))
  have hd:kh kv (arrOf s0) lo (lo+n):=λx y h1 h2 h3=>by
   rw[qR x h1 (RJ h2 h3),qR y (Rk h1 h2) h3];exact UX _
  exact RP (mA (oK hL hH (hK.Js (Rx _) hj) zE ((hd.ext (TM hlt)).congr (lC hj qR)) h))
 ·have e1:n=1:=Sa (T6 c) sO;subst e1;exact oK hL hH hK zE ((kh.one lo).ext (TM hlt)) h
theorem Fp{d k:Nat}(hk:k<arr.size)(hd:lo<=d)(ND:d<=k)(hs:bl kv arr lo k)(h1:∀x,lo<=x->x<d->kA kv arr x<=kA kv arr k)
  (h2:∀x,d<=x->x<k->kA kv arr k<=kA kv arr x):bl kv (bubble arr k (k - d)) lo (k+1)/\∀x,x<lo->(bubble arr k (k - d))[x]?=arr[x]?:=by
 have hg:=λx=>getElem?_bubble hk (k - d) (SK _ _) x;rw[Nat.sub_sub_self ND]at hg;generalize bubble arr k (k - d)=iB at hg⊢;have f1:∀x,x<d->iB[x]?=arr[x]?:=λx hx=>by
  rw[hg,if_neg (Sm hx),if_neg λc=>absurd c.1 (SV.mpr (RS hx))]
 have f2:kA kv iB d=kA kv arr k:=de (by rw[hg,if_pos rfl]);have f3:∀x,d<x->x<k+1->kA kv iB x=kA kv arr (x - 1):=λx hx Ao=>de (by
  rw[hg,if_neg (TA hx),if_pos ⟨hx,Sy Ao⟩])
 have f4:∀y,d<=y->y<k+1->y≠d->d<=y - 1/\y - 1<k:=λy y1 y2 y3=>by
  have y4:d<y:=Sp y1 (Td y3);exact⟨Sd y4,Ru (aN (RJ (RU _) y4) (Rx _)) (Sy y2)⟩
 refine⟨bl.join (m:=d) (λx y a1 a2 a3=>?_) (λx y a1 a2 a3=>?_) λx y a1 a2 a3 a4=>?_,λx hx=>f1 x (Ru hx hd)⟩
 ·rw[de (f1 x (RJ a2 a3)),de (f1 y a3)];exact hs x y a1 a2 (Ru a3 ND)
 ·by_cases c:y=d
  ·rw[c,Sa (c▸a2) a1];exact UX _
  ·have hy:=f4 y (Rk a1 a2) a3 c;rw[f3 y (Sp (Rk a1 a2) (Td c)) a3];by_cases e:x=d
   ·rw[e,f2];exact h2 _ hy.1 hy.2
   ·rw[f3 x (Sp a1 (Td e)) (RJ a2 a3)];exact hs _ _ (Rk hd (f4 x a1 (RJ a2 a3) e).1) (XO a2 1) hy.2
 ·rw[de (f1 x a2)];by_cases c:y=d
  ·rw[c,f2];exact h1 x a1 a2
  ·have hy:=f4 y a3 a4 c;rw[f3 y (Sp a3 (Td c)) a4];exact hs _ _ a1 (Rk (RS a2) hy.1) hy.2
theorem CP{l r:Nat}(h: ¬l≥r):l<=(l+r) / 2/\(l+r) / 2<r:=by omega
structure I5(kv:R5->Int)(arr:Array R5)(lo k l r:Nat):Prop where
 le:l<=r
 top:r<=k
 dn:∀x,lo<=x->x<lo+l->kA kv arr x<=kA kv arr (lo+k)
 up:∀x,lo+r<=x->x<lo+k->kA kv arr (lo+k)<=kA kv arr x
theorem vy(hL:dk prog w A s κ G kv)(hH:Bd κ G s0 lo bW)(hK:lG lo s0 st){k:Nat}(hk:k<bW)(hs:bl kv (arrOf st) lo (lo+k)){Q:JF->SortSt->Prop}
  (h:∀l,I5 kv (arrOf st) lo k l l->Q (none,l,l) st):wpS (RF prog w) A E s (vO lo k) Q st:=by
 unfold vO;have jw:=SD hk lo;refine di (λc=>c.2.2 - c.2.1) (λc st'=>st'=st/\c.1=none/\I5 kv (arrOf st) lo k c.2.1 c.2.2) ⟨rfl,rfl,RU _,Rx _,λx h1 h2=>absurd h2 (SV.mpr h1),λx h1 h2=>absurd h2 (SV.mpr h1)⟩
  (SK _ _) ?_ ?_
 ·rintro⟨c0,l,r⟩ st' ⟨rfl,(rfl:c0=none),(hI:I5 kv _ lo k l r)⟩ (h0:r - l=0);have e:=Sa hI.le (Tp h0);subst e;exact h l hI
 ·rintro x ⟨c0,l,r⟩ st' ⟨rfl,(rfl:c0=none),(hI:I5 kv _ lo k l r)⟩;refine bt (λ(c:l≥r)=>?_) λ(c: ¬l≥r)=>?_
  ·have e:=Sa hI.le c;subst e;exact R2 (h l hI)
  ·have hm:=CP c;show wpS (RF prog w) A E s (uS lo k l r ((l+r) / 2)) _ _;generalize (l+r) / 2=m at hm⊢;have K8:=Ru hm.2 hI.top;unfold uS;refine RP (iN hL hH hK jw (R0 (SD K8 lo) jw) ?_);refine bt (λd=>?_) λd=>?_
   ·have d:=TM (of_decide_eq_true d);exact R2 ⟨⟨rfl,rfl,hm.1,RS K8,hI.dn,λx h1 h2=>SX d (hs _ x (Sh _ _) h1 h2)⟩,Wk hm.1 hm.2⟩
   ·have d:=Uk.mp λe=>d (decide_eq_true e);exact R2 ⟨⟨rfl,rfl,hm.2,hI.top,λx h1 h2=>SX (hs x (lo+m) h1 (Sy h2) (SD K8 lo)) d,hI.up⟩,Uo (T5 c) (WL hm.1)⟩
theorem wpS_binarySort(hL:dk prog w A s κ G kv)(hH:Bd κ G s0 lo bW)(hK:lG lo s0 st){n ok:Nat}(h1:1<=ok)(Ia:ok<=n)(hn:n<=bW)(hs:bl kv (arrOf st) lo (lo+ok)){Q:Bool->SortSt->Prop}
  (h:∀st',lG lo s0 st'->bl kv (arrOf st') lo (lo+n)->Q true st'):wpS (RF prog w) A E s (binarySort' lo n ok) Q st:=by
 rw[o9,YL h1];refine RP (Vd (Vs (I:=λk c st'=>c=(none,())/\lG lo s0 st'/\bl kv (arrOf st') lo (lo+k)) (Q:=λc st'=>c=(none,())/\lG lo s0 st'/\bl kv (arrOf st') lo (lo+n)) ?step ?fin ⟨rfl,hK,hs⟩) ?post)
 case post=>
  rintro c st' ⟨rfl,yK,gd⟩;exact R2 (h st' yK gd)
 case fin=>
  rintro c st' ⟨hc,yK,gd⟩;rw[TY Ia]at gd;exact⟨hc,yK,gd⟩
 case step=>
  rintro k c st' _ mY ⟨rfl,yK,gd⟩;have hk:=Ru mY hn;refine RP (vy hL hH yK hk gd λl hI=>?_);have hi:=Fp (hH.at yK hk) (Sh lo l) (Se hI.top lo) gd hI.dn hI.up;show wpS (RF prog w) A E s (do moveDown' (lo+k) (lo+l);pure (ForInStep.yield (none,()))) _ _;rw[moveDown'_eq];exact RP (VD (R2 ⟨rfl,yK.set (bubble_perm _ _ _) hi.2,hi.1⟩))
end
noncomputable abbrev jE:=Nat×Nat×Nat
noncomputable def BI(pw:Nat)(P:Array jE):Array jE:=P.modify (P.size - 1) λx=>match x with
 |(st,len,_)=>(st,len,pw)
noncomputable def AU(lo n:Nat):SRun (ForInStep (Option Unit×Nat)):=do
 modify λs=>setPending s ((pendingOf s).push (lo,n,0))
 pure (.yield (none,lo+n))
noncomputable def vb(size pw:Nat):SRun (Option Unit×Unit):=forIn [:size] ((none,()):Option Unit×Unit) λω ω=>do
 let s ←get
 let some (_,_,HF):=(if(pendingOf s).size>1 then(pendingOf s)[(pendingOf s).size - 2]? else none)|pure (.done (none,()))
 if HF<=pw then pure (.done (none,()))else do
  let b ←mergeAt' ((pendingOf s).size - 2)
  if !b then pure (.done (some (),()))else pure (.yield (none,()))
noncomputable def wh(size lo n:Nat):SRun (ForInStep (Option Unit×Nat)):=do
 let s ←get
 match(pendingOf s).back? with
 |some (s1,n1,_)=>do
  let c ←vb size (power' size (2*s1+n1) (2*s1+n1+n1+n) size)
  SE (motive:=λω=>SRun (ForInStep (Option Unit×Nat))) c.1 (λr=>pure (.done (some r,lo))) λω=>do
   modify λs=>setPending s (BI (power' size (2*s1+n1) (2*s1+n1+n1+n) size) (pendingOf s))
   AU lo n
 |_=>AU lo n
noncomputable def uA(size jJ lo:Nat):SRun (ForInStep (Option Unit×Nat)):=
 if lo≥size then pure (.done (none,lo))else do
  let some n ←countRun' lo (size - lo)|pure (.done (some (),lo))
  if n<jJ then do
   rule "list.sort.binary-insertion"
   let b ←binarySort' lo (min (size - lo) jJ) n
   if !b then pure (.done (some (),lo))else wh size lo (min (size - lo) jJ)
  else wh size lo n
noncomputable def yR(p:Array jE):Nat:=
 if(if p.size - 2>0 then p[p.size - 2 - 1]?.map (·.2.1)else none).any (· <(p[p.size - 2+1]?.elim 0 (·.2.1)))then p.size - 2 - 1 else p.size - 2
noncomputable def rQ(size:Nat):SRun (Option Unit×Unit):=forIn [:size] ((none,()):Option Unit×Unit) λω ω=>do
 let s ←get
 if(pendingOf s).size<=1 then pure (.done (none,()))else do
  let b ←mergeAt' (yR (pendingOf s))
  if !b then pure (.done (some (),()))else pure (.yield (none,()))
theorem tS:sortRuns'=(do
 let s ←get
 let c ←forIn [:(arrOf s).size] ((none,0):Option Unit×Nat) λω c=>uA (arrOf s).size (minRun' (arrOf s).size (arrOf s).size 0) c.2
 SE (motive:=λω=>SRun Unit) c.1 (λr=>pure r) λω=>do
  let c ←rQ (arrOf s).size
  SE (motive:=λω=>SRun Unit) c.1 (λr=>pure r) λω=>pure ()):=rfl
noncomputable def jU(kv:R5->Int)(arr:Array R5):List jE->Nat->Nat->Prop
 |[],a,z=>a=z
 |r::l,a,z=>r.1=a/\0<r.2.1/\bl kv arr a (a+r.2.1)/\jU kv arr l (a+r.2.1) z
theorem jU.le:∀ {l:List jE} {a z:Nat},jU kv arr l a z->a+l.length<=z
 |[],_,_,h=>UI h
 |r::l,a,z,h=>by
  have h2:=jU.le h.2.2.2;have h3:=h.2.1;rw[SS];omega
theorem jU.app:∀ {l l':List jE} {a z:Nat},jU kv arr (l++l') a z↔∃m,jU kv arr l a m/\jU kv arr l' m z
 |[],l',a,z=>⟨λh=>⟨a,rfl,h⟩,λ⟨m,h,h2⟩=>(show a=m from h)▸h2⟩
 |r::l,l',a,z=>⟨λh=>(jU.app.mp h.2.2.2).elim λm hm=>⟨m,⟨h.1,h.2.1,h.2.2.1,hm.1⟩,hm.2⟩,λ⟨m,h,h2⟩=>⟨h.1,h.2.1,h.2.2.1,jU.app.mpr ⟨m,h.2.2.2,h2⟩⟩⟩
theorem bl.congr{iB:Array R5}(h:bl kv arr i j)(e:∀x,i<=x->x<j->iB[x]?=arr[x]?):bl kv iB i j:=λx y h1 h2 h3=>by
 rw[de (e x h1 (RJ h2 h3)),de (e y (Rk h1 h2) h3)];exact h x y h1 h2 h3
theorem jU.congr{iB:Array R5}:∀ {l:List jE} {a z:Nat},jU kv arr l a z->(∀x,a<=x->x<z->iB[x]?=arr[x]?)->jU kv iB l a z
 |[],_,_,h,_=>h
 |r::l,a,z,h,e=>⟨h.1,h.2.1,h.2.2.1.congr λx x1 x2=>e x x1 (Ru x2 (Rk (Sh _ _) h.2.2.2.le)),h.2.2.2.congr λx x1 x2=>e x (Rk (Sh _ _) x1) x2⟩
theorem jU.pw{f:jE->jE}(hf:∀r,(f r).1=r.1/\(f r).2.1=r.2.1):∀ {l:List jE} {a z i:Nat},jU kv arr l a z->jU kv arr (l.modify i f) a z
 |[],_,_,0,h=>h
 |[],_,_,_+1,h=>h
 |r::l,a,z,0,h=>by
  show jU kv arr (f r::l) a z;unfold jU;rw[(hf r).1,(hf r).2];exact h
 |r::l,a,z,i+1,h=>⟨h.1,h.2.1,h.2.2.1,jU.pw hf h.2.2.2⟩
theorem jU.two{P:Array jE}{z:Nat}(h:jU kv arr P.toList 0 z)(hi:i+1<P.size):∃l sa na pa nb pb l',P.toList=l++(sa,na,pa)::(sa+na,nb,pb)::l'/\l.length=i/\
  P[i]?=some (sa,na,pa)/\P[i+1]?=some (sa+na,nb,pb)/\0<na/\0<nb/\sa+na+nb<=z/\bl kv arr sa (sa+na)/\bl kv arr (sa+na) (sa+na+nb)/\jU kv arr l 0 sa/\jU kv arr l' (sa+na+nb) z:=by
 have Kc:i+1<P.toList.length:=hi;have e:P.toList=P.toList.take i++P.toList[i]::P.toList[i+1]::P.toList.drop (i+2):=by
  rw[<-VN Kc,<-VN (SH Kc),To]
 have hl:(P.toList.take i).length=i:=List.length_take_of_le (RS (SH Kc));rw[e]at h;refine aD (jU.app.mp h) λm je fS=>?_;have g1:P[i]?=some P.toList[i]:=by rw[<-TH,RT]
 have g2:P[i+1]?=some P.toList[i+1]:=by rw[<-TH,RT]
 generalize P.toList[i]=u at e fS g1;generalize P.toList[i+1]=v at e fS g2;obtain⟨sa,na,pa⟩:=u;obtain⟨sb,nb,pb⟩:=v;refine rM fS λx1 x2 x3 y1 y2 y3 y4=>?_;clear fS;have x1:sa=m:=x1;have y1:sb=m+na:=y1;subst x1;subst y1;exact⟨_,sa,na,pa,nb,pb,_,e,hl,g1,g2,x2,y2,Rk (Sh _ _) y4.le,x3,y3,je,y4⟩
theorem FD{P:Array jE}{l l':List jE}{a b x:jE}(e:P.toList=l++a::b::l')(hl:l.length=i):((P.setIfInBounds i x).eraseIdxIfInBounds (i+1)).toList=l++x::l':=by
 rw[WD,W5,e,<-hl,Xy _ _ (Rx _),Wd,Wx (XX _),Nat.succ_sub (Rx _),Wd];rfl
section
variable{prog:Sw}{w:TG}{s:Ro}{G:R5->Prop}
variable{a0:Array R5}{st:SortSt}{lo:Nat}
structure mB(κ:SortKind)(kv:R5->Int)(a0:Array R5)(lo:Nat)(st:SortSt):Prop where
 kind:kindOf st=κ
 failed:failedOf st=none
 perm:(arrOf st).Perm a0
 runs:jU kv (arrOf st) (pendingOf st).toList 0 lo
 le:lo<=a0.size
theorem mB.merge(hL:dk prog w A s κ G kv)(hG:GA G a0)(h:mB κ kv a0 lo st)(hi:i+1<(pendingOf st).size){Q:Bool->SortSt->Prop}
  (hq:∀st',mB κ kv a0 lo st'->(pendingOf st').size+1=(pendingOf st).size->(∀x,lo<=x->(arrOf st')[x]?=(arrOf st)[x]?)->Q true st'):wpS (RF prog w) A E s (mergeAt' i) Q st:=by
 refine jQ (h.runs.two hi) λl sa na pa nb pb l' e hl e1 e2 El F6 hz hX hY kz wX=>?_;refine tQ hL h.kind (hG.perm h.perm) h.failed e1 e2 El F6 (by rw[h.perm.size_eq];exact Rk hz h.le) hX hY λst' k f p m=>?_;have ep:(pendingOf st').toList=l++(sa,na+nb,pa)::l':=by
  rw[p];exact FD e hl
 refine hq st' ⟨k,f,m.perm.trans h.perm,?_,h.le⟩ ?_ λx hx=>m.out x (.inr (Rk hz hx))
 ·rw[ep];refine jU.app.mpr ⟨sa,kz.congr λx ω hx=>m.out x (.inl hx),rfl,Ru El (Sh _ _),?_,?_⟩
  ·rw[<-VX];exact m.aK
  ·rw[<-VX];exact wX.congr λx hx ω=>m.out x (.inr hx)
 ·show(pendingOf st').toList.length+1=(pendingOf st).toList.length;rw[ep,e,RQ,RQ];rfl
theorem mB.push(h:mB κ kv a0 lo st){n:Nat}(hn:0<n)(hle:lo+n<=a0.size)(hs:bl kv (arrOf st) lo (lo+n)):mB κ kv a0 (lo+n) (setPending st ((pendingOf st).push (lo,n,0))):=
 ⟨h.kind,h.failed,h.perm,by
  show jU kv (arrOf st) ((pendingOf st).push (lo,n,0)).toList 0 (lo+n);rw[Array.toList_push];exact jU.app.mpr ⟨lo,h.runs,rfl,hn,hs,rfl⟩,hle⟩
theorem Ab{n:Nat}(h:n>1):n - 2+1<n:=by omega
theorem v8(hL:dk prog w A s κ G kv)(hG:GA G a0)(h:mB κ kv a0 lo st){n size pw:Nat}(hs:bl kv (arrOf st) lo (lo+n)){Q:Option Unit×Unit->SortSt->Prop}
  (hq:∀st',mB κ kv a0 lo st'->bl kv (arrOf st') lo (lo+n)->Q (none,()) st'):wpS (RF prog w) A E s (vb size pw) Q st:=by
 unfold vb;refine Vs (I:=λω c st'=>c=(none,())/\mB κ kv a0 lo st'/\bl kv (arrOf st') lo (lo+n)) ?_ (λc st' hi=>hi.1▸hq st' hi.2.1 hi.2.2) ⟨rfl,h,hs⟩;rintro x c st' _ _ ⟨rfl,hI,gd⟩;refine RP (Wq ?_);by_cases c:(pendingOf st').size>1
 ·have hi:=Ab c;rw[if_pos c,getElem?_pos (pendingOf st') ((pendingOf st').size - 2) (SH hi)];refine bt (λω=>R2 (hq st' hI gd)) λω=>RP (hI.merge hL hG hi λqQ h2 ω h3=>R2 ⟨rfl,h2,gd.congr λx hx ω=>h3 x hx⟩)
 ·rw[if_neg c];exact R2 (hq st' hI gd)
theorem pz(hL:dk prog w A s κ G kv)(hG:GA G a0)(h:mB κ kv a0 lo st){n size:Nat}(hn:0<n)(hle:lo+n<=a0.size)(hs:bl kv (arrOf st) lo (lo+n)){Q:ForInStep (Option Unit×Nat)->SortSt->Prop}
  (hq:∀st',mB κ kv a0 (lo+n) st'->Q (.yield (none,lo+n)) st'):wpS (RF prog w) A E s (wh size lo n) Q st:=by
 unfold wh;refine RP (Wq ?_);cases(pendingOf st).back? with
 |none=>exact RP (VD (R2 (hq _ (h.push hn hle hs))))
 |some r=>
  obtain⟨s1,n1,p1⟩:=r;refine RP (v8 hL hG h hs λst' h' gd=>?_);refine RP (VD ?_);refine RP (VD (R2 (hq _ (mB.push (st:=setPending st' (BI (power' size (2*s1+n1) (2*s1+n1+n1+n) size) (pendingOf st'))) ⟨h'.kind,h'.failed,h'.perm,?_,h'.le⟩ hn hle gd))));show jU kv (arrOf st') (BI _ (pendingOf st')).toList 0 lo;unfold BI;rw[Array.toList_modify];refine jU.pw ?_ h'.runs;exact λr=>⟨rfl,rfl⟩
theorem mB.kp{st':SortSt}(h:mB κ kv a0 lo st)(k:lG lo st st'):mB κ kv a0 lo st':=
 ⟨k.kind.trans h.kind,k.failed.trans h.failed,k.perm.trans h.perm,by rw[k.pend];exact h.runs.congr λx ω hx=>k.low x hx,h.le⟩
theorem vN(hL:dk prog w A s κ G kv)(hG:GA G a0)(h:mB κ kv a0 lo st){jJ:Nat}{Q:ForInStep (Option Unit×Nat)->SortSt->Prop}
  (hd:lo=a0.size->Q (.done (none,lo)) st) (hq:∀st' n,0<n->mB κ kv a0 (lo+n) st'->Q (.yield (none,lo+n)) st'):wpS (RF prog w) A E s (uA a0.size jJ lo) Q st:=by
 unfold uA;refine bt (λc=>R2 (hd (Sa h.le c))) λc=>?_;have el:lo+(a0.size - lo)=a0.size:=Th h.le;have hH:Bd κ G st lo (a0.size - lo):=⟨h.kind,hG.perm h.perm,by rw[el,h.perm.size_eq];exact Rx _⟩;have hle:∀ {m},m<=a0.size - lo->lo+m<=a0.size:=λhm=>by
  rw[<-el];exact Se hm lo
 refine RP (wpS_countRun hL hH (UL (T5 c)) λm Fo k je fS hs=>?_);refine bt (λd=>?_) λω=>pz hL hG (h.kp k) je (hle fS) hs λqQ h2=>hq qQ m je h2;refine RP (WS (VE ⟨rfl,?_⟩));have FU:m<=min (a0.size - lo) jJ:=Nat.le_min.mpr ⟨fS,RS d⟩;have CS:=Ru je FU;have Ot:min (a0.size - lo) jJ<=a0.size - lo:=UH _ _;exact RP (wpS_binarySort hL hH k je FU Ot hs λqQ k2 mh=>pz hL hG (h.kp k2) CS (hle Ot) mh λKu h3=>hq Ku _ CS h3)
theorem xQ{p:Array jE}(h:p.size>1):yR p+1<p.size:=by
 have e:∀c:Bool,(if c=true then p.size - 2 - 1 else p.size - 2)<=p.size - 2:=λc=>by
  cases c with
  |true=>exact SK _ _
  |false=>exact Rx _
 exact RJ (Tf (e _) 1) (Ab h)
theorem tl(hL:dk prog w A s κ G kv)(hG:GA G a0)(h:mB κ kv a0 a0.size st){Q:Option Unit×Unit->SortSt->Prop}
  (hq:∀st',mB κ kv a0 a0.size st'->(pendingOf st').size<=1->Q (none,()) st'):wpS (RF prog w) A E s (rQ a0.size) Q st:=by
 unfold rQ;refine Vs (I:=λx c st'=>c=(none,())/\mB κ kv a0 a0.size st'/\x+(pendingOf st').size<=a0.size+1) ?_ (λc st' hi=>?_) ⟨rfl,h,?_⟩
 ·rintro x c st' _ _ ⟨rfl,hI,hx⟩;refine RP (Wq (bt (λc=>R2 (hq st' hI c)) λc=>RP (hI.merge hL hG (xQ (T5 c)) λqQ h2 e ω=>R2 ⟨rfl,h2,?_⟩)));rw[<-e,<-VX,Nat.add_right_comm]at hx;exact hx
 ·refine oA hi λzr zw=>?_;clear hi;subst zr;refine oA zw λhI hx=>?_;clear zw;rw[TY (RU _)]at hx;exact hq st' hI (Xp hx)
 ·have e:=h.runs.le;exact Tc e
theorem wpS_sortRuns(hL:dk prog w A s κ G kv)(hk:kindOf st=κ)(hG:GA G (arrOf st))(hf:failedOf st=none)(hp:pendingOf st=#[]){Q:Unit->SortSt->Prop}
  (h:∀st',(arrOf st').Perm (arrOf st)->failedOf st'=none->(arrOf st').toList.Pairwise (Dw kv)->Q () st'):wpS (RF prog w) A E s sortRuns' Q st:=by
 rw[tS];refine RP (Wq ?_);have h0:mB κ kv (arrOf st) 0 st:=⟨hk,hf,.refl _,by rw[hp];exact rfl,RU _⟩;refine RP (Vd (Vs (I:=λx c st'=>c.1=none/\x<=c.2/\mB κ kv (arrOf st) c.2 st') (Q:=λc st'=>c.1=none/\mB κ kv (arrOf st) (arrOf st).size st') ?_ (λc st' hi=>⟨hi.1,?_⟩) ⟨rfl,Rx _,h0⟩) ?_)
 ·rintro x ⟨c0,lo⟩ st' _ _ ⟨(rfl:c0=none),hx,(hI:mB κ kv (arrOf st) lo st')⟩;exact vN hL hG hI (λe=>⟨rfl,e▸hI⟩) λqQ n hn h2=>⟨rfl,RJ hx (Up hn),h2⟩
 ·have e:=hi.2.1;rw[TY (RU _)]at e;exact Sa hi.2.2.le e▸hi.2.2
 ·rintro⟨c0,lo⟩ st' ⟨(rfl:c0=none),hI⟩;refine RP (tl hL hG hI λqQ h2 h1=>R2 (h qQ h2.perm h2.failed (jc ?_)));have hr:=h2.runs;rw[h2.perm.size_eq];have qK:(pendingOf qQ).toList.length<=1:=h1;generalize (pendingOf qQ).toList=l at hr qK;cases l with
  |nil=>
   rw[<-show 0=(arrOf st).size from hr];exact λx y ω ω h3=>absurd h3 (Ui _)
  |cons r t=>
   cases t with
   |nil=>
    have e:0+r.2.1=(arrOf st).size:=hr.2.2.2;rw[<-e];exact hr.2.2.1
   |cons u t=>exact absurd (Nat.le_of_succ_le_succ qK) (Nat.not_succ_le_zero _)
end
section
variable{prog:Sw}{w:TG}{s:Ro}{G:R5->Prop}
theorem mS{p:R5}(h:p∈(pairsOf vs).toList):p=(p.2,p.2)/\p.2∈vs:=by
 rw[pairsOf_toList]at h;have e:=mem_zip_self h;exact⟨Prod.ext e.1 rfl,e.1▸e.2⟩
theorem o8{a:RD}{n:Nat}{P:Fin->Ro->Prop}(ho:s.heap.get? a=some (seqObj "list" vs.toArray n))(aF:vs.length<=2^20)(hG:∀v∈vs,G (v,v))
  (hK:2<=vs.length->∀h',(∀b o,b≠a->s.heap.get? b=some o->h'.get? b=some o)->
   (∀Q:SortKind->Ro->Prop,Q κ {s with heap:=h'}->RM (RF prog w) A (keyKind' vs.toArray) Q E {s with heap:=h'})/\dk prog w A {s with heap:=h'} κ G kv)
  (h:∀out:List Rz,out.Perm vs->out.Pairwise (λx y=>kv (x,x)<=kv (y,y))->P (.done (.ret .none)) {s with heap:=sortedHeap s.heap a vs out.toArray}):
  RM (RF prog w) A (Builtin.«list.sort» ⟨[.ref a],[]⟩) P E s:=by
 rw[list_sort_plain];have ha:a<s.heap.objs.size:=Ss ho;have uf:vs.toArray.size<=sizeLine:=by
  rw[sizeLine_eq];exact Rk aF (by decide)
 refine Rp (listItems_at ho rfl ?_);refine Rp (listUpdate_at ho rfl ?_ uf (RU _));obtain⟨e1,Bj⟩:∃e1,(s.heap.update a (Us λω=>#[])).get? a=some (seqObj "list" #[] e1):=⟨_,get?_update_seq ho (λω=>#[])⟩;refine Rp (seqEpoch_at Bj rfl ?_);refine Rp (XE ?_ uf);refine Rp (wpAny_newList ?_ (RU _));refine Sr ?_;have Jv:(((s.heap.update a (Us λω=>#[])).push (seqObj "tuple" vs.toArray 0)).push (seqObj "list" #[] 0)).get? a=some (seqObj "list" #[] e1):=Ry _ (Ry _ Bj);have keep:∀b o,b≠a->s.heap.get? b=some o->(((s.heap.update a (Us λω=>#[])).push (seqObj "tuple" vs.toArray 0)).push (seqObj "list" #[] 0)).get? b=some o:=λb o hb e=>
  Ry _ (Ry _ (by rw[Vb _ _ (Td hb)];exact e))
 show RM (RF prog w) A _ P E {s with heap:=((s.heap.update a (Us λω=>#[])).push (seqObj "tuple" vs.toArray 0)).push (seqObj "list" #[] 0)};dsimp only;have fin:∀st':SortSt,(arrOf st').Perm (pairsOf vs)->(arrOf st').toList.Pairwise (Dw kv)->
   P (.done (.ret .none)) {s with heap:=sortedHeap s.heap a vs ((arrOf st').map (·.2))}:=by
  intro st' hp hs;have hl:=Vz.mp hp;have e:(arrOf st').map (·.2)=((arrOf st').toList.map (·.2)).toArray:=by rw[<-Array.toList_map]
  rw[e];refine h _ ?_ (VQ.mpr (hs.imp_of_mem λ{p q} hp hq hle=>?_))
  ·have h1:=hl.map (·.2);rwa[pairsOf_toList,List.map_snd_zip (Rx _)]at h1
  ·rw[<- (mS (hl.mem_iff.mp hp)).1,<- (mS (hl.mem_iff.mp hq)).1];exact hle
 have fits:∀st':SortSt,(arrOf st').Perm (pairsOf vs)->((arrOf st').map (·.2)).size<=sizeLine+1:=λst' hp=>by
  rw[Array.size_map,hp.size_eq,pairsOf_size];exact Tc uf
 by_cases h2:vs.toArray.size<2
 ·rw[if_pos h2,if_pos h2];refine Rp (RK ?_);rw[StateT.run_pure];refine Rp (RK ?_);dsimp only;refine Rp (seqEpoch_at Jv rfl ?_);refine Rp (listUpdate_at Jv rfl ?_ (RU _) (fits (Wu general' (vs.toArray.zip vs.toArray) #[] 7 none) (XD _)));simp only[bne_self_eq_false,Sx,if_false];refine RK (fin (Wu general' (vs.toArray.zip vs.toArray) #[] 7 none) (XD _) (jc λi j ω FR hj=>?_));have EI:j<2:=Ru hj (by show(pairsOf vs).size<=2;rw[pairsOf_size];exact RS h2);have BB:j<(pairsOf vs).size:=hj;rw[pairsOf_size]at BB;have N9:j=0:=YT.mp (Ru BB (Sy h2));have Mo:i=0:=Xe.mp (by rw[<-N9];exact FR);rw[N9,Mo];exact UX _
 ·rw[if_neg h2,if_neg h2];have hk:=hK (T6 h2) _ keep;refine Rp (hk.1 _ ?_);refine Rp (Sf (wpS_sortRuns (st:=Wu κ (vs.toArray.zip vs.toArray) #[] 7 none)
   (Q:=λω st'=>(arrOf st').Perm (pairsOf vs)/\failedOf st'=none/\(arrOf st').toList.Pairwise (Dw kv)) hk.2 rfl (λi p e=>?_) rfl rfl λst' a1 a2 a3=>⟨a1,a2,a3⟩) ?_ λω ω e=>e)
  ·have e2:=mS (vs:=vs) (p:=p) (by rw[XC];exact Xw e);rw[e2.1];exact hG _ e2.2
  ·rintro⟨⟨⟩,st'⟩ s' ⟨rfl,hp,hf,hs⟩;dsimp only;refine Rp (seqEpoch_at Jv rfl ?_);refine Rp (listUpdate_at Jv rfl ?_ (RU _) (fits st' hp));rw[hf];simp only[bne_self_eq_false,Sx,if_false];exact RK (fin st' hp hs)
theorem tA{l:RD}{Q:Rz->Ro->Prop}(hl:s.heap.IsList l vs.toArray)(aF:vs.length<=2^20)(hG:∀v∈vs,G (v,v))
  (hK:2<=vs.length->∀h',(∀b o,s.heap.get? b=some o->h'.get? b=some o)->
   (∀ (E:Rz->Ro->Prop) (Q:SortKind->Ro->Prop),Q κ {s with heap:=h'}->RM (RF prog w) A.in1.in1 (keyKind' vs.toArray) Q E {s with heap:=h'})/\dk prog w A.in1.in1 {s with heap:=h'} κ G kv)
  (h:∀h' (out:List Rz) n,(∀b o,s.heap.get? b=some o->h'.get? b=some o)->s.heap.get? (s.heap.objs.size+1)=none->out.Perm vs->out.Pairwise (λx y=>kv (x,x)<=kv (y,y))->
   h'.get? (s.heap.objs.size+1)=some (seqObj "list" out.toArray n)->Q (.ref (s.heap.objs.size+1)) {s with heap:=h'}):
  RM (RF prog w) A (call (.builtin "sorted") [.ref l]) Q E s:=by
 have uf:vs.length<=sizeLine:=by
  rw[sizeLine_eq];exact Rk aF (by decide)
 refine Calls.call_function_entry kind_sorted plain_sorted entry_sorted (args_sorted1 _) ?_;unfold Builtin.«sorted»;refine Rp (m:=checkCount "sorted" 1 1 _) (RK ?_);refine Rp (collect_list hl ?_ uf);refine Rp (wpAny_newList ?_ uf);generalize yF:(s.heap.push (seqObj "list" #[] 0)).update s.heap.objs.size (Us (· ++vs.toArray))=h1;have yN:h1.objs.size=s.heap.objs.size+1:=by rw[<-yF,Heap.size_update,size_push']
 have k1:∀b o,s.heap.get? b=some o->h1.get? b=some o:=λb o e=>by
  have hb:s.heap.objs.size≠b:=λq=>S8 _ (q▸Ss e);rw[<-yF,Vb _ _ hb];exact Ry _ e
 have aX:∀b o,s.heap.get? b=some o->b≠s.heap.objs.size+1:=λb o e q=>S8 _ (SH (q▸Ss e));have k2:∀b o,s.heap.get? b=some o->(h1.push (seqObj "list" vs.toArray 0)).get? b=some o:=λb o e=>Ry _ (k1 b o e);have JL:(h1.push (seqObj "list" vs.toArray 0)).get? (s.heap.objs.size+1)=some (seqObj "list" vs.toArray 0):=by
  rw[<-yN];exact RL _ rfl
 show RM _ _ _ _ _ {s with heap:=h1.push (seqObj "list" vs.toArray 0)};rw[yN];have nX:s.heap.get? (s.heap.objs.size+1)=none:=by
  cases e:s.heap.get? (s.heap.objs.size+1)with
  |none=>rfl
  |some o=>exact absurd rfl (aX _ o e)
 refine Rp (Sr (Y' slot_list_sort ⟨_,JL,rfl⟩ entry_list_sort (o8 (κ:=κ) (G:=G) (kv:=kv) JL aF hG (λh2 h' hk=>have hx:=hK h2 h' (λb o e=>hk b o (aX b o e) (k2 b o e));⟨hx.1 _,hx.2⟩) λout a1 a2=>⟨_,rfl,?_⟩) (args_list_sort _)));refine RK ⟨_,rfl,?_⟩;have ha:=Ss JL;have hg:=get?_update_seq JL (λω=>#[]);refine h _ out _ (λb o e=>?_) nX a1 a2 (get?_update_seq (Ry _ (Ry _ hg)) λω=>out.toArray);show(sortedHeap _ _ _ _).get? b=some o;unfold sortedHeap;rw[Vb _ _ (Td (aX b o e))];refine Ry _ (Ry _ ?_);rw[Vb _ _ (Td (aX b o e))];exact k2 b o e
end
structure ic{α:Type}(C:Cx)(RA:Sg->Prop)(g:α->PV)(fW:α->Int)(P:α->Prop)(κ:SortKind):Prop where
 lt:∀ (A:Sg) (S:RD->Prop) (s:Ro) (x y:Rz) (a b:α) (E:Rz->Ro->Prop) (Q:Bool->Ro->Prop),RA A->P a->P b->Rd C.prog C.w S s.heap x (g a)->Rd C.prog C.w S s.heap y (g b)->
  Q (decide (fW a<fW b)) s->RM (RF C.prog C.w) A (keyLt' κ x y) Q E s
 kind:∀ (A:Sg) (S:RD->Prop) (s:Ro) (vs:List Rz) (L:List α) (E:Rz->Ro->Prop) (Q:SortKind->Ro->Prop),2<=vs.length->(∀a∈L,P a)->ab C.prog C.w S s.heap vs (L.map g)->
  Q κ s->RM (RF C.prog C.w) A (keyKind' vs.toArray) Q E s
 Gr:∀ (S:RD->Prop) (h:Heap) (x:Rz) (a b:α),P a->P b->Rd C.prog C.w S h x (g a)->Rd C.prog C.w S h x (g b)->fW a=fW b
section
variable{prog:Sw}{w:TG}{S:RD->Prop}{g:α->PV}
theorem ab.cons_inv{L:List α}(r:ab prog w S h (v::vs) (L.map g)):∃a L',L=a::L'/\Rd prog w S h v (g a)/\ab prog w S h vs (L'.map g):=by
 cases L with
 |nil=>cases r
 |cons a L'=>
  cases r with
  |cons r1 r2=>exact⟨a,L',rfl,r1,r2⟩
theorem ab.perm(p:vs.Perm us):∀ {L:List α},ab prog w S h vs (L.map g)->∃L',L.Perm L'/\ab prog w S h us (L'.map g):=by
 induction p with
 |nil=>exact λr=>⟨_,.refl _,r⟩
 |cons v p ih=>
  intro L r;refine aM r.cons_inv λa L1 zr zw=>?_;subst zr;refine oA zw λr1 r2=>?_;clear zw;refine aD (ih r2) λL2 p2 r3=>?_;exact⟨a::L2,p2.cons a,.cons r1 r3⟩
 |swap x y l=>
  intro L r;refine aM r.cons_inv λa L1 zr zw=>?_;subst zr;refine oA zw λr1 r2=>?_;clear zw;refine aM r2.cons_inv λb L2 zr zw=>?_;subst zr;refine oA zw λr3 r4=>?_;clear zw;exact⟨b::a::L2,.swap b a L2,.cons r3 (.cons r1 r4)⟩
 |trans p1 p2 P8 Jw=>
  intro L r;refine aD (P8 r) λL1 q1 r1=>?_;refine aD (Jw r1) λL2 q2 r2=>?_;exact⟨L2,q1.trans q2,r2⟩
theorem ab.DT:∀ {L:List α},ab prog w S h vs (L.map g)->(∀v∈vs,∃a∈L,Rd prog w S h v (g a))/\(∀a∈L,∃v∈vs,Rd prog w S h v (g a)):=by
 induction vs with
 |nil=>
  intro L r;cases L with
  |nil=>exact⟨λω hv=>(nomatch hv),λω ha=>(nomatch ha)⟩
  |cons a L=>cases r
 |cons v vs ih=>
  intro L r;refine aM r.cons_inv λa L1 zr zw=>?_;subst zr;refine oA zw λr1 r2=>?_;clear zw;have i:=ih r2;refine⟨λu hu=>?_,λb hb=>?_⟩
  ·rcases Rr.mp hu with rfl|hu
   ·exact⟨a,.head _,r1⟩
   ·refine aD (i.1 u hu) λb hb rb=>?_;exact⟨b,.tail _ hb,rb⟩
  ·rcases Rr.mp hb with rfl|hb
   ·exact⟨v,.head _,r1⟩
   ·refine aD (i.2 b hb) λu hu ru=>?_;exact⟨u,.tail _ hu,ru⟩
theorem ab.pw{kv:Rz->Int}{fW:α->Int}:∀ {L:List α},ab prog w S h vs (L.map g)->(∀v a,a∈L->Rd prog w S h v (g a)->kv v=fW a)->vs.Pairwise (λx y=>kv x<=kv y)->L.Pairwise λa b=>fW a<=fW b:=by
 induction vs with
 |nil=>
  intro L r _ _;cases L with
  |nil=>exact .nil
  |cons a L=>cases r
 |cons v vs ih=>
  intro L r hk hp;refine aM r.cons_inv λa L1 zr zw=>?_;subst zr;refine oA zw λr1 r2=>?_;clear zw;have hp:=XZ.mp hp;refine XZ.mpr ⟨λb hb=>?_,ih r2 (λv a ha=>hk v a (.tail _ ha)) hp.2⟩;refine aD ((ab.DT r2).2 b hb) λu hu ru=>?_;rw[<-hk v a (.head _) r1,<-hk u b (.tail _ hb) ru];exact hp.1 u hu
end
open Classical in
noncomputable def zc{α:Type}(R:Rz->α->Prop)(fW:α->Int)(v:Rz):Int:=if h:∃a,R v a then fW h.choose else 0
theorem a7.sorted{RA:Sg->Prop}{g:α->PV}{fW:α->Int}{P:α->Prop}(hS:ic C RA g fW P κ)(Qm:∀A,aB C A->RA A.in1.in1){L:List α}(hP:∀a∈L,P a)
  (aF:L.length<=lim)  (hy:∀L',L.Perm L'->L'.Pairwise (λa b=>fW a<=fW b)->L'.map g=ys):a7 C env Γ (.builtin "sorted") m1 [.list (L.map g)] m1 (.list ys):=
 ⟨.inr ⟨_,rfl⟩,λA S U s h₀ vs Q E hr hh e bR rv hq=>by
  refine aD rv.dq λv zr r=>?_;subst zr;refine aP r.aS λa us n zr zw=>?_;subst zr;refine dd zw λha eh ra=>?_;clear zw;have hl:=ra.length;rw[Rl]at hl;have mv:∀ {h':Heap},(∀b o,s.heap.get? b=some o->h'.get? b=some o)->∀ {v:Rz} {x:PV},Rd C.prog C.w (dH m1 S U h₀) s.heap v x->Rd C.prog C.w (dH m1 S U h₀) h' v x:=λk ω ω r=>r.mono (λω z=>z) λb o ω ho=>k b o ho;have bS:∀v a,P a->Rd C.prog C.w (dH m1 S U h₀) s.heap v (g a)->zc (λv a=>P a/\Rd C.prog C.w (dH m1 S U h₀) s.heap v (g a)) fW v=fW a:=λv a N4 r=>by
   have hex:∃a,P a/\Rd C.prog C.w (dH m1 S U h₀) s.heap v (g a):=⟨a,N4,r⟩;unfold zc;rw[dif_pos hex];exact hS.Gr _ _ _ _ _ hex.choose_spec.1 N4 hex.choose_spec.2 r
  refine tA (κ:=κ) (G:=λp=>∃a,P a/\Rd C.prog C.w (dH m1 S U h₀) s.heap p.1 (g a)) (kv:=λp=>zc (λv a=>P a/\Rd C.prog C.w (dH m1 S U h₀) s.heap v (g a)) fW p.1) (bz.bw eh) (by rw[hl];exact aF) (λv hv=>?_)
   (λh2 h' hk=>⟨λE Q hq=>hS.kind _ _ {s with heap:=h'} us L _ _ h2 hP (ra.mono (λω z=>z) λb o ω ho=>hk b o ho) hq,⟨λx y hx hy E Q hq=>?_⟩⟩) λh' out n' hk nX hp Qd fo=>?_
  ·refine aD ((ab.DT ra).1 v hv) λb hb rb=>?_;exact⟨b,hP b hb,rb⟩
  ·refine aD hx λa1 p1 r1=>?_;clear hx;refine aD hy λa2 p2 r2=>?_;clear hy;refine hS.lt _ _ {s with heap:=h'} x.1 y.1 a1 a2 _ _ (Qm A hr) p1 p2 (mv hk r1) (mv hk r2) ?_;rw[<-bS _ _ p1 r1,<-bS _ _ p2 r2];exact hq
  ·refine aD (ab.perm hp.symm ra) λL' pl rl=>?_;have e2:=hy L' pl (ab.pw rl (λv a ha r=>bS v a (hP a (pl.mem_iff.mpr ha)) r) Qd);rw[e2]at rl;exact hq _ h' s.toks (.of_keeps hk) (.list (.inr (e.fresh bR.ns nX)) fo (rl.mono (λω z=>z) λb o ω ho=>hk b o ho))⟩
noncomputable def lE(q:Int×Int):PV:=.tuple [.int q.1,.int q.2]
theorem Rd.gC{prog:Sw}{w:TG}{S:RD->Prop}{q:Int×Int}(r:Rd prog w S h v (lE q)):∃a t u n,v= .ref a/\h.get? a=some (yO [.int q.1 t,.int q.2 u] n):=by
 refine aP r.gD λa us n zr zw=>?_;subst zr;refine dd zw λ_ ho ra=>?_;clear zw;refine aM ra.q8 λv1 v2 zr zw=>?_;subst zr;refine oA zw λr1 r2=>?_;clear zw;refine oE r1.int_inv λt zr=>?_;subst zr;refine oE r2.int_inv λu zr=>?_;subst zr;exact⟨a,t,u,n,rfl,ho⟩
noncomputable def kP(q:Int×Int):Int:=q.1*1000+q.2
theorem vo{a b c d:Int}(hb:0<=b/\b<1000)(hd:0<=d/\d<1000):decide (kP (a,b)<kP (c,d))=(if a=c then decide (b<d)else decide (a<c)):=by
 unfold kP;dsimp only;by_cases h:a=c
 ·subst h;rw[if_pos rfl];exact decide_eq_decide.mpr ⟨λh=>by omega,λh=>by omega⟩
 ·rw[if_neg h];exact decide_eq_decide.mpr ⟨λh=>by omega,λh=>by omega⟩
theorem ab.Km{prog:Sw}{w:TG}{S:RD->Prop}:∀ {L:List (Int×Int)},ab prog w S h vs (L.map lE)->∃fs,KatTups h vs fs/\fs.length=vs.length/\∀v∈fs,∃n t,v= .int n t:=by
 induction vs with
 |nil=>exact λr=>⟨[],.nil,rfl,λω hv=>nomatch hv⟩
 |cons v vs ih=>
  intro L r;refine aM r.cons_inv λq L1 zr zw=>?_;subst zr;refine oA zw λr1 r2=>?_;clear zw;refine bM (ih r2) λfs k1 k2 k3=>?_;refine cU r1.gC λa t u n zr ho=>?_;subst zr;refine⟨.int q.1 t::fs,.cons ho rfl rfl rfl k1,by rw[SS,SS,k2],λv hv=>?_⟩;rcases Rr.mp hv with rfl|hv
  ·exact⟨_,_,rfl⟩
  ·exact k3 v hv
theorem xJ(C:Cx):ic C (λω=>True) lE kP (λq=>0<=q.2/\q.2<1000) (tuples' true)where
 lt:=λA S s x y q r E Q ω pq pr rx ry hq=>by
  refine cU rx.gC λa1 t1 u1 n1 zr o1=>?_;subst zr;refine cU ry.gC λa2 t2 u2 n2 zr o2=>?_;subst zr;obtain⟨a,b⟩:=q;obtain⟨c,d⟩:=r;rw[vo pq pr]at hq;refine kat_lt o1 rfl o2 rfl ?_;refine kat_cons (Xm ?_);by_cases h1:a=c
  ·rw[if_pos h1]at hq;rw[beq_iff_eq.mpr h1];refine kat_yes (kat_cons (Xm ?_));by_cases h2:b=d
   ·rw[beq_iff_eq.mpr h2];rw[decide_eq_false (h2▸Int.lt_irrefl b)]at hq;exact kat_yes (kat_nil hq)
   ·rw[beq_eq_false_iff_ne.mpr h2];refine kat_no (kat_one _ _ (W0 ?_));exact hq
  ·rw[if_neg h1]at hq;rw[beq_eq_false_iff_ne.mpr h1];exact kat_no (oneLt_int hq)
 kind:=λA S s vs L E Q h2 ω r hq=>by
  refine bM (ab.Km r) λfs k1 k2 k3=>?_;refine kat_kind (T:=.type "int") k1 (by rw[k2];exact Ru Nat.two_pos h2) (λv hv=>?_) rfl hq;refine jH (k3 v hv) λn t zr=>?_;subst zr;exact YM rfl
 Gr:=λS h x q r ω ω rx ry=>by
  refine cU rx.gC λa1 t1 u1 n1 zr o1=>?_;subst zr;refine cU ry.gC λa2 t2 u2 n2 e o2=>?_;cases e;rw[o1]at o2;injection o2 with o2
  injection o2 with _ _ o2
  injection o2 with o2
  have o2:=congrArg YX o2;injection o2 with e1 o2
  injection o2 with e2 _
  injection e1 with e1
  injection e2 with e2
  unfold kP;rw[e1,e2]
noncomputable def Hz(x:Str):Prop:=∃n,x.cps.toList=[n]
noncomputable def xm(x:Str):Int:=(x.cps.toList.headD 0:Nat)
theorem yD(C:Cx):ic C (λω=>True) PV.str xm Hz oneType' where
 lt:=λA S s x y a b E Q ω pa pb rx ry hq=>by
  refine oE rx.str_inv λt zr=>?_;subst zr;refine oE ry.str_inv λu zr=>?_;subst zr;refine oE pa λn hn=>?_;clear pa;refine oE pb λm hm=>?_;clear pb;refine oneLt_str ?_;have e:decide (a.cps.toList<b.cps.toList)=decide (xm a<xm b):=by
   unfold xm;rw[hn,hm];refine decide_eq_decide.mpr ⟨λh=>?_,λh=>?_⟩
   ·rcases Vj.mp h with h|h
    ·exact Ta.mpr h
    ·exact absurd h.2 (Yy _)
   ·exact Vj.mpr (.inl (Ta.mp h))
  rw[e];exact hq
 kind:=λA S s vs L E Q h2 ω r hq=>by
  refine kas_kind (T:=.type "str") h2 (λv hv=>?_) rfl rfl hq;refine aD ((ab.DT r).1 v hv) λx _ rx=>?_;refine oE rx.str_inv λt zr=>?_;subst zr;exact YM rfl
 Gr:=λS h x a b ω ω rx ry=>by
  refine oE rx.str_inv λt zr=>?_;subst zr;refine oE ry.str_inv λu e=>?_;cases e;rfl
noncomputable def dZ(i:Nat):Stmt:=cq V7.main.body i
noncomputable def nm(k:Nat):Str:=⟨#[97+k]⟩
noncomputable def bK(k:Nat):Key:=.str (nm k)
noncomputable def a9(k:Nat):PV:=.str (nm k)
noncomputable abbrev PV.dh(L:List Nat):PV:=.list (L.map a9)
theorem vB(h:nm i=nm j):i=j:=by
 have e:=congrArg (λx:Str=>x.cps.toList) h;injection e with e _
 exact XY e
theorem fY(h:bK i=bK j):i=j:=vB (Key.str.inj h)
theorem bN{L:List Nat}:bK j∈L.map bK↔j∈L:=
 ⟨λh=>by
  refine aD (RE.mp h) λx hx e=>?_;exact fY e▸hx,λh=>RE.mpr ⟨j,h,rfl⟩⟩
theorem eG{L:List Nat}:(L.map bK).Nodup↔L.Nodup:=
 ⟨λh=>(VQ.mp h).imp λhn e=>hn (by rw[e]),λh=>VQ.mpr (h.imp λhn e=>hn (fY e))⟩
theorem pH:∀ {L:List Nat},(L.map bK).erase (bK j)=(L.erase j).map bK
 |[]=>rfl
 |a::L=>by
  rw[Sl,YC,YC];by_cases h:a=j
  ·rw[if_pos (beq_iff_eq.mpr h),if_pos (beq_iff_eq.mpr (by rw[h]))]
  ·rw[if_neg (λe=>h (beq_iff_eq.mp e)),if_neg (λe=>h (fY (beq_iff_eq.mp e))),pH];rfl
theorem mV(L:List Nat):Key.cV (L.map bK)=L.map a9:=by
 unfold Key.cV;rw[R6];rfl
theorem Ms{n:Nat}{l:List Key}(h:∀k∈l,∃j,j<n/\k=bK j):∃L:List Nat,l=L.map bK:=by
 induction l with
 |nil=>exact⟨[],rfl⟩
 |cons k l ih=>
  refine oE (ih λk hk=>h k (.tail _ hk)) λL hL=>?_;refine aD (h k (.head _)) λj _ hj=>?_;exact⟨j::L,by rw[hL,hj];rfl⟩
theorem BC:∀k,k<6->TL (nm k)= "'" ++nm k++ "'":=by decide +kernel
structure ec(n:Nat)(G:List (Nat×List Nat))(a:AS)(pr:Key->List Key):Prop where
 pre:AS.Pre a pr
 jD:∀k,a.has k=true->∃j,j<n/\k=bK j
 got:∀g∈G,a.has (bK g.1)=true
 pr:∀k,pr k=(G.filter λg=>decide (bK g.1=k)).flatMap λg=>g.2.map bK
section
variable{n:Nat}{G:List (Nat×List Nat)}{pr:Key->List Key}
theorem ec.zero:ec n [] AS.zero (λω=>[]):=⟨AS.Pre.zero,(λω h=>by cases h),(λω h=>nomatch h),λω=>rfl⟩
theorem ec.one(h:ec n G a pr)(hi:i<n){ps:List Nat}(Eg:∀p∈ps,p<n):∃GK,ec n (G++[(i,ps)]) (a.add (bK i) (ps.map bK)) GK:=by
 refine oA (h.pre.add (bK i) (ps.map bK)) λp1 q1=>?_;refine⟨_,p1,λk hk=>?_,λg hg=>?_,λk=>?_⟩
 ·rw[q1]at hk;simp only[W3,decide_eq_true_eq]at hk;rcases hk with(hk|hk)|hk
  ·exact h.jD k hk
  ·exact⟨i,hi,hk⟩
  ·refine aD (RE.mp hk) λp hp zr=>?_;subst zr;exact⟨p,Eg p hp,rfl⟩
 ·rw[q1];rcases Rw.mp hg with hg|hg
  ·rw[h.got g hg];rfl
  ·rw[Rq.mp hg];simp
 ·show(if k=bK i then pr k++ps.map bK else pr k)=_;rw[Ww,UU,<-h.pr k,S9];by_cases e:k=bK i
  ·rw[if_pos e,if_pos (decide_eq_true e.symm)];simp
  ·rw[if_neg e,if_neg (by simpa using λq=>e (Eq.symm q))];simp
theorem qb{g:α->List β}{m:Nat}:∀ {L:List α},(∀a∈L,(g a).length<=m)->(L.flatMap g).length<=L.length*m
 |[],_=>RU _
 |a::L,h=>by
  rw[SO,RQ,SS,WO,VH];exact Tb (qb λb hb=>h b (.tail _ hb)) (h a (.head _))
theorem ec.len(h:ec n G a pr)(hG:G.length<=10)(hg:∀g∈G,g.2.length<=10)(k:Key):(pr k).length<=100:=by
 rw[h.pr k];refine Rk (qb (m:=10) λg CV=>?_) (Wl 10 (Rk (T7 _ _) hG));rw[Rl];exact hg g (TJ.mp CV).1
theorem ec.small(h:ec n G a pr)(hn:n<=5)(hG:G.length<=10)(hg:∀g∈G,g.2.length<=10):a.small 1000/\a.z8 1000:=by
 have hL:∀k,a.has k=true->k∈(RG n).map bK:=λk hk=>by
  refine aD (h.jD k hk) λj hj zr=>?_;subst zr;exact bN.mpr (RW.mpr hj)
 have hl:((RG n).map bK).length<=5:=by
  rw[Rl,R'];exact hn
 have l1:=h.pre.len _ 5 hL hl;have l2:=λp=>Rk (h.pre.EX _ 5 100 hL hl (h.len hG hg) p) (show 5*100<=500 by decide);have dG:10000<=lim:=by decide
 refine⟨⟨Rk (Tf l1 1000) (Rk (by decide) dG),λx hx=>?_⟩,Rk l1 (by decide),λk=>Rk (l2 k) (by decide)⟩;have e:a.bV x.key=x.succ:=by
  unfold AS.bV;rw[AS.gg h.pre.nd hx]
 rw[<-e];exact Rk (Tf (l2 x.key) 1000) (Rk (by decide) dG)
theorem ec.start(h:ec n G a pr)(hn:n<=5)(hG:G.length<=10)(hg:∀g∈G,g.2.length<=10)(qR:∀j,j<n->a.has (bK j)=true)(Gd:∀j,j<n->pr (bK j)=(need j).map bK)
  (cO:∀j p,p∈need j->p<j):a.aI=none/\a.nodes.length<=3000/\a.closed/\a.xP/\(∀k,a.iL.has k=true↔∃j,j<n/\k=bK j)/\∃rd,AS.Run a.iL pr [] [] rd:=by
 have s2:=(h.small hn hG hg).2;refine⟨h.pre.aI,Rk s2.1 (by decide),h.pre.closed,?_,λk=>⟨h.jD k,λ⟨j,hj,e⟩=>e▸qR j hj⟩,h.pre.iL s2⟩;refine h.pre.xP (λk=>match k with| .str t=>t.cps.toList.headD 0|_=>0) λk p hp=>?_;refine aD (h.jD k (h.pre.hs k p hp).2) λj hj zr=>?_;subst zr;rw[Gd j hj]at hp;refine aD (RE.mp hp) λq hq zr=>?_;subst zr;exact SD (cO j q hq) 97
end
structure bZ(n:Nat)(need:Nat->List Nat)(a:AS)(dn ot rd:List Nat):Prop where
 run:∃pr,AS.Run a pr (dn.map bK) (ot.map bK) (rd.map bK)/\∀j,j<n->pr (bK j)=(need j).map bK
 has:∀k,a.has k=true↔∃j,j<n/\k=bK j
section
variable{n:Nat}{dn ot rd:List Nat}
theorem bZ.of{pr:Key->List Key}{rk:List Key}(hr:AS.Run a pr (dn.map bK) (ot.map bK) rk)(hp:∀j,j<n->pr (bK j)=(need j).map bK)(hh:∀k,a.has k=true↔∃j,j<n/\k=bK j):∃rd,rk=rd.map bK/\bZ n need a dn ot rd:=by
 refine oE (Ms (n:=n) (l:=rk) λk hk=>(hh k).mp ((hr.um k).mp hk).1) λrd zr=>?_;subst zr;exact⟨rd,rfl,⟨pr,hr,hp⟩,hh⟩
theorem bZ.aI(h:bZ n need a dn ot rd):a.aI=some (rd.map bK):=h.run.elim λω r=>r.1.aI
theorem bZ.lt(h:bZ n need a dn ot rd)(hj:a.has (bK j)=true):j<n:=by
 refine aD ((h.has _).mp hj) λi hi e=>?_;exact fY e▸hi
theorem bZ.oH(h:bZ n need a dn ot rd)(hj:j∈ot):j<n:=h.run.elim λω r=>h.lt (r.1.GU _ (bN.mpr hj))
theorem bZ.sD(h:bZ n need a dn ot rd)(hj:j∈dn):j<n:=h.run.elim λω r=>h.lt (r.1.Hl _ (bN.mpr hj))
theorem bZ.nd(h:bZ n need a dn ot rd):dn.Nodup/\ot.Nodup/\rd.Nodup:=h.run.elim λω r=>⟨eG.mp r.1.Je,eG.mp r.1.FV,eG.mp r.1.GV⟩
theorem bZ.dj(h:bZ n need a dn ot rd)(hj:j∈ot):j∉dn:=h.run.elim λω r hd=>r.1.dj _ (bN.mpr hj) (bN.mpr hd)
theorem bZ.nV(h:bZ n need a dn ot rd)(hj:j<n):j∈rd↔j∉dn/\j∉ot/\∀p∈need j,p∈dn:=by
 refine aD h.run λpr r hp=>?_;have e:=r.um (bK j);rw[bN,bN,bN,hp j hj]at e;refine e.trans ⟨λ⟨_,a2,a3,a4⟩=>⟨a2,a3,λp Gn=>bN.mp (a4 _ (bN.mpr Gn))⟩,λ⟨a2,a3,a4⟩=>⟨(h.has _).mpr ⟨j,hj,rfl⟩,a2,a3,λk hk=>?_⟩⟩;refine aD (RE.mp hk) λp Gn zr=>?_;subst zr;exact bN.mpr (a4 p Gn)
theorem bZ.own(h:bZ n need a dn ot rd)(hj:j∈dn\/j∈ot){p:Nat}(hp:p∈need j):p∈dn:=by
 refine aD h.run λpr r Gd=>?_;have oa:j<n:=hj.elim h.sD h.oH;exact bN.mp (r.own (bK j) (hj.imp bN.mpr bN.mpr) (bK p) (by rw[Gd j oa];exact bN.mpr hp))
theorem bZ.got(h:bZ n need a dn ot rd):bZ n need {a.out (rd.map bK)with aI:=some [],au:=a.au+(rd.map bK).length,az:=a.az} dn (ot++rd) []:=by
 refine aD h.run λpr r hp=>?_;refine⟨⟨pr,by rw[R9];exact r.get,hp⟩,λk=>?_⟩;have e:=(AS.tH (rd.map bK) a).2.1 k;exact(show _↔a.has k=true from by rw[<-e];rfl).trans (h.has k)
theorem bZ.cS(h:bZ n need a dn ot rd):a.cS=(!ot.isEmpty|| !rd.isEmpty):=by
 refine aD h.run λpr r hp=>?_;rw[r.cS];cases ot<;>cases rd<;>rfl
theorem vm(k j:Key):∀a:AS,(a.cu k).has j=a.has j:=λa=>by
 unfold AS.cu;cases a.find k with
 |none=>rfl
 |some x=>
  have key:∀ (ss:List Key) (b:AS),(ss.foldl AS.dec b).has j=b.has j:=λss=>by
   induction ss with
   |nil=>exact λb=>rfl
   |cons s ss ih=>
    intro b;refine(ih (b.dec s)).trans ?_;unfold AS.dec;split
    ·exact AS.fw b s j (f:=AN.cN (-1)) λω=>rfl
    ·exact AS.fw b s j (f:=AN.cN (-1)) λω=>rfl
  exact(key x.succ _).trans (AS.fw a k j (f:=AN.bA (-2)) λω=>rfl)
theorem nu(j:Key):∀ (ks:List Key) (a:AS),(ks.foldl AS.cu a).has j=a.has j
 |[],_=>rfl
 |k::ks,a=>(nu j ks _).trans (vm k j a)
theorem zq(ot:List Nat)(j:Nat):AS.less (ot.map bK) [bK j]=(ot.erase j).map bK:=pH
theorem xN(h:ot.Nodup):AS.less (ot.map bK) (ot.map bK)=[]:=by
 refine Vi.mpr λj hj=>?_;exact((AS.sZ (eG.mpr h) j).mp hj).2 ((AS.sZ (eG.mpr h) j).mp hj).1
theorem bZ.lV(h:bZ n need a dn ot rd){ks Jd:List Nat}(hk:ks.Nodup)(hs:∀k∈ks,k∈ot)(hl:AS.less (ot.map bK) (ks.map bK)=Jd.map bK):a.gh (ks.map bK)/\∃yh,bZ n need ((ks.map bK).foldl AS.cu a) (dn++ks) Jd yh:=by
 refine aD h.run λpr r hp=>?_;obtain⟨c,rk,r2⟩:=r.lV (ks.map bK) (eG.mpr hk) λk hk=>by
  refine aD (RE.mp hk) λj hj zr=>?_;subst zr;exact bN.mpr (hs j hj)
 rw[hl,<-R9]at r2;obtain⟨yh,rfl,r3⟩:=bZ.of r2 hp λk=>by rw[nu];exact h.has k
 exact⟨c,yh,r3⟩
theorem bZ.mF(h:bZ n need a dn ot rd)(cO:∀j p,p∈need j->p<j)(hj:j<n)(hd:j∉dn):ot≠[]\/rd≠[]:=by
 induction j using Nat.strongRecOn with
 |ind j ih=>
  by_cases c:∀p∈need j,p∈dn
  ·by_cases o:j∈ot
   ·exact .inl (X1 o)
   ·exact .inr (X1 ((h.nV hj).mpr ⟨hd,o,c⟩))
  ·refine oE (Classical.not_forall.mp c) λp hp=>?_;refine oA (Classical.not_imp.mp hp) λGa Mk=>?_;exact ih p (cO j p Ga) (R0 (cO j p Ga) hj) Mk
theorem bZ.act(h:bZ n need a dn ot rd)(cO:∀j p,p∈need j->p<j){b:Bool}(h1:b=true->∃j,j<n/\j∉dn)(h2:b=false->∀j,j<n->j∈dn):a.cS=b:=by
 rw[h.cS];cases b with
 |true=>
  refine aD (h1 rfl) λj hj hd=>?_;rcases h.mF cO hj hd with e|e
  ·cases ot with
   |nil=>exact absurd rfl e
   |cons _ _=>rfl
  ·cases rd with
   |nil=>exact absurd rfl e
   |cons _ _=>cases ot<;>rfl
 |false=>
  have e1:ot=[]:=Vi.mpr λj hj=>h.dj hj (h2 rfl j (h.oH hj));have e2:rd=[]:=Vi.mpr λj hj=>by
   refine aD h.run λpr r hp=>?_;have oa:=h.lt ((r.um _).mp (bN.mpr hj)).1;exact((h.nV oa).mp hj).1 (h2 rfl j oa)
  rw[e1,e2];rfl
noncomputable def sU(j:Nat):Str:="node '" ++nm j++ "' was already marked done"
noncomputable def BA(j:Nat):Str:="node '" ++nm j++ "' was not passed out (still not ready)"
theorem tx:∀k,k<6->("node " ++TL (nm k)++ " was already marked done":Str)=sU k/\("node " ++TL (nm k)++ " was not passed out (still not ready)":Str)=BA k:=by decide +kernel
theorem bZ.fR(h:bZ n need a dn ot rd)(hn:n<=5)(hj:j∈dn):a.cn (bK j)=some (sU j):=by
 refine aD h.run λpr r hp=>?_;rw[<- (tx j (Ru (h.sD hj) (Tc hn))).1];exact r.fR (bN.mpr hj)
theorem bZ.iq(h:bZ n need a dn ot rd)(hn:n<=5)(hj:j<n)(hd:j∉dn)(ho:j∉ot):a.cn (bK j)=some (BA j):=by
 refine aD h.run λpr r hp=>?_;rw[<- (tx j (Ru hj (Tc hn))).2];exact r.iq ((h.has _).mpr ⟨j,hj,rfl⟩) (λq=>hd (bN.mp q)) λq=>ho (bN.mp q)
end
section
variable{Γ:ag}
theorem Bf.qJ{name:Str}{pos:Pos}{n:Nat}{ny:List PV}(k:bD C.K)(mk:b8 C.K name fa)(hx:Γ.lookup x=some (some (n,.ay a)))(bS:aA (env.kindOf x)=true)(ha:e6 C.up env (cv Γ) (SF pos (RV args env)) xs)(hM:∀St:aa,St.abs=a->yl C fa (.aK St::xs) cls ny)(hi:∀a∈ny,a.fy=true)
  (aJ:autoParam (fH (.Name x p) name) oA2._auto_1)
  (dT:autoParam (kH args pos false) oA2._auto_1)
  (iR:autoParam (jq args pos true) oA2._auto_1) (eg:autoParam (bk x) oA1._auto_1):
  Bf C.up env Γ (.Call (.Attribute (.Name x p) name apos) args [] pos) cls ny:=λA o s Q E hr hA hq=>by
 rw[arm_eval_Call,aJ];obtain⟨S,fp,hA,av⟩:=hA;refine qW (hA.here.ay hx bS) λa0 St CB hv hf hs=>?_;have cK:=hs.at_;subst cK;refine Rp (Sz (ao hA.aq hv ?_) eg);refine Rp (SJ ?_);unfold methodCall;rw[dT];obtain⟨ks,q1,q2,q,I⟩:=cR hs;refine Rp (Sr (Rp (jM hA.base.cB I k mk (fB mk.own) (RK ?_))));refine Rp (RK ?_);have bQ:Ext A env s.heap (s.heap.push (methodObj (.ref fa) (.ref St.loc))):=(Ext.refl _ _ _).push _;have BL:(s.heap.push (methodObj (.ref fa) (.ref St.loc))).get? s.heap.objs.size=some (methodObj (.ref fa) (.ref St.loc)):=RL _ rfl;refine gz (K:=C.K) (self:=.ref St.loc) mk.fnIn (iR env) ?_;refine ha A S _ {s with heap:=s.heap.push (methodObj (.ref fa) (.ref St.loc)),toks:=s.toks+1} _ _ E hr (hA.here.ext bQ) λvs h2 t2 c7 rv=>?_;have IU: ¬Fz A env s.heap.objs.size:=λe=>by have:=Fz.there hA.here e;rw[bf]at this;cases this
 have sF:=c7.keep _ _ IU BL;have ex:=bQ.trans c7;have iE:=hA.here.ext ex;refine⟨⟨sF,iE.base.cB⟩,Uy (method_call (s:={s with heap:=h2,toks:=t2}) sF ?_)⟩;refine gj (hA.grow av ex t2) λS' bF dE g1 g2=>?_;have hU:∀b∈St.fp St.loc,qh A env s.heap b:=λb hb=>by
  have:=hf b hb;by_cases hn:(n==0)=true
  ·rw[if_pos hn]at this;exact⟨(hA.aO b this).1,(hA.aO b this).2.1⟩
  ·rw[if_neg hn]at this;exact this
 have mh:ah C.prog C.w h2 St.loc St:=hs.mono λb hb ob e=>ex.keep b ob (λhz=>(hU b hb).2 (.inl hz)) e;refine hM St CB A (λa=>(qh A env s.heap a\/s.heap.get? a=none)/\(h2.get? a).isSome=true) {s with heap:=h2,toks:=t2} (.ref St.loc::vs) _ hr ⟨hA.cx.g⟩ ⟨iE.base.cB,iE.base.nolimit,iE.base.o3,iE.base.nodigits⟩ (fc.of (C':=C) iE.bE rfl)
  (λa ha=>⟨ha.2,λlh=>?_⟩) (.cons (.aK (λb hb=>⟨.inl (hU b hb),mh.there b hb⟩) mh) (rv.there.mono (λa ha=>⟨?_,ha.2⟩) λω ω ω e=>e)) λe h' t' hF=>?_
 ·rcases ha.1 with h|h
  ·exact h.2 (.inl (.inr lh))
  ·have:=Fz.there hA.here (.inr lh);rw[h]at this;cases this
 ·rcases ha.1 with g|g
  ·exact .inl ⟨(hA.aO a g).1,(hA.aO a g).2.1⟩
  ·exact .inr (bQ.fresh hA.aq.ns g)
 ·refine hq e _ ⟨S',fp,h2,bF,?_,(hF.fy hi).cx rfl rfl⟩;refine jH dE.same λhh tt e1=>?_;exact dE.trans ⟨⟨h2,t',rfl⟩,λω h=>h,λω h=>.inl h,λy a h=>.inl ⟨y,h⟩,λω ω ω ω e=>e,λω h=>h,Sk.refl _⟩
theorem ak.Hj{h₀:ExceptHandler}{hs:List ExceptHandler}{pos:Pos}(i5:ak C env Γ body (B0 C env rest P)):ak C env Γ (.Try body (h₀::hs) [] [] pos::rest) P:=λA o s Q E hr ht hA he=>by
 refine RI (Xo (i5 A o s _ _ hr ht hA ?_));have e:=he.B0 (rest:=rest) (E:=E) hr ht;exact⟨λs' af hp bF=>Ts.St.nil (e.next s' af hp bF),e.brk,e.cont,e.ret,e.d'⟩
theorem ak.AE{pos:Pos}{L:List Nat}{upd:PV->PV}(hF:sW C env Γ e x d9 (.dh L) upd)(hE:Ev C env (cv Γ) arg true (a9 j))(hj:j∈L)(aF:L.length<=lim)(hi:interactive env=false)
  (k:ak C env ((x,some (d9,upd (.dh (L.erase j))))::Γ) rest P)
  (aJ:autoParam (TS e "remove" env (eval e env)=eval e env) oA1._auto_1)
  (cy:autoParam (dD pos env [arg]) oA1._auto_1)
  (aW:autoParam ((apos.endLine==pos.line)=true) oA1._auto_1) (bg:autoParam (SF pos (RV [arg] env)=[(false,eval arg env)]) oA1._auto_1)
  (hs:autoParam (SR (.Call (.Attribute e "remove" apos) [arg] [] pos) none fq.line env=pure false) oA1._auto_1):
  ak C env Γ (.Expr (.Call (.Attribute e "remove" apos) [arg] [] pos) fq::rest) P:=λA o s Q E hr ht hA he=>
 St.uU (Ba:=(L.erase j).map a9) hr hA hF hE PySem.F.slot_list_remove PySem.F.type_list_remove (λs₀ a vs n S Q T h=>PySem.P.remove_list (Sf h (λu s₁ h₁=>by
  refine gj h₁ λn' ho rs ru hq=>?_;clear h₁;refine oE ru.str_inv λt zr=>?_;subst zr;have hl:=rs.length;rw[Rl]at hl;have Ny:=Ug.mpr hj;have KU:∀m (hm:m<vs.length),∃u,vs[m]= .str (nm (L[m]'(hl▸hm))) u:=λm hm=>by
   refine aD (rs.yw (RT hm)) λz hz rz=>?_;rw[RZ,RT (hl▸hm)]at hz;cases hz;exact rz.str_inv
  obtain⟨k,h1,h2⟩:=gc ho (λxs=>xs.eraseIdxIfInBounds (L.idxOf j)) (us:=vs.eraseIdx (L.idxOf j)) (by
   apply Array.toList_inj.mp;rw[WD])
  refine⟨vs.toArray,n',λv=>match v with| .str y _=>y==nm j|_=>false,L.idxOf j,by rw[RX,hl];exact Ny,?_,ho,λy hy=>?_,?_,λm hm QN=>?_,hq _ _ k h1 h2 ?_⟩
  ·rw[RX,hl,sizeLine_eq];exact Rk aF (by decide)
  ·obtain⟨m,hm,rfl⟩:=List.mem_iff_getElem.mp (List.mem_toArray.mp hy);refine oE (KU m hm) λu e=>?_;rw[e];exact eqGives_str _ _ _ _
  ·rw[XK];refine oE (KU (L.idxOf j) (hl▸Ny)) λu e=>?_;rw[e];exact beq_iff_eq.mpr (by rw[VB])
  ·rw[XK];refine oE (KU m (by rw[RX]at hm;exact hm)) λu e=>?_;rw[e];refine beq_eq_false_iff_ne.mpr λq=>?_;have e3:=List.not_of_lt_findIdx (p:=(· ==j)) (xs:=L) (i:=m) QN;rw[vB q]at e3;simp at e3
  ·rw[List.erase_eq_eraseIdx_of_idxOf rfl,WH,WH,R9,U0,Vr];exact(rs.take _).append (rs.drop _)) λω ω x=>x)) (λs' bF=>k A o s' Q E hr ht bF he) aJ cy aW bg hi hs
end
theorem Ae:∀j,j<6->(bK j).small:=by
 intro j hj;show(TL (nm j)).length<=2^20;rw[BC j hj];exact Rk (show("'" ++nm j++ "'":Str).length<=3 from Rx 3) (by decide)
theorem Bf.vK{Γ:ag}{name:Str}{pos:Pos}{n m:Nat}{ny:List PV}(k:bD C.K)(mk:b8 C.K name fa)(hn:m+1<=C.cc)(hx:Γ.lookup x=some (some (n,.ay a)))(bS:aA (env.kindOf x)=true)(ha:e6 C env (cv Γ) (SF pos (RV args env)) xs)(hM:∀St:aa,St.abs=a->yl (C.l m) fa (.aK St::xs) cls ny)(hi:∀a∈ny,a.fy=true)
  (aJ:autoParam (∀env,TS (.Name x p) name env (eval (.Name x p) env)=eval (.Name x p) env) oA2._auto_1)
  (dT:autoParam (∀env,methodCallForm (args.length+([]:List Keyword).length) (SF pos (RV args env)) (backToKw pos (keywordEach [] env))=false) oA2._auto_1)
  (iR:autoParam (∀env,(SF pos (RV args env)).any (·.1)=true) oA2._auto_1) (eg:autoParam ((x==("__debug__":Str))=false) oA1._auto_1):
  Bf C env Γ (.Call (.Attribute (.Name x p) name apos) args [] pos) cls ny:=
 .dn hn (Bf.qJ (C:=C.l (C.cc - 1)) k mk hx bS (ha.up hn) (λSt e=>(hM St e).up (C:=C.l (C.cc - 1)) (Sd hn)) hi aJ dT iR eg)
theorem uN.NV(h:uN C fa xs (λfl=>fl= .d' ys)):Fn C fa xs (.list ys):=λA S s vs R hr cx B fx hS rv hR=>
 h A S s vs R hr cx B fx hS rv (λv h' t' pv hp=>nomatch hp) λa us n h' t' zs hp hk ha cY eh ra=>by
  cases hp;exact hR (.ref a) h' t' hk (.list (.inr ha) eh (ra.mono (λω z=>z.elim) λω ω z=>z.elim))
theorem bI.KD{id:Str}{pos:Pos}{ob:Obj}(hk:env.kindOf id=some .globalImplicit)(hg:C.glob id=some (.ref fa))(hf:C.K.lookup fa=some ob)(hd:ob.data= .func fd)
  (ha:ba C.up env Γ args m1 xs) (hF:uN C fa xs (λfl=>fl= .d' ys))
  (aX:autoParam (∀env,∃x rest,SF pos (RV args env)=(false,x)::rest) oA4._auto_1) (eg:autoParam ((id==("__debug__":Str))=false) oA1._auto_1):
  bI C.up env Γ (.Call (.Name id p) args [] pos) md ys:=λA S U s Q E hr hh hq=>by
 refine TC ?_;refine Sz (bu hh.cx hh.base hh.aq hk (.inl hg) ?_) eg;refine callWith_function (o:=ob) (fd:=fd) ?_;refine jH (aX env) λx rest C2=>?_;rw[C2];refine evalArgs_plain ?_;rw[<-C2];refine ha A S U s pos _ E hr hh λvs h2 t2 e2 r2=>?_;have hB:=(hh.ext e2).base;refine⟨⟨hB.cB _ _ hf,hd⟩,Uy ?_⟩;refine hF A _ {s with heap:=h2,toks:=t2} vs _ hr ⟨hh.cx.g⟩ ⟨hB.cB,hB.nolimit,hB.o3,hB.nodigits⟩ ((hh.ext e2).bE.of rfl) (λa ha=>⟨ha.2,λhs=>dH.xI hh ha.1 (.inr hs)⟩) r2.there (λv h3 t3 pv hp=>nomatch hp) λa us n h3 t3 zs hp jW ha cY eh ra=>?_;cases hp;exact hq a us n h3 t3 (e2.trans jW.ext) (e2.fresh hh.aq.ns ha) cY eh (ra.mono (λω z=>z.elim) λω ω z=>z.elim)
theorem uN.up{n:Nat}{P:cM->Prop}(h:uN (C.l n) fa xs P)(hn:n<=C.cc):uN C fa xs P:=λA S s vs R h1 h2 h3 h4 h5 h6 h7 h8=>
 h A S s vs R (aB.le (C:=C.up) (n:=n+1) h1 (Tf hn 1)) ⟨h2.g⟩ ⟨h3.cB,h3.nolimit,h3.o3,h3.nodigits⟩ h4.l h5 h6 h7 h8
theorem bI.MX{m:Nat}{id:Str}{pos:Pos}{d:Stmt}(hn:m+1<=C.cc)(hk:env.kindOf id=some .globalImplicit)(hg:C.glob id=some (.ref fa))(f:FnAt C.K fa d dflt)
  (ha:ba C env Γ args m1 xs) (hF:uN (C.l m) fa xs (λfl=>fl= .d' ys))
  (aX:autoParam (∀env,∃x rest,SF pos (RV args env)=(false,x)::rest) oA4._auto_1) (eg:autoParam ((id==("__debug__":Str))=false) oA1._auto_1):
  bI C env Γ (.Call (.Name id p) args [] pos) md ys:=by
 obtain⟨ob,fd,f1,f2,_⟩:=f.ex;have h:=bI.KD (C:=C.l (C.cc - 1)) (p:=p) (md:=md) hk hg f1 f2 (ha.up hn) (hF.up (C:=C.l (C.cc - 1)) (Sd hn)) aX eg;rwa[Cx.down C hn]at h
theorem mR(T:TopK C)(hN:C.hd=false)(hl:1<=C.cc)(f:FnAt C.K 148 (dZ 8) .none)(hj:j<6){msg:Str}(hw:a.cn (bK j)=some msg):uN C 148 [.ay a,.dh [j]] (λfl=>fl= .d' [.bool true,.str msg]):=by
 refine uN.FG (C:=C) f ["sorter","call"] rfl (by decide) (λx hx=>?_) (λfd vs h1 h2 h3 h4=>?_) (λfl h=>.inr ⟨_,h⟩) λenv K hi=>?_
 ·simp only[Rr,RN,or_false]at hx;rcases hx with rfl|rfl<;>exact .inl rfl
 ·refine jH (wz h4) λu w zr=>?_;subst zr;unfold bindArgs;rw[h1,h2];rfl
 have v1:∀x,(ae (dZ 8)).lookup x=some .local->aA (env.kindOf x)=true:=λx hx=>K.var x (by rw[hx];rfl);refine ak.DX (C:=C) (X:="ValueError") (T:="ValueError") (args:=[.str msg]) (BP.expr (Bf.vK (C:=C) (m:=0) (n:=0) (xs:=[a9 j]) T.sk (b8.of T.CC) hl rfl (v1 "sorter" rfl) (e6.GQ (Ev.name rfl (v1 "call" rfl)) (show 1<=lim by decide)) (λSt e=>zI (C:=C.l 0) (T.l 0) hN (Ae j hj) hw St e) (λx hx=>by rw[Rq.mp hx];rfl)) hi) (K.jZ _ rfl) (T.none (x:="ValueError") (by decide)) wM (K.Nl "error" rfl) vq.1 vq.2.1 vq.2.2 ?_;refine ak.d' (C:=C.kR) (md:=true) (xs:=[.bool true]++[.str msg]) (bI.add (C:=C.kR) (md:=true) (xs:=[.bool true]) (ys:=[.str msg]) (bI.ev (bI.list (ba.cons (Ev.cmp (m1:=true) (m2:=true) (x:=.raw (.type "ValueError")) (y:=.raw (.type "ValueError")) (Ev.call (m1:=true) (Ev.builtin (v:=.type "type") (K.jZ _ rfl) (T.none (x:="type") (by decide)) (by decide +kernel)) (ba.cons (Ev.name rfl (v1 "error" rfl)) ba.nil) a7.y8) (Ev.builtin (v:=.type "ValueError") (K.jZ _ rfl) (T.none (x:="ValueError") (by decide)) wM) cw.BZ) ba.nil) (by show 1<=lim;decide))) (Ev.call (m1:=true) (xs:=[.tuple [.str msg]]) (Ev.builtin (v:=.type "list") (K.jZ _ rfl) (T.none (x:="list") (by decide)) (by decide +kernel)) (ba.cons (Ev.AW PySem.F.excAttr_ValueError (Ev.name rfl (v1 "error" rfl))) ba.nil) (a7.mP (.inr rfl) (by show 1<=lim;decide))) (by show 2<=lim;decide)) (λx hx=>by rcases Rr.mp hx with rfl|hx;rfl;rw[Rq.mp hx];rfl) ?_;intro mq;rfl
theorem xq(T:TopK C)(hN:C.hd=false)(hl:1<=C.cc)(f:FnAt C.K 148 (dZ 8) .none)(hj:j<6){msg:Str}(hw:a.cn (bK j)=some msg):Fn C 148 [.ay a,.dh [j]] (.list [.bool true,.str msg]):=(mR T hN hl f hj hw).NV
theorem xo(T:TopK C)(hN:C.hd=false)(hl:1<=C.cc)(f:FnAt C.K 148 (dZ 8) .none){rk:List Key}{L:List Nat}(hr:a.aI=some rk)(hs:L.length<=10)(hc:a.gh (L.map bK)):u9 C 148 a [.dh L] (.list []) ((L.map bK).foldl AS.cu a):=λSt e=>by
 refine fU.PQ (C:=C) (sv:="sorter") f ["call"] rfl (by decide) (λx hx=>?_) (λfd v vs h1 h2 h3 h4=>?_) (λω ω h=>h.2.2) λenv K hi=>?_
 ·simp only[Rr,RN,or_false]at hx;rcases hx with rfl|rfl<;>exact .inl rfl
 ·refine oE (gn h4) λu zr=>?_;subst zr;unfold bindArgs;rw[h1,h2];rfl
 have hM:=(zC (C:=C.l 0) (T.l 0) hN hr (by rw[Rl];exact Rk hs (by decide)) hc) St e;rw[mV]at hM;have Kb:(L.map a9).length<=lim:=by
  rw[Rl];exact Rk hs (by decide)
 refine ak.Hj (C:=C) (ak.pC (.dn (n:=0) hl (fL.DH (C:=C.l (C.cc - 1)) (n:=0) T.sk (b8.of T.CC) rfl ((e6.GQ (Ev.name rfl (K.var "call" rfl)) Kb).up hl) (hM.up (C:=C.l (C.cc - 1)) (Sd hl)))) (λBp pv hR=>?_) hi);refine aD hR λa8 yi zr=>?_;clear hR;obtain⟨rfl,h2,h3⟩:=yi;subst zr;exact ak.nil (ak.ret (bI.ev (bI.list ba.nil (by decide))) ⟨_,a8,rfl,rfl,rfl,h2,h3⟩)
section
variable{Γ:ag}
theorem fL.list1{pos:Pos}{R:ag->PV->Prop}(hf:Ev C env (cv Γ) (.Name "list" p) true (.raw (.type "list")))(h:fL C env Γ e R)(hR:∀af q,R af q->∃xs,q= .tuple xs/\xs.length<=lim)
  (rY:autoParam (treeE e pos) oA2._auto_1):
  fL C env Γ (.Call (.Name "list" p) [e] [] pos) (λaf q=>∃xs,R af (.tuple xs)/\q= .list xs):=λA o s Q E hr hA hq=>by
 refine TC ?_;obtain⟨S,fp,pO,av⟩:=id hA;refine hf A S _ s _ E hr pO.here λv h1 t1 bQ r1=>?_;cases r1.aQ;rw[rY];refine eR (.inl ⟨_,rfl⟩) ⟨_,_,rfl⟩ rfl ?_;refine Tr (h A o {s with heap:=h1,toks:=t1} _ E hr (hA.ext bQ t1) λv S' ed s' af q hp bF dE rd=>Ud ?_);refine aD (hR af q hp) λxs zr hl=>?_;subst zr;refine(a7.mP (C:=C) (env:=env) (Γ:=cv af) (m1:=true) (xs:=xs) (.inr rfl) hl).2 A S' _ s' s'.heap [v] Q E hr bF.here (.refl _ _ _) bF.here.C5 (.cons (rd.mono (λa ha=>.inl ha) λω ω ω e=>e) .nil) λu h3 t3 iF r3=>?_;refine gj (bF.grow dE iF t3) λS3 g1 g2 g3 g4=>?_;exact hq u S3 ed _ af (.list xs) ⟨xs,hp,rfl⟩ g1 g2 (Rd.grow r3 g3 g4)
theorem fL.LS{l:Expr}{R:ag->PV->Prop}(h1:Ev C env (cv Γ) l true (.list xs))(h:fL C env Γ r R)(hR:∀af q,R af q->∃ys,q= .list ys/\xs.length+ys.length<=lim):
  fL C env Γ (.BinOp l .Add r p) (λaf q=>∃ys,R af (.list ys)/\q= .list (xs++ys)):=λA o s Q E hr hA hq=>by
 obtain⟨S,fp,pO,av⟩:=hA;refine YH (h1 A S _ s _ E hr pO.here λv h1 t1 bQ rv=>?_);refine gj (pO.grow av bQ t1) λS1 gX yC g1 g2=>?_;have QH:=Rd.grow rv g1 g2;refine h A ⟨S1,fp,{s with heap:=h1,toks:=t1}⟩ {s with heap:=h1,toks:=t1} _ E hr ⟨S1,fp,gX,.refl _ _ _ _ _⟩ λu S2 PD s2 af q hp gH uD ru=>?_;refine aD (hR af q hp) λys zr hl=>?_;subst zr;refine aP ((QH.mono (λa z=>uD.grow a z) λa b ha e=>uD.keep a b (gX.aO a ha).2.1 (gX.aO a ha).2.2 e).aS) λa vs n zr zw=>?_;subst zr;refine dd zw λha eh ra=>?_;clear zw;refine aP ru.aS λb us k zr zw=>?_;subst zr;refine dd zw λhb fo rb=>?_;clear zw;refine oE gH.aq.ns λm hm=>?_;have kz:=ra.length;have wX:=rb.length;refine add_arrays (Fg hm) oF (bz.bw eh) (bz.bw fo) (λh' F N=>?_) (by
  rw[RX,RX,kz,wX];exact Rk hl (by decide))
 have iF:Ext A env s2.heap h':=jk hm F N λω hp=>Rn _ hp;refine gj (gH.grow (yC.trans uD) iF s2.toks) λS3 q1 q2 q3 q4=>?_;have ho:=N.get Rm;refine hq _ S3 PD _ af (.list (xs++ys)) ⟨ys,hp,rfl⟩ q1 q2 (.list (q4 _ bf (by rw[ho];rfl)) (vs:=vs++us) (n:=0) (by rw[ho]) (ab.append (ra.mono q3 λa o ha e=>?_) (rb.mono q3 λa o ha e=>?_)))
 all_goals exact iF.keep a o (λz=>(gH.aO a ha).2.1 (.inl z)) e
end
theorem ma:∀j,j<6->(a9 j).ok=true/\(PV.list [.bool true,.str (sU j)]).ok=true/\(PV.list [.bool true,.str (BA j)]).ok=true:=by decide +kernel
theorem za{L:List Nat}(h:∀j∈L,j<6):(L.map a9).all PV.ok=true:=by
 rw[WN];exact Sv.mpr λj hj=>(ma j (h j hj)).1
theorem vg{L:List Nat}(h:∀j∈L,j<6):(PV.dh L).ok=true:=by
 show PV.BU 7 (L.map a9)=true;rw[PV.qz,WN];exact Sv.mpr λj hj=>(ma j (h j hj)).1
theorem Aq(i j:Nat):(a9 i).eqv (a9 j)=decide (i=j):=by
 have e:(a9 i).eqv (a9 j)=(nm i==nm j):=rfl;rw[e];by_cases h:i=j
 ·rw[h,decide_eq_true rfl];exact beq_self_eq_true _
 ·rw[decide_eq_false h];exact beq_eq_false_iff_ne.mpr λq=>h (vB q)
theorem z3{L:List Nat}:((L.map a9).any λy=>y.eqv (a9 j))=decide (j∈L):=by
 rw[Y6];by_cases h:j∈L
 ·rw[decide_eq_true h];exact VZ.mpr ⟨j,h,(Aq j j).trans (decide_eq_true rfl)⟩
 ·rw[decide_eq_false h];exact List.any_eq_false.mpr λi hi q=>h (of_decide_eq_true ((Aq i j).symm.trans q)▸hi)
theorem PV.jm{x:PV}(h:x.ok=true):x.eqv x=true:=Zu _ (PV.canLay0 x (PV.eN 8 x h).1)
theorem mN(L:List Nat):∀x∈L.map a9,x.fy=true:=λx hx=>by
 refine aD (RE.mp hx) λa _ zr=>?_;subst zr;rfl
theorem Ev.dN{x:PV}(E:Ev C env Γ e md x)(h:x=y):Ev C env Γ e md y:=h▸E
theorem cX.dN{x y:Bool}(E:cX C env Γ e x)(h:x=y):cX C env Γ e y:=h▸E
section
variable{l:Expr}{L:List Nat}
theorem V.It(h1:Ev C env Γ l false (a9 i))(h2:Ev C env Γ r false (.dh L))(hi:i<6)(hL:∀j∈L,j<6)(hm:autoParam (TB .In r=false) oA5._auto_1):cX C env Γ (.Compare l [.In] [r] p) (decide (i∈L)):=
 (V.iV h1 h2 (cw.in_list (ma i hi).1 (za hL)) hm).dN z3
theorem V.wU(h1:Ev C env Γ l false (a9 i))(h2:Ev C env Γ r false (.dh L))(hi:i<6)(hL:∀j∈L,j<6)(hm:autoParam (TB .NotIn r=false) oA5._auto_1):cX C env Γ (.Compare l [.NotIn] [r] p) (!decide (i∈L)):=
 (V.iV h1 h2 (cw.vD (ma i hi).1 (za hL)) hm).dN (by rw[z3])
theorem V.gW{x:PV}(h1:Ev C env Γ l false x)(h2:Ev C env Γ r false y)(e:x=y)(hx:x.ok=true)(hm:autoParam (TB .NotEq r=false) oA5._auto_1):cX C env Γ (.Compare l [.NotEq] [r] p) false:=by
 subst e;exact(V.iV h1 h2 (cw.ne hx hx) hm).dN (by rw[PV.jm hx];rfl)
theorem V.wK(h1:Ev C env Γ l false (.dh L))(h2:Ev C env Γ r false (.list []))(hL:∀j∈L,j<6)(hm:autoParam (TB .NotEq r=false) oA5._auto_1):Ev C env Γ (.Compare l [.NotEq] [r] p) false (.bool (!L.isEmpty)):=
 (V.LC h1 h2 (vg hL) hm).dN (by cases L<;>rfl)
end
noncomputable abbrev g8(G:List (Key×PV))(a:AS)(out done left:List Nat):ag:=[("graph",some (0,.dict G)),("sorter",some (1,.ay a)),("out",some (0,.dh out)),("done",some (0,.dh done)),("left",some (0,.dh left))]
theorem vn{G:List (Key×PV)}{out done:List Nat}{Γ:ag}(h1:Γ.lookup ("graph":Str)=some (some (0,.dict G)))(h2:Γ.lookup ("sorter":Str)=some (some (1,.ay a)))(h3:Γ.lookup ("out":Str)=some (some (0,.dh out)))
  (h4:Γ.lookup ("done":Str)=some (some (0,.dh done))) (h5:Γ.lookup ("left":Str)=some (some (0,.dh left))):dY (g8 G a out done left) Γ:=.cons h1 (.cons h2 (.cons h3 (.cons h4 (.cons h5 .nil))))
structure qv(n:Nat)(need:Nat->List Nat)(G:List (Key×PV))(wj left:List Nat):Prop where
 hn:n<=5
 cO:∀j p,p∈need j->p<j
 aF:∀j,(need j).length<=10
 hG:∀j,j<n->dP G (bK j)=some (.dh (need j))
 nd:(wj++left).Nodup
 all:∀j,j<n↔j∈wj++left
section
variable{n:Nat}{G:List (Key×PV)}{wj:List Nat}
theorem qv.Fv(c:qv n need G wj left)(h:j<n):j<6:=Ru h (Tc c.hn)
theorem qv.EL(c:qv n need G wj left){L:List Nat}(h1:L.Nodup)(h2:∀j∈L,j<n):L.length<=5:=by
 have e:=bT L (RG n) h1 λj hj=>RW.mpr (h2 j hj);rw[R']at e;exact Rk e c.hn
theorem qv.Dk(c:qv n need G wj left)(h:j∈left):j<n:=(c.all j).mpr (R3 _ h)
end
theorem IE(T:TopK C)(hN:C.hd=false)(hl:5<=C.cc)(K:d7 env (ae (dZ 9)))(hi:interactive env=false)(fX:FnAt C.K 148 (dZ 8) .none)(gt:C.glob "_law_told" =some (.ref 148))
  {n:Nat}  {G:List (Key×PV)} {wj:List Nat} (X:qv n need G wj left)
   {out done rd:List Nat} (hR:bZ n need a (wj++done) out rd) (rH:∀j∈done,j∈left)
  (k:∀a' ks yh af,bZ n need a' (wj++(done++ks)) [] yh->(∀j∈ks,j∈left)->(done.length<left.length->ks≠[])->dY (g8 G a' [] (done++ks) left) af->P .next af):
  ak C env (g8 G a out done left) (vi (cq (bh (dZ 9)) 11)) P:=by
 have kc:∀ {scope:Scope} {D:RD} {cells:List (Str×RD)} {x:Str},aA (scope.names.lookup x)=true->aA ((CE scope env D cells).kindOf x)=true:=λ{scope D cells x} hx=>(d7.ce (scope:=scope) (env:=env) (L:=D) (cells:=cells)).var x hx;have dG:1000<=lim:=by decide
 have jV:=hR.got;have nM:=λj (hj:j∈out++rd)=>jV.oH hj;have rW:=X.EL jV.nd.2.1 nM;have l9:(rd.map bK).length<=lim:=by
  rw[Rl];exact Rk (Rk (Uj _ _) (RQ▸rW)) (by decide)
 have Lh:∀k∈rd.map bK,(a.find k).isSome=true:=λk hk=>hR.run.elim λω r=>((r.1.um k).mp hk).1;have gK:=jB (C:=C.l 3) (T.l 3) hN hR.aI l9 Lh;rw[mV]at gK;refine ak.gR (fL.LS (Ev.name rfl (K.var "out" rfl)) (fL.list1 (Ev.builtin (v:=.type "list") (K.jZ _ rfl) (T.none (x:="list") (by decide)) (by decide +kernel)) (fL.AD (C:=C) (m:=3) (n:=0) (a:=a) (xs:=[]) T.sk (b8.of T.JA) (Rk (by decide) hl) rfl ba.nil gK) (λaf q h=>⟨_,h.1,?_⟩)) (λaf q h=>?_)) (K.loc "out" (.inl rfl)) λBp pv hX=>?_
 ·rw[Rl]at l9⊢;exact l9
 ·refine aD h λxs yi zr=>?_;clear h;obtain⟨e1,e2⟩:=yi;subst zr;refine⟨xs,rfl,?_⟩;injection e1 with e1
  rw[e1,Rl,Rl,<-RQ];exact Rk rW (by decide)
 refine aD hX λys yi zr=>?_;clear hX;obtain⟨xs,⟨e1,rfl⟩,e3⟩:=yi;subst zr;injection e1 with e1
 injection e3 with e3
 subst e3;subst e1;rw[<-R9];generalize {a.out (rd.map bK)with aI:=some [],au:=a.au+(rd.map bK).length,az:=a.az}=a1 at jV⊢;generalize out++rd=O at jV nM rW⊢;refine ak.weak (af:=g8 G a1 O done left) ?_ (vn rfl rfl rfl rfl rfl);have gy:∀j∈O,∀p∈need j,p∈left->p∈done:=λj hj p hp eY=>(Rw.mp (jV.own (.inr hj) hp)).resolve_left λh=>(RH.mp X.nd).2.2 p h p eY rfl;have eS:(O.flatMap λj=>(need j).flatMap λp=>if(decide (p∈left)&& !decide (p∈done))=true then [a9 j]else [])=[]:=by
  refine U5.mpr λj hj=>U5.mpr λp hp=>?_;by_cases h:p∈left
  ·rw[decide_eq_true (gy j hj p hp h),Bool.not_true,YQ];rfl
  ·rw[decide_eq_false h];rfl
 have N6:∀j∈done,j<6:=λj hj=>X.Fv (X.Dk (rH j hj));have Kq:∀j∈left,j<6:=λj hj=>X.Fv (X.Dk hj);refine ak.cE (C:=C) (dp:=0) (out:=O.flatMap λj=>(need j).flatMap λp=>if(decide (p∈left)&& !decide (p∈done))=true then [a9 j]else []) (jl.lc (L:=O) (g:=a9) (md:=false) (dw.list (V.name rfl (K.var "out" rfl)) ?_) (bB.CW K (by decide))
  (λD cells j hj=>TurnOk.name (b:=true) (.inl rfl) rfl pB.nil (λω=>Cl.typed (L:=need j) (g:=a9) (md:=false) (dw.list (Ev.item_dict (k:=bK j) (m2:=false) (V.name rfl (kc rfl)) (V.name rfl (kc rfl)) (X.hG j (nM j hj))) ?_) λp hp=>TurnOk.name (b:=decide (p∈left)&& !decide (p∈done)) (.inl rfl) rfl (pB.one (cX.Lm (V.It (V.name rfl (kc rfl)) (V.name rfl (kc rfl)) ?_ Kq) λω=>V.wU (V.name rfl (kc rfl)) (V.name rfl (kc rfl)) ?_ N6)) (λhb=>?_) λhb=>?_) (λh=>by cases h)) (mU (by intro _ _;rfl) (by intro _ _;rfl)) (by rw[eS];decide)) (K.loc "soon" (.inl rfl)) ?_
 ·rw[Rl];exact Rk rW (by decide)
 ·rw[Rl];exact Rk (X.aF j) (by decide)
 ·exact X.Fv (R0 (X.cO j p hp) (nM j hj))
 ·exact X.Fv (R0 (X.cO j p hp) (nM j hj))
 ·rw[if_pos hb];exact Cl.emit (V.e0 (V.name rfl (kc rfl)))
 ·rw[hb];rfl
 rw[eS];refine J' (jV.lV jV.nd.2.1 (λω h=>h) (Jd:=[]) (xN jV.nd.2.1)) λAB zP mE=>?_;have E3:∀j∈O,j<6:=λj hj=>X.Fv (nM j hj);refine ak.GO (R:=λaf b=>dY (g8 G ((O.map bK).foldl AS.cu a1) O done left) af/\b=false) (ju.N7 (jY.cons (R1:=λaf b=>af=_/\b=false) (ju.of (V.gW (V.name rfl (K.var "soon" rfl)) V.mx rfl rfl)) ?_ ?_)) ?_
 ·rintro af ⟨_,h⟩;cases h
 ·rintro af ⟨rfl,_⟩;refine jY.cons (R1:=λaf b=>af=_/\b=false) (ju.of ((V.iV (V.methP (C:=C) (m:=3) (n:=1) (a:=a1) (xs:=[]) T.sk (b8.of T.uM) (Rk (by decide) hl) rfl (K.var "sorter" rfl) (λω=>ba.nil) (gE (C:=C.l 3) (T.l 3) hN jV.aI (by decide))) (V.wK (V.name rfl (K.var "out" rfl)) V.mx E3) cw.isnot_bool).dN ?_)) ?_ ?_
  ·rw[jV.cS];cases O<;>rfl
  ·rintro af ⟨_,h⟩;cases h
  ·rintro af ⟨rfl,_⟩;refine jY.cons (R1:=λaf b=>dY (g8 G ((O.map bK).foldl AS.cu a1) O done left) af/\b=false) (ju.cmp (fL.C9 (C:=C) (m:=4) (n:=0) (a:=a1) (hb:=λω=>⟨pure .none,.inr rfl⟩) hl (K.jZ _ rfl) gt fX rfl (ba.cons (Ev.name rfl (K.var "out" rfl)) ba.nil) (xo (C:=C.l 4) (T.l 4) hN (by show 1<=4;decide) fX jV.aI (Rk rW (by decide)) AB)) ?_) ?_ ?_
   ·rintro af x ⟨rfl,rfl⟩;refine⟨.list [],_,V.mx,cw.ne rfl rfl,vn rfl rfl rfl rfl rfl,?_⟩;rw[PV.jm rfl];rfl
   ·rintro af ⟨_,h⟩;cases h
   ·rintro af ⟨hs,_⟩;exact jY.nil ⟨hs,rfl⟩
 rintro af b ⟨hs,rfl⟩;refine ak.nil (ak.weak ?_ hs);rw[Sq]at mE;generalize (O.map bK).foldl AS.cu a1=a2 at mE⊢;have Np:∀j∈O,j∈left:=λj hj=>by
  rcases Rw.mp ((X.all j).mp (nM j hj))with h|h
  ·exact absurd (RC _ h) (jV.dj hj)
  ·exact h
 have Qj:∀j∈done++O,j<6:=λj hj=>(Rw.mp hj).elim (N6 j) (E3 j);have GP:(done++O).length<=5:=X.EL (RH.mp mE.nd.1).2.1 λj hj=>mE.sD (R3 _ hj);refine ak.assign (n:=0) (pv:=.dh (done++O)) (dr.b9 ?_) (K.loc "done" (.inr rfl)) ?_
 ·show Ev _ _ _ _ _ (.list ((done++O).map a9));rw[R9];exact bI.ev (bI.add (Ev.name rfl (K.var "done" rfl)) (Ev.name rfl (K.var "out" rfl)) (by rw[Rl,Rl,<-RQ];exact Rk GP (by decide)))
 refine ak.weak (af:=g8 G a2 O (done++O) left) ?_ (vn rfl rfl rfl rfl rfl);have O1:∀j∈O,a2.cn (bK j)=some (sU j):=λj hj=>mE.fR X.hn (R3 _ (R3 _ hj));have eA:((O.filter λω=>false).map id).map a9=[]:=by
  rw[Va.mpr λω ω h=>Tz h];rfl
 refine ak.cE (C:=C) (dp:=0) (V.B7 (L:=O) (g:=a9) (g':=a9) (h:=id) (q:=λω=>false) (md:=false) K (dw.list (V.name rfl (K.var "out" rfl)) ?_) (by decide) (.inl rfl) rfl (λD cells j hj=>?_) (λD cells j hj h=>Tz h) (Rk rW (by decide))) (K.loc "again" (.inl rfl)) ?_
 ·rw[Rl];exact Rk rW (by decide)
 ·have M1:=E3 j hj;have aF:("node '":Str).length+(nm j).length<=2^24:=Rk (show("node '":Str).length+(nm j).length<=7 from Rx 7) (by decide);exact V.gW (V.fn (C:=C) (m:=4) (md:=false) hl (xe rfl) gt fX (V.br (V.name rfl (kc rfl)) (V.br (V.vZ (V.list (V.br (V.name rfl (kc rfl)) V.eO) (Rk (show 1<=1000 by decide) dG))) V.eO)) (xq (C:=C.l 4) (T.l 4) hN (by show 1<=4;decide) fX M1 (O1 j hj)))
   (V.vZ (V.list (V.br V.bool (V.br (V.yj (V.yj V.str (V.name rfl (kc rfl)) aF) V.str (by rw[show(("node '":Str)++nm j).length=7 from rfl];decide)) V.eO)) (Rk (show 2<=1000 by decide) dG))) rfl (ma j M1).2.1
 rw[eA];refine ak.ite (b:=false) (cX.dN (cX.NS (b:=false) (V.gW (V.name rfl (K.var "again" rfl)) V.mx rfl rfl) λω=>((V.iV (V.methP (C:=C) (m:=3) (n:=1) (a:=a2) (xs:=[]) T.sk (b8.of T.uM) (Rk (by decide) hl) rfl (K.var "sorter" rfl) (λω=>ba.nil) (gE (C:=C.l 3) (T.l 3) hN mE.aI ?_)) (V.cmp (Ev.dN (V.len T K rfl (V.name rfl (K.var "done" rfl)) ?_) (y:=.int ((done++O).length:Nat)) (by rw[Rl])) (Ev.dN (V.len T K rfl (V.name rfl (K.var "left" rfl)) ?_) (y:=.int (left.length:Nat)) (by rw[Rl])) cw.lt_int) cw.isnot_bool).dN ?_)) rfl) (ak.nil ?_)
 ·have h:=(mE.run.elim λω r=>r.1.oh:(zP.map bK).length<=1000);exact Rk h dG
 ·rw[Rl];exact Rk GP (by decide)
 ·rw[Rl];exact Rk (X.EL (RH.mp X.nd).2.1 λj hj=>X.Dk hj) (by decide)
 ·have J0:(done++O).Nodup:=(RH.mp mE.nd.1).2.1;have ml:∀j∈done++O,j∈left:=λj hj=>(Rw.mp hj).elim (rH j) (Np j);rw[mE.act X.cO (b:=decide (((done++O).length:Int)<(left.length:Int))) (λhb=>?_) λhb j hj=>?_]
  ·exact bne_self_eq_false _
  ·have hlt:=Ta.mp (of_decide_eq_true hb);refine UK λDh=>Vf.mpr hlt (bT left (done++O) (RH.mp X.nd).2.1 λj hj=>UK λhd=>Dh ⟨j,X.Dk hj,λhm=>?_⟩);rcases Rw.mp hm with h|h
   ·exact(RH.mp X.nd).2.2 j h j hj rfl
   ·exact hd h
  ·rcases Rw.mp ((X.all j).mp hj)with h|h
   ·exact RC _ h
   ·refine R3 _ (UK λhd=>of_decide_eq_false hb (Ta.mpr ?_));exact bT (j::(done++O)) left (RO.mpr ⟨hd,J0⟩) λx hx=>(Rr.mp hx).elim (λe=>e▸h) (ml x)
 ·refine ak.assign (n:=0) (pv:=.dh []) (dr.b9 (bI.ev (bI.list ba.nil (by decide)))) (K.loc "out" (.inl rfl)) (ak.nil ?_);refine k a2 O zP _ mE Np (λhlt e=>?_) (vn rfl rfl rfl rfl rfl);subst e;refine Vf.mpr hlt (bT left done (RH.mp X.nd).2.1 λj hj=>UK λhd=>?_);rcases jV.mF X.cO (X.Dk hj) (λhm=>(Rw.mp hm).elim (λh=>(RH.mp X.nd).2.2 j h j hj rfl) hd)with h|h
  ·exact h rfl
  ·exact h rfl
theorem vS{fW:α->Int}{P:α->Prop}(uV:∀a b,P a->P b->fW a=fW b->a=b)(L:List α)(hP:∀a∈L,P a):∃S:List α,S.Perm L/\∀L',L.Perm L'->L'.Pairwise (λa b=>fW a<=fW b)->L'=S:=by
 have hm:=List.mergeSort_perm L (λa b=>decide (fW a<=fW b));have hp:=List.pairwise_mergeSort (le:=λa b=>decide (fW a<=fW b)) (λa b c h1 h2=>decide_eq_true (SX (of_decide_eq_true h1) (of_decide_eq_true h2)))
  (λa b=>by
   rcases Int.le_total (fW a) (fW b)with h|h
   ·rw[decide_eq_true h];rfl
   ·rw[decide_eq_true h];exact Bool.or_true _) L
 exact⟨_,hm,λL' h1 h2=>List.Perm.eq_of_pairwise (le:=λa b=>fW a<=fW b) (λa b ha hb x y=>uV a b (hP a (h1.mem_iff.mpr ha)) (hP b (hm.mem_iff.mp hb)) (Wf x y)) h2 (hp.imp λh=>of_decide_eq_true h) (h1.symm.trans hm.symm)⟩
theorem ic.xg{RA:Sg->Prop}{g:α->PV}{fW:α->Int}{P:α->Prop}(h:ic C RA g fW P κ)(f:β->α):ic C RA (λb=>g (f b)) (λb=>fW (f b)) (λb=>P (f b)) κ where
 lt:=λA S s x y a b=>h.lt A S s x y (f a) (f b)
 kind:=λA S s vs L E Q h2 hP r hq=>h.kind A S s vs (L.map f) E Q h2 (λa ha=>by
  refine aD (RE.mp ha) λb hb zr=>?_;subst zr;exact hP b hb) (by rw[R6];exact r) hq
 Gr:=λS h' x a b=>h.Gr S h' x (f a) (f b)
section
variable{l:Expr}{q q':Pos}
theorem V.wy{g:α->PV}{fW:α->Int}{P:α->Prop}(T:TopK C)(K:d7 env names)(hk:names.lookup ("sorted":Str)=some .globalImplicit)(hS:ic C (λω=>True) g fW P κ)(uV:∀a b,P a->P b->fW a=fW b->a=b){L L2:List α}(hP:∀a∈L,P a)(aF:L.length<=lim)(hp:L.Perm L2)
  (h1:Ev C env Γ l false (.list (L.map g))) (h2:Ev C env Γ r false (.list (L2.map g)))
  (aX:autoParam (∀env,∃x rest,SF p' (RV [l] env)=(false,x)::rest) oA4._auto_1) (eY:autoParam (∀env,(SF p' (RV [l] env)).any (·.1)=false) oA2._auto_1)
  (zp:autoParam (∀env,∃x rest,SF q' (RV [r] env)=(false,x)::rest) oA4._auto_1) (ze:autoParam (∀env,(SF q' (RV [r] env)).any (·.1)=false) oA2._auto_1)
  (yN:autoParam (∀env,RV [l] env=[(false,eval l env)]) oA2._auto_1) (mh:autoParam (∀env,RV [r] env=[(false,eval r env)]) oA2._auto_1):
  ∃S:List α,S.Perm L/\Ev C env Γ (.Call (.Name "sorted" p) [l] [] p') false (.list (S.map g))/\Ev C env Γ (.Call (.Name "sorted" q) [r] [] q') false (.list (S.map g)):=by
 refine aD (vS uV L hP) λS Gz mQ=>?_;have hn:∀p,Ev C env Γ (.Name "sorted" p) true (.raw (.builtin "sorted")):=λp=>Ev.builtin (K.jZ _ hk) (T.none (x:="sorted") (by decide)) (by decide +kernel);refine⟨S,Gz,V.call (hn p) (V.br h1 V.eO yN) (a7.sorted hS (λω ω=>trivial) hP aF λL' a b=>by rw[mQ L' a b]) aX eY,V.call (hn q) (V.br h2 V.eO mh) (a7.sorted hS (λω ω=>trivial) (λa ha=>hP a (hp.mem_iff.mpr ha)) (by rw[<-hp.length_eq];exact aF) λL' a b=>by rw[mQ L' (hp.trans a) b]) zp ze⟩
theorem V.zu{g:α->PV}{fW:α->Int}{P:α->Prop}{pos:Pos}(T:TopK C)(K:d7 env names)(hk:names.lookup ("sorted":Str)=some .globalImplicit)(hS:ic C (λω=>True) g fW P κ)(uV:∀a b,P a->P b->fW a=fW b->a=b){L L2:List α}(hP:∀a∈L,P a)(aF:L.length<=lim)(hp:L.Perm L2)
  (Ia:∀S:List α,(∀a∈S,a∈L)->(PV.list (S.map g)).ok=true)
  (h1:Ev C env Γ l false (.list (L.map g))) (h2:Ev C env Γ r false (.list (L2.map g)))
  (aX:autoParam (∀env,∃x rest,SF p' (RV [l] env)=(false,x)::rest) oA4._auto_1) (eY:autoParam (∀env,(SF p' (RV [l] env)).any (·.1)=false) oA2._auto_1)
  (zp:autoParam (∀env,∃x rest,SF q' (RV [r] env)=(false,x)::rest) oA4._auto_1) (ze:autoParam (∀env,(SF q' (RV [r] env)).any (·.1)=false) oA2._auto_1)
  (yN:autoParam (∀env,RV [l] env=[(false,eval l env)]) oA2._auto_1) (mh:autoParam (∀env,RV [r] env=[(false,eval r env)]) oA2._auto_1)
  (hm:autoParam (TB .NotEq (.Call (.Name "sorted" q) [r] [] q')=false) oA5._auto_1):
  cX C env Γ (.Compare (.Call (.Name "sorted" p) [l] [] p') [.NotEq] [.Call (.Name "sorted" q) [r] [] q'] pos) false:=by
 refine bM (V.wy (p:=p) (q:=q) T K hk hS uV hP aF hp h1 h2 aX eY zp ze yN mh) λS Gz e1 e2=>?_;exact V.gW e1 e2 rfl (Ia S λa ha=>Gz.mem_iff.mp ha) hm
theorem V.yU{g:α->PV}{fW:α->Int}{P:α->Prop}{pos:Pos}(T:TopK C)(K:d7 env names)(hk:names.lookup ("sorted":Str)=some .globalImplicit)(hS:ic C (λω=>True) g fW P κ)(uV:∀a b,P a->P b->fW a=fW b->a=b){L L2:List α}(hP:∀a∈L,P a)(aF:L.length<=lim)(hp:L.Perm L2)
  (Ia:∀S:List α,(∀a∈S,a∈L)->(PV.list (S.map g)).ok=true)
  (h1:Ev C env Γ l false (.list (L.map g))) (h2:Ev C env Γ r false (.list (L2.map g)))
  (aX:autoParam (∀env,∃x rest,SF p' (RV [l] env)=(false,x)::rest) oA4._auto_1) (eY:autoParam (∀env,(SF p' (RV [l] env)).any (·.1)=false) oA2._auto_1)
  (zp:autoParam (∀env,∃x rest,SF q' (RV [r] env)=(false,x)::rest) oA4._auto_1) (ze:autoParam (∀env,(SF q' (RV [r] env)).any (·.1)=false) oA2._auto_1)
  (yN:autoParam (∀env,RV [l] env=[(false,eval l env)]) oA2._auto_1) (mh:autoParam (∀env,RV [r] env=[(false,eval r env)]) oA2._auto_1)
  (hm:autoParam (TB .Eq (.Call (.Name "sorted" q) [r] [] q')=false) oA5._auto_1):
  Ev C env Γ (.Compare (.Call (.Name "sorted" p) [l] [] p') [.Eq] [.Call (.Name "sorted" q) [r] [] q'] pos) false (.bool true):=by
 refine bM (V.wy (p:=p) (q:=q) T K hk hS uV hP aF hp h1 h2 aX eY zp ze yN mh) λS Gz e1 e2=>?_;have hx:=Ia S λa ha=>Gz.mem_iff.mp ha;exact(V.cmp e1 e2 (cw.eq hx hx) hm).dN (by rw[PV.jm hx])
end
theorem Gu(T:TopK C)(hN:C.hd=false)(hl:5<=C.cc)(K:d7 env (ae (dZ 9)))(hi:interactive env=false)(fX:FnAt C.K 148 (dZ 8) .none)(gt:C.glob "_law_told" =some (.ref 148))
  {n:Nat}  {G:List (Key×PV)} {wj:List Nat} (X:qv n need G wj left)  {out rd:List Nat} (hR:bZ n need a wj out rd):
  ak C env (g8 G a out [] left) [cq (bh (dZ 9)) 11,cq (bh (dZ 9)) 12,cq (bh (dZ 9)) 13] (λfl ω=>fl= .ret (.str (if left.isEmpty then "let" else "refused"))):=by
 have dG:1000<=lim:=by decide
 have FJ:=(RH.mp X.nd).2.1;have Gb:=X.EL FJ λj hj=>X.Dk hj;have N5:∀j∈left,j<6:=λj hj=>X.Fv (X.Dk hj);have Kb:(left.map a9).length<=lim:=by
  rw[Rl];exact Rk Gb (by decide)
 refine ak.nU (C:=C) (L:=left) (g:=a9) (dw.list (Ev.name (n:=0) (md:=true) rfl (K.var "left" rfl)) Kb)
  (λi aE=>∃a out done rd,bZ n need a (wj++done) out rd/\(∀j∈done,j∈left)/\min i left.length<=done.length/\dY (g8 G a out done left) aE)
  (λj aE=>("turn",some (0,a9 j))::aE) ⟨a,out,[],rd,by rw[SP];exact hR,(λω h=>nomatch h),UI (Nat.zero_min _),vn rfl rfl rfl rfl rfl⟩ (λj aE ω=>dI.name (K.loc "turn" (.inl rfl))) (λi j aE hj hinv=>?_) λaf hinv=>?_
 ·refine nA hinv λa out done rd hR rH hlen hs=>?_;clear hinv;refine ak.weak (af:=g8 G a out done left) ?_ (.trans (b:=("turn",some (0,a9 j))::g8 G a out done left) (vn rfl rfl rfl rfl rfl) (aT _ _ hs));refine IE (C:=C) T hN hl K hi fX gt X hR rH λa' ks yh C7 mE wQ aX mh=>⟨a',[],done++ks,yh,mE,λj hj=>(Rw.mp hj).elim (rH j) (wQ j),?_,mh⟩;rw[RQ];by_cases c:done.length<left.length
  ·have h1:=List.length_pos_iff.mpr (aX c);omega
  ·exact Rk (Ur _ _) (Rk (T6 c) (Sh _ _))
 ·refine nA hinv λa out done rd hR rH hlen hs=>?_;clear hinv;rw[VG]at hlen;have hp:=(iW (RH.mp hR.nd.1).2.1 rH hlen).symm;refine ak.weak ?_ hs;refine ak.ite (b:=false) (V.zu (C:=C) T K rfl ((yD C).xg nm) (λa b ω ω h=>?_) (L:=done) (L2:=left) (λj ω=>⟨97+j,rfl⟩) (by rw[<-hp.length_eq];exact Rk Gb (by decide)) hp.symm (λS hS=>vg λj hj=>N5 j (hp.mem_iff.mpr (hS j hj))) (V.name rfl (K.var "done" rfl)) (V.name rfl (K.var "left" rfl))) (ak.nil ?_)
  ·have h:((97+a:Nat):Int)=((97+b:Nat):Int):=h;exact XY (Int.ofNat.inj h)
  ·refine ak.ret (V.t ((V.Mv (V.MU (V.name rfl (K.var "left" rfl)) V.mx (vg N5)) (λω=>V.str) λω=>V.str).dN (y:=.str (if left.isEmpty then "let" else "refused")) ?_)) rfl;cases left<;>rfl
noncomputable def l5(bG:List Nat)(f:Nat->List Nat):List (Key×PV):=bG.map λj=>(bK j,PV.dh (f j))
theorem qj{f:Nat->List Nat}:∀ {bG:List Nat},j∈bG->dP (l5 bG f) (bK j)=some (.dh (f j))
 |a::bG,h=>by
  unfold dP l5;rw[Sl,TQ];by_cases e:a=j
  ·rw[e,decide_eq_true rfl];rfl
  ·rw[decide_eq_false λq=>e (fY q)];exact qj ((Rr.mp h).resolve_left λq=>e q.symm)
theorem Ad(bG:List Nat)(f:Nat->List Nat):Key.cV ((l5 bG f).map (·.1))=bG.map a9:=by
 unfold l5 Key.cV;rw[R6,R6];rfl
noncomputable def Bi(bG:List Nat)(f:Nat->List Nat):List (Key×List Key):=bG.map λj=>(bK j,(f j).map bK)
theorem EP(bG:List Nat)(f:Nat->List Nat):kG (Bi bG f)=l5 bG f:=by
 unfold kG Bi l5;rw[R6];exact Tg λj ω=>by simp only[Function.comp,mV]
theorem nT{n:Nat}{f:Nat->List Nat}(hf:∀j,j<n->∀p∈f j,p<n):∀ (bG:List Nat) {G:List (Nat×List Nat)} {a:AS} {pr:Key->List Key},(∀j∈bG,j<n)->ec n G a pr->∃GK,ec n (G++bG.map λj=>(j,f j)) (g7 (Bi bG f) a) GK
 |[],G,a,pr,_,h=>⟨pr,by rw[WM,SP];exact h⟩
 |j::bG,G,a,pr,hj,h=>by
  refine oE (h.one (hj j (.head _)) (hf j (hj j (.head _)))) λQZ h1=>?_;refine oE (nT hf bG (λi hi=>hj i (.tail _ hi)) h1) λPC h2=>?_;exact⟨PC,by rw[Sq]at h2;exact h2⟩
theorem Ez{n:Nat}{f:Nat->List Nat}(hn:n<=5)(hf:∀j,j<n->∀p∈f j,p<n)(aF:∀j,(f j).length<=10){bG:List Nat}(hj:∀j∈bG,j<n)(hl:bG.length<=5):zb (Bi bG f):=by
 have hp:∀ (i:Nat) (p:Key×List Key),(Bi bG f)[i]?=some p->p.2.length<=10:=λi p h=>by
  refine aD (RE.mp (R4 h)) λj _ zr=>?_;subst zr;rw[Rl];exact aF j
 refine⟨λi p h=>?_,λi p h=>Rk (hp i p h) (by decide)⟩;have e:(Bi bG f).take i=Bi (bG.take i) f:=by
  unfold Bi;rw[U0]
 refine oE (nT hf (bG.take i) (λj h=>hj j (UN h)) ec.zero) λpr hA=>?_;rw[e];refine gS (hA.small hn ?_ ?_).1 (Rk (Tf (Vw 2 (hp i p h)) 4) (by decide))
 ·rw[UB,Rl];exact Rk (Rk (Tu _ _) hl) (by decide)
 ·intro g hg;refine aD (RE.mp hg) λj _ zr=>?_;subst zr;exact aF j
theorem qf{h:Nat->List Nat}:∀ {L:List Nat},L.Nodup->((L.map λi=>(i,h i)).filter λg=>decide (bK g.1=bK j))=if j∈L then [(j,h j)]else []
 |[],_=>rfl
 |a::L,hn=>by
  have hn:=RO.mp hn;rw[Sl,S9,qf hn.2];by_cases e:a=j
  ·subst e;rw[if_pos (decide_eq_true rfl),if_neg hn.1,if_pos (.head _)]
  ·rw[if_neg λq=>e (fY (of_decide_eq_true q))];by_cases m:j∈L
   ·rw[if_pos m,if_pos (.tail _ m)]
   ·rw[if_neg m,if_neg λq=>m ((Rr.mp q).resolve_left λq=>e q.symm)]
theorem ec.full{n:Nat}{pr:Key->List Key}{bG:List Nat}(h:ec n ((bG.map λj=>(j,(need j).take ((need j).length - 1)))++row.map λj=>(j,(need j).drop ((need j).length - 1))) a pr)
  (hj:bG.Perm (RG n)) (hr:row.Perm (RG n)):(∀j,j<n->a.has (bK j)=true)/\∀j,j<n->pr (bK j)=(need j).map bK:=by
 have m1:∀ {j},j<n->j∈bG:=λh=>hj.mem_iff.mpr (RW.mpr h);have m2:∀ {j},j<n->j∈row:=λh=>hr.mem_iff.mpr (RW.mpr h);refine⟨λj h1=>h.got (j,_) (RC _ (RE.mpr ⟨j,m1 h1,rfl⟩)),λj h1=>?_⟩;rw[h.pr,Ww,qf (hj.nodup_iff.mpr Tw),qf (hr.nodup_iff.mpr Tw),if_pos (m1 h1),if_pos (m2 h1)];show((need j).take ((need j).length - 1)).map bK++(((need j).drop ((need j).length - 1)).map bK++[])=_;rw[SP,<-R9,To]
noncomputable def dX(k:Nat):PV:=.int k
noncomputable def yP(j:Nat):PV:=.list [.bool true,.str (BA j)]
noncomputable abbrev k8(G:List (Key×PV))(row:List Nat)(a:AS)(out left:List Nat):ag:=[("graph",some (0,.dict G)),("row",some (0,.dh row)),("sorter",some (1,.ay a)),("words",some (0,.list (row.map yP))),("out",some (1,.dh out)),("done",some (0,.dh [])),("left",some (0,.dh left))]
theorem nQ{G:List (Key×PV)}{out:List Nat}{Γ:ag}(h1:Γ.lookup ("graph":Str)=some (some (0,.dict G)))(h6:Γ.lookup ("row":Str)=some (some (0,.dh row)))(h2:Γ.lookup ("sorter":Str)=some (some (1,.ay a)))(h7:Γ.lookup ("words":Str)=some (some (0,.list (row.map yP))))
  (h3:Γ.lookup ("out":Str)=some (some (1,.dh out))) (h4:Γ.lookup ("done":Str)=some (some (0,.dh []))) (h5:Γ.lookup ("left":Str)=some (some (0,.dh left))):dY (k8 G row a out left) Γ:=.cons h1 (.cons h6 (.cons h2 (.cons h7 (.cons h3 (.cons h4 (.cons h5 .nil))))))
theorem Ic(T:TopK C)(hN:C.hd=false)(hl:5<=C.cc)(K:d7 env (ae (dZ 9)))(hi:interactive env=false)(fX:FnAt C.K 148 (dZ 8) .none)(gt:C.glob "_law_told" =some (.ref 148))
  {n:Nat}  {G:List (Key×PV)}  (hn:n<=5) (cO:∀j p,p∈need j->p<j) (gs:row.Perm (RG n))  (hj:row[i]?=some j)
   {out rd:List Nat} (hR:bZ n need a (row.take i) out rd)
  (kb:∀a1 BQ af,bZ n need a1 (row.take i) BQ []->j∉BQ->dY (k8 G row a1 BQ (row.drop i)) af->P .brk af)
  (kn:∀a2 CO zP af,bZ n need a2 (row.take (i+1)) CO zP->(∀p∈need j,p∈row.take i)->dY (k8 G row a2 CO (row.drop (i+1))) af->P .next af):
  ak C env (("k",some (0,dX i))::k8 G row a out (row.drop i)) (vi (cq (bh (dZ 9)) 10)) P:=by
 have dG:1000<=lim:=by decide
 refine oE (RY.mp hj) λDz MR=>?_;have l9:row.length=n:=by rw[gs.length_eq,R']
 have aG:row.Nodup:=gs.nodup_iff.mpr Tw;have hlt:∀ {x},x∈row->x<n:=λh=>RW.mp (gs.mem_iff.mp h);have Fu:j∈row:=MR▸WR Dz;have oa:j<n:=hlt Fu;have h6:∀ {x},x<n->x<6:=λh=>Ru h (Tc hn);have EL:∀ {L:List Nat},L.Nodup->(∀x∈L,x<n)->L.length<=5:=λ{L} h1 h2=>by
  have e:=bT L (RG n) h1 λx hx=>RW.mpr (h2 x hx);rw[R']at e;exact Rk e hn
 have pY:(row.map a9).length<=1000:=by
  rw[Rl,l9];exact Rk hn (by decide)
 have ED:j∉row.take i:=λhm=>by
  obtain⟨m,je,fS⟩:=UR.mp hm;have FU:=Ru je (UH _ _);have e:row[m]'(R0 FU Dz)=row[i]:=fS.trans MR.symm;have e1:=aG.idxOf_getElem m (R0 FU Dz);rw[e,aG.idxOf_getElem i Dz]at e1;exact absurd FU (e1▸S8 _)
 have NZ:row.take (i+1)=row.take i++[j]:=by rw[Ue,hj];rfl
 have jV:=hR.got;have nM:=λx (hx:x∈out++rd)=>jV.oH hx;have rW:=EL jV.nd.2.1 nM;have Aw:(rd.map bK).length<=lim:=by
  rw[Rl];exact Rk (Rk (Uj _ _) (RQ▸rW)) (by decide)
 have gK:=jB (C:=C.l 3) (T.l 3) hN hR.aI Aw (λk hk=>hR.run.elim λω r=>((r.1.um k).mp hk).1);rw[mV]at gK;have yu:∀ {Γ:fT} {md:Bool} {p1 p2 p3:Pos},Γ.lookup ("row":Str)=some (some (0,.dh row))->Γ.lookup ("k":Str)=some (some (0,dX i))->Ev C env Γ (.Subscript (.Name "row" p1) (.Name "k" p2) p3) md (a9 j):=λ{Γ md p1 p2 p3} g1 g2=>
  Ev.fy (Ev.item (m2:=true) (Ev.name (n:=0) g1 (K.var "row" rfl)) (Ev.name (n:=0) g2 (K.var "k" rfl)) (Su i) (U7 (Ta.mpr (Ru Dz (l9▸hn))) (by decide)) (by rw[SA,RZ,hj];rfl)) rfl
 refine ak.gR (fL.AD (C:=C) (m:=3) (n:=0) (a:=a) (xs:=[]) T.sk (b8.of T.JA) (Rk (by decide) hl) rfl ba.nil gK) (K.loc "given" (.inl rfl)) λBp pv hX=>?_;refine oA hX λzr zw=>?_;clear hX;subst zr;subst zw;generalize {a.out (rd.map bK)with aI:=some [],au:=a.au+(rd.map bK).length,az:=a.az}=a1 at jV⊢;refine ak.assign (n:=1) (pv:=.dh (out++rd)) ?_ (K.loc "out" (.inl rfl)) ?_
 ·show dr _ _ _ _ _ (.list ((out++rd).map a9));rw[R9];refine bI.P5 (md:=false) (bI.add (V.name rfl (K.var "out" rfl)) (Ev.call (m1:=false) (xs:=[.tuple (rd.map a9)]) (Ev.builtin (v:=.type "list") (K.jZ _ rfl) (T.none (x:="list") (by decide)) (by decide +kernel)) (V.br (V.name rfl (K.var "given" rfl)) V.eO) (a7.mP (.inr rfl) (by rw[Rl]at Aw⊢;exact Aw))) ?_) λx hx=>?_
  ·rw[Rl,Rl,<-RQ];exact Rk rW (by decide)
  ·rw[<-R9]at hx;exact mN _ x hx
 generalize out++rd=O at jV nM rW⊢;have E3:∀x∈O,x<6:=λx hx=>h6 (nM x hx);refine ak.weak (af:=("given",some (0,.tuple (rd.map a9)))::("k",some (0,dX i))::k8 G row a1 O (row.drop i)) ?_ (.cons rfl (.cons rfl (nQ rfl rfl rfl rfl rfl rfl rfl)));have wk:∀ {Γ:fT} {md:Bool} {p1 p2 p3:Pos},Γ.lookup ("words":Str)=some (some (0,.list (row.map yP)))->Γ.lookup ("k":Str)=some (some (0,dX i))->Ev C env Γ (.Subscript (.Name "words" p1) (.Name "k" p2) p3) true (yP j):=λ{Γ md p1 p2 p3} g1 g2=>
  Ev.item (m2:=true) (Ev.name (n:=0) g1 (K.var "words" rfl)) (Ev.name (n:=0) g2 (K.var "k" rfl)) (Su i) (U7 (Ta.mpr (Ru Dz (l9▸hn))) (by decide)) (by rw[SA,RZ,hj];rfl)
 refine ak.assign (n:=0) (pv:=if decide (j∈O)then .list []else yP j) (dr.b9 (Ev.ite (f:=λx:PV=>x) (V.It (yu rfl rfl) (V.name rfl (K.var "out" rfl)) (h6 oa) E3) (λω=>bI.ev (bI.list ba.nil (by decide))) λω=>wk (md:=true) rfl rfl)) (K.loc "due" (.inl rfl)) ?_;by_cases Ee:j∈O
 ·-- taken
  rw[decide_eq_true Ee,if_pos rfl];refine J' (jV.lV (ks:=[j]) (Jd:=O.erase j) (RO.mpr ⟨RN,.nil⟩) (λx hx=>Rq.mp hx▸Ee) (zq O j)) λAB zP mE=>?_;rw[<-NZ]at mE;refine ak.GO (R:=λaf b=>dY (("due",some (0,.list []))::("k",some (0,dX i))::k8 G row (([j].map bK).foldl AS.cu a1) O (row.drop i)) af/\b=false) (ju.N7 (jY.cons (R1:=λaf b=>af=_/\b=false) (ju.of (V.iV (V.Dd T K rfl (V.name rfl (K.var "given" rfl))) (V.tyName (x:="tuple") (v:=.type "tuple") T K (by decide) rfl (by decide +kernel)) cw.isnot_type)) ?_ ?_)) ?_
  ·rintro af ⟨_,h⟩;cases h
  ·rintro af ⟨rfl,_⟩;refine jY.cons (R1:=λaf b=>af=_/\b=false) (ju.of ((V.iV (V.methP (C:=C) (m:=3) (n:=1) (a:=a1) (xs:=[]) T.sk (b8.of T.uM) (Rk (by decide) hl) rfl (K.var "sorter" rfl) (λω=>ba.nil) (gE (C:=C.l 3) (T.l 3) hN jV.aI (by decide))) (V.wK (V.name rfl (K.var "out" rfl)) V.mx E3) cw.isnot_bool).dN (by rw[jV.cS];cases O<;>rfl))) ?_ ?_
   ·rintro af ⟨_,h⟩;cases h
   ·rintro af ⟨rfl,_⟩;refine jY.cons (R1:=λaf b=>dY (("due",some (0,.list []))::("k",some (0,dX i))::k8 G row (([j].map bK).foldl AS.cu a1) O (row.drop i)) af/\b=false) (ju.cmp (fL.C9 (C:=C) (m:=4) (n:=0) (a:=a1) (hb:=λω=>⟨pure .none,.inr rfl⟩) hl (K.jZ _ rfl) gt fX rfl (ba.cons (bI.ev (bI.list (ba.cons (yu rfl rfl) ba.nil) (Rk (show 1<=1000 by decide) dG))) ba.nil) (xo (C:=C.l 4) (L:=[j]) (T.l 4) hN (by show 1<=4;decide) fX jV.aI (show 1<=10 by decide) AB)) ?_) ?_ ?_
    ·rintro af x ⟨rfl,rfl⟩;refine⟨.list [],_,V.name rfl (K.var "due" rfl),cw.ne rfl rfl,.cons rfl (.cons rfl (nQ rfl rfl rfl rfl rfl rfl rfl)),?_⟩;rw[PV.jm rfl];rfl
    ·rintro af ⟨_,h⟩;cases h
    ·rintro af ⟨hs,_⟩;exact jY.nil ⟨hs,rfl⟩
  rintro af b ⟨hs,rfl⟩;refine ak.nil (ak.weak ?_ hs);generalize ([j].map bK).foldl AS.cu a1=a2 at mE⊢;refine ak.ite (b:=false) (V.gW (V.name rfl (K.var "due" rfl)) V.mx rfl rfl) (ak.nil ?_);refine ak.AE (C:=C) (d9:=1) (upd:=id) (sW.list rfl) (yu rfl rfl) Ee (Rk rW (by decide)) hi ?_;refine ak.weak (af:=("k",some (0,dX i))::k8 G row a2 (O.erase j) (row.drop i)) ?_ (.cons rfl (nQ rfl rfl rfl rfl rfl rfl rfl));refine ak.assign (n:=0) (pv:=.dh (row.drop (i+1))) (dr.b9 ?_) (K.loc "left" (.inr rfl)) ?_
  ·show Ev _ _ _ _ _ (.list ((row.drop (i+1)).map a9));rw[Vr];exact bI.ev (bI.jG (m2:=true) (k:=(i:Int)+1) (Ev.name rfl (K.var "row" rfl)) (Ev.add_int (m1:=true) (m2:=true) (Ev.name rfl (K.var "k" rfl)) Ev.int) (Int.add_nonneg (Su i) (by decide)) (Rk pY dG))
  have hw:=mE.fR hn (j:=j) (by rw[NZ];exact R3 _ (.head _));refine ak.assign (n:=0) (pv:=.list [.bool true,.str (sU j)]) (dr.b9 (bI.ev (bI.MX (m:=4) (m1:=false) hl (K.jZ _ rfl) gt fX (V.br (V.name rfl (K.var "sorter" rfl)) (V.br (V.vZ (V.list (V.br (yu rfl rfl) V.eO) (Rk (show 1<=1000 by decide) dG))) V.eO)) (mR (C:=C.l 4) (T.l 4) hN (by show 1<=4;decide) fX (h6 oa) hw)))) (K.loc "again" (.inl rfl)) ?_;have aF:("node '":Str).length+(nm j).length<=2^24:=Rk (show("node '":Str).length+(nm j).length<=7 from Rx 7) (by decide);have E4:∀x∈row.drop (i+1),x<6:=λx hx=>h6 (hlt (Uc hx));refine ak.ite (b:=false) (cX.dN (cX.NS (b:=false) (V.gW (V.name rfl (K.var "again" rfl)) (V.vZ (V.list (V.br V.bool (V.br (V.yj (V.yj V.str (yu rfl rfl) aF) V.str (by rw[show(("node '":Str)++nm j).length=7 from rfl];decide)) V.eO)) (Rk (show 2<=1000 by decide) dG))) rfl (ma j (h6 oa)).2.1)
   λω=>((V.iV (V.methP (C:=C) (m:=3) (n:=1) (a:=a2) (xs:=[]) T.sk (b8.of T.uM) (Rk (by decide) hl) rfl (K.var "sorter" rfl) (λω=>ba.nil) (gE (C:=C.l 3) (T.l 3) hN mE.aI ?_)) (V.wK (V.name rfl (K.var "left" rfl)) V.mx E4) cw.isnot_bool).dN ?_)) rfl) (ak.nil (ak.nil ?_))
  ·exact Rk (mE.run.elim λω r=>r.1.oh:(zP.map bK).length<=1000) dG
  ·rw[mE.act cO (b:=!(row.drop (i+1)).isEmpty) (λhb=>?_) λhb x hx=>?_]
   ·exact bne_self_eq_false _
   ·cases hd:row.drop (i+1)with
    |nil=>rw[hd]at hb;cases hb
    |cons x r=>
     have hx:x∈row.drop (i+1):=by rw[hd];exact .head _
     refine⟨x,hlt (Uc hx),λhm=>?_⟩;have xb:=aG;rw[<-To (i+1) row]at xb;exact(RH.mp xb).2.2 x hm x hx rfl
   ·cases hd:row.drop (i+1)with
    |nil=>
     have e:=To (i+1) row;rw[hd,SP]at e;rw[e];exact gs.mem_iff.mpr (RW.mpr hx)
    |cons x r=>rw[hd]at hb;cases hb
  ·refine kn a2 (O.erase j) zP _ mE (λp hp=>jV.own (.inr Ee) hp) (nQ rfl rfl rfl rfl rfl rfl rfl)
 ·-- refused
  rw[decide_eq_false Ee,if_neg Tz];have hw:=jV.iq hn oa ED Ee;refine ak.ite (b:=false) (cX.dN (cX.bools (b:=false) (gv.or (b:=false) (V.iV (V.Dd T K rfl (V.name rfl (K.var "given" rfl))) (V.tyName (x:="tuple") (v:=.type "tuple") T K (by decide) rfl (by decide +kernel)) cw.isnot_type) λω=>gv.or (b:=false) (a:=false) ((V.iV (V.methP (C:=C) (m:=3) (n:=1) (a:=a1) (xs:=[]) T.sk (b8.of T.uM) (Rk (by decide) hl) rfl (K.var "sorter" rfl) (λω=>ba.nil) (gE (C:=C.l 3) (T.l 3) hN jV.aI (by decide))) (V.wK (V.name rfl (K.var "out" rfl)) V.mx E3) cw.isnot_bool).dN (by rw[jV.cS];cases O<;>rfl)) λω=>gv.or (b:=false) (a:=false) (V.gW (V.fn (C:=C) (m:=4) (md:=false) hl (K.jZ _ rfl) gt fX (V.br (V.name rfl (K.var "sorter" rfl)) (V.br (V.vZ (V.list (V.br (yu rfl rfl) V.eO) (Rk (show 1<=1000 by decide) dG))) V.eO)) (xq (C:=C.l 4) (T.l 4) hN (by show 1<=4;decide) fX (h6 oa) hw)) (V.name rfl (K.var "due" rfl)) rfl (ma j (h6 oa)).2.2) λω=>gv.or_nil)) rfl) (ak.nil ?_);refine ak.ite (b:=true) ((V.iV (V.name rfl (K.var "due" rfl)) V.mx (cw.ne (y:=.list []) (ma j (h6 oa)).2.2 rfl)).dN rfl) (ak.brk ?_);exact kb a1 O _ jV Ee (nQ rfl rfl rfl rfl rfl rfl rfl)
noncomputable def wq:PV:=.list [.bool true,.str "prepare() must be called first"]
noncomputable def EA:PV:=.list [.bool true,.str "node 'f' was not added using add()"]
theorem LJ:(So "f")=nm 5:=by decide +kernel
theorem AM:∀j,j<6->(PV.list [wq,EA,yP j]).ok=true:=by decide +kernel
theorem K5:("node " ++TL (nm 5)++ " was not added using add()":Str)= "node 'f' was not added using add()":=by decide +kernel
theorem rP{n:Nat}:gB need n row=true↔∀j,j<n->∀p∈need j,row.idxOf p<row.idxOf j:=by
 unfold gB;simp only[Sv,RW,decide_eq_true_eq]
theorem k6(aG:row.Nodup){p:Nat}:p∈row.take i↔row.idxOf p<i/\p∈row:=by
 constructor
 ·intro h;obtain⟨m,je,fS⟩:=UR.mp h;have e:=aG.idxOf_getElem m (Ru je (Ur _ _));rw[fS]at e;rw[e];exact⟨Ru je (UH _ _),UN h⟩
 ·rintro⟨h1,h2⟩;have h3:=Ug.mpr h2;exact UR.mpr ⟨row.idxOf p,Nat.lt_min.mpr ⟨h1,h3⟩,VB h3⟩
theorem V.yr{n:Nat}(h:Ev C env Γ e md (.jD 0 n 1))(hn:n<=1000)(hN:C.hd=false):dw C env Γ e md ((RG n).map dX):=by
 have:=V.BY h hn hN;unfold gI at this;rwa[R6,SA]at this
noncomputable abbrev FY(need:Nat->List Nat)(j:Nat):List Nat:=(need j).take ((need j).length - 1)
noncomputable abbrev I8(need:Nat->List Nat)(j:Nat):List Nat:=(need j).drop ((need j).length - 1)
noncomputable abbrev G8(need:Nat->List Nat)(bG row:List Nat)(i:Nat):List (Nat×List Nat):=(bG.map λj=>(j,FY need j))++(row.take i).map λj=>(j,I8 need j)
theorem tr(n:Nat)(h:autoParam (n<=1000) oA3._auto_1):n<=lim:=Rk h (by decide)
theorem Fs(T:TopK C)(hN:C.hd=false)(hl:6<=C.cc)(fX:FnAt C.K 148 (dZ 8) .none)(gt:C.glob "_law_told" =some (.ref 148))(yB:FnAt C.K 153 (dZ 9) .none)
  (Hu:FnAt C.K 73 (cC 0) (.ref 66)) (n6:C.K.lookup 66=some {cls:=.type "tuple",data:=.seq #[.none]})
  {n:Nat} {bG:List Nat} (hn:n<=5) (kW:0<n) (cO:∀j p,p∈need j->p<j) (aF:∀j,(need j).length<=10) (sj:bG.Perm (RG n)) (gs:row.Perm (RG n)):
  Fn C 153 [.dict (l5 bG need),.dh row] (.str (if gB need n row then "let" else "refused")):=by
 refine Fn.FG (C:=C) yB ["graph","row"] rfl (by decide) (λx hx=>?_) (λfd vs h1 h2 h3 h4=>?_) λenv K hi=>?_
 ·simp only[Rr,RN,or_false]at hx;rcases hx with rfl|rfl
  ·exact .inr rfl
  ·exact .inl rfl
 ·refine jH (wz h4) λu w zr=>?_;subst zr;unfold bindArgs;rw[h1,h2];rfl
 have kc:∀ {scope:Scope} {D:RD} {cells:List (Str×RD)} {x:Str},aA (scope.names.lookup x)=true->aA ((CE scope env D cells).kindOf x)=true:=λ{scope D cells x} hx=>(d7.ce (scope:=scope) (env:=env) (L:=D) (cells:=cells)).var x hx;have l9:row.length=n:=by rw[gs.length_eq,R']
 have Ep:bG.length=n:=by rw[sj.length_eq,R']
 have aG:row.Nodup:=gs.nodup_iff.mpr Tw;have hlt:∀ {x},x∈row->x<n:=λh=>RW.mp (gs.mem_iff.mp h);have Fy:∀x∈bG,x<n:=λx h=>RW.mp (sj.mem_iff.mp h);have h6:∀ {x},x<n->x<6:=λh=>Ru h (Tc hn);have pY:(row.map a9).length<=lim:=by
  rw[Rl,l9];exact Rk hn (by decide)
 have jS:∀j,((need j).map a9).length<=lim:=λj=>by
  rw[Rl];exact Rk (aF j) (by decide)
 have hG:∀j,j<n->dP (l5 bG need) (bK j)=some (.dh (need j)):=λj h=>qj (sj.mem_iff.mpr (RW.mpr h));have GF:∀j,j<n->∀p∈FY need j,p<n:=λj h p hp=>R0 (cO j p (UN hp)) h;refine ak.xX (C:=C) (G:=Bi bG λj=>FY need j) T hN hl Hu n6 (K.jZ _ rfl) (K.loc "sorter" (.inr rfl)) (Ez hn GF (λj=>Rk (Tu _ _) (aF j)) Fy (Ep▸hn)) ?_ ?_
 ·rw[EP];refine dr.ev (k:=2) (dr.HT (C:=C) (dp:=1) (m:=false) (md:=true) (L:=bG) (g:=a9) (kf:=bK) (vf:=λj=>.dh (FY need j)) (bB.CW K (by decide)) ?_ (.inl rfl) rfl (λD cells j hj=>V.name rfl (kc rfl)) (λD cells j hj=>?_) (eG.mpr (sj.nodup_iff.mpr Tw)) (by rw[Ep];exact Rk hn (by decide)))
  ·rw[<-Ad bG need];exact dw.Dg (Ev.name rfl (K.var "graph" rfl)) (by unfold l5;rw[Rl,Ep];exact Rk hn (by decide))
  ·show mr _ _ _ _ 1 (.list ((FY need j).map a9));rw[U0];have e:(need j).length=((need j).map a9).length:=(Rl ..).symm;rw[e];exact mr.lO (md:=false) (bI.oQ (m2:=false) (Ev.item_dict (k:=bK j) (m2:=false) (V.name rfl (kc rfl)) (V.name rfl (kc rfl)) (hG j (Fy j hj))) (V.neg V.int) (jS j)) λx hx=>mN _ x (UN hx)
 refine oE (nT GF bG Fy ec.zero) λRg pO=>?_;rw[UB]at pO;generalize g7 (Bi bG λj=>FY need j) AS.zero=a0 at pO;have JR:∀i,(G8 need bG row i).length<=10:=λi=>by
  rw[RQ,Rl,Rl,Ep];exact Tb hn (Rk (Tu _ _) (l9▸hn))
 have Ko:∀i,∀g∈G8 need bG row i,g.2.length<=10:=λi g hg=>by
  rcases Rw.mp hg with hg|hg
  ·refine aD (RE.mp hg) λj _ zr=>?_;subst zr;exact Rk (Tu _ _) (aF j)
  ·refine aD (RE.mp hg) λj _ zr=>?_;subst zr;show((need j).drop _).length<=10;rw[Vn];exact Rk (SK _ _) (aF j)
 refine ak.nU (C:=C) (L:=row) (g:=a9) (dw.list (Ev.name (n:=0) (md:=true) rfl (K.var "row" rfl)) pY)
  (λi aE=>∃a pr,ec n (G8 need bG row i) a pr/\dY [("graph",some (0,.dict (l5 bG need))),("row",some (0,.dh row)),("sorter",some (1,.ay a))] aE)
  (λj aE=>("job",some (0,a9 j))::aE) ⟨_,_,by unfold G8;rw[List.take_zero,WM,SP];exact pO,.cons rfl (.cons rfl (.cons rfl .nil))⟩ (λj aE ω=>dI.name (K.loc "job" (.inl rfl))) (λi j aE hj hinv=>?_) λaf hinv=>?_
 ·refine aM hinv λa pr hA hs=>?_;clear hinv;have oa:=hlt (R4 hj);refine oE (hA.one (i:=j) oa (ps:=I8 need j) λp hp=>R0 (cO j p (Uc hp)) oa) λGK bF=>?_;refine ak.weak (af:=("job",some (0,a9 j))::[("graph",some (0,.dict (l5 bG need))),("row",some (0,.dh row)),("sorter",some (1,.ay a))]) ?_ (aT _ _ hs);have rH:(I8 need j).length<=10:=by
   rw[Vn];exact Rk (SK _ _) (aF j)
  have hM:=Bx (C:=C.l 3) (T.l 3) hN (by show 3<=3;decide) (bK j) ((I8 need j).map bK) hA.pre.aI (gS (hA.small hn (JR i) (Ko i)).1 (by rw[Rl];exact Rk (Tf (Vw 2 rH) 4) (by decide)));rw[mV,Vr]at hM;have e:(need j).length=((need j).map a9).length:=(Rl ..).symm;refine ak.pC (fL.vK (C:=C) (m:=3) (n:=0) (a:=a) T.sk (b8.of T.I7) (Rk (by decide) hl) rfl (e6.of (xs:=a9 j::((need j).map a9).drop ((need j).length - 1)) ?_) hM) (λBp pv hX=>?_) hi
  ·refine ba.cons (Ev.name (n:=0) rfl (K.var "job" rfl)) ?_;rw[e,<-SP (List.drop _ _)];exact ba.sG (bI.ev (bI.vR (m2:=true) (Ev.item_dict (k:=bK j) (m2:=true) (Ev.name (n:=0) rfl (K.var "graph" rfl)) (Ev.name (n:=0) rfl (K.var "job" rfl)) (hG j oa)) (Ev.neg (m1:=true) Ev.int) (jS j))) ba.nil (by rw[Vn];exact Rk (SK _ _) (jS j))
  refine oA hX λzr zw=>?_;clear hX;subst zr;subst zw;refine ak.nil ⟨_,GK,?_,.cons rfl (.cons rfl (.cons rfl .nil))⟩;unfold G8 at bF⊢;rw[Sq]at bF;rw[Ue,hj,R9];exact bF
 refine aM hinv λa pr hA hs=>?_;clear hinv;unfold G8 at hA JR Ko;rw[Vm]at hA;refine oA (hA.full sj gs) λyS Gd=>?_;have jV:=JR row.length;have NP:=Ko row.length;rw[Vm]at jV NP;refine CA (hA.start hn jV NP yS Gd cO) λp1 p2 p3 p4 hH rk hR=>?_;refine ak.weak ?_ hs;obtain⟨r0,rr,rfl⟩:∃r0 rr,row=r0::rr:=by
  cases row with
  |nil=>exact absurd l9 (Sm kW)
  |cons r0 rr=>exact⟨r0,rr,rfl⟩
 have Jn:=hlt (x:=r0) (.head _);have BW:∀ {Γ:fT} {a:AS} {j:Nat} {msg:Str} {e:Expr} {p1 p2 p3:Pos},Γ.lookup ("sorter":Str)=some (some (1,.ay a))->j<6->a.cn (bK j)=some msg->Ev C env Γ e false (.dh [j])->(∀env,RV [.Name "sorter" p2,e] env=[(false,eval (.Name "sorter" p2) env),(false,eval e env)])->
   Ev C env Γ (.Call (.Name "_law_told" p1) [.Name "sorter" p2,e] [] p3) true (.list [.bool true,.str msg]):=λ{Γ a j msg e p1 p2 p3} hs hj hw he av=>
  bI.ev (bI.MX (m:=5) (m1:=false) hl (K.jZ _ rfl) gt fX (ba.cons (V.name hs (K.var "sorter" rfl)) (ba.cons he ba.nil (λenv=>(We (av env)).2)) (λenv=>by rw[av env];exact congrArg _ (We (av env)).2.symm)) (mR (C:=C.l 5) (T.l 5) hN (by show 1<=5;decide) fX hj hw) (λenv=>by rw[av env];exact⟨_,_,rfl⟩))
 have Ec:∀ {Γ:fT} {p1 p2 p3 p4:Pos} {k:Nat},Γ.lookup ("row":Str)=some (some (0,.dh (r0::rr)))->Ev C env Γ (.Subscript (.Name "row" p1) (.Slice none (some (.Constant (.int 1) k p2)) none p3) p4) false (.dh [r0]):=λ{Γ p1 p2 p3 p4 k} h=>
  Ev.dN (bI.ev (bI.j7 (md:=false) (m2:=false) (k:=1) (V.name h (K.var "row" rfl)) V.int (by decide) pY)) rfl
 refine ak.assign (n:=0) (pv:=.list [wq]) (dr.b9 (bI.ev (bI.list (ba.cons (BW rfl (h6 Jn) (hA.pre.why _) (Ec rfl) (λω=>rfl)) ba.nil) (tr 1)))) (K.loc "early" (.inl rfl)) ?_;refine ak.pC (fL.AD (C:=C) (m:=3) (n:=0) (a:=a) (xs:=[]) T.sk (b8.of T.J9) (Rk (by decide) hl) rfl ba.nil (tq (C:=C.l 3) (T.l 3) hN (by show 1<=3;decide) p1 p2 p3 p4)) (λBp pv hX=>?_) hi;refine oA hX λzr zw=>?_;clear hX;subst zr;subst zw;have hf:a.iL.has (bK 5)=false:=by
  cases e:a.iL.has (bK 5)with
  |false=>rfl
  |true=>
   refine aD ((hH _).mp e) λj hj e2=>?_;exact absurd hj (fY e2▸SV.mpr hn)
 have hwf:=hR.se hf;have e5:(bK 5).repr=TL (nm 5):=rfl;rw[e5,K5]at hwf;refine aD (bZ.of (dn:=[]) (ot:=[]) hR Gd hH) λrd zr K7=>?_;subst zr;have K4:=K7.iq hn Jn RN RN;generalize a.iL=a1 at hwf K7 K4⊢;refine ak.assign (n:=0) (pv:=.list ([wq]++[EA,yP r0])) (dr.b9 (bI.ev (bI.add (Ev.name (n:=0) rfl (K.var "early" rfl)) (bI.ev (bI.list (ba.cons (BW rfl (by decide) hwf (Ev.dN (V.vZ (V.list (V.br V.str V.eO) (tr 1))) (by rw[LJ];rfl)) (λω=>rfl)) (ba.cons (BW rfl (h6 Jn) K4 (Ec rfl) (λω=>rfl)) ba.nil)) (tr 2))) (tr 3)))) (K.loc "early" (.inl rfl)) ?_;have ew:((r0::rr).map id).map yP=(r0::rr).map yP:=by rw[Wn]
 refine ak.cE (C:=C) (dp:=1) (V.map (L:=r0::rr) (g:=a9) (g':=yP) (h:=id) (md:=false) K (dw.list (V.name rfl (K.var "row" rfl)) pY) (by decide) (.inl rfl) rfl (λD cells j hj=>?_) (by rw[l9];exact Rk hn (by decide))) (K.loc "words" (.inl rfl)) ?_
 ·have hz:("node '":Str).length+(nm j).length<=2^24:=Rk (show("node '":Str).length+(nm j).length<=7 from Rx 7) (by decide);show mr _ _ _ _ 1 (.list [.bool true,.str ("node '" ++nm j++ "' was not passed out (still not ready)")]);exact mr.lO (V.list (V.br V.bool (V.br (V.yj (V.yj V.str (V.name rfl (kc rfl)) hz) V.str (by rw[show(("node '":Str)++nm j).length=7 from rfl];decide)) V.eO)) (tr 2)) λx hx=>by
   rcases Rr.mp hx with rfl|hx
   ·rfl
   ·rw[Rq.mp hx];rfl
 rw[ew];refine ak.freeze (x:="words") rfl ?_;refine ak.ite (b:=false) (V.gW (x:=.list ([wq]++[EA,yP r0])) (V.name rfl (K.var "early" rfl)) (V.vZ (V.list (V.br (V.vZ (V.list (V.br V.bool (V.br V.str V.eO)) (tr 2))) (V.br (V.vZ (V.list (V.br V.bool (V.br V.str V.eO)) (tr 2))) (V.br (Ev.item (m2:=false) (x:=yP r0) (V.name rfl (K.var "words" rfl)) V.int (by decide) (by decide) rfl) V.eO))) (tr 3))) rfl (AM r0 (h6 Jn))) (ak.nil ?_);refine ak.assign (n:=1) (pv:=.list []) dr.nil (K.loc "out" (.inl rfl)) ?_;refine ak.assign (n:=0) (pv:=.list []) (dr.b9 (bI.ev (bI.list ba.nil (by decide)))) (K.loc "done" (.inr rfl)) ?_;refine ak.assign (n:=0) (pv:=.dh (r0::rr)) (dr.b9 (Ev.name rfl (K.var "row" rfl))) (K.loc "left" (.inr rfl)) ?_;refine ak.weak (af:=k8 (l5 bG need) (r0::rr) a1 [] (r0::rr)) ?_ (nQ rfl rfl rfl rfl rfl rfl rfl);clear pY BW Ec K4 ew hwf;generalize QX:r0::rr=row at*;have len:∀ {Γ:fT} {p p' p2:Pos},Γ.lookup ("row":Str)=some (some (0,.dh row))->Ev C env Γ (.Call (.Name "len" p) [.Name "row" p2] [] p') false (.int n):=λ{Γ p p' p2} rX=>
  Ev.dN (V.len (C:=C) T K rfl (V.name rX (K.var "row" rfl)) (by rw[Rl,l9];exact Rk hn (by decide))) (by rw[Rl,l9])
 have ctx:∀i,qv n need (l5 bG need) (row.take i) (row.drop i):=λi=>⟨hn,cO,aF,hG,by rw[To];exact aG,λj=>by rw[To];exact(RW.symm.trans gs.mem_iff.symm)⟩;have fin:∀ {i:Nat} {a:AS} {out rd:List Nat} {Γ:ag},bZ n need a (row.take i) out rd->dY (k8 (l5 bG need) row a out (row.drop i)) Γ->gB need n row=(row.drop i).isEmpty->
   ak C env Γ [cq (bh (dZ 9)) 11,cq (bh (dZ 9)) 12,cq (bh (dZ 9)) 13] (λfl ω=>fl= .ret (.str (if gB need n row then "let" else "refused"))):=λ{i a out rd Γ} hR hs hb=>by
  refine ak.weak ?_ hs;refine ak.freeze (x:="out") rfl ?_;refine ak.weak (af:=g8 (l5 bG need) a out [] (row.drop i)) ?_ (vn rfl rfl rfl rfl rfl);rw[hb];exact Gu (C:=C) T hN (Rk (by decide) hl) K hi fX gt (ctx i) hR
 refine ak.nU (C:=C) (L:=RG n) (g:=dX) (V.yr (V.fK T K rfl (len rfl)) (Rk hn (by decide)) hN)
  (λi aE=>∃a out rd,bZ n need a (row.take i) out rd/\(∀k j,row[k]?=some j->k<i->∀p∈need j,p∈row.take k)/\dY (k8 (l5 bG need) row a out (row.drop i)) aE)
  (λk aE=>("k",some (0,dX k))::aE) ⟨a1,[],rd,K7,(λk j ω h=>absurd h (Ui _)),nQ rfl rfl rfl rfl rfl rfl rfl⟩ (λj aE ω=>dI.name (K.loc "k" (.inl rfl))) (λi k aE hk hinv=>?_) λC7 hinv=>?_
 ·refine fh hinv λa out rd hR hp hs=>?_;clear hinv;refine oE (RY.mp hk) λCy MH=>?_;rw[R']at Cy;rw[VA]at MH;subst MH;have hj:=RT (l:=row) (l9.symm▸Cy);generalize row[i]'(l9.symm▸Cy)=j at hj;refine ak.weak (af:=("k",some (0,dX i))::k8 (l5 bG need) row a out (row.drop i)) ?_ (aT _ _ hs);have Fu:=R4 hj;have EG:row.idxOf j=i:=by
   refine oE (RY.mp hj) λh1 h2=>?_;rw[<-h2];exact aG.idxOf_getElem i h1
  refine Ic (C:=C) T hN (Rk (by decide) hl) K hi fX gt hn cO gs hj hR (λa1 BQ Bl Oc Dh yN=>?_) λa2 CO zP Bl mE Gn mh=>⟨a2,CO,zP,mE,λk' j' EI jT=>?_,mh⟩
  ·refine fin Oc yN ?_;have aX:(row.drop i).isEmpty=false:=by
    rw[List.isEmpty_eq_false_iff];exact λe=>absurd (XM.mp e) (Vf.mpr (l9.symm▸Cy))
   rw[aX];cases e:gB need n row with
   |false=>rfl
   |true=>
    refine absurd (((Oc.nV (hlt Fu)).mpr ⟨λhm=>?_,Dh,λp I2=>?_⟩)) RN
    ·exact S8 _ (EG▸((k6 aG).mp hm).1)
    ·exact(k6 aG).mpr ⟨EG▸rP.mp e j (hlt Fu) p I2,gs.mem_iff.mpr (RW.mpr (R0 (cO j p I2) (hlt Fu)))⟩
  ·rcases T9 (Sy jT)with h|h
   ·exact hp k' j' EI h
   ·subst h;rw[hj]at EI;cases EI;exact Gn
 ·refine fh hinv λa out rd hR hp hs=>?_;clear hinv;rw[R']at hR hp hs;refine fin hR hs ?_;have hd:row.drop n=[]:=XM.mpr (UI l9);rw[hd];refine rP.mpr λj hj p I2=>?_;have Fu:=gs.mem_iff.mpr (RW.mpr hj);have EG:=Ug.mpr Fu;have gK:row[row.idxOf j]?=some j:=by rw[RT EG,VB]
  exact((k6 aG).mp (hp _ j gK (l9▸EG) p I2)).1
theorem Ex[Inhabited α]{L:List α}{n:Nat}(hl:L.length=n){i j:Int}(hi:0<=i)(cO:i<n)(hj:0<=j)(oa:j<n)(v:α):ix (L.set i.toNat v) j=if j=i then v else ix L j:=by
 unfold ix;refine oE (U8 hi) λa zr=>?_;subst zr;refine oE (U8 hj) λb zr=>?_;subst zr;simp only[SA,W1,List.getElem?_set];by_cases h:a=b
 ·subst h;have:a<L.length:=by omega
  simp[this]
 ·have h2: ¬(b:Int)=(a:Int):=by omega
  rw[if_neg h,if_neg h2]
theorem tc[Inhabited α]{n:Nat}(f:Int->α){j:Int}(h0:0<=j)(h1:j<n):ix ((gI n).map f) j=f j:=by
 unfold ix gI;refine oE (U8 h0) λm zr=>?_;subst zr;have hm:m<n:=by omega
 simp[W1,hm]
theorem wi[Inhabited α]{g:α->β}{L:List α}{n:Nat}(hl:L.length=n){k:Int}(h0:0<=k)(h1:k<n):(L.map g)[k.toNat]?=some (g (ix L k)):=by
 have hlt:k.toNat<L.length:=by omega
 rw[RZ,RT hlt];unfold ix;simp[W1,hlt]
theorem wt{L:List α}{x:α}:∀ {k:Nat},x∈(SQ k L).flatten->x∈L
 |0,h=>by simp at h
 |k+1,h=>by
  rw[Um,VS]at h;rcases Rw.mp h with h|h
  ·exact h
  ·exact wt h
theorem zH[Inhabited α]{L:List α}{P:α->Prop}(h:∀x∈L,P x)(hd:P default)(j:Int):P (ix L j):=by
 unfold ix W1;cases hq:L[j.toNat]? with
 |none=>exact hd
 |some x=>exact h x (R4 hq)
noncomputable def ux(s:List Int):Nat->List Int
 |0=>[0,0,1,2,0,1,0,0,0,1,2]
 |i+1=>(ux s i).set ((i:Int).fmod 11).toNat (ix (ux s i) ((i:Int).fmod 11)+ix s i)
theorem rf(s:List Int):∀i,(ux s i).length=11
 |0=>rfl
 |i+1=>by rw[ux,YA];exact rf s i
structure fZ(n:Nat)(M:List (List Int)):Prop where
 len:M.length=n
 inr:∀j:Int,0<=j->j<n->∀p∈ix M j,0<=p/\p<j
 sz:∀j:Int,(ix M j).length<=10
noncomputable abbrev c8(N:List Int)(n:Nat):ag:=[("count",some (0,.int n)),("numbers",some (0,.ints N))]
theorem ba.sE{j:Int}{k:Nat}(h:ba C env Γ es md xs):ba C env Γ (.Constant (.int j) k p::es) md (.int j::xs):=ba.cons Ev.int h
theorem CQ:∃px es pl pos,cq (bh (dZ 10)) 0= .Assign [.Name "numbers" px] (.List es pl) pos/\∀ {C:Cx} {env:Env} {Γ:fT},ba C env Γ es true ((ux [] 0).map .int):=by
 refine⟨_,_,_,_,rfl,?_⟩;intro C env Γ
 repeat refine ba.sE ?_
 exact ba.nil
theorem AP(T:TopK C)(hN:C.hd=false)(K:d7 env (ae (dZ 10))){bq:List Int}(hs:bq.length<=63){rest:List Stmt}{Q:cM->ag->Prop}
  (k:∀ (N:List Int) (n:Nat),N.length=11->3<=n->n<=5->ak C env (c8 N n) rest Q):
  ak C env [("script",some (0,.ints bq))] (cq (bh (dZ 10)) 0::cq (bh (dZ 10)) 1::cq (bh (dZ 10)) 2::rest) Q:=by
 have dG:(10000:Nat)<=lim:=by decide
 obtain⟨px,es,pl,pos,e,he⟩:=CQ;rw[e];refine ak.assign (n:=1) (pv:=.ints (ux bq 0)) (bI.k1 (bI.list he (by show 11<=lim;omega))) (K.loc "numbers" (.inl rfl)) ?_
 let inv:Nat->ag:=λi=>("numbers",some (1,.ints (ux bq i)))::[("script",some (0,.ints bq))]
 refine ak.enum (C:=C) (xs:=bq.map .int) hN (V.tyName (x:="enumerate") (v:=.type "enumerate") T K (by decide) rfl (by decide +kernel)) (Ev.name (n:=0) rfl (K.var "script" rfl)) (by simp;omega) inv
  (λi=>("x",some (0,.int (ix bq i)))::("place",some (0,.int i))::inv i) (.refl _) (λi x hx=>?_) (λi x hx=>?_) ?_
 ·obtain⟨y,hy,rfl⟩:∃y,bq[i]?=some y/\PV.int y=x:=by
   rw[RZ]at hx;cases hq:bq[i]? with
   |none=>rw[hq]at hx;cases hx
   |some y=>rw[hq]at hx;exact⟨y,rfl,R7 hx⟩
  have e:ix bq (i:Int)=y:=by unfold ix;simp[W1,hy]
  show fm C env (inv i) _ [.int i,.int y] _;rw[<-e];exact fm.cons (dI.name (K.loc "place" (.inl rfl))) (fm.cons (dI.name (K.loc "x" (.inl rfl))) fm.nil)
 ·have MY:0<=(i:Int).fmod 11:=V6 _ (by decide);have Ga:(i:Int).fmod 11<(11:Nat):=WC _ (by decide);have hl:=rf bq i;refine ak.qL (C:=C) (x:="numbers") (d9:=1) (ys:=(ux bq i).map .int) (upd:=id) (j:=(i:Int).fmod 11) (z:=ix (ux bq i) ((i:Int).fmod 11)) (y:=ix bq i) (sW.list rfl) (V.t (V.mod (V.name (n:=0) rfl (K.var "place" rfl)) V.int (by decide))) (Ev.name (n:=0) rfl (K.var "x" rfl)) MY (wi hl MY Ga) (by simp;omega) (ak.nil ⟨rfl,?_⟩);show dY (("numbers",some (1,.ints (ux bq (i+1))))::_) _;have e:PV.ints (ux bq (i+1))= .list (((ux bq i).map .int).set ((i:Int).fmod 11).toNat (.int (ix (ux bq i) ((i:Int).fmod 11)+ix bq i))):=by rw[ux];exact congrArg PV.list Y4
  rw[e];exact .cons rfl (.cons rfl .nil)
 ·have hl:=rf bq (bq.map PV.int).length;show ak C env [("numbers",some (1,.ints (ux bq (bq.map PV.int).length))),("script",some (0,.ints bq))] (cq (bh (dZ 10)) 2::rest) Q;generalize ux bq (bq.map PV.int).length=N at hl⊢;refine ak.freeze (x:="numbers") rfl ?_;have h3:=V6 (ix N 0) (show(0:Int)<3 by decide);have h4:=WC (ix N 0) (show(0:Int)<3 by decide);refine ak.assign (n:=0) (pv:=.int (3+(ix N 0).fmod 3)) (V.k0 (V.add V.int (V.mod (V.tw (L:=N) (g:=.int) (V.name (n:=0) rfl (K.var "numbers" rfl)) V.int (by decide) (show(0:Int)<(11:Nat) by decide) hl (by decide)) V.int (by decide)))) (K.loc "count" (.inr rfl)) ?_;refine(k N (3+(ix N 0).fmod 3).toNat hl (by omega) (by omega)).weak ?_;have e:(((3+(ix N 0).fmod 3).toNat:Nat):Int)=3+(ix N 0).fmod 3:=by omega
  show dY [("count",some (0,.int (((3+(ix N 0).fmod 3).toNat:Nat):Int))),_] _;rw[e];exact .cons rfl (.cons rfl .nil)
theorem ak.abs{Γ:ag}{ss:List Stmt}(h:∀P':cM->ag->Prop,(∀fl af,P fl af->P' fl af)->ak C env Γ ss P'):ak C env Γ ss P:=h P λω ω x=>x
noncomputable def tX:List Int:=[0,1,2,0]
noncomputable def nO:Nat->Nat
 |0=>0
 |i+1=>nO i+i
theorem CF:∀i:Fin 5,∀a:Fin 5,a.val<i.val->1+nO i.val+a.val<11:=by decide
noncomputable abbrev e8(N:List Int)(n:Nat):ag:=("names",some (0,.dh (RG n)))::c8 N n
noncomputable abbrev k5(N:List Int)(n:Nat)(k:Nat)(M:List (List Int)):ag:=("k",some (0,.int k))::("needs",some (2,.B6 M))::e8 N n
structure lZ(n i a:Nat)(M:List (List Int)):Prop where
 len:M.length=n
 inr:∀j:Int,0<=j->j<n->∀p∈ix M j,0<=p/\p<j
 sz:∀j:Int,0<=j->j<i->(ix M j).length<=10
 cur:(ix M i).length<=2*a
 emp:∀j:Int,i<j->j<n->ix M j=[]
noncomputable def Pe(N:List Int)(n i:Nat)(Γ:ag):Prop:=∃M,lZ n i 0 M/\dY (k5 N n (1+nO i) M) Γ
noncomputable def OY(N:List Int)(n i a:Nat)(Γ:ag):Prop:=∃M,lZ n i a M/\dY (("job",some (0,.int i))::k5 N n (1+nO i+a) M) Γ
set_option tactic.hygienic true in
theorem lZ.step{n a:Nat}{M:List (List Int)}(h:lZ n i a M)(hi:i<n)(ha:a<i){m:Nat}(hm:m<=2):lZ n i (a+1) (M.set (i:Int).toNat (ix M i++(SQ m [(a:Int)]).flatten)):=by
 have hl:(SQ m [(a:Int)]).flatten.length=m:=by simp
 have S:=λ{j:Int} (h0:0<=j) (h1:j<n)=>Ex h.len (i:=(i:Int)) (by omega) (by omega) h0 h1 (ix M i++(SQ m [(a:Int)]).flatten);refine⟨by rw[YA];exact h.len,λj h0 h1 p hp=>?_,λj h0 h1=>?_,?_,λj h0 h1=>?_⟩
 ·rw[S h0 h1]at hp;split at hp
  ·rename_i e;rcases Rw.mp hp with hp|hp
   ·rw[e];exact h.inr i (by omega) (by omega) p hp
   ·have:=Rq.mp (wt hp);omega
  ·exact h.inr j h0 h1 p hp
 ·rw[S h0 (by omega),if_neg (by omega)];exact h.sz j h0 h1
 ·rw[S (by omega) (by omega),if_pos rfl,RQ,hl];have:=h.cur;omega
 ·rw[S (by omega) h1,if_neg (by omega)];exact h.emp j h0 h1
theorem lZ.next{n:Nat}{M:List (List Int)}(h:lZ n i i M)(hi:i<n)(hn:n<=5):lZ n (i+1) 0 M:=by
 refine⟨h.len,h.inr,λj h0 h1=>?_,?_,λj h0 h1=>h.emp j (by omega) h1⟩
 ·by_cases e:j=i
  ·have:=h.cur;rw[e];omega
  ·exact h.sz j h0 (by omega)
 ·by_cases e:i+1<n
  ·rw[h.emp _ (by omega) (by omega)];exact RU _
  ·have:ix M ((i+1:Nat):Int)=[]:=by
    unfold ix;have hl:=h.len;rw[Sb,UE (by omega)];rfl
   rw[this];exact RU _
theorem EE(T:TopK C)(hN:C.hd=false)(hi:interactive env=false)(K:d7 env (ae (dZ 10))){N:List Int}{n:Nat}(J7:N.length=11)(zE:3<=n)(hn:n<=5){rest:List Stmt}{Q:cM->ag->Prop}
  (k:∀M,fZ n M->ak C env [("needs",some (0,.B6 M)),("names",some (0,.dh (RG n))),("count",some (0,.int n))] rest Q):
  ak C env (e8 N n) (cq (bh (dZ 10)) 4::cq (bh (dZ 10)) 5::cq (bh (dZ 10)) 6::rest) Q:=by
 have dG:(10000:Nat)<=lim:=by decide
 have AZ:n<=1000:=by omega
 refine ak.cE (C:=C) (dp:=1) (out:=((gI (n:Int)).map λω=>[]).map .ints) (V.map (L:=gI (n:Int)) (g:=.int) (g':=.ints) (h:=λω=>[]) (md:=false) K (V.BY (V.fK T K rfl (V.name rfl (K.var "count" rfl))) AZ hN) (by decide) (.inl rfl) rfl (λD cells a ha=>mr.lO (md:=true) (bI.list ba.nil (by decide)) (by simp)) (Ah AZ)) (K.loc "needs" (.inr rfl)) ?_;refine ak.assign (n:=0) (pv:=.int 1) (V.k0 V.int) (K.loc "k" (.inl rfl)) ?_;refine ak.nU (C:=C) (L:=gI (n:Int)) (g:=.int) (V.BY (V.fK T K rfl (V.name rfl (K.var "count" rfl))) AZ hN)
  (Pe N n) (λj aE=>("job",some (0,.int j))::aE) ⟨(gI (n:Int)).map λω=>[],?_,.refl _⟩ (λj aE ω=>dI.name (K.loc "job" (.inr rfl))) (λi j aE hj hinv=>?_) λaf hinv=>?_
 ·have e:∀j:Int,0<=j->j<n->ix ((gI (n:Int)).map λω=>([]:List Int)) j=[]:=λj h0 h1=>tc _ h0 h1;refine⟨by rw[Rl];exact jb,λj h0 h1 p hp=>?_,λj h0 h1=>by omega,?_,λj h0 h1=>e j (by omega) h1⟩
  ·rw[e j h0 h1]at hp;cases hp
  ·rw[e ((0:Nat):Int) (by omega) (by omega)];exact RU _
 ·refine aD hinv λM hM kX=>?_;clear hinv;refine dd (pT hj) λj0 jn ej=>?_;subst ej;refine ak.abs λP1 OX=>?_;refine ak.nU (C:=C) (L:=gI (i:Int)) (g:=.int) (V.BY (V.fK T K rfl (V.name rfl (K.var "job" rfl))) (by omega) hN)
   (OY N n i) (λa aE=>("ahead",some (0,.int a))::aE) ⟨M,hM,aT _ _ kX⟩ (λa aE ω=>dI.name (K.loc "ahead" (.inl rfl))) (λia a aE ha hinv=>?_) λaf hinv=>?_
  ·refine aD hinv λM hM kX=>?_;clear hinv;refine dd (pT ha) λa0 an ea=>?_;subst ea;refine ak.abs λP2 JC=>?_;refine ak.weak (af:=("ahead",some (0,.int ia))::("job",some (0,.int i))::k5 N n (1+nO i+ia) M) ?_ (aT _ _ kX);have hk:=CF ⟨i,by omega⟩ ⟨ia,by omega⟩ (by show ia<i;omega);generalize jw:1+nO i+ia=kk at hk⊢;have Pa:(kk:Int)<(11:Nat):=by omega
   have m0:=V6 (ix N kk) (show(0:Int)<4 by decide);have m1:=WC (ix N kk) (show(0:Int)<4 by decide);have QU:0<=ix tX ((ix N kk).fmod 4)/\ix tX ((ix N kk).fmod 4)<=2:=⟨zH (P:=λx:Int=>0<=x) (by decide) (by decide) _,zH (P:=λx:Int=>x<=2) (by decide) (by decide) _⟩;have sC:=hM.step (by omega) (by omega) (m:=(ix tX ((ix N kk).fmod 4)).toNat) (by omega);have hl:=hM.len;have fS:(ix tX ((ix N kk).fmod 4)).toNat<=2:=by omega
   refine ak.extend (C:=C) (x:="needs") (d9:=2) (ys:=(ix M i).map .int) (zs:=(SQ (ix tX ((ix N kk).fmod 4)).toNat [PV.int ia]).flatten) (upd:=λq'=>.list ((M.map PV.ints).set (i:Int).toNat q')) (sW.item (C:=C) (xs:=M.map .ints) (k:=(i:Int)) (q:=.ints (ix M i)) rfl (Ev.name (n:=0) rfl (K.var "job" rfl)) (by omega) (by omega) (wi hl (by omega) (by omega)) ⟨_,rfl⟩)
    (bI.ev (bI.mul (m2:=false) (md:=true) (xs:=[PV.int ia]) (bI.ev (bI.list (ba.cons (Ev.name (n:=0) rfl (K.var "ahead" rfl)) ba.nil) (by show 1<=lim;omega))) (V.tw (L:=tX) (g:=.int) (n:=4) (V.vZ (bI.list (ba.sE (ba.sE (ba.sE (ba.sE ba.nil)))) (by show 4<=lim;omega))) (V.mod (V.tw (L:=N) (g:=.int) (V.name rfl (K.var "numbers" rfl)) (V.name rfl (K.var "k" rfl)) (by omega) Pa J7 (by decide)) V.int (by decide)) m0 m1 rfl (by decide)) (by omega) (by omega) (by simp;omega))) (Rk (by rw[Rl,List.length_flatten,X2,List.sum_replicate_nat];exact Tb hM.cur (YS fS (Rx 1))) (show 2*ia+2*1<=lim by omega)) hi ?_
   refine ak.assign (n:=0) (pv:=.int ((1+nO i+(ia+1):Nat):Int)) (dr.b9 (Ev.dN (V.t (V.add (V.name rfl (K.var "k" rfl)) V.int)) (by rw[<-jw];rfl))) (K.loc "k" (.inl rfl)) (ak.nil (JC .next _ ⟨_,sC,?_⟩));have e:PV.B6 (M.set (i:Int).toNat (ix M i++(SQ (ix tX ((ix N kk).fmod 4)).toNat [(ia:Int)]).flatten))= .list ((M.map PV.ints).set (i:Int).toNat (.list ((ix M i).map .int++(SQ (ix tX ((ix N kk).fmod 4)).toNat [PV.int ia]).flatten))):=by
    show PV.list _=_;rw[Y4];unfold PV.ints;rw[R9,List.map_flatten,X2];rfl
   show dY (_::("k",some (0,.int ((1+nO i+(ia+1):Nat):Int)))::("needs",some (2,PV.B6 _))::e8 N n) _;rw[e];exact .cons rfl (.cons rfl (.cons rfl (.cons rfl (.cons rfl (.cons rfl .nil)))))
  ·refine aD hinv λM hM kX=>?_;clear hinv;rw[jb]at hM kX;rw[show 1+nO i+i=1+nO (i+1) by rw[nO];omega]at kX;exact ak.nil (OX .next _ ⟨M,hM.next (by omega) hn,.trans (.cons rfl (.cons rfl (.cons rfl (.cons rfl (.cons rfl .nil))))) kX⟩)
 ·refine aD hinv λM hM kX=>?_;clear hinv;rw[jb]at hM;refine ak.weak ?_ kX;refine ak.freeze (x:="needs") rfl ?_;refine(k M ⟨hM.len,hM.inr,λj=>?_⟩).weak (.cons rfl (.cons rfl (.cons rfl .nil)));have e:ix M j=ix M (j.toNat:Int):=by unfold ix;rw[SA]
  rw[e];by_cases h:j.toNat<n
  ·exact hM.sz _ (Su _) (Ta.mpr h)
  ·have:ix M (j.toNat:Int)=[]:=by
    unfold ix;rw[SA,Sb,UE (hM.len▸T6 h)];rfl
   rw[this];exact RU _
noncomputable def aR(M:List (List Int))(j:Nat):List Nat:=(ix M (j:Int)).map Int.toNat
noncomputable abbrev PV.rG(L:List Nat):PV:=.list (L.map dX)
section
variable{n:Nat}{M:List (List Int)}
theorem fZ.out(h:fZ n M)(hj: ¬j<n):ix M (j:Int)=[]:=by
 unfold ix;rw[SA,Sb,UE (h.len▸T6 hj)];rfl
theorem fZ.ints(h:fZ n M)(j:Nat):(ix M (j:Int)).map PV.int=(aR M j).map dX:=by
 unfold aR;rw[R6];refine Tg λp hp=>?_;by_cases hj:j<n
 ·have e:=(h.inr j (Su j) (Ta.mpr hj) p hp).1;show PV.int p=PV.int (p.toNat:Int);rw[Vy e]
 ·rw[h.out hj]at hp;cases hp
theorem fZ.cO(h:fZ n M):∀j p,p∈aR M j->p<j:=λj p hp=>by
 refine aD (RE.mp hp) λq hq zr=>?_;subst zr;by_cases hj:j<n
 ·have e:=h.inr j (Su j) (Ta.mpr hj) q hq;omega
 ·rw[h.out hj]at hq;cases hq
theorem fZ.aF(h:fZ n M)(j:Nat):(aR M j).length<=10:=by
 unfold aR;rw[Rl];exact h.sz j
end
noncomputable def cD(n:Nat):List Nat:=(RG n).map λi=>n - 1 - i
theorem jd:∀n,n<=5->(cD n).Perm (RG n):=by decide
theorem AQ:∀n,n<=5->(["a","b","c","d","e"].map λs=>(So s)).take n=(RG n).map nm:=by decide +kernel
section
variable{Q:cM->ag->Prop}
theorem Ea(K:d7 env (ae (dZ 10))){N:List Int}{n:Nat}(hn:n<=5)(k:ak C env (e8 N n) rest Q):ak C env (c8 N n) (cq (bh (dZ 10)) 3::rest) Q:=by
 have dG:1000<=lim:=by decide
 refine ak.assign (n:=0) (pv:=.dh (RG n)) (dr.b9 ?_) (K.loc "names" (.inr rfl)) k;have e:PV.dh (RG n)= .list (((["a","b","c","d","e"].map λs=>(So s)).map PV.str).take ((n:Int).toNat)):=by
  rw[SA,<-U0,AQ n hn,R6];rfl
 rw[e];exact bI.ev (bI.j7 (m2:=true) (k:=(n:Int)) (bI.ev (bI.list (ba.cons Ev.str (ba.cons Ev.str (ba.cons Ev.str (ba.cons Ev.str (ba.cons Ev.str ba.nil))))) (Rk (show 5<=1000 by decide) dG))) (Ev.name rfl (K.var "count" rfl)) (Su n) (Rk (show 5<=1000 by decide) dG))
end
theorem Es:∀n:Nat,n<=5->i4 ((n:Int) - 1) (-1) (-1)=(cD n).map Int.ofNat/\Builtin.Range.small ((n:Int) - 1) (-1) (-1)=true/\mi ((n:Int) - 1) (-1) (-1)<=2^24:=by decide +kernel
theorem AH:∀n:Nat,n<=5->∀a:Nat,a<=n->i4 (a:Int) (n:Int) 1=(UA a (n - a)).map Int.ofNat/\Builtin.Range.small (a:Int) (n:Int) 1=true/\mi (a:Int) (n:Int) 1<=2^24:=by decide +kernel
theorem jh:∀n:Nat,n<=5->(bP n).length<=120/\∀row∈bP n,row.length=n/\∀x∈row,x<n:=by decide +kernel
theorem rS:∀n:Nat,n<=5->∀t:Nat,t<=n->(fk n t).length<=126/\∀ws∈fk n t,ws.length=t/\∀x∈ws,x<n:=by decide +kernel
noncomputable abbrev PV.rws(L:List (List Nat)):PV:=.list (L.map PV.dh)
noncomputable abbrev PV.oG(L:List (List Nat)):PV:=.list (L.map PV.rG)
theorem wZ(L:List Nat):∀x∈L.map dX,x.fy=true:=λx hx=>by
 refine aD (RE.mp hx) λa _ zr=>?_;subst zr;rfl
noncomputable abbrev l8(n:Nat)(M:List (List Int))(bG:List Nat):ag:=[("graph",some (0,.dict (l5 bG (aR M)))),("needs",some (0,.B6 M)),("names",some (0,.dh (RG n))),("count",some (0,.int n))]
section
variable{Q:cM->ag->Prop}{n:Nat}{M:List (List Int)}
theorem V.nameAt{p':Pos}(hn:n<=5)(hj:j<n)(h1:Ev C env Γ (.Name x p) false (.dh (RG n)))(h2:Ev C env Γ e false (.int j))
  (eY:autoParam (∀o iv,∃ops,subscripted e false o iv=operate ops (getItem o iv)) oA7._auto_1):Ev C env Γ (.Subscript (.Name x p) e p') false (a9 j):=
 Ev.item (k:=(j:Int)) (m2:=false) h1 h2 (Su j) (U7 (Ta.mpr (Ru hj hn)) (by decide)) (by rw[SA,RZ,Wo hj];rfl) eY
theorem Fj(T:TopK C)(hN:C.hd=false)(K:d7 env (ae (dZ 10)))(hn:n<=5)(hM:fZ n M)(k:ak C env (l8 n M (cD n)) rest Q):
  ak C env [("needs",some (0,.B6 M)),("names",some (0,.dh (RG n))),("count",some (0,.int n))] (cq (bh (dZ 10)) 7::cq (bh (dZ 10)) 8::rest) Q:=by
 have dG:1000<=lim:=by decide
 have kc:∀ {scope:Scope} {D:RD} {cells:List (Str×RD)} {x:Str},aA (scope.names.lookup x)=true->aA ((CE scope env D cells).kindOf x)=true:=λ{scope D cells x} hx=>(d7.ce (scope:=scope) (env:=env) (L:=D) (cells:=cells)).var x hx;have Ep:(cD n).length=n:=by unfold cD;rw[Rl,R']
 have oa:(cD n).Nodup:=(jd n hn).nodup_iff.mpr Tw;refine ak.assign (n:=2) (pv:=.dict (l5 ((cD n).take 0) (aR M))) dr.DF (K.loc "graph" (.inr rfl)) ?_;refine dd (Es n hn) λr1 r2 r3=>?_;have hI:∀ {Γ:ag} {p p' p1 p2 p3 p4 p5 p6 p7:Pos} {i1 i2 i3:Nat},Γ.lookup ("count":Str)=some (some (0,.int n))->dw C env (cv Γ) (.Call (.Name "range" p) [.BinOp (.Name "count" p1) .Sub (.Constant (.int 1) i1 p2) p3,.UnaryOp .USub (.Constant (.int 1) i2 p4) p5,.UnaryOp .USub (.Constant (.int 1) i3 p6) p7] [] p') true ((cD n).map dX):=λ{Γ p p' p1 p2 p3 p4 p5 p6 p7 i1 i2 i3} h=>by
  have er:(cD n).map dX=(i4 ((n:Int) - 1) (-1) (-1)).map PV.int:=by
   rw[r1,R6];rfl
  rw[er];exact dw.jD (C:=C) (md:=true) (Ev.call (m1:=true) (V.builtin (v:=.type "range") (K.jZ _ rfl) (T.none (x:="range") (by decide)) (by decide +kernel)) (ba.cons (Ev.sub_int (m1:=true) (m2:=true) (Ev.name (bb h) (K.var "count" rfl)) Ev.int) (ba.cons (Ev.neg (m1:=true) Ev.int) (ba.cons (Ev.neg (m1:=true) Ev.int) ba.nil))) (a7.D4 (by decide) (by decide))) r2 r3 hN
 refine ak.nU (C:=C) (L:=cD n) (g:=dX) (hI rfl)
  (λi aE=>dY [("graph",some (2,.dict (l5 ((cD n).take i) (aR M)))),("needs",some (0,.B6 M)),("names",some (0,.dh (RG n))),("count",some (0,.int n))] aE)
  (λj aE=>("job",some (0,dX j))::aE) (.refl _) (λj aE ω=>dI.name (K.loc "job" (.inr rfl))) (λi j aE hj hs=>?_) λaf hs=>?_
 ·have DP:j<n:=RW.mp ((jd n hn).mem_iff.mp (R4 hj));refine ak.weak (af:=("job",some (0,dX j))::[("graph",some (2,.dict (l5 ((cD n).take i) (aR M)))),("needs",some (0,.B6 M)),("names",some (0,.dh (RG n))),("count",some (0,.int n))]) ?_ (aT _ _ hs);have eV:((aR M j).map id).map a9=(aR M j).map a9:=by rw[Wn]
  refine ak.B1 (C:=C) (m:=1) (k:=bK j) (y:=.dh (aR M j)) rfl ?_ (V.t (V.nameAt hn DP (V.name rfl (K.var "names" rfl)) (V.name rfl (K.var "job" rfl))) rfl) (λkv bS e=>?_) ?_ (ak.nil ?_)
  ·show dr _ _ _ _ 1 (.list ((aR M j).map a9));rw[<-eV];refine jl.k (V.map (L:=aR M j) (g:=dX) (g':=a9) (h:=id) (md:=false) K (dw.list (Ev.dN (V.tw (L:=M) (g:=.ints) (n:=n) (V.name rfl (K.var "needs" rfl)) (V.name rfl (K.var "job" rfl)) (Su j) (Ta.mpr DP) hM.len (Rk hn (by decide))) (congrArg PV.list (hM.ints j))) (by rw[Rl];exact Rk (hM.aF j) (by decide))) (by decide) (.inl rfl) rfl (λD cells p hp=>V.e0 (V.nameAt hn (R0 (hM.cO j p hp) DP) (V.name rfl (kc rfl)) (V.name rfl (kc rfl))) rfl) (Rk (hM.aF j) (by decide)))
  ·refine aD (RE.mp bS) λx hx zr=>?_;subst zr;obtain⟨m,je,fS⟩:=UR.mp hx;have Jh:x=j:=fY e;refine oE (RY.mp hj) λh1 h2=>?_;have e1:=oa.idxOf_getElem m (Ru je (Ur _ _));rw[fS,Jh,<-h2,oa.idxOf_getElem i h1]at e1;exact absurd (Ru je (UH _ _)) (e1▸S8 _)
  ·unfold l5;rw[Rl];exact Rk (Rk (Tu _ _) (Ep▸hn)) (by decide)
  ·have e:l5 ((cD n).take (i+1)) (aR M)=l5 ((cD n).take i) (aR M)++[(bK j,.dh (aR M j))]:=by
    rw[Ue,hj];unfold l5;rw[R9];rfl
   show dY [_,_,_,_] _;rw[e];exact .cons rfl (.cons rfl (.cons rfl (.cons rfl .nil)))
 ·rw[Vm]at hs;refine ak.weak ?_ hs;exact ak.freeze (x:="graph") rfl (k.weak (.cons rfl (.cons rfl (.cons rfl (.cons rfl .nil)))))
end
theorem wL(i:Nat):(bP (i+1)).map PV.dh=(bP i).flatMap λrow=>(RG (row.length+1)).flatMap λk=>[PV.dh (row.take k++i::row.drop k)]:=by
 show X3 PV.dh ((bP i).flatMap λrow=>(RG (row.length+1)).map λk=>row.take k++i::row.drop k)=_;rw[gJ];refine dt λrow ω=>?_;rw[dW,R6];rfl
theorem A5(n i:Nat):(fk n (i+1)).map PV.rG=(fk n i).flatMap λws=>(UA (ws.foldl max 0) (n - ws.foldl max 0)).flatMap λw=>[PV.rG (ws++[w])]:=by
 show X3 PV.rG ((fk n i).flatMap λws=>(UA (ws.foldl max 0) (n - ws.foldl max 0)).map λw=>ws++[w])=_;rw[gJ];refine dt λws ω=>?_;rw[dW,R6];rfl
theorem Df(n:Nat)(need:Nat->List Nat)(i:Nat):(qB n need (i+1)).map PV.rG=(qB n need i).flatMap λp=>(RG n).flatMap λw=>if((need i).all λa=>decide (p.getD a 0<=w))=true then [PV.rG (p++[w])]else []:=by
 show X3 PV.rG ((qB n need i).flatMap λp=>((RG n).filter λw=>(need i).all λa=>decide (p.getD a 0<=w)).map λw=>p++[w])=_;rw[gJ];refine dt λp ω=>?_;rw[jN,R6];rfl
theorem EY:∀n:Nat,n<=5->∀t:Nat,t<=n->∀ws∈fk n t,ws.foldl max 0<=n:=by decide +kernel
section
variable{Q:cM->ag->Prop}{n:Nat}{M:List (List Int)}
theorem Ei:Ev C env Γ (.List [.List [] p] p') md (.list [.list []]):=bI.ev (bI.list (ba.cons (bI.ev (bI.list ba.nil (by decide))) ba.nil) (by decide))
theorem rI(K:d7 env (ae (dZ 10)))(h:Γ.lookup ("count":Str)=some (some (0,.int n))):Ev C env Γ (.Name "count" p) false (.int n):=V.name h (K.var "count" rfl)
theorem Hy(T:TopK C)(hN:C.hd=false)(K:d7 env (ae (dZ 10)))(hn:n<=5)(k:ak C env (("rows",some (0,.rws (bP n)))::l8 n M (cD n)) rest Q):
  ak C env (l8 n M (cD n)) (cq (bh (dZ 10)) 9::cq (bh (dZ 10)) 10::rest) Q:=by
 have dG:1000<=lim:=by decide
 have kc:∀ {scope:Scope} {D:RD} {cells:List (Str×RD)} {x:Str},aA (scope.names.lookup x)=true->aA ((CE scope env D cells).kindOf x)=true:=λ{scope D cells x} hx=>(d7.ce (scope:=scope) (env:=env) (L:=D) (cells:=cells)).var x hx;refine ak.assign (n:=0) (pv:=.rws (bP 0)) (dr.b9 Ei) (K.loc "rows" (.inl rfl)) ?_;refine ak.nU (C:=C) (L:=RG n) (g:=a9) (dw.list (Ev.name (n:=0) (md:=true) rfl (K.var "names" rfl)) (by rw[Rl,R'];exact Rk hn (by decide)))
  (λi aE=>dY (("rows",some (0,.rws (bP i)))::l8 n M (cD n)) aE) (λj aE=>("name",some (0,a9 j))::aE) (.refl _) (λj aE ω=>dI.name (K.loc "name" (.inr rfl))) (λi j aE hj hs=>?_) λaf hs=>?_
 ·refine oE (RY.mp hj) λh1 h2=>?_;rw[R']at h1;rw[VA]at h2;subst h2;have Jz:i<=5:=Rk (RS h1) hn;refine ak.weak (af:=("name",some (0,a9 i))::("rows",some (0,.rws (bP i)))::l8 n M (cD n)) ?_ (aT _ _ hs);refine ak.cE (C:=C) (dp:=1) (out:=(bP (i+1)).map PV.dh) ?_ (K.loc "rows" (.inl rfl)) (ak.freeze (x:="rows") rfl (ak.nil (.cons rfl (.cons rfl (.cons rfl (.cons rfl (.cons rfl .nil)))))));rw[wL];refine jl.lc (L:=bP i) (g:=PV.dh) (md:=false) (dw.list (V.name rfl (K.var "rows" rfl)) (by rw[Rl];exact Rk (jh i Jz).1 (by decide))) (bB.CW K (by decide)) (λD cells row hr=>?_) (mU (by intro _ _;rfl) (by intro _ _;rfl)) (by rw[<-wL,Rl];exact Rk (jh (i+1) (Rk h1 hn)).1 (by decide));have l9:=((jh i Jz).2 row hr).1;have A7:(row.map a9).length<=5:=by rw[Rl,l9];exact Jz
  refine TurnOk.name (b:=true) (.inl rfl) rfl pB.nil (λω=>Cl.typed (L:=RG (row.length+1)) (g:=dX) (md:=false) (V.yr (Ev.dN (V.fK T d7.ce rfl (V.add (V.len T d7.ce rfl (V.name rfl (kc rfl)) (Rk A7 (by decide))) V.int)) (by rw[Rl];rfl)) (by rw[l9];exact Rk (WW Jz) (by decide)) hN) λk hk=>TurnOk.name (b:=true) (.inl rfl) rfl pB.nil (λω=>Cl.emit ?_) (λh=>by cases h)) (λh=>by cases h);have e:PV.dh (row.take k++i::row.drop k)= .list (((row.map a9).take ((k:Int).toNat)++[a9 i])++(row.map a9).drop ((k:Int).toNat)):=by
   rw[SA,<-U0,<-Vr,Sq];show PV.list ((row.take k++i::row.drop k).map a9)=_;rw[R9,Sl];rfl
  have Q7:=RW.mp hk;rw[e];refine mr.lO (bI.add (bI.ev (bI.add (bI.ev (bI.j7 (m2:=false) (V.name rfl (kc rfl)) (V.name rfl (kc rfl)) (Su k) (Rk A7 (by decide)))) (V.vZ (V.list (V.br (V.name rfl (kc rfl)) V.eO) (Rk (show 1<=1000 by decide) dG))) ?_)) (bI.ev (bI.jG (m2:=false) (V.name rfl (kc rfl)) (V.name rfl (kc rfl)) (Su k) (Rk A7 (by decide)))) ?_) λx hx=>?_
  ·refine Rk (Tb (Rk (Tu _ _) A7) (Rx 1)) (by decide)
  ·rw[RQ,Vn];refine Rk (Tb (Tb (Rk (Tu _ _) A7) (Rx 1)) (Rk (SK _ _) A7)) (by decide)
  ·rw[SA,<-U0,<-Vr]at hx;rcases Rw.mp hx with hx|hx
   ·rcases Rw.mp hx with hx|hx
    ·exact mN _ x hx
    ·rw[Rq.mp hx];rfl
   ·exact mN _ x hx
 ·rw[R']at hs;exact k.weak hs
theorem Cv(T:TopK C)(hN:C.hd=false)(K:d7 env (ae (dZ 10)))(hn:n<=5)(k:ak C env (("rising",some (0,.oG (fk n n)))::("rows",some (0,.rws (bP n)))::l8 n M (cD n)) rest Q):
  ak C env (("rows",some (0,.rws (bP n)))::l8 n M (cD n)) (cq (bh (dZ 10)) 11::cq (bh (dZ 10)) 12::rest) Q:=by
 have dG:1000<=lim:=by decide
 have kc:∀ {scope:Scope} {D:RD} {cells:List (Str×RD)} {x:Str},aA (scope.names.lookup x)=true->aA ((CE scope env D cells).kindOf x)=true:=λ{scope D cells x} hx=>(d7.ce (scope:=scope) (env:=env) (L:=D) (cells:=cells)).var x hx;refine ak.assign (n:=0) (pv:=.oG (fk n 0)) (dr.b9 Ei) (K.loc "rising" (.inl rfl)) ?_;refine ak.nU (C:=C) (L:=RG n) (g:=dX) (V.yr (V.fK T K rfl (rI K rfl)) (Rk hn (by decide)) hN)
  (λi aE=>dY (("rising",some (0,.oG (fk n i)))::("rows",some (0,.rws (bP n)))::l8 n M (cD n)) aE) (λj aE=>("turn",some (0,dX j))::aE) (.refl _) (λj aE ω=>dI.name (K.loc "turn" (.inl rfl))) (λi j aE hj hs=>?_) λaf hs=>?_
 ·refine oE (RY.mp hj) λh1 h2=>?_;rw[R']at h1;rw[VA]at h2;subst h2;have hR:=rS n hn i (RS h1);refine ak.weak (af:=("turn",some (0,dX i))::("rising",some (0,.oG (fk n i)))::("rows",some (0,.rws (bP n)))::l8 n M (cD n)) ?_ (aT _ _ hs);refine ak.cE (C:=C) (dp:=1) (out:=(fk n (i+1)).map PV.rG) ?_ (K.loc "rising" (.inl rfl)) (ak.freeze (x:="rising") rfl (ak.nil (.cons rfl (.cons rfl (.cons rfl (.cons rfl (.cons rfl (.cons rfl .nil))))))));rw[A5];refine jl.lc (L:=fk n i) (g:=PV.rG) (md:=false) (dw.list (V.name rfl (K.var "rising" rfl)) (by rw[Rl];exact Rk hR.1 (by decide))) (bB.CW K (by decide)) (λD cells ws hw=>?_) (mU (by intro _ _;rfl) (by intro _ _;rfl)) (by rw[<-A5,Rl];exact Rk (rS n hn (i+1) h1).1 (by decide));have zf:=(hR.2 ws hw).1;have A7:(ws.map dX).length<=5:=by rw[Rl,zf];exact Rk (RS h1) hn
  refine dd (AH n hn _ (EY n hn i (RS h1) ws hw)) λr1 r2 r3=>?_;have er:(UA (ws.foldl max 0) (n - ws.foldl max 0)).map dX=(i4 ((ws.foldl max 0:Nat):Int) (n:Int) 1).map PV.int:=by
   rw[r1,R6];rfl
  have C3:=jf ws 0;refine TurnOk.name (b:=true) (.inl rfl) rfl pB.nil (λω=>Cl.typed (L:=UA (ws.foldl max 0) (n - ws.foldl max 0)) (g:=dX) (md:=false) ?_ λw Rh=>TurnOk.name (b:=true) (.inl rfl) rfl pB.nil (λω=>Cl.emit ?_) (λh=>by cases h)) (λh=>by cases h)
  ·rw[er];refine dw.jD (V.call (V.builtin (v:=.type "range") (d7.ce.jZ _ rfl) (T.none (x:="range") (by decide)) (by decide +kernel)) (V.br (V.HJ T d7.ce hN rfl (ns:=0::ws.map Int.ofNat) (M:=((ws.foldl max 0:Nat):Int)) (Ev.dN (V.vZ (V.Kt (V.vZ (V.list (V.br V.int V.eO) (Rk (show 1<=1000 by decide) dG))) (V.name rfl (kc rfl)) ?_)) ?_) ?_ λx hx=>?_) (V.br (V.name rfl (kc rfl)) V.eO)) a7.zK) r2 r3 hN
   ·exact Rk (Tb (Rx 1) A7) (by decide)
   ·show PV.list ([PV.int 0]++ws.map dX)= .list ((0::ws.map Int.ofNat).map PV.int);rw[Sl,R6];rfl
   ·rcases C3.2.2 with e|e
    ·rw[e];exact .head _
    ·exact .tail _ (RE.mpr ⟨_,e,rfl⟩)
   ·rcases Rr.mp hx with rfl|hx
    ·exact Su _
    ·refine aD (RE.mp hx) λy hy zr=>?_;subst zr;exact XN.mpr (C3.2.1 y hy)
  ·have e:PV.rG (ws++[w])= .list (ws.map dX++[dX w]):=by
    show PV.list ((ws++[w]).map dX)=_;rw[R9];rfl
   rw[e];refine mr.lO (bI.add (V.name rfl (kc rfl)) (V.vZ (V.list (V.br (V.name rfl (kc rfl)) V.eO) (Rk (show 1<=1000 by decide) dG))) (Rk (Tb A7 (Rx 1)) (by decide))) λx hx=>?_;rcases Rw.mp hx with hx|hx
   ·exact wZ _ x hx
   ·rw[Rq.mp hx];rfl
 ·rw[R']at hs;exact k.weak hs
end
theorem vC{n:Nat}(hn:n<=5)(cO:∀j a,a∈need j->a<j)(hi:i<=n):(qB n need i).length<=3125:=by
 rw[rn n cO];refine Rk (T7 _ _) ?_;rw[nW];exact Rk (Nat.pow_le_pow_left hn i) (Nat.pow_le_pow_right (by decide) (Rk hi hn))
theorem u'{n:Nat}(cO:∀j a,a∈need j->a<j){p:List Nat}(h:p∈qB n need i):p.length=i/\∀x∈p,x<n:=by
 rw[rn n cO]at h;exact(i9 n i p).mp (TJ.mp h).1
theorem Bu{need:List Nat}{p:List Nat}{w:Nat}:(((need.filter λa=>decide ((p.getD a 0:Int)>(w:Int))).map id).map dX).isEmpty=need.all λa=>decide (p.getD a 0<=w):=by
 rw[Wn,List.isEmpty_map]
 induction need with
 |nil=>rfl
 |cons a l ih=>
  rw[S9,Wy,<-ih];by_cases h:p.getD a 0<=w
  ·rw[decide_eq_true h,if_neg (by rw[decide_eq_true_eq];exact Uk.mpr (XN.mpr h))];rfl
  ·rw[decide_eq_false h,if_pos (by rw[decide_eq_true_eq];exact Ta.mpr (T5 h))];rfl
theorem DW(L:List Nat):(PV.rG L).ok=true:=by
 show PV.BU 7 (L.map dX)=true;rw[PV.qz,WN];exact Sv.mpr λj hj=>rfl
section
variable{Q:cM->ag->Prop}{n:Nat}{M:List (List Int)}
noncomputable abbrev p8(n:Nat)(M:List (List Int))(D:List (Nat×Nat)):ag:=[("due",some (0,.list (D.map λq=>lE ((q.1:Int),(q.2:Int))))),("needs",some (0,.B6 M)),("count",some (0,.int n))]
theorem V.O4{l i:Expr}{p:Pos}{L:List Nat}(hj:j<L.length)(hl:L.length<=5)(h1:Ev C env Γ l false (.rG L))(h2:Ev C env Γ i false (.int j))
  (eY:autoParam (∀o iv,∃ops,subscripted i false o iv=operate ops (getItem o iv)) oA7._auto_1):Ev C env Γ (.Subscript l i p) false (.int (L.getD j 0:Nat)):=
 Ev.item (k:=(j:Int)) (m2:=false) h1 h2 (Su j) (U7 (Ta.mpr (Ru hj hl)) (by decide)) (by rw[SA,RZ,Sb,RT hj];rfl) eY
theorem Eu(T:TopK C)(hN:C.hd=false)(K:d7 env (ae (dZ 10)))(hn:n<=5)(hM:fZ n M){D:List (Nat×Nat)}(k:ak C env (("plans",some (0,.oG (qB n (aR M) n)))::p8 n M D) rest Q):
  ak C env (p8 n M D) (cq (bh (dZ 10)) 15::cq (bh (dZ 10)) 16::rest) Q:=by
 have dG:10000<=lim:=by decide
 have kc:∀ {scope:Scope} {env:Env} {D:RD} {cells:List (Str×RD)} {x:Str},aA (scope.names.lookup x)=true->aA ((CE scope env D cells).kindOf x)=true:=λ{scope env D cells x} hx=>(d7.ce (scope:=scope) (env:=env) (L:=D) (cells:=cells)).var x hx;refine ak.assign (n:=0) (pv:=.oG (qB n (aR M) 0)) (dr.b9 Ei) (K.loc "plans" (.inl rfl)) ?_;refine ak.nU (C:=C) (L:=RG n) (g:=dX) (V.yr (V.fK T K rfl (rI K rfl)) (Rk hn (by decide)) hN)
  (λi aE=>dY (("plans",some (0,.oG (qB n (aR M) i)))::p8 n M D) aE) (λj aE=>("job",some (0,dX j))::aE) (.refl _) (λj aE ω=>dI.name (K.loc "job" (.inr rfl))) (λi j aE hj hs=>?_) λaf hs=>?_
 ·refine oE (RY.mp hj) λh1 h2=>?_;rw[R']at h1;rw[VA]at h2;subst h2;have hlen:=vC hn hM.cO (RS h1);have HD:=vC hn hM.cO (i:=i+1) h1;refine ak.weak (af:=("job",some (0,dX i))::("plans",some (0,.oG (qB n (aR M) i)))::p8 n M D) ?_ (aT _ _ hs);refine ak.cE (C:=C) (dp:=1) (out:=(qB n (aR M) (i+1)).map PV.rG) ?_ (K.loc "plans" (.inl rfl)) (ak.freeze (x:="plans") rfl (ak.nil (.cons rfl (.cons rfl (.cons rfl (.cons rfl .nil))))));rw[Df];refine jl.lc (L:=qB n (aR M) i) (g:=PV.rG) (md:=false) (dw.list (V.name rfl (K.var "plans" rfl)) (by rw[Rl];exact Rk hlen (by decide))) (bB.CW K (by decide)) (λD' cells p hp=>?_) (mU (by intro _ _;rfl) (by intro _ _;rfl)) (by rw[<-Df,Rl];exact Rk HD (by decide));have eY:=(u' hM.cO hp).1;have MM:p.length<=5:=by rw[eY];exact Rk (RS h1) hn
  refine TurnOk.name (b:=true) (.inr rfl) rfl pB.nil (λω=>Cl.typed (L:=RG n) (g:=dX) (md:=false) (V.yr (V.fK T d7.ce rfl (V.name rfl (kc rfl))) (Rk hn (by decide)) hN) λw hw=>TurnOk.name (b:=(aR M i).all λa=>decide (p.getD a 0<=w)) (.inr rfl) rfl (pB.one (cX.dN (V.MU (jl.ev (V.B7 (L:=aR M i) (g:=dX) (g':=dX) (h:=id) (q:=λa=>decide ((p.getD a 0:Int)>(w:Int))) (md:=false) d7.ce (dw.list (Ev.dN (V.tw (L:=M) (g:=.ints) (n:=n) (V.name rfl (kc rfl)) (V.name rfl (kc rfl)) (Su i) (Ta.mpr h1) hM.len (Rk hn (by decide))) (congrArg PV.list (hM.ints i))) ?_) (by decide) (.inl rfl) rfl (λD2 DN a ha=>?_) (λD2 DN a ha ω=>V.e0 (V.name rfl (kc rfl)) rfl) ?_)) V.mx ?_) Bu)) (λhb=>?_) λhb=>?_) (λh=>by cases h)
  ·rw[Rl];exact Rk (hM.aF i) (by decide)
  ·exact V.iV (V.O4 (L:=p) (by rw[eY];exact hM.cO i a ha) MM (V.name rfl (kc rfl)) (V.name rfl (kc rfl))) (V.name rfl (kc rfl)) cw.gt_int
  ·exact Rk (hM.aF i) (by decide)
  ·rw[Wn];exact DW _
  ·rw[if_pos hb];have e:PV.rG (p++[w])= .list (p.map dX++[dX w]):=by
    show PV.list ((p++[w]).map dX)=_;rw[R9];rfl
   rw[e];refine Cl.emit (mr.lO (bI.add (V.name rfl (kc rfl)) (V.vZ (V.list (V.br (V.name rfl (kc rfl)) V.eO) (Rk (show 1<=10000 by decide) dG))) (Rk (Tb (by rw[Rl];exact MM) (Rx 1)) (by decide))) λx hx=>?_);rcases Rw.mp hx with hx|hx
   ·exact wZ _ x hx
   ·rw[Rq.mp hx];rfl
  ·rw[if_neg (by rw[hb];exact Tz)]
 ·rw[R']at hs;exact k.weak hs
theorem IS(T:TopK C)(hN:C.hd=false)(K:d7 env (ae (dZ 10)))(kW:0<n)(hn:n<=5)(hc:xB n=true)(hM:fZ n M):
  ak C env (("plans",some (0,.oG (qB n (aR M) n)))::p8 n M (xR n (aR M))) [cq (bh (dZ 10)) 17] (λfl ω=>fl= .ret (.bool true)):=by
 have kc:∀ {scope:Scope} {env:Env} {D:RD} {cells:List (Str×RD)} {x:Str},aA (scope.names.lookup x)=true->aA ((CE scope env D cells).kindOf x)=true:=λ{scope env D cells x} hx=>(d7.ce (scope:=scope) (env:=env) (L:=D) (cells:=cells)).var x hx;have hp:=yp kW hc hM.cO;have hlen:=vC hn hM.cO (Rx n);have hb:∀q∈(qB n (aR M) n).map (λf=>(f.foldl max 0,f.sum)),q.2<1000:=λq hq=>by
  refine aD (RE.mp hq) λf hf zr=>?_;subst zr;refine oA (u' hM.cO hf) λh1 h2=>?_;have e:∀l:List Nat,(∀x∈l,x<n)->l.sum<=l.length*n:=λl=>by
   induction l with
   |nil=>exact λω=>RU _
   |cons x l ih=>
    intro h;rw[Tt,SS,WO,VH];exact Tb (ih λy hy=>h y (.tail _ hy)) (RS (h x (.head _)))
  refine RJ (e f h2) ?_;rw[h1];exact RJ (YS hn hn) (by decide)
 refine ak.ret (V.t (V.yU (C:=C) (g:=λq:Nat×Nat=>lE ((q.1:Int),(q.2:Int))) T K rfl ((xJ C).xg λq:Nat×Nat=>((q.1:Int),(q.2:Int))) (λa b pa pb h=>?_) (L:=(qB n (aR M) n).map (λf=>(f.foldl max 0,f.sum))) (L2:=xR n (aR M)) (λq hq=>⟨Su _,Ta.mpr (hb q hq)⟩) ?_ hp (λS hS=>?_) ?_ (V.name rfl (K.var "due" rfl))) rfl) rfl
 ·have h:(a.1:Int)*1000+(a.2:Int)=(b.1:Int)*1000+(b.2:Int):=h;have h1:=pa.2;have h2:=pb.2;exact Prod.ext (by omega) (by omega)
 ·rw[Rl];exact Rk hlen (by decide)
 ·show PV.BU 7 (S.map _)=true;rw[PV.qz,WN];exact Sv.mpr λj hj=>rfl
 ·refine jl.ev (V.map (L:=qB n (aR M) n) (g:=PV.rG) (md:=false) K (dw.list (V.name rfl (K.var "plans" rfl)) (by rw[Rl];exact Rk hlen (by decide))) (by decide) (.inl rfl) rfl (λD cells f hf=>?_) (Rk hlen (by decide)));refine oA (u' hM.cO hf) λh1 h2=>?_;have C3:=jf f 0;have eI:PV.rG f= .ints (f.map Int.ofNat):=by
   show PV.list _= .list _;rw[R6];rfl
  refine mr.b9 (Ev.tuple (ba.cons (V.t (V.HJ T d7.ce hN rfl (Ev.dN (V.name rfl (kc rfl)) eI) ?_ λx hx=>?_) rfl) (ba.cons (V.t (Ev.dN (V.sum T d7.ce hN rfl (Ev.dN (V.name rfl (kc rfl)) eI)) ?_) rfl) ba.nil)) (by show 2<=lim;decide))
  ·rcases C3.2.2 with e|e
   ·cases f with
    |nil=>exact absurd h1 (Sm kW)
    |cons x l=>
     have hx:=C3.2.1 x (.head _);rw[e]at hx⊢;rw[Xe.mp hx];exact .head _
   ·exact RE.mpr ⟨_,e,rfl⟩
  ·refine aD (RE.mp hx) λy hy zr=>?_;subst zr;exact XN.mpr (C3.2.1 y hy)
  ·have e:∀l:List Nat,(l.map Int.ofNat).sum=(l.sum:Nat):=λl=>by
    induction l with
    |nil=>rfl
    |cons x l ih=>
     rw[Sl,Tt,Tt,ih];rfl
   rw[e]
end
theorem cw.HK:cw C env Γ .Lt m1 m2 (a9 i) (a9 j) (.bool (decide (i<j))):=λA S U s h₀ v u Q E hr hh e bR rv ru hq=>by
 refine oE rv.str_inv λt zr=>?_;subst zr;refine oE ru.str_inv λt' zr=>?_;subst zr;refine Zh ?_;have e:decide ((nm i).cps.toList<(nm j).cps.toList)=decide (i<j):=decide_eq_decide.mpr ⟨λh=>by
  rcases Vj.mp h with h|h
  ·exact Nat.lt_of_add_lt_add_left h
  ·exact absurd h.2 (Yy _),λh=>Vj.mpr (.inl (SD h 97))⟩
 rw[e];exact hq _ s.heap _ (.refl _ _ _) λω=>.bool _
noncomputable def nP(q:Nat×Nat):PV:=lE ((q.1:Int),(q.2:Int))
noncomputable def oX(n:Nat)(need:Nat->List Nat)(rows:List (List Nat)):List (Nat×Nat):=rows.flatMap λrow=>if gB need n row then((fk n n).filter (iO n row)).map (cj n row)else []
noncomputable abbrev d8(n:Nat)(M:List (List Int))(D:List (Nat×Nat)):ag:=("due",some (1,.list (D.map nP)))::("rising",some (0,.oG (fk n n)))::("rows",some (0,.rws (bP n)))::l8 n M (cD n)
theorem zk:∀n:Nat,n<=5->∀row∈bP n,row.Perm (RG n):=by decide +kernel
theorem Ca{n:Nat}(hn:n<=5)(need:Nat->List Nat):∀i,(oX n need ((bP n).take i)).length<=15120:=λi=>by
 refine Rk (qb (m:=126) λrow ω=>?_) (Wl 126 (Rk (Tu _ _) (jh n hn).1));cases gB need n row with
 |true=>
  rw[if_pos rfl,Rl];exact Rk (T7 _ _) (rS n hn n (Rx n)).1
 |false=>exact RU _
theorem DM:∀b:Bool,(PV.str (if b then "let" else "refused")).eqv (.str "wrong")=false/\(PV.str (if b then "let" else "refused")).eqv (.str "let")=b/\(PV.str (if b then "let" else "refused")).ok=true:=by decide +kernel
section
variable{n:Nat}{M:List (List Int)}
theorem LO(T:TopK C)(hN:C.hd=false)(K:d7 env (ae (dZ 10)))(hi:interactive env=false)(kW:0<n)(hn:n<=5)(hM:fZ n M)(gs:row.Perm (RG n))(zd:gB (aR M) n row=true){D:List (Nat×Nat)}(hD:D.length<=15120){rest:List Stmt}
  (i5:body=vi (cq (bh (dZ 10)) 14))
  (k:∀af,dY (d8 n M (D++((fk n n).filter (iO n row)).map (cj n row))) af->P .next af):
  ak C env (("answer",some (0,.str "let"))::("row",some (0,.dh row))::d8 n M D) (vi (cq body 2)) P:=by
 subst i5;have dG:20000<=lim:=by decide
 have kc:∀ {scope:Scope} {env:Env} {D:RD} {cells:List (Str×RD)} {x:Str},aA (scope.names.lookup x)=true->aA ((CE scope env D cells).kindOf x)=true:=λ{scope env D cells x} hx=>(d7.ce (scope:=scope) (env:=env) (L:=D) (cells:=cells)).var x hx;have l9:row.length=n:=by rw[gs.length_eq,R']
 have aG:row.Nodup:=gs.nodup_iff.mpr Tw;have hlt:∀ {x},x∈row->x<n:=λh=>RW.mp (gs.mem_iff.mp h);have h6:∀ {x},x<n->x<6:=λh=>Ru h (Tc hn);have A7:(row.map a9).length<=lim:=by rw[Rl,l9];exact Rk hn (by decide)
 have gK:∀ {k:Nat},k<n->row[k]?=some (row.getD k 0)/\row.getD k 0∈row:=λ{k} hk=>by
  have e:=RT (l:=row) (l9.symm▸hk);rw[Sb,e];exact⟨rfl,WR _⟩
 have KC:∀ {env:Env} {Γ:fT} {l i:Expr} {p:Pos} {k:Nat},k<n->Ev C env Γ l false (.dh row)->Ev C env Γ i false (.int k)->(∀o iv,∃ops,subscripted i false o iv=operate ops (getItem o iv))->Ev C env Γ (.Subscript l i p) false (a9 (row.getD k 0)):=λ{env Γ l i p k} hk h1 h2 eY=>
  Ev.item (k:=(k:Int)) (m2:=false) h1 h2 (Su k) (U7 (Ta.mpr (Ru hk hn)) (by decide)) (by rw[SA,RZ,(gK hk).1];rfl) eY
 have hG:∀j,j<n->dP (l5 (cD n) (aR M)) (bK j)=some (.dh (aR M j)):=λj h=>qj ((jd n hn).mem_iff.mpr (RW.mpr h));have e0:((RG n).flatMap λk=>(aR M (row.getD k 0)).flatMap λp=>if(!decide (p∈row.take k))=true then [a9 p]else [])=[]:=by
  refine U5.mpr λk hk=>U5.mpr λp hp=>?_;have mY:=RW.mp hk;have hr:=(gK mY).2;have EG:row.idxOf (row.getD k 0)=k:=by
   have h3:=(RY.mp (gK mY).1);refine oE h3 λh4 h5=>?_;clear h3;rw[<-h5];exact aG.idxOf_getElem k h4
  have hm:p∈row.take k:=(k6 aG).mpr ⟨by have e:=rP.mp zd _ (hlt hr) p hp;rwa[EG]at e,gs.mem_iff.mpr (RW.mpr (R0 (hM.cO _ p hp) (hlt hr)))⟩;rw[decide_eq_true hm];rfl
 refine ak.ite (b:=false) (V.gW (Ev.dN (jl.ev (jl.lc (L:=RG n) (g:=dX) (F:=λk=>(aR M (row.getD k 0)).flatMap λp=>if(!decide (p∈row.take k))=true then [a9 p]else []) (md:=false) (V.yr (V.fK T K rfl (rI K rfl)) (Rk hn (by decide)) hN) (bB.CW K (by decide)) (λD' cells k hk=>TurnOk.name (b:=true) (.inl rfl) rfl pB.nil (λω=>Cl.typed (L:=aR M (row.getD k 0)) (g:=a9) (md:=false) (dw.list (Ev.item_dict (k:=bK (row.getD k 0)) (m2:=false) (V.name rfl (kc rfl)) (KC (RW.mp hk) (V.name rfl (kc rfl)) (V.name rfl (kc rfl)) (by intro _ _;exact⟨_,rfl⟩)) (hG _ (hlt (gK (RW.mp hk)).2))) ?_) λp hp=>TurnOk.name (b:=!decide (p∈row.take k)) (.inl rfl) rfl (pB.one (V.wU (V.name rfl (kc rfl)) (Ev.dN (bI.ev (bI.j7 (m2:=false) (k:=(k:Int)) (V.name rfl (kc rfl)) (V.name rfl (kc rfl)) (Su k) A7)) ?_) ?_ λx hx=>h6 (hlt (UN hx)))) (λhb=>?_) λhb=>?_) (λh=>by cases h)) (mU (by intro _ _;rfl) (by intro _ _;rfl)) (by rw[e0];decide))) (congrArg PV.list e0)) V.mx rfl rfl) (ak.nil ?_)
 ·rw[Rl];exact Rk (hM.aF _) (by decide)
 ·rw[SA,<-U0]
 ·exact h6 (R0 (hM.cO _ p hp) (hlt (gK (RW.mp hk)).2))
 ·rw[if_pos hb];exact Cl.emit (V.e0 (V.name rfl (kc rfl)) rfl)
 ·rw[hb];rfl
 refine dd (AH n hn 1 kW) λr1 r2 r3=>?_;have hF:∀k∈UA 1 (n - 1),1<=k/\k<n:=λk hk=>by
  have h:=List.mem_range'_1.mp hk;omega
 have eF:((ck n row).map id).map dX=(ck n row).map dX:=by rw[Wn]
 have te:(ck n row).length<=5:=Rk (T7 _ _) (by rw[X5];exact Rk (SK _ _) hn);refine ak.cE (C:=C) (dp:=0) (out:=((ck n row).map id).map dX) (V.B7 (L:=UA 1 (n - 1)) (g:=dX) (g':=dX) (h:=id) (q:=λk=>decide (row.getD k 0<row.getD (k - 1) 0)) (md:=false) K ?_ (by decide) (.inl rfl) rfl (λD' cells k hk=>?_) (λD' cells k hk ω=>V.e0 (V.name rfl (kc rfl)) rfl) (by rw[X5];exact Rk (Rk (SK _ _) hn) (by decide))) (K.loc "falls" (.inr rfl)) ?_
 ·have er:(UA 1 (n - 1)).map dX=(i4 ((1:Nat):Int) (n:Int) 1).map PV.int:=by
   rw[r1,R6];rfl
  rw[er];exact dw.jD (V.call (V.builtin (v:=.type "range") (K.jZ _ rfl) (T.none (x:="range") (by decide)) (by decide +kernel)) (V.br V.int (V.br (rI K rfl) V.eO)) a7.zK) r2 r3 hN
 ·have mW:=hF k hk;exact V.iV (KC mW.2 (V.name rfl (kc rfl)) (V.name rfl (kc rfl)) (by intro _ _;exact⟨_,rfl⟩)) (KC (RJ (SK _ _) mW.2) (V.name rfl (kc rfl)) (Ev.dN (V.sub (V.name rfl (kc rfl)) V.int) (by show PV.int ((k:Int) - 1)= .int ((k - 1:Nat):Int);rw[Y8 mW.1];rfl)) (by intro _ _;exact⟨_,rfl⟩)) cw.HK
 rw[eF];refine ak.freeze (x:="falls") rfl ?_;have C3:∀k∈ck n row,k<=n:=λk hk=>RS (hF k (TJ.mp hk).1).2;have eB:PV.list (((ck n row).map λk=>n - k).map dX)= .ints (((ck n row).map λk=>n - k).map Int.ofNat):=by
  show PV.list _= .list _;rw[R6,R6,R6];rfl
 have eS:∀l:List Nat,(l.map Int.ofNat).sum=(l.sum:Nat):=λl=>by
  induction l with
  |nil=>rfl
  |cons x l ih=>
   rw[Sl,Tt,Tt,ih];rfl
 refine ak.assign (n:=0) (pv:=.int (((ck n row).map λk=>n - k).sum:Nat)) (V.k0 (Ev.dN (V.sum T K hN rfl (Ev.dN (jl.ev (V.map (L:=ck n row) (g:=dX) (g':=dX) (h:=λk=>n - k) (md:=false) K (dw.list (V.name rfl (K.var "falls" rfl)) ?_ hN) (by decide) (.inl rfl) rfl (λD' cells k hk=>?_) ?_)) eB)) (by rw[eS]))) (K.loc "behind" (.inr rfl)) ?_
 ·rw[Rl];exact Rk te (by decide)
 ·exact V.e0 (Ev.dN (V.sub (V.name rfl (kc rfl)) (V.name rfl (kc rfl))) (by show PV.int ((n:Int) - (k:Int))= .int ((n - k:Nat):Int);rw[Y8 (C3 k hk)])) rfl
 ·exact Rk te (by decide)
 have hR:=rS n hn n (Rx n);refine ak.extend (C:=C) (x:="due") (d9:=1) (ys:=D.map nP) (zs:=(((fk n n).filter (iO n row)).map (cj n row)).map nP) (upd:=id) (sW.list rfl) (jl.ev (V.B7 (L:=fk n n) (g:=PV.rG) (g':=nP) (h:=cj n row) (q:=iO n row) (md:=false) K (dw.list (V.name rfl (K.var "rising" rfl)) (by rw[Rl];exact Rk hR.1 (by decide)) hN) (by decide) (.inl rfl) rfl (λD' cells ws hw=>?_) (λD' cells ws hw ω=>?_) (Rk hR.1 (by decide)))) (by rw[Rl,Rl,Rl];exact Rk (Tb hD (Rk (T7 _ _) hR.1)) (by decide)) hi ?_
 ·have zf:=(hR.2 ws hw).1;have aX:ws≠[]:=λe=>by
   rw[e]at zf;exact Sm kW zf
  have LM:(ws.map dX).length<=lim:=by rw[Rl,zf];exact Rk hn (by decide)
  have KN:(ws.map dX).getLast?=some (dX (gf ws)):=by
   rw[X9,Uq aX];unfold gf;rw[VK,Uq aX];rfl
  refine cX.dN (V.iV (V.add (Ev.item_last (m2:=false) (x:=.int (gf ws:Nat)) (V.name rfl (kc rfl)) (V.neg V.int) LM KN) (Ev.dN (V.len T d7.ce rfl (V.name rfl (kc rfl)) (by rw[Rl];exact Rk te (by decide))) (y:=.int ((ck n row).length:Nat)) (by rw[Rl]))) (V.name rfl (kc rfl)) cw.lt_int) ?_;unfold iO;exact decide_eq_decide.mpr (by rw[<-Int.natCast_add];exact Ta)
 ·have zf:=(hR.2 ws hw).1;have aX:ws≠[]:=λe=>by
   rw[e]at zf;exact Sm kW zf
  have LM:(ws.map dX).length<=lim:=by rw[Rl,zf];exact Rk hn (by decide)
  have KN:(ws.map dX).getLast?=some (dX (gf ws)):=by
   rw[X9,Uq aX];unfold gf;rw[VK,Uq aX];rfl
  have eI:PV.rG ws= .ints (ws.map Int.ofNat):=by
   show PV.list _= .list _;rw[R6];rfl
  refine mr.b9 (Ev.tuple (ba.cons (V.t (Ev.dN (V.add (Ev.item_last (m2:=false) (x:=.int (gf ws:Nat)) (V.name rfl (kc rfl)) (V.neg V.int) LM KN) (Ev.dN (V.len T d7.ce rfl (V.name rfl (kc rfl)) (by rw[Rl];exact Rk te (by decide))) (y:=.int ((ck n row).length:Nat)) (by rw[Rl]))) (y:=.int ((gf ws+(ck n row).length:Nat):Int)) rfl) rfl) (ba.cons (V.t (Ev.dN (V.add (Ev.dN (V.sum T d7.ce hN rfl (Ev.dN (V.name rfl (kc rfl)) eI)) (by rw[eS])) (V.name rfl (kc rfl))) (y:=.int ((ws.sum+((ck n row).map λk=>n - k).sum:Nat):Int)) rfl) rfl) ba.nil)) (by show 2<=lim;decide))
 ·refine ak.nil (k _ ?_);show dY (("due",some (1,.list ((D++((fk n n).filter (iO n row)).map (cj n row)).map nP)))::_) _;rw[R9];exact .cons rfl (.cons rfl (.cons rfl (.cons rfl (.cons rfl (.cons rfl (.cons rfl .nil))))))
theorem Hi(T:TopK C)(hN:C.hd=false)(hl:7<=C.cc)(K:d7 env (ae (dZ 10)))(hi:interactive env=false)(fX:FnAt C.K 148 (dZ 8) .none)(gt:C.glob "_law_told" =some (.ref 148))(yB:FnAt C.K 153 (dZ 9) .none)(gl:C.glob "_law_let" =some (.ref 153))
  (Hu:FnAt C.K 73 (cC 0) (.ref 66)) (n6:C.K.lookup 66=some {cls:=.type "tuple",data:=.seq #[.none]}) (kW:0<n) (hn:n<=5) (hM:fZ n M) {rest:List Stmt} (k:ak C env (p8 n M (xR n (aR M))) rest P):
  ak C env (("rising",some (0,.oG (fk n n)))::("rows",some (0,.rws (bP n)))::l8 n M (cD n)) (cq (bh (dZ 10)) 13::cq (bh (dZ 10)) 14::rest) P:=by
 refine ak.assign (n:=1) (pv:=.list ((oX n (aR M) ((bP n).take 0)).map nP)) dr.nil (K.loc "due" (.inl rfl)) ?_;refine ak.nU (C:=C) (L:=bP n) (g:=PV.dh) (dw.list (Ev.name (n:=0) (md:=true) rfl (K.var "rows" rfl)) (by rw[Rl];exact Rk (jh n hn).1 (by decide)))
  (λi aE=>dY (d8 n M (oX n (aR M) ((bP n).take i))) aE) (λrow aE=>("row",some (0,.dh row))::aE) (.refl _) (λj aE ω=>dI.name (K.loc "row" (.inr rfl))) (λi row aE hj hs=>?_) λaf hs=>?_
 ·refine oA ((jh n hn).2 row (R4 hj)) λNn Ci=>?_;have gs:row.Perm (RG n):=zk n hn row (R4 hj);refine ak.weak (af:=("row",some (0,.dh row))::d8 n M (oX n (aR M) ((bP n).take i))) ?_ (aT _ _ hs);refine ak.assign (n:=0) (pv:=.str (if gB (aR M) n row then "let" else "refused")) (V.k0 (V.fn (C:=C) (m:=6) (md:=false) hl (K.jZ _ rfl) gl yB (V.br (V.name rfl (K.var "graph" rfl)) (V.br (V.name rfl (K.var "row" rfl)) V.eO)) (Fs (C:=C.l 6) (T.l 6) hN (by show 6<=6;decide) fX gt yB Hu n6 hn kW hM.cO hM.aF (jd n hn) gs))) (K.loc "answer" (.inl rfl)) ?_;have ha:=DM (gB (aR M) n row);refine ak.ite (b:=false) ((V.iV (V.name rfl (K.var "answer" rfl)) V.str (cw.eq ha.2.2 (by decide +kernel))).dN ha.1) (ak.nil ?_);refine ak.ite (b:=gB (aR M) n row) ((V.iV (V.name rfl (K.var "answer" rfl)) V.str (cw.eq ha.2.2 (by decide +kernel))).dN ha.2.1) ?_;have e:oX n (aR M) ((bP n).take (i+1))=oX n (aR M) ((bP n).take i)++if gB (aR M) n row then((fk n n).filter (iO n row)).map (cj n row)else []:=by
   rw[Ue,hj];unfold oX;rw[UU];show _++(_++[])=_;rw[SP]
  have hD:=Ca hn (aR M) i;generalize oX n (aR M) ((bP n).take i)=D at e hD⊢;cases zd:gB (aR M) n row with
  |true=>
   rw[zd,if_pos rfl]at e;rw[if_pos rfl];refine LO (C:=C) (body:=vi (cq (bh (dZ 10)) 14)) T hN K hi kW hn hM gs zd hD (rest:=[]) rfl λC7 mh=>?_;show ak C env C7 [] _;refine ak.nil ?_;show dY (d8 n M (oX n (aR M) ((bP n).take (i+1)))) C7;rw[e];exact mh
  |false=>
   rw[zd]at e;rw[if_neg Tz];refine ak.nil (ak.nil ?_);show dY (d8 n M (oX n (aR M) ((bP n).take (i+1)))) _;rw[e];show dY (("due",some (1,.list ((D++[]).map nP)))::_) _;rw[SP];exact .cons rfl (.cons rfl (.cons rfl (.cons rfl (.cons rfl (.cons rfl (.cons rfl .nil))))))
 ·rw[Vm]at hs;refine ak.weak ?_ hs;exact ak.freeze (x:="due") rfl (k.weak (.cons rfl (.cons rfl (.cons rfl .nil))))
theorem D0(T:TopK C)(hN:C.hd=false)(hl:7<=C.cc)(fX:FnAt C.K 148 (dZ 8) .none)(gt:C.glob "_law_told" =some (.ref 148))(yB:FnAt C.K 153 (dZ 9) .none)(gl:C.glob "_law_let" =some (.ref 153))(Ln:FnAt C.K 158 (dZ 10) .none)
  (Hu:FnAt C.K 73 (cC 0) (.ref 66)) (n6:C.K.lookup 66=some {cls:=.type "tuple",data:=.seq #[.none]}) {bq:List Int} (hs:bq.length<=63):Fn C 158 [.ints bq] (.bool true):=by
 refine Fn.FG (C:=C) Ln ["script"] rfl (by decide) (λx hx=>?_) (λfd vs h1 h2 h3 h4=>?_) λenv K hi=>?_
 ·rw[Rq.mp hx];exact .inl rfl
 ·refine oE (gn h4) λu zr=>?_;subst zr;unfold bindArgs;rw[h1,h2];rfl
 refine @AP C env T hN K bq hs _ _ λN n J7 zE hn=>?_;have kW:0<n:=Ru (by decide) zE;have hc:xB n=true:=by
  rcases T9 hn with h|h
  ·rcases T9 (Sy h)with h|h
   ·rw[Sa (Sy h) zE];exact KG
   ·rw[h];exact JW
  ·rw[h];exact LU
 refine @Ea C env _ _ K N n hn ?_;refine @EE C env T hN hi K N n J7 zE hn _ _ λM hM=>?_;refine @Fj C env _ _ n M T hN K hn hM ?_;refine @Hy C env _ _ n M T hN K hn ?_;refine @Cv C env _ _ n M T hN K hn ?_;refine @Hi C env _ n M T hN hl K hi fX gt yB gl Hu n6 kW hn hM _ ?_;refine @Eu C env _ _ n M T hN K hn hM _ ?_;exact @IS C env n M T hN K kW hn hc hM
end
set_option maxRecDepth 100000
set_option maxHeartbeats 8000000
noncomputable def vw:Sw:=view SG.row.prog [0,2,3,4,5,6,8,9,10]
theorem said08:OpenLaw.wellSaid SG=true:=by
 rw[Zb];kernel_rfl
theorem ok08:(chainsOk vw&&opensWell SG.row.prog&&(frees SG.row.toRowW&&SG.row.within.isEmpty))=true:=by kernel_rfl
theorem bare08:SG.row.prog.bare:=⟨rfl,rfl,rfl,rfl,rfl,by decide +kernel⟩
theorem head_open{r:OpenRow}{q:Sw}{d:DefRec}{Mj:List (Str×Expr)}(H:Hook){N:Nat}(left:LeftO r.prog q [So "_NodeInfo"] (λs=>xlAt q [] s&&recOk (RowW.records r.toRowW) s) H.obs H.val N)
  (h1:defOf q r.name=some (d,Mj)) (h2:r.prog.theDef r.name=some (d.params,d.body,d.scope)) (h3:kwWritten? d.params.kwonlyargs d.params.kw_defaults=some Mj) (h4:(!r.writes||r.records.isEmpty)=true)
  (k1:r.wellSaid=true) (ok:(chainsOk q&&opensWell r.prog&&(frees r.toRowW&&r.within.isEmpty))=true) (hb:r.prog.bare) (hw:r.toRowW.promised)
  (hc:WalkO q [So "_NodeInfo"] (XL q []) H.says r.toRowW d Mj λf vs=>PySem.call f vs):r.Holds:=
 PySem.W.holds_open left H.of H.keeps (λs e=>xl_of s (Sj.mp e).1) XL.keeps h1 h2 h3 (λs e=>recFacts_of (Sj.mp e).2) h4 k1 ok hb hw hc
local macro_rules | `(tactic| o_law)=>`(tactic| refine holds_law said08 fun ω=>?_)
local macro_rules | `(tactic| o_head $H)=>`(tactic| (
 refine' head_open (q:=vw) (N:=2384) $H ?hl rfl rfl rfl rfl (row_said said08) ok08 bare08 ?hw ?hc
 (case hl=>(unfold LeftO openEnds fencedOpening topFrom; rw [PySem.W.Fast.te14082659384304107361,PySem.W.Fast.te14364793385576792824,PySem.W.Fast.te10274390034422433532,PySem.W.Fast.te4187177175401517315]; intro w; kernel_rfl))))
open_top hd08 for PySem.Challenge.rw_km0021_08
set_option maxRecDepth 100000 in
set_option maxHeartbeats 8000000 in
theorem G2(prog w P cc):TopK ⟨prog,w,hd08.heap_1 P,cc,false⟩where
 sk:=⟨rfl,rfl,rfl,rfl,rfl⟩
 JE:=⟨rfl,rfl,rfl⟩
 Iq:=⟨rfl,rfl,rfl⟩
 F7:=⟨_,_,rfl,rfl,rfl,rfl,rfl,rfl,rfl,rfl,rfl⟩
 Jr:=⟨_,_,rfl,rfl,rfl,rfl,rfl,rfl,rfl,rfl,rfl⟩
 Ky:=⟨_,_,rfl,rfl,rfl,rfl,rfl,rfl,rfl,rfl,rfl⟩
 K1:=⟨_,_,rfl,rfl,rfl,rfl,rfl,rfl,rfl,rfl,rfl⟩
 LW:=⟨_,_,rfl,rfl,rfl,rfl,rfl,rfl,rfl,rfl,rfl⟩
 EO:=⟨_,_,rfl,rfl,rfl,rfl,rfl,rfl,rfl,rfl,rfl⟩
 BK:=⟨_,_,rfl,rfl,rfl,rfl,rfl,rfl,rfl,rfl,rfl⟩
 EU:=⟨_,_,rfl,rfl,rfl,rfl,rfl,rfl,rfl,rfl,rfl⟩
 Ju:=rfl
 I7:=rfl
 J9:=rfl
 JA:=rfl
 uM:=rfl
 CC:=rfl
 D7:=rfl
 Jl:=rfl
 Mx:=rfl
 z6:=⟨_,rfl⟩
 wu:=⟨_,rfl⟩
 KA:=rfl
set_option maxRecDepth 100000 in
set_option maxHeartbeats 8000000 in
theorem AK(w:TG)(P:Params){xs:List Int}(h:xs.length<=63):Fn ⟨SG.row.prog,w,hd08.heap_1 P,8,false⟩ 158 [.ints xs] (.bool true):=
 D0 (C:=⟨SG.row.prog,w,hd08.heap_1 P,8,false⟩) (G2 _ w P 8) rfl (by show 7<=8;omega) ⟨_,_,rfl,rfl,rfl,rfl,rfl,rfl,rfl,rfl,rfl⟩ rfl ⟨_,_,rfl,rfl,rfl,rfl,rfl,rfl,rfl,rfl,rfl⟩ rfl ⟨_,_,rfl,rfl,rfl,rfl,rfl,rfl,rfl,rfl,rfl⟩ ⟨_,_,rfl,rfl,rfl,rfl,rfl,rfl,rfl,rfl,rfl⟩ rfl h
end Ts
open PySem PySem.W PyProof.Rows Ts
set_option tactic.hygienic true in
set_option maxRecDepth 100000 in
set_option maxHeartbeats 8000000 in
theorem PySem.Challenge.cw_km0021_08_holds : PySem.Challenge.rw_km0021_08.Holds := by
 refine hd08 ?_
 k_fill
 intro w s₀ s₁ mg mb G Y fa o pm cd doc dV kV ho hd fe hD Bn hg args vals as KW Mq oP zf cY;have KX:=kIn_of Y;refine Ground.open G ?_;intro T B D TE TW;clear hd fe hD ho D B TE TW G Y
 wrow_args KW Mq oP zf cY
 rename_i xs _ _ _ _ _ _ _ _ _ _ _ _ hW _ _ _ hlen _;exact z0 (C:=⟨PySem.Challenge.rw_km0021_08.row.prog,w,hd08.heap_1 w.params,8,false⟩) (AK w w.params (xs:=xs) (by omega)) (tV _ (show 9<=12 by omega)) T KX rfl Bn rfl hW (λω=>rfl) (zU _ _) hg
