import PyProof.Rows.All
import Wide.All
import OpenK.AllK
import Wide.FinOn
import PySem.Challenge.RW_sh0065_01
open PySem.Str renaming ofString→H5,length_append→HI,length→J7
open Nat renaming le_trans→H6,le_refl→Hw,not_lt→Hz,lt_of_lt_of_le→HB,mul_le_mul_left→HG,le_of_eq→HM,add_le_add_right→HN,le_add_right→HQ,lt_of_le_of_lt→HS,zero_le→HT,add_comm→HU,lt_succ_self→HV,lt_add_of_pos_right→Ib,add_le_add_left→Ic,lt_irrefl→Ie,add_assoc→Ih,ne_of_lt→Im,succ_pos→Io,add_le_add→Ir,le_succ_of_le→Iu,le_of_lt→IG,lt_trans→IN,pow_le_pow_right→IR,lt_succ_of_lt→IW,le_succ→J0,le_add_left→J2,zero_add→Jc,add_sub_cancel_left→Jh,ne_of_gt→Ju,add_sub_cancel'→JB,mul_le_mul→JF,le_of_succ_le→K7,toDigits→Kg,add_right_cancel_iff→Kr,lt_of_lt_of_eq→KA,le_mul_of_pos_right→KF,mul_add→KG,lt_or_ge→KN,sub_eq_zero_of_le→KU,mul_assoc→L5,sub_self→Lp,le_of_mul_le_mul_left→LL,lt_of_succ_lt→LP,pow_pos→LQ,mul_left_comm→LR,exists_eq_add_of_le→Me,sub_le→Mp,le_of_succ_le_succ→Mv,lt_of_succ_lt_succ→Mw,le_mul_of_pos_left→Mx,not_le→MY,lt_asymm→N1,mul_comm→N7
open List renaming mem_singleton→H7,mem_append_left→H8,mem_append→H9,mem_cons→Ha,mem_append_right→Hb,length_append→He,length_cons→Hh,append_nil→Hj,length_map→Hl,mem_map→Hm,nodup_append→Hn,append_assoc→Ho,cons_append→Hp,not_mem_nil→Hs,nodup_cons→Hu,getElem?_eq_getElem→Hv,size_toArray→Hx,lookup_cons→HA,map_cons→HF,mem_of_getElem?→HH,length_reverse→HJ,getElem?_append_left→HK,flatten_cons→HL,getElem?_append_right→HO,getElem?_toArray→HR,map_append→HW,getD_eq_getElem?_getD→Ia,getElem?_eq_some_iff→Ii,length_nil→Ij,range'→Iw,range→Ix,nil_append→Iy,flatMap_cons→IL,pairwise_singleton→IQ,filter_cons→IS,take_of_length_le→IY,take_append_drop→J6,filter_append→Ja,forall_mem_cons→Jd,mem_of_mem_drop→Je,append_eq_nil_iff→Jn,mem_filter→Jq,mem_cons_of_mem→Jw,pairwise_append→Jx,range_eq_range'→Jy,mem_of_mem_take→Jz,length_take→JC,mem_range→JG,length_eq_zero_iff→JJ,eq_nil_of_length_eq_zero→JK,take_append_of_le_length→JO,map_map→JR,filter_eq_nil_iff→JT,of_mem_zip→JX,forIn_cons→JY,length_filter_le→K0,pairwise_reverse→K2,reverse_perm→K6,length_drop→Kb,all_eq_true→Kc,mem_reverse→Kd,length_tail→Ke,getElem_mem→Kf,flatMap_append→Ki,zip_cons_cons→Kw,pairwise_cons→Kx,lookup→KE,reverse_cons→KL,getElem?_map→KO,take_left→KP,length_singleton→KV,mem_flatten→KY,any_cons→L2,find?_cons→Lc,map_congr_left→Lh,take_succ_cons→Li,nodup_nil→Ls,map→Ly,drop_drop→LA,drop_eq_getElem_cons→LJ,map_drop→LZ,length_erase_of_mem→M0,map_fst_zip→M5,filter_cons_of_pos→M8,filter_cons_of_neg→M9,any_eq_true→Mb,range'_succ→Md,isEmpty_map→Mf,mem_flatMap→Mi,perm_append_comm→MC,getElem?_eq_none→ME,reverse_reverse→MQ,drop_left→MR,mem_erase_of_ne→MS,map_nil→N2
open PySem renaming wpAny_bind→Hc,wpAny_mono→Hf,starEach→Hg,wpAny_pure→Hi,FuncData→Hy,wpAny_execs_cons→HE,DictEntry→HP,sizeLine→Ip,wpAny_Call_ofName→It,bootBuiltins→Iz,mainGlobals→IB,intText?→IC,strKind→IE,wpAny_holding→IF,seg_execs_cons→IM,attributeBase→IT,callWith→IU,bindArgs→J4,builtinLookup_eq_fast→J5,wpAny_Return_some→Jf,cellsFrom→Jg,builtinsNs→Ji,assignEach→Jj,sliceBounds→Jo,wpAny_call→Jp,keywordEach→Jr,wpAny_Call_method→Js,foldedSetIterable→Jt,wpAny_newObj_type→Jv,swapsWith→JD,wpAny_list_append_plain→JE,compEnvC→JH,getMethod→JI,wpAny_field→JL,sizeLine_eq→JM,IntMulOk→JU,wpAny_execs_nil→JW,typeLookup_type→JZ,wpAny_Assign_Name→K3,wpAny_pyIter_list→K4,evalArgs_none→Kh,wpAny_standAt→Km,swapsWithSole→Kn,swappedStores→Ko,intKind→Ks,letOwnedTupleGo→Kt,wpAny_isTrue_value→Kv,evalPart_some_step→Ky,wpAny_callSpecial?_slot→KD,backToKw→KI,plainObj_wpAny_Assign_Attribute→KS,wpAny_call_entry→L0,GenState→L7,wpAny_loadName_local→L9,strIterType→La,wpAny_newFunctionEnv→Lb,wpAny_loadName_cell→Le,wpAny_loadName_free→Lf,wpAny_Tuple_spliced→Lg,wpAny_Name→Lu,typeIs_str→Lv,wpAny_newFunctionEnv_cells→Lx,seg_wrap→Lz,isSubtype_type→LB,wpAny_rule→LC,wpAny_setField_rec→LG,firstArgMember→LH,wpAny_truthy_bool→LM,slot_list_getitem→LN,wpAny_Call_append→LO,wpAny_attempt→LX,wpAny_For→M6,entryFor_of_tree→Ma,wpAny_isInstance→Mc,startupNames→Ml,sliceRange→Mo,wpAny_typeOf→Ms,theTreesLotGoes→My,wpAny_specialOf→Mz,subscripted→MF,letTemporaryGo→MG,NameKind→MH,recursionLimit→MI,seg_Expr_Yield→MK,wpAny_listPart→MN,wpAny_seqItems→MO,storeName→MU,inplaceOp→MV,slicePick→MX
open PySem.Txt renaming lower→Hd,join→Kl,splitMax→Lo
open PySem.Heap renaming get?_push_size→Hk,lt_size→Hr,get?_push_of_some→Ht,size_push→HX,get?_update_self→K1,SameBut→Mj,ExtBut→MJ
open Bool renaming false_eq_true→Hq,false_ne_true→J9,and_eq_true→KX,and_eq_true_iff→L8,and_false→LF,not_eq_true→M7,or_eq_false_iff→MP
open PySem.Obj renaming mapSeq→HC
open PySem.W.Looks renaming of_pure→HD,of_peek→Kq
open False renaming elim→HY
open PySem.Calls renaming evalArgs_plain→HZ
open PySem.Builtin.Str renaming tooLong→Ig,subAt→Iv,occurrences→IA,strKind→II,strSliceIndices→Jm,strSub→JS,partsBetween→LU
open PySem.W renaming callWith_of→Ik,emptyDict→IZ,kas_descPart→Mu,methodObj→MW
open Ne renaming symm→Il
open PySem.PyData renaming keyHash→Iq
open PyProof.Rows renaming Attribute_name→ID,listUpdate_at→LY,spliced_more→Mm,Subscript_→Mn,get?_update_seq→MB,MethodCall_→ML
open Int renaming fmod_nonneg_of_pos→IH,fmod_lt_of_pos→J8,le_refl→JN,natCast_nonneg→JP,natAbs_add_le→K8,natAbs_mul→KQ,max_eq_right→M4,eq_ofNat_of_zero_le→Mh,zero_add→Mq,ofNat_le→N0,le_trans→N5,ofNat_lt→N6
open PySem.Builtin.Int renaming intBits→IJ
open PySem.Heap.SameBut renaming update→IK
open PySem.Builtin.Range renaming rangeSize→IP
open PySem.Sem renaming bind_eq_wrap'→IV,wrap_wrap→JA
open Array renaming getElem?_eq_some_iff→IX,getElem?_setIfInBounds_self_of_lt→K9,getElem?_setIfInBounds_ne→KR
open List.cons renaming injEq→J1
open PySem.StrLaws renaming occBody→J3,occ_length_le_len→LI
open PySem.Value renaming isStrOf→Jb,isStr→Ka,ref→KB,int→MT,type→MZ,str→N8
open ForInStep renaming yield→Jk
open Lean.Macro renaming throwUnsupported→Jl
open PySem.F renaming slot_str_split→JQ,args_str_split_3→Kp,entry_str_split→KC,plainAttrs_str→KM,slot_list_pop→MA,slot_dict_get→MD
open PySem.Builtin renaming divisionGoesByPylong→JV
open PySem.Builtin.List renaming listExtendWith→K5,listAllItems→LK,listSameRef→LV,listTooLong→LW,listItems→Mt
open ToString renaming toString→Kj
open Option renaming isSome_iff_exists→Kk
open PySem.W.KasT renaming kasWp_bind→Ku
open Char renaming toNat→Kz
open Nat.succ renaming inj→KH
open PySem.End renaming bare_of_quiet→KJ
open LawfulBEq renaming eq_of_beq→KW
open PySem.Sre renaming inSet→KZ,Seen→N3
open PySem.SeqAt renaming EqAt→L1
open String renaming join→L6
open Option.some renaming inj→Ld,injEq→N4
open PySem.W.Fast renaming te14082659384304107361→Lj,te14364793385576792824→Ll,te10274390034422433532→Lm,te14289696077712309145→Ln,te1435165496053646825→Lq,te4187177175401517315→Lr
open PySem.Heap.IsSliceOf renaming new→LD
open PySem.Shared renaming setGen→LS
open List.Pairwise renaming imp_of_mem→M3
open PySem.IntMulOk renaming of_left→Mg
open PyProof renaming noPylong_small→Mr
open PySem.Sre.M renaming admitted→MM
open PySem PySem.Calls PyProof.Rows PySem.W
set_option Elab.async false
set_option tactic.hygienic false
set_option linter.unusedVariables false
set_option linter.unusedSimpArgs false
set_option maxRecDepth 100000
set_option maxHeartbeats 400000
set_option genSizeOfSpec false
set_option genSizeOf false
set_option genInjectivity false
set_option compiler.extract_closed false
namespace Mine.Internal
section
noncomputable abbrev pw:Program:=PySem.Challenge.pw_sh0065_01
noncomputable def aO(i:Nat): Stmt:=(pw.main.body[i]?).getD (.Pass default)
noncomputable abbrev e0:Expr:=.Constant .none 0 default
noncomputable def C7{α:Type}(s:Stmt)(k:Str→Arguments→Expr→Expr→List Stmt→List Stmt→Scope→α): α:=match s with
 | .FunctionDef n a b _ _ _ c _ _ _=>k n a e0 e0 b [] c
 | .ClassDef _ _ _ b _ _ _ _ _ _ _=>k (H5 "") default e0 e0 b [] default
 | .Assign _ v _=>k (H5 "") default v v [] [] default
 | .For t i b c _=>k (H5 "") default t i b c default
 | .While t b c _=>k (H5 "") default t t b c default
 | .If t b c _=>k (H5 "") default t t b c default
 |_=>k (H5 "") default e0 e0 [] [] default
noncomputable def yd{α:Type}(s:Expr)(k:Arguments→Expr→Scope→Pos→List Expr→List Keyword→α): α:=match s with
 | .Lambda a b c p=>k a b c p [] []
 | .Call f a l p=>k default f default p a l
 | .ListComp _ _ c p=>k default e0 c p [] []
 |_=>k default e0 default default [] []
noncomputable def aF(s:Stmt): List Stmt:=C7 s fun _ _ _ _ b _ _=>b
noncomputable def aQ(s:Stmt): Scope:=C7 s fun _ _ _ _ _ _ c=>c
noncomputable def Bm(s:Stmt): Expr:=C7 s fun _ _ t _ _ _ _=>t
noncomputable def Cp(n:Str)(l:List Stmt): Stmt:=(l.find? fun s=>C7 s fun m _ _ _ _ _ _=>decide (m=n)).getD (.Pass default)
noncomputable def aA(i:Nat)(n:Str): Stmt:=Cp n (aF (aO i))
noncomputable def iC(st:Stmt)(q:Str)(pm:Value)(c:Addr)(d:Value): Hy:=C7 st fun n a _ _ b _ sc=>{ name:=n,qualname:=q,params:=a,body:=.stmts b,scope:=sc,globals:=IB,closure:=[],defaults:=d,kwdefaults:=.none,pyModule:=pm,code:=.ref c,builtins:=Ji }
noncomputable def fx(st:Stmt)(q:Str)(pm:Value)(c:Addr)(d:Value): Obj:={ cls:=.type "function",data:=.func (iC st q pm c d) }
noncomputable def GP(n q:Str)(t:Nat)(l a x y z:Int)(r:Nat)(o1 o2:Value)(r2:Nat)(u:Int)(t4:Nat): Obj:={ cls:=.type "code",data:=.fields #[.str n t,.str q (t+1),.str (H5 "/claim/cut.py") (t+2),.int l 0,.int a 0,.int x 0,.int y 0,.int z 0,.ref r,.bool true,.int 276 0,.ref (r+1),.none,o1,o2,.ref r2,.int u 0,.int l 0,.str (H5 "/claim/cut.py") t4] }
noncomputable def Dv(n q:Str)(t:Nat)(l a x y z:Int)(r:Nat)(u:Int)(t4:Nat): Obj:=GP n q t l a x y z r .none .none (r+2) u t4
noncomputable def ia(n q:Str)(t:Nat)(l a x y z:Int)(r:Nat)(u:Int)(t4:Nat): Obj:=GP n q t l a x y z r (.ref (r+2)) (.ref (r+3)) (r+4) u t4
noncomputable def ay:List (Addr×Obj):=[
 (51,ia (H5 "__init__") (H5 "_netrclex.__init__") 303 8 2 0 0 3 46 308 309),
 (52,fx (aA 3 (H5 "__init__")) (H5 "_netrclex.__init__") (.str (H5 "cpy313.netrc") 289) 51 (.none)),
 (58,ia (H5 "_read_char") (H5 "_netrclex._read_char") 311 14 1 0 0 3 53 316 317),
 (59,fx (aA 3 (H5 "_read_char")) (H5 "_netrclex._read_char") (.str (H5 "cpy313.netrc") 289) 58 (.none)),
 (65,ia (H5 "get_token") (H5 "_netrclex.get_token") 319 20 1 0 0 3 60 326 327),
 (66,fx (aA 3 (H5 "get_token")) (H5 "_netrclex.get_token") (.str (H5 "cpy313.netrc") 289) 65 (.none)),
 (72,ia (H5 "push_token") (H5 "_netrclex.push_token") 329 47 2 0 0 3 67 334 335),
 (73,fx (aA 3 (H5 "push_token")) (H5 "_netrclex.push_token") (.str (H5 "cpy313.netrc") 289) 72 (.none)),
 (86,ia (H5 "_iter_escaped_chars") (H5 "_iter_escaped_chars") 353 51 1 0 0 35 81 360 361),
 (87,fx (aO 6) (H5 "_iter_escaped_chars") (.str (H5 "cpy313.email.utils") 349) 86 (.none)),
 (93,ia (H5 "_strip_quoted_realnames") (H5 "_strip_quoted_realnames") 363 64 1 0 0 3 88 372 373),
 (94,fx (aO 7) (H5 "_strip_quoted_realnames") (.str (H5 "cpy313.email.utils") 349) 93 (.none)),
 (100,ia (H5 "_check_parenthesis") (H5 "_check_parenthesis") 375 82 1 0 0 3 95 382 383),
 (101,fx (aO 8) (H5 "_check_parenthesis") (.str (H5 "cpy313.email.utils") 349) 100 (.none)),
 (107,ia (H5 "decode_rfc2231") (H5 "decode_rfc2231") 385 93 1 0 0 3 102 390 391),
 (108,fx (aO 9) (H5 "decode_rfc2231") (.str (H5 "cpy313.email.utils") 349) 107 (.none)),
 (117,ia (H5 "ISTERMINAL") (H5 "ISTERMINAL") 590 149 1 0 0 3 112 594 595),
 (118,fx (aO 61) (H5 "ISTERMINAL") (.str (H5 "cpy313.token") 393) 117 (.none)),
 (124,ia (H5 "ISNONTERMINAL") (H5 "ISNONTERMINAL") 597 151 1 0 0 3 119 601 602),
 (125,fx (aO 62) (H5 "ISNONTERMINAL") (.str (H5 "cpy313.token") 393) 124 (.none)),
 (143,{ cls:=.type "tuple",data:=.seq #[.none] }),
 (149,ia (H5 "__init__") (H5 "Headers.__init__") 678 158 2 0 0 3 144 685 686),
 (150,fx (aA 66 (H5 "__init__")) (H5 "Headers.__init__") (.str (H5 "cpy313.wsgiref.headers") 604) 149 (.ref 143)),
 (156,ia (H5 "_convert_string_type") (H5 "Headers._convert_string_type") 688 168 2 0 1 3 151 695 696),
 (157,fx (aA 66 (H5 "_convert_string_type")) (H5 "Headers._convert_string_type") (.str (H5 "cpy313.wsgiref.headers") 604) 156 (.none)),
 (163,ia (H5 "__len__") (H5 "Headers.__len__") 698 176 1 0 0 3 158 702 703),
 (164,fx (aA 66 (H5 "__len__")) (H5 "Headers.__len__") (.str (H5 "cpy313.wsgiref.headers") 604) 163 (.none)),
 (170,ia (H5 "__setitem__") (H5 "Headers.__setitem__") 705 179 3 0 0 3 165 711 712),
 (171,fx (aA 66 (H5 "__setitem__")) (H5 "Headers.__setitem__") (.str (H5 "cpy313.wsgiref.headers") 604) 170 (.none)),
 (175,Dv (H5 "__delitem__") (H5 "Headers.__delitem__") 714 183 2 0 0 3 172 717 718),
 (176,fx (aA 66 (H5 "__delitem__")) (H5 "Headers.__delitem__") (.str (H5 "cpy313.wsgiref.headers") 604) 175 (.none)),
 (182,ia (H5 "__getitem__") (H5 "Headers.__getitem__") 720 187 2 0 0 3 177 725 726),
 (183,fx (aA 66 (H5 "__getitem__")) (H5 "Headers.__getitem__") (.str (H5 "cpy313.wsgiref.headers") 604) 182 (.none)),
 (189,ia (H5 "__contains__") (H5 "Headers.__contains__") 728 190 2 0 0 3 184 733 734),
 (190,fx (aA 66 (H5 "__contains__")) (H5 "Headers.__contains__") (.str (H5 "cpy313.wsgiref.headers") 604) 189 (.none)),
 (196,ia (H5 "get_all") (H5 "Headers.get_all") 736 193 2 0 0 3 191 741 742),
 (197,fx (aA 66 (H5 "get_all")) (H5 "Headers.get_all") (.str (H5 "cpy313.wsgiref.headers") 604) 196 (.none)),
 (198,{ cls:=.type "tuple",data:=.seq #[.none] }),
 (204,ia (H5 "get") (H5 "Headers.get") 744 196 3 0 0 3 199 752 753),
 (205,fx (aA 66 (H5 "get")) (H5 "Headers.get") (.str (H5 "cpy313.wsgiref.headers") 604) 204 (.ref 198)),
 (209,Dv (H5 "keys") (H5 "Headers.keys") 755 203 1 0 0 3 206 758 759),
 (210,fx (aA 66 (H5 "keys")) (H5 "Headers.keys") (.str (H5 "cpy313.wsgiref.headers") 604) 209 (.none)),
 (214,Dv (H5 "values") (H5 "Headers.values") 761 206 1 0 0 3 211 764 765),
 (215,fx (aA 66 (H5 "values")) (H5 "Headers.values") (.str (H5 "cpy313.wsgiref.headers") 604) 214 (.none)),
 (221,ia (H5 "items") (H5 "Headers.items") 767 209 1 0 0 3 216 771 772),
 (222,fx (aA 66 (H5 "items")) (H5 "Headers.items") (.str (H5 "cpy313.wsgiref.headers") 604) 221 (.none)),
 (228,ia (H5 "__repr__") (H5 "Headers.__repr__") 774 212 1 0 0 3 223 778 779),
 (229,fx (aA 66 (H5 "__repr__")) (H5 "Headers.__repr__") (.str (H5 "cpy313.wsgiref.headers") 604) 228 (.none)),
 (233,Dv (H5 "__str__") (H5 "Headers.__str__") 781 215 1 0 0 3 230 784 785),
 (234,fx (aA 66 (H5 "__str__")) (H5 "Headers.__str__") (.str (H5 "cpy313.wsgiref.headers") 604) 233 (.none)),
 (240,ia (H5 "__bytes__") (H5 "Headers.__bytes__") 787 218 1 0 0 3 235 791 792),
 (241,fx (aA 66 (H5 "__bytes__")) (H5 "Headers.__bytes__") (.str (H5 "cpy313.wsgiref.headers") 604) 240 (.none)),
 (247,ia (H5 "setdefault") (H5 "Headers.setdefault") 794 221 3 0 0 3 242 801 802),
 (248,fx (aA 66 (H5 "setdefault")) (H5 "Headers.setdefault") (.str (H5 "cpy313.wsgiref.headers") 604) 247 (.none)),
 (254,ia (H5 "add_header") (H5 "Headers.add_header") 804 229 3 0 0 11 249 811 812),
 (255,fx (aA 66 (H5 "add_header")) (H5 "Headers.add_header") (.str (H5 "cpy313.wsgiref.headers") 604) 254 (.none)),
 (266,Dv (H5 "_law_tree") (H5 "_law_tree") 825 232 2 0 0 3 263 828 829),
 (267,fx (aO 68) (H5 "_law_tree") (.str (H5 "law_sh0065_01") 823) 266 (.none)),
 (273,ia (H5 "_law_text") (H5 "_law_text") 831 239 1 0 0 3 268 835 836),
 (274,fx (aO 69) (H5 "_law_text") (.str (H5 "law_sh0065_01") 823) 273 (.none)),
 (280,ia (H5 "_law_mark") (H5 "_law_mark") 838 241 2 0 0 3 275 845 846),
 (281,fx (aO 70) (H5 "_law_mark") (.str (H5 "law_sh0065_01") 823) 280 (.none)),
 (285,Dv (H5 "_law_dress") (H5 "_law_dress") 848 245 2 0 0 3 282 851 852),
 (286,fx (aO 71) (H5 "_law_dress") (.str (H5 "law_sh0065_01") 823) 285 (.none)),
 (292,ia (H5 "_law_lexer") (H5 "_law_lexer") 854 249 1 0 0 3 287 860 861),
 (293,fx (aO 72) (H5 "_law_lexer") (.str (H5 "law_sh0065_01") 823) 292 (.none)),
 (299,ia (H5 "_law_read") (H5 "_law_read") 863 254 1 0 0 3 294 870 871),
 (300,fx (aO 73) (H5 "_law_read") (.str (H5 "law_sh0065_01") 823) 299 (.none)),
 (306,ia (H5 "_law_split") (H5 "_law_split") 873 263 1 0 0 3 301 880 881),
 (307,fx (aO 74) (H5 "_law_split") (.str (H5 "law_sh0065_01") 823) 306 (.none)),
 (313,ia (H5 "_law_value") (H5 "_law_value") 883 269 3 0 0 3 308 895 896),
 (314,fx (aO 75) (H5 "_law_value") (.str (H5 "law_sh0065_01") 823) 313 (.none)),
 (320,ia (H5 "_law_back") (H5 "_law_back") 898 280 4 0 0 3 315 916 917),
 (321,fx (aO 76) (H5 "_law_back") (.str (H5 "law_sh0065_01") 823) 320 (.none)),
 (327,ia (H5 "_law_worth") (H5 "_law_worth") 919 302 2 0 0 3 322 926 927),
 (328,fx (aO 77) (H5 "_law_worth") (.str (H5 "law_sh0065_01") 823) 327 (.none)),
 (334,ia (H5 "_law_leaves") (H5 "_law_leaves") 929 309 4 0 0 3 329 936 937),
 (335,fx (aO 78) (H5 "_law_leaves") (.str (H5 "law_sh0065_01") 823) 334 (.none)),
 (339,Dv (H5 "_law_due") (H5 "_law_due") 939 315 4 0 0 3 336 942 943),
 (340,fx (aO 79) (H5 "_law_due") (.str (H5 "law_sh0065_01") 823) 339 (.none)),
 (346,ia (H5 "law") (H5 "law") 945 332 1 0 0 3 341 967 968),
 (347,fx (aO 80) (H5 "law") (.str (H5 "law_sh0065_01") 823) 346 (.none))]
noncomputable def aa:List (Str×Value):=[
 (H5 "TICK",.str (H5 "'") 351),
 (H5 "NT_OFFSET",.int 256 491),
 (H5 "EXACT_TOKEN_TYPES",.ref 109),
 (H5 "_netrclex",.ref 76),
 (H5 "Headers",.ref 258),
 (H5 "_name_disallowed_re",.ref 130),
 (H5 "_value_disallowed_re",.ref 135),
 (H5 "_iter_escaped_chars",.ref 87),
 (H5 "_strip_quoted_realnames",.ref 94),
 (H5 "_check_parenthesis",.ref 101),
 (H5 "decode_rfc2231",.ref 108),
 (H5 "ISTERMINAL",.ref 118),
 (H5 "ISNONTERMINAL",.ref 125),
 (H5 "_law_tree",.ref 267),
 (H5 "_law_text",.ref 274),
 (H5 "_law_mark",.ref 281),
 (H5 "_law_dress",.ref 286),
 (H5 "_law_lexer",.ref 293),
 (H5 "_law_read",.ref 300),
 (H5 "_law_split",.ref 307),
 (H5 "_law_value",.ref 314),
 (H5 "_law_back",.ref 321),
 (H5 "_law_worth",.ref 328),
 (H5 "_law_leaves",.ref 335),
 (H5 "_law_due",.ref 340)]
end
section
noncomputable def kW:List (Str×Tok×Int×Tok):=[(H5 "!",493,54,489),(H5 "!=",495,28,437),(H5 "%",497,24,429),(H5 "%=",499,40,461),(H5 "&",501,19,419),(H5 "&=",503,41,463),(H5 "(",505,7,395),(H5 ")",507,8,397),(H5 "*",509,16,413),(H5 "**",511,35,451),(H5 "**=",513,46,473),(H5 "*=",515,38,457),(H5 "+",517,14,409),(H5 "+=",519,36,453),(H5 ",",521,12,405),(H5 "-",523,15,411),(H5 "-=",525,37,455),(H5 "->",527,51,483),(H5 ".",529,23,427),(H5 "...",531,52,485),(H5 "/",533,17,415),(H5 "//",535,47,475),(H5 "//=",537,48,477),(H5 "/=",539,39,459),(H5 ":",541,11,403),(H5 ":=",543,53,487),(H5 ";",545,13,407),(H5 "<",547,20,421),(H5 "<<",549,33,447),(H5 "<<=",551,44,469),(H5 "<=",553,29,439),(H5 "=",555,22,425),(H5 "==",557,27,435),(H5 ">",559,21,423),(H5 ">=",561,30,441),(H5 ">>",562,34,449),(H5 ">>=",563,45,471),(H5 "@",564,49,479),(H5 "@=",565,50,481),(H5 "[",566,9,399),(H5 "]",567,10,401),(H5 "^",568,32,445),(H5 "^=",569,43,467),(H5 "{",570,25,431),(H5 "|",571,18,417),(H5 "|=",572,42,465),(H5 "}",573,26,433),(H5 "~",574,31,443)]
noncomputable def zG(w:World)(l:List (Str×Tok×Int×Tok)): List HP:=l.map fun x=>⟨hashStr w x.1,.str x.1 x.2.1,.int x.2.2.1 x.2.2.2⟩
noncomputable def xD(w:World): List (Addr×Obj):=[
 (75,{ cls:=(.type "dict"),data:=.dict #[⟨(hashStr w (H5 "__module__")),(.str (H5 "__module__") 298),(.str (H5 "cpy313.netrc") 289)⟩,⟨(hashStr w (H5 "__firstlineno__")),(.str (H5 "__firstlineno__") 302),(.int (6) 301)⟩,⟨(hashStr w (H5 "__init__")),(.str (H5 "__init__") 310),(.ref 52)⟩,⟨(hashStr w (H5 "_read_char")),(.str (H5 "_read_char") 318),(.ref 59)⟩,⟨(hashStr w (H5 "get_token")),(.str (H5 "get_token") 328),(.ref 66)⟩,⟨(hashStr w (H5 "push_token")),(.str (H5 "push_token") 336),(.ref 73)⟩,⟨(hashStr w (H5 "__static_attributes__")),(.str (H5 "__static_attributes__") 341),(.ref 74)⟩,⟨(hashStr w (H5 "__dict__")),(.str (H5 "__dict__") 343),(.ref 77)⟩,⟨(hashStr w (H5 "__weakref__")),(.str (H5 "__weakref__") 345),(.ref 78)⟩,⟨(hashStr w (H5 "__doc__")),(.str (H5 "__doc__") 346),.none⟩] 4 }),
 (76,{ cls:=(.type "type"),data:=.cls { name:=(H5 "_netrclex"),bases:=[(.type "object")],mro:=[(.ref 76),(.type "object")],ns:=75,qualname:=(H5 "_netrclex"),hasDict:=true,slotNames:=[],subclasses:=[],abstract:=false,collection:=none,hasDel:=false },slots:=#[none,none,some (.str (H5 "_netrclex") 291),some (.str (H5 "_netrclex") 299),some (.builtin "object.__new__"),some (.bool true)] }),
 (109,{ cls:=.type "dict",data:=.dict (zG w kW).toArray 48 }),
 (129,{ cls:=(.type "tuple"),data:=.seq #[(.int (14) 0),(.int (10) 0),(.int (4) 0),(.int (1) 0),(.int (1) 0),(.int (22) 0),(.int (0) 0),(.int (31) 0),(.int (16) 0),(.int (127) 0),(.int (0) 0),(.int (13) 0),(.int (7) 0),(.int (22) 0),(.int (0) 0),(.int (31) 0),(.int (16) 0),(.int (127) 0),(.int (0) 0),(.int (1) 0)] 0 }),
 (130,{ cls:=(.type "re.Pattern"),data:=.fields #[(.str (H5 "[\\x00-\\x1F\\x7F]") 607),(.int (32) 630),(.int (0) 0),.none,.none,(.ref 129),(.int (0) 0)] }),
 (134,{ cls:=(.type "tuple"),data:=.seq #[(.int (14) 0),(.int (14) 0),(.int (4) 0),(.int (1) 0),(.int (1) 0),(.int (9) 0),(.int (4294966783) 0),(.int (0) 0),(.int (0) 0),(.int (2147483648) 0),(.int (0) 0),(.int (0) 0),(.int (0) 0),(.int (0) 0),(.int (0) 0),(.int (13) 0),(.int (11) 0),(.int (9) 0),(.int (4294966783) 0),(.int (0) 0),(.int (0) 0),(.int (2147483648) 0),(.int (0) 0),(.int (0) 0),(.int (0) 0),(.int (0) 0),(.int (0) 0),(.int (1) 0)] 0 }),
 (135,{ cls:=(.type "re.Pattern"),data:=.fields #[(.str (H5 "[\\x00-\\x08\\x0A-\\x1F\\x7F]") 633),(.int (32) 664),(.int (0) 0),.none,.none,(.ref 134),(.int (0) 0)] }),
 (257,{ cls:=(.type "dict"),data:=.dict #[⟨(hashStr w (H5 "__module__")),(.str (H5 "__module__") 673),(.str (H5 "cpy313.wsgiref.headers") 604)⟩,⟨(hashStr w (H5 "__firstlineno__")),(.str (H5 "__firstlineno__") 677),(.int (156) 676)⟩,⟨(hashStr w (H5 "__init__")),(.str (H5 "__init__") 687),(.ref 150)⟩,⟨(hashStr w (H5 "_convert_string_type")),(.str (H5 "_convert_string_type") 697),(.ref 157)⟩,⟨(hashStr w (H5 "__len__")),(.str (H5 "__len__") 704),(.ref 164)⟩,⟨(hashStr w (H5 "__setitem__")),(.str (H5 "__setitem__") 713),(.ref 171)⟩,⟨(hashStr w (H5 "__delitem__")),(.str (H5 "__delitem__") 719),(.ref 176)⟩,⟨(hashStr w (H5 "__getitem__")),(.str (H5 "__getitem__") 727),(.ref 183)⟩,⟨(hashStr w (H5 "__contains__")),(.str (H5 "__contains__") 735),(.ref 190)⟩,⟨(hashStr w (H5 "get_all")),(.str (H5 "get_all") 743),(.ref 197)⟩,⟨(hashStr w (H5 "get")),(.str (H5 "get") 754),(.ref 205)⟩,⟨(hashStr w (H5 "keys")),(.str (H5 "keys") 760),(.ref 210)⟩,⟨(hashStr w (H5 "values")),(.str (H5 "values") 766),(.ref 215)⟩,⟨(hashStr w (H5 "items")),(.str (H5 "items") 773),(.ref 222)⟩,⟨(hashStr w (H5 "__repr__")),(.str (H5 "__repr__") 780),(.ref 229)⟩,⟨(hashStr w (H5 "__str__")),(.str (H5 "__str__") 786),(.ref 234)⟩,⟨(hashStr w (H5 "__bytes__")),(.str (H5 "__bytes__") 793),(.ref 241)⟩,⟨(hashStr w (H5 "setdefault")),(.str (H5 "setdefault") 803),(.ref 248)⟩,⟨(hashStr w (H5 "add_header")),(.str (H5 "add_header") 813),(.ref 255)⟩,⟨(hashStr w (H5 "__static_attributes__")),(.str (H5 "__static_attributes__") 815),(.ref 256)⟩,⟨(hashStr w (H5 "__dict__")),(.str (H5 "__dict__") 817),(.ref 259)⟩,⟨(hashStr w (H5 "__weakref__")),(.str (H5 "__weakref__") 819),(.ref 260)⟩,⟨(hashStr w (H5 "__doc__")),(.str (H5 "__doc__") 820),.none⟩] 4 }),
 (258,{ cls:=(.type "type"),data:=.cls { name:=(H5 "Headers"),bases:=[(.type "object")],mro:=[(.ref 258),(.type "object")],ns:=257,qualname:=(H5 "Headers"),hasDict:=true,slotNames:=[],subclasses:=[],abstract:=false,collection:=none,hasDel:=false },slots:=#[none,none,some (.str (H5 "Headers") 666),some (.str (H5 "Headers") 674),some (.builtin "object.__new__"),some (.bool true)] })]
noncomputable def ac(w:World): List (Addr×Obj):=xD w++ay
end
noncomputable def qV:Program:=PySem.W.view pw [80]
noncomputable def jG:List Str:=pw.boundNames
noncomputable def xC(w:World): List (Addr×Obj):=(288,tabObj #[])::(337,tabObj #[])::ac w
noncomputable def xE:List Addr:=[288,337,75,76,109,129,130,134,135,257,258]++ay.map (·.1)
noncomputable def jJ:List (Str×Value):=(H5 "__builtins__",.ref 4)::(H5 "law",.ref 347)::aa
noncomputable def Cf(s:Shared): List (Option Obj)×List (Option Value):=(xE.map s.heap.get?,(jJ.map (·.1)).map (s.heap.nsMap IB))
noncomputable def C2(w:World): List (Option Obj)×List (Option Value):=((xC w).map fun p=>some p.2,jJ.map fun p=>some p.2)
noncomputable def GQ(s:Shared): Bool:=PySem.W.xlAt qV [] s&&recOk (RowW.records PySem.Challenge.rw_sh0065_01.row.toRowW) s
noncomputable def mu(w:World): Prop:=(openEnds treeTable pw w 7000).map (fun s=>(openSeen qV jG (importedModules pw.main.body) GQ true s,Cf s))=some (openGood qV jG,C2 w)
set_option maxHeartbeats 0 in
theorem CB(w:World): mu (w.withFollow "special-get-raises" false):=by
 unfold mu openEnds fencedOpening topFrom
 rw[Lj,Ll,Lm,Lq,Ln,Lr]
 kernel_rfl
set_option maxHeartbeats 0 in
theorem CA(w:World): mu (w.withFollow "special-get-raises" true):=by
 unfold mu openEnds fencedOpening topFrom
 rw[Lj,Ll,Lm,Lq,Ln,Lr]
 kernel_rfl
theorem xn(w:World): mu w:=PySem.W.byRow2 "special-get-raises" CB CA w
theorem el01 {P Q : Prop} {C : Prop} (h : P ∧ Q) (k : P → Q → C) : C := k h.1 h.2
theorem GZ {P Q R : Prop} {C : Prop} (h : P ∧ Q ∧ R) (k : P → Q → R → C) : C := k h.1 h.2.1 h.2.2
theorem GY {P Q R S : Prop} {C : Prop} (h : P ∧ Q ∧ R ∧ S) (k : P → Q → R → S → C) : C := k h.1 h.2.1 h.2.2.1 h.2.2.2
theorem GX {P Q R S T : Prop} {C : Prop} (h : P ∧ Q ∧ R ∧ S ∧ T) (k : P → Q → R → S → T → C) : C := k h.1 h.2.1 h.2.2.1 h.2.2.2.1 h.2.2.2.2
theorem el10.{u} {α : Sort u} {P : α → Prop} {C : Prop} (h : ∃ a, P a) (k : ∀ a, P a → C) : C := h.elim fun a h => k a h
theorem el11.{u} {α : Sort u} {P Q : α → Prop} {C : Prop} (h : ∃ a, P a ∧ Q a) (k : ∀ a, P a → Q a → C) : C := h.elim fun a h => k a h.1 h.2
theorem el12.{u} {α : Sort u} {P Q R : α → Prop} {C : Prop} (h : ∃ a, P a ∧ Q a ∧ R a) (k : ∀ a, P a → Q a → R a → C) : C := h.elim fun a h => k a h.1 h.2.1 h.2.2
theorem el13.{u} {α : Sort u} {P Q R S : α → Prop} {C : Prop} (h : ∃ a, P a ∧ Q a ∧ R a ∧ S a) (k : ∀ a, P a → Q a → R a → S a → C) : C := h.elim fun a h => k a h.1 h.2.1 h.2.2.1 h.2.2.2
theorem el14.{u} {α : Sort u} {P Q R S T : α → Prop} {C : Prop} (h : ∃ a, P a ∧ Q a ∧ R a ∧ S a ∧ T a) (k : ∀ a, P a → Q a → R a → S a → T a → C) : C := h.elim fun a h => k a h.1 h.2.1 h.2.2.1 h.2.2.2.1 h.2.2.2.2
theorem el20.{u, v} {α : Sort u} {β : Sort v} {P : α → β → Prop} {C : Prop} (h : ∃ a b, P a b) (k : ∀ a b, P a b → C) : C := h.elim fun a h => h.elim fun b h => k a b h
theorem el21.{u, v} {α : Sort u} {β : Sort v} {P Q : α → β → Prop} {C : Prop} (h : ∃ a b, P a b ∧ Q a b) (k : ∀ a b, P a b → Q a b → C) : C := h.elim fun a h => h.elim fun b h => k a b h.1 h.2
theorem el22.{u, v} {α : Sort u} {β : Sort v} {P Q R : α → β → Prop} {C : Prop} (h : ∃ a b, P a b ∧ Q a b ∧ R a b) (k : ∀ a b, P a b → Q a b → R a b → C) : C := h.elim fun a h => h.elim fun b h => k a b h.1 h.2.1 h.2.2
theorem el23.{u, v} {α : Sort u} {β : Sort v} {P Q R S : α → β → Prop} {C : Prop} (h : ∃ a b, P a b ∧ Q a b ∧ R a b ∧ S a b) (k : ∀ a b, P a b → Q a b → R a b → S a b → C) : C := h.elim fun a h => h.elim fun b h => k a b h.1 h.2.1 h.2.2.1 h.2.2.2
theorem el30.{u, v, w} {α : Sort u} {β : Sort v} {γ : Sort w} {P : α → β → γ → Prop} {C : Prop} (h : ∃ a b c, P a b c) (k : ∀ a b c, P a b c → C) : C := h.elim fun a h => h.elim fun b h => h.elim fun c h => k a b c h
theorem el31.{u, v, w} {α : Sort u} {β : Sort v} {γ : Sort w} {P Q : α → β → γ → Prop} {C : Prop} (h : ∃ a b c, P a b c ∧ Q a b c) (k : ∀ a b c, P a b c → Q a b c → C) : C := h.elim fun a h => h.elim fun b h => h.elim fun c h => k a b c h.1 h.2
theorem el32.{u, v, w} {α : Sort u} {β : Sort v} {γ : Sort w} {P Q R : α → β → γ → Prop} {C : Prop} (h : ∃ a b c, P a b c ∧ Q a b c ∧ R a b c) (k : ∀ a b c, P a b c → Q a b c → R a b c → C) : C := h.elim fun a h => h.elim fun b h => h.elim fun c h => k a b c h.1 h.2.1 h.2.2
open Lean in
def mC (o:SourceInfo) (k:String) (a:List Syntax):Syntax:=
 let n:=fun k a=>Syntax.node o k (List.toArray a)
 match k,a with
 |"",[x]=>x
 |"",x::a=>n `Lean.Parser.Term.app [x,n `null a]
 |"{",_=>n `Lean.Parser.Tactic.tacticSeq [n `Lean.Parser.Tactic.tacticSeq1Indented [n `null a]]
 |"<",_=>n `group [.atom .none "|",n `Lean.Parser.Tactic.tacticSeq [n `Lean.Parser.Tactic.tacticSeq1Indented [n `null a]]]
 |_,_=>n (if k.startsWith "." then "Lean.Parser.Tactic"++k else if k.startsWith ":" then "Lean.Parser.Term."++(k.drop 1).toString else k).toName a
open Lean in
def mX (o:SourceInfo) (f:Name→Name) (v:List (String×Syntax)):List String→List (String×List Syntax)→Syntax
 |t::ts,(k,a)::r=>
  if t==")"||t=="]"||t=="}"||t==">" then match r with|(l,b)::r=>mX o f v ts ((l,mC o k a.reverse::b)::r)|[]=>.missing
  else
   let w:=(t.drop 1).toString
   let c:=t.front
   if c=='(' then mX o f v ts ((w,[])::(k,a)::r)
   else if c=='[' then mX o f v ts (("null",[])::(k,a)::r)
   else if t=="{"||t=="<" then mX o f v ts ((t,[])::(k,a)::r)
   else
    let i:=fun n=>(mkIdent n).raw
    mX o f v ts ((k,(if c=='\'' then .atom .none w else if c=='$' then (v.lookup w).getD .missing else if c=='"' then (Syntax.mkStrLit w).raw else if c=='!' then i (f w.toName) else if c=='?' then mC o ":syntheticHole" [.atom .none "?",i (f w.toName)] else if t=="_" then mC o ":hole" [.atom .none "_"] else i t.toName)::a)::r)
 |_,(_,s::_)::_=>s
 |_,_=>.missing
open Lean in
def mM (v:List (String×Syntax)) (t:String):MacroM Syntax:=read>>=fun c=>pure (mX (.fromRef c.ref) (fun n=>addMacroScope c.quotContext n c.currMacroScope) v (t.splitOn " ") [("",[])])
open Lean in
def mE (s:Syntax):Bool:=(s.getArgs.extract 1 9).all fun a=>a.getNumArgs==0||a.getKind== `Lean.Parser.Tactic.optConfig&&a[0].getNumArgs==0
open Lean in
def GK (p:Syntax):Nat:=let r:=p[0][0];if r.getNumArgs==1 then if r[0].getKind== `Lean.Parser.Tactic.rcasesPat.one&&r[0][0].getId != `rfl then 0 else if r[0].getKind== `Lean.Parser.Tactic.rcasesPat.ignore then 1 else 2 else 2
open Lean in
def GV (ps:List Syntax) (k m i:Nat):String:=
 let z:=fun q=>"el__"++Kj k++"_"++Kj q
 let l:=(Ix (m+1)).map fun q=>let c:=if q==m&&m+1<k then 3 else GK ps[q]!;(if c==0 then "$"++Kj q++" " else if c==1 then "_ " else z q++" ",if c==2 then " '; (.obtain 'obtain [ $"++Kj q++" ] [ ] [ ':= [ "++z q++" ] ] )" else if c==3 then " '; (.obtain 'obtain [ (.rcasesPatMed [ (.rcasesPat.tuple '⟨ $r"++Kj m++" '⟩ ) ] ) ] [ ] [ ':= [ "++z q++" ] ] )" else "")
 "< (.refine 'refine ( el"++Kj i++Kj (m-i)++" $h (:syntheticHole '? '_ ) ) ) '; (.paren '( { (.tacticTry_ 'try { (.clear 'clear [ $h ] ) } ) } ') ) '; (.intro 'intro [ "++L6 (l.map (·.1))++"] )"++L6 (l.map (·.2))++" > "
open Lean in
def GU (s:Syntax):MacroM Syntax:=
 let d:=s[1][0]
 let t:=d[0][0]
 let u:=t[1]
 let ps:=u.getSepArgs.toList
 let k:=ps.length
 let e:=s[3][1][0]
 let a:=e.isIdent&&e.getId.isAtomic
 if d[0].getNumArgs==1&&t.getKind== `Lean.Parser.Tactic.rcasesPat.tuple&&k≥2&&s[3][1].getNumArgs==1&&!(a&&s[2].getNumArgs != 0) then
  let x:=L6 ((Ix (k-1)).flatMap fun d=>let m:=k-1-d;(Ix (m+1)).map fun i=>if m>5||i>3||m-i>4||i==3&&m-i>2 then "" else GV ps k m i)
  let p:="(.obtain 'obtain [ (.rcasesPatMed [ (.rcasesPat.paren '( (.rcasesPatLo $d [ ] ) ') ) ] ) ] "
  let y:=p++"$t $v )"
  let v:=("h",if a then e else (mkIdent `el__h).raw)::("d",d)::("t",s[2])::("v",s[3])::(Ix k).flatMap fun q=>[(Kj q,if GK ps[q]! ==0 then ps[q]![0][0][0][0] else ps[q]![0]),("r"++Kj q,.node .none `null (u.getArgs.extract (2*q) u.getNumArgs))]
  mM v (if a then "(.first 'first [ "++x++"< "++y++" > ] )" else "(.first 'first [ < (.obtain 'obtain [ (.rcasesPatMed [ (.rcasesPat.one el__h ) ] ) ] $t $v ) '; (.first 'first [ "++x++"< "++p++"[ ] [ ':= [ el__h ] ] ) > ] ) > < "++y++" > ] )")
 else Jl
open Lean in
def H0 (s:Syntax):MacroM Syntax:=
 let x:=s[1][0][1]
 if x.isIdent&&s[1].getNumArgs==1&&s[1][0][0].getNumArgs==0&&s[2].getNumArgs==0 then
  let l:="VR.cnone VR.cint VR.cstr VR.cown VR.clst VR.ctup VR.cval VR.cbool VR.cdct VR.cinst VR.chdr VR.clex VR.ccit VR.ccitE bf.cnil bf.ccons eG.cnil eG.ccons".splitOn " "
  let g:=fun (k:String) (o:String)=>L6 (l.map fun i=>"< "++k++" [ (.elimTarget [ ] $x ) ] [ 'using "++i++" ] "++o++"$a ) > ")
  mM [("x",x),("a",s[3])] ("(.first 'first [ "++g "(.induction 'induction" "[ ] "++g "(.cases 'cases" ""++"< (.cases 'cases [ (.elimTarget [ ] (:paren (:hygienicLParen '( (hygieneInfo $n ) ) $x ') ) ) ] [ ] $a ) > ] )")
 else Jl
open Lean in
local macro_rules (kind:=Lean.Parser.Tactic.obtain)|s=>GU s
open Lean in
local macro_rules (kind:=Lean.Parser.Tactic.omega)|s=>if mE s then mM [] "(.first 'first [ < (.lia 'lia (.optConfig [ ] ) ) > < (.omega 'omega (.optConfig [ (.configItem (.posConfigItem '+ splitDisjunctions ) ) ] ) ) > ] )" else Jl
open Lean in
local macro_rules (kind:=Lean.Parser.Tactic.simp)|s=>if mE s then mM [] "(.first 'first [ < (.withReducible 'with_reducible { (.exact 'exact List.not_mem_nil ) } ) > < (.withReducible 'with_reducible { (.exact 'exact List.mem_cons_self ) } ) > < (.withReducible 'with_reducible { (.exact 'exact ( List.mem_cons_of_mem _ List.mem_cons_self ) ) } ) > < (.withReducible 'with_reducible { (.exact 'exact ( List.mem_cons_of_mem _ ( List.mem_cons_of_mem _ List.mem_cons_self ) ) ) } ) > < (.withReducible 'with_reducible { (.exact 'exact ( List.mem_cons_of_mem _ ( List.mem_cons_of_mem _ ( List.mem_cons_of_mem _ List.mem_cons_self ) ) ) ) } ) > < (.withReducible 'with_reducible { (.exact 'exact ( List.mem_append_left _ (term‹_› '‹ _ '› ) ) ) } ) > < (.withReducible 'with_reducible { (.exact 'exact ( List.mem_append_right _ (term‹_› '‹ _ '› ) ) ) } ) > < (.simp 'simp (.optConfig [ ] ) [ ] [ ] [ '[ [ ] '] ] [ ] ) > ] )" else Jl
section
theorem EG{α:Type}{x a:α}(h:x∈[a]): x=a:=H7.mp h
theorem bN{α:Type}{x a0 a1:α}(h:x∈[a0,a1]): x=a0∨x=a1:=(Ha.mp h).imp id EG
theorem jE{α:Type}{x a0 a1 a2:α}(h:x∈[a0,a1,a2]): x=a0∨x=a1∨x=a2:=(Ha.mp h).imp id bN
theorem rM{α:Type}{x a0 a1 a2 a3:α}(h:x∈[a0,a1,a2,a3]): x=a0∨x=a1∨x=a2∨x=a3:=(Ha.mp h).imp id jE
theorem Gf{α:Type}{x a0 a1 a2 a3 a4:α}(h:x∈[a0,a1,a2,a3,a4]): x=a0∨x=a1∨x=a2∨x=a3∨x=a4:=(Ha.mp h).imp id rM
theorem Ge{α:Type}{x a0 a1 a2 a3 a4 a5:α}(h:x∈[a0,a1,a2,a3,a4,a5]): x=a0∨x=a1∨x=a2∨x=a3∨x=a4∨x=a5:=(Ha.mp h).imp id Gf
theorem Gd{α:Type}{x a0 a1 a2 a3 a4 a5 a6:α}(h:x∈[a0,a1,a2,a3,a4,a5,a6]): x=a0∨x=a1∨x=a2∨x=a3∨x=a4∨x=a5∨x=a6:=(Ha.mp h).imp id Ge
theorem Gc{α:Type}{x a0 a1 a2 a3 a4 a5 a6 a7:α}(h:x∈[a0,a1,a2,a3,a4,a5,a6,a7]): x=a0∨x=a1∨x=a2∨x=a3∨x=a4∨x=a5∨x=a6∨x=a7:=(Ha.mp h).imp id Gd
theorem Cq{α:Type}{x a0 a1 a2 a3 a4 a5 a6 a7 a8:α}(h:x∈[a0,a1,a2,a3,a4,a5,a6,a7,a8]): x=a0∨x=a1∨x=a2∨x=a3∨x=a4∨x=a5∨x=a6∨x=a7∨x=a8:=(Ha.mp h).imp id Gc
theorem bJ{l:List Addr}(nd:l.Nodup)(i j:Nat){x y:Addr}(hij:i<j)(hx:l[i]? = some x)(hy:l[j]? = some y): x≠y:=
 have⟨p,ex⟩:=Ii.mp hx
 have⟨q,ey⟩:=Ii.mp hy
 ex▸ey▸List.pairwise_iff_getElem.mp nd i j p q hij
inductive PV where
 |none
 |bool(b:Bool)
 |int(i:Int)
 |str(s:Str)
 |tup(l:List PV)
 |lst(l:List PV)
 |own(l:List PV)
 |dct(l:List (Str×Int×PV))
 |hdr(l:List (Str×Str))
 |lex(pb:List Str)(rest:List Nat)(ln:Int)
 |val(v:Value)
 |inst(C:Addr)(l:List (Str×Int×PV))
 |cit(a:Addr)
 |citE
noncomputable abbrev bn(vs:List Value)(n:Nat): Obj:={ cls:=.type "list",data:=.seq vs.toArray n }
noncomputable abbrev pG(vs:List Value)(n:Nat): Obj:={ cls:=.type "tuple",data:=.seq vs.toArray n }
noncomputable abbrev bH(es:List HP)(n:Nat): Obj:={ cls:=.type "dict",data:=.dict es.toArray n }
noncomputable def vO(h:Heap)(p:Str×Str)(v:Value): Prop:=
 ∃ a t u n,v=.ref a∧h.get? a=some (pG [.str p.1 t,.str p.2 u] n)
noncomputable def Pairs(h:Heap): List (Str×Str)→List Value→Prop
 |[],[]=>True
 |p::ps,v::vs=>vO h p v∧Pairs h ps vs
 |_,_=>False
noncomputable def vM:List Str→List Value→Prop
 |[],[]=>True
 |x::xs,v::vs=>(∃ t,v=.str x t)∧vM xs vs
 |_,_=>False
noncomputable def gT:List Nat→List Value→Prop
 |[],[]=>True
 |x::xs,v::vs=>(∃ t,v=.str ⟨#[x]⟩ t)∧gT xs vs
 |_,_=>False
noncomputable def cD(o:Obj): Bool:=match o.data with
 | .seq _ _=>o.cls == .type "tuple"
 |_=>false
structure aj(W:List Addr)(h h':Heap): Prop where
 size:h.objs.size≤h'.objs.size
 keep:∀ b o,h.get? b=some o→(b∉W∨cD o=true)→h'.get? b=some o
theorem aj.refl(W:List Addr)(h:Heap): aj W h h:=⟨Hw _,fun _ _ e _=>e⟩
theorem aj.trans{W:List Addr}{h h' h'':Heap}(x:aj W h h')(y:aj W h' h''): aj W h h'':=
 ⟨H6 x.size y.size,fun b o e q=>y.keep b o (x.keep b o e q) q⟩
theorem aj.mono{W W':List Addr}{h h':Heap}(x:aj W h h')(hs:∀ b∈W,b∈W'): aj W' h h':=
 ⟨x.size,fun b o e q=>x.keep b o e (q.imp (fun n m=>n (hs b m)) id)⟩
theorem aj.all{W:List Addr}{h h':Heap}(x:aj [] h h'): aj W h h':=x.mono fun _ h=>(nomatch h)
theorem aj.get{h h':Heap}(x:aj [] h h'){b:Addr}{o:Obj}(e:h.get? b=some o): h'.get? b=some o:=x.keep b o e (.inl fun m=>(nomatch m))
theorem aj.push(h:Heap)(o:Obj): aj [] h (h.push o):=⟨by rw[HX];exact J0 _,fun _ _ e _=>Ht o e⟩
theorem aj.same{h h':Heap}{a:Addr}{o:Obj}(ha:h.get? a=some o)(hf:cD o=false)(x:Mj a h h'): aj [a] h h':=
 ⟨HM x.1.symm,fun b o' e q=>(x.2 b (by
  rintro rfl
  rcases q with q | q
  ·exact q (.head _)
  ·rw[ha]at e;cases e;rw[hf]at q;cases q)).trans e⟩
structure aG(W:List Addr)(s s':Shared): Prop where
 heap:aj W s.heap s'.heap
 gens:∀(i:Nat) (g:L7),s.gens[i]? = some g→s'.gens[i]? = some g
 bare:AllBare s.gens→AllBare s'.gens
 os:s'.os=s.os
theorem aG.refl(W:List Addr)(s:Shared): aG W s s:=⟨.refl _ _,fun _ _ e=>e,id,rfl⟩
theorem aG.trans{W:List Addr}{s s' s'':Shared}(x:aG W s s')(y:aG W s' s''): aG W s s'':=
 ⟨x.heap.trans y.heap,fun i g e=>y.gens i g (x.gens i g e),fun b=>y.bare (x.bare b),y.os.trans x.os⟩
theorem aG.mono{W W':List Addr}{s s':Shared}(x:aG W s s')(hs:∀ b∈W,b∈W'): aG W' s s':=⟨x.heap.mono hs,x.gens,x.bare,x.os⟩
theorem aG.all{W:List Addr}{s s':Shared}(x:aG [] s s'): aG W s s':=x.mono fun _ h=>(nomatch h)
theorem aG.ofKept{W:List Addr}{s:Shared}{h:Heap}{t:Nat}(x:aj W s.heap h): aG W s { s with heap:=h,toks:=t }:=⟨x,fun _ _ e=>e,id,rfl⟩
theorem aG.ofToks{W:List Addr}{s:Shared}{t:Nat}: aG W s { s with toks:=t }:=⟨.refl _ _,fun _ _ e=>e,id,rfl⟩
noncomputable abbrev gx:Addr:=76
noncomputable abbrev CM:Addr:=258
inductive kJ(h:Heap)(items:List (Str×Str))(a:Addr)(F:List Addr): Prop
 |mk(d l:Addr)(hs:Int)(t:Tok)(n:Nat)(vs:List Value)(m:Nat)(e:F=[a,d,l])(nd:F.Nodup)(e1:h.get? a=some { cls:=.ref CM,dict:=some d })
  (e2:h.get? d=some (bH [⟨hs,.str (H5 "_headers") t,.ref l⟩] n)) (e3:h.get? l=some (bn vs m)) (ps:Pairs h items vs)
noncomputable def xt:Expr:=Bm (((aF (aO 72))[2]?).getD (.Pass default))
noncomputable def ES:Arguments:=yd xt fun a _ _ _ _ _=>a
noncomputable def CH:Expr:=yd xt fun _ b _ _ _ _=>b
noncomputable def xr:Scope:=yd xt fun _ _ c _ _ _=>c
noncomputable abbrev CE:Str:=H5 "_law_lexer.<locals>.<lambda>"
noncomputable def CG(c cd:Addr)(pm ctv:Value): Hy:={ name:=H5 "<lambda>",qualname:=CE,params:=ES,body:=.expr CH,scope:=xr,globals:=IB,closure:=[(H5 "rest",c)],defaults:=.none,kwdefaults:=.none,doc:=.none,pyModule:=pm,annotations:=none,code:=.ref cd,closureTuple:=ctv,builtins:=Ji }
inductive kH(h:Heap)(lf c cd:Addr): Prop
 |mk(pm ctv:Value)(oc:Obj)(vs:Array Value)(t:Tok)(e:h.get? lf=some { cls:=.type "function",data:=.func (CG c cd pm ctv) })(e1:h.get? cd=some oc)(e2:oc.data=.fields vs∧vs[1]? = some (.str CE t))
inductive kG(h:Heap)(pb:List Str)(rest:List Nat)(ln:Int)(a:Addr)(F:List Addr): Prop
 |mk(d lp b e lf c r cd:Addr)(vs:List Value)(m:Nat)(ws:List Value)(k:Nat)(eF:F=[a,d,lp,b,e,lf,c,r,cd])(nd:F.Nodup)(e1:h.get? a=some { cls:=.ref gx,dict:=some d })
  (e2:∃ h1 t1 u1 h2 t2 h3 t3 u3 h4 t4 n,h.get? d=some (bH [⟨h1,.str (H5 "lineno") t1,.int ln u1⟩,⟨h2,.str (H5 "instream") t2,.ref b⟩,
   ⟨h3,.str (H5 "whitespace") t3,.str (H5 "\n\t\r ") u3⟩,⟨h4,.str (H5 "pushback") t4,.ref lp⟩] n))
  (e3:h.get? lp=some (bn vs m)) (e4:vM pb vs) (e5:h.get? b=some { cls:=.ref gx,dict:=some e })
  (e6:∃ es n,h.get? e=some (bH es n)∧∃ x,es.find? (fun x=>x.key.isStr (H5 "read"))=some x∧x.val=.ref lf)
  (e7:kH h lf c cd) (e8:h.IsCell c (some (.ref r))) (e9:h.get? r=some (bn ws k)) (e10:gT rest ws)
mutual
inductive VR(h:Heap): PV→Value→List Addr→Prop
 |none:VR h .none .none []
 |bool(b:Bool): VR h (.bool b) (.bool b) []
 |int(i:Int)(t:Tok): VR h (.int i) (.int i t) []
 |str(s:Str)(t:Tok): VR h (.str s) (.str s t) []
 |val(v:Value): VR h (.val v) v []
 |tup{l:List PV}{a:Addr}{vs:List Value}{n:Nat}{F:List Addr}: h.get? a=some (pG vs n)→bf h l vs F→F.Nodup→VR h (.tup l) (.ref a) F
 |lst{l:List PV}{a:Addr}{vs:List Value}{n:Nat}{F:List Addr}: h.get? a=some (bn vs n)→bf h l vs F→(a::F).Nodup→VR h (.lst l) (.ref a) (a::F)
 |own{l:List PV}{a:Addr}{vs:List Value}{n:Nat}{F:List Addr}: h.get? a=some (bn vs n)→bf h l vs F→(a::F).Nodup→VR h (.own l) (.ref a) (a::F)
 |dct{l:List (Str×Int×PV)}{a:Addr}{es:List HP}{n:Nat}{F:List Addr}: h.get? a=some (bH es n)→eG h l es F→(a::F).Nodup→VR h (.dct l) (.ref a) (a::F)
 |hdr{l:List (Str×Str)}{a:Addr}{F:List Addr}: kJ h l a F→VR h (.hdr l) (.ref a) F
 |lex{pb:List Str}{rest:List Nat}{ln:Int}{a:Addr}{F:List Addr}: kG h pb rest ln a F→VR h (.lex pb rest ln) (.ref a) F
 |inst{C:Addr}{l:List (Str×Int×PV)}{a d:Addr}{es:List HP}{n:Nat}{F:List Addr}: h.get? a=some { cls:=.ref C,dict:=some d }→h.get? d=some (bH es n)→eG h l es F→(a::d::F).Nodup→VR h (.inst C l) (.ref a) (a::d::F)
 |cit{a it bm:Addr}{t:Tok}: h.get? it=some { cls:=.type "callable_iterator",data:=.fields #[.ref bm,.str (H5 "") t,.bool false] }→h.get? bm=some { cls:=.type "method",data:=.fields #[.ref 59,.ref a] }→it≠bm→VR h (.cit a) (.ref it) [it,bm]
 |citE{it:Addr}: h.get? it=some { cls:=.type "callable_iterator",data:=.fields #[.none,.none,.bool true] }→VR h .citE (.ref it) [it]
inductive bf(h:Heap): List PV→List Value→List Addr→Prop
 |nil:bf h [] [] []
 |cons{p:PV}{v:Value}{F:List Addr}{ps:List PV}{vs:List Value}{G:List Addr}: VR h p v F→bf h ps vs G→bf h (p::ps) (v::vs) (F++G)
inductive eG(h:Heap): List (Str×Int×PV)→List HP→List Addr→Prop
 |nil:eG h [] [] []
 |cons{x:Str}{p:PV}{hs:Int}{t:Tok}{v:Value}{F:List Addr}{ps:List (Str×Int×PV)}{es:List HP}{G:List Addr}: VR h p v F→eG h ps es G→eG h ((x,hs,p)::ps) (⟨hs,.str x t,v⟩::es) (F++G)
end
theorem vO.kept{W:List Addr}{h h':Heap}(k:aj W h h'){p:Str×Str}{v:Value}(x:vO h p v): vO h' p v:=
 let⟨a,t,u,n,e,g⟩:=x;⟨a,t,u,n,e,k.keep a _ g (.inr rfl)⟩
theorem Pairs.kept{W:List Addr}{h h':Heap}(k:aj W h h'): ∀{ps:List (Str×Str)} {vs:List Value},Pairs h ps vs→Pairs h' ps vs:=by
 intro l1
 induction l1 with
 |nil=>
  intro l2
  cases l2 with
  |nil=>
   rintro _
   exact trivial
  |cons=>intro z0;first | exact HY z0 | exact nomatch z0
 |cons e1 t1 ih=>
  intro l2
  cases l2 with
  |nil=>intro z0;first | exact HY z0 | exact nomatch z0
  |cons e2 t2=>
   rintro x
   exact⟨x.1.kept k,ih x.2⟩
theorem kJ.kept{W:List Addr}{h h':Heap}(k:aj W h h'){l:List (Str×Str)}{a:Addr}{F:List Addr}(x:kJ h l a F)(hd:∀ b∈F,b∉W): kJ h' l a F:=by
 obtain⟨d,l,hs,t,n,vs,m,rfl,nd,e1,e2,e3,ps⟩:=x
 exact⟨d,l,hs,t,n,vs,m,rfl,nd,k.keep _ _ e1 (.inl (hd _ (by simp))),k.keep _ _ e2 (.inl (hd _ (by simp))),k.keep _ _ e3 (.inl (hd _ (by simp))),ps.kept k⟩
theorem kG.kept{W:List Addr}{h h':Heap}(k:aj W h h'){pb:List Str}{rest:List Nat}{ln:Int}{a:Addr}{F:List Addr}(x:kG h pb rest ln a F)(hd:∀ b∈F,b∉W): kG h' pb rest ln a F:=by
 obtain⟨d,lp,b,e,lf,c,r,cd,vs,m,ws,q,rfl,nd,e1,⟨h1,t1,u1,h2,t2,h3,t3,u3,h4,t4,n,e2⟩,e3,e4,e5,⟨es,n',e6,e7⟩,⟨pm,ctv,oc,us,t,e8,e9,e9',e9''⟩,e10,e11,e12⟩:=x
 have g {b:Addr} {o:Obj} (e:h.get? b=some o) (hw:b∉W):h'.get? b=some o:=k.keep _ _ e (.inl hw)
 exact⟨d,lp,b,e,lf,c,r,cd,vs,m,ws,q,rfl,nd,g e1 (hd _ (HH (i:=0) rfl)),⟨h1,t1,u1,h2,t2,h3,t3,u3,h4,t4,n,g e2 (hd _ (HH (i:=1) rfl))⟩,g e3 (hd _ (HH (i:=2) rfl)),e4,
  g e5 (hd _ (HH (i:=3) rfl)),⟨es,n',g e6 (hd _ (HH (i:=4) rfl)),e7⟩,⟨pm,ctv,oc,us,t,g e8 (hd _ (HH (i:=5) rfl)),g e9 (hd _ (HH (i:=8) rfl)),e9',e9''⟩,(let⟨oc',q1,q2⟩:=e10;⟨oc',g q1 (hd _ (HH (i:=6) rfl)),q2⟩),g e11 (hd _ (HH (i:=7) rfl)),e12⟩
theorem VR.ind{h:Heap}{m1:PV→Value→List Addr→Prop}{m2:List PV→List Value→List Addr→Prop}{m3:List (Str×Int×PV)→List HP→List Addr→Prop}
  (a1:m1 .none .none []) (a2:∀ b,m1 (.bool b) (.bool b) []) (a3:∀ i t,m1 (.int i) (.int i t) []) (a4:∀ s t,m1 (.str s) (.str s t) []) (a5:∀ v,m1 (.val v) v [])
  (a6:∀{l a vs n F},h.get? a=some (pG vs n)→bf h l vs F→F.Nodup→m2 l vs F→m1 (.tup l) (.ref a) F)
  (a7:∀{l a vs n F},h.get? a=some (bn vs n)→bf h l vs F→(a::F).Nodup→m2 l vs F→m1 (.lst l) (.ref a) (a::F))
  (a8:∀{l a vs n F},h.get? a=some (bn vs n)→bf h l vs F→(a::F).Nodup→m2 l vs F→m1 (.own l) (.ref a) (a::F))
  (a9:∀{l a es n F},h.get? a=some (bH es n)→eG h l es F→(a::F).Nodup→m3 l es F→m1 (.dct l) (.ref a) (a::F))
  (a10:∀{l a F},kJ h l a F→m1 (.hdr l) (.ref a) F) (a11:∀{pb rest ln a F},kG h pb rest ln a F→m1 (.lex pb rest ln) (.ref a) F)
  (a12:∀{C l a d es n F},h.get? a=some { cls:=.ref C,dict:=some d }→h.get? d=some (bH es n)→eG h l es F→(a::d::F).Nodup→m3 l es F→m1 (.inst C l) (.ref a) (a::d::F))
  (a13:∀{a it bm:Addr} {t:Tok},h.get? it=some { cls:=.type "callable_iterator",data:=.fields #[.ref bm,.str (H5 "") t,.bool false] }→h.get? bm=some { cls:=.type "method",data:=.fields #[.ref 59,.ref a] }→it≠bm→m1 (.cit a) (.ref it) [it,bm])
  (a14:∀{it:Addr},h.get? it=some { cls:=.type "callable_iterator",data:=.fields #[.none,.none,.bool true] }→m1 .citE (.ref it) [it])
  (b1:m2 [] [] []) (b2:∀{p v F ps vs G},VR h p v F→bf h ps vs G→m1 p v F→m2 ps vs G→m2 (p::ps) (v::vs) (F++G))
  (c1:m3 [] [] []) (c2:∀{x p hs t v F ps es G},VR h p v F→eG h ps es G→m1 p v F→m3 ps es G→m3 ((x,hs,p)::ps) (⟨hs,.str x t,v⟩::es) (F++G)):
  (∀{p v F},VR h p v F→m1 p v F)∧(∀{p v F},bf h p v F→m2 p v F)∧∀{p v F},eG h p v F→m3 p v F:=
 ⟨fun x=>VR.rec (motive_1:=fun p v F _=>m1 p v F) (motive_2:=fun p v F _=>m2 p v F) (motive_3:=fun p v F _=>m3 p v F) a1 a2 a3 a4 a5 a6 a7 a8 a9 a10 a11 a12 a13 a14 b1 b2 c1 c2 x,
  fun x=>bf.rec (motive_1:=fun p v F _=>m1 p v F) (motive_2:=fun p v F _=>m2 p v F) (motive_3:=fun p v F _=>m3 p v F) a1 a2 a3 a4 a5 a6 a7 a8 a9 a10 a11 a12 a13 a14 b1 b2 c1 c2 x,
  fun x=>eG.rec (motive_1:=fun p v F _=>m1 p v F) (motive_2:=fun p v F _=>m2 p v F) (motive_3:=fun p v F _=>m3 p v F) a1 a2 a3 a4 a5 a6 a7 a8 a9 a10 a11 a12 a13 a14 b1 b2 c1 c2 x⟩
theorem bf.ind{h:Heap}{motive:(l:List PV)→(vs:List Value)→(F:List Addr)→bf h l vs F→Prop}(nil:motive [] [] [] .nil)(cons:∀{p v F ps vs G} x y,motive ps vs G y→motive (p::ps) (v::vs) (F++G) (.cons x y)){l:List PV}{vs:List Value}{F:List Addr}(z:bf h l vs F): motive l vs F z:=by
 apply bf.rec (motive_1:=fun _ _ _ _=>True) (motive_2:=motive) (motive_3:=fun _ _ _ _=>True) <;> intros <;> first | trivial | exact nil | exact cons (by assumption) (by assumption) (by assumption)
theorem eG.ind{h:Heap}{motive:(l:List (Str×Int×PV))→(es:List HP)→(F:List Addr)→eG h l es F→Prop}(nil:motive [] [] [] .nil)(cons:∀{x p hs t v F ps es G} a b,motive ps es G b→motive ((x,hs,p)::ps) (⟨hs,.str x t,v⟩::es) (F++G) (.cons a b)){l:List (Str×Int×PV)}{es:List HP}{F:List Addr}(z:eG h l es F): motive l es F z:=by
 apply eG.rec (motive_1:=fun _ _ _ _=>True) (motive_2:=fun _ _ _ _=>True) (motive_3:=motive) <;> intros <;> first | trivial | exact nil | exact cons (by assumption) (by assumption) (by assumption)
theorem og{W:List Addr}{h h':Heap}(k:aj W h h'): (∀{p v F},VR h p v F→(∀ b∈F,b∉W)→VR h' p v F)∧(∀{p v F},bf h p v F→(∀ b∈F,b∉W)→bf h' p v F)∧∀{p v F},eG h p v F→(∀ b∈F,b∉W)→eG h' p v F:=
 VR.ind (fun _=>.none) (fun b _=>.bool b) (fun i t _=>.int i t) (fun s t _=>.str s t) (fun v _=>.val v)
  (fun e _ nd ih hd=>.tup (k.keep _ _ e (.inr rfl)) (ih hd) nd)
  (fun e _ nd ih hd=>.lst (k.keep _ _ e (.inl (hd _ (.head _)))) (ih fun b hb=>hd b (.tail _ hb)) nd)
  (fun e _ nd ih hd=>.own (k.keep _ _ e (.inl (hd _ (.head _)))) (ih fun b hb=>hd b (.tail _ hb)) nd)
  (fun e _ nd ih hd=>.dct (k.keep _ _ e (.inl (hd _ (.head _)))) (ih fun b hb=>hd b (.tail _ hb)) nd)
  (fun x hd=>.hdr (x.kept k hd)) (fun x hd=>.lex (x.kept k hd))
  (fun e1 e2 _ nd ih hd=>.inst (k.keep _ _ e1 (.inl (hd _ (.head _)))) (k.keep _ _ e2 (.inl (hd _ (.tail _ (.head _))))) (ih fun b hb=>hd b (.tail _ (.tail _ hb))) nd)
  (fun e1 e2 n hd=>.cit (k.keep _ _ e1 (.inl (hd _ (.head _)))) (k.keep _ _ e2 (.inl (hd _ (.tail _ (.head _))))) n)
  (fun e1 hd=>.citE (k.keep _ _ e1 (.inl (hd _ (.head _)))))
  (fun _=>.nil) (fun _ _ i j hd=>.cons (i fun b hb=>hd b (H8 _ hb)) (j fun b hb=>hd b (Hb _ hb)))
  (fun _=>.nil) (fun _ _ i j hd=>.cons (i fun b hb=>hd b (H8 _ hb)) (j fun b hb=>hd b (Hb _ hb)))
theorem VR.kept{W:List Addr}{h h':Heap}(k:aj W h h'){p:PV}{v:Value}{F:List Addr}(x:VR h p v F)(hd:∀ b∈F,b∉W): VR h' p v F:=(og k).1 x hd
theorem bf.kept{W:List Addr}{h h':Heap}(k:aj W h h'){p:List PV}{v:List Value}{F:List Addr}(x:bf h p v F)(hd:∀ b∈F,b∉W): bf h' p v F:=(og k).2.1 x hd
theorem eG.kept{W:List Addr}{h h':Heap}(k:aj W h h'){p:List (Str×Int×PV)}{v:List HP}{F:List Addr}(x:eG h p v F)(hd:∀ b∈F,b∉W): eG h' p v F:=(og k).2.2 x hd
theorem VR.nodup{h:Heap}{p:PV}{v:Value}{F:List Addr}(x:VR h p v F): F.Nodup:=by
 induction x using VR.casesOn with
 |tup _ _ nd=>exact nd
 |lst _ _ nd=>exact nd
 |own _ _ nd=>exact nd
 |dct _ _ nd=>exact nd
 |hdr y=>obtain⟨_,_,_,_,_,_,_,_,nd,_⟩:=y;exact nd
 |lex y=>obtain⟨_,_,_,_,_,_,_,_,_,_,_,_,_,nd,_⟩:=y;exact nd
 |inst _ _ _ nd=>exact nd
 |cit _ _ n=>simpa using n
 |citE _=>simp
 |_=>exact Ls
theorem VR.kept0{h h':Heap}(k:aj [] h h'){p:PV}{v:Value}{F:List Addr}(x:VR h p v F): VR h' p v F:=x.kept k fun _ _ m=>(nomatch m)
theorem bf.kept0{h h':Heap}(k:aj [] h h'){p:List PV}{v:List Value}{F:List Addr}(x:bf h p v F): bf h' p v F:=x.kept k fun _ _ m=>(nomatch m)
section
variable{h:Heap}{v:Value}{F:List Addr}
noncomputable def VR.I(h:Heap)(v:Value)(F:List Addr): PV→Prop
 | .none=>v=.none∧F=[]
 | .bool b=>v=.bool b∧F=[]
 | .int i=>∃ t,v=.int i t∧F=[]
 | .str s=>∃ t,v=.str s t∧F=[]
 | .val u=>v=u∧F=[]
 | .tup l=>∃ a vs n,v=.ref a∧h.get? a=some (pG vs n)∧bf h l vs F∧F.Nodup
 | .lst l=>∃ a vs n G,v=.ref a∧F=a::G∧h.get? a=some (bn vs n)∧bf h l vs G∧(a::G).Nodup
 | .own l=>∃ a vs n G,v=.ref a∧F=a::G∧h.get? a=some (bn vs n)∧bf h l vs G∧(a::G).Nodup
 | .dct l=>∃ a es n G,v=.ref a∧F=a::G∧h.get? a=some (bH es n)∧eG h l es G∧(a::G).Nodup
 | .hdr l=>∃ a,v=.ref a∧kJ h l a F
 | .lex pb r n=>∃ a,v=.ref a∧kG h pb r n a F
 | .inst C l=>∃ a d es n G,v=.ref a∧F=a::d::G∧h.get? a=some { cls:=.ref C,dict:=some d }∧h.get? d=some (bH es n)∧eG h l es G∧(a::d::G).Nodup
 | .cit a=>∃ it bm t,v=.ref it∧F=[it,bm]∧h.get? it=some { cls:=.type "callable_iterator",data:=.fields #[.ref bm,.str (H5 "") t,.bool false] }∧h.get? bm=some { cls:=.type "method",data:=.fields #[.ref 59,.ref a] }∧it≠bm
 | .citE=>∃ it,v=.ref it∧F=[it]∧h.get? it=some { cls:=.type "callable_iterator",data:=.fields #[.none,.none,.bool true] }
theorem VR.inv{p:PV}(z:VR h p v F): VR.I h v F p:=by
 induction z using VR.casesOn with
 |none=>exact⟨rfl,rfl⟩
 |bool=>exact⟨rfl,rfl⟩
 |int=>exact⟨_,rfl,rfl⟩
 |str=>exact⟨_,rfl,rfl⟩
 |val=>exact⟨rfl,rfl⟩
 |tup a b c=>exact⟨_,_,_,rfl,a,b,c⟩
 |lst a b c=>exact⟨_,_,_,_,rfl,rfl,a,b,c⟩
 |own a b c=>exact⟨_,_,_,_,rfl,rfl,a,b,c⟩
 |dct a b c=>exact⟨_,_,_,_,rfl,rfl,a,b,c⟩
 |hdr a=>exact⟨_,rfl,a⟩
 |lex a=>exact⟨_,rfl,a⟩
 |inst a b c d=>exact⟨_,_,_,_,_,rfl,rfl,a,b,c,d⟩
 |cit a b c=>exact⟨_,_,_,rfl,rfl,a,b,c⟩
 |citE a=>exact⟨_,rfl,rfl,a⟩
theorem VR.cnone{motive:(v:Value)→(F:List Addr)→VR h .none v F→Prop}(none:motive .none [] .none)(z:VR h .none v F): motive v F z:=by obtain⟨rfl,rfl⟩:=z.inv;exact none
theorem VR.cbool{b:Bool}{motive:(v:Value)→(F:List Addr)→VR h (.bool b) v F→Prop}(bool:∀ _:Bool,motive (.bool b) [] (.bool b))(z:VR h (.bool b) v F): motive v F z:=by obtain⟨rfl,rfl⟩:=z.inv;exact bool b
theorem VR.cint{i:Int}{motive:(v:Value)→(F:List Addr)→VR h (.int i) v F→Prop}(int:∀(_:Int) t,motive (.int i t) [] (.int i t))(z:VR h (.int i) v F): motive v F z:=by obtain⟨_,rfl,rfl⟩:=z.inv;exact int i _
theorem VR.cstr{x:Str}{motive:(v:Value)→(F:List Addr)→VR h (.str x) v F→Prop}(str:∀(_:Str) t,motive (.str x t) [] (.str x t))(z:VR h (.str x) v F): motive v F z:=by obtain⟨_,rfl,rfl⟩:=z.inv;exact str x _
theorem VR.cval{u:Value}{motive:(v:Value)→(F:List Addr)→VR h (.val u) v F→Prop}(val:∀ _:Value,motive u [] (.val u))(z:VR h (.val u) v F): motive v F z:=by obtain⟨rfl,rfl⟩:=z.inv;exact val .none
theorem VR.ctup{l:List PV}{motive:(v:Value)→(F:List Addr)→VR h (.tup l) v F→Prop}(tup:∀{_:List PV} {a vs n F} e x nd,motive (.ref a) F (.tup (l:=l) (vs:=vs) (n:=n) e x nd))(z:VR h (.tup l) v F): motive v F z:=by obtain⟨_,_,_,rfl,_,_,_⟩:=z.inv;exact @tup [] _ _ _ _ (by assumption) (by assumption) (by assumption)
theorem VR.clst{l:List PV}{motive:(v:Value)→(F:List Addr)→VR h (.lst l) v F→Prop}(lst:∀{_:List PV} {a vs n F} e x nd,motive (.ref a) (a::F) (.lst (l:=l) (vs:=vs) (n:=n) e x nd))(z:VR h (.lst l) v F): motive v F z:=by obtain⟨_,_,_,_,rfl,rfl,_,_,_⟩:=z.inv;exact @lst [] _ _ _ _ (by assumption) (by assumption) (by assumption)
theorem VR.cown{l:List PV}{motive:(v:Value)→(F:List Addr)→VR h (.own l) v F→Prop}(own:∀{_:List PV} {a vs n F} e x nd,motive (.ref a) (a::F) (.own (l:=l) (vs:=vs) (n:=n) e x nd))(z:VR h (.own l) v F): motive v F z:=by obtain⟨_,_,_,_,rfl,rfl,_,_,_⟩:=z.inv;exact @own [] _ _ _ _ (by assumption) (by assumption) (by assumption)
theorem VR.cdct{l:List (Str×Int×PV)}{motive:(v:Value)→(F:List Addr)→VR h (.dct l) v F→Prop}(dct:∀{_:List (Str×Int×PV)} {a es n F} e x nd,motive (.ref a) (a::F) (.dct (l:=l) (es:=es) (n:=n) e x nd))(z:VR h (.dct l) v F): motive v F z:=by obtain⟨_,_,_,_,rfl,rfl,_,_,_⟩:=z.inv;exact @dct [] _ _ _ _ (by assumption) (by assumption) (by assumption)
theorem VR.chdr{l:List (Str×Str)}{motive:(v:Value)→(F:List Addr)→VR h (.hdr l) v F→Prop}(hdr:∀{_:List (Str×Str)} {a F} x,motive (.ref a) F (.hdr (l:=l) x))(z:VR h (.hdr l) v F): motive v F z:=by obtain⟨_,rfl,_⟩:=z.inv;exact @hdr [] _ _ (by assumption)
theorem VR.clex{pb:List Str}{rest:List Nat}{ln:Int}{motive:(v:Value)→(F:List Addr)→VR h (.lex pb rest ln) v F→Prop}(lex:∀{_:List Str} {_:List Nat} {_:Int} {a F} x,motive (.ref a) F (.lex (pb:=pb) (rest:=rest) (ln:=ln) x))(z:VR h (.lex pb rest ln) v F): motive v F z:=by obtain⟨_,rfl,_⟩:=z.inv;exact @lex [] [] 0 _ _ (by assumption)
theorem VR.cinst{C:Addr}{l:List (Str×Int×PV)}{motive:(v:Value)→(F:List Addr)→VR h (.inst C l) v F→Prop}(inst:∀{_:Addr} {_:List (Str×Int×PV)} {a d es n F} e1 e2 x nd,motive (.ref a) (a::d::F) (.inst (C:=C) (l:=l) (es:=es) (n:=n) e1 e2 x nd))(z:VR h (.inst C l) v F): motive v F z:=by obtain⟨_,_,_,_,_,rfl,rfl,_,_,_,_⟩:=z.inv;exact @inst 0 [] _ _ _ _ _ (by assumption) (by assumption) (by assumption) (by assumption)
theorem VR.ccit{a:Addr}{motive:(v:Value)→(F:List Addr)→VR h (.cit a) v F→Prop}(cit:∀{_ it bm:Addr} {t:Tok} e1 e2 n,motive (.ref it) [it,bm] (.cit (a:=a) (t:=t) e1 e2 n))(z:VR h (.cit a) v F): motive v F z:=by obtain⟨_,_,_,rfl,rfl,_,_,_⟩:=z.inv;exact @cit 0 _ _ _ (by assumption) (by assumption) (by assumption)
theorem VR.ccitE{motive:(v:Value)→(F:List Addr)→VR h .citE v F→Prop}(citE:∀{it:Addr} e,motive (.ref it) [it] (.citE e))(z:VR h .citE v F): motive v F z:=by obtain⟨_,rfl,rfl,_⟩:=z.inv;exact citE (by assumption)
theorem bf.cnil{vs:List Value}{motive:(v:List Value)→(F:List Addr)→bf h [] v F→Prop}(nil:motive [] [] .nil)(z:bf h [] vs F): motive vs F z:=by cases(z);exact nil
theorem bf.ccons{p:PV}{ps:List PV}{vs:List Value}{motive:(v:List Value)→(F:List Addr)→bf h (p::ps) v F→Prop}(cons:∀{_:PV} {v F} {_:List PV} {vs G} x y,motive (v::vs) (F++G) (.cons (p:=p) (ps:=ps) x y))(z:bf h (p::ps) vs F): motive vs F z:=by cases(z);exact @cons .none _ _ [] _ _ (by assumption) (by assumption)
theorem eG.cnil{es:List HP}{motive:(v:List HP)→(F:List Addr)→eG h [] v F→Prop}(nil:motive [] [] .nil)(z:eG h [] es F): motive es F z:=by cases(z);exact nil
theorem eG.ccons{x:Str}{p:PV}{hs:Int}{ps:List (Str×Int×PV)}{es:List HP}{motive:(v:List HP)→(F:List Addr)→eG h ((x,hs,p)::ps) v F→Prop}(cons:∀{_:Str} {_:PV} {_:Int} {t v F} {_:List (Str×Int×PV)} {es G} a b,motive (⟨hs,.str x t,v⟩::es) (F++G) (.cons (x:=x) (p:=p) (hs:=hs) (ps:=ps) a b))(z:eG h ((x,hs,p)::ps) es F): motive es F z:=by cases(z);exact @cons x .none 0 _ _ _ [] _ _ (by assumption) (by assumption)
end
end
open Lean in
local macro_rules (kind:=Lean.Parser.Tactic.cases)|s=>H0 s
section
theorem dE{α:Type}{x:Str}{v:α}: ∀{l:List (Str×α)},l.lookup x=some v→(x,v)∈l:=by
 intro l
 induction l with
 |nil=>
  rintro e
  cases e
 |cons e9 r ih=>
  obtain⟨y,u⟩:=e9
  rintro e
  rw[HA]at e
  cases hy:x==y with
  |true=>rw[hy]at e;cases e;obtain rfl:=KW hy;exact .head _
  |false=>rw[hy]at e;exact .tail _ (ih e)
noncomputable def At(h:Heap)(env:Env)(m:Str→Option Value)(x:Str)(v:Value): Prop:=
 (env.kindOf x=some .local∧m x=some v)∨((env.kindOf x=some .cell∨env.kindOf x=some .free)∧∃ c,env.cells.lookup x=some c∧h.IsCell c (some v))
noncomputable def bO(h:Heap)(env:Env)(m:Str→Option Value): List (Str×PV)→List (List Addr)→Prop
 |[],[]=>True
 | (x,p)::r,F::Fs=>(∃ v,At h env m x v∧VR h p v F)∧bO h env m r Fs
 |_,_=>False
structure dO(h:Heap)(env:Env)(locs:List (Str×PV))(Fs:List (List Addr)): Prop where
 kind:env.scope.kind=.function
 glob:env.globals=IB
 blt:env.builtins=Ji
 vars:∃ m,h.Ns env.locals m∧bO h env m locs Fs
structure G(gt:List (Str×Value))(K:List (Addr×Obj))(h:Heap): Prop where
 low:348≤h.objs.size
 nolimit:h.NoLimit
 nodigits:∃ mc,h.Ns cStatics mc∧mc "sys.int_max_str_digits" = none
 glob:∃ mg,h.Ns IB mg∧∀ x,(∀ v,gt.lookup x=some v→mg x=some v)∧((Iz x).isSome=true→Ml.contains x=false→mg x=none)
 blt:∃ mb,h.Ns Ji mb∧∀ x:Str,x≠"__name__"→mb x=Iz x
 tab:∀ p∈K,h.get? p.1=some p.2
theorem bc{W:List Addr}{h h':Heap}(k:aj W h h'){a:Addr}{m:Str→Option Value}(x:h.Ns a m)(ha:a∉W): h'.Ns a m:=
 let⟨o,es,ep,e,r⟩:=x;⟨o,es,ep,k.keep _ _ e (.inl ha),r⟩
theorem G.kept{gt:List (Str×Value)}{K:List (Addr×Obj)}{W:List Addr}{h h':Heap}(g:G gt K h)(k:aj W h h')(hw:∀ b∈W,348≤b)(hK:∀ p∈K,p.1<348): G gt K h':=by
 have no {a:Addr} (ha:a<348):a∉W:=fun m=>absurd ha (Hz.mpr (hw a m))
 refine⟨H6 g.low k.size,?_,?_,?_,?_,fun p hp=>k.keep _ _ (g.tab p hp) (.inl (no (hK p hp)))⟩
 ·obtain⟨mc,a,b⟩:=g.nolimit;exact⟨mc,bc k a (no (by decide)),b⟩
 ·obtain⟨mc,a,b⟩:=g.nodigits;exact⟨mc,bc k a (no (by decide)),b⟩
 ·obtain⟨mc,a,b⟩:=g.glob;exact⟨mc,bc k a (no (by decide)),b⟩
 ·obtain⟨mc,a,b⟩:=g.blt;exact⟨mc,bc k a (no (by decide)),b⟩
theorem G.kept0{gt:List (Str×Value)}{K:List (Addr×Obj)}{h h':Heap}(g:G gt K h)(k:aj [] h h'): G gt K h':=by
 refine⟨H6 g.low k.size,?_,?_,?_,?_,fun p hp=>k.get (g.tab p hp)⟩
 ·obtain⟨mc,a,b⟩:=g.nolimit;exact⟨mc,bc k a (by simp),b⟩
 ·obtain⟨mc,a,b⟩:=g.nodigits;exact⟨mc,bc k a (by simp),b⟩
 ·obtain⟨mc,a,b⟩:=g.glob;exact⟨mc,bc k a (by simp),b⟩
 ·obtain⟨mc,a,b⟩:=g.blt;exact⟨mc,bc k a (by simp),b⟩
theorem bq{W:List Addr}{h h':Heap}(k:aj W h h'){a:Addr}{v:Option Value}(x:h.IsCell a v)(ha:a∉W): h'.IsCell a v:=
 let⟨o,e,r⟩:=x;⟨o,k.keep _ _ e (.inl ha),r⟩
theorem At.kept{W:List Addr}{h h':Heap}(k:aj W h h'){env:Env}{m:Str→Option Value}{x:Str}{v:Value}(hc:∀ p∈env.cells,p.2∉W): At h env m x v→At h' env m x v
 | .inl a=>.inl a
 | .inr ⟨a,c,e,i⟩=>.inr ⟨a,c,e,bq k i (by
   exact hc _ (dE e))⟩
theorem bO.ind{h:Heap}{env:Env}{m:Str→Option Value}{motive:(l:List (Str×PV))→(F:List (List Addr))→bO h env m l F→Prop}(nil:motive [] [] trivial)
  (cons:∀{x p r F Fs} v a z V,motive r Fs V→motive ((x,p)::r) (F::Fs) ⟨⟨v,a,z⟩,V⟩) {l:List (Str×PV)} {F:List (List Addr)} (V:bO h env m l F):motive l F V:=by
 induction l generalizing F with
 |nil=>cases F with
  |nil=>exact nil
  |cons=>exact V.elim
 |cons e r ih=>cases F with
  |nil=>exact V.elim
  |cons=>exact cons (p:=e.2) V.1.choose V.1.choose_spec.1 V.1.choose_spec.2 V.2 (ih V.2)
theorem bO.kept{W:List Addr}{h h':Heap}(k:aj W h h'){env:Env}{m:Str→Option Value}(hc:∀ p∈env.cells,p.2∉W){locs:List (Str×PV)}{Fs:List (List Addr)}(V:bO h env m locs Fs): (∀ F∈Fs,∀ b∈F,b∉W)→bO h' env m locs Fs:=by
 induction V using bO.ind with
 |nil=>exact fun _=>trivial
 |cons v a x _ ih=>exact fun hd=>⟨⟨v,a.kept k hc,x.kept k (hd _ (.head _))⟩,ih fun F hF=>hd F (.tail _ hF)⟩
theorem dO.kept{W:List Addr}{h h':Heap}(k:aj W h h'){env:Env}{locs:List (Str×PV)}{Fs:List (List Addr)}(x:dO h env locs Fs)(hL:env.locals∉W)(hc:∀ p∈env.cells,p.2∉W)(hF:∀ F∈Fs,∀ b∈F,b∉W): dO h' env locs Fs:=
 let⟨m,n,v⟩:=x.vars;⟨x.kind,x.glob,x.blt,m,bc k n hL,v.kept k hc hF⟩
theorem dO.kept0{h h':Heap}(k:aj [] h h'){env:Env}{locs:List (Str×PV)}{Fs:List (List Addr)}(x:dO h env locs Fs): dO h' env locs Fs:=
 x.kept k (by simp) (by simp) (by simp)
inductive mn(r:PV)(fr:Bool)(s:Shared)(v:Value)(s':Shared): Prop
 |mk(k:aG [] s s')(F:List Addr)(z:VR s'.heap r v F)(f:fr=true→∀ b∈F,s.heap.objs.size≤b)
noncomputable abbrev Pw(w:World)(A:Around)(t:Sem Value)(r:PV)(fr:Bool)(s:Shared): Prop:=
 wpAny (model pw w) A t (mn r fr s) (fun _ _=>False) s
section
variable{gt:List (Str×Value)}{K:List (Addr×Obj)}{w:World}{A:Around}{env:Env}{locs:List (Str×PV)}
structure Ev(gt:List (Str×Value))(K:List (Addr×Obj))(w:World)(A:Around)(env:Env)(locs:List (Str×PV))(e:Expr)(r:PV)(fr:Bool): Prop where
 run:∀ s Fs,G gt K s.heap→dO s.heap env locs Fs→Pw w A (eval e env) r fr s
theorem Pw.andThen{α:Type}{t:Sem α}{Q:α→Shared→Prop}{s:Shared}{R:α→Shared→Prop}(h:wpAny (model pw w) A t R (fun _ _=>False) s)(hR:∀ a s',R a s'→Q a s'): wpAny (model pw w) A t Q (fun _ _=>False) s:=
 Hf h hR fun _ _ x=>x
theorem Ev.int(i:Int)(k:Nat)(pos:Pos): Ev gt K w A env locs (.Constant (.int i) k pos) (.int i) true:=.mk fun s Fs g x=>
 wpAny_Constant_int ⟨aG.ofToks,[],.int _ _,fun _ _ hb=>(nomatch hb)⟩
theorem Ev.str(i:Str)(k:Nat)(pos:Pos): Ev gt K w A env locs (.Constant (.str i) k pos) (.str i) true:=.mk fun s Fs g x=>
 Constant_str ⟨aG.ofToks,[],.str _ _,fun _ _ hb=>(nomatch hb)⟩
theorem Ev.bool(b:Bool)(k:Nat)(pos:Pos): Ev gt K w A env locs (.Constant (.bool b) k pos) (.bool b) true:=.mk fun s Fs g x=>
 Hi (M:=model pw w) (A:=A) ⟨aG.refl _ _,[],.bool _,fun _ _ hb=>(nomatch hb)⟩
theorem Ev.none(k:Nat)(pos:Pos): Ev gt K w A env locs (.Constant .none k pos) .none true:=.mk fun s Fs g x=>
 Hi (M:=model pw w) (A:=A) ⟨aG.refl _ _,[],.none,fun _ _ hb=>(nomatch hb)⟩
noncomputable def PV.flat:PV→Bool
 | .none | .bool _ | .int _ | .str _ | .val _=>true
 | .tup l=>go l
 |_=>false
where go:List PV→Bool
 |[]=>true
 |p::r=>p.flat&&go r
theorem GO{p:PV}{l:List PV}(h:p.flat=true)(t:PV.flat.go l=true): PV.flat.go (p::l)=true:=(KX _ _).mpr ⟨h,t⟩
theorem td{h:Heap}: (∀{p v F},VR h p v F→p.flat=true→F=[])∧(∀{p v F},bf h p v F→PV.flat.go p=true→F=[])∧∀{p v F},eG h p v F→True:=
 VR.ind (fun _=>rfl) (fun _ _=>rfl) (fun _ _ _=>rfl) (fun _ _ _=>rfl) (fun _ _=>rfl) (fun _ _ _ ih hf=>ih hf)
  (fun _ _ _ _ hf=>nomatch (show false=true from hf)) (fun _ _ _ _ hf=>nomatch (show false=true from hf)) (fun _ _ _ _ hf=>nomatch (show false=true from hf)) (fun _ hf=>nomatch (show false=true from hf)) (fun _ hf=>nomatch (show false=true from hf))
  (fun _ _ _ _ _ hf=>nomatch (show false=true from hf)) (fun _ _ _ hf=>nomatch (show false=true from hf)) (fun _ hf=>nomatch (show false=true from hf))
  (fun _=>rfl) (fun _ _ i j hf=>by obtain hf:=L8.mp hf;rw[i hf.1,j hf.2];rfl) trivial (fun _ _ _ _=>trivial)
theorem VR.flat{h:Heap}{p:PV}{v:Value}{F:List Addr}(x:VR h p v F)(e:p.flat=true): F=[]:=td.1 x e
theorem bf.flat{h:Heap}{p:List PV}{v:List Value}{F:List Addr}(x:bf h p v F)(e:PV.flat.go p=true): F=[]:=td.2.1 x e
theorem bO.find{h:Heap}{m:Str→Option Value}{x:Str}{p:PV}{locs:List (Str×PV)}{Fs:List (List Addr)}(V:bO h env m locs Fs): locs.lookup x=some p→∃ v F,F∈Fs∧At h env m x v∧VR h p v F:=by
 induction V using bO.ind with
 |nil=>nofun
 | @cons y q r F Fs v a z _ ih=>
  intro e
  rw[HA]at e
  cases hy:x==y with
  |true=>
   rw[hy]at e;cases e
   obtain rfl:=KW hy
   exact⟨v,F,.head _,a,z⟩
  |false=>
   rw[hy]at e
   obtain⟨v',F',hm,r⟩:=ih e
   exact⟨v',F',.tail _ hm,r⟩
noncomputable def PV.seen:PV→PV
 | .own l=>.lst l
 |p=>p
theorem VR.seen{h:Heap}{p:PV}{v:Value}{F:List Addr}(x:VR h p v F): VR h p.seen v F:=by
 cases p with
 |own l=>cases x with | own e y nd=>exact .lst e y nd
 |_=>exact x
theorem Ev.local{x:Str}{pos:Pos}{p:PV}{r:PV}{f:Bool}(hl:locs.lookup x=some p)(hr:p.seen=r)(hf:p.flat=f)(hd:(x==("__debug__":Str))=false)(hcd:(x==("__classdict__":Str))=false): Ev gt K w A env locs (.Name x pos) r f:=.mk fun s Fs g r=>by
 subst hr hf
 obtain⟨m,n,V⟩:=r.vars
 obtain⟨v,F,_,a,z⟩:=V.find hl
 have fin:mn p.seen p.flat s v s:=⟨aG.refl _ _,F,z.seen,fun hf b hb=>by rw[z.flat hf]at hb;cases hb⟩
 rcases a with⟨k,e⟩ | ⟨k | k,c,ec,ic⟩
 ·exact Lu (L9 r.kind k n e fin) hd
 ·exact Lu (Le r.kind k ec ic fin) hd
 ·exact Lu (Lf r.kind k ec ic fin hcd) hd
theorem Ev.global{x:Str}{pos:Pos}{v:Value}(hk:env.kindOf x=some .globalImplicit)(hl:gt.lookup x=some v)(hd:(x==("__debug__":Str))=false): Ev gt K w A env locs (.Name x pos) (.val v) true:=.mk fun s Fs g r=>by
 obtain⟨mg,n,f⟩:=g.glob
 exact Name_function_global r.kind hk (loadGlobal_global (by rw[r.glob];exact n) ((f x).1 v hl) ⟨aG.refl _ _,[],.val _,fun _ _ hb=>(nomatch hb)⟩) hd
theorem Ev.globalI{x:Str}{pos:Pos}{i:Int}{t:Tok}(hk:env.kindOf x=some .globalImplicit)(hl:gt.lookup x=some (.int i t))(hd:(x==("__debug__":Str))=false): Ev gt K w A env locs (.Name x pos) (.int i) true:=.mk fun s Fs g r=>
 Pw.andThen ((Ev.global (K:=K) (A:=A) (locs:=locs) hk hl hd).run s Fs g r) fun v s' ⟨k,F,z,fr⟩=>by cases z;exact⟨k,[],.int _ _,fr⟩
theorem Ev.globalS{x:Str}{pos:Pos}{i:Str}{t:Tok}(hk:env.kindOf x=some .globalImplicit)(hl:gt.lookup x=some (.str i t))(hd:(x==("__debug__":Str))=false): Ev gt K w A env locs (.Name x pos) (.str i) true:=.mk fun s Fs g r=>
 Pw.andThen ((Ev.global (K:=K) (A:=A) (locs:=locs) hk hl hd).run s Fs g r) fun v s' ⟨k,F,z,fr⟩=>by cases z;exact⟨k,[],.str _ _,fr⟩
theorem Ev.builtin{x:Str}{pos:Pos}{v:Value}(hk:env.kindOf x=some .globalImplicit)(hl:Iz x=some v)(hn:Ml.contains x=false)(hd:(x==("__debug__":Str))=false): Ev gt K w A env locs (.Name x pos) (.val v) true:=.mk fun s Fs g r=>by
 obtain⟨mg,n,f⟩:=g.glob
 obtain⟨mb,n',f'⟩:=g.blt
 obtain hx:x≠"__name__":=by rintro rfl;exact absurd hn (by decide +kernel)
 exact Name_function_global r.kind hk (loadGlobal_builtin (by rw[r.glob];exact n) ((f x).2 (by rw[hl];rfl) hn) (by rw[r.blt];exact n') ((f' x hx).trans hl) ⟨aG.refl _ _,[],.val _,fun _ _ hb=>(nomatch hb)⟩) hd
structure fi(w:World)(A:Around)(op:Operator)(p q r:PV)(fr:Bool): Prop where
 run:∀ s a b F H,VR s.heap p a F→VR s.heap q b H→Pw w A (binaryOp op a b) r fr s
theorem Ev.binop{l r:Expr}{op:Operator}{pos:Pos}{p q z:PV}{f1 f2 fr:Bool}(h1:Ev gt K w A env locs l p f1)(h2:Ev gt K w A env locs r q f2)(ho:fi w A op p q z fr):
  Ev gt K w A env locs (.BinOp l op r pos) z fr:=.mk fun s Fs g x=>
 wpAny_BinOp (Pw.andThen (h1.run s Fs g x) fun a s₁ ⟨k1,F1,v1,_⟩=>Pw.andThen (h2.run s₁ Fs (g.kept0 k1.heap) (x.kept0 k1.heap)) fun b s₂ ⟨k2,F2,v2,_⟩=>
  Pw.andThen (ho.run s₂ a b F1 F2 (v1.kept0 k2.heap) v2) fun c s₃ ⟨k3,F3,v3,fr3⟩=>⟨(k1.trans k2).trans k3,F3,v3,fun e b hb=>H6 (H6 k1.heap.size k2.heap.size) (fr3 e b hb)⟩)
theorem zw{s:Shared}{i:Int}{t tk:Nat}{fr:Bool}: mn (.int i) fr s (MT i t) { s with toks:=tk }:=
 ⟨aG.ofToks,[],.int _ _,fun _ _ hb=>(nomatch hb)⟩
theorem DZ{s:Shared}{i:Str}{t tk:Nat}{fr:Bool}: mn (.str i) fr s (N8 i t) { s with toks:=tk }:=
 ⟨aG.ofToks,[],.str _ _,fun _ _ hb=>(nomatch hb)⟩
theorem GT{s:Shared}{i:Bool}{fr:Bool}: mn (.bool i) fr s (Value.bool i) s:=
 ⟨aG.refl _ _,[],.bool _,fun _ _ hb=>(nomatch hb)⟩
theorem fi.add(i j:Int): fi w A .Add (.int i) (.int j) (.int (i+j)) true:=by
 constructor;intro s a b F H xA xB;cases xA;cases xB;exact add_int zw
theorem fi.sub(i j:Int): fi w A .Sub (.int i) (.int j) (.int (i - j)) true:=by
 constructor;intro s a b F H xA xB;cases xA;cases xB;exact sub_int' zw
theorem fi.mul{i j:Int}(hm:JU i j): fi w A .Mult (.int i) (.int j) (.int (i*j)) true:=by
 constructor;intro s a b F H xA xB;cases xA;cases xB;exact mul_int zw hm
theorem fi.mod{i j:Int}(hj:j≠0): fi w A .Mod (.int i) (.int j) (.int (i.fmod j)) true:=by
 constructor;intro s a b F H xA xB;cases xA;cases xB;exact mod_int' hj zw
theorem fi.cat{x y:Str}(hz:x.length+y.length≤Ip): fi w A .Add (.str x) (.str y) (.str (x++y)) true:=by
 constructor;intro s a b F H xA xB;cases xA;cases xB;exact add_str (fun _ _=>DZ) hz
end
end
section
section
variable{gt:List (Str×Value)}{K:List (Addr×Obj)}{w:World}{A:Around}{env:Env}{locs:List (Str×PV)}
theorem fi.floordiv{i j:Int}(hj:j≠0)(hp:JV i j=false): fi w A .FloorDiv (.int i) (.int j) (.int (i.fdiv j)) true:=by
 constructor;intro s a b F H xA xB;cases xA;cases xB;exact floordiv_int hj zw (.inl hp)
structure cz(w:World)(A:Around)(op:CmpOp)(p q:PV)(r:Bool): Prop where
 run:∀ s a b F H,VR s.heap p a F→VR s.heap q b H→wpAny (model pw w) A (compareOp op a b) (fun v s'=>v=.bool r∧aG [] s s') (fun _ _=>False) s
theorem cz.eqI(i j:Int): cz w A .Eq (.int i) (.int j) (i==j):=by constructor;intro s a b F H xA xB;cases xA;cases xB;exact eq_int ⟨rfl,.refl _ _⟩
theorem cz.neI(i j:Int): cz w A .NotEq (.int i) (.int j) (i != j):=by constructor;intro s a b F H xA xB;cases xA;cases xB;exact ne_int ⟨rfl,.refl _ _⟩
theorem cz.ltI(i j:Int): cz w A .Lt (.int i) (.int j) (decide (i<j)):=by constructor;intro s a b F H xA xB;cases xA;cases xB;exact lt_int ⟨rfl,.refl _ _⟩
theorem cz.leI(i j:Int): cz w A .LtE (.int i) (.int j) (decide (i≤j)):=by constructor;intro s a b F H xA xB;cases xA;cases xB;exact le_int ⟨rfl,.refl _ _⟩
theorem cz.geI(i j:Int): cz w A .GtE (.int i) (.int j) (decide (j≤i)):=by constructor;intro s a b F H xA xB;cases xA;cases xB;exact ge_int ⟨rfl,.refl _ _⟩
theorem cz.eqS(x y:Str): cz w A .Eq (.str x) (.str y) (x==y):=by constructor;intro s a b F H xA xB;cases xA;cases xB;exact eq_str ⟨rfl,.refl _ _⟩
theorem cz.neS(x y:Str): cz w A .NotEq (.str x) (.str y) (x != y):=by constructor;intro s a b F H xA xB;cases xA;cases xB;exact ne_str ⟨rfl,.refl _ _⟩
noncomputable def inS(y x:Str): Bool:=!(IA x y 0 x.length 1).isEmpty
theorem cz.inS(x y:Str): cz w A .In (.str y) (.str x) (inS y x):=by constructor;intro s a b F H xA xB;cases xA;cases xB;exact in_str ⟨rfl,.refl _ _⟩
theorem cz.notInS(x y:Str): cz w A .NotIn (.str y) (.str x) (!(Internal.inS y x)):=by constructor;intro s a b F H xA xB;cases xA;cases xB;exact notIn_str ⟨rfl,.refl _ _⟩
theorem Ev.cmp{l r:Expr}{op:CmpOp}{pos:Pos}{p q:PV}{f1 f2 b:Bool}(h1:Ev gt K w A env locs l p f1)(h2:Ev gt K w A env locs r q f2)(ho:cz w A op p q b)(hm:behindInMarks op r=false):
  Ev gt K w A env locs (.Compare l [op] [r] pos) (.bool b) true:=.mk fun s Fs g x=>
 wpAny_Compare1 (Pw.andThen (h1.run s Fs g x) fun a s₁ ⟨k1,F1,v1,_⟩=>Pw.andThen (h2.run s₁ Fs (g.kept0 k1.heap) (x.kept0 k1.heap)) fun b' s₂ ⟨k2,F2,v2,_⟩=>
  Pw.andThen (ho.run s₂ a b' F1 F2 (v1.kept0 k2.heap) v2) fun c s₃ ⟨e,k3⟩=>⟨(k1.trans k2).trans k3,[],by subst e;exact .bool _,fun _ _ hb=>(nomatch hb)⟩) hm
structure Tr(gt:List (Str×Value))(K:List (Addr×Obj))(w:World)(A:Around)(env:Env)(locs:List (Str×PV))(e:Expr)(b:Bool): Prop where
 run:∀ s Fs,G gt K s.heap→dO s.heap env locs Fs→wpAny (model pw w) A (isTrue e env (eval e env)) (fun b' s'=>b'=b∧aG [] s s') (fun _ _=>False) s
theorem Tr.cmp{l r:Expr}{op:CmpOp}{pos:Pos}{p q:PV}{f1 f2 b:Bool}(h1:Ev gt K w A env locs l p f1)(h2:Ev gt K w A env locs r q f2)(ho:cz w A op p q b)(hm:behindInMarks op r=false):
  Tr gt K w A env locs (.Compare l [op] [r] pos) b:=.mk fun s Fs g x=>
 wpAny_isTrue_Compare1 (Pw.andThen (h1.run s Fs g x) fun a s₁ ⟨k1,F1,v1,_⟩=>Pw.andThen (h2.run s₁ Fs (g.kept0 k1.heap) (x.kept0 k1.heap)) fun b' s₂ ⟨k2,F2,v2,_⟩=>
  Pw.andThen (ho.run s₂ a b' F1 F2 (v1.kept0 k2.heap) v2) fun c s₃ ⟨e,k3⟩=>by subst e;exact LM ⟨rfl,(k1.trans k2).trans k3⟩) hm
theorem Tr.bool{e:Expr}{b f:Bool}(h:Ev gt K w A env locs e (.bool b) f)(he:isTrue e env (eval e env)=(do let v ←eval e env;standAt e.pos;holding [v] (truthy v))): Tr gt K w A env locs e b:=.mk fun s Fs g x=>
 Kv (Pw.andThen (h.run s Fs g x) fun a s₁ ⟨k1,F1,v1,_⟩=>by cases v1;exact LM ⟨rfl,k1⟩) he
structure mI(gt:List (Str×Value))(K:List (Addr×Obj))(w:World)(A:Around)(env:Env)(locs:List (Str×PV))(op:BoolOp)(es:List Expr)(b:Bool): Prop where
 run:∀ s Fs,G gt K s.heap→dO s.heap env locs Fs→wpAny (model pw w) A (allTrue op es env) (fun b' s'=>b'=b∧aG [] s s') (fun _ _=>False) s
theorem mI.and0:mI gt K w A env locs .And [] true:=.mk fun s Fs g x=>wpAny_allTrue_And_nil ⟨rfl,.refl _ _⟩
theorem mI.or0:mI gt K w A env locs .Or [] false:=.mk fun s Fs g x=>wpAny_allTrue_Or_nil ⟨rfl,.refl _ _⟩
theorem mI.and{e:Expr}{es:List Expr}{a b:Bool}(h1:Tr gt K w A env locs e a)(h2:a=true→mI gt K w A env locs .And es b): mI gt K w A env locs .And (e::es) (a&&b):=.mk fun s Fs g x=>
 wpAny_allTrue_And_cons (Pw.andThen (h1.run s Fs g x) fun b' s' hh=>by
  obtain⟨e,k⟩:=hh
  subst e
  cases b' with
  |false=>exact⟨rfl,k⟩
  |true=>exact Pw.andThen ((h2 rfl).run s' Fs (g.kept0 k.heap) (x.kept0 k.heap)) fun c s'' ⟨e,k'⟩=>⟨e,k.trans k'⟩)
theorem mI.or{e:Expr}{es:List Expr}{a b:Bool}(h1:Tr gt K w A env locs e a)(h2:a=false→mI gt K w A env locs .Or es b): mI gt K w A env locs .Or (e::es) (a||b):=.mk fun s Fs g x=>
 wpAny_allTrue_Or_cons (Pw.andThen (h1.run s Fs g x) fun b' s' hh=>by
  obtain⟨e,k⟩:=hh
  subst e
  cases b' with
  |true=>exact⟨rfl,k⟩
  |false=>exact Pw.andThen ((h2 rfl).run s' Fs (g.kept0 k.heap) (x.kept0 k.heap)) fun c s'' ⟨e,k'⟩=>⟨e,k.trans k'⟩)
theorem mI.andK{e:Expr}{es:List Expr}{a b:Bool}(h1:Tr gt K w A env locs e a)(h2:mI gt K w A env locs .And es b): mI gt K w A env locs .And (e::es) (a&&b):=.and h1 fun _=>h2
theorem mI.orK{e:Expr}{es:List Expr}{a b:Bool}(h1:Tr gt K w A env locs e a)(h2:mI gt K w A env locs .Or es b): mI gt K w A env locs .Or (e::es) (a||b):=.or h1 fun _=>h2
theorem Tr.many{op:BoolOp}{es:List Expr}{pos:Pos}{b:Bool}(h:mI gt K w A env locs op es b): Tr gt K w A env locs (.BoolOp op es pos) b:=.mk fun s Fs g x=>
 wpAny_isTrue_BoolOp (h.run s Fs g x)
theorem Ev.ifexp{t b o:Expr}{pos:Pos}{c:Bool}{r:PV}{f:Bool}(ht:Tr gt K w A env locs t c)(hb:c=true→Ev gt K w A env locs b r f)(ho:c=false→Ev gt K w A env locs o r f): Ev gt K w A env locs (.IfExp t b o pos) r f:=.mk fun s Fs g x=>
 wpAny_IfExp (Pw.andThen (ht.run s Fs g x) fun c' s' hh=>by
  obtain⟨e,k⟩:=hh
  subst e
  cases c' with
  |true=>exact Pw.andThen ((hb rfl).run s' Fs (g.kept0 k.heap) (x.kept0 k.heap)) fun c s'' ⟨k',F,v,fr⟩=>⟨k.trans k',F,v,fun e b hb=>H6 k.heap.size (fr e b hb)⟩
  |false=>exact Pw.andThen ((ho rfl).run s' Fs (g.kept0 k.heap) (x.kept0 k.heap)) fun c s'' ⟨k',F,v,fr⟩=>⟨k.trans k',F,v,fun e b hb=>H6 k.heap.size (fr e b hb)⟩)
theorem Ev.neg{e:Expr}{pos:Pos}{i:Int}{f:Bool}(h:Ev gt K w A env locs e (.int i) f): Ev gt K w A env locs (.UnaryOp .USub e pos) (.int (-i)) true:=.mk fun s Fs g x=>
 wpAny_UnaryOp (Pw.andThen (h.run s Fs g x) fun v s' ⟨k,F,x,_⟩=>by cases x;exact neg_int ⟨k.trans .ofToks,[],.int _ _,fun _ _ hb=>(nomatch hb)⟩)
inductive DN(rs:List PV)(fr:Bool)(s:Shared)(vs:List Value)(s':Shared): Prop
 |mk(k:aG [] s s')(F:List Addr)(z:bf s'.heap rs vs F)(f:fr=true→∀ b∈F,s.heap.objs.size≤b)
structure bG(gt:List (Str×Value))(K:List (Addr×Obj))(w:World)(A:Around)(env:Env)(locs:List (Str×PV))(es:List Expr)(rs:List PV)(fr:Bool): Prop where
 run:∀ s Fs pos,G gt K s.heap→dO s.heap env locs Fs→wpAny (model pw w) A (spliced (backTo pos (Hg es env))) (DN rs fr s) (fun _ _=>False) s
theorem bG.nil:bG gt K w A env locs [] [] true:=.mk fun s Fs pos g x=>spliced_none ⟨.refl _ _,[],.nil,fun _ _ hb=>(nomatch hb)⟩
theorem bG.cons{e:Expr}{es:List Expr}{r:PV}{rs:List PV}{f1 f2:Bool}(h1:Ev gt K w A env locs e r f1)(h2:bG gt K w A env locs es rs f2)(he:Hg (e::es) env=(false,eval e env)::Hg es env): bG gt K w A env locs (e::es) (r::rs) (f1&&f2):=.mk fun s Fs pos g x=>
 Mm (Pw.andThen (h1.run s Fs g x) fun v s₁ ⟨k1,F1,v1,fr1⟩=>Pw.andThen (h2.run s₁ Fs pos (g.kept0 k1.heap) (x.kept0 k1.heap)) fun vs s₂ ⟨k2,F2,v2,fr2⟩=>
  ⟨k1.trans k2,F1++F2,.cons (v1.kept0 k2.heap) v2,fun e b hb=>by
   simp only[KX]at e
   rcases H9.mp hb with hb | hb
   ·exact fr1 e.1 b hb
   ·exact H6 k1.heap.size (fr2 e.2 b hb)⟩) he
theorem bf.length{h:Heap}{p:List PV}{v:List Value}{F:List Addr}(z:bf h p v F): v.length=p.length:=by
 induction z using bf.ind with
 |nil=>rfl
 |cons _ _ ih=>exact congrArg (· + 1) ih
theorem bS(s:Shared)(o:Obj): aG [] s { s with heap:=s.heap.push o }:=⟨aj.push _ _,fun _ _ e=>e,id,rfl⟩
theorem Ev.tuple{es:List Expr}{k:Nat}{pos:Pos}{rs:List PV}{f:Bool}(h:bG gt K w A env locs es rs f)(hl:rs.length≤Ip)(hf:PV.flat.go rs=true): Ev gt K w A env locs (.Tuple es k pos) (.tup rs) true:=.mk fun s Fs g x=>
 Lg (Pw.andThen (h.run s Fs pos g x) fun vs s' ⟨k,F,v,fr⟩=>⟨by rw[v.length];exact hl,by
  obtain rfl:=v.flat hf
  exact⟨k.trans (bS _ _),[],.tup (n:=0) (Hk _ rfl) (v.kept0 (aj.push _ _)) .nil,fun _ _ hb=>(nomatch hb)⟩⟩)
theorem Ev.list{es:List Expr}{pos:Pos}{rs:List PV}{f:Bool}(h:bG gt K w A env locs es rs f)(hl:rs.length≤Ip)(hf:PV.flat.go rs=true): Ev gt K w A env locs (.List es pos) (.lst rs) true:=.mk fun s Fs g x=>
 wpAny_List_spliced (Pw.andThen (h.run s Fs pos g x) fun vs s' ⟨k,F,v,fr⟩=>⟨by rw[v.length];exact hl,by
  obtain rfl:=v.flat hf
  exact⟨k.trans (bS _ _),[s'.heap.objs.size],.lst (n:=0) (Hk _ rfl) (v.kept0 (aj.push _ _)) (by simp),fun e b hb=>by
   simp only[Ha,Hs,or_false]at hb
   subst hb
   exact k.heap.size⟩⟩)
end
end
section
section
variable{gt:List (Str×Value)}{K:List (Addr×Obj)}{w:World}{A:Around}{env:Env}{locs:List (Str×PV)}
structure Sub(w:World)(A:Around)(p q r:PV)(fr:Bool): Prop where
 run:∀ s a b F H,VR s.heap p a F→VR s.heap q b H→(∃ T id,s.TypeIs a T∧typeLookup (.type T) "__getitem__" = pure (some (.builtin id)))∧Pw w A (getItem a b) r fr s
theorem Ev.sub{v i:Expr}{pos:Pos}{p q z:PV}{f1 f2 fr:Bool}(h1:Ev gt K w A env locs v p f1)(h2:Ev gt K w A env locs i q f2)(ho:Sub w A p q z fr)
  (hs:∀ o j,∃ ops,MF i false o j=operate ops (getItem o j)):Ev gt K w A env locs (.Subscript v i pos) z fr:=.mk fun s Fs g x=>
 Mn (Pw.andThen (h1.run s Fs g x) fun a s₁ ⟨k1,F1,v1,_⟩=>Pw.andThen (h2.run s₁ Fs (g.kept0 k1.heap) (x.kept0 k1.heap)) fun b s₂ hh=>by
  obtain⟨k2,F2,v2,_⟩:=hh
  obtain⟨⟨T,id,hT,hl⟩,hw⟩:=ho.run s₂ a b F1 F2 (v1.kept0 k2.heap) v2
  obtain⟨ops,hs⟩:=hs a b
  exact tail_any hT hl (Pw.andThen hw fun c s₃ ⟨k3,F3,v3,fr3⟩=>⟨(k1.trans k2).trans k3,F3,v3,fun e b hb=>H6 (H6 k1.heap.size k2.heap.size) (fr3 e b hb)⟩) hs)
theorem Sub.str{x:Str}{i:Int}{c:Nat}(hr:(decide (i < -(2 ^ 63:Int))||decide (i≥2 ^ 63))=false)(hc:(seqIndex? i x.length).bind (x.cps[·]?)=some c): Sub w A (.str x) (.int i) (.str ⟨#[c]⟩) true:=by
 constructor;intro s a b F H xA xB;cases xA;cases xB
 exact⟨⟨"str",_,Lv s x _,slot_str_getitem.lookup⟩,getItem_str hr hc DZ⟩
theorem bf.get{h:Heap}{l:List PV}{vs:List Value}{F:List Addr}{j:Nat}{p:PV}(z:bf h l vs F)(e:l[j]? = some p): ∃ v H,vs[j]? = some v∧VR h p v H∧∀ b∈H,b∈F:=by
 induction z using bf.ind generalizing j with
 |nil=>cases e
 |cons x y ih=>cases j with
  |zero=>cases e;exact⟨_,_,rfl,x,fun b hb=>H8 _ hb⟩
  |succ j=>
   obtain⟨v,H,a,b,c⟩:=ih e
   exact⟨v,H,a,b,fun b hb=>Hb _ (c b hb)⟩
theorem Sub.tup{l:List PV}{i:Int}{j:Nat}{p:PV}(hlo:-(2 ^ 63)≤i)(hhi:i<2 ^ 63)(hj:seqIndex? i l.length=some j)(hp:l[j]? = some p)(hf:p.flat=true): Sub w A (.tup l) (.int i) p true:=by
 constructor;intro s a b F H x y
 cases x with
 | @tup _ _ vs n _ e z _=>
  cases y
  obtain⟨v,H',hv,zv,_⟩:=z.get hp
  obtain ht:IsTup s.heap _ vs.toArray:=⟨_,e,rfl,n,rfl⟩
  refine⟨⟨"tuple",_,ht.typeIs,slot_tuple_getitem.lookup⟩,?_⟩
  exact getItem_tuple ht hlo hhi (by simpa[z.length]using hj) (by simpa using hv) ⟨.refl _ _,H',zv,fun _ b hb=>by rw[zv.flat hf]at hb;cases hb⟩
theorem Sub.lst{l:List PV}{i:Int}{p:PV}(h0:0≤i)(hhi:i<2 ^ 63)(hp:l[i.toNat]? = some p)(hf:p.flat=true): Sub w A (.lst l) (.int i) p true:=by
 constructor;intro s a b F H x y
 cases x with
 | @lst _ _ vs n _ e z _=>
  cases y
  obtain⟨v,H',hv,zv,_⟩:=z.get hp
  obtain ht:s.heap.IsList _ vs.toArray:=⟨_,e,rfl,n,rfl⟩
  refine⟨⟨"list",_,ht.typeIs,LN.lookup⟩,?_⟩
  exact wpAny_getItem_list ht h0 hhi (by simpa using hv) ⟨.refl _ _,H',zv,fun _ b hb=>by rw[zv.flat hf]at hb;cases hb⟩
inductive vN(gt:List (Str×Value))(K:List (Addr×Obj))(w:World)(A:Around)(env:Env)(locs:List (Str×PV)): Option Expr→Option Int→Prop
 |none:vN gt K w A env locs none none
 |some{e:Expr}{i:Int}{f:Bool}: Ev gt K w A env locs e (.int i) f→vN gt K w A env locs (some e) (some i)
theorem vN.run{e:Option Expr}{i:Option Int}(p:vN gt K w A env locs e i): ∀ s Fs,G gt K s.heap→dO s.heap env locs Fs→
  wpAny (model pw w) A (evalPart e env) (fun v s'=>aG [] s s'∧∃ l:Option (Int×Tok),v=partValue l∧l.map (·.1)=i) (fun _ _=>False) s:=fun s Fs g x=>by
 cases p with
 |none=>exact Hi ⟨.refl _ _,Option.none,rfl,rfl⟩
 |some h=>exact Pw.andThen (h.run s Fs g x) fun v s' ⟨k,F,y,_⟩=>by cases y;exact⟨k,Option.some (_,_),rfl,rfl⟩
noncomputable def BQ(n:Nat)(i:Int): Nat:=(max 0 (min (if i<0 then i+n else i) n)).toNat
theorem qZ(n:Nat)(i:Int): (BQ n i:Int)=max 0 (min (if i<0 then i+n else i) n):=Int.toNat_of_nonneg (Int.le_max_left _ _)
theorem yE(n:Nat)(i:Int): BQ n i≤n:=Int.toNat_le.mpr (Int.max_le.mpr ⟨JP _,Int.min_le_right _ _⟩)
theorem jf{n k:Nat}(h:k≤n): BQ n (k:Int)=k:=by
 unfold BQ
 rw[if_neg (Int.not_lt.mpr (JP k)),Int.min_eq_left (N0.mpr h),M4 (JP k)];rfl
theorem AY{n:Nat}: BQ (n+1) (-1)=n:=by
 obtain e:(-1:Int)+((n+1:Nat):Int)=(n:Int):=by rw[Int.natCast_succ,Int.add_comm,Int.add_neg_cancel_right]
 unfold BQ
 rw[if_pos (by decide),e,Int.min_eq_left (N0.mpr (J0 n)),M4 (JP n)];rfl
noncomputable def By(l:Option Int)(n:Nat): Nat:=l.elim 0 (BQ n)
noncomputable def EX(u:Option Int)(n:Nat): Nat:=u.elim n (BQ n)
theorem rV(u:Option Int)(n:Nat): EX u n≤n:=by
 cases u with
 |none=>exact Hw _
 |some i=>exact yE n i
theorem xi(u:Option Int)(n:Nat): By u n≤n:=by
 cases u with
 |none=>exact HT _
 |some i=>exact yE n i
theorem mZ(l u:Option Int)(n:Nat): Jm l u 1 n=(Ix (EX u n - By l n)).map fun k=>By l n+k:=by
 obtain key:∀ a b:Nat,Mo (a:Int) (b:Int) 1=(Ix (b - a)).map fun k=>a+k:=by
  intro a b
  simp only[Mo,show((1:Int) > 0)=True from by simp,if_true]
  by_cases hlt:(a:Int)<b
  ·have e3:(((b:Int) - a+1 - 1) / 1).toNat=b - a:=by rw[Int.add_sub_cancel,Int.ediv_one,Int.toNat_sub]
   simp only[hlt,if_true,e3]
   refine Lh fun k _=>?_
   omega
  ·have:b - a=0:=KU (N0.mp (Int.not_lt.mp hlt))
   simp[hlt,this]
 rw[←key]
 skip
 have e1:(match l with | none=>(0:Int) | some i=>max 0 (min (if i<0 then i+n else i) n))=(By l n:Int):=by
  cases l with
  |none=>rfl
  |some i=>exact(qZ n i).symm
 have e2:(match u with | none=>(n:Int) | some i=>max 0 (min (if i<0 then i+n else i) n))=(EX u n:Int):=by
  cases u with
  |none=>rfl
  |some i=>exact(qZ n i).symm
 rw[←e1,←e2]
 cases l <;> cases u <;> rfl
noncomputable def aM(x:Str)(l u:Option Int): Str:=⟨((x.cps.toList.drop (By l x.length)).take (EX u x.length - By l x.length)).toArray⟩
theorem mx(x:Str)(l u:Option Int): (⟨((Jm l u 1 x.length).filterMap (x.cps[·]?)).toArray⟩:Str)=aM x l u:=by
 unfold aM
 rw[mZ]
 obtain e:(fun k:Nat=>x.cps[k]?)=fun k=>x.cps.toList[k]?:=by funext k;simp
 obtain h1:=rV u x.length
 obtain h2:=xi l x.length
 obtain hl:x.length=x.cps.toList.length:=by simp[J7]
 rw[e,StrLaws.picks _ _ _ (by rw[←hl,HU,Nat.sub_add_eq_max];exact Nat.max_le.mpr ⟨h1,h2⟩)]
theorem ru{x:Str}{l u:Option Int}(h:(Jm l u 1 x.length).length=x.length): aM x l u=x:=by
 rw[mZ]at h
 simp only[Hl,List.length_range]at h
 obtain h1:=rV u x.length
 obtain h2:=xi l x.length
 unfold aM
 have hl:x.length=x.cps.toList.length:=by simp[J7]
 by_cases h0:x.length=0
 ·obtain this:x.cps.toList=[]:=JK (by omega)
  cases x with | mk c=>simp only[Str.mk.injEq];apply Array.ext';simp_all
 ·obtain e1:By l x.length=0:=(Nat.eq_zero_or_pos _).resolve_right fun p=>Hz.mpr h1 (HS (HM h.symm) (Nat.sub_lt (HB (Nat.pos_of_ne_zero h0) (H6 (HM h.symm) (Mp _ _))) p))
  rw[h,e1,List.drop_zero,hl,List.take_length]
theorem Fh{v:Expr}{l u:Option Expr}{p pos:Pos}{x:Str}{i j:Option Int}{f:Bool}(h:Ev gt K w A env locs v (.str x) f)(hl:vN gt K w A env locs l i)(hu:vN gt K w A env locs u j)
  (hz:x.length≤Ip) (ht:∀ o r,MG v o r=pure ()):Ev gt K w A env locs (.Subscript v (.Slice l u none p) pos) (.str (aM x i j)) true:=.mk fun s Fs g z=>
 wpAny_Subscript_str_slice (Pw.andThen (h.run s Fs g z) fun o s₁ ⟨k1,F1,v1,_⟩=>Pw.andThen (hl.run s₁ Fs (g.kept0 k1.heap) (z.kept0 k1.heap)) fun vl s₂ ⟨k2,a,ea,ma⟩=>
  Pw.andThen (hu.run s₂ Fs ((g.kept0 k1.heap).kept0 k2.heap) ((z.kept0 k1.heap).kept0 k2.heap)) fun vu s₃ hh=>by
   obtain⟨k3,b,eb,mb⟩:=hh
   cases v1
   refine⟨x,_,a,b,rfl,ea,eb,?_⟩
   obtain k:=(k1.trans k2).trans k3
   unfold sliceMade slicePicked
   simp only[Option.map_none,Option.getD_none,ma,mb]
   by_cases hc:((1:Int)==1&&(Jm i j 1 x.length).length==x.length)=true
   ·rw[if_pos hc]
    obtain e:aM x i j=x:=ru (by simpa using hc)
    rw[e]
    exact⟨k.trans (bS _ _),[],.str _ _,fun _ _ hb=>(nomatch hb)⟩
   ·rw[if_neg hc,mx]
    refine⟨?_,k.trans ((bS _ _).trans .ofToks),[],.str _ _,fun _ _ hb=>(nomatch hb)⟩
    simp only[Internal.aM,J7,Hx,JC,Kb]
    exact H6 (Nat.min_le_left _ _) (H6 (Mp _ _) (H6 (rV j x.length) hz))) ht
end
end
section
section
variable{gt:List (Str×Value)}{K:List (Addr×Obj)}{w:World}{A:Around}{env:Env}{locs:List (Str×PV)}
noncomputable def eS(K:List (Addr×Obj))(f:Value): Prop:=keeperOf f=pure .machine∨∃ a o fd,f=.ref a∧(a,o)∈K∧o.data=.func fd
theorem bK{f:Value}{h:Heap}(c:eS K f)(g:G gt K h): ∃ k,(k=Keeper.frame∨k=Keeper.machine∨k=Keeper.boundFrame)∧Looks (model pw w) h (keeperOf f) k:=by
 rcases c with e | ⟨a,o,fd,rfl,m,hd⟩
 ·exact⟨.machine,.inr (.inl rfl),HD e⟩
 ·refine⟨.frame,.inl rfl,(Looks.ld (part:=none) (g.tab _ m)).andThen ?_⟩
  rw[hd]
  exact .now
structure au(gt:List (Str×Value))(K:List (Addr×Obj))(w:World)(A:Around)(f:Value)(args:List PV)(r:PV)(fr:Bool): Prop where
 run:∀ s vs F,G gt K s.heap→bf s.heap args vs F→F.Nodup→Pw w A (call f vs) r fr s
theorem c8{x:Str}{np pos:Pos}{e:Expr}{es:List Expr}{f:Value}{rs:List PV}{r:PV}{ff fa fr:Bool}(hf:Ev gt K w A env locs (.Name x np) (.val f) ff)(hc:eS K f)
  (ha:bG gt K w A env locs (e::es) rs fa) (ho:au gt K w A f rs r fr) (hn:∀(h:Heap) vs F,bf h rs vs F→F.Nodup)
  (he:Hg (e::es) env=(false,eval e env)::Hg es env) (hplain:(backTo pos (Hg es env)).any (·.1)=false):
  Ev gt K w A env locs (.Call (.Name x np) (e::es) [] pos) r fr:=.mk fun s Fs g z=>
 It (Pw.andThen (hf.run s Fs g z) fun v s₁ hh=>by
  obtain⟨k1,F1,v1,_⟩:=hh
  cases v1
  obtain h:=ha.run s₁ Fs pos (g.kept0 k1.heap) (z.kept0 k1.heap)
  show wpAny _ _ (IU pos f [] (backTo pos (Hg (e::es) env)) []) _ _ _
  rw[he]at h ⊢
  refine Ik (P:=G gt K) (by show((false||(backTo pos (Hg es env)).any (·.1))||false)=false;rw[hplain];rfl) (fun h' g'=>bK hc g') (HZ (Pw.andThen h fun vs s₂ hh=>?_))
  obtain⟨k2,F2,v2,_⟩:=hh
  obtain g2:=(g.kept0 k1.heap).kept0 k2.heap
  exact⟨g2,Pw.andThen (ho.run s₂ vs F2 g2 v2 (hn _ _ _ v2)) fun r' s₃ ⟨k3,F3,v3,fr3⟩=>⟨(k1.trans k2).trans k3,F3,v3,fun e b hb=>H6 (H6 k1.heap.size k2.heap.size) (fr3 e b hb)⟩⟩)
theorem Cg{rs:List PV}(hf:PV.flat.go rs=true)(h:Heap)(vs:List Value)(F:List Addr)(v:bf h rs vs F): F.Nodup:=by rw[v.flat hf];exact .nil
theorem bR{p:PV}(h:Heap)(vs:List Value)(F:List Addr)(v:bf h [p] vs F): F.Nodup:=by
 cases v with | cons x y=>cases y;rw[Hj];exact x.nodup
theorem nf{p q:PV}(hf:p.flat=true)(h:Heap)(vs:List Value)(F:List Addr)(v:bf h [p,q] vs F): F.Nodup:=by
 cases v with | cons x y=>rw[x.flat hf];exact bR h _ _ y
theorem au.len{x:Str}(hfit:x.length<2 ^ 62): au gt K w A (.builtin "len") [.str x] (.int x.length) true:=by
 constructor;intro s vs F g xA hN;clear hN;cases xA with | cons a b=>
 cases a;cases b
 exact len_str (by omega) ⟨.ofToks,[],.int _ _,fun _ _ hb=>(nomatch hb)⟩
end
end
section
theorem aj.comp{O O':List Addr}{h h1 h2:Heap}(x:aj O h h1)(y:aj O' h1 h2)(hs:∀ b∈O',b∈O∨h.objs.size≤b): aj O h h2:=
 ⟨H6 x.size y.size,fun b o e q=>y.keep b o (x.keep b o e q) (q.imp (fun n m=>(hs b m).elim n fun z=>absurd (Hr e) (Hz.mpr z)) id)⟩
theorem aG.comp{O O':List Addr}{s s1 s2:Shared}(x:aG O s s1)(y:aG O' s1 s2)(hs:∀ b∈O',b∈O∨s.heap.objs.size≤b): aG O s s2:=
 ⟨x.heap.comp y.heap hs,fun i g e=>y.gens i g (x.gens i g e),fun b=>y.bare (x.bare b),y.os.trans x.os⟩
noncomputable def PV.isOwn:PV→Bool
 | .own _ | .hdr _ | .lex .. | .inst .. | .cit _ | .citE=>true
 |_=>false
theorem dg{l:List PV}(h:l.all (fun p=>!p.isOwn)=true): ∀ p∈l,p.isOwn=false:=fun p hp=>(Bool.not_eq_true' _).mp (Kc.mp h p hp)
noncomputable def cU:List (Str×PV)→List (List Addr)→List Addr
 | (_,p)::r,F::Fs=>(if p.isOwn then F else[])++cU r Fs
 |_,_=>[]
noncomputable def ow(env:Env)(locs:List (Str×PV))(Fs:List (List Addr)): List Addr:=env.locals::env.cells.map (·.2)++cU locs Fs
theorem cT:∀{locs:List (Str×PV)} {Fs:List (List Addr)} {b:Addr},b∈cU locs Fs→b∈Fs.flatten
 | (_,p)::r,F::Fs,b,h=>by
  simp only[cU,H9]at h
  simp only[HL,H9]
  rcases h with h | h
  ·left;split at h
   ·exact h
   ·cases h
  ·exact .inr (cT h)
noncomputable def za(h:Heap)(env:Env)(pins:List (Str×Addr)): Prop:=∀ q∈pins,∃ m,h.Ns env.locals m∧m q.1=some (.ref q.2)∧env.kindOf q.1=some .local
structure bw(gt:List (Str×Value))(K:List (Addr×Obj))(pins:List (Str×Addr))(env:Env)(locs:List (Str×PV))(Fs:List (List Addr))(s:Shared): Prop where
 g:G gt K s.heap
 er:dO s.heap env locs Fs
 nd:(env.locals::env.cells.map (·.2)++Fs.flatten).Nodup
 hi:∀ b∈ow env locs Fs,348≤b
 cl:∀ c∈env.cells,∃ v,s.heap.IsCell c.2 v
 keys:(locs.map (·.1)).Nodup
 pin:za s.heap env pins
theorem kJ.lt{h:Heap}{l:List (Str×Str)}{a:Addr}{F:List Addr}(x:kJ h l a F): ∀ b∈F,b<h.objs.size:=by
 obtain⟨d,l,hs,t,n,vs,m,rfl,nd,e1,e2,e3,ps⟩:=x
 intro b hb
 rcases jE hb with rfl | rfl | rfl
 ·exact Hr e1
 ·exact Hr e2
 ·exact Hr e3
theorem Ft{P:Addr→Prop}{a b c d e f g h i:Addr}(p1:P a)(p2:P b)(p3:P c)(p4:P d)(p5:P e)(p6:P f)(p7:P g)(p8:P h)(p9:P i): ∀ x∈[a,b,c,d,e,f,g,h,i],P x:=fun x hx=>by
 rcases Cq hx with e | e | e | e | e | e | e | e | e <;> rw[e] <;> assumption
theorem kG.lt{h:Heap}{pb:List Str}{rest:List Nat}{ln:Int}{a:Addr}{F:List Addr}(x:kG h pb rest ln a F): ∀ b∈F,b<h.objs.size:=by
 obtain⟨d,lp,b,e,lf,c,r,cd,vs,m,ws,q,eF,nd,e1,e2,e3,e4,e5,e6,e7,e8,e9,e10⟩:=x
 obtain⟨h1,t1,u1,h2,t2,h3,t3,u3,h4,t4,n,e2⟩:=e2
 obtain⟨es,n',e6,_⟩:=e6
 obtain⟨pm,ctv,oc,us,t,f8,f9,f9',f9''⟩:=e7
 obtain⟨o,q1,_⟩:=e8
 rw[eF]
 exact Ft (Hr e1) (Hr e2) (Hr e3) (Hr e5) (Hr e6) (Hr f8) (Hr q1) (Hr e9) (Hr f9)
theorem Bg{h:Heap}: (∀{p v F},VR h p v F→∀ b∈F,b<h.objs.size)∧(∀{p v F},bf h p v F→∀ b∈F,b<h.objs.size)∧∀{p v F},eG h p v F→∀ b∈F,b<h.objs.size:=
 have no:∀ b∈([]:List Addr),b<h.objs.size:=fun b hb=>nomatch hb
 have co:∀{a:Addr} {F:List Addr},a<h.objs.size→(∀ b∈F,b<h.objs.size)→∀ b∈a::F,b<h.objs.size:=fun l x=>Jd.mpr ⟨l,x⟩
 have ap:∀{F G:List Addr},(∀ b∈F,b<h.objs.size)→(∀ b∈G,b<h.objs.size)→∀ b∈F++G,b<h.objs.size:=fun x y=>List.forall_mem_append.mpr ⟨x,y⟩
 VR.ind no (fun _=>no) (fun _ _=>no) (fun _ _=>no) (fun _=>no) (fun _ _ _ ih=>ih)
  (fun e _ _ ih=>co (Hr e) ih) (fun e _ _ ih=>co (Hr e) ih) (fun e _ _ ih=>co (Hr e) ih)
  (fun x=>x.lt) (fun x=>x.lt) (fun e1 e2 _ _ ih=>co (Hr e1) (co (Hr e2) ih))
  (fun e1 e2 _=>co (Hr e1) (co (Hr e2) no)) (fun e=>co (Hr e) no)
  no (fun _ _ i j=>ap i j) no (fun _ _ i j=>ap i j)
theorem VR.lt{h:Heap}{p:PV}{v:Value}{F:List Addr}(x:VR h p v F): ∀ b∈F,b<h.objs.size:=Bg.1 x
theorem bf.lt{h:Heap}{p:List PV}{v:List Value}{F:List Addr}(x:bf h p v F): ∀ b∈F,b<h.objs.size:=Bg.2.1 x
theorem bO.lt{h:Heap}{env:Env}{m:Str→Option Value}{locs:List (Str×PV)}{Fs:List (List Addr)}(V:bO h env m locs Fs): ∀ b∈Fs.flatten,b<h.objs.size:=by
 induction V using bO.ind with
 |nil=>nofun
 |cons v a x _ ih=>exact fun b hb=>(H9.mp (by rw[HL]at hb;exact hb)).elim (x.lt b) (ih b)
theorem bw.lt{gt:List (Str×Value)}{K:List (Addr×Obj)}{pins:List (Str×Addr)}{env:Env}{locs:List (Str×PV)}{Fs:List (List Addr)}{s:Shared}(I:bw gt K pins env locs Fs s): ∀ b∈env.locals::env.cells.map (·.2)++Fs.flatten,b<s.heap.objs.size:=by
 intro b hb
 obtain⟨m,n,V⟩:=I.er.vars
 simp only[Hp,Ha,H9,Hm]at hb
 rcases hb with rfl | ⟨c,hc,rfl⟩ | hb
 ·exact n.lt
 ·obtain⟨v,o,e,_⟩:=I.cl c hc;exact Hr e
 ·exact V.lt b hb
theorem bw.step0{gt:List (Str×Value)}{K:List (Addr×Obj)}{pins:List (Str×Addr)}{env:Env}{locs:List (Str×PV)}{Fs:List (List Addr)}{s s':Shared}(I:bw gt K pins env locs Fs s)(k:aG [] s s'): bw gt K pins env locs Fs s':=
 ⟨I.g.kept0 k.heap,I.er.kept0 k.heap,I.nd,I.hi,fun c hc=>let⟨v,i⟩:=I.cl c hc;⟨v,bq k.heap i (by simp)⟩,I.keys,fun q hq=>let⟨m,n,e⟩:=I.pin q hq;⟨m,bc k.heap n (by simp),e⟩⟩
theorem fW{env:Env}{locs:List (Str×PV)}{Fs:List (List Addr)}{b:Addr}(h:b∈ow env locs Fs): b∈env.locals::env.cells.map (·.2)++Fs.flatten:=by
 simp only[ow,Hp,Ha,H9]at h ⊢
 exact h.imp id (fun h=>h.imp id cT)
noncomputable def ab(x:Str)(p:PV): List (Str×PV)→List (Str×PV)
 |[]=>[(x,p)]
 | (y,q)::r=>if y=x then(x,p)::r else(y,q)::ab x p r
noncomputable def dQ(x:Str)(F:List Addr): List (Str×PV)→List (List Addr)→List (List Addr)
 | (y,_)::r,H::Fs=>if y=x then F::Fs else H::dQ x F r Fs
 |_,_=>[F]
theorem jx{x:Str}{p:PV}: ∀{locs:List (Str×PV)},(locs.map (·.1)).Nodup→((ab x p locs).map (·.1)).Nodup∧∀ y,y∈(ab x p locs).map (·.1)→y=x∨y∈locs.map (·.1):=by
 intro locs
 induction locs with
 |nil=>
  rintro _
  simp[ab]
 |cons e9 r ih=>
  obtain⟨y,q⟩:=e9
  rintro h
  simp only[HF,Hu]at h
  unfold ab
  by_cases hy:y=x
  ·rw[if_pos hy]
   subst hy
   exact⟨by simp only[HF,Hu];exact h,fun z hz=>by simpa using hz⟩
  ·rw[if_neg hy]
   obtain⟨a,b⟩:=ih h.2
   refine⟨?_,fun z hz=>?_⟩
   ·simp only[HF,Hu]
    exact⟨fun m=>(b y m).elim hy h.1,a⟩
   ·simp only[HF,Ha]at hz ⊢
    rcases hz with rfl | hz
    ·exact .inr (.inl rfl)
    ·exact(b z hz).imp id .inr
theorem bO.set{h h':Heap}{env:Env}{m m':Str→Option Value}{x:Str}{p:PV}{v:Value}{F:List Addr}(hx:At h' env m' x v)(hv:VR h' p v F)
  (ho:∀ y u,y≠x→At h env m y u→At h' env m' y u) {locs:List (Str×PV)} {Fs:List (List Addr)} (V:bO h env m locs Fs):(locs.map (·.1)).Nodup→(∀ H∈Fs,∀ q u,VR h q u H→VR h' q u H)→bO h' env m' (ab x p locs) (dQ x F locs Fs):=by
 induction V using bO.ind with
 |nil=>exact fun _ _=>⟨⟨v,hx,hv⟩,trivial⟩
 | @cons y q r H Fs u a z V ih=>
  intro nd hk
  simp only[HF,Hu]at nd
  unfold ab dQ
  by_cases hy:y=x
  ·rw[if_pos hy,if_pos hy]
   refine⟨⟨v,hx,hv⟩,?_⟩
   subst hy
   clear hx
   obtain rest:∀{l:List (Str×PV)} {Gs:List (List Addr)},bO h env m l Gs→y∉l.map (·.1)→(∀ H∈Gs,∀ q u,VR h q u H→VR h' q u H)→bO h' env m' l Gs:=by
    intro l
    induction l with
    |nil=>intro Gs V _ _;cases Gs with | nil=>trivial | cons=>exact V.elim
    |cons e l ih=>
     intro Gs V hn hk
     obtain⟨z,q⟩:=e
     cases Gs with
     |nil=>exact V.elim
     |cons H Gs=>
      obtain⟨⟨u,a,b⟩,V⟩:=V
      simp only[HF,Ha,not_or]at hn
      exact⟨⟨u,ho z u (Il hn.1) a,hk H (.head _) q u b⟩,ih V hn.2 fun H hH=>hk H (.tail _ hH)⟩
   exact rest V nd.1 fun H hH=>hk H (.tail _ hH)
  ·rw[if_neg hy,if_neg hy]
   exact⟨⟨u,ho y u hy a,hk H (.head _) q u z⟩,ih nd.2 fun H hH=>hk H (.tail _ hH)⟩
end
section
theorem fD{x:Str}{F:List Addr}: ∀{locs:List (Str×PV)} {Fs:List (List Addr)} {b:Addr},b∈(dQ x F locs Fs).flatten→b∈F∨b∈Fs.flatten
 |[],Fs,b,h=>by simp only[dQ,HL,List.flatten_nil,Hj]at h;exact .inl h
 | (y,q)::r,[],b,h=>by simp only[dQ,HL,List.flatten_nil,Hj]at h;exact .inl h
 | (y,q)::r,H::Fs,b,h=>by
  unfold dQ at h
  by_cases hy:y=x
  ·rw[if_pos hy]at h
   simp only[HL,H9]at h ⊢
   exact h.imp id .inr
  ·rw[if_neg hy]at h
   simp only[HL,H9]at h ⊢
   rcases h with h | h
   ·exact .inr (.inl h)
   ·exact(fD h).imp id .inr
theorem jW{x:Str}{F:List Addr}(hF:F.Nodup): ∀{locs:List (Str×PV)} {Fs:List (List Addr)},Fs.flatten.Nodup→(∀ b∈F,b∉Fs.flatten)→(dQ x F locs Fs).flatten.Nodup
 |[],Fs,_,_=>by simpa[dQ]using hF
 | (y,q)::r,[],_,_=>by simpa[dQ]using hF
 | (y,q)::r,H::Fs,nd,hd=>by
  unfold dQ
  simp only[HL,Hn,H9,not_or]at nd hd
  by_cases hy:y=x
  ·rw[if_pos hy]
   simp only[HL,Hn]
   exact⟨hF,nd.2.1,fun a ha b hb e=>(hd a ha).2 (e▸hb)⟩
  ·rw[if_neg hy]
   simp only[HL,Hn]
   refine⟨nd.1,jW hF nd.2.1 fun b hb=>(hd b hb).2,fun a ha b hb e=>?_⟩
   subst e
   rcases fD hb with hb | hb
   ·exact(hd a hb).1 ha
   ·exact nd.2.2 a ha a hb rfl
theorem qd{x:Str}{p:PV}{F:List Addr}: ∀{locs:List (Str×PV)} {Fs:List (List Addr)} {b:Addr},locs.length=Fs.length→b∈cU (ab x p locs) (dQ x F locs Fs)→(p.isOwn=true∧b∈F)∨b∈cU locs Fs
 |[],Fs,b,_,h=>by
  simp only[ab,dQ,cU,Hj]at h
  split at h
  ·rename_i e;exact .inl ⟨e,h⟩
  ·cases h
 | (y,q)::r,[],b,hl,h=>by cases hl
 | (y,q)::r,H::Fs,b,hl,h=>by
  unfold ab dQ at h
  by_cases hy:y=x
  ·rw[if_pos hy,if_pos hy]at h
   simp only[cU,H9]at h ⊢
   rcases h with h | h
   ·split at h
    ·rename_i e;exact .inl ⟨e,h⟩
    ·cases h
   ·exact .inr (.inr h)
  ·rw[if_neg hy,if_neg hy]at h
   simp only[cU,H9]at h ⊢
   rcases h with h | h
   ·exact .inr (.inl h)
   ·exact(qd (by simpa using hl) h).imp id .inr
theorem bO.length{h:Heap}{env:Env}{m:Str→Option Value}: ∀{locs:List (Str×PV)} {Fs:List (List Addr)},bO h env m locs Fs→locs.length=Fs.length:=by
 intro l1
 induction l1 with
 |nil=>
  intro l2
  cases l2 with
  |nil=>
   rintro _
   exact rfl
  |cons=>intro z0;first | exact HY z0 | exact nomatch z0
 |cons e1 t1 ih=>
  intro l2
  cases l2 with
  |nil=>intro z0;first | exact HY z0 | exact nomatch z0
  |cons e2 t2=>
   obtain⟨_,_⟩:=e1
   rintro⟨_,r⟩
   simp[ih r]
theorem yJ:∀{l:List (Str×Addr)} {x y:Str} {c:Addr},(l.map (·.2)).Nodup→l.lookup x=some c→l.lookup y=some c→x=y:=by
 intro l
 induction l with
 |nil=>
  rintro _ _ _ _ e _
  cases e
 |cons e9 l ih=>
  obtain⟨z,d⟩:=e9
  rintro x y c nd e f
  simp only[HF,Hu]at nd
  rw[HA]at e f
  have no {u:Str} (h:l.lookup u=some d):False:=nd.1 (Hm.mpr ⟨_,dE h,rfl⟩)
  cases hx:x==z with
  |true=>
   rw[hx]at e;cases e
   cases hy:y==z with
   |true=>exact(KW hx).trans (KW hy).symm
   |false=>rw[hy]at f;exact(no f).elim
  |false=>
   rw[hx]at e
   cases hy:y==z with
   |true=>rw[hy]at f;cases f;exact(no e).elim
   |false=>rw[hy]at f;exact ih nd.2 e f
section
variable{gt:List (Str×Value)}{K:List (Addr×Obj)}{pins:List (Str×Addr)}{w:World}{A:Around}{env:Env}{locs:List (Str×PV)}{Fs:List (List Addr)}{s:Shared}
noncomputable def GB(gt:List (Str×Value))(K:List (Addr×Obj))(pins:List (Str×Addr))(env:Env)(locs locs':List (Str×PV))(Fs:List (List Addr))(s s':Shared): Prop:=
 ∃ Fs',bw gt K pins env locs' Fs' s'∧aG (ow env locs Fs) s s'∧∀ b∈ow env locs' Fs',b∈ow env locs Fs∨s.heap.objs.size≤b
theorem fM{x:Str}{p:PV}{v:Value}{F:List Addr}{P:Addr→Prop}(hK:∀ q∈K,q.1<348)(hpin:x∉pins.map (·.1))(I:bw gt K pins env locs Fs s)(hk:env.kindOf x=some .local∨env.kindOf x=some .cell∧(env.cells.lookup x).isSome=true)
  (hv:VR s.heap p v F) (hF:F.Nodup) (hd:∀ b∈F,b∉env.locals::env.cells.map (·.2)++Fs.flatten) (hn:∀ b∈F,P b) (h348:∀ b,P b→348≤b):
  wpAny (model pw w) A (MU env x v) (fun _ s'=>∃ Fs',bw gt K pins env (ab x p locs) Fs' s'∧aG (env.locals::env.cells.map (·.2)) s s'∧(∀ b∈ow env (ab x p locs) Fs',b∈ow env locs Fs∨P b)∧∀ b∈Fs'.flatten,b∈F∨b∈Fs.flatten) (fun _ _=>False) s:=by
 obtain⟨m,N,V⟩:=I.er.vars
 obtain nd:=I.nd
 rw[Hp,Hu,Hn]at nd
 obtain⟨nd1,nd2,nd3,nd4⟩:=nd
 simp only[H9,not_or]at nd1
 have fin:∀ s' m',s'.os=s.os→s'.gens=s.gens→s'.heap.Ns env.locals m'→∀ a,(a=env.locals∨a∈env.cells.map (·.2))→aj [a] s.heap s'.heap→At s'.heap env m' x v→(∀ y u,y≠x→At s.heap env m y u→At s'.heap env m' y u)→(∀ c∈env.cells,∃ v,s'.heap.IsCell c.2 v)→(∀ y,y≠x→m' y=m y)→
   ∃ Fs',bw gt K pins env (ab x p locs) Fs' s'∧aG (env.locals::env.cells.map (·.2)) s s'∧(∀ b∈ow env (ab x p locs) Fs',b∈ow env locs Fs∨P b)∧∀ b∈Fs'.flatten,b∈F∨b∈Fs.flatten:=by
  intro s' m' eo eg N' a ha kp ax ao hc hm'
  have out:∀ H∈Fs,∀ b∈H,b∉[a]:=by
   intro H hH b hb hm
   simp only[Ha,Hs,or_false]at hm
   subst hm
   obtain hb':b∈Fs.flatten:=KY.mpr ⟨H,hH,hb⟩
   rcases ha with rfl | ha
   ·exact nd1.2 hb'
   ·exact nd4 _ ha _ hb' rfl
  have outF:∀ b∈F,b∉[a]:=by
   intro b hb hm
   simp only[Ha,Hs,or_false]at hm
   subst hm
   refine hd b hb ?_
   simp only[Hp,Ha,H9]
   exact ha.imp id .inl
  obtain V':=bO.set ax (hv.kept kp outF) ao V I.keys fun H hH q u z=>z.kept kp (out H hH)
  have hi':∀ b∈ow env (ab x p locs) (dQ x F locs Fs),b∈ow env locs Fs∨P b:=by
   intro b hb
   simp only[ow,Hp,Ha,H9]at hb ⊢
   rcases hb with rfl | hb | hb
   ·exact .inl (.inl rfl)
   ·exact .inl (.inr (.inl hb))
   ·rcases qd V.length hb with⟨_,hb⟩ | hb
    ·exact .inr (hn b hb)
    ·exact .inl (.inr (.inr hb))
  refine⟨dQ x F locs Fs,⟨I.g.kept kp (fun b hb=>?_) hK,⟨I.er.kind,I.er.glob,I.er.blt,m',N',V'⟩,?_,fun b hb=>(hi' b hb).elim (I.hi b) (h348 b),hc,(jx I.keys).1,fun q hq=>?_⟩,⟨kp.mono fun b hb=>?_,fun i g e=>by rw[eg];exact e,fun b=>by rw[eg];exact b,eo⟩,hi',fun b hb=>fD hb⟩
  ·simp only[Ha,Hs,or_false]at hb
   subst hb
   refine I.hi b ?_
   simp only[ow,Hp,Ha,H9]
   exact ha.imp id .inl
  ·rw[Hp,Hu,Hn]
   simp only[H9,not_or]
   simp only[Hp,Ha,H9,not_or]at hd
   refine⟨⟨nd1.1,fun hm=>?_⟩,nd2,jW hF nd3 (fun b hb=>(hd b hb).2.2),fun a ha b hb e=>?_⟩
   ·rcases fD hm with hm | hm
    ·exact(hd _ hm).1 rfl
    ·exact nd1.2 hm
   ·subst e
    rcases fD hb with hb | hb
    ·exact(hd _ hb).2.1 ha
    ·exact nd4 a ha a hb rfl
  ·obtain⟨mq,nq,eq,kq⟩:=I.pin q hq
   obtain hne:q.1≠x:=fun e=>hpin (Hm.mpr ⟨q,hq,e⟩)
   refine⟨m',N',?_,kq⟩
   rw[hm' _ hne]
   obtain⟨o,es,ep,e1,e2,_,e3⟩:=N
   obtain⟨o',es',ep',f1,f2,_,f3⟩:=nq
   rw[e1]at f1;cases f1
   rw[e2]at f2;cases f2
   rw[←e3,f3];exact eq
  ·simp only[Ha,Hs,or_false]at hb
   subst hb
   exact Ha.mpr ha
 rcases hk with hk | ⟨hk,hs⟩
 ·refine wpAny_storeName_local hk N (fun h' hn' hsb=>?_) (by rw[I.er.kind];rfl)
  obtain⟨o,es,ep,eo,ed,_⟩:=id N
  have kp:aj [env.locals] s.heap h':=aj.same eo (by unfold cD;rw[ed]) hsb
  refine fin _ _ rfl rfl hn' _ (.inl rfl) kp (.inl ⟨hk,if_pos rfl⟩) (fun y u hy a=>?_) (fun c hc=>?_) (fun y hy=>if_neg hy)
  ·rcases a with⟨a,b⟩ | ⟨a,c,e,i⟩
   ·exact .inl ⟨a,(if_neg hy).trans b⟩
   ·refine .inr ⟨a,c,e,bq kp i fun hm=>?_⟩
    simp only[Ha,Hs,or_false]at hm
    exact nd1.1 (hm▸Hm.mpr ⟨_,dE e,rfl⟩)
  ·obtain⟨u,i⟩:=I.cl c hc
   refine⟨u,bq kp i fun hm=>?_⟩
   simp only[Ha,Hs,or_false]at hm
   exact nd1.1 (hm▸Hm.mpr ⟨c,hc,rfl⟩)
 ·obtain⟨c,hc⟩:=Kk.mp hs
  obtain hcm:c∈env.cells.map (·.2):=Hm.mpr ⟨_,dE hc,rfl⟩
  obtain⟨v0,i0⟩:=I.cl _ (dE hc)
  refine wpAny_storeName_cell I.er.kind hk hc i0 fun h' i' hsb=>?_
  obtain⟨o,eo,ed⟩:=id i0
  have kp:aj [c] s.heap h':=aj.same eo (by unfold cD;rw[ed]) hsb
  refine fin _ m rfl rfl (bc kp N fun hm=>?_) c (.inr hcm) kp (.inr ⟨.inl hk,c,hc,i'⟩) (fun y u hy a=>?_) (fun d hdm=>?_) (fun _ _=>rfl)
  ·simp only[Ha,Hs,or_false]at hm
   exact nd1.1 (hm▸hcm)
  ·rcases a with a | ⟨a,d,e,i⟩
   ·exact .inl a
   ·refine .inr ⟨a,d,e,bq kp i fun hm=>?_⟩
    simp only[Ha,Hs,or_false]at hm
    subst hm
    exact hy (yJ nd2 e hc)
  ·by_cases hdc:d.2=c
   ·exact⟨_,by show h'.IsCell d.2 _;rw[hdc];exact i'⟩
   ·obtain⟨u,i⟩:=I.cl d hdm
    exact⟨u,bq kp i (by simpa using hdc)⟩
theorem fN{x:Str}{p:PV}{v:Value}{F:List Addr}{n:Nat}(hK:∀ q∈K,q.1<348)(hpin:x∉pins.map (·.1))(I:bw gt K pins env locs Fs s)(hk:env.kindOf x=some .local∨env.kindOf x=some .cell∧(env.cells.lookup x).isSome=true)
  (hv:VR s.heap p v F) (hF:F.Nodup) (hd:∀ b∈F,b∉env.locals::env.cells.map (·.2)++Fs.flatten) (hn:∀ b∈F,n≤b) (h348:348≤n):
  wpAny (model pw w) A (MU env x v) (fun _ s'=>∃ Fs',bw gt K pins env (ab x p locs) Fs' s'∧aG (env.locals::env.cells.map (·.2)) s s'∧(∀ b∈ow env (ab x p locs) Fs',b∈ow env locs Fs∨n≤b)∧∀ b∈Fs'.flatten,b∈F∨b∈Fs.flatten) (fun _ _=>False) s:=
 fM (P:=fun b=>n≤b) hK hpin I hk hv hF hd hn (fun _=>H6 h348)
theorem d4{x:Str}{p:PV}{v:Value}{F:List Addr}{n:Nat}(hK:∀ q∈K,q.1<348)(hpin:x∉pins.map (·.1))(I:bw gt K pins env locs Fs s)(hk:env.kindOf x=some .local∨env.kindOf x=some .cell∧(env.cells.lookup x).isSome=true)
  (hv:VR s.heap p v F) (hF:F.Nodup) (hd:∀ b∈F,b∉env.locals::env.cells.map (·.2)++Fs.flatten) (hn:∀ b∈F,n≤b) (h348:348≤n):
  wpAny (model pw w) A (MU env x v) (fun _ s'=>∃ Fs',bw gt K pins env (ab x p locs) Fs' s'∧aG (env.locals::env.cells.map (·.2)) s s'∧∀ b∈ow env (ab x p locs) Fs',b∈ow env locs Fs∨n≤b) (fun _ _=>False) s:=
 Hf (fN hK hpin I hk hv hF hd hn h348) (fun _ _ ⟨Fs',a,b,c,_⟩=>⟨Fs',a,b,c⟩) fun _ _ e=>e
end
end
section
inductive Fl where
 |next | brk | cont
 |ret(p:PV)
noncomputable def Fl.isRet:Fl→Bool
 | .ret _=>true
 |_=>false
noncomputable def DS(n:Nat)(O:List Addr)(h:Heap): Fl→Flow→Prop
 | .next,f=>f=.next
 | .brk,f=>f=.brk
 | .cont,f=>f=.cont
 | .ret p,f=>∃ v F,f=.ret v∧VR h p v F∧∀ b∈F,b∈O∨n≤b
section
variable{gt:List (Str×Value)}{K:List (Addr×Obj)}{pins:List (Str×Addr)}{w:World}{A:Around}{env:Env}{locs locs' locs'':List (Str×PV)}
inductive gm(gt:List (Str×Value))(K:List (Addr×Obj))(pins:List (Str×Addr))(env:Env)(locs:List (Str×PV))(fl:Fl)(locs':List (Str×PV))(s:Shared)(Fs:List (List Addr))(f:Flow)(s':Shared): Prop
 |mk(k:aG (ow env locs Fs) s s')(e:DS s.heap.objs.size (ow env locs Fs) s'.heap fl f)(h:∃ Fs',bw gt K pins env locs' Fs' s'∧∀ b∈ow env locs' Fs',b∈ow env locs Fs∨s.heap.objs.size≤b)
structure Ex(gt:List (Str×Value))(K:List (Addr×Obj))(pins:List (Str×Addr))(w:World)(A:Around)(env:Env)(t:Sem Flow)(locs:List (Str×PV))(fl:Fl)(locs':List (Str×PV)): Prop where
 run:∀ s Fs,bw gt K pins env locs Fs s→wpAny (model pw w) A t (gm gt K pins env locs fl locs' s Fs) (fun _ _=>False) s
theorem aq:Ex gt K pins w A env (execs [] env) locs .next locs:=.mk fun s Fs I=>JW ⟨.refl _ _,rfl,⟨Fs,I,fun b hb=>.inl hb⟩⟩
theorem DS.comp{n n':Nat}{O O':List Addr}{h:Heap}{fl:Fl}{f:Flow}(x:DS n' O' h fl f)(hn:n≤n')(hs:∀ b∈O',b∈O∨n≤b): DS n O h fl f:=by
 cases fl with
 |ret p=>
  obtain⟨v,F,e,z,k⟩:=x
  exact⟨v,F,e,z,fun b hb=>(k b hb).elim (hs b) fun q=>.inr (H6 hn q)⟩
 |_=>exact x
theorem af{st:Stmt}{rest:List Stmt}{fl:Fl}(h1:Ex gt K pins w A env (exec st env) locs .next locs')(h2:Ex gt K pins w A env (execs rest env) locs' fl locs''): Ex gt K pins w A env (execs (st::rest) env) locs fl locs'':=.mk fun s Fs I=>
 HE (Pw.andThen (h1.run s Fs I) fun f s1 hh=>by
  obtain⟨k1,e,q⟩:=hh
  cases e
  obtain⟨Fs1,I1,hs⟩:=q
  exact Pw.andThen (h2.run s1 Fs1 I1) fun f' s2 ⟨k2,e2,q2⟩=>⟨k1.comp k2 hs,e2.comp k1.heap.size hs,by
   obtain⟨Fs2,I2,hs2⟩:=q2
   exact⟨Fs2,I2,fun b hb=>(hs2 b hb).elim (hs b) fun z=>.inr (H6 k1.heap.size z)⟩⟩)
theorem aX{st:Stmt}{rest:List Stmt}{fl:Fl}(h1:Ex gt K pins w A env (exec st env) locs fl locs')(hf:fl≠.next): Ex gt K pins w A env (execs (st::rest) env) locs fl locs':=.mk fun s Fs I=>
 HE (Pw.andThen (h1.run s Fs I) fun f s1 hh=>by
  obtain⟨k1,e,q⟩:=hh
  cases fl with
  |next=>exact absurd rfl hf
  |brk=>cases e;exact⟨k1,rfl,q⟩
  |cont=>cases e;exact⟨k1,rfl,q⟩
  |ret p=>obtain⟨v,F,rfl,z,k⟩:=e;exact⟨k1,⟨v,F,rfl,z,k⟩,q⟩)
inductive Bind:PV→PV→Prop
 |same{p:PV}: p.isOwn=false→Bind p p
 |own{l:List PV}: Bind (.lst l) (.own l)
 |hdr{l:List (Str×Str)}: Bind (.hdr l) (.hdr l)
 |lex{pb:List Str}{rest:List Nat}{ln:Int}: Bind (.lex pb rest ln) (.lex pb rest ln)
theorem Bind.vr{p q:PV}{h:Heap}{v:Value}{F:List Addr}(b:Bind p q)(x:VR h p v F): VR h q v F:=by
 cases b with
 |same=>exact x
 |hdr=>exact x
 |lex=>exact x
 |own=>cases x with | lst e y nd=>exact .own e y nd
noncomputable def aJ(env:Env)(x:Str): Prop:=env.kindOf x=some .local∨env.kindOf x=some .cell∧(env.cells.lookup x).isSome=true
theorem az{x:Str}{np pos:Pos}{e:Expr}{p q:PV}(hK:∀ q∈K,q.1<348)(hpin:x∉pins.map (·.1))(h:Ev gt K w A env locs e p true)(hb:Bind p q)(hk:aJ env x)
  (hs:JD e (some (.Name x np)) pos.line env=pure false):Ex gt K pins w A env (exec (.Assign [.Name x np] e pos) env) locs .next (ab x q locs):=.mk fun s Fs I=>
 K3 (Pw.andThen (h.run s Fs I.g I.er) fun v s1 hh=>by
  obtain⟨k1,F,z,fr⟩:=hh
  obtain I1:=I.step0 k1
  refine Pw.andThen (d4 (n:=s.heap.objs.size) hK hpin I1 hk (hb.vr z) z.nodup (fun b hb hm=>absurd (I.lt b hm) (Hz.mpr (fr rfl b hb))) (fr rfl) I.g.low) fun _ s2 hh=>?_
  obtain⟨Fs2,I2,k2,hs2⟩:=hh
  refine⟨k1.all.trans (k2.mono fun b hb=>?_),rfl,⟨Fs2,I2,hs2⟩⟩
  exact H8 _ hb) hs
theorem db{t:Expr}{body orelse:List Stmt}{pos:Pos}{c:Bool}{fl:Fl}(ht:Tr gt K w A env locs t c)(hb:c=true→Ex gt K pins w A env (execs body env) locs fl locs')(ho:c=false→Ex gt K pins w A env (execs orelse env) locs fl locs'):
  Ex gt K pins w A env (exec (.If t body orelse pos) env) locs fl locs':=.mk fun s Fs I=>
 wpAny_If (Pw.andThen (ht.run s Fs I.g I.er) fun c' s1 hh=>by
  obtain⟨e,k1⟩:=hh
  subst e
  have go:Ex gt K pins w A env (execs (if c' then body else orelse) env) locs fl locs':=by cases c' with | true=>exact hb rfl | false=>exact ho rfl
  obtain z:wpAny (model pw w) A (execs (if c' then body else orelse) env) _ (fun _ _=>False) s1:=Pw.andThen (go.run s1 Fs (I.step0 k1)) (Q:=gm gt K pins env locs fl locs' s Fs) fun f s2 ⟨k2,e2,q2⟩=>⟨k1.all.trans k2,e2.comp k1.heap.size fun b hb=>.inl hb,by
    obtain⟨Fs2,I2,hs2⟩:=q2
    exact⟨Fs2,I2,fun b hb=>(hs2 b hb).imp id (H6 k1.heap.size)⟩⟩
  cases c' <;> exact z)
theorem cJ{e:Expr}{pos:Pos}{p:PV}{f:Bool}(h:Ev gt K w A env locs e p f)(hf:f=true): Ex gt K pins w A env (exec (.Return (some e) pos) env) locs (.ret p) locs:=.mk fun s Fs I=>
 Jf (Pw.andThen (h.run s Fs I.g I.er) fun v s1 ⟨k1,F,z,fr⟩=>⟨k1.all,⟨v,F,rfl,z,fun b hb=>.inr (fr hf b hb)⟩,⟨Fs,I.step0 k1,fun b hb=>.inl hb⟩⟩)
theorem CX{e:Expr}{pos:Pos}{p:PV}(h:Ev gt K w A env locs e p true): Ex gt K pins w A env (exec (.Return (some e) pos) env) locs (.ret p) locs:=cJ h rfl
theorem qM{pos:Pos}: Ex gt K pins w A env (exec (.Continue pos) env) locs .cont locs:=.mk fun s Fs I=>
 wpAny_Continue ⟨.refl _ _,rfl,⟨Fs,I,fun b hb=>.inl hb⟩⟩
theorem sv{x:Str}{np pos:Pos}{op:Operator}{e:Expr}{p q r:PV}{f:Bool}(hK:∀ q∈K,q.1<348)(hpin:x∉pins.map (·.1))(hx:locs.lookup x=some p)(hp:p.flat=true)(h:Ev gt K w A env locs e q f)
  (ho:∀ s a b F H,VR s.heap p a F→VR s.heap q b H→Pw w A (MV op a b) r true s) (hr:r.isOwn=false) (hk:aJ env x) (hcd:(x==("__classdict__":Str))=false):
  Ex gt K pins w A env (exec (.AugAssign (.Name x np) op e pos) env) locs .next (ab x r locs):=.mk fun s Fs I=>by
 refine wpAny_AugAssign_Name ?_
 obtain⟨m,n,V⟩:=I.er.vars
 obtain⟨v,F,_,a,z⟩:=V.find hx
 have fin:=Pw.andThen (Q:=fun b s₂=>wpAny (model pw w) A (MV op v b) (fun c s₃=>wpAny (model pw w) A (MU env x c) (fun _ s'=>gm gt K pins env locs .next (ab x r locs) s Fs Flow.next s') (fun _ _=>False) s₃) (fun _ _=>False) s₂) (h.run s Fs I.g I.er) fun b s2 ⟨k2,F2,z2,_⟩=>
  Pw.andThen (ho s2 v b F F2 (z.kept0 k2.heap) z2) fun c s3 hh=>by
   obtain⟨k3,F3,z3,fr3⟩:=hh
   obtain k:=k2.trans k3
   obtain fr:=fun b hb=>H6 k2.heap.size (fr3 rfl b hb)
   refine Pw.andThen (d4 (n:=s.heap.objs.size) hK hpin (I.step0 k) hk z3 z3.nodup (fun b hb hm=>absurd (I.lt b hm) (Hz.mpr (fr b hb))) fr I.g.low) fun _ s4 hh=>?_
   obtain⟨Fs4,I4,k4,hs4⟩:=hh
   exact⟨k.all.trans (k4.mono fun b hb=>H8 _ hb),rfl,⟨Fs4,I4,hs4⟩⟩
 rcases a with⟨k,e⟩ | ⟨k | k,c,ec,ic⟩
 ·exact L9 I.er.kind k n e fin
 ·exact Le I.er.kind k ec ic fin
 ·exact Lf I.er.kind k ec ic fin hcd
end
end
section
theorem vE{k:Str→Option MH}{x:Str}: ∀{l:List (Str×Value)} {m:Str→Option Value},x∉l.map (·.1)→bindL k l m x=m x:=by
 intro l
 induction l with
 |nil=>
  rintro _ _
  exact rfl
 |cons e9 r ih=>
  obtain⟨n,v⟩:=e9
  rintro m h
  simp only[HF,Ha,not_or]at h
  unfold bindL
  rw[ih h.2]
  split
  ·exact if_neg h.1
  ·rfl
theorem jk{k:Str→Option MH}{x:Str}{v:Value}(hk:k x=some .local): ∀{l:List (Str×Value)} {m:Str→Option Value},(l.map (·.1)).Nodup→(x,v)∈l→bindL k l m x=some v
 | (n,u)::r,m,nd,h=>by
  simp only[HF,Hu]at nd
  unfold bindL
  rcases Ha.mp h with e | h
  ·cases e
   rw[vE nd.1,if_pos hk,if_pos rfl]
  ·exact jk hk nd.2 h
theorem vG{k:Str→Option MH}{x:Str}: ∀{l:List (Str×Value)} {m:Str→Option Value},x∉l.map (·.1)→bindC k l m x=m x:=by
 intro l
 induction l with
 |nil=>
  rintro _ _
  exact rfl
 |cons e9 r ih=>
  obtain⟨n,v⟩:=e9
  rintro m h
  simp only[HF,Ha,not_or]at h
  unfold bindC
  rw[ih h.2]
  split
  ·rfl
  ·exact if_neg h.1
theorem r6{k:Str→Option MH}{x:Str}{v:Value}(hk:k x=some .cell): ∀{l:List (Str×Value)} {m:Str→Option Value},(l.map (·.1)).Nodup→(x,v)∈l→bindC k l m x=some v
 | (n,u)::r,m,nd,h=>by
  simp only[HF,Hu]at nd
  unfold bindC
  rcases Ha.mp h with e | h
  ·cases e
   rw[vG nd.1,if_neg (by rw[hk];intro e;cases e),if_pos rfl]
  ·exact r6 hk nd.2 h
noncomputable def Ro(A:Around)(n:Nat): Prop:=A.handled=none∧A.depth+n<MI∧A.units+4*n+8<cLine
theorem Ro.deeper{A:Around}{n:Nat}(r:Ro A (n+1))(env:Env): Ro (A.deeper env) n:=by
 obtain⟨a,b,c⟩:=r
 exact⟨a,HS (HM (Nat.add_right_comm _ _ _)) b,by show A.units+3+4*n+8<_;omega⟩
theorem Ro.le{A:Around}{n m:Nat}(r:Ro A n)(h:m≤n): Ro A m:=⟨r.1,HS (Ic h _) r.2.1,HS (HN (Ic (HG 4 h) _) 8) r.2.2⟩
structure gS(K:List (Addr×Obj))(f:Addr)(xs:List Str)(body:List Stmt)(sc:Scope)(fd:Hy): Prop where
 obj:∃ o,(f,o)∈K∧o.data=.func fd
 code:∃ c oc vs t,(c,oc)∈K∧oc.data=.fields vs∧vs[1]? = some (.str fd.qualname t)∧fd.code=.ref c
 body:fd.body=.stmts body
 scope:fd.scope=sc
 glob:fd.globals=IB
 blt:fd.builtins=Ji
 clos:fd.closure=[]
 co:sc.isCoroutine=false
 gen:sc.isGenerator=false
 kind:sc.kind=.function
 bind:∀ vs:List Value,vs.length=xs.length→J4 fd ⟨vs,[]⟩=pure (xs.zip vs)
 nodup:xs.Nodup
 cells:∀ k,∀ p∈Jg k sc.names [],(Jg k sc.names []).lookup p.1=some p.2
 names:(xs.all fun x=>sc.names.lookup x==some .local||sc.names.lookup x==some .cell)=true
noncomputable def ah(f:Addr)(fd:Hy)(L:Addr): Env:=newEnv fd.scope L IB (Jg (L+1) fd.scope.names []) (fd.qualname++".<locals>.") (some f) fd.code none Ji
theorem zC{h:Heap}{env:Env}{m:Str→Option Value}{xs:List Str}{ps:List PV}{vs:List Value}{F:List Addr}(z:bf h ps vs F)(hl:xs.length=ps.length)(ha:∀ x v,(x,v)∈xs.zip vs→At h env m x v): ∃ Fs,bO h env m (xs.zip ps) Fs∧Fs.flatten=F:=by
 induction z using bf.ind generalizing xs with
 |nil=>cases xs with
  |nil=>exact⟨[],trivial,rfl⟩
  |cons=>cases hl
 |cons z y ih=>cases xs with
  |nil=>cases hl
  |cons x xs=>
   obtain⟨Fs,V,e⟩:=ih (KH hl) fun x v hm=>ha x v (.tail _ hm)
   exact⟨_::Fs,⟨⟨_,ha _ _ (.head _),z⟩,V⟩,by rw[HL,e]⟩
structure gR(K:List (Addr×Obj))(f:Addr)(xs:List Str)(body:List Stmt)(sc:Scope)(fd:Hy): Prop where
 obj:∃ o,(f,o)∈K∧o.data=.func fd
 code:∃ c oc vs t,(c,oc)∈K∧oc.data=.fields vs∧vs[1]? = some (.str fd.qualname t)∧fd.code=.ref c
 body:fd.body=.stmts body
 scope:fd.scope=sc
 glob:fd.globals=IB
 blt:fd.builtins=Ji
 clos:fd.closure=[]
 co:sc.isCoroutine=false
 gen:sc.isGenerator=false
 kind:sc.kind=.function
 nodup:xs.Nodup
 cells:∀ k,∀ p∈Jg k sc.names [],(Jg k sc.names []).lookup p.1=some p.2
 names:(xs.all fun x=>sc.names.lookup x==some .local||sc.names.lookup x==some .cell)=true
theorem gR.kinds{K:List (Addr×Obj)}{f:Addr}{xs:List Str}{body:List Stmt}{sc:Scope}{fd:Hy}(D:gR K f xs body sc fd): ∀ x∈xs,sc.names.lookup x=some .local∨(sc.names.lookup x=some .cell∧∀ k,((Jg k sc.names []).lookup x).isSome=true):=fun x hx=>by
 obtain this:=Kc.mp D.names x hx
 simp only[Bool.or_eq_true,beq_iff_eq]at this
 exact this.imp id fun e=>⟨e,fun k=>cellsFrom_some _ _ _ (.inl e)⟩
theorem gS.toS{K:List (Addr×Obj)}{f:Addr}{xs:List Str}{body:List Stmt}{sc:Scope}{fd:Hy}(D:gS K f xs body sc fd): gR K f xs body sc fd:=⟨D.obj,D.code,D.body,D.scope,D.glob,D.blt,D.clos,D.co,D.gen,D.kind,D.nodup,D.cells,D.names⟩
section
variable{gt:List (Str×Value)}{K:List (Addr×Obj)}{w:World}{A:Around}
theorem je{f:Addr}{xs:List Str}{body:List Stmt}{sc:Scope}{fd:Hy}(D:gR K f xs body sc fd){n:Nat}(ro:Ro A (n+1)){args:List PV}(hl:xs.length=args.length){s:Shared}{vs pos:List Value}{kw:List (Str×Value)}{F:List Addr}(hbind:Looks (model pw w) s.heap (J4 fd ⟨pos,kw⟩) (xs.zip vs))
  (g:G gt K s.heap) (hv:bf s.heap args vs F) (hF:F.Nodup) {W:List Addr} (h348:∀ b∈W,348≤b) (hW:∀ Fs:List (List Addr),Fs.flatten=F→∀ b∈cU (xs.zip args) Fs,b∈W) {pins:List (Str×Addr)} (hp:∀ q∈pins,(q.1,KB q.2)∈xs.zip vs∧sc.names.lookup q.1=some .local) {R:Result→Shared→Prop}
  (hb:∀ h1 tk Fs,aj [] s.heap h1→bw gt K pins (ah f fd s.heap.objs.size) (xs.zip args) Fs { s with heap:=h1,toks:=tk }→Fs.flatten=F→(∀ b∈ow (ah f fd s.heap.objs.size) (xs.zip args) Fs,b∈W∨s.heap.objs.size≤b)→
   wpAny (model pw w) (A.deeper (ah f fd s.heap.objs.size)) (execs body (ah f fd s.heap.objs.size)) (fun fw s2=>match fw with | .ret v=>R (.ok (.ret v)) s2 | .next=>R (.ok (.ret .none)) s2 | _=>False) (fun _ _=>False) { s with heap:=h1,toks:=tk }):
  codeAny (model pw w) A (.call (.ref f) ⟨pos,kw⟩) R s:=by
 obtain⟨o,hm,ho⟩:=D.obj
 obtain⟨c,oc,ws,t,hcm,hoc,hq,hcd⟩:=D.code
 obtain hvl:vs.length=xs.length:=by rw[hv.length,hl]
 have hkeys:((xs.zip vs).map (·.1))=xs:=by rw[M5];omega
 refine(codeAny_call_function (by obtain this:=ro.2.1;omega) (g.tab _ hm) ho (by rw[D.scope];exact D.co) (by rw[D.scope];exact D.gen) D.body ⟨c,oc,ws,t,hcd,g.tab _ hcm,hoc,hq⟩ ?_)
 rw[D.glob,D.clos,D.blt]
 refine hbind.here (Lx (by rw[D.scope];exact D.kind) (fun x hx=>?_) fun env he s1 ic=>?_)
 ·rw[D.scope]
  obtain this:x.1∈xs:=by rw[←hkeys];exact Hm.mpr ⟨x,hx,rfl⟩
  exact(D.kinds _ this).imp id fun a=>⟨a.1,a.2 _⟩
 ·have he:env=ah f fd s.heap.objs.size:=he
  subst he
  obtain⟨h1,tk,rfl⟩:=ic.toInCall.same
  have kp:aj [] s.heap h1:=⟨by
   obtain this:=ic.toInCall.ns.lt
   obtain f1:=ic.toInCall.fresh
   exact IG (HS f1 this),fun b o e _=>ic.toInCall.keep b o e⟩
  obtain st:aG [] s { s with heap:=h1,toks:=tk }:=aG.ofKept kp
  obtain g1:=g.kept0 kp
  refine⟨g1.nolimit,codeAny_func ?_⟩
  have hL:(ah f fd s.heap.objs.size).locals=s.heap.objs.size:=rfl
  have hC:(ah f fd s.heap.objs.size).cells=Jg (s.heap.objs.size+1) fd.scope.names []:=rfl
  obtain hat:∀ x v,(x,v)∈xs.zip vs→At h1 (ah f fd s.heap.objs.size) (bindL (ah f fd s.heap.objs.size).kindOf (xs.zip vs) fun _=>none) x v:=by
   intro x v hxv
   have hx:x∈xs:=by rw[←hkeys];exact Hm.mpr ⟨_,hxv,rfl⟩
   have hk:(ah f fd s.heap.objs.size).kindOf x=sc.names.lookup x:=by show fd.scope.names.lookup x=_;rw[D.scope]
   rcases D.kinds x hx with k | ⟨k,hs⟩
   ·exact .inl ⟨hk.trans k,jk (hk.trans k) (by rw[hkeys];exact D.nodup) hxv⟩
   ·obtain⟨c,hc⟩:=Kk.mp (hs (s.heap.objs.size+1))
    have hc':(ah f fd s.heap.objs.size).cells.lookup x=some c:=by rw[hC,D.scope];exact hc
    obtain this:=ic.cell x c hc'
    rw[r6 (hk.trans k) (by rw[hkeys];exact D.nodup) hxv]at this
    exact .inr ⟨.inl (hk.trans k),c,hc',this⟩
  obtain⟨Fs,V,eF⟩:=zC (hv.kept0 kp) hl hat
  obtain inF:∀ b∈F,b<s.heap.objs.size:=hv.lt
  have hcel:∀ c∈(ah f fd s.heap.objs.size).cells.map (·.2),s.heap.objs.size<c:=by
   intro c hc
   obtain⟨⟨n,c'⟩,hm,rfl⟩:=Hm.mp hc
   exact ic.above n c' hm
  obtain hnd:((ah f fd s.heap.objs.size).locals::(ah f fd s.heap.objs.size).cells.map (·.2)++Fs.flatten).Nodup:=by
   rw[Hp,Hu,Hn,eF]
   simp only[H9,not_or]
   refine⟨⟨fun m=>?_,fun m=>?_⟩,?_,hF,fun a ha b hb e=>?_⟩
   ·exact Ie _ (hcel _ m)
   ·exact Ie _ (inF _ m)
   ·exact List.pairwise_map.mpr ic.apart
   ·subst e;exact N1 (hcel a ha) (inF a hb)
  have hsub:∀ b∈ow (ah f fd s.heap.objs.size) (xs.zip args) Fs,b∈W∨s.heap.objs.size≤b:=by
   intro b hb
   simp only[ow,Hp,Ha,H9]at hb
   rcases hb with rfl | hb | hb
   ·exact .inr (Hw _)
   ·exact .inr (IG (hcel b hb))
   ·exact .inl (hW Fs eF b hb)
  obtain hinv:bw gt K pins (ah f fd s.heap.objs.size) (xs.zip args) Fs { s with heap:=h1,toks:=tk }:=by
   refine⟨g1,⟨by show fd.scope.kind=_;rw[D.scope];exact D.kind,rfl,rfl,_,ic.toInCall.ns,V⟩,hnd,fun b hb=>(hsub b hb).elim (h348 b) (H6 g.low),fun c hc=>?_,?_,fun q hq=>?_⟩
   ·obtain this:=D.cells (s.heap.objs.size+1) c (by rw[←D.scope];exact hc)
    exact⟨_,ic.cell c.1 c.2 (by rw[hC,D.scope];exact this)⟩
   ·rw[M5 (by omega)];exact D.nodup
   ·obtain⟨a,b⟩:=hp q hq
    have hk:(ah f fd s.heap.objs.size).kindOf q.1=some .local:=by show fd.scope.names.lookup q.1=_;rw[D.scope];exact b
    exact⟨_,ic.toInCall.ns,jk hk (by rw[hkeys];exact D.nodup) a,hk⟩
  refine Hf (hb h1 tk Fs kp hinv eF hsub) (fun fw s2 hq=>?_) fun _ _ x=>x.elim
  cases fw with
  |ret v=>exact hq
  |next=>exact hq
  |brk=>exact hq.elim
  |cont=>exact hq.elim
theorem fH{f:Addr}{xs:List Str}{body:List Stmt}{sc:Scope}{fd:Hy}(D:gR K f xs body sc fd){n:Nat}(ro:Ro A (n+1)){args:List PV}(hl:xs.length=args.length){s:Shared}{vs pos:List Value}{kw:List (Str×Value)}{F:List Addr}(hbind:Looks (model pw w) s.heap (J4 fd ⟨pos,kw⟩) (xs.zip vs))
  (g:G gt K s.heap) (hv:bf s.heap args vs F) (hF:F.Nodup) {W:List Addr} (h348:∀ b∈W,348≤b) (hW:∀ Fs:List (List Addr),Fs.flatten=F→∀ b∈cU (xs.zip args) Fs,b∈W) {pins:List (Str×Addr)} (hp:∀ q∈pins,(q.1,KB q.2)∈xs.zip vs∧sc.names.lookup q.1=some .local) {Q:Value→Shared→Prop}
  (hb:∀ h1 tk Fs,aj [] s.heap h1→bw gt K pins (ah f fd s.heap.objs.size) (xs.zip args) Fs { s with heap:=h1,toks:=tk }→Fs.flatten=F→(∀ b∈ow (ah f fd s.heap.objs.size) (xs.zip args) Fs,b∈W∨s.heap.objs.size≤b)→
   wpAny (model pw w) (A.deeper (ah f fd s.heap.objs.size)) (execs body (ah f fd s.heap.objs.size)) (fun fw s2=>match fw with | .ret v=>Q v s2 | .next=>Q .none s2 | _=>False) (fun _ _=>False) { s with heap:=h1,toks:=tk }):
  wpAny (model pw w) A (call (.ref f) pos kw) Q (fun _ _=>False) s:=
 Jp (je D ro hl hbind g hv hF h348 hW hp hb)
inductive z9(gt:List (Str×Value))(K:List (Addr×Obj))(pins:List (Str×Addr))(f:Addr)(fd:Hy)(W:List Addr)(s:Shared)(fl:Fl)(locs':List (Str×PV))(v:Value)(s':Shared): Prop
 |mk(k:aG W s s')(e:∃ p H,(fl=.ret p∨fl=.next∧p=.none)∧VR s'.heap p v H∧∀ b∈H,b∈W∨s.heap.objs.size≤b)(h:∃ Fs',bw gt K pins (ah f fd s.heap.objs.size) locs' Fs' s'∧∀ b∈ow (ah f fd s.heap.objs.size) locs' Fs',b∈W∨s.heap.objs.size≤b)
theorem nO{f:Addr}{xs:List Str}{body:List Stmt}{sc:Scope}{fd:Hy}(D:gR K f xs body sc fd){n:Nat}(ro:Ro A (n+1)){args:List PV}(hl:xs.length=args.length){s:Shared}{vs pos:List Value}{kw:List (Str×Value)}{F:List Addr}(hbind:Looks (model pw w) s.heap (J4 fd ⟨pos,kw⟩) (xs.zip vs))
  (g:G gt K s.heap) (hv:bf s.heap args vs F) (hF:F.Nodup) {W:List Addr} (h348:∀ b∈W,348≤b) (hW:∀ Fs:List (List Addr),Fs.flatten=F→∀ b∈cU (xs.zip args) Fs,b∈W) {pins:List (Str×Addr)} (hp:∀ q∈pins,(q.1,KB q.2)∈xs.zip vs∧sc.names.lookup q.1=some .local) {fl:Fl} {locs':List (Str×PV)}
  (hb:Ex gt K pins w (A.deeper (ah f fd s.heap.objs.size)) (ah f fd s.heap.objs.size) (execs body (ah f fd s.heap.objs.size)) (xs.zip args) fl locs') (hfl:fl=.next∨∃ p,fl=.ret p):
  codeAny (model pw w) A (.call (.ref f) ⟨pos,kw⟩) (fun r s'=>match r with | .ok (.ret v)=>z9 gt K pins f fd W s fl locs' v s' | .ok _=>False | .error _=>False) s:=by
 refine je D ro hl hbind g hv hF h348 hW hp fun h1 tk Fs kp I eF sub=>?_
 refine Hf (hb.run _ Fs I) (fun fw s2 hh=>?_) fun _ _ x=>x.elim
 obtain⟨k2,e2,Fs2,I2,hs2⟩:=hh
 obtain kk:aG W s s2:=(aG.ofKept kp).all.comp k2 sub
 obtain hown:∀ b∈ow (ah f fd s.heap.objs.size) locs' Fs2,b∈W∨s.heap.objs.size≤b:=fun b hb=>(hs2 b hb).elim (sub b) fun z=>.inr (H6 kp.size z)
 rcases hfl with rfl | ⟨p,rfl⟩
 ·cases e2
  exact⟨kk,⟨.none,[],.inr ⟨rfl,rfl⟩,.none,fun b hb=>(nomatch hb)⟩,Fs2,I2,hown⟩
 ·obtain⟨v,H,rfl,z,hH⟩:=e2
  exact⟨kk,⟨p,H,.inl rfl,z,fun b hb=>(hH b hb).elim (sub b) fun z=>.inr (H6 kp.size z)⟩,Fs2,I2,hown⟩
theorem nS{f:Addr}{xs:List Str}{body:List Stmt}{sc:Scope}{fd:Hy}(D:gR K f xs body sc fd){n:Nat}(ro:Ro A (n+1)){args:List PV}(hl:xs.length=args.length){s:Shared}{vs pos:List Value}{kw:List (Str×Value)}{F:List Addr}(hbind:Looks (model pw w) s.heap (J4 fd ⟨pos,kw⟩) (xs.zip vs))
  (g:G gt K s.heap) (hv:bf s.heap args vs F) (hF:F.Nodup) {W:List Addr} (h348:∀ b∈W,348≤b) (hW:∀ Fs:List (List Addr),Fs.flatten=F→∀ b∈cU (xs.zip args) Fs,b∈W) {pins:List (Str×Addr)} (hp:∀ q∈pins,(q.1,KB q.2)∈xs.zip vs∧sc.names.lookup q.1=some .local) {fl:Fl} {locs':List (Str×PV)}
  (hb:Ex gt K pins w (A.deeper (ah f fd s.heap.objs.size)) (ah f fd s.heap.objs.size) (execs body (ah f fd s.heap.objs.size)) (xs.zip args) fl locs') (hfl:fl=.next∨∃ p,fl=.ret p):
  wpAny (model pw w) A (call (.ref f) pos kw) (z9 gt K pins f fd W s fl locs') (fun _ _=>False) s:=Jp (nO D ro hl hbind g hv hF h348 hW hp hb hfl)
theorem yM{f:Addr}{xs:List Str}{body:List Stmt}{sc:Scope}{fd:Hy}(D:gS K f xs body sc fd){n:Nat}(ro:Ro A (n+1)){args:List PV}(hl:xs.length=args.length){s:Shared}{vs:List Value}{F:List Addr}
  (g:G gt K s.heap) (hv:bf s.heap args vs F) (hF:F.Nodup) {W:List Addr} (h348:∀ b∈W,348≤b) (hW:∀ Fs:List (List Addr),Fs.flatten=F→∀ b∈cU (xs.zip args) Fs,b∈W) {pins:List (Str×Addr)} (hp:∀ q∈pins,(q.1,KB q.2)∈xs.zip vs∧sc.names.lookup q.1=some .local) {fl:Fl} {locs':List (Str×PV)}
  (hb:Ex gt K pins w (A.deeper (ah f fd s.heap.objs.size)) (ah f fd s.heap.objs.size) (execs body (ah f fd s.heap.objs.size)) (xs.zip args) fl locs') (hfl:fl=.next∨∃ p,fl=.ret p):
  wpAny (model pw w) A (call (.ref f) vs) (z9 gt K pins f fd W s fl locs') (fun _ _=>False) s:=
 nS D.toS ro hl (HD (D.bind vs (by rw[hv.length,hl]))) g hv hF h348 hW hp hb hfl
theorem dD{W:List Addr}: ∀{locs:List (Str×PV)} {Fs:List (List Addr)},(∀ p∈locs,p.2.isOwn=false)→∀ b∈cU locs Fs,b∈W
 |[],_,_,b,hb=>by simp[cU]at hb
 | (_,p)::r,[],_,b,hb=>by simp[cU]at hb
 | (x,p)::r,F::Fs,h,b,hb=>by
  have:=h _ (.head _)
  simp only[cU,this,Hq,if_false,Iy]at hb
  exact dD (fun q hq=>h q (.tail _ hq)) b hb
theorem bE{f:Addr}{xs:List Str}{body:List Stmt}{sc:Scope}{fd:Hy}(D:gS K f xs body sc fd){n:Nat}(ro:Ro A (n+1)){args:List PV}(hl:xs.length=args.length)(hown:∀ p∈args,p.isOwn=false){r:PV}
  (hb:∀ L,Ro (A.deeper (ah f fd L)) n→∃ locs',Ex gt K [] w (A.deeper (ah f fd L)) (ah f fd L) (execs body (ah f fd L)) (xs.zip args) (.ret r) locs'):au gt K w A (.ref f) args r true:=.mk fun s vs F g hv hF=>by
 obtain⟨locs',h⟩:=hb s.heap.objs.size (ro.deeper _)
 refine Pw.andThen (yM D ro hl g hv hF (W:=[]) (pins:=[]) (fun b hb=>(nomatch hb)) (fun Fs _ b hb=>dD (fun p hp=>hown _ (JX hp).2) b hb) (fun q hq=>(nomatch hq)) h (.inr ⟨r,rfl⟩)) fun v s' hh=>?_
 obtain⟨k,⟨p,H,hp,z,hH⟩,_⟩:=hh
 rcases hp with e | ⟨e,_⟩
 ·cases e;exact⟨k,H,z,fun _ b hb=>(hH b hb).elim (fun m=>(nomatch m)) id⟩
 ·cases e
end
end
section
theorem di{α:Type}{x:Str}{p:α}{r:List (Str×α)}: ((x,p)::r).lookup x=some p:=by
 rw[HA];simp
theorem gD{α:Type}{x y:Str}{p q:α}{r:List (Str×α)}(h:(x==y)=false)(h2:r.lookup x=some p): ((y,q)::r).lookup x=some p:=by
 rw[HA,h];exact h2
theorem qm{α:Type}{x:Str}{p:α}{xs:List Str}{r:List α}: ((x::xs).zip (p::r)).lookup x=some p:=di
theorem Af{α:Type}{x y:Str}{p q:α}{xs:List Str}{r:List α}(h:(x==y)=false)(h2:(xs.zip r).lookup x=some p): ((y::xs).zip (q::r)).lookup x=some p:=gD h h2
theorem dG{x:Str}{p:PV}: ∀{l:List (Str×PV)},(ab x p l).lookup x=some p:=by
 intro l
 induction l with
 |nil=>
  exact di
 |cons e9 r ih=>
  obtain⟨y,q⟩:=e9
  unfold ab
  split
  ·exact di
  ·rename_i h
   exact gD (by simpa using Il h) ih
theorem Ag{x y:Str}{p q:PV}(h:(x==y)=false): ∀{l:List (Str×PV)},l.lookup x=some p→(ab y q l).lookup x=some p:=by
 intro l
 induction l with
 |nil=>
  rintro e
  cases e
 |cons e9 r ih=>
  obtain⟨z,u⟩:=e9
  rintro e
  unfold ab
  split
  ·rename_i hz
   subst hz
   rw[HA,h]at e
   exact gD h e
  ·rw[HA]at e ⊢
   cases hz:x==z with
   |true=>rw[hz]at e;exact e
   |false=>rw[hz]at e;exact ih e
theorem aU:10000000≤Ip:=by decide +kernel
theorem eI{i:Int}: (PV.int i).seen=.int i:=rfl
theorem q7{i:Str}: (PV.str i).seen=.str i:=rfl
theorem DX{i:Bool}: (PV.bool i).seen=.bool i:=rfl
theorem DW:PV.none.seen=.none:=rfl
theorem pZ{l:List PV}: (PV.tup l).seen=.tup l:=rfl
theorem wD{l:List PV}: (PV.lst l).seen=.lst l:=rfl
theorem cB{l:List PV}: (PV.own l).seen=.lst l:=rfl
theorem Ef{l:List (Str×Int×PV)}: (PV.dct l).seen=.dct l:=rfl
theorem pY{v:Value}: (PV.val v).seen=.val v:=rfl
theorem bb{K:List (Addr×Obj)}{f:Addr}{xs:List Str}{body:List Stmt}{sc:Scope}{fd:Hy}(D:gS K f xs body sc fd): eS K (.ref f):=
 let⟨o,h,e⟩:=D.obj;.inr ⟨f,o,fd,rfl,h,e⟩
theorem bj:∀ q∈ay,q.1<348:=by decide +kernel
theorem cQ{i:Nat}{p:Addr×Obj}(h:ay[i]? = some p): p∈ay:=HH h
theorem FP:aa.lookup (H5 "TICK")=some (.str (H5 "'") 351):=by decide +kernel
theorem GN:aa.lookup (H5 "NT_OFFSET")=some (.int 256 491):=by decide +kernel
theorem CQ:aa.lookup (H5 "EXACT_TOKEN_TYPES")=some (.ref 109):=by decide +kernel
theorem Az:aa.lookup (H5 "_netrclex")=some (.ref 76):=by decide +kernel
theorem tU:aa.lookup (H5 "Headers")=some (.ref 258):=by decide +kernel
theorem CO:aa.lookup (H5 "_name_disallowed_re")=some (.ref 130):=by decide +kernel
theorem CN:aa.lookup (H5 "_value_disallowed_re")=some (.ref 135):=by decide +kernel
theorem oQ:aa.lookup (H5 "_iter_escaped_chars")=some (.ref 87):=by decide +kernel
theorem xO:aa.lookup (H5 "_strip_quoted_realnames")=some (.ref 94):=by decide +kernel
theorem F4:aa.lookup (H5 "_check_parenthesis")=some (.ref 101):=by decide +kernel
theorem Gn:aa.lookup (H5 "decode_rfc2231")=some (.ref 108):=by decide +kernel
theorem Gl:aa.lookup (H5 "ISTERMINAL")=some (.ref 118):=by decide +kernel
theorem Gm:aa.lookup (H5 "ISNONTERMINAL")=some (.ref 125):=by decide +kernel
theorem FM:aa.lookup (H5 "_law_tree")=some (.ref 267):=by decide +kernel
theorem FN:aa.lookup (H5 "_law_text")=some (.ref 274):=by decide +kernel
theorem FO:aa.lookup (H5 "_law_mark")=some (.ref 281):=by decide +kernel
theorem EZ:aa.lookup (H5 "_law_dress")=some (.ref 286):=by decide +kernel
theorem xR:aa.lookup (H5 "_law_lexer")=some (.ref 293):=by decide +kernel
theorem Ay:aa.lookup (H5 "_law_read")=some (.ref 300):=by decide +kernel
theorem EY:aa.lookup (H5 "_law_split")=some (.ref 307):=by decide +kernel
theorem j7:aa.lookup (H5 "_law_value")=some (.ref 314):=by decide +kernel
theorem AA:aa.lookup (H5 "_law_back")=some (.ref 321):=by decide +kernel
theorem qw:aa.lookup (H5 "_law_worth")=some (.ref 328):=by decide +kernel
theorem E4:aa.lookup (H5 "_law_leaves")=some (.ref 335):=by decide +kernel
theorem CP:aa.lookup (H5 "_law_due")=some (.ref 340):=by decide +kernel
theorem DA:Iz (H5 "len")=some (.builtin "len"):=by decide +kernel
theorem gN:Iz (H5 "str")=some (.type "str"):=by decide +kernel
theorem DB:Iz (H5 "int")=some (.type "int"):=by decide +kernel
theorem GA:Iz (H5 "isinstance")=some (.builtin "isinstance"):=by decide +kernel
theorem r0:Iz (H5 "range")=some (.type "range"):=by decide +kernel
theorem vD:Iz (H5 "sorted")=some (.builtin "sorted"):=by decide +kernel
theorem sW:Iz (H5 "sum")=some (.builtin "sum"):=by decide +kernel
theorem pi:Iz (H5 "list")=some (.type "list"):=by decide +kernel
theorem B4:Iz (H5 "iter")=some (.builtin "iter"):=by decide +kernel
theorem ph:Iz (H5 "type")=some (.type "type"):=by decide +kernel
end
section
section
variable{gt:List (Str×Value)}{K:List (Addr×Obj)}{w:World}{A:Around}{env:Env}{locs:List (Str×PV)}
theorem FJ{x:Str}: au gt K w A (.builtin "isinstance") [.str x,.val (.type "str")] (.bool true) true:=by
 constructor;intro s vs F g xA hN;clear hN;cases xA with | cons a xB=>cases xB with | cons b c=>
 cases a;cases b;cases c
 exact IsiPair.str_str GT
theorem FI{l:List PV}: au gt K w A (.builtin "isinstance") [.tup l,.val (.type "str")] (.bool false) true:=by
 constructor;intro s vs F g xA hN;clear hN;cases xA with | cons a xB=>cases xB with | cons b c=>
 cases b;cases c
 cases a with
 |tup e z nd=>exact IsiPair.tuple_str e rfl ⟨.ofToks,[],.bool _,fun _ _ hb=>(nomatch hb)⟩
theorem cY{i:Int}(h:i.natAbs.log2<1920): au gt K w A (.type "str") [.int i] (.str (H5 (Kj i))) true:=by
 constructor;intro s vs F g xA hN;clear hN;cases xA with | cons a b=>
 cases a;cases b
 exact PySem.P.str_of_int h DZ
theorem kY{x:Str}{n:Int}(hn:IC x=some n)(hl:x.length≤640): au gt K w A (.type "int") [.str x] (.int n) true:=by
 constructor;intro s vs F g xA hN;clear hN;cases xA with | cons a b=>
 cases a;cases b
 exact KIN.call_text hn hl zw
theorem dw{id:String}: eS K (.builtin id):=.inl rfl
theorem bd{id:String}: eS K (.type id):=.inl rfl
structure ms(gt:List (Str×Value))(K:List (Addr×Obj))(w:World)(A:Around)(id:String)(p:PV)(args:List PV)(r:PV)(fr:Bool): Prop where
 run:∀ s a vs F H,G gt K s.heap→VR s.heap p a F→bf s.heap args vs H→Pw w A (call (.builtin id) (a::vs)) r fr s
noncomputable def t8(p:PV)(T:String): Prop:=∀(s:Shared) a F,VR s.heap p a F→s.TypeIs a T∧∀ b,a=.ref b→∃ ob,s.heap.get? b=some ob∧ob.dict=none
theorem ix{x:Str}: t8 (.str x) "str":=by
 intro s a F xA;cases xA;exact⟨Lv _ _ _,fun b e=>by cases e⟩
theorem uc{o:Expr}{name:Str}{apos pos:Pos}{e:Expr}{es:List Expr}{T id:String}{p r:PV}{rs:List PV}{f1 f2 fr:Bool}(h1:Ev gt K w A env locs o p f1)(ha:bG gt K w A env locs (e::es) rs f2)(ht:t8 p T)(hm:ms gt K w A id p rs r fr)
  (pa:PlainAttrs T) (slot:Slot T name id) (hty:typeOf (.builtin id)=pure (.type "method_descriptor"))
  (hbase:IT o name env (eval o env)=eval o env)
  (hfew:((backTo pos (Hg (e::es) env)).all (fun x=>!x.1)&&(KI pos (Jr [] env)).all (fun x=>x.1.isSome)
   &&decide ((e::es).length+([]:List Keyword).length+(if([]:List Keyword).isEmpty then 0 else 1)<30))=true)
  (hline:(apos.endLine==pos.line)=true)
  (he:Hg (e::es) env=(false,eval e env)::Hg es env) (hplain:(backTo pos (Hg es env)).any (·.1)=false):
  Ev gt K w A env locs (.Call (.Attribute o name apos) (e::es) [] pos) r fr:=.mk fun s Fs g z=>
 Js hbase hfew hline pa slot hty (Pw.andThen (h1.run s Fs g z) fun ov s₁ hh=>by
  obtain⟨k1,F1,v1,_⟩:=hh
  obtain⟨hT,hd⟩:=ht s₁ ov F1 v1
  refine⟨hT,hd,?_⟩
  obtain h:=ha.run s₁ Fs pos (g.kept0 k1.heap) (z.kept0 k1.heap)
  rw[he]at h ⊢
  refine Ik (P:=G gt K) (by show((false||(backTo pos (Hg es env)).any (·.1))||false)=false;rw[hplain];rfl) (fun h' g'=>⟨.machine,.inr (.inl rfl),HD rfl⟩) (HZ (Pw.andThen h fun vs s₂ hh=>?_))
  obtain⟨k2,F2,v2,_⟩:=hh
  obtain g2:=(g.kept0 k1.heap).kept0 k2.heap
  exact⟨g2,Pw.andThen (hm.run s₂ ov vs F1 F2 g2 (v1.kept0 k2.heap) v2) fun r' s₃ ⟨k3,F3,v3,fr3⟩=>⟨(k1.trans k2).trans k3,F3,v3,fun e b hb=>H6 (H6 k1.heap.size k2.heap.size) (fr3 e b hb)⟩⟩)
theorem yj{o:Expr}{name:Str}{apos pos:Pos}{T id:String}{p r:PV}{f1 fr:Bool}(h1:Ev gt K w A env locs o p f1)(ht:t8 p T)(hm:ms gt K w A id p [] r fr)
  (pa:PlainAttrs T) (slot:Slot T name id) (hty:typeOf (.builtin id)=pure (.type "method_descriptor"))
  (hbase:IT o name env (eval o env)=eval o env)
  (hline:(apos.endLine==pos.line)=true):
  Ev gt K w A env locs (.Call (.Attribute o name apos) [] [] pos) r fr:=.mk fun s Fs g z=>
 Js hbase (by rfl) hline pa slot hty (Pw.andThen (h1.run s Fs g z) fun ov s₁ hh=>by
  obtain⟨k1,F1,v1,_⟩:=hh
  obtain⟨hT,hd⟩:=ht s₁ ov F1 v1
  refine⟨hT,hd,?_⟩
  refine Ik (P:=G gt K) (by rfl) (fun h' g'=>⟨.machine,.inr (.inl rfl),HD rfl⟩) (Kh ?_)
  obtain g2:=g.kept0 k1.heap
  exact⟨g2,Pw.andThen (hm.run s₁ ov [] F1 [] g2 v1 .nil) fun r' s₃ ⟨k3,F3,v3,fr3⟩=>⟨k1.trans k3,F3,v3,fun e b hb=>H6 k1.heap.size (fr3 e b hb)⟩⟩)
theorem Ab{x:Str}(hfit:Ig (Hd x).length=false): ms gt K w A "str.lower" (.str x) [] (.str (Hd x)) true:=by
 constructor;intro s a vs F H g xA xB;cases xA;cases xB
 exact SC.lower hfit DZ
theorem zK{h:Heap}: ∀{xs:List Str} {vs:List Value} {F:List Addr},bf h (xs.map .str) vs F→∃ l:List (Str×Tok),vs=strValues l∧l.map (·.1)=xs:=by
 intro xs
 induction xs with
 |nil=>intro vs F z;cases z;exact⟨[],rfl,rfl⟩
 |cons x xs ih=>
  intro vs F z0
  have z:bf h (.str x::xs.map .str) vs F:=z0
  clear z0
  cases z with
  |cons z1 y=>
   cases z1 with
   |str _ t=>
    obtain⟨l,e1,e2⟩:=ih y
    exact⟨(x,t)::l,by rw[e1];rfl,by rw[HF,e2]⟩
theorem Cs{x:Str}{xs:List Str}(hok:JoinOk x xs=true): ms gt K w A "str.join" (.str x) [.lst (xs.map .str)] (.str (Kl x xs)) true:=by
 constructor;intro s a vs F H g xA xB;cases xA;cases xB with | cons z y=>
 cases y
 cases z with
 | @lst _ D ws n _ e z nd=>
  obtain⟨l,rfl,e2⟩:=zK z
  exact SC.join (l:=l) (texts:=xs) ⟨_,e,rfl,n,rfl⟩ e2 hok fun _ _=>DZ
end
end
open Lean in
def Gg:List (List String):=("lk|p as|p kR|v dG|v di|v qm|w Ag ?h0 ?h1 ; h0=dk h1=lk|w gD ?h0 ?h1 ; h0=dk h1=lk|w Af ?h0 ?h1 ; h0=dk h1=lk\nfp|p rfl|r GO ?h0 ?h1 ; h0=ff h1=fp|p fq\nside|p as|p om|p de|p sm|p sb|p dk\ndef|p as|e FJ|e FI|r au.len ?h0 ; h0=side|r A4 ?h0 ; h0=side|r cY ?h0 ; h0=side\nop|e fi.add _ _|e fi.sub _ _|r fi.mul ?h0 ; h0=as|r fi.mod ?h0 ; h0=de|r fi.floordiv ?h0 ?h1 ; h0=de h1=np|r fi.cat ?h0 ; h0=side|r fi.catL ?h0 ?h1 ?h2 ; h0=flat h1=flat h2=side\ncmp|e cz.ltI _ _|e cz.geI _ _|e cz.leI _ _|e cz.eqI _ _|e cz.neI _ _|e cz.eqS _ _|e cz.neS _ _|e cz.inS _ _|e cz.notInS _ _|e cz.isNI _|e cz.isNS _|e cz.isN\nev|e Ev.int _ _ _|e Ev.str _ _ _|e Ev.bool _ _ _|e Ev.none _ _|r Ev.local ?h0 ?h1 ?h2 ?h3 ?h4 ; h0=lk h1=seen h2=ff h3=kr h4=kr|r Ev.globalI ?h0 GN ?h1 ; h0=kr h1=kr|r Ev.globalS ?h0 FP ?h1 ; h0=kr h1=kr|k callee|r Ev.binop ?h0 ?h1 ?h2 ; h0=ev h1=ev h2=op|r Ev.cmp ?h0 ?h1 ?h2 ?h3 ; h0=ev h1=ev h2=cmp h3=rfl|r Fh ?h0 ?h1 ?h2 ?h3 ?h4 ; h0=ev h1=part h2=part h3=side h4=i2r|r Ev.sub ?h0 ?h1 ?h2 ?h3 ; h0=ev h1=ev h2=item h3=i2x|r Fi ?h0 ?h1 ?h2 ?h3 ; h0=ev h1=side h2=rfl h3=rfl|r E5 ?h0 ?h1 ?h2 ?h3 ?h4 ?h5 ; h0=kr h1=ev h2=rfl h3=rfl h4=rfl h5=rfl|r E6 ?h0 ?h1 ?h2 ?h3 ?h4 ?h5 ?h6 ?h7 ?h8 ?h9 ?h10 ?h11 ; h0=ev h1=ev h2=ev h3=side h4=dk h5=de h6=rfl h7=rfl h8=rfl h9=rfl h10=rfl h11=rfl|r c8 ?h0 ?h1 ?h2 ?h3 ?h4 ?h5 ?h6 ; h0=callee h1=may h2=evs h3=def h4=nodup h5=rfl h6=rfl|r Ev.tuple ?h0 ?h1 ?h2 ; h0=evs h1=few h2=fp|r Ev.list ?h0 ?h1 ?h2 ; h0=evs h1=few h2=fp|r Ev.neg ?h0 ; h0=ev|r Ev.ifT ?h0 ?h1 ?h2 ; h0=tr h1=ard h2=ev|r Ev.ifF ?h0 ?h1 ?h2 ; h0=tr h1=ard h2=ev\nseen|e eI|e q7|e DX|e DW|e pZ|e cB|e wD|e Ef|e seen_hdr|e pY|p as\npart|e vN.none|r vN.some ?h0 ; h0=ev\nevs|e bG.nil|r bG.cons ?h0 ?h1 ?h2 ; h0=ev h1=evs h2=rfl\nitem|p as|r Sub.dct ?h0 ?h1 ?h2 ; h0=as h1=as h2=rfl|r Sub.tup ?h0 ?h1 ?h2 ?h3 ?h4 ; h0=de h1=de h2=rfl h3=rfl h4=ff|r Sub.lst ?h0 ?h1 ?h2 ?h3 ; h0=de h1=de h2=rfl h3=ff|r Sub.strAt ?h0 ?h1 ; h0=side h1=side|r Sub.str ?h0 ?h1 ; h0=de h1=rfl\ncallee|r Ev.builtin ?h0 DA ?h1 ?h2 ; h0=kr h1=dk h2=kr|r Ev.builtin ?h0 GA ?h1 ?h2 ; h0=kr h1=dk h2=kr|r Ev.builtin ?h0 gN ?h1 ?h2 ; h0=kr h1=dk h2=kr|r Ev.builtin ?h0 DB ?h1 ?h2 ; h0=kr h1=dk h2=kr|r Ev.builtin ?h0 sW ?h1 ?h2 ; h0=kr h1=dk h2=kr|r Ev.global ?h0 FM ?h1 ; h0=kr h1=kr|r Ev.global ?h0 FO ?h1 ; h0=kr h1=kr|r Ev.global ?h0 EZ ?h1 ; h0=kr h1=kr|r Ev.global ?h0 xO ?h1 ; h0=kr h1=kr|r Ev.global ?h0 F4 ?h1 ; h0=kr h1=kr|r Ev.global ?h0 Gn ?h1 ; h0=kr h1=kr|r Ev.global ?h0 Gl ?h1 ; h0=kr h1=kr|r Ev.global ?h0 Gm ?h1 ; h0=kr h1=kr|r Ev.global ?h0 FN ?h1 ; h0=kr h1=kr|r Ev.global ?h0 EY ?h1 ; h0=kr h1=kr|r Ev.global ?h0 qw ?h1 ; h0=kr h1=kr|r Ev.global ?h0 E4 ?h1 ; h0=kr h1=kr\nmay|e dw|e bd|e bb ( Do.up ( ag _ ) )|e bb ( Dm.up ( ag _ ) )|e bb ( Dl.up ( ag _ ) )|e bb ( BN.up ( ag _ ) )|e bb ( Dt.up ( ag _ ) )|e bb ( Dr.up ( ag _ ) )|e bb ( Dq.up ( ag _ ) )|e bb ( Dp.up ( ag _ ) )|e bb ( yz.up ( ag _ ) )|e bb ( Dk.up ( ag _ ) )|e bb ( pc.up ( ag _ ) )|e bb ( p0.up ( ag _ ) )|e bb BN|e bb Dt|e bb Dr|e bb Dq|e bb Dp|e bb yz|e bb Dk|e bb pc|e bb p0\nasg|r af ( az ( ae _ ) ?h0 ?h1 ( Bind.same ?h2 ) ?h3 ?h4 ) ?hrest ; h0=sd h1=ev h2=rfl h3=st h4=rfl|r af ( az bj ?h0 ?h1 ( Bind.same ?h2 ) ?h3 ?h4 ) ?hrest ; h0=sd h1=ev h2=rfl h3=st h4=rfl\nret|r aX ( CX ?h0 ) ?h1 ; h1=ic h0=ev\nswp|r af ( gJ ( ae _ ) ?h0 ?h1 ?h2 ?h3 ?h4 ?h5 ?h6 ) ?h7 ; h6=rfl h0=as h1=si h2=ev h3=fp h4=st2 h5=rfl|r af ( gJ bj ?h0 ?h1 ?h2 ?h3 ?h4 ?h5 ?h6 ) ?h7 ; h6=rfl h0=as h1=si h2=ev h3=fp h4=st2 h5=rfl\nflat|p rfl|p as|e gU _\nfew|p de|p fw\nnodup|e bR|r nf ?h0 ; h0=ff|r Cg ?h0 ; h0=fp\ntr|r Tr.cmp ?h0 ?h1 ?h2 ?h3 ; h0=ev h1=ev h2=cmp h3=rfl|r Tr.not ?h0 ; h0=tr|r Tr.many ?h0 ; h0=trs|r Tr.bool ?h0 ?h1 ; h0=ev h1=rfl\ntrs|e mI.and0|e mI.or0|r mI.andK ?h0 ?h1 ; h0=tr h1=trs|r mI.orK ?h0 ?h1 ; h0=tr h1=trs\nifT|r af ( cE ?h0 ?h1 ?hbody ) ?hrest ; h0=tr h1=ard\nifF|r af ( c7 ?h0 ?h1 ?hbody ) ?hrest ; h0=tr h1=ard\nifTr|r aX ( cE ?h0 ?h1 ?hbody ) ?hrest ; h0=tr h1=ard hrest=ic\nifFr|r aX ( c7 ?h0 ?h1 ?hbody ) ?hrest ; h0=tr h1=ard hrest=ic\nnil|e aq\nnorm|r am ?hrun ?hk ?hl ; hk=kr\nlooks|r lks_map ?h0 ; h0=kR|e dZ|r ak ?h0 ?h1 ; h0=lk h1=looks\nst2|r gW ?z0 ?z1 ; z0=st z1=st\n%as|(.assumption 'assumption )\n%om|(.omega 'omega (.optConfig [ ] ) )\n%de|(.decide 'decide (.optConfig [ ] ) )\n%dk|(.decide 'decide (.optConfig [ (.configItem (.posConfigItem '+ kernel ) ) ] ) )\n%rfl|(.tacticRfl 'rfl )\n%kr|(tacticKernel_rfl 'kernel_rfl )\n%kR|(PyProof.Rows.tacticKernel_rfl! 'kernel_rfl! )\n%si|(.simp 'simp (.optConfig [ ] ) [ ] [ ] [ ] [ ] )\n%sm|(.paren '( { (.simp 'simp (.optConfig [ ] ) [ ] [ 'only ] [ '[ [ (.simpLemma [ ] [ ] List.length_map ) ] '] ] [ ] ) '; (.omega 'omega (.optConfig [ ] ) ) } ') )\n%sb|(.paren '( { (.tacticHave__ 'have (:letConfig [ ] ) (:letDecl (:letIdDecl (:letId h ) [ ] [ ] ':= aU ) ) ) '; (.paren '( { (.tacticTry_ 'try { (.simp 'simp (.optConfig [ ] ) [ ] [ 'only ] [ '[ [ (.simpLemma [ ] [ ] Str.length_append ) ] '] ] [ (.location 'at (.locationWildcard '* ) ) ] ) } ) } ') ) '; (.omega 'omega (.optConfig [ ] ) ) } ') )\n%fw|(.paren '( { (.tacticHave__ 'have (:letConfig [ ] ) (:letDecl (:letIdDecl (:letId h ) [ ] [ ] ':= aU ) ) ) '; (.simp 'simp (.optConfig [ ] ) [ ] [ 'only ] [ '[ [ (.simpLemma [ ] [ ] List.length_cons ) ', (.simpLemma [ ] [ ] List.length_nil ) ] '] ] [ ] ) '; (.omega 'omega (.optConfig [ ] ) ) } ') )\n%np|(.exact 'exact ( PyProof.noPylong_small (:byTactic 'by { (.decide 'decide (.optConfig [ ] ) ) } ) ) )\n%ff|(.first 'first [ < (.tacticRfl 'rfl ) > < (.assumption 'assumption ) > ] )\n%ard|(.first 'first [ < (.assumption 'assumption ) > < (.tacticRfl 'rfl ) > < (.decide 'decide (.optConfig [ ] ) ) > ] )\n%fq|(.simpAll 'simp_all (.optConfig [ ] ) [ ] [ ] [ '[ [ (.simpLemma [ ] [ ] PV.flat ) ', (.simpLemma [ ] [ ] PV.flat.go ) ] '] ] )\n%sd|(.first 'first [ < (.paren '( { (.simp 'simp (.optConfig [ ] ) [ ] [ ] [ ] [ ] ) '; (.done 'done ) } ') ) > < (.paren '( { (.simp 'simp (.optConfig [ ] ) [ ] [ ] [ ] [ ] ) '; (.decide 'decide (.optConfig [ (.configItem (.posConfigItem '+ kernel ) ) ] ) ) } ') ) > ] )\n%st|(.first 'first [ < (.exact 'exact ( (:dotIdent '. inl ) (:byTactic 'by { (tacticKernel_rfl 'kernel_rfl ) } ) ) ) > < (.exact 'exact ( (:dotIdent '. inr ) (:anonymousCtor '⟨ [ (:byTactic 'by { (tacticKernel_rfl 'kernel_rfl ) } ) ', (:byTactic 'by { (tacticKernel_rfl 'kernel_rfl ) } ) ] '⟩ ) ) ) > ] )\n%ic|(.paren '( { (.intro 'intro [ e ] ) '; (.cases 'cases [ (.elimTarget [ ] e ) ] [ ] [ ] ) } ') )\n%i2r|(.paren '( { (.intro 'intro [ _ _ ] ) '; (.tacticRfl 'rfl ) } ') )\n%i2x|(.paren '( { (.intro 'intro [ _ _ ] ) '; (.exact 'exact (:anonymousCtor '⟨ [ _ ', rfl ] '⟩ ) ) } ') )".splitOn "\n").map (·.splitOn "|")
def Ct (k:String):List String:=((Gg.find? fun l=>l.head! ==k).getD []).drop 1
def mW (k:String):String:="(PyProof.Rows.tacticWalk_at_ 'walk_at \""++k++" )"
def mG (w:String):String:=match w.splitOn " ; " with
 |[t,k]=>"(.paren '( { (.refine' 'refine' ( "++t++" ) )"++L6 ((k.splitOn " ").map fun k=>match k.splitOn "=" with|[h,k]=>" '; (.case 'case [ (.caseArg (Lean.binderIdent !"++h++" ) [ ] ) ] '=> { "++mW k++" } )"|_=>"")++" } ') )"
 |_=>"(.refine' 'refine' ( "++w++" ) )"
def mA (r:String):String:=
 let w:=(r.drop 2).toString
 let v:=fun t=>"(.withReducible 'with_reducible { "++t++" } )"
 let e:="(.exact 'exact ( "++w++" ) )"
 match r.front with
 |'p'=>(Ct ("%"++w)).head!
 |'e'=>e
 |'v'=>v e
 |'k'=>"(.paren '( { "++mW w++" '; (.done 'done ) } ') )"
 |'w'=>v (mG w)
 |_=>mG w
open Lean in
local macro_rules (kind:=PyProof.Rows.tacticWalk_at_)|s=>let k:=(s[1].isStrLit?).getD "";match Ct k with
 |[]=>match Ct ("%"++k) with|p::_=>mM [] p|[]=>Jl
 |l=>mM [] ("(.first 'first [ "++L6 (l.map fun r=>"< "++mA r++" > ")++"] )")
set_option bootstrap.genMatcherCode false
section
theorem vW{α:Type}{P:List α→Prop}(h:P []): ∀ vs:List α,vs.length=0→P vs:=fun vs e=>by cases vs with
 |nil=>exact h
 |cons=>cases e
theorem FG{n:Nat}{α:Type}{P:List α→Prop}(h:∀ a,∀ vs:List α,vs.length=n→P (a::vs)): ∀ vs:List α,vs.length=n+1→P vs:=fun vs e=>by cases vs with
 |nil=>cases e
 |cons a r=>exact h a r (KH e)
theorem bY{α:Type}{P:List α→Prop}(h:∀ a,P [a]): ∀ vs:List α,vs.length=1→P vs:=FG fun a=>vW (h a)
theorem cc{α:Type}{P:List α→Prop}(h:∀ a b,P [a,b]): ∀ vs:List α,vs.length=2→P vs:=FG fun a=>bY (h a)
theorem r9{α:Type}{P:List α→Prop}(h:∀ a b c,P [a,b,c]): ∀ vs:List α,vs.length=3→P vs:=FG fun a=>cc (h a)
theorem Ea{α:Type}{P:List α→Prop}(h:∀ a b c d,P [a,b,c,d]): ∀ vs:List α,vs.length=4→P vs:=FG fun a=>r9 (h a)
theorem ki(i:Nat){f c:Addr}{xs:List Str}{body:List Stmt}{sc:Scope}{fd:Hy}{o oc:Obj}{ws:Array Value}{t:Tok}(a1:ay[i+1]? = some (f,o))(a2:ay[i]? = some (c,oc))(a3:o.data=.func fd)(a4:oc.data=.fields ws)(a5:ws[1]? = some (.str fd.qualname t))(a6:fd.code=.ref c)(b1:fd.body=.stmts body)(b2:fd.scope=sc)(b3:fd.globals=IB)(b4:fd.builtins=Ji)(b5:fd.closure=[])(b6:sc.isCoroutine=false)(b7:sc.isGenerator=false)(b8:sc.kind=.function)(nd:xs.Nodup)(nm:(xs.all fun x=>sc.names.lookup x==some .local||sc.names.lookup x==some .cell)=true)
  (bi:∀ vs:List Value,vs.length=xs.length→J4 fd ⟨vs,[]⟩=pure (xs.zip vs)) (ce:∀ k,∀ p∈Jg k sc.names [],(Jg k sc.names []).lookup p.1=some p.2):gS ay f xs body sc fd:=
 ⟨⟨o,cQ a1,a3⟩,⟨c,oc,ws,t,cQ a2,a4,a5,a6⟩,b1,b2,b3,b4,b5,b6,b7,b8,bi,nd,ce,nm⟩
noncomputable abbrev CV:Hy:=iC (aA 3 (H5 "__init__")) (H5 "_netrclex.__init__") (.str (H5 "cpy313.netrc") 289) 51 .none
theorem BO:gS ay 52 [H5 "self",H5 "fp"] (aF (aA 3 (H5 "__init__"))) (aQ (aA 3 (H5 "__init__"))) CV:=
 ki 0 rfl rfl rfl rfl rfl rfl rfl rfl rfl rfl rfl rfl rfl rfl (by decide +kernel) (by decide +kernel) (cc fun a b=>by kernel_rfl) fun k p hp=>by cases hp
noncomputable abbrev CU:Hy:=iC (aA 3 (H5 "_read_char")) (H5 "_netrclex._read_char") (.str (H5 "cpy313.netrc") 289) 58 .none
theorem nM:gS ay 59 [H5 "self"] (aF (aA 3 (H5 "_read_char"))) (aQ (aA 3 (H5 "_read_char"))) CU:=
 ki 2 rfl rfl rfl rfl rfl rfl rfl rfl rfl rfl rfl rfl rfl rfl (by decide +kernel) (by decide +kernel) (bY fun a=>by kernel_rfl) fun k p hp=>by cases hp
noncomputable abbrev AI:Hy:=iC (aA 3 (H5 "get_token")) (H5 "_netrclex.get_token") (.str (H5 "cpy313.netrc") 289) 65 .none
theorem m8:gS ay 66 [H5 "self"] (aF (aA 3 (H5 "get_token"))) (aQ (aA 3 (H5 "get_token"))) AI:=
 ki 4 rfl rfl rfl rfl rfl rfl rfl rfl rfl rfl rfl rfl rfl rfl (by decide +kernel) (by decide +kernel) (bY fun a=>by kernel_rfl) fun k p hp=>by cases hp
noncomputable abbrev Gt:Hy:=iC (aA 3 (H5 "push_token")) (H5 "_netrclex.push_token") (.str (H5 "cpy313.netrc") 289) 72 .none
theorem un:gS ay 73 [H5 "self",H5 "token"] (aF (aA 3 (H5 "push_token"))) (aQ (aA 3 (H5 "push_token"))) Gt:=
 ki 6 rfl rfl rfl rfl rfl rfl rfl rfl rfl rfl rfl rfl rfl rfl (by decide +kernel) (by decide +kernel) (cc fun a b=>by kernel_rfl) fun k p hp=>by cases hp
noncomputable abbrev CT:Hy:=iC (aO 7) (H5 "_strip_quoted_realnames") (.str (H5 "cpy313.email.utils") 349) 93 .none
theorem BN:gS ay 94 [H5 "addr"] (aF (aO 7)) (aQ (aO 7)) CT:=
 ki 10 rfl rfl rfl rfl rfl rfl rfl rfl rfl rfl rfl rfl rfl rfl (by decide +kernel) (by decide +kernel) (bY fun a=>by kernel_rfl) fun k p hp=>by cases hp
noncomputable abbrev yb:Hy:=iC (aO 8) (H5 "_check_parenthesis") (.str (H5 "cpy313.email.utils") 349) 100 .none
theorem Dt:gS ay 101 [H5 "addr"] (aF (aO 8)) (aQ (aO 8)) yb:=
 ki 12 rfl rfl rfl rfl rfl rfl rfl rfl rfl rfl rfl rfl rfl rfl (by decide +kernel) (by decide +kernel) (bY fun a=>by kernel_rfl) fun k p hp=>by cases hp
noncomputable abbrev Ff:Hy:=iC (aO 9) (H5 "decode_rfc2231") (.str (H5 "cpy313.email.utils") 349) 107 .none
theorem Dr:gS ay 108 [H5 "s"] (aF (aO 9)) (aQ (aO 9)) Ff:=
 ki 14 rfl rfl rfl rfl rfl rfl rfl rfl rfl rfl rfl rfl rfl rfl (by decide +kernel) (by decide +kernel) (bY fun a=>by kernel_rfl) fun k p hp=>by cases hp
noncomputable abbrev Fe:Hy:=iC (aO 61) (H5 "ISTERMINAL") (.str (H5 "cpy313.token") 393) 117 .none
theorem Dq:gS ay 118 [H5 "x"] (aF (aO 61)) (aQ (aO 61)) Fe:=
 ki 16 rfl rfl rfl rfl rfl rfl rfl rfl rfl rfl rfl rfl rfl rfl (by decide +kernel) (by decide +kernel) (bY fun a=>by kernel_rfl) fun k p hp=>by cases hp
noncomputable abbrev Fd:Hy:=iC (aO 62) (H5 "ISNONTERMINAL") (.str (H5 "cpy313.token") 393) 124 .none
theorem Dp:gS ay 125 [H5 "x"] (aF (aO 62)) (aQ (aO 62)) Fd:=
 ki 18 rfl rfl rfl rfl rfl rfl rfl rfl rfl rfl rfl rfl rfl rfl (by decide +kernel) (by decide +kernel) (bY fun a=>by kernel_rfl) fun k p hp=>by cases hp
noncomputable abbrev Fb:Hy:=iC (aA 66 (H5 "__setitem__")) (H5 "Headers.__setitem__") (.str (H5 "cpy313.wsgiref.headers") 604) 170 .none
theorem yB:gS ay 171 [H5 "self",H5 "name",H5 "val"] (aF (aA 66 (H5 "__setitem__"))) (aQ (aA 66 (H5 "__setitem__"))) Fb:=
 ki 27 rfl rfl rfl rfl rfl rfl rfl rfl rfl rfl rfl rfl rfl rfl (by decide +kernel) (by decide +kernel) (r9 fun a b c=>by kernel_rfl) fun k p hp=>by cases hp
noncomputable abbrev Fa:Hy:=iC (aA 66 (H5 "__delitem__")) (H5 "Headers.__delitem__") (.str (H5 "cpy313.wsgiref.headers") 604) 175 .none
theorem yA:gS ay 176 [H5 "self",H5 "name"] (aF (aA 66 (H5 "__delitem__"))) (aQ (aA 66 (H5 "__delitem__"))) Fa:=
 ki 29 rfl rfl rfl rfl rfl rfl rfl rfl rfl rfl rfl rfl rfl rfl (by decide +kernel) (by decide +kernel) (cc fun a b=>by kernel_rfl) fun k p hp=>by
  obtain e:Jg k (aQ (aA 66 (H5 "__delitem__"))).names []=[(H5 "name",k)]:=by kernel_rfl
  rw[e]at hp ⊢
  simp only[Ha,Hs,or_false]at hp
  subst hp
  exact di
noncomputable abbrev F9:Hy:=iC (aA 66 (H5 "items")) (H5 "Headers.items") (.str (H5 "cpy313.wsgiref.headers") 604) 221 .none
theorem sK:gS ay 222 [H5 "self"] (aF (aA 66 (H5 "items"))) (aQ (aA 66 (H5 "items"))) F9:=
 ki 44 rfl rfl rfl rfl rfl rfl rfl rfl rfl rfl rfl rfl rfl rfl (by decide +kernel) (by decide +kernel) (bY fun a=>by kernel_rfl) fun k p hp=>by cases hp
noncomputable abbrev ya:Hy:=iC (aA 66 (H5 "setdefault")) (H5 "Headers.setdefault") (.str (H5 "cpy313.wsgiref.headers") 604) 247 .none
theorem pd:gS ay 248 [H5 "self",H5 "name",H5 "value"] (aF (aA 66 (H5 "setdefault"))) (aQ (aA 66 (H5 "setdefault"))) ya:=
 ki 52 rfl rfl rfl rfl rfl rfl rfl rfl rfl rfl rfl rfl rfl rfl (by decide +kernel) (by decide +kernel) (r9 fun a b c=>by kernel_rfl) fun k p hp=>by cases hp
noncomputable abbrev y9:Hy:=iC (aO 68) (H5 "_law_tree") (.str (H5 "law_sh0065_01") 823) 266 .none
theorem Do:gS ay 267 [H5 "number",H5 "letters"] (aF (aO 68)) (aQ (aO 68)) y9:=
 ki 56 rfl rfl rfl rfl rfl rfl rfl rfl rfl rfl rfl rfl rfl rfl (by decide +kernel) (by decide +kernel) (cc fun a b=>by kernel_rfl) fun k p hp=>by
  obtain e:Jg k (aQ (aO 68)).names []=[(H5 "letters",k+1),(H5 "number",k)]:=by kernel_rfl
  skip
  rcases bN hp with rfl | rfl
  ·exact di
  ·exact gD (by kernel_rfl) di
noncomputable abbrev y8:Hy:=iC (aO 69) (H5 "_law_text") (.str (H5 "law_sh0065_01") 823) 273 .none
theorem yz:gS ay 274 [H5 "tree"] (aF (aO 69)) (aQ (aO 69)) y8:=
 ki 58 rfl rfl rfl rfl rfl rfl rfl rfl rfl rfl rfl rfl rfl rfl (by decide +kernel) (by decide +kernel) (bY fun a=>by kernel_rfl) fun k p hp=>by cases hp
noncomputable abbrev F8:Hy:=iC (aO 70) (H5 "_law_mark") (.str (H5 "law_sh0065_01") 823) 280 .none
theorem Dm:gS ay 281 [H5 "text",H5 "number"] (aF (aO 70)) (aQ (aO 70)) F8:=
 ki 60 rfl rfl rfl rfl rfl rfl rfl rfl rfl rfl rfl rfl rfl rfl (by decide +kernel) (by decide +kernel) (cc fun a b=>by kernel_rfl) fun k p hp=>by cases hp
noncomputable abbrev F7:Hy:=iC (aO 71) (H5 "_law_dress") (.str (H5 "law_sh0065_01") 823) 285 .none
theorem Dl:gS ay 286 [H5 "word",H5 "number"] (aF (aO 71)) (aQ (aO 71)) F7:=
 ki 62 rfl rfl rfl rfl rfl rfl rfl rfl rfl rfl rfl rfl rfl rfl (by decide +kernel) (by decide +kernel) (cc fun a b=>by kernel_rfl) fun k p hp=>by
  obtain e:Jg k (aQ (aO 71)).names []=[(H5 "how",k)]:=by kernel_rfl
  rw[e]at hp ⊢
  simp only[Ha,Hs,or_false]at hp
  subst hp
  exact di
noncomputable abbrev u7:Hy:=iC (aO 72) (H5 "_law_lexer") (.str (H5 "law_sh0065_01") 823) 292 .none
theorem sJ:gS ay 293 [H5 "text"] (aF (aO 72)) (aQ (aO 72)) u7:=
 ki 64 rfl rfl rfl rfl rfl rfl rfl rfl rfl rfl rfl rfl rfl rfl (by decide +kernel) (by decide +kernel) (bY fun a=>by kernel_rfl) fun k p hp=>by
  obtain e:Jg k (aQ (aO 72)).names []=[(H5 "rest",k)]:=by kernel_rfl
  rw[e]at hp ⊢
  simp only[Ha,Hs,or_false]at hp
  subst hp
  exact di
noncomputable abbrev u6:Hy:=iC (aO 73) (H5 "_law_read") (.str (H5 "law_sh0065_01") 823) 299 .none
theorem sI:gS ay 300 [H5 "lexer"] (aF (aO 73)) (aQ (aO 73)) u6:=
 ki 66 rfl rfl rfl rfl rfl rfl rfl rfl rfl rfl rfl rfl rfl rfl (by decide +kernel) (by decide +kernel) (bY fun a=>by kernel_rfl) fun k p hp=>by cases hp
noncomputable abbrev BM:Hy:=iC (aO 74) (H5 "_law_split") (.str (H5 "law_sh0065_01") 823) 306 .none
theorem Dk:gS ay 307 [H5 "formula"] (aF (aO 74)) (aQ (aO 74)) BM:=
 ki 68 rfl rfl rfl rfl rfl rfl rfl rfl rfl rfl rfl rfl rfl rfl (by decide +kernel) (by decide +kernel) (bY fun a=>by kernel_rfl) fun k p hp=>by cases hp
noncomputable abbrev lW:Hy:=iC (aO 75) (H5 "_law_value") (.str (H5 "law_sh0065_01") 823) 313 .none
theorem jP:gS ay 314 [H5 "formula",H5 "book",H5 "values"] (aF (aO 75)) (aQ (aO 75)) lW:=
 ki 70 rfl rfl rfl rfl rfl rfl rfl rfl rfl rfl rfl rfl rfl rfl (by decide +kernel) (by decide +kernel) (r9 fun a b c=>by kernel_rfl) fun k p hp=>by cases hp
noncomputable abbrev y7:Hy:=iC (aO 76) (H5 "_law_back") (.str (H5 "law_sh0065_01") 823) 320 .none
theorem sH:gS ay 321 [H5 "lexer",H5 "book",H5 "values",H5 "slopes"] (aF (aO 76)) (aQ (aO 76)) y7:=
 ki 72 rfl rfl rfl rfl rfl rfl rfl rfl rfl rfl rfl rfl rfl rfl (by decide +kernel) (by decide +kernel) (Ea fun a b c d=>by kernel_rfl) fun k p hp=>by cases hp
noncomputable abbrev y6:Hy:=iC (aO 77) (H5 "_law_worth") (.str (H5 "law_sh0065_01") 823) 327 .none
theorem pc:gS ay 328 [H5 "tree",H5 "known"] (aF (aO 77)) (aQ (aO 77)) y6:=
 ki 74 rfl rfl rfl rfl rfl rfl rfl rfl rfl rfl rfl rfl rfl rfl (by decide +kernel) (by decide +kernel) (cc fun a b=>by kernel_rfl) fun k p hp=>by cases hp
noncomputable abbrev qG:Hy:=iC (aO 78) (H5 "_law_leaves") (.str (H5 "law_sh0065_01") 823) 334 .none
theorem p0:gS ay 335 [H5 "tree",H5 "p",H5 "goal",H5 "depth"] (aF (aO 78)) (aQ (aO 78)) qG:=
 ki 76 rfl rfl rfl rfl rfl rfl rfl rfl rfl rfl rfl rfl rfl rfl (by decide +kernel) (by decide +kernel) (Ea fun a b c d=>by kernel_rfl) fun k p hp=>by cases hp
noncomputable abbrev u5:Hy:=iC (aO 79) (H5 "_law_due") (.str (H5 "law_sh0065_01") 823) 339 .none
theorem sG:gS ay 340 [H5 "p",H5 "q",H5 "x",H5 "y"] (aF (aO 79)) (aQ (aO 79)) u5:=
 ki 78 rfl rfl rfl rfl rfl rfl rfl rfl rfl rfl rfl rfl rfl rfl (by decide +kernel) (by decide +kernel) (Ea fun a b c d=>by kernel_rfl) fun k p hp=>by
  obtain e:Jg k (aQ (aO 79)).names []=[(H5 "letter",k+1),(H5 "goal",k)]:=by kernel_rfl
  skip
  rcases bN hp with rfl | rfl
  ·exact di
  ·exact gD (by kernel_rfl) di
noncomputable abbrev y5:Hy:=iC (aO 80) (H5 "law") (.str (H5 "law_sh0065_01") 823) 346 .none
theorem yx:gS ay 347 [H5 "script"] (aF (aO 80)) (aQ (aO 80)) y5:=
 ki 80 rfl rfl rfl rfl rfl rfl rfl rfl rfl rfl rfl rfl rfl rfl (by decide +kernel) (by decide +kernel) (bY fun a=>by kernel_rfl) fun k p hp=>by cases hp
end
section
inductive T where
 |leaf(s:Str)
 |node(op:Str)(l r:T)
noncomputable def T.pv:T→PV
 | .leaf s=>.str s
 | .node op l r=>.tup [.str op,l.pv,r.pv]
noncomputable def T.text:T→Str
 | .leaf s=>s
 | .node op l r=>H5 "("++l.text++op++r.text++H5 ")"
noncomputable def T.depth:T→Nat
 | .leaf _=>0
 | .node _ l r=>1+max l.depth r.depth
theorem T.flat:∀ t:T,t.pv.flat=true
 | .leaf _=>rfl
 | .node _ l r=>by simp[T.pv,PV.flat,PV.flat.go,T.flat l,T.flat r]
theorem T.seen:∀ t:T,t.pv.seen=t.pv
 | .leaf _=>rfl
 | .node _ _ _=>rfl
theorem T.notOwn:∀ t:T,t.pv.isOwn=false
 | .leaf _=>rfl
 | .node _ l r=>rfl
section
variable{w:World}{A:Around}
theorem EB(i:Int)(ro:Ro A 2): au aa ay w A (.ref 118) [.int i] (.bool (decide (i<256))) true:=
 bE Dq ro rfl (dg rfl) fun L ro'=>⟨_,by
  refine aX (cJ (f:=true) ?_ rfl) (by nofun)
  walk_at "ev"⟩
theorem Bu(i:Int)(ro:Ro A 2): au aa ay w A (.ref 125) [.int i] (.bool (decide (256≤i))) true:=
 bE Dp ro rfl (dg rfl) fun L ro'=>⟨_,by
  refine aX (cJ (f:=true) ?_ rfl) (by nofun)
  walk_at "ev"⟩
theorem tG(w:World): ∀(t:T) (A:Around),t.text.length≤1000→Ro A (t.depth+1)→au aa ay w A (.ref 274) [t.pv] (.str t.text) true
 | .leaf s,A,hs,ro=>bE yz ro rfl (dg rfl) fun L ro'=>⟨_,by
   refine aX (cJ (f:=true) ?_ rfl) (by nofun)
   refine Ev.ifexp (c:=true) (Tr.bool (f:=true) ?_ rfl) (fun _=>?_) (by nofun)
   ·show Ev _ _ _ _ _ ([H5 "tree"].zip [PV.str s]) _ _ _
    walk_at "ev"
   ·show Ev _ _ _ _ _ ([H5 "tree"].zip [PV.str s]) _ (PV.str s) _
    walk_at "ev"⟩
 | .node op l r,A,hs,ro=>bE yz ro rfl (dg rfl) fun L ro'=>⟨_,by
   have ro1:Ro (A.deeper (ah 274 y8 L)) (l.depth+1):=ro'.le (by simp only[T.depth];omega)
   have ro2:Ro (A.deeper (ah 274 y8 L)) (r.depth+1):=ro'.le (by simp only[T.depth];omega)
   have fl:=l.flat
   have sl:=l.seen
   have sr:=r.seen
   have fr:=r.flat
   simp only[T.text,HI]at hs
   have hl:=tG w l _ (by omega) ro1
   have hr:=tG w r _ (by omega) ro2
   refine aX (cJ (f:=true) ?_ rfl) (by nofun)
   refine Ev.ifexp (c:=false) (Tr.bool (f:=true) ?_ rfl) (by nofun) (fun _=>?_)
   ·show Ev _ _ _ _ _ ([H5 "tree"].zip [PV.tup [.str op,l.pv,r.pv]]) _ _ _
    walk_at "ev"
   ·show Ev _ _ _ _ _ ([H5 "tree"].zip [PV.tup [.str op,l.pv,r.pv]]) _ (PV.str (H5 "("++l.text++op++r.text++H5 ")")) _
    walk_at "ev"⟩
end
end
section
noncomputable def eZ(n:Int): Str:=if n.fmod 3=0 then H5 "" else if n.fmod 3=1 then H5 "\"'(\"" else H5 "\")\\\"\""
noncomputable def iZ(t:Str)(n:Int): Str:=aM t none (some ((n.fdiv 3).fmod 10))++eZ n++aM t (some ((n.fdiv 3).fmod 10)) none++eZ n
theorem iw(n:Int): (eZ n).length≤10:=by
 unfold eZ;split
 ·decide +kernel
 ·split <;> decide +kernel
theorem bM(x:Str)(l u:Option Int): (aM x l u).length≤x.length:=
 H6 (HM (JC ..)) (H6 (Nat.min_le_right _ _) (H6 (HM Kb) (Mp _ _)))
section
variable{w:World}{A:Around}
theorem x5(t:Str)(n:Int)(ht:t.length≤1000)(ro:Ro A 2): au aa ay w A (.ref 281) [.str t,.int n] (.str (iZ t n)) true:=
 bE Dm ro rfl (dg rfl) fun L ro'=>⟨_,by
  obtain h3:n.fmod 3=0∨n.fmod 3=1∨n.fmod 3=2:=by
   obtain this:=IH n (b:=3) (by decide);obtain this:=J8 n (b:=3) (by decide);omega
  obtain h4:=iw n
  obtain h5:=bM t none (some ((n.fdiv 3).fmod 10))
  obtain h6:=bM t (some ((n.fdiv 3).fmod 10)) none
  walk_at "asg"
  refine af (az (p:=.str (eZ n)) bj (by simp) ?_ (Bind.same rfl) (.inl (by kernel_rfl)) (by rfl)) ?_
  ·refine Ev.sub (p:=.lst [.str (H5 ""),.str (H5 "\"'(\""),.str (H5 "\")\\\"\"")]) (q:=.int (n.fmod 3)) (f1:=true) (f2:=true) (by walk_at "ev") (by walk_at "ev") ?_ (by intro _ _;exact⟨_,rfl⟩)
   unfold eZ
   rcases h3 with h | h | h <;> rw[h] <;> exact Sub.lst (by decide) (by decide) (by rfl) rfl
  skip
  walk_at "ret"⟩
end
end
section
section
variable{w:World}{A:Around}
noncomputable def iI(w:World)(l:List (Str×Int×PV)): Prop:=∀ q∈l,q.2.1=hashStr w q.1
theorem eG.keys{h:Heap}{w:World}{l:List (Str×Int×PV)}{es:List HP}{F:List Addr}(d:eG h l es F): iI w l→∀ e∈es,∃ k,(strKind pw w).is k e.key=true∧e.hash=(strKind pw w).hash k:=by
 induction d using eG.ind with
 |nil=>exact fun _ e he=>nomatch he
 | @cons x p hs t v F ps es G a b ih=>
  intro hw e he
  rcases Ha.mp he with rfl | he
  ·exact⟨x,by simp[IE,Jb],hw (x,_,_) (.head _)⟩
  ·exact ih (fun q hq=>hw q (.tail _ hq)) e he
theorem eG.find{h:Heap}{x:Str}: ∀{l:List (Str×Int×PV)} {es:List HP} {F:List Addr} {q:Int×PV},eG h l es F→l.lookup x=some q→
  ∃ v H,(es.find? fun e=>Jb x e.key).map (·.val)=some v∧VR h q.2 v H∧∀ b∈H,b∈F:=by
 intro l es F q z e
 induction z using eG.ind with
 |nil=>cases e
 | @cons y p hs t v H ps es G a b ih=>
  rw[HA]at e
  by_cases hxy:x=y
  ·subst hxy
   simp only[beq_self_eq_true]at e
   cases e
   exact⟨v,H,by simp[Jb],a,fun b hb=>H8 _ hb⟩
  ·obtain hf:(x==y)=false:=by simpa using hxy
   rw[hf]at e
   obtain⟨v',H',h1,h2,h3⟩:=ih e
   obtain hyx:(y==x)=false:=by simpa using fun e=>hxy e.symm
   exact⟨v',H',by rw[Lc];simp only[Jb,hyx];exact h1,h2,fun b hb=>Hb _ (h3 b hb)⟩
theorem uo{h:Heap}{a:Addr}{es:List HP}{n:Nat}{l:List (Str×Int×PV)}{F:List Addr}(e:h.get? a=some (bH es n))(d:eG h l es F)(hw:iI w l):
  h.MapOf (strKind pw w) a (fun x=>(es.find? fun e=>Jb x e.key).map (·.val)):=
 ⟨_,es.toArray,n,e,⟨rfl,rfl,rfl⟩,rfl,fun e he=>d.keys hw e (by simpa using he),fun k=>by
  unfold findBy
  simp[IE]⟩
theorem Sub.dct{l:List (Str×Int×PV)}{x:Str}{hs:Int}{p:PV}(hw:iI w l)(hp:l.lookup x=some (hs,p))(hf:p.flat=true): Sub w A (.dct l) (.str x) p true:=by
 constructor;intro s a b F H x y
 cases x with
 | @dct _ _ es n _ e z _=>
  cases y with
  |str _ t=>
   obtain⟨v,H',hv,zv,_⟩:=z.find hp
   obtain hm:=uo (w:=w) e z hw
   refine⟨⟨"dict",_,hm.typeIs,slot_dict_getitem.lookup⟩,?_⟩
   exact wpAny_getItem_of (by simp[IE,Jb]) hm hv ⟨.ofToks,H',zv.kept0 (.refl _ _),fun _ b hb=>by rw[zv.flat hf]at hb;cases hb⟩
end
end
section
section
variable{M:Model}
theorem pF(h:Heap)(a:Addr)(f:Obj→Obj): (h.update a f).objs.size=h.objs.size:=by
 simp only[Heap.update];first | exact Array.size_modify | (split <;> simp)
noncomputable def Fr(s s':Shared): Prop:=s.heap.objs.size≤s'.heap.objs.size∧(AllBare s.gens→AllBare s'.gens)
theorem Fr.refl(s:Shared): Fr s s:=⟨Hw _,id⟩
theorem Fr.trans{s s1 s2:Shared}(a:Fr s s1)(b:Fr s1 s2): Fr s s2:=⟨H6 a.1 b.1,fun x=>b.2 (a.2 x)⟩
theorem r8{s:Shared}{g:Nat}{x:L7}(hx:x.bare=true)(h:AllBare s.gens): AllBare (s.setGen g x).gens:=by
 intro y hy
 rcases Array.mem_or_eq_of_mem_setIfInBounds hy with m | rfl
 ·exact h y m
 ·exact hx
theorem Fr.set{s:Shared}{g:Nat}{x:L7}(hx:x.bare=true): Fr s (s.setGen g x):=⟨Hw _,r8 hx⟩
theorem jz{Γ:Ctx}{p:Pos}{t:Sem Fin}{fs:List Frame}{s s':Shared}{e:End}(h:Runs M Γ p t fs s e s'): Fr s s':=by
 induction h with
 |done | raise | yield=>exact Fr.refl _
 |update _ _ ih=>exact⟨H6 (HM (pF _ _ _).symm) ih.1,ih.2⟩
 |alloc _ ih=>exact⟨H6 (aj.push _ _).size ih.1,ih.2⟩
 |newGen _ ih=>exact⟨ih.1,fun b=>ih.2 (b.push rfl)⟩
 |call _ _ a b | segRet _ _ a b=>exact a.trans b
 |resumeFresh _ _ hq _ a b | resumeSuspended _ _ hq _ a b=>exact(Fr.set rfl).trans (a.trans ((Fr.set (KJ hq)).trans b))
 |resumeThrowFresh _ _ ih=>exact(Fr.set rfl).trans ih
 |segGen _ _ a b=>exact a.trans ((Fr.set rfl).trans b)
 |segSuspGen _ _ hq _ a b=>exact a.trans ((Fr.set (KJ hq)).trans b)
 |_=>assumption
theorem rf{Γ:Ctx}{p:Pos}{g:Nat}{r:Resume}{s s':Shared}{res:GenResult}(h:Wakes M Γ p g r s res s'): Fr s s':=by
 unfold Wakes at h
 split at h
 ·exact h.elim
 ·split at h
  ·obtain⟨e,s1,h1,hq,_,rfl⟩:=h;exact(Fr.set rfl).trans ((jz h1).trans (Fr.set (KJ hq)))
  ·obtain⟨_,rfl⟩:=h;exact Fr.refl _
  ·obtain⟨_,rfl⟩:=h;exact Fr.set rfl
 ·obtain⟨e,s1,h1,hq,_,rfl⟩:=h;exact(Fr.set rfl).trans ((jz h1).trans (Fr.set (KJ hq)))
 ·obtain⟨_,rfl⟩:=h;exact Fr.refl _
 ·obtain⟨_,rfl⟩:=h;exact Fr.refl _
set_option tactic.hygienic true in
theorem zA{α:Type}{Γ:Ctx}{Q:α→Pos→Shared→Prop}{E:Value→Pos→Shared→Prop}(t:Sem α): ∀ p s,Sem.wp M Γ t Q E p s→Sem.wp M Γ t (fun a p' s'=>Q a p' s'∧Fr s s') (fun x p' s'=>E x p' s'∧Fr s s') p s:=by
 have mono:∀{s s1:Shared} {t:Sem α} {p:Pos} {s2:Shared},Sem.wp M Γ t (fun a p' s'=>Q a p' s'∧Fr s1 s') (fun x p' s'=>E x p' s'∧Fr s1 s') p s2→Fr s s1→
   Sem.wp M Γ t (fun a p' s'=>Q a p' s'∧Fr s s') (fun x p' s'=>E x p' s'∧Fr s s') p s2:=fun{_ _ t p s} x k=>
  Sem.wp_mono M Γ t (fun _ _ _ y=>⟨y.1,k.trans y.2⟩) (fun _ _ _ y=>⟨y.1,k.trans y.2⟩) p s x
 induction t with
 |pure a | raise e=>intro p s h;exact⟨h,Fr.refl _⟩
 |load a pt k ih=>intro p s h;obtain⟨o,e,h⟩:=h;exact⟨o,e,ih o p s h⟩
 |update a pt f k ih=>intro p s h;obtain⟨e,h⟩:=h;exact⟨e,mono (ih () p _ h) ⟨HM (pF _ _ _).symm,id⟩⟩
 |alloc o k ih=>intro p s h;exact(mono (s:=s) (ih _ p _ h) ⟨(aj.push _ _).size,id⟩ :)
 |newGen c k ih=>intro p s h;exact(mono (s:=s) (ih _ p _ h) ⟨Hw _,fun b=>AllBare.push (g:=.fresh c) b rfl⟩ :)
 |choose src n k ih=>intro p s h;exact⟨h.1,ih _ p _ h.2⟩
 |genState g k ih=>intro p s h;obtain⟨o,e,h⟩:=h;exact⟨o,e,ih _ p s h⟩
 |call c hd g l k ih=>
  intro p s h
  obtain⟨r,s1,h1,h2⟩:=h
  exact⟨r,s1,h1,mono (ih r p s1 h2) (jz h1)⟩
 |resume g r l k ih=>
  intro p s h
  obtain⟨res,s1,h1,h2⟩:=h
  exact⟨res,s1,h1,mono (ih res p s1 h2) (rf h1)⟩
 |unsupported | finish | register | yield | fork | await=>intro p s h;exact h.elim
 |_=>rename_i ih;intro p s h;exact ih _ _ _ h
theorem fO{α:Type}{A:Around}{t:Sem α}{Q:α→Shared→Prop}{E:Value→Shared→Prop}{s:Shared}(h:wpAny M A t Q E s):
  wpAny M A t (fun a s'=>Q a s'∧s.heap.objs.size≤s'.heap.objs.size∧(AllBare s.gens→AllBare s'.gens)) (fun x s'=>E x s'∧s.heap.objs.size≤s'.heap.objs.size∧(AllBare s.gens→AllBare s'.gens)) s:=
 fun Γ p hΓ=>zA t p s (h Γ p hΓ)
theorem cA{α:Type}{A:Around}{t:Sem α}{Q:α→Shared→Prop}{E:Value→Shared→Prop}{s:Shared}(h:wpAny M A t Q E s):
  wpAny M A t (fun a s'=>Q a s'∧s.heap.objs.size≤s'.heap.objs.size) (fun x s'=>E x s'∧s.heap.objs.size≤s'.heap.objs.size) s:=
 Hf (fO h) (fun _ _ y=>⟨y.1,y.2.1⟩) (fun _ _ y=>⟨y.1,y.2.1⟩)
end
end
section
noncomputable def bl:List Str→List PV→List (Str×PV)→List (Str×PV)
 |x::xs,p::ps,l=>bl xs ps (ab x p l)
 |_,_,l=>l
noncomputable def pz(env:Env)(t:Value→Sem Unit)(x:Str): Prop:=∀(M:Model) (A:Around) (E:Value→Shared→Prop) (s:Shared) (Q:Unit→Shared→Prop) (v:Value),wpAny M A (MU env x v) Q E s→wpAny M A (t v) Q E s
noncomputable def kL(env:Env): List (Value→Sem Unit)→List Str→Prop
 |[],[]=>True
 |t::ts,x::xs=>pz env t x∧kL env ts xs
 |_,_=>False
theorem aI(env:Env)(x:Str)(pos:Pos): pz env (assign (.Name x pos) env) x:=fun M A E s Q v h=>assign_Name h
theorem pj(env:Env)(x:Str): pz env (bindName env x) x:=fun M A E s Q v h=>wpAny_bindName h
theorem gO(env:Env): ∀ xs:List Str,kL env (xs.map fun n=>bindName env n) xs
 |[]=>trivial
 |x::xs=>⟨pj env x,gO env xs⟩
section
variable{gt:List (Str×Value)}{K:List (Addr×Obj)}{pins:List (Str×Addr)}{w:World}{A:Around}{env:Env}
theorem kK{s s':Shared}(h:MJ s.heap.objs.size s.heap s'.heap)(z:s.heap.objs.size≤s'.heap.objs.size): aj [] s.heap s'.heap:=
 ⟨z,fun b o e _=>h b o (Im (Hr e)) e⟩
theorem dS{n:Nat}(hK:∀ q∈K,q.1<348)(h348:348≤n): ∀(xs:List Str) (ps:List PV) (vs:List Value) (ts:List (Value→Sem Unit)) (F:List Addr) (locs:List (Str×PV)) (Fs:List (List Addr)) (s:Shared),kL env ts xs→(∀ x∈xs,x∉pins.map (·.1))→(∀ x∈xs,aJ env x)→
  bw gt K pins env locs Fs s→bf s.heap ps vs F→F.Nodup→(∀ b∈F,b∉env.locals::env.cells.map (·.2)++Fs.flatten)→(∀ b∈F,n≤b)→xs.length=ps.length→
  wpAny (model pw w) A (assignInOrder ts vs) (fun _ s'=>∃ Fs',bw gt K pins env (bl xs ps locs) Fs' s'∧aG (env.locals::env.cells.map (·.2)) s s'∧∀ b∈ow env (bl xs ps locs) Fs',b∈ow env locs Fs∨n≤b) (fun _ _=>False) s:=by
 intro xs
 induction xs with
 |nil=>
  intro ps vs ts F locs Fs s hb hp hk I z nd hd hn hl
  cases ps with
  |cons=>cases hl
  |nil=>cases ts with
   |nil=>exact assignInOrder_nil ⟨Fs,I,.refl _ _,fun b hb=>.inl hb⟩
   |cons=>exact hb.elim
 |cons x xs ih=>
  intro ps vs ts F locs Fs s hb hp hk I z nd hd hn hl
  cases ps with
  |nil=>cases hl
  |cons p ps=>cases ts with
   |nil=>exact hb.elim
   |cons t ts=>cases z with
    | @cons _ v F _ vs H z zs=>
     rw[Hn]at nd
     obtain⟨nd1,nd2,nd3⟩:=nd
     refine assignInOrder_cons (hb.1 _ _ _ _ _ _ (Hf (fN hK (hp _ (.head _)) I (hk _ (.head _)) z nd1 (fun b hb=>hd b (H8 _ hb)) (fun b hb=>hn b (H8 _ hb)) h348)
      (fun _ s1 ⟨Fs1,I1,k1,o1,f1⟩=>?_) fun _ _ e=>e))
     have hz:∀ b∈H,b∉env.locals::env.cells.map (·.2):=fun b hb hm=>hd b (Hb _ hb) (H8 _ hm)
     refine Hf (ih ps _ ts H _ Fs1 s1 hb.2 (fun y hy=>hp y (.tail _ hy)) (fun y hy=>hk y (.tail _ hy)) I1 (zs.kept k1.heap hz) nd2 (fun b hb=>?_) (fun b hb=>hn b (Hb _ hb)) (by simpa using hl))
      (fun _ s2 ⟨Fs2,I2,k2,o2⟩=>⟨Fs2,I2,k1.trans k2,fun b hb=>(o2 b hb).elim (o1 b) .inr⟩) fun _ _ e=>e
     intro hm
     rcases H9.mp hm with hm | hm
     ·exact hz b hb hm
     ·rcases f1 b hm with hm | hm
      ·exact nd3 b hm b hb rfl
      ·exact hd b (Hb _ hb) (Hb _ hm)
theorem ir{s:Shared}{ps:List PV}{v:Value}{F:List Addr}{n:Nat}(hh:A.handled=none)(z:VR s.heap (.tup ps) v F)(hn:n=ps.length):
  wpAny (model pw w) A (unpackItems v n none) (fun vs s'=>aG [] s s'∧bf s'.heap ps vs F) (fun _ _=>False) s:=by
 cases z with
 | @tup _ a vs m _ e1 z nd=>
  obtain hsz:n=vs.toArray.size:=by rw[hn];simpa using z.length.symm
  subst hsz
  refine Hf (cA (unpackItems_tuple (Q:=fun r s'=>r=vs∧∃ h',MJ s.heap.objs.size s.heap h'∧s'={ s with heap:=h' }) hh ⟨_,e1,rfl,_,rfl⟩ fun h' he=>⟨rfl,h',he,rfl⟩)) (fun r s' hh=>?_) fun _ _ x=>x.1
  obtain⟨⟨e,h',he,es⟩,hz⟩:=hh
  subst e es
  obtain k:=kK (s:=s) (s':={ s with heap:=h' }) he hz
  exact⟨⟨k,fun _ _ e=>e,id,rfl⟩,z.kept0 k⟩
theorem ri{s:Shared}{ps:List PV}{a:Addr}{vs:List Value}{m:Nat}{F:List Addr}{n:Nat}(hh:A.handled=none)(e1:s.heap.get? a=some (bn vs m))(z:bf s.heap ps vs F)(hn:n=ps.length):
  wpAny (model pw w) A (unpackItems (.ref a) n none) (fun vs s'=>aG [] s s'∧bf s'.heap ps vs F) (fun _ _=>False) s:=by
 obtain hsz:n=vs.toArray.size:=by rw[hn];simpa using z.length.symm
 subst hsz
 refine Hf (cA (PySem.W.kun_itemsOf (Q:=fun r s'=>r=vs∧∃ h',MJ s.heap.objs.size s.heap h'∧s'={ s with heap:=h' }) hh ⟨_,e1,rfl,_,rfl⟩ fun h' he=>⟨rfl,h',he,rfl⟩)) (fun r s' hh=>?_) fun _ _ x=>x.1
 obtain⟨⟨e,h',he,es⟩,hz⟩:=hh
 subst e es
 obtain k:=kK (s:=s) (s':={ s with heap:=h' }) he hz
 exact⟨⟨k,fun _ _ e=>e,id,rfl⟩,z.kept0 k⟩
variable{locs:List (Str×PV)}
theorem eN{xs:List Str}{elts:List Expr}{k:Nat}{tpos:Pos}{ps:List PV}{n:Nat}{Fs:List (List Addr)}{s:Shared}{v:Value}{F:List Addr}(hK:∀ q∈K,q.1<348)(h348:348≤n)(hh:A.handled=none)(hpin:∀ x∈xs,x∉pins.map (·.1))(hl:xs.length=ps.length)
  (hk:∀ x∈xs,aJ env x) (hb:kL env ((Jj elts env).map (·.2)) xs) (hn:(Jj elts env).length=xs.length) (hstar:(Jj elts env).findIdx? (·.1)=none)
  (I:bw gt K pins env locs Fs s) (z:VR s.heap (.tup ps) v F) (hF:∀ b∈F,n≤b) (hd:∀ b∈F,b∉env.locals::env.cells.map (·.2)++Fs.flatten):
  wpAny (model pw w) A (assign (.Tuple elts k tpos) env v) (fun _ s'=>∃ Fs',bw gt K pins env (bl xs ps locs) Fs' s'∧aG (env.locals::env.cells.map (·.2)) s s'∧∀ b∈ow env (bl xs ps locs) Fs',b∈ow env locs Fs∨n≤b) (fun _ _=>False) s:=by
 rw[assign_Tuple]
 refine Hc (Km ?_)
 unfold unpack
 rw[hstar]
 obtain nd:=z.nodup
 refine Hc (IF (Pw.andThen (ir hh z (hn.trans hl)) fun vs s1 hh=>?_))
 obtain⟨k1,zs⟩:=hh
 refine Pw.andThen (dS hK h348 xs ps vs _ F locs Fs s1 hb hpin hk (I.step0 k1) zs nd hd hF hl) fun _ s2 ⟨Fs2,I2,k2,o2⟩=>⟨Fs2,I2,k1.all.trans k2,o2⟩
theorem vi{xs:List Str}{elts:List Expr}{k:Nat}{tpos pos:Pos}{e:Expr}{ps:List PV}(hK:∀ q∈K,q.1<348)(hh:A.handled=none)(hpin:∀ x∈xs,x∉pins.map (·.1))(h:Ev gt K w A env locs e (.tup ps) true)(hl:xs.length=ps.length)
  (hk:∀ x∈xs,aJ env x) (hb:kL env ((Jj elts env).map (·.2)) xs) (hn:(Jj elts env).length=xs.length) (hstar:(Jj elts env).findIdx? (·.1)=none)
  (hs:Kn [.Tuple elts k tpos] e pos.line env=pure false) (hw:Ko [.Tuple elts k tpos] e env=pure none):
  Ex gt K pins w A env (exec (.Assign [.Tuple elts k tpos] e pos) env) locs .next (bl xs ps locs):=.mk fun s Fs I=>
 Assign_Tuple (Pw.andThen (h.run s Fs I.g I.er) fun v s1 hh=>by
  obtain⟨k1,F,z,fr⟩:=hh
  obtain fr:=fr rfl
  refine Pw.andThen (eN hK (n:=s.heap.objs.size) I.g.low hh hpin hl hk hb hn hstar (I.step0 k1) z fr fun b hb hm=>absurd (I.lt b hm) (Hz.mpr (fr b hb))) fun _ s2 hh=>?_
  obtain⟨Fs2,I2,k2,o2⟩:=hh
  exact⟨k1.all.trans (k2.mono fun b hb=>H8 _ hb),rfl,⟨Fs2,I2,o2⟩⟩) hs hw
theorem bf.rev{h:Heap}{ps:List PV}{vs:List Value}(z:bf h ps vs []): bf h ps.reverse vs.reverse []:=by
 have app:∀{ps qs:List PV} {vs us:List Value},bf h ps vs []→bf h qs us []→bf h (ps++qs) (vs++us) []:=by
  intro ps
  induction ps with
  |nil=>intro qs vs us a b;cases a;exact b
  |cons p ps ih=>
   intro qs vs us a b
   generalize hF:([]:List Addr)=F at a
   cases a with
   |cons x y=>
    obtain⟨h1,h2⟩:=Jn.mp hF.symm
    subst h1 h2
    exact .cons x (ih y b)
 induction ps generalizing vs with
 |nil=>cases z;exact .nil
 |cons p ps ih=>
  generalize hF:([]:List Addr)=F at z
  cases z with
  |cons x y=>
   obtain⟨h1,h2⟩:=Jn.mp hF.symm
   subst h1 h2
   rw[KL,KL]
   exact app (ih y) (.cons x .nil)
theorem sj{xs:List Str}{elts:List Expr}{k:Nat}{tpos pos:Pos}{e:Expr}{ps:List PV}(hK:∀ q∈K,q.1<348)(hh:A.handled=none)(hpin:∀ x∈xs,x∉pins.map (·.1))(h:Ev gt K w A env locs e (.tup ps) true)(hf:PV.flat.go ps=true)(hl:xs.length=ps.length)
  (hk:∀ x∈xs,aJ env x)
  (hs:Kn [.Tuple elts k tpos] e pos.line env=pure false) (hw:Ko [.Tuple elts k tpos] e env=pure (some xs)):
  Ex gt K pins w A env (exec (.Assign [.Tuple elts k tpos] e pos) env) locs .next (bl xs.reverse ps.reverse locs):=.mk fun s Fs I=>
 Assign_Tuple_swapped (names:=xs) (Pw.andThen (h.run s Fs I.g I.er) fun v s1 hh=>by
  obtain⟨k1,F,z,fr⟩:=hh
  refine Pw.andThen (ir hh z hl) fun vs s2 hh=>?_
  obtain⟨k2,zs⟩:=hh
  obtain rfl:=zs.flat hf
  have k:=k1.trans k2
  refine Pw.andThen (dS (n:=s.heap.objs.size) hK I.g.low xs.reverse ps.reverse vs.reverse _ [] locs Fs s2 (gO env _) (fun x hx=>hpin x (Kd.mp hx)) (fun x hx=>hk x (Kd.mp hx)) (I.step0 k) zs.rev .nil (fun b hb=>nomatch hb) (fun b hb=>nomatch hb) (by simpa using hl)) fun _ s3 hh=>?_
  obtain⟨Fs3,I3,k3,o3⟩:=hh
  exact⟨k.all.trans (k3.mono fun b hb=>H8 _ hb),rfl,⟨Fs3,I3,o3⟩⟩) hs hw
theorem gJ{x y:Str}{elts:List Expr}{k:Nat}{tpos pos:Pos}{e:Expr}{p q:PV}(hK:∀ q∈K,q.1<348)(hh:A.handled=none)(hpin:∀ z∈[x,y],z∉pins.map (·.1))(h:Ev gt K w A env locs e (.tup [p,q]) true)(hf:PV.flat.go [p,q]=true)
  (hk:∀ z∈[x,y],aJ env z)
  (hs:Kn [.Tuple elts k tpos] e pos.line env=pure false) (hw:Ko [.Tuple elts k tpos] e env=pure (some [x,y])):
  Ex gt K pins w A env (exec (.Assign [.Tuple elts k tpos] e pos) env) locs .next (ab x p (ab y q locs)):=sj (xs:=[x,y]) hK hh hpin h hf rfl hk hs hw
theorem iD{x y z:Str}{elts:List Expr}{k:Nat}{tpos pos:Pos}{e:Expr}{p q r:PV}(hK:∀ q∈K,q.1<348)(hh:A.handled=none)(hpin:∀ u∈[x,y,z],u∉pins.map (·.1))(h:Ev gt K w A env locs e (.tup [p,q,r]) true)
  (hk:∀ u∈[x,y,z],aJ env u) (hb:kL env ((Jj elts env).map (·.2)) [x,y,z]) (hn:(Jj elts env).length=3) (hstar:(Jj elts env).findIdx? (·.1)=none)
  (hs:Kn [.Tuple elts k tpos] e pos.line env=pure false) (hw:Ko [.Tuple elts k tpos] e env=pure none):
  Ex gt K pins w A env (exec (.Assign [.Tuple elts k tpos] e pos) env) locs .next (ab z r (ab y q (ab x p locs))):=vi (xs:=[x,y,z]) hK hh hpin h rfl hk hb hn hstar hs hw
end
section
variable{gt:List (Str×Value)}{K:List (Addr×Obj)}{w:World}{A:Around}{env:Env}{locs:List (Str×PV)}
theorem Fi{o:Expr}{apos pos:Pos}{x:Str}{f:Bool}(h:Ev gt K w A env locs o (.str x) f)(hfit:Ig (Hd x).length=false)
  (hbase:IT o (H5 "lower") env (eval o env)=eval o env) (hline:(apos.endLine==pos.line)=true):
  Ev gt K w A env locs (.Call (.Attribute o (H5 "lower") apos) [] [] pos) (.str (Hd x)) true:=
 yj h ix (Ab hfit) KM PySem.F.slot_str_lower rfl hbase hline
end
theorem gW{env:Env}{x y:Str}(h1:aJ env x)(h2:aJ env y): ∀ z∈[x,y],aJ env z:=fun z hz=>by
 rcases Ha.mp hz with rfl | hz
 ·exact h1
 ·rw[H7.mp hz];exact h2
end
section
section
end
noncomputable def i9(w:World)(kn:List (Str×Int)): List (Str×Int×PV):=kn.map fun q=>(q.1,hashStr w q.1,.int q.2)
theorem fh(w:World)(kn:List (Str×Int)): iI w (i9 w kn):=by
 intro q hq
 obtain⟨a,_,rfl⟩:=Hm.mp hq
 rfl
theorem km{w:World}{x:Str}{i:Int}: ∀{kn:List (Str×Int)},kn.lookup x=some i→(i9 w kn).lookup x=some (hashStr w x,.int i):=by
 intro kn
 induction kn with
 |nil=>
  rintro e
  cases e
 |cons e9 r ih=>
  obtain⟨y,j⟩:=e9
  rintro e
  rw[HA]at e
  show((y,hashStr w y,PV.int j)::i9 w r).lookup x=_
  rw[HA]
  by_cases h:x=y
  ·subst h;simp only[beq_self_eq_true]at e ⊢;cases e;rfl
  ·obtain hf:(x==y)=false:=by simpa using h
   rw[hf]at e ⊢;exact ih e
noncomputable def nc(op:Str)(i j:Int): Int:=if op==H5 "+" then i+j else if op==H5 "-" then i - j else i*j
noncomputable def T.val(kn:List (Str×Int)): T→Int
 | .leaf s=>(kn.lookup (Hd s)).getD 0
 | .node op l r=>nc op (l.val kn) (r.val kn)
noncomputable def T.fits(kn:List (Str×Int)): T→Prop
 | .leaf s=>(kn.lookup (Hd s)).isSome∧Ig (Hd s).length=false
 | .node _ l r=>l.fits kn∧r.fits kn∧JU (l.val kn) (r.val kn)
theorem tE(w:World)(kn:List (Str×Int)): ∀(t:T) (A:Around),t.fits kn→Ro A (t.depth+1)→au aa ay w A (.ref 328) [t.pv,.dct (i9 w kn)] (.int (t.val kn)) true
 | .leaf s,A,hs,ro=>bE pc ro rfl (dg rfl) fun L ro'=>⟨_,by
   obtain⟨h1,h2⟩:=hs
   obtain⟨i,hi⟩:=Kk.mp h1
   have hd:=fh w kn
   have hk:=km (w:=w) hi
   have e:(T.leaf s).val kn=i:=by simp[T.val,hi]
   rw[e]
   show Ex _ _ _ _ _ _ _ ([H5 "tree",H5 "known"].zip [PV.str s,.dct (i9 w kn)]) _ _
   refine aX (db (c:=true) (Tr.bool (f:=true) ?_ rfl) (fun _=>?_) (by nofun)) (by nofun)
   ·walk_at "ev"
   ·walk_at "ret"⟩
 | .node op l r,A,hs,ro=>bE pc ro rfl (dg rfl) fun L ro'=>⟨_,by
   have ro1:Ro (A.deeper (ah 328 y6 L)) (l.depth+1):=ro'.le (by simp only[T.depth];omega)
   have ro2:Ro (A.deeper (ah 328 y6 L)) (r.depth+1):=ro'.le (by simp only[T.depth];omega)
   have fl:=l.flat
   have sl:=l.seen
   have sr:=r.seen
   have fr:=r.flat
   obtain⟨h1,h2,h3⟩:=hs
   have hl:=tE w kn l _ h1 ro1
   have hr:=tE w kn r _ h2 ro2
   have hh:=ro'.1
   show Ex _ _ _ _ _ _ _ ([H5 "tree",H5 "known"].zip [PV.tup [.str op,l.pv,r.pv],.dct (i9 w kn)]) _ _
   refine af (db (c:=false) (Tr.bool (f:=true) ?_ rfl) (by nofun) (fun _=>aq)) ?_
   ·walk_at "ev"
   walk_at "swp"
   have e:(T.node op l r).val kn=nc op (l.val kn) (r.val kn):=rfl
   rw[e]
   unfold nc
   cases h4:op==H5 "+" with
   |true=>
    refine aX (db (c:=op==H5 "+") (Tr.cmp (f1:=true) (f2:=true) ?_ ?_ (cz.eqS _ _) rfl) (fun _=>?_) (fun h=>by rw[h4]at h;cases h)) (by nofun)
    ·walk_at "ev"
    ·walk_at "ev"
    ·walk_at "ret"
   |false=>
    refine af (db (c:=op==H5 "+") (Tr.cmp (f1:=true) (f2:=true) ?_ ?_ (cz.eqS _ _) rfl) (fun h=>by rw[h4]at h;cases h) (fun _=>aq)) ?_
    ·walk_at "ev"
    ·walk_at "ev"
    refine aX (cJ (f:=true) (Ev.ifexp (c:=op==H5 "-") (Tr.cmp (f1:=true) (f2:=true) ?_ ?_ (cz.eqS _ _) rfl) (fun h5=>?_) (fun h5=>?_)) rfl) (by nofun)
    ·walk_at "ev"
    ·walk_at "ev"
    ·simp only[h5,if_true,Hq,if_false];walk_at "ev"
    ·simp only[h5,if_true,Hq,if_false];walk_at "ev"⟩
end
section
theorem bf.app{h:Heap}{ps qs:List PV}{vs us:List Value}{F H:List Addr}(z:bf h ps vs F)(b:bf h qs us H): bf h (ps++qs) (vs++us) (F++H):=by
 induction z using bf.ind with
 |nil=>exact b
 |cons x _ ih=>exact Ho ..▸.cons x ih
section
variable{gt:List (Str×Value)}{K:List (Addr×Obj)}{w:World}{A:Around}{env:Env}{locs:List (Str×PV)}
theorem fi.catL{a b:List PV}(ha:PV.flat.go a=true)(hb:PV.flat.go b=true)(hz:a.length+b.length≤Ip): fi w A .Add (.lst a) (.lst b) (.lst (a++b)) true:=by
 constructor;intro s x y F H hx hy
 cases hx with
 | @lst _ l vs n G e1 z1 _=>
  cases hy with
  | @lst _ l2 us n2 G2 e2 z2 _=>
   obtain rfl:=z1.flat ha
   obtain rfl:=z2.flat hb
   refine concat_meets ⟨_,e1,rfl⟩ ⟨_,e2,rfl⟩ noFill_list_add seq_list_add PySem.F.slot_list_add PySem.F.entry_list_add (PySem.F.args_list_add_2 _ _) (list_addW l l2 vs.toArray us.toArray n n2 none none #[] #[] (by obtain this:=z1.length;obtain this:=z2.length;simp only[Hx];omega)) ⟨e1,e2,?_⟩
   obtain e:vs.toArray++us.toArray=(vs++us).toArray:=by simp
   rw[e]
   exact⟨bS s _,[s.heap.objs.size],.lst (n:=0) (Hk _ rfl) ((z1.app z2).kept0 (aj.push _ _)) (by simp),fun _ b hb=>by
    simp only[Ha,Hs,or_false]at hb
    subst hb
    exact Hw _⟩
end
noncomputable def br(x:Int×Str×Str): PV:=.tup [.int x.1,.str x.2.1,.str x.2.2]
theorem gU:∀ l:List (Int×Str×Str),PV.flat.go (l.map br)=true
 |[]=>rfl
 |_::l=>by simp[br,PV.flat,PV.flat.go,gU l]
noncomputable def vY(s:Str): Bool:=inS s (H5 "pP")
noncomputable def T.leaves0(g:Str): T→Int→List (Int×Str×Str)
 | .leaf s,d=>[(d,g,s)]
 | .node _ l r,d=>l.leaves0 g (d+1)++r.leaves0 g (d+1)
noncomputable def T.leaves(p:T)(g:Str): T→Int→List (Int×Str×Str)
 | .leaf s,d=>if vY s then p.leaves0 g (d+1)else[(d,g,s)]
 | .node _ l r,d=>T.leaves p g l (d+1)++T.leaves p g r (d+1)
noncomputable def T.free:T→Prop
 | .leaf s=>vY s=false
 | .node _ l r=>l.free∧r.free
end
section
theorem rF(w:World)(p:T)(g:Str): ∀(t:T) (d:Int) (A:Around),t.free→(t.leaves0 g d).length≤1000→Ro A (t.depth+1)→au aa ay w A (.ref 335) [t.pv,p.pv,.str g,.int d] (.lst ((t.leaves0 g d).map br)) true
 | .leaf s,d,A,hf,hz,ro=>bE p0 ro rfl (by simp only[Jd];exact⟨T.notOwn _,T.notOwn _,rfl,rfl,by simp⟩) fun L ro'=>⟨_,by
   show Ex _ _ _ _ _ _ _ ([H5 "tree",H5 "p",H5 "goal",H5 "depth"].zip [PV.str s,p.pv,.str g,.int d]) _ _
   have hf':vY s=false:=hf
   refine aX (db (c:=true) (Tr.bool (f:=true) ?_ rfl) (fun _=>?_) (by nofun)) (by nofun)
   ·walk_at "ev"
   refine af (db (c:=vY s) (Tr.cmp (f1:=true) (f2:=true) ?_ ?_ (cz.inS _ _) rfl) (fun h=>by rw[hf']at h;cases h) (fun _=>aq)) ?_
   ·walk_at "ev"
   ·walk_at "ev"
   show Ex _ _ _ _ _ _ _ _ (.ret (.lst [.tup [.int d,.str g,.str s]])) _
   walk_at "ret"⟩
 | .node op l r,d,A,hf,hz,ro=>bE p0 ro rfl (by simp only[Jd];exact⟨T.notOwn _,T.notOwn _,rfl,rfl,by simp⟩) fun L ro'=>⟨_,by
   have ro1:Ro (A.deeper (ah 335 qG L)) (l.depth+1):=ro'.le (by simp only[T.depth];omega)
   have ro2:Ro (A.deeper (ah 335 qG L)) (r.depth+1):=ro'.le (by simp only[T.depth];omega)
   have fl:=l.flat
   have sl:=l.seen
   have sr:=r.seen
   have fr:=r.flat
   have fp:=p.flat
   have sp:=p.seen
   simp only[T.leaves0,He]at hz
   have hl:=rF w p g l (d+1) _ hf.1 (by omega) ro1
   have hr:=rF w p g r (d+1) _ hf.2 (by omega) ro2
   have z1:(Ly br (l.leaves0 g (d+1))).length+(Ly br (r.leaves0 g (d+1))).length≤Ip:=by have:=aU;simp only[Hl];omega
   show Ex _ _ _ _ _ _ _ ([H5 "tree",H5 "p",H5 "goal",H5 "depth"].zip [PV.tup [.str op,l.pv,r.pv],p.pv,.str g,.int d]) (.ret (.lst (Ly br (l.leaves0 g (d+1)++r.leaves0 g (d+1))))) _
   rw[HW]
   refine af (db (c:=false) (Tr.bool (f:=true) ?_ rfl) (by nofun) (fun _=>aq)) ?_
   ·walk_at "ev"
   walk_at "ret"⟩
theorem tD(w:World)(p:T)(g:Str)(hp:p.free): ∀(t:T) (d:Int) (A:Around),(T.leaves p g t d).length≤1000→Ro A (t.depth+p.depth+2)→au aa ay w A (.ref 335) [t.pv,p.pv,.str g,.int d] (.lst ((T.leaves p g t d).map br)) true
 | .leaf s,d,A,hz,ro=>bE p0 ro rfl (by simp only[Jd];exact⟨T.notOwn _,T.notOwn _,rfl,rfl,by simp⟩) fun L ro'=>⟨_,by
   show Ex _ _ _ _ _ _ _ ([H5 "tree",H5 "p",H5 "goal",H5 "depth"].zip [PV.str s,p.pv,.str g,.int d]) (.ret (.lst (Ly br (if vY s then p.leaves0 g (d+1)else[(d,g,s)])))) _
   have fp:=p.flat
   have sp:=p.seen
   refine aX (db (c:=true) (Tr.bool (f:=true) ?_ rfl) (fun _=>?_) (by nofun)) (by nofun)
   ·walk_at "ev"
   simp only[T.leaves]at hz
   cases h:vY s with
   |true=>
    rw[h,if_pos rfl]at hz
    have hc:=rF w p g p (d+1) _ hp hz (ro'.le (by simp only[T.depth];omega))
    skip
    refine aX (db (c:=vY s) (Tr.cmp (f1:=true) (f2:=true) ?_ ?_ (cz.inS _ _) rfl) (fun _=>?_) (fun h'=>by rw[h]at h';cases h')) (by nofun)
    ·walk_at "ev"
    ·walk_at "ev"
    walk_at "ret"
   |false=>
    skip
    refine af (db (c:=vY s) (Tr.cmp (f1:=true) (f2:=true) ?_ ?_ (cz.inS _ _) rfl) (fun h'=>by rw[h]at h';cases h') (fun _=>aq)) ?_
    ·walk_at "ev"
    ·walk_at "ev"
    show Ex _ _ _ _ _ _ _ _ (.ret (.lst [.tup [.int d,.str g,.str s]])) _
    walk_at "ret"⟩
 | .node op l r,d,A,hz,ro=>bE p0 ro rfl (by simp only[Jd];exact⟨T.notOwn _,T.notOwn _,rfl,rfl,by simp⟩) fun L ro'=>⟨_,by
   have ro1:Ro (A.deeper (ah 335 qG L)) (l.depth+p.depth+2):=ro'.le (by simp only[T.depth];omega)
   have ro2:Ro (A.deeper (ah 335 qG L)) (r.depth+p.depth+2):=ro'.le (by simp only[T.depth];omega)
   have fl:=l.flat
   have sl:=l.seen
   have sr:=r.seen
   have fr:=r.flat
   have fp:=p.flat
   have sp:=p.seen
   simp only[T.leaves,He]at hz
   have hl:=tD w p g hp l (d+1) _ (by omega) ro1
   have hr:=tD w p g hp r (d+1) _ (by omega) ro2
   have z1:(Ly br (T.leaves p g l (d+1))).length+(Ly br (T.leaves p g r (d+1))).length≤Ip:=by have:=aU;simp only[Hl];omega
   show Ex _ _ _ _ _ _ _ ([H5 "tree",H5 "p",H5 "goal",H5 "depth"].zip [PV.tup [.str op,l.pv,r.pv],p.pv,.str g,.int d]) (.ret (.lst (Ly br (T.leaves p g l (d+1)++T.leaves p g r (d+1))))) _
   rw[HW]
   refine af (db (c:=false) (Tr.bool (f:=true) ?_ rfl) (by nofun) (fun _=>aq)) ?_
   ·walk_at "ev"
   walk_at "ret"⟩
end
section
section
open PySem.Sem (wp)
variable{M:Model}{A:Around}{R:GenEnd}{Y:Protocol}{n:Nat}{s₀:Shared}{c:Code}{fs:List Frame}{s:Shared}{env:Env}
 {K:Flow→Sem Fin} {H:Value→Sem Fin} {gd:Bool→Bool} {lv:List Value→List Value}
theorem ry{test:Expr}{body orelse:List Stmt}{pos:Pos}
  (h:wpAny M (A.over c fs) (isTrue test env (eval test env)) (fun b s'=>Seg M A R Y n s₀ c ((execs (if b=true then body else orelse) env).wrap K H gd lv) fs s') (fun _ _=>False) s):
  Seg M A R Y n s₀ c ((exec (.If test body orelse pos) env).wrap K H gd lv) fs s:=by
 show Seg M A R Y n s₀ c (.at pos fun _=>((isTrue test env (eval test env)) >>= fun b=>if b=true then execs body env else execs orelse env).wrap K H gd lv) fs s
 refine seg_at ?_
 rw[IV,JA]
 refine Lz (Hf h (fun b s' hb=>?_) fun _ _ x=>x.elim)
 cases b <;> exact hb
theorem gY{st:Stmt}(h:wpAny M (A.over c fs) (exec st env) (fun f s'=>f=.next∧Seg M A R Y n s₀ c (K .next) fs s') (fun _ _=>False) s):
  Seg M A R Y n s₀ c ((exec st env).wrap K H gd lv) fs s:=
 Lz (Hf h (fun f s' hf=>by obtain⟨rfl,hf⟩:=hf;exact hf) fun _ _ x=>x.elim)
noncomputable def wV(env:Env)(K:Flow→Sem Fin)(H:Value→Sem Fin)(gd:Bool→Bool)(lv:List Value→List Value)(r:Result): Sem Fin:=
 ((match r with | .ok f=>(.pure f:Sem Flow) | .error e=>.raise e).onRaise fun(x:Value)=>do
    if(←field x 1)==Value.none then unsupported "frame.own-activation:exception-without-traceback"
    setFlight x env.frame).wrap K H gd lv
theorem zT{target iter:Expr}{body orelse:List Stmt}{pos:Pos}
  (h:wpAny M (A.over c fs) (eval iter env) (fun x s₁=>wpAny M (A.over c fs) (pyIter x) (fun it s₂=>∀ p,Seg M A R Y n s₀ (.forLoop target it body orelse env) (M.den (.forLoop target it body orelse env))
   (.ret (wV env K H gd lv) none (gd false) (lv []) c p []::fs) s₂) (fun _ _=>False) s₁) (fun _ _=>False) s)
  (hs:∀ x,Jt iter env x=pure x):
  Seg M A R Y n s₀ c ((exec (.For target iter body orelse pos) env).wrap K H gd lv) fs s:=by
 show Seg M A R Y n s₀ c (.at pos fun _=>((eval iter env >>= fun x0=>Jt iter env x0 >>= fun x=>standAt iter.pos >>= fun _=>holding [x] (pyIter x) >>= fun it=>runOwn (.forLoop target it body orelse env) env)).wrap K H gd lv) fs s
 refine seg_at ?_
 simp only[hs]
 rw[IV,JA]
 refine Lz (Hf h (fun x s1 h1=>?_) fun _ _ x=>x.elim)
 show Seg M A R Y n s₀ c (.at iter.pos fun _=>(holding [x] (pyIter x) >>= fun it=>runOwn (.forLoop target it body orelse env) env).wrap K H gd lv) fs s1
 refine seg_at ?_
 rw[IV,JA]
 refine Lz (IF (Hf h1 (fun it s2 h2=>?_) fun _ _ x=>x.elim))
 exact seg_call h2
end
section
variable{w:World}{A:Around}{R:GenEnd}{Y:Protocol}{n:Nat}{s₀:Shared}{fs:List Frame}{s:Shared}{env:Env}
noncomputable def Bh(target:Expr)(it:Value)(body orelse:List Stmt)(env:Env): Flow→Sem Fin
 | .next | .cont=>.pure (.again (.forLoop target it body orelse env))
 | .brk=>.pure (.done .next)
 | .ret v=>.pure (.done (.ret v))
noncomputable def Bi(env:Env)(e:Value): Sem Fin:=(do noteFrame e env;My e:Sem Unit).wrap (fun _=>.raise e) .raise id id
theorem jX{target:Expr}{it:Value}{body orelse:List Stmt}
  (h:wpAny (model pw w) (A.over (.forLoop target it body orelse env) fs) (pyNext it) (fun r s₁=>match r with
   |none=>Seg (model pw w) A R Y n s₀ (.block orelse env) ((model pw w).den (.block orelse env)) fs s₁
   |some v=>wpAny (model pw w) (A.over (.forLoop target it body orelse env) fs) (Kt target it v) (fun _ s₂=>wpAny (model pw w) (A.over (.forLoop target it body orelse env) fs) (assign target env v) (fun _ s₃=>
     Seg (model pw w) A R Y n s₀ (.forLoop target it body orelse env) ((execs body env).wrap (Bh target it body orelse env) (Bi env) id id) fs s₃) (fun _ _=>False) s₂) (fun _ _=>False) s₁) (fun _ _=>False) s):
  Seg (model pw w) A R Y n s₀ (.forLoop target it body orelse env) ((model pw w).den (.forLoop target it body orelse env)) fs s:=by
 show Seg _ A R Y n s₀ _ ((forTurn target it body orelse env).onRaise (fun x=>do noteFrame x env;My x)) fs s
 unfold forTurn
 rw[Sem.onRaise_eq_wrap,IV,JA]
 refine Lz (Km ?_)
 rw[IV,JA]
 refine Lz (wpAny_onRaise (Hf h (fun r s1 h1=>?_) fun _ _ x=>x.elim))
 cases r with
 |none=>exact seg_again rfl h1
 |some v=>
  simp only
  rw[IV,JA]
  refine Lz (Hf h1 (fun _ s2 h2=>?_) fun _ _ x=>x.elim)
  rw[IV,JA]
  refine Lz (Hf h2 (fun _ s3 h3=>?_) fun _ _ x=>x.elim)
  rw[IV,JA]
  rw[Sem.wrap_congr (execs body env) _ _ (K':=Bh target it body orelse env) (H':=Bi env) (fun f=>by cases f <;> rfl) (fun e=>by first | exact Sem.bind_eq_wrap _ _ | (show(do noteFrame e env;My e:Sem Unit).bind (fun _=>.raise e)=_;rw[Sem.bind_eq_wrap];rfl))]
  exact h3
end
end
section
noncomputable abbrev AH:Hy:=iC (aO 6) (H5 "_iter_escaped_chars") (.str (H5 "cpy313.email.utils") 349) 86 .none
noncomputable abbrev aV(L:Addr): Env:=ah 87 AH L
section
variable{A:Around}
theorem tz{n:Nat}(ro:Ro A (n+2))(body:List Stmt)(env:Env): Ro (A.over (.func body env) []) n:=by
 refine⟨ro.1,?_,?_⟩
 ·have h1:(A.over (.func body env) []).depth=A.depth+0+1:=rfl
  obtain this:=ro.2.1;omega
 ·have h1:(A.over (.func body env) []).units=A.units+0+(Code.func body env).cUnits:=rfl
  have h2:(Code.func body env).cUnits=3:=rfl
  obtain this:=ro.2.2;omega
theorem ty{n:Nat}(ro:Ro A (n+4))(t:Expr)(it:Value)(b o:List Stmt)(env:Env)(K:Result→Sem Fin)(l:List Value)(body:List Stmt)(p:Pos): Ro (A.over (.forLoop t it b o env) [.ret K none false l (.func body env) p []]) n:=by
 refine⟨?_,?_,?_⟩
 ·show(marksOver _ (A.handled,A.handled)).1=none
  rw[ro.1];rfl
 ·show A.depth+1+n<_
  obtain this:=ro.2.1
  generalize A.depth=d at this
  omega
 ·show A.units+3+4*n+8<_
  obtain this:=ro.2.2
  generalize A.units=d at this
  omega
end
noncomputable def bD:Nat→Bool→Int→List Nat→List (Int×Str)
 |_,false,_,[]=>[]
 |_,true,l,[]=>[(l,H5 "\\")]
 |i,true,_,c::cs=>((i:Int),H5 "\\"++⟨#[c]⟩)::bD (i+1) false i cs
 |i,false,_,c::cs=>if(⟨#[c]⟩:Str)==H5 "\\" then bD (i+1) true i cs else((i:Int),⟨#[c]⟩)::bD (i+1) false i cs
noncomputable def cS(q:Int×Str): PV:=.tup [.int q.1,.str q.2]
noncomputable def AC(P:List Addr)(all:List PV): Protocol:=fun n s₀ v s' k=>
 (∃ p,all[all.length - 1 - n]? = some p∧VR s'.heap p v [])∧aG P s₀ s'∧∀ W s'',aj W s'.heap s''.heap→(∀ b∈W,348≤b)→(∀ b∈P,b∉W)→k (.send .none) s''
noncomputable def Go(P:List Addr): Nat→Shared→Shared→Prop:=fun n s₀ s'=>n=0∧aG P s₀ s'
noncomputable abbrev AE(P:List Addr): GenEnd:=fun n s₀ r s₁=>r=.ok (.ret .none)∧Go P n s₀ s₁
noncomputable abbrev ct:List Stmt:=aF (aO 6)
theorem bO.flat{h:Heap}{env:Env}{m:Str→Option Value}{locs:List (Str×PV)}{Fs:List (List Addr)}(V:bO h env m locs Fs): (∀ q∈locs,q.2.flat=true)→Fs.flatten=[]:=by
 induction V using bO.ind with
 |nil=>exact fun _=>rfl
 | @cons x p r F Fs v a z V ih=>intro hf;rw[HL,z.flat (hf (x,p) (.head _)),ih fun q hq=>hf q (.tail _ hq)];rfl
theorem bw.moved{gt:List (Str×Value)}{K:List (Addr×Obj)}{env:Env}{locs:List (Str×PV)}{Fs:List (List Addr)}{W:List Addr}{s s':Shared}(hK:∀ q∈K,q.1<348)(I:bw gt K [] env locs Fs s)(k:aj W s.heap s'.heap)(hw:∀ b∈W,348≤b)
  (hd:∀ b∈env.locals::env.cells.map (·.2)++Fs.flatten,b∉W):bw gt K [] env locs Fs s':=by
 simp only[Hp,Ha,H9]at hd
 exact⟨I.g.kept k hw hK,I.er.kept k (hd _ (.inl rfl)) (fun p hp=>hd _ (.inr (.inl (Hm.mpr ⟨p,hp,rfl⟩)))) (fun H hH b hb=>hd b (.inr (.inr (KY.mpr ⟨H,hH,hb⟩)))),I.nd,I.hi,fun c hc=>by
  obtain⟨v,i⟩:=I.cl c hc
  exact⟨v,bq k i (hd _ (.inr (.inl (Hm.mpr ⟨c,hc,rfl⟩))))⟩,I.keys,fun q hq=>nomatch hq⟩
section
variable{w:World}{A:Around}{L:Addr}{P:List Addr}{all:List PV}
noncomputable abbrev Dd:Flow→Sem Fin:=fun f=>.pure (.done (.ret (match f with | .ret v=>v | _=>.none)))
noncomputable abbrev De(env:Env): Value→Sem Fin:=fun e=>(leaving env e).wrap (fun _=>.raise e) .raise id id
structure GL(L:Addr)(e:Bool)(l:Int)(locs:List (Str×PV))(Fs:List (List Addr))(s:Shared): Prop where
 inv:bw aa ay [] (aV L) locs Fs s
 flat:∀ q∈locs,q.2.flat=true∧q.2.isOwn=false
 esc:locs.lookup (H5 "escape")=some (.bool e)
 pos:locs.lookup (H5 "pos")=some (.int l)
theorem GL.nil{e:Bool}{l:Int}{locs:List (Str×PV)}{Fs:List (List Addr)}{s:Shared}(g:GL L e l locs Fs s): Fs.flatten=[]:=by
 obtain⟨m,n,V⟩:=g.inv.er.vars
 exact V.flat fun q hq=>(g.flat q hq).1
theorem GL.moved{e:Bool}{l:Int}{locs:List (Str×PV)}{Fs:List (List Addr)}{s s':Shared}{W:List Addr}(g:GL L e l locs Fs s)(k:aj W s.heap s'.heap)(hw:∀ b∈W,348≤b)(hL:L∉W): GL L e l locs Fs s':=
 ⟨g.inv.moved bj k hw (by
  rw[g.nil]
  intro b hb
  have hc:(aV L).cells=[]:=rfl
  have hl:(aV L).locals=L:=rfl
  obtain this:b=L:=by simpa[hc,hl]using hb
  rw[this];exact hL),g.flat,g.esc,g.pos⟩
theorem AD(ro:Ro A 3)(hL:L∈P){e:Bool}{l:Int}{locs:List (Str×PV)}{Fs:List (List Addr)}{s₀ s:Shared}(g:GL L e l locs Fs s)(k:aG P s₀ s)(hall:e=true→all[all.length - 1]? = some (cS (l,H5 "\\"))):
  Seg (model pw w) A (AE P) (AC P all) (if e=true then 1 else 0) s₀ (.func ct (aV L)) ((execs (ct.drop 3) (aV L)).wrap Dd (De (aV L)) id id) [] s:=by
 obtain ro1:Ro (A.over (.func ct (aV L)) []) 1:=tz ro _ _
 have hesc:=g.esc
 obtain hpos:=g.pos
 refine IM (ry (Pw.andThen ((Tr.bool (gt:=aa) (K:=ay) (locs:=locs) (f:=true) (b:=e) ?_ rfl).run s Fs g.inv.g g.inv.er) fun b s1 ⟨eb,k1⟩=>?_))
 ·walk_at "ev"
 ·subst eb
  obtain g1:=g.moved k1.heap (fun b hb=>nomatch hb) (fun h=>nomatch h)
  have kk:=k.trans k1.all
  cases b with
  |false=>exact seg_end (.ok (.ret .none)) ⟨rfl,rfl,kk⟩
  |true=>
   obtain hev:Ev aa ay w (A.over (.func ct (aV L)) []) (aV L) locs (.Tuple [.Name (H5 "pos") { line:=63,col:=15,endLine:=63,endCol:=18 },.Constant (.str (H5 "\\")) 0 { line:=63,col:=20,endLine:=63,endCol:=24 }] 0 { line:=63,col:=14,endLine:=63,endCol:=25 }) (.tup [.int l,.str (H5 "\\")]) true:=by walk_at "ev"
   refine IM (MK rfl rfl rfl (Hf (hev.run s1 Fs g1.inv.g g1.inv.er) (fun v s2 hh=>?_) fun _ _ x=>x.elim) rfl rfl)
   obtain⟨k2,F,z,_⟩:=hh
   intro kap hk
   obtain hF:F=[]:=z.flat rfl
   subst hF
   exact⟨⟨_,hall rfl,z⟩,kk.trans k2.all,fun W s'' _ _ _=>hk .none s'' (seg_end (.ok (.ret .none)) ⟨rfl,rfl,.refl _ _⟩)⟩
end
end
section
noncomputable def Gp(s:Stmt): Expr:=Bm s
noncomputable def Gr(s:Stmt): Expr:=C7 s fun _ _ _ i _ _ _=>i
noncomputable def kO(s:Stmt): List Stmt:=aF s
noncomputable def C8:Stmt:=(ct[2]?).getD (.Pass default)
noncomputable abbrev gc:Expr:=Gp C8
noncomputable abbrev gj:List Stmt:=kO C8
noncomputable abbrev Gi:Expr:=Gr C8
theorem gv{φ:PV→Prop}{x:Str}{p:PV}(hp:φ p): ∀{l:List (Str×PV)},(∀ q∈l,φ q.2)→∀ q∈ab x p l,φ q.2:=by
 intro l
 induction l with
 |nil=>
  rintro _ q hq
  obtain this:q=(x,p):=by simpa[ab]using hq
  rw[this];exact hp
 |cons e9 l ih=>
  obtain⟨y,r⟩:=e9
  rintro h q hq
  unfold ab at hq
  split at hq
  ·rcases Ha.mp hq with rfl | hq
   ·exact hp
   ·exact h q (.tail _ hq)
  ·rcases Ha.mp hq with rfl | hq
   ·exact h _ (.head _)
   ·exact ih (fun q hq=>h q (.tail _ hq)) q hq
theorem lg{all pre:List PV}{p:PV}{rest:List PV}{m:Nat}(h:all=pre++p::rest)(hm:m=rest.length): all[all.length - 1 - m]? = some p:=by
 subst h hm
 obtain this:(pre++p::rest).length - 1 - rest.length=pre.length:=by simp
 rw[this];simp
section
variable{w:World}{A:Around}{L eA itA:Addr}{all:List PV}{x:Str}{t:Tok}
theorem yt(hh:A.handled=none): PySem.Draws pw w A itA [itA] x.cps.size (fun i v=>∃ c u,x.cps[i]? = some c∧v=.str ⟨#[c]⟩ u) (fun i h=>h.IsStrIter itA (La x) x t i):=by
 unfold La
 split
 ·exact Draws.strAscii hh itA x t
 ·exact Draws.strWide hh itA x t
structure GS(L eA itA:Addr)(x:Str)(t:Tok)(i:Nat)(e:Bool)(l:Int)(s:Shared): Prop where
 gl:∃ locs Fs,GL L e l locs Fs s
 enum:∃ old,IsEnum s.heap eA itA i old
 str:s.heap.IsStrIter itA (La x) x t i
noncomputable abbrev H3(L:Addr): Flow→Sem Fin:=fun f=>match f with | .next=>(execs (ct.drop 3) (aV L)).wrap Dd (De (aV L)) id id | f=>Dd f
noncomputable abbrev qF(L:Addr)(p:Pos): Frame:=.ret (wV (aV L) (H3 L) (De (aV L)) id id) none (id false) (id []) (.func ct (aV L)) p []
theorem wC{A':Around}{e:Bool}{l:Int}{locs:List (Str×PV)}{Fs:List (List Addr)}{s:Shared}(g:GL L e l locs Fs s)(b:Bool)(np pos pos':Pos)(k:Nat):
  wpAny (model pw w) A' (exec (.Assign [.Name (H5 "escape") np] (.Constant (.bool b) k pos') pos) (aV L)) (fun f s'=>f=.next∧aG [L] s s'∧∃ Fs',GL L b l (ab (H5 "escape") (.bool b) locs) Fs' s') (fun _ _=>False) s:=by
 obtain hx:Ex aa ay [] w A' (aV L) (exec (.Assign [.Name (H5 "escape") np] (.Constant (.bool b) k pos') pos) (aV L)) locs .next (ab (H5 "escape") (.bool b) locs):=
  az bj (by simp) (Ev.bool b k pos') (Bind.same rfl) (.inl (by kernel_rfl)) rfl
 refine Hf (hx.run s Fs g.inv) (fun f s' hh=>?_) fun _ _ x=>x
 obtain⟨k1,f1,Fs',I',_⟩:=hh
 obtain hpos:=g.pos
 refine⟨f1,k1.mono (fun q hq=>?_),Fs',I',gv (φ:=fun p=>p.flat=true∧p.isOwn=false) ⟨rfl,rfl⟩ g.flat,by walk_at "lk",by walk_at "lk"⟩
 simp only[ow,Hp,Ha,H9]at hq
 rcases hq with hq | hq | hq
 ·rw[hq];exact .head _
 ·exact nomatch (show q∈([]:List Addr)from hq)
 ·exact dD (fun p hp=>(g.flat p hp).2) q hq
theorem AF(ro:Ro A 6)(hd:[L,eA,itA].Nodup)(hi:∀ b∈[L,eA,itA],348≤b)(p:Pos): ∀(cs:List Nat) (i:Nat) (e:Bool) (l:Int) (s₀ s:Shared) (pre:List PV),x.cps.toList.drop i=cs→i≤x.cps.size→GS L eA itA x t i e l s→aG [L,eA,itA] s₀ s→all=pre++(bD i e l cs).map cS→
  Seg (model pw w) A (AE [L,eA,itA]) (AC [L,eA,itA] all) (bD i e l cs).length s₀ (.forLoop gc (.ref eA) gj [] (aV L)) ((model pw w).den (.forLoop gc (.ref eA) gj [] (aV L))) [qF L p] s:=by
 intro cs
 induction cs with
 |nil=>
  intro i e l s₀ s pre hcs hle g k hall
  have ro1:Ro (A.over (.forLoop gc (.ref eA) gj [] (aV L)) [qF L p]) 2:=ty ro _ _ _ _ _ _ _ _ _
  have hi':i=x.cps.size:=by
   have:=congrArg List.length hcs
   simp at this;omega
  obtain⟨⟨locs,Fs,gl⟩,⟨old,en⟩,st⟩:=id g
  subst hi'
  refine jX (Hf (cA (wpAny_pyNext_enum_endD (Q:=fun r s'=>r=none∧∃ h',MJ itA s.heap h'∧s'={ s with heap:=h' }) (yt (t:=t) (A:=(A.over (.forLoop gc (.ref eA) gj [] (aV L)) [qF L p]).in1) ro1.1) en st fun h' he=>⟨rfl,h',he,rfl⟩)) (fun r s' hh=>?_) fun _ _ x=>x.1)
  obtain⟨⟨er,h',he,es⟩,hz⟩:=hh
  subst er es
  have kp:aj [itA] s.heap h':=⟨hz,fun b o e q=>he b o (by
   rintro rfl
   rcases q with q | q
   ·exact q (.head _)
   ·obtain⟨o',ho',_,hd'⟩:=st
    rw[ho']at e;cases e
    unfold cD at q;rw[hd']at q;cases q) e⟩
  have k':aG [L,eA,itA] s₀ { s with heap:=h' }:=k.trans ⟨kp.mono (by simp),fun _ _ e=>e,id,rfl⟩
  have gl':=gl.moved (s':={ s with heap:=h' }) kp (by intro b hb;exact hi b (by simp at hb;simp[hb])) (by intro hm;simp at hm;subst hm;simp at hd)
  refine seg_leaf (c:=.block [] (aV L)) (.ok .next) ?_
  have hlen:(bD x.cps.size e l []).length=if e=true then 1 else 0:=by cases e <;> rfl
  rw[hlen]
  exact AD (ro.le (by omega)) (by simp) gl' k' (fun h=>by
   subst h
   exact lg (rest:=[]) hall rfl)
 |cons c cs ih=>
  intro i e l s₀ s pre hcs hle g k hall
  have hcl:Code.forLoop gc (.ref eA) gj [] (aV L)=Code.forLoop gc (.ref eA) gj [] (aV L):=rfl
  have ro1:Ro (A.over (.forLoop gc (.ref eA) gj [] (aV L)) [qF L p]) 2:=ty ro _ _ _ _ _ _ _ _ _
  have hlt:i<x.cps.size:=by
   have:=congrArg List.length hcs
   simp at this;omega
  have hci:x.cps[i]? = some c:=by
   have:=congrArg (fun l=>l[0]?) hcs
   simpa using this
  have hcs':x.cps.toList.drop (i+1)=cs:=by rw[←LA,hcs];rfl
  obtain⟨⟨locs,Fs,gl⟩,⟨old,en⟩,st⟩:=id g
  have hLe:L≠eA:=by rintro rfl;simp at hd
  have hLi:L≠itA:=by rintro rfl;simp at hd
  have hei:eA≠itA:=by rintro rfl;simp at hd
  refine jX (wpAny_pyNext_enum_itemD (yt (t:=t) (A:=(A.over (.forLoop gc (.ref eA) gj [] (aV L)) [qF L p]).in1) ro1.1) en st hlt hei (by simp;exact hei) fun v h1 tk hP heo hst1 ht1 hz1 hk1=>?_)
  obtain⟨c',u,hc',rfl⟩:=hP
  rw[hci]at hc';cases hc'
  refine wpAny_letOwnedTupleGo_enum heo fun h2 he2 hs2=>?_
  have kp1:aj [eA,itA] s.heap h1:=⟨by rw[hz1];exact J0 _,fun b o e q=>hk1 b o (by
   rintro rfl
   rcases q with q | q
   ·exact q (.head _)
   ·rw[en]at e;cases e;cases q) (by
   rintro rfl
   rcases q with q | q
   ·exact q (.tail _ (.head _))
   ·obtain⟨o',ho',_,hd'⟩:=st
    rw[ho']at e;cases e
    unfold cD at q;rw[hd']at q;cases q) e⟩
  have kp2:aj [eA,itA] h1 h2:=(aj.same heo rfl hs2).mono (by simp)
  have kp:=kp1.trans kp2
  have hlow:∀ b∈[eA,itA],348≤b:=fun b hb=>hi b (.tail _ hb)
  have hLn:L∉[eA,itA]:=by simp;exact⟨hLe,hLi⟩
  have gl2:=gl.moved (s':={ s with heap:=h2,toks:=tk+1 }) kp hlow hLn
  have helt:eA<s.heap.objs.size:=Hr en
  have ht2:h2.get? s.heap.objs.size=some (pG [.int i tk,.str ⟨#[c]⟩ u] 0):=(hs2.2 _ (Ju helt)).trans ht1
  have zv:VR h2 (.tup [.int i,.str ⟨#[c]⟩]) (.ref s.heap.objs.size) []:=.tup ht2 (.cons (F:=[]) (.int _ _) (.cons (F:=[]) (.str _ _) .nil)) .nil
  refine Pw.andThen (eN (gt:=aa) (K:=ay) (pins:=[]) (xs:=[H5 "pos",H5 "ch"]) (n:=348) bj (Hw _) ro1.1 (by simp) rfl (gW (.inl (by kernel_rfl)) (.inl (by kernel_rfl))) ⟨aI _ _ _,aI _ _ _,trivial⟩ rfl rfl gl2.inv zv (fun b hb=>nomatch hb) (fun b hb=>nomatch hb)) fun _ s3 hh=>?_
  obtain⟨Fs3,I3,k3,_⟩:=hh
  have k3':aG [L] { s with heap:=h2,toks:=tk+1 } s3:=k3.mono (by intro b hb;exact hb)
  have hpos:(ab (H5 "ch") (.str ⟨#[c]⟩) (ab (H5 "pos") (.int i) locs)).lookup (H5 "pos")=some (.int i):=by walk_at "lk"
  have hch:(ab (H5 "ch") (.str ⟨#[c]⟩) (ab (H5 "pos") (.int i) locs)).lookup (H5 "ch")=some (.str ⟨#[c]⟩):=by walk_at "lk"
  have hesc:(ab (H5 "ch") (.str ⟨#[c]⟩) (ab (H5 "pos") (.int i) locs)).lookup (H5 "escape")=some (.bool e):=by
   have:=gl.esc
   walk_at "lk"
  generalize hlocs:ab (H5 "ch") (.str ⟨#[c]⟩) (ab (H5 "pos") (.int i) locs)=locs3 at hpos hch hesc
  have I3':bw aa ay [] (aV L) locs3 Fs3 s3:=by rw[←hlocs];exact I3
  have hflat:∀ q∈locs3,q.2.flat=true∧q.2.isOwn=false:=by
   rw[←hlocs]
   exact gv (φ:=fun p=>p.flat=true∧p.isOwn=false) ⟨rfl,rfl⟩ (gv (φ:=fun p=>p.flat=true∧p.isOwn=false) ⟨rfl,rfl⟩ gl.flat)
  have gl3:GL L e i locs3 Fs3 s3:=⟨I3',hflat,hesc,hpos⟩
  have en3:IsEnum s3.heap eA itA ((i+1:Nat):Int) (.str ⟨#[c]⟩ u):=k3'.heap.keep _ _ (by rw[Int.natCast_succ];exact he2) (.inl (by simp;exact fun h=>hLe h.symm))
  have st3:s3.heap.IsStrIter itA (La x) x t (i+1):=by
   obtain⟨o,ho,r⟩:=hst1
   exact⟨o,k3'.heap.keep _ _ ((hs2.2 _ (Il hei)).trans ho) (.inl (by simp;exact fun h=>hLi h.symm)),r⟩
  have kk:aG [L,eA,itA] s₀ s3:=k.trans (aG.trans (s':={ s with heap:=h2,toks:=tk+1 }) ⟨kp.mono (by simp),fun _ _ e=>e,id,rfl⟩ (k3'.mono (by simp)))
  have again:∀(e':Bool) (s₀' s5:Shared) (pre':List PV) (locs5:List (Str×PV)) (Fs5:List (List Addr)) (W:List Addr),GL L e' i locs5 Fs5 s5→aj W s3.heap s5.heap→(∀ b∈[eA,itA],b∉W)→aG [L,eA,itA] s₀' s5→all=pre'++(bD (i+1) e' i cs).map cS→
    Seg (model pw w) A (AE [L,eA,itA]) (AC [L,eA,itA] all) (bD (i+1) e' i cs).length s₀' (.forLoop gc (.ref eA) gj [] (aV L)) (.pure (.again (.forLoop gc (.ref eA) gj [] (aV L)))) [qF L p] s5:=by
   intro e' s₀' s5 pre' locs5 Fs5 W g5 kw hw k5 hall'
   obtain⟨o,ho,r⟩:=st3
   exact seg_again rfl (ih (i+1) e' i s₀' s5 pre' hcs' hlt ⟨⟨locs5,Fs5,g5⟩,⟨_,kw.keep _ _ en3 (.inl (hw eA (by simp)))⟩,o,kw.keep _ _ ho (.inl (hw itA (by simp))),r⟩ k5 hall')
  have hWe:∀ b∈[eA,itA],b∉[L]:=by intro b hb hm;simp at hm;subst hm;exact hLn hb
  have evE:Tr aa ay w (A.over (.forLoop gc (.ref eA) gj [] (aV L)) [qF L p]) (aV L) locs3 (.Name (H5 "escape") { line:=55,col:=11,endLine:=55,endCol:=17 }) e:=Tr.bool (f:=true) (by walk_at "ev") rfl
  refine IM (ry (Pw.andThen (evE.run s3 Fs3 gl3.inv.g gl3.inv.er) fun b s4 hh=>?_))
  obtain⟨eb,k4⟩:=hh
  subst eb
  have gl4:=gl3.moved k4.heap (fun b hb=>nomatch hb) (fun h=>nomatch h)
  cases b with
  |true=>
   have hall1:all=(pre++[cS ((i:Int),H5 "\\"++⟨#[c]⟩)])++(bD (i+1) false i cs).map cS:=by rw[hall];simp[bD]
   have hsz:(H5 "\\").length+(⟨#[c]⟩:Str).length≤10:=by show(H5 "\\").length+1≤10;decide +kernel
   show Seg _ _ _ _ ((bD (i+1) false i cs).length+1) _ _ _ _ _
   refine IM (MK rfl rfl rfl (Hf (Ev.run (gt:=aa) (K:=ay) (locs:=locs3) (r:=.tup [.int i,.str (H5 "\\"++⟨#[c]⟩)]) (fr:=true) ?hev s4 Fs3 gl4.inv.g gl4.inv.er) (fun v s5 ⟨k5,F,z,_⟩=>?_) (fun _ _ x=>x.elim)) rfl rfl)
   case hev=>walk_at "ev"
   intro kap hk
   have hF:F=[]:=z.flat rfl
   subst hF
   refine⟨⟨_,lg (pre:=pre) (rest:=(bD (i+1) false i cs).map cS) (p:=cS ((i:Int),H5 "\\"++⟨#[c]⟩)) (by rw[hall];rfl) (by simp),z⟩,(kk.trans k4.all).trans k5.all,fun W s6 kw hW hd6=>hk .none s6 ?_⟩
   have gl6:=(gl4.moved k5.heap (fun b hb=>nomatch hb) (fun h=>nomatch h)).moved kw hW (hd6 L (by simp))
   have kw3:aj W s3.heap s6.heap:=(k4.heap.all.trans k5.heap.all).trans kw
   refine IM (gY (Hf (wC gl6 false _ _ _ _) (fun f s7 ⟨ef,k7,Fs7,gl7⟩=>⟨ef,?_⟩) fun _ _ x=>x))
   exact again false s6 s7 _ _ Fs7 (W++[L]) gl7 ((kw3.mono fun b hb=>H8 _ hb).trans (k7.heap.mono fun b hb=>Hb _ hb)) (by
    intro b hb hm
    rcases H9.mp hm with hm | hm
    ·exact hd6 b (.tail _ hb) hm
    ·exact hWe b hb hm) (k7.mono (by simp)) hall1
  |false=>
   have evC:Tr aa ay w (A.over (.forLoop gc (.ref eA) gj [] (aV L)) [qF L p]) (aV L) locs3 (.Compare (.Name (H5 "ch") { line:=58,col:=13,endLine:=58,endCol:=15 }) [.Eq] [.Constant (.str (H5 "\\")) 0 { line:=58,col:=19,endLine:=58,endCol:=23 }] { line:=58,col:=13,endLine:=58,endCol:=23 }) ((⟨#[c]⟩:Str)==H5 "\\"):=Tr.cmp (f1:=true) (f2:=true) (by walk_at "ev") (by walk_at "ev") (cz.eqS _ _) rfl
   refine IM (ry (Pw.andThen (evC.run s4 Fs3 gl4.inv.g gl4.inv.er) fun b s5 hh=>?_))
   obtain⟨eb,k5⟩:=hh
   subst eb
   have gl5:=gl4.moved k5.heap (fun b hb=>nomatch hb) (fun h=>nomatch h)
   have k35:=k4.trans k5
   cases hb:((⟨#[c]⟩:Str)==H5 "\\")with
   |true=>
    have he:bD i false l (c::cs)=bD (i+1) true i cs:=by simp only[bD,hb,if_true]
    rw[he]at hall ⊢
    refine IM (gY (Hf (wC gl5 true _ _ _ _) (fun f s7 ⟨ef,k7,Fs7,gl7⟩=>⟨ef,?_⟩) fun _ _ x=>x))
    exact again true s₀ s7 _ _ Fs7 [L] gl7 (k35.heap.all.trans k7.heap) hWe ((kk.trans k35.all).trans (k7.mono (by simp))) hall
   |false=>
    have he:bD i false l (c::cs)=((i:Int),⟨#[c]⟩)::bD (i+1) false i cs:=by simp only[bD,hb,Hq,if_false]
    rw[he]at hall ⊢
    have hall1:all=(pre++[cS ((i:Int),⟨#[c]⟩)])++(bD (i+1) false i cs).map cS:=by rw[hall];simp
    show Seg _ _ _ _ ((bD (i+1) false i cs).length+1) _ _ _ _ _
    refine IM (MK rfl rfl rfl (Hf (Ev.run (gt:=aa) (K:=ay) (locs:=locs3) (r:=.tup [.int i,.str ⟨#[c]⟩]) (fr:=true) ?hev2 s5 Fs3 gl5.inv.g gl5.inv.er) (fun v s6 ⟨k6,F,z,_⟩=>?_) (fun _ _ x=>x.elim)) rfl rfl)
    case hev2=>walk_at "ev"
    intro kap hk
    have hF:F=[]:=z.flat rfl
    subst hF
    refine⟨⟨_,lg (pre:=pre) (rest:=(bD (i+1) false i cs).map cS) (p:=cS ((i:Int),⟨#[c]⟩)) (by rw[hall];rfl) (by simp),z⟩,(kk.trans k35.all).trans k6.all,fun W s7 kw hW hd7=>hk .none s7 ?_⟩
    have gl7:=(gl5.moved k6.heap (fun b hb=>nomatch hb) (fun h=>nomatch h)).moved kw hW (hd7 L (by simp))
    have kw3:aj W s3.heap s7.heap:=(k35.heap.all.trans k6.heap.all).trans kw
    exact again false s7 s7 _ _ Fs3 W gl7 kw3 (fun b hb=>hd7 b (.tail _ hb)) (.refl _ _) hall1
end
end
section
section
variable{M:Model}{A:Around}
theorem pX{R R':GenEnd}{Y Y':Protocol}(hR:∀ n s r s',R n s r s'→R' n s r s')(hY:∀ n s v s' k k',Y n s v s' k→(∀ r s'',k r s''→k' r s'')→Y' n s v s' k'):
  ∀(n:Nat) (s₀:Shared) (c:Code) (t:Sem Fin) (fs:List Frame) (s:Shared),Seg M A R Y n s₀ c t fs s→Seg M A R' Y' n s₀ c t fs s
 |0,s₀,c,t,fs,s,h=>fun Γ p hc hw=>by
  obtain⟨e,s',hr,he⟩:=h Γ p hc hw
  refine⟨e,s',hr,?_⟩
  cases e with
  |ret r=>exact hR _ _ _ _ he
  |susp v g l k c p fs=>exact⟨he.1,hY _ _ _ _ _ _ he.2 fun _ _ x=>x⟩
 |n+1,s₀,c,t,fs,s,h=>fun Γ p hc hw=>by
  obtain⟨e,s',hr,he⟩:=h Γ p hc hw
  refine⟨e,s',hr,?_⟩
  cases e with
  |ret r=>exact hR _ _ _ _ he
  |susp v g l k c p fs=>exact⟨he.1,hY _ _ _ _ _ _ he.2 fun r s'' x=>pX hR hY n _ _ _ _ _ x⟩
end
noncomputable def xY(L a:Addr)(all:List PV): Protocol:=fun n s₀ v s' k=>
 (∃ p,all[all.length - 1 - n]? = some p∧VR s'.heap p v [])∧(∃ P,(∀ b∈P,L≤b∧b≠a)∧aG P s₀ s')∧∀ W s'',aj W s'.heap s''.heap→(∀ b∈W,348≤b∧b<L)→k (.send .none) s''
noncomputable def BJ(L a:Addr): Nat→Shared→Shared→Prop:=fun n s₀ s'=>n=0∧∃ P,(∀ b∈P,L≤b∧b≠a)∧aG P s₀ s'
noncomputable abbrev BI(L a:Addr): GenEnd:=fun n s₀ r s₁=>r=.ok (.ret .none)∧BJ L a n s₀ s₁
section
variable{gt:List (Str×Value)}{K:List (Addr×Obj)}{w:World}{A:Around}{env:Env}{locs:List (Str×PV)}
theorem pe{x:Str}{np pos:Pos}{e:Expr}{es:List Expr}{f:Value}{rs:List PV}{ff fa:Bool}{s:Shared}{Fs:List (List Addr)}{Q:Value→Shared→Prop}(g:G gt K s.heap)(z:dO s.heap env locs Fs)(hf:Ev gt K w A env locs (.Name x np) (.val f) ff)(hc:eS K f)
  (ha:bG gt K w A env locs (e::es) rs fa) (ho:∀ s2 vs F,aG [] s s2→G gt K s2.heap→bf s2.heap rs vs F→(fa=true→∀ b∈F,s.heap.objs.size≤b)→wpAny (model pw w) A (call f vs) Q (fun _ _=>False) s2)
  (he:Hg (e::es) env=(false,eval e env)::Hg es env) (hplain:(backTo pos (Hg es env)).any (·.1)=false):
  wpAny (model pw w) A (eval (.Call (.Name x np) (e::es) [] pos) env) Q (fun _ _=>False) s:=
 It (Pw.andThen (hf.run s Fs g z) fun v s₁ hh=>by
  obtain⟨k1,F1,v1,_⟩:=hh
  cases v1
  obtain h:=ha.run s₁ Fs pos (g.kept0 k1.heap) (z.kept0 k1.heap)
  show wpAny _ _ (IU pos f [] (backTo pos (Hg (e::es) env)) []) _ _ _
  rw[he]at h ⊢
  refine Ik (P:=G gt K) (by show((false||(backTo pos (Hg es env)).any (·.1))||false)=false;rw[hplain];rfl) (fun h' g'=>bK hc g') (HZ (Pw.andThen h fun vs s₂ hh=>?_))
  obtain⟨k2,F2,v2,fr⟩:=hh
  exact⟨(g.kept0 k1.heap).kept0 k2.heap,ho s₂ vs F2 (k1.trans k2) ((g.kept0 k1.heap).kept0 k2.heap) v2 fun e b hb=>H6 k1.heap.size (fr e b hb)⟩)
end
section
variable{w:World}{A:Around}{L a:Addr}{x:Str}
noncomputable def jl(x:Str): List PV:=(bD 0 false 0 x.cps.toList).map cS
theorem xZ(ro:Ro A 6){Fs:List (List Addr)}{s:Shared}(I:bw aa ay [] (aV L) [(H5 "addr",.str x)] Fs s)(hLs:L<s.heap.objs.size)(haL:a≠L)(has:a<s.heap.objs.size):
  Seg (model pw w) A (BI L a) (xY L a (jl x)) (jl x).length s (.func ct (aV L)) ((model pw w).den (.func ct (aV L))) [] s:=by
 obtain ro1:Ro (A.over (.func ct (aV L)) []) 4:=tz ro _ _
 refine seg_func ?_
 obtain a1:Ex aa ay [] w (A.over (.func ct (aV L)) []) (aV L) (exec (ct[0]?.getD (.Pass default)) (aV L)) [(H5 "addr",.str x)] .next (ab (H5 "pos") (.int 0) [(H5 "addr",.str x)]):=
  az bj (by simp) (Ev.int 0 _ _) (Bind.same rfl) (.inl (by kernel_rfl)) rfl
 obtain a2:Ex aa ay [] w (A.over (.func ct (aV L)) []) (aV L) (exec (ct[1]?.getD (.Pass default)) (aV L)) (ab (H5 "pos") (.int 0) [(H5 "addr",.str x)]) .next (ab (H5 "escape") (.bool false) (ab (H5 "pos") (.int 0) [(H5 "addr",.str x)])):=
  az bj (by simp) (Ev.bool false _ _) (Bind.same rfl) (.inl (by kernel_rfl)) rfl
 refine IM (gY (Hf (a1.run s Fs I) (fun f s1 ⟨k1,f1,Fs1,I1,o1⟩=>⟨f1,?_⟩) fun _ _ x=>x))
 refine IM (gY (Hf (a2.run s1 Fs1 I1) (fun f s2 ⟨k2,f2,Fs2,I2,o2⟩=>⟨f2,?_⟩) fun _ _ x=>x))
 have own0:∀{ls:List (Str×PV)} {Gs:List (List Addr)},(∀ q∈ls,q.2.isOwn=false)→∀ b∈ow (aV L) ls Gs,b∈[L]:=by
  intro ls Gs hq b hb
  simp only[ow,Hp,Ha,H9]at hb
  rcases hb with hb | hb | hb
  ·rw[hb];exact .head _
  ·exact nomatch (show b∈([]:List Addr)from hb)
  ·exact dD hq b hb
 have fl0:∀ q∈([(H5 "addr",PV.str x)]:List (Str×PV)),q.2.flat=true∧q.2.isOwn=false:=by
  intro q hq;rw[H7.mp hq];exact⟨rfl,rfl⟩
 obtain fl1:=gv (φ:=fun p=>p.flat=true∧p.isOwn=false) (x:=H5 "pos") (p:=.int 0) ⟨rfl,rfl⟩ fl0
 obtain fl2:=gv (φ:=fun p=>p.flat=true∧p.isOwn=false) (x:=H5 "escape") (p:=.bool false) ⟨rfl,rfl⟩ fl1
 obtain k1':=k1.mono (own0 fun q hq=>(fl0 q hq).2)
 obtain k2':=k2.mono (own0 fun q hq=>(fl1 q hq).2)
 have k02:=k1'.trans k2'
 obtain gl2:GL L false 0 _ Fs2 s2:=⟨I2,fl2,by walk_at "lk",by walk_at "lk"⟩
 obtain hL348:348≤L:=I.hi L (by simp only[ow,Hp];exact .head _)
 obtain hA:(ab (H5 "escape") (.bool false) (ab (H5 "pos") (.int 0) [(H5 "addr",.str x)])).lookup (H5 "addr")=some (.str x):=by walk_at "lk"
 generalize hlocs:ab (H5 "escape") (PV.bool false) (ab (H5 "pos") (.int 0) [(H5 "addr",.str x)])=locs2 at *
 refine IM (zT (pe (gt:=aa) (K:=ay) (locs:=locs2) (rs:=[.str x]) (f:=.type "enumerate") (fa:=true) I2.g I2.er (Ev.builtin (by kernel_rfl) boot_enumerate (by decide +kernel) (by kernel_rfl)) bd (bG.cons (f1:=true) (f2:=true) ?hev bG.nil rfl) (fun s3 vs F k3 g3 z3 _=>?_) rfl rfl) (by intro _;rfl))
 case hev=>walk_at "ev"
 cases z3 with
 |cons zx zn=>
  cases zn
  cases zx with
  |str _ t=>
   refine call_enumerate_str fun h' he hst hz hk=>wpAny_pyIter_enum he fun p=>?_
   have kp:aj [] s3.heap h':=⟨by rw[hz];omega,fun b o e _=>hk b o e⟩
   have hs2:s.heap.objs.size≤s3.heap.objs.size:=H6 k02.heap.size k3.heap.size
   obtain low:348≤s3.heap.objs.size:=g3.low
   have P0:∀ b∈[L,s3.heap.objs.size+1,s3.heap.objs.size],L≤b∧b≠a:=by
    obtain ha3:a<s3.heap.objs.size:=HB has hs2
    obtain hL3:L<s3.heap.objs.size:=HB hLs hs2
    intro b hb
    rcases jE hb with hb | hb | hb
    ·rw[hb];exact⟨Hw _,haL.symm⟩
    ·rw[hb];exact⟨IG (IW hL3),(Im (IW ha3)).symm⟩
    ·rw[hb];exact⟨IG hL3,(Im ha3).symm⟩
   obtain gl3:=gl2.moved (s':={ s3 with heap:=h' }) (k3.heap.trans kp) (fun b hb=>nomatch hb) (fun h=>nomatch h)
   refine pX (R:=AE [L,s3.heap.objs.size+1,s3.heap.objs.size]) (Y:=AC [L,s3.heap.objs.size+1,s3.heap.objs.size] (jl x)) (fun n s r s' ⟨e,n0,k⟩=>⟨e,n0,_,P0,k⟩) (fun n s v s' k k' ⟨hp,hs,hk⟩ hkk=>⟨hp,⟨_,P0,hs⟩,fun W s'' kw hW=>hkk _ _ (hk W s'' kw (fun b hb=>(hW b hb).1) fun b hb hm=>absurd (hW b hm).2 (Hz.mpr (P0 b hb).1))⟩) _ _ _ _ _ _ ?_
   obtain hlen:(jl x).length=(bD 0 false 0 x.cps.toList).length:=by simp[jl]
   rw[hlen]
   exact AF (t:=t) ro (by
    obtain hL3:L<s3.heap.objs.size:=HB hLs hs2
    simp only[Hu,Ha,Hs,or_false,not_or,Ls,not_false_eq_true,and_true]
    exact⟨⟨Im (IW hL3),Im hL3⟩,Nat.succ_ne_self _⟩) (fun b hb=>H6 hL348 (P0 b hb).1) p x.cps.toList 0 false 0 s _ [] rfl (HT _) ⟨⟨locs2,Fs2,gl3⟩,⟨.none,he⟩,hst⟩ ((k02.trans k3.all).mono (by simp) |>.trans ⟨kp.all,fun _ _ e=>e,id,rfl⟩) rfl
end
end
section
section
variable{w:World}{A:Around}
noncomputable def jn(w:World)(A:Around)(L a:Addr)(all:List PV)(n:Nat)(gs:L7)(h:Heap): Prop:=
 ∀ W s'',aj W h s''.heap→(∀ b∈W,348≤b∧b<L)→gs.Goes (model pw w) A (BI L a) (xY L a all) n (.send .none) s''
theorem xW(ro:Ro A 2){s:Shared}(g:G aa ay s.heap)(x:Str)(t:Tok):
  wpAny (model pw w) A (call (.ref 87) [.str x t]) (fun v s'=>∃ a,v=.ref a∧s'.heap.IsGen a s.gens.size∧s'.gens=s.gens.push (.fresh (.func ct (aV s.heap.objs.size)))∧aj [] s.heap s'.heap∧s'.os=s.os∧s.heap.objs.size<a∧a<s'.heap.objs.size∧
   ∃ Fs,bw aa ay [] (aV s.heap.objs.size) [(H5 "addr",.str x)] Fs s') (fun _ _=>False) s:=by
 obtain hm:(87,fx (aO 6) (H5 "_iter_escaped_chars") (.str (H5 "cpy313.email.utils") 349) 86 .none)∈ay:=cQ (i:=9) rfl
 obtain⟨oc,hcm,ws,tq,hoc,hq⟩:∃ oc,(86,oc)∈ay∧∃ ws tq,oc.data=.fields ws∧ws[1]? = some (.str AH.qualname tq):=⟨_,cQ (i:=8) rfl,_,_,rfl,rfl⟩
 obtain hb:J4 AH ⟨[.str x t],[]⟩=pure [(H5 "addr",.str x t)]:=by kernel_rfl
 refine Jp (codeAny_call_generator (fd:=AH) (body:=ct) (by obtain this:=ro.2.1;omega) (g.tab _ hm) rfl rfl rfl rfl ⟨86,oc,ws,tq,rfl,g.tab _ hcm,hoc,hq⟩ ?_)
 rw[hb]
 refine Hi (Lx rfl (fun y hy=>?_) fun env he s1 ic=>?_)
 ·rw[H7.mp hy];exact .inl (by kernel_rfl)
 ·have he:env=aV s.heap.objs.size:=he
  subst he
  obtain⟨h1,tk,rfl⟩:=ic.toInCall.same
  have hlt:s.heap.objs.size<h1.objs.size:=ic.toInCall.ns.lt
  have kp:aj [] s.heap h1:=⟨IG hlt,fun b o e _=>ic.toInCall.keep b o e⟩
  have g1:=g.kept0 kp
  refine⟨g1.nolimit,⟨h1.objs.size,rfl,⟨_,_,_,Hk _ rfl,rfl,rfl,rfl⟩,rfl,kp.trans (aj.push _ _),rfl,hlt,by rw[HX];exact HV _,[[]],?_⟩⟩
  have hk:(aV s.heap.objs.size).kindOf (H5 "addr")=some .local:=by kernel_rfl
  obtain hI:bw aa ay [] (aV s.heap.objs.size) [(H5 "addr",.str x)] [[]] { s with heap:=h1,toks:=tk }:=by
   refine⟨g1,⟨rfl,rfl,rfl,_,ic.toInCall.ns,⟨_,.inl ⟨hk,jk hk (by simp) (.head _)⟩,.str _ _⟩,trivial⟩,by simp[show(aV s.heap.objs.size).cells=[]from rfl],fun b hb=>?_,fun c hc=>?_,by simp,fun q hq=>nomatch hq⟩
   ·simp only[ow,Hp,Ha,H9]at hb
    rcases hb with hb | hb | hb
    ·rw[hb];exact g.low
    ·exact nomatch (show b∈([]:List Addr)from hb)
    ·exact dD (W:=[]) (by intro p hp;rw[H7.mp hp];rfl) b hb |> fun h=>nomatch h
   ·exact nomatch (show c∈([]:List (Str×Addr))from hc)
  exact hI.moved bj (aj.push _ _) (fun b hb=>nomatch hb) (fun b _ h=>nomatch h)
theorem vf(ro:Ro A 6){x:Str}{L a:Addr}{Fs:List (List Addr)}{s:Shared}(I:bw aa ay [] (aV L) [(H5 "addr",.str x)] Fs s)(hL:L<a)(ha:a<s.heap.objs.size):
  jn w A L a (jl x) (jl x).length (.fresh (.func ct (aV L))) s.heap:=by
 intro W s'' k hw
 obtain hF:Fs.flatten=[]:=by
  obtain⟨m,n,V⟩:=I.er.vars
  exact V.flat fun q hq=>by rw[H7.mp hq];rfl
 obtain I':=I.moved (s':=s'') bj k (fun b hb=>(hw b hb).1) (by
  rw[hF]
  intro b hb hm
  have hc:(aV L).cells=[]:=rfl
  have hl:(aV L).locals=L:=rfl
  obtain this:b=L:=by simpa[hc,hl]using hb
  rw[this]at hm
  exact Ie _ (hw L hm).2)
 exact⟨rfl,xZ ro I' (HB (IN hL ha) k.size) (Im hL).symm (HB ha k.size)⟩
noncomputable def vR(g:Nat)(s s':Shared): Prop:=(∀ i y,i≠g→s.gens[i]? = some y→s'.gens[i]? = some y)∧(AllBare s.gens→AllBare s'.gens)∧s'.os=s.os
theorem xV{L a:Addr}{all:List PV}{n g:Nat}{gs:L7}{s:Shared}(hh:A.handled=none)(hl:s.heap.NoLimit)(hroom:A.depth<MI)(h348:348≤L)(hg:s.heap.IsGen a g)(hgs:s.gens[g]? = some gs)(gi:jn w A.in1 L a all n gs s.heap):
  wpAny (model pw w) A (pyNext (.ref a)) (fun r s'=>vR g s s'∧(∃ P,(∀ b∈P,L≤b∧b≠a)∧aj P s.heap s'.heap)∧match r with
   |none=>n=0
   |some v=>∃ m p gs',n=m+1∧all[all.length - 1 - m]? = some p∧VR s'.heap p v []∧s'.gens[g]? = some gs'∧jn w A.in1 L a all m gs' s'.heap) (fun _ _=>False) s:=by
 obtain hgl:g<s.gens.size:=(IX.mp hgs).1
 have oth:∀(s1:Shared) (P:List Addr) (y:L7),aG P (s.setGen g .running) s1→(∀ i y',i≠g→s.gens[i]? = some y'→(s1.setGen g y).gens[i]? = some y'):=by
  intro s1 P y k i y' hi hy
  obtain h1:(s.setGen g .running).gens[i]? = some y':=by
   simp only[LS]
   rw[KR (Il hi)];exact hy
  obtain h2:=k.gens i y' h1
  simp only[LS]
  rw[KR (Il hi)];exact h2
 refine Hf (fO (wpAny_pyNext_gen (Q:=fun r s'=>(∀ i y,i≠g→s.gens[i]? = some y→s'.gens[i]? = some y)∧s'.os=s.os∧(∃ P s1,(∀ b∈P,L≤b∧b≠a)∧aj P s.heap s1∧∀ b o,s1.get? b=some o→s'.heap.get? b=some o)∧match r with
   |none=>n=0
   |some v=>∃ m p gs',n=m+1∧all[all.length - 1 - m]? = some p∧VR s'.heap p v []∧s'.gens[g]? = some gs'∧jn w A.in1 L a all m gs' s'.heap)
  (P:=BJ L a) (Y:=xY L a all) hh hl hroom hg hgs (gi [] _ (aj.refl _ _) (fun b hb=>nomatch hb)) (fun v s1 gs' hY=>?_) (fun s1 hP h' hk=>?_))) (fun r s' ⟨⟨h1,h2,⟨P,s1,hP,kP,kx⟩,h3⟩,hz,hb⟩=>?_) fun _ _ x=>x.1
 ·obtain⟨⟨p,hp,hv⟩,⟨P,hP,k⟩,hk⟩:=hY
  refine⟨oth s1 P gs' k,k.os,⟨P,s1.heap,hP,k.heap,fun _ _ e=>e⟩,?_⟩
  cases n with
  |zero=>exact(hk [] s1 (aj.refl _ _) (fun b hb=>nomatch hb)).elim
  |succ m=>
   refine⟨m,p,gs',rfl,hp,hv,?_,fun W s'' kw hw=>hk W s'' kw hw⟩
   obtain hgl':g<s1.gens.size:=by
    obtain this:(s.setGen g .running).gens[g]? = some .running:=by
     simp only[LS]
     rw[K9 hgl]
    exact(IX.mp (k.gens g _ this)).1
   simp only[LS]
   rw[K9 hgl']
 ·obtain⟨n0,P,hP,k⟩:=hP
  exact⟨oth s1 P .finished k,k.os,⟨P,s1.heap,hP,k.heap,hk⟩,n0⟩
 ·exact⟨⟨h1,hb,h2⟩,⟨P,hP,hz,fun b o e q=>kx b o (kP.keep b o e q)⟩,h3⟩
end
end
section
section
variable{gt:List (Str×Value)}{K:List (Addr×Obj)}{pins:List (Str×Addr)}{w:World}{A:Around}{env:Env}
theorem vc{elts:List Expr}{k:Nat}{pos:Pos}{a:Addr}{g:Nat}{v:Value}{s:Shared}{Q:Unit→Shared→Prop}{E:Value→Shared→Prop}(hg:s.heap.IsGen a g)(h:Q () s):
  wpAny (model pw w) A (Kt (.Tuple elts k pos) (.ref a) v) Q E s:=by
 obtain⟨o,nm,qn,ho,hc,hd,_⟩:=hg
 skip
 cases v with
 |ref b=>
  refine Hc (wpAny_load ho ?_)
  rw[hc,hd]
  exact Hi h
 |_=>exact Hi h
noncomputable def cW(pins:List (Str×Addr))(locs:List (Str×PV)): Prop:=∀ q∈locs,(q.2.flat=true∧q.2.isOwn=false)∨∃ b l,(q.1,b)∈pins∧q.2=.own l∧PV.flat.go l=true
theorem cI{pins:List (Str×Addr)}{x:Str}{p:PV}(hf:p.flat=true)(ho:p.isOwn=false): ∀{locs:List (Str×PV)},cW pins locs→cW pins (ab x p locs):=by
 intro locs
 induction locs with
 |nil=>
  rintro _ q hq
  obtain this:q=(x,p):=by simpa[ab]using hq
  rw[this];exact .inl ⟨hf,ho⟩
 |cons e9 l ih=>
  obtain⟨y,r⟩:=e9
  rintro h q hq
  unfold ab at hq
  split at hq
  ·rcases Ha.mp hq with rfl | hq
   ·exact .inl ⟨hf,ho⟩
   ·exact h q (.tail _ hq)
  ·rcases Ha.mp hq with rfl | hq
   ·exact h _ (.head _)
   ·exact ih (fun q hq=>h q (.tail _ hq)) q hq
theorem mo{h:Heap}{L:Addr}{m m':Str→Option Value}(x:h.Ns L m)(y:h.Ns L m'): m=m':=by
 obtain⟨o,es,ep,e1,e2,_,e3⟩:=x
 obtain⟨o',es',ep',f1,f2,_,f3⟩:=y
 rw[e1]at f1;cases f1
 rw[e2]at f2;cases f2
 funext z
 rw[←e3,←f3]
theorem bO.own_pinned{h:Heap}{env:Env}{m:Str→Option Value}(hp:za h env pins)(hn:h.Ns env.locals m){locs:List (Str×PV)}{Fs:List (List Addr)}(V:bO h env m locs Fs): cW pins locs→∀ b∈Fs.flatten,b∈pins.map (·.2):=by
 induction V using bO.ind with
 |nil=>exact fun _ b hb=>nomatch hb
 | @cons x p r F Fs v a z V ih=>
  intro ho b hb
  skip
  rcases H9.mp hb with hb | hb
  ·rcases ho (x,p) (.head _)with⟨hfl,_⟩ | ⟨c,l,hc,rfl,hl⟩
   ·rw[z.flat hfl]at hb;cases hb
   ·obtain⟨m',n',e,kd⟩:=hp _ hc
    obtain this:=mo hn n'
    subst this
    obtain hv:v=.ref c:=by
     rcases a with⟨_,a⟩ | ⟨a,_⟩
     ·rw[e]at a;cases a;rfl
     ·rw[kd]at a;rcases a with a | a <;> cases a
    subst hv
    cases z with
    |own e1 y nd=>
     obtain rfl:=y.flat hl
     simp only[Ha,Hs,or_false]at hb
     rw[hb]
     exact Hm.mpr ⟨_,hc,rfl⟩
  ·exact ih (fun q hq=>ho q (.tail _ hq)) b hb
theorem ny{locs:List (Str×PV)}{Fs:List (List Addr)}{s:Shared}(I:bw gt K pins env locs Fs s)(ho:cW pins locs): ∀ b∈Fs.flatten,b∈pins.map (·.2):=by
 obtain⟨m,n,V⟩:=I.er.vars
 exact V.own_pinned I.pin n ho
theorem nb{locs:List (Str×PV)}{Fs:List (List Addr)}{s:Shared}(I:bw gt K pins env locs Fs s)(ho:cW pins locs): ∀ b∈ow env locs Fs,b∈env.locals::env.cells.map (·.2)++pins.map (·.2):=by
 intro b hb
 rcases H9.mp hb with hb | hb
 ·exact H8 _ hb
 ·exact Hb _ (ny I ho b (cT hb))
theorem bw.movedP{locs:List (Str×PV)}{Fs:List (List Addr)}{W:List Addr}{s s':Shared}(hK:∀ q∈K,q.1<348)(I:bw gt K pins env locs Fs s)(k:aj W s.heap s'.heap)(hw:∀ b∈W,348≤b)
  (hd:∀ b∈env.locals::env.cells.map (·.2)++Fs.flatten,b∉W):bw gt K pins env locs Fs s':=by
 simp only[Hp,Ha,H9]at hd
 exact⟨I.g.kept k hw hK,I.er.kept k (hd _ (.inl rfl)) (fun p hp=>hd _ (.inr (.inl (Hm.mpr ⟨p,hp,rfl⟩)))) (fun H hH b hb=>hd b (.inr (.inr (KY.mpr ⟨H,hH,hb⟩)))),I.nd,I.hi,fun c hc=>by
  obtain⟨v,i⟩:=I.cl c hc
  exact⟨v,bq k i (hd _ (.inr (.inl (Hm.mpr ⟨c,hc,rfl⟩))))⟩,I.keys,fun q hq=>by
  obtain⟨m,n,e,kd⟩:=I.pin q hq
  exact⟨m,bc k n (hd _ (.inl rfl)),e,kd⟩⟩
theorem jn.moved{A:Around}{L a:Addr}{all:List PV}{n:Nat}{gs:L7}{h h':Heap}{W:List Addr}(gi:jn w A L a all n gs h)(k:aj W h h')(hw:∀ b∈W,348≤b∧b<L): jn w A L a all n gs h':=fun W' s'' k' hw'=>
 gi (W++W') s'' ((k.mono fun b hb=>H8 _ hb).trans (k'.mono fun b hb=>Hb _ hb)) fun b hb=>(H9.mp hb).elim (hw b) (hw' b)
inductive fv(gt:List (Str×Value))(K:List (Addr×Obj))(pins:List (Str×Addr))(w:World)(A:Around)(env:Env)(body:List Stmt)(x y:Str): List (Int×Str)→List (Str×PV)→Fl→List (Str×PV)→Prop
 |nil{locs:List (Str×PV)}: cW pins locs→fv gt K pins w A env body x y [] locs .next locs
 |next{i:Int}{c:Str}{rest:List (Int×Str)}{locs locs1 locs2:List (Str×PV)}{fl:Fl}: cW pins locs→Ex gt K pins w A env (execs body env) (ab y (.str c) (ab x (.int i) locs)) .next locs1→fv gt K pins w A env body x y rest locs1 fl locs2→fv gt K pins w A env body x y ((i,c)::rest) locs fl locs2
 |ret{i:Int}{c:Str}{rest:List (Int×Str)}{locs locs1:List (Str×PV)}{p:PV}: cW pins locs→p.flat=true→Ex gt K pins w A env (execs body env) (ab y (.str c) (ab x (.int i) locs)) (.ret p) locs1→cW pins locs1→fv gt K pins w A env body x y ((i,c)::rest) locs (.ret p) locs1
end
theorem fv.own{gt:List (Str×Value)}{K:List (Addr×Obj)}{pins:List (Str×Addr)}{w:World}{A:Around}{env:Env}{body:List Stmt}{x y:Str}{rest:List (Int×Str)}{locs l:List (Str×PV)}{fl:Fl}(z:fv gt K pins w A env body x y rest locs fl l): cW pins locs:=by induction z using fv.casesOn <;> assumption
noncomputable def FC(gt:List (Str×Value))(K:List (Addr×Obj))(pins:List (Str×Addr))(w:World)(A:Around)(env:Env)(body:List Stmt)(x y:Str)(locs:List (Str×PV))(fl:Fl)(l:List (Str×PV))(items:List (Int×Str)): Prop:=
 List.casesOn items (fl=.next∧l=locs) fun q rest=>(∃ locs1,Ex gt K pins w A env (execs body env) (ab y (.str q.2) (ab x (.int q.1) locs)) .next locs1∧fv gt K pins w A env body x y rest locs1 fl l)∨∃ p,p.flat=true∧fl=.ret p∧Ex gt K pins w A env (execs body env) (ab y (.str q.2) (ab x (.int q.1) locs)) (.ret p) l∧cW pins l
theorem fv.inv0{gt:List (Str×Value)}{K:List (Addr×Obj)}{pins:List (Str×Addr)}{w:World}{A:Around}{env:Env}{body:List Stmt}{x y:Str}{items:List (Int×Str)}{locs l:List (Str×PV)}{fl:Fl}(z:fv gt K pins w A env body x y items locs fl l): FC gt K pins w A env body x y locs fl l items:=by
 induction z using fv.casesOn with
 |nil _=>exact⟨rfl,rfl⟩
 |next _ a b=>exact .inl ⟨_,a,b⟩
 |ret _ a b c=>exact .inr ⟨_,a,rfl,b,c⟩
theorem fv.end{gt:List (Str×Value)}{K:List (Addr×Obj)}{pins:List (Str×Addr)}{w:World}{A:Around}{env:Env}{body:List Stmt}{x y:Str}{locs l:List (Str×PV)}{fl:Fl}(z:fv gt K pins w A env body x y [] locs fl l): fl=.next∧l=locs:=z.inv0
theorem fv.inv{gt:List (Str×Value)}{K:List (Addr×Obj)}{pins:List (Str×Addr)}{w:World}{A:Around}{env:Env}{body:List Stmt}{x y:Str}{i:Int}{c:Str}{rest:List (Int×Str)}{locs l:List (Str×PV)}{fl:Fl}(z:fv gt K pins w A env body x y ((i,c)::rest) locs fl l):
  (∃ locs1,Ex gt K pins w A env (execs body env) (ab y (.str c) (ab x (.int i) locs)) .next locs1∧fv gt K pins w A env body x y rest locs1 fl l)∨∃ p,p.flat=true∧fl=.ret p∧Ex gt K pins w A env (execs body env) (ab y (.str c) (ab x (.int i) locs)) (.ret p) l∧cW pins l:=z.inv0
noncomputable def QL(J:Nat→Shared→Prop)(R:Result→Shared→Prop)(k:Nat)(f:Flow)(s:Shared): Prop:=match f with
 | .next | .cont=>∃ m,m<k∧J m s
 | .brk=>R (.ok .next) s
 | .ret v=>R (.ok (.ret v)) s
theorem nC{w:World}{A:Around}{env:Env}{target:Expr}{it:Value}{body:List Stmt}{R:Result→Shared→Prop}{s:Shared}(J:Nat→Shared→Prop)
  (turn:∀ k s1,J k s1→∀ Q:Option Value→Shared→Prop,(∀ s2,R (.ok .next) s2→Q none s2)→(∀ v s2,wpAny (model pw w) A (Kt target it v) (fun _ s₁=>wpAny (model pw w) A (assign target env v) (fun _ s₂=>wpAny (model pw w) A (execs body env) (QL J R k) (fun _ _=>False) s₂) (fun _ _=>False) s₁) (fun _ _=>False) s2→Q (some v) s2)→
   wpAny (model pw w) A (pyNext it) Q (fun _ _=>False) s1) (n:Nat) (h:J n s):codeAny (model pw w) A (.forLoop target it body [] env) R s:=by
 refine codeAny_forLoop_any J (fun k s1 h=>?_) n h
 refine Hf (turn k s1 h _ ?_ ?_) (fun _ _ h=>h) fun _ _ e=>e.elim
 ·exact fun s2 h=>JW h
 ·exact fun v s2 h=>Hf h (fun _ _ h=>Hf h (fun _ _ h=>Hf h (fun f _ h=>by cases f <;> exact h) fun _ _ e=>e.elim) fun _ _ e=>e.elim) fun _ _ e=>e.elim
end
section
section
variable{pins:List (Str×Addr)}{w:World}{A:Around}{env:Env}
inductive GF(pins:List (Str×Addr))(w:World)(A:Around)(env:Env)(body:List Stmt)(x y:Str)(O:List Addr)(L a:Addr)(g:Nat)(all:List PV)(fl:Fl)(locs':List (Str×PV))(s:Shared)(n:Nat)(s1:Shared): Prop
 |mk(rest:List (Int×Str))(locs:List (Str×PV))(Fs:List (List Addr))(gs:L7)(pre:List PV)(e:n=rest.length)(hl:fv aa ay pins w A env body x y rest locs fl locs')(I:bw aa ay pins env locs Fs s1)(k:aG O s s1)
  (hall:all=pre++rest.map cS) (hg:s1.heap.IsGen a g) (hgg:s1.gens[g]? = some gs) (gi:jn w A.in1 L a all rest.length gs s1.heap)
theorem yD(hh:A.handled=none)(hroom:A.depth<MI){x y:Str}{px py tpos:Pos}{k0:Nat}{body:List Stmt}{fl:Fl}{locs':List (Str×PV)}{L a g:Nat}{all:List PV}{R:Result→Shared→Prop}
  (hx:aJ env x) (hy:aJ env y) (hpx:x∉pins.map (·.1)) (hpy:y∉pins.map (·.1)) (h348:348≤L) (haL:L<a) (hS':∀ b∈env.locals::env.cells.map (·.2)++pins.map (·.2),348≤b∧b<L) (O:List Addr) (hO:∀ b∈env.locals::env.cells.map (·.2)++pins.map (·.2),b∈O) (s:Shared) (hsL:s.heap.objs.size≤L) (hgs:s.gens.size≤g)
  (hR:∀ s' f Fs',aG O s s'→DS s.heap.objs.size O s'.heap fl f→bw aa ay pins env locs' Fs' s'→cW pins locs'→R (.ok f) s'):
  ∀(rest:List (Int×Str)) (locs:List (Str×PV)) (Fs:List (List Addr)) (gs:L7) (pre:List PV) (s1:Shared),fv aa ay pins w A env body x y rest locs fl locs'→bw aa ay pins env locs Fs s1→aG O s s1→all=pre++rest.map cS→s1.heap.IsGen a g→s1.gens[g]? = some gs→jn w A.in1 L a all rest.length gs s1.heap→
  codeAny (model pw w) A (.forLoop (.Tuple [.Name x px,.Name y py] k0 tpos) (.ref a) body [] env) R s1:=by
 intro rest locs Fs gs pre s1 hl I k hall hg hgg gi
 refine nC (GF pins w A env body x y O L a g all fl locs' s) ?_ rest.length ⟨rest,locs,Fs,gs,pre,rfl,hl,I,k,hall,hg,hgg,gi⟩
 clear hl I k hall hg hgg gi s1 pre gs Fs locs rest
 intro n s1 h Q hN hS
 obtain⟨rest,locs,Fs,gs,pre,en,hl,I,k,hall,hg,hgg,gi⟩:=h
 have hok:=hl.own
 refine Hf (xV hh I.g.nolimit hroom h348 hg hgg gi) (fun r s2 hh=>?_) fun _ _ x=>x.elim
 obtain⟨⟨og1,og2,og3⟩,⟨P,hP,kP⟩,hr⟩:=hh
 have I2:=I.movedP (s':=s2) bj kP (fun b hb=>H6 h348 (hP b hb).1) fun b hb hm=>Ie _ (HB (hS' b ((H9.mp hb).elim (fun h=>H8 _ h) fun h=>Hb _ (ny I hok b h))).2 (hP b hm).1)
 have k2:aG O s s2:=⟨(k.heap).comp kP (fun b hb=>.inr (H6 hsL (hP b hb).1)),fun i y' hy=>og1 i y' (Im (HB (IX.mp hy).1 hgs)) (k.gens i y' hy),fun b=>og2 (k.bare b),og3.trans k.os⟩
 have hg2:s2.heap.IsGen a g:=by
  obtain⟨o,nm,qn,ho,r⟩:=hg
  exact⟨o,nm,qn,kP.keep _ _ ho (.inl fun hm=>(hP a hm).2 rfl),r⟩
 cases r with
 |none=>
  cases rest with
  |nil=>
   obtain⟨e1,e2⟩:=hl.end
   exact hN s2 (hR s2 .next Fs k2 (e1▸rfl) (e2▸I2) (e2▸hok))
  |cons _ _=>exact absurd hr (Nat.succ_ne_zero _)
 |some v=>
  obtain⟨m,p,gs',hn,hp,hv,hgs',gi'⟩:=hr
  cases rest with
  |nil=>exact absurd hn (Nat.succ_ne_zero m).symm
  |cons q rest'=>
   obtain⟨i,c⟩:=q
   obtain rfl:rest'.length=m:=KH hn
   have hpp:p=cS (i,c):=Ld (hp.symm.trans (lg (all:=all) (pre:=pre) (p:=cS (i,c)) (rest:=rest'.map cS) (m:=rest'.length) (hall.trans rfl) (Hl _).symm))
   have hv:VR s2.heap (cS (i,c)) v []:=hpp▸hv
   refine hS v s2 (vc hg2 ?_)
   refine Hf (eN (gt:=aa) (K:=ay) (pins:=pins) (xs:=[x,y]) (n:=348) bj (Hw _) hh (fun z hz=>by
    rcases Ha.mp hz with rfl | hz
    ·exact hpx
    ·rw[H7.mp hz];exact hpy) rfl (gW hx hy) ⟨aI _ _ _,aI _ _ _,trivial⟩ rfl rfl I2 hv (fun b hb=>nomatch hb) (fun b hb=>nomatch hb)) (fun _ s3 h3=>?_) fun _ _ x=>x.elim
   obtain⟨Fs3,I3,k3,_⟩:=h3
   have I3:bw aa ay pins env (ab y (.str c) (ab x (.int i) locs)) Fs3 s3:=I3
   have sub3:=nb I3 (cI rfl rfl (cI rfl rfl hok))
   have k3S:aG (env.locals::env.cells.map (·.2)++pins.map (·.2)) s2 s3:=k3.mono fun b hb=>H8 _ hb
   rcases hl.inv with h | h
   ·obtain⟨locs1,hb,hl'⟩:=h
    refine Hf (hb.run s3 Fs3 I3) (fun f s4 hh=>?_) fun _ _ x=>x.elim
    obtain⟨k4,f4,Fs4,I4,o4⟩:=hh
    have k24:=k3S.trans (k4.mono sub3)
    have f4:f=.next:=f4
    subst f4
    refine⟨rest'.length,en▸HV _,rest',_,Fs4,gs',pre++[cS (i,c)],rfl,hl',I4,k2.trans (k24.mono hO),hall.trans (Ho pre [cS (i,c)] (rest'.map cS)).symm,?_,k24.gens _ _ hgs',gi'.moved k24.heap hS'⟩
    obtain⟨o,nm,qn,ho,r⟩:=hg2
    exact⟨o,nm,qn,k24.heap.keep _ _ ho (.inl fun hm=>N1 haL (hS' a hm).2),r⟩
   ·obtain⟨p1,hfl,e1,hb,ho⟩:=h
    refine Hf (hb.run s3 Fs3 I3) (fun f s4 hh=>?_) fun _ _ x=>x.elim
    obtain⟨k4,f4,Fs4,I4,o4⟩:=hh
    obtain⟨v',F,ef,z,_⟩:=f4
    subst ef
    exact hR s4 _ Fs4 (k2.trans ((k3S.trans (k4.mono sub3)).mono hO)) (e1▸⟨v',[],rfl,z.flat hfl▸z,fun b hb=>nomatch hb⟩) I4 ho
theorem jK{n:Nat}(ro:Ro A (n+8)){x y:Str}{px py tpos np pos cpos:Pos}{k0:Nat}{e:Expr}{t:Str}{body:List Stmt}{locs locs':List (Str×PV)}{fl:Fl}{fa:Bool}
  (hx:aJ env x) (hy:aJ env y) (hpx:x∉pins.map (·.1)) (hpy:y∉pins.map (·.1)) (hpo:∀ Fs s,bw aa ay pins env locs Fs s→∀ q∈pins,q.2∈ow env locs Fs)
  (hf:Ev aa ay w A env locs (.Name (H5 "_iter_escaped_chars") np) (.val (.ref 87)) fa) (ha:Ev aa ay w A env locs e (.str t) true) (he:Hg [e] env=(false,eval e env)::Hg [] env)
  (hl:fv aa ay pins w A env body x y (bD 0 false 0 t.cps.toList) locs fl locs') (hs:∀ x,Jt (.Call (.Name (H5 "_iter_escaped_chars") np) [e] [] cpos) env x=pure x):
  Ex aa ay pins w A env (exec (.For (.Tuple [.Name x px,.Name y py] k0 tpos) (.Call (.Name (H5 "_iter_escaped_chars") np) [e] [] cpos) body [] pos) env) locs fl locs':=.mk fun s Fs I=>by
 obtain hm:(87,fx (aO 6) (H5 "_iter_escaped_chars") (.str (H5 "cpy313.email.utils") 349) 86 .none)∈ay:=cQ (i:=9) rfl
 refine M6 (pe (gt:=aa) (K:=ay) (locs:=locs) (rs:=[.str t]) (f:=.ref 87) (fa:=true) I.g I.er hf (.inr ⟨87,_,_,rfl,hm,rfl⟩) (bG.cons (f1:=true) (f2:=true) ha bG.nil he) (fun s2 vs F k2 g2 z2 _=>?_) he rfl) hs
 cases z2 with
 |cons zx zn=>
  cases zn
  cases zx with
  |str _ u=>
   refine Hf (fO (xW (ro.le (by omega)) g2 t u)) (fun v s3 hh=>?_) fun _ _ x=>x.1.elim
   obtain⟨⟨a,ev,hg,hgen,kp,eo,hLa,ha3,Fs3,I3⟩,_,hb⟩:=hh
   subst ev
   refine wpAny_pyIter_gen hg ?_
   have hmem:∀ b∈env.locals::env.cells.map (·.2)++pins.map (·.2),b∈ow env locs Fs:=by
    intro b hb
    rcases H9.mp hb with hb | hb
    ·exact H8 _ hb
    ·obtain⟨q,hq,rfl⟩:=Hm.mp hb
     exact hpo Fs s I q hq
   obtain k3:aG (ow env locs Fs) s s3:=⟨(k2.heap.trans kp).all,fun i y hy=>by
    obtain h2:=k2.gens i y hy
    obtain⟨h3,h4⟩:=IX.mp h2
    rw[hgen,Array.getElem?_push_lt h3,h4],fun b=>hb (k2.bare b),eo.trans k2.os⟩
   obtain hgs:s.gens.size≤s2.gens.size:=by
    rcases KN s2.gens.size s.gens.size with h | h
    ·obtain h1:s.gens[s2.gens.size]? = some s.gens[s2.gens.size]:=Array.getElem?_eq_getElem h
     obtain h2:=(IX.mp (k2.gens _ _ h1)).1
     exact absurd h2 (Ie _)
    ·exact h
   obtain I':=I.movedP (s':=s3) bj (k2.heap.trans kp) (fun b hb=>nomatch hb) (fun b _ h=>nomatch h)
   obtain ro1:Ro A.in1 6:=⟨ro.1,by obtain this:=ro.2.1;simp only[Around.in1_depth];omega,by obtain this:=ro.2.2;simp only[Around.in1_units];omega⟩
   refine yD (L:=s2.heap.objs.size) (a:=a) (g:=s2.gens.size) (all:=jl t) (fl:=fl) (locs':=locs') (pins:=pins) ro.1 (by obtain this:=ro.2.1;omega) hx hy hpx hpy g2.low hLa (fun b hb=>⟨I.hi b (hmem b hb),HB (I.lt b (fW (hmem b hb))) k2.heap.size⟩) (ow env locs Fs) hmem s k2.heap.size hgs (fun s' f Fs' ks hf hI ho=>?_)
    (bD 0 false 0 t.cps.toList) locs Fs (.fresh (.func ct (aV s2.heap.objs.size))) [] s3 hl I' k3 rfl hg (by rw[hgen];exact Array.getElem?_push_size) (by
     obtain this:=vf (w:=w) ro1 I3 hLa ha3
     simpa[jl]using this)
   exact⟨ks,hf,Fs',hI,fun b hb=>.inl (hmem b (nb hI ho b hb))⟩
end
end
section
noncomputable def w4:List (Int×Str)→Int→Option Int
 |[],o=>some o
 | (_,c)::r,o=>if c==H5 "(" then w4 r (o+1)else if c==H5 ")" then(if o - 1<0 then none else w4 r (o - 1))else w4 r o
noncomputable def Ee:Stmt:=((aF (aO 8))[2]?).getD (.Pass default)
noncomputable abbrev mi:List Stmt:=kO Ee
theorem BE{w:World}{A:Around}{i j:Int}: ∀ s a b F H,VR s.heap (.int i) a F→VR s.heap (.int j) b H→Pw w A (MV .Add a b) (.int (i+j)) true s:=by
 intro s a b F H xA xB;cases xA;cases xB;exact iadd_int zw
theorem EU{w:World}{A:Around}{i j:Int}: ∀ s a b F H,VR s.heap (.int i) a F→VR s.heap (.int j) b H→Pw w A (MV .Sub a b) (.int (i - j)) true s:=by
 intro s a b F H xA xB;cases xA;cases xB;exact isub_int zw
section
variable{w:World}{A:Around}{L:Addr}
noncomputable abbrev cr(L:Addr): Env:=ah 101 yb L
noncomputable abbrev BV(w:World)(A:Around)(L:Addr):= fv aa ay [] w A (cr L) mi (H5 "pos") (H5 "ch")
theorem jg:∀(rest:List (Int×Str)) (o:Int) (locs:List (Str×PV)),locs.lookup (H5 "opens")=some (.int o)→cW [] locs→
  ∃ locs',match w4 rest o with
   |some o'=>BV w A L rest locs .next locs'∧locs'.lookup (H5 "opens")=some (.int o')∧cW [] locs'
   |none=>BV w A L rest locs (.ret (.bool false)) locs'
 |[],o,locs,ho,hok=>⟨locs,.nil hok,ho,hok⟩
 | (i,c)::rest,o,locs,ho,hok=>by
  have h1:(ab (H5 "ch") (.str c) (ab (H5 "pos") (.int i) locs)).lookup (H5 "opens")=some (.int o):=by walk_at "lk"
  have h2:(ab (H5 "ch") (.str c) (ab (H5 "pos") (.int i) locs)).lookup (H5 "ch")=some (.str c):=by walk_at "lk"
  have hok1:cW [] (ab (H5 "ch") (.str c) (ab (H5 "pos") (.int i) locs)):=cI rfl rfl (cI rfl rfl hok)
  simp only[w4]
  generalize hl1:ab (H5 "ch") (PV.str c) (ab (H5 "pos") (PV.int i) locs)=locs1 at h1 h2 hok1
  have hk:aJ (cr L) (H5 "opens"):=.inl (by kernel_rfl)
  have aug1:∀{np pos p1:Pos} {k:Nat},Ex aa ay [] w A (cr L) (exec (.AugAssign (.Name (H5 "opens") np) .Add (.Constant (.int 1) k p1) pos) (cr L)) locs1 .next (ab (H5 "opens") (.int (o+1)) locs1):=
   sv bj (by simp) h1 rfl (Ev.int 1 _ _) BE rfl hk (by kernel_rfl)
  have aug2:∀{np pos p1:Pos} {k:Nat},Ex aa ay [] w A (cr L) (exec (.AugAssign (.Name (H5 "opens") np) .Sub (.Constant (.int 1) k p1) pos) (cr L)) locs1 .next (ab (H5 "opens") (.int (o - 1)) locs1):=
   sv bj (by simp) h1 rfl (Ev.int 1 _ _) EU rfl hk (by kernel_rfl)
  cases hc1:c==H5 "(" with
  |true=>
   obtain⟨locs',ih⟩:=jg rest (o+1) (ab (H5 "opens") (.int (o+1)) locs1) dG (cI rfl rfl hok1)
   have hb:Ex aa ay [] w A (cr L) (execs mi (cr L)) locs1 .next (ab (H5 "opens") (.int (o+1)) locs1):=by
    refine af (db (c:=c==H5 "(") (Tr.cmp (f1:=true) (f2:=true) ?_ ?_ (cz.eqS _ _) rfl) (fun _=>af aug1 aq) (fun h=>by rw[hc1]at h;cases h)) aq
    ·walk_at "ev"
    ·walk_at "ev"
   refine⟨locs',?_⟩
   skip
   cases hch:w4 rest (o+1)with
   |none=>rw[hch]at ih;exact .next hok (by rw[hl1];exact hb) ih
   |some o'=>rw[hch]at ih;exact⟨.next hok (by rw[hl1];exact hb) ih.1,ih.2⟩
  |false=>
   have ev1:∀{fl:Fl} {locs2:List (Str×PV)} {body orelse:List Stmt} {n1 p1 p2 p3:Pos} {k:Nat},Ex aa ay [] w A (cr L) (execs orelse (cr L)) locs1 fl locs2→
     Ex aa ay [] w A (cr L) (exec (.If (.Compare (.Name (H5 "ch") n1) [.Eq] [.Constant (.str (H5 "(")) k p1] p2) body orelse p3) (cr L)) locs1 fl locs2:=by
    intro fl locs2 body orelse n1 p1 p2 p3 k h
    refine db (c:=c==H5 "(") (Tr.cmp (f1:=true) (f2:=true) ?_ ?_ (cz.eqS _ _) rfl) (fun h=>by rw[hc1]at h;cases h) (fun _=>h)
    ·walk_at "ev"
    ·walk_at "ev"
   skip
   cases hc2:c==H5 ")" with
   |false=>
    obtain⟨locs',ih⟩:=jg rest o locs1 h1 hok1
    have hb:Ex aa ay [] w A (cr L) (execs mi (cr L)) locs1 .next locs1:=by
     refine af (ev1 (af (db (c:=c==H5 ")") (Tr.cmp (f1:=true) (f2:=true) ?_ ?_ (cz.eqS _ _) rfl) (fun h=>by rw[hc2]at h;cases h) (fun _=>aq)) aq)) aq
     ·walk_at "ev"
     ·walk_at "ev"
    refine⟨locs',?_⟩
    skip
    cases hch:w4 rest o with
    |none=>rw[hch]at ih;exact .next hok (by rw[hl1];exact hb) ih
    |some o'=>rw[hch]at ih;exact⟨.next hok (by rw[hl1];exact hb) ih.1,ih.2⟩
   |true=>
    skip
    have h3:(ab (H5 "opens") (.int (o - 1)) locs1).lookup (H5 "opens")=some (.int (o - 1)):=dG
    by_cases hlt:o - 1<0
    ·rw[if_pos hlt]
     have hb:Ex aa ay [] w A (cr L) (execs mi (cr L)) locs1 (.ret (.bool false)) (ab (H5 "opens") (.int (o - 1)) locs1):=by
      refine aX (ev1 (aX (db (c:=c==H5 ")") (Tr.cmp (f1:=true) (f2:=true) ?_ ?_ (cz.eqS _ _) rfl) (fun _=>af aug2 (aX (db (c:=decide (o - 1<0)) (Tr.cmp (f1:=true) (f2:=true) ?_ ?_ (cz.ltI _ _) rfl) (fun _=>aX (cJ (Ev.bool false _ _) rfl) (by nofun)) (fun h=>absurd hlt (of_decide_eq_false h))) (by nofun))) (fun h=>by rw[hc2]at h;cases h)) (by nofun))) (by nofun)
      ·walk_at "ev"
      ·walk_at "ev"
      ·walk_at "ev"
      ·walk_at "ev"
     exact⟨_,.ret hok rfl (by rw[hl1];exact hb) (cI rfl rfl hok1)⟩
    ·rw[if_neg hlt]
     obtain⟨locs',ih⟩:=jg rest (o - 1) (ab (H5 "opens") (.int (o - 1)) locs1) h3 (cI rfl rfl hok1)
     have hb:Ex aa ay [] w A (cr L) (execs mi (cr L)) locs1 .next (ab (H5 "opens") (.int (o - 1)) locs1):=by
      refine af (ev1 (af (db (c:=c==H5 ")") (Tr.cmp (f1:=true) (f2:=true) ?_ ?_ (cz.eqS _ _) rfl) (fun _=>af aug2 (af (db (c:=decide (o - 1<0)) (Tr.cmp (f1:=true) (f2:=true) ?_ ?_ (cz.ltI _ _) rfl) (fun h=>absurd (of_decide_eq_true h) hlt) (fun _=>aq)) aq)) (fun h=>by rw[hc2]at h;cases h)) aq)) aq
      ·walk_at "ev"
      ·walk_at "ev"
      ·walk_at "ev"
      ·walk_at "ev"
     refine⟨locs',?_⟩
     cases hch:w4 rest (o - 1)with
     |none=>rw[hch]at ih;exact .next hok (by rw[hl1];exact hb) ih
     |some o'=>rw[hch]at ih;exact⟨.next hok (by rw[hl1];exact hb) ih.1,ih.2⟩
end
end
section
noncomputable def dI(u:Str): Bool:=match w4 (bD 0 false 0 u.cps.toList) 0 with
 |none=>false
 |some o=>o==0
section
variable{w:World}{A:Around}
theorem x6(t u:Str)(ro:Ro A 12)(hstrip:∀ A',Ro A' 11→au aa ay w A' (.ref 94) [.str t] (.str u) true): au aa ay w A (.ref 101) [.str t] (.bool (dI u)) true:=
 bE Dt ro rfl (dg rfl) fun L ro'=>by
  obtain hs:=hstrip _ ro'
  have h0:(ab (H5 "opens") (.int 0) (ab (H5 "addr") (.str u) ([H5 "addr"].zip [PV.str t]))).lookup (H5 "opens")=some (.int 0):=dG
  obtain hok:cW [] (ab (H5 "opens") (.int 0) (ab (H5 "addr") (.str u) ([H5 "addr"].zip [PV.str t]))):=cI rfl rfl (cI rfl rfl (fun q hq=>.inl (by rw[H7.mp hq];exact⟨rfl,rfl⟩)))
  obtain⟨locs',hl⟩:=jg (w:=w) (A:=A.deeper (ah 101 yb L)) (L:=L) (bD 0 false 0 u.cps.toList) 0 _ h0 hok
  refine⟨locs',?_⟩
  walk_at "asg"
  walk_at "asg"
  unfold dI
  cases hc:w4 (bD 0 false 0 u.cps.toList) 0 with
  |none=>
   rw[hc]at hl
   refine aX (jK (fa:=true) (t:=u) (n:=3) ro' (.inl (by kernel_rfl)) (.inl (by kernel_rfl)) (by simp) (by simp) (fun _ _ _ q hq=>nomatch hq) ?_ ?_ rfl hl (by intro _;rfl)) (by nofun)
   ·refine Ev.global ?_ oQ ?_ <;> kernel_rfl
   ·walk_at "ev"
  |some o=>
   rw[hc]at hl
   obtain⟨hl,ho,_⟩:=hl
   refine af (jK (fa:=true) (t:=u) (n:=3) ro' (.inl (by kernel_rfl)) (.inl (by kernel_rfl)) (by simp) (by simp) (fun _ _ _ q hq=>nomatch hq) ?_ ?_ rfl hl (by intro _;rfl)) ?_
   ·refine Ev.global ?_ oQ ?_ <;> kernel_rfl
   ·walk_at "ev"
   ·walk_at "ret"
end
end
section
theorem jw{x:Str}{p q:PV}: ∀{l:List (Str×PV)},ab x p (ab x q l)=ab x p l:=by
 intro l
 induction l with
 |nil=>
  simp[ab]
 |cons e9 l ih=>
  obtain⟨y,r⟩:=e9
  by_cases h:y=x
  ·simp[ab,h]
  ·simp[ab,h,ih]
theorem uL{x y:Str}{p q:PV}(hne:x≠y): ∀{l:List (Str×PV)},(l.lookup x).isSome=true→ab x p (ab y q l)=ab y q (ab x p l):=by
 intro l
 induction l with
 |nil=>
  rintro h
  simp at h
 |cons e9 l ih=>
  obtain⟨z,r⟩:=e9
  rintro h
  rw[HA]at h
  by_cases hz:z=y
  ·subst hz
   obtain this:¬ z=x:=fun e=>hne e.symm
   simp[ab,this]
  ·by_cases hx:z=x
   ·subst hx;simp[ab,hz]
   ·obtain hb:(x==z)=false:=by simpa using Il hx
    rw[hb]at h
    simp[ab,hz,hx,ih h]
section
variable{h:Heap}{env:Env}{m:Str→Option Value}{x:Str}{p:PV}
inductive DG(h:Heap)(env:Env)(m:Str→Option Value)(x:Str)(p:PV)(locs:List (Str×PV))(Fs:List (List Addr)): Prop
 |mk(v:Value)(F:List Addr)(Fs':List (List Addr))(a:At h env m x v)(z:VR h p v F)(V:bO h env m (ab x (.val v) locs) Fs')(pm:(F++Fs'.flatten).Perm Fs.flatten)
  (hw:∀ b,b∈cU locs Fs↔(p.isOwn=true∧b∈F)∨b∈cU (ab x (.val v) locs) Fs')
theorem bO.take{locs:List (Str×PV)}{Fs:List (List Addr)}(V:bO h env m locs Fs): locs.lookup x=some p→DG h env m x p locs Fs:=by
 induction V using bO.ind with
 |nil=>nofun
 | @cons y q r F Fs v a z V ih=>
  intro e
  rw[HA]at e
  cases hy:x==y with
  |true=>
   rw[hy]at e;cases e
   obtain rfl:=KW hy
   refine⟨v,F,[]::Fs,a,z,by simp only[ab,if_true];exact⟨⟨v,a,.val v⟩,V⟩,by simp,fun b=>?_⟩
   simp only[ab,if_true,cU,show(PV.val v).isOwn=false from rfl,Hq,if_false,Iy,H9]
   by_cases ho:p.isOwn=true
   ·simp[ho]
   ·simp[ho]
  |false=>
   rw[hy]at e
   obtain⟨u,H,Fs',a',z',V',pm,hw⟩:=ih e
   have hne:¬ y=x:=fun e=>by rw[e]at hy;simp at hy
   refine⟨u,H,F::Fs',a',z',by simp only[ab,hne,if_false];exact⟨⟨v,a,z⟩,V'⟩,?_,fun b=>?_⟩
   ·simp only[HL]
    rw[←Ho]
    refine((MC (l₁:=H) (l₂:=F)).append_right _).trans ?_
    rw[Ho]
    exact pm.append_left F
   ·simp only[ab,hne,if_false,cU,H9]
    obtain this:=hw b
    constructor
    ·rintro(h1 | h1)
     ·exact .inr (.inl h1)
     ·exact(this.mp h1).imp id .inr
    ·rintro(h1 | h1 | h1)
     ·exact .inr (this.mpr (.inl h1))
     ·exact .inl h1
     ·exact .inr (this.mpr (.inr h1))
theorem bO.put{v:Value}{F:List Addr}(z:VR h p v F){locs:List (Str×PV)}{Fs:List (List Addr)}(V:bO h env m locs Fs): locs.lookup x=some (.val v)→∃ Fs',bO h env m (ab x p locs) Fs'∧(F++Fs.flatten).Perm Fs'.flatten∧
  ∀ b,b∈cU (ab x p locs) Fs'↔(p.isOwn=true∧b∈F)∨b∈cU locs Fs:=by
 induction V using bO.ind with
 |nil=>nofun
 | @cons y q r H Fs u a zu V ih=>
  intro e
  rw[HA]at e
  cases hy:x==y with
  |true=>
   rw[hy]at e;cases e
   obtain rfl:=KW hy
   cases zu
   refine⟨F::Fs,by simp only[ab,if_true];exact⟨⟨v,a,z⟩,V⟩,by simp,fun b=>?_⟩
   simp only[ab,if_true,cU,show(PV.val v).isOwn=false from rfl,Hq,if_false,Iy,H9]
   by_cases ho:p.isOwn=true
   ·simp[ho]
   ·simp[ho]
  |false=>
   rw[hy]at e
   obtain⟨Fs',V',pm,hw⟩:=ih e
   obtain hne:¬ y=x:=fun e=>by rw[e]at hy;simp at hy
   refine⟨H::Fs',by simp only[ab,hne,if_false];exact⟨⟨u,a,zu⟩,V'⟩,?_,fun b=>?_⟩
   ·simp only[HL]
    rw[←Ho]
    refine((MC (l₁:=F) (l₂:=H)).append_right _).trans ?_
    rw[Ho]
    exact pm.append_left H
   ·simp only[ab,hne,if_false,cU,H9]
    obtain this:=hw b
    constructor
    ·rintro(h1 | h1)
     ·exact .inr (.inl h1)
     ·exact(this.mp h1).imp id .inr
    ·rintro(h1 | h1 | h1)
     ·exact .inr (this.mpr (.inl h1))
     ·exact .inl h1
     ·exact .inr (this.mpr (.inr h1))
theorem bO.pick:∀{locs2 locs:List (Str×PV)} {Fs:List (List Addr)},bO h env m locs Fs→Fs.flatten.Nodup→(locs2.map (·.1)).Nodup→(∀ q∈locs2,locs.lookup q.1=some q.2)→∃ Fs2,bO h env m locs2 Fs2∧Fs2.flatten.Nodup∧(∀ b∈Fs2.flatten,b∈Fs.flatten)∧∀ b∈cU locs2 Fs2,b∈cU locs Fs:=by
 intro locs2
 induction locs2 with
 |nil=>
  rintro locs Fs V nd _ _
  exact⟨[],trivial,.nil,fun b hb=>by simp at hb,fun b hb=>by simp[cU]at hb⟩
 |cons e9 r ih=>
  obtain⟨x,p⟩:=e9
  rintro locs Fs V nd hk hl
  simp only[HF,Hu]at hk
  obtain⟨v,F,Fs',a,z,V',pm,hw⟩:=V.take (hl (x,p) (.head _))
  obtain nd':=pm.nodup_iff.mpr nd
  rw[Hn]at nd'
  obtain⟨Fs2,V2,n2,s2,o2⟩:=ih V' nd'.2.1 hk.2 (fun q hq=>by
   obtain hne:(q.1==x)=false:=by
    obtain this:q.1≠x:=fun e=>hk.1 (Hm.mpr ⟨q,hq,e⟩)
    simpa using this
   exact Ag hne (hl q (.tail _ hq)))
  refine⟨F::Fs2,⟨⟨v,a,z⟩,V2⟩,?_,?_,?_⟩
  ·rw[HL,Hn]
   exact⟨nd'.1,n2,fun b hb c hc=>nd'.2.2 b hb c (s2 c hc)⟩
  ·intro b hb
   skip
   exact pm.mem_iff.mp ((H9.mp hb).elim (fun h=>H8 _ h) fun h=>Hb _ (s2 b h))
  ·intro b hb
   simp only[cU,H9]at hb
   refine(hw b).mpr ?_
   rcases hb with hb | hb
   ·left;split at hb
    ·rename_i ho;exact⟨ho,hb⟩
    ·cases hb
   ·exact .inr (o2 b hb)
end
section
variable{gt:List (Str×Value)}{K:List (Addr×Obj)}{pins:List (Str×Addr)}{w:World}{A:Around}{env:Env}{locs locs1 locs2:List (Str×PV)}{Fs:List (List Addr)}{s:Shared}
inductive Fw(gt:List (Str×Value))(K:List (Addr×Obj))(pins:List (Str×Addr))(env:Env)(locs:List (Str×PV))(Fs:List (List Addr))(s:Shared)(x:Str)(p:PV): Prop
 |mk(v:Value)(F:List Addr)(Fs':List (List Addr))(z:VR s.heap p v F)(a:∃ m,s.heap.Ns env.locals m∧At s.heap env m x v)(I:bw gt K pins env (ab x (.val v) locs) Fs' s)(l:(ab x (.val v) locs).lookup x=some (.val v))
  (d:∀ b∈F,b∉env.locals::env.cells.map (·.2)++Fs'.flatten) (o1:p.isOwn=true→∀ b∈F,b∈ow env locs Fs) (o2:∀ b∈ow env (ab x (.val v) locs) Fs',b∈ow env locs Fs) (f1:∀ b∈F,b∈Fs.flatten) (f2:∀ b∈Fs'.flatten,b∈Fs.flatten)
theorem bw.take{x:Str}{p:PV}(I:bw gt K pins env locs Fs s)(hl:locs.lookup x=some p): Fw gt K pins env locs Fs s x p:=by
 obtain⟨m,n,V⟩:=I.er.vars
 obtain⟨v,F,Fs',a,z,V',pm,hw⟩:=V.take hl
 obtain nd:=I.nd
 rw[Hn]at nd
 obtain⟨nd1,nd2,nd3⟩:=nd
 have nd':=pm.nodup_iff.mpr nd2
 rw[Hn]at nd'
 have sF:∀ b∈F,b∈Fs.flatten:=fun b hb=>pm.mem_iff.mp (H8 _ hb)
 have sF':∀ b∈Fs'.flatten,b∈Fs.flatten:=fun b hb=>pm.mem_iff.mp (Hb _ hb)
 have ow':∀ b∈ow env (ab x (.val v) locs) Fs',b∈ow env locs Fs:=fun b hb=>by
  simp only[ow,Hp,Ha,H9]at hb ⊢
  exact hb.imp id fun h=>h.imp id fun h=>(hw b).mpr (.inr h)
 refine⟨v,F,Fs',z,⟨m,n,a⟩,⟨I.g,⟨I.er.kind,I.er.glob,I.er.blt,m,n,V'⟩,?_,fun b hb=>I.hi b (ow' b hb),I.cl,(jx I.keys).1,I.pin⟩,dG,fun b hb hm=>?_,fun ho b hb=>?_,ow',sF,sF'⟩
 ·rw[Hn]
  exact⟨nd1,nd'.2.1,fun b hb c hc=>nd3 b hb c (sF' c hc)⟩
 ·rcases H9.mp hm with hm | hm
  ·exact nd3 b hm b (sF b hb) rfl
  ·exact nd'.2.2 b hb b hm rfl
 ·simp only[ow,Hp,Ha,H9]
  exact .inr (.inr ((hw b).mpr (.inl ⟨ho,hb⟩)))
theorem bw.put{x:Str}{p:PV}{v:Value}{F:List Addr}(I:bw gt K pins env locs Fs s)(hl:locs.lookup x=some (.val v))(z:VR s.heap p v F)(hd:∀ b∈F,b∉env.locals::env.cells.map (·.2)++Fs.flatten)(hi:p.isOwn=true→∀ b∈F,348≤b):
  ∃ Fs',bw gt K pins env (ab x p locs) Fs' s∧(∀ b∈ow env (ab x p locs) Fs',b∈ow env locs Fs∨(p.isOwn=true∧b∈F))∧(∀ b∈Fs'.flatten,b∈F∨b∈Fs.flatten):=by
 obtain⟨m,n,V⟩:=I.er.vars
 obtain⟨Fs',V',pm,hw⟩:=V.put z hl
 obtain nd:=I.nd
 rw[Hn]at nd
 obtain⟨nd1,nd2,nd3⟩:=nd
 have sF:∀ b∈Fs'.flatten,b∈F∨b∈Fs.flatten:=fun b hb=>H9.mp (pm.mem_iff.mpr hb)
 have ow':∀ b∈ow env (ab x p locs) Fs',b∈ow env locs Fs∨(p.isOwn=true∧b∈F):=fun b hb=>by
  simp only[ow,Hp,Ha,H9]at hb ⊢
  rcases hb with hb | hb | hb
  ·exact .inl (.inl hb)
  ·exact .inl (.inr (.inl hb))
  ·exact((hw b).mp hb).elim .inr fun h=>.inl (.inr (.inr h))
 refine⟨Fs',⟨I.g,⟨I.er.kind,I.er.glob,I.er.blt,m,n,V'⟩,?_,fun b hb=>(ow' b hb).elim (I.hi b) fun h=>hi h.1 b h.2,I.cl,(jx I.keys).1,I.pin⟩,ow',sF⟩
 rw[Hn]
 refine⟨nd1,pm.nodup_iff.mp ?_,fun b hb c hc e=>?_⟩
 ·rw[Hn]
  exact⟨z.nodup,nd2,fun b hb c hc e=>hd b hb (Hb _ (e▸hc))⟩
 ·subst e
  rcases sF b hc with hc | hc
  ·exact hd b hc (H8 _ hb)
  ·exact nd3 b hb b hc rfl
theorem bw.pick(I:bw gt K pins env locs Fs s)(hk:(locs2.map (·.1)).Nodup)(hl:∀ q∈locs2,locs.lookup q.1=some q.2): ∃ Fs2,bw gt K pins env locs2 Fs2 s∧(∀ b∈ow env locs2 Fs2,b∈ow env locs Fs)∧∀ b∈Fs2.flatten,b∈Fs.flatten:=by
 obtain⟨m,n,V⟩:=I.er.vars
 obtain nd:=I.nd
 rw[Hn]at nd
 obtain⟨nd1,nd2,nd3⟩:=nd
 obtain⟨Fs2,V2,n2,s2,o2⟩:=V.pick nd2 hk hl
 have ow':∀ b∈ow env locs2 Fs2,b∈ow env locs Fs:=fun b hb=>by
  simp only[ow,Hp,Ha,H9]at hb ⊢
  exact hb.imp id fun h=>h.imp id (o2 b)
 refine⟨Fs2,⟨I.g,⟨I.er.kind,I.er.glob,I.er.blt,m,n,V2⟩,?_,fun b hb=>I.hi b (ow' b hb),I.cl,hk,I.pin⟩,ow',s2⟩
 rw[Hn]
 exact⟨nd1,n2,fun b hb c hc=>nd3 b hb c (s2 c hc)⟩
theorem AJ{t:Sem Flow}{fl:Fl}(h:Ex gt K pins w A env t locs fl locs1)(hk:(locs2.map (·.1)).Nodup)(hl:∀ q∈locs2,locs1.lookup q.1=some q.2): Ex gt K pins w A env t locs fl locs2:=.mk fun s Fs I=>
 Pw.andThen (h.run s Fs I) fun f s1 hh=>by
  obtain⟨k1,f1,Fs1,I1,o1⟩:=hh
  obtain⟨Fs2,I2,o2,_⟩:=I1.pick hk hl
  exact⟨k1,f1,Fs2,I2,fun b hb=>o1 b (o2 b hb)⟩
theorem CY{t:Sem Flow}{fl:Fl}(h:Ex gt K pins w A env t locs2 fl locs1)(hk:(locs2.map (·.1)).Nodup)(hl:∀ q∈locs2,locs.lookup q.1=some q.2): Ex gt K pins w A env t locs fl locs1:=.mk fun s Fs I=>by
 obtain⟨Fs2,I2,o2,_⟩:=I.pick hk hl
 refine Pw.andThen (h.run s Fs2 I2) fun f s1 ⟨k1,f1,Fs1,I1,o1⟩=>⟨k1.mono o2,f1.comp (Hw _) fun b hb=>.inl (o2 b hb),Fs1,I1,fun b hb=>(o1 b hb).imp (o2 b) id⟩
theorem aD{x:Str}{pos:Pos}{v:Value}{Q:Value→Shared→Prop}(er:dO s.heap env locs Fs)(a:∃ m,s.heap.Ns env.locals m∧At s.heap env m x v)(hd:(x==("__debug__":Str))=false)(hcd:(x==("__classdict__":Str))=false)(q:Q v s):
  wpAny (model pw w) A (eval (.Name x pos) env) Q (fun _ _=>False) s:=by
 obtain⟨m,n,a⟩:=a
 rcases a with⟨k,e⟩ | ⟨k | k,c,ec,ic⟩
 ·exact Lu (L9 er.kind k n e q) hd
 ·exact Lu (Le er.kind k ec ic q) hd
 ·exact Lu (Lf er.kind k ec ic q hcd) hd
inductive Fv(gt:List (Str×Value))(K:List (Addr×Obj))(pins:List (Str×Addr))(env:Env)(locs:List (Str×PV))(Fs:List (List Addr))(s:Shared)(x:Str)(p:PV): Prop
 |mk(v:Value)(F:List Addr)(z:VR s.heap p v F)(a:∃ m,s.heap.Ns env.locals m∧At s.heap env m x v)(f:∀ b∈F,b∈ow env locs Fs∧348≤b)(e:∀ b∈env.locals::env.cells.map (·.2),b∉F)
  (fin:∀(s':Shared) (p':PV) (F':List Addr),aG F s s'→VR s'.heap p' v F'→(∀ b∈F',b∈F∨s.heap.objs.size≤b)→∃ Fs',bw gt K pins env (ab x p' locs) Fs' s'∧(∀ b∈ow env (ab x p' locs) Fs',b∈ow env locs Fs∨s.heap.objs.size≤b)∧∀ b∈Fs'.flatten,b∈F'∨b∈Fs.flatten)
theorem bw.turn{x:Str}{p:PV}(hK:∀ q∈K,q.1<348)(I:bw gt K pins env locs Fs s)(hl:locs.lookup x=some p)(hp:p.isOwn=true): Fv gt K pins env locs Fs s x p:=by
 obtain⟨v,F,Fs1,z,a,I1,l1,d1,o1,o2,f1,f2⟩:=I.take hl
 obtain o1:=o1 hp
 refine⟨v,F,z,a,fun b hb=>⟨o1 b hb,I.hi b (o1 b hb)⟩,fun b hb hm=>d1 b hm (H8 _ hb),fun s' p' F' k z' hF=>?_⟩
 obtain I2:=I1.movedP (s':=s') hK k.heap (fun b hb=>I.hi b (o1 b hb)) (fun b hb hm=>d1 b hm hb)
 obtain⟨Fs2,I3,o3,f3⟩:=I2.put l1 z' (fun b hb hm=>(hF b hb).elim (fun h=>d1 b h hm) fun h=>absurd (I1.lt b hm) (Hz.mpr h)) (fun _ b hb=>(hF b hb).elim (fun h=>I.hi b (o1 b h)) fun h=>H6 I.g.low h)
 rw[jw]at I3 o3
 exact⟨Fs2,I3,fun b hb=>(o3 b hb).elim (fun h=>.inl (o2 b h)) fun h=>(hF b h.2).imp (o1 b) id,fun b hb=>(f3 b hb).imp id (f2 b)⟩
inductive Fz(gt:List (Str×Value))(K:List (Addr×Obj))(pins:List (Str×Addr))(env:Env)(locs:List (Str×PV))(Fs:List (List Addr))(s:Shared)(r:PV)(locs':List (Str×PV))(v:Value)(s':Shared): Prop
 |mk(k:aG (ow env locs Fs) s s')(F:List Addr)(Fs':List (List Addr))(z:VR s'.heap r v F)(f:∀ b∈F,b∈ow env locs Fs∨s.heap.objs.size≤b)(I:bw gt K pins env locs' Fs' s')(d:∀ b∈F,b∉env.locals::env.cells.map (·.2)++Fs'.flatten)(o:∀ b∈ow env locs' Fs',b∈ow env locs Fs∨s.heap.objs.size≤b)
structure jp(gt:List (Str×Value))(K:List (Addr×Obj))(pins:List (Str×Addr))(w:World)(A:Around)(env:Env)(t:Sem Value)(locs:List (Str×PV))(r:PV)(locs':List (Str×PV)): Prop where
 run:∀ s Fs,bw gt K pins env locs Fs s→wpAny (model pw w) A t (Fz gt K pins env locs Fs s r locs') (fun _ _=>False) s
theorem ft{e:Expr}{r:PV}(h:Ev gt K w A env locs e r true): jp gt K pins w A env (eval e env) locs r locs:=.mk fun s Fs I=>
 Pw.andThen (h.run s Fs I.g I.er) fun v s1 ⟨k1,F,z,fr⟩=>⟨k1.all,F,Fs,z,fun b hb=>.inr (fr rfl b hb),I.step0 k1,fun b hb hm=>absurd (I.lt b hm) (Hz.mpr (fr rfl b hb)),fun b hb=>.inl hb⟩
theorem bB{x:Str}{np pos:Pos}{e:Expr}{p q:PV}(hK:∀ q∈K,q.1<348)(hpin:x∉pins.map (·.1))(h:jp gt K pins w A env (eval e env) locs p locs1)(hb:Bind p q)(hk:aJ env x)
  (hs:JD e (some (.Name x np)) pos.line env=pure false):Ex gt K pins w A env (exec (.Assign [.Name x np] e pos) env) locs .next (ab x q locs1):=.mk fun s Fs I=>
 K3 (Pw.andThen (h.run s Fs I) fun v s1 hh=>by
  obtain⟨k1,F,Fs1,z,fr,I1,d1,o1⟩:=hh
  refine Pw.andThen (fM (P:=fun b=>b∈ow env locs Fs∨s.heap.objs.size≤b) hK hpin I1 hk (hb.vr z) z.nodup d1 fr fun b h=>h.elim (I.hi b) (H6 I.g.low)) fun _ s2 hh=>?_
  obtain⟨Fs2,I2,k2,hs2,_⟩:=hh
  refine⟨k1.trans (k2.mono fun b hb=>H8 _ hb),rfl,⟨Fs2,I2,fun b hb=>(hs2 b hb).elim (o1 b) id⟩⟩) hs
theorem bU{e:Expr}{pos:Pos}{p:PV}(h:jp gt K pins w A env (eval e env) locs p locs1)(hi:interactive env=false)(hs:JD e none pos.line env=pure false): Ex gt K pins w A env (exec (.Expr e pos) env) locs .next locs1:=.mk fun s Fs I=>
 wpAny_Expr_any (Pw.andThen (h.run s Fs I) fun v s1 ⟨k1,F,Fs1,z,fr,I1,d1,o1⟩=>⟨k1,rfl,Fs1,I1,o1⟩) hi hs
theorem sf{e:Expr}{pos:Pos}{p:PV}(h:jp gt K pins w A env (eval e env) locs p locs1): Ex gt K pins w A env (exec (.Return (some e) pos) env) locs (.ret p) locs1:=.mk fun s Fs I=>
 Jf (Pw.andThen (h.run s Fs I) fun v s1 ⟨k1,F,Fs1,z,fr,I1,d1,o1⟩=>⟨k1,⟨v,F,rfl,z,fr⟩,Fs1,I1,o1⟩)
theorem vj{x:Str}{rest:List Stmt}{np pos:Pos}{e:Expr}{l:List PV}{fl:Fl}(hK:∀ q∈K,q.1<348)(hpin:x∉pins.map (·.1))(h:Ev gt K w A env locs e (.lst l) true)(hk:env.kindOf x=some .local)
  (hs:JD e (some (.Name x np)) pos.line env=pure false) (hr:∀ a,Ex gt K ((x,a)::pins) w A env (execs rest env) (ab x (.own l) locs) fl locs1):Ex gt K pins w A env (execs (.Assign [.Name x np] e pos::rest) env) locs fl locs1:=.mk fun s Fs I=>
 HE (Pw.andThen ((az hK hpin h .own (.inl hk) hs).run s Fs I) fun f s1 hh=>by
  obtain⟨k1,ef,Fs1,I1,o1⟩:=hh
  have ef:f=.next:=ef
  subst ef
  obtain⟨m,n,V⟩:=id I1.er.vars
  obtain⟨v,F,_,a,z⟩:=V.find (dG (x:=x) (p:=.own l))
  cases z with
  | @own _ a0 vs n0 F0 e1 y nd=>
   obtain hm:m x=some (.ref a0):=by
    rcases a with⟨_,a⟩ | ⟨a,_⟩
    ·exact a
    ·rw[hk]at a;rcases a with a | a <;> cases a
   obtain I1':bw gt K ((x,a0)::pins) env (ab x (.own l) locs) Fs1 s1:=⟨I1.g,I1.er,I1.nd,I1.hi,I1.cl,I1.keys,fun q hq=>by
    rcases Ha.mp hq with rfl | hq
    ·exact⟨m,n,hm,hk⟩
    ·exact I1.pin q hq⟩
   refine Pw.andThen ((hr a0).run s1 Fs1 I1') fun f2 s2 ⟨k2,e2,Fs2,I2,o2⟩=>⟨k1.comp k2 o1,e2.comp k1.heap.size o1,Fs2,⟨I2.g,I2.er,I2.nd,I2.hi,I2.cl,I2.keys,fun q hq=>I2.pin q (.tail _ hq)⟩,fun b hb=>(o2 b hb).elim (o1 b) fun z=>.inr (H6 k1.heap.size z)⟩)
end
end
section
section
variable{gt:List (Str×Value)}{K:List (Addr×Obj)}{pins:List (Str×Addr)}{w:World}{A:Around}{env:Env}{locs:List (Str×PV)}
theorem g8{x:Str}{l:List PV}{q:PV}{e:Expr}{np apos pos:Pos}(hK:∀ q∈K,q.1<348)(hl:locs.lookup x=some (.own l))(hz:l.length≤1000)(he:Ev gt K w A env locs e q true)
  (hd:(x==("__debug__":Str))=false) (hcd:(x==("__classdict__":Str))=false)
  (hbase:IT (.Name x np) (H5 "append") env (eval (.Name x np) env)=eval (.Name x np) env)
  (hfew:((backTo pos (Hg [e] env)).all (fun x=>!x.1)&&(KI pos (Jr [] env)).all (fun x=>x.1.isSome)
   &&decide (([e]:List Expr).length+([]:List Keyword).length+(if([]:List Keyword).isEmpty then 0 else 1)<30))=true)
  (hline:(apos.endLine==pos.line)=true) (htrees:backTo pos (Hg [e] env)=[(false,eval e env)]):
  jp gt K pins w A env (eval (.Call (.Attribute (.Name x np) (H5 "append") apos) [e] [] pos) env) locs .none (ab x (.own (l++[q])) locs):=.mk fun s Fs I=>by
 obtain⟨v,F,z,a,hF,hE,fin⟩:=I.turn hK hl rfl
 cases z with
 | @own _ a0 vs n F0 e1 y nd=>
  obtain hsz:vs.toArray.size≤Ip:=by obtain this:=aU;obtain this:=y.length;simp only[Hx];omega
  refine LO hbase hfew hline htrees (aD I.er a hd hcd ⟨a0,vs.toArray,rfl,⟨_,_,e1,rfl,rfl,rfl⟩,?_⟩)
  refine Pw.andThen (he.run s Fs I.g I.er) fun u s1 hh=>?_
  obtain⟨k1,Fq,zq,fr⟩:=hh
  have e1':=k1.heap.get e1
  refine JE ⟨n,e1'⟩ (fun h' ⟨n',hp⟩ hsb=>?_) hsz
  have kp:aj [a0] s1.heap h':=aj.same e1' rfl hsb
  have k2:aG [a0] s1 { s1 with heap:=h' }:=⟨kp,fun _ _ e=>e,id,rfl⟩
  have kk:aG (a0::F0) s { s1 with heap:=h' }:=k1.all.trans (k2.mono fun b hb=>by rw[H7.mp hb];exact .head _)
  have nd':a0∉F0∧F0.Nodup:=Hu.mp nd
  obtain lt:=y.lt
  obtain lta:a0<s.heap.objs.size:=Hr e1
  have hq0:∀ b∈Fq,b≠a0∧b∉F0:=fun b hb=>⟨fun e=>absurd (fr rfl b hb) (MY.mpr (e▸lta)),fun hm=>absurd (fr rfl b hb) (MY.mpr (lt b hm))⟩
  obtain y2:bf h' l vs F0:=(y.kept0 k1.heap).kept kp fun b hb hm=>nd'.1 (H7.mp hm▸hb)
  obtain zq2:VR h' q u Fq:=zq.kept kp fun b hb hm=>(hq0 b hb).1 (H7.mp hm)
  have hv:VR h' (.own (l++[q])) (.ref a0) (a0::(F0++(Fq++[]))):=by
   refine .own (n:=n') (vs:=vs++[u]) ?_ (y2.app (.cons zq2 .nil)) ?_
   ·rw[hp];simp[bn]
   ·rw[Hj,Hu,Hn,H9,not_or]
    exact⟨⟨nd'.1,fun hm=>(hq0 _ hm).1 rfl⟩,nd'.2,zq.nodup,fun b hb c hc e=>(hq0 c hc).2 (e▸hb)⟩
  obtain⟨Fs',I',o',f'⟩:=fin { s1 with heap:=h' } _ _ kk hv (fun b hb=>by
   simp only[Hj,Ha,H9]at hb
   rcases hb with rfl | hb | hb
   ·exact .inl (.head _)
   ·exact .inl (.tail _ hb)
   ·exact .inr (fr rfl b hb))
  exact⟨kk.mono fun b hb=>(hF b hb).1,[],Fs',.none,fun b hb=>(nomatch hb),I',fun b hb=>(nomatch hb),o'⟩
theorem cE{t:Expr}{body orelse:List Stmt}{pos:Pos}{c:Bool}{fl:Fl}{locs':List (Str×PV)}(ht:Tr gt K w A env locs t c)(hc:c=true)(hb:Ex gt K pins w A env (execs body env) locs fl locs'): Ex gt K pins w A env (exec (.If t body orelse pos) env) locs fl locs':=
 db ht (fun _=>hb) (fun h=>by rw[hc]at h;cases h)
theorem c7{t:Expr}{body orelse:List Stmt}{pos:Pos}{c:Bool}{fl:Fl}{locs':List (Str×PV)}(ht:Tr gt K w A env locs t c)(hc:c=false)(hb:Ex gt K pins w A env (execs orelse env) locs fl locs'): Ex gt K pins w A env (exec (.If t body orelse pos) env) locs fl locs':=
 db ht (fun h=>by rw[hc]at h;cases h) (fun _=>hb)
theorem Ev.ifT{t b o:Expr}{pos:Pos}{c f:Bool}{r:PV}(ht:Tr gt K w A env locs t c)(hc:c=true)(hb:Ev gt K w A env locs b r f): Ev gt K w A env locs (.IfExp t b o pos) r f:=Ev.ifexp ht (fun _=>hb) (fun h=>by rw[hc]at h;cases h)
theorem Ev.ifF{t b o:Expr}{pos:Pos}{c f:Bool}{r:PV}(ht:Tr gt K w A env locs t c)(hc:c=false)(hb:Ev gt K w A env locs o r f): Ev gt K w A env locs (.IfExp t b o pos) r f:=Ev.ifexp ht (fun h=>by rw[hc]at h;cases h) (fun _=>hb)
theorem cz.isN:cz w A .Is .none .none true:=by constructor;intro s a b F H xA xB;cases xA;cases xB;exact is_none_gen ⟨rfl,.refl _ _⟩
theorem cz.isNI(i:Int): cz w A .Is (.int i) .none false:=by constructor;intro s a b F H xA xB;cases xA;cases xB;exact is_none_gen ⟨rfl,.refl _ _⟩
theorem cz.isNS(i:Str): cz w A .Is (.str i) .none false:=by constructor;intro s a b F H xA xB;cases xA;cases xB;exact is_none_gen ⟨rfl,.refl _ _⟩
end
noncomputable def gQ(l:List (Str×PV)): List (Str×PV)→Prop
 |[]=>True
 | (x,p)::r=>l.lookup x=some p∧gQ l r
theorem dZ{l:List (Str×PV)}: gQ l []:=trivial
theorem ak{l r:List (Str×PV)}{x:Str}{p:PV}(h:l.lookup x=some p)(k:gQ l r): gQ l ((x,p)::r):=⟨h,k⟩
theorem gQ.get{l:List (Str×PV)}: ∀{r:List (Str×PV)},gQ l r→∀ q∈r,l.lookup q.1=some q.2
 | (x,p)::r,⟨h,k⟩,q,hq=>by
  rcases Ha.mp hq with rfl | hq
  ·exact h
  ·exact k.get q hq
section
variable{gt:List (Str×Value)}{K:List (Addr×Obj)}{pins:List (Str×Addr)}{w:World}{A:Around}{env:Env}{locs locs1 locs2:List (Str×PV)}
theorem am{t:Sem Flow}{fl:Fl}(h:Ex gt K pins w A env t locs fl locs1)(hk:decide ((locs2.map (·.1)).Nodup)=true)(hl:gQ locs1 locs2): Ex gt K pins w A env t locs fl locs2:=AJ h (of_decide_eq_true hk) hl.get
theorem oT{t:Sem Flow}{fl:Fl}(h:Ex gt K pins w A env t locs2 fl locs1)(hk:decide ((locs2.map (·.1)).Nodup)=true)(hl:gQ locs locs2): Ex gt K pins w A env t locs fl locs1:=CY h (of_decide_eq_true hk) hl.get
end
theorem fV{pins:List (Str×Addr)}{x:Str}{p:PV}{l:List (Str×PV)}(hp:(p.flat=true∧p.isOwn=false)∨∃ b l,(x,b)∈pins∧p=.own l∧PV.flat.go l=true)(h:cW pins l): cW pins ((x,p)::l):=fun q hq=>by
 rcases Ha.mp hq with rfl | hq
 ·exact hp
 ·exact h q hq
theorem uX{pins:List (Str×Addr)}: cW pins []:=fun q hq=>nomatch hq
end
section
noncomputable abbrev FZ:Option Int→PV
 |none=>.none
 |some i=>.int i
noncomputable def aN(addr:Str): List (Int×Str)→Int→Option Int→List Str→Int×Option Int×List Str
 |[],st,op,r=>(st,op,r)
 | (i,c)::rest,st,op,r=>if c==H5 "\"" then(match op with
   |none=>aN addr rest st (some i) r
   |some o=>aN addr rest (i+1) none (if st != o then r++[aM addr (some st) (some o)]else r))else aN addr rest st op r
noncomputable def aC(addr:Str): Str:=if inS (H5 "\"") addr then(match aN addr (bD 0 false 0 addr.cps.toList) 0 none []with
  | (st,_,r)=>Kl (H5 "") (if st<(addr.length:Int)then r++[aM addr (some st) none]else r))else addr
noncomputable abbrev Dw:List Stmt:=aF (aO 7)
noncomputable abbrev Fo:List Stmt:=kO ((Dw[4]?).getD (.Pass default))
noncomputable abbrev Fk(L:Addr): Env:=ah 94 CT L
noncomputable abbrev DK(addr:Str)(st:Int)(op:Option Int)(r:List Str): List (Str×PV):=[(H5 "addr",.str addr),(H5 "start",.int st),(H5 "open_pos",FZ op),(H5 "result",.own (r.map .str))]
theorem nE:∀ r:List Str,PV.flat.go (r.map .str)=true
 |[]=>rfl
 |_::r=>nE r
section
variable{w:World}{A:Around}{L a:Addr}
theorem qf{addr:Str}{st:Int}{op:Option Int}{r:List Str}: cW [(H5 "result",a)] (DK addr st op r):=
 fV (.inl ⟨rfl,rfl⟩) (fV (.inl ⟨rfl,rfl⟩) (fV (.inl (by cases op <;> exact⟨rfl,rfl⟩)) (fV (.inr ⟨a,_,.head _,rfl,nE r⟩) uX)))
noncomputable abbrev DQ(w:World)(A:Around)(L a:Addr):= fv aa ay [(H5 "result",a)] w A (Fk L) Fo (H5 "pos") (H5 "ch")
theorem eH(addr:Str)(hz:addr.length≤1000): ∀(rest:List (Int×Str)) (st:Int) (op:Option Int) (r:List Str),r.length+rest.length≤1000→
  DQ w A L a rest (DK addr st op r) .next (DK addr (aN addr rest st op r).1 (aN addr rest st op r).2.1 (aN addr rest st op r).2.2)
 |[],st,op,r,_=>.nil qf
 | (i,c)::rest,st,op,r,hr=>by
  simp only[Hh]at hr
  cases hc:c==H5 "\"" with
  |false=>
   have e:aN addr ((i,c)::rest) st op r=aN addr rest st op r:=by simp only[aN,hc,Hq,if_false]
   rw[e]
   refine .next qf ?_ (eH addr hz rest st op r (by omega))
   walk_at "norm"
   case hrun=>
    walk_at "ifF"
    case hbody=>exact aq
    case hrest=>exact aq
   walk_at "looks"
  |true=>
   cases op with
   |none=>
    have e:aN addr ((i,c)::rest) st none r=aN addr rest st (some i) r:=by simp only[aN,hc,if_true]
    rw[e]
    refine .next qf ?_ (eH addr hz rest st (some i) r (by omega))
    walk_at "norm"
    case hrun=>
     walk_at "ifT"
     case hbody=>
      walk_at "ifT"
      case hbody=>
       walk_at "asg"
       case hrest=>exact aq
      case hrest=>exact aq
     case hrest=>exact aq
    walk_at "looks"
   |some o=>
    cases hne:st != o with
    |false=>
     have e:aN addr ((i,c)::rest) st (some o) r=aN addr rest (i+1) none r:=by simp only[aN,hc,hne,if_true,Hq,if_false]
     rw[e]
     refine .next qf ?_ (eH addr hz rest (i+1) none r (by omega))
     walk_at "norm"
     case hrun=>
      walk_at "ifT"
      case hbody=>
       walk_at "ifF"
       case hbody=>
        walk_at "ifF"
        case hbody=>exact aq
        case hrest=>
         walk_at "asg"
         case hrest=>
          walk_at "asg"
          case hrest=>exact aq
       case hrest=>exact aq
      case hrest=>exact aq
     walk_at "looks"
    |true=>
     have e:aN addr ((i,c)::rest) st (some o) r=aN addr rest (i+1) none (r++[aM addr (some st) (some o)]):=by simp only[aN,hc,hne,if_true]
     have er:PV.own ((r++[aM addr (some st) (some o)]).map PV.str)=.own (r.map .str++[.str (aM addr (some st) (some o))]):=by simp
     rw[e]
     refine .next qf ?_ (eH addr hz rest (i+1) none (r++[aM addr (some st) (some o)]) (by simp only[He,KV];omega))
     walk_at "norm"
     case hrun=>
      walk_at "ifT"
      case hbody=>
       walk_at "ifF"
       case hbody=>
        walk_at "ifT"
        case hbody=>
         refine' af (bU (g8 (l:=r.map .str) (q:=.str (aM addr (some st) (some o))) bj ?h0 ?h1 ?h2 ?h3 ?h4 ?h5 ?h6 ?h7 ?h8) ?h9 ?h10) ?hrest
         case h0=>walk_at "lk"
         case h1=>simp only[Hl];omega
         case h2=>walk_at "ev"
         case h3=>kernel_rfl
         case h4=>kernel_rfl
         case h5=>rfl
         case h6=>rfl
         case h7=>rfl
         case h8=>rfl
         case h9=>rfl
         case h10=>rfl
         case hrest=>exact aq
        case hrest=>
         walk_at "asg"
         case hrest=>
          walk_at "asg"
          case hrest=>exact aq
       case hrest=>exact aq
      case hrest=>exact aq
     refine ak ?_ (ak ?_ (ak ?_ (ak ?_ dZ)))
     ·walk_at "lk"
     ·walk_at "lk"
     ·walk_at "lk"
     ·rw[er];walk_at "lk"
end
end
section
theorem jb:∀(cs:List Nat) (i:Nat) (e:Bool) (l:Int),(bD i e l cs).length≤cs.length+1
 |[],i,e,l=>by cases e <;> simp[bD]
 |c::cs,i,true,l=>by simp only[bD,Hh];have:=jb cs (i+1) false i;omega
 |c::cs,i,false,l=>by
  simp only[bD]
  split
  ·have:=jb cs (i+1) true i;simp only[Hh];omega
  ·have:=jb cs (i+1) false i;simp only[Hh];omega
set_option tactic.hygienic true in
theorem fR(addr:Str): ∀(rest:List (Int×Str)) (st:Int) (op:Option Int) (r:List Str),(∀ y∈r,y.length≤addr.length)→(∀ y∈(aN addr rest st op r).2.2,y.length≤addr.length)∧(aN addr rest st op r).2.2.length≤r.length+rest.length
 |[],st,op,r,h=>⟨h,by simp[aN]⟩
 | (i,c)::rest,st,op,r,h=>by
  simp only[aN,Hh]
  split
  ·split
   ·have:=fR addr rest st (some i) r h;exact⟨this.1,by omega⟩
   ·rename_i o
    have h2:∀ y∈(if(st != o)=true then r++[aM addr (some st) (some o)]else r),y.length≤addr.length:=by
     intro y hy
     split at hy
     ·rcases H9.mp hy with hy | hy
      ·exact h y hy
      ·rw[H7.mp hy];exact bM _ _ _
     ·exact h y hy
    have:=fR addr rest (i+1) none _ h2
    refine⟨this.1,H6 this.2 ?_⟩
    split
    ·simp only[He,KV];omega
    ·omega
  ·have:=fR addr rest st op r h;exact⟨this.1,by omega⟩
theorem wn{n:Nat}: ∀{l:List Nat},(∀ y∈l,y≤n)→l.sum≤l.length*n:=by
 intro l
 induction l with
 |nil=>
  rintro _
  simp
 |cons x l ih=>
  rintro h
  obtain this:=ih (fun y hy=>h y (.tail _ hy))
  obtain this:=h x (.head _)
  simp only[List.sum_cons,Hh,Nat.add_mul];omega
theorem j5{sep:Str}{ys:List Str}{n:Nat}(h:∀ y∈ys,y.length≤n)(hn:n≤1000)(hl:ys.length≤1000)(hs:sep.length≤16): JoinOk sep ys=true:=by
 refine joinOk_of_weight ?_ hs
 obtain h1:(ys.map (·.length)).sum≤(ys.map (·.length)).length*n:=wn (by simpa using h)
 obtain h2:(ys.map (·.length)).length*n≤1000*1000:=by rw[Hl];exact JF hl hn
 omega
section
variable{gt:List (Str×Value)}{K:List (Addr×Obj)}{pins:List (Str×Addr)}{w:World}{A:Around}{env:Env}{locs:List (Str×PV)}
theorem ud{e:Expr}{x:Str}{k:Nat}{cpos apos pos:Pos}{ys:List Str}{f:Bool}(h:Ev gt K w A env locs e (.lst (ys.map .str)) f)(hok:JoinOk x ys=true)
  (hbase:IT (.Constant (.str x) k cpos) (H5 "join") env (eval (.Constant (.str x) k cpos) env)=eval (.Constant (.str x) k cpos) env)
  (hfew:((backTo pos (Hg [e] env)).all (fun x=>!x.1)&&(KI pos (Jr [] env)).all (fun x=>x.1.isSome)
   &&decide (([e]:List Expr).length+([]:List Keyword).length+(if([]:List Keyword).isEmpty then 0 else 1)<30))=true)
  (hline:(apos.endLine==pos.line)=true) (he:Hg [e] env=(false,eval e env)::Hg [] env):
  Ev gt K w A env locs (.Call (.Attribute (.Constant (.str x) k cpos) (H5 "join") apos) [e] [] pos) (.str (Kl x ys)) true:=
 uc (Ev.str x k cpos) (bG.cons h bG.nil he) ix (Cs hok) KM PySem.F.slot_str_join PySem.F.type_str_join hbase hfew hline he rfl
theorem uU{Fs:List (List Addr)}{s:Shared}(I:bw gt K pins env locs Fs s)(h:∀ q∈pins,∃ l,locs.lookup q.1=some (.own l)): ∀ q∈pins,q.2∈ow env locs Fs:=by
 intro q hq
 obtain⟨l,hl⟩:=h q hq
 obtain⟨v,F,Fs',z,⟨m,n,a⟩,I',l1,d1,o1,o2,_⟩:=I.take hl
 obtain⟨m',n',e,kd⟩:=I.pin q hq
 obtain this:=mo n n'
 subst this
 obtain hv:v=.ref q.2:=by
  rcases a with⟨_,a⟩ | ⟨a,_⟩
  ·rw[e]at a;cases a;rfl
  ·rw[kd]at a;rcases a with a | a <;> cases a
 subst hv
 cases z with
 |own e1 y nd=>exact o1 rfl _ (.head _)
end
theorem Cc(w:World)(A:Around)(t:Str)(ht:t.length≤500)(ro:Ro A 11): au aa ay w A (.ref 94) [.str t] (.str (aC t)) true:=
 bE BN ro rfl (dg rfl) fun L ro'=>by
  show∃ locs',Ex _ _ _ _ _ _ _ ([H5 "addr"].zip [PV.str t]) _ locs'
  obtain hr:=fR t (bD 0 false 0 t.cps.toList) 0 none [] (fun y hy=>nomatch hy)
  have hl:=jb t.cps.toList 0 false 0
  have hl2:t.cps.toList.length=t.length:=by simp[J7]
  obtain loop:=fun a=>eH (w:=w) (A:=A.deeper (ah 94 CT L)) (L:=L) (a:=a) t (by omega) (bD 0 false 0 t.cps.toList) 0 none [] (by simp only[Ij];omega)
  generalize hs:aN t (bD 0 false 0 t.cps.toList) 0 none []=res at hr loop
  obtain⟨st,op,r⟩:=res
  simp only[Ij]at hr
  obtain hrl:r.length≤600:=by have:=hr.2;omega
  unfold aC
  cases hq:inS (H5 "\"") t with
  |false=>
   skip
   refine⟨[H5 "addr"].zip [PV.str t],?_⟩
   have hq':(!(inS (H5 "\"") t))=true:=by rw[hq];rfl
   walk_at "ifTr"
   case hbody=>walk_at "ret"
  |true=>
   have hq':(!(inS (H5 "\"") t))=false:=by rw[hq];rfl
   simp only[if_true,hs]
   refine⟨DK t st op (if st<(t.length:Int)then r++[aM t (some st) none]else r),?_⟩
   walk_at "ifF"
   case hbody=>exact aq
   case hrest=>
   walk_at "asg"
   case hrest=>
   walk_at "asg"
   case hrest=>
   refine vj (l:=([]:List Str).map PV.str) bj (by simp) ?_ (by kernel_rfl) rfl (fun a=>?_)
   ·show Ev _ _ _ _ _ _ _ (.lst []) _
    walk_at "ev"
   refine af (oT (locs2:=DK t 0 none []) (jK (fa:=true) (t:=t) (n:=2) ro' (.inl (by kernel_rfl)) (.inl (by kernel_rfl)) (by simp;decide +kernel) (by simp;decide +kernel) (fun Fs s I=>uU I fun q hq=>?_) ?_ ?_ rfl (loop a) (by intro _;rfl)) (by kernel_rfl) ?_) ?_
   ·rw[H7.mp hq];exact⟨_,(show(DK t 0 none []).lookup (H5 "result")=some (.own (([]:List Str).map PV.str))by walk_at "lk")⟩
   ·refine Ev.global ?_ oQ ?_ <;> kernel_rfl
   ·walk_at "ev"
   ·walk_at "looks"
   obtain hj:JoinOk (H5 "") (if st<(t.length:Int)then r++[aM t (some st) none]else r)=true:=by
    refine j5 (n:=t.length) (fun y hy=>?_) (by omega) ?_ (by decide +kernel)
    ·split at hy
     ·rcases H9.mp hy with hy | hy
      ·exact hr.1 y hy
      ·rw[H7.mp hy];exact bM _ _ _
     ·exact hr.1 y hy
    ·split
     ·simp only[He,KV];omega
     ·omega
   refine af (locs':=DK t st op (if st<(t.length:Int)then r++[aM t (some st) none]else r)) ?_ ?_
   ·by_cases hlt:st<(t.length:Int)
    ·obtain hd:decide (st<(t.length:Int))=true:=decide_eq_true hlt
     have er:PV.own ((r++[aM t (some st) none]).map PV.str)=.own (r.map .str++[.str (aM t (some st) none)]):=by simp
     simp only[hlt,if_true]
     walk_at "norm"
     case hrun=>
      refine' cE (c:=decide (st<(t.length:Int))) ?k0 hd ?kb
      case k0=>walk_at "tr"
      case kb=>
      refine' af (bU (g8 (l:=r.map .str) (q:=.str (aM t (some st) none)) bj ?h0 ?h1 ?h2 ?h3 ?h4 ?h5 ?h6 ?h7 ?h8) ?h9 ?h10) ?hrest
      case h0=>walk_at "lk"
      case h1=>simp only[Hl];omega
      case h2=>walk_at "ev"
      case h3=>kernel_rfl
      case h4=>kernel_rfl
      case h5=>rfl
      case h6=>rfl
      case h7=>rfl
      case h8=>rfl
      case h9=>rfl
      case h10=>rfl
      case hrest=>exact aq
     refine ak ?_ (ak ?_ (ak ?_ (ak ?_ dZ)))
     ·walk_at "lk"
     ·walk_at "lk"
     ·walk_at "lk"
     ·rw[er];walk_at "lk"
    ·have hd:decide (st<(t.length:Int))=false:=decide_eq_false hlt
     simp only[hlt,if_false]
     refine c7 (c:=decide (st<(t.length:Int))) ?_ hd aq
     walk_at "tr"
   ·refine aX (cJ (f:=true) (ud (f:=false) ?_ hj rfl rfl rfl rfl) rfl) (by nofun)
    walk_at "ev"
end
section
theorem pC{h:Heap}: ∀(l:List (Str×Tok)),bf h ((l.map (·.1)).map .str) (strValues l) []
 |[]=>.nil
 | (x,t)::l=>.cons (F:=[]) (.str x t) (pC l)
section
variable{gt:List (Str×Value)}{K:List (Addr×Obj)}{pins:List (Str×Addr)}{w:World}{A:Around}{env:Env}{locs:List (Str×PV)}
theorem lC{s:Shared}{l:List (Str×Tok)}{ys:List Str}{k:Nat}(e:l.map (·.1)=ys): mn (.lst (ys.map .str)) true s (KB s.heap.objs.size) { s with toks:=k,heap:=s.heap.push (bn (strValues l) 0) }:=
 ⟨⟨aj.push _ _,fun _ _ e=>e,id,rfl⟩,[s.heap.objs.size],.lst (n:=0) (Hk _ rfl) (by rw[←e];exact pC l) (by simp),fun _ b hb=>by rw[H7.mp hb];exact Hw _⟩
theorem xg{x y:Str}{k:Int}(hx:x.length≤1000)(hy:(y.length==0)=false)(hk:(decide (k < -(2 ^ 63:Int))||decide (k≥2 ^ 63))=false): ms gt K w A "str.split" (.str x) [.str y,.int k] (.lst ((Lo x y k).map .str)) true:=by
 constructor;intro s a vs F0 H g zx z
 cases zx with
 |str _ t=>
 cases z with
 |cons zy z=>
  cases z with
  |cons zk z=>
   cases z;cases zy with
   |str _ u=>
    cases zk with
    |int _ v=>
     obtain hn:(LU x (IA x y 0 x.length (limitOf x k)) y.length).length≤Ip:=by
      obtain e1:=LI x y 0 x.length (limitOf x k)
      obtain this:=aU
      rw[length_partsBetween];omega
     cases h1:(decide (x.length<y.length)||decide (II x<II y))
     ·cases hf:(IA x y 0 x.length (limitOf x k)).isEmpty
      ·refine call_meets JQ (Lv _ _ _) KC (Kp _ _ _) (meets_str_split_sep_max x y k t u v hk h1 hy hf (by obtain this:=aU;omega) hn) ?_
       show wants _ _ _ { s with toks:=_,heap:=s.heap.push { cls:=.type "list",data:=.seq (strsFrom s.toks (LU x (IA x y 0 x.length (limitOf x k)) y.length)).toArray } }
       rw[strsFrom_eq]
       exact lC ((numbered_texts _ _).trans ((if_neg (ne_true_of_eq_false h1)).trans (if_neg (ne_true_of_eq_false hf))).symm)
      ·exact call_meets JQ (Lv _ _ _) KC (Kp _ _ _) (meets_str_split_max_not_found x y k t u v hk h1 hy hf)
        (lC (l:=[(x,t)]) ((if_neg (ne_true_of_eq_false h1)).trans (if_pos hf)).symm)
     ·exact call_meets JQ (Lv _ _ _) KC (Kp _ _ _) (meets_str_split_max_cannot_occur x y k t u v hk h1)
       (lC (l:=[(x,t)]) (if_pos h1).symm)
theorem E6{o e1 e2:Expr}{apos pos:Pos}{x y:Str}{k:Int}{f f1 f2:Bool}(h:Ev gt K w A env locs o (.str x) f)(h1:Ev gt K w A env locs e1 (.str y) f1)(h2:Ev gt K w A env locs e2 (.int k) f2)
  (hx:x.length≤1000) (hy:(y.length==0)=false) (hk:(decide (k < -(2 ^ 63:Int))||decide (k≥2 ^ 63))=false)
  (hbase:IT o (H5 "split") env (eval o env)=eval o env)
  (hfew:((backTo pos (Hg [e1,e2] env)).all (fun x=>!x.1)&&(KI pos (Jr [] env)).all (fun x=>x.1.isSome)
   &&decide (([e1,e2]:List Expr).length+([]:List Keyword).length+(if([]:List Keyword).isEmpty then 0 else 1)<30))=true)
  (hline:(apos.endLine==pos.line)=true) (he1:Hg [e1,e2] env=(false,eval e1 env)::Hg [e2] env) (he2:Hg [e2] env=(false,eval e2 env)::Hg [] env) (hplain:(backTo pos (Hg [e2] env)).any (·.1)=false):
  Ev gt K w A env locs (.Call (.Attribute o (H5 "split") apos) [e1,e2] [] pos) (.lst ((Lo x y k).map .str)) true:=
 uc h (bG.cons h1 (bG.cons h2 bG.nil he2) he1) ix (xg hx hy hk) KM JQ PySem.F.type_str_split hbase hfew hline he1 hplain
theorem A4{l:List PV}(hl:l.length≤100000): au gt K w A (.builtin "len") [.lst l] (.int l.length) true:=by
 constructor;intro s vs F g xA hN;clear hN;cases xA with | cons a b=>
 cases b
 cases a with
 | @lst _ _ us n _ e z nd=>
  obtain hz:us.toArray.size=l.length:=by simpa using z.length
  refine call_len_list ⟨_,e,rfl,n,rfl⟩ (by rw[hz];omega) ?_
  rw[hz]
  exact⟨.ofToks,[],.int _ _,fun _ _ hb=>(nomatch hb)⟩
theorem oS{x:Str}{np pos:Pos}{l:List PV}(hl:locs.lookup x=some (.own l))(hd:(x==("__debug__":Str))=false)(hcd:(x==("__classdict__":Str))=false): Ex gt K pins w A env (exec (.Return (some (.Name x np)) pos) env) locs (.ret (.lst l)) locs:=.mk fun s Fs I=>by
 obtain⟨v,F,Fs',z,a,I',l1,d1,o1,_⟩:=I.take hl
 exact Jf (aD I.er a hd hcd ⟨.refl _ _,⟨v,F,rfl,z.seen,fun b hb=>.inl (o1 rfl b hb)⟩,Fs,I,fun b hb=>.inl hb⟩)
end
theorem x7(w:World)(A:Around)(t:Str)(ht:t.length≤500)(ro:Ro A 12): au aa ay w A (.ref 101) [.str t] (.bool (dI (aC t))) true:=
 x6 t (aC t) ro fun A' ro'=>Cc w A' t ht ro'
end
section
noncomputable def cP(t:Str): List Str:=Lo t (H5 "'") 2
section
variable{w:World}{A:Around}
theorem ol(t:Str)(ht:t.length≤500): (cP t).length≤1000:=by
 unfold cP Lo
 split
 ·simp
 ·split
  ·simp
  ·rw[length_partsBetween]
   obtain e1:=LI t (H5 "'") 0 t.length (limitOf t 2)
   omega
theorem EC(t:Str)(ht:t.length≤500)(h3:2<(cP t).length)(ro:Ro A 2): au aa ay w A (.ref 108) [.str t] (.lst ((cP t).map .str)) true:=
 bE Dr ro rfl (dg rfl) fun L ro'=>⟨ab (H5 "parts") (.own ((cP t).map .str)) ([H5 "s"].zip [PV.str t]),by
  obtain hl:=ol t ht
  show Ex _ _ _ _ _ _ _ ([H5 "s"].zip [PV.str t]) _ _
  obtain h4:decide ((((cP t).map PV.str).length:Int)≤2)=false:=decide_eq_false (by simp only[Hl];omega)
  refine af (az (p:=.lst ((cP t).map .str)) bj (by simp) ?_ .own (.inl (by kernel_rfl)) (by rfl)) ?_
  ·unfold cP;walk_at "ev"
  walk_at "ifF"
  case hbody=>exact aq
  case hrest=>
  refine aX (oS ?_ (by kernel_rfl) (by kernel_rfl)) (by nofun)
  exact dG⟩
end
end
section
theorem ae(w:World): ∀ q∈ac w,q.1<348:=fun q hq=>by
 rcases H9.mp hq with hq | hq
 ·have:(xD w).map (·.1)=[75,76,109,129,130,134,135,257,258]:=rfl
  have h1:q.1∈(xD w).map (·.1):=Hm.mpr ⟨q,hq,rfl⟩
  rw[this]at h1
  revert h1;generalize q.1=x;intro h1
  rcases Cq h1 with rfl | rfl | rfl | rfl | rfl | rfl | rfl | rfl | rfl <;> decide
 ·exact bj q hq
theorem ag(w:World): ∀ p∈ay,p∈ac w:=fun p hp=>Hb _ hp
theorem G.mono{gt:List (Str×Value)}{K K':List (Addr×Obj)}{h:Heap}(g:G gt K' h)(hs:∀ p∈K,p∈K'): G gt K h:=⟨g.low,g.nolimit,g.nodigits,g.glob,g.blt,fun p hp=>g.tab p (hs p hp)⟩
theorem au.up{gt:List (Str×Value)}{K K':List (Addr×Obj)}{w:World}{A:Around}{f:Value}{args:List PV}{r:PV}{fr:Bool}(h:au gt K w A f args r fr)(hs:∀ p∈K,p∈K'): au gt K' w A f args r fr:=.mk fun s vs F g=>h.run s vs F (g.mono hs)
theorem gS.up{K K':List (Addr×Obj)}{f:Addr}{xs:List Str}{body:List Stmt}{sc:Scope}{fd:Hy}(D:gS K f xs body sc fd)(hs:∀ p∈K,p∈K'): gS K' f xs body sc fd where
 obj:=let⟨o,h,e⟩:=D.obj;⟨o,hs _ h,e⟩
 code:=let⟨c,oc,vs,t,h,r⟩:=D.code;⟨c,oc,vs,t,hs _ h,r⟩
 body:=D.body
 scope:=D.scope
 glob:=D.glob
 blt:=D.blt
 clos:=D.clos
 co:=D.co
 gen:=D.gen
 kind:=D.kind
 bind:=D.bind
 nodup:=D.nodup
 cells:=D.cells
 names:=D.names
theorem G.inK{gt:List (Str×Value)}{K:List (Addr×Obj)}{h:Heap}(g:G gt K h): Frag.In K h:=fun a o e=>by
 obtain this:∀{l:List (Addr×Obj)},l.lookup a=some o→(a,o)∈l:=by
  intro l
  induction l with
  |nil=>intro e;cases e
  |cons p l ih=>
   obtain⟨b,x⟩:=p
   intro e
   rw[HA]at e
   cases hb:a==b with
   |true=>rw[hb]at e;cases e;rw[KW hb];exact .head _
   |false=>rw[hb]at e;exact .tail _ (ih e)
 exact g.tab _ (this e)
noncomputable def C5:List (Str×Int):=kW.map fun x=>(x.1,x.2.2.1)
noncomputable def bI(x:Str): Int:=(C5.lookup x).getD 256
theorem uj{h:Heap}{w:World}: ∀ l:List (Str×Tok×Int×Tok),eG h (i9 w (l.map fun x=>(x.1,x.2.2.1))) (zG w l) []
 |[]=>.nil
 |x::l=>.cons (F:=[]) (.int _ _) (uj l)
theorem pJ(w:World)(x:Str): ∀ l:List (Str×Tok×Int×Tok),(((zG w l).find? fun e=>Jb x e.key).map (·.val))=(((l.map fun x=>(x.1,x.2)).lookup x).map fun y=>MT y.2.1 y.2.2)
 |[]=>rfl
 | (y,t,i,u)::l=>by
  simp only[zG,HF,Lc,Jb,HA]
  by_cases h:x=y
  ·subst h;simp
  ·have h1:(y==x)=false:=by simpa using fun e=>h e.symm
   have h2:(x==y)=false:=by simpa using h
   rw[h1,h2]
   exact pJ w x l
theorem pI(x:Str)(t:Tok): ∀ l:List (Str×Tok×Int×Tok),∃ u,((((l.map fun x=>(x.1,x.2)).lookup x).map fun y=>MT y.2.1 y.2.2).getD (.int 256 t))=.int ((((l.map fun x=>(x.1,x.2.2.1)).lookup x)).getD 256) u
 |[]=>⟨t,rfl⟩
 | (y,t',i,u)::l=>by
  simp only[HF,HA]
  by_cases h:x=y
  ·subst h;exact⟨u,by simp⟩
  ·have h2:(x==y)=false:=by simpa using h
   rw[h2]
   exact pI x t l
section
variable{w:World}{A:Around}{env:Env}{locs:List (Str×PV)}
theorem E5{e:Expr}{x:Str}{np apos pos cpos:Pos}{k:Nat}{f:Bool}(hk:env.kindOf (H5 "EXACT_TOKEN_TYPES")=some .globalImplicit)(h1:Ev aa (ac w) w A env locs e (.str x) f)
  (hbase:IT (.Name (H5 "EXACT_TOKEN_TYPES") np) (H5 "get") env (eval (.Name (H5 "EXACT_TOKEN_TYPES") np) env)=eval (.Name (H5 "EXACT_TOKEN_TYPES") np) env)
  (hfew:((backTo pos (Hg [e,.Constant (.int 256) k cpos] env)).all (fun x=>!x.1)&&(KI pos (Jr [] env)).all (fun x=>x.1.isSome)
   &&decide (([e,.Constant (.int 256) k cpos]:List Expr).length+([]:List Keyword).length+(if([]:List Keyword).isEmpty then 0 else 1)<30))=true)
  (hline:(apos.endLine==pos.line)=true) (he:Hg [e,.Constant (.int 256) k cpos] env=(false,eval e env)::Hg [.Constant (.int 256) k cpos] env):
  Ev aa (ac w) w A env locs (.Call (.Attribute (.Name (H5 "EXACT_TOKEN_TYPES") np) (H5 "get") apos) [e,.Constant (.int 256) k cpos] [] pos) (.int (bI x)) true:=.mk fun s Fs g z=>
 Js hbase hfew hline PySem.F.plainAttrs_dict MD PySem.F.type_dict_get (Pw.andThen ((Ev.global (K:=ac w) (A:=A) (locs:=locs) hk CQ (by kernel_rfl)).run s Fs g z) fun ov s₁ hh=>by
  obtain⟨k1,F1,v1,_⟩:=hh
  cases v1
  have g1:=g.kept0 k1.heap
  have hob:=fun{h:Heap} (g:G aa (ac w) h)=>g.tab (109,_) (H8 _ (.tail _ (.tail _ (.head _))))
  refine⟨⟨_,hob g1,rfl⟩,fun b hb=>by cases hb;exact⟨_,hob g1,rfl⟩,?_⟩
  obtain h:=(bG.cons h1 (bG.cons (Ev.int 256 k cpos) bG.nil rfl) he).run s₁ Fs pos g1 (z.kept0 k1.heap)
  rw[he]at h ⊢
  refine Ik (P:=G aa (ac w)) rfl (fun h' g'=>⟨.machine,.inr (.inl rfl),HD rfl⟩) (HZ (Pw.andThen h fun vs s₂ hh=>?_))
  obtain⟨k2,F2,v2,_⟩:=hh
  obtain g2:=g1.kept0 k2.heap
  refine⟨g2,?_⟩
  cases v2 with
  |cons zx v2=>
   cases v2 with
   |cons zi v2=>
    cases v2
    cases zx with
    |str _ t=>
     cases zi with
     |int _ u=>
      obtain hm:=uo (w:=w) (hob g2) (uj kW) (fh w _)
      refine call_meetsIn MD hm.typeIs PySem.F.entry_dict_get (PySem.F.args_dict_get_3 _ _ _) (meets_dict_get_default (strKind pw w) 109 (k:=x) (by simp[IE,Jb]) (by decide) (.int 256 u)) ⟨_,hm,?_⟩
      rw[pJ]
      obtain⟨u',hu⟩:=pI x u kW
      rw[hu]
      exact⟨(k1.trans k2).trans .ofToks,[],.int _ _,fun _ _ hb=>(nomatch hb)⟩)
end
end
section
noncomputable def bQ(locs:List (Str×PV)): Prop:=∀ q∈locs,q.2.flat=true∨q.2.isOwn=true
theorem bX:bQ []:=fun q hq=>nomatch hq
theorem ai{x:Str}{p:PV}{l:List (Str×PV)}(hp:p.flat=true∨p.isOwn=true)(h:bQ l): bQ ((x,p)::l):=fun q hq=>by
 rcases Ha.mp hq with rfl | hq
 ·exact hp
 ·exact h q hq
section
variable{gt:List (Str×Value)}{K:List (Addr×Obj)}{pins:List (Str×Addr)}{w:World}{A:Around}{env:Env}{locs locs1 locs2 locs':List (Str×PV)}{Fs:List (List Addr)}{s:Shared}
theorem bO.allOwn{h:Heap}{m:Str→Option Value}{locs:List (Str×PV)}{Fs:List (List Addr)}(V:bO h env m locs Fs): bQ locs→∀ b∈Fs.flatten,b∈cU locs Fs:=by
 induction V using bO.ind with
 |nil=>exact fun _ b hb=>nomatch hb
 | @cons x p r F Fs v a z V ih=>
  intro ho b hb
  simp only[HL,H9]at hb
  simp only[cU,H9]
  rcases hb with hb | hb
  ·rcases ho _ (.head _)with hf | hf
   ·rw[z.flat hf]at hb;cases hb
   ·rw[if_pos hf];exact .inl hb
  ·exact .inr (ih (fun q hq=>ho q (.tail _ hq)) b hb)
theorem bw.allOwn(I:bw gt K pins env locs Fs s)(ho:bQ locs): ∀ b∈env.locals::env.cells.map (·.2)++Fs.flatten,b∈ow env locs Fs:=by
 obtain⟨m,n,V⟩:=I.er.vars
 intro b hb
 simp only[ow,Hp,Ha,H9]at hb ⊢
 exact hb.imp id fun h=>h.imp id (V.allOwn ho b)
structure FQ(gt:List (Str×Value))(K:List (Addr×Obj))(pins:List (Str×Addr))(w:World)(A:Around)(env:Env)(target:Expr)(tg:PV→List (Str×PV)→List (Str×PV))(items:List PV): Prop where
 run:∀ p∈items,∀ locs Fs s v,bw gt K pins env locs Fs s→VR s.heap p v []→wpAny (model pw w) A (assign target env v) (fun _ s'=>∃ Fs',bw gt K pins env (tg p locs) Fs' s'∧aG (env.locals::env.cells.map (·.2)) s s'∧∀ b∈ow env (tg p locs) Fs',b∈ow env locs Fs∨s.heap.objs.size≤b) (fun _ _=>False) s
theorem wk{x:Str}{px:Pos}{items:List PV}(hK:∀ q∈K,q.1<348)(hpin:x∉pins.map (·.1))(hk:aJ env x): FQ gt K pins w A env (.Name x px) (fun p=>ab x p) items:=.mk fun p hp locs Fs s v I z=>
 assign_Name (d4 hK hpin I hk z .nil (fun b hb=>nomatch hb) (fun b hb=>nomatch hb) I.g.low)
theorem oh{x y:Str}{px py tpos:Pos}{k0:Nat}{items:List PV}(hK:∀ q∈K,q.1<348)(hh:A.handled=none)(hpx:x∉pins.map (·.1))(hpy:y∉pins.map (·.1))(hx:aJ env x)(hy:aJ env y)(pr:PV→PV×PV)(hi:∀ p∈items,p=.tup [(pr p).1,(pr p).2]):
  FQ gt K pins w A env (.Tuple [.Name x px,.Name y py] k0 tpos) (fun p l=>ab y (pr p).2 (ab x (pr p).1 l)) items:=.mk fun p hp locs Fs s v I z=>by
 rw[hi p hp]at z
 exact eN (xs:=[x,y]) (n:=s.heap.objs.size) hK I.g.low hh (by
   intro u hu
   rcases Ha.mp hu with rfl | hu
   ·exact hpx
   ·rw[H7.mp hu];exact hpy) rfl (gW hx hy) (show kL env ((Jj [.Name x px,.Name y py] env).map (·.2)) [x,y]from⟨aI _ _ _,aI _ _ _,trivial⟩) rfl rfl I z (fun b hb=>nomatch hb) (fun b hb=>nomatch hb)
inductive bP(gt:List (Str×Value))(K:List (Addr×Obj))(pins:List (Str×Addr))(w:World)(A:Around)(env:Env)(body:List Stmt)(tg:PV→List (Str×PV)→List (Str×PV)): List PV→List (Str×PV)→Fl→List (Str×PV)→Prop
 |nil{locs:List (Str×PV)}: bQ locs→bP gt K pins w A env body tg [] locs .next locs
 |next{p:PV}{rest:List PV}{locs locs1 locs2:List (Str×PV)}{fl:Fl}: bQ locs→Ex gt K pins w A env (execs body env) (tg p locs) .next locs1→bP gt K pins w A env body tg rest locs1 fl locs2→bP gt K pins w A env body tg (p::rest) locs fl locs2
 |cont{p:PV}{rest:List PV}{locs locs1 locs2:List (Str×PV)}{fl:Fl}: bQ locs→Ex gt K pins w A env (execs body env) (tg p locs) .cont locs1→bP gt K pins w A env body tg rest locs1 fl locs2→bP gt K pins w A env body tg (p::rest) locs fl locs2
 |ret{p:PV}{rest:List PV}{locs locs1:List (Str×PV)}{r:PV}: bQ locs→Ex gt K pins w A env (execs body env) (tg p locs) (.ret r) locs1→bP gt K pins w A env body tg (p::rest) locs (.ret r) locs1
inductive BU(gt:List (Str×Value))(K:List (Addr×Obj))(pins:List (Str×Addr))(w:World)(A:Around)(env:Env)(body:List Stmt)(tg:PV→List (Str×PV)→List (Str×PV))(items:List PV)(O fp:List Addr)(St:Nat→Heap→Prop)(s0 sB:Shared)(fl:Fl)(locs':List (Str×PV))(k:Nat)(s1:Shared): Prop
 |mk(i:Nat)(rest:List PV)(locs:List (Str×PV))(Fs:List (List Addr))(hi:i≤items.length)(hk:k=items.length - i)(hd:items.drop i=rest)(hl:bP gt K pins w A env body tg rest locs fl locs')(hst:St i s1.heap)(k01:aG O s0 s1)(kB:∃ W,aj W sB.heap s1.heap)
  (I1:bw gt K pins env locs Fs s1) (o1:∀ b∈ow env locs Fs,b∈O∨s0.heap.objs.size≤b) (d1:∀ b∈fp,b∉env.locals::env.cells.map (·.2)++Fs.flatten) (x1:∀ b∈fp,b<s1.heap.objs.size)
theorem bP.own{body:List Stmt}{tg:PV→List (Str×PV)→List (Str×PV)}{items:List PV}{locs:List (Str×PV)}{fl:Fl}{l:List (Str×PV)}(z:bP gt K pins w A env body tg items locs fl l): bQ locs:=by induction z using bP.casesOn <;> assumption
noncomputable def DP(gt:List (Str×Value))(K:List (Addr×Obj))(pins:List (Str×Addr))(w:World)(A:Around)(env:Env)(body:List Stmt)(tg:PV→List (Str×PV)→List (Str×PV))(locs:List (Str×PV))(fl:Fl)(l:List (Str×PV))(items:List PV): Prop:=
 List.casesOn items (fl=.next∧l=locs) fun p rest=>(∃ g locs1,(g=.next∨g=.cont)∧Ex gt K pins w A env (execs body env) (tg p locs) g locs1∧bP gt K pins w A env body tg rest locs1 fl l)∨∃ r,fl=.ret r∧Ex gt K pins w A env (execs body env) (tg p locs) (.ret r) l
theorem bP.inv0{body:List Stmt}{tg:PV→List (Str×PV)→List (Str×PV)}{items:List PV}{locs:List (Str×PV)}{fl:Fl}{l:List (Str×PV)}(z:bP gt K pins w A env body tg items locs fl l): DP gt K pins w A env body tg locs fl l items:=by
 induction z using bP.casesOn with
 |nil _=>exact⟨rfl,rfl⟩
 |next _ a b=>exact .inl ⟨_,_,.inl rfl,a,b⟩
 |cont _ a b=>exact .inl ⟨_,_,.inr rfl,a,b⟩
 |ret _ a=>exact .inr ⟨_,rfl,a⟩
theorem bP.end{body:List Stmt}{tg:PV→List (Str×PV)→List (Str×PV)}{locs:List (Str×PV)}{fl:Fl}{l:List (Str×PV)}(z:bP gt K pins w A env body tg [] locs fl l): fl=.next∧l=locs:=z.inv0
theorem bP.inv{body:List Stmt}{tg:PV→List (Str×PV)→List (Str×PV)}{p:PV}{rest:List PV}{locs:List (Str×PV)}{fl:Fl}{l:List (Str×PV)}(z:bP gt K pins w A env body tg (p::rest) locs fl l):
  (∃ g locs1,(g=.next∨g=.cont)∧Ex gt K pins w A env (execs body env) (tg p locs) g locs1∧bP gt K pins w A env body tg rest locs1 fl l)∨∃ r,fl=.ret r∧Ex gt K pins w A env (execs body env) (tg p locs) (.ret r) l:=z.inv0
theorem nj(hK:∀ q∈K,q.1<348){target:Expr}{tg:PV→List (Str×PV)→List (Str×PV)}{body:List Stmt}{items:List PV}{I0:Addr}{fp:List Addr}{St:Nat→Heap→Prop}{P:Nat→Value→Prop}{fl:Fl}{R:Result→Shared→Prop}
  (W:Walks pw w A I0 fp [I0] items.length P St) (T:FQ gt K pins w A env target tg items) (O:List Addr) (s0:Shared)
  (hfp:∀ b∈fp,348≤b) (hI0:s0.heap.objs.size≤I0) (hnf:∀ i h,St i h→∀ o,h.get? I0=some o→cD o=false)
  (hgo:∀ i v s (Q:Unit→Shared→Prop),St i s.heap→Q () s→wpAny (model pw w) A (Kt target (.ref I0) v) Q (fun _ _=>False) s)
  (hR:∀ s' f Fs',aG O s0 s'→DS s0.heap.objs.size O s'.heap fl f→bw gt K pins env locs' Fs' s'→(∀ b∈ow env locs' Fs',b∈O∨s0.heap.objs.size≤b)→R (.ok f) s')
  (sB:Shared) (hP:∀ i v,i<items.length→P i v→∃ p,items[i]? = some p∧VR sB.heap p v [])
  (s1:Shared) (Fs:List (List Addr)) (locs:List (Str×PV)) (hst:St 0 s1.heap) (k01:aG O s0 s1) (kB:∃ W,aj W sB.heap s1.heap) (I1:bw gt K pins env locs Fs s1) (o1:∀ b∈ow env locs Fs,b∈O∨s0.heap.objs.size≤b)
  (d1:∀ b∈fp,b∉env.locals::env.cells.map (·.2)++Fs.flatten) (x1:∀ b∈fp,b<s1.heap.objs.size)
  (hl:bP gt K pins w A env body tg items locs fl locs'):codeAny (model pw w) A (.forLoop target (.ref I0) body [] env) R s1:=by
 refine nC (BU gt K pins w A env body tg items O fp St s0 sB fl locs') ?_ items.length
  ⟨0,items,locs,Fs,HT _,rfl,rfl,hl,hst,k01,kB,I1,o1,d1,x1⟩
 clear hst k01 kB I1 o1 d1 x1 hl s1 Fs locs
 intro k s1 h Q hN hS
 obtain⟨i,rest,locs,Fs,hi,hk,hdrop,hl,hst,k01,kB,I1,o1,d1,x1⟩:=h
 have hok:=hl.own
 have hIf:I0∈fp:=W.sub _ (.head _)
 have one:∀{b:Addr} {P:Addr→Prop},P I0→b∈[I0]→P b:=fun p hb=>H7.mp hb▸p
 have moved:∀(s2:Shared),s1.heap.objs.size≤s2.heap.objs.size→(∀ b o,b∉[I0]→s1.heap.get? b=some o→s2.heap.get? b=some o)→s2.gens=s1.gens→s2.os=s1.os→
   aj [I0] s1.heap s2.heap∧aG O s0 s2∧bw gt K pins env locs Fs s2:=by
  intro s2 hz hk eg eo
  have kI:aj [I0] s1.heap s2.heap:=⟨hz,fun b o e q=>q.elim (fun q=>hk b o q e) fun q=>hk b o (fun hm=>J9 ((hnf i _ hst o (H7.mp hm▸e)).symm.trans q)) e⟩
  exact⟨kI,k01.comp (O':=[I0]) ⟨kI,fun j g e=>eg▸e,fun b=>(congrArg AllBare eg).mpr b,eo⟩ (fun b=>one (P:=fun b=>b∈O∨_≤b) (.inr hI0)),I1.movedP hK kI (fun b=>one (P:=fun b=>348≤b) (hfp _ hIf)) fun b hb hm=>d1 _ hIf (H7.mp hm▸hb)⟩
 cases rest with
 |nil=>
  obtain⟨e1,e2⟩:=hl.end
  have hil:i=items.length:=Nat.le_antisymm hi (List.drop_eq_nil_iff.mp hdrop)
  refine Hf (cA (W.done s1 (fun r s2=>r=none∧(∀ b o,b∉[I0]→s1.heap.get? b=some o→s2.heap.get? b=some o)∧s2.gens=s1.gens∧s2.os=s1.os) (fun _ _=>False) (hil▸hst) fun h' tk hk=>⟨rfl,hk,rfl,rfl⟩)) (fun r s2 hh=>?_) fun _ _ x=>x.1.elim
  obtain⟨hh,hz⟩:=hh
  obtain⟨er,hk,eg,eo⟩:=hh
  obtain⟨kI,k02,I2⟩:=moved s2 hz hk eg eo
  exact er▸hN s2 (hR s2 .next Fs k02 (e1▸rfl) (e2▸I2) (e2▸o1))
 |cons p rest'=>
  have hlt:i<items.length:=Nat.lt_of_not_le fun h=>nomatch hdrop.symm.trans (List.drop_eq_nil_of_le h)
  have hpi:=(LJ hlt).symm.trans hdrop
  refine Hf (cA (W.item i s1 (fun r s2=>∃ v,r=some v∧P i v∧St (i+1) s2.heap∧(∀ b o,b∉[I0]→s1.heap.get? b=some o→s2.heap.get? b=some o)∧s2.gens=s1.gens∧s2.os=s1.os) (fun _ _=>False) hlt hst fun v h' tk hPv hst' hk=>⟨v,rfl,hPv,hst',hk,rfl,rfl⟩)) (fun r s2 hh=>?_) fun _ _ x=>x.1.elim
  obtain⟨hh,hz⟩:=hh
  obtain⟨v,er,hPv,hst2,hk',eg,eo⟩:=hh
  obtain⟨kI,k02,I2⟩:=moved s2 hz hk' eg eo
  obtain⟨WB,kB⟩:=kB
  obtain⟨p',hp,zp⟩:=hP i v hlt hPv
  have hpp:p'=p:=Ld (hp.symm.trans ((Hv hlt).trans (congrArg some (List.cons.inj hpi).1)))
  have zp2:VR s2.heap p v []:=hpp▸(zp.kept kB fun b hb=>(nomatch hb)).kept kI fun b hb=>(nomatch hb)
  rw[er]
  refine hS v s2 (Hf (hgo (i+1) v s2 (fun _ s=>s=s2) hst2 rfl) (fun _ s2' es=>?_) fun _ _ x=>x.elim)
  rw[es]
  refine Hf (T.run p (hpp▸HH hp) locs Fs s2 v I2 zp2) (fun _ s3 hh=>?_) fun _ _ x=>x.elim
  obtain⟨Fs3,I3,k3,o3⟩:=hh
  have k03:aG O s0 s3:=k02.comp k3 fun b hb=>o1 b (H8 _ hb)
  have o3':∀ b∈ow env (tg p locs) Fs3,b∈O∨s0.heap.objs.size≤b:=fun b hb=>(o3 b hb).elim (o1 b) fun h=>.inr (H6 k02.heap.size h)
  have x2:∀ b∈fp,b<s2.heap.objs.size:=fun b hb=>HB (x1 b hb) hz
  have d3:∀ b∈fp,b∉ow env (tg p locs) Fs3:=fun b hb hm=>(o3 b hm).elim (fun h=>d1 b hb (fW h)) fun h=>absurd (x2 b hb) (Hz.mpr h)
  rcases hl.inv with h | h
  ·obtain⟨g,locs1,hg,hb,hl4⟩:=h
   refine Hf (hb.run s3 Fs3 I3) (fun f s4 hh=>?_) fun _ _ x=>x.elim
   obtain⟨k4,f4,Fs4,I4,o4⟩:=hh
   have x3:∀ b∈fp,b<s3.heap.objs.size:=fun b hb=>HB (x2 b hb) k3.heap.size
   have again:BU gt K pins w A env body tg items O fp St s0 sB fl locs' (items.length - (i+1)) s4:=by
    refine⟨i+1,rest',locs1,Fs4,hlt,rfl,(List.cons.inj hpi).2,hl4,?_,k03.comp k4 o3',⟨WB++[I0]++(env.locals::env.cells.map (·.2))++ow env (tg p locs) Fs3,?_⟩,I4,fun b hb=>(o4 b hb).elim (o3' b) fun h=>.inr (H6 k03.heap.size h),fun b hb hm=>?_,fun b hb=>HB (x3 b hb) k4.heap.size⟩
    ·exact W.frame _ _ _ hst2 fun b hb o e=>k4.heap.keep _ _ (k3.heap.keep _ _ e (.inl fun hm=>d1 b hb (H8 _ hm))) (.inl (d3 b hb))
    ·exact(((kB.mono fun b hb=>H8 _ (H8 _ (H8 _ hb))).trans (kI.mono fun b hb=>H8 _ (H8 _ (Hb _ hb)))).trans (k3.heap.mono fun b hb=>H8 _ (Hb _ hb))).trans (k4.heap.mono fun b hb=>Hb _ hb)
    ·exact(o4 b (I4.allOwn hl4.own b hm)).elim (d3 b hb) fun h=>absurd (x3 b hb) (Hz.mpr h)
   have lt:items.length - (i+1)<k:=hk▸Nat.sub_succ_lt_self _ _ hlt
   rcases hg with rfl | rfl <;> cases f4 <;> exact⟨_,lt,again⟩
  ·obtain⟨r1,e1,hb⟩:=h
   refine Hf (hb.run s3 Fs3 I3) (fun f s4 hh=>?_) fun _ _ x=>x.elim
   obtain⟨k4,f4,Fs4,I4,o4⟩:=hh
   obtain⟨v',F,ef,z,hF⟩:=f4
   subst ef
   exact hR s4 _ Fs4 (k03.comp k4 o3') (e1▸⟨v',F,rfl,z,fun b hb=>(hF b hb).elim (o3' b) fun h=>.inr (H6 k03.heap.size h)⟩) I4 fun b hb=>(o4 b hb).elim (o3' b) fun h=>.inr (H6 k03.heap.size h)
noncomputable abbrev mw(l:Addr): Obj:={ cls:=.type "list_iterator",data:=.fields #[.ref l,.int 0 0] }
noncomputable def GD(I0 l:Addr)(vs:List Value)(i:Nat)(h:Heap): Prop:=h.IsListIter I0 l i∧h.IsList l vs.toArray
inductive FD(w:World)(A:Around)(h:Heap)(l:Addr)(vs:List Value)(k:Nat): Prop
 |mk(W:Walks pw w A h.objs.size [h.objs.size,l] [h.objs.size] k (fun i v=>vs.toArray[i]? = some v) (GD h.objs.size l vs))(st:GD h.objs.size l vs 0 (h.push (mw l)))(lt:∀ b∈[h.objs.size,l],b<(h.push (mw l)).objs.size)
  (fz:∀ i h',GD h.objs.size l vs i h'→∀ o,h'.get? h.objs.size=some o→cD o=false)
theorem jH{h:Heap}{l:Addr}{vs:List Value}{n k:Nat}(hh:A.handled=none)(e:h.get? l=some (bn vs n))(hk:vs.length=k): FD w A h l vs k:=by
 have lt:=Hr e
 subst hk
 refine⟨Walks.list (prog:=pw) (w:=w) (A:=A) hh h.objs.size l (Im lt) vs.toArray,⟨⟨_,Hk _ rfl,rfl,rfl⟩,⟨_,Ht _ e,rfl,n,rfl⟩⟩,fun b hb=>?_,fun i h' st o e=>?_⟩
 ·rw[HX]
  rcases bN hb with e | e <;> rw[e]
  ·exact HV _
  ·exact IW lt
 ·obtain⟨o',e',c',d'⟩:=st.1
  rw[←Ld (e'.symm.trans e)]
  unfold cD;rw[d']
theorem bf.getE{h:Heap}{l:List PV}{vs:List Value}{i:Nat}{v:Value}(z:bf h l vs [])(e:vs[i]? = some v): ∃ p,l[i]? = some p∧VR h p v []:=by
 have hi:i<l.length:=z.length▸(Ii.mp e).1
 obtain⟨u,H,hu,zu,hH⟩:=z.get (Hv hi)
 have hH0:H=[]:=List.eq_nil_iff_forall_not_mem.mpr fun b hb=>nomatch hH b hb
 exact⟨l[i],Hv hi,Ld (hu.symm.trans e)▸hH0▸zu⟩
theorem jI(hK:∀ q∈K,q.1<348)(hh:A.handled=none){elts:List Expr}{k0:Nat}{tpos:Pos}{tg:PV→List (Str×PV)→List (Str×PV)}{body:List Stmt}{items:List PV}{fl:Fl}{R:Result→Shared→Prop}(T:FQ gt K pins w A env (.Tuple elts k0 tpos) tg items){l:Addr}{vs:List Value}{n tk:Nat}{O:List Addr}{s0 s:Shared}{Fs:List (List Addr)}
  (e:s.heap.get? l=some (bn vs n)) (hk:vs.length=items.length) (hP:∀(i:Nat) (v:Value),vs[i]? = some v→∃ p,items[i]? = some p∧VR s.heap p v []) (hl:348≤l) (dl:l∉env.locals::env.cells.map (·.2)++Fs.flatten) (k:aG O s0 s) (I:bw gt K pins env locs Fs s) (o:∀ b∈ow env locs Fs,b∈O∨s0.heap.objs.size≤b)
  (hR:∀ s' f Fs',aG O s0 s'→DS s0.heap.objs.size O s'.heap fl f→bw gt K pins env locs' Fs' s'→(∀ b∈ow env locs' Fs',b∈O∨s0.heap.objs.size≤b)→R (.ok f) s') (loop:bP gt K pins w A env body tg items locs fl locs'):
  codeAny (model pw w) A (.forLoop (.Tuple elts k0 tpos) (.ref s.heap.objs.size) body [] env) R { s with heap:=s.heap.push (mw l),toks:=tk }:=by
 obtain⟨W,st,lt,fz⟩:=jH (w:=w) hh e hk
 have kp:=aj.push s.heap (mw l)
 have k1:aG [] s { s with heap:=s.heap.push (mw l),toks:=tk }:=⟨kp,fun _ _ e=>e,id,rfl⟩
 refine nj hK W T O s0 (fun b hb=>?_) k.heap.size fz (fun i v s Q st hQ=>?_) hR s (fun i v _ e=>hP i v ((HR).symm.trans e)) _ Fs locs st (k.trans k1.all) ⟨_,kp⟩ (I.step0 k1) o (fun b hb=>?_) lt loop
 ·rcases bN hb with e | e <;> rw[e]
  ·exact I.g.low
  ·exact hl
 ·cases v with
  |ref T=>exact wpAny_letOwnedTupleGo_listiter st.1 hQ
  |_=>exact Hi hQ
 ·rcases bN hb with e | e <;> rw[e]
  ·exact fun hm=>Ie _ (I.lt _ hm)
  ·exact dl
end
end
section
section
variable{gt:List (Str×Value)}{K:List (Addr×Obj)}{pins:List (Str×Addr)}{w:World}{A:Around}{env:Env}{locs locs1 locs2 locs':List (Str×PV)}{Fs:List (List Addr)}{s:Shared}
theorem bf.one1{h:Heap}{p:PV}{vs:List Value}{F:List Addr}(z:bf h [p] vs F): ∃ v,vs=[v]∧VR h p v F:=by
 cases z with
 |cons x y=>cases y;exact⟨_,rfl,by rw[Hj];exact x⟩
noncomputable def eK(n:Nat): List PV:=(Ix n).map fun i:Nat=>PV.int (i:Int)
theorem kl{x:Str}{px np pos cpos:Pos}{e:Expr}{n:Nat}{body:List Stmt}{fl:Fl}{f:Bool}(hK:∀ q∈K,q.1<348)(hh:A.handled=none)(hx:aJ env x)(hpx:x∉pins.map (·.1))(hn:n≤100000)
  (hk:env.kindOf (H5 "range")=some .globalImplicit) (ha:Ev gt K w A env locs e (.int (n:Int)) f) (he:Hg [e] env=(false,eval e env)::Hg [] env)
  (hl:bP gt K pins w A env body (fun p=>ab x p) (eK n) locs fl locs'):
  Ex gt K pins w A env (exec (.For (.Name x px) (.Call (.Name (H5 "range") np) [e] [] cpos) body [] pos) env) locs fl locs':=.mk fun s Fs I=>by
 refine M6 (pe (gt:=gt) (K:=K) (locs:=locs) (rs:=[.int n]) (f:=.type "range") (fa:=f&&true) I.g I.er (Ev.builtin hk r0 (by decide +kernel) (by kernel_rfl)) bd (bG.cons ha bG.nil he) (fun s2 vs F k2 g2 z2 _=>?_) he rfl) (by intro _;rfl)
 obtain⟨v,rfl,z⟩:=z2.one1
 cases z with
 |int _ t=>
  refine call_range_1 (wpAny_pyIter_range (IsRange.new ..) (small_one (by omega) (by omega) (by omega) (by omega)) ?_)
  obtain hsz:IP 0 (n:Int) 1=((n:Nat):Int):=by rw[rangeSize_one];split <;> omega
  obtain kp:∀(o1 o2:Obj) (tk:Nat),aG [] s2 { s2 with heap:=(s2.heap.push o1).push o2,toks:=tk }:=fun o1 o2 tk=>⟨(aj.push _ _).trans (aj.push _ _),fun _ _ e=>e,id,rfl⟩
  have k:=k2.trans (kp { cls:=.type "range",data:=.fields #[.int 0 s2.toks,.int n t,.int 1 (s2.toks+1)] } { cls:=.type "range_iterator",data:=.fields #[rawInt 0,rawInt (IP 0 n 1),rawInt 1] } (s2.toks+1+1))
  have hlen:(eK n).length=n:=by simp[eK]
  obtain hI0:s.heap.objs.size≤s2.heap.objs.size+1:=Iu k2.heap.size
  obtain hszp:∀ o:Obj,(s2.heap.push o).objs.size=s2.heap.objs.size+1:=fun o=>HX ..
  rw[hszp]
  obtain I1:=I.step0 k
  obtain W:=Walks.range (prog:=pw) (w:=w) (A:=A) hh (s2.heap.objs.size+1) 0 1 n
  rw[←hlen]at W
  refine nj (locs':=locs') (fl:=fl) (R:=_) hK W (wk hK hpx hx) (ow env locs Fs) s (fun b hb=>by rw[H7.mp hb];exact H6 g2.low (J0 _)) hI0 (fun i h st o e=>by rw[st]at e;cases e;rfl) (fun i v s Q _ hQ=>?_)
   (fun s' f' Fs' k' hf I' o'=>⟨k',hf,Fs',I',o'⟩) s (fun i v hi ⟨t,e⟩=>?_) _ Fs locs ?_ k.all ⟨_,k.heap⟩ I1 (fun b hb=>.inl hb) (fun b hb hm=>?_) (fun b hb=>?_) hl
  ·exact Hi hQ
  ·subst e
   rw[hlen]at hi
   exact⟨.int i,by simp[eK,hi],by rw[Mq,Int.mul_one];exact .int _ _⟩
  ·show IsRangeIter _ _ _ _ _
   rw[←hszp,hlen]
   obtain e1:(0+((0:Nat):Int)*1)=(0:Int):=by simp
   obtain e2:((n:Int) - ((0:Nat):Int))=IP 0 (n:Int) 1:=by rw[hsz];simp
   rw[e1,e2]
   exact Hk _ rfl
  ·rw[H7.mp hb]at hm
   exact absurd (I.lt _ hm) (Hz.mpr hI0)
  ·rw[H7.mp hb]
   show _<((s2.heap.push _).push _).objs.size
   rw[HX,hszp]
   exact HV _
noncomputable def cL(x:Str)(k:Nat): Str:=⟨#[x.cps.getD k 0]⟩
theorem Sub.strAt{x:Str}{k:Nat}(hk:k<x.length)(hx:x.length≤100000): Sub w A (.str x) (.int (k:Int)) (.str (cL x k)) true:=by
 refine Sub.str ?_ ?_
 ·obtain h1:¬ ((k:Int) < -(2 ^ 63)):=by omega
  obtain h2:¬ ((k:Int)≥2 ^ 63):=by omega
  simp only[h1,h2,decide_false,Bool.or_self]
 ·obtain h1:seqIndex? (k:Int) x.length=some k:=by
   unfold seqIndex?
   obtain h2:¬ ((k:Int)<0):=by omega
   simp[h2,hk]
  rw[h1]
  show x.cps[k]? = some (x.cps.getD k 0)
  have hk':k<x.cps.size:=hk
  simp[Array.getD,hk']
end
end
section
noncomputable def fS(x:Str): List Nat→Option (Int×Str×Str)
 |[]=>none
 |k::ks=>if(decide (bI (cL x k)<256)&&(dI (aC (aM x none (some (k:Int))))&&(dI (aC (aM x (some ((k:Int)+1)) none))&&true)))=true then some (bI (cL x k),aM x none (some (k:Int)),aM x (some ((k:Int)+1)) none)else fS x ks
noncomputable def eM(t:Str): Str:=aM t (some 1) (some (-1))
noncomputable def gr(t:Str): Option (Int×Str×Str):=fS (eM t) (Ix (eM t).length)
noncomputable def Ed(r:Int×Str×Str): PV:=.tup [.int r.1,.str r.2.1,.str r.2.2]
noncomputable abbrev B0:List Stmt:=aF (aO 74)
noncomputable abbrev Dy:List Stmt:=kO ((B0[1]?).getD (.Pass default))
noncomputable abbrev Dc(L:Addr): Env:=ah 307 BM L
section
variable{w:World}{A:Around}{L:Addr}
noncomputable abbrev t5(t x:Str): List (Str×PV):=[(H5 "formula",.str t),(H5 "inner",.str x)]
theorem wZ{t x:Str}: bQ (t5 t x):=ai (.inl rfl) (ai (.inl rfl) bX)
theorem lu(ro:Ro A 13)(t x:Str)(hi:x.length≤500)(r:Int×Str×Str): ∀ ks:List Nat,(∀ k∈ks,k<x.length)→fS x ks=some r→
  ∃ locs',bP aa (ac w) [] w A (Dc L) Dy (fun p=>ab (H5 "k") p) (ks.map fun i:Nat=>PV.int (i:Int)) (t5 t x) (.ret (Ed r)) locs'
 |[],_,h=>by cases h
 |k::ks,hks,h=>by
  have hk:=hks k (.head _)
  have hl1:=bM x none (some (k:Int))
  have hl2:=bM x (some ((k:Int)+1)) none
  have c1:=(x7 w A (aM x none (some (k:Int))) (by omega) (ro.le (by omega))).up (ag w)
  have c2:=(x7 w A (aM x (some ((k:Int)+1)) none) (by omega) (ro.le (by omega))).up (ag w)
  have c3:=(EB (w:=w) (A:=A) (bI (cL x k)) (ro.le (by omega))).up (ag w)
  simp only[fS]at h
  by_cases hc:(decide (bI (cL x k)<256)&&(dI (aC (aM x none (some (k:Int))))&&(dI (aC (aM x (some ((k:Int)+1)) none))&&true)))=true
  ·rw[if_pos hc]at h
   cases h
   refine⟨ab (H5 "kind") (.int (bI (cL x k))) (ab (H5 "k") (.int (k:Int)) (t5 t x)),.ret wZ ?_⟩
   show Ex _ _ _ _ _ _ _ (ab (H5 "k") (.int (k:Int)) (t5 t x)) (.ret (.tup [_,_,_])) _
   walk_at "asg"
   case hrest=>
   walk_at "ifTr"
   case hbody=>walk_at "ret"
  ·rw[if_neg hc]at h
   obtain⟨locs',ih⟩:=lu ro t x hi r ks (fun j hj=>hks j (.tail _ hj)) h
   refine⟨locs',.next (locs1:=t5 t x) wZ ?_ ih⟩
   show Ex _ _ _ _ _ _ _ (ab (H5 "k") (.int (k:Int)) (t5 t x)) _ _
   rw[M7]at hc
   walk_at "norm"
   case hrun=>
    walk_at "asg"
    case hrest=>
    walk_at "ifF"
    case hbody=>exact aq
    case hrest=>exact aq
   walk_at "looks"
theorem Br(w:World)(A:Around)(t:Str)(r:Int×Str×Str)(ht:t.length≤500)(h:gr t=some r)(ro:Ro A 14): au aa (ac w) w A (.ref 307) [.str t] (Ed r) true:=
 bE (Dk.up (ag w)) ro rfl (dg rfl) fun L ro'=>by
  have hi:(eM t).length≤500:=H6 (bM _ _ _) ht
  obtain⟨locs',hl⟩:=lu (w:=w) (L:=L) ro' t (eM t) hi r (Ix (eM t).length) (fun k hk=>JG.mp hk) h
  refine⟨locs',?_⟩
  show Ex _ _ _ _ _ _ _ ([H5 "formula"].zip [PV.str t]) _ _
  refine af (az (p:=.str (eM t)) (ae _) (by simp) ?_ (Bind.same rfl) (.inl (by kernel_rfl)) (by rfl)) ?_
  ·unfold eM;walk_at "ev"
  refine aX (oT (locs2:=t5 t (eM t)) (kl (f:=true) (n:=(eM t).length) (ae _) ro'.1 (.inl (by kernel_rfl)) (by simp) (by omega) (by kernel_rfl) ?_ rfl hl) (by kernel_rfl) ?_) (by nofun)
  ·walk_at "ev"
  ·walk_at "looks"
end
end
section
section
variable{gt:List (Str×Value)}{K:List (Addr×Obj)}{w:World}{A:Around}{env:Env}{locs:List (Str×PV)}
inductive B9(w:World)(A:Around)(items:List PV)(s:Shared)(it:Value)(s2:Shared): Prop
 |mk(k:aG [] s s2)(I0:Addr)(fp:List Addr)(St:Nat→Heap→Prop)(P:Nat→Value→Prop)(e:it=.ref I0)(W:Walks pw w A I0 fp [I0] items.length P St)(hst:St 0 s2.heap)
  (hfp:∀ b∈fp,b<s2.heap.objs.size) (hI0:s.heap.objs.size≤I0) (hnf:∀ i h,St i h→∀ o,h.get? I0=some o→cD o=false) (hP:∀ i v,i<items.length→P i v→∃ p,items[i]? = some p∧VR s2.heap p v [])
structure E7(gt:List (Str×Value))(K:List (Addr×Obj))(w:World)(A:Around)(env:Env)(locs:List (Str×PV))(iter:Expr)(items:List PV): Prop where
 run:∀ s Fs,G gt K s.heap→dO s.heap env locs Fs→wpAny (model pw w) A (eval iter env) (fun xv s1=>wpAny (model pw w) A (pyIter xv) (B9 w A items s) (fun _ _=>False) s1) (fun _ _=>False) s
theorem uG{np cpos:Pos}{e:Expr}{n:Nat}{f:Bool}(hh:A.handled=none)(hn:n≤100000)(hk:env.kindOf (H5 "range")=some .globalImplicit)(ha:Ev gt K w A env locs e (.int (n:Int)) f)(he:Hg [e] env=(false,eval e env)::Hg [] env):
  E7 gt K w A env locs (.Call (.Name (H5 "range") np) [e] [] cpos) (eK n):=.mk fun s Fs g z=>by
 refine pe (gt:=gt) (K:=K) (locs:=locs) (rs:=[.int n]) (f:=.type "range") (fa:=f&&true) g z (Ev.builtin hk r0 (by decide +kernel) (by kernel_rfl)) bd (bG.cons ha bG.nil he) (fun s2 vs F k2 g2 z2 _=>?_) he rfl
 obtain⟨v,rfl,zv⟩:=z2.one1
 cases zv with
 |int _ t=>
  refine call_range_1 (wpAny_pyIter_range (IsRange.new ..) (small_one (by omega) (by omega) (by omega) (by omega)) ?_)
  obtain hsz:IP 0 (n:Int) 1=((n:Nat):Int):=by rw[rangeSize_one];split <;> omega
  obtain kp:∀(o1 o2:Obj) (tk:Nat),aG [] s2 { s2 with heap:=(s2.heap.push o1).push o2,toks:=tk }:=fun o1 o2 tk=>⟨(aj.push _ _).trans (aj.push _ _),fun _ _ e=>e,id,rfl⟩
  obtain k:=k2.trans (kp { cls:=.type "range",data:=.fields #[.int 0 s2.toks,.int n t,.int 1 (s2.toks+1)] } { cls:=.type "range_iterator",data:=.fields #[rawInt 0,rawInt (IP 0 n 1),rawInt 1] } (s2.toks+1+1))
  have hlen:(eK n).length=n:=by simp[eK]
  have hszp:∀ o:Obj,(s2.heap.push o).objs.size=s2.heap.objs.size+1:=fun o=>HX ..
  rw[hszp]
  obtain W:=Walks.range (prog:=pw) (w:=w) (A:=A) hh (s2.heap.objs.size+1) 0 1 n
  rw[←hlen]at W
  refine⟨k,_,_,_,_,rfl,W,?_,fun b hb=>?_,Iu k2.heap.size,fun i h st o e=>by rw[st]at e;cases e;rfl,fun i v hi ⟨t,e⟩=>?_⟩
  ·show IsRangeIter _ _ _ _ _
   rw[←hszp,hlen]
   obtain e1:(0+((0:Nat):Int)*1)=(0:Int):=by simp
   obtain e2:((n:Int) - ((0:Nat):Int))=IP 0 (n:Int) 1:=by rw[hsz];simp
   rw[e1,e2]
   exact Hk _ rfl
  ·rw[H7.mp hb]
   show _<((s2.heap.push _).push _).objs.size
   rw[HX,hszp]
   exact HV _
  ·subst e
   rw[hlen]at hi
   exact⟨.int i,by simp[eK,hi],by rw[Mq,Int.mul_one];exact .int _ _⟩
theorem BZ(hh:A.handled=none)(I0:Addr)(x:Str)(t:Tok): Walks pw w A I0 [I0] [I0] x.cps.size (SignAt x) (fun i h=>h.IsStrIter I0 (La x) x t i):=by
 unfold La
 split
 ·exact Walks.strAscii hh I0 x t
 ·exact Walks.strWide hh I0 x t
noncomputable def cj(x:Str): List PV:=x.cps.toList.map fun c=>PV.str ⟨#[c]⟩
theorem zN{e:Expr}{x:Str}{f:Bool}(hh:A.handled=none)(ha:Ev gt K w A env locs e (.str x) f): E7 gt K w A env locs e (cj x):=.mk fun s Fs g z=>
 Pw.andThen (ha.run s Fs g z) fun v s1 hh=>by
  obtain⟨k1,F,zv,_⟩:=hh
  cases zv with
  |str _ t=>
   refine wpAny_pyIter_strU ?_
   obtain hlen:(cj x).length=x.cps.size:=by simp[cj]
   obtain W:=BZ (w:=w) (A:=A) hh s1.heap.objs.size x t
   rw[←hlen]at W
   refine⟨k1.trans (bS _ _),_,_,_,_,rfl,W,⟨_,Hk _ rfl,rfl,rfl⟩,fun b hb=>?_,k1.heap.size,fun i h ⟨o',e',c',d'⟩ o e=>?_,fun i v hi ⟨c,u,hc,e⟩=>?_⟩
   ·rw[H7.mp hb]
    show _<(s1.heap.push _).objs.size
    rw[HX];exact HV _
   ·rw[e']at e;cases e
    unfold cD;rw[d']
   ·subst e
    exact⟨.str ⟨#[c]⟩,by simp[cj,hc],.str _ _⟩
theorem wA{e:Expr}{l:List PV}{f:Bool}(hh:A.handled=none)(hf:PV.flat.go l=true)(ha:Ev gt K w A env locs e (.lst l) f): E7 gt K w A env locs e l:=.mk fun s Fs g z=>
 Pw.andThen (ha.run s Fs g z) fun v s1 hh=>by
  obtain⟨k1,F,zv,_⟩:=hh
  cases zv with
  | @lst _ a vs n F0 e1 y nd=>
   obtain rfl:=y.flat hf
   obtain⟨W,st,lt,fz⟩:=jH (w:=w) hh e1 y.length
   refine K4 ⟨_,e1,rfl,n,rfl⟩ ?_
   have kp:=aj.push s1.heap (mw a)
   refine⟨k1.trans (bS _ _),_,_,_,_,rfl,W,st,lt,k1.heap.size,fz,fun i v hi e=>?_⟩
   exact(y.kept0 kp).getE ((HR).symm.trans e)
end
end
section
section
variable{gt:List (Str×Value)}{K:List (Addr×Obj)}{w:World}{A:Around}{env:Env}{locs:List (Str×PV)}
noncomputable def zg(env:Env)(scope:Scope)(cl:List (Str×Addr))(locs:List (Str×PV)): List (Str×PV)→Prop
 |[]=>True
 | (y,p)::r=>(locs.lookup y=some p∧env.kindOf y=some .cell∧((relabel scope env).names.lookup y=some .cell∨(relabel scope env).names.lookup y=some .free)∧cl.lookup y=env.cells.lookup y)∧zg env scope cl locs r
theorem vA{scope:Scope}{cl:List (Str×Addr)}{Fs:List (List Addr)}{s:Shared}(z:dO s.heap env locs Fs): ∀{caps:List (Str×PV)},zg env scope cl locs caps→∃ Fs',∀ C m h',aj [] s.heap h'→bO h' (JH scope cl C env) m caps Fs':=by
 intro caps
 induction caps with
 |nil=>
  rintro _
  exact⟨[],fun _ _ _ _=>trivial⟩
 |cons e9 r ih=>
  obtain⟨y,p⟩:=e9
  rintro⟨⟨h1,h2,h3,h4⟩,hr⟩
  obtain⟨m0,n,V⟩:=z.vars
  obtain⟨v,F,_,a,zv⟩:=V.find h1
  obtain⟨Fs',ih⟩:=ih hr
  rcases a with⟨k,_⟩ | ⟨_,c,ec,ic⟩
  ·rw[h2]at k;cases k
  ·exact⟨F::Fs',fun C m h' k=>⟨⟨v,.inr ⟨h3,c,h4.trans ec,bq k ic (by simp)⟩,zv.kept0 k⟩,ih C m h' k⟩⟩
structure i8(gt:List (Str×Value))(K:List (Addr×Obj))(w:World)(A:Around)(env:Env)(locs:List (Str×PV))(ifs:List Expr)(b:Bool): Prop where
 run:∀ s Fs,G gt K s.heap→dO s.heap env locs Fs→wpAny (model pw w) A (forIn ifs true fun c r=>if r=true then do let ok ←isTrue c env (eval c env);pure (Jk ok)else pure (Jk r)) (fun ok s'=>ok=b∧aG [] s s') (fun _ _=>False) s
theorem mT:i8 gt K w A env locs [] true:=.mk fun s Fs g z=>by
 skip
 exact Hi ⟨rfl,.refl _ _⟩
theorem mS{t:Expr}{b:Bool}(h:Tr gt K w A env locs t b): i8 gt K w A env locs [t] b:=.mk fun s Fs g z=>by
 rw[JY]
 skip
 refine Hc (Hc (Pw.andThen (h.run s Fs g z) fun b' s' ⟨e,k⟩=>Hi ?_))
 show wpAny _ _ (forIn [] b' _) _ _ _
 skip
 exact Hi ⟨e,k⟩
inductive FF(items:List PV)(b:PV→Bool)(f:PV→PV)(St:Nat→Heap→Prop)(s s3:Shared)(D C:Addr)(k:Nat)(s':Shared): Prop
 |mk(i:Nat)(vs:List Value)(nD:Nat)(m:Str→Option Value)(hi:i≤items.length)(hk:k=items.length - i)(hst:St i s'.heap)(hD:s'.heap.get? D=some (bn vs nD))(hys:bf s'.heap (((items.take i).filter b).map f) vs [])(hn:s'.heap.Ns C m)(ks:aG [] s s')(kB:∃ Wk,aj Wk s3.heap s'.heap)
theorem sM{elt iter:Expr}{x:Str}{px:Pos}{ifs:List Expr}{scope:Scope}{pos:Pos}{it acc:Value}{env:Env}{R:Result→Shared→Prop}{s:Shared}(J:Nat→Shared→Prop)
  (turn:∀ k s1,J k s1→∀ Q:Option Value→Shared→Prop,(∀ s2,R (.ok .next) s2→Q none s2)→(∀ v s2,wpAny (model pw w) A (assign (.Name x px) env v) (fun _ s₂=>
    wpAny (model pw w) A (forIn ifs true fun c r=>if r=true then do let ok ←isTrue c env (eval c env);pure (Jk ok)else pure (Jk r)) (fun ok s₃=>
     (ok=true→wpAny (model pw w) A (eval elt env) (fun x s₄=>wpAny (model pw w) A (call (.builtin "list.append") [acc,x]) (fun _ s₅=>∃ m,m<k∧J m s₅) (fun _ _=>False) s₄) (fun _ _=>False) s₃)∧(ok=false→∃ m,m<k∧J m s₃)) (fun _ _=>False) s₂) (fun _ _=>False) s2→Q (some v) s2)→
   wpAny (model pw w) A (pyNext it) Q (fun _ _=>False) s1) (n:Nat) (h:J n s):codeAny (model pw w) A (.compLoop (.ListComp elt [⟨.Name x px,iter,ifs,0⟩] scope pos) 0 it acc env) R s:=by
 refine codeAny_compLoop_tests J (fun k s1 h=>?_) n h
 refine Hf (turn k s1 h _ ?_ ?_) (fun _ _ h=>h) fun _ _ e=>e.elim
 ·exact fun s2 h=>h
 ·refine fun v s2 h=>Hf h (fun _ _ h=>Hf h (fun ok _ h=>?_) fun _ _ e=>e.elim) fun _ _ e=>e.elim
  cases ok with
  |true=>exact Hf (h.1 rfl) (fun _ _ h=>Hf h (fun _ _ h=>h) fun _ _ e=>e.elim) fun _ _ e=>e.elim
  |false=>exact h.2 rfl
theorem pM{items:List PV}{i:Nat}{p:PV}(h:items[i]? = some p): items.take (i+1)=items.take i++[p]:=by rw[List.take_add_one,h];rfl
theorem vx{elt iter:Expr}{x:Str}{px:Pos}{ifs:List Expr}{scope:Scope}{cl:List (Str×Addr)}{pos:Pos}{items:List PV}{caps:List (Str×PV)}{b:PV→Bool}{f:PV→PV}{R:Result→Shared→Prop}
  (hlen:items.length≤100000) (hkind:scope.kind=.function) (hx:scope.names.lookup x=some .local)
  (htest:∀ C,∀ p∈items,i8 gt K w A (JH scope cl C env) ((x,p)::caps) ifs (b p))
  (helt:∀ C,∀ p∈items,b p=true→Ev gt K w A (JH scope cl C env) ((x,p)::caps) elt (f p) true∧(f p).flat=true)
  {s s3:Shared} {Fs Fc:List (List Addr)} (g:G gt K s.heap) (z:dO s.heap env locs Fs) (hc:∀ C m h',aj [] s.heap h'→bO h' (JH scope cl C env) m caps Fc) {D C:Addr} (hDC:D≠C) {I0:Addr} {fp:List Addr} {St:Nat→Heap→Prop} {P:Nat→Value→Prop} (W:Walks pw w A I0 fp [I0] items.length P St)
  (hDf:D∉fp) (hCf:C∉fp) (hD0:s.heap.objs.size≤D) (hC0:s.heap.objs.size≤C) (hI0:s.heap.objs.size≤I0)
  (hnf:∀ i h,St i h→∀ o,h.get? I0=some o→cD o=false) (hP:∀ i v,i<items.length→P i v→∃ p,items[i]? = some p∧VR s3.heap p v [])
  (k3:aG [] s s3) (hst:St 0 s3.heap) (hacc:s3.heap.get? D=some (bn [] 0)) {m:Str→Option Value} (hns:s3.heap.Ns C m)
  (hRR:∀ m s',s'.heap.Ns C m→aG [] s s'→VR s'.heap (.lst ((items.filter b).map f)) (.ref D) [D]→R (.ok .next) s'):
  codeAny (model pw w) A (.compLoop (.ListComp elt [⟨.Name x px,iter,ifs,0⟩] scope pos) 0 (.ref I0) (.ref D) (JH scope cl C env)) R s3:=by
 refine sM (FF items b f St s s3 D C) (fun k s' h Q hN hS=>?_) items.length ⟨0,[],0,m,HT _,rfl,hst,hacc,.nil,hns,k3,⟨[],.refl _ _⟩⟩
 obtain⟨i,vs,nD,m',hi,hk,hst',hD,hys,hn',ks,kB⟩:=h
 have hIf:I0∈fp:=W.sub _ (.head _)
 have one:∀{b:Addr} {P:Addr→Prop} {a:Addr},P a→b∈[a]→P b:=fun p hb=>H7.mp hb▸p
 have hID:D∉[I0]:=fun hm=>hDf (H7.mp hm▸hIf)
 have hIC:C∉[I0]:=fun hm=>hCf (H7.mp hm▸hIf)
 have moved:∀(t1:Shared),s'.heap.objs.size≤t1.heap.objs.size→(∀ b o,b∉[I0]→s'.heap.get? b=some o→t1.heap.get? b=some o)→t1.gens=s'.gens→t1.os=s'.os→aj [I0] s'.heap t1.heap∧aG [] s t1:=by
  intro t1 hz hk eg eo
  have kI:aj [I0] s'.heap t1.heap:=⟨hz,fun b o e q=>q.elim (fun q=>hk b o q e) fun q=>hk b o (fun hm=>J9 ((hnf i _ hst' o (H7.mp hm▸e)).symm.trans q)) e⟩
  exact⟨kI,ks.comp (O':=[I0]) ⟨kI,fun j g e=>eg▸e,fun b=>(congrArg AllBare eg).mpr b,eo⟩ fun b=>one (P:=fun b=>b∈[]∨_≤b) (.inr hI0)⟩
 rcases KN i items.length with hlt | hge
 ·refine Hf (cA (W.item i s' (fun r t=>∃ v,r=some v∧P i v∧St (i+1) t.heap∧(∀ b o,b∉[I0]→s'.heap.get? b=some o→t.heap.get? b=some o)∧t.gens=s'.gens∧t.os=s'.os) (fun _ _=>False) hlt hst' fun v h' tk hPv hst'' hk=>⟨v,rfl,hPv,hst'',hk,rfl,rfl⟩)) (fun r t1 hh=>?_) fun _ _ x=>x.1.elim
  obtain⟨hh,hz⟩:=hh
  obtain⟨v,er,hPv,hst1,hk1,eg,eo⟩:=hh
  obtain⟨kI,kt1⟩:=moved t1 hz hk1 eg eo
  obtain⟨Wk,kB⟩:=kB
  obtain⟨p,hp,zp⟩:=hP i v hlt hPv
  have hpm:p∈items:=HH hp
  rw[er]
  refine hS v t1 (assign_Name (wpAny_storeName_local (lookup_relabel_local hx) (bc kI hn' hIC) (fun h2 hn2 hs2=>?_) (by simp[JH,relabel,hkind])))
  obtain⟨oC,esC,epC,eoC,edC,_⟩:=bc kI hn' hIC
  have kC:aj [C] t1.heap h2:=aj.same eoC (by unfold cD;rw[edC]) hs2
  have kt2:aG [] s { t1 with heap:=h2,toks:=t1.toks+1 }:=kt1.comp (O':=[C]) ⟨kC,fun _ _ e=>e,id,rfl⟩ fun b=>one (P:=fun b=>b∈[]∨_≤b) (.inr hC0)
  have zp2:VR h2 p v []:=((zp.kept kB fun b hb=>(nomatch hb)).kept kI fun b hb=>(nomatch hb)).kept kC fun b hb=>(nomatch hb)
  have er2:∀ t:Shared,aG [] { t1 with heap:=h2,toks:=t1.toks+1 } t→dO t.heap (JH scope cl C env) ((x,p)::caps) ([]::Fc):=fun t kt=>
   ⟨hkind,z.glob,z.blt,_,bc kt.heap hn2 (fun h=>nomatch h),⟨v,.inl ⟨lookup_relabel_local hx,if_pos rfl⟩,zp2.kept0 kt.heap⟩,hc _ _ _ (kt2.trans kt).heap⟩
  have hst2:St (i+1) h2:=W.frame _ _ _ hst1 fun b hb o e=>kC.keep _ _ e (.inl fun hm=>hCf (H7.mp hm▸hb))
  have hD2:h2.get? D=some (bn vs nD):=kC.keep _ _ (kI.keep _ _ hD (.inl hID)) (.inl fun hm=>hDC (H7.mp hm))
  have hys2:bf h2 (((items.take i).filter b).map f) vs []:=(hys.kept kI fun b hb=>(nomatch hb)).kept kC fun b hb=>(nomatch hb)
  have lt:items.length - (i+1)<k:=hk▸Nat.sub_succ_lt_self _ _ hlt
  refine Hf ((htest C p hpm).run { t1 with heap:=h2,toks:=t1.toks+1 } _ (g.kept0 kt2.heap) (er2 _ (.refl _ _))) (fun ok t3 h3=>?_) fun _ _ (e:False)=>e.elim
  obtain⟨eok,k3⟩:=h3
  have k03:=kt2.trans k3
  have kB3:aj (Wk++([I0]++[C])) s3.heap t3.heap:=(((kB.mono fun b hb=>H8 _ hb).trans (kI.mono fun b hb=>Hb _ (H8 _ hb))).trans (kC.mono fun b hb=>Hb _ (Hb _ hb))).trans k3.heap.all
  rw[eok]
  refine⟨fun hb=>?_,fun hb=>?_⟩
  ·obtain⟨hev,hfl⟩:=helt C p hpm hb
   refine Hf (hev.run t3 _ (g.kept0 k03.heap) (er2 _ k3)) (fun u t4 hh=>?_) fun _ _ e=>e.elim
   obtain⟨k4,Fu,zu,_⟩:=hh
   obtain rfl:=zu.flat hfl
   have k34:=k3.trans k4
   have hD4:=k34.heap.get hD2
   have hsz:vs.toArray.size≤Ip:=H6 (HM hys.length) (H6 (HM (Hl _)) (H6 (K0 _ _) (H6 (List.length_take_le' _ _) (H6 hlen (H6 (by decide) aU)))))
   refine JE ⟨nD,hD4⟩ (fun h5 hh hsb5=>?_) hsz
   obtain⟨n5,hD5⟩:=hh
   have kD:aj [D] t4.heap h5:=aj.same hD4 rfl hsb5
   refine⟨items.length - (i+1),lt,i+1,vs++[u],n5,_,hlt,rfl,W.frame _ _ _ hst2 fun b hbf o e=>kD.keep _ _ (k34.heap.get e) (.inl fun hm=>hDf (H7.mp hm▸hbf)),by rw[hD5];simp[bn],?_,bc kD (bc k34.heap hn2 (fun h=>nomatch h)) (fun hm=>hDC (H7.mp hm).symm),?_,_,((kB3.mono fun b hb=>H8 _ hb).trans k4.heap.all).trans (kD.mono fun b hb=>Hb (Wk++([I0]++[C])) hb)⟩
   ·rw[pM hp,Ja,HW,show[p].filter b=[p]from M8 hb]
    exact((hys2.kept0 k34.heap).kept kD fun b hb=>(nomatch hb)).app (bf.cons (F:=[]) (zu.kept kD fun b hb=>(nomatch hb)) bf.nil)
   ·exact(kt2.trans k34).comp (O':=[D]) ⟨kD,fun _ _ e=>e,id,rfl⟩ fun b=>one (P:=fun b=>b∈[]∨_≤b) (.inr hD0)
  ·refine⟨items.length - (i+1),lt,i+1,vs,nD,_,hlt,rfl,W.frame _ _ _ hst2 fun b _ o e=>k3.heap.get e,k3.heap.get hD2,?_,bc k3.heap hn2 (fun h=>nomatch h),k03,_,kB3⟩
   rw[pM hp,Ja,HW,show[p].filter b=[]from M9 (M7 _▸hb),N2,Hj]
   exact hys2.kept0 k3.heap
 ·have hil:i=items.length:=Nat.le_antisymm hi hge
  refine Hf (cA (W.done s' (fun r t=>r=none∧(∀ b o,b∉[I0]→s'.heap.get? b=some o→t.heap.get? b=some o)∧t.gens=s'.gens∧t.os=s'.os) (fun _ _=>False) (hil▸hst') fun h' tk hk=>⟨rfl,hk,rfl,rfl⟩)) (fun r t1 hh=>?_) fun _ _ x=>x.1.elim
  obtain⟨hh,hz⟩:=hh
  obtain⟨er,hk1,eg,eo⟩:=hh
  obtain⟨kI,kt1⟩:=moved t1 hz hk1 eg eo
  rw[hil,List.take_length]at hys
  exact er▸hN t1 (hRR _ _ (bc kI hn' hIC) kt1 (.lst (kI.keep _ _ hD (.inl hID)) (hys.kept kI fun b hb=>(nomatch hb)) (IQ _ _)))
theorem nN{elt iter:Expr}{x:Str}{px:Pos}{ifs:List Expr}{scope:Scope}{cl:List (Str×Addr)}{pos:Pos}{items:List PV}{caps:List (Str×PV)}{b:PV→Bool}{f:PV→PV}{RR:Value→Addr→Result→Shared→Prop}
  (hlen:items.length≤100000) (hcell:∀ y∈scope.names,y.2≠.cell) (hkind:scope.kind=.function) (hx:scope.names.lookup x=some .local) (hcaps:zg env scope cl locs caps)
  (htest:∀ C,∀ p∈items,i8 gt K w A (JH scope cl C env) ((x,p)::caps) ifs (b p))
  (helt:∀ C,∀ p∈items,b p=true→Ev gt K w A (JH scope cl C env) ((x,p)::caps) elt (f p) true∧(f p).flat=true)
  {s s2:Shared} {Fs:List (List Addr)} (g:G gt K s.heap) (z:dO s.heap env locs Fs) (k2:aG [] s s2) {I0:Addr} {fp:List Addr} {St:Nat→Heap→Prop} {P:Nat→Value→Prop} (W:Walks pw w A I0 fp [I0] items.length P St) (hst:St 0 s2.heap) (hfp:∀ b∈fp,b<s2.heap.objs.size) (hI0:s.heap.objs.size≤I0)
  (hnf:∀ i h,St i h→∀ o,h.get? I0=some o→cD o=false) (hP:∀ i v,i<items.length→P i v→∃ p,items[i]? = some p∧VR s2.heap p v [])
  (hRR:∀ D C m s',D≠C→s'.heap.Ns C m→s.heap.objs.size≤D→s.heap.objs.size≤C→aG [] s s'→VR s'.heap (.lst ((items.filter b).map f)) (.ref D) [D]→RR (.ref D) C (.ok .next) s'):
  wpAny (model pw w) A (newList []) (fun acc s₃=>wpAny (model pw w) A (newFunctionEnv scope env.globals cl [] env.qual none .none (some env)) (fun cenv s₄=>
   codeAny (model pw w) A (.compStart (.ListComp elt [⟨.Name x px,iter,ifs,0⟩] scope pos) 0 (.ref I0) acc { cenv with scope:=relabel scope env }) (RR acc cenv.locals) s₄) (fun _ _=>False) s₃) (fun _ _=>False) s2:=by
 obtain⟨Fc,hc⟩:=vA (scope:=scope) (cl:=cl) z hcaps
 refine Jv (Lb hcell (fun y hy=>nomatch hy) (fun h₁ hns₁ hsb₁=>?_) hkind)
 dsimp only at hns₁ hsb₁ ⊢
 generalize hH2:s2.heap.push { cls:=.type "list",dict:=none,data:=.seq ([]:List Value).toArray }=H2 at hns₁ hsb₁ ⊢
 have hC:H2.objs.size=s2.heap.objs.size+1:=by rw[←hH2,HX]
 have hDC:s2.heap.objs.size≠H2.objs.size:=hC▸Im (HV _)
 have old:∀ b o,s2.heap.get? b=some o→h₁.get? b=some o:=fun b o e=>hsb₁.extBut b o (hC▸Im (IW (Hr e))) (Ht _ (hH2▸Ht _ e))
 have kp1:aj [] s2.heap h₁:=⟨by rw[hsb₁.1,HX,hC];exact HQ _ 2,fun b o e _=>old b o e⟩
 have hst₁:St 0 h₁:=W.frame _ _ _ hst fun b _ o e=>old b o e
 have hDs:s.heap.objs.size≤s2.heap.objs.size:=k2.heap.size
 have loop:=vx (px:=px) (iter:=iter) (pos:=pos) (s3:={ s2 with heap:=h₁,toks:=s2.toks+([]:List (Str×Value)).length }) (R:=RR (.ref s2.heap.objs.size) H2.objs.size) hlen hkind hx htest helt g z hc hDC W
  (fun hm=>Ie _ (hfp _ hm)) (fun hm=>Ie _ (LP (hC▸hfp _ hm))) hDs (hC▸Iu hDs) hI0 hnf (fun i v hi h=>by
   obtain⟨p,hp,zp⟩:=hP i v hi h
   exact⟨p,hp,zp.kept0 kp1⟩) (k2.trans ⟨kp1,fun _ _ e=>e,id,rfl⟩) hst₁ (hsb₁.extBut _ _ hDC (Ht _ (hH2▸Hk _ rfl))) hns₁ fun m s' hn ks zr=>hRR _ _ m s' hDC hn hDs (hC▸Iu hDs) ks zr
 exact codeAny_compStart_list loop (W.self 0 _ _ _ hst₁ loop)
theorem uf{elt iter:Expr}{x:Str}{px:Pos}{ifs:List Expr}{scope:Scope}{cl:List (Str×Addr)}{pos:Pos}{items:List PV}{caps:List (Str×PV)}{b:PV→Bool}{f:PV→PV}
  (hsrc:E7 gt K w A env locs iter items) (hlen:items.length≤100000) (hclos:closureFor scope env=pure cl) (hcell:∀ y∈scope.names,y.2≠.cell) (hkind:scope.kind=.function)
  (hnames:∀ y∈scope.names,y.2=.local→scope.names.lookup y.1=some .local) (hx:scope.names.lookup x=some .local) (hcaps:zg env scope cl locs caps)
  (htest:∀ C,∀ p∈items,i8 gt K w A (JH scope cl C env) ((x,p)::caps) ifs (b p))
  (helt:∀ C,∀ p∈items,b p=true→Ev gt K w A (JH scope cl C env) ((x,p)::caps) elt (f p) true∧(f p).flat=true)
  (hs:∀ x,Jt iter env x=pure x):
  Ev gt K w A env locs (.ListComp elt [⟨.Name x px,iter,ifs,0⟩] scope pos) (.lst ((items.filter b).map f)) true:=.mk fun s Fs g z=>by
 skip
 refine wpAny_comprehension_free (use:=none) rfl hs hclos hkind hnames (Hf (hsrc.run s Fs g z) (fun xv s1 h1=>Hf h1 (fun it s2 h2=>?_) fun _ _ e=>e.elim) fun _ _ e=>e.elim)
 obtain⟨k2,I0,fp,St,P,rfl,W,hst,hfp,hI0,hnf,hP⟩:=h2
 refine nN (RR:=fun acc C=>compPost (model pw w) A (fun _ _=>False) none _ acc C) hlen hcell hkind hx hcaps htest helt g z k2 W hst hfp hI0 hnf hP fun D C m s' hDC hn hD hC ks zD=>?_
 refine⟨m,hn,fun h6 hs6=>?_⟩
 obtain⟨oC,esC,epC,eoC,edC,_⟩:=id hn
 obtain kC:aj [C] s'.heap h6:=aj.same eoC (by unfold cD;rw[edC]) hs6
 exact⟨ks.comp (O':=[C]) ⟨kC,fun _ _ e=>e,id,rfl⟩ fun b hb=>.inr (by rw[H7.mp hb];exact hC),[D],zD.kept kC (fun b hb hm=>hDC (by rw[←H7.mp hb,←H7.mp hm])),fun _ b hb=>by rw[H7.mp hb];exact hD⟩
variable{pins:List (Str×Addr)}
theorem ub{elt iter:Expr}{x y:Str}{px py:Pos}{ifs:List Expr}{scope:Scope}{cl:List (Str×Addr)}{pos spos:Pos}{items:List PV}{caps:List (Str×PV)}{b:PV→Bool}{f:PV→PV}(hK:∀ q∈K,q.1<348)(hpin:y∉pins.map (·.1))(hy:aJ env y)
  (hsw:JD (.ListComp elt [⟨.Name x px,iter,ifs,0⟩] scope pos) (some (.Name y py)) spos.line env=pure true)
  (hsrc:E7 gt K w A env locs iter items) (hlen:items.length≤100000) (hclos:closureFor scope env=pure cl) (hcell:∀ y∈scope.names,y.2≠.cell) (hkind:scope.kind=.function)
  (hnames:∀ y∈scope.names,y.2=.local→scope.names.lookup y.1=some .local) (hx:scope.names.lookup x=some .local) (hcaps:zg env scope cl locs caps)
  (htest:∀ C,∀ p∈items,i8 gt K w A (JH scope cl C env) ((x,p)::caps) ifs (b p))
  (helt:∀ C,∀ p∈items,b p=true→Ev gt K w A (JH scope cl C env) ((x,p)::caps) elt (f p) true∧(f p).flat=true)
  (hs:∀ x,Jt iter env x=pure x):
  Ex gt K pins w A env (exec (.Assign [.Name y py] (.ListComp elt [⟨.Name x px,iter,ifs,0⟩] scope pos) spos) env) locs .next (ab y (.own ((items.filter b).map f)) locs):=.mk fun s Fs I=>by
 rw[exec_Assign_Name_used _ _ _ _ hsw]
 refine Hc (Km (Hc ?_))
 show wpAny _ A (do let _ ←comprehension (.ListComp elt [⟨.Name x px,iter,ifs,0⟩] scope pos) scope env _ (newList []) false (eval iter env) (some (assign (.Name y py) env))) _ _ s
 refine Hc (Hf (wpAny_comprehension_free (use:=some (assign (.Name y py) env)) (Q:=fun _ s'=>gm gt K pins env locs .next (ab y (.own ((items.filter b).map f)) locs) s Fs Flow.next s') rfl hs hclos hkind hnames
  (Hf (hsrc.run s Fs I.g I.er) (fun xv s₁ h₁=>Hf h₁ (fun it s₂ h₂=>?_) fun _ _ e=>e.elim) fun _ _ e=>e.elim)) (fun _ s' hq=>Hi (Hi hq)) fun _ _ e=>e)
 obtain⟨k2,I0,fp,St,P,rfl,W,hst,hfp,hI0,hnf,hP⟩:=h₂
 refine nN (RR:=fun acc C=>compPost (model pw w) A (fun _ _=>False) (some (assign (.Name y py) env)) _ acc C) hlen hcell hkind hx hcaps htest helt I.g I.er k2 W hst hfp hI0 hnf hP fun D C m s' hDC hn hD hC ks zD=>?_
 show wpAny _ A (assign (.Name y py) env (.ref D)) _ _ _
 obtain I1:=I.step0 ks
 obtain zO:VR s'.heap (.own ((items.filter b).map f)) (.ref D) [D]:=(Bind.own (l:=(items.filter b).map f)).vr zD
 refine assign_Name (Hf (fN (n:=s.heap.objs.size) hK hpin I1 hy zO zO.nodup (fun c hc hm=>absurd (I.lt _ hm) (Hz.mpr (by rw[H7.mp hc];exact hD))) (fun c hc=>by rw[H7.mp hc];exact hD) I.g.low) (fun _ s3 h3=>?_) fun _ _ e=>e.elim)
 obtain⟨Fs3,I3,k3,o3,f3⟩:=h3
 have hCn:C∉env.locals::env.cells.map (·.2):=fun hm=>absurd (I.lt C (H8 _ hm)) (Hz.mpr hC)
 refine⟨m,bc k3.heap hn hCn,fun h6 hs6=>?_⟩
 obtain⟨oC,esC,epC,eoC,edC,_⟩:=bc k3.heap hn hCn
 have kC:aj [C] s3.heap h6:=aj.same eoC (by unfold cD;rw[edC]) hs6
 obtain I6:=I3.movedP (s':={ s3 with heap:=h6 }) hK kC (fun c hc=>by rw[H7.mp hc];exact H6 I.g.low hC) (fun c hc hm=>by
  rw[H7.mp hm]at hc
  rcases H9.mp hc with hc | hc
  ·exact hCn hc
  ·rcases f3 C hc with hc | hc
   ·exact hDC (H7.mp hc).symm
   ·exact absurd (I.lt C (Hb _ hc)) (Hz.mpr hC))
 obtain kk:aG (ow env locs Fs) s s3:=ks.all.trans (k3.mono fun c hc=>H8 _ hc)
 exact⟨kk.comp (O':=[C]) ⟨kC,fun _ _ e=>e,id,rfl⟩ fun c hc=>.inr (by rw[H7.mp hc];exact hC),rfl,Fs3,I6,o3⟩
end
end
section
section
variable{gt:List (Str×Value)}{K:List (Addr×Obj)}{w:World}{A:Around}{env:Env}{locs:List (Str×PV)}
theorem Sub.strI{x:Str}{i:Int}(h0:0≤i)(hi:i<x.length)(hx:x.length≤100000): Sub w A (.str x) (.int i) (.str (cL x i.toNat)) true:=by
 obtain e:i=(i.toNat:Int):=by omega
 obtain this:=Sub.strAt (w:=w) (A:=A) (x:=x) (k:=i.toNat) (by omega) hx
 rwa[←e]at this
theorem fi.pow{i:Int}{k:Int}(hk:0≤k)(hs:(IJ i:Int)*k≤2 ^ 27): fi w A .Pow (.int i) (.int k) (.int (i ^ k.toNat)) true:=by
 constructor;intro s a b F H xA xB;cases xA;cases xB;exact pow_int hk hs zw
end
noncomputable def sL(s:Expr): Scope:=yd s fun _ _ c _ _ _=>c
noncomputable def DD(s:Stmt): Expr:=Bm s
end
section
noncomputable abbrev B2:List Stmt:=aF (aO 68)
noncomputable abbrev Eg:Scope:=sL (DD ((B2[0]?).getD (.Pass default)))
noncomputable def d9(n:Int)(ls:Str)(k:Nat): Str:=cL ls ((n.fdiv ((ls.length:Int) ^ k)).fmod ls.length).toNat
noncomputable def dP(n:Int): Str:=cL (H5 "+-*") (n.fmod 3).toNat
noncomputable def fy(n:Int)(ls:Str): T:=
 let m:=n.fdiv ((ls.length:Int) ^ 3)
 if(m.fdiv 9).fmod 2==0 then .node (dP m) (.node (dP (m.fdiv 3)) (.leaf (d9 n ls 0)) (.leaf (d9 n ls 1))) (.leaf (d9 n ls 2))
 else .node (dP m) (.leaf (d9 n ls 0)) (.node (dP (m.fdiv 3)) (.leaf (d9 n ls 1)) (.leaf (d9 n ls 2)))
noncomputable def EJ(n:Int)(ls:Str): PV→PV
 | .int i=>.str (d9 n ls i.toNat)
 |p=>p
section
variable{w:World}{A:Around}
theorem mj{i:Int}(h:i.natAbs≤10): (IJ i:Int)≤4:=by
 obtain this:∀ k:Nat,k≤10→(IJ (k:Int):Int)≤4∧(IJ (-(k:Int)):Int)≤4:=by decide +kernel
 rcases Int.natAbs_eq i with e | e <;> rw[e]
 ·exact(this _ h).1
 ·exact(this _ h).2
theorem El{m i:Nat}(h1:1≤m)(h2:m≤10)(hi:i≤3): (m:Int) ^ i≠0∧∀{n:Int},JV n ((m:Int) ^ i)=false:=by
 obtain e:(m:Int) ^ i=((m ^ i:Nat):Int):=by simp
 obtain h3:m ^ i≤10 ^ 3:=H6 (Nat.pow_le_pow_left h2 i) (IR (by decide) hi)
 obtain h4:0<m ^ i:=LQ h1
 refine⟨by rw[e];omega,fun{n}=>Mr (by rw[e];omega)⟩
theorem Df{C L:Addr}{n:Int}{ls:Str}{i:Nat}{A:Around}(hi:i<3)(h1:1≤ls.length)(h2:ls.length≤10){kp1 kp2 kp3 kp4 kp5 kp6 kp7 kp8 kp9:Pos}{q1 q2 q3 q4:Pos}:
  Ev aa (ac w) w A (JH Eg [(H5 "number",L+1),(H5 "letters",L+1+1)] C (ah 267 y9 L)) [(H5 "k",.int (i:Int)),(H5 "letters",.str ls),(H5 "number",.int n)]
   (.Subscript (.Name (H5 "letters") kp1) (.BinOp (.BinOp (.Name (H5 "number") kp2) .FloorDiv (.BinOp (.Call (.Name (H5 "len") kp3) [.Name (H5 "letters") kp4] [] kp5) .Pow (.Name (H5 "k") kp6) kp7) kp8) .Mod (.Call (.Name (H5 "len") q1) [.Name (H5 "letters") q2] [] q3) q4) kp9)
   (.str (d9 n ls i)) true:=by
 obtain hm0:(ls.length:Int)≠0:=by omega
 obtain⟨hp0,hpy⟩:=El (m:=ls.length) h1 h2 (show i≤3 by omega)
 obtain hb:(IJ (ls.length:Int):Int)*(i:Int)≤2 ^ 27:=by
  obtain h4:=mj (i:=(ls.length:Int)) (by omega)
  obtain this:=Int.mul_le_mul h4 (show(i:Int)≤3 by omega) (by omega) (by omega)
  omega
 obtain h0:0≤(n.fdiv ((ls.length:Int) ^ i)).fmod ls.length:=IH _ (by omega)
 obtain hlt:(n.fdiv ((ls.length:Int) ^ i)).fmod ls.length<ls.length:=J8 _ (by omega)
 refine Ev.sub (f1:=true) (f2:=true) (p:=.str ls) (q:=.int ((n.fdiv ((ls.length:Int) ^ i)).fmod ls.length)) ?_ ?_ (Sub.strI h0 hlt (by omega)) (by intro _ _;exact⟨_,rfl⟩)
 ·walk_at "ev"
 ·refine Ev.binop (f1:=true) (f2:=true) (p:=.int (n.fdiv ((ls.length:Int) ^ i))) (q:=.int ls.length) (Ev.binop (f1:=true) (f2:=true) (p:=.int n) (q:=.int ((ls.length:Int) ^ i)) ?_ (Ev.binop (f1:=true) (f2:=true) (p:=.int ls.length) (q:=.int (i:Int)) ?_ ?_ ?_) (fi.floordiv hp0 hpy)) ?_ (fi.mod hm0)
  ·walk_at "ev"
  ·walk_at "ev"
  ·walk_at "ev"
  ·exact fi.pow (by omega) hb
  ·walk_at "ev"
theorem Bs(w:World)(A:Around)(n:Int)(ls:Str)(h1:1≤ls.length)(h2:ls.length≤10)(ro:Ro A 2): au aa (ac w) w A (.ref 267) [.int n,.str ls] (fy n ls).pv true:=
 bE (Do.up (ag w)) ro rfl (dg rfl) fun L ro'=>by
  show∃ locs',Ex _ _ _ _ _ _ _ ([H5 "number",H5 "letters"].zip [PV.int n,PV.str ls]) _ _
  have e3:(n.fdiv ((ls.length:Int) ^ 3))=n.fdiv ((ls.length:Int) ^ (3:Int).toNat):=rfl
  obtain⟨hp0,hpy⟩:=El (m:=ls.length) (i:=3) h1 h2 (by omega)
  obtain hb:(IJ (ls.length:Int):Int)*(3:Int)≤2 ^ 27:=by
   obtain h4:=mj (i:=(ls.length:Int)) (by omega)
   omega
  obtain sg:∀ k:Int,Sub w (A.deeper (ah 267 y9 L)) (.str (H5 "+-*")) (.int (k.fmod 3)) (.str (dP k)) true:=fun k=>by
   obtain l3:(H5 "+-*").length=3:=by decide +kernel
   obtain ha:=IH k (b:=3) (by decide)
   obtain hc:=J8 k (b:=3) (by decide)
   exact Sub.strI ha (by rw[l3];omega) (by omega)
  generalize hm:n.fdiv ((ls.length:Int) ^ 3)=m
  obtain hh:=ro'.1
  refine⟨ab (H5 "one") (.str (dP m)) (ab (H5 "two") (.str (dP (m.fdiv 3))) (ab (H5 "number") (.int m) (ab (H5 "leaves") (.own [.str (d9 n ls 0),.str (d9 n ls 1),.str (d9 n ls 2)]) ([H5 "number",H5 "letters"].zip [PV.int n,PV.str ls])))),?_⟩
  refine af (locs':=ab (H5 "leaves") (.own (((eK 3).filter fun _=>true).map (EJ n ls))) ([H5 "number",H5 "letters"].zip [PV.int n,PV.str ls])) ?_ ?_
  ·refine ub (cl:=[(H5 "number",L+1),(H5 "letters",L+1+1)]) (caps:=[(H5 "letters",.str ls),(H5 "number",.int n)]) (ae _) (by simp) (.inl (by kernel_rfl)) (by kernel_rfl) (uG (f:=true) hh (by omega) (by kernel_rfl) ?_ rfl) (by decide) rfl (by decide +kernel) rfl (by decide +kernel) (by decide +kernel) ?_ (fun C p hp=>mT) (fun C p hp _=>?_) (by intro _;rfl)
   ·exact Ev.int 3 _ _
   ·refine⟨⟨?_,by kernel_rfl,.inl (by kernel_rfl),by kernel_rfl⟩,⟨?_,by kernel_rfl,.inl (by kernel_rfl),by kernel_rfl⟩,trivial⟩
    ·walk_at "lk"
    ·walk_at "lk"
   ·obtain⟨i,hi,rfl⟩:=Hm.mp hp
    exact⟨Df (JG.mp hi) h1 h2,rfl⟩
  refine af (az (p:=.int m) (ae _) (by simp) ?_ (Bind.same rfl) (.inr ⟨by kernel_rfl,by kernel_rfl⟩) (by rfl)) ?_
  ·rw[←hm]
   refine Ev.binop (f1:=true) (f2:=true) (p:=.int n) (q:=.int ((ls.length:Int) ^ (3:Int).toNat)) ?_ (Ev.binop (f1:=true) (f2:=true) (p:=.int ls.length) (q:=.int 3) ?_ (Ev.int 3 _ _) (fi.pow (by omega) hb)) (fi.floordiv hp0 hpy)
   ·walk_at "ev"
   ·walk_at "ev"
  refine af (gJ (p:=.str (dP m)) (q:=.str (dP (m.fdiv 3))) (ae _) hh (by simp) ?_ rfl (gW (.inl (by kernel_rfl)) (.inl (by kernel_rfl))) rfl rfl) ?_
  ·refine Ev.tuple (bG.cons (Ev.sub (f1:=true) (f2:=true) (Ev.str _ _ _) ?_ (sg m) (by intro _ _;exact⟨_,rfl⟩)) (bG.cons (Ev.sub (f1:=true) (f2:=true) (Ev.str _ _ _) ?_ (sg (m.fdiv 3)) (by intro _ _;exact⟨_,rfl⟩)) bG.nil rfl) rfl) (by walk_at "few") rfl
   ·walk_at "ev"
   ·walk_at "ev"
  cases hc:((m.fdiv 9).fmod 2==0)with
  |true=>
   have e:fy n ls=.node (dP m) (.node (dP (m.fdiv 3)) (.leaf (d9 n ls 0)) (.leaf (d9 n ls 1))) (.leaf (d9 n ls 2)):=by unfold fy;simp only[hm,hc,if_true]
   rw[e]
   walk_at "ifTr"
   case hbody=>
   show Ex _ _ _ _ _ _ _ _ (.ret (.tup [_,.tup [_,.str _,.str _],.str _])) _
   walk_at "ret"
  |false=>
   have e:fy n ls=.node (dP m) (.leaf (d9 n ls 0)) (.node (dP (m.fdiv 3)) (.leaf (d9 n ls 1)) (.leaf (d9 n ls 2))):=by unfold fy;simp only[hm,hc,Hq,if_false]
   rw[e]
   walk_at "ifF"
   case hbody=>exact aq
   case hrest=>
   show Ex _ _ _ _ _ _ _ _ (.ret (.tup [_,.str _,.tup [_,.str _,.str _]])) _
   walk_at "ret"
end
end
section
noncomputable def jM(how:Int)(c:Str): Str:=if(how==1||(inS c (H5 "\"\\")||false))=true then H5 "\\"++c else c
noncomputable def Gw(how:Int): PV→PV
 | .str c=>.str (jM how c)
 |p=>p
noncomputable def ji(x:Str): List Str:=x.cps.toList.map fun c=>(⟨#[c]⟩:Str)
noncomputable def gM(x:Str)(n:Int): Str:=
 let u:=Kl (H5 "") ((ji x).map (jM (n.fmod 3)))
 if(n.fmod 3==0)=true then H5 "\""++u++H5 "\"" else u
noncomputable abbrev B1:List Stmt:=aF (aO 71)
noncomputable def yT(s:Expr): List Expr:=yd s fun _ _ _ _ a _=>a
noncomputable abbrev GG:Scope:=sL ((yT (DD ((B1[1]?).getD (.Pass default))))[0]?.getD (.Constant .none 0 default))
section
variable{w:World}{A:Around}
theorem yo(how:Int)(c:Nat): (jM how ⟨#[c]⟩).length≤2:=by
 unfold jM
 split
 ·rw[HI]
  obtain this:(H5 "\\").length=1:=by decide +kernel
  have:(⟨#[c]⟩:Str).length=1:=rfl
  omega
 ·show 1≤2;decide
theorem xF{ys:List Str}{n:Nat}(h:∀ y∈ys,y.length≤n): (Kl (H5 "") ys).length≤ys.length*n:=by
 obtain h1:(Kl (H5 "") ys).length=(ys.map (·.length)).sum+(ys.length - 1)*(H5 "").length:=PySem.size_glued _ _
 obtain h2:(ys.map (·.length)).sum≤(ys.map (·.length)).length*n:=wn (by simpa using h)
 obtain h3:(H5 "").length=0:=by decide +kernel
 rw[Hl]at h2
 rw[h3,Nat.mul_zero]at h1
 omega
theorem x4(w:World)(A:Around)(x:Str)(n:Int)(hx:x.length≤300)(ro:Ro A 2): au aa (ac w) w A (.ref 286) [.str x,.int n] (.str (gM x n)) true:=
 bE (Dl.up (ag w)) ro rfl (dg rfl) fun L ro'=>by
  obtain hh:=ro'.1
  have hcl:(ji x).length=x.length:=by simp[ji,J7]
  have hyl:∀ y∈(ji x).map (jM (n.fmod 3)),y.length≤2:=by
   intro y hy
   obtain⟨c,hc,rfl⟩:=Hm.mp hy
   obtain⟨k,_,rfl⟩:=Hm.mp hc
   exact yo _ _
  obtain hj:JoinOk (H5 "") ((ji x).map (jM (n.fmod 3)))=true:=j5 hyl (by omega) (by rw[Hl];omega) (by decide +kernel)
  obtain hul:=xF hyl
  rw[Hl,hcl]at hul
  have hq1:(H5 "\"").length=1:=by decide +kernel
  generalize hu:Kl (H5 "") ((ji x).map (jM (n.fmod 3)))=u at hul
  refine⟨ab (H5 "word") (.str u) (ab (H5 "how") (.int (n.fmod 3)) ([H5 "word",H5 "number"].zip [PV.str x,PV.int n])),?_⟩
  show Ex _ _ _ _ _ _ _ ([H5 "word",H5 "number"].zip [PV.str x,PV.int n]) _ _
  refine af (az (p:=.int (n.fmod 3)) (ae _) (by simp) (by walk_at "ev") (Bind.same rfl) (.inr ⟨by kernel_rfl,by kernel_rfl⟩) (by rfl)) ?_
  refine af (az (p:=.str u) (ae _) (by simp) ?_ (Bind.same rfl) (.inl (by kernel_rfl)) (by rfl)) ?_
  ·rw[←hu]
   refine ud (f:=true) ?_ hj rfl rfl rfl rfl
   obtain e:((ji x).map (jM (n.fmod 3))).map PV.str=((cj x).filter fun _=>true).map (Gw (n.fmod 3)):=by
    rw[List.filter_eq_self.mpr (fun _ _=>rfl)];simp only[ji,cj,JR];rfl
   rw[e]
   refine uf (cl:=[(H5 "how",L+1)]) (caps:=[(H5 "how",.int (n.fmod 3))]) (zN (f:=true) hh ?_) (by simp[cj];obtain this:x.cps.size=x.length:=rfl;omega) rfl (by decide +kernel) rfl (by decide +kernel) (by decide +kernel) ?_ (fun C p hp=>mT) (fun C p hp _=>?_) (by intro _;rfl)
   ·walk_at "ev"
   ·exact⟨⟨by walk_at "lk",by kernel_rfl,.inl (by kernel_rfl),by kernel_rfl⟩,trivial⟩
   ·obtain⟨c,hc,rfl⟩:=Hm.mp hp
    refine⟨?_,rfl⟩
    show Ev _ _ _ _ _ _ _ (.str (jM (n.fmod 3) ⟨#[c]⟩)) _
    have h1:(⟨#[c]⟩:Str).length=1:=rfl
    obtain h2:(H5 "\\").length=1:=by decide +kernel
    unfold jM
    cases hc1:(n.fmod 3==1||(inS ⟨#[c]⟩ (H5 "\"\\")||false))with
    |true=>simp only[if_true];walk_at "ev"
    |false=>simp only[Hq,if_false];walk_at "ev"
  ·obtain e:gM x n=if(n.fmod 3==0)=true then H5 "\""++u++H5 "\"" else u:=by unfold gM;rw[hu]
   rw[e]
   cases hc:(n.fmod 3==0)with
   |true=>simp only[if_true];walk_at "ret"
   |false=>simp only[Hq,if_false];walk_at "ret"
end
end
section
theorem gR.up{K K':List (Addr×Obj)}{f:Addr}{xs:List Str}{body:List Stmt}{sc:Scope}{fd:Hy}(D:gR K f xs body sc fd)(hs:∀ p∈K,p∈K'): gR K' f xs body sc fd:=
 ⟨let⟨o,h,e⟩:=D.obj;⟨o,hs _ h,e⟩,let⟨c,oc,vs,t,h,r⟩:=D.code;⟨c,oc,vs,t,hs _ h,r⟩,D.body,D.scope,D.glob,D.blt,D.clos,D.co,D.gen,D.kind,D.nodup,D.cells,D.names⟩
theorem dJ{K:List (Addr×Obj)}{f:Addr}{xs:List Str}{body:List Stmt}{sc:Scope}{fd:Hy}(D:gR K f xs body sc fd): eS K (.ref f):=
 let⟨o,h,e⟩:=D.obj;.inr ⟨f,o,fd,rfl,h,e⟩
section
variable{gt:List (Str×Value)}{K:List (Addr×Obj)}{w:World}{A:Around}
inductive DL(s:Shared)(r p':PV)(v:Value)(F:List Addr)(u:Value)(s':Shared): Prop
 |mk(k:aG F s s')(z:VR s'.heap r u [])(F':List Addr)(z':VR s'.heap p' v F')(o:∀ b∈F',b∈F∨s.heap.objs.size≤b)
structure dy(gt:List (Str×Value))(K:List (Addr×Obj))(w:World)(A:Around)(f:Addr)(p:PV)(args:List PV)(r:PV)(p':PV): Prop where
 run:∀ s v vs F,G gt K s.heap→VR s.heap p v F→(∀ b∈F,348≤b)→bf s.heap args vs []→wpAny (model pw w) A (call (.ref f) (v::vs)) (DL s r p' v F) (fun _ _=>False) s
structure uw(gt:List (Str×Value))(K:List (Addr×Obj))(w:World)(A:Around)(f:Addr)(p:PV)(args:List PV)(r:PV)(p':PV): Prop where
 run:∀ s v vs F (R:Result→Shared→Prop),G gt K s.heap→VR s.heap p v F→(∀ b∈F,348≤b)→bf s.heap args vs []→(∀ u s',aG F s s'∧VR s'.heap r u []∧(∃ F',VR s'.heap p' v F'∧∀ b∈F',b∈F∨s.heap.objs.size≤b)→R (.ok (.ret u)) s')→codeAny (model pw w) A (.call (.ref f) ⟨v::vs,[]⟩) R s
theorem qi{f:Addr}{x0:Str}{xs:List Str}{body:List Stmt}{sc:Scope}{fd:Hy}(D:gR K f (x0::xs) body sc fd){n:Nat}(ro:Ro A (n+1))(hself:sc.names.lookup x0=some .local){p p' r:PV}(hp:p.isOwn=true)(hp':p'.isOwn=true){args:List PV}{dargs:List PV}{dvs:List Value}
  (hd:∀ h,bf h dargs dvs []) (hfl:PV.flat.go args=true) (hl:xs.length=args.length+dargs.length) (hr:r.flat=true)
  (hbind:∀ h v vs,G gt K h→vs.length=args.length→Looks (model pw w) h (J4 fd ⟨v::vs,[]⟩) ((x0::xs).zip (v::vs++dvs)))
  (hown:∀ q∈args++dargs,q.isOwn=false) {fl:Fl} (hflr:fl=.ret r∨(fl=.next∧r=.none))
  (hb:∀ L a,Ro (A.deeper (ah f fd L)) n→∃ locs',Ex gt K [(x0,a)] w (A.deeper (ah f fd L)) (ah f fd L) (execs body (ah f fd L)) ((x0::xs).zip (p::(args++dargs))) fl locs'∧locs'.lookup x0=some p')
  (href:∀ h v F,VR h p v F→∃ a,v=.ref a):uw gt K w A f p args r p':=.mk fun s v vs F R g z hF zs hR=>by
 obtain⟨a,rfl⟩:=href _ _ _ z
 obtain⟨locs',hx,hlk⟩:=hb s.heap.objs.size a (ro.deeper _)
 obtain hvl:vs.length=args.length:=zs.length
 obtain hv:bf s.heap (p::(args++dargs)) (.ref a::(vs++dvs)) (F++([]++[])):=.cons z (zs.app (hd _))
 rw[Hj]at hv
 obtain hfl2:fl=.next∨∃ p,fl=.ret p:=hflr.elim (fun e=>.inr ⟨r,e⟩) fun e=>.inl e.1
 refine codeAny_mono (nO D ro (by simp only[Hh,He];omega) (hbind _ _ _ g hvl) g hv (by simpa using z.nodup) (W:=F) (pins:=[(x0,a)]) hF (fun Fs e b hb=>?_) (fun q hq=>?_) hx hfl2) fun rr s' hr=>?_
 ·obtain this:=cT hb
  rw[e,Hj]at this
  exact this
 ·rw[H7.mp hq]
  exact⟨.head _,hself⟩
 ·cases rr with
  |error=>exact hr.elim
  |ok f9=>cases f9 with
   |next=>exact hr.elim
   |brk=>exact hr.elim
   |cont=>exact hr.elim
   |ret u=>
    obtain⟨k,⟨p1,H,hp1,zu,hH⟩,Fs',I',o'⟩:=hr
    obtain hpr:p1=r:=by
     rcases hp1 with e | ⟨e,e2⟩
     ·rcases hflr with e3 | ⟨e3,_⟩
      ·rw[e]at e3;cases e3;rfl
      ·rw[e]at e3;cases e3
     ·rcases hflr with e3 | ⟨_,e4⟩
      ·rw[e]at e3;cases e3
      ·rw[e2,e4]
    subst hpr
    obtain rfl:=zu.flat hr
    obtain⟨u',F',Fs2,z',⟨m,nn,at'⟩,_,_,_,o1,_⟩:=I'.take hlk
    obtain⟨m',n',e,kd⟩:=I'.pin _ (.head _)
    obtain this:=mo nn n'
    subst this
    have hu':u'=.ref a:=by
     rcases at' with⟨_,h1⟩ | ⟨h1,_⟩
     ·rw[e]at h1;cases h1;rfl
     ·rw[kd]at h1;rcases h1 with h1 | h1 <;> cases h1
    subst hu'
    exact hR _ _ ⟨k,zu,F',z',fun b hb=>o' b (o1 hp' b hb)⟩
theorem uw.toM{f:Addr}{p r p':PV}{args:List PV}(h:uw gt K w A f p args r p'): dy gt K w A f p args r p':=.mk fun s v vs F g z hF zs=>
 Jp (h.run s v vs F _ g z hF zs fun u s' hh=>by obtain⟨k,zu,F',z',o⟩:=hh;exact⟨k,zu,F',z',o⟩)
theorem dh{f:Addr}{x0:Str}{xs:List Str}{body:List Stmt}{sc:Scope}{fd:Hy}(D:gR K f (x0::xs) body sc fd){n:Nat}(ro:Ro A (n+1))(hself:sc.names.lookup x0=some .local){p p' r:PV}(hp:p.isOwn=true)(hp':p'.isOwn=true){args:List PV}{dargs:List PV}{dvs:List Value}
  (hd:∀ h,bf h dargs dvs []) (hfl:PV.flat.go args=true) (hl:xs.length=args.length+dargs.length) (hr:r.flat=true)
  (hbind:∀ h v vs,G gt K h→vs.length=args.length→Looks (model pw w) h (J4 fd ⟨v::vs,[]⟩) ((x0::xs).zip (v::vs++dvs)))
  (hown:∀ q∈args++dargs,q.isOwn=false) {fl:Fl} (hflr:fl=.ret r∨(fl=.next∧r=.none))
  (hb:∀ L a,Ro (A.deeper (ah f fd L)) n→∃ locs',Ex gt K [(x0,a)] w (A.deeper (ah f fd L)) (ah f fd L) (execs body (ah f fd L)) ((x0::xs).zip (p::(args++dargs))) fl locs'∧locs'.lookup x0=some p')
  (href:∀ h v F,VR h p v F→∃ a,v=.ref a):dy gt K w A f p args r p':=(qi D ro hself hp hp' hd hfl hl hr hbind hown hflr hb href).toM
end
section
variable{gt:List (Str×Value)}{K:List (Addr×Obj)}{pins:List (Str×Addr)}{w:World}{A:Around}{env:Env}{locs locs1 locs2:List (Str×PV)}
noncomputable def cM(gt:List (Str×Value))(K:List (Addr×Obj))(w:World)(p:PV)(name:Str)(f:Addr): Prop:=∀(s:Shared) (v:Value) (F:List Addr),G gt K s.heap→VR s.heap p v F→∀(A:Around) (pl:Sem Bool) (Q:Value×List Value→Shared→Prop),Q (.ref f,[v]) s→wpAny (model pw w) A (JI v name pl) Q (fun _ _=>False) s
theorem cV{x name:Str}{np apos pos:Pos}{f:Addr}{e:Expr}{es:List Expr}{p p' r:PV}{rs:List PV}{fa:Bool}{pl:Sem Bool}(hK:∀ q∈K,q.1<348)(hl:locs.lookup x=some p)(hp:p.isOwn=true)(hr:r.flat=true)(hf:PV.flat.go rs=true)
  (hd:(x==("__debug__":Str))=false) (hcd:(x==("__classdict__":Str))=false) (hm:cM gt K w p name f) (hc:eS K (.ref f)) (ha:bG gt K w A env locs (e::es) rs fa) (hcall:dy gt K w A f p rs r p')
  (he:Hg (e::es) env=(false,eval e env)::Hg es env) (hplain:(backTo pos (Hg es env)).any (·.1)=false)
  (hev:eval (.Call (.Attribute (.Name x np) name apos) (e::es) [] pos) env=(do
   let ov ←eval (.Name x np) env
   standAt apos.atName
   let(f,first) ←holding [ov] (JI ov name pl)
   IU pos f first (backTo pos (Hg (e::es) env)) [])):
  jp gt K pins w A env (eval (.Call (.Attribute (.Name x np) name apos) (e::es) [] pos) env) locs r (ab x p' locs):=.mk fun s Fs I=>by
 obtain⟨v,F,z,a,hF,hE,fin⟩:=I.turn hK hl hp
 refine ML (pl:=pl) (aD I.er a hd hcd (hm s v F I.g z _ _ _ ?_)) hev
 obtain h:=ha.run s Fs pos I.g I.er
 rw[he]at h ⊢
 refine Ik (P:=G gt K) (by show((false||(backTo pos (Hg es env)).any (·.1))||false)=false;rw[hplain];rfl) (fun h' g'=>bK hc g') (HZ (Pw.andThen h fun vs s₂ hh=>?_))
 obtain⟨k2,F2,v2,_⟩:=hh
 obtain rfl:=v2.flat hf
 have g2:=I.g.kept0 k2.heap
 refine⟨g2,Pw.andThen (hcall.run s₂ v vs F g2 (z.kept0 k2.heap) (fun b hb=>(hF b hb).2) v2) fun u s3 hh=>?_⟩
 obtain⟨k3,zu,F',z',o'⟩:=hh
 obtain k:=k2.all.trans k3
 obtain⟨Fs',I',o2,f2⟩:=fin s3 p' F' k z' fun b hb=>(o' b hb).imp id (H6 k2.heap.size)
 exact⟨k.mono fun b hb=>(hF b hb).1,[],Fs',zu,fun b hb=>(nomatch hb),I',fun b hb=>(nomatch hb),o2⟩
theorem i5{x name:Str}{np apos pos:Pos}{f:Addr}{p p' r:PV}{pl:Sem Bool}(hK:∀ q∈K,q.1<348)(hl:locs.lookup x=some p)(hp:p.isOwn=true)(hr:r.flat=true)
  (hd:(x==("__debug__":Str))=false) (hcd:(x==("__classdict__":Str))=false) (hm:cM gt K w p name f) (hc:eS K (.ref f)) (hcall:dy gt K w A f p [] r p')
  (hev:eval (.Call (.Attribute (.Name x np) name apos) [] [] pos) env=(do
   let ov ←eval (.Name x np) env
   standAt apos.atName
   let(f,first) ←holding [ov] (JI ov name pl)
   IU pos f first (backTo pos (Hg [] env)) [])):
  jp gt K pins w A env (eval (.Call (.Attribute (.Name x np) name apos) [] [] pos) env) locs r (ab x p' locs):=.mk fun s Fs I=>by
 obtain⟨v,F,z,a,hF,hE,fin⟩:=I.turn hK hl hp
 refine ML (pl:=pl) (aD I.er a hd hcd (hm s v F I.g z _ _ _ ?_)) hev
 refine Ik (P:=G gt K) (by rfl) (fun h' g'=>bK hc g') (Kh ?_)
 refine⟨I.g,Pw.andThen (hcall.run s v [] F I.g z (fun b hb=>(hF b hb).2) .nil) fun u s3 hh=>?_⟩
 obtain⟨k3,zu,F',z',o'⟩:=hh
 obtain⟨Fs',I',o2,f2⟩:=fin s3 p' F' k3 z' o'
 exact⟨k3.mono fun b hb=>(hF b hb).1,[],Fs',zu,fun b hb=>(nomatch hb),I',fun b hb=>(nomatch hb),o2⟩
end
end
section
open PySem.Builtin PySem.Builtin.Re
noncomputable def Prn(x:Str): Prop:=∀ c∈x.cps.toList,32≤c∧c≠127
theorem ou:Slot "re.Pattern" "search" "re.Pattern.search":=
 .of (owner:="re.Pattern") (n:="search") (by rw[JZ,J5];kernel_rfl) (by decide +kernel) (by decide +kernel) (by decide +kernel)
  (by first | exact .inl (by decide +kernel) | exact .inr (by decide +kernel)) (by rw[LB];kernel_rfl)
theorem wN:entryFor table "re.Pattern.search" = some Builtin.«re.Pattern.search»:=Ma (by kernel_rfl)
theorem zZ:typeOf (.builtin "re.Pattern.search")=pure (.type "method_descriptor"):=by show builtinType _=_;rw[builtinType_eq_fast];kernel_rfl
theorem A0(a b:Value): argsOk "re.Pattern.search" ⟨[a,b],[]⟩:=by unfold argsOk;kernel_rfl
theorem wM:PlainAttrs "re.Pattern":=⟨⟨"object.__getattribute__",by rw[JZ,J5];kernel_rfl,by decide +kernel⟩,by rw[JZ,J5];kernel_rfl⟩
noncomputable def qY:Array Nat:=#[14,10,4,1,1,22,0,31,16,127,0,13,7,22,0,31,16,127,0,1]
noncomputable def m9:Array Nat:=#[14,14,4,1,1,9,4294966783,0,0,2147483648,0,0,0,0,0,13,11,9,4294966783,0,0,2147483648,0,0,0,0,0,1]
noncomputable def pL(a:Addr)(code:Array Nat)(x:Str)(t:Tok): ReTarget:={ pattern:=.ref a,string:=.str x t,code:=code,text:=x.cps,kind:=0,groups:=0,pos:=min (0:Int).toNat x.cps.size,lim:=min ((2 ^ 63 - 1:Int)).toNat x.cps.size }
theorem Cv{w:World}{h:Heap}(g:G aa (ac w) h)(x:Str)(t:Tok): Looks (model pw w) h (reTarget "re.Pattern.search" "search" ⟨[.ref 130,.str x t],[]⟩) (pL 130 qY x t):=Kq g.inK (by kernel_rfl)
theorem Cu{w:World}{h:Heap}(g:G aa (ac w) h)(x:Str)(t:Tok): Looks (model pw w) h (reTarget "re.Pattern.search" "search" ⟨[.ref 135,.str x t],[]⟩) (pL 135 m9 x t):=Kq g.inK (by kernel_rfl)
theorem FV(c:Nat)(h1:32≤c)(h2:c≠127)(seen:N3): ∃ seen',KZ qY c qY.size 5 true seen=.ok (false,seen'):=by
 obtain e:∀ n,KZ qY c (n+3) 5 true seen=if(decide (0≤c)&&decide (c≤31))=true then .ok (true,seen.add 22)else if(c==127)=true then .ok (true,(seen.add 22).add 16)else .ok (false,((seen.add 22).add 16).add 0):=fun n=>rfl
 refine⟨((seen.add 22).add 16).add 0,?_⟩
 rw[show qY.size=17+3 from rfl,e]
 obtain a1:¬ ((decide (0≤c)&&decide (c≤31))=true):=by simp;omega
 obtain a2:¬ ((c==127)=true):=by simpa using h2
 rw[if_neg a1,if_neg a2]
theorem FU(c:Nat)(h1:32≤c)(h2:c≠127)(seen:N3): ∃ seen',KZ m9 c m9.size 5 true seen=.ok (false,seen'):=by
 obtain e:∀ n,KZ m9 c (n+2) 5 true seen=if(decide (c<256)&&(m9.getD (5+(1+c / 32)) 0).testBit (c % 32))=true then .ok (true,seen.add 9)else .ok (false,(seen.add 9).add 0):=fun n=>rfl
 refine⟨(seen.add 9).add 0,?_⟩
 rw[show m9.size=26+2 from rfl,e]
 obtain a1:∀ c<256,32≤c→c≠127→(m9.getD (5+(1+c / 32)) 0).testBit (c % 32)=false:=by decide +kernel
 rw[if_neg]
 by_cases h3:c<256
 ·rw[a1 c h3 h1 h2];simp
 ·simp[h3]
theorem im{code:Array Nat}(hset:∀ c,32≤c→c≠127→∀ seen,∃ seen',KZ code c code.size 5 true seen=.ok (false,seen')){x:Str}(hx:Prn x): ∀(fuel s:Nat) (seen:N3) (m:Sre.M),m.code=code→m.text=x.cps→m.lim≤x.cps.size→∃ seen',MM m fuel s seen=.ok (none,seen')
 |0,s,seen,m,_,_,_=>⟨seen,rfl⟩
 |fuel+1,s,seen,m,h1,h2,h3=>by
  unfold MM
  by_cases hs:s≥m.lim
  ·rw[if_pos hs];exact⟨seen,rfl⟩
  ·rw[if_neg hs,h1,h2]
   have hlt:s<x.cps.size:=by omega
   obtain⟨a,b⟩:=hx (x.cps.getD s 0) (by
    have:x.cps.getD s 0=x.cps[s]:=by simp[Array.getD,hlt]
    rw[this];exact Array.getElem_mem_toList hlt)
   obtain⟨seen',e⟩:=hset _ a b seen
   rw[e]
   exact im hset hx fuel (s+1) seen' m h1 h2 h3
theorem kF{code:Array Nat}(hset:∀ c,32≤c→c≠127→∀ seen,∃ seen',KZ code c code.size 5 true seen=.ok (false,seen')){x:Str}(hx:Prn x){fuel s:Nat}{seen:N3}{m:Sre.M}{r:Except String (Option Nat×N3)}(e:MM m fuel s seen=r)(h1:m.code=code)(h2:m.text=x.cps)(h3:m.lim≤x.cps.size): ∃ seen',r=.ok (none,seen'):=by
 subst e;exact im hset hx fuel s seen m h1 h2 h3
structure DT(m:Sre.M): Prop where
 ans:m.answer=some false
 fr:m.frames=[]
 out:m.outcome=none
theorem qX{m:Sre.M}(d:DT m): (m.runFor 4).outcome=some .failed:=by
 obtain⟨h1,h2,h3⟩:=d
 simp[Sre.M.runFor,Sre.M.step,h1,h2,h3]
set_option tactic.hygienic true in
theorem qW{code:Array Nat}(hset:∀ c,32≤c→c≠127→∀ seen,∃ seen',KZ code c code.size 5 true seen=.ok (false,seen')){x:Str}(hx:Prn x)(lim:Nat)(hl:lim≤x.cps.size)
  (h0:(match Sre.ops[code.getD 0 0]? with | some .INFO=>true | _=>false)=true) (h2:(code.getD 2 0==4)=true):DT (Sre.forSearch code x.cps 0 0 lim false):=by
 unfold Sre.forSearch
 dsimp only
 split
 ·exact⟨rfl,rfl,rfl⟩
 ·unfold Sre.M.attemptFrom
  rw[if_neg (by
   show¬ ((!((match Sre.ops[code.getD 0 0]? with | some .INFO=>true | _=>false)&&code.getD 2 0==4))=true)
   rw[h0,h2];simp)]
  split
  ·rename_i s seen e
   obtain⟨seen',e'⟩:=kF hset hx e rfl rfl hl
   cases e'
  ·exact⟨rfl,rfl,rfl⟩
  ·rename_i why e
   obtain⟨seen',e'⟩:=kF hset hx e rfl rfl hl
   cases e'
section
variable{M:Model}{A:Around}{E:Value→Shared→Prop}{s:Shared}
theorem lh{b:Nat→Bool}{nm:Nat→String}{Q:PUnit→Shared→Prop}(h:Q ⟨⟩ s): ∀ l:List Nat,wpAny M A (forIn l PUnit.unit fun i r=>(if b i=true then(do rule (nm i);pure (Jk PUnit.unit))else pure (Jk PUnit.unit):Sem (ForInStep PUnit))) Q E s
 |[]=>by rw[List.forIn_nil];exact Hi h
 |i::l=>by
  rw[JY]
  refine Hc ?_
  split
  ·exact Hc (LC (Hi (lh h l)))
  ·exact Hi (lh h l)
theorem wJ{m:Sre.M}{Q:Option Sre.M→Shared→Prop}(d:DT m)(h:Q none s): wpAny M A (reRunToEnd m) Q E s:=by
 obtain e:reDrive (2 ^ 64) m=pure (m.runFor 4):=by
  show reDrive (18446744073709551615+1) m=_
  skip
  show(if(m.runFor 4).outcome.isSome=true then pure (m.runFor 4)else _)=_
  rw[qX d]
  rfl
 unfold reRunToEnd
 rw[e]
 refine Hc (Hi ?_)
 refine Hc (Hf (lh (Q:=fun _ s'=>s'=s) rfl _) (fun _ s' es=>?_) fun _ _ e=>e)
 subst es
 rw[qX d]
 exact Hi h
end
section
variable{w:World}{A:Around}{s:Shared}
theorem ky{a:Addr}{code:Array Nat}{x:Str}{t:Tok}{Q:Value→Shared→Prop}(hT:s.TypeIs (.ref a) "re.Pattern")(hl:Looks (model pw w) s.heap (reTarget "re.Pattern.search" "search" ⟨[.ref a,.str x t],[]⟩) (pL a code x t))
  (hset:∀ c,32≤c→c≠127→∀ seen,∃ seen',KZ code c code.size 5 true seen=.ok (false,seen')) (hx:Prn x) (h0:(match Sre.ops[code.getD 0 0]? with | some .INFO=>true | _=>false)=true) (h2:(code.getD 2 0==4)=true) (h:Q .none s):
  wpAny (model pw w) A (call (.builtin "re.Pattern.search") [.ref a,.str x t]) Q (fun _ _=>False) s:=by
 refine Jp (codeAny_call_builtin ou.plain wN (ou.check _ _ _ _ _ _ _ _ hT (A0 _ _) ?_))
 skip
 refine Hc (hl.here ?_)
 obtain hp:(pL a code x t).pos=0:=by show min (0:Int).toNat x.cps.size=0;simp
 obtain hlim:(pL a code x t).lim≤x.cps.size:=Nat.min_le_right _ _
 skip
 skip
 exact Hc (wJ (qW hset hx _ hlim h0 h2) (Hi h))
theorem q8(g:G aa (ac w) s.heap){x:Str}{t:Tok}{Q:Value→Shared→Prop}(hx:Prn x)(h:Q .none s): wpAny (model pw w) A (call (.builtin "re.Pattern.search") [.ref 130,.str x t]) Q (fun _ _=>False) s:=
 ky ⟨_,g.inK 130 _ rfl,rfl⟩ (Cv g x t) FV hx rfl rfl h
theorem oq(g:G aa (ac w) s.heap){x:Str}{t:Tok}{Q:Value→Shared→Prop}(hx:Prn x)(h:Q .none s): wpAny (model pw w) A (call (.builtin "re.Pattern.search") [.ref 135,.str x t]) Q (fun _ _=>False) s:=
 ky ⟨_,g.inK 135 _ rfl,rfl⟩ (Cu g x t) FU hx rfl rfl h
end
end
section
noncomputable abbrev qI:Hy:=iC (aA 66 (H5 "__init__")) (H5 "Headers.__init__") (.str (H5 "cpy313.wsgiref.headers") 604) 149 (.ref 143)
theorem AX:gR ay 150 [H5 "self",H5 "headers"] (aF (aA 66 (H5 "__init__"))) (aQ (aA 66 (H5 "__init__"))) qI where
 obj:=⟨_,cQ (i:=22) rfl,rfl⟩
 code:=⟨149,_,_,_,cQ (i:=21) rfl,rfl,rfl,rfl⟩
 body:=rfl
 scope:=rfl
 glob:=rfl
 blt:=rfl
 clos:=rfl
 co:=rfl
 gen:=rfl
 kind:=rfl
 nodup:=by decide +kernel
 cells:=fun k p hp=>by cases hp
 names:=by decide +kernel
noncomputable abbrev qH:Hy:=iC (aA 66 (H5 "_convert_string_type")) (H5 "Headers._convert_string_type") (.str (H5 "cpy313.wsgiref.headers") 604) 156 (.none)
theorem AW:gR ay 157 [H5 "self",H5 "value",H5 "name"] (aF (aA 66 (H5 "_convert_string_type"))) (aQ (aA 66 (H5 "_convert_string_type"))) qH where
 obj:=⟨_,cQ (i:=24) rfl,rfl⟩
 code:=⟨156,_,_,_,cQ (i:=23) rfl,rfl,rfl,rfl⟩
 body:=rfl
 scope:=rfl
 glob:=rfl
 blt:=rfl
 clos:=rfl
 co:=rfl
 gen:=rfl
 kind:=rfl
 nodup:=by decide +kernel
 cells:=fun k p hp=>by cases hp
 names:=by decide +kernel
noncomputable abbrev u8:Hy:=iC (aA 66 (H5 "get")) (H5 "Headers.get") (.str (H5 "cpy313.wsgiref.headers") 604) 204 (.ref 198)
theorem fg:gR ay 205 [H5 "self",H5 "name",H5 "default"] (aF (aA 66 (H5 "get"))) (aQ (aA 66 (H5 "get"))) u8 where
 obj:=⟨_,cQ (i:=39) rfl,rfl⟩
 code:=⟨204,_,_,_,cQ (i:=38) rfl,rfl,rfl,rfl⟩
 body:=rfl
 scope:=rfl
 glob:=rfl
 blt:=rfl
 clos:=rfl
 co:=rfl
 gen:=rfl
 kind:=rfl
 nodup:=by decide +kernel
 cells:=fun k p hp=>by cases hp
 names:=by decide +kernel
section
variable{gt:List (Str×Value)}{K:List (Addr×Obj)}{w:World}{A:Around}{env:Env}{locs:List (Str×PV)}
theorem wW{x:Str}: au gt K w A (.type "type") [.str x] (.val (.type "str")) true:=by
 constructor;intro s vs F g z _
 obtain⟨v,rfl,zv⟩:=z.one1
 cases zv with
 |str _ t=>exact PySem.call_type_of (Lv s x t) (by decide) ⟨.refl _ _,[],.val _,fun _ _ hb=>(nomatch hb)⟩
theorem cz.isTy(n:String): cz w A .Is (.val (.type n)) (.val (.type n)) true:=by
 constructor;intro s a b F H xA xB;cases xA;cases xB;exact wpAny_is_self rfl ⟨rfl,.refl _ _⟩
theorem Tr.noneV{e:Expr}{f:Bool}(h:Ev gt K w A env locs e .none f)(he:isTrue e env (eval e env)=(do let v ←eval e env;standAt e.pos;holding [v] (truthy v))): Tr gt K w A env locs e false:=.mk fun s Fs g x=>
 Kv (Pw.andThen (h.run s Fs g x) fun a s₁ ⟨k1,F1,v1,_⟩=>by cases v1;exact truthy_none ⟨rfl,k1⟩) he
theorem vv{r e:Expr}{x:Str}{a:Addr}{apos pos:Pos}{f1 f2:Bool}(ha:a=130∨a=135)(h1:Ev aa (ac w) w A env locs r (.val (.ref a)) f1)(h2:Ev aa (ac w) w A env locs e (.str x) f2)(hx:Prn x)
  (hbase:IT r (H5 "search") env (eval r env)=eval r env)
  (hfew:((backTo pos (Hg [e] env)).all (fun x=>!x.1)&&(KI pos (Jr [] env)).all (fun x=>x.1.isSome)
   &&decide (([e]:List Expr).length+([]:List Keyword).length+(if([]:List Keyword).isEmpty then 0 else 1)<30))=true)
  (hline:(apos.endLine==pos.line)=true) (he:Hg [e] env=(false,eval e env)::Hg [] env):
  Ev aa (ac w) w A env locs (.Call (.Attribute r (H5 "search") apos) [e] [] pos) .none true:=.mk fun s Fs g z=>
 Js hbase hfew hline wM ou zZ (Pw.andThen (h1.run s Fs g z) fun ov s₁ hh=>by
  obtain⟨k1,F1,v1,_⟩:=hh
  cases v1
  obtain g1:=g.kept0 k1.heap
  have hob:∃ o,s₁.heap.get? a=some o∧o.cls=.type "re.Pattern"∧o.dict=none:=by
   rcases ha with rfl | rfl
   ·exact⟨_,g1.inK 130 _ rfl,rfl,rfl⟩
   ·exact⟨_,g1.inK 135 _ rfl,rfl,rfl⟩
  obtain⟨o,ho,hc,hd⟩:=hob
  refine⟨⟨o,ho,hc⟩,fun b hb=>by cases hb;exact⟨o,ho,hd⟩,?_⟩
  obtain h:=(bG.cons h2 bG.nil he).run s₁ Fs pos g1 (z.kept0 k1.heap)
  rw[he]at h ⊢
  refine Ik (P:=G aa (ac w)) rfl (fun h' g'=>⟨.machine,.inr (.inl rfl),HD rfl⟩) (HZ (Pw.andThen h fun vs s₂ hh=>?_))
  obtain⟨k2,F2,v2,_⟩:=hh
  have g2:=g1.kept0 k2.heap
  refine⟨g2,?_⟩
  obtain⟨v,rfl,zv⟩:=v2.one1
  cases zv with
  |str _ t=>
   obtain fin:mn .none true s .none s₂:=⟨k1.trans k2,[],.none,fun _ _ hb=>(nomatch hb)⟩
   rcases ha with rfl | rfl
   ·exact q8 g2 hx fin
   ·exact oq g2 hx fin)
end
end
section
section
variable{w:World}{A:Around}
theorem B6(v u y:Value): J4 qH ⟨[v,u],[(H5 "name",y)]⟩=pure ([H5 "self",H5 "value",H5 "name"].zip [v,u,y]):=by kernel_rfl
theorem conv(w:World)(A:Around)(x:Str)(b:Bool)(hx:Prn x)(ro:Ro A 2)(s:Shared)(v:Value)(t:Tok)(g:G aa (ac w) s.heap):
  wpAny (model pw w) A (call (.ref 157) [v,.str x t] [(H5 "name",.bool b)]) (fun u s'=>aG [] s s'∧∃ t',u=.str x t') (fun _ _=>False) s:=by
 obtain hb:Ex aa (ac w) [] w (A.deeper (ah 157 qH s.heap.objs.size)) (ah 157 qH s.heap.objs.size) (execs (aF (aA 66 (H5 "_convert_string_type"))) (ah 157 qH s.heap.objs.size))
   ([H5 "self",H5 "value",H5 "name"].zip [PV.val v,PV.str x,PV.bool b]) (.ret (.str x)) (ab (H5 "regex") (.val (.ref (if b=true then 130 else 135))) ([H5 "self",H5 "value",H5 "name"].zip [PV.val v,PV.str x,PV.bool b])):=by
  refine aX (cE (c:=true) (Tr.cmp (f1:=true) (f2:=true) (p:=.val (.type "str")) (q:=.val (.type "str")) (c8 (ff:=true) (fa:=true&&true) (f:=.type "type") (rs:=[.str x]) (Ev.builtin (by kernel_rfl) ph (by decide +kernel) (by kernel_rfl)) bd (bG.cons ?_ bG.nil rfl) wW bR rfl rfl) (Ev.builtin (by kernel_rfl) gN (by decide +kernel) (by kernel_rfl)) (cz.isTy _) rfl) rfl ?_) (by nofun)
  ·walk_at "ev"
  refine af (az (p:=.val (.ref (if b=true then 130 else 135))) (ae _) (by simp) ?_ (Bind.same rfl) (.inl (by kernel_rfl)) (by rfl)) ?_
  ·cases b with
   |true=>
    refine Ev.ifT (c:=true) (Tr.bool (f:=true) ?_ rfl) rfl ?_
    ·walk_at "ev"
    ·refine Ev.global ?_ CO ?_ <;> kernel_rfl
   |false=>
    refine Ev.ifF (c:=false) (Tr.bool (f:=true) ?_ rfl) rfl ?_
    ·walk_at "ev"
    ·refine Ev.global ?_ CN ?_ <;> kernel_rfl
  refine af (c7 (c:=false) (Tr.noneV (vv (a:=if b=true then 130 else 135) (f1:=true) (f2:=true) (by cases b <;> simp) ?_ ?_ hx rfl rfl rfl rfl) rfl) rfl aq) ?_
  ·walk_at "ev"
  ·walk_at "ev"
  walk_at "ret"
 refine Pw.andThen (nS (AW.up (ag w)) ro (by rfl) (HD (B6 v (.str x t) (.bool b))) g (F:=[]) (bf.cons (F:=[]) (.val v) (bf.cons (F:=[]) (.str x t) (bf.cons (F:=[]) (.bool b) .nil))) .nil (W:=[]) (pins:=[]) (fun b hb=>(nomatch hb)) (fun Fs _ b hb=>dD (fun p hp=>?_) b hb) (fun q hq=>(nomatch hq)) hb (.inr ⟨_,rfl⟩)) fun u s' ⟨k,⟨p,H,hp,z,hH⟩,_⟩=>?_
 ·obtain this:=(JX hp).2
  rcases jE this with h | h | h <;> rw[h] <;> rfl
 ·rcases hp with e | ⟨e,_⟩
  ·cases e
   cases z with
   |str _ t'=>exact⟨k,t',rfl⟩
  ·cases e
end
end
section
section
variable{w:World}{A:Around}{env:Env}{locs:List (Str×PV)}
theorem fe{sn:Str}{np apos pos cpos kpos:Pos}{k:Nat}{e:Expr}{x:Str}{b f:Bool}{p:PV}{pl:Sem Bool}(hl:locs.lookup sn=some p)(hd:(sn==("__debug__":Str))=false)(hcd:(sn==("__classdict__":Str))=false)
  (hm:cM aa (ac w) w p (H5 "_convert_string_type") 157) (h:Ev aa (ac w) w A env locs e (.str x) f) (hx:Prn x) (ro:Ro A 2) (he:Hg [e] env=(false,eval e env)::Hg [] env)
  (hev:eval (.Call (.Attribute (.Name sn np) (H5 "_convert_string_type") apos) [e] [⟨some (H5 "name"),.Constant (.bool b) k cpos,kpos⟩] pos) env=(do
   let ov ←eval (.Name sn np) env
   standAt apos.atName
   let(f,first) ←holding [ov] (JI ov (H5 "_convert_string_type") pl)
   IU pos f first (backTo pos (Hg [e] env)) (KI pos (Jr [⟨some (H5 "name"),.Constant (.bool b) k cpos,kpos⟩] env)))):
  Ev aa (ac w) w A env locs (.Call (.Attribute (.Name sn np) (H5 "_convert_string_type") apos) [e] [⟨some (H5 "name"),.Constant (.bool b) k cpos,kpos⟩] pos) (.str x) true:=.mk fun s Fs g z=>by
 obtain⟨m,n,V⟩:=z.vars
 obtain⟨v,F,_,a,zv⟩:=V.find hl
 refine methodCall_KW (pl:=pl) (aD z ⟨m,n,a⟩ hd hcd (hm s v F g zv _ _ _ ?_)) hev
 refine callWith_KW (K:=ac w) (h₀:=s.heap) g.inK (by kernel_rfl) rfl (Pw.andThen ((bG.cons h bG.nil he).run s Fs pos g z) fun vs s2 hh=>?_) (by rw[he];rfl) he
 obtain⟨k2,F2,v2,_⟩:=hh
 obtain⟨u,rfl,zu⟩:=v2.one1
 cases zu with
 |str _ t=>
  have g2:=g.kept0 k2.heap
  show wpAny _ _ (evalAll [_]) _ _ _
  refine Hc (Hc (Hi (Hc (Km (Hi (Hc (IF (Hi (Hi ?_)))))))))
  refine⟨g2.inK,?_⟩
  exact Pw.andThen (conv w A x b hx ro s2 v t g2) fun r s3 ⟨k3,t',er⟩=>by subst er;exact⟨k2.trans k3,[],.str _ _,fun _ _ hb=>(nomatch hb)⟩
end
end
section
section
variable{w:World}{A:Around}{env:Env}{locs locs':List (Str×PV)}{pins:List (Str×Addr)}
theorem rW(w:World): findIn (ac w) (.ref 258) "__getattribute__" = some (some (.builtin "object.__getattribute__")):=by kernel_rfl
theorem xN(w:World): findIn (ac w) (.ref 258) "__getattr__" = some none:=by kernel_rfl
theorem CK(w:World): hasDictIn (ac w) 258=true:=by kernel_rfl
theorem CL(w:World): findIn (ac w) (.ref 258) (H5 "_headers")=some none:=by kernel_rfl
theorem lK{x name:Str}{h:Int}{t:Tok}{v:Value}{n:Nat}(hne:(x==name)=false): shadowIn (some (bH [⟨h,.str x t,v⟩] n)) name=some false:=by
 show(lookIn name (bH [⟨h,.str x t,v⟩] n)).map _=_
 simp[lookIn,Ka,hne,HP.refKey]
theorem xh{x:Str}{h:Int}{t:Tok}{v:Value}{n:Nat}: lookIn x (bH [⟨h,.str x t,v⟩] n)=some (some v):=by
 simp[lookIn,Ka]
theorem da{l:List (Str×Str)}{name:Str}{f:Addr}(hne:(H5 "_headers" == name)=false)(hf:findIn (ac w) (.ref 258) name=some (some (.ref f)))(ht:typeIn (ac w) (.ref f)=some (.type "function")): cM aa (ac w) w (.hdr l) name f:=by
 intro s v F g z A pl Q q
 cases z with
 |hdr y=>
  obtain⟨d,l',hs,t,n,vs,m,rfl,nd,e1,e2,e3,ps⟩:=y
  exact method_fn g.inK ⟨e1,rfl,rfl,e2⟩ (rW w) (xN w) hf ht (lK hne) q
inductive GE(w:World)(s:Shared)(l:List (Str×Str))(v:Value)(F:List Addr)(expr:Bool): Prop
 |mk(a d l':Addr)(vs:List Value)(m:Nat)(ev:v=.ref a)(eF:F=[a,d,l'])(e:s.heap.get? l'=some (bn vs m))(ps:Pairs s.heap l vs)
  (hget:∀(s':Shared),aj [] s.heap s'.heap→G aa (ac w) s'.heap→∀(A:Around) (Q:Value→Shared→Prop),Q (.ref l') { s' with toks:=s'.toks+1 }→wpAny (model pw w) A (getAttr v (H5 "_headers") expr) Q (fun _ _=>False) s')
theorem gF{s:Shared}{l:List (Str×Str)}{v:Value}{F:List Addr}{expr:Bool}(g:G aa (ac w) s.heap)(z:VR s.heap (.hdr l) v F): GE w s l v F expr:=by
 cases z with
 | @hdr _ a _ y=>
  obtain⟨d,l',hs,t,n,vs,m,rfl,nd,e1,e2,e3,ps⟩:=y
  refine⟨a,d,l',vs,m,rfl,rfl,e3,ps,fun s' k g' A Q q=>?_⟩
  exact get_value g'.inK ⟨k.get e1,rfl,rfl,k.get e2⟩ (rW w) (findObj_own (CK w) (CL w) rfl xh) rfl q
noncomputable def aY(p:Str×Str): PV:=.tup [.str p.1,.str p.2]
theorem ej{h:Heap}: ∀{l:List (Str×Str)} {vs:List Value},Pairs h l vs→vs.length=l.length:=by
 intro l1
 induction l1 with
 |nil=>
  intro l2
  cases l2 with
  |nil=>
   rintro _
   exact rfl
  |cons=>intro z0;first | exact HY z0 | exact nomatch z0
 |cons e1 t1 ih=>
  intro l2
  cases l2 with
  |nil=>intro z0;first | exact HY z0 | exact nomatch z0
  |cons e2 t2=>
   rintro x
   simp[ih x.2]
theorem jA{h:Heap}: ∀{l:List (Str×Str)} {vs:List Value} {i:Nat} {v:Value},Pairs h l vs→vs[i]? = some v→∃ p,(l.map aY)[i]? = some p∧VR h p v []:=by
 intro l
 induction l with
 |nil=>intro vs i v x e;cases vs with
  |nil=>cases e
  |cons=>exact x.elim
 |cons p l ih=>
  intro vs i v x e
  cases vs with
  |nil=>exact x.elim
  |cons u vs=>cases i with
   |zero=>
    cases e
    obtain⟨⟨a,t,u',n,rfl,e⟩,_⟩:=x
    exact⟨aY p,rfl,.tup e (.cons (F:=[]) (.str _ _) (.cons (F:=[]) (.str _ _) .nil)) .nil⟩
   |succ i=>exact ih x.2 e
theorem uW{h:Heap}{q:Str×Str}{u:Value}(hq:vO h q u): ∀{l:List (Str×Str)} {vs:List Value},Pairs h l vs→Pairs h (l++[q]) (vs++[u]):=by
 intro l1
 induction l1 with
 |nil=>
  intro l2
  cases l2 with
  |nil=>
   rintro _
   exact⟨hq,trivial⟩
  |cons=>intro z0;first | exact HY z0 | exact nomatch z0
 |cons e1 t1 ih=>
  intro l2
  cases l2 with
  |nil=>intro z0;first | exact HY z0 | exact nomatch z0
  |cons e2 t2=>
   rintro x
   exact⟨x.1,ih x.2⟩
theorem zB{h:Heap}{p q:PV}{vs:List Value}{F:List Addr}(z:bf h [p,q] vs F): ∃ v1 v2 F1 F2,vs=[v1,v2]∧VR h p v1 F1∧VR h q v2 F2:=by
 cases z with
 |cons c1 z=>
  cases z with
  |cons c2 z=>cases z;exact⟨_,_,_,_,rfl,c1,c2⟩
theorem tC{h:Heap}{q:Str×Str}{u:Value}{F:List Addr}(z:VR h (aY q) u F): vO h q u:=by
 cases z with
 |tup eT zs _=>
  obtain⟨v1,v2,F1,F2,rfl,c1,c2⟩:=zB zs
  cases c1;cases c2
  exact⟨_,_,_,_,rfl,eT⟩
theorem dU{gt:List (Str×Value)}{K:List (Addr×Obj)}{Fs:List (List Addr)}{s:Shared}(I:bw gt K pins env locs Fs s){x:Str}{a:Addr}{v:Value}(hp:(x,a)∈pins)(h:∃ m,s.heap.Ns env.locals m∧At s.heap env m x v): v=.ref a:=by
 obtain⟨m,n,at'⟩:=h
 obtain⟨m',n',e,kd⟩:=I.pin _ hp
 obtain this:=mo n n'
 subst this
 rcases at' with⟨_,h1⟩ | ⟨h1,_⟩
 ·rw[e]at h1;cases h1;rfl
 ·rw[kd]at h1;rcases h1 with h1 | h1 <;> cases h1
theorem vq{x y1 y2:Str}{p1 p2 tpos np apos pos:Pos}{k0:Nat}{a:Addr}{items:List (Str×Str)}{body:List Stmt}{fl:Fl}(hh:A.handled=none)(hl:locs.lookup x=some (.hdr items))(hp:(x,a)∈pins)
  (hd:(x==("__debug__":Str))=false) (hcd:(x==("__classdict__":Str))=false) (hy1:aJ env y1) (hy2:aJ env y2) (hq1:y1∉pins.map (·.1)) (hq2:y2∉pins.map (·.1))
  (hloop:bP aa (ac w) pins w A env body (fun p l=>ab y2 ((match p with | .tup [_,q]=>q | _=>.none)) (ab y1 ((match p with | .tup [q,_]=>q | _=>.none)) l)) (items.map aY) (ab x (.val (.ref a)) locs) fl locs')
  (hx:locs'.lookup x=some (.val (.ref a))) (hall:bQ locs'):
  Ex aa (ac w) pins w A env (exec (.For (.Tuple [.Name y1 p1,.Name y2 p2] k0 tpos) (.Attribute (.Name x np) (H5 "_headers") apos) body [] pos) env) locs fl (ab x (.hdr items) locs'):=.mk fun s Fs I=>by
 obtain⟨v,F,Fs1,z,av,I1,l1,d1,o1,o2,f1,f2⟩:=I.take hl
 obtain rfl:=dU I hp av
 obtain o1:=o1 rfl
 obtain⟨a',d,l',vs,m,ea,rfl,e3,ps,hget⟩:=gF (expr:=true) I.g z
 cases ea
 refine M6 (ID (aD I.er av hd hcd (hget s (.refl _ _) I.g _ _ (K4 ⟨_,e3,rfl,m,rfl⟩ ?_)))) (by intro _;rfl)
 have hl':l'∈[a,d,l']:=.tail _ (.tail _ (.head _))
 have dis:∀ b∈[a,d,l'],b∉ow env (ab x (.val (.ref a)) locs) Fs1:=fun b hb hm=>d1 b hb (fW hm)
 have flt:∀ b∈[a,d,l'],b<s.heap.objs.size:=z.lt
 refine jI (s:=s) (locs':=locs') (fl:=fl) (O:=ow env (ab x (.val (.ref a)) locs) Fs1) (ae w) hh (oh (pr:=fun p=>((match p with | .tup [q,_]=>q | _=>.none),(match p with | .tup [_,q]=>q | _=>.none))) (ae w) hh hq1 hq2 hy1 hy2 (fun p hp=>?_)) e3 ((Hx).symm.trans ((ej ps).trans (Hl _).symm)) (fun i v e=>jA ps e) (I.hi _ (o1 _ hl')) (d1 _ hl') (.refl _ s) I1 (fun b hb=>.inl hb)
  (fun s' f' Fs' k' hf I' o'=>?_) hloop
 ·obtain⟨q,_,rfl⟩:=Hm.mp hp
  rfl
 ·have z':VR s'.heap (.hdr items) (.ref a) [a,d,l']:=z.kept k'.heap dis
  have dF:∀ b∈[a,d,l'],b∉env.locals::env.cells.map (·.2)++Fs'.flatten:=fun b hb hm=>(o' b (I'.allOwn hall b hm)).elim (dis b hb) fun h=>absurd (flt b hb) (Hz.mpr h)
  obtain⟨Fs2,I2,o3,f3⟩:=I'.put hx z' dF (fun _ b hb=>I.hi b (o1 b hb))
  exact⟨k'.mono o2,hf.comp (Hw _) fun b hb=>.inl (o2 b hb),Fs2,I2,fun b hb=>(o3 b hb).elim (fun h=>(o' b h).imp (o2 b) id) fun h=>.inl (o1 b h.2)⟩
theorem m4{x y1 y2:Str}{p1 p2 tpos np apos pos:Pos}{k0:Nat}{a:Addr}{items:List (Str×Str)}{body:List Stmt}{fl:Fl}{locsV locs2:List (Str×PV)}(hh:A.handled=none)(hl:locs.lookup x=some (.hdr items))(hp:(x,a)∈pins)
  (hd:(x==("__debug__":Str))=false) (hcd:(x==("__classdict__":Str))=false) (hy1:aJ env y1) (hy2:aJ env y2) (hq1:y1∉pins.map (·.1)) (hq2:y2∉pins.map (·.1)) (heq:ab x (.val (.ref a)) locs=locsV)
  (hloop:bP aa (ac w) pins w A env body (fun p l=>ab y2 ((match p with | .tup [_,q]=>q | _=>.none)) (ab y1 ((match p with | .tup [q,_]=>q | _=>.none)) l)) (items.map aY) locsV fl locs')
  (hx:locs'.lookup x=some (.val (.ref a))) (hall:bQ locs') (heq2:ab x (.hdr items) locs'=locs2):
  Ex aa (ac w) pins w A env (exec (.For (.Tuple [.Name y1 p1,.Name y2 p2] k0 tpos) (.Attribute (.Name x np) (H5 "_headers") apos) body [] pos) env) locs fl locs2:=by
 subst heq heq2
 exact vq hh hl hp hd hcd hy1 hy2 hq1 hq2 hloop hx hall
theorem ik{x:Str}{items:List (Str×Str)}{q:Str×Str}{e:Expr}{np apos mpos pos:Pos}(hl:locs.lookup x=some (.hdr items))(hz:items.length≤1000)(he:Ev aa (ac w) w A env locs e (aY q) true)
  (hd:(x==("__debug__":Str))=false) (hcd:(x==("__classdict__":Str))=false)
  (hbase:IT (.Attribute (.Name x np) (H5 "_headers") apos) (H5 "append") env (eval (.Attribute (.Name x np) (H5 "_headers") apos) env)=eval (.Attribute (.Name x np) (H5 "_headers") apos) env)
  (hfew:((backTo pos (Hg [e] env)).all (fun x=>!x.1)&&(KI pos (Jr [] env)).all (fun x=>x.1.isSome)
   &&decide (([e]:List Expr).length+([]:List Keyword).length+(if([]:List Keyword).isEmpty then 0 else 1)<30))=true)
  (hline:(mpos.endLine==pos.line)=true) (htrees:backTo pos (Hg [e] env)=[(false,eval e env)]):
  jp aa (ac w) pins w A env (eval (.Call (.Attribute (.Attribute (.Name x np) (H5 "_headers") apos) (H5 "append") mpos) [e] [] pos) env) locs .none (ab x (.hdr (items++[q])) locs):=.mk fun s Fs I=>by
 obtain⟨v,F,z,a,hF,hE,fin⟩:=I.turn (ae w) hl rfl
 obtain⟨a0,d,l',vs,m,rfl,rfl,e3,ps,hget⟩:=gF (expr:=true) I.g z
 refine LO hbase hfew hline htrees (ID (aD I.er a hd hcd (hget s (.refl _ _) I.g _ _ ⟨l',vs.toArray,rfl,⟨_,_,e3,rfl,rfl,rfl⟩,?_⟩)))
 obtain kt:aG [] s { s with toks:=s.toks+1 }:=.ofToks
 refine Pw.andThen (he.run _ Fs (I.g.kept0 kt.heap) (I.er.kept0 kt.heap)) fun u s1 hh=>?_
 obtain⟨k1,Fq,zq,fr⟩:=hh
 obtain e3':=k1.heap.get e3
 have hsz:vs.toArray.size≤Ip:=by obtain this:=aU;obtain this:=ej ps;simp only[Hx];omega
 refine JE ⟨m,e3'⟩ (fun h' ⟨n',hp⟩ hsb=>?_) hsz
 have kp:aj [l'] s1.heap h':=aj.same e3' rfl hsb
 have kk:aG [a0,d,l'] s { s1 with heap:=h' }:=(kt.trans k1).all.trans (aG.mono (W:=[l']) ⟨kp,fun _ _ e=>e,id,rfl⟩ fun b hb=>by rw[H7.mp hb];simp)
 obtain rfl:=zq.flat rfl
 obtain hv:VR h' (.hdr (items++[q])) (.ref a0) [a0,d,l']:=by
  cases z with
  |hdr y=>
   obtain⟨d',l2,hs,t,n,vs',m',eF,nd,y1,y2,y3,y4⟩:=y
   simp only[J1,and_true,true_and]at eF
   obtain⟨rfl,rfl⟩:=eF
   simp only[Hu,Ha,Hs,or_false,not_or]at nd
   have g {b:Addr} {o:Obj} (e:s.heap.get? b=some o) (hb:b≠l'):h'.get? b=some o:=kp.keep _ _ (k1.heap.get e) (.inl (by simpa using hb))
   refine .hdr ⟨d,l',hs,t,n,vs++[u],n',rfl,by simp[nd],g y1 nd.1.2,g y2 nd.2.1,by rw[hp];simp[bn],?_⟩
   refine uW ?_ ((ps.kept k1.heap).kept kp)
   exact tC (zq.kept kp fun b hb=>(nomatch hb))
 obtain⟨Fs',I',o',f'⟩:=fin { s1 with heap:=h' } _ _ kk hv (fun b hb=>.inl hb)
 exact⟨kk.mono fun b hb=>(hF b hb).1,[],Fs',.none,fun b hb=>(nomatch hb),I',fun b hb=>(nomatch hb),o'⟩
end
end
section
noncomputable def mK(x:Str): Prop:=Ig (Hd x).length=false
noncomputable def aZ(nm:Str): List (Str×Str)→Option Str
 |[]=>none
 | (k,v)::r=>if(Hd k==nm)=true then some v else aZ nm r
noncomputable def Ca(r:Option Str)(d:PV): PV:=match r with
 |some v=>.str v
 |none=>d
noncomputable abbrev ur:List Stmt:=aF (aA 66 (H5 "get"))
noncomputable abbrev sV:List Stmt:=kO ((ur[1]?).getD (.Pass default))
noncomputable abbrev jN(L:Addr): Env:=ah 205 u8 L
noncomputable abbrev ib(p:PV)(nm:Str)(d:PV): List (Str×PV):=[(H5 "self",p),(H5 "name",.str nm),(H5 "default",d)]
noncomputable abbrev FS:PV→List (Str×PV)→List (Str×PV):=fun p l=>ab (H5 "v") ((match p with | .tup [_,q]=>q | _=>.none)) (ab (H5 "k") ((match p with | .tup [q,_]=>q | _=>.none)) l)
section
variable{w:World}{A:Around}{L a:Addr}
theorem jB{nm:Str}{d:PV}(hd:d.flat=true): bQ (ib (.val (.ref a)) nm d):=ai (.inl rfl) (ai (.inl rfl) (ai (.inl hd) bX))
theorem qz(nm:Str)(d:PV)(hd:d.flat=true)(hs:d.seen=d): ∀(items:List (Str×Str)),(∀ p∈items,mK p.1)→match aZ nm items with
  |some v=>bP aa (ac w) [(H5 "self",a)] w A (jN L) sV FS (items.map aY) (ib (.val (.ref a)) nm d) (.ret (.str v)) (ib (.val (.ref a)) nm d)
  |none=>bP aa (ac w) [(H5 "self",a)] w A (jN L) sV FS (items.map aY) (ib (.val (.ref a)) nm d) .next (ib (.val (.ref a)) nm d)
 |[],_=>.nil (jB hd)
 | (k,v)::r,hf=>by
  have hk:Ig (Hd k).length=false:=hf (k,v) (.head _)
  have ih:=qz nm d hd hs r fun p hp=>hf p (.tail _ hp)
  simp only[aZ]
  cases hc:Hd k==nm with
  |true=>
   skip
   refine .ret (jB hd) ?_
   show Ex _ _ _ _ _ _ _ (ab (H5 "v") (.str v) (ab (H5 "k") (.str k) (ib (.val (.ref a)) nm d))) _ _
   walk_at "norm"
   case hrun=>
    walk_at "ifTr"
    case hbody=>walk_at "ret"
   walk_at "looks"
  |false=>
   skip
   have hb:Ex aa (ac w) [(H5 "self",a)] w A (jN L) (execs sV (jN L)) (ab (H5 "v") (.str v) (ab (H5 "k") (.str k) (ib (.val (.ref a)) nm d))) .next (ib (.val (.ref a)) nm d):=by
    walk_at "norm"
    case hrun=>
     walk_at "ifF"
     case hbody=>exact aq
     case hrest=>exact aq
    walk_at "looks"
   cases hg:aZ nm r with
   |some v'=>rw[hg]at ih;exact .next (jB hd) hb ih
   |none=>rw[hg]at ih;exact .next (jB hd) hb ih
theorem hZ{l:List (Str×Str)}: cM aa (ac w) w (.hdr l) (H5 "_convert_string_type") 157:=da (by decide +kernel) (by kernel_rfl) (by kernel_rfl)
theorem qA(items:List (Str×Str))(n0:Str)(d:PV)(hd:d.flat=true)(hs:d.seen=d)(hf:∀ p∈items,mK p.1)(hn:mK n0)(hp:Prn (Hd n0))(ro:Ro A 3):
  ∃ locs',Ex aa (ac w) [(H5 "self",a)] w A (jN L) (execs ur (jN L)) ([H5 "self",H5 "name",H5 "default"].zip [PV.hdr items,.str n0,d]) (.ret (Ca (aZ (Hd n0) items) d)) locs'∧locs'.lookup (H5 "self")=some (.hdr items):=by
 have hn':Ig (Hd n0).length=false:=hn
 obtain hl:=qz (w:=w) (A:=A) (L:=L) (a:=a) (Hd n0) d hd hs items hf
 have e:ab (H5 "self") (.val (.ref a)) (ib (.hdr items) (Hd n0) d)=ib (.val (.ref a)) (Hd n0) d:=by simp[ab]
 refine⟨ib (.hdr items) (Hd n0) d,?_,by walk_at "lk"⟩
 refine af (az (p:=.str (Hd n0)) (ae _) (by simp;decide +kernel) (fe (p:=.hdr items) (f:=true) ?_ (by kernel_rfl) (by kernel_rfl) hZ ?_ hp (ro.le (by omega)) rfl rfl) (Bind.same rfl) (.inl (by kernel_rfl)) (by rfl)) ?_
 ·walk_at "lk"
 ·walk_at "ev"
 refine oT (locs2:=ib (.hdr items) (Hd n0) d) ?_ (by kernel_rfl) (by walk_at "looks")
 have e2:ab (H5 "self") (.hdr items) (ib (.val (.ref a)) (Hd n0) d)=ib (.hdr items) (Hd n0) d:=by simp[ab]
 cases hg:aZ (Hd n0) items with
 |some v=>
  rw[hg]at hl
  refine aX (m4 (a:=a) (items:=items) (locs':=ib (.val (.ref a)) (Hd n0) d) ro.1 ?_ (.head _) (by kernel_rfl) (by kernel_rfl) (.inl (by kernel_rfl)) (.inl (by kernel_rfl)) (by simp;decide +kernel) (by simp;decide +kernel) e hl ?_ (jB hd) e2) (by nofun)
  ·walk_at "lk"
  ·walk_at "lk"
 |none=>
  rw[hg]at hl
  refine af (m4 (a:=a) (items:=items) (locs':=ib (.val (.ref a)) (Hd n0) d) ro.1 ?_ (.head _) (by kernel_rfl) (by kernel_rfl) (.inl (by kernel_rfl)) (.inl (by kernel_rfl)) (by simp;decide +kernel) (by simp;decide +kernel) e hl ?_ (jB hd) e2) ?_
  ·walk_at "lk"
  ·walk_at "lk"
  show Ex _ _ _ _ _ _ _ _ (.ret d) _
  walk_at "ret"
theorem vI{h:Heap}(g:G aa (ac w) h)(v n:Value): Looks (model pw w) h (J4 u8 ⟨[v,n],[]⟩) ([H5 "self",H5 "name",H5 "default"].zip [v,n,.none]):=Kq g.inK (by kernel_rfl)
theorem vH{h:Heap}(g:G aa (ac w) h)(v n d:Value): Looks (model pw w) h (J4 u8 ⟨[v,n,d],[]⟩) ([H5 "self",H5 "name",H5 "default"].zip [v,n,d]):=Kq g.inK (by kernel_rfl)
theorem df{l:List (Str×Str)}(h:Heap)(v:Value)(F:List Addr)(z:VR h (.hdr l) v F): ∃ a,v=.ref a:=by cases z;exact⟨_,rfl⟩
theorem qg(w:World)(A:Around)(items:List (Str×Str))(n0:Str)(hf:∀ p∈items,mK p.1)(hn:mK n0)(hp:Prn (Hd n0))(ro:Ro A 4): dy aa (ac w) w A 205 (.hdr items) [.str n0] (Ca (aZ (Hd n0) items) .none) (.hdr items):=
 dh (fg.up (ag w)) ro (by kernel_rfl) rfl rfl (dargs:=[.none]) (dvs:=[.none]) (fun h=>.cons (F:=[]) .none .nil) rfl rfl (by cases aZ (Hd n0) items <;> rfl) (fun h v vs g hl=>by
  revert hl;revert vs;exact bY fun n=>vI g v n) (dg rfl) (.inl rfl) (fun L a ro'=>qA items n0 .none rfl rfl hf hn hp ro') df
theorem Ce(w:World)(A:Around)(items:List (Str×Str))(n0 d:Str)(hf:∀ p∈items,mK p.1)(hn:mK n0)(hp:Prn (Hd n0))(ro:Ro A 4): dy aa (ac w) w A 205 (.hdr items) [.str n0,.str d] (Ca (aZ (Hd n0) items) (.str d)) (.hdr items):=
 dh (fg.up (ag w)) ro (by kernel_rfl) rfl rfl (dargs:=[]) (dvs:=[]) (fun h=>.nil) rfl rfl (by cases aZ (Hd n0) items <;> rfl) (fun h v vs g hl=>by
  revert hl;revert vs;exact cc fun n d=>vH g v n d) (dg rfl) (.inl rfl) (fun L a ro'=>qA items n0 (.str d) rfl rfl hf hn hp ro') df
end
end
section
noncomputable def cX(items:List (Str×Str))(n v:Str): Str×List (Str×Str):=match aZ (Hd n) items with
 |some r=>(r,items)
 |none=>(v,items++[(n,v)])
section
variable{w:World}{A:Around}
theorem Bt(w:World)(A:Around)(items:List (Str×Str))(n v:Str)(hz:items.length≤1000)(hf:∀ p∈items,mK p.1)(hn:mK n)(hp:Prn (Hd n))(hpn:Prn n)(hpv:Prn v)(ro:Ro A 5): dy aa (ac w) w A 248 (.hdr items) [.str n,.str v] (.str (cX items n v).1) (.hdr (cX items n v).2):=
 dh (pd.toS.up (ag w)) ro (by kernel_rfl) rfl rfl (dargs:=[]) (dvs:=[]) (fun h=>.nil) rfl rfl rfl (fun h u vs g hl=>by
  revert hl;revert vs;exact cc fun a b=>HD (pd.bind [u,a,b] rfl)) (dg rfl) (.inl rfl) (fun L a ro'=>by
  show∃ locs',Ex _ _ _ _ _ _ _ ([H5 "self",H5 "name",H5 "value"].zip [PV.hdr items,.str n,.str v]) _ _∧_
  unfold cX
  cases hg:aZ (Hd n) items with
  |some r=>
   refine⟨ab (H5 "result") (.str r) (ab (H5 "self") (.hdr items) ([H5 "self",H5 "name",H5 "value"].zip [PV.hdr items,.str n,.str v])),?_,by walk_at "lk"⟩
   refine af (bB (p:=.str r) (ae _) (by simp;decide +kernel) (cV (fa:=true&&true) (p:=.hdr items) (p':=.hdr items) (f:=205) (rs:=[.str n]) (ae _) ?_ rfl rfl rfl (by kernel_rfl) (by kernel_rfl) (da (by decide +kernel) (by kernel_rfl) (by kernel_rfl)) (dJ (fg.up (ag _))) (bG.cons ?_ bG.nil rfl) ?_ rfl rfl rfl) (Bind.same rfl) (.inl (by kernel_rfl)) rfl) ?_
   ·walk_at "lk"
   ·walk_at "ev"
   ·obtain this:=qg w (A.deeper (ah 248 ya L)) items n hf hn hp ro'
    rw[hg]at this
    exact this
   ·refine aX (c7 (c:=false) ?_ rfl ?_) (by nofun)
    ·walk_at "tr"
    ·walk_at "ret"
  |none=>
   refine⟨ab (H5 "self") (.hdr (items++[(n,v)])) (ab (H5 "result") .none (ab (H5 "self") (.hdr items) ([H5 "self",H5 "name",H5 "value"].zip [PV.hdr items,.str n,.str v]))),?_,by walk_at "lk"⟩
   refine af (bB (p:=.none) (ae _) (by simp;decide +kernel) (cV (fa:=true&&true) (p:=.hdr items) (p':=.hdr items) (f:=205) (rs:=[.str n]) (ae _) ?_ rfl rfl rfl (by kernel_rfl) (by kernel_rfl) (da (by decide +kernel) (by kernel_rfl) (by kernel_rfl)) (dJ (fg.up (ag _))) (bG.cons ?_ bG.nil rfl) ?_ rfl rfl rfl) (Bind.same rfl) (.inl (by kernel_rfl)) rfl) ?_
   ·walk_at "lk"
   ·walk_at "ev"
   ·obtain this:=qg w (A.deeper (ah 248 ya L)) items n hf hn hp ro'
    rw[hg]at this
    exact this
   ·refine aX (cE (c:=true) ?_ rfl ?_) (by nofun)
    ·walk_at "tr"
    ·refine af (bU (ik (items:=items) (q:=(n,v)) ?_ hz ?_ (by kernel_rfl) (by kernel_rfl) rfl rfl rfl rfl) rfl rfl) ?_
     ·walk_at "lk"
     ·refine Ev.tuple (bG.cons (fe (p:=.hdr items) (f:=true) ?_ (by kernel_rfl) (by kernel_rfl) hZ ?_ hpn (ro'.le (by omega)) rfl rfl) (bG.cons (fe (p:=.hdr items) (f:=true) ?_ (by kernel_rfl) (by kernel_rfl) hZ ?_ hpv (ro'.le (by omega)) rfl rfl) bG.nil rfl) rfl) (by walk_at "few") rfl
      ·walk_at "lk"
      ·walk_at "ev"
      ·walk_at "lk"
      ·walk_at "ev"
     ·walk_at "ret") df
end
end
section
section
variable{gt:List (Str×Value)}{K:List (Addr×Obj)}{w:World}{A:Around}
end
section
variable{w:World}{A:Around}{env:Env}{locs:List (Str×PV)}{pins:List (Str×Addr)}
theorem uA{h:Heap}: ∀{l:List (Str×Str)} {vs:List Value},Pairs h l vs→bf h (l.map aY) vs []:=by
 intro l1
 induction l1 with
 |nil=>
  intro l2
  cases l2 with
  |nil=>
   rintro _
   exact .nil
  |cons=>intro z0;first | exact HY z0 | exact nomatch z0
 |cons p l ih=>
  intro l2
  cases l2 with
  |nil=>intro z0;first | exact HY z0 | exact nomatch z0
  |cons u vs=>
   rintro x
   obtain⟨⟨a,t,u',n,rfl,e⟩,y⟩:=x
   exact .cons (F:=[]) (.tup e (.cons (F:=[]) (.str _ _) (.cons (F:=[]) (.str _ _) .nil)) .nil) (ih y)
theorem Ey(w:World)(A:Around)(items:List (Str×Str))(hz:items.length≤1000)(ro:Ro A 2): au aa (ac w) w A (.ref 222) [.hdr items] (.lst (items.map aY)) true:=.mk fun s vs F g z _=>by
 obtain⟨v,rfl,zv⟩:=z.one1
 refine fH (sK.toS.up (ag w)) ro rfl (HD (sK.bind [v] rfl)) g (args:=[.val v]) (F:=[]) (bf.cons (F:=[]) (.val v) .nil) .nil (W:=[]) (pins:=[]) (fun b hb=>(nomatch hb)) (fun Fs _ b hb=>dD (fun p hp=>?_) b hb) (fun q hq=>(nomatch hq)) fun h1 tk Fs k I _ _=>?_
 ·obtain this:=(JX hp).2
  rw[H7.mp this];rfl
 ·obtain zv1:=zv.kept0 k
  obtain⟨a,d,l',us,m,rfl,rfl,e3,ps,hget⟩:=gF (s:={ s with heap:=h1,toks:=tk }) (expr:=true) I.g zv1
  obtain⟨mm,nn,V⟩:=id I.er.vars
  obtain⟨v',F',_,at',z'⟩:=V.find (show([H5 "self"].zip [PV.val (.ref a)]).lookup (H5 "self")=some (.val (.ref a))from qm)
  cases z'
  obtain hsz:us.toArray.size≤Ip:=by obtain this:=aU;obtain this:=ej ps;simp only[Hx];omega
  refine HE (Jf (Mn (ID (aD I.er ⟨mm,nn,at'⟩ (by kernel_rfl) (by kernel_rfl) (hget _ (.refl _ _) I.g _ _ (wpAny_Slice (Hi (Hi (Hi ?_)))))))))
  obtain hl0:h1.IsList l' us.toArray:=⟨_,e3,rfl,m,rfl⟩
  refine tail_any (T:="list") (ops:=[.ref h1.objs.size,.ref l']) ⟨_,Ht _ e3,rfl⟩ LN.lookup (wpAny_getItem_list_slice (hl0.push _) (LD ..) .none .none .none (by simp) ?_ hsz) (by with_unfolding_all rfl)
  refine⟨⟨k.trans ((aj.push _ _).trans (aj.push _ _)),fun _ _ e=>e,id,rfl⟩,[(h1.push { cls:=.type "slice",data:=.fields #[.none,.none,.none] }).objs.size],?_,fun _ b hb=>?_⟩
  ·rw[slicePick_all]
   exact .lst (n:=0) (Hk _ rfl) ((uA ps).kept0 ((aj.push _ _).trans (aj.push _ _))) (by simp)
  ·rw[H7.mp hb,HX];exact Iu k.size
end
end
section
section
variable{prog:Program}{w:World}{A:Around}{E:Value→Shared→Prop}{s:Shared}
theorem li{l sl a:Addr}{vs us:List Value}{m n:Nat}{Q:Unit→Shared→Prop}(hl:s.heap.get? l=some (bn vs m))(hs:s.heap.IsSliceOf sl .none .none .none)(ha:s.heap.get? a=some (bn us n))(hne:(l==a)=false)(h1:vs.length+us.length≤Ip)
  (hQ:∀ h',(∃ n',h'.get? l=some (bn us n'))→Mj l s.heap h'→Q () { s with heap:=h' }):wpAny (model prog w) A (setItem (.ref l) (.ref sl) (.ref a)) Q E s:=by
 have hL:s.heap.IsList l vs.toArray:=⟨_,hl,rfl,m,rfl⟩
 have hA:s.heap.IsList a us.toArray:=⟨_,ha,rfl,n,rfl⟩
 obtain⟨os,hos,hcs,hds⟩:=id hs
 obtain hTs:s.TypeIs (.ref sl) "slice":=⟨os,hos,hcs⟩
 skip
 refine IF ?_
 refine Hc (wpAny_sequenceKey hL.typeIs (by decide) ?_)
 refine Hc (KD (name:=H5 "__setitem__") hL.typeIs slot_list_setitem
  (L0 slot_list_setitem hL.typeIs entry_list_setitem ?_ (args_list_setitem _ _ _)))
 show wpAny _ _ (Builtin.List.listSubscript? (.ref sl) >>= _) _ _ s
 refine Hc ?_
 skip
 refine Hc (Mz hTs slice_no_index ?_)
 skip
 refine Hi ?_
 show wpAny _ _ (typeOf (.ref sl) >>= _) _ _ s
 refine Hc (Ms hTs ?_)
 skip
 skip
 refine Hc (Hc (JL hos hds (x:=.none) rfl (Hc (MN .none ?_))))
 skip
 refine Hc (JL hos hds (x:=.none) rfl (Hc (MN .none ?_)))
 refine Hc (JL hos hds (x:=.none) rfl (Hc (MN .none (Hi ?_))))
 have hsame:LV (.ref l) (.ref a)=false:=hne
 simp only[hsame,Hq,if_false]
 refine Hc (m:=LK (.ref a) _) ?_
 unfold LK
 refine Hc (Ms hA.typeIs ?_)
 skip
 unfold Mt
 refine Hc (MO ha rfl (Hi ?_))
 refine Hc (Hc (MO hl rfl (Hi ?_)))
 refine Hc (wpAny_of_eq (sliceIndices_raw none none none _ (by simp)) ?_)
 obtain e:Jo none none none vs.toArray.size=(((0:Nat):Int),(vs.length:Int),1):=by
  simp[Jo]
 rw[e]
 rw[if_pos (show((((0:Nat):Int),(vs.length:Int),(1:Int)).2.2==1)=true from rfl)]
 obtain htl:LW (vs.toArray.size+us.toArray.size)=false:=by
  simp only[LW,Hx,decide_eq_false_iff_not];omega
 refine Hc (LC ?_)
 rw[if_neg (by rw[htl];decide)]
 obtain hf:∀ xs:Array Value,xs.size=vs.length→(xs.extract 0 ((0:Nat):Int).toNat++us.toArray++xs.extract (max (((0:Nat):Int)) (vs.length:Int)).toNat)=us.toArray:=by
  intro xs hx
  obtain this:(max (((0:Nat):Int)) (vs.length:Int)).toNat=vs.length:=congrArg Int.toNat (M4 (JP _))
  rw[this,←hx]
  simp
 show wpAny _ _ (updateSeq l _ >>= _) _ _ s
 obtain hfv:=hf vs.toArray (by simp)
 refine Hc (wpAny_updateSeq hl rfl (Hc (wpAny_letGo ?_)) (by simp only[Hx];omega) (by rw[hfv];simp only[Hx];omega))
 refine Hi ⟨.none,rfl,Hi (hQ _ ⟨if us.toArray.size==vs.toArray.size then m else m+1,?_⟩ (IK ..))⟩
 rw[K1 _ hl rfl,N4]
 unfold bn HC
 simp only[hfv]
end
section
variable{w:World}{A:Around}{env:Env}{locs locs':List (Str×PV)}{pins:List (Str×Addr)}
inductive DV(h:Heap)(p:PV)(l:List PV)(vs:List Value)(F:List Addr): Prop
 |mk(v:Value)(r:List Value)(F1 F2:List Addr)(e:vs=v::r)(f:F=F1++F2)(a:VR h p v F1)(b:bf h l r F2)
theorem bA{h:Heap}{p:PV}{l:List PV}{vs:List Value}{F:List Addr}(z:bf h (p::l) vs F): DV h p l vs F:=by
 cases z with | cons a b=>exact⟨_,_,_,_,rfl,rfl,a,b⟩
theorem dK{h:Heap}{vs:List Value}{F:List Addr}(z:bf h [] vs F): vs=[]:=by cases z;rfl
theorem iV{h:Heap}: ∀{l:List (Str×Str)} {vs:List Value} {F:List Addr},bf h (l.map aY) vs F→Pairs h l vs:=by
 intro l
 induction l with
 |nil=>
  rintro vs F z
  obtain rfl:=dK z;trivial
 |cons p l ih=>
  rintro vs F z
  obtain⟨v,r,F1,F2,rfl,rfl,a,b⟩:=bA z
  exact⟨tC a,ih b⟩
theorem zP{x:Str}{np apos:Pos}{items:List (Str×Str)}(hh:A.handled=none)(hl:locs.lookup x=some (.hdr items))(hd:(x==("__debug__":Str))=false)(hcd:(x==("__classdict__":Str))=false): E7 aa (ac w) w A env locs (.Attribute (.Name x np) (H5 "_headers") apos) (items.map aY):=.mk fun s Fs g z=>by
 obtain⟨mm,nn,V⟩:=id z.vars
 obtain⟨v',F',_,at',z'⟩:=V.find hl
 obtain⟨a0,d,l',vs,m,rfl,rfl,e3,ps,hget⟩:=gF (expr:=true) g z'
 obtain⟨W,st,lt,fz⟩:=jH (w:=w) hh e3 ((Hx).symm.trans ((ej ps).trans (Hl _).symm))
 have kp:=aj.push s.heap (mw l')
 refine ID (aD z ⟨mm,nn,at'⟩ hd hcd (hget s (.refl _ _) g _ _ (K4 ⟨_,e3,rfl,m,rfl⟩ ⟨⟨kp,fun _ _ e=>e,id,rfl⟩,_,_,_,_,rfl,W,st,lt,Hw _,fz,fun i v hi e=>jA (ps.kept kp) ((HR).symm.trans e)⟩)))
theorem vn{x:Str}{items items':List (Str×Str)}{e:Expr}{np apos spos p pos:Pos}(hl:locs.lookup x=some (.hdr items))(hz:items.length+items'.length≤1000)(he:Ev aa (ac w) w A env locs e (.lst (items'.map aY)) true)(hd:(x==("__debug__":Str))=false)(hcd:(x==("__classdict__":Str))=false)
  (hs:JD e (some (.Subscript (.Attribute (.Name x np) (H5 "_headers") apos) (.Slice none none none spos) p)) pos.line env=pure false):
  Ex aa (ac w) pins w A env (exec (.Assign [.Subscript (.Attribute (.Name x np) (H5 "_headers") apos) (.Slice none none none spos) p] e pos) env) locs .next (ab x (.hdr items') locs):=.mk fun s Fs I=>by
 refine wpAny_Assign_Subscript (Pw.andThen (he.run s Fs I.g I.er) fun u s1 hh=>?_) hs
 obtain⟨k1,Fq,zq,fr⟩:=hh
 have I1:=I.step0 k1
 obtain⟨v,F,z,a,hF,hE,fin⟩:=I1.turn (ae w) hl rfl
 obtain⟨a0,d,l',vs,m,rfl,rfl,e3,ps,hget⟩:=gF (expr:=true) I1.g z
 refine ID (aD I1.er a hd hcd (hget s1 (.refl _ _) I1.g _ _ (wpAny_Slice (Hi (Hi (Hi ?_))))))
 cases zq with
 | @lst _ b us n F0 eb y nd=>
  obtain kp:=aj.push s1.heap { cls:=.type "slice",data:=.fields #[.none,.none,.none] }
  obtain hlt:l'<s.heap.objs.size:=by
   obtain this:=hF l' (by simp)
   exact I.lt l' (fW this.1)
  obtain hbl:s.heap.objs.size≤b:=fr rfl b (by simp)
  have hne:(l'==b)=false:=beq_eq_false_iff_ne.mpr (Im (HB hlt hbl))
  obtain hsz:vs.length+us.length≤Ip:=by
   obtain this:=aU;obtain this:=ej ps
   obtain h2:us.length=(items'.map aY).length:=y.length
   rw[Hl]at h2
   omega
  refine li (kp.get e3) (LD ..) (kp.get eb) hne hsz fun h' ⟨n',hp⟩ hsb=>?_
  have kp2:aj [l'] (s1.heap.push { cls:=.type "slice",data:=.fields #[.none,.none,.none] }) h':=aj.same (kp.get e3) rfl hsb
  have kk:aG [a0,d,l'] s1 { s1 with heap:=h',toks:=s1.toks+1 }:=⟨(kp.all.trans kp2).mono fun c hc=>by rw[H7.mp hc];simp,fun _ _ e=>e,id,rfl⟩
  obtain hv:VR h' (.hdr items') (.ref a0) [a0,d,l']:=by
   cases z with
   |hdr yy=>
    obtain⟨d',l2,hs,t,n,vs',m',eF,nd2,y1,y2,y3,y4⟩:=yy
    simp only[J1,and_true,true_and]at eF
    obtain⟨rfl,rfl⟩:=eF
    simp only[Hu,Ha,Hs,or_false,not_or]at nd2
    have g {b:Addr} {o:Obj} (e:s1.heap.get? b=some o) (hb:b≠l'):h'.get? b=some o:=kp2.keep _ _ (kp.get e) (.inl (by simpa using hb))
    refine .hdr ⟨d,l',hs,t,n,us,n',rfl,by simp[nd2],g y1 nd2.1.2,g y2 nd2.2.1,hp,?_⟩
    exact((iV y).kept kp).kept kp2
  obtain⟨Fs',I',o',f'⟩:=fin { s1 with heap:=h',toks:=s1.toks+1 } _ _ kk hv (fun b hb=>.inl hb)
  exact⟨k1.all.trans (kk.mono fun b hb=>(hF b hb).1),rfl,Fs',I',fun c hc=>(o' c hc).imp id (H6 k1.heap.size)⟩
theorem vm{x:Str}{items items':List (Str×Str)}{i:Expr}{n:Str}{f:Bool}{np p pos:Pos}(hl:locs.lookup x=some (.hdr items))(hi:Ev aa (ac w) w A env locs i (.str n) f)(hd:(x==("__debug__":Str))=false)(hcd:(x==("__classdict__":Str))=false)
  (hm:dy aa (ac w) w A 176 (.hdr items) [.str n] .none (.hdr items')):
  Ex aa (ac w) pins w A env (exec (.Delete [.Subscript (.Name x np) i p] pos) env) locs .next (ab x (.hdr items') locs):=.mk fun s Fs I=>by
 obtain⟨v,F,z,a,hF,hE,fin⟩:=I.turn (ae w) hl rfl
 refine wpAny_Delete (wpAny_deleteEach_cons ?_)
 skip
 refine Hc (aD I.er a hd hcd (Hc (IF (Pw.andThen (hi.run s Fs I.g I.er) fun u s1 ⟨k1,Fq,zq,fr⟩=>Hc (Km (Hc (IF ?_)))))))
 obtain rfl:=zq.flat rfl
 obtain g1:=I.g.kept0 k1.heap
 have z1:=z.kept0 k1.heap
 obtain hcall:=hm.run s1 v [u] F g1 z1 (fun b hb=>(hF b hb).2) (.cons (F:=[]) zq .nil)
 obtain⟨a0,rfl⟩:=df _ _ _ z1
 obtain J:∃ ox od,InstAt s1.heap a0 ox 258 od:=by
  cases z1 with
  |hdr y=>
   obtain⟨d',l2,hs,t,n,vs',m',eF,nd,y1,y2,y3,y4⟩:=y
   exact⟨_,some _,y1,rfl,rfl,y2⟩
 obtain⟨ox,od,J⟩:=J
 skip
 refine IF (Hc (Hc (J.type.here ?_)))
 refine Hc ((anyM_none g1.inK (by kernel_rfl)).here ?_)
 skip
 refine Hi (Hc (special_fn g1.inK J (f:=176) (by kernel_rfl) (by kernel_rfl) (Pw.andThen hcall fun r s2 ⟨k2,zr,F',z',o'⟩=>Hi (wpAny_release (wpAny_deleteEach_nil ?_)))))
 obtain⟨Fs',I',o2,f2⟩:=fin s2 _ F' (k1.all.trans k2) z' fun b hb=>(o' b hb).imp id (H6 k1.heap.size)
 exact⟨(k1.all.trans k2).mono fun b hb=>(hF b hb).1,rfl,Fs',I',o2⟩
end
end
section
noncomputable abbrev B3:List Stmt:=aF (aA 66 (H5 "__delitem__"))
noncomputable abbrev GH:Scope:=sL (DD ((B3[1]?).getD (.Pass default)))
noncomputable def xy(nm:Str): PV→Bool
 | .tup [.str k,_]=>Hd k != nm
 |_=>true
noncomputable def gp(nm:Str)(items:List (Str×Str)): List (Str×Str):=items.filter fun p=>Hd p.1 != nm
theorem qU(nm:Str): ∀ items:List (Str×Str),((items.map aY).filter (xy nm)).map (fun p=>p)=(gp nm items).map aY
 |[]=>rfl
 |p::r=>by
  have ih:=qU nm r
  simp only[List.map_id']at ih ⊢
  unfold gp at ih ⊢
  simp only[HF,IS]
  show(if xy nm (aY p)=true then _ else _)=_
  have:xy nm (aY p)=(Hd p.1 != nm):=rfl
  rw[this]
  split <;> simp[ih]
section
variable{w:World}{A:Around}
theorem Ez(w:World)(A:Around)(items:List (Str×Str))(n:Str)(hz:items.length≤500)(hf:∀ p∈items,mK p.1)(hn:mK n)(hp:Prn (Hd n))(ro:Ro A 4): dy aa (ac w) w A 176 (.hdr items) [.str n] .none (.hdr (gp (Hd n) items)):=
 dh (yA.toS.up (ag w)) ro (by kernel_rfl) rfl rfl (dargs:=[]) (dvs:=[]) (fun h=>.nil) rfl rfl rfl (fun h u vs g hl=>by
  revert hl;revert vs;exact bY fun a=>HD (yA.bind [u,a] rfl)) (dg rfl) (.inr ⟨rfl,rfl⟩) (fun L a ro'=>by
  show∃ locs',Ex _ _ _ _ _ _ _ ([H5 "self",H5 "name"].zip [PV.hdr items,.str n]) _ _∧_
  have hn':Ig (Hd n).length=false:=hn
  obtain hh:=ro'.1
  refine⟨ab (H5 "self") (.hdr (gp (Hd n) items)) (ab (H5 "name") (.str (Hd n)) ([H5 "self",H5 "name"].zip [PV.hdr items,.str n])),?_,by walk_at "lk"⟩
  refine af (az (p:=.str (Hd n)) (ae _) (by simp;decide +kernel) (fe (p:=.hdr items) (f:=true) ?_ (by kernel_rfl) (by kernel_rfl) hZ ?_ hp (ro'.le (by omega)) rfl rfl) (Bind.same rfl) (.inr ⟨by kernel_rfl,by kernel_rfl⟩) (by rfl)) ?_
  ·walk_at "lk"
  ·walk_at "ev"
  refine af (vn (items:=items) ?_ (by unfold gp;obtain this:=K0 (fun p:Str×Str=>Hd p.1 != Hd n) items;omega) ?_ (by kernel_rfl) (by kernel_rfl) rfl) aq
  ·walk_at "lk"
  ·rw[←qU]
   refine uf (cl:=[(H5 "name",L+1)]) (caps:=[(H5 "name",.str (Hd n))]) (zP hh (items:=items) ?_ (by kernel_rfl) (by kernel_rfl)) (by rw[Hl];omega) rfl (by decide +kernel) rfl (by decide +kernel) (by decide +kernel) ?_ (fun C p hp=>mS ?_) (fun C p hp _=>?_) (by intro _;rfl)
   ·walk_at "lk"
   ·exact⟨⟨by walk_at "lk",by kernel_rfl,.inl (by kernel_rfl),by kernel_rfl⟩,trivial⟩
   ·obtain⟨q,hq,rfl⟩:=Hm.mp hp
    have hk:Ig (Hd q.1).length=false:=hf q hq
    show Tr _ _ _ _ _ _ _ (Hd q.1 != Hd n)
    skip
    walk_at "tr"
   ·obtain⟨q,hq,rfl⟩:=Hm.mp hp
    refine⟨?_,rfl⟩
    unfold aY
    walk_at "ev") df
theorem EA(w:World)(A:Around)(items:List (Str×Str))(n v:Str)(hz:items.length≤500)(hf:∀ p∈items,mK p.1)(hn:mK n)(hp:Prn (Hd n))(hpn:Prn n)(hpv:Prn v)(ro:Ro A 5): dy aa (ac w) w A 171 (.hdr items) [.str n,.str v] .none (.hdr (gp (Hd n) items++[(n,v)])):=
 dh (yB.toS.up (ag w)) ro (by kernel_rfl) rfl rfl (dargs:=[]) (dvs:=[]) (fun h=>.nil) rfl rfl rfl (fun h u vs g hl=>by
  revert hl;revert vs;exact cc fun a b=>HD (yB.bind [u,a,b] rfl)) (dg rfl) (.inr ⟨rfl,rfl⟩) (fun L a ro'=>by
  show∃ locs',Ex _ _ _ _ _ _ _ ([H5 "self",H5 "name",H5 "val"].zip [PV.hdr items,.str n,.str v]) _ _∧_
  obtain hlen:(gp (Hd n) items).length≤1000:=by unfold gp;obtain this:=K0 (fun p:Str×Str=>Hd p.1 != Hd n) items;omega
  refine⟨ab (H5 "self") (.hdr (gp (Hd n) items++[(n,v)])) (ab (H5 "self") (.hdr (gp (Hd n) items)) ([H5 "self",H5 "name",H5 "val"].zip [PV.hdr items,.str n,.str v])),?_,by walk_at "lk"⟩
  refine af (vm (f:=true) (n:=n) (items:=items) ?_ ?_ (by kernel_rfl) (by kernel_rfl) (Ez w _ items n hz hf hn hp ro')) ?_
  ·walk_at "lk"
  ·walk_at "ev"
  refine af (bU (ik (items:=gp (Hd n) items) (q:=(n,v)) ?_ hlen ?_ (by kernel_rfl) (by kernel_rfl) rfl rfl rfl rfl) rfl rfl) aq
  ·walk_at "lk"
  ·refine Ev.tuple (bG.cons (fe (p:=.hdr (gp (Hd n) items)) (f:=true) ?_ (by kernel_rfl) (by kernel_rfl) hZ ?_ hpn (ro'.le (by omega)) rfl rfl) (bG.cons (fe (p:=.hdr (gp (Hd n) items)) (f:=true) ?_ (by kernel_rfl) (by kernel_rfl) hZ ?_ hpv (ro'.le (by omega)) rfl rfl) bG.nil rfl) rfl) (by walk_at "few") rfl
   ·walk_at "lk"
   ·walk_at "ev"
   ·walk_at "lk"
   ·walk_at "ev") df
end
end
section
section
variable{w:World}{A:Around}{E:Value→Shared→Prop}{K:Frag}{C:Addr}{s:Shared}
set_option tactic.hygienic true in
theorem fj{a d:Addr}{es:List HP}{n:Nat}{name:Str}{v:Value}{Q:Unit→Shared→Prop}(X:K.In s.heap)(ha:s.heap.get? a=some { cls:=.ref C,dict:=some d })(hD:s.heap.get? d=some (bH es n))
  (hs:findIn K (.ref C) "__setattr__" = some (some (.builtin "object.__setattr__"))) (hp:plainOver K C=true) (ht:takerIn K C name=some none) (hh:(clsIn K C).any (·.hasDict)=true) (hl:(lookIn name (bH es n)).isSome=true) (hz:es.length≤100)
  (h:∀ h' t,h'.get? d=some (bH (putL name (Iq w.params name) (.str name t) v es) (putN name es n))→Mj d s.heap h'→Q () { s with heap:=h',toks:=s.toks+2 }):
  wpAny (model pw w) A (setAttr (.ref a) name v) Q E s:=by
 obtain I:InstAt s.heap a { cls:=.ref C,dict:=some d } C (some (bH es n)):=⟨ha,rfl,rfl,hD⟩
 refine set_plain X I hs ?_
 refine osa_open (s:={ s with toks:=s.toks+1 }) X I hp ht fun b=>?_
 obtain⟨cd,hc,hd'⟩:=any_some hh
 obtain D':(s.heap.update d (Obj.putName name (Iq w.params name) (.str name (s.toks+1)) v)).get? d=some (bH (putL name (Iq w.params name) (.str name (s.toks+1)) v es) (putN name es n)):=by
  obtain e:=putName_dict name (Iq w.params name) (.str name (s.toks+1)) v es n
  rw[K1 _ hD (by rw[e];rfl),e]
 refine Hc (Hi (Hc (Hc (wpAny_loadPart ha (Hc (Looks.here (s:={ s with toks:=s.toks+1 }) (looks_clsIn X hc) ?_))))))
 rw[hd']
 refine Hi (a:=some d) (Hc (Hi (Hc ?_)))
 skip
 refine Hc (Hc (wpAny_askSetting (Hi (Hc (wpAny_mkText (Hc (wpAny_loadPart hD ?_)))))))
 dsimp only
 have c:(!es.toArray.any (·.key.isStr name)&&es.toArray.any (·.refKey))=false:=by
  simp only[lookIn]at hl
  rw[←Array.any_toList,←Array.any_toList]
  split at hl
  ·rename_i en he
   rw[Mb.mpr ⟨en,List.mem_of_find?_eq_some he,List.find?_some he⟩];rfl
  ·split at hl
   ·cases hl
   ·rename_i z;rw[M7]at z;rw[z,LF]
 rw[aRefKeyMayBeTheName_at,c]
 refine wpAny_updatePart hD ?_
 have hz2:(putL name (Iq w.params name) (.str name (s.toks+1)) v es).length≤es.length+1:=by
  obtain this:∀ l:List HP,(putL name (Iq w.params name) (.str name (s.toks+1)) v l).length≤l.length+1:=by
   intro l
   induction l with
   |nil=>simp[putL]
   |cons e r ih=>unfold putL;split <;> simp <;> omega
  exact this es
 refine Hc (wpAny_lookBehind D' (pastItsLine_dict (by rw[Hx,JM];omega)) ?_)
 exact Hi (h _ _ D' (IK ..))
end
theorem qS{h:Heap}(name:Str): ∀{l:List (Str×Int×PV)} {es:List HP} {F:List Addr},eG h l es F→(l.any fun q=>q.1==name)=false→es.find? (·.key.isStr name)=none∧es.any (·.refKey)=false∧es.any (·.key.isStr name)=false
 :=by
 intro l es F z e
 induction z using eG.ind with
 |nil=>exact⟨rfl,rfl,rfl⟩
 | @cons x p hs t v H ps es G a b ih=>
   simp only[L2,MP]at e
   obtain⟨h1,h2,h3⟩:=ih e.2
   obtain hk:(N8 x t).isStr name=false:=e.1
   refine⟨?_,?_,?_⟩
   ·simp only[Lc,hk,h1]
   ·rw[L2,h2];rfl
   ·simp only[L2,h3,hk,Bool.or_false]
theorem qc{name:Str}{hsh:Int}{key v:Value}: ∀{es:List HP},es.any (·.key.isStr name)=false→putL name hsh key v es=es++[⟨hsh,key,v⟩]:=by
 intro es
 induction es with
 |nil=>
  rintro _
  exact rfl
 |cons e r ih=>
  rintro h
  simp only[L2,MP]at h
  unfold putL
  rw[if_neg (by rw[h.1];decide),ih h.2];rfl
theorem AS{h:Heap}{x:Str}{p:PV}{hs:Int}{t:Tok}{v:Value}{G:List Addr}(z:VR h p v G){l:List (Str×Int×PV)}{es:List HP}{F:List Addr}(d:eG h l es F): eG h (l++[(x,hs,p)]) (es++[⟨hs,.str x t,v⟩]) (F++G):=by
 induction d using eG.ind with
 |nil=>
  obtain this:=eG.cons (x:=x) (hs:=hs) (t:=t) z (eG.nil (h:=h))
  rw[Hj]at this
  exact this
 |cons a _ ih=>
  rw[Ho]
  exact .cons a ih
theorem uk{h:Heap}{l:List (Str×Int×PV)}{es:List HP}{F:List Addr}(d:eG h l es F): es.length=l.length:=by
 induction d using eG.ind with
 |nil=>rfl
 |cons _ _ ih=>exact congrArg (· + 1) ih
section
variable{w:World}{A:Around}{env:Env}{locs locs':List (Str×PV)}{pins:List (Str×Addr)}
noncomputable def t7(w:World)(C:Addr)(name:Str): Prop:=findIn (ac w) (.ref C) "__setattr__" = some (some (.builtin "object.__setattr__"))∧plainOver (ac w) C=true∧takerIn (ac w) C name=some none∧(clsIn (ac w) C).any (·.hasDict)=true
theorem j9{x name:Str}{C:Addr}{l:List (Str×Int×PV)}{e:Expr}{p q:PV}{np apos pos:Pos}(hC:t7 w C name)(hl:locs.lookup x=some (.inst C l))(hnew:(l.any fun q=>q.1==name)=false)(hz:l.length≤50)(he:Ev aa (ac w) w A env locs e p true)(hb:Bind p q)
  (hd:(x==("__debug__":Str))=false) (hcd:(x==("__classdict__":Str))=false) (hs:JD e (some (.Attribute (.Name x np) name apos)) pos.line env=pure false):
  Ex aa (ac w) pins w A env (exec (.Assign [.Attribute (.Name x np) name apos] e pos) env) locs .next (ab x (.inst C (l++[(name,Iq w.params name,q)])) locs):=.mk fun s Fs I=>by
 obtain⟨v0,F,z0,a0',hF,hE,fin⟩:=I.turn (ae w) hl rfl
 refine KS (Pw.andThen (he.run s Fs I.g I.er) fun u s1 hh=>?_) hs
 obtain⟨k1,Fq,zq,fr⟩:=hh
 obtain I1:=I.step0 k1
 obtain z:=z0.kept0 k1.heap
 obtain a:∃ m,s1.heap.Ns env.locals m∧At s1.heap env m x v0:=let⟨m,n,e⟩:=a0';⟨m,bc k1.heap n (by simp),e.kept k1.heap (by simp)⟩
 obtain zb:=hb.vr zq
 have fr:=fr rfl
 clear z0
 cases z with
 | @inst _ _ a0 d es n F0 e1 e2 dr nd=>
  obtain⟨f1,f2,f3⟩:=qS name dr hnew
  have hlen:=uk dr
  refine aD I1.er a hd hcd (fj I1.g.inK e1 e2 hC.1 hC.2.1 hC.2.2.1 hC.2.2.2 ?_ (by omega) fun h' t hD hsb=>?_)
  ·simp[lookIn,f1,f2]
  ·have kp:aj [d] s1.heap h':=aj.same e2 rfl hsb
   rw[qc f3]at hD
   have hlt:∀ b∈a0::d::F0,b<s.heap.objs.size:=fun b hb=>I.lt b (fW (hF b hb).1)
   have nd':=nd
   simp only[Hu,Ha,not_or]at nd'
   obtain hdq:∀ b∈Fq,b∉[d]:=fun b hb hm=>by
    rw[H7.mp hm]at hb
    exact absurd (hlt d (by simp)) (Hz.mpr (fr d hb))
   obtain hv:VR h' (.inst C (l++[(name,Iq w.params name,q)])) (.ref a0) (a0::d::(F0++Fq)):=by
    refine .inst (kp.keep _ _ e1 (.inl (by simpa using nd'.1.1))) hD (AS (zb.kept kp hdq) (dr.kept kp fun b hb hm=>?_)) ?_
    ·rw[H7.mp hm]at hb
     exact nd'.2.1 hb
    ·have:a0::d::(F0++Fq)=(a0::d::F0)++Fq:=rfl
     rw[this,Hn]
     refine⟨nd,zq.nodup,fun b hb c hc e=>?_⟩
     subst e
     exact absurd (hlt b hb) (Hz.mpr (fr b hc))
   have kk:aG (a0::d::F0) s1 { s1 with heap:=h',toks:=s1.toks+2 }:=⟨kp.mono fun b hb=>by rw[H7.mp hb];simp,fun _ _ e=>e,id,rfl⟩
   obtain⟨Fs',I',o',f'⟩:=fin { s1 with heap:=h',toks:=s1.toks+2 } _ _ (k1.all.trans kk) hv (fun b hb=>by
    rcases H9.mp (show b∈(a0::d::F0)++Fq from hb)with hb | hb
    ·exact .inl hb
    ·exact .inr (fr b hb))
   exact⟨(k1.all.trans kk).mono fun b hb=>(hF b hb).1,rfl,Fs',I',o'⟩
end
end
section
theorem iR{x y:Str}{p:PV}(hne:y≠x): ∀{l:List (Str×PV)},(ab x p l).lookup y=l.lookup y:=by
 intro l
 induction l with
 |nil=>
  have:(y==x)=false:=by simpa using hne
  simp[ab,KE,this]
 |cons e9 l ih=>
  obtain⟨z,r⟩:=e9
  unfold ab
  split
  ·rename_i e
   subst e
   have:(y==z)=false:=by simpa using hne
   simp[KE,this]
  ·simp only[KE]
   split
   ·rfl
   ·exact ih
theorem jv{x y:Str}{p:PV}{l:List (Str×PV)}(h:(l.lookup y).isSome=true): ((ab x p l).lookup y).isSome=true:=by
 by_cases e:y=x
 ·subst e;rw[dG];rfl
 ·rw[iR e];exact h
theorem pW{y:Str}: ∀{xs:List Str} {ps:List PV} {l:List (Str×PV)},y∉xs→(bl xs ps l).lookup y=l.lookup y
 |[],_,_,_=>rfl
 |_::_,[],_,_=>rfl
 |x::xs,p::ps,l,h=>by
  simp only[Ha,not_or]at h
  unfold bl
  rw[pW h.2,iR h.1]
theorem lB{x:Str}{p:PV}: ∀{xs:List Str} {ps:List PV} {l:List (Str×PV)},x∉xs→(l.lookup x).isSome=true→ab x p (bl xs ps l)=bl xs ps (ab x p l)
 |[],_,_,_,_=>rfl
 |_::_,[],_,_,_=>rfl
 |y::xs,q::ps,l,h,hs=>by
  simp only[Ha,not_or]at h
  unfold bl
  rw[lB h.2 (jv hs),uL h.1 hs]
theorem gu:∀{xs:List Str} {ps qs:List PV} {l:List (Str×PV)},xs.Nodup→xs.length=ps.length→xs.length=qs.length→(∀ x∈xs,(l.lookup x).isSome=true)→bl xs ps (bl xs qs l)=bl xs ps l
 |[],_,_,_,_,_,_,_=>rfl
 |x::xs,p::ps,q::qs,l,nd,h1,h2,hs=>by
  rw[Hu]at nd
  simp only[Hh,Kr]at h1 h2
  have hx:=hs x (.head _)
  show bl xs ps (ab x p (bl xs qs (ab x q l)))=bl xs ps (ab x p l)
  rw[lB nd.1 (jv hx),jw]
  exact gu nd.2 h1 h2 fun y hy=>jv (hs y (.tail _ hy))
 |_::_,[],_,_,_,h,_,_=>by simp at h
 |_::_,_::_,[],_,_,_,h,_=>by simp at h
section
variable{gt:List (Str×Value)}{K:List (Addr×Obj)}{pins:List (Str×Addr)}{w:World}{A:Around}{env:Env}{s:Shared}
noncomputable def gn(h:Heap)(env:Env)(x:Str)(v:Value): Prop:=∃ m,h.Ns env.locals m∧At h env m x v
theorem gn.fn{h:Heap}{x:Str}{v v':Value}(a:gn h env x v)(b:gn h env x v'): v=v':=by
 obtain⟨m,n,a⟩:=a
 obtain⟨m',n',b⟩:=b
 obtain this:=mo n n'
 subst this
 rcases a with⟨k,e⟩ | ⟨k,c,e,i⟩
 ·rcases b with⟨_,e'⟩ | ⟨k',_⟩
  ·rw[e]at e';cases e';rfl
  ·rw[k]at k';rcases k' with k' | k' <;> cases k'
 ·rcases b with⟨k',_⟩ | ⟨_,c',e',i'⟩
  ·rw[k']at k;rcases k with k | k <;> cases k
  ·rw[e]at e';cases e'
   obtain⟨o,e1,e2⟩:=i
   obtain⟨o',e1',e2'⟩:=i'
   rw[e1]at e1';cases e1'
   rw[e2]at e2';cases e2';rfl
inductive DH(gt:List (Str×Value))(K:List (Addr×Obj))(pins:List (Str×Addr))(env:Env)(locs:List (Str×PV))(Fs:List (List Addr))(s:Shared)(xs:List Str)(ps:List PV): Prop
 |mk(vs:List Value)(F:List Addr)(Fs':List (List Addr))(z:bf s.heap ps vs F)(n:F.Nodup)(a:∀ q∈xs.zip vs,gn s.heap env q.1 q.2)(I:bw gt K pins env (bl xs (vs.map .val) locs) Fs' s)(l:∀ q∈xs.zip vs,(bl xs (vs.map PV.val) locs).lookup q.1=some (.val q.2))
  (d:∀ b∈F,b∉env.locals::env.cells.map (·.2)++Fs'.flatten) (o1:(∀ p∈ps,p.isOwn=true)→∀ b∈F,b∈ow env locs Fs) (o2:∀ b∈ow env (bl xs (vs.map .val) locs) Fs',b∈ow env locs Fs) (f1:∀ b∈F,b∈Fs.flatten) (f2:∀ b∈Fs'.flatten,b∈Fs.flatten)
theorem bw.takes:∀{xs:List Str} {ps:List PV} {locs:List (Str×PV)} {Fs:List (List Addr)},xs.Nodup→xs.length=ps.length→(∀ q∈xs.zip ps,locs.lookup q.1=some q.2)→bw gt K pins env locs Fs s→
  DH gt K pins env locs Fs s xs ps
 |[],[],locs,Fs,_,_,_,I=>⟨[],[],Fs,.nil,.nil,fun q hq=>(nomatch hq),I,fun q hq=>(nomatch hq),fun b hb=>(nomatch hb),fun _ b hb=>(nomatch hb),fun b hb=>hb,fun b hb=>(nomatch hb),fun b hb=>hb⟩
 |x::xs,p::ps,locs,Fs,nd,hl,hk,I=>by
  rw[Hu]at nd
  simp only[Hh,Kr]at hl
  obtain⟨v,F1,Fs1,z,a,I1,l1,d1,o1,o2,f1,f2⟩:=I.take (hk (x,p) (.head _))
  obtain⟨vs,F2,Fs2,zs,n2,as,I2,ls,d2,o12,o22,f12,f22⟩:=bw.takes (xs:=xs) (ps:=ps) (locs:=ab x (.val v) locs) nd.2 hl (fun q hq=>by
   have hne:q.1≠x:=fun e=>nd.1 (e▸(JX hq).1)
   rw[iR hne]
   exact hk q (.tail _ hq)) I1
  refine⟨v::vs,F1++F2,Fs2,.cons z zs,?_,fun q hq=>?_,I2,fun q hq=>?_,fun b hb=>?_,fun ho b hb=>?_,fun b hb=>o2 b (o22 b hb),fun b hb=>?_,fun b hb=>f2 b (f22 b hb)⟩
  ·rw[Hn]
   exact⟨z.nodup,n2,fun b hb c hc e=>d1 b hb (Hb _ (e▸f12 c hc))⟩
  ·rcases Ha.mp hq with rfl | hq
   ·exact a
   ·exact as q hq
  ·rcases Ha.mp hq with rfl | hq
   ·show(bl xs (vs.map PV.val) (ab x (.val v) locs)).lookup x=_
    rw[pW nd.1];exact l1
   ·exact ls q hq
  ·rcases H9.mp hb with hb | hb
   ·exact fun hm=>d1 b hb ((H9.mp hm).elim (fun h=>H8 _ h) fun h=>Hb _ (f22 b h))
   ·exact d2 b hb
  ·rcases H9.mp hb with hb | hb
   ·exact o1 (ho p (.head _)) b hb
   ·exact o2 b (o12 (fun p hp=>ho p (.tail _ hp)) b hb)
  ·rcases H9.mp hb with hb | hb
   ·exact f1 b hb
   ·exact f2 b (f12 b hb)
 |[],_::_,_,_,_,h,_,_=>by simp at h
 |_::_,[],_,_,_,h,_,_=>by simp at h
theorem bw.puts:∀{xs:List Str} {ps:List PV} {vs:List Value} {locs:List (Str×PV)} {Fs:List (List Addr)} {F:List Addr},xs.Nodup→xs.length=ps.length→bw gt K pins env locs Fs s→(∀ q∈xs.zip vs,locs.lookup q.1=some (.val q.2))→bf s.heap ps vs F→F.Nodup→
  (∀ b∈F,b∉env.locals::env.cells.map (·.2)++Fs.flatten)→(∀ b∈F,348≤b)→∃ Fs',bw gt K pins env (bl xs ps locs) Fs' s∧(∀ b∈ow env (bl xs ps locs) Fs',b∈ow env locs Fs∨b∈F)∧∀ b∈Fs'.flatten,b∈F∨b∈Fs.flatten:=by
 intro xs
 induction xs with
 |nil=>
  intro ps vs locs Fs F _ hl I _ _ _ _ _
  cases ps with
  |nil=>exact⟨Fs,I,fun b hb=>.inl hb,fun b hb=>.inr hb⟩
  |cons=>cases hl
 |cons x xs ih=>
  intro ps vW locs Fs F nd hl I hk zs nF d hi
  cases ps with
  |nil=>cases hl
  |cons p ps=>
   rw[Hu]at nd
   simp only[Hh,Kr]at hl
   have hh:=bA zs;clear zs;obtain⟨v,vs,F1,F2,rfl,rfl,z,zs⟩:=hh
   rw[Hn]at nF
   obtain⟨n1,n2,n3⟩:=nF
   obtain⟨Fs1,I1,o1,f1⟩:=I.put (hk (x,v) (.head _)) z (fun b hb=>d b (H8 _ hb)) fun _ b hb=>hi b (H8 _ hb)
   obtain⟨Fs2,I2,o2,f2⟩:=ih nd.2 hl I1 (fun q hq=>by
    obtain hne:q.1≠x:=fun e=>nd.1 (e▸(JX hq).1)
    rw[iR hne]
    exact hk q (.tail _ hq)) zs n2 (fun b hb hm=>by
     rcases H9.mp hm with hm | hm
     ·exact d b (Hb _ hb) (H8 _ hm)
     ·rcases f1 b hm with hm | hm
      ·exact n3 b hm b hb rfl
      ·exact d b (Hb _ hb) (Hb _ hm)) fun b hb=>hi b (Hb _ hb)
   refine⟨Fs2,I2,fun b hb=>?_,fun b hb=>?_⟩
   ·rcases o2 b hb with hb | hb
    ·exact(o1 b hb).imp id fun h=>H8 _ h.2
    ·exact .inr (Hb _ hb)
   ·rcases f2 b hb with hb | hb
    ·exact .inl (Hb _ hb)
    ·exact(f1 b hb).imp (fun h=>H8 _ h) id
end
section
variable{gt:List (Str×Value)}{K:List (Addr×Obj)}{pins:List (Str×Addr)}{w:World}{A:Around}{env:Env}{locs locs1 locs2:List (Str×PV)}
inductive BS(s:Shared)(r:PV)(own':List PV)(cc:List Value)(F:List Addr)(u:Value)(s':Shared): Prop
 |mk(k:aG F s s')(H F':List Addr)(z:VR s'.heap r u H)(zs:bf s'.heap own' cc F')(n:(H++F').Nodup)(o:∀ b∈H++F',b∈F∨s.heap.objs.size≤b)
structure jo(gt:List (Str×Value))(K:List (Addr×Obj))(w:World)(A:Around)(f:Addr)(fl own:List PV)(r:PV)(own':List PV): Prop where
 run:∀ s bY cc F,G gt K s.heap→bf s.heap fl bY []→bf s.heap own cc F→F.Nodup→(∀ b∈F,348≤b)→wpAny (model pw w) A (call (.ref f) (bY++cc)) (BS s r own' cc F) (fun _ _=>False) s
structure bv(gt:List (Str×Value))(K:List (Addr×Obj))(w:World)(A:Around)(env:Env)(locs:List (Str×PV))(es:List Expr)(xs:List Str): Prop where
 run:∀ s Fs pos,dO s.heap env locs Fs→wpAny (model pw w) A (spliced (backTo pos (Hg es env))) (fun vs s'=>s'=s∧vs.length=xs.length∧∀ q∈xs.zip vs,gn s.heap env q.1 q.2) (fun _ _=>False) s
theorem bv.nil:bv gt K w A env locs [] []:=.mk fun s Fs pos I=>spliced_none ⟨rfl,rfl,fun q hq=>nomatch hq⟩
theorem bv.cons{x:Str}{np:Pos}{es:List Expr}{xs:List Str}{p:PV}(hl:locs.lookup x=some p)(hd:(x==("__debug__":Str))=false)(hcd:(x==("__classdict__":Str))=false)(h:bv gt K w A env locs es xs)
  (he:Hg (.Name x np::es) env=(false,eval (.Name x np) env)::Hg es env):bv gt K w A env locs (.Name x np::es) (x::xs):=.mk fun s Fs pos z=>by
 obtain⟨m,n,V⟩:=id z.vars
 obtain⟨v,F,_,a,zv⟩:=V.find hl
 refine Mm (aD z ⟨m,n,a⟩ hd hcd (Pw.andThen (h.run s Fs pos z) fun vs s' hh=>?_)) he
 obtain⟨e,hn,hq⟩:=hh
 subst e
 exact⟨rfl,by simp[hn],fun q hm=>by
  rcases Ha.mp hm with rfl | hm
  ·exact⟨m,n,a⟩
  ·exact hq q hm⟩
inductive FA(gt:List (Str×Value))(K:List (Addr×Obj))(pins:List (Str×Addr))(env:Env)(locs:List (Str×PV))(Fs:List (List Addr))(s:Shared)(rs:List PV)(xs:List Str)(locs':List (Str×PV))(vs:List Value)(s':Shared): Prop
 |mk(bY cc:List Value)(Fs':List (List Addr))(e:vs=bY++cc)(k:aG (ow env locs Fs) s s')(z:bf s'.heap rs bY [])(I:bw gt K pins env locs' Fs' s')(o:∀ b∈ow env locs' Fs',b∈ow env locs Fs∨s.heap.objs.size≤b)(n:cc.length=xs.length)(q:∀ q∈xs.zip cc,gn s'.heap env q.1 q.2)
structure cq(gt:List (Str×Value))(K:List (Addr×Obj))(pins:List (Str×Addr))(w:World)(A:Around)(env:Env)(locs:List (Str×PV))(es:List Expr)(rs:List PV)(xs:List Str)(locs':List (Str×PV)): Prop where
 run:∀ s Fs pos,bw gt K pins env locs Fs s→wpAny (model pw w) A (spliced (backTo pos (Hg es env))) (FA gt K pins env locs Fs s rs xs locs') (fun _ _=>False) s
theorem cq.names{es:List Expr}{xs:List Str}(h:bv gt K w A env locs es xs): cq gt K pins w A env locs es [] xs locs:=.mk fun s Fs pos I=>
 Pw.andThen (h.run s Fs pos I.er) fun vs s' hh=>by
  obtain⟨e,hn,hq⟩:=hh
  subst e
  exact⟨[],vs,Fs,rfl,.refl _ _,.nil,I,fun b hb=>.inl hb,hn,hq⟩
theorem cq.cons{e:Expr}{es:List Expr}{r:PV}{rs:List PV}{xs:List Str}(h1:jp gt K pins w A env (eval e env) locs r locs1)(hr:r.flat=true)(h2:cq gt K pins w A env locs1 es rs xs locs2)(he:Hg (e::es) env=(false,eval e env)::Hg es env):
  cq gt K pins w A env locs (e::es) (r::rs) xs locs2:=.mk fun s Fs pos I=>by
 refine Mm (Pw.andThen (h1.run s Fs I) fun v s1 ⟨k1,F,Fs1,z,fr,I1,d1,o1⟩=>Pw.andThen (h2.run s1 Fs1 pos I1) fun vs s2 hh=>?_) he
 obtain⟨bY,cc,Fs2,e,k2,z2,I2,o2,hn,hq⟩:=hh
 obtain rfl:=z.flat hr
 subst e
 refine⟨v::bY,cc,Fs2,rfl,k1.comp k2 o1,.cons (F:=[]) (z.kept k2.heap fun b hb=>(nomatch hb)) z2,I2,fun b hb=>(o2 b hb).elim (o1 b) fun h=>.inr (H6 k1.heap.size h),hn,hq⟩
theorem w6{h:Heap}: ∀{xs:List Str} {vs vs':List Value},vs.length=xs.length→vs'.length=xs.length→(∀ q∈xs.zip vs,gn h env q.1 q.2)→(∀ q∈xs.zip vs',gn h env q.1 q.2)→vs=vs':=by
 intro xs
 induction xs with
 |nil=>intro vs vs' h1 h2 _ _;rw[JK h1,JK h2]
 |cons x xs ih=>
  intro vs vs' h1 h2 a b
  cases vs with
  |nil=>cases h1
  |cons v vs=>cases vs' with
   |nil=>cases h2
   |cons v' vs'=>
    obtain e1:v=v':=(a (x,v) (.head _)).fn (b (x,v') (.head _))
    rw[e1,ih (KH h1) (KH h2) (fun q hq=>a q (.tail _ hq)) fun q hq=>b q (.tail _ hq)]
theorem em{x:Str}{np pos:Pos}{e:Expr}{es:List Expr}{f:Addr}{rs own own':List PV}{xs:List Str}{r:PV}{ff:Bool}(hK:∀ q∈K,q.1<348)(hf:Ev gt K w A env locs (.Name x np) (.val (.ref f)) ff)(hc:eS K (.ref f))
  (ha:cq gt K pins w A env locs (e::es) rs xs locs1) (nd:xs.Nodup) (hlen:xs.length=own.length) (hlen':xs.length=own'.length) (hl:∀ q∈xs.zip own,locs1.lookup q.1=some q.2) (hown:∀ p∈own,p.isOwn=true) (hcall:jo gt K w A f rs own r own')
  (he:Hg (e::es) env=(false,eval e env)::Hg es env) (hplain:(backTo pos (Hg es env)).any (·.1)=false):
  jp gt K pins w A env (eval (.Call (.Name x np) (e::es) [] pos) env) locs r (bl xs own' locs1):=.mk fun s Fs I=>
 It (Pw.andThen (hf.run s Fs I.g I.er) fun v s₁ hh=>by
  obtain⟨k1,F1,v1,_⟩:=hh
  cases v1
  obtain h:=ha.run s₁ Fs pos (I.step0 k1)
  show wpAny _ _ (IU pos (.ref f) [] (backTo pos (Hg (e::es) env)) []) _ _ _
  rw[he]at h ⊢
  refine Ik (P:=G gt K) (by show((false||(backTo pos (Hg es env)).any (·.1))||false)=false;rw[hplain];rfl) (fun h' g'=>bK hc g') (HZ (Pw.andThen h fun vs s₂ hh=>?_))
  obtain⟨bY,cc,Fs2,ev,k2,z1,I2,o2,hn,hq⟩:=hh
  subst ev
  obtain⟨vs',F,Fs3,zs,nF,as,I3,ls,d3,o13,o23,f13,f23⟩:=I2.takes nd hlen hl
  obtain o13:=o13 hown
  obtain ev:cc=vs':=w6 hn (by rw[zs.length,hlen]) hq as
  subst ev
  have o2':∀ b∈ow env locs1 Fs2,b∈ow env locs Fs∨s.heap.objs.size≤b:=fun b hb=>(o2 b hb).imp id (H6 k1.heap.size)
  refine⟨I2.g,Pw.andThen (hcall.run s₂ bY cc F I2.g z1 zs nF fun b hb=>I2.hi b (o13 b hb)) fun u s3 hh=>?_⟩
  obtain⟨k3,H,F',zu,zs',nH,sub⟩:=hh
  obtain I4:=I3.movedP (s':=s3) hK k3.heap (fun b hb=>I2.hi b (o13 b hb)) (fun b hb hm=>d3 b hm hb)
  rw[Hn]at nH
  obtain⟨n1,n2,n3⟩:=nH
  have far:∀ b∈H++F',b∉env.locals::env.cells.map (·.2)++Fs3.flatten:=fun b hb hm=>(sub b hb).elim (fun h=>d3 b h hm) fun h=>absurd (I3.lt b hm) (Hz.mpr h)
  obtain k12:aG (ow env locs Fs) s s₂:=k1.all.trans k2
  have subO:∀ b∈H++F',b∈ow env locs Fs∨s.heap.objs.size≤b:=fun b hb=>(sub b hb).elim (fun h=>o2' b (o13 b h)) fun h=>.inr (H6 k12.heap.size h)
  obtain⟨Fs5,I5,o5,f5⟩:=I4.puts nd hlen' ls zs' n2 (fun b hb=>far b (Hb _ hb)) fun b hb=>(sub b (Hb _ hb)).elim (fun h=>I2.hi b (o13 b h)) (H6 I2.g.low)
  have hsome:∀ x∈xs,(locs1.lookup x).isSome=true:=fun x hx=>by
   obtain⟨i,hi,rfl⟩:=List.getElem_of_mem hx
   obtain this:=hl (xs[i],own[i]'(by omega)) (by
    rw[List.mem_iff_getElem]
    exact⟨i,by simp;omega,by simp⟩)
   rw[this];rfl
  rw[gu nd hlen' (by simp[hn]) hsome]at I5 o5
  refine⟨k12.comp k3 fun b hb=>o2' b (o13 b hb),H,Fs5,zu,fun b hb=>subO b (H8 _ hb),I5,fun b hb hm=>?_,fun b hb=>?_⟩
  ·rcases H9.mp hm with hm | hm
   ·exact far b (H8 _ hb) (H8 _ hm)
   ·rcases f5 b hm with hm | hm
    ·exact n3 b hb b hm rfl
    ·exact far b (H8 _ hb) (Hb _ hm)
  ·rcases o5 b hb with hb | hb
   ·exact o2' b (o23 b hb)
   ·exact subO b (Hb _ hb))
end
end
section
section
variable{gt:List (Str×Value)}{K:List (Addr×Obj)}{pins:List (Str×Addr)}{w:World}{A:Around}{env:Env}{locs locs':List (Str×PV)}
theorem cz.notTy(n:String): cz w A .IsNot (.val (.type n)) (.val (.type n)) false:=by
 constructor;intro s a b F H xA xB;cases xA;cases xB;exact wpAny_isNot_self rfl ⟨rfl,.refl _ _⟩
theorem cz.notNV(a:Addr): cz w A .IsNot (.val (.ref a)) .none true:=by
 constructor;intro s a b F H xA xB;cases xA;cases xB;exact isnot_none_gen ⟨rfl,.refl _ _⟩
theorem cz.notNN:cz w A .IsNot .none .none false:=by
 constructor;intro s a b F H xA xB;cases xA;cases xB;exact isnot_none_gen ⟨rfl,.refl _ _⟩
theorem qe{l:List PV}: au gt K w A (.type "type") [.lst l] (.val (.type "list")) true:=by
 constructor;intro s vs F g z _
 obtain⟨v,rfl,zv⟩:=z.one1
 cases zv with
 |lst e y nd=>exact PySem.call_type_of ⟨_,e,rfl⟩ (by decide) ⟨.refl _ _,[],.val _,fun _ _ hb=>(nomatch hb)⟩
theorem AK{x:Str}{p:PV}{t:Sem Flow}{fl:Fl}(hl:locs.lookup x=some p)(hp:p.isOwn=true)(href:∀ h v F,VR h p v F→∃ a,v=.ref a)(hall:∀ a,bQ (ab x (.val (.ref a)) locs'))
  (h:∀ a,Ex gt K pins w A env t (ab x (.val (.ref a)) locs) fl (ab x (.val (.ref a)) locs')):Ex gt K pins w A env t locs fl (ab x p locs'):=.mk fun s Fs I=>by
 obtain⟨v,F,Fs1,z,av,I1,l1,d1,o1,o2,f1,f2⟩:=I.take hl
 obtain⟨a,rfl⟩:=href _ _ _ z
 obtain o1:=o1 hp
 refine Pw.andThen ((h a).run s Fs1 I1) fun f s' hh=>?_
 obtain⟨k',hf,Fs',I',o'⟩:=hh
 obtain z':VR s'.heap p (.ref a) F:=z.kept k'.heap fun b hb hm=>d1 b hb (fW hm)
 obtain flt:∀ b∈F,b<s.heap.objs.size:=z.lt
 obtain dF:∀ b∈F,b∉env.locals::env.cells.map (·.2)++Fs'.flatten:=fun b hb hm=>(o' b (I'.allOwn (hall a) b hm)).elim (fun h=>d1 b hb (fW h)) fun h=>absurd (flt b hb) (Hz.mpr h)
 obtain⟨Fs2,I2,o3,f3⟩:=I'.put dG z' dF (fun _ b hb=>I.hi b (o1 b hb))
 rw[jw]at I2 o3
 refine⟨k'.mono o2,hf.comp (Hw _) fun b hb=>.inl (o2 b hb),Fs2,I2,fun b hb=>?_⟩
 rcases o3 b hb with h | ⟨_,h⟩
 ·exact(o' b h).imp (o2 b) id
 ·exact .inl (o1 b h)
end
noncomputable abbrev eh:List Stmt:=aF (aA 66 (H5 "__init__"))
noncomputable abbrev Dz:List Stmt:=kO (((aF ((eh[3]?).getD (.Pass default)))[0]?).getD (.Pass default))
noncomputable abbrev be(L:Addr): Env:=ah 150 qI L
noncomputable abbrev vS(w:World)(l:Addr): PV:=.inst 258 [(H5 "_headers",Iq w.params (H5 "_headers"),.val (.ref l))]
noncomputable abbrev iG(w:World)(l:Addr): List (Str×PV):=[(H5 "self",vS w l),(H5 "headers",.val (.ref l))]
section
variable{w:World}{A:Around}{L a:Addr}{pins:List (Str×Addr)}
theorem rG{l:Addr}: bQ (iG w l):=ai (.inr rfl) (ai (.inl rfl) bX)
theorem qv{l:Addr}: cM aa (ac w) w (vS w l) (H5 "_convert_string_type") 157:=by
 intro s v F g z A pl Q q
 cases z with
 | @inst _ _ a0 d es n F0 e1 e2 dr nd=>
  cases dr with
  |cons c1 c2=>
   cases c1;cases c2
   exact method_fn g.inK ⟨e1,rfl,rfl,e2⟩ (rW w) (xN w) (by kernel_rfl) (by kernel_rfl) (lK (by decide +kernel)) q
theorem nv(l:Addr)(ro:Ro A 2): ∀(items:List (Str×Str)),(∀ p∈items,Prn p.1∧Prn p.2)→bP aa (ac w) pins w A (be L) Dz FS (items.map aY) (iG w l) .next (iG w l)
 |[],_=>.nil rG
 | (k,v)::r,hf=>by
  have hk:=hf (k,v) (.head _)
  have ih:=nv l ro r fun p hp=>hf p (.tail _ hp)
  refine .next rG (locs1:=iG w l) ?_ ih
  show Ex _ _ _ _ _ _ _ (ab (H5 "v") (.str v) (ab (H5 "k") (.str k) (iG w l))) _ _
  refine am (locs1:=ab (H5 "v") (.str v) (ab (H5 "k") (.str k) (iG w l))) ?_ (by kernel_rfl) ?_
  ·refine af (bU (ft (fe (p:=vS w l) (f:=true) ?_ (by kernel_rfl) (by kernel_rfl) qv ?_ hk.1 ro rfl rfl)) rfl rfl) ?_
   ·walk_at "lk"
   ·walk_at "ev"
   refine af (bU (ft (fe (p:=vS w l) (f:=true) ?_ (by kernel_rfl) (by kernel_rfl) qv ?_ hk.2 ro rfl rfl)) rfl rfl) aq
   ·walk_at "lk"
   ·walk_at "ev"
  ·walk_at "looks"
end
theorem gw:∀ items:List (Str×Str),PV.flat.go (items.map aY)=true
 |[]=>rfl
 |_::r=>by
  show(true&&PV.flat.go (r.map aY))=true
  rw[gw r];rfl
section
variable{w:World}{A:Around}{L:Addr}{pins:List (Str×Addr)}
theorem uT(w:World): t7 w 258 (H5 "_headers"):=⟨by kernel_rfl,by kernel_rfl,by kernel_rfl,by kernel_rfl⟩
theorem rX{items:List (Str×Str)}{l:Addr}{vs:List Value}{n:Nat}{s:Shared}{Fs:List (List Addr)}(e:s.heap.get? l=some (bn vs n))(y:Pairs s.heap items vs)(I:bw aa (ac w) pins (be L) (iG w l) Fs s)(dl:l∉(be L).locals::(be L).cells.map (·.2)++Fs.flatten)(hl:348≤l):
  ∃ Fs',bw aa (ac w) pins (be L) [(H5 "self",.hdr items)] Fs' s∧∀ b∈ow (be L) [(H5 "self",.hdr items)] Fs',b∈ow (be L) (iG w l) Fs∨b=l:=by
 obtain⟨v5,F5,Fs5,z5,av5,I5,l5,d5,o5,p5,f5,g5⟩:=I.take (x:=H5 "self") (p:=vS w l) (by rfl)
 have o5:=o5 rfl
 obtain⟨a0,d,es,n5,G,e1,e2,ea,ed,dr,nd5⟩:=z5.inv
 subst e1 e2
 cases dr with
 |cons c1 c2=>
  cases c1;cases c2
  have m0:a0∈a0::d::([]++[]):=.head _
  have m1:d∈a0::d::([]++[]):=.tail _ (.head _)
  have hF5:∀ b∈a0::d::([]++[]),b≠l:=fun b hb e=>dl (Hb _ (e▸f5 b hb))
  have n6:a0≠d:=fun h=>(Hu.mp nd5).1 (h▸.head _)
  have all:∀{P:Addr→Prop},P a0→P d→P l→∀ b∈[a0,d,l],P b:=fun h1 h2 h3 b hb=>by
   rcases jE hb with e | e | e <;> rw[e] <;> assumption
  have hv:VR s.heap (.hdr items) (.ref a0) [a0,d,l]:=.hdr ⟨d,l,_,_,n5,vs,n,rfl,Hu.mpr ⟨fun h=>by rcases bN h with e | e;exact n6 e;exact hF5 _ m0 e,Hu.mpr ⟨fun m=>hF5 _ m1 (H7.mp m),IQ _ _⟩⟩,ea,ed,e,y⟩
  have own:∀ b∈[a0,d,l],b∈ow (be L) (iG w l) Fs∨b=l:=all (.inl (o5 _ m0)) (.inl (o5 _ m1)) (.inr rfl)
  obtain⟨Fs6,I6,o6,f6⟩:=I5.put l5 hv (all (d5 _ m0) (d5 _ m1) fun hm=>dl ((H9.mp hm).elim (fun h=>H8 _ h) fun h=>Hb _ (g5 _ h))) fun _ b hb=>(own b hb).elim (I.hi b) fun e=>e▸hl
  obtain⟨Fs7,I7,o7,f7⟩:=I6.pick (locs2:=[(H5 "self",.hdr items)]) (IQ _ _) (fun q hq=>by rw[H7.mp hq];exact dG)
  exact⟨Fs7,I7,fun b hb=>(o6 b (o7 b hb)).elim (fun h=>.inl (p5 b h)) fun h=>own b h.2⟩
theorem lZ(items:List (Str×Str))(hf:∀ p∈items,Prn p.1∧Prn p.2)(hq1:H5 "k"∉pins.map (·.1))(hq2:H5 "v"∉pins.map (·.1))(ro:Ro A 2):
  Ex aa (ac w) pins w A (be L) (execs (eh.drop 2) (be L)) [(H5 "self",.inst 258 []),(H5 "headers",.own (items.map aY))] .next [(H5 "self",.hdr items)]:=.mk fun s Fs I=>by
 have hh:=ro.1
 obtain⟨v,F,Fs1,z,av,I1,l1,d1,o1,o2,f1,f2⟩:=I.take (x:=H5 "headers") (p:=.own (items.map aY)) (by rfl)
 have o1:=o1 rfl
 obtain⟨l,vs,n,G,ev,eF,e1,y,_⟩:=z.inv
 obtain rfl:=y.flat (gw items)
 subst ev eF
 have y:=iV y
 have hset:Ex aa (ac w) pins w A (be L) (exec ((eh[2]?).getD (.Pass default)) (be L)) [(H5 "self",.inst 258 []),(H5 "headers",.val (.ref l))] .next (iG w l):=by
  refine am (locs1:=ab (H5 "self") (vS w l) [(H5 "self",.inst 258 []),(H5 "headers",.val (.ref l))]) ?_ (by kernel_rfl) ?_
  ·refine j9 (l:=[]) (p:=.val (.ref l)) (q:=.val (.ref l)) (uT w) ?_ rfl (by decide) ?_ (.same rfl) (by kernel_rfl) (by kernel_rfl) rfl
   ·walk_at "lk"
   ·walk_at "ev"
  ·walk_at "looks"
 have I1:bw aa (ac w) pins (be L) [(H5 "self",.inst 258 []),(H5 "headers",.val (.ref l))] Fs1 s:=I1
 have o2:∀ b∈ow (be L) [(H5 "self",.inst 258 []),(H5 "headers",.val (.ref l))] Fs1,b∈ow (be L) [(H5 "self",.inst 258 []),(H5 "headers",.own (items.map aY))] Fs:=o2
 have hl:l∈[l]:=.head _
 have hlt:l<s.heap.objs.size:=Hr e1
 have dl:∀{s':Shared} {Fs':List (List Addr)},bw aa (ac w) pins (be L) (iG w l) Fs' s'→(∀ b∈ow (be L) (iG w l) Fs',b∈ow (be L) [(H5 "self",.inst 258 []),(H5 "headers",.val (.ref l))] Fs1∨s.heap.objs.size≤b)→l∉(be L).locals::(be L).cells.map (·.2)++Fs'.flatten:=fun I' o' hm=>(o' l (I'.allOwn rG l hm)).elim (fun h=>d1 l hl (fW h)) fun h=>absurd hlt (Hz.mpr h)
 have keep:∀{s':Shared},aG (ow (be L) [(H5 "self",.inst 258 []),(H5 "headers",.val (.ref l))] Fs1) s s'→s'.heap.get? l=some (bn vs n)∧Pairs s'.heap items vs:=fun k=>⟨k.heap.keep _ _ e1 (.inl fun hm=>d1 l hl (fW hm)),y.kept k.heap⟩
 refine HE (Pw.andThen (hset.run s Fs1 I1) fun f s2 hh=>?_)
 obtain⟨k2,e2,Fs2,I2,o3⟩:=hh
 cases e2
 refine HE (wpAny_If (Pw.andThen ((Tr.bool (gt:=aa) (K:=ac w) (locs:=iG w l) (Ev.bool (w:=w) (A:=A) (env:=be L) true _ _) rfl).run s2 Fs2 I2.g I2.er) fun c s3 hh=>?_))
 obtain⟨ec,k3⟩:=hh
 subst ec
 have I3:=I2.step0 k3
 have k03:=k2.trans k3.all
 obtain⟨e3,y3⟩:=keep k03
 obtain⟨mm,nn,V⟩:=id I3.er.vars
 obtain⟨v',F',_,at',z'⟩:=V.find (show(iG w l).lookup (H5 "headers")=some (.val (.ref l))from rfl)
 obtain⟨ez,_⟩:=z'.inv
 subst ez
 refine HE (M6 (aD I3.er ⟨mm,nn,at'⟩ (by kernel_rfl) (by kernel_rfl) (K4 ⟨_,e3,rfl,n,rfl⟩ ?_)) (by intro _;rfl))
 refine jI (s:=s3) (locs':=iG w l) (fl:=.next) (ae w) hh (oh (pr:=fun p=>((match p with | .tup [q,_]=>q | _=>.none),(match p with | .tup [_,q]=>q | _=>.none))) (ae w) hh hq1 hq2 (.inl (by kernel_rfl)) (.inl (by kernel_rfl)) (fun p hp=>?_)) e3 ((Hx).symm.trans ((ej y3).trans (Hl _).symm)) (fun i v e=>jA y3 e) (I.hi _ (o1 _ hl)) (dl I3 o3) k03 I3 o3
  (fun s' f' Fs' k' hf' I' o'=>?_) (nv l ro items hf)
 ·obtain⟨q,_,rfl⟩:=Hm.mp hp
  rfl
 ·cases hf'
  show wpAny _ _ (execs [] _) _ _ _
  refine JW ?_
  show wpAny _ _ (execs [] _) _ _ _
  refine JW ?_
  obtain⟨el,yl⟩:=keep k'
  obtain⟨Fs7,I7,o7⟩:=rX el yl I' (dl I' o') (I.hi _ (o1 _ hl))
  exact⟨k'.mono o2,rfl,Fs7,I7,fun b hb=>(o7 b hb).elim (fun h=>(o' b h).imp (o2 b) id) fun e=>.inl (e▸o1 _ hl)⟩
end
end
section
section
variable{gt:List (Str×Value)}{K:List (Addr×Obj)}{w:World}{A:Around}
end
section
variable{w:World}{A:Around}{L a:Addr}
noncomputable abbrev vT:List Str:=[H5 "self",H5 "headers"]
theorem zW{l:List PV}(h:Heap)(v:Value)(F:List Addr)(z:VR h (.own l) v F): ∃ a,v=.ref a:=by cases z;exact⟨_,rfl⟩
theorem sC(items:List (Str×Str))(hf:∀ p∈items,Prn p.1∧Prn p.2)(ro:Ro A 3): Ex aa (ac w) [(H5 "self",a)] w A (be L) (execs eh (be L)) (vT.zip [.inst 258 [],.own (items.map aY)]) .next [(H5 "self",.hdr items)]:=by
 have h0:Ex aa (ac w) [(H5 "self",a)] w A (be L) (exec ((eh[0]?).getD (.Pass default)) (be L)) [(H5 "self",.inst 258 []),(H5 "headers",.own (items.map aY))] .next [(H5 "self",.inst 258 []),(H5 "headers",.own (items.map aY))]:=by
  have:=AK (gt:=aa) (K:=ac w) (pins:=[(H5 "self",a)]) (w:=w) (A:=A) (env:=be L) (x:=H5 "headers") (p:=.own (items.map aY)) (locs:=[(H5 "self",.inst 258 []),(H5 "headers",.own (items.map aY))]) (locs':=[(H5 "self",.inst 258 []),(H5 "headers",.none)]) (t:=exec ((eh[0]?).getD (.Pass default)) (be L)) (fl:=.next) rfl rfl zW (fun b=>ai (.inr rfl) (ai (.inl rfl) bX)) fun b=>?_
  ·exact this
  ·show Ex _ _ _ _ _ _ _ [(H5 "self",PV.inst 258 []),(H5 "headers",.val (.ref b))] _ [(H5 "self",PV.inst 258 []),(H5 "headers",.val (.ref b))]
   refine am (locs1:=ab (H5 "headers") (.val (.ref b)) [(H5 "self",PV.inst 258 []),(H5 "headers",.val (.ref b))]) ?_ (by kernel_rfl) ?_
   ·refine az (p:=.val (.ref b)) (ae _) (by simp;decide +kernel) (Ev.ifT (c:=true) (Tr.cmp (f1:=true) (f2:=true) (p:=.val (.ref b)) (q:=.none) ?_ ?_ (cz.notNV b) rfl) rfl ?_) (.same rfl) (.inl (by kernel_rfl)) rfl
    ·walk_at "ev"
    ·walk_at "ev"
    ·walk_at "ev"
   ·walk_at "looks"
 refine af h0 (af (c7 (c:=false) (Tr.cmp (f1:=true) (f2:=true) (p:=.val (.type "list")) (q:=.val (.type "list")) (c8 (ff:=true) (fa:=false&&true) (f:=.type "type") (rs:=[.lst (items.map aY)]) (Ev.builtin (by kernel_rfl) ph (by decide +kernel) (by kernel_rfl)) bd (bG.cons ?_ bG.nil rfl) qe bR rfl rfl) (Ev.builtin (by kernel_rfl) pi (by decide +kernel) (by kernel_rfl)) (cz.notTy _) rfl) rfl aq) (lZ items hf (by simp;decide +kernel) (by simp;decide +kernel) (ro.le (by omega))))
 refine Ev.local ?_ cB rfl (by kernel_rfl) (by kernel_rfl)
 walk_at "lk"
theorem sA(ro:Ro A 3): Ex aa (ac w) [(H5 "self",a)] w A (be L) (execs eh (be L)) (vT.zip [.inst 258 [],.none]) .next [(H5 "self",.hdr [])]:=by
 obtain h0:Ex aa (ac w) [(H5 "self",a)] w A (be L) (exec ((eh[0]?).getD (.Pass default)) (be L)) [(H5 "self",.inst 258 []),(H5 "headers",.none)] .next [(H5 "self",.inst 258 []),(H5 "headers",.own [])]:=by
  refine am (locs1:=ab (H5 "headers") (.own []) [(H5 "self",PV.inst 258 []),(H5 "headers",.none)]) ?_ (by kernel_rfl) ?_
  ·refine az (p:=.lst []) (ae _) (by simp;decide +kernel) (Ev.ifF (c:=false) (Tr.cmp (f1:=true) (f2:=true) (p:=.none) (q:=.none) ?_ ?_ cz.notNN rfl) rfl ?_) .own (.inl (by kernel_rfl)) rfl
   ·walk_at "ev"
   ·walk_at "ev"
   ·walk_at "ev"
  ·walk_at "looks"
 refine af h0 (af (c7 (c:=false) (Tr.cmp (f1:=true) (f2:=true) (p:=.val (.type "list")) (q:=.val (.type "list")) (c8 (ff:=true) (fa:=false&&true) (f:=.type "type") (rs:=[.lst []]) (Ev.builtin (by kernel_rfl) ph (by decide +kernel) (by kernel_rfl)) bd (bG.cons ?_ bG.nil rfl) qe bR rfl rfl) (Ev.builtin (by kernel_rfl) pi (by decide +kernel) (by kernel_rfl)) (cz.notTy _) rfl) rfl aq) (lZ [] (fun p hp=>nomatch hp) (by simp;decide +kernel) (by simp;decide +kernel) (ro.le (by omega))))
 refine Ev.local ?_ cB rfl (by kernel_rfl) (by kernel_rfl)
 walk_at "lk"
end
section
theorem C0(C:Addr)(rest:List Value)(kw:List (Str×Value)): Code.weight (.builtin "type.__call__" ⟨.ref C::rest,kw⟩)=1:=by with_unfolding_all rfl
theorem C3(a:Args): Code.cUnits (.builtin "type.__call__" a)=1:=by with_unfolding_all rfl
theorem Ro.under{A:Around}{n:Nat}(r:Ro A (n+1))(C:Addr)(rest:List Value)(kw:List (Str×Value)): Ro (A.under (.builtin "type.__call__" ⟨.ref C::rest,kw⟩)) n:=by
 obtain⟨a,b,c⟩:=r
 refine⟨a,?_,?_⟩
 ·show A.depth+Code.weight _+n<_
  rw[C0];omega
 ·show A.units+Code.cUnits _+4*n+8<_
  rw[C3];omega
variable{w:World}{A:Around}
theorem xS(h:Heap)(C:Addr): ((h.push IZ).push (instObj C h.objs.size)).get? (h.objs.size+1)=some (instObj C h.objs.size):=by
 obtain this:=Hk (o:=instObj C h.objs.size) (h.push IZ) rfl
 rwa[HX]at this
theorem qu(h:Heap)(C:Addr): VR ((h.push IZ).push (instObj C h.objs.size)) (.inst C []) (.ref (h.objs.size+1)) [h.objs.size+1,h.objs.size]:=
 .inst (n:=0) (xS h C) (Ht _ (Hk _ rfl)) .nil (by simp)
theorem vK{h:Heap}(g:G aa (ac w) h)(v:Value): Looks (model pw w) h (J4 qI ⟨[v],[]⟩) (vT.zip [v,.none]):=Kq g.inK (by kernel_rfl)
theorem vJ{h:Heap}(g:G aa (ac w) h)(v u:Value): Looks (model pw w) h (J4 qI ⟨[v,u],[]⟩) (vT.zip [v,u]):=Kq g.inK (by kernel_rfl)
theorem qj{items:List (Str×Str)}{ps:List PV}{us pos:List Value}{F0:List Addr}{s:Shared}(ro:Ro A 5)(g:G aa (ac w) s.heap)
  (hz:bf s.heap ps us F0) (nd:F0.Nodup) (hi:∀ b∈F0,348≤b) (hl:us.length=1) (hbind:∀ h v,G aa (ac w) h→Looks (model pw w) h (J4 qI ⟨v::pos,[]⟩) (vT.zip (v::us)))
  (hb:∀ L a A',Ro A' 3→Ex aa (ac w) [(H5 "self",a)] w A' (be L) (execs eh (be L)) (vT.zip (.inst 258 []::ps)) .next [(H5 "self",.hdr items)]):
  wpAny (model pw w) A (call (.ref 258) pos) (fun u s'=>aG F0 s s'∧∃ F,VR s'.heap (.hdr items) u F∧∀ b∈F,b∈F0∨s.heap.objs.size≤b) (fun _ _=>False) s:=by
 obtain⟨h,gs,d,t,os⟩:=s
 dsimp only at g hz ⊢
 have kp:aj [] h ((h.push IZ).push (instObj 258 h.objs.size)):=(aj.push _ _).trans (aj.push _ _)
 obtain g1:=g.kept0 kp
 obtain hlen:ps.length=1:=by rw[←hz.length,hl]
 obtain lt0:∀ b∈F0,b<h.objs.size:=hz.lt
 refine Jp (make_core (makes_of g.inK (by kernel_rfl)) (looks_findIn g.inK (r:=some (.ref 150)) (by kernel_rfl)) (fun self=>bind_fn g.inK self (by kernel_rfl)) (.inl rfl) ?_)
 refine je (s:=⟨(h.push IZ).push (instObj 258 h.objs.size),gs,d,t,os⟩) (n:=3) (args:=.inst 258 []::ps) (vs:=.ref (h.objs.size+1)::us) (F:=[h.objs.size+1,h.objs.size]++F0) (W:=[h.objs.size+1,h.objs.size]++F0) (pins:=[(H5 "self",h.objs.size+1)]) (AX.up (ag w)) (ro.under _ _ _) (by simp[hlen]) (hbind _ _ g1) g1 (.cons (qu h 258) (hz.kept0 kp)) ?_ ?_ ?_ ?_ ?_
 ·rw[Hn]
  refine⟨by simp,nd,fun b hb c hc e=>?_⟩
  subst e
  obtain h1:b<h.objs.size:=lt0 b hc
  rcases bN hb with rfl | rfl
  ·exact absurd (LP h1) (Ie _)
  ·exact absurd h1 (Ie _)
 ·intro b hb
  obtain this:=g.low
  rcases H9.mp hb with hb | hb
  ·rcases bN hb with rfl | rfl
   ·exact Iu g.low
   ·exact g.low
  ·exact hi b hb
 ·intro Fs e b hb
  obtain this:=cT hb
  rw[e]at this
  exact this
 ·intro q hq
  rw[H7.mp hq]
  exact⟨.head _,by kernel_rfl⟩
 ·intro h1 tk Fs k I eF hsub
  refine Pw.andThen ((hb _ _ _ ((ro.under _ _ _).deeper _)).run _ Fs I) fun fw s2 hh=>?_
  obtain⟨k2,e2,Fs2,I2,o2⟩:=hh
  cases e2
  obtain⟨u',F',Fs3,z',at',_,_,_,p1,_⟩:=I2.take (x:=H5 "self") (p:=.hdr items) rfl
  obtain rfl:=dU I2 (.head _) at'
  have big:∀ b∈[h.objs.size+1,h.objs.size]++F0,b∈F0∨h.objs.size≤b:=fun b hb=>by
   rcases H9.mp hb with hb | hb
   ·rcases bN hb with rfl | rfl
    ·exact .inr (J0 _)
    ·exact .inr (Hw _)
   ·exact .inl hb
  have sz:h.objs.size≤((h.push IZ).push (instObj 258 h.objs.size)).objs.size:=kp.size
  have sub2:∀ b,b∈[h.objs.size+1,h.objs.size]++F0∨((h.push IZ).push (instObj 258 h.objs.size)).objs.size≤b→b∈F0∨h.objs.size≤b:=fun b hb=>hb.elim (big b) fun h=>.inr (H6 sz h)
  obtain kA:aG [] (⟨h,gs,d,t,os⟩:Shared) ⟨(h.push IZ).push (instObj 258 h.objs.size),gs,d,t,os⟩:=⟨kp,fun _ _ e=>e,id,rfl⟩
  obtain kB:aG [] (⟨(h.push IZ).push (instObj 258 h.objs.size),gs,d,t,os⟩:Shared) { (⟨(h.push IZ).push (instObj 258 h.objs.size),gs,d,t,os⟩:Shared)with heap:=h1,toks:=tk }:=⟨k,fun _ _ e=>e,id,rfl⟩
  refine And.intro rfl ⟨((kA.trans kB).all (W:=F0)).comp k2 fun b hb=>sub2 b (hsub b hb),F',z',fun b hb=>?_⟩
  rcases o2 b (p1 rfl b hb)with hb | hb
  ·exact sub2 b (hsub b hb)
  ·exact .inr (H6 (H6 sz k.size) hb)
end
end
section
section
variable{w:World}{A:Around}{env:Env}{locs:List (Str×PV)}
theorem ue{np pos:Pos}(hk:env.kindOf (H5 "Headers")=some .globalImplicit)(ro:Ro A 5): Ev aa (ac w) w A env locs (.Call (.Name (H5 "Headers") np) [] [] pos) (.hdr []) true:=.mk fun s Fs g z=>
 It (Pw.andThen ((Ev.global (gt:=aa) (K:=ac w) (w:=w) (A:=A) (locs:=locs) hk tU (by kernel_rfl)).run s Fs g z) fun v s1 hh=>by
  obtain⟨k1,F1,v1,_⟩:=hh
  cases v1
  obtain g1:=g.kept0 k1.heap
  show wpAny _ _ (IU pos (.ref 258) [] (backTo pos (Hg [] env)) []) _ _ _
  refine Ik (P:=G aa (ac w)) (by rfl) (fun h' g'=>keeps_K (K:=ac w) (by kernel_rfl) h' g'.inK) (Kh ⟨g1,?_⟩)
  refine Pw.andThen (qj (items:=[]) (ps:=[.none]) (us:=[.none]) (F0:=[]) (pos:=[]) (A:=A) ro g1 (.cons (F:=[]) .none .nil) .nil (fun b hb=>(nomatch hb)) rfl (fun h v g=>vK g v) (fun L a A' ro'=>sA ro')) fun u s2 hh=>?_
  obtain⟨k2,F,zu,hF⟩:=hh
  exact⟨k1.trans k2,F,zu,fun _ b hb=>(hF b hb).elim (fun h=>(nomatch h)) (H6 k1.heap.size)⟩)
theorem AQ{np pos:Pos}{e:Expr}{items:List (Str×Str)}(hk:env.kindOf (H5 "Headers")=some .globalImplicit)(he:Ev aa (ac w) w A env locs e (.lst (items.map aY)) true)(hf:∀ p∈items,Prn p.1∧Prn p.2)(hs:Hg [e] env=(false,eval e env)::Hg [] env)(ro:Ro A 5):
  Ev aa (ac w) w A env locs (.Call (.Name (H5 "Headers") np) [e] [] pos) (.hdr items) true:=.mk fun s Fs g z=>
 It (Pw.andThen ((Ev.global (gt:=aa) (K:=ac w) (w:=w) (A:=A) (locs:=locs) hk tU (by kernel_rfl)).run s Fs g z) fun v s1 hh=>by
  obtain⟨k1,F1,v1,_⟩:=hh
  cases v1
  have g1:=g.kept0 k1.heap
  obtain h:=(bG.cons he bG.nil hs).run s1 Fs pos g1 (z.kept0 k1.heap)
  show wpAny _ _ (IU pos (.ref 258) [] (backTo pos (Hg [e] env)) []) _ _ _
  rw[hs]at h ⊢
  refine Ik (P:=G aa (ac w)) (by rfl) (fun h' g'=>keeps_K (K:=ac w) (by kernel_rfl) h' g'.inK) (HZ (Pw.andThen h fun vs s2 hh=>?_))
  obtain⟨k2,F2,z2,fr2⟩:=hh
  obtain⟨u,rfl,zu⟩:=z2.one1
  obtain g2:=g1.kept0 k2.heap
  obtain fr:=fr2 rfl
  obtain zo:VR s2.heap (.own (items.map aY)) u F2:=(Bind.own (l:=items.map aY)).vr zu
  obtain z3:=bf.cons zo (bf.nil (h:=s2.heap))
  rw[Hj]at z3
  refine⟨g2,?_⟩
  refine Pw.andThen (qj (items:=items) (A:=A) (pos:=[]++[u]) ro g2 z3 zo.nodup (fun b hb=>H6 g1.low (fr b hb)) rfl (fun h v g=>vJ g v u) (fun L a A' ro'=>sC items hf ro')) fun u s3 hh=>?_
  obtain⟨k3,F,zu,hF⟩:=hh
  obtain k12:=k1.trans k2
  refine⟨k12.comp k3 fun b hb=>.inr (H6 k1.heap.size (fr b hb)),F,zu,fun _ b hb=>(hF b hb).elim (fun h=>H6 k1.heap.size (fr b h)) (H6 k12.heap.size)⟩)
end
end
section
section
variable{prog:Program}{w:World}{A:Around}{E:Value→Shared→Prop}{s:Shared}
theorem jt{R:Result→Shared→Prop}(hh:A.handled=none)(x:Str)(t:Tok)(hn:x.cps.size≤Ip)(S:Addr)(res:Value)(c₀:Nat)(hS:s.heap.get? S=some { cls:=.type "list",data:=.seq #[] c₀ })
  (hR:∀ s' acc' c',(∀ b o,b≠S→s.heap.get? b=some o→s'.heap.get? b=some o)→s'.gens=s.gens→s'.os=s.os→s'.heap.get? S=some { cls:=.type "list",dict:=none,data:=.seq acc' c',slots:=#[] }→ItemsOf (SignAt x) acc' x.cps.size→R (.ok (.ret res)) s'):
  wpAny (model prog w) A.in1 (K5 (.ref S) (.str x t) res)
   (fun fin s'=>match fin with | .done f=>R (.ok f) s' | .again c'=>c'.quiet=true∧codeAny (model prog w) A c' R s') (fun e s'=>R (.error e) s') s:=by
 skip
 refine Hc (Ms (T:="str") (v:=.str x t) rfl ?_)
 have h1:LV (.ref S) (.str x t)=false:=rfl
 obtain h2:(MZ "str" == MZ "list")=false:=by decide
 obtain h3:(MZ "str" == MZ "tuple")=false:=by decide
 skip
 refine Hc (wpAny_pyIter_str fun o St W hst=>?_)
 refine Hc (IF ?_)
 skip
 refine Hc (Mz (T:="str") (v:=.str x t) rfl F.str_len ?_)
 wp_delta
 refine Hc (Mc (T:="str") (v:=.str x t) (b:=true) rfl (by rw[LB];kernel_rfl) ?_)
 show wpAny _ A.in1 (typeOf (N8 x t) >>= _) _ _ _
 refine Hc (Ms (T:="str") (v:=.str x t) rfl ?_)
 refine Hi ?_
 skip
 obtain hlt0:=Hr hS
 obtain hSf:S∉[s.heap.objs.size]:=fun hm=>by rw[H7.mp hm]at hlt0;exact Ie _ hlt0
 refine Hi ⟨plainId_quiet F.plain_extend_loop _,codeAny_extend_loopS (W A.in1 hh).toS hn _ hSf _ x.cps.size 0 _ _ _ rfl (HT _) hst (Ht _ hS) (ItemsOf.nil _) fun s' acc' c' hm hS' hacc=>?_⟩
 refine hR s' acc' c' (fun b ob hb e=>hm.heap b ob (fun hm2=>?_) (Ht _ e)) hm.gens hm.os hS' hacc
 rcases Ha.mp hm2 with h | h
 ·exact hb h
 ·rw[H7.mp h]at e;exact absurd (Hr e) (Ie _)
theorem mH{Q:Value→Shared→Prop}(hh:A.handled=none)(x:Str)(t:Tok)(hn:x.cps.size≤Ip)
  (hQ:∀ s' acc' c',(∀ b o,s.heap.get? b=some o→s'.heap.get? b=some o)→s'.gens=s.gens→s'.os=s.os→s'.heap.get? s.heap.objs.size=some { cls:=.type "list",dict:=none,data:=.seq acc' c',slots:=#[] }→ItemsOf (SignAt x) acc' x.cps.size→Q (.ref s.heap.objs.size) s'):
  wpAny (model prog w) A (call (.type "list") [.str x t]) Q E s:=by
 refine callType_codes (Q₁:=fun obj s₁=>obj=.ref s.heap.objs.size∧s₁={ s with heap:=s.heap.push { cls:=.type "list",data:=.seq #[] } }) F.called_list (F.typeCall_list_1 _) F.entry_list_init
  (code_list_new _ ⟨rfl,rfl⟩) fun obj s₁ h₁=>?_
 obtain⟨rfl,rfl⟩:=h₁
 obtain hS:(s.heap.push { cls:=.type "list",data:=.seq #[] }).get? s.heap.objs.size=some { cls:=.type "list",data:=.seq #[] }:=Hk _ rfl
 refine⟨⟨_,hS,rfl⟩,F.args_list_init_2 _ _,?_⟩
 show wpAny _ _ (do let old ←Mt (.ref s.heap.objs.size);Builtin.List.listUpdate (.ref s.heap.objs.size) (fun _=>#[]);letGo old.toList.reverse;K5 (.ref s.heap.objs.size) (.str x t) .none) _ _ _
 refine Hc ?_
 skip
 refine Hc (MO hS rfl (Hi ?_))
 show wpAny _ _ (updateSeq s.heap.objs.size (fun _=>#[]) >>= fun _=>letGo (#[]:Array Value).toList.reverse >>= fun _=>K5 (.ref s.heap.objs.size) (.str x t) .none) _ _ _
 refine Hc (wpAny_updateSeq hS rfl ?_)
 obtain hS₂:=K1 (HC (fun _=>(#[]:Array Value))) hS rfl
 refine Hc (wpAny_letGo ?_)
 refine jt (A:=A.in1) hh x t hn _ .none _ hS₂ fun s' acc' c' hk eg eo hS' hacc=>?_
 refine⟨rfl,hQ s' acc' c' (fun b o e=>hk b o (Im (Hr e)) ?_) eg eo hS' hacc⟩
 exact(Heap.get?_update_other _ _ (Ju (Hr e))).trans (Ht _ e)
end
section
variable{gt:List (Str×Value)}{K:List (Addr×Obj)}{w:World}{A:Around}
theorem mP{h:Heap}: ∀{l:List Nat} {vs:List Value},gT l vs→bf h (l.map fun c=>PV.str ⟨#[c]⟩) vs []:=by
 intro l1
 induction l1 with
 |nil=>
  intro l2
  cases l2 with
  |nil=>
   rintro _
   exact .nil
  |cons=>intro z0;first | exact HY z0 | exact nomatch z0
 |cons c l ih=>
  intro l2
  cases l2 with
  |nil=>intro z0;first | exact HY z0 | exact nomatch z0
  |cons v vs=>
   rintro z
   obtain⟨⟨t,rfl⟩,y⟩:=z
   exact .cons (F:=[]) (.str _ t) (ih y)
theorem yH{x:Str}: ∀{l:List Nat} {vs:List Value},vs.length=l.length→(∀(i:Nat) (v:Value),vs[i]? = some v→∃(c:Nat) (u:Tok),(l[i]?:Option Nat)=some c∧v=N8 (⟨#[c]⟩:Str) u)→gT l vs:=by
 intro l1
 induction l1 with
 |nil=>
  intro l2
  cases l2 with
  |nil=>
   rintro _ _
   exact trivial
  |cons=>intro z0 z1;first | exact HY z0 | exact nomatch z0 | exact HY z1 | exact nomatch z1
 |cons c l ih=>
  intro l2
  cases l2 with
  |nil=>intro z0 z1;first | exact HY z0 | exact nomatch z0 | exact HY z1 | exact nomatch z1
  |cons v vs=>
   rintro hl h
   refine⟨?_,ih (by simpa using hl) fun i u hu=>h (i+1) u (by simpa using hu)⟩
   obtain⟨c',u,e1,e2⟩:=h 0 v rfl
   simp only[List.getElem?_cons_zero,N4]at e1
   subst e1
   exact⟨u,e2⟩
theorem wX{x:Str}(hh:A.handled=none)(hx:x.length≤100000): au gt K w A (.type "list") [.str x] (.lst (cj x)) true:=.mk fun s vs F g z _=>by
 obtain⟨v,rfl,zv⟩:=z.one1
 cases zv with
 |str _ t=>
  obtain hn:x.cps.size≤Ip:=by obtain this:=aU;obtain this:x.cps.size=x.length:=rfl;omega
  refine Hf (fO (mH (E:=fun _ _=>False) (Q:=fun u s'=>u=.ref s.heap.objs.size∧(∀ b o,s.heap.get? b=some o→s'.heap.get? b=some o)∧s'.gens=s.gens∧s'.os=s.os∧∃ acc' c',s'.heap.get? s.heap.objs.size=some { cls:=.type "list",dict:=none,data:=.seq acc' c',slots:=#[] }∧ItemsOf (SignAt x) acc' x.cps.size) hh x t hn fun s' acc' c' hk eg eo hS' hacc=>⟨rfl,hk,eg,eo,acc',c',hS',hacc⟩)) (fun u s' hh=>?_) fun _ _ e=>e.1
  obtain⟨⟨eu,hk,eg,eo,acc',c',hS',hacc⟩,hz,hbare⟩:=hh
  subst eu
  refine⟨⟨⟨hz,fun b o e _=>hk b o e⟩,fun i g e=>by rw[eg];exact e,hbare,eo⟩,[s.heap.objs.size],?_,fun _ b hb=>by rw[H7.mp hb];exact Hw _⟩
  obtain hc:gT x.cps.toList acc'.toList:=yH (x:=x) (by simp[hacc.1]) fun i v hv=>by
   obtain⟨c,u,e1,e2⟩:=hacc.2 i v (by simpa using hv)
   exact⟨c,u,by simpa using e1,e2⟩
  exact .lst (F:=[]) (vs:=acc'.toList) (n:=c') (by rw[hS']) (mP hc) (by simp)
end
end
section
section
variable{prog:Program}{w:World}{A:Around}{E:Value→Shared→Prop}{s:Shared}
theorem nR{l:Addr}{v:Value}{vs:List Value}{n:Nat}{u:Tok}{Q:Value→Shared→Prop}(hl:s.heap.get? l=some (bn (v::vs) n))(hz:vs.length≤100000)
  (hQ:∀ h',h'.get? l=some (bn vs (n+1))→Mj l s.heap h'→Q v { s with heap:=h' }):wpAny (model prog w) A (call (.builtin "list.pop") [.ref l,.int 0 u]) Q E s:=by
 have hb:=aU
 refine call_meets MA ⟨_,hl,rfl⟩ F.entry_list_pop (F.args_list_pop_2 _ _) (MeetsSeq.list_pop_at l (v::vs).toArray n 0 u 0 v (by decide) (seqIndex_of (by decide) (by simp)) (by simp) (by simp;omega)) ⟨hl,?_⟩
 obtain e:HC (fun xs=>xs.eraseIdxIfInBounds 0) (bn (v::vs) n)=bn vs (n+1):=by
  unfold bn HC
  obtain e1:((v::vs).toArray.eraseIdxIfInBounds 0)=vs.toArray:=by
   apply Array.toList_inj.mp
   simp[Array.toList_eraseIdxIfInBounds]
  simp only[e1]
  obtain e2:(vs.toArray.size==(v::vs).toArray.size)=false:=by simp
  rw[e2];rfl
 refine hQ _ ?_ (IK ..)
 rw[K1 _ hl (by rw[e];rfl),e]
end
section
variable{gt:List (Str×Value)}{K:List (Addr×Obj)}{pins:List (Str×Addr)}{w:World}{A:Around}{env:Env}{locs locs':List (Str×PV)}
theorem Tr.list{e:Expr}{l:List PV}{f:Bool}(h:Ev gt K w A env locs e (.lst l) f)(hz:l.length≤100000)(he:isTrue e env (eval e env)=(do let v ←eval e env;standAt e.pos;holding [v] (truthy v))): Tr gt K w A env locs e (!l.isEmpty):=.mk fun s Fs g x=>
 Kv (Pw.andThen (h.run s Fs g x) fun a s₁ hh=>by
  obtain⟨k1,F1,v1,_⟩:=hh
  cases v1 with
  | @lst _ a0 vs n F0 e1 y nd=>
   have hl:=y.length
   refine wpAny_truthy_list ⟨_,e1,rfl,n,rfl⟩ (by simp only[Hx];omega) ⟨?_,k1.trans .ofToks⟩
   cases l <;> cases vs <;> simp_all) he
end
end
section
section
variable{w:World}{A:Around}{E:Value→Shared→Prop}{s:Shared}{env:Env}{locs locs':List (Str×PV)}{pins:List (Str×Addr)}
theorem oI(w:World): findIn (ac w) (.ref 76) "__getattribute__" = some (some (.builtin "object.__getattribute__")):=by kernel_rfl
theorem rT(w:World): findIn (ac w) (.ref 76) "__getattr__" = some none:=by kernel_rfl
theorem Cz(w:World): hasDictIn (ac w) 76=true:=by kernel_rfl
noncomputable abbrev fF:Str:=H5 "lineno"
noncomputable abbrev kN:Str:=H5 "instream"
noncomputable abbrev fm:Str:=H5 "whitespace"
noncomputable abbrev dA:Str:=H5 "pushback"
noncomputable abbrev iX:Str:=H5 "read"
theorem tO(w:World): findIn (ac w) (.ref 76) fF=some none:=by kernel_rfl
theorem Ap(w:World): findIn (ac w) (.ref 76) kN=some none:=by kernel_rfl
theorem Ao(w:World): findIn (ac w) (.ref 76) fm=some none:=by kernel_rfl
theorem oK(w:World): findIn (ac w) (.ref 76) dA=some none:=by kernel_rfl
theorem tN(w:World): findIn (ac w) (.ref 76) iX=some none:=by kernel_rfl
noncomputable abbrev D4(h1:Int)(t1:Tok)(v1:Value)(h2:Int)(t2:Tok)(v2:Value)(h3:Int)(t3:Tok)(v3:Value)(h4:Int)(t4:Tok)(v4:Value): List HP:=[⟨h1,.str fF t1,v1⟩,⟨h2,.str kN t2,v2⟩,⟨h3,.str fm t3,v3⟩,⟨h4,.str dA t4,v4⟩]
theorem Gb:(fF==kN)=false:=by decide +kernel
theorem Ga:(fF==fm)=false:=by decide +kernel
theorem G9:(fF==dA)=false:=by decide +kernel
theorem G8:(kN==fm)=false:=by decide +kernel
theorem G7:(kN==dA)=false:=by decide +kernel
theorem G6:(fm==dA)=false:=by decide +kernel
section
variable{h1 h2 h3 h4:Int}{t1 t2 t3 t4:Tok}{v1 v2 v3 v4:Value}{n:Nat}
theorem rP:lookIn fF (bH (D4 h1 t1 v1 h2 t2 v2 h3 t3 v3 h4 t4 v4) n)=some (some v1):=by simp[lookIn,Ka]
theorem Cx:lookIn kN (bH (D4 h1 t1 v1 h2 t2 v2 h3 t3 v3 h4 t4 v4) n)=some (some v2):=by simp[lookIn,Ka,List.find?,Gb]
theorem Cw:lookIn fm (bH (D4 h1 t1 v1 h2 t2 v2 h3 t3 v3 h4 t4 v4) n)=some (some v3):=by simp[lookIn,Ka,List.find?,Ga,G8]
theorem rO:lookIn dA (bH (D4 h1 t1 v1 h2 t2 v2 h3 t3 v3 h4 t4 v4) n)=some (some v4):=by simp[lookIn,Ka,List.find?,G9,G7,G6]
theorem GJ{k:Int}{key v:Value}: putL fF k key v (D4 h1 t1 v1 h2 t2 v2 h3 t3 v3 h4 t4 v4)=D4 h1 t1 v h2 t2 v2 h3 t3 v3 h4 t4 v4:=by simp[putL,Ka]
end
theorem dL{a d:Addr}{es:List HP}{n:Nat}{name:Str}{v:Value}{expr:Bool}{Q:Value→Shared→Prop}(g:G aa (ac w) s.heap)(e1:s.heap.get? a=some { cls:=.ref gx,dict:=some d })(e2:s.heap.get? d=some (bH es n))
  (hl:lookIn name (bH es n)=some (some v)) (hat:findIn (ac w) (.ref 76) name=some none) (hh:handedIn v=true) (q:Q v { s with toks:=s.toks+1 }):wpAny (model pw w) A (getAttr (.ref a) name expr) Q E s:=
 get_value g.inK ⟨e1,rfl,rfl,e2⟩ (oI w) (findObj_own (Cz w) hat rfl hl) hh q
theorem lq:∀{l:List Str} {vs:List Value},vM l vs→vs.length=l.length:=by
 intro l1
 induction l1 with
 |nil=>
  intro l2
  cases l2 with
  |nil=>
   rintro _
   exact rfl
  |cons=>intro z0;first | exact HY z0 | exact nomatch z0
 |cons e1 t1 ih=>
  intro l2
  cases l2 with
  |nil=>intro z0;first | exact HY z0 | exact nomatch z0
  |cons e2 t2=>
   rintro x
   simp[ih x.2]
theorem ww{q:Str}{t:Tok}: ∀{l:List Str} {vs:List Value},vM l vs→vM (l++[q]) (vs++[.str q t]):=by
 intro l1
 induction l1 with
 |nil=>
  intro l2
  cases l2 with
  |nil=>
   rintro _
   exact⟨⟨t,rfl⟩,trivial⟩
  |cons=>intro z0;first | exact HY z0 | exact nomatch z0
 |cons e1 t1 ih=>
  intro l2
  cases l2 with
  |nil=>intro z0;first | exact HY z0 | exact nomatch z0
  |cons e2 t2=>
   rintro x
   exact⟨x.1,ih x.2⟩
inductive GC(h:Heap)(pb:List Str)(rest:List Nat)(ln:Int)(v:Value)(F:List Addr): Prop
 |mk(a d lp b e lf c r cd:Addr)(vs:List Value)(m:Nat)(ws:List Value)(k:Nat)(h1:Int)(t1 u1:Tok)(h2:Int)(t2:Tok)(h3:Int)(t3 u3:Tok)(h4:Int)(t4:Tok)(n:Nat)(ev:v=.ref a)(eF:F=[a,d,lp,b,e,lf,c,r,cd])(nd:[a,d,lp,b,e,lf,c,r,cd].Nodup)(e1:h.get? a=some { cls:=.ref gx,dict:=some d })
  (e2:h.get? d=some (bH (D4 h1 t1 (.int ln u1) h2 t2 (.ref b) h3 t3 (.str (H5 "\n\t\r ") u3) h4 t4 (.ref lp)) n))
  (e3:h.get? lp=some (bn vs m)) (e4:vM pb vs) (e5:h.get? b=some { cls:=.ref gx,dict:=some e })
  (e6:∃ es n,h.get? e=some (bH es n)∧∃ x,es.find? (fun x=>x.key.isStr iX)=some x∧x.val=.ref lf)
  (e7:kH h lf c cd) (e8:h.IsCell c (some (.ref r))) (e9:h.get? r=some (bn ws k)) (e10:gT rest ws)
theorem dm{h:Heap}{pb:List Str}{rest:List Nat}{ln:Int}{v:Value}{F:List Addr}(z:VR h (.lex pb rest ln) v F): GC h pb rest ln v F:=by
 cases z with
 |lex y=>
  obtain⟨d,lp,b,e,lf,c,r,cd,vs,m,ws,k,rfl,nd,e1,⟨h1,t1,u1,h2,t2,h3,t3,u3,h4,t4,n,e2⟩,e3,e4,e5,e6,e9,e10,e11,e12⟩:=y
  exact⟨_,d,lp,b,e,lf,c,r,cd,vs,m,ws,k,h1,t1,u1,h2,t2,h3,t3,u3,h4,t4,n,rfl,rfl,nd,e1,e2,e3,e4,e5,e6,e9,e10,e11,e12⟩
theorem uY{name:Str}{es:List HP}{n:Nat}{v:Value}(h:∃ x,es.find? (fun x=>x.key.isStr name)=some x∧x.val=v): lookIn name (bH es n)=some (some v):=by
 obtain⟨x,e1,e2⟩:=h
 simp only[lookIn,e1,e2]
theorem kH.kept{h h':Heap}{W:List Addr}{lf c cd:Addr}(k:aj W h h')(h1:lf∉W)(h2:cd∉W)(x:kH h lf c cd): kH h' lf c cd:=by
 obtain⟨pm,ctv,oc,us,t,e8,e9,e9'⟩:=x
 exact⟨pm,ctv,oc,us,t,k.keep _ _ e8 (.inl h1),k.keep _ _ e9 (.inl h2),e9'⟩
theorem qN{x:Str}{pb:List Str}{rest:List Nat}{ln:Int}{q:Str}{e:Expr}{f:Bool}{np apos mpos pos:Pos}(hl:locs.lookup x=some (.lex pb rest ln))(hz:pb.length≤1000)(he:Ev aa (ac w) w A env locs e (.str q) f)
  (hd:(x==("__debug__":Str))=false) (hcd:(x==("__classdict__":Str))=false)
  (hbase:IT (.Attribute (.Name x np) dA apos) (H5 "append") env (eval (.Attribute (.Name x np) dA apos) env)=eval (.Attribute (.Name x np) dA apos) env)
  (hfew:((backTo pos (Hg [e] env)).all (fun x=>!x.1)&&(KI pos (Jr [] env)).all (fun x=>x.1.isSome)
   &&decide (([e]:List Expr).length+([]:List Keyword).length+(if([]:List Keyword).isEmpty then 0 else 1)<30))=true)
  (hline:(mpos.endLine==pos.line)=true) (htrees:backTo pos (Hg [e] env)=[(false,eval e env)]):
  jp aa (ac w) pins w A env (eval (.Call (.Attribute (.Attribute (.Name x np) dA apos) (H5 "append") mpos) [e] [] pos) env) locs .none (ab x (.lex (pb++[q]) rest ln) locs):=.mk fun s Fs I=>by
 obtain⟨v,F,z,a,hF,hE,fin⟩:=I.turn (ae w) hl rfl
 obtain⟨a0,d,lp,b,ed,lf,c,r,cd,vs,m,ws,k,h1,t1,u1,h2,t2,h3,t3,u3,h4,t4,n,rfl,rfl,nd,e1,e2,e3,e4,e5,⟨es,n2,e6,e7⟩,e8,e9,e10,e11⟩:=dm z
 refine LO hbase hfew hline htrees (ID (aD I.er a hd hcd (dL I.g e1 e2 rO (oK w) rfl ⟨lp,vs.toArray,rfl,⟨_,_,e3,rfl,rfl,rfl⟩,?_⟩)))
 obtain kt:aG [] s { s with toks:=s.toks+1 }:=.ofToks
 refine Pw.andThen (he.run _ Fs (I.g.kept0 kt.heap) (I.er.kept0 kt.heap)) fun u s1 hh=>?_
 obtain⟨k1,Fq,zq,fr⟩:=hh
 have hsz:vs.toArray.size≤Ip:=by obtain this:=aU;obtain this:=lq e4;simp only[Hx];omega
 refine JE ⟨m,k1.heap.get e3⟩ (fun h' ⟨n',hp⟩ hsb=>?_) hsz
 have kp:aj [lp] s1.heap h':=aj.same (k1.heap.get e3) rfl hsb
 have kk:aG [a0,d,lp,b,ed,lf,c,r,cd] s { s1 with heap:=h' }:=(kt.trans k1).all.trans (aG.mono (W:=[lp]) ⟨kp,fun _ _ e=>e,id,rfl⟩ fun b hb=>by rw[H7.mp hb];simp)
 obtain rfl:=zq.flat rfl
 obtain hv:VR h' (.lex (pb++[q]) rest ln) (.ref a0) [a0,d,lp,b,ed,lf,c,r,cd]:=by
  have g {b:Addr} {o:Obj} (e:s.heap.get? b=some o) (hb:b≠lp):h'.get? b=some o:=kp.keep _ _ (k1.heap.get e) (.inl (by simpa using hb))
  cases zq with
  |str _ tq=>
   exact .lex ⟨d,lp,b,ed,lf,c,r,cd,vs++[.str q tq],n',ws,k,rfl,nd,g e1 (bJ nd 0 2 (by decide) rfl rfl),⟨h1,t1,u1,h2,t2,h3,t3,u3,h4,t4,n,g e2 (bJ nd 1 2 (by decide) rfl rfl)⟩,by rw[hp];simp[bn],ww e4,g e5 (Il (bJ nd 2 3 (by decide) rfl rfl)),⟨es,n2,g e6 (Il (bJ nd 2 4 (by decide) rfl rfl)),e7⟩,(e8.kept (aG.heap k1) (by simp) (by simp)).kept kp (by simpa using Il (bJ nd 2 5 (by decide) rfl rfl)) (by simpa using Il (bJ nd 2 8 (by decide) rfl rfl)),(let⟨oc',q1,q2⟩:=e9;⟨oc',g q1 (Il (bJ nd 2 6 (by decide) rfl rfl)),q2⟩),g e10 (Il (bJ nd 2 7 (by decide) rfl rfl)),e11⟩
 obtain⟨Fs',I',o',f'⟩:=fin { s1 with heap:=h' } _ _ kk hv (fun b hb=>.inl hb)
 exact⟨kk.mono fun b hb=>(hF b hb).1,[],Fs',.none,fun b hb=>(nomatch hb),I',fun b hb=>(nomatch hb),o'⟩
theorem sD{x:Str}{pb:List Str}{rest:List Nat}{ln:Int}{q:Str}{np apos mpos pos cpos:Pos}{ck:Nat}(hl:locs.lookup x=some (.lex (q::pb) rest ln))(hz:pb.length≤1000)
  (hd:(x==("__debug__":Str))=false) (hcd:(x==("__classdict__":Str))=false)
  (hbase:IT (.Attribute (.Name x np) dA apos) (H5 "pop") env (eval (.Attribute (.Name x np) dA apos) env)=eval (.Attribute (.Name x np) dA apos) env) (hline:(mpos.endLine==pos.line)=true):
  jp aa (ac w) pins w A env (eval (.Call (.Attribute (.Attribute (.Name x np) dA apos) (H5 "pop") mpos) [.Constant (.int 0) ck cpos] [] pos) env) locs (.str q) (ab x (.lex pb rest ln) locs):=.mk fun s Fs I=>by
 obtain⟨v,F,z,a,hF,hE,fin⟩:=I.turn (ae w) hl rfl
 obtain⟨a0,d,lp,b,ed,lf,c,r,cd,vW,m,ws,k,h1,t1,u1,h2,t2,h3,t3,u3,h4,t4,n,rfl,rfl,nd,e1,e2,e3,e4,e5,⟨es,n2,e6,e7⟩,e8,e9,e10,e11⟩:=dm z
 match vW,e4 with
 |v0::vs,⟨⟨tq,ev⟩,e4'⟩=>
  subst ev
  obtain hlen:=lq e4'
  obtain kt:aG [] s { s with toks:=s.toks+1 }:=.ofToks
  refine Js hbase (by rfl) hline F.plainAttrs_list MA F.type_list_pop (ID (aD I.er a hd hcd (dL I.g e1 e2 rO (oK w) rfl ⟨⟨_,e3,rfl⟩,fun b e=>by cases e;exact⟨_,e3,rfl⟩,?_⟩)))
  obtain h:=(bG.cons (Ev.int (gt:=aa) (K:=ac w) (w:=w) (A:=A) (env:=env) (locs:=locs) 0 ck cpos) bG.nil rfl).run { s with toks:=s.toks+1 } Fs pos (I.g.kept0 kt.heap) (I.er.kept0 kt.heap)
  refine Ik (P:=fun _=>True) (by rfl) (fun h' _=>⟨.machine,.inr (.inl rfl),HD rfl⟩) (HZ (Pw.andThen h fun us s₂ ⟨k2,F3,v2,_⟩=>⟨trivial,?_⟩))
  obtain⟨u,rfl,zu⟩:=v2.one1
  cases zu with
  |int _ t=>
   refine nR (k2.heap.get e3) (by omega) fun h' hp hsb=>?_
   have kp:aj [lp] s₂.heap h':=aj.same (k2.heap.get e3) rfl hsb
   have kk:aG [a0,d,lp,b,ed,lf,c,r,cd] s { s₂ with heap:=h' }:=(kt.trans k2).all.trans (aG.mono (W:=[lp]) ⟨kp,fun _ _ e=>e,id,rfl⟩ fun b hb=>by rw[H7.mp hb];simp)
   obtain hv:VR h' (.lex pb rest ln) (.ref a0) [a0,d,lp,b,ed,lf,c,r,cd]:=by
    have g {b:Addr} {o:Obj} (e:s.heap.get? b=some o) (hb:b≠lp):h'.get? b=some o:=kp.keep _ _ (k2.heap.get e) (.inl (by simpa using hb))
    exact .lex ⟨d,lp,b,ed,lf,c,r,cd,vs,m+1,ws,k,rfl,nd,g e1 (bJ nd 0 2 (by decide) rfl rfl),⟨h1,t1,u1,h2,t2,h3,t3,u3,h4,t4,n,g e2 (bJ nd 1 2 (by decide) rfl rfl)⟩,hp,e4',g e5 (Il (bJ nd 2 3 (by decide) rfl rfl)),⟨es,n2,g e6 (Il (bJ nd 2 4 (by decide) rfl rfl)),e7⟩,(e8.kept (aG.heap k2) (by simp) (by simp)).kept kp (by simpa using Il (bJ nd 2 5 (by decide) rfl rfl)) (by simpa using Il (bJ nd 2 8 (by decide) rfl rfl)),(let⟨oc',q1,q2⟩:=e9;⟨oc',g q1 (Il (bJ nd 2 6 (by decide) rfl rfl)),q2⟩),g e10 (Il (bJ nd 2 7 (by decide) rfl rfl)),e11⟩
   obtain⟨Fs',I',o',f'⟩:=fin { s₂ with heap:=h' } _ _ kk hv (fun b hb=>.inl hb)
   exact⟨kk.mono fun b hb=>(hF b hb).1,[],Fs',.str q tq,fun b hb=>(nomatch hb),I',fun b hb=>(nomatch hb),o'⟩
theorem lj{x:Str}{pb:List Str}{rest:List Nat}{ln:Int}{np apos:Pos}(hl:locs.lookup x=some (.lex pb rest ln))(hz:pb.length≤1000)(hd:(x==("__debug__":Str))=false)(hcd:(x==("__classdict__":Str))=false):
  Tr aa (ac w) w A env locs (.Attribute (.Name x np) dA apos) (!pb.isEmpty):=.mk fun s Fs g z=>by
 refine Kv ?_ rfl
 obtain⟨mm,nn,V⟩:=id z.vars
 obtain⟨v',F',_,at',z'⟩:=V.find hl
 obtain⟨a0,d,lp,b,ed,lf,c,r,cd,vs,m,ws,k,h1,t1,u1,h2,t2,h3,t3,u3,h4,t4,n,rfl,rfl,nd,e1,e2,e3,e4,e5,e6,e8,e9,e10,e11⟩:=dm z'
 refine ID (aD z ⟨mm,nn,at'⟩ hd hcd (dL g e1 e2 rO (oK w) rfl ?_))
 have hlen:=lq e4
 refine wpAny_truthy_list ⟨_,e3,rfl,m,rfl⟩ (by simp only[Hx];omega) ⟨?_,.ofToks⟩
 cases pb <;> cases vs <;> simp_all
end
end
section
noncomputable def bC:List Nat→Str
 |[]=>H5 ""
 |c::_=>⟨#[c]⟩
noncomputable abbrev sN(l:List Nat): List PV:=l.map fun c=>PV.str ⟨#[c]⟩
noncomputable abbrev cC:Str:=H5 "rest"
noncomputable abbrev Bw:Str:=H5 "size"
noncomputable abbrev oX(lf c cd L:Addr): Env:=newEnv xr L IB [(cC,c)] (CE++".<locals>.") (some lf) (.ref cd) none Ji
section
variable{w:World}{A:Around}{s:Shared}
theorem B5(c cd:Addr)(pm ctv v:Value): J4 (CG c cd pm ctv) ⟨[v],[]⟩=pure [(Bw,v)]:=by kernel_rfl
theorem As{lf c r cd:Addr}{rest:List Nat}{ws:List Value}{k:Nat}{v:Value}(ro:Ro A 2)(g:G aa (ac w) s.heap)(hL:kH s.heap lf c cd)(hc:s.heap.IsCell c (some (.ref r)))(hr:s.heap.get? r=some (bn ws k))(hch:gT rest ws)
  (h1:348≤c) (h2:348≤r) (hcr:c≠r) (hz:rest.length≤100000):
  wpAny (model pw w) A (call (.ref lf) [v]) (fun u s'=>aG [r] s s'∧(∃ t',u=.str (bC rest) t')∧∃ ws' k',s'.heap.get? r=some (bn ws' k')∧gT rest.tail ws') (fun _ _=>False) s:=by
 obtain⟨pm,ctv,oc,us,t,e8,e9,e9',e9''⟩:=hL
 refine Jp (kla_callFunE (by obtain this:=ro.2.1;omega) e8 rfl (by kernel_rfl) (by kernel_rfl) rfl ⟨cd,oc,us,t,rfl,e9,e9',e9''⟩ ?_)
 rw[B5]
 obtain hcell:∀ x∈xr.names,x.2≠MH.cell:=by decide +kernel
 obtain hloc:xr.names.lookup Bw=some .local:=by decide +kernel
 refine Hi (Lb hcell (fun x hx=>by rw[H7.mp hx];exact hloc) (fun h' ns sb=>?_) (by kernel_rfl))
 have keep:∀ b o,s.heap.get? b=some o→h'.get? b=some o:=fun b o e=>sb.extBut b o (Im (Hr e)) (Ht _ e)
 have kp:aj [] s.heap h':=⟨by rw[sb.1,HX];exact J0 _,fun b o e _=>keep b o e⟩
 obtain g1:=g.kept0 kp
 refine⟨g1.nolimit,kla_codeExpr ?_⟩
 show wpAny (model pw w) (A.deeper (oX lf c cd s.heap.objs.size)) (eval CH (oX lf c cd s.heap.objs.size)) _ _ { s with heap:=h',toks:=s.toks+1 }
 obtain ho:=keep _ _ hr
 obtain hlen:∀{l:List Nat} {vs:List Value},gT l vs→vs.length=l.length:=by
  intro l
  induction l with
  |nil=>intro vs z;cases vs with | nil=>rfl | cons _ _=>exact z.elim
  |cons a l ih=>intro vs z;cases vs with | nil=>exact z.elim | cons _ _=>simp[ih z.2]
 have er:dO h' (oX lf c cd s.heap.objs.size) [(cC,.own (sN rest))] [[r]]:=
  ⟨by kernel_rfl,rfl,rfl,_,ns,⟨.ref r,.inr ⟨.inr (by kernel_rfl),c,by kernel_rfl,(let⟨oc',q1,q2⟩:=hc;⟨oc',keep _ _ q1,q2⟩)⟩,.own (n:=k) ho (mP hch) (by simp)⟩,trivial⟩
 obtain kA:aG [] s { s with heap:=h',toks:=s.toks+1 }:=⟨kp,fun _ _ e=>e,id,rfl⟩
 have ht:∀ p,Tr aa (ac w) w (A.deeper (oX lf c cd s.heap.objs.size)) (oX lf c cd s.heap.objs.size) [(cC,.own (sN rest))] (.Name cC p) (!(sN rest).isEmpty):=fun p=>by
  refine Tr.list (f:=false) ?_ (by simpa using hz) rfl
  refine Ev.local ?_ cB rfl (by kernel_rfl) (by kernel_rfl)
  walk_at "lk"
 refine Hf (Q:=fun u s'=>aG [r] s s'∧(∃ t',u=.str (bC rest) t')∧∃ ws' k',s'.heap.get? r=some (bn ws' k')∧gT rest.tail ws') (E:=fun _ _=>False) ?_ (fun u s3 hq=>hq) fun _ _ e=>e.elim
 refine IfExp_ (Pw.andThen ((ht _).run { s with heap:=h',toks:=s.toks+1 } _ g1 er) fun b s2 hh=>?_)
 obtain⟨eb,k2⟩:=hh
 subst eb
 have k02:=kA.trans k2
 obtain g2:=g.kept0 k02.heap
 have er2:=er.kept0 k2.heap
 cases rest with
 |nil=>
  skip
  refine Hf ((Ev.str (gt:=aa) (K:=ac w) (w:=w) (A:=A.deeper (oX lf c cd s.heap.objs.size)) (env:=oX lf c cd s.heap.objs.size) (locs:=[(cC,.own (sN []))]) (H5 "") _ _).run s2 _ g2 er2) (fun u s3 hh=>?_) fun _ _ e=>e.elim
  obtain⟨k3,F,zu,_⟩:=hh
  cases zu with
  |str _ t'=>exact⟨(k02.trans k3).all,⟨t',rfl⟩,ws,k,(k02.trans k3).heap.get hr,hch⟩
 |cons c0 rest=>
  skip
  match ws,hch with
  |v0::ws,⟨⟨t0,ev⟩,hch⟩=>
   subst ev
   obtain hl:=hlen hch
   obtain⟨mm,nn,V⟩:=id er2.vars
   obtain⟨v',F',_,at',z'⟩:=V.find (show[(cC,PV.own (sN (c0::rest)))].lookup cC=some (.own (sN (c0::rest)))from di)
   have hv':v'=.ref r:=gn.fn ⟨mm,nn,at'⟩ ⟨mm,nn,.inr ⟨.inr (by kernel_rfl),c,by kernel_rfl,(let⟨oc',q1,q2⟩:=hc;⟨oc',k2.heap.get (keep _ _ q1),q2⟩)⟩⟩
   subst hv'
   have e2:=k2.heap.get ho
   refine Js rfl (by rfl) rfl F.plainAttrs_list MA F.type_list_pop (aD er2 ⟨mm,nn,at'⟩ (by kernel_rfl) (by kernel_rfl) ⟨⟨_,e2,rfl⟩,fun b e=>by cases e;exact⟨_,e2,rfl⟩,?_⟩)
   obtain h:=fun ck cp pos=>(bG.cons (Ev.int (gt:=aa) (K:=ac w) (w:=w) (A:=A.deeper (oX lf c cd s.heap.objs.size)) (env:=oX lf c cd s.heap.objs.size) (locs:=[(cC,.own (sN (c0::rest)))]) 0 ck cp) bG.nil rfl).run s2 _ pos g2 er2
   refine Ik (P:=fun _=>True) (by rfl) (fun h' _=>⟨.machine,.inr (.inl rfl),HD rfl⟩) (HZ (Pw.andThen (h _ _ _) fun us s₂ ⟨k4,F3,v2,_⟩=>⟨trivial,?_⟩))
   obtain⟨u,rfl,zu⟩:=v2.one1
   cases zu with
   |int _ tt=>
    refine nR (k4.heap.get e2) (by simp at hz;omega) fun h'' hp hsb=>?_
    exact⟨(k02.trans k4).all.trans ⟨aj.same (k4.heap.get e2) rfl hsb,fun _ _ e=>e,id,rfl⟩,⟨t0,rfl⟩,ws,k+1,hp,hch⟩
end
end
section
section
variable{w:World}{A:Around}{env:Env}{locs locs':List (Str×PV)}{pins:List (Str×Addr)}
theorem yf{x:Str}{pb:List Str}{rest:List Nat}{ln:Int}{np apos mpos pos cpos:Pos}{ck:Nat}{pl:Sem Bool}(ro:Ro A 2)(hl:locs.lookup x=some (.lex pb rest ln))(hz:rest.length≤100000)
  (hd:(x==("__debug__":Str))=false) (hcd:(x==("__classdict__":Str))=false)
  (hev:eval (.Call (.Attribute (.Attribute (.Name x np) kN apos) iX mpos) [.Constant (.int 1) ck cpos] [] pos) env=(do
   let ov ←eval (.Attribute (.Name x np) kN apos) env
   standAt mpos.atName
   let(f,first) ←holding [ov] (JI ov iX pl)
   IU pos f first (backTo pos (Hg [.Constant (.int 1) ck cpos] env)) [])):
  jp aa (ac w) pins w A env (eval (.Call (.Attribute (.Attribute (.Name x np) kN apos) iX mpos) [.Constant (.int 1) ck cpos] [] pos) env) locs (.str (bC rest)) (ab x (.lex pb rest.tail ln) locs):=.mk fun s Fs I=>by
 obtain⟨v,F,z,a,hF,hE,fin⟩:=I.turn (ae w) hl rfl
 obtain⟨a0,d,lp,b,ed,lf,c,r,cd,vW,m,ws,k,h1,t1,u1,h2,t2,h3,t3,u3,h4,t4,n,rfl,rfl,nd,e1,e2,e3,e4,e5,⟨es,n2,e6,e7⟩,e8,e9,e10,e11⟩:=dm z
 obtain I5:InstAt s.heap b { cls:=.ref gx,dict:=some ed } 76 (some (bH es n2)):=⟨e5,rfl,rfl,e6⟩
 refine ML (pl:=pl) (ID (aD I.er a hd hcd (dL I.g e1 e2 Cx (Ap w) rfl ?_))) hev
 refine method_usual (s:={ s with toks:=s.toks+1 }) (K:=ac w) I.g.inK I5 (oI w) (rT w) (tN w) rfl ?_
 refine dL (s:={ s with toks:=s.toks+1 }) I.g e5 e6 (uY e7) (tN w) rfl ?_
 obtain kt:aG [] s { s with toks:=s.toks+1+1 }:=.ofToks
 obtain h:=(bG.cons (Ev.int (gt:=aa) (K:=ac w) (w:=w) (A:=A) (env:=env) (locs:=locs) 1 ck cpos) bG.nil rfl).run { s with toks:=s.toks+1+1 } Fs pos (I.g.kept0 kt.heap) (I.er.kept0 kt.heap)
 have e8':=e8
 obtain⟨pm,ctv,oc,us,t,f8,f9⟩:=e8'
 refine Ik (P:=fun h=>h.get? lf=some { cls:=.type "function",data:=.func (CG c cd pm ctv) }) (by rfl) (fun h' e=>⟨.frame,.inl rfl,(Looks.ld (part:=none) e).andThen .now⟩) (HZ (Pw.andThen h fun vs s₂ ⟨k2,F3,v2,_⟩=>⟨k2.heap.get f8,?_⟩))
 obtain⟨u,rfl,zu⟩:=v2.one1
 have k02:=kt.trans k2
 refine Pw.andThen (As (v:=u) ro (I.g.kept0 k02.heap) (e8.kept k02.heap (by simp) (by simp)) (bq k02.heap e9 (by simp)) (k02.heap.get e10) e11 (hF c (by simp)).2 (hF r (by simp)).2 (bJ nd 6 7 (by decide) rfl rfl) hz) fun u s3 hh=>?_
 obtain⟨k3,⟨tu,eu⟩,ws',k',hr,hch⟩:=hh
 subst eu
 have kk:aG [a0,d,lp,b,ed,lf,c,r,cd] s s3:=k02.all.trans (k3.mono fun b hb=>by rw[H7.mp hb];simp)
 obtain hv:VR s3.heap (.lex pb rest.tail ln) (.ref a0) [a0,d,lp,b,ed,lf,c,r,cd]:=by
  have g {b:Addr} {o:Obj} (e:s.heap.get? b=some o) (hb:b≠r):s3.heap.get? b=some o:=k3.heap.keep _ _ (k02.heap.get e) (.inl (by simpa using hb))
  exact .lex ⟨d,lp,b,ed,lf,c,r,cd,vW,m,ws',k',rfl,nd,g e1 (bJ nd 0 7 (by decide) rfl rfl),⟨h1,t1,u1,h2,t2,h3,t3,u3,h4,t4,n,g e2 (bJ nd 1 7 (by decide) rfl rfl)⟩,g e3 (bJ nd 2 7 (by decide) rfl rfl),e4,g e5 (bJ nd 3 7 (by decide) rfl rfl),⟨es,n2,g e6 (bJ nd 4 7 (by decide) rfl rfl),e7⟩,(e8.kept k02.heap (by simp) (by simp)).kept k3.heap (by simpa using(bJ nd 5 7 (by decide) rfl rfl)) (by simpa using Il (bJ nd 7 8 (by decide) rfl rfl)),(let⟨oc',q1,q2⟩:=e9;⟨oc',g q1 (bJ nd 6 7 (by decide) rfl rfl),q2⟩),hr,hch⟩
 obtain⟨Fs',I',o',f'⟩:=fin s3 _ _ kk hv (fun b hb=>.inl hb)
 exact⟨kk.mono fun b hb=>(hF b hb).1,[],Fs',.str _ tu,fun b hb=>(nomatch hb),I',fun b hb=>(nomatch hb),o'⟩
end
section
variable{w:World}{A:Around}{env:Env}{locs locs':List (Str×PV)}{pins:List (Str×Addr)}
theorem cG(w:World){name:Str}(h:takerIn (ac w) 76 name=some none): t7 w 76 name:=⟨by kernel_rfl,by kernel_rfl,h,by kernel_rfl⟩
theorem vk{x:Str}{pb:List Str}{rest:List Nat}{ln:Int}{np apos pos cpos:Pos}{ck:Nat}(hl:locs.lookup x=some (.lex pb rest ln))(hd:(x==("__debug__":Str))=false)(hcd:(x==("__classdict__":Str))=false):
  Ex aa (ac w) pins w A env (exec (.AugAssign (.Attribute (.Name x np) fF apos) .Add (.Constant (.int 1) ck cpos) pos) env) locs .next (ab x (.lex pb rest (ln+1)) locs):=.mk fun s Fs I=>by
 obtain⟨v,F,z,a,hF,hE,fin⟩:=I.turn (ae w) hl rfl
 obtain⟨a0,d,lp,b,ed,lf,c,r,cd,vW,m,ws,k,h1,t1,u1,h2,t2,h3,t3,u3,h4,t4,n,rfl,rfl,nd,e1,e2,e3,e4,e5,⟨es,n2,e6,e7⟩,e8,e9,e10,e11⟩:=dm z
 obtain hC:=cG w (name:=fF) (by kernel_rfl)
 refine wpAny_AugAssign_AttributeAny (aD I.er a hd hcd (dL I.g e1 e2 rP (tO w) rfl ?_))
 obtain kt:aG [] s { s with toks:=s.toks+1 }:=.ofToks
 refine Pw.andThen ((Ev.int (gt:=aa) (K:=ac w) (w:=w) (A:=A) (env:=env) (locs:=locs) 1 ck cpos).run { s with toks:=s.toks+1 } Fs (I.g.kept0 kt.heap) (I.er.kept0 kt.heap)) fun u s1 hh=>?_
 obtain⟨k1,F1,zu,_⟩:=hh
 cases zu with
 |int _ tt=>
  refine Pw.andThen (BE (w:=w) (A:=A) (i:=ln) (j:=1) s1 _ _ [] [] (.int ln u1) (.int 1 tt)) fun nw s2 hh=>?_
  obtain⟨k2,F2,zn,_⟩:=hh
  cases zn with
  |int _ tn=>
   have k02:=(kt.trans k1).trans k2
   refine fj (I.g.kept0 k02.heap).inK (k02.heap.get e1) (k02.heap.get e2) hC.1 hC.2.1 hC.2.2.1 hC.2.2.2 (by rw[rP];rfl) (by simp) fun h' t hD hsb=>?_
   skip
   have kp:aj [d] s2.heap h':=aj.same (k02.heap.get e2) rfl hsb
   have kk:aG [a0,d,lp,b,ed,lf,c,r,cd] s { s2 with heap:=h',toks:=s2.toks+2 }:=k02.all.trans (aG.mono (W:=[d]) ⟨kp,fun _ _ e=>e,id,rfl⟩ fun b hb=>by rw[H7.mp hb];simp)
   obtain hv:VR h' (.lex pb rest (ln+1)) (.ref a0) [a0,d,lp,b,ed,lf,c,r,cd]:=by
    have g {b:Addr} {o:Obj} (e:s.heap.get? b=some o) (hb:b≠d):h'.get? b=some o:=kp.keep _ _ (k02.heap.get e) (.inl (by simpa using hb))
    exact .lex ⟨d,lp,b,ed,lf,c,r,cd,vW,m,ws,k,rfl,nd,g e1 (bJ nd 0 1 (by decide) rfl rfl),⟨h1,t1,tn,h2,t2,h3,t3,u3,h4,t4,_,hD⟩,g e3 (Il (bJ nd 1 2 (by decide) rfl rfl)),e4,g e5 (Il (bJ nd 1 3 (by decide) rfl rfl)),⟨es,n2,g e6 (Il (bJ nd 1 4 (by decide) rfl rfl)),e7⟩,(e8.kept k02.heap (by simp) (by simp)).kept kp (by simpa using Il (bJ nd 1 5 (by decide) rfl rfl)) (by simpa using Il (bJ nd 1 8 (by decide) rfl rfl)),(let⟨oc',q1,q2⟩:=e9;⟨oc',g q1 (Il (bJ nd 1 6 (by decide) rfl rfl)),q2⟩),g e10 (Il (bJ nd 1 7 (by decide) rfl rfl)),e11⟩
   obtain⟨Fs',I',o',f'⟩:=fin { s2 with heap:=h',toks:=s2.toks+2 } _ _ kk hv (fun b hb=>.inl hb)
   exact⟨kk.mono fun b hb=>(hF b hb).1,rfl,Fs',I',o'⟩
end
end
section
noncomputable abbrev Dx:List Stmt:=aF (aA 3 (H5 "_read_char"))
noncomputable abbrev Gz:List Stmt:=aF (aA 3 (H5 "push_token"))
noncomputable def H4:Str:=H5 "\n"
noncomputable def ar(rest:List Nat)(ln:Int): Int:=if(bC rest==H5 "\n")=true then ln+1 else ln
section
variable{w:World}{A:Around}
theorem fU{pb:List Str}{rest:List Nat}{ln:Int}(h:Heap)(v:Value)(F:List Addr)(z:VR h (.lex pb rest ln) v F): ∃ a,v=.ref a:=by cases z;exact⟨_,rfl⟩
theorem Fg(pb:List Str)(rest:List Nat)(ln:Int)(hz:rest.length≤100000){L a:Addr}(ro':Ro A 2): ∃ locs',Ex aa (ac w) [(H5 "self",a)] w A (ah 59 CU L) (execs Dx (ah 59 CU L)) ([H5 "self"].zip [PV.lex pb rest ln]) (.ret (.str (bC rest))) locs'∧locs'.lookup (H5 "self")=some (.lex pb rest.tail (ar rest ln)):=by
 show∃ locs',Ex _ _ _ _ _ _ _ ([H5 "self"].zip [PV.lex pb rest ln]) _ _∧_
 refine⟨ab (H5 "self") (.lex pb rest.tail (ar rest ln)) (ab (H5 "ch") (.str (bC rest)) (ab (H5 "self") (.lex pb rest.tail ln) ([H5 "self"].zip [PV.lex pb rest ln]))),?_,by walk_at "lk"⟩
 refine af (bB (p:=.str (bC rest)) (ae _) (by simp;decide +kernel) (yf (pb:=pb) (rest:=rest) (ln:=ln) ro' ?_ hz (by kernel_rfl) (by kernel_rfl) rfl) (Bind.same rfl) (.inl (by kernel_rfl)) rfl) ?_
 ·walk_at "lk"
 refine af (locs':=ab (H5 "self") (.lex pb rest.tail (ar rest ln)) (ab (H5 "ch") (.str (bC rest)) (ab (H5 "self") (.lex pb rest.tail ln) ([H5 "self"].zip [PV.lex pb rest ln])))) ?_ ?_
 ·unfold ar
  cases hc:(bC rest==H5 "\n")with
  |true=>
   skip
   refine cE (c:=true) ?_ rfl ?_
   ·rw[←hc];walk_at "tr"
   ·refine af (vk ?_ (by kernel_rfl) (by kernel_rfl)) aq
    walk_at "lk"
  |false=>
   skip
   refine c7 (c:=false) ?_ rfl ?_
   ·rw[←hc];walk_at "tr"
   ·refine am aq (by kernel_rfl) ?_
    walk_at "looks"
 ·walk_at "ret"
theorem G5(w:World)(A:Around)(pb:List Str)(rest:List Nat)(ln:Int)(hz:rest.length≤100000)(ro:Ro A 3): dy aa (ac w) w A 59 (.lex pb rest ln) [] (.str (bC rest)) (.lex pb rest.tail (ar rest ln)):=
 dh (nM.toS.up (ag w)) ro (by kernel_rfl) rfl rfl (dargs:=[]) (dvs:=[]) (fun h=>.nil) rfl rfl rfl (fun h u vs g hl=>by
  revert hl;revert vs;exact vW (HD (nM.bind [u] rfl))) (by simp) (.inl rfl) (fun L a ro'=>Fg pb rest ln hz ro') fU
theorem Ep(w:World)(A:Around)(pb:List Str)(rest:List Nat)(ln:Int)(q:Str)(hz:pb.length≤1000)(ro:Ro A 2): dy aa (ac w) w A 73 (.lex pb rest ln) [.str q] .none (.lex (pb++[q]) rest ln):=
 dh (un.toS.up (ag w)) ro (by kernel_rfl) rfl rfl (dargs:=[]) (dvs:=[]) (fun h=>.nil) rfl rfl rfl (fun h u vs g hl=>by
  revert hl;revert vs;exact bY fun b=>HD (un.bind [u,b] rfl)) (dg rfl) (.inr ⟨rfl,rfl⟩) (fun L a ro'=>by
  show∃ locs',Ex _ _ _ _ _ _ _ ([H5 "self",H5 "token"].zip [PV.lex pb rest ln,.str q]) _ _∧_
  refine⟨ab (H5 "self") (.lex (pb++[q]) rest ln) ([H5 "self",H5 "token"].zip [PV.lex pb rest ln,.str q]),?_,by walk_at "lk"⟩
  refine af (bU (qN (pb:=pb) (rest:=rest) (ln:=ln) (f:=true) ?_ hz ?_ (by kernel_rfl) (by kernel_rfl) rfl rfl rfl rfl) rfl rfl) aq
  ·walk_at "lk"
  ·walk_at "ev") fU
end
end
section
section
variable{gt:List (Str×Value)}{K:List (Addr×Obj)}{w:World}{A:Around}
end
section
variable{M:Model}{A:Around}{E:Value→Shared→Prop}{s:Shared}
theorem io{f:Value}{pos:List Value}{Q:Value→Shared→Prop}
  (hc:codeAny M A (.call f ⟨pos,[]⟩) (fun r s'=>match r with | .ok (.ret v)=>Q v s' | .ok _=>False | .error e=>E e s') s):wpAny M A (callBorrowed f pos) Q E s:=fun Γ p hΓ=>by
 obtain h:=Jp hc Γ p hΓ
 rw[Sem.wp_cmd_call]at h
 unfold callBorrowed
 skip
 obtain e:∀{X Y:Result→Shared→Prop} {Γ' p'},X=Y→wpCode M Γ' Y p' s→wpCode M Γ' X p' s:=fun e h=>e▸h
 refine e ?_ h
 funext r s'
 cases r with
 |error e=>simp
 |ok f=>cases f <;> simp
end
section
variable{w:World}{A:Around}
theorem Es(w:World)(A:Around)(pb:List Str)(rest:List Nat)(ln:Int)(hz:rest.length≤100000)(ro:Ro A 3): uw aa (ac w) w A 59 (.lex pb rest ln) [] (.str (bC rest)) (.lex pb rest.tail (ar rest ln)):=
 qi (nM.toS.up (ag w)) ro (by kernel_rfl) rfl rfl (dargs:=[]) (dvs:=[]) (fun h=>.nil) rfl rfl rfl (fun h u vs g hl=>by
  revert hl;revert vs;exact vW (HD (nM.bind [u] rfl))) (by simp) (.inl rfl) (fun L a ro'=>Fg pb rest ln hz ro') fU
end
end
section
namespace F
theorem slot_cit_next:Slot "callable_iterator" "__next__" "callable_iterator.__next__":=
 .of (owner:="callable_iterator") (n:="__next__") (by rw[JZ,J5];kernel_rfl) (by decide +kernel) (by decide +kernel) (by decide +kernel)
  (by first | exact .inl (by decide +kernel) | exact .inr (by decide +kernel)) (by rw[LB];kernel_rfl)
theorem entry_cit_next:entryFor table "callable_iterator.__next__" = some Builtin.«callable_iterator.__next__»:=Ma (by kernel_rfl)
theorem args_cit_next(a:Value): argsOk "callable_iterator.__next__" ⟨[a],[]⟩:=by unfold argsOk;kernel_rfl
theorem slot_cit_iter:Slot "callable_iterator" "__iter__" "callable_iterator.__iter__":=
 .of (owner:="callable_iterator") (n:="__iter__") (by rw[JZ,J5];kernel_rfl) (by decide +kernel) (by decide +kernel) (by decide +kernel)
  (by first | exact .inl (by decide +kernel) | exact .inr (by decide +kernel)) (by rw[LB];kernel_rfl)
theorem entry_cit_iter:entryFor table "callable_iterator.__iter__" = some Builtin.«dict_keyiterator.__iter__»:=
 entryFor_alias (id':="dict_keyiterator.__iter__") (by kernel_rfl) rfl (by decide +kernel) (by kernel_rfl)
theorem args_cit_iter(a:Value): argsOk "callable_iterator.__iter__" ⟨[a],[]⟩:=by unfold argsOk;kernel_rfl
end F
section
variable{w:World}{A:Around}{E:Value→Shared→Prop}{s:Shared}
theorem js{it:Addr}{Q:Value→Shared→Prop}(hT:s.TypeIs (.ref it) "callable_iterator")(h:Q (.ref it) s): wpAny (model pw w) A (pyIter (.ref it)) Q E s:=by
 refine wpAny_pyIter_slot hT F.slot_cit_iter (L0 F.slot_cit_iter hT F.entry_cit_iter ?_ (F.args_cit_iter _))
 show wpAny _ _ (ret (.ref it)) _ _ s
 exact Hi ⟨_,rfl,"callable_iterator",_,hT,F.slot_cit_next.lookup,h⟩
theorem ig{bm a:Addr}{fd:Hy}{o:Obj}{Q:Bool→Shared→Prop}(hb:s.heap.get? bm=some { cls:=.type "method",data:=.fields #[.ref 59,.ref a] })(h59:s.heap.get? 59=some o)(ho:o.data=.func fd)(h:Q true s): wpAny (model pw w) A (borrowsExactly (.ref bm)) Q E s:=by
 skip
 refine Hc (wpAny_load hb ?_)
 show wpAny _ _ (load 59 >>= _) _ _ s
 refine Hc (wpAny_load h59 ?_)
 rw[ho]
 exact Hi h
theorem jr{it bm a:Addr}{t:Tok}{pb:List Str}{rest:List Nat}{ln:Int}{Fl:List Addr}{Q:Option Value→Shared→Prop}(ro:Ro A 5)(g:G aa (ac w) s.heap)
  (hit:s.heap.get? it=some { cls:=.type "callable_iterator",data:=.fields #[.ref bm,.str (H5 "") t,.bool false] }) (hbm:s.heap.get? bm=some { cls:=.type "method",data:=.fields #[.ref 59,.ref a] })
  (hne:it≠bm) (z:VR s.heap (.lex pb rest ln) (.ref a) Fl) (hz:rest.length≤100000) (hi:∀ b∈Fl,348≤b) (d1:it∉Fl) (d2:bm∉Fl)
  (hsome:∀ c r s' t' F',rest=c::r→aG Fl s s'→VR s'.heap (.lex pb r (ar rest ln)) (.ref a) F'→(∀ b∈F',b∈Fl∨s.heap.objs.size≤b)→Q (some (.str ⟨#[c]⟩ t')) s')
  (hnone:∀ s' F',rest=[]→aG (it::Fl) s s'→VR s'.heap (.lex pb [] ln) (.ref a) F'→(∀ b∈F',b∈Fl∨s.heap.objs.size≤b)→s'.heap.get? it=some { cls:=.type "callable_iterator",data:=.fields #[.none,.none,.bool true] }→Q none s'):
  wpAny (model pw w) A (pyNext (.ref it)) Q E s:=by
 obtain hT:s.TypeIs (.ref it) "callable_iterator":=⟨_,hit,rfl⟩
 obtain⟨o59,hm59,ho59⟩:=(nM.up (ag w)).obj
 skip
 refine Hc (LX (KD (name:=H5 "__next__") hT F.slot_cit_next
  (L0 F.slot_cit_next hT F.entry_cit_next ?_ (F.args_cit_next _))))
 show wpAny _ _ (field (.ref it) 2 >>= _) _ _ s
 refine Hc (JL hit rfl (x:=.bool false) rfl ?_)
 skip
 refine Hc (JL hit rfl (x:=.ref bm) rfl ?_)
 skip
 refine Hc (LX (Hc (ig hbm (g.tab _ hm59) ho59 ?_)))
 skip
 refine io (ks_codeAny_call_bound hbm ?_)
 refine(Es w A.in1 pb rest ln hz ⟨ro.1,by obtain this:=ro.2.1;show A.depth+3<_;omega,by obtain this:=ro.2.2;show A.units+1+4*3+8<_;omega⟩).run s (.ref a) [] Fl _ g z hi .nil fun u s1 hh=>?_
 obtain⟨k1,zu,F',z',o'⟩:=hh
 have hit1:=k1.heap.keep _ _ hit (.inl d1)
 obtain hbm1:=k1.heap.keep _ _ hbm (.inl d2)
 obtain g1:=g.kept k1.heap hi (ae w)
 cases zu with
 |str _ tu=>
  show wpAny _ _ (field (.ref it) 2 >>= _) _ _ s1
  refine Hc (JL hit1 rfl (x:=.bool false) rfl ?_)
  skip
  refine Hc (JL hit1 rfl (x:=.str (H5 "") t) rfl (Hc (IF (wpAny_eqBool_str ?_))))
  cases rest with
  |cons c r=>
   obtain hne':decide (H5 "" = bC (c::r))=false:=by
    rw[decide_eq_false_iff_not]
    intro e
    obtain h1:(H5 "").length=0:=by decide +kernel
    have h2:(bC (c::r)).length=1:=rfl
    rw[e,h2]at h1;cases h1
   skip
   refine Hi ⟨_,rfl,Hi (hsome c r s1 tu F' rfl k1 z' o')⟩
  |nil=>
   obtain he:decide (H5 "" = bC [])=true:=by decide +kernel
   skip
   skip
   refine Hc (LC (Hc ?_))
   show wpAny _ _ (field (.ref it) 0 >>= fun old=>slotLetsGo "callable_iterator.__next__" old _ >>= fun _=>setField (.ref it) 0 .none >>= fun _=>setField (.ref it) 1 .none >>= fun _=>setField (.ref it) 2 (.bool true)) _ _ s1
   refine Hc (JL hit1 rfl (x:=.ref bm) rfl (Hc ?_))
   skip
   refine Hc (ig hbm1 (g1.tab _ hm59) ho59 ?_)
   skip
   refine Hi ?_
   refine Hc (LG hit1 (by simp) fun h2 e2 b2=>?_)
   refine Hc (LG e2 (by simp) fun h3 e3 b3=>?_)
   refine LG e3 (by simp) fun h4 e4 b4=>?_
   obtain b14:=(b2.trans b3).trans b4
   have kI:aj [it] s1.heap h4:=aj.same hit1 rfl b14
   show wpAny _ _ (newExc (.type "StopIteration") [] >>= _) _ _ _
   refine Hc ?_
   simp only[newExc,newTuple]
   refine Hc (Jv ?_ (by size_fits))
   refine Hc (m:=LH _ _) (wpAny_of_eq (a:=Value.none) (by first | rfl | (simp only[LH];rfl)) ?_)
   refine Jv ?_ (by size_fits)
   simp only[raiseNew]
   refine Hc (wpAny_handled ?_)
   rw[show A.in1.handled=none from ro.1]
   refine Hc (Hi (wpAny_throw ?_))
   refine Hc (Mc (T:="StopIteration") (b:=true) ⟨_,Hk _ rfl,rfl⟩ isSubtype_stop ?_)
   refine Hi ?_
   obtain kp:=fun(o1 o2:Obj)=>(aj.push h4 o1).trans (aj.push (h4.push o1) o2)
   refine hnone _ F' rfl ((k1.mono fun b hb=>.tail _ hb).trans ⟨(kI.mono fun b hb=>by rw[H7.mp hb];exact .head _).trans (kp _ _).all,fun _ _ e=>e,id,rfl⟩) ?_ o' ((kp _ _).get e4)
   obtain hr:ar [] ln=ln:=by unfold ar;rw[if_neg (by decide +kernel)]
   rw[hr]at z'
   refine(z'.kept kI fun b hb hm=>?_).kept0 (kp _ _)
   rw[H7.mp hm]at hb
   exact(o' it hb).elim d1 fun h=>absurd (Hr hit) (Hz.mpr h)
end
end
section
section
variable{w:World}{A:Around}{E:Value→Shared→Prop}{s:Shared}{env:Env}{locs locs':List (Str×PV)}{pins:List (Str×Addr)}
noncomputable abbrev A8:Str:=H5 "_read_char"
theorem rU{h1 h2 h3 h4:Int}{t1 t2 t3 t4:Tok}{v1 v2 v3 v4:Value}{n:Nat}: findObj (ac w) 76 (some (bH (D4 h1 t1 v1 h2 t2 v2 h3 t3 v3 h4 t4 v4) n)) A8=some (.bind (.builtin "function.__get__") (.ref 59)):=by kernel_rfl
theorem va{a d:Addr}{es:List HP}{n:Nat}{expr:Bool}{Q:Value→Shared→Prop}(g:G aa (ac w) s.heap)(e1:s.heap.get? a=some { cls:=.ref gx,dict:=some d })(e2:s.heap.get? d=some (bH es n))
  (hf:findObj (ac w) 76 (some (bH es n)) A8=some (.bind (.builtin "function.__get__") (.ref 59))) (q:Q (.ref s.heap.objs.size) { s with heap:=s.heap.push (MW (.ref 59) (.ref a)),toks:=s.toks+1 }):wpAny (model pw w) A (getAttr (.ref a) A8 expr) Q E s:=by
 refine get_bind g.inK ⟨e1,rfl,rfl,e2⟩ (oI w) hf (rT w) (Jp (fn_get g.inK (by kernel_rfl) ?_))
 show wpAny _ _ (handedOut _) _ _ _
 skip
 exact Hi q
theorem lA:typeLookup (.type "method") "__call__" = pure (some (.builtin "method.__call__")):=by rw[JZ,J5];kernel_rfl
theorem rC:plainId "iter" = true:=by decide +kernel
theorem ve:builtinKind "iter" = none:=by decide +kernel
theorem qR:entryFor table "iter" = some Builtin.«iter»:=Ma (by kernel_rfl)
theorem sX(a b:Value): argsOk "iter" ⟨[a,b],[]⟩:=by unfold argsOk;kernel_rfl
theorem sS{bm a:Addr}{v:Value}{Q:Value→Shared→Prop}(hbm:s.heap.get? bm=some (MW (.ref 59) (.ref a)))
  (h:Q (.ref s.heap.objs.size) { s with heap:=s.heap.push { cls:=.type "callable_iterator",data:=.fields #[.ref bm,v,.bool false] } }):wpAny (model pw w) A (call (.builtin "iter") [.ref bm,v]) Q E s:=by
 refine Jp (codeAny_call_builtin rC qR ?_)
 have hfin:wpAny (model pw w) A.in1 (Builtin.«iter» ⟨[.ref bm,v],[]⟩) (fun fin s'=>match fin with | .done f=>(fun(r:Result) s'=>match r with | .ok (.ret v)=>Q v s' | .ok _=>False | .error e=>E e s') (.ok f) s' | .again c'=>c'.quiet=true∧codeAny (model pw w) A c' (fun r s'=>match r with | .ok (.ret v)=>Q v s' | .ok _=>False | .error e=>E e s') s') (fun e s'=>E e s') s:=by
  show wpAny _ _ (specialOf (.ref bm) "__call__" >>= _) _ _ s
  refine Hc (Mz (T:="method") ⟨_,hbm,rfl⟩ lA ?_)
  skip
  refine Hc (LC (Hc ?_))
  show wpAny _ _ (newObj _ _ _) _ _ _
  exact Jv (Hi h) (by size_fits)
 simp only[checkBuiltinCall,ve]
 cases hsig:Manifest.signature? "iter" with
 |none=>exact Hi hfin
 |some sig=>
  obtain ok:=sX (.ref bm) v
  simp only[argsOk,hsig]at ok
  have h2:Bind.checkArgs "iter" sig ⟨[.ref bm,v],[]⟩=pure ():=ok
  show wpAny _ _ (Bind.checkArgs "iter" sig ⟨[.ref bm,v],[]⟩) _ _ s
  rw[h2];exact Hi hfin
theorem yh{x:Str}{a:Addr}{pb:List Str}{rest:List Nat}{ln:Int}{np xp apos cpos pos:Pos}{ck:Nat}(hk:env.kindOf (H5 "iter")=some .globalImplicit)(hl:locs.lookup x=some (.lex pb rest ln))(hp:(x,a)∈pins)(hd:(x==("__debug__":Str))=false)(hcd:(x==("__classdict__":Str))=false):
  jp aa (ac w) pins w A env (eval (.Call (.Name (H5 "iter") np) [.Attribute (.Name x xp) A8 apos,.Constant (.str (H5 "")) ck cpos] [] pos) env) locs (.cit a) locs:=.mk fun s Fs I=>
 It (Pw.andThen ((Ev.builtin (gt:=aa) (K:=ac w) (w:=w) (A:=A) (locs:=locs) hk B4 (by decide +kernel) (by kernel_rfl)).run s Fs I.g I.er) fun v s₁ hh=>by
  obtain⟨k1,F1,v1,_⟩:=hh
  cases v1
  have I1:=I.step0 k1
  obtain⟨mm,nn,V⟩:=id I1.er.vars
  obtain⟨v',F',_,at',z'⟩:=V.find hl
  obtain rfl:=dU I1 hp ⟨mm,nn,at'⟩
  obtain⟨a0,d,lp,b,ed,lf,c,r,cd,vs,m,ws,k,h1,t1,u1,h2,t2,h3,t3,u3,h4,t4,n,ea,rfl,nd,e1,e2,e3,e4,e5,e6,e8,e9,e10,e11⟩:=dm z'
  cases ea
  show wpAny _ _ (IU pos (.builtin "iter") [] (backTo pos (Hg [.Attribute (.Name x xp) A8 apos,.Constant (.str (H5 "")) ck cpos] env)) []) _ _ _
  refine Ik (P:=fun _=>True) (by rfl) (fun h' _=>⟨.machine,.inr (.inl rfl),HD rfl⟩) (HZ (Mm (ID (aD I1.er ⟨mm,nn,at'⟩ hd hcd (va I1.g e1 e2 rU ?_))) rfl))
  have kA:aG [] s₁ { s₁ with heap:=s₁.heap.push (MW (.ref 59) (.ref a)),toks:=s₁.toks+1 }:=⟨aj.push _ _,fun _ _ e=>e,id,rfl⟩
  obtain g2:=I1.g.kept0 kA.heap
  obtain er2:=I1.er.kept0 kA.heap
  obtain h:=(bG.cons (Ev.str (gt:=aa) (K:=ac w) (w:=w) (A:=A) (env:=env) (locs:=locs) (H5 "") ck cpos) bG.nil rfl).run { s₁ with heap:=s₁.heap.push (MW (.ref 59) (.ref a)),toks:=s₁.toks+1 } Fs pos g2 er2
  refine Pw.andThen h fun us s₂ ⟨k2,F3,v2,_⟩=>⟨trivial,?_⟩
  obtain⟨u,rfl,zu⟩:=v2.one1
  cases zu with
  |str _ t=>
   have hbm:=k2.heap.get (Hk (o:=MW (.ref 59) (.ref a)) s₁.heap rfl)
   refine sS (bm:=s₁.heap.objs.size) hbm ?_
   obtain kB:aG [] s₂ { s₂ with heap:=s₂.heap.push { cls:=.type "callable_iterator",data:=.fields #[.ref s₁.heap.objs.size,.str (H5 "") t,.bool false] } }:=⟨aj.push _ _,fun _ _ e=>e,id,rfl⟩
   have k12:=(k1.trans kA).trans k2
   obtain ltb:s₁.heap.objs.size<s₂.heap.objs.size:=Hr hbm
   refine⟨(k12.trans kB).all,[s₂.heap.objs.size,s₁.heap.objs.size],Fs,.cit (Hk _ rfl) (kB.heap.get hbm) (Ju ltb),fun b hb=>?_,I.step0 (k12.trans kB),fun b hb hm=>?_,fun b hb=>.inl hb⟩
   ·rcases bN hb with rfl | rfl
    ·exact .inr k12.heap.size
    ·exact .inr k1.heap.size
   ·obtain this:=I.lt b hm
    rcases bN hb with rfl | rfl
    ·exact absurd this (Hz.mpr k12.heap.size)
    ·exact absurd this (Hz.mpr k1.heap.size))
end
end
section
theorem tm{x:Str}{p:PV}: ∀{l:List (Str×PV)},l.lookup x=some p→ab x p l=l:=by
 intro l
 induction l with
 |nil=>
  rintro h
  cases h
 |cons e9 l ih=>
  obtain⟨y,q⟩:=e9
  rintro h
  rw[HA]at h
  unfold ab
  by_cases e:y=x
  ·subst e
   simp only[beq_self_eq_true]at h
   cases h
   simp
  ·obtain hb:(x==y)=false:=by simpa using Il e
   rw[hb]at h
   simp only[e,if_false]
   rw[ih h]
section
variable{w:World}{A:Around}{E:Value→Shared→Prop}{s:Shared}{env:Env}{locs locs':List (Str×PV)}{pins:List (Str×Addr)}{Fs:List (List Addr)}
theorem iK{it:Addr}{Q:Option Value→Shared→Prop}(hh:A.handled=none)(hit:s.heap.get? it=some { cls:=.type "callable_iterator",data:=.fields #[.none,.none,.bool true] })
  (h:∀ s',aG [] s s'→Q none s'):wpAny (model pw w) A (pyNext (.ref it)) Q E s:=by
 obtain hT:s.TypeIs (.ref it) "callable_iterator":=⟨_,hit,rfl⟩
 skip
 refine Hc (LX (KD (name:=H5 "__next__") hT F.slot_cit_next
  (L0 F.slot_cit_next hT F.entry_cit_next ?_ (F.args_cit_next _))))
 show wpAny _ _ (field (.ref it) 2 >>= _) _ _ s
 refine Hc (JL hit rfl (x:=.bool true) rfl ?_)
 skip
 refine Hc (LC (Hc ?_))
 show wpAny _ _ (newExc (.type "StopIteration") [] >>= _) _ _ _
 refine Hc ?_
 skip
 refine Hc (Jv ?_ (by size_fits))
 refine Hc (m:=LH _ _) (wpAny_of_eq (a:=Value.none) (by first | rfl | (simp only[LH];rfl)) ?_)
 refine Jv ?_ (by size_fits)
 skip
 refine Hc (wpAny_handled ?_)
 rw[show A.in1.handled=none from hh]
 refine Hc (Hi (wpAny_throw ?_))
 refine Hc (Mc (T:="StopIteration") (b:=true) ⟨_,Hk _ rfl,rfl⟩ isSubtype_stop ?_)
 exact Hi (h _ ⟨(aj.push _ _).trans (aj.push _ _),fun _ _ e=>e,id,rfl⟩)
inductive DI(gt:List (Str×Value))(K:List (Addr×Obj))(pins:List (Str×Addr))(env:Env)(locs:List (Str×PV))(Fs:List (List Addr))(s:Shared)(x y:Str)(a b:Addr)(p q:PV): Prop
 |mk(F G:List Addr)(Fs':List (List Addr))(z:VR s.heap p (.ref a) F)(z2:VR s.heap q (.ref b) G)(n:(F++G).Nodup)(I:bw gt K pins env (bl [x,y] [.val (.ref a),.val (.ref b)] locs) Fs' s)(l:∀ u∈[x,y].zip [.ref a,.ref b],(bl [x,y] [.val (.ref a),.val (.ref b)] locs).lookup u.1=some (.val u.2))
  (d:∀ b∈F++G,b∉env.locals::env.cells.map (·.2)++Fs'.flatten) (o1:∀ b∈F++G,b∈ow env locs Fs) (o2:∀ c∈ow env (bl [x,y] [.val (.ref a),.val (.ref b)] locs) Fs',c∈ow env locs Fs)
theorem xb{x y:Str}(h:x≠y): [x,y].Nodup:=Hu.mpr ⟨fun m=>h (H7.mp m),IQ _ _⟩
theorem Bf{h:Heap}{p q:PV}{vs:List Value}{F:List Addr}(z:bf h [p,q] vs F): ∃ v u F1 F2,vs=[v,u]∧F=F1++F2∧VR h p v F1∧VR h q u F2:=by
 obtain⟨v1,r1,F1,F2,e1,e2,z1,zs⟩:=bA z
 obtain⟨v2,e3,z2⟩:=zs.one1
 exact⟨v1,v2,F1,F2,e1.trans (congrArg _ e3),e2,z1,z2⟩
theorem bw.take2{gt:List (Str×Value)}{K:List (Addr×Obj)}{x y:Str}{a b:Addr}{p q:PV}(hne:x≠y)(I:bw gt K pins env locs Fs s)(hx:(x,a)∈pins)(hy:(y,b)∈pins)(lx:locs.lookup x=some p)(ly:locs.lookup y=some q)(ho:∀ r∈[p,q],r.isOwn=true): DI gt K pins env locs Fs s x y a b p q:=by
 obtain⟨vs,F,Fs1,zs,nF,as,I1,l1,d1,oo,o2,_,_⟩:=I.takes (xs:=[x,y]) (ps:=[p,q]) (xb hne) rfl (fun u hu=>(bN hu).elim (fun e=>e▸lx) fun e=>e▸ly)
 obtain⟨v,u,F1,F2,e1,e2,z1,z2⟩:=Bf zs
 subst e1 e2
 have e3:=dU I hx (as (x,v) (.head _))
 have e4:=dU I hy (as (y,u) (.tail _ (.head _)))
 subst e3 e4
 exact⟨F1,F2,Fs1,z1,z2,nF,I1,l1,d1,oo ho,o2⟩
theorem bw.put2{gt:List (Str×Value)}{K:List (Addr×Obj)}{x y:Str}{a b:Addr}{p q p' q':PV}{F F1 F2:List Addr}{Fs1:List (List Addr)}{s':Shared}{locs':List (Str×PV)}(hK:∀ q∈K,q.1<348)(hne:x≠y)(lx:locs.lookup x=some p)(ly:locs.lookup y=some q)
  (I:bw gt K pins env (bl [x,y] [.val (.ref a),.val (.ref b)] locs) Fs1 s) (l:∀ u∈[x,y].zip [.ref a,.ref b],(bl [x,y] [.val (.ref a),.val (.ref b)] locs).lookup u.1=some (.val u.2)) (d:∀ b∈F,b∉env.locals::env.cells.map (·.2)++Fs1.flatten) (o1:∀ b∈F,b∈ow env locs Fs) (o2:∀ c∈ow env (bl [x,y] [.val (.ref a),.val (.ref b)] locs) Fs1,c∈ow env locs Fs) (hi:∀ b∈F,348≤b)
  (k:aG F s s') (z1:VR s'.heap p' (.ref a) F1) (z2:VR s'.heap q' (.ref b) F2) (sub:∀ b∈F1++F2,b∈F∨s.heap.objs.size≤b) (dj:∀ b∈F2,b∉F1) (he:ab y q' (ab x p' locs)=locs'):
  ∃ Fs',bw gt K pins env locs' Fs' s'∧∀ b∈ow env locs' Fs',b∈ow env locs Fs∨s.heap.objs.size≤b:=by
 have I2:=I.movedP (s':=s') hK k.heap hi (fun b hb hm=>d b hm hb)
 have nd:=xb hne
 obtain⟨Fs3,I3,o3,_⟩:=I2.puts (xs:=[x,y]) (ps:=[p',q']) (vs:=[.ref a,.ref b]) (F:=F1++(F2++[])) nd rfl l (.cons z1 (.cons z2 .nil)) ((Hj F2).symm▸Hn.mpr ⟨z1.nodup,z2.nodup,fun b hb c hc e=>dj c hc (e▸hb)⟩)
  (fun b hb hm=>(sub b (Hj F2▸hb)).elim (fun h=>d b h hm) fun h=>absurd (I.lt b hm) (Hz.mpr h)) fun b hb=>(sub b (Hj F2▸hb)).elim (hi b) (H6 I.g.low)
 have e:bl [x,y] [p',q'] (bl [x,y] [.val (.ref a),.val (.ref b)] locs)=locs':=(gu nd rfl rfl fun z hz=>(bN hz).elim (fun e=>e▸lx▸rfl) fun e=>e▸ly▸rfl).trans he
 rw[e]at I3 o3
 exact⟨Fs3,I3,fun b hb=>(o3 b hb).elim (fun h=>.inl (o2 b h)) fun h=>(sub b (Hj F2▸h)).imp (o1 b) id⟩
theorem VR.cit_at{h:Heap}{a it:Addr}{F:List Addr}(z:VR h (.cit a) (.ref it) F): ∃ bm t,F=[it,bm]∧h.get? it=some { cls:=.type "callable_iterator",data:=.fields #[.ref bm,.str (H5 "") t,.bool false] }∧h.get? bm=some { cls:=.type "method",data:=.fields #[.ref 59,.ref a] }∧it≠bm:=by
 obtain⟨it',bm,t,e,eF,h1,h2,h3⟩:=z.inv
 cases e
 exact⟨bm,t,eF,h1,h2,h3⟩
theorem ng{xs xf:Str}{a it:Addr}{pb:List Str}{rest:List Nat}{ln:Int}(ro:Ro A 5)(I:bw aa (ac w) pins env locs Fs s)(hs:(xs,a)∈pins)(hf:(xf,it)∈pins)(ls:locs.lookup xs=some (.lex pb rest ln))(lf:locs.lookup xf=some (.cit a))(hne:xs≠xf)(hz:rest.length≤100000):
  wpAny (model pw w) A (pyNext (.ref it)) (fun r s'=>aG (ow env locs Fs) s s'∧match rest with
   |c::rr=>(∃ t',r=some (.str ⟨#[c]⟩ t'))∧∃ Fs',bw aa (ac w) pins env (ab xs (.lex pb rr (ar (c::rr) ln)) locs) Fs' s'∧∀ b∈ow env (ab xs (.lex pb rr (ar (c::rr) ln)) locs) Fs',b∈ow env locs Fs∨s.heap.objs.size≤b
   |[]=>r=none∧∃ Fs',bw aa (ac w) pins env (ab xf .citE locs) Fs' s'∧∀ b∈ow env (ab xf .citE locs) Fs',b∈ow env locs Fs∨s.heap.objs.size≤b) (fun _ _=>False) s:=by
 obtain⟨F1,F2,Fs1,z1,z2,nF,I1,l1,d1,o1,o2⟩:=I.take2 hne hs hf ls lf (Kc.mp rfl)
 obtain⟨bm,t,eF,hit,hbm,hib⟩:=z2.cit_at
 have hi:∀ b∈F1++F2,348≤b:=fun b hb=>I.hi b (o1 b hb)
 have dF2:∀ b∈F2,b∉F1:=fun b hb hm=>(Hn.mp nF).2.2 b hm b hb rfl
 have itF:it∈F2:=eF▸.head _
 have bmF:bm∈F2:=eF▸.tail _ (.head _)
 have old:∀{F':List Addr},(∀ b∈F',b∈F1∨s.heap.objs.size≤b)→∀ b∈F2,b∉F':=fun o' b hb hm=>(o' b hm).elim (dF2 b hb) fun h=>absurd (z2.lt b hb) (Hz.mpr h)
 refine jr ro I.g hit hbm hib z1 hz (fun b hb=>hi b (H8 _ hb)) (dF2 _ itF) (dF2 _ bmF) (fun c rr s' t' F' er k z' o'=>?_) (fun s' F' er k z' o' hend=>?_)
 ·subst er
  have k':aG (F1++F2) s s':=k.mono fun b hb=>H8 _ hb
  exact⟨k'.mono o1,⟨t',rfl⟩,bw.put2 (ae w) hne ls lf I1 l1 d1 o1 o2 hi k' z' (z2.kept k.heap dF2) (fun b hb=>(H9.mp hb).elim (fun hb=>(o' b hb).imp (H8 _) id) fun hb=>.inl (Hb _ hb)) (old o') (tm ((iR (Il hne)).trans lf))⟩
 ·subst er
  have k':aG (F1++F2) s s':=k.mono fun b hb=>(Ha.mp hb).elim (fun e=>e▸Hb _ itF) fun hb=>H8 _ hb
  exact⟨k'.mono o1,rfl,bw.put2 (ae w) hne ls lf I1 l1 d1 o1 o2 hi k' z' (.citE hend) (fun b hb=>(H9.mp hb).elim (fun hb=>(o' b hb).imp (H8 _) id) fun hb=>.inl (Hb _ (H7.mp hb▸itF))) (fun b hb=>old o' b (H7.mp hb▸itF)) (congrArg (ab xf .citE) (tm ls))⟩
end
end
section
section
variable{w:World}{A:Around}{env:Env}{locs locs':List (Str×PV)}{pins:List (Str×Addr)}
inductive dc(pins:List (Str×Addr))(w:World)(A:Around)(env:Env)(body:List Stmt)(x xs xf:Str)(a:Addr): Nat→List (Str×PV)→Fl→List (Str×PV)→Prop
 |ended{locs:List (Str×PV)}: locs.lookup xf=some .citE→dc pins w A env body x xs xf a 0 locs .next locs
 |stop{locs:List (Str×PV)}{pb:List Str}{ln:Int}: locs.lookup xf=some (.cit a)→locs.lookup xs=some (.lex pb [] ln)→dc pins w A env body x xs xf a 0 locs .next (ab xf .citE locs)
 |go{n:Nat}{locs locs1 locs2:List (Str×PV)}{pb:List Str}{c:Nat}{r:List Nat}{ln:Int}{fl g:Fl}: g=.next∨g=.cont→locs.lookup xf=some (.cit a)→locs.lookup xs=some (.lex pb (c::r) ln)→r.length≤10000→
   Ex aa (ac w) pins w A env (execs body env) (ab x (.str ⟨#[c]⟩) (ab xs (.lex pb r (ar (c::r) ln)) locs)) g locs1→dc pins w A env body x xs xf a n locs1 fl locs2→dc pins w A env body x xs xf a (n+1) locs fl locs2
 |ret{locs locs1:List (Str×PV)}{pb:List Str}{c:Nat}{r:List Nat}{ln:Int}{p:PV}: locs.lookup xf=some (.cit a)→locs.lookup xs=some (.lex pb (c::r) ln)→r.length≤10000→
   Ex aa (ac w) pins w A env (execs body env) (ab x (.str ⟨#[c]⟩) (ab xs (.lex pb r (ar (c::r) ln)) locs)) (.ret p) locs1→dc pins w A env body x xs xf a 0 locs (.ret p) locs1
end
section
variable{w:World}{A:Around}{env:Env}{locs locs':List (Str×PV)}{pins:List (Str×Addr)}
inductive DR(pins:List (Str×Addr))(w:World)(A:Around)(env:Env)(body:List Stmt)(x xs xf:Str)(a:Addr)(fl:Fl)(locs' locs:List (Str×PV))(s:Shared)(Fs:List (List Addr))(k:Nat)(s1:Shared): Prop
 |mk(locs1:List (Str×PV))(Fs1:List (List Addr))(hl:dc pins w A env body x xs xf a k locs1 fl locs')(k1:aG (ow env locs Fs) s s1)(I:bw aa (ac w) pins env locs1 Fs1 s1)(o:∀ b∈ow env locs1 Fs1,b∈ow env locs Fs∨s.heap.objs.size≤b)
noncomputable def Fy(pins:List (Str×Addr))(w:World)(A:Around)(env:Env)(body:List Stmt)(x xs xf:Str)(a:Addr)(fl:Fl)(locs' locs:List (Str×PV))(s:Shared)(Fs:List (List Addr))(k:Nat)(f:Flow)(s₃:Shared): Prop:=match f with
 | .next | .cont=>∃ m,m<k∧DR pins w A env body x xs xf a fl locs' locs s Fs m s₃
 | .brk=>gm aa (ac w) pins env locs fl locs' s Fs .next s₃
 | .ret v=>gm aa (ac w) pins env locs fl locs' s Fs (.ret v) s₃
theorem VR.citE_get{h:Heap}{it:Addr}{F:List Addr}(z:VR h .citE (.ref it) F): h.get? it=some { cls:=.type "callable_iterator",data:=.fields #[.none,.none,.bool true] }:=by
 cases z with | citE e=>exact e
theorem dc.next{body:List Stmt}{x xs xf:Str}{a:Addr}{n:Nat}{locs1 locs2:List (Str×PV)}{pb:List Str}{c:Nat}{r:List Nat}{ln:Int}{fl:Fl}(h1:locs.lookup xf=some (.cit a))(h2:locs.lookup xs=some (.lex pb (c::r) ln))(h3:r.length≤10000)(h4:Ex aa (ac w) pins w A env (execs body env) (ab x (.str ⟨#[c]⟩) (ab xs (.lex pb r (ar (c::r) ln)) locs)) .next locs1)(h5:dc pins w A env body x xs xf a n locs1 fl locs2): dc pins w A env body x xs xf a (n+1) locs fl locs2:=.go (.inl rfl) h1 h2 h3 h4 h5
theorem dc.cont{body:List Stmt}{x xs xf:Str}{a:Addr}{n:Nat}{locs1 locs2:List (Str×PV)}{pb:List Str}{c:Nat}{r:List Nat}{ln:Int}{fl:Fl}(h1:locs.lookup xf=some (.cit a))(h2:locs.lookup xs=some (.lex pb (c::r) ln))(h3:r.length≤10000)(h4:Ex aa (ac w) pins w A env (execs body env) (ab x (.str ⟨#[c]⟩) (ab xs (.lex pb r (ar (c::r) ln)) locs)) .cont locs1)(h5:dc pins w A env body x xs xf a n locs1 fl locs2): dc pins w A env body x xs xf a (n+1) locs fl locs2:=.go (.inr rfl) h1 h2 h3 h4 h5
theorem vg{x xs xf:Str}{a it:Addr}{px:Pos}{body:List Stmt}{fl:Fl}{s s1:Shared}{Fs Fs1:List (List Addr)}{locs1:List (Str×PV)}{k:Nat}{Q:Option Value→Shared→Prop}(ro:Ro A 5)(hs:(xs,a)∈pins)(hf:(xf,it)∈pins)(hx:x∉pins.map (·.1))(hk:aJ env x)(hne:xs≠xf)
  (hN:∀ s2,gm aa (ac w) pins env locs fl locs' s Fs .next s2→Q none s2)
  (hS:∀ v s2,wpAny (model pw w) A (Kt (.Name x px) (.ref it) v) (fun _ s₁'=>wpAny (model pw w) A (assign (.Name x px) env v) (fun _ s₂=>wpAny (model pw w) A (execs body env) (Fy pins w A env body x xs xf a fl locs' locs s Fs k) (fun _ _=>False) s₂) (fun _ _=>False) s₁') (fun _ _=>False) s2→Q (some v) s2)
  (k1:aG (ow env locs Fs) s s1) (I1:bw aa (ac w) pins env locs1 Fs1 s1) (o1:∀ b∈ow env locs1 Fs1,b∈ow env locs Fs∨s.heap.objs.size≤b) (hl1:dc pins w A env body x xs xf a k locs1 fl locs'):
  wpAny (model pw w) A (pyNext (.ref it)) Q (fun _ _=>False) s1:=by
 have fin:∀{fl1:Fl} {locs2 locs3:List (Str×PV)} {Fs3:List (List Addr)} {s3:Shared} {f:Flow} {s4:Shared},aG (ow env locs Fs) s s3→(∀ b∈ow env locs2 Fs3,b∈ow env locs Fs∨s.heap.objs.size≤b)→gm aa (ac w) pins env locs2 fl1 locs3 s3 Fs3 f s4→
   gm aa (ac w) pins env locs fl1 locs3 s Fs f s4:=by
  intro fl1 locs2 locs3 Fs3 s3 f s4 k03 o3 ⟨k4,e4,Fs4,I4,o4⟩
  exact⟨k03.comp k4 o3,e4.comp k03.heap.size o3,Fs4,I4,fun b hb=>(o4 b hb).elim (o3 b) fun h=>.inr (H6 k03.heap.size h)⟩
 have turn:∀{pb:List Str} {c:Nat} {r:List Nat} {ln:Int} {g:Fl} {locs2:List (Str×PV)},locs1.lookup xf=some (.cit a)→locs1.lookup xs=some (.lex pb (c::r) ln)→r.length≤10000→
   Ex aa (ac w) pins w A env (execs body env) (ab x (.str ⟨#[c]⟩) (ab xs (.lex pb r (ar (c::r) ln)) locs1)) g locs2→(∀ f s4,gm aa (ac w) pins env locs g locs2 s Fs f s4→Fy pins w A env body x xs xf a fl locs' locs s Fs k f s4)→
   wpAny (model pw w) A (pyNext (.ref it)) Q (fun _ _=>False) s1:=by
  intro pb c r ln g locs2 h1 h2 h3 hb go
  refine Hf (ng ro I1 hs hf h2 h1 hne (H6 (Nat.succ_le_succ h3) (by decide))) (fun v s2 hh=>?_) fun _ _ e=>e.elim
  obtain⟨k2,⟨t',hv⟩,Fs2,I2,o2⟩:=hh
  subst hv
  refine hS _ _ (Hi (M:=model pw w) (assign_Name ?_))
  refine Hf (d4 (n:=s2.heap.objs.size) (F:=[]) (ae w) hx I2 hk (.str _ _) .nil (fun b hb=>nomatch hb) (fun b hb=>nomatch hb) I2.g.low) (fun _ s3 hh=>?_) fun _ _ e=>e.elim
  obtain⟨Fs3,I3,k3,o3⟩:=hh
  have k02:=k1.comp k2 o1
  have o2':=fun b hb=>(o2 b hb).elim (o1 b) fun h=>.inr (H6 k1.heap.size h)
  exact Hf (hb.run s3 Fs3 I3) (fun f s4 h4=>go f s4 (fin (k02.comp k3 fun b hb=>o2' b (H8 _ hb)) (fun b hb=>(o3 b hb).elim (o2' b) fun h=>.inr (H6 k02.heap.size h)) h4)) fun _ _ e=>e.elim
 induction hl1 using dc.casesOn with
 |ended h=>
  obtain⟨m,nn,V⟩:=id I1.er.vars
  obtain⟨v,F,_,at',z⟩:=V.find h
  obtain rfl:=dU I1 hf ⟨m,nn,at'⟩
  exact iK (E:=fun _ _=>False) ro.1 (VR.citE_get z) fun s2 k2=>hN s2 (fin (Fs3:=Fs1) k1 o1 ⟨k2.all,rfl,Fs1,I1.step0 k2,fun b hb=>.inl hb⟩)
 |stop h h2=>
  refine Hf (ng ro I1 hs hf h2 h hne (HT _)) (fun r s2 hh=>?_) fun _ _ e=>e.elim
  obtain⟨k2,er,Fs2,I2,o2⟩:=hh
  exact er▸hN s2 (fin k1 o1 ⟨k2,rfl,Fs2,I2,o2⟩)
 | @go n1 _ locs2 _ _ _ _ _ _ g hg h1 h2 h3 hb hl2=>
  refine turn h1 h2 h3 hb fun f s4 h=>?_
  obtain⟨k4,e4,Fs4,I4,o4⟩:=h
  have q:=DR.mk locs2 Fs4 hl2 k4 I4 o4
  rcases hg with rfl | rfl <;> cases e4 <;> exact⟨n1,HV _,q⟩
 |ret h1 h2 h3 hb=>
  refine turn h1 h2 h3 hb fun f s4 h=>?_
  obtain⟨k4,e4,Fs4,I4,o4⟩:=h
  obtain⟨v',F,rfl,z⟩:=e4
  exact⟨k4,⟨v',F,rfl,z⟩,Fs4,I4,o4⟩
theorem VR.citE_type{h:Heap}{it:Addr}{F:List Addr}{p:PV}{a:Addr}{s:Shared}(hc:p=.citE∨p=.cit a)(z:VR s.heap p (.ref it) F): s.TypeIs (.ref it) "callable_iterator":=by
 rcases hc with rfl | rfl
 ·exact⟨_,VR.citE_get z,rfl⟩
 ·cases z with | cit e _ _=>exact⟨_,e,rfl⟩
theorem ua{x xs xf:Str}{a it:Addr}{n:Nat}{px pf pos:Pos}{body:List Stmt}{fl:Fl}(ro:Ro A 5)(hs:(xs,a)∈pins)(hf:(xf,it)∈pins)(hx:x∉pins.map (·.1))(hk:aJ env x)(hne:xs≠xf)
  (hd:(xf==("__debug__":Str))=false) (hcd:(xf==("__classdict__":Str))=false) (hl:dc pins w A env body x xs xf a n locs fl locs'):
  Ex aa (ac w) pins w A env (exec (.For (.Name x px) (.Name xf pf) body [] pos) env) locs fl locs':=.mk fun s Fs I=>by
 have hc:∃ p,locs.lookup xf=some p∧(p=.citE∨p=.cit a):=by
  induction hl using dc.casesOn with
  |ended h=>exact⟨_,h,.inl rfl⟩
  |stop h _=>exact⟨_,h,.inr rfl⟩
  |go _ h _ _ _ _=>exact⟨_,h,.inr rfl⟩
  |ret h _ _ _=>exact⟨_,h,.inr rfl⟩
 obtain⟨p,hp,hc⟩:=hc
 obtain⟨mm,nn,V⟩:=id I.er.vars
 obtain⟨v,F,_,at',z⟩:=V.find hp
 obtain rfl:=dU I hf ⟨mm,nn,at'⟩
 refine M6 (aD I.er ⟨mm,nn,at'⟩ hd hcd (js (VR.citE_type (h:=s.heap) hc z) ?_)) (by intro _;rfl)
 refine codeAny_forLoop_any (DR pins w A env body x xs xf a fl locs' locs s Fs) (fun k s1 h=>?_) n
  ⟨locs,Fs,hl,.refl _ _,I,fun b hb=>.inl hb⟩
 obtain⟨locs1,Fs1,hl1,k1,I1,o1⟩:=h
 refine Hf (vg (px:=px) (body:=body) ro hs hf hx hk hne ?_ ?_ k1 I1 o1 hl1) (fun _ _ h=>h) fun _ _ e=>e.elim
 ·exact fun s2 h=>JW h
 ·exact fun v s2 h=>Hf h (fun _ _ h=>Hf h (fun _ _ h=>Hf h (fun f _ h=>by cases f <;> exact h) fun _ _ e=>e.elim) fun _ _ e=>e.elim) fun _ _ e=>e.elim
end
end
section
theorem EV{w:World}{A:Around}{x y:Str}(hz:x.length+y.length≤Ip): ∀ s a b F H,VR s.heap (.str x) a F→VR s.heap (.str y) b H→Pw w A (MV .Add a b) (.str (x++y)) true s:=by
 intro s a b F H xA xB;cases xA;cases xB;exact iadd_str (fun _ _=>DZ) hz
noncomputable abbrev Co:Str:=H5 "get_token"
noncomputable abbrev Aa:Str:=H5 "push_token"
section
variable{gt:List (Str×Value)}{K:List (Addr×Obj)}{w:World}{A:Around}{env:Env}{locs locs1:List (Str×PV)}{pins:List (Str×Addr)}
theorem gG{pb:List Str}{rest:List Nat}{ln:Int}{name:Str}{f:Addr}(hne:∀ h1 t1 v1 h2 t2 v2 h3 t3 v3 h4 t4 v4 n,shadowIn (some (bH (D4 h1 t1 v1 h2 t2 v2 h3 t3 v3 h4 t4 v4) n)) name=some false)(hf:findIn (ac w) (.ref 76) name=some (some (.ref f)))(ht:typeIn (ac w) (.ref f)=some (.type "function")): cM aa (ac w) w (.lex pb rest ln) name f:=by
 intro s v F g z A pl Q q
 obtain⟨a0,d,lp,b,ed,lf,c,r,cd,vs,m,ws,k,h1,t1,u1,h2,t2,h3,t3,u3,h4,t4,n,rfl,rfl,nd,e1,e2,e3,e4,e5,e6,e8,e9,e10,e11⟩:=dm z
 exact method_fn g.inK ⟨e1,rfl,rfl,e2⟩ (oI w) (rT w) hf ht (hne _ _ _ _ _ _ _ _ _ _ _ _ _) q
theorem EW{pb:List Str}{rest:List Nat}{ln:Int}: cM aa (ac w) w (.lex pb rest ln) A8 59:=gG (fun _ _ _ _ _ _ _ _ _ _ _ _ _=>by kernel_rfl) (by kernel_rfl) (by kernel_rfl)
theorem xM{pb:List Str}{rest:List Nat}{ln:Int}: cM aa (ac w) w (.lex pb rest ln) Co 66:=gG (fun _ _ _ _ _ _ _ _ _ _ _ _ _=>by kernel_rfl) (by kernel_rfl) (by kernel_rfl)
theorem BG{pb:List Str}{rest:List Nat}{ln:Int}: cM aa (ac w) w (.lex pb rest ln) Aa 73:=gG (fun _ _ _ _ _ _ _ _ _ _ _ _ _=>by kernel_rfl) (by kernel_rfl) (by kernel_rfl)
theorem ja{x:Str}{pb:List Str}{rest:List Nat}{ln:Int}{np apos:Pos}(hl:locs.lookup x=some (.lex pb rest ln))(hd:(x==("__debug__":Str))=false)(hcd:(x==("__classdict__":Str))=false):
  Ev aa (ac w) w A env locs (.Attribute (.Name x np) fm apos) (.str (H5 "\n\t\r ")) true:=.mk fun s Fs g z=>by
 obtain⟨mm,nn,V⟩:=id z.vars
 obtain⟨v',F',_,at',z'⟩:=V.find hl
 obtain⟨a0,d,lp,b,ed,lf,c,r,cd,vs,m,ws,k,h1,t1,u1,h2,t2,h3,t3,u3,h4,t4,n,rfl,rfl,nd,e1,e2,e3,e4,e5,e6,e8,e9,e10,e11⟩:=dm z'
 exact ID (aD z ⟨mm,nn,at'⟩ hd hcd (dL g e1 e2 Cw (Ao w) rfl ⟨.ofToks,[],.str _ _,fun _ b hb=>nomatch hb⟩))
theorem AO{x:Str}{pb:List Str}{rest:List Nat}{ln:Int}{np apos:Pos}(hl:locs.lookup x=some (.lex pb rest ln))(hd:(x==("__debug__":Str))=false)(hcd:(x==("__classdict__":Str))=false):
  Ev aa (ac w) w A env locs (.Attribute (.Name x np) fF apos) (.int ln) true:=.mk fun s Fs g z=>by
 obtain⟨mm,nn,V⟩:=id z.vars
 obtain⟨v',F',_,at',z'⟩:=V.find hl
 obtain⟨a0,d,lp,b,ed,lf,c,r,cd,vs,m,ws,k,h1,t1,u1,h2,t2,h3,t3,u3,h4,t4,n,rfl,rfl,nd,e1,e2,e3,e4,e5,e6,e8,e9,e10,e11⟩:=dm z'
 exact ID (aD z ⟨mm,nn,at'⟩ hd hcd (dL g e1 e2 rP (tO w) rfl ⟨.ofToks,[],.int _ _,fun _ b hb=>nomatch hb⟩))
theorem qJ{x:Str}{np pos:Pos}{e:Expr}{p q:PV}(hK:∀ q∈K,q.1<348)(hpin:x∉pins.map (·.1))(h:jp gt K pins w A env (eval e env) locs p locs1)(hb:∀ h v F,VR h p v F→VR h q v F)(hk:aJ env x)
  (hs:JD e (some (.Name x np)) pos.line env=pure false):Ex gt K pins w A env (exec (.Assign [.Name x np] e pos) env) locs .next (ab x q locs1):=.mk fun s Fs I=>
 K3 (Pw.andThen (h.run s Fs I) fun v s1 hh=>by
  obtain⟨k1,F,Fs1,z,fr,I1,d1,o1⟩:=hh
  refine Pw.andThen (fM (P:=fun b=>b∈ow env locs Fs∨s.heap.objs.size≤b) hK hpin I1 hk (hb _ _ _ z) z.nodup d1 fr fun b h=>h.elim (I.hi b) (H6 I.g.low)) fun _ s2 hh=>?_
  obtain⟨Fs2,I2,k2,hs2,_⟩:=hh
  refine⟨k1.trans (k2.mono fun b hb=>H8 _ hb),rfl,⟨Fs2,I2,fun b hb=>(hs2 b hb).elim (o1 b) id⟩⟩) hs
theorem sk{x:Str}{rest:List Stmt}{np pos:Pos}{e:Expr}{p q:PV}{fl:Fl}{locs0:List (Str×PV)}(hK:∀ q∈K,q.1<348)(hpin:x∉pins.map (·.1))(h:jp gt K pins w A env (eval e env) locs p locs0)(hb:∀ h v F,VR h p v F→VR h q v F)(href:∀ h v F,VR h q v F→∃ a,v=.ref a)(hk:env.kindOf x=some .local)
  (hs:JD e (some (.Name x np)) pos.line env=pure false) (hr:∀ a,Ex gt K ((x,a)::pins) w A env (execs rest env) (ab x q locs0) fl locs1):Ex gt K pins w A env (execs (.Assign [.Name x np] e pos::rest) env) locs fl locs1:=.mk fun s Fs I=>
 HE (Pw.andThen ((qJ hK hpin h hb (.inl hk) hs).run s Fs I) fun f s1 hh=>by
  obtain⟨k1,ef,Fs1,I1,o1⟩:=hh
  have ef:f=.next:=ef
  subst ef
  obtain⟨m,n,V⟩:=id I1.er.vars
  obtain⟨v,F,_,a,z⟩:=V.find (dG (x:=x) (p:=q))
  obtain⟨a0,rfl⟩:=href _ _ _ z
  have hm:m x=some (.ref a0):=by
   rcases a with⟨_,a⟩ | ⟨a,_⟩
   ·exact a
   ·rw[hk]at a;rcases a with a | a <;> cases a
  obtain I1':bw gt K ((x,a0)::pins) env (ab x q locs0) Fs1 s1:=⟨I1.g,I1.er,I1.nd,I1.hi,I1.cl,I1.keys,fun q hq=>by
   rcases Ha.mp hq with rfl | hq
   ·exact⟨m,n,hm,hk⟩
   ·exact I1.pin q hq⟩
  refine Pw.andThen ((hr a0).run s1 Fs1 I1') fun f2 s2 ⟨k2,e2,Fs2,I2,o2⟩=>⟨k1.comp k2 o1,e2.comp k1.heap.size o1,Fs2,⟨I2.g,I2.er,I2.nd,I2.hi,I2.cl,I2.keys,fun q hq=>I2.pin q (.tail _ hq)⟩,fun b hb=>(o2 b hb).elim (o1 b) fun z=>.inr (H6 k1.heap.size z)⟩)
end
end
section
noncomputable def g6(c:Nat): Bool:=Internal.inS ⟨#[c]⟩ (H5 "\n\t\r ")
noncomputable def lS(c:Nat): Bool:=(⟨#[c]⟩:Str)==H5 "\""
noncomputable def nt(c:Nat): Bool:=(⟨#[c]⟩:Str)==H5 "\\"
structure E8 where
 tok:Str
 rest:List Nat
 ln:Int
 fnd:Bool
noncomputable def aE(isE:Nat→Bool): Str→List Nat→Int→E8
 |tok,[],ln=>⟨tok,[],ln,false⟩
 |tok,[c],ln=>if isE c then⟨tok,[],ar [c] ln,true⟩else if nt c then⟨tok++bC [],[],ar [] (ar [c] ln),false⟩else⟨tok++⟨#[c]⟩,[],ar [c] ln,false⟩
 |tok,c::d::r,ln=>if isE c then⟨tok,d::r,ar (c::d::r) ln,true⟩else if nt c then aE isE (tok++bC (d::r)) r (ar (d::r) (ar (c::d::r) ln))else aE isE (tok++⟨#[c]⟩) (d::r) (ar (c::d::r) ln)
theorem BP(isE:Nat→Bool)(tok:Str)(ln:Int): aE isE tok [] ln=⟨tok,[],ln,false⟩:=rfl
theorem cK(isE:Nat→Bool)(tok:Str)(c:Nat)(r:List Nat)(ln:Int): aE isE tok (c::r) ln=if isE c then⟨tok,r,ar (c::r) ln,true⟩else if nt c then aE isE (tok++bC r) r.tail (ar r (ar (c::r) ln))else aE isE (tok++⟨#[c]⟩) r (ar (c::r) ln):=by
 cases r <;> rfl
noncomputable def an:List Nat→Int→E8
 |[],ln=>⟨H5 "",[],ln,false⟩
 |c::r,ln=>if g6 c then an r (ar (c::r) ln)else if lS c then aE lS (H5 "") r (ar (c::r) ln)
  else if nt c then aE g6 (H5 ""++bC r) r.tail (ar r (ar (c::r) ln))else aE g6 (H5 ""++⟨#[c]⟩) r (ar (c::r) ln)
noncomputable abbrev yN:List Stmt:=aF (aA 3 (H5 "get_token"))
noncomputable def pK(s:Stmt): List Stmt:=aF s
noncomputable def jc(s:Stmt): List Stmt:=C7 s fun _ _ _ _ _ c _=>c
noncomputable abbrev pg:List Stmt:=kO ((yN[3]?).getD (.Pass default))
noncomputable abbrev vC:List Stmt:=kO (((pK ((pg[1]?).getD (.Pass default)))[0]?).getD (.Pass default))
noncomputable abbrev vB:List Stmt:=kO (((jc ((pg[1]?).getD (.Pass default)))[2]?).getD (.Pass default))
noncomputable abbrev b9(L:Addr): Env:=ah 66 AI L
noncomputable abbrev cf:Str:=H5 "self"
noncomputable abbrev rJ:Str:=H5 "token"
noncomputable abbrev iY:Str:=H5 "fiter"
noncomputable abbrev xe:Str:=H5 "ch"
noncomputable abbrev L3(pb:List Str)(r:List Nat)(ln:Int)(tok:Str)(f:PV): List (Str×PV):=[(cf,.lex pb r ln),(rJ,.str tok),(iY,f)]
noncomputable abbrev L4(pb:List Str)(r:List Nat)(ln:Int)(tok:Str)(f:PV)(q:Str): List (Str×PV):=[(cf,.lex pb r ln),(rJ,.str tok),(iY,f),(xe,.str q)]
section
variable{w:World}{A:Around}{L a it:Addr}{pb:List Str}
noncomputable abbrev bF(a it:Addr): List (Str×Addr):=[(iY,it),(cf,a)]
theorem yp{r:List Nat}{ln:Int}{tok q:Str}{f:PV}{cp apos np cpos pos:Pos}{pl:Sem Bool}(ro:Ro A 5)(hz:r.length≤10000)
  (hev:eval (.Call (.Attribute (.Name cf np) A8 apos) [] [] cpos) (b9 L)=(do
   let ov ←eval (.Name cf np) (b9 L)
   standAt apos.atName
   let(f,first) ←holding [ov] (JI ov A8 pl)
   IU cpos f first (backTo cpos (Hg [] (b9 L))) [])):
  Ex aa (ac w) (bF a it) w A (b9 L) (exec (.Assign [.Name xe cp] (.Call (.Attribute (.Name cf np) A8 apos) [] [] cpos) pos) (b9 L)) (L4 pb r ln tok f q) .next (L4 pb r.tail (ar r ln) tok f (bC r)):=by
 refine am (locs1:=ab xe (.str (bC r)) (ab cf (.lex pb r.tail (ar r ln)) (L4 pb r ln tok f q))) ?_ (by kernel_rfl) ?_
 ·refine bB (ae _) (by simp;decide +kernel) (i5 (p:=.lex pb r ln) (ae _) ?_ rfl rfl (by kernel_rfl) (by kernel_rfl) EW (bb (nM.up (ag _))) (G5 w A pb r ln (by omega) ⟨ro.1,by obtain this:=ro.2.1;omega,by obtain this:=ro.2.2;omega⟩) hev) (Bind.same rfl) (.inl (by kernel_rfl)) rfl
  walk_at "lk"
 ·walk_at "looks"
theorem ut{r:List Nat}{ln:Int}{tok q:Str}{f:PV}{tp cp pos:Pos}(hz:tok.length+q.length≤Ip):
  Ex aa (ac w) (bF a it) w A (b9 L) (exec (.AugAssign (.Name rJ tp) .Add (.Name xe cp) pos) (b9 L)) (L4 pb r ln tok f q) .next (L4 pb r ln (tok++q) f q):=by
 refine am (locs1:=ab rJ (.str (tok++q)) (L4 pb r ln tok f q)) ?_ (by kernel_rfl) ?_
 ·refine sv (p:=.str tok) (q:=.str q) (f:=true) (ae _) (by simp;decide +kernel) ?_ rfl ?_ (EV hz) rfl (.inl (by kernel_rfl)) (by kernel_rfl)
  ·walk_at "lk"
  ·walk_at "ev"
 ·walk_at "looks"
end
theorem bo{gt:List (Str×Value)}{K:List (Addr×Obj)}{pins:List (Str×Addr)}{w:World}{A:Around}{env:Env}{l l':List (Str×PV)}{st:Stmt}{fl:Fl}(h:Ex gt K pins w A env (exec st env) l fl l'): Ex gt K pins w A env (execs [st] env) l fl l':=by
 cases fl with
 |next=>exact af h aq
 |brk=>exact aX h (by intro e;cases e)
 |cont=>exact aX h (by intro e;cases e)
 |ret p=>exact aX h (by intro e;cases e)
noncomputable def vZ(z:E8): Fl:=if z.fnd then .ret (.str z.tok)else .next
noncomputable def fC(a:Addr)(z:E8): PV:=if z.fnd then .cit a else .citE
section
variable{w:World}{A:Around}{L a it:Addr}{pb:List Str}
theorem FY{c:Nat}{r:List Nat}{ln:Int}{tok:Str}{f:PV}(hc:lS c=true): Ex aa (ac w) (bF a it) w A (b9 L) (execs vC (b9 L)) (L4 pb r ln tok f ⟨#[c]⟩) (.ret (.str tok)) (L4 pb r ln tok f ⟨#[c]⟩):=by
 have hc:((⟨#[c]⟩:Str)==H5 "\"")=true:=hc
 walk_at "ifTr"
 case hbody=>walk_at "ret"
theorem Bo{c:Nat}{r:List Nat}{ln:Int}{tok q:Str}{f:PV}{r':List Nat}{ln':Int}(hc:lS c=false)(hz:tok.length+q.length≤Ip)
  (h:Ex aa (ac w) (bF a it) w A (b9 L) (execs (jc ((vC[0]?).getD (.Pass default))) (b9 L)) (L4 pb r ln tok f ⟨#[c]⟩) .next (L4 pb r' ln' tok f q)):Ex aa (ac w) (bF a it) w A (b9 L) (execs vC (b9 L)) (L4 pb r ln tok f ⟨#[c]⟩) .next (L4 pb r' ln' (tok++q) f q):=by
 have hc:((⟨#[c]⟩:Str)==H5 "\"")=false:=hc
 walk_at "ifF"
 case hbody=>exact h
 case hrest=>exact af (ut hz) aq
theorem EE{c:Nat}{r:List Nat}{ln:Int}{tok:Str}{f:PV}(hb:nt c=false): Ex aa (ac w) (bF a it) w A (b9 L) (execs (jc ((vC[0]?).getD (.Pass default))) (b9 L)) (L4 pb r ln tok f ⟨#[c]⟩) .next (L4 pb r ln tok f ⟨#[c]⟩):=by
 have hb:((⟨#[c]⟩:Str)==H5 "\\")=false:=hb
 walk_at "ifF"
 case hbody=>exact aq
 case hrest=>exact aq
theorem Gx{c:Nat}{r:List Nat}{ln:Int}{tok:Str}{f:PV}(ro:Ro A 5)(hz:r.length≤10000)(hb:nt c=true): Ex aa (ac w) (bF a it) w A (b9 L) (execs (jc ((vC[0]?).getD (.Pass default))) (b9 L)) (L4 pb r ln tok f ⟨#[c]⟩) .next (L4 pb r.tail (ar r ln) tok f (bC r)):=by
 have hb:((⟨#[c]⟩:Str)==H5 "\\")=true:=hb
 walk_at "ifT"
 case hbody=>exact af (yp ro hz rfl) aq
 case hrest=>exact aq
theorem FX{c:Nat}{r:List Nat}{ln:Int}{tok:Str}{f:PV}(hc:g6 c=true): Ex aa (ac w) (bF a it) w A (b9 L) (execs vB (b9 L)) (L4 pb r ln tok f ⟨#[c]⟩) (.ret (.str tok)) (L4 pb r ln tok f ⟨#[c]⟩):=by
 refine aX (cE (Tr.cmp (f1:=true) (p:=.str ⟨#[c]⟩) ?_ (ja (pb:=pb) (rest:=r) (ln:=ln) ?_ (by kernel_rfl) (by kernel_rfl)) (cz.inS _ _) rfl) hc ?_) (by intro e;cases e)
 ·walk_at "ev"
 ·walk_at "lk"
 ·walk_at "ret"
theorem Ci{c:Nat}{r:List Nat}{ln:Int}{tok:Str}{f:PV}(hb:nt c=false): Ex aa (ac w) (bF a it) w A (b9 L) (execs (jc ((vB[0]?).getD (.Pass default))) (b9 L)) (L4 pb r ln tok f ⟨#[c]⟩) .next (L4 pb r ln tok f ⟨#[c]⟩):=by
 have hb:((⟨#[c]⟩:Str)==H5 "\\")=false:=hb
 walk_at "ifF"
 case hbody=>exact aq
 case hrest=>exact aq
theorem Fj{c:Nat}{r:List Nat}{ln:Int}{tok:Str}{f:PV}(ro:Ro A 5)(hz:r.length≤10000)(hb:nt c=true): Ex aa (ac w) (bF a it) w A (b9 L) (execs (jc ((vB[0]?).getD (.Pass default))) (b9 L)) (L4 pb r ln tok f ⟨#[c]⟩) .next (L4 pb r.tail (ar r ln) tok f (bC r)):=by
 have hb:((⟨#[c]⟩:Str)==H5 "\\")=true:=hb
 walk_at "ifT"
 case hbody=>exact af (yp ro hz rfl) aq
 case hrest=>exact aq
theorem Bn{c:Nat}{r:List Nat}{ln:Int}{tok q:Str}{f:PV}{r':List Nat}{ln':Int}(hc:g6 c=false)(hz:tok.length+q.length≤Ip)
  (h:Ex aa (ac w) (bF a it) w A (b9 L) (execs (jc ((vB[0]?).getD (.Pass default))) (b9 L)) (L4 pb r ln tok f ⟨#[c]⟩) .next (L4 pb r' ln' tok f q)):Ex aa (ac w) (bF a it) w A (b9 L) (execs vB (b9 L)) (L4 pb r ln tok f ⟨#[c]⟩) .next (L4 pb r' ln' (tok++q) f q):=by
 refine af (c7 (Tr.cmp (f1:=true) (p:=.str ⟨#[c]⟩) ?_ (ja (pb:=pb) (rest:=r) (ln:=ln) ?_ (by kernel_rfl) (by kernel_rfl)) (cz.inS _ _) rfl) hc h) (af (ut hz) aq)
 ·walk_at "ev"
 ·walk_at "lk"
structure uu(w:World)(A:Around)(L a it:Addr)(pb:List Str)(isE:Nat→Bool)(body:List Stmt): Prop where
 ret:∀{c:Nat} {r:List Nat} {ln:Int} {tok:Str},isE c=true→Ex aa (ac w) (bF a it) w A (b9 L) (execs body (b9 L)) (L4 pb r ln tok (.cit a) ⟨#[c]⟩) (.ret (.str tok)) (L4 pb r ln tok (.cit a) ⟨#[c]⟩)
 next:∀{c:Nat} {r:List Nat} {ln:Int} {tok:Str},isE c=false→nt c=false→tok.length+1≤Ip→Ex aa (ac w) (bF a it) w A (b9 L) (execs body (b9 L)) (L4 pb r ln tok (.cit a) ⟨#[c]⟩) .next (L4 pb r ln (tok++⟨#[c]⟩) (.cit a) ⟨#[c]⟩)
 esc:∀{c:Nat} {r:List Nat} {ln:Int} {tok:Str},isE c=false→nt c=true→tok.length+1≤Ip→r.length≤10000→Ex aa (ac w) (bF a it) w A (b9 L) (execs body (b9 L)) (L4 pb r ln tok (.cit a) ⟨#[c]⟩) .next (L4 pb r.tail (ar r ln) (tok++bC r) (.cit a) (bC r))
theorem i4(r:List Nat): (bC r).length≤1:=by cases r <;> simp[bC,J7] <;> decide
theorem C4(ro:Ro A 5): uu w A L a it pb lS vC where
 ret:=FY
 next:=fun hc hb hz=>Bo hc (by simpa[J7]using hz) (EE hb)
 esc:=fun{c r ln tok} hc hb hz hr=>Bo hc (by obtain this:=i4 r;omega) (Gx ro hr hb)
theorem wb(ro:Ro A 5): uu w A L a it pb g6 vB where
 ret:=FX
 next:=fun hc hb hz=>Bn hc (by simpa[J7]using hz) (Ci hb)
 esc:=fun{c r ln tok} hc hb hz hr=>Bn hc (by obtain this:=i4 r;omega) (Fj ro hr hb)
theorem inner{isE:Nat→Bool}{body:List Stmt}(T:uu w A L a it pb isE body): ∀(k:Nat) (r:List Nat) (tok:Str) (ln:Int) (q:Str),r.length≤k→r.length≤10000→tok.length+r.length≤20000→
  ∃ n q',dc (bF a it) w A (b9 L) body xe cf iY a n (L4 pb r ln tok (.cit a) q) (vZ (aE isE tok r ln)) (L4 pb (aE isE tok r ln).rest (aE isE tok r ln).ln (aE isE tok r ln).tok (fC a (aE isE tok r ln)) q'):=by
 intro k
 induction k with
 |zero=>
  intro r tok ln q hk _ _
  obtain rfl:r=[]:=JJ.mp (by omega)
  refine⟨0,q,?_⟩
  skip
  obtain h:dc (bF a it) w A (b9 L) body xe cf iY a 0 (L4 pb [] ln tok (.cit a) q) .next (ab iY .citE (L4 pb [] ln tok (.cit a) q)):=.stop (pb:=pb) (ln:=ln) (by walk_at "lk") (by walk_at "lk")
  exact h
 |succ k ih=>
  intro r tok ln q hk hr hz
  cases r with
  |nil=>
   refine⟨0,q,?_⟩
   skip
   obtain h:dc (bF a it) w A (b9 L) body xe cf iY a 0 (L4 pb [] ln tok (.cit a) q) .next (ab iY .citE (L4 pb [] ln tok (.cit a) q)):=.stop (pb:=pb) (ln:=ln) (by walk_at "lk") (by walk_at "lk")
   exact h
  |cons c r=>
   have hB:=aU
   simp only[Hh]at hk hr hz
   obtain l1:(L4 pb (c::r) ln tok (.cit a) q).lookup iY=some (.cit a):=by walk_at "lk"
   have l2:(L4 pb (c::r) ln tok (.cit a) q).lookup cf=some (.lex pb (c::r) ln):=by walk_at "lk"
   rw[cK]
   cases hE:isE c with
   |true=>
    skip
    exact⟨0,⟨#[c]⟩,.ret (c:=c) (r:=r) (ln:=ln) l1 l2 (by omega) (T.ret (r:=r) (ln:=ar (c::r) ln) (tok:=tok) hE)⟩
   |false=>
    skip
    cases hb:nt c with
    |true=>
     skip
     obtain this:=i4 r
     obtain⟨n,q',h⟩:=ih r.tail (tok++bC r) (ar r (ar (c::r) ln)) (bC r) (by simp only[Ke];omega) (by simp only[Ke];omega) (by cases r <;> simp only[HI,Ke,Hh,Ij]at * <;> omega)
     exact⟨n+1,q',.next (c:=c) (r:=r) (ln:=ln) l1 l2 (by omega) (T.esc (r:=r) (ln:=ar (c::r) ln) (tok:=tok) hE hb (by omega) (by omega)) h⟩
    |false=>
     skip
     obtain⟨n,q',h⟩:=ih r (tok++⟨#[c]⟩) (ar (c::r) ln) ⟨#[c]⟩ (by omega) (by omega) (by simp only[HI];obtain this:(⟨#[c]⟩:Str).length=1:=rfl;omega)
     exact⟨n+1,q',.next (c:=c) (r:=r) (ln:=ln) l1 l2 (by omega) (T.next (r:=r) (ln:=ar (c::r) ln) (tok:=tok) hE hb (by omega)) h⟩
end
end
section
section
variable{w:World}{A:Around}{L a it:Addr}{pb:List Str}
theorem rn{c:Nat}{r:List Nat}{ln:Int}{tok:Str}{f:PV}(hc:g6 c=true): Ex aa (ac w) (bF a it) w A (b9 L) (execs pg (b9 L)) (L4 pb r ln tok f ⟨#[c]⟩) .cont (L4 pb r ln tok f ⟨#[c]⟩):=by
 refine aX (cE (Tr.cmp (f1:=true) (p:=.str ⟨#[c]⟩) ?_ (ja (pb:=pb) (rest:=r) (ln:=ln) ?_ (by kernel_rfl) (by kernel_rfl)) (cz.inS _ _) rfl) hc (aX qM (by intro e;cases e))) (by intro e;cases e)
 ·walk_at "ev"
 ·walk_at "lk"
theorem rZ{isE:Nat→Bool}{body:List Stmt}(T:uu w A L a it pb isE body)(ro:Ro A 5){r:List Nat}{tok q:Str}{ln:Int}{px pf pos:Pos}(hr:r.length≤10000)(hz:tok.length+r.length≤20000):
  ∃ q',Ex aa (ac w) (bF a it) w A (b9 L) (exec (.For (.Name xe px) (.Name iY pf) body [] pos) (b9 L)) (L4 pb r ln tok (.cit a) q) (vZ (aE isE tok r ln)) (L4 pb (aE isE tok r ln).rest (aE isE tok r ln).ln (aE isE tok r ln).tok (fC a (aE isE tok r ln)) q'):=by
 obtain⟨n,q',h⟩:=inner T r.length r tok ln q (Hw _) hr hz
 exact⟨q',ua ro (.tail _ (.head _)) (.head _) (by simp;decide +kernel) (.inl (by kernel_rfl)) (by decide +kernel) (by kernel_rfl) (by kernel_rfl) h⟩
theorem Ec{c:Nat}{r:List Nat}{ln:Int}(ro:Ro A 5)(hr:r.length≤10000)(hc:g6 c=false): ∃ q',Ex aa (ac w) (bF a it) w A (b9 L) (execs pg (b9 L)) (L4 pb r ln (H5 "") (.cit a) ⟨#[c]⟩)
  (vZ (if lS c then aE lS (H5 "") r ln else if nt c then aE g6 (H5 ""++bC r) r.tail (ar r ln)else aE g6 (H5 ""++⟨#[c]⟩) r ln))
  (L4 pb (if lS c then aE lS (H5 "") r ln else if nt c then aE g6 (H5 ""++bC r) r.tail (ar r ln)else aE g6 (H5 ""++⟨#[c]⟩) r ln).rest
   (if lS c then aE lS (H5 "") r ln else if nt c then aE g6 (H5 ""++bC r) r.tail (ar r ln)else aE g6 (H5 ""++⟨#[c]⟩) r ln).ln
   (if lS c then aE lS (H5 "") r ln else if nt c then aE g6 (H5 ""++bC r) r.tail (ar r ln)else aE g6 (H5 ""++⟨#[c]⟩) r ln).tok
   (fC a (if lS c then aE lS (H5 "") r ln else if nt c then aE g6 (H5 ""++bC r) r.tail (ar r ln)else aE g6 (H5 ""++⟨#[c]⟩) r ln)) q'):=by
 have hB:=aU
 have h0:(H5 "").length=0:=rfl
 have first:∀{fl:Fl} {l':List (Str×PV)},Ex aa (ac w) (bF a it) w A (b9 L) (execs (pg.drop 1) (b9 L)) (L4 pb r ln (H5 "") (.cit a) ⟨#[c]⟩) fl l'→Ex aa (ac w) (bF a it) w A (b9 L) (execs pg (b9 L)) (L4 pb r ln (H5 "") (.cit a) ⟨#[c]⟩) fl l':=by
  intro fl l' h
  refine af (c7 (Tr.cmp (f1:=true) (p:=.str ⟨#[c]⟩) ?_ (ja (pb:=pb) (rest:=r) (ln:=ln) ?_ (by kernel_rfl) (by kernel_rfl)) (cz.inS _ _) rfl) hc aq) h
  ·walk_at "ev"
  ·walk_at "lk"
 cases hq:lS c with
 |true=>
  skip
  have hq:((⟨#[c]⟩:Str)==H5 "\"")=true:=hq
  obtain⟨q',h⟩:=rZ (w:=w) (A:=A) (L:=L) (a:=a) (it:=it) (pb:=pb) (C4 ro) ro (r:=r) (tok:=H5 "") (q:=⟨#[c]⟩) (ln:=ln) (px:=_) (pf:=_) (pos:=_) hr (by omega)
  refine⟨q',first (bo (cE ?_ hq (bo h)))⟩
  walk_at "tr"
 |false=>
  skip
  have hq:((⟨#[c]⟩:Str)==H5 "\"")=false:=hq
  cases hb:nt c with
  |true=>
   skip
   have hb:((⟨#[c]⟩:Str)==H5 "\\")=true:=hb
   have hl:=i4 r
   obtain⟨q',h⟩:=rZ (w:=w) (A:=A) (L:=L) (a:=a) (it:=it) (pb:=pb) (wb ro) ro (r:=r.tail) (tok:=H5 ""++bC r) (q:=bC r) (ln:=ar r ln) (px:=_) (pf:=_) (pos:=_) (by simp only[Ke];omega) (by simp only[HI,Ke];omega)
   refine⟨q',first (bo (c7 ?_ hq ?_))⟩
   ·walk_at "tr"
   ·walk_at "ifT"
    case hbody=>exact af (yp ro hr rfl) aq
    case hrest=>exact af (ut (by omega)) (bo h)
  |false=>
   skip
   have hb:((⟨#[c]⟩:Str)==H5 "\\")=false:=hb
   have hl:(⟨#[c]⟩:Str).length=1:=rfl
   obtain⟨q',h⟩:=rZ (w:=w) (A:=A) (L:=L) (a:=a) (it:=it) (pb:=pb) (wb ro) ro (r:=r) (tok:=H5 ""++⟨#[c]⟩) (q:=⟨#[c]⟩) (ln:=ln) (px:=_) (pf:=_) (pos:=_) hr (by simp only[HI];omega)
   refine⟨q',first (bo (c7 ?_ hq ?_))⟩
   ·walk_at "tr"
   ·walk_at "ifF"
    case hbody=>exact aq
    case hrest=>exact af (ut (by omega)) (bo h)
theorem Em(ro:Ro A 5): ∀(k:Nat) (r:List Nat) (ln:Int) (locs:List (Str×PV)),r.length≤k→r.length≤10000→(locs=L3 pb r ln (H5 "") (.cit a)∨∃ q,locs=L4 pb r ln (H5 "") (.cit a) q)→
  ∃ n locs',dc (bF a it) w A (b9 L) pg xe cf iY a n locs (vZ (an r ln)) locs'∧locs'.lookup cf=some (.lex pb (an r ln).rest (an r ln).ln)∧locs'.lookup rJ=some (.str (an r ln).tok):=by
 intro k
 induction k with
 |zero=>
  intro r ln locs hk _ hl
  obtain rfl:r=[]:=JJ.mp (by omega)
  rcases hl with rfl | ⟨q,rfl⟩
  ·exact⟨0,_,.stop (pb:=pb) (ln:=ln) (by walk_at "lk") (by walk_at "lk"),by kernel_rfl,by kernel_rfl⟩
  ·exact⟨0,_,.stop (pb:=pb) (ln:=ln) (by walk_at "lk") (by walk_at "lk"),by kernel_rfl,by kernel_rfl⟩
 |succ k ih=>
  intro r ln locs hk hr hl
  cases r with
  |nil=>
   rcases hl with rfl | ⟨q,rfl⟩
   ·exact⟨0,_,.stop (pb:=pb) (ln:=ln) (by walk_at "lk") (by walk_at "lk"),by kernel_rfl,by kernel_rfl⟩
   ·exact⟨0,_,.stop (pb:=pb) (ln:=ln) (by walk_at "lk") (by walk_at "lk"),by kernel_rfl,by kernel_rfl⟩
  |cons c r=>
   simp only[Hh]at hk hr
   have l1:locs.lookup iY=some (.cit a):=by
    rcases hl with rfl | ⟨q,rfl⟩ <;> walk_at "lk"
   have l2:locs.lookup cf=some (.lex pb (c::r) ln):=by
    rcases hl with rfl | ⟨q,rfl⟩ <;> walk_at "lk"
   obtain hs:ab xe (.str ⟨#[c]⟩) (ab cf (.lex pb r (ar (c::r) ln)) locs)=L4 pb r (ar (c::r) ln) (H5 "") (.cit a) ⟨#[c]⟩:=by
    rcases hl with rfl | ⟨q,rfl⟩ <;> kernel_rfl
   have turn:∀{fl:Fl} {l':List (Str×PV)},Ex aa (ac w) (bF a it) w A (b9 L) (execs pg (b9 L)) (L4 pb r (ar (c::r) ln) (H5 "") (.cit a) ⟨#[c]⟩) fl l'→Ex aa (ac w) (bF a it) w A (b9 L) (execs pg (b9 L)) (ab xe (.str ⟨#[c]⟩) (ab cf (.lex pb r (ar (c::r) ln)) locs)) fl l':=by
    intro fl l' h;rw[hs];exact h
   cases hW:g6 c with
   |true=>
    obtain e:an (c::r) ln=an r (ar (c::r) ln):=by simp[an,hW]
    rw[e]
    obtain⟨n,locs',h,h1,h2⟩:=ih r (ar (c::r) ln) (L4 pb r (ar (c::r) ln) (H5 "") (.cit a) ⟨#[c]⟩) (by omega) (by omega) (.inr ⟨_,rfl⟩)
    exact⟨n+1,locs',.cont (c:=c) (r:=r) (ln:=ln) l1 l2 (by omega) (turn (rn hW)) h,h1,h2⟩
   |false=>
    obtain e:an (c::r) ln=if lS c then aE lS (H5 "") r (ar (c::r) ln)else if nt c then aE g6 (H5 ""++bC r) r.tail (ar r (ar (c::r) ln))else aE g6 (H5 ""++⟨#[c]⟩) r (ar (c::r) ln):=by
     simp[an,hW]
    obtain⟨q',h⟩:=Ec (w:=w) (A:=A) (L:=L) (a:=a) (it:=it) (pb:=pb) (c:=c) (r:=r) (ln:=ar (c::r) ln) ro (by omega) hW
    rw[←e]at h
    have h1:(L4 pb (an (c::r) ln).rest (an (c::r) ln).ln (an (c::r) ln).tok (fC a (an (c::r) ln)) q').lookup cf=some (.lex pb (an (c::r) ln).rest (an (c::r) ln).ln):=by walk_at "lk"
    have h2:(L4 pb (an (c::r) ln).rest (an (c::r) ln).ln (an (c::r) ln).tok (fC a (an (c::r) ln)) q').lookup rJ=some (.str (an (c::r) ln).tok):=by walk_at "lk"
    have h3:(L4 pb (an (c::r) ln).rest (an (c::r) ln).ln (an (c::r) ln).tok (fC a (an (c::r) ln)) q').lookup iY=some (fC a (an (c::r) ln)):=by walk_at "lk"
    cases hf:(an (c::r) ln).fnd with
    |true=>
     have e1:vZ (an (c::r) ln)=.ret (.str (an (c::r) ln).tok):=by simp[vZ,hf]
     rw[e1]at h ⊢
     exact⟨0,_,.ret (c:=c) (r:=r) (ln:=ln) l1 l2 (by omega) (turn h),h1,h2⟩
    |false=>
     have e1:vZ (an (c::r) ln)=.next:=by simp[vZ,hf]
     rw[e1]at h ⊢
     exact⟨0+1,_,.next (c:=c) (r:=r) (ln:=ln) l1 l2 (by omega) (turn h) (.ended (by rw[h3];simp[fC,hf])),h1,h2⟩
theorem zX{x:Addr}(h:Heap)(v:Value)(F:List Addr)(z:VR h (.cit x) v F): ∃ a,v=.ref a:=by cases z;exact⟨_,rfl⟩
theorem Gu(rest:List Nat)(ln:Int)(hz:rest.length≤10000)(ro':Ro A 5): ∃ locs',Ex aa (ac w) [(cf,a)] w A (ah 66 AI L) (execs yN (ah 66 AI L)) ([cf].zip [PV.lex [] rest ln]) (.ret (.str (an rest ln).tok)) locs'∧locs'.lookup cf=some (.lex [] (an rest ln).rest (an rest ln).ln):=by
 show∃ locs',Ex _ _ _ _ _ _ _ ([cf].zip [PV.lex [] rest ln]) _ _∧_
 refine⟨[(cf,.lex [] (an rest ln).rest (an rest ln).ln)],?_,by walk_at "lk"⟩
 refine af (c7 (c:=false) (lj (pb:=[]) (rest:=rest) (ln:=ln) ?_ (HT _) (by kernel_rfl) (by kernel_rfl)) rfl aq) ?_
 ·walk_at "lk"
 walk_at "asg"
 case hrest=>
  refine sk (p:=.cit a) (q:=.cit a) (ae _) (by simp;decide +kernel) (yh (pb:=[]) (rest:=rest) (ln:=ln) (by kernel_rfl) ?_ (.head _) (by kernel_rfl) (by kernel_rfl)) (fun _ _ _ z=>z) zX (by kernel_rfl) rfl fun it=>?_
  ·walk_at "lk"
  obtain⟨n,locs',hl,h1,h2⟩:=Em (w:=w) (A:=A) (L:=L) (a:=a) (it:=it) (pb:=[]) ro' rest.length rest ln (ab iY (.cit a) (ab rJ (.str (H5 "")) ([cf].zip [PV.lex [] rest ln]))) (Hw _) hz (.inl (by kernel_rfl))
  refine am (locs1:=locs') ?_ (by kernel_rfl) (ak h1 dZ)
  obtain hfor:=fun px pf pos=>ua (px:=px) (pf:=pf) (pos:=pos) ro' (.tail _ (.head _)) (.head _) (by simp;decide +kernel) (.inl (by kernel_rfl)) (by decide +kernel) (by kernel_rfl) (by kernel_rfl) hl
  cases hf:(an rest ln).fnd with
  |true=>
   have e1:vZ (an rest ln)=.ret (.str (an rest ln).tok):=by simp[vZ,hf]
   rw[e1]at hfor
   exact aX (hfor _ _ _) (by intro e;cases e)
  |false=>
   have e1:vZ (an rest ln)=.next:=by simp[vZ,hf]
   rw[e1]at hfor
   refine af (hfor _ _ _) ?_
   walk_at "ret"
theorem Er(w:World)(A:Around)(rest:List Nat)(ln:Int)(hz:rest.length≤10000)(ro:Ro A 6): dy aa (ac w) w A 66 (.lex [] rest ln) [] (.str (an rest ln).tok) (.lex [] (an rest ln).rest (an rest ln).ln):=
 dh (m8.toS.up (ag w)) ro (by kernel_rfl) rfl rfl (dargs:=[]) (dvs:=[]) (fun h=>.nil) rfl rfl rfl (fun h u vs g hl=>by
  revert hl;revert vs;exact vW (HD (m8.bind [u] rfl))) (by simp) (.inl rfl) (fun L a ro'=>Gu rest ln hz ro') fU
theorem Bq(w:World)(A:Around)(q:Str)(pb:List Str)(rest:List Nat)(ln:Int)(hz:pb.length≤900)(ro:Ro A 6): dy aa (ac w) w A 66 (.lex (q::pb) rest ln) [] (.str q) (.lex pb rest ln):=
 dh (m8.toS.up (ag w)) ro (by kernel_rfl) rfl rfl (dargs:=[]) (dvs:=[]) (fun h=>.nil) rfl rfl rfl (fun h u vs g hl=>by
  revert hl;revert vs;exact vW (HD (m8.bind [u] rfl))) (by simp) (.inl rfl) (fun L a ro'=>by
  show∃ locs',Ex _ _ _ _ _ _ _ ([cf].zip [PV.lex (q::pb) rest ln]) _ _∧_
  refine⟨ab cf (.lex pb rest ln) ([cf].zip [PV.lex (q::pb) rest ln]),?_,by walk_at "lk"⟩
  refine aX (cE (c:=true) (lj (pb:=q::pb) (rest:=rest) (ln:=ln) ?_ (by simp only[Hh];omega) (by kernel_rfl) (by kernel_rfl)) rfl (aX (sf (sD (pb:=pb) (rest:=rest) (ln:=ln) ?_ (by omega) (by kernel_rfl) (by kernel_rfl) rfl rfl)) (by intro e;cases e))) (by intro e;cases e)
  ·walk_at "lk"
  ·walk_at "lk") fU
end
end
section
theorem Al(w:World): takerIn (ac w) 76 fF=some none:=by kernel_rfl
theorem Ak(w:World): takerIn (ac w) 76 kN=some none:=by kernel_rfl
theorem Aj(w:World): takerIn (ac w) 76 fm=some none:=by kernel_rfl
theorem Ai(w:World): takerIn (ac w) 76 dA=some none:=by kernel_rfl
theorem kZ(w:World): takerIn (ac w) 76 iX=some none:=by kernel_rfl
noncomputable abbrev yO:List Stmt:=aF (aA 3 (H5 "__init__"))
noncomputable abbrev uh(L:Addr): Env:=ah 52 CV L
noncomputable abbrev FR:List Str:=[H5 "self",H5 "fp"]
noncomputable def dB(w:World)(q:PV): List (Str×Int×PV):=[(fF,Iq w.params fF,.int 1),(kN,Iq w.params kN,q),(fm,Iq w.params fm,.str (H5 "\n\t\r ")),(dA,Iq w.params dA,.own [])]
section
variable{w:World}{A:Around}{L a:Addr}
theorem Gv{q:PV}(hq:q=.none∨∃ b,q=.val (.ref b)): Ex aa (ac w) [(H5 "self",a)] w A (uh L) (execs yO (uh L)) (FR.zip [.inst 76 [],q]) .next [(H5 "self",.inst 76 (dB w q))]:=by
 have hown:q.isOwn=false:=by rcases hq with rfl | ⟨b,rfl⟩ <;> rfl
 have hf:q.flat=true:=by rcases hq with rfl | ⟨b,rfl⟩ <;> rfl
 obtain hs:q.seen=q:=by rcases hq with rfl | ⟨b,rfl⟩ <;> rfl
 refine am (locs1:=ab (H5 "self") (.inst 76 (dB w q)) (ab (H5 "self") (.inst 76 ((dB w q).take 3)) (ab (H5 "self") (.inst 76 ((dB w q).take 2)) (ab (H5 "self") (.inst 76 ((dB w q).take 1)) (FR.zip [.inst 76 [],q]))))) ?_ (by kernel_rfl) ?_
 ·refine af (j9 (l:=[]) (p:=.int 1) (q:=.int 1) (cG w (Al w)) ?_ rfl (by decide) (Ev.int _ _ _) (.same rfl) (by kernel_rfl) (by kernel_rfl) rfl) ?_
  ·walk_at "lk"
  refine af (j9 (l:=(dB w q).take 1) (p:=q) (q:=q) (cG w (Ak w)) ?_ (by kernel_rfl) (by simp only[JC];omega) ?_ (.same hown) (by kernel_rfl) (by kernel_rfl) rfl) ?_
  ·exact dG
  ·refine Ev.local ?_ hs hf (by kernel_rfl) (by kernel_rfl)
   walk_at "lk"
  refine af (j9 (l:=(dB w q).take 2) (p:=.str (H5 "\n\t\r ")) (q:=.str (H5 "\n\t\r ")) (cG w (Aj w)) ?_ (by kernel_rfl) (by simp only[JC];omega) (Ev.str _ _ _) (.same rfl) (by kernel_rfl) (by kernel_rfl) rfl) ?_
  ·exact dG
  refine af (j9 (l:=(dB w q).take 3) (p:=.lst []) (q:=.own []) (cG w (Ai w)) ?_ (by kernel_rfl) (by simp only[JC];omega) ?_ .own (by kernel_rfl) (by kernel_rfl) rfl) aq
  ·exact dG
  ·walk_at "ev"
 ·walk_at "looks"
end
section
variable{w:World}{A:Around}
theorem rN{q:PV}{ps:List PV}{us pos:List Value}{F0:List Addr}{s:Shared}(ro:Ro A 5)(g:G aa (ac w) s.heap)
  (hz:bf s.heap ps us F0) (nd:F0.Nodup) (hi:∀ b∈F0,348≤b) (hl:us.length=1) (hbind:∀ h v,G aa (ac w) h→Looks (model pw w) h (J4 CV ⟨v::pos,[]⟩) (FR.zip (v::us)))
  (hb:∀ L a A',Ro A' 3→Ex aa (ac w) [(H5 "self",a)] w A' (uh L) (execs yO (uh L)) (FR.zip (.inst 76 []::ps)) .next [(H5 "self",.inst 76 (dB w q))]):
  wpAny (model pw w) A (call (.ref 76) pos) (fun u s'=>aG F0 s s'∧∃ F,VR s'.heap (.inst 76 (dB w q)) u F∧∀ b∈F,b∈F0∨s.heap.objs.size≤b) (fun _ _=>False) s:=by
 obtain⟨h,gs,d,t,os⟩:=s
 dsimp only at g hz ⊢
 have kp:aj [] h ((h.push IZ).push (instObj 76 h.objs.size)):=(aj.push _ _).trans (aj.push _ _)
 obtain g1:=g.kept0 kp
 obtain hlen:ps.length=1:=by rw[←hz.length,hl]
 obtain lt0:∀ b∈F0,b<h.objs.size:=hz.lt
 refine Jp (make_core (makes_of g.inK (by kernel_rfl)) (looks_findIn g.inK (r:=some (.ref 52)) (by kernel_rfl)) (fun self=>bind_fn g.inK self (by kernel_rfl)) (.inl rfl) ?_)
 refine je (s:=⟨(h.push IZ).push (instObj 76 h.objs.size),gs,d,t,os⟩) (n:=3) (args:=.inst 76 []::ps) (vs:=.ref (h.objs.size+1)::us) (F:=[h.objs.size+1,h.objs.size]++F0) (W:=[h.objs.size+1,h.objs.size]++F0) (pins:=[(H5 "self",h.objs.size+1)]) (BO.toS.up (ag w)) (ro.under _ _ _) (by simp[hlen]) (hbind _ _ g1) g1 (.cons (qu h 76) (hz.kept0 kp)) ?_ ?_ ?_ ?_ ?_
 ·rw[Hn]
  refine⟨by simp,nd,fun b hb c hc e=>?_⟩
  subst e
  obtain h1:b<h.objs.size:=lt0 b hc
  rcases bN hb with rfl | rfl
  ·exact absurd (LP h1) (Ie _)
  ·exact absurd h1 (Ie _)
 ·intro b hb
  obtain this:=g.low
  rcases H9.mp hb with hb | hb
  ·rcases bN hb with rfl | rfl
   ·exact Iu g.low
   ·exact g.low
  ·exact hi b hb
 ·intro Fs e b hb
  obtain this:=cT hb
  rw[e]at this
  exact this
 ·intro q hq
  rw[H7.mp hq]
  exact⟨.head _,by kernel_rfl⟩
 ·intro h1 tk Fs k I eF hsub
  refine Pw.andThen ((hb _ _ _ ((ro.under _ _ _).deeper _)).run _ Fs I) fun fw s2 hh=>?_
  obtain⟨k2,e2,Fs2,I2,o2⟩:=hh
  cases e2
  obtain⟨u',F',Fs3,z',at',_,_,_,p1,_⟩:=I2.take (x:=H5 "self") (p:=.inst 76 (dB w q)) rfl
  obtain rfl:=dU I2 (.head _) at'
  have big:∀ b∈[h.objs.size+1,h.objs.size]++F0,b∈F0∨h.objs.size≤b:=fun b hb=>by
   rcases H9.mp hb with hb | hb
   ·rcases bN hb with rfl | rfl
    ·exact .inr (J0 _)
    ·exact .inr (Hw _)
   ·exact .inl hb
  have sz:h.objs.size≤((h.push IZ).push (instObj 76 h.objs.size)).objs.size:=kp.size
  have sub2:∀ b,b∈[h.objs.size+1,h.objs.size]++F0∨((h.push IZ).push (instObj 76 h.objs.size)).objs.size≤b→b∈F0∨h.objs.size≤b:=fun b hb=>hb.elim (big b) fun h=>.inr (H6 sz h)
  obtain kA:aG [] (⟨h,gs,d,t,os⟩:Shared) ⟨(h.push IZ).push (instObj 76 h.objs.size),gs,d,t,os⟩:=⟨kp,fun _ _ e=>e,id,rfl⟩
  obtain kB:aG [] (⟨(h.push IZ).push (instObj 76 h.objs.size),gs,d,t,os⟩:Shared) { (⟨(h.push IZ).push (instObj 76 h.objs.size),gs,d,t,os⟩:Shared)with heap:=h1,toks:=tk }:=⟨k,fun _ _ e=>e,id,rfl⟩
  refine And.intro rfl ⟨((kA.trans kB).all (W:=F0)).comp k2 fun b hb=>sub2 b (hsub b hb),F',z',fun b hb=>?_⟩
  rcases o2 b (p1 rfl b hb)with hb | hb
  ·exact sub2 b (hsub b hb)
  ·exact .inr (H6 (H6 sz k.size) hb)
end
end
section
noncomputable def TB(a:Addr)(h:Heap): Prop:=∃ m,h.get? a=some (tabObj m)
theorem TB.keep{a:Addr}{W:List Addr}{h h':Heap}(t:TB a h)(k:aj W h h')(hn:a∉W): TB a h':=let⟨m,e⟩:=t;⟨m,k.keep _ _ e (.inl hn)⟩
inductive w5(h:Heap): Prop
 |mk(mg:Str→Option Value)(bm:Addr)(ob:Obj)(n:h.Ns IB mg)(e:mg "__builtins__" = some (.ref bm))(l:bm<348)(n1:bm≠Ji)(n2:bm≠IB)(n3:bm≠288)(n4:bm≠337)(g:h.get? bm=some ob)(r:ob.cls=.type "module"∧ob.dict=some Ji∧ob.data=.plain)
noncomputable def jR(W:List Addr): Prop:=∀ b∈W,348≤b∨b=288∨b=337
theorem jR.not{W:List Addr}(hw:jR W){a:Addr}(ha:a<348)(h1:a≠288)(h2:a≠337): a∉W:=fun m=>by
 rcases hw a m with h | h | h
 ·exact absurd ha (Hz.mpr h)
 ·exact h1 h
 ·exact h2 h
theorem xz:∀ q∈ay,q.1≠288∧q.1≠337:=by decide +kernel
theorem tR(w:World): ∀ q∈ac w,q.1≠288∧q.1≠337:=fun q hq=>by
 rcases H9.mp hq with hq | hq
 ·have:(xD w).map (·.1)=[75,76,109,129,130,134,135,257,258]:=rfl
  have h1:q.1∈(xD w).map (·.1):=Hm.mpr ⟨q,hq,rfl⟩
  rw[this]at h1
  revert h1;generalize q.1=x;intro h1
  rcases Cq h1 with rfl | rfl | rfl | rfl | rfl | rfl | rfl | rfl | rfl <;> decide
 ·exact xz q hq
section
variable{w:World}{A:Around}{E:Value→Shared→Prop}{s:Shared}{h h':Heap}{W:List Addr}
theorem w5.kept(x:w5 h)(k:aj W h h')(hw:jR W): w5 h':=by
 obtain⟨mg,bm,ob,n,e,l,n1,n2,n3,n4,g,r⟩:=x
 exact⟨mg,bm,ob,bc k n (hw.not (by decide) (by decide) (by decide)),e,l,n1,n2,n3,n4,k.keep _ _ g (.inl (hw.not l n3 n4)),r⟩
theorem G.keptT(g:G aa (ac w) h)(k:aj W h h')(hw:jR W): G aa (ac w) h':=by
 have no {a:Addr} (ha:a<348) (h1:a≠288) (h2:a≠337):a∉W:=hw.not ha h1 h2
 refine⟨H6 g.low k.size,?_,?_,?_,?_,fun p hp=>k.keep _ _ (g.tab p hp) (.inl (no (ae w p hp) (tR w p hp).1 (tR w p hp).2))⟩
 ·obtain⟨mc,a,b⟩:=g.nolimit;exact⟨mc,bc k a (no (by decide) (by decide) (by decide)),b⟩
 ·obtain⟨mc,a,b⟩:=g.nodigits;exact⟨mc,bc k a (no (by decide) (by decide) (by decide)),b⟩
 ·obtain⟨mc,a,b⟩:=g.glob;exact⟨mc,bc k a (no (by decide) (by decide) (by decide)),b⟩
 ·obtain⟨mc,a,b⟩:=g.blt;exact⟨mc,bc k a (no (by decide) (by decide) (by decide)),b⟩
theorem bw.movedT{pins:List (Str×Addr)}{env:Env}{locs:List (Str×PV)}{Fs:List (List Addr)}{s s':Shared}(I:bw aa (ac w) pins env locs Fs s)(k:aj W s.heap s'.heap)(hw:jR W)
  (hd:∀ b∈env.locals::env.cells.map (·.2)++Fs.flatten,b∉W):bw aa (ac w) pins env locs Fs s':=by
 simp only[Hp,Ha,H9]at hd
 exact⟨I.g.keptT k hw,I.er.kept k (hd _ (.inl rfl)) (fun p hp=>hd _ (.inr (.inl (Hm.mpr ⟨p,hp,rfl⟩)))) (fun H hH b hb=>hd b (.inr (.inr (KY.mpr ⟨H,hH,hb⟩)))),I.nd,I.hi,fun c hc=>by
  obtain⟨v,i⟩:=I.cl c hc
  exact⟨v,bq k i (hd _ (.inr (.inl (Hm.mpr ⟨c,hc,rfl⟩))))⟩,I.keys,fun q hq=>let⟨m,n,e⟩:=I.pin q hq;⟨m,bc k n (hd _ (.inl rfl)),e⟩⟩
noncomputable abbrev ca(L:Addr): Env:=ah 293 u7 L
noncomputable abbrev uq:List Stmt:=aF (aO 72)
noncomputable def CF:Pos:=yd xt fun _ _ _ p _ _=>p
theorem yI(L:Addr): (ca L).cells=[(cC,L+1)]:=by
 show Jg (L+1) (aQ (aO 72)).names []=_
 kernel_rfl
theorem Da{L:Addr}(g:G aa (ac w) s.heap)(bi:w5 s.heap)(hP:s.heap.get? 288=some (tabObj #[])): wpAny (model pw w) A (eval xt (ca L)) (fun v s'=>∃ lf cd,v=.ref lf∧(aG [288] s s'∧TB 288 s'.heap)∧kH s'.heap lf (L+1) cd∧s.heap.objs.size≤lf∧s.heap.objs.size≤cd∧cd≠lf) E s:=by
 obtain⟨mg,bm,ob,n,e,l,n1,n2,n3,n4,gb,r⟩:=bi
 show wpAny _ _ (eval (.Lambda ES CH xr CF) _) _ _ _
 obtain hc:=g.tab (292,_) (ag w _ (cQ (i:=64) rfl))
 refine kla_eval (by kernel_rfl) (kla_makeFunction (mg:=mg) (clos:=[(cC,L+1)]) (c:=292) (P:=288) (ps:=#[]) ?_ rfl n rfl ⟨_,_,_,_,_,_,_,_,_,hc,rfl,rfl,rfl,rfl,rfl,rfl,rfl,rfl,by decide⟩ hP trivial rfl (by decide) ⟨bm,ob,e,n1,n2,n3,gb,r⟩ fun c' ctv h' tk hx hge hlt hrec htb=>?_)
 ·kernel_rfl
 ·have hsz:s.heap.objs.size≤h'.objs.size:=IG (HS hge hlt)
  have kp:aj [288] s.heap h':=⟨hsz,fun b o e q=>by
   rcases q with q | q
   ·exact hx b o (by simpa using q) e
   ·by_cases hb:b=288
    ·subst hb;rw[hP]at e;cases e;cases q
    ·exact hx b o hb e⟩
  obtain⟨c2,oc,vs,t,hcv,h1,h2,h3⟩:=hrec
  cases hcv
  refine⟨h'.objs.size,c',rfl,⟨⟨kp.trans (aj.push _ _).all,fun _ _ e=>e,id,rfl⟩,⟨_,Ht _ htb⟩⟩,⟨_,ctv,oc,vs,t,Hk _ rfl,Ht _ h1,h2,?_⟩,hsz,hge,Im hlt⟩
  exact h3
end
end
section
theorem vy{h:Heap}: ∀{l:List Nat} {vs:List Value} {F:List Addr},bf h (l.map fun c=>PV.str ⟨#[c]⟩) vs F→gT l vs:=by
 intro l
 induction l with
 |nil=>
  rintro _ _ z
  cases z;trivial
 |cons c l ih=>
  rintro _ _ z
  cases z with
  |cons a b=>cases a;exact⟨⟨_,rfl⟩,ih b⟩
section
variable{w:World}{A:Around}{env:Env}{locs:List (Str×PV)}
theorem yk{np pos:Pos}{e:Expr}{q:PV}(hk:env.kindOf (H5 "_netrclex")=some .globalImplicit)(he:Ev aa (ac w) w A env locs e q true)(hq:q=.none∨∃ b,q=.val (.ref b))(hs:Hg [e] env=(false,eval e env)::Hg [] env)(ro:Ro A 5):
  Ev aa (ac w) w A env locs (.Call (.Name (H5 "_netrclex") np) [e] [] pos) (.inst 76 (dB w q)) true:=.mk fun s Fs g z=>
 It (Pw.andThen ((Ev.global (gt:=aa) (K:=ac w) (w:=w) (A:=A) (locs:=locs) hk Az (by kernel_rfl)).run s Fs g z) fun v s1 hh=>by
  obtain⟨k1,F1,v1,_⟩:=hh
  cases v1
  obtain g1:=g.kept0 k1.heap
  have h:=(bG.cons he bG.nil hs).run s1 Fs pos g1 (z.kept0 k1.heap)
  show wpAny _ _ (IU pos (.ref 76) [] (backTo pos (Hg [e] env)) []) _ _ _
  rw[hs]at h ⊢
  refine Ik (P:=G aa (ac w)) (by rfl) (fun h' g'=>keeps_K (K:=ac w) (by kernel_rfl) h' g'.inK) (HZ (Pw.andThen h fun vs s2 hh=>?_))
  obtain⟨k2,F2,z2,fr2⟩:=hh
  obtain⟨u,rfl,zu⟩:=z2.one1
  obtain g2:=g1.kept0 k2.heap
  obtain hf:q.flat=true:=by rcases hq with rfl | ⟨b,rfl⟩ <;> rfl
  obtain rfl:=zu.flat hf
  refine⟨g2,?_⟩
  refine Pw.andThen (rN (q:=q) (A:=A) (ps:=[q]) (us:=[u]) (F0:=[]) (pos:=[]++[u]) ro g2 (.cons (F:=[]) zu .nil) .nil (fun b hb=>(nomatch hb)) rfl (fun h v g=>HD (BO.bind [v,u] rfl)) (fun L a A' ro'=>Gv hq)) fun u s3 hh=>?_
  obtain⟨k3,F,zu,hF⟩:=hh
  have k12:=k1.trans k2
  exact⟨k12.trans k3,F,zu,fun _ b hb=>(hF b hb).elim (fun h=>(nomatch h)) (H6 k12.heap.size)⟩)
end
theorem GW{a d lp b e lf c r cd S3 S4 S5:Nat}(h1:a≠d)(h2:a≠lp)(h3:d≠lp)(h4:r≠b)(h5:r≠e)(h6:b≠e)(h7:r≠c)(h8:b≠c)(h9:e≠c)(h10:cd≠lf)(fa:S5≤a)(fd:S5≤d)(fl:S5≤lp)(l4:lf<S4)(c4:cd<S4)(l3:S3≤lf)(c3:S3≤cd)
  (hb:b<S3) (he:e<S3) (hr:r<S3) (hc:c<S3) (hs:S4≤S5):[a,d,lp,b,e,lf,c,r,cd].Nodup:=by
 obtain l34:S3≤S4:=H6 l3 (IG l4)
 have l35:=H6 l34 hs
 have n {x y S:Nat} (a:x<S) (b:S≤y):y≠x:=Ju (HB a b)
 have q {x y S:Nat} (a:x<S) (b:S≤y):x≠y:=Im (HB a b)
 have up {x y z:Nat} (a:x<y) (b:y≤z):=HB a b
 obtain l5:=up l4 hs
 obtain c5:=up c4 hs
 obtain b5:=up hb l35
 obtain e5:=up he l35
 obtain r5:=up hr l35
 obtain k5:=up hc l35
 simp only[Hu,Ha,Hs,or_false,not_or,not_false_eq_true,and_true,Ls]
 exact⟨⟨h1,h2,n b5 fa,n e5 fa,n l5 fa,n k5 fa,n r5 fa,n c5 fa⟩,⟨h3,n b5 fd,n e5 fd,n l5 fd,n k5 fd,n r5 fd,n c5 fd⟩,⟨n b5 fl,n e5 fl,n l5 fl,n k5 fl,n r5 fl,n c5 fl⟩,
  ⟨h6,q hb l3,h8,Il h4,q hb c3⟩,⟨q he l3,h9,Il h5,q he c3⟩,⟨n hc l3,n hr l3,Il h10⟩,⟨Il h7,q hc c3⟩,q hr c3⟩
theorem rv(x:Str): PV.flat.go (cj x)=true:=by
 unfold cj
 generalize x.cps.toList=l
 induction l with
 |nil=>rfl
 |cons c l ih=>simp only[HF,PV.flat.go,PV.flat,ih];rfl
section
variable{w:World}{A:Around}
noncomputable abbrev kg:Str:=H5 "text"
noncomputable abbrev dX:Str:=H5 "stream"
noncomputable def t9(w:World)(x:Str): List (Str×PV):=[(kg,.str x),(cC,.own (cj x)),(dX,.inst 76 (dB w .none))]
theorem D9{L:Addr}{x:Str}(hx:x.length≤100000)(ro:Ro A 5): Ex aa (ac w) [] w A (ca L) (exec ((uq[0]?).getD (.Pass default)) (ca L)) ([kg].zip [PV.str x]) .next [(kg,.str x),(cC,.own (cj x))]:=by
 refine am (locs1:=ab cC (.own (cj x)) ([kg].zip [PV.str x])) ?_ (by kernel_rfl) ?_
 ·refine az (p:=.lst (cj x)) (ae _) (by simp) (c8 (ff:=true) (fa:=true&&true) (f:=.type "list") (rs:=[.str x]) (Ev.builtin (by kernel_rfl) pi (by decide +kernel) (by kernel_rfl)) bd (bG.cons ?_ bG.nil rfl) (wX ro.1 hx) bR rfl rfl) .own (.inr ⟨by kernel_rfl,by kernel_rfl⟩) rfl
  walk_at "ev"
 ·walk_at "looks"
theorem D8{L:Addr}{x:Str}(ro:Ro A 5): Ex aa (ac w) [] w A (ca L) (exec ((uq[1]?).getD (.Pass default)) (ca L)) [(kg,.str x),(cC,.own (cj x))] .next (t9 w x):=by
 refine am (locs1:=ab dX (.inst 76 (dB w .none)) [(kg,.str x),(cC,.own (cj x))]) ?_ (by kernel_rfl) ?_
 ·exact qJ (p:=.inst 76 (dB w .none)) (ae _) (by simp) (ft (yk (q:=.none) (by kernel_rfl) (Ev.none _ _) (.inl rfl) rfl ro)) (fun _ _ _ z=>z) (.inl (by kernel_rfl)) rfl
 ·walk_at "looks"
theorem Ew{x:Str}: bQ (t9 w x):=ai (.inl rfl) (ai (.inr rfl) (ai (.inr rfl) bX))
theorem oi:jR [288]:=fun b hb=>.inr (.inl (H7.mp hb))
inductive DM(x:Str)(s:Shared)(u:Value)(s':Shared): Prop
 |mk(k:aG [288] s s'∧TB 288 s'.heap)(F:List Addr)(z:VR s'.heap (.lex [] x.cps.toList 1) u F)(h:∀ b∈F,s.heap.objs.size≤b)
theorem cps{G:Prop}(h:∀ P:Prop,(G→P)→P): G:=h G id
inductive zd(h:Heap)(q u:Value)(F:List Addr): Prop
 |mk(a d lp:Addr)(n4:Nat)(eu:u=.ref a)(eF:F=[a,d,lp])(nd:[a,d,lp].Nodup)(i1:h.get? a=some { cls:=.ref gx,dict:=some d })
  (i2:∃ h1 t1 u1 h2 t2 h3 t3 u3 h4 t4 n,h.get? d=some (bH [⟨h1,.str (H5 "lineno") t1,.int 1 u1⟩,⟨h2,.str (H5 "instream") t2,q⟩,
   ⟨h3,.str (H5 "whitespace") t3,.str (H5 "\n\t\r ") u3⟩,⟨h4,.str (H5 "pushback") t4,.ref lp⟩] n)) (j1:h.get? lp=some (bn [] n4))
theorem v9{h:Heap}{q u:Value}{F:List Addr}(z:VR h (.inst 76 (dB w (.val q))) u F): zd h q u F:=by
 obtain⟨a,d,es,n,G,e1,e2,i1,i2,dr,nd⟩:=z.inv
 rw[e2]
 clear e2 z
 cases dr with
 |cons y1 dr=>
 cases dr with
 |cons y2 dr=>
 cases dr with
 |cons y3 dr=>
 cases dr with
 |cons y4 dr=>
 cases dr
 obtain⟨lp,vs,n4,G4,e4,e5,j1,j2,_⟩:=y4.inv
 subst e5 e4
 cases y1;cases y2;cases y3
 cases j2
 exact⟨a,d,lp,n4,e1,rfl,nd,i1,⟨_,_,_,_,_,_,_,_,_,_,_,i2⟩,j1⟩
inductive Bb(w:World)(x:Str)(L:Addr)(Fs:List (List Addr))(s:Shared): Prop
 |mk(r b e:Addr)(ws:List Value)(n:Nat)(es:List HP)(n2:Nat)(F5:List Addr)(Fs5:List (List Addr))(e1:s.heap.get? r=some (bn ws n))(y:bf s.heap (cj x) ws [])(e2:s.heap.get? b=some { cls:=.ref 76,dict:=some e })(e3:s.heap.get? e=some (bH es n2))(dr:eG s.heap (dB w .none) es F5)
  (n12:r≠b) (n13:r≠e) (n23:b≠e) (o:∀ q∈[r,b,e],q∈ow (ca L) (t9 w x) Fs) (f:∀ q∈[r,b,e],q∈Fs.flatten) (d:∀ q∈[r,b,e],q∉(ca L).locals::(ca L).cells.map (·.2)++Fs5.flatten)
  (I:bw aa (ac w) [] (ca L) (bl [cC,dX] [.val (.ref r),.val (.ref b)] (t9 w x)) Fs5 s) (l:(bl [cC,dX] [.val (.ref r),.val (.ref b)] (t9 w x)).lookup dX=some (.val (.ref b))) (aR:gn s.heap (ca L) cC (.ref r)) (aS:gn s.heap (ca L) dX (.ref b))
theorem rR{x:Str}{L:Addr}{Fs:List (List Addr)}{s:Shared}(I4:bw aa (ac w) [] (ca L) (t9 w x) Fs s): Bb w x L Fs s:=by
 obtain⟨vs,F,Fs5,zs,nF,as,I5,l5,d5,o5,_,f1,_⟩:=I4.takes (xs:=[cC,dX]) (ps:=[.own (cj x),.inst 76 (dB w .none)]) (by decide +kernel) rfl (fun q hq=>by
  rcases bN hq with rfl | rfl <;> kernel_rfl)
 obtain⟨v,u,F1,F2,e1,e2,z1,z2⟩:=Bf zs
 clear zs
 subst e1 e2
 have o5:=o5 (fun p hp=>by
  rcases bN hp with rfl | rfl <;> rfl)
 obtain⟨r,ws,n,F0,e1,e2,g1,y,nd⟩:=z1.inv
 obtain⟨b,e,es,n2,F5,f1',f2',g2,g3,dr,nd2⟩:=z2.inv
 subst e1 e2 f1' f2'
 have mr:r∈r::F0++b::e::F5:=.head _
 have mb:b∈r::F0++b::e::F5:=Hb (r::F0) (.head _)
 have me:e∈r::F0++b::e::F5:=Hb (r::F0) (.tail _ (.head _))
 have all:∀{P:Addr→Prop},(∀ q∈r::F0++b::e::F5,P q)→∀ q∈[r,b,e],P q:=fun h q hq=>by
  rcases jE hq with e | e | e <;> rw[e] <;> exact h _ (by assumption)
 have n3:=(Hn.mp nF).2.2
 exact⟨r,b,e,ws,n,es,n2,F5,Fs5,g1,y.flat (rv x)▸y,g2,g3,dr,n3 r (.head _) b (.head _),n3 r (.head _) e (.tail _ (.head _)),(Hu.mp nd2).1∘fun h=>h▸.head _,all o5,all f1,all d5,I5,l5 (dX,.ref b) (.tail _ (.head _)),as (cC,.ref r) (.head _),as (dX,.ref b) (.tail _ (.head _))⟩
theorem vz{L:Addr}{h:Heap}{v:Value}(a:gn h (ca L) cC v): h.IsCell (L+1) (some v):=by
 obtain⟨m,nm,a⟩:=a
 rcases a with⟨k,_⟩ | ⟨_,c,hc,ic⟩
 ·rw[show(ca L).kindOf cC=some .cell by kernel_rfl]at k;rcases k with k | k <;> cases k
 ·have:some (L+1)=some c:=by rw[←hc];kernel_rfl
  cases this;exact ic
theorem sR{x:Str}{t:Tok}{s:Shared}(ro:Ro A 6)(g:G aa (ac w) s.heap)(bi:w5 s.heap)(hP:s.heap.get? 288=some (tabObj #[]))(hx:x.length≤100000):
  wpAny (model pw w) A (call (.ref 293) [.str x t]) (DM x s) (fun _ _=>False) s:=by
 refine fH (n:=5) (args:=[.str x]) (vs:=[.str x t]) (F:=[]) (W:=[]) (pins:=[]) (sJ.toS.up (ag w)) ro rfl (HD (sJ.bind [_] rfl)) g (.cons (F:=[]) (.str _ _) .nil) .nil (fun b hb=>nomatch hb) (fun Fs e b hb=>by obtain this:=cT hb;rw[e]at this;exact this) (fun b hb=>nomatch hb) ?_
 intro h1 tk Fs k1 I1 eF o1
 have roD:=ro.deeper (ah 293 u7 s.heap.objs.size)
 have kA:aG [] s { s with heap:=h1,toks:=tk }:=⟨k1,fun _ _ e=>e,id,rfl⟩
 refine HE (Pw.andThen ((D9 hx roD).run _ Fs I1) fun f s2 hh=>?_)
 obtain⟨k2,e2,Fs2,I2,o2⟩:=hh
 cases e2
 refine HE (Pw.andThen ((D8 roD).run s2 Fs2 I2) fun f s3 hh=>?_)
 obtain⟨k3,e3,Fs3,I3,o3⟩:=hh
 cases e3
 have own1:∀ b∈ow (ca s.heap.objs.size) ([kg].zip [PV.str x]) Fs,s.heap.objs.size≤b:=fun b hb=>(o1 b hb).elim (fun h=>nomatch h) id
 have own2:∀ b∈ow (ca s.heap.objs.size) [(kg,.str x),(cC,.own (cj x))] Fs2,s.heap.objs.size≤b:=fun b hb=>(o2 b hb).elim (own1 b) fun h=>H6 kA.heap.size h
 have k02:aG [] s s2:=kA.comp k2 fun b hb=>.inr (own1 b hb)
 have k03:aG [] s s3:=k02.comp k3 fun b hb=>.inr (own2 b hb)
 have own3:∀ b∈ow (ca s.heap.objs.size) (t9 w x) Fs3,s.heap.objs.size≤b:=fun b hb=>(o3 b hb).elim (own2 b) fun h=>H6 k02.heap.size h
 have low:=g.low
 refine HE (KS (Hf (Da (E:=fun _ _=>False) I3.g (bi.kept k03.heap (fun b hb=>nomatch hb)) (k03.heap.get hP)) (fun v s4 hh=>?_) fun _ _ e=>e.elim) rfl)
 refine cps fun P hP=>?_
 obtain⟨lf,cd,ev,hh⟩:=hh
 obtain⟨⟨k4,tb4⟩,hlam,hlf,hcd,hne⟩:=hh
 have I4:=I3.movedT k4.heap oi fun b hb hm=>absurd (H6 low (own3 b (I3.allOwn Ew b hb))) (H7.mp hm▸by decide)
 obtain⟨r,b,e,ws,n,es,n2,F5,Fs5,e1,y,e2,e3,dr,n12,n13,n23,o5,f5,d5,I5,l5,aR,aS⟩:=rR I4
 have mr:r∈[r,b,e]:=.head _
 have mb:b∈[r,b,e]:=.tail _ (.head _)
 have me:e∈[r,b,e]:=.tail _ (.tail _ (.head _))
 have lt3:∀ q∈[r,b,e],q<s3.heap.objs.size:=fun q hq=>I3.lt q (Hb _ (f5 q hq))
 have ge:∀ q∈[r,b,e],s.heap.objs.size≤q:=fun q hq=>own3 q (o5 q hq)
 obtain⟨g1,g2,g3⟩:=qS iX dr (by kernel_rfl)
 have cm:s.heap.objs.size+1∈(ca s.heap.objs.size).cells.map (·.2):=by rw[yI _];exact .head _
 have cl:s.heap.objs.size+1<s3.heap.objs.size:=I3.lt _ (Jw _ (H8 _ cm))
 have cnot:∀ q∈[r,b,e],q≠s.heap.objs.size+1:=fun q hq h=>d5 q hq (h▸Jw _ (H8 _ cm))
 have hlm:=hlam
 obtain⟨pm,ctv,oc,us,tq,q1,q2,q3⟩:=hlm
 subst ev
 refine hP (aD I5.er aS (by kernel_rfl) (by kernel_rfl) (fj I5.g.inK e2 e3 (cG w (kZ w)).1 (cG w (kZ w)).2.1 (cG w (kZ w)).2.2.1 (cG w (kZ w)).2.2.2 (by simp[lookIn,g1,g2]) (by rw[uk dr];show 4≤100;decide) fun h' t' hD hsb=>?_))
 have kp:aj [e] s4.heap h':=aj.same e3 rfl hsb
 rw[qc g3]at hD
 have I6:=I5.movedP (s':={ s4 with heap:=h',toks:=s4.toks+2 }) (W:=[e]) (ae w) kp (fun q hq=>by rw[H7.mp hq];exact H6 low (ge e me)) (fun q hq hm=>d5 e me (H7.mp hm▸hq))
 refine HE (Jf (Pw.andThen ((yk (q:=.val (.ref b)) (w:=w) (A:=A.deeper (ah 293 u7 s.heap.objs.size)) (env:=ca s.heap.objs.size) (by kernel_rfl) (Ev.local l5 pY rfl (by kernel_rfl) (by kernel_rfl)) (.inr ⟨b,rfl⟩) rfl roD).run _ Fs5 I6.g I6.er) fun u s6 h6=>?_))
 obtain⟨k6,F6,z6,fr6⟩:=h6
 refine cps fun P hP=>?_
 obtain⟨a,d,lp,n4,eu,eF6,nd6,i1,i2,j1⟩:=v9 z6
 have fr:∀ q∈[a,d,lp],h'.objs.size≤q:=fun q hq=>fr6 rfl q (eF6▸hq)
 have sz:s4.heap.objs.size≤h'.objs.size:=kp.size
 have sz3:s.heap.objs.size≤s3.heap.objs.size:=k03.heap.size
 have n6:=Hu.mp nd6
 have x2:aG [e] s4 { s4 with heap:=h',toks:=s4.toks+2 }:=⟨kp,fun _ _ e=>e,id,rfl⟩
 have kS:aG [288] s s6:=((k03.all.trans k4).comp x2 fun q hq=>.inr (H7.mp hq▸ge e me)).trans k6.all
 have kB:∀ q o,q≠e→s4.heap.get? q=some o→s6.heap.get? q=some o:=fun q o hq h=>k6.heap.get (kp.keep _ _ h (.inl fun hm=>hq (H7.mp hm)))
 have tbS:TB 288 s6.heap:=let⟨m,hm⟩:=tb4;⟨m,kB 288 _ (fun h=>absurd (H6 low (ge e me)) (h▸by decide)) hm⟩
 have hl6:kH s6.heap lf (s.heap.objs.size+1) cd:=(hlam.kept kp (fun hm=>Ju (HB (lt3 e me) hlf) (H7.mp hm)) fun hm=>Ju (HB (lt3 e me) hcd) (H7.mp hm)).kept k6.heap (fun h=>nomatch h) fun h=>nomatch h
 have hh:=H6 (H6 sz3 k4.heap.size) sz
 have ma:a∈[a,d,lp]:=.head _
 have md:d∈[a,d,lp]:=.tail _ (.head _)
 have ml:lp∈[a,d,lp]:=.tail _ (.tail _ (.head _))
 subst eu
 refine hP ⟨⟨kS,tbS⟩,[a,d,lp,b,e,lf,s.heap.objs.size+1,r,cd],.lex ⟨d,lp,b,e,lf,s.heap.objs.size+1,r,cd,[],n4,ws,n,rfl,?_,i1,i2,j1,trivial,kB _ _ n23 e2,⟨_,_,k6.heap.get hD,⟨Iq w.params iX,.str iX t',.ref lf⟩,?_,rfl⟩,hl6,bq k6.heap (bq kp (vz aR) fun hm=>cnot e me (H7.mp hm).symm) (fun h=>nomatch h),kB _ _ n13 e1,vy y⟩,
  Ft (H6 hh (fr a ma)) (H6 hh (fr d md)) (H6 hh (fr lp ml)) (ge b mb) (ge e me) (H6 sz3 hlf) (J0 _) (ge r mr) (H6 sz3 hcd)⟩
 ·exact GW (fun h=>n6.1 (h▸.head _)) (fun h=>n6.1 (h▸.tail _ (.head _))) (fun h=>(Hu.mp n6.2).1 (h▸.head _)) n12 n13 n23 (cnot r mr) (cnot b mb) (cnot e me) hne (fr a ma) (fr d md) (fr lp ml) (Hr q1) (Hr q2) hlf hcd (lt3 b mb) (lt3 e me) (lt3 r mr) cl sz
 ·rw[List.find?_append,g1]
  simp[Ka]
end
end
section
section
variable{gt:List (Str×Value)}{K:List (Addr×Obj)}{pins:List (Str×Addr)}{w:World}{A:Around}{env:Env}
inductive jm(gt:List (Str×Value))(K:List (Addr×Obj))(pins:List (Str×Addr))(w:World)(A:Around)(env:Env)(test:Expr)(body:List Stmt): Nat→List (Str×PV)→Fl→List (Str×PV)→Prop
 |done{locs:List (Str×PV)}: Tr gt K w A env locs test false→jm gt K pins w A env test body 0 locs .next locs
 |step{n:Nat}{locs locs1 locs2:List (Str×PV)}{fl:Fl}: Tr gt K w A env locs test true→Ex gt K pins w A env (execs body env) locs .next locs1→jm gt K pins w A env test body n locs1 fl locs2→jm gt K pins w A env test body (n+1) locs fl locs2
 |ret{locs locs1:List (Str×PV)}{p:PV}: Tr gt K w A env locs test true→Ex gt K pins w A env (execs body env) locs (.ret p) locs1→jm gt K pins w A env test body 0 locs (.ret p) locs1
inductive H1(gt:List (Str×Value))(K:List (Addr×Obj))(pins:List (Str×Addr))(w:World)(A:Around)(env:Env)(test:Expr)(body:List Stmt)(fl:Fl)(locs' locs:List (Str×PV))(s:Shared)(Fs:List (List Addr))(k:Nat)(s1:Shared): Prop
 |mk(locs1:List (Str×PV))(Fs1:List (List Addr))(hl:jm gt K pins w A env test body k locs1 fl locs')(k1:aG (ow env locs Fs) s s1)(I:bw gt K pins env locs1 Fs1 s1)(o:∀ b∈ow env locs1 Fs1,b∈ow env locs Fs∨s.heap.objs.size≤b)
theorem qK{test:Expr}{body:List Stmt}{n:Nat}{pos:Pos}{fl:Fl}{locs locs':List (Str×PV)}(hl:jm gt K pins w A env test body n locs fl locs'): Ex gt K pins w A env (exec (.While test body [] pos) env) locs fl locs':=.mk fun s Fs I=>by
 refine wpAny_While ?_
 refine codeAny_whileLoop (H1 gt K pins w A env test body fl locs' locs s Fs) ?_ n
  ⟨locs,Fs,hl,.refl _ _,I,fun b hb=>.inl hb⟩
 clear hl
 rintro k s1 ⟨locs1,Fs1,hl1,k1,I1,o1⟩
 have fin:∀{fl1:Fl} {locs2 locs3:List (Str×PV)} {Fs3:List (List Addr)} {s3:Shared} {f:Flow} {s4:Shared},aG (ow env locs Fs) s s3→(∀ b∈ow env locs2 Fs3,b∈ow env locs Fs∨s.heap.objs.size≤b)→gm gt K pins env locs2 fl1 locs3 s3 Fs3 f s4→
   gm gt K pins env locs fl1 locs3 s Fs f s4:=by
  intro fl1 locs2 locs3 Fs3 s3 f s4 k03 o3 ⟨k4,e4,Fs4,I4,o4⟩
  exact⟨k03.comp k4 o3,e4.comp k03.heap.size o3,Fs4,I4,fun b hb=>(o4 b hb).elim (o3 b) fun h=>.inr (H6 k03.heap.size h)⟩
 induction hl1 using jm.casesOn with
 |done ht=>
  refine Hf (ht.run s1 Fs1 I1.g I1.er) (fun c s2 hh=>?_) fun _ _ e=>e.elim
  obtain⟨ec,k2⟩:=hh
  subst ec
  skip
  exact JW ⟨k1.trans k2.all,rfl,Fs1,I1.step0 k2,o1⟩
 | @step n1 _ locs2 _ _ ht hb hl2=>
  refine Hf (ht.run s1 Fs1 I1.g I1.er) (fun c s2 hh=>?_) fun _ _ e=>e.elim
  obtain⟨ec,k2⟩:=hh
  subst ec
  skip
  refine Hf (hb.run s2 Fs1 (I1.step0 k2)) (fun f s4 h4=>?_) fun _ _ e=>e.elim
  obtain⟨k4,e4,Fs4,I4,o4⟩:=fin (k1.trans k2.all) o1 h4
  cases e4
  exact⟨n1,HV _,locs2,Fs4,hl2,k4,I4,o4⟩
 |ret ht hb=>
  refine Hf (ht.run s1 Fs1 I1.g I1.er) (fun c s2 hh=>?_) fun _ _ e=>e.elim
  obtain⟨ec,k2⟩:=hh
  subst ec
  skip
  refine Hf (hb.run s2 Fs1 (I1.step0 k2)) (fun f s4 h4=>?_) fun _ _ e=>e.elim
  obtain⟨k4,e4,Fs4,I4,o4⟩:=fin (k1.trans k2.all) o1 h4
  obtain⟨v',F,rfl,z⟩:=e4
  exact⟨k4,⟨v',F,rfl,z⟩,Fs4,I4,o4⟩
end
section
variable{gt:List (Str×Value)}{K:List (Addr×Obj)}{w:World}{A:Around}
theorem A3:∀{xo:List Str} {vo:List Value},xo.length=vo.length→(∀ v∈vo,∃ a,v=.ref a)→∃ as:List Addr,as.length=xo.length∧vo=as.map .ref:=by
 intro l1
 induction l1 with
 |nil=>
  intro l2
  cases l2 with
  |nil=>
   rintro _ _
   exact⟨[],rfl,rfl⟩
  |cons=>intro z0 z1;first | exact HY z0 | exact nomatch z0 | exact HY z1 | exact nomatch z1
 |cons x xo ih=>
  intro l2
  cases l2 with
  |nil=>intro z0 z1;first | exact HY z0 | exact nomatch z0 | exact HY z1 | exact nomatch z1
  |cons v vo=>
   rintro h hr
   obtain⟨a,rfl⟩:=hr v (.head _)
   obtain⟨as,h1,rfl⟩:=ih (by simpa using h) fun v hv=>hr v (.tail _ hv)
   exact⟨a::as,by simp[h1],rfl⟩
theorem tZ{f:Addr}{xf xo:List Str}{body:List Stmt}{sc:Scope}{fd:Hy}(D:gR K f (xf++xo) body sc fd){n:Nat}(ro:Ro A (n+1))(hself:∀ x∈xo,sc.names.lookup x=some .local){fl own own':List PV}{r:PV}
  (hlf:xf.length=fl.length) (hlo:xo.length=own.length) (hlo':xo.length=own'.length) (hfl:PV.flat.go fl=true) (hr:r.flat=true) (hown:∀ p∈own,p.isOwn=true) (hown':∀ p∈own',p.isOwn=true) (hnf:∀ p∈fl,p.isOwn=false) (href:∀ p∈own,∀ h v F,VR h p v F→∃ a,v=.ref a)
  (hbind:∀ h vs,G gt K h→vs.length=(xf++xo).length→Looks (model pw w) h (J4 fd ⟨vs,[]⟩) ((xf++xo).zip vs)) {fw:Fl} (hflr:fw=.ret r∨(fw=.next∧r=.none))
  (hb:∀ L (as:List Addr),as.length=xo.length→Ro (A.deeper (ah f fd L)) n→∃ locs',Ex gt K (xo.zip as) w (A.deeper (ah f fd L)) (ah f fd L) (execs body (ah f fd L)) ((xf++xo).zip (fl++own)) fw locs'∧∀ q∈xo.zip own',locs'.lookup q.1=some q.2):jo gt K w A f fl own r own':=.mk fun s bY cc F g z1 z2 nF hF=>by
 obtain l1:bY.length=fl.length:=z1.length
 obtain l2:cc.length=own.length:=z2.length
 have hrs:∀ v∈cc,∃ a,v=.ref a:=by
  intro v hv
  obtain this:∀{ps:List PV} {vs:List Value} {F:List Addr},bf s.heap ps vs F→(∀ p∈ps,∀ h v F,VR h p v F→∃ a,v=.ref a)→v∈vs→∃ a,v=.ref a:=by
   intro ps
   induction ps with
   |nil=>intro vs F z _ hm;cases z;cases hm
   |cons p ps ih=>
    intro vs F z hp hm
    cases z with
    |cons a b=>
     rcases Ha.mp hm with rfl | hm
     ·exact hp p (.head _) _ _ _ a
     ·exact ih b (fun q hq=>hp q (.tail _ hq)) hm
  exact this z2 href hv
 obtain⟨as,la,rfl⟩:=A3 (by rw[l2,hlo]) hrs
 obtain⟨locs',hx,hlk⟩:=hb s.heap.objs.size as la (ro.deeper _)
 obtain hv:bf s.heap (fl++own) (bY++as.map .ref) ([]++F):=z1.app z2
 skip
 obtain nd:=D.nodup
 rw[Hn]at nd
 have hz:xo.zip (as.map KB)=(xo.zip as).map fun q=>(q.1,KB q.2):=by
  rw[List.zip_map_right];rfl
 refine fH D ro (by simp only[He];omega) (hbind _ _ g (by simp only[He,Hl];omega)) g hv nF (W:=F) (pins:=xo.zip as) hF (fun Fs e b hb=>?_) (fun q hq=>?_) fun h1 tk Fs k1 I1 eF o1=>?_
 ·obtain this:=cT hb
  rw[e]at this
  exact this
 ·refine⟨?_,hself q.1 (JX hq).1⟩
  rw[List.zip_append (by omega)]
  refine Hb _ ?_
  rw[hz]
  exact Hm.mpr ⟨q,hq,rfl⟩
 ·obtain kA:aG [] s { s with heap:=h1,toks:=tk }:=⟨k1,fun _ _ e=>e,id,rfl⟩
  refine Pw.andThen (hx.run _ Fs I1) fun fw' s2 hh=>?_
  obtain⟨k2,e2,Fs2,I2,o2⟩:=hh
  have k:aG F s s2:=(kA.all).comp k2 o1
  obtain sub:∀ b∈ow (ah f fd s.heap.objs.size) locs' Fs2,b∈F∨s.heap.objs.size≤b:=fun b hb=>(o2 b hb).elim (o1 b) fun h=>.inr (H6 k1.size h)
  obtain⟨vs',F',Fs3,zs,nF',as',_,_,_,p1,_⟩:=I2.takes (xs:=xo) (ps:=own') nd.2.1 hlo' hlk
  obtain hvs:vs'=as.map KB:=by
   refine(w6 (xs:=xo) (by simp[la]) (by rw[zs.length,←hlo']) (fun q hq=>?_) as').symm
   rw[hz]at hq
   obtain⟨q',hq',rfl⟩:=Hm.mp hq
   obtain⟨m,nn,e,kd⟩:=I2.pin _ hq'
   exact⟨m,nn,.inl ⟨kd,e⟩⟩
  subst hvs
  have fin:∀ u,VR s2.heap r u []→BS s r own' (as.map .ref) F u s2:=fun u zu=>⟨k,[],F',zu,zs,by simpa using nF',fun b hb=>sub b (p1 hown' b (by simpa using hb))⟩
  rcases hflr with rfl | ⟨rfl,rfl⟩
  ·obtain⟨v,H,rfl,zu,hH⟩:=e2
   obtain rfl:=zu.flat hr
   exact fin v zu
  ·cases e2
   exact fin _ .none
end
end
section
noncomputable abbrev cR(L:Addr): Env:=ah 300 u6 L
noncomputable abbrev jj:List Stmt:=aF (aO 73)
noncomputable abbrev aw:Str:=H5 "lexer"
noncomputable abbrev aL:Str:=H5 "book"
noncomputable abbrev kh:Str:=H5 "name"
noncomputable abbrev fb:Str:=H5 "word"
noncomputable abbrev tc:Stmt:=(jj[2]?).getD (.Pass default)
noncomputable def rd(s:Stmt): List Stmt:=aF s
noncomputable def oa(s:Stmt): Expr:=Bm s
inductive dx:List (Str×Str)→Str→List Nat→Int→List (Str×Str)→List Nat→Int→Prop
 |done{items:List (Str×Str)}{rest:List Nat}{ln:Int}: dx items (H5 "") rest ln items rest ln
 |keep{items items':List (Str×Str)}{name:Str}{rest rest':List Nat}{ln ln':Int}: (name != H5 "")=true→rest.length≤10000→(an rest ln).rest.length≤10000→(an rest ln).tok.length≤500→dI (aC (an rest ln).tok)=true→items.length≤1000→(∀ p∈items,mK p.1)→mK name→Prn (Hd name)→Prn name→Prn (an rest ln).tok→
   dx (cX items name (an rest ln).tok).2 (an (an rest ln).rest (an rest ln).ln).tok (an (an rest ln).rest (an rest ln).ln).rest (an (an rest ln).rest (an rest ln).ln).ln items' rest' ln'→dx items name rest ln items' rest' ln'
 |skip{items items':List (Str×Str)}{name:Str}{rest rest':List Nat}{ln ln':Int}: (name != H5 "")=true→rest.length≤10000→(an rest ln).rest.length≤10000→(an rest ln).tok.length≤500→dI (aC (an rest ln).tok)=false→
   dx items (an (an rest ln).rest (an rest ln).ln).tok (an (an rest ln).rest (an rest ln).ln).rest (an (an rest ln).rest (an rest ln).ln).ln items' rest' ln'→dx items name rest ln items' rest' ln'
noncomputable abbrev t6(rest:List Nat)(ln:Int)(items:List (Str×Str))(name word:Str): List (Str×PV):=[(aw,.lex [] rest ln),(aL,.hdr items),(kh,.str name),(fb,.str word)]
noncomputable abbrev yY(rest:List Nat)(ln:Int)(items:List (Str×Str))(name:Str): List (Str×PV):=[(aw,.lex [] rest ln),(aL,.hdr items),(kh,.str name)]
section
variable{w:World}{A:Around}{L a:Addr}
theorem BF{l:List (Str×Str)}: cM aa (ac w) w (.hdr l) (H5 "setdefault") 248:=da (by decide +kernel) (by kernel_rfl) (by kernel_rfl)
theorem oN{l:List (Str×Str)}: cM aa (ac w) w (.hdr l) (H5 "get") 205:=da (by decide +kernel) (by kernel_rfl) (by kernel_rfl)
theorem xL{l:List (Str×Str)}: cM aa (ac w) w (.hdr l) (H5 "items") 222:=da (by decide +kernel) (by kernel_rfl) (by kernel_rfl)
theorem wg{locs:List (Str×PV)}{name:Str}(hl:locs.lookup kh=some (.str name)): Tr aa (ac w) w A (cR L) locs (oa tc) (name != H5 ""):=by
 show Tr _ _ _ _ _ _ (.Compare _ _ _ _) _
 walk_at "tr"
theorem rY{x:Str}{rest:List Nat}{ln:Int}{locs:List (Str×PV)}{cp apos np cpos pos:Pos}{pl:Sem Bool}(hx:x≠aw)(hk:aJ (cR L) x)(hl:locs.lookup aw=some (.lex [] rest ln))(hz:rest.length≤10000)(ro:Ro A 6)
  (hev:eval (.Call (.Attribute (.Name aw np) Co apos) [] [] cpos) (cR L)=(do
   let ov ←eval (.Name aw np) (cR L)
   standAt apos.atName
   let(f,first) ←holding [ov] (JI ov Co pl)
   IU cpos f first (backTo cpos (Hg [] (cR L))) [])):
  Ex aa (ac w) [(aw,a)] w A (cR L) (exec (.Assign [.Name x cp] (.Call (.Attribute (.Name aw np) Co apos) [] [] cpos) pos) (cR L)) locs .next (ab x (.str (an rest ln).tok) (ab aw (.lex [] (an rest ln).rest (an rest ln).ln) locs)):=
 bB (ae _) (by simpa using hx) (i5 (p:=.lex [] rest ln) (ae _) hl rfl rfl (by kernel_rfl) (by kernel_rfl) xM (bb (m8.up (ag _))) (Er w A rest ln hz ro) hev) (Bind.same rfl) hk rfl
theorem kE{rest:List Nat}{ln:Int}{items items':List (Str×Str)}{name:Str}{locs:List (Str×PV)}(ro:Ro A 12)(hl:locs=yY rest ln items name∨∃ q,locs=t6 rest ln items name q)(hz:rest.length≤10000)(hz2:(an rest ln).rest.length≤10000)(ht:(an rest ln).tok.length≤500)
  (h:dI (aC (an rest ln).tok)=true∧items'=(cX items name (an rest ln).tok).2∧items.length≤1000∧(∀ p∈items,mK p.1)∧mK name∧Prn (Hd name)∧Prn name∧Prn (an rest ln).tok∨dI (aC (an rest ln).tok)=false∧items'=items):
  Ex aa (ac w) [(aw,a)] w A (cR L) (execs (rd tc) (cR L)) locs .next (t6 (an (an rest ln).rest (an rest ln).ln).rest (an (an rest ln).rest (an rest ln).ln).ln items' (an (an rest ln).rest (an rest ln).ln).tok (an rest ln).tok):=by
 have e1:ab fb (.str (an rest ln).tok) (ab aw (.lex [] (an rest ln).rest (an rest ln).ln) locs)=t6 (an rest ln).rest (an rest ln).ln items name (an rest ln).tok:=by
  rcases hl with rfl | ⟨q,rfl⟩ <;> kernel_rfl
 refine af (rY (x:=fb) (rest:=rest) (ln:=ln) (by decide +kernel) (.inl (by kernel_rfl)) (by rcases hl with rfl | ⟨q,rfl⟩ <;> walk_at "lk") hz (ro.le (by omega)) rfl) ?_
 rw[e1]
 obtain hc:=(x7 w A (an rest ln).tok ht ro).up (ag w)
 refine af (locs':=t6 (an rest ln).rest (an rest ln).ln items' name (an rest ln).tok) ?_ ?_
 ·rcases h with⟨hb,rfl,h1,h2,h3,h4,h5,h6⟩ | ⟨hb,rfl⟩
  ·refine cE (c:=dI (aC (an rest ln).tok)) ?_ hb ?_
   ·walk_at "tr"
   ·refine am (locs1:=ab aL (.hdr (cX items name (an rest ln).tok).2) (t6 (an rest ln).rest (an rest ln).ln items name (an rest ln).tok)) ?_ (by kernel_rfl) ?_
    ·refine af (bU (cV (fa:=true&&(true&&true)) (p:=.hdr items) (rs:=[.str name,.str (an rest ln).tok]) (ae _) ?_ rfl rfl rfl (by kernel_rfl) (by kernel_rfl) BF (bb (pd.up (ag _))) ?_ (Bt w A items name _ h1 h2 h3 h4 h5 h6 (ro.le (by omega))) rfl rfl rfl) rfl rfl) aq
     ·walk_at "lk"
     ·walk_at "evs"
    ·walk_at "looks"
  ·refine c7 (c:=dI (aC (an rest ln).tok)) ?_ hb aq
   walk_at "tr"
 ·refine am (locs1:=ab kh (.str (an (an rest ln).rest (an rest ln).ln).tok) (ab aw (.lex [] (an (an rest ln).rest (an rest ln).ln).rest (an (an rest ln).rest (an rest ln).ln).ln) (t6 (an rest ln).rest (an rest ln).ln items' name (an rest ln).tok))) ?_ (by kernel_rfl) ?_
  ·refine af (rY (x:=kh) (rest:=(an rest ln).rest) (ln:=(an rest ln).ln) (by decide +kernel) (.inl (by kernel_rfl)) ?_ hz2 (ro.le (by omega)) rfl) aq
   walk_at "lk"
  ·walk_at "looks"
theorem Ad(ro:Ro A 12){items items':List (Str×Str)}{name:Str}{rest rest':List Nat}{ln ln':Int}(h:dx items name rest ln items' rest' ln'): ∀(locs:List (Str×PV)),(locs=yY rest ln items name∨∃ q,locs=t6 rest ln items name q)→
  ∃ n locs',jm aa (ac w) [(aw,a)] w A (cR L) (oa tc) (rd tc) n locs .next locs'∧locs'.lookup aw=some (.lex [] rest' ln')∧locs'.lookup aL=some (.hdr items'):=by
 induction h with
 | @done items rest ln=>
  intro locs hl
  refine⟨0,locs,.done ?_,?_,?_⟩
  ·refine wg (name:=H5 "") ?_
   rcases hl with rfl | ⟨q,rfl⟩ <;> walk_at "lk"
  ·rcases hl with rfl | ⟨q,rfl⟩ <;> walk_at "lk"
  ·rcases hl with rfl | ⟨q,rfl⟩ <;> walk_at "lk"
 | @keep items items' name rest rest' ln ln' h1 h2 h3 h4 h5 h6 h7 h8 h9 h10 h11 _ ih=>
  intro locs hl
  obtain⟨n,locs',h,r⟩:=ih _ (.inr ⟨_,rfl⟩)
  refine⟨n+1,locs',.step ?_ (kE ro hl h2 h3 h4 (.inl ⟨h5,rfl,h6,h7,h8,h9,h10,h11⟩)) h,r⟩
  rw[←h1]
  refine wg (name:=name) ?_
  rcases hl with rfl | ⟨q,rfl⟩ <;> walk_at "lk"
 | @skip items items' name rest rest' ln ln' h1 h2 h3 h4 h5 _ ih=>
  intro locs hl
  obtain⟨n,locs',h,r⟩:=ih _ (.inr ⟨_,rfl⟩)
  refine⟨n+1,locs',.step ?_ (kE ro hl h2 h3 h4 (.inr ⟨h5,rfl⟩)) h,r⟩
  rw[←h1]
  refine wg (name:=name) ?_
  rcases hl with rfl | ⟨q,rfl⟩ <;> walk_at "lk"
end
end
section
section
variable{gt:List (Str×Value)}{K:List (Addr×Obj)}{pins:List (Str×Addr)}{w:World}{A:Around}{env:Env}
inductive pB(gt:List (Str×Value))(K:List (Addr×Obj))(pins:List (Str×Addr))(w:World)(A:Around)(env:Env): List Stmt→List (Str×PV)→List (Str×PV)→Prop
 |nil{locs:List (Str×PV)}: pB gt K pins w A env [] locs locs
 |cons{st:Stmt}{l:List Stmt}{locs locs1 locs2:List (Str×PV)}: Ex gt K pins w A env (exec st env) locs .next locs1→pB gt K pins w A env l locs1 locs2→pB gt K pins w A env (st::l) locs locs2
theorem pB.run{l:List Stmt}{locs locs':List (Str×PV)}(h:pB gt K pins w A env l locs locs'): ∀{r:List Stmt} {s:Shared} {Fs:List (List Addr)} {Q:Flow→Shared→Prop},bw gt K pins env locs Fs s→
  (∀ s2 Fs2,aG (ow env locs Fs) s s2→bw gt K pins env locs' Fs2 s2→(∀ b∈ow env locs' Fs2,b∈ow env locs Fs∨s.heap.objs.size≤b)→wpAny (model pw w) A (execs r env) Q (fun _ _=>False) s2)→wpAny (model pw w) A (execs (l++r) env) Q (fun _ _=>False) s:=by
 induction h with
 |nil=>intro r s Fs Q I k;exact k s Fs (.refl _ _) I fun b hb=>.inl hb
 |cons h1 h2 ih=>
  intro r s Fs Q I k
  refine HE (Pw.andThen (h1.run s Fs I) fun f s1 hh=>?_)
  obtain⟨k1,e1,Fs1,I1,o1⟩:=hh
  cases e1
  exact ih I1 fun s2 Fs2 k2 I2 o2=>k s2 Fs2 (k1.comp k2 o1) I2 fun b hb=>(o2 b hb).elim (o1 b) fun h=>.inr (H6 k1.heap.size h)
end
section
variable{w:World}{A:Around}
theorem D7{L a:Addr}{rest:List Nat}{ln:Int}(ro:Ro A 5): Ex aa (ac w) [(aw,a)] w A (cR L) (exec ((jj[0]?).getD (.Pass default)) (cR L)) ([aw].zip [PV.lex [] rest ln]) .next [(aw,.lex [] rest ln),(aL,.hdr [])]:=by
 refine am (locs1:=ab aL (.hdr []) ([aw].zip [PV.lex [] rest ln])) ?_ (by kernel_rfl) ?_
 ·exact bB (p:=.hdr []) (ae _) (by simp;decide +kernel) (ft (ue (by kernel_rfl) ro)) .hdr (.inl (by kernel_rfl)) rfl
 ·walk_at "looks"
theorem D6{L a:Addr}{rest:List Nat}{ln:Int}(ro:Ro A 6)(hz:rest.length≤10000): Ex aa (ac w) [(aw,a)] w A (cR L) (exec ((jj[1]?).getD (.Pass default)) (cR L)) [(aw,.lex [] rest ln),(aL,.hdr [])] .next (yY (an rest ln).rest (an rest ln).ln [] (an rest ln).tok):=by
 refine am (locs1:=ab kh (.str (an rest ln).tok) (ab aw (.lex [] (an rest ln).rest (an rest ln).ln) [(aw,.lex [] rest ln),(aL,.hdr [])])) ?_ (by kernel_rfl) ?_
 ·refine rY (x:=kh) (rest:=rest) (ln:=ln) (by decide +kernel) (.inl (by kernel_rfl)) ?_ hz ro rfl
  walk_at "lk"
 ·walk_at "looks"
theorem Eu{rest rest':List Nat}{ln ln':Int}{items':List (Str×Str)}(ro:Ro A 13)(hz:rest.length≤10000)(h:dx [] (an rest ln).tok (an rest ln).rest (an rest ln).ln items' rest' ln'): jo aa (ac w) w A 300 [] [.lex [] rest ln] (.hdr items') [.lex [] rest' ln']:=.mk fun s bY cc F g z1 z2 nF hF=>by
 obtain rfl:=dK z1
 obtain⟨v1,r1,F1,F2,rfl,rfl,zl,zs⟩:=bA z2
 obtain rfl:=dK zs
 obtain⟨a,rfl⟩:=fU _ _ _ zl
 obtain hL:=fun A' (ro':Ro A' 12) L=>Ad (w:=w) (A:=A') (L:=L) (a:=a) ro' h _ (.inl rfl)
 refine fH (sI.toS.up (ag w)) ro (args:=[.lex [] rest ln]) rfl (HD (sI.bind [.ref a] rfl)) g z2 nF (W:=F1++F2) (pins:=[(aw,a)]) hF (fun Fs e b hb=>?_) (fun q hq=>?_) fun h1 tk Fs k1 I1 eF o1=>?_
 ·obtain this:=cT hb
  rw[e]at this
  exact this
 ·rw[H7.mp hq]
  exact⟨.head _,by kernel_rfl⟩
 ·obtain roD:=ro.deeper (ah 300 u6 s.heap.objs.size)
  obtain⟨n,locs',hW,hl1,hl2⟩:=hL _ roD s.heap.objs.size
  obtain kA:aG [] s { s with heap:=h1,toks:=tk }:=⟨k1,fun _ _ e=>e,id,rfl⟩
  obtain h3:pB aa (ac w) [(aw,a)] w (A.deeper (ah 300 u6 s.heap.objs.size)) (cR s.heap.objs.size) (jj.take 3) ([aw].zip [PV.lex [] rest ln]) locs':=
   .cons (D7 (roD.le (by omega))) (.cons (D6 (roD.le (by omega)) hz) (.cons (qK hW) .nil))
  refine h3.run (r:=jj.drop 3) I1 fun s2 Fs2 k2 I2 o2=>?_
  obtain k:aG (F1++F2) s s2:=(kA.all).comp k2 o1
  obtain sub:∀ b∈ow (cR s.heap.objs.size) locs' Fs2,b∈F1++F2∨s.heap.objs.size≤b:=fun b hb=>(o2 b hb).elim (o1 b) fun h=>.inr (H6 k1.size h)
  obtain⟨vs',F',Fs3,zs',nF',as',_,_,_,p1,_⟩:=I2.takes (xs:=[aL,aw]) (ps:=[.hdr items',.lex [] rest' ln']) (by decide +kernel) rfl (fun q hq=>by
   rcases bN hq with rfl | rfl
   ·exact hl2
   ·exact hl1)
  obtain p1:=p1 (fun p hp=>by
   rcases bN hp with rfl | rfl <;> rfl)
  have hh:=bA zs';clear zs';obtain⟨vb,r1,G1,G2,rfl,rfl,zb,zs'⟩:=hh
  obtain⟨vl,r2,G3,G4,rfl,rfl,zl',zs2⟩:=bA zs'
  obtain rfl:=dK zs2
  obtain aB:=as' (aL,vb) (.head _)
  obtain rfl:=dU I2 (.head _) (as' (aw,vl) (.tail _ (.head _)))
  refine HE (Jf (aD I2.er aB (by kernel_rfl) (by kernel_rfl) ?_))
  exact⟨k,G1,G3++G4,zb,zs',nF',fun b hb=>sub b (p1 b hb)⟩
end
end
section
section
variable{gt:List (Str×Value)}{K:List (Addr×Obj)}{w:World}{A:Around}{env:Env}{locs:List (Str×PV)}{T:Type}[DecidableEq T]
theorem rL{kvs:List (T×Value)}: ∀{acc:List (T×Value)},((acc++kvs).map (·.1)).Nodup→merged acc kvs=acc++kvs:=by
 induction kvs with
 |nil=>intro acc _;simp[merged]
 |cons kv kvs ih=>
  intro acc h
  obtain hs:stored acc kv.1 kv.2=acc++[kv]:=by
   unfold stored
   rw[if_neg]
   intro ha
   obtain⟨x,hx,he⟩:=Mb.mp ha
   simp only[decide_eq_true_eq]at he
   rw[HW,Hn]at h
   exact h.2.2 x.1 (Hm.mpr ⟨x,hx,rfl⟩) kv.1 (by simp) he
  show merged (stored acc kv.1 kv.2) kvs=_
  rw[hs,ih (by simpa using h)]
  simp
structure kQ(knd:KeyKind pw w T)(gt:List (Str×Value))(K:List (Addr×Obj))(A:Around)(env:Env)(locs:List (Str×PV))(keys:List (Option Expr))(values:List Expr)(ks:List T)(ps:List PV): Prop where
 len:ks.length=ps.length
 run:∀ s Fs pos,G gt K s.heap→dO s.heap env locs Fs→wpAny (model pw w) A (evalPairs (pairTrees keys values env pos)) (fun vs s'=>aG [] s s'∧∃ us,Carries knd vs (ks.zip us)∧bf s'.heap ps us []) (fun _ _=>False) s
theorem kQ.nil{knd:KeyKind pw w T}: kQ knd gt K A env locs [] [] [] []:=⟨rfl,fun s Fs pos g z=>pairTrees_nil_walk ⟨.refl _ _,[],trivial,.nil⟩⟩
theorem kQ.cons{knd:KeyKind pw w T}{ke e:Expr}{kes:List (Option Expr)}{es:List Expr}{k:T}{p:PV}{ks:List T}{ps:List PV}{f:Bool}(hk:∀ s,wpAny (model pw w) A (eval ke env) (fun v s'=>aG [] s s'∧knd.is k v=true) (fun _ _=>False) s)(he:Ev gt K w A env locs e p f)(hp:p.flat=true)(h:kQ knd gt K A env locs kes es ks ps):
  kQ knd gt K A env locs (some ke::kes) (e::es) (k::ks) (p::ps):=⟨by simp[h.len],fun s Fs pos g z=>pairTrees_cons_walk (Pw.andThen (hk s) fun v s1 ⟨k1,hv⟩=>Pw.andThen (he.run s1 Fs (g.kept0 k1.heap) (z.kept0 k1.heap)) fun u s2 hh=>by
 obtain⟨k2,F,zu,_⟩:=hh
 obtain k12:=k1.trans k2
 refine Pw.andThen (h.run s2 Fs pos (g.kept0 k12.heap) (z.kept0 k12.heap)) fun r s3 hh=>?_
 obtain⟨k3,us,hc,zs⟩:=hh
 obtain rfl:=zu.flat hp
 exact⟨k12.trans k3,u::us,⟨hv,rfl,hc⟩,.cons (F:=[]) (zu.kept0 k3.heap) zs⟩)⟩
theorem g4{x:Str}{k:Nat}{pos:Pos}(s:Shared): wpAny (model pw w) A (eval (.Constant (.str x) k pos) env) (fun v s'=>aG [] s s'∧(IE pw w).is x v=true) (fun _ _=>False) s:=
 Constant_str ⟨aG.ofToks,by simp[IE,Jb]⟩
theorem oM{x:Int}{k:Nat}{pos:Pos}(s:Shared): wpAny (model pw w) A (eval (.Constant (.int x) k pos) env) (fun v s'=>aG [] s s'∧(Ks pw w).is x v=true) (fun _ _=>False) s:=
 wpAny_Constant_int ⟨aG.ofToks,by simp[Ks,Value.isInt]⟩
noncomputable def dl(w:World)(ks:List Str)(ps:List PV): List (Str×Int×PV):=(ks.zip ps).map fun q=>(q.1,hashStr w q.1,q.2)
theorem Dj{h:Heap}: ∀{ks:List Str} {ps:List PV} {us:List Value} {es:List HP},ks.length=ps.length→bf h ps us []→PySem.Pairs (IE pw w) es (ks.zip us)→(∀ e∈es,∃ k,(IE pw w).is k e.key=true∧e.hash=(IE pw w).hash k)→eG h (dl w ks ps) es []:=by
 intro ks
 induction ks with
 |nil=>
  intro _ us es hl z hp _
  simp only[List.zip_nil_left]at hp
  cases hp
  exact .nil
 |cons k ks ih=>
  intro ps us es hl z hp hk
  cases ps with
  |nil=>cases hl
  |cons p ps=>
   obtain⟨u,us,F1,F2,rfl,e12,zu,zs⟩:=bA z
   obtain h1:F1=[]∧F2=[]:=by simpa using e12.symm
   obtain⟨rfl,rfl⟩:=h1
   simp only[Kw]at hp
   cases hp with
   | @cons e _ es _ h1 h2 hp=>
    obtain⟨hs,key,val⟩:=e
    obtain⟨k',h3,h4⟩:=hk _ (.head _)
    obtain this:k'=k:=(IE pw w).inj _ _ _ h3 h1
    subst this
    obtain⟨t,rfl⟩:=Value.isStrOf_shape h1
    have h4':hs=hashStr w k':=h4
    have h2':val=u:=h2
    clear h2 h4 h3 h1
    subst h4'
    subst h2'
    exact .cons (F:=[]) (G:=[]) zu (ih (by simpa using hl) zs hp fun e he=>hk e (.tail _ he))
theorem aG.push1{s:Shared}{o:Obj}: aG [] s { s with heap:=s.heap.push o }:=⟨aj.push _ _,fun _ _ e=>e,id,rfl⟩
theorem nJ{knd:KeyKind pw w T}{keys:List (Option Expr)}{values:List Expr}{pos:Pos}{ks:List T}{ps:List PV}(hall:keys.all (·.isSome)=true)(hl:keys.length=values.length)(h0:keys≠[])(hlen:keys.length≤15)(hn:ks.Nodup)(P:kQ knd gt K A env locs keys values ks ps)
  {s:Shared} {Fs:List (List Addr)} (g:G gt K s.heap) (z:dO s.heap env locs Fs):wpAny (model pw w) A (eval (.Dict keys values pos) env) (fun v s'=>v=.ref s.heap.objs.size∧aG [] s s'∧∃ us,bf s'.heap ps us []∧s'.heap.DictOf knd s.heap.objs.size (ks.zip us)) (fun _ _=>False) s:=by
 refine wpAny_Dict_walk (knd:=knd) hall hl h0 hlen (Pw.andThen (P.run _ Fs pos (g.kept0 (aj.push _ _)) (z.kept0 (aj.push _ _))) fun vs s1 ⟨k1,us,hc,zs⟩=>⟨ks.zip us,hc,(Heap.DictOf.new s.heap).at fun o e=>k1.heap.get e,fun h' hd sb=>?_⟩)
 obtain hul:us.length=ks.length:=by rw[zs.length,P.len]
 rw[rL (by simpa[M5,hul]using hn),Iy]at hd
 obtain⟨o0,e0,x0,hdd⟩:∃ o,s1.heap.get? s.heap.objs.size=some o∧o.cls=.type "dict"∧o.data=.dict #[] 0:=⟨_,k1.heap.get (Hk (o:={ cls:=.type "dict",data:=.dict #[] }) s.heap rfl),rfl,rfl⟩
 have kp:aj [s.heap.objs.size] s1.heap h':=aj.same (k1.heap.get (Hk (o:={ cls:=.type "dict",data:=.dict #[] }) s.heap rfl)) rfl sb
 obtain k2:aG [s.heap.objs.size] s1 { s1 with heap:=h',toks:=s1.toks+vs.length }:=⟨kp,fun _ _ e=>e,id,rfl⟩
 obtain k01:aG [] s s1:=aG.push1.trans k1
 exact⟨rfl,k01.comp k2 fun b hb=>.inr (HM (H7.mp hb).symm),us,zs.kept kp fun b hb=>(nomatch hb),hd⟩
theorem oW{keys:List (Option Expr)}{values:List Expr}{pos:Pos}{ks:List Str}{ps:List PV}(P:kQ (IE pw w) gt K A env locs keys values ks ps)(hall:keys.all (·.isSome)=true)(hl:keys.length=values.length)(h0:keys≠[])(hlen:keys.length≤15)(hn:ks.Nodup):
  Ev gt K w A env locs (.Dict keys values pos) (.dct (dl w ks ps)) true:=.mk fun s Fs g z=>
 Pw.andThen (nJ hall hl h0 hlen hn P g z) fun v s' hh=>by
  obtain⟨ev,k,us,zs,hd⟩:=hh
  subst ev
  obtain⟨o,es,ep,e,ex,hdat,hks,hp,_⟩:=hd
  obtain⟨c,d,dt,sl⟩:=o
  obtain⟨rfl,rfl,rfl⟩:=ex
  cases hdat
  refine⟨k,[s.heap.objs.size],.dct (es:=es.toList) (n:=ep) e (Dj P.len zs hp fun q hq=>hks q (by simpa using hq)) (by simp),fun _ b hb=>HM (H7.mp hb).symm⟩
theorem AN{keys:List (Option Expr)}{values:List Expr}{pos dpos:Pos}{ks:List Int}{ps:List PV}{i:Expr}{n:Int}{p:PV}{f:Bool}(P:kQ (Ks pw w) gt K A env locs keys values ks ps)(hall:keys.all (·.isSome)=true)(hl:keys.length=values.length)(h0:keys≠[])(hlen:keys.length≤15)(hn:ks.Nodup)
  (hi:Ev gt K w A env locs i (.int n) f) (hp:(ks.zip ps).lookup n=some p) (hf:p.flat=true) (hs:∀ o j,∃ ops,MF i false o j=operate ops (getItem o j)):Ev gt K w A env locs (.Subscript (.Dict keys values dpos) i pos) p true:=.mk fun s Fs g z=>
 Mn (Pw.andThen (nJ hall hl h0 hlen hn P g z) fun v s1 hh=>by
  obtain⟨ev,k1,us,zs,hd⟩:=hh
  subst ev
  refine Pw.andThen (hi.run s1 Fs (g.kept0 k1.heap) (z.kept0 k1.heap)) fun b s₂ hh=>?_
  obtain⟨k2,F2,v2,_⟩:=hh
  obtain⟨ops,hs⟩:=hs (.ref s.heap.objs.size) b
  cases v2 with
  |int _ t=>
   obtain hd2:s₂.heap.DictOf (Ks pw w) s.heap.objs.size (ks.zip us):=hd.at fun o e=>k2.heap.get e
   obtain hm:=hd2.mapOf
   obtain this:∀{ks:List Int} {ps:List PV} {us:List Value},ks.length=ps.length→bf s₂.heap ps us []→(ks.zip ps).lookup n=some p→∃ v,valueAt (ks.zip us) n=some v∧VR s₂.heap p v []:=by
    intro ks
    induction ks with
    |nil=>intro ps us _ _ h;simp at h
    |cons k ks ih=>
     intro ps us hl z h
     cases ps with
     |nil=>simp at hl
     |cons q ps=>
      obtain⟨u,us,F1,F2,rfl,e12,zu,zs⟩:=bA z
      obtain h1:F1=[]∧F2=[]:=by simpa using e12.symm
      obtain⟨rfl,rfl⟩:=h1
      simp only[Kw,HA]at h
      by_cases hk:n=k
      ·subst hk
       simp only[beq_self_eq_true]at h
       cases h
       exact⟨u,by simp[valueAt],zu⟩
      ·obtain hb:(n==k)=false:=by simpa using hk
       rw[hb]at h
       obtain⟨v,h1,h2⟩:=ih (by simpa using hl) zs h
       refine⟨v,?_,h2⟩
       rw[←h1]
       unfold valueAt
       simp only[Kw,Lc,decide_eq_false (fun e:k=n=>hk e.symm)]
   obtain⟨v,hv,zv⟩:=this P.len (zs.kept0 k2.heap) hp
   exact tail_any hm.typeIs slot_dict_getitem.lookup (wpAny_getItem_of (by simp[Ks,Value.isInt]) hm hv ⟨(k1.trans k2).trans .ofToks,[],zv,fun _ b hb=>nomatch hb⟩) hs)
end
end
section
section
variable{gt:List (Str×Value)}{K:List (Addr×Obj)}{pins:List (Str×Addr)}{w:World}{A:Around}{env:Env}{locs locs1 locs2:List (Str×PV)}
theorem eD{x:Str}{np pos:Pos}{e:Expr}{f:Value}{p r:PV}{ff:Bool}(hf:Ev gt K w A env locs (.Name x np) (.val f) ff)(hc:eS K f)(he:jp gt K pins w A env (eval e env) locs p locs1)(hp:p.flat=true)(ho:au gt K w A f [p] r true)(hst:Hg [e] env=(false,eval e env)::Hg [] env):
  jp gt K pins w A env (eval (.Call (.Name x np) [e] [] pos) env) locs r locs1:=.mk fun s Fs I=>
 It (Pw.andThen (hf.run s Fs I.g I.er) fun v s₁ hh=>by
  obtain⟨k1,F1,v1,_⟩:=hh
  cases v1
  obtain h:=(cq.cons he hp (cq.names bv.nil) hst).run s₁ Fs pos (I.step0 k1)
  show wpAny _ _ (IU pos f [] (backTo pos (Hg [e] env)) []) _ _ _
  rw[hst]at h ⊢
  refine Ik (P:=G gt K) rfl (fun h' g'=>bK hc g') (HZ (Pw.andThen h fun vs s₂ hh=>?_))
  obtain⟨bY,cc,Fs2,ev,k2,z1,I2,o2,hn,hq⟩:=hh
  obtain rfl:cc=[]:=JJ.mp hn
  rw[Hj]at ev
  subst ev
  refine⟨I2.g,Pw.andThen (ho.run s₂ vs [] I2.g z1 .nil) fun u s3 hh=>?_⟩
  obtain⟨k3,F3,zu,fr3⟩:=hh
  obtain fr3:=fr3 rfl
  obtain k12:aG (ow env locs Fs) s s₂:=k1.all.trans k2
  exact⟨k12.trans k3.all,F3,Fs2,zu,fun b hb=>.inr (H6 k12.heap.size (fr3 b hb)),I2.step0 k3,fun b hb hm=>absurd (I2.lt b hm) (Hz.mpr (fr3 b hb)),fun b hb=>(o2 b hb).imp id (H6 k1.heap.size)⟩)
theorem oV{l r:Expr}{op:Operator}{pos:Pos}{p q z:PV}(h1:jp gt K pins w A env (eval l env) locs p locs1)(h2:jp gt K pins w A env (eval r env) locs1 q locs2)(hp:p.flat=true)(hq:q.flat=true)(ho:fi w A op p q z true):
  jp gt K pins w A env (eval (.BinOp l op r pos) env) locs z locs2:=.mk fun s Fs I=>
 wpAny_BinOp (Pw.andThen (h1.run s Fs I) fun a s₁ ⟨k1,F1,Fs1,v1,fr1,I1,d1,o1⟩=>Pw.andThen (h2.run s₁ Fs1 I1) fun b s₂ hh=>by
  obtain⟨k2,F2,Fs2,v2,fr2,I2,d2,o2⟩:=hh
  obtain rfl:=v1.flat hp
  obtain rfl:=v2.flat hq
  have k12:=k1.comp k2 o1
  refine Pw.andThen (ho.run s₂ a b [] [] (v1.kept k2.heap fun b hb=>(nomatch hb)) v2) fun c s₃ hh=>?_
  obtain⟨k3,F3,v3,fr3⟩:=hh
  obtain fr3:=fr3 rfl
  exact⟨k12.trans k3.all,F3,Fs2,v3,fun b hb=>.inr (H6 k12.heap.size (fr3 b hb)),I2.step0 k3,fun b hb hm=>absurd (I2.lt b hm) (Hz.mpr (fr3 b hb)),fun b hb=>(o2 b hb).elim (o1 b) fun h=>.inr (H6 k1.heap.size h)⟩)
structure vU(gt:List (Str×Value))(K:List (Addr×Obj))(pins:List (Str×Addr))(w:World)(A:Around)(env:Env)(locs:List (Str×PV))(es:List Expr)(rs:List PV)(locs':List (Str×PV)): Prop where
 run:∀ s Fs pos,bw gt K pins env locs Fs s→wpAny (model pw w) A (spliced (backTo pos (Hg es env))) (fun vs s'=>∃ Fs',aG (ow env locs Fs) s s'∧bf s'.heap rs vs []∧bw gt K pins env locs' Fs' s'∧(∀ b∈ow env locs' Fs',b∈ow env locs Fs∨s.heap.objs.size≤b)) (fun _ _=>False) s
theorem vU.of{es:List Expr}{rs:List PV}(h:cq gt K pins w A env locs es rs [] locs1): vU gt K pins w A env locs es rs locs1:=.mk fun s Fs pos I=>
 Pw.andThen (h.run s Fs pos I) fun vs s' hh=>by
  obtain⟨bY,cc,Fs',e,k,z,I',o,hn,_⟩:=hh
  obtain rfl:cc=[]:=JJ.mp hn
  rw[Hj]at e
  subst e
  exact⟨Fs',k,z,I',o⟩
theorem vt{es:List Expr}{k:Nat}{pos:Pos}{rs:List PV}(h:vU gt K pins w A env locs es rs locs1)(hl:rs.length≤Ip): jp gt K pins w A env (eval (.Tuple es k pos) env) locs (.tup rs) locs1:=.mk fun s Fs I=>
 Lg (Pw.andThen (h.run s Fs pos I) fun vs s' ⟨Fs',k,v,I',o⟩=>⟨by rw[v.length];exact hl,by
  exact⟨k.trans (bS _ _).all,[],Fs',.tup (n:=0) (Hk _ rfl) (v.kept0 (aj.push _ _)) .nil,fun b hb=>(nomatch hb),I'.step0 (bS _ _),fun b hb=>(nomatch hb),o⟩⟩)
theorem qL{x y:Str}{elts:List Expr}{k:Nat}{tpos pos:Pos}{e:Expr}{p q:PV}(hK:∀ q∈K,q.1<348)(hh:A.handled=none)(hpin:∀ z∈[x,y],z∉pins.map (·.1))(h:jp gt K pins w A env (eval e env) locs (.tup [p,q]) locs1)(hf:PV.flat.go [p,q]=true)
  (hk:∀ z∈[x,y],aJ env z)
  (hs:Kn [.Tuple elts k tpos] e pos.line env=pure false) (hw:Ko [.Tuple elts k tpos] e env=pure (some [x,y])):
  Ex gt K pins w A env (exec (.Assign [.Tuple elts k tpos] e pos) env) locs .next (ab x p (ab y q locs1)):=.mk fun s Fs I=>
 Assign_Tuple_swapped (names:=[x,y]) (Pw.andThen (h.run s Fs I) fun v s1 hh=>by
  obtain⟨k1,F,Fs1,z,fr,I1,d1,o1⟩:=hh
  refine Pw.andThen (ir hh z rfl) fun vs s2 hh=>?_
  obtain⟨k2,zs⟩:=hh
  obtain rfl:=zs.flat hf
  refine Pw.andThen (dS (n:=s1.heap.objs.size) hK I1.g.low [y,x] [q,p] vs.reverse _ [] locs1 Fs1 s2 (gO env _) (fun z hz=>hpin z (by simpa[or_comm]using hz)) (fun z hz=>hk z (by simpa[or_comm]using hz)) (I1.step0 k2) zs.rev .nil (fun b hb=>nomatch hb) (fun b hb=>nomatch hb) rfl) fun _ s3 hh=>?_
  obtain⟨Fs3,I3,k3,o3⟩:=hh
  exact⟨(k1.trans k2.all).comp (k3.mono fun b hb=>H8 _ hb) o1,rfl,⟨Fs3,I3,fun b hb=>(o3 b hb).elim (o1 b) fun h=>.inr (H6 k1.heap.size h)⟩⟩) hs hw
end
section
variable{w:World}{A:Around}{env:Env}{locs locs1:List (Str×PV)}{pins:List (Str×Addr)}
theorem ss{x:Str}{items items':List (Str×Str)}{i e:Expr}{n v:Str}{f1:Bool}{np p pos:Pos}(he:jp aa (ac w) pins w A env (eval e env) locs (.str v) locs1)(hl:locs1.lookup x=some (.hdr items))(hi:Ev aa (ac w) w A env locs1 i (.str n) f1)(hd:(x==("__debug__":Str))=false)(hcd:(x==("__classdict__":Str))=false)
  (hm:dy aa (ac w) w A 171 (.hdr items) [.str n,.str v] .none (.hdr items'))
  (hs:JD e (some (.Subscript (.Name x np) i p)) pos.line env=pure false):
  Ex aa (ac w) pins w A env (exec (.Assign [.Subscript (.Name x np) i p] e pos) env) locs .next (ab x (.hdr items') locs1):=.mk fun s Fs I=>by
 refine wpAny_Assign_Subscript (Pw.andThen (he.run s Fs I) fun u s1 hh=>?_) hs
 obtain⟨k1,Fq,Fs1,zq,fr,I1,d1,o1⟩:=hh
 obtain⟨v0,F,z,a,hF,hE,fin⟩:=I1.turn (ae w) hl rfl
 obtain rfl:=zq.flat rfl
 refine aD I1.er a hd hcd (Pw.andThen (hi.run s1 Fs1 I1.g I1.er) fun u2 s2 hh=>?_)
 obtain⟨k2,Fq2,zq2,fr2⟩:=hh
 obtain rfl:=zq2.flat rfl
 obtain g2:=I1.g.kept0 k2.heap
 have z2:=z.kept0 k2.heap
 obtain hcall:=hm.run s2 v0 [u2,u] F g2 z2 (fun b hb=>(hF b hb).2) (.cons (F:=[]) zq2 (.cons (F:=[]) (zq.kept0 k2.heap) .nil))
 obtain⟨a0,rfl⟩:=df _ _ _ z2
 obtain J:∃ ox od,InstAt s2.heap a0 ox 258 od:=by
  cases z2 with
  |hdr y=>
   obtain⟨d',l2,hs,t,n,vs',m',eF,nd,y1,y2,y3,y4⟩:=y
   exact⟨_,some _,y1,rfl,rfl,y2⟩
 obtain⟨ox,od,J⟩:=J
 skip
 refine IF (Hc (Hc (J.type.here ?_)))
 refine Hc ((anyM_none g2.inK (by kernel_rfl)).here ?_)
 skip
 refine Hi (Hc (special_fn g2.inK J (f:=171) (by kernel_rfl) (by kernel_rfl) (Pw.andThen hcall fun r s3 ⟨k3,zr,F',z',o'⟩=>Hi ?_)))
 obtain⟨Fs',I',o2,f2⟩:=fin s3 _ F' (k2.all.trans k3) z' fun b hb=>(o' b hb).imp id (H6 k2.heap.size)
 exact⟨k1.comp ((k2.all.trans k3).mono fun b hb=>(hF b hb).1) o1,rfl,Fs',I',fun b hb=>(o2 b hb).elim (o1 b) fun h=>.inr (H6 k1.heap.size h)⟩
end
end
section
noncomputable abbrev c9(L:Addr): Env:=ah 314 lW L
noncomputable abbrev l9:List Stmt:=aF (aO 75)
noncomputable abbrev gz:Str:=H5 "formula"
noncomputable abbrev aT:Str:=H5 "values"
noncomputable abbrev kf:Str:=H5 "told"
noncomputable abbrev BD:Stmt:=(l9[1]?).getD (.Pass default)
noncomputable abbrev xI:Stmt:=((pK BD)[0]?).getD (.Pass default)
noncomputable def strI(n:Int): Str:=H5 (Kj n)
noncomputable def bL(n:Int): Prop:=n.natAbs.log2<1920∧IC (strI n)=some n∧(strI n).length≤640∧Prn (strI n)
noncomputable def dz(items:List (Str×Str)): Prop:=∀ p∈items,mK p.1
noncomputable def cw(f:Str): Prop:=mK f∧Prn (Hd f)∧Prn f∧0<f.length∧f.length≤500
inductive iF(bk:List (Str×Str)): Nat→Str→List (Str×Str)→Int→List (Str×Str)→Prop
 |told{d:Nat}{f t:Str}{vs:List (Str×Str)}{n:Int}: cw f→dz vs→aZ (Hd f) vs=some t→IC t=some n→t.length≤640→iF bk d f vs n vs
 |name{d:Nat}{f t:Str}{vs vs':List (Str×Str)}{n:Int}: cw f→dz vs→aZ (Hd f) vs=none→256≤bI (cL f 0)→dz bk→aZ (Hd f) bk=some t→t.length≤500→iF bk d (aC t) vs n vs'→dz vs'→vs'.length≤1000→bL n→aZ (Hd f) vs'=none→iF bk (d+1) f vs n (vs'++[(f,strI n)])
 |pair{d:Nat}{f:Str}{vs bY cc:List (Str×Str)}{k n a b:Int}{l r:Str}: cw f→dz vs→aZ (Hd f) vs=none→bI (cL f 0)<256→gr f=some (k,l,r)→iF bk d l vs a bY→iF bk d r bY b cc→JU a b→([14,15,16].zip [PV.int (a+b),.int (a - b),.int (a*b)]).lookup k=some (.int n)→dz cc→cc.length≤1000→bL n→aZ (Hd f) cc=none→
   iF bk (d+1) f vs n (cc++[(f,strI n)])
noncomputable abbrev gP(f:Str)(bk vs:List (Str×Str))(t:PV): List (Str×PV):=[(gz,.str f),(aL,.hdr bk),(aT,.hdr vs),(kf,t)]
noncomputable abbrev yX(f:Str)(bk vs:List (Str×Str)): List (Str×PV):=[(gz,.str f),(aL,.hdr bk),(aT,.hdr vs)]
noncomputable abbrev dT(a1 a2:Addr): List (Str×Addr):=[(aL,a1),(aT,a2)]
section
variable{w:World}{A:Around}{L a1 a2:Addr}
theorem sx{f:Str}{bk vs:List (Str×Str)}(hk:cw f)(hv:dz vs)(ro:Ro A 4): Ex aa (ac w) (dT a1 a2) w A (c9 L) (exec ((l9[0]?).getD (.Pass default)) (c9 L)) (yX f bk vs) .next (gP f bk vs (Ca (aZ (Hd f) vs) .none)):=by
 refine am (locs1:=ab kf (Ca (aZ (Hd f) vs) .none) (ab aT (.hdr vs) (yX f bk vs))) ?_ (by kernel_rfl) ?_
 ·refine bB (ae _) (by simp;decide +kernel) (cV (fa:=true&&true) (p:=.hdr vs) (rs:=[.str f]) (ae _) ?_ rfl ?_ rfl (by kernel_rfl) (by kernel_rfl) oN (dJ (fg.up (ag _))) ?_ (qg w A vs f hv hk.1 hk.2.1 ro) rfl rfl rfl) (Bind.same ?_) (.inl (by kernel_rfl)) rfl
  ·walk_at "lk"
  ·cases aZ (Hd f) vs <;> rfl
  ·walk_at "evs"
  ·cases aZ (Hd f) vs <;> rfl
 ·walk_at "looks"
theorem sw{f t:Str}{bk vs:List (Str×Str)}{n:Int}(hn:IC t=some n)(hl:t.length≤640): Ex aa (ac w) (dT a1 a2) w A (c9 L) (execs (l9.drop 2) (c9 L)) (gP f bk vs (.str t)) (.ret (.int n)) (gP f bk vs (.str t)):=by
 obtain h:au aa (ac w) w A (.type "int") [.str t] (.int n) true:=kY hn hl
 walk_at "ret"
theorem Bj{f:Str}{bk vs:List (Str×Str)}{t:PV}{c:Bool}(hf:cw f)(ro:Ro A 2)(hc:decide (256≤bI (cL f 0))=c): Tr aa (ac w) w A (c9 L) (gP f bk vs t) (Bm xI) c:=by
 obtain h0:Sub w A (.str f) (.int 0) (.str (cL f 0)) true:=Sub.strAt (k:=0) hf.2.2.2.1 (by obtain this:=hf.2.2.2.2;omega)
 obtain h1:au aa (ac w) w A (.ref 125) [.int (bI (cL f 0))] (.bool (decide (256≤bI (cL f 0)))) true:=(Bu _ ro).up (ag w)
 subst hc
 show Tr _ _ _ _ _ _ (.Call _ _ _ _) _
 walk_at "tr"
theorem ye{f:Str}{bk vs:List (Str×Str)}{n:Int}(hf:cw f)(hv:dz vs)(hz:vs.length≤1000)(hn:bL n)(hg:aZ (Hd f) vs=none)(ro:Ro A 5): Ex aa (ac w) (dT a1 a2) w A (c9 L) (execs ((pK BD).drop 1) (c9 L)) (gP f bk vs (.str (strI n))) .next (gP f bk (vs++[(f,strI n)]) (.str (strI n))):=by
 refine am (locs1:=ab aT (.hdr (vs++[(f,strI n)])) (gP f bk vs (.str (strI n)))) ?_ (by kernel_rfl) ?_
 ·obtain h:dy aa (ac w) w A 248 (.hdr vs) [.str f,.str (strI n)] (.str (strI n)) (.hdr (vs++[(f,strI n)])):=by
   obtain this:=Bt w A vs f (strI n) hz hv hf.1 hf.2.1 hf.2.2.1 hn.2.2.2 ro
   simpa only[cX,hg]using this
  refine af (bU (cV (fa:=true&&(true&&true)) (p:=.hdr vs) (rs:=[.str f,.str (strI n)]) (ae _) ?_ rfl rfl rfl (by kernel_rfl) (by kernel_rfl) BF (bb (pd.up (ag _))) ?_ h rfl rfl rfl) rfl rfl) aq
  ·walk_at "lk"
  ·walk_at "evs"
 ·walk_at "looks"
theorem D5{f t:Str}{bk vs vs':List (Str×Str)}{n:Int}(hf:cw f)(hb:dz bk)(hg:aZ (Hd f) bk=some t)(ht:t.length≤500)(hn:bL n)(ro:Ro A 12)(hc:jo aa (ac w) w A 314 [.str (aC t)] [.hdr bk,.hdr vs] (.int n) [.hdr bk,.hdr vs']):
  Ex aa (ac w) (dT a1 a2) w A (c9 L) (execs (pK xI) (c9 L)) (gP f bk vs .none) .next (gP f bk vs' (.str (strI n))):=by
 obtain hget:dy aa (ac w) w A 205 (.hdr bk) [.str f] (.str t) (.hdr bk):=by
  obtain this:=qg w A bk f hb hf.1 hf.2.1 (ro.le (by omega))
  rw[hg]at this
  exact this
 refine am (locs1:=ab kf (.str (strI n)) (bl [aL,aT] [.hdr bk,.hdr vs'] (ab aL (.hdr bk) (gP f bk vs .none)))) ?_ (by kernel_rfl) ?_
 ·refine af (bB (ae _) (by simp;decide +kernel) (eD (f:=.type "str") (p:=.int n) (Ev.builtin (by kernel_rfl) gN (by decide +kernel) (by kernel_rfl)) bd
   (em (f:=314) (rs:=[.str (aC t)]) (xs:=[aL,aT]) (own:=[.hdr bk,.hdr vs]) (own':=[.hdr bk,.hdr vs']) (ae _) (Ev.global (by kernel_rfl) j7 (by kernel_rfl)) (bb (jP.up (ag _)))
    (cq.cons (eD (f:=.ref 94) (p:=.str t) (Ev.global (by kernel_rfl) xO (by kernel_rfl)) (bb (BN.up (ag _)))
     (cV (fa:=true&&true) (p:=.hdr bk) (rs:=[.str f]) (ae _) ?_ rfl rfl rfl (by kernel_rfl) (by kernel_rfl) oN (dJ (fg.up (ag _))) ?_ hget rfl rfl rfl) rfl ((Cc w A t ht (ro.le (by omega))).up (ag w)) rfl) rfl
     (cq.names (bv.cons (p:=.hdr bk) ?_ (by kernel_rfl) (by kernel_rfl) (bv.cons (p:=.hdr vs) ?_ (by kernel_rfl) (by kernel_rfl) bv.nil rfl) rfl)) rfl)
    (by decide +kernel) rfl rfl ?_ ?_ hc rfl rfl) rfl (cY hn.1) rfl) (Bind.same rfl) (.inl (by kernel_rfl)) rfl) aq
  ·walk_at "lk"
  ·walk_at "evs"
  ·walk_at "lk"
  ·walk_at "lk"
  ·intro q hq
   rcases bN hq with rfl | rfl <;> kernel_rfl
  ·intro p hp
   rcases bN hp with rfl | rfl <;> rfl
 ·exact ak (by kernel_rfl) (ak (by kernel_rfl) (ak (by kernel_rfl) (ak (by kernel_rfl) dZ)))
end
end
section
noncomputable abbrev ni:Str:=H5 "kind"
noncomputable abbrev nh:Str:=H5 "left"
noncomputable abbrev jD:Str:=H5 "right"
noncomputable abbrev mB:Str:=H5 "one"
noncomputable abbrev qh:Str:=H5 "two"
section
variable{w:World}{A:Around}{L a1 a2:Addr}
noncomputable abbrev DJ(f:Str)(bk vs:List (Str×Str))(k:Int)(l r:Str): List (Str×PV):=[(gz,.str f),(aL,.hdr bk),(aT,.hdr vs),(kf,.none),(ni,.int k),(nh,.str l),(jD,.str r)]
noncomputable abbrev B8(f:Str)(bk vs:List (Str×Str))(k:Int)(l r:Str)(a b:Int): List (Str×PV):=[(gz,.str f),(aL,.hdr bk),(aT,.hdr vs),(kf,.none),(ni,.int k),(nh,.str l),(jD,.str r),(mB,.int a),(qh,.int b)]
noncomputable abbrev yq:List Stmt:=jc xI
theorem D3{f l r:Str}{bk vs:List (Str×Str)}{k:Int}(hf:cw f)(hs:gr f=some (k,l,r))(ro:Ro A 14): Ex aa (ac w) (dT a1 a2) w A (c9 L) (exec ((yq[0]?).getD (.Pass default)) (c9 L)) (gP f bk vs .none) .next (DJ f bk vs k l r):=by
 obtain h:au aa (ac w) w A (.ref 307) [.str f] (.tup [.int k,.str l,.str r]) true:=Br w A f (k,l,r) hf.2.2.2.2 hs ro
 refine am (locs1:=ab jD (.str r) (ab nh (.str l) (ab ni (.int k) (gP f bk vs .none)))) ?_ (by kernel_rfl) ?_
 ·refine iD (ae _) ro.1 (by simp;decide +kernel) ?_ ?_ ⟨aI _ _ _,aI _ _ _,aI _ _ _,trivial⟩ rfl rfl rfl rfl
  ·walk_at "ev"
  ·intro u hu
   rcases jE hu with rfl | rfl | rfl <;> exact .inl (by kernel_rfl)
 ·walk_at "looks"
theorem yi{x:Str}{l:Str}{bk vs vs':List (Str×Str)}{n:Int}{locs:List (Str×PV)}{np xp bp vp pos:Pos}(h0:locs.lookup x=some (.str l))(h1:locs.lookup aL=some (.hdr bk))(h2:locs.lookup aT=some (.hdr vs))(hd:(x==("__debug__":Str))=false)(hcd:(x==("__classdict__":Str))=false)
  (hc:jo aa (ac w) w A 314 [.str l] [.hdr bk,.hdr vs] (.int n) [.hdr bk,.hdr vs']):jp aa (ac w) (dT a1 a2) w A (c9 L) (eval (.Call (.Name (H5 "_law_value") np) [.Name x xp,.Name aL bp,.Name aT vp] [] pos) (c9 L)) locs (.int n) (ab aT (.hdr vs') (ab aL (.hdr bk) locs)):=by
 refine em (f:=314) (rs:=[.str l]) (xs:=[aL,aT]) (own:=[.hdr bk,.hdr vs]) (own':=[.hdr bk,.hdr vs']) (ae _) (Ev.global (by kernel_rfl) j7 (by kernel_rfl)) (bb (jP.up (ag _)))
    (cq.cons (ft (Ev.local h0 q7 rfl hd hcd)) rfl
     (cq.names (bv.cons (p:=.hdr bk) h1 (by kernel_rfl) (by kernel_rfl) (bv.cons (p:=.hdr vs) h2 (by kernel_rfl) (by kernel_rfl) bv.nil rfl) rfl)) rfl)
    (by decide +kernel) rfl rfl ?_ ?_ hc rfl rfl
 ·intro q hq
  rcases bN hq with rfl | rfl
  ·exact h1
  ·exact h2
 ·intro p hp
  rcases bN hp with rfl | rfl <;> rfl
theorem D2{f l r:Str}{bk vs bY cc:List (Str×Str)}{k a b:Int}(hh:A.handled=none)(h1:jo aa (ac w) w A 314 [.str l] [.hdr bk,.hdr vs] (.int a) [.hdr bk,.hdr bY])(h2:jo aa (ac w) w A 314 [.str r] [.hdr bk,.hdr bY] (.int b) [.hdr bk,.hdr cc]):
  Ex aa (ac w) (dT a1 a2) w A (c9 L) (exec ((yq[1]?).getD (.Pass default)) (c9 L)) (DJ f bk vs k l r) .next (B8 f bk cc k l r a b):=by
 refine am (locs1:=ab mB (.int a) (ab qh (.int b) (ab aT (.hdr cc) (ab aL (.hdr bk) (ab aT (.hdr bY) (ab aL (.hdr bk) (DJ f bk vs k l r))))))) ?_ (by kernel_rfl) ?_
 ·refine qL (p:=.int a) (q:=.int b) (ae _) hh (by simp;decide +kernel) (vt (vU.of (cq.cons (yi (l:=l) (bk:=bk) (vs:=vs) (vs':=bY) ?_ ?_ ?_ (by kernel_rfl) (by kernel_rfl) h1) rfl (cq.cons (yi (l:=r) (bk:=bk) (vs:=bY) (vs':=cc) ?_ ?_ ?_ (by kernel_rfl) (by kernel_rfl) h2) rfl (cq.names bv.nil) rfl) rfl)) ?_) rfl ?_ rfl rfl
  ·walk_at "lk"
  ·walk_at "lk"
  ·walk_at "lk"
  ·walk_at "lk"
  ·walk_at "lk"
  ·walk_at "lk"
  ·walk_at "few"
  ·intro u hu
   rcases bN hu with rfl | rfl <;> exact .inl (by kernel_rfl)
 ·walk_at "looks"
theorem D1{f l r:Str}{bk vs:List (Str×Str)}{k a b n:Int}(hm:JU a b)(hn:bL n)(hk:([14,15,16].zip [PV.int (a+b),.int (a - b),.int (a*b)]).lookup k=some (.int n)):
  Ex aa (ac w) (dT a1 a2) w A (c9 L) (execs (yq.drop 2) (c9 L)) (B8 f bk vs k l r a b) .next (gP f bk vs (.str (strI n))):=by
 refine am (locs1:=ab kf (.str (strI n)) (B8 f bk vs k l r a b)) ?_ (by kernel_rfl) ?_
 ·obtain P:∀{p1 p2 p3 q1 q2 q3 q4 q5 q6 o1 o2 o3:Pos} {c1 c2 c3:Nat},kQ (Ks pw w) aa (ac w) A (c9 L) (B8 f bk vs k l r a b) [some (.Constant (.int 14) c1 p1),some (.Constant (.int 15) c2 p2),some (.Constant (.int 16) c3 p3)]
    [.BinOp (.Name mB q1) .Add (.Name qh q2) o1,.BinOp (.Name mB q3) .Sub (.Name qh q4) o2,.BinOp (.Name mB q5) .Mult (.Name qh q6) o3] [14,15,16] [.int (a+b),.int (a - b),.int (a*b)]:=by
   intros
   refine kQ.cons oM (f:=true) ?_ rfl (kQ.cons oM (f:=true) ?_ rfl (kQ.cons oM (f:=true) ?_ rfl kQ.nil))
   ·walk_at "ev"
   ·walk_at "ev"
   ·walk_at "ev"
  obtain h1:au aa (ac w) w A (.type "str") [.int n] (.str (strI n)) true:=cY hn.1
  refine af (az (p:=.str (strI n)) (ae _) (by simp;decide +kernel) (c8 (ff:=true) (fa:=true&&true) (f:=.type "str") (rs:=[.int n]) (Ev.builtin (by kernel_rfl) gN (by decide +kernel) (by kernel_rfl)) bd (bG.cons (AN (n:=k) (f:=true) P rfl rfl (by simp) (by simp) (by decide) ?_ hk rfl (by intro _ _;exact⟨_,rfl⟩)) bG.nil rfl) h1 bR rfl rfl) (Bind.same rfl) (.inl (by kernel_rfl)) rfl) aq
  walk_at "ev"
 ·walk_at "looks"
end
section
variable{w:World}{bk:List (Str×Str)}
theorem tF{d:Nat}{f:Str}{vs vs':List (Str×Str)}{n:Int}(h:iF bk d f vs n vs'): ∀ A,Ro A (15+d)→jo aa (ac w) w A 314 [.str f] [.hdr bk,.hdr vs] (.int n) [.hdr bk,.hdr vs']:=by
 have base:∀{f:Str} {vs vs':List (Str×Str)} {n:Int} (m:Nat) (A:Around),Ro A (m+1)→(∀ L a1 a2,Ro (A.deeper (ah 314 lW L)) m→∃ t,IC t=some n∧t.length≤640∧
   Ex aa (ac w) (dT a1 a2) w (A.deeper (ah 314 lW L)) (c9 L) (execs l9 (c9 L)) (yX f bk vs) (.ret (.int n)) (gP f bk vs' (.str t)))→jo aa (ac w) w A 314 [.str f] [.hdr bk,.hdr vs] (.int n) [.hdr bk,.hdr vs']:=by
  intro f vs vs' n m A ro hb
  refine tZ (xf:=[gz]) (xo:=[aL,aT]) (jP.toS.up (ag w)) ro ?_ rfl rfl rfl rfl rfl ?_ ?_ ?_ ?_ ?_ (.inl rfl) ?_
  ·intro x hx
   rcases bN hx with rfl | rfl <;> kernel_rfl
  ·intro p hp
   rcases bN hp with rfl | rfl <;> rfl
  ·intro p hp
   rcases bN hp with rfl | rfl <;> rfl
  ·intro p hp
   rw[H7.mp hp];rfl
  ·intro p hp
   rcases bN hp with rfl | rfl <;> exact df
  ·intro h vs g hl
   revert hl;revert vs;exact r9 fun a b c=>HD (jP.bind [a,b,c] rfl)
  ·intro L as hl ro'
   revert hl;revert as;refine cc fun a1 a2=>?_
   obtain⟨t,_,_,hx⟩:=hb L a1 a2 ro'
   refine⟨_,hx,?_⟩
   intro q hq
   rcases bN hq with rfl | rfl <;> kernel_rfl
 induction h with
 | @told d f t vs n hk hv hg ht hl=>
  intro A ro
  refine base (14+d) A ⟨ro.1,by obtain this:=ro.2.1;omega,by obtain this:=ro.2.2;omega⟩ fun L a1 a2 ro'=>⟨t,ht,hl,?_⟩
  obtain h0:=sx (w:=w) (A:=A.deeper (ah 314 lW L)) (L:=L) (a1:=a1) (a2:=a2) (bk:=bk) hk hv (ro'.le (by omega))
  rw[hg]at h0
  refine af h0 (af (c7 (c:=false) ?_ rfl aq) (sw ht hl))
  show Tr _ _ _ _ _ (gP f bk vs (.str t)) (.Compare _ _ _ _) _
  walk_at "tr"
 | @name d f t vs vs' n hk hv hg hc hbk hgb ht _ hv' hz hn hg' ih=>
  intro A ro
  refine base (15+d) A ⟨ro.1,by obtain this:=ro.2.1;omega,by obtain this:=ro.2.2;omega⟩ fun L a1 a2 ro'=>⟨strI n,hn.2.1,hn.2.2.1,?_⟩
  obtain h0:=sx (w:=w) (A:=A.deeper (ah 314 lW L)) (L:=L) (a1:=a1) (a2:=a2) (bk:=bk) hk hv (ro'.le (by omega))
  rw[hg]at h0
  refine af h0 (af (cE (c:=true) ?_ rfl ?_) (sw hn.2.1 hn.2.2.1))
  ·show Tr _ _ _ _ _ (gP f bk vs .none) (.Compare _ _ _ _) _
   walk_at "tr"
  ·refine af (cE (Bj hk (ro'.le (by omega)) (decide_eq_true hc)) rfl (D5 hk hbk hgb ht hn (ro'.le (by omega)) (ih _ ro'))) (ye hk hv' hz hn hg' (ro'.le (by omega)))
 | @pair d f vs bY cc k n a b l r hk hv hg hc hs _ _ hm hp hv' hz hn hg' ih1 ih2=>
  intro A ro
  refine base (15+d) A ⟨ro.1,by obtain this:=ro.2.1;omega,by obtain this:=ro.2.2;omega⟩ fun L a1 a2 ro'=>⟨strI n,hn.2.1,hn.2.2.1,?_⟩
  obtain h0:=sx (w:=w) (A:=A.deeper (ah 314 lW L)) (L:=L) (a1:=a1) (a2:=a2) (bk:=bk) hk hv (ro'.le (by omega))
  rw[hg]at h0
  refine af h0 (af (cE (c:=true) ?_ rfl ?_) (sw hn.2.1 hn.2.2.1))
  ·show Tr _ _ _ _ _ (gP f bk vs .none) (.Compare _ _ _ _) _
   walk_at "tr"
  ·refine af (c7 (Bj hk (ro'.le (by omega)) (decide_eq_false (by omega))) rfl ?_) (ye hk hv' hz hn hg' (ro'.le (by omega)))
   exact af (D3 hk hs (ro'.le (by omega))) (af (D2 ro'.1 (ih1 _ ro') (ih2 _ ro')) (D1 hm hn hp))
end
end
section
section
variable{gt:List (Str×Value)}{K:List (Addr×Obj)}{pins:List (Str×Addr)}{w:World}{A:Around}{env:Env}{locs locs1:List (Str×PV)}
theorem sh{xs:List Str}{elts:List Expr}{k:Nat}{tpos pos:Pos}{e:Expr}{ps:List PV}(hK:∀ q∈K,q.1<348)(hh:A.handled=none)(hpin:∀ x∈xs,x∉pins.map (·.1))(h:Ev gt K w A env locs e (.lst ps) true)(hf:PV.flat.go ps=true)(hl:xs.length=ps.length)
  (hk:∀ x∈xs,aJ env x) (hb:kL env ((Jj elts env).map (·.2)) xs) (hn:(Jj elts env).length=xs.length) (hstar:(Jj elts env).findIdx? (·.1)=none)
  (hs:Kn [.Tuple elts k tpos] e pos.line env=pure false) (hw:Ko [.Tuple elts k tpos] e env=pure none):
  Ex gt K pins w A env (exec (.Assign [.Tuple elts k tpos] e pos) env) locs .next (bl xs ps locs):=.mk fun s Fs I=>
 Assign_Tuple (Pw.andThen (h.run s Fs I.g I.er) fun v s1 hh=>by
  obtain⟨k1,F,z,fr⟩:=hh
  cases z with
  | @lst _ a vs m F e1 z nd=>
   obtain rfl:=z.flat hf
   skip
   refine Hc (Km ?_)
   unfold unpack
   rw[hstar]
   refine Hc (IF (Pw.andThen (ri hh e1 z (hn.trans hl)) fun vs' s2 hh=>?_))
   obtain⟨k2,zs⟩:=hh
   have k:=k1.trans k2
   refine Pw.andThen (dS (n:=s.heap.objs.size) hK I.g.low xs ps vs' _ [] locs Fs s2 hb hpin hk (I.step0 k) zs .nil (fun b hb=>nomatch hb) (fun b hb=>nomatch hb) hl) fun _ s3 hh=>?_
   obtain⟨Fs3,I3,k3,o3⟩:=hh
   exact⟨k.all.trans (k3.mono fun b hb=>H8 _ hb),rfl,Fs3,I3,o3⟩) hs hw
end
section
variable{w:World}{A:Around}{env:Env}{locs:List (Str×PV)}{pins:List (Str×Addr)}
theorem nG{x:Str}{l:Str}{bk vs vs':List (Str×Str)}{n:Int}{np xp bp vp pos:Pos}(hg:env.kindOf (H5 "_law_value")=some .globalImplicit)(h0:locs.lookup x=some (.str l))(h1:locs.lookup aL=some (.hdr bk))(h2:locs.lookup aT=some (.hdr vs))(hd:(x==("__debug__":Str))=false)(hcd:(x==("__classdict__":Str))=false)
  (hc:jo aa (ac w) w A 314 [.str l] [.hdr bk,.hdr vs] (.int n) [.hdr bk,.hdr vs']) (he1:Hg [.Name x xp,.Name aL bp,.Name aT vp] env=(false,eval (.Name x xp) env)::Hg [.Name aL bp,.Name aT vp] env) (he2:Hg [.Name aL bp,.Name aT vp] env=(false,eval (.Name aL bp) env)::Hg [.Name aT vp] env) (he3:Hg [.Name aT vp] env=(false,eval (.Name aT vp) env)::Hg [] env)
  (hplain:(backTo pos (Hg [.Name aL bp,.Name aT vp] env)).any (·.1)=false):jp aa (ac w) pins w A env (eval (.Call (.Name (H5 "_law_value") np) [.Name x xp,.Name aL bp,.Name aT vp] [] pos) env) locs (.int n) (ab aT (.hdr vs') (ab aL (.hdr bk) locs)):=by
 refine em (f:=314) (rs:=[.str l]) (xs:=[aL,aT]) (own:=[.hdr bk,.hdr vs]) (own':=[.hdr bk,.hdr vs']) (ae _) (Ev.global hg j7 (by kernel_rfl)) (bb (jP.up (ag _)))
    (cq.cons (ft (Ev.local h0 q7 rfl hd hcd)) rfl
     (cq.names (bv.cons (p:=.hdr bk) h1 (by kernel_rfl) (by kernel_rfl) (bv.cons (p:=.hdr vs) h2 (by kernel_rfl) (by kernel_rfl) bv.nil he3) he2)) he1)
    (by decide +kernel) rfl rfl ?_ ?_ hc he1 hplain
 ·intro q hq
  rcases bN hq with rfl | rfl
  ·exact h1
  ·exact h2
 ·intro p hp
  rcases bN hp with rfl | rfl <;> rfl
end
noncomputable def mz:List Str→Str
 |[]=>H5 ""
 |q::_=>q
noncomputable def my:List Str→List Str
 |[]=>[]
 |_::r=>r
theorem Eo(w:World)(A:Around)(pb:List Str)(ln:Int)(hz:pb.length≤900)(ro:Ro A 6): dy aa (ac w) w A 66 (.lex pb [] ln) [] (.str (mz pb)) (.lex (my pb) [] ln):=by
 cases pb with
 |nil=>exact Er w A [] ln (HT _) ro
 |cons q pb=>exact Bq w A q pb [] ln (by simp only[Hh]at hz;omega) ro
noncomputable abbrev ba(L:Addr): Env:=ah 321 y7 L
noncomputable abbrev AZ:List Stmt:=aF (aO 76)
noncomputable abbrev bZ:Str:=H5 "slopes"
noncomputable abbrev iW:Str:=H5 "weight"
noncomputable abbrev gy:Str:=H5 "goal"
noncomputable abbrev w9:Stmt:=(AZ[1]?).getD (.Pass default)
noncomputable abbrev mh:List Stmt:=rd w9
noncomputable abbrev xK:Stmt:=(mh[2]?).getD (.Pass default)
noncomputable abbrev nI(a b c:Str): Str:=a++H5 "'"++b++H5 "'"++c
noncomputable def bu(gl f:Str): Str:=gl++H5 "."++f
inductive eU(bk:List (Str×Str))(D:Nat): List Str→List (Str×Str)→List (Str×Str)→Str→List Str→List (Str×Str)→List (Str×Str)→Prop
 |leaf{pb:List Str}{vs sl:List (Str×Str)}{wd wt gl f0:Str}{n1 n2:Int}: cP wd=[wt,gl,f0]→wd.length≤500→f0.length≤500→gl.length≤500→wt.length≤500→cw (aC f0)→256≤bI (cL (aC f0) 0)→dz bk→aZ (Hd (aC f0)) bk=none→cw (bu gl (aC f0))→dz sl→sl.length≤500→
   IC ((aZ (Hd (bu gl (aC f0))) sl).getD (H5 "0"))=some n1→((aZ (Hd (bu gl (aC f0))) sl).getD (H5 "0")).length≤640→IC wt=some n2→bL (n1+n2)→
   eU bk D pb vs sl wd pb vs (gp (Hd (bu gl (aC f0))) sl++[(bu gl (aC f0),strI (n1+n2))])
 |link{pb:List Str}{vs sl:List (Str×Str)}{wd wt gl f0 t:Str}: cP wd=[wt,gl,f0]→wd.length≤500→f0.length≤500→gl.length≤500→wt.length≤500→cw (aC f0)→256≤bI (cL (aC f0) 0)→dz bk→aZ (Hd (aC f0)) bk=some t→t.length≤500→pb.length≤800→
   eU bk D pb vs sl wd (pb++[nI wt gl t]) vs sl
 |plus{pb:List Str}{vs sl:List (Str×Str)}{wd wt gl f0 l r:Str}{k n:Int}: cP wd=[wt,gl,f0]→wd.length≤500→f0.length≤500→gl.length≤500→wt.length≤500→cw (aC f0)→bI (cL (aC f0) 0)<256→gr (aC f0)=some (k,l,r)→l.length≤500→r.length≤500→k≠16→IC wt=some n→bL n→bL (if k==15 then -n else n)→pb.length≤800→
   eU bk D pb vs sl wd ((pb++[nI (strI n) gl l])++[nI (strI (if k==15 then -n else n)) gl r]) vs sl
 |times{pb:List Str}{vs bY cc sl:List (Str×Str)}{wd wt gl f0 l r:Str}{n a b:Int}: cP wd=[wt,gl,f0]→wd.length≤500→f0.length≤500→gl.length≤500→wt.length≤500→cw (aC f0)→bI (cL (aC f0) 0)<256→gr (aC f0)=some (16,l,r)→l.length≤500→r.length≤500→IC wt=some n→iF bk D r vs b bY→iF bk D l bY a cc→JU n b→JU n a→bL (n*b)→bL (n*a)→pb.length≤800→
   eU bk D pb vs sl wd ((pb++[nI (strI (n*b)) gl l])++[nI (strI (n*a)) gl r]) cc sl
inductive jq(bk:List (Str×Str))(D:Nat): List Str→List (Str×Str)→List (Str×Str)→Str→List (Str×Str)→List (Str×Str)→Prop
 |done{vs sl:List (Str×Str)}: jq bk D [] vs sl (H5 "") vs sl
 |step{pb pb':List Str}{vs vs' cc sl sl' sl2:List (Str×Str)}{wd:Str}: (wd != H5 "")=true→eU bk D pb vs sl wd pb' vs' sl'→pb'.length≤900→jq bk D (my pb') vs' sl' (mz pb') cc sl2→jq bk D pb vs sl wd cc sl2
noncomputable abbrev B7(pb:List Str)(ln:Int)(bk vs sl:List (Str×Str))(wd:Str): List (Str×PV):=[(aw,.lex pb [] ln),(aL,.hdr bk),(aT,.hdr vs),(bZ,.hdr sl),(fb,.str wd)]
noncomputable abbrev fJ(pb:List Str)(ln:Int)(bk vs sl:List (Str×Str))(wd wt gl f:Str): List (Str×PV):=[(aw,.lex pb [] ln),(aL,.hdr bk),(aT,.hdr vs),(bZ,.hdr sl),(fb,.str wd),(iW,.str wt),(gy,.str gl),(gz,.str f)]
noncomputable abbrev cH(a0 a1 a2 a3:Addr): List (Str×Addr):=[(aw,a0),(aL,a1),(aT,a2),(bZ,a3)]
section
variable{w:World}{A:Around}{L a0 a1 a2 a3:Addr}
theorem xU{pb:List Str}{ln:Int}{locs:List (Str×PV)}{cp apos np cpos pos:Pos}{pl:Sem Bool}(hl:locs.lookup aw=some (.lex pb [] ln))(hz:pb.length≤900)(ro:Ro A 6)
  (hev:eval (.Call (.Attribute (.Name aw np) Co apos) [] [] cpos) (ba L)=(do
   let ov ←eval (.Name aw np) (ba L)
   standAt apos.atName
   let(f,first) ←holding [ov] (JI ov Co pl)
   IU cpos f first (backTo cpos (Hg [] (ba L))) [])):
  Ex aa (ac w) (cH a0 a1 a2 a3) w A (ba L) (exec (.Assign [.Name fb cp] (.Call (.Attribute (.Name aw np) Co apos) [] [] cpos) pos) (ba L)) locs .next (ab fb (.str (mz pb)) (ab aw (.lex (my pb) [] ln) locs)):=
 bB (ae _) (by simp;decide +kernel) (i5 (p:=.lex pb [] ln) (ae _) hl rfl rfl (by kernel_rfl) (by kernel_rfl) xM (bb (m8.up (ag _))) (Eo w A pb ln hz ro) hev) (Bind.same rfl) (.inl (by kernel_rfl)) rfl
theorem l7{pb:List Str}{ln:Int}{bk vs sl:List (Str×Str)}{wd wt gl f0:Str}{locs:List (Str×PV)}(hl:locs=B7 pb ln bk vs sl wd∨∃ a b c,locs=fJ pb ln bk vs sl wd a b c)(hp:cP wd=[wt,gl,f0])(hw:wd.length≤500)(hf:f0.length≤500)(ro:Ro A 11):
  pB aa (ac w) (cH a0 a1 a2 a3) w A (ba L) (mh.take 2) locs (fJ pb ln bk vs sl wd wt gl (aC f0)):=by
 obtain h1:au aa (ac w) w A (.ref 108) [.str wd] (.lst [.str wt,.str gl,.str f0]) true:=by
  obtain this:=(EC (w:=w) (A:=A) wd hw (by rw[hp];simp) (ro.le (by omega))).up (ag w)
  rw[hp]at this
  exact this
 obtain h2:au aa (ac w) w A (.ref 94) [.str f0] (.str (aC f0)) true:=(Cc w A f0 hf ro).up (ag w)
 have lw:locs.lookup fb=some (.str wd):=by rcases hl with rfl | ⟨a,b,c,rfl⟩ <;> walk_at "lk"
 refine .cons (locs1:=fJ pb ln bk vs sl wd wt gl f0) ?_ (.cons ?_ .nil)
 ·refine am (locs1:=bl [iW,gy,gz] [.str wt,.str gl,.str f0] locs) ?_ (by kernel_rfl) ?_
  ·refine sh (ae _) ro.1 (by simp;decide +kernel) ?_ rfl rfl ?_ ⟨aI _ _ _,aI _ _ _,aI _ _ _,trivial⟩ rfl rfl rfl rfl
   ·walk_at "ev"
   ·intro u hu
    rcases jE hu with rfl | rfl | rfl <;> exact .inl (by kernel_rfl)
  ·rcases hl with rfl | ⟨a,b,c,rfl⟩ <;> exact ak (by kernel_rfl) (ak (by kernel_rfl) (ak (by kernel_rfl) (ak (by kernel_rfl) (ak (by kernel_rfl) (ak (by kernel_rfl) (ak (by kernel_rfl) (ak (by kernel_rfl) dZ)))))))
 ·refine am (locs1:=ab gz (.str (aC f0)) (fJ pb ln bk vs sl wd wt gl f0)) ?_ (by kernel_rfl) ?_
  ·refine az (p:=.str (aC f0)) (ae _) (by simp;decide +kernel) ?_ (Bind.same rfl) (.inl (by kernel_rfl)) rfl
   walk_at "ev"
  ·walk_at "looks"
theorem th{pb:List Str}{ln:Int}{bk vs sl:List (Str×Str)}{wd wt gl f:Str}{c:Bool}(hf:cw f)(ro:Ro A 2)(hc:decide (256≤bI (cL f 0))=c): Tr aa (ac w) w A (ba L) (fJ pb ln bk vs sl wd wt gl f) (Bm xK) c:=by
 obtain h0:Sub w A (.str f) (.int 0) (.str (cL f 0)) true:=Sub.strAt (k:=0) hf.2.2.2.1 (by obtain this:=hf.2.2.2.2;omega)
 obtain h1:au aa (ac w) w A (.ref 125) [.int (bI (cL f 0))] (.bool (decide (256≤bI (cL f 0)))) true:=(Bu _ ro).up (ag w)
 subst hc
 show Tr _ _ _ _ _ _ (.Call _ _ _ _) _
 walk_at "tr"
end
end
section
section
variable{w:World}{A:Around}{L a0 a1 a2 a3:Addr}
noncomputable abbrev ti:List Stmt:=pK xK
noncomputable abbrev ui:List Stmt:=jc xK
noncomputable abbrev Gk:Stmt:=(ti[1]?).getD (.Pass default)
noncomputable abbrev zj(pb:List Str)(ln:Int)(bk vs sl:List (Str×Str))(wd wt gl f:Str)(t:PV): List (Str×PV):=[(aw,.lex pb [] ln),(aL,.hdr bk),(aT,.hdr vs),(bZ,.hdr sl),(fb,.str wd),(iW,.str wt),(gy,.str gl),(gz,.str f),(kf,t)]
theorem tY{pb:List Str}{ln:Int}{bk vs sl:List (Str×Str)}{wd wt gl f:Str}(hf:cw f)(hb:dz bk)(ro:Ro A 4): Ex aa (ac w) (cH a0 a1 a2 a3) w A (ba L) (exec ((ti[0]?).getD (.Pass default)) (ba L)) (fJ pb ln bk vs sl wd wt gl f) .next (zj pb ln bk vs sl wd wt gl f (Ca (aZ (Hd f) bk) .none)):=by
 refine am (locs1:=ab kf (Ca (aZ (Hd f) bk) .none) (ab aL (.hdr bk) (fJ pb ln bk vs sl wd wt gl f))) ?_ (by kernel_rfl) ?_
 ·refine bB (ae _) (by simp;decide +kernel) (cV (fa:=true&&true) (p:=.hdr bk) (rs:=[.str f]) (ae _) ?_ rfl ?_ rfl (by kernel_rfl) (by kernel_rfl) oN (dJ (fg.up (ag _))) ?_ (qg w A bk f hb hf.1 hf.2.1 ro) rfl rfl rfl) (Bind.same ?_) (.inl (by kernel_rfl)) rfl
  ·walk_at "lk"
  ·cases aZ (Hd f) bk <;> rfl
  ·walk_at "evs"
  ·cases aZ (Hd f) bk <;> rfl
 ·walk_at "looks"
theorem oz{pb:List Str}{ln:Int}{q:Str}{e:Expr}{f:Bool}{locs:List (Str×PV)}{np apos cpos pos:Pos}{pl:Sem Bool}(hl:locs.lookup aw=some (.lex pb [] ln))(hz:pb.length≤1000)(he:Ev aa (ac w) w A (ba L) locs e (.str q) f)(ro:Ro A 2)(hst:Hg [e] (ba L)=(false,eval e (ba L))::Hg [] (ba L))
  (hev:eval (.Call (.Attribute (.Name aw np) Aa apos) [e] [] cpos) (ba L)=(do
   let ov ←eval (.Name aw np) (ba L)
   standAt apos.atName
   let(f,first) ←holding [ov] (JI ov Aa pl)
   IU cpos f first (backTo cpos (Hg [e] (ba L))) [])) (hs:JD (.Call (.Attribute (.Name aw np) Aa apos) [e] [] cpos) none pos.line (ba L)=pure false):
  Ex aa (ac w) (cH a0 a1 a2 a3) w A (ba L) (exec (.Expr (.Call (.Attribute (.Name aw np) Aa apos) [e] [] cpos) pos) (ba L)) locs .next (ab aw (.lex (pb++[q]) [] ln) locs):=
 bU (cV (fa:=f&&true) (p:=.lex pb [] ln) (rs:=[.str q]) (ae _) hl rfl rfl rfl (by kernel_rfl) (by kernel_rfl) BG (bb (un.up (ag _))) (bG.cons he bG.nil hst) (Ep w A pb [] ln q hz ro) hst rfl hev) rfl hs
theorem Ah{pb:List Str}{ln:Int}{bk vs sl:List (Str×Str)}{wd wt gl f t:Str}(hf:cw f)(hb:dz bk)(hg:aZ (Hd f) bk=some t)(h1:gl.length≤500)(h2:wt.length≤500)(h3:t.length≤500)(hz:pb.length≤800)(ro:Ro A 4):
  Ex aa (ac w) (cH a0 a1 a2 a3) w A (ba L) (execs ti (ba L)) (fJ pb ln bk vs sl wd wt gl f) .next (fJ (pb++[nI wt gl t]) ln bk vs sl wd wt gl f):=by
 obtain h0:=tY (w:=w) (A:=A) (L:=L) (a0:=a0) (a1:=a1) (a2:=a2) (a3:=a3) (pb:=pb) (ln:=ln) (bk:=bk) (vs:=vs) (sl:=sl) (wd:=wd) (wt:=wt) (gl:=gl) (f:=f) hf hb ro
 rw[hg]at h0
 have hB:=aU
 refine am (locs1:=ab aw (.lex (pb++[nI wt gl t]) [] ln) (zj pb ln bk vs sl wd wt gl f (.str t))) ?_ (by kernel_rfl) ?_
 ·refine af h0 (bo (c7 (c:=false) ?_ rfl (bo (oz (f:=true) ?_ (by omega) ?_ (ro.le (by omega)) rfl rfl rfl))))
  ·show Tr _ _ _ _ _ (zj pb ln bk vs sl wd wt gl f (.str t)) (.Compare _ _ _ _) _
   walk_at "tr"
  ·walk_at "lk"
  ·have l1:(H5 "'").length=1:=rfl
   walk_at "ev"
 ·walk_at "looks"
theorem Ar{pb:List Str}{ln:Int}{bk vs sl:List (Str×Str)}{wd wt gl f:Str}{n1 n2:Int}(hf:cw f)(hb:dz bk)(hg:aZ (Hd f) bk=none)(h1:gl.length≤500)(hk:cw (bu gl f))(hs:dz sl)(hz:sl.length≤500)(hi1:IC ((aZ (Hd (bu gl f)) sl).getD (H5 "0"))=some n1)
  (hl1:((aZ (Hd (bu gl f)) sl).getD (H5 "0")).length≤640) (hi2:IC wt=some n2) (hl2:wt.length≤500) (hn:bL (n1+n2)) (ro:Ro A 6):
  Ex aa (ac w) (cH a0 a1 a2 a3) w A (ba L) (execs ti (ba L)) (fJ pb ln bk vs sl wd wt gl f) .next (fJ pb ln bk vs (gp (Hd (bu gl f)) sl++[(bu gl f,strI (n1+n2))]) wd wt gl f):=by
 obtain h0:=tY (w:=w) (A:=A) (L:=L) (a0:=a0) (a1:=a1) (a2:=a2) (a3:=a3) (pb:=pb) (ln:=ln) (bk:=bk) (vs:=vs) (sl:=sl) (wd:=wd) (wt:=wt) (gl:=gl) (f:=f) hf hb (ro.le (by omega))
 rw[hg]at h0
 have hB:=aU
 obtain hfl:=hf.2.2.2.2
 have l1:(H5 ".").length=1:=rfl
 have hget:dy aa (ac w) w A 205 (.hdr sl) [.str (bu gl f),.str (H5 "0")] (.str ((aZ (Hd (bu gl f)) sl).getD (H5 "0"))) (.hdr sl):=by
  have:=Ce w A sl (bu gl f) (H5 "0") hs hk.1 hk.2.1 (ro.le (by omega))
  cases hq:aZ (Hd (bu gl f)) sl with
  |none=>rw[hq]at this;exact this
  |some v=>rw[hq]at this;exact this
 obtain c1:au aa (ac w) w A (.type "int") [.str ((aZ (Hd (bu gl f)) sl).getD (H5 "0"))] (.int n1) true:=kY hi1 hl1
 obtain c2:au aa (ac w) w A (.type "int") [.str wt] (.int n2) true:=kY hi2 (by omega)
 obtain c3:au aa (ac w) w A (.type "str") [.int (n1+n2)] (.str (strI (n1+n2))) true:=cY hn.1
 obtain hset:=EA w A sl (bu gl f) (strI (n1+n2)) hz hs hk.1 hk.2.1 hk.2.2.1 hn.2.2.2 (ro.le (by omega))
 refine am (locs1:=ab bZ (.hdr (gp (Hd (bu gl f)) sl++[(bu gl f,strI (n1+n2))])) (ab bZ (.hdr sl) (ab kh (.str (bu gl f)) (zj pb ln bk vs sl wd wt gl f .none)))) ?_ (by kernel_rfl) ?_
 ·refine af h0 (bo (cE (c:=true) ?_ rfl ?_))
  ·show Tr _ _ _ _ _ (zj pb ln bk vs sl wd wt gl f .none) (.Compare _ _ _ _) _
   walk_at "tr"
  ·refine af (az (p:=.str (bu gl f)) (ae _) (by simp;decide +kernel) ?_ (Bind.same rfl) (.inl (by kernel_rfl)) rfl) ?_
   ·show Ev _ _ _ _ _ _ _ (.str (gl++H5 "."++f)) _
    walk_at "ev"
   ·refine bo (ss (items:=sl) (n:=bu gl f) (v:=strI (n1+n2)) (f1:=true) (eD (f:=.type "str") (p:=.int (n1+n2)) (Ev.builtin (by kernel_rfl) gN (by decide +kernel) (by kernel_rfl)) bd
     (oV (p:=.int n1) (q:=.int n2) (eD (f:=.type "int") (p:=.str ((aZ (Hd (bu gl f)) sl).getD (H5 "0"))) (Ev.builtin (by kernel_rfl) DB (by decide +kernel) (by kernel_rfl)) bd
      (cV (fa:=true&&(true&&true)) (p:=.hdr sl) (rs:=[.str (bu gl f),.str (H5 "0")]) (ae _) ?_ rfl rfl rfl (by kernel_rfl) (by kernel_rfl) oN (dJ (fg.up (ag _))) ?_ hget rfl rfl rfl) rfl c1 rfl)
      (ft ?_) rfl rfl (fi.add _ _)) rfl c3 rfl) ?_ ?_ (by kernel_rfl) (by kernel_rfl) hset rfl)
    ·walk_at "lk"
    ·walk_at "evs"
    ·walk_at "ev"
    ·walk_at "lk"
    ·walk_at "ev"
 ·walk_at "looks"
end
end
section
section
variable{w:World}{A:Around}{L a0 a1 a2 a3:Addr}
noncomputable abbrev DU(pb:List Str)(ln:Int)(bk vs sl:List (Str×Str))(wd wt gl f:Str)(k:Int)(l r:Str): List (Str×PV):=[(aw,.lex pb [] ln),(aL,.hdr bk),(aT,.hdr vs),(bZ,.hdr sl),(fb,.str wd),(iW,.str wt),(gy,.str gl),(gz,.str f),(ni,.int k),(nh,.str l),(jD,.str r)]
noncomputable abbrev mN(pb:List Str)(ln:Int)(bk vs sl:List (Str×Str))(wd wt gl f:Str)(k:Int)(l r:Str)(n m:Int): List (Str×PV):=[(aw,.lex pb [] ln),(aL,.hdr bk),(aT,.hdr vs),(bZ,.hdr sl),(fb,.str wd),(iW,.str wt),(gy,.str gl),(gz,.str f),(ni,.int k),(nh,.str l),(jD,.str r),(mB,.int n),(qh,.int m)]
theorem pU{pb:List Str}{ln:Int}{bk vs sl:List (Str×Str)}{wd wt gl f l r:Str}{k n:Int}(hf:cw f)(hs:gr f=some (k,l,r))(hi:IC wt=some n)(hw:wt.length≤500)(ro:Ro A 14):
  pB aa (ac w) (cH a0 a1 a2 a3) w A (ba L) (ui.take 3) (fJ pb ln bk vs sl wd wt gl f) (mN pb ln bk vs sl wd wt gl f k l r n (if k==15 then -n else n)):=by
 obtain h:au aa (ac w) w A (.ref 307) [.str f] (.tup [.int k,.str l,.str r]) true:=Br w A f (k,l,r) hf.2.2.2.2 hs ro
 obtain c2:au aa (ac w) w A (.type "int") [.str wt] (.int n) true:=kY hi (by omega)
 refine .cons (locs1:=DU pb ln bk vs sl wd wt gl f k l r) ?_ (.cons (locs1:=ab mB (.int n) (DU pb ln bk vs sl wd wt gl f k l r)) ?_ (.cons ?_ .nil))
 ·refine am (locs1:=ab jD (.str r) (ab nh (.str l) (ab ni (.int k) (fJ pb ln bk vs sl wd wt gl f)))) ?_ (by kernel_rfl) ?_
  ·refine iD (ae _) ro.1 (by simp;decide +kernel) ?_ ?_ ⟨aI _ _ _,aI _ _ _,aI _ _ _,trivial⟩ rfl rfl rfl rfl
   ·walk_at "ev"
   ·intro u hu
    rcases jE hu with rfl | rfl | rfl <;> exact .inl (by kernel_rfl)
  ·walk_at "looks"
 ·refine az (p:=.int n) (ae _) (by simp;decide +kernel) ?_ (Bind.same rfl) (.inl (by kernel_rfl)) rfl
  walk_at "ev"
 ·refine am (locs1:=ab qh (.int (if k==15 then -n else n)) (ab mB (.int n) (DU pb ln bk vs sl wd wt gl f k l r))) ?_ (by kernel_rfl) ?_
  ·refine az (p:=.int (if k==15 then -n else n)) (ae _) (by simp;decide +kernel) ?_ (Bind.same rfl) (.inl (by kernel_rfl)) rfl
   cases hk:(k==15)with
   |true=>
    refine Ev.ifT (c:=(k==15)) ?_ hk ?_
    ·walk_at "tr"
    ·simp only[if_true]
     walk_at "ev"
   |false=>
    refine Ev.ifF (c:=(k==15)) ?_ hk ?_
    ·walk_at "tr"
    ·skip
     walk_at "ev"
  ·walk_at "looks"
theorem n8{pb:List Str}{ln:Int}{bk vs sl:List (Str×Str)}{wd wt gl f l r:Str}{k n m:Int}(hg:gl.length≤500)(hl:l.length≤500)(hr:r.length≤500)(hn:bL n)(hm:bL m)(hz:pb.length≤800)(ro:Ro A 2):
  Ex aa (ac w) (cH a0 a1 a2 a3) w A (ba L) (execs (ui.drop 4) (ba L)) (mN pb ln bk vs sl wd wt gl f k l r n m) .next (fJ ((pb++[nI (strI n) gl l])++[nI (strI m) gl r]) ln bk vs sl wd wt gl f):=by
 have hB:=aU
 have l1:(H5 "'").length=1:=rfl
 have z1:(strI n).length≤640:=hn.2.2.1
 have z2:(strI m).length≤640:=hm.2.2.1
 have c1:au aa (ac w) w A (.type "str") [.int n] (.str (strI n)) true:=cY hn.1
 obtain c2:au aa (ac w) w A (.type "str") [.int m] (.str (strI m)) true:=cY hm.1
 refine am (locs1:=ab aw (.lex ((pb++[nI (strI n) gl l])++[nI (strI m) gl r]) [] ln) (ab aw (.lex (pb++[nI (strI n) gl l]) [] ln) (mN pb ln bk vs sl wd wt gl f k l r n m))) ?_ (by kernel_rfl) ?_
 ·refine af (oz (pb:=pb) (q:=nI (strI n) gl l) (f:=true) ?_ (by omega) ?_ ro rfl rfl rfl) (bo (oz (pb:=pb++[nI (strI n) gl l]) (q:=nI (strI m) gl r) (f:=true) ?_ (by simp only[He,Hh,Ij];omega) ?_ ro rfl rfl rfl))
  ·walk_at "lk"
  ·walk_at "ev"
  ·walk_at "lk"
  ·walk_at "ev"
 ·walk_at "looks"
theorem A2{pb:List Str}{ln:Int}{bk vs sl:List (Str×Str)}{wd wt gl f l r:Str}{k n m:Int}(hk:k≠16): Ex aa (ac w) (cH a0 a1 a2 a3) w A (ba L) (exec ((ui[3]?).getD (.Pass default)) (ba L)) (mN pb ln bk vs sl wd wt gl f k l r n m) .next (mN pb ln bk vs sl wd wt gl f k l r n m):=by
 obtain hk':(k==16)=false:=by simpa using hk
 refine c7 (c:=(k==16)) ?_ hk' aq
 show Tr _ _ _ _ _ _ (.Compare _ _ _ _) _
 walk_at "tr"
theorem wj{pb:List Str}{ln:Int}{bk vs bY cc sl:List (Str×Str)}{wd wt gl f l r:Str}{n m a b:Int}(h1:jo aa (ac w) w A 314 [.str r] [.hdr bk,.hdr vs] (.int b) [.hdr bk,.hdr bY])(h2:jo aa (ac w) w A 314 [.str l] [.hdr bk,.hdr bY] (.int a) [.hdr bk,.hdr cc])(m1:JU n b)(m2:JU m a):
  Ex aa (ac w) (cH a0 a1 a2 a3) w A (ba L) (exec ((ui[3]?).getD (.Pass default)) (ba L)) (mN pb ln bk vs sl wd wt gl f 16 l r n m) .next (mN pb ln bk cc sl wd wt gl f 16 l r (n*b) (m*a)):=by
 refine cE (c:=((16:Int)==16)) ?_ rfl ?_
 ·show Tr _ _ _ _ _ _ (.Compare _ _ _ _) _
  walk_at "tr"
 ·refine af (locs':=mN pb ln bk bY sl wd wt gl f 16 l r (n*b) m) ?_ (bo ?_)
  ·refine am (locs1:=ab mB (.int (n*b)) (ab aT (.hdr bY) (ab aL (.hdr bk) (mN pb ln bk vs sl wd wt gl f 16 l r n m)))) ?_ (by kernel_rfl) ?_
   ·refine bB (p:=.int (n*b)) (ae _) (by simp;decide +kernel) (oV (p:=.int n) (q:=.int b) (ft ?_) (nG (l:=r) (bk:=bk) (vs:=vs) (vs':=bY) (by kernel_rfl) ?_ ?_ ?_ (by kernel_rfl) (by kernel_rfl) h1 rfl rfl rfl rfl) rfl rfl (fi.mul m1)) (Bind.same rfl) (.inl (by kernel_rfl)) rfl
    ·walk_at "ev"
    ·walk_at "lk"
    ·walk_at "lk"
    ·walk_at "lk"
   ·walk_at "looks"
  ·refine am (locs1:=ab qh (.int (m*a)) (ab aT (.hdr cc) (ab aL (.hdr bk) (mN pb ln bk bY sl wd wt gl f 16 l r (n*b) m)))) ?_ (by kernel_rfl) ?_
   ·refine bB (p:=.int (m*a)) (ae _) (by simp;decide +kernel) (oV (p:=.int m) (q:=.int a) (ft ?_) (nG (l:=l) (bk:=bk) (vs:=bY) (vs':=cc) (by kernel_rfl) ?_ ?_ ?_ (by kernel_rfl) (by kernel_rfl) h2 rfl rfl rfl rfl) rfl rfl (fi.mul m2)) (Bind.same rfl) (.inl (by kernel_rfl)) rfl
    ·walk_at "ev"
    ·walk_at "lk"
    ·walk_at "lk"
    ·walk_at "lk"
   ·walk_at "looks"
theorem pB.then{gt:List (Str×Value)}{K:List (Addr×Obj)}{pins:List (Str×Addr)}{w:World}{A:Around}{env:Env}{l:List Stmt}{locs locs1 locs2:List (Str×PV)}{fl:Fl}{r:List Stmt}(h:pB gt K pins w A env l locs locs1)(h2:Ex gt K pins w A env (execs r env) locs1 fl locs2): Ex gt K pins w A env (execs (l++r) env) locs fl locs2:=by
 induction h with
 |nil=>exact h2
 |cons a b ih=>exact af a (ih h2)
theorem zM{D:Nat}{pb pb':List Str}{ln:Int}{bk vs vs' sl sl':List (Str×Str)}{wd:Str}{locs:List (Str×PV)}(hl:locs=B7 pb ln bk vs sl wd∨∃ a b c,locs=fJ pb ln bk vs sl wd a b c)(h:eU bk D pb vs sl wd pb' vs' sl')(hz:pb'.length≤900)(ro:Ro A (16+D)):
  ∃ a b c,Ex aa (ac w) (cH a0 a1 a2 a3) w A (ba L) (execs mh (ba L)) locs .next (fJ (my pb') ln bk vs' sl' (mz pb') a b c):=by
 have tail:∀{wt gl f:Str},Ex aa (ac w) (cH a0 a1 a2 a3) w A (ba L) (execs (mh.drop 3) (ba L)) (fJ pb' ln bk vs' sl' wd wt gl f) .next (fJ (my pb') ln bk vs' sl' (mz pb') wt gl f):=by
  intro wt gl f
  refine am (locs1:=ab fb (.str (mz pb')) (ab aw (.lex (my pb') [] ln) (fJ pb' ln bk vs' sl' wd wt gl f))) ?_ (by kernel_rfl) ?_
  ·refine bo (xU ?_ hz (ro.le (by omega)) rfl)
   walk_at "lk"
  ·walk_at "looks"
 induction h using eU.casesOn with
 |leaf hp h1 h2 h3 h4 hk ht hb hg hn hs hz1 hi1 hl1 hi2 hno=>
  exact⟨_,_,_,(l7 hl hp h1 h2 (ro.le (by omega))).then (af (cE (th hk (ro.le (by omega)) (decide_eq_true ht)) rfl (Ar hk hb hg h3 hn hs hz1 hi1 hl1 hi2 h4 hno (ro.le (by omega)))) tail)⟩
 |link hp h1 h2 h3 h4 hk ht hb hg h5 hz1=>
  exact⟨_,_,_,(l7 hl hp h1 h2 (ro.le (by omega))).then (af (cE (th hk (ro.le (by omega)) (decide_eq_true ht)) rfl (Ah hk hb hg h3 h4 h5 hz1 (ro.le (by omega)))) tail)⟩
 | @plus _ _ wt gl f0 l r k n hp h1 h2 h3 h4 hk ht hs h5 h6 hne hi hn hm hz1=>
  refine⟨wt,gl,aC f0,(l7 hl hp h1 h2 (ro.le (by omega))).then (af (c7 (th hk (ro.le (by omega)) (decide_eq_false (by omega))) rfl ?_) tail)⟩
  exact(pU hk hs hi h4 (ro.le (by omega))).then (af (A2 hne) (n8 h3 h5 h6 hn hm hz1 (ro.le (by omega))))
 | @times _ _ bY _ wt gl f0 l r n a b hp h1 h2 h3 h4 hk ht hs h5 h6 hi hv1 hv2 m1 m2 hn hm hz1=>
  refine⟨wt,gl,aC f0,(l7 hl hp h1 h2 (ro.le (by omega))).then (af (c7 (th hk (ro.le (by omega)) (decide_eq_false (by omega))) rfl ?_) tail)⟩
  exact(pU hk hs hi h4 (ro.le (by omega))).then (af (wj (tF hv1 A (ro.le (by omega))) (tF hv2 A (ro.le (by omega))) m1 m2) (n8 h3 h5 h6 hn hm hz1 (ro.le (by omega))))
theorem we{locs:List (Str×PV)}{wd:Str}(hl:locs.lookup fb=some (.str wd)): Tr aa (ac w) w A (ba L) locs (oa w9) (wd != H5 ""):=by
 show Tr _ _ _ _ _ _ (.Compare _ _ _ _) _
 walk_at "tr"
theorem Ac{D:Nat}{bk:List (Str×Str)}{ln:Int}(ro:Ro A (16+D)){pb:List Str}{vs sl vs' sl':List (Str×Str)}{wd:Str}(h:jq bk D pb vs sl wd vs' sl'): ∀(locs:List (Str×PV)),(locs=B7 pb ln bk vs sl wd∨∃ a b c,locs=fJ pb ln bk vs sl wd a b c)→
  ∃ n locs',jm aa (ac w) (cH a0 a1 a2 a3) w A (ba L) (oa w9) mh n locs .next locs'∧∀ q∈[aw,aL,aT,bZ].zip [PV.lex [] [] ln,.hdr bk,.hdr vs',.hdr sl'],locs'.lookup q.1=some q.2:=by
 induction h with
 | @done vs sl=>
  intro locs hl
  refine⟨0,locs,.done ?_,?_⟩
  ·refine we (wd:=H5 "") ?_
   rcases hl with rfl | ⟨a,b,c,rfl⟩ <;> walk_at "lk"
  ·intro q hq
   simp only[Kw,List.zip_nil_right,Ha,Hs,or_false]at hq
   rcases hl with rfl | ⟨a,b,c,rfl⟩ <;> rcases hq with rfl | rfl | rfl | rfl <;> kernel_rfl
 | @step pb pb' vs bY cc sl sl1 sl2 wd hw hs hz _ ih=>
  intro locs hl
  obtain⟨a,b,c,hx⟩:=zM (w:=w) (A:=A) (L:=L) (a0:=a0) (a1:=a1) (a2:=a2) (a3:=a3) (ln:=ln) hl hs hz ro
  obtain⟨n,locs',h,r⟩:=ih _ (.inr ⟨a,b,c,rfl⟩)
  refine⟨n+1,locs',.step ?_ hx h,r⟩
  rw[←hw]
  refine we (wd:=wd) ?_
  rcases hl with rfl | ⟨a,b,c,rfl⟩ <;> walk_at "lk"
theorem Et{D:Nat}{bk:List (Str×Str)}{ln:Int}(ro:Ro A (17+D)){pb:List Str}{vs sl vs' sl':List (Str×Str)}(hz:pb.length≤900)(h:jq bk D (my pb) vs sl (mz pb) vs' sl'): jo aa (ac w) w A 321 [] [.lex pb [] ln,.hdr bk,.hdr vs,.hdr sl] .none [.lex [] [] ln,.hdr bk,.hdr vs',.hdr sl']:=by
 refine tZ (xf:=[]) (xo:=[aw,aL,aT,bZ]) (fw:=.next) (n:=16+D) (sH.toS.up (ag w)) ⟨ro.1,by obtain this:=ro.2.1;omega,by obtain this:=ro.2.2;omega⟩ ?_ rfl rfl rfl rfl rfl ?_ ?_ ?_ ?_ ?_ (.inr ⟨rfl,rfl⟩) ?_
 ·intro x hx
  rcases rM hx with rfl | rfl | rfl | rfl <;> kernel_rfl
 ·intro p hp
  rcases rM hp with rfl | rfl | rfl | rfl <;> rfl
 ·intro p hp
  rcases rM hp with rfl | rfl | rfl | rfl <;> rfl
 ·intro p hp
  cases hp
 ·intro p hp
  rcases rM hp with rfl | rfl | rfl | rfl
  ·exact fU
  ·exact df
  ·exact df
  ·exact df
 ·intro h vs g hl
  revert hl;revert vs;exact Ea fun a b c d=>HD (sH.bind [a,b,c,d] rfl)
 ·intro L as hl ro'
  revert hl;revert as;refine Ea fun a0 a1 a2 a3=>?_
  obtain⟨n,locs',hW,hq⟩:=Ac (w:=w) (A:=A.deeper (ah 321 y7 L)) (L:=L) (a0:=a0) (a1:=a1) (a2:=a2) (a3:=a3) (ln:=ln) ro' h _ (.inl rfl)
  refine⟨locs',?_,hq⟩
  refine af (locs':=B7 (my pb) ln bk vs sl (mz pb)) ?_ (bo (qK hW))
  refine am (locs1:=ab fb (.str (mz pb)) (ab aw (.lex (my pb) [] ln) ([aw,aL,aT,bZ].zip [PV.lex pb [] ln,.hdr bk,.hdr vs,.hdr sl]))) ?_ (by kernel_rfl) ?_
  ·refine xU ?_ hz (ro'.le (by omega)) rfl
   kernel_rfl
  ·walk_at "looks"
end
end
section
section
noncomputable def Lk(k:Nat→Int)(a b:Nat): Prop:=k a<k b∨k a=k b∧a<b
theorem Lk.tr{k:Nat→Int}{a b c:Nat}(h1:Lk k a b)(h2:Lk k b c): Lk k a c:=h1.elim (fun h1=>h2.elim (fun h2=>.inl (Int.lt_trans h1 h2)) fun h2=>.inl (h2.1▸h1)) fun h1=>h2.elim (fun h2=>.inl (h1.1▸h2)) fun h2=>.inr ⟨h1.1.trans h2.1,IN h1.2 h2.2⟩
theorem Lk.le{k:Nat→Int}{a b:Nat}(h:Lk k a b): k a≤k b:=h.elim Int.le_of_lt fun h=>Int.le_of_eq h.1
noncomputable def zf(N:Nat)(L:List Nat): Array Nat:=(L++Iw L.length (N - L.length)).toArray
theorem nW{N:Nat}{L:List Nat}(h:L.length<N): zf N (L++[L.length])=zf N L:=by
 unfold zf
 rw[show N - L.length=N - (L++[L.length]).length+1 by rw[He];exact(Nat.sub_add_cancel (Nat.sub_pos_of_lt h)).symm,Md,Ho,He]
 rfl
theorem nZ{N i a:Nat}{X T:List Nat}(h:X.length=i): (zf N (X++a::T)).getD i 0=a:=by
 subst h
 rw[Array.getD_eq_getD_getElem?,zf,HR,Ho,HO (Hw _),Lp]
 rfl
theorem E9{N i:Nat}{L:List Nat}(h:L.length<N)(e:L.length=i): (zf N L).getD i 0=i:=by
 subst e
 rw[←nW h];exact nZ rfl
theorem iE{X l:List Nat}{i:Nat}: (X++l)[X.length+i]? = l[i]?:=by rw[HO (HQ _ _),Jh]
theorem zF{a b j:Nat}(h:j<b): a+(a+b) - 1 - (a+j)=a+(b - 1 - j):=by
 obtain h:1+j≤b:=HU 1 j▸h
 rw[Nat.sub_sub,Nat.sub_sub,Nat.add_left_comm 1 a j,Nat.add_sub_assoc (Ic h _),Nat.add_sub_add_left]
theorem wc{A B T:List Nat}: kas_rev (A++(B++T)).toArray A.length (A.length+B.length)=(A++(B.reverse++T)).toArray:=by
 refine Array.ext_getElem? fun k=>(getElem?_mirror_all ?_ k).trans ?_
 ·rw[Hx,He,He,←Ih];exact HQ _ _
 ·rw[HR,HR,HR]
  rcases KN k A.length with h1 | h1
  ·exact(if_neg fun h=>MY.mpr h1 h.1).trans ((HK h1).trans (HK h1).symm)
  ·obtain⟨j,rfl⟩:=Me h1
   refine Eq.trans ?_ iE.symm
   rcases KN j B.length with h2 | h2
   ·exact(if_pos ⟨h1,Nat.add_lt_add_left h2 _⟩).trans ((congrArg _ (zF h2)).trans (iE.trans ((HK (HS (Mp _ _) (Nat.sub_lt (Nat.zero_lt_of_lt h2) Nat.one_pos))).trans ((List.getElem?_reverse h2).symm.trans (HK (HJ.symm▸h2)).symm))))
   ·refine(if_neg fun h=>Hz.mpr h2 (Nat.lt_of_add_lt_add_left h.2)).trans (iE.trans ((HO h2).trans ?_))
    rw[HO (HJ.symm▸h2),HJ]
theorem A1{n:Nat}{X Y T:List Nat}: bubble (X++(Y++n::T)).toArray (X.length+Y.length) Y.length=(X++n::(Y++T)).toArray:=by
 refine Array.ext_getElem? fun k=>(getElem?_bubble ?_ _ (J2 _ _) k).trans ?_
 ·rw[Hx,He,He];exact Nat.add_lt_add_left (Ib (Io _)) _
 ·rw[Nat.add_sub_cancel,HR,HR,HR,HR]
  rcases KN k X.length with h1 | h1
  ·exact(if_neg (Im h1)).trans ((if_neg fun h=>N1 h1 h.1).trans ((HK h1).trans (HK h1).symm))
  ·obtain⟨j,rfl⟩:=Me h1
   refine Eq.trans ?_ iE.symm
   cases j with
   |zero=>exact(if_pos (Nat.add_zero _)).trans (iE.trans ((HO (Hw _)).trans (by rw[Lp];rfl)))
   |succ j=>
    have h2:=Ib (n:=X.length) (Io j)
    refine(if_neg (Ju h2)).trans ?_
    rcases KN j Y.length with h3 | h3
    ·exact(if_pos ⟨h2,Ic h3 _⟩).trans (iE.trans ((HK h3).trans (HK (l₂:=T) h3).symm))
    ·refine(if_neg fun h=>Hz.mpr h3 (Nat.le_of_add_le_add_left h.2)).trans (iE.trans ((HO (Iu h3)).trans ?_))
     rw[Nat.succ_sub h3]
     exact(HO h3).symm
theorem nV{N n i:Nat}{A B:List Nat}(e:A.length+B.length=n)(ei:A.length=i): kas_rev (zf N (A++B)) i n=zf N (A++B.reverse):=by
 subst ei e
 unfold zf
 rw[Ho,Ho,wc,He,He,HJ]
theorem BY{N n d:Nat}{X Y:List Nat}(h:n<N)(e:X.length+Y.length=n)(ed:Y.length=d): bubble (zf N (X++Y)) n d=zf N (X++n::Y):=by
 subst ed e
 rw[←nW (L:=X++Y) (He▸h)]
 unfold zf
 rw[Ho,Ho,Ho,Ho,He,He,He,He]
 exact A1 (n:=X.length+Y.length) (X:=X) (Y:=Y) (T:=Iw (X.length+(Y.length+1)) (N - (X.length+(Y.length+1))))
end
end
section
section
variable{k:Nat→Int}{N:Nat}{cmp:Nat→Nat→(Bool→Shared→Prop)→Shared→Prop}{s:Shared}
noncomputable def pA(k:Nat→Int)(N:Nat)(cmp:Nat→Nat→(Bool→Shared→Prop)→Shared→Prop): Prop:=∀ i j (C:Bool→Shared→Prop) s,i<N→j<N→(k i<k j→C true s)→(k j≤k i→C false s)→cmp i j C s
noncomputable abbrev Lw(R:List Nat): Prop:=∀ a∈R,a<R.length
theorem Lw.cons{R:List Nat}(h:Lw R): Lw (R.length::R):=Jd.mpr ⟨HV _,fun a ha=>IW (h a ha)⟩
theorem Lw.perm{R S:List Nat}(p:S.Perm R)(h:Lw R): Lw S:=fun a ha=>p.length_eq▸h a (p.mem_iff.mp ha)
theorem iJ{n:Nat}{R:List Nat}(e:R.length=n)(h:n<N): zf N (n::R).reverse=zf N R.reverse:=by
 subst e
 rw[KL]
 exact(congrArg (fun n=>zf N (R.reverse++[n])) HJ.symm).trans (nW (HJ.symm▸h))
theorem kT{a i:Nat}{R:List Nat}(h:R.length=i): (zf N (a::R).reverse).getD i 0=a:=by
 rw[KL];exact nZ (HJ.trans h)
theorem tb{n:Nat}{R:List Nat}(e:R.length=n)(h:n<N): (zf N R.reverse).getD n 0=n:=by
 rw[←iJ e h];exact kT e
theorem w7{n q:Nat}{A B:List Nat}(e:(B++A).length=n)(eq:B.length=q): kas_rev (zf N (B++A).reverse) (n - q) n=zf N (B.reverse++A).reverse:=by
 rw[He,HU]at e
 rw[List.reverse_append,List.reverse_append]
 exact nV (by rw[HJ,HJ];exact e) (by rw[HJ,←e,eq,Nat.add_sub_cancel])
noncomputable abbrev Up(k:Nat→Int)(R:List Nat): Prop:=R.Pairwise fun a b=>Lk k b a
noncomputable abbrev Dn(k:Nat→Int)(R:List Nat): Prop:=R.Pairwise (Lk k)
theorem yS(hc:pA k N cmp){G:Nat→Shared→Prop}: ∀(f l n:Nat) (R:List Nat),(l::R).length=n→n+f=N→Up k (l::R)→Lw (l::R)→(∀ l' R' n',(l'::R').length=n'→Up k (l'::R')→Lw (l'::R')→zf N (l'::R').reverse=zf N (l::R).reverse→(n'=N∨n'<N∧k n'<k l')→G n' s)→(kas_asc (zf N (l::R).reverse) f n).kasWp cmp G s:=by
 intro f
 induction f with
 |zero=>exact fun l n R e1 e u b h=>h l R n e1 u b rfl (.inl e)
 |succ f ih=>
  intro l n R e1 e u b h
  have hn:n<N:=e▸Ib (Io f)
  show cmp ((zf N (l::R).reverse).getD n 0) ((zf N (l::R).reverse).getD (n - 1) 0) _ s
  rw[tb e1 hn,kT (R:=R) (i:=n - 1) (e1▸rfl)]
  refine hc _ _ _ _ hn (IN (e1▸b l (.head _)) hn) (fun hl=>h l R n e1 u b rfl (.inr ⟨hn,hl⟩)) fun hl=>?_
  show(kas_asc (zf N (l::R).reverse) f (n+1)).kasWp cmp G s
  rw[←iJ e1 hn]at h ⊢
  have hx:∀ a∈l::R,Lk k a n:=fun a ha=>(Int.lt_or_eq_of_le ((Ha.mp ha).elim (fun e=>e▸hl) fun ha=>N5 ((Kx.mp u).1 a ha).le hl)).imp id fun e=>⟨e,e1▸b a ha⟩
  exact ih n (n+1) (l::R) (congrArg _ e1) (by rw[←e,Ih,HU 1 f]) (.cons hx u) (e1▸b.cons) h
structure Ds(k:Nat→Int)(A:List Nat)(b:Nat)(B:List Nat): Prop where
 dn:Dn k A
 lt:∀ x∈A,k b<k x
 eq:∀ y∈b::B,k y=k b
 ord:(b::B).Pairwise fun a b=>b<a
 lw:Lw (b::B++A)
theorem Ds.turn{A B:List Nat}{b:Nat}(D:Ds k A b B): Dn k ((b::B).reverse++A):=
 Jx.mpr ⟨K2.mpr (D.ord.imp_of_mem fun ha hb h=>.inr ⟨(D.eq _ hb).trans (D.eq _ ha).symm,h⟩),D.dn,fun y hy x hx=>.inl (D.eq y (Kd.mp hy)▸D.lt x hx)⟩
theorem Ds.fresh{n:Nat}{R:List Nat}(e:R.length=n)(d:Dn k R)(b:Lw R)(h:∀ x∈R,k n<k x): Ds k R n []:=⟨d,h,fun y hy=>H7.mp hy▸rfl,IQ _ _,e▸b.cons⟩
theorem AU(hc:pA k N cmp){G:Array Nat×Nat×Nat→Shared→Prop}(h:∀ A b B n,(b::B++A).length=n→n≤N→Ds k A b B→G (zf N (b::B++A).reverse,n,B.length) s): ∀(f b n:Nat) (A B:List Nat),(b::B++A).length=n→n+f=N→Ds k A b B→(kas_desc f (zf N (b::B++A).reverse) n B.length).kasWp cmp G s:=by
 intro f
 induction f with
 |zero=>exact fun b n A B e1 e D=>h A b B n e1 (HM e) D
 |succ f ih=>
  intro b n A B e1 e D
  have hn:n<N:=e▸Ib (Io f)
  have hb:b<n:=e1▸D.lw b (.head _)
  have e2:n+1+f=N:=by rw[←e,Ih,HU 1 f]
  have e3:(zf N (b::B++A).reverse).getD (n - 1) 0=b:=kT (R:=B++A) (e1▸rfl)
  show cmp ((zf N (b::B++A).reverse).getD n 0) ((zf N (b::B++A).reverse).getD (n - 1) 0) _ s
  rw[tb e1 hn,e3]
  refine hc _ _ _ _ hn (IN hb hn) (fun hl=>?_) fun hl=>?_
  ·have p:=(K6 (b::B)).append_right A
   have e4:=p.length_eq.trans e1
   have j:(kas_desc f (zf N (n::((b::B).reverse++A)).reverse) (n+1) 0).kasWp cmp G s:=ih n (n+1) _ [] (congrArg _ e4) e2 (.fresh e4 D.turn (D.lw.perm p) fun x hx=>(H9.mp hx).elim (fun hx=>D.eq x (Kd.mp hx)▸hl) fun hx=>Int.lt_trans hl (D.lt x hx))
   rw[iJ e4 hn]at j
   show(if B.length > 0 then kas_desc f (kas_rev (zf N (b::B++A).reverse) (n - (B.length+1)) n) (n+1) 0 else kas_desc f (zf N (b::B++A).reverse) (n+1) 0).kasWp cmp G s
   cases B with
   |nil=>exact j
   |cons b' B=>rw[if_pos (show(b'::B).length > 0 from Io _),w7 (q:=(b'::B).length+1) e1 rfl];exact j
  ·show cmp b n _ s
   refine hc _ _ _ _ (IN hb hn) hn (fun _=>h A b B n e1 (IG hn) D) fun hg=>?_
   have ek:k n=k b:=Int.le_antisymm hg hl
   have j:=ih n (n+1) A (b::B) (congrArg _ e1) e2 ⟨D.dn,ek▸D.lt,fun y hy=>(Ha.mp hy).elim (fun e=>e▸rfl) fun hy=>(D.eq y hy).trans ek.symm,.cons (fun y hy=>e1▸D.lw y (H8 _ hy)) D.ord,e1▸D.lw.cons⟩
   rw[show(n::b::B++A)=n::(b::B++A)from rfl,iJ e1 hn]at j
   exact j
inductive Fx(k:Nat→Int)(N:Nat): Nat×Array Nat→Prop
 |mk(L:List Nat)(n:Nat)(e:L.length=n)(h1:1≤n)(hn:n≤N)(u:L.Pairwise (Lk k))(b:Lw L): Fx k N (n,zf N L)
theorem wI{l n:Nat}{R:List Nat}(e:(l::R).length=n)(hn:n≤N)(u:Up k (l::R))(b:Lw (l::R)): Fx k N (n,zf N (l::R).reverse):=
 .mk _ n (HJ.trans e) (e▸Io _) hn (K2.mpr u) (b.perm (K6 _))
theorem zH(hc:pA k N cmp){G:Nat×Array Nat→Shared→Prop}(h:∀ r,Fx k N r→G r s){n:Nat}{R:List Nat}(e:R.length=n)(h1:1≤n)(hn:n≤N)(d:Dn k R)(b:Lw R): (kas_tail3 n N (zf N R.reverse)).kasWp cmp G s:=by
 have er:kas_rev (zf N R.reverse) 0 n=zf N R.reverse.reverse:=nV (A:=[]) ((Jc _).trans (HJ.trans e)) rfl
 have b':=b.perm (K6 R)
 have u:Up k R.reverse:=K2.mpr d
 rw[←HJ]at e
 unfold kas_tail3
 rw[er,Ku]
 generalize R.reverse=S at *
 cases S with
 |nil=>subst e;cases h1
 |cons l S=>exact yS hc _ l n S e (JB hn) u b' fun l' R' n' e u b z hz=>z▸h _ (wI e (hz.elim HM fun h=>IG h.1) u b)
theorem qT(hc:pA k N cmp){G:Nat×Array Nat→Shared→Prop}(h:∀ r,Fx k N r→G r s){n:Nat}{R:List Nat}(e:R.length=n)(hn:n<N)(d:Dn k R)(b:Lw R)(hk:∀ x∈R,k n<k x): (Mu n N (zf N R.reverse)).kasWp cmp G s:=by
 unfold Mu
 rw[Ku,←iJ e hn]
 refine AU hc (fun A b B m e hm D=>?_) _ n (n+1) R [] (congrArg _ e) (JB hn) (.fresh e d b hk)
 have p:=(K6 (b::B)).append_right A
 have j:=zH hc h (p.length_eq.trans e) (e▸Io _) hm D.turn (D.lw.perm p)
 cases B with
 |nil=>exact j
 |cons b' B=>exact(w7 e rfl▸j:(kas_tail3 m N (kas_rev (zf N (b::b'::B++A).reverse) (m - (B.length+1+1)) m)).kasWp cmp G s)
theorem yC(hc:pA k N cmp){G:Nat×Array Nat→Shared→Prop}(h:∀ r,Fx k N r→G r s)(h1:1≤N): (kas_count N (zf N [0])).kasWp cmp G s:=by
 unfold kas_count
 rw[Ku]
 refine yS hc _ 0 1 [] rfl (JB h1) (IQ _ _) (fun a ha=>H7.mp ha▸Nat.one_pos) fun l R n e u b z hz=>?_
 have z:zf N (l::R).reverse=zf N [0]:=z
 have hr:n≤N→G (n,zf N [0]) s:=fun h'=>z▸h _ (wI e h' u b)
 by_cases hN:n=N
 ·rw[if_pos (beq_iff_eq.mpr hN)]
  exact hr (HM hN)
 ·obtain⟨hn,hl⟩:=hz.resolve_left hN
  rw[if_neg (mt beq_iff_eq.mp hN)]
  have e':(l::R).reverse.length=n:=HJ.trans e
  have zn:(zf N (l::R).reverse).getD (n - 1) 0=l:=kT (R:=R) (e▸rfl)
  have zr:kas_rev (zf N (l::R).reverse) 0 n=zf N (l::R).reverse.reverse:=nV (A:=[]) ((Jc _).trans e') rfl
  have u':(l::R).reverse.Pairwise (Lk k):=K2.mpr u
  have b':=b.perm (K6 _)
  have lm:l∈(l::R).reverse:=Kd.mpr (.head _)
  rw[MQ]at zr
  rw[←z]
  cases hS:(l::R).reverse with
  |nil=>rw[hS]at lm;cases lm
  |cons q T=>
   rw[hS]at u' b' e' zn zr lm
   have hq:∀ x∈q::T,k q≤k x:=fun x hx=>(Ha.mp hx).elim (fun e=>e▸JN _) fun hx=>((Kx.mp u').1 x hx).le
   have j:k l≤k q→(Mu n N (zf N (l::R))).kasWp cmp G s:=fun a=>by
    have:=qT hc h (R:=q::T) e' hn u' b' fun x hx=>Int.lt_of_lt_of_le hl (N5 a (hq x hx))
    rwa[←hS,MQ]at this
   by_cases h1:n > 1
   ·rw[if_pos h1]
    show cmp q ((zf N (q::T)).getD (n - 1) 0) _ s
    rw[zn]
    refine hc _ _ _ _ (IN (e'▸b' q (.head _)) hn) (IN (e'▸b' l lm) hn) (fun _=>?_) fun hl=>?_
    ·exact z.symm.trans (congrArg (zf N) hS)▸hr (IG hn)
    ·show(Mu n N (kas_rev (zf N (q::T)) 0 n)).kasWp cmp G s
     rw[zr];exact j hl
   ·rw[if_neg h1]
    cases R with
    |nil=>cases hS;exact j (JN _)
    |cons r R=>exact absurd (e▸Nat.succ_lt_succ (Io _)) h1
theorem wU(hc:pA k N cmp){n:Nat}{L:List Nat}(e:L.length=n)(hn:n<N)(u:L.Pairwise (Lk k))(b:Lw L){G:Nat→Shared→Prop}(h:∀ X Y,X++Y=L→(∀ a∈X,k a≤k n)→(∀ a∈Y,k n<k a)→G X.length s): ∀(f:Nat) (X M Y:List Nat) (l r:Nat),X++(M++Y)=L→X.length=l→l+M.length=r→M.length≤f→(∀ a∈X,k a≤k n)→(∀ a∈Y,k n<k a)→(kas_place (zf N L) n f l r).kasWp cmp G s:=by
 intro f
 induction f with
 |zero=>
  intro X M Y l r e1 e2 e3 hf h1 h2
  cases M with
  |nil=>exact e2▸h X Y e1 h1 h2
  |cons=>cases hf
 |succ f ih=>
  intro X M Y l r e1 e2 e3 hf h1 h2
  show(if l≥r then KasT.ret l else KasT.ask ((zf N L).getD n 0) ((zf N L).getD ((l+r) / 2) 0) fun c=>if c=true then kas_place (zf N L) n f l ((l+r) / 2)else kas_place (zf N L) n f ((l+r) / 2+1) r).kasWp cmp G s
  by_cases hlr:l≥r
  ·rw[if_pos hlr]
   cases M with
   |nil=>exact e2▸h X Y e1 h1 h2
   |cons=>exact absurd hlr (MY.mpr (e3▸Ib (Io _)))
  ·rw[if_neg hlr]
   obtain⟨M1,a,M2,rfl,hm⟩:∃ M1 a M2,M=M1++a::M2∧M1.length=M.length / 2:=by
    have hM:0<M.length:=Nat.pos_of_ne_zero fun z=>hlr (by rw[←e3,z];exact Hw _)
    have hd:=Nat.div_lt_self hM (HV 1)
    exact⟨_,_,_,((J6 (M.length / 2) M).symm.trans (congrArg _ (LJ hd))),List.length_take_of_le (IG hd)⟩
   rw[He,Hh]at e3 hf hm
   have el:(X++M1).length=(l+r) / 2:=by rw[←e3,He,e2,←Ih,←Nat.two_mul,Nat.mul_add_div (Io 1),←hm]
   rw[Ho,Hp]at e1
   have e4:X++M1++a::(M2++Y)=L:=(Ho ..).trans e1
   have ea:(zf N L).getD ((l+r) / 2) 0=a:=by rw[←e4];exact nZ el
   have u:=e4▸u
   obtain⟨_,u2,u3⟩:=Jx.mp u
   show cmp ((zf N L).getD n 0) ((zf N L).getD ((l+r) / 2) 0) _ s
   rw[E9 (e.symm▸hn) e,ea]
   refine hc _ _ _ _ hn (IN (e▸b a (e4▸Hb _ (.head _))) hn) (fun hl=>?_) fun hl=>?_
   ·exact ih X M1 (a::(M2++Y)) l _ e1 e2 (by rw[←el,He,e2]) (Mv (H6 (Ic (Io _) _) hf)) h1 fun x hx=>(Ha.mp hx).elim (fun e=>e▸hl) fun hx=>Int.lt_of_lt_of_le hl ((Kx.mp u2).1 x hx).le
   ·exact ih (X++M1++[a]) M2 Y _ r (by rw[Ho];exact e4) (by rw[He,el];rfl) (by rw[←el,He,e2,←e3,Ih,Ih,HU 1]) (Mv (H6 (J2 _ _) hf)) (fun x hx=>(H9.mp hx).elim (fun hx=>N5 (u3 x hx a (.head _)).le hl) fun hx=>H7.mp hx▸hl) h2
theorem DC(hc:pA k N cmp){G:Array Nat→Shared→Prop}(h:∀ L,L.length=N→L.Pairwise (Lk k)→Lw L→G L.toArray s): ∀(f n:Nat) (L:List Nat),L.length=n→n+f=N→L.Pairwise (Lk k)→Lw L→(kas_bin f (zf N L) n).kasWp cmp G s:=by
 intro f
 induction f with
 |zero=>
  intro n L e1 e u b
  obtain this:=h L (e1.trans e) u b
  show G (L++Iw L.length (N - L.length)).toArray s
  rwa[e1.trans e,Lp,List.range'_zero,Hj]
 |succ f ih=>
  intro n L e1 e u b
  have hn:n<N:=e▸Ib (Io f)
  show((kas_place (zf N L) n n 0 n).bind fun l=>kas_bin f (bubble (zf N L) n (n - l)) (n+1)).kasWp cmp G s
  rw[Ku]
  refine wU hc e1 hn u b (fun X Y eL h1 h2=>?_) n [] L [] 0 n (Hj _) rfl ((Jc _).trans e1) (HM e1) (fun _ h=>(nomatch h)) fun _ h=>(nomatch h)
  subst eL
  obtain⟨u1,u2,u3⟩:=Jx.mp u
  have el:=He.symm.trans e1
  show(kas_bin f (bubble (zf N (X++Y)) n (n - X.length)) (n+1)).kasWp cmp G s
  rw[BY hn el (by rw[←el,Jh])]
  exact ih _ _ (List.perm_middle.length_eq.trans (congrArg _ e1)) (by rw[←e,Ih,HU 1 f]) (Jx.mpr ⟨u1,.cons (fun y hy=>.inl (h2 y hy)) u2,fun x hx y hy=>(Ha.mp hy).elim (fun ey=>ey▸(Int.lt_or_eq_of_le (h1 x hx)).imp id fun e=>⟨e,e1▸b x (H8 _ hx)⟩) (u3 x hx y)⟩) ((e1▸b.cons:Lw (n::(X++Y))).perm List.perm_middle)
theorem zQ(hc:pA k N cmp){G:Array Nat→Shared→Prop}(h:∀ L,L.length=N→L.Pairwise (Lk k)→Lw L→G L.toArray s)(h1:1≤N): (kas_sort N).kasWp cmp G s:=by
 have e0:(Ix N).toArray=zf N [0]:=Eq.trans (by rw[Jy];rfl) (nW (L:=[]) h1).symm
 unfold kas_sort
 rw[Ku,e0]
 refine yC hc (fun r hr=>?_) h1
 obtain⟨L,n,e,hn1,hn,u,b⟩:=hr
 have j:=DC hc h (N - n) n L e (JB hn) u b
 show(if n<N then kas_bin (N - max n 1) (zf N L) (max n 1)else KasT.ret (zf N L)).kasWp cmp G s
 rw[Nat.max_eq_left hn1]
 by_cases hN:n<N
 ·rw[if_pos hN];exact j
 ·rw[if_neg hN]
  rwa[KU (Nat.le_of_not_lt hN)]at j
end
end
section
structure yU(kz:List Int)(vs out:List Value)(I:List Nat): Prop where
 len:I.length=vs.length
 lt:∀ a∈I,a<vs.length
 out:out=I.map fun i=>vs.getD i .none
 ord:I.Pairwise (Lk fun i=>kz.getD i 0)
section
variable{w:World}{A:Around}{s:Shared}
theorem qr{ks:List Value}{kz:List Int}(hk:IntsAre ks kz){i:Nat}(h:i<ks.length): ∃ t,ks.getD i .none=.int (kz.getD i 0) t:=hk.int_at i _ (by rw[Ia,Hv h];rfl)
theorem vL{ks:List Value}{kz:List Int}(hk:IntsAre ks kz): pA (fun i=>kz.getD i 0) ks.length (kas_ask pw w A oneType' ks):=fun i j C s hi hj ht hf=>by
 obtain⟨t,e⟩:=qr hk hi
 obtain⟨u,e'⟩:=qr hk hj
 unfold kas_ask
 rw[e,e']
 refine kat_lt_int ?_
 by_cases h:kz.getD i 0<kz.getD j 0
 ·rw[decide_eq_true h];exact ht h
 ·rw[decide_eq_false h];exact hf (Int.not_lt.mp h)
theorem j8{xs:Array Value}{n:Nat}: cD (seqObj "list" xs n)=false:=rfl
theorem uI{s0:Shared}{a kS:Addr}{vs:List Value}{keys:Array Value}{e e1:Nat}{st:SortSt}{P:PySem.Fin→Shared→Prop}(k0:aG [] s0 s)(ha0:s0.heap.objs.size≤a)(hk0:s0.heap.objs.size≤kS)(hka:kS≠a)
  (nk:s.heap.get? kS=some (seqObj "list" keys e)) (na:s.heap.get? a=some (seqObj "list" #[] e1)) (hks:keys.size=vs.length) (h64:vs.length<64) (hout:((arrOf st).map (·.2)).size=vs.length) (hfl:failedOf st=none)
  (h:∀ s' c,aG [] s0 s'→s'.heap.get? a=some (seqObj "list" ((arrOf st).map (·.2)) c)→P (.done (.ret .none)) s'):wpAny (model pw w) A (ksk_tail a false e1 (.ref kS) st) P (fun _ _=>False) s:=by
 obtain s1:=IK s.heap kS (HC fun _=>(#[]:Array Value))
 have na1:(s.heap.update kS (HC fun _=>(#[]:Array Value))).get? a=some (seqObj "list" #[] e1):=(s1.2 a hka.symm).trans na
 obtain s2:=IK (s.heap.update kS (HC fun _=>(#[]:Array Value))) a (HC fun _=>(arrOf st).map (·.2))
 obtain⟨c2,hc2⟩:∃ c2,((s.heap.update kS (HC fun _=>(#[]:Array Value))).update a (HC fun _=>(arrOf st).map (·.2))).get? a=some (seqObj "list" ((arrOf st).map (·.2)) c2):=⟨_,MB na1 fun _=>(arrOf st).map (·.2)⟩
 skip
 try dsimp only
 refine Hc (LY nk rfl ?_ (by rw[hks,JM];omega) (HT _))
 refine Hc (wpAny_letGo ?_)
 refine Hc (seqEpoch_at na1 rfl ?_)
 skip
 refine Hc (LY na1 rfl ?_ (HT _) (H6 (HM hout) (by rw[JM];omega)))
 rw[hfl]
 simp only[bne_self_eq_false,Hq,if_false]
 refine Hi (h _ c2 ?_ hc2)
 obtain k1:aG [kS] s { s with heap:=s.heap.update kS (HC fun _=>(#[]:Array Value)) }:=⟨aj.same nk j8 s1,fun _ _ e=>e,id,rfl⟩
 obtain k2:aG [a] { s with heap:=s.heap.update kS (HC fun _=>(#[]:Array Value)) } { s with heap:=(s.heap.update kS (HC fun _=>(#[]:Array Value))).update a (HC fun _=>(arrOf st).map (·.2)) }:=⟨aj.same na1 j8 s2,fun _ _ e=>e,id,rfl⟩
 exact(k0.comp k1 fun b hb=>.inr (by rw[H7.mp hb];exact hk0)).comp k2 fun b hb=>.inr (by rw[H7.mp hb];exact ha0)
theorem wB{s0:Shared}{a kS:Addr}{vs ks:List Value}{kz:List Int}{e e1:Nat}{P:PySem.Fin→Shared→Prop}(k0:aG [] s0 s)(ha0:s0.heap.objs.size≤a)(hk0:s0.heap.objs.size≤kS)(hka:kS≠a)
  (nk:s.heap.get? kS=some (seqObj "list" ks.toArray e)) (na:s.heap.get? a=some (seqObj "list" #[] e1)) (hk:IntsAre ks kz) (hlen:kz.length=vs.length) (h2:2≤vs.length) (h64:vs.length<64)
  (h:∀ s' out c I,aG [] s0 s'→s'.heap.get? a=some (seqObj "list" out c)→yU kz vs out.toList I→P (.done (.ret .none)) s'):wpAny (model pw w) A (ksk_end a false vs.toArray e1 (.ref kS) ks.toArray) P (fun _ _=>False) s:=by
 have hks:ks.length=vs.length:=hk.length.trans hlen
 have h2':¬ vs.toArray.size<2:=Hz.mpr h2
 unfold ksk_end
 try dsimp only
 rw[if_neg h2',if_neg h2',ksk_kind (keys:=ks.toArray) hk (show 2≤ks.length from hks▸h2)]
 refine Hc (Hi (Hc ?_))
 refine kat_run (Q:=fun st s'=>wpAny (model pw w) A (ksk_tail a false e1 (.ref kS) st) P (fun _ _=>False) s') (G:=fun p s'=>s'=s∧∃ L,p=List.toArray L∧L.length=vs.length∧L.Pairwise (Lk fun i=>kz.getD i 0)∧Lw L) hks h2 h64 (fun p st s' hp hr hf hG=>?_) (zQ (hks▸vL hk) (fun L e u b=>⟨rfl,L,rfl,e,u,b⟩) (K7 h2))
 obtain⟨rfl,L,rfl,e,u,b⟩:=hG
 have ho:=kat_snds hks hr
 refine uI k0 ha0 hk0 hka nk na hks h64 (by rw[ho,Hx,Hl];exact e) hf fun s' c k hc=>h s' _ c L k hc ⟨e,e▸b,congrArg Array.toList ho,u⟩
theorem uH{s0:Shared}{a f:Addr}{vs:List Value}{kz:List Int}{n:Nat}{P:PySem.Fin→Shared→Prop}(k0:aG [] s0 s)(ha0:s0.heap.objs.size≤a)(ho:s.heap.get? a=some (seqObj "list" vs.toArray n))(hlen:kz.length=vs.length)(h2:2≤vs.length)(h64:vs.length<64)
  (turn:∀(i:Nat) (v:Value) (k:Int),vs[i]? = some v→kz[i]? = some k→∀ s1,aG [] s0 s1→wpAny (model pw w) A (call (.ref f) [v]) (fun u s2=>aG [] s1 s2∧∃ t,u=.int k t) (fun _ _=>False) s1)
  (h:∀ s' out c I,aG [] s0 s'→s'.heap.get? a=some (seqObj "list" out c)→yU kz vs out.toList I→P (.done (.ret .none)) s'):wpAny (model pw w) A (ksk_tree a (.ref f) false) P (fun _ _=>False) s:=by
 obtain ha:a<s.heap.objs.size:=Hr ho
 obtain s1:=IK s.heap a (HC fun _=>(#[]:Array Value))
 obtain⟨e1,ho1⟩:∃ e1,(s.heap.update a (HC fun _=>(#[]:Array Value))).get? a=some (seqObj "list" #[] e1):=⟨_,MB ho fun _=>#[]⟩
 obtain kA:aG [a] s { s with heap:=s.heap.update a (HC fun _=>(#[]:Array Value)) }:=⟨aj.same ho j8 s1,fun _ _ e=>e,id,rfl⟩
 obtain k1:=k0.comp kA fun b hb=>.inr (by rw[H7.mp hb];exact ha0)
 obtain hsz1:(s.heap.update a (HC fun _=>(#[]:Array Value))).objs.size=s.heap.objs.size:=by rw[Heap.size_update]
 skip
 refine Hc (listItems_at ho rfl ?_)
 refine Hc (LY ho rfl ?_ (by rw[Hx,JM];omega) (HT _))
 refine Hc (seqEpoch_at ho1 rfl ?_)
 refine Hc (wpAny_newTuple ?_ (by show vs.length≤_;rw[JM];omega))
 refine Hc (wpAny_newList ?_ (HT _))
 refine IF ?_
 have hkS:((s.heap.update a (HC fun _=>(#[]:Array Value))).push (seqObj "tuple" vs.toArray 0)).objs.size=s.heap.objs.size+1:=by rw[size_push',hsz1]
 obtain k2:aG [] { s with heap:=s.heap.update a (HC fun _=>(#[]:Array Value)) } { s with heap:=((s.heap.update a (HC fun _=>(#[]:Array Value))).push (seqObj "tuple" vs.toArray 0)).push (seqObj "list" #[] 0) }:=⟨(aj.push _ _).trans (aj.push _ _),fun _ _ e=>e,id,rfl⟩
 obtain k3:=k1.trans k2
 have hk0:s0.heap.objs.size≤((s.heap.update a (HC fun _=>(#[]:Array Value))).push (seqObj "tuple" vs.toArray 0)).objs.size:=by
  rw[hkS];exact Iu k0.heap.size
 have hka:((s.heap.update a (HC fun _=>(#[]:Array Value))).push (seqObj "tuple" vs.toArray 0)).objs.size≠a:=by
  rw[hkS];exact Ju (IW ha)
 obtain nk:=Hk (o:=seqObj "list" #[] 0) ((s.heap.update a (HC fun _=>(#[]:Array Value))).push (seqObj "tuple" vs.toArray 0)) rfl
 obtain na:=Ht (seqObj "list" #[] 0) (Ht (seqObj "tuple" vs.toArray 0) ho1)
 generalize hg:((s.heap.update a (HC fun _=>(#[]:Array Value))).push (seqObj "tuple" vs.toArray 0)).objs.size=kS at *
 skip
 refine Hc (LC ?_)
 rw[List.forIn_toArray]
 refine Hc (ksk_fold (fun i s'=>aG [] s0 s'∧∃ kA e,s'.heap.get? kS=some (seqObj "list" kA e)∧s'.heap.get? a=some (seqObj "list" #[] e1)∧IntsAre kA.toList (kz.take i)) vs 0 _
  ⟨k3,#[],0,nk,na,by simpa using IntsAre.nil⟩ ?step ?done)
 case step=>
  rintro j x s' hx ⟨k',kA,e,nk',na',hk⟩
  simp only[Jc]at hk ⊢
  have hj:j<vs.length:=(Ii.mp hx).1
  obtain⟨k,hkj⟩:∃ k,kz[j]? = some k:=⟨_,Hv (by omega)⟩
  obtain hzl:kA.size≤vs.length:=by
   obtain h1:=hk.length
   rw[Array.length_toList,JC]at h1
   omega
  refine Hc (LX (Hf (turn j x k hx hkj s' k') (fun v s'' he=>?_) fun _ _ hF=>hF.elim))
  obtain⟨kk,t2,rfl⟩:=he
  skip
  have nk2:=kk.heap.get nk'
  obtain na2:=kk.heap.get na'
  obtain s1:=IK s''.heap kS (HC (·.push (.int k t2)))
  obtain⟨c2,hc2⟩:∃ c2,(s''.heap.update kS (HC (·.push (.int k t2)))).get? kS=some (seqObj "list" (kA.push (.int k t2)) c2):=⟨_,MB nk2 (·.push (.int k t2))⟩
  obtain ek:kz.take (j+1)=kz.take j++[k]:=by rw[List.take_add_one,hkj];simp
  obtain ea:(kA.push (MT k t2)).toList=kA.toList++[MT k t2]:=by simp
  refine Hc (LY nk2 rfl ?_ (by rw[JM];omega) (H6 (HM (Array.size_push ..)) (by rw[JM];omega)))
  obtain ku:aG [kS] s'' { s'' with heap:=s''.heap.update kS (HC (·.push (.int k t2))) }:=⟨aj.same nk2 j8 s1,fun _ _ e=>e,id,rfl⟩
  exact Hi ⟨rfl,(k'.trans kk).comp ku fun b hb=>.inr (by rw[H7.mp hb];exact hk0),kA.push (.int k t2),c2,hc2,(s1.2 a hka.symm).trans na2,by rw[ea,ek];exact ksk_snoc hk⟩
 case done=>
  rintro s' ⟨k',⟨ks⟩,e,nk',na',hk⟩
  obtain hk':IntsAre ks kz:=by
   obtain e3:kz.take (0+vs.length)=kz:=IY (by omega)
   rw[e3]at hk
   exact hk
  try dsimp only
  refine Hc (listItems_at nk' rfl ?_)
  exact wB k' ha0 hk0 hka nk' na' hk' hlen h2 h64 h
theorem rq{l f:Addr}{vs:List Value}{kz:List Int}{Q:Value→Shared→Prop}(hl:s.heap.IsList l vs.toArray)(hlen:kz.length=vs.length)(h2:2≤vs.length)(h64:vs.length<64)
  (turn:∀(i:Nat) (v:Value) (k:Int),vs[i]? = some v→kz[i]? = some k→∀ s1,aG [] s s1→wpAny (model pw w) A.in1.in1 (call (.ref f) [v]) (fun u s2=>aG [] s1 s2∧∃ t,u=.int k t) (fun _ _=>False) s1)
  (h:∀ D s' out c I,aG [] s s'→s.heap.objs.size≤D→s'.heap.get? D=some (seqObj "list" out c)→yU kz vs out.toList I→Q (.ref D) s'):
  wpAny (model pw w) A (call (.builtin "sorted") [.ref l] [(H5 "key",.ref f)]) Q (fun _ _=>False) s:=by
 refine call_function_entry_kw kind_sorted plain_sorted entry_sorted (ksk_s1 _ _) ?_
 skip
 refine Hc (m:=checkCount "sorted" 1 1 _) (Hi ?_)
 refine Hc (collect_list hl ?_ (by rw[JM];omega))
 refine Hc (wpAny_newList ?_ (by rw[JM];omega))
 obtain hsz:((s.heap.push (seqObj "list" #[] 0)).update s.heap.objs.size (HC (·++vs.toArray))).objs.size=s.heap.objs.size+1:=by
  rw[Heap.size_update,size_push']
 obtain hoL:=Hk (o:=seqObj "list" vs.toArray 0) ((s.heap.push (seqObj "list" #[] 0)).update s.heap.objs.size (HC (·++vs.toArray))) rfl
 obtain kk:aG [] s { s with heap:=((s.heap.push (seqObj "list" #[] 0)).update s.heap.objs.size (HC (·++vs.toArray))).push (seqObj "list" vs.toArray 0) }:=by
  obtain k1:aG [] s { s with heap:=s.heap.push (seqObj "list" #[] 0) }:=aG.push1
  obtain k2:aG [s.heap.objs.size] { s with heap:=s.heap.push (seqObj "list" #[] 0) } { s with heap:=(s.heap.push (seqObj "list" #[] 0)).update s.heap.objs.size (HC (·++vs.toArray)) }:=
   ⟨aj.same (Hk (o:=seqObj "list" #[] 0) s.heap rfl) j8 (IK ..),fun _ _ e=>e,id,rfl⟩
  obtain k3:aG [] { s with heap:=(s.heap.push (seqObj "list" #[] 0)).update s.heap.objs.size (HC (·++vs.toArray)) } { s with heap:=((s.heap.push (seqObj "list" #[] 0)).update s.heap.objs.size (HC (·++vs.toArray))).push (seqObj "list" vs.toArray 0) }:=⟨aj.push _ _,fun _ _ e=>e,id,rfl⟩
  exact(k1.comp k2 fun b hb=>.inr (HM (H7.mp hb).symm)).trans k3
 show wpAny _ _ _ _ _ { s with heap:=((s.heap.push (seqObj "list" #[] 0)).update s.heap.objs.size (HC (·++vs.toArray))).push (seqObj "list" vs.toArray 0) }
 have ha0:s.heap.objs.size≤((s.heap.push (seqObj "list" #[] 0)).update s.heap.objs.size (HC (·++vs.toArray))).objs.size:=by rw[hsz];exact J0 _
 refine Hc (IF (wpAny_call_entry_kw slot_list_sort ⟨_,hoL,rfl⟩ entry_list_sort ?body (ksk_l1 _ _)))
 case body=>
  show wpAny (model pw w) A.in1.in1 (Builtin.«list.sort» ⟨[.ref _],[(H5 "key",.ref f)]⟩) _ _ _
  skip
  refine uH (s0:=s) kk ha0 hoL hlen h2 h64 turn fun s' out c σ k' hc so=>⟨_,rfl,?_⟩
  exact Hi ⟨_,rfl,h _ s' out c σ k' ha0 hc so⟩
end
end
section
section
variable{gt:List (Str×Value)}{K:List (Addr×Obj)}{pins:List (Str×Addr)}{w:World}{A:Around}{env:Env}{locs locs':List (Str×PV)}
theorem fi.pow30:fi w A .Pow (.int 10) (.int 30) (.int (10 ^ 30)) true:=by
 constructor;intro s a b F H xA xB;cases xA;cases xB
 exact PySem.AutoIntOps.pow_4 (by decide) (by decide) (by decide) (by decide) (by decide +kernel) zw
theorem su{x y:Str}{px py tpos pos:Pos}{k0:Nat}{e:Expr}{l:List PV}{pr:PV→PV×PV}{body:List Stmt}{fl:Fl}(hK:∀ q∈K,q.1<348)(hh:A.handled=none)(hpx:x∉pins.map (·.1))(hpy:y∉pins.map (·.1))(hx:aJ env x)(hy:aJ env y)(hf:PV.flat.go l=true)(hi:∀ p∈l,p=.tup [(pr p).1,(pr p).2])(hs:∀ x,Jt e env x=pure x)
  (ha:Ev gt K w A env locs e (.lst l) true) (hl:bP gt K pins w A env body (fun p l=>ab y (pr p).2 (ab x (pr p).1 l)) l locs fl locs'):
  Ex gt K pins w A env (exec (.For (.Tuple [.Name x px,.Name y py] k0 tpos) e body [] pos) env) locs fl locs':=.mk fun s Fs I=>by
 refine M6 (Pw.andThen (ha.run s Fs I.g I.er) fun v s1 hh=>?_) hs
 obtain⟨k1,F,zv,fr⟩:=hh
 obtain⟨a,vs,n,G,ev,eF,e1,z,_⟩:=zv.inv
 obtain rfl:=z.flat hf
 subst ev eF
 have hfa:s.heap.objs.size≤a:=fr rfl a (.head _)
 exact K4 ⟨_,e1,rfl,n,rfl⟩ (jI (s:=s1) (s0:=s) (O:=ow env locs Fs) hK hh (oh hK hh hpx hpy hx hy pr hi) e1 z.length (fun i v e=>z.getE e) (H6 I.g.low hfa) (fun hm=>absurd (I.lt _ hm) (Hz.mpr hfa)) k1.all (I.step0 k1) (fun b hb=>.inl hb) (fun s' f' Fs' k' hf I' o'=>⟨k',hf,Fs',I',o'⟩) hl)
theorem i6{x:Str}{l:List PV}{ds:List (Str×Int×PV)}{i e:Expr}{n:Int}{k:Str}{hs:Int}{p:PV}{f1 f2:Bool}{np p1 p2:Pos}(hl:locs.lookup x=some (.own l))(hd:(x==("__debug__":Str))=false)(hcd:(x==("__classdict__":Str))=false)
  (hi:Ev gt K w A env locs i (.int n) f1) (h0:0≤n) (hhi:n<2 ^ 63) (hp:l[n.toNat]? = some (.dct ds)) (he:Ev gt K w A env locs e (.str k) f2) (hw:iI w ds) (hk:ds.lookup k=some (hs,p)) (hpf:p.flat=true)
  (hs1:∀ o j,∃ ops,MF i false o j=operate ops (getItem o j)) (hs2:∀ o j,∃ ops,MF e false o j=operate ops (getItem o j)):
  Ev gt K w A env locs (.Subscript (.Subscript (.Name x np) i p1) e p2) p true:=.mk fun s Fs g z=>by
 obtain⟨m,nn,V⟩:=id z.vars
 obtain⟨v,F,_,a,zv⟩:=V.find hl
 cases zv with
 | @own _ a0 vs n0 F0 e1 y nd=>
  refine Mn (Mn (aD z ⟨m,nn,a⟩ hd hcd (Pw.andThen (hi.run s Fs g z) fun b s1 hh=>?_)))
  obtain⟨k1,F1,v1,_⟩:=hh
  obtain⟨ops,h1⟩:=hs1 (.ref a0) b
  cases v1 with
  |int _ t=>
   obtain⟨u,H,hu,zu,_⟩:=y.get hp
   have hL:s1.heap.IsList a0 vs.toArray:=⟨_,k1.heap.get e1,rfl,n0,rfl⟩
   refine tail_any (hL.typeIs) LN.lookup (wpAny_getItem_list hL h0 hhi (by simpa using hu) ?_) h1
   refine Pw.andThen (he.run s1 Fs (g.kept0 k1.heap) (z.kept0 k1.heap)) fun b2 s2 hh=>?_
   obtain⟨k2,F2,v2,_⟩:=hh
   obtain k12:=k1.trans k2
   obtain⟨⟨T,id,hT,hlk⟩,hw2⟩:=(Sub.dct (w:=w) (A:=A) hw hk hpf).run s2 u b2 H F2 (zu.kept0 k12.heap) v2
   obtain⟨ops2,h2⟩:=hs2 u b2
   exact tail_any hT hlk (Pw.andThen hw2 fun c s₃ ⟨k3,F3,v3,fr3⟩=>⟨k12.trans k3,F3,v3,fun e b hb=>H6 k12.heap.size (fr3 e b hb)⟩) h2
end
end
section
noncomputable abbrev aW(L:Addr): Env:=ah 340 u5 L
noncomputable abbrev ee:List Stmt:=aF (aO 79)
noncomputable abbrev nP:Str:=H5 "p"
noncomputable abbrev nQ:Str:=H5 "q"
noncomputable abbrev nX:Str:=H5 "x"
noncomputable abbrev nY:Str:=H5 "y"
noncomputable abbrev lF:Str:=H5 "far"
noncomputable abbrev cu:Str:=H5 "worths"
noncomputable abbrev rI:Str:=H5 "worth"
noncomputable abbrev nA:Str:=H5 "a"
noncomputable abbrev nB:Str:=H5 "b"
noncomputable abbrev cZ:Str:=H5 "leaves"
noncomputable def bg:Int:=10 ^ 30
noncomputable def CI(a b:Int): List (Str×Int):=[(nX,a),(nY,b)]
noncomputable def ET(p:T)(a b:Int): List (Str×Int):=[(nX,a),(nY,b),(nP,p.val (CI a b))]
noncomputable def wP(p:T)(a b:Int): Int:=p.val (CI a b)
noncomputable def wQ(p q:T)(a b:Int): Int:=q.val (ET p a b)
noncomputable def dW(w:World)(p q:T)(a b:Int): PV:=.dct (i9 w [(nP,wP p a b),(nQ,wQ p q a b)])
noncomputable abbrev mJ(p q:T)(x y:Int)(l:List PV): List (Str×PV):=[(nP,p.pv),(nQ,q.pv),(nX,.int x),(nY,.int y),(lF,.int bg),(cu,.own l)]
noncomputable abbrev sZ(p q:T)(x y:Int)(l:List PV)(a b:Int): List (Str×PV):=[(nP,p.pv),(nQ,q.pv),(nX,.int x),(nY,.int y),(lF,.int bg),(cu,.own l),(nA,.int a),(nB,.int b)]
noncomputable abbrev y0:Stmt:=(ee[2]?).getD (.Pass default)
noncomputable abbrev Bl:PV→List (Str×PV)→List (Str×PV):=fun p l=>ab nB ((match p with | .tup [_,q]=>q | _=>.none)) (ab nA ((match p with | .tup [q,_]=>q | _=>.none)) l)
noncomputable def po(p q:T)(a b:Int): Prop:=p.fits (CI a b)∧q.fits (ET p a b)
section
end
section
variable{w:World}{A:Around}{L:Addr}
theorem oA{p q:T}{x y:Int}{l:List PV}: bQ (mJ p q x y l):=ai (.inl p.flat) (ai (.inl q.flat) (ai (.inl rfl) (ai (.inl rfl) (ai (.inl rfl) (ai (.inr rfl) bX)))))
theorem yP{p q:T}{x y a b:Int}{l:List PV}(hf:po p q a b)(hz:l.length≤900)(ro:Ro A (p.depth+q.depth+1)): Ex aa (ac w) [] w A (aW L) (execs (kO y0) (aW L)) (sZ p q x y l a b) .next (mJ p q x y (l++[dW w p q a b])):=by
 obtain fp:=p.flat
 obtain sp:=p.seen
 obtain fq:=q.flat
 obtain sq:=q.seen
 obtain c1:au aa (ac w) w A (.ref 328) [p.pv,.dct (dl w [nX,nY] [.int a,.int b])] (.int (wP p a b)) true:=(tE w (CI a b) p A hf.1 (ro.le (by omega))).up (ag w)
 obtain c2:au aa (ac w) w A (.ref 328) [q.pv,.dct (dl w [nX,nY,nP] [.int a,.int b,.int (wP p a b)])] (.int (wQ p q a b)) true:=(tE w (ET p a b) q A hf.2 (ro.le (by omega))).up (ag w)
 refine am (locs1:=ab cu (.own (l++[dW w p q a b])) (ab rI (.int (wP p a b)) (sZ p q x y l a b))) ?_ (by kernel_rfl) ?_
 ·obtain P1:∀{locs:List (Str×PV)} {q1 q2 p1 p2:Pos} {k1 k2:Nat},locs.lookup nA=some (.int a)→locs.lookup nB=some (.int b)→kQ (IE pw w) aa (ac w) A (aW L) locs [some (.Constant (.str nX) k1 p1),some (.Constant (.str nY) k2 p2)] [.Name nA q1,.Name nB q2] [nX,nY] [.int a,.int b]:=by
   intro locs q1 q2 p1 p2 k1 k2 h1 h2
   exact kQ.cons g4 (f:=true) (Ev.local h1 eI rfl (by kernel_rfl) (by kernel_rfl)) rfl (kQ.cons g4 (f:=true) (Ev.local h2 eI rfl (by kernel_rfl) (by kernel_rfl)) rfl kQ.nil)
  obtain P2:∀{locs:List (Str×PV)} {q1 q2 q3 p1 p2 p3:Pos} {k1 k2 k3:Nat},locs.lookup nA=some (.int a)→locs.lookup nB=some (.int b)→locs.lookup rI=some (.int (wP p a b))→kQ (IE pw w) aa (ac w) A (aW L) locs [some (.Constant (.str nX) k1 p1),some (.Constant (.str nY) k2 p2),some (.Constant (.str nP) k3 p3)] [.Name nA q1,.Name nB q2,.Name rI q3] [nX,nY,nP] [.int a,.int b,.int (wP p a b)]:=by
   intro locs q1 q2 q3 p1 p2 p3 k1 k2 k3 h1 h2 h3
   exact kQ.cons g4 (f:=true) (Ev.local h1 eI rfl (by kernel_rfl) (by kernel_rfl)) rfl (kQ.cons g4 (f:=true) (Ev.local h2 eI rfl (by kernel_rfl) (by kernel_rfl)) rfl (kQ.cons g4 (f:=true) (Ev.local h3 eI rfl (by kernel_rfl) (by kernel_rfl)) rfl kQ.nil))
  refine af (az (p:=.int (wP p a b)) (ae _) (by simp) (c8 (ff:=true) (fa:=true&&(true&&true)) (f:=.ref 328) (rs:=[p.pv,.dct (dl w [nX,nY] [.int a,.int b])]) (Ev.global (by kernel_rfl) qw (by kernel_rfl)) (bb (pc.up (ag _)))
   (bG.cons (Ev.local ?_ sp fp (by kernel_rfl) (by kernel_rfl)) (bG.cons (oW (P1 ?_ ?_) rfl rfl (by simp) (by simp) (by decide +kernel)) bG.nil rfl) rfl) c1 (nf fp) rfl rfl) (Bind.same rfl) (.inl (by kernel_rfl)) rfl) ?_
  ·walk_at "lk"
  ·walk_at "lk"
  ·walk_at "lk"
  ·refine bo (bU (g8 (l:=l) (q:=dW w p q a b) (ae _) ?_ (by omega) (oW (ks:=[nP,nQ]) (ps:=[.int (wP p a b),.int (wQ p q a b)]) (kQ.cons g4 (f:=true) ?_ rfl (kQ.cons g4 (f:=true) (c8 (ff:=true) (fa:=true&&(true&&true)) (f:=.ref 328) (rs:=[q.pv,.dct (dl w [nX,nY,nP] [.int a,.int b,.int (wP p a b)])]) (Ev.global (by kernel_rfl) qw (by kernel_rfl)) (bb (pc.up (ag _)))
    (bG.cons (Ev.local ?_ sq fq (by kernel_rfl) (by kernel_rfl)) (bG.cons (oW (P2 ?_ ?_ ?_) rfl rfl (by simp) (by simp) (by decide +kernel)) bG.nil rfl) rfl) c2 (nf fq) rfl rfl) rfl kQ.nil)) rfl rfl (by simp) (by simp) (by decide +kernel)) (by kernel_rfl) (by kernel_rfl) rfl rfl rfl rfl) rfl rfl)
   ·walk_at "lk"
   ·walk_at "ev"
   ·walk_at "lk"
   ·walk_at "lk"
   ·walk_at "lk"
   ·walk_at "lk"
 ·walk_at "looks"
noncomputable def bh(w:World)(p q:T)(x y:Int): List PV:=[dW w p q x y,dW w p q (x+bg) y,dW w p q x (y+bg)]
theorem uz{p q:T}{x y:Int}(h1:po p q x y)(h2:po p q (x+bg) y)(h3:po p q x (y+bg))(ro:Ro A (p.depth+q.depth+1)): pB aa (ac w) [] w A (aW L) (ee.take 3) ([nP,nQ,nX,nY].zip [p.pv,q.pv,.int x,.int y]) (mJ p q x y (bh w p q x y)):=by
 refine .cons (locs1:=[(nP,p.pv),(nQ,q.pv),(nX,.int x),(nY,.int y),(lF,.int bg)]) ?_ (.cons (locs1:=mJ p q x y []) ?_ (.cons ?_ .nil))
 ·refine am (locs1:=ab lF (.int bg) ([nP,nQ,nX,nY].zip [p.pv,q.pv,.int x,.int y])) ?_ (by kernel_rfl) ?_
  ·exact az (p:=.int bg) (ae _) (by simp) (Ev.binop (Ev.int _ _ _) (Ev.int _ _ _) fi.pow30) (Bind.same rfl) (.inl (by kernel_rfl)) rfl
  ·walk_at "looks"
 ·refine am (locs1:=ab cu (.own []) [(nP,p.pv),(nQ,q.pv),(nX,.int x),(nY,.int y),(lF,.int bg)]) ?_ (by kernel_rfl) ?_
  ·refine az (p:=.lst []) (ae _) (by simp) ?_ .own (.inl (by kernel_rfl)) rfl
   walk_at "ev"
  ·walk_at "looks"
 ·obtain hA:=ro.1
  obtain e:∀{l:List PV} {a b:Int},Bl (.tup [.int a,.int b]) (mJ p q x y l)=sZ p q x y l a b:=by intros;kernel_rfl
  obtain turn:∀{l:List PV} {a b:Int},po p q a b→l.length≤900→Ex aa (ac w) [] w A (aW L) (execs (kO y0) (aW L)) (Bl (.tup [.int a,.int b]) (mJ p q x y l)) .next (mJ p q x y (l++[dW w p q a b])):=fun hf hz=>by
   rw[e];exact yP hf hz ro
  refine su (pr:=fun p=>((match p with | .tup [q,_]=>q | _=>.none),(match p with | .tup [_,q]=>q | _=>.none))) (l:=[.tup [.int x,.int y],.tup [.int (x+bg),.int y],.tup [.int x,.int (y+bg)]]) (ae _) hA (by simp) (by simp) (.inl (by kernel_rfl)) (.inl (by kernel_rfl)) rfl ?_ (by intro _;rfl) ?_ ?_
  ·intro u hu
   rcases jE hu with rfl | rfl | rfl <;> rfl
  ·walk_at "ev"
  ·exact .next oA (turn h1 (by simp)) (.next oA (turn h2 (by simp)) (.next oA (turn h3 (by simp)) (.nil oA)))
end
end
section
noncomputable def wz:Stmt:=(ee[4]?).getD (.Pass default)
noncomputable def lO:Expr:=yd (Bm wz) fun _ _ _ _ _ l=>((l[0]?).map (·.value)).getD e0
noncomputable def Bz:Arguments:=yd lO fun a _ _ _ _ _=>a
noncomputable def tQ:Expr:=yd lO fun _ b _ _ _ _=>b
noncomputable def qo:Scope:=yd lO fun _ _ c _ _ _=>c
noncomputable def Au:Pos:=yd lO fun _ _ _ p _ _=>p
noncomputable abbrev xw:Str:=H5 "_law_due.<locals>.<lambda>"
noncomputable abbrev tK:Str:=H5 "leaf"
noncomputable def BA(cd:Addr)(pm ctv:Value): Hy:={ name:=H5 "<lambda>",qualname:=xw,params:=Bz,body:=.expr tQ,scope:=qo,globals:=IB,closure:=[],defaults:=.none,kwdefaults:=.none,doc:=.none,pyModule:=pm,annotations:=none,code:=.ref cd,closureTuple:=ctv,builtins:=Ji }
inductive mv(h:Heap)(lf cd:Addr): Prop
 |mk(pm ctv:Value)(oc:Obj)(vs:Array Value)(t:Tok)(e:h.get? lf=some { cls:=.type "function",data:=.func (BA cd pm ctv) })(e1:h.get? cd=some oc)(e2:oc.data=.fields vs∧vs[1]? = some (.str xw t))
theorem mv.kept{h h':Heap}{lf cd:Addr}(k:aj [] h h')(x:mv h lf cd): mv h' lf cd:=by
 obtain⟨pm,ctv,oc,us,t,e8,e9,e9'⟩:=x
 exact⟨pm,ctv,oc,us,t,k.get e8,k.get e9,e9'⟩
section
variable{w:World}{A:Around}{E:Value→Shared→Prop}{s:Shared}
theorem AP{L:Addr}(g:G aa (ac w) s.heap)(bi:w5 s.heap)(hP:s.heap.get? 337=some (tabObj #[])): wpAny (model pw w) A (eval lO (aW L)) (fun v s'=>∃ lf cd,v=.ref lf∧(aG [337] s s'∧TB 337 s'.heap)∧mv s'.heap lf cd) E s:=by
 obtain⟨mg,bm,ob,n,e,l,n1,n2,n3,n4,gb,r⟩:=bi
 show wpAny _ _ (eval (.Lambda Bz tQ qo Au) _) _ _ _
 obtain hc:=g.tab (339,_) (ag w _ (cQ (i:=78) rfl))
 refine kla_eval (by kernel_rfl) (kla_makeFunction (mg:=mg) (clos:=[]) (c:=339) (P:=337) (ps:=#[]) ?_ rfl n rfl ⟨_,_,_,_,_,_,_,_,_,hc,rfl,rfl,rfl,rfl,rfl,rfl,rfl,rfl,by decide⟩ hP trivial rfl (by decide) ⟨bm,ob,e,n1,n2,n4,gb,r⟩ fun c' ctv h' tk hx hge hlt hrec htb=>?_)
 ·kernel_rfl
 ·obtain hsz:s.heap.objs.size≤h'.objs.size:=IG (HS hge hlt)
  have kp:aj [337] s.heap h':=⟨hsz,fun b o e q=>by
   rcases q with q | q
   ·exact hx b o (by simpa using q) e
   ·by_cases hb:b=337
    ·subst hb;rw[hP]at e;cases e;cases q
    ·exact hx b o hb e⟩
  obtain⟨c2,oc,vs,t,hcv,h1,h2,h3⟩:=hrec
  cases hcv
  refine⟨h'.objs.size,c',rfl,⟨⟨kp.trans (aj.push _ _).all,fun _ _ e=>e,id,rfl⟩,⟨_,Ht _ htb⟩⟩,⟨_,ctv,oc,vs,t,Hk _ rfl,Ht _ h1,h2,?_⟩⟩
  exact h3
theorem yR(cd:Addr)(pm ctv v:Value): J4 (BA cd pm ctv) ⟨[v],[]⟩=pure [(tK,v)]:=by kernel_rfl
noncomputable abbrev qQ(lf cd L:Addr): Env:=newEnv qo L IB [] (xw++".<locals>.") (some lf) (.ref cd) none Ji
theorem xu{lf cd:Addr}{x:Int×Str×Str}{v:Value}(ro:Ro A 2)(g:G aa (ac w) s.heap)(hL:mv s.heap lf cd)(zv:VR s.heap (br x) v []):
  wpAny (model pw w) A (call (.ref lf) [v]) (fun u s'=>aG [] s s'∧∃ t,u=.int x.1 t) (fun _ _=>False) s:=by
 obtain⟨pm,ctv,oc,us,t,e8,e9,e9',e9''⟩:=hL
 refine Jp (kla_callFunE (by obtain this:=ro.2.1;omega) e8 rfl (by kernel_rfl) (by kernel_rfl) rfl ⟨cd,oc,us,t,rfl,e9,e9',e9''⟩ ?_)
 rw[yR]
 obtain hcell:∀ x∈qo.names,x.2≠MH.cell:=by decide +kernel
 obtain hloc:qo.names.lookup tK=some .local:=by decide +kernel
 refine Hi (Lb hcell (fun x hx=>by rw[H7.mp hx];exact hloc) (fun h' ns sb=>?_) (by kernel_rfl))
 obtain keep:∀ b o,s.heap.get? b=some o→h'.get? b=some o:=fun b o e=>sb.extBut b o (Im (Hr e)) (Ht _ e)
 have kp:aj [] s.heap h':=⟨by rw[sb.1,HX];exact J0 _,fun b o e _=>keep b o e⟩
 obtain g1:=g.kept0 kp
 refine⟨g1.nolimit,kla_codeExpr ?_⟩
 show wpAny (model pw w) (A.deeper (qQ lf cd s.heap.objs.size)) (eval tQ (qQ lf cd s.heap.objs.size)) _ _ { s with heap:=h',toks:=s.toks+1 }
 obtain er:dO h' (qQ lf cd s.heap.objs.size) [(tK,br x)] [[]]:=
  ⟨by kernel_rfl,rfl,rfl,_,ns,⟨v,.inl ⟨by kernel_rfl,by simp[bindL,KE]⟩,zv.kept0 kp⟩,trivial⟩
 obtain kA:aG [] s { s with heap:=h',toks:=s.toks+1 }:=⟨kp,fun _ _ e=>e,id,rfl⟩
 obtain hev:Ev aa (ac w) w (A.deeper (qQ lf cd s.heap.objs.size)) (qQ lf cd s.heap.objs.size) [(tK,br x)] tQ (.int x.1) true:=by
  refine Ev.sub (p:=br x) (f1:=true) (Ev.local ?_ pZ rfl (by kernel_rfl) (by kernel_rfl)) (Ev.int 0 _ _) (Sub.tup (j:=0) (by decide) (by decide) rfl rfl rfl) (by intro _ _;exact⟨_,rfl⟩)
  kernel_rfl
 refine Hf (hev.run _ _ g1 er) (fun u s3 hh=>?_) fun _ _ e=>e.elim
 obtain⟨k3,F,zu,_⟩:=hh
 cases zu with
 |int _ t'=>exact⟨kA.trans k3,t',rfl⟩
end
end
section
section
variable{w:World}{A:Around}
theorem Ro.in1{n:Nat}(r:Ro A (n+1)): Ro A.in1 n:=⟨r.1,by obtain this:=r.2.1;show A.depth+n<_;omega,by obtain this:=r.2.2;show A.units+1+4*n+8<_;omega⟩
noncomputable def n9{α:Type}[Inhabited α](l:List α)(J:List Nat): List α:=J.map fun i=>l.getD i default
inductive eO(l:List (Int×Str×Str)): List (Int×Str×Str)→Prop
 |mk(J:List Nat)(len:J.length=l.length)(lt:∀ a∈J,a<l.length)(ord:J.Pairwise (Lk fun i=>(l.map (·.1)).getD i 0)): eO l (n9 l J)
theorem eO.length{l l':List (Int×Str×Str)}(h:eO l l'): l'.length=l.length:=by cases h;exact(Hl _).trans len
theorem eO.mem{l l':List (Int×Str×Str)}(h:eO l l'): ∀ u∈l',u∈l:=by
 cases h
 intro u hu
 obtain⟨i,hi,rfl⟩:=Hm.mp hu
 rw[Ia,Hv (lt i hi)]
 exact Kf _
theorem mQ{h:Heap}{l:List (Int×Str×Str)}{vs:List Value}(z:bf h (l.map br) vs []){i:Nat}{v:Value}(hv:vs[i]? = some v): ∃ x,l[i]? = some x∧VR h (br x) v []:=by
 obtain hlen:=z.length
 obtain hi:i<vs.length:=(Ii.mp hv).1
 have hi':i<l.length:=by simp at hlen;omega
 obtain⟨u,H,hu,zu,hH⟩:=z.get (j:=i) (p:=br l[i]) (by simp[hi'])
 rw[hv]at hu;cases hu
 obtain rfl:=zu.flat (by rfl)
 exact⟨l[i],by simp[hi'],zu⟩
theorem C1{h:Heap}: ∀{ps:List PV} {vs:List Value},ps.length=vs.length→(∀(i:Nat) (p:PV) (v:Value),ps[i]? = some p→vs[i]? = some v→VR h p v [])→bf h ps vs []:=by
 intro ps
 induction ps with
 |nil=>intro vs hl _;cases vs with
  |nil=>exact .nil
  |cons=>cases hl
 |cons p ps ih=>intro vs hl hg;cases vs with
  |nil=>cases hl
  |cons v vs=>exact .cons (F:=[]) (hg 0 p v rfl rfl) (ih (KH hl) fun i p' v' h1 h2=>hg (i+1) p' v' h1 h2)
theorem wa{h:Heap}{l:List (Int×Str×Str)}{vs:List Value}(z:bf h (l.map br) vs []){J:List Nat}: (∀ a∈J,a<vs.length)→bf h ((n9 l J).map br) (J.map fun i=>vs.getD i .none) []:=by
 induction J with
 |nil=>exact fun _=>.nil
 |cons a J ih=>
  intro hJ
  obtain⟨x,hx,zx⟩:=mQ z (i:=a) (v:=vs.getD a .none) (by rw[Ia,Hv (hJ a (.head _))];rfl)
  refine .cons (F:=[]) ?_ (ih fun a ha=>hJ a (.tail _ ha))
  show VR h (br (l.getD a default)) _ []
  rw[Ia,hx]
  exact zx
theorem zI{O:List Addr}(h:∀ b∈O,348≤b): jR (337::O):=fun b hb=>by
 rcases Ha.mp hb with rfl | hb
 ·exact .inr (.inr rfl)
 ·exact .inl (h b hb)
noncomputable abbrev ie(p q:T)(x y:Int)(ws:List PV)(l:List (Int×Str×Str)): List (Str×PV):=[(nP,p.pv),(nQ,q.pv),(nX,.int x),(nY,.int y),(lF,.int bg),(cu,.own ws),(cZ,.own (l.map br))]
theorem Cd{p q:T}{x y:Int}{ws:List PV}{l:List (Int×Str×Str)}: bQ (ie p q x y ws l):=ai (.inl p.flat) (ai (.inl q.flat) (ai (.inl rfl) (ai (.inl rfl) (ai (.inl rfl) (ai (.inr rfl) (ai (.inr rfl) bX))))))
inductive yZ(w:World)(L:Addr)(p q:T)(x y:Int)(ws:List PV)(l:List (Int×Str×Str))(Fs:List (List Addr))(s:Shared)(f:Flow)(s':Shared): Prop
 |mk(e:f=.next)(l':List (Int×Str×Str))(Fs':List (List Addr))(so:eO l l')(k:aG (337::ow (aW L) (ie p q x y ws l) Fs) s s'∧TB 337 s'.heap)(I:bw aa (ac w) [] (aW L) (ie p q x y ws l') Fs' s')(o:∀ b∈ow (aW L) (ie p q x y ws l') Fs',b∈ow (aW L) (ie p q x y ws l) Fs∨s.heap.objs.size≤b)
theorem zR{L:Addr}{p q:T}{x y:Int}{ws:List PV}{l:List (Int×Str×Str)}{s:Shared}{Fs:List (List Addr)}(ro:Ro A 4)(I:bw aa (ac w) [] (aW L) (ie p q x y ws l) Fs s)(bi:w5 s.heap)(hP:s.heap.get? 337=some (tabObj #[]))(h2:2≤l.length)(h64:l.length<64):
  wpAny (model pw w) A (exec wz (aW L)) (yZ w L p q x y ws l Fs s) (fun _ _=>False) s:=by
 show wpAny _ _ (exec (.Assign [.Name cZ _] (.Call (.Name (H5 "sorted") _) [.Name cZ _] [⟨some (H5 "key"),lO,_⟩] _) _) _) _ _ _
 refine K3 (It (Pw.andThen ((Ev.builtin (gt:=aa) (K:=ac w) (w:=w) (A:=A) (locs:=ie p q x y ws l) (by kernel_rfl) vD (by decide +kernel) (by kernel_rfl)).run s Fs I.g I.er) fun v s1 hh=>?_)) rfl
 obtain⟨k1,F1,v1,_⟩:=hh
 cases v1
 have I1:=I.step0 k1
 show wpAny _ _ (IU _ (.builtin "sorted") [] (backTo _ (Hg [.Name cZ _] _)) (KI _ (Jr [⟨some (H5 "key"),lO,_⟩] _))) _ _ _
 obtain hEv:∀ pp,Ev aa (ac w) w A (aW L) (ie p q x y ws l) (.Name cZ pp) (.lst (l.map br)) false:=fun pp=>by
  refine Ev.local ?_ cB rfl (by kernel_rfl) (by kernel_rfl)
  walk_at "lk"
 refine callWith_kw (Pw.andThen ((bG.cons (hEv _) bG.nil rfl).run s1 Fs _ I1.g I1.er) fun us s2 hh=>?_)
 obtain⟨k2,F2,z2,_⟩:=hh
 obtain⟨u,rfl,zu⟩:=z2.one1
 have k12:=k1.trans k2
 obtain I2:=I1.step0 k2
 refine kws_cons (Hf (AP (E:=fun _ _=>False) I2.g (bi.kept k12.heap (by simp[jR])) (k12.heap.get hP)) (fun v s3 hh=>?_) fun _ _ e=>e.elim)
 obtain⟨lf,cd,rfl,⟨k3,tb3⟩,hlam⟩:=hh
 refine kws_nil ?_
 show wpAny _ _ (call (.builtin "sorted") [u] [(H5 "key",.ref lf)]) _ _ _
 cases zu with
 | @lst _ a vs n F0 e1 z nd=>
  obtain rfl:=z.flat (gU l)
  have hlen:vs.length=l.length:=by obtain this:=z.length;simpa using this
  obtain own2:∀ b∈ow (aW L) (ie p q x y ws l) Fs,348≤b:=I2.hi
  obtain not337:∀ b∈(aW L).locals::(aW L).cells.map (·.2)++Fs.flatten,b∉[337]:=fun b hb hm=>by
   obtain h1:=own2 b (I2.allOwn Cd b hb)
   rw[H7.mp hm]at h1
   exact absurd h1 (by decide)
  have I3:=I2.movedT k3.heap (zI (O:=[]) fun b hb=>nomatch hb) not337
  obtain ha:a≠337:=fun e=>by
   rw[e,k12.heap.get hP]at e1
   cases e1
  obtain e3:s3.heap.get? a=some (bn vs n):=k3.heap.keep _ _ e1 (.inl (by simpa using ha))
  have z3:bf s3.heap (l.map br) vs []:=z.kept k3.heap fun b hb=>nomatch hb
  refine rq (kz:=l.map (·.1)) ⟨_,e3,rfl,n,rfl⟩ (by simp[hlen]) (by omega) (by omega) (fun i v k hv hk s4 k4=>?_) fun D s4 out c J k4 hD hc so=>?_
  ·obtain⟨t,ht,zt⟩:=mQ z3 hv
   obtain this:k=t.1:=by
    rw[KO,ht]at hk
    simpa using hk.symm
   subst this
   exact xu ro.in1.in1 (I3.g.kept0 k4.heap) (hlam.kept k4.heap) (zt.kept0 k4.heap)
  ·obtain I4:=I3.step0 k4
   obtain z4:=so.out▸wa (z3.kept0 k4.heap) so.lt
   have zO:VR s4.heap (.own ((n9 l J).map br)) (.ref D) [D]:=.own (vs:=out.toList) (n:=c) (by rw[hc]) z4 (by simp)
   have kk:aG [337] s s4:=(k12.all.trans k3).trans k4.all
   obtain hD':s.heap.objs.size≤D:=H6 (k12.all.trans k3).heap.size hD
   refine Pw.andThen (d4 (n:=s3.heap.objs.size) (ae w) (by simp) I4 (.inl (by kernel_rfl)) zO zO.nodup (fun b hb hm=>?_) (fun b hb=>by rw[H7.mp hb];exact hD) I3.g.low) fun _ s5 ⟨Fs5,I5,k5,o5⟩=>?_
   ·rw[H7.mp hb]at hm
    exact absurd (I3.lt _ hm) (Hz.mpr hD)
   ·obtain e5:ab cZ (.own ((n9 l J).map br)) (ie p q x y ws l)=ie p q x y ws (n9 l J):=by kernel_rfl
    skip
    refine⟨rfl,_,Fs5,.mk J (so.len.trans hlen) (hlen▸so.lt) so.ord,⟨?_,(tb3.keep k4.heap (by simp)).keep k5.heap fun hm=>absurd (own2 337 (H8 _ hm)) (by decide)⟩,I5,fun b hb=>(o5 b hb).imp id fun h=>H6 (k12.all.trans k3).heap.size h⟩
    exact(kk.mono fun b hb=>by rw[H7.mp hb];exact .head _).trans (k5.mono fun b hb=>Jw _ (H8 _ hb))
end
end
section
section
variable{gt:List (Str×Value)}{K:List (Addr×Obj)}{w:World}{A:Around}{env:Env}{locs:List (Str×PV)}
theorem ym{v e:Expr}{p pos:Pos}{l:List PV}{a:Nat}{f f2:Bool}(h:Ev gt K w A env locs v (.lst l) f)(hf:PV.flat.go l=true)(ha:Ev gt K w A env locs e (.int (a:Int)) f2)(hle:a≤l.length)(hz:l.length≤100000)(ht:∀ o r,MG v o r=pure ()):
  Ev gt K w A env locs (.Subscript v (.Slice (some e) none none p) pos) (.lst (l.drop a)) true:=.mk fun s Fs g z=>
 wpAny_Subscript_list_slice (Pw.andThen (h.run s Fs g z) fun o s₁ ⟨k1,F1,v1,_⟩=>Ky (Pw.andThen (ha.run s₁ Fs (g.kept0 k1.heap) (z.kept0 k1.heap)) fun vl s₂ hh=>by
  obtain⟨k2,F2,v2,_⟩:=hh
  skip
  refine Hi ?_
  cases v1 with
  | @lst _ b vs n F0 e1 y nd=>
   obtain rfl:=y.flat hf
   cases v2 with
   |int _ t=>
    obtain hlen:vs.length=l.length:=y.length
    have hB:=aU
    refine⟨b,vs.toArray,some (a:Int),none,rfl,⟨_,k2.heap.get e1,rfl,n,rfl⟩,by rw[Hx];omega,.int _ _,.none,?_⟩
    rw[slicePick_from _ _ (by rw[Hx];omega),List.toList_toArray]
    have k3:aG [] s₂ { s₂ with heap:=(s₂.heap.push { cls:=.type "slice",data:=.fields #[.int (a:Int) t,.none,.none] }).push { cls:=.type "list",data:=.seq (vs.drop a).toArray } }:=⟨(aj.push _ _).trans (aj.push _ _),fun _ _ e=>e,id,rfl⟩
    obtain kk:=(k1.trans k2).trans k3
    refine⟨kk,[s₂.heap.objs.size+1],.lst (vs:=vs.drop a) (n:=0) ?_ ?_ (by simp),fun _ b hb=>?_⟩
    ·obtain this:=Hk (o:={ cls:=.type "list",data:=.seq (vs.drop a).toArray }) (s₂.heap.push { cls:=.type "slice",data:=.fields #[.int (a:Int) t,.none,.none] }) rfl
     rw[HX]at this
     exact this
    ·obtain y3:=y.kept0 (k2.trans k3).heap
     refine C1 (by simp[hlen]) fun i q u h1 h2=>?_
     rw[List.getElem?_drop]at h1 h2
     obtain⟨u',H,hu,zu,hH⟩:=y3.get h1
     rw[h2]at hu;cases hu
     cases H with
     |nil=>exact zu
     |cons c H=>exact absurd (hH c (.head _)) (by simp)
    ·rw[H7.mp hb]
     exact Iu (k1.trans k2).heap.size)) ht
theorem cz.eqL0{l:List PV}(hu:A.units<cLine): cz w A .Eq (.lst l) (.lst []) l.isEmpty:=by
 constructor
 intro s a b F H x y
 cases x with
 | @lst _ a0 vs n F0 e1 z1 nd1=>
 cases y with
 | @lst _ b0 us m F1 e2 z2 nd2=>
  cases z2
  obtain hlen:=z1.length
  cases l with
  |nil=>
   cases z1
   exact SeqAt.eq_listAt (items:=#[]) (items2:=#[]) (e:=fun _=>true) ⟨_,e1,rfl,n,rfl⟩ ⟨_,e2,rfl,m,rfl⟩ rfl hu (fun j h1 _=>absurd h1 (Nat.not_lt_zero _)) ⟨rfl,.refl _ _⟩
  |cons p l=>
   cases z1 with
   | @cons p v F3 ps vs' G a b=>exact SeqAt.eq_list_lengthsAt (items:=(v::vs').toArray) (items2:=#[]) ⟨_,e1,rfl,n,rfl⟩ ⟨_,e2,rfl,m,rfl⟩ (by simp) hu ⟨rfl,.refl _ _⟩
end
end
section
noncomputable abbrev gh:Str:=H5 "rows"
noncomputable abbrev nK:Str:=H5 "k"
noncomputable abbrev rK:Str:=H5 "depth"
noncomputable abbrev gZ:Str:=H5 "letter"
noncomputable abbrev xd:Str:=H5 "later"
noncomputable abbrev Cn:Str:=H5 "moved"
noncomputable abbrev Cm:Str:=H5 "slope"
noncomputable abbrev Gq:Stmt:=(ee[6]?).getD (.Pass default)
noncomputable abbrev yQ:List Stmt:=kO Gq
noncomputable abbrev GM:Stmt:=(yQ[2]?).getD (.Pass default)
noncomputable abbrev iH(p q:T)(x y:Int)(ws:List PV)(l:List (Int×Str×Str))(rows:List PV): List (Str×PV):=[(nP,p.pv),(nQ,q.pv),(nX,.int x),(nY,.int y),(lF,.int bg),(cu,.own ws),(cZ,.own (l.map br)),(gh,.own rows)]
noncomputable abbrev DO(p q:T)(x y:Int)(ws:List PV)(l:List (Int×Str×Str))(rows:List PV)(k:Nat)(o:Int×Str×Str): List (Str×PV):=[(nP,p.pv),(nQ,q.pv),(nX,.int x),(nY,.int y),(lF,.int bg),(cu,.own ws),(cZ,.own (l.map br)),(gh,.own rows),(nK,.int (k:Int)),(rK,.int o.1),(gy,.str o.2.1),(gZ,.str o.2.2)]
noncomputable abbrev zc(p q:T)(x y:Int)(ws:List PV)(l:List (Int×Str×Str))(rows:List PV)(k:Nat)(o:Int×Str×Str)(la:List PV): List (Str×PV):=[(nP,p.pv),(nQ,q.pv),(nX,.int x),(nY,.int y),(lF,.int bg),(cu,.own ws),(cZ,.own (l.map br)),(gh,.own rows),(nK,.int (k:Int)),(rK,.int o.1),(gy,.str o.2.1),(gZ,.str o.2.2),(xd,.own la)]
noncomputable def jS(o:Int×Str×Str): Prop:=(o.2.1=nP∨o.2.1=nQ)∧Ig (Hd o.2.2).length=false∧o.2.2.length≤100
noncomputable def iS(o u:Int×Str×Str): Bool:=u.2.1==o.2.1&&(Hd u.2.2==Hd o.2.2&&true)
noncomputable def du(l:List (Int×Str×Str))(k:Nat)(o:Int×Str×Str): List (Int×Str×Str):=(l.drop (k+1)).filter (iS o)
noncomputable def tv(o:Int×Str×Str): PV→Bool
 | .tup [.int d,.str g,.str s]=>iS o (d,g,s)
 |_=>false
theorem kj(o:Int×Str×Str): ∀ l:List (Int×Str×Str),((l.map br).filter (tv o)).map (fun p=>p)=(l.filter (iS o)).map br
 |[]=>rfl
 |u::l=>by
  have ih:=kj o l
  have e:tv o (br u)=iS o u:=rfl
  simp only[HF,IS,e]
  cases iS o u with
  |true=>simp only[if_true,HF,ih]
  |false=>simpa using ih
section
variable{w:World}{A:Around}{L:Addr}
theorem zE{p q:T}{x y:Int}{ws:List PV}{l:List (Int×Str×Str)}{rows:List PV}{k:Nat}{o:Int×Str×Str}(hk:l[k]? = some o)(hz:l.length≤1000)(ro:Ro A 2): Ex aa (ac w) [] w A (aW L) (exec ((yQ[0]?).getD (.Pass default)) (aW L)) (ab nK (.int (k:Int)) (iH p q x y ws l rows)) .next (DO p q x y ws l rows k o):=by
 obtain hkl:k<l.length:=(Ii.mp hk).1
 refine am (locs1:=ab gZ (.str o.2.2) (ab gy (.str o.2.1) (ab rK (.int o.1) (ab nK (.int (k:Int)) (iH p q x y ws l rows))))) ?_ (by kernel_rfl) ?_
 ·refine iD (ae _) ro.1 (by simp) (Ev.sub (p:=.lst (l.map br)) (q:=.int (k:Int)) (f1:=false) (f2:=true) ?_ ?_ (Sub.lst (by omega) (by omega) ?_ rfl) (by intro _ _;exact⟨_,rfl⟩)) ?_ ⟨aI _ _ _,aI _ _ _,aI _ _ _,trivial⟩ rfl rfl rfl rfl
  ·refine Ev.local ?_ cB rfl (by kernel_rfl) (by kernel_rfl)
   walk_at "lk"
  ·walk_at "ev"
  ·rw[Int.toNat_natCast,KO,hk];rfl
  ·intro u hu
   rcases jE hu with rfl | rfl | rfl
   ·exact .inl (by kernel_rfl)
   ·exact .inr ⟨by kernel_rfl,by kernel_rfl⟩
   ·exact .inr ⟨by kernel_rfl,by kernel_rfl⟩
 ·walk_at "looks"
theorem CD{p q:T}{x y:Int}{ws:List PV}{l:List (Int×Str×Str)}{rows:List PV}{k:Nat}{o:Int×Str×Str}(hk:l[k]? = some o)(hz:l.length≤1000)(hl:∀ u∈l,jS u)(hh:A.handled=none): Ex aa (ac w) [] w A (aW L) (exec ((yQ[1]?).getD (.Pass default)) (aW L)) (DO p q x y ws l rows k o) .next (zc p q x y ws l rows k o ((du l k o).map br)):=by
 obtain hkl:k<l.length:=(Ii.mp hk).1
 have fo:Ig (Hd o.2.2).length=false:=(hl o (HH hk)).2.1
 refine am (locs1:=ab xd (.own ((((l.map br).drop (k+1)).filter (tv o)).map fun p=>p)) (DO p q x y ws l rows k o)) ?_ (by kernel_rfl) ?_
 ·refine ub (cl:=[(gZ,L+1+1),(gy,L+1)]) (caps:=[(gy,.str o.2.1),(gZ,.str o.2.2)]) (ae _) (by simp) (.inl (by kernel_rfl)) (by kernel_rfl) (wA (f:=true) hh ?_ (ym (f:=false) (f2:=true) (a:=k+1) ?_ (gU l) ?_ ?_ ?_ (by intro _ _;rfl))) ?_ rfl (by decide +kernel) rfl (by decide +kernel) (by decide +kernel) ?_ (fun C u hu=>mS (Tr.many ?_)) (fun C u hu _=>?_) (by intro _;rfl)
  ·rw[←LZ];exact gU _
  ·refine Ev.local ?_ cB rfl (by kernel_rfl) (by kernel_rfl)
   walk_at "lk"
  ·show Ev _ _ _ _ _ _ _ (.int ((k:Int)+1)) _
   walk_at "ev"
  ·rw[Hl];omega
  ·rw[Hl];omega
  ·rw[Kb,Hl];exact H6 (Mp _ _) (H6 hz (by decide))
  ·exact⟨⟨by walk_at "lk",by kernel_rfl,.inl (by kernel_rfl),by kernel_rfl⟩,⟨by walk_at "lk",by kernel_rfl,.inl (by kernel_rfl),by kernel_rfl⟩,trivial⟩
  ·rw[←LZ]at hu
   obtain⟨c,hc,rfl⟩:=Hm.mp hu
   have fc:Ig (Hd c.2.2).length=false:=(hl c (Je hc)).2.1
   show mI _ _ _ _ _ [(mB,.tup [.int c.1,.str c.2.1,.str c.2.2]),(gy,.str o.2.1),(gZ,.str o.2.2)] _ _ (c.2.1==o.2.1&&(Hd c.2.2==Hd o.2.2&&true))
   walk_at "trs"
  ·rw[←LZ]at hu
   obtain⟨c,hc,rfl⟩:=Hm.mp hu
   refine⟨Ev.local (p:=br c) ?_ pZ rfl (by kernel_rfl) (by kernel_rfl),rfl⟩
   walk_at "lk"
 ·obtain e:(((l.map br).drop (k+1)).filter (tv o)).map (fun p=>p)=(du l k o).map br:=by
   rw[←LZ];exact kj o _
  rw[e]
  walk_at "looks"
end
end
section
noncomputable def wG(p q:T)(a b:Int)(g:Str): Int:=if g==nP then wP p a b else wQ p q a b
noncomputable def on(m w0:Int): Int:=(((m - w0).fdiv bg+bg.fdiv 2).fmod bg) - bg.fdiv 2
noncomputable def dY(p q:T)(x y:Int)(o:Int×Str×Str): Int:=if Internal.inS o.2.2 (H5 "xX")then wG p q (x+bg) y o.2.1 else wG p q x (y+bg) o.2.1
noncomputable def ci(p q:T)(x y:Int)(o:Int×Str×Str): Int:=on (dY p q x y o) (wG p q x y o.2.1)
noncomputable def uO(p q:T)(x y:Int)(o:Int×Str×Str): PV:=aY (bu o.2.1 o.2.2,strI (ci p q x y o))
noncomputable def fk(p q:T)(x y:Int)(l:List (Int×Str×Str))(k:Nat): List PV:=match l[k]? with
 |some o=>if(du l k o).isEmpty then[uO p q x y o]else[]
 |none=>[]
theorem jd{w:World}{p q:T}{a b:Int}{g:Str}(hg:g=nP∨g=nQ): (i9 w [(nP,wP p a b),(nQ,wQ p q a b)]).lookup g=some (hashStr w g,.int (wG p q a b g)):=by
 refine km ?_
 rcases hg with rfl | rfl
 ·rw[HA]
  obtain e:(nP==nP)=true:=by decide +kernel
  rw[e];simp[wG]
 ·rw[HA]
  obtain e:(nQ==nP)=false:=by decide +kernel
  skip
  simp[KE,wG,e]
section
variable{w:World}{A:Around}{L:Addr}
theorem xJ{p q:T}{x y:Int}{ws:List PV}{l:List (Int×Str×Str)}{rows:List PV}{k:Nat}{o:Int×Str×Str}(hu:A.units<cLine)(he:(du l k o).isEmpty=false): Ex aa (ac w) [] w A (aW L) (exec GM (aW L)) (zc p q x y ws l rows k o ((du l k o).map br)) .next (iH p q x y ws l rows):=by
 refine am (locs1:=zc p q x y ws l rows k o ((du l k o).map br)) (c7 (c:=((du l k o).map br).isEmpty) (Tr.cmp (f1:=false) (f2:=true) (p:=.lst ((du l k o).map br)) (q:=.lst []) (Ev.local ?_ cB rfl (by kernel_rfl) (by kernel_rfl)) ?_ (cz.eqL0 hu) rfl) ?_ aq) (by kernel_rfl) ?_
 ·walk_at "lk"
 ·walk_at "ev"
 ·rw[Mf];exact he
 ·walk_at "looks"
theorem yc:bg≠0:=by decide
theorem CW(i:Int): JV i bg=false:=PyProof.noPylong_of_log2 (by decide +kernel)
theorem Ax{p q:T}{x y:Int}{l:List (Int×Str×Str)}{rows:List PV}{k:Nat}{o:Int×Str×Str}(hu:A.units<cLine)(ho:jS o)(he:(du l k o).isEmpty=true)(hz:rows.length≤900)(hn:bL (ci p q x y o)): Ex aa (ac w) [] w A (aW L) (exec GM (aW L)) (zc p q x y (bh w p q x y) l rows k o ((du l k o).map br)) .next (iH p q x y (bh w p q x y) l (rows++[uO p q x y o])):=by
 have hB:=aU
 have hw:∀ a b,iI w (i9 w [(nP,wP p a b),(nQ,wQ p q a b)]):=fun a b=>fh w _
 have l1:(H5 ".").length=1:=rfl
 have hg1:o.2.1.length≤1:=by rcases ho.1 with h | h <;> rw[h] <;> decide
 obtain hs1:=ho.2.2
 obtain c1:au aa (ac w) w A (.type "str") [.int (ci p q x y o)] (.str (strI (ci p q x y o))) true:=cY hn.1
 obtain b1:∀ i,fi w A .FloorDiv (.int i) (.int bg) (.int (i.fdiv bg)) true:=fun i=>fi.floordiv yc (CW i)
 obtain b2:fi w A .FloorDiv (.int bg) (.int 2) (.int (bg.fdiv 2)) true:=fi.floordiv (by decide) (Mr (by decide))
 obtain b3:∀ i,fi w A .Mod (.int i) (.int bg) (.int (i.fmod bg)) true:=fun i=>fi.mod yc
 refine cE (c:=((du l k o).map br).isEmpty) (Tr.cmp (f1:=false) (f2:=true) (p:=.lst ((du l k o).map br)) (q:=.lst []) (Ev.local ?_ cB rfl (by kernel_rfl) (by kernel_rfl)) ?_ (cz.eqL0 hu) rfl) (by rw[Mf];exact he) ?_
 ·walk_at "lk"
 ·walk_at "ev"
 refine am (locs1:=ab gh (.own (rows++[uO p q x y o])) (ab Cm (.int (ci p q x y o)) (ab Cn (.int (dY p q x y o)) (zc p q x y (bh w p q x y) l rows k o ((du l k o).map br))))) ?_ (by kernel_rfl) ?_
 ·refine af (az (p:=.int (dY p q x y o)) (ae _) (by simp) ?_ (Bind.same rfl) (.inl (by kernel_rfl)) rfl) (af (az (p:=.int (ci p q x y o)) (ae _) (by simp) ?_ (Bind.same rfl) (.inl (by kernel_rfl)) rfl) (bo (bU (g8 (l:=rows) (q:=uO p q x y o) (ae _) ?_ (by omega) (Ev.tuple (f:=true&&(true&&true)) (rs:=[.str (bu o.2.1 o.2.2),.str (strI (ci p q x y o))]) (bG.cons (f1:=true) ?_ (bG.cons (f1:=true) ?_ bG.nil rfl) rfl) (by simp only[Hh,Ij];omega) rfl) (by kernel_rfl) (by kernel_rfl) rfl rfl rfl rfl) rfl rfl)))
  ·unfold dY
   cases hx:Internal.inS o.2.2 (H5 "xX")with
   |true=>
    skip
    refine i6 (l:=bh w p q x y) (ds:=i9 w [(nP,wP p (x+bg) y),(nQ,wQ p q (x+bg) y)]) (n:=1) (k:=o.2.1) (f1:=true) (f2:=true) ?_ (by kernel_rfl) (by kernel_rfl) (Ev.ifT (c:=Internal.inS o.2.2 (H5 "xX")) ?_ hx ?_) (by decide) (by decide) rfl ?_ (hw _ _) (jd ho.1) rfl (by intro _ _;exact⟨_,rfl⟩) (by intro _ _;exact⟨_,rfl⟩)
    ·walk_at "lk"
    ·walk_at "tr"
    ·walk_at "ev"
    ·walk_at "ev"
   |false=>
    skip
    refine i6 (l:=bh w p q x y) (ds:=i9 w [(nP,wP p x (y+bg)),(nQ,wQ p q x (y+bg))]) (n:=2) (k:=o.2.1) (f1:=true) (f2:=true) ?_ (by kernel_rfl) (by kernel_rfl) (Ev.ifF (c:=Internal.inS o.2.2 (H5 "xX")) ?_ hx ?_) (by decide) (by decide) rfl ?_ (hw _ _) (jd ho.1) rfl (by intro _ _;exact⟨_,rfl⟩) (by intro _ _;exact⟨_,rfl⟩)
    ·walk_at "lk"
    ·walk_at "tr"
    ·walk_at "ev"
    ·walk_at "ev"
  ·skip
   refine Ev.binop (f1:=true) (f2:=true) (p:=.int ((((dY p q x y o) - (wG p q x y o.2.1)).fdiv bg+bg.fdiv 2).fmod bg)) (q:=.int (bg.fdiv 2)) (Ev.binop (f1:=true) (f2:=true) (p:=.int (((dY p q x y o) - (wG p q x y o.2.1)).fdiv bg+bg.fdiv 2)) (q:=.int bg) (Ev.binop (f1:=true) (f2:=true) (p:=.int (((dY p q x y o) - (wG p q x y o.2.1)).fdiv bg)) (q:=.int (bg.fdiv 2))
    (Ev.binop (f1:=true) (f2:=true) (p:=.int ((dY p q x y o) - (wG p q x y o.2.1))) (q:=.int bg) (Ev.binop (f1:=true) (f2:=true) (p:=.int (dY p q x y o)) (q:=.int (wG p q x y o.2.1)) ?_ (i6 (l:=bh w p q x y) (ds:=i9 w [(nP,wP p x y),(nQ,wQ p q x y)]) (n:=0) (k:=o.2.1) (f1:=true) (f2:=true) ?_ (by kernel_rfl) (by kernel_rfl) (Ev.int _ _ _) (by decide) (by decide) rfl ?_ (hw _ _) (jd ho.1) rfl (by intro _ _;exact⟨_,rfl⟩) (by intro _ _;exact⟨_,rfl⟩)) (fi.sub _ _)) ?_ (b1 _))
    (Ev.binop (f1:=true) (f2:=true) (p:=.int bg) (q:=.int 2) ?_ (Ev.int _ _ _) b2) (fi.add _ _)) ?_ (b3 _)) (Ev.binop (f1:=true) (f2:=true) (p:=.int bg) (q:=.int 2) ?_ (Ev.int _ _ _) b2) (fi.sub _ _)
   ·walk_at "ev"
   ·walk_at "lk"
   ·walk_at "ev"
   ·walk_at "ev"
   ·walk_at "ev"
   ·walk_at "ev"
   ·walk_at "ev"
  ·walk_at "lk"
  ·show Ev _ _ _ _ _ _ _ (.str (o.2.1++H5 "."++o.2.2)) _
   walk_at "ev"
  ·walk_at "ev"
 ·walk_at "looks"
end
end
section
noncomputable def xH(l:List Nat): List PV:=l.map fun i:Nat=>PV.int (i:Int)
section
variable{w:World}{A:Around}{L:Addr}
theorem wY{p q:T}{x y:Int}{ws:List PV}{l:List (Int×Str×Str)}{rows:List PV}: bQ (iH p q x y ws l rows):=ai (.inl p.flat) (ai (.inl q.flat) (ai (.inl rfl) (ai (.inl rfl) (ai (.inl rfl) (ai (.inr rfl) (ai (.inr rfl) (ai (.inr rfl) bX)))))))
theorem Eb{p q:T}{x y:Int}{l:List (Int×Str×Str)}{rows:List PV}{k:Nat}(hk:k<l.length)(hz:l.length≤900)(hr:rows.length≤k)(hl:∀ u∈l,jS u∧bL (ci p q x y u))(ro:Ro A 2)(hu:A.units<cLine):
  Ex aa (ac w) [] w A (aW L) (execs yQ (aW L)) (ab nK (.int (k:Int)) (iH p q x y (bh w p q x y) l rows)) .next (iH p q x y (bh w p q x y) l (rows++fk p q x y l k)):=by
 obtain hg:l[k]? = some l[k]:=Hv hk
 obtain hm:=hl l[k] (Kf hk)
 refine af (zE hg (by omega) ro) (af (CD hg (by omega) (fun u hu=>(hl u hu).1) ro.1) (bo ?_))
 unfold fk
 rw[hg]
 cases he:(du l k l[k]).isEmpty with
 |true=>simp only[he,if_true];exact Ax hu hm.1 he (by omega) hm.2
 |false=>simp only[he,Hq,if_false,Hj];exact xJ hu he
theorem rB(p q:T)(x y:Int)(l:List (Int×Str×Str))(k:Nat): (fk p q x y l k).length≤1:=by
 unfold fk
 split
 ·split <;> simp
 ·simp
theorem Bx{p q:T}{x y:Int}{l:List (Int×Str×Str)}(hz:l.length≤900)(hl:∀ u∈l,jS u∧bL (ci p q x y u))(ro:Ro A 2)(hu:A.units<cLine): ∀(m k:Nat) (rows:List PV),k+m=l.length→rows.length≤k→
  bP aa (ac w) [] w A (aW L) yQ (fun p=>ab nK p) (xH (Iw k m)) (iH p q x y (bh w p q x y) l rows) .next (iH p q x y (bh w p q x y) l (rows++(Iw k m).flatMap (fk p q x y l)))
 |0,k,rows,hk,hr=>by
  simp only[List.range'_zero,List.flatMap_nil,Hj]
  exact .nil wY
 |m+1,k,rows,hk,hr=>by
  have hlen:=rB p q x y l k
  have ih:=Bx hz hl ro hu m (k+1) (rows++fk p q x y l k) (by omega) (by simp only[He];omega)
  rw[Md,IL,←Ho]
  exact .next wY (Eb (by omega) hz hr hl ro hu) ih
noncomputable def dd(p q:T)(x y:Int)(l:List (Int×Str×Str)): List PV:=(Ix l.length).flatMap (fk p q x y l)
theorem zV{p q:T}{x y:Int}{l:List (Int×Str×Str)}(hz:l.length≤900)(hl:∀ u∈l,jS u∧bL (ci p q x y u))(ro:Ro A 2)(hu:A.units<cLine): pB aa (ac w) [] w A (aW L) ((ee.drop 5).take 2) (ie p q x y (bh w p q x y) l) (iH p q x y (bh w p q x y) l (dd p q x y l)):=by
 refine .cons (locs1:=iH p q x y (bh w p q x y) l []) ?_ (.cons ?_ .nil)
 ·refine am (locs1:=ab gh (.own []) (ie p q x y (bh w p q x y) l)) ?_ (by kernel_rfl) ?_
  ·refine az (p:=.lst []) (ae _) (by simp) ?_ .own (.inl (by kernel_rfl)) rfl
   walk_at "ev"
  ·walk_at "looks"
 ·obtain h:=Bx (w:=w) (A:=A) (L:=L) hz hl ro hu l.length 0 [] (Jc _) (HT _)
  obtain e:xH (Iw 0 l.length)=eK ((l.map br).length):=by unfold xH eK;rw[Hl,Jy]
  obtain e2:([]:List PV)++(Iw 0 l.length).flatMap (fk p q x y l)=dd p q x y l:=by unfold dd;rw[Iy,Jy]
  rw[e,e2]at h
  obtain hc:au aa (ac w) w A (.builtin "len") [.lst (l.map br)] (.int ((l.map br).length:Int)) true:=A4 (by rw[Hl];omega)
  refine kl (n:=(l.map br).length) (f:=true) (ae _) ro.1 (.inl (by kernel_rfl)) (by simp) (by rw[Hl];omega) (by kernel_rfl) (c8 (ff:=true) (fa:=false&&true) (f:=.builtin "len") (rs:=[.lst (l.map br)]) (Ev.builtin (by kernel_rfl) DA (by decide +kernel) (by kernel_rfl)) dw (bG.cons (Ev.local ?_ cB rfl (by kernel_rfl) (by kernel_rfl)) bG.nil rfl) hc bR rfl rfl) rfl h
  walk_at "lk"
noncomputable def cv(p q:T): List (Int×Str×Str):=T.leaves p nP p 1++T.leaves p nQ q 1
theorem vd{p q:T}{x y:Int}{ws:List PV}(hp:p.free)(hz:(cv p q).length≤900)(ro:Ro A (q.depth+p.depth+p.depth+2)): Ex aa (ac w) [] w A (aW L) (exec ((ee[3]?).getD (.Pass default)) (aW L)) (mJ p q x y ws) .next (ie p q x y ws (cv p q)):=by
 have hB:=aU
 unfold cv at hz
 rw[He]at hz
 obtain fp:=p.flat
 obtain sp:=p.seen
 obtain fq:=q.flat
 obtain sq:=q.seen
 obtain c1:au aa (ac w) w A (.ref 335) [p.pv,p.pv,.str nP,.int 1] (.lst ((T.leaves p nP p 1).map br)) true:=(tD w p nP hp p 1 A (by omega) (ro.le (by omega))).up (ag w)
 obtain c2:au aa (ac w) w A (.ref 335) [q.pv,p.pv,.str nQ,.int 1] (.lst ((T.leaves p nQ q 1).map br)) true:=(tD w p nQ hp q 1 A (by omega) (ro.le (by omega))).up (ag w)
 obtain z1:((T.leaves p nP p 1).map br).length+((T.leaves p nQ q 1).map br).length≤Ip:=by simp only[Hl];omega
 refine am (locs1:=ab cZ (.own ((T.leaves p nP p 1).map br++(T.leaves p nQ q 1).map br)) (mJ p q x y ws)) ?_ (by kernel_rfl) ?_
 ·refine az (p:=.lst ((T.leaves p nP p 1).map br++(T.leaves p nQ q 1).map br)) (ae _) (by simp) ?_ .own (.inl (by kernel_rfl)) rfl
  walk_at "ev"
 ·skip
  rw[←HW]
  walk_at "looks"
end
end
section
noncomputable def ux(p q:T)(x y:Int): Prop:=p.free∧2≤(cv p q).length∧(cv p q).length<64∧(∀ u∈cv p q,jS u∧bL (ci p q x y u))∧po p q x y∧po p q (x+bg) y∧po p q x (y+bg)∧bL (wP p x y)∧bL (wQ p q x y)
noncomputable def cg(p q:T)(x y:Int): List PV:=[.str (strI (wP p x y)),.str (strI (wQ p q x y))]
section
variable{w:World}{A:Around}
theorem C9{L:Addr}{p q:T}{x y:Int}{l:List (Int×Str×Str)}{rows:List PV}{s:Shared}{Fs:List (List Addr)}(hf:PV.flat.go rows=true)(h1:bL (wP p x y))(h2:bL (wQ p q x y))(I:bw aa (ac w) [] (aW L) (iH p q x y (bh w p q x y) l rows) Fs s):
  wpAny (model pw w) A (execs (ee.drop 7) (aW L)) (fun f s'=>∃ u,f=.ret u∧aG [] s s'∧∃ F,VR s'.heap (.tup [.own rows,.own (cg p q x y)]) u F∧∀ b∈F,b∈ow (aW L) (iH p q x y (bh w p q x y) l rows) Fs∨s.heap.objs.size≤b) (fun _ _=>False) s:=by
 obtain⟨v,F,Fs1,z,av,I1,l1,d1,o1,o2,f1,f2⟩:=I.take (x:=gh) (p:=.own rows) (by kernel_rfl)
 obtain o1:=o1 rfl
 obtain e0:ab gh (.val v) (iH p q x y (bh w p q x y) l rows)=[(nP,p.pv),(nQ,q.pv),(nX,.int x),(nY,.int y),(lF,.int bg),(cu,.own (bh w p q x y)),(cZ,.own (l.map br)),(gh,.val v)]:=by kernel_rfl
 skip
 obtain hw:iI w (i9 w [(nP,wP p x y),(nQ,wQ p q x y)]):=fh w _
 obtain c1:au aa (ac w) w A (.type "str") [.int (wP p x y)] (.str (strI (wP p x y))) true:=cY h1.1
 obtain c2:au aa (ac w) w A (.type "str") [.int (wQ p q x y)] (.str (strI (wQ p q x y))) true:=cY h2.1
 have hB:=aU
 cases z with
 | @own _ r vs n F0 e1 zr nd=>
 obtain rfl:=zr.flat hf
 obtain item:∀{g:Str} {i:Int} {p1 p2 p3 p4 p5:Pos} {c1 c2:Nat},(i9 w [(nP,wP p x y),(nQ,wQ p q x y)]).lookup g=some (hashStr w g,.int i)→Ev aa (ac w) w A (aW L) [(nP,p.pv),(nQ,q.pv),(nX,.int x),(nY,.int y),(lF,.int bg),(cu,.own (bh w p q x y)),(cZ,.own (l.map br)),(gh,.val (.ref r))] (.Subscript (.Subscript (.Name cu p1) (.Constant (.int 0) c1 p2) p3) (.Constant (.str g) c2 p4) p5) (.int i) true:=by
  intro g i p1 p2 p3 p4 p5 c1 c2 hk
  exact i6 (l:=bh w p q x y) (ds:=i9 w [(nP,wP p x y),(nQ,wQ p q x y)]) (n:=0) (k:=g) (f1:=true) (f2:=true) (by kernel_rfl) (by kernel_rfl) (by kernel_rfl) (Ev.int _ _ _) (by decide) (by decide) rfl (Ev.str _ _ _) hw hk rfl (by intro _ _;exact⟨_,rfl⟩) (by intro _ _;exact⟨_,rfl⟩)
 obtain iP:=jd (w:=w) (p:=p) (q:=q) (a:=x) (b:=y) (g:=nP) (.inl rfl)
 obtain iQ:=jd (w:=w) (p:=p) (q:=q) (a:=x) (b:=y) (g:=nQ) (.inr rfl)
 obtain eP:wG p q x y nP=wP p x y:=by unfold wG;rw[if_pos (by decide +kernel)]
 have eQ:wG p q x y nQ=wQ p q x y:=by unfold wG;rw[if_neg (by decide +kernel)]
 skip
 skip
 refine HE (Jf (Lg (Pw.andThen ((bG.cons (f1:=true) (r:=.val (.ref r)) (Ev.local l1 pY rfl (by kernel_rfl) (by kernel_rfl)) (bG.cons (f1:=true) (Ev.list (f:=true&&(true&&true)) (rs:=cg p q x y)
  (bG.cons (f1:=true) (c8 (ff:=true) (fa:=true&&true) (f:=.type "str") (rs:=[.int (wP p x y)]) (Ev.builtin (by kernel_rfl) gN (by decide +kernel) (by kernel_rfl)) bd (bG.cons (item iP) bG.nil rfl) c1 bR rfl rfl)
   (bG.cons (f1:=true) (c8 (ff:=true) (fa:=true&&true) (f:=.type "str") (rs:=[.int (wQ p q x y)]) (Ev.builtin (by kernel_rfl) gN (by decide +kernel) (by kernel_rfl)) bd (bG.cons (item iQ) bG.nil rfl) c2 bR rfl rfl) bG.nil rfl) rfl) (by simp only[cg,Hh,Ij];omega) rfl) bG.nil rfl) rfl).run s Fs1 _ I1.g I1.er) fun us s2 ⟨k2,F2,zs,fr⟩=>?_)))
 have hh:=bA zs;clear zs;obtain⟨u1,r1,G1,G2,rfl,rfl,y1,zs⟩:=hh
 have hh:=bA zs;clear zs;obtain⟨u2,r2,G3,G4,rfl,rfl,y2,zs⟩:=hh
 obtain rfl:=dK zs
 obtain hG4:G4=[]:=by cases zs;rfl
 subst hG4
 obtain rfl:=y1.flat rfl
 cases y1
 obtain fr:=fr rfl
 simp only[Iy,Hj]at fr
 obtain rl:r<s.heap.objs.size:=Hr e1
 refine⟨by simp only[Hh,Ij];omega,?_⟩
 have kp:=aj.push s2.heap (pG [.ref r,u2] 0)
 obtain yr:VR (s2.heap.push (pG [.ref r,u2] 0)) (.own rows) (.ref r) [r]:=.own (kp.get (k2.heap.get e1)) ((zr.kept0 k2.heap).kept0 kp) nd
 obtain yw:VR (s2.heap.push (pG [.ref r,u2] 0)) (.own (cg p q x y)) u2 G3:=(Bind.own (l:=cg p q x y)).vr (y2.kept0 kp)
 refine⟨_,rfl,k2.trans (bS _ _),[r]++(G3++[]),.tup (n:=0) (Hk _ rfl) (.cons yr (.cons yw .nil)) ?_,fun b hb=>?_⟩
 ·rw[Hj,Hn]
  refine⟨by simp,yw.nodup,fun b hb c hc e=>?_⟩
  subst e
  rw[H7.mp hb]at hc
  exact absurd rl (Hz.mpr (fr r hc))
 ·rw[Hj]at hb
  rcases H9.mp hb with hb | hb
  ·exact .inl (o1 b hb)
  ·exact .inr (fr b hb)
theorem uN{p q:T}{x y:Int}{l:List (Int×Str×Str)}: PV.flat.go (dd p q x y l)=true:=by
 obtain one:∀ k,PV.flat.go (fk p q x y l k)=true:=fun k=>by
  unfold fk
  split
  ·split <;> rfl
  ·rfl
 obtain app:∀ a b:List PV,PV.flat.go a=true→PV.flat.go b=true→PV.flat.go (a++b)=true:=by
  intro a b ha hb
  induction a with
  |nil=>exact hb
  |cons u a ih=>
   obtain ha':=(KX _ _).mp ha
   exact(KX _ _).mpr ⟨ha'.1,ih ha'.2⟩
 unfold dd
 generalize Ix l.length=ks
 induction ks with
 |nil=>rfl
 |cons k ks ih=>rw[IL];exact app _ _ (one k) ih
inductive Ba(p q:T)(x y:Int)(s:Shared)(u:Value)(s':Shared): Prop
 |mk(k:aG [337] s s'∧TB 337 s'.heap)(l:List (Int×Str×Str))(F:List Addr)(so:eO (cv p q) l)(z:VR s'.heap (.tup [.own (dd p q x y l),.own (cg p q x y)]) u F)(h:∀ b∈F,s.heap.objs.size≤b)
theorem yL{p q:T}{x y:Int}{s:Shared}{vs:List Value}(ro:Ro A (p.depth+p.depth+q.depth+8))(g:G aa (ac w) s.heap)(bi:w5 s.heap)(hP:s.heap.get? 337=some (tabObj #[]))(hd:ux p q x y)(hv:bf s.heap [p.pv,q.pv,.int x,.int y] vs []):
  wpAny (model pw w) A (call (.ref 340) vs) (Ba p q x y s) (fun _ _=>False) s:=by
 obtain⟨hfree,hl2,hl64,hlv,f1,f2,f3,n1,n2⟩:=hd
 obtain hvl:vs.length=4:=hv.length
 refine fH (n:=p.depth+p.depth+q.depth+7) (args:=[p.pv,q.pv,.int x,.int y]) (F:=[]) (W:=[]) (pins:=[]) (sG.toS.up (ag w)) ro rfl (HD (sG.bind vs hvl)) g hv .nil (by simp) (fun Fs e b hb=>by obtain this:=cT hb;rw[e]at this;exact this) (by simp) ?_
 intro h1 tk Fs k1 I1 eF o1
 have roD:=ro.deeper (ah 340 u5 s.heap.objs.size)
 obtain huD:(A.deeper (ah 340 u5 s.heap.objs.size)).units<cLine:=by obtain this:=roD.2.2;omega
 have kA:aG [] s { s with heap:=h1,toks:=tk }:=⟨k1,fun _ _ e=>e,id,rfl⟩
 have own1:∀ b∈ow (aW s.heap.objs.size) ([nP,nQ,nX,nY].zip [p.pv,q.pv,.int x,.int y]) Fs,s.heap.objs.size≤b:=fun b hb=>(o1 b hb).elim (fun h=>nomatch h) id
 refine((uz (w:=w) (L:=s.heap.objs.size) f1 f2 f3 (roD.le (by omega)))).run (r:=ee.drop 3) I1 fun s2 Fs2 k2 I2 o2=>?_
 have k02:aG [] s s2:=kA.comp k2 fun b hb=>.inr (own1 b hb)
 have own2:∀ b∈ow (aW s.heap.objs.size) (mJ p q x y (bh w p q x y)) Fs2,s.heap.objs.size≤b:=fun b hb=>(o2 b hb).elim (own1 b) fun h=>H6 kA.heap.size h
 refine HE (Pw.andThen ((vd (w:=w) (ws:=bh w p q x y) (x:=x) (y:=y) hfree (by omega) (roD.le (by omega))).run s2 Fs2 I2) fun f s3 hh=>?_)
 obtain⟨k3,e3,Fs3,I3,o3⟩:=hh
 cases e3
 have k03:aG [] s s3:=k02.comp k3 fun b hb=>.inr (own2 b hb)
 obtain own3:∀ b∈ow (aW s.heap.objs.size) (ie p q x y (bh w p q x y) (cv p q)) Fs3,s.heap.objs.size≤b:=fun b hb=>(o3 b hb).elim (own2 b) fun h=>H6 k02.heap.size h
 refine HE (Pw.andThen (zR (w:=w) (roD.le (by omega)) I3 (bi.kept k03.heap (by simp[jR])) (k03.heap.get hP) hl2 hl64) fun f s4 hh=>?_)
 obtain⟨e4,l,Fs4,so,⟨k4,tb4⟩,I4,o4⟩:=hh
 subst e4
 have k04:aG [337] s s4:=k03.all.comp k4 fun b hb=>by
  rcases Ha.mp hb with rfl | hb
  ·exact .inl (.head _)
  ·exact .inr (own3 b hb)
 have own4:∀ b∈ow (aW s.heap.objs.size) (ie p q x y (bh w p q x y) l) Fs4,s.heap.objs.size≤b:=fun b hb=>(o4 b hb).elim (own3 b) fun h=>H6 k03.heap.size h
 refine((zV (w:=w) (L:=s.heap.objs.size) (p:=p) (q:=q) (x:=x) (y:=y) (l:=l) (by rw[so.length];omega) (fun u hu=>hlv u (so.mem u hu)) (roD.le (by omega)) huD)).run (r:=ee.drop 7) I4 fun s5 Fs5 k5 I5 o5=>?_
 have k05:aG [337] s s5:=k04.comp k5 fun b hb=>.inr (own4 b hb)
 obtain own5:∀ b∈ow (aW s.heap.objs.size) (iH p q x y (bh w p q x y) l (dd p q x y l)) Fs5,s.heap.objs.size≤b:=fun b hb=>(o5 b hb).elim (own4 b) fun h=>H6 k04.heap.size h
 refine Pw.andThen (C9 (w:=w) uN n1 n2 I5) fun f s6 hh=>?_
 obtain⟨u,rfl,k6,F,z6,hF⟩:=hh
 exact⟨⟨k05.trans k6.all,(tb4.keep k5.heap fun hm=>absurd (H6 g.low (own4 337 hm)) (by decide)).keep k6.heap (by simp)⟩,_,F,so,z6,fun b hb=>(hF b hb).elim (own5 b) fun h=>H6 k05.heap.size h⟩
end
end
section
section
variable{gt:List (Str×Value)}{K:List (Addr×Obj)}{w:World}{A:Around}{env:Env}{locs:List (Str×PV)}
noncomputable def cN(l:List Int)(a b c:Int): List Int:=(Mo (Jo (some a) (some b) (some c) l.length).1 (Jo (some a) (some b) (some c) l.length).2.1 (Jo (some a) (some b) (some c) l.length).2.2).filterMap (l[·]?)
theorem nu:∀ l:List Int,PV.flat.go (l.map PV.int)=true
 |[]=>rfl
 |_::l=>by simp only[HF,PV.flat.go,PV.flat,Bool.true_and];exact nu l
theorem pE{h:Heap}{l:List Int}{vs:List Value}(z:bf h (l.map PV.int) vs []): ∀ idx:List Nat,bf h ((idx.filterMap (l[·]?)).map PV.int) (idx.filterMap (vs[·]?)) []
 |[]=>.nil
 |i::idx=>by
  have ih:=pE z idx
  have hlen:vs.length=l.length:=by have:=z.length;simpa using this
  simp only[List.filterMap_cons]
  by_cases hi:i<l.length
  ·obtain⟨u,H,hu,zu,hH⟩:=z.get (j:=i) (p:=.int l[i]) (by simp[hi])
   rw[hu,Hv hi]
   obtain rfl:=zu.flat rfl
   exact .cons (F:=[]) zu ih
  ·rw[ME (by omega),ME (by omega)]
   exact ih
theorem jL{v:Expr}{l:List Int}{a b c:Int}{k1 k2 k3:Nat}{p1 p2 p3 p pos:Pos}{f:Bool}(h:Ev gt K w A env locs v (.lst (l.map PV.int)) f)(hz:l.length≤100000)(hc:c≠0)(ht:∀ o r,MG v o r=pure ()):
  Ev gt K w A env locs (.Subscript v (.Slice (some (.Constant (.int a) k1 p1)) (some (.Constant (.int b) k2 p2)) (some (.Constant (.int c) k3 p3)) p) pos) (.lst ((cN l a b c).map PV.int)) true:=.mk fun s Fs g z=>
 wpAny_Subscript_Slice_step (T:="list") list_getitem_lookup (Pw.andThen (h.run s Fs g z) fun o s₁ ⟨j1,F1,v1,_⟩=>wpAny_Slice (by
  have i1:=j1
  refine Ky (Pw.andThen ((Ev.int (gt:=gt) (K:=K) (w:=w) (A:=A) (env:=env) (locs:=locs) a k1 p1).run s₁ Fs (g.kept0 j1.heap) (z.kept0 j1.heap)) fun u1 s₂ hh=>?_)
  obtain⟨j2,_,w1,_⟩:=hh
  obtain j12:=j1.trans j2
  refine Ky (Pw.andThen ((Ev.int (gt:=gt) (K:=K) (w:=w) (A:=A) (env:=env) (locs:=locs) b k2 p2).run s₂ Fs (g.kept0 j12.heap) (z.kept0 j12.heap)) fun u2 s₃ hh=>?_)
  obtain⟨j3,_,w2,_⟩:=hh
  obtain j13:=j12.trans j3
  refine Ky (Pw.andThen ((Ev.int (gt:=gt) (K:=K) (w:=w) (A:=A) (env:=env) (locs:=locs) c k3 p3).run s₃ Fs (g.kept0 j13.heap) (z.kept0 j13.heap)) fun u3 s₄ hh=>?_)
  obtain⟨j4,_,w3,_⟩:=hh
  have j14:=j13.trans j4
  cases v1 with
  | @lst _ d vs n F0 e1 y nd=>
   obtain hfl:PV.flat.go (l.map PV.int)=true:=nu l
   obtain rfl:=y.flat hfl
   cases w1 with
   |int _ t1=>
   cases w2 with
   |int _ t2=>
   cases w3 with
   |int _ t3=>
    have k:=(j2.trans j3).trans j4
    obtain e4:=k.heap.get e1
    obtain hl:(s₄.heap.push { cls:=.type "slice",data:=.fields #[.int a t1,.int b t2,.int c t3] }).IsList d vs.toArray:=⟨_,Ht _ e4,rfl,n,rfl⟩
    have hlen:vs.length=l.length:=by obtain this:=y.length;simpa using this
    have hB:=aU
    refine⟨hl.typeIs,wpAny_getItem_list_slice (lo:=some a) (hi:=some b) (st:=some c) hl (LD ..) (.int _ _) (.int _ _) (.int _ _) (by simpa using hc) ?_ (by rw[Hx];omega)⟩
    obtain kp:=aj.push s₄.heap { cls:=.type "slice",data:=.fields #[.int a t1,.int b t2,.int c t3] }
    obtain ko:=aj.push (s₄.heap.push { cls:=.type "slice",data:=.fields #[.int a t1,.int b t2,.int c t3] }) { cls:=.type "list",data:=.seq (MX vs.toArray (some a) (some b) (some c)) }
    obtain kk:aG [] s { s₄ with heap:=(s₄.heap.push { cls:=.type "slice",data:=.fields #[.int a t1,.int b t2,.int c t3] }).push { cls:=.type "list",data:=.seq (MX vs.toArray (some a) (some b) (some c)) } }:=j14.trans ⟨kp.trans ko,fun _ _ e=>e,id,rfl⟩
    obtain y4:=pE (((y.kept0 k.heap).kept0 kp).kept0 ko) (Mo (Jo (some a) (some b) (some c) l.length).1 (Jo (some a) (some b) (some c) l.length).2.1 (Jo (some a) (some b) (some c) l.length).2.2)
    obtain e6:(MX vs.toArray (some a) (some b) (some c)).toList=(Mo (Jo (some a) (some b) (some c) l.length).1 (Jo (some a) (some b) (some c) l.length).2.1 (Jo (some a) (some b) (some c) l.length).2.2).filterMap (vs[·]?):=by
     unfold MX
     rw[Hx,hlen]
     obtain e5:(fun i:Nat=>vs.toArray[i]?)=fun i:Nat=>vs[i]?:=by funext i;simp
     rw[e5]
    rw[←e6]at y4
    refine⟨kk,[_],.lst (vs:=(MX vs.toArray (some a) (some b) (some c)).toList) (n:=0) (Hk _ rfl) y4 (by simp),fun _ x hx=>?_⟩
    ·rw[H7.mp hx]
     rw[HX]
     exact Iu j14.heap.size)) ht
theorem rE{l:List Int}(hh:A.handled=none): au gt K w A (.builtin "sum") [.lst (l.map PV.int)] (.int l.sum) true:=.mk fun s vs F g z _=>by
 obtain⟨v,r,F1,F2,rfl,rfl,zv,z2⟩:=bA z
 obtain rfl:=dK z2
 cases zv with
 | @lst _ d us n F0 e1 y nd=>
  obtain hi:∀{l:List Int} {us:List Value} {F:List Addr},bf s.heap (l.map PV.int) us F→IntsAre us l:=by
   intro l
   induction l with
   |nil=>intro us F z;cases z;exact .nil
   |cons i l ih=>
    intro us F z
    cases z with
    |cons a b=>cases a;exact .cons _ _ (ih b)
  have hI:=hi y
  obtain⟨xs,hx⟩:=hI.allInts.items
  obtain hs:preSum (numAt xs) xs.size=l.sum:=by
   obtain h1:us=(intItems xs).toList:=by rw[←hx]
   rw[preSum_eq,IY (by simp),←nums_intItems xs,←h1,hI.numsOf]
  refine Hf (cA (sum_intListG (xs:=xs) (Q:=fun r s'=>(∃ t,r=.int l.sum t)∧∃ h' tk,s'={ s with heap:=h',toks:=tk }∧∀ b o,s.heap.get? b=some o→h'.get? b=some o) hh ⟨_,e1,rfl,n,by rw[←hx]⟩ fun h' tk t' hk=>⟨⟨t',by rw[hs]⟩,h',tk,rfl,hk⟩)) (fun r s' hq=>?_) fun _ _ e=>e.1
  obtain⟨⟨⟨t,rfl⟩,h',tk,rfl,hk⟩,hz⟩:=hq
  exact⟨⟨⟨hz,fun b o e _=>hk b o e⟩,fun _ _ e=>e,id,rfl⟩,[],.int _ _,fun _ b hb=>nomatch hb⟩
end
end
section
theorem yF(x:Str)(k:Nat): (cL x k).length=1:=rfl
theorem mR(n:Int)(ls:Str): (fy n ls).text.length=9:=by
 unfold fy
 have h1:(H5 "(").length=1:=rfl
 have h2:(H5 ")").length=1:=rfl
 dsimp only
 split <;> simp only[T.text,HI,d9,dP,yF,h1,h2]
theorem eW(n:Int)(ls:Str): (fy n ls).depth=2:=by
 unfold fy
 dsimp only
 split <;> rfl
theorem lG(t:Str)(n:Int): (iZ t n).length≤2*t.length+20:=by
 unfold iZ
 rw[HI,HI,HI]
 exact H6 (Ir (Ir (Ir (bM ..) (iw n)) (bM ..)) (iw n)) (by omega)
structure aK where
 f:Int
 c:Int
 t:Int
noncomputable def aK.p(d:aK): T:=fy d.f (H5 "xXyY")
noncomputable def aK.q(d:aK): T:=fy d.c (H5 "xXyYpP")
noncomputable def aK.x(d:aK): Int:=d.t.fmod 19 - 9
noncomputable def aK.y(d:aK): Int:=(d.t.fdiv 19).fmod 19 - 9
noncomputable def aK.turn(d:aK): Int:=1+(d.t.fdiv 361).fmod 8
noncomputable def aK.turned(d:aK): Str:=aM d.p.text (some d.turn) none++aM d.p.text none (some d.turn)
noncomputable def aK.w0(d:aK): Str:=iZ d.turned (d.f.fdiv 1152)
noncomputable def aK.w1(d:aK): Str:=iZ d.p.text (d.f.fdiv 1152)
noncomputable def aK.w2(d:aK): Str:=iZ d.q.text (d.c.fdiv 3888)
noncomputable def aK.d0(d:aK): Str:=gM d.w0 (d.f.fdiv 34560)
noncomputable def aK.d1(d:aK): Str:=gM d.w1 (d.f.fdiv 34560)
noncomputable def aK.d2(d:aK): Str:=gM d.w2 (d.c.fdiv 116640)
theorem aK.lens(d:aK): d.p.text.length=9∧d.q.text.length=9∧d.turned.length≤18∧d.w0.length≤100∧d.w1.length≤100∧d.w2.length≤100:=by
 obtain h1:d.p.text.length=9:=mR _ _
 obtain h2:d.q.text.length=9:=mR _ _
 have h3:d.turned.length≤18:=by
  unfold aK.turned
  obtain a:=bM d.p.text (some d.turn) none
  obtain b:=bM d.p.text none (some d.turn)
  simp only[HI];omega
 refine⟨h1,h2,h3,?_,?_,?_⟩
 ·obtain this:=lG d.turned (d.f.fdiv 1152);unfold aK.w0;omega
 ·obtain this:=lG d.p.text (d.f.fdiv 1152);unfold aK.w1;omega
 ·obtain this:=lG d.q.text (d.c.fdiv 3888);unfold aK.w2;omega
noncomputable abbrev aH(L:Addr): Env:=ah 347 y5 L
noncomputable abbrev bV:List Stmt:=aF (aO 80)
noncomputable abbrev fZ:Str:=H5 "script"
noncomputable abbrev gA:Str:=H5 "first"
noncomputable abbrev fY:Str:=H5 "second"
noncomputable abbrev jC:Str:=H5 "third"
noncomputable abbrev oD:Str:=H5 "ptext"
noncomputable abbrev oB:Str:=H5 "qtext"
noncomputable abbrev Bv:Str:=H5 "turn"
noncomputable abbrev iy:Str:=H5 "words"
noncomputable abbrev fG:Str:=H5 "dressed"
noncomputable def ip(d:aK): List PV:=[.str d.w0,.str d.w1,.str d.w2]
noncomputable def gL(d:aK): List PV:=[.str d.d0,.str d.d1,.str d.d2]
noncomputable abbrev vV(d:aK): List (Str×PV):=[(gA,.int d.f),(fY,.int d.c),(jC,.int d.t)]
noncomputable abbrev Be(d:aK): List (Str×PV):=[(gA,.int d.f),(fY,.int d.c),(jC,.int d.t),(nP,d.p.pv),(nQ,d.q.pv),(nX,.int d.x),(nY,.int d.y)]
noncomputable abbrev zh(d:aK): List (Str×PV):=[(gA,.int d.f),(fY,.int d.c),(jC,.int d.t),(nP,d.p.pv),(nQ,d.q.pv),(nX,.int d.x),(nY,.int d.y),(oD,.str d.p.text),(oB,.str d.q.text),(Bv,.int d.turn)]
noncomputable abbrev mO(d:aK): List (Str×PV):=[(nP,d.p.pv),(nQ,d.q.pv),(nX,.int d.x),(nY,.int d.y),(iy,.own (ip d)),(fG,.own (gL d))]
noncomputable def dN(l:List Int): aK:=⟨10844+7919*(cN l 0 63 3).sum,123106+7919*(cN l 1 63 3).sum,127+601*(cN l 2 63 3).sum⟩
section
variable{w:World}{A:Around}{L:Addr}
theorem ER{l:List Int}(hz:l.length≤1000)(ro:Ro A 2): pB aa (ac w) [] w A (aH L) (bV.take 3) ([fZ].zip [PV.lst (l.map PV.int)]) (vV (dN l)):=by
 obtain s1:au aa (ac w) w A (.builtin "sum") [.lst ((cN l 0 63 3).map PV.int)] (.int (cN l 0 63 3).sum) true:=rE ro.1
 obtain s2:au aa (ac w) w A (.builtin "sum") [.lst ((cN l 1 63 3).map PV.int)] (.int (cN l 1 63 3).sum) true:=rE ro.1
 obtain s3:au aa (ac w) w A (.builtin "sum") [.lst ((cN l 2 63 3).map PV.int)] (.int (cN l 2 63 3).sum) true:=rE ro.1
 obtain m1:JU 7919 (cN l 0 63 3).sum:=Mg (by decide)
 obtain m2:JU 7919 (cN l 1 63 3).sum:=Mg (by decide)
 obtain m3:JU 601 (cN l 2 63 3).sum:=Mg (by decide)
 obtain sc:∀{locs:List (Str×PV)} {pp:Pos},locs.lookup fZ=some (.lst (l.map PV.int))→Ev aa (ac w) w A (aH L) locs (.Name fZ pp) (.lst (l.map PV.int)) false:=fun h=>Ev.local h wD rfl (by kernel_rfl) (by kernel_rfl)
 refine .cons (locs1:=ab gA (.int (dN l).f) ([fZ].zip [PV.lst (l.map PV.int)])) ?_ (.cons (locs1:=ab fY (.int (dN l).c) (ab gA (.int (dN l).f) ([fZ].zip [PV.lst (l.map PV.int)]))) ?_ (.cons ?_ .nil))
 ·refine az (p:=.int (dN l).f) (ae _) (by simp) (Ev.binop (f1:=true) (f2:=true) (p:=.int 10844) (q:=.int (7919*(cN l 0 63 3).sum)) (Ev.int _ _ _) (Ev.binop (f1:=true) (f2:=true) (p:=.int 7919) (q:=.int (cN l 0 63 3).sum) (Ev.int _ _ _) (c8 (ff:=true) (fa:=true&&true) (f:=.builtin "sum") (rs:=[.lst ((cN l 0 63 3).map PV.int)]) (Ev.builtin (by kernel_rfl) sW (by decide +kernel) (by kernel_rfl)) dw (bG.cons (jL (f:=false) (sc ?_) (by omega) (by decide) (by intro _ _;rfl)) bG.nil rfl) s1 bR rfl rfl) (fi.mul m1)) (fi.add _ _)) (Bind.same rfl) (.inl (by kernel_rfl)) rfl
  walk_at "lk"
 ·refine az (p:=.int (dN l).c) (ae _) (by simp) (Ev.binop (f1:=true) (f2:=true) (p:=.int 123106) (q:=.int (7919*(cN l 1 63 3).sum)) (Ev.int _ _ _) (Ev.binop (f1:=true) (f2:=true) (p:=.int 7919) (q:=.int (cN l 1 63 3).sum) (Ev.int _ _ _) (c8 (ff:=true) (fa:=true&&true) (f:=.builtin "sum") (rs:=[.lst ((cN l 1 63 3).map PV.int)]) (Ev.builtin (by kernel_rfl) sW (by decide +kernel) (by kernel_rfl)) dw (bG.cons (jL (f:=false) (sc ?_) (by omega) (by decide) (by intro _ _;rfl)) bG.nil rfl) s2 bR rfl rfl) (fi.mul m2)) (fi.add _ _)) (Bind.same rfl) (.inl (by kernel_rfl)) rfl
  walk_at "lk"
 ·refine am (locs1:=ab jC (.int (dN l).t) (ab fY (.int (dN l).c) (ab gA (.int (dN l).f) ([fZ].zip [PV.lst (l.map PV.int)])))) ?_ (by kernel_rfl) ?_
  ·refine az (p:=.int (dN l).t) (ae _) (by simp) (Ev.binop (f1:=true) (f2:=true) (p:=.int 127) (q:=.int (601*(cN l 2 63 3).sum)) (Ev.int _ _ _) (Ev.binop (f1:=true) (f2:=true) (p:=.int 601) (q:=.int (cN l 2 63 3).sum) (Ev.int _ _ _) (c8 (ff:=true) (fa:=true&&true) (f:=.builtin "sum") (rs:=[.lst ((cN l 2 63 3).map PV.int)]) (Ev.builtin (by kernel_rfl) sW (by decide +kernel) (by kernel_rfl)) dw (bG.cons (jL (f:=false) (sc ?_) (by omega) (by decide) (by intro _ _;rfl)) bG.nil rfl) s3 bR rfl rfl) (fi.mul m3)) (fi.add _ _)) (Bind.same rfl) (.inl (by kernel_rfl)) rfl
   walk_at "lk"
  ·walk_at "looks"
end
end
section
section
variable{w:World}{A:Around}{L:Addr}
theorem EQ(d:aK)(ro:Ro A 4): pB aa (ac w) [] w A (aH L) ((bV.drop 3).take 3) (vV d) (Be d):=by
 obtain hh:=ro.1
 obtain fp:=d.p.flat
 obtain fq:=d.q.flat
 obtain c1:au aa (ac w) w A (.ref 267) [.int d.f,.str (H5 "xXyY")] d.p.pv true:=Bs w A d.f _ (by decide) (by decide) (ro.le (by omega))
 obtain c2:au aa (ac w) w A (.ref 267) [.int d.c,.str (H5 "xXyYpP")] d.q.pv true:=Bs w A d.c _ (by decide) (by decide) (ro.le (by omega))
 refine .cons (locs1:=ab nP d.p.pv (vV d)) ?_ (.cons (locs1:=ab nQ d.q.pv (ab nP d.p.pv (vV d))) ?_ (.cons ?_ .nil))
 ·refine az (p:=d.p.pv) (ae _) (by simp) ?_ (Bind.same d.p.notOwn) (.inl (by kernel_rfl)) rfl
  walk_at "ev"
 ·refine az (p:=d.q.pv) (ae _) (by simp) ?_ (Bind.same d.q.notOwn) (.inl (by kernel_rfl)) rfl
  walk_at "ev"
 ·refine am (locs1:=ab nX (.int d.x) (ab nY (.int d.y) (ab nQ d.q.pv (ab nP d.p.pv (vV d))))) ?_ (by kernel_rfl) ?_
  ·refine gJ (p:=.int d.x) (q:=.int d.y) (ae _) hh (by simp) ?_ rfl ?_ rfl rfl
   ·show Ev _ _ _ _ _ _ _ (.tup [.int (d.t.fmod 19 - 9),.int ((d.t.fdiv 19).fmod 19 - 9)]) _
    walk_at "ev"
   ·intro u hu
    rcases bN hu with rfl | rfl <;> exact .inl (by kernel_rfl)
  ·walk_at "looks"
theorem EP(d:aK)(ro:Ro A 4): pB aa (ac w) [] w A (aH L) ((bV.drop 6).take 2) (Be d) (zh d):=by
 obtain hh:=ro.1
 obtain fp:=d.p.flat
 obtain fq:=d.q.flat
 obtain sp:=d.p.seen
 obtain sq:=d.q.seen
 obtain⟨l1,l2,_⟩:=d.lens
 obtain c1:au aa (ac w) w A (.ref 274) [d.p.pv] (.str d.p.text) true:=(tG w d.p A (by omega) (ro.le (by unfold aK.p;rw[eW];omega))).up (ag w)
 obtain c2:au aa (ac w) w A (.ref 274) [d.q.pv] (.str d.q.text) true:=(tG w d.q A (by omega) (ro.le (by unfold aK.q;rw[eW];omega))).up (ag w)
 refine .cons (locs1:=[(gA,.int d.f),(fY,.int d.c),(jC,.int d.t),(nP,d.p.pv),(nQ,d.q.pv),(nX,.int d.x),(nY,.int d.y),(oD,.str d.p.text),(oB,.str d.q.text)]) ?_ (.cons ?_ .nil)
 ·refine am (locs1:=ab oD (.str d.p.text) (ab oB (.str d.q.text) (Be d))) ?_ (by kernel_rfl) ?_
  ·refine gJ (p:=.str d.p.text) (q:=.str d.q.text) (ae _) hh (by simp) ?_ rfl ?_ rfl rfl
   ·walk_at "ev"
   ·intro u hu
    rcases bN hu with rfl | rfl <;> exact .inl (by kernel_rfl)
  ·walk_at "looks"
 ·refine am (locs1:=ab Bv (.int d.turn) [(gA,.int d.f),(fY,.int d.c),(jC,.int d.t),(nP,d.p.pv),(nQ,d.q.pv),(nX,.int d.x),(nY,.int d.y),(oD,.str d.p.text),(oB,.str d.q.text)]) ?_ (by kernel_rfl) ?_
  ·refine az (p:=.int d.turn) (ae _) (by simp) ?_ (Bind.same rfl) (.inl (by kernel_rfl)) rfl
   show Ev _ _ _ _ _ _ _ (.int (1+(d.t.fdiv 361).fmod 8)) _
   walk_at "ev"
  ·walk_at "looks"
theorem EO(d:aK)(ro:Ro A 4): pB aa (ac w) [] w A (aH L) ((bV.drop 8).take 2) (zh d) (mO d):=by
 obtain hh:=ro.1
 have hB:=aU
 obtain⟨l1,l2,l3,l4,l5,l6⟩:=d.lens
 obtain a1:=bM d.p.text (some d.turn) none
 obtain a2:=bM d.p.text none (some d.turn)
 obtain c1:au aa (ac w) w A (.ref 281) [.str (aM d.p.text (some d.turn) none++aM d.p.text none (some d.turn)),.int (d.f.fdiv 1152)] (.str d.w0) true:=(x5 _ _ (by unfold aK.turned at l3;omega) (ro.le (by omega))).up (ag w)
 obtain c2:au aa (ac w) w A (.ref 281) [.str d.p.text,.int (d.f.fdiv 1152)] (.str d.w1) true:=(x5 _ _ (by omega) (ro.le (by omega))).up (ag w)
 obtain c3:au aa (ac w) w A (.ref 281) [.str d.q.text,.int (d.c.fdiv 3888)] (.str d.w2) true:=(x5 _ _ (by omega) (ro.le (by omega))).up (ag w)
 obtain e1:au aa (ac w) w A (.ref 286) [.str d.w0,.int (d.f.fdiv 34560)] (.str d.d0) true:=x4 w A _ _ (by omega) (ro.le (by omega))
 obtain e2:au aa (ac w) w A (.ref 286) [.str d.w1,.int (d.f.fdiv 34560)] (.str d.d1) true:=x4 w A _ _ (by omega) (ro.le (by omega))
 obtain e3:au aa (ac w) w A (.ref 286) [.str d.w2,.int (d.c.fdiv 116640)] (.str d.d2) true:=x4 w A _ _ (by omega) (ro.le (by omega))
 refine .cons (locs1:=ab iy (.own [.str d.w0,.str d.w1,.str d.w2]) (zh d)) ?_ (.cons ?_ .nil)
 ·refine az (p:=.lst [.str d.w0,.str d.w1,.str d.w2]) (ae _) (by simp) ?_ .own (.inl (by kernel_rfl)) rfl
  walk_at "ev"
 ·refine am (locs1:=ab fG (.own [.str d.d0,.str d.d1,.str d.d2]) (ab iy (.own [.str d.w0,.str d.w1,.str d.w2]) (zh d))) ?_ (by kernel_rfl) ?_
  ·refine az (p:=.lst [.str d.d0,.str d.d1,.str d.d2]) (ae _) (by simp) ?_ .own (.inl (by kernel_rfl)) rfl
   walk_at "ev"
  ·exact ak (by kernel_rfl) (ak (by kernel_rfl) (ak (by kernel_rfl) (ak (by kernel_rfl) (ak (by kernel_rfl) (ak (by kernel_rfl) dZ)))))
theorem Bd{d:aK}: bQ (mO d):=ai (.inl d.p.flat) (ai (.inl d.q.flat) (ai (.inl rfl) (ai (.inl rfl) (ai (.inr rfl) (ai (.inr rfl) bX)))))
noncomputable def aK.textS(d:aK): Str:=H5 "P "++d.d0++H5 "\np "++d.d1++H5 " q "++d.d2++H5 " P (X*Y)"
theorem AM(d:aK)(hl:d.d0.length≤1000∧d.d1.length≤1000∧d.d2.length≤1000): Ev aa (ac w) w A (aH L) (mO d) (((yT (Bm ((bV[10]?).getD (.Pass default))))[0]?).getD e0) (.str d.textS) true:=by
 have hB:=aU
 obtain⟨h0,h1,h2⟩:=hl
 have l1:(H5 "P ").length=2:=rfl
 have l2:(H5 "\np ").length=3:=rfl
 have l3:(H5 " q ").length=3:=rfl
 have l4:(H5 " P (X*Y)").length=8:=rfl
 skip
 show Ev _ _ _ _ _ _ (.BinOp _ _ _ _) (.str (H5 "P "++d.d0++H5 "\np "++d.d1++H5 " q "++d.d2++H5 " P (X*Y)")) _
 have ed:d.d0=d.d0:=rfl
 walk_at "ev"
end
end
section
section
variable{gt:List (Str×Value)}{K:List (Addr×Obj)}{pins:List (Str×Addr)}{w:World}{A:Around}{env:Env}{locs locs1 locs2:List (Str×PV)}
structure GR(gt:List (Str×Value))(K:List (Addr×Obj))(pins:List (Str×Addr))(w:World)(A:Around)(env:Env)(locs:List (Str×PV))(e:Expr)(b:Bool)(locs':List (Str×PV)): Prop where
 run:∀ s Fs,bw gt K pins env locs Fs s→wpAny (model pw w) A (isTrue e env (eval e env)) (fun b' s'=>b'=b∧aG (ow env locs Fs) s s'∧∃ Fs',bw gt K pins env locs' Fs' s'∧∀ x∈ow env locs' Fs',x∈ow env locs Fs∨s.heap.objs.size≤x) (fun _ _=>False) s
theorem te{l r:Expr}{op:CmpOp}{pos:Pos}{p q:PV}{f2 b:Bool}(h1:jp gt K pins w A env (eval l env) locs p locs1)(h2:Ev gt K w A env locs1 r q f2)(ho:cz w A op p q b)(hm:behindInMarks op r=false):
  GR gt K pins w A env locs (.Compare l [op] [r] pos) b locs1:=.mk fun s Fs I=>
 wpAny_isTrue_Compare1 (Pw.andThen (h1.run s Fs I) fun a s₁ ⟨k1,F1,Fs1,v1,fr1,I1,d1,o1⟩=>Pw.andThen (h2.run s₁ Fs1 I1.g I1.er) fun b' s₂ ⟨k2,F2,v2,_⟩=>
  Pw.andThen (ho.run s₂ a b' F1 F2 (v1.kept0 k2.heap) v2) fun c s₃ hh=>by
   obtain⟨e,k3⟩:=hh
   subst e
   have k:=k2.trans k3
   exact LM ⟨rfl,k1.trans k.all,Fs1,I1.step0 k,o1⟩) hm
theorem u9{t:Expr}{body orelse:List Stmt}{pos:Pos}{fl:Fl}(ht:GR gt K pins w A env locs t false locs1)(hb:Ex gt K pins w A env (execs orelse env) locs1 fl locs2): Ex gt K pins w A env (exec (.If t body orelse pos) env) locs fl locs2:=.mk fun s Fs I=>
 wpAny_If (Pw.andThen (ht.run s Fs I) fun c' s1 hh=>by
  obtain⟨e,k1,Fs1,I1,o1⟩:=hh
  subst e
  skip
  refine Pw.andThen (hb.run s1 Fs1 I1) fun f s2 ⟨k2,e2,q2⟩=>⟨k1.comp k2 o1,e2.comp k1.heap.size o1,?_⟩
  obtain⟨Fs2,I2,o2⟩:=q2
  exact⟨Fs2,I2,fun b hb=>(o2 b hb).elim (o1 b) fun h=>.inr (H6 k1.heap.size h)⟩)
theorem yg{es:List Expr}{pos:Pos}{rs:List PV}(h:vU gt K pins w A env locs es rs locs1)(hl:rs.length≤Ip): jp gt K pins w A env (eval (.List es pos) env) locs (.lst rs) locs1:=.mk fun s Fs I=>
 wpAny_List_spliced (Pw.andThen (h.run s Fs pos I) fun vs s' ⟨Fs',k,v,I',o⟩=>⟨by rw[v.length];exact hl,by
  exact⟨k.trans (bS _ _).all,[s'.heap.objs.size],Fs',.lst (n:=0) (Hk _ rfl) (v.kept0 (aj.push _ _)) (by simp),fun b hb=>by rw[H7.mp hb];exact .inr k.heap.size,I'.step0 (bS _ _),fun b hb hm=>by rw[H7.mp hb]at hm;exact absurd (I'.lt _ hm) (Ie _),o⟩⟩)
theorem m6{s:Shared}{x:Str}{a b:Value}(z1:VR s.heap (.str x) a [])(z2:VR s.heap (.str x) b []): L1 A s a b true:=by
 cases z1 with
 |str _ t1=>
 cases z2 with
 |str _ t2=>
  obtain this:=L1.str_str (A:=A) (s:=s) x t1 x t2
  rwa[beq_self_eq_true]at this
theorem vw{s:Shared}{x:Str×Str}{a b:Value}(hu:A.units+1<cLine)(z1:VR s.heap (aY x) a [])(z2:VR s.heap (aY x) b []): L1 A s a b true:=by
 cases z1 with
 | @tup _ a0 vs n _ e1 y1 _=>
 cases z2 with
 | @tup _ b0 us m _ e2 y2 _=>
  by_cases hab:a0=b0
  ·subst hab;exact L1.same _
  ·have hh:=bA y1;clear y1;obtain⟨v1,r1,_,_,rfl,h1,c1,y1⟩:=hh
   have hh:=bA y1;clear y1;obtain⟨v2,r2,_,_,rfl,h2,c2,y1⟩:=hh
   obtain rfl:=dK y1
   have hh:=bA y2;clear y2;obtain⟨u1,r3,_,_,rfl,h3,d1,y2⟩:=hh
   have hh:=bA y2;clear y2;obtain⟨u2,r4,_,_,rfl,h4,d2,y2⟩:=hh
   obtain rfl:=dK y2
   obtain rfl:=c1.flat rfl
   obtain rfl:=c2.flat rfl
   obtain rfl:=d1.flat rfl
   obtain rfl:=d2.flat rfl
   refine L1.of_refs hab ?_
   have:=SeqAt.RcAt.tuples (A:=A) (s:=s) (items:=#[v1,v2]) (items2:=#[u1,u2]) (e:=fun _=>true) ⟨_,e1,rfl,n,rfl⟩ ⟨_,e2,rfl,m,rfl⟩ (by omega) (fun j g1 g2=>?_)
   ·exact this
   ·match j,g1 with
    |0,_=>exact m6 c1 d1
    |1,_=>exact m6 c2 d2
theorem wO{s:Shared}{a b:Value}{k:Bool}{E:Value→Shared→Prop}{Q:Value→Shared→Prop}(h:SeqAt.RcNeAt A s a b k)(hq:Q (.bool k) s): wpAny (model pw w) A (compareOp .NotEq a b) Q E s:=h pw w E Q hq
noncomputable def FE(A:Around)(p:PV): Prop:=∀(s:Shared) (x y:Value),VR s.heap p x []→VR s.heap p y []→L1 A.in1 s x y true
theorem ug{s:Shared}{ps:List PV}{vs us:List Value}(z1:bf s.heap ps vs [])(z2:bf s.heap ps us [])(hq:∀ p∈ps,FE A p)(j:Nat)(h1:j<vs.toArray.size)(h2:j<us.toArray.size): L1 A.in1 s vs.toArray[j] us.toArray[j] true:=by
 obtain l1:=z1.length
 have hj:j<ps.length:=by rw[←l1];simpa using h1
 obtain hp:ps[j]? = some ps[j]:=Hv hj
 obtain⟨v,H,hv,zv,hH⟩:=z1.get hp
 obtain⟨u,H2,hu,zu,hH2⟩:=z2.get hp
 obtain e1:H=[]:=by cases H with | nil=>rfl | cons b H=>exact absurd (hH b (.head _)) (by simp)
 have e2:H2=[]:=by cases H2 with | nil=>rfl | cons b H=>exact absurd (hH2 b (.head _)) (by simp)
 subst e1 e2
 have a1:vs.toArray[j]=v:=by
  obtain this:=Hv (l:=vs) (i:=j) (by simpa using h1)
  rw[hv]at this
  simpa using this.symm
 obtain a2:us.toArray[j]=u:=by
  obtain this:=Hv (l:=us) (i:=j) (by simpa using h2)
  rw[hu]at this
  simpa using this.symm
 rw[a1,a2]
 exact hq _ (Kf hj) s _ _ zv zu
theorem cz.eqSame{ps:List PV}(hf:PV.flat.go ps=true)(hu:A.units<cLine)(hq:∀ p∈ps,FE A p): cz w A .Eq (.lst ps) (.lst ps) true:=by
 constructor
 intro s a b F H x y
 cases x with
 | @lst _ a0 vs n F0 e1 z1 nd1=>
 cases y with
 | @lst _ b0 us m F1 e2 z2 nd2=>
  obtain rfl:=z1.flat hf
  obtain rfl:=z2.flat hf
  refine SeqAt.eq_listAt (items:=vs.toArray) (items2:=us.toArray) (e:=fun _=>true) ⟨_,e1,rfl,n,rfl⟩ ⟨_,e2,rfl,m,rfl⟩ (by simp[z1.length,z2.length]) hu (ug z1 z2 hq) ⟨?_,.refl _ _⟩
  simp
theorem cz.neSame{ps:List PV}(hf:PV.flat.go ps=true)(hu:A.units<cLine)(hq:∀ p∈ps,FE A p): cz w A .NotEq (.lst ps) (.lst ps) false:=by
 constructor
 intro s a b F H x y
 cases x with
 | @lst _ a0 vs n F0 e1 z1 nd1=>
 cases y with
 | @lst _ b0 us m F1 e2 z2 nd2=>
  obtain rfl:=z1.flat hf
  obtain rfl:=z2.flat hf
  refine wO (SeqAt.RcNeAt.lists (items:=vs.toArray) (items2:=us.toArray) (e:=fun _=>true) ⟨_,e1,rfl,n,rfl⟩ ⟨_,e2,rfl,m,rfl⟩ (by simp[z1.length,z2.length]) hu (ug z1 z2 hq)) ⟨?_,.refl _ _⟩
  simp
theorem AR{x:Str}: FE A (.str x):=fun s a b z1 z2=>m6 z1 z2
theorem qP{x:Str×Str}(hu:A.units+2<cLine): FE A (aY x):=fun s a b z1 z2=>vw (by show A.units+1+1<_;omega) z1 z2
end
section
variable{w:World}{A:Around}{env:Env}{locs:List (Str×PV)}
theorem qO{x:Str}{items:List (Str×Str)}{np apos pos:Pos}{pl:Sem Bool}(hl:locs.lookup x=some (.hdr items))(hz:items.length≤1000)(hd:(x==("__debug__":Str))=false)(hcd:(x==("__classdict__":Str))=false)(ro:Ro A 2)
  (hev:eval (.Call (.Attribute (.Name x np) (H5 "items") apos) [] [] pos) env=(do
   let ov ←eval (.Name x np) env
   standAt apos.atName
   let(f,first) ←holding [ov] (JI ov (H5 "items") pl)
   IU pos f first (backTo pos (Hg [] env)) [])):
  Ev aa (ac w) w A env locs (.Call (.Attribute (.Name x np) (H5 "items") apos) [] [] pos) (.lst (items.map aY)) true:=.mk fun s Fs g z=>by
 obtain⟨m,n,V⟩:=id z.vars
 obtain⟨v,F,_,a,zv⟩:=V.find hl
 refine ML (pl:=pl) (aD z ⟨m,n,a⟩ hd hcd (xL s v F g zv _ _ _ ?_)) hev
 refine Ik (P:=G aa (ac w)) (by rfl) (fun h' g'=>bK (bb (sK.up (ag _))) g') (Kh ?_)
 refine⟨g,?_⟩
 obtain zs:=bf.cons zv (bf.nil (h:=s.heap))
 exact(Ey w A items hz ro).run s _ _ g zs (by rw[Hj];exact zv.nodup)
end
end
section
noncomputable abbrev mL(d:aK)(pb:List Str)(rest:List Nat)(ln:Int): List (Str×PV):=[(nP,d.p.pv),(nQ,d.q.pv),(nX,.int d.x),(nY,.int d.y),(iy,.own (ip d)),(fG,.own (gL d)),(aw,.lex pb rest ln)]
noncomputable abbrev pu(d:aK)(pb:List Str)(rest:List Nat)(ln:Int)(bk:List (Str×Str)): List (Str×PV):=[(nP,d.p.pv),(nQ,d.q.pv),(nX,.int d.x),(nY,.int d.y),(iy,.own (ip d)),(fG,.own (gL d)),(aw,.lex pb rest ln),(aL,.hdr bk)]
noncomputable abbrev fI(d:aK)(pb:List Str)(rest:List Nat)(ln:Int)(bk vs sl:List (Str×Str)): List (Str×PV):=[(nP,d.p.pv),(nQ,d.q.pv),(nX,.int d.x),(nY,.int d.y),(iy,.own (ip d)),(fG,.own (gL d)),(aw,.lex pb rest ln),(aL,.hdr bk),(aT,.hdr vs),(bZ,.hdr sl)]
theorem Bc{d:aK}{pb:List Str}{rest:List Nat}{ln:Int}{bk vs sl:List (Str×Str)}: bQ (fI d pb rest ln bk vs sl):=ai (.inl d.p.flat) (ai (.inl d.q.flat) (ai (.inl rfl) (ai (.inl rfl) (ai (.inr rfl) (ai (.inr rfl) (ai (.inr rfl) (ai (.inr rfl) (ai (.inr rfl) (ai (.inr rfl) bX)))))))))
noncomputable abbrev gf:Str:=H5 "1'p'p"
noncomputable abbrev ka:Str:=H5 "1'q'Q"
noncomputable abbrev FK:Str:=H5 "Y"
noncomputable def d6(d:aK): List (Str×Str):=[(nX,strI d.x),(FK,strI d.y)]
noncomputable def cn(d:aK): List (Str×Str):=[(nP,d.w1),(nQ,d.w2)]
section
variable{w:World}{A:Around}{L:Addr}
theorem oy{pb:List Str}{rest:List Nat}{ln:Int}{q:Str}{locs:List (Str×PV)}{np apos ep cpos pos:Pos}{ck:Nat}{pl:Sem Bool}(hl:locs.lookup aw=some (.lex pb rest ln))(hz:pb.length≤1000)(ro:Ro A 2)
  (hev:eval (.Call (.Attribute (.Name aw np) Aa apos) [.Constant (.str q) ck ep] [] cpos) (aH L)=(do
   let ov ←eval (.Name aw np) (aH L)
   standAt apos.atName
   let(f,first) ←holding [ov] (JI ov Aa pl)
   IU cpos f first (backTo cpos (Hg [.Constant (.str q) ck ep] (aH L))) [])) (hs:JD (.Call (.Attribute (.Name aw np) Aa apos) [.Constant (.str q) ck ep] [] cpos) none pos.line (aH L)=pure false):
  Ex aa (ac w) [] w A (aH L) (exec (.Expr (.Call (.Attribute (.Name aw np) Aa apos) [.Constant (.str q) ck ep] [] cpos) pos) (aH L)) locs .next (ab aw (.lex (pb++[q]) rest ln) locs):=
 bU (cV (fa:=true&&true) (p:=.lex pb rest ln) (rs:=[.str q]) (ae _) hl rfl rfl rfl (by kernel_rfl) (by kernel_rfl) BG (bb (un.up (ag _))) (bG.cons (Ev.str _ _ _) bG.nil rfl) (Ep w A pb rest ln q hz ro) rfl rfl hev) rfl hs
theorem EN(d:aK){T:List Nat}{bk:List (Str×Str)}(hT:T.length≤10000)(hR:dx [] (an T 1).tok (an T 1).rest (an T 1).ln bk [] 2)(ro:Ro A 14): pB aa (ac w) [] w A (aH L) ((bV.drop 11).take 3) (mL d [] T 1) (pu d [] [] 2 bk):=by
 refine .cons (locs1:=mL d [H5 ""] T 1) ?_ (.cons (locs1:=mL d [] T 1) ?_ (.cons ?_ .nil))
 ·refine am (locs1:=ab aw (.lex [H5 ""] T 1) (mL d [] T 1)) ?_ (by kernel_rfl) ?_
  ·refine oy (pb:=[]) (rest:=T) (ln:=1) ?_ (HT _) (ro.le (by omega)) rfl rfl
   kernel_rfl
  ·walk_at "looks"
 ·refine am (locs1:=ab aw (.lex [] T 1) (mL d [H5 ""] T 1)) ?_ (by kernel_rfl) ?_
  ·refine u9 (te (p:=.str (H5 "")) (q:=.str (H5 "")) (f2:=true) (b:=(H5 "" != H5 "")) (i5 (p:=.lex [H5 ""] T 1) (ae _) ?_ rfl rfl (by kernel_rfl) (by kernel_rfl) xM (bb (m8.up (ag _))) (Bq w A (H5 "") [] T 1 (HT _) (ro.le (by omega))) rfl) (Ev.str _ _ _) (cz.neS _ _) rfl) aq
   walk_at "lk"
  ·walk_at "looks"
 ·refine am (locs1:=ab aL (.hdr bk) (bl [aw] [.lex [] [] 2] (mL d [] T 1))) ?_ (by kernel_rfl) ?_
  ·refine bB (p:=.hdr bk) (ae _) (by simp) (em (f:=300) (rs:=[]) (xs:=[aw]) (own:=[.lex [] T 1]) (own':=[.lex [] [] 2]) (ae _) (Ev.global (by kernel_rfl) Ay (by kernel_rfl)) (bb (sI.up (ag _))) (cq.names (bv.cons (p:=.lex [] T 1) ?_ (by kernel_rfl) (by kernel_rfl) bv.nil rfl)) (by simp) rfl rfl ?_ ?_ (Eu (ro.le (by omega)) hT hR) rfl rfl) .hdr (.inl (by kernel_rfl)) rfl
   ·walk_at "lk"
   ·intro q hq
    rcases EG hq with rfl
    kernel_rfl
   ·intro p hp
    rw[H7.mp hp];rfl
  ·exact ak (by kernel_rfl) (ak (by kernel_rfl) (ak (by kernel_rfl) (ak (by kernel_rfl) (ak (by kernel_rfl) (ak (by kernel_rfl) (ak (by kernel_rfl) (ak (by kernel_rfl) dZ)))))))
theorem EM(d:aK)(ro:Ro A 4): Ex aa (ac w) [] w A (aH L) (exec ((bV[14]?).getD (.Pass default)) (aH L)) (pu d [] [] 2 (cn d)) .next (pu d [] [] 2 (cn d)):=by
 have hu:A.units+2<cLine:=by obtain this:=ro.2.2;omega
 have hB:=aU
 obtain it:∀{np apos pos:Pos} {pl:Sem Bool},eval (.Call (.Attribute (.Name aL np) (H5 "items") apos) [] [] pos) (aH L)=(do
   let ov ←eval (.Name aL np) (aH L)
   standAt apos.atName
   let(f,first) ←holding [ov] (JI ov (H5 "items") pl)
   IU pos f first (backTo pos (Hg [] (aH L))) [])→Ev aa (ac w) w A (aH L) (pu d [] [] 2 (cn d)) (.Call (.Attribute (.Name aL np) (H5 "items") apos) [] [] pos) (.lst ((cn d).map aY)) true:=fun hev=>qO (by walk_at "lk") (by simp[cn]) (by kernel_rfl) (by kernel_rfl) (ro.le (by omega)) hev
 obtain hc:cz w A .NotEq (.lst ((cn d).map aY)) (.lst [.tup [.str nP,.str d.w1],.tup [.str nQ,.str d.w2]]) false:=cz.neSame rfl (by omega) fun p hp=>by
  obtain⟨x,_,rfl⟩:=Hm.mp hp
  exact qP hu
 refine c7 (c:=(false||(((2:Int) != 2)||false))) (Tr.many (mI.or (Tr.cmp (f1:=true) (f2:=true) (it rfl) ?_ hc rfl) fun _=>mI.or (Tr.cmp (f1:=true) (f2:=true) (p:=.int 2) (q:=.int 2) (AO (pb:=[]) (rest:=[]) (ln:=2) ?_ (by kernel_rfl) (by kernel_rfl)) (Ev.int _ _ _) (cz.neI _ _) rfl) fun _=>mI.or0)) rfl aq
 ·obtain i0:Sub w A (.lst (ip d)) (.int 1) (.str d.w1) true:=Sub.lst (by decide) (by decide) rfl rfl
  obtain i1:Sub w A (.lst (ip d)) (.int 2) (.str d.w2) true:=Sub.lst (by decide) (by decide) rfl rfl
  walk_at "ev"
 ·walk_at "lk"
theorem EL(d:aK){bk vs' sl':List (Str×Str)}{D:Nat}(hx:bL d.x)(hy:bL d.y)(hB:jq bk D [ka] (d6 d) [] gf vs' sl')(ro:Ro A (17+D)): pB aa (ac w) [] w A (aH L) ((bV.drop 15).take 5) (pu d [] [] 2 bk) (fI d [] [] 2 bk vs' sl'):=by
 have hs:=aU
 obtain cx:au aa (ac w) w A (.type "str") [.int d.x] (.str (strI d.x)) true:=cY hx.1
 obtain cy:au aa (ac w) w A (.type "str") [.int d.y] (.str (strI d.y)) true:=cY hy.1
 refine .cons (locs1:=ab aT (.hdr (d6 d)) (pu d [] [] 2 bk)) ?_ (.cons (locs1:=fI d [] [] 2 bk (d6 d) []) ?_ (.cons (locs1:=fI d [gf] [] 2 bk (d6 d) []) ?_ (.cons (locs1:=fI d [gf,ka] [] 2 bk (d6 d) []) ?_ (.cons ?_ .nil))))
 ·refine az (p:=.hdr (d6 d)) (ae _) (by simp) (AQ (by kernel_rfl) ?_ ?_ rfl (ro.le (by omega))) .hdr (.inl (by kernel_rfl)) rfl
  ·show Ev _ _ _ _ _ _ _ (.lst [.tup [.str nX,.str (strI d.x)],.tup [.str FK,.str (strI d.y)]]) _
   walk_at "ev"
  ·intro p hp
   simp only[d6,Ha,Hs,or_false]at hp
   rcases hp with rfl | rfl
   ·exact⟨show Prn nX by unfold Prn;decide,hx.2.2.2⟩
   ·exact⟨show Prn FK by unfold Prn;decide,hy.2.2.2⟩
 ·refine am (locs1:=ab bZ (.hdr []) (ab aT (.hdr (d6 d)) (pu d [] [] 2 bk))) ?_ (by kernel_rfl) ?_
  ·exact az (p:=.hdr []) (ae _) (by simp) (ue (by kernel_rfl) (ro.le (by omega))) .hdr (.inl (by kernel_rfl)) rfl
  ·walk_at "looks"
 ·refine am (locs1:=ab aw (.lex [gf] [] 2) (fI d [] [] 2 bk (d6 d) [])) ?_ (by kernel_rfl) ?_
  ·refine oy (pb:=[]) (rest:=[]) (ln:=2) ?_ (HT _) (ro.le (by omega)) rfl rfl
   kernel_rfl
  ·walk_at "looks"
 ·refine am (locs1:=ab aw (.lex [gf,ka] [] 2) (fI d [gf] [] 2 bk (d6 d) [])) ?_ (by kernel_rfl) ?_
  ·refine oy (pb:=[gf]) (rest:=[]) (ln:=2) ?_ (by simp) (ro.le (by omega)) rfl rfl
   kernel_rfl
  ·walk_at "looks"
 ·refine am (locs1:=bl [aw,aL,aT,bZ] [.lex [] [] 2,.hdr bk,.hdr vs',.hdr sl'] (fI d [gf,ka] [] 2 bk (d6 d) [])) ?_ (by kernel_rfl) ?_
  ·refine bU (em (f:=321) (rs:=[]) (xs:=[aw,aL,aT,bZ]) (own:=[.lex [gf,ka] [] 2,.hdr bk,.hdr (d6 d),.hdr []]) (own':=[.lex [] [] 2,.hdr bk,.hdr vs',.hdr sl']) (ae _) (Ev.global (by kernel_rfl) AA (by kernel_rfl)) (bb (sH.up (ag _)))
    (cq.names (bv.cons (p:=.lex [gf,ka] [] 2) ?_ (by kernel_rfl) (by kernel_rfl) (bv.cons (p:=.hdr bk) ?_ (by kernel_rfl) (by kernel_rfl) (bv.cons (p:=.hdr (d6 d)) ?_ (by kernel_rfl) (by kernel_rfl) (bv.cons (p:=.hdr []) ?_ (by kernel_rfl) (by kernel_rfl) bv.nil rfl) rfl) rfl) rfl)) (by decide +kernel) rfl rfl ?_ ?_ (Et ro (by simp) hB) rfl rfl) rfl rfl
   ·walk_at "lk"
   ·walk_at "lk"
   ·walk_at "lk"
   ·walk_at "lk"
   ·intro q hq
    rcases rM hq with rfl | rfl | rfl | rfl <;> kernel_rfl
   ·intro p hp
    rcases rM hp with rfl | rfl | rfl | rfl <;> rfl
  ·exact ak (by kernel_rfl) (ak (by kernel_rfl) (ak (by kernel_rfl) (ak (by kernel_rfl) (ak (by kernel_rfl) (ak (by kernel_rfl) (ak (by kernel_rfl) (ak (by kernel_rfl) (ak (by kernel_rfl) (ak (by kernel_rfl) dZ)))))))))
end
end
section
structure BW(d:aK): Prop where
 lens:d.d0.length≤1000∧d.d1.length≤1000∧d.d2.length≤1000
 read:dx [] (an d.textS.cps.toList 1).tok (an d.textS.cps.toList 1).rest (an d.textS.cps.toList 1).ln (cn d) [] 2
 hx:bL d.x
 hy:bL d.y
 due:ux d.p d.q d.x d.y
 back:∃ D bY sl cc r9,D≤60∧jq (cn d) D [ka] (d6 d) [] gf bY sl∧iF (cn d) D (H5 "P") bY (wP d.p d.x d.y) cc∧iF (cn d) D (H5 "q") cc (wQ d.p d.q d.x d.y) r9∧sl.length≤1000∧∀ l,eO (cv d.p d.q) l→dd d.p d.q d.x d.y l=sl.map aY
noncomputable abbrev r7(d:aK)(bk vs sl:List (Str×Str))(rows:List PV): List (Str×PV):=[(nP,d.p.pv),(nQ,d.q.pv),(nX,.int d.x),(nY,.int d.y),(iy,.own (ip d)),(fG,.own (gL d)),(aw,.lex [] [] 2),(aL,.hdr bk),(aT,.hdr vs),(bZ,.hdr sl),(gh,.own rows),(cu,.own (cg d.p d.q d.x d.y))]
section
variable{w:World}{A:Around}{env:Env}{locs:List (Str×PV)}{pins:List (Str×Addr)}
theorem m5{e:Expr}{l:Str}{bk vs vs':List (Str×Str)}{n:Int}{np bp vp pos:Pos}(hg:env.kindOf (H5 "_law_value")=some .globalImplicit)(h0:Ev aa (ac w) w A env locs e (.str l) true)(h1:locs.lookup aL=some (.hdr bk))(h2:locs.lookup aT=some (.hdr vs))
  (hc:jo aa (ac w) w A 314 [.str l] [.hdr bk,.hdr vs] (.int n) [.hdr bk,.hdr vs']) (he1:Hg [e,.Name aL bp,.Name aT vp] env=(false,eval e env)::Hg [.Name aL bp,.Name aT vp] env) (he2:Hg [.Name aL bp,.Name aT vp] env=(false,eval (.Name aL bp) env)::Hg [.Name aT vp] env) (he3:Hg [.Name aT vp] env=(false,eval (.Name aT vp) env)::Hg [] env)
  (hplain:(backTo pos (Hg [.Name aL bp,.Name aT vp] env)).any (·.1)=false):jp aa (ac w) pins w A env (eval (.Call (.Name (H5 "_law_value") np) [e,.Name aL bp,.Name aT vp] [] pos) env) locs (.int n) (ab aT (.hdr vs') (ab aL (.hdr bk) locs)):=by
 refine em (f:=314) (rs:=[.str l]) (xs:=[aL,aT]) (own:=[.hdr bk,.hdr vs]) (own':=[.hdr bk,.hdr vs']) (ae _) (Ev.global hg j7 (by kernel_rfl)) (bb (jP.up (ag _)))
    (cq.cons (ft h0) rfl
     (cq.names (bv.cons (p:=.hdr bk) h1 (by kernel_rfl) (by kernel_rfl) (bv.cons (p:=.hdr vs) h2 (by kernel_rfl) (by kernel_rfl) bv.nil he3) he2)) he1)
    (by decide +kernel) rfl rfl ?_ ?_ hc he1 hplain
 ·intro q hq
  rcases bN hq with rfl | rfl
  ·exact h1
  ·exact h2
 ·intro p hp
  rcases bN hp with rfl | rfl <;> rfl
end
section
variable{w:World}{A:Around}{L:Addr}
theorem EK(d:aK){bk bY cc r9 sl:List (Str×Str)}{D:Nat}(h1:iF bk D (H5 "P") bY (wP d.p d.x d.y) cc)(h2:iF bk D (H5 "q") cc (wQ d.p d.q d.x d.y) r9)(n1:bL (wP d.p d.x d.y))(n2:bL (wQ d.p d.q d.x d.y))(hz:sl.length≤1000)(ro:Ro A (15+D)):
  Ex aa (ac w) [] w A (aH L) (execs (bV.drop 21) (aH L)) (r7 d bk bY sl (sl.map aY)) (.ret (.bool true)) (r7 d bk r9 sl (sl.map aY)):=by
 have hu:A.units+2<cLine:=by obtain this:=ro.2.2;omega
 have hB:=aU
 obtain c1:au aa (ac w) w A (.type "str") [.int (wP d.p d.x d.y)] (.str (strI (wP d.p d.x d.y))) true:=cY n1.1
 obtain c2:au aa (ac w) w A (.type "str") [.int (wQ d.p d.q d.x d.y)] (.str (strI (wQ d.p d.q d.x d.y))) true:=cY n2.1
 obtain hc:cz w A .NotEq (.lst (cg d.p d.q d.x d.y)) (.lst (cg d.p d.q d.x d.y)) false:=cz.neSame rfl (by omega) fun p hp=>by
  simp only[cg,Ha,Hs,or_false]at hp
  rcases hp with rfl | rfl <;> exact AR
 obtain hflat:PV.flat.go (sl.map aY)=true:=gw sl
 obtain hc2:cz w A .Eq (.lst (sl.map aY)) (.lst (sl.map aY)) true:=cz.eqSame hflat (by omega) fun p hp=>by
  obtain⟨x,_,rfl⟩:=Hm.mp hp
  exact qP hu
 refine af (locs':=r7 d bk r9 sl (sl.map aY)) ?_ (aX (cJ (f:=true) (Ev.cmp (f1:=true) (f2:=false) (qO (items:=sl) ?_ hz (by kernel_rfl) (by kernel_rfl) (ro.le (by omega)) rfl) (Ev.local ?_ cB rfl (by kernel_rfl) (by kernel_rfl)) hc2 rfl) rfl) (by intro e;cases e))
 ·refine am (locs1:=ab aT (.hdr r9) (ab aL (.hdr bk) (ab aT (.hdr cc) (ab aL (.hdr bk) (r7 d bk bY sl (sl.map aY)))))) ?_ (by kernel_rfl) ?_
  ·refine u9 (te (p:=.lst (cg d.p d.q d.x d.y)) (q:=.lst (cg d.p d.q d.x d.y)) (f2:=false) (yg (vU.of (cq.cons (eD (f:=.type "str") (p:=.int (wP d.p d.x d.y)) (Ev.builtin (by kernel_rfl) gN (by decide +kernel) (by kernel_rfl)) bd (m5 (l:=H5 "P") (bk:=bk) (vs:=bY) (vs':=cc) (by kernel_rfl) (Ev.str _ _ _) ?_ ?_ (tF h1 A ro) rfl rfl rfl rfl) rfl c1 rfl) rfl
    (cq.cons (eD (f:=.type "str") (p:=.int (wQ d.p d.q d.x d.y)) (Ev.builtin (by kernel_rfl) gN (by decide +kernel) (by kernel_rfl)) bd (m5 (l:=H5 "q") (bk:=bk) (vs:=cc) (vs':=r9) (by kernel_rfl) (Ev.str _ _ _) ?_ ?_ (tF h2 A ro) rfl rfl rfl rfl) rfl c2 rfl) rfl (cq.names bv.nil) rfl) rfl)) (by simp only[cg,Hh,Ij];omega)) (Ev.local ?_ cB rfl (by kernel_rfl) (by kernel_rfl)) hc rfl) aq
   ·kernel_rfl
   ·kernel_rfl
   ·kernel_rfl
   ·kernel_rfl
   ·kernel_rfl
  ·exact ak (by kernel_rfl) (ak (by kernel_rfl) (ak (by kernel_rfl) (ak (by kernel_rfl) (ak (by kernel_rfl) (ak (by kernel_rfl) (ak (by kernel_rfl) (ak (by kernel_rfl) (ak (by kernel_rfl) (ak (by kernel_rfl) (ak (by kernel_rfl) (ak (by kernel_rfl) dZ)))))))))))
 ·kernel_rfl
 ·kernel_rfl
inductive z7(w:World)(L:Addr)(d:aK)(Fs:List (List Addr))(s:Shared)(f:Flow)(s':Shared): Prop
 |mk(e:f=.next)(k:aG (288::ow (aH L) (mO d) Fs) s s'∧TB 288 s'.heap)(Fs':List (List Addr))(I:bw aa (ac w) [] (aH L) (mL d [] d.textS.cps.toList 1) Fs' s')(o:∀ b∈ow (aH L) (mL d [] d.textS.cps.toList 1) Fs',b∈ow (aH L) (mO d) Fs∨s.heap.objs.size≤b)
theorem xk{d:aK}{s:Shared}{Fs:List (List Addr)}(hl:d.d0.length≤1000∧d.d1.length≤1000∧d.d2.length≤1000)(ro:Ro A 6)(I:bw aa (ac w) [] (aH L) (mO d) Fs s)(bi:w5 s.heap)(hP:s.heap.get? 288=some (tabObj #[]))(hz:d.textS.length≤100000):
  wpAny (model pw w) A (exec ((bV[10]?).getD (.Pass default)) (aH L)) (z7 w L d Fs s) (fun _ _=>False) s:=by
 obtain hT:=AM (w:=w) (A:=A) (L:=L) d hl
 refine K3 (It (Pw.andThen ((Ev.global (gt:=aa) (K:=ac w) (w:=w) (A:=A) (env:=aH L) (locs:=mO d) (by kernel_rfl) xR (by kernel_rfl)).run s Fs I.g I.er) fun v s1 hh=>?_)) rfl
 obtain⟨k1,F1,v1,_⟩:=hh
 cases v1
 have I1:=I.step0 k1
 obtain h:=(bG.cons hT bG.nil rfl).run s1 Fs
 refine Ik (P:=G aa (ac w)) (by rfl) (fun h' g'=>bK (bb (sJ.up (ag _))) g') (HZ (Pw.andThen (h _ I1.g I1.er) fun us s2 hh=>?_))
 obtain⟨k2,F2,z2,_⟩:=hh
 obtain⟨u,rfl,zu⟩:=z2.one1
 obtain k12:=k1.trans k2
 have I2:=I1.step0 k2
 refine⟨I2.g,?_⟩
 cases zu with
 |str _ t=>
  have own2:∀ b∈ow (aH L) (mO d) Fs,348≤b:=I2.hi
  refine Pw.andThen (sR ro I2.g (bi.kept k12.heap (by simp[jR])) (k12.heap.get hP) hz) fun u s3 hh=>?_
  obtain⟨⟨k3,tb3⟩,F3,z3,fr3⟩:=hh
  obtain not288:∀ b∈(aH L).locals::(aH L).cells.map (·.2)++Fs.flatten,b∉[288]:=fun b hb hm=>by
   obtain h1:=own2 b (I2.allOwn Bd b hb)
   rw[H7.mp hm]at h1
   exact absurd h1 (by decide)
  obtain I3:=I2.movedT k3.heap oi not288
  refine Pw.andThen (d4 (n:=s2.heap.objs.size) (ae w) (by simp) I3 (.inl (by kernel_rfl)) z3 z3.nodup (fun b hb hm=>absurd (I2.lt b hm) (Hz.mpr (fr3 b hb))) fr3 I2.g.low) fun _ s4 hh=>?_
  obtain⟨Fs4,I4,k4,o4⟩:=hh
  obtain e5:ab aw (.lex [] d.textS.cps.toList 1) (mO d)=mL d [] d.textS.cps.toList 1:=by kernel_rfl
  skip
  refine⟨rfl,⟨?_,tb3.keep k4.heap fun hm=>absurd (own2 288 (H8 _ hm)) (by decide)⟩,Fs4,I4,fun b hb=>(o4 b hb).imp id fun h=>H6 k12.heap.size h⟩
  exact((k12.all.trans k3).mono fun b hb=>by rw[H7.mp hb];exact .head _).trans (k4.mono fun b hb=>Jw _ (H8 _ hb))
end
end
section
section
variable{w:World}{A:Around}{L:Addr}
theorem wm:jR [337]:=fun b hb=>.inr (.inr (H7.mp hb))
inductive z8(w:World)(L:Addr)(d:aK)(bk vs sl:List (Str×Str))(Fs:List (List Addr))(s:Shared)(f:Flow)(s':Shared): Prop
 |mk(e:f=.next)(l:List (Int×Str×Str))(so:eO (cv d.p d.q) l)(k:aG (337::ow (aH L) (fI d [] [] 2 bk vs sl) Fs) s s'∧TB 337 s'.heap)(Fs':List (List Addr))(I:bw aa (ac w) [] (aH L) (r7 d bk vs sl (dd d.p d.q d.x d.y l)) Fs' s')(o:∀ b∈ow (aH L) (r7 d bk vs sl (dd d.p d.q d.x d.y l)) Fs',b∈ow (aH L) (fI d [] [] 2 bk vs sl) Fs∨s.heap.objs.size≤b)
theorem Di{d:aK}{bk vs sl:List (Str×Str)}{s:Shared}{Fs:List (List Addr)}(hd:ux d.p d.q d.x d.y)(ro:Ro A 14)(I:bw aa (ac w) [] (aH L) (fI d [] [] 2 bk vs sl) Fs s)(bi:w5 s.heap)(hP:s.heap.get? 337=some (tabObj #[])):
  wpAny (model pw w) A (exec ((bV[20]?).getD (.Pass default)) (aH L)) (z8 w L d bk vs sl Fs s) (fun _ _=>False) s:=by
 have hh:=ro.1
 obtain dp:d.p.depth=2:=eW _ _
 obtain dq:d.q.depth=2:=eW _ _
 refine Assign_Tuple (It (Pw.andThen ((Ev.global (gt:=aa) (K:=ac w) (w:=w) (A:=A) (env:=aH L) (locs:=fI d [] [] 2 bk vs sl) (by kernel_rfl) CP (by kernel_rfl)).run s Fs I.g I.er) fun v s1 hh=>?_)) rfl rfl
 obtain⟨k1,F1,v1,_⟩:=hh
 cases v1
 have I1:=I.step0 k1
 obtain h:=fun p1 p2 p3 p4:Pos=>(bG.cons (Ev.local (gt:=aa) (K:=ac w) (w:=w) (A:=A) (env:=aH L) (locs:=fI d [] [] 2 bk vs sl) (x:=nP) (pos:=p1) (show(fI d [] [] 2 bk vs sl).lookup nP=some d.p.pv by kernel_rfl) d.p.seen d.p.flat (by kernel_rfl) (by kernel_rfl)) (bG.cons (Ev.local (x:=nQ) (pos:=p2) (show(fI d [] [] 2 bk vs sl).lookup nQ=some d.q.pv by kernel_rfl) d.q.seen d.q.flat (by kernel_rfl) (by kernel_rfl)) (bG.cons (Ev.local (x:=nX) (pos:=p3) (show(fI d [] [] 2 bk vs sl).lookup nX=some (.int d.x)by kernel_rfl) eI rfl (by kernel_rfl) (by kernel_rfl)) (bG.cons (Ev.local (x:=nY) (pos:=p4) (show(fI d [] [] 2 bk vs sl).lookup nY=some (.int d.y)by kernel_rfl) eI rfl (by kernel_rfl) (by kernel_rfl)) bG.nil rfl) rfl) rfl) rfl).run s1 Fs
 refine Ik (P:=G aa (ac w)) (by rfl) (fun h' g'=>bK (bb (sG.up (ag _))) g') (HZ (Pw.andThen (h _ _ _ _ _ I1.g I1.er) fun us s2 hh=>?_))
 obtain⟨k2,F2,z2,_⟩:=hh
 obtain hfl:PV.flat.go [d.p.pv,d.q.pv,.int d.x,.int d.y]=true:=by show(d.p.pv.flat&&(d.q.pv.flat&&true))=true;rw[d.p.flat,d.q.flat];rfl
 obtain rfl:=z2.flat hfl
 obtain k12:=k1.trans k2
 have I2:=I1.step0 k2
 refine⟨I2.g,?_⟩
 obtain own2:∀ b∈ow (aH L) (fI d [] [] 2 bk vs sl) Fs,348≤b:=I2.hi
 refine Pw.andThen (yL (w:=w) (p:=d.p) (q:=d.q) (x:=d.x) (y:=d.y) (vs:=us) (ro.le (by omega)) I2.g (bi.kept k12.heap (by simp[jR])) (k12.heap.get hP) hd z2) fun u s3 hh=>?_
 obtain⟨⟨k3,tb3⟩,l,F3,hS,z3,fr3⟩:=hh
 obtain not337:∀ b∈(aH L).locals::(aH L).cells.map (·.2)++Fs.flatten,b∉[337]:=fun b hb hm=>by
  obtain h1:=own2 b (I2.allOwn Bc b hb)
  rw[H7.mp hm]at h1
  exact absurd h1 (by decide)
 obtain I3:=I2.movedT k3.heap wm not337
 refine Pw.andThen (eN (xs:=[gh,cu]) (ps:=[.own (dd d.p d.q d.x d.y l),.own (cg d.p d.q d.x d.y)]) (n:=s2.heap.objs.size) (ae w) I2.g.low hh (by simp) rfl ?_ ⟨aI _ _ _,aI _ _ _,trivial⟩ rfl rfl I3 z3 fr3 fun b hb hm=>absurd (I2.lt b hm) (Hz.mpr (fr3 b hb))) fun _ s4 ⟨Fs4,I4,k4,o4⟩=>?_
 ·intro u hu
  rcases bN hu with rfl | rfl <;> exact .inl (by kernel_rfl)
 ·obtain e5:bl [gh,cu] [.own (dd d.p d.q d.x d.y l),.own (cg d.p d.q d.x d.y)] (fI d [] [] 2 bk vs sl)=r7 d bk vs sl (dd d.p d.q d.x d.y l):=by kernel_rfl
  skip
  refine⟨rfl,l,hS,⟨?_,tb3.keep k4.heap fun hm=>absurd (own2 337 (H8 _ hm)) (by decide)⟩,Fs4,I4,fun b hb=>(o4 b hb).imp id fun h=>H6 k12.heap.size h⟩
  exact((k12.all.trans k3).mono fun b hb=>by rw[H7.mp hb];exact .head _).trans (k4.mono fun b hb=>Jw _ (H8 _ hb))
end
section
variable{w:World}{A:Around}
theorem yK{nz:List Int}{s:Shared}{v:Value}{F:List Addr}(ro:Ro A 80)(g:G aa (ac w) s.heap)(bi:w5 s.heap)(hP1:s.heap.get? 288=some (tabObj #[]))(hP2:s.heap.get? 337=some (tabObj #[]))(hz:nz.length≤1000)(hv:VR s.heap (.lst (nz.map PV.int)) v F)(ok:BW (dN nz)):
  wpAny (model pw w) A (call (.ref 347) [v]) (fun u s'=>u=.bool true∧aG [288,337] s s'∧TB 288 s'.heap∧TB 337 s'.heap) (fun _ _=>False) s:=by
 generalize hdd:dN nz=d at ok
 obtain⟨D,bY,sl,cc,r9,hD,hB,hv1,hv2,hsl,hrows⟩:=ok.back
 obtain hzs:=bf.cons hv (bf.nil (h:=s.heap))
 have hT:d.textS.length≤10000:=by
  obtain h1:=ok.lens
  have l1:(H5 "P ").length=2:=rfl
  have l2:(H5 "\np ").length=3:=rfl
  have l3:(H5 " q ").length=3:=rfl
  have l4:(H5 " P (X*Y)").length=8:=rfl
  unfold aK.textS
  simp only[HI]
  omega
 obtain hT2:d.textS.cps.toList.length≤10000:=by simpa[J7]using hT
 refine fH (n:=79) (args:=[.lst (nz.map PV.int)]) (W:=[]) (pins:=[]) (yx.toS.up (ag w)) ro rfl (HD (yx.bind [v] rfl)) g hzs (by rw[Hj];exact hv.nodup) (by simp) (fun Fs e b hb=>?_) (by simp) ?_
 ·match Fs with
  |[]=>cases hb
  |[F1]=>cases hb
  |F1::F2::Fs=>cases hb
 intro h1 tk Fs k1 I1 eF o1
 have roD:=ro.deeper (ah 347 y5 s.heap.objs.size)
 have kA:aG [] s { s with heap:=h1,toks:=tk }:=⟨k1,fun _ _ e=>e,id,rfl⟩
 have low:=g.low
 have own1:∀ b∈ow (aH s.heap.objs.size) ([fZ].zip [PV.lst (nz.map PV.int)]) Fs,s.heap.objs.size≤b:=fun b hb=>(o1 b hb).elim (fun h=>nomatch h) id
 refine(ER (w:=w) (L:=s.heap.objs.size) hz (roD.le (by omega))).run (r:=bV.drop 3) I1 fun s2 Fs2 k2 I2 o2=>?_
 rw[hdd]at I2 o2
 have k02:aG [] s s2:=kA.comp k2 fun b hb=>.inr (own1 b hb)
 have own2:∀ b∈ow (aH s.heap.objs.size) (vV d) Fs2,s.heap.objs.size≤b:=fun b hb=>(o2 b hb).elim (own1 b) fun h=>H6 kA.heap.size h
 refine(EQ (w:=w) (L:=s.heap.objs.size) d (roD.le (by omega))).run (r:=bV.drop 6) I2 fun s3 Fs3 k3 I3 o3=>?_
 have k03:aG [] s s3:=k02.comp k3 fun b hb=>.inr (own2 b hb)
 have own3:∀ b∈ow (aH s.heap.objs.size) (Be d) Fs3,s.heap.objs.size≤b:=fun b hb=>(o3 b hb).elim (own2 b) fun h=>H6 k02.heap.size h
 refine(EP (w:=w) (L:=s.heap.objs.size) d (roD.le (by omega))).run (r:=bV.drop 8) I3 fun s4 Fs4 k4 I4 o4=>?_
 have k04:aG [] s s4:=k03.comp k4 fun b hb=>.inr (own3 b hb)
 have own4:∀ b∈ow (aH s.heap.objs.size) (zh d) Fs4,s.heap.objs.size≤b:=fun b hb=>(o4 b hb).elim (own3 b) fun h=>H6 k03.heap.size h
 refine(EO (w:=w) (L:=s.heap.objs.size) d (roD.le (by omega))).run (r:=bV.drop 10) I4 fun s5 Fs5 k5 I5 o5=>?_
 have k05:aG [] s s5:=k04.comp k5 fun b hb=>.inr (own4 b hb)
 obtain own5:∀ b∈ow (aH s.heap.objs.size) (mO d) Fs5,s.heap.objs.size≤b:=fun b hb=>(o5 b hb).elim (own4 b) fun h=>H6 k04.heap.size h
 refine HE (Pw.andThen (xk (w:=w) ok.lens (roD.le (by omega)) I5 (bi.kept k05.heap (by simp[jR])) (k05.heap.get hP1) (by omega)) fun f s6 hh=>?_)
 obtain⟨e6,⟨k6,tb6⟩,Fs6,I6,o6⟩:=hh
 subst e6
 have k06:aG [288] s s6:=k05.all.comp k6 fun b hb=>by
  rcases Ha.mp hb with rfl | hb
  ·exact .inl (.head _)
  ·exact .inr (own5 b hb)
 have own6:∀ b∈ow (aH s.heap.objs.size) (mL d [] d.textS.cps.toList 1) Fs6,s.heap.objs.size≤b:=fun b hb=>(o6 b hb).elim (own5 b) fun h=>H6 k05.heap.size h
 refine(EN (w:=w) (L:=s.heap.objs.size) d hT2 ok.read (roD.le (by omega))).run (r:=bV.drop 14) I6 fun s7 Fs7 k7 I7 o7=>?_
 have k07:aG [288] s s7:=k06.comp k7 fun b hb=>.inr (own6 b hb)
 have own7:∀ b∈ow (aH s.heap.objs.size) (pu d [] [] 2 (cn d)) Fs7,s.heap.objs.size≤b:=fun b hb=>(o7 b hb).elim (own6 b) fun h=>H6 k06.heap.size h
 refine HE (Pw.andThen ((EM (w:=w) (L:=s.heap.objs.size) d (roD.le (by omega))).run s7 Fs7 I7) fun f s8 hh=>?_)
 obtain⟨k8,e8,Fs8,I8,o8⟩:=hh
 cases e8
 have k08:aG [288] s s8:=k07.comp k8 fun b hb=>.inr (own7 b hb)
 have own8:∀ b∈ow (aH s.heap.objs.size) (pu d [] [] 2 (cn d)) Fs8,s.heap.objs.size≤b:=fun b hb=>(o8 b hb).elim (own7 b) fun h=>H6 k07.heap.size h
 refine(EL (w:=w) (L:=s.heap.objs.size) d ok.hx ok.hy hB (roD.le (by omega))).run (r:=bV.drop 20) I8 fun s9 Fs9 k9 I9 o9=>?_
 have k09:aG [288] s s9:=k08.comp k9 fun b hb=>.inr (own8 b hb)
 have own9:∀ b∈ow (aH s.heap.objs.size) (fI d [] [] 2 (cn d) bY sl) Fs9,s.heap.objs.size≤b:=fun b hb=>(o9 b hb).elim (own8 b) fun h=>H6 k08.heap.size h
 refine HE (Pw.andThen (Di (w:=w) ok.due (roD.le (by omega)) I9 (bi.kept k09.heap oi) (k09.heap.keep _ _ hP2 (.inl (by decide)))) fun f s10 hh=>?_)
 obtain⟨e10,l,hS,⟨k10,tq10⟩,Fs10,I10,o10⟩:=hh
 subst e10
 obtain k010:aG [288,337] s s10:=(k09.mono fun b hb=>by rw[H7.mp hb];exact .head _).comp k10 fun b hb=>by
  rcases Ha.mp hb with rfl | hb
  ·exact .inl (.tail _ (.head _))
  ·exact .inr (own9 b hb)
 obtain own10:∀ b∈ow (aH s.heap.objs.size) (r7 d (cn d) bY sl (dd d.p d.q d.x d.y l)) Fs10,s.heap.objs.size≤b:=fun b hb=>(o10 b hb).elim (own9 b) fun h=>H6 k09.heap.size h
 rw[hrows l hS]at I10 own10
 have n1:=ok.due.2.2.2.2.2.2.2.1
 have n2:=ok.due.2.2.2.2.2.2.2.2
 refine Pw.andThen ((EK (w:=w) (L:=s.heap.objs.size) d hv1 hv2 n1 n2 hsl (roD.le (by omega))).run s10 Fs10 I10) fun f s11 hh=>?_
 obtain⟨k11,e11,_⟩:=hh
 obtain⟨u,F11,rfl,zu,_⟩:=e11
 cases zu
 obtain tb7:=tb6.keep k7.heap fun hm=>absurd (H6 low (own6 288 hm)) (by decide)
 obtain tb8:=tb7.keep k8.heap fun hm=>absurd (H6 low (own7 288 hm)) (by decide)
 obtain tb9:=tb8.keep k9.heap fun hm=>absurd (H6 low (own8 288 hm)) (by decide)
 obtain tb10:=tb9.keep k10.heap fun hm=>by
  rcases Ha.mp hm with h | h
  ·exact absurd h (by decide)
  ·exact absurd (H6 low (own9 288 h)) (by decide)
 exact⟨rfl,k010.comp k11 fun b hb=>.inr (own10 b hb),tb10.keep k11.heap fun hm=>absurd (H6 low (own10 288 hm)) (by decide),tq10.keep k11.heap fun hm=>absurd (H6 low (own10 337 hm)) (by decide)⟩
end
end
section
noncomputable def S(l:List Nat): Str:=⟨l.toArray⟩
theorem fu(l:List Nat): (S l).cps.toList=l:=by simp[S]
theorem bW(l:List Nat): (S l).length=l.length:=by simp[S,J7]
theorem yV(x:Str): S x.cps.toList=x:=by cases x;simp[S]
theorem yW{a b:List Nat}(h:S a=S b): a=b:=by
 obtain this:=congrArg (fun x:Str=>x.cps.toList) h
 simpa[S]using this
theorem cO(a b:List Nat): S a++S b=S (a++b):=by
 show(⟨(S a).cps++(S b).cps⟩:Str)=_
 simp[S]
theorem uv(a b:List Nat): (S a==S b)=decide (a=b):=by
 by_cases h:a=b
 ·subst h;simp
 ·obtain this:S a≠S b:=fun e=>h (yW e)
  simp[h,this]
theorem gk(c:Nat): (⟨#[c]⟩:Str)=S [c]:=rfl
theorem hV(c:Nat)(l:List Nat): Internal.inS (S [c]) (S l)=decide (c∈l):=by
 obtain this:=StrLaws.found_one (S l) c
 skip
 exact this
theorem iO{l:List Nat}{u v:Option Int}{a b:Nat}(h1:By u l.length=a)(h2:EX v l.length=b): aM (S l) u v=S ((l.drop a).take (b - a)):=by
 subst h1 h2;rfl
theorem fT{l:List Nat}{k:Nat}(h:k≤l.length): aM (S l) (some (k:Int)) none=S (l.drop k):=
 (iO (u:=some (k:Int)) (a:=k) (jf h) rfl).trans (congrArg S (IY (HM Kb)))
theorem iN{l:List Nat}{k:Nat}(h:k≤l.length): aM (S l) none (some (k:Int))=S (l.take k):=iO rfl (jf h)
theorem uK{l:List Nat}{i j:Nat}(h:i≤j)(hj:j≤l.length): aM (S l) (some (i:Int)) (some (j:Int))=S ((l.drop i).take (j - i)):=
 iO (jf (H6 h hj)) (jf hj)
theorem Aw{a b:Nat}(l:List Nat): eM (S (a::(l++[b])))=S l:=by
 obtain hl:(a::(l++[b])).length=l.length+1+1:=congrArg (· + 1) He
 exact(iO (u:=some 1) (v:=some (-1)) (l:=a::(l++[b])) (a:=1) (b:=l.length+1) (jf (k:=1) (Nat.succ_le_succ (HT _))) (hl▸AY)).trans (congrArg S KP)
theorem Du{l:List Nat}{k:Nat}(h:k<l.length): cL (S l) k=S [l[k]]:=by
 unfold cL S
 simp[h]
noncomputable def dH(c:Nat): Prop:=c=43∨c=45∨c=42
noncomputable def dv(c:Nat): Prop:=c=120∨c=88∨c=121∨c=89∨c=112∨c=80∨c=113∨c=81
theorem pS(m:Nat): (strI (m:Int)).cps.toList=(Kg 10 m).map Kz:=KIN.signs_num m
theorem AT(m:Nat): NumText.AllDigits ((Kg 10 m).map Kz):=by
 intro c hc
 obtain⟨ch,hch,e⟩:=Hm.mp hc
 obtain r:=digit_range (Nat.isDigit_of_mem_toDigits (by decide) (by decide) hch)
 rw[←e]
 exact r
theorem um(m:Nat): (Kg 10 m).map Kz≠[]:=by
 intro e
 obtain h:=toDigits_len_ge 10 m
 rw[List.map_eq_nil_iff.mp e]at h
 exact absurd h (by decide)
theorem wy(m:Nat)(h:m≠0): (strI (-(m:Int))).cps.toList=45::(Kg 10 m).map Kz:=by
 cases m with
 |zero=>exact absurd rfl h
 |succ m=>
  unfold strI
  rw[signs_ofString]
  show("-"++(m+1).repr).toList.map Kz=_
  rw[String.toList_append,Nat.toList_repr]
  rfl
theorem yv{m:Nat}(h:m<10 ^ 10): ((Kg 10 m).map Kz).length≤10:=by
 obtain h1:=KT.len_num (n:=(m:Int)) (by omega) (by omega)
 obtain h2:=pS m
 unfold strI at h2
 rw[←h2]
 simpa[J7]using h1
theorem iv{n:Int}(h:n.natAbs<10 ^ 10): (strI n).cps.toList=(Kg 10 n.natAbs).map Kz∧n=n.natAbs∨(strI n).cps.toList=45::(Kg 10 n.natAbs).map Kz∧n = -n.natAbs:=by
 by_cases h0:0≤n
 ·left
  obtain e:n=(n.natAbs:Int):=by omega
  exact⟨by obtain this:=pS n.natAbs;rw[←e]at this;exact this,e⟩
 ·right
  obtain e:n = -(n.natAbs:Int):=by omega
  exact⟨by obtain this:=wy n.natAbs (by omega);rw[←e]at this;exact this,e⟩
theorem lr{n:Int}(h:n.natAbs<10 ^ 10): ∀ c∈(strI n).cps.toList,c=45∨48≤c∧c≤57:=by
 intro c hc
 rcases iv h with⟨e,_⟩ | ⟨e,_⟩
 ·rw[e]at hc;exact .inr (AT _ c hc)
 ·rw[e]at hc
  rcases Ha.mp hc with rfl | hc
  ·exact .inl rfl
  ·exact .inr (AT _ c hc)
theorem gq{n:Int}(h:n.natAbs<10 ^ 10): (strI n).length≤11:=by
 obtain hd:=yv h
 obtain this:(strI n).length=(strI n).cps.toList.length:=by simp[J7]
 rw[this]
 rcases iv h with⟨e,_⟩ | ⟨e,_⟩ <;> rw[e]
 ·omega
 ·simp only[Hh];omega
theorem gg{n:Int}(h:n.natAbs<10 ^ 10): bL n:=by
 obtain hl:=gq h
 refine⟨?_,?_,by omega,?_⟩
 ·obtain this:n.natAbs<2 ^ 34:=by omega
  by_cases h0:n.natAbs=0
  ·rw[h0];decide
  ·obtain h2:n.natAbs.log2<34:=(Nat.log2_lt h0).mpr (by omega)
   omega
 ·rcases iv h with⟨e,en⟩ | ⟨e,en⟩
  ·have:=intText_digits (x:=strI n) (by rw[e];exact AT _) (by rw[e];exact um _) (by omega)
   rw[this,e,KIN.val_back]
   exact congrArg some en.symm
  ·have:=intText_neg (x:=strI n) e (AT _) (um _) (by omega)
   rw[this,KIN.val_back]
   exact congrArg some en.symm
 ·intro c hc
  obtain this:=lr h c hc
  omega
end
section
noncomputable def fL:List Nat→Int→Option Int
 |[],o=>some o
 |c::r,o=>if c=40 then fL r (o+1)else if c=41 then(if o - 1<0 then none else fL r (o - 1))else fL r o
theorem Ei:H5 "(" = S [40]:=by decide +kernel
theorem Eh:H5 ")" = S [41]:=by decide +kernel
theorem uM:H5 "\\" = S [92]:=by decide +kernel
theorem qa:H5 "\"" = S [34]:=by decide +kernel
theorem Ej:H5 "'" = S [39]:=by decide +kernel
theorem bt(c d:Nat): (S [c]==S [d])=decide (c=d):=by rw[uv];simp
theorem l8:∀(cs:List Nat) (i:Nat) (l o:Int),92∉cs→w4 (bD i false l cs) o=fL cs o
 |[],_,_,_,_=>rfl
 |c::cs,i,l,o,h=>by
  simp only[Ha,not_or]at h
  have e:((⟨#[c]⟩:Str)==H5 "\\")=false:=by rw[gk,uM,bt];exact decide_eq_false (Il h.1)
  unfold bD
  rw[e]
  simp only[Hq,if_false,w4,fL]
  have e1:((⟨#[c]⟩:Str)==H5 "(")=decide (c=40):=by rw[gk,Ei,bt]
  have e2:((⟨#[c]⟩:Str)==H5 ")")=decide (c=41):=by rw[gk,Eh,bt]
  rw[e1,e2]
  by_cases h1:c=40
  ·simp only[h1,decide_true,if_true];exact l8 cs _ _ _ h.2
  ·by_cases h2:c=41
   ·have d1:decide (c=40)=false:=decide_eq_false h1
    have d2:decide (c=41)=true:=decide_eq_true h2
    rw[d1,d2,if_neg h1,if_pos h2]
    simp only[Hq,if_false,if_true]
    by_cases ho:o - 1<0
    ·rw[if_pos ho,if_pos ho]
    ·rw[if_neg ho,if_neg ho];exact l8 cs _ _ _ h.2
   ·simp only[h1,h2,decide_false,Hq,if_false];exact l8 cs _ _ _ h.2
theorem sO{cs:List Nat}(h:92∉cs): dI (S cs)=(fL cs 0==some 0):=by
 unfold dI
 rw[fu,l8 _ _ _ _ h]
 cases fL cs 0 <;> simp
theorem d8{cs:List Nat}(h:34∉cs): aC (S cs)=S cs:=by
 unfold aC
 rw[qa,hV]
 simp[h]
inductive Fm where
 |leaf(c:Nat)
 |node(o:Nat)(l r:Fm)
noncomputable def Fm.list:Fm→List Nat
 | .leaf c=>[c]
 | .node o l r=>40::(l.list++o::(r.list++[41]))
noncomputable def Fm.toT:Fm→T
 | .leaf c=>.leaf (S [c])
 | .node o l r=>.node (S [o]) l.toT r.toT
noncomputable def Fm.ok:Fm→Prop
 | .leaf c=>dv c
 | .node o l r=>dH o∧l.ok∧r.ok
theorem Fm.text:∀ f:Fm,f.toT.text=S f.list
 | .leaf c=>rfl
 | .node o l r=>by
  show H5 "("++l.toT.text++S [o]++r.toT.text++H5 ")" = _
  rw[Fm.text l,Fm.text r,Ei,Eh]
  simp only[cO,Fm.list]
  congr 1
  simp
theorem dv.ne{c:Nat}(h:dv c): c≠40∧c≠41∧c≠92∧c≠34∧c≠39∧c≠32∧c≠10∧c≠9∧c≠13:=by
 refine⟨?_,?_,?_,?_,?_,?_,?_,?_,?_⟩ <;> (rintro rfl;revert h;unfold dv;decide)
theorem dH.ne{c:Nat}(h:dH c): c≠40∧c≠41∧c≠92∧c≠34∧c≠39∧c≠32∧c≠10∧c≠9∧c≠13:=by
 refine⟨?_,?_,?_,?_,?_,?_,?_,?_,?_⟩ <;> (rintro rfl;revert h;unfold dH;decide)
noncomputable def lT(c:Nat): Prop:=dv c∨dH c∨c=40∨c=41
theorem Fm.signs:∀{f:Fm},f.ok→∀ c∈f.list,lT c
 | .leaf d,h,c,hc=>by
  rw[Fm.list,H7]at hc
  exact hc▸.inl h
 | .node o l r,⟨h1,h2,h3⟩,c,hc=>by
  simp only[Fm.list,Ha,H9,Hs,or_false]at hc
  rcases hc with rfl | hc | rfl | hc | rfl
  ·exact .inr (.inr (.inl rfl))
  ·exact Fm.signs h2 c hc
  ·exact .inr (.inl h1)
  ·exact Fm.signs h3 c hc
  ·exact .inr (.inr (.inr rfl))
theorem lT.mem{c:Nat}(h:lT c): c∈[120,88,121,89,112,80,113,81,43,45,42,40,41]:=by
 rcases h with(rfl | rfl | rfl | rfl | rfl | rfl | rfl | rfl) | (rfl | rfl | rfl) | rfl | rfl <;> decide
theorem lT.ne{c:Nat}(h:lT c): c≠92∧c≠34∧c≠39∧c≠32∧c≠10∧c≠9∧c≠13∧33≤c∧c<127:=by
 obtain k:∀ c∈[120,88,121,89,112,80,113,81,43,45,42,40,41],c≠92∧c≠34∧c≠39∧c≠32∧c≠10∧c≠9∧c≠13∧33≤c∧c<127:=by decide
 exact k c h.mem
theorem x9{cs:List Nat}(h:∀ c∈cs,lT c): 92∉cs:=fun m=>(h 92 m).ne.1 rfl
theorem xa{cs:List Nat}(h:∀ c∈cs,lT c): 34∉cs:=fun m=>(h 34 m).ne.2.1 rfl
noncomputable def ta(xs:List Nat): Prop:=∀(rest:List Nat) (o:Int),0≤o→fL (xs++rest) o=fL rest o
noncomputable def zm(xs:List Nat): Prop:=∀(j:Nat) (o:Int),0≤o→∃ h,fL (xs.take j) o=some h∧o≤h
theorem pk{c:Nat}(h1:c≠40)(h2:c≠41): ta [c]:=fun rest o _=>by
 show fL (c::rest) o=_
 simp only[fL,h1,h2,if_false]
theorem pn{c:Nat}(h1:c≠40)(h2:c≠41): zm [c]:=fun j o _=>by
 cases j with
 |zero=>exact⟨o,rfl,JN _⟩
 |succ j=>exact⟨o,by simp only[Li,List.take_nil,fL,h1,h2,if_false],JN _⟩
theorem ta.app{a b:List Nat}(x:ta a)(y:ta b): ta (a++b):=fun rest o h=>by rw[Ho,x _ _ h,y _ _ h]
theorem zm.app{a b:List Nat}(x:zm a)(bx:ta a)(y:zm b): zm (a++b):=fun j o h=>by
 rw[List.take_append]
 by_cases hj:j≤a.length
 ·obtain this:j - a.length=0:=KU hj
  rw[this,List.take_zero,Hj]
  exact x j o h
 ·rw[IY (Nat.le_of_not_le hj),bx _ _ h]
  exact y _ o h
theorem ta.brk{a:List Nat}(x:ta a): ta (40::(a++[41])):=fun rest o h=>by
 show fL (40::((a++[41])++rest)) o=_
 simp only[fL,if_true]
 rw[Ho,x _ _ (by omega)]
 show fL (41::rest) (o+1)=_
 simp only[fL]
 skip
 congr 1;omega
theorem zm.brk{a:List Nat}(x:zm a)(bx:ta a): zm (40::(a++[41])):=fun j o h=>by
 cases j with
 |zero=>exact⟨o,rfl,JN _⟩
 |succ j=>
  simp only[Li,fL,if_true]
  by_cases hj:j≤a.length
  ·rw[JO hj]
   obtain⟨g,h1,h2⟩:=x j (o+1) (by omega)
   exact⟨g,h1,by omega⟩
  ·rw[IY (by simp;omega),bx _ _ (by omega)]
   refine⟨o,?_,JN _⟩
   simp only[fL]
   rw[if_neg (by decide),if_pos trivial,if_neg (by omega)]
   congr 1;omega
noncomputable def Fm.inner:Fm→List Nat
 | .leaf c=>[c]
 | .node o l r=>l.list++o::r.list
theorem Fm.list_node(o:Nat)(l r:Fm): (Fm.node o l r).list=40::((Fm.node o l r).inner++[41]):=by simp[Fm.list,Fm.inner]
theorem Fm.balabv:∀{f:Fm},f.ok→ta f.list∧zm f.list∧ta f.inner∧zm f.inner
 | .leaf c,h=>⟨pk h.ne.1 h.ne.2.1,pn h.ne.1 h.ne.2.1,pk h.ne.1 h.ne.2.1,pn h.ne.1 h.ne.2.1⟩
 | .node o l r,⟨h1,h2,h3⟩=>by
  obtain⟨a1,a2,_,_⟩:=Fm.balabv h2
  obtain⟨b1,b2,_,_⟩:=Fm.balabv h3
  have s1:=pk h1.ne.1 h1.ne.2.1
  have s2:=pn h1.ne.1 h1.ne.2.1
  have e:(Fm.node o l r).inner=l.list++([o]++r.list):=rfl
  have i1:ta (Fm.node o l r).inner:=by rw[e];exact a1.app (s1.app b1)
  have i2:zm (Fm.node o l r).inner:=by rw[e];exact a2.app a1 (s2.app s1 b2)
  exact⟨by rw[Fm.list_node];exact i1.brk,by rw[Fm.list_node];exact i2.brk i1,i1,i2⟩
theorem ta.zero{xs:List Nat}(x:ta xs): fL xs 0=some 0:=by
 obtain this:=x [] 0 (JN _)
 rwa[Hj]at this
theorem kU{c:Nat}(h:dv c): bI (S [c])=256:=by
 skip
 rcases h with rfl | rfl | rfl | rfl | rfl | rfl | rfl | rfl <;> decide +kernel
noncomputable def ii(o:Nat): Int:=if o=43 then 14 else if o=45 then 15 else 16
theorem wh{c:Nat}(h:dH c): bI (S [c])=ii c:=by
 skip
 rcases h with rfl | rfl | rfl <;> decide +kernel
theorem wi:bI (S [40])=7:=by decide +kernel
theorem pT{x:Str}{k0:Nat}{T:Int}{A B:Str}(hT:bI (cL x k0)=T)(hA:aM x none (some (k0:Int))=A)(hB:aM x (some ((k0:Int)+1)) none=B)(c1:T<256)(c2:dI (aC A)=true)(c3:dI (aC B)=true): ∀{ks1 ks2:List Nat},(∀ k∈ks1,¬ bI (cL x k)<256∨dI (aC (aM x none (some (k:Int))))=false∨dI (aC (aM x (some ((k:Int)+1)) none))=false)→fS x (ks1++k0::ks2)=some (T,A,B):=by
 intro ks1
 induction ks1 with
 |nil=>
  intro ks2 _
  subst hT hA hB
  exact if_pos (by rw[c2,c3,decide_eq_true c1];rfl)
 |cons k ks1 ih=>
  intro ks2 h
  refine(if_neg ?_).trans (ih fun j hj=>h j (.tail _ hj))
  rcases h k (.head _)with h | h | h
  ·rw[decide_eq_false h];exact J9
  ·rw[h,Bool.false_and,LF];exact J9
  ·rw[h,Bool.false_and,LF,LF];exact J9
theorem uS{k n:Nat}(h:k<n): Ix n=Ix k++k::Iw (k+1) (n - k - 1):=by
 rw[Jy,Jy]
 obtain e:k::Iw (k+1) (n - k - 1)=Iw k (n - k):=by
  obtain this:n - k=(n - k - 1)+1:=(Nat.sub_add_cancel (Nat.sub_pos_of_lt h)).symm
  rw[this,Md]
  simp
 rw[e]
 obtain this:=List.range'_append (s:=0) (m:=k) (n:=n - k) (step:=1)
 simp only[Nat.one_mul,Jc]at this
 rw[this]
 congr 1;omega
theorem jh{I:List Nat}(h:∀ c∈I,lT c): dI (aC (S I))=(fL I 0==some 0):=(congrArg dI (d8 (xa h))).trans (sO (x9 h))
theorem tl{v:Option Int}(h:v≠some 0): (v==some 0)=false:=beq_false_of_ne h
theorem rp{I l r:List Nat}{o:Nat}(hI:I=l++o::r)(hin:∀ c∈I,lT c)(ho:dH o)(l1:fL l 0=some 0)(r1:fL r 0=some 0)(bad:∀ k,k<l.length→¬ bI (cL (S I) k)<256∨fL (I.take k) 0≠some 0∨fL (I.drop (k+1)) 0≠some 0): fS (S I) (Ix (S I).length)=some (ii o,S l,S r):=by
 have hlen:I.length=l.length+(r.length+1):=hI▸He
 have hk:l.length<I.length:=hlen▸Ib (Io _)
 have hl:(S I).length=I.length:=bW I
 rw[uS (hl▸hk)]
 refine pT ?_ ?_ ?_ (by unfold ii;split;decide;split <;> decide) ?_ ?_ fun k hk'=>?_
 ·refine(congrArg bI ((Du hk).trans ?_)).trans (wh ho)
  subst hI;rw[List.getElem_append_right (Hw _)];simp only[Lp,List.getElem_cons_zero]
 ·exact(iN (IG hk)).trans (congrArg S (hI▸KP))
 ·exact(fT (k:=l.length+1) hk).trans (congrArg S (by subst hI;rw[←LA,MR];rfl))
 ·exact(jh fun c hc=>hin c (hI▸H8 _ hc)).trans (by rw[l1];rfl)
 ·exact(jh fun c hc=>hin c (hI▸Hb _ (.tail _ hc))).trans (by rw[r1];rfl)
 ·have hlt:=IN (JG.mp hk') hk
  refine(bad k (JG.mp hk')).imp id fun h=>h.imp (fun h=>?_) fun h=>?_
  ·exact(congrArg (fun t=>dI (aC t)) (iN (IG hlt))).trans ((jh fun c hc=>hin c (Jz hc)).trans (tl h))
  ·exact(congrArg (fun t=>dI (aC t)) (fT (k:=k+1) hlt)).trans ((jh fun c hc=>hin c (Je hc)).trans (tl h))
theorem jV{o:Nat}{l r:Fm}(h:(Fm.node o l r).ok): gr (S (Fm.node o l r).list)=some (ii o,S l.list,S r.list):=by
 have hn:=Fm.signs h
 obtain⟨ho,hl,hr⟩:=h
 refine(congrArg (fun t=>fS t (Ix t.length)) ((congrArg (fun z=>eM (S z)) (Fm.list_node o l r)).trans (Aw _))).trans (rp rfl (fun c hc=>hn c (Fm.list_node o l r▸.tail _ (H8 _ hc))) ho (Fm.balabv hl).1.zero (Fm.balabv hr).1.zero fun k hk=>?_)
 cases l with
 |leaf c=>
  cases k with
  |zero=>exact .inl fun h=>absurd ((congrArg (· < (256:Int)) (kU hl)).mp h) (by decide)
  |succ k=>exact absurd (Mw hk) (Nat.not_lt_zero _)
 |node o1 a b=>
  have e:=Fm.list_node o1 a b
  obtain⟨_,_,l3,l4⟩:=Fm.balabv hl
  rw[show(Fm.node o (.node o1 a b) r).inner=_++o::r.list from rfl,e]
  rw[e]at hk
  generalize (Fm.node o1 a b).inner=X at hk l3 l4
  cases k with
  |zero=>
   refine .inr (.inr fun h=>?_)
   have h:fL ((X++[41])++o::r.list) 0=some 0:=h
   rw[Ho,l3 _ _ (JN _)]at h
   exact nomatch (show none=some (0:Int)from h)
  |succ j=>
   refine .inr (.inl fun h=>?_)
   have hj:j≤X.length:=by rw[Hh,He]at hk;exact Nat.le_of_lt_succ (Mw hk)
   have h:fL (((X++[41])++o::r.list).take j) 1=some 0:=h
   rw[Ho,JO hj]at h
   obtain⟨z,h1,h2⟩:=l4 j 1 (by decide)
   rw[h1]at h
   cases h
   exact absurd h2 (by decide)
end
section
theorem g0{l:List Nat}(h:∀ c∈l,c<128): Hd (S l)=S (l.map lo1):=by
 rw[lower_ascii (by rw[fu];exact h)]
 show(⟨(S l).cps.map lo1⟩:Str)=_
 simp[S]
theorem nx:∀ ps:List (List Nat),Str.join (S []) (ps.map S)=S ps.flatten
 |[]=>rfl
 |[a]=>by simp[Str.join]
 |a::b::r=>by
  have ih:=nx (b::r)
  simp only[HF]at ih ⊢
  simp only[Str.join]
  rw[ih,cO,cO]
  simp
theorem xG(ps:List (List Nat)): Kl (H5 "") (ps.map S)=S ps.flatten:=by
 unfold Kl
 rw[StrLaws.glued_eq_join]
 exact nx ps
theorem uC{l:List Nat}{c i:Nat}(h:i<l.length): Iv (S l) (S [c]) i=decide (l[i]=c):=by
 rw[StrLaws.subAt_eq,fu,fu]
 have:(S [c]).length=1:=rfl
 rw[this,List.take_one,List.head?_drop,Hv h]
 show(l[i]==c&&true)=decide (l[i]=c)
 rw[Bool.and_true]
 rfl
theorem lD{x sub:Str}{hi lim:Nat}: ∀(l:List Nat) (st:Array Nat×Nat),(∀ i∈l,st.fst.size<lim→¬ (i+sub.length≤hi∧Iv x sub i=true))→forIn l st (J3 x sub hi lim)=(pure st:Id _)
 |[],st,_=>rfl
 |a::l,st,h=>by
  rw[JY]
  unfold J3
  rw[if_neg (fun e=>h a (.head _) e.1.1.1 ⟨e.1.2,e.2⟩)]
  exact lD l st fun i hi'=>h i (.tail _ hi')
theorem sa{α σ:Type}(l1 l2:List α)(st:σ)(f:α→σ→Id (ForInStep σ))(hf:∀ a s,∃ s',f a s=pure (Jk s')): forIn (l1++l2) st f=(forIn l2 (forIn l1 st f).run f:Id σ):=by
 induction l1 generalizing st with
 |nil=>rfl
 |cons a l ih=>
  rw[Hp,JY,JY]
  obtain⟨s',e⟩:=hf a st
  rw[e]
  exact ih s'
theorem rH(x sub:Str)(hi lim a:Nat)(s:Array Nat×Nat): ∃ s',J3 x sub hi lim a s=pure (Jk s'):=by
 unfold J3
 split
 ·exact⟨_,rfl⟩
 ·exact⟨_,rfl⟩
theorem x8{x sub:Str}{hi lim:Nat}(l1 l2:List Nat)(st:Array Nat×Nat)(h:∀ i∈l1,st.fst.size<lim→¬ (i+sub.length≤hi∧Iv x sub i=true)): forIn (l1++l2) st (J3 x sub hi lim)=(forIn l2 st (J3 x sub hi lim):Id _):=by
 rw[sa _ _ _ _ (rH _ _ _ _),lD l1 st h]
 rfl
theorem tI{x sub:Str}{hi lim i:Nat}(l1 l2:List Nat)(st:Array Nat×Nat)(h:∀ k∈l1,Iv x sub k=false)(c1:st.1.size<lim)(c2:st.2≤i)(c3:i+sub.length≤hi)(c4:Iv x sub i=true):
  forIn (l1++i::l2) st (J3 x sub hi lim)=(forIn l2 (st.1.push i,i+sub.length) (J3 x sub hi lim):Id _):=by
 refine(x8 l1 _ st fun k hk _ e=>J9 ((h k hk).symm.trans e.2)).trans ?_
 rw[JY,show J3 x sub hi lim i st=_ from if_pos ⟨⟨⟨c1,c2⟩,c3⟩,c4⟩]
 rfl
theorem wK(s m k:Nat): Iw s (m+(k+1))=Iw s m++(s+m)::Iw (s+m+1) k:=by
 have h:=(List.range'_append (s:=s) (m:=m) (n:=k+1) (step:=1)).symm
 rw[Nat.one_mul]at h
 exact h
theorem A7{x sub:Str}{i d c n:Nat}(one:sub.length=1)(hn:n=i+1+d+1+c)(s1:Iv x sub i=true)(s2:Iv x sub (i+1+d)=true)(m1:∀ k,k<i→Iv x sub k=false)(m2:∀ k,k<d→Iv x sub (i+1+k)=false): IA x sub 0 n 2=[i,i+1+d]:=by
 have e:n+1 - 0=i+(d+(c+1+1)+1):=by omega
 rw[StrLaws.occ_eq,e,wK,wK,Jc]
 have h1:i+1≤n:=by omega
 have h2:i+1+d+1≤n:=by omega
 have g:=tI (hi:=n) (lim:=2) (i:=i) (Iw 0 i) (Iw (i+1) d++(i+1+d)::Iw (i+1+d+1) (c+1)) (#[],0) (fun k hk=>m1 k (by rw[List.mem_range'_1,Jc]at hk;exact hk.2)) (by decide) (HT _) (one.symm▸h1) s1
 have g2:=tI (hi:=n) (lim:=2) (i:=i+1+d) (Iw (i+1) d) (Iw (i+1+d+1) (c+1)) (#[i],i+sub.length) (fun k hk=>by
  have hk:=List.mem_range'_1.mp hk
  rw[←JB hk.1]
  exact m2 _ (Nat.sub_lt_left_of_lt_add hk.1 hk.2)) Nat.one_lt_two (one.symm▸HQ _ _) (one.symm▸h2) s2
 exact congrArg (fun z:Id (Array Nat×Nat)=>z.run.fst.toList) (g.trans (g2.trans (lD _ _ fun _ _ h=>absurd h (Ie 2))))
theorem ju{l:List Nat}{c i v:Nat}(h:l[i]? = some v): Iv (S l) (S [c]) i=decide (v=c):=by
 obtain⟨hi,e⟩:=Ii.mp h
 exact e▸uC hi
theorem pQ{l r:List Nat}{c i k:Nat}(hc:c∉r)(hk:k<r.length)(h:l[i]? = r[k]?): Iv (S l) (S [c]) i=false:=
 (ju (h.trans (Hv hk))).trans (decide_eq_false fun e=>hc (e▸Kf hk))
theorem tW(a:List Nat)(x:Nat)(l:List Nat)(k:Nat): (a++x::l)[a.length+1+k]? = l[k]?:=by
 rw[Ih,HO (HQ _ _),Jh,HU,List.getElem?_cons_succ]
theorem xT(a:List Nat)(x:Nat)(l:List Nat): (a++x::l)[a.length]? = some x:=by
 rw[HO (Hw _),Lp];rfl
theorem tP{a b c:List Nat}: (a++39::(b++39::c)).length=a.length+1+b.length+1+c.length:=by
 rw[He,Hh,He,Hh];omega
theorem A6{a b c:List Nat}(ha:39∉a)(hb:39∉b): IA (S (a++39::(b++39::c))) (S [39]) 0 (S (a++39::(b++39::c))).length 2=[a.length,a.length+1+b.length]:=
 A7 rfl ((bW _).trans tP) (ju (xT _ _ _)) (ju ((tW _ _ _ _).trans (xT _ _ _))) (fun k hk=>pQ ha hk (HK hk)) fun k hk=>pQ hb hk ((tW _ _ _ _).trans (HK hk))
theorem CJ{l:List Nat}(h:∀ x∈l,x<128): II (S l)=1:=by
 unfold II
 rw[if_pos]
 skip
 rw[List.all_toArray,Kc]
 exact fun x hx=>by have:=h x hx;simp;omega
theorem wv(l:List Nat)(i j:Nat): JS (S l) i j=S ((l.drop i).take (j - i)):=by
 rw[←yV (JS _ _ _),StrLaws.strSub_toList,fu]
theorem uV{l:List Nat}{i j:Nat}(hl:0<l.length)(k:II (S l)=1)(h:IA (S l) (S [39]) 0 (S l).length 2=[i,j]): cP (S l)=[S (l.take i),S ((l.drop (i+1)).take (j - (i+1))),S (l.drop (j+1))]:=by
 have a:(S l).length=l.length:=bW l
 show Lo (S l) (H5 "'") 2=_
 rw[Ej]
 have c:¬ ((decide ((S l).length<(S [39]).length)||decide (II (S l)<II (S [39])))=true):=by
  rw[k,show II (S [39])=1 by decide +kernel,decide_eq_false (by rw[a];exact Hz.mpr hl)];decide
 refine(if_neg c).trans ((if_neg (by rw[show limitOf (S l) 2=2 from rfl,h];exact J9)).trans ?_)
 rw[show limitOf (S l) 2=2 from rfl,h,StrLaws.partsBetween_eq]
 show[JS (S l) 0 i,JS (S l) (i+1) j,JS (S l) (j+1) (S l).length]=_
 rw[wv,wv,wv,a,IY (l:=l.drop (j+1)) (HM Kb)]
 rfl
theorem rD{a b c:List Nat}(ha:39∉a)(hb:39∉b)(hs:∀ x∈a++39::(b++39::c),x<128): cP (S (a++39::(b++39::c)))=[S a,S b,S c]:=by
 refine(uV (tP.symm▸Nat.lt_add_right _ (Io _)) (CJ hs) (A6 ha hb)).trans ?_
 have d (a:List Nat) (l:List Nat):(a++39::l).drop (a.length+1)=l:=by rw[←LA,MR];rfl
 rw[KP,d,Jh,KP,Ih (_+1),←LA,d,d]
end
section
theorem sE(i:Nat)(l l':Int): ∀ cs:List Nat,bD i false l cs=bD i false l' cs
 |[]=>rfl
 |c::cs=>rfl
theorem dM{i:Nat}{l:Int}{c:Nat}{cs:List Nat}(h:c≠92): bD i false l (c::cs)=((i:Int),S [c])::bD (i+1) false 0 cs:=by
 obtain e:((⟨#[c]⟩:Str)==H5 "\\")=false:=by rw[gk,uM,bt];exact decide_eq_false h
 show(if((⟨#[c]⟩:Str)==H5 "\\")=true then _ else _)=_
 rw[e]
 skip
 rw[sE _ _ 0]
 rfl
theorem yn{i:Nat}{l:Int}{c:Nat}{cs:List Nat}: bD i false l (92::c::cs)=(((i+1:Nat):Int),S [92,c])::bD (i+2) false 0 cs:=by
 obtain e:((⟨#[92]⟩:Str)==H5 "\\")=true:=by rw[gk,uM,bt];rfl
 show(if((⟨#[92]⟩:Str)==H5 "\\")=true then bD (i+1) true i (c::cs)else _)=_
 skip
 show(((i+1:Nat):Int),H5 "\\"++(⟨#[c]⟩:Str))::bD (i+1+1) false ((i+1:Nat):Int) cs=_
 rw[sE _ _ 0,uM,gk,cO]
 rfl
theorem qx{addr:Str}{i st:Int}{c:Str}{rest:List (Int×Str)}{op:Option Int}{r:List Str}(h:(c==H5 "\"")=false): aN addr ((i,c)::rest) st op r=aN addr rest st op r:=by
 show(if(c==H5 "\"")=true then _ else _)=_
 rw[h]
 simp
theorem wS{c:Nat}(h:c≠34): (S [c]==H5 "\"")=false:=by rw[qa,bt];exact decide_eq_false h
theorem lU{addr:Str}{st:Int}{op:Option Int}{r:List Str}{rest:List Nat}: ∀(u:List Nat) (i:Nat) (l:Int),34∉u→92∉u→aN addr (bD i false l (u++rest)) st op r=aN addr (bD (i+u.length) false 0 rest) st op r
 |[],i,l,_,_=>by rw[Iy,sE i l 0];rfl
 |c::u,i,l,h1,h2=>by
  simp only[Ha,not_or]at h1 h2
  rw[Hp,dM (Il h2.1),qx (wS (Il h1.1)),lU u (i+1) 0 h1.2 h2.2,Hh]
  congr 2;omega
theorem tV{addr:Str}{i st:Int}{rest:List (Int×Str)}{r:List Str}: aN addr ((i,S [34])::rest) st none r=aN addr rest st (some i) r:=by
 obtain h:(S [34]==H5 "\"")=true:=by rw[qa,bt];rfl
 show(if(S [34]==H5 "\"")=true then _ else _)=_
 rw[if_pos h]
theorem qy{addr:Str}{i st o:Int}{rest:List (Int×Str)}{r:List Str}: aN addr ((i,S [34])::rest) st (some o) r=aN addr rest (i+1) none (if st != o then r++[aM addr (some st) (some o)]else r):=by
 obtain h:(S [34]==H5 "\"")=true:=by rw[qa,bt];rfl
 show(if(S [34]==H5 "\"")=true then _ else _)=_
 rw[if_pos h]
noncomputable def rk:Nat→List Nat
 |0=>[]
 |1=>[34,39,40,34]
 |_=>[34,41,92,34,34]
theorem BH{addr:Str}{m i:Nat}{st:Int}{r:List Str}{rest:List Nat}(hm:m≠0): aN addr (bD i false 0 (rk m++rest)) st none r=aN addr (bD (i+(rk m).length) false 0 rest) ((i+(rk m).length:Nat):Int) none (if st != (i:Int)then r++[aM addr (some st) (some (i:Int))]else r):=by
 obtain e1:∀{c},c≠34→(S [c]==H5 "\"")=false:=fun h=>wS h
 match m,hm with
 |1,_=>
  show aN addr (bD i false 0 (34::39::40::34::rest)) st none r=_
  rw[dM (by decide),tV,dM (by decide),qx (e1 (by decide)),dM (by decide),qx (e1 (by decide)),dM (by decide),qy]
  rfl
 |m+2,_=>
  show aN addr (bD i false 0 (34::41::92::34::34::rest)) st none r=_
  rw[dM (by decide),tV,dM (by decide),qx (e1 (by decide)),yn,qx (by rw[qa,uv];decide),dM (by decide),qy]
  rfl
theorem wx{l:List Nat}{st:Int}{op:Option Int}{r:List Str}(hin:Internal.inS (H5 "\"") (S l)=true)(hg:aN (S l) (bD 0 false 0 l) 0 none []=(st,op,r))(he:¬ st<((S l).length:Int)): aC (S l)=Kl (H5 "") r:=by
 unfold aC
 rw[if_pos hin,fu,hg]
 exact congrArg (Kl _) (if_neg he)
theorem Fp{l p w s:List Nat}{r:List (List Nat)}{i j:Nat}(hl:l=p++(w++s))(hi:i=p.length)(hj:j=i+w.length): ∃ r':List (List Nat),(if(i:Int) != (j:Int)then r.map S++[aM (S l) (some (i:Int)) (some (j:Int))]else r.map S)=r'.map S∧r'.flatten=r.flatten++w:=by
 by_cases h0:w=[]
 ·subst h0 hj
  exact⟨r,if_neg (by simp),(Hj _).symm⟩
 ·have hp:=List.length_pos_iff.mpr h0
  refine⟨r++[w],(if_pos (bne_iff_ne.mpr fun e=>?_)).trans ?_,List.flatten_append.trans (congrArg (r.flatten++·) (Hj w))⟩
  ·exact absurd (hj.symm.trans (Int.ofNat.inj e).symm) (Ju (Ib hp))
  ·refine(congrArg (fun z=>r.map S++[z]) (uK (hj▸HQ _ _) ?_)).trans ?_
   ·rw[hl,hj,hi,He,He,←Ih];exact HQ _ _
   ·rw[hj,Jh,hi,hl,MR,KP,HW];rfl
theorem Ek{m:Nat}(hm:m≠0): 34∈rk m:=by
 match m,hm with
 |1,_=>exact .head _
 |m+2,_=>exact .head _
theorem pR{u v:List Nat}{m:Nat}(hu:34∉u∧92∉u)(hv:34∉v∧92∉v): aC (S (u++(rk m++(v++rk m))))=S (u++v):=by
 by_cases hm:m=0
 ·subst hm
  rw[show rk 0=[]from rfl,Iy,Hj]
  exact d8 fun h=>(H9.mp h).elim hu.1 hv.1
 have hin:Internal.inS (H5 "\"") (S (u++(rk m++(v++rk m))))=true:=by
  rw[qa,hV]
  exact decide_eq_true (Hb _ (H8 _ (Ek hm)))
 have hgo:=((lU (addr:=S (u++(rk m++(v++rk m)))) (st:=0) (op:=none) (r:=[]) (rest:=rk m++(v++rk m)) u 0 0 hu.1 hu.2).trans (BH hm)).trans ((lU v _ 0 hv.1 hv.2).trans ((congrArg (fun z=>aN _ (bD _ false 0 z) _ none _) (Hj _).symm).trans (BH (rest:=[]) hm)))
 obtain⟨r1,e1,f1⟩:=Fp (l:=u++(rk m++(v++rk m))) (p:=[]) (w:=u) (r:=[]) (i:=0) (j:=u.length) rfl rfl (Jc _).symm
 obtain⟨r2,e2,f2⟩:=Fp (l:=u++(rk m++(v++rk m))) (p:=u++rk m) (w:=v) (s:=rk m) (r:=r1) (i:=u.length+(rk m).length) (Ho _ _ _).symm He.symm rfl
 rw[Jc,show(if(0:Int) != ((u.length:Nat):Int)then([]:List Str)++[aM (S (u++(rk m++(v++rk m)))) (some 0) (some ((u.length:Nat):Int))]else[])=r1.map S from e1,e2]at hgo
 refine(wx hin (hgo.trans rfl) ?_).trans ((xG r2).trans (congrArg S (f2.trans (congrArg (·++v) f1))))
 rw[bW,He,He,He]
 simp only[Ih]
 exact Int.lt_irrefl _
theorem uP(n:Int): ∃ m,eZ n=S (rk m):=by
 unfold eZ
 split
 ·exact⟨0,by decide +kernel⟩
 ·split
  ·exact⟨1,by decide +kernel⟩
  ·exact⟨2,by decide +kernel⟩
theorem Cr{t:List Nat}(n:Int)(h:t.length=9): ∃ k m,k≤9∧iZ (S t) n=S (t.take k++(rk m++(t.drop k++rk m))):=by
 obtain⟨m,hm⟩:=uP n
 have h1:0≤(n.fdiv 3).fmod 10∧(n.fdiv 3).fmod 10<10:=⟨IH _ (by decide),J8 _ (by decide)⟩
 obtain⟨k,hk⟩:=Mh h1.1
 have k9:k≤9:=Nat.le_of_lt_succ (N6.mp (hk▸h1.2))
 refine⟨k,m,k9,?_⟩
 unfold iZ
 rw[hm,hk,iN (h▸k9),fT (h▸k9),cO,cO,cO]
 simp
theorem oO:∀(xs:List Nat) (o m h:Int),0≤h→fL xs o=some m→fL xs (o+h)=some (m+h)
 |[],o,m,h,_,e=>by cases e;rfl
 |c::xs,o,m,h,hh,e=>by
  simp only[fL]at e ⊢
  split at e
  ·rename_i hc
   rw[if_pos hc]
   have:=oO xs _ m h hh e
   rw[←this];congr 1;omega
  ·rename_i hc
   rw[if_neg hc]
   split at e
   ·rename_i hd
    rw[if_pos hd]
    split at e
    ·cases e
    ·rename_i ho
     rw[if_neg (by omega)]
     have:=oO xs _ m h hh e
     rw[←this];congr 1;omega
   ·rename_i hd
    rw[if_neg hd]
    exact oO xs _ m h hh e
theorem oP:∀(xs:List Nat) (o m:Int),0≤o→fL xs o=some m→0≤m
 |[],o,m,h,e=>by cases e;exact h
 |c::xs,o,m,h,e=>by
  simp only[fL]at e
  split at e
  ·exact oP xs _ m (by omega) e
  ·split at e
   ·split at e
    ·cases e
    ·exact oP xs _ m (by omega) e
   ·exact oP xs _ m h e
theorem j6:∀(xs ys:List Nat) (o:Int),fL (xs++ys) o=(fL xs o).bind (fL ys)
 |[],ys,o=>rfl
 |c::xs,ys,o=>by
  simp only[Hp,fL]
  split
  ·exact j6 xs ys _
  ·split
   ·split
    ·rfl
    ·exact j6 xs ys _
   ·exact j6 xs ys _
theorem rm{o:Nat}{l r:Fm}(h:(Fm.node o l r).ok){k:Nat}(h1:1≤k)(h2:k<(Fm.node o l r).list.length): (fL ((Fm.node o l r).list.drop k++(Fm.node o l r).list.take k) 0==some 0)=false:=by
 obtain⟨b1,_,_,b4⟩:=Fm.balabv h
 rw[j6]
 cases e:fL ((Fm.node o l r).list.drop k) 0 with
 |none=>rfl
 |some m=>
  exfalso
  obtain hm:=oP _ _ _ (JN _) e
  obtain e2:=b1.zero
  rw[←J6 k (Fm.node o l r).list,j6]at e2
  obtain⟨j,rfl⟩:∃ j,k=j+1:=⟨k - 1,by omega⟩
  obtain et:(Fm.node o l r).list.take (j+1)=40::(Fm.node o l r).inner.take j:=by
   rw[Fm.list_node]at h2 ⊢
   simp only[Hh,He,Ij]at h2
   rw[Li,JO (by omega)]
  obtain⟨g,h3,h4⟩:=b4 j 1 (by decide)
  obtain et2:fL ((Fm.node o l r).list.take (j+1)) 0=some g:=by rw[et];exact h3
  rw[et2]at e2
  obtain this:=oO _ 0 m g (by omega) e
  rw[Mq]at this
  have e3:fL ((Fm.node o l r).list.drop (j+1)) g=some 0:=e2
  rw[this]at e3
  injection e3 with e3
  omega
end
section
noncomputable def eC(h:Bool)(c:Nat): List Nat:=if(h=true∨c=34∨c=92)then[92,c]else[c]
noncomputable def jO(q:Int)(u:List Nat): List Nat:=if q=0 then 34::(u.flatMap (eC false)++[34])else u.flatMap (eC (q==1))
theorem Db(how:Int)(c:Nat): jM how (S [c])=S (eC (how==1) c):=by
 unfold jM eC
 obtain e:Internal.inS (S [c]) (H5 "\"\\")=decide (c∈[34,92]):=by
  obtain this:H5 "\"\\" = S [34,92]:=by decide +kernel
  rw[this,hV]
 rw[e,uM]
 simp only[Ha,Hs,or_false,Bool.or_false,Bool.or_eq_true,decide_eq_true_eq]
 split
 ·rw[cO];rfl
 ·rfl
theorem oY(u:List Nat)(n:Int): gM (S u) n=S (jO (n.fmod 3) u):=by
 unfold gM jO ji
 obtain hf:∀ how:Int,((S u).cps.toList.map fun c=>(⟨#[c]⟩:Str)).map (jM how)=(u.map (eC (how==1))).map S:=fun how=>by
  rw[fu,JR,JR]
  exact Lh fun c _=>Db how c
 simp only[hf,xG]
 obtain e2:∀ h:Bool,(u.map (eC h)).flatten=u.flatMap (eC h):=fun h=>by rw[List.flatMap_def]
 rw[e2]
 by_cases h:n.fmod 3=0
 ·rw[h,qa]
  simp only[beq_self_eq_true,if_true,cO]
  rfl
 ·obtain this:(n.fmod 3==0)=false:=by simpa using h
  rw[this,if_neg h]
  simp
theorem tT(c:Nat): g6 c=decide (c=10∨c=9∨c=13∨c=32):=by
 unfold g6
 obtain this:H5 "\n\t\r " = S [10,9,13,32]:=by decide +kernel
 rw[this,gk,hV]
 simp
theorem nr(c:Nat): lS c=decide (c=34):=by unfold lS;rw[gk,qa,bt]
theorem BC(c:Nat): nt c=decide (c=92):=by unfold nt;rw[gk,uM,bt]
theorem FW:H5 "\n" = S [10]:=by decide +kernel
theorem jZ{c:Nat}{r:List Nat}{ln:Int}(h:c≠10): ar (c::r) ln=ln:=by
 show(if((⟨#[c]⟩:Str)==H5 "\n")=true then ln+1 else ln)=ln
 rw[gk,FW,bt,decide_eq_false h]
 rfl
theorem GI{r:List Nat}{ln:Int}: ar (10::r) ln=ln+1:=by
 show(if((⟨#[10]⟩:Str)==H5 "\n")=true then ln+1 else ln)=ln+1
 skip
 rfl
noncomputable def Wd(u:List Nat): Prop:=∀ c∈u,c≠10∧c≠9∧c≠13∧c≠32
theorem g9{isE:Nat→Bool}{h:Bool}(h92:isE 92=false): ∀(u:List Nat) (tok:Str) (rest:List Nat) (ln:Int),Wd u→(∀ c∈u,c≠34→c≠92→isE c=false)→aE isE tok (u.flatMap (eC h)++rest) ln=aE isE (tok++S u) rest ln
 |[],tok,rest,ln,_,_=>by
  have:tok++S []=tok:=by rw[←yV tok,cO,Hj]
  rw[this];rfl
 |c::u,tok,rest,ln,hw,he=>by
  have ih:=fun t=>g9 (h:=h) h92 u t rest ln (fun x hx=>hw x (.tail _ hx)) fun x hx=>he x (.tail _ hx)
  have hc:=hw c (.head _)
  have e3:(tok++S [c])++S u=tok++S (c::u):=by rw[←yV tok,cO,cO,cO];simp
  rw[IL,Ho]
  unfold eC
  split
  ·show aE isE tok (92::(c::(u.flatMap (eC h)++rest))) ln=_
   rw[cK,h92,BC,jZ (by decide)]
   simp only[Hq,if_false,decide_true,if_true,List.tail_cons]
   rw[jZ hc.1]
   show aE isE (tok++(⟨#[c]⟩:Str)) _ ln=_
   rw[gk,ih,e3]
  ·rename_i hn
   simp only[not_or]at hn
   show aE isE tok (c::(u.flatMap (eC h)++rest)) ln=_
   rw[cK,he c (.head _) hn.2.1 hn.2.2,BC,decide_eq_false hn.2.2,jZ hc.1]
   simp only[Hq,if_false]
   rw[gk,ih,e3]
theorem tw:H5 "" = S []:=by decide +kernel
theorem tJ(x:Str): H5 ""++x=x:=by
 rw[←yV x,tw,cO];rfl
theorem rS{u:List Nat}(hw:Wd u){rest:List Nat}{ln:Int}: an (34::(u.flatMap (eC false)++34::rest)) ln=⟨S u,rest,ln,true⟩:=by
 show(if g6 34 then _ else if lS 34 then _ else _)=_
 rw[tT,nr]
 simp only[decide_true,if_true,show decide ((34:Nat)=10∨(34:Nat)=9∨(34:Nat)=13∨(34:Nat)=32)=false from by decide,Hq,if_false]
 rw[jZ (by decide),g9 (by rw[nr];decide) u _ _ _ hw (fun c _ h _=>by rw[nr];exact decide_eq_false h),tJ,cK,nr]
 simp only[decide_true,if_true]
 rw[jZ (by decide)]
theorem nl{u:List Nat}(hw:Wd u)(hu:u≠[]){h:Bool}{sep:Nat}{rest:List Nat}{ln:Int}(hs:g6 sep=true): an (u.flatMap (eC h)++sep::rest) ln=⟨S u,rest,ar (sep::rest) ln,true⟩:=by
 have key:aE g6 (H5 "") (u.flatMap (eC h)++sep::rest) ln=⟨S u,rest,ar (sep::rest) ln,true⟩:=by
  rw[g9 (by rw[tT];decide) u _ _ _ hw (fun c hc _ _=>by rw[tT];obtain this:=hw c hc;exact decide_eq_false (by omega)),tJ,cK,hs]
  simp only[if_true]
 cases u with
 |nil=>exact absurd rfl hu
 |cons c u=>
  obtain hc:=hw c (.head _)
  obtain wf:∀ d,d=92∨d=c→g6 d=false:=fun d hd=>by rw[tT];exact decide_eq_false (by rcases hd with rfl | rfl <;> omega)
  rw[IL,Ho]at key ⊢
  rw[←key]
  obtain rl:∀(d:Nat) (r:List Nat),(d=92∨d=c)→lS d=false→an (d::r) ln=aE g6 (H5 "") (d::r) ln:=fun d r hd hq=>by
   rw[cK]
   show(if g6 d then _ else if lS d then _ else _)=_
   rw[wf d hd,hq]
   rfl
  unfold eC
  split
  ·exact rl 92 _ (.inl rfl) (by rw[nr];decide)
  ·rename_i hn
   simp only[not_or]at hn
   exact rl c _ (.inr rfl) (by rw[nr];exact decide_eq_false hn.2.1)
theorem Am{sep:Nat}{rest:List Nat}{ln:Int}(hs:g6 sep=true): an (sep::rest) ln=an rest (ar (sep::rest) ln):=by
 show(if g6 sep then _ else _)=_
 rw[hs];rfl
theorem oJ{u:List Nat}(hw:Wd u)(hu:u≠[])(q:Int){sep:Nat}{rest:List Nat}{ln:Int}(hs:g6 sep=true):
  (an (jO q u++sep::rest) ln).tok=S u∧(an (jO q u++sep::rest) ln).rest.length≤rest.length+1∧an (an (jO q u++sep::rest) ln).rest (an (jO q u++sep::rest) ln).ln=an rest (ar (sep::rest) ln):=by
 unfold jO
 split
 ·obtain e:34::(u.flatMap (eC false)++[34])++sep::rest=34::(u.flatMap (eC false)++34::(sep::rest)):=by simp
  rw[e,rS hw]
  exact⟨rfl,Hw _,Am hs⟩
 ·rw[nl hw hu hs]
  exact⟨rfl,J0 _,rfl⟩
theorem tM{c sep:Nat}{rest:List Nat}{ln:Int}(hc:c=112∨c=113∨c=80)(hs:g6 sep=true): an (c::sep::rest) ln=⟨S [c],rest,ar (sep::rest) ln,true⟩:=by
 have:=nl (u:=[c]) (h:=false) (sep:=sep) (rest:=rest) (ln:=ln) (by intro d hd;rw[H7.mp hd];rcases hc with rfl | rfl | rfl <;> decide) (by simp) hs
 obtain e:[c].flatMap (eC false)++sep::rest=c::sep::rest:=by
  rcases hc with rfl | rfl | rfl <;> rfl
 rw[e]at this
 exact this
theorem i7(q:Int)(u:List Nat): (jO q u).length≤2*u.length+2:=by
 obtain h:∀ h:Bool,(u.flatMap (eC h)).length≤2*u.length:=fun h=>by
  induction u with
  |nil=>simp
  |cons c u ih=>
   rw[IL,He,Hh]
   obtain this:(eC h c).length≤2:=by unfold eC;split <;> simp
   omega
 unfold jO
 split
 ·obtain this:=h false;simp only[Hh,He,Ij];omega
 ·obtain this:=h (q==1);omega
end
section
noncomputable def Fm.oks(q:Nat→Prop): Fm→Prop
 | .leaf c=>q c
 | .node o l r=>dH o∧l.oks q∧r.oks q
theorem Fm.oks.mono{q q':Nat→Prop}(h:∀ c,q c→q' c): ∀{f:Fm},f.oks q→f.oks q'
 | .leaf c,a=>h c a
 | .node o l r,⟨a,b,c⟩=>⟨a,b.mono h,c.mono h⟩
theorem Fm.oks.ok{q:Nat→Prop}(h:∀ c,q c→dv c): ∀{f:Fm},f.oks q→f.ok
 | .leaf c,a=>h c a
 | .node o l r,⟨a,b,c⟩=>⟨a,b.ok h,c.ok h⟩
noncomputable def bT(c:Nat): Prop:=c=120∨c=88∨c=121∨c=89
noncomputable def gE(c:Nat): Prop:=c=120∨c=88∨c=121∨c=89∨c=112∨c=80
theorem bT.to{c:Nat}(h:bT c): gE c:=by unfold bT at h;unfold gE;omega
theorem gE.to{c:Nat}(h:gE c): dv c:=h.imp id (Or.imp id (Or.imp id (Or.imp id (Or.imp id .inl))))
noncomputable def oL(n:Int)(ls:List Nat)(k:Nat): Nat:=ls.getD ((n.fdiv ((ls.length:Int) ^ k)).fmod ls.length).toNat 0
noncomputable def rx(n:Int): Nat:=[43,45,42].getD (n.fmod 3).toNat 0
noncomputable def BL(n:Int)(ls:List Nat): Fm:=
 let m:=n.fdiv ((ls.length:Int) ^ 3)
 if(m.fdiv 9).fmod 2==0 then .node (rx m) (.node (rx (m.fdiv 3)) (.leaf (oL n ls 0)) (.leaf (oL n ls 1))) (.leaf (oL n ls 2))
 else .node (rx m) (.leaf (oL n ls 0)) (.node (rx (m.fdiv 3)) (.leaf (oL n ls 1)) (.leaf (oL n ls 2)))
theorem eE(l:List Nat)(k:Nat): cL (S l) k=S [l.getD k 0]:=by
 unfold cL S
 simp
theorem tf(n:Int)(ls:List Nat): fy n (S ls)=(BL n ls).toT:=by
 obtain e1:∀ k,d9 n (S ls) k=S [oL n ls k]:=fun k=>by unfold d9 oL;rw[eE,bW]
 obtain e2:∀ m,dP m=S [rx m]:=fun m=>by
  unfold dP rx
  obtain this:H5 "+-*" = S [43,45,42]:=by decide +kernel
  rw[this,eE]
 unfold fy BL
 rw[bW]
 dsimp only
 split <;> simp only[e1,e2,Fm.toT]
theorem qE{l:List Nat}{k:Nat}(h:k<l.length): l.getD k 0∈l:=by
 rw[Ia,Hv h]
 exact Kf h
theorem u4{n:Int}{m:Nat}(h:0<m): (n.fmod m).toNat<m:=
 have hm:(0:Int)<m:=Int.natCast_pos.mpr h
 (Int.toNat_lt (IH n hm)).mpr (J8 n hm)
theorem xm(n:Int){ls:List Nat}(h:0<ls.length)(k:Nat): oL n ls k∈ls:=qE (u4 h)
theorem zS(n:Int): dH (rx n):=by
 obtain this:=qE (l:=[43,45,42]) (k:=(n.fmod 3).toNat) (u4 (m:=3) (by decide))
 simp only[Ha,Hs,or_false]at this
 exact this
theorem gI(n:Int){ls:List Nat}(h:0<ls.length): (∃ o l r,BL n ls=.node o l r)∧(BL n ls).oks (·∈ls)∧(BL n ls).list.length=9:=by
 unfold BL
 dsimp only
 have a:=fun k=>xm n h k
 have b:=fun m=>zS m
 split
 ·exact⟨⟨_,_,_,rfl⟩,⟨b _,⟨b _,a _,a _⟩,a _⟩,rfl⟩
 ·exact⟨⟨_,_,_,rfl⟩,⟨b _,a _,⟨b _,a _,a _⟩⟩,rfl⟩
noncomputable def E3:List Nat:=[120,88,121,89]
noncomputable def EH:List Nat:=[120,88,121,89,112,80]
noncomputable def aK.P(d:aK): Fm:=BL d.f E3
noncomputable def aK.Q(d:aK): Fm:=BL d.c EH
theorem aK.p_eq(d:aK): d.p=d.P.toT:=by
 unfold aK.p aK.P
 obtain this:H5 "xXyY" = S E3:=by decide +kernel
 rw[this,tf]
theorem aK.q_eq(d:aK): d.q=d.Q.toT:=by
 unfold aK.q aK.Q
 obtain this:H5 "xXyYpP" = S EH:=by decide +kernel
 rw[this,tf]
theorem aK.P_ok(d:aK): d.P.oks bT:=(gI d.f (ls:=E3) (by decide)).2.1.mono fun c h=>by
 simp only[E3,Ha,Hs,or_false]at h;exact h
theorem aK.Q_ok(d:aK): d.Q.oks gE:=(gI d.c (ls:=EH) (by decide)).2.1.mono fun c h=>by
 simp only[EH,Ha,Hs,or_false]at h;exact h
theorem aK.P_len(d:aK): d.P.list.length=9:=(gI d.f (ls:=E3) (by decide)).2.2
theorem aK.Q_len(d:aK): d.Q.list.length=9:=(gI d.c (ls:=EH) (by decide)).2.2
structure Mk(t u:List Nat): Prop where
 strip:aC (S u)=S t
 ne:u≠[]
 len:u.length≤19
 prn:∀ c∈u,33≤c∧c<127
theorem oF{t:List Nat}(n:Int)(ht:t.length=9)(hs:∀ c∈t,lT c): ∃ u,iZ (S t) n=S u∧Mk t u:=by
 obtain⟨k,m,hk,e⟩:=Cr n ht
 have rkp:∀ c∈rk m,33≤c∧c<127:=by
  match m with
  |0=>intro c hc;cases hc
  |1=>exact show∀ c∈rk 1,33≤c∧c<127 by decide
  |m+2=>exact show∀ c∈rk 2,33≤c∧c<127 by decide
 obtain rkl:(rk m).length≤5:=by
  match m with
  |0=>decide
  |1=>decide
  |m+2=>exact Hw 5
 have hp:∀ c∈t,33≤c∧c<127:=fun c hc=>⟨(hs c hc).ne.2.2.2.2.2.2.2.1,(hs c hc).ne.2.2.2.2.2.2.2.2⟩
 refine⟨_,e,?_,?_,?_,?_⟩
 ·rw[pR ⟨xa fun c hc=>hs c (Jz hc),x9 fun c hc=>hs c (Jz hc)⟩ ⟨xa fun c hc=>hs c (Je hc),x9 fun c hc=>hs c (Je hc)⟩,J6]
 ·intro h0
  have h0:=Jn.mp h0
  have e:=J6 k t
  rw[h0.1,(Jn.mp (Jn.mp h0.2).2).1]at e
  rw[←e]at ht
  cases ht
 ·have e:=congrArg List.length (J6 k t)
  rw[He,ht]at e
  rw[He,He,He]
  generalize (t.take k).length=a at e
  generalize (t.drop k).length=b at e
  omega
 ·intro c hc
  simp only[H9]at hc
  rcases hc with hc | hc | hc | hc
  ·exact hp c (Jz hc)
  ·exact rkp c hc
  ·exact hp c (Je hc)
  ·exact rkp c hc
theorem Mk.wd{t u:List Nat}(h:Mk t u): Wd u:=fun c hc=>by obtain this:=h.prn c hc;omega
theorem Mk.Prn{t u:List Nat}(h:Mk t u): Prn (S u):=fun c hc=>by rw[fu]at hc;obtain this:=h.prn c hc;omega
structure BR(d:aK)(u0 u1 u2:List Nat): Prop where
 e0:d.w0=S u0
 e1:d.w1=S u1
 e2:d.w2=S u2
 m0:∃ t,Mk t u0∧dI (S t)=false
 m1:Mk d.P.list u1
 m2:Mk d.Q.list u2
theorem aK.words(d:aK): ∃ u0 u1 u2,BR d u0 u1 u2:=by
 obtain hp:=d.P_len
 obtain hq:=d.Q_len
 have okP:=d.P_ok.ok fun c h=>h.to.to
 obtain okQ:=d.Q_ok.ok fun c h=>h.to
 obtain⟨u1,a1,b1⟩:=oF (d.f.fdiv 1152) hp (Fm.signs okP)
 obtain⟨u2,a2,b2⟩:=oF (d.c.fdiv 3888) hq (Fm.signs okQ)
 have pt:d.p.text=S d.P.list:=by rw[d.p_eq,Fm.text]
 obtain qt:d.q.text=S d.Q.list:=by rw[d.q_eq,Fm.text]
 obtain⟨k,hk,k1,k2⟩:∃ k:Nat,d.turn=(k:Int)∧1≤k∧k≤8:=by
  obtain h1:=IH (d.t.fdiv 361) (b:=8) (by decide)
  obtain h2:=J8 (d.t.fdiv 361) (b:=8) (by decide)
  obtain⟨m,e⟩:=Mh h1
  rw[e]at h2
  refine⟨m+1,?_,Io _,N6.mp h2⟩
  unfold aK.turn
  rw[e,Int.add_comm];rfl
 obtain ht:d.turned=S (d.P.list.drop k++d.P.list.take k):=by
  unfold aK.turned
  rw[pt,hk,fT (by omega),iN (by omega),cO]
 have hs:∀ c∈d.P.list.drop k++d.P.list.take k,lT c:=fun c hc=>by
  rcases H9.mp hc with hc | hc
  ·exact Fm.signs okP c (Je hc)
  ·exact Fm.signs okP c (Jz hc)
 obtain⟨u0,a0,b0⟩:=oF (t:=d.P.list.drop k++d.P.list.take k) (d.f.fdiv 1152) (by rw[He,HU,←He,J6];exact hp) hs
 refine⟨u0,u1,u2,?_,?_,?_,⟨_,b0,?_⟩,b1,b2⟩
 ·unfold aK.w0;rw[ht];exact a0
 ·unfold aK.w1;rw[pt];exact a1
 ·unfold aK.w2;rw[qt];exact a2
 ·rw[sO (x9 hs)]
  obtain⟨o,l,r,e⟩:=(gI d.f (ls:=E3) (by decide)).1
  have eP:d.P=.node o l r:=e
  rw[eP]at okP hp ⊢
  exact rm okP k1 (by omega)
theorem yG{f:Fm}(h:f.ok): dI (S f.list)=true:=by
 rw[sO (x9 (Fm.signs h)),(Fm.balabv h).1.zero]
 rfl
end
section
theorem xc:nP=S [112]:=by decide +kernel
theorem A9:nQ=S [113]:=by decide +kernel
theorem wl{d:aK}{u0 u1 u2:List Nat}(h:BR d u0 u1 u2): ∃ q0 q1 q2,d.d0=S (jO q0 u0)∧d.d1=S (jO q1 u1)∧d.d2=S (jO q2 u2)∧
  d.textS=S (80::32::(jO q0 u0++10::(112::32::(jO q1 u1++32::(113::32::(jO q2 u2++32::(80::32::[40,88,42,89,41]))))))):=by
 have e0:d.d0=S (jO ((d.f.fdiv 34560).fmod 3) u0):=by unfold aK.d0;rw[h.e0,oY]
 have e1:d.d1=S (jO ((d.f.fdiv 34560).fmod 3) u1):=by unfold aK.d1;rw[h.e1,oY]
 have e2:d.d2=S (jO ((d.c.fdiv 116640).fmod 3) u2):=by unfold aK.d2;rw[h.e2,oY]
 refine⟨_,_,_,e0,e1,e2,?_⟩
 unfold aK.textS
 obtain t1:H5 "P " = S [80,32]:=by decide +kernel
 obtain t2:H5 "\np " = S [10,112,32]:=by decide +kernel
 obtain t3:H5 " q " = S [32,113,32]:=by decide +kernel
 obtain t4:H5 " P (X*Y)" = S [32,80,32,40,88,42,89,41]:=by decide +kernel
 rw[e0,e1,e2,t1,t2,t3,t4]
 simp only[cO]
 simp
theorem An:an [40,88,42,89,41] 2=⟨S [40,88,42,89,41],[],2,false⟩:=by kernel_rfl
theorem c6{l:List Nat}(h:l.length≤5592405): mK (S l):=fit_lower (by rw[bW];exact h)
theorem iT{l:List Nat}(h:∀ c∈l,32≤c∧c≠127): Prn (S l):=fun c hc=>by rw[fu]at hc;exact h c hc
theorem rQ:Hd (S [112])=S [112]:=by rw[g0 (by decide)];rfl
theorem v7:Hd (S [113])=S [113]:=by rw[g0 (by decide)];rfl
theorem Cy:Hd (S [80])=S [112]:=by rw[g0 (by decide)];rfl
theorem EI:Hd (S [81])=S [113]:=by rw[g0 (by decide)];rfl
theorem dx.start{items items':List (Str×Str)}{l r r':List Nat}{ln n n':Int}{t:Str}{b:Bool}(h:an l ln=⟨t,r,n,b⟩)(k:dx items t r n items' r' n'): dx items (an l ln).tok (an l ln).rest (an l ln).ln items' r' n':=by
 rw[h];exact k
theorem xl{t u:List Nat}(m:Mk t u){q ln:Int}{sep c:Nat}{more:List Nat}(hc:c=112∨c=113∨c=80)(hs:g6 sep=true):
  an (an (jO q u++sep::c::32::more) ln).rest (an (jO q u++sep::c::32::more) ln).ln=⟨S [c],more,ar (sep::c::32::more) ln,true⟩:=
 (oJ m.wd m.ne q hs).2.2.trans ((tM hc (by decide +kernel)).trans (congrArg (fun z=>(⟨S [c],more,z,true⟩:E8)) (jZ (by decide))))
theorem yu{t u:List Nat}(m:Mk t u){q:Int}{sep c:Nat}{more:List Nat}(h:more.length≤9000): (jO q u++sep::c::32::more).length≤10000:=by
 have l:=i7 q u
 have z:=m.len
 rw[He,Hh,Hh,Hh]
 omega
theorem ul{t u:List Nat}(m:Mk t u){q ln:Int}{sep c:Nat}{more:List Nat}(h:more.length≤9000)(hs:g6 sep=true): (an (jO q u++sep::c::32::more) ln).rest.length≤10000:=
 H6 (oJ m.wd m.ne q hs).2.1 (H6 (HN h 3) (by decide))
theorem Cj(c:Nat): (S [c] != H5 "")=true:=by rw[tw];simp[bne,uv]
theorem n7{t u more r':List Nat}{items items':List (Str×Str)}{x c sep:Nat}{q ln n':Int}(m:Mk t u)(ok:dI (S t)=true)(hx:Hd (S [x])=S [x])(px:Prn (S [x]))(hc:c=112∨c=113∨c=80)(hs:g6 sep=true)(hm:more.length≤9000)(hi:items.length≤1000)(hf:∀ p∈items,mK p.1)
  (k:dx (cX items (S [x]) (S u)).2 (S [c]) more (ar (sep::c::32::more) ln) items' r' n'):dx items (S [x]) (jO q u++sep::c::32::more) ln items' r' n':=by
 have h1:=(oJ (sep:=sep) (rest:=c::32::more) (ln:=ln) m.wd m.ne q hs).1
 refine .keep (Cj x) (yu m hm) (ul m hm hs) ?_ ?_ hi hf (c6 (H6 (Hw 1) (by decide))) (hx.symm▸px) px ?_ (.start (xl m hc hs) ?_)
 all_goals rw[h1]
 ·exact(bW u).symm▸H6 m.len (by decide)
 ·exact m.strip.symm▸ok
 ·exact m.Prn
 ·exact k
theorem uQ{t u more r':List Nat}{items items':List (Str×Str)}{x c sep:Nat}{q ln n':Int}(m:Mk t u)(ok:dI (S t)=false)(hc:c=112∨c=113∨c=80)(hs:g6 sep=true)(hm:more.length≤9000)
  (k:dx items (S [c]) more (ar (sep::c::32::more) ln) items' r' n'):dx items (S [x]) (jO q u++sep::c::32::more) ln items' r' n':=by
 have h1:=(oJ (sep:=sep) (rest:=c::32::more) (ln:=ln) m.wd m.ne q hs).1
 refine .skip (Cj x) (yu m hm) (ul m hm hs) ?_ ?_ (.start (xl m hc hs) k)
 all_goals rw[h1]
 ·exact(bW u).symm▸H6 m.len (by decide)
 ·exact m.strip.symm▸ok
theorem uR(a b:List Nat): dx [(S [112],S a),(S [113],S b)] (S [80]) [40,88,42,89,41] 2 [(S [112],S a),(S [113],S b)] [] 2:=by
 have i3:(cX [(S [112],S a),(S [113],S b)] (S [80]) (S [40,88,42,89,41])).2=[(S [112],S a),(S [113],S b)]:=by
  unfold cX aZ
  skip
  rfl
 refine .keep (Cj 80) (by decide) ?_ ?_ ?_ (H6 (Hw 2) (by decide)) (fun p hp=>?_) (c6 (by decide)) (Cy.symm▸iT (by decide)) (iT (by decide)) ?_ ?_
 case refine_4=>rcases bN hp with rfl | rfl <;> exact c6 (by decide)
 all_goals rw[An]
 ·decide
 ·rw[bW];decide
 ·decide +kernel
 ·exact iT (by decide)
 ·rw[i3];exact .done
theorem zY(d:aK): dx [] (an d.textS.cps.toList 1).tok (an d.textS.cps.toList 1).rest (an d.textS.cps.toList 1).ln (cn d) [] 2:=by
 obtain⟨u0,u1,u2,W⟩:=d.words
 obtain⟨q0,q1,q2,e0,e1,e2,et⟩:=wl W
 obtain⟨t0,m0,c0⟩:=W.m0
 have m1:=W.m1
 have m2:=W.m2
 have s32:g6 32=true:=by decide +kernel
 have s10:g6 10=true:=by decide +kernel
 have book:cn d=[(S [112],S u1),(S [113],S u2)]:=by unfold cn;rw[xc,A9,W.e1,W.e2]
 have l2:(jO q2 u2++32::(80::32::[40,88,42,89,41])).length≤100:=by
  have l:=i7 q2 u2
  have z:=m2.len
  rw[He]
  exact H6 (HN (H6 l (HN (HG 2 z) 2)) _) (by decide)
 have l1:(jO q1 u1++32::(113::32::(jO q2 u2++32::(80::32::[40,88,42,89,41])))).length≤9000:=by
  have l:=i7 q1 u1
  have z:=m1.len
  rw[He,Hh,Hh,Hh]
  omega
 rw[et,fu,book]
 refine .start ((tM (.inr (.inr rfl)) s32).trans (congrArg (fun z=>(⟨S [80],_,z,true⟩:E8)) (jZ (by decide)))) (uQ m0 c0 (.inl rfl) s10 l1 ?_)
 skip
 refine n7 m1 (yG (d.P_ok.ok fun c h=>h.to.to)) rQ (iT (by decide)) (.inr (.inl rfl)) s32 (H6 l2 (by decide)) (HT _) (fun p hp=>nomatch hp) ?_
 skip
 refine n7 m2 (yG (d.Q_ok.ok fun c h=>h.to)) v7 (iT (by decide)) (.inr (.inr rfl)) s32 (by decide) (H6 (Hw 1) (by decide)) (fun p hp=>?_) ?_
 ·rw[H7.mp hp];exact c6 (by decide)
 have i2:(cX [(S [112],S u1)] (S [113]) (S u2)).2=[(S [112],S u1),(S [113],S u2)]:=by
  unfold cX aZ
  rw[rQ,v7,bt]
  rfl
 rw[jZ (by decide)]
 exact(congrArg (fun z=>dx z (S [80]) [40,88,42,89,41] 2 _ [] 2) i2).mpr (uR u1 u2)
theorem Aq(d:aK): d.d0.length≤1000∧d.d1.length≤1000∧d.d2.length≤1000:=by
 obtain⟨u0,u1,u2,W⟩:=d.words
 obtain⟨q0,q1,q2,e0,e1,e2,_⟩:=wl W
 obtain l0:=i7 q0 u0
 obtain l1:=i7 q1 u1
 obtain l2:=i7 q2 u2
 obtain⟨t0,m0,c0⟩:=W.m0
 obtain z0:=m0.len
 obtain z1:=W.m1.len
 obtain z2:=W.m2.len
 rw[e0,e1,e2,bW,bW,bW]
 omega
end
section
inductive X where
 |leaf(c:Nat)
 |link(t:X)
 |node(o:Nat)(l r:X)
noncomputable def Fm.ex(e:Nat→X): Fm→X
 | .leaf c=>e c
 | .node o l r=>.node o (l.ex e) (r.ex e)
noncomputable def Av(c:Nat): Bool:=c==112||c==80
noncomputable def Gj(c:Nat): Bool:=c==113||c==81
noncomputable def eV(c:Nat): Bool:=c==120||c==88
noncomputable def E0(c:Nat): X:=.leaf c
noncomputable def E1(P:Fm)(c:Nat): X:=if Av c then .link (P.ex E0)else .leaf c
noncomputable def E2(P Q:Fm)(c:Nat): X:=if Gj c then .link (Q.ex (E1 P))else E1 P c
theorem Fm.ex_congr{q:Nat→Prop}{e e':Nat→X}(h:∀ c,q c→e c=e' c): ∀{f:Fm},f.oks q→f.ex e=f.ex e'
 | .leaf c,a=>h c a
 | .node o l r,⟨_,b,c⟩=>by
  show X.node o _ _=X.node o _ _
  rw[Fm.ex_congr h b,Fm.ex_congr h c]
noncomputable def Bp(o:Nat)(i j:Int): Int:=if o=43 then i+j else if o=45 then i - j else i*j
noncomputable def X.val(a b:Int): X→Int
 | .leaf c=>if eV c then a else b
 | .link t=>t.val a b
 | .node o l r=>Bp o (l.val a b) (r.val a b)
noncomputable def X.sz:X→Nat
 | .leaf _=>1
 | .link t=>1+t.sz
 | .node _ l r=>1+l.sz+r.sz
noncomputable def X.lv:X→Nat
 | .leaf _=>1
 | .link t=>t.lv
 | .node _ l r=>l.lv+r.lv
noncomputable def X.der(k:Bool)(a b:Int): X→Int
 | .leaf c=>if eV c=k then 1 else 0
 | .link t=>t.der k a b
 | .node o l r=>if o=43 then l.der k a b+r.der k a b else if o=45 then l.der k a b - r.der k a b else l.der k a b*r.val a b+l.val a b*r.der k a b
noncomputable def wL(a b:Int)(o:Nat)(w:Int)(r:X): Int:=if o=43 then w else if o=45 then w else w*r.val a b
noncomputable def wR(a b:Int)(o:Nat)(w:Int)(l:X): Int:=if o=43 then w else if o=45 then -w else w*l.val a b
noncomputable def X.lw(a b:Int): X→Int→Nat→List (Nat×Nat×Int)
 | .leaf c,w,d=>[(d,c,w)]
 | .link t,w,d=>t.lw a b w (d+1)
 | .node o l r,w,d=>l.lw a b (wL a b o w r) (d+1)++r.lw a b (wR a b o w l) (d+1)
noncomputable def kM(k:Bool)(l:List (Nat×Nat×Int)): Int:=(l.map fun x=>if eV x.2.1=k then x.2.2 else 0).sum
theorem wr(k:Bool)(l m:List (Nat×Nat×Int)): kM k (l++m)=kM k l+kM k m:=by simp[kM]
theorem lI(k:Bool)(a b:Int): ∀(t:X) (w:Int) (d:Nat),kM k (t.lw a b w d)=w*t.der k a b
 | .leaf c,w,d=>by
  simp only[X.lw,kM,X.der,HF,N2,List.sum_cons,List.sum_nil]
  split <;> simp
 | .link t,w,d=>lI k a b t w (d+1)
 | .node o l r,w,d=>by
  show kM k (_++_)=_
  rw[wr,lI k a b l,lI k a b r]
  simp only[X.der,wL,wR]
  split
  ·grind
  ·split <;> grind
theorem jF(a b:Int): ∀(t:X) (w:Int) (d:Nat),(t.lw a b w d).length=t.lv
 | .leaf c,w,d=>rfl
 | .link t,w,d=>jF a b t w (d+1)
 | .node o l r,w,d=>by
  simp only[X.lw,X.lv]
  rw[He,jF a b l,jF a b r]
theorem X.lv_pos:∀ t:X,1≤t.lv
 | .leaf _=>Hw 1
 | .link t=>t.lv_pos
 | .node _ l r=>by have:=l.lv_pos;show 1≤l.lv+r.lv;omega
theorem X.sz_pos:∀ t:X,1≤t.sz
 | .leaf _=>Hw 1
 | .link t=>by show 1≤1+t.sz;omega
 | .node _ l r=>by show 1≤1+l.sz+r.sz;omega
theorem rj{A B:Nat}(ha:2≤A)(hb:2≤B): A+B≤A*B:=by
 rcases Nat.le_total A B with h | h
 ·exact H6 (HN h B) (Nat.two_mul B▸Nat.mul_le_mul_right B ha)
 ·exact H6 (Ic h A) (Nat.mul_two A▸HG A hb)
theorem wT{M n:Nat}(hM:2≤M)(hn:1≤n): 2≤M ^ n:=by
 obtain this:=IR (show 0<M by omega) hn
 rw[Nat.pow_one]at this;omega
theorem fP{M:Nat}(hM:2≤M){a b:Int}(ha:a.natAbs≤M)(hb:b.natAbs≤M): ∀ t:X,(t.val a b).natAbs≤M ^ t.lv
 | .leaf c=>by
  simp only[X.val,X.lv,Nat.pow_one]
  split <;> assumption
 | .link t=>fP hM ha hb t
 | .node o l r=>by
  have h1:=fP hM ha hb l
  have h2:=fP hM ha hb r
  have h3:=rj (wT hM l.lv_pos) (wT hM r.lv_pos)
  simp only[X.val,X.lv,Bp,Nat.pow_add]
  split
  ·exact H6 (K8 _ _) (H6 (Ir h1 h2) h3)
  ·split
   ·exact H6 (Int.natAbs_sub_le _ _) (H6 (Ir h1 h2) h3)
   ·rw[KQ];exact JF h1 h2
theorem oZ{k:Bool}{a b:Int}(ha:a.natAbs≤9)(hb:b.natAbs≤9): ∀ t:X,9*(t.der k a b).natAbs≤t.lv*9 ^ t.lv
 | .leaf c=>by
  simp only[X.der,X.lv]
  split <;> decide
 | .link t=>oZ ha hb t
 | .node o l r=>by
  have h1:=oZ (k:=k) ha hb l
  have h2:=oZ (k:=k) ha hb r
  have v1:=fP (by decide) ha hb l
  have v2:=fP (by decide) ha hb r
  have p1:1≤9 ^ l.lv:=LQ (by decide)
  have p2:1≤9 ^ r.lv:=LQ (by decide)
  have s1:l.lv*9 ^ l.lv≤l.lv*(9 ^ l.lv*9 ^ r.lv):=HG _ (KF _ p2)
  have s2:r.lv*9 ^ r.lv≤r.lv*(9 ^ l.lv*9 ^ r.lv):=HG _ (Mx _ p1)
  simp only[X.der,X.lv,Nat.pow_add,Nat.add_mul]
  split
  ·exact H6 (HG 9 (K8 _ _)) (by rw[KG];exact Ir (H6 h1 s1) (H6 h2 s2))
  ·split
   ·exact H6 (HG 9 (Int.natAbs_sub_le _ _)) (by rw[KG];exact Ir (H6 h1 s1) (H6 h2 s2))
   ·have t0:=K8 (l.der k a b*r.val a b) (l.val a b*r.der k a b)
    rw[KQ,KQ]at t0
    have t1:9*(l.der k a b).natAbs*(r.val a b).natAbs≤l.lv*9 ^ l.lv*9 ^ r.lv:=JF h1 v2
    have t2:(l.val a b).natAbs*(9*(r.der k a b).natAbs)≤9 ^ l.lv*(r.lv*9 ^ r.lv):=JF v1 h2
    rw[L5,L5]at t1
    rw[LR,LR (9 ^ l.lv)]at t2
    exact H6 (HG 9 t0) (by rw[KG];exact Ir t1 t2)
theorem iM(a b h:Int): ∀ t:X,∃ R,t.val (a+h) b=t.val a b+h*t.der true a b+h*h*R
 | .leaf c=>by
  simp only[X.val,X.der]
  split
  ·rename_i hc;exact⟨0,by simp[hc]⟩
  ·rename_i hc;exact⟨0,by simp[hc]⟩
 | .link t=>iM a b h t
 | .node o l r=>by
  obtain⟨R1,e1⟩:=iM a b h l
  obtain⟨R2,e2⟩:=iM a b h r
  simp only[X.val,X.der,Bp,e1,e2]
  split
  ·exact⟨R1+R2,by grind⟩
  ·split
   ·exact⟨R1 - R2,by grind⟩
   ·exact⟨l.val a b*R2+l.der true a b*r.der true a b+R1*r.val a b+h*(l.der true a b*R2+R1*r.der true a b)+h*h*R1*R2,by grind⟩
theorem iL(a b h:Int): ∀ t:X,∃ R,t.val a (b+h)=t.val a b+h*t.der false a b+h*h*R
 | .leaf c=>by
  simp only[X.val,X.der]
  split
  ·rename_i hc;exact⟨0,by simp[hc]⟩
  ·rename_i hc;exact⟨0,by simp[hc]⟩
 | .link t=>iL a b h t
 | .node o l r=>by
  obtain⟨R1,e1⟩:=iL a b h l
  obtain⟨R2,e2⟩:=iL a b h r
  simp only[X.val,X.der,Bp,e1,e2]
  split
  ·exact⟨R1+R2,by grind⟩
  ·split
   ·exact⟨R1 - R2,by grind⟩
   ·exact⟨l.val a b*R2+l.der false a b*r.der false a b+R1*r.val a b+h*(l.der false a b*R2+R1*r.der false a b)+h*h*R1*R2,by grind⟩
theorem pV{m w0 D R:Int}(e:m=w0+bg*D+bg*bg*R)(hD:D.natAbs<10 ^ 29): on m w0=D:=by
 unfold on
 obtain e1:m - w0=bg*(D+bg*R):=by subst e;grind
 obtain hf:bg≠0:=by decide
 rw[e1,Int.mul_fdiv_cancel_left _ hf]
 obtain e2:D+bg*R+bg.fdiv 2=(D+bg.fdiv 2)+bg*R:=by omega
 rw[e2,Int.add_mul_fmod_self_left]
 obtain h2:bg.fdiv 2=5*10 ^ 29:=by decide
 have h3:bg=10 ^ 30:=rfl
 rw[h2,h3,Int.fmod_eq_of_lt (by omega) (by omega)]
 omega
end
section
theorem Cb{o:Nat}(h:dH o)(i j:Int): nc (S [o]) i j=Bp o i j:=by
 obtain e1:H5 "+" = S [43]:=by decide +kernel
 obtain e2:H5 "-" = S [45]:=by decide +kernel
 unfold nc Bp
 rw[e1,e2,bt,bt]
 simp only[decide_eq_true_eq]
theorem mU{kn:List (Str×Int)}{q:Nat→Prop}{e:Nat→X}{a b:Int}(h:∀ c,q c→(kn.lookup (Hd (S [c]))).getD 0=(e c).val a b): ∀{f:Fm},f.oks q→f.toT.val kn=(f.ex e).val a b
 | .leaf c,hq=>h c hq
 | .node o l r,⟨ho,hl,hr⟩=>by
  show nc (S [o]) (l.toT.val kn) (r.toT.val kn)=Bp o _ _
  rw[Cb ho,mU h hl,mU h hr]
theorem Ck:nX=S [120]:=by decide +kernel
theorem EF:nY=S [121]:=by decide +kernel
theorem ql{c:Nat}(h:c<128): Hd (S [c])=S [lo1 c]:=by
 rw[g0 (by intro d hd;rw[H7]at hd;omega)];rfl
theorem gC{c d:Nat}{v:Int}{r:List (Str×Int)}: KE (S [c]) ((S [d],v)::r)=if c=d then some v else KE (S [c]) r:=by
 rw[HA,bt]
 by_cases h:c=d
 ·simp[h]
 ·simp[h]
theorem qq{a b:Int}{c:Nat}(h:bT c): (CI a b).lookup (Hd (S [c]))=some ((E0 c).val a b):=by
 unfold CI
 rw[Ck,EF,ql (by unfold bT at h;omega),gC,gC]
 rcases h with rfl | rfl | rfl | rfl <;> rfl
theorem oe{P:Fm}(hP:P.oks bT)(a b:Int): wP P.toT a b=(P.ex E0).val a b:=
 mU (fun c hc=>by rw[qq hc];rfl) hP
theorem qp{P:Fm}(hP:P.oks bT){a b:Int}{c:Nat}(h:gE c): (ET P.toT a b).lookup (Hd (S [c]))=some ((E1 P c).val a b):=by
 obtain ew:P.toT.val (CI a b)=(P.ex E0).val a b:=oe hP a b
 unfold ET
 rw[ew,Ck,EF,xc,ql (by unfold gE at h;omega),gC,gC,gC]
 rcases h with rfl | rfl | rfl | rfl | rfl | rfl <;> rfl
theorem rg{P Q:Fm}(hP:P.oks bT)(hQ:Q.oks gE)(a b:Int): wQ P.toT Q.toT a b=(Q.ex (E1 P)).val a b:=
 mU (fun c hc=>by rw[qp hP hc];rfl) hQ
noncomputable def lf(g:Nat)(x:Nat×Nat×Int): Int×Str×Str:=((x.1:Int),S [g],S [x.2.1])
theorem BB(c:Nat): vY (S [c])=Av c:=by
 unfold vY Av
 obtain this:H5 "pP" = S [112,80]:=by decide +kernel
 rw[this,hV]
 by_cases h1:c=112 <;> by_cases h2:c=80 <;> simp[h1,h2]
theorem bT.not_p{c:Nat}(h:bT c): Av c=false:=by
 rcases h with rfl | rfl | rfl | rfl <;> rfl
theorem iA{P:Fm}(a b:Int)(g:Nat): ∀(f:Fm) (w:Int) (d:Nat),T.leaves0 (S [g]) f.toT (d:Int)=((f.ex E0).lw a b w d).map (lf g)
 | .leaf c,w,d=>rfl
 | .node o l r,w,d=>by
  show T.leaves0 (S [g]) l.toT ((d:Int)+1)++T.leaves0 (S [g]) r.toT ((d:Int)+1)=_
  have h1:=iA (P:=P) a b g l (wL a b o w (r.ex E0)) (d+1)
  have h2:=iA (P:=P) a b g r (wR a b o w (l.ex E0)) (d+1)
  rw[Int.natCast_add]at h1 h2
  rw[show((d:Int)+1)=(d:Int)+((1:Nat):Int)from rfl,h1,h2]
  simp only[Fm.ex,X.lw,HW]
theorem hU{P:Fm}(a b:Int)(g:Nat): ∀(f:Fm) (w:Int) (d:Nat),T.leaves P.toT (S [g]) f.toT (d:Int)=((f.ex (E1 P)).lw a b w d).map (lf g)
 | .leaf c,w,d=>by
  show(if vY (S [c])=true then T.leaves0 (S [g]) P.toT ((d:Int)+1)else[((d:Int),S [g],S [c])])=_
  rw[BB]
  show _=((E1 P c).lw a b w d).map (lf g)
  unfold E1
  split
  ·exact iA (P:=P) a b g P w (d+1)
  ·rfl
 | .node o l r,w,d=>by
  show T.leaves P.toT (S [g]) l.toT ((d:Int)+1)++T.leaves P.toT (S [g]) r.toT ((d:Int)+1)=_
  have h1:=hU (P:=P) a b g l (wL a b o w (r.ex (E1 P))) (d+1)
  have h2:=hU (P:=P) a b g r (wR a b o w (l.ex (E1 P))) (d+1)
  rw[Int.natCast_add]at h1 h2
  rw[show((d:Int)+1)=(d:Int)+((1:Nat):Int)from rfl,h1,h2]
  simp only[Fm.ex,X.lw,HW]
theorem AL{P f:Fm}(hP:f.oks bT): f.ex (E1 P)=f.ex E0:=Fm.ex_congr (fun c hc=>by unfold E1;rw[hc.not_p];rfl) hP
noncomputable def vX(P Q:Fm)(x y:Int): List (Nat×Nat×Nat×Int):=((P.ex E0).lw x y 1 1).map (fun z=>(112,z))++((Q.ex (E1 P)).lw x y 1 1).map (fun z=>(113,z))
theorem iz{P Q:Fm}(hP:P.oks bT)(x y:Int): cv P.toT Q.toT=(vX P Q x y).map fun z=>lf z.1 z.2:=by
 unfold cv vX
 obtain h1:=hU (P:=P) x y 112 P 1 1
 obtain h2:=hU (P:=P) x y 113 Q 1 1
 rw[AL hP]at h1
 rw[xc,A9,show(1:Int)=((1:Nat):Int)from rfl,h1,h2,HW,JR,JR]
 rfl
theorem oR:∀{f:Fm},f.oks bT→f.toT.free
 | .leaf c,h=>by show vY (S [c])=false;rw[BB];exact h.not_p
 | .node o l r,⟨_,b,c⟩=>⟨oR b,oR c⟩
noncomputable def Fm.lvn:Fm→Nat
 | .leaf _=>1
 | .node _ l r=>l.lvn+r.lvn
theorem Fm.lvn_len:∀ f:Fm,f.list.length+3=4*f.lvn
 | .leaf c=>rfl
 | .node o l r=>by
  have h1:=Fm.lvn_len l
  have h2:=Fm.lvn_len r
  simp only[Fm.list,Fm.lvn,Hh,He,Ij]
  omega
theorem FL:∀ f:Fm,(f.ex E0).lv=f.lvn
 | .leaf c=>rfl
 | .node o l r=>by show(l.ex E0).lv+(r.ex E0).lv=_;rw[FL l,FL r];rfl
theorem Gh{P:Fm}(hP:P.lvn=3): ∀ f:Fm,f.lvn≤(f.ex (E1 P)).lv∧(f.ex (E1 P)).lv≤3*f.lvn
 | .leaf c=>by
  show 1≤(E1 P c).lv∧(E1 P c).lv≤3
  unfold E1
  split
  ·show 1≤(P.ex E0).lv∧(P.ex E0).lv≤3
   rw[FL,hP];decide
  ·exact⟨Hw 1,show 1≤3 by decide⟩
 | .node o l r=>by
  have h1:=Gh hP l
  have h2:=Gh hP r
  show l.lvn+r.lvn≤(l.ex (E1 P)).lv+(r.ex (E1 P)).lv∧(l.ex (E1 P)).lv+(r.ex (E1 P)).lv≤3*(l.lvn+r.lvn)
  exact⟨Ir h1.1 h2.1,KG ..▸Ir h1.2 h2.2⟩
theorem oE{i j:Int}(hi:i.natAbs<2 ^ 1000)(hj:j.natAbs<2 ^ 1000): JU i j:=by
 obtain hb:∀{n:Int},n.natAbs<2 ^ 1000→IJ n≤2 ^ 20:=fun{n} h=>by
  unfold IJ
  split
  ·omega
  ·rename_i hz
   obtain this:n.natAbs≠0:=by simpa using hz
   obtain this:=(Nat.log2_lt this).mpr h
   omega
 exact JU.of_bits (hb hi) (hb hj)
theorem oj{kn:List (Str×Int)}{q:Nat→Prop}{e:Nat→X}{a b:Int}(h:∀ c,q c→kn.lookup (Hd (S [c]))=some ((e c).val a b)){M:Nat}(hM:2≤M)(ha:a.natAbs≤M)(hb:b.natAbs≤M)(h104:M≤2 ^ 104): ∀{f:Fm},f.oks q→(f.ex e).lv≤9→f.toT.fits kn
 | .leaf c,hq,_=>⟨by rw[h c hq];rfl,c6 (l:=[c]) (by simp)⟩
 | .node o l r,⟨ho,hl,hr⟩,hv=>by
  have hv:(l.ex e).lv+(r.ex e).lv≤9:=hv
  refine⟨oj h hM ha hb h104 hl (by omega),oj h hM ha hb h104 hr (by omega),?_⟩
  rw[mU (e:=e) (a:=a) (b:=b) (fun c hc=>by rw[h c hc];rfl) hl,mU (e:=e) (a:=a) (b:=b) (fun c hc=>by rw[h c hc];rfl) hr]
  have big:∀ t:X,t.lv≤9→(t.val a b).natAbs<2 ^ 1000:=fun t ht=>by
   have h1:=fP hM ha hb t
   have h2:M ^ t.lv≤M ^ 9:=IR (by omega) ht
   have h3:M ^ 9≤(2 ^ 104) ^ 9:=Nat.pow_le_pow_left h104 9
   have h4:((2:Nat) ^ 104) ^ 9<2 ^ 1000:=by decide +kernel
   omega
  exact oE (big _ (by omega)) (big _ (by omega))
end
section
structure PQ(P Q:Fm)(x y:Int): Prop where
 hP:P.oks bT
 hQ:Q.oks gE
 nP:P.lvn=3
 nQ:Q.lvn=3
 hx:x.natAbs≤9
 hy:y.natAbs≤9
section
variable{P Q:Fm}{x y:Int}
theorem PQ.lvP(h:PQ P Q x y): (P.ex E0).lv=3:=by rw[FL,h.nP]
theorem PQ.lvQ(h:PQ P Q x y): 3≤(Q.ex (E1 P)).lv∧(Q.ex (E1 P)).lv≤9:=by
 obtain this:=Gh h.nP Q
 obtain this:=h.nQ
 omega
theorem dC(hx:x.natAbs≤9)(hy:y.natAbs≤9){t:X}(h:t.lv≤9): (t.val x y).natAbs≤9 ^ 9:=by
 obtain h1:=fP (M:=9) (by decide) hx hy t
 obtain h2:9 ^ t.lv≤9 ^ 9:=IR (by decide) h
 omega
theorem mV(hx:x.natAbs≤9)(hy:y.natAbs≤9){k:Bool}{t:X}(h:t.lv≤9): (t.der k x y).natAbs≤9 ^ 9:=by
 obtain h1:=oZ (k:=k) hx hy t
 obtain h2:9 ^ t.lv≤9 ^ 9:=IR (by decide) h
 obtain h3:=JF h h2
 omega
noncomputable def gX(P Q:Fm)(g:Nat): X:=if g=112 then P.ex E0 else Q.ex (E1 P)
theorem rh(h:PQ P Q x y){g:Nat}(hg:g=112∨g=113)(a b:Int): wG P.toT Q.toT a b (S [g])=(gX P Q g).val a b:=by
 unfold wG gX
 skip
 rcases hg with rfl | rfl
 ·exact oe h.hP a b
 ·exact rg h.hP h.hQ a b
theorem BK(h:PQ P Q x y)(g:Nat): (gX P Q g).lv≤9:=by
 unfold gX
 split
 ·rw[h.lvP];decide
 ·exact h.lvQ.2
theorem mY(h:PQ P Q x y){g c d:Nat}{w:Int}(hg:g=112∨g=113)(hc:bT c): ci P.toT Q.toT x y (lf g (d,c,w))=(gX P Q g).der (eV c) x y:=by
 skip
 obtain e:Internal.inS (S [c]) (H5 "xX")=eV c:=by
  obtain this:H5 "xX" = S [120,88]:=by decide +kernel
  rw[this,hV]
  rcases hc with rfl | rfl | rfl | rfl <;> decide
 show on (if Internal.inS (S [c]) (H5 "xX")=true then wG P.toT Q.toT (x+bg) y (S [g])else wG P.toT Q.toT x (y+bg) (S [g])) (wG P.toT Q.toT x y (S [g]))=_
 rw[e,rh h hg,rh h hg,rh h hg]
 obtain hb:∀ k,((gX P Q g).der k x y).natAbs<10 ^ 29:=fun k=>by
  obtain this:=mV h.hx h.hy (k:=k) (BK h g)
  obtain h9:(9:Nat) ^ 9<10 ^ 29:=by decide
  omega
 cases hk:eV c with
 |true=>
  skip
  obtain⟨R,eR⟩:=iM x y bg (gX P Q g)
  exact pV eR (hb true)
 |false=>
  skip
  obtain⟨R,eR⟩:=iL x y bg (gX P Q g)
  exact pV eR (hb false)
noncomputable def DE:X→Prop
 | .leaf c=>bT c
 | .link t=>DE t
 | .node o l r=>dH o∧DE l∧DE r
theorem w8:∀{f:Fm},f.oks bT→DE (f.ex E0)
 | .leaf c,h=>h
 | .node o l r,⟨a,b,c⟩=>⟨a,w8 b,w8 c⟩
theorem zz{P:Fm}(hP:P.oks bT): ∀{f:Fm},f.oks gE→DE (f.ex (E1 P))
 | .leaf c,h=>by
  show DE (E1 P c)
  unfold E1
  split
  ·exact w8 hP
  ·rename_i hn
   show bT c
   skip
   unfold bT
   rcases h with rfl | rfl | rfl | rfl | rfl | rfl <;> first | omega | exact absurd rfl hn
 | .node o l r,⟨a,b,c⟩=>⟨a,zz hP b,zz hP c⟩
theorem lH{a b:Int}: ∀{t:X},DE t→∀(w:Int) (d:Nat),∀ z∈t.lw a b w d,bT z.2.1
 | .leaf c,h,w,d,z,hz=>by
  rw[X.lw,H7]at hz
  subst hz;exact h
 | .link t,h,w,d,z,hz=>lH (t:=t) h w (d+1) z hz
 | .node o l r,⟨_,h1,h2⟩,w,d,z,hz=>by
  rcases H9.mp hz with hz | hz
  ·exact lH h1 _ _ z hz
  ·exact lH h2 _ _ z hz
theorem tL(h:PQ P Q x y): ∀ z∈vX P Q x y,(z.1=112∨z.1=113)∧bT z.2.2.1:=fun z hz=>by
 skip
 rcases H9.mp hz with hz | hz
 ·obtain⟨u,hu,rfl⟩:=Hm.mp hz
  exact⟨.inl rfl,lH (w8 h.hP) _ _ u hu⟩
 ·obtain⟨u,hu,rfl⟩:=Hm.mp hz
  exact⟨.inr rfl,lH (zz h.hP h.hQ) _ _ u hu⟩
theorem Dh(h:PQ P Q x y): ux P.toT Q.toT x y:=by
 obtain hl:(cv P.toT Q.toT).length=(P.ex E0).lv+(Q.ex (E1 P)).lv:=by
  rw[iz h.hP x y]
  unfold vX
  rw[Hl,He,Hl,Hl,jF,jF]
 obtain l1:=h.lvP
 obtain l2:=h.lvQ
 obtain p10:(9:Nat) ^ 9<10 ^ 10:=by decide
 have fits:∀ a b:Int,a.natAbs≤10 ^ 31→b.natAbs≤10 ^ 31→po P.toT Q.toT a b:=fun a b ha hb=>
  ⟨oj (e:=E0) (M:=10 ^ 31) (fun c hc=>qq hc) (by decide) ha hb (by decide +kernel) h.hP (by omega),oj (e:=E1 P) (M:=10 ^ 31) (fun c hc=>qp h.hP hc) (by decide) ha hb (by decide +kernel) h.hQ (by omega)⟩
 have hx:=h.hx
 have hy:=h.hy
 have sm:∀ z:Int,z.natAbs≤9→z.natAbs≤10 ^ 31∧(z+bg).natAbs≤10 ^ 31:=fun z hz=>⟨H6 hz (by decide),H6 (K8 z bg) (H6 (HN hz _) (by decide +kernel))⟩
 refine⟨oR h.hP,by omega,by omega,?_,fits _ _ (sm _ hx).1 (sm _ hy).1,fits _ _ (sm _ hx).2 (sm _ hy).1,fits _ _ (sm _ hx).1 (sm _ hy).2,?_,?_⟩
 ·intro u hu
  rw[iz h.hP x y]at hu
  obtain⟨⟨g,d,c,w⟩,hz,rfl⟩:=Hm.mp hu
  obtain⟨hg,hc⟩:=tL h _ hz
  refine⟨⟨?_,c6 (l:=[c]) (by simp),?_⟩,?_⟩
  ·rcases hg with hg | hg
   ·left;show S [g]=_;rw[xc];exact congrArg (fun k=>S [k]) hg
   ·right;show S [g]=_;rw[A9];exact congrArg (fun k=>S [k]) hg
  ·show(S [c]).length≤100
   rw[bW];simp
  ·show bL (ci P.toT Q.toT x y (lf g (d,c,w)))
   rw[show ci P.toT Q.toT x y (lf g (d,c,w))=(gX P Q g).der (eV c) x y from mY h hg hc]
   obtain this:=mV h.hx h.hy (k:=eV c) (BK h g)
   exact gg (by omega)
 ·rw[oe h.hP]
  obtain this:=dC h.hx h.hy (t:=P.ex E0) (by omega)
  exact gg (by omega)
 ·rw[rg h.hP h.hQ]
  obtain this:=dC h.hx h.hy (t:=Q.ex (E1 P)) (by omega)
  exact gg (by omega)
end
theorem ED(t:Int): (t.fmod 19 - 9).natAbs≤9:=by
 obtain b1:=IH t (b:=19) (by decide)
 obtain b2:=J8 t (b:=19) (by decide)
 omega
theorem aK.pq(d:aK): PQ d.P d.Q d.x d.y:=by
 obtain l1:=Fm.lvn_len d.P
 obtain l2:=Fm.lvn_len d.Q
 rw[d.P_len]at l1
 rw[d.Q_len]at l2
 exact⟨d.P_ok,d.Q_ok,by omega,by omega,ED _,ED _⟩
end
section
noncomputable def Fm.low:Fm→Fm
 | .leaf c=>.leaf (lo1 c)
 | .node o l r=>.node o l.low r.low
theorem xj{o:Nat}(h:dH o): lo1 o=o:=by rcases h with rfl | rfl | rfl <;> rfl
theorem Ae{c:Nat}(h:dv c): dv (lo1 c):=by
 rcases h with rfl | rfl | rfl | rfl | rfl | rfl | rfl | rfl <;> (unfold dv;decide)
theorem Fm.low_list:∀{f:Fm},f.ok→f.low.list=f.list.map lo1
 | .leaf c,_=>rfl
 | .node o l r,⟨a,b,c⟩=>by
  simp only[Fm.low,Fm.list,HF,HW,N2,xj a,Fm.low_list b,Fm.low_list c]
  rfl
theorem Fm.low_ok:∀{f:Fm},f.ok→f.low.ok
 | .leaf c,h=>Ae h
 | .node o l r,⟨a,b,c⟩=>⟨a,Fm.low_ok b,Fm.low_ok c⟩
theorem Fm.inj:∀{f g:Fm} {a b:List Nat},f.ok→g.ok→f.list++a=g.list++b→f=g∧a=b
 | .leaf c,.leaf d,a,b,_,_,h=>by
  simp only[Fm.list,Hp,Iy,J1]at h
  exact⟨by rw[h.1],h.2⟩
 | .leaf c,.node o l r,a,b,hf,_,h=>by
  simp only[Fm.list,Hp,J1]at h
  exact absurd h.1 (dv.ne hf).1
 | .node o l r,.leaf c,a,b,_,hg,h=>by
  simp only[Fm.list,Hp,J1]at h
  exact absurd h.1.symm (dv.ne hg).1
 | .node o l r,.node o' l' r',a,b,⟨_,hl,hr⟩,⟨_,hl',hr'⟩,h=>by
  simp only[Fm.list,Hp,J1,Ho,true_and]at h
  obtain⟨e1,e2⟩:=Fm.inj hl hl' h
  simp only[J1]at e2
  obtain⟨e3,e4⟩:=Fm.inj hr hr' e2.2
  simp only[Iy,J1,true_and]at e4
  exact⟨by rw[e1,e2.1,e3],e4⟩
section
variable{P Q:Fm}{x y:Int}
theorem Dg(a b:Int){c:Nat}(h:dv c): (E2 P Q (lo1 c)).val a b=(E2 P Q c).val a b∧(E2 P Q (lo1 c)).sz=(E2 P Q c).sz:=by
 rcases h with rfl | rfl | rfl | rfl | rfl | rfl | rfl | rfl <;> exact⟨rfl,rfl⟩
theorem oU(a b:Int): ∀{f:Fm},f.ok→(f.low.ex (E2 P Q)).val a b=(f.ex (E2 P Q)).val a b∧(f.low.ex (E2 P Q)).sz=(f.ex (E2 P Q)).sz
 | .leaf c,h=>Dg a b h
 | .node o l r,⟨_,h1,h2⟩=>by
  obtain⟨a1,a2⟩:=oU a b h1
  obtain⟨b1,b2⟩:=oU a b h2
  simp only[Fm.low,Fm.ex,X.val,X.sz,a1,a2,b1,b2,and_self]
noncomputable abbrev vF(P Q:Fm)(x y:Int)(f:Fm): Int:=(f.ex (E2 P Q)).val x y
noncomputable abbrev sF(P Q:Fm)(f:Fm): Nat:=(f.ex (E2 P Q)).sz
theorem qk{f g:Fm}(hf:f.ok)(hg:g.ok)(h:f.list.map lo1=g.list.map lo1): vF P Q x y f=vF P Q x y g∧sF P Q f=sF P Q g:=by
 rw[←Fm.low_list hf,←Fm.low_list hg]at h
 obtain e:f.low=g.low:=(Fm.inj (a:=[]) (b:=[]) (Fm.low_ok hf) (Fm.low_ok hg) (by simpa using h)).1
 obtain⟨a1,a2⟩:=oU (P:=P) (Q:=Q) x y hf
 obtain⟨b1,b2⟩:=oU (P:=P) (Q:=Q) x y hg
 rw[e]at a1 a2
 exact⟨a1.symm.trans b1,a2.symm.trans b2⟩
theorem Fm.ascii{f:Fm}(h:f.ok): ∀ c∈f.list,c<128:=fun c hc=>by obtain this:=(Fm.signs h c hc).ne;omega
theorem Fm.lower{f:Fm}(h:f.ok): Hd (S f.list)=S (f.list.map lo1):=g0 (Fm.ascii h)
theorem oG:∀ f:Fm,f.lvn≤sF P Q f
 | .leaf c=>X.sz_pos _
 | .node o l r=>by
  have h1:=oG l
  have h2:=oG r
  show l.lvn+r.lvn≤1+sF P Q l+sF P Q r
  omega
theorem Fm.len_pos(f:Fm): 0<f.list.length:=by cases f <;> simp[Fm.list]
theorem lR{f:Fm}(h:f.ok)(hs:sF P Q f≤100): cw (S f.list):=by
 obtain h1:=Fm.lvn_len f
 obtain h2:=oG (P:=P) (Q:=Q) f
 obtain h3:=Fm.len_pos f
 refine⟨c6 (by omega),?_,?_,by rw[bW];exact h3,by rw[bW];omega⟩
 ·rw[Fm.lower h]
  refine iT fun c hc=>?_
  obtain⟨u,hu,rfl⟩:=Hm.mp hc
  obtain this:=(Fm.signs h u hu).ne
  unfold lo1
  split <;> omega
 ·exact iT fun c hc=>by obtain this:=(Fm.signs h c hc).ne;omega
theorem qC{nm:Str}: ∀{l:List (Str×Str)} {t:Str},aZ nm l=some t→∃ p∈l,Hd p.1=nm∧p.2=t
 | (k,v)::r,t,h=>by
  unfold aZ at h
  split at h
  ·rename_i hk
   cases h
   exact⟨_,.head _,KW hk,rfl⟩
  ·obtain⟨p,hp,e⟩:=qC h
   exact⟨p,.tail _ hp,e⟩
theorem AB{nm:Str}: ∀{l:List (Str×Str)},(∀ p∈l,Hd p.1≠nm)→aZ nm l=none:=by
 intro l
 induction l with
 |nil=>
  rintro _
  exact rfl
 |cons e9 r ih=>
  obtain⟨k,v⟩:=e9
  rintro h
  unfold aZ
  rw[if_neg (by rw[beq_iff_eq];exact h _ (.head _))]
  exact ih fun p hp=>h p (.tail _ hp)
theorem qB{nm:Str}: ∀{l:List (Str×Str)},aZ nm l=none→∀ p∈l,Hd p.1≠nm
 | (k,v)::r,h,p,hp=>by
  unfold aZ at h
  split at h
  ·cases h
  ·rename_i hk
   rcases Ha.mp hp with rfl | hp
   ·simpa using hk
   ·exact qB h p hp
theorem qD{nm:Str}{l m:List (Str×Str)}{t:Str}(h:aZ nm l=some t): aZ nm (l++m)=some t:=by
 induction l with
 |nil=>cases h
 |cons p r ih=>
  obtain⟨k,v⟩:=p
  rw[Hp]
  unfold aZ at h ⊢
  split
  ·rename_i hk;rw[if_pos hk]at h;exact h
  ·rename_i hk;rw[if_neg hk]at h;exact ih h
structure sY(P Q:Fm)(x y:Int)(vs:List (Str×Str)): Prop where
 all:∀ p∈vs,∃ g:Fm,g.ok∧p.1=S g.list∧sF P Q g≤100∧p.2=strI (vF P Q x y g)∧(vF P Q x y g).natAbs<10 ^ 10
 hx:∃ t,aZ (S [120]) vs=some t
 hy:∃ t,aZ (S [121]) vs=some t
theorem sY.hdr{vs:List (Str×Str)}(h:sY P Q x y vs): dz vs:=fun p hp=>by
 obtain⟨g,a,b,c,_⟩:=h.all p hp
 rw[b]
 exact(lR a c).1
theorem sY.look{vs:List (Str×Str)}(h:sY P Q x y vs){f:Fm}(hf:f.ok){t:Str}(ht:aZ (Hd (S f.list)) vs=some t): t=strI (vF P Q x y f)∧(vF P Q x y f).natAbs<10 ^ 10:=by
 obtain⟨p,hp,e1,e2⟩:=qC ht
 obtain⟨g,a,b,c,d1,d2⟩:=h.all p hp
 rw[b,Fm.lower a,Fm.lower hf]at e1
 obtain e:=(qk (P:=P) (Q:=Q) (x:=x) (y:=y) a hf (yW e1)).1
 rw[←e2,d1,←e]
 exact⟨rfl,d2⟩
theorem sY.add{vs:List (Str×Str)}(h:sY P Q x y vs){f:Fm}(hf:f.ok)(hs:sF P Q f≤100)(hv:(vF P Q x y f).natAbs<10 ^ 10): sY P Q x y (vs++[(S f.list,strI (vF P Q x y f))]):=
 ⟨fun p hp=>by
  rcases H9.mp hp with hp | hp
  ·exact h.all p hp
  ·rw[H7]at hp
   subst hp
   exact⟨f,hf,rfl,hs,rfl,hv⟩,h.hx.elim fun t e=>⟨t,qD e⟩,h.hy.elim fun t e=>⟨t,qD e⟩⟩
structure Bk(P Q:Fm)(bk:List (Str×Str))(u1 u2:List Nat): Prop where
 eq:bk=[(S [112],S u1),(S [113],S u2)]
 m1:Mk P.list u1
 m2:Mk Q.list u2
variable{bk:List (Str×Str)}{u1 u2:List Nat}
theorem Bk.hdr(B:Bk P Q bk u1 u2): dz bk:=fun p hp=>by
 rw[B.eq]at hp
 rcases bN hp with rfl | rfl
 ·exact c6 (by decide)
 ·exact c6 (by decide)
theorem Bk.p(B:Bk P Q bk u1 u2): aZ (S [112]) bk=some (S u1):=by
 rw[B.eq];unfold aZ;rw[rQ,bt];rfl
theorem Bk.q(B:Bk P Q bk u1 u2): aZ (S [113]) bk=some (S u2):=by
 rw[B.eq];unfold aZ;rw[rQ,bt]
 unfold aZ;rw[v7,bt];rfl
theorem Bk.no(B:Bk P Q bk u1 u2){c:Nat}(h:bT c): aZ (Hd (S [c])) bk=none:=by
 rw[B.eq,ql (by unfold bT at h;omega)];unfold aZ;rw[rQ,bt]
 unfold aZ;rw[v7,bt]
 rcases h with rfl | rfl | rfl | rfl <;> rfl
theorem D0(hP:P.oks bT): P.ex (E2 P Q)=P.ex E0:=Fm.ex_congr (fun c hc=>by rcases hc with rfl | rfl | rfl | rfl <;> rfl) hP
theorem CZ(hQ:Q.oks gE): Q.ex (E2 P Q)=Q.ex (E1 P):=Fm.ex_congr (fun c hc=>by rcases hc with rfl | rfl | rfl | rfl | rfl | rfl <;> rfl) hQ
theorem BX{o:Nat}(h:dH o)(a b:Int): ([14,15,16].zip [PV.int (a+b),.int (a - b),.int (a*b)]).lookup (ii o)=some (.int (Bp o a b)):=by
 rcases h with rfl | rfl | rfl <;> rfl
inductive DF(P Q:Fm)(x y:Int)(bk:List (Str×Str))(d:Nat)(f:Fm)(vs:List (Str×Str)): Prop
 |mk(vs':List (Str×Str))(a1:iF bk d (S f.list) vs (vF P Q x y f) vs')(a2:sY P Q x y vs')(a3:vs'.length≤vs.length+sF P Q f)(a4:∀ p∈vs',p∈vs∨∃ g:Fm,g.ok∧p.1=S g.list∧sF P Q g≤sF P Q f)
theorem iq(H:PQ P Q x y)(B:Bk P Q bk u1 u2): ∀(n:Nat) (f:Fm),f.ok→sF P Q f≤n→sF P Q f≤100→(f.ex (E2 P Q)).lv≤9→∀(vs:List (Str×Str)),sY P Q x y vs→vs.length+sF P Q f≤1000→∀ d,sF P Q f≤d→
  DF P Q x y bk d f vs
 |0,f,_,hn,_,_,_,_,_,_,_=>absurd (X.sz_pos (f.ex (E2 P Q))) (by have:sF P Q f=(f.ex (E2 P Q)).sz:=rfl;omega)
 |n+1,f,hf,hn,h100,h9,vs,hs,hl,d,hd=>by
  have hk:=lR (P:=P) (Q:=Q) hf h100
  have hv:(vF P Q x y f).natAbs<10 ^ 10:=by
   have h1:=dC H.hx H.hy h9
   have h2:(9:Nat) ^ 9<10 ^ 10:=by decide
   show((f.ex (E2 P Q)).val x y).natAbs<_
   omega
  have hno:=gg hv
  have fresh:∀ vs':List (Str×Str),aZ (Hd (S f.list)) vs=none→(∀ p∈vs',p∈vs∨∃ g:Fm,g.ok∧p.1=S g.list∧sF P Q g<sF P Q f)→aZ (Hd (S f.list)) vs'=none:=fun vs' h0 h=>by
   refine AB fun p hp e=>?_
   rcases h p hp with hp | ⟨g,a,b,c⟩
   ·exact qB h0 p hp e
   ·rw[b,Fm.lower a,Fm.lower hf]at e
    have:=(qk (P:=P) (Q:=Q) (x:=x) (y:=y) a hf (yW e)).2
    omega
  cases e0:aZ (Hd (S f.list)) vs with
  |some t=>
   obtain⟨et,_⟩:=hs.look hf e0
   exact⟨vs,.told hk hs.hdr e0 (by rw[et];exact hno.2.1) (by rw[et];exact hno.2.2.1),hs,by omega,fun p hp=>.inl hp⟩
  |none=>
   have hpos:=X.sz_pos (f.ex (E2 P Q))
   obtain⟨d,rfl⟩:∃ k,d=k+1:=⟨d - 1,by have:sF P Q f=(f.ex (E2 P Q)).sz:=rfl;omega⟩
   have fin:∀ vs':List (Str×Str),sY P Q x y vs'→vs'.length+1≤vs.length+sF P Q f→(∀ p∈vs',p∈vs∨∃ g:Fm,g.ok∧p.1=S g.list∧sF P Q g<sF P Q f)→iF bk (d+1) (S f.list) vs (vF P Q x y f) (vs'++[(S f.list,strI (vF P Q x y f))])→
     DF P Q x y bk (d+1) f vs:=fun vs' h1 h2 h3 h4=>
    ⟨_,h4,h1.add hf h100 hv,by simp only[He,Hh,Ij];omega,fun p hp=>by
     rcases H9.mp hp with hp | hp
     ·rcases h3 p hp with h | ⟨g,a,b,c⟩
      ·exact .inl h
      ·exact .inr ⟨g,a,b,by omega⟩
     ·rw[H7]at hp
      subst hp
      exact .inr ⟨f,hf,rfl,Hw _⟩⟩
   cases f with
   |leaf c=>
    have hc:dv c:=hf
    have htok:256≤bI (cL (S (Fm.leaf c).list) 0):=by
     skip
     show 256≤bI (S [c])
     rw[kU hc]
     decide
    have nm:∀(F:Fm) (u:List Nat),F.ok→vF P Q x y F=vF P Q x y (.leaf c)→sF P Q (.leaf c)=1+sF P Q F→(F.ex (E2 P Q)).lv≤9→Mk F.list u→aZ (Hd (S (Fm.leaf c).list)) bk=some (S u)→
      DF P Q x y bk (d+1) (.leaf c) vs:=fun F u hF ev es el m hb=>by
     obtain⟨vs',a1,a2,a3,a4⟩:=iq H B n F hF (by omega) (by omega) el vs hs (by omega) d (by omega)
     have h3:∀ p∈vs',p∈vs∨∃ g:Fm,g.ok∧p.1=S g.list∧sF P Q g<sF P Q (.leaf c):=fun p hp=>(a4 p hp).imp id fun⟨g,a,b,c⟩=>⟨g,a,b,by omega⟩
     have ml:=m.len
     refine fin vs' a2 (by omega) h3 (.name hk hs.hdr e0 htok B.hdr hb (by rw[bW];omega) ?_ a2.hdr (by omega) hno (fresh vs' e0 h3))
     rw[m.strip,←ev]
     exact a1
    have hP:=H.hP
    have hQ:=H.hQ
    have lP:(P.ex (E2 P Q)).lv≤9:=by rw[D0 hP,H.lvP];decide
    have lQ:(Q.ex (E2 P Q)).lv≤9:=by rw[CZ hQ];exact H.lvQ.2
    have okP:=hP.ok fun c h=>h.to.to
    have okQ:=hQ.ok fun c h=>h.to
    have noX:∀ k,(∃ t,aZ (S [k]) vs=some t)→Hd (S [c])=S [k]→False:=fun k ⟨t,ht⟩ e=>by
     have e0':aZ (Hd (S [c])) vs=none:=e0
     rw[e,ht]at e0'
     cases e0'
    have lc:=ql (c:=c) (by unfold dv at hc;omega)
    rcases hc with rfl | rfl | rfl | rfl | rfl | rfl | rfl | rfl
    ·exact(noX 120 hs.hx lc).elim
    ·exact(noX 120 hs.hx lc).elim
    ·exact(noX 121 hs.hy lc).elim
    ·exact(noX 121 hs.hy lc).elim
    ·exact nm P u1 okP (by show(P.ex (E2 P Q)).val x y=(P.ex E0).val x y;rw[D0 hP]) (by show 1+(P.ex E0).sz=1+(P.ex (E2 P Q)).sz;rw[D0 hP]) lP B.m1 (by show aZ (Hd (S [112])) bk=_;rw[rQ];exact B.p)
    ·exact nm P u1 okP (by show(P.ex (E2 P Q)).val x y=(P.ex E0).val x y;rw[D0 hP]) (by show 1+(P.ex E0).sz=1+(P.ex (E2 P Q)).sz;rw[D0 hP]) lP B.m1 (by show aZ (Hd (S [80])) bk=_;rw[Cy];exact B.p)
    ·exact nm Q u2 okQ (by show(Q.ex (E2 P Q)).val x y=(Q.ex (E1 P)).val x y;rw[CZ hQ]) (by show 1+(Q.ex (E1 P)).sz=1+(Q.ex (E2 P Q)).sz;rw[CZ hQ]) lQ B.m2 (by show aZ (Hd (S [113])) bk=_;rw[v7];exact B.q)
    ·exact nm Q u2 okQ (by show(Q.ex (E2 P Q)).val x y=(Q.ex (E1 P)).val x y;rw[CZ hQ]) (by show 1+(Q.ex (E1 P)).sz=1+(Q.ex (E2 P Q)).sz;rw[CZ hQ]) lQ B.m2 (by show aZ (Hd (S [81])) bk=_;rw[EI];exact B.q)
   |node o l r=>
    have hsz:sF P Q (.node o l r)=1+sF P Q l+sF P Q r:=rfl
    have hlv:(l.ex (E2 P Q)).lv+(r.ex (E2 P Q)).lv≤9:=h9
    have hsp:=jV hf
    obtain⟨ho,hl1,hr1⟩:=hf
    have htok:bI (cL (S (Fm.node o l r).list) 0)<256:=by
     rw[eE]
     show bI (S [40])<256
     rw[wi]
     decide
    obtain⟨bY,a1,a2,a3,a4⟩:=iq H B n l hl1 (by omega) (by omega) (by omega) vs hs (by omega) d (by omega)
    obtain⟨cc,b1,b2,b3,b4⟩:=iq H B n r hr1 (by omega) (by omega) (by omega) bY a2 (by omega) d (by omega)
    have h3:∀ p∈cc,p∈vs∨∃ g:Fm,g.ok∧p.1=S g.list∧sF P Q g<sF P Q (.node o l r):=fun p hp=>by
     rcases b4 p hp with hp | ⟨g,a,b,c⟩
     ·rcases a4 p hp with hp | ⟨g,a,b,c⟩
      ·exact .inl hp
      ·exact .inr ⟨g,a,b,by omega⟩
     ·exact .inr ⟨g,a,b,by omega⟩
    have s1:=dC H.hx H.hy (t:=l.ex (E2 P Q)) (by omega)
    have s2:=dC H.hx H.hy (t:=r.ex (E2 P Q)) (by omega)
    have big:(9:Nat) ^ 9<2 ^ 1000:=by decide +kernel
    exact fin cc b2 (by omega) h3 (.pair hk hs.hdr e0 htok hsp a1 b1 (oE (HS s1 big) (HS s2 big)) (BX ho _ _) b2.hdr (by omega) hno (fresh cc e0 h3))
end
end
section
noncomputable def aP(g c:Nat)(e:Nat×Nat×Int): Bool:=e.1==g&&lo1 e.2.1==lo1 c
noncomputable def bz(g c:Nat): List (Nat×Nat×Int)→Int
 |[]=>0
 |e::r=>if aP g c e=true then e.2.2 else bz g c r
noncomputable def ga(t:List (Nat×Nat×Int))(g c:Nat)(n:Int): List (Nat×Nat×Int):=t.filter (fun e=>!aP g c e)++[(g,c,bz g c t+n)]
noncomputable def tS(t:List (Nat×Nat×Int)): List (Str×Str):=t.map fun e=>(S [e.1,46,e.2.1],strI e.2.2)
noncomputable def eJ(t:List (Nat×Nat×Int)): Nat:=(t.map fun e=>e.2.2.natAbs).sum
theorem fE(e:Nat×Nat×Int)(t:List (Nat×Nat×Int)): eJ (e::t)=e.2.2.natAbs+eJ t:=by simp[eJ]
theorem wF(s t:List (Nat×Nat×Int)): eJ (s++t)=eJ s+eJ t:=by simp[eJ]
theorem jY(p:Nat×Nat×Int→Bool): ∀ t,eJ (t.filter p)≤eJ t
 |[]=>Hw _
 |e::t=>by
  have ih:=jY p t
  rw[IS,fE]
  split
  ·rw[fE];omega
  ·omega
theorem jy(g c:Nat): ∀ t,eJ (t.filter fun e=>!aP g c e)+(bz g c t).natAbs≤eJ t
 |[]=>Hw _
 |e::t=>by
  have ih:=jy g c t
  have m:=jY (fun e=>!aP g c e) t
  rw[IS,fE]
  unfold bz
  cases h:aP g c e with
  |true=>simp only[Bool.not_true,Hq,if_false,if_true];omega
  |false=>simp only[Bool.not_false,if_true,Hq,if_false,fE];omega
theorem wH(t:List (Nat×Nat×Int))(g c:Nat)(n:Int): eJ (ga t g c n)≤eJ t+n.natAbs:=by
 obtain h:=jy g c t
 obtain h2:=K8 (bz g c t) n
 unfold ga
 rw[wF]
 rw[show eJ [(g,c,bz g c t+n)]=(bz g c t+n).natAbs by simp[eJ]]
 exact H6 (Ic h2 _) (Ih ..▸HN h _)
theorem wE{t:List (Nat×Nat×Int)}{e:Nat×Nat×Int}(h:e∈t): e.2.2.natAbs≤eJ t:=by
 induction t with
 |nil=>cases h
 |cons u t ih=>
  rw[fE]
  rcases Ha.mp h with rfl | h
  ·omega
  ·obtain this:=ih h;omega
noncomputable def DY(t:List (Nat×Nat×Int)): Prop:=∀ e∈t,(e.1=112∨e.1=113)∧bT e.2.1
theorem A5{t:List (Nat×Nat×Int)}(h:DY t){g c:Nat}{n:Int}(hg:g=112∨g=113)(hc:bT c): DY (ga t g c n):=fun e he=>by
 rcases H9.mp he with he | he
 ·exact h e (Jq.mp he).1
 ·rw[H7]at he
  subst he;exact⟨hg,hc⟩
theorem oH{g c:Nat}(hg:g=112∨g=113)(hc:bT c): Hd (S [g,46,c])=S [g,46,lo1 c]:=by
 rw[g0]
 ·rcases hg with rfl | rfl <;> rfl
 ·intro d hd
  simp only[Ha,Hs,or_false]at hd
  unfold bT at hc
  omega
theorem lE{g c:Nat}: bu (S [g]) (S [c])=S [g,46,c]:=by
 unfold bu
 obtain this:H5 "." = S [46]:=by decide +kernel
 rw[this,cO,cO];rfl
theorem q9{g c:Nat}{e:Nat×Nat×Int}(hg:g=112∨g=113)(hc:bT c)(he:(e.1=112∨e.1=113)∧bT e.2.1): (Hd (S [e.1,46,e.2.1])==Hd (S [g,46,c]))=aP g c e:=by
 rw[oH hg hc,oH he.1 he.2,uv]
 unfold aP
 simp only[J1,and_true,true_and]
 by_cases h1:e.1=g <;> by_cases h2:lo1 e.2.1=lo1 c <;> simp[h1,h2]
theorem tX{g c:Nat}(hg:g=112∨g=113)(hc:bT c): ∀{t:List (Nat×Nat×Int)},DY t→(aZ (Hd (S [g,46,c])) (tS t)).getD (H5 "0")=strI (bz g c t):=by
 intro t
 induction t with
 |nil=>
  rintro _
  show H5 "0" = strI 0
  decide +kernel
 |cons e t ih=>
  rintro h
  show(if(Hd (S [e.1,46,e.2.1])==Hd (S [g,46,c]))=true then some (strI e.2.2)else aZ _ (tS t)).getD _=_
  rw[q9 hg hc (h e (.head _))]
  unfold bz
  split
  ·rfl
  ·exact ih fun u hu=>h u (.tail _ hu)
theorem AV{g c:Nat}(hg:g=112∨g=113)(hc:bT c): ∀{t:List (Nat×Nat×Int)},DY t→gp (Hd (S [g,46,c])) (tS t)=tS (t.filter fun e=>!aP g c e):=by
 intro t
 induction t with
 |nil=>
  rintro _
  exact rfl
 |cons e t ih=>
  rintro h
  obtain ih:=ih fun u hu=>h u (.tail _ hu)
  unfold gp at ih ⊢
  show List.filter _ ((S [e.1,46,e.2.1],strI e.2.2)::tS t)=_
  rw[IS,IS]
  obtain this:(Hd (S [e.1,46,e.2.1]) != Hd (S [g,46,c])) = !aP g c e:=by rw[←q9 hg hc (h e (.head _))];rfl
  simp only[this]
  cases aP g c e with
  |true=>simpa using ih
  |false=>
   skip
   rw[ih];rfl
theorem C6{t:List (Nat×Nat×Int)}: dz (tS t):=fun p hp=>by
 obtain⟨e,he,rfl⟩:=Hm.mp hp
 exact c6 (by simp)
noncomputable def cb:Nat→Nat→List (Nat×Nat×Nat×Int)→List (Nat×Nat×Nat×Int)
 |0,_,_=>[]
 |M+1,l,zs=>zs.filter (fun z=>z.2.1==l)++cb M (l+1) zs
theorem mf{z:Nat×Nat×Nat×Int}{zs1 zs2:List (Nat×Nat×Nat×Int)}: ∀(M l:Nat),z.2.1<l→cb M l (zs1++z::zs2)=cb M l (zs1++zs2)
 |0,_,_=>rfl
 |M+1,l,h=>by
  unfold cb
  rw[mf M (l+1) (by omega),Ja,Ja,M9 (by simp;omega)]
theorem sU{z:Nat×Nat×Nat×Int}{zs1 zs2:List (Nat×Nat×Nat×Int)}{M l:Nat}(h1:∀ u∈zs1,l<u.2.1)(h:z.2.1=l): cb (M+1) l (zs1++z::zs2)=z::cb (M+1) l (zs1++zs2):=by
 obtain e:zs1.filter (fun u=>u.2.1==l)=[]:=by
  rw[JT]
  intro u hu
  obtain this:=h1 u hu
  simp;omega
 unfold cb
 rw[mf M (l+1) (by omega),Ja,Ja,M8 (by simp[h]),e]
 rfl
theorem sT{zs:List (Nat×Nat×Nat×Int)}{M l:Nat}(h1:∀ u∈zs,l<u.2.1): cb (M+1) l zs=cb M (l+1) zs:=by
 obtain e:zs.filter (fun u=>u.2.1==l)=[]:=by
  rw[JT]
  intro u hu
  obtain this:=h1 u hu
  simp;omega
 show zs.filter _++_=_
 rw[e];rfl
theorem jQ:∀(M l:Nat),cb M l []=[]
 |0,_=>rfl
 |M+1,l=>by show[]++cb M (l+1) []=[];rw[jQ M];rfl
noncomputable def gH(t:List (Nat×Nat×Int))(zs:List (Nat×Nat×Nat×Int)): List (Nat×Nat×Int):=zs.foldl (fun t z=>ga t z.1 z.2.2.1 z.2.2.2) t
theorem lJ(a b:Int): ∀(t:X) (w:Int) (d:Nat),∀ z∈t.lw a b w d,d≤z.1
 | .leaf c,w,d,z,hz=>by
  rw[X.lw,H7]at hz
  subst hz;exact Hw _
 | .link t,w,d,z,hz=>by have:=lJ a b t w (d+1) z hz;omega
 | .node o l r,w,d,z,hz=>by
  rcases H9.mp hz with hz | hz
  ·have:=lJ a b l _ (d+1) z hz;omega
  ·have:=lJ a b r _ (d+1) z hz;omega
end
section
structure En where
 wt:Int
 g:Nat
 f:Fm
 u:List Nat
 d:Nat
noncomputable def il(e:En): Str:=nI (strI e.wt) (S [e.g]) (S e.u)
section
variable{P Q:Fm}{x y:Int}{bk:List (Str×Str)}{u1 u2:List Nat}
noncomputable abbrev eX(P Q:Fm)(e:En): X:=e.f.ex (E2 P Q)
structure ze(P Q:Fm)(e:En): Prop where
 ok:e.f.ok
 strip:aC (S e.u)=S e.f.list
 prn:∀ c∈e.u,c<128
 len:e.u.length≤400
 g:e.g=112∨e.g=113
 lv:(eX P Q e).lv≤9
 sz:(eX P Q e).sz≤30
noncomputable def eL(P Q:Fm)(x y:Int)(e:En): List (Nat×Nat×Nat×Int):=((eX P Q e).lw x y e.wt e.d).map fun z=>(e.g,z)
noncomputable def gB(n:Nat): Nat:=n*9 ^ n
noncomputable def phi(P Q:Fm)(es:List En): Nat:=(es.map fun e=>e.wt.natAbs*gB (eX P Q e).lv).sum
noncomputable def fK(P Q:Fm)(es:List En): Nat:=(es.map fun e=>(eX P Q e).sz).sum
theorem iU(e:En)(es:List En): phi P Q (e::es)=e.wt.natAbs*gB (eX P Q e).lv+phi P Q es:=by simp[phi]
theorem tB(a b:List En): phi P Q (a++b)=phi P Q a+phi P Q b:=by simp[phi]
theorem fA(e:En)(es:List En): fK P Q (e::es)=(eX P Q e).sz+fK P Q es:=by simp[fK]
theorem tj(a b:List En): fK P Q (a++b)=fK P Q a+fK P Q b:=by simp[fK]
theorem kX:∀ es:List En,es.length≤fK P Q es
 |[]=>HT _
 |e::es=>by
  have:=kX es
  have:=X.sz_pos (eX P Q e)
  rw[fA,Hh];omega
theorem zL{n:Int}(h:n.natAbs<10 ^ 10): 39∉(strI n).cps.toList∧∀ c∈(strI n).cps.toList,c<128:=by
 obtain this:=lr h
 exact⟨fun m=>by obtain this:=this 39 m;omega,fun c hc=>by obtain this:=this c hc;omega⟩
theorem m7{e:En}(h:ze P Q e)(hw:e.wt.natAbs<10 ^ 10): cP (il e)=[strI e.wt,S [e.g],S e.u]∧(il e).length≤500:=by
 obtain hs:il e=S ((strI e.wt).cps.toList++39::([e.g]++39::e.u)):=by
  unfold il nI
  rw[Ej]
  conv=>lhs;rw[←yV (strI e.wt)]
  rw[cO,cO,cO,cO]
  simp
 obtain hg:=h.g
 obtain⟨a1,a2⟩:=zL hw
 rw[hs]
 refine⟨?_,?_⟩
 ·obtain this:=rD (a:=(strI e.wt).cps.toList) (b:=[e.g]) (c:=e.u) a1 (by simp;omega) (by
   intro c hc
   simp only[H9,Ha,Hs,or_false]at hc
   rcases hc with hc | rfl | rfl | rfl | hc
   ·exact a2 c hc
   ·decide
   ·omega
   ·decide
   ·exact h.prn c hc)
  skip
  exact this
 ·obtain l1:=gq hw
  obtain l2:=h.len
  obtain l3:(strI e.wt).cps.toList.length=(strI e.wt).length:=by simp[J7]
  rw[bW]
  simp only[He,Hh,Ij]
  omega
theorem CR{n:Nat}(h:1≤n): 9≤gB n:=by
 unfold gB
 obtain h1:9 ^ 1≤9 ^ n:=IR (by decide) h
 obtain h2:=JF h h1
 omega
theorem CS(m n:Nat): gB (m+n)=gB m*9 ^ n+9 ^ m*gB n:=by
 unfold gB
 rw[Nat.pow_add,Nat.add_mul]
 congr 1
 ·rw[L5]
 ·rw[LR]
theorem kc{e:En}: (il e != H5 "")=true:=by
 rw[bne_iff_ne]
 intro h
 obtain this:=congrArg J7 h
 unfold il nI at this
 have l1:(H5 "'").length=1:=rfl
 have l2:(H5 "").length=0:=rfl
 rw[HI,HI,HI,HI,l1,l2]at this
 omega
structure St(P Q:Fm)(x y:Int)(es:List En)(vs:List (Str×Str))(t:List (Nat×Nat×Int)): Prop where
 en:∀ e∈es,ze P Q e
 snd:sY P Q x y vs
 okt:DY t
 vlen:vs.length+30*fK P Q es≤940
 tlen:t.length+fK P Q es≤400
 szl:fK P Q es≤100
 phi:phi P Q es+9*eJ t≤9*10 ^ 9
theorem tA{e:En}: ∀{es:List En},e∈es→e.wt.natAbs*gB (eX P Q e).lv≤phi P Q es
 |u::es,h=>by
  rw[iU]
  rcases Ha.mp h with rfl | h
  ·exact HQ _ _
  ·exact H6 (tA h) (J2 _ _)
theorem gK{e:En}{es:List En}{vs:List (Str×Str)}{t:List (Nat×Nat×Int)}(h:St P Q x y es vs t)(he:e∈es): e.wt.natAbs≤10 ^ 9:=by
 obtain h1:=h.phi
 obtain h2:e.wt.natAbs*gB (eX P Q e).lv≤phi P Q es:=tA he
 obtain h3:=HG e.wt.natAbs (CR (X.lv_pos (eX P Q e)))
 rw[N7]at h3
 exact LL (H6 h3 (H6 h2 (H6 (HQ _ _) h1))) (by decide)
theorem rc{n:Nat}(h:n≤10 ^ 9): n<10 ^ 10:=HS h (by decide)
theorem St.sab{es:List En}{vs:List (Str×Str)}{t:List (Nat×Nat×Int)}(h:St P Q x y es vs t): eJ t≤10 ^ 9:=LL (H6 (J2 _ _) h.phi) (by decide)
theorem St.few{es:List En}{vs:List (Str×Str)}{t:List (Nat×Nat×Int)}(h:St P Q x y es vs t): es.length≤100:=H6 (kX es) h.szl
theorem St.to{es es':List En}{vs vs':List (Str×Str)}{t t':List (Nat×Nat×Int)}(h:St P Q x y es vs t)(en:∀ e∈es',ze P Q e)(snd:sY P Q x y vs')(okt:DY t')(hs:fK P Q es'+1=fK P Q es)(hv:vs'.length≤vs.length+30)(ht:t'.length≤t.length+1)(hp:Internal.phi P Q es'+9*eJ t'≤Internal.phi P Q es+9*eJ t): St P Q x y es' vs' t':=by
 obtain⟨_,_,_,a,b,c,d⟩:=h
 rw[←hs]at a b c
 rw[KG,HU (30*_),←Ih]at a
 rw[HU (fK P Q es'),←Ih]at b
 exact⟨en,snd,okt,H6 (HN hv _) a,H6 (HN ht _) b,K7 c,H6 hp d⟩
theorem uE(B:Bk P Q bk u1 u2){wt:Int}{g c d:Nat}{u:List Nat}{qs:List En}{vs:List (Str×Str)}{t:List (Nat×Nat×Int)}(h:St P Q x y (⟨wt,g,.leaf c,u,d⟩::qs) vs t){F:Fm}{v:List Nat}(hF:F.ok)(hX:(E2 P Q c)=.link (F.ex (E2 P Q)))(hm:Mk F.list v)(hb:aZ (Hd (S [c])) bk=some (S v)):
  eU bk 60 (qs.map il) vs (tS t) (il ⟨wt,g,.leaf c,u,d⟩) ((qs++[(⟨wt,g,F,v,d+1⟩:En)]).map il) vs (tS t)∧St P Q x y (qs++[⟨wt,g,F,v,d+1⟩]) vs t∧fK P Q (qs++[⟨wt,g,F,v,d+1⟩])<fK P Q (⟨wt,g,.leaf c,u,d⟩::qs)∧
   eL P Q x y ⟨wt,g,.leaf c,u,d⟩=eL P Q x y ⟨wt,g,F,v,d+1⟩:=by
 have he:=h.en _ (.head _)
 have hw:wt.natAbs<10 ^ 10:=rc (gK h (.head _))
 obtain⟨p1,p2⟩:=m7 he hw
 have e1:eX P Q ⟨wt,g,.leaf c,u,d⟩=.link (F.ex (E2 P Q)):=hX
 have ls:(eX P Q ⟨wt,g,.leaf c,u,d⟩).sz=1+(F.ex (E2 P Q)).sz:=by rw[e1];rfl
 have ll:(eX P Q ⟨wt,g,.leaf c,u,d⟩).lv=(F.ex (E2 P Q)).lv:=by rw[e1];rfl
 have hst:aC (S u)=S [c]:=he.strip
 have hul:(S u).length≤500:=by rw[bW];exact H6 he.len (by decide)
 have hs:fK P Q (qs++[⟨wt,g,F,v,d+1⟩])+1=fK P Q (⟨wt,g,.leaf c,u,d⟩::qs):=by
  rw[tj,fA ⟨wt,g,.leaf c,u,d⟩,ls,HU (fK P Q qs),HU 1,Nat.add_right_comm];rfl
 have hp:phi P Q (qs++[⟨wt,g,F,v,d+1⟩])=phi P Q (⟨wt,g,.leaf c,u,d⟩::qs):=by
  rw[tB,iU ⟨wt,g,.leaf c,u,d⟩,ll,HU];rfl
 have hc:dv c:=he.ok
 refine⟨?_,h.to ?_ h.snd h.okt hs (HQ _ _) (J0 _) (HM (congrArg (· + _) hp)),KA (HV _) hs,?_⟩
 ·have hk:cw (S [c]):=lR (P:=P) (Q:=Q) (f:=.leaf c) hc (H6 he.sz (by decide))
  have:=eU.link (bk:=bk) (D:=60) (pb:=qs.map il) (vs:=vs) (sl:=tS t) (wd:=il ⟨wt,g,.leaf c,u,d⟩) (wt:=strI wt) (gl:=S [g]) (f0:=S u) (t:=S v) p1 p2 hul (by rw[bW];exact show 1≤500 by decide) (H6 (gq hw) (by decide))
   (by rw[hst];exact hk) (by rw[hst,eE];show 256≤bI (S [c]);rw[kU hc];decide) B.hdr (by rw[hst];exact hb) (by rw[bW];exact H6 hm.len (by decide)) (by rw[Hl];exact H6 (K7 h.few) (by decide))
  rw[HW]
  exact this
 ·intro e h'
  rcases H9.mp h' with h' | h'
  ·exact h.en e (.tail _ h')
  ·rw[H7]at h'
   subst h'
   exact⟨hF,hm.strip,fun c hc=>IW (hm.prn c hc).2,H6 hm.len (by decide),he.g,ll▸he.lv,H6 (J2 _ 1) (ls▸he.sz)⟩
 ·unfold eL
  rw[e1];rfl
theorem Fn{c:Nat}(h:bT c): E2 P Q c=.leaf c:=by rcases h with rfl | rfl | rfl | rfl <;> rfl
theorem uF(B:Bk P Q bk u1 u2){wt:Int}{g c d:Nat}{u:List Nat}{qs:List En}{vs:List (Str×Str)}{t:List (Nat×Nat×Int)}(h:St P Q x y (⟨wt,g,.leaf c,u,d⟩::qs) vs t)(hc:bT c):
  eU bk 60 (qs.map il) vs (tS t) (il ⟨wt,g,.leaf c,u,d⟩) (qs.map il) vs (tS (ga t g c wt))∧St P Q x y qs vs (ga t g c wt)∧fK P Q qs<fK P Q (⟨wt,g,.leaf c,u,d⟩::qs)∧
   eL P Q x y ⟨wt,g,.leaf c,u,d⟩=[(g,d,c,wt)]:=by
 have he:=h.en _ (.head _)
 have hw10:wt.natAbs<10 ^ 10:=rc (gK h (.head _))
 obtain⟨p1,p2⟩:=m7 he hw10
 have e1:eX P Q ⟨wt,g,.leaf c,u,d⟩=.leaf c:=Fn hc
 have hst:aC (S u)=S [c]:=he.strip
 have hul:(S u).length≤500:=by rw[bW];exact H6 he.len (by decide)
 have hg:g=112∨g=113:=he.g
 have hl:dv c:=hc.to.to
 have ls:(eX P Q ⟨wt,g,.leaf c,u,d⟩).sz=1:=by rw[e1];rfl
 have ll:gB (eX P Q ⟨wt,g,.leaf c,u,d⟩).lv=9:=by rw[e1];rfl
 have hs:fK P Q qs+1=fK P Q (⟨wt,g,.leaf c,u,d⟩::qs):=by rw[fA,ls,HU]
 have hp:phi P Q qs+9*eJ (ga t g c wt)≤phi P Q (⟨wt,g,.leaf c,u,d⟩::qs)+9*eJ t:=by
  rw[iU,ll,HU (_*9),Ih,N7 _ 9,←KG,HU _ (eJ t)]
  exact Ic (HG 9 (wH t g c wt)) _
 have al:(ga t g c wt).length≤t.length+1:=by
  unfold ga
  rw[He]
  exact HN (K0 ..) 1
 have S1:=h.to (fun e h'=>h.en e (.tail _ h')) h.snd (A5 h.okt hg hc) hs (HQ _ _) al hp
 have hlk:(bz g c t+wt).natAbs<10 ^ 10:=rc (H6 (wE (e:=(g,c,bz g c t+wt)) (by unfold ga;simp)) S1.sab)
 have no0:=gg (rc (H6 (J2 _ _) (H6 (jy g c t) h.sab)))
 have hk:cw (S [c]):=lR (P:=P) (Q:=Q) (f:=.leaf c) hl (H6 he.sz (by decide))
 refine⟨?_,S1,KA (HV _) hs,?_⟩
 ·have hkn:cw (S [g,46,c]):=by
   have hg':32≤g∧g≠127:=by rcases hg with rfl | rfl <;> decide
   refine⟨c6 (by simp),?_,?_,by rw[bW];simp,by rw[bW];simp⟩
   ·rw[oH hg hc]
    refine iT fun k hk=>?_
    rcases jE hk with rfl | rfl | rfl
    ·exact hg'
    ·decide
    ·rcases hc with rfl | rfl | rfl | rfl <;> decide
   ·refine iT fun k hk=>?_
    rcases jE hk with rfl | rfl | rfl
    ·exact hg'
    ·decide
    ·rcases hc with rfl | rfl | rfl | rfl <;> decide
  have hS:=eU.leaf (bk:=bk) (D:=60) (pb:=qs.map il) (vs:=vs) (sl:=tS t) (wd:=il ⟨wt,g,.leaf c,u,d⟩) (wt:=strI wt) (gl:=S [g]) (f0:=S u) (n1:=bz g c t) (n2:=wt) p1 p2 hul (by rw[bW];exact show 1≤500 by decide) (H6 (gq hw10) (by decide))
   (by rw[hst];exact hk) (by rw[hst,eE];show 256≤bI (S [c]);rw[kU hl];decide) B.hdr (by rw[hst];exact B.no hc) (by rw[hst,lE];exact hkn) C6 (by unfold tS;rw[Hl];exact H6 (HQ _ _) (H6 h.tlen (by decide)))
   (by rw[hst,lE,tX hg hc h.okt];exact no0.2.1) (by rw[hst,lE,tX hg hc h.okt];exact no0.2.2.1) (gg hw10).2.1 (gg hlk)
  rw[hst,lE,AV hg hc h.okt]at hS
  obtain et:tS (t.filter fun e=>!aP g c e)++[(S [g,46,c],strI (bz g c t+wt))]=tS (ga t g c wt):=by unfold tS ga;rw[HW];rfl
  rw[et]at hS
  exact hS
 ·unfold eL
  rw[e1];rfl
end
end
section
section
variable{P Q:Fm}{x y:Int}{bk:List (Str×Str)}{u1 u2:List Nat}
noncomputable abbrev mF(P Q:Fm)(x y wt:Int)(g o d:Nat)(l r:Fm): En:=⟨wL x y o wt (r.ex (E2 P Q)),g,l,l.list,d+1⟩
noncomputable abbrev mD(P Q:Fm)(x y wt:Int)(g o d:Nat)(l r:Fm): En:=⟨wR x y o wt (l.ex (E2 P Q)),g,r,r.list,d+1⟩
theorem xx(hx:x.natAbs≤9)(hy:y.natAbs≤9)(o:Nat)(wt:Int)(l r:X): (wL x y o wt r).natAbs*gB l.lv+(wR x y o wt l).natAbs*gB r.lv≤wt.natAbs*gB (l.lv+r.lv):=by
 obtain v1:=fP (M:=9) (by decide) hx hy l
 obtain v2:=fP (M:=9) (by decide) hx hy r
 obtain p1:1≤9 ^ l.lv:=LQ (by decide)
 obtain p2:1≤9 ^ r.lv:=LQ (by decide)
 rw[CS,KG]
 obtain a1:gB l.lv≤gB l.lv*9 ^ r.lv:=KF _ p2
 obtain a2:gB r.lv≤9 ^ l.lv*gB r.lv:=Mx _ p1
 obtain b1:=HG wt.natAbs a1
 obtain b2:=HG wt.natAbs a2
 unfold wL wR
 split
 ·exact Ir b1 b2
 ·split
  ·rw[Int.natAbs_neg];exact Ir b1 b2
  ·rw[KQ,KQ,L5,L5]
   obtain c1:(r.val x y).natAbs*gB l.lv≤gB l.lv*9 ^ r.lv:=by rw[N7];exact HG _ v2
   obtain c2:(l.val x y).natAbs*gB r.lv≤9 ^ l.lv*gB r.lv:=Nat.mul_le_mul_right _ v1
   obtain d1:=HG wt.natAbs c1
   obtain d2:=HG wt.natAbs c2
   exact Ir d1 d2
theorem Gy{G:Prop}(h:∀ P:Prop,(G→P)→P): G:=h G id
inductive FB(P Q:Fm)(x y:Int)(bk:List (Str×Str))(qs:List En)(vs:List (Str×Str))(t:List (Nat×Nat×Int))(e a b:En): Prop
 |mk(vs':List (Str×Str))(s1:eU bk 60 (qs.map il) vs (tS t) (il e) ((qs++[a,b]).map il) vs' (tS t))(s2:St P Q x y (qs++[a,b]) vs' t)(s3:fK P Q (qs++[a,b])<fK P Q (e::qs))(s4:eL P Q x y e=eL P Q x y a++eL P Q x y b)
theorem uD(H:PQ P Q x y)(B:Bk P Q bk u1 u2){wt:Int}{g o d:Nat}{l r:Fm}{u:List Nat}{qs:List En}{vs:List (Str×Str)}{t:List (Nat×Nat×Int)}(h:St P Q x y ((⟨wt,g,.node o l r,u,d⟩:En)::qs) vs t):
  FB P Q x y bk qs vs t ⟨wt,g,.node o l r,u,d⟩ (mF P Q x y wt g o d l r) (mD P Q x y wt g o d l r):=by
 refine Gy fun N hN=>?_
 have he:=h.en _ (.head _)
 have hw10:wt.natAbs<10 ^ 10:=rc (gK h (.head _))
 obtain⟨p1,p2⟩:=m7 he hw10
 have hsz:1+(l.ex (E2 P Q)).sz+(r.ex (E2 P Q)).sz≤30:=he.sz
 have hlv:(l.ex (E2 P Q)).lv+(r.ex (E2 P Q)).lv≤9:=he.lv
 have lz:(l.ex (E2 P Q)).sz≤30:=H6 (H6 (J2 _ 1) (HQ _ _)) hsz
 have rz:(r.ex (E2 P Q)).sz≤30:=H6 (J2 _ _) hsz
 have llv:(l.ex (E2 P Q)).lv≤9:=H6 (HQ _ _) hlv
 have rlv:(r.ex (E2 P Q)).lv≤9:=H6 (J2 _ _) hlv
 have hok:(Fm.node o l r).ok:=he.ok
 obtain⟨ho,hl,hr⟩:=id hok
 have hst:aC (S u)=S (Fm.node o l r).list:=he.strip
 have lenF:∀ f:Fm,sF P Q f≤30→f.list.length≤400:=fun f hf=>by
  obtain h1:=Fm.lvn_len f
  obtain h2:=oG (P:=P) (Q:=Q) f
  omega
 have hs:fK P Q (qs++[mF P Q x y wt g o d l r,mD P Q x y wt g o d l r])+1=fK P Q (⟨wt,g,.node o l r,u,d⟩::qs):=by
  rw[tj,fA,fA,Ih,HU]
  show _=1+(l.ex (E2 P Q)).sz+(r.ex (E2 P Q)).sz+fK P Q qs
  rw[Ih 1,HU 1];rfl
 have hkid:∀ e∈qs++[mF P Q x y wt g o d l r,mD P Q x y wt g o d l r],ze P Q e:=fun e h'=>by
  rcases H9.mp h' with h' | h'
  ·exact h.en e (.tail _ h')
  ·rcases bN h' with rfl | rfl
   ·exact⟨hl,d8 (xa (Fm.signs hl)),Fm.ascii hl,lenF l lz,he.g,llv,lz⟩
   ·exact⟨hr,d8 (xa (Fm.signs hr)),Fm.ascii hr,lenF r rz,he.g,rlv,rz⟩
 have hp:phi P Q (qs++[mF P Q x y wt g o d l r,mD P Q x y wt g o d l r])≤phi P Q (⟨wt,g,.node o l r,u,d⟩::qs):=by
  rw[tB,iU ⟨wt,g,.node o l r,u,d⟩,HU]
  exact HN (xx H.hx H.hy o wt (l.ex (E2 P Q)) (r.ex (E2 P Q))) _
 have mk:∀ vs',sY P Q x y vs'→vs'.length≤vs.length+30→St P Q x y (qs++[mF P Q x y wt g o d l r,mD P Q x y wt g o d l r]) vs' t:=fun vs' a b=>h.to hkid a h.okt hs b (J0 _) (HN hp _)
 have hlt:fK P Q (qs++[mF P Q x y wt g o d l r,mD P Q x y wt g o d l r])<fK P Q ((⟨wt,g,.node o l r,u,d⟩:En)::qs):=KA (HV _) hs
 have hL:eL P Q x y ⟨wt,g,.node o l r,u,d⟩=eL P Q x y (mF P Q x y wt g o d l r)++eL P Q x y (mD P Q x y wt g o d l r):=by
  unfold eL
  rw[←HW]
  rfl
 have hk:cw (aC (S u)):=by rw[hst];exact lR (P:=P) (Q:=Q) hok (H6 he.sz (by decide))
 have htok:bI (cL (aC (S u)) 0)<256:=by
  rw[hst,eE]
  show bI (S [40])<256
  rw[wi]
  decide
 have hsp:gr (aC (S u))=some (ii o,S l.list,S r.list):=by rw[hst];exact jV hok
 have ell:(S l.list).length≤500:=by rw[bW];exact H6 (lenF l lz) (by decide)
 have elr:(S r.list).length≤500:=by rw[bW];exact H6 (lenF r rz) (by decide)
 have eu:(S u).length≤500:=by rw[bW];exact H6 he.len (by decide)
 have eg:(S [g]).length≤500:=by rw[bW];exact show 1≤500 by decide
 have ew:(strI wt).length≤500:=H6 (gq hw10) (by decide)
 obtain hno:=gg hw10
 have hq:(qs.map il).length≤800:=by rw[Hl];exact H6 (K7 h.few) (by decide)
 have nL:∀ vs',St P Q x y (qs++[mF P Q x y wt g o d l r,mD P Q x y wt g o d l r]) vs' t→bL (wL x y o wt (r.ex (E2 P Q)))∧bL (wR x y o wt (l.ex (E2 P Q))):=fun vs' hs=>
  ⟨gg (rc (gK hs (e:=mF P Q x y wt g o d l r) (by simp))),gg (rc (gK hs (e:=mD P Q x y wt g o d l r) (by simp)))⟩
 have mp:(qs++[mF P Q x y wt g o d l r,mD P Q x y wt g o d l r]).map il=(qs.map il++[nI (strI (wL x y o wt (r.ex (E2 P Q)))) (S [g]) (S l.list)])++[nI (strI (wR x y o wt (l.ex (E2 P Q)))) (S [g]) (S r.list)]:=by
  simp[il]
 by_cases h42:o=42
 ·subst h42
  have hvl:vs.length+30≤940:=H6 (Ic (KF 30 (KA (Io _) hs)) _) h.vlen
  obtain⟨bY,a1,a2,a3,_⟩:=iq H B 100 r hr (H6 rz (by decide)) (H6 rz (by decide)) rlv vs h.snd (H6 (Ic rz _) (H6 hvl (by decide))) 60 (H6 rz (by decide))
  have a4:bY.length≤940:=H6 a3 (H6 (Ic rz _) hvl)
  obtain⟨cc,b1,b2,b3,_⟩:=iq H B 100 l hl (H6 lz (by decide)) (H6 lz (by decide)) llv bY a2 (H6 (Ir a4 lz) (by decide)) 60 (H6 lz (by decide))
  have b3:cc.length≤bY.length+(l.ex (E2 P Q)).sz:=b3
  have a3:bY.length≤vs.length+(r.ex (E2 P Q)).sz:=a3
  obtain hS:=mk cc b2 (by omega)
  obtain⟨n1,n2⟩:=nL cc hS
  obtain v1:=dC H.hx H.hy (t:=l.ex (E2 P Q)) llv
  obtain v2:=dC H.hx H.hy (t:=r.ex (E2 P Q)) rlv
  obtain big:(10:Nat) ^ 10<2 ^ 1000:=by decide +kernel
  obtain big9:(9:Nat) ^ 9<10 ^ 10:=by decide
  refine hN ⟨cc,?_,hS,hlt,hL⟩
  rw[mp]
  exact eU.times (bk:=bk) (D:=60) p1 p2 eu eg ew hk htok hsp ell elr hno.2.1 a1 b1 (oE (IN hw10 big) (IN (HS v2 big9) big)) (oE (IN hw10 big) (IN (HS v1 big9) big)) n1 n2 hq
 ·obtain hS:=mk vs h.snd (HQ _ _)
  obtain⟨n1,n2⟩:=nL vs hS
  refine hN ⟨vs,?_,hS,hlt,hL⟩
  rw[mp]
  have e1:wL x y o wt (r.ex (E2 P Q))=wt:=by
   unfold wL
   rcases ho with rfl | rfl | rfl
   ·rfl
   ·rfl
   ·exact absurd rfl h42
  have e2:wR x y o wt (l.ex (E2 P Q))=if ii o==15 then -wt else wt:=by
   unfold wR ii
   rcases ho with rfl | rfl | rfl
   ·rfl
   ·rfl
   ·exact absurd rfl h42
  obtain e3:ii o≠16:=by
   unfold ii
   rcases ho with rfl | rfl | rfl
   ·decide
   ·decide
   ·exact absurd rfl h42
  rw[e1,e2]
  rw[e2]at n2
  exact eU.plus (bk:=bk) (D:=60) p1 p2 eu eg ew hk htok hsp ell elr e3 hno.2.1 hno n2 hq
inductive uy(P Q:Fm)(x y:Int)(bk:List (Str×Str))(es:List En)(vs:List (Str×Str))(t t':List (Nat×Nat×Int)): Prop
 |mk(vs':List (Str×Str))(c1:jq bk 60 (my (es.map il)) vs (tS t) (mz (es.map il)) vs' (tS t'))(c2:sY P Q x y vs')(c3:vs'.length≤940)(c4:t'.length≤400)
theorem lb(H:PQ P Q x y)(B:Bk P Q bk u1 u2): ∀(n:Nat) (as bs:List En) (d M:Nat) (vs:List (Str×Str)) (t:List (Nat×Nat×Int)),2*fK P Q (as++bs)+(if as.isEmpty then 1 else 0)≤n→St P Q x y (as++bs) vs t→(∀ e∈as,e.d=d)→(∀ e∈bs,e.d=d+1)→(∀ z∈(bs++as).flatMap (eL P Q x y),z.2.1<d+M)→
  uy P Q x y bk (as++bs) vs t (gH t (cb M d ((bs++as).flatMap (eL P Q x y))))
 |n,[],[],d,M,vs,t,_,h,_,_,_=>by
  refine⟨vs,?_,h.snd,by have:=h.vlen;omega,?_⟩
  ·show jq bk 60 [] vs (tS t) (H5 "") vs (tS (gH t (cb M d [])))
   rw[jQ]
   exact .done
  ·show(gH t (cb M d [])).length≤400
   rw[jQ]
   have:=h.tlen
   show t.length≤400
   omega
 |0,[],b::bs,d,M,vs,t,hn,h,_,_,_=>absurd hn (by simp)
 |n+1,[],b::bs,d,M,vs,t,hn,h,ha,hb,hz=>by
  have up:∀ z∈((b::bs)++[]).flatMap (eL P Q x y),d<z.2.1:=fun z hz'=>by
   obtain⟨e,he,hze⟩:=Mi.mp hz'
   rw[Hj]at he
   obtain⟨v,hv,rfl⟩:=Hm.mp hze
   have:=lJ x y _ _ _ v hv
   have hd:=hb e he
   show d<v.1
   omega
  obtain⟨z0,hz0⟩:∃ z,z∈((b::bs)++[]).flatMap (eL P Q x y):=by
   have hl:((eX P Q b).lw x y b.wt b.d).length=(eX P Q b).lv:=jF _ _ _ _ _
   have:=X.lv_pos (eX P Q b)
   cases hc:(eX P Q b).lw x y b.wt b.d with
   |nil=>rw[hc]at hl;simp only[Ij]at hl;omega
   |cons v r=>
    refine⟨(b.g,v),Mi.mpr ⟨b,by simp,?_⟩⟩
    unfold eL
    rw[hc]
    exact .head _
  have h1:=up z0 hz0
  have h2:=hz z0 hz0
  obtain⟨M,rfl⟩:∃ k,M=k+1:=⟨M - 1,by omega⟩
  have ih:=lb H B n (b::bs) [] (d+1) M vs t (by simp only[Iy,List.isEmpty_nil,if_true]at hn;simp only[Hj,List.isEmpty_cons,Hq,if_false];omega) (by rw[Hj];exact h) hb (fun e he=>nomatch he) (by
   intro z hz'
   have:=hz z (by simpa using hz')
   omega)
  rw[sT up]
  simpa using ih
 |0,a::as,bs,d,M,vs,t,hn,h,_,_,_=>absurd hn (by
   have:=X.sz_pos (eX P Q a)
   have e:=fA (P:=P) (Q:=Q) a (as++bs)
   simp only[Hp]
   omega)
 |n+1,a::as,bs,d,M,vs,t,hn,h,ha,hb,hz=>by
  obtain⟨wt,g,f,u,d'⟩:=a
  obtain rfl:d'=d:=ha _ (.head _)
  have upB:∀ z∈bs.flatMap (eL P Q x y),d'<z.2.1:=fun z hz'=>by
   obtain⟨e,he,hze⟩:=Mi.mp hz'
   obtain⟨v,hv,rfl⟩:=Hm.mp hze
   have:=lJ x y _ _ _ v hv
   have hd:=hb e he
   show d'<v.1
   omega
  have hm:∀(as' bs':List En),fK P Q (as'++bs')<fK P Q ((⟨wt,g,f,u,d'⟩:En)::as++bs)→2*fK P Q (as'++bs')+(if as'.isEmpty then 1 else 0)≤n:=fun as' bs' hlt=>by
   simp only[List.isEmpty_cons,Hq,if_false]at hn
   split <;> omega
  have push:∀(ks:List En) (bY:List (Str×Str)),eU bk 60 ((as++bs).map il) vs (tS t) (il ⟨wt,g,f,u,d'⟩) (((as++bs)++ks).map il) bY (tS t)→St P Q x y ((as++bs)++ks) bY t→fK P Q ((as++bs)++ks)<fK P Q ((⟨wt,g,f,u,d'⟩:En)::(as++bs))→eL P Q x y ⟨wt,g,f,u,d'⟩=ks.flatMap (eL P Q x y)→(∀ e∈ks,e.d=d'+1)→
    uy P Q x y bk ((⟨wt,g,f,u,d'⟩:En)::as++bs) vs t (gH t (cb M d' ((bs++(⟨wt,g,f,u,d'⟩:En)::as).flatMap (eL P Q x y)))):=fun ks bY h1 h2 h3 h4 h5=>by
   have ez:(bs++(⟨wt,g,f,u,d'⟩:En)::as).flatMap (eL P Q x y)=((bs++ks)++as).flatMap (eL P Q x y):=by
    simp only[Ki,IL,h4,Ho]
   rw[ez]at hz ⊢
   rw[Ho]at h1 h2 h3
   obtain⟨vs',c1,c2,c3,c4⟩:=lb H B n as (bs++ks) d' M bY t (hm _ _ h3) h2 (fun e he=>ha e (.tail _ he)) (fun e he=>by
    rcases H9.mp he with he | he
    ·exact hb e he
    ·exact h5 e he) hz
   have hq:((as++(bs++ks)).map il).length≤900:=by
    rw[Hl]
    have:=kX (P:=P) (Q:=Q) (as++(bs++ks))
    have:=h2.szl
    omega
   exact⟨vs',.step kc h1 hq c1,c2,c3,c4⟩
  have leafC:∀ c,f=.leaf c→bT c→uy P Q x y bk ((⟨wt,g,f,u,d'⟩:En)::as++bs) vs t (gH t (cb M d' ((bs++(⟨wt,g,f,u,d'⟩:En)::as).flatMap (eL P Q x y)))):=fun c hf hc=>by
   subst hf
   obtain⟨s1,s2,s3,s4⟩:=uF (qs:=as++bs) B h hc
   have ez:(bs++(⟨wt,g,.leaf c,u,d'⟩:En)::as).flatMap (eL P Q x y)=bs.flatMap (eL P Q x y)++(g,d',c,wt)::as.flatMap (eL P Q x y):=by
    rw[Ki,IL,s4];rfl
   rw[ez]at hz ⊢
   have hM:=hz (g,d',c,wt) (by simp)
   simp only at hM
   obtain⟨M,rfl⟩:∃ k,M=k+1:=⟨M - 1,by omega⟩
   rw[sU upB rfl]
   obtain⟨vs',c1,c2,c3,c4⟩:=lb H B n as bs d' (M+1) vs (ga t g c wt) (hm _ _ s3) s2 (fun e he=>ha e (.tail _ he)) hb (fun z hz'=>hz z (by
    rw[Ki]at hz'
    rcases H9.mp hz' with hz' | hz'
    ·exact H8 _ hz'
    ·exact Hb _ (.tail _ hz')))
   rw[Ki]at c1 c4
   have hq:((as++bs).map il).length≤900:=by
    rw[Hl]
    have:=kX (P:=P) (Q:=Q) (as++bs)
    have:=s2.szl
    omega
   exact⟨vs',.step kc s1 hq c1,c2,c3,c4⟩
  have linkC:∀(c:Nat) (F:Fm) (v:List Nat),f=.leaf c→F.ok→E2 P Q c=.link (F.ex (E2 P Q))→Mk F.list v→aZ (Hd (S [c])) bk=some (S v)→uy P Q x y bk ((⟨wt,g,f,u,d'⟩:En)::as++bs) vs t (gH t (cb M d' ((bs++(⟨wt,g,f,u,d'⟩:En)::as).flatMap (eL P Q x y)))):=fun c F v hf hF hX hmk hbk=>by
   subst hf
   obtain⟨s1,s2,s3,s4⟩:=uE (qs:=as++bs) B h hF hX hmk hbk
   exact push [⟨wt,g,F,v,d'+1⟩] vs s1 s2 s3 (by rw[s4];simp) (fun e he=>by rw[H7]at he;subst he;rfl)
  have hP:=H.hP
  have hQ:=H.hQ
  have okP:=hP.ok fun c h=>h.to.to
  have okQ:=hQ.ok fun c h=>h.to
  cases f with
  |leaf c=>
   have hc:dv c:=(h.en _ (.head _)).ok
   rcases hc with rfl | rfl | rfl | rfl | rfl | rfl | rfl | rfl
   ·exact leafC 120 rfl (.inl rfl)
   ·exact leafC 88 rfl (.inr (.inl rfl))
   ·exact leafC 121 rfl (.inr (.inr (.inl rfl)))
   ·exact leafC 89 rfl (.inr (.inr (.inr rfl)))
   ·exact linkC 112 P u1 rfl okP (by rw[D0 hP];rfl) B.m1 (by rw[rQ];exact B.p)
   ·exact linkC 80 P u1 rfl okP (by rw[D0 hP];rfl) B.m1 (by rw[Cy];exact B.p)
   ·exact linkC 113 Q u2 rfl okQ (by rw[CZ hQ];rfl) B.m2 (by rw[v7];exact B.q)
   ·exact linkC 81 Q u2 rfl okQ (by rw[CZ hQ];rfl) B.m2 (by rw[EI];exact B.q)
  |node o l r=>
   obtain⟨bY,s1,s2,s3,s4⟩:=uD (qs:=as++bs) H B h
   exact push _ bY s1 s2 s3 (by rw[s4];simp) (fun e he=>by
    rcases bN he with rfl | rfl <;> rfl)
end
end
section
noncomputable abbrev Z:=Nat×Nat×Nat×Int
noncomputable def dR(z u:Z): Bool:=aP z.1 z.2.2.1 (u.1,u.2.2.1,0)
noncomputable def fB(g c:Nat)(E:List Z): Int:=(E.map fun z=>if aP g c (z.1,z.2.2.1,0)=true then z.2.2.2 else 0).sum
noncomputable def eY(val:Nat→Nat→Int): List Z→List (Nat×Nat×Int)
 |[]=>[]
 |z::E=>(if E.any (dR z)=true then[]else[(z.1,z.2.2.1,val z.1 z.2.2.1)])++eY val E
theorem cF{g c:Nat}{e:Nat×Nat×Int}: aP g c e=true↔e.1=g∧lo1 e.2.1=lo1 c:=by
 unfold aP;simp
theorem gV(g c:Nat)(z:Z)(E:List Z): fB g c (z::E)=(if aP g c (z.1,z.2.2.1,0)=true then z.2.2.2 else 0)+fB g c E:=by simp[fB]
theorem uB{g c:Nat}: ∀{E:List Z},(∀ u∈E,aP g c (u.1,u.2.2.1,0)=false)→fB g c E=0:=by
 intro E
 induction E with
 |nil=>
  rintro _
  exact rfl
 |cons z E ih=>
  rintro h
  rw[gV,h z (.head _),ih fun u hu=>h u (.tail _ hu)]
  simp
theorem uZ{g c:Nat}{e:Nat×Nat×Int}: ∀{t:List (Nat×Nat×Int)},(∀ u∈t,aP g c u=false)→bz g c (t++[e])=if aP g c e=true then e.2.2 else 0:=by
 intro t
 induction t with
 |nil=>
  rintro _
  exact rfl
 |cons u t ih=>
  rintro h
  show(if aP g c u=true then _ else bz g c (t++[e]))=_
  rw[h u (.head _),ih fun v hv=>h v (.tail _ hv)]
  simp
theorem lL{g c:Nat}{e:Nat×Nat×Int}(he:aP g c e=false): ∀ t:List (Nat×Nat×Int),bz g c (t++[e])=bz g c t
 |[]=>by show(if aP g c e=true then _ else _)=_;rw[he];rfl
 |u::t=>by
  show(if aP g c u=true then _ else bz g c (t++[e]))=(if aP g c u=true then _ else bz g c t)
  rw[lL he t]
theorem j0{g c g' c':Nat}(h:∀ e,aP g' c' e=true→aP g c e=false): ∀ t:List (Nat×Nat×Int),bz g' c' (t.filter fun e=>!aP g c e)=bz g' c' t
 |[]=>rfl
 |e::t=>by
  have ih:=j0 h t
  rw[IS]
  cases hs:aP g c e with
  |true=>
   simp only[Bool.not_true,Hq,if_false]
   rw[ih]
   have:aP g' c' e=false:=by
    cases h2:aP g' c' e with
    |true=>rw[h e h2]at hs;cases hs
    |false=>rfl
   show _=if aP g' c' e=true then _ else _
   rw[this];rfl
  |false=>
   skip
   show(if aP g' c' e=true then _ else bz g' c' _)=if aP g' c' e=true then _ else bz g' c' t
   rw[ih]
theorem lM{g c g' c':Nat}(h1:g'=g)(h2:lo1 c'=lo1 c): ∀ t:List (Nat×Nat×Int),bz g' c' t=bz g c t
 |[]=>rfl
 |e::t=>by
  show(if aP g' c' e=true then _ else bz g' c' t)=if aP g c e=true then _ else bz g c t
  have:aP g' c' e=aP g c e:=by unfold aP;rw[h1,h2]
  rw[this,lM h1 h2 t]
theorem v6(g c g' c':Nat)(w:Int)(t:List (Nat×Nat×Int)): bz g' c' (ga t g c w)=bz g' c' t+if aP g' c' (g,c,0)=true then w else 0:=by
 unfold ga
 by_cases hk:aP g' c' (g,c,0)=true
 ·rw[if_pos hk]
  obtain⟨k1,k2⟩:=cF.mp hk
  rw[uZ]
  ·have:aP g' c' (g,c,bz g c t+w)=true:=hk
   rw[if_pos this,lM (g':=g') (c':=c') k1.symm k2.symm t]
  ·intro u hu
   obtain hf:=(Jq.mp hu).2
   obtain e:aP g' c' u=aP g c u:=by unfold aP;simp only at k1 k2;rw[k1,k2]
   rw[e]
   simpa using hf
 ·rw[if_neg hk]
  have hk:aP g' c' (g,c,0)=false:=by simpa using hk
  have hk2:aP g' c' (g,c,bz g c t+w)=false:=hk
  rw[lL hk2,j0,Int.add_zero]
  intro e he
  obtain⟨a,b⟩:=cF.mp he
  cases h3:aP g c e with
  |false=>rfl
  |true=>
   obtain⟨a',b'⟩:=cF.mp h3
   have:aP g' c' (g,c,0)=true:=cF.mpr ⟨a'.symm.trans a,b'.symm.trans b⟩
   rw[hk]at this;cases this
theorem qb{v v':Nat→Nat→Int}(h:∀ g c,v g c=v' g c)(E:List Z): eY v E=eY v' E:=by
 obtain this:v=v':=by funext g c;exact h g c
 rw[this]
theorem lV:∀(E:List Z) (t:List (Nat×Nat×Int)),gH t E=t.filter (fun e=>!E.any fun z=>aP z.1 z.2.2.1 e)++eY (fun g c=>bz g c t+fB g c E) E
 |[],t=>by
  show t=t.filter (fun _=>true)++[]
  rw[Hj,List.filter_eq_self.mpr (fun _ _=>rfl)]
 |z::E,t=>by
  show gH (ga t z.1 z.2.2.1 z.2.2.2) E=_
  rw[lV E]
  have e1:eY (fun g c=>bz g c (ga t z.1 z.2.2.1 z.2.2.2)+fB g c E) E=eY (fun g c=>bz g c t+fB g c (z::E)) E:=qb (fun g c=>by rw[v6,gV];omega) E
  rw[e1]
  have e2:(ga t z.1 z.2.2.1 z.2.2.2).filter (fun e=>!E.any fun u=>aP u.1 u.2.2.1 e)=t.filter (fun e=>!(z::E).any fun u=>aP u.1 u.2.2.1 e)++(if E.any (dR z)=true then[]else[(z.1,z.2.2.1,bz z.1 z.2.2.1 t+fB z.1 z.2.2.1 (z::E))]):=by
   unfold ga
   rw[Ja,List.filter_filter]
   congr 1
   ·congr 1
    funext e
    simp only[L2,Bool.not_or]
    rw[Bool.and_comm]
   ·have sy:∀ u:Z,∀ n,aP u.1 u.2.2.1 (z.1,z.2.2.1,n)=dR z u:=fun u n=>by
     unfold dR
     cases h:aP z.1 z.2.2.1 (u.1,u.2.2.1,0)with
     |true=>
      obtain⟨a,b⟩:=cF.mp h
      exact cF.mpr ⟨a.symm,b.symm⟩
     |false=>
      cases h2:aP u.1 u.2.2.1 (z.1,z.2.2.1,n)with
      |false=>rfl
      |true=>
       obtain⟨a,b⟩:=cF.mp h2
       have:aP z.1 z.2.2.1 (u.1,u.2.2.1,0)=true:=cF.mpr ⟨a.symm,b.symm⟩
       rw[h]at this;cases this
    rw[IS,List.filter_nil]
    have:(E.any fun u=>aP u.1 u.2.2.1 (z.1,z.2.2.1,bz z.1 z.2.2.1 t+z.2.2.2))=E.any (dR z):=by
     congr 1
     funext u
     exact sy u _
    rw[this]
    cases hE:E.any (dR z)with
    |true=>rfl
    |false=>
     have h0:fB z.1 z.2.2.1 E=0:=uB fun u hu=>by
      rw[List.any_eq_false]at hE
      have:=hE u hu
      simpa[dR]using this
     have hs:aP z.1 z.2.2.1 (z.1,z.2.2.1,0)=true:=cF.mpr ⟨rfl,rfl⟩
     rw[gV,h0,hs]
     simp
  rw[e2,Ho]
  rfl
theorem vh(E:List Z): gH [] E=eY (fun g c=>fB g c E) E:=by
 rw[lV]
 simp[bz]
noncomputable def fQ(f:Z→Int)(zs:List Z): Int:=(zs.map f).sum
theorem d7(f:Z→Int)(z:Z)(zs:List Z): fQ f (z::zs)=f z+fQ f zs:=by simp[fQ]
theorem wu(f:Z→Int)(a b:List Z): fQ f (a++b)=fQ f a+fQ f b:=by simp[fQ]
theorem jU(f:Z→Int)(p:Z→Bool): ∀ zs,fQ f (zs.filter p)=fQ (fun z=>if p z=true then f z else 0) zs
 |[]=>rfl
 |z::zs=>by
  rw[IS,d7,←jU f p zs]
  split
  ·rw[d7]
  ·simp
theorem pO(f h:Z→Int): ∀ zs,fQ f zs+fQ h zs=fQ (fun z=>f z+h z) zs
 |[]=>rfl
 |z::zs=>by
  rw[d7,d7,d7,←pO f h zs];omega
theorem iu{f h:Z→Int}: ∀{zs:List Z},(∀ z∈zs,f z=h z)→fQ f zs=fQ h zs:=by
 intro zs
 induction zs with
 |nil=>
  rintro _
  exact rfl
 |cons z zs ih=>
  rintro e
  rw[d7,d7,e z (.head _),ih fun u hu=>e u (.tail _ hu)]
theorem pN(f:Z→Int)(zs:List Z): ∀(M l:Nat),fQ f (cb M l zs)=fQ (fun z=>if l≤z.2.1∧z.2.1<l+M then f z else 0) zs
 |0,l=>by
  show 0=_
  rw[iu (h:=fun _=>0) fun z _=>if_neg (by omega)]
  induction zs with
  |nil=>rfl
  |cons z zs ih=>rw[d7,←ih];rfl
 |M+1,l=>by
  show fQ f (zs.filter _++cb M (l+1) zs)=_
  rw[wu,jU,pN f zs M (l+1),pO]
  refine iu fun z _=>?_
  by_cases h:z.2.1=l
  ·have h3:¬ (l+1≤l∧l<l+1+M):=by omega
   simp[h,h3]
  ·have:(z.2.1==l)=false:=by simpa using h
   simp only[this,Hq,if_false,Mq]
   by_cases h2:l+1≤z.2.1∧z.2.1<l+1+M
   ·rw[if_pos h2,if_pos (by omega)]
   ·rw[if_neg h2,if_neg (by omega)]
theorem wq{g c M:Nat}{zs:List Z}(h:∀ z∈zs,z.2.1<M): fB g c (cb M 0 zs)=fB g c zs:=by
 show fQ _ _=fQ _ _
 rw[pN]
 exact iu fun z hz=>if_pos ⟨HT _,by obtain this:=h z hz;omega⟩
theorem wo{P Q:Fm}{x y:Int}(H:PQ P Q x y){g c:Nat}(hg:g=112∨g=113)(hc:bT c): fB g c (vX P Q x y)=(gX P Q g).der (eV c) x y:=by
 have key:∀(g':Nat) (l:List (Nat×Nat×Int)),(∀ z∈l,bT z.2.1)→fB g c (l.map fun z=>(g',z))=if g'=g then kM (eV c) l else 0:=fun g' l hl=>by
  induction l with
  |nil=>simp[fB,kM]
  |cons z l ih=>
   obtain hz:=hl z (.head _)
   obtain e:aP g c (g',z.2.1,0)=(decide (g'=g)&&decide (eV z.2.1=eV c)):=by
    unfold aP
    obtain this:(lo1 z.2.1==lo1 c)=decide (eV z.2.1=eV c):=by
     rcases hz with h | h | h | h <;> rcases hc with h' | h' | h' | h' <;> rw[h,h'] <;> rfl
    rw[this];rfl
   rw[HF,gV,ih fun u hu=>hl u (.tail _ hu)]
   show(if aP g c (g',z.2.1,0)=true then z.2.2 else 0)+_=_
   rw[e]
   obtain ek:kM (eV c) (z::l)=(if eV z.2.1=eV c then z.2.2 else 0)+kM (eV c) l:=by simp[kM]
   rw[ek]
   by_cases h1:g'=g
   ·by_cases h2:eV z.2.1=eV c <;> simp[h1,h2]
   ·simp[h1]
 unfold vX
 have ap:∀ a b:List Z,fB g c (a++b)=fB g c a+fB g c b:=fun a b=>by simp[fB]
 rw[ap,key 112 _ (fun z hz=>lH (w8 H.hP) _ _ z hz),key 113 _ (fun z hz=>lH (zz H.hP H.hQ) _ _ z hz),lI,lI]
 unfold gX
 rcases hg with rfl | rfl
 ·simp
 ·simp
end
section
theorem rA(p q:T)(x y:Int)(o:Int×Str×Str)(l:List (Int×Str×Str)): dd p q x y (o::l)=(if(l.filter (iS o)).isEmpty=true then[uO p q x y o]else[])++dd p q x y l:=by
 unfold dd
 rw[Hh,List.range_succ_eq_map,IL,List.flatMap_map]
 rfl
noncomputable abbrev v8(z:Z): Int×Str×Str:=lf z.1 z.2
theorem zU{z u:Z}(hz:bT z.2.2.1)(hu:bT u.2.2.1): iS (v8 z) (v8 u)=dR z u:=by
 skip
 show(S [u.1]==S [z.1]&&(Hd (S [u.2.2.1])==Hd (S [z.2.2.1])&&true))=(u.1==z.1&&lo1 u.2.2.1==lo1 z.2.2.1)
 rw[ql (by unfold bT at hu;omega),ql (by unfold bT at hz;omega),bt,bt,Bool.and_true]
 rfl
theorem tx{P Q:Fm}{x y:Int}(H:PQ P Q x y): ∀ E:List Z,(∀ z∈E,(z.1=112∨z.1=113)∧bT z.2.2.1)→dd P.toT Q.toT x y (E.map v8)=(tS (eY (fun g c=>(gX P Q g).der (eV c) x y) E)).map aY
 |[],_=>rfl
 |z::E,h=>by
  obtain⟨hg,hc⟩:=h z (.head _)
  rw[HF,rA,tx H E fun u hu=>h u (.tail _ hu)]
  have er:∀ v:Nat→Nat→Int,eY v (z::E)=(if E.any (dR z)=true then[]else[(z.1,z.2.2.1,v z.1 z.2.2.1)])++eY v E:=fun _=>rfl
  rw[er]
  have e1:((E.map v8).filter (iS (v8 z))).isEmpty = !E.any (dR z):=by
   rw[List.filter_map,Mf]
   have e2:E.filter (iS (v8 z)∘v8)=E.filter (dR z):=List.filter_congr fun u hu=>zU hc (h u (.tail _ hu)).2
   rw[e2]
   cases hE:E.any (dR z)with
   |true=>
    obtain⟨u,hu,hs⟩:=Mb.mp hE
    cases hf:E.filter (dR z)with
    |nil=>exact absurd hs (by rw[JT]at hf;exact hf u hu)
    |cons _ _=>rfl
   |false=>
    rw[List.any_eq_false]at hE
    have:E.filter (dR z)=[]:=JT.mpr hE
    rw[this];rfl
  have e3:uO P.toT Q.toT x y (v8 z)=aY (S [z.1,46,z.2.2.1],strI ((gX P Q z.1).der (eV z.2.2.1) x y)):=by
   skip
   have:=mY H hg hc (d:=z.2.1) (w:=z.2.2.2)
   show aY (bu (S [z.1]) (S [z.2.2.1]),strI (ci P.toT Q.toT x y (lf z.1 (z.2.1,z.2.2.1,z.2.2.2))))=_
   rw[this,lE]
  rw[e1,e3]
  cases E.any (dR z) <;> rfl
theorem jT{R:Nat→Nat→Prop}(irr:∀ a,¬ R a a)(tr:∀ a b c,R a b→R b c→R a c): ∀{I J:List Nat},I.Pairwise R→J.Pairwise R→(∀ a,a∈I↔a∈J)→I=J
 |[],[],_,_,_=>rfl
 |[],b::J,_,_,h=>absurd ((h b).mpr (.head _)) (by simp)
 |a::I,[],_,_,h=>absurd ((h a).mp (.head _)) (by simp)
 |a::I,b::J,hI,hJ,h=>by
  rw[Kx]at hI hJ
  have e:a=b:=by
   rcases Ha.mp ((h a).mp (.head _))with e | ha
   ·exact e
   ·rcases Ha.mp ((h b).mpr (.head _))with e | hb
    ·exact e.symm
    ·exact absurd (tr _ _ _ (hI.1 b hb) (hJ.1 a ha)) (irr a)
  subst e
  rw[jT irr tr hI.2 hJ.2 fun c=>?_]
  constructor
  ·intro hc
   rcases Ha.mp ((h c).mp (.tail _ hc))with rfl | h'
   ·exact absurd (hI.1 _ hc) (irr _)
   ·exact h'
  ·intro hc
   rcases Ha.mp ((h c).mpr (.tail _ hc))with rfl | h'
   ·exact absurd (hJ.1 _ hc) (irr _)
   ·exact h'
theorem zJ:∀{I J:List Nat},I.Nodup→(∀ a∈I,a∈J)→I.length≤J.length:=by
 intro I
 induction I with
 |nil=>
  rintro _ _ _
  exact HT _
 |cons a I ih=>
  rintro J hI h
  rw[Hu]at hI
  obtain this:=ih hI.2 fun b hb=>(MS (by rintro rfl;exact hI.1 hb)).mpr (h b (.tail _ hb))
  rw[M0 (h a (.head _))]at this
  obtain hp:0<J.length:=List.length_pos_of_mem (h a (.head _))
  rw[Hh];omega
theorem G0{n:Nat}{I:List Nat}(hn:I.Nodup)(hl:I.length=n)(hb:∀ a∈I,a<n): ∀ j,j<n→j∈I:=fun j hj=>by
 by_cases h:j∈I
 ·exact h
 ·exfalso
  obtain this:=zJ (J:=(Ix n).erase j) hn fun a ha=>(MS (by rintro rfl;exact h ha)).mpr (JG.mpr (hb a ha))
  rw[M0 (JG.mpr hj),List.length_range]at this
  omega
noncomputable def iB(key:Nat→Nat)(n:Nat): Nat→Nat→List Nat
 |0,_=>[]
 |M+1,l=>(Ix n).filter (fun i=>key i==l)++iB key n M (l+1)
theorem g7{key:Nat→Nat}{n:Nat}: ∀{M l i:Nat},i∈iB key n M l↔i<n∧l≤key i∧key i<l+M
 |0,l,i=>⟨fun h=>absurd (show i∈([]:List Nat)from h) Hs,fun h=>absurd h.2.2 (Hz.mpr h.2.1)⟩
 |M+1,l,i=>by
  unfold iB
  rw[H9,g7,Jq,JG,beq_iff_eq,Nat.succ_add_eq_add_succ]
  constructor
  ·rintro(⟨h,rfl⟩ | ⟨h,a,b⟩)
   ·exact⟨h,Hw _,Ib (Io _)⟩
   ·exact⟨h,K7 a,b⟩
  ·rintro⟨h,a,b⟩
   exact(Nat.eq_or_lt_of_le a).imp (fun e=>⟨h,e.symm⟩) fun a=>⟨h,a,b⟩
theorem ij(key:Nat→Nat)(n:Nat): ∀ M l:Nat,(iB key n M l).Pairwise (Lk fun i=>(key i:Int))
 |0,l=>List.Pairwise.nil
 |M+1,l=>Jx.mpr ⟨M3 (fun{a b} ha hb hab=>.inr ⟨congrArg _ ((beq_iff_eq.mp (Jq.mp ha).2).trans (beq_iff_eq.mp (Jq.mp hb).2).symm),hab⟩) (List.Pairwise.filter (fun i=>key i==l) List.pairwise_lt_range),ij key n M (l+1),fun a ha b hb=>.inl (N6.mpr (beq_iff_eq.mp (Jq.mp ha).2▸(g7.mp hb).2.1))⟩
theorem se(zs:List Z)(d:Z)(p:Z→Bool): zs.filter p=((Ix zs.length).filter fun i=>p (zs.getD i d)).map fun i=>zs.getD i d:=by
 obtain e:zs=(Ix zs.length).map fun i=>zs.getD i d:=by
  apply List.ext_getElem
  ·simp
  ·intro i h1 h2
   simp[h1]
 conv=>lhs;rw[e]
 rw[List.filter_map]
 rfl
theorem nU(zs:List Z)(d:Z): ∀ M l:Nat,cb M l zs=(iB (fun i=>(zs.getD i d).2.1) zs.length M l).map fun i=>zs.getD i d
 |0,_=>rfl
 |M+1,l=>by
  unfold cb iB
  rw[HW,nU zs d M (l+1),se zs d]
theorem rt{zs:List Z}{l:List (Int×Str×Str)}{M:Nat}(h:eO (zs.map v8) l)(hM:∀ z∈zs,z.2.1<M): l=(cb M 0 zs).map v8:=by
 obtain⟨J,hn,hb,ho⟩:=h
 obtain d:Z:=(0,0,0,0)
 rw[Hl]at hn hb
 have at':∀ i,i<zs.length→zs[i]? = some (zs.getD i d):=fun i hi=>by rw[Ia,Hv hi];rfl
 have irr:∀ a,¬ Lk (fun i=>((zs.getD i d).2.1:Int)) a a:=fun a h=>h.elim (Int.lt_irrefl _) fun h=>Ie _ h.2
 have hp:J.Pairwise (Lk fun i=>((zs.getD i d).2.1:Int)):=by
  have key:∀ i∈J,((zs.map v8).map (·.1)).getD i 0=((zs.getD i d).2.1:Int):=fun i hi=>by
   rw[Ia,JR,KO,at' i (hb i hi)]
   rfl
  refine M3 (fun{i j} hi hj hij=>?_) ho
  dsimp only[Lk]at hij
  rwa[key i hi,key j hj]at hij
 have kI:J=iB (fun i=>(zs.getD i d).2.1) zs.length M 0:=by
  refine jT irr (fun a b c=>Lk.tr) hp (ij _ _ _ _) fun a=>⟨fun ha=>g7.mpr ⟨hb a ha,HT _,?_⟩,fun ha=>G0 (hp.imp fun{a b} hab (e:a=b)=>irr a (by rwa[←e]at hab)) hn hb a (g7.mp ha).1⟩
  rw[Jc]
  exact hM _ (HH (at' a (hb a ha)))
 rw[nU zs d,←kI]
 unfold n9
 rw[JR]
 refine Lh fun i hi=>?_
 show(zs.map v8).getD i default=v8 (zs.getD i d)
 rw[Ia,KO,at' i (hb i hi)]
 rfl
theorem lN{a b:Int}: ∀(t:X) (w:Int) (d:Nat),∀ z∈t.lw a b w d,z.1<d+t.sz
 | .leaf c,w,d,z,hz=>by
  rw[X.lw,H7]at hz
  subst hz
  show d<d+1
  omega
 | .link t,w,d,z,hz=>by
  have:=lN t w (d+1) z hz
  show z.1<d+(1+t.sz)
  omega
 | .node o l r,w,d,z,hz=>by
  show z.1<d+(1+l.sz+r.sz)
  rcases H9.mp hz with hz | hz
  ·have:=lN l _ (d+1) z hz;omega
  ·have:=lN r _ (d+1) z hz;omega
noncomputable def Fm.szn:Fm→Nat
 | .leaf _=>1
 | .node _ l r=>1+l.szn+r.szn
theorem Fm.szn_lv:∀ f:Fm,f.szn+1=2*f.lvn
 | .leaf _=>rfl
 | .node o l r=>by
  have h1:=Fm.szn_lv l
  have h2:=Fm.szn_lv r
  show 1+l.szn+r.szn+1=2*(l.lvn+r.lvn)
  omega
theorem FH:∀ f:Fm,(f.ex E0).sz=f.szn
 | .leaf c=>rfl
 | .node o l r=>by show 1+(l.ex E0).sz+(r.ex E0).sz=_;rw[FH l,FH r];rfl
theorem FT{P:Fm}(hP:P.lvn=3): ∀ f:Fm,(f.ex (E1 P)).sz+1≤7*f.lvn
 | .leaf c=>by
  show(E1 P c).sz+1≤7
  unfold E1
  split
  ·show 1+(P.ex E0).sz+1≤7
   have:=Fm.szn_lv P
   rw[FH];omega
  ·exact show 1+1≤7 by decide
 | .node o l r=>by
  have h1:=FT hP l
  have h2:=FT hP r
  show 1+(l.ex (E1 P)).sz+(r.ex (E1 P)).sz+1≤7*(l.lvn+r.lvn)
  omega
end
section
theorem ot{v v':Nat→Nat→Int}: ∀{E:List Z},(∀ z∈E,v z.1 z.2.2.1=v' z.1 z.2.2.1)→eY v E=eY v' E:=by
 intro E
 induction E with
 |nil=>
  rintro _
  exact rfl
 |cons z E ih=>
  rintro h
  obtain er:∀ v:Nat→Nat→Int,eY v (z::E)=(if E.any (dR z)=true then[]else[(z.1,z.2.2.1,v z.1 z.2.2.1)])++eY v E:=fun _=>rfl
  rw[er,er,h z (.head _),ih fun u hu=>h u (.tail _ hu)]
theorem nT{zs:List Z}{z:Z}: ∀{M l:Nat},z∈cb M l zs→z∈zs
 |0,_,h=>nomatch h
 |M+1,l,h=>by
  skip
  rcases H9.mp h with h | h
  ·exact(Jq.mp h).1
  ·exact nT h
theorem uJ{P Q:Fm}{x y:Int}(H:PQ P Q x y){l:List (Int×Str×Str)}(hs:eO (cv P.toT Q.toT) l)(hM:∀ z∈vX P Q x y,z.2.1<64): dd P.toT Q.toT x y l=(tS (gH [] (cb 64 0 (vX P Q x y)))).map aY:=by
 rw[iz H.hP x y]at hs
 have hm:=fun z hz=>tL H z (nT (M:=64) (l:=0) (z:=z) hz)
 rw[rt hs hM,tx H _ hm,vh]
 congr 2
 refine ot fun z hz=>?_
 obtain⟨hg,hc⟩:=hm z hz
 show _=fB z.1 z.2.2.1 (cb 64 0 (vX P Q x y))
 rw[wq hM,wo H hg hc]
noncomputable def rb:En:=⟨1,112,.leaf 112,[112],0⟩
noncomputable def ra:En:=⟨1,113,.leaf 81,[81],0⟩
theorem AG{m n:Nat}(h:m≤n): gB m≤gB n:=JF h (IR (by decide) h)
theorem CC(d:aK): BW d:=by
 obtain H:=d.pq
 obtain⟨u0,u1,u2,W⟩:=d.words
 have B:Bk d.P d.Q (cn d) u1 u2:=⟨by unfold cn;rw[xc,A9,W.e1,W.e2],W.m1,W.m2⟩
 obtain hx:=H.hx
 obtain hy:=H.hy
 obtain p10:(9:Nat)<10 ^ 10:=by decide
 obtain nYS:FK=S [89]:=by decide +kernel
 have ev:d6 d=[(S [120],strI d.x),(S [89],strI d.y)]:=by unfold d6;rw[Ck,nYS]
 obtain lX:Hd (S [120])=S [120]:=ql (c:=120) (by decide)
 obtain lY:Hd (S [89])=S [121]:=ql (c:=89) (by decide)
 obtain hsnd:sY d.P d.Q d.x d.y (d6 d):=by
  rw[ev]
  refine⟨?_,⟨strI d.x,?_⟩,⟨strI d.y,?_⟩⟩
  ·intro p hp
   rcases bN hp with rfl | rfl
   ·exact⟨.leaf 120,.inl rfl,rfl,(show 1≤100 by decide),rfl,(show d.x.natAbs<10 ^ 10 by omega)⟩
   ·exact⟨.leaf 89,.inr (.inr (.inr (.inl rfl))),rfl,(show 1≤100 by decide),rfl,(show d.y.natAbs<10 ^ 10 by omega)⟩
  ·unfold aZ;rw[lX];simp
  ·unfold aZ;rw[lX,bt]
   unfold aZ;rw[lY];simp
 obtain lvP:=H.lvP
 obtain lvQ:=H.lvQ
 have szP:(d.P.ex E0).sz=5:=by obtain this:=Fm.szn_lv d.P;obtain this:=H.nP;rw[FH];omega
 have szQ:(d.Q.ex (E1 d.P)).sz≤20:=by obtain this:=FT H.nP d.Q;obtain this:=H.nQ;omega
 have xP:eX d.P d.Q rb=.link (d.P.ex E0):=rfl
 have xQ:eX d.P d.Q ra=.link (d.Q.ex (E1 d.P)):=rfl
 have sP:(eX d.P d.Q rb).sz=6:=by rw[xP];show 1+(d.P.ex E0).sz=6;omega
 have sQ:(eX d.P d.Q ra).sz≤21:=by rw[xQ];show 1+(d.Q.ex (E1 d.P)).sz≤21;omega
 have vP:(eX d.P d.Q rb).lv=3:=by rw[xP];exact lvP
 have vQ:(eX d.P d.Q ra).lv≤9:=by rw[xQ];exact lvQ.2
 obtain okE:∀ e∈[rb,ra],ze d.P d.Q e:=by
  intro e he
  rcases bN he with rfl | rfl
  ·exact⟨.inr (.inr (.inr (.inr (.inl rfl)))),d8 (show 34∉[112]by decide),(show∀ c∈[112],c<128 by decide),(show[112].length≤400 by decide),.inl rfl,by omega,by omega⟩
  ·exact⟨.inr (.inr (.inr (.inr (.inr (.inr (.inr rfl)))))),d8 (show 34∉[81]by decide),(show∀ c∈[81],c<128 by decide),(show[81].length≤400 by decide),.inr rfl,by omega,by omega⟩
 obtain hsz:fK d.P d.Q [rb,ra]≤27:=by
  obtain this:fK d.P d.Q [rb,ra]=(eX d.P d.Q rb).sz+(eX d.P d.Q ra).sz:=by simp[fK]
  omega
 obtain hph:phi d.P d.Q [rb,ra]≤9*10 ^ 9:=by
  obtain e:phi d.P d.Q [rb,ra]=1*gB (eX d.P d.Q rb).lv+1*gB (eX d.P d.Q ra).lv:=by simp[phi,rb,ra]
  obtain h1:=AG vQ
  obtain h2:gB 9=3486784401:=by decide
  obtain h3:gB 3=2187:=by decide
  skip
  omega
 obtain hv2:(d6 d).length=2:=by rw[ev];rfl
 obtain hst:St d.P d.Q d.x d.y ([rb,ra]++[]) (d6 d) []:=by
  rw[Hj]
  exact⟨okE,hsnd,(fun e he=>nomatch he),by omega,by show 0+_≤_;omega,by omega,by show _+9*0≤_;omega⟩
 have elvs:([]++[rb,ra]).flatMap (eL d.P d.Q d.x d.y)=vX d.P d.Q d.x d.y:=by
  simp only[Iy,IL,List.flatMap_nil,Hj]
  rfl
 have hM:∀ z∈vX d.P d.Q d.x d.y,z.2.1<64:=fun z hz=>by
  skip
  rcases H9.mp hz with hz | hz
  ·obtain⟨v,hv,rfl⟩:=Hm.mp hz
   obtain this:=lN _ _ _ v hv
   show v.1<64
   omega
  ·obtain⟨v,hv,rfl⟩:=Hm.mp hz
   obtain this:=lN _ _ _ v hv
   show v.1<64
   omega
 obtain⟨bY,c1,c2,c3,c4⟩:=lb H B (2*fK d.P d.Q ([rb,ra]++[])) [rb,ra] [] 0 64 (d6 d) [] (by simp) hst (fun e he=>by
  rcases bN he with rfl | rfl <;> rfl) (fun e he=>nomatch he) (by
  rw[elvs]
  intro z hz
  obtain this:=hM z hz
  omega)
 rw[elvs]at c1 c4
 obtain eA:il rb=gf:=by decide +kernel
 obtain eB:il ra=ka:=by decide +kernel
 have s80:sF d.P d.Q (.leaf 80)=6:=by show 1+(d.P.ex E0).sz=6;omega
 obtain s113:sF d.P d.Q (.leaf 113)≤21:=by show 1+(d.Q.ex (E1 d.P)).sz≤21;omega
 obtain⟨cc,a1,a2,a3,_⟩:=iq H B 100 (.leaf 80) (.inr (.inr (.inr (.inr (.inr (.inl rfl)))))) (by omega) (by omega) (by show(d.P.ex E0).lv≤9;omega) bY c2 (by omega) 60 (by omega)
 obtain⟨r9,b1,b2,b3,_⟩:=iq H B 100 (.leaf 113) (.inr (.inr (.inr (.inr (.inr (.inr (.inl rfl))))))) (by omega) (by omega) (by show(d.Q.ex (E1 d.P)).lv≤9;omega) cc a2 (by omega) 60 (by omega)
 obtain nbig:H5 "P" = S [80]:=by decide +kernel
 obtain nqs:H5 "q" = S [113]:=by decide +kernel
 refine⟨Aq d,zY d,gg (by omega),gg (by omega),by rw[d.p_eq,d.q_eq];exact Dh H,60,bY,tS (gH [] (cb 64 0 (vX d.P d.Q d.x d.y))),cc,r9,Hw _,?_,?_,?_,?_,?_⟩
 ·rw[←eA,←eB];exact c1
 ·rw[nbig,d.p_eq,oe H.hP];exact a1
 ·rw[nqs,d.p_eq,d.q_eq,rg H.hP H.hQ];exact b1
 ·unfold tS;rw[Hl];omega
 ·intro l hl
  rw[d.p_eq,d.q_eq]at hl ⊢
  exact uJ H hl hM
end
theorem tH{α β γ:Type}{f:α→Option β}{g:γ→α}{v:γ→β}{l:List γ}(h:(l.map g).map f=l.map fun p=>some (v p)): ∀ p∈l,f (g p)=some (v p):=by
 rw[JR]at h
 exact List.map_inj_left.mp h
noncomputable def pH:List Str:=looseW qV jG++((recsOf qV).map (·.name)++((litsOf qV).map (·.1)++(clssOf qV (looseW qV jG)).map (·.name)))
theorem fX{x:Str}(hs:Ml.contains x=false)(hb:(Iz x).isSome=true): x∉pH:=fun h=>by
 have e:=Kc.mp (show pH.all (fun y=>Ml.contains y||!(Iz y).isSome)=true by decide +kernel) x h
 rw[hs,hb]at e
 cases e
theorem pD{h:Heap}{vs:List Value}{ns:List Int}(z:IntsAre vs ns): bf h (ns.map PV.int) vs []:=by
 induction z with
 |nil=>exact .nil
 |cons n t _ ih=>exact .cons (F:=[]) (.int n t) ih
theorem xq{w:World}{s₀ s₁:Shared}{mg mb:Str→Option Value}{mean:ExcName→Option Value}{ns:List Int}{vs:List Value}{l fa:Addr}(T:Top qV (looseW qV jG) mean mg mb s₁.heap)(y:Cf s₀=C2 w)(k:∀ b o,s₀.heap.get? b=some o→s₁.heap.get? b=some o)
  (hmg:mg (H5 "law")=some (.ref fa)) (hl:s₁.heap.IsList l vs.toArray) (hw:∃ vs':List Value,s₁.heap.get? l=some (bn vs' 0)) (hi:IntsAre vs ns) (hn:ns.length≤63) (hg:s₁.gens=#[]):
  wpAny (model pw w) callerA (call (.ref fa) [.ref l]) (fun v s'=>v=.bool true∧OldK s₁.heap s'.heap∧s'.os=s₁.os∧AllBare s'.gens) (fun _ _=>False) s₁:=by
 have tab:∀ p∈xC w,s₁.heap.get? p.1=some p.2:=fun p hp=>k _ _ (tH (l:=xC w) (g:=fun p=>p.1) (v:=fun p=>p.2) ((congrArg (Ly s₀.heap.get?) (show(xC w).map (fun p=>p.1)=xE by kernel_rfl)).trans (congrArg Prod.fst y)) p hp)
 have name:∀ p∈jJ,mg p.1=some p.2:=fun p hp=>by
  have e:=tH (l:=jJ) (g:=fun p=>p.1) (v:=fun p=>p.2) (show(jJ.map fun p=>p.1).map (s₀.heap.nsMap IB)=jJ.map fun p=>some p.2 from congrArg Prod.snd y) p hp
  unfold Heap.nsMap at e
  cases hm:s₀.heap.get? IB with
  |none=>rw[hm]at e;cases e
  |some o=>
   rw[T.g.eq_nsMap]
   unfold Heap.nsMap
   rw[k _ _ hm,←hm]
   exact e
 have low:348≤s₁.heap.objs.size:=Hr (tab (347,_) (.tail _ (.tail _ (Hb _ (cQ (i:=81) rfl)))))
 have g:G aa (ac w) s₁.heap:=⟨low,T.nolimit,T.nodigits,⟨mg,T.g,fun x=>⟨fun v hv=>name (x,v) (.tail _ (.tail _ (dE hv))),fun hb hs=>T.free x (fun h=>by rw[List.contains_iff_mem.mpr h]at hs;cases hs)
  (fun h=>fX hs hb (H8 _ h)) (fun h=>fX hs hb (Hb _ (H8 _ h)))
  (fun h=>fX hs hb (Hb _ (Hb _ (H8 _ h)))) fun h=>fX hs hb (Hb _ (Hb _ (Hb _ h)))⟩⟩,
  ⟨mb,T.b,T.builtins⟩,fun p hp=>tab p (.tail _ (.tail _ hp))⟩
 have bi:w5 s₁.heap:=by
  obtain⟨bm,ob,e,n1,hb,r⟩:=T.bmain
  have e4:=(name (H5 "__builtins__",.ref 4) (.head _)).symm.trans e
  cases e4
  exact⟨mg,4,ob,T.g,e,by decide,n1,by decide,by decide,by decide,hb,r⟩
 have hP1:=tab (288,tabObj #[]) (.head _)
 have hP2:=tab (337,tabObj #[]) (.tail _ (.head _))
 cases hmg.symm.trans (name (H5 "law",.ref 347) (.tail _ (.head _)))
 obtain⟨vs',e1⟩:=hw
 obtain⟨o,e2,_,n,e3⟩:=hl
 cases e1.symm.trans e2
 have ev:vs'=vs:=congrArg Array.toList (Data.seq.inj e3).1
 subst ev
 refine Hf (yK (A:=callerA) ⟨rfl,by decide,by decide⟩ g bi hP1 hP2 (H6 hn (by decide)) (.lst e1 (pD hi) (by simp)) (CC _)) (fun v s' hh=>?_) fun _ _ h=>h
 obtain⟨rfl,st,t1,t2⟩:=hh
 refine⟨rfl,⟨fun b o e=>?_,fun b o e=>?_⟩,st.os,st.bare (by rw[hg];exact AllBare.empty)⟩
 ·by_cases hb:b∈[288,337]
  ·have old:∀{b c:Addr} {oc:Obj} {ws:Array Value},(c,oc)∈xC w→oc.cls=.type "code"→oc.data=.fields ws→ws[11]? = some (.ref b)→s₁.heap.get? b=some (tabObj #[])→s₁.heap.get? b=some o→TB b s'.heap→asItWas s₁.heap s'.heap b o:=fun hc h1 h2 h3 hP e t=>by
    cases hP.symm.trans e
    obtain⟨m,t⟩:=t
    exact .inr (.inl ⟨⟨_,_,_,tab _ hc,h1,h2,h3⟩,rfl,#[],m,rfl,by rw[t,Array.empty_append]⟩)
   rcases bN hb with rfl | rfl
   ·exact old (.tail _ (.tail _ (Hb _ (cQ (i:=64) rfl)))) rfl rfl rfl hP1 e t1
   ·exact old (.tail _ (.tail _ (Hb _ (cQ (i:=78) rfl)))) rfl rfl rfl hP2 e t2
  ·exact .inl (st.heap.keep _ _ e (.inl hb))
 ·by_cases hb:b∈[288,337]
  ·rcases bN hb with rfl | rfl
   ·exact⟨_,t1.choose_spec⟩
   ·exact⟨_,t2.choose_spec⟩
  ·exact⟨o,st.heap.keep _ _ e (.inl hb)⟩
end Mine.Internal
set_option tactic.hygienic true
open PySem PySem.W PyProof.Rows PySem.W.X Mine.Internal
set_option maxRecDepth 100000 in
set_option maxHeartbeats 8000000 in
theorem PySem.Challenge.cw_sh0065_01_holds : PySem.Challenge.rw_sh0065_01.Holds := by
  w_on
  refine PySem.W.holds_law (by decide +kernel) fun said => ?_
  refine holds_openX (q := qV) (loose := jG) (Xt := GQ) (XP := XL qV []) (Yf := Cf) (Ya := C2) (N := 7000) xn (fun s e => xl_of s (L8.mp e).1) XL.keeps (by rfl) (by rfl) (by rfl) (fun s e => recFacts_of (L8.mp e).2) (by rfl) (by first | assumption | decide +kernel) (by decide +kernel) ⟨rfl, rfl, rfl, rfl, rfl, by decide +kernel⟩ ?hw ?hc
  case hw => w_witness2
  intro w s₀ s₁ mg mb G y fa o pm cd doc dV kV ho hd hcd hD hmg hg args vals as L hpre hlay hrd hwl hlo
  replace hmg : mg (H5 "law") = some (.ref fa) := hmg
  clear ho hd hcd hD
  have T := G.T
  clear G
  wrow_args hpre hlay hrd hwl hlo
  rename_i ns _ _ _ _ _ _ _ l vs _ hl _ hw _ hi _ hn _
  refine Hf (xq T y L.keeps hmg hl (by cases (show Well _ _ _ (.list _) from hw) with | list e _ => exact ⟨_, e⟩) hi (by omega) hg) (fun v s' h => ?_) fun _ _ h => h.elim
  obtain ⟨rfl, hO, hos, hb⟩ := h
  exact ⟨.inl ⟨_, _, [], rfl, fun _ => rfl, ReadsW.bool true, by first | rfl | wrow_post, fun _ => ⟨Ls, fun _ hm => (nomatch hm)⟩⟩, hO, hos, hb⟩
