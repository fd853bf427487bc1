import PyProof.Rows.All
import Wide.All
import OpenK.AllK
import Wide.FinOn
import KE.KItem
import PyProof.GenQ
import PyProof.ConsumeS
import PyProof.TupleOfGen
import Lean
import PySem.Challenge.RW_iu0032_05
set_option Elab.async false
set_option linter.all false
set_option maxRecDepth 100000
set_option maxHeartbeats 0
set_option tactic.hygienic false
set_option genSizeOf false
namespace Mine.Internal
open And renaming left→FN,right→FO
open Array renaming getElem?_eq_some_iff→FP,getElem?_setIfInBounds_self_of_lt→FQ
open Bool renaming and_eq_true_iff→FR,and_eq_true→FS,false_ne_true→FT,or_eq_true_iff→FU,false_eq_true→FV,true_and→FW,or_false→FX,and_true→FY,not_eq_true'→FZ
open Classical renaming byContradiction→F0
open Eq renaming trans→F1,symm→F3
open ForInStep renaming yield→F4
open Int renaming natCast_nonneg→F5,le_trans→F6,not_lt→F7,toNat_natCast→F8,ofNat_lt→F9,ofNat_le→F_,lt_of_lt_of_le→F',le_of_lt→Ga,add_le_add_right→Gb,lt_of_le_of_lt→Gc,le_of_lt_add_one→Ge,lt_iff_le_and_ne→Gf,sub_nonneg_of_le→Gg,fmod_nonneg_of_pos→Gh,fmod_lt_of_pos→Gi
open LawfulBEq renaming eq_of_beq→Gj
open List renaming length_map→Gk,mem_append→Gl,prefix_append→Gm,mem_singleton→Gn,length_zip→Go,mem_cons→Gp,replicate→Gq,of_mem_zip→Gr,range→Gs,prefix_refl→Gu,forall_mem_cons→Gv,all_eq_true→Gw,append_assoc→Gx,getElem?_eq_some_iff→Gy,append_nil→Gz,mem_map→GA,getElem?_eq_getElem→GB,lookup→GC,not_mem_nil→GD,length_append→GE,lookup_cons→GF,getElem?_concat_length→GG,nil_subset→GH,length_cons→GI,mem_append_left→GJ,map_map→GK,eq_nil_of_length_eq_zero→GL,getElem?_map→GM,getElem_mem→GN,getElem?_append_left→GO,getD_eq_getElem?_getD→GP,length_range→GQ,size_toArray→GR,mem_append_right→GS,forIn_cons→GT,mem_filterMap→GU,reverse_cons→GV,length_eq_zero_iff→GW,getElem?_set_ne→GX,mem_of_getElem?→GY,getElem?_append_right→GZ,all_cons→G0,getElem?_toArray→G1,length_set→G2,any_cons→G3,isEmpty_iff→G4,any_eq_false→G5,filter_cons→G6,mem_of_mem_take→G7,map_congr_left→G8,zip_cons_cons→G9,lookup_cons_self→G_,length_singleton→G',filterMap_cons→Ha,replicate_succ→Hb,lookup_append→Hc,subset_append_left→Hd,length_take→He,cons_ne_nil→Hf,mem_range→Hg,getElem?_eq_none_iff→Hh,mem_cons_of_mem→Hi,flatten_cons→Hj,getElem?_set_self→Hk,pairwise_cons→Hl,getElem?_zip_eq_some→Hm,length_reverse→Hn,contains_iff_mem→Ho,exists_cons_of_ne_nil→Hp,filter_eq_self→Hq,map_replicate→Hr,take_succ_eq_append_getElem→Hs,eraseIdx_eq_take_drop_succ→Ht
open Nat renaming le_trans→Hu,le_refl→Hv,succ_pos→Hw,lt_succ_self→Hx,not_lt→Hy,le_succ→Hz,le_add_right→HA,le_add_left→HB,lt_of_le_of_lt→HC,zero_le→HD,le_of_ble_eq_true→HE,lt_of_lt_of_le→HF,le_succ_of_le→HG,le_of_lt→HH,lt_irrefl→HI,ne_of_gt→HJ,lt_of_lt_of_eq→HK,not_lt_zero→HL,add_le_add_left→HM,lt_of_succ_lt_succ→HN,min_self→HO,lt_succ_of_lt→HP,add_le_add_right→HQ,add_comm→HR,sub_self→HS,ne_of_lt→HT,min_le_left→HU,lt_of_succ_lt→HV,zero_add→HW,le_of_eq→HX,lt_add_of_pos_right→HY,add_right_comm→HZ,add_right_cancel→H0,lt_succ_of_le→H1
open Option renaming map_eq_some_iff→H3,isSome_iff_exists→H4,bind_some→H7
open Option.some renaming inj→H8
open PySem renaming wpAny→H9,wpAny_bind→H_,wpAny_pure→H',wpAny_mono→Ia,wpAny_field→Ib,wpAny_holding→Ic,wpAny_rule→Ie,wpAny_newObj_type→Ig,wpAny_of_eq→Ih,codeAny_builtin→Ii,wpAny_call_entry→Ij,plainId_quiet→Ik,wpAny_standAt→Il,wpAny_callSpecial?_slot→Im,seg_bind_wrap→Io,wpAny_setField_rec→Iq,wpAny_seqItems→Iu,wpAny_typeOf→Iv,wpAny_setField→Iw,wpAny_specialOf→Ix,wpAny_updateSeq→Iy,wpAny_letGo→Iz,codeAny_mono→IA,wpAny_isInstance→IC,wpAny_call→ID,typeIs_int→IE,call_meets→IF,typeLookup_type→IG,builtinLookup_eq_fast→IH,wpAny_items_cons→II,isSubtype_type→IJ,signature?_of→IK,wpAny_newTuple→IM,wpAny_items_nil→IN,wpAny_truthy_bool→IO,wpAny_forIn_list→IP,codeAny_of_tree→IQ,call_function_tree→IR,wpAny_pyIter_gen→IS,codeAny_call_builtin→IT,seqSlot_of→IU
open PySem.Around renaming under_plainId→IW,frames_deeper→IX
open PySem.Builtin.List renaming listTooLong→IY,listExtendWith→IZ,listFitsIndex→I0,listSameRef→I2,listLengthHint→I3
open PySem.Builtin.Range renaming rangeSize→I4,small→I5
open PySem.Builtin.Slice renaming sliceAdjust→I6,slicePlaces→I7,sliceApplied→I8
open PySem.Builtin.SmallTypes renaming ownedTupleIsFree→I9,nextOf→I_,ownedTupleHandOut→Ja,newClass→Jb,fitsIndex→Jc,iterAll→Jd
open PySem.Builtin.Tuple renaming tupleExact→Je,tupleItemsOf→Jf,tupleIsExact→Jg
open PySem.Challenge renaming rw_iu0032_05→Jh
open PySem.Code renaming builtin→Ji,quiet_builtin→Jj
open PySem.F renaming called_tuple→Jk,plain_extend_loop→Jl,plain_any_loop→Jm,plain_sum_loop→Jn,slot_tuple_getitem→Jo,slot_lri_next→Jp,slot_int_rmul→Jq,plain_list_iadd→Jr,plain_tuple_new→Js,plain_all_loop→Jt,slot_tuple_add→Ju,entry_tuple_add→Jv,args_tuple_add_2→Jw,slot_range_iterator_next→Jx,slot_zip_next→Jy,slot_enumerate_next→Jz,owner_object→JA,slot_tuple_mul→JB,typeCall_tuple_1→JC,args_object_init_2→JD,entry_extend_loop→JE
open PySem.Heap renaming get?_push_size→JF,get?_push_of_some→JG,size_push→JH,lt_size→JI,get?_update_self→JJ,SameBut→JK,size_after_update→JL,get?_update_other→JM
open PySem.Heap.SameBut renaming update→JN
open PySem.NameKind renaming free→JO,cell→JP
open PySem.Obj renaming mapFields→JQ,mapSeq→JR,data_mapFields→JS,isFreed_of_fields→JT,cls_mapFields→JU
open PySem.PyData renaming keyHash→JV
open PySem.Str renaming ofString→JW
open PySem.Value renaming ref→JX,none→JY,int→JZ
open PySem.W.WData renaming int→J0
open PySem PySem.W PyProof.Rows PySem.Calls PySem.SeqAt Builtin.ObjectAttr
local macro_rules | `(⋯) => `(by kernel_rfl)
noncomputable abbrev pr:Program:=Jh.row.prog
noncomputable def tS(i:Nat):Stmt:=pr.main.body.getD i default
noncomputable def cS(i j:Nat):Stmt:=if h:(tS i).ctorIdx=2 then @Stmt.ClassDef.elim (fun u_=>Stmt) (tS i) h fun u_ u_ u_ b u_ u_ u_ u_ u_ u_ u_=>b.getD j default else tS i
noncomputable def hW(s:Stmt)(c:Value)(q:Str)(g:Addr)(d k m:Value)(an:Option Addr)(cd:Value):Obj:=if h:s.ctorIdx=0 then @Stmt.FunctionDef.elim (fun u_=>Obj) s h fun n a b u_ u_ u_ sc u_ u_ u_=>⟨c,none,.func {name:=n,qualname:=q,params:=a,body:= .stmts b,scope:=sc,globals:=g,closure:=[],defaults:=d,kwdefaults:=k,doc:= .none,pyModule:=m,annotations:=an,code:=cd,closureTuple:= .none,builtins:=0},#[]⟩else default
noncomputable def sv(x:Str)(t:Nat):Value:= .str x t
noncomputable def ke(P:Params)(x:Str)(t:Nat)(v:Value):DictEntry:=⟨JV P x,.str x t,v⟩
noncomputable def KK(P:Params):Frag:=[
(2,boot_o_2 P),
(3,⟨.type "dict",none,.dict #[ke P "__name__" 165 (sv "law_iu0032_05" 1468),ke P "__doc__" 166 .none,ke P "__package__" 167 .none,ke P "__loader__" 168 (.builtin "__main__.__loader__#opaque"),ke P "__spec__" 169 .none,ke P "__annotations__" 170 (.ref 6),ke P "__builtins__" 171 (.ref 4),ke P "__file__" 173 (sv "/claim/cut.py" 172),ke P "__cached__" 174 .none,ke P "_wall" 193 (.ref 21),ke P "prod" 204 (.ref 28),ke P "all_int" 211 (.ref 35),ke P "partition" 222 (.ref 42),ke P "gcd" 232 (.ref 49),ke P "Node" 466 (.ref 232),ke P "Variable" 535 (.ref 289),ke P "NumNode" 603 (.ref 343),ke P "variable" 612 (.ref 352),ke P "create_node" 619 (.ref 359),ke P "create_lt_node" 625 (.ref 364),ke P "create_ge_node" 633 (.ref 371),ke P "OpNode" 676 (.ref 402),ke P "LtNode" 715 (.ref 435),ke P "MulNode" 779 (.ref 490),ke P "DivNode" 827 (.ref 531),ke P "ModNode" 883 (.ref 579),ke P "RedNode" 924 (.ref 612),ke P "SumNode" 995 (.ref 665),ke P "AndNode" 1031 (.ref 694),ke P "sym_render" 1039 (.ref 704),ke P "canonicalize_strides" 1049 (.ref 711),ke P "strides_for_shape" 1058 (.ref 718),ke P "_merge_dims" 1075 (.ref 726),ke P "_reshape_mask" 1096 (.ref 733),ke P "un1d" 1108 (.ref 740),ke P "View" 1262 (.ref 845),ke P "ShapeTracker" 1467 (.ref 1016),ke P "_law_shapes" 1475 (.ref 1027),ke P "_law_start" 1481 (.ref 1032),ke P "_law_take" 1490 (.ref 1039),ke P "_law_size" 1499 (.ref 1046),ke P "_law_try" 1508 (.ref 1053),ke P "_law_fits" 1514 (.ref 1058),ke P "_law_new" 1520 (.ref 1063),ke P "_law_arg" 1526 (.ref 1068),ke P "law" 1532 (.ref 1073)] 46,#[]⟩),
(27,⟨.type "code",none,.fields #[sv "prod" 196,sv "prod" 197,sv "/claim/cut.py" 198,.int 5 0,.int 1 0,.int 0 0,.int 0 0,.int 3 0,.ref 22,.bool true,.int 181 0,.ref 23,.none,.ref 24,.ref 25,.ref 26,.int 202 0,.int 5 0,sv "/claim/cut.py" 203],#[]⟩),
(28,hW (tS 2) (.type "function") "prod" 3 .none .none (sv "tinygrad.helpers" 194) none (.ref 27)),
(34,⟨.type "code",none,.fields #[sv "all_int" 205,sv "all_int" 206,sv "/claim/cut.py" 207,.int 10 0,.int 1 0,.int 0 0,.int 0 0,.int 3 0,.ref 29,.bool true,.int 181 0,.ref 30,.none,.ref 31,.ref 32,.ref 33,.int 209 0,.int 10 0,sv "/claim/cut.py" 210],#[]⟩),
(35,hW (tS 3) (.type "function") "all_int" 3 .none .none (sv "tinygrad.helpers" 194) none (.ref 34)),
(343,⟨.type "type",none,.cls ⟨"NumNode",[.ref 232],[.ref 343,.ref 232,.type "object"],342,"NumNode",true,[],[],false,none,false⟩,#[some (.ref 292),none,some (sv "NumNode" 536),some (sv "NumNode" 544),some (.builtin "object.__new__"),some (.bool true)]⟩),
(710,⟨.type "code",none,.fields #[sv "canonicalize_strides" 1042,sv "canonicalize_strides" 1043,sv "/claim/cut.py" 1044,.int 437 0,.int 2 0,.int 0 0,.int 0 0,.int 3 0,.ref 705,.bool true,.int 181 0,.ref 706,.none,.ref 707,.ref 708,.ref 709,.int 1047 0,.int 437 0,sv "/claim/cut.py" 1048],#[]⟩),
(711,hW (tS 24) (.type "function") "canonicalize_strides" 3 .none .none (sv "tinygrad.shape.view" 1040) none (.ref 710)),
(717,⟨.type "code",none,.fields #[sv "strides_for_shape" 1050,sv "strides_for_shape" 1051,sv "/claim/cut.py" 1052,.int 439 0,.int 1 0,.int 0 0,.int 0 0,.int 3 0,.ref 712,.bool true,.int 181 0,.ref 713,.none,.ref 714,.ref 715,.ref 716,.int 1056 0,.int 439 0,sv "/claim/cut.py" 1057],#[]⟩),
(718,hW (tS 25) (.type "function") "strides_for_shape" 3 .none .none (sv "tinygrad.shape.view" 1040) none (.ref 717)),
(719,⟨.type "tuple",none,.seq #[.none] 0,#[]⟩),
(725,⟨.type "code",none,.fields #[sv "_merge_dims" 1059,sv "_merge_dims" 1060,sv "/claim/cut.py" 1061,.int 446 0,.int 3 0,.int 0 0,.int 0 0,.int 3 0,.ref 720,.bool true,.int 181 0,.ref 721,.none,.ref 722,.ref 723,.ref 724,.int 1073 0,.int 446 0,sv "/claim/cut.py" 1074],#[]⟩),
(726,hW (tS 26) (.type "function") "_merge_dims" 3 (.ref 719) .none (sv "tinygrad.shape.view" 1040) none (.ref 725)),
(732,⟨.type "code",none,.fields #[sv "_reshape_mask" 1076,sv "_reshape_mask" 1077,sv "/claim/cut.py" 1078,.int 462 0,.int 3 0,.int 0 0,.int 0 0,.int 3 0,.ref 727,.bool true,.int 181 0,.ref 728,.none,.ref 729,.ref 730,.ref 731,.int 1094 0,.int 462 0,sv "/claim/cut.py" 1095],#[]⟩),
(733,hW (tS 27) (.type "function") "_reshape_mask" 3 .none .none (sv "tinygrad.shape.view" 1040) none (.ref 732)),
(753,⟨.type "code",none,.fields #[sv "__init__" 1121,sv "View.__init__" 1122,sv "/claim/cut.py" 1123,.int 502 0,.int 6 0,.int 0 0,.int 0 0,.int 3 0,.ref 748,.bool true,.int 181 0,.ref 749,.none,.ref 750,.ref 751,.ref 752,.int 1130 0,.int 502 0,sv "/claim/cut.py" 1131],#[]⟩),
(754,hW (cS 29 0) (.type "function") "View.__init__" 3 .none .none (sv "tinygrad.shape.view" 1040) none (.ref 753)),
(767,⟨.type "tuple",none,.seq #[.none,.int 0 1147,.none] 0,#[]⟩),
(771,⟨.type "code",none,.fields #[sv "create" 1148,sv "View.create" 1149,sv "/claim/cut.py" 1150,.int 515 0,.int 4 0,.int 0 0,.int 0 0,.int 3 0,.ref 768,.bool true,.int 181 0,.ref 769,.none,.none,.none,.ref 770,.int 1151 0,.int 515 0,sv "/claim/cut.py" 1152],#[]⟩),
(772,hW (cS 29 3) (.type "function") "View.create" 3 (.ref 767) .none (sv "tinygrad.shape.view" 1040) (some 775) (.ref 771)),
(774,⟨.type "staticmethod",(some 773),.fields #[.ref 772,.bool false],#[]⟩),
(795,⟨.type "tuple",none,.seq #[.none] 0,#[]⟩),
(799,⟨.type "code",none,.fields #[sv "_unsafe_resize" 1187,sv "View._unsafe_resize" 1188,sv "/claim/cut.py" 1189,.int 610 0,.int 3 0,.int 0 0,.int 0 0,.int 3 0,.ref 796,.bool true,.int 181 0,.ref 797,.none,.none,.none,.ref 798,.int 1190 0,.int 610 0,sv "/claim/cut.py" 1191],#[]⟩),
(800,hW (cS 29 7) (.type "function") "View._unsafe_resize" 3 (.ref 795) .none (sv "tinygrad.shape.view" 1040) none (.ref 799)),
(804,⟨.type "code",none,.fields #[sv "pad" 1193,sv "View.pad" 1194,sv "/claim/cut.py" 1195,.int 620 0,.int 2 0,.int 0 0,.int 0 0,.int 3 0,.ref 801,.bool true,.int 181 0,.ref 802,.none,.none,.none,.ref 803,.int 1196 0,.int 620 0,sv "/claim/cut.py" 1197],#[]⟩),
(805,hW (cS 29 8) (.type "function") "View.pad" 3 .none .none (sv "tinygrad.shape.view" 1040) none (.ref 804)),
(811,⟨.type "code",none,.fields #[sv "shrink" 1199,sv "View.shrink" 1200,sv "/claim/cut.py" 1201,.int 628 0,.int 2 0,.int 0 0,.int 0 0,.int 3 0,.ref 806,.bool true,.int 181 0,.ref 807,.none,.ref 808,.ref 809,.ref 810,.int 1204 0,.int 628 0,sv "/claim/cut.py" 1205],#[]⟩),
(812,hW (cS 29 9) (.type "function") "View.shrink" 3 .none .none (sv "tinygrad.shape.view" 1040) none (.ref 811)),
(816,⟨.type "code",none,.fields #[sv "expand" 1207,sv "View.expand" 1208,sv "/claim/cut.py" 1209,.int 632 0,.int 2 0,.int 0 0,.int 0 0,.int 3 0,.ref 813,.bool true,.int 181 0,.ref 814,.none,.none,.none,.ref 815,.int 1210 0,.int 632 0,sv "/claim/cut.py" 1211],#[]⟩),
(817,hW (cS 29 10) (.type "function") "View.expand" 3 .none .none (sv "tinygrad.shape.view" 1040) none (.ref 816)),
(823,⟨.type "code",none,.fields #[sv "permute" 1213,sv "View.permute" 1214,sv "/claim/cut.py" 1215,.int 642 0,.int 2 0,.int 0 0,.int 0 0,.int 3 0,.ref 818,.bool true,.int 181 0,.ref 819,.none,.ref 820,.ref 821,.ref 822,.int 1219 0,.int 642 0,sv "/claim/cut.py" 1220],#[]⟩),
(824,hW (cS 29 11) (.type "function") "View.permute" 3 .none .none (sv "tinygrad.shape.view" 1040) none (.ref 823)),
(828,⟨.type "code",none,.fields #[sv "stride" 1222,sv "View.stride" 1223,sv "/claim/cut.py" 1224,.int 646 0,.int 2 0,.int 0 0,.int 0 0,.int 3 0,.ref 825,.bool true,.int 181 0,.ref 826,.none,.none,.none,.ref 827,.int 1225 0,.int 646 0,sv "/claim/cut.py" 1226],#[]⟩),
(829,hW (cS 29 12) (.type "function") "View.stride" 3 .none .none (sv "tinygrad.shape.view" 1040) none (.ref 828)),
(833,⟨.type "code",none,.fields #[sv "reshape" 1228,sv "View.reshape" 1229,sv "/claim/cut.py" 1230,.int 654 0,.int 2 0,.int 0 0,.int 0 0,.int 3 0,.ref 830,.bool true,.int 181 0,.ref 831,.none,.none,.none,.ref 832,.int 1231 0,.int 654 0,sv "/claim/cut.py" 1232],#[]⟩),
(834,hW (cS 29 13) (.type "function") "View.reshape" 3 .none .none (sv "tinygrad.shape.view" 1040) none (.ref 833)),
(844,⟨.type "dict",none,.dict #[ke P "__module__" 1116 (sv "tinygrad.shape.view" 1040),ke P "__firstlineno__" 1120 (.int 500 1119),ke P "__init__" 1132 (.ref 754),ke P "__eq__" 1140 (.ref 761),ke P "size" 1146 (.ref 766),ke P "create" 1165 (.ref 774),ke P "__add__" 1171 (.ref 780),ke P "invert" 1179 (.ref 787),ke P "minify" 1186 (.ref 794),ke P "_unsafe_resize" 1192 (.ref 800),ke P "pad" 1198 (.ref 805),ke P "shrink" 1206 (.ref 812),ke P "expand" 1212 (.ref 817),ke P "permute" 1221 (.ref 824),ke P "stride" 1227 (.ref 829),ke P "reshape" 1233 (.ref 834),ke P "expr" 1248 (.ref 842),ke P "__static_attributes__" 1254 (.ref 843),ke P "__dict__" 1256 (.ref 846),ke P "__weakref__" 1258 (.ref 847),ke P "__doc__" 1259 .none,ke P "__hash__" 1260 .none] 5,#[]⟩),
(845,⟨.type "type",none,.cls ⟨"View",[.type "object"],[.ref 845,.type "object"],844,"View",true,[],[],false,none,false⟩,#[none,none,some (sv "View" 1109),some (sv "View" 1117),some (.builtin "object.__new__"),some (.bool true)]⟩),
(862,⟨.type "code",none,.fields #[sv "__init__" 1277,sv "ShapeTracker.__init__" 1278,sv "/claim/cut.py" 1279,.int 705 0,.int 2 0,.int 0 0,.int 0 0,.int 3 0,.ref 857,.bool true,.int 181 0,.ref 858,.none,.ref 859,.ref 860,.ref 861,.int 1282 0,.int 705 0,sv "/claim/cut.py" 1283],#[]⟩),
(863,hW (cS 31 0) (.type "function") "ShapeTracker.__init__" 3 .none .none (sv "tinygrad.shape.shapetracker" 1263) none (.ref 862)),
(890,⟨.type "code",none,.fields #[sv "from_shape" 1311,sv "ShapeTracker.from_shape" 1312,sv "/claim/cut.py" 1313,.int 720 0,.int 1 0,.int 0 0,.int 0 0,.int 3 0,.ref 885,.bool true,.int 181 0,.ref 886,.none,.ref 887,.ref 888,.ref 889,.int 1315 0,.int 720 0,sv "/claim/cut.py" 1316],#[]⟩),
(891,hW (cS 31 4) (.type "function") "ShapeTracker.from_shape" 3 .none .none (sv "tinygrad.shape.shapetracker" 1263) (some 894) (.ref 890)),
(893,⟨.type "staticmethod",(some 892),.fields #[.ref 891,.bool false],#[]⟩),
(916,⟨.type "code",none,.fields #[sv "shape" 1346,sv "ShapeTracker.shape" 1347,sv "/claim/cut.py" 1348,.int 732 0,.int 1 0,.int 0 0,.int 0 0,.int 3 0,.ref 911,.bool true,.int 181 0,.ref 912,.none,.ref 913,.ref 914,.ref 915,.int 1350 0,.int 732 0,sv "/claim/cut.py" 1351],#[]⟩),
(917,hW (cS 31 7) (.type "function") "ShapeTracker.shape" 3 .none .none (sv "tinygrad.shape.shapetracker" 1263) none (.ref 916)),
(918,⟨.type "property",none,.fields #[.ref 917,.none,.none,.none,sv "shape" 1353,.bool false],#[]⟩),
(977,⟨.type "code",none,.fields #[sv "pad" 1409,sv "ShapeTracker.pad" 1410,sv "/claim/cut.py" 1411,.int 762 0,.int 2 0,.int 0 0,.int 0 0,.int 3 0,.ref 972,.bool true,.int 181 0,.ref 973,.none,.ref 974,.ref 975,.ref 976,.int 1414 0,.int 762 0,sv "/claim/cut.py" 1415],#[]⟩),
(978,hW (cS 31 15) (.type "function") "ShapeTracker.pad" 3 .none .none (sv "tinygrad.shape.shapetracker" 1263) none (.ref 977)),
(984,⟨.type "code",none,.fields #[sv "shrink" 1417,sv "ShapeTracker.shrink" 1418,sv "/claim/cut.py" 1419,.int 765 0,.int 2 0,.int 0 0,.int 0 0,.int 3 0,.ref 979,.bool true,.int 181 0,.ref 980,.none,.ref 981,.ref 982,.ref 983,.int 1422 0,.int 765 0,sv "/claim/cut.py" 1423],#[]⟩),
(985,hW (cS 31 16) (.type "function") "ShapeTracker.shrink" 3 .none .none (sv "tinygrad.shape.shapetracker" 1263) none (.ref 984)),
(991,⟨.type "code",none,.fields #[sv "expand" 1425,sv "ShapeTracker.expand" 1426,sv "/claim/cut.py" 1427,.int 768 0,.int 2 0,.int 0 0,.int 0 0,.int 3 0,.ref 986,.bool true,.int 181 0,.ref 987,.none,.ref 988,.ref 989,.ref 990,.int 1430 0,.int 768 0,sv "/claim/cut.py" 1431],#[]⟩),
(992,hW (cS 31 17) (.type "function") "ShapeTracker.expand" 3 .none .none (sv "tinygrad.shape.shapetracker" 1263) none (.ref 991)),
(998,⟨.type "code",none,.fields #[sv "permute" 1433,sv "ShapeTracker.permute" 1434,sv "/claim/cut.py" 1435,.int 771 0,.int 2 0,.int 0 0,.int 0 0,.int 3 0,.ref 993,.bool true,.int 181 0,.ref 994,.none,.ref 995,.ref 996,.ref 997,.int 1438 0,.int 771 0,sv "/claim/cut.py" 1439],#[]⟩),
(999,hW (cS 31 18) (.type "function") "ShapeTracker.permute" 3 .none .none (sv "tinygrad.shape.shapetracker" 1263) none (.ref 998)),
(1005,⟨.type "code",none,.fields #[sv "stride" 1441,sv "ShapeTracker.stride" 1442,sv "/claim/cut.py" 1443,.int 774 0,.int 2 0,.int 0 0,.int 0 0,.int 3 0,.ref 1000,.bool true,.int 181 0,.ref 1001,.none,.ref 1002,.ref 1003,.ref 1004,.int 1446 0,.int 774 0,sv "/claim/cut.py" 1447],#[]⟩),
(1006,hW (cS 31 19) (.type "function") "ShapeTracker.stride" 3 .none .none (sv "tinygrad.shape.shapetracker" 1263) none (.ref 1005)),
(1012,⟨.type "code",none,.fields #[sv "reshape" 1449,sv "ShapeTracker.reshape" 1450,sv "/claim/cut.py" 1451,.int 777 0,.int 2 0,.int 0 0,.int 0 0,.int 3 0,.ref 1007,.bool true,.int 181 0,.ref 1008,.none,.ref 1009,.ref 1010,.ref 1011,.int 1455 0,.int 777 0,sv "/claim/cut.py" 1456],#[]⟩),
(1013,hW (cS 31 20) (.type "function") "ShapeTracker.reshape" 3 .none .none (sv "tinygrad.shape.shapetracker" 1263) none (.ref 1012)),
(1015,⟨.type "dict",none,.dict #[ke P "__module__" 1272 (sv "tinygrad.shape.shapetracker" 1263),ke P "__firstlineno__" 1276 (.int 703 1275),ke P "__init__" 1284 (.ref 863),ke P "__eq__" 1292 (.ref 870),ke P "__add__" 1302 (.ref 877),ke P "invert" 1310 (.ref 884),ke P "from_shape" 1329 (.ref 893),ke P "contiguous" 1337 (.ref 902),ke P "consecutive" 1345 (.ref 910),ke P "shape" 1353 (.ref 918),ke P "size" 1361 (.ref 926),ke P "real_size" 1368 (.ref 933),ke P "real_strides" 1376 (.ref 941),ke P "unit_stride_axes" 1384 (.ref 949),ke P "expr_idxs" 1392 (.ref 957),ke P "axis_is_masked" 1400 (.ref 964),ke P "simplify" 1408 (.ref 971),ke P "pad" 1416 (.ref 978),ke P "shrink" 1424 (.ref 985),ke P "expand" 1432 (.ref 992),ke P "permute" 1440 (.ref 999),ke P "stride" 1448 (.ref 1006),ke P "reshape" 1457 (.ref 1013),ke P "__static_attributes__" 1459 (.ref 1014),ke P "__dict__" 1461 (.ref 1017),ke P "__weakref__" 1463 (.ref 1018),ke P "__doc__" 1464 .none,ke P "__hash__" 1465 .none] 5,#[]⟩),
(1016,⟨.type "type",none,.cls ⟨"ShapeTracker",[.type "object"],[.ref 1016,.type "object"],1015,"ShapeTracker",true,[],[],false,none,false⟩,#[none,none,some (sv "ShapeTracker" 1265),some (sv "ShapeTracker" 1273),some (.builtin "object.__new__"),some (.bool true)]⟩),
(1026,⟨.type "code",none,.fields #[sv "_law_shapes" 1470,sv "_law_shapes" 1471,sv "/claim/cut.py" 1472,.int 783 0,.int 0 0,.int 0 0,.int 0 0,.int 3 0,.ref 1021,.bool true,.int 181 0,.ref 1022,.none,.ref 1023,.ref 1024,.ref 1025,.int 1473 0,.int 783 0,sv "/claim/cut.py" 1474],#[]⟩),
(1027,hW (tS 33) (.type "function") "_law_shapes" 3 .none .none (sv "law_iu0032_05" 1468) none (.ref 1026)),
(1031,⟨.type "code",none,.fields #[sv "_law_start" 1476,sv "_law_start" 1477,sv "/claim/cut.py" 1478,.int 785 0,.int 1 0,.int 0 0,.int 0 0,.int 3 0,.ref 1028,.bool true,.int 181 0,.ref 1029,.none,.none,.none,.ref 1030,.int 1479 0,.int 785 0,sv "/claim/cut.py" 1480],#[]⟩),
(1032,hW (tS 34) (.type "function") "_law_start" 3 .none .none (sv "law_iu0032_05" 1468) none (.ref 1031)),
(1038,⟨.type "code",none,.fields #[sv "_law_take" 1482,sv "_law_take" 1483,sv "/claim/cut.py" 1484,.int 787 0,.int 2 0,.int 0 0,.int 0 0,.int 3 0,.ref 1033,.bool true,.int 181 0,.ref 1034,.none,.ref 1035,.ref 1036,.ref 1037,.int 1488 0,.int 787 0,sv "/claim/cut.py" 1489],#[]⟩),
(1039,hW (tS 35) (.type "function") "_law_take" 3 .none .none (sv "law_iu0032_05" 1468) none (.ref 1038)),
(1045,⟨.type "code",none,.fields #[sv "_law_size" 1491,sv "_law_size" 1492,sv "/claim/cut.py" 1493,.int 797 0,.int 1 0,.int 0 0,.int 0 0,.int 3 0,.ref 1040,.bool true,.int 181 0,.ref 1041,.none,.ref 1042,.ref 1043,.ref 1044,.int 1497 0,.int 797 0,sv "/claim/cut.py" 1498],#[]⟩),
(1046,hW (tS 36) (.type "function") "_law_size" 3 .none .none (sv "law_iu0032_05" 1468) none (.ref 1045)),
(1052,⟨.type "code",none,.fields #[sv "_law_try" 1500,sv "_law_try" 1501,sv "/claim/cut.py" 1502,.int 802 0,.int 3 0,.int 0 0,.int 0 0,.int 3 0,.ref 1047,.bool true,.int 181 0,.ref 1048,.none,.ref 1049,.ref 1050,.ref 1051,.int 1506 0,.int 802 0,sv "/claim/cut.py" 1507],#[]⟩),
(1053,hW (tS 37) (.type "function") "_law_try" 3 .none .none (sv "law_iu0032_05" 1468) none (.ref 1052)),
(1057,⟨.type "code",none,.fields #[sv "_law_fits" 1509,sv "_law_fits" 1510,sv "/claim/cut.py" 1511,.int 817 0,.int 3 0,.int 0 0,.int 0 0,.int 3 0,.ref 1054,.bool true,.int 181 0,.ref 1055,.none,.none,.none,.ref 1056,.int 1512 0,.int 817 0,sv "/claim/cut.py" 1513],#[]⟩),
(1058,hW (tS 38) (.type "function") "_law_fits" 3 .none .none (sv "law_iu0032_05" 1468) none (.ref 1057)),
(1062,⟨.type "code",none,.fields #[sv "_law_new" 1515,sv "_law_new" 1516,sv "/claim/cut.py" 1517,.int 832 0,.int 3 0,.int 0 0,.int 0 0,.int 3 0,.ref 1059,.bool true,.int 181 0,.ref 1060,.none,.none,.none,.ref 1061,.int 1518 0,.int 832 0,sv "/claim/cut.py" 1519],#[]⟩),
(1063,hW (tS 39) (.type "function") "_law_new" 3 .none .none (sv "law_iu0032_05" 1468) none (.ref 1062)),
(1067,⟨.type "code",none,.fields #[sv "_law_arg" 1521,sv "_law_arg" 1522,sv "/claim/cut.py" 1523,.int 842 0,.int 3 0,.int 0 0,.int 0 0,.int 3 0,.ref 1064,.bool true,.int 181 0,.ref 1065,.none,.none,.none,.ref 1066,.int 1524 0,.int 842 0,sv "/claim/cut.py" 1525],#[]⟩),
(1068,hW (tS 40) (.type "function") "_law_arg" 3 .none .none (sv "law_iu0032_05" 1468) none (.ref 1067)),
(1072,⟨.type "code",none,.fields #[sv "law" 1527,sv "law" 1528,sv "/claim/cut.py" 1529,.int 858 0,.int 1 0,.int 0 0,.int 0 0,.int 3 0,.ref 1069,.bool true,.int 181 0,.ref 1070,.none,.none,.none,.ref 1071,.int 1530 0,.int 858 0,sv "/claim/cut.py" 1531],#[]⟩),
(1073,hW (tS 41) (.type "function") "law" 3 .none .none (sv "law_iu0032_05" 1468) none (.ref 1072))]
noncomputable def CC:List (Addr×Addr):=[(27,23),(34,30),(710,706),(717,713),(725,721),(732,728),(753,749),(771,769),(799,797),(804,802),(811,807),(816,814),(823,819),(828,826),(833,831),(862,858),(890,886),(916,912),(977,973),(984,980),(991,987),(998,994),(1005,1001),(1012,1008),(1026,1022),(1031,1029),(1038,1034),(1045,1041),(1052,1048),(1057,1055),(1062,1060),(1067,1065),(1072,1070)]
noncomputable def np(x:Str)(v:Value):Str×Value:=(x,v)
noncomputable def NM:List (Str×Value):=[np "all" (.builtin "all"),np "any" (.builtin "any"),np "tuple" (.type "tuple"),np "zip" (.type "zip"),np "len" (.builtin "len"),np "sum" (.builtin "sum"),np "sorted" (.builtin "sorted"),np "list" (.type "list"),np "range" (.type "range"),np "reversed" (.type "reversed"),np "enumerate" (.type "enumerate"),np "isinstance" (.builtin "isinstance"),np "int" (.type "int"),np "abs" (.builtin "abs"),np "max" (.builtin "max"),np "min" (.builtin "min"),np "ValueError" (.type "ValueError"),np "AssertionError" (.type "AssertionError"),np "View" (.ref 845),np "ShapeTracker" (.ref 1016),np "prod" (.ref 28),np "all_int" (.ref 35),np "canonicalize_strides" (.ref 711),np "strides_for_shape" (.ref 718),np "_merge_dims" (.ref 726),np "_reshape_mask" (.ref 733),np "Variable" (.ref 289),np "NumNode" (.ref 343),np "Node" (.ref 232),np "_law_shapes" (.ref 1027),np "_law_start" (.ref 1032),np "_law_take" (.ref 1039),np "_law_size" (.ref 1046),np "_law_try" (.ref 1053),np "_law_fits" (.ref 1058),np "_law_new" (.ref 1063),np "_law_arg" (.ref 1068)]
noncomputable abbrev lw:=Jh
noncomputable abbrev E7:Program:=(Fast.tw2368527892694137696 lw).prog
theorem sd1:Fast.tw8377067652309620493 E7=true:=by kernel_rfl
theorem sd3:Fast.tw17119622794617984870 E7 E7.main.body (fun x n=>Fast.tw17868728402115742887 n)=true:=by kernel_rfl
theorem sd4:Fast.tw2436336058641802641 (Fast.tw2368527892694137696 lw)=true:=by
 unfold Fast.tw2436336058641802641
 repeat' (with_reducible refine look_both ?_ ?_)
 ·unfold Fast.tw12908688711261696721
  repeat' (with_reducible refine look_both ?_ ?_)
  all_goals first|with_reducible exact sd1|with_reducible exact sd2|with_reducible exact sd3|kernel_rfl
 all_goals kernel_rfl
theorem xq:lw.wellSaid=true:=by
 rw[Fast.te9446332074065402090];unfold Fast.tw9446332074065402090
 repeat' (with_reducible refine look_both ?_ ?_)
 ·unfold Fast.tw17960256430627541270
  repeat' (with_reducible refine look_both ?_ ?_)
  ·exact sd4
  all_goals kernel_rfl
 all_goals kernel_rfl
noncomputable def qv:Program:={pr with main:={pr.main with body:=(pr.main.body[41]?).toList}}
noncomputable def lY:List Str:=pr.main.scope.names.map (·.1)
noncomputable def ks:List Addr:=[2,3,27,28,34,35,343,710,711,717,718,719,725,726,732,733,753,754,767,771,772,774,795,799,800,804,805,811,812,816,817,823,824,828,829,833,834,844,845,862,863,890,891,893,916,917,918,977,978,984,985,991,992,998,999,1005,1006,1012,1013,1015,1016,1026,1027,1031,1032,1038,1039,1045,1046,1052,1053,1057,1058,1062,1063,1067,1068,1072,1073]
theorem zP(P:Params):ks=(KK P).map (·.1):=by kernel_rfl
noncomputable def wb:Obj:=⟨.none,none,.fields #[],#[]⟩
noncomputable def yf(s:Shared):List (Option Obj)×List (Option Obj):=(ks.map s.heap.get?,CC.map fun p=>s.heap.get? p.2)
noncomputable def ya(w:World):List (Option Obj)×List (Option Obj):=((KK w.params).map fun p=>some p.2,CC.map fun u_=>some wb)
noncomputable def Ei:List Str:=importedModules pr.main.body
noncomputable def Bk:Env:={scope:=pr.main.scope,locals:=mainNs,globals:=mainNs,cells:=[],code:= .ref 13,frame:=some 14}
noncomputable def c0:Code:= .body (behindTheImports pr) Bk
noncomputable def Et:List Frame:=[topFrame default]
noncomputable def bt:List Obj→BT:=fun l=>(l.foldl (fun(x:BT×Nat) o=>(x.1.ins x.2 o,x.2+1)) (.nil,0)).1
noncomputable def C8:List Obj:=[
 {cls:= .type "tuple",data:= .seq #[]},
 {cls:= .none,data:= .fields #[]},
 {cls:= .type "code",data:= .fields #[.str (JW "<module>") 182,.str (JW "<module>") 183,.str (JW "/claim/cut.py") 184,.int 1 0,.int 0 0,.int 0 0,.int 0 0,.int 0 0,.ref 11,.bool false,.int 181 0,.ref 12,.none,.none,.none,.none,.int 185 0,.int 1 0,.str (JW "/claim/cut.py") 186]},
 {cls:= .type "frame",slots:= #[some (.ref 13),some (.ref 3),some (.ref 3),none,some (.str (JW "__main__") 164),none,some (.ref 0)]}]
noncomputable def sT(w:World)(os:OsState):SharedT:=⟨bt ((boot_heap w.params).objs.toList++C8),15,{},Array.mk [],{},187,os⟩
noncomputable def sB(w:World)(os:OsState):Shared:=⟨boot_heap w.params,Array.mk [],boot_drawn,boot_toks,os⟩
noncomputable def wm:Option Value:=some (.ref 6)
theorem Bx(w:World)(os:OsState):topGo treeTable pr w 11 wm 12 (sB w os) (topStub pr)=some ((sT w os).abs,⟨denote treeTable c0,c0,default,Et⟩):=by
 rw[Fast.te15667345088766844465,Fast.te14364793385576792824,Fast.te11892475500146522536];kernel_rfl
noncomputable def EL(seg:type_of% @segRunT)(top:type_of% @topRun)(tb:type_of% @treeTable)(see:type_of% @openSeen)(w:World)(os:OsState):=
 (seg tb pr w 11 wm 1 7950 (sT w os) (piecesOf (behindTheImports pr) Bk c0 default Et)).bind fun x=>match x.1 with
  | .next=>(top tb pr w 11 wm 2 x.2.1.abs ⟨doneF .next,x.2.2.1,x.2.2.2,Et⟩).map fun s=>
   (staticsOk Ei (boot_heap w.params) s.heap&&namesBound pr s.heap&&gensDone s&&laidKept (boot_heap w.params) s.heap,see qv lY Ei (fun u_=>true) true s,yf s,x.2.2.1)
  |_=>none
theorem EB(w:World)(os:OsState):EL @segRunT @topRun @treeTable @openSeen w os=some (true,openGood qv lY,ya w,c0):=by
 rw[Fast.te10110043849684766642,Fast.te14082659384304107361,Fast.te14364793385576792824,Fast.te4187177175401517315];kernel_rfl
theorem BR(w:World)(os:OsState):segRun treeTable pr w 11 wm 1 1 (sT w os).abs (blockOf (behindTheImports pr) Bk c0 default Et)=some (.next,(sT w os).abs,c0,default):=rfl
theorem BO(w:World)(os:OsState): ∃s,topRun treeTable pr w 11 wm (12+(1+(7950+2))) (sB w os) (topStub pr)=some s∧
 (staticsOk Ei (boot_heap w.params) s.heap&&namesBound pr s.heap&&gensDone s&&laidKept (boot_heap w.params) s.heap,openSeen qv lY Ei (fun u_=>true) true s,yf s)=(true,openGood qv lY,ya w):=by
 obtain⟨⟨f,S,c,q⟩,h1,h2⟩:=Option.bind_eq_some_iff.mp (EB w os)
 cases f with
 |next=>
  obtain⟨s1,h3,h4⟩:=H3.mp h2
  obtain⟨g1,g2,g3,g4⟩:_∧_∧_∧_:=by simpa only[Prod.mk.injEq]using h4
  subst g4;have a:=piece_app (rest:=[]) (segRun_of h1) (piece_nil h3);rw[Gz]at a
  exact⟨s1,go_top (Bx w os) (piece_block (BR w os) a),by rw[g1,g2,g3]⟩
 |_=>cases h2
theorem zl{p q:Program}{ls:List Str}{α:Type}{Yf:Shared→α}{Ya:World→α}{N m₀:Nat}{ann:Option Value}{w:World}{Ka J5:Shared}(e:fencedOpening treeTable p w N=some Ka)(z1:(Ka.heap.isNs mainGlobals&&Ka.gens.size==0)=true)(z2:Ka.heap.objs.size=m₀)
 (z3:Ka.heap.nsMap mainGlobals "__annotations__"=ann) (r:topRun treeTable p w m₀ ann N Ka (topStub p)=some J5) (l1:(staticsOk (importedModules p.main.body) Ka.heap J5.heap&&namesBound p J5.heap&&gensDone J5&&laidKept Ka.heap J5.heap)=true)
 (l2:openSeen q ls (importedModules p.main.body) (fun u_=>true) true J5=openGood q ls) (l3:Yf J5=Ya w):(openEnds treeTable p w N).map (fun s=>(openSeen q ls (importedModules p.main.body) (fun u_=>true) true s,Yf s))=some (openGood q ls,Ya w):=by
 have t:topFrom treeTable p w N Ka=some J5:=by
  unfold topFrom;rw[z1,z2,z3,r]
  show(match(staticsOk (importedModules p.main.body) Ka.heap J5.heap&&namesBound p J5.heap&&gensDone J5&&laidKept Ka.heap J5.heap)with|true=>some J5|false=>none)=some J5
  rw[l1]
 unfold openEnds;rw[e];show(topFrom treeTable p w N Ka).map _=_;rw[t,←l2,←l3];rfl
theorem xI(w:World): ∃os,fencedOpening treeTable pr w 8000=some (sB w os):=by
 obtain⟨⟨h,gs,d,k,os⟩,e,e'⟩:=H3.mp (boot_open (p:=pr) (N:=8000) ⋯ rfl (fun u_=>by kernel_rfl) w)
 obtain⟨rfl,rfl,rfl,rfl⟩:h=boot_heap w.params∧gs=Array.mk []∧d=boot_drawn∧k=boot_toks:=by simpa only[Prod.mk.injEq,Option.some.injEq]using e'
 exact⟨os,e⟩
theorem left:LeftO pr qv lY (fun u_=>true) yf ya 8000:=fun w=>by
 obtain⟨os,e⟩:=xI w;obtain⟨s,h1,h2⟩:=BO w os
 obtain⟨g1,g2,g3⟩:_∧_∧_:=by simpa only[Prod.mk.injEq]using h2
 exact zl e ⋯ ⋯ ⋯ (topRun_mono 35 _ _ _ _ h1) g1 g2 g3
section
theorem ac:true=true:=rfl
theorem ay:false=false:=rfl
theorem CZ{P:Nat→Prop}{k:Nat}(f: ∀i,i<k→P i)(a:P k)(i:Nat)(h:i<k+1):P i:=(Nat.lt_succ_iff_lt_or_eq.mp h).elim (f i) fun e=>e▸a
theorem sS{P:Nat→Prop}(a:P 0)(b:P 1)(c:P 2)(d:P 3): ∀i,i<4→P i:=CZ (CZ (CZ (CZ (fun u_ h=>absurd h (HL _)) a) b) c) d
theorem qt{P:Nat→Prop}(a:P 0)(b:P 1)(c:P 2)(d:P 3)(e:P 4): ∀i,i<5→P i:=CZ (sS a b c d) e
section
variable {a b c d m n i k f x y:Nat}
theorem bf(h:a≤m)(k:m.ble n=true):a≤n:=Hu h (HE k)
theorem fD(h:a≤m)(k:m.succ.ble n=true):a<n:=bf (Nat.succ_le_succ h) k
theorem Dh(h:a<m)(k:m.ble n=true):a<n:=bf h k
theorem Ek(h:a<m)(k:m.ble n.succ=true):a≤n:=Nat.le_of_succ_le_succ (bf h k)
theorem Cz(h:a≤m)(k:(m+c).ble n=true):a+c≤n:=bf (HQ h c) k
theorem Ey(h:a≤m)(k:(m+c).succ.ble n=true):a+c<n:=Cz (c:=c+1) h k
theorem Fh(h:a+1≤m)(k:m.ble n=true):a≤n:=bf (Nat.le_of_succ_le h) k
theorem EM(h:a≤m)(k:m.ble n=true):a-c≤n:=Hu (Nat.sub_le ..) (bf h k)
theorem dB(e:a=c)(h:c≤m)(k:m.ble n=true):a≤n:=bf (e▸h) k
theorem Ee(e:a=c)(h:c≤m)(k:m.succ.ble n=true):a<n:=fD (e▸h) k
theorem zE(e:a=c)(e':c=d)(h:d≤m)(k:m.ble n=true):a≤n:=dB (e.trans e') h k
theorem wP(h:a≤m)(k:m.ble n=true):min a b≤n:=Hu (HU ..) (bf h k)
theorem rR(h:a≤m)(k:m.succ.ble n=true):min a b<n:=HC (HU ..) (fD h k)
theorem EW(e:a=c)(h:c≤m)(k:m.ble n=true):min a b≤n:=wP (e▸h) k
theorem Es(e:a=c)(h:c≤m)(k:m.succ.ble n=true):min a b<n:=rR (e▸h) k
theorem mft(h:a<m):min a b<m:=HC (HU ..) h
theorem mq(e:a=c)(e':b=c):min a b=c:=by rw[e,e',HO]
theorem Cy(e:b=c):min c b=c:=mq rfl e
theorem mqs(e:b=c):min b c=b:=mq rfl e.symm
theorem m3(e:a=c)(e':b=c):min b (min c a)=c:=mq e' (Cy e)
theorem lts(h:k<min a b):k<a:=HF h (HU ..)
theorem Ch(h:i<n)(g:n≤m)(k:m.ble x=true):i<x:=HF h (bf g k)
theorem Eu(h:i+(m+1)=n):i<n:=h▸HY (Hw m)
theorem Dr(h:i+(m+1)=n):i+1+m=n:=by rw[Nat.add_assoc,HR 1];exact h
theorem Eh(h:n<k):n+(k-1-n)+1=k:=(congrArg (· +1) (Nat.add_sub_of_le (Nat.le_sub_one_of_lt h))).trans (Nat.sub_add_cancel (HC (HD _) h))
theorem fu(h:m<f):f=f-1+1:=(Nat.sub_add_cancel (HC (HD _) h)).symm
theorem E2(h:a+(d+1)<n):a+1+d<n:=by rwa [Nat.add_assoc,HR 1]
theorem rm0(h:a+(d+1)<n):a+d<n:=HV h
theorem rmz(h:a+(d+1)<n):a<n:=HC (HA ..) h
theorem Eg(h:a+8*(d+1)+220<n)(k:x≤a+8):x+8*d+220<n:=HC (HQ (Hu (HQ k (8*d)) (by rw[HZ];exact Hv _)) 220) h
theorem ru1(h:a+8*(d+1)+220<n):a+1+8*d+220<n:=Eg h (HM (by decide) a)
theorem rux(h:a+8*(d+1)+220<n):a+3+8*d+220<n:=Eg h (HM (by decide) a)
theorem ru0(h:a+8*(d+1)+220<n):a+8*d+220<n:=Eg h (HA ..)
theorem Ea(h:a+(b+1)≤n):a+1+b≤n:=Dr (n:=a+(b+1)) rfl▸h
theorem jE(h: ¬i<n)(g:i<n+1):i=n:=Nat.le_antisymm (Nat.le_of_lt_succ g) (Nat.le_of_not_lt h)
theorem cN{a b:Nat}(h:(a:Int)=b):a=b:=Int.natCast_inj.mp h
theorem ET{a b:Nat}(h:((a:Int)==b)=true):a=b:=cN (Gj h)
theorem cI{a b:Nat}(h:a=b):(a:Int)=b:=congrArg _ h
theorem n62(h:i<2^62): -(2^62:Int)≤(i:Int)∧(i:Int)<2^62:=by omega
theorem sj:((a+1:Nat):Int)-1=(a:Int):=Int.add_sub_cancel (a:Int) 1
end
section
variable {s t u a b c d:Int}{m n k:Nat}
theorem ib0(h: -(n:Int)≤s)(g:s≤n):s.natAbs≤n:=by omega
theorem qh(h:a≤s∧s≤b)(k:(decide (-(n:Int)≤a)&&decide (b≤n))=true):s.natAbs≤n:=
 have k:=FR.mp k
 ib0 (F6 (of_decide_eq_true k.1) h.1) (F6 h.2 (of_decide_eq_true k.2))
theorem tbn(h:0≤s)(g:s≤b):s.natAbs≤b.toNat:=ib0 (F6 (Int.neg_nonpos_of_nonneg (F5 _)) h) (F6 g (Int.self_le_toNat b))
theorem iat(h:a≤s∧s<b)(k:(decide (-(n:Int)≤a)&&decide (b≤n))=true):s.natAbs≤n:=qh ⟨h.1,Ga h.2⟩ k
theorem Fj(h:a≤s)(g:s<b)(k:(decide (-(n:Int)≤a)&&decide (b≤n))=true):s.natAbs≤n:=iat ⟨h,g⟩ k
theorem iad(h:a<s)(g:s≤b)(k:(decide (-(n:Int)≤a)&&decide (b≤n))=true):s.natAbs≤n:=qh ⟨Ga h,g⟩ k
theorem zd(h:a≤s∧s≤b)(k:(decide (c≤a)&&decide (b≤d))=true):c≤s∧s≤d:=
 have k:=FR.mp k
 ⟨F6 (of_decide_eq_true k.1) h.1,F6 h.2 (of_decide_eq_true k.2)⟩
theorem iil(h:a≤s∧s≤b)(k:decide (c≤a)=true):c≤s:=F6 (of_decide_eq_true k) h.1
theorem ilc(h:a≤s)(k:decide (c≤a)=true):c≤s:=F6 (of_decide_eq_true k) h
theorem iba(h:a≤s∧s≤b)(k:(decide (c≤a+1)&&decide (b+1≤d))=true):c≤s+1∧s+1≤d:=
 have k:=FR.mp k
 ⟨F6 (of_decide_eq_true k.1) (Gb h.1 1),F6 (Gb h.2 1) (of_decide_eq_true k.2)⟩
theorem nec(e:s=t)(k:t.natAbs.ble n=true):s.natAbs≤n:=e▸HE k
theorem FG(h:s.natAbs≤m)(k:m.ble n=true):(-s).natAbs≤n:=by rw[Int.natAbs_neg];exact bf h k
theorem xu(h:s.natAbs≤m)(g:t.natAbs≤k)(w:(m+k).ble n=true):(s+t).natAbs≤n:=bf (Hu (Int.natAbs_add_le ..) (Nat.add_le_add h g)) w
theorem Ca(h:s.natAbs≤m)(g:t.natAbs≤k)(w:(m+k).ble n=true):(s-t).natAbs≤n:=by rw[Int.sub_eq_add_neg];exact xu h (by rw[Int.natAbs_neg];exact g) w
theorem eD(h:s.natAbs≤m)(w:(m+1).ble n=true):(s-1).natAbs≤n:=Ca h (Hv 1) w
end
section
variable {a b c d m n i k f x y:Nat}
theorem lSn(e:a=n+1):n<a:=e▸Hx n
theorem lSp(e:a=n+1):n=a-1:=e▸rfl
theorem rt1(e:n-i=k+1):n-(i+1)=k:=by rw[Nat.sub_add_eq,e];rfl
theorem rt0(h:i<n):n-i=n-i-1+1:=fu (Nat.sub_pos_of_lt h)
theorem rt2(e:n-(i+1)=k):k=n-1-i:=e.symm.trans (by rw[HR];exact Nat.sub_add_eq ..)
theorem lmm(e:b=a)(h:i<b):i<min a b:=by rw[e,HO];exact e▸h
theorem EK(h:i<a)(e:((b:Int)==a)=true):i<b:=ET e▸h
theorem ltr(h:i<b)(e:((b:Int)==a)=true):i<a:=ET e▸h
theorem cmx(h:a+n<c)(g:k<n):a+1+k<c:=HC (by rw[Nat.add_assoc,HR 1];exact HM g a) h
theorem ady(h:a<b):a<b+c:=HF h (HA ..)
theorem l8(h:i<n)(g:n≤m)(e:a=i)(k:m.ble x=true):a≤x:=e▸HH (Ch h g k)
theorem l9(h:i<m)(e:a=i)(k:m.ble x=true):a≤x:=e▸HH (Dh h k)
theorem asl(h:a+m≤n):a≤n:=Hu (HA ..) h
theorem ne0(h:a+b≤a):b=0:=Nat.le_zero.mp (Nat.le_of_add_le_add_left h)
theorem dp(h:a+8*d+220<n)(k:m.ble 220=true):a+m<n:=HC (Hu (HM (HE k) a) (HQ (HA a (8*d)) 220)) h
theorem bry(g:x≤a+4)(h:a+8*(d+1)+220<n):x+1+3+8*d+220<n:=Eg h (HQ g 4)
theorem mac:m+1+k+1=m+k+1+1:=congrArg (· +1) (HZ m 1 k)
theorem z1k:0+k+1=k+1:=congrArg (· +1) (HW k)
theorem jlt{s:Int}{l:Nat}(h:a<l)(g:l≤m)(k:decide ((m:Int)≤s)=true):(a:Int)<s:=F' (F9.mpr (HF h g)) (of_decide_eq_true k)
theorem jm{s:Int}(k:decide (s≤0)=true):s≤(a:Int):=F6 (of_decide_eq_true k) (F5 a)
theorem j0(h:i<n):0≤(i:Int)∧(i:Int).toNat<n:=⟨F5 i,h⟩
theorem Ck(h:1≤a):(a:Int)-1=((a-1:Nat):Int):=(Int.ofNat_sub h).symm
theorem scs{a:Int}:a+(i:Int)+1=a+((i+1:Nat):Int):=Int.add_assoc ..
theorem sct{b:Int}:b-(i:Int)-1=b-((i+1:Nat):Int):=Int.sub_sub b i 1
theorem tn0(h: ¬(1:Int)<((a+1:Nat):Int)):Int.toNat 0=a:=(Nat.le_zero.mp (Nat.le_of_succ_le_succ (F_.mp (F7.mp h)))).symm
theorem mi1:min (1:Int) ((a:Int)+1)=1:=Int.min_eq_left (Int.le_add_of_nonneg_left (F5 a))
theorem leq{m:Int}(e:(b:Int)=m)(g:(a:Int)<m):a<b:=F9.mp (e▸g)
end
section
variable {s t u a b c d:Int}{m n k:Nat}
theorem ain{p:Prop}(h:a≤s∧(s<b∧p))(k:decide (c≤a)=true):c≤s:=F6 (of_decide_eq_true k) h.1
theorem aiu{p:Prop}(h:a≤s∧(s<b∧p))(k:decide (b≤c)=true):s<c:=F' h.2.1 (of_decide_eq_true k)
theorem ibt(h:a≤s∧s<b)(k:(decide (c≤a)&&decide (b≤d))=true):c≤s∧s<d:=
 have k:=FR.mp k
 ⟨F6 (of_decide_eq_true k.1) h.1,F' h.2 (of_decide_eq_true k.2)⟩
theorem EO(h:0≤s∧s≤b)(g:t.natAbs≤k)(w:(b.toNat+k).ble n=true):(s+t).natAbs≤n:=xu (tbn h.1 h.2) g w
theorem nA1(h:1≤s∧s≤b)(w:(b.toNat+1).ble n=true):(s+1).natAbs≤n:=xu (tbn (F6 (by decide) h.1) h.2) (Hv 1) w
theorem xne(h:1≤s)(e:s=0):False:=by rw[e]at h;exact absurd h (by decide)
theorem npn(h:0<s): ¬s=0:=Int.ne_of_gt h
theorem Ds:s+0+0=s:=by rw[Int.add_zero,Int.add_zero]
theorem bts(h:s.natAbs<k)(w:decide ((k:Int)≤t)=true):s<t:=F' (Gc Int.le_natAbs (F9.mpr h)) (of_decide_eq_true w)
theorem btn(h:s.natAbs<k)(w:decide (t≤ -(k:Int))=true):t<s:=Gc (of_decide_eq_true w) (Int.neg_lt_of_neg_lt (bts (s:= -s) (k:=k) (by rw[Int.natAbs_neg];exact h) (decide_eq_true (Int.le_refl _))))
theorem tz(h:s≤0):s.toNat=0:=Int.toNat_eq_zero.mpr h
theorem il4{y:Int}(h: ¬y=5)(g:y<6):y≤4:=Ge (Gf.mpr ⟨Ge g,h⟩)
theorem l1y(h:0≤s): -1-s<0:=Int.sub_neg_of_lt (F' (by decide) h)
theorem nlm(h:s.natAbs≤m)(w:decide ((m:Int)≤t)=true):s≤t:=F6 Int.le_natAbs (F6 (F_.mpr h) (of_decide_eq_true w))
theorem lnz(h:0≤s+(m:Int)): -(m:Int)≤s:=by omega
end
end
section
theorem oA{p0:Prop}{p1:Prop}{G:Prop}(h:p0∧p1)(k:p0→p1→G):G:=h.elim fun y1 h=>k y1 h
theorem oE{J_:Sort _}{p0:J_→Prop}{G:Prop}(h: ∃x0,p0 x0)(k: ∀x0,p0 x0→G):G:=h.elim fun x0 h=>k x0 h
theorem mF{p0:Prop}{p1:Prop}{p2:Prop}{G:Prop}(h:p0∧p1∧p2)(k:p0→p1→p2→G):G:=h.elim fun y1 h=>h.elim fun y2 h=>k y1 y2 h
theorem aK{J_:Sort _}{p0:J_→Prop}{p1:J_→Prop}{G:Prop}(h: ∃x0,p0 x0∧p1 x0)(k: ∀x0,p0 x0→p1 x0→G):G:=h.elim fun x0 h=>h.elim fun y1 h=>k x0 y1 h
theorem rq{J_ Kb:Sort _}{p0:J_→Kb→Prop}{G:Prop}(h: ∃x0,∃x1,p0 x0 x1)(k: ∀x0,∀x1,p0 x0 x1→G):G:=h.elim fun x0 h=>h.elim fun x1 h=>k x0 x1 h
theorem td{p0:Prop}{p1:Prop}{p2:Prop}{p3:Prop}{G:Prop}(h:p0∧p1∧p2∧p3)(k:p0→p1→p2→p3→G):G:=h.elim fun y1 h=>h.elim fun y2 h=>h.elim fun y3 h=>k y1 y2 y3 h
theorem Dy{J_:Sort _}{p0:Prop}{p1:J_→Prop}{p2:J_→Prop}{G:Prop}(h:p0∧(∃x0,p1 x0∧p2 x0))(k:p0→ ∀x0,p1 x0→p2 x0→G):G:=h.elim fun y1 h=>h.elim fun x0 h=>h.elim fun y2 h=>k y1 x0 y2 h
theorem cz{J_:Sort _}{p0:J_→Prop}{p1:J_→Prop}{p2:J_→Prop}{G:Prop}(h: ∃x0,p0 x0∧p1 x0∧p2 x0)(k: ∀x0,p0 x0→p1 x0→p2 x0→G):G:=h.elim fun x0 h=>h.elim fun y1 h=>h.elim fun y2 h=>k x0 y1 y2 h
theorem bc{J_ Kb:Sort _}{p0:J_→Kb→Prop}{p1:J_→Kb→Prop}{G:Prop}(h: ∃x0,∃x1,p0 x0 x1∧p1 x0 x1)(k: ∀x0,∀x1,p0 x0 x1→p1 x0 x1→G):G:=h.elim fun x0 h=>h.elim fun x1 h=>h.elim fun y1 h=>k x0 x1 y1 h
theorem D8{J_ Kb Kh:Sort _}{p0:J_→Kb→Kh→Prop}{G:Prop}(h: ∃x0,∃x1,∃x2,p0 x0 x1 x2)(k: ∀x0,∀x1,∀x2,p0 x0 x1 x2→G):G:=h.elim fun x0 h=>h.elim fun x1 h=>h.elim fun x2 h=>k x0 x1 x2 h
theorem C9{p0:Prop}{p1:Prop}{p2:Prop}{p3:Prop}{p4:Prop}{G:Prop}(h:p0∧p1∧p2∧p3∧p4)(k:p0→p1→p2→p3→p4→G):G:=h.elim fun y1 h=>h.elim fun y2 h=>h.elim fun y3 h=>h.elim fun y4 h=>k y1 y2 y3 y4 h
theorem mQ{J_:Sort _}{p0:J_→Prop}{p1:J_→Prop}{p2:J_→Prop}{p3:J_→Prop}{G:Prop}(h: ∃x0,p0 x0∧p1 x0∧p2 x0∧p3 x0)(k: ∀x0,p0 x0→p1 x0→p2 x0→p3 x0→G):G:=h.elim fun x0 h=>h.elim fun y1 h=>h.elim fun y2 h=>h.elim fun y3 h=>k x0 y1 y2 y3 h
theorem D2{J_ Kb:Sort _}{p0:J_→Prop}{p1:J_→Kb→Prop}{p2:J_→Kb→Prop}{G:Prop}(h: ∃x0,p0 x0∧(∃x1,p1 x0 x1∧p2 x0 x1))(k: ∀x0,p0 x0→ ∀x1,p1 x0 x1→p2 x0 x1→G):G:=h.elim fun x0 h=>h.elim fun y1 h=>h.elim fun x1 h=>h.elim fun y2 h=>k x0 y1 x1 y2 h
theorem dy{J_ Kb:Sort _}{p0:J_→Kb→Prop}{p1:J_→Kb→Prop}{p2:J_→Kb→Prop}{G:Prop}(h: ∃x0,∃x1,p0 x0 x1∧p1 x0 x1∧p2 x0 x1)(k: ∀x0,∀x1,p0 x0 x1→p1 x0 x1→p2 x0 x1→G):G:=h.elim fun x0 h=>h.elim fun x1 h=>h.elim fun y1 h=>h.elim fun y2 h=>k x0 x1 y1 y2 h
theorem lz{J_ Kb Kh:Sort _}{p0:J_→Kb→Kh→Prop}{p1:J_→Kb→Kh→Prop}{G:Prop}(h: ∃x0,∃x1,∃x2,p0 x0 x1 x2∧p1 x0 x1 x2)(k: ∀x0,∀x1,∀x2,p0 x0 x1 x2→p1 x0 x1 x2→G):G:=h.elim fun x0 h=>h.elim fun x1 h=>h.elim fun x2 h=>h.elim fun y1 h=>k x0 x1 x2 y1 h
theorem AH{J_ Kb:Sort _}{p0:Prop}{p1:Prop}{p2:J_→Kb→Prop}{p3:J_→Kb→Prop}{G:Prop}(h:p0∧p1∧(∃x0,∃x1,p2 x0 x1∧p3 x0 x1))(k:p0→p1→ ∀x0,∀x1,p2 x0 x1→p3 x0 x1→G):G:=h.elim fun y1 h=>h.elim fun y2 h=>h.elim fun x0 h=>h.elim fun x1 h=>h.elim fun y3 h=>k y1 y2 x0 x1 y3 h
theorem lU{J_ Kb:Sort _}{p0:Prop}{p1:J_→Kb→Prop}{p2:J_→Kb→Prop}{p3:J_→Kb→Prop}{G:Prop}(h:p0∧(∃x0,∃x1,p1 x0 x1∧p2 x0 x1∧p3 x0 x1))(k:p0→ ∀x0,∀x1,p1 x0 x1→p2 x0 x1→p3 x0 x1→G):G:=h.elim fun y1 h=>h.elim fun x0 h=>h.elim fun x1 h=>h.elim fun y2 h=>h.elim fun y3 h=>k y1 x0 x1 y2 y3 h
theorem bS{J_ Kb:Sort _}{p0:J_→Kb→Prop}{p1:J_→Kb→Prop}{p2:J_→Kb→Prop}{p3:J_→Kb→Prop}{G:Prop}(h: ∃x0,∃x1,p0 x0 x1∧p1 x0 x1∧p2 x0 x1∧p3 x0 x1)(k: ∀x0,∀x1,p0 x0 x1→p1 x0 x1→p2 x0 x1→p3 x0 x1→G):G:=h.elim fun x0 h=>h.elim fun x1 h=>h.elim fun y1 h=>h.elim fun y2 h=>h.elim fun y3 h=>k x0 x1 y1 y2 y3 h
theorem iC{J_ Kb Kh:Sort _}{p0:J_→Kb→Kh→Prop}{p1:J_→Kb→Kh→Prop}{p2:J_→Kb→Kh→Prop}{G:Prop}(h: ∃x0,∃x1,∃x2,p0 x0 x1 x2∧p1 x0 x1 x2∧p2 x0 x1 x2)(k: ∀x0,∀x1,∀x2,p0 x0 x1 x2→p1 x0 x1 x2→p2 x0 x1 x2→G):G:=h.elim fun x0 h=>h.elim fun x1 h=>h.elim fun x2 h=>h.elim fun y1 h=>h.elim fun y2 h=>k x0 x1 x2 y1 y2 h
theorem ji{J_ Kb Kh:Sort _}{p0:J_→Kb→Kh→Prop}{p1:J_→Kb→Kh→Prop}{p2:J_→Kb→Kh→Prop}{p3:J_→Kb→Kh→Prop}{G:Prop}(h: ∃x0,∃x1,∃x2,p0 x0 x1 x2∧p1 x0 x1 x2∧p2 x0 x1 x2∧p3 x0 x1 x2)(k: ∀x0,∀x1,∀x2,p0 x0 x1 x2→p1 x0 x1 x2→p2 x0 x1 x2→p3 x0 x1 x2→G):G:=h.elim fun x0 h=>h.elim fun x1 h=>h.elim fun x2 h=>h.elim fun y1 h=>h.elim fun y2 h=>h.elim fun y3 h=>k x0 x1 x2 y1 y2 y3 h
theorem bO{J_ Kb Kh Ks:Sort _}{p0:J_→Kb→Kh→Ks→Prop}{p1:J_→Kb→Kh→Ks→Prop}{p2:J_→Kb→Kh→Ks→Prop}{G:Prop}(h: ∃x0,∃x1,∃x2,∃x3,p0 x0 x1 x2 x3∧p1 x0 x1 x2 x3∧p2 x0 x1 x2 x3)(k: ∀x0,∀x1,∀x2,∀x3,p0 x0 x1 x2 x3→p1 x0 x1 x2 x3→p2 x0 x1 x2 x3→G):G:=h.elim fun x0 h=>h.elim fun x1 h=>h.elim fun x2 h=>h.elim fun x3 h=>h.elim fun y1 h=>h.elim fun y2 h=>k x0 x1 x2 x3 y1 y2 h
theorem gb{J_ Kb Kh Ks Kz:Sort _}{p0:J_→Kb→Kh→Ks→Kz→Prop}{p1:J_→Kb→Kh→Ks→Kz→Prop}{G:Prop}(h: ∃x0,∃x1,∃x2,∃x3,∃x4,p0 x0 x1 x2 x3 x4∧p1 x0 x1 x2 x3 x4)(k: ∀x0,∀x1,∀x2,∀x3,∀x4,p0 x0 x1 x2 x3 x4→p1 x0 x1 x2 x3 x4→G):G:=h.elim fun x0 h=>h.elim fun x1 h=>h.elim fun x2 h=>h.elim fun x3 h=>h.elim fun x4 h=>h.elim fun y1 h=>k x0 x1 x2 x3 x4 y1 h
theorem lK{J_ Kb:Sort _}{p0:Prop}{p1:J_→Kb→Prop}{p2:J_→Kb→Prop}{p3:J_→Kb→Prop}{p4:J_→Kb→Prop}{p5:J_→Kb→Prop}{G:Prop}(h:p0∧(∃x0,∃x1,p1 x0 x1∧p2 x0 x1∧p3 x0 x1∧p4 x0 x1∧p5 x0 x1))(k:p0→ ∀x0,∀x1,p1 x0 x1→p2 x0 x1→p3 x0 x1→p4 x0 x1→p5 x0 x1→G):G:=h.elim fun y1 h=>h.elim fun x0 h=>h.elim fun x1 h=>h.elim fun y2 h=>h.elim fun y3 h=>h.elim fun y4 h=>h.elim fun y5 h=>k y1 x0 x1 y2 y3 y4 y5 h
theorem cr{J_ Kb Kh Ks:Sort _}{p0:J_→Kb→Kh→Ks→Prop}{p1:J_→Kb→Kh→Ks→Prop}{p2:J_→Kb→Kh→Ks→Prop}{p3:J_→Kb→Kh→Ks→Prop}{G:Prop}(h: ∃x0,∃x1,∃x2,∃x3,p0 x0 x1 x2 x3∧p1 x0 x1 x2 x3∧p2 x0 x1 x2 x3∧p3 x0 x1 x2 x3)(k: ∀x0,∀x1,∀x2,∀x3,p0 x0 x1 x2 x3→p1 x0 x1 x2 x3→p2 x0 x1 x2 x3→p3 x0 x1 x2 x3→G):G:=h.elim fun x0 h=>h.elim fun x1 h=>h.elim fun x2 h=>h.elim fun x3 h=>h.elim fun y1 h=>h.elim fun y2 h=>h.elim fun y3 h=>k x0 x1 x2 x3 y1 y2 y3 h
theorem oM{J_ Kb Kh Ks Kz:Sort _}{p0:J_→Kb→Kh→Ks→Kz→Prop}{p1:J_→Kb→Kh→Ks→Kz→Prop}{p2:J_→Kb→Kh→Ks→Kz→Prop}{G:Prop}(h: ∃x0,∃x1,∃x2,∃x3,∃x4,p0 x0 x1 x2 x3 x4∧p1 x0 x1 x2 x3 x4∧p2 x0 x1 x2 x3 x4)(k: ∀x0,∀x1,∀x2,∀x3,∀x4,p0 x0 x1 x2 x3 x4→p1 x0 x1 x2 x3 x4→p2 x0 x1 x2 x3 x4→G):G:=h.elim fun x0 h=>h.elim fun x1 h=>h.elim fun x2 h=>h.elim fun x3 h=>h.elim fun x4 h=>h.elim fun y1 h=>h.elim fun y2 h=>k x0 x1 x2 x3 x4 y1 y2 h
theorem fk{J_ Kb Kh Ks Kz KV:Sort _}{p0:J_→Kb→Kh→Ks→Kz→KV→Prop}{p1:J_→Kb→Kh→Ks→Kz→KV→Prop}{G:Prop}(h: ∃x0,∃x1,∃x2,∃x3,∃x4,∃x5,p0 x0 x1 x2 x3 x4 x5∧p1 x0 x1 x2 x3 x4 x5)(k: ∀x0,∀x1,∀x2,∀x3,∀x4,∀x5,p0 x0 x1 x2 x3 x4 x5→p1 x0 x1 x2 x3 x4 x5→G):G:=h.elim fun x0 h=>h.elim fun x1 h=>h.elim fun x2 h=>h.elim fun x3 h=>h.elim fun x4 h=>h.elim fun x5 h=>h.elim fun y1 h=>k x0 x1 x2 x3 x4 x5 y1 h
theorem fy{J_ Kb Kh Ks Kz:Sort _}{p0:J_→Kb→Kh→Ks→Kz→Prop}{p1:J_→Kb→Kh→Ks→Kz→Prop}{p2:J_→Kb→Kh→Ks→Kz→Prop}{p3:J_→Kb→Kh→Ks→Kz→Prop}{G:Prop}(h: ∃x0,∃x1,∃x2,∃x3,∃x4,p0 x0 x1 x2 x3 x4∧p1 x0 x1 x2 x3 x4∧p2 x0 x1 x2 x3 x4∧p3 x0 x1 x2 x3 x4)(k: ∀x0,∀x1,∀x2,∀x3,∀x4,p0 x0 x1 x2 x3 x4→p1 x0 x1 x2 x3 x4→p2 x0 x1 x2 x3 x4→p3 x0 x1 x2 x3 x4→G):G:=h.elim fun x0 h=>h.elim fun x1 h=>h.elim fun x2 h=>h.elim fun x3 h=>h.elim fun x4 h=>h.elim fun y1 h=>h.elim fun y2 h=>h.elim fun y3 h=>k x0 x1 x2 x3 x4 y1 y2 y3 h
theorem jC{J_ Kb Kh Ks Kz KV:Sort _}{p0:J_→Kb→Kh→Ks→Kz→KV→Prop}{p1:J_→Kb→Kh→Ks→Kz→KV→Prop}{p2:J_→Kb→Kh→Ks→Kz→KV→Prop}{G:Prop}(h: ∃x0,∃x1,∃x2,∃x3,∃x4,∃x5,p0 x0 x1 x2 x3 x4 x5∧p1 x0 x1 x2 x3 x4 x5∧p2 x0 x1 x2 x3 x4 x5)(k: ∀x0,∀x1,∀x2,∀x3,∀x4,∀x5,p0 x0 x1 x2 x3 x4 x5→p1 x0 x1 x2 x3 x4 x5→p2 x0 x1 x2 x3 x4 x5→G):G:=h.elim fun x0 h=>h.elim fun x1 h=>h.elim fun x2 h=>h.elim fun x3 h=>h.elim fun x4 h=>h.elim fun x5 h=>h.elim fun y1 h=>h.elim fun y2 h=>k x0 x1 x2 x3 x4 x5 y1 y2 h
theorem f_{J_ Kb Kh:Sort _}{p0:J_→Kb→Kh→Prop}{p1:J_→Kb→Kh→Prop}{p2:J_→Kb→Kh→Prop}{p3:J_→Kb→Kh→Prop}{p4:J_→Kb→Kh→Prop}{p5:J_→Kb→Kh→Prop}{p6:J_→Kb→Kh→Prop}{G:Prop}(h: ∃x0,∃x1,∃x2,p0 x0 x1 x2∧p1 x0 x1 x2∧p2 x0 x1 x2∧p3 x0 x1 x2∧p4 x0 x1 x2∧p5 x0 x1 x2∧p6 x0 x1 x2)(k: ∀x0,∀x1,∀x2,p0 x0 x1 x2→p1 x0 x1 x2→p2 x0 x1 x2→p3 x0 x1 x2→p4 x0 x1 x2→p5 x0 x1 x2→p6 x0 x1 x2→G):G:=h.elim fun x0 h=>h.elim fun x1 h=>h.elim fun x2 h=>h.elim fun y1 h=>h.elim fun y2 h=>h.elim fun y3 h=>h.elim fun y4 h=>h.elim fun y5 h=>h.elim fun y6 h=>k x0 x1 x2 y1 y2 y3 y4 y5 y6 h
theorem kU{J_ Kb Kh Ks Kz:Sort _}{p0:J_→Kb→Kh→Ks→Kz→Prop}{p1:J_→Kb→Kh→Ks→Kz→Prop}{p2:J_→Kb→Kh→Ks→Kz→Prop}{p3:J_→Kb→Kh→Ks→Kz→Prop}{p4:J_→Kb→Kh→Ks→Kz→Prop}{G:Prop}(h: ∃x0,∃x1,∃x2,∃x3,∃x4,p0 x0 x1 x2 x3 x4∧p1 x0 x1 x2 x3 x4∧p2 x0 x1 x2 x3 x4∧p3 x0 x1 x2 x3 x4∧p4 x0 x1 x2 x3 x4)(k: ∀x0,∀x1,∀x2,∀x3,∀x4,p0 x0 x1 x2 x3 x4→p1 x0 x1 x2 x3 x4→p2 x0 x1 x2 x3 x4→p3 x0 x1 x2 x3 x4→p4 x0 x1 x2 x3 x4→G):G:=h.elim fun x0 h=>h.elim fun x1 h=>h.elim fun x2 h=>h.elim fun x3 h=>h.elim fun x4 h=>h.elim fun y1 h=>h.elim fun y2 h=>h.elim fun y3 h=>h.elim fun y4 h=>k x0 x1 x2 x3 x4 y1 y2 y3 y4 h
theorem fU{J_ Kb Kh Ks Kz KV:Sort _}{p0:J_→Kb→Kh→Ks→Kz→KV→Prop}{p1:J_→Kb→Kh→Ks→Kz→KV→Prop}{p2:J_→Kb→Kh→Ks→Kz→KV→Prop}{p3:J_→Kb→Kh→Ks→Kz→KV→Prop}{G:Prop}(h: ∃x0,∃x1,∃x2,∃x3,∃x4,∃x5,p0 x0 x1 x2 x3 x4 x5∧p1 x0 x1 x2 x3 x4 x5∧p2 x0 x1 x2 x3 x4 x5∧p3 x0 x1 x2 x3 x4 x5)(k: ∀x0,∀x1,∀x2,∀x3,∀x4,∀x5,p0 x0 x1 x2 x3 x4 x5→p1 x0 x1 x2 x3 x4 x5→p2 x0 x1 x2 x3 x4 x5→p3 x0 x1 x2 x3 x4 x5→G):G:=h.elim fun x0 h=>h.elim fun x1 h=>h.elim fun x2 h=>h.elim fun x3 h=>h.elim fun x4 h=>h.elim fun x5 h=>h.elim fun y1 h=>h.elim fun y2 h=>h.elim fun y3 h=>k x0 x1 x2 x3 x4 x5 y1 y2 y3 h
theorem bU{M:Model}{A:Around}{s:Shared}{α:Type}{p:Prop}[Decidable p]{a b:Sem α}{Q:α→Shared→Prop}{E:Value→Shared→Prop}(h: ¬p)(k:H9 M A b Q E s):H9 M A (if p then a else b) Q E s:=by rw[if_neg h];exact k
theorem c_{M:Model}{A:Around}{s:Shared}{α:Type}{p:Prop}[Decidable p]{a b:Sem α}{Q:α→Shared→Prop}{E:Value→Shared→Prop}(h:p)(k:H9 M A a Q E s):H9 M A (if p then a else b) Q E s:=by rw[if_pos h];exact k
theorem zK{α:Type}{p:Prop}[Decidable p]{a b c:α}(h: ¬p)(k:b=c):(if p then a else b)=c:=(if_neg h).trans k
theorem dJ{α:Type}{p:Prop}[Decidable p]{a b c:α}(h:p)(k:a=c):(if p then a else b)=c:=(if_pos h).trans k
theorem qY{α β:Type}{a b:α}{s t:β}{P:Prop}(e:(a,s)=(b,t))(k:a=b→s=t→P):P:=by cases e;exact k rfl rfl
inductive V where
 |val (v:Value)
 |int (i:Int)
 |str (s:Str)
 |tup (l:List V)
 |lst (k:Nat)
 |inst (C:Addr) (k:Nat)
 |rng (a b d:Int)
 deriving Inhabited
inductive aa where
 |lst (l:List V)
 |dct (fs:List (Str×V))
 |ro (l:List V) (vs:List Value) (n:Nat)
 deriving Inhabited
noncomputable abbrev Sg:=List aa
set_option genInjectivity false in
structure Pl where
 r:List Addr
 p:List Addr
noncomputable def Pl.free(ρ:Pl)(a:Addr):Prop:=a∉ρ.r∧a∉ρ.p
noncomputable abbrev am(vs:List Value)(n:Nat):Obj:={cls:= .type "tuple",data:= .seq vs.toArray n}
noncomputable abbrev az(vs:List Value)(n:Nat):Obj:={cls:= .type "list",data:= .seq vs.toArray n}
mutual
inductive R(h:Heap)(ρ:Pl):V→Value→Prop
 |val {v:Value}:R h ρ (.val v) v
 |int {i:Int} {t:Tok}:R h ρ (.int i) (.int i t)
 |str {s:Str} {t:Tok}:R h ρ (.str s) (.str s t)
 |tup {l:List V} {a:Addr} {vs:List Value} {n:Nat}:h.get? a=some (am vs n)→ρ.free a→Rs h ρ l vs→R h ρ (.tup l) (.ref a)
 |lst {k:Nat} {a:Addr}:ρ.r[k]? =some a→R h ρ (.lst k) (.ref a)
 |inst {C a dx:Addr} {k:Nat}:h.get? a=some (instObj C dx)→ρ.free a→ρ.r[k]? =some dx→R h ρ (.inst C k) (.ref a)
 |rng {a b d:Int} {r:Addr} {t u v:Tok}:IsRange h r a b d t u v→ρ.free r→R h ρ (.rng a b d) (.ref r)
inductive Rs(h:Heap)(ρ:Pl):List V→List Value→Prop
 |nil:Rs h ρ [] []
 |cons {x:V} {v:Value} {l:List V} {vs:List Value}:R h ρ x v→Rs h ρ l vs→Rs h ρ (x::l) (v::vs)
end
theorem no{α:Type}{b:α}{P:Prop}(e:(none:Option α)=some b):P:=nomatch e
theorem Cm{α:Type}{b:α}{P:Prop}(e:some b=(none:Option α)):P:=nomatch e
theorem dm{G:Prop}(h: ¬G→False):G:=F0 h
theorem iq{α:Type}{c:Prop}[Decidable c]{x:Option α}{o:α}(e:(if c then x else none)=some o):c∧x=some o:=by
 by_cases h:c
 ·rw[if_pos h]at e;exact⟨h,e⟩
 ·rw[if_neg h]at e;exact no e
theorem rO{α:Type}{c:Prop}[Decidable c]{x:Option α}{o:α}(e:(if c then none else x)=some o): ¬c∧x=some o:=by
 by_cases h:c
 ·rw[if_pos h]at e;exact no e
 ·rw[if_neg h]at e;exact⟨h,e⟩
theorem z8{α:Type}{a b:α}(e:some a=some b):b=a:=by obtain rfl:=H8 e;rfl
theorem aM{α β:Type}{x:Option α}{f:α→β}{b:β}{P:Prop}(e:x.map f=some b)(h: ∀a,x=some a→f a=b→P):P:=by
 cases x with
 |none=>exact no e
 |some a=>exact h a rfl (H8 e)
theorem ae{α β:Type}{x:Option α}{f:α→Option β}{b:β}{P:Prop}(e:x.bind f=some b)(h: ∀a,x=some a→f a=some b→P):P:=by
 cases x with
 |none=>exact no e
 |some a=>exact h a rfl e
theorem bH{α:Type}{p:Prop}[Decidable p]{x:Option α}{b:α}{P:Prop}(e:(if p then x else none)=some b)(h:p→x=some b→P):P:=by
 by_cases q:p
 ·rw[if_pos q]at e;exact h q e
 ·rw[if_neg q]at e;exact no e
theorem ii{α β:Type}{o:Option α}{a:Option β}{f:α→Option β}{b:β}{P:Prop}(e:o.elim a f=some b)(n:o=none→a=some b→P)(k: ∀x,o=some x→f x=some b→P):P:=by
 cases o with
 |none=>exact n rfl e
 |some x=>exact k x rfl e
theorem nc{α:Type}{a:α}{l:List α}{P:Prop}(e:a::l=[]):P:=nomatch e
theorem B4{α:Type}{a:α}{l:List α}{P:Prop}(e:[]=a::l):P:=nomatch e
theorem B7{P:Prop}(e:true=false):P:=nomatch e
theorem bI{P:Prop}(e:false=true):P:=nomatch e
theorem eV{α:Type}{p:Prop}[Decidable p]{x y:Option α}{b:α}{P:Prop}(e:(if p then x else y)=some b)(h:p→x=some b→P)(k: ¬p→y=some b→P):P:=by
 by_cases q:p
 ·rw[if_pos q]at e;exact h q e
 ·rw[if_neg q]at e;exact k q e
theorem dt{α:Type}{p:α→Prop}{a:α}(h:p a): ∀x∈[a],p x:=fun x m=>Gn.mp m▸h
theorem aW{α:Type}{p:α→Prop}{a:α}{l:List α}(h:p a)(k: ∀x∈l,p x): ∀x∈a::l,p x:=fun x m=>(Gp.mp m).elim (fun e=>e▸h) (k x)
theorem fH{α:Type}{p:α→Prop}: ∀x∈([]:List α),p x:=fun u_ m=>nomatch m
theorem pY{α:Type}{p:Prop}[Decidable p]{f:p→Option α}{b:α}{P:Prop}(e:(if h:p then f h else none)=some b)(k: ∀h,f h=some b→P):P:=by
 by_cases q:p
 ·rw[dif_pos q]at e;exact k q e
 ·rw[dif_neg q]at e;exact no e
noncomputable def cR(x:V):Option Int:=if h:x.ctorIdx=1 then some (@V.int.elim (fun u_=>Int) x h fun a=>a)else none
noncomputable def gv(x:V):Option Nat:=if h:x.ctorIdx=4 then some (@V.lst.elim (fun u_=>Nat) x h fun a=>a)else none
noncomputable def eG(x:V):Option (List V):=if h:x.ctorIdx=3 then some (@V.tup.elim (fun u_=>List V) x h fun a=>a)else none
noncomputable def A8(x:V):Option Str:=if h:x.ctorIdx=2 then some (@V.str.elim (fun u_=>Str) x h fun a=>a)else none
noncomputable def kr(x:V):Option Value:=if h:x.ctorIdx=0 then some (@V.val.elim (fun u_=>Value) x h fun a=>a)else none
noncomputable def m_(x:Value):Option Bool:=if h:x.ctorIdx=3 then some (@Value.bool.elim (fun u_=>Bool) x h fun a=>a)else none
noncomputable def lE(x:Value):Bool:=x.ctorIdx.beq 0
theorem b9{x:V}{i:Int}(e:cR x=some i):x= .int i:=pY e fun h u_=> @V.int.elim (fun x=>cR x=some i→x= .int i) x h (fun u_ e=>congrArg _ (H8 e)) e
theorem gj{x:V}{i:Nat}(e:gv x=some i):x= .lst i:=pY e fun h u_=> @V.lst.elim (fun x=>gv x=some i→x= .lst i) x h (fun u_ e=>congrArg _ (H8 e)) e
noncomputable def EJ(x:V):Option (Int×Int×Int):=if h:x.ctorIdx=6 then some (@V.rng.elim (fun u_=>Int×Int×Int) x h fun a b d=>(a,b,d))else none
noncomputable def Dn(x:V):Option {p:Addr×Nat//x= .inst p.1 p.2}:=if h:x.ctorIdx=5 then some (@V.inst.elim (fun x=>{p:Addr×Nat//x= .inst p.1 p.2}) x h fun a k=>⟨(a,k),rfl⟩)else none
theorem eo{x:V}{i:List V}(e:eG x=some i):x= .tup i:=pY e fun h u_=> @V.tup.elim (fun x=>eG x=some i→x= .tup i) x h (fun u_ e=>congrArg _ (H8 e)) e
theorem zF{x:V}{i:Str}(e:A8 x=some i):x= .str i:=pY e fun h u_=> @V.str.elim (fun x=>A8 x=some i→x= .str i) x h (fun u_ e=>congrArg _ (H8 e)) e
theorem ik{x:V}{i:Value}(e:kr x=some i):x= .val i:=pY e fun h u_=> @V.val.elim (fun x=>kr x=some i→x= .val i) x h (fun u_ e=>congrArg _ (H8 e)) e
theorem nv{x:Value}{i:Bool}(e:m_ x=some i):x= .bool i:=pY e fun h u_=> @Value.bool.elim (fun x=>m_ x=some i→x= .bool i) x h (fun u_ e=>congrArg _ (H8 e)) e
theorem iE{x:Value}(e:lE x=true):x= .none:=by cases x<;>first|rfl|exact bI e
noncomputable def i6(y:V):Bool:=(kr y).any lE
theorem kT{y:V}(e:i6 y=true):y= .val .none:=by
 unfold i6 at e
 cases h:kr y with
 |none=>rw[h]at e;exact bI e
 |some w=>rw[h]at e;rw[ik h,iE e]
noncomputable def DH:aa→Option (List V)
 | .lst l=>some l
 |_=>none
noncomputable def aG(σ:Sg)(k:Nat):Option (List V):=σ[k]?.bind DH
theorem bD{σ:Sg}{k:Nat}{l:List V}(e:aG σ k=some l):σ[k]? =some (.lst l):=ae e fun x h w=>by
 cases x with
 |lst=>exact H8 w▸h
 |_=>exact no w
noncomputable def rdL:aa→Option (List V)
 | .lst l=>some l
 | .ro l _ _=>some l
 |_=>none
noncomputable def pv(σ:Sg)(k:Nat):Option (List V):=σ[k]?.bind rdL
theorem xy{σ:Sg}{k:Nat}{l:List V}(h:σ[k]? =some (.lst l)):pv σ k=some l:=by unfold pv;rw[h];rfl
theorem aN{σ:Sg}{k:Nat}{l:List V}(h:σ[k]? =some (.lst l)):aG σ k=some l:=by unfold aG;rw[h];rfl
section
variable {h:Heap}{ρ:Pl}
theorem R.valQ{u v:Value}(r:R h ρ (.val u) v):v=u:=by cases r;rfl
theorem R.noneQ{x:V}(r:R h ρ x .none):x= .val .none:=by cases r;rfl
theorem R.intQ{i:Int}{v:Value}(r:R h ρ (.int i) v): ∃t,v= .int i t:=by cases r;exact⟨_,rfl⟩
theorem R.strQ{i:Str}{v:Value}(r:R h ρ (.str i) v): ∃t,v= .str i t:=by cases r;exact⟨_,rfl⟩
theorem Rs.nilQ{vs:List Value}(r:Rs h ρ [] vs):vs=[]:=by cases r;rfl
theorem Rs.nil2Q{l:List V}(r:Rs h ρ l []):l=[]:=by cases r;rfl
theorem R.valE{u:Value}{motive: ∀v,R h ρ (.val u) v→Prop}(val:motive u .val){v:Value}(r:R h ρ (.val u) v):motive v r:=by cases r;exact val
theorem R.tupE{l:List V}{motive: ∀v,R h ρ (.tup l) v→Prop}(tup: ∀{a vs n} (h1:h.get? a=some (am vs n)) (f1:ρ.free a) (rs:Rs h ρ l vs),motive (.ref a) (.tup h1 f1 rs)){v:Value}(r:R h ρ (.tup l) v):motive v r:=by cases r with|tup a b c=>exact tup a b c
theorem R.lstE{k:Nat}{motive: ∀v,R h ρ (.lst k) v→Prop}(lst: ∀{a} (h1:ρ.r[k]? =some a),motive (.ref a) (.lst h1)){v:Value}(r:R h ρ (.lst k) v):motive v r:=by cases r with|lst a=>exact lst a
theorem Rs.nilE{motive: ∀vs,Rs h ρ [] vs→Prop}(nil:motive [] .nil){vs:List Value}(r:Rs h ρ [] vs):motive vs r:=by cases r;exact nil
theorem Rs.consE{x:V}{l:List V}{motive: ∀vs,Rs h ρ (x::l) vs→Prop}(cons: ∀{v vs} (r:R h ρ x v) (rs:Rs h ρ l vs),motive (v::vs) (.cons r rs)){vs:List Value}(r:Rs h ρ (x::l) vs):motive vs r:=by cases r with|cons a b=>exact cons a b
end
inductive Rf(h:Heap)(ρ:Pl):List (Str×V)→List DictEntry→Prop
 |nil:Rf h ρ [] []
 |cons {n:Str} {t:Tok} {x:V} {e:DictEntry} {fs:List (Str×V)} {es:List DictEntry}:e.key= .str n t→R h ρ x e.val→Rf h ρ fs es→Rf h ρ ((n,x)::fs) (e::es)
noncomputable abbrev fc(es:List DictEntry)(n:Nat)(sl:Array (Option Value)):Obj:={cls:= .type "dict",data:= .dict es.toArray n,slots:=sl}
noncomputable def eY(h:Heap)(ρ:Pl):aa→Addr→Prop
 | .lst l,a=> ∃vs n,h.get? a=some (az vs n)∧Rs h ρ l vs
 | .dct fs,a=> ∃es n sl,h.get? a=some (fc es n sl)∧Rf h ρ fs es
 | .ro l vs n,a=>h.get? a=some (az vs n)∧Rs h ρ l vs
set_option genInjectivity false in
structure Cx where
 prog:Program
 w:World
 K:Frag
 n₀:Nat
 T:List Addr
 cs:List (Addr×Addr)
 mg:Str→Option Value
 mb:Str→Option Value
 base:Heap
 nm:List (Str×Value)
variable (c:Cx)
noncomputable def ug(a:Addr)(o o':Obj):Prop:=
 o'=o∨(c.n₀≤a∧(∃es ep,o.data= .dict es ep)∧ ∃sl,o'={o with slots:=sl})∨(a∈c.T∧o.cls= .none∧ ∃vs more,o.data= .fields vs∧o'={o with data:= .fields (vs++more)})
variable {c}
theorem ug.refl(a:Addr)(o:Obj):ug c a o o:= .inl rfl
theorem ug.trans{a:Addr}{o p q:Obj}(x:ug c a o p)(y:ug c a p q):ug c a o q:=by
 rcases x with rfl|⟨g,⟨es,ep,dd⟩,sl,rfl⟩|⟨g,cl,vs,more,d,rfl⟩
 ·exact y
 ·rcases y with rfl|⟨_,_,sl',rfl⟩|⟨_,cl',vs,_,d,_⟩
  ·exact .inr (.inl ⟨g,⟨es,ep,dd⟩,sl,rfl⟩)
  ·exact .inr (.inl ⟨g,⟨es,ep,dd⟩,sl',rfl⟩)
  ·have:o.data= .fields vs:=d;rw[dd]at this;cases this
 ·rcases y with rfl|⟨_,⟨es,ep,dd⟩,_,_⟩|⟨_,_,ws,more',d',rfl⟩
  ·exact .inr (.inr ⟨g,cl,vs,more,d,rfl⟩)
  ·cases dd
  ·have e:ws=vs++more:=by simpa using d'.symm
   subst e
   exact .inr (.inr ⟨g,cl,vs,more++more',d,by rw[Array.append_assoc]⟩)
noncomputable def gX(o:Obj):Bool:=match o.data with
 | .dict .. =>false
 |_=>true
noncomputable def ur(o:Obj):Bool:=gX o&&o.cls != .none
theorem ug.frz{a:Addr}{o o':Obj}(x:ug c a o o')(f:ur o=true):o'=o:=by
 simp only[Internal.ur,FS,bne_iff_ne,ne_eq]at f
 rcases x with e|⟨_,⟨es,ep,d⟩,_⟩|⟨_,cl,_⟩
 ·exact e
 ·have:=f.1;unfold gX at this;rw[d]at this;exact bI this
 ·exact absurd cl f.2
theorem ug.dict{a:Addr}{o o':Obj}{es:Array DictEntry}{ep:Nat}(x:ug c a o o')(f:o.data= .dict es ep):o'.data= .dict es ep:=by
 rcases x with rfl|⟨_,_,_,rfl⟩|⟨_,_,_,_,d,_⟩
 ·exact f
 ·exact f
 ·rw[f]at d;cases d
theorem ug.old{a:Addr}{o o':Obj}(x:ug c a o o')(f:a<c.n₀)(g:a∉c.T):o'=o:=by
 rcases x with e|⟨m,_⟩|⟨m,_⟩
 ·exact e
 ·exact absurd f (Hy.mpr m)
 ·exact absurd m g
variable (c)
noncomputable def d9(S:List Addr)(h h':Heap):Prop:= ∀a o,a∉S→h.get? a=some o→ ∃o',h'.get? a=some o'∧ug c a o o'
variable {c}
theorem d9.refl(S:List Addr)(h:Heap):d9 c S h h:=fun a o u_ e=>⟨o,e,.refl a o⟩
theorem d9.trans{S:List Addr}{h h' h'':Heap}(x:d9 c S h h')(y:d9 c S h' h''):d9 c S h h'':=fun a o n e=>by
 refine aK (x a o n e) fun o' e' c=> ?_;refine aK (y a o' n e') fun o'' e'' c'=> ?_;exact⟨o'',e'',c.trans c'⟩
theorem d9.trans'{S S':List Addr}{h h' h'':Heap}(x:d9 c S h h')(y:d9 c S' h' h'')(k: ∀a∈S',a∈S∨h.get? a=none):d9 c S h h'':=fun a o n e=>by
 refine aK (x a o n e) fun o' e' c=> ?_
 obtain⟨o'',e'',c'⟩:=y a o' (fun m=>by
  rcases k a m with q|q
  ·exact n q
  ·rw[q]at e;exact no e) e'
 exact⟨o'',e'',c.trans c'⟩
theorem d9.mono{S T:List Addr}{h h':Heap}(x:d9 c S h h')(k: ∀a∈S,a∈T):d9 c T h h':=fun a o n e=>x a o (fun m=>n (k a m)) e
theorem d9.of_keeps{S:List Addr}{h h':Heap}(k: ∀b o,b∉S→h.get? b=some o→h'.get? b=some o):d9 c S h h':=fun a o n e=>⟨o,k a o n e,.refl a o⟩
theorem d9.get{S:List Addr}{h h':Heap}(x:d9 c S h h'){a:Addr}{o:Obj}(n:a∉S)(e:h.get? a=some o)(f:ur o=true):h'.get? a=some o:=by
 refine aK (x a o n e) fun o' e' c=> ?_;rw[c.frz f]at e';exact e'
theorem d9.ns{S:List Addr}{h h':Heap}(x:d9 c S h h'){a:Addr}{m:Str→Option Value}(n:a∉S)(e:h.Ns a m):h'.Ns a m:=by
 refine iC e fun o es ep ho hd r=> ?_;refine aK (x a o n ho) fun o' ho' q=> ?_;exact⟨o',es,ep,ho',q.dict hd,r⟩
set_option genInjectivity false in
structure Pl.Le(h:Heap)(ρ J3:Pl):Prop where
 pre:ρ.r<+:J3.r
 free: ∀a o,ρ.free a→h.get? a=some o→J3.free a
theorem Pl.Le.refl(h:Heap)(ρ:Pl):ρ.Le h ρ:=⟨Gu _,fun u_ u_ f u_=>f⟩
theorem Pl.Le.get{h:Heap}{ρ J3:Pl}(p:ρ.Le h J3){k:Nat}{a:Addr}(e:ρ.r[k]? =some a):J3.r[k]? =some a:=by
 refine oE p.pre fun t q=> ?_;rw[←q,GO (Gy.mp e).1];exact e
noncomputable def Pl.Off(ρ:Pl)(S:List Addr):Prop:= ∀a∈S,¬ρ.free a
theorem Pl.Off.nil(ρ:Pl):ρ.Off []:=fun u_ m=>by simp at m
theorem Pl.Off.r(ρ:Pl):ρ.Off ρ.r:=fun u_ m f=>f.1 m
theorem Pl.Off.p{ρ:Pl}{S:List Addr}(h: ∀a∈S,a∈ρ.p):ρ.Off S:=fun a m f=>f.2 (h a m)
theorem Pl.Off.append{ρ:Pl}{S T:List Addr}(x:ρ.Off S)(y:ρ.Off T):ρ.Off (S++T):=fun a m=>(Gl.mp m).elim (x a) (y a)
theorem R.both{h:Heap}{ρ:Pl}{P:V→Value→Prop}{Q:List V→List Value→Prop}(val: ∀{v},P (.val v) v)(int: ∀{i t},P (.int i) (.int i t))(str: ∀{i t},P (.str i) (.str i t))
 (tup: ∀{l a vs n},h.get? a=some (am vs n)→ρ.free a→Rs h ρ l vs→Q l vs→P (.tup l) (.ref a)) (lst: ∀{k a},ρ.r[k]? =some a→P (.lst k) (.ref a))
 (inst: ∀{C a dx k},h.get? a=some (instObj C dx)→ρ.free a→ρ.r[k]? =some dx→P (.inst C k) (.ref a)) (rng: ∀{a b d r t u v},IsRange h r a b d t u v→ρ.free r→P (.rng a b d) (.ref r))
 (nil:Q [] []) (cons: ∀{x v l vs},R h ρ x v→P x v→Rs h ρ l vs→Q l vs→Q (x::l) (v::vs)):(∀{x v},R h ρ x v→P x v)∧(∀{l vs},Rs h ρ l vs→Q l vs):=
 ⟨fun r=>R.rec (motive_1:=fun x v u_=>P x v) (motive_2:=fun l vs u_=>Q l vs) val int str tup lst inst rng nil (fun a b c d=>cons a c b d) r,
  fun r=>Rs.rec (motive_1:=fun x v u_=>P x v) (motive_2:=fun l vs u_=>Q l vs) val int str tup lst inst rng nil (fun a b c d=>cons a c b d) r⟩
theorem Rs.ind{h:Heap}{ρ:Pl}{Q:List V→List Value→Prop}(nil:Q [] [])(cons: ∀{x v l vs},R h ρ x v→Rs h ρ l vs→Q l vs→Q (x::l) (v::vs)){l:List V}{vs:List Value}(r:Rs h ρ l vs):Q l vs:=
 (R.both (P:=fun u_ u_=>True) trivial trivial trivial (fun u_ u_ u_ u_=>trivial) (fun u_=>trivial) (fun u_ u_ u_=>trivial) (fun u_ u_=>trivial) nil fun a u_ b c=>cons a b c).2 r
theorem R.monoB{h h':Heap}{ρ J3:Pl}{S:List Addr}(nl:ρ.Off S)(x:d9 c S h h')(p:ρ.Le h J3):(∀{V v},R h ρ V v→R h' J3 V v)∧(∀{l vs},Rs h ρ l vs→Rs h' J3 l vs):=
 R.both .val .int .str (fun e f u_ r=> .tup (x.get (fun m=>nl _ m f) e rfl) (p.free _ _ f e) r) (fun e=> .lst (p.get e)) (fun e f d=> .inst (x.get (fun m=>nl _ m f) e rfl) (p.free _ _ f e) (p.get d))
  (fun e f=> .rng (x.get (fun m=>nl _ m f) e rfl) (p.free _ _ f e)) .nil fun u_ r u_ rs=> .cons r rs
theorem R.mono{h h':Heap}{ρ J3:Pl}{S:List Addr}(nl:ρ.Off S)(x:d9 c S h h')(p:ρ.Le h J3){V:V}{v:Value}:R h ρ V v→R h' J3 V v:=(R.monoB nl x p).1
theorem Rs.mono{h h':Heap}{ρ J3:Pl}{S:List Addr}(nl:ρ.Off S)(x:d9 c S h h')(p:ρ.Le h J3){l:List V}{vs:List Value}:Rs h ρ l vs→Rs h' J3 l vs:=(R.monoB nl x p).2
theorem Rf.mono{h h':Heap}{ρ J3:Pl}{S:List Addr}(nl:ρ.Off S)(x:d9 c S h h')(p:ρ.Le h J3){l:List (Str×V)}{es:List DictEntry}(r:Rf h ρ l es):Rf h' J3 l es:=
 Rf.rec (motive:=fun l es u_=>Rf h' J3 l es) .nil (fun e r u_ ih=> .cons e (R.mono nl x p r) ih) r
theorem Rs.length{h:Heap}{ρ:Pl}{l:List V}{vs:List Value}(r:Rs h ρ l vs):l.length=vs.length:=Rs.ind (Q:=fun l vs=>l.length=vs.length) rfl (fun u_ u_ ih=>congrArg (· +1) ih) r
theorem Rs.sz{h:Heap}{ρ:Pl}{l:List V}{vs:List Value}(r:Rs h ρ l vs)(hz:l.length≤2^20):vs.toArray.size≤sizeLine:=show vs.length≤sizeLine from Hu (HX r.length.symm) (Hu hz (by decide))
theorem Rs.sz63{h:Heap}{ρ:Pl}{l:List V}{vs:List Value}(r:Rs h ρ l vs)(hz:l.length≤2^20):(vs.toArray.size:Int)<2^63:=Gc (F_.mpr (r.sz hz)) (by decide)
theorem Rs.get{h:Heap}{ρ:Pl}{l:List V}{vs:List Value}{k:Nat}{x:V}(r:Rs h ρ l vs):l[k]? =some x→ ∃v,vs[k]? =some v∧R h ρ x v:=
 Rs.ind (Q:=fun l vs=> ∀k x,l[k]? =some x→ ∃v,vs[k]? =some v∧R h ρ x v) (fun u_ u_ e=>no e) (fun r u_ ih k x e=>by
  cases k with
  |zero=>exact⟨_,rfl,H8 e▸r⟩
  |succ k=>exact ih k x e) r k x
theorem Rs.append{h:Heap}{ρ:Pl}{l l':List V}{vs vs':List Value}(r:Rs h ρ l vs)(q:Rs h ρ l' vs'):Rs h ρ (l++l') (vs++vs'):=Rs.ind (Q:=fun l vs=>Rs h ρ (l++l') (vs++vs')) q (fun r u_ ih=> .cons r ih) r
theorem Rs.reverse{h:Heap}{ρ:Pl}{l:List V}{vs:List Value}(r:Rs h ρ l vs):Rs h ρ l.reverse vs.reverse:=
 Rs.ind (Q:=fun l vs=>Rs h ρ l.reverse vs.reverse) .nil (fun r u_ ih=>by rw[GV,GV];exact ih.append (.cons r .nil)) r
theorem Rs.drop{h:Heap}{ρ:Pl}{l:List V}{vs:List Value}(k:Nat)(r:Rs h ρ l vs):Rs h ρ (l.drop k) (vs.drop k):=
 Rs.ind (Q:=fun l vs=> ∀k,Rs h ρ (l.drop k) (vs.drop k)) (fun k=>by cases k<;>exact .nil) (fun r rs ih k=>by
  cases k with
  |zero=>exact .cons r rs
  |succ k=>exact ih k) r k
theorem Rs.take{h:Heap}{ρ:Pl}{l:List V}{vs:List Value}(k:Nat)(r:Rs h ρ l vs):Rs h ρ (l.take k) (vs.take k):=
 Rs.ind (Q:=fun l vs=> ∀k,Rs h ρ (l.take k) (vs.take k)) (fun k=>by cases k<;>exact .nil) (fun r rs ih k=>by
  cases k with
  |zero=>exact .nil
  |succ k=>exact .cons r (ih k)) r k
variable (c)in
structure aO(ρ:Pl)(σ:Sg)(h:Heap):Prop where
 nodup:ρ.r.Nodup
 len:ρ.r.length=σ.length
 at_: ∀(k:Nat) (a:Addr) (l:aa),ρ.r[k]? =some a→σ[k]? =some l→eY h ρ l a
 low: ∀a∈ρ.r,c.n₀≤a
 plow: ∀a∈ρ.p,c.n₀≤a∧a<h.objs.size
 disj: ∀a∈ρ.p,a∉ρ.r
theorem aO.cls{ρ:Pl}{σ:Sg}{h:Heap}(s:aO c ρ σ h){a:Addr}(m:a∈ρ.r): ∃o,h.get? a=some o∧(o.cls= .type "list"∨o.cls= .type "dict"):=by
 obtain⟨k,hk,e⟩:=List.mem_iff_getElem.mp m;have hk':k<σ.length:=s.len▸hk
 have:=s.at_ k a σ[k] (by rw[GB hk,e]) (GB hk')
 cases q:σ[k]with
 |lst l=>rw[q]at this;refine bc this fun vs n e' u_=> ?_;exact⟨_,e',.inl rfl⟩
 |dct l=>rw[q]at this;refine lz this fun vs n sl e' u_=> ?_;exact⟨_,e',.inr rfl⟩
 |ro l vs n=>rw[q]at this;exact⟨_,this.1,.inl rfl⟩
theorem aO.rd{ρ:Pl}{σ:Sg}{h:Heap}(s:aO c ρ σ h){k:Nat}{a:Addr}{l:List V}(h1:ρ.r[k]? =some a)(e:pv σ k=some l): ∃vs n,h.get? a=some (az vs n)∧Rs h ρ l vs:=ae e fun x hx w=>by
 have:=s.at_ _ _ _ h1 hx
 cases x with
 |lst l'=>obtain rfl:=H8 w;exact this
 |dct=>exact no w
 |ro l' vs n=>obtain rfl:=H8 w;exact⟨vs,n,this⟩
theorem aO.notin{ρ:Pl}{σ:Sg}{h:Heap}(s:aO c ρ σ h){a:Addr}{o:Obj}(e:h.get? a=some o)(c1:o.cls≠ .type "list")(c2:o.cls≠ .type "dict"):a∉ρ.r:=fun m=>by
 refine aK (s.cls m) fun o' e' q=> ?_;rw[e]at e';obtain rfl:=H8 e';exact q.elim c1 c2
theorem aO.lt{ρ:Pl}{σ:Sg}{h:Heap}(s:aO c ρ σ h){a:Addr}(f: ¬ρ.free a):a<h.objs.size:=by
 by_cases m:a∈ρ.r
 ·refine aK (s.cls m) fun o e u_=> ?_;exact JI e
 ·by_cases q:a∈ρ.p
  ·exact(s.plow a q).2
  ·exact absurd ⟨m,q⟩ f
theorem aO.new{ρ:Pl}{σ:Sg}{h:Heap}(s:aO c ρ σ h){a:Addr}(l:h.objs.size≤a):ρ.free a:=by
 have: ¬ ¬ρ.free a:=fun f=>absurd (s.lt f) (Hy.mpr l);exact Classical.not_not.mp this
theorem pZ{h:Heap}{a:Addr}(l:h.objs.size≤a):h.get? a=none:=by
 cases q:h.get? a with
 |none=>rfl
 |some o=>exact absurd (JI q) (Hy.mpr l)
theorem eY.mono{h h':Heap}{ρ J3:Pl}{S:List Addr}(nl:ρ.Off S)(x:d9 c S h h')(p:ρ.Le h J3): ∀{l:aa} {a:Addr},a∉S→eY h ρ l a→eY h' J3 l a:=fun {l a} n q=>by
 cases l with
 |lst l=>exact bc q fun vs k e r=>⟨vs,k,x.get n e rfl,r.mono nl x p⟩
 |dct l=>
  refine lz q fun vs k sl e r=> ?_;refine aK (x a _ n e) fun o' e' q=> ?_
  rcases q with rfl|⟨_,_,sl',rfl⟩|⟨_,_,_,_,d,_⟩
  ·exact⟨vs,k,sl,e',r.mono nl x p⟩
  ·exact⟨vs,k,sl',e',r.mono nl x p⟩
  ·cases d
 |ro l vs m=>exact⟨x.get n q.1 rfl,q.2.mono nl x p⟩
theorem aO.mono{h h':Heap}{ρ:Pl}{S P:List Addr}{σ:Sg}(s:aO c ρ σ h)(nl:ρ.Off S)(x:d9 c S h h')(d: ∀a∈ρ.r,a∉S)(hz:h.objs.size≤h'.objs.size)
 (hp: ∀a∈P,a∈ρ.p∨(h.objs.size≤a∧a<h'.objs.size)) (g:c.n₀≤h.objs.size):aO c ⟨ρ.r,P⟩ σ h' where
 nodup:=s.nodup
 len:=s.len
 at_:=fun k a l h1 h2=>(s.at_ k a l h1 h2).mono (J3:=⟨ρ.r,P⟩) nl x ⟨Gu _,fun b o f e=>⟨f.1,fun m=>(hp b m).elim f.2 fun q=>absurd (JI e) (Hy.mpr q.1)⟩⟩ (d a (GY h1))
 low:=s.low
 plow:=fun a m=>(hp a m).elim (fun q=>⟨(s.plow a q).1,HF (s.plow a q).2 hz⟩) fun q=>⟨Hu g q.1,q.2⟩
 disj:=fun a m n=>(hp a m).elim (fun q=>s.disj a q n) fun q=>absurd (s.lt (fun f=>f.1 n)) (Hy.mpr q.1)
theorem eO{α β:Type}{x:Option α}{f:α→Option β}{b:β}{P:Prop}(e:x.bind f=some b)(h: ∀a,f a=some b→P):P:=ae e fun a u_ w=>h a w
theorem zG{α β:Type}{o:Option α}{a:Option β}{f:α→Option β}{b:β}{P:Prop}(e:o.elim a f=some b)(n:o=none→a=some b→P)(k: ∀x,f x=some b→P):P:=ii e n fun x u_ w=>k x w
noncomputable def rD(x:Value):Option String:=if h:x.ctorIdx=8 then some (@Value.type.elim (fun u_=>String) x h fun a=>a)else none
theorem wq{x:Value}{i:String}(e:rD x=some i):x= .type i:=pY e fun h u_=> @Value.type.elim (fun x=>rD x=some i→x= .type i) x h (fun u_ e=>congrArg _ (H8 e)) e
noncomputable def im(e:Expr):Option {p:Str×Pos//e= .Name p.1 p.2}:=if h:e.ctorIdx=23 then @Expr.Name.elim (fun e=>Option {p:Str×Pos//e= .Name p.1 p.2}) e h fun x p=>some ⟨(x,p),rfl⟩else none
noncomputable def kf(e:Expr):Option {p:List Expr×Nat×Pos//e= .Tuple p.1 p.2.1 p.2.2}:=if h:e.ctorIdx=25 then @Expr.Tuple.elim (fun e=>Option {p:List Expr×Nat×Pos//e= .Tuple p.1 p.2.1 p.2.2}) e h fun l k p=>some ⟨(l,k,p),rfl⟩else none
noncomputable def wx(e:Expr):Option {p:Expr×Str×Pos//e= .Attribute p.1 p.2.1 p.2.2}:=if h:e.ctorIdx=20 then @Expr.Attribute.elim (fun e=>Option {p:Expr×Str×Pos//e= .Attribute p.1 p.2.1 p.2.2}) e h fun x n p=>some ⟨(x,n,p),rfl⟩else none
noncomputable def wC(e:Expr):Option {p:Expr×List Expr×List Keyword×Pos//e= .Call p.1 p.2.1 p.2.2.1 p.2.2.2}:=if h:e.ctorIdx=16 then @Expr.Call.elim (fun e=>Option {p:Expr×List Expr×List Keyword×Pos//e= .Call p.1 p.2.1 p.2.2.1 p.2.2.2}) e h fun f a k p=>some ⟨(f,a,k,p),rfl⟩else none
noncomputable def Fi(e:Expr):Option {p:Expr×Expr×Pos//e= .Subscript p.1 p.2.1 p.2.2}:=if h:e.ctorIdx=21 then @Expr.Subscript.elim (fun e=>Option {p:Expr×Expr×Pos//e= .Subscript p.1 p.2.1 p.2.2}) e h fun x i p=>some ⟨(x,i,p),rfl⟩else none
noncomputable def Fs(e:Expr):Option {p:Expr×List Comprehension×Scope×Pos//e= .GeneratorExp p.1 p.2.1 p.2.2.1 p.2.2.2}:=if h:e.ctorIdx=11 then @Expr.GeneratorExp.elim (fun e=>Option {p:Expr×List Comprehension×Scope×Pos//e= .GeneratorExp p.1 p.2.1 p.2.2.1 p.2.2.2}) e h fun x g s p=>some ⟨(x,g,s,p),rfl⟩else none
noncomputable def lcO(e:Expr):Option {p:Expr×List Comprehension×Scope×Pos//e= .ListComp p.1 p.2.1 p.2.2.1 p.2.2.2}:=if h:e.ctorIdx=8 then @Expr.ListComp.elim (fun e=>Option {p:Expr×List Comprehension×Scope×Pos//e= .ListComp p.1 p.2.1 p.2.2.1 p.2.2.2}) e h fun x g s p=>some ⟨(x,g,s,p),rfl⟩else none
noncomputable def Ez(e:Expr):Option {p:Option Expr×Option Expr×Option Expr×Pos//e= .Slice p.1 p.2.1 p.2.2.1 p.2.2.2}:=if h:e.ctorIdx=26 then @Expr.Slice.elim (fun e=>Option {p:Option Expr×Option Expr×Option Expr×Pos//e= .Slice p.1 p.2.1 p.2.2.1 p.2.2.2}) e h fun l u s p=>some ⟨(l,u,s,p),rfl⟩else none
noncomputable def Bu(e:Expr):Option {p:Const×Nat×Pos//e= .Constant p.1 p.2.1 p.2.2}:=if h:e.ctorIdx=19 then @Expr.Constant.elim (fun e=>Option {p:Const×Nat×Pos//e= .Constant p.1 p.2.1 p.2.2}) e h fun k n p=>some ⟨(k,n,p),rfl⟩else none
noncomputable def FD(e:Stmt):Option {p:Option Expr×Pos//e= .Return p.1 p.2}:=if h:e.ctorIdx=3 then @Stmt.Return.elim (fun e=>Option {p:Option Expr×Pos//e= .Return p.1 p.2}) e h fun x p=>some ⟨(x,p),rfl⟩else none
theorem cp0{g:Comprehension}(h:g.is_async=0):g=⟨g.target,g.iter,g.ifs,0⟩:=by
 cases g;subst h;rfl
noncomputable def tu{α:Type}(l:List α):Option {x:α//l=[x]}:=match l with
 |[x]=>some ⟨x,rfl⟩
 |_=>none
noncomputable def Ae(d:Data):Option {p:FuncData//d= .func p}:=if h:d.ctorIdx=7 then @Data.func.elim (fun d=>Option {p:FuncData//d= .func p}) d h fun x=>some ⟨x,rfl⟩else none
noncomputable def Fb(d:Data):Option {p:ClassData//d= .cls p}:=if h:d.ctorIdx=8 then @Data.cls.elim (fun d=>Option {p:ClassData//d= .cls p}) d h fun x=>some ⟨x,rfl⟩else none
noncomputable def yB(d:Data):Option {p:Array Value//d= .fields p}:=if h:d.ctorIdx=9 then @Data.fields.elim (fun d=>Option {p:Array Value//d= .fields p}) d h fun x=>some ⟨x,rfl⟩else none
noncomputable def FC(d:Data):Option {p:Array Value×Nat//d= .seq p.1 p.2}:=if h:d.ctorIdx=2 then @Data.seq.elim (fun d=>Option {p:Array Value×Nat//d= .seq p.1 p.2}) d h fun x n=>some ⟨(x,n),rfl⟩else none
noncomputable def FI(v:Value):Option {p:Str×Tok//v= .str p.1 p.2}:=if h:v.ctorIdx=6 then @Value.str.elim (fun v=>Option {p:Str×Tok//v= .str p.1 p.2}) v h fun x t=>some ⟨(x,t),rfl⟩else none
noncomputable def vU:FuncBody→Option (List Stmt)
 | .stmts b=>some b
 | .expr _=>none
theorem xJ{b:FuncBody}{l:List Stmt}(h:vU b=some l):b= .stmts l:=by
 cases b with
 |stmts=>exact congrArg _ (H8 h)
 |expr=>exact no h
theorem jR{α:Type}{x:Option α}{f:α→Bool}{P:Prop}(e:x.any f=true)(h: ∀a,x=some a→f a=true→P):P:=by
 cases x with
 |none=>exact bI e
 |some a=>exact h a rfl e
end
variable {c:Cx}{A:Around}{ρ:Pl}{σ:Sg}{s:Shared}{M:Model}{J_:Sort _}{fn:Str}{outer:List Env}{value func ob:Expr}{newId:String}{Kb:Sort _}{Γ:Ctx}{α:Type}{h:Heap}{mn:Str}{cells:List (Str×Addr)}{β:Type}{la:Addr}{op:Operator}{Kh:Sort _}{target:Expr}{names:List (Str×NameKind)}{C:Addr}{name:Str}{slice elt:Expr}{S:List Addr}{N:List Str}{test:Expr}{KD:Pl}{args:List Expr}{ga:Addr}{lo:Option Int}{sl:List (Str×V)}{J3:Pl}{Ks:Sort _}{Kj:Pl}{fs:List (Str×V)}{items:Array Value}{iter:Expr}{T:String}{K:Frag}{L:Nat}{x:V}{o1:Obj}{body:List Stmt}{bs:List Bool}{a' a:Addr}{ss:List Int}{hi:Option Int}{ops:List CmpOp}{Kt D':List Addr}{h':Heap}{j:Nat}{st:Stmt}{Kz:Sort _}{xp:Pos}{v1:Value}{xn:Str}{n:Nat}{O:V}{fd:FuncData}{xs:List V}{k:Nat}{f1:Value}{e:Expr}{ifs:List Expr}{fv:Value}{e':Expr}{scope:Scope}{first:List V}{orelse:List Stmt}{l:List V}{kws:List Keyword}{KV:Sort _}{I:List Addr}{Ka:Shared}{v2:Value}{pos:Pos}{ext:Sg}{acc:List V}{p1:Prop}{ds:List Value}{z:Int}{u:Tok}{i:Nat}{kv:List (Str×Value)}{keywords:List (Option Str×Sem Value)}{f0:Value}{m:List V}{es:List Expr}{J1:Sg}{l':List V}{y:V}{G:Prop}{o2:Obj}{v3:Value}{b:Bool}{KJ:Sg}{vs:List Value}{w v:Value}{KA:Sg}{p2:Prop}{s':Shared}{ys:List V}{Ki:Sg}{Q:Value→Shared→Prop}{P:Prop}{kw:List (Str×Value)}{ws:List Value}{rn:Str}{J2:Sg}{binds:List (Str×V)}{J6 Kn:Sg}{B:V}{s'' J5 J8:Shared}{A':Around}{E:Value→Shared→Prop}{gs:GenState}{h'':Heap}
section
theorem d9.cell(x:d9 c S h h'){v:Option Value}(n:a∉S)(e:h.IsCell a v):h'.IsCell a v:=by
 refine aK e fun o ho hd=> ?_;refine aK (x a o n ho) fun o' ho' q=> ?_;refine⟨o',ho',?_⟩
 rcases q with rfl|⟨_,_,_,rfl⟩|⟨_,_,_,_,d,_⟩
 ·exact hd
 ·exact hd
 ·rw[hd]at d;cases d
theorem aO.cell(s:aO c ρ σ h){v:Option Value}(e:h.IsCell a v):a∉ρ.r:=fun q=>by
 obtain⟨k,hk,e'⟩:=List.mem_iff_getElem.mp q;have hk':k<σ.length:=s.len▸hk;refine aK e fun o ho hd=> ?_
 have:=s.at_ k a σ[k] (by rw[GB hk,e']) (GB hk')
 cases q:σ[k]with
 |lst l=>rw[q]at this;refine bc this fun vs n e' u_=> ?_;rw[ho]at e';obtain rfl:=H8 e';cases hd
 |dct l=>rw[q]at this;refine lz this fun vs n sl e' u_=> ?_;rw[ho]at e';obtain rfl:=H8 e';cases hd
 |ro l vs n=>rw[q]at this;have e':=this.1;rw[ho]at e';obtain rfl:=H8 e';cases hd
noncomputable def gJ(h:Heap)(p:Addr×Addr):Prop:= ∃ps,h.IsCode p.1 p.2 ps∧ ∀o,h.get? p.2=some o→o.cls= .none
theorem gJ.keep{p:Addr×Addr}(x:gJ h p)(k1: ∀o,h.get? p.1=some o→h'.get? p.1=some o)(k2: ∀o,h.get? p.2=some o→h'.get? p.2=some o):gJ h' p:=by
 obtain⟨ps,⟨o,vs,file,tf,flags,tg,inF,text,tt,op,a,r1,r2,r3,r4,r5,r6,b,r⟩,q⟩:=x;refine⟨ps,⟨o,vs,file,tf,flags,tg,inF,text,tt,op,k1 _ a,r1,r2,r3,r4,r5,r6,k2 _ b,r⟩,fun o' e=> ?_⟩;rw[k2 _ b]at e;obtain rfl:=H8 e;exact q _ b
set_option genInjectivity false in
structure Cx.Ok(c:Cx):Prop where
 kold: ∀a o,c.K.lookup a=some o→a<c.n₀∧a∉c.T
 bold: ∀a o,c.base.get? a=some o→a<c.n₀∧a∉c.T
 tcs: ∀p∈c.cs,p.2∈c.T
 told: ∀a∈c.T,a<c.n₀
 cold: ∀p∈c.cs,p.1<c.n₀∧p.1∉c.T
 names: ∀(x:Str) (v:Value),c.nm.lookup x=some v→c.mg x=some v∨(c.mg x=none∧c.mb x=some v)
 low:cStatics<c.n₀∧mainGlobals<c.n₀∧builtinsNs<c.n₀
 bmod: ∃bm o,c.mg "__builtins__"=some (.ref bm)∧bm≠builtinsNs∧c.base.get? bm=some o∧o.cls= .type "module"∧o.dict=some builtinsNs∧o.data= .plain
variable (c)in
structure Gd(h:Heap):Prop where
 kin:c.K.In h
 lim:h.NoLimit
 gl:h.Ns mainGlobals c.mg
 bl:h.Ns builtinsNs c.mb
 stays:c.base.StaysIn h
 codes: ∀p∈c.cs,gJ h p
 size:c.n₀≤h.objs.size
theorem Gd.step(ok:c.Ok)(g:Gd c h)(lo: ∀a∈S,c.n₀≤a)(x:d9 c S h h')(codes: ∀p∈c.cs,gJ h' p)(hz:h.objs.size≤h'.objs.size):Gd c h':=by
 have no: ∀{a},a<c.n₀→a∉S:=fun l m=>absurd l (Hy.mpr (lo _ m));refine⟨fun a o e=> ?_,?_,x.ns (no ok.low.2.1) g.gl,x.ns (no ok.low.2.2) g.bl,fun a o e=> ?_,codes,Hu g.size hz⟩
 ·refine oA (ok.kold a o e) fun o1 o2=> ?_;refine aK (x a o (no o1) (g.kin a o e)) fun o' e' q=> ?_;rw[q.old o1 o2]at e';exact e'
 ·refine aK g.lim fun mc a b=> ?_;exact⟨mc,x.ns (no ok.low.1) a,b⟩
 ·refine oA (ok.bold a o e) fun o1 o2=> ?_;refine aK (x a o (no o1) (g.stays a o e)) fun o' e' q=> ?_;rw[q.old o1 o2]at e';exact e'
structure nW(s s':Shared):Prop where
 drawn:s'.drawn=s.drawn
 os:s'.os=s.os
 gsize:s.gens.size≤s'.gens.size
 gold: ∀i,i<s.gens.size→s'.gens[i]? =s.gens[i]?
 bare:(∀x∈s.gens,x.bare=true)→ ∀x∈s'.gens,x.bare=true
 hsize:s.heap.objs.size≤s'.heap.objs.size
theorem nW.refl(s:Shared):nW s s:=⟨rfl,rfl,Hv _,fun u_ u_=>rfl,id,Hv _⟩
theorem nW.trans(x:nW s s')(y:nW s' s''):nW s s'':=
 ⟨y.drawn.trans x.drawn,y.os.trans x.os,Hu x.gsize y.gsize,fun i h=>(y.gold i (HF h x.gsize)).trans (x.gold i h),fun h=>y.bare (x.bare h),Hu x.hsize y.hsize⟩
theorem nW.heap{t:Nat}(hz:s.heap.objs.size≤h.objs.size):nW s {s with heap:=h,toks:=t}:=⟨rfl,rfl,Hv _,fun u_ u_=>rfl,id,hz⟩
variable (c)in
structure ad(D:List Addr)(ρ:Pl)(s:Shared)(J3:Pl)(J1:Sg)(s':Shared):Prop where
 pre:ρ.r<+:J3.r
 new: ∀a∈J3.r,a∈ρ.r∨s.heap.objs.size≤a
 pnew: ∀a∈J3.p,a∈ρ.p∨s.heap.objs.size≤a
 pold: ∀a∈ρ.p,a∈J3.p
 sto:aO c J3 J1 s'.heap
 ext:d9 c (D++ρ.r) s.heap s'.heap
 rest:nW s s'
 gd:Gd c s'.heap
variable (c)in
noncomputable abbrev af(ρ:Pl)(s:Shared)(J3:Pl)(J1:Sg)(s':Shared):Prop:=ad c [] ρ s J3 J1 s'
theorem ad.refl{D:List Addr}(t:aO c ρ σ s.heap)(g:Gd c s.heap):ad c D ρ s ρ σ s:=⟨Gu _,fun u_ h=> .inl h,fun u_ h=> .inl h,fun u_ h=>h,t,.refl _ _,.refl _,g⟩
theorem af.refl(t:aO c ρ σ s.heap)(g:Gd c s.heap):af c ρ s ρ σ s:=ad.refl t g
theorem ad.le{D:List Addr}(x:ad c D ρ s J3 J1 s'):ρ.Le s.heap J3:=
 ⟨x.pre,fun a o f e=>⟨fun m=>(x.new a m).elim f.1 fun q=>absurd (JI e) (Hy.mpr q),fun m=>(x.pnew a m).elim f.2 fun q=>absurd (JI e) (Hy.mpr q)⟩⟩
theorem ad.trans'{D:List Addr}(x:ad c D ρ s J3 J1 s')(y:ad c D' J3 s' KD KJ s'')
 (k: ∀a∈D',a∈D∨s.heap.objs.size≤a):ad c D ρ s KD KJ s'':=by
 refine⟨x.pre.trans y.pre,fun a m=> ?_,fun a m=> ?_,fun a m=>y.pold a (x.pold a m),y.sto,x.ext.trans' y.ext fun a m=> ?_,x.rest.trans y.rest,y.gd⟩
 ·exact(y.new a m).elim (x.new a) fun q=> .inr (Hu x.rest.hsize q)
 ·exact(y.pnew a m).elim (x.pnew a) fun q=> .inr (Hu x.rest.hsize q)
 ·rcases Gl.mp m with q|q
  ·exact(k a q).imp (fun z=>Gl.mpr (.inl z)) pZ
  ·exact(x.new a q).imp (fun z=>Gl.mpr (.inr z)) pZ
theorem af.trans(x:af c ρ s J3 J1 s')(y:af c J3 s' KD KJ s''):af c ρ s KD KJ s'':=
 ad.trans' x y (fun u_ m=>by simp at m)
theorem ad.trans{D:List Addr}(x:ad c D ρ s J3 J1 s')(y:ad c D J3 s' KD KJ s''):ad c D ρ s KD KJ s'':=
 ad.trans' x y (fun u_ m=> .inl m)
theorem af.D{D:List Addr}(x:af c ρ s J3 J1 s'):ad c D ρ s J3 J1 s':={x with ext:=x.ext.mono fun a m=>Gl.mpr (.inr m)}
theorem ad.off{D:List Addr}(d: ∀a∈D,a∈ρ.p):ρ.Off (D++ρ.r):=(Pl.Off.p d).append (Pl.Off.r ρ)
theorem ad.R{D:List Addr}(d: ∀a∈D,a∈ρ.p)(x:ad c D ρ s J3 J1 s')(r:R s.heap ρ y v):Internal.R s'.heap J3 y v:=r.mono (ad.off d) x.ext x.le
theorem ad.Rs{D:List Addr}(d: ∀a∈D,a∈ρ.p)(x:ad c D ρ s J3 J1 s'){y:List V}{v:List Value}(r:Rs s.heap ρ y v):Internal.Rs s'.heap J3 y v:=r.mono (ad.off d) x.ext x.le
theorem af.R(x:af c ρ s J3 J1 s')(r:R s.heap ρ y v):Internal.R s'.heap J3 y v:=ad.R (by exact GH _) x r
theorem af.Rs(x:af c ρ s J3 J1 s'){y:List V}{v:List Value}(r:Rs s.heap ρ y v):Internal.Rs s'.heap J3 y v:=ad.Rs (by exact GH _) x r
set_option genInjectivity false in
structure En where
 names:List (Str×NameKind)
 own:List (Str×V)
 fre:List (Str×V)
 code:Option Addr
inductive jV(h:Heap)(ρ:Pl):Option V→Option Value→Prop
 |no {w:Option Value}:jV h ρ none w
 |so {x:V} {v:Value}:R h ρ x v→jV h ρ (some x) (some v)
theorem jV.mono(nl:ρ.Off S)(x:d9 c S h h')(p:ρ.Le h J3){a:Option V}{b:Option Value}(o:jV h ρ a b):jV h' J3 a b:=by
 cases o with
 |no=>exact .no
 |so r=>exact .so (r.mono nl x p)
structure a_(h:Heap)(ρ:Pl)(env:Env)(en:En):Prop where
 kind:env.scope.kind= .function
 names:env.scope.names=en.names
 gl:env.globals=mainGlobals
 bi:env.builtins=builtinsNs
 lo: ∃m,h.Ns env.locals m∧ ∀x,en.names.lookup x=some .local→jV h ρ (en.own.lookup x) (m x)
 ce: ∀x,en.names.lookup x=some .cell→ ∃a w,env.cells.lookup x=some a∧h.IsCell a w∧a∈ρ.p∧jV h ρ (en.own.lookup x) w
 fr: ∀x,en.names.lookup x=some .free→ ∃a w,env.cells.lookup x=some a∧h.IsCell a w∧jV h ρ (en.fre.lookup x) w
 out:env.locals∈ρ.p
 ap: ∀y z a,env.cells.lookup y=some a→env.cells.lookup z=some a→y=z
 cd: ∀cc,en.code=some cc→env.code= .ref cc
theorem a_.monoX{D:List Addr}{env:Env}{en:En}(t:aO c ρ σ s.heap)(d: ∀a∈D,a∈ρ.p)(x:ad c D ρ s J3 J1 s')(e:a_ s.heap ρ env en)
 (dl:env.locals∉D) (dc: ∀y a w,env.cells.lookup y=some a→s.heap.IsCell a w→a∉D):a_ s'.heap J3 env en where
 kind:=e.kind
 names:=e.names
 gl:=e.gl
 bi:=e.bi
 lo:=aK e.lo fun m n k=>⟨m,x.ext.ns (fun z=>(Gl.mp z).elim dl (t.disj _ e.out)) n,fun y hy=>(k y hy).mono (ad.off d) x.ext x.le⟩
 ce:=fun y hy=>bS (e.ce y hy) fun a w h1 h2 h4 h3=>⟨a,w,h1,x.ext.cell (fun z=>(Gl.mp z).elim (dc _ _ _ h1 h2) (t.cell h2)) h2,x.pold _ h4,h3.mono (ad.off d) x.ext x.le⟩
 fr:=fun y hy=>dy (e.fr y hy) fun a w h1 h2 h3=>⟨a,w,h1,x.ext.cell (fun z=>(Gl.mp z).elim (dc _ _ _ h1 h2) (t.cell h2)) h2,h3.mono (ad.off d) x.ext x.le⟩
 out:=x.pold _ e.out
 ap:=e.ap
 cd:=e.cd
theorem a_.monoD{D:List Addr}{env:Env}{en:En}(t:aO c ρ σ s.heap)(d: ∀a∈D,a∈ρ.p)(x:ad c D ρ s J3 J1 s')(e:a_ s.heap ρ env en)
 (dl:env.locals∉D) (dc: ∀y a,env.cells.lookup y=some a→a∉D):a_ s'.heap J3 env en:=a_.monoX t d x e dl fun y a u_ h u_=>dc y a h
theorem af.env{env:Env}{en:En}(t:aO c ρ σ s.heap)(x:af c ρ s J3 J1 s')(e:a_ s.heap ρ env en):a_ s'.heap J3 env en:=
 a_.monoD t (by exact GH _) x e (by exact GD) (fun u_ u_ u_=>by exact GD)
variable (c)in
noncomputable def FF(ρ:Pl)(h:Heap)(l:List Env):Prop:= ∀env∈l,env.scope.kind≠ .module∧ ∃L o,env.frame=some L∧L∈ρ.p∧c.n₀≤L∧h.get? L=some o∧ ∃es ep,o.data= .dict es ep
theorem FF.fun_(ok:c.Ok){l:List Env}:FF c ρ h l→h.FunFrames c.base l:=by
 induction l with
 |nil=>exact fun u_=>trivial
 |cons env r ih=>
  intro f;obtain⟨hk,L,o,hf,_,hn,ho,es,ep,hd⟩:=f env (.head _)
  refine⟨hk,⟨L,o,hf,?_,ho,fun vs q=>by rw[hd]at q;cases q⟩,ih fun e m=>f e (.tail _ m)⟩
  cases q:c.base.get? L with
  |none=>rfl
  |some o'=>exact absurd (ok.bold _ _ q).1 (Hy.mpr hn)
noncomputable def ck(D:List Addr)(h h':Heap):Prop:= ∀a∈D,∀o,h.get? a=some o→(∃es ep,o.data= .dict es ep)→ ∃o',h'.get? a=some o'∧ ∃es ep,o'.data= .dict es ep
theorem FF.mono{D:List Addr}{l:List Env}(t:aO c ρ σ s.heap)(x:ad c D ρ s J3 J1 s')(fo:ck D s.heap s'.heap)(f:FF c ρ s.heap l):FF c J3 s'.heap l:=fun env m=>by
 refine lK (f env m) fun hk L o hf hp hn ho hd=> ?_
 by_cases hL:L∈D
 ·refine aK (fo L hL o ho hd) fun o' h1 h2=> ?_;exact⟨hk,L,o',hf,x.pold _ hp,hn,h1,h2⟩
 refine aK (x.ext L o (fun z=>(Gl.mp z).elim hL (t.disj _ hp)) ho) fun o' ho' q=> ?_;refine⟨hk,L,o',hf,x.pold _ hp,hn,ho',?_⟩;refine rq hd fun es ep hd=> ?_;exact⟨es,ep,q.dict hd⟩
variable (c)in
structure d_(ρ:Pl)(A:Around)(d:Nat)(h:Heap):Prop where
 hand:A.handled=none
 depth:A.depth+d<recursionLimit
 units:A.units+8*d+220<cLine
 frames: ∃l,A.frames=some l∧FF c ρ h l
theorem d_.monoD{d:Nat}{D:List Addr}(t:aO c ρ σ s.heap)(x:ad c D ρ s J3 J1 s')(fo:ck D s.heap s'.heap)(r:d_ c ρ A d s.heap):d_ c J3 A d s'.heap where
 hand:=r.hand
 depth:=r.depth
 units:=r.units
 frames:=let⟨l,e,f⟩:=r.frames;⟨l,e,f.mono t x fo⟩
theorem af.room{d:Nat}(t:aO c ρ σ s.heap)(x:af c ρ s J3 J1 s')(r:d_ c ρ A d s.heap):d_ c J3 A d s'.heap:=r.monoD t x (fun u_ m=>by simp at m)
end
variable {en en' Kf:En}
section
inductive aD(α:Type) where
 |ok (a:α) (σ:Sg)
 |exc (cls:String) (σ:Sg)
theorem iO{a:α}{s t:Sg}{x:String}(e:aD.ok a s=aD.exc x t):P:=nomatch e
theorem Em{a:α}{s t:Sg}{x:String}(e:aD.exc x t=aD.ok a s):P:=nomatch e
theorem jD{a b:α}{s t:Sg}(e:aD.ok a s=aD.ok b t)(k:a=b→s=t→P):P:=by cases e;exact k rfl rfl
theorem B5{x y:String}{s t:Sg}(e:(aD.exc x s:aD α)=aD.exc y t)(k:x=y→s=t→P):P:=by cases e;exact k rfl rfl
noncomputable def ut(o:aD α):Option (α×Sg):=match o with
 | .ok x σ=>some (x,σ)
 | .exc _ _=>none
theorem qu{o:aD α}{p:α×Sg}(h:ut o=some p):o= .ok p.1 p.2:=by
 cases o with
 |ok=>obtain rfl:=H8 h;rfl
 |exc=>exact no h
noncomputable def fZ(h:Heap)(ρ:Pl)(n:Nat)(cls:String)(e:Value):Prop:=
 ∃a oe vs,e= .ref a∧h.get? a=some oe∧oe.cls= .type cls∧oe.data= .fields vs∧n≤a∧a∈ρ.p∧
  (vs[1]? =some .none∨ ∃T oT ts,vs[1]? =some (.ref T)∧n≤T∧T∈ρ.p∧T≠a∧h.get? T=some oT∧oT.data= .fields ts∧ts[3]? =some .none)
theorem fZ.mono{n':Nat}{cls:String}{e:Value}(f:fZ h ρ n cls e)(k:n'≤n):fZ h ρ n' cls e:=by
 refine f_ f fun a oe vs h1 h2 h3 h4 h5 h6 h7=> ?_;refine⟨a,oe,vs,h1,h2,h3,h4,Hu k h5,h6,?_⟩
 rcases h7 with q|⟨T,oT,ts,q1,q2,q3⟩
 ·exact .inl q
 ·exact .inr ⟨T,oT,ts,q1,Hu k q2,q3⟩
variable (c)in
noncomputable def cC(ρ:Pl)(s:Shared)(o:aD α):Value→Shared→Prop:=fun e s'=>match o with
 | .exc cls J1=> ∃J3,af c ρ s J3 J1 s'∧fZ s'.heap J3 s.heap.objs.size cls e
 | .ok .. =>False
variable (c)in
noncomputable def bW(rel:Heap→Pl→α→β→Prop)(ρ:Pl)(s:Shared)(o:aD α):β→Shared→Prop:=fun v s'=>match o with
 | .ok x J1=> ∃J3,af c ρ s J3 J1 s'∧rel s'.heap J3 x v
 | .exc .. =>False
variable (c)in
noncomputable def aq(rel:Heap→Pl→α→β→Prop)(A:Around)(t:Sem β)(ρ:Pl)(s:Shared)(o:aD α):Prop:=
 H9 (model c.prog c.w) A t (bW c rel ρ s o) (cC c ρ s o) s
noncomputable abbrev RB(_:Heap)(_:Pl)(x:Bool)(v:Bool):Prop:=v=x
variable (c)in
noncomputable abbrev bk(A:Around)(t:Sem Value)(ρ:Pl)(s:Shared)(o:aD V):Prop:=aq c R A t ρ s o
variable (c)in
noncomputable abbrev Cc(A:Around)(t:Sem (List Value))(ρ:Pl)(s:Shared)(o:aD (List V)):Prop:=aq c Rs A t ρ s o
variable (c)in
noncomputable abbrev pq(A:Around)(t:Sem Bool)(ρ:Pl)(s:Shared)(o:aD Bool):Prop:=aq c RB A t ρ s o
theorem cC.trans{cls:String}{e:Value}(x:af c ρ s J3 J1 s')
 (f:cC c J3 s' (.exc cls KJ:aD α) e s''):cC c ρ s (.exc cls KJ:aD β) e s'':=by
 refine aK f fun KD y fl=> ?_;exact⟨KD,x.trans y,fl.mono x.rest.hsize⟩
theorem bW.trans{rel:Heap→Pl→α→β→Prop}{o:aD α}{v:β}(x:af c ρ s J3 J1 s')(f:bW c rel J3 s' o v s''):bW c rel ρ s o v s'':=by
 cases o with
 |ok a σ=>refine aK f fun KD y r=> ?_;exact⟨KD,x.trans y,r⟩
 |exc=>exact f
theorem cC.trans'{o:aD α}{e:Value}(x:af c ρ s J3 J1 s')(f:cC c J3 s' o e s''):cC c ρ s o e s'':=by
 cases o with
 |ok=>exact f.elim
 |exc=>exact f.trans x
theorem aq.trans{rel:Heap→Pl→α→β→Prop}{t:Sem β}{o:aD α}(x:af c ρ s J3 J1 s')(f:aq c rel A t J3 s' o):
 H9 (model c.prog c.w) A t (bW c rel ρ s o) (cC c ρ s o) s':=Ia f (fun u_ u_ q=>q.trans x) fun u_ u_ q=>q.trans' x
theorem aq.go{rel:Heap→Pl→α→β→Prop}{t:Sem β}{o:aD α}{Q:β→Shared→Prop}(h:aq c rel A t ρ s o)
 (hok: ∀x J1,o= .ok x J1→ ∀v s' J3,af c ρ s J3 J1 s'→rel s'.heap J3 x v→Q v s') (hex: ∀cls J1,o= .exc cls J1→ ∀e s',cC c ρ s (.exc cls J1:aD α) e s'→E e s'):
 H9 (model c.prog c.w) A t Q E s:=by
 refine Ia h (fun v s' hq=> ?_) (fun e s' hf=> ?_)
 ·cases o with
  |ok x J1=>refine aK hq fun J3 st r=> ?_;exact hok x J1 rfl v s' J3 st r
  |exc=>exact hq.elim
 ·cases o with
  |ok=>exact hf.elim
  |exc cls J1=>exact hex cls J1 rfl e s' hf
theorem cC.as{cls:String}{e:Value}(f:cC c ρ s (.exc cls J1:aD α) e s'):cC c ρ s (.exc cls J1:aD β) e s':=f
noncomputable def au(o:Option (aD α))(k:α→Sg→Option (aD β)):Option (aD β):=match o with
 |some (.ok a σ)=>k a σ
 |some (.exc cls σ)=>some (.exc cls σ)
 |none=>none
theorem af.toks{D:List Addr}{t:Nat}(st:aO c ρ σ s.heap)(g:Gd c s.heap):ad c D ρ s ρ σ {s with toks:=t}:=
 ⟨Gu _,fun u_ h=> .inl h,fun u_ h=> .inl h,fun u_ h=>h,st,.refl _ _,⟨rfl,rfl,Hv _,fun u_ u_=>rfl,id,Hv _⟩,g⟩
theorem ad.write{D P:List Addr}{t:Nat}(ok:c.Ok)(st:aO c ρ σ s.heap)(g:Gd c s.heap)(d: ∀a∈D,a∈ρ.p)
 (k: ∀b o,b∉D→s.heap.get? b=some o→h'.get? b=some o) (hz:s.heap.objs.size≤h'.objs.size) (hP: ∀a∈P,a∈ρ.p∨(s.heap.objs.size≤a∧a<h'.objs.size)) (hP': ∀a∈ρ.p,a∈P):
 ad c D ρ s ⟨ρ.r,P⟩ σ {s with heap:=h',toks:=t}:=by
 have x:d9 c D s.heap h':= .of_keeps fun b o n e=>k b o n e;have lo: ∀a∈D,c.n₀≤a:=fun a m=>(st.plow a (d a m)).1;refine⟨Gu _,fun u_ h=> .inl h,fun a m=>(hP a m).imp id FN,hP',st.mono (Pl.Off.p d) x (fun a m n=>st.disj a (d a n) m) hz hP g.size,x.mono fun a m=>Gl.mpr (.inl m),.heap hz,g.step ok lo x (fun p hp=> ?_) hz⟩;exact(g.codes p hp).keep (fun o q=>k _ _ (fun m=>absurd (ok.cold p hp).1 (Hy.mpr (lo _ m))) q) fun o q=>k _ _ (fun m=>absurd (ok.told _ (ok.tcs p hp)) (Hy.mpr (lo _ m))) q
theorem ad.write'{D:List Addr}{t:Nat}(ok:c.Ok)(st:aO c ρ σ s.heap)(g:Gd c s.heap)(d: ∀a∈D,a∈ρ.p)
 (k: ∀b o,b∉D→s.heap.get? b=some o→h'.get? b=some o) (hz:s.heap.objs.size≤h'.objs.size):ad c D ρ s ρ σ {s with heap:=h',toks:=t}:=
 ad.write (P:=ρ.p) ok st g d k hz (fun u_ m=> .inl m) (fun u_ m=>m)
theorem af.keeps{t:Nat}(ok:c.Ok)(st:aO c ρ σ s.heap)(g:Gd c s.heap)(k: ∀b o,s.heap.get? b=some o→h'.get? b=some o)(hz:s.heap.objs.size≤h'.objs.size):
 af c ρ s ρ σ {s with heap:=h',toks:=t}:=ad.write' ok st g (by exact GH _) (fun b o u_ e=>k b o e) hz
theorem af.push{o:Obj}{t:Nat}(ok:c.Ok)(st:aO c ρ σ s.heap)(g:Gd c s.heap):af c ρ s ρ σ {s with heap:=s.heap.push o,toks:=t}:=
 af.keeps ok st g (fun b u_ e=>JG _ e) (by rw[JH];exact Hz _)
theorem af.priv{o:Obj}{t:Nat}(ok:c.Ok)(st:aO c ρ σ s.heap)(g:Gd c s.heap):af c ρ s ⟨ρ.r,s.heap.objs.size::ρ.p⟩ σ {s with heap:=s.heap.push o,toks:=t}:=
 ad.write ok st g (by exact GH _) (fun b u_ u_ e=>JG _ e) (by rw[JH];exact Hz _)
  (fun a m=>by rw[JH];rcases Gp.mp m with rfl|q;exact .inr ⟨Hv _,Hx _⟩;exact .inl q) (fun a m=> .tail _ m)
end
variable {o:aD V}
section
theorem uA{a b:Int}(h:b.natAbs<2^62):Builtin.divisionGoesByPylong a b=false:=by
 unfold Builtin.divisionGoesByPylong;rw[Bool.and_eq_false_iff];left;dsimp only;rw[decide_eq_false_iff_not]
 by_cases hb:b==0
 ·simp[hb]
 ·rw[if_neg hb]
  have h0:b.natAbs≠0:=by simpa using hb
  have:b.natAbs.log2<62:=(Nat.log2_lt h0).mpr h;exact Hy.mpr (Hu (Nat.succ_le_succ (Nat.div_le_self ..)) (Hu this (HE rfl)))
theorem lI{a:Int}(h:a.natAbs<2^62):Builtin.Int.intBits a≤64:=by
 refine intBits_le_64 ?_ ?_<;>first|exact btn ‹_› (by exact ac)|exact bts ‹_› (by exact ac)
noncomputable def bG(a:Int):Bool:=decide (a.natAbs<2^62)
noncomputable def binI(op:Operator)(a b:Int):Option Int:=match op with
 | .Add=>some (a+b)
 | .Sub=>some (a-b)
 | .Mult=>if bG a&&bG b then some (a*b)else none
 | .FloorDiv=>if b≠0∧bG b then some (a.fdiv b)else none
 | .Mod=>if b≠0∧bG b then some (a.fmod b)else none
 |_=>none
set_option tactic.hygienic true in
theorem ti{op:Operator}{a b i:Int}{t u:Tok}(st:aO c ρ σ s.heap)(g:Gd c s.heap)(e:Internal.binI op a b=some i):
 bk c A (binaryOp op (.int a t) (.int b u)) ρ s (.ok (.int i) σ):=by
 have fin: ∀i',i'=i→ ∃J3,af c ρ s J3 σ {s with toks:=s.toks+1}∧R s.heap J3 (.int i) (.int i' s.toks):=fun i' q=>⟨ρ,.toks st g,q▸ .int⟩
 unfold Internal.binI at e
 cases op with
 |Add=>obtain rfl:=H8 e;exact add_int (fin _ rfl)
 |Sub=>obtain rfl:=H8 e;exact sub_int (fin _ rfl)
 |Mult=>
  dsimp only at e
  split at e
  ·rename_i h;obtain rfl:=H8 e;simp only[bG,FS,decide_eq_true_eq]at h;refine mul_int (fin _ rfl) ?_;unfold IntMulOk;have:=lI h.1;simp[shortFactorBits];omega
  ·exact no e
 |FloorDiv=>
  dsimp only at e
  split at e
  ·rename_i h;obtain rfl:=H8 e;simp only[bG,decide_eq_true_eq]at h;exact floordiv_int h.1 (fin _ rfl) (.inl (uA h.2))
  ·exact no e
 |Mod=>
  dsimp only at e
  split at e
  ·rename_i h;obtain rfl:=H8 e;exact mod_int h.1 (fin _ rfl)
  ·exact no e
 |_=>exact no e
noncomputable abbrev Pl.add(ρ:Pl)(a:Addr):Pl:=⟨ρ.r++[a],ρ.p⟩
theorem af.pushCell{l:aa}{o:Obj}{t:Nat}(ok:c.Ok)(st:aO c ρ σ s.heap)(g:Gd c s.heap)(r: ∀h' J3,h'.get? s.heap.objs.size=some o→(∀{y:V} {v:Value},Internal.R s.heap ρ y v→Internal.R h' J3 y v)→(∀{y:List V} {v:List Value},Internal.Rs s.heap ρ y v→Internal.Rs h' J3 y v)→eY h' J3 l s.heap.objs.size)(hf:o.isFreed=false:=by rfl):
 af c ρ s (ρ.add s.heap.objs.size) (σ++[l]) {s with heap:=s.heap.push o,toks:=t}:=by
 have k: ∀b o',s.heap.get? b=some o'→(s.heap.push o).get? b=some o':=fun b o' e=>JG _ e
 have p:af c ρ s ρ σ {s with heap:=s.heap.push o,toks:=t}:=af.keeps ok st g k (by rw[JH];exact Hz _)
 have fr:ρ.free s.heap.objs.size:=st.new (Hv _)
 have le:ρ.Le s.heap (ρ.add s.heap.objs.size):=⟨Gm _ _,fun a o f e=>⟨fun m=>(Gl.mp m).elim f.1 fun q=>absurd (JI e) (by rw[Gn.mp q];exact HI _),f.2⟩⟩
 refine⟨le.pre,fun a m=> ?_,fun a m=> .inl m,fun a m=>m,⟨?_,?_,fun j a l' h1 h2=> ?_,fun a m=> ?_,fun a m=> ?_,fun a m n=> ?_⟩,p.ext,p.rest,p.gd⟩
 ·rcases Gl.mp m with q|q
  ·exact .inl q
  ·rw[Gn.mp q];exact .inr (Hv _)
 ·exact List.nodup_append.mpr ⟨st.nodup,by simp,fun a ha b hb q=>fr.1 (by rw[Gn.mp hb]at q;exact q▸ha)⟩
 ·rw[GE,GE,st.len];rfl
 ·by_cases hj:j<ρ.r.length
  ·rw[GO hj]at h1;rw[GO (st.len▸hj)]at h2
   exact(st.at_ j a l' h1 h2).mono (Pl.Off.nil _) (.of_keeps (c:=c) fun b o u_ e=>k b o e) le (by exact GD)
  ·have hl:=(Gy.mp h1).1;rw[GE,G']at hl
   have ej:j=ρ.r.length:=by exact jE ‹_› ‹_›
   subst ej;rw[GZ (Hv _),HS]at h1;rw[st.len,GZ (Hv _),HS]at h2;obtain rfl:=H8 h1;obtain rfl:=H8 h2;exact r _ _ (JF _ hf) (fun q=>q.mono (Pl.Off.nil _) (.of_keeps (c:=c) fun b o u_ e=>k b o e) le) (fun q=>q.mono (Pl.Off.nil _) (.of_keeps (c:=c) fun b o u_ e=>k b o e) le)
 ·rcases Gl.mp m with q|q
  ·exact st.low a q
  ·rw[Gn.mp q];exact g.size
 ·exact⟨(st.plow a m).1,by have:=(st.plow a m).2;show a<(s.heap.push o).objs.size;rw[JH];exact HP this⟩
 ·rcases Gl.mp n with q|q
  ·exact st.disj a m q
  ·rw[Gn.mp q]at m;exact absurd (st.plow _ m).2 (HI _)
theorem aO.last(st:aO c ρ σ h)(a:Addr):(ρ.add a).r[σ.length]? =some a:=by
 show(ρ.r++[a])[σ.length]? =_;rw[←st.len,GZ (Hv _),HS];rfl
theorem af.pushList{t:Nat}(ok:c.Ok)(st:aO c ρ σ s.heap)(g:Gd c s.heap)(r:Internal.Rs s.heap ρ l vs):
 af c ρ s (ρ.add s.heap.objs.size) (σ++[.lst l]) {s with heap:=s.heap.push (az vs n),toks:=t}:=
 af.pushCell (o:=az vs n) ok st g fun h' J3 e u_ k=>⟨vs,n,e,k r⟩
theorem cJ(e:s.heap.get? a=some (am vs n)):IsTup s.heap a vs.toArray:=⟨_,e,rfl,n,rfl⟩
theorem bT(e:s.heap.get? a=some (az vs n)):s.heap.IsList a vs.toArray:=⟨_,e,rfl,n,rfl⟩
set_option tactic.hygienic true in
theorem oJ{l l':List V}{v v':Value}(ok:c.Ok)(st:aO c ρ σ s.heap)(g:Gd c s.heap)(r:R s.heap ρ (.tup l) v)(r':R s.heap ρ (.tup l') v')(hz:l.length+l'.length≤2^20):
 bk c A (binaryOp .Add v v') ρ s (.ok (.tup (l++l')) σ):=by
 cases r with
 |tup e ef rs=>
  rename_i a vs n
  cases r' with
  |tup e' ef' rs'=>
   rename_i b ws n';have le:=rs.length;have le':=rs'.length
   by_cases hv:vs=[]
   ·subst hv;have hl:l=[]:=GW.mp le;subst hl;refine concat_meets (s:=s) ⟨_,e,rfl⟩ ⟨_,e',rfl⟩ noFill_tuple_add seq_tuple_add Ju Jv (Jw _ _)
     (tuple_addW0 a b _ ws.toArray n n' none none #[] #[] (by exact ac)) ⟨e,e',ρ,.refl st g,.tup e' ef' rs'⟩
   ·by_cases hw:ws=[]
    ·subst hw;have hl:l'=[]:=GW.mp le';subst hl;rw[Gz];refine concat_meets (s:=s) ⟨_,e,rfl⟩ ⟨_,e',rfl⟩ noFill_tuple_add seq_tuple_add Ju Jv (Jw _ _)
      (tuple_addW1 a b vs.toArray _ n n' none none #[] #[] (by simpa using hv) (by exact ac)) ⟨e,e',ρ,.refl st g,.tup e ef rs⟩
    ·refine concat_meets (s:=s) ⟨_,e,rfl⟩ ⟨_,e',rfl⟩ noFill_tuple_add seq_tuple_add Ju Jv (Jw _ _)
      (tuple_addW2 a b vs.toArray ws.toArray n n' none none #[] #[] (by simpa using hv) (by simpa using hw) (by rw[GR,GR,←le,←le'];exact Hu hz (by decide))) ⟨e,e',?_⟩
     have p:af c ρ s ρ σ {s with heap:=s.heap.push (am (vs++ws) 0),toks:=s.toks}:=af.push ok st g
     have ee:vs.toArray++ws.toArray=(vs++ws).toArray:=by exact List.append_toArray vs ws
     rw[ee];exact⟨ρ,p,.tup (JF _ rfl) (st.new (Hv _)) (p.Rs (rs.append rs'))⟩
end
section
noncomputable def vq(u:Value)(y:V):Option Bool:=if lE u=true then(if i6 y=true then some true else(eG y).map fun u_=>false)else(m_ u).bind fun a=>((kr y).bind m_).map fun b=>a==b
mutual
/-- ==,where it is told of these kinds-/
noncomputable def mj(σ:Sg):Nat→V→V→Option Bool
 |0,_,_=>none
 |n+1,x,y=>match x with
  | .val u=>vq u y
  | .int a=>(cR y).map fun b=>a==b
  | .str a=>(A8 y).map fun b=>a==b
  | .tup a=>if i6 y=true then some false else(eG y).bind fun b=>dK σ n a b
  | .lst j=>(gv y).bind fun k=>(aG σ j).bind fun a=>(aG σ k).bind fun b=>if a.length=b.length then dK σ n a b else some false
  | .inst _ _=>none
  | .rng _ _ _=>none
/--item by item;false where one is longer-/
noncomputable def dK(σ:Sg):Nat→List V→List V→Option Bool
 |0,_,_=>none
 |n+1,l,m=>match l with
  |[]=>match m with
   |[]=>some true
   |_::_=>some false
  |x::l=>match m with
   |[]=>some false
   |y::m=>(mj σ n x y).bind fun a=>(dK σ n l m).map fun b=>a&&b
end
theorem oQ(e:dK σ n l m=some b):
 ∃f:Nat→Bool,(∀j x y,l[j]? =some x→m[j]? =some y→ ∃k,k<n∧mj σ k x y=some (f j))∧b=((Gs (min l.length m.length)).all f&&l.length==m.length):=by
 induction n generalizing l m b with
 |zero=>exact no e
 |succ n ih=>
  cases l with
  |nil=>cases m with
   |nil=>exact⟨fun u_=>true,fun u_ u_ u_ h=>no h,(H8 e).symm⟩
   |cons=>exact⟨fun u_=>true,fun u_ u_ u_ h=>no h,(H8 e).symm⟩
  |cons x l=>cases m with
   |nil=>exact⟨fun u_=>true,fun u_ u_ u_ u_ h=>no h,(H8 e).symm⟩
   |cons y m=>
    exact ae e fun p hp w=>aM w fun q hq w=>by
     refine aK (ih hq) fun f h1 h2=> ?_
     refine⟨fun j=>match j with|0=>p|j+1=>f j,fun j x' y' hx hy=> ?_,?_⟩
     ·cases j with
      |zero=>exact⟨n,Hx _,H8 hx▸H8 hy▸hp⟩
      |succ j=>exact(h1 j x' y' hx hy).elim fun k z=>⟨k,HP z.1,z.2⟩
     ·rw[←w,h2,GI,GI,Nat.succ_min_succ,List.range_succ_eq_map,G0,List.all_map,Bool.and_assoc,show(l.length+1==m.length+1)=(l.length==m.length)from by simp]
      rfl
theorem se(st:aO c ρ σ h): ∀n:Nat,(∀{x y:V} {v:Value} {b:Bool},R h ρ x v→R h ρ y v→mj σ n x y=some b→b=true)∧(∀{l m:List V} {vs:List Value} {b:Bool},Rs h ρ l vs→Rs h ρ m vs→dK σ n l m=some b→b=true):=by
 intro n
 induction n with
 |zero=>exact⟨fun u_ u_ e=>no e,fun u_ u_ e=>no e⟩
 |succ n ih=>
  refine⟨fun {x y v b} r q e=> ?_,fun {l m vs b} r q e=> ?_⟩
  ·cases r with
   |val=>
    refine eV (show vq v y=some b from e) (fun hu e=> ?_) fun u_ e=>ae e fun a ha e=>aM e fun b' hb e=>ae hb fun w hw hb=> ?_
    ·obtain rfl:=iE hu;obtain rfl:=q.noneQ;exact(H8 e).symm
    ·obtain rfl:=nv ha;obtain rfl:=ik hw
     cases q
     obtain rfl:=H8 hb;rw[←e];exact beq_self_eq_true _
   |int=>exact aM e fun b' hb w=>by obtain rfl:=b9 hb;cases q;rw[←w];exact beq_self_eq_true _
   |str=>exact aM e fun b' hb w=>by obtain rfl:=zF hb;cases q;rw[←w];exact beq_self_eq_true _
   |tup h1 f1 rs=>
    refine eV (show(if i6 y=true then some false else(eG y).bind fun b=>dK σ n _ b)=some b from e) (fun hu e=> ?_) fun u_ e=>ae e fun m hm e=> ?_
    ·obtain rfl:=kT hu;cases q
    ·obtain rfl:=eo hm
     cases q with
     |tup h2 f2 qs=>
      rw[h1]at h2
      cases h2
      exact ih.2 rs qs e
   |lst h1=>
    refine ae (show((gv y).bind fun k=>(aG σ _).bind fun a=>(aG σ k).bind fun b=>if a.length=b.length then dK σ n a b else some false)=some b from e) fun k hk e=>ae e fun a' ha e=>ae e fun b' hb e=> ?_
    obtain rfl:=gj hk
    cases q with
    |lst h2=>
     obtain rfl:=(List.getElem_inj st.nodup).mp ((Gy.mp h1).2.trans (Gy.mp h2).2.symm);obtain rfl:=H8 (ha.symm.trans hb);rw[if_pos rfl]at e
     refine bc (st.at_ _ _ _ h1 (bD ha)) fun vs n' u_ rs=> ?_
     exact ih.2 rs rs e
   |inst=>exact no e
   |rng=>exact no e
  ·cases r with
   |nil=>obtain rfl:=q.nil2Q;exact(H8 e).symm
   |cons r rs=>cases q with
    |cons q qs=>exact ae e fun p hp e=>aM e fun p' hq e=>by rw[←e,ih.1 r q hp,ih.2 rs qs hq];rfl
theorem oW(rs:Rs h ρ l vs)(hj:j<vs.toArray.size): ∃x,l[j]? =some x∧R h ρ x vs.toArray[j]:=by
 have hj':j<l.length:=by rw[rs.length];trivial
 refine aK (rs.get (GB hj')) fun v e r=> ?_;refine⟨l[j],GB hj',?_⟩
 have:vs.toArray[j]=v:=by
  have:=Gy.mp e;simpa using this.2
 rw[this];exact r
theorem cq(e:s.heap.get? a=some (am vs n)):s.heap.IsTuple a vs.toArray:=⟨_,e,rfl,n,rfl⟩
theorem ln{f:Nat→Bool}(rs:Rs s.heap ρ l vs)(qs:Rs s.heap ρ m ws)
 (ih: ∀k,k<n→ ∀(B:Around) {x y:V} {v w:Value} {b:Bool},mj σ k x y=some b→R s.heap ρ x v→R s.heap ρ y w→B.units+k<cLine→EqAt B s v w b)
 (h1: ∀j x y,l[j]? =some x→m[j]? =some y→ ∃k,k<n∧mj σ k x y=some (f j)) (hu:A.units+n<cLine):
 ∀j (h1:j<vs.toArray.size) (h2:j<ws.toArray.size),EqAt A.in1 s vs.toArray[j] ws.toArray[j] (f j):=fun j hj hj'=>by
 refine aK (oW rs hj) fun x ex rx=> ?_;refine aK (oW qs hj') fun y ey ry=> ?_;refine aK (h1 j x y ex ey) fun k hk ek=> ?_
 exact ih k hk _ ek rx ry (by show A.units+1+k<cLine;exact cmx ‹_› ‹_›)
theorem qy(h:RcAt A s (.ref a) (.ref a') b)(k:a=a'→b=true):EqAt A s (.ref a) (.ref a') b:=by
 by_cases q:a=a'
 ·rw[k q,q];exact .same _
 ·exact .of_refs q h
noncomputable def Ev(A:Around)(s:Shared)(v w:Value)(b:Bool):Prop:=RcAt A s v w b∧EqAt A s v w b∧RcNeAt A s v w (!b)
theorem uN{u:Value}(hu:A.units<cLine)(e:vq u y=some b)(q:R s.heap ρ y w):Ev A s u w b:=by
 refine eV e (fun h e=>eV e (fun h' e=> ?_) fun u_ e=>aM e fun l hl e=> ?_) fun u_ e=>ae e fun a ha e=>aM e fun b' hb e=>ae hb fun w' hw hb=> ?_
 ·obtain rfl:=iE h;obtain rfl:=kT h';obtain rfl:=q.valQ;obtain rfl:=H8 e;exact⟨RcAt.none_none,EqAt.same _,RcNeAt.none_none⟩
 ·obtain rfl:=iE h;obtain rfl:=eo hl;obtain rfl:=H8 e
  cases q using R.tupE with
  |tup h2 f2 rs2=>
  exact⟨RcAt.none_tuple (cq h2) hu,EqAt.none_tuple (cq h2) hu,RcNeAt.none_tuple (cq h2) hu⟩
 ·obtain rfl:=nv ha;obtain rfl:=ik hw;obtain rfl:=q.valQ;obtain rfl:=nv hb;obtain rfl:=H8 e;exact⟨RcAt.bool_bool _ _,EqAt.bool_bool _ _,RcNeAt.bool_bool _ _⟩
theorem vB{k':Nat}(st:aO c ρ σ s.heap)(hu:A.units+(n+1)<cLine)(h1:s.heap.get? a=some (am vs k))(h2:s.heap.get? a'=some (am ws k'))(rs:Rs s.heap ρ l vs)(qs:Rs s.heap ρ m ws)
 (ih: ∀k,k<n→ ∀(B:Around) {x y:V} {v w:Value} {b:Bool},mj σ k x y=some b→R s.heap ρ x v→R s.heap ρ y w→B.units+k<cLine→EqAt B s v w b) (e:dK σ n l m=some b):Ev A s (.ref a) (.ref a') b:=by
 have hu':A.units<cLine:=HC (HA _ _) hu;refine aK (oQ e) fun f g1 g2=> ?_;have pr:=ln (A:=A) rs qs ih g1 (HV hu);rw[rs.length,qs.length]at g2;have rc:RcAt A s (.ref a) (.ref a') b:=g2▸RcAt.tuples (cq h1) (cq h2) hu' pr
 exact⟨rc,qy rc fun q=>by subst q;rw[h1]at h2;cases h2;exact(se st n).2 rs qs e,g2▸RcNeAt.tuples (cq h1) (cq h2) hu' pr⟩
theorem wh{j':Nat}(st:aO c ρ σ s.heap)(hu:A.units+(n+1)<cLine)(h1:ρ.r[j]? =some a)(h2:ρ.r[j']? =some a')(hl:aG σ j=some l)(hm:aG σ j'=some m)
 (ih: ∀k,k<n→ ∀(B:Around) {x y:V} {v w:Value} {b:Bool},mj σ k x y=some b→R s.heap ρ x v→R s.heap ρ y w→B.units+k<cLine→EqAt B s v w b) (e:(if l.length=m.length then dK σ n l m else some false)=some b):Ev A s (.ref a) (.ref a') b:=by
 have hu':A.units<cLine:=HC (HA _ _) hu
 refine bc (st.at_ _ _ _ h1 (bD hl)) fun vs k o1 rs=> ?_
 refine bc (st.at_ _ _ _ h2 (bD hm)) fun ws k' o2 qs=> ?_
 have sm (q:a=a'):l=m∧j=j':=by
  subst q;obtain rfl:=(List.getElem_inj st.nodup).mp ((Gy.mp h1).2.trans (Gy.mp h2).2.symm);exact⟨H8 (hl.symm.trans hm),rfl⟩
 refine eV e (fun hlen e=> ?_) fun hlen e=> ?_
 ·refine aK (oQ e) fun f g1 g2=> ?_;have pr:=ln (A:=A) rs qs ih g1 (HV hu);have hsz:vs.toArray.size=ws.toArray.size:=rs.length.symm.trans (hlen.trans qs.length)
  have eb:b=(Gs vs.toArray.size).all f:=by
   rw[g2,hlen,HO,beq_self_eq_true,FY];exact congrArg (fun n=>(Gs n).all f) (qs.length.trans hsz.symm)
  have rc:RcAt A s (.ref a) (.ref a') b:=eb▸RcAt.lists (bT o1) (bT o2) hsz hu' pr
  exact⟨rc,qy rc fun q=>by obtain rfl:=(sm q).1;exact(se st n).2 rs rs e,eb▸RcNeAt.lists (bT o1) (bT o2) hsz hu' pr⟩
 ·obtain rfl:=H8 e;have hsz:(vs.toArray.size !=ws.toArray.size)=true:=bne_iff_ne.mpr fun q=>hlen (rs.length.trans (q.trans qs.length.symm));have rc:RcAt A s (.ref a) (.ref a') false:=RcAt.lists_lengths (bT o1) (bT o2) hsz hu';exact⟨rc,qy rc fun q=>absurd (congrArg List.length (sm q).1) hlen,RcNeAt.lists_lengths (bT o1) (bT o2) hsz hu'⟩
theorem wA(st:aO c ρ σ s.heap): ∀(n:Nat) (A:Around) {x y:V} {v w:Value} {b:Bool},mj σ n x y=some b→R s.heap ρ x v→R s.heap ρ y w→A.units+n<cLine→Ev A s v w b:=by
 intro n
 induction n using Nat.strongRecOn with
 |ind n ih=>
  intro A x y v w b e r q hu
  cases n with
  |zero=>exact no e
  |succ n=>
   have ih': ∀k,k<n→ ∀(B:Around) {x y:V} {v w:Value} {b:Bool},mj σ k x y=some b→R s.heap ρ x v→R s.heap ρ y w→B.units+k<cLine→EqAt B s v w b:=
    fun k hk B u_ u_ u_ u_ u_ e r q hu=>(ih k (HP hk) B e r q hu).2.1
   have hu':A.units<cLine:=HC (HA _ _) hu
   cases r with
   |val=>exact uN hu' e q
   |int=>exact aM e fun b' hb w=>by obtain rfl:=b9 hb;obtain⟨_,rfl⟩:=q.intQ;subst w;exact⟨RcAt.int_int _ _ _ _,EqAt.int_int _ _ _ _,RcNeAt.int_int _ _ _ _⟩
   |str=>exact aM e fun b' hb w=>by obtain rfl:=zF hb;obtain⟨_,rfl⟩:=q.strQ;subst w;exact⟨RcAt.str_str _ _ _ _,EqAt.str_str _ _ _ _,RcNeAt.str_str _ _ _ _⟩
   |tup h1 f1 rs=>
    refine eV (show(if i6 y=true then some false else(eG y).bind fun b=>dK σ n _ b)=some b from e) (fun h e=> ?_) fun u_ e=>ae e fun m hm e=> ?_
    ·obtain rfl:=kT h;obtain rfl:=q.valQ;obtain rfl:=H8 e;exact⟨RcAt.tuple_none (cq h1) hu',EqAt.tuple_none (cq h1) hu',RcNeAt.tuple_none (cq h1) hu'⟩
    ·obtain rfl:=eo hm
     cases q with
     |tup h2 f2 qs=>exact vB st hu h1 h2 rs qs ih' e
   |lst h1=>
    exact ae (show((gv y).bind fun k=>(aG σ _).bind fun a=>(aG σ k).bind fun b=>if a.length=b.length then dK σ n a b else some false)=some b from e) fun k hk e=>ae e fun a' ha e=>ae e fun b' hb w=>by
     obtain rfl:=gj hk
     cases q with
     |lst h2=>exact wh st hu h1 h2 ha hb ih' w
   |inst=>exact no e
   |rng=>exact no e
end
section
noncomputable abbrev V.none:V:= .val .none
noncomputable abbrev V.bool(b:Bool):V:= .val (.bool b)
noncomputable def aX(x:V):Bool:=i6 x
theorem hU(r:R h ρ x v):(v== .none)=aX x:=by
 cases r with
 |val=>cases v<;>rfl
 |int=>rfl
 |str=>rfl
 |tup=>rfl
 |lst=>rfl
 |inst=>rfl
 |rng=>rfl
noncomputable abbrev AX:Nat:=200
noncomputable def vC(x y:V)(f:Int→Int→Bool):Option Bool:=(cR x).bind fun a=>(cR y).map fun b=>f a b
noncomputable def FE(x:V):Bool:=(cR x).isSome
noncomputable def Fm(a:Int)(x:V):Bool:=(cR x).any (· ==a)
noncomputable def Ao(a:Int):Value→Bool
 | .int b _=>b==a
 |_=>false
noncomputable def ed(σ:Sg)(op:CmpOp)(x y:V):Option Bool:=match op with
 | .Lt=>vC x y fun a b=>decide (a<b)
 | .LtE=>vC x y fun a b=>decide (a≤b)
 | .Gt=>vC x y fun a b=>decide (b<a)
 | .GtE=>vC x y fun a b=>decide (b≤a)
 | .Eq=>mj σ AX x y
 | .NotEq=>(mj σ AX x y).map (!·)
 | .Is=>if i6 y=true then some (aX x)else none
 | .IsNot=>if i6 y=true then some (!aX x)else none
 | .In=>(cR x).bind fun a=>(eG y).bind fun l=>if l.all FE=true then some (l.any (Fm a))else none
 | .NotIn=>none
theorem y8{a:Int}(r:Rs h ρ l vs):l.all FE=true→(∀y∈vs,∃b u,y= .int b u)∧vs.any (Ao a)=l.any (Fm a):=
 Rs.ind (Q:=fun l vs=>l.all FE=true→(∀y∈vs,∃b u,y= .int b u)∧vs.any (Ao a)=l.any (Fm a)) (fun u_=>⟨fH,rfl⟩) (fun r u_ ih e=>by
  refine oA (FR.mp e) fun e1 e2=> ?_
  cases r with
  |int=>exact⟨aW ⟨_,_,rfl⟩ (ih e2).1,congrArg _ (ih e2).2⟩
  |_=>exact bI e1) r
theorem gK{op:CmpOp}(st:aO c ρ σ s.heap)(g:Gd c s.heap)(hu:A.units+AX<cLine)(e:ed σ op x y=some b)(r:R s.heap ρ x v)(q:R s.heap ρ y w):
 bk c A (compareOp op v w) ρ s (.ok (.bool b) σ):=by
 have fin: ∃J3,af c ρ s J3 σ s∧R s.heap J3 (.bool b) (.bool b):=⟨ρ,.refl st g,.val⟩;have i2 {f:Int→Int→Bool} (e:vC x y f=some b): ∃i t j u,v= .int i t∧w= .int j u∧b=f i j:=
  ae e fun a ha e=>aM e fun b' hb w'=>by obtain rfl:=b9 ha;obtain rfl:=b9 hb;obtain⟨_,rfl⟩:=r.intQ;obtain⟨_,rfl⟩:=q.intQ;exact⟨_,_,_,_,rfl,rfl,w'.symm⟩
 cases op with
 |Lt=>refine bO (i2 e) fun i t j u zz4 zz5 zz6=> ?_;subst zz4;subst zz5;subst zz6;exact PyProof.Rows.lt_int fin
 |LtE=>refine bO (i2 e) fun i t j u zz4 zz5 zz6=> ?_;subst zz4;subst zz5;subst zz6;exact PyProof.Rows.le_int fin
 |Gt=>refine bO (i2 e) fun i t j u zz4 zz5 zz6=> ?_;subst zz4;subst zz5;subst zz6;exact PyProof.Rows.gt_int fin
 |GtE=>refine bO (i2 e) fun i t j u zz4 zz5 zz6=> ?_;subst zz4;subst zz5;subst zz6;exact PyProof.Rows.ge_int fin
 |Eq=>exact(wA st _ A e r q hu).1 _ _ _ _ fin
 |NotEq=>exact aM e fun b' e' w'=>(wA st _ A e' r q hu).2.2 _ _ _ _ (w'▸fin)
 |Is=>
  exact bH e fun h w'=>by
   obtain rfl:=kT h;obtain rfl:=q.valQ;refine is_none ?_;rw[hU r,H8 w'];exact fin
 |IsNot=>
  exact bH e fun h w'=>by
   obtain rfl:=kT h;obtain rfl:=q.valQ;refine isNot_none ?_;rw[hU r,H8 w'];exact fin
 |In=>
  exact ae e fun a ha w'=>ae w' fun l hl w'=>bH w' fun hall u'=>by
   obtain rfl:=b9 ha;obtain rfl:=eo hl;obtain⟨_,rfl⟩:=r.intQ
   cases q with
   |tup h2 f2 qs=>
    obtain⟨k1,k2⟩:=y8 qs hall;refine in_tupleAt (Ao a) (cq h2) (fun y hy=> ?_) ?_
    ·refine rq (k1 y (Array.mem_toArray.mp hy)) fun b u zz2=> ?_;subst zz2;exact EqAt.int_int _ _ _ _
    ·rw[List.any_toArray,k2,H8 u'];exact fin
 |NotIn=>exact no e
noncomputable def bq(σ:Sg)(x:V):Option Bool:= @V.casesOn (fun u_=>Option Bool) x (fun u=>if lE u=true then some false else m_ u) (fun a=>some (a !=0)) (fun u_=>none) (fun l=>if l.length≤2^20 then some (!l.isEmpty)else none) (fun k=>(aG σ k).bind fun l=>if l.length≤2^20 then some (!l.isEmpty)else none) (fun u_ u_=>none) (fun u_ u_ u_=>none)
theorem bV{Q:Bool→Shared→Prop}(st:aO c ρ σ s.heap)(e:bq σ x=some b)(r:R s.heap ρ x v)(h: ∀t,Q b {s with toks:=t}):H9 (model c.prog c.w) A (truthy v) Q E s:=by
 have em: ∀{l:List V} {vs:List Value},Rs s.heap ρ l vs→(!vs.toArray.isEmpty)= !l.isEmpty:=fun rs=>by cases rs<;>rfl
 have sz: ∀{l:List V} {vs:List Value},Rs s.heap ρ l vs→l.length≤2^20→vs.toArray.size<2^62:=fun rs h=>HC (rs.length▸h) (by decide)
 cases r with
 |val=>exact eV (show(if lE v=true then some false else m_ v)=some b from e) (fun hu w=>by obtain rfl:=iE hu;obtain rfl:=H8 w;exact fun u_ u_ u_=>h s.toks) fun u_ w=>by obtain rfl:=nv w;exact IO (h s.toks)
 |int=>obtain rfl:=H8 e;exact PyProof.Rows.truthy_int (h s.toks)
 |tup h1 f1 rs=>exact bH (show(if _≤2^20 then _ else none)=some b from e) fun hz w=>by obtain rfl:=H8 w;exact truthy_tuple (cJ h1) (F9.mpr (Nat.lt_trans (sz rs hz) (by decide))) (em rs▸h _)
 |lst h1=>
  exact ae (show((aG σ _).bind fun l=>if l.length≤2^20 then some (!l.isEmpty)else none)=some b from e) fun l hl w=>bH w fun hz w=>by
   obtain rfl:=H8 w
   refine bc (st.at_ _ _ _ h1 (bD hl)) fun vs n o rs=> ?_
   exact wpAny_truthy_list (bT o) (F9.mpr (Nat.lt_trans (sz rs hz) (by decide))) (em rs▸h _)
 |_=>exact no e
noncomputable def gG(l:List V)(i:Int):Option V:=if-(2^62)≤i∧i<2^62 then(seqIndex? i l.length).bind (l[·]?)else none
noncomputable def gn(σ:Sg)(x:V)(i:Int):Option V:= @V.casesOn (fun u_=>Option V) x (fun u_=>none) (fun u_=>none) (fun u_=>none) (fun l=>gG l i) (fun k=>(aG σ k).bind fun l=>gG l i) (fun u_ u_=>none) (fun u_ u_ u_=>none)
theorem eS{o i:Value}{id:String}{ops:List Value}(hT:s.TypeIs o T)(hl:typeLookup (.type T) "__getitem__"=pure (some (.builtin id)))
 (h:H9 (model c.prog c.w) A (getItem o i) Q E s) (hs:subscripted slice false o i=operate ops (getItem o i)):H9 (model c.prog c.w) A (subscriptTail value slice o i) Q E s:=by
 unfold subscriptTail;refine H_ ?_;rw[getitemInPython_of_ne hT.not_modules];refine H_ (Ix hT hl ?_)
 have fin:H9 (model c.prog c.w) A (subscripted slice false o i) (fun r Kv=>H9 (model c.prog c.w) A (letTemporaryGo value o r>>=fun u_=>pure r) Q E Kv) E s:=by
  rw[hs];exact wpAny_operating (Ia h (fun r Kv K'=>H_ (wpAny_letTemporaryGo (H' K'))) fun u_ u_ x=>x)
 first
  |exact H' (H_ fin)
  |exact H_ (H' (H_ fin))
  |exact H_ fin
noncomputable def bz(e:Expr):Bool:= !e.ctorIdx.beq 26
theorem eP(h:bz slice=true)(o i:Value):subscripted slice false o i=operate [o,i] (getItem o i):=by
 cases slice<;>first|rfl|exact bI h
theorem ru{i:Int}{t:Tok}(st:aO c ρ σ s.heap)(g:Gd c s.heap)(hn:bz slice=true)(e:gn σ x i=some y)(r:R s.heap ρ x v):
 bk c A (subscriptTail value slice v (.int i t)) ρ s (.ok y σ):=by
 cases r with
 |tup h1 f1 rs=>
  exact bH (show gG _ i=some y from e) fun hb w=>ae w fun j hj hx=>by
   refine aK (rs.get hx) fun w ew rw'=> ?_
   exact eS (T:="tuple") (cJ h1).typeIs Jo.lookup (getItem_tuple (cJ h1) (F6 (by decide) hb.1) (Int.lt_trans hb.2 (by decide)) (j:=j) (by rw[rs.length]at hj;exact hj) (by simpa using ew) ⟨ρ,.refl st g,rw'⟩) (eP hn _ _)
 |lst h1=>
  exact ae (show((aG σ _).bind fun l=>gG l i)=some y from e) fun l hl w=>bH w fun hb w=>ae w fun j hj hx=>by
   refine bc (st.at_ _ _ _ h1 (bD hl)) fun vs n o rs=> ?_
   refine aK (rs.get hx) fun w ew rw'=> ?_;have hlen:=rs.length;refine eS (T:="list") (bT o).typeIs PySem.F.slot_list_getitem.lookup ?_ (eP hn _ _);unfold seqIndex? at hj;dsimp only at hj
   by_cases h0:i<0
   ·rw[if_pos h0]at hj;refine bH hj fun hc hj=> ?_;obtain rfl:=H8 hj;simp only[FS,decide_eq_true_eq]at hc
    refine wpAny_getItem_list_neg (bT o) h0 (by simp[←hlen];exact lnz (FN ‹_›)) (F6 (by decide) hb.1) (x:=w) ?_ ⟨ρ,.refl st g,rw'⟩
    simpa [←hlen]using ew
   ·rw[if_neg h0]at hj;refine bH hj fun hc hj=> ?_;obtain rfl:=H8 hj
    exact wpAny_getItem_list (bT o) (F7.mp h0) (Int.lt_trans hb.2 (by decide)) (x:=w) (by simpa using ew) ⟨ρ,.refl st g,rw'⟩
 |_=>exact no e
end
section
theorem Rs.places(r:Rs h ρ l vs)(js:List Nat):Rs h ρ (js.filterMap (l[·]?)) (js.filterMap (vs[·]?)):=by
 induction js with
 |nil=>exact .nil
 |cons j js ih=>
  cases hn:l[j]? with
  |some n=>
   refine aK (r.get hn) fun v hv rv=> ?_;simp only[Ha,hn,hv];exact .cons rv ih
  |none=>
   have hv:vs[j]? =none:=by
    rw[Hh]at hn⊢;rw[←r.length];exact hn
   simp only[Ha,hn,hv];exact ih
noncomputable def gB(x:V):Option (Option Int):= @V.casesOn (fun u_=>Option (Option Int)) x (fun u=>if lE u=true then some none else none) (fun i=>some (some i)) (fun u_=>none) (fun u_=>none) (fun u_=>none) (fun u_ u_=>none) (fun u_ u_ u_=>none)
theorem mt{p:Option Int}(e:gB x=some p)(r:R h ρ x v):IsPart v p:=by
 cases x with
 |val u=>exact bH e fun hu w=>by obtain rfl:=iE hu;obtain rfl:=H8 w;obtain rfl:=r.valQ;exact .none
 |int i=>obtain rfl:=H8 e;obtain⟨_,rfl⟩:=r.intQ;exact .int _ _
 |_=>exact no e
theorem eZ{p:Option Int}{Q:Option Int→Shared→Prop}(h:IsPart v p)(q:Q p s):H9 (model c.prog c.w) A (Builtin.Slice.slicePartIndex v) Q E s:=by
 cases h with
 |none=>exact slicePart_none q
 |int=>exact slicePart_int q
noncomputable def bY(n:Nat)(lo hi st:Option Int):List Nat:=
 let p:=I6 lo hi (st.getD 1) n
 (Gs (I7 p.1 p.2 (st.getD 1))).map fun(k:Nat)=>(p.1+(k:Int)*st.getD 1).toNat
noncomputable def d5(n:Nat)(lo hi st:Option Int):Bool:=
 let p:=I6 lo hi (st.getD 1) n
 p.1==0&&st.getD 1==1&&I7 p.1 p.2 (st.getD 1)==n
noncomputable def iF(l:List V)(lo hi st:Option Int):List V:=if d5 l.length lo hi st then l else(bY l.length lo hi st).filterMap (l[·]?)
noncomputable def qR(n:Nat)(lo hi st:Option Int):List Nat:=sliceRange (sliceBounds lo hi st n).1 (sliceBounds lo hi st n).2.1 (sliceBounds lo hi st n).2.2
noncomputable def lu(l:List V)(lo hi st:Option Int):List V:=(qR l.length lo hi st).filterMap (l[·]?)
noncomputable def cn(σ:Sg)(x:V)(lo hi st:Option Int):Option (V×Sg):=if st=some 0 then none else match x with
 | .tup l=>if l.length≤2^20∧(iF l lo hi st).length≤2^20 then some (.tup (iF l lo hi st),σ)else none
 | .lst k=>(pv σ k).bind fun l=>if l.length≤2^20 then some (.lst σ.length,σ++[.lst (lu l lo hi st)])else none
 |_=>none
theorem jH{sl:Addr}{st:Option Int}{Q:Int×Int×Nat→Shared→Prop}(hs:s.heap.IsSliceOf sl v1 v2 v3)(p1:IsPart v1 lo)(p2:IsPart v2 hi)(p3:IsPart v3 st)
 (h0:st≠some 0)
 (h:Q ((I6 lo hi (st.getD 1) (n:Int)).1,st.getD 1,I7 (I6 lo hi (st.getD 1) (n:Int)).1 (I6 lo hi (st.getD 1) (n:Int)).2 (st.getD 1)) s):
 H9 (model c.prog c.w) A (I8 (.ref sl) (pure (n:Int))) Q E s:=by
 refine cz (id hs) fun os hos hcs hds=> ?_;unfold I8 Builtin.Slice.sliceFields;refine H_ (H_ (Ib hos hds (x:=v1) rfl (H_ (Ib hos hds (x:=v2) rfl (H_ (Ib hos hds (x:=v3) rfl (H' ?_)))))));refine H_ (eZ p3 ?_)
 show H9 _ _ (if((st.getD 1)==0)=true then _ else _) _ _ s
 rw[if_neg (by
  cases st with
  |none=>decide
  |some d=>simp only[Option.getD_some,beq_iff_eq];exact fun q=>h0 (q▸rfl))]
 refine H_ (eZ p1 (H_ (eZ p2 (H_ (H' ?_)))));exact H' h
theorem i_{t sl:Addr}{st:Option Int}(ht:IsTup s.heap t items)(hs:s.heap.IsSliceOf sl v1 v2 v3)
 (p1:IsPart v1 lo) (p2:IsPart v2 hi) (p3:IsPart v3 st) (h0:st≠some 0)
 (hw:d5 items.size lo hi st=true→Q (.ref t) s)
 (h:d5 items.size lo hi st=false→Q (.ref s.heap.objs.size) {s with heap:=s.heap.push (am ((bY items.size lo hi st).filterMap (items.toList[·]?)) 0)})
 (hsz:((bY items.size lo hi st).filterMap (items.toList[·]?)).length≤sizeLine):H9 (model c.prog c.w) A (getItem (.ref t) (.ref sl)) Q E s:=by
 refine cz (id hs) fun os hos hcs hds=> ?_;have hTs:s.TypeIs (.ref sl) "slice":=⟨os,hos,hcs⟩;unfold getItem
 try with_reducible refine Ic ?_
 first|refine H_ (H' ?_)|skip
 refine H_ (wpAny_sequenceKey ht.typeIs (by rfl) ?_)
 refine H_ (Im (name:=JW "__getitem__") ht.typeIs F.slot_tuple_getitem
  (Ij F.slot_tuple_getitem ht.typeIs F.entry_tuple_getitem ?_ (F.args_tuple_getitem_2 _ _)))
 show H9 _ _ (Jf (.ref t)>>=_) _ _ s;refine H_ (tupleItemsOf_ ht ?_);refine H_ (Iv hTs ?_)
 refine c_ (by decide) ?_
 refine H_ (jH (n:=items.size) hs p1 p2 p3 h0 ?_)
 cases hq:d5 items.size lo hi st with
 |true=>
  show H9 _ _ (if d5 items.size lo hi st=true then _ else _) _ _ s
  refine c_ hq ?_;refine H_ (m:=Jg (.ref t)) (H_ (Iv ht.typeIs (H' ?_)))
  refine c_ (by decide) ?_
  first
   |exact H_ (Ie (H' ⟨_,rfl,H' (hw hq)⟩))
   |exact H_ (Ie (H_ (H' (H' ⟨_,rfl,H' (hw hq)⟩))))
   |exact H_ (H_ (Ie (H' (H' ⟨_,rfl,H' (hw hq)⟩))))
 |false=>
  show H9 _ _ (if d5 items.size lo hi st=true then _ else _) _ _ s
  refine bU (by rw[hq];exact FT) ?_
  have e:((Gs (I7 (I6 lo hi (st.getD 1) (items.size:Int)).1 (I6 lo hi (st.getD 1) (items.size:Int)).2 (st.getD 1))).filterMap fun(k:Nat)=>
   items[((I6 lo hi (st.getD 1) (items.size:Int)).1+(k:Int)*st.getD 1).toNat]?).toArray=((bY items.size lo hi st).filterMap (items.toList[·]?)).toArray:=by
   unfold bY;rw[List.filterMap_map];congr 2;funext k;simp
  have hdrop:sizeOk (.seq ((bY items.size lo hi st).filterMap (items.toList[·]?)).toArray):=by
   show((bY items.size lo hi st).filterMap (items.toList[·]?)).toArray.size≤sizeLine;rw[GR];exact hsz
  rw[e]
  first
   |exact H_ (m:=Je _) (Ig (H' ⟨_,rfl,H' (h hq)⟩) hdrop)
   |exact H_ (m:=Je _) (Ig (H_ (H' (H' ⟨_,rfl,H' (h hq)⟩))) hdrop)
   |exact H_ (H_ (m:=Je _) (Ig (H' (H' ⟨_,rfl,H' (h hq)⟩)) hdrop))
   |exact H_ (H_ (m:=Je _) (Ig (H' ⟨_,rfl,H' (h hq)⟩) hdrop))
theorem ul{a b d:Option Expr}{p:Pos}(o i:Value): ∃ops,subscripted (.Slice a b d p) false o i=operate ops (getItem o i):=by
 cases d with
 |none=>exact⟨[i,o],rfl⟩
 |some _=>exact⟨[o,i],rfl⟩
theorem fC(l:List α)(js:List Nat):(js.filterMap (l[·]?)).length≤js.length:=List.length_filterMap_le ..
set_option tactic.hygienic true in
theorem pC{value:Expr}{a b d:Option Expr}{p:Pos}{x y:V}{lo hi st:Option Int}{v v1 v2 v3:Value}{J1:Sg}(ok:c.Ok)(t:aO c ρ σ s.heap)(g:Gd c s.heap)(e:cn σ x lo hi st=some (y,J1))(r:R s.heap ρ x v)
 (p1:IsPart v1 lo) (p2:IsPart v2 hi) (p3:IsPart v3 st):
 H9 (model c.prog c.w) A (subscriptTail value (.Slice a b d p) v (.ref s.heap.objs.size)) (fun w s'=> ∃J3,af c ρ s J3 J1 s'∧R s'.heap J3 y w) (cC c ρ s (.ok y J1:aD V))
  {s with heap:=s.heap.push {cls:= .type "slice",data:= .fields #[v1,v2,v3]}}:=by
 refine oE (ul (a:=a) (b:=b) (d:=d) (p:=p) v (.ref s.heap.objs.size)) fun ops hops=> ?_
 have sp:af c ρ s ρ σ {s with heap:=s.heap.push {cls:= .type "slice",data:= .fields #[v1,v2,v3]},toks:=s.toks}:=af.push ok t g
 have r2:=sp.R r;have hsl:(s.heap.push {cls:= .type "slice",data:= .fields #[v1,v2,v3]}).IsSliceOf s.heap.objs.size v1 v2 v3:=Heap.IsSliceOf.new ..;unfold cn at e
 split at e
 ·exact no e
 ·rename_i h0
  split at e
  ·rename_i l
   split at e
   ·rename_i hz
    cases H8 e
    cases r2 with
    |tup h1 f1 rs=>
     rename_i ta vs n
     have hlen:vs.toArray.size=l.length:=by simp[rs.length]
     refine eS (T:="tuple") (cJ (s:={s with heap:=s.heap.push {cls:= .type "slice",data:= .fields #[v1,v2,v3]}}) h1).typeIs Jo.lookup
      (i_ (cJ (s:={s with heap:=s.heap.push {cls:= .type "slice",data:= .fields #[v1,v2,v3]}}) h1) hsl p1 p2 p3 h0 (fun hq=> ?_) (fun hq=> ?_) ?_) hops
     ·rw[hlen]at hq;refine⟨ρ,sp,?_⟩;unfold iF;rw[if_pos hq];exact .tup h1 f1 rs
     ·rw[hlen]at hq;refine⟨ρ,sp.trans (af.push ok sp.sto sp.gd),?_⟩;unfold iF
      rw[if_neg (by rw[hq];exact FT),hlen]
      have sp2:af c ρ {s with heap:=s.heap.push {cls:= .type "slice",data:= .fields #[v1,v2,v3]}} ρ σ
       {s with heap:=(s.heap.push {cls:= .type "slice",data:= .fields #[v1,v2,v3]}).push (am ((bY l.length lo hi st).filterMap (vs.toArray.toList[·]?)) 0),toks:=s.toks}:=af.push ok sp.sto sp.gd
      exact .tup (JF _ rfl) (sp.sto.new (Hv _)) (sp2.Rs (by simpa using rs.places _))
     ·rw[hlen];have q:=(rs.places (bY l.length lo hi st)).length;simp only[List.toList_toArray];rw[←q]
      by_cases hw:d5 l.length lo hi st=true
      ·have:(bY l.length lo hi st).length=l.length:=by
        unfold d5 at hw;unfold bY;simp only[FS,beq_iff_eq]at hw;simp only[Gk,GQ];exact hw.2
       exact Hu (fC ..) (by rw[this];exact Hu hz.1 (by decide))
      ·have hz2:=hz.2;unfold iF at hz2;rw[if_neg hw]at hz2
       exact Hu hz2 (by decide)
   ·exact no e
  ·rename_i k;refine ae e fun l hl e=>bH e fun hz e=> ?_
   cases H8 e
   cases r2 with
   |lst h1=>
    refine bc (sp.sto.rd h1 hl) fun vs n o rs=> ?_
    have hlen:vs.toArray.size=l.length:=by simp[rs.length]
    refine eS (T:="list") (bT (s:={s with heap:=s.heap.push {cls:= .type "slice",data:= .fields #[v1,v2,v3]}}) o).typeIs PySem.F.slot_list_getitem.lookup
     (wpAny_getItem_list_slice (bT (s:={s with heap:=s.heap.push {cls:= .type "slice",data:= .fields #[v1,v2,v3]}}) o) hsl p1 p2 p3 h0 ?_ (by rw[hlen];exact Hu hz (by decide))) hops
    have ep:slicePick vs.toArray lo hi st=((qR l.length lo hi st).filterMap (vs[·]?)).toArray:=by
     unfold slicePick qR;rw[hlen];simp
    rw[ep];have sp2:=af.pushList (c:=c) (n:=0) (t:=s.toks) ok sp.sto sp.gd (rs.places (qR l.length lo hi st));exact⟨_,sp.trans sp2,.lst (sp.sto.last _)⟩
  ·exact no e
end
section
inductive It where
 |seq (l:List V) (i:Nat)
 |lst (k:Nat) (i:Nat)
 |rng (x left step:Int)
 |revl (k:Nat) (i:Nat)
 |revt (l:List V) (i:Nat)
 |zip (ts:List It)
 |enum (t:It) (n:Int)
 deriving Inhabited
noncomputable def xj(o:Option V)(t:α):Option (V×α):=o.map fun x=>(x,t)
noncomputable def Cp(r:Option (List V×List It)):Option (Option (V×It)):=r.elim (some none) fun p=>if p.1.isEmpty=true then none else some (some (.tup p.1,.zip p.2))
mutual
/--none:not told here;some none:at its end-/
noncomputable def aw(σ:Sg):It→Option (Option (V×It))
 | .seq l i=>some (xj l[i]? (.seq l (i+1)))
 | .lst k i=>(aG σ k).map fun l=>xj l[i]? (.lst k (i+1))
 | .rng x left step=>some (if 0<left then some (.int x,.rng (x+step) (left-1) step)else none)
 | .revl k i=>Nat.casesOn i (some none) fun i=>(aG σ k).bind fun l=>l[i]?.map fun x=>some (x,.revl k i)
 | .revt l i=>Nat.casesOn i (some none) fun i=>l[i]?.bind fun x=>if l.length≤2^20 then some (some (x,.revt l i))else none
 | .zip ts=>if ts.length≤64 then(bg σ ts).bind Cp else none
 | .enum t n=>(aw σ t).map fun r=>r.map fun p=>(.tup [.int n,p.1],.enum p.2 (n+1))
noncomputable def bg(σ:Sg):List It→Option (Option (List V×List It))
 |[]=>some (some ([],[]))
 |t::ts=>(aw σ t).bind fun r=>r.elim (some none) fun p=>(bg σ ts).map fun q=>q.map fun q=>(p.1::q.1,p.2::q.2)
end
section
variable {t:It}{ts:List It}{n x left step:Int}
theorem w8:aw σ (.seq l i)=some (xj l[i]? (.seq l (i+1))):=rfl
theorem vG:aw σ (.lst k i)=(aG σ k).map fun l=>xj l[i]? (.lst k (i+1)):=rfl
theorem qV:aw σ (.rng x left step)=some (if 0<left then some (.int x,.rng (x+step) (left-1) step)else none):=rfl
theorem vH:aw σ (.zip ts)=if ts.length≤64 then(bg σ ts).bind Cp else none:=rfl
theorem r_:aw σ (.enum t n)=(aw σ t).map fun r=>r.map fun p=>(.tup [.int n,p.1],.enum p.2 (n+1)):=rfl
theorem sn:bg σ []=some (some ([],[])):=rfl
theorem iP:bg σ (t::ts)=(aw σ t).bind fun r=>r.elim (some none) fun p=>(bg σ ts).map fun q=>q.map fun q=>(p.1::q.1,p.2::q.2):=rfl
end
noncomputable abbrev jK(f0 f1:Value)(TI TO:Addr):Obj:={cls:= .type "zip",dict:=none,data:= .fields #[f0,f1,.bool false,.ref TI,.ref TO],slots:= #[]}
noncomputable abbrev dH(f0 f1:Value)(it:Addr)(i:Int)(old:Value):Obj:={cls:= .type "enumerate",dict:=none,data:= .fields #[f0,f1,.ref it,rawInt i,.none,old],slots:= #[]}
noncomputable abbrev kH(t:Addr)(i:Int):Obj:={cls:= .type "reversed",data:= .fields #[.ref t,rawInt i]}
noncomputable def dh(h:Heap)(ρ:Pl)(f0:Value):Prop:=f0= .none∨ ∃T vs n,f0=rawInt (T:Nat)∧h.get? T=some (am vs n)∧ρ.free T
mutual
/--the iterator at a tells what t says;what it is made of lies at I-/
inductive bB(h:Heap)(ρ:Pl):It→List Addr→Addr→Prop
 |seq {l:List V} {i:Nat} {a t:Addr}:IsTupIter h a t i→R h ρ (.tup l) (.ref t)→a∈ρ.p→bB h ρ (.seq l i) [a] a
 |lst {k i:Nat} {a la:Addr}:h.IsListIter a la i→ρ.r[k]? =some la→a∈ρ.p→bB h ρ (.lst k i) [a] a
 |rng {x left step:Int} {a:Addr}:IsRangeIter h a x left step→a∈ρ.p→bB h ρ (.rng x left step) [a] a
 |revl {k i:Nat} {a la:Addr}:h.IsRevIter a la ((i:Int)-1)→ρ.r[k]? =some la→a∈ρ.p→bB h ρ (.revl k i) [a] a
 |revt {l:List V} {i:Nat} {a t:Addr}:h.get? a=some (kH t ((i:Int)-1))→R h ρ (.tup l) (.ref t)→a∈ρ.p→bB h ρ (.revt l i) [a] a
 |zip {ts:List It} {I as:List Addr} {z TI TO:Addr} {f0 f1:Value} {ws:List Value} {m m':Nat}:h.get? z=some (jK f0 f1 TI TO)→dh h ρ f0→h.get? TI=some (am (as.map .ref) m)→h.get? TO=some (am ws m')→ws.length=ts.length→
  bC h ρ ts I as→z∈ρ.p→TI∈ρ.p→TO∈ρ.p→z≠TI→z≠TO→TI≠TO→z∉I→TI∉I→TO∉I→bB h ρ (.zip ts) (z::TI::TO::I) z
 |enum {t:It} {n:Int} {I:List Addr} {e a:Addr} {f0 f1 old:Value}:h.get? e=some (dH f0 f1 a n old)→dh h ρ f0→bB h ρ t I a→e∈ρ.p→e∉I→bB h ρ (.enum t n) (e::I) e
inductive bC(h:Heap)(ρ:Pl):List It→List Addr→List Addr→Prop
 |nil:bC h ρ [] [] []
 |cons {t:It} {ts:List It} {I J as:List Addr} {a:Addr}:bB h ρ t I a→bC h ρ ts J as→(∀x∈I,x∉J)→bC h ρ (t::ts) (I++J) (a::as)
end
theorem bB.both{P:It→List Addr→Addr→Prop}{Q:List It→List Addr→List Addr→Prop}(seq: ∀{l i a t},IsTupIter h a t i→R h ρ (.tup l) (.ref t)→a∈ρ.p→P (.seq l i) [a] a)
 (lst: ∀{k i a la},h.IsListIter a la i→ρ.r[k]? =some la→a∈ρ.p→P (.lst k i) [a] a) (rng: ∀{x left step a},IsRangeIter h a x left step→a∈ρ.p→P (.rng x left step) [a] a)
 (revl: ∀{k i a la},h.IsRevIter a la (((i:Nat):Int)-1)→ρ.r[k]? =some la→a∈ρ.p→P (.revl k i) [a] a) (revt: ∀{l i a t},h.get? a=some (kH t (((i:Nat):Int)-1))→R h ρ (.tup l) (.ref t)→a∈ρ.p→P (.revt l i) [a] a)
 (zip: ∀{ts I as z TI TO f0 f1 ws m m'},h.get? z=some (jK f0 f1 TI TO)→dh h ρ f0→h.get? TI=some (am (as.map .ref) m)→h.get? TO=some (am ws m')→ws.length=ts.length→
  bC h ρ ts I as→Q ts I as→z∈ρ.p→TI∈ρ.p→TO∈ρ.p→z≠TI→z≠TO→TI≠TO→z∉I→TI∉I→TO∉I→P (.zip ts) (z::TI::TO::I) z)
 (enum: ∀{t n I e a f0 f1 old},h.get? e=some (dH f0 f1 a n old)→dh h ρ f0→bB h ρ t I a→P t I a→e∈ρ.p→e∉I→P (.enum t n) (e::I) e)
 (nil:Q [] [] []) (cons: ∀{t ts I J as a},bB h ρ t I a→P t I a→bC h ρ ts J as→Q ts J as→(∀x∈I,x∉J)→Q (t::ts) (I++J) (a::as)):
 (∀{t I a},bB h ρ t I a→P t I a)∧(∀{ts I as},bC h ρ ts I as→Q ts I as):=
 ⟨fun r=>bB.rec (motive_1:=fun t I a u_=>P t I a) (motive_2:=fun ts I as u_=>Q ts I as) seq lst rng revl revt (fun a b c d e f g1 g2 g3 n1 n2 n3 n4 n5 n6 q=>zip a b c d e f q g1 g2 g3 n1 n2 n3 n4 n5 n6) (fun a b c d e q=>enum a b c q d e) nil (fun a b n c d=>cons a c b d n) r,
  fun r=>bC.rec (motive_1:=fun t I a u_=>P t I a) (motive_2:=fun ts I as u_=>Q ts I as) seq lst rng revl revt (fun a b c d e f g1 g2 g3 n1 n2 n3 n4 n5 n6 q=>zip a b c d e f q g1 g2 g3 n1 n2 n3 n4 n5 n6) (fun a b c d e q=>enum a b c q d e) nil (fun a b n c d=>cons a c b d n) r⟩
theorem bC.ind{Q:List It→List Addr→List Addr→Prop}(nil:Q [] [] [])(cons: ∀{t ts I J as a},bB h ρ t I a→bC h ρ ts J as→Q ts J as→(∀x∈I,x∉J)→Q (t::ts) (I++J) (a::as)){ts:List It}{as:List Addr}(r:bC h ρ ts I as):Q ts I as:=
 (bB.both (P:=fun u_ u_ u_=>True) (fun u_ u_ u_=>trivial) (fun u_ u_ u_=>trivial) (fun u_ u_=>trivial) (fun u_ u_ u_=>trivial) (fun u_ u_ u_=>trivial) (fun u_ u_ u_ u_ u_ u_ u_ u_ u_ u_ u_ u_ u_ u_ u_ u_=>trivial) (fun u_ u_ u_ u_ u_ u_=>trivial) nil fun a u_ b c d=>cons a b c d).2 r
theorem bB.privB:(∀{t I a},bB h ρ t I a→(∀x∈I,x∈ρ.p)∧a∈I)∧(∀{ts I as},bC h ρ ts I as→ ∀x∈I,x∈ρ.p):=
 bB.both (P:=fun u_ I a=>(∀x∈I,x∈ρ.p)∧a∈I) (Q:=fun u_ I u_=> ∀x∈I,x∈ρ.p) (fun u_ u_ p=>⟨dt p,.head _⟩) (fun u_ u_ p=>⟨dt p,.head _⟩) (fun u_ p=>⟨dt p,.head _⟩) (fun u_ u_ p=>⟨dt p,.head _⟩) (fun u_ u_ p=>⟨dt p,.head _⟩)
  (fun u_ u_ u_ u_ u_ u_ ts p1 p2 p3 u_ u_ u_ u_ u_ u_=>⟨aW p1 (aW p2 (aW p3 ts)),.head _⟩) (fun u_ u_ u_ t p u_=>⟨aW p t.1,.head _⟩) fH fun u_ t u_ ts u_ x m=>(Gl.mp m).elim (t.1 x) (ts x)
theorem bB.priv{t:It}:bB h ρ t I a→(∀x∈I,x∈ρ.p)∧a∈I:=bB.privB.1
theorem bC.priv{t:List It}{as:List Addr}:bC h ρ t I as→(∀x∈I,x∈ρ.p):=bB.privB.2
theorem dh.mono(nl:ρ.Off S)(x:d9 c S h h')(le:ρ.Le h J3)(H:dh h ρ f0):dh h' J3 f0:=by
 rcases H with e|⟨T,vs,n,e,g,f⟩
 ·exact .inl e
 ·exact .inr ⟨T,vs,n,e,x.get (fun m=>nl _ m f) g rfl,le.free _ _ f g⟩
theorem rj(x:d9 c S h h'){p:Obj→Prop}(k: ∀o,p o→ur o=true)(n:a∉S)(e: ∃o,h.get? a=some o∧p o): ∃o,h'.get? a=some o∧p o:=e.elim fun o e=>⟨o,x.get n e.1 (k o e.2),e.2⟩
theorem nN{vs:Array Value}(o:Obj)(h:o.cls= .type T∧o.data= .fields vs):ur o=true:=by
 unfold ur gX;rw[h.1,h.2];rfl
theorem bB.monoB(nl:ρ.Off S)(x:d9 c S h h')(le:ρ.Le h J3)(pp: ∀a∈ρ.p,a∈J3.p):(∀{t I a},bB h ρ t I a→(∀b∈I,b∉S)→bB h' J3 t I a)∧(∀{ts I as},bC h ρ ts I as→(∀b∈I,b∉S)→bC h' J3 ts I as):=
 bB.both (P:=fun t I a=>(∀b∈I,b∉S)→bB h' J3 t I a) (Q:=fun ts I as=>(∀b∈I,b∉S)→bC h' J3 ts I as)
  (fun e r p d=> .seq (rj x nN (d _ (.head _)) e) (r.mono nl x le) (pp _ p)) (fun e r p d=> .lst (rj x nN (d _ (.head _)) e) (le.get r) (pp _ p)) (fun e p d=> .rng (x.get (d _ (.head _)) e rfl) (pp _ p))
  (fun e r p d=> .revl (rj x nN (d _ (.head _)) e) (le.get r) (pp _ p)) (fun e r p d=> .revt (x.get (d _ (.head _)) e rfl) (r.mono nl x le) (pp _ p))
  (fun e1 H e2 e3 l u_ ts p1 p2 p3 n1 n2 n3 n4 n5 n6 d=> .zip (x.get (d _ (.head _)) e1 rfl) (H.mono nl x le) (x.get (d _ (.tail _ (.head _))) e2 rfl) (x.get (d _ (.tail _ (.tail _ (.head _)))) e3 rfl) l (ts fun b m=>d b (.tail _ (.tail _ (.tail _ m)))) (pp _ p1) (pp _ p2) (pp _ p3) n1 n2 n3 n4 n5 n6)
  (fun e H u_ t p n d=> .enum (x.get (d _ (.head _)) e rfl) (H.mono nl x le) (t fun b m=>d b (.tail _ m)) (pp _ p) n) (fun u_=> .nil)
  fun u_ t u_ ts n d=> .cons (t fun b m=>d b (GJ _ m)) (ts fun b m=>d b (GS _ m)) n
theorem bB.mono(nl:ρ.Off S)(x:d9 c S h h')(le:ρ.Le h J3)(pp: ∀a∈ρ.p,a∈J3.p){t:It}(d: ∀b∈I,b∉S)(i:bB h ρ t I a):bB h' J3 t I a:=(bB.monoB nl x le pp).1 i d
theorem bC.mono(nl:ρ.Off S)(x:d9 c S h h')(le:ρ.Le h J3)(pp: ∀a∈ρ.p,a∈J3.p){t:List It}{as:List Addr}(d: ∀b∈I,b∉S)(i:bC h ρ t I as):bC h' J3 t I as:=(bB.monoB nl x le pp).2 i d
theorem ad.itr{D:List Addr}{t:It}(st:aO c ρ σ s.heap)(d: ∀a∈D,a∈ρ.p)(n: ∀a∈I,a∉D)(x:ad c D ρ s J3 J1 s')(i:bB s.heap ρ t I a):bB s'.heap J3 t I a:=
 i.mono (ad.off d) x.ext x.le x.pold fun b m q=>(Gl.mp q).elim (n b m) (st.disj b (i.priv.1 b m))
theorem af.itr{t:It}(st:aO c ρ σ s.heap)(x:af c ρ s J3 J1 s')(i:bB s.heap ρ t I a):bB s'.heap J3 t I a:=ad.itr st (by exact GH _) (by simp) x i
theorem ad.itrs{D:List Addr}{t:List It}{as:List Addr}(st:aO c ρ σ s.heap)(d: ∀a∈D,a∈ρ.p)(n: ∀a∈I,a∉D)(x:ad c D ρ s J3 J1 s')(i:bC s.heap ρ t I as):bC s'.heap J3 t I as:=
 i.mono (ad.off d) x.ext x.le x.pold fun b m q=>(Gl.mp q).elim (n b m) (st.disj b (i.priv b m))
noncomputable def m6(e:Value)(s:Shared):Prop:= ∃b o,e= .ref b∧s.heap.get? b=some o∧o.cls= .type "StopIteration"
variable (c)in
noncomputable def d6(A:Around)(a:Addr)(s:Shared)(Q:Value→Shared→Prop)(E:Shared→Prop):Prop:=
 H9 (model c.prog c.w) A (callSpecial? (.ref a) "__next__") (fun r s'=> ∃v,r=some v∧Q v s') (fun e s'=>m6 e s'∧E s') s
theorem d6.mono{Q':Value→Shared→Prop}{E E':Shared→Prop}(n:d6 c A a s Q E)(q: ∀v s',Q v s'→Q' v s')(e: ∀s',E s'→E' s'):d6 c A a s Q' E':=
 Ia n (fun _ _ ⟨v,h,k⟩=>⟨v,h,q _ _ k⟩) fun _ _ ⟨h,k⟩=>⟨h,e _ k⟩
theorem d6.pyNext{E:Shared→Prop}{E':Value→Shared→Prop}(n:d6 c A a s Q E):H9 (model c.prog c.w) A (pyNext (.ref a)) (fun r s'=>match r with|some v=>Q v s'|none=>E s') E' s:=by
 unfold PySem.pyNext;refine H_ (wpAny_attempt (Ia n (fun r s' h=> ?_) fun e s' h=> ?_))
 ·obtain⟨v,rfl,q⟩:=h;exact H' q
 ·obtain⟨⟨b,o,rfl,ho,hc⟩,q⟩:=h;refine H_ (IC (T:="StopIteration") (b:=true) ⟨o,ho,hc⟩ isSubtype_stop ?_);exact H' q
theorem d6.nextOf{E:Shared→Prop}(n:d6 c A a s Q E):H9 (model c.prog c.w) A (I_ (.ref a)) Q (fun e s'=>m6 e s'∧E s') s:=by
 unfold I_;refine H_ (Ia n (fun r s' h=> ?_) fun e s' h=>h);refine aK h fun v zz1 q=> ?_;subst zz1;exact H' q
theorem et{Q:α→Shared→Prop}(hh:A.handled=none)
 (h: ∀o1 o2:Obj,o2.cls= .type "StopIteration"→o2.isFreed=false→E (.ref (s.heap.push o1).objs.size) {s with heap:=(s.heap.push o1).push o2}):
 H9 (model c.prog c.w) A (newExc (.type "StopIteration") []>>=fun e=>raiseNew (α:=α) e) Q E s:=by
 refine H_ ?_;simp only[newExc,newTuple]
 refine H_ (Ig ?_ (by exact HD _))
 refine H_ (m:=firstArgMember _ _) (Ih (a:=JY) (by first|rfl|(simp only[firstArgMember];rfl)) ?_)
 refine Ig ?_ (by size_fits)
 simp only[raiseNew];refine H_ (wpAny_handled ?_);rw[hh];refine H_ (H' (wpAny_throw ?_));exact h _ _ rfl rfl
theorem iU(x:JK a h h'): ∀b o,b∉[a]→h.get? b=some o→h'.get? b=some o:=fun b o n e=>(x.2 b (fun q=>n (by simp[q]))).trans e
theorem ad.same{t:Nat}(ok:c.Ok)(st:aO c ρ σ s.heap)(g:Gd c s.heap)(p:a∈ρ.p)(x:JK a s.heap h'):ad c [a] ρ s ρ σ {s with heap:=h',toks:=t}:=
 ad.write' ok st g (by simpa using p) (iU x) (HX x.1.symm)
theorem ad.same2{t:Nat}(ok:c.Ok)(st:aO c ρ σ s.heap)(g:Gd c s.heap)(p:a∈ρ.p)(x:JK a s.heap h'):ad c [a] ρ s ρ σ {s with heap:=(h'.push o1).push o2,toks:=t}:=
 ad.write' ok st g (by simpa using p) (fun b o n e=>JG _ (JG _ (iU x b o n e))) (by rw[JH,JH,x.1];exact HA _ 2)
theorem ad.push2{D:List Addr}{t:Nat}(ok:c.Ok)(st:aO c ρ σ s.heap)(g:Gd c s.heap):ad c D ρ s ρ σ {s with heap:=(s.heap.push o1).push o2,toks:=t}:=
 af.D (af.keeps ok st g (fun b o e=>JG _ (JG _ e)) (by rw[JH,JH];exact HA _ 2))
theorem dL{t:Nat}(c2:o2.cls= .type "StopIteration")(f:o2.isFreed=false):m6 (.ref (h.push o1).objs.size) {s with heap:=(h.push o1).push o2,toks:=t}:=
 ⟨_,_,rfl,JF _ f,c2⟩
set_option tactic.hygienic true in
theorem wX{a t:Addr}{l:List V}{i:Nat}(hh:A.handled=none)(ok:c.Ok)(st:aO c ρ σ s.heap)(g:Gd c s.heap)(hit:IsTupIter s.heap a t i)(r:R s.heap ρ (.tup l) (.ref t))(p:a∈ρ.p):
 d6 c A a s (fun v s'=> ∃x,l[i]? =some x∧ad c [a] ρ s ρ σ s'∧R s'.heap ρ x v∧bB s'.heap ρ (.seq l (i+1)) [a] a) (fun s'=>l[i]? =none∧ad c [a] ρ s ρ σ s'):=by
 cases r with
 |tup h1 f1 rs=>
 rename_i vs n;refine cz (id hit) fun o ho hc hd=> ?_;refine Im (name:=JW "__next__") hit.typeIs slot_tupleiter_next
  (Ij slot_tupleiter_next hit.typeIs entry_tupleiter_next ?_ (args_tupleiter_next _))
 show H9 _ _ (field (.ref a) 0>>=_) _ _ s;refine H_ (Ib ho hd (x:= .ref t) rfl ?_)
 show H9 _ _ (if(JX t==JY)=true then _ else _) _ _ s
 rw[if_neg (show¬((JX t==JY)=true)from FT)]
 show H9 _ _ (field (.ref a) 1>>=_) _ _ s;refine H_ (Ib ho hd (x:= .int i 0) rfl ?_);show H9 _ _ (seqItems? (.ref t)>>=_) _ _ s;refine H_ (Iu h1 rfl ?_);simp only[F8]
 cases hx:l[i]? with
 |some x=>
  refine aK (rs.get hx) fun v ev rv=> ?_;simp only[G1,ev]
  refine H_ (Iw ho hd (by exact Hx _) (H' ⟨v,rfl,v,rfl,x,rfl,?_⟩))
  have S:=ad.same (c:=c) (t:=s.toks) ok st g p (JN (h:=s.heap) (a:=a) (f:=JQ (·.setIfInBounds 1 (rawInt ((i:Int)+1)))))
  refine⟨S,ad.R (by simpa using p) S rv,.seq ⟨_,JJ _ ho (JT (JS hd _)),(JU ..).trans hc,?_⟩ (ad.R (by simpa using p) S (.tup h1 f1 rs)) p⟩
  rw[JS hd];rfl
 |none=>
  have ev:vs[i]? =none:=by rw[Hh]at hx⊢;rw[←rs.length];exact hx
  simp only[G1,ev]
  refine H_ (Ie (H_ (Iw ho hd (by exact Hw _) ?_)))
  refine et (c:=c) hh fun o1 o2 c2 f2=>⟨dL c2 f2,by trivial,?_⟩
  exact ad.same2 ok st g p (JN ..)
theorem ww(hh:A.handled=none)(ok:c.Ok)(st:aO c ρ σ s.heap)(g:Gd c s.heap)(hit:s.heap.IsListIter a la i)(hk:ρ.r[k]? =some la)(hl:σ[k]? =some (.lst l))(p:a∈ρ.p):
 d6 c A a s (fun v s'=> ∃x,l[i]? =some x∧ad c [a] ρ s ρ σ s'∧R s'.heap ρ x v∧bB s'.heap ρ (.lst k (i+1)) [a] a) (fun s'=>l[i]? =none∧ad c [a] ρ s ρ σ s'):=by
 refine bc (st.at_ _ _ _ hk hl) fun vs n h1 rs=> ?_
 refine cz (id hit) fun o ho hc hd=> ?_;refine Im (name:=JW "__next__") hit.typeIs slot_listiter_next
  (Ij slot_listiter_next hit.typeIs entry_listiter_next ?_ (args_listiter_next _))
 show H9 _ _ (field (.ref a) 0>>=_) _ _ s;refine H_ (Ib ho hd (x:= .ref la) rfl ?_)
 show H9 _ _ (if(JX la==JY)=true then _ else _) _ _ s
 rw[if_neg (show¬((JX la==JY)=true)from FT)]
 show H9 _ _ (field (.ref a) 1>>=_) _ _ s;refine H_ (Ib ho hd (x:= .int i 0) rfl ?_);show H9 _ _ (seqItems? (.ref la)>>=_) _ _ s;refine H_ (Iu h1 rfl ?_);simp only[F8]
 cases hx:l[i]? with
 |some x=>
  refine aK (rs.get hx) fun v ev rv=> ?_;simp only[G1,ev]
  refine H_ (Iw ho hd (by exact Hx _) (H' ⟨v,rfl,v,rfl,x,rfl,?_⟩))
  have S:=ad.same (c:=c) (t:=s.toks) ok st g p (JN (h:=s.heap) (a:=a) (f:=JQ (·.setIfInBounds 1 (rawInt ((i:Int)+1)))))
  refine⟨S,ad.R (by simpa using p) S rv,.lst ⟨_,JJ _ ho (JT (JS hd _)),(JU ..).trans hc,?_⟩ hk p⟩
  rw[JS hd];rfl
 |none=>
  have ev:vs[i]? =none:=by rw[Hh]at hx⊢;rw[←rs.length];exact hx
  simp only[G1,ev]
  refine H_ (Ie (H_ (Iw ho hd (by exact Hw _) ?_)))
  refine et (c:=c) hh fun o1 o2 c2 f2=>⟨dL c2 f2,by trivial,?_⟩
  exact ad.same2 ok st g p (JN ..)
theorem wN{x left step:Int}(hh:A.handled=none)(ok:c.Ok)(st:aO c ρ σ s.heap)(g:Gd c s.heap)(hit:IsRangeIter s.heap a x left step)(p:a∈ρ.p):
 d6 c A a s (fun v s'=>0<left∧ad c [a] ρ s ρ σ s'∧R s'.heap ρ (.int x) v∧bB s'.heap ρ (.rng (x+step) (left-1) step) [a] a) (fun s'=> ¬0<left∧ad c [a] ρ s ρ σ s'):=by
 have hT:s.TypeIs (.ref a) "range_iterator":=⟨_,hit,rfl⟩;refine Im (name:=JW "__next__") hT Jx ?_
 by_cases hl:0<left
 ·refine IF Jx hT F.entry_range_iterator_next (F.args_range_iterator_next_1 _) (AutoRange.range_iterator___next___range_iterator_1 a x left step (by omega)) ⟨hit,?_⟩
  exact⟨_,rfl,hl,ad.same ok st g p ((JN ..).trans (JN ..)),.int,.rng (JJ _ (JJ _ hit rfl) rfl) p⟩
 ·refine Ij Jx hT F.entry_range_iterator_next ?_ (F.args_range_iterator_next_1 _);show H9 _ _ (field (.ref a) 0>>=_) _ _ s;refine H_ (Ib hit rfl (x:=rawInt x) rfl ?_);show H9 _ _ (field (.ref a) 1>>=_) _ _ s;refine H_ (Ib hit rfl (x:=rawInt left) rfl ?_);show H9 _ _ (field (.ref a) 2>>=_) _ _ s;refine H_ (Ib hit rfl (x:=rawInt step) rfl ?_)
  show H9 _ _ (if left≤0 then _ else _) _ _ s
  refine c_ (F7.mp ‹_›) ?_;refine H_ (Ie ?_)
  first
   |exact et (c:=c) hh fun o1 o2 c2 f2=>⟨dL c2 f2,hl,ad.push2 ok st g⟩
   |exact H_ (et (c:=c) hh fun o1 o2 c2 f2=>⟨dL c2 f2,hl,ad.push2 ok st g⟩)
theorem mM(hh:A.handled=none)(ok:c.Ok)(st:aO c ρ σ s.heap)(g:Gd c s.heap)(hit:s.heap.IsRevIter a la ((i:Int)-1))(hk:ρ.r[k]? =some la)(p:a∈ρ.p):
 (i=0→d6 c A a s (fun u_ u_=>False) (fun s'=>ad c [a] ρ s ρ σ s'))∧
 (∀j x,i=j+1→σ[k]? =some (.lst l)→l[j]? =some x→d6 c A a s (fun v s'=>ad c [a] ρ s ρ σ s'∧R s'.heap ρ x v∧bB s'.heap ρ (.revl k j) [a] a) (fun s'=>False)):=by
 refine cz (id hit) fun o ho hc hd=> ?_;constructor
 ·rintro rfl;refine Im (name:=JW "__next__") hit.typeIs Jp
   (Ij Jp hit.typeIs F.entry_lri_next ?_ (F.args_lri_next_1 _))
  unfold Builtin.«list_reverseiterator.__next__»;refine H_ (Ih (a:=(JX a,[])) rfl ?_)
  try dsimp only
  refine H_ (Ib ho hd (x:=rawInt (-1)) rfl ?_)
  show H9 _ _ (if(-1:Int)<0 then _ else _) _ _ s
  refine c_ (by decide) ?_
  refine H_ (Ie ?_)
  first
   |exact et (c:=c) hh fun o1 o2 c2 f2=>⟨dL c2 f2,ad.push2 ok st g⟩
   |exact H_ (et (c:=c) hh fun o1 o2 c2 f2=>⟨dL c2 f2,ad.push2 ok st g⟩)
 ·rintro j x rfl hl hx
  refine bc (st.at_ _ _ _ hk hl) fun vs n h1 rs=> ?_
  refine aK (rs.get hx) fun v ev rv=> ?_;refine Im (name:=JW "__next__") hit.typeIs Jp
   (Ij Jp hit.typeIs F.entry_lri_next ?_ (F.args_lri_next_1 _))
  unfold Builtin.«list_reverseiterator.__next__»;refine H_ (Ih (a:=(JX a,[])) rfl ?_)
  try dsimp only
  have ej:((j+1:Nat):Int)-1=(j:Int):=by exact sj
  rw[ej]at hd;refine H_ (Ib ho hd (x:=rawInt (j:Int)) rfl ?_)
  show H9 _ _ (if(j:Int)<0 then _ else _) _ _ s
  refine bU (by omega) ?_
  show H9 _ _ (field (.ref a) 0>>=_) _ _ s;refine H_ (Ib ho hd (x:= .ref la) rfl ?_);show H9 _ _ (seqItems? (.ref la)>>=_) _ _ s;refine H_ (Iu h1 rfl ?_);simp only[F8,G1,ev];have S:=ad.same (c:=c) (t:=s.toks) ok st g p (JN (h:=s.heap) (a:=a) (f:=JQ (·.setIfInBounds 1 (rawInt ((j:Int)-1)))))
  have fin:ad c [a] ρ s ρ σ {s with heap:=s.heap.update a (JQ (·.setIfInBounds 1 (rawInt ((j:Int)-1))))}∧R (s.heap.update a (JQ (·.setIfInBounds 1 (rawInt ((j:Int)-1))))) ρ x v∧bB (s.heap.update a (JQ (·.setIfInBounds 1 (rawInt ((j:Int)-1))))) ρ (.revl k j) [a] a:=by
   refine⟨S,ad.R (by simpa using p) S rv,.revl ⟨_,JJ _ ho (JT (JS hd _)),(JU ..).trans hc,?_⟩ hk p⟩
   rw[JS hd];rfl
  refine H_ (Iw ho hd (by exact Hx _) ?_)
  first
   |exact H' ⟨v,rfl,v,rfl,fin⟩
   |exact H_ (H' (H' ⟨v,rfl,v,rfl,fin⟩))
end
variable {ts:List It}{t t':It}
section
theorem gw:Manifest.owners.lookup (String.ofList ['d','e','s','r','e','v','e','r'].reverse)=some Manifest.sig_reversed:=by kernel_rfl
theorem cD:Slot "reversed" "__next__" "reversed.__next__":=
 .of (owner:="reversed") (n:="__next__") (by rw[IG,IH];exact rfl) (by decide+kernel) (by decide+kernel) (by decide+kernel)
  (by first|exact .inl (by decide+kernel)|exact .inr (by decide+kernel)) (by rw[IJ];exact rfl)
theorem gx:entryFor table "reversed.__next__"=some Builtin.«reversed.__next__»:=entryFor_of_tree rfl
theorem il(a:Value):argsOk "reversed.__next__" ⟨[a],[]⟩:=by
 unfold argsOk;rw[IK (id:="reversed.__next__") (n:=['_','_','t','x','e','n','_','_']) (o:=['d','e','s','r','e','v','e','r']) rfl gw];exact rfl
theorem ig:Slot "reversed" "__iter__" "reversed.__iter__":=
 .of (owner:="reversed") (n:="__iter__") (by rw[IG,IH];exact rfl) (by decide+kernel) (by decide+kernel) (by decide+kernel)
  (by first|exact .inl (by decide+kernel)|exact .inr (by decide+kernel)) (by rw[IJ];exact rfl)
theorem mH(a:Value):argsOk "reversed.__iter__" ⟨[a],[]⟩:=by
 unfold argsOk;rw[IK (id:="reversed.__iter__") (n:=['_','_','r','e','t','i','_','_']) (o:=['d','e','s','r','e','v','e','r']) rfl gw];exact rfl
theorem lh:entryFor table "reversed.__iter__"=some Builtin.«dict_keyiterator.__iter__»:=
 entryFor_alias (id':="dict_keyiterator.__iter__") ⋯ (by first|rfl|decide+kernel|(unfold String.splitOn;simp+decide [String.splitOnAux])) (by decide+kernel) ⋯
set_option tactic.hygienic true in
theorem mT{a t:Addr}{l:List V}{i:Nat}(hh:A.handled=none)(ok:c.Ok)(st:aO c ρ σ s.heap)(g:Gd c s.heap)(hit:s.heap.get? a=some (kH t ((i:Int)-1)))(r:R s.heap ρ (.tup l) (.ref t))(p:a∈ρ.p):
 (i=0→d6 c A a s (fun _ _=>False) (fun s'=>ad c [a] ρ s ρ σ s'))∧
 (∀j x,i=j+1→l[j]? =some x→l.length≤2^20→d6 c A a s (fun v s'=>ad c [a] ρ s ρ σ s'∧R s'.heap ρ x v∧bB s'.heap ρ (.revt l j) [a] a) (fun s'=>False)):=by
 have hT:s.TypeIs (.ref a) "reversed":=⟨_,hit,rfl⟩;constructor
 ·rintro rfl;refine Im (name:=JW "__next__") hT cD (Ij cD hT gx ?_ (il _));unfold Builtin.«reversed.__next__»;refine H_ (Ih (a:=(JX a,[])) rfl ?_)
  try dsimp only
  refine H_ (Ib hit rfl (x:= .ref t) rfl ?_);refine H_ (Ib hit rfl (x:=rawInt (-1)) rfl ?_)
  show H9 _ _ (if(-1:Int)<0 then _ else _) _ _ s
  refine c_ (by decide) ?_
  refine H_ (Ie ?_);have key: ∀{α:Type} {Q:α→Shared→Prop} {f:Unit→Sem α},(∀s',ad c [a] ρ s ρ σ s'→H9 (model c.prog c.w) A.in1 (f ()) Q (fun e s'=>m6 e s'∧ad c [a] ρ s ρ σ s') s')→
   H9 (model c.prog c.w) A.in1 ((do setField (.ref a) 1 (rawInt (-1));setField (.ref a) 0 .none)>>=f) Q (fun e s'=>m6 e s'∧ad c [a] ρ s ρ σ s') s:=by
   intro α Q f hf
   refine H_ (H_ (Iq hit (by exact Hx _) fun Kc h1 KQ=>Iq h1 (by exact Hz _) fun Kx h2 hs₂=> ?_))
   exact hf _ (ad.same ok st g p (KQ.trans hs₂))
  refine key fun s' S=> ?_;refine H_ (m:=Builtin.SmallTypes.stopIteration) (et (c:=c) (A:=A.in1) hh fun o1 o2 c2 f2=>⟨dL c2 f2,?_⟩);exact S.trans (ad.push2 ok S.sto S.gd)
 ·rintro j x rfl hx hz
  cases r with
  |tup h1 f1 rs=>
  rename_i vs n;refine aK (rs.get hx) fun v ev rv=> ?_;refine Im (name:=JW "__next__") hT cD (Ij cD hT gx ?_ (il _));unfold Builtin.«reversed.__next__»;refine H_ (Ih (a:=(JX a,[])) rfl ?_)
  try dsimp only
  have ej:((j+1:Nat):Int)-1=(j:Int):=by exact sj
  rw[ej]at hit;have ht:s.TypeIs (.ref t) "tuple":=⟨_,h1,rfl⟩;refine H_ (Ib hit rfl (x:= .ref t) rfl ?_);refine H_ (Ib hit rfl (x:=rawInt (j:Int)) rfl ?_)
  show H9 _ _ (if(j:Int)<0 then _ else _) _ _ s
  refine bU (by omega) ?_
  refine H_ (m:=specialOf _ _) (Ix ht Jo.lookup ?_);show H9 _ _ (mkInt j>>=_) _ _ s;refine H_ (wpAny_mkInt ?_);have hlt:j<l.length:=(Gy.mp hx).1
  have hsi:seqIndex? (j:Int) vs.toArray.size=some j:=by
   have:j<vs.length:=by rw[←rs.length];exact hlt
   have h0: ¬((j:Int)<0):=by omega
   unfold seqIndex?;simp only[h0,if_false,GR]
   refine dJ (by simp;assumption) ?_
   simp
  refine H_ (wpAny_attempt (getItem_tuple (s:={s with toks:=s.toks+1}) (cJ h1) (j:=j) (jm ac) (jlt ‹_› ‹_› (by exact ac)) hsi (x:=v) (by simpa using ev) ?_))
  show H9 _ _ (field (.ref a) 1>>=_) _ _ _;refine H_ (Ib hit rfl (x:=rawInt (j:Int)) rfl ?_);show H9 _ _ (setField (.ref a) 1 (rawInt ((j:Int)-1))>>=_) _ _ _
  refine H_ (Iq hit (by exact Hx _) fun Kc h2 KQ=>H' ⟨v,rfl,v,rfl,?_⟩)
  have S:=ad.same (c:=c) (t:=s.toks+1) ok st g p KQ
  exact⟨S,ad.R (by simpa using p) S rv,.revt h2 (ad.R (by simpa using p) S (.tup h1 f1 rs)) p⟩
end
section
theorem af.itrs{t:List It}{as:List Addr}(st:aO c ρ σ s.heap)(x:af c ρ s J3 J1 s')(i:bC s.heap ρ t I as):bC s'.heap J3 t I as:=ad.itrs st (by exact GH _) (by simp) x i
variable (c)in
noncomputable def dz(t:It):Prop:= ∀(A:Around) (s:Shared) (ρ:Pl) (σ:Sg) (I:List Addr) (a:Addr) (r:Option (V×It)),A.handled=none→aO c ρ σ s.heap→Gd c s.heap→bB s.heap ρ t I a→aw σ t=some r→
 d6 c A a s (fun v s'=> ∃x t',r=some (x,t')∧ad c I ρ s ρ σ s'∧R s'.heap ρ x v∧bB s'.heap ρ t' I a) (fun s'=>r=none∧ad c I ρ s ρ σ s')
theorem bC.snoc{I1:List Addr}{a1:Addr}(i:bB h ρ t I1 a1){as:List Addr}(r:bC h ρ ts I as):(∀x∈I,x∉I1)→bC h ρ (ts++[t]) (I++I1) (as++[a1]):=
 bC.ind (Q:=fun ts I as=>(∀x∈I,x∉I1)→bC h ρ (ts++[t]) (I++I1) (as++[a1])) (fun u_=>by have:=bC.cons i .nil fun u_ u_=>GD;rw[Gz]at this;exact this)
  (fun j u_ ih d n=>Gx .. ▸ .cons j (ih fun x m=>n x (GS _ m)) fun x m q=>(Gl.mp q).elim (d x m) (n x (GJ _ m))) r
theorem bC.len{as:List Addr}(r:bC h ρ ts I as):ts.length=as.length:=bC.ind (Q:=fun ts u_ as=>ts.length=as.length) rfl (fun u_ u_ ih u_=>congrArg (· +1) ih) r
theorem ad.wider{D:List Addr}(x:ad c D ρ s J3 J1 s')(k: ∀a∈D,a∈D'):ad c D' ρ s J3 J1 s':=
 {x with ext:=x.ext.mono fun a m=>by rcases Gl.mp m with q|q;exact Gl.mpr (.inl (k a q));exact Gl.mpr (.inr q)}
theorem ad.same_at{D:List Addr}(st:aO c ρ σ s.heap)(x:ad c D ρ s J3 J1 s'){o:Obj}(p:a∈ρ.p)(n:a∉D)(e:s.heap.get? a=some o)(f:ur o=true):s'.heap.get? a=some o:=
 x.ext.get (fun m=>(Gl.mp m).elim n (st.disj a p)) e f
set_option genInjectivity false in
structure ZL where
 tsd:List It
 tsr:List It
 Id:List Addr
 Ir:List Addr
 asd:List Addr
 asr:List Addr
 xs:List V
 vs:List Value
variable (c)in
structure ZC(ρ:Pl)(σ:Sg)(s:Shared)(D I as:List Addr)(ts:List It)(s':Shared)(L:ZL):Prop where
 step:ad c (D++I) ρ s ρ σ s'
 asL:as=L.asd++L.asr
 xl:L.xs.length=L.asd.length
 d:bC s'.heap ρ L.tsd L.Id L.asd
 r:bC s'.heap ρ L.tsr L.Ir L.asr
 IL:I=L.Id++L.Ir
 ap: ∀x∈L.Id,x∉L.Ir
 val:Rs s'.heap ρ L.xs L.vs
 sub: ∀t∈L.tsr,t∈ts
 nx:bg σ ts=(bg σ L.tsr).map (·.map fun p=>(L.xs++p.1,L.tsd++p.2))
theorem bC.inL{Ir Id:List Addr}{x:Addr}(e:I=Id++Ir)(n:x∉I):x∉Id∧x∉Ir:=by
 rw[e]at n;exact⟨fun m=>n (GJ _ m),fun m=>n (GS _ m)⟩
section
variable {D as:List Addr}{L:ZL}
theorem ZC.len(Z:ZC c ρ σ s D I as ts s' L):L.vs.length=L.asd.length:=Z.val.length▸Z.xl
theorem ZC.write{x:Addr}(Z:ZC c ρ σ s D I as ts s' L)(S:ad c [x] ρ s' ρ σ J8)(px:x∈ρ.p)(nI:x∉I)(mD:x∈D):ZC c ρ σ s D I as ts J8 L:=
 have pp: ∀a∈[x],a∈ρ.p:=dt px;have nn:=bC.inL Z.IL nI
 {Z with
  step:=Z.step.trans (S.wider (dt (GJ _ mD)))
  d:=ad.itrs Z.step.sto pp (fun y m q=>nn.1 (Gn.mp q▸m)) S Z.d
  r:=ad.itrs Z.step.sto pp (fun y m q=>nn.2 (Gn.mp q▸m)) S Z.r
  val:=ad.Rs pp S Z.val}
theorem ZC.start{x:Addr}(st:aO c ρ σ s.heap)(S:ad c [x] ρ s ρ σ s')(px:x∈ρ.p)(nI:x∉I)(mD:x∈D)(its:bC s.heap ρ ts I as):ZC c ρ σ s D I as ts s' ⟨[],ts,[],I,[],as,[],[]⟩ where
 step:=S.wider (dt (GJ _ mD))
 asL:=rfl
 xl:=rfl
 d:= .nil
 r:=ad.itrs st (dt px) (fun y m q=>nI (Gn.mp q▸m)) S its
 IL:=rfl
 ap:=fun u_ m=>nomatch m
 val:= .nil
 sub:=fun u_ m=>m
 nx:=by
  cases bg σ ts with
  |none=>rfl
  |some o=>cases o<;>rfl
theorem j9{r:Option (V×It)}(e:aw σ t=some r):bg σ (t::ts)=r.elim (some none) fun p=>(bg σ ts).map fun q=>q.map fun q=>(p.1::q.1,p.2::q.2):=by rw[iP,e];rfl
theorem ZC.stop(Z:ZC c ρ σ s D I as ts s' L){l:List It}(ht:L.tsr=t::l)(e:aw σ t=some none):bg σ ts=some none:=by rw[Z.nx,ht,j9 e];rfl
theorem ZC.more(Z:ZC c ρ σ s D I as ts s' L){l:List It}{r0:Option (List V×List It)}(ht:L.tsr=t::l)(hr:bg σ ts=some r0): ∃r,aw σ t=some r:=by
 have:=Z.nx.symm.trans hr;rw[ht]at this;exact aM this fun u_ h u_=>ae h fun r h u_=>⟨r,h⟩
theorem ZC.all(Z:ZC c ρ σ s D I as ts s' L)(ht:L.tsr=[]):bg σ ts=some (some (L.xs,L.tsd)):=by
 rw[Z.nx,ht];show some (some (L.xs++[],L.tsd++[]))=_;rw[Gz,Gz]
noncomputable def Kp(ρ:Pl)(I:List Addr)(s' J8:Shared):Prop:= ∀b o,b∈ρ.p→b∉I→s'.heap.get? b=some o→ur o=true→J8.heap.get? b=some o
set_option tactic.hygienic true in
theorem ZC.turn{a1:Addr}{asr':List Addr}{r0:Option (List V×List It)}(ih: ∀t∈ts,dz c t)(hh:A.handled=none)(Z:ZC c ρ σ s D I as ts s' L)(ha:L.asr=a1::asr')(hr:bg σ ts=some r0):
 H9 (model c.prog c.w) A (I_ (.ref a1)) (fun v J8=> ∃L',ZC c ρ σ s D I as ts J8 L'∧L'.asr=asr'∧L'.vs=L.vs++[v]∧Kp ρ I s' J8)
  (fun e J8=>m6 e J8∧r0=none∧ad c (D++I) ρ s ρ σ J8∧Kp ρ I s' J8) s':=by
 obtain⟨tsd,tsr,Id,Ir,asd,asr,xs,vs⟩:=L;subst ha;have zr:=Z.r
 cases zr with
 |cons i1 irs dj=>
 rename_i t tsr' I1 J;have inI: ∀x∈I1,x∈I:=fun x m=>Z.IL▸GS _ (GJ _ m);have kp: ∀{J8},ad c I1 ρ s' ρ σ J8→Kp ρ I s' J8:=fun S b o p n e f=>S.same_at Z.step.sto p (fun m=>n (inI b m)) e f;have st2: ∀{J8},ad c I1 ρ s' ρ σ J8→ad c (D++I) ρ s ρ σ J8:=fun S=>Z.step.trans (S.wider fun x m=>GS _ (inI x m));refine oE (Z.more rfl hr) fun r1 e1=> ?_;refine Ia (ih t (Z.sub t (.head _)) A s' ρ σ I1 a1 r1 hh Z.step.sto Z.step.gd i1 e1).nextOf (fun v J8 Kx=> ?_) fun Km J8 Kx=> ?_
 ·refine bS Kx fun x t' e2 J7 rv i2=> ?_;subst e2;have pI:=i1.priv.1;refine⟨⟨tsd++[t'],tsr',Id++I1,J,asd++[a1],asr',xs++[x],vs++[v]⟩,?_,rfl,rfl,kp J7⟩
  exact {
   step:=st2 J7
   asL:=Z.asL.trans (List.append_cons ..)
   xl:=by rw[GE,GE];exact congrArg (· +1) Z.xl
   d:=bC.snoc i2 (ad.itrs Z.step.sto pI (fun x m q=>Z.ap x m (GJ _ q)) J7 Z.d) fun x m q=>Z.ap x m (GJ _ q)
   r:=ad.itrs Z.step.sto pI (fun x m q=>dj x q m) J7 irs
   IL:=Z.IL.trans (Gx ..).symm
   ap:=fun x m q=>(Gl.mp m).elim (fun y=>Z.ap x y (GS _ q)) fun y=>dj x y q
   val:=(ad.Rs pI J7 Z.val).append (.cons rv .nil)
   sub:=fun t m=>Z.sub t (.tail _ m)
   nx:=by
    refine Z.nx.trans ?_;rw[j9 e1]
    cases bg σ tsr' with
    |none=>rfl
    |some o=>
     cases o with
     |none=>rfl
     |some p=>exact congrArg (fun q=>some (some q)) (Prod.ext (List.append_cons ..) (List.append_cons ..))}
 ·refine mF Kx fun hst e2 J7=> ?_;subst e2;exact⟨hst,H8 (hr.symm.trans (Z.stop rfl e1)),st2 J7,kp J7⟩
end
theorem Fc{r:Option (V×It)}(e:aw σ (.zip ts)=some r):ts.length≤64∧ ∃r0,bg σ ts=some r0∧(r0=none→r=none)∧ ∀xs ts',r0=some (xs,ts')→xs≠[]∧r=some (.tup xs,.zip ts'):=by
 refine oA (iq e) fun h e=>ae e fun r0 h0 e=>⟨h,r0,h0,fun z=> ?_,fun xs ts' z=> ?_⟩
 ·subst z;exact(H8 e).symm
 ·subst z;refine oA (rO e) fun hne w=>⟨fun q=>hne (q▸rfl),(H8 w).symm⟩
theorem kj{Q:Option Obj→Shared→Prop}(h:Q (s.heap.get? a) s):H9 (model c.prog c.w) A (loadIfAlive a) Q E s:=fun u_ u_ u_=>h
theorem uS{vs ws:List α}{v:α}(h:ws.take k=vs)(hk:k<ws.length):(ws.set k v).take (k+1)=vs++[v]:=by
 rw[Hs (by rw[G2];exact hk),List.take_set_of_le (Hv _),h]
 simp
structure ZO(as:List Addr)(a TI TO:Addr)(f0 f1:Value)(m m':Nat)(ws:List Value)(s':Shared):Prop where
 z:s'.heap.get? a=some (jK f0 f1 TI TO)
 TI:s'.heap.get? TI=some (am (as.map .ref) m)
 TO:s'.heap.get? TO=some (am ws m')
theorem ZO.keep{as:List Addr}{TI TO:Addr}{m m':Nat}(O:ZO as a TI TO f0 f1 m m' ws s')(p1:a∈ρ.p)(p2:TI∈ρ.p)(p3:TO∈ρ.p)(n4:a∉I)(n5:TI∉I)(n6:TO∉I)(k:Kp ρ I s' J8):ZO as a TI TO f0 f1 m m' ws J8:=
 ⟨k _ _ p1 n4 O.z rfl,k _ _ p2 n5 O.TI rfl,k _ _ p3 n6 O.TO rfl⟩
theorem ad.kp{x:Addr}(st:aO c ρ σ s'.heap)(S:ad c [x] ρ s' ρ σ J8){b:Addr}{o:Obj}(p:b∈ρ.p)(n:b≠x)(e:s'.heap.get? b=some o)(f:ur o=true):J8.heap.get? b=some o:=S.same_at st p (fun m=>n (Gn.mp m)) e f
theorem ZC.fin{D as:List Addr}{L:ZL}{r0:Option (List V×List It)}(Z:ZC c ρ σ s D I as ts s' L)(ha:L.asr=[])(hr:bg σ ts=some r0)(k:r0=some (L.xs,L.tsd)→I=L.Id→as=L.asd→G):G:=by
 obtain⟨tsd,tsr,Id,Ir,asd,asr,xs,vs⟩:=L;subst ha;have zr:=Z.r
 cases zr with
 |nil=>exact k (H8 (hr.symm.trans (Z.all rfl))) (Z.IL.trans (Gz _)) (Z.asL.trans (Gz _))
noncomputable abbrev nE(cls f0 f1:Value)(vs:List Value):Obj:={cls:=cls,dict:=none,data:= .fields (f0::f1::vs).toArray,slots:= #[]}
theorem py{T:Addr}{cls:Value}{Q:Bool→Shared→Prop}(ho:s.heap.get? a=some (nE cls (rawInt (T:Nat)) f1 vs))(hT:s.heap.get? T=some (am ws n))
 (hQ: ∀Kc g1,Kc.get? a=some (nE cls (rawInt (T:Nat)) g1 vs)→JK a s.heap Kc→Q false {s with heap:=Kc}):H9 (model c.prog c.w) A (I9 (.ref a)) Q E s:=by
 unfold I9;refine H_ (Ib ho rfl (x:=rawInt (T:Nat)) rfl ?_);refine(?_:H9 _ _ (loadIfAlive ((T:Nat):Int).toNat>>=_) _ _ s);refine H_ (kj ?_);rw[F8,hT];refine bU FT ?_;refine H_ (Ib ho rfl (x:=f1) rfl ?_)
 by_cases q:(f1 != .bool true)=true
 ·refine c_ q ?_;exact H_ (Iq ho (Nat.succ_lt_succ (Hw _)) fun Kc K4 KQ=>H' (hQ Kc _ K4 KQ))
 ·refine bU q ?_
  first
   |exact H' (hQ s.heap f1 ho (JK.refl ..))
   |exact H_ (H' (H' (hQ s.heap f1 ho (JK.refl ..))))
theorem qc{b:Addr}{cls:Value}{Q:Unit→Shared→Prop}(ho:s.heap.get? a=some (nE cls f0 f1 vs))
 (hQ: ∀Kc,Kc.get? a=some (nE cls (rawInt (b:Nat)) (.bool false) vs)→JK a s.heap Kc→Q () {s with heap:=Kc}):H9 (model c.prog c.w) A (Ja (.ref a) (.ref b)) Q E s:=by
 unfold Ja;exact H_ (Iq ho (Hw _) fun Kc g₁ J5=>Iq g₁ (Nat.succ_lt_succ (Hw _)) fun Kx g₂ J8=>hQ Kx g₂ (J5.trans J8))
set_option tactic.hygienic true in
theorem AY(ok:c.Ok)(ts:List It)(ih: ∀t∈ts,dz c t):dz c (.zip ts):=by
 intro A s ρ σ I' a r hh st g i e
 cases i with
 |zip hz H hTI hTO hl its p1 p2 p3 n1 n2 n3 n4 n5 n6=>
 rename_i I as TI TO f0 f1 ws m m';refine oA (Fc e) fun hz3 he=>cz he fun r0 hr rn rs=> ?_;have hT:s.TypeIs (.ref a) "zip":=⟨_,hz,rfl⟩
 change let Q0:=_;H9 _ _ _ Q0 _ _;intros
 refine Im (name:=JW "__next__") hT Jy (Ij Jy hT PySem.F.entry_zip_next ?_ (PySem.F.args_zip_next_1 _));refine(?_:H9 _ _ (field (.ref a) 2>>=_) _ _ _)
 change let K0:=_;let Q0:=_;let E0:=_;H9 _ _ (_>>=K0) Q0 E0 _;intros
 refine H_ (Ib hz rfl (x:= .bool false) rfl ?_);refine(?_:H9 _ _ (field (.ref a) 3>>=_) _ _ _)
 change let K0:=_;let Q0:=_;let E0:=_;H9 _ _ (_>>=K0) Q0 E0 _;intros
 refine H_ (Ib hz rfl (x:= .ref TI) rfl ?_)
 change let Q0:=_;H9 _ _ _ Q0 _ _;intros
 refine H_ (Iu hTI rfl ?_)
 have hemp:((as.map JX).toArray).isEmpty=false:=by
  cases as with
  |cons b bs=>rfl
  |nil=>
   cases its
   exact absurd rfl (rs [] [] (H8 hr).symm).1
 have hz2:as.length≤64:=its.len▸hz3;have m1:a∈[a,TI,TO]:= .head _;have m3:TO∈[a,TI,TO]:= .tail _ (.tail _ (.head _));refine bU (hemp▸FT) ?_;show H9 _ _ (I9 (.ref a)>>=_) _ _ _
 rcases H with rfl|⟨T,vs,n,rfl,hT',fT⟩
 ·change let Q0:=_;H9 _ _ _ Q0 _ _;intros
  refine H_ ?_;unfold I9
  change let E0:=_;H9 _ _ _ _ E0 _;intros
  refine H_ (Ib hz rfl (x:= .none) rfl (H' ?_));simp only[if_true]
  change let K0:=_;let Q0:=_;let E0:=_;H9 _ _ (_>>=K0) Q0 E0 _;intros
  refine H_ (Ie ?_)
  change let K0:=_;let Q0:=_;let E0:=_;H9 _ _ (_>>=K0) Q0 E0 _;intros
  refine H_ (Ib hz rfl (x:= .ref TO) rfl ?_)
  change let K0:=_;let Q0:=_;let E0:=_;H9 _ _ (_>>=K0) Q0 E0 _;intros
  refine H_ (Iq hz (Hw _) fun Kc K4 KQ=> ?_);replace K4:Kc.get? a=some (jK .ellipsis f1 TI TO):=K4
  have J4:ad c [a] ρ s ρ σ {s with heap:=Kc}:=ad.same (t:=s.toks) ok st g p1 KQ
  change let K0:=_;let Q0:=_;let E0:=_;H9 _ _ (_>>=K0) Q0 E0 _;intros
  refine H_ ?_
  change let Q0:=_;H9 _ _ _ Q0 _ _;intros
  change let B0:=_;H9 _ _ (forIn _ _ B0) _ _ _;intro B0
  refine IP _ (fun rest b s'=>b=(none,())∧ ∃L ws',rest=(L.asr.map JX).zipIdx L.vs.length∧ZC c ρ σ s [a,TI,TO] I as ts s' L∧ZO as a TI TO .ellipsis f1 m m' ws' s'∧ws'.length=as.length∧ws'.take L.vs.length=L.vs) _ ?_ ?_ _ _
   ⟨rfl,⟨[],ts,[],I,[],as,[],[]⟩,ws,rfl,ZC.start st J4 p1 n4 m1 its,⟨K4,J4.kp st p2 n1.symm hTI rfl,J4.kp st p3 n2.symm hTO rfl⟩,hl.trans its.len,rfl⟩
  ·rintro p0 rest b s' ⟨rfl,L,ws',hrest,Z,O,hw,ht⟩
   cases ha:L.asr with
   |nil=>rw[ha]at hrest;exact nc hrest
   |cons a1 asr'=>
   rw[ha]at hrest;obtain⟨rfl,rfl⟩:=List.cons.inj hrest
   have hk:L.vs.length<ws'.length:=by rw[hw,Z.len,Z.asL,ha,GE];exact HY (Hw _)
   change let K0:=_;let Q0:=_;let E0:=_;H9 _ _ (_>>=K0) Q0 E0 _;intros
   refine H_ (wpAny_onRaise ?_);refine(?_:H9 _ _ (I_ (.ref a1)>>=_) _ _ _)
   change let K0:=_;let Q0:=_;let E0:=_;H9 _ _ (_>>=K0) Q0 E0 _;intros
   refine H_ (Ia (Z.turn (A:=A.in1) ih hh ha hr) (fun v J8 Kx=> ?_) fun Km J8 Kx=> ?_)
   ·refine mQ Kx fun L' Z' h1 h2 k=> ?_;have O2:=O.keep p1 p2 p3 n4 n5 n6 k
    have sz:ws'.length≤sizeLine:=hw▸Hu hz2 (by decide)
    change let Q0:=_;H9 _ _ _ Q0 _ _;intros
    refine H' ?_
    change let K0:=_;let Q0:=_;let E0:=_;H9 _ _ (_>>=K0) Q0 E0 _;intros
    refine H_ (Iu O2.TO rfl ?_)
    change let K0:=_;let Q0:=_;let E0:=_;H9 _ _ (_>>=K0) Q0 E0 _;intros
    refine H_ (Iy O2.TO rfl ?_ (by assumption) (by simpa using HG sz))
    change let K0:=_;let Q0:=_;let E0:=_;H9 _ _ (_>>=K0) Q0 E0 _;intros
    refine H_ (Iz (H' ⟨rfl,?_⟩))
    have Kg:ad c [TO] ρ J8 ρ σ {J8 with heap:=J8.heap.update TO (JR (·.setIfInBounds L.vs.length v))}:=ad.same (t:=J8.toks) ok Z'.step.sto Z'.step.gd p3 (JN ..)
    refine⟨L',ws'.set L.vs.length v,by rw[h1,h2,GE];rfl,Z'.write Kg p3 n6 m3,⟨Kg.kp Z'.step.sto p1 n2 O2.z rfl,Kg.kp Z'.step.sto p2 n3 O2.TI rfl,?_⟩,G2.trans hw,by rw[h2,GE];exact uS ht hk⟩
    refine(JJ _ O2.TO rfl).trans ?_;simp[JR,am]
   ·refine td Kx fun hst e0 J7 k=> ?_;have zz:=(O.keep p1 p2 p3 n4 n5 n6 k).z;refine Iq zz (Hw _) fun K' hz₃ Ls=> ?_
    have Kg:ad c [a] ρ J8 ρ σ {J8 with heap:=K'}:=ad.same (t:=J8.toks) ok J7.sto J7.gd p1 Ls
    refine dy hst fun b o e1 hb hcb=> ?_;refine⟨⟨b,o,e1,(Ls.2 b fun q=> ?_).trans hb,hcb⟩,rn e0,J7.trans (Kg.wider (dt (.head _)))⟩;rw[q,zz]at hb;obtain rfl:=H8 hb
    exact absurd hcb (by simp)
  ·rintro b s' ⟨rfl,L,ws',hrest,Z,O,hw,ht⟩
   cases ha:L.asr with
   |cons a1 asr'=>rw[ha]at hrest;exact B4 hrest
   |nil=>
   refine Z.fin ha hr fun e0 eI ea=> ?_
   have hv:ws'=L.vs:=by rw[←ht,Z.len,←ea,←hw,List.take_length]
   subst hv;have er:=(rs _ _ e0).2;refine(?_:H9 _ _ (seqItems? (.ref TO)>>=_) _ _ _)
   change let K0:=_;let Q0:=_;let E0:=_;H9 _ _ (_>>=K0) Q0 E0 _;intros
   refine H_ (Iu O.TO rfl ?_)
   change let K0:=_;let Q0:=_;let E0:=_;H9 _ _ (_>>=K0) Q0 E0 _;intros
   refine H_ (IM ?_ (by simpa [hw]using Hu hz2 (by decide)))
   have J4:af c ρ s' ρ σ {s' with heap:=s'.heap.push (am L.vs 0)}:=af.push (t:=s'.toks) ok Z.step.sto Z.step.gd
   have rt:R (s'.heap.push (am L.vs 0)) ρ (.tup L.xs) (.ref s'.heap.objs.size):= .tup (JF _ rfl) (Z.step.sto.new (Hv _)) (J4.Rs Z.val);have zz:(s'.heap.push (am L.vs 0)).get? a=some (jK .ellipsis f1 TI TO):=JG _ O.z;refine(?_:H9 _ _ (Ja (.ref a) (.ref s'.heap.objs.size)>>=_) _ _ _)
   change let K0:=_;let Q0:=_;let E0:=_;H9 _ _ (_>>=K0) Q0 E0 _;intros
   refine H_ (qc zz fun Lw hz₅ hs₅=> ?_)
   have J7:ad c [a] ρ {s' with heap:=s'.heap.push (am L.vs 0)} ρ σ {s' with heap:=Lw}:=ad.same (t:=s'.toks) ok J4.sto J4.gd p1 hs₅
   have Kg:ad c [a] ρ s' ρ σ {s' with heap:=Lw}:=(af.D J4).trans J7
   have Z3:=Z.write Kg p1 n4 m1;have LO:=ad.R (dt p1) J7 rt
   change let Q0:=_;H9 _ _ _ Q0 _ _;intros
   refine H' ⟨_,rfl,_,rfl,.tup L.xs,.zip L.tsd,er,Z3.step,LO,?_⟩
   cases LO using R.tupE with
   |tup g1 f1' _=>
   have d3:bC Lw ρ L.tsd I as:=by rw[eI,ea];exact Z3.d
   exact .zip hz₅ (.inr ⟨_,_,_,rfl,g1,f1'⟩) (Kg.kp Z.step.sto p2 n1.symm O.TI rfl) (Kg.kp Z.step.sto p3 n2.symm O.TO rfl) (Z.len.trans Z.d.len.symm) d3 p1 p2 p3 n1 n2 n3 n4 n5 n6
 ·change let Q0:=_;H9 _ _ _ Q0 _ _;intros
  refine H_ (py hz hT' fun Kc g1 K4 KQ=> ?_)
  have J4:ad c [a] ρ s ρ σ {s with heap:=Kc}:=ad.same (t:=s.toks) ok st g p1 KQ
  simp only[FV,if_false]
  change let K0:=_;let Q0:=_;let E0:=_;H9 _ _ (_>>=K0) Q0 E0 _;intros
  refine H_ ?_;rw[←Array.forIn_toList]
  change let Q0:=_;H9 _ _ _ Q0 _ _;intros
  change let B0:=_;H9 _ _ (forIn _ _ B0) _ _ _;intro B0
  refine IP _ (fun rest b s'=> ∃L,b=(none,L.vs.toArray)∧rest=L.asr.map JX∧ZC c ρ σ s [a,TI,TO] I as ts s' L∧ZO as a TI TO (rawInt (T:Nat)) g1 m m' ws s') _ ?_ ?_ _ _
   ⟨⟨[],ts,[],I,[],as,[],[]⟩,rfl,rfl,ZC.start st J4 p1 n4 m1 its,K4,J4.kp st p2 n1.symm hTI rfl,J4.kp st p3 n2.symm hTO rfl⟩
  ·rintro v0 rest b s' ⟨L,rfl,hrest,Z,O⟩
   cases ha:L.asr with
   |nil=>rw[ha]at hrest;exact nc hrest
   |cons a1 asr'=>
   rw[ha]at hrest;obtain⟨rfl,rfl⟩:=List.cons.inj hrest
   change let K0:=_;let Q0:=_;let E0:=_;H9 _ _ (_>>=K0) Q0 E0 _;intros
   refine H_ (Ic ?_);refine(?_:H9 _ _ (I_ (.ref a1)>>=_) _ _ _)
   change let K0:=_;let Q0:=_;let E0:=_;H9 _ _ (_>>=K0) Q0 E0 _;intros
   refine H_ (Ia (Z.turn (A:=A.in1) ih hh ha hr) (fun v J8 Kx=> ?_) fun Km J8 Kx=> ?_)
   ·refine mQ Kx fun L' Z' h1 h2 k=> ?_
    change let Q0:=_;H9 _ _ _ Q0 _ _;intros
    exact H' (H' ⟨L',by rw[h2];simp,congrArg (·.map JX) h1.symm,Z',O.keep p1 p2 p3 n4 n5 n6 k⟩)
   ·exact td Kx fun hst e0 J7 k=>⟨hst,rn e0,J7⟩
  ·rintro b s' ⟨L,rfl,hrest,Z,O⟩
   cases ha:L.asr with
   |cons a1 asr'=>rw[ha]at hrest;exact B4 hrest
   |nil=>
   refine Z.fin ha hr fun e0 eI ea=> ?_;have er:=(rs _ _ e0).2;have hxl:L.vs.length=as.length:=ea▸Z.len;refine(?_:H9 _ _ (newTuple L.vs>>=_) _ _ _)
   change let K0:=_;let Q0:=_;let E0:=_;H9 _ _ (_>>=K0) Q0 E0 _;intros
   refine H_ (IM ?_ (by simpa [hxl]using Hu hz2 (by decide)))
   have J4:af c ρ s' ρ σ {s' with heap:=s'.heap.push (am L.vs 0)}:=af.push (t:=s'.toks) ok Z.step.sto Z.step.gd
   have rt:R (s'.heap.push (am L.vs 0)) ρ (.tup L.xs) (.ref s'.heap.objs.size):= .tup (JF _ rfl) (Z.step.sto.new (Hv _)) (J4.Rs Z.val)
   change let Q0:=_;H9 _ _ _ Q0 _ _;intros
   refine H' ⟨_,rfl,_,rfl,.tup L.xs,.zip L.tsd,er,Z.step.trans (af.D J4),rt,?_⟩
   have d3:bC (s'.heap.push (am L.vs 0)) ρ L.tsd I as:=by rw[eI,ea];exact af.itrs Z.step.sto J4 Z.d
   have hps: ∀x∈a::TI::TO::I,x∈ρ.p:=aW p1 (aW p2 (aW p3 its.priv));refine .zip (JG _ O.z) (.inr ⟨T,vs,n,rfl,?_,fT⟩) (JG _ O.TI) (JG _ O.TO) ((hl.trans its.len).trans ((congrArg List.length ea).trans Z.d.len.symm)) d3 p1 p2 p3 n1 n2 n3 n4 n5 n6;exact(Z.step.trans (af.D J4)).ext.get (fun q=>(Gl.mp q).elim (fun q=>fT.2 (hps T q)) fT.1) hT' rfl
end
section
set_option tactic.hygienic true in
theorem ze(ok:c.Ok)(t:It)(ih:dz c t)(n:Int):dz c (.enum t n):=by
 intro A s ρ σ I' a r hh st g i e
 cases i with
 |enum he H it p ni=>
 rename_i I it0 f0 f1 old;have hT:s.TypeIs (.ref a) "enumerate":=⟨_,he,rfl⟩;refine aM e fun r1 e1 er=> ?_
 change let Q0:=_;H9 _ _ _ Q0 _ _;intros
 change let E0:=_;H9 _ _ _ _ E0 _;intros
 refine Im (name:=JW "__next__") hT Jz (Ij Jz hT PySem.F.entry_enumerate_next ?_ (PySem.F.args_enumerate_next_1 _));refine(?_:H9 _ _ (field (.ref a) 2>>=_) _ _ _)
 change let K0:=_;let Q0:=_;H9 _ _ (_>>=K0) Q0 _ _;intros
 refine H_ (Ib he rfl (x:= .ref it0) rfl ?_);have N:=ih A.in1 s ρ σ I it0 r1 hh st g it e1
 change let K0:=_;let Q0:=_;H9 _ _ (_>>=K0) Q0 _ _;intros
 refine H_ (Ia N.nextOf (fun v J8 Kx=> ?_) fun Km J8 Kx=> ?_)
 ·refine bS Kx fun x t' zz2 J7 rv i2=> ?_;subst zz2;replace er:some (.tup [.int n,x],.enum t' (n+1))=r:=er;subst er;have h2:=J7.same_at st p ni he rfl;have H2:dh J8.heap ρ f0:=H.mono (ad.off it.priv.1) J7.ext J7.le;refine(?_:H9 _ _ (field (.ref a) 3>>=_) _ _ _)
  change let K0:=_;let Q0:=_;H9 _ _ (_>>=K0) Q0 _ _;intros
  refine H_ (Ib h2 rfl (x:=rawInt n) rfl ?_);refine(?_:H9 _ _ (field (.ref a) 4>>=_) _ _ _)
  change let K0:=_;let Q0:=_;H9 _ _ (_>>=K0) Q0 _ _;intros
  refine H_ (Ib h2 rfl (x:= .none) rfl ?_);refine(?_:H9 _ _ (mkInt n>>=_) _ _ _)
  change let K0:=_;let Q0:=_;H9 _ _ (_>>=K0) Q0 _ _;intros
  refine H_ (wpAny_mkInt ?_)
  refine(?_:H9 _ _ (setField (.ref a) 3 (rawInt (n+1))>>=_) _ _ {J8 with toks:=J8.toks+1})
  change let K0:=_;let Q0:=_;H9 _ _ (_>>=K0) Q0 _ _;intros
  refine H_ (Iq h2 (by exact HE ac) fun K' h3 Ls=> ?_)
  replace h3:K'.get? a=some (dH f0 f1 it0 (n+1) old):=h3
  refine(?_:H9 _ _ (setField (.ref a) 4 .none>>=_) _ _ {J8 with heap:=K',toks:=J8.toks+1})
  change let K0:=_;let Q0:=_;H9 _ _ (_>>=K0) Q0 _ _;intros
  refine H_ (Iq h3 (by exact Hz _) fun KL h4 hs₄=> ?_)
  replace h4:KL.get? a=some (dH f0 f1 it0 (n+1) old):=h4;have hs:JK a J8.heap KL:=Ls.trans hs₄
  have Kg:ad c [a] ρ J8 ρ σ {J8 with heap:=KL,toks:=J8.toks+1}:=ad.same (t:=J8.toks+1) ok J7.sto J7.gd p hs
  refine(?_:H9 _ _ (newTuple [.int n J8.toks,v]>>=_) _ _ {J8 with heap:=KL,toks:=J8.toks+1})
  change let K0:=_;let Q0:=_;H9 _ _ (_>>=K0) Q0 _ _;intros
  refine H_ (IM ?_)
  have Kr:af c ρ {J8 with heap:=KL,toks:=J8.toks+1} ρ σ {J8 with heap:=KL.push (am [.int n J8.toks,v] 0),toks:=J8.toks+1}:=af.push (t:=J8.toks+1) ok Kg.sto Kg.gd
  have rt:R (KL.push (am [.int n J8.toks,v] 0)) ρ (.tup [.int n,x]) (.ref KL.objs.size):=
   .tup (JF _ rfl) (Kg.sto.new (Hv _)) (.cons .int (.cons (Kr.R (ad.R (dt p) Kg rv)) .nil))
  have h5:(KL.push (am [.int n J8.toks,v] 0)).get? a=some (dH f0 f1 it0 (n+1) old):=JG _ h4;have KE:=Kg.trans (af.D Kr);have H5:dh (KL.push (am [.int n J8.toks,v] 0)) ρ f0:=H2.mono (ad.off (D:=[a]) (dt p)) KE.ext KE.le
  have i5:=ad.itr J7.sto (dt p) (fun y m q=>ni (by rw[Gn.mp q]at m;exact m)) KE i2
  have fin: ∀h' f0' f1' old',h'.get? a=some (dH f0' f1' it0 (n+1) old')→JK a (KL.push (am [.int n J8.toks,v] 0)) h'→(f0'=f0∨f0'=rawInt (KL.objs.size:Nat))→
   ∃x_1 t'_1,some (V.tup [V.int n,x],It.enum t' (n+1))=some (x_1,t'_1)∧ad c (a::I) ρ s ρ σ {J8 with heap:=h',toks:=J8.toks+1}∧R h' ρ x_1 (.ref KL.objs.size)∧bB h' ρ t'_1 (a::I) a:=by
   intro h' f0' f1' old' hg hsb hf
   have K5:ad c [a] ρ {J8 with heap:=KL.push (am [.int n J8.toks,v] 0),toks:=J8.toks+1} ρ σ {J8 with heap:=h',toks:=J8.toks+1}:=ad.same (t:=J8.toks+1) ok KE.sto KE.gd p hsb
   have rt6:=ad.R (dt p) K5 rt
   have H6:dh h' ρ f0':=by
    rcases hf with rfl|rfl
    ·exact H5.mono (ad.off (D:=[a]) (dt p)) K5.ext K5.le
    ·cases rt6 using R.tupE with
     |tup g1 f1 _=>exact .inr ⟨_,_,_,rfl,g1,f1⟩
   exact⟨_,_,rfl,(J7.wider fun y m=>by exact Hi _ (by assumption)).trans ((KE.trans K5).wider (fun _ m=>GJ _ m)),rt6,
    .enum hg H6 (ad.itr KE.sto (dt p) (fun y m q=>ni (by rw[Gn.mp q]at m;exact m)) K5 i5) p ni⟩
  refine(?_:H9 _ _ (I9 (.ref a)>>=_) _ _ _)
  rcases H5 with hf|⟨T,vs,m,hf,hT',fT⟩
  ·change let K0:=_;let Q0:=_;H9 _ _ (_>>=K0) Q0 _ _;intros
   refine H_ ?_;unfold I9;replace h5:(KL.push (am [.int n J8.toks,v] 0)).get? a=some (dH .none f1 it0 (n+1) old):=hf▸h5;refine H_ (Ib h5 rfl (x:= .none) rfl (H' ?_));simp only[if_true]
   change let K0:=_;let Q0:=_;H9 _ _ (_>>=K0) Q0 _ _;intros
   refine H_ (Ie ?_)
   change let K0:=_;let Q0:=_;H9 _ _ (_>>=K0) Q0 _ _;intros
   refine H_ (Ib h5 rfl (x:=old) rfl ?_)
   change let K0:=_;let Q0:=_;H9 _ _ (_>>=K0) Q0 _ _;intros
   refine H_ (Iq h5 (Hv _) fun h₆ h6 hs₆=> ?_);replace h6:h₆.get? a=some (dH .none f1 it0 (n+1) v):=h6;refine(?_:H9 _ _ (Ja (.ref a) (.ref KL.objs.size)>>=_) _ _ _)
   change let K0:=_;let Q0:=_;H9 _ _ (_>>=K0) Q0 _ _;intros
   refine H_ (qc h6 fun h₈ h8 hs₈=> ?_)
   change let K0:=_;let Q0:=_;H9 _ _ (_>>=K0) Q0 _ _;intros
   refine H_ (Iz (H' ⟨_,rfl,_,rfl,fin h₈ _ _ _ h8 (hs₆.trans hs₈) (.inr rfl)⟩))
  ·replace h5:(KL.push (am [.int n J8.toks,v] 0)).get? a=some (dH (rawInt (T:Nat)) f1 it0 (n+1) old):=hf▸h5
   change let Q0:=_;H9 _ _ _ Q0 _ _;intros
   refine H_ (py h5 hT' fun Kc g1 K4 KQ=> ?_);simp only[FV,if_false]
   first
    |exact H' ⟨_,rfl,_,rfl,fin Kc _ _ _ K4 KQ (.inl hf.symm)⟩
    |exact H_ (H' (H' ⟨_,rfl,_,rfl,fin Kc _ _ _ K4 KQ (.inl hf.symm)⟩))
 ·refine mF Kx fun hst zz1 J7=> ?_;subst zz1;exact⟨hst,er.symm,J7.wider fun y m=> .tail _ m⟩
theorem wI(ok:c.Ok)(l:List V)(k:Nat):dz c (.seq l k):=by
 intro A s ρ σ I a r hh st g i e
 cases i with
 |seq h1 r1 p=>
 obtain rfl:=H8 e;exact(wX hh ok st g h1 r1 p).mono (fun v s' h=>mQ h fun x hx S rv it=>⟨x,_,congrArg (xj · _) hx,S,rv,it⟩) fun s' h=>⟨congrArg (xj · _) h.1,h.2⟩
theorem uy(ok:c.Ok)(k j:Nat):dz c (.lst k j):=by
 intro A s ρ σ I a r hh st g i e
 cases i with
 |lst h1 r1 p=>
 refine aM e fun l hl e=> ?_;subst e;exact(ww hh ok st g h1 r1 (bD hl) p).mono (fun v s' h=>mQ h fun x hx S rv it=>⟨x,_,congrArg (xj · _) hx,S,rv,it⟩) fun s' h=>⟨congrArg (xj · _) h.1,h.2⟩
theorem vE(ok:c.Ok)(x left step:Int):dz c (.rng x left step):=by
 intro A s ρ σ I a r hh st g i e
 cases i with
 |rng h1 p=>
 obtain rfl:=H8 e;exact(wN hh ok st g h1 p).mono (fun v s' h=>td h fun hx S rv it=>⟨_,_,if_pos hx,S,rv,it⟩) fun s' h=>⟨if_neg h.1,h.2⟩
theorem uj(ok:c.Ok)(k j:Nat):dz c (.revl k j):=by
 intro A s ρ σ I a r hh st g i e
 cases i with
 |revl h1 r1 p=>
 cases j with
 |zero=>
  obtain rfl:=H8 e;exact((mM (l:=[]) hh ok st g h1 r1 p).1 rfl).mono (fun v s' h=>h.elim) fun s' S=>⟨rfl,S⟩
 |succ j=>
  refine ae e fun l hl e=>aM e fun x hx e=> ?_;subst e;exact((mM hh ok st g h1 r1 p).2 j x rfl (bD hl) hx).mono (fun v s' h=>⟨x,_,rfl,h⟩) fun s' h=>h.elim
theorem sO(ok:c.Ok)(l:List V)(j:Nat):dz c (.revt l j):=by
 intro A s ρ σ I a r hh st g i e
 cases i with
 |revt h1 r1 p=>
 cases j with
 |zero=>
  obtain rfl:=H8 e;exact((mT hh ok st g h1 r1 p).1 rfl).mono (fun v s' h=>h.elim) fun s' S=>⟨rfl,S⟩
 |succ j=>
  refine ae e fun x hx e=>bH e fun hz e=> ?_;obtain rfl:=H8 e;exact((mT hh ok st g h1 r1 p).2 j x rfl hx hz).mono (fun v s' h=>⟨x,_,rfl,h⟩) fun s' h=>h.elim
theorem It.next(ok:c.Ok)(t:It):dz c t:=
 It.rec (motive_1:=fun t=>dz c t) (motive_2:=fun ts=> ∀t∈ts,dz c t) (wI ok) (uy ok) (vE ok) (uj ok) (sO ok) (fun ts ih=>AY ok ts ih) (fun t n ih=>ze ok t ih n) fH (fun t ts h k=>aW h k) t
theorem It.pull{Q:Option Value→Shared→Prop}(hh:A.handled=none)(ok:c.Ok)(st:aO c ρ σ s.heap)(g:Gd c s.heap)(i:bB s.heap ρ t I a)(hn:aw σ t=some (some (x,t')))
 (h: ∀w J5,ad c I ρ s ρ σ J5→R J5.heap ρ x w→bB J5.heap ρ t' I a→Q (some w) J5):H9 (model c.prog c.w) A (pyNext (.ref a)) Q E s:=by
 refine Ia (It.next ok t A s ρ σ I a _ hh st g i hn).pyNext (fun r J5 Kc=> ?_) fun u_ u_ z=>z
 cases r with
 |none=>exact Cm Kc.1
 |some w=>refine bS Kc fun x' t'' q S rv i'=> ?_;obtain⟨rfl,rfl⟩:=Prod.mk.inj (H8 q);exact h w J5 S rv i'
theorem It.pull0{Q:Option Value→Shared→Prop}(hh:A.handled=none)(ok:c.Ok)(st:aO c ρ σ s.heap)(g:Gd c s.heap)(i:bB s.heap ρ t I a)(hn:aw σ t=some none)
 (h: ∀J5,ad c I ρ s ρ σ J5→Q none J5):H9 (model c.prog c.w) A (pyNext (.ref a)) Q E s:=by
 refine Ia (It.next ok t A s ρ σ I a _ hh st g i hn).pyNext (fun r J5 Kc=> ?_) fun u_ u_ z=>z
 cases r with
 |some w=>refine bc Kc fun x' t'' q u_=> ?_;exact no q
 |none=>exact h J5 Kc.2
end
section
theorem ml{self:Value}{rest:List Value}{Q:PySem.Fin→Shared→Prop}(hl:typeLookup (.type T) "__init__"=pure (some (.builtin "object.__init__")))
 (hm:Bind.madeBy (.type T)=pure (some newId)) (hne:(some newId !=some "object.__new__")=true) (hT:s.TypeIs self T) (hq:Q (.done (.ret .none)) s):
 H9 (model c.prog c.w) A (Builtin.«object.__init__» ⟨self::rest,kw⟩) Q E s:=by
 cases rest with
 |nil=>
  cases kw with
  |nil=>exact H' hq
  |cons p kw=>
   repeat (any_goals (first|assumption|wp_step))
 |cons a rest=>
  repeat (any_goals (first|assumption|wp_step))
theorem ec{Bn:Builtin}{args:List Value}(ft:TypeCalled T newId "object.__init__")(hne:(some newId !=some "object.__new__")=true)
 (hct:checkTypeCall T ⟨args,kw⟩=pure ()) (hcn:checkBuiltinCall newId ⟨.type T::args,kw⟩=pure ()) (hok: ∀obj,argsOk "object.__init__" ⟨obj::args,kw⟩) (entryN:entryFor table newId=some Bn)
 (h:H9 (model c.prog c.w) A.in1.in1 (Bn ⟨.type T::args,kw⟩) (fun fin s'=> ∃v,fin= .done (.ret v)∧s'.TypeIs v T∧Q v s') E s):
 H9 (model c.prog c.w) A (call (.type T) args kw) Q E s:=by
 obtain⟨cc,tl,hmro⟩:=ft.mro;have hmade:=ft.made;have hsub:=ft.sub;refine ID (IQ ?_);show H9 _ _ (callAny (.type T) _) _ _ _
 refine H' ⟨Jj _ (by decide+kernel),Ii PySem.F.entry_type_call ?_⟩
 rw[Around.under_plain (weight_type_call_type T args kw) rfl];have h1:=ft.notType;have h2:=ft.canCreate
 repeat (any_goals (first|assumption|wp_step))
 refine IA (R:=wants (fun obj J5=>J5.TypeIs obj T∧Q obj J5) E) (IT ft.plain entryN (Ih hcn (Ia h (fun fin s' h'=>by obtain⟨v,rfl,hv⟩:=h';exact hv) fun u_ u_ x=>x))) fun r J5 hr=> ?_
 cases r with
 |error e=>exact hr
 |ok fl=>
  cases fl with
  |ret obj=>
   obtain⟨hT,hq⟩:=hr;have hli:=ft.init.lookup;have hbi:=ft.init.bind obj
   repeat (any_goals (first|assumption|wp_step))
   refine IA (R:=wants (fun r J8=>r= .none∧Q obj J8) E) (IT ft.init.plain PySem.F.entry_object_init (ft.init.check _ _ _ _ _ _ _ _ hT (hok obj) (ml hli hmade hne hT ⟨rfl,hq⟩))) fun Ky J8 Lx=> ?_
   cases Ky with
   |error e=>exact Lx
   |ok Ly=>
    cases Ly with
    |ret r=>
     obtain⟨rfl,hq⟩:=Lx
     repeat (any_goals (first|assumption|wp_step))
    |_=>exact Lx.elim
  |_=>exact hr.elim
end
section
inductive IV where
 |v (x:V)
 |it (t:It)
 deriving Inhabited
inductive nU(h:Heap)(ρ:Pl):IV→List Addr→Value→Prop
 |v {x:V} {w:Value}:R h ρ x w→nU h ρ (.v x) [] w
 |it {t:It} {I:List Addr} {a:Addr}:bB h ρ t I a→nU h ρ (.it t) I (.ref a)
noncomputable def D_(σ:Sg):V→Option It
 | .tup l=>some (.seq l 0)
 | .lst k=>(aG σ k).map fun u_=> .lst k 0
 | .rng a b d=>if I5 a b d=true then some (.rng a (I4 a b d) d)else none
 |_=>none
noncomputable def aA(σ:Sg):IV→Option It
 | .it t=>some t
 | .v x=>D_ σ x
theorem fB(h:σ[k]? =some (.lst l)):aA σ (.v (.lst k))=some (.lst k 0):=by
 show(aG σ k).map _=_;rw[aN h];rfl
theorem bB.iter_self(i:bB s.heap ρ t I a)(h:Q (.ref a) s):H9 (model c.prog c.w) A (pyIter (.ref a)) Q E s:=by
 cases i with
 |seq h1 r p=>exact wpAny_pyIter_tupleiter h1 h
 |lst h1 r p=>exact wpAny_pyIter_listiter h1 h
 |rng h1 p=>exact wpAny_pyIter_rangeiter h1 h
 |revl h1 r p=>exact wpAny_pyIter_revIter h1 h
 |revt h1 r p=>
  have hT:s.TypeIs (.ref a) "reversed":=⟨_,h1,rfl⟩;refine wpAny_pyIter_slot hT ig (Ij ig hT lh ?_ (mH _));show H9 _ _ (ret (.ref a)) _ _ s;exact H' ⟨_,rfl,"reversed",_,hT,cD.lookup,h⟩
 |zip h1=>
  have hT:s.TypeIs (.ref a) "zip":=⟨_,h1,rfl⟩;refine wpAny_pyIter_slot hT PySem.F.slot_zip_iter (Ij PySem.F.slot_zip_iter hT PySem.F.entry_zip_iter ?_ (PySem.F.args_zip_iter_1 _));show H9 _ _ (ret (.ref a)) _ _ s;exact H' ⟨_,rfl,"zip",_,hT,Jy.lookup,h⟩
 |enum h1=>
  have hT:s.TypeIs (.ref a) "enumerate":=⟨_,h1,rfl⟩;refine wpAny_pyIter_slot hT PySem.F.slot_enumerate_iter (Ij PySem.F.slot_enumerate_iter hT PySem.F.entry_enumerate_iter ?_ (PySem.F.args_enumerate_iter_1 _));show H9 _ _ (ret (.ref a)) _ _ s;exact H' ⟨_,rfl,"enumerate",_,hT,Jz.lookup,h⟩
set_option tactic.hygienic true in
theorem dC{iv:IV}{I:List Addr}{t:It}{v:Value}{Q:Value→Shared→Prop}{E:Value→Shared→Prop}(ok:c.Ok)(st:aO c ρ σ s.heap)(g:Gd c s.heap)(e:aA σ iv=some t)(r:nU s.heap ρ iv I v)
 (h: ∀J3 J a s',af c ρ s J3 σ s'→bB s'.heap J3 t J a→(∀x∈J,x∈I∨s.heap.objs.size≤x)→Q (.ref a) s'):H9 (model c.prog c.w) A (pyIter v) Q E s:=by
 cases r with
 |it i=>
  obtain rfl:=H8 e;exact i.iter_self (h _ _ _ _ (.refl st g) i fun x m=> .inl m)
 |v r=>
  cases r with
  |tup h1 f1 rs=>
   rename_i l ta vs n;obtain rfl:=H8 e;have S:=af.priv (c:=c) (ρ:=ρ) (o:={cls:= .type "tuple_iterator",data:= .fields #[.ref ta,.int 0 0]}) (t:=s.toks) ok st g
   refine iter_tuple (cJ h1) (h _ _ _ _ S (.seq ⟨_,JF _ rfl,rfl,rfl⟩ (S.R (.tup h1 f1 rs)) (.head _)) (by simp))
  |lst h1=>
   rename_i k la;refine aM e fun l hl zz=> ?_
   ·subst zz
    refine bc (st.at_ _ _ _ h1 (bD hl)) fun vs n h2 rs=> ?_
    have S:=af.priv (c:=c) (ρ:=ρ) (o:={cls:= .type "list_iterator",data:= .fields #[.ref la,.int 0 0]}) (t:=s.toks) ok st g
    refine wpAny_pyIter_list (bT h2) (h _ _ _ _ S (.lst ⟨_,JF _ rfl,rfl,rfl⟩ h1 (.head _)) (by simp))
  |rng h1 f1=>
   rename_i x y d ra u1 u2 u3;refine bH e fun hsm zz=> ?_
   ·obtain rfl:=H8 zz;have S:=af.priv (c:=c) (ρ:=ρ) (o:={cls:= .type "range_iterator",data:= .fields #[rawInt x,rawInt (I4 x y d),rawInt d]}) (t:=s.toks) ok st g
    exact wpAny_pyIter_range h1 hsm (h _ _ _ _ S (.rng (JF _ rfl) (.head _)) (by simp))
  |_=>exact no e
inductive cL(h:Heap)(ρ:Pl):List IV→List Addr→List Value→Prop
 |nil:cL h ρ [] [] []
 |cons {x:IV} {xs:List IV} {I J:List Addr} {v:Value} {vs:List Value}:nU h ρ x I v→cL h ρ xs J vs→(∀a∈I,a∉J)→cL h ρ (x::xs) (I++J) (v::vs)
theorem cL.nilE{motive: ∀I w,cL h ρ [] I w→Prop}(nil:motive [] [] .nil){w:List Value}(r:cL h ρ [] I w):motive I w r:=by cases r;exact nil
theorem nU.priv{x:IV}(r:nU h ρ x I v): ∀a∈I,a∈ρ.p:=by
 cases r with
 |v=>exact GH _
 |it i=>exact i.priv.1
theorem cL.priv{x:List IV}{v:List Value}(r:cL h ρ x I v): ∀a∈I,a∈ρ.p:=cL.rec (motive:=fun u_ I u_ u_=> ∀a∈I,a∈ρ.p) fH (fun r u_ u_ ih a m=>(Gl.mp m).elim (r.priv a) (ih a)) r
theorem af.ivr{x:IV}(st:aO c ρ σ s.heap)(S:af c ρ s J3 J1 s')(r:nU s.heap ρ x I v):nU s'.heap J3 x I v:=by
 cases r with
 |v r=>exact .v (S.R r)
 |it i=>exact .it (S.itr st i)
theorem af.ivrs(st:aO c ρ σ s.heap)(S:af c ρ s J3 J1 s'){x:List IV}{v:List Value}(r:cL s.heap ρ x I v):cL s'.heap J3 x I v:=
 cL.rec (motive:=fun x I v u_=>cL s'.heap J3 x I v) .nil (fun r u_ d ih=> .cons (S.ivr st r) ih d) r
noncomputable def jO(σ:Sg):List IV→Option (List It)
 |[]=>some []
 |x::xs=>(aA σ x).bind fun t=>(jO σ xs).map fun ts=>t::ts
theorem pW(ok:c.Ok){f:Value→Array Value→Sem (ForInStep (Array Value))}(hf: ∀v acc,f v acc=(do let r←holding acc.toList (pyIter v);pure (.yield (acc.push r)))): ∀{xs:List IV} {I:List Addr} {ts:List It} {vs:List Value} {ρ:Pl} {s:Shared} (acc:Array Value) {Q:Array Value→Shared→Prop} {E:Value→Shared→Prop},
 aO c ρ σ s.heap→Gd c s.heap→jO σ xs=some ts→cL s.heap ρ xs I vs→
 (∀J3 J as s',af c ρ s J3 σ s'→bC s'.heap J3 ts J as→(∀x∈J,x∈I∨s.heap.objs.size≤x)→Q (acc++(as.map JX).toArray) s')→H9 (model c.prog c.w) A (forIn vs acc f) Q E s:=by
 intro xs
 induction xs with
 |nil=>
  intro I ts vs ρ s acc Q E st g e r h
  cases r using cL.nilE
  obtain rfl:=H8 e;rw[List.forIn_nil]
  exact H' (by simpa using h ρ [] [] s (.refl st g) .nil (by simp))
 |cons x xs ih=>
  intro I₀ ts vs ρ s acc Q E st g e r h
  cases r with
  |cons r rs d=>
  refine ae e fun t h1 e=>aM e fun ts' h2 zz=> ?_
  ·subst zz;rw[GT,hf];refine H_ (H_ (Ic (dC ok st g h1 r fun Kd I₁ a J5 J4 KP k₁=>H' ?_)));refine ih (acc.push (.ref a)) J4.sto J4.gd h2 (J4.ivrs st rs) fun Kl J₂ as J8 J7 KF k₂=> ?_;have:=h Kl (I₁++J₂) (a::as) J8 (J4.trans J7) (.cons (J7.itr J4.sto KP) KF fun y m n=> ?_) fun y m=> ?_
   ·simpa using this
   ·rcases k₂ y n with q|q
    ·rcases k₁ y m with q'|q'
     ·exact d y q' q
     ·exact absurd (st.plow y (rs.priv y q)).2 (Hy.mpr q')
    ·exact absurd (J4.sto.plow y (KP.priv.1 y m)).2 (Hy.mpr q)
   ·rcases Gl.mp m with q|q
    ·exact(k₁ y q).imp (fun z=>Gl.mpr (.inl z)) id
    ·exact(k₂ y q).elim (fun z=> .inl (Gl.mpr (.inr z))) fun z=> .inr (Hu J4.rest.hsize z)
theorem nD(vs:List Value):Jb "zip" ⟨.type "zip"::vs,[]⟩=pure (.type "zip",vs):=by
 unfold Jb;exact of_pureOf rfl
theorem pf{xs:List IV}(ok:c.Ok)(st:aO c ρ σ s.heap)(g:Gd c s.heap)(e:jO σ xs=some ts)(r:cL s.heap ρ xs I vs)
 (hz:ts.length≤64)
 (hct:checkTypeCall "zip" ⟨vs,[]⟩=pure ()) (hcn:checkBuiltinCall "zip.__new__" ⟨.type "zip"::vs,[]⟩=pure ()) (hok: ∀obj,argsOk "object.__init__" ⟨obj::vs,[]⟩)
 (h: ∀J3 J a s',af c ρ s J3 σ s'→bB s'.heap J3 (.zip ts) J a→(∀x∈J,x∈I∨s.heap.objs.size≤x)→Q (.ref a) s'):H9 (model c.prog c.w) A (call (.type "zip") vs) Q E s:=by
 refine ec PySem.F.called_zip (by exact ac) hct hcn hok PySem.F.entry_zip_new ?_
 unfold Builtin.«zip.__new__»;refine H_ (Ih (nD vs) ?_);refine H_ (m:=Jd vs) ?_;unfold Jd;refine H_ (pW ok (fun v acc=>rfl) #[] st g e r fun Kd J as J5 J4 its kJ=>H' ?_);have hl:=its.len
 have hez:(#[]++(as.map JX).toArray:Array Value).toList=as.map JX:=by simp
 rw[hez]
 refine H_ (IM ?_ (by simp[←hl];exact Hu hz (by decide)))
 have J7:af c Kd J5 _ σ {J5 with heap:=J5.heap.push (am (as.map .ref) 0)}:=af.priv (t:=J5.toks) ok J4.sto J4.gd
 refine H_ (IM ?_ (by simp[←hl];exact Hu hz (by decide)))
 have Kg:af c _ {J5 with heap:=J5.heap.push (am (as.map .ref) 0)} _ σ {J5 with heap:=(J5.heap.push (am (as.map .ref) 0)).push (am ((as.map JX).map fun u_=> .none) 0)}:=af.priv (t:=J5.toks) ok J7.sto J7.gd
 show H9 _ _ (newObj (.type "zip") (.fields #[.none,.bool false,.bool false,.ref J5.heap.objs.size,.ref (J5.heap.push (am (as.map .ref) 0)).objs.size])>>=_) _ _ _
 refine H_ (Ig ?_ (by size_fits))
 have Kr:af c _ {J5 with heap:=(J5.heap.push (am (as.map .ref) 0)).push (am ((as.map JX).map fun u_=> .none) 0)} _ σ
  {J5 with heap:=((J5.heap.push (am (as.map .ref) 0)).push (am ((as.map JX).map fun u_=> .none) 0)).push (jK .none (.bool false) J5.heap.objs.size (J5.heap.push (am (as.map .ref) 0)).objs.size)}:=af.priv (t:=J5.toks) ok Kg.sto Kg.gd
 have z2:(J5.heap.push (am (as.map .ref) 0)).objs.size=J5.heap.objs.size+1:=JH ..
 have z3:((J5.heap.push (am (as.map .ref) 0)).push (am ((as.map JX).map fun u_=> .none) 0)).objs.size=J5.heap.objs.size+2:=by rw[JH,z2]
 have hJ: ∀x∈J,x<J5.heap.objs.size:=fun x m=>(J4.sto.plow x (its.priv x m)).2;refine H' ⟨_,rfl,⟨_,JF _ rfl,rfl⟩,h _ (((J5.heap.push (am (as.map .ref) 0)).push (am ((as.map JX).map fun u_=> .none) 0)).objs.size::J5.heap.objs.size::(J5.heap.push (am (as.map .ref) 0)).objs.size::J) _ _ ((J4.trans J7).trans (Kg.trans Kr)) ?_ ?_⟩
 ·refine .zip (m:=0) (m':=0) (JF _ rfl) (.inl rfl) (JG _ (JG _ (JF _ rfl))) (JG _ (JF _ rfl)) (by simp[hl])
   ((J7.trans (Kg.trans Kr)).itrs J4.sto its) (by exact .head _) (by exact .tail _ (.tail _ (.head _))) (by exact .tail _ (.head _)) ?_ ?_ ?_ ?_ ?_ ?_
  ·rw[z3];exact HJ (HY (by exact Hw _))
  ·rw[z3,z2];exact HJ (Hx _)
  ·rw[z2];exact HT (Hx _)
  ·intro m;have:=hJ _ m;rw[z3]at this;exact absurd this (Hy.mpr (HA _ _))
  ·intro m;exact absurd (hJ _ m) (HI _)
  ·intro m;have:=hJ _ m;rw[z2]at this;exact absurd this (Hy.mpr (HA _ _))
 ·intro x m;have hs:=J4.rest.hsize
  rcases Gp.mp m with rfl|m
  ·right;rw[z3];exact Hu hs (HA _ _)
  rcases Gp.mp m with rfl|m
  ·right;exact hs
  rcases Gp.mp m with rfl|m
  ·right;rw[z2];exact Hu hs (HA _ _)
  ·exact kJ x m
end
variable {o':aD IV}
section
theorem io(vs:List Value)(kw:List (Str×Value)):Jb "enumerate" ⟨.type "enumerate"::vs,kw⟩=pure (.type "enumerate",vs):=by
 unfold Jb;exact of_pureOf rfl
theorem hV(a b:Value):checkTypeCall "enumerate" ⟨[a],[("start",b)]⟩=pure ():=by kernel_rfl
theorem iK(a b:Value):checkBuiltinCall "enumerate.__new__" ⟨[.type "enumerate",a],[("start",b)]⟩=pure ():=by kernel_rfl
theorem fS(obj a b:Value):argsOk "object.__init__" ⟨[obj,a],[("start",b)]⟩:=by
 unfold argsOk;rw[IK (id:="object.__init__") (n:=['_','_','t','i','n','i','_','_']) (o:=['t','c','e','j','b','o']) rfl JA];exact rfl
theorem uo{n:Int}{Kd:Pl}(ok:c.Ok)(st:aO c Kd σ J5.heap)(g:Gd c J5.heap)(i:bB J5.heap Kd t I a)
 (h: ∀J3 s',af c Kd J5 J3 σ s'→bB s'.heap J3 (.enum t n) (J5.heap.objs.size::I) J5.heap.objs.size→Q (.ref J5.heap.objs.size) s'):
 H9 (model c.prog c.w) A (newObj (.type "enumerate") (.fields #[.none,.bool false,.ref a,rawInt n,.none,.none])) Q E J5:=by
 have S:af c Kd J5 _ σ {J5 with heap:=J5.heap.push (dH .none (.bool false) a n .none)}:=af.priv (t:=J5.toks) ok st g
 refine Ig (h _ _ S (.enum (JF _ rfl) (.inl rfl) (S.itr st i) (.head _) fun m=> ?_)) (by size_fits)
 exact absurd (st.plow _ (i.priv.1 _ m)).2 (HI _)
theorem lD{x:Value}{Q:Bool→Shared→Prop}(h: ∀b,Q b s):H9 M A (Builtin.SmallTypes.calledThroughType x) Q E s:=H_ (wpAny_stack_any fun u_=>H' (h _))
theorem o6{x:IV}{n:Int}(ok:c.Ok)(st:aO c ρ σ s.heap)(g:Gd c s.heap)(e:aA σ x=some t)(r:nU s.heap ρ x I v)
 (h: ∀J3 J a s',af c ρ s J3 σ s'→bB s'.heap J3 (.enum t n) J a→(∀x∈J,x∈I∨s.heap.objs.size≤x)→Q (.ref a) s'):H9 (model c.prog c.w) A.in1.in1 (pyIter v>>=fun it=>newObj (.type "enumerate") (.fields #[.none,.bool false,it,rawInt n,.none,.none])>>=fun r=>ret r)
  (fun fin s'=> ∃v,fin= .done (.ret v)∧s'.TypeIs v "enumerate"∧Q v s') E s:=by
 refine H_ (dC ok st g e r fun Kd J a J5 J4 KP k=> ?_);refine H_ (uo ok J4.sto J4.gd KP fun Kl J8 J7 KF=> ?_);refine H' ⟨_,rfl,?_,h _ _ _ _ (J4.trans J7) KF fun y m=> ?_⟩
 ·cases KF with
  |enum h1=>exact⟨_,h1,rfl⟩
 ·exact(Gp.mp m).elim (fun q=> .inr (q▸J4.rest.hsize)) (k y)
theorem tO{x:IV}(ok:c.Ok)(st:aO c ρ σ s.heap)(g:Gd c s.heap)(e:aA σ x=some t)(r:nU s.heap ρ x I v)
 (h: ∀J3 J a s',af c ρ s J3 σ s'→bB s'.heap J3 (.enum t 0) J a→(∀x∈J,x∈I∨s.heap.objs.size≤x)→Q (.ref a) s'):H9 (model c.prog c.w) A (call (.type "enumerate") [v]) Q E s:=by
 refine ec PySem.F.called_enumerate (by exact ac) (PySem.F.typeCall_enumerate_1 _) (PySem.F.newCall_enumerate_1 _) (fun obj=>PySem.F.args_object_init_2 obj _) PySem.F.entry_enumerate_new ?_
 unfold Builtin.«enumerate.__new__»;refine H_ (Ih (io _ _) ?_);dsimp only
 refine c_ (by decide) ?_
 change let K0:=_;let Q0:=_;H9 _ _ (_>>=K0) Q0 _ _;intros
 refine H_ (lD fun b=> ?_)
 cases b<;>exact o6 ok st g e r h
theorem kx{x:IV}{n:Int}(ok:c.Ok)(st:aO c ρ σ s.heap)(g:Gd c s.heap)(e:aA σ x=some t)(r:nU s.heap ρ x I v)(hn:Jc n=true)
 (h: ∀J3 J a s',af c ρ s J3 σ s'→bB s'.heap J3 (.enum t n) J a→(∀x∈J,x∈I∨s.heap.objs.size≤x)→Q (.ref a) s'):H9 (model c.prog c.w) A (call (.type "enumerate") [v] [("start",.int n u)]) Q E s:=by
 refine ec PySem.F.called_enumerate (by exact ac) (hV _ _) (iK _ _) (fun obj=>fS obj _ _) PySem.F.entry_enumerate_new ?_
 unfold Builtin.«enumerate.__new__»;refine H_ (Ih (io _ _) ?_);dsimp only
 refine c_ (by decide) ?_
 change let K0:=_;let Q0:=_;H9 _ _ (_>>=K0) Q0 _ _;intros
 refine H_ (lD fun b=> ?_)
 have hn': ¬((!Jc n)=true):=by rw[hn];exact FT
 cases b<;>(refine(?_:H9 _ _ (if(!Jc n)=true then _ else _) _ _ s);exact bU hn' (o6 ok st g e r h))
set_option tactic.hygienic true in
theorem nK{k:Nat}{l:List V}{v:Value}{Q:Value→Shared→Prop}{E:Value→Shared→Prop}(ok:c.Ok)(st:aO c ρ σ s.heap)(g:Gd c s.heap)(e:σ[k]? =some (.lst l))(r:R s.heap ρ (.lst k) v)
 (h: ∀J3 J a s',af c ρ s J3 σ s'→bB s'.heap J3 (.revl k l.length) J a→(∀x∈J,s.heap.objs.size≤x)→Q (.ref a) s'):H9 (model c.prog c.w) A (call (.type "reversed") [v]) Q E s:=by
 cases r with
 |lst h1=>
 rename_i la
 refine bc (st.at_ _ _ _ h1 e) fun vs n h2 rs=> ?_
 refine call_reversed_list (bT h2) ?_
 have S:af c ρ s _ σ {s with heap:=s.heap.push (revObj la ((vs.toArray.size:Int)-1))}:=af.priv (t:=s.toks) ok st g
 refine h _ _ _ _ S (.revl ⟨_,JF _ rfl,rfl,?_⟩ h1 (.head _)) (by simp)
 simp[revObj,rs.length]
theorem nM(a:Value):checkTypeCall "reversed" ⟨[a],[]⟩=pure ():=by kernel_rfl
theorem mC:Slot "reversed" "__init__" "object.__init__":=
 .of (owner:="object") (n:="__init__") (by rw[IG,IH];exact rfl) (by decide+kernel) (by decide+kernel) (by decide+kernel)
  (by first|exact .inl (by decide+kernel)|exact .inr (by decide+kernel)) (by rw[IJ];exact rfl)
theorem q8:TypeCalled "reversed" "reversed.__new__" "object.__init__":=
 ⟨by decide+kernel,PySem.F.create_reversed,⟨_,_,PySem.F.mro_reversed⟩,PySem.F.made_reversed,PySem.F.plain_reversed_new,PySem.F.sub_reversed_self,mC⟩
theorem gr:typeLookup (.type "tuple") "__reversed__"=pure none:=by rw[IG,IH];kernel_rfl
theorem lB:isSubtype (.type "tuple") (.type "dict")=pure false:=by rw[IJ];exact rfl
set_option tactic.hygienic true in
theorem n9{l:List V}{v:Value}{Q:Value→Shared→Prop}{E:Value→Shared→Prop}(ok:c.Ok)(st:aO c ρ σ s.heap)(g:Gd c s.heap)(r:R s.heap ρ (.tup l) v)(hz:l.length≤2^20)
 (h: ∀J3 J a s',af c ρ s J3 σ s'→bB s'.heap J3 (.revt l l.length) J a→(∀x∈J,s.heap.objs.size≤x)→Q (.ref a) s'):H9 (model c.prog c.w) A (call (.type "reversed") [v]) Q E s:=by
 cases id r with
 |tup h1 f1 rs=>
 rename_i ta vs n;have ht:s.TypeIs (.ref ta) "tuple":=⟨_,h1,rfl⟩
 refine ec q8 (by exact ac) (nM _) (PySem.F.newCall_reversed_1 _) (fun obj=>PySem.F.args_object_init_2 obj _) PySem.F.entry_reversed_new ?_
 unfold Builtin.«reversed.__new__»
 change let K0:=_;let Q0:=_;H9 _ _ (_>>=K0) Q0 _ _;intros
 refine H_ (Ih (newClass_reversed _) ?_)
 try dsimp only
 change let K0:=_;let Q0:=_;H9 _ _ (_>>=K0) Q0 _ _;intros
 refine H_ (Ih (a:=()) (by first|rfl|kernel_rfl) ?_)
 change let K0:=_;let Q0:=_;H9 _ _ (_>>=K0) Q0 _ _;intros
 refine H_ (Ih (a:=()) (by first|rfl|kernel_rfl) ?_)
 try dsimp only
 change let K0:=_;let Q0:=_;H9 _ _ (_>>=K0) Q0 _ _;intros
 refine H_ (Ix ht gr ?_)
 try dsimp only
 change let K0:=_;let Q0:=_;H9 _ _ (_>>=K0) Q0 _ _;intros
 refine H_ ?_;show H9 _ _ (isInstance (.ref ta) (.type "dict")>>=_) _ _ s
 change let K0:=_;let Q0:=_;H9 _ _ (_>>=K0) Q0 _ _;intros
 refine H_ (IC (T:="tuple") (b:=false) ht lB ?_);show H9 _ _ (specialOf (.ref ta) (JW "__getitem__")>>=_) _ _ s
 change let K0:=_;let Q0:=_;H9 _ _ (_>>=K0) Q0 _ _;intros
 refine H_ (Ix ht Jo.lookup ?_);refine H' ?_;show H9 _ _ (call (.builtin "len") [.ref ta]>>=_) _ _ s
 change let K0:=_;let Q0:=_;H9 _ _ (_>>=K0) Q0 _ _;intros
 refine H_ (len_tuple (cJ h1) (rs.sz63 hz) ?_);show H9 _ _ (newObj (.type "reversed") (.fields #[.ref ta,rawInt (((vs.toArray.size:Nat):Int)-1)])>>=_) _ _ _
 have S:af c ρ s _ σ {s with heap:=s.heap.push (kH ta (((vs.toArray.size:Nat):Int)-1)),toks:=s.toks+1+1}:=af.priv (t:=s.toks+1+1) ok st g
 change let K0:=_;let Q0:=_;H9 _ _ (_>>=K0) Q0 _ _;intros
 refine H_ (Ig (H' ⟨_,rfl,⟨_,JF _ rfl,rfl⟩,h _ _ _ _ S (.revt (t:=ta) ?_ (S.R r) (.head _)) (by simp)⟩) (by exact HB ..))
 have e:((l.length:Nat):Int)-1=((vs.toArray.size:Nat):Int)-1:=by simp[rs.length]
 rw[e];exact JF _ rfl
end
section
variable {env:Env}
variable (c)in
noncomputable def Cs(x:Str):Option V:=(c.nm.lookup x).map V.val
variable (c)in
noncomputable def aP(en:En)(x:Str):Option V:=if(x==("__debug__":Str))=true then none else(en.names.lookup x).bind fun k=> @NameKind.casesOn (fun u_=>Option V) k (en.own.lookup x) (en.own.lookup x) (if(x==("__classdict__":Str))=true then none else en.fre.lookup x) none (Cs c x)
theorem gP{x:Str}(ok:c.Ok)(st:aO c ρ σ s.heap)(g:Gd c s.heap)(er:a_ s.heap ρ env en)(e:aP c en x=some y):bk c A (eval (.Name x pos) env) ρ s (.ok y σ):=by
 refine eV e (fun u_ e=>no e) fun hd e=> ?_;have hd:(x==("__debug__":Str))=false:=Bool.eq_false_iff.mpr hd
 have hk:env.kindOf x=en.names.lookup x:=by rw[←er.names];rfl
 refine ae e fun k hl e=> ?_
 cases k with
 |«local»=>
  refine aK er.lo fun m hn hm=> ?_;have:=hm x hl
  rw[show en.own.lookup x=some y from e]at this
  generalize hq:m x=q at this
  cases this with
  |so r=>exact wpAny_Name (wpAny_loadName_local er.kind (hk.trans hl) hn hq ⟨ρ,.refl st g,r⟩) hd
 |cell=>
  refine bS (er.ce x hl) fun a w h1 h2 u_ h3=> ?_
  rw[show en.own.lookup x=some y from e]at h3
  cases h3 with
  |so r=>exact wpAny_Name (wpAny_loadName_cell er.kind (hk.trans hl) h1 h2 ⟨ρ,.refl st g,r⟩) hd
 |free=>
  refine eV e (fun u_ e=>no e) fun hcd e=> ?_;refine dy (er.fr x hl) fun a w h1 h2 h3=> ?_;rw[e]at h3
  cases h3 with
  |so r=>exact wpAny_Name (wpAny_loadName_free er.kind (hk.trans hl) h1 h2 ⟨ρ,.refl st g,r⟩ (by simpa using hcd)) hd
 |globalImplicit=>
  have hgl:env.globals=mainGlobals:=er.gl;have hbi:env.builtins=builtinsNs:=er.bi
  refine aK (H3.mp (show(c.nm.lookup x).map V.val=some y from e)) fun v hv zz2=> ?_;subst zz2
  rcases ok.names x v hv with h|⟨h,hb⟩
  ·exact Calls.Name_function_global er.kind (hk.trans hl) (Calls.loadGlobal_global (by rw[hgl];exact g.gl) h ⟨ρ,.refl st g,.val⟩) hd
  ·exact Calls.Name_function_global er.kind (hk.trans hl) (Calls.loadGlobal_builtin (by rw[hgl];exact g.gl) h (by rw[hbi];exact g.bl) hb ⟨ρ,.refl st g,.val⟩) hd
 |globalExplicit=>exact no e
noncomputable def nL(k:Const):Option V:= @Const.casesOn (fun u_=>Option V) k (some .none) (fun b=>some (.bool b)) (fun i=>some (.int i)) (fun u_=>none) (fun u_ u_=>none) (fun x=>some (.str x)) (fun u_=>none) none
theorem lQ{k:Const}(st:aO c ρ σ s.heap)(g:Gd c s.heap)(e:nL k=some y):bk c A (eval (.Constant k n pos) env) ρ s (.ok y σ):=by
 cases k with
 |int=>obtain rfl:=H8 e;exact wpAny_Constant_int ⟨ρ,.toks st g,.int⟩
 |str=>obtain rfl:=H8 e;exact wpAny_Constant_str ⟨ρ,.toks st g,.str⟩
 |none=>obtain rfl:=H8 e;exact wpAny_Constant_none ⟨ρ,.refl st g,.val⟩
 |bool=>obtain rfl:=H8 e;exact wpAny_Constant_bool ⟨ρ,.refl st g,.val⟩
 |_=>exact no e
theorem jA:fillsNumberSlot (.type "tuple") "mul"=pure false:=
 PySem.fillsNumberSlot_seq (id:="tuple.__mul__") (r:=some (.builtin "tuple.__rmul__")) JB.lookup (by decide+kernel) PySem.F.slot_tuple_rmul.lookup (by decide+kernel)
theorem oz:seqRepeat? (.type "tuple")=pure (some (.builtin "tuple.__mul__")):=by
 unfold seqRepeat?
 rw[IU (T:="tuple") (name:="__mul__") (id:="tuple.__mul__") JB.lookup (by decide+kernel),IU (T:="tuple") (name:="__rmul__") (id:="tuple.__rmul__") PySem.F.slot_tuple_rmul.lookup (by decide+kernel)]
 rfl
theorem ix(a:Int)(t:Tok)(l:Addr)(items:Array Value)(n:Nat)(d:Option Addr)(sl:Array (Option Value)):
 Meets (Builtin.«int.__rmul__» ⟨[.int a t,.ref l],[]⟩) (fun u_ R s=>s.heap.get? l=some {cls:= .type "tuple",dict:=d,data:= .seq items n,slots:=sl}∧R (.ok (.ret Value.notImplemented)) s):=
 .of_wp fun prog w A R s h=>by obtain⟨hp,g,d,tk,os⟩:=s;refine oA h fun hl h=> ?_;wp_walk;exact⟨_,rfl,h⟩
theorem Rs.rep(r:Rs h ρ l vs)(n:Nat):Rs h ρ (Gq n l).flatten (Gq n vs).flatten:=by
 induction n with
 |zero=>exact .nil
 |succ n ih=>exact r.append ih
theorem rQ(l:List α)(n:Nat):(Gq n l).flatten.length=l.length*n:=by
 induction n with
 |zero=>simp
 |succ n ih=>rw[Hb,Hj,GE,ih,Nat.mul_succ,HR]
theorem tK(xs:Array α)(n:Nat): ∀(acc:Array α),(Gq n xs).foldl (· ++ ·) acc=acc++((Gq n xs.toList).flatten).toArray:=by
 induction n with
 |zero=>exact fun acc=>(Array.append_empty).symm
 |succ n ih=>
  intro acc;rw[Hb,List.foldl_cons,ih,Hb,Hj];apply Array.ext';simp
noncomputable def tL(σ:Sg)(x:V)(n:Int):Option (V×Sg):=if-(2^40:Int)≤n∧n<2^40 then @V.casesOn (fun u_=>Option (V×Sg)) x (fun u_=>none) (fun u_=>none) (fun u_=>none) (fun l=>if l.length*n.toNat≤2^20 then some (.tup (Gq n.toNat l).flatten,σ)else none)
 (fun k=>(aG σ k).bind fun l=>if l.length*n.toNat≤2^20 then some (.lst σ.length,σ++[.lst (Gq n.toNat l).flatten])else none) (fun u_ u_=>none) (fun u_ u_ u_=>none)
 else none
theorem un{n:Int}{t:Tok}(ok:c.Ok)(st:aO c ρ σ s.heap)(g:Gd c s.heap)(e:tL σ x n=some (y,J1))(r:R s.heap ρ x v):bk c A (binaryOp .Mult v (.int n t)) ρ s (.ok y J1):=by
 refine bH e fun hn e=> ?_
 cases x with
 |tup l=>
  refine bH e fun hz e=> ?_;refine qY (H8 e) fun q1 q2=> ?_;subst q1;subst q2
  cases id r with
  | @tup l a vs m h1 f1 rs=>
   have hl:=rs.length
   refine wpAny_binaryOp_repeat_ref (T:="tuple") (U:="int") (by exact FW _) ⟨_,h1,rfl⟩ (fun s'=>IE s' n t) jA PySem.F.fills_int_mul Jq oz PySem.F.slot_int_index.lookup
    (IF Jq (IE s n t) PySem.F.entry_int_rmul (PySem.F.args_int_rmul_2 _ _) (ix n t a vs.toArray m none #[])
     ⟨h1,rfl,⟨_,h1,rfl⟩,Ij JB ⟨_,h1,rfl⟩ PySem.F.entry_tuple_mul ?_ (PySem.F.args_tuple_mul_2 _ _)⟩)
   have ha:asIndex (.int n t)=pure n:=rfl;show H9 _ _ (asIndex (.int n t)>>=_) _ _ s;refine H_ (Ih ha ?_)
   have hn2: ¬((decide (n< -(2^63))||decide (n≥2^63))=true):=by simp;exact ibt ‹_› (by exact ac)
   show H9 _ _ (if(decide (n< -(2^63))||decide (n≥2^63))=true then _ else _) _ _ s
   refine bU hn2 ?_;refine H_ (m:=Jf (.ref a)) (tupleItemsOf_ (cJ h1) ?_);dsimp only
   have fin1:(vs.toArray.isEmpty||n==1)=true→(∃J3,af c ρ s J3 σ s∧R s.heap J3 (.tup (Gq n.toNat l).flatten) (.ref a)):=by
    intro hq
    have:(Gq n.toNat l).flatten=l:=by
     rcases FU.mp hq with q|q
     ·have hv:vs=[]:=by simpa using q
      have hl0:l=[]:=GW.mp (by rw[hl,hv];rfl)
      subst hl0
      exact GW.mp (by rw[rQ];simp)
     ·have:n=1:=by simpa using q
      subst this;exact Gz _
    rw[this];exact⟨ρ,.refl st g,r⟩
   have fin2: ∀ws:List Value,Rs s.heap ρ (Gq n.toNat l).flatten ws→ ∃J3,af c ρ s J3 σ {s with heap:=s.heap.push (am ws 0)}∧R (s.heap.push (am ws 0)) J3 (.tup (Gq n.toNat l).flatten) (.ref s.heap.objs.size):=by
    intro ws hw
    have S:af c ρ s ρ σ {s with heap:=s.heap.push (am ws 0)}:=af.push (t:=s.toks) ok st g
    exact⟨ρ,S,.tup (JF _ rfl) (st.new (Hv _)) (S.Rs hw)⟩
   by_cases hq:(vs.toArray.isEmpty||n==1)=true
   ·refine c_ hq ?_;refine H_ (m:=Jg (.ref a)) (H_ (Iv (cJ h1).typeIs (H' ?_)))
    refine c_ (by decide) ?_
    first
     |exact H_ (Ie (H' ⟨_,rfl,fin1 hq⟩))
     |exact H_ (Ie (H_ (H' (H' ⟨_,rfl,fin1 hq⟩))))
   ·refine bU hq ?_
    by_cases hq2:(decide (n≤0)||vs.toArray.isEmpty)=true
    ·refine c_ hq2 ?_
     have e0:(Gq n.toNat l).flatten=[]:=by
      rcases FU.mp hq2 with q|q
      ·have:n≤0:=by simpa using q
       rw[show n.toNat=0 by exact tz ‹_›];rfl
      ·exact absurd (FU.mpr (.inl q)) hq
     refine H_ (m:=Je _) (Ig ?_ (by exact HD _))
     exact H' ⟨_,rfl,fin2 [] (by rw[e0];exact .nil)⟩
    ·refine bU hq2 ?_
     have hsz:vs.toArray.size*n.toNat≤2^20:=by simpa [←hl]using hz
     have hnn: ¬n≤0:=fun q=>hq2 (FU.mpr (.inl (by simpa using q)))
     have hcast:((vs.toArray.size:Nat):Int)*n=((vs.toArray.size*n.toNat:Nat):Int):=by
      rw[Int.natCast_mul,Int.toNat_of_nonneg (by omega)]
     rw[if_neg (by rw[hcast];omega),if_neg (by unfold Builtin.Tuple.tupleTooMany sizeLine;rw[hcast];simp only[decide_eq_true_eq];omega)]
     have e1:(Gq n.toNat vs.toArray).foldl (fun x1 x2=>x1++x2) #[]=((Gq n.toNat vs).flatten).toArray:=by
      have:=tK vs.toArray n.toNat #[];simpa using this
     rw[e1];refine H_ (m:=Je _) (Ig ?_ ?_)
     ·exact H' ⟨_,rfl,fin2 _ (rs.rep _)⟩
     ·show((Gq n.toNat vs).flatten).toArray.size≤sizeLine;rw[GR,rQ,←hl];exact Hu hz (by decide)
 |lst k=>
  refine ae e fun l hl e=>bH e fun hz e=> ?_;replace hl:=bD hl;refine qY (H8 e) fun q1 q2=> ?_;subst q1;subst q2
  cases r with
  | @lst k la h1=>
   refine bc (st.at_ _ _ _ h1 hl) fun vs m h2 rs=> ?_
   have hll:=rs.length
   have hz':vs.toArray.size*n.toNat≤2^20:=by simpa [←hll]using hz
   have hz2:vs.length*n.toNat≤2^20:=by rw[←hll];exact hz
   have hlong: ¬IY (vs.toArray.size*n.toNat)=true:=by
    simp[IY,sizeLine];exact bf ‹_› (by exact ac)
   refine wpAny_binaryOp_repeat_ref (T:="list") (U:="int") (by exact FW _) ⟨_,h2,rfl⟩ (fun s'=>IE s' n t) noFill_list_mul PySem.F.fills_int_mul Jq repeat_list PySem.F.slot_int_index.lookup
    (IF Jq (IE s n t) PySem.F.entry_int_rmul (PySem.F.args_int_rmul_2 _ _) (lm_int_rmul_list_any n t la vs.toArray m none #[])
     ⟨h2,rfl,⟨_,h2,rfl⟩,IF PySem.F.slot_list_mul ⟨_,h2,rfl⟩ PySem.F.entry_list_mul (PySem.F.args_list_mul_2 _ _)
      (lm_list_mul_any la vs.toArray m none #[] n t (by simp[I0];exact ibt ‹_› (by exact ac)) (by omega) hlong)
      ⟨h2,?_⟩⟩)
   rw[listMul_foldl_if];exact⟨_,af.pushList (n:=0) (t:=s.toks) ok st g (rs.rep n.toNat),.lst (st.last _)⟩
 |_=>exact no e
end
section
variable {env:Env}{d:Nat}
variable (c)in
structure At(A:Around)(env:Env)(en:En)(ρ:Pl)(σ:Sg)(s:Shared)(d:Nat):Prop where
 ok:c.Ok
 st:aO c ρ σ s.heap
 gd:Gd c s.heap
 er:a_ s.heap ρ env en
 room:d_ c ρ A d s.heap
theorem At.step(a:At c A env en ρ σ s d)(x:af c ρ s J3 J1 s'):At c A env en J3 J1 s' d:=⟨a.ok,x.sto,x.gd,x.env a.st a.er,x.room a.st a.room⟩
set_option tactic.hygienic true in
theorem aq.then{α β α':Type}{rel:Heap→Pl→α→β→Prop}{t:Sem β}{Kj:Pl}{Ka:Shared}{KG:Option (aD α)}{k:α→Sg→Option (aD α')}{o:aD α'}{Q:β→Shared→Prop}(Ko:af c Kj Ka ρ σ s)
 (e:au KG k=some o) (h: ∀o',KG=some o'→aq c rel A t ρ s o') (hk: ∀x J1 v s' J3,af c Kj Ka J3 J1 s'→rel s'.heap J3 x v→k x J1=some o→af c ρ s J3 J1 s'→Q v s'):
 H9 (model c.prog c.w) A t Q (cC c Kj Ka o) s:=by
 unfold au at e
 split at e
 ·rename_i a J1
  refine(h _ rfl).go (fun x KJ q v s' J3 st r=> ?_) (fun cls KJ q=>by exact iO q)
  refine jD q fun zz1 zz2=> ?_;subst zz1;subst zz2;exact hk _ _ _ _ _ (Ko.trans st) r e st
 ·rename_i cls J1;obtain rfl:=H8 e
  refine(h _ rfl).go (fun x KJ q=>by exact Em q) (fun cls KJ q e s' f=> ?_)
  refine B5 q fun zz1 zz2=> ?_;subst zz1;subst zz2;exact(f.as (β:=α')).trans Ko
 ·exact no e
theorem aq.last{rel:Heap→Pl→α→β→Prop}{t:Sem β}{o:aD α}(Ko:af c Kj Ka ρ σ s)(h:aq c rel A t ρ s o):H9 (model c.prog c.w) A t (bW c rel Kj Ka o) (cC c Kj Ka o) s:=h.trans Ko
theorem bW.now{rel:Heap→Pl→α→β→Prop}{x:α}{v:β}(Ko:af c Kj Ka ρ σ s)(r:rel s.heap ρ x v):bW c rel Kj Ka (.ok x σ) v s:=⟨ρ,Ko,r⟩
noncomputable abbrev fL:=En→Sg→Expr→Option (aD V)
noncomputable abbrev lf:=En→Sg→Expr→Option (aD Bool)
variable (c)in
noncomputable def bE(d:Nat)(f:fL):Prop:= ∀{A:Around} {env:Env} {en:En} {ρ:Pl} {σ:Sg} {s:Shared} {e:Expr} {o:aD V},f en σ e=some o→At c A env en ρ σ s d→bk c A (eval e env) ρ s o
variable (c)in
noncomputable def eK(d:Nat)(f:lf):Prop:= ∀{A:Around} {env:Env} {en:En} {ρ:Pl} {σ:Sg} {s:Shared} {e:Expr} {o:aD Bool},f en σ e=some o→At c A env en ρ σ s d→pq c A (isTrue e env (eval e env)) ρ s o
noncomputable def sw:Operator→Bool
 | .Add=>true
 |_=>false
noncomputable def qw:Operator→Bool
 | .Mult=>true
 |_=>false
noncomputable def mw(σ:Sg)(op:Operator)(x y:V):Option (V×Sg):=(cR y).elim
 ((eG x).bind fun l=>(eG y).bind fun l'=>if sw op=true∧l.length+l'.length≤2^20 then some (.tup (l++l'),σ)else none)
 fun n=>(cR x).elim (if qw op=true then tL σ x n else none) fun a=>(Internal.binI op a n).map fun i=>(.int i,σ)
theorem u0{n:Int}(h:cR x=none):mw σ .Mult x (.int n)=tL σ x n:=by
 refine(?_:(cR x).elim (if qw .Mult=true then tL σ x n else none) _=_)
 rw[h]
 exact(if_pos rfl:(if qw .Mult=true then tL σ x n else none)=_)
theorem v_(h:l.length+l'.length≤2^20):mw σ .Add (.tup l) (.tup l')=some (.tup (l++l'),σ):=
 (if_pos ⟨rfl,h⟩:(if sw .Add=true∧l.length+l'.length≤2^20 then some (V.tup (l++l'),σ)else none)=_)
theorem tG{z:V}(ok:c.Ok)(st:aO c ρ σ s.heap)(g:Gd c s.heap)(e:mw σ op x y=some (z,J1))(r:R s.heap ρ x v)(q:R s.heap ρ y w):bk c A (binaryOp op v w) ρ s (.ok z J1):=by
 refine ii e (fun u_ e1=>ae e1 fun l hl e2=>ae e2 fun l' hl' e3=>bH e3 fun h e4=> ?_) fun n hn e1=>ii e1 (fun u_ e2=>bH e2 fun h e3=> ?_) fun a ha e2=>aM e2 fun i hi e3=> ?_
 ·obtain rfl:=eo hl;obtain rfl:=eo hl'
  cases z8 e4
  cases op with
  |Add=>exact oJ ok st g r q h.2
  |_=>exact bI h.1
 ·obtain rfl:=b9 hn;obtain⟨_,rfl⟩:=q.intQ
  cases op with
  |Mult=>exact un ok st g e3 r
  |_=>exact bI h
 ·obtain rfl:=b9 hn;obtain rfl:=b9 ha
  cases e3
  obtain⟨_,rfl⟩:=r.intQ;obtain⟨_,rfl⟩:=q.intQ;exact ti st g hi
noncomputable def yV(f:fL)(en:En)(σ:Sg)(l:Expr)(op:Operator)(r:Expr):Option (aD V):=
 au (f en σ l) fun x J2=>au (f en J2 r) fun y J6=>(mw J6 op x y).map fun z=> .ok z.1 z.2
theorem sY{f:fL}{l r:Expr}(hf:bE c d f)(e:yV f en σ l op r=some o)(a:At c A env en ρ σ s d):bk c A (eval (.BinOp l op r pos) env) ρ s o:=by
 refine wpAny_BinOp (aq.then (.refl a.st a.gd) e (fun o' h=>hf h a) fun x J2 v J5 Kd J4 J' J9 u_=>aq.then J4 J9 (fun o' h=>hf h (a.step J4)) fun y J6 w J8 Kl J7 Ky Km KM=> ?_)
 refine aK (H3.mp Km) fun z hz zz2=> ?_;subst zz2;exact(tG a.ok J7.sto J7.gd hz (KM.R J') Ky).last J7
theorem yv{f:fL}{x:Expr}(hf:bE c d f)(e:(au (f en σ x) fun v J2=>(cR v).map fun i=> .ok (.int (-i)) J2)=some o)(a:At c A env en ρ σ s d):
 bk c A (eval (.UnaryOp .USub x pos) env) ρ s o:=by
 refine wpAny_UnaryOp (aq.then (.refl a.st a.gd) e (fun o' h=>hf h a) fun x J2 v J5 Kd J4 J' J9 u_=> ?_)
 refine aM J9 fun i hi w=> ?_;subst w;obtain rfl:=b9 hi;obtain⟨_,rfl⟩:=J'.intQ;exact neg_int ⟨Kd,J4.trans (af.toks J4.sto J4.gd),.int⟩
theorem xX{f:fL}{x:Expr}(hf:bE c d f)(e:(au (f en σ x) fun v J2=>(bq J2 v).map fun b=> .ok (.bool (!b)) J2)=some o)(a:At c A env en ρ σ s d):
 bk c A (eval (.UnaryOp .Not x pos) env) ρ s o:=by
 refine wpAny_UnaryOp (aq.then (.refl a.st a.gd) e (fun o' h=>hf h a) fun x J2 v J5 Kd J4 J' J9 u_=> ?_)
 refine aK (H3.mp J9) fun b hb zz2=> ?_;subst zz2;exact not_value (bV (c:=c) J4.sto hb J' fun t=>⟨Kd,J4.trans (af.toks J4.sto J4.gd),.val⟩)
theorem uf{f:fL}{g:lf}{t b:Expr}(hf:bE c d f)(hg:eK c d g)(e:(au (g en σ t) fun v J2=>if v then f en J2 b else f en J2 e')=some o)(a:At c A env en ρ σ s d):
 bk c A (eval (.IfExp t b e' pos) env) ρ s o:=by
 refine wpAny_IfExp (aq.then (.refl a.st a.gd) e (fun o' h=>hg h a) fun x J2 v J5 Kd J4 J' J9 u_=> ?_)
 cases J'
 cases x
 ·exact(hf J9 (a.step J4)).last J4
 ·exact(hf J9 (a.step J4)).last J4
noncomputable def cZ(e:Expr):Bool:=e.ctorIdx.beq 22
theorem nP(h: ¬cZ e=true): ∀x p,e≠ .Starred x p:=fun x p q=>h (q▸rfl)
noncomputable def ak:List Expr→Bool
 |[]=>true
 |e::es=> !cZ e&&ak es
theorem bh(h:ak (e::es)=true):(¬cZ e=true)∧ak es=true:=
 have q:=FR.mp h
 ⟨fun r=>bI ((congrArg not r).symm.trans q.1),q.2⟩
theorem eu:ak es=true→ ∀x p,Expr.Starred x p∉es:=by
 induction es with
 |nil=>exact fun u_ u_ u_=>GD
 |cons e es ih=>exact fun h x p m=>(Gp.mp m).elim (fun q=>nP (bh h).1 x p q.symm) (ih (bh h).2 x p)
noncomputable def fj(f:fL)(en:En):Sg→List Expr→Option (aD (List V))
 |σ,[]=>some (.ok [] σ)
 |σ,e::es=>if cZ e=true then none else au (f en σ e) fun x J2=>au (fj f en J2 es) fun xs J6=>some (.ok (x::xs) J6)
theorem gc(h: ∀x p,e≠ .Starred x p):starEach (e::es) env=(false,eval e env)::starEach es env:=by
 cases e<;>first|rfl|exact absurd rfl (h _ _)
theorem o5{f:fL}(hf:bE c d f): ∀{σ:Sg} {ρ:Pl} {s:Shared} {o:aD (List V)},fj f en σ es=some o→At c A env en ρ σ s d→Cc c A (spliced (backTo pos (starEach es env))) ρ s o:=by
 induction es with
 |nil=>
  intro σ ρ s o e a;obtain rfl:=z8 e;exact IN (bW.now (.refl a.st a.gd) .nil)
 |cons x es ih=>
  intro σ ρ s o e a
  refine oA (rO (show(if cZ x=true then none else _)=some o from e)) fun hns e=> ?_
  refine II (aq.then (.refl a.st a.gd) e (fun o' h=>hf h a) fun y J2 v J5 Kd J4 J' J9 u_=>aq.then J4 J9 (fun o' h=>ih h (a.step J4)) fun ys J6 vs J8 Kl J7 Ky Km KM=> ?_) (gc (nP hns))
  obtain rfl:=H8 Km;exact bW.now J7 (.cons (KM.R J') Ky)
theorem uq{f:fL}(hf:bE c d f)(e:(au (fj f en σ es) fun xs J2=>if xs.length≤2^20 then some (.ok (.tup xs) J2)else none)=some o)(a:At c A env en ρ σ s d):
 bk c A (eval (.Tuple es k pos) env) ρ s o:=by
 refine wpAny_Tuple (aq.then (.refl a.st a.gd) e (fun o' h=>o5 hf h a) fun ys J2 vs J5 Kd J4 J' J9 u_=> ?_)
 refine bH J9 fun hz J9=> ?_
 ·obtain rfl:=H8 J9
  have S:af c Kd J5 Kd J2 {J5 with heap:=J5.heap.push (am vs 0)}:=af.push (t:=J5.toks) a.ok J4.sto J4.gd
  exact⟨by rw[←J'.length];exact Hu hz (by decide),bW.now (J4.trans S) (.tup (JF _ rfl) (J4.sto.new (Hv _)) (S.Rs J'))⟩
theorem uL{f:fL}(hf:bE c d f)(e:(au (fj f en σ es) fun xs J2=>if xs.length≤2^20 then some (.ok (.lst J2.length) (J2++[.lst xs]))else none)=some o)(a:At c A env en ρ σ s d):
 bk c A (eval (.List es pos) env) ρ s o:=by
 refine wpAny_List (aq.then (.refl a.st a.gd) e (fun o' h=>o5 hf h a) fun ys J2 vs J5 Kd J4 J' J9 u_=> ?_)
 refine bH J9 fun hz J9=> ?_
 ·obtain rfl:=H8 J9;have S:=af.pushList (n:=0) (t:=J5.toks) a.ok J4.sto J4.gd J'
  exact⟨by rw[←J'.length];exact Hu hz (by decide),bW.now (J4.trans S) (.lst (J4.sto.last _))⟩
end
variable {tr:lf}{ev f:fL}
section
variable {env:Env}{d:Nat}
theorem d_.deep(r:d_ c ρ A d h):A.units+Internal.AX<cLine:=by
 have:=r.units;have e:Internal.AX=200:=rfl;exact dp ‹_› ac
noncomputable def jL(w:Bool→α)(f:fL)(en:En):List CmpOp→Sg→V→List Expr→Option (aD α)
 |[],_,_,_=>none
 |op::ops,σ,x,es=>match es with
  |[]=>none
  |e::es=>if ops.isEmpty=es.isEmpty then au (f en σ e) fun y J2=>(ed J2 op x y).bind fun b=>if(ops.isEmpty|| !b)=true then some (.ok (w b) J2)else jL w f en ops J2 y es else none
noncomputable abbrev qZ(f:fL)(en:En)(σ:Sg)(x:V)(ops:List CmpOp)(es:List Expr):Option (aD V):=jL V.bool f en ops σ x es
noncomputable abbrev rz(f:fL)(en:En)(σ:Sg)(x:V)(ops:List CmpOp)(es:List Expr):Option (aD Bool):=jL (fun b=>b) f en ops σ x es
theorem hH{w:Bool→α}{op:CmpOp}(h:f en σ e=some (.ok y J2))(hc:ed J2 op x y=some b):jL w f en [op] σ x [e]=some (.ok (w b) J2):=by
 show au (f en σ e) _=_;rw[h];show(ed J2 op x y).bind _=_;rw[hc];rfl
theorem fQ{w:Bool→α}{op op':CmpOp}{o:aD α}(h:f en σ e=some (.ok y J2))(hc:ed J2 op x y=some b)
 (k:(if(!b)=true then some (.ok (w b) J2)else jL w f en (op'::ops) J2 y (e'::es))=some o):jL w f en (op::op'::ops) σ x (e::e'::es)=some o:=by
 show au (f en σ e) _=_;rw[h];show(ed J2 op x y).bind _=_;rw[hc];exact k
theorem qS(hf:bE c d f)(h:qZ f en σ x ops es=some o)(a:At c A env en ρ σ s d)(r:R s.heap ρ x v):
 bk c A (compareChain pos v ops (evalEach es env)) ρ s o:=by
 induction ops generalizing es σ ρ s x v o with
 |nil=>exact no h
 |cons op ops ih=>
  cases es with
  |nil=>exact no h
  |cons e es=>
   refine bH (show(if ops.isEmpty=es.isEmpty then _ else none)=some o from h) fun hl h=> ?_
   cases ops with
   |nil=>
    cases es with
    |cons=>exact B7 hl
    |nil=>
     refine chain_last (aq.then (.refl a.st a.gd) h (fun o' q=>hf q a) fun y J2 w J5 Kd J4 J' J9 KB=> ?_)
     refine ae J9 fun b hb Km=> ?_;obtain rfl:=z8 Km;exact(gK J4.sto J4.gd a.room.deep hb (KB.R r) J').last J4
   |cons op' ops=>
    cases es with
    |nil=>exact bI hl
    |cons e' es=>
     refine chain_link (aq.then (.refl a.st a.gd) h (fun o' q=>hf q a) fun y J2 w J5 Kd J4 J' J9 KB=> ?_)
     refine ae J9 fun b hb Km=> ?_
     refine aq.go (gK (A:=A) J4.sto J4.gd a.room.deep hb (KB.R r) J') (fun z J6 q u J8 Kl J7 Ky=> ?_) (fun u_ u_ q=>by exact iO q)
     refine jD q fun zz1 zz2=> ?_;subst zz1;subst zz2;obtain rfl:=Ky.valQ;refine IO ?_
     cases b with
     |true=>exact aq.last (J4.trans J7) (ih (show qZ f en J2 y (op'::ops) (e'::es)=some o from Km) (a.step (J4.trans J7)) (J7.R J'))
     |false=>obtain rfl:=z8 Km;exact bW.now (J4.trans J7) .val
noncomputable def gD(f:fL)(en:En)(σ:Sg)(l:Expr)(ops:List CmpOp)(es:List Expr):Option (aD V):=
 if lastMarks ops es=true then none else au (f en σ l) fun x J2=>qZ f en J2 x ops es
set_option tactic.hygienic true in
theorem oZ{f:fL}{l:Expr}{ops:List CmpOp}{es:List Expr}{pos:Pos}{o:aD V}(hf:bE c d f)(e:gD f en σ l ops es=some o)(a:At c A env en ρ σ s d):bk c A (eval (.Compare l ops es pos) env) ρ s o:=by
 unfold gD at e
 split at e
 ·exact no e
 rename_i hm
 show H9 _ A (do compareChain pos (←eval l env) ops (markedEach ops es (evalEach es env))) _ _ s
 rw[markedEach_of_false _ _ _ (by simpa using hm)]
 refine H_ (aq.then (.refl a.st a.gd) e (fun o' q=>hf q a) fun y J2 w J5 Kd J4 J' J9 KB=> ?_)
 exact aq.last J4 (qS hf J9 (a.step J4) J')
theorem qg(hf:bE c d f){o:aD Bool}(h:rz f en σ x ops es=some o)(a:At c A env en ρ σ s d)(r:R s.heap ρ x v):
 pq c A (testChain pos v ops (evalEach es env)) ρ s o:=by
 induction ops generalizing es σ ρ s x v o with
 |nil=>exact no h
 |cons op ops ih=>
  cases es with
  |nil=>exact no h
  |cons e es=>
   refine bH (show(if ops.isEmpty=es.isEmpty then _ else none)=some o from h) fun hl h=> ?_
   cases ops with
   |nil=>
    cases es with
    |cons=>exact B7 hl
    |nil=>
     refine test_last (aq.then (.refl a.st a.gd) h (fun o' q=>hf q a) fun y J2 w J5 Kd J4 J' J9 KB=> ?_)
     refine ae J9 fun b hb Km=> ?_;obtain rfl:=z8 Km
     refine aq.go (gK (A:=A) J4.sto J4.gd a.room.deep hb (KB.R r) J') (fun z J6 q u J8 Kl J7 Ky=> ?_) (fun u_ u_ q=>by exact iO q)
     refine jD q fun zz1 zz2=> ?_;subst zz1;subst zz2;obtain rfl:=Ky.valQ;exact IO (bW.now (J4.trans J7) rfl)
   |cons op' ops=>
    cases es with
    |nil=>exact bI hl
    |cons e' es=>
     refine test_link (aq.then (.refl a.st a.gd) h (fun o' q=>hf q a) fun y J2 w J5 Kd J4 J' J9 KB=> ?_)
     refine ae J9 fun b hb Km=> ?_
     refine aq.go (gK (A:=A) J4.sto J4.gd a.room.deep hb (KB.R r) J') (fun z J6 q u J8 Kl J7 Ky=> ?_) (fun u_ u_ q=>by exact iO q)
     refine jD q fun zz1 zz2=> ?_;subst zz1;subst zz2;obtain rfl:=Ky.valQ;refine IO ?_
     cases b with
     |true=>exact aq.last (J4.trans J7) (ih (show rz f en J2 y (op'::ops) (e'::es)=some o from Km) (a.step (J4.trans J7)) (J7.R J'))
     |false=>obtain rfl:=z8 Km;exact bW.now (J4.trans J7) rfl
noncomputable def je(f:fL)(en:En)(op:BoolOp):Sg→List Expr→Option (aD V)
 |_,[]=>none
 |σ,[e]=>f en σ e
 |σ,e::e'::es=>au (f en σ e) fun x J2=>(bq J2 x).bind fun b=>if b=(op== .Or)then some (.ok x J2)else je f en op J2 (e'::es)
theorem sH{op:BoolOp}(hf:bE c d f): ∀{σ:Sg} {ρ:Pl} {s:Shared} {o:aD V},je f en op σ es=some o→At c A env en ρ σ s d→bk c A (boolOp pos op (evalEach es env)) ρ s o:=by
 induction es with
 |nil=>exact fun h u_=>no h
 |cons e es ih=>
  intro σ ρ s o h a
  cases es with
  |nil=>exact hf h a
  |cons e' es=>
  show H9 _ A (do
   let v←eval e env
   standAt pos
   let t←holding [v] (truthy v)
   match op,t with
   | .And,false| .Or,true=>pure v
   |_,_=>boolOp pos op (evalEach (e'::es) env)) _ _ s
  refine H_ (aq.then (.refl a.st a.gd) h (fun o' q=>hf q a) fun y J2 w J5 Kd J4 J' J9 KB=> ?_)
  refine ae J9 fun b hb J9=> ?_;refine H_ (Il (H_ (Ic (bV (c:=c) J4.sto hb J' fun t=> ?_))));have J7:=J4.trans (af.toks (t:=t) J4.sto J4.gd);refine eV J9 (fun hop J9=> ?_) fun hop J9=> ?_
  ·obtain rfl:=H8 J9;subst hop
   cases op<;>exact H' (bW.now J7 J')
  ·have:=aq.last J7 (ih J9 (a.step J7))
   cases op<;>cases b<;>first|exact absurd rfl hop|exact absurd (by decide) hop|exact this
theorem qX{op:BoolOp}(hf:bE c d f)(e:je f en op σ es=some o)(a:At c A env en ρ σ s d):bk c A (eval (.BoolOp op es pos) env) ρ s o:=sH hf e a
noncomputable def sM(g:lf)(en:En)(op:BoolOp):Sg→List Expr→Option (aD Bool)
 |σ,[]=>some (.ok (op== .And) σ)
 |σ,e::es=>au (g en σ e) fun b J2=>if b=(op== .Or)then some (.ok b J2)else sM g en op J2 es
theorem u5{g:lf}{op:BoolOp}(hg:eK c d g): ∀{σ:Sg} {ρ:Pl} {s:Shared} {o:aD Bool},sM g en op σ es=some o→At c A env en ρ σ s d→pq c A (allTrue op es env) ρ s o:=by
 induction es with
 |nil=>
  intro σ ρ s o h a;obtain rfl:=H8 h
  cases op
  ·exact wpAny_allTrue_And_nil (bW.now (.refl a.st a.gd) rfl)
  ·exact wpAny_allTrue_Or_nil (bW.now (.refl a.st a.gd) rfl)
 |cons e es ih=>
  intro σ ρ s o h a
  cases op
  ·refine wpAny_allTrue_And_cons (aq.then (.refl a.st a.gd) h (fun o' q=>hg q a) fun y J2 w J5 Kd J4 J' J9 KB=> ?_)
   cases J'
   cases y
   ·obtain rfl:=H8 J9;exact bW.now J4 rfl
   ·exact aq.last J4 (ih J9 (a.step J4))
  ·refine wpAny_allTrue_Or_cons (aq.then (.refl a.st a.gd) h (fun o' q=>hg q a) fun y J2 w J5 Kd J4 J' J9 KB=> ?_)
   cases J'
   cases y
   ·exact aq.last J4 (ih J9 (a.step J4))
   ·obtain rfl:=H8 J9;exact bW.now J4 rfl
noncomputable def fx(e:Expr):Bool:= !(e.ctorIdx.beq 0||e.ctorIdx.beq 3||e.ctorIdx.beq 5||e.ctorIdx.beq 15)
noncomputable def zx:UnaryOp→Bool
 | .Not=>true
 |_=>false
noncomputable def xC(f:fL)(en:En)(σ:Sg)(e:Expr):Option (aD Bool):=au (f en σ e) fun x J2=>(bq J2 x).map fun b=> .ok b J2
noncomputable def As(f:fL)(g:lf)(en:En)(σ:Sg)(e:Expr):Option (aD Bool):=match e with
 | .UnaryOp op x _=>if zx op=true then au (g en σ x) fun b J2=>some (.ok (!b) J2)else none
 | .BoolOp op es _=>sM g en op σ es
 | .IfExp t b e' _=>au (g en σ t) fun v J2=>if v then g en J2 b else g en J2 e'
 | .Compare l ops es _=>if lastMarks ops es=true then none else au (f en σ l) fun x J2=>rz f en J2 x ops es
 |e=>xC f en σ e
theorem yK{g:lf}(h:fx e=true):As f g en σ e=xC f en σ e:=by
 cases e<;>first|rfl|exact bI h
theorem nw{d5:Sem Value}(h:fx e=true):isTrue e env d5=(do let v←d5;standAt e.pos;holding [v] (truthy v)):=by
 cases e<;>first|rfl|exact bI h
theorem wi{o:aD Bool}(hf:bE c d f)(hp:fx e=true)(h:xC f en σ e=some o)(a:At c A env en ρ σ s d):pq c A (isTrue e env (eval e env)) ρ s o:=by
 refine wpAny_isTrue_value (aq.then (.refl a.st a.gd) h (fun o' q=>hf q a) fun y J2 w J5 Kd J4 J' J9 KB=> ?_) (nw hp)
 refine aK (H3.mp J9) fun b hb zz2=> ?_;subst zz2;exact bV (c:=c) J4.sto hb J' fun t=>bW.now (J4.trans (af.toks (t:=t) J4.sto J4.gd)) rfl
theorem yX{g:lf}{o:aD Bool}(hf:bE c d f)(hg:eK c d g)(h:As f g en σ e=some o)(a:At c A env en ρ σ s d):pq c A (isTrue e env (eval e env)) ρ s o:=by
 cases e with
 |UnaryOp op x p=>
  refine oA (iq (show(if zx op=true then _ else none)=some o from h)) fun hn h=> ?_
  cases op with
  |Not=>
   refine wpAny_isTrue_Not (aq.then (.refl a.st a.gd) h (fun o' q=>hg q a) fun y J2 w J5 Kd J4 J' J9 KB=> ?_)
   obtain rfl:=H8 J9;subst J';exact bW.now J4 rfl
  |_=>exact bI hn
 |BoolOp op es p=>exact wpAny_isTrue_BoolOp (u5 hg h a)
 |IfExp t b e' p=>
  show H9 _ A (do if←isTrue t env (eval t env)then isTrue b env (eval b env)else isTrue e' env (eval e' env)) _ _ s
  change let K0:=_;let Q0:=_;H9 _ _ (_>>=K0) Q0 _ _;intros
  refine H_ (aq.then (.refl a.st a.gd) h (fun o' q=>hg q a) fun y J2 w J5 Kd J4 J' J9 KB=> ?_)
  cases J'
  cases y
  ·exact aq.last J4 (hg J9 (a.step J4))
  ·exact aq.last J4 (hg J9 (a.step J4))
 |Compare l ops es p=>
  refine oA (rO (show(if lastMarks ops es=true then none else _)=some o from h)) fun hm h=> ?_
  show H9 _ A (do testChain p (←eval l env) ops (markedEach ops es (evalEach es env))) _ _ s
  rw[markedEach_of_false _ _ _ (by simpa using hm)]
  change let K0:=_;let Q0:=_;H9 _ _ (_>>=K0) Q0 _ _;intros
  refine H_ (aq.then (.refl a.st a.gd) h (fun o' q=>hf q a) fun y J2 w J5 Kd J4 J' J9 KB=> ?_)
  exact aq.last J4 (qg hf J9 (a.step J4) J')
 |_=>exact wi hf rfl h a
noncomputable def gf(f:fL)(en:En)(σ:Sg):Option Expr→Option (aD V)
 |none=>some (.ok .none σ)
 |some e=>f en σ e
theorem ju{x:Option Expr}(hf:bE c d f)(h:gf f en σ x=some o)(a:At c A env en ρ σ s d):bk c A (evalPart x env) ρ s o:=by
 cases x with
 |none=>
  obtain rfl:=H8 h;rw[evalPart_none];exact H' (bW.now (.refl a.st a.gd) .val)
 |some e=>rw[evalPart_some];exact hf h a
noncomputable def AZ(f:fL)(en:En)(J2:Sg)(x:V)(lo hi st:Option Expr):Option (aD V):=au (gf f en J2 lo) fun l J6=>au (gf f en J6 hi) fun u Kn=>au (gf f en Kn st) fun t KN=>
 (gB l).bind fun l=>(gB u).bind fun u=>(gB t).bind fun t=>(cn KN x l u t).map fun r=> .ok r.1 r.2
noncomputable def Bm(f:fL)(en:En)(J2:Sg)(x:V)(e:Expr):Option (aD V):=au (f en J2 e) fun i J6=>(cR i).bind fun i=>(gn J6 x i).map fun y=> .ok y J6
noncomputable def CD(f:fL)(en:En)(σ:Sg)(value slice:Expr):Option (aD V):=au (f en σ value) fun x J2=>if bz slice=true then Bm f en J2 x slice else(Ez slice).bind fun p=>AZ f en J2 x p.1.1 p.1.2.1 p.1.2.2.1
theorem mG(hf:bE c d f)(e:CD f en σ value slice=some o)(a:At c A env en ρ σ s d):bk c A (eval (.Subscript value slice pos) env) ρ s o:=by
 refine Subscript_ (aq.then (.refl a.st a.gd) e (fun o' q=>hf q a) fun x J2 w J5 Kd J4 J' J9 KB=> ?_)
 refine eV J9 (fun hn J9=> ?_) fun hn J9=> ?_
 ·refine aq.then J4 J9 (fun o' q=>hf q (a.step J4)) fun i J6 w₂ J8 Kl J7 Ky Km KM=> ?_
  refine ae Km fun i hi Km=>aM Km fun y hy zz=> ?_;subst zz;obtain rfl:=b9 hi;obtain⟨_,rfl⟩:=Ky.intQ;exact(ru J7.sto J7.gd hn hy (KM.R J')).last J7
 ·refine eO J9 fun p J9=> ?_;rw[p.2]
  ·skip
   refine wpAny_Slice (aq.then J4 J9 (fun o' q=>ju hf q (a.step J4)) fun l J6 vl J8 Kl J7 Ky Km KM=>aq.then J7 Km (fun o' q=>ju hf q (a.step J7)) fun u Kn vu Kv KR Kg KY KU Ld=>
    aq.then Kg KU (fun o' q=>ju hf q (a.step Kg)) fun t KN vt K6 KW Kr Lz La K7=> ?_)
   refine ae La fun l' hl Lg=>ae Lg fun u' hu Lh=>ae Lh fun t' ht LA=>aM LA fun q hy zz=> ?_;subst zz;refine Ia (pC (value:=value) (a:=p.1.1) (b:=p.1.2.1) (d:=p.1.2.2.1) a.ok Kr.sto Kr.gd (y:=q.1) (J1:=q.2) hy (K7.R (Ld.R (KM.R J'))) (mt hl (K7.R (Ld.R Ky))) (mt hu (K7.R KY)) (mt ht Lz)) (fun w s₅ q=> ?_) fun u_ u_ q=>q.elim;refine aK q fun Lm KE Lo=> ?_;exact bW.now (Kr.trans KE) Lo
noncomputable def cY:V→Bool
 | .val v=>handedIn v
 |_=>true
theorem o0(r:R h ρ x v)(e:cY x=true):handedIn v=true:=by
 cases r<;>first|rfl|exact e
noncomputable def eA(fs:List (Str×V))(name:Str):Option V:=(fs.find? (·.1==name)).map (·.2)
theorem Rf.get{es:List DictEntry}(r:Rf h ρ fs es):es.any (·.refKey)=false∧(match eA fs name with|some x=> ∃e,es.find? (·.key.isStr name)=some e∧R h ρ x e.val|none=>es.find? (·.key.isStr name)=none):=by
 induction r with
 |nil=>exact⟨rfl,rfl⟩
 | @cons n t x e fs es hk r rs ih=>
  have hs:e.key.isStr name=(n==name):=by rw[hk];rfl
  refine⟨by simp only[G3,ih.1,FX];unfold DictEntry.refKey;rw[hk],?_⟩
  unfold eA;simp only[List.find?_cons,hs]
  cases q:(n==name)with
  |true=>exact⟨e,rfl,r⟩
  |false=>exact ih.2
set_option tactic.hygienic true in
theorem Rf.getL{h:Heap}{name:Str}{fs:List (Str×V)}{es:List DictEntry}(r:Rf h ρ fs es):(match eA fs name with|some x=> ∃v,PySem.W.getL name es=some (some v)∧R h ρ x v|none=>PySem.W.getL name es=some none):=by
 refine oA (r.get (name:=name)) fun i1 i2=> ?_;unfold PySem.W.getL
 split
 ·rename_i x hx;rw[hx]at i2;refine aK i2 fun e he hr=> ?_
  exact⟨e.val,by rw[he],hr⟩
 ·rename_i hx;rw[hx]at i2;simp only at i2;rw[i2];simp[i1]
inductive yP where
 |val (x:V)
 |prop (f:Addr)
noncomputable def kh(x:Value):Option Addr:=if h:x.ctorIdx=10 then some (@JX.elim (fun u_=>Addr) x h fun a=>a)else none
theorem jn{x:Value}{i:Addr}(e:kh x=some i):x= .ref i:=pY e fun h u_=> @JX.elim (fun x=>kh x=some i→x= .ref i) x h (fun u_ e=>congrArg _ (H8 e)) e
noncomputable def z7:aa→Option (List (Str×V))
 | .dct l=>some l
 |_=>none
noncomputable def fm(σ:Sg)(k:Nat):Option (List (Str×V)):=σ[k]?.bind z7
theorem ou{l:List (Str×V)}(e:fm σ k=some l):σ[k]? =some (.dct l):=ae e fun x h w=>by
 cases x with
 |dct=>exact H8 w▸h
 |_=>exact no w
theorem kQ{l:List (Str×V)}(h:σ[k]? =some (.dct l)):fm σ k=some l:=by unfold fm;rw[h];rfl
theorem zS{l:List α}{a:α}(e:l.head?=some a): ∃r,l=a::r:=by
 cases l with
 |nil=>exact no e
 |cons b r=>exact⟨r,by rw[H8 e]⟩
noncomputable def fX(K:Frag)(fs:List (Str×V))(name:Str)(attr:Option Value):Option yP:=match eA fs name with
 |some y=>if(noGet K attr&&cY y)=true then some (.val y)else none
 |none=>attr.bind fun a=>(kh a).bind fun p=>if specialIn K (.ref p) "__get__"=some (some (.builtin "property.__get__"))∧takesIn K (.ref p)=some true then(recIn K p "property").bind fun l=>l.head?.bind fun f=>(kh f).map .prop else none
noncomputable def DQ:CFound→Option Value
 | .val a=>some a
 |_=>none
noncomputable def FJ:(x:CFound)→Option {p:Addr×Addr//x= .get (.builtin "staticmethod.__get__") (.ref p.1) .none (.ref p.2)}
 | .get (.builtin "staticmethod.__get__") (.ref p) .none (.ref C)=>some ⟨(p,C),rfl⟩
 |_=>none
theorem Df{x:CFound}{a:Value}(e:DQ x=some a):x= .val a:=by cases x<;>first|exact no e|exact congrArg _ (H8 e)
noncomputable def vv(v:Value):Option yP:=if handedIn v=true then some (.val (.val v))else none
noncomputable def BS(K:Frag)(name:Str)(C:Addr):Option yP:=(typeIn K (.ref C)).bind fun mc=>if readsIn K C mc=true then(findCls K (.ref C) mc name).bind fun r=>
 ((DQ r).bind vv).or ((FJ r).bind fun p=>if p.1.2=C then(recIn K p.1.1 "staticmethod").bind fun l=>l.head?.bind vv else none)
 else none
variable (c)in
noncomputable def jc(σ:Sg)(x:V)(name:Str):Option yP:=match x with
 | .inst C k=>(fm σ k).bind fun fs=>if(plainGet c.K C name&&hasDictIn c.K C)=true then(findIn c.K (.ref C) name).bind (fX c.K fs name)else none
 | .val v=>(kh v).bind (BS c.K name)
 |_=>none
theorem orE{x y:Option α}{b:α}(e:x.or y=some b)(h:x=some b→P)(k:y=some b→P):P:=by
 cases x with
 |none=>exact k e
 |some a=>exact h e
theorem nG{gt:yP}(e:vv v=some gt):handedIn v=true∧gt= .val (.val v):=bH e fun h w=>⟨h,(H8 w).symm⟩
theorem zY{gt:yP}(e:jc c σ x name=some gt)
 (k1: ∀C k fs attr y,x= .inst C k→σ[k]? =some (.dct fs)→plainGet c.K C name=true→hasDictIn c.K C=true→findIn c.K (.ref C) name=some attr→eA fs name=some y→noGet c.K attr=true→cY y=true→gt= .val y→P)
 (k2: ∀C k fs p f r,x= .inst C k→σ[k]? =some (.dct fs)→plainGet c.K C name=true→hasDictIn c.K C=true→findIn c.K (.ref C) name=some (some (.ref p))→specialIn c.K (.ref p) "__get__"=some (some (.builtin "property.__get__"))→takesIn c.K (.ref p)=some true→recIn c.K p "property"=some (.ref f::r)→gt= .prop f→P)
 (k3: ∀C mc a,x= .val (.ref C)→typeIn c.K (.ref C)=some mc→readsIn c.K C mc=true→findCls c.K (.ref C) mc name=some (.val a)→handedIn a=true→gt= .val (.val a)→P)
 (k4: ∀C mc p f r,x= .val (.ref C)→typeIn c.K (.ref C)=some mc→readsIn c.K C mc=true→findCls c.K (.ref C) mc name=some (.get (.builtin "staticmethod.__get__") (.ref p) .none (.ref C))→recIn c.K p "staticmethod"=some (f::r)→handedIn f=true→gt= .val (.val f)→P):P:=by
 cases x with
 |inst C k=>
  refine ae (show((fm σ k).bind _)=some gt from e) fun fs hk e=>bH e fun hp e=>ae e fun attr ha e=> ?_
  refine oA (FR.mp hp) fun hp hh=> ?_
  cases hy:eA fs name with
  |some y=>
   unfold fX at e;rw[hy]at e;exact bH e fun hn e=>k1 C k fs attr y rfl (ou hk) hp hh ha hy (FR.mp hn).1 (FR.mp hn).2 (H8 e).symm
  |none=>
   unfold fX at e;rw[hy]at e;refine ae e fun a ha' e=>ae e fun p hp' e=>bH e fun hs e=>ae e fun l hl e=>ae e fun f hf e=>aM e fun f' hf' w=> ?_;refine oE (zS hf) fun r zz1=> ?_;subst zz1;rw[ha',jn hp']at ha;rw[jn hf']at hl;exact k2 C k fs p f' r rfl (ou hk) hp hh ha hs.1 hs.2 hl w.symm
 |val v=>
  refine ae (show((kh v).bind _)=some gt from e) fun C hC e=>ae e fun mc hmc e=>bH e fun hr e=>ae e fun r hf e=>orE e (fun e=>ae e fun a ha e=> ?_) fun e=>ae e fun p u_ e=>bH e fun hC' e=>ae e fun l hl e=>ae e fun f hf' e=> ?_
  ·rw[Df ha]at hf
   exact k3 C mc a (by rw[jn hC]) hmc hr hf (nG e).1 (nG e).2
  ·obtain⟨⟨q,C'⟩,h⟩:=p;obtain rfl:C'=C:=hC';refine oE (zS hf') fun r' zz1=> ?_;subst zz1;rw[h]at hf
   exact k4 C' mc q f r' (by rw[jn hC]) hmc hr hf hl (nG e).1 (nG e).2
 |_=>exact no e
variable (c)in
noncomputable def lJ(A:Around)(code:Code)(ρ:Pl)(s:Shared)(o:aD V):Prop:=
 codeAny (model c.prog c.w) A code (fun r s'=>match r with| .ok (.ret v)=>bW c R ρ s o v s'| .ok _=>False| .error e=>cC c ρ s o e s') s
set_option tactic.hygienic true in
theorem kE{h:Heap}{ρ:Pl}{σ:Sg}{C k:Nat}{fs:List (Str×V)}{v:Value}(st:aO c ρ σ h)(hk:σ[k]? =some (.dct fs))(r:R h ρ (.inst C k) v):
 ∃x es n sl,v= .ref x∧InstAt h x (instObj C (ρ.r[k]?.getD 0)) C (some (fc es n sl))∧h.get? (ρ.r[k]?.getD 0)=some (fc es n sl)∧Rf h ρ fs es:=by
 cases r with
 |inst h1 f1 h2=>
 rename_i a dx
 refine lz (st.at_ _ _ _ h2 hk) fun es n sl h3 rf=> ?_
 have e:ρ.r[k]?.getD 0=dx:=by rw[h2];rfl
 rw[e];exact⟨a,es,n,sl,rfl,⟨h1,rfl,rfl,h3⟩,h3,rf⟩
theorem o8{expr:Bool}(ok:c.Ok)(st:aO c ρ σ s.heap)(g:Gd c s.heap)(e:jc c σ x name=some (.val y))(r:R s.heap ρ x v):bk c A (getAttr v name expr) ρ s (.ok y σ):=by
 have S:af c ρ s ρ σ {s with toks:=s.toks+1}:=af.toks st g
 refine zY e (fun C k fs attr y' hx hk hg hh ha hy hn hv q=> ?_) (fun C k fs p f r' hx hk hg hh ha h1 h2 hp q=>nomatch q) (fun C mc a hx hmc hr ha hh q=> ?_) fun C mc p f r' hx hmc hr ha hp hh q=> ?_
 ·subst hx;cases q;refine cr (kE st hk r) fun xa es n sl zz4 I hdx rf=> ?_;subst zz4;have hl:=rf.getL (name:=name);rw[hy]at hl;refine aK hl fun w hw rw'=> ?_
  exact get_value g.kin I (plainGet_of hg).1 (findObj_own hh ha hn (show lookIn name (fc es n sl)=_ from hw)) (o0 rw' hv) (bW.now S (S.R rw'))
 ·subst hx;cases q;obtain rfl:=r.valQ;exact cls_value g.kin hr ha hh (bW.now S .val)
 ·subst hx;cases q;obtain rfl:=r.valQ
  refine cls_bind g.kin hr ha (ID (sm_get (s:={s with toks:=s.toks+1}) S.gd.kin hp ?_))
  exact handed_on hh (bW.now S .val)
theorem sX{expr:Bool}{fget:Addr}(ok:c.Ok)(st:aO c ρ σ s.heap)(g:Gd c s.heap)(e:jc c σ x name=some (.prop fget))(r:R s.heap ρ x v)(hy:cY y=true)
 (h:lJ c A.in1 (.call (.ref fget) ⟨[v],[]⟩) ρ {s with toks:=s.toks+1} (.ok y J1)):bk c A (getAttr v name expr) ρ s (.ok y J1):=by
 have S:af c ρ s ρ σ {s with toks:=s.toks+1}:=af.toks st g
 refine zY e (fun C k fs attr y' hx hk hg hh ha hy hn hv q=>nomatch q) (fun C k fs p f r' hx hk hg hh ha h1 h2 hp q=> ?_) (fun C mc a hx hmc hr ha hh q=>nomatch q) fun C mc p f r' hx hmc hr ha hp hh q=>nomatch q;subst hx;cases q;refine cr (kE st hk r) fun xa es n sl zz4 I hdx rf=> ?_;subst zz4
 refine get_bind g.kin I (plainGet_of hg).1 (findObj_data (by refine aK (any_some hh) fun cd hc u_=> ?_;rw[hc];rfl) ha h1 h2) (plainGet_of hg).2 (ID (prop_get (s:={s with toks:=s.toks+1}) S.gd.kin hp (IA h fun r s' hr=> ?_)))
 cases r with
 |ok fl=>
  cases fl with
  |ret v=>
   refine aK hr fun J3 S' r'=> ?_;exact handed_on (o0 r' hy) (bW.now (S.trans S') r')
  |_=>exact hr.elim
 |error e=>exact hr.elim
noncomputable def aV(e:Expr):Bool:=e.ctorIdx.beq 16
noncomputable def aS(e:Expr):Bool:= !aV e
theorem lV{o:Expr}{attr:Str}{d5:Sem Value}(h:aS o=true):attributeBase o attr env d5=d5:=by
 cases o<;>first|rfl|exact bI h
noncomputable abbrev gA:=Sg→Addr→List V→List (Str×V)→Option (aD V)
inductive Rk(h:Heap)(ρ:Pl):List (Str×V)→List (Str×Value)→Prop
 |nil:Rk h ρ [] []
 |cons {n:Str} {x:V} {v:Value} {l:List (Str×V)} {vs:List (Str×Value)}:R h ρ x v→Rk h ρ l vs→Rk h ρ ((n,x)::l) ((n,v)::vs)
variable (c)in
noncomputable def dD(d:Nat)(f:gA):Prop:= ∀{A:Around} {ρ:Pl} {σ:Sg} {s:Shared} {a:Addr} {xs:List V} {ks:List (Str×V)} {vs:List Value} {kv:List (Str×Value)} {o:aD V},f σ a xs ks=some o→
 c.Ok→aO c ρ σ s.heap→Gd c s.heap→d_ c ρ A d s.heap→Rs s.heap ρ xs vs→Rk s.heap ρ ks kv→lJ c A (.call (.ref a) ⟨vs,kv⟩) ρ s o
theorem d_.in1(r:d_ c ρ A (d+1) h):d_ c ρ A.in1 d h where
 hand:=r.hand
 depth:=by have:=r.depth;show A.depth+d<recursionLimit;exact rm0 ‹_›
 units:=by have:=r.units;show A.units+1+8*d+220<cLine;exact ru1 ‹_›
 frames:=r.frames
noncomputable def r7(f:fL)(cf:gA)(en:En)(σ:Sg)(value:Expr)(name:Str):Option (aD V):=if aS value then au (f en σ value) fun x J2=>(jc c J2 x name).bind fun r=> @yP.casesOn (fun u_=>Option (aD V)) r (fun y=>some (.ok y J2)) fun fget=>(cf J2 fget [x] []).bind fun o=> @aD.casesOn V (fun u_=>Option (aD V)) o (fun y J6=>if cY y then some (.ok y J6)else none) fun u_ u_=>none
 else none
theorem mA{cf:gA}(hf:bE c (d+1) f)(hc:dD c d cf)(e:r7 (c:=c) f cf en σ value name=some o)(a:At c A env en ρ σ s (d+1)):bk c A (eval (.Attribute value name pos) env) ρ s o:=by
 refine bH e fun hp e=> ?_
 ·refine Attribute_any_ (aq.then (.refl a.st a.gd) e (fun o' h=>hf h a) fun x J2 v J5 Kd J4 J' J9 u_=> ?_) ?_
  ·refine ae J9 fun q hy J9=> ?_
   cases q with
   |val y=>
    obtain rfl:=H8 J9;exact(o8 a.ok J4.sto J4.gd hy J').last J4
   |prop fget=>
    refine ae J9 fun q hcf J9=> ?_
    cases q with
    |ok y J6=>
     refine bH J9 fun hh J9=> ?_;obtain rfl:=H8 J9
     have J7:af c Kd J5 Kd J2 {J5 with toks:=J5.toks+1}:=af.toks J4.sto J4.gd
     exact(sX a.ok J4.sto J4.gd hy J' hh (hc hcf a.ok J4.sto J4.gd (a.step J4).room.in1 (.cons J' .nil) .nil)).last J4
    |exc=>exact no J9
  ·rw[arm_eval_Attribute,lV hp]
end
variable {cf:gA}
section
variable {env:Env}{d:Nat}
noncomputable def BY(names:List Str):List (Str×α)→List (Str×α)→Option (List (Str×α))
 |sl,[]=>some sl
 |sl,(k,v)::r=>if names.contains k&& !(sl.lookup k).isSome then BY names (sl++[(k,v)]) r else none
noncomputable def h_:List (Str×α)→List (Str×α)→List (Str×α)
 |sl,[]=>sl
 |sl,(n,v)::r=>h_ (if(sl.lookup n).isNone then sl++[(n,v)]else sl) r
noncomputable def eQ(names:List Str)(pos:List α)(kw:List (Str×α))(ds:List α):Option (List (Str×α)):=
 if pos.length≤names.length∧ds.length≤names.length then
  (BY names (names.zip pos) kw).bind fun sl=>
   if((names.take (names.length-ds.length)).filter fun n=>(sl.lookup n).isNone).isEmpty then
    some (names.filterMap fun n=>((h_ sl ((names.drop (names.length-ds.length)).zip ds)).lookup n).map (n,·))
   else none
 else none
theorem xT{binds:List (Str×Value)}(h1:fd.params.posonlyargs=[])(h2:fd.params.kwonlyargs=[])(h3:fd.params.vararg=none)(h4:fd.params.kwarg=none)
 (hd: ∀{M:Model} {A:Around} {E:Value→Shared→Prop} {Q:Option (Array Value)→Shared→Prop},(∀r:Option (Array Value),(r.getD #[]).toList=ds→Q r s)→H9 M A (seqItems? fd.defaults) Q E s)
 (e:eQ (fd.params.args.map (·.arg)) vs kv ds=some binds):BindsTo s fd ⟨vs,kv⟩ binds:=by
 intro M A E Q hq;obtain⟨nm,qn,⟨po,as,va,ko,kd,ka,df⟩,bd,sc,gl,cl,dv,kwd,dc,pm,an,cd,ct,bl⟩:=fd;subst h1;subst h2;subst h3;subst h4;replace e:eQ (as.map (·.arg)) vs kv ds=some binds:=e;refine bH e fun hlen e1=>ae e1 fun sl hsl e2=>bH e2 fun hmiss e3=> ?_;obtain rfl:=H8 e3;unfold bindArgs;refine(?_:H9 _ _ (ForIn.forIn kv ((as.map (·.arg)).zip vs,[]) _>>=_) _ _ s)
 change let K0:=_;let Q0:=_;H9 _ _ (_>>=K0) Q0 _ _;intros
 refine H_ ?_
 change let B0:=_;H9 _ _ (forIn _ _ B0) _ _ _;intro B0
 refine(IP _ (fun rest b s'=>b.2=[]∧BY (as.map (·.arg)) b.1 rest=some sl∧s'=s) _ ?_ ?_ _ _ ⟨rfl,hsl,rfl⟩)
 ·intro p rest b s' hb;obtain⟨k,v⟩:=p;obtain⟨b1,b2⟩:=b;refine mF hb fun hb hk hs=> ?_;subst hb;refine bH hk fun hc hk2=> ?_;refine oA (FR.mp hc) fun hc1 hc2=> ?_
  refine c_ (by rw[show(List.contains (List.map (fun x:Arg=>x.arg) as) k)=true from hc1];rfl) ?_
  refine bU (fun q=>by rw[q]at hc2;exact bI hc2) ?_
  exact H' ⟨rfl,hk2,hs⟩
 ·intro b s' hb;obtain⟨b1,b2⟩:=b;refine mF hb fun hb hk hs=> ?_;subst hb;obtain rfl:=hs.symm;obtain rfl:=H8 hk
  change let K0:=_;let Q0:=_;H9 _ _ (_>>=K0) Q0 _ _;intros
  refine H_ (hd fun r hr=> ?_);subst hr
  have hdrop:((r.getD #[]).toList.drop ((r.getD #[]).toList.length-(as.map (·.arg)).length))=(r.getD #[]).toList:=by rw[Nat.sub_eq_zero_of_le hlen.2];rfl
  refine bU (by simpa using hlen.1) ?_
  refine hdrop.symm▸ ?_;refine bU (fun q=>bI ((congrArg not hmiss).symm.trans q)) ?_
  change let K0:=_;let Q0:=_;H9 _ _ (_>>=K0) Q0 _ _;intros
  refine H_ ?_
  change let B0:=_;H9 _ _ (forIn _ _ B0) _ _ _;intro B0
  refine(IP _ (fun rest b s''=>h_ b rest=h_ b1 (((as.map (·.arg)).drop ((as.map (·.arg)).length-(r.getD #[]).toList.length)).zip (r.getD #[]).toList)∧s''=s) _ ?_ ?_ _ _ ⟨rfl,rfl⟩)
  ·intro p rest b s'' hb;obtain⟨n,v⟩:=p;refine oA hb fun hb hs=> ?_
   by_cases q:(GC n b).isNone=true
   ·refine c_ q (H' ⟨?_,hs⟩);exact(congrArg (h_ · rest) (if_pos q).symm).trans hb
   ·refine bU q (H' ⟨?_,hs⟩);exact(congrArg (h_ · rest) (if_neg q).symm).trans hb
  ·intro b s'' hb;refine oA hb fun hb2 hs=> ?_;obtain rfl:=hs.symm
   change let K0:=_;let Q0:=_;H9 _ _ (_>>=K0) Q0 _ _;intros
   refine H_ (H' ?_)
   refine bU (show¬((!([]:List Str).isEmpty)=true)from by exact FT) ?_
   refine(show b=_ from hb2).symm▸ ?_
   refine H' (?_:Q (List.filterMap _ (as.map (·.arg)++[])) s);refine(Gz (as.map (·.arg))).symm▸ ?_;exact hq
inductive A5(h:Heap)(ρ:Pl):Option V→Option Value→Prop
 |no:A5 h ρ none none
 |so {x:V} {v:Value}:R h ρ x v→A5 h ρ (some x) (some v)
theorem A5.opt{a:Option V}{b:Option Value}(o:A5 h ρ a b):jV h ρ a b:=by
 cases o with
 |no=>exact .no
 |so r=>exact .so r
theorem dA{n:Str}{l:List (Str×V)}{vs:List (Str×Value)}(r:Rk h ρ l vs):A5 h ρ (l.lookup n) (vs.lookup n):=by
 induction r with
 |nil=>exact .no
 | @cons m x v l vs r rs ih=>
  rw[GF,GF]
  cases(n==m)with
  |true=>exact .so r
  |false=>exact ih
theorem A5.same{a:Option V}{b:Option Value}(o:A5 h ρ a b):a.isSome=b.isSome∧a.isNone=b.isNone:=by cases o<;>exact⟨rfl,rfl⟩
theorem Rk.snoc{n:Str}(r:R h ρ x v){l:List (Str×V)}{vs:List (Str×Value)}(q:Rk h ρ l vs):Rk h ρ (l++[(n,x)]) (vs++[(n,v)]):=Rk.rec (motive:=fun l vs u_=>Rk h ρ (l++[(n,x)]) (vs++[(n,v)])) (.cons r .nil) (fun q u_ ih=> .cons q ih) q
theorem rZ{ns:List Str}(r:Rs h ρ l vs):Rk h ρ (ns.zip l) (ns.zip vs):=
 Rs.ind (Q:=fun l vs=> ∀ns:List Str,Rk h ρ (ns.zip l) (ns.zip vs)) (fun ns=>by rw[List.zip_nil_right,List.zip_nil_right];exact .nil) (fun r u_ ih ns=>by
  cases ns with
  |nil=>exact .nil
  |cons n ns=>exact .cons r (ih ns)) r ns
theorem xw{ks:List (Str×V)}{sv:List (Str×Value)}{o:List (Str×V)}(r:Rk h ρ ks kv)(q:Rk h ρ sl sv)(e:BY N sl ks=some o): ∃ov,BY N sv kv=some ov∧Rk h ρ o ov:=by
 induction r generalizing sl sv with
 |nil=>exact⟨sv,rfl,H8 e▸q⟩
 | @cons n x v l vs r rs ih=>
  refine bH e fun hc e=> ?_
  refine(?_: ∃ov,(if N.contains n&& !(sv.lookup n).isSome then BY N (sv++[(n,v)]) vs else none)=some ov∧_)
  rw[←(dA (n:=n) q).same.1,if_pos hc];exact ih (q.snoc r) e
theorem ty{ks:List (Str×V)}{sv:List (Str×Value)}(r:Rk h ρ ks kv)(q:Rk h ρ sl sv):Rk h ρ (h_ sl ks) (h_ sv kv):=by
 induction r generalizing sl sv with
 |nil=>exact q
 | @cons n x v l vs r rs ih=>
  refine(?_:Rk h ρ (h_ (if(sl.lookup n).isNone then sl++[(n,x)]else sl) l) (h_ (if(sv.lookup n).isNone then sv++[(n,v)]else sv) vs))
  rw[←(dA (n:=n) q).same.2]
  by_cases p:(sl.lookup n).isNone=true
  ·rw[if_pos p,if_pos p];exact ih (q.snoc r)
  ·rw[if_neg p,if_neg p];exact ih q
theorem vd{sv:List (Str×Value)}(q:Rk h ρ sl sv)(N:List Str):Rk h ρ (N.filterMap fun n=>(sl.lookup n).map (n,·)) (N.filterMap fun n=>(sv.lookup n).map (n,·)):=by
 induction N with
 |nil=>exact .nil
 |cons n N ih=>
  have:=dA (n:=n) q;simp only[Ha];generalize sl.lookup n=a at*;generalize sv.lookup n=b at*
  cases this with
  |no=>exact ih
  |so r=>exact .cons r ih
set_option tactic.hygienic true in
theorem tD{h:Heap}{N:List Str}{l:List V}{vs:List Value}{ks:List (Str×V)}{kv:List (Str×Value)}{ds:List V}{dv:List Value}{o:List (Str×V)}(r:Rs h ρ l vs)(q:Rk h ρ ks kv)(p:Rs h ρ ds dv)(e:eQ N l ks ds=some o):
 ∃ov,eQ N vs kv dv=some ov∧Rk h ρ o ov:=by
 unfold eQ at e⊢;rw[←r.length,←p.length]
 split at e
 ·rename_i hl;rw[if_pos hl];refine aK (Option.bind_eq_some_iff.mp e) fun sl hsl e=> ?_;refine aK (xw q (rZ r) hsl) fun sv hsv qs=> ?_;rw[hsv,H7]
  have hf:((N.take (N.length-ds.length)).filter fun n=>(sv.lookup n).isNone)=((N.take (N.length-ds.length)).filter fun n=>(sl.lookup n).isNone):=by
   congr 1;funext n;exact(dA (n:=n) qs).same.2.symm
  rw[hf]
  split at e
  ·rename_i hm;obtain rfl:=H8 e;rw[if_pos hm];exact⟨_,rfl,vd (ty (rZ p) qs) N⟩
  ·exact no e
 ·exact no e
noncomputable def mx(env:Env):List Addr:=env.locals::env.scope.names.filterMap fun x=>if env.scope.names.lookup x.1=some .cell then env.cells.lookup x.1 else none
set_option tactic.hygienic true in
theorem a_.own{h:Heap}(e:a_ h ρ env en): ∀a∈mx env,a∈ρ.p:=by
 intro a m
 rcases Gp.mp m with rfl|m
 ·exact e.out
 ·refine aK (GU.mp m) fun x _ hx=> ?_
  split at hx
  ·rename_i hk
   refine bS (e.ce x.1 (by rw[←e.names];exact hk)) fun a' w h1 h2 h3 _=> ?_
   rw[h1]at hx;obtain rfl:=H8 hx;exact h3
  ·exact no hx
variable (c)in
structure bn(env:Env)(ρ:Pl)(s:Shared)(J3:Pl)(J1:Sg)(s':Shared):Prop where
 st:ad c (mx env) ρ s J3 J1 s'
 fo:ck (mx env) s.heap s'.heap
theorem ck.trans{D:List Addr}(x:ck D h h')(y:ck D h' h''):ck D h h'':=fun a m o e t=>by
 refine aK (x a m o e t) fun o' e' t'=> ?_;exact y a m o' e' t'
theorem bn.trans(x:bn c env ρ s J3 J1 s')(y:bn c env J3 s' KD KJ s''):bn c env ρ s KD KJ s'':=⟨x.st.trans y.st,x.fo.trans y.fo⟩
theorem af.fo{D:List Addr}(t:aO c ρ σ s.heap)(x:af c ρ s J3 J1 s')(d: ∀a∈D,a∈ρ.p):ck D s.heap s'.heap:=fun a m o e ⟨es,ep,hd⟩=>by
 refine aK (x.ext a o (fun z=>t.disj a (d a m) (by simpa using z)) e) fun o' e' q=> ?_
 exact⟨o',e',es,ep,q.dict hd⟩
theorem af.toS(t:aO c ρ σ s.heap)(x:af c ρ s J3 J1 s')(e:a_ s.heap ρ env en):bn c env ρ s J3 J1 s':=⟨x.D,x.fo t e.own⟩
inductive Fl where
 |next
 |brk
 |cont
 |ret (v:V)
inductive CR(h:Heap)(ρ:Pl):Fl→Flow→Prop
 |next:CR h ρ .next .next
 |brk:CR h ρ .brk .brk
 |cont:CR h ρ .cont .cont
 |ret {x:V} {v:Value}:R h ρ x v→CR h ρ (.ret x) (.ret v)
inductive aJ where
 |ok (f:Fl) (en:En) (σ:Sg)
 |exc (cls:String) (en:En) (σ:Sg)
variable (c)in
noncomputable def ge(env:Env)(ρ:Pl)(s:Shared)(o:aJ):Flow→Shared→Prop:=fun fl s'=>match o with
 | .ok f en' J1=> ∃J3,bn c env ρ s J3 J1 s'∧a_ s'.heap J3 env en'∧CR s'.heap J3 f fl
 | .exc .. =>False
variable (c)in
noncomputable def iG(env:Env)(ρ:Pl)(s:Shared)(o:aJ):Value→Shared→Prop:=fun e s'=>match o with
 | .exc cls en' J1=> ∃J3,bn c env ρ s J3 J1 s'∧a_ s'.heap J3 env en'∧fZ s'.heap J3 s.heap.objs.size cls e
 | .ok .. =>False
variable (c)in
noncomputable def eC(A:Around)(t:Sem Flow)(env:Env)(ρ:Pl)(s:Shared)(o:aJ):Prop:=H9 (model c.prog c.w) A t (ge c env ρ s o) (iG c env ρ s o) s
noncomputable def oI(A:Around)(env:Env):Prop:= ∃outer,A.frames=some (env::outer)
noncomputable abbrev Ep:=En→Sg→Stmt→Option aJ
noncomputable abbrev ei:=En→Sg→List Stmt→Option aJ
variable (c)in
noncomputable def C4(d:Nat)(f:Ep):Prop:= ∀{A:Around} {env:Env} {en:En} {ρ:Pl} {σ:Sg} {s:Shared} {e:Stmt} {o:aJ},f en σ e=some o→At c A env en ρ σ s d→oI A env→eC c A (exec e env) env ρ s o
variable (c)in
noncomputable def gi(d:Nat)(f:ei):Prop:= ∀{A:Around} {env:Env} {en:En} {ρ:Pl} {σ:Sg} {s:Shared} {e:List Stmt} {o:aJ},f en σ e=some o→At c A env en ρ σ s d→oI A env→eC c A (execs e env) env ρ s o
theorem At.stepS(a:At c A env en ρ σ s d)(x:bn c env ρ s J3 J1 s')(er:a_ s'.heap J3 env en'):At c A env en' J3 J1 s' d:=⟨a.ok,x.st.sto,x.st.gd,er,a.room.monoD a.st x.st x.fo⟩
theorem ge.trans{o:aJ}{fl:Flow}(x:bn c env ρ s J3 J1 s')(p:ge c env J3 s' o fl s''):ge c env ρ s o fl s'':=by
 cases o with
 |ok f en' J1=>refine cz p fun KD y e r=> ?_;exact⟨KD,x.trans y,e,r⟩
 |exc=>exact p
theorem iG.trans{o:aJ}{e:Value}(x:bn c env ρ s J3 J1 s')(p:iG c env J3 s' o e s''):iG c env ρ s o e s'':=by
 cases o with
 |exc cls en' J1=>refine cz p fun KD y e r=> ?_;exact⟨KD,x.trans y,e,r.mono x.st.rest.hsize⟩
 |ok=>exact p
theorem eC.last{t:Sem Flow}{o:aJ}(x:bn c env ρ s J3 J1 s')(h:eC c A t env J3 s' o):H9 (model c.prog c.w) A t (ge c env ρ s o) (iG c env ρ s o) s':=
 Ia h (fun u_ u_ p=>p.trans x) fun u_ u_ p=>p.trans x
noncomputable def Bq:Fl→Bool
 | .next=>true
 | .brk=>false
 | .cont=>false
 | .ret _=>false
noncomputable def CQ:aJ→Option (En×Sg)
 | .ok f en σ=>if Bq f=true then some (en,σ)else none
 | .exc _ _ _=>none
noncomputable def AR(f:Ep):En→Sg→List Stmt→Option aJ
 |en,σ,[]=>some (.ok .next en σ)
 |en,σ,e::es=>(f en σ e).bind fun so=>(CQ so).elim (some so) fun p=>AR f p.1 p.2 es
theorem uM{f:Ep}(hf:C4 c d f)(tp:oI A env){es:List Stmt}: ∀{en:En} {σ:Sg} {ρ:Pl} {s:Shared} {o:aJ},AR f en σ es=some o→At c A env en ρ σ s d→eC c A (execs es env) env ρ s o:=by
 induction es with
 |nil=>
  intro en σ ρ s o e a;obtain rfl:=H8 e;exact wpAny_execs_nil ⟨ρ,(af.refl a.st a.gd).toS a.st a.er,a.er,.next⟩
 |cons x es ih=>
  intro en σ ρ s o e a;refine wpAny_execs_cons ?_;refine ae e fun so hx e=> ?_
  cases so with
  |exc cls en' J1=>
   obtain rfl:=H8 e;exact Ia (hf hx a tp) (fun fl s' p=>p.elim) fun e s' p=>p
  |ok f' en' J1=>
   refine Ia (hf hx a tp) (fun fl s' p=> ?_) fun e s' p=>p.elim;refine cz p fun J3 S er r=> ?_
   cases r with
   |next=>exact(ih e (a.stepS S er)).last S
   |brk=>obtain rfl:=H8 e;exact⟨J3,S,er,.brk⟩
   |cont=>obtain rfl:=H8 e;exact⟨J3,S,er,.cont⟩
   |ret r=>obtain rfl:=H8 e;exact⟨J3,S,er,.ret r⟩
set_option tactic.hygienic true in
theorem aq.thenS{α β:Type}{rel:Heap→Pl→α→β→Prop}{t:Sem β}{Kj:Pl}{Ka:Shared}{en:En}{KG:Option (aD α)}{k:α→Sg→Option aJ}{o:aJ}{Q:β→Shared→Prop}(a:At c A env en ρ σ s d)(Ko:bn c env Kj Ka ρ σ s)
 (e:(match KG with|some (.ok x J1)=>k x J1|some (.exc cls J1)=>some (.exc cls en J1)|none=>none)=some o) (h: ∀o',KG=some o'→aq c rel A t ρ s o')
 (hk: ∀x J1 v s' J3,bn c env Kj Ka J3 J1 s'→At c A env en J3 J1 s' d→rel s'.heap J3 x v→k x J1=some o→af c ρ s J3 J1 s'→Q v s'):
 H9 (model c.prog c.w) A t Q (iG c env Kj Ka o) s:=by
 split at e
 ·rename_i x J1
  refine(h _ rfl).go (fun y KJ q v s' J3 st r=> ?_) (fun cls KJ q=>by exact iO q)
  refine jD q fun zz1 zz2=> ?_;subst zz1;subst zz2;exact hk _ _ _ _ _ (Ko.trans (st.toS a.st a.er)) (a.step st) r e st
 ·rename_i cls J1;obtain rfl:=H8 e
  refine(h _ rfl).go (fun x KJ q=>by exact Em q) (fun cls KJ q e s' f=> ?_)
  refine B5 q fun zz1 zz2=> ?_;subst zz1;subst zz2;refine aK f fun J3 st fl=> ?_;exact⟨J3,Ko.trans (st.toS a.st a.er),st.env a.st a.er,fl.mono Ko.st.rest.hsize⟩
 ·exact no e
noncomputable def bR(en:En)(KG:Option (aD α))(k:α→Sg→Option aJ):Option aJ:=match KG with
 |some (.ok x J1)=>k x J1
 |some (.exc cls J1)=>some (.exc cls en J1)
 |none=>none
theorem rA{o:aJ}(hf:bE c d f)(h:bR en (f en σ e) (fun x J1=>some (.ok (.ret x) en J1))=some o)(a:At c A env en ρ σ s d):eC c A (exec (.Return (some e) pos) env) env ρ s o:=by
 refine wpAny_Return_some (aq.thenS a ((af.refl a.st a.gd).toS a.st a.er) h (fun o' q=>hf q a) fun x J2 v J5 Kd J4 Ke J' J9 KB=> ?_);obtain rfl:=H8 J9;exact⟨Kd,J4,Ke.er,.ret J'⟩
theorem AJ{g:lf}{fs:ei}{t:Expr}{b e':List Stmt}{o:aJ}(hg:eK c d g)(hs:gi c d fs)(h:bR en (g en σ t) (fun x J1=>if x then fs en J1 b else fs en J1 e')=some o)(a:At c A env en ρ σ s d)(tp:oI A env):
 eC c A (exec (.If t b e' pos) env) env ρ s o:=by
 refine wpAny_If (aq.thenS a ((af.refl a.st a.gd).toS a.st a.er) h (fun o' q=>hg q a) fun x J2 v J5 Kd J4 Ke J' J9 KB=> ?_)
 cases J'
 cases x
 ·exact(hs J9 Ke tp).last J4
 ·exact(hs J9 Ke tp).last J4
end
variable {so:aJ}
section
variable {env:Env}{d:Nat}
noncomputable def En.set(en:En)(x:Str)(y:V):En:={en with own:=(x,y)::en.own}
theorem dI{b:Addr}{m:Str→Option Value}{v:Option Value}(n:h.Ns a m)(k:h.IsCell b v):b≠a:=fun e=>by
 subst e;refine iC n fun o es ep ho hd u_=> ?_;refine aK k fun o' ho' hd'=> ?_;rw[ho]at ho';obtain rfl:=H8 ho';rw[hd]at hd';cases hd'
theorem cK{x z:Str}{l:List (Str×V)}:GC z ((x,y)::l)=if z=x then some y else l.lookup z:=by
 rw[GF]
 by_cases h:z=x
 ·subst h;simp
 ·rw[if_neg h];have:(z==x)=false:=beq_eq_false_iff_ne.mpr h;rw[this]
theorem dG{x:Str}{Q:Unit→Shared→Prop}(a:At c A env en ρ σ s d)(hk:en.names.lookup x=some .local∨en.names.lookup x=some .cell)(r:R s.heap ρ y v)
 (h: ∀s',bn c env ρ s ρ σ s'→a_ s'.heap ρ env (en.set x y)→Q () s'):H9 (model c.prog c.w) A (storeName env x v) Q E s:=by
 have hkind:env.kindOf x=en.names.lookup x:=by rw[←a.er.names];rfl
 rcases hk with hl|hl
 ·refine aK a.er.lo fun m hn hm=> ?_
  refine wpAny_storeName_local (hkind.trans hl) hn (fun h' hn' hs'=> ?_) (by rw[a.er.kind];rfl)
  have S:ad c [env.locals] ρ s ρ σ {s with heap:=h',toks:=s.toks+1}:=ad.same (t:=s.toks+1) a.ok a.st a.gd a.er.out hs'
  have dp: ∀b∈[env.locals],b∈ρ.p:=by simpa using a.er.out
  refine h _ ⟨S.wider (by simp[mx]),fun b mb o e hd=> ?_⟩ ⟨a.er.kind,a.er.names,a.er.gl,a.er.bi,⟨_,hn',fun z hz=> ?_⟩,fun z hz=> ?_,fun z hz=> ?_,a.er.out,a.er.ap,a.er.cd⟩
  ·by_cases q:b=env.locals
   ·subst q;refine iC hn' fun o' es ep ho' hd' u_=> ?_;exact⟨o',ho',es,ep,hd'⟩
   ·exact⟨o,(hs'.2 b q).trans e,hd⟩
  ·show jV h' ρ (GC z ((x,y)::en.own)) _;rw[cK]
   split
   ·exact .so (ad.R dp S r)
   ·exact(hm z hz).mono (ad.off dp) S.ext S.le
  ·have hzx:z≠x:=fun q=>by subst q;rw[show(en.set z y).names=en.names from rfl,hl]at hz;cases H8 hz
   refine bS (a.er.ce z hz) fun b w h1 h2 h3 h4=> ?_;refine⟨b,w,h1,S.ext.cell (fun q=>(Gl.mp q).elim (fun q=>dI hn h2 (Gn.mp q)) (a.st.cell h2)) h2,h3,?_⟩;show jV h' ρ (GC z ((x,y)::en.own)) _;rw[cK,if_neg hzx];exact h4.mono (ad.off dp) S.ext S.le
  ·refine dy (a.er.fr z hz) fun b w h1 h2 h4=> ?_;exact⟨b,w,h1,S.ext.cell (fun q=>(Gl.mp q).elim (fun q=>dI hn h2 (Gn.mp q)) (a.st.cell h2)) h2,h4.mono (ad.off dp) S.ext S.le⟩
 ·refine bS (a.er.ce x hl) fun b w h1 h2 h3 h4=> ?_;refine wpAny_storeName_cell a.er.kind (hkind.trans hl) h1 h2 fun h' hc' hs'=> ?_
  have S:ad c [b] ρ s ρ σ {s with heap:=h'}:=ad.same (t:=s.toks) a.ok a.st a.gd h3 hs'
  have dp: ∀b'∈[b],b'∈ρ.p:=by simpa using h3
  have hb:b∈mx env:=by
   refine Hi _ (GU.mpr ?_)
   have hmem:(x,JP)∈env.scope.names:=by
    rw[a.er.names];exact mem_of_lookup hl
   exact⟨_,hmem,by rw[a.er.names,if_pos hl];exact h1⟩
  refine aK a.er.lo fun m hn hm=> ?_;have hbl:b≠env.locals:=dI hn h2
  refine h _ ⟨S.wider (by simpa using hb),fun b' mb o e hd=> ?_⟩ ⟨a.er.kind,a.er.names,a.er.gl,a.er.bi,⟨m,hn.sameBut hs' (Ne.symm hbl),fun z hz=> ?_⟩,fun z hz=> ?_,fun z hz=> ?_,a.er.out,a.er.ap,a.er.cd⟩
  ·by_cases q:b'=b
   ·subst q;refine rq hd fun es ep hd=> ?_;refine aK h2 fun o' ho' hd'=> ?_;rw[e]at ho';obtain rfl:=H8 ho';rw[hd]at hd';cases hd'
   ·exact⟨o,(hs'.2 b' q).trans e,hd⟩
  ·have hzx:z≠x:=fun q=>by subst q;rw[show(en.set z y).names=en.names from rfl,hl]at hz;cases H8 hz
   show jV h' ρ (GC z ((x,y)::en.own)) _;rw[cK,if_neg hzx];exact(hm z hz).mono (ad.off dp) S.ext S.le
  ·by_cases hzx:z=x
   ·subst hzx;refine⟨b,_,h1,hc',h3,?_⟩;show jV h' ρ (GC z ((z,y)::en.own)) _;rw[cK,if_pos rfl];exact .so (ad.R dp S r)
   ·refine bS (a.er.ce z hz) fun b' w' k1 k2 k3 k4=> ?_;have hne:b'≠b:=fun q=>hzx (a.er.ap z x b (q▸k1) h1);refine⟨b',w',k1,S.ext.cell (fun q=>(Gl.mp q).elim (fun q=>hne (Gn.mp q)) (a.st.cell k2)) k2,k3,?_⟩;show jV h' ρ (GC z ((x,y)::en.own)) _;rw[cK,if_neg hzx];exact k4.mono (ad.off dp) S.ext S.le
  ·refine dy (a.er.fr z hz) fun b' w' k1 k2 k4=> ?_
   have hzx:z≠x:=fun q=>by subst q;rw[show(en.set z y).names=en.names from rfl,hl]at hz;cases H8 hz
   have hne:b'≠b:=fun q=>hzx (a.er.ap z x b (q▸k1) h1);exact⟨b',w',k1,S.ext.cell (fun q=>(Gl.mp q).elim (fun q=>hne (Gn.mp q)) (a.st.cell k2)) k2,k4.mono (ad.off dp) S.ext S.le⟩
theorem uQ{k:Str→Option NameKind}{y:Str}(hy:k y=some .local)(l:List (Str×Value)): ∀(m:Str→Option Value),bindL k l m y=(l.reverse.lookup y).or (m y):=by
 induction l with
 |nil=>exact fun u_=>rfl
 |cons p r ih=>
  intro m;unfold bindL;rw[ih,GV,Hc]
  cases r.reverse.lookup y with
  |some w=>rfl
  |none=>
   show(if k p.1=some .local then fun z=>if z=p.1 then some p.2 else m z else m) y=(match y==p.1 with|true=>some p.2|false=>none).or (m y)
   cases hb:y==p.1 with
   |true=>rw[←Gj hb,if_pos hy];exact if_pos rfl
   |false=>split;exact if_neg (ne_of_beq_false hb);rfl
theorem vV{k:Str→Option NameKind}{y:Str}(hy:k y≠some .local)(l:List (Str×Value)): ∀(m:Str→Option Value),bindC k l m y=(l.reverse.lookup y).or (m y):=by
 induction l with
 |nil=>exact fun u_=>rfl
 |cons p r ih=>
  intro m;unfold bindC;rw[ih,GV,Hc]
  cases r.reverse.lookup y with
  |some w=>rfl
  |none=>
   show(if k p.1=some .local then m else fun z=>if z=p.1 then some p.2 else m z) y=(match y==p.1 with|true=>some p.2|false=>none).or (m y)
   cases hb:y==p.1 with
   |true=>rw[←Gj hb,if_neg hy];exact if_pos rfl
   |false=>split;rfl;exact if_neg (ne_of_beq_false hb)
theorem Rk.append{l l':List (Str×V)}{v v':List (Str×Value)}(r:Rk h ρ l v)(q:Rk h ρ l' v'):Rk h ρ (l++l') (v++v'):=Rk.rec (motive:=fun l v u_=>Rk h ρ (l++l') (v++v')) q (fun r u_ ih=> .cons r ih) r
theorem Rk.reverse{l:List (Str×V)}{v:List (Str×Value)}(r:Rk h ρ l v):Rk h ρ l.reverse v.reverse:=
 Rk.rec (motive:=fun l v u_=>Rk h ρ l.reverse v.reverse) .nil (fun r u_ ih=>by rw[GV,GV];exact ih.append (.cons r .nil)) r
theorem Rk.mono(nl:ρ.Off S)(x:d9 c S h h')(le:ρ.Le h J3){l:List (Str×V)}{v:List (Str×Value)}(r:Rk h ρ l v):Rk h' J3 l v:=Rk.rec (motive:=fun l v u_=>Rk h' J3 l v) .nil (fun r u_ ih=> .cons (r.mono nl x le) ih) r
theorem af.Rk(x:af c ρ s J3 J1 s'){l:List (Str×V)}{v:List (Str×Value)}(r:Internal.Rk s.heap ρ l v):Internal.Rk s'.heap J3 l v:=r.mono (ad.off (by exact GH _)) x.ext x.le
noncomputable def rM(names:List (Str×NameKind)):Bool:=names.all fun n=>n.2 != .free&&(n.2 != .cell||((cellsFrom 0 names []).lookup n.1).isSome)
theorem kZ{y:Str}(h:((cellsFrom 0 names []).lookup y).isSome=true):((cellsFrom n names []).lookup y).isSome=true:=by
 have e:=cellsFrom_names names 0 n [] [] rfl
 have key: ∀(l l':List (Str×Addr)),l.map (·.1)=l'.map (·.1)→(l.lookup y).isSome=(l'.lookup y).isSome:=by
  intro l
  induction l with
  |nil=>intro l' q;cases l' with|nil=>rfl|cons=>trivial
  |cons p l ih=>
   intro l' q
   cases l' with
   |nil=>trivial
   |cons p' l'=>
    simp only[List.map_cons,List.cons.injEq]at q;obtain⟨a,b⟩:=p;obtain⟨a',b'⟩:=p';obtain⟨q1,q2⟩:=q;simp only at q1;subst q1;simp only[GF]
    cases(y==a)with
    |true=>rfl
    |false=>exact ih _ q2
 rw[←key _ _ e];exact h
noncomputable def mo:Value→Option Addr
 | .ref a=>some a
 |_=>none
theorem v8(h:mo v=some a):v= .ref a:=by
 cases v<;>cases h
 rfl
theorem C_{qual:Str}{func:Option Addr}{code:Value}{L:Addr}{bv:List (Str×Value)}(ok:c.Ok)(st:aO c ρ σ s.heap)(g:Gd c s.heap)
 (hk:scope.kind= .function) (hs:rM scope.names=true) (r:Internal.Rk s.heap ρ binds bv)
 (x:InCallC s (newEnv scope L mainGlobals (cellsFrom (L+1) scope.names []) qual func code none builtinsNs).locals (bindL (newEnv scope L mainGlobals (cellsFrom (L+1) scope.names []) qual func code none builtinsNs).kindOf bv fun u_=>none)
  (newEnv scope L mainGlobals (cellsFrom (L+1) scope.names []) qual func code none builtinsNs).cells (bindC (newEnv scope L mainGlobals (cellsFrom (L+1) scope.names []) qual func code none builtinsNs).kindOf bv fun u_=>none) J5):
 ∃Kd,af c ρ s Kd σ J5∧L∈Kd.p∧a_ J5.heap Kd (newEnv scope L mainGlobals (cellsFrom (L+1) scope.names []) qual func code none builtinsNs) ⟨scope.names,binds.reverse,[],mo code⟩:=by
 refine rq x.toInCall.same fun h' tk zz2=> ?_;subst zz2;have hn:h'.Ns L _:=x.toInCall.ns;have hfr:s.heap.objs.size≤L:=x.toInCall.fresh;have hz:s.heap.objs.size≤h'.objs.size:=Hu hfr (HH hn.lt)
 have S:af c ρ s ⟨ρ.r,L::((scope.names.filterMap fun y=>(cellsFrom (L+1) scope.names []).lookup y.1)++ρ.p)⟩ σ {s with heap:=h',toks:=tk}:=by
  refine ad.write ok st g (by exact GH _) (fun b o u_ e=>x.toInCall.keep b o e) hz (fun a m=> ?_) (fun a m=>by simp[m])
  rcases Gp.mp m with rfl|m
  ·exact .inr ⟨hfr,hn.lt⟩
  ·rcases Gl.mp m with m|m
   ·refine aK (GU.mp m) fun y u_ hy=> ?_;refine aK (x.cell y.1 a hy) fun o ho u_=> ?_;exact .inr ⟨Hu hfr (HH (x.above y.1 a (mem_of_lookup hy))),JI ho⟩
   ·exact .inl m
 have rr:=(S.Rk r).reverse;refine⟨_,S,.head _,⟨hk,rfl,rfl,rfl,⟨_,hn,fun y hy=> ?_⟩,fun y hy=> ?_,fun y hy=> ?_,.head _,fun y z a h1 h2=> ?_,fun cc h=>v8 h⟩⟩
 ·rw[uQ hy,Option.or_none];exact(dA rr).opt
 ·have hm:(y,JP)∈scope.names:=mem_of_lookup hy;have h1:=Gw.mp hs _ hm
  have h2:((cellsFrom 0 scope.names []).lookup y).isSome=true:=by trivial
  refine oE (H4.mp (kZ (n:=L+1) h2)) fun a ha=> ?_;refine⟨a,_,ha,x.cell y a ha,?_,?_⟩
  ·exact .tail _ (Gl.mpr (.inl (GU.mpr ⟨_,hm,ha⟩)))
  ·have hne:(newEnv scope L mainGlobals (cellsFrom (L+1) scope.names []) qual func code none builtinsNs).kindOf y≠some .local:=by
    show scope.names.lookup y≠_
    rw[show scope.names.lookup y=some .cell from hy];decide
   rw[vV hne,Option.or_none];exact(dA rr).opt
 ·have h1:=Gw.mp hs _ (mem_of_lookup hy:(y,JO)∈scope.names);trivial
 ·exact name_of_addr x.apart (mem_of_lookup h1) (mem_of_lookup h2)
structure jf(F:List Addr)(e:Addr)(oe:Obj)(h h':Heap):Prop where
 size:h'.objs.size=h.objs.size+1
 keep: ∀b o,b≠e→b∉F→h.get? b=some o→h'.get? b=some o
 slots: ∀b o,b≠e→h.get? b=some o→ ∃sl,h'.get? b=some {o with slots:=sl}
 exc:h'.get? e=some (JQ (·.setIfInBounds 1 (.ref h.objs.size)) oe)
 tb: ∃oT ts,h'.get? h.objs.size=some oT∧oT.data= .fields ts∧ts[3]? =some .none
theorem jp{base:Heap}{L e:Addr}{oe:Obj}{vs:Array Value}{head:Value}{hadNext:Bool}{Q:Unit→Shared→Prop}
 (hfr:A.frames=some (env::outer)) (hl:s.heap.FunFrames base (env::outer)) (hf:env.frame=some L) (he:s.heap.get? e=some oe) (hd:oe.data= .fields vs) (hsz:1<vs.size)
 (h: ∀h',jf ((env::outer).filterMap (·.frame)) e oe s.heap h'→Q () {s with heap:=h'}):
 H9 M A (do let a←frameOf env;let pl←entryPlaceOf L hadNext;let b←EntryCells.newEntry head a .none (rawInt L) .none pl;setField (.ref e) 1 b) (fun u_ s'=>H9 M A (setFlight (.ref e) none) Q E s') E s:=by
 have hene:e∉(env::outer).filterMap (·.frame):=fun hm=>by
  refine Dy (hl.mem hm) fun u_ o ho hnf=> ?_;rw[he]at ho;obtain rfl:=H8 ho;exact hnf vs hd
 refine H_ (wpAny_frameOf_fun hfr hl hf fun Kc KQ=> ?_);refine H_ (wpAny_entryPlaceOf fun pl hpl=> ?_);unfold EntryCells.newEntry newFields;refine H_ (Ig ?_ (hpl.sizeOk5 _ _ _ _ _));have LP:Kc.get? e=some oe:=(KQ.2.1 e hene).trans he
 have LQ:=JG (h:=Kc) {cls:= .type "traceback",dict:=none,data:= .fields ([head,.ref L,.none,rawInt L,.none]++(if pl.isEmpty then Gq 6 JY else pl)).toArray} LP
 refine Iw LQ hd hsz ?_;have hlt:e<Kc.objs.size:=JI LP;have hTe:Kc.objs.size≠e:=HJ hlt;have LR:=JS hd (·.setIfInBounds 1 (JX Kc.objs.size));have LS:=JJ (JQ (·.setIfInBounds 1 (JX Kc.objs.size))) LQ (JT LR)
 have LT:=(JM (Kc.push {cls:= .type "traceback",dict:=none,data:= .fields ([head,.ref L,.none,rawInt L,.none]++(if pl.isEmpty then Gq 6 JY else pl)).toArray})
  (JQ (·.setIfInBounds 1 (JX Kc.objs.size))) (Ne.symm hTe)).trans (JF Kc rfl)
 unfold setFlight
 refine H_ (Ib LS LR (x:= .ref Kc.objs.size) (by exact FQ hsz) ?_)
 refine c_ ((show(JX Kc.objs.size !=JY)=true from by simp)) ?_
 refine Iw LT rfl (by simp only[GR,GE,GI,List.length_nil]<;>omega) (h _ ?_)
 have hz:Kc.objs.size=s.heap.objs.size:=KQ.1;have keep: ∀b o,b≠e→Kc.get? b=some o→
  (((Kc.push {cls:= .type "traceback",dict:=none,data:= .fields ([head,.ref L,.none,rawInt L,.none]++(if pl.isEmpty then Gq 6 JY else pl)).toArray}).update e (JQ (·.setIfInBounds 1 (JX Kc.objs.size)))).update Kc.objs.size
    (JQ (·.setIfInBounds 3 ((none:Option Addr).elim JY fun f=>rawInt f)))).get? b=some o:=fun b o hbe hb=>by
  have hbT:Kc.objs.size≠b:=HJ (JI hb);rw[JM _ _ hbT,JM _ _ (Ne.symm hbe)];exact JG _ hb
 refine⟨?_,fun b o hbe hbF hb=>keep b o hbe ((KQ.2.1 b hbF).trans hb),fun b o hbe hb=> ?_,?_,?_⟩
 ·rw[JL,JL,JH,hz]
 ·refine oE (KQ.2.2 b o hb) fun sl hs=> ?_;exact⟨sl,keep b _ hbe hs⟩
 ·rw[JM _ _ hTe,←hz];exact LS
 ·have gT:=JJ (JQ (·.setIfInBounds 3 ((none:Option Addr).elim JY fun f=>rawInt f))) LT (JT (JS rfl _));rw[←hz]
  exact⟨_,_,gT,JS rfl _,by first|(rfl;done)|(rcases hpl with rfl|⟨_,_,_,_,_,_,_,rfl⟩<;>simp)⟩
theorem jf.step{l:List Env}{oa:Obj}{t:Nat}(ok:c.Ok)(st:aO c ρ σ s.heap)(g:Gd c s.heap)(ff:FF c ρ s.heap l)(ap:a∈ρ.p)(x:jf (l.filterMap (·.frame)) a oa s.heap h'):
 ad c [a] ρ s ⟨ρ.r,s.heap.objs.size::ρ.p⟩ σ {s with heap:=h',toks:=t}:=by
 have hz:s.heap.objs.size≤h'.objs.size:=by rw[x.size];exact Hz _
 have inF: ∀b∈l.filterMap (·.frame),c.n₀≤b∧ ∃o,s.heap.get? b=some o∧ ∃es ep,o.data= .dict es ep:=fun b m=>by
  refine aK (GU.mp m) fun env me hf=> ?_;refine lK (ff env me) fun u_ L o hf' u_ hn ho hd=> ?_;rw[hf]at hf';obtain rfl:=H8 hf';exact⟨hn,o,ho,hd⟩
 have ex:d9 c [a] s.heap h':=fun b o n e=>by
  have hb:b≠a:=fun q=>n (by simp[q])
  by_cases m:b∈l.filterMap (·.frame)
  ·refine Dy (inF b m) fun hn o' ho' hd=> ?_;rw[e]at ho';obtain rfl:=H8 ho';refine oE (x.slots b o hb e) fun sl hs=> ?_;exact⟨_,hs,.inr (.inl ⟨hn,hd,sl,rfl⟩)⟩
  ·exact⟨o,x.keep b o hb m e,.refl b o⟩
 have lo: ∀b∈[a],c.n₀≤b:=by simpa using(st.plow a ap).1
 have old: ∀b o,b<c.n₀→s.heap.get? b=some o→h'.get? b=some o:=fun b o hb e=>x.keep b o (fun q=>absurd hb (Hy.mpr (q▸(st.plow a ap).1))) (fun m=>absurd hb (Hy.mpr (inF b m).1)) e
 refine⟨Gu _,fun u_ m=> .inl m,fun b m=> ?_,fun b m=> .tail _ m,st.mono (P:=s.heap.objs.size::ρ.p) (Pl.Off.p (by simpa using ap)) ex (fun b m n=>st.disj a ap (by rw[Gn.mp n]at m;exact m)) hz (fun b m=> ?_) g.size,
  ex.mono fun b m=>Gl.mpr (.inl m),.heap hz,g.step ok lo ex (fun p hp=> ?_) hz⟩
 ·rcases Gp.mp m with rfl|q
  ·exact .inr (Hv _)
  ·exact .inl q
 ·rcases Gp.mp m with rfl|q
  ·exact .inr ⟨Hv _,by show s.heap.objs.size<h'.objs.size;rw[x.size];exact Hx _⟩
  ·exact .inl q
 ·exact(g.codes p hp).keep (fun o q=>old _ _ (ok.cold p hp).1 q) fun o q=>old _ _ (ok.told _ (ok.tcs p hp)) q
theorem jf.flew{F:List Addr}{oa:Obj}{vs:Array Value}{cls:String}(x:jf F a oa h h')(hc:oa.cls= .type cls)(hd:oa.data= .fields vs)(hsz:1<vs.size)(lt:a<h.objs.size)(na:n≤a)(ap:a∈ρ.p):
 fZ h' ⟨ρ.r,h.objs.size::ρ.p⟩ n cls (.ref a):=by
 refine dy x.tb fun oT ts k1 k2 k3=> ?_
 refine⟨a,_,_,rfl,x.exc,(JU ..).trans hc,JS hd _,na,.tail _ ap,.inr ⟨h.objs.size,oT,ts,by exact FQ hsz,Hu na (HH lt),.head _,HJ lt,k1,k2,k3⟩⟩
theorem gu{cls:String}{e:Value}{Q:Unit→Shared→Prop}(ok:c.Ok)(st:aO c ρ σ s.heap)(g:Gd c s.heap)(hfr:A.frames=some (env::outer))(hf:env.frame=some L)
 (ff:FF c ρ s.heap (env::outer)) (fl:fZ s.heap ρ n cls e)
 (h: ∀D J3 s',(∀a∈D,a∈ρ.p∧n≤a∧ ∃o vs,s.heap.get? a=some o∧o.data= .fields vs)→ad c D ρ s J3 σ s'→fZ s'.heap J3 n cls e→Q () s'):H9 (model c.prog c.w) A (noteFrame e env) (fun u_ s'=>H9 (model c.prog c.w) A (setFlight e none) Q E s') E s:=by
 refine f_ fl fun a oa vs zz3 ha hc hd na ap h1=> ?_;subst zz3;have hlt:a<s.heap.objs.size:=JI ha;unfold noteFrame;simp only[hf]
 rcases h1 with h1|⟨T,oT,ts,h1,nT,Tp,hTa,hT,hdT,h3⟩
 ·refine H_ (Ib ha hd h1 ?_)
  refine bU (by decide) ?_
  have hsz:1<vs.size:=(FP.mp h1).1;refine jp hfr (ff.fun_ ok) hf ha hd hsz fun h' x=> ?_
  exact h [a] _ _ (by simp only[Gn,forall_eq];exact⟨ap,na,oa,vs,ha,hd⟩) (x.step (t:=s.toks) ok st g ff ap) (x.flew hc hd hsz hlt na ap)
 ·refine H_ (Ib ha hd h1 ?_)
  refine c_ ((show(JX T !=JY)=true from by simp)) ?_
  refine H_ (Ib hT hdT h3 ?_)
  refine bU ((show¬((JY==rawInt L)=true)from by simp[rawInt])) ?_
  have hsz:1<vs.size:=(FP.mp h1).1;refine H_ (Iw hT hdT (FP.mp h3).1 ?_)
  have J4:ad c [T] ρ s ρ σ {s with heap:=s.heap.update T (JQ (·.setIfInBounds 3 JY))}:=ad.same (t:=s.toks) ok st g Tp (JN ..)
  have LU:(s.heap.update T (JQ (·.setIfInBounds 3 JY))).get? a=some oa:=(JM _ _ hTa).trans ha
  have LV:FF c ρ (s.heap.update T (JQ (·.setIfInBounds 3 JY))) (env::outer):=ff.mono st J4 fun b m o e ⟨es,ep,hd'⟩=>by
   rw[Gn.mp m,hT]at e;obtain rfl:=H8 e;rw[hdT]at hd';cases hd'
  refine jp (s:={s with heap:=s.heap.update T (JQ (·.setIfInBounds 3 JY))}) hfr (LV.fun_ ok) hf LU hd hsz fun h' x=> ?_
  have J7:=x.step (t:=s.toks) ok J4.sto J4.gd LV ap
  refine h [T,a] _ _ (by simp only[Gp,List.mem_nil_iff,or_false,forall_eq_or_imp,forall_eq];exact⟨⟨Tp,nT,oT,ts,hT,hdT⟩,ap,na,oa,vs,ha,hd⟩) ((J4.wider (by exact Hd ..)).trans (J7.wider (by simp))) (x.flew hc hd hsz ?_ na ap)
  exact JI LU
theorem nF{cls:String}{e:Value}{Q:Unit→Shared→Prop}(ok:c.Ok)(st:aO c ρ σ s.heap)(g:Gd c s.heap)(hfr:A.frames=some (env::outer))(hf:env.frame=some L)
 (ff:FF c ρ s.heap (env::outer)) (fl:fZ s.heap ρ n cls e)
 (h: ∀D J3 s',(∀a∈D,a∈ρ.p∧n≤a∧ ∃o vs,s.heap.get? a=some o∧o.data= .fields vs)→ad c D ρ s J3 σ s'→fZ s'.heap J3 n cls e→Q () s'):H9 (model c.prog c.w) A (leaving env e) Q E s:=by
 unfold leaving;exact H_ (gu ok st g hfr hf ff fl h)
noncomputable def ly(K:Frag)(a:Addr):Option FuncData:=(K.lookup a).bind fun o=>(Ae o.data).map (·.1)
theorem yO(h:ly K a=some fd): ∃o,K.lookup a=some o∧o.data= .func fd:=ae h fun o ho h=>aM h fun f u_ q=>⟨o,ho,q▸f.2⟩
noncomputable def v9(K:Frag)(fd:FuncData):Bool:=(kh fd.code).any fun cc=>(K.lookup cc).any fun o=>(yB o.data).any fun vs=>(vs.1[1]?).any fun v=>(FI v).any fun q=>q.1.1==fd.qualname
theorem sF(X:K.In h)(e:v9 K fd=true):h.CodeRec fd.code fd.qualname:=
 jR e fun cc hc e=>jR e fun o ho e=>jR e fun vs u_ e=>jR e fun v hv e=>jR e fun q u_ e=>⟨cc,o,vs.1,q.1.2,jn hc,X _ _ ho,vs.2,hv.trans (congrArg some (q.2.trans (congrArg (fun x=>Value.str x q.1.2) (Gj e))))⟩
noncomputable def xm(v:Value):V:= @Value.casesOn (fun u_=>V) v (.val .none) (.val .ellipsis) (.val .notImplemented) (fun b=> .val (.bool b)) (fun i u_=> .int i) (fun a b=> .val (.float a b)) (fun x u_=> .str x) (fun a b=> .val (.bytes a b)) (fun a=> .val (.type a)) (fun a=> .val (.builtin a)) (fun a=> .val (.ref a))
theorem Dk(v:Value):R h ρ (xm v) v:=by cases v<;>first|exact .int|exact .str|exact .val
theorem DV: ∀l:List Value,Rs h ρ (l.map xm) l
 |[]=> .nil
 |v::l=> .cons (Dk v) (DV l)
noncomputable def jP(K:Frag)(fd:FuncData):Option (List Value):=if lE fd.defaults=true then some []else(kh fd.defaults).bind fun t=>(K.lookup t).bind fun o=>(FC o.data).map fun p=>p.1.1.toList
noncomputable def kB(K:Frag)(fd:FuncData):Bool:=
 fd.params.posonlyargs.isEmpty&&fd.params.kwonlyargs.isEmpty&&fd.params.vararg.isNone&&fd.params.kwarg.isNone&&fd.closure.isEmpty&&fd.globals==mainGlobals&&fd.builtins==builtinsNs&&fd.scope.kind== .function&& !fd.scope.isCoroutine&& !fd.scope.isGenerator&&rM fd.scope.names&&v9 K fd
noncomputable def gO(names:List (Str×NameKind))(binds:List (Str×V)):Bool:=binds.all fun b=>names.lookup b.1==some .local||names.lookup b.1==some .cell
noncomputable def flV:Fl→Option V
 | .ret v=>some v
 | .next=>some .none
 | .brk=>none
 | .cont=>none
noncomputable def ir:aJ→Option (aD V)
 | .ok f _ σ=>(flV f).map fun v=> .ok v σ
 | .exc cls _ σ=>some (.exc cls σ)
variable (c)in
noncomputable def vO(exs:ei):gA:=fun σ a xs ks=>(ly c.K a).bind fun fd=>if kB c.K fd=true then(vU fd.body).bind fun body=>(jP c.K fd).bind fun ds=>(eQ (fd.params.args.map (·.arg)) xs ks (ds.map xm)).bind fun binds=>
 if gO fd.scope.names binds=true then(exs ⟨fd.scope.names,binds.reverse,[],mo fd.code⟩ σ body).bind ir else none
 else none
theorem wn(X:c.K.In s.heap)(h:jP c.K fd=some ds){Q:Option (Array Value)→Shared→Prop}(q: ∀r:Option (Array Value),(r.getD #[]).toList=ds→Q r s):
 H9 M A (seqItems? fd.defaults) Q E s:=by
 refine eV h (fun hn h=> ?_) fun u_ h=>ae h fun a ha h=>ae h fun o ho h=>aM h fun p u_ h=> ?_
 ·obtain rfl:=H8 h;rw[iE hn];exact H' (q none rfl)
 ·rw[jn ha];exact Iu (X _ _ ho) p.2 (q (some p.1.1) h)
theorem Rk.keys{l:List (Str×V)}{v:List (Str×Value)}(r:Rk h ρ l v):v.map (·.1)=l.map (·.1):=Rk.rec (motive:=fun l v u_=>v.map (·.1)=l.map (·.1)) rfl (fun u_ u_ ih=>congrArg (_:: ·) ih) r
theorem tI{exs:ei}(he:gi c d exs):dD c (d+1) (vO c exs):=by
 intro A ρ σ s a xs ks vs kv o e ok st g room rx rk;refine ae e fun fd hfn J9=>bH J9 fun hp Km=>ae Km fun body hbody KU=>ae KU fun ds hds La=>ae La fun binds hb Lg=>bH Lg fun hbo Lh=>ae Lh fun so hso ho=> ?_;clear e J9 Km KU La Lg Lh;simp only[kB,FS,G4,Option.isNone_iff_eq_none,beq_iff_eq,FZ]at hp;refine dm fun kk=> ?_;obtain⟨⟨⟨⟨⟨⟨⟨⟨⟨⟨⟨p1,p2⟩,p3⟩,p4⟩,p5⟩,p6⟩,p7⟩,p8⟩,p9⟩,p10⟩,p11⟩,p12⟩:=hp<;>(refine kk ?_;clear kk)
 refine dm fun kk=> ?_;refine aK (yO hfn) fun fo hfo hfd=> ?_<;>(refine kk ?_;clear kk)
 refine dm fun kk=> ?_;refine aK (tD rx rk (DV ds) hb) fun bv hbv rb=> ?_<;>(refine kk ?_;clear kk)
 have hbind:BindsTo s fd ⟨vs,kv⟩ bv:=xT p1 p2 p3 p4 (fun q=>wn g.kin hds q) hbv
 have hkind: ∀x∈bv,fd.scope.names.lookup x.1=some .local∨(fd.scope.names.lookup x.1=some .cell∧((cellsFrom (s.heap.objs.size+1) fd.scope.names []).lookup x.1).isSome=true):=by
  intro x hx
  have hx':x.1∈binds.map (·.1):=by rw[←rb.keys];exact List.mem_map_of_mem hx
  refine dm fun kk=> ?_;refine aK (GA.mp hx') fun b hbm hbe=> ?_<;>(refine kk ?_;clear kk)
  have:=Gw.mp hbo b hbm;rw[hbe]at this;refine dm fun kk=> ?_
  rcases FU.mp this with q|q<;>(refine kk ?_;clear kk)
  ·exact .inl (by simpa using q)
  ·as_aux_lemma=>
    have q:fd.scope.names.lookup x.1=some .cell:=by simpa using q
    refine .inr ⟨q,kZ ?_⟩;have h1:=Gw.mp p11 _ (mem_of_lookup q);trivial
 refine codeAny_call_function (by have:=room.depth;exact rmz ‹_›) (g.kin _ _ hfo) hfd p9 p10 (xJ hbody) (sF g.kin p12) (hbind _ _ _ _ ?_)
 rw[p5,p6,p7]
 change let E0:=_;H9 _ _ _ _ E0 _;intros
 refine wpAny_newFunctionEnv_cells p8 hkind fun E hE J5 x=> ?_
 have en1: ∃Kd,af c ρ s Kd σ J5∧s.heap.objs.size∈Kd.p∧a_ J5.heap Kd E ⟨fd.scope.names,binds.reverse,[],mo fd.code⟩∧E.locals=s.heap.objs.size∧E.frame=some s.heap.objs.size∧ ∀b∈mx E,b∈([]:List Addr)∨s.heap.objs.size≤b:=by
  subst hE;refine cz (C_ ok st g p8 p11 rb x) fun Kd S hL er=>⟨Kd,S,hL,er,rfl,rfl,fun b m=> .inr ?_⟩
  rcases Gp.mp m with rfl|m
  ·exact Hv _
  ·refine aK (GU.mp m) fun y u_ hy=> ?_;refine oA (iq hy) fun hcc hy=> ?_;exact HH (x.above y.1 b (mem_of_lookup hy))
 refine cz en1 fun Kd S hL Kc=>td Kc fun er hloc hfrm own=> ?_;clear en1 Kc;refine⟨S.gd.lim,codeAny_func ?_⟩;have L2:d_ c Kd A (d+1) J5.heap:=S.room st room;refine aK L2.frames fun outer' hfr' hff'=> ?_
 have hff2:FF c Kd J5.heap (E::outer'):=by
  intro env m
  rcases Gp.mp m with rfl|m
  ·refine aK er.lo fun mm Kx u_=>iC Kx fun o' es ep ho' hd' u_=> ?_
   exact⟨by rw[er.kind];decide,_,o',hfrm,hL,(S.sto.plow _ hL).1,hloc▸ho',es,ep,hd'⟩
  ·exact hff' env m
 have at₁:At c (A.deeper E) _ ⟨fd.scope.names,binds.reverse,[],mo fd.code⟩ Kd σ J5 d:=
  ⟨ok,S.sto,S.gd,er,⟨room.hand,by have:=room.depth;show A.depth+1+d<_;exact E2 ‹_›,by have:=room.units;rw[Around.deeper_units];exact rux ‹_›,⟨_,IX hfr',hff2⟩⟩⟩
 refine Ia (he hso at₁ ⟨_,IX hfr'⟩) (fun f s' p=> ?_) fun e' s' p=> ?_
 ·cases so with
  |exc=>exact p.elim
  |ok fl en' J1=>
   refine aM ho fun v hv w=> ?_;subst w;refine cz p fun J3 T er' r=> ?_;have TT:=ad.trans' S T.st own
   cases r with
   |next=>obtain rfl:=H8 hv;exact⟨J3,TT,.val⟩
   |brk=>exact no hv
   |cont=>exact no hv
   |ret r=>obtain rfl:=H8 hv;exact⟨J3,TT,r⟩
 ·cases so with
  |ok=>exact p.elim
  |exc cls en' J1=>
   obtain rfl:=H8 ho;refine cz p fun J3 T er' fl=> ?_;have TT:=ad.trans' S T.st own;refine nF (n:=s.heap.objs.size) ok T.st.sto T.st.gd (IX hfr') hfrm (hff2.mono S.sto T.st T.fo) (fl.mono S.rest.hsize) fun D KD s'' hD U fl'=> ?_;exact⟨KD,ad.trans' TT U (fun b m=> .inr (hD b m).2.1),fl'⟩
noncomputable def cg(e:Expr):Bool:= !((8).ble e.ctorIdx&&e.ctorIdx.ble 10)
theorem oU{t:Option Expr}(h:cg e=true):swapsWith e t n env=pure false:=by
 cases e<;>first|rfl|exact bI h
noncomputable def bF(en:En)(x:Str):Bool:=en.names.lookup x==some .local||en.names.lookup x==some .cell
theorem cM{x:Str}(h:bF en x=true):en.names.lookup x=some .local∨en.names.lookup x=some .cell:=by
 rcases FU.mp h with q|q
 ·exact .inl (by simpa using q)
 ·exact .inr (by simpa using q)
theorem uV(a:At c A env en ρ σ s d):eC c A (exec (.Pass pos) env) env ρ s (.ok .next en σ):=wpAny_Pass ⟨ρ,(af.refl a.st a.gd).toS a.st a.er,a.er,.next⟩
theorem sQ(a:At c A env en ρ σ s d):eC c A (exec (.Break pos) env) env ρ s (.ok .brk en σ):=wpAny_Break ⟨ρ,(af.refl a.st a.gd).toS a.st a.er,a.er,.brk⟩
theorem nH(a:At c A env en ρ σ s d):eC c A (exec (.Continue pos) env) env ρ s (.ok .cont en σ):=wpAny_Continue ⟨ρ,(af.refl a.st a.gd).toS a.st a.er,a.er,.cont⟩
theorem ku(a:At c A env en ρ σ s d):eC c A (exec (.Return none pos) env) env ρ s (.ok (.ret .none) en σ):=wpAny_Return_none ⟨ρ,(af.refl a.st a.gd).toS a.st a.er,a.er,.ret .val⟩
noncomputable def uT(op:Operator)(a b:Int):Option Int:= @Operator.casesOn (fun u_=>Option Int) op (some (a+b)) (some (a-b)) (if bG a&&bG b then some (a*b)else none) none none none none none none none none none none
theorem sD{a b i:Int}{t:Tok}(st:aO c ρ σ s.heap)(g:Gd c s.heap)(e:uT op a b=some i):bk c A (inplaceOp op (.int a t) (.int b u)) ρ s (.ok (.int i) σ):=by
 have fin: ∀i',i'=i→ ∃J3,af c ρ s J3 σ {s with toks:=s.toks+1}∧R s.heap J3 (.int i) (.int i' s.toks):=fun i' q=>⟨ρ,.toks st g,q▸ .int⟩
 cases op with
 |Add=>obtain rfl:=H8 e;exact PyProof.Rows.iadd_int (fin _ rfl)
 |Sub=>obtain rfl:=H8 e;exact PyProof.Rows.isub_int (fin _ rfl)
 |Mult=>
  refine bH e fun h e=> ?_;obtain rfl:=H8 e;simp only[bG,FS,decide_eq_true_eq]at h;refine PyProof.Rows.imul_int (fin _ rfl) ?_;unfold IntMulOk;have:=lI h.1;simp[shortFactorBits];omega
 |_=>exact no e
theorem qe{x:Str}(st:aO c ρ σ s.heap)(g:Gd c s.heap)(er:a_ s.heap ρ env en)(hx:bF en x=true)(e:en.own.lookup x=some y):bk c A (loadName env x) ρ s (.ok y σ):=by
 have hk:env.kindOf x=en.names.lookup x:=by rw[←er.names];rfl
 rcases cM hx with hl|hl
 ·refine aK er.lo fun m hn hm=> ?_;have:=hm x hl;rw[e]at this;generalize hq:m x=q at this
  cases this with
  |so r=>exact wpAny_loadName_local er.kind (hk.trans hl) hn hq ⟨ρ,.refl st g,r⟩
 ·refine bS (er.ce x hl) fun a w h1 h2 u_ h3=> ?_;rw[e]at h3
  cases h3 with
  |so r=>exact wpAny_loadName_cell er.kind (hk.trans hl) h1 h2 ⟨ρ,.refl st g,r⟩
theorem ql{x:Str}{p:Pos}{o:aJ}{i:Int}(hf:bE c d f)(hx:bF en x=true)(hi:en.own.lookup x=some (.int i))
 (h:bR en (f en σ e) (fun y J1=>match y with| .int j=>(uT op i j).map fun k=> .ok .next (en.set x (.int k)) J1|_=>none)=some o) (a:At c A env en ρ σ s d):eC c A (exec (.AugAssign (.Name x p) op e pos) env) env ρ s o:=by
 refine wpAny_AugAssign_Name (aq.go (qe (A:=A) a.st a.gd a.er hx hi) (fun y KA q Lp Ka Kj Ko Kt=> ?_) (fun u_ u_ q=>by exact iO q))
 refine jD q fun zz1 zz2=> ?_;subst zz1;subst zz2;have KO:=a.step Ko;refine aq.thenS KO (Ko.toS a.st a.er) h (fun o' q=>hf q KO) fun y J2 v J5 Kd J4 Ke J' J9 KB=> ?_
 split at J9
 ·refine aK (H3.mp J9) fun k hk zz2=> ?_;subst zz2;obtain⟨_,rfl⟩:=Kt.intQ;obtain⟨_,rfl⟩:=J'.intQ
  refine aq.go (sD (A:=A) Ke.st Ke.gd hk) (fun z J6 q w J8 Kl J7 Ky=> ?_) (fun u_ u_ q=>by exact iO q)
  refine jD q fun zz1 zz2=> ?_;subst zz1;subst zz2;have Ku:=Ke.step J7;exact dG Ku (cM hx) Ky fun s' S' er'=>⟨Kl,(J4.trans (J7.toS Ke.st Ke.er)).trans S',er',.next⟩
 ·exact no J9
end
theorem jJ{p:Pos}{t:Sem Fin}{fs:List Frame}{e:End}(h:Runs M Γ p t fs s e s'):s.heap.objs.size≤s'.heap.objs.size:=by
 induction h<;>(try simp only[Shared.setGen,JH,JL]at*)<;>omega
theorem nR{p:Pos}{r:Result}(h:Returns M Γ p s r s'):s.heap.objs.size≤s'.heap.objs.size:=jJ h
theorem qT{p:Pos}{g:Nat}{r:Resume}{res:GenResult}(h:Wakes M Γ p g r s res s'):s.heap.objs.size≤s'.heap.objs.size:=by
 unfold Wakes at h
 split at h
 ·exact h.elim
 ·split at h
  ·refine bS h fun J9 J5 hr u_ u_ zz5=> ?_;subst zz5;exact(jJ hr:(s.setGen g .running).heap.objs.size≤J5.heap.objs.size)
  ·rw[h.2];exact Hv _
  ·rw[h.2];exact Hv _
 ·refine bS h fun J9 J5 hr u_ u_ zz5=> ?_;subst zz5;exact(jJ hr:(s.setGen g .running).heap.objs.size≤J5.heap.objs.size)
 ·rw[h.2];exact Hv _
 ·rw[h.2];exact Hv _
theorem yC(M:Model)(Γ:Ctx)(n:Nat)(t:Sem α): ∀(Q:α→Pos→Shared→Prop) (E:Value→Pos→Shared→Prop) (p:Pos) (s:Shared),n≤s.heap.objs.size→Sem.wp M Γ t Q E p s→
 Sem.wp M Γ t (fun a p' s'=>n≤s'.heap.objs.size∧Q a p' s') (fun e p' s'=>n≤s'.heap.objs.size∧E e p' s') p s:=by
 induction t with
 |pure a=>intro Q E p s hn h;exact⟨hn,h⟩
 |raise e=>intro Q E p s hn h;exact⟨hn,h⟩
 |unsupported _=>intro Q E p s _ h;exact h
 |finish _=>intro Q E p s _ h;exact h
 |rule _ k ih=>intro Q E p s hn h;exact ih () Q E p s hn h
 |«at» p' k ih=>intro Q E p s hn h;exact ih () Q E p' s hn h
 |load a _ k ih=>intro Q E p s hn h;refine aK h fun o ho h=> ?_;exact⟨o,ho,ih o Q E p s hn h⟩
 |update a _ f k ih=>intro Q E p s hn h;exact⟨h.1,ih () Q E p _ (by show n≤(s.heap.update a f).objs.size;rw[JL];exact hn) h.2⟩
 |loadIfAlive a k ih=>intro Q E p s hn h;exact ih _ Q E p s hn h
 |point _ k ih=>intro Q E p s hn h;exact ih () Q E p s hn h
 |register _ _=>intro Q E p s _ h;exact h
 |alloc o k ih=>intro Q E p s hn h;exact ih _ Q E p _ (by show n≤(s.heap.push o).objs.size;rw[JH];exact HG hn) h
 |fresh k ih=>intro Q E p s hn h;exact ih _ Q E p _ hn h
 |ask k ih=>intro Q E p s hn h;exact ih _ Q E p s hn h
 |choose src m k ih=>intro Q E p s hn h;exact⟨h.1,ih _ Q E p _ hn h.2⟩
 |os q _ k ih=>intro Q E p s hn h;exact ih _ Q E p _ hn h
 |call c hd _ _ k ih=>intro Q E p s hn h;refine bc h fun r s' hr h=> ?_;exact⟨r,s',hr,ih r Q E p s' (Hu hn (nR hr)) h⟩
 |handled own k ih=>intro Q E p s hn h;exact ih _ Q E p s hn h
 |genState g k ih=>intro Q E p s hn h;refine aK h fun st hs h=> ?_;exact⟨st,hs,ih _ Q E p s hn h⟩
 |newGen c k ih=>intro Q E p s hn h;exact ih _ Q E p _ hn h
 |resume g r _ k ih=>intro Q E p s hn h;refine bc h fun res s' hw h=> ?_;exact⟨res,s',hw,ih res Q E p s' (Hu hn (qT hw)) h⟩
 |yield _ _ _ _=>intro Q E p s _ h;exact h
 |stack k ih=>intro Q E p s hn h;exact ih _ Q E p s hn h
 |fork _ _=>intro Q E p s _ h;exact h
 |thread k ih=>intro Q E p s hn h;exact ih _ Q E p s hn h
 |await _ _ _ _ _=>intro Q E p s _ h;exact h
theorem bu{t:Sem α}{Q:α→Shared→Prop}
 (h:H9 M A t (fun a s'=>s.heap.objs.size≤s'.heap.objs.size→Q a s') (fun e s'=>s.heap.objs.size≤s'.heap.objs.size→E e s') s):H9 M A t Q E s:=
 Ia (Q:=fun a s'=>s.heap.objs.size≤s'.heap.objs.size∧(s.heap.objs.size≤s'.heap.objs.size→Q a s')) (E:=fun a s'=>s.heap.objs.size≤s'.heap.objs.size∧(s.heap.objs.size≤s'.heap.objs.size→E a s'))
  (fun Γ p hΓ=>yC M Γ _ t _ _ p s (Hv _) (h Γ p hΓ)) (fun u_ u_ x=>x.2 x.1) (fun u_ u_ x=>x.2 x.1)
section
variable {env:Env}{d:Nat}
noncomputable def bK(K:Frag)(f:Value):Bool:=(kh f).elim (f.ctorIdx.beq 8||f.ctorIdx.beq 9) fun a=>(K.lookup a).any fun o=>(Ae o.data).isSome||((Fb o.data).isSome&&specialIn K (.ref a) "__call__"==some (some (.builtin "type.__call__")))
theorem qL{f:Value}{Q:Keeper→Shared→Prop}(X:K.In s.heap)(h:bK K f=true)(q: ∀k,k=Keeper.frame∨k=Keeper.machine→Q k s):H9 M A (keeperOf f) Q E s:=by
 cases f with
 |ref a=>
  refine jR h fun o ho h=> ?_;refine H_ (wpAny_load (X _ _ ho) ?_)
  rcases FU.mp h with h|h
  ·refine oE (H4.mp h) fun f u_=> ?_;rw[f.2];exact H' (q _ (.inl rfl))
  ·have h:=FR.mp h;refine oE (H4.mp h.1) fun f u_=> ?_;rw[f.2];refine H_ ((looks_specialIn X (Gj h.2)).here ?_)
   rw[if_pos (by simp)]
   exact H' (q _ (.inr rfl))
 |type T=>exact H' (q _ (.inr rfl))
 |builtin T=>exact H' (q _ (.inr rfl))
 |_=>exact bI h
theorem iT{f:Value}{args:List (Bool×Sem Value)}{Q:Args→Shared→Prop}(hn:args.any (·.1)=false)(hk:keywords.all (·.1.isSome)=true)
 (h:H9 M A (spliced args) (fun vs J5=>H9 M A (evalAll (keywords.map (·.2))) (fun ks J8=>Q ⟨vs,(keywords.filterMap (·.1)).zip ks⟩ J8) E J5) E s):H9 M A (evalArgs f true args keywords) Q E s:=by
 have key:H9 M A (spliced args>>=fun vs=>holding vs (do let ks←evalAll (keywords.map (·.2));pure (⟨vs,(keywords.filterMap (·.1)).zip ks⟩:Args))) Q E s:=
  H_ (Ia h (fun vs J5 Kc=>Ic (H_ (Ia Kc (fun ks J8 Kx=>H' Kx) fun u_ u_ e=>e))) fun u_ u_ e=>e)
 cases args with
 |nil=>
  unfold evalArgs;show H9 M A (spliced []>>=_) Q E s
  change let K0:=_;let Q0:=_;H9 _ _ (_>>=K0) Q0 _ _;intros
  refine H_ (Ia h (fun vs J5 Kc=> ?_) fun u_ u_ e=>e)
  change let K0:=_;let Q0:=_;H9 _ _ (_>>=K0) Q0 _ _;intros
  refine H_ (H' ?_);refine Ic ?_;simp only[hk,if_true]
  change let K0:=_;let Q0:=_;H9 _ _ (_>>=K0) Q0 _ _;intros
  refine H_ (Ia Kc (fun ks J8 Kx=> ?_) fun u_ u_ x=>x);exact H_ (H' (H' Kx))
 |cons p rest=>
  obtain⟨b,x⟩:=p
  have hb:b=false:=by
   simp only[G3,Bool.or_eq_false_iff]at hn;exact hn.1
  subst hb;exact PySem.evalArgs_kw hk h
theorem pz(hk:keywords.all (·.1.isSome)=true):keywords.any (·.1.isNone)=false:=by
 rw[G5];intro x hx;have:=Gw.mp hk x hx
 cases q:x.1 with
 |none=>rw[q]at this;exact bI this
 |some _=>exact FT
theorem iV{f:Value}{first:List Value}{args:List (Bool×Sem Value)}
 (hn:args.any (·.1)=false) (hk:keywords.all (·.1.isSome)=true) (hc:bK K f=true)
 (h:H9 M A (spliced args) (fun vs J5=>H9 M A (evalAll (keywords.map (·.2))) (fun ks J8=>K.In J8.heap∧H9 M A (call f (first++vs) ((keywords.filterMap (·.1)).zip ks)) Q E J8) E J5) E s):
 H9 M A (callWith pos f first args keywords) Q E s:=by
 unfold callWith
 change let K0:=_;let Q0:=_;H9 _ _ (_>>=K0) Q0 _ _;intros
 refine H_ (Ic (iT hn hk (Ia h (fun vs J5 Kc=>Ia Kc (fun ks J8 Kx=>H_ (Il ?_)) fun u_ u_ x=>x) fun u_ u_ x=>x)));refine oA Kx fun X Kx=> ?_;have tail: ∀{t:Sem Value},H9 M A t Q E J8→H9 M A (t>>=fun r=>holding [r] point>>=fun u_=>pure r) Q E J8:=
  fun ht=>H_ (Ia ht (fun r J8 hr=>H_ (Ic (wpAny_point (H' hr)))) fun u_ u_ x=>x)
 simp only[hn,pz hk,FX];refine H_ (qL X hc fun k hk'=> ?_)
 rcases hk' with rfl|rfl
 ·dsimp only
  split
  ·exact tail Kx
  ·exact tail (by unfold callMarked;exact Calls.wpAny_keep Kx)
 ·exact tail Kx
noncomputable abbrev B8(n:Nat)(h:Heap)(ρ:Pl)(x:IV)(v:Value):Prop:= ∃I,nU h ρ x I v∧ ∀a∈I,n≤a
noncomputable abbrev E8(n:Nat)(h:Heap)(ρ:Pl)(xs:List IV)(vs:List Value):Prop:= ∃I,cL h ρ xs I vs∧ ∀a∈I,n≤a
noncomputable abbrev iM:=En→Sg→Expr→Option (aD IV)
variable (c)in
noncomputable def hY(d:Nat)(f:iM):Prop:= ∀{A:Around} {env:Env} {en:En} {ρ:Pl} {σ:Sg} {s:Shared} {e:Expr} {o:aD IV},f en σ e=some o→At c A env en ρ σ s d→aq c (B8 s.heap.objs.size) A (eval e env) ρ s o
noncomputable def dX(f:iM)(en:En):Sg→List Expr→Option (aD (List IV))
 |σ,[]=>some (.ok [] σ)
 |σ,e::es=>if cZ e=true then none else au (f en σ e) fun x J2=>au (dX f en J2 es) fun xs J6=>some (.ok (x::xs) J6)
theorem vb{f:iM}(hf:hY c d f): ∀{σ:Sg} {ρ:Pl} {s:Shared} {o:aD (List IV)},dX f en σ es=some o→At c A env en ρ σ s d→
 aq c (E8 s.heap.objs.size) A (spliced (backTo pos (starEach es env))) ρ s o:=by
 induction es with
 |nil=>
  intro σ ρ s o e a;obtain rfl:=z8 e;exact IN (bW.now (.refl a.st a.gd) ⟨[],.nil,fun u_ m=>nomatch m⟩)
 |cons x es ih=>
  intro σ ρ s o e a
  refine oA (rO (show(if cZ x=true then none else _)=some o from e)) fun hns e=> ?_
  refine II (aq.then (.refl a.st a.gd) e (fun o' h=>hf h a) fun y J2 v J5 Kd J4 J' J9 u_=>aq.then J4 J9 (fun o' h=>ih h (a.step J4)) fun ys J6 vs J8 Kl J7 Ky Km KM=> ?_) (gc (nP hns))
  obtain rfl:=H8 Km;refine aK J' fun I J' K8=> ?_;refine aK Ky fun J Ky Lf=> ?_;refine bW.now J7 ⟨I++J,.cons (KM.ivr J4.sto J') Ky fun z m q=> ?_,fun z m=>(Gl.mp m).elim (K8 z) fun q=>Hu J4.rest.hsize (Lf z q)⟩;exact absurd (J4.sto.plow z (J'.priv z m)).2 (Hy.mpr (Lf z q))
theorem f8:(∀x p,Expr.Starred x p∉es)→(backTo pos (starEach es env)).any (·.1)=false:=by
 induction es with
 |nil=>exact fun u_=>rfl
 |cons e es ih=>
  intro h
  have h1: ∀x p,e≠ .Starred x p:=fun x p q=>h x p (by rw[q];exact .head _)
  rw[gc h1];show(false||(backTo pos (starEach es env)).any (·.1))=false;rw[ih fun x p m=>h x p (.tail _ m)];rfl
noncomputable def tn(f:fL)(en:En):Sg→List Keyword→Option (aD (List (Str×V)))
 |σ,[]=>some (.ok [] σ)
 |σ,k::ks=>k.arg.bind fun n=>au (f en σ k.value) fun x J2=>au (tn f en J2 ks) fun xs J6=>some (.ok ((n,x)::xs) J6)
theorem vF(hf:bE c d f){ks:List Keyword}: ∀{σ:Sg} {ρ:Pl} {s:Shared} {o:aD (List (Str×V))},tn f en σ ks=some o→At c A env en ρ σ s d→
 aq c (fun h J3 xs vs=>Rk h J3 xs (((backToKw pos (keywordEach ks env)).filterMap (·.1)).zip vs)) A (evalAll ((backToKw pos (keywordEach ks env)).map (·.2))) ρ s o:=by
 induction ks with
 |nil=>
  intro σ ρ s o e a;obtain rfl:=H8 e;exact kws_nil (bW.now (.refl a.st a.gd) .nil)
 |cons k ks ih=>
  intro σ ρ s o e a;obtain⟨n,x,p⟩:=k
  cases n with
  |none=>exact no e
  |some n=>
  refine kws_cons (aq.then (.refl a.st a.gd) e (fun o' h=>hf h a) fun y J2 v J5 Kd J4 J' J9 u_=>aq.then J4 J9 (fun o' h=>ih h (a.step J4)) fun ys J6 vs J8 Kl J7 Ky Km KM=> ?_)
  obtain rfl:=H8 Km;exact bW.now J7 (.cons (KM.R J') Ky)
noncomputable def ic:List Keyword→Bool:=fun ks=>ks.all fun|⟨n,_,_⟩=>n.isSome
theorem pa{ks:List Keyword}:ic ks=true→(backToKw pos (keywordEach ks env)).all (·.1.isSome)=true:=by
 induction ks with
 |nil=>exact fun u_=>rfl
 |cons k ks ih=>
  obtain⟨n,v,p⟩:=k;intro h
  replace h:=FR.mp (show(n.isSome&&ic ks)=true from h)
  exact FR.mpr ⟨h.1,ih h.2⟩
variable (c)in
noncomputable def qa(D:List Addr)(rel:Heap→Pl→α→β→Prop)(ρ:Pl)(s:Shared)(o:aD α):β→Shared→Prop:=fun v s'=>match o with
 | .ok x J1=> ∃J3,ad c D ρ s J3 J1 s'∧rel s'.heap J3 x v
 | .exc .. =>False
variable (c)in
noncomputable def jI(D:List Addr)(ρ:Pl)(s:Shared)(o:aD α):Value→Shared→Prop:=fun e s'=>match o with
 | .exc cls J1=> ∃J3,ad c D ρ s J3 J1 s'∧fZ s'.heap J3 s.heap.objs.size cls e
 | .ok .. =>False
theorem cC.toD{D:List Addr}{o:aD α}(h:cC c ρ s o v s'):jI c D ρ s o v s':=by
 cases o with
 |exc x J1=>refine aK h fun J3 S r=> ?_;exact⟨J3,S.D,r⟩
 |ok=>exact h
noncomputable abbrev lA:=Sg→Value→List IV→List (Str×V)→Option (aD IV)
variable (c)in
noncomputable def xP(d:Nat)(f:lA):Prop:= ∀{A:Around} {ρ:Pl} {σ:Sg} {s:Shared} {fv:Value} {xs:List IV} {ks:List (Str×V)} {I:List Addr} {vs:List Value} {kv:List (Str×Value)} {o:aD IV},f σ fv xs ks=some o→
 c.Ok→aO c ρ σ s.heap→Gd c s.heap→d_ c ρ A d s.heap→cL s.heap ρ xs I vs→Rk s.heap ρ ks kv→
  H9 (model c.prog c.w) A (call fv vs kv) (qa c I (fun h J3 x v=> ∃J,nU h J3 x J v∧ ∀a∈J,a∈I∨s.heap.objs.size≤a) ρ s o) (jI c I ρ s o) s
theorem cL.append_v{xs:List IV}(r:Rs h ρ l vs)(q:cL h ρ xs I ws):cL h ρ (l.map IV.v++xs) I (vs++ws):=
 Rs.ind (Q:=fun l vs=>cL h ρ (l.map IV.v++xs) I (vs++ws)) q (fun r u_ ih=> .cons (I:=[]) (.v r) ih fH) r
variable (c)in
noncomputable def eX(iv:iM)(f:fL)(cv:lA)(en:En)(σ:Sg)(fv:Value)(first:List V)(args:List Expr)(kws:List Keyword):Option (aD IV):=
 if ak args&&ic kws&&bK c.K fv then au (dX iv en σ args) fun xs J2=>au (tn f en J2 kws) fun ks J6=>cv J6 fv (first.map .v++xs) ks
 else none
set_option tactic.hygienic true in
theorem l7{iv:iM}{f:fL}{cv:lA}{fv:Value}{first:List V}{fvs:List Value}{args:List Expr}{kws:List Keyword}{pos:Pos}{o:aD IV}(hi:hY c d iv)(hf:bE c d f)(hc:xP c d cv)
 (e:eX c iv f cv en σ fv first args kws=some o) (a:At c A env en ρ σ s d) (r:Rs s.heap ρ first fvs):
 aq c (B8 s.heap.objs.size) A (callWith pos fv fvs (backTo pos (starEach args env)) (backToKw pos (keywordEach kws env))) ρ s o:=by
 unfold eX at e
 split at e
 ·rename_i hp;simp only[FS]at hp;obtain⟨⟨h1,h2⟩,h3⟩:=hp
  refine iV (K:=c.K) (f8 (eu h1)) (pa h2) h3 (aq.then (.refl a.st a.gd) e (fun o' h=>vb hi h a) fun xs J2 vs J5 Kd J4 J' J9 _=>aq.then J4 J9 (fun o' h=>vF hf h (a.step J4)) fun ks J6 kv J8 Kl J7 Ky Km KM=> ?_)
  refine aK J' fun I J' K8=> ?_;have Ku:=a.step J7;refine⟨J7.gd.kin,?_⟩;have up: ∀z∈I,z∈([]:List Addr)∨s.heap.objs.size≤z:=fun z m=> .inr (K8 z m);refine Ia (hc Km a.ok J7.sto J7.gd Ku.room (cL.append_v (J7.Rs r) (KM.ivrs J4.sto J')) Ky) (fun v Kv hq=> ?_) (fun ev Kv fl=> ?_)
  ·cases o with
   |ok x Kn=>
    refine D2 hq fun KR Kg J KY Lq=> ?_;exact⟨KR,ad.trans' J7 Kg up,J,KY,fun z m=>(Lq z m).elim (K8 z) fun q=>Hu J7.rest.hsize q⟩
   |exc=>exact hq
  ·cases o with
   |exc cls Kn=>
    refine aK fl fun KR Kg f=> ?_;exact⟨KR,ad.trans' J7 Kg up,f.mono J7.rest.hsize⟩
   |ok=>exact fl
 ·exact no e
end
variable {cv:lA}
section
variable {env:Env}{d:Nat}
noncomputable def Ec:yP→Option Value
 | .val x=>kr x
 | .prop _=>none
theorem C7{x:yP}{f:Value}(e:Ec x=some f):x= .val (.val f):=by
 cases x with
 |val=>exact congrArg _ (ik e)
 |prop=>exact no e
variable (c)in
noncomputable def ij(σ:Sg)(x:V)(name:Str):Option (Value×List V):=match x with
 | .lst k=>(aG σ k).bind fun u_=>if name="append" then some (.builtin "list.append",[x])else if name="pop" then some (.builtin "list.pop",[x])else none
 | .inst C k=>(fm σ k).bind fun fs=>if findIn c.K (.ref C) "__getattribute__"=some (some (.builtin "object.__getattribute__"))∧findIn c.K (.ref C) "__getattr__"=some none∧(eA fs name).isNone=true then
  (findIn c.K (.ref C) name).bind fun a=>a.bind fun v=>(kh v).bind fun f=>if typeIn c.K (.ref f)=some (.type "function")then some (.ref f,[x])else none
  else none
 | .val v=>(kh v).bind fun C=>if specialIn c.K (.ref C) "__getattribute__"=some (some (.builtin "type.__getattribute__"))then((jc c σ x name).bind Ec).map fun f=>(f,[])else none
 |_=>none
theorem DE{q:Value×List V}(e:ij c σ x name=some q)
 (k1: ∀k l,x= .lst k→σ[k]? =some (.lst l)→name="append"→q=(.builtin "list.append",[x])→P) (k2: ∀k l,x= .lst k→σ[k]? =some (.lst l)→name="pop"→q=(.builtin "list.pop",[x])→P)
 (k3: ∀C k fs f,x= .inst C k→σ[k]? =some (.dct fs)→findIn c.K (.ref C) "__getattribute__"=some (some (.builtin "object.__getattribute__"))→findIn c.K (.ref C) "__getattr__"=some none→eA fs name=none→findIn c.K (.ref C) name=some (some (.ref f))→typeIn c.K (.ref f)=some (.type "function")→q=(.ref f,[x])→P)
 (k4: ∀C f,x= .val (.ref C)→specialIn c.K (.ref C) "__getattribute__"=some (some (.builtin "type.__getattribute__"))→jc c σ x name=some (.val (.val f))→q=(f,[])→P):P:=by
 cases x with
 |lst k=>exact ae e fun l hl e=>eV e (fun h e=>k1 k l rfl (bD hl) h (H8 e).symm) fun u_ e=>bH e fun h e=>k2 k l rfl (bD hl) h (H8 e).symm
 |inst C k=>
  exact ae e fun fs hk e=>bH e fun h e=>ae e fun a ha e=>ae e fun v hv e=>ae e fun f hf e=>bH e fun ht e=>
   k3 C k fs f rfl (ou hk) h.1 h.2.1 (Option.isNone_iff_eq_none.mp h.2.2) (by rw[ha,hv,jn hf]) ht (H8 e).symm
 |val v=>exact ae e fun C hC e=>bH e fun h e=>aM e fun f hf e=>ae hf fun g hg hf=>k4 C f (by rw[jn hC]) h (by rw[hg,C7 hf]) e.symm
 |_=>exact no e
theorem tU{f:Value}{pl:Sem Bool}{Q:Value×List Value→Shared→Prop}(ok:c.Ok)(st:aO c ρ σ s.heap)(g:Gd c s.heap)(e:ij c σ x name=some (f,first))(r:R s.heap ρ x v)
 (h: ∀J3 s' fvs,af c ρ s J3 σ s'→Rs s'.heap J3 first fvs→Q (f,fvs) s'):H9 (model c.prog c.w) A (getMethod v name pl) Q E s:=by
 refine DE e (fun k l hx hl hn q=> ?_) (fun k l hx hl hn q=> ?_) (fun C k fs fa hx hk h1 h2 h3 hf ht q=> ?_) fun C f' hx hg hv q=> ?_
 ·subst hx hn;refine qY q fun zz1 zz2=> ?_;subst zz1;subst zz2
  cases id r with
  |lst h1=>
  refine bc (st.at_ _ _ _ h1 hl) fun vs n o rs=> ?_
  exact getMethod_builtin (bT o).typeIs PySem.F.plainAttrs_list slot_list_append type_list_append (fun a q=>by cases q;exact⟨_,o,rfl⟩) (h _ _ _ (.refl st g) (.cons r .nil))
 ·subst hx hn;refine qY q fun zz1 zz2=> ?_;subst zz1;subst zz2
  cases id r with
  |lst h1=>
  refine bc (st.at_ _ _ _ h1 hl) fun vs n o rs=> ?_
  exact getMethod_builtin (bT o).typeIs PySem.F.plainAttrs_list PySem.F.slot_list_pop PySem.F.type_list_pop (fun a q=>by cases q;exact⟨_,o,rfl⟩) (h _ _ _ (.refl st g) (.cons r .nil))
 ·subst hx;refine qY q fun zz1 zz2=> ?_;subst zz1;subst zz2;refine cr (kE st hk r) fun xa es n sl zz4 I hdx rf=> ?_;subst zz4;have hl:=rf.getL (name:=name);rw[h3]at hl;refine method_fn g.kin I h1 h2 hf ht ?_ (h _ _ _ (.refl st g) (.cons r .nil));show(lookIn name (fc es n sl)).map (·.isSome)=some false
  rw[show lookIn name (fc es n sl)=some none from hl];rfl
 ·subst hx;refine qY q fun zz1 zz2=> ?_;subst zz1;subst zz2
  cases id r with
  |val=>
  refine method_cls g.kin hg ?_
  refine aq.go (o8 (A:=A) ok st g hv r) (fun y J1 q w s' J3 S r'=> ?_) (fun u_ u_ q=>by exact iO q)
  refine jD q fun zz1 zz2=> ?_;subst zz1;subst zz2;obtain rfl:=r'.valQ;exact h _ _ _ S .nil
variable (c)in
noncomputable def nq(iv:iM)(f:fL)(cv:lA)(en:En)(σ:Sg)(func:Expr)(args:List Expr)(kws:List Keyword)(pos:Pos):Option (aD IV):=match wx func with
 |some p=>if(aS p.1.1&&p.1.2.2.endLine==pos.line&&decide (args.length+kws.length<20)&&ak args&&ic kws)=true then
  au (f en σ p.1.1) fun x J2=>(ij c J2 x p.1.2.1).bind fun q=>eX c iv f cv en J2 q.1 q.2 args kws
  else none
 |none=>if aV func=true then none else au (f en σ func) fun x J2=>(kr x).bind fun fv=>eX c iv f cv en J2 fv [] args kws
theorem gk(h: ∀o n p,func≠ .Attribute o n p):
 eval (.Call func args kws pos) env=(do callWith pos (←eval func env) [] (backTo pos (starEach args env)) (backToKw pos (keywordEach kws env))):=by
 cases func<;>first|rfl|exact absurd rfl (h _ _ _)
theorem xi{iv:iM}{o:aD IV}(hi:hY c d iv)(hf:bE c d f)(hc:xP c d cv)
 (e:nq c iv f cv en σ func args kws pos=some o) (a:At c A env en ρ σ s d):aq c (B8 s.heap.objs.size) A (eval (.Call func args kws pos) env) ρ s o:=by
 unfold nq at e
 cases hq:wx func with
 |some q=>
  rw[hq]at e;obtain⟨⟨ob,name,apos⟩,rfl⟩:=q;refine bH e fun hp e=> ?_
  ·simp only[FS,decide_eq_true_eq]at hp;obtain⟨⟨⟨⟨h1,h2⟩,h3⟩,h4⟩,h5⟩:=hp;show H9 _ _ _ _ _ _;rw[arm_eval_Call,lV h1]
   have few:methodCallForm (args.length+kws.length) (backTo pos (starEach args env)) (backToKw pos (keywordEach kws env))=true:=by
    unfold methodCallForm;rw[pa h5];have:=f8 (env:=env) (pos:=pos) (eu h4);simp only[FY,FS,decide_eq_true_eq]
    refine⟨?_,by split<;>omega⟩
    rw[Gw];intro x hx;have:=G5.mp this x hx;exact(fun {a}↦bi_not.mpr) this
   have hpos:methodCallPos true ob env apos pos=pure pos:=by unfold methodCallPos;exact if_pos (by assumption)
   change let K0:=_;let Q0:=_;H9 _ _ (_>>=K0) Q0 _ _;intros
   refine H_ (aq.then (.refl a.st a.gd) e (fun o' h=>hf h a) fun x J2 v J5 Kd J4 J' J9 u_=>H_ (Il ?_))
   refine ae J9 fun q hm J9=> ?_
   ·obtain⟨fv,first⟩:=q
    unfold methodCall;rw[few]
    change let K0:=_;let Q0:=_;H9 _ _ (_>>=K0) Q0 _ _;intros
    refine H_ (Ic (tU a.ok J4.sto J4.gd hm J' fun Kl J8 fvs J7 rs=> ?_))
    change let K0:=_;let Q0:=_;H9 _ _ (_>>=K0) Q0 _ _;intros
    refine H_ (Ih hpos ?_);have Ku:=a.step (J4.trans J7);refine aq.go (l7 hi hf hc J9 Ku rs) (fun x Kn q w Kv KR Kg KY=> ?_) (fun cls Kn q ev Kv fl=> ?_)
    ·subst q;refine aK KY fun J KY Lq=> ?_;exact bW.now ((J4.trans J7).trans Kg) ⟨J,KY,fun z m=>Hu (J4.trans J7).rest.hsize (Lq z m)⟩
    ·subst q;exact fl.trans (J4.trans J7)
 |none=>
  rw[hq]at e;refine eV e (fun u_ e=>no e) fun u_ e=> ?_;show H9 _ _ _ _ _ _
  rw[gk (fun o n p q=>by rw[q]at hq;exact Cm hq)]
  change let K0:=_;let Q0:=_;H9 _ _ (_>>=K0) Q0 _ _;intros
  refine H_ (aq.then (.refl a.st a.gd) e (fun o' h=>hf h a) fun x J2 v J5 Kd J4 J' J9 u_=> ?_)
  refine ae J9 fun fv hv J9=> ?_
  ·obtain rfl:=ik hv;obtain rfl:=J'.valQ;refine aq.go (l7 hi hf hc J9 (a.step J4) .nil) (fun x Kn q w Kv KR Kg KY=> ?_) (fun cls Kn q ev Kv fl=> ?_)
   ·subst q;refine aK KY fun J KY Lq=> ?_;exact bW.now (J4.trans Kg) ⟨J,KY,fun z m=>Hu J4.rest.hsize (Lq z m)⟩
   ·subst q;exact fl.trans J4
theorem af.setCell{l':aa}{t:Nat}(ok:c.Ok)(st:aO c ρ σ s.heap)(g:Gd c s.heap)(hk:ρ.r[k]? =some la)(x:JK la s.heap h')
 (r:(∀{y:V} {v:Value},Internal.R s.heap ρ y v→Internal.R h' ρ y v)→(∀{y:List V} {v:List Value},Internal.Rs s.heap ρ y v→Internal.Rs h' ρ y v)→eY h' ρ l' la):af c ρ s ρ (σ.set k l') {s with heap:=h',toks:=t}:=by
 have hm:la∈ρ.r:=GY hk
 have off:ρ.Off [la]:=fun a m f=>by rw[Gn.mp m]at f;exact f.1 hm
 have ex:d9 c [la] s.heap h':= .of_keeps fun b o n e=>(x.2 b (fun q=>n (by simp[q]))).trans e
 have le:ρ.Le s.heap ρ:=Pl.Le.refl _ _
 have lo: ∀a∈[la],c.n₀≤a:=by simpa using st.low la hm
 have hz:s.heap.objs.size=h'.objs.size:=x.1.symm;have old: ∀b o,b<c.n₀→s.heap.get? b=some o→h'.get? b=some o:=fun b o hb e=>(x.2 b (fun q=>absurd hb (Hy.mpr (q▸st.low la hm)))).trans e;have klen:k<ρ.r.length:=(Gy.mp hk).1
 refine⟨Gu _,fun u_ m=> .inl m,fun u_ m=> .inl m,fun u_ m=>m,⟨st.nodup,?_,fun j a l h1 h2=> ?_,st.low,fun a m=>⟨(st.plow a m).1,by show a<h'.objs.size;rw[←hz];exact(st.plow a m).2⟩,st.disj⟩,ex.mono fun a m=>by rw[Gn.mp m];exact hm,.heap (HX hz),g.step ok lo ex (fun p hp=> ?_) (HX hz)⟩
 ·rw[G2];exact st.len
 ·by_cases hj:j=k
  ·subst hj;rw[hk]at h1;obtain rfl:=H8 h1
   rw[Hk (by rw[←st.len];exact klen)]at h2
   obtain rfl:=H8 h2;exact r (fun q=>q.mono off ex le) (fun q=>q.mono off ex le)
  ·rw[GX (Ne.symm hj)]at h2
   refine(st.at_ j a l h1 h2).mono off ex le fun m=>hj ?_
   have e:a=la:=Gn.mp m;subst e;have hj':=Gy.mp h1;have hk':=Gy.mp hk;exact(List.getElem_inj st.nodup).mp (hj'.2.trans hk'.2.symm)
 ·exact(g.codes p hp).keep (fun o q=>old _ _ (ok.cold p hp).1 q) fun o q=>old _ _ (ok.told _ (ok.tcs p hp)) q
noncomputable def CH(σ:Sg)(x:V):Option Int:=((eG x).elim ((gv x).bind (pv σ)) some).bind fun l=>if l.length≤2^20 then some l.length else none
theorem vn{i:Int}(st:aO c ρ σ s.heap)(g:Gd c s.heap)(e:CH σ x=some i)(r:R s.heap ρ x v):bk c A (call (.builtin "len") [v]) ρ s (.ok (.int i) σ):=by
 have S:af c ρ s ρ σ {s with toks:=s.toks+1+1}:=af.toks st g
 refine ae e fun l h J9=>bH J9 fun hz Km=> ?_;obtain rfl:=H8 Km;refine ii h (fun u_ h=>ae h fun k hk hl=> ?_) fun l' h q=> ?_
 ·obtain rfl:=gj hk
  cases r using R.lstE with
  |lst h1=>
  refine bc (st.rd h1 hl) fun vs n o rs=> ?_;exact PySem.Calls.call_len_list (bT o) (rs.sz63 hz) ⟨ρ,S,rs.length▸ .int⟩
 ·obtain rfl:=eo h;obtain rfl:=H8 q
  cases r using R.tupE with
  |tup h1 f1 rs=>
  exact PyProof.Rows.len_tuple (cJ h1) (rs.sz63 hz) ⟨ρ,S,rs.length▸ .int⟩
theorem u8{i:Int}{t:Tok}(st:aO c ρ σ s.heap)(g:Gd c s.heap):bk c A (call (.builtin "abs") [.int i t]) ρ s (.ok (.int (if i<0 then-i else i)) σ):=
 call_abs_int fun u tk=>⟨ρ,af.toks st g,.int⟩
theorem wd{a b:Int}{t:Tok}(hh:A.handled=none)(ok:c.Ok)(st:aO c ρ σ s.heap)(g:Gd c s.heap):bk c A (call (.builtin "max") [.int a t,.int b u]) ρ s (.ok (.int (if b>a then b else a)) σ):=by
 refine bu (max_two_ints hh fun h' tk k hz=>⟨ρ,af.keeps ok st g k hz,?_⟩)
 split<;>exact .int
theorem wE{a b:Int}{t:Tok}(hh:A.handled=none)(ok:c.Ok)(st:aO c ρ σ s.heap)(g:Gd c s.heap):bk c A (call (.builtin "min") [.int a t,.int b u]) ρ s (.ok (.int (if b<a then b else a)) σ):=by
 refine bu (min_two_ints hh fun h' tk k hz=>⟨ρ,af.keeps ok st g k hz,?_⟩)
 split<;>exact .int
noncomputable def nh:List V→Option (List Value)
 |[]=>some []
 |x::l=>(kr x).bind fun v=>(nh l).map (v:: ·)
noncomputable def DD(K:Frag)(x:V)(cl:V):Option Bool:=(cR x).bind fun u_=>(kr cl).elim ((eG cl).bind fun l=>(nh l).bind fun cs=>kitAny K (.type "int") cs) fun cv=>kitOne K (.type "int") cv
theorem zb{cs:List Value}(r:Rs h ρ l vs):nh l=some cs→vs=cs:=
 Rs.ind (Q:=fun l vs=> ∀cs,nh l=some cs→vs=cs) (fun cs e=>H8 e) (fun r u_ ih cs e=>by
  refine ae e fun v hv e=>aM e fun l h w=> ?_;obtain rfl:=ik hv;obtain rfl:=r.valQ
  exact w▸congrArg _ (ih l h)) r cs
theorem w9{cl:V}(ok:c.Ok)(st:aO c ρ σ s.heap)(g:Gd c s.heap)(e:DD c.K x cl=some b)(r:R s.heap ρ x v)(q:R s.heap ρ cl w):bk c A (call (.builtin "isinstance") [v,w]) ρ s (.ok (.bool b) σ):=by
 refine ae e fun i hi J9=>ii J9 (fun u_ Km=>ae Km fun l hl KU=>ae KU fun cs h1 h2=> ?_) fun cv hc Km=> ?_
 ·obtain rfl:=b9 hi;obtain⟨_,rfl⟩:=r.intQ;obtain rfl:=eo hl
  cases q using R.tupE with
  |tup h3 f3 rs=>
  have:=zb rs h1;subst this;exact kia_tup kitx_int g.kin trivial h3 h2 (fun q=>nomatch q) fun tk=>⟨ρ,af.toks st g,.val⟩
 ·obtain rfl:=b9 hi;obtain⟨_,rfl⟩:=r.intQ;obtain rfl:=ik hc;obtain rfl:=q.valQ;exact kia_one kitx_int g.kin trivial Km (fun q=>nomatch q) fun tk=>⟨ρ,af.toks st g,.val⟩
theorem tm{n:Int}{t:Tok}(ok:c.Ok)(st:aO c ρ σ s.heap)(g:Gd c s.heap):bk c A (call (.type "range") [.int n t]) ρ s (.ok (.rng 0 n 1) σ):=by
 refine call_range_1 ?_
 have S:af c ρ s ρ σ {s with heap:=s.heap.push {cls:= .type "range",data:= .fields #[.int 0 s.toks,.int n t,.int 1 (s.toks+1)]},toks:=s.toks+1+1}:=af.push ok st g
 exact⟨ρ,S,.rng (IsRange.new _ _ _ _ _ _ _) (st.new (Hv _))⟩
theorem sP{a b:Int}{t:Tok}(ok:c.Ok)(st:aO c ρ σ s.heap)(g:Gd c s.heap):bk c A (call (.type "range") [.int a t,.int b u]) ρ s (.ok (.rng a b 1) σ):=by
 refine call_range_2 ?_
 have S:af c ρ s ρ σ {s with heap:=s.heap.push {cls:= .type "range",data:= .fields #[.int a t,.int b u,.int 1 s.toks]},toks:=s.toks+1}:=af.push ok st g
 exact⟨ρ,S,.rng (IsRange.new _ _ _ _ _ _ _) (st.new (Hv _))⟩
theorem af.newCell{l:aa}{t:Nat}(ok:c.Ok)(st:aO c ρ σ s.heap)(g:Gd c s.heap)(k: ∀b o,s.heap.get? b=some o→h'.get? b=some o)(hz:s.heap.objs.size≤h'.objs.size)(ha:s.heap.objs.size≤a)
 (r: ∀J3,(∀{y:V} {v:Value},Internal.R s.heap ρ y v→Internal.R h' J3 y v)→(∀{y:List V} {v:List Value},Internal.Rs s.heap ρ y v→Internal.Rs h' J3 y v)→eY h' J3 l a) (r0: ∀J3,eY h' J3 l a→a<h'.objs.size):
 af c ρ s (ρ.add a) (σ++[l]) {s with heap:=h',toks:=t}:=by
 have p:af c ρ s ρ σ {s with heap:=h',toks:=t}:=af.keeps ok st g k hz
 have fr:ρ.free a:=st.new ha
 have le:ρ.Le s.heap (ρ.add a):=⟨Gm _ _,fun b o f e=>⟨fun m=>(Gl.mp m).elim f.1 fun q=>absurd (JI e) (by rw[Gn.mp q];exact Hy.mpr ha),f.2⟩⟩
 have rr:eY h' (ρ.add a) l a:=r _ (fun q=>q.mono (Pl.Off.nil _) (.of_keeps (c:=c) fun b o u_ e=>k b o e) le) (fun q=>q.mono (Pl.Off.nil _) (.of_keeps (c:=c) fun b o u_ e=>k b o e) le);refine⟨le.pre,fun b m=> ?_,fun b m=> .inl m,fun b m=>m,⟨?_,?_,fun j b l' h1 h2=> ?_,fun b m=> ?_,fun b m=> ?_,fun b m n=> ?_⟩,p.ext,p.rest,p.gd⟩
 ·rcases Gl.mp m with q|q
  ·exact .inl q
  ·rw[Gn.mp q];exact .inr ha
 ·exact List.nodup_append.mpr ⟨st.nodup,by simp,fun b hb b' hb' q=>fr.1 (by rw[Gn.mp hb']at q;exact q▸hb)⟩
 ·rw[GE,GE,st.len];rfl
 ·by_cases hj:j<ρ.r.length
  ·rw[GO hj]at h1;rw[GO (st.len▸hj)]at h2
   exact(st.at_ j b l' h1 h2).mono (Pl.Off.nil _) (.of_keeps (c:=c) fun b o u_ e=>k b o e) le (by exact GD)
  ·have hl:=(Gy.mp h1).1;rw[GE,G']at hl
   have ej:j=ρ.r.length:=by exact jE ‹_› ‹_›
   subst ej;rw[GZ (Hv _),HS]at h1;rw[st.len,GZ (Hv _),HS]at h2;obtain rfl:=H8 h1;obtain rfl:=H8 h2;exact rr
 ·rcases Gl.mp m with q|q
  ·exact st.low b q
  ·rw[Gn.mp q];exact Hu g.size ha
 ·exact⟨(st.plow b m).1,HF (st.plow b m).2 hz⟩
 ·rcases Gl.mp n with q|q
  ·exact st.disj b m q
  ·rw[Gn.mp q]at m;exact absurd (st.plow _ m).2 (Hy.mpr ha)
theorem uc{l:aa}(x:eY h ρ l a):a<h.objs.size:=by
 cases l with
 |lst l=>refine bc x fun u_ u_ e u_=> ?_;exact JI e
 |dct l=>refine lz x fun u_ u_ u_ e u_=> ?_;exact JI e
 |ro l vs n=>exact JI x.1
theorem af.newLst{t:Nat}(ok:c.Ok)(st:aO c ρ σ s.heap)(g:Gd c s.heap)(k: ∀b o,s.heap.get? b=some o→h'.get? b=some o)(hz:s.heap.objs.size≤h'.objs.size)(ha:s.heap.objs.size≤a)
 (e:h'.get? a=some (az vs n)) (r: ∀h' J3,(∀{y:List V} {v:List Value},Internal.Rs s.heap ρ y v→Internal.Rs h' J3 y v)→Internal.Rs h' J3 l vs):af c ρ s (ρ.add a) (σ++[.lst l]) {s with heap:=h',toks:=t}:=
 af.newCell ok st g k hz ha (fun J3 u_ q=>⟨vs,n,e,r _ _ q⟩) fun J3 x=>uc x
noncomputable def z_(σ:Sg)(x:V):Option (List V):=(eG x).elim ((gv x).elim ((EJ x).bind fun p=>
 if I5 p.1 p.2.1 p.2.2=true∧(0≤I4 p.1 p.2.1 p.2.2)∧I4 p.1 p.2.1 p.2.2≤2^20 then some ((Gs (I4 p.1 p.2.1 p.2.2).toNat).map fun(i:Nat)=>V.int (p.1+i*p.2.2))else none)
 fun k=>(aG σ k).bind fun l=>if l.length≤2^20 then some l else none)
 fun l=>if l.length≤2^20 then some l else none
theorem te(hh:A.handled=none)(ok:c.Ok)(st:aO c ρ σ s.heap)(g:Gd c s.heap)(e:z_ σ x=some l)(r:R s.heap ρ x v):bk c A (call (.type "list") [v]) ρ s (.ok (.lst σ.length) (σ++[.lst l])):=by
 cases r with
 |tup h1 f1 rs=>
  refine oA (iq e) fun hz e=> ?_;obtain rfl:=H8 e;refine bu (call_list_seq _ (.inr rfl) h1 rfl rfl (fun h' c' k e' hz'=> ?_) (rs.sz hz));exact⟨_,af.newLst (n:=c') ok st g k hz' (Hv _) e' fun u_ u_ q=>q rs,.lst (st.last _)⟩
 |lst h1=>
  refine ae e fun l hl e=>oA (iq e) fun hz e=> ?_;obtain rfl:=H8 e
  refine bc (st.at_ _ _ _ h1 (bD hl)) fun vs n o rs=> ?_
  refine bu (call_list_seq _ (.inl rfl) o rfl rfl (fun h' c' k e' hz'=> ?_) (rs.sz hz));exact⟨_,af.newLst (n:=c') ok st g k hz' (Hv _) e' fun u_ u_ q=>q rs,.lst (st.last _)⟩
 | @rng x y dd _ _ _ _ h1 f1=>
  refine oA (iq e) fun hb e=> ?_;obtain rfl:=H8 e;replace hb:I5 x y dd=true∧0≤I4 x y dd∧I4 x y dd≤2^20:=hb
  refine bu (call_list_range (n:=(I4 x y dd).toNat) hh h1 hb.1 (Int.toNat_of_nonneg hb.2.1).symm (Int.toNat_le.mpr (F6 hb.2.2 (by decide))) fun h' tk acc' c' k e' items hz'=> ?_)
  refine⟨_,af.newLst (vs:=acc'.toList) (n:=c') (l:=(Gs (I4 x y dd).toNat).map fun(i:Nat)=>V.int (x+i*dd)) ok st g k hz' (Hv _) (by simpa using e') fun h'' KD q=> ?_,.lst (st.last _)⟩
  refine oA items fun i1 i2=> ?_
  have key: ∀(n:Nat) (l:List Value),l.length=n→(∀(j:Nat) v,l[j]? =some v→ ∃t:Tok,v=JZ (x+j*dd) t)→Internal.Rs h'' KD ((Gs n).map fun(i:Nat)=>V.int (x+i*dd)) l:=by
   intro n
   induction n with
   |zero=>intro l hl _;rw[GW.mp hl];exact .nil
   |succ n ih=>
    intro l hl hv
    have hl':l=l.dropLast++[l.getLast (by intro q;rw[q]at hl;cases hl)]:=(List.dropLast_concat_getLast _).symm
    rw[List.range_succ,List.map_append,hl']
    refine(ih l.dropLast (by rw[List.length_dropLast,hl];rfl) fun j v hj=>hv j v ?_).append ?_
    ·have:=Gy.mp hj;refine oE this fun h1 h2=> ?_;rw[hl',GO h1];exact hj
    ·obtain⟨t,ht⟩:=hv n (l.getLast (by intro q;rw[q]at hl;cases hl)) (by
      rw[GB (lSn ‹_›),List.getLast_eq_getElem];congr 2;exact lSp ‹_›)
     rw[ht];exact .cons .int .nil
  exact key _ _ (by simpa using i1) fun j v hj=>i2 j v (by simpa using hj)
 |_=>exact no e
theorem j8{Q:List Value→Shared→Prop}(it:Addr){o:Obj}(hT:T="list"∨T="tuple")
 (ho:s.heap.get? it=some o) (hc:o.cls= .type T) (hd:o.data= .seq items n)
 (hQ: ∀h',(∀b o',s.heap.get? b=some o'→h'.get? b=some o')→s.heap.objs.size≤h'.objs.size→Q items.toList {s with heap:=h'}) (hsz:items.size≤sizeLine):
 H9 (model c.prog c.w) A (collect (.ref it)) Q E s:=bu (wpAny_collect_seq (hsz:=hsz) it hT ho hc hd fun h' k hz=>hQ h' k hz)
open AutoSeq1 (wpAny_loadPart')in
theorem jG(l:Addr)(o:Obj)(items:Array Value)(n:Nat)(hc:o.cls= .type "list")(hd:o.data= .seq items n)(hsz:items.size≤sizeLine):
 Meets (Builtin.«tuple.__new__» ⟨[.type "tuple",.ref l],[]⟩)
  (fun u_ R s=>s.heap.get? l=some o∧ ∀h':Heap,(∀b o',s.heap.get? b=some o'→h'.get? b=some o')→s.heap.objs.size≤h'.objs.size→R (.ok (.ret (.ref h'.objs.size))) {s with heap:=h'.push {cls:= .type "tuple",data:= .seq items}}):=
 .of_wp fun prog w A R s h=>by
  obtain⟨hp,g,d,tk,os⟩:=s;refine oA h fun ht h=> ?_;have hsub:=sub_tuple_self;have hinit:=init_tuple_lookup;have hmh:=madeHere_tuple;have hT:Shared.TypeIs ⟨hp,g,d,tk,os⟩ (.ref l) "list":=⟨o,ht,hc⟩
  wp_walk using wpAny_loadPart' ht,Iv hT,j8 (c:=⟨prog,w,default,0,[],[],fun u_=>none,fun u_=>none,default,[]⟩) (hsz:=hsz) l (.inl rfl) ht hc hd
  intro h' hk hz;show H9 _ _ (Je items.toList.toArray>>=fun v=>ret v) _ _ _;unfold Je
  refine H_ (Ig ?_ (by show items.toList.toArray.size≤sizeLine;simpa using hsz))
  refine H' ⟨_,rfl,?_⟩
  have e:items.toList.toArray=items:=by simp
  rw[e];exact h h' hk hz
noncomputable def qj(σ:Sg)(x:V):Option (List V):=(eG x).elim ((gv x).bind fun k=>(aG σ k).bind fun l=>if l.length≤2^20 then some l else none) some
theorem qP(ok:c.Ok)(st:aO c ρ σ s.heap)(g:Gd c s.heap)(e:qj σ x=some l)(r:R s.heap ρ x v):bk c A (call (.type "tuple") [v]) ρ s (.ok (.tup l) σ):=by
 refine ii e (fun u_ J9=>ae J9 fun k hk Km=>ae Km fun l' hl KU=>bH KU fun hz La=> ?_) fun l' h J9=> ?_
 ·obtain rfl:=gj hk;obtain rfl:=H8 La
  cases r using R.lstE with
  |lst h1=>
  refine bc (st.at_ _ _ _ h1 (bD hl)) fun vs n o rs=> ?_
  refine callType_new Jk (by exact ac) (JC _) (F.newCall_tuple_1 _) (fun obj=>JD obj _) F.entry_tuple_new
   (jG _ _ vs.toArray n rfl rfl (rs.sz hz)) ⟨o,fun h' k hz'=>⟨⟨_,JF _ rfl,rfl⟩,?_⟩⟩
  have J4:af c ρ s ρ σ {s with heap:=h',toks:=s.toks}:=af.keeps ok st g k hz'
  have J7:af c ρ {s with heap:=h'} ρ σ {s with heap:=h'.push (am vs 0),toks:=s.toks}:=af.push ok J4.sto J4.gd
  exact⟨ρ,J4.trans J7,.tup (JF _ rfl) (J4.sto.new (Hv _)) ((J4.trans J7).Rs rs)⟩
 ·obtain rfl:=eo h;obtain rfl:=H8 J9
  cases id r with
  |tup h1 f1 rs=>exact call_tuple_tup (cJ h1) ⟨ρ,.refl st g,r⟩
theorem Rs.dropLast(r:Rs h ρ l vs):Rs h ρ l.dropLast vs.dropLast:=by
 rw[List.dropLast_eq_take,List.dropLast_eq_take,r.length];exact r.take _
theorem Rs.eraseIdx(k:Nat)(r:Rs h ρ l vs):Rs h ρ (l.eraseIdx k) (vs.eraseIdx k):=by
 rw[Ht,Ht];exact(r.take k).append (r.drop (k+1))
noncomputable def cw(σ:Sg)(k:Nat)(y:V):Option Sg:=(aG σ k).bind fun l=>if l.length≤2^20 then some (σ.set k (.lst (l++[y])))else none
theorem j_(ok:c.Ok)(st:aO c ρ σ s.heap)(g:Gd c s.heap)(e:cw σ k y=some J1)(r:R s.heap ρ (.lst k) v)(q:R s.heap ρ y w):bk c A (call (.builtin "list.append") [v,w]) ρ s (.ok .none J1):=by
 refine ae e fun l hl e=>bH e fun hz e=> ?_;obtain rfl:=H8 e
 cases r using R.lstE with
 |lst h1=>
 refine bc (st.at_ _ _ _ h1 (bD hl)) fun vs n o rs=> ?_
 refine append_at o (fun h' sb e'=> ?_) (rs.sz hz)
 refine⟨ρ,af.setCell (t:=s.toks) ok st g h1 sb fun k1 k2=>⟨vs++[w],n+1,by rw[e'];simp,(k2 rs).append (.cons (k1 q) .nil)⟩,.val⟩
noncomputable def CV(σ:Sg)(k:Nat):Option (V×Sg):=(aG σ k).bind fun l=>if l.length≤2^20 then l.getLast?.map fun y=>(y,σ.set k (.lst l.dropLast))else none
noncomputable def kX(σ:Sg)(k:Nat)(i:Int):Option (V×Sg):=(aG σ k).bind fun l=>if l.length≤2^20∧I0 i=true then(seqIndex? i l.length).bind fun j=>l[j]?.map fun y=>(y,σ.set k (.lst (l.eraseIdx j)))else none
theorem vA(ok:c.Ok)(st:aO c ρ σ s.heap)(g:Gd c s.heap)(e:CV σ k=some (y,J1))(r:R s.heap ρ (.lst k) v):bk c A (call (.builtin "list.pop") [v]) ρ s (.ok y J1):=by
 refine ae e fun l hl e=>bH e fun hz e=>aM e fun y' hy e=> ?_;refine qY e fun zz1 zz2=> ?_;subst zz1;subst zz2
 cases r using R.lstE with
 |lst h1=>
 refine bc (st.at_ _ _ _ h1 (bD hl)) fun vs n o rs=> ?_
 rw[List.getLast?_eq_getElem?]at hy;refine aK (rs.get hy) fun w hw rw'=> ?_
 refine Copied.pop_at o (y:=w) (by simpa [←rs.length]using hw) (fun h' sb e'=> ?_) (rs.sz hz)
 have S:=af.setCell (c:=c) (l':= .lst l.dropLast) (t:=s.toks) ok st g h1 sb fun k1 k2=>⟨vs.dropLast,n+1,by rw[e'];rfl,k2 rs.dropLast⟩
 exact⟨ρ,S,S.R rw'⟩
theorem nZ(vs:List Value)(n j:Nat)(hj:j<vs.length):JR (fun xs=>xs.eraseIdxIfInBounds j) (az vs n)=az (vs.eraseIdx j) (n+1):=by
 have h1:vs.toArray.eraseIdxIfInBounds j=(vs.eraseIdx j).toArray:=by
  unfold Array.eraseIdxIfInBounds
  rw[dif_pos (by simpa using hj)]
  simp
 have h2:((vs.eraseIdx j).toArray.size==vs.toArray.size)=false:=by
  simp[List.length_eraseIdx,hj];omega
 simp[JR,h1];rw[List.length_eraseIdx];simp[hj];omega
theorem qi{i:Int}{t:Tok}(ok:c.Ok)(st:aO c ρ σ s.heap)(g:Gd c s.heap)(e:kX σ k i=some (y,J1))(r:R s.heap ρ (.lst k) v):bk c A (call (.builtin "list.pop") [v,.int i t]) ρ s (.ok y J1):=by
 refine ae e fun l hl e=>bH e fun hz e=>ae e fun j hj e=>aM e fun y' hy e=> ?_;refine qY e fun zz1 zz2=> ?_;subst zz1;subst zz2
 cases r using R.lstE with
 |lst h1=>
 refine bc (st.at_ _ _ _ h1 (bD hl)) fun vs n o rs=> ?_
 refine aK (rs.get hy) fun w hw rw'=> ?_;have hjl:j<vs.length:=(Gy.mp hw).1
 refine IF PySem.F.slot_list_pop ⟨_,o,rfl⟩ PySem.F.entry_list_pop (PySem.F.args_list_pop_2 _ _) (PySem.MeetsSeq.list_pop_at _ vs.toArray n i t j w hz.2 (by simpa [←rs.length]using hj) (by simpa using hw) (rs.sz hz.1)) ⟨o,?_⟩
 have me:=nZ vs n j hjl
 have S:=af.setCell (c:=c) (l':= .lst (l.eraseIdx j)) (t:=s.toks) ok st g h1 (JN (f:=JR fun xs=>xs.eraseIdxIfInBounds j) ..) fun k1 k2=>⟨vs.eraseIdx j,n+1,by rw[JJ _ o (by rw[me];rfl),me],k2 (rs.eraseIdx j)⟩
 exact⟨ρ,S,S.R rw'⟩
noncomputable def cO:List V→Option (List Int)
 |[]=>some []
 |x::l=>(cR x).bind fun i=>(cO l).map (i:: ·)
theorem oo{ns:List Int}(r:Rs h ρ l vs):cO l=some ns→IntsAre vs ns:=
 Rs.ind (Q:=fun l vs=> ∀ns,cO l=some ns→IntsAre vs ns) (fun ns e=>H8 e▸ .nil) (fun r u_ ih ns e=>by
  refine ae e fun i hi e=>aM e fun l h w=> ?_;obtain rfl:=b9 hi;obtain⟨_,rfl⟩:=r.intQ
  exact w▸ .cons _ _ (ih l h)) r ns
theorem yQ{ns:List Int}(r:IntsAre vs ns):Rs h ρ (ns.map V.int) vs:=by
 induction r with
 |nil=>exact .nil
 |cons _ _ _ ih=>exact .cons .int ih
theorem xR{ns:List Int}(r:IntsAre vs ns): ∃xs:List (Int×Tok),vs=xs.map (fun p=>JZ p.1 p.2)∧ns=xs.map (·.1):=by
 induction r with
 |nil=>exact⟨[],rfl,rfl⟩
 |cons n t r ih=>exact aK ih fun xs h1 h2=>⟨(n,t)::xs,congrArg (_:: ·) h1,congrArg (_:: ·) h2⟩
noncomputable def AP(σ:Sg)(x:V):Option Int:=(gv x).bind fun k=>(aG σ k).bind fun l=>(cO l).map List.sum
theorem vf{i:Int}(hh:A.handled=none)(ok:c.Ok)(st:aO c ρ σ s.heap)(g:Gd c s.heap)(e:AP σ x=some i)(r:R s.heap ρ x v):bk c A (call (.builtin "sum") [v]) ρ s (.ok (.int i) σ):=by
 refine ae e fun k hk e=>ae e fun l hl e=>aM e fun ns hns e=> ?_;subst e;obtain rfl:=gj hk
 cases r using R.lstE with
 | @lst la h1=>
 refine bc (st.at_ _ _ _ h1 (bD hl)) fun vs n o rs=> ?_
 refine aK (xR (oo rs hns)) fun xs h2 h3=> ?_
 have hl:s.heap.IsList la (intItems xs.toArray):=by
  have:=bT o;rw[h2]at this;simpa [intItems]using this
 refine bu (sum_intListG hh hl fun h' tk t' k hz=>⟨ρ,af.keeps ok st g k hz,?_⟩)
 rw[preSum_eq,List.take_of_length_le (by simp),show xs.toArray.toList=xs from rfl,←h3]
 exact .int
noncomputable def rg(x:Int):List Int→List Int
 |[]=>[x]
 |y::l=>if x≤y then x::y::l else y::rg x l
noncomputable def cm:List Int→List Int
 |[]=>[]
 |x::l=>rg x (cm l)
theorem mR(x:Int)(l:List Int):(rg x l).Perm (x::l):=by
 induction l with
 |nil=>exact .refl _
 |cons y l ih=>
  refine(?_:(if x≤y then x::y::l else y::rg x l).Perm _)
  split
  ·exact .refl _
  ·exact(ih.cons y).trans (.swap ..)
theorem vQ{x:Int}(hx:z≤x): ∀l:List Int,(∀y∈l,z≤y)→ ∀y∈rg x l,z≤y
 |l,h,y,m=>by
  rcases Gp.mp ((mR x l).mem_iff.mp m)with rfl|q
  ·exact hx
  ·exact h y q
set_option tactic.hygienic true in
theorem pi(x:Int)(l:List Int):l.Pairwise (· ≤ ·)→(rg x l).Pairwise (· ≤ ·):=by
 induction l with
 |nil=>exact fun _=>List.pairwise_singleton _ _
 |cons y l ih=>
  intro h;refine oA (Hl.mp h) fun h1 h2=> ?_
  refine(?_:(if x≤y then x::y::l else y::rg x l).Pairwise _)
  split
  ·rename_i q
   exact Hl.mpr ⟨fun z m=>by rcases Gp.mp m with rfl|m;exact q;exact F6 q (h1 z m),h⟩
  ·rename_i q;exact Hl.mpr ⟨fun z m=>vQ (Ga (Int.not_le.mp q)) l h1 z m,ih h2⟩
theorem dE: ∀l:List Int,(cm l).Perm l
 |[]=> .refl _
 |x::l=>(mR x _).trans ((dE l).cons x)
theorem i0: ∀l:List Int,(cm l).Pairwise (· ≤ ·)
 |[]=> .nil
 |x::l=>pi x _ (i0 l)
theorem xc{ns ns':List Int}(p:ns'.Perm ns)(w:ns'.Pairwise (· ≤ ·)):ns'=cm ns:=
 List.Perm.eq_of_pairwise (le:=(· ≤ ·)) (fun a b u_ u_ h1 h2=>Int.le_antisymm h1 h2) w (i0 ns) (p.trans (dE ns).symm)
noncomputable def n0(σ:Sg)(x:V):Option (List V):=((eG x).elim ((gv x).bind (aG σ)) some).bind fun l=>if l.length<64 then(cO l).map fun ns=>(cm ns).map V.int else none
theorem lM{o:Obj}{ns:List Int}(hT:T="list"∨T="tuple")(ok:c.Ok)(st:aO c ρ σ s.heap)(g:Gd c s.heap)(ho:s.heap.get? a=some o)(hc:o.cls= .type T)(hd:o.data= .seq vs.toArray n)
 (hI:IntsAre vs ns) (h64:vs.length<64):bk c A (call (.builtin "sorted") [.ref a]) ρ s (.ok (.lst σ.length) (σ++[.lst ((cm ns).map V.int)])):=by
 refine Calls.call_function_entry kind_sorted plain_sorted entry_sorted (args_sorted1 _) ?_;unfold Builtin.«sorted»
 change let K0:=_;let Q0:=_;let E0:=_;H9 _ _ (_>>=K0) Q0 E0 _;intros
 refine H_ (m:=checkCount "sorted" 1 1 _) (H' ?_)
 change let K0:=_;let Q0:=_;let E0:=_;H9 _ _ (_>>=K0) Q0 E0 _;intros
 refine H_ (j8 a hT ho hc hd (fun h' k hz=> ?_) (by simp;exact Hu (HH h64) (by decide)))
 change let K0:=_;let Q0:=_;let E0:=_;H9 _ _ (_>>=K0) Q0 E0 _;intros
 refine H_ (wpAny_newList ?_ (by simp;exact Hu (HH h64) (by decide)))
 have J4:af c ρ s ρ σ {s with heap:=h',toks:=s.toks}:=af.keeps ok st g k hz
 have hoL:(h'.push (seqObj "list" vs.toArray 0)).get? h'.objs.size=some (seqObj "list" vs.toArray 0):=JF _ rfl
 show H9 _ _ _ _ _ {s with heap:=h'.push (seqObj "list" vs.toArray 0)}
 change let K0:=_;let Q0:=_;let E0:=_;H9 _ _ (_>>=K0) Q0 E0 _;intros
 refine H_ (Ic (Ij slot_list_sort ⟨_,hoL,rfl⟩ entry_list_sort (list_sort_tree hoL hI h64 fun out ns' a1 a2 a3=>⟨_,rfl,?_⟩) (args_list_sort _)));refine H' ⟨_,rfl,?_⟩;have en:=xc a2 a3;subst en;obtain⟨e,he⟩:=sortedHeap_at (out:=out) (vs:=vs) hoL
 have hszN:(sortedHeap (h'.push (seqObj "list" vs.toArray 0)) h'.objs.size vs out).objs.size=h'.objs.size+3:=by
  unfold sortedHeap;rw[JL,JH,JH,JL,JH]
 have kk: ∀b o',h'.get? b=some o'→(sortedHeap (h'.push (seqObj "list" vs.toArray 0)) h'.objs.size vs out).get? b=some o':=fun b o' hb=>by
  have hlt:=JI hb
  rw[sortedHeap_old (HT hlt) (by rw[JH];exact HP hlt)]
  exact JG _ hb
 have J7:=af.newLst (t:=s.toks) (n:=e) (vs:=out.toList) (l:=(cm ns).map V.int) (a:=h'.objs.size) ok J4.sto J4.gd kk (by show h'.objs.size≤_;rw[hszN];exact HA _ _) (Hv _) he fun u_ u_ u_=>yQ a1
 exact⟨_,J4.trans J7,.lst (J4.sto.last _)⟩
theorem pU(ok:c.Ok)(st:aO c ρ σ s.heap)(g:Gd c s.heap)(e:n0 σ x=some l)(r:R s.heap ρ x v):bk c A (call (.builtin "sorted") [v]) ρ s (.ok (.lst σ.length) (σ++[.lst l])):=by
 refine ae e fun l h e=>bH e fun hz e=>aM e fun ns hns e=> ?_;subst e;refine ii h (fun u_ h=>ae h fun k hk hl=> ?_) fun l' h q=> ?_
 ·obtain rfl:=gj hk
  cases r using R.lstE with
  |lst h1=>
  refine bc (st.at_ _ _ _ h1 (bD hl)) fun vs n o rs=> ?_
  exact lM (.inl rfl) ok st g o rfl rfl (oo rs hns) (rs.length▸hz)
 ·obtain rfl:=eo h;obtain rfl:=H8 q
  cases r using R.tupE with
  |tup h1 f1 rs=>exact lM (.inr rfl) ok st g h1 rfl rfl (oo rs hns) (rs.length▸hz)
noncomputable def mkO(C:Addr)(k:Nat):aD V→Option (aD V)
 | .ok y J1=>if aX y=true then some (.ok (.inst C k) J1)else none
 | .exc cls J1=>some (.exc cls J1)
variable (c)in
noncomputable def mV(cf:gA)(σ:Sg)(C:Addr)(xs:List V)(ks:List (Str×V)):Option (aD V):=if makesIn c.K C=true then(findIn c.K (.ref C) "__init__").bind fun a=>a.bind fun v=>(kh v).bind fun fI=>
 if typeIn c.K (.ref fI)=some (.type "function")then(cf (σ++[.dct []]) fI (.inst C σ.length::xs) ks).bind (mkO C σ.length)else none
 else none
theorem oC(C:Addr)(rest:List Value)(kw:List (Str×Value)):(Ji "type.__call__" ⟨.ref C::rest,kw⟩).weight=1:=rfl
theorem qm(C:Addr)(rest:List Value)(kw:List (Str×Value)):(Ji "type.__call__" ⟨.ref C::rest,kw⟩).cUnits=1:=rfl
theorem d_.made{rest:List Value}(r:d_ c ρ A (d+1) h):d_ c ρ (A.under (.builtin "type.__call__" ⟨.ref C::rest,kw⟩)) d h where
 hand:=r.hand
 depth:=by
  have:=r.depth;show A.depth+(Ji "type.__call__" ⟨.ref C::rest,kw⟩).weight+d<recursionLimit;rw[oC];exact E2 ‹_›
 units:=by
  have:=r.units;show A.units+(Ji "type.__call__" ⟨.ref C::rest,kw⟩).cUnits+8*d+220<cLine;rw[qm];exact ru1 ‹_›
 frames:=r.frames
theorem tw{ks:List (Str×V)}(hc:dD c d cf)(e:mV c cf σ C xs ks=some o)(ok:c.Ok)(st:aO c ρ σ s.heap)(g:Gd c s.heap)(room:d_ c ρ A (d+1) s.heap)
 (rx:Rs s.heap ρ xs vs) (rk:Rk s.heap ρ ks kv):lJ c A (.call (.ref C) ⟨vs,kv⟩) ρ s o:=by
 refine bH e fun hm J9=>ae J9 fun a ha Km=>ae Km fun v hv KU=>ae KU fun fI hfI La=>bH La fun hf Lg=>ae Lg fun o' ho' Lh=> ?_;clear e J9 Km KU La Lg
 have hi:findIn c.K (.ref C) "__init__"=some (some (.ref fI)):=by rw[ha,hv,jn hfI]
 obtain⟨h,gs,dr,tk,os⟩:=s;have J4:af c ρ ⟨h,gs,dr,tk,os⟩ (ρ.add h.objs.size) (σ++[.dct []]) ⟨h.push emptyDict,gs,dr,tk,os⟩:=af.pushCell (s:=⟨h,gs,dr,tk,os⟩) (l:= .dct []) (t:=tk) ok st g fun h' J3 e u_ u_=>⟨[],0,#[],e,.nil⟩;have J7:af c (ρ.add h.objs.size) ⟨h.push emptyDict,gs,dr,tk,os⟩ (ρ.add h.objs.size) (σ++[.dct []]) ⟨(h.push emptyDict).push (instObj C h.objs.size),gs,dr,tk,os⟩:=af.push (s:=⟨h.push emptyDict,gs,dr,tk,os⟩) (t:=tk) ok J4.sto J4.gd;have S:=J4.trans J7;have hsz:(h.push emptyDict).objs.size=h.objs.size+1:=JH ..
 have ri:R ((h.push emptyDict).push (instObj C h.objs.size)) (ρ.add h.objs.size) (.inst C σ.length) (.ref (h.objs.size+1)):=by
  refine .inst (dx:=h.objs.size) ?_ ?_ (st.last _)
  ·rw[←hsz];exact JF _ rfl
  ·rw[←hsz];exact J4.sto.new (Hv _)
 refine make_core (makes_of g.kin hm) (looks_findIn g.kin hi) (fun self=>bind_fn g.kin self hf) (.inl rfl) ?_;refine IA (hc ho' ok S.sto S.gd (S.room st room).made (.cons ri (S.Rs rx)) (S.Rk rk)) fun r s' z=> ?_
 rcases r with ev|(v|_|_|_)
 ·cases o' with
  |ok y J1=>exact z.elim
  |exc cls J1=>
   obtain rfl:=H8 Lh;exact cC.trans (α:=V) (β:=V) S z
 ·exact z.elim
 ·exact z.elim
 ·exact z.elim
 ·cases o' with
  |exc=>exact z.elim
  |ok y J1=>
   refine bH Lh fun hy LA=>aK z fun J3 T ry=> ?_;obtain rfl:=H8 LA;have:=hU ry;rw[hy]at this;exact⟨Gj this,J3,S.trans T,T.R ri⟩
noncomputable def kO(σ:Sg):Nat→It→Option (List V)
 |0,_=>none
 |n+1,t=>(aw σ t).bind fun r=>r.elim (some []) fun p=>(kO σ n p.2).map (p.1:: ·)
theorem d8(vs:List Value)(w:Value)(n:Nat):JR (·.push w) (az vs n)=az (vs++[w]) (n+1):=by
 simp[JR]
theorem sW{S:Addr}{res:Value}{R:Result→Shared→Prop}(hh:A.handled=none)(ok:c.Ok)(hSI:S∉I)(n:Nat): ∀(t:It) (l:List V) (s:Shared) (acc:List V) (vs:List Value) (k:Nat),kO σ n t=some l→acc.length+l.length≤2^20→
 aO c ρ σ s.heap→Gd c s.heap→bB s.heap ρ t I a→S∈ρ.p→s.heap.get? S=some (az vs k)→Internal.Rs s.heap ρ acc vs→
 (∀s' vs' k',ad c (S::I) ρ s ρ σ s'→s'.heap.get? S=some (az vs' k')→Internal.Rs s'.heap ρ (acc++l) vs'→R (.ok (.ret res)) s')→
 codeAny (model c.prog c.w) A (.builtin "list.extend.loop" ⟨[.ref S,.ref a,res],[]⟩) R s:=by
 induction n with
 |zero=>exact fun u_ u_ u_ u_ u_ u_ e u_ u_ u_ u_ u_ u_ u_ u_=>no e
 |succ n ih=>
  intro t l s acc vs k e hz st g i hp hS ra hR;refine Ii JE ?_;rw[IW Jl _];show H9 _ A.in1 (pyNext (.ref a)>>=_) _ _ s;refine ae e fun r hn e=> ?_
  change let K0:=_;let Q0:=_;H9 _ _ (_>>=K0) Q0 _ _;intros
  refine ii e (fun hr e=> ?_) fun p hr e=> ?_
  ·subst hr;obtain rfl:=H8 e;refine H_ (It.pull0 (A:=A.in1) hh ok st g i hn fun J5 J4=> ?_);have KH:J5.heap.get? S=some (az vs k):=J4.ext.get (fun m=>(Gl.mp m).elim hSI (st.disj S hp)) hS rfl;refine H' (hR J5 vs k (J4.wider fun b m=> .tail _ m) KH ?_);rw[Gz];exact ad.Rs i.priv.1 J4 ra
  ·subst hr;refine aM e fun l' hl' e=> ?_;subst e;refine H_ (It.pull (A:=A.in1) hh ok st g i hn fun w J5 J4 rv KP=> ?_);have KH:J5.heap.get? S=some (az vs k):=J4.ext.get (fun m=>(Gl.mp m).elim hSI (st.disj S hp)) hS rfl
   have hv:vs.length≤2^20:=by rw[←ra.length];exact asl ‹_›
   show H9 _ A.in1 (updateSeq S (·.push w)>>=_) _ _ _
   refine H_ (Iy KH rfl ?_ (by simp;exact Hu hv (by decide)) (by simp;exact Hu hv (by decide)))
   have hg:(J5.heap.update S (JR (·.push w))).get? S=some (az (vs++[w]) (k+1)):=by
    rw[JJ _ KH (by rw[d8];rfl),d8]
   have J7:ad c [S] ρ J5 ρ σ {J5 with heap:=J5.heap.update S (JR (·.push w)),toks:=J5.toks}:=ad.same (t:=J5.toks) ok J4.sto J4.gd hp (JN ..)
   have KF:=ad.itr J4.sto (by simpa using hp) (fun y m q=>hSI (by rw[Gn.mp q]at m;exact m)) J7 KP
   have LB:=ad.Rs (by simpa using hp) J7 ((ad.Rs i.priv.1 J4 ra).append (.cons rv .nil))
   refine H' ⟨Ik Jl _,ih p.2 l' _ (acc++[p.1]) (vs++[w]) (k+1) hl' (by simp at hz⊢;exact Ea ‹_›) J7.sto J7.gd KF hp hg LB fun s' vs' k' Kg h3 r3=> ?_⟩
   refine hR s' vs' k' (((J4.wider fun b m=> .tail _ m).trans (J7.wider (by exact Hd ..))).trans Kg) h3 ?_
   rw[Gx]at r3;exact r3
namespace F2
theorem nolen_lri:typeLookup (.type "list_reverseiterator") "__len__"=pure none:=by rw[IG,IH];exact rfl
theorem hint_lri:typeLookup (.type "list_reverseiterator") "__length_hint__"=pure (some (.builtin "list_reverseiterator.__length_hint__")):=by rw[IG,IH];exact rfl
end F2
theorem nC{Q:List Value→Shared→Prop}(hh:A.handled=none)(ok:c.Ok)(st:aO c ρ σ s.heap)(g:Gd c s.heap)(e:kO σ n (.revl k i)=some l)(hz:l.length≤2^20)(it:bB s.heap ρ (.revl k i) I a)
 (hQ: ∀J3 s' vs,ad c I ρ s J3 σ s'→Internal.Rs s'.heap J3 l vs→Q vs s'):H9 (model c.prog c.w) A (collect (.ref a)) Q E s:=by
 unfold collect
 change let K0:=_;let Q0:=_;let E0:=_;H9 _ _ (_>>=K0) Q0 E0 _;intros
 refine H_ (wpAny_runValue (Ii F.entry_proto_collect ?_));rw[IW F.plain_proto_collect _];show H9 _ A.in1 (newList []>>=fun l=>again (.builtin "list.__iadd__" ⟨[l,.ref a],[]⟩)) _ _ s
 change let K0:=_;let Q0:=_;let E0:=_;H9 _ _ (_>>=K0) Q0 E0 _;intros
 refine H_ (Ig ?_);refine H' ⟨Ik Jr _,Ii F.entry_list_iadd ?_⟩;rw[IW Jr _]
 have Ko:af c ρ s ⟨ρ.r,s.heap.objs.size::ρ.p⟩ σ {s with heap:=s.heap.push (az [] 0),toks:=s.toks}:=af.priv (t:=s.toks) ok st g
 have LC:=Ko.itr st it;have hSI:s.heap.objs.size∉I:=fun m=>absurd (st.plow _ (it.priv.1 _ m)).2 (HI _);have haI:a∈I:=it.priv.2;have hSa:s.heap.objs.size≠a:=fun q=>hSI (q▸haI)
 have h1:I2 (.ref s.heap.objs.size) (.ref a)=false:=by exact decide_eq_false (by assumption)
 have KH:(s.heap.push (az [] 0)).get? s.heap.objs.size=some (az [] 0):=JF _ rfl
 have hT:Shared.TypeIs {s with heap:=s.heap.push (az [] 0),toks:=s.toks} (.ref a) "list_reverseiterator":=by
  cases LC with
  |revl h1 r p=>refine cz h1 fun o ho hc u_=> ?_;exact⟨o,ho,hc⟩
 show H9 _ A.in1 (IZ (.ref s.heap.objs.size) (.ref a) (.ref s.heap.objs.size)) _ _ {s with heap:=s.heap.push (az [] 0),toks:=s.toks}
 unfold IZ
 change let K0:=_;let Q0:=_;let E0:=_;H9 _ _ (_>>=K0) Q0 E0 _;intros
 refine H_ (Iv hT ?_)
 refine bU (by rw[h1];decide) ?_
 change let K0:=_;let Q0:=_;let E0:=_;H9 _ _ (_>>=K0) Q0 E0 _;intros
 refine H_ (LC.iter_self ?_)
 change let K0:=_;let Q0:=_;let E0:=_;H9 _ _ (_>>=K0) Q0 E0 _;intros
 refine H_ (Ic ?_);unfold I3
 change let K0:=_;let Q0:=_;let E0:=_;H9 _ _ (_>>=K0) Q0 E0 _;intros
 refine H_ (Ix hT F2.nolen_lri ?_);show H9 _ A.in1 (specialOf (JX a) (JW "__length_hint__")>>=_) _ _ _
 change let K0:=_;let Q0:=_;let E0:=_;H9 _ _ (_>>=K0) Q0 E0 _;intros
 refine H_ (Ix hT F2.hint_lri ?_)
 (generalize dm:("list_reverseiterator.__length_hint__":String)=id0;(fail_if_success (clear dm id0));wp_delta;rw[show splitId id0=some ("list_reverseiterator","__length_hint__")from by subst dm;decide+kernel];subst dm)
 change let K0:=_;let Q0:=_;let E0:=_;H9 _ _ (_>>=K0) Q0 E0 _;intros
 refine H_ (IC (b:=true) hT (by rw[IJ];exact rfl) ?_)
 refine H' ?_
 refine bU (by decide) ?_
 refine H' ⟨Ik Jl _,sW (c:=c) (σ:=σ) hh ok hSI n _ l _ [] [] 0 e (by simpa using hz) Ko.sto Ko.gd LC (.head _) KH .nil fun s' vs' k' J4 h3 r3=> ?_⟩
 show H9 _ A (load s.heap.objs.size>>=_) _ _ s'
 change let K0:=_;let Q0:=_;let E0:=_;H9 _ _ (_>>=K0) Q0 E0 _;intros
 refine H_ (wpAny_load h3 ?_)
 refine H' (hQ _ s' _ (ad.trans' (Ko.D (D:=I)) J4 fun b m=> ?_) (by simpa using r3))
 rcases Gp.mp m with rfl|q
 ·exact .inr (Hv _)
 ·exact .inl q
theorem qx(hh:A.handled=none)(ok:c.Ok)(st:aO c ρ σ s.heap)(g:Gd c s.heap)(e:kO σ n (.revl k i)=some l)(hz:l.length≤2^20)(it:bB s.heap ρ (.revl k i) I a):
 H9 (model c.prog c.w) A (call (.type "tuple") [.ref a]) (fun v s'=> ∃J3,ad c I ρ s J3 σ s'∧Internal.R s'.heap J3 (.tup l) v) (cC c ρ s (.ok (V.tup l) σ)) s:=by
 have ip:=it.priv.1
 have hT:s.TypeIs (.ref a) "list_reverseiterator":=by
  cases it with
  |revl h1 r p=>refine cz h1 fun o ho hc u_=> ?_;exact⟨o,ho,hc⟩
 refine callType_codes (Q₁:=fun obj J5=>J5.TypeIs obj "tuple"∧ ∃J3,ad c I ρ s J3 σ J5∧Internal.R J5.heap J3 (.tup l) obj) Jk (JC _) F.entry_object_init ?_ fun obj J5 Kc=> ?_
 ·refine IQ ?_
  show H9 _ A.in1.in1 (do checkBuiltinCall "tuple.__new__" ⟨[.type "tuple",.ref a],[]⟩;again (.builtin "tuple.__new__" ⟨[.type "tuple",.ref a],[]⟩)) _ _ s
  refine H_ (Ih (F.newCall_tuple_1 _) (H' ⟨Ik Js _,Ii F.entry_tuple_new ?_⟩));rw[IW Js _];have hsub:=sub_tuple_self;have hinit:=init_tuple_lookup;have hmh:=madeHere_tuple;have hh':A.in1.in1.handled=none:=hh
  wp_walk using Iv hT,nC (A:=A.in1.in1) hh' ok st g e hz it
  intro J3 s' vs S rs;show H9 _ _ (Je vs.toArray>>=fun v=>ret v) _ _ _;unfold Je
  refine H_ (Ig ?_ (by show vs.toArray.size≤sizeLine;simp[←rs.length];exact Hu hz (by decide)))
  have J7:af c J3 s' J3 σ {s' with heap:=s'.heap.push (am vs 0),toks:=s'.toks}:=af.push (t:=s'.toks) ok S.sto S.gd
  exact H' ⟨⟨_,JF _ rfl,rfl⟩,J3,S.trans J7.D,.tup (JF _ rfl) (S.sto.new (Hv _)) (J7.Rs rs)⟩
 ·exact⟨Kc.1,JD obj _,object_init_meets Jk.init.lookup Jk.made (by exact ac) c.prog c.w A.in1 _ J5 ⟨Kc.1,rfl,Kc.2⟩⟩
noncomputable def gh(o:Option (aD V)):Option (aD IV):=o.map fun r=> @aD.casesOn V (fun u_=>aD IV) r (fun x σ=> .ok (.v x) σ) fun cls σ=> .exc cls σ
noncomputable abbrev eT:=Sg→List IV→List (Str×V)→Option (aD IV)
variable (c)in
noncomputable def zR(A:Around)(ρ:Pl)(s:Shared)(f:Value)(I:List Addr)(vs:List Value)(kv:List (Str×Value))(o:aD IV):Prop:=
 H9 (model c.prog c.w) A (call f vs kv) (qa c I (fun h J3 x v=> ∃J,nU h J3 x J v∧ ∀a∈J,a∈I∨s.heap.objs.size≤a) ρ s o) (jI c I ρ s o) s
variable (c)in
structure wH(A:Around)(ρ:Pl)(σ:Sg)(s:Shared):Prop where
 hh:A.handled=none
 ok:c.Ok
 st:aO c ρ σ s.heap
 g:Gd c s.heap
variable (c)in
noncomputable def iI(f:Value)(k:eT):Prop:= ∀{A:Around} {ρ:Pl} {σ:Sg} {s:Shared} {xs:List IV} {ks:List (Str×V)} {I:List Addr} {vs:List Value} {kv:List (Str×Value)} {o:aD IV},
 wH c A ρ σ s→cL s.heap ρ xs I vs→Rk s.heap ρ ks kv→k σ xs ks=some o→zR c A ρ s f I vs kv o
noncomputable def h1(k:Sg→IV→List (Str×V)→Option (aD IV)):eT:=fun σ xs ks=>match xs with
 |[]=>none
 |x::l=>match l with
  |[]=>k σ x ks
  |_::_=>none
noncomputable def h2(k:Sg→IV→IV→List (Str×V)→Option (aD IV)):eT:=fun σ xs ks=>match xs with
 |[]=>none
 |x::l=>h1 (fun σ y ks=>k σ x y ks) σ l ks
noncomputable def xM(f:Sg→IV→Option (aD IV)):Sg→IV→List (Str×V)→Option (aD IV):=fun σ x ks=>match ks with
 |[]=>f σ x
 |_::_=>none
noncomputable def Di(f:Sg→V→V→Option (aD IV)):Sg→IV→IV→List (Str×V)→Option (aD IV):=fun σ x y ks=>match x with
 | .v x=>match y with
  | .v y=>match ks with
   |[]=>f σ x y
   |_::_=>none
  | .it _=>none
 | .it _=>none
noncomputable def onV(f:Sg→V→Option (aD IV)):Sg→IV→Option (aD IV):=fun σ x=>match x with
 | .v x=>f σ x
 | .it _=>none
noncomputable def fM(f:Sg→V→Option (aD IV)):eT:=h1 (xM (onV f))
noncomputable def n_(f:Sg→V→V→Option (aD IV)):eT:=h2 (Di f)
theorem zX{f:Value}{k:Sg→IV→List (Str×V)→Option (aD IV)}(h: ∀{A ρ σ s x I v ks kv o},wH c A ρ σ s→nU s.heap ρ x I v→Rk s.heap ρ ks kv→k σ x ks=some o→zR c A ρ s f (I++[]) [v] kv o):iI c f (h1 k):=fun S r rk e=>by
 cases r with
 |nil=>exact no e
 |cons r rs _=>
  cases rs with
  |nil=>exact h S r rk e
  |cons=>exact no e
theorem ox{f:Value}{k:Sg→IV→Option (aD IV)}(h: ∀{A ρ σ s x I v o},wH c A ρ σ s→nU s.heap ρ x I v→k σ x=some o→zR c A ρ s f (I++[]) [v] [] o):iI c f (h1 (xM k)):=zX fun S r rk e=>by
 cases rk with
 |nil=>exact h S r e
 |cons=>exact no e
theorem fh{f:Value}{k:Sg→V→Option (aD IV)}(h: ∀{A ρ σ s x v o},wH c A ρ σ s→R s.heap ρ x v→k σ x=some o→zR c A ρ s f ([]++[]) [v] [] o):iI c f (fM k):=ox fun S r e=>by
 cases r with
 |v r=>exact h S r e
 |it=>exact no e
theorem jB{f:Value}{k:Sg→V→V→Option (aD IV)}(h: ∀{A ρ σ s x v y w o},wH c A ρ σ s→R s.heap ρ x v→R s.heap ρ y w→k σ x y=some o→zR c A ρ s f ([]++([]++[])) [v,w] [] o):iI c f (n_ k):=fun S r rk e=>by
 cases r with
 |nil=>exact no e
 |cons r rs _=>
 cases rs with
 |nil=>exact no e
 |cons q qs _=>
 cases qs with
 |cons=>exact no e
 |nil=>
 cases r with
 |it=>exact no e
 |v r=>
 cases q with
 |it=>exact no e
 |v q=>
 cases rk with
 |cons=>exact no e
 |nil=>exact h S r q e
noncomputable def BH(k k':eT):eT:=fun σ xs ks=>(k σ xs ks).or (k' σ xs ks)
theorem k_{f:Value}{k k':eT}(h:iI c f k)(h':iI c f k'):iI c f (BH k k'):=fun {_ _ σ _ xs ks _ _ _ _} S r rk e=>by
 unfold BH at e
 cases q:k σ xs ks with
 |none=>rw[q]at e;exact h' S r rk e
 |some o=>rw[q]at e;obtain rfl:=H8 e;exact h S r rk q
noncomputable def ub(tab:List (String×eT))(T:String):eT:=fun σ xs ks=>match tab.lookup T with
 |some k=>k σ xs ks
 |none=>none
theorem vY{F:String→Value}{tab:List (String×eT)}:(∀p∈tab,iI c (F p.1) p.2)→iI c (F T) (ub tab T):=by
 induction tab with
 |nil=>intro _;exact fun u_ u_ u_ e=>no e
 |cons p l ih=>
  intro h;exact fun S r rk e=>by
   obtain⟨x,k⟩:=p;unfold ub at e;rw[GF]at e
   cases q:T==x with
   |true=>rw[q]at e;exact Gj q▸h _ (.head _) S r rk e
   |false=>rw[q]at e;exact ih (fun p m=>h p (.tail _ m)) S r rk e
noncomputable def D5:=fM fun σ x=>(CH σ x).map fun i=> .ok (.v (.int i)) σ
noncomputable def CX:=fM fun σ x=>(cR x).map fun i=> .ok (.v (.int (if i<0 then-i else i))) σ
noncomputable def Dx:=fM fun σ x=>(AP σ x).map fun i=> .ok (.v (.int i)) σ
noncomputable def sq:=fM fun σ x=>(n0 σ x).map fun l=> .ok (.v (.lst σ.length)) (σ++[.lst l])
noncomputable def D7:=fM fun σ x=>(gv x).bind fun k=>(CV σ k).map fun p=> .ok (.v p.1) p.2
noncomputable def D1(K:Frag):=n_ fun σ x y=>(DD K x y).map fun b=> .ok (.v (.bool b)) σ
noncomputable def rG:=n_ fun σ x y=>(gv x).bind fun k=>(cw σ k y).map fun J1=> .ok (.v .none) J1
noncomputable def wZ:=n_ fun σ x y=>(gv x).bind fun k=>(cR y).bind fun i=>(kX σ k i).map fun p=> .ok (.v p.1) p.2
noncomputable def Cl:=n_ fun σ x y=>(cR x).bind fun a=>(cR y).map fun b=> .ok (.v (.int (if b>a then b else a))) σ
noncomputable def D4:=n_ fun σ x y=>(cR x).bind fun a=>(cR y).map fun b=> .ok (.v (.int (if b<a then b else a))) σ
noncomputable def wo(K:Frag):List (String×eT):=[("len",D5),("abs",CX),("sum",Dx),("sorted",sq),("list.pop",BH D7 wZ),("isinstance",D1 K),("list.append",rG),("max",Cl),("min",D4)]
theorem bk.iv{t:Sem Value}(h:bk c A t ρ s (.ok y J1)):H9 (model c.prog c.w) A t (qa c I (fun h J3 x v=> ∃J,nU h J3 x J v∧ ∀a∈J,a∈I∨s.heap.objs.size≤a) ρ s (.ok (.v y) J1)) (jI c I ρ s (.ok (IV.v y) J1)) s:=
 Ia h (fun v s' ⟨J3,S,r⟩=>⟨J3,S.D,[],.v r,by simp⟩) fun u_ u_ f=>f
theorem Az:iI c (.builtin "len") D5:=fh fun S r e=>aM e fun i hi w=>w▸(vn S.st S.g hi r).iv
theorem A3:iI c (.builtin "abs") CX:=fh fun S r e=>aM e fun i hi w=>by obtain rfl:=b9 hi;obtain⟨_,rfl⟩:=r.intQ;exact w▸(u8 S.st S.g).iv
theorem A_:iI c (.builtin "sum") Dx:=fh fun S r e=>aM e fun i hi w=>w▸(vf S.hh S.ok S.st S.g hi r).iv
theorem tJ:iI c (.builtin "sorted") sq:=fh fun S r e=>aM e fun i hi w=>w▸(pU S.ok S.st S.g hi r).iv
theorem Av:iI c (.builtin "list.pop") D7:=fh fun S r e=>ae e fun k hk w=>aM w fun p hi w=>by obtain rfl:=gj hk;exact w▸(vA S.ok S.st S.g hi r).iv
theorem vx:iI c (.builtin "list.pop") wZ:=jB fun S r q e=>ae e fun k hk w=>ae w fun i hi w=>aM w fun p hp w'=>by obtain rfl:=gj hk;obtain rfl:=b9 hi;obtain⟨_,rfl⟩:=q.intQ;exact w'▸(qi S.ok S.st S.g hp r).iv
theorem AU:iI c (.builtin "isinstance") (D1 c.K):=jB fun S r q e=>aM e fun i hi w=>w▸(w9 S.ok S.st S.g hi r q).iv
theorem tQ:iI c (.builtin "list.append") rG:=jB fun S r q e=>ae e fun k hk w=>aM w fun p hi w=>by obtain rfl:=gj hk;exact w▸(j_ S.ok S.st S.g hi r q).iv
theorem Bs:iI c (.builtin "max") Cl:=jB fun S r q e=>ae e fun k hk w=>aM w fun i hi w'=>by obtain rfl:=b9 hk;obtain rfl:=b9 hi;obtain⟨_,rfl⟩:=r.intQ;obtain⟨_,rfl⟩:=q.intQ;exact w'▸(wd S.hh S.ok S.st S.g).iv
theorem AE:iI c (.builtin "min") D4:=jB fun S r q e=>ae e fun k hk w=>aM w fun i hi w'=>by obtain rfl:=b9 hk;obtain rfl:=b9 hi;obtain⟨_,rfl⟩:=r.intQ;obtain⟨_,rfl⟩:=q.intQ;exact w'▸(wE S.hh S.ok S.st S.g).iv
theorem Bj{id:String}:iI c (.builtin id) (ub (wo c.K) id):=
 vY (F:= .builtin) (aW Az (aW A3 (aW A_ (aW tJ (aW (k_ Av vx) (aW AU (aW tQ (aW Bs (aW AE fH)))))))))
namespace F2
theorem tc_zip2(a b:Value):checkTypeCall "zip" ⟨[a,b],[]⟩=pure ():=by kernel_rfl
theorem tc_zip3(a b d:Value):checkTypeCall "zip" ⟨[a,b,d],[]⟩=pure ():=by kernel_rfl
theorem nc_zip2(a b:Value):checkBuiltinCall "zip.__new__" ⟨[.type "zip",a,b],[]⟩=pure ():=by kernel_rfl
theorem nc_zip3(a b d:Value):checkBuiltinCall "zip.__new__" ⟨[.type "zip",a,b,d],[]⟩=pure ():=by kernel_rfl
theorem oi3(o a b:Value):argsOk "object.__init__" ⟨[o,a,b],[]⟩:=by
 unfold argsOk;rw[IK (id:="object.__init__") (n:=['_','_','t','i','n','i','_','_']) (o:=['t','c','e','j','b','o']) rfl JA];exact rfl
theorem oi4(o a b d:Value):argsOk "object.__init__" ⟨[o,a,b,d],[]⟩:=by
 unfold argsOk;rw[IK (id:="object.__init__") (n:=['_','_','t','i','n','i','_','_']) (o:=['t','c','e','j','b','o']) rfl JA];exact rfl
end F2
theorem cL.len{xs:List IV}(r:cL h ρ xs I vs):vs.length=xs.length:=cL.rec (motive:=fun xs u_ vs u_=>vs.length=xs.length) rfl (fun u_ u_ u_ ih=>congrArg (· +1) ih) r
theorem Ci{l:List α}(h:l.length=2): ∃a b,l=[a,b]:=by
 cases l with
 |nil=>cases h
 |cons a l=>cases l with
  |nil=>cases h
  |cons b l=>exact⟨a,b,congrArg (a::b:: ·) (GL (H0 (H0 h)))⟩
theorem Ff{l:List α}(h:l.length=3): ∃a b d,l=[a,b,d]:=by
 cases l with
 |nil=>cases h
 |cons a l=>
  refine rq (Ci (H0 h)) fun b d zz2=> ?_;subst zz2;exact⟨a,b,d,rfl⟩
noncomputable def CJ:eT:=fun σ xs ks=>match ks with
 |[]=>if xs.length=2∨xs.length=3 then(jO σ xs).bind fun ts=>if ts.length≤64 then some (.ok (.it (.zip ts)) σ)else none else none
 |_::_=>none
noncomputable def Aj:=h1 (xM fun σ x=>(aA σ x).map fun t=> .ok (.it (.enum t 0)) σ)
noncomputable def vJ:=h1 fun σ x ks=>match ks with
 |[]=>none
 |(k,n)::l=>match l with
  |[]=>(cR n).bind fun n=>if k="start"∧Jc n=true then(aA σ x).map fun t=> .ok (.it (.enum t n)) σ else none
  |_::_=>none
noncomputable def Ag:=fM fun σ x=>(z_ σ x).map fun l=> .ok (.v (.lst σ.length)) (σ++[.lst l])
noncomputable def uP:=fM fun σ x=>(qj σ x).map fun l=> .ok (.v (.tup l)) σ
noncomputable def wy:IV→Option (Nat×Nat)
 | .it (.revl k i)=>some (k,i)
 |_=>none
theorem xQ{x:IV}{p:Nat×Nat}(e:wy x=some p):x= .it (.revl p.1 p.2):=by
 cases x with
 |v=>exact no e
 |it t=>cases t<;>first|exact no e|(obtain rfl:=H8 e;rfl)
noncomputable def nB:=h1 (xM fun σ x=>(wy x).bind fun p=>(kO σ 4096 (.revl p.1 p.2)).bind fun l=>if l.length≤2^20 then some (.ok (.v (.tup l)) σ)else none)
noncomputable def uU:=fM fun σ x=>(cR x).map fun n=> .ok (.v (.rng 0 n 1)) σ
noncomputable def rF:=n_ fun σ x y=>(cR x).bind fun a=>(cR y).map fun b=> .ok (.v (.rng a b 1)) σ
noncomputable def CA:=fM fun σ x=>(gv x).bind fun k=>(aG σ k).map fun l=> .ok (.it (.revl k l.length)) σ
noncomputable def z9:=fM fun σ x=>(eG x).bind fun l=>if l.length≤2^20 then some (.ok (.it (.revt l l.length)) σ)else none
noncomputable def vj:List (String×eT):=[("zip",CJ),("enumerate",BH Aj vJ),("list",Ag),("tuple",BH uP nB),("range",BH uU rF),("reversed",BH CA z9)]
theorem zR.it{f:Value}(h: ∀{Q E},(∀J3 J a s',af c ρ s J3 J1 s'→bB s'.heap J3 t J a→(∀x∈J,x∈I∨s.heap.objs.size≤x)→Q (.ref a) s')→H9 (model c.prog c.w) A (call f vs kv) Q E s):zR c A ρ s f I vs kv (.ok (.it t) J1):=
 h fun J3 J u_ u_ S i k=>⟨J3,S.D,J,.it i,k⟩
theorem zf:iI c (.type "zip") CJ:=fun {_ _ _ _ xs _ _ _ _ _} S r rk e=>by
 cases rk with
 |cons=>exact no e
 |nil=>
 refine bH e fun h24 e=>ae e fun ts hts e=>bH e fun hz e=> ?_;obtain rfl:=H8 e;refine .it fun fin=> ?_
 rcases h24 with h|h
 ·refine rq (Ci (r.len.trans h)) fun a b zz2=> ?_;subst zz2;exact pf S.ok S.st S.g hts r hz (F2.tc_zip2 _ _) (F2.nc_zip2 _ _) (fun o=>F2.oi3 o _ _) fin
 ·refine D8 (Ff (r.len.trans h)) fun a b d zz3=> ?_;subst zz3;exact pf S.ok S.st S.g hts r hz (F2.tc_zip3 _ _ _) (F2.nc_zip3 _ _ _) (fun o=>F2.oi4 o _ _ _) fin
theorem mY{x:Addr}(q:x∈I∨n≤x):x∈I++[]∨n≤x:=q.imp (fun q=>GJ _ q) id
theorem vD:iI c (.type "enumerate") Aj:=ox fun {A ρ σ s x I v o} S r e=>aM e fun t ht w=>w▸zR.it fun h=>tO S.ok S.st S.g ht r fun J3 J a s' S i k=>h J3 J a s' S i fun z m=>mY (k z m)
theorem we:iI c (.type "enumerate") vJ:=zX fun S r rk e=>by
 cases rk with
 |nil=>exact no e
 |cons r1 rk=>
 cases rk with
 |cons=>exact no e
 |nil=>
 refine ae e fun n hn w=>bH w fun hk w=>aM w fun t ht w'=> ?_;obtain rfl:=b9 hn;obtain⟨_,rfl⟩:=r1.intQ;rw[hk.1,←w'];exact .it fun h=>kx S.ok S.st S.g ht r hk.2 fun J3 J a s' S i k=>h J3 J a s' S i fun z m=>mY (k z m)
theorem yg:iI c (.type "list") Ag:=fh fun S r e=>aM e fun t ht w=>w▸(te S.hh S.ok S.st S.g ht r).iv
theorem wW:iI c (.type "tuple") uP:=fh fun S r e=>aM e fun t ht w=>w▸(qP S.ok S.st S.g ht r).iv
theorem tN:iI c (.type "tuple") nB:=ox fun S r e=>ae e fun p hp w=>ae w fun l hl w=>bH w fun hz w=>by
 obtain rfl:=xQ hp;obtain rfl:=H8 w
 cases r with
 |it i=>exact Ia (qx S.hh S.ok S.st S.g hl hz i) (fun v s' ⟨J3,S,r'⟩=>⟨J3,S.wider (fun a m=>GJ _ m),[],.v r',fH⟩) fun u_ u_ f=>f.elim
theorem uK:iI c (.type "range") uU:=fh fun S r e=>aM e fun t ht w=>by obtain rfl:=b9 ht;obtain⟨_,rfl⟩:=r.intQ;exact w▸(tm S.ok S.st S.g).iv
theorem sR:iI c (.type "range") rF:=jB fun S r q e=>ae e fun k hk w=>aM w fun i hi w'=>by obtain rfl:=b9 hk;obtain rfl:=b9 hi;obtain⟨_,rfl⟩:=r.intQ;obtain⟨_,rfl⟩:=q.intQ;exact w'▸(sP S.ok S.st S.g).iv
theorem A9:iI c (.type "reversed") CA:=fh fun S r e=>ae e fun k hk w=>aM w fun l hl w'=>by
 obtain rfl:=gj hk;subst w';exact .it fun h=>nK S.ok S.st S.g (bD hl) r fun J3 J a s' S i k=>h J3 J a s' S i fun z m=> .inr (k z m)
theorem xz:iI c (.type "reversed") z9:=fh fun S r e=>ae e fun l hl w=>bH w fun hz w=>by
 obtain rfl:=eo hl;obtain rfl:=H8 w;exact .it fun h=>n9 S.ok S.st S.g r hz fun J3 J a s' S i k=>h J3 J a s' S i fun z m=> .inr (k z m)
theorem BJ:iI c (.type T) (ub vj T):=
 vY (F:= .type) (aW zf (aW (k_ vD we) (aW yg (aW (k_ wW tN) (aW (k_ uK sR) (aW (k_ A9 xz) fH))))))
noncomputable def oh:List IV→Option (List V)
 |[]=>some []
 | .v x::l=>(oh l).map (x:: ·)
 |_=>none
theorem xW{xs:List IV}(r:cL h ρ xs I vs):oh xs=some l→Rs h ρ l vs:=
 cL.rec (motive:=fun xs u_ vs u_=> ∀l,oh xs=some l→Rs h ρ l vs) (fun l e=>H8 e▸ .nil) (fun r u_ u_ ih l e=>by
  cases r with
  |v r=>exact aM e fun l' h1 w=>w▸ .cons r (ih l' h1)
  |it=>exact no e) r l
variable (c)in
noncomputable def qE(cf:gA):lA:=fun σ fv xs ks=> @Value.casesOn (fun u_=>Option (aD IV)) fv none none none (fun u_=>none) (fun u_ u_=>none) (fun u_ u_=>none) (fun u_ u_=>none) (fun u_ u_=>none) (fun T=>ub vj T σ xs ks) (fun id=>ub (wo c.K) id σ xs ks) fun a=>(oh xs).bind fun l=>gh (match ly c.K a with
 |some _=>cf σ a l ks
 |none=>mV c cf σ a l ks)
theorem lJ.iv{a:Value}(h:lJ c A (.call a ⟨vs,kv⟩) ρ s o)(e:gh (some o)=some o'):
 H9 (model c.prog c.w) A (call a vs kv) (qa c I (fun h J3 x v=> ∃J,nU h J3 x J v∧ ∀a∈J,a∈I∨s.heap.objs.size≤a) ρ s o') (jI c I ρ s o') s:=by
 refine ID (IA h fun r s' z=> ?_)
 cases o with
 |ok x J1=>
  obtain rfl:=H8 e
  rcases r with ev|(v|_|_|_)
  ·exact z.elim
  ·exact z.elim
  ·exact z.elim
  ·exact z.elim
  ·refine aK z fun J3 S r=> ?_
   exact⟨J3,S.D,[],.v r,by simp⟩
 |exc cls J1=>
  obtain rfl:=H8 e
  rcases r with ev|(v|_|_|_)
  ·exact cC.toD (α:=IV) z
  ·exact z.elim
  ·exact z.elim
  ·exact z.elim
  ·exact z.elim
theorem lj(hc:dD c (d+1) cf)(hc':dD c d cf):xP c (d+1) (qE c cf):=by
 intro A ρ σ s fv xs ks I vs kv o e ok st g room r rk
 cases fv with
 |ref a=>
  refine ae e fun l hl e=> ?_;have rl:=xW r hl;generalize ly c.K a=f at e
  cases f with
  |some _=>
   generalize hq:cf σ a l ks=q at e
   cases q with
   |none=>exact no e
   |some KG=>exact(hc hq ok st g room rl rk).iv e
  |none=>
   generalize hq:mV c cf σ a l ks=q at e
   cases q with
   |none=>exact no e
   |some KG=>exact(tw hc' hq ok st g room rl rk).iv e
 |type T=>exact BJ ⟨room.hand,ok,st,g⟩ r rk e
 |builtin id=>exact Bj ⟨room.hand,ok,st,g⟩ r rk e
 |_=>exact no e
noncomputable def sJ(name:Str)(y:V):List (Str×V)→List (Str×V)
 |[]=>[(name,y)]
 |(n,x)::r=>if(n==name)=true then(n,y)::r else(n,x)::sJ name y r
theorem Rf.put{hsh:Int}{t:Tok}(ry:R h ρ y v){es:List DictEntry}(r:Rf h ρ fs es):Rf h ρ (sJ name y fs) (putL name hsh (.str name t) v es):=
 Rf.rec (motive:=fun fs es u_=>Rf h ρ (sJ name y fs) (putL name hsh (.str name t) v es)) (.cons rfl ry .nil) (fun {n u x e fs es} hk r rs ih=>by
  have hs:e.key.isStr name=(n==name):=by rw[hk];rfl
  refine(?_:Rf h ρ (if(n==name)=true then _ else _) (if e.key.isStr name=true then _ else _))
  rw[hs]
  by_cases q:(n==name)=true
  ·rw[if_pos q,if_pos q];exact .cons hk ry rs
  ·rw[if_neg q,if_neg q];exact .cons hk r ih) r
theorem Rf.len{es:List DictEntry}(r:Rf h ρ fs es):fs.length=es.length:=Rf.rec (motive:=fun fs es u_=>fs.length=es.length) rfl (fun u_ u_ u_ ih=>congrArg (· +1) ih) r
theorem xd(name:Str)(hsh:Int)(k v:Value)(es:List DictEntry):(putL name hsh k v es).length≤es.length+1:=by
 induction es with
 |nil=>exact Hv _
 |cons e es ih=>
  unfold putL
  split
  ·exact Hz _
  ·exact Nat.succ_le_succ ih
theorem pH(name:Str)(hsh:Int)(key v:Value)(es:List DictEntry)(n:Nat)(sl:Array (Option Value)):Obj.putName name hsh key v (fc es n sl)=fc (putL name hsh key v es) (putN name es n) sl:=by
 rw[Obj.putName_eq];unfold Obj.putNameByArray fc putN;have h1:=putL_find name hsh key v es;have h2:=any_of_findIdx name es;simp only[List.findIdx?_toArray]
 cases h:List.findIdx? (fun x=>x.key.isStr name) es with
 |none=>rw[h]at h1 h2;rw[←h2,←h1];simp
 |some i=>rw[h]at h1 h2;rw[←h2,←h1];simp
variable (c)in
noncomputable def de(σ:Sg)(x:V)(name:Str)(y:V):Option Sg:=(Dn x).bind fun p=>(fm σ p.1.2).bind fun fs=>if findIn c.K (.ref p.1.1) "__setattr__"=some (some (.builtin "object.__setattr__"))∧plainOver c.K p.1.1=true∧takerIn c.K p.1.1 name=some none∧hasDictIn c.K p.1.1=true∧fs.length≤900 then some (σ.set p.1.2 (.dct (sJ name y fs)))else none
theorem nj(ok:c.Ok)(st:aO c ρ σ s.heap)(g:Gd c s.heap)(e:de c σ x name y=some J1)(r:R s.heap ρ x v)(q:R s.heap ρ y w):
 H9 (model c.prog c.w) A (setAttr v name w) (fun u_ s'=>af c ρ s ρ J1 s') E s:=by
 refine eO e fun p J9=>ae J9 fun fs hk Km=>bH Km fun hc KU=> ?_;clear e J9 Km;replace hk:=ou hk;obtain⟨⟨C,k⟩,rfl⟩:=p;refine C9 hc fun h1 h2 h3 h4 h5=> ?_;obtain rfl:=H8 KU;refine cr (kE st hk r) fun xa es n sl zz4 I hdx rf=> ?_;subst zz4
 have hrk: ∃dx,ρ.r[k]? =some dx:=by
  cases r with
  |inst _ _ h=>exact⟨_,h⟩
 refine oE hrk fun dx hdxk=> ?_
 have edx:ρ.r[k]?.getD 0=dx:=by rw[hdxk];rfl
 rw[edx]at I hdx
 refine set_plain g.kin I h1 (osa_open (s:={s with toks:=s.toks+1}) g.kin I h2 h3 fun b=> ?_)
 refine aK (any_some h4) fun cd hcd hd'=> ?_;obtain⟨hx,hcl,hn,-⟩:=id I
 change let K0:=_;let Q0:=_;let E0:=_;H9 _ _ (_>>=K0) Q0 E0 _;intros
 refine H_ (H' (H_ (H_ (wpAny_loadPart hx (H_ (Looks.here (s:={s with toks:=s.toks+1}) (looks_clsIn g.kin hcd) ?_))))))
 rw[hd'];refine H' (a:=some dx) (H_ (H' (H_ ?_)));unfold nsSet
 change let K0:=_;let Q0:=_;let E0:=_;H9 _ _ (_>>=K0) Q0 E0 _;intros
 refine H_ (H_ (wpAny_askSetting (H' (H_ (wpAny_mkText (H_ (wpAny_loadPart hdx ?_)))))));dsimp only
 have hc0:(!es.toArray.any (·.key.isStr name)&&es.toArray.any (·.refKey))=false:=by
  rw[←Array.any_toList,←Array.any_toList];have:=(rf.get (name:=name)).1;exact(fun {x y}↦Bool.and_eq_false_imp.mpr) fun a↦this
 rw[aRefKeyMayBeTheName_at,hc0];refine wpAny_updatePart hdx ?_;have pe:=pH name (JV c.w.params name) (.str name (s.toks+1)) w es n sl
 have hg:(s.heap.update dx (Obj.putName name (JV c.w.params name) (.str name (s.toks+1)) w)).get? dx=some (fc (putL name (JV c.w.params name) (.str name (s.toks+1)) w es) (putN name es n) sl):=by
  rw[JJ _ hdx (by rw[pe];rfl),pe]
 have hl:(putL name (JV c.w.params name) (.str name (s.toks+1)) w es).length≤1000:=by
  have:=xd name (JV c.w.params name) (.str name (s.toks+1)) w es;have:=rf.len;omega
 change let K0:=_;let Q0:=_;let E0:=_;H9 _ _ (_>>=K0) Q0 E0 _;intros
 refine H_ (wpAny_lookBehind hg (pastItsLine_dict (by rw[GR,sizeLine_eq];exact bf ‹_› (by exact ac))) ?_)
 refine H' ?_
 exact af.setCell (c:=c) (t:=s.toks+1+1) ok st g hdxk (JN ..) fun k1 k2=>⟨_,_,_,hg,Rf.put (k1 q) (rf.mono (c:=c) (S:=[dx]) (fun a m f=>by rw[Gn.mp m]at f;exact f.1 (GY hdxk)) (.of_keeps fun b o nb eb=>((JN (h:=s.heap) (a:=dx) (f:=Obj.putName name (JV c.w.params name) (.str name (s.toks+1)) w)).2 b (fun qq=>nb (by simp[qq]))).trans eb) (Pl.Le.refl _ _))⟩
noncomputable def dN(σ:Sg)(k:Nat)(i:Int)(y:V):Option Sg:=(aG σ k).bind fun l=>if-(2^62)≤i∧i<2^62∧l.length≤2^20 then(seqIndex? i l.length).map fun j=>σ.set k (.lst (l.set j y))else none
theorem mf(vs:List Value)(w:Value)(n j:Nat):JR (·.setIfInBounds j w) (az vs n)=az (vs.set j w) n:=by
 simp[JR]
theorem Rs.setAt(q:R h ρ y w)(k:Nat)(r:Rs h ρ l vs):Rs h ρ (l.set k y) (vs.set k w):=Rs.ind (Q:=fun l vs=> ∀k,Rs h ρ (l.set k y) (vs.set k w)) (fun u_=> .nil) (fun r rs ih k=>by
 cases k with
 |zero=>exact .cons q rs
 |succ k=>exact .cons r (ih k)) r k
theorem sE{l:Addr}{k:Int}{t:Tok}{Q:Unit→Shared→Prop}(ho:s.heap.get? l=some (az items.toList n))(h0:k<0)(h1: -(items.size:Int)≤k)(hfit: -(2^63)≤k)
 (hQ:Q () {s with heap:=s.heap.update l (JR (·.setIfInBounds (k+items.size).toNat v))}):H9 (model c.prog c.w) A (setItem (.ref l) (.int k t) v) Q E s:=by
 have hl:s.heap.IsList l items:=⟨_,ho,rfl,n,rfl⟩;unfold setItem
 try with_reducible refine Ic ?_
 first|refine H_ (H' ?_)|skip
 change let K0:=_;let Q0:=_;H9 _ _ (_>>=K0) Q0 _ _;intros
 refine H_ (wpAny_sequenceKey hl.typeIs (by rfl) ?_)
 change let K0:=_;let Q0:=_;H9 _ _ (_>>=K0) Q0 _ _;intros
 refine H_ (Im (name:=JW "__setitem__") hl.typeIs slot_list_setitem
  (Ij slot_list_setitem hl.typeIs entry_list_setitem ?_ (args_list_setitem _ _ _)))
 show H9 _ _ (Builtin.List.listSubscript? (.int k t)>>=_) _ _ s
 change let K0:=_;let Q0:=_;H9 _ _ (_>>=K0) Q0 _ _;intros
 refine H_ (wpAny_listSubscript_int (fitsIndex_neg h0 hfit) ?_);clear hfit;have hidx:=seqIndex_neg h0 h1
 have hj:(k+items.size).toNat<items.size:=by omega
 have hx:items[(k+items.size).toNat]? =some items[(k+items.size).toNat]:=Array.getElem?_eq_getElem hj;generalize hkk:(k+items.size).toNat=jj at*
 obtain⟨j,rfl⟩: ∃j:Nat,k=Int.negSucc j:=by
  cases k with
  |ofNat n=>exact absurd h0 (F7.mpr (F5 n))
  |negSucc n=>exact⟨n,rfl⟩
 show H9 _ _ ((Builtin.List.listItems (.ref l)>>=fun xs=>pure ((seqIndex? (Int.negSucc j) xs.size).bind fun i=>xs[i]?.map (i,·)))>>=_) _ _ s
 change let K0:=_;let Q0:=_;H9 _ _ (_>>=K0) Q0 _ _;intros
 refine H_ (H_ ?_);show H9 _ _ (seqItems? (.ref l)>>=_) _ _ s
 change let K0:=_;let Q0:=_;H9 _ _ (_>>=K0) Q0 _ _;intros
 refine H_ (Iu ho rfl (H' (H' ?_)));simp only[Array.toArray_toList];rw[hidx];simp only[H7,hx,Option.map_some];show H9 _ _ (setSeqItemAt l jj v>>=_) _ _ s
 change let K0:=_;let Q0:=_;H9 _ _ (_>>=K0) Q0 _ _;intros
 refine H_ (wpAny_setSeqItemAt ho rfl ?_)
 first
  |exact H_ (H' (H' ⟨.none,rfl,H' hQ⟩))
  |exact H' ⟨.none,rfl,H' hQ⟩
set_option tactic.hygienic true in
theorem nJ{k:Nat}{i:Int}{t:Tok}{y:V}{v w:Value}{J1:Sg}{E:Value→Shared→Prop}(ok:c.Ok)(st:aO c ρ σ s.heap)(g:Gd c s.heap)(e:dN σ k i y=some J1)(r:R s.heap ρ (.lst k) v)(q:R s.heap ρ y w):
 H9 (model c.prog c.w) A (setItem v (.int i t) w) (fun _ s'=>af c ρ s ρ J1 s') E s:=by
 refine ae e fun l hl J9=>bH J9 fun hb Km=>aM Km fun j hj zz2=> ?_;clear e J9 Km;subst zz2
 cases r using R.lstE with
 | @lst la h1=>
 refine bc (st.at_ _ _ _ h1 (bD hl)) fun vs n o rs=> ?_
 have hlen:=rs.length
 have fin: ∀t',af c ρ s ρ (σ.set k (.lst (l.set j y))) {s with heap:=s.heap.update la (JR (·.setIfInBounds j w)),toks:=t'}:=fun t'=>
  af.setCell ok st g h1 (JN ..) fun k1 k2=>⟨vs.set j w,n,by rw[JJ _ o (by rw[mf];rfl),mf],Rs.setAt (k1 q) j (k2 rs)⟩
 unfold seqIndex? at hj;dsimp only at hj
 by_cases h0:i<0
 ·rw[if_pos h0]at hj
  split at hj
  ·rename_i hc;obtain rfl:=H8 hj;simp only[FS,decide_eq_true_eq]at hc
   refine sE (items:=vs.toArray) (n:=n) o h0 (by simp[←hlen];exact lnz (FN ‹_›)) (ain ‹_› (by exact ac)) ?_
   have:=fin s.toks;simpa [hlen]using this
  ·exact no hj
 ·rw[if_neg h0]at hj
  split at hj
  ·rename_i hc;obtain rfl:=H8 hj;simp only[FS,decide_eq_true_eq]at hc
   exact ki_setAt (items:=vs.toArray) (n:=n) o (F7.mp ‹_›) (aiu ‹_› (by exact ac)) (by simp[←hlen];omega) (fin s.toks)
  ·exact no hj
noncomputable abbrev uv:=Expr→En→Sg→V→Option (En×Sg)
noncomputable def fK(g:uv):List Expr→En→Sg→List V→Option (En×Sg)
 |[],en,σ,l=>match l with
  |[]=>some (en,σ)
  |_::_=>none
 |t::ts,en,σ,l=>match l with
  |[]=>none
  |y::ys=>(g t en σ y).bind fun p=>fK g ts p.1 p.2 ys
variable (c)in
noncomputable def eH(f:fL):Nat→uv
 |0,_,_,_,_=>none
 |n+1,t,en,σ,y=>(im t).elim ((kf t).elim ((wx t).elim ((Fi t).bind fun p=>
  if bz p.1.2.1=true then(f en σ p.1.1).bind fun r=>(ut r).bind fun q=>(gv q.1).bind fun k=>(f en q.2 p.1.2.1).bind fun r'=>(ut r').bind fun q'=>(cR q'.1).bind fun j=>(dN q'.2 k j y).map fun Kn=>(en,Kn)else none)
  fun p=>(f en σ p.1.1).bind fun r=>(ut r).bind fun q=>(de c q.2 q.1 p.1.2.1 y).map fun J6=>(en,J6))
  fun p=>(eG y).bind fun l=>if ak p.1.1=true then fK (eH f n) p.1.1 en σ l else none)
  fun p=>if bF en p.1.1=true then some (en.set p.1.1 y,σ)else none
theorem m8{g:uv}: ∀{en en':En} {σ J1:Sg} {l:List V},fK g es en σ l=some (en',J1)→es.length=l.length:=by
 induction es with
 |nil=>intro en en' σ J1 l e;cases l with
  |nil=>rfl
  |cons=>exact no e
 |cons t ts ih=>intro en en' σ J1 l e;cases l with
  |nil=>exact no e
  |cons y ys=>exact ae e fun p u_ w=>congrArg (· +1) (ih w)
theorem jN:ak es=true→assignEach es env=es.map fun t=>(false,assign t env):=by
 induction es with
 |nil=>exact fun u_=>rfl
 |cons e es ih=>
  intro h
  have h1: ∀x p,e≠ .Starred x p:=fun x p q=>eu h x p (by rw[q];exact .head _)
  have:assignEach (e::es) env=(false,assign e env)::assignEach es env:=by cases e<;>first|rfl|exact absurd rfl (h1 _ _)
  rw[this,ih (bh h).2];rfl
variable (c)in
noncomputable def zp(d:Nat)(g:uv):Prop:= ∀{A:Around} {env:Env} {en en':En} {ρ:Pl} {σ J1:Sg} {s:Shared} {t:Expr} {y:V} {v:Value} {Q:Unit→Shared→Prop} {E:Value→Shared→Prop},g t en σ y=some (en',J1)→At c A env en ρ σ s d→R s.heap ρ y v→
 (∀J3 s',bn c env ρ s J3 J1 s'→a_ s'.heap J3 env en'→Q () s')→H9 (model c.prog c.w) A (assign t env v) Q E s
theorem ud{g:uv}(hg:zp c d g): ∀{en en':En} {ρ:Pl} {σ J1:Sg} {s:Shared} {l:List V} {vs:List Value} {Q:Unit→Shared→Prop} {E:Value→Shared→Prop},fK g es en σ l=some (en',J1)→At c A env en ρ σ s d→Rs s.heap ρ l vs→
 (∀J3 s',bn c env ρ s J3 J1 s'→a_ s'.heap J3 env en'→Q () s')→H9 (model c.prog c.w) A (assignInOrder (es.map fun t=>assign t env) vs) Q E s:=by
 induction es with
 |nil=>
  intro en en' ρ σ J1 s l vs Q E e a r h
  cases l with
  |cons=>exact no e
  |nil=>cases H8 e;obtain rfl:=r.nilQ;exact assignInOrder_nil (h _ _ ((af.refl a.st a.gd).toS a.st a.er) a.er)
 |cons t ts ih=>
  intro en en' ρ σ J1 s l vs Q E e a r h
  cases l with
  |nil=>exact no e
  |cons y ys=>
   refine ae e fun p h1 w=> ?_
   cases r using Rs.consE with
   |cons r rs=>exact assignInOrder_cons (hg h1 a r fun Kd J5 J4 Lb=>ih w (a.stepS J4 Lb) (ad.Rs a.er.own J4.st rs) fun Kl J8 J7 KZ=>h _ _ (J4.trans J7) KZ)
theorem ld{p:Pos}{Q:Unit→Shared→Prop}(hns:ak es=true)(hlen:es.length=l.length)(a:At c A env en ρ σ s d)(r:R s.heap ρ (.tup l) v)
 (h: ∀J5 vs,af c ρ s ρ σ J5→Rs J5.heap ρ l vs→H9 (model c.prog c.w) A (assignInOrder (es.map fun t=>assign t env) vs) Q E J5):H9 (model c.prog c.w) A (assign (.Tuple es k p) env v) Q E s:=by
 cases id r with
 | @tup _ ta vs m h1 f1 rs=>
 have hm:assignEach es env=es.map fun t=>(false,assign t env):=jN hns;rw[assign_Tuple,hm];refine H_ (Il ?_)
 have hn:(es.map fun t=>(false,assign t env)).length=vs.toArray.size:=by rw[Gk,hlen];exact rs.length
 have hstar:(es.map fun t=>(false,assign t env)).findIdx? (·.1)=none:=by
  rw[List.findIdx?_eq_none_iff];intro x hx;refine aK (GA.mp hx) fun t u_ zz2=> ?_;subst zz2;rfl
 unfold unpack;rw[hn,hstar,GK];refine H_ (Ic (bu (unpackItems_tuple a.room.hand (cJ h1) fun h' he hz=> ?_)))
 have J4:af c ρ s ρ σ {s with heap:=h',toks:=s.toks}:=af.keeps a.ok a.st a.gd (fun b o eb=>he b o (fun q=>absurd (JI eb) (by rw[q];exact HI _)) eb) hz
 exact h _ vs J4 (J4.Rs rs)
theorem s9(hf:bE c d f){p:Pos}{Q:Unit→Shared→Prop}(h1:f en σ ob=some (.ok x J2))(h2:de c J2 x name y=some J6)(a:At c A env en ρ σ s d)(r:R s.heap ρ y v)
 (h: ∀J3 s',bn c env ρ s J3 J6 s'→a_ s'.heap J3 env en→Q () s'):H9 (model c.prog c.w) A (assign (.Attribute ob name p) env v) Q E s:=by
 show H9 _ A (do
  let ov←holding [v] (eval ob env)
  standAt p.atName
  holding [v,ov] (setAttr ov name v)
  release [v,ov] []) _ _ s
 change let K0:=_;let Q0:=_;H9 _ _ (_>>=K0) Q0 _ _;intros
 refine H_ (Ic (aq.go (hf h1 a) (fun x' J1 q w J5 Kd J4 J'=> ?_) (fun u_ u_ q=>by exact iO q)))
 refine jD q fun zz1 zz2=> ?_;subst zz1;subst zz2
 change let K0:=_;let Q0:=_;H9 _ _ (_>>=K0) Q0 _ _;intros
 refine H_ (Il (H_ (Ic (Ia (nj (E:=E) a.ok J4.sto J4.gd h2 J' (J4.R r)) (fun u_ J8 J7=> ?_) fun u_ u_ z=>z))));exact wpAny_release (h _ _ ((J4.trans J7).toS a.st a.er) ((J4.trans J7).env a.st a.er))
theorem t_(hf:bE c d f){ie:Expr}{p:Pos}{j:Int}{Q:Unit→Shared→Prop}(h1:f en σ ob=some (.ok (.lst k) J2))(h2:f en J2 ie=some (.ok (.int j) J6))(h3:dN J6 k j y=some Kn)(a:At c A env en ρ σ s d)(r:R s.heap ρ y v)
 (h: ∀J3 s',bn c env ρ s J3 Kn s'→a_ s'.heap J3 env en→Q () s'):H9 (model c.prog c.w) A (assign (.Subscript ob ie p) env v) Q E s:=by
 show H9 _ A (holding [v] (eval ob env)>>=fun ov=>holding [v,ov] (eval ie env)>>=fun iv=>standAt p>>=fun u_=>holding [v,ov,iv] (setItem ov iv v)>>=fun u_=>release _ []) _ _ s
 change let K0:=_;let Q0:=_;let E0:=_;H9 _ _ (_>>=K0) Q0 E0 _;intros
 refine H_ (Ic (aq.go (hf h1 a) (fun x' J1 q w J5 Kd J4 J'=> ?_) (fun u_ u_ q=>by exact iO q)))
 refine jD q fun zz1 zz2=> ?_;subst zz1;subst zz2
 change let K0:=_;let Q0:=_;let E0:=_;H9 _ _ (_>>=K0) Q0 E0 _;intros
 refine H_ (Ic (aq.go (hf h2 (a.step J4)) (fun x' J1 q w₂ J8 Kl J7 Ky=> ?_) (fun u_ u_ q=>by exact iO q)))
 refine jD q fun zz1 zz2=> ?_;subst zz1;subst zz2;obtain⟨_,rfl⟩:=Ky.intQ
 change let K0:=_;let Q0:=_;let E0:=_;H9 _ _ (_>>=K0) Q0 E0 _;intros
 refine H_ (Il (H_ (Ic (Ia (nJ (E:=E) a.ok J7.sto J7.gd h3 (J7.R J') (J7.R (J4.R r))) (fun u_ Kv Kg=> ?_) fun u_ u_ z=>z))));exact wpAny_release (h _ _ (((J4.trans J7).trans Kg).toS a.st a.er) (((J4.trans J7).trans Kg).env a.st a.er))
theorem pd(hf:bE c d f)(n:Nat):zp c d (eH c f n):=by
 induction n with
 |zero=>intro A env en en' ρ σ J1 s t y v Q E e;exact no e
 |succ n ih=>
  intro A env en en' ρ σ J1 s t y v Q E e a r h
  cases t with
  |Name x p=>
   refine oA (iq (show(if bF en x=true then some (en.set x y,σ)else none)=some (en',J1)from e)) fun hx w=> ?_
   obtain⟨rfl,rfl⟩:=Prod.mk.inj (H8 w);exact assign_Name (dG a (cM hx) r fun s' S er=>h ρ s' S er)
  |Tuple es k p=>
   refine ae (show((eG y).bind fun l=>if ak es=true then fK (eH c f n) es en σ l else none)=some (en',J1)from e) fun l hl w=>bH w fun hns w=> ?_
   obtain rfl:=eo hl;exact ld hns (m8 w) a r fun J5 vs J4 rs=>ud ih w (a.step J4) rs fun Kl J8 J7 KZ=>h _ _ ((J4.toS a.st a.er).trans J7) KZ
  |Attribute ob name p=>
   refine ae (show((f en σ ob).bind fun r=>(ut r).bind fun q=>(de c q.2 q.1 name y).map fun J6=>(en,J6))=some (en',J1)from e) fun o ho w=>ae w fun q hq w=>aM w fun J6 h2 w=> ?_
   cases w
   exact s9 hf (qu hq▸ho) h2 a r h
  |Subscript ob ie p=>
   refine bH (show(if bz ie=true then(f en σ ob).bind fun r=>(ut r).bind fun q=>(gv q.1).bind fun k=>(f en q.2 ie).bind fun r'=>(ut r').bind fun q'=>(cR q'.1).bind fun j=>(dN q'.2 k j y).map fun Kn=>(en,Kn)else none)=some (en',J1)from e) fun u_ w=>
    ae w fun o ho w=>ae w fun q hq w=>ae w fun k hk w=>ae w fun o' ho' w=>ae w fun q' hq' w=>ae w fun j hj w=>aM w fun Kn h3 w=> ?_
   cases w
   obtain⟨x1,J2⟩:=q;obtain⟨x2,J6⟩:=q';obtain rfl:=gj hk;obtain rfl:=b9 hj;exact t_ hf (qu hq▸ho) (qu hq'▸ho') h3 a r h
  |_=>exact no e
end
variable {g:uv}
section
variable {env:Env}{d:Nat}
noncomputable def db(o:Obj):Bool:=match o.data with
 | .fields _=>true
 | .seq .. =>true
 |_=>false
noncomputable def aU(h:Heap)(I:List Addr):Prop:= ∀b∈I,∃o,h.get? b=some o∧db o=true
theorem jq{vs:Array Value}(e: ∃o,h.get? a=some o∧o.cls= .type T∧o.data= .fields vs): ∃o,h.get? a=some o∧db o=true:=e.elim fun o e=>⟨o,e.1,by unfold db;rw[e.2.2]⟩
theorem bB.objsB:(∀{t I a},bB h ρ t I a→aU h I)∧(∀{ts I as},bC h ρ ts I as→aU h I):=
 bB.both (P:=fun u_ I u_=>aU h I) (Q:=fun u_ I u_=>aU h I) (fun e u_ u_=>dt (jq e)) (fun e u_ u_=>dt (jq e)) (fun e u_=>dt ⟨_,e,rfl⟩) (fun e u_ u_=>dt (jq e)) (fun e u_ u_=>dt ⟨_,e,rfl⟩)
  (fun e1 u_ e2 e3 u_ u_ ts u_ u_ u_ u_ u_ u_ u_ u_ u_=>aW ⟨_,e1,rfl⟩ (aW ⟨_,e2,rfl⟩ (aW ⟨_,e3,rfl⟩ ts))) (fun e u_ u_ t u_ u_=>aW ⟨_,e,rfl⟩ t) fH fun u_ t u_ ts u_ b m=>(Gl.mp m).elim (t b) (ts b)
theorem bB.objs(i:bB h ρ t I a): ∀b∈I,∃o,h.get? b=some o∧db o=true:=bB.objsB.1 i
theorem aU.locals(p:aU h I)(er:a_ h ρ env en):env.locals∉I:=fun m=>by
 refine aK (p _ m) fun o ho hp=> ?_;obtain⟨mm,⟨o',es,ep,ho',hd,_⟩,_⟩:=er.lo;rw[ho]at ho';obtain rfl:=H8 ho';unfold db at hp;rw[hd]at hp;exact bI hp
theorem aU.cell(p:aU h I){w:Option Value}(i:h.IsCell a w):a∉I:=fun m=>by
 refine aK (p _ m) fun o ho hp=> ?_;refine aK i fun o' ho' hd=> ?_;rw[ho]at ho';obtain rfl:=H8 ho';unfold db at hp;rw[hd]at hp;exact bI hp
set_option tactic.hygienic true in
theorem aU.own{h:Heap}{I:List Addr}(p:aU h I)(er:a_ h ρ env en): ∀b∈I,b∉mx env:=fun b m n=>by
 rcases Gp.mp n with rfl|n
 ·exact p.locals er m
 ·refine aK (GU.mp n) fun x _ hx=> ?_
  split at hx
  ·rename_i hk
   refine bS (er.ce x.1 (by rw[←er.names];exact hk)) fun a' w h1 h2 h3 _=> ?_
   rw[h1]at hx;obtain rfl:=H8 hx;exact p.cell h2 m
  ·exact no hx
theorem aU.fo(p:aU h I):ck I h h':=fun a m o e ⟨es,ep,hd⟩=>by
 refine aK (p a m) fun o' ho' hp=> ?_;rw[e]at ho';obtain rfl:=H8 ho';unfold db at hp;rw[hd]at hp;exact bI hp
theorem a_.monoI{D:List Addr}(t:aO c ρ σ s.heap)(d: ∀a∈D,a∈ρ.p)(x:ad c D ρ s J3 J1 s')(e:a_ s.heap ρ env en)(p:aU s.heap D):a_ s'.heap J3 env en:=a_.monoX t d x e (p.locals e) fun u_ u_ u_ u_ h=>p.cell h
theorem At.plain{D:List Addr}(a:At c A env en ρ σ s d)(dp: ∀a∈D,a∈ρ.p)(p:aU s.heap D)(x:ad c D ρ s J3 J1 s'):At c A env en J3 J1 s' d:=
 ⟨a.ok,x.sto,x.gd,a.er.monoI a.st dp x p,a.room.monoD a.st x p.fo⟩
theorem bn.plain{D:List Addr}(x:bn c env Kj Ka ρ σ s)(st:aO c ρ σ s.heap)(er:a_ s.heap ρ env en)(p:aU s.heap D)(y:ad c D ρ s J3 J1 s')(k: ∀a∈D,Ka.heap.objs.size≤a):bn c env Kj Ka J3 J1 s':=by
 refine⟨ad.trans' x.st y fun a m=> .inr (k a m),x.fo.trans fun a m o e t=> ?_⟩
 have hD:a∉D:=fun n=>by
  refine aK (p a n) fun o' ho' hp=> ?_;refine rq t fun es ep hd=> ?_;rw[e]at ho';obtain rfl:=H8 ho';unfold db at hp;rw[hd]at hp;exact bI hp
 refine aK (y.ext a o (fun z=>(Gl.mp z).elim hD (st.disj _ (er.own a m))) e) fun o' e' q=> ?_;refine rq t fun es ep hd=> ?_;exact⟨o',e',es,ep,q.dict hd⟩
set_option tactic.hygienic true in
theorem iJ{t:It}{I:List Addr}{a:Addr}{target:Expr}{v:Value}{Q:Unit→Shared→Prop}{E:Value→Shared→Prop}(ok:c.Ok)(st:aO c ρ σ s.heap)(g:Gd c s.heap)(i:bB s.heap ρ t I a)
 (h: ∀s',ad c I ρ s ρ σ s'→bB s'.heap ρ t I a→Q () s'):H9 (model c.prog c.w) A (letOwnedTupleGo target (.ref a) v) Q E s:=by
 have now:Q () s:=h s (ad.refl st g) i;have ip:=i.priv.1;have key: ∀(o:Obj) (n:String) (vs:Array Value),s.heap.get? a=some o→o.cls= .type n→o.data= .fields vs→
  (∀b,vs[0]? =some (rawInt b)→["enumerate","zip","dict_itemiterator","dict_reverseitemiterator","odict_iterator","itertools.zip_longest","itertools.pairwise"].contains n=true→0<vs.size→Q () {s with heap:=s.heap.update a (JQ (·.setIfInBounds 0 .none))})→
  H9 (model c.prog c.w) A (letOwnedTupleGo target (.ref a) v) Q E s:=by
  intro o n vs ho hc hd hq;unfold letOwnedTupleGo
  cases target<;>first
   |exact H' now
   |(cases v<;>first
    |exact H' now
    |(rename_i b
      refine H_ (wpAny_load ho ?_);rw[hc,hd];dsimp only
      split
      ·rename_i hcond;refine oA (FR.mp hcond) fun c1 c2=> ?_
       have c2':vs[0]? =some (rawInt (b:Nat)):=by simpa using c2
       have hsz:0<vs.size:=(FP.mp c2').1;refine H_ (Ie ?_);unfold updateField;refine H_ (wpAny_load ho ?_);rw[hd];dsimp only;refine c_ hsz ?_;exact wpAny_update ho (hq _ c2' c1 hsz)
      ·exact H' now))
 cases i with
 |seq e r p=>
  refine cz (id e) fun o ho hc hd=> ?_;refine key o _ _ ho hc hd fun b _ q _=> ?_
  exact absurd q (by decide)
 |lst e r p=>
  refine cz (id e) fun o ho hc hd=> ?_;refine key o _ _ ho hc hd fun b _ q _=> ?_
  exact absurd q (by decide)
 |rng e p=>
  refine key _ _ _ e rfl rfl fun b _ q _=> ?_
  exact absurd q (by decide)
 |revl e r p=>
  refine cz (id e) fun o ho hc hd=> ?_;refine key o _ _ ho hc hd fun b _ q _=> ?_
  exact absurd q (by decide)
 |revt e r p=>
  refine key _ _ _ e rfl rfl fun b _ q _=> ?_
  exact absurd q (by decide)
 |zip e1 H e2 e3 l ts p1 p2 p3 n1 n2 n3 n4 n5 n6=>
  refine key _ _ _ e1 rfl rfl fun b _ q _=> ?_;rename_i TI TO f0 f1 ws m m' I' as
  have S:ad c [a] ρ s ρ σ {s with heap:=s.heap.update a (JQ (·.setIfInBounds 0 .none)),toks:=s.toks}:=ad.same (t:=s.toks) ok st g p1 (JN ..)
  have off:=ad.off (ρ:=ρ) (D:=[a]) (by simpa using p1)
  have notin: ∀b,b≠a→b∈ρ.p→b∉[a]++ρ.r:=fun b hb hp z=>(Gl.mp z).elim (fun z=>hb (Gn.mp z)) (st.disj b hp)
  refine h _ (S.wider (by exact Hd ..)) ?_
  exact .zip (f0:= .none) (f1:=f1) (JJ _ e1 rfl) (.inl rfl) (S.ext.get (notin _ (Ne.symm n1) p2) e2 rfl) (S.ext.get (notin _ (Ne.symm n2) p3) e3 rfl) l
   (ad.itrs st (by simpa using p1) (fun y m' z=>n4 (by rw[Gn.mp z]at m';exact m')) S ts) p1 p2 p3 n1 n2 n3 n4 n5 n6
 |enum e H t p n=>
  refine key _ _ _ e rfl rfl fun b _ q _=> ?_
  have S:ad c [a] ρ s ρ σ {s with heap:=s.heap.update a (JQ (·.setIfInBounds 0 .none)),toks:=s.toks}:=ad.same (t:=s.toks) ok st g p (JN ..)
  refine h _ (S.wider (by exact Hd ..)) ?_
  exact .enum (f0:= .none) (JJ _ e rfl) (.inl rfl) (ad.itr st (by simpa using p) (fun y m' z=>n (by rw[Gn.mp z]at m';exact m')) S t) p n
theorem aY{q:Str→Bool}{x:Str}(l:List (Str×V)):(l.filter fun p=>q p.1).lookup x=if q x then l.lookup x else none:=by
 induction l with
 |nil=>simp
 |cons ny l ih=>
  obtain⟨n,y⟩:=ny
  by_cases hn:x=n
  ·subst hn
   by_cases hq:q x=true
   ·simp[G6,hq,GF]
   ·simp only[Bool.not_eq_true]at hq;simp[G6,hq];rw[hq]at ih;simpa using ih
  ·have hb:(x==n)=false:=beq_eq_false_iff_ne.mpr hn
   by_cases hq:q n=true
   ·simp[G6,hq,GF,hb,ih]
   ·simp only[Bool.not_eq_true]at hq;simp[G6,hq,GF,hb,ih]
mutual
noncomputable def hX(L:Nat):V→Bool
 | .lst k=>decide (k<L)
 | .inst _ k=>decide (k<L)
 | .tup l=>cj L l
 |_=>true
noncomputable def cj(L:Nat):List V→Bool
 |[]=>true
 |x::l=>hX L x&&cj L l
end
noncomputable def bp(L:Nat):aa→Bool
 | .lst l=>cj L l
 | .dct fs=>cj L (fs.map (·.2))
 | .ro l _ _=>cj L l
noncomputable def jF(L:Nat)(t:It)(en:En)(σ:Sg):En×Sg:=if σ.length≤L then(en,σ)else match t with
 | .rng .. =>if((σ.take L).all (bp L)&&cj L (en.fre.map (·.2)))=true then(⟨en.names,en.own.filter (fun p=>(en.own.lookup p.1).any (hX L)),en.fre,en.code⟩,σ.take L)else(en,σ)
 |_=>(en,σ)
noncomputable abbrev Pl.cut(ρ:Pl)(L:Nat):Pl:=⟨ρ.r.take L,ρ.p⟩
theorem Pl.cut_free(f:ρ.free a):(ρ.cut L).free a:=⟨fun m=>f.1 (G7 m),f.2⟩
theorem R.cutB:(∀{x v},R h ρ x v→hX L x=true→R h (ρ.cut L) x v)∧(∀{l vs},Rs h ρ l vs→cj L l=true→Rs h (ρ.cut L) l vs):=
 have tk {k a} (e:ρ.r[k]? =some a) (w:decide (k<L)=true):(ρ.cut L).r[k]? =some a:=(List.getElem?_take_of_lt (of_decide_eq_true w)).trans e
 R.both (P:=fun x v=>hX L x=true→R h (ρ.cut L) x v) (Q:=fun l vs=>cj L l=true→Rs h (ρ.cut L) l vs) (fun u_=> .val) (fun u_=> .int) (fun u_=> .str) (fun e f u_ r w=> .tup e (Pl.cut_free f) (r w)) (fun e w=> .lst (tk e w))
  (fun e f d w=> .inst e (Pl.cut_free f) (tk d w)) (fun e f u_=> .rng e (Pl.cut_free f)) (fun u_=> .nil) fun u_ r u_ rs w=> .cons (r (FR.mp w).1) (rs (FR.mp w).2)
theorem R.cut(w:hX L x=true)(r:R h ρ x v):R h (ρ.cut L) x v:=R.cutB.1 r w
theorem Rs.cut(w:cj L l=true)(r:Rs h ρ l vs):Rs h (ρ.cut L) l vs:=R.cutB.2 r w
theorem Rf.cut{l:List (Str×V)}{es:List DictEntry}(w:cj L (l.map (·.2))=true)(r:Rf h ρ l es):Rf h (ρ.cut L) l es:=
 Rf.rec (motive:=fun l es u_=>cj L (l.map (·.2))=true→Rf h (ρ.cut L) l es) (fun u_=> .nil) (fun e r u_ ih w=> .cons e (R.cut (FR.mp w).1 r) (ih (FR.mp w).2)) r w
theorem sK:cj L l=true→ ∀x∈l,hX L x=true:=by
 induction l with
 |nil=>exact fun u_ u_ m=>nomatch m
 |cons y l ih=>
  intro w x m
  have w:=FR.mp (show(hX L y&&cj L l)=true from w)
  cases m with
  |head=>exact w.1
  |tail _ m=>exact ih w.2 x m
theorem qC{x:Str}{v:V}{l:List (Str×V)}:l.lookup x=some v→v∈l.map (·.2):=by
 induction l with
 |nil=>exact fun h=>no h
 |cons yw l ih=>
  intro h;rw[GF]at h
  cases q:x==yw.1 with
  |true=>rw[q]at h;obtain rfl:=H8 h;exact .head _
  |false=>rw[q]at h;exact .tail _ (ih h)
theorem aO.cut(t:aO c ρ σ h)(w:(σ.take L).all (bp L)=true):aO c (ρ.cut L) (σ.take L) h where
 nodup:=(List.take_sublist L ρ.r).nodup t.nodup
 len:=by rw[He,He,t.len]
 at_:=fun k a l h1 h2=>by
  have hl:=Gw.mp w l (GY h2)
  have hk:k<L:=by
   have:=(Gy.mp h2).1;rw[He]at this;exact lts ‹_›
  rw[List.getElem?_take_of_lt hk]at h1 h2
  have:=t.at_ k a l h1 h2
  cases l with
  |lst l=>refine bc this fun vs n e r=> ?_;exact⟨vs,n,e,r.cut hl⟩
  |dct l=>refine lz this fun es n sl e r=> ?_;exact⟨es,n,sl,e,r.cut hl⟩
  |ro l vs n=>exact⟨this.1,this.2.cut hl⟩
 low:=fun a m=>t.low a (G7 m)
 plow:=t.plow
 disj:=fun a m n=>t.disj a m (G7 n)
set_option tactic.hygienic true in
theorem jV.cut{h:Heap}{L:Nat}{x:Option V}{w:Option Value}(o:jV h ρ x w):jV h (ρ.cut L) (if x.any (hX L)then x else none) w:=by
 cases o with
 |no=>exact .no
 |so r=>
  rename_i x v
  cases q:hX L x with
  |true=>rw[if_pos (by simpa using q)];exact .so (r.cut q)
  |false=>rw[if_neg (by simp[q])];exact .no
theorem a_.cut(e:a_ h ρ env en)(w:cj L (en.fre.map (·.2))=true):a_ h (ρ.cut L) env ⟨en.names,en.own.filter (fun p=>(en.own.lookup p.1).any (hX L)),en.fre,en.code⟩ where
 kind:=e.kind
 names:=e.names
 gl:=e.gl
 bi:=e.bi
 lo:=aK e.lo fun m n k=>⟨m,n,fun x hx=>by rw[show GC x _=_ from aY (q:=fun z=>(en.own.lookup z).any (hX L)) en.own];exact(k x hx).cut⟩
 ce:=fun x hx=>bS (e.ce x hx) fun a w h1 h2 h4 h3=>⟨a,w,h1,h2,h4,by rw[show GC x _=_ from aY (q:=fun z=>(en.own.lookup z).any (hX L)) en.own];exact h3.cut⟩
 fr:=fun x hx=>dy (e.fr x hx) fun a w' h1 h2 h3=>⟨a,w',h1,h2,by
  have:=h3.cut (L:=L)
  cases q:en.fre.lookup x with
  |none=>exact .no
  |some v=>
   rw[q,if_pos (by simpa using sK w v (qC q))]at this
   exact this⟩
 out:=e.out
 ap:=e.ap
 cd:=e.cd
theorem wr(T:bn c env Kj Ka ρ σ s)(hL:Kj.r.length≤L)(Kq:At c A env en ρ σ s d)(i:bB s.heap ρ t I a):
 ∃J3,bn c env Kj Ka J3 (jF L t en σ).2 s∧At c A env (jF L t en σ).1 J3 (jF L t en σ).2 s d∧bB s.heap J3 t I a:=by
 unfold jF
 by_cases h1:σ.length≤L
 ·rw[if_pos h1];exact⟨ρ,T,Kq,i⟩
 rw[if_neg h1]
 cases t with
 |rng=>
  cases h2:((σ.take L).all (bp L)&&cj L (en.fre.map (·.2)))with
  |false=>simp only[h2,FV,if_false];exact⟨ρ,T,Kq,i⟩
  |true=>
   simp only[h2,if_true];refine oA (FR.mp h2) fun h3 h4=> ?_;have st:=Kq.st.cut h3
   cases i with
   |rng i1 i2=>exact⟨ρ.cut L,⟨⟨List.prefix_take_iff.mpr ⟨T.st.pre,hL⟩,fun a m=>T.st.new a (G7 m),T.st.pnew,T.st.pold,st,T.st.ext,T.st.rest,T.st.gd⟩,T.fo⟩,⟨Kq.ok,st,Kq.gd,Kq.er.cut h4,⟨Kq.room.hand,Kq.room.depth,Kq.room.units,Kq.room.frames⟩⟩,.rng i1 i2⟩
 |_=>exact⟨ρ,T,Kq,i⟩
noncomputable def lT(k:En→Sg→Option aJ)(so:aJ):Option aJ:=match so with
 | .exc _ _ _=>none
 | .ok fl en σ=>match fl with
  | .next=>k en σ
  | .cont=>k en σ
  | .brk=>some (.ok .next en σ)
  | .ret v=>some (.ok (.ret v) en σ)
noncomputable def Fr(so:aJ):Option aJ:=match so with
 | .exc _ _ _=>none
 | .ok fl en σ=>some (.ok fl en σ)
theorem m9{k:En→Sg→Option aJ}{o:aJ}{f:Flow}(h:lT k so=some o)(p:ge c env ρ s so f s'){N B:Prop}{T:Value→Prop}(k1: ∀Kw J6 J3,k Kw J6=some o→bn c env ρ s J3 J6 s'→a_ s'.heap J3 env Kw→N)
 (k2:ge c env ρ s o .next s'→B) (k3: ∀v,ge c env ρ s o (.ret v) s'→T v):match(generalizing:=false) f with| .next| .cont=>N| .brk=>B| .ret v=>T v:=by
 cases so with
 |exc=>exact p.elim
 |ok fl Kw J6=>
  obtain⟨J3,S,er,r⟩:=p
  cases r with
  |next=>exact k1 Kw J6 J3 h S er
  |cont=>exact k1 Kw J6 J3 h S er
  |brk=>obtain rfl:=H8 h;exact k2 ⟨J3,S,er,.next⟩
  |ret q=>obtain rfl:=H8 h;exact k3 _ ⟨J3,S,er,.ret q⟩
theorem ma{k:En→Sg→Option aJ}{o:aJ}{e:Value}(h:lT k so=some o)(p:iG c env ρ s so e s'):P:=by
 cases so with
 |exc=>exact no h
 |ok=>exact p.elim
theorem DS{o:aJ}(h:Fr so=some o)(k: ∀f en σ,so= .ok f en σ→o= .ok f en σ→P):P:=by
 cases so with
 |exc=>exact no h
 |ok f en σ=>exact k f en σ rfl (H8 h).symm
noncomputable def gq(L:Nat)(g:uv)(fs:ei)(target:Expr)(body orelse:List Stmt):Nat→En→Sg→It→Option aJ
 |0,_,_,_=>none
 |n+1,en,σ,t=>(aw σ t).bind fun r=>match r with
  |some p=>(g target en σ p.1).bind fun q=>(fs q.1 q.2 body).bind (lT fun Kw J6=>gq L g fs target body orelse n (jF L p.2 Kw J6).1 (jF L p.2 Kw J6).2 p.2)
  |none=>(fs en σ orelse).bind Fr
theorem mN{fs:ei}(h1:aw σ t=some (some (x,t')))(h2:g target en σ x=some (Kf,J2))(h3:fs Kf J2 body=some so):
 gq L g fs target body orelse (n+1) en σ t=lT (fun Kw J6=>gq L g fs target body orelse n (jF L t' Kw J6).1 (jF L t' Kw J6).2 t') so:=by
 show(aw σ t).bind _=_;rw[h1];show(g target en σ x).bind _=_;rw[h2];show(fs Kf J2 body).bind _=_;rw[h3];rfl
theorem pN{fs:ei}{f:Fl}(h1:aw σ t=some none)(h2:fs en σ orelse=some (.ok f Kf J2)):gq L g fs target body orelse (n+1) en σ t=some (.ok f Kf J2):=by
 show(aw σ t).bind _=_;rw[h1];show(fs en σ orelse).bind _=_;rw[h2];rfl
theorem Fn{fs:ei}{o:aJ}(e:gq L g fs target body orelse (n+1) en σ t=some o)
 (k1: ∀x t' Kf J2 so,aw σ t=some (some (x,t'))→g target en σ x=some (Kf,J2)→fs Kf J2 body=some so→lT (fun Kw J6=>gq L g fs target body orelse n (jF L t' Kw J6).1 (jF L t' Kw J6).2 t') so=some o→P)
 (k2: ∀f Kf J2,aw σ t=some none→fs en σ orelse=some (.ok f Kf J2)→o= .ok f Kf J2→P):P:=
 ae e fun r hn e=>by
  cases r with
  |none=>exact ae e fun so hs w=>DS w fun f Kf J2 h1 h2=>k2 f Kf J2 hn (h1▸hs) h2
  |some p=>exact ae e fun q hg w=>ae w fun so hs w=>k1 _ _ _ _ so hn hg hs w
variable (c)in
noncomputable def FM(A:Around)(env:Env)(d:Nat)(G:Nat→En→Sg→It→Option aJ)(o:aJ)(Kj:Pl)(Ka:Shared)(a:Addr)(n:Nat)(s':Shared):Prop:=
 ∃en σ ρ t I,G n en σ t=some o∧bn c env Kj Ka ρ σ s'∧At c A env en ρ σ s' d∧bB s'.heap ρ t I a∧ ∀b∈I,Ka.heap.objs.size≤b
theorem wO{fs:ei}{o:aJ}(hg:zp c d g)(hs:gi c d fs)(tp:oI A env)(n:Nat)(e:gq L g fs target body orelse n en σ t=some o)(hL:Kj.r.length≤L)(Ko:bn c env Kj Ka ρ σ s)
 (Kq:At c A env en ρ σ s d) (i:bB s.heap ρ t I a) (new: ∀b∈I,Ka.heap.objs.size≤b):
 codeAny (model c.prog c.w) A (.forLoop target (.ref a) body orelse env) (fun r s'=>match r with| .ok f=>ge c env Kj Ka o f s'| .error e=>E e s') s:=by
 refine codeAny_forLoop_any (FM c A env d (gq L g fs target body orelse) o Kj Ka a) ?_ n ⟨en,σ,ρ,t,I,e,Ko,Kq,i,new⟩;rintro n s ⟨en,σ,ρ,t,I,e,Ko,Kq,i,new⟩;have ip:=i.priv.1
 cases n with
 |zero=>exact no e
 |succ n=>
  refine Fn e (fun x t' Kf J2 so hn KX hso e=> ?_) fun f Kf J2 hn ho e=> ?_
  ·refine It.pull Kq.room.hand Kq.ok Kq.st Kq.gd i hn fun w J5 J4 rv KP=> ?_;have Ke:=Kq.plain ip i.objs J4;refine iJ Ke.ok Ke.st Ke.gd KP fun J8 J7 KF=> ?_;have Ku:=Ke.plain ip KP.objs J7;refine hg KX Ku (ad.R ip J7 rv) fun KR Kv Kg K9=> ?_;have KC:=Ku.stepS Kg K9;have Ld:=((Ko.plain Kq.st Kq.er i.objs J4 new).plain Ke.st Ke.er KP.objs J7 new).trans Kg;have Li:=ad.itr Ku.st Ku.er.own (aU.own KF.objs Ku.er) Kg.st KF;refine Ia (hs hso KC tp) (fun f K6 p=>m9 e p (fun Kw J6 KW hk Kr Lj=> ?_) (fun p=>p.trans Ld) fun v p=>p.trans Ld) fun ev K6 p=>ma e p;refine cz (wr (Ld.trans Kr) hL (KC.stepS Kr Lj) (ad.itr KC.st KC.er.own (aU.own Li.objs KC.er) Kr.st Li)) fun Lm T₅ Lk i₅=> ?_;exact⟨n,Hx _,_,_,Lm,t',I,hk,T₅,Lk,i₅,new⟩
  ·subst e;refine It.pull0 Kq.room.hand Kq.ok Kq.st Kq.gd i hn fun J5 J4=> ?_;exact Ia (hs ho (Kq.plain ip i.objs J4) tp) (fun f' J8 p=>p.trans (Ko.plain Kq.st Kq.er i.objs J4 new)) fun ev J8 p=>p.elim
noncomputable def cX(e:Expr):Bool:= !e.ctorIdx.beq 7
theorem iQ(h:cX e=true)(x:Value):foldedSetIterable e env x=pure x:=by
 cases e<;>first|rfl|exact bI h
noncomputable abbrev av:Nat:=4096
noncomputable def lR(iv:iM)(g:uv)(fs:ei)(en:En)(σ:Sg)(target iter:Expr)(body orelse:List Stmt):Option aJ:=if cX iter=true then(iv en σ iter).bind fun r=>match r with
 | .ok x J2=>(aA J2 x).bind fun t=>gq J2.length g fs target body orelse av en J2 t
 | .exc _ _=>none
 else none
theorem xB{iv:iM}{fs:ei}{o:aJ}(e:lR iv g fs en σ target iter body orelse=some o)
 (k: ∀x J2 t,cX iter=true→iv en σ iter=some (.ok x J2)→aA J2 x=some t→gq J2.length g fs target body orelse av en J2 t=some o→P):P:=
 bH e fun hn e=>ae e fun r hr e=>by
  cases r with
  |exc=>exact no e
  |ok x J2=>exact ae e fun t ht e=>k x J2 t hn hr ht e
theorem yd{iv:iM}{fs:ei}{o:aJ}(hi:hY c d iv)(hg:zp c d g)(hs:gi c d fs)(e:lR iv g fs en σ target iter body orelse=some o)(a:At c A env en ρ σ s d)(tp:oI A env):
 eC c A (exec (.For target iter body orelse pos) env) env ρ s o:=by
 refine Ia (E:=fun u_ u_=>False) ?_ (fun u_ u_ z=>z) fun u_ u_ z=>z.elim;refine xB e fun x J2 t hns hx ht e=> ?_
 refine wpAny_For (aq.go (hi hx a) (fun x' J1 q w J5 Kd J4 J'=> ?_) (fun u_ u_ q=>by exact iO q)) (iQ hns)
 refine jD q fun zz1 zz2=> ?_;subst zz1;subst zz2;refine aK J' fun I J' K8=> ?_;refine dC a.ok J4.sto J4.gd ht J' fun Kl J b J8 J7 KF Lf=> ?_;refine IA (wO (E:=fun u_ u_=>False) hg hs tp av e (J4.sto.len▸J4.pre.length_le) ((J4.trans J7).toS a.st a.er) ((a.step J4).step J7) KF fun z m=>(Lf z m).elim (K8 z) fun q=>Hu J4.rest.hsize q) fun r s' z=> ?_
 cases r with
 |ok f=>exact z
 |error ev=>exact z.elim
noncomputable def jQ(g:lf)(fs:ei)(test:Expr)(body orelse:List Stmt):Nat→En→Sg→Option aJ
 |0,_,_=>none
 |n+1,en,σ=>(g en σ test).bind fun r=>match r with
  | .exc _ _=>none
  | .ok b J2=>match b with
   |true=>(fs en J2 body).bind (lT fun Kw J6=>jQ g fs test body orelse n Kw J6)
   |false=>(fs en J2 orelse).bind Fr
theorem AS{g:lf}{fs:ei}{o:aJ}(e:jQ g fs test body orelse (n+1) en σ=some o)
 (k1: ∀J2 so,g en σ test=some (.ok true J2)→fs en J2 body=some so→lT (fun Kw J6=>jQ g fs test body orelse n Kw J6) so=some o→P)
 (k2: ∀J2 f Kw J6,g en σ test=some (.ok false J2)→fs en J2 orelse=some (.ok f Kw J6)→o= .ok f Kw J6→P):P:=
 ae e fun r ht e=>by
  cases r with
  |exc=>exact no e
  |ok b J2=>cases b with
   |true=>exact ae e fun so hs w=>k1 J2 so ht hs w
   |false=>exact ae e fun so hs w=>DS w fun f Kw J6 h1 h2=>k2 J2 f Kw J6 ht (h1▸hs) h2
variable (c)in
noncomputable def AL(A:Around)(env:Env)(d:Nat)(G:Nat→En→Sg→Option aJ)(o:aJ)(Kj:Pl)(Ka:Shared)(n:Nat)(s':Shared):Prop:= ∃en σ ρ,G n en σ=some o∧bn c env Kj Ka ρ σ s'∧At c A env en ρ σ s' d
theorem tB{g:lf}{fs:ei}{o:aJ}(hg:eK c d g)(hs:gi c d fs)(e:jQ g fs test body orelse av en σ=some o)(a:At c A env en ρ σ s d)(tp:oI A env):eC c A (exec (.While test body orelse pos) env) env ρ s o:=by
 refine Ia (E:=fun u_ u_=>False) ?_ (fun u_ u_ z=>z) fun u_ u_ z=>z.elim;refine wpAny_While ?_
 refine IA (R:=fun r s'=>match r with| .ok f=>ge c env ρ s o f s'| .error e=>False) ?_ fun r s' z=> ?_
 ·refine codeAny_whileLoop (AL c A env d (jQ g fs test body orelse) o ρ s) ?_ av ⟨en,σ,ρ,e,(af.refl a.st a.gd).toS a.st a.er,a⟩;rintro n J5 ⟨en,σ,Kd,e,J4,Ke⟩
  cases n with
  |zero=>exact no e
  |succ n=>
   refine AS e (fun J6 so ht hso e=> ?_) fun J6 f Kw Kn ht ho e=> ?_
   ·refine aq.go (hg ht Ke) (fun x' J1 q w J8 Kl J7 Ky=> ?_) (fun u_ u_ q=>by exact iO q)
    refine jD q fun zz1 zz2=> ?_;subst zz1;subst zz2;subst Ky;have KM:=J4.trans (J7.toS Ke.st Ke.er);rw[if_pos rfl];exact Ia (hs hso (Ke.step J7) tp) (fun f K6 p=>m9 e p (fun Kw J6 KW hk Kr Lj=>⟨n,Hx _,Kw,J6,KW,hk,KM.trans Kr,(Ke.step J7).stepS Kr Lj⟩) (fun p=>p.trans KM) fun v p=>p.trans KM) fun ev K6 p=>ma e p
   ·subst e
    refine aq.go (hg ht Ke) (fun x' J1 q w J8 Kl J7 Ky=> ?_) (fun u_ u_ q=>by exact iO q)
    refine jD q fun zz1 zz2=> ?_;subst zz1;subst zz2;subst Ky
    rw[if_neg (by decide)]
    exact Ia (hs ho (Ke.step J7) tp) (fun f' J8 p=>p.trans (J4.trans (J7.toS Ke.st Ke.er))) fun ev J8 p=>p.elim
 ·cases r with
  |ok f=>exact z
  |error ev=>exact z.elim
end
section
variable {env:Env}{d:Nat}
theorem pD{x:Str}{Q:Unit→Shared→Prop}(a:At c A env en ρ σ s d)(hl:en.names.lookup x=some .local)(r:R s.heap ρ y v)
 (h: ∀s',ad c [env.locals] ρ s ρ σ s'→ck [env.locals] s.heap s'.heap→a_ s'.heap ρ env (en.set x y)→Q () s'):H9 (model c.prog c.w) A (storeName env x v) Q E s:=by
 have hkind:env.kindOf x=en.names.lookup x:=by rw[←a.er.names];rfl
 refine aK a.er.lo fun m hn hm=> ?_
 refine wpAny_storeName_local (hkind.trans hl) hn (fun h' hn' hs'=> ?_) (by rw[a.er.kind];rfl)
 have S:ad c [env.locals] ρ s ρ σ {s with heap:=h',toks:=s.toks+1}:=ad.same (t:=s.toks+1) a.ok a.st a.gd a.er.out hs'
 have dp: ∀b∈[env.locals],b∈ρ.p:=by simpa using a.er.out
 refine h _ S (fun b mb o e hd=> ?_) ⟨a.er.kind,a.er.names,a.er.gl,a.er.bi,⟨_,hn',fun z hz=> ?_⟩,fun z hz=> ?_,fun z hz=> ?_,a.er.out,a.er.ap,a.er.cd⟩
 ·have q:b=env.locals:=Gn.mp mb;subst q;refine iC hn' fun o' es ep ho' hd' u_=> ?_;exact⟨o',ho',es,ep,hd'⟩
 ·show jV h' ρ (GC z ((x,y)::en.own)) _;rw[cK]
  split
  ·exact .so (ad.R dp S r)
  ·exact(hm z hz).mono (ad.off dp) S.ext S.le
 ·have hzx:z≠x:=fun q=>by subst q;rw[show(en.set z y).names=en.names from rfl,hl]at hz;cases H8 hz
  refine bS (a.er.ce z hz) fun b w h1 h2 h3 h4=> ?_;refine⟨b,w,h1,S.ext.cell (fun q=>(Gl.mp q).elim (fun q=>dI hn h2 (Gn.mp q)) (a.st.cell h2)) h2,h3,?_⟩;show jV h' ρ (GC z ((x,y)::en.own)) _;rw[cK,if_neg hzx];exact h4.mono (ad.off dp) S.ext S.le
 ·refine dy (a.er.fr z hz) fun b w h1 h2 h4=> ?_;exact⟨b,w,h1,S.ext.cell (fun q=>(Gl.mp q).elim (fun q=>dI hn h2 (Gn.mp q)) (a.st.cell h2)) h2,h4.mono (ad.off dp) S.ext S.le⟩
noncomputable def di:Nat→uv
 |0,_,_,_,_=>none
 |n+1,t,en,σ,y=>(im t).elim ((kf t).bind fun p=>(eG y).bind fun l=>if ak p.1.1=true then fK (di n) p.1.1 en σ l else none)
  fun p=>if(en.names.lookup p.1.1==some .local)=true then some (en.set p.1.1 y,σ)else none
theorem At.local{env:Env}(a:At c A env en ρ σ s d)(x:ad c [env.locals] ρ s J3 J1 s')(fo:ck [env.locals] s.heap s'.heap)(er:a_ s'.heap J3 env en'):At c A env en' J3 J1 s' d:=
 ⟨a.ok,x.sto,x.gd,er,a.room.monoD a.st x fo⟩
theorem af.foL(x:af c ρ s J3 J1 s')(a:At c A env en ρ σ s d):ck [env.locals] s.heap s'.heap:=x.fo a.st (by simpa using a.er.out)
variable (c)in
noncomputable def BG(d:Nat)(g:uv):Prop:= ∀{A:Around} {env:Env} {en en':En} {ρ:Pl} {σ J1:Sg} {s:Shared} {t:Expr} {y:V} {v:Value} {Q:Unit→Shared→Prop} {E:Value→Shared→Prop},g t en σ y=some (en',J1)→At c A env en ρ σ s d→R s.heap ρ y v→
 (∀J3 s',ad c [env.locals] ρ s J3 J1 s'→ck [env.locals] s.heap s'.heap→a_ s'.heap J3 env en'→Q () s')→H9 (model c.prog c.w) A (assign t env v) Q E s
theorem qI(hg:BG c d g): ∀{en en':En} {ρ:Pl} {σ J1:Sg} {s:Shared} {l:List V} {vs:List Value} {Q:Unit→Shared→Prop} {E:Value→Shared→Prop},fK g es en σ l=some (en',J1)→At c A env en ρ σ s d→Rs s.heap ρ l vs→
 (∀J3 s',ad c [env.locals] ρ s J3 J1 s'→ck [env.locals] s.heap s'.heap→a_ s'.heap J3 env en'→Q () s')→H9 (model c.prog c.w) A (assignInOrder (es.map fun t=>assign t env) vs) Q E s:=by
 induction es with
 |nil=>
  intro en en' ρ σ J1 s l vs Q E e a r h
  cases l with
  |cons=>exact no e
  |nil=>cases H8 e;obtain rfl:=r.nilQ;exact assignInOrder_nil (h _ _ (ad.refl a.st a.gd) ((af.refl a.st a.gd).foL a) a.er)
 |cons t ts ih=>
  intro en en' ρ σ J1 s l vs Q E e a r h
  cases l with
  |nil=>exact no e
  |cons y ys=>
   refine ae e fun p h1 w=> ?_
   cases r using Rs.consE with
   |cons r rs=>exact assignInOrder_cons (hg h1 a r fun Kd J5 J4 LW Lb=>ih w (a.local J4 LW Lb) (ad.Rs (dt a.er.out) J4 rs) fun Kl J8 J7 LD KZ=>h _ _ (J4.trans J7) (LW.trans LD) KZ)
theorem mO(n:Nat):BG c d (di n):=by
 induction n with
 |zero=>
  intro A env en en' ρ σ J1 s t y v Q E e;exact no e
 |succ n ih=>
  intro A env en en' ρ σ J1 s t y v Q E e a r h
  cases t with
  |Name x p=>
   exact bH (show(if(en.names.lookup x==some .local)=true then some (en.set x y,σ)else none)=some (en',J1)from e) fun hx w=>by
    cases H8 w
    exact assign_Name (pD a (by simpa using hx) r fun s' S fo er=>h ρ s' S fo er)
  |Tuple es k p=>
   refine ae (show((eG y).bind fun l=>if ak es=true then fK (di n) es en σ l else none)=some (en',J1)from e) fun l hl w=>bH w fun hns w=> ?_
   obtain rfl:=eo hl;exact ld hns (m8 w) a r fun J5 vs J4 rs=>qI ih w (a.step J4) rs fun Kl J8 J7 LD KZ=>h _ _ (J4.D.trans J7) ((J4.foL a).trans LD) KZ
  |_=>exact no e
noncomputable def bL(g:lf)(en:En):Sg→List Expr→Option (Bool×Sg)
 |σ,[]=>some (true,σ)
 |σ,e::es=>(g en σ e).bind fun r=>match r with
  | .exc _ _=>none
  | .ok b J2=>match b with
   |true=>bL g en J2 es
   |false=>some (false,J2)
theorem oG{Q:Bool→Shared→Prop}:Q false s→
 H9 M A (forIn ifs false fun c r=>if r=true then do let ok←isTrue c env (eval c env);pure (F4 ok)else pure (F4 r)) Q E s:=by
 induction ifs with
 |nil=>exact fun h=>H' h
 |cons _ ifs ih=>
  intro h;rw[GT];exact H_ (H' (ih h))
theorem l_{g:lf}(hg:eK c d g){Q:Bool→Shared→Prop}: ∀{σ:Sg} {ρ:Pl} {s:Shared},bL g en σ ifs=some (b,J1)→At c A env en ρ σ s d→(∀J3 s',af c ρ s J3 J1 s'→Q b s')→
 H9 (model c.prog c.w) A (forIn ifs true fun c r=>if r=true then do let ok←isTrue c env (eval c env);pure (F4 ok)else pure (F4 r)) Q E s:=by
 induction ifs with
 |nil=>
  intro σ ρ s e a h
  cases H8 e
  exact H' (h _ _ (.refl a.st a.gd))
 |cons x ifs ih=>
  intro σ ρ s e a h;rw[GT];simp only[if_true]
  refine ae (show((g en σ x).bind _)=some (b,J1)from e) fun r hr e=> ?_
  cases r with
  |exc=>exact no e
  |ok t J2=>
  refine H_ (H_ (aq.go (hg hr a) (fun x' KJ q w J5 Kd J4 J'=> ?_) (fun u_ u_ q=>by exact iO q)))
  refine jD q fun zz1 zz2=> ?_;subst zz1;subst zz2;cases J'
  cases t with
  |true=>exact H' (ih e (a.step J4) fun Kl J8 J7=>h _ _ (J4.trans J7))
  |false=>
   cases H8 e
   exact H' (oG (h _ _ J4))
noncomputable def cy(g:uv)(tr:lf)(f:fL)(target:Expr)(ifs:List Expr)(elt:Expr)(k:Nat):Nat→En→Sg→It→Option Sg
 |0,_,_,_=>none
 |n+1,en,σ,t=>(aw σ t).bind fun r=>match r with
  |none=>some σ
  |some p=>(g target en σ p.1).bind fun q=>(bL tr q.1 q.2 ifs).bind fun b=>match b.1 with
   |true=>(f q.1 b.2 elt).bind fun o=>(ut o).bind fun y=>(cw y.2 k y.1).bind fun KN=>cy g tr f target ifs elt k n q.1 KN p.2
   |false=>cy g tr f target ifs elt k n q.1 b.2 p.2
theorem mU(h:aw σ t=some none):cy g tr f target ifs elt k (n+1) en σ t=some σ:=by
 show(aw σ t).bind _=_;rw[h];rfl
theorem lH(h1:aw σ t=some (some (x,t')))(h2:g target en σ x=some (Kf,J2))(h3:bL tr Kf J2 ifs=some (b,J6)):
 cy g tr f target ifs elt k (n+1) en σ t=match(generalizing:=false) b with
  |true=>(f Kf J6 elt).bind fun o=>(ut o).bind fun y=>(cw y.2 k y.1).bind fun KN=>cy g tr f target ifs elt k n Kf KN t'
  |false=>cy g tr f target ifs elt k n Kf J6 t':=by
 show(aw σ t).bind _=_;rw[h1];show(g target en σ x).bind _=_;rw[h2];show(bL tr Kf J2 ifs).bind _=_;rw[h3]
 cases b<;>rfl
theorem mS{KN:Sg}(h1:aw σ t=some (some (x,t')))(h2:g target en σ x=some (Kf,J2))(h3:bL tr Kf J2 ifs=some (true,J6))(h4:f Kf J6 elt=some (.ok y Kn))(h5:cw Kn k y=some KN):
 cy g tr f target ifs elt k (n+1) en σ t=cy g tr f target ifs elt k n Kf KN t':=by
 rw[lH h1 h2 h3];show(f Kf J6 elt).bind _=_;rw[h4];show(cw Kn k y).bind _=_;rw[h5];rfl
theorem Eb{K2:Sg}(e:cy g tr f target ifs elt k (n+1) en σ t=some K2)(k0:aw σ t=some none→σ=K2→P)
 (k1: ∀x t' Kf J2 J6 y Kn KN,aw σ t=some (some (x,t'))→g target en σ x=some (Kf,J2)→bL tr Kf J2 ifs=some (true,J6)→f Kf J6 elt=some (.ok y Kn)→cw Kn k y=some KN→cy g tr f target ifs elt k n Kf KN t'=some K2→P)
 (k2: ∀x t' Kf J2 J6,aw σ t=some (some (x,t'))→g target en σ x=some (Kf,J2)→bL tr Kf J2 ifs=some (false,J6)→cy g tr f target ifs elt k n Kf J6 t'=some K2→P):P:=
 ae e fun r hn e=>by
  cases r with
  |none=>exact k0 hn (H8 e)
  |some p=>
   obtain⟨x,t'⟩:=p;refine ae e fun q hg e=>ae e fun b ht e=> ?_;obtain⟨b,J6⟩:=b
   cases b with
   |true=>exact ae e fun o ho e=>ae e fun y hy e=>ae e fun KN ha e=>k1 _ _ _ _ _ _ _ _ hn hg ht (qu hy▸ho) ha e
   |false=>exact k2 _ _ _ _ _ hn hg ht e
theorem af.fresh{D:List Addr}(x:af c Kj Ka ρ σ s)(y:ad c D ρ s J3 J1 s')(k: ∀a∈D,Ka.heap.objs.size≤a):af c Kj Ka J3 J1 s':=ad.trans' x y fun a m=> .inr (k a m)
variable (c)in
noncomputable def DZ(A:Around)(env:Env)(d:Nat)(G:Nat→En→Sg→It→Option Sg)(K2:Sg)(Kj:Pl)(Ka:Shared)(a D:Addr)(k:Nat)(n:Nat)(s':Shared):Prop:=
 ∃en σ ρ t I,G n en σ t=some K2∧af c Kj Ka ρ σ s'∧At c A env en ρ σ s' d∧bB s'.heap ρ t I a∧(∀b∈I,Ka.heap.objs.size≤b)∧ρ.r[k]? =some D
theorem n8{D:Addr}(x:ρ.r<+:J3.r)(hk:ρ.r[k]? =some D):J3.r[k]? =some D:=by
 refine oE x fun t q=> ?_;rw[←q,GO (Gy.mp hk).1];exact hk
theorem um{K2:Sg}{D:Addr}{R:Result→Shared→Prop}(hg:BG c d g)(ht:eK c d tr)(hf:bE c d f)(n:Nat)
 (e:cy g tr f target ifs elt k n en σ t=some K2) (Ko:af c Kj Ka ρ σ s) (Kq:At c A env en ρ σ s d) (i:bB s.heap ρ t I a) (new: ∀b∈I,Ka.heap.objs.size≤b) (newC:Ka.heap.objs.size≤env.locals) (hk:ρ.r[k]? =some D)
 (hR: ∀en' J3 s',af c Kj Ka J3 K2 s'→At c A env en' J3 K2 s' d→J3.r[k]? =some D→R (.ok .next) s'):
 codeAny (model c.prog c.w) A (.compLoop (.ListComp elt [⟨target,iter,ifs,0⟩] scope pos) 0 (.ref a) (.ref D) env) R s:=by
 refine codeAny_loop rfl (DZ c A env d (cy g tr f target ifs elt k) K2 Kj Ka a D k) ?_ n ⟨en,σ,ρ,t,I,e,Ko,Kq,i,new,hk⟩;rintro n s ⟨en,σ,ρ,t,I,e,Ko,Kq,i,new,hk⟩
 show H9 _ A ((compTurn (.ListComp elt [⟨target,iter,ifs,0⟩] scope pos) 0 (.ref a) (.ref D) env).onRaise (fun x=>do noteFrame x env;theTreesLotGoes x)) _ _ s
 refine wpAny_noted ?_;rw[compTurn_list]
 change let K0:=_;let Q0:=_;let E0:=_;H9 _ _ (_>>=K0) Q0 E0 _;intros
 refine H_ (Il ?_);have ip:=i.priv.1
 cases n with
 |zero=>exact no e
 |succ n=>
 have run: ∀{x t' Kf J2 J6 b} {F:Bool→Sem Fin} {Q:Fin→Shared→Prop} {E:Value→Shared→Prop},aw σ t=some (some (x,t'))→g target en σ x=some (Kf,J2)→bL tr Kf J2 ifs=some (b,J6)→
  (∀KR Kv,af c Kj Ka KR J6 Kv→At c A env Kf KR J6 Kv d→bB Kv.heap KR t' I a→KR.r[k]? =some D→H9 (model c.prog c.w) A (F b) Q E Kv)→
  H9 (model c.prog c.w) A (pyNext (.ref a)) (fun r s'=>H9 (model c.prog c.w) A (match r with|none=>pure (Fin.done .next)|some v=>letOwnedTupleGo target (.ref a) v>>=fun u_=>assign target env v>>=fun u_=>(forIn ifs true fun c r=>if r=true then do let ok←isTrue c env (eval c env);pure (F4 ok)else pure (F4 r))>>=F) Q E s') E s:=by
  intro x t' Kf J2 J6 b F Q E hn KX htt k;refine It.pull Kq.room.hand Kq.ok Kq.st Kq.gd i hn fun w J5 J4 rv KP=> ?_;have Ke:=Kq.plain ip i.objs J4
  change let K0:=_;let Q0:=_;let E0:=_;H9 _ _ (_>>=K0) Q0 E0 _;intros
  refine H_ (iJ Ke.ok Ke.st Ke.gd KP fun J8 J7 KF=> ?_);have Ku:=Ke.plain ip KP.objs J7
  change let K0:=_;let Q0:=_;let E0:=_;H9 _ _ (_>>=K0) Q0 E0 _;intros
  refine H_ (hg KX Ku (ad.R ip J7 rv) fun KR Kv Kg LE K9=> ?_);have KC:=Ku.local Kg LE K9
  change let K0:=_;let Q0:=_;let E0:=_;H9 _ _ (_>>=K0) Q0 E0 _;intros
  refine H_ (l_ ht htt KC fun KW K6 Kr=> ?_)
  exact k KW K6 ((((Ko.fresh J4 new).fresh J7 new).fresh Kg (dt newC)).trans Kr) (KC.step Kr) (Kr.itr KC.st (ad.itr Ku.st (dt Ku.er.out) (fun b m q=>aU.locals KF.objs Ku.er (by rw[Gn.mp q]at m;exact m)) Kg KF))
   (n8 (((J4.pre.trans J7.pre).trans Kg.pre).trans Kr.pre) hk)
 refine Eb e (fun hn e=> ?_) (fun x t' Kf J2 J6 y Kn KN hn KX htt hy happ e=> ?_) fun x t' Kf J2 J6 hn KX htt e=> ?_
 ·subst e
  change let K0:=_;let Q0:=_;let E0:=_;H9 _ _ (_>>=K0) Q0 E0 _;intros
  refine H_ (It.pull0 Kq.room.hand Kq.ok Kq.st Kq.gd i hn fun J5 J4=> ?_);exact H' (hR en ρ J5 (Ko.fresh J4 new) (Kq.plain ip i.objs J4) (n8 J4.pre hk))
 ·change let K0:=_;let Q0:=_;let E0:=_;H9 _ _ (_>>=K0) Q0 E0 _;intros
  refine H_ (run hn KX htt fun KW K6 K7 K_ K3 Lu=> ?_);simp only[if_true]
  change let K0:=_;let Q0:=_;let E0:=_;H9 _ _ (_>>=K0) Q0 E0 _;intros
  refine H_ (H_ (aq.go (hf hy K_) (fun x' J1 q w₅ s₅ Lm KE Lo=> ?_) (fun u_ u_ q=>by exact iO q)))
  refine jD q fun zz1 zz2=> ?_;subst zz1;subst zz2;have Lk:=K_.step KE
  change let K0:=_;let Q0:=_;let E0:=_;H9 _ _ (_>>=K0) Q0 E0 _;intros
  refine H_ (aq.go (j_ (A:=A) Lk.ok Lk.st Lk.gd happ (.lst (n8 KE.pre Lu)) Lo) (fun x' J1 q w₆ s₆ ρ₆ K5 r₆=> ?_) (fun u_ u_ q=>by exact iO q))
  refine jD q fun zz1 zz2=> ?_;subst zz1;subst zz2;exact H' (H' ⟨rfl,n,Hx _,Kf,KN,ρ₆,t',I,e,(K7.trans KE).trans K5,Lk.step K5,K5.itr Lk.st (KE.itr K_.st K3),new,n8 (KE.pre.trans K5.pre) Lu⟩)
 ·change let K0:=_;let Q0:=_;let E0:=_;H9 _ _ (_>>=K0) Q0 E0 _;intros
  refine H_ (run hn KX htt fun KW K6 K7 K_ K3 Lu=> ?_);simp only[FV,if_false];exact H' ⟨rfl,n,Hx _,Kf,J6,KW,t',I,e,K7,K_,K3,new,Lu⟩
noncomputable def al(names:List (Str×NameKind))(en:En):List (Str×NameKind):=names.map fun(n,k)=>if(k== .free&&en.names.lookup n==some .cell)=true then(n,.cell)else(n,k)
noncomputable def dP(names:List (Str×NameKind))(en:En):En:=⟨al names en,en.own.filter fun p=>(al names en).lookup p.1==some .cell,en.fre,none⟩
noncomputable def dO(names:List (Str×NameKind))(en:En):Bool:=names.all fun n=>n.2 != .cell&&(n.2 != .local||names.lookup n.1==some .local)&&(n.2 != .free||en.names.lookup n.1==some .cell||en.names.lookup n.1==some .free)
noncomputable def jU(cells:List (Str×Addr)):List (Str×NameKind)→List (Str×Addr)→List (Str×Addr)
 |[],acc=>acc
 |(n,k)::r,acc=>if(k== .free)=true then jU cells r ((n,(cells.lookup n).getD 0)::acc)else jU cells r acc
theorem yA(names:List (Str×NameKind)): ∀(acc:List (Str×Addr)),(∀p∈jU cells names acc,p∈acc∨p.2=(cells.lookup p.1).getD 0)∧(∀p∈acc,p∈jU cells names acc)∧ ∀x,(x,JO)∈names→ ∃p∈jU cells names acc,p.1=x:=by
 induction names with
 |nil=>exact fun acc=>⟨fun u_ m=> .inl m,fun u_ m=>m,fun u_ m=>nomatch m⟩
 |cons nk r ih=>
  obtain⟨n,k⟩:=nk;intro acc
  rw[show jU cells ((n,k)::r) acc=(if(k== .free)=true then jU cells r ((n,(GC n cells).getD 0)::acc)else jU cells r acc)from rfl]
  by_cases hk:(k== .free)=true
  ·rw[if_pos hk];refine mF (ih ((n,(cells.lookup n).getD 0)::acc)) fun i1 i2 i3=> ?_;refine⟨fun p m=>(i1 p m).elim (fun q=> ?_) .inr,fun p m=>i2 p (.tail _ m),fun x m=> ?_⟩
   ·cases q with
    |head=>exact .inr rfl
    |tail _ q=>exact .inl q
   ·cases m with
    |head=>exact⟨_,i2 _ (.head _),rfl⟩
    |tail _ q=>exact i3 x q
  ·rw[if_neg hk];refine mF (ih acc) fun i1 i2 i3=> ?_;refine⟨i1,i2,fun x m=> ?_⟩
   cases m with
   |head=>exact absurd (beq_self_eq_true _) hk
   |tail _ q=>exact i3 x q
theorem mh(h: ∀n∈scope.names,n.2= .free→ ∃a,env.cells.lookup n.1=some a):closureFor scope env=pure (jU env.cells scope.names []):=by
 have key: ∀(names:List (Str×NameKind)) (acc:List (Str×Addr)),(∀n∈names,n.2= .free→ ∃a,env.cells.lookup n.1=some a)→
  (forIn names acc fun(x:Str×NameKind) (r:List (Str×Addr))=>if(x.2==JO)=true then do let a←cellOf env x.1;pure (F4 ((x.1,a)::r))else pure (F4 r))=(pure (jU env.cells names acc):Sem (List (Str×Addr))):=by
  intro names
  induction names with
  |nil=>intro acc _;rfl
  |cons x r ih=>
   intro acc hh;obtain⟨n,k⟩:=x;rw[GT]
   rw[show jU env.cells ((n,k)::r) acc=(if(k== .free)=true then jU env.cells r ((n,(GC n env.cells).getD 0)::acc)else jU env.cells r acc)from rfl]
   by_cases hk:(k==JO)=true
   ·refine oE (hh (n,k) (.head _) (by simpa using hk)) fun a ha=> ?_
    have hc:cellOf env n=pure a:=by unfold cellOf;rw[ha]
    simp only[hk,if_true,hc,pure_bind]
    rw[show(GC n env.cells).getD 0=a by rw[ha];rfl]
    exact ih _ fun m hm=>hh m (.tail _ hm)
   ·simp only[Bool.not_eq_true]at hk;simp only[hk,FV,if_false,pure_bind];exact ih _ fun m hm=>hh m (.tail _ hm)
 have:=key scope.names [] h;unfold closureFor
 first
  |exact this
  |(rw[←bind_pure (forIn scope.names [] _)]at this;exact this)
  |(simp only[bind_pure];exact this)
theorem nY{x:Str}:(al names en).lookup x=(names.lookup x).map fun k=>if(k== .free&&en.names.lookup x==some .cell)=true then .cell else k:=by
 induction names with
 |nil=>rfl
 |cons p r ih=>
  obtain⟨n,k⟩:=p
  show GC x ((if(k== .free&&en.names.lookup n==some .cell)=true then(n,.cell)else(n,k))::al r en)=_
  by_cases hx:x=n
  ·subst hx
   split<;>simp_all [GF]
  ·have hb:(x==n)=false:=beq_eq_false_iff_ne.mpr hx
   have:GC x ((if(k== .free&&en.names.lookup n==some .cell)=true then(n,JP)else(n,k))::al r en)=GC x (al r en):=by
    split<;>simp[GF,hb]
   rw[this,ih];simp[GF,hb]
theorem nu{x:Str}(hm:(x,JO)∈names):(jU cells names []).lookup x=some ((cells.lookup x).getD 0):=by
 refine mF (yA (cells:=cells) names []) fun i1 i2 i3=> ?_;refine aK (i3 x hm) fun p hp hx=> ?_
 have key: ∀l:List (Str×Addr),(∀p∈l,p.2=(cells.lookup p.1).getD 0)→(∃p∈l,p.1=x)→l.lookup x=some ((cells.lookup x).getD 0):=by
  intro l
  induction l with
  |nil=>rintro _ ⟨p,m,_⟩;cases m
  |cons q l ih=>
   rintro h1 ⟨p,m,e⟩;obtain⟨n,a⟩:=q;rw[GF]
   by_cases hx:x=n
   ·subst hx;have:=h1 (x,a) (.head _);simp only[beq_self_eq_true];exact congrArg some this
   ·have hb:(x==n)=false:=beq_eq_false_iff_ne.mpr hx;rw[hb];refine ih (fun p m=>h1 p (.tail _ m)) ⟨p,?_,e⟩
    rcases Gp.mp m with q|q
    ·rw[q]at e;exact absurd e.symm hx
    ·exact q
 exact key _ (fun p m=>(i1 p m).elim (fun q=>by cases q) id) ⟨p,hp,hx⟩
theorem iY{x:Str}(h: ∀n∈names,n.2= .free→ ∃a,cells.lookup n.1=some a)(e:(jU cells names []).lookup x=some a):cells.lookup x=some a:=by
 have hm:=mem_of_lookup e
 have key: ∀(names:List (Str×NameKind)) (acc:List (Str×Addr)),(∀n∈names,n.2= .free→ ∃a,cells.lookup n.1=some a)→(∀p∈acc,cells.lookup p.1=some p.2)→ ∀p∈jU cells names acc,cells.lookup p.1=some p.2:=by
  intro names
  induction names with
  |nil=>intro acc _ h2;exact h2
  |cons q r ih=>
   intro acc h1 h2;obtain⟨n,k⟩:=q
   rw[show jU cells ((n,k)::r) acc=(if(k== .free)=true then jU cells r ((n,(GC n cells).getD 0)::acc)else jU cells r acc)from rfl]
   by_cases hk:(k==JO)=true
   ·rw[if_pos hk]
    refine oE (h1 (n,k) (.head _) (by simpa using hk)) fun a ha=> ?_
    refine ih _ (fun m hm=>h1 m (.tail _ hm)) fun p m=> ?_
    rcases Gp.mp m with rfl|m
    ·show cells.lookup n=some ((cells.lookup n).getD 0)
     rw[show cells.lookup n=some a from ha];rfl
    ·exact h2 p m
   ·rw[if_neg hk];exact ih _ (fun m hm=>h1 m (.tail _ hm)) h2
 exact key names [] h (fun p m=>by cases m) _ hm
theorem a_.frees(er:a_ h ρ env en)(hf: ∀n∈scope.names,n.2= .free→en.names.lookup n.1=some .cell∨en.names.lookup n.1=some .free): ∀n∈scope.names,n.2= .free→ ∃a,env.cells.lookup n.1=some a:=fun n m k=>by
 rcases hf n m k with q|q
 ·refine bc (er.ce _ q) fun a w h1 u_=> ?_;exact⟨a,h1⟩
 ·refine bc (er.fr _ q) fun a w h1 u_=> ?_;exact⟨a,h1⟩
theorem fG(h:dO names en=true):(∀n∈names,n.2≠ .cell)∧(∀n∈names,n.2= .local→names.lookup n.1=some .local)∧ ∀n∈names,n.2= .free→en.names.lookup n.1=some .cell∨en.names.lookup n.1=some .free:=by
 have:=Gw.mp h;refine⟨fun n m q=> ?_,fun n m q=> ?_,fun n m q=> ?_⟩
 ·have:=this n m;simp[q]at this
 ·have:=this n m;simp[q]at this;exact this
 ·have:=this n m;simp[q]at this;exact this
theorem wG(ok:c.Ok)(a:At c A env en ρ σ s d)(hk:scope.kind= .function)(ho:dO scope.names en=true)(hn:h'.Ns s.heap.objs.size fun x=>(([]:List (Str×Value)).reverse).lookup x)
 (sb:JK s.heap.objs.size (s.heap.push {cls:= .type "dict",data:= .dict #[]}) h'):
 af c ρ s ⟨ρ.r,s.heap.objs.size::ρ.p⟩ σ {s with heap:=h',toks:=s.toks+0}∧
  a_ h' ⟨ρ.r,s.heap.objs.size::ρ.p⟩ {newEnv scope s.heap.objs.size env.globals (jU env.cells scope.names []) env.qual none .none (some env) builtinsNs with scope:=relabel scope env} (dP scope.names en):=by
 refine mF (fG ho) fun o1 o2 o3=> ?_
 have hz:h'.objs.size=s.heap.objs.size+1:=by rw[sb.1,JH]
 have S:af c ρ s ⟨ρ.r,s.heap.objs.size::ρ.p⟩ σ {s with heap:=h',toks:=s.toks+0}:=by
  refine ad.write ok a.st a.gd (by exact GH _) (fun b o u_ e=> ?_) (by rw[hz];exact Hz _) (fun b m=> ?_) (fun b m=> .tail _ m)
  ·exact(sb.2 b (HT (JI e))).trans (JG _ e)
  ·rcases Gp.mp m with rfl|m
   ·exact .inr ⟨Hv _,by rw[hz];exact Hx _⟩
   ·exact .inl m
 refine⟨S,?_⟩;have er:=S.env a.st a.er;have fr:=a.er.frees o3
 have hnames:(relabel scope env).names=al scope.names en:=by
  unfold relabel al;refine G8 fun n m=> ?_;obtain⟨n,k⟩:=n
  have h1:(env.scope.kind==ScopeKind.function)=true:=by rw[a.er.kind];rfl
  have h2:env.kindOf n=en.names.lookup n:=by rw[←a.er.names];rfl
  simp only[h1,h2,FY]
 have lk: ∀{x:Str} {k:NameKind},(al scope.names en).lookup x=some k→ ∃KS,(x,KS)∈scope.names∧scope.names.lookup x=some KS∧k=if(KS== .free&&en.names.lookup x==some .cell)=true then JP else KS:=fun {x k} e=>by
  rw[nY]at e;refine aK (H3.mp e) fun KS h1 h2=> ?_;exact⟨KS,mem_of_lookup h1,h1,h2.symm⟩
 refine⟨hk,hnames,er.gl,er.bi,⟨_,hn,fun x hx=> ?_⟩,fun x hx=> ?_,fun x hx=> ?_,.head _,fun y z b h1 h2=> ?_,fun cc h=>by exact no h⟩
 ·have:(dP scope.names en).own.lookup x=none:=by
   show(en.own.filter fun p=>(al scope.names en).lookup p.1==some .cell).lookup x=none;rw[aY (q:=fun x=>(al scope.names en).lookup x==some .cell)]
   rw[show(al scope.names en).lookup x=some .local from hx]
   rfl
  rw[this];exact .no
 ·refine cz (lk hx) fun KS h1 h1' h2=> ?_
  have hc:(KS== .free&&en.names.lookup x==some .cell)=true:=by
   by_cases q:(KS== .free&&en.names.lookup x==some .cell)=true
   ·exact q
   ·rw[if_neg q]at h2;exact absurd h2.symm (o1 _ h1)
  refine oA (FR.mp hc) fun q1 q2=> ?_
  have q1:KS= .free:=by simpa using q1
  have q2:en.names.lookup x=some .cell:=by simpa using q2
  subst q1;refine bS (er.ce x q2) fun b w g1 g2 g3 g4=> ?_;refine⟨b,w,?_,g2,g3,?_⟩
  ·show(jU env.cells scope.names []).lookup x=some b;rw[nu h1,g1];rfl
  ·show jV h' _ ((en.own.filter fun p=>(al scope.names en).lookup p.1==some .cell).lookup x) w;rw[aY (q:=fun x=>(al scope.names en).lookup x==some .cell)]
   rw[show(al scope.names en).lookup x=some .cell from hx]
   exact g4
 ·refine cz (lk hx) fun KS h1 h1' h2=> ?_
  have hk0:KS= .free:=by
   split at h2
   ·cases h2
   ·exact h2.symm
  subst hk0
  have hnc:en.names.lookup x≠some .cell:=by
   intro q;rw[q]at h2;trivial
  have hf:=(o3 _ h1 rfl).resolve_left hnc;refine dy (er.fr x hf) fun b w g1 g2 g4=> ?_;refine⟨b,w,?_,g2,g4⟩;show(jU env.cells scope.names []).lookup x=some b;rw[nu h1,g1];rfl
 ·exact a.er.ap y z b (iY fr h1) (iY fr h2)
variable (c)in
noncomputable def b_(iv:iM)(tr:lf)(f:fL)(en:En)(σ:Sg)(elt:Expr)(gens:List Comprehension)(scope:Scope):Option (aD V):=(tu gens).bind fun g=>if g.1.is_async=0 then
 if(cX g.1.iter&&scope.kind== .function&&dO scope.names en)=true then(iv en σ g.1.iter).bind fun r=>(ut r).bind fun q=>(aA q.2 q.1).bind fun t=>(cy (di 8) tr f g.1.target g.1.ifs elt q.2.length av (dP scope.names en) (q.2++[.lst []]) t).map fun J6=> .ok (.lst q.2.length) J6 else none
 else none
theorem m4{iv:iM}{gens:List Comprehension}(e:b_ iv tr f en σ elt gens scope=some o)
 (k: ∀target iter ifs x J2 J6 t,gens=[⟨target,iter,ifs,0⟩]→cX iter=true→scope.kind= .function→dO scope.names en=true→iv en σ iter=some (.ok x J2)→aA J2 x=some t→cy (di 8) tr f target ifs elt J2.length av (dP scope.names en) (J2++[.lst []]) t=some J6→ .ok (.lst J2.length) J6=o→P):P:=
 eO e fun g e=>bH e fun hn e=>bH e fun hp e=>ae e fun r hr e=>ae e fun q hq e=>ae e fun t ht e=>aM e fun J6 hc w=>
  have h1:=FR.mp hp;have h2:=FR.mp h1.1
  k _ _ _ q.1 q.2 J6 t (g.2.trans (congrArg (fun x=>[x]) (cp0 hn))) h2.1 (Gj h2.2) h1.2 (qu hq▸hr) ht hc w
theorem qW(ok:c.Ok)(st:aO c ρ σ s.heap)(g:Gd c s.heap)(h: ∀s',af c ρ s (ρ.add s.heap.objs.size) (σ++[.lst []]) s'→Q (.ref s.heap.objs.size) s'):H9 (model c.prog c.w) A (newList []) Q E s:=
 wpAny_newList (h _ (af.pushList (n:=0) (t:=s.toks) ok st g .nil)) (by exact HD _)
theorem af.get{D:Addr}(x:ad c D' ρ s J3 J1 s')(h:ρ.r[k]? =some D):J3.r[k]? =some D:=by
 refine oE x.pre fun t q=> ?_;rw[←q,GO (Gy.mp h).1];exact h
theorem mP{iv:iM}{pos':Pos}{use:Option (Value→Sem Unit)}{x:IV}(hi:hY c d iv)(ht:eK c d tr)(hf:bE c d f)
 (hns:cX iter=true) (hk:scope.kind= .function) (ho:dO scope.names en=true) (hx:iv en σ iter=some (.ok x J2)) (hit:aA J2 x=some t) (hc:cy (di 8) tr f target ifs elt J2.length av (dP scope.names en) (J2++[.lst []]) t=some J6) (a:At c A env en ρ σ s d)
 (hQ: ∀J3 s' D C,af c ρ s J3 J6 s'→R s'.heap J3 (.lst J2.length) (.ref D)→C∈J3.p→s.heap.objs.size≤C→(∃m,s'.heap.Ns C m)→compPost (model c.prog c.w) A E use Q (.ref D) C (.ok .next) s'):
 H9 (model c.prog c.w) A (comprehension (.ListComp elt [⟨target,iter,ifs,0⟩] scope pos) scope env pos' (newList []) false (eval iter env) use) Q E s:=by
 refine mF (fG ho) fun o1 o2 o3=> ?_;refine wpAny_comprehension_free (g:=⟨target,iter,ifs,0⟩) (gs:=[]) rfl (iQ hns) (mh (a.er.frees o3)) hk o2 ?_
 refine aq.go (hi hx a) (fun x' J1 q w J5 Kd J4 J'=> ?_) (fun u_ u_ q=>by exact iO q)
 refine jD q fun zz1 zz2=> ?_;subst zz1;subst zz2;refine aK J' fun I J' K8=> ?_;have Ke:=a.step J4;refine dC a.ok J4.sto J4.gd hit J' fun Kl J b J8 J7 KF Lf=> ?_;have Ku:=Ke.step J7;refine qW Ku.ok Ku.st Ku.gd fun Kv Kg=> ?_;have KC:=Ku.step Kg;have Li:=Kg.itr Ku.st KF;have LF:(Kl.add J8.heap.objs.size).r[J2.length]? =some J8.heap.objs.size:=Ku.st.last _
 refine wpAny_newFunctionEnv o1 (by simp) (fun h' hn sb=> ?_) hk
 refine oA (wG a.ok KC hk ho hn sb) fun Kr Lj=> ?_;have S123:=(J4.trans J7).trans Kg;have at₄:At c A _ _ _ _ _ d:=⟨a.ok,Kr.sto,Kr.gd,Lj,Kr.room KC.st KC.room⟩;have K3:=Kr.itr KC.st Li;have new: ∀z∈J,s.heap.objs.size≤z:=fun z m=>(Lf z m).elim (K8 z) fun q=>Hu J4.rest.hsize q
 have ph:codeAny (model c.prog c.w) A (.compLoop (.ListComp elt [⟨target,iter,ifs,0⟩] scope pos) 0 (.ref b) (.ref J8.heap.objs.size) {newEnv scope Kv.heap.objs.size env.globals (jU env.cells scope.names []) env.qual none .none (some env) builtinsNs with scope:=relabel scope env})
  (compPost (model c.prog c.w) A E use Q (.ref J8.heap.objs.size) Kv.heap.objs.size) {Kv with heap:=h',toks:=Kv.toks+0}:=by
  refine um (mO 8) ht hf av hc (S123.trans Kr) at₄ K3 new S123.rest.hsize (af.get Kr LF) fun en' J3 s' S' a' g'=> ?_
  exact hQ J3 s' _ _ S' (.lst g') a'.er.out S123.rest.hsize (let⟨m,hm,_⟩:=a'.er.lo;⟨m,hm⟩)
 exact codeAny_compStart_list ph (K3.iter_self ph)
theorem iX{iv:iM}{gens:List Comprehension}(hi:hY c d iv)(ht:eK c d tr)(hf:bE c d f)(e:b_ iv tr f en σ elt gens scope=some o)(a:At c A env en ρ σ s d):
 bk c A (eval (.ListComp elt gens scope pos) env) ρ s o:=by
 refine m4 e fun target iter ifs x J2 J6 t hg hns hk ho hx hit hc w=> ?_;subst w;rw[hg];show H9 _ _ _ _ _ _;rw[eval_ListComp];refine mP hi ht hf hns hk ho hx hit hc a fun J3 s' D C S r hC hCn hm=> ?_;refine oE hm fun m hm=> ?_;refine⟨m,hm,fun h' sb=> ?_⟩
 have J7:ad c [C] J3 s' J3 J6 {s' with heap:=h',toks:=s'.toks}:=ad.same (t:=s'.toks) a.ok S.sto S.gd hC sb
 exact⟨J3,S.fresh J7 (by simpa using hCn),ad.R (by simpa using hC) J7 r⟩
noncomputable def Ah(σ:Sg)(k j:Nat):Option Sg:=(aG σ k).bind fun l=>(aG σ j).bind fun m=>if l.length+m.length≤2^20 then some (σ.set k (.lst (l++m)))else none
theorem rB(vs ws:List Value)(n:Nat): ∃n',JR (fun x=>x++ws.toArray) (az vs n)=az (vs++ws) n':=by
 refine⟨if(vs.toArray++ws.toArray).size==vs.toArray.size then n else n+1,?_⟩
 simp[JR]
theorem yu{j:Nat}{lb:Addr}{n2:Nat}(ok:c.Ok)(st:aO c ρ σ s.heap)(g:Gd c s.heap)(hz:l.length+m.length≤2^20)(h1:ρ.r[k]? =some la)(o1:s.heap.get? la=some (az vs n))(rs:Rs s.heap ρ l vs)(o2:s.heap.get? lb=some (az ws n2))(qs:Rs s.heap ρ m ws):
 bk c A (inplaceOp .Add (.ref la) (.ref lb)) ρ s (.ok (.lst k) (σ.set k (.lst (l++m)))):=by
 have ha:s.TypeIs (.ref la) "list":=⟨_,o1,rfl⟩;have hb:s.TypeIs (.ref lb) "list":=⟨_,o2,rfl⟩;have hlk:typeLookup (.type "list") (dunderI "add")=pure (some (.builtin "list.__iadd__")):=PySem.F.slot_list_iadd.lookup
 have hsq:isSeqSlot (some (.builtin "list.__iadd__"))=true:=by decide+kernel
 have hfi:fillsInplaceSlot (.type "list") "add" (Operator.Add== .Add)=pure false:=by
  unfold fillsInplaceSlot;show(typeLookup (.type "list") (dunderI "add")>>=fun fi=>pure (fi.isSome&& !isSeqSlot fi))=pure false;rw[hlk,pure_bind,hsq];rfl
 have hsi:seqSlot? (.type "list") (dunderI "add")=pure (some (.builtin "list.__iadd__")):=IU hlk hsq
 have hx:vs.length+ws.length≤2^20:=by rw[←rs.length,←qs.length];exact hz
 unfold inplaceOp;refine Ic ?_;refine H_ (Iv ha (H_ (Ih hfi ?_)))
 show H9 _ A (if false=true then _ else _) _ _ s
 refine bU FT ?_;refine H_ (PySem.wpAny_binaryOp1_none (nm:="add") ha hb noFill_list_add ?_);refine H_ (Ih hsi ?_);refine H_ (Ie ?_)
 have hts:IY (vs.toArray.size+ws.toArray.size)=false:=by
  unfold IY;simp only[decide_eq_false_iff_not,Hy,gt_iff_lt];simp
  exact Hu hx (by decide)
 refine IF PySem.F.slot_list_iadd ha PySem.F.entry_list_iadd (PySem.F.args_list_iadd_2 _ _) (PySem.AutoSeq1.list___iadd___list_list_0 la vs.toArray n lb ws.toArray n2 (by rw[hts];simp) (by simp;exact Hu (Hu (HA _ _) hx) (by decide)) (by simp;exact Hu hx (by decide))) ⟨o1,o2,?_⟩
 refine oE (rB vs ws n) fun n' hn'=> ?_
 have S:=af.setCell (c:=c) (l':= .lst (l++m)) (t:=s.toks) ok st g h1 (JN (f:=JR fun x=>x++ws.toArray) ..) fun k1 k2=>⟨vs++ws,n',by rw[JJ _ o1 (by rw[hn'];rfl),hn'],(k2 rs).append (k2 qs)⟩
 exact⟨ρ,S,S.R (.lst h1)⟩
theorem t8(ok:c.Ok)(st:aO c ρ σ s.heap)(g:Gd c s.heap)(e:Ah σ k j=some J1)(r:R s.heap ρ (.lst k) v)(q:R s.heap ρ (.lst j) w):bk c A (inplaceOp .Add v w) ρ s (.ok (.lst k) J1):=
 ae e fun l hl e=>ae e fun m hm e=>bH e fun hz e=>by
  obtain rfl:=H8 e
  cases r with
  |lst h1=>
  cases q with
  |lst h2=>
  refine bc (st.at_ _ _ _ h1 (bD hl)) fun vs n o1 rs=> ?_
  refine bc (st.at_ _ _ _ h2 (bD hm)) fun ws n2 o2 qs=> ?_
  exact yu (j:=j) ok st g hz h1 o1 rs o2 qs
noncomputable def yH(f:fL)(en:En)(σ:Sg)(x:Str)(op:Operator)(e:Expr):Option aJ:=if bF en x=true then(en.own.lookup x).bind fun z=>match z with
 | .int i=>bR en (f en σ e) fun y J1=>match y with
  | .int j=>(uT op i j).map fun k=> .ok .next (en.set x (.int k)) J1
  |_=>none
 | .lst k=>if sw op=true then bR en (f en σ e) fun y J1=>(gv y).bind fun j=>(Ah J1 k j).map fun J6=> .ok .next (en.set x (.lst k)) J6 else none
 |_=>none
 else none
theorem BX(h:sw op=true):op= .Add:=by cases op<;>first|rfl|exact bI h
theorem x_{x:Str}{p:Pos}{o:aJ}(hf:bE c d f)(h:yH f en σ x op e=some o)(a:At c A env en ρ σ s d):eC c A (exec (.AugAssign (.Name x p) op e pos) env) env ρ s o:=by
 refine oA (iq h) fun hx h=> ?_;refine ae h fun z hi h=> ?_
 cases z with
 |int i=>exact ql hf hx hi h a
 |lst k=>
  refine oA (iq h) fun hop h=> ?_;obtain rfl:=BX hop
  refine wpAny_AugAssign_Name (aq.go (qe (A:=A) a.st a.gd a.er hx hi) (fun y KA q Lp Ka Kj Ko Kt=> ?_) (fun u_ u_ q=>by exact iO q))
  refine jD q fun zz1 zz2=> ?_;subst zz1;subst zz2;have KO:=a.step Ko;refine aq.thenS KO (Ko.toS a.st a.er) h (fun o' q=>hf q KO) fun y J2 v J5 Kd J4 Ke J' J9 KB=> ?_;refine ae J9 fun j hj w=>aM w fun J6 hk w=> ?_;subst w;obtain rfl:=gj hj
  refine aq.go (t8 (A:=A) Ke.ok Ke.st Ke.gd hk (KB.R Kt) J') (fun z Kn q w J8 Kl J7 Ky=> ?_) (fun u_ u_ q=>by exact iO q)
  refine jD q fun zz1 zz2=> ?_;subst zz1;subst zz2;exact dG (Ke.step J7) (cM hx) Ky fun s' S' er'=>⟨Kl,(J4.trans (J7.toS Ke.st Ke.er)).trans S',er',.next⟩
 |_=>exact no h
set_option tactic.hygienic true in
theorem uO{f:fL}{e:Expr}{pos:Pos}{o:aJ}(hf:bE c d f)(hc:cg e=true)(h:bR en (f en σ e) (fun y J1=>if aX y then some (.ok .next en J1)else none)=some o)(a:At c A env en ρ σ s d):eC c A (exec (.Expr e pos) env) env ρ s o:=by
 refine wpAny_Expr (aq.thenS a ((af.refl a.st a.gd).toS a.st a.er) h (fun o' q=>hf q a) fun y J2 v J5 Kd J4 Ke J' J9 KB=> ?_) (by unfold interactive;rw[a.er.kind];rfl) (oU hc)
 split at J9
 ·rename_i hy;obtain rfl:=H8 J9;have:=hU J';rw[hy]at this;have hv:v= .none:=Gj this;subst hv;exact⟨Kd,J4,Ke.er,.next⟩
 ·exact no J9
theorem a_.monoG{D:List Addr}(t:aO c ρ σ s.heap)(d: ∀a∈D,a∈ρ.p)(x:ad c D ρ s J3 J1 s')(e:a_ s.heap ρ env en)(hl:env.locals∉D)(hc: ∀a w,s.heap.IsCell a w→a∉D):a_ s'.heap J3 env en:=a_.monoX t d x e hl fun u_ u_ u_ u_ h=>hc _ _ h
theorem bn.freshG{D:List Addr}(x:bn c env Kj Ka ρ σ s)(st:aO c ρ σ s.heap)(er:a_ s.heap ρ env en)(hD: ∀a∈mx env,a∉D)(y:ad c D ρ s J3 J1 s')(k: ∀a∈D,Ka.heap.objs.size≤a):bn c env Kj Ka J3 J1 s':=by
 refine⟨ad.trans' x.st y fun a m=> .inr (k a m),x.fo.trans fun a m o e t=> ?_⟩;refine aK (y.ext a o (fun z=>(Gl.mp z).elim (hD a m) (st.disj _ (er.own a m))) e) fun o' e' q=> ?_;refine rq t fun es ep hd=> ?_;exact⟨o',e',es,ep,q.dict hd⟩
theorem mv{iv:iM}{x:Str}{p:Pos}{gens:List Comprehension}{cpos:Pos}{o:aJ}(hi:hY c d iv)(ht:eK c d tr)(hf:bE c d f)(hx:bF en x=true)
 (h:bR en (b_ iv tr f en σ elt gens scope) (fun y J1=>some (.ok .next (en.set x y) J1))=some o) (a:At c A env en ρ σ s d):eC c A (exec (.Assign [.Name x p] (.ListComp elt gens scope cpos) pos) env) env ρ s o:=by
 obtain⟨b,hb⟩: ∃b,swapsWith (.ListComp elt gens scope cpos) (some (.Name x p)) pos.line env=pure b:=⟨_,rfl⟩
 cases b with
 |false=>
  refine wpAny_Assign_Name (aq.thenS a ((af.refl a.st a.gd).toS a.st a.er) h (fun o' q=>iX hi ht hf q a) fun y J2 v J5 Kd J4 Ke J' J9 KB=> ?_) hb;obtain rfl:=H8 J9;exact dG Ke (cM hx) J' fun s' S' er'=>⟨Kd,J4.trans S',er',.next⟩
 |true=>
  cases hl:b_ iv tr f en σ elt gens scope with
  |none=>rw[hl]at h;exact no h
  |some o'=>
   rw[hl]at h;refine m4 hl fun target iter ifs xv J2 J6 t hg hns hk ho hxv hit hc w=> ?_;subst w;obtain rfl:=H8 h;rw[hg]at hb⊢
   have fin:H9 (model c.prog c.w) A (exec (.Assign [.Name x p] (.ListComp elt [⟨target,iter,ifs,0⟩] scope cpos) pos) env) (ge c env ρ s (.ok .next (en.set x (.lst J2.length)) J6)) (fun u_ u_=>False) s:=by
    rw[exec_Assign_Name_used _ _ _ _ hb];refine H_ (Il (H_ ?_))
    show H9 _ A (do let _←comprehension (.ListComp elt [⟨target,iter,ifs,0⟩] scope cpos) scope env _ (newList []) false (eval iter env) (some (assign (.Name x p) env))) _ _ s
    refine H_ (Ia (mP (use:=some (assign (.Name x p) env)) (Q:=fun u_ s'=>ge c env ρ s (.ok .next (en.set x (.lst J2.length)) J6) .next s') (E:=fun u_ u_=>False) hi ht hf hns hk ho hxv hit hc a fun J3 s' D C S r hC hCn hm=> ?_) (fun u_ s' hq=>H' (H' hq)) fun u_ u_ z=>z);refine oE hm fun m hm=> ?_;have a':=a.step S;show H9 _ A (assign (.Name x p) env (.ref D)) _ _ s';refine assign_Name (dG a' (cM hx) r fun s'' S'' er''=> ?_);have old: ∀b∈mx env,b<s.heap.objs.size:=fun b m=>(a.st.plow b (a.er.own b m)).2
    have hCo: ∀b∈mx env,b∉[C]:=fun b m q=>absurd (old b m) (by rw[Gn.mp q];exact Hy.mpr hCn)
    have hm':s''.heap.Ns C m:=S''.st.ext.ns (fun z=>(Gl.mp z).elim (fun z=>hCo C z (by exact .head _)) (S.sto.disj C hC)) hm
    refine⟨m,hm',fun h' sb=> ?_⟩;have hCp:C∈J3.p:=hC
    have Kg:ad c [C] J3 s'' J3 J6 {s'' with heap:=h',toks:=s''.toks}:=ad.same (t:=s''.toks) a.ok S''.st.sto S''.st.gd hCp sb
    have T:bn c env ρ s J3 J6 {s'' with heap:=h',toks:=s''.toks}:=((S.toS a.st a.er).trans S'').freshG S''.st.sto er'' hCo Kg (by simpa using hCn)
    refine⟨J3,T,er''.monoG S''.st.sto (by simpa using hCp) Kg (fun q=>hCo env.locals (.head _) q) (fun b w i q=> ?_),.next⟩
    rw[Gn.mp q]at i;refine iC hm' fun o1 es ep g1 g2 u_=> ?_;refine aK i fun o2 g3 g4=> ?_;rw[g1]at g3;obtain rfl:=H8 g3;rw[g2]at g4;cases g4
   exact Ia fin (fun u_ u_ z=>z) fun u_ u_ z=>z.elim
noncomputable def vW(en:En)(line:Nat)(e:Expr):Option Str:=(im e).bind fun p=>if en.names.lookup p.1.1==some .local&&p.1.2.line==line then some p.1.1 else none
noncomputable def swM(N:List Str)(ts vs:List Expr):Option (Option (List Str)):=if(N.length !=ts.length||N.eraseDups.length !=N.length)=true then some none else if vs.all (foldedForSure 8)=true then some none else if vs.all (constantsAlone 8)=true then none else some (some N)
noncomputable def wz(en:En)(ts vs:List Expr):Option (Option (List Str)):=
 if(!(ts.length==2||ts.length==3)||vs.length !=ts.length)=true then some none
 else if ak vs=true then swM (ts.filterMap (vW en ((ts.head?.map (·.pos.line)).getD 0))) ts vs else none
noncomputable def swN(N:List Str)(ts vs:List Expr):Sem (Option (List Str)):=if(N.length !=ts.length||N.eraseDups.length !=N.length)=true then pure none else if vs.all (foldedForSure 8)=true then pure none
 else if vs.all (constantsAlone 8)=true then(unsupported "assign.tuple-of-constant-expressions:order-of-the-stores">>=fun(_:Unit)=>pure (some N))else pure (some N)
noncomputable def swB(b:Bool)(f:Expr→Bool)(g:Expr→Option Str)(ts vs:List Expr):Sem (Option (List Str)):=
 if(!(ts.length==2||ts.length==3)||vs.length !=ts.length||b)=true then pure none else if vs.any f=true then pure none else swN (ts.filterMap g) ts vs
theorem Bp{ts vs:List Expr}{r:Option (List Str)}(h:swM N ts vs=some r):swN N ts vs=pure r:=by
 refine eV h (fun c w=> ?_) fun c w=>(if_neg c).trans (eV w (fun c w=> ?_) fun c w=>(if_neg c).trans (eV w (fun u_ w=>no w) fun c w=> ?_))
 ·obtain rfl:=H8 w;exact if_pos c
 ·obtain rfl:=H8 w;exact if_pos c
 ·obtain rfl:=H8 w;exact if_neg c
theorem tW{vs:List Expr}:ak vs=true→ ¬vs.any cZ=true:=by
 induction vs with
 |nil=>exact fun u_ h=>bI h
 |cons _ _ ih=>exact fun h q=>(FU.mp q).elim (bh h).1 (ih (bh h).2)
theorem AQ{f:Expr→Bool}{g:Expr→Option Str}{ts vs:List Expr}{r:Option (List Str)}(hb:b=false)(hf:f=cZ)(hg:g=vW en ((ts.head?.map (·.pos.line)).getD 0))(h:wz en ts vs=some r):swB b f g ts vs=pure r:=by
 subst hb hf hg;refine eV h (fun c w=> ?_) fun c w=>(if_neg fun q=>c ((FX _).symm.trans q)).trans (bH w fun c w=>(if_neg (tW c)).trans (Bp w));obtain rfl:=H8 w;exact if_pos ((FX _).trans c)
theorem yn{ts vs:List Expr}{k':Nat}{p p':Pos}{r:Option (List Str)}{LG:Heap}(er:a_ LG ρ env en)(h:wz en ts vs=some r):swappedStores [.Tuple ts k p] (.Tuple vs k' p') env=pure r:=by
 have hb:(env.blockKind != .function)=false:=by unfold Env.blockKind;rw[er.kind];rfl
 have hk: ∀x,env.kindOf x=en.names.lookup x:=fun x=>by rw[←er.names];rfl
 refine(AQ hb (funext fun e=> ?_) (funext fun e=> ?_) h:swB _ _ _ ts vs=_)
 ·cases e<;>rfl
 ·cases e with
  |Name x q=>exact congrArg (fun o=>if(o==some NameKind.local&&q.line==(ts.head?.map (·.pos.line)).getD 0)=true then some x else none) (hk x)
  |_=>rfl
noncomputable def AF(e:Expr):Bool:=e.ctorIdx.beq 23||e.ctorIdx.beq 20||e.ctorIdx.beq 21
noncomputable def jb(en:En)(t e:Expr):Option (Option (List Str)):=match kf t with
 |some p=>match kf e with
  |some q=>wz en p.1.1 q.1.1
  |none=>some none
 |none=>if AF t=true then some none else none
theorem l0{t:Expr}{r:Option (List Str)}{LG:Heap}(er:a_ LG ρ env en)(h:jb en t e=some r):swappedStores [t] e env=pure r:=by
 unfold jb at h
 cases h1:kf t with
 |some p=>
  rw[h1]at h;obtain⟨p,rfl⟩:=p
  cases h2:kf e with
  |some q=>
   rw[h2]at h;obtain⟨q,rfl⟩:=q;exact yn er h
  |none=>
   rw[h2]at h
   cases h
   cases e<;>first|rfl|exact Cm h2
 |none=>
  rw[h1]at h;refine bH h fun hp w=> ?_
  cases w
  cases t<;>first|rfl|exact bI hp|exact Cm h1
noncomputable def q_:En→List Str→List V→Option En
 |en,[],l=>match l with
  |[]=>some en
  |_::_=>none
 |en,n::ns,l=>match l with
  |[]=>none
  |y::ys=>if bF en n=true then q_ (en.set n y) ns ys else none
theorem pB{ns:List Str}: ∀{en en':En} {ρ:Pl} {s:Shared} {l:List V} {vs:List Value} {Q:Unit→Shared→Prop} {E:Value→Shared→Prop},q_ en ns l=some en'→At c A env en ρ σ s d→Rs s.heap ρ l vs→
 (∀J3 s',bn c env ρ s J3 σ s'→a_ s'.heap J3 env en'→Q () s')→H9 (model c.prog c.w) A (assignInOrder (ns.map fun n=>bindName env n) vs) Q E s:=by
 induction ns with
 |nil=>
  intro en en' ρ s l vs Q E e a r h
  cases l with
  |cons=>exact no e
  |nil=>obtain rfl:=H8 e;cases r using Rs.nilE;exact assignInOrder_nil (h _ _ ((af.refl a.st a.gd).toS a.st a.er) a.er)
 |cons n ns ih=>
  intro en en' ρ s l vs Q E e a r h
  cases l with
  |nil=>exact no e
  |cons y ys=>
   refine bH e fun hx w=> ?_
   cases r using Rs.consE with
   |cons r rs=>exact assignInOrder_cons (bindName_ (dG a (cM hx) r fun s' S er'=>ih w (a.stepS S er') (ad.Rs a.er.own S.st rs) fun Kl J8 J7 KZ=>h _ _ (S.trans J7) KZ))
variable (c)in
noncomputable def gZ(f:fL)(en:En)(σ:Sg)(t e:Expr):Option aJ:=if cg e=true then(jb en t e).bind fun r=>match r with
 |none=>bR en (f en σ e) fun y J1=>(eH c f 8 t en J1 y).map fun p=> .ok .next p.1 p.2
 |some names=>bR en (f en σ e) fun y J1=>(eG y).bind fun l=>if l.length=names.length then(q_ en names.reverse l.reverse).map fun en'=> .ok .next en' J1 else none
 else none
theorem og{t:Expr}(h:cg e=true):swapsWithSole [t] e n env=pure false:=oU h
theorem tZ{t:Expr}(h:jb en t e=some none):(assignEach [t] env).map (·.2)=[assign t env]:=by
 cases t<;>first|rfl|exact no h
theorem mB{t:Expr}{o:aJ}(hf:bE c d f)(h:gZ c f en σ t e=some o)(a:At c A env en ρ σ s d):eC c A (exec (.Assign [t] e pos) env) env ρ s o:=by
 refine oA (iq h) fun hc h=> ?_;show H9 _ _ _ _ _ _;rw[exec_Assign];refine H_ (Il ?_);rw[og hc];refine H_ (H' ?_)
 refine bU (by exact FT) ?_
 refine ae h fun r hsw h=> ?_
 cases r with
 |none=>
  refine H_ (aq.thenS a ((af.refl a.st a.gd).toS a.st a.er) h (fun o' q=>hf q a) fun y J2 v J5 Kd J4 Ke J' J9 KB=> ?_);refine aM J9 fun p hg w=> ?_;subst w;rw[l0 a.er hsw];refine H_ (H' ?_);rw[tZ hsw];unfold assignStores;exact H_ (pd hf 8 hg Ke J' fun Kl J8 J7 KZ=>H' ⟨Kl,J4.trans J7,KZ,.next⟩)
 |some names=>
  refine H_ (aq.thenS a ((af.refl a.st a.gd).toS a.st a.er) h (fun o' q=>hf q a) fun y J2 v J5 Kd J4 Ke J' J9 KB=> ?_);refine ae J9 fun l hl w=>bH w fun hlen w=>aM w fun en' hg w=> ?_;subst w;obtain rfl:=eo hl;rw[l0 a.er hsw];refine H_ (H' ?_);unfold assignStores;refine H_ (Ie ?_)
  cases id J' with
  | @tup _ ta vs m h1 f1 rs=>
  have hn:names.length=vs.toArray.size:=hlen.symm.trans rs.length;rw[hn];refine H_ (bu (unpackItems_tuple Ke.room.hand (cJ h1) fun h' he hz=> ?_))
  have J7:af c Kd J5 Kd J2 {J5 with heap:=h',toks:=J5.toks}:=af.keeps Ke.ok Ke.st Ke.gd (fun b o eb=>he b o (fun q=>absurd (JI eb) (by rw[q];exact HI _)) eb) hz
  exact H_ (pB hg (Ke.step J7) (J7.Rs rs).reverse fun KR Kv Kg K9=>H' ⟨KR,(J4.trans (J7.toS Ke.st Ke.er)).trans Kg,K9,.next⟩)
noncomputable abbrev jz(cls:String)(t:Addr):Obj:={cls:= .type cls,data:= .fields #[.ref t,.none,.none,.none,.bool false,.none]}
theorem af.thrown{t:Nat}{e tt:Addr}{cls:String}(ok:c.Ok)(st:aO c ρ σ s.heap)(g:Gd c s.heap)(k: ∀b o,s.heap.get? b=some o→h'.get? b=some o)(he:h'.get? e=some (jz cls tt))(hn:s.heap.objs.size≤e)(hz:s.heap.objs.size≤h'.objs.size):
 af c ρ s ⟨ρ.r,e::ρ.p⟩ σ {s with heap:=h',toks:=t}∧fZ h' ⟨ρ.r,e::ρ.p⟩ s.heap.objs.size cls (.ref e):=by
 refine⟨ad.write ok st g (by exact GH _) (fun b o u_ q=>k b o q) hz (fun a m=> ?_) (fun a m=> .tail _ m),e,_,_,rfl,he,rfl,rfl,hn,.head _,.inl rfl⟩
 rcases Gp.mp m with rfl|q
 ·exact .inr ⟨hn,JI he⟩
 ·exact .inl q
theorem s_{cls:String}(hp:PlainExc cls)
 (h: ∀h' e t,(∀b o,s.heap.get? b=some o→h'.get? b=some o)→h'.get? e=some (jz cls t)→s.heap.objs.size≤e→s.heap.objs.size≤h'.objs.size→Q (.ref e) {s with heap:=h'}):H9 M A (newExc (.type cls) []) Q E s:=by
 unfold newExc newTuple
 change let K0:=_;let Q0:=_;H9 _ _ (_>>=K0) Q0 _ _;intros
 refine H_ (Ig ?_ (by exact HD _))
 refine H_ (m:=firstArgMember _ _) (Ih (a:=JY) (by simp only[firstArgMember,hp.first];rfl) ?_)
 rw[hp.own]
 refine Ig ?_ (by size_fits)
 exact h _ _ _ (fun b o q=>JG _ (JG _ q)) (JF _ rfl) (by rw[JH];exact Hz _) (by rw[JH,JH];exact HA _ 2)
noncomputable def kI(g:lf)(en:En)(σ:Sg)(test:Expr):Option aJ:=bR en (g en σ test) fun b J1=>if b then some (.ok .next en J1)else some (.exc "AssertionError" en J1)
theorem qH{g:lf}{o:aJ}(hg:eK c d g)(h:kI g en σ test=some o)(a:At c A env en ρ σ s d):eC c A (exec (.Assert test none pos) env) env ρ s o:=by
 show H9 _ _ _ _ _ _;rw[arm_exec_Assert];refine H_ (Il (H_ (aq.thenS a ((af.refl a.st a.gd).toS a.st a.er) h (fun o' q=>hg q a) fun b J2 v J5 Kd J4 Ke J' J9 KB=> ?_)))
 cases J'
 cases b with
 |true=>
  obtain rfl:=H8 J9;exact H' ⟨Kd,J4,Ke.er,.next⟩
 |false=>
  obtain rfl:=H8 J9;simp only[FV,if_false];unfold assertFails valueOfOpt;refine H_ (H' ?_);refine H_ (Il ?_);refine H_ (Ie ?_);refine H_ (s_ plainExc_AssertionError fun h' e t k he hn hz=>wpAny_raiseNew_none a.room.hand ?_);refine oA (af.thrown (t:=J5.toks) a.ok Ke.st Ke.gd k he hn hz) fun J7 f=> ?_;exact⟨_,J4.trans (J7.toS Ke.st Ke.er),J7.env Ke.st Ke.er,f.mono J4.st.rest.hsize⟩
theorem oS{cls initId:String}(F:ExcCallFacts cls newId initId){Q:Fin→Shared→Prop}{hp:Heap}{g:Array GenState}{dr:Drawn}{tk:Nat}{os:OsState}
 (h: ∀h' e t,(∀b o,hp.get? b=some o→h'.get? b=some o)→h'.get? e=some (jz cls t)→hp.objs.size≤e→hp.objs.size≤h'.objs.size→Q (.done (.ret (.ref e))) ⟨h',g,dr,tk,os⟩):
 H9 (model c.prog c.w) A (Builtin.«type.__call__» ⟨[.type cls,v],[]⟩) Q E ⟨hp,g,dr,tk,os⟩:=by
 have hnt:=F.notType;have hcan:=F.canMake;have hchk:=F.noVector ⟨[v],[]⟩;refine aK F.mro fun m hmro hne=> ?_;have hmade:=F.madeBy
 wp_walk
 refine codeAny_call_builtin_code (Jj _ F.quiet) (Ih (F.newOk [v]) ?_)
 refine codeAny_exc_new F.toExcNewFacts ?_ (by size_fits)
 show H9 _ _ _ _ _ _
 have hget:((hp.push {cls:= .type "tuple",data:= .seq [v].toArray}).push (jz cls hp.objs.size)).get? (hp.objs.size+1)=some (jz cls hp.objs.size):=by heap_get
 refine H_ (IC ⟨_,hget,rfl⟩ F.sub ?_)
 wp_step
 refine H_ (Ic (Im ⟨_,hget,rfl⟩ F.init (ID (IT F.init.plain F.initEntry (wpAny_check_exc_init F ⟨_,hget,rfl⟩ ?_)))))
 wp_walk
 refine h _ _ (hp.objs.size+2) (fun b o hb=> ?_) ?_ (Hz _) ?_
 ·rw[JM _ _ (HJ (HP (JI hb)))];exact JG _ (JG _ (JG _ hb))
 ·rw[JJ _ (JG _ hget) rfl];simp only[JH];rfl
 ·rw[JL];simp only[JH];exact HA _ 3
theorem qz{cls initId:String}(F:ExcCallFacts cls newId initId)
 (h: ∀h' e t,(∀b o,s.heap.get? b=some o→h'.get? b=some o)→h'.get? e=some (jz cls t)→s.heap.objs.size≤e→s.heap.objs.size≤h'.objs.size→Q (.ref e) {s with heap:=h'}):
 H9 (model c.prog c.w) A (call (.type cls) [v]) Q E s:=by
 obtain⟨hp,g,dr,tk,os⟩:=s;refine ID (IQ ?_);show H9 _ _ (again (.builtin "type.__call__" ⟨[.type cls,v],[]⟩)) _ _ _
 exact H' ⟨Jj _ (by decide+kernel),Ii entry_typeCall (oS F h)⟩
noncomputable def uR(c:Cx)(f:fL)(en:En)(σ:Sg)(x:Str)(e:Expr):Option aJ:=(aP c en x).bind fun y=>(kr y).bind fun v=>(rD v).bind fun T=>if T="ValueError"∧ak [e]=true then bR en (f en σ e) fun u_ J1=>some (.exc T en J1)else none
theorem ui{x:Str}{np cpos:Pos}{o:aJ}(hf:bE c d f)(h:uR c f en σ x e=some o)(a:At c A env en ρ σ s d):
 eC c A (exec (.Raise (some (.Call (.Name x np) [e] [] cpos)) none pos) env) env ρ s o:=by
 refine ae h fun y hx Kc=>ae Kc fun v hv Kx=>ae Kx fun T hT K'=>bH K' fun hT' KL=> ?_;clear h Kc Kx K';obtain rfl:=ik hv;obtain rfl:=wq hT;obtain⟨rfl,hns⟩:=hT'
 have hstar:=gc (e:=e) (es:=[]) (env:=env) (fun y p q=>eu hns y p (by rw[q];exact .head _))
 refine wpAny_Raise_made PySem.F.excRaise_ValueError a.room.hand (wpAny_Call_ofName (aq.go (gP (A:=A) (pos:=np) a.ok a.st a.gd a.er hx) (fun y KA q Lp Ka Kj Ko Kt=> ?_) (fun u_ u_ q=>by exact iO q)))
 refine jD q fun zz1 zz2=> ?_;subst zz1;subst zz2;obtain rfl:=Kt.valQ;have KO:=a.step Ko;have hpl:=f8 (env:=env) (pos:=cpos) (eu hns);refine callWith_excType hpl (iT hpl rfl ?_);refine II (aq.thenS KO (Ko.toS a.st a.er) KL (fun o' q=>hf q KO) fun y J2 v J5 Kd J4 Ke J' J9 KB=>IN ?_) hstar;obtain rfl:=H8 J9;refine H' (a:=[]) ?_;refine qz PySem.F.excCall_ValueError fun h' e t k he hn hz=> ?_;obtain⟨J7,f⟩:=af.thrown (t:=J5.toks) a.ok Ke.st Ke.gd k he hn hz;exact⟨e,t,rfl,he,_,J4.trans (J7.toS Ke.st Ke.er),J7.env Ke.st Ke.er,f.mono J4.st.rest.hsize⟩
theorem lZ{cls:String}{e:Value}{Q:Unit→Shared→Prop}(ok:c.Ok)(st:aO c ρ σ s.heap)(g:Gd c s.heap)(fl:fZ s.heap ρ n cls e)
 (h: ∀D s',(∀a∈D,a∈ρ.p∧n≤a∧ ∃o vs,s.heap.get? a=some o∧o.data= .fields vs)→ad c D ρ s ρ σ s'→Q () s'):H9 (model c.prog c.w) A (setFlight e none) Q E s:=by
 refine f_ fl fun a oa vs zz3 ha hc hd na ap h1=> ?_;subst zz3;unfold setFlight
 rcases h1 with h1|⟨T,oT,ts,h1,nT,Tp,hTa,hT,hdT,h3⟩
 ·refine H_ (Ib ha hd h1 ?_)
  refine bU (by decide) ?_
  exact H' (h [] s (by simp) (ad.refl st g))
 ·refine H_ (Ib ha hd h1 ?_)
  refine c_ ((show(JX T !=JY)=true from by simp)) ?_
  refine Iw hT hdT (FP.mp h3).1 ?_
  exact h [T] _ (by simp only[Gn,forall_eq];exact⟨Tp,nT,oT,ts,hT,hdT⟩) (ad.same (t:=s.toks) ok st g Tp (JN ..))
theorem iZ{D:List Addr}(k: ∀a∈D,a∈ρ.p∧n≤a∧ ∃o vs,h.get? a=some o∧o.data= .fields vs):aU h D:=fun a m=>by
 refine AH (k a m) fun u_ u_ o vs ho hd=> ?_
 exact⟨o,ho,by unfold db;rw[hd]⟩
noncomputable def zH:V→Option Value:=kr
theorem A0(e:zH x=some v):x= .val v:=ik e
noncomputable def DN(e:Expr):Option {p:Expr×Expr×Nat×Pos//e= .Tuple [p.1,p.2.1] p.2.2.1 p.2.2.2}:=(kf e).bind fun p=>match p with
 |⟨([x,y],k,p),h⟩=>some ⟨(x,y,k,p),h⟩
 |_=>none
noncomputable def EP:(l:List ExceptHandler)→Option {p:Expr×Const×Nat×Pos×Pos×Pos//l=[.ExceptHandler (some p.1) none [.Return (some (.Constant p.2.1 p.2.2.1 p.2.2.2.1)) p.2.2.2.2.1] p.2.2.2.2.2]}
 |[.ExceptHandler (some t) none [s] hp]=>(FD s).bind fun r=>match r with
  |⟨(some e,rp),h⟩=>(Bu e).map fun k=>⟨(t,k.1.1,k.1.2.1,k.1.2.2,rp,hp),congrArg (fun s:Stmt=>[ExceptHandler.ExceptHandler (some t) none [s] hp]) (h.trans (congrArg (fun e:Expr=>Stmt.Return (some e) rp) k.2))⟩
  |_=>none
 |_=>none
noncomputable def qU(T:String):Bool:=subB T (.type "BaseException")==some true&&subB ((Manifest.find? T).elim "type" fun x=>x.metatype) (.type "tuple")==some false
theorem hO(h:qU T=true):isSubtype (.type T) (.type "BaseException")=pure true∧isSubtype (.type ((Manifest.find? T).elim "type" fun x=>x.metatype)) (.type "tuple")=pure false:=by
 simp only[qU,FS,beq_iff_eq]at h;exact⟨isSubtype_of_subB h.1,isSubtype_of_subB h.2⟩
variable (c)in
noncomputable def ot(en:En)(x:Str):Option String:=(aP c en x).bind fun y=>(zH y).bind fun v=>(rD v).bind fun T=>if qU T=true then some T else none
theorem eg{x:Str}(h:ot c en x=some T):aP c en x=some (.val (.type T))∧qU T=true:=
 ae h fun y hy w=>ae w fun v hv w=>ae w fun T' hT w=>bH w fun he w'=>by
  obtain rfl:=A0 hv;obtain rfl:=wq hT;obtain rfl:=H8 w';exact⟨hy,he⟩
variable (c)in
noncomputable def eR(en:En)(t:Expr)(cls:String):Bool:=
 ((im t).any fun p=>(ot c en p.1.1).any fun T=>subB cls (.type T)==some true)||
 ((DN t).any fun p=>(im p.1.1).any fun q=>(im p.1.2.1).any fun r=>(ot c en q.1.1).any fun T1=>(ot c en r.1.1).any fun T2=>subB2 cls T1 T2==some true)
theorem yo{x y x' y':Expr}{p:Pos}(h1:x=x')(h2:y=y'):Expr.Tuple [x,y] k p= .Tuple [x',y'] k p:=by rw[h1,h2]
theorem wD{t:Expr}{cls:String}(h:eR c en t cls=true)(k1: ∀x p T,t= .Name x p→aP c en x=some (.val (.type T))→qU T=true→subB cls (.type T)=some true→P)
 (k2: ∀x1 p1 x2 p2 k p T1 T2,t= .Tuple [.Name x1 p1,.Name x2 p2] k p→aP c en x1=some (.val (.type T1))→qU T1=true→aP c en x2=some (.val (.type T2))→qU T2=true→subB2 cls T1 T2=some true→P):P:=
 (FU.mp h).elim
  (fun h=>jR h fun p u_ h=>jR h fun T hT h=>k1 _ _ T p.2 (eg hT).1 (eg hT).2 (beq_iff_eq.mp h))
  (fun h=>jR h fun p u_ h=>jR h fun q u_ h=>jR h fun r u_ h=>jR h fun T1 h1 h=>jR h fun T2 h2 h=>k2 _ _ _ _ _ _ T1 T2 (p.2.trans (yo q.2 r.2)) (eg h1).1 (eg h1).2 (eg h2).1 (eg h2).2 (beq_iff_eq.mp h))
theorem lL{x:Str}(ok:c.Ok)(st:aO c ρ σ s.heap)(g:Gd c s.heap)(er:a_ s.heap ρ env en)(e:aP c en x=some (.val (.type T)))
 (h: ∀J3 s',af c ρ s J3 σ s'→Q (.type T) s'):H9 (model c.prog c.w) A (eval (.Name x pos) env) Q E s:=by
 refine aq.go (gP (A:=A) (pos:=pos) ok st g er e) (fun y KA q Lp Ka Kj Ko Kt=> ?_) (fun u_ u_ q=>by exact iO q)
 refine jD q fun zz1 zz2=> ?_;subst zz1;subst zz2;obtain rfl:=Kt.valQ;exact h _ _ Ko
theorem fZ.step{cls:String}{e:Value}(st:aO c ρ σ s.heap)(S:af c ρ s J3 J1 s')(f:fZ s.heap ρ n cls e):fZ s'.heap J3 n cls e:=by
 refine f_ f fun x oe vs zz3 h2 h3 h4 h5 h6 h7=> ?_;subst zz3
 have keep: ∀{z:Addr} {o:Obj} {ws:Array Value},z∈ρ.p→s.heap.get? z=some o→o.data= .fields ws→ ∃(o':Obj) (ws':Array Value),s'.heap.get? z=some o'∧o'.cls=o.cls∧o'.data= .fields ws'∧ ∀(i:Nat) (v:Value),ws[i]? =some v→ws'[i]? =some v:=by
  intro z o ws hz hg hdz
  refine aK (S.ext z o (fun q=>st.disj _ hz (by simpa using q)) hg) fun o' ho' q=> ?_
  rcases q with rfl|⟨_,⟨es,ep,dd⟩,_⟩|⟨_,hcl,ws₀,more,d1,rfl⟩
  ·exact⟨_,ws,ho',rfl,hdz,fun u_ u_ q=>q⟩
  ·rw[hdz]at dd;cases dd
  ·rw[hdz]at d1;cases d1
   exact⟨_,_,ho',rfl,rfl,fun i v q=>by rw[Array.getElem?_append_left (FP.mp q).1];exact q⟩
 refine bS (keep h6 h2 h4) fun o' ws' k1 k2 k3 k4=> ?_;refine⟨x,o',ws',rfl,k1,k2.trans h3,k3,h5,S.pold _ h6,?_⟩
 rcases h7 with q|⟨T,oT,ts,q1,q2,q3,q4,q5,q6,q7⟩
 ·exact .inl (k4 _ _ q)
 ·refine bS (keep q3 q5 q6) fun oT' ts' j1 j2 j3 j4=> ?_;exact .inr ⟨T,oT',ts',k4 _ _ q1,q2,S.pold _ q3,q4,j1,j3,j4 _ _ q7⟩
theorem fZ.type{h:Heap}{cls:String}{x:Addr}(f:fZ s.heap ρ n cls (.ref x)):s.TypeIs (.ref x) cls:=by
 refine ji f fun x' o' ws' q k1 k2 u_=> ?_
 cases q
 exact⟨_,k1,k2⟩
theorem qb{t:Expr}{cls:String}{ex:Value}{LH:Stmt}{suite:List Stmt}{hp:Pos}{rest:List ExceptHandler}{Q:Flow→Shared→Prop}(hc:eR c en t cls=true)(Ko:bn c env Kj Ka ρ σ s)(a:At c A env en ρ σ s d)
 (fl:fZ s.heap ρ Ka.heap.objs.size cls ex)
 (h: ∀A' E' J3 s',bn c env Kj Ka J3 σ s'→aO c J3 σ s'.heap→Gd c s'.heap→a_ s'.heap J3 env en→H9 (model c.prog c.w) A' (execs (LH::suite) env) Q E' s'):
 H9 (model c.prog c.w) A (handleBy ex env (.ExceptHandler (some t) none (LH::suite) hp::rest)) Q E s:=by
 refine lz (id fl) fun x oe vs zz3 fl'=> ?_;subst zz3;have lt {Kd J5} (J4:af c ρ s Kd σ J5):J5.TypeIs (.ref x) cls:=(fl.step a.st J4).type (h:=J5.heap);have lw {A':Around} {E':Value→Shared→Prop} {Kd:Pl} {J5:Shared} (J4:af c ρ s Kd σ J5):H9 (model c.prog c.w) A' (setFlight (.ref x) none) (fun u_ J8=>H9 (model c.prog c.w) A' (execs (LH::suite) env) Q E' J8) E' J5:=
  lZ a.ok J4.sto J4.gd (fl.step a.st J4) fun D J8 hD J7=>
   have Lb:=J4.env a.st a.er
   h A' E' Kd J8 ((Ko.trans (J4.toS a.st a.er)).plain J4.sto Lb (iZ hD) J7 fun b m=>(hD b m).2.1) J7.sto J7.gd (Lb.monoI J4.sto (fun b m=>(hD b m).1) J7 (iZ hD))
 refine wD hc (fun y p T e t1 t2 t5=> ?_) fun x1 p1 x2 p2 k p T1 T2 e t1 t2 u1 u2 t5=> ?_
 ·subst e;refine wpAny_handleBy_builtin (X:=cls) (T:=T) (b:=true) (hO t2).1 (hO t2).2 (isSubtype_of_subB t5) ?_
  exact lL a.ok a.st a.gd a.er t1 fun Kd J5 J4=>⟨rfl,lt J4,by rw[if_pos rfl];exact lw J4⟩
 ·subst e;refine dy (subB2_some t5) fun b1 b2 j1 j2 hb=> ?_;refine wpAny_handleBy_tup2 (X:=cls) (T1:=T1) (T2:=T2) (hO t2).1 (hO t2).2 (hO u2).1 (hO u2).2 (isSubtype_of_subB j1) (isSubtype_of_subB j2) ?_;refine wpAny_Tuple (II (lL a.ok a.st a.gd a.er t1 fun Kd J5 J4=>II (lL a.ok J4.sto J4.gd (J4.env a.st a.er) u1 fun Kl J8 J7=>IN ?_)))
  have Kg:af c Kl J8 Kl σ {J8 with heap:=J8.heap.push (am [.type T1,.type T2] 0)}:=af.push (t:=J8.toks) a.ok J7.sto J7.gd
  exact⟨(by decide:2≤sizeLine),_,rfl,cJ (JF _ rfl),lt ((J4.trans J7).trans Kg),by rw[if_pos hb];exact lw ((J4.trans J7).trans Kg)⟩
noncomputable def rV(o:Option aJ)(f:String→En→Sg→Option aJ):Option aJ:=o.bind fun so=>match so with
 | .ok fl en σ=>some (.ok fl en σ)
 | .exc cls en σ=>f cls en σ
variable (c)in
noncomputable def re(fs:ei)(en:En)(σ:Sg)(body:List Stmt)(handlers:List ExceptHandler):Option aJ:=(EP handlers).bind fun p=>
 rV (fs en σ body) fun cls en' J1=>if eR c en' p.1.1 cls=true then(nL p.1.2.1).map fun y=> .ok (.ret y) en' J1 else none
theorem Ft{fs:ei}{handlers:List ExceptHandler}{o:aJ}(h:re c fs en σ body handlers=some o)
 (k: ∀t k kn kp rp hp so,handlers=[.ExceptHandler (some t) none [.Return (some (.Constant k kn kp)) rp] hp]→fs en σ body=some so→
  rV (some so) (fun cls en' J1=>if eR c en' t cls=true then(nL k).map fun y=> .ok (.ret y) en' J1 else none)=some o→P):P:=
 ae h fun p u_ h=>ae h fun so hb h=>k _ _ _ _ _ _ so p.2 hb h
theorem zk{fs:ei}{handlers:List ExceptHandler}{o:aJ}(hs:gi c d fs)(h:re c fs en σ body handlers=some o)(a:At c A env en ρ σ s d)(tp:oI A env):eC c A (exec (.Try body handlers [] [] pos) env) env ρ s o:=by
 refine Ft h fun t k kn kp rp hp so e hb h=> ?_;subst e;refine wpAny_Try_except ?_
 cases so with
 |ok fl en' J1=>
  obtain rfl:=H8 h;refine Ia (hs hb a tp) (fun f J5 p=> ?_) fun ex J5 p=>p.elim
  cases f with
  |next=>exact wpAny_execs_nil p
  |_=>exact p
 |exc cls en' J1=>
 refine bH h fun hc h=>aM h fun y hy h=> ?_;subst h;refine Ia (hs hb a tp) (fun f J5 p=>p.elim) fun ex J5 p=> ?_;refine cz p fun Kd J4 Lb fl=> ?_;have Ke:=a.stepS J4 Lb;refine oE tp fun outer hfr=> ?_;refine aK Ke.room.frames fun l hl ff=> ?_;rw[hfr]at hl;obtain rfl:=H8 hl;refine bc ((ff env (.head _)).2) fun L oL hf u_=> ?_;refine gu a.ok Ke.st Ke.gd hfr hf ff fl fun D Kl J8 hD J7 Ly=> ?_;have Ku:=Ke.plain (fun b m=>(hD b m).1) (iZ hD) J7;have KM:=J4.plain Ke.st Lb (iZ hD) J7 fun b m=>(hD b m).2.1;refine qb hc KM Ku Ly fun A' E' KR Kv Ld LI LF K9=> ?_
 refine wpAny_execs_cons (wpAny_Return_some (aq.go (lQ LI LF hy) (fun z KA q Lp K6 KW Kr Lz=> ?_) (fun u_ u_ q=>by exact iO q)))
 refine jD q fun zz1 zz2=> ?_;subst zz1;subst zz2;exact⟨KW,Ld.trans (Kr.toS LI K9),Kr.env LI K9,.ret Lz⟩
section
variable {r P P':List Addr}
theorem Pl.Le.less(k: ∀a∈P,a∈P'):Pl.Le h ⟨r,P'⟩ ⟨r,P⟩:=⟨Gu _,fun a o f u_=>⟨f.1,fun m=>f.2 (k a m)⟩⟩
theorem R.less(c:Cx)(k: ∀a∈P,a∈P')(x:R h ⟨r,P'⟩ y v):R h ⟨r,P⟩ y v:=R.mono (c:=c) (S:=[]) (Pl.Off.nil _) (d9.refl [] h) (Pl.Le.less k) x
theorem jV.less(c:Cx)(k: ∀a∈P,a∈P'){y:Option V}{v:Option Value}(x:jV h ⟨r,P'⟩ y v):jV h ⟨r,P⟩ y v:=jV.mono (c:=c) (S:=[]) (Pl.Off.nil _) (d9.refl [] h) (Pl.Le.less k) x
theorem dh.less(c:Cx)(k: ∀a∈P,a∈P'){f:Value}(x:dh h ⟨r,P'⟩ f):dh h ⟨r,P⟩ f:=dh.mono (c:=c) (S:=[]) (Pl.Off.nil _) (d9.refl [] h) (Pl.Le.less k) x
theorem bB.lessB(c:Cx)(k: ∀a∈P,a∈P'):(∀{t I a},bB h ⟨r,P'⟩ t I a→(∀x∈I,x∈P)→bB h ⟨r,P⟩ t I a)∧(∀{ts I as},bC h ⟨r,P'⟩ ts I as→(∀x∈I,x∈P)→bC h ⟨r,P⟩ ts I as):=
 bB.both (P:=fun t I a=>(∀x∈I,x∈P)→bB h ⟨r,P⟩ t I a) (Q:=fun ts I as=>(∀x∈I,x∈P)→bC h ⟨r,P⟩ ts I as)
  (fun e x u_ i=> .seq e (x.less c k) (i _ (.head _))) (fun e x u_ i=> .lst e x (i _ (.head _))) (fun e u_ i=> .rng e (i _ (.head _))) (fun e x u_ i=> .revl e x (i _ (.head _))) (fun e x u_ i=> .revt e (x.less c k) (i _ (.head _)))
  (fun e1 H e2 e3 l u_ ts u_ u_ u_ n1 n2 n3 n4 n5 n6 i=> .zip e1 (H.less c k) e2 e3 l (ts fun x m=>i x (.tail _ (.tail _ (.tail _ m)))) (i _ (.head _)) (i _ (.tail _ (.head _))) (i _ (.tail _ (.tail _ (.head _)))) n1 n2 n3 n4 n5 n6)
  (fun e H u_ t u_ n i=> .enum e (H.less c k) (t fun x m=>i x (.tail _ m)) (i _ (.head _)) n) (fun u_=> .nil)
  fun u_ t u_ ts n i=> .cons (t fun x m=>i x (GJ _ m)) (ts fun x m=>i x (GS _ m)) n
theorem bB.less(c:Cx)(k: ∀a∈P,a∈P')(i: ∀x∈I,x∈P)(x:bB h ⟨r,P'⟩ t I a):bB h ⟨r,P⟩ t I a:=(bB.lessB c k).1 x i
theorem aO.less(k: ∀a∈P,a∈P')(x:aO c ⟨r,P'⟩ σ h):aO c ⟨r,P⟩ σ h where
 nodup:=x.nodup
 len:=x.len
 at_:=fun i a l h1 h2=>(x.at_ i a l h1 h2).mono (c:=c) (S:=[]) (Pl.Off.nil _) (d9.refl [] h) (Pl.Le.less k) (by exact GD)
 low:=x.low
 plow:=fun a m=>x.plow a (k a m)
 disj:=fun a m=>x.disj a (k a m)
theorem ad.less{D:List Addr}(k: ∀a∈P,a∈P')(KS: ∀a∈Kj.p,a∈P)(x:ad c D Kj Ka ⟨r,P'⟩ σ s):ad c D Kj Ka ⟨r,P⟩ σ s:=
 ⟨x.pre,x.new,fun a m=>x.pnew a (k a m),KS,x.sto.less k,x.ext,x.rest,x.gd⟩
theorem a_.less(c:Cx)(k: ∀a∈P,a∈P')(nc: ∀x,en.names.lookup x≠some .cell)(ho:env.locals∈P)(x:a_ h ⟨r,P'⟩ env en):a_ h ⟨r,P⟩ env en where
 kind:=x.kind
 names:=x.names
 gl:=x.gl
 bi:=x.bi
 lo:=aK x.lo fun m n q=>⟨m,n,fun y hy=>(q y hy).less c k⟩
 ce:=fun y hy=>absurd hy (nc y)
 fr:=fun y hy=>dy (x.fr y hy) fun a w h1 h2 h3=>⟨a,w,h1,h2,h3.less c k⟩
 out:=ho
 ap:=x.ap
 cd:=x.cd
theorem At.less{Ln:En}(k: ∀a∈P,a∈P')(nc: ∀x,en.names.lookup x≠some .cell)(KO:At c A env Ln ⟨Kt,P⟩ KA Ka d)(x:At c A env en ⟨r,P'⟩ σ s d):At c A env en ⟨r,P⟩ σ s d:=by
 refine⟨x.ok,x.st.less k,x.gd,x.er.less c k nc KO.er.out,⟨x.room.hand,x.room.depth,x.room.units,?_⟩⟩;refine aK x.room.frames fun l hl ff=> ?_;refine aK KO.room.frames fun l₀ LX ff₀=> ?_;rw[hl]at LX;obtain rfl:=H8 LX;refine⟨l,hl,fun e m=> ?_⟩;refine lK (ff e m) fun h1 L o h2 h3 h4 h5 h6=> ?_;refine lU (ff₀ e m) fun u_ L₀ o₀ g2 g3 u_=> ?_;rw[h2]at g2;obtain rfl:=H8 g2;exact⟨h1,L,o,h2,g3,h4,h5,h6⟩
end
theorem ad.gens{D:List Addr}{gs:Array GenState}(x:ad c D Kj Ka ρ σ s)(h1:Ka.gens.size≤gs.size)(h2: ∀i,i<Ka.gens.size→gs[i]? =Ka.gens[i]?)(h3:(∀x∈Ka.gens,x.bare=true)→ ∀x∈gs,x.bare=true):
 ad c D Kj Ka ρ σ {s with gens:=gs}:=⟨x.pre,x.new,x.pnew,x.pold,x.sto,x.ext,⟨x.rest.drawn,x.rest.os,h1,h2,h3,x.rest.hsize⟩,x.gd⟩
theorem ad.setGen{D:List Addr}{g:Nat}(x:ad c D Kj Ka ρ σ s)(hg:Ka.gens.size≤g)(hb:gs.bare=true):ad c D Kj Ka ρ σ (s.setGen g gs):=by
 refine x.gens (gs:=(s.setGen g gs).gens) ?_ (fun i hi=> ?_) fun h=> ?_
 ·show _≤(s.gens.setIfInBounds g gs).size;rw[Array.size_setIfInBounds];exact x.rest.gsize
 ·show(s.gens.setIfInBounds g gs)[i]? =_
  rw[Array.getElem?_setIfInBounds_ne (by omega)]
  exact x.rest.gold i hi
 ·intro y hy;have h':=x.rest.bare h;obtain⟨i,hi,rfl⟩:=Array.mem_iff_getElem.mp hy
  have hi':i<s.gens.size:=by simpa [Shared.setGen]using hi
  by_cases q:g=i
  ·subst q
   have:(s.setGen g gs).gens[g]=gs:=by simp[Shared.setGen]
   rw[this];exact hb
  ·have:(s.setGen g gs).gens[i]=s.gens[i]:=by show(s.gens.setIfInBounds g gs)[i]=_;exact Array.getElem_setIfInBounds_ne hi' q
   rw[this];exact h' _ (Array.getElem_mem hi')
theorem At.setGen{g:Nat}(a:At c A env en ρ σ s d):At c A env en ρ σ (s.setGen g gs) d:=⟨a.ok,a.st,a.gd,a.er,a.room⟩
noncomputable def mJ(g:uv)(tr:lf)(f:fL)(target:Expr)(ifs:List Expr)(elt:Expr):Nat→En→Sg→It→Option (Option (V×En×It)×Sg)
 |0,_,_,_=>none
 |n+1,en,σ,t=>(aw σ t).bind fun r=>match r with
  |none=>some (none,σ)
  |some p=>(g target en σ p.1).bind fun q=>(bL tr q.1 q.2 ifs).bind fun b=>match b.1 with
   |true=>(f q.1 b.2 elt).bind fun o=>(ut o).map fun y=>(some (y.1,q.1,p.2),y.2)
   |false=>mJ g tr f target ifs elt n q.1 b.2 p.2
theorem gnE{r:Option (V×En×It)×Sg}(e:mJ g tr f target ifs elt (n+1) en σ t=some r)(k0:aw σ t=some none→(none,σ)=r→P)
 (k1: ∀x t' Kf J2 J6 b,aw σ t=some (some (x,t'))→g target en σ x=some (Kf,J2)→bL tr Kf J2 ifs=some (b,J6)→(b=true→ ∃y Kn,f Kf J6 elt=some (.ok y Kn)∧(some (y,Kf,t'),Kn)=r)→(b=false→mJ g tr f target ifs elt n Kf J6 t'=some r)→P):P:=
 ae e fun z hn e=>by
  cases z with
  |none=>exact k0 hn (H8 e)
  |some p=>exact ae e fun q hg e=>ae e fun b ht e=>k1 _ _ _ _ b.2 b.1 hn hg ht (fun hb=>by
   rw[hb]at e
   exact ae e fun o ho e=>aM e fun y hy e=>⟨y.1,y.2,qu hy▸ho,e⟩) fun hb=>by rw[hb]at e;exact e
noncomputable abbrev yR:=En→Sg→It→Option (Option (V×En×It)×Sg)
noncomputable abbrev rN:=V×En×Sg×It
noncomputable def mZ(nx:yR):En→Sg→It→List rN→Option Sg→Prop
 |_,_,_,[],none=>True
 |en,σ,t,[],some J1=>nx en σ t=some (none,J1)
 |en,σ,t,(y,en',J1,t')::l,e=>nx en σ t=some (some (y,en',t'),J1)∧mZ nx en' J1 t' l e
theorem pt(hg: ∀t en σ y en' J1,g t en σ y=some (en',J1)→en'.names=en.names): ∀{en en':En} {σ J1:Sg} {l:List V},fK g es en σ l=some (en',J1)→en'.names=en.names:=by
 induction es with
 |nil=>intro en en' σ J1 l e;cases l with
  |nil=>cases H8 e;rfl
  |cons=>exact no e
 |cons t ts ih=>intro en en' σ J1 l e;cases l with
  |nil=>exact no e
  |cons y ys=>exact ae e fun p h1 w=>(ih w).trans (hg _ _ _ _ _ _ h1)
theorem mi(n:Nat): ∀t en σ y en' J1,di n t en σ y=some (en',J1)→en'.names=en.names:=by
 induction n with
 |zero=>intro t en σ y en' J1 e;exact no e
 |succ n ih=>
  intro t en σ y en' J1 e
  cases t with
  |Name x p=>exact bH (show(if(en.names.lookup x==some .local)=true then some (en.set x y,σ)else none)=some (en',J1)from e) fun u_ w=>by obtain⟨rfl,rfl⟩:=Prod.mk.inj (H8 w);rfl
  |Tuple es k p=>exact ae (show((eG y).bind fun l=>if ak es=true then fK (di n) es en σ l else none)=some (en',J1)from e) fun l hl w=>bH w fun u_ w=>pt ih w
  |_=>exact no e
end
variable {nx:yR}{pre rem:List rN}
section
variable {env:Env}{d:Nat}
set_option genInjectivity false in
structure gV where
 A₁:Around
 cenv:Env
 P:List Addr
 Ip:List Addr
 a:Addr
 ρc:Pl
 sc:Shared
 target:Expr
 elt:Expr
 iter:Expr
 ifs:List Expr
 scope:Scope
 pos:Pos
 d:Nat
 L:List rN
 e:Option Sg
noncomputable def gV.D(G:gV):List Addr:=G.cenv.locals::G.Ip
noncomputable def gV.X(G:gV):Expr:= .GeneratorExp G.elt [⟨G.target,G.iter,G.ifs,0⟩] G.scope G.pos
noncomputable def gV.code(G:gV):Code:= .compLoop G.X 0 (.ref G.a) .none G.cenv
noncomputable def gV.rnd(G:gV):Around:=G.A₁.over G.code []
variable (c)in
structure gC(G:gV)(r:List Addr)(en:En)(σ:Sg)(t:It)(s:Shared):Prop where
 step:af c G.ρc G.sc ⟨r,G.P⟩ σ s
 at_:At c G.rnd G.cenv en ⟨r,G.P⟩ σ s G.d
 itr:bB s.heap ⟨r,G.P⟩ t G.Ip G.a
variable (c)in
noncomputable def gY(G:gV):Protocol:=fun m Ka v s kap=> ∃pre y en σ t l',G.L=pre++(y,en,σ,t)::l'∧l'.length=m∧ ∃Kt r KA,aO c ⟨Kt,G.P⟩ KA Ka.heap∧ad c G.D ⟨Kt,G.P⟩ Ka ⟨r,G.P⟩ σ s∧gC c G r en σ t s∧R s.heap ⟨r,G.P⟩ y v∧
 ((l'≠[]∨G.e.isSome=true)→ ∀s'' r'',gC c G r'' en σ t s''→kap (.send .none) s'')
variable (c)in
noncomputable def gR(G:gV):GenEnd:=fun n Ka r s=>r= .ok .next∧(n=0∧ ∃J1,G.e=some J1∧ ∃Kt J' KA,aO c ⟨Kt,G.P⟩ KA Ka.heap∧ad c G.D ⟨Kt,G.P⟩ Ka ⟨J',G.P⟩ J1 s∧af c G.ρc G.sc ⟨J',G.P⟩ J1 s)
variable (c)in
noncomputable abbrev A2(G:gV)(n:Nat)(Ka:Shared)(t:Sem Fin)(s:Shared):Prop:=Seg (model c.prog c.w) G.A₁ (gR c G) (gY c G) n Ka G.code t [] s
structure oB(G:gV):Prop where
 ρP: ∀x∈G.ρc.p,x∈G.P
 ipP: ∀x∈G.Ip,x∈G.P
 newI: ∀b∈G.Ip,G.sc.heap.objs.size≤b
 newC:G.sc.heap.objs.size≤G.cenv.locals
 co:G.cenv.scope.isCoroutine=false
theorem qd{G:gV}(ok:oB G)(ht:eK c G.d tr)(hf:bE c G.d f){Ln:En}{res:Option (V×En×It)}(KO:At c G.rnd G.cenv Ln ⟨Kt,G.P⟩ KA Ka G.d)
 (hend:res=none→n=0∧G.e=some J1)
 (hyld: ∀y en' t',res=some (y,en',t')→ ∃m pre l',n=m+1∧G.L=pre++(y,en',J1,t')::l'∧l'.length=m∧((l'≠[]∨G.e.isSome=true)→ ∀s'' r'',gC c G r'' en' J1 t' s''→A2 c G m s'' ((model c.prog c.w).den G.code) s'')):
 ∀(fuel:Nat) {en:En} {σ:Sg} {t:It} {ρ:Pl} {s:Shared},mJ (di 8) tr f G.target G.ifs G.elt fuel en σ t=some (res,J1)→(∀x∈G.P,x∈ρ.p)→(∀x,en.names.lookup x≠some .cell)→ad c G.D ⟨Kt,G.P⟩ Ka ρ σ s→af c G.ρc G.sc ρ σ s→At c G.rnd G.cenv en ρ σ s G.d→bB s.heap ρ t G.Ip G.a→
  A2 c G n Ka ((model c.prog c.w).den G.code) s:=by
 intro fuel
 induction fuel with
 |zero=>intro en σ t ρ s e;exact no e
 |succ fuel ih=>
  intro en σ t ρ s e kP nc S T a i;have ip:=i.priv.1;have newI:=ok.newI;show Seg _ _ _ _ _ Ka _ ((compTurn (.GeneratorExp G.elt [⟨G.target,G.iter,G.ifs,0⟩] G.scope G.pos) 0 (.ref G.a) .none G.cenv).onRaise (leaving G.cenv)) [] s;rw[compTurn_gen,Sem.onRaise_eq_wrap];refine Io (Il ?_);have inD: ∀b∈G.Ip,b∈G.D:=fun b m=> .tail _ m;refine gnE e (fun hn e=> ?_) fun x t' Kf J2 J6 b hn KX htt ky kn=> ?_
  ·refine qY e fun q1 q2=> ?_;refine oA (hend q1.symm) fun zz0 he=> ?_;subst zz0;refine Io (It.pull0 a.room.hand a.ok a.st a.gd i hn fun J5 J4=> ?_);exact seg_end (.ok .next) ⟨rfl,rfl,σ,he.trans (congrArg some q2.symm),Kt,ρ.r,KA,KO.st,(S.trans (J4.wider inD)).less kP fun x m=>m,(T.fresh J4 newI).less kP ok.ρP⟩
  ·refine Io (It.pull a.room.hand a.ok a.st a.gd i hn fun w J5 J4 rv KP=> ?_);have Ke:=a.plain ip i.objs J4;refine Io (iJ Ke.ok Ke.st Ke.gd KP fun J8 J7 KF=> ?_);have Ku:=Ke.plain ip KP.objs J7;have hn1:=mi 8 _ _ _ _ _ _ KX;refine Io (mO 8 KX Ku (ad.R ip J7 rv) fun KR Kv Kg LE K9=> ?_);have KC:=Ku.local Kg LE K9;refine Io (l_ ht htt KC fun KW K6 Kr=> ?_);have K_:=KC.step Kr;have K7:=(((T.fresh J4 newI).fresh J7 newI).fresh Kg (dt ok.newC)).trans Kr;have U₄:=((((S.trans (J4.wider inD)).trans (J7.wider inD)).trans (Kg.wider (dt (p:=fun b=>b∈G.D) (.head _)))).trans Kr.D)
   have K3:=Kr.itr KC.st (ad.itr Ku.st (dt Ku.er.out) (fun b m q=>aU.locals KF.objs Ku.er (by rw[Gn.mp q]at m;exact m)) Kg KF)
   have LY: ∀x∈G.P,x∈KW.p:=fun x m=>Kr.pold x (Kg.pold x (kP x m))
   have LZ: ∀x,Kf.names.lookup x≠some .cell:=fun x=>by rw[hn1];exact nc x
   cases b with
   |true=>
    refine bc (ky rfl) fun y Kn hy q=> ?_;refine qY q fun q1 q2=> ?_;obtain rfl:=q2.symm;simp only[if_true];refine ji (hyld _ _ _ q1.symm) fun m pre l' zz3 hL hl hk=> ?_;subst zz3
    have hyo: ∀v,yieldOut G.cenv v=yieldValue v:=fun v=>by simp only[yieldOut,ok.co,FV,if_false]
    simp only[hyo];rw[Sem.bind_eq_wrap',Sem.bind_eq_wrap',Sem.wrap_wrap,Sem.wrap_wrap]
    refine seg_wrap (aq.go (hf hy K_) (fun x' KJ q w₅ s₅ Lm KE Lo=> ?_) (fun u_ u_ q=>by exact iO q))
    refine jD q fun zz1 zz2=> ?_;subst zz1;subst zz2;have Lr: ∀x∈G.P,x∈Lm.p:=fun x m=>KE.pold x (LY x m);refine seg_at (seg_yield rfl rfl rfl ⟨pre,y,Kf,J1,t',l',hL,hl,Kt,Lm.r,KA,KO.st,(U₄.trans KE.D).less Lr (fun x m=>m),⟨(K7.trans KE).less Lr ok.ρP,At.less Lr LZ KO (K_.step KE),(KE.itr K_.st K3).less c Lr ok.ipP⟩,Lo.less c Lr,fun hw s'' r'' ga=> ?_⟩);exact seg_again rfl (hk hw s'' r'' ga)
   |false=>
    simp only[FV,if_false];exact seg_again rfl (ih (kn rfl) LY LZ U₄ K7 K_ K3)
theorem th: ∀(fuel:Nat) {en:En} {σ:Sg} {t:It} {y:V} {en':En} {t':It} {J1:Sg},mJ (di 8) tr f target ifs elt fuel en σ t=some (some (y,en',t'),J1)→en'.names=en.names:=by
 intro fuel
 induction fuel with
 |zero=>intro en σ t y en' t' J1 e;exact no e
 |succ fuel ih=>
  intro en σ t y en' t' J1 e;refine gnE e (fun u_ q=>qY q fun q u_=>no q) fun x t₁ Kf J2 J6 b u_ KX u_ ky kn=> ?_;have hn1:=mi 8 _ _ _ _ _ _ KX
  cases b with
  |true=>refine bc (ky rfl) fun u_ u_ u_ q=> ?_;exact qY q fun q u_=>(congrArg (fun o=>(o.elim en (·.2.1)).names) q).symm.trans hn1
  |false=>rw[ih (kn rfl),hn1]
theorem vw{G:gV}(ok:oB G)(ht:eK c G.d tr)(hf:bE c G.d f): ∀(rem pre:List rN) {en:En} {σ:Sg} {t:It},G.L=pre++rem→mZ (mJ (di 8) tr f G.target G.ifs G.elt av) en σ t rem G.e→(rem≠[]∨G.e.isSome=true)→(∀x,en.names.lookup x≠some .cell)→
 ∀s r,gC c G r en σ t s→A2 c G rem.length s ((model c.prog c.w).den G.code) s:=by
 intro rem
 induction rem with
 |nil=>
  intro pre en σ t hL hc hw nc s r ga
  cases he:G.e with
  |none=>rw[he]at hw;simp at hw
  |some J1=>
   rw[he]at hc
   exact qd ok ht hf ga.at_ (fun u_=>⟨rfl,he⟩) (fun u_ u_ u_ q=>by exact no q) av hc (fun x m=>m) nc (ad.refl ga.at_.st ga.at_.gd) ga.step ga.at_ ga.itr
 |cons x rem ih=>
  intro pre en σ t hL hc hw nc s r ga;obtain⟨y,en',J1,t'⟩:=x;refine oA hc fun h1 h2=> ?_
  refine qd ok ht hf ga.at_ (fun q=>by exact Cm q) (fun y₁ Kf t₁ q=> ?_) av h1 (fun x m=>m) nc (ad.refl ga.at_.st ga.at_.gd) ga.step ga.at_ ga.itr
  refine qY (H8 q) fun a q=>qY q fun b d=> ?_;subst a;subst b;subst d;refine⟨rem.length,pre,rem,rfl,hL,rfl,fun hw s'' r'' ga'=> ?_⟩
  exact ih (pre++[(y,en',J1,t')]) (by rw[hL];simp) h2 hw (fun x=>by rw[th av h1];exact nc x) s'' r'' ga'
end
section
variable {env:Env}{d:Nat}
variable (c)in
structure fg(G:gV)(g:Nat)(ga:Addr)(pre rem:List rN)(r:List Addr)(en:En)(σ:Sg)(t:It)(s:Shared):Prop where
 hL:G.L=pre++rem
 gen:s.heap.IsGen ga g
 st:gC c G r en σ t s
 gs: ∃gs,s.gens[g]? =some gs∧((rem≠[]∨G.e.isSome=true)→ ∀s'' r'',gC c G r'' en σ t s''→gs.Goes (model c.prog c.w) G.A₁ (gR c G) (gY c G) rem.length (.send .none) s'')
noncomputable def r9(c:Cx)(G:gV)(s s':Shared):Prop:= ∃Kt KA,aO c ⟨Kt,G.P⟩ KA s.heap∧d9 c (G.D++Kt) s.heap s'.heap
structure cU(G:gV)(g:Nat)(ga:Addr)(A:Around):Prop where
 a1:G.A₁=A.in1
 gnew:G.sc.gens.size≤g
 gaP:ga∈G.P
 gaD:ga∉G.D
 hand:A.handled=none
 room:A.depth<recursionLimit
theorem gC.setGen{G:gV}{r:List Addr}{g:Nat}(x:gC c G r en σ t s)(hg:G.sc.gens.size≤g)(hb:gs.bare=true):gC c G r en σ t (s.setGen g gs):=
 ⟨x.step.setGen hg hb,x.at_.setGen,x.itr⟩
theorem tV{G:gV}{g:Nat}(hD:ga∉G.D)(hP:ga∈G.P)(st:aO c ⟨Kt,G.P⟩ KA h)(x:d9 c (G.D++Kt) h h')(i:h.IsGen ga g):h'.IsGen ga g:=by
 refine ji i fun o nm qn ho h1 h2 h3=> ?_;have hn:ga∉G.D++Kt:=fun m=>(Gl.mp m).elim hD (st.disj ga hP);refine aK (x ga o hn ho) fun o' ho' q=> ?_
 have:o'=o:=q.frz (by unfold ur gX;rw[h2];simp[h1])
 subst this;exact⟨_,nm,qn,ho',h1,h2,h3⟩
theorem pc(h: ∀o1 o2:Obj,o2.cls= .type "StopIteration"→o2.isFreed=false→Q (.ref (s.heap.push o1).objs.size) {s with heap:=(s.heap.push o1).push o2}):H9 M A (newExc (.type "StopIteration") []) Q E s:=by
 simp only[newExc,newTuple]
 refine H_ (Ig ?_ (by size_fits))
 refine H_ (m:=firstArgMember _ _) (Ih (a:=JY) (by first|rfl|(simp only[firstArgMember];rfl)) ?_)
 refine Ig ?_ (by size_fits)
 exact h _ _ rfl rfl
theorem cP{G:gV}{g:Nat}{r:List Addr}(ok:oB G)(kn:cU G g ga A)(x:fg c G g ga pre rem r en σ t s)(hw:rem≠[]∨G.e.isSome=true):
 d6 c A ga s (fun v s'=> ∃y en' J1 t' l r',rem=(y,en',J1,t')::l∧fg c G g ga (pre++[(y,en',J1,t')]) l r' en' J1 t' s'∧R s'.heap ⟨r',G.P⟩ y v∧r9 c G s s')
  (fun s'=>rem=[]∧ ∃J1 r',G.e=some J1∧af c G.ρc G.sc ⟨r',G.P⟩ J1 s'∧r9 c G s s'):=by
 refine dm fun kk=> ?_;obtain⟨hL,hg,st,gs,hgs,hgo⟩:=x<;>(refine kk ?_;clear kk)
 have hgo:=hgo hw _ r (st.setGen (gs:= .running) kn.gnew rfl)
 change let Q0:=_;H9 _ _ _ Q0 _ _;intros
 change let E1:=_;H9 _ _ _ _ E1 _;intro E1
 refine Im (name:=JW "__next__") hg.typeIs slot_gen_next (Ij slot_gen_next hg.typeIs entry_gen_next ?_ (args_gen_next _));refine(?_:H9 _ A.in1 (Builtin.Generator.genWake (.ref ga) (.send .none)) _ _ s);unfold Builtin.Generator.genWake
 change let K1:=_;let Q1:=_;H9 _ _ (_>>=K1) Q1 _ _;intro K1 Q1
 refine H_ (Ic (wpAny_genNumber hg (H_ (wpAny_genState hgs ?_))));rw[kn.a1]at hgo
 suffices main: ∀(K:GenResult→Sem Fin) (J:Unit→Sem Fin),(∀v,K (.yielded v)=ret v)→K (.returned .none)=(newExc (.type "StopIteration") []>>=fun l=>raiseNew l>>=J)→H9 (model c.prog c.w) A.in1 (roomToWake>>=fun u_=>resume g (.send .none)>>=K) Q1 E1 s by
  cases gs with
  |running=>exact hgo.elim
  |finished=>exact hgo.elim
  |_=>exact main _ _ (fun u_=>rfl) rfl
 intro K J k1 k2
 refine H_ (wpAny_roomToWake st.at_.gd.lim kn.room ?_)
 refine(?_:H9 _ A.in1 (.resume g (.send .none) [] _) _ _ s);refine wpAny_resumeQ hgs hgo (fun xx J5 hx=> ?_) (fun v J5 gs' hb hv=> ?_)
 ·obtain⟨rfl,hn,J1,he,Kt,J',KA,Ll,S,T⟩:=hx;refine(?_:H9 _ _ (K (.returned .none)) _ _ _);rw[k2]
  refine H_ (pc fun o1 o2 c2 f2=>H_ (wpAny_raiseNew_none (show A.in1.handled=none from kn.hand) ⟨dL c2 f2,GW.mp hn,J1,J',he,?_,Kt,KA,Ll,?_⟩))
  ·have T':=T.setGen (g:=g) (gs:= .finished) kn.gnew rfl
   exact T'.trans (ad.push2 (t:=J5.toks) st.at_.ok T'.sto T'.gd)
  ·exact S.ext.trans (d9.of_keeps fun b o u_ e=>JG _ (JG _ e))
 ·refine dm fun kk=> ?_;obtain⟨pre',y,en',J1,t',l',hL',hl,Kt,J',KA,Ll,S,ga',rv,hk⟩:=hv<;>(refine kk ?_;clear kk)
  refine(?_:H9 _ _ (K (.yielded v)) _ _ _);rw[k1];refine H' ⟨v,rfl,v,rfl,?_⟩
  cases rem with
  |nil=>exact(hk (.inr (hw.resolve_left nofun)) J5 J' ga').elim
  |cons x' l=>
   have hlen:l'.length=l.length:=by simpa using hl
   have:=List.append_inj' (hL.symm.trans hL') (by simp[hlen])
   obtain⟨rfl,hx⟩:=this
   cases hx
   refine⟨y,en',J1,t',_,J',rfl,⟨by rw[hL];simp,?_,ga'.setGen kn.gnew hb,gs',setGen_self (gs:= .running) ?_,fun hw' s'' r'' g''=> ?_⟩,rv,Kt,KA,Ll,S.ext⟩
   ·exact tV kn.gaD kn.gaP Ll S.ext hg
   ·refine(S.rest.gold g ?_).trans (setGen_self hgs);have:=setGen_self (x:= .running) hgs;exact(FP.mp this).1
   ·have:=hk hw' s'' r'' g'';refine(kn.a1).symm▸ ?_;exact this
theorem om{o:Obj}{vs:Array Value}{f:Array Value→Array Value}(h:o.data= .fields vs):JQ f o={o with data:= .fields (f vs)}:=by
 obtain⟨a,b,e,k⟩:=o;subst h;rfl
theorem lO{cc P:Addr}{qn:Str}(hc:env.code= .ref cc)(ok:c.Ok)(st:aO c ρ σ s.heap)(g:Gd c s.heap)(hm:(cc,P)∈c.cs)
 (h: ∀code s',af c ρ s ρ σ s'→Q code s'):H9 (model c.prog c.w) A (genexprCode env pos qn scope) Q E s:=by
 refine aK (g.codes _ hm) fun ps hok hcls=> ?_;refine dm fun kk=> ?_;obtain⟨o,vs,file,tf,flags,tg,inF,text,tt,op,ho,hd,h11,h2,h7,h9,h10,hop,hpd,htr,hne⟩:=(id hok);refine kk ?_;clear kk;have hPT:P∈c.T:=ok.tcs _ hm;unfold genexprCode codeAt
 rw[hc,if_neg (show¬((JX cc==JY)=true)from FT)]
 refine H_ (wpAny_fieldsOf ho hd ?_);refine(h11).symm▸ ?_;refine H_ (wpAny_fieldsOf hop hpd ?_)
 cases hnf:codeAmong pos ps.toList with
 |some cv=>exact H' (h cv s (.refl st g))
 |none=>
  rw[h2,h7,h9,h10];refine H_ (bu (wpAny_newCode fun c' P' h' tk hk hc' hP' hcode' hrec' hz=> ?_));have hop':=hk _ _ hop;refine H_ (wpAny_updateFieldsOfTheText hop' hpd ?_)
  have hnew:(JQ (fun vs=>if(codeAmong pos vs.toList).isSome=true then vs else vs++ #[rawInt pos.line,rawInt pos.col,.ref c']) op).data=
   .fields (ps++ #[rawInt pos.line,rawInt pos.col,.ref c']):=by
   rw[JS hpd,hnf];rfl
  have hget:=JJ (h:=h') (fun o=>JQ (fun vs=>if(codeAmong pos vs.toList).isSome=true then vs else
   vs++ #[rawInt pos.line,rawInt pos.col,.ref c']) o) hop' (JT hnew)
  refine H_ (wpAny_fieldsOf hget hnew ?_)
  have hl:(ps++ #[rawInt pos.line,rawInt pos.col,JX c']).toList=ps.toList++[rawInt pos.line,rawInt pos.col,.ref c']:=by simp
  rw[hl,codeAmong_snoc _ htr hnf]
  generalize hh:h'.update P (fun o=>JQ (fun vs=>if(codeAmong pos vs.toList).isSome=true then vs else vs++ #[rawInt pos.line,rawInt pos.col,.ref c']) o)=h'' at hget⊢
  have keep: ∀b o,b≠P→s.heap.get? b=some o→h''.get? b=some o:=fun b o hb e=>by
   rw[←hh];exact(JN ..).extBut b o hb (hk b o e)
  have hz':s.heap.objs.size≤h''.objs.size:=by rw[←hh,JL];exact hz
  have hobj:JQ (fun vs=>if(codeAmong pos vs.toList).isSome=true then vs else vs++ #[rawInt pos.line,rawInt pos.col,.ref c']) op={op with data:= .fields (ps++ #[rawInt pos.line,rawInt pos.col,.ref c'])}:=by
   rw[om hpd,hnf];rfl
  rw[hobj]at hget
  have ex:d9 c [] s.heap h'':=fun b o' u_ e=>by
   by_cases hb:b=P
   ·subst hb;rw[hop]at e;obtain rfl:=H8 e;exact⟨_,hget,.inr (.inr ⟨hPT,hcls _ hop,ps,_,hpd,rfl⟩)⟩
   ·exact⟨o',keep b o' hb e,.refl b o'⟩
  refine H' (h _ _ ⟨Gu _,fun u_ m=> .inl m,fun u_ m=> .inl m,fun u_ m=>m,st.mono (S:=[]) (P:=ρ.p) (Pl.Off.nil _) ex (by simp) hz' (fun u_ m=> .inl m) g.size,ex.mono (GH _),.heap hz',g.step ok fH ex (fun p hp=> ?_) hz'⟩)
  by_cases hpP:p.2=P
  ·as_aux_lemma=>
    refine aK (g.codes p hp) fun ps2 i2 cl2=> ?_;refine dm fun kk=> ?_;obtain⟨o2,vs2,file2,tf2,flags2,tg2,inF2,text2,tt2,op2,k1,k2,k3,k4,k5,k6,k7,k8,k9,k10,k11⟩:=i2;refine kk ?_;clear kk;rw[hpP]at k3 k8 k11;rw[hop]at k8;obtain rfl:=H8 k8;rw[hpd]at k9
    cases k9
    have n1:p.1≠P:=k11
    refine⟨ps++ #[rawInt pos.line,rawInt pos.col,.ref c'],⟨o2,vs2,file2,tf2,flags2,tg2,inF2,text2,tt2,_,keep _ _ n1 k1,k2,by rw[hpP];exact k3,k4,k5,k6,k7,by rw[hpP];exact hget,rfl,by rw[hl];exact TriplesOk_snoc _ _ _ _ htr,by rw[hpP];exact n1⟩,fun o' e=> ?_⟩
    rw[hpP,hget]at e;obtain rfl:=H8 e;show op.cls= .none;exact hcls _ hop
  ·exact(g.codes p hp).keep (fun o q=>keep _ _ (fun m=>(ok.cold p hp).2 (m▸hPT)) q) fun o q=>keep _ _ hpP q
theorem pT{Q:Addr→Shared→Prop}{r:Addr}(ok:c.Ok)(g:Gd c s.heap)(h:Q builtinsNs s):H9 (model c.prog c.w) A (builtinsFor mainGlobals r) Q E s:=by
 obtain⟨bm,o,h1,h2,h3,h4,h5,h6⟩:=ok.bmod;exact wpAny_builtinsFor g.gl h1 h2 (g.stays _ _ h3) h4 h5 h6 h
noncomputable def dw(names:List (Str×NameKind))(en:En):En:=⟨names,[],(en.own.filter fun p=>en.names.lookup p.1==some .cell)++(en.fre.filter fun p=>en.names.lookup p.1==some .free),none⟩
theorem yU{it:Value}{code:Value}{gobj:Obj}{t:Nat}(ok:c.Ok)(a:At c A env en ρ σ s d)(hk:scope.kind= .function)(ho:dO scope.names en=true)(hn:h'.Ns s.heap.objs.size fun x=>if x=".0" then some it else none)
 (sb:JK s.heap.objs.size (s.heap.push {cls:= .type "frame",data:= .dict #[]}) h'):
 af c ρ s ⟨ρ.r,h'.objs.size::s.heap.objs.size::ρ.p⟩ σ {s with heap:=h'.push gobj,toks:=t}∧
  a_ (h'.push gobj) ⟨ρ.r,h'.objs.size::s.heap.objs.size::ρ.p⟩ (genEnv scope (jU env.cells scope.names []) s.heap.objs.size code builtinsNs env) (dw scope.names en):=by
 refine mF (fG ho) fun o1 o2 o3=> ?_
 have hz:h'.objs.size=s.heap.objs.size+1:=by rw[sb.1,JH]
 have S:af c ρ s ⟨ρ.r,h'.objs.size::s.heap.objs.size::ρ.p⟩ σ {s with heap:=h'.push gobj,toks:=t}:=by
  refine ad.write ok a.st a.gd (by exact GH _) (fun b o u_ e=> ?_) (by rw[JH,hz];exact HA _ 2) (fun b m=> ?_) (fun b m=> .tail _ (.tail _ m))
  ·exact JG _ ((sb.2 b (HT (JI e))).trans (JG _ e))
  ·rw[JH]
   rcases Gp.mp m with rfl|m
   ·exact .inr ⟨by rw[hz];exact Hz _,Hx _⟩
   ·rcases Gp.mp m with rfl|m
    ·exact .inr ⟨Hv _,HP (by rw[hz];exact Hx _)⟩
    ·exact .inl m
 refine⟨S,?_⟩;have er:=S.env a.st a.er;have fr:=a.er.frees o3
 refine⟨hk,rfl,er.gl,rfl,⟨_,hn.push _,fun x hx=> .no⟩,fun x hx=>absurd rfl (o1 _ (mem_of_lookup hx)),fun x hx=> ?_,.tail _ (.head _),fun y z b h1 h2=> ?_,fun cc h=>by exact no h⟩
 ·have hm:(x,JO)∈scope.names:=mem_of_lookup hx
  rcases o3 _ hm rfl with q|q
  ·refine bS (er.ce x q) fun b w g1 g2 g3 g4=> ?_;refine⟨b,w,?_,g2,?_⟩
   ·show(jU env.cells scope.names []).lookup x=some b;rw[nu hm,g1];rfl
   ·show jV _ _ (((en.own.filter fun p=>en.names.lookup p.1==some .cell)++(en.fre.filter fun p=>en.names.lookup p.1==some .free)).lookup x) w
    rw[Hc,aY (q:=fun x=>en.names.lookup x==some .cell),aY (q:=fun x=>en.names.lookup x==some .free),show en.names.lookup x=some .cell from q]
    simpa using g4
  ·refine dy (er.fr x q) fun b w g1 g2 g4=> ?_;refine⟨b,w,?_,g2,?_⟩
   ·show(jU env.cells scope.names []).lookup x=some b;rw[nu hm,g1];rfl
   ·show jV _ _ (((en.own.filter fun p=>en.names.lookup p.1==some .cell)++(en.fre.filter fun p=>en.names.lookup p.1==some .free)).lookup x) w
    rw[Hc,aY (q:=fun x=>en.names.lookup x==some .cell),aY (q:=fun x=>en.names.lookup x==some .free),show en.names.lookup x=some .free from q]
    trivial
 ·exact a.er.ap y z b (iY fr h1) (iY fr h2)
noncomputable def fw(e:Expr):Bool:= !(e.ctorIdx.beq 24||e.ctorIdx.beq 7)
theorem my(h:fw e=true)(x:Value):genFold e env x=pure x:=by
 cases e<;>first|rfl|exact bI h
variable (c)in
structure qA(ρ:Pl)(s:Shared)(en:En)(σ:Sg)(t:It)(target elt iter:Expr)(ifs:List Expr)(scope:Scope)(pos:Pos)(v:Value)(s':Shared)(cenv:Env)(Ip:List Addr)(a ga:Addr)(g:Nat)(J3:Pl):Prop where
 v:v= .ref ga
 step:af c ρ s J3 σ s'
 env:a_ s'.heap J3 cenv (dw scope.names en)
 itr:bB s'.heap J3 t Ip a
 gen:s'.heap.IsGen ga g
 gs:s'.gens[g]? =some (.fresh (.compStart (.GeneratorExp elt [⟨target,iter,ifs,0⟩] scope pos) 0 (.ref a) .none cenv))
 gnew:s.gens.size≤g
 newI: ∀b∈Ip,s.heap.objs.size≤b
 newC:s.heap.objs.size≤cenv.locals
 frame:cenv.frame=some cenv.locals
 co:cenv.scope.isCoroutine=false
 gaP:ga∈J3.p
 gaD:ga∉cenv.locals::Ip
 gaN:s.heap.objs.size≤ga
theorem vh{iv:iM}{x:IV}{cc P:Addr}(hi:hY c d iv)(hp:fw iter=true)(hk:scope.kind= .function)(hco:scope.isCoroutine=false)(ho:dO scope.names en=true)
 (h0:scope.names.lookup (".0":Str)=some .local) (hcc:en.code=some cc) (hm:(cc,P)∈c.cs) (hx:iv en σ iter=some (.ok x J2)) (hit:aA J2 x=some t) (a:At c A env en ρ σ s d)
 (h: ∀v s' cenv Ip b ga g J3,qA c ρ s en J2 t target elt iter ifs scope pos v s' cenv Ip b ga g J3→Q v s'):H9 (model c.prog c.w) A (eval (.GeneratorExp elt [⟨target,iter,ifs,0⟩] scope pos) env) Q E s:=by
 refine mF (fG ho) fun o1 o2 o3=> ?_;refine wpAny_GeneratorExp_make hco (mh (a.er.frees o3)) o1 h0 hk (HC (HA _ _) a.room.depth) ?_ (my hp)
 refine aq.go (hi hx a) (fun x' J1 q w J5 Kd J4 J'=> ?_) (fun u_ u_ q=>by exact iO q)
 refine jD q fun zz1 zz2=> ?_;subst zz1;subst zz2;refine aK J' fun I J' K8=> ?_;have Ke:=a.step J4;refine dC a.ok J4.sto J4.gd hit J' fun Kl J b J8 J7 KF Lf=> ?_;have Ku:=Ke.step J7;refine⟨J7.gd.lim,?_⟩;refine lO (a.er.cd _ hcc) a.ok Ku.st Ku.gd hm fun code Kv Kg=> ?_;have KC:=Ku.step Kg;rw[a.er.gl];refine pT a.ok KC.gd ?_;intro h' hn sb;have Li:=Kg.itr Ku.st KF;refine oA (yU (code:=code) (gobj:={cls:= .type "generator",data:= .fields #[.int Kv.gens.size 0,.str "<genexpr>" (Kv.toks+1),.str (env.qual++"<genexpr>") (Kv.toks+1+1)]}) (t:=Kv.toks+1+1+1) a.ok KC hk ho hn sb) fun Kr Lj=> ?_;have S123:=(J4.trans J7).trans Kg
 have hz:h'.objs.size=Kv.heap.objs.size+1:=by rw[sb.1,JH]
 have new: ∀z∈J,s.heap.objs.size≤z:=fun z m=>(Lf z m).elim (K8 z) fun q=>Hu J4.rest.hsize q;have old: ∀z∈J,z<Kv.heap.objs.size:=fun z m=>(KC.st.plow z (Li.priv.1 z m)).2;have T:=S123.trans Kr;have K3:=Kr.itr KC.st Li;refine h _ _ (genEnv scope (jU env.cells scope.names []) Kv.heap.objs.size code builtinsNs env) J b h'.objs.size Kv.gens.size _ ⟨rfl,?_,Lj,K3,⟨_,_,_,JF _ rfl,rfl,rfl,rfl⟩,Array.getElem?_push_size ..,S123.rest.gsize,new,S123.rest.hsize,rfl,hco,.head _,fun m=> ?_,?_⟩
 ·refine T.gens ?_ (fun i hi=> ?_) fun hb y hy=> ?_
  ·rw[Array.size_push];exact HG S123.rest.gsize
  ·rw[Array.getElem?_push_lt (HF hi S123.rest.gsize)];rw[←Array.getElem?_eq_getElem];exact S123.rest.gold i hi
  ·rcases Array.mem_push.mp hy with q|rfl
   ·exact S123.rest.bare hb y q
   ·rfl
 ·rcases Gp.mp m with q|q
  ·have q:h'.objs.size=Kv.heap.objs.size:=q;rw[hz]at q;exact absurd q (Nat.succ_ne_self _)
  ·exact absurd (old _ q) (Hy.mpr (by rw[hz];exact Hz _))
 ·rw[hz];exact HG S123.rest.hsize
theorem tH{G:gV}(ok:oB G)(ht:eK c G.d tr)(hf:bE c G.d f)(hc:mZ (mJ (di 8) tr f G.target G.ifs G.elt av) en σ t G.L G.e)(hw:G.L≠[]∨G.e.isSome=true)(nc: ∀x,en.names.lookup x≠some .cell)
 {r:List Addr} (ga:gC c G r en σ t s):
 Seg (model c.prog c.w) G.A₁ (gR c G) (gY c G) G.L.length s (.compStart G.X 0 (.ref G.a) .none G.cenv) ((model c.prog c.w).den (.compStart G.X 0 (.ref G.a) .none G.cenv)) [] s:=by
 have ph:=vw ok ht hf G.L [] (by simp) hc hw nc s r ga
 show Seg _ _ _ _ _ s _ ((compStart (.GeneratorExp G.elt [⟨G.target,G.iter,G.ifs,0⟩] G.scope G.pos) 0 (.ref G.a) .none G.cenv).onRaise (leaving G.cenv)) [] s;unfold compStart;rw[Sem.onRaise_eq_wrap];show Seg _ _ _ _ _ s _ ((ask>>=_).wrap _ _ _ _) [] s;refine Io (wpAny_askSetting ?_)
 split
 ·exact seg_again rfl ph
 ·first
   |exact Io (Ie (Io (Il (Io (ga.itr.iter_self (seg_again rfl ph))))))
   |(refine Io (Ie ?_);show Seg _ _ _ _ _ s _ ((standAt G.iter.pos>>=_).wrap _ _ _ _) [] s;exact Io (Il (Io (ga.itr.iter_self (seg_again rfl ph)))))
noncomputable def kY(A:Around)(cenv:Env)(Kl ρ:Pl)(Ip:List Addr)(a:Addr)(s:Shared)(target elt iter:Expr)(ifs:List Expr)(scope:Scope)(pos:Pos)(d:Nat)(L:List rN)(e:Option Sg):gV:=
 ⟨A.in1,cenv,Kl.p,Ip,a,ρ,s,target,elt,iter,ifs,scope,pos,d,L,e⟩
theorem qA.ready{Lc:Around}{cenv:Env}{Ip:List Addr}{g:Nat}{L:List rN}{e:Option Sg}(ok:c.Ok)(ht:eK c d tr)(hf:bE c d f)
 (B:qA c ρ s en σ t target elt iter ifs scope pos v s' cenv Ip a ga g J3) {Kl:Pl} (S:af c J3 s' Kl σ J8) (hg:J8.gens=s'.gens) (nc: ∀n∈scope.names,n.2≠ .cell) (hc:mZ (mJ (di 8) tr f target ifs elt av) (dw scope.names en) σ t L e) (hw:L≠[]∨e.isSome=true)
 (room:d_ c Kl Lc (d+1) J8.heap) (a1:A.handled=Lc.handled) (a2:A.depth=Lc.depth) (a3:A.frames=Lc.frames) (a4:A.units≤Lc.units+4):
 oB (kY A cenv Kl ρ Ip a s target elt iter ifs scope pos d L e)∧cU (kY A cenv Kl ρ Ip a s target elt iter ifs scope pos d L e) g ga A∧
  fg c (kY A cenv Kl ρ Ip a s target elt iter ifs scope pos d L e) g ga [] L Kl.r (dw scope.names en) σ t J8:=by
 have T:=B.step.trans S;have er:=S.env B.step.sto B.env;have i:=S.itr B.step.sto B.itr;have nc': ∀x,(dw scope.names en).names.lookup x≠some .cell:=fun x q=>nc _ (mem_of_lookup q) rfl
 have hroom:d_ c Kl (kY A cenv Kl ρ Ip a s target elt iter ifs scope pos d L e).rnd d J8.heap:=by
  refine aK room.frames fun l hl ff=> ?_;refine⟨?_,?_,?_,cenv::l,?_,fun env m=> ?_⟩
  ·show A.handled=none;rw[a1];exact room.hand
  ·show A.depth+1+d<recursionLimit;rw[a2];have:=room.depth;exact E2 ‹_›
  ·show A.units+1+3+8*d+220<cLine;have:=room.units;exact bry ‹_› ‹_›
  ·show A.frames.map (cenv:: ·)=some (cenv::l);rw[a3,hl];rfl
  ·rcases Gp.mp m with rfl|m
   ·obtain⟨mm,⟨o',es,ep,ho',hd',_⟩,_⟩:=er.lo
    exact⟨by rw[er.kind];decide,_,o',B.frame,er.out,(T.sto.plow _ er.out).1,ho',es,ep,hd'⟩
   ·exact ff env m
 have ok':oB (kY A cenv Kl ρ Ip a s target elt iter ifs scope pos d L e):=⟨T.pold,i.priv.1,B.newI,B.newC,B.co⟩;have at':gC c (kY A cenv Kl ρ Ip a s target elt iter ifs scope pos d L e) Kl.r (dw scope.names en) σ t J8:=⟨T,⟨ok,T.sto,T.gd,er,hroom⟩,i⟩
 refine⟨ok',⟨rfl,B.gnew,S.pold _ B.gaP,B.gaD,by rw[a1];exact room.hand,by rw[a2];have:=room.depth;exact rmz ‹_›⟩,rfl,?_,at',.fresh (.compStart (.GeneratorExp elt [⟨target,iter,ifs,0⟩] scope pos) 0 (.ref a) .none cenv),by rw[hg];exact B.gs,fun hw' s'' r'' g''=>⟨rfl,tH (G:=kY A cenv Kl ρ Ip a s target elt iter ifs scope pos d L e) ok' ht hf hc hw nc' g''⟩⟩
 refine ji B.gen fun o nm qn ho h1 h2 h3=> ?_
 exact⟨o,nm,qn,S.ext.get (fun m=>B.step.sto.disj _ B.gaP (by simpa using m)) ho (by unfold ur gX;rw[h2];simp[h1]),h1,h2,h3⟩
theorem fg.move{G:gV}{g:Nat}{r:List Addr}{K:List Addr}(ok:oB G)(kn:cU G g ga A')(x:fg c G g ga pre rem r en σ t s)(S:ad c K ⟨r,G.P⟩ s ⟨r,G.P⟩ σ s')(hg:s'.gens=s.gens)
 (hK: ∀a∈K,a∈G.P∧G.sc.heap.objs.size≤a∧a∉G.D∧a≠ga) (pl:aU s.heap K):fg c G g ga pre rem r en σ t s':=by
 refine⟨x.hL,?_,⟨x.st.step.fresh S fun a m=>(hK a m).2.1,x.st.at_.plain (fun a m=>(hK a m).1) pl S,ad.itr x.st.at_.st (fun a m=>(hK a m).1) (fun a m q=>(hK a q).2.2.1 (.tail _ m)) S x.st.itr⟩,by rw[hg];exact x.gs⟩
 refine ji x.gen fun o nm qn ho h1 h2 h3=> ?_
 exact⟨o,nm,qn,S.ext.get (fun m=>(Gl.mp m).elim (fun q=>(hK _ q).2.2.2 rfl) (x.st.at_.st.disj _ kn.gaP)) ho (by unfold ur gX;rw[h2];simp[h1]),h1,h2,h3⟩
theorem fg.toks{G:gV}{g:Nat}{r:List Addr}(ok:oB G)(kn:cU G g ga A')(x:fg c G g ga pre rem r en σ t s):fg c G g ga pre rem r en σ t {s with toks:=k}:=
 x.move ok kn (K:=[]) (af.toks x.st.at_.st x.st.at_.gd) rfl (by simp) (by intro a m;cases m)
noncomputable def dT(nx:yR)(stop:Bool):Nat→En→Sg→It→Option (Bool×Sg)
 |0,_,_,_=>none
 |n+1,en,σ,t=>(nx en σ t).bind fun r=>match r.1 with
  |none=>some (false,r.2)
  |some p=>(bq r.2 p.1).bind fun b=>if b=stop then some (true,r.2)else dT nx stop n p.2.1 r.2 p.2.2
theorem tX{stop:Bool}(h:nx en σ t=some (none,J1)):dT nx stop (n+1) en σ t=some (false,J1):=by
 show(nx en σ t).bind _=_;rw[h];rfl
theorem qN{stop:Bool}(h:nx en σ t=some (some (y,en',t'),J1))(hb:bq J1 y=some b):dT nx stop (n+1) en σ t=if b=stop then some (true,J1)else dT nx stop n en' J1 t':=by
 show(nx en σ t).bind _=_;rw[h];show(bq J1 y).bind _=_;rw[hb];rfl
noncomputable def jM(stop:Bool):List rN→Option Sg→Bool→Sg→Prop
 |[],e,b,Ki=>e=some Ki∧b=false
 |(y,_,J1,_)::l,e,b,Ki=>(bq J1 y=some (!stop)∧(l≠[]∨e.isSome=true)∧jM stop l e b Ki)∨(bq J1 y=some stop∧l=[]∧e=none∧b=true∧Ki=J1)
theorem Bi{a:Bool}(h: ¬a=b):a= !b:=by cases a<;>cases b<;>first|rfl|exact absurd rfl h
theorem lX{stop:Bool}(n:Nat)(e:dT nx stop n en σ t=some (b,Ki)): ∃L e,mZ nx en σ t L e∧(L≠[]∨e.isSome=true)∧jM stop L e b Ki:=by
 induction n generalizing en σ t with
 |zero=>exact no e
 |succ n ih=>
  refine ae e fun r hn w=> ?_;obtain⟨r,J1⟩:=r
  cases r with
  |none=>cases H8 w;exact⟨[],some _,hn,.inr rfl,rfl,rfl⟩
  |some p=>
   refine ae w fun b' hb w=>eV w (fun hs w=> ?_) fun hs w=> ?_
   ·cases H8 w
    subst hs;exact⟨[(p.1,p.2.1,_,p.2.2)],none,⟨hn,trivial⟩,.inl nofun,.inr ⟨hb,rfl,rfl,rfl,rfl⟩⟩
   ·refine dy (ih w) fun L e' h1 h2 h3=> ?_
    exact⟨(p.1,p.2.1,J1,p.2.2)::L,e',⟨hn,h1⟩,.inl nofun,.inl ⟨by rw[hb,Bi hs],h2,h3⟩⟩
theorem wY{G:gV}{g:Nat}{R:Result→Shared→Prop}(ok:oB G)(kn:cU G g ga A.in1)(hR: ∀s' r',af c G.ρc G.sc ⟨r',G.P⟩ Ki s'→R (.ok (.ret (.bool (!b)))) s'):
 ∀(rem pre:List rN) {en:En} {σ:Sg} {t:It} {r:List Addr} {s:Shared},fg c G g ga pre rem r en σ t s→(rem≠[]∨G.e.isSome=true)→jM false rem G.e b Ki→codeAny (model c.prog c.w) A (.builtin "all.loop" ⟨[.ref ga],[]⟩) R s:=by
 intro rem
 induction rem with
 |nil=>
  intro pre en σ t r s x hw hu;refine oA hu fun he zz1=> ?_;subst zz1;refine Ii F.entry_all_loop ?_;rw[IW Jt _];show H9 _ A.in1 (pyNext (.ref ga)>>=_) _ _ s
  change let K0:=_;let Q0:=_;let E0:=_;H9 _ _ (_>>=K0) Q0 E0 _;intros
  refine H_ (Ia (cP ok kn x hw).pyNext (fun rr J5 Kc=> ?_) fun u_ u_ z=>z)
  cases rr with
  |some v=>refine fk Kc fun u_ u_ u_ u_ u_ u_ q u_=> ?_;exact B4 q
  |none=>
   refine lU Kc fun u_ J1 r' he' S u_=> ?_;rw[he]at he';obtain rfl:=H8 he';exact H_ (Ie (H' (hR J5 r' S)))
 |cons z rem ih=>
  intro pre en σ t r s x hw hu;obtain⟨LJ,Ln,KA,Ll⟩:=z;refine Ii F.entry_all_loop ?_;rw[IW Jt _];show H9 _ A.in1 (pyNext (.ref ga)>>=_) _ _ s
  change let K0:=_;let Q0:=_;let E0:=_;H9 _ _ (_>>=K0) Q0 E0 _;intros
  refine H_ (Ia (cP ok kn x hw).pyNext (fun rr J5 Kc=> ?_) fun u_ u_ z=>z)
  cases rr with
  |none=>exact absurd Kc.1 (by exact Hf _ _)
  |some v=>
   refine fU Kc fun y en' J1 t' l r' q x' rv u_=> ?_
   cases q
   rcases hu with⟨hb,hw',hu'⟩|⟨hb,rfl,he,rfl,rfl⟩
   ·change let K0:=_;let Q0:=_;let E0:=_;H9 _ _ (_>>=K0) Q0 E0 _;intros
    refine H_ (Ic (bV (c:=c) x'.st.at_.st hb rv fun k=> ?_))
    change let K0:=_;let Q0:=_;let E0:=_;H9 _ _ (_>>=K0) Q0 E0 _;intros
    refine H_ (Iz ?_);exact H' ⟨Ik Jt _,ih _ (x'.toks ok kn) hw' hu'⟩
   ·change let K0:=_;let Q0:=_;let E0:=_;H9 _ _ (_>>=K0) Q0 E0 _;intros
    refine H_ (Ic (bV (c:=c) x'.st.at_.st hb rv fun k=> ?_))
    change let K0:=_;let Q0:=_;let E0:=_;H9 _ _ (_>>=K0) Q0 E0 _;intros
    refine H_ (Iz ?_);exact H_ (Ie (H' (hR _ r' (x'.toks ok kn).st.step)))
theorem uJ{G:gV}{g:Nat}{R:Result→Shared→Prop}(ok:oB G)(kn:cU G g ga A.in1)(hR: ∀s' r',af c G.ρc G.sc ⟨r',G.P⟩ Ki s'→R (.ok (.ret (.bool b))) s'):
 ∀(rem pre:List rN) {en:En} {σ:Sg} {t:It} {r:List Addr} {s:Shared},fg c G g ga pre rem r en σ t s→(rem≠[]∨G.e.isSome=true)→jM true rem G.e b Ki→codeAny (model c.prog c.w) A (.builtin "any.loop" ⟨[.ref ga],[]⟩) R s:=by
 intro rem
 induction rem with
 |nil=>
  intro pre en σ t r s x hw hu;refine oA hu fun he zz1=> ?_;subst zz1;refine Ii F.entry_any_loop ?_;rw[IW Jm _];show H9 _ A.in1 (pyNext (.ref ga)>>=_) _ _ s
  change let K0:=_;let Q0:=_;let E0:=_;H9 _ _ (_>>=K0) Q0 E0 _;intros
  refine H_ (Ia (cP ok kn x hw).pyNext (fun rr J5 Kc=> ?_) fun u_ u_ z=>z)
  cases rr with
  |some v=>refine fk Kc fun u_ u_ u_ u_ u_ u_ q u_=> ?_;exact B4 q
  |none=>
   refine lU Kc fun u_ J1 r' he' S u_=> ?_;rw[he]at he';obtain rfl:=H8 he';exact H_ (Ie (H' (hR J5 r' S)))
 |cons z rem ih=>
  intro pre en σ t r s x hw hu;obtain⟨LJ,Ln,KA,Ll⟩:=z;refine Ii F.entry_any_loop ?_;rw[IW Jm _];show H9 _ A.in1 (pyNext (.ref ga)>>=_) _ _ s
  change let K0:=_;let Q0:=_;let E0:=_;H9 _ _ (_>>=K0) Q0 E0 _;intros
  refine H_ (Ia (cP ok kn x hw).pyNext (fun rr J5 Kc=> ?_) fun u_ u_ z=>z)
  cases rr with
  |none=>exact absurd Kc.1 (by exact Hf _ _)
  |some v=>
   refine fU Kc fun y en' J1 t' l r' q x' rv u_=> ?_
   cases q
   rcases hu with⟨hb,hw',hu'⟩|⟨hb,rfl,he,rfl,rfl⟩
   ·change let K0:=_;let Q0:=_;let E0:=_;H9 _ _ (_>>=K0) Q0 E0 _;intros
    refine H_ (Ic (bV (c:=c) x'.st.at_.st hb rv fun k=> ?_))
    change let K0:=_;let Q0:=_;let E0:=_;H9 _ _ (_>>=K0) Q0 E0 _;intros
    refine H_ (Iz ?_);exact H' ⟨Ik Jm _,ih _ (x'.toks ok kn) hw' hu'⟩
   ·change let K0:=_;let Q0:=_;let E0:=_;H9 _ _ (_>>=K0) Q0 E0 _;intros
    refine H_ (Ic (bV (c:=c) x'.st.at_.st hb rv fun k=> ?_))
    change let K0:=_;let Q0:=_;let E0:=_;H9 _ _ (_>>=K0) Q0 E0 _;intros
    refine H_ (Iz ?_);exact H_ (Ie (H' (hR _ r' (x'.toks ok kn).st.step)))
theorem xg{G:gV}{g:Nat}{L:List rN}{r:List Addr}(ok:oB G)(kn:cU G g ga A.in1)(x:fg c G g ga [] L r en σ t s)(hw:L≠[]∨G.e.isSome=true)(hu:jM false L G.e b Ki)
 (hQ: ∀s' r',af c G.ρc G.sc ⟨r',G.P⟩ Ki s'→Q (.bool (!b)) s'):H9 (model c.prog c.w) A (call (.builtin "all") [.ref ga]) Q E s:=by
 refine IR F.kind_all F.plain_all F.entry_all (F.args_all1 _) ?_;unfold Builtin.«all»;refine H_ (m:=oneArg "all" _) (H' ?_);refine H_ (IS x.gen ?_);exact H' ⟨Ik Jt _,wY ok kn (fun s' r' S=>hQ s' r' S) L [] x hw hu⟩
theorem wj{G:gV}{g:Nat}{L:List rN}{r:List Addr}(ok:oB G)(kn:cU G g ga A.in1)(x:fg c G g ga [] L r en σ t s)(hw:L≠[]∨G.e.isSome=true)(hu:jM true L G.e b Ki)
 (hQ: ∀s' r',af c G.ρc G.sc ⟨r',G.P⟩ Ki s'→Q (.bool b) s'):H9 (model c.prog c.w) A (call (.builtin "any") [.ref ga]) Q E s:=by
 refine IR F.kind_any F.plain_any F.entry_any (F.args_any1 _) ?_;unfold Builtin.«any»;refine H_ (m:=oneArg "any" _) (H' ?_);refine H_ (IS x.gen ?_);exact H' ⟨Ik Jm _,uJ ok kn (fun s' r' S=>hQ s' r' S) L [] x hw hu⟩
noncomputable def dQ(nx:yR):Nat→En→Sg→It→Option (List V×Sg)
 |0,_,_,_=>none
 |n+1,en,σ,t=>(nx en σ t).bind fun r=>match r.1 with
  |none=>some ([],r.2)
  |some p=>(dQ nx n p.2.1 r.2 p.2.2).map fun q=>(p.1::q.1,q.2)
theorem lq(n:Nat)(e:dQ nx n en σ t=some (ys,Ki)): ∃L,mZ nx en σ t L (some Ki)∧L.map (·.1)=ys:=by
 induction n generalizing en σ t ys with
 |zero=>exact no e
 |succ n ih=>
  refine ae e fun r hn w=> ?_;obtain⟨r,J1⟩:=r
  cases r with
  |none=>cases H8 w;exact⟨[],hn,rfl⟩
  |some p=>
   exact aM w fun q hq w'=>by
    refine qY w' fun zz1 zz2=> ?_;subst zz1;subst zz2;refine aK (ih hq) fun L h3 h4=> ?_;exact⟨(p.1,p.2.1,J1,p.2.2)::L,⟨hn,h3⟩,congrArg (p.1:: ·) h4⟩
theorem r9.kept{G:gV}{S:Addr}{o:Obj}(h:r9 c G s s')(hP:S∈G.P)(hD:S∉G.D)(ho:s.heap.get? S=some o)(f:ur o=true):s'.heap.get? S=some o:=by
 refine bc h fun Kt KA st x=> ?_;exact x.get (fun m=>(Gl.mp m).elim hD (st.disj S hP)) ho f
structure B9(G:gV)(ga S:Addr):Prop where
 P:S∈G.P
 D:S∉G.D
 ne:S≠ga
 new:G.sc.heap.objs.size≤S
theorem fg.write{G:gV}{g:Nat}{S:Addr}{r:List Addr}{f:Obj→Obj}{tk:Nat}(ok:oB G)(kn:cU G g ga A')(w:B9 G ga S)(x:fg c G g ga pre rem r en σ t s)(hS:s.heap.get? S=some (az vs k)):
 fg c G g ga pre rem r en σ t {s with heap:=s.heap.update S f,toks:=tk}:=
 x.move ok kn (K:=[S]) (ad.same (t:=tk) x.st.at_.ok x.st.at_.st x.st.at_.gd w.P (JN ..)) rfl (by simp only[Gn,forall_eq];exact⟨w.P,w.new,w.D,w.ne⟩) (by
  intro b m;rw[Gn.mp m]
  exact⟨_,hS,rfl⟩)
theorem sV{G:gV}{g:Nat}{S:Addr}{R:Result→Shared→Prop}(ok:oB G)(kn:cU G g ga A.in1)(w:B9 G ga S)(he:G.e=some Ki):
 ∀(rem pre:List rN) {en:En} {σ:Sg} {t:It} {r:List Addr} {s:Shared} {ns:List Int} {acc:Int} {tA:Tok} {k:Nat} {stage:Int},(stage=0∨stage=2)→fg c G g ga pre rem r en σ t s→cO (rem.map (·.1))=some ns→s.heap.get? S=some (az [.int acc tA] k)→
  (∀s' r' t',af c G.ρc G.sc ⟨r',G.P⟩ Ki s'→R (.ok (.ret (.int (acc+ns.sum) t'))) s')→codeAny (model c.prog c.w) A (.builtin "sum.loop" ⟨[.ref ga,.ref S,rawInt stage,rawInt 0],[]⟩) R s:=by
 intro rem
 induction rem with
 |nil=>
  intro pre en σ t r s ns acc tA k stage hstage x hns hS hR;obtain rfl:=H8 hns;refine Ii F.entry_sum_loop ?_;refine(IW Jn _).symm▸ ?_;show H9 _ A.in1 (seqItems? (.ref S)>>=_) _ _ s
  change let K0:=_;let Q0:=_;let E0:=_;H9 _ _ (_>>=K0) Q0 E0 _;intros
  refine H_ (Iu hS rfl ?_);refine(?_:H9 _ A.in1 (tryCatch (pyNext (.ref ga)) _>>=_) _ _ s)
  change let K0:=_;let Q0:=_;let E0:=_;H9 _ _ (_>>=K0) Q0 E0 _;intros
  refine H_ (wpAny_tryCatch (Ia (cP ok kn x (.inr (by rw[he];rfl))).pyNext (fun rr J5 Kc=> ?_) fun u_ u_ z=>z))
  cases rr with
  |some v=>refine fk Kc fun u_ u_ u_ u_ u_ u_ q u_=> ?_;exact B4 q
  |none=>
   refine lU Kc fun u_ J1 r' he' T u_=> ?_;rw[he]at he';obtain rfl:=z8 he'
   exact H' (by simpa using hR J5 r' tA T)
 |cons z rem ih=>
  intro pre en σ t r s ns acc tA k stage hstage x hns hS hR;refine Ii F.entry_sum_loop ?_;rw[IW Jn _];refine(?_:H9 _ A.in1 (seqItems? (.ref S)>>=_) _ _ s)
  change let K0:=_;let Q0:=_;let E0:=_;H9 _ _ (_>>=K0) Q0 E0 _;intros
  refine H_ (Iu hS rfl ?_);refine(?_:H9 _ A.in1 (tryCatch (pyNext (.ref ga)) _>>=_) _ _ s)
  change let K0:=_;let Q0:=_;let E0:=_;H9 _ _ (_>>=K0) Q0 E0 _;intros
  refine H_ (wpAny_tryCatch (Ia (cP ok kn x (.inr (by rw[he];rfl))).pyNext (fun rr J5 Kc=> ?_) fun u_ u_ z=>z))
  cases rr with
  |none=>exact absurd Kc.1 nofun
  |some v=>
   refine fU Kc fun y en' J1 t' l r' q x' rv hs=> ?_;obtain⟨rfl,rfl⟩:=List.cons.inj q;have KH:=hs.kept w.P w.D hS rfl
   refine ae (show(cR y).bind _=some ns from hns) fun i hi e=>aM e fun ns' hns' zz2=> ?_
   subst zz2;obtain rfl:=b9 hi;obtain⟨tt,rfl⟩:=rv.intQ
   have fin: ∀(s':Shared) (r':List Addr) (t':Tok),af c G.ρc G.sc ⟨r',G.P⟩ Ki s'→R (.ok (.ret (.int (acc+i+ns'.sum) t'))) s':=fun s' r' t' T=>by
    have:=hR s' r' t' T
    rwa [List.sum_cons,←Int.add_assoc]at this
   refine(fun(tail: ?T)=> ?main) ?tl
   case main=>
    rcases hstage with rfl|rfl
    rotate_left
    ·refine(?_:H9 _ A.in1 ((holding [JZ i tt] (binaryOp .Add (.int acc tA) (.int i tt))).attempt>>=_) _ _ _);exact tail
    ·show H9 _ A.in1 (if(_:Bool)=true then(mkInt (acc+i)>>=_)else _) _ _ _
     split
     ·change let K0:=_;let Q0:=_;let E0:=_;H9 _ _ (_>>=K0) Q0 E0 _;intros
      refine H_ (wpAny_mkInt ?_);refine(?_:H9 _ A.in1 (updateSeq S (fun u_=> #[.int (acc+i) J5.toks])>>=_) _ _ _)
      change let K0:=_;let Q0:=_;let E0:=_;H9 _ _ (_>>=K0) Q0 E0 _;intros
      refine H_ ?_
      change let Q0:=_;H9 _ _ _ Q0 _ _;intros
      change let Q0:=_;H9 _ _ _ Q0 _ _;intros
      refine Iy KH rfl (H' ⟨Ik Jn _,ih _ (.inl rfl) ((x'.toks (k:=J5.toks+1) ok kn).write ok kn w KH) hns' (JJ _ KH rfl) fin⟩)
     ·exact H_ (Ie tail)
   case tl=>
    change let K0:=_;let Q0:=_;let E0:=_;H9 _ _ (_>>=K0) Q0 E0 _;intros
    refine H_ (wpAny_attempt (Ic (PySem.P.add_int ?_)));refine(?_:H9 _ A.in1 (updateSeq S (fun u_=> #[.int (acc+i) J5.toks])>>=_) _ _ _)
    change let K0:=_;let Q0:=_;let E0:=_;H9 _ _ (_>>=K0) Q0 E0 _;intros
    refine H_ ?_
    change let Q0:=_;H9 _ _ _ Q0 _ _;intros
    refine Iy KH rfl ?_;have hS2:=JJ (JR fun u_=> #[JZ (acc+i) J5.toks]) KH rfl
    change let K0:=_;let Q0:=_;let E0:=_;H9 _ _ (_>>=K0) Q0 E0 _;intros
    refine H_ (Iz ?_)
    change let K0:=_;let Q0:=_;let E0:=_;H9 _ _ (_>>=K0) Q0 E0 _;intros
    refine H_ ?_;have x2:=(x'.toks (k:=J5.toks+1) ok kn).write (f:=JR fun u_=> #[JZ (acc+i) J5.toks]) (tk:=J5.toks+1) ok kn w KH
    change let Q0:=_;H9 _ _ _ Q0 _ _;intros
    refine Iy hS2 rfl (H' ⟨Ik Jn _,ih _ (.inr rfl) (x2.write ok kn w hS2) hns' (JJ _ hS2 rfl) fin⟩)
theorem tY{g:Nat}{i:Int}(hg:s.heap.IsGen ga g)
 (h: ∀tA tk,∃G r en σ t L ns Ki,oB G∧cU G g ga A.in1∧B9 G ga s.heap.objs.size∧G.e=some Ki∧fg c G g ga [] L r en σ t {s with heap:=s.heap.push (az [.int 0 tA] 0),toks:=tk}∧cO (L.map (·.1))=some ns∧i=ns.sum∧ ∀s' r' t',af c G.ρc G.sc ⟨r',G.P⟩ Ki s'→Q (.int i t') s'):
 H9 (model c.prog c.w) A (call (.builtin "sum") [.ref ga]) Q E s:=by
 refine IR F.kind_sum F.plain_sum F.entry_sum (F.args_sum1 _) ?_;unfold Builtin.«sum»
 refine bU (show¬(1:Nat)+0>2 by decide) ?_
 change let K0:=_;let Q0:=_;H9 _ _ (_>>=K0) Q0 _ _;intros
 refine H_ (Ih (show Builtin.Builtins.bindParams "sum" ["start"] 0 {}=pure [none]from rfl) ?_)
 change let K0:=_;let Q0:=_;H9 _ _ (_>>=K0) Q0 _ _;intros
 refine H_ (IS hg ?_)
 change let K0:=_;let Q0:=_;H9 _ _ (_>>=K0) Q0 _ _;intros
 refine H_ (wpAny_mkInt ?_)
 change let K0:=_;let Q0:=_;H9 _ _ (_>>=K0) Q0 _ _;intros
 refine H_ (H' ?_)
 change let K0:=_;let Q0:=_;H9 _ _ (_>>=K0) Q0 _ _;intros
 refine H_ ?_;rw[GT]
 change let K0:=_;let Q0:=_;H9 _ _ (_>>=K0) Q0 _ _;intros
 refine H_ (H_ (IC (T:="int") (b:=false) (IE _ _ _) PySem.sub_int_str (bU FT (H' ?_))));refine(?_:H9 _ _ (forIn (_::_) _ _) _ _ _);rw[GT]
 change let K0:=_;let Q0:=_;H9 _ _ (_>>=K0) Q0 _ _;intros
 refine H_ (H_ (IC (T:="int") (b:=false) (IE _ _ _) PySem.sub_int_bytes (bU FT (H' ?_))));refine(?_:H9 _ _ (forIn (_::_) _ _) _ _ _);rw[GT]
 change let K0:=_;let Q0:=_;H9 _ _ (_>>=K0) Q0 _ _;intros
 refine H_ (H_ (IC (T:="int") (b:=false) (IE _ _ _) PySem.sub_int_bytearray (bU FT (H' ?_))));refine(?_:H9 _ _ (forIn [] _ _) _ _ _);rw[List.forIn_nil];refine H' ?_
 change let K0:=_;let Q0:=_;H9 _ _ (_>>=K0) Q0 _ _;intros
 refine H_ (Ig ?_);obtain⟨G,r,en,σ,t,L,ns,Ki,ok,kn,w,he,x,hns,hi,hQ⟩:=h s.toks (s.toks+1);refine H' ⟨Ik Jn _,sV ok kn w he L [] (Or.inl rfl) x hns (JF _ rfl) fun s' r' t' T=> ?_⟩;rw[Int.zero_add,←hi];exact hQ s' r' t' T
mutual
noncomputable def jv:V→Bool
 | .val _=>true
 | .int _=>true
 | .str _=>true
 | .tup l=>br l
 |_=>false
noncomputable def br:List V→Bool
 |[]=>true
 |x::l=>jv x&&br l
end
theorem R.solidB{r r' P D:List Addr}(st:aO c ⟨Kt,P⟩ KA h)(x:d9 c (D++Kt) h h')(hD: ∀a∈D,a∈P)(st':aO c ⟨r',P⟩ J1 h'):
 (∀{y v},R h ⟨r,P⟩ y v→jv y=true→R h' ⟨r',P⟩ y v)∧(∀{y v},Rs h ⟨r,P⟩ y v→br y=true→Rs h' ⟨r',P⟩ y v):=
 R.both (P:=fun y v=>jv y=true→R h' ⟨r',P⟩ y v) (Q:=fun y v=>br y=true→Rs h' ⟨r',P⟩ y v) (fun u_=> .val) (fun u_=> .int) (fun u_=> .str)
  (fun {_ a vs n} h1 f u_ rs e=>have h2:h'.get? a=some (am vs n):=x.get (fun m=>(Gl.mp m).elim (fun q=>f.2 (hD _ q)) (st.notin h1 (by exact not_eq_of_beq_eq_false rfl) (by exact not_eq_of_beq_eq_false rfl))) h1 rfl
   .tup h2 ⟨st'.notin h2 (by exact not_eq_of_beq_eq_false rfl) (by exact not_eq_of_beq_eq_false rfl),f.2⟩ (rs e)) (fun u_ e=>bI e) (fun u_ u_ u_ e=>bI e) (fun u_ u_ e=>bI e) (fun u_=> .nil) fun u_ q u_ qs e=> .cons (q (FR.mp e).1) (qs (FR.mp e).2)
theorem Rs.solid{r r' P D:List Addr}(st:aO c ⟨Kt,P⟩ KA h)(x:d9 c (D++Kt) h h')(hD: ∀a∈D,a∈P)(st':aO c ⟨r',P⟩ J1 h'){y:List V}{v:List Value}(e:br y=true)(q:Rs h ⟨r,P⟩ y v):Rs h' ⟨r',P⟩ y v:=(R.solidB st x hD st').2 q e
theorem kN:br l=true→br m=true→br (l++m)=true:=by
 induction l with
 |nil=>exact fun u_ h=>h
 |cons x l ih=>
  intro h1 h2
  replace h1:=FR.mp (show(jv x&&br l)=true from h1)
  exact FR.mpr ⟨h1.1,ih h1.2 h2⟩
theorem sU{G:gV}{g:Nat}{S:Addr}{res:Value}{R:Result→Shared→Prop}(ok:oB G)(kn:cU G g ga A.in1)(w:B9 G ga S)(hDP: ∀a∈G.D,a∈G.P)(he:G.e=some Ki):
 ∀(rem pre:List rN) {en:En} {σ:Sg} {t:It} {r:List Addr} {s:Shared} {acc:List V} {vs:List Value} {k:Nat},fg c G g ga pre rem r en σ t s→br (rem.map (·.1))=true→br acc=true→acc.length+rem.length≤2^20→s.heap.get? S=some (az vs k)→Internal.Rs s.heap ⟨r,G.P⟩ acc vs→
  (∀s' r' vs' k',af c G.ρc G.sc ⟨r',G.P⟩ Ki s'→s'.heap.get? S=some (az vs' k')→Internal.Rs s'.heap ⟨r',G.P⟩ (acc++rem.map (·.1)) vs'→R (.ok (.ret res)) s')→codeAny (model c.prog c.w) A (.builtin "list.extend.loop" ⟨[.ref S,.ref ga,res],[]⟩) R s:=by
 intro rem
 induction rem with
 |nil=>
  intro pre en σ t r s acc vs k x hsol hsa hz hS ra hR;refine Ii JE ?_;rw[IW Jl _];show H9 _ A.in1 (pyNext (.ref ga)>>=_) _ _ s
  change let K0:=_;let Q0:=_;let E0:=_;H9 _ _ (_>>=K0) Q0 E0 _;intros
  refine H_ (Ia (cP ok kn x (.inr (by rw[he];rfl))).pyNext (fun rr J5 Kc=> ?_) fun u_ u_ z=>z)
  cases rr with
  |some v=>refine fk Kc fun u_ u_ u_ u_ u_ u_ q u_=> ?_;exact B4 q
  |none=>
   refine lU Kc fun u_ J1 r' he' T hs=> ?_;rw[he]at he';obtain rfl:=H8 he';refine bc (id hs) fun Kt KA LK xx=> ?_
   exact H' (hR J5 r' vs k T (hs.kept w.P w.D hS rfl) (by simpa using ra.solid LK xx hDP T.sto hsa))
 |cons z rem ih=>
  intro pre en σ t r s acc vs k x hsol hsa hz hS ra hR;obtain⟨LJ,Ln,KA,Ll⟩:=z
  replace hsol:=FR.mp (show(jv _&&br _)=true from hsol)
  refine Ii JE ?_;rw[IW Jl _];show H9 _ A.in1 (pyNext (.ref ga)>>=_) _ _ s
  change let K0:=_;let Q0:=_;let E0:=_;H9 _ _ (_>>=K0) Q0 E0 _;intros
  refine H_ (Ia (cP ok kn x (.inr (by rw[he];rfl))).pyNext (fun rr J5 Kc=> ?_) fun u_ u_ z=>z)
  cases rr with
  |none=>exact absurd Kc.1 (by exact Hf _ _)
  |some v=>
   refine fU Kc fun y en' J1 t' l r' q x' rv hs=> ?_
   cases q
   have KH:=hs.kept w.P w.D hS rfl;refine bc (id hs) fun Kt J2 LK xx=> ?_
   have ra₁:=ra.solid LK xx hDP x'.st.at_.st hsa
   have hv:vs.length≤2^20:=by rw[←ra.length];exact asl ‹_›
   show H9 _ A.in1 (updateSeq S (·.push v)>>=_) _ _ _
   change let K0:=_;let Q0:=_;let E0:=_;H9 _ _ (_>>=K0) Q0 E0 _;intros
   refine H_ (Iy KH rfl ?_ (by simp;exact Hu hv (by decide)) (by simp;exact Hu hv (by decide)))
   have hg:(J5.heap.update S (JR (·.push v))).get? S=some (az (vs++[v]) (k+1)):=by
    rw[JJ _ KH (by rw[d8];rfl),d8]
   have J7:ad c [S] ⟨r',G.P⟩ J5 ⟨r',G.P⟩ KA {J5 with heap:=J5.heap.update S (JR (·.push v)),toks:=J5.toks}:=ad.same (t:=J5.toks) x'.st.at_.ok x'.st.at_.st x'.st.at_.gd w.P (JN ..)
   have LB:=ad.Rs (by simpa using w.P) J7 (ra₁.append (.cons rv .nil))
   refine H' ⟨Ik Jl _,ih _ (acc:=acc++[LJ]) (x'.write (tk:=J5.toks) ok kn w KH) hsol.2 (kN hsa (by simp[br,hsol.1])) (by simp at hz⊢;exact Ea ‹_›) hg LB fun s' r'' vs' k' T hS' rr=> ?_⟩
   exact hR s' r'' vs' k' T hS' (by simpa using rr)
theorem o4{g:Nat}{Q:List Value→Shared→Prop}(hg:s.heap.IsGen ga g)
 (h: ∃G r en σ t L Ki,oB G∧cU G g ga A.in1∧B9 G ga s.heap.objs.size∧(∀a∈G.D,a∈G.P)∧G.e=some Ki∧fg c G g ga [] L r en σ t {s with heap:=s.heap.push (az [] 0),toks:=s.toks}∧L.map (·.1)=l∧br l=true∧l.length≤2^20∧
  ∀s' r' vs',af c G.ρc G.sc ⟨r',G.P⟩ Ki s'→Internal.Rs s'.heap ⟨r',G.P⟩ l vs'→Q vs' s'):H9 (model c.prog c.w) A (collect (.ref ga)) Q E s:=by
 obtain⟨G,r,en,σ,t,L,Ki,ok,kn,w,hDP,he,x,rfl,hsol,hz,hQ⟩:=h;have hSg:s.heap.objs.size≠ga:=w.ne;unfold collect;refine H_ (wpAny_runValue (Ii F.entry_proto_collect ?_));rw[IW F.plain_proto_collect _];show H9 _ A.in1 (newList []>>=fun l=>again (.builtin "list.__iadd__" ⟨[l,.ref ga],[]⟩)) _ _ s;refine H_ (Ig ?_);refine H' ⟨Ik Jr _,Ii F.entry_list_iadd ?_⟩;rw[IW Jr _]
 show H9 _ A.in1 (IZ (.ref s.heap.objs.size) (.ref ga) (.ref s.heap.objs.size)) _ _ {s with heap:=s.heap.push (az [] 0),toks:=s.toks}
 unfold IZ;refine H_ (Iv x.gen.typeIs ?_)
 have h1:I2 (.ref s.heap.objs.size) (.ref ga)=false:=by exact decide_eq_false (by assumption)
 have h2:(Value.type "generator"==Value.type "list")=false:=by exact FW _
 have h3:(Value.type "generator"==Value.type "tuple")=false:=by assumption
 simp only[h1,h2,h3,FX,FV,if_false];refine H_ (IS x.gen ?_);refine H_ (Ic ?_);unfold I3;refine H_ (Ix x.gen.typeIs F.gen_no_len ?_);show H9 _ A.in1 (specialOf (JX ga) (JW "__length_hint__")>>=_) _ _ _;refine H_ (Ix x.gen.typeIs F.gen_no_hint ?_);refine H' ?_
 show H9 _ A.in1 (rule "list.extend.makes-room">>=fun u_=>Builtin.List.listTouch (.ref s.heap.objs.size)>>=fun u_=>
  again (.builtin "list.extend.loop" ⟨[.ref s.heap.objs.size,.ref ga,.ref s.heap.objs.size],[]⟩)) _ _ _
 refine H_ (Ie ?_);have KH:(s.heap.push (az [] 0)).get? s.heap.objs.size=some (az [] 0):=JF _ rfl;refine H_ ?_;show H9 _ A.in1 (updateSeq s.heap.objs.size (·.push .none)>>=fun u_=>updateSeq s.heap.objs.size (·.pop)) _ _ _;refine H_ (Iy KH rfl ?_);have LL:=JJ (JR (·.push JY)) KH rfl;refine Iy LL rfl ?_;have hS₃:=JJ (JR (·.pop)) LL rfl;have x2:=x.write (f:=JR (·.push JY)) (tk:=s.toks) ok kn w KH;have x3:=x2.write (f:=JR (·.pop)) (tk:=s.toks) ok kn w LL
 refine H' ⟨Ik Jl _,sU ok kn w hDP he L [] (acc:=[]) x3 hsol rfl (by simpa using hz) hS₃ .nil fun s' r' vs' k' T hS' rr=> ?_⟩
 show H9 _ A (load s.heap.objs.size>>=_) _ _ s';refine H_ (wpAny_load hS' ?_)
 exact H' (hQ s' r' _ T (by simpa using rr))
theorem pw{g:Nat}(hg:s.heap.IsGen ga g)
 (h: ∃G r en σ t L Ki,oB G∧cU G g ga A.in1.in1.in1∧B9 G ga s.heap.objs.size∧(∀a∈G.D,a∈G.P)∧G.e=some Ki∧fg c G g ga [] L r en σ t {s with heap:=s.heap.push (az [] 0),toks:=s.toks}∧L.map (·.1)=l∧br l=true∧l.length≤2^20∧c.Ok∧
  ∀s' J3 v,af c G.ρc G.sc J3 Ki s'→Internal.R s'.heap J3 (.tup l) v→Q v s'):H9 (model c.prog c.w) A (call (.type "tuple") [.ref ga]) Q E s:=by
 obtain⟨G,r,en,σ,t,L,Ki,ok,kn,w,hDP,he,x,hL,hsol,hz,ok',hQ⟩:=h;have hT:s.TypeIs (.ref ga) "generator":=hg.typeIs;refine callType_codes (Q₁:=fun obj J5=>J5.TypeIs obj "tuple"∧Q obj J5) Jk (JC _) F.entry_object_init ?_ fun obj J5 Kc=> ?_
 ·refine IQ ?_
  show H9 _ A.in1.in1 (do checkBuiltinCall "tuple.__new__" ⟨[.type "tuple",.ref ga],[]⟩;again (.builtin "tuple.__new__" ⟨[.type "tuple",.ref ga],[]⟩)) _ _ s
  refine H_ (Ih (F.newCall_tuple_1 _) (H' ⟨Ik Js _,Ii F.entry_tuple_new ?_⟩));rw[IW Js _];have hsub:=sub_tuple_self;have hinit:=init_tuple_lookup;have hmh:=madeHere_tuple;have hc:=fun {Q':List Value→Shared→Prop} {E':Value→Shared→Prop} (hq: ∀s' r' vs',af c G.ρc G.sc ⟨r',G.P⟩ Ki s'→Internal.Rs s'.heap ⟨r',G.P⟩ l vs'→Q' vs' s')=>
   o4 (A:=A.in1.in1) (E:=E') hg ⟨G,r,en,σ,t,L,Ki,ok,kn,w,hDP,he,x,hL,hsol,hz,hq⟩
  wp_walk using Iv hT,hc
  intro s' r' vs S rs;show H9 _ _ (Je vs.toArray>>=fun v=>ret v) _ _ _;unfold Je
  refine H_ (Ig ?_ (by show vs.toArray.size≤sizeLine;simp[←rs.length];exact Hu hz (by decide)))
  have J7:af c ⟨r',G.P⟩ s' ⟨r',G.P⟩ Ki {s' with heap:=s'.heap.push (am vs 0),toks:=s'.toks}:=af.push (t:=s'.toks) ok' S.sto S.gd
  exact H' ⟨⟨_,JF _ rfl,rfl⟩,hQ _ _ _ (S.trans J7) (.tup (JF _ rfl) (S.sto.new (Hv _)) (J7.Rs rs))⟩
 ·exact⟨Kc.1,JD obj _,object_init_meets Jk.init.lookup Jk.made (by exact ac) c.prog c.w A.in1 _ J5 ⟨Kc.1,rfl,Kc.2⟩⟩
end
section
variable {env:Env}{d:Nat}
noncomputable def xK(nx:yR)(en:En)(σ:Sg)(t:It):Option (aD V):=(dT nx false av en σ t).map fun p=> .ok (.bool (!p.1)) p.2
noncomputable def yh(nx:yR)(en:En)(σ:Sg)(t:It):Option (aD V):=(dT nx true av en σ t).map fun p=> .ok (.bool p.1) p.2
noncomputable def xV(nx:yR)(en:En)(σ:Sg)(t:It):Option (aD V):=(dQ nx av en σ t).bind fun p=>(cO p.1).map fun ns=> .ok (.int ns.sum) p.2
noncomputable def yW(nx:yR)(en:En)(σ:Sg)(t:It):Option (aD V):=(dQ nx av en σ t).bind fun p=>if(br p.1&&decide (p.1.length≤2^20))=true then some (.ok (.tup p.1) p.2)else none
noncomputable def su(fv:Value)(nx:yR)(en:En)(σ:Sg)(t:It):Option (aD V):=match fv with
 | .builtin id=>if id="all" then xK nx en σ t else if id="any" then yh nx en σ t else if id="sum" then xV nx en σ t else none
 | .type T=>if T="tuple" then yW nx en σ t else none
 |_=>none
theorem BL(e:su fv nx en σ t=some o)(k1: ∀b Ki,fv= .builtin "all"→dT nx false av en σ t=some (b,Ki)→o= .ok (.bool (!b)) Ki→P)(k2: ∀b Ki,fv= .builtin "any"→dT nx true av en σ t=some (b,Ki)→o= .ok (.bool b) Ki→P)
 (k3: ∀ys ns Ki,fv= .builtin "sum"→dQ nx av en σ t=some (ys,Ki)→cO ys=some ns→o= .ok (.int ns.sum) Ki→P) (k4: ∀ys Ki,fv= .type "tuple"→dQ nx av en σ t=some (ys,Ki)→br ys=true→ys.length≤2^20→o= .ok (.tup ys) Ki→P):P:=by
 cases fv with
 |builtin id=>
  exact eV (show(if id="all" then xK nx en σ t else if id="any" then yh nx en σ t else if id="sum" then xV nx en σ t else none)=some o from e) (fun h e=>aM e fun p hp w=>k1 p.1 p.2 (by exact congrArg _ (by assumption)) hp w.symm) fun u_ e=>
   eV e (fun h e=>aM e fun p hp w=>k2 p.1 p.2 (by exact congrArg _ (by assumption)) hp w.symm) fun u_ e=>bH e fun h e=>ae e fun p hp e=>aM e fun ns hn w=>k3 p.1 ns p.2 (by rw[h]) hp hn w.symm
 |type T=>exact bH (show(if T="tuple" then yW nx en σ t else none)=some o from e) fun h e=>ae e fun p hp e=>bH e fun hs w=>k4 p.1 p.2 (by exact congrArg _ (by assumption)) hp (FR.mp hs).1 (of_decide_eq_true (FR.mp hs).2) (H8 w).symm
 |_=>exact no e
variable (c)in
noncomputable def dg(iv:iM)(tr:lf)(f:fL)(en:En)(σ:Sg)(fn:Str)(elt target iter:Expr)(ifs:List Expr)(scope:Scope):Option (aD V):=
 if(fw iter&&scope.kind== .function&& !scope.isCoroutine&&dO scope.names en&&scope.names.lookup (".0":Str)==some .local)=true then en.code.bind fun cc=>(aP c en fn).bind fun z=>(kr z).bind fun fv=>(c.cs.lookup cc).bind fun u_=>
  (iv en σ iter).bind fun r=>(ut r).bind fun q=>(aA q.2 q.1).bind fun t=>su fv (mJ (di 8) tr f target ifs elt av) (dw scope.names en) q.2 t
 else none
theorem uW{iv:iM}(e:dg c iv tr f en σ fn elt target iter ifs scope=some o)
 (k: ∀cc fv p x J2 t,(fw iter&&scope.kind== .function&& !scope.isCoroutine&&dO scope.names en&&scope.names.lookup (".0":Str)==some .local)=true→en.code=some cc→aP c en fn=some (.val fv)→c.cs.lookup cc=some p→iv en σ iter=some (.ok x J2)→aA J2 x=some t→
  su fv (mJ (di 8) tr f target ifs elt av) (dw scope.names en) J2 t=some o→P):P:=
 bH e fun hp e=>ae e fun cc hcc e=>ae e fun z hz e=>ae e fun fv hfv e=>ae e fun p hP e=>ae e fun r hr e=>ae e fun q hq e=>ae e fun t ht e=>k cc fv p q.1 q.2 t hp hcc (by rw[hz,ik hfv]) hP (qu hq▸hr) ht e
theorem qA.lt{cenv:Env}{Ip:List Addr}{g:Nat}
 (B:qA c ρ s en σ t target elt iter ifs scope pos v s' cenv Ip a ga g J3):s'.heap.objs.size∉cenv.locals::Ip∧s'.heap.objs.size≠ga:=by
 refine⟨fun m=> ?_,fun q=> ?_⟩
 ·rcases Gp.mp m with q|q
  ·have:=(B.step.sto.plow _ B.env.out).2;rw[←q]at this;exact absurd this (HI _)
  ·exact absurd (B.step.sto.plow _ (B.itr.priv.1 _ q)).2 (HI _)
 ·have:=(B.step.sto.plow _ B.gaP).2;rw[←q]at this;exact absurd this (HI _)
theorem qf{l:List (Addr×Addr)}{b:Addr}:l.lookup a=some b→(a,b)∈l:=by
 induction l with
 |nil=>exact fun h=>no h
 |cons p l ih=>
  intro h
  replace h:(match a==p.1 with|true=>some p.2|false=>l.lookup a)=some b:=h
  cases q:a==p.1 with
  |true=>
   rw[q]at h;obtain rfl:=H8 h;rw[Gj q];exact .head _
  |false=>rw[q]at h;exact .tail _ (ih h)
theorem oK{iv:iM}{np gpos:Pos}(hi:hY c (d+1) iv)(ht:eK c d tr)(hf:bE c d f)(e:dg c iv tr f en σ fn elt target iter ifs scope=some o)(a:At c A env en ρ σ s (d+1)):
 bk c A (eval (.Call (.Name fn np) [.GeneratorExp elt [⟨target,iter,ifs,0⟩] scope gpos] [] pos) env) ρ s o:=by
 refine uW e fun cc fv P x J2 t hp hcc hfv hP hx hit e=> ?_;simp only[FS,beq_iff_eq,FZ]at hp;obtain⟨⟨⟨⟨p1,p2⟩,p3⟩,p4⟩,p5⟩:=hp;have hm:(cc,P)∈c.cs:=qf hP;refine mF (fG p4) fun o1 o2 o3=> ?_;show H9 _ _ _ _ _ _
 rw[gk (fun u_ u_ u_ q=>by cases q)]
 change let K0:=_;let Q0:=_;let E0:=_;H9 _ _ (_>>=K0) Q0 E0 _;intros
 refine H_ (aq.go (gP (A:=A) (pos:=np) a.ok a.st a.gd a.er hfv) (fun y KA q Lp Ka Kj Ko Kt=> ?_) (fun u_ u_ q=>by exact iO q))
 cases q
 cases Kt using R.valE
 have KO:=a.step Ko;have made: ∀{Q:List Value→Shared→Prop} {E:Value→Shared→Prop},(∀s' cenv Ip b ga g J3,qA c Kj Ka en J2 t target elt iter ifs scope gpos (.ref ga) s' cenv Ip b ga g J3→Q [.ref ga] s')→
  H9 (model c.prog c.w) A (spliced (backTo pos (starEach [.GeneratorExp elt [⟨target,iter,ifs,0⟩] scope gpos] env))) Q E Ka:=by
  intro Q E hq;refine II (vh hi p1 p2 p3 p4 p5 hcc hm hx hit KO fun v s' cenv Ip b ga g J3 B=>IN ?_);have hv:=B.v;subst hv;exact hq s' cenv Ip b ga g J3 B
 have road: ∀{fv:Value} {Q:Value→Shared→Prop} {E:Value→Shared→Prop},bK c.K fv=true→(∀s' cenv Ip b ga g J3,qA c Kj Ka en J2 t target elt iter ifs scope gpos (.ref ga) s' cenv Ip b ga g J3→H9 (model c.prog c.w) A (call fv [.ref ga]) Q E s')→
  H9 (model c.prog c.w) A (callWith pos fv [] (backTo pos (starEach [.GeneratorExp elt [⟨target,iter,ifs,0⟩] scope gpos] env)) (backToKw pos (keywordEach [] env))) Q E Ka:=by
  intro fv Q E hc hq;refine iV (K:=c.K) rfl rfl hc (made fun s' cenv Ip b ga g J3 B=>kws_nil ⟨B.step.gd.kin,?_⟩);exact hq s' cenv Ip b ga g J3 B
 have rm: ∀{J3:Pl} {J1:Sg} {s':Shared},af c Kj Ka J3 J1 s'→d_ c J3 A (d+1) s'.heap:=fun S=>S.room KO.st KO.room;refine BL e (fun b₁ Ki h hu q=> ?_) (fun b₁ Ki h hu q=> ?_) (fun ys ns Ki h hu hns q=> ?_) fun ys Ki h hu hs1 hs2 q=> ?_
 ·subst h q;refine dy (lX _ hu) fun L Kf hc hw hus=> ?_;refine road rfl fun s' cenv Ip b ga g J3 B=> ?_
  refine mF (B.ready (A:=A.in1) (Lc:=A) (L:=L) (e:=Kf) a.ok ht hf (.refl B.step.sto B.step.gd) rfl o1 hc hw (rm B.step) rfl rfl rfl (show A.units+1≤A.units+4 from HM (by decide) _)) fun ok kn xr=> ?_
  exact xg ok kn xr hw hus fun s'' r' S=>bW.now (Ko.trans S) .val
 ·subst h q;refine dy (lX _ hu) fun L Kf hc hw hus=> ?_;refine road rfl fun s' cenv Ip b ga g J3 B=> ?_
  refine mF (B.ready (A:=A.in1) (Lc:=A) (L:=L) (e:=Kf) a.ok ht hf (.refl B.step.sto B.step.gd) rfl o1 hc hw (rm B.step) rfl rfl rfl (show A.units+1≤A.units+4 from HM (by decide) _)) fun ok kn xr=> ?_
  exact wj ok kn xr hw hus fun s'' r' S=>bW.now (Ko.trans S) .val
 ·subst h q;refine aK (lq _ hu) fun L hc hys=> ?_;refine road rfl fun s' cenv Ip b ga g J3 B=> ?_;refine tY (i:=ns.sum) B.gen fun tA tk=> ?_
  have J4:af c J3 s' ⟨J3.r,s'.heap.objs.size::J3.p⟩ J2 {s' with heap:=s'.heap.push (az [.int 0 tA] 0),toks:=tk}:=af.priv (t:=tk) a.ok B.step.sto B.step.gd
  refine mF (B.ready (A:=A.in1) (Lc:=A) (L:=L) (e:=some Ki) a.ok ht hf J4 rfl o1 hc (.inr rfl) (rm (B.step.trans J4)) rfl rfl rfl (show A.units+1≤A.units+4 from HM (by decide) _)) fun ok kn xr=> ?_
  exact⟨_,_,_,_,_,L,ns,Ki,ok,kn,⟨.head _,B.lt.1,B.lt.2,B.step.rest.hsize⟩,rfl,xr,by rw[hys];exact hns,rfl,fun s'' r' t' S=>bW.now (Ko.trans S) .int⟩
 ·subst h q;refine aK (lq _ hu) fun L hc hys=> ?_;refine road rfl fun s' cenv Ip b ga g J3 B=> ?_
  have J4:af c J3 s' ⟨J3.r,s'.heap.objs.size::J3.p⟩ J2 {s' with heap:=s'.heap.push (az [] 0),toks:=s'.toks}:=af.priv (t:=s'.toks) a.ok B.step.sto B.step.gd
  refine mF (B.ready (A:=A.in1.in1.in1) (Lc:=A) (L:=L) (e:=some Ki) a.ok ht hf J4 rfl o1 hc (.inr rfl) (rm (B.step.trans J4)) rfl rfl rfl (show A.units+3≤A.units+4 from HM (by exact Hz _) _)) fun ok kn xr=> ?_
  refine pw (l:=ys) B.gen ⟨_,_,_,_,_,L,Ki,ok,kn,⟨.head _,B.lt.1,B.lt.2,B.step.rest.hsize⟩,aW (.tail _ B.env.out) fun z q=> .tail _ (B.itr.priv.1 _ q),rfl,xr,hys,hs1,hs2,a.ok,fun s'' KD v S r=>bW.now (Ko.trans S) r⟩
noncomputable def wl(σ:Sg):Nat→It→Option Bool
 |0,_=>none
 |n+1,t=>(aw σ t).bind fun r=>r.elim (some false) fun p=>(bq σ p.1).bind fun b=>if b=true then some true else wl σ n p.2
theorem Bl{R:Result→Shared→Prop}(hh:A.handled=none)(ok:c.Ok)(n:Nat): ∀(t:It) (s:Shared),wl σ n t=some b→aO c ρ σ s.heap→Gd c s.heap→bB s.heap ρ t I a→
 (∀s',ad c I ρ s ρ σ s'→R (.ok (.ret (.bool b))) s')→codeAny (model c.prog c.w) A (.builtin "any.loop" ⟨[.ref a],[]⟩) R s:=by
 induction n with
 |zero=>exact fun u_ u_ e u_ u_ u_ u_=>no e
 |succ n ih=>
  intro t s e st g i hR;refine Ii F.entry_any_loop ?_;rw[IW Jm _];show H9 _ A.in1 (pyNext (.ref a)>>=_) _ _ s;refine ae e fun r hn e=> ?_
  change let K0:=_;let Q0:=_;H9 _ _ (_>>=K0) Q0 _ _;intros
  refine ii e (fun hr e=> ?_) fun p hr e=> ?_
  ·subst hr;obtain rfl:=H8 e;exact H_ (It.pull0 (A:=A.in1) hh ok st g i hn fun J5 J4=>H_ (Ie (H' (hR J5 J4))))
  ·subst hr;refine ae e fun b' hb e=> ?_;refine H_ (It.pull (A:=A.in1) hh ok st g i hn fun w J5 J4 rv KP=> ?_);show H9 _ A.in1 (_>>=_) _ _ _;refine H_ (Ic (bV (c:=c) J4.sto hb rv fun k=> ?_))
   have J7:ad c I ρ J5 ρ σ {J5 with toks:=k}:=af.toks J4.sto J4.gd
   refine H_ (Iz ?_)
   cases b' with
   |true=>
    obtain rfl:=H8 e;exact H_ (Ie (H' (hR _ (J4.trans J7))))
   |false=>exact H' ⟨Ik Jm _,ih p.2 _ e J4.sto J4.gd KP fun s' Kg=>hR s' ((J4.trans J7).trans Kg)⟩
noncomputable def Bb(σ:Sg)(xs:List IV):Option (aD IV):=(tu xs).bind fun x=>(aA σ x.1).bind fun t=>(wl σ 4096 t).map fun b=> .ok (.v (.bool b)) σ
theorem vL{xs:List IV}{o:aD IV}(hh:A.handled=none)(ok:c.Ok)(st:aO c ρ σ s.heap)(g:Gd c s.heap)(e:Bb σ xs=some o)(r:cL s.heap ρ xs I vs):
 H9 (model c.prog c.w) A (call (.builtin "any") vs) (qa c I (fun h J3 x v=> ∃J,nU h J3 x J v∧ ∀a∈J,a∈I∨s.heap.objs.size≤a) ρ s o) (jI c I ρ s o) s:=by
 refine ae e fun x u_ e=>ae e fun t ht e=>aM e fun b hb e=> ?_;subst e;rw[x.2]at r
 cases r with
 |cons r rs n1=>
 cases rs using cL.nilE
 refine IR F.kind_any F.plain_any F.entry_any (F.args_any1 _) ?_;unfold Builtin.«any»
 change let K0:=_;let Q0:=_;H9 _ _ (_>>=K0) Q0 _ _;intros
 refine H_ (m:=oneArg "any" _) (H' ?_)
 change let K0:=_;let Q0:=_;H9 _ _ (_>>=K0) Q0 _ _;intros
 refine H_ (dC ok st g ht r fun J3 J a s' S i k=> ?_);refine H' ⟨Ik Jm _,Bl (c:=c) (ρ:=J3) (σ:=σ) hh ok _ _ _ hb S.sto S.gd i fun s'' T=> ?_⟩
 exact⟨J3,ad.trans' S.D T fun z m=>(k z m).imp (fun q=>Gl.mpr (.inl q)) id,[],.v .val,by simp⟩
variable (c)in
noncomputable def aH(cf:gA):lA:=fun σ fv xs ks=>match fv with
 | .builtin id=>if id="any" then match ks with
  |[]=>Bb σ xs
  |_=>none
  else qE c cf σ fv xs ks
 |fv=>qE c cf σ fv xs ks
set_option tactic.hygienic true in
theorem pK{cf:gA}(hc:dD c (d+1) cf)(hc':dD c d cf):xP c (d+1) (aH c cf):=by
 intro A ρ σ s fv xs ks I vs kv o e ok st g room r rk;unfold aH at e
 split at e
 ·split at e
  ·rename_i id dm;subst dm
   split at e
   ·cases rk
    exact vL room.hand ok st g e r
   ·exact no e
  ·exact lj hc hc' e ok st g room r rk
 ·exact lj hc hc' e ok st g room r rk
theorem d_.down(r:d_ c ρ A (d+1) h):d_ c ρ A d h:=⟨r.hand,by have:=r.depth;exact rm0 ‹_›,by have:=r.units;exact ru0 ‹_›,r.frames⟩
theorem At.down(a:At c A env en ρ σ s (d+1)):At c A env en ρ σ s d:=⟨a.ok,a.st,a.gd,a.er,a.room.down⟩
theorem bE.up(h:bE c d f):bE c (d+1) f:=fun e a=>h e a.down
theorem eK.up{f:lf}(h:eK c d f):eK c (d+1) f:=fun e a=>h e a.down
theorem hY.up{f:iM}(h:hY c d f):hY c (d+1) f:=fun e a=>h e a.down
theorem gi.up{f:ei}(h:gi c d f):gi c (d+1) f:=fun e a tp=>h e a.down tp
theorem dD.up{f:gA}(h:dD c d f):dD c (d+1) f:=fun e ok st g room rx rk=>h e ok st g room.down rx rk
noncomputable def f7(o:Option (aD IV)):Option (aD V):=o.bind fun r=> @aD.casesOn IV (fun u_=>Option (aD V)) r (fun x σ=> @IV.casesOn (fun u_=>Option (aD V)) x (fun x=>some (.ok x σ)) fun u_=>none) fun cls σ=>some (.exc cls σ)
theorem aq.unlift{t:Sem Value}{o:Option (aD IV)}{o':aD V}(e:f7 o=some o')(h: ∀KG,o=some KG→aq c (B8 n) A t ρ s KG):bk c A t ρ s o':=by
 refine ae e fun KG ho e=> ?_
 cases KG with
 |ok x J2=>
  cases x with
  |v x=>
   obtain rfl:=H8 e
   refine aq.go (h _ ho) (fun x J1 q v s' J3 S r=> ?_) (fun u_ u_ q=>by exact iO q)
   refine jD q fun zz1 zz2=> ?_;subst zz1;subst zz2;refine aK r fun I r u_=> ?_
   cases r with
   |v r=>exact⟨J3,S,r⟩
  |it t=>exact no e
 |exc cls J2=>
  obtain rfl:=H8 e
  refine aq.go (h _ ho) (fun x J1 q=>by exact Em q) (fun u_ u_ q e' s' fl=> ?_)
  refine B5 q fun zz1 zz2=> ?_;subst zz1;subst zz2;exact fl.as
theorem bk.lift{t:Sem Value}{o:Option (aD V)}(e:gh o=some o')(h: ∀KG,o=some KG→bk c A t ρ s KG):aq c (B8 n) A t ρ s o':=by
 refine aM e fun r hr e=> ?_;subst e
 cases r with
 |ok x J2=>
  refine aq.go (h _ hr) (fun x J1 q v s' J3 S r=> ?_) (fun u_ u_ q=>by exact iO q)
  refine jD q fun zz1 zz2=> ?_;subst zz1;subst zz2;exact⟨J3,S,[],.v r,fun u_ m=>(GD m).elim⟩
 |exc cls J2=>
  refine aq.go (h _ hr) (fun x J1 q=>by exact Em q) (fun u_ u_ q e' s' fl=> ?_)
  refine B5 q fun zz1 zz2=> ?_;subst zz1;subst zz2;exact fl.as
set_option genInjectivity false in
structure Lv where
 ev:fL
 iv:iM
 tr:lf
 exs:ei
 cf:gA
variable (c)in
structure gz(n:Nat)(L:Lv):Prop where
 ev:bE c n L.ev
 iv:hY c n L.iv
 tr:eK c n L.tr
 exs:gi c n L.exs
 cf:dD c n L.cf
theorem gz.evU{L:Lv}(k:gz c d L):bE c (d+1) L.ev:=bE.up (f:=L.ev) k.ev
theorem gz.ivU{L:Lv}(k:gz c d L):hY c (d+1) L.iv:=hY.up (f:=L.iv) k.iv
theorem gz.trU{L:Lv}(k:gz c d L):eK c (d+1) L.tr:=eK.up (f:=L.tr) k.tr
theorem gz.exsU{L:Lv}(k:gz c d L):gi c (d+1) L.exs:=gi.up (f:=L.exs) k.exs
theorem gz.cfU{L:Lv}(k:gz c d L):dD c (d+1) L.cf:=dD.up (f:=L.cf) k.cf
noncomputable def cG(l:List Expr):Option (Expr×Expr×Expr×List Expr×Scope):=(tu l).bind fun e=>(Fs e.1).bind fun p=>(tu p.1.2.1).bind fun g=>if g.1.is_async=0 then some (p.1.1,g.1.target,g.1.iter,g.1.ifs,p.1.2.2.1)else none
noncomputable def mr(func:Expr)(args:List Expr)(kws:List Keyword):Option (Str×Expr×Expr×Expr×List Expr×Scope):=(im func).bind fun p=>if kws.isEmpty=true then(cG args).map fun q=>(p.1.1,q)else none
theorem wu{q:Expr×Expr×Expr×List Expr×Scope}(h:cG args=some q): ∃gp,args=[.GeneratorExp q.1 [⟨q.2.1,q.2.2.1,q.2.2.2.1,0⟩] q.2.2.2.2 gp]:=by
 refine eO h fun e h=>eO h fun p h=>eO h fun g h=>bH h fun hn h=> ?_;have w:=H8 h;subst w;exact⟨p.1.2.2.2,e.2.trans (congrArg (fun x=>[x]) (p.2.trans (congrArg (fun l=>Expr.GeneratorExp p.1.1 l p.1.2.2.1 p.1.2.2.2) (g.2.trans (congrArg (fun x=>[x]) (cp0 hn))))))⟩
theorem tR{q:Str×Expr×Expr×Expr×List Expr×Scope}(h:mr func args kws=some q):
 ∃np gp,func= .Name q.1 np∧args=[.GeneratorExp q.2.1 [⟨q.2.2.1,q.2.2.2.1,q.2.2.2.2.1,0⟩] q.2.2.2.2.2 gp]∧kws=[]:=by
 refine eO h fun p h=>bH h fun hk h=>aM h fun q h1 h2=> ?_;subst h2;exact oE (wu h1) fun gp w=>⟨p.1.2,gp,p.2,w,G4.mp hk⟩
variable (c)in
noncomputable def ca(L:Lv)(en:En)(σ:Sg)(func:Expr)(args:List Expr)(kws:List Keyword)(pos:Pos):Option (aD IV):=(mr func args kws).elim (nq c L.iv L.ev (aH c L.cf) en σ func args kws pos) fun q=>gh (dg c L.iv L.tr L.ev en σ q.1 q.2.1 q.2.2.1 q.2.2.2.1 q.2.2.2.2.1 q.2.2.2.2.2)
theorem jZ{L:Lv}{o:aD IV}(ok:gz c d L)(e:ca c L en σ func args kws pos=some o)(a:At c A env en ρ σ s (d+1)):aq c (B8 s.heap.objs.size) A (eval (.Call func args kws pos) env) ρ s o:=by
 refine ii e (fun u_ e=>xi ok.ivU ok.evU (pK ok.cfU ok.cf) e a) fun q hg e=> ?_;refine dy (tR hg) fun np gp w1 w2 w3=> ?_;rw[w1,w2,w3];exact bk.lift e fun KG h=>oK ok.ivU ok.tr ok.ev h a
noncomputable def unS(f:fL)(en:En)(σ:Sg)(op:UnaryOp)(x:Expr):Option (aD V):=match op with
 | .USub=>au (f en σ x) fun v J2=>(cR v).map fun i=> .ok (.int (-i)) J2
 | .Not=>au (f en σ x) fun v J2=>(bq J2 v).map fun b=> .ok (.bool (!b)) J2
 |_=>none
variable (c)in
noncomputable def evS(L:Lv):fL:=fun en σ e=> @Expr.casesOn (fun u_=>Option (aD V)) e (fun op es u_=>je L.ev en op σ es) (fun u_ u_ u_=>none) (fun l op r u_=>yV L.ev en σ l op r) (fun op x u_=>unS L.ev en σ op x) (fun u_ u_ u_ u_=>none) (fun t b e' u_=>au (L.tr en σ t) fun v J2=>if v then L.ev en J2 b else L.ev en J2 e') (fun u_ u_ u_=>none) (fun u_ u_ u_=>none) (fun elt gens scope u_=>b_ L.iv L.tr L.ev en σ elt gens scope) (fun u_ u_ u_ u_=>none) (fun u_ u_ u_ u_ u_=>none) (fun u_ u_ u_ u_=>none) (fun u_ u_=>none) (fun u_ u_=>none) (fun u_ u_=>none) (fun l ops es u_=>gD L.ev en σ l ops es) (fun func args kws pos=>f7 (ca c L en σ func args kws pos)) (fun u_ u_ u_ u_=>none) (fun u_ u_=>none) (fun k u_ u_=>(nL k).map fun y=> .ok y σ) (fun v n u_=>r7 (c:=c) L.ev L.cf en σ v n) (fun v sl u_=>CD L.ev en σ v sl) (fun u_ u_=>none) (fun x u_=>(aP c en x).map fun y=> .ok y σ) (fun es u_=>au (fj L.ev en σ es) fun xs J2=>if xs.length≤2^20 then some (.ok (.lst J2.length) (J2++[.lst xs]))else none) (fun es u_ u_=>au (fj L.ev en σ es) fun xs J2=>if xs.length≤2^20 then some (.ok (.tup xs) J2)else none) (fun u_ u_ u_ u_=>none)
theorem x8{L:Lv}(ok:gz c d L):bE c (d+1) (evS c L):=by
 intro A env en ρ σ s e o h a
 cases e with
 |Constant k n p=>refine aK (H3.mp h) fun y hy zz2=> ?_;subst zz2;exact lQ a.st a.gd hy
 |Name x p=>refine aK (H3.mp h) fun y hy zz2=> ?_;subst zz2;exact gP a.ok a.st a.gd a.er hy
 |BinOp l op r p=>exact sY ok.evU h a
 |UnaryOp op x p=>
  cases op with
  |USub=>exact yv ok.evU h a
  |Not=>exact xX ok.evU h a
  |_=>exact no h
 |IfExp t b e' p=>exact uf ok.evU ok.trU h a
 |Tuple es k p=>exact uq ok.evU h a
 |List es p=>exact uL ok.evU h a
 |Compare l ops es p=>exact oZ ok.evU h a
 |BoolOp op es p=>exact qX ok.evU h a
 |Subscript v sl p=>exact mG ok.evU h a
 |Attribute v n p=>exact mA ok.evU ok.cf h a
 |ListComp elt gens scope p=>exact iX ok.ivU ok.trU ok.evU h a
 |Call func args kws p=>exact aq.unlift h fun KG q=>jZ ok q a
 |_=>exact no h
variable (c)in
noncomputable def ivS(L:Lv):iM:=fun en σ e=>(wC e).elim (gh (L.ev en σ e)) fun p=>ca c L en σ p.1.1 p.1.2.1 p.1.2.2.1 p.1.2.2.2
theorem yl{L:Lv}(ok:gz c d L):hY c (d+1) (ivS c L):=by
 intro A env en ρ σ s e o h a;refine zG h (fun u_ h=>bk.lift h fun KG q=>ok.evU q a) fun p h=> ?_;rw[p.2];exact jZ ok h a
variable (c)in
noncomputable def Du(L:Lv)(en:En)(σ:Sg)(ts:List Expr)(e:Expr):Option aJ:=(tu ts).bind fun t=>(lcO e).elim (gZ c L.ev en σ t.1 e) fun p=>(im t.1).bind fun q=>
 if bF en q.1.1=true then bR en (b_ L.iv L.tr L.ev en σ p.1.1 p.1.2.1 p.1.2.2.1) fun y J1=>some (.ok .next (en.set q.1.1 y) J1)else none
theorem w_{L:Lv}{ts:List Expr}{o:aJ}(ok:gz c d L)(h:Du c L en σ ts e=some o)(a:At c A env en ρ σ s (d+1)):eC c A (exec (.Assign ts e pos) env) env ρ s o:=by
 refine eO h fun t h=>zG h (fun u_ h=> ?_) fun p h=>eO h fun q h=>bH h fun hx h=> ?_
 ·rw[t.2];exact mB ok.evU h a
 ·rw[t.2,p.2,q.2];exact mv ok.ivU ok.trU ok.evU hx h a
variable (c)in
noncomputable def DJ(L:Lv)(en:En)(σ:Sg)(e:Expr):Option aJ:=(wC e).bind fun p=>(im p.1.1).bind fun q=>(tu p.1.2.1).bind fun x=>if p.1.2.2.1.isEmpty=true then uR c L.ev en σ q.1.1 x.1 else none
theorem ux{L:Lv}{o:aJ}(ok:gz c d L)(h:DJ c L en σ e=some o)(a:At c A env en ρ σ s (d+1)):eC c A (exec (.Raise (some e) none pos) env) env ρ s o:=by
 refine eO h fun p h=>eO h fun q h=>eO h fun x h=>bH h fun hk h=> ?_;rw[p.2,q.2,x.2,G4.mp hk];exact ui ok.evU h a
variable (c)in
noncomputable def aR(L:Lv):Ep:=fun en σ st=> @Stmt.casesOn (fun u_=>Option aJ) st (fun u_ u_ u_ u_ u_ u_ u_ u_ u_ u_=>none) (fun u_ u_ u_ u_ u_ u_ u_ u_ u_ u_=>none) (fun u_ u_ u_ u_ u_ u_ u_ u_ u_ u_ u_=>none) (fun e u_=>e.elim (some (.ok (.ret .none) en σ)) fun e=>bR en (L.ev en σ e) fun x J1=>some (.ok (.ret x) en J1)) (fun u_ u_=>none) (fun ts e u_=>Du c L en σ ts e) (fun u_ u_ u_ u_ u_ u_ u_=>none) (fun t op e u_=>(im t).bind fun p=>yH L.ev en σ p.1.1 op e) (fun u_ u_ u_ u_ u_=>none) (fun target iter body orelse u_=>lR L.iv (eH c L.ev 8) L.exs en σ target iter body orelse) (fun u_ u_ u_ u_ u_=>none) (fun test body orelse u_=>jQ L.tr L.exs test body orelse av en σ) (fun t b e' u_=>bR en (L.tr en σ t) fun x J1=>if x then L.exs en J1 b else L.exs en J1 e') (fun u_ u_ u_=>none) (fun u_ u_ u_=>none) (fun u_ u_ u_=>none) (fun e m u_=>e.bind fun e=>m.elim (DJ c L en σ e) fun u_=>none) (fun body handlers orelse fin u_=>if(orelse.isEmpty&&fin.isEmpty)=true then re c L.exs en σ body handlers else none) (fun u_ u_ u_ u_ u_=>none) (fun test m u_=>m.elim (kI L.tr en σ test) fun u_=>none) (fun u_ u_=>none) (fun u_ u_ u_ u_=>none) (fun u_ u_=>none) (fun u_ u_=>none) (fun e u_=>if cg e=true then bR en (L.ev en σ e) fun y J1=>if aX y then some (.ok .next en J1)else none else none) (fun u_=>some (.ok .next en σ)) (fun u_=>some (.ok .brk en σ)) (fun u_=>some (.ok .cont en σ))
theorem yp{L:Lv}(ok:gz c d L):C4 c (d+1) (aR c L):=by
 intro A env en ρ σ s e o h a tp
 cases e with
 |Return e p=>
  cases e with
  |none=>obtain rfl:=H8 h;exact ku a
  |some e=>exact rA ok.evU h a
 |If t b e' p=>exact AJ ok.trU ok.exsU h a tp
 |Assign ts e p=>exact w_ ok h a
 |AugAssign t op e p=>
  refine eO h fun q h=> ?_;rw[q.2];exact x_ ok.evU h a
 |For target iter body orelse p=>exact yd ok.ivU (pd ok.evU 8) ok.exsU h a tp
 |While test body orelse p=>exact tB ok.trU ok.exsU h a tp
 |Assert test m p=>
  cases m with
  |none=>exact qH ok.trU h a
  |some=>exact no h
 |Raise e m p=>
  cases e with
  |none=>exact no h
  |some e=>
   cases m with
   |none=>exact ux ok h a
   |some=>exact no h
 |Try body handlers orelse fin p=>
  refine bH h fun hk h=> ?_;have hk:=FR.mp hk;obtain rfl:=G4.mp hk.1;obtain rfl:=G4.mp hk.2;exact zk ok.exsU h a tp
 |Expr e p=>
  change(if cg e=true then _ else none)=_ at h
  by_cases hn:cg e=true
  ·rw[if_pos hn]at h;exact uO ok.evU hn h a
  ·rw[if_neg hn]at h;exact no h
 |Pass p=>obtain rfl:=H8 h;exact uV a
 |Break p=>obtain rfl:=H8 h;exact sQ a
 |Continue p=>obtain rfl:=H8 h;exact nH a
 |_=>exact no h
variable (c)in
noncomputable def lvS(L:Lv):Lv:=⟨evS c L,ivS c L,As L.ev L.tr,AR (aR c L),vO c L.exs⟩
variable (c)in
noncomputable def lv:Nat→Lv
 |0=>⟨fun u_ u_ u_=>none,fun u_ u_ u_=>none,fun u_ u_ u_=>none,fun u_ u_ u_=>none,fun u_ u_ u_ u_=>none⟩
 |n+1=>lvS c (lv n)
theorem Cv(n:Nat):gz c n (lv c n):=by
 induction n with
 |zero=>
  constructor
  ·intro A env en ρ σ s e o h;exact no h
  ·intro A env en ρ σ s e o h;exact no h
  ·intro A env en ρ σ s e o h;exact no h
  ·intro A env en ρ σ s e o h;exact no h
  ·intro A ρ σ s a xs ks vs kv o h;exact no h
 |succ n ih=>exact⟨x8 ih,yl ih,fun e a=>yX ih.evU ih.trU e a,fun e a tp=>uM (yp ih) tp e a,tI ih.exs⟩
end
noncomputable def cx(q:Program)(w:World)(n₀:Nat)(T:List Addr)(mg mb:Str→Option Value)(base:Heap)(P:Params):Cx:=⟨q,w,KK P,n₀,T,CC,mg,mb,base,NM⟩
section
theorem Do{ks:List (Str×V)}(h1:ly c.K a=some fd)(h2:kB c.K fd=true)(h3:fd.body= .stmts body)(h4:jP c.K fd=some ds)
 (h5:eQ (fd.params.args.map (·.arg)) xs ks (ds.map xm)=some binds) (h6:gO fd.scope.names binds=true) (h:(lv c n).exs ⟨fd.scope.names,binds.reverse,[],mo fd.code⟩ σ body=some so) (ho:ir so=some o):(lv c (n+1)).cf σ a xs ks=some o:=by
 show vO c (lv c n).exs σ a xs ks=some o;show(ly c.K a).bind _=_;rw[h1]
 refine(if_pos h2:(if _ then _ else none)=_).trans ?_
 rw[h3];show(jP c.K fd).bind _=_;rw[h4];show(eQ _ _ _ _).bind _=_;rw[h5]
 refine(if_pos h6:(if _ then _ else none)=_).trans ?_
 rw[h];exact ho
theorem ao{o:aJ}(h:aR c (lv c n) en σ st=some o):(lv c (n+1)).exs en σ [st]=some o:=by
 show(aR c (lv c n) en σ st).bind _=some o;rw[h]
 cases o with
 |ok f en' J1=>cases f<;>rfl
 |exc=>rfl
theorem ab{r:List Stmt}{o:aJ}(h:aR c (lv c n) en σ st=some (.ok .next en' J1))(k:(lv c (n+1)).exs en' J1 r=some o):(lv c (n+1)).exs en σ (st::r)=some o:=by
 show(aR c (lv c n) en σ st).bind _=some o;rw[h];exact k
theorem vk{p:Pos}{v:V}(h:(lv c n).ev en σ e=some (.ok v J1)):aR c (lv c n) en σ (.Return (some e) p)=some (.ok (.ret v) en J1):=by
 show bR en ((lv c n).ev en σ e) _=_;rw[h];rfl
theorem Be{v:V}(h:mr func args kws=some (fn,elt,target,iter,ifs,scope))
 (k:dg c (lv c n).iv (lv c n).tr (lv c n).ev en σ fn elt target iter ifs scope=some (.ok v J1)):(lv c (n+1)).ev en σ (.Call func args kws pos)=some (.ok v J1):=by
 show f7 (ca c (lv c n) en σ func args kws pos)=_;unfold ca;rw[h];exact congrArg (fun o=>f7 (gh o)) k
noncomputable def eU(c:Cx)(en:En)(iter:Expr)(scope:Scope):Bool:=(fw iter&&scope.kind== .function&& !scope.isCoroutine&&dO scope.names en&&scope.names.lookup (".0":Str)==some .local)&&(match en.code with|some cc=>(c.cs.lookup cc).isSome|none=>false)
theorem fP{x:IV}(hf:eU c en iter scope=true)(hn:aP c en fn=some (.val fv))(hx:(lv c n).iv en σ iter=some (.ok x J2))(ht:aA J2 x=some t):
 dg c (lv c n).iv (lv c n).tr (lv c n).ev en σ fn elt target iter ifs scope=su fv (mJ (di 8) (lv c n).tr (lv c n).ev target ifs elt av) (dw scope.names en) J2 t:=by
 unfold eU at hf;refine oA (FR.mp hf) fun h1 h2=> ?_;unfold dg;rw[if_pos h1,hn]
 cases hc:en.code with
 |none=>rw[hc]at h2;exact bI h2
 |some cc=>
  rw[hc]at h2;refine oE (H4.mp h2) fun P hP=> ?_;show(c.cs.lookup cc).bind _=_;rw[hP,hx];show(aA J2 x).bind _=_;rw[ht];rfl
theorem tP{x:IV}(hf:eU c en iter scope=true)(hn:aP c en fn=some (.val (.type "tuple")))(hx:(lv c n).iv en σ iter=some (.ok x J2))(ht:aA J2 x=some t)
 (hd:dQ (mJ (di 8) (lv c n).tr (lv c n).ev target ifs elt av) av (dw scope.names en) J2 t=some (l,J6)) (hs:br l=true) (hl:l.length≤2^20):dg c (lv c n).iv (lv c n).tr (lv c n).ev en σ fn elt target iter ifs scope=some (.ok (.tup l) J6):=by
 rw[fP hf hn hx ht];show yW _ _ _ _=_;unfold yW;rw[hd]
 show(if(br l&&decide (l.length≤2^20))=true then _ else none)=_
 rw[hs,decide_eq_true hl];rfl
theorem t9{P:En→Prop}{ts:Nat→It}(h: ∀i y en,ys[i]? =some y→P en→ ∃en',P en'∧nx en σ (ts i)=some (some (y,en',ts (i+1)),σ))(hend: ∀en,P en→nx en σ (ts ys.length)=some (none,σ)):
 ∀(m k i:Nat) (en:En),i+m=ys.length→P en→dQ nx (m+k+1) en σ (ts i)=some (ys.drop i,σ):=by
 intro m
 induction m with
 |zero=>
  intro k i en hi hp
  have hi:i=ys.length:=by assumption
  subst hi
  rw[show 0+k+1=k+1 from by exact z1k]
  show(nx en σ (ts ys.length)).bind _=_;rw[hend en hp,List.drop_length];rfl
 |succ m ih=>
  intro k i en hi hp
  have hlt:i<ys.length:=by exact Eu ‹_›
  refine aK (h i ys[i] en (GB hlt) hp) fun en' hp' he=> ?_
  rw[show m+1+k+1=(m+k+1)+1 from by exact mac]
  have e:=ih k (i+1) en' (Dr ‹_›) hp';generalize m+k+1=q at e⊢;show(nx en σ (ts i)).bind _=_;rw[he];show(dQ nx q en' σ (ts (i+1))).map _=_;rw[e];rw[List.drop_eq_getElem_cons hlt];rfl
theorem sI{P:En→Prop}{ts:Nat→It}(h: ∀i y en,ys[i]? =some y→P en→ ∃en',P en'∧nx en σ (ts i)=some (some (y,en',ts (i+1)),σ))(hend: ∀en,P en→nx en σ (ts ys.length)=some (none,σ))(hl:ys.length<av)(hp:P en):
 dQ nx av en σ (ts 0)=some (ys,σ):=by
 have:=t9 h hend ys.length (av-1-ys.length) 0 en (HW _) hp
 rw[show ys.length+(av-1-ys.length)+1=av from by exact Eh ‹_›]at this
 simpa using this
theorem wQ(hn:aw σ t=some (some (x,t')))(ha:g target en σ x=some (Kf,σ))(hf:f Kf σ elt=some (.ok y σ)):mJ g tr f target [] elt av en σ t=some (some (y,Kf,t'),σ):=by
 show mJ g tr f target [] elt (4095+1) en σ t=_;show(aw σ t).bind _=_;rw[hn];show(g target en σ x).bind _=_;rw[ha];show(f Kf σ elt).bind _=_;rw[hf];rfl
theorem wB(hn:aw σ t=some none):mJ g tr f target ifs elt av en σ t=some (none,σ):=by
 show mJ g tr f target ifs elt (4095+1) en σ t=_;show(aw σ t).bind _=_;rw[hn];rfl
theorem AT(e:aw σ t=some none):bg σ (t::ts)=some none:=by rw[iP,e];rfl
theorem uB{ts':List It}(e:aw σ t=some (some (x,t')))(k:bg σ ts=some (some (xs,ts'))):bg σ (t::ts)=some (some (x::xs,t'::ts')):=by rw[iP,e];show(bg σ ts).map _=_;rw[k];rfl
theorem FA(e:aw σ t=some (some (x,t')))(k:bg σ ts=some none):bg σ (t::ts)=some none:=by rw[iP,e];show(bg σ ts).map _=_;rw[k];rfl
theorem nxz{ts':List It}(h:ts.length.ble 64=true)(e:bg σ ts=some (some (x::xs,ts'))):aw σ (.zip ts)=some (some (.tup (x::xs),.zip ts')):=by rw[vH,if_pos (HE h),e];rfl
theorem BU(h:ts.length.ble 64=true)(e:bg σ ts=some none):aw σ (.zip ts)=some none:=by rw[vH,if_pos (HE h),e];rfl
theorem nxq(h:l[i]? =some x):aw σ (.seq l i)=some (some (x,.seq l (i+1))):=by rw[w8,h];rfl
theorem nxe(h:l[i]? =none):aw σ (.seq l i)=some none:=by rw[w8,h];rfl
theorem nxl(g:aG σ k=some l)(h:l[i]? =some x):aw σ (.lst k i)=some (some (x,.lst k (i+1))):=by rw[vG,g];show some (xj l[i]? _)=_;rw[h];rfl
theorem C0(g:aG σ k=some l)(h:l[i]? =none):aw σ (.lst k i)=some none:=by rw[vG,g];show some (xj l[i]? _)=_;rw[h];rfl
theorem zI{l:List α}{f:α→β}{a:α}(h:l[i]? =some a):(l.map f)[i]? =some (f a):=by rw[GM,h];rfl
theorem gnl{l:List α}:l[l.length]? =none:=List.getElem?_eq_none (Hv _)
end
section
theorem kW{o:Option (aD α)}{k:α→Sg→Option (aD β)}{a:α}{r:Option (aD β)}(h:o=some (.ok a σ))(g:k a σ=r):au o k=r:=by rw[h];exact g
theorem Fk{o:Option (aD α)}{k:α→Sg→Option (aD β)}{x:String}(h:o=some (.exc x σ)):au o k=some (.exc x σ):=by rw[h];rfl
theorem BB{o:Option α}{f:α→Option β}{a:α}{r:Option β}(h:o=some a)(g:f a=r):o.bind f=r:=by rw[h];exact g
theorem mpd{o:Option α}{f:α→β}{a:α}{r:Option β}(h:o=some a)(g:some (f a)=r):o.map f=r:=by rw[h];exact g
theorem fO{x:Str}{p:Pos}(h:aP c en x=some y):(lv c (n+1)).ev en σ (.Name x p)=some (.ok y σ):=by
 show(aP c en x).map _=_;rw[h];rfl
theorem BI{l r:Expr}{p:Pos}{z:V}(h1:(lv c n).ev en σ l=some (.ok x J2))(h2:(lv c n).ev en J2 r=some (.ok y J6))(h3:mw J6 op x y=some (z,Kn)):(lv c (n+1)).ev en σ (.BinOp l op r p)=some (.ok z Kn):=by
 show yV _ en σ l op r=_;exact kW h1 (kW h2 (mpd h3 rfl))
theorem qG{l r:Expr}{p:Pos}{cls:String}(h1:(lv c n).ev en σ l=some (.ok x J2))(h2:(lv c n).ev en J2 r=some (.exc cls J6)):(lv c (n+1)).ev en σ (.BinOp l op r p)=some (.exc cls J6):=by
 show yV _ en σ l op r=_;exact kW h1 (Fk h2)
theorem zT{t b:Expr}{p:Pos}{v:Bool}(h1:(lv c n).tr en σ t=some (.ok v J2))(h2:(lv c n).ev en J2 (if v then b else e)=some o):(lv c (n+1)).ev en σ (.IfExp t b e p)=some o:=by
 show au ((lv c n).tr en σ t) _=_;refine kW h1 ?_
 cases v<;>exact h2
theorem gU:fj f en σ []=some (.ok [] σ):=rfl
theorem bA(hs:ak [e]=true)(h1:f en σ e=some (.ok x J2))(h2:fj f en J2 es=some (.ok xs J6)):fj f en σ (e::es)=some (.ok (x::xs) J6):=by
 show(if cZ e=true then none else au (f en σ e) fun x J2=>au (fj f en J2 es) fun xs J6=>some (.ok (x::xs) J6))=_
 rw[if_neg (bh hs).1,h1];show au (fj f en J2 es) _=_;rw[h2];rfl
theorem gI{p:Pos}(h:fj (lv c n).ev en σ es=some (.ok xs J2))(hl:xs.length≤2^20):(lv c (n+1)).ev en σ (.Tuple es k p)=some (.ok (.tup xs) J2):=by
 show au (fj (lv c n).ev en σ es) _=_;exact kW h (if_pos hl)
theorem xH{p:Pos}(h:fj (lv c n).ev en σ es=some (.ok xs J2))(hl:xs.length≤2^20):(lv c (n+1)).ev en σ (.List es p)=some (.ok (.lst J2.length) (J2++[.lst xs])):=by
 show au (fj (lv c n).ev en σ es) _=_;exact kW h (if_pos hl)
theorem nV{p:Pos}(hp:aS e=true)(h:(lv c n).ev en σ e=some (.ok x J2))(hg:jc c J2 x name=some (.val y)):(lv c (n+1)).ev en σ (.Attribute e name p)=some (.ok y J2):=by
 show r7 _ _ en σ e name=_;exact(if_pos hp).trans (kW h (BB hg rfl))
theorem x7{p:Pos}{f:Addr}(hp:aS e=true)(h:(lv c n).ev en σ e=some (.ok x J2))(hg:jc c J2 x name=some (.prop f))(hc:(lv c n).cf J2 f [x] []=some (.ok y J6))(hy:cY y=true):(lv c (n+1)).ev en σ (.Attribute e name p)=some (.ok y J6):=by
 show r7 _ _ en σ e name=_;exact(if_pos hp).trans (kW h (BB hg (BB hc (if_pos hy))))
theorem rS{C:Nat}{attr:Option Value}(hk:σ[k]? =some (.dct fs))(h1:(plainGet c.K C name&&hasDictIn c.K C)=true)(h2:findIn c.K (.ref C) name=some attr)(h3:eA fs name=some y)(h4:(noGet c.K attr&&cY y)=true):jc c σ (.inst C k) name=some (.val y):=by
 show(fm σ k).bind _=_;rw[kQ hk]
 show(if _ then _ else none)=_
 rw[if_pos h1,h2];show fX _ _ _ _=_;unfold fX;rw[h3];exact if_pos h4
theorem pG{p:Pos}{cls:String}(h:(lv c n).ev en σ e=some (.exc cls J1)):aR c (lv c n) en σ (.Return (some e) p)=some (.exc cls en J1):=by
 show bR en ((lv c n).ev en σ e) _=_;rw[h];rfl
theorem Cn{t:Expr}{b e:List Stmt}{p:Pos}{v:Bool}{o:aJ}(h1:(lv c n).tr en σ t=some (.ok v J2))(h2:(lv c n).exs en J2 (if v then b else e)=some o):aR c (lv c n) en σ (.If t b e p)=some o:=by
 show bR en ((lv c n).tr en σ t) _=_;simp only[bR,h1]
 cases v<;>exact h2
theorem t6{t:Expr}{p:Pos}{v:Bool}(h:(lv c n).tr en σ t=some (.ok v J2)):aR c (lv c n) en σ (.Assert t none p)=some (if v then .ok .next en J2 else .exc "AssertionError" en J2):=by
 show kI _ en σ t=_;simp only[kI,bR,h]
 cases v<;>rfl
theorem A1{x:Str}{p:Pos}(hc:cg e=true)(hx:bF en x=true)(h:(lv c n).ev en σ e=some (.ok y J2)):aR c (lv c n) en σ (.Assign [.Name x xp] e p)=some (.ok .next (en.set x y) J2):=by
 have:gZ c (lv c n).ev en σ (.Name x xp) e=some (.ok .next (en.set x y) J2):=by
  unfold gZ;refine dJ hc ?_;show bR en _ _=_;rw[h];show Option.map _ (eH c (lv c n).ev (7+1) (.Name x xp) en J2 y)=_
  show Option.map _ (if bF en x=true then _ else none)=_
  rw[if_pos hx];rfl
 cases e<;>first
  |exact this
  |exact bI hc
theorem ye{x:Str}{p cp:Pos}{gens:List Comprehension}(hx:bF en x=true)(h:b_ (lv c n).iv (lv c n).tr (lv c n).ev en σ elt gens scope=some (.ok y J2)):aR c (lv c n) en σ (.Assign [.Name x xp] (.ListComp elt gens scope cp) p)=some (.ok .next (en.set x y) J2):=by
 show(if bF en x=true then _ else none)=_
 refine dJ hx ?_;simp only[bR,h]
end
section
noncomputable def vo(t:It)(xs:List V):Prop:= ∃ts:Nat→It,ts 0=t∧ ∀σ:Sg,(∀i x,xs[i]? =some x→aw σ (ts i)=some (some (x,ts (i+1))))∧aw σ (ts xs.length)=some none
theorem vo.rng(a b:Int):vo (.rng a b 1) ((Gs b.toNat).map fun(i:Nat)=>V.int (a+(i:Int))):=by
 refine⟨fun i=> .rng (a+i) (b-i) 1,by simp,fun σ=>⟨fun i x h=> ?_,?_⟩⟩
 ·have hlt:i<b.toNat:=by
   have:=(Gy.mp h).1;simpa using this
  have hx:x= .int (a+i):=by simpa [GM,List.getElem?_range hlt]using h.symm
  subst hx
  have h0:(0:Int)<b-i:=by omega
  have e1:a+(i:Int)+1=a+((i+1:Nat):Int):=by exact scs
  have e2:b-(i:Int)-1=b-((i+1:Nat):Int):=by exact sct
  rw[qV,if_pos h0,e1,e2]
 ·have h0: ¬(0:Int)<b-((((Gs b.toNat).map fun(i:Nat)=>V.int (a+(i:Int))).length:Nat):Int):=by simp;omega
  rw[qV,if_neg h0]
end
section
theorem Aa(hc: ∀f a k p,e≠ .Call f a k p)(h:(lv c n).ev en σ e=some o)(ho:gh (some o)=some o'):(lv c (n+1)).iv en σ e=some o':=by
 have:(lv c (n+1)).iv en σ e=gh ((lv c n).ev en σ e):=by
  cases e<;>first|rfl|exact absurd rfl (hc _ _ _ _)
 rw[this,h,ho]
theorem fV{f:iM}:dX f en σ []=some (.ok [] σ):=rfl
theorem aL{f:iM}{x:IV}{xs:List IV}(hs:ak [e]=true)(h1:f en σ e=some (.ok x J2))(h2:dX f en J2 es=some (.ok xs J6)):dX f en σ (e::es)=some (.ok (x::xs) J6):=by
 show(if cZ e=true then none else au (f en σ e) fun x J2=>au (dX f en J2 es) fun xs J6=>some (.ok (x::xs) J6))=_
 rw[if_neg (bh hs).1,h1];show au (dX f en J2 es) _=_;rw[h2];rfl
theorem fF{iv:iM}{xs:List IV}{ks:List (Str×V)}{o:aD IV}(hc:(ak args&&ic kws&&bK c.K fv)=true)(h1:dX iv en σ args=some (.ok xs J2))(h2:tn f en J2 kws=some (.ok ks J6))
 (h3:cv J6 fv (first.map .v++xs) ks=some o):eX c iv f cv en σ fv first args kws=some o:=by
 unfold eX;refine dJ hc ?_;exact kW h1 (kW h2 h3)
theorem jS{x:Str}{np:Pos}{o:aD IV}(hg:mr (.Name x np) args kws=none)(hx:aP c en x=some (.val fv))(h:eX c (lv c (n+1)).iv (lv c (n+1)).ev (aH c (lv c (n+1)).cf) en σ fv [] args kws=some o):
 ca c (lv c (n+1)) en σ (.Name x np) args kws pos=some o:=by
 unfold ca;rw[hg];show au ((lv c (n+1)).ev en σ (.Name x np)) _=_;rw[fO hx];exact h
theorem gS{apos:Pos}{o:aD IV}(hp:(aS ob&&apos.endLine==pos.line&&decide (args.length+kws.length<20)&&ak args&&ic kws)=true)(hx:(lv c n).ev en σ ob=some (.ok x J2))
 (hm:ij c J2 x name=some (fv,first)) (h:eX c (lv c n).iv (lv c n).ev (aH c (lv c n).cf) en J2 fv first args kws=some o):ca c (lv c n) en σ (.Attribute ob name apos) args kws pos=some o:=by
 change(if(aS ob&&apos.endLine==pos.line&&decide (args.length+kws.length<20)&&ak args&&ic kws)=true then au ((lv c n).ev en σ ob) (fun x J2=>(ij c J2 x name).bind fun q=>eX c (lv c n).iv (lv c n).ev (aH c (lv c n).cf) en J2 q.1 q.2 args kws)else none)=_
 refine dJ hp ?_;exact kW hx (BB hm h)
theorem xL{o:aD IV}{o':aD V}(h:ca c (lv c n) en σ func args kws pos=some o)(ho:f7 (some o)=some o'):(lv c (n+1)).ev en σ (.Call func args kws pos)=some o':=by
 show f7 (ca c (lv c n) en σ func args kws pos)=_;rw[h,ho]
theorem gL{o:aD IV}(h:ca c (lv c n) en σ func args kws pos=some o):(lv c (n+1)).iv en σ (.Call func args kws pos)=some o:=h
theorem zw{ks:List (Str×V)}(hf:ly c.K a=some fd)(h:cf σ a xs ks=some o)(ho:gh (some o)=some o'):aH c cf σ (.ref a) (xs.map .v) ks=some o':=by
 have e:oh (xs.map IV.v)=some xs:=by
  induction xs with
  |nil=>rfl
  |cons x xs ih=>
   have: ∀l:List V,oh (l.map IV.v)=some l:=fun l=>by
    induction l with
    |nil=>rfl
    |cons y l ih=>exact congrArg _ (by assumption)
   exact this _
 show(oh (xs.map IV.v)).bind _=_;rw[e];simp only[H7,hf,h,ho]
end
section
theorem yc{x:IV}(hf:eU c en iter scope=true)(hn:aP c en fn=some (.val (.builtin "all")))(hx:(lv c n).iv en σ iter=some (.ok x J2))(ht:aA J2 x=some t)
 (hd:dT (mJ (di 8) (lv c n).tr (lv c n).ev target ifs elt av) false av (dw scope.names en) J2 t=some (b,J6)):dg c (lv c n).iv (lv c n).tr (lv c n).ev en σ fn elt target iter ifs scope=some (.ok (.bool (!b)) J6):=by
 rw[fP hf hn hx ht];show xK _ _ _ _=_;unfold xK;rw[hd];rfl
theorem yG{x:IV}(hf:eU c en iter scope=true)(hn:aP c en fn=some (.val (.builtin "any")))(hx:(lv c n).iv en σ iter=some (.ok x J2))(ht:aA J2 x=some t)
 (hd:dT (mJ (di 8) (lv c n).tr (lv c n).ev target ifs elt av) true av (dw scope.names en) J2 t=some (b,J6)):dg c (lv c n).iv (lv c n).tr (lv c n).ev en σ fn elt target iter ifs scope=some (.ok (.bool b) J6):=by
 rw[fP hf hn hx ht];show yh _ _ _ _=_;unfold yh;rw[hd];rfl
theorem yN{x:IV}{ns:List Int}(hf:eU c en iter scope=true)(hn:aP c en fn=some (.val (.builtin "sum")))(hx:(lv c n).iv en σ iter=some (.ok x J2))(ht:aA J2 x=some t)
 (hd:dQ (mJ (di 8) (lv c n).tr (lv c n).ev target ifs elt av) av (dw scope.names en) J2 t=some (l,J6)) (hl:cO l=some ns):dg c (lv c n).iv (lv c n).tr (lv c n).ev en σ fn elt target iter ifs scope=some (.ok (.int ns.sum) J6):=by
 rw[fP hf hn hx ht];show xV _ _ _ _=_;unfold xV;rw[hd];show(cO l).map _=_;rw[hl];rfl
theorem n7{iv:iM}{x:IV}(hc:(cX iter&&scope.kind== .function&&dO scope.names en)=true)(hx:iv en σ iter=some (.ok x J2))(ht:aA J2 x=some t)
 (hd:cy (di 8) tr f target ifs elt J2.length av (dP scope.names en) (J2++[.lst []]) t=some J6):b_ iv tr f en σ elt [⟨target,iter,ifs,0⟩] scope=some (.ok (.lst J2.length) J6):=by
 refine(if_pos hc:(if _ then _ else none)=_).trans ?_
 rw[hx];show(aA J2 x).bind _=_;rw[ht];show(cy _ _ _ _ _ _ _ _ _ _ _).map _=_;rw[hd];rfl
theorem AB{p:Pos}{x:IV}{o:aJ}(hs:cX iter=true)(hx:(lv c n).iv en σ iter=some (.ok x J2))(ht:aA J2 x=some t)(h:gq J2.length (eH c (lv c n).ev 8) (lv c n).exs target body orelse av en J2 t=some o):
 aR c (lv c n) en σ (.For target iter body orelse p)=some o:=by
 show lR _ _ _ en σ target iter body orelse=some o;unfold lR;rw[if_pos hs,hx];show(aA J2 x).bind _=_;rw[ht];exact h
theorem zq{p:Pos}(hc:cg e=true)(h:(lv c n).ev en σ e=some (.ok y J2))(hy:aX y=true):aR c (lv c n) en σ (.Expr e p)=some (.ok .next en J2):=by
 show(if cg e=true then _ else none)=_
 refine dJ hc ?_;simp only[bR,h,hy,if_true]
theorem sk{v sl:Expr}{p:Pos}{i:Int}(hn:bz sl=true)(h1:(lv c n).ev en σ v=some (.ok x J2))(h2:(lv c n).ev en J2 sl=some (.ok (.int i) J6))(h3:gn J6 x i=some y):(lv c (n+1)).ev en σ (.Subscript v sl p)=some (.ok y J6):=by
 show au ((lv c n).ev en σ v) _=_;rw[h1]
 refine(if_pos hn:(if bz sl=true then Bm (lv c n).ev en J2 x sl else _)=_).trans ?_
 unfold Bm;rw[h2];show(gn J6 x i).map _=_;rw[h3];rfl
theorem wM{v:Expr}{lo hi st:Option Expr}{sp p:Pos}{l u t:V}{KN L0:Sg}{l' u' t':Option Int}(h1:(lv c n).ev en σ v=some (.ok x J2))(h2:gf (lv c n).ev en J2 lo=some (.ok l J6))(h3:gf (lv c n).ev en J6 hi=some (.ok u Kn))(h4:gf (lv c n).ev en Kn st=some (.ok t KN))
 (p1:gB l=some l') (p2:gB u=some u') (p3:gB t=some t') (h5:cn KN x l' u' t'=some (y,L0)):(lv c (n+1)).ev en σ (.Subscript v (.Slice lo hi st sp) p)=some (.ok y L0):=by
 show au ((lv c n).ev en σ v) _=_;rw[h1];show AZ (lv c n).ev en J2 x lo hi st=_;unfold AZ;rw[h2];show au (gf (lv c n).ev en J6 hi) _=_;rw[h3];show au (gf (lv c n).ev en Kn st) _=_;rw[h4];show(gB l).bind _=_;rw[p1,p2,p3];show(cn KN x l' u' t').map _=_;rw[h5];rfl
theorem Ax{l:Expr}{op:CmpOp}{p:Pos}(hm:lastMarks [op] [e]=false)(h1:(lv c n).ev en σ l=some (.ok x J2))(h2:(lv c n).ev en J2 e=some (.ok y J6))(h3:ed J6 op x y=some b):(lv c (n+1)).ev en σ (.Compare l [op] [e] p)=some (.ok (.bool b) J6):=by
 show gD _ en σ l [op] [e]=_
 refine(if_neg (by rw[hm];exact FT):(if lastMarks [op] [e]=true then none else au ((lv c n).ev en σ l) _)=_).trans ?_
 rw[h1];exact hH h2 h3
theorem AM{l:Expr}{op:CmpOp}{p:Pos}(hm:lastMarks [op] [e]=false)(h1:(lv c n).ev en σ l=some (.ok x J2))(h2:(lv c n).ev en J2 e=some (.ok y J6))(h3:ed J6 op x y=some b):(lv c (n+1)).tr en σ (.Compare l [op] [e] p)=some (.ok b J6):=by
 show As (lv c n).ev (lv c n).tr en σ (.Compare l [op] [e] p)=_
 refine(if_neg (by rw[hm];exact FT):(if lastMarks [op] [e]=true then none else au ((lv c n).ev en σ l) _)=_).trans ?_
 rw[h1];exact hH h2 h3
theorem AA(hp:fx e=true)(h1:(lv c n).ev en σ e=some (.ok x J2))(h2:bq J2 x=some b):(lv c (n+1)).tr en σ e=some (.ok b J2):=by
 refine(yK hp:As (lv c n).ev (lv c n).tr en σ e=_).trans ?_;unfold xC;rw[h1];show(bq J2 x).map _=_;rw[h2];rfl
theorem BK{p:Pos}(h:(lv c n).tr en σ e=some (.ok b J2)):(lv c (n+1)).tr en σ (.UnaryOp .Not e p)=some (.ok (!b) J2):=by
 show As (lv c n).ev (lv c n).tr en σ (.UnaryOp .Not e p)=_;show au ((lv c n).tr en σ e) _=_;rw[h];rfl
theorem jk{op:BoolOp}{p:Pos}{o:aD Bool}(h:sM (lv c n).tr en op σ es=some o):(lv c (n+1)).tr en σ (.BoolOp op es p)=some o:=h
theorem cT{g:lf}{op:BoolOp}{o:aD Bool}(h:g en σ e=some (.ok b J2))(k:(if b=(op== .Or)then some (.ok b J2)else sM g en op J2 es)=some o):sM g en op σ (e::es)=some o:=by
 exact kW h k
end
section
theorem qo(xs:List α): ∀(d:Nat) (pre:List α),pre.length=d→((Gs xs.length).map fun k=>d+k).filterMap ((pre++xs)[·]?)=xs:=by
 intro d pre hd
 have key: ∀(ys zs:List α),((List.range' zs.length ys.length).filterMap fun k=>(zs++ys)[k]?)=ys:=by
  intro ys
  induction ys with
  |nil=>intro zs;rfl
  |cons y ys ih=>
   intro zs;rw[GI,List.range'_succ,Ha]
   have:(zs++y::ys)[zs.length]? =some y:=by simp
   rw[this];have e:=ih (zs++[y]);rw[GE,G',Gx]at e;simp only[List.singleton_append]at e
   exact congrArg _ (by assumption)
 have e:((Gs xs.length).map fun k=>d+k)=List.range' d xs.length:=by
  rw[List.range_eq_range',List.map_add_range'];simp
 rw[e];subst hd;exact key xs pre
theorem o7(x:V)(xs:List V):iF (x::xs) (some 1) none none=xs:=by
 have p1:I6 (some 1) none ((none:Option Int).getD 1) ((x::xs).length:Nat)=((1:Int),(((x::xs).length:Nat):Int)):=by
  simp[I6]
  try exact mi1
 have p2:I7 1 (((x::xs).length:Nat):Int) ((none:Option Int).getD 1)=xs.length:=by
  simp only[I7,Option.getD_none,GI]
  rw[if_pos (by decide)]
  by_cases h:(1:Int)<((xs.length+1:Nat):Int)
  ·rw[if_pos h,Int.ediv_one];simp
  ·rw[if_neg h];exact tn0 ‹_›
 have w:d5 (x::xs).length (some 1) none none=false:=by
  unfold d5;rw[p1];rfl
 unfold iF;rw[w,if_neg FT];unfold bY;rw[p1];simp only;rw[p2]
 have e:((Gs xs.length).map fun(k:Nat)=>((1:Int)+(k:Int)*(none:Option Int).getD 1).toNat)=(Gs xs.length).map fun k=>1+k:=by
  refine G8 fun k u_=> ?_;simp only[Option.getD_none,Int.mul_one];rfl
 rw[e];exact qo xs 1 [x] rfl
theorem qp(hl:(x::xs).length≤2^20):cn σ (.tup (x::xs)) (some 1) none none=some (.tup xs,σ):=by
 unfold cn
 rw[if_neg (by simp)]
 simp only[o7]
 rw[if_pos ⟨hl,by simp at hl⊢;exact bf ‹_› (by exact ac)⟩]
theorem sN: ∀xs:List α,((Gs xs.length).map fun k=>xs.length-1-k).filterMap (xs[·]?)=xs.reverse:=by
 intro xs;rw[List.filterMap_map]
 have key: ∀m,m≤xs.length→(Gs m).filterMap (fun k=>xs[xs.length-1-k]?)=xs.reverse.take m:=by
  intro m
  induction m with
  |zero=>intro _;simp
  |succ m ih=>
   intro h
   rw[List.range_succ,List.filterMap_append,ih (Nat.le_of_succ_le ‹_›),Hs (by simp;assumption)]
   congr 1
   have:xs[xs.length-1-m]? =some (xs.reverse[m]'(by simp;assumption)):=by
    simp
   simp[this]
 have:=key xs.length (Hv _)
 rw[show xs.reverse.take xs.length=xs.reverse from List.take_of_length_le (by simp)]at this
 exact this
theorem pj(l:List V):lu l none none (some (-1))=l.reverse:=by
 unfold lu qR
 have e:sliceRange (sliceBounds none none (some (-1)) l.length).1 (sliceBounds none none (some (-1)) l.length).2.1 (sliceBounds none none (some (-1)) l.length).2.2=(Gs l.length).map fun k=>l.length-1-k:=by
  have hb:sliceBounds none none (some (-1)) l.length=((l.length:Int)-1,-1,-1):=rfl;rw[hb];simp only[sliceRange]
  rw[if_neg (by decide)]
  have c:(if((l.length:Int)-1> -1)then((l.length:Int)-1- -1- -1-1)/ - -1 else 0).toNat=l.length:=by
   by_cases h:(l.length:Int)-1> -1
   ·rw[if_pos h];simp
   ·rw[if_neg h];exact(Nat.le_zero.mp (F_.mp (Int.le_of_sub_le_sub_right (b:=0) (c:=1) (F7.mp h)))).symm
  rw[c];refine G8 fun k hk=> ?_;have:=Hg.mp hk;rw[Int.neg_one_mul,←Int.sub_eq_add_neg,Ck (HC (HD _) this),←Int.ofNat_sub (Nat.le_sub_one_of_lt this)];rfl
 rw[e];exact sN l
theorem qF(hk:σ[k]? =some (.lst l))(hl:l.length≤2^20):cn σ (.lst k) none none (some (-1))=some (.lst σ.length,σ++[.lst l.reverse]):=by
 unfold cn
 refine zK (by trivial) ?_
 show(pv σ k).bind _=_;rw[xy hk]
 show(if _ then _ else none)=_
 rw[if_pos hl,pj]
end
section
set_option genInjectivity false in
structure Xp where
 q:Program
 w:World
 n₀:Nat
 T:List Addr
 mg:Str→Option Value
 mb:Str→Option Value
 base:Heap
 P:Params
noncomputable def cc(X:Xp):Cx:=cx X.q X.w X.n₀ X.T X.mg X.mb X.base X.P
noncomputable def dS(X:Xp)(a:Addr):FuncData:=(ly (KK X.P) a).getD default
noncomputable def aB(X:Xp)(a:Addr):List Stmt:=match(dS X a).body with
 | .stmts b=>b
 |_=>[]
noncomputable def St(X:Xp)(a i:Nat):Stmt:=(aB X a).getD i (.Pass default)
noncomputable def ah(X:Xp)(a:Addr)(own:List (Str×V)):En:=⟨(dS X a).scope.names,own,[],mo (dS X a).code⟩
noncomputable def zL:List Comprehension→List Expr
 |g::_=>g.target::g.iter::g.ifs
 |[]=>[]
noncomputable def De:List Comprehension→List Expr
 |g::_=>g.ifs
 |[]=>[]
noncomputable def z0:(List Comprehension×Scope)×List Keyword:=(([],default),[])
noncomputable def pE(e:Expr):List Expr×(List Comprehension×Scope)×List Keyword:= @Expr.casesOn (fun u_=>List Expr×(List Comprehension×Scope)×List Keyword) e (fun u_ es u_=>(es,z0)) (fun u_ u_ u_=>([],z0)) (fun l u_ r u_=>([l,r],z0)) (fun u_ x u_=>([x],z0)) (fun u_ u_ u_ u_=>([],z0)) (fun t b e u_=>([t,b,e],z0)) (fun u_ u_ u_=>([],z0)) (fun u_ u_ u_=>([],z0)) (fun e g s u_=>(e::zL g,(g,s),[])) (fun u_ u_ u_ u_=>([],z0)) (fun u_ u_ u_ u_ u_=>([],z0)) (fun e g s u_=>(e::zL g,(g,s),[])) (fun u_ u_=>([],z0)) (fun u_ u_=>([],z0)) (fun u_ u_=>([],z0)) (fun l u_ es u_=>(l::es,z0)) (fun f as ks u_=>(f::(as++ks.map (·.value)),([],default),ks)) (fun u_ u_ u_ u_=>([],z0)) (fun u_ u_=>([],z0)) (fun u_ u_ u_=>([],z0)) (fun v u_ u_=>([v],z0)) (fun v s u_=>([v,s],z0)) (fun u_ u_=>([],z0)) (fun u_ u_=>([],z0)) (fun es u_=>(es,z0)) (fun es u_ u_=>(es,z0)) (fun lo hi st u_=>([lo.getD default,hi.getD default,st.getD default],z0))
noncomputable def EV(e:Expr):List Expr:=(pE e).1
noncomputable def yL(e:Expr):List Keyword:=(pE e).2.2
noncomputable def tk(e:Expr):Nat:=((kf e).map fun p=>p.1.2.1).getD 0
noncomputable def ch(e:Expr)(i:Nat):Expr:=(EV e).getD i default
noncomputable abbrev ps(e:Expr):Pos:=e.pos
noncomputable def Ab(e:Expr):List Comprehension×Scope:=(pE e).2.1
noncomputable def dF(e:Expr):Scope:=(Ab e).2
noncomputable def d7(e:Expr):List Expr:=De (Ab e).1
noncomputable def pS(s:Stmt):List Expr×List Stmt×List Stmt×List ExceptHandler:= @Stmt.casesOn (fun u_=>List Expr×List Stmt×List Stmt×List ExceptHandler) s (fun u_ u_ u_ u_ u_ u_ u_ u_ u_ u_=>([],[],[],[])) (fun u_ u_ u_ u_ u_ u_ u_ u_ u_ u_=>([],[],[],[])) (fun u_ u_ u_ u_ u_ u_ u_ u_ u_ u_ u_=>([],[],[],[])) (fun e u_=>(e.elim [] fun e=>[e],[],[],[])) (fun u_ u_=>([],[],[],[])) (fun ts e u_=>(e::ts,[],[],[])) (fun u_ u_ u_ u_ u_ u_ u_=>([],[],[],[])) (fun t u_ e u_=>([t,e],[],[],[])) (fun u_ u_ u_ u_ u_=>([],[],[],[])) (fun t i b e u_=>([t,i],b,e,[])) (fun u_ u_ u_ u_ u_=>([],[],[],[])) (fun t b e u_=>([t],b,e,[])) (fun t b e u_=>([t],b,e,[])) (fun u_ u_ u_=>([],[],[],[])) (fun u_ u_ u_=>([],[],[],[])) (fun u_ u_ u_=>([],[],[],[])) (fun e u_ u_=>(e.elim [] fun e=>[e],[],[],[])) (fun b h u_ u_ u_=>([],b,[],h)) (fun u_ u_ u_ u_ u_=>([],[],[],[])) (fun t u_ u_=>([t],[],[],[])) (fun u_ u_=>([],[],[],[])) (fun u_ u_ u_ u_=>([],[],[],[])) (fun u_ u_=>([],[],[],[])) (fun u_ u_=>([],[],[],[])) (fun e u_=>([e],[],[],[])) (fun u_=>([],[],[],[])) (fun u_=>([],[],[],[])) (fun u_=>([],[],[],[]))
noncomputable def CN(s:Stmt):List Expr:=(pS s).1
noncomputable def sx(s:Stmt)(i:Nat):Expr:=(CN s).getD i default
noncomputable def aj(s:Stmt):List Stmt:=(pS s).2.1
noncomputable def cQ(s:Stmt):List Stmt:=(pS s).2.2.1
noncomputable abbrev kl(s:Stmt):Pos:=s.pos
noncomputable def si(l:List Stmt)(i:Nat):Stmt:=l.getD i (.Pass default)
section
theorem bQ{x:Str}(he:e= .Name x (ps e))(h:aP c en x=some y):(lv c (n+1)).ev en σ e=some (.ok y σ):=by
 rw[he];exact fO h
theorem cE{z:V}(he:e= .BinOp (ch e 0) op (ch e 1) (ps e))(h1:(lv c n).ev en σ (ch e 0)=some (.ok x J2))(h2:(lv c n).ev en J2 (ch e 1)=some (.ok y J6))(h3:mw J6 op x y=some (z,Kn)):(lv c (n+1)).ev en σ e=some (.ok z Kn):=
 (congrArg ((lv c (n+1)).ev en σ) he).trans (BI h1 h2 h3)
theorem iS(he:e= .Attribute (ch e 0) name (ps e))(hp:aS (ch e 0)=true)(h:(lv c n).ev en σ (ch e 0)=some (.ok x J2))(hg:jc c J2 x name=some (.val y)):(lv c (n+1)).ev en σ e=some (.ok y J2):=
 (congrArg ((lv c (n+1)).ev en σ) he).trans (nV hp h hg)
theorem CL{f:Addr}(he:e= .Attribute (ch e 0) name (ps e))(hp:aS (ch e 0)=true)(h:(lv c n).ev en σ (ch e 0)=some (.ok x J2))(hg:jc c J2 x name=some (.prop f))(hc:(lv c n).cf J2 f [x] []=some (.ok y J6))(hy:cY y=true):(lv c (n+1)).ev en σ e=some (.ok y J6):=
 (congrArg ((lv c (n+1)).ev en σ) he).trans (x7 hp h hg hc hy)
theorem cW{i:Int}(he:e= .Subscript (ch e 0) (ch e 1) (ps e))(hn:bz (ch e 1)=true)(h1:(lv c n).ev en σ (ch e 0)=some (.ok x J2))(h2:(lv c n).ev en J2 (ch e 1)=some (.ok (.int i) J6))(h3:gn J6 x i=some y):(lv c (n+1)).ev en σ e=some (.ok y J6):=
 (congrArg ((lv c (n+1)).ev en σ) he).trans (sk hn h1 h2 h3)
theorem oY{op:CmpOp}(he:e= .Compare (ch e 0) [op] [ch e 1] (ps e))(hm:lastMarks [op] [ch e 1]=false)(h1:(lv c n).ev en σ (ch e 0)=some (.ok x J2))(h2:(lv c n).ev en J2 (ch e 1)=some (.ok y J6))(h3:ed J6 op x y=some b):(lv c (n+1)).ev en σ e=some (.ok (.bool b) J6):=
 (congrArg ((lv c (n+1)).ev en σ) he).trans (Ax hm h1 h2 h3)
theorem bw{op:CmpOp}(he:e= .Compare (ch e 0) [op] [ch e 1] (ps e))(hm:lastMarks [op] [ch e 1]=false)(h1:(lv c n).ev en σ (ch e 0)=some (.ok x J2))(h2:(lv c n).ev en J2 (ch e 1)=some (.ok y J6))(h3:ed J6 op x y=some b):(lv c (n+1)).tr en σ e=some (.ok b J6):=
 (congrArg ((lv c (n+1)).tr en σ) he).trans (AM hm h1 h2 h3)
theorem CT(he:e= .IfExp (ch e 0) (ch e 1) (ch e 2) (ps e))(h0:(lv c n).tr en σ (ch e 0)=some (.ok b σ))(h1:b=true→(lv c n).ev en σ (ch e 1)=some (.ok x σ))(h2:b=false→(lv c n).ev en σ (ch e 2)=some (.ok y σ)):(lv c (n+1)).ev en σ e=some (.ok (bif b then x else y) σ):=
 (congrArg ((lv c (n+1)).ev en σ) he).trans (zT h0 (by cases b with|true=>exact h1 rfl|false=>exact h2 rfl))
theorem DU(he:e= .IfExp (ch e 0) (ch e 1) (ch e 2) (ps e))(h0:(lv c n).tr en σ (ch e 0)=some (.ok b J2))(h1:(lv c n).ev en J2 (bif b then ch e 1 else ch e 2)=some o):(lv c (n+1)).ev en σ e=some o:=
 (congrArg ((lv c (n+1)).ev en σ) he).trans (zT h0 (by cases b<;>exact h1))
theorem dn(hp:fx e=true)(h1:(lv c n).ev en σ e=some (.ok x J2))(h2:bq J2 x=some b):(lv c (n+1)).tr en σ e=some (.ok b J2):=AA hp h1 h2
theorem By(he:e= .UnaryOp .Not (ch e 0) (ps e))(h:(lv c n).tr en σ (ch e 0)=some (.ok b J2)):(lv c (n+1)).tr en σ e=some (.ok (!b) J2):=
 (congrArg ((lv c (n+1)).tr en σ) he).trans (BK h)
theorem lr{a:Bool}(he:e= .BoolOp .And [ch e 0,ch e 1] (ps e))(h1:(lv c n).tr en σ (ch e 0)=some (.ok a σ))(h2:a=true→(lv c n).tr en σ (ch e 1)=some (.ok b σ)):(lv c (n+1)).tr en σ e=some (.ok (a&&b) σ):=by
 refine(he).symm▸ ?_;refine jk (cT h1 ?_)
 cases a with
 |false=>rfl
 |true=>exact cT (h2 rfl) (by cases b<;>rfl)
theorem DK{a:Bool}(he:e= .BoolOp .Or [ch e 0,ch e 1] (ps e))(h1:(lv c n).tr en σ (ch e 0)=some (.ok a σ))(h2:a=false→(lv c n).tr en σ (ch e 1)=some (.ok b σ)):(lv c (n+1)).tr en σ e=some (.ok (a||b) σ):=by
 refine(he).symm▸ ?_;refine jk (cT h1 ?_)
 cases a with
 |true=>rfl
 |false=>exact cT (h2 rfl) (by cases b<;>rfl)
theorem D0{a:Bool}(he:e= .BoolOp .And [ch e 0,ch e 1] (ps e))(h1:(lv c n).ev en σ (ch e 0)=some (.ok x σ))(ht:bq σ x=some a)(h2:a=true→(lv c n).ev en σ (ch e 1)=some (.ok y σ)):(lv c (n+1)).ev en σ e=some (.ok (bif a then y else x) σ):=by
 rw[he];show je _ en .And σ [ch e 0,ch e 1]=_;refine kW h1 (BB ht ?_)
 cases a with
 |false=>rfl
 |true=>exact h2 rfl
theorem Dw{a:Bool}(he:e= .BoolOp .Or [ch e 0,ch e 1] (ps e))(h1:(lv c n).ev en σ (ch e 0)=some (.ok x σ))(ht:bq σ x=some a)(h2:a=false→(lv c n).ev en σ (ch e 1)=some (.ok y σ)):(lv c (n+1)).ev en σ e=some (.ok (bif a then x else y) σ):=by
 rw[he];show je _ en .Or σ [ch e 0,ch e 1]=_;refine kW h1 (BB ht ?_)
 cases a with
 |false=>exact h2 rfl
 |true=>rfl
theorem q9{a:Bool}(he:e= .BoolOp .And [ch e 0,ch e 1] (ps e))(h1:(lv c n).ev en σ (ch e 0)=some (.ok (.bool a) σ))(h2:a=true→(lv c n).ev en σ (ch e 1)=some (.ok (.bool b) σ)):(lv c (n+1)).ev en σ e=some (.ok (.bool (a&&b)) σ):=by
 rw[D0 he h1 rfl h2];cases a<;>rfl
theorem Da{a:Bool}(he:e= .BoolOp .Or [ch e 0,ch e 1] (ps e))(h1:(lv c n).ev en σ (ch e 0)=some (.ok (.bool a) σ))(h2:a=false→(lv c n).ev en σ (ch e 1)=some (.ok (.bool b) σ)):(lv c (n+1)).ev en σ e=some (.ok (.bool (a||b)) σ):=by
 rw[Dw he h1 rfl h2];cases a<;>rfl
end
end
section
section
theorem bx(hc:aV e=false)(h:(lv c n).ev en σ e=some (.ok x J2)):(lv c (n+1)).iv en σ e=some (.ok (.v x) J2):=
 Aa (fun f a k p q=>by rw[q]at hc;exact B7 hc) h rfl
theorem lF(h:aV e=true)(k: ∀f a kw p,e= .Call f a kw p→P):P:=by
 exact @Expr.Call.elim (fun e=>(∀f a kw p,e= .Call f a kw p→P)→P) e (Nat.eq_of_beq_eq_true h) (fun f a kw p k=>k f a kw p rfl) k
theorem yz(hc:aV e=true)(h:(lv c (n+1)).ev en σ e=some (.ok x J2)):(lv c (n+1)).iv en σ e=some (.ok (.v x) J2):=by
 refine lF hc fun f a k p q=> ?_;subst q;change f7 (ca c (lv c n) en σ f a k p)=_ at h;change ca c (lv c n) en σ f a k p=_
 cases w:ca c (lv c n) en σ f a k p with
 |none=>rw[w]at h;exact no h
 |some o=>
  rw[w]at h
  cases o with
  |exc=>cases H8 h
  |ok y J1=>
   cases y with
   |it=>exact no h
   |v y=>cases H8 h;rfl
theorem ki(hc:aV e=true)(h:(lv c (n+1)).iv en σ e=some (.ok (.v x) J2)):(lv c (n+1)).ev en σ e=some (.ok x J2):=by
 refine lF hc fun f a k p q=> ?_;subst q;change ca c (lv c n) en σ f a k p=_ at h;show f7 (ca c (lv c n) en σ f a k p)=_;rw[h];rfl
theorem cF{x:Str}{vs:List IV}{o:aD IV}(he:e= .Call (.Name x (ps (ch e 0))) args [] (ps e))(hg:cG args=none)(hx:aP c en x=some (.val fv))(hc:(ak args&&bK c.K fv)=true)
 (h1:dX (lv c (n+1)).iv en σ args=some (.ok vs J2)) (h2:aH c (lv c (n+1)).cf J2 fv vs []=some o):(lv c (n+2)).iv en σ e=some o:=by
 rw[he];have hc:=FR.mp hc;refine gL (jS ?_ hx (fF (xs:=vs) (ks:=[]) ?_ h1 rfl h2))
 ·refine(?_:(if(List.isEmpty ([]:List Keyword))=true then(cG args).map _ else none)=none)
  rw[hg];rfl
 ·rw[hc.1,hc.2];rfl
theorem gg{vs:List IV}{o:aD IV}(he:e= .Call (.Attribute (ch (ch e 0) 0) name (ps (ch e 0))) args [] (ps e))(hp:(aS (ch (ch e 0) 0)&&(ps (ch e 0)).endLine==(ps e).line&&decide (args.length+0<20)&&ak args)=true)
 (hx:(lv c n).ev en σ (ch (ch e 0) 0)=some (.ok x J2)) (hm:ij c J2 x name=some (fv,first)) (hc:bK c.K fv=true) (h1:dX (lv c n).iv en J2 args=some (.ok vs J6)) (h2:aH c (lv c n).cf J6 fv (first.map .v++vs) []=some o):(lv c (n+1)).iv en σ e=some o:=by
 rw[he];have hs:ak args=true:=(FR.mp hp).2;refine gL (gS ?_ hx hm (fF (xs:=vs) (ks:=[]) ?_ h1 rfl h2))
 ·simpa [ic]using hp
 ·rw[hs,hc];rfl
theorem kA{f:iM}{x:IV}(hs:ak [e]=true)(h1:f en σ e=some (.ok x J2)):dX f en σ [e]=some (.ok [x] J2):=aL hs h1 fV
theorem zN{f:iM}{x x':IV}(hs:ak [e,e']=true)(h1:f en σ e=some (.ok x J2))(h2:f en J2 e'=some (.ok x' J6)):dX f en σ [e,e']=some (.ok [x,x'] J6):=by
 have a:ak [e]=true:=(show(!cZ e&&true)=true from FR.mpr ⟨(FR.mp hs).1,rfl⟩)
 have b:ak [e']=true:=(bh hs).2;exact aL a h1 (kA b h2)
theorem iv3{f:iM}{e'':Expr}{x x' x'':IV}(h0:ak [e]=true)(hs:ak [e',e'']=true)(h1:f en σ e=some (.ok x J2))(h2:f en J2 e'=some (.ok x' J6))(h3:f en J6 e''=some (.ok x'' Kn)):dX f en σ [e,e',e'']=some (.ok [x,x',x''] Kn):=
 aL h0 h1 (zN hs h2 h3)
noncomputable def Cq(e:Expr):Option (Str×Expr×Expr×Expr×List Expr×Scope):=(wC e).bind fun p=>mr p.1.1 p.1.2.1 p.1.2.2.1
noncomputable abbrev sg(e:Expr)(fn:String):Prop:=Cq e=some (JW fn,ch (ch e 1) 0,ch (ch e 1) 1,ch (ch e 1) 2,[],dF (ch e 1))
theorem kC{v:V}(h:Cq e=some (fn,elt,target,iter,ifs,scope))(k:dg c (lv c n).iv (lv c n).tr (lv c n).ev en σ fn elt target iter ifs scope=some (.ok v J2)):(lv c (n+1)).ev en σ e=some (.ok v J2):=by
 refine eO h fun p h=> ?_;obtain⟨⟨f,a,kw,p⟩,rfl⟩:=p;exact Be h k
end
section
variable {γ:Type}
noncomputable def aC(S:Sg→Prop)(t:It)(xs:List V):Prop:= ∃ts:Nat→It,ts 0=t∧ ∀σ:Sg,S σ→(∀i x,xs[i]? =some x→aw σ (ts i)=some (some (x,ts (i+1))))∧aw σ (ts xs.length)=some none
theorem ai{S:Sg→Prop}(as:List α)(f:α→V):aC S (.seq (as.map f) 0) (as.map f):=⟨fun i=> .seq (as.map f) i,rfl,fun σ u_=>⟨fun i x h=>nxq h,nxe gnl⟩⟩
theorem eh{S:Sg→Prop}(h: ∀σ,S σ→σ[k]? =some (.lst l)):aC S (.lst k 0) l:=⟨fun i=> .lst k i,rfl,fun σ q=>⟨fun i x hx=>nxl (aN (h σ q)) hx,C0 (aN (h σ q)) gnl⟩⟩
theorem aZ{S:Sg→Prop}{u:It}{as:List α}{bs:List β}{f:α→V}{g:β→V}(h1:aC S t (as.map f))(h2:aC S u (bs.map g)):aC S (.zip [t,u]) ((as.zip bs).map fun p=>V.tup [f p.1,g p.2]):=by
 obtain⟨ts,rfl,h1⟩:=h1;obtain⟨us,rfl,h2⟩:=h2;refine⟨fun i=> .zip [ts i,us i],rfl,fun σ q=>⟨fun i z hz=> ?_,?_⟩⟩
 ·refine aM ((GM ..).symm.trans hz) fun p hab e=> ?_;subst e;have w:=Hm.mp hab;exact nxz rfl (uB ((h1 σ q).1 i _ (zI w.1)) (uB ((h2 σ q).1 i _ (zI w.2)) sn))
 ·rw[Gk,Go];have e1:=(h1 σ q).2;have e2:=(h2 σ q).2;rw[Gk]at e1 e2
  by_cases hl:as.length≤bs.length
  ·refine(Nat.min_eq_left hl).symm▸ ?_;exact BU rfl (AT e1)
  ·rw[Nat.min_eq_right (Nat.le_of_not_le ‹_›)];exact BU rfl (FA ((h1 σ q).1 bs.length _ (zI (GB (Nat.lt_of_not_le ‹_›)))) (AT e2))
theorem f9{S:Sg→Prop}{u v:It}{as:List α}{bs:List β}{cs:List γ}{f:α→V}{g:β→V}{h:γ→V}(h1:aC S t (as.map f))(h2:aC S u (bs.map g))(h3:aC S v (cs.map h))(l1:as.length=bs.length)(l2:as.length=cs.length):aC S (.zip [t,u,v]) ((as.zip (bs.zip cs)).map fun p=>V.tup [f p.1,g p.2.1,h p.2.2]):=by
 obtain⟨ts,rfl,h1⟩:=h1;obtain⟨us,rfl,h2⟩:=h2;obtain⟨vs,rfl,h3⟩:=h3;refine⟨fun i=> .zip [ts i,us i,vs i],rfl,fun σ q=>⟨fun i z hz=> ?_,?_⟩⟩
 ·refine aM ((GM ..).symm.trans hz) fun p hab e=> ?_;subst e;have w:=Hm.mp hab;have w':=Hm.mp w.2;exact nxz rfl (uB ((h1 σ q).1 i _ (zI w.1)) (uB ((h2 σ q).1 i _ (zI w'.1)) (uB ((h3 σ q).1 i _ (zI w'.2)) sn)))
 ·have e1:=(h1 σ q).2;rw[Gk]at e1;rw[Gk,Go,Go,←l1,←l2,HO,HO];exact BU rfl (AT e1)
theorem qr{S:Sg→Prop}{as:List α}{f:α→V}(m:Int)(h:aC S t (as.map f)):aC S (.enum t m) (as.zipIdx.map fun p=> .tup [.int (m+(p.2:Int)),f p.1]):=by
 obtain⟨ts,rfl,h⟩:=h
 refine⟨fun i=> .enum (ts i) (m+i),by simp,fun σ q=>⟨fun i z hz=> ?_,?_⟩⟩
 ·refine aM ((GM ..).symm.trans hz) fun p hab e=> ?_;subst e;refine aM ((List.getElem?_zipIdx ..).symm.trans hab) fun a ha e=> ?_;subst e;rw[r_,(h σ q).1 i _ (zI ha),HW];exact congrArg (fun z=>some (some (V.tup [V.int (m+i),f a],It.enum (ts (i+1)) z))) scs
 ·have e1:=(h σ q).2;rw[Gk]at e1;rw[Gk,List.length_zipIdx];rw[r_,e1];rfl
theorem gW{S:Sg→Prop}(a b:Int):aC S (.rng a b 1) ((Gs b.toNat).map fun(i:Nat)=>V.int (a+(i:Int))):=by
 refine aK (vo.rng a b) fun ts h1 h2=> ?_;exact⟨ts,h1,fun σ u_=>h2 σ⟩
theorem wJ{S:Sg→Prop}{P:En→Prop}{as:List α}{f F:α→V}(hS:S σ)(ht:aC S t (as.map f))(hl:as.length<av)(hb: ∀a∈as,∀en,P en→ ∃en',P en'∧g target en σ (f a)=some (en',σ)∧ev en' σ elt=some (.ok (F a) σ))(hp:P en):
 dQ (mJ g tr ev target [] elt av) av en σ t=some (as.map F,σ):=by
 refine aK ht fun ts zz1 h=> ?_;subst zz1
 refine sI (P:=P) (ys:=as.map F) (ts:=ts) (fun i y en hy hp=> ?_) (fun en hp=>wB (by rw[Gk,←Gk (f:=f)];exact(h σ hS).2)) (by rw[Gk];exact hl) hp
 refine aM ((GM ..).symm.trans hy) fun a ha e=> ?_;subst e;refine cz (hb a (GY ha) en hp) fun en' hp' h1 h2=> ?_;exact⟨en',hp',wQ ((h σ hS).1 i (f a) (zI ha)) h1 h2⟩
theorem aC.nil{S:Sg→Prop}(h:aC S t [])(q:S σ):aw σ t=some none:=aK h fun ts e h=>e▸(h σ q).2
theorem aC.cons{S:Sg→Prop}(h:aC S t (x::xs)): ∃t',aC S t' xs∧ ∀σ,S σ→aw σ t=some (some (x,t')):=
 aK h fun ts e h=>⟨ts 1,⟨fun i=>ts (i+1),rfl,fun σ q=>⟨fun i x=>(h σ q).1 (i+1) x,(h σ q).2⟩⟩,fun σ q=>e▸(h σ q).1 0 x rfl⟩
theorem xh{S:Sg→Prop}{P:En→Prop}{as:List α}{f F:α→V}{q:α→Bool}{stop:Bool}(hS:S σ)(ht:aC S t (as.map f)){w:Nat}(hl:as.length<w)
 (hb: ∀a∈as,∀en,P en→ ∃en',P en'∧g target en σ (f a)=some (en',σ)∧ev en' σ elt=some (.ok (F a) σ)) (hq: ∀a∈as,bq σ (F a)=some (q a)) (hp:P en):
 dT (mJ g tr ev target [] elt av) stop w en σ t=some (as.any fun a=>q a==stop,σ):=by
 induction as generalizing t en w with
 |nil=>cases w with
  |zero=>exact absurd hl (HL _)
  |succ w=>exact tX (wB (ht.nil hS))
 |cons a as ih=>cases w with
  |zero=>exact absurd hl (HL _)
  |succ w=>
   refine aK ht.cons fun t' h' hn=> ?_;refine cz (hb a (.head _) en hp) fun en' hp' h1 h2=> ?_;rw[qN (wQ (tr:=tr) (hn σ hS) h1 h2) (hq a (.head _)),G3]
   cases hs:(q a==stop)with
   |true=>exact if_pos (Gj hs)
   |false=>rw[if_neg (ne_of_beq_false hs)];exact ih h' (HN hl) (fun b m=>hb b (.tail _ m)) (fun b m=>hq b (.tail _ m)) hp'
noncomputable def m7(c:Cx)(n:Nat)(e:Expr)(en:En)(σ:Sg)(as:List α)(f:α→V)(b:α→List (Str×V))(F:α→V):Prop:=
 ∀a∈as,∀own,di 8 (ch (ch e 1) 1) ⟨(dF (ch e 1)).names,own,(dw (dF (ch e 1)).names en).fre,none⟩ σ (f a)=some (⟨(dF (ch e 1)).names,b a++own,(dw (dF (ch e 1)).names en).fre,none⟩,σ)∧
  (lv c n).ev ⟨(dF (ch e 1)).names,b a++own,(dw (dF (ch e 1)).names en).fre,none⟩ σ (ch (ch e 1) 0)=some (.ok (F a) σ)
noncomputable abbrev DO(e:Expr)(en:En)(en':En):Prop:= ∃own,en'=⟨(dF (ch e 1)).names,own,(dw (dF (ch e 1)).names en).fre,none⟩
theorem m7.step{as:List α}{f F:α→V}{b:α→List (Str×V)}(h:m7 c n e en σ as f b F): ∀a∈as,∀Kf,DO e en Kf→ ∃en',DO e en en'∧di 8 (ch (ch e 1) 1) Kf σ (f a)=some (en',σ)∧(lv c n).ev en' σ (ch (ch e 1) 0)=some (.ok (F a) σ):=
 fun a ha _ ⟨own,he⟩=>⟨_,⟨_,rfl⟩,by rw[he];exact(h a ha own).1,(h a ha own).2⟩
theorem iw{S:Sg→Prop}{x:IV}{as:List α}{f F:α→V}{b:α→List (Str×V)}{q:α→Bool}(he:sg e "all")(hf:eU c en (ch (ch e 1) 2) (dF (ch e 1))=true)(hn:aP c en "all"=some (.val (.builtin "all")))(hx:(lv c n).iv en σ (ch (ch e 1) 2)=some (.ok x σ))(ht:aA σ x=some t)
 (hS:S σ) (tl:aC S t (as.map f)) (hl:as.length<4096) (hb:m7 c n e en σ as f b F) (hq: ∀a∈as,bq σ (F a)=some (q a)):(lv c (n+1)).ev en σ e=some (.ok (.bool (as.all q)) σ):=by
 have:=kC he (yc hf hn hx ht (xh hS tl hl hb.step hq ⟨_,rfl⟩));rw[this];congr 3;rw[List.not_any_eq_all_not];congr 1;funext a
 cases q a<;>rfl
theorem z'{S:Sg→Prop}{x:IV}{as:List α}{f F:α→V}{b:α→List (Str×V)}{q:α→Bool}(he:sg e "any")(hf:eU c en (ch (ch e 1) 2) (dF (ch e 1))=true)(hn:aP c en "any"=some (.val (.builtin "any")))(hx:(lv c n).iv en σ (ch (ch e 1) 2)=some (.ok x σ))(ht:aA σ x=some t)
 (hS:S σ) (tl:aC S t (as.map f)) (hl:as.length<4096) (hb:m7 c n e en σ as f b F) (hq: ∀a∈as,bq σ (F a)=some (q a)):(lv c (n+1)).ev en σ e=some (.ok (.bool (as.any q)) σ):=by
 have:=kC he (yG hf hn hx ht (xh hS tl hl hb.step hq ⟨_,rfl⟩));rw[this];simp
theorem iL{F:α→Int}(as:List α):cO (as.map fun a=>V.int (F a))=some (as.map F):=by
 induction as with
 |nil=>rfl
 |cons a as ih=>exact congrArg (Option.map (F a:: ·)) ih
theorem Dg{S:Sg→Prop}{x:IV}{as:List α}{f:α→V}{F:α→Int}{b:α→List (Str×V)}(he:sg e "sum")(hf:eU c en (ch (ch e 1) 2) (dF (ch e 1))=true)(hn:aP c en "sum"=some (.val (.builtin "sum")))(hx:(lv c n).iv en σ (ch (ch e 1) 2)=some (.ok x σ))(ht:aA σ x=some t)
 (hS:S σ) (tl:aC S t (as.map f)) (hl:as.length<4096) (hb:m7 c n e en σ as f b fun a=> .int (F a)):(lv c (n+1)).ev en σ e=some (.ok (.int (as.map F).sum) σ):=
 kC he (yN hf hn hx ht (wJ hS tl hl hb.step ⟨_,rfl⟩) (iL as))
theorem g_{S:Sg→Prop}{x:IV}{as:List α}{f F:α→V}{b:α→List (Str×V)}(he:sg e "tuple")(hf:eU c en (ch (ch e 1) 2) (dF (ch e 1))=true)(hn:aP c en "tuple"=some (.val (.type "tuple")))(hx:(lv c n).iv en σ (ch (ch e 1) 2)=some (.ok x σ))(ht:aA σ x=some t)
 (hS:S σ) (tl:aC S t (as.map f)) (hl:as.length<4096) (hb:m7 c n e en σ as f b F) (hs: ∀a∈as,jv (F a)=true):(lv c (n+1)).ev en σ e=some (.ok (.tup (as.map F)) σ):=by
 refine kC he (tP hf hn hx ht (wJ hS tl hl hb.step ⟨_,rfl⟩) ?_ (by rw[Gk];exact Ek ‹_› (by exact ac)))
 clear hb tl hl
 induction as with
 |nil=>rfl
 |cons a as ih=>exact FR.mpr ⟨hs a (.head _),ih fun b hb=>hs b (.tail _ hb)⟩
noncomputable abbrev iA(e:Expr):Prop:=e= .ListComp (ch e 0) [⟨ch e 1,ch e 2,d7 e,0⟩] (dF e) (ps e)
theorem j6(hz:acc.length<2^19):cw (σ++[aa.lst acc]) σ.length y=some (σ++[aa.lst (acc++[y])]):=by
 show(aG (σ++[aa.lst acc]) σ.length).bind _=_
 rw[aN (l:=acc) (by simp)]
 refine dJ (Ek ‹_› (by exact ac)) ?_
 simp[List.set_append]
theorem DR{S:Sg→Prop}{P:En→Prop}{as:List α}{f F:α→V}{k:α→Bool}(hS: ∀acc,S (σ++[aa.lst acc]))(ht:aC S t (as.map f)){w:Nat}(hl:as.length<w)(ha:acc.length+as.length<av)
 (hb: ∀a∈as,∀en acc,P en→ ∃en',P en'∧g target en (σ++[aa.lst acc]) (f a)=some (en',σ++[aa.lst acc])∧bL tr en' (σ++[aa.lst acc]) ifs=some (k a,σ++[aa.lst acc])∧(k a=true→ev en' (σ++[aa.lst acc]) elt=some (.ok (F a) (σ++[aa.lst acc])))) (hp:P en):
 cy g tr ev target ifs elt σ.length w en (σ++[aa.lst acc]) t=some (σ++[aa.lst (acc++(as.filter k).map F)]):=by
 induction as generalizing t en w acc with
 |nil=>cases w with
  |zero=>exact absurd hl (HL _)
  |succ w=>exact(Gz acc).symm▸mU (ht.nil (hS _))
 |cons a as ih=>cases w with
  |zero=>exact absurd hl (HL _)
  |succ w=>
   refine aK ht.cons fun t' h' hn=> ?_;refine mQ (hb a (.head _) en acc hp) fun en' hp' h1 h2 h3=> ?_;have hb':=fun b m=>hb b (.tail _ m)
   cases hk:k a with
   |true=>
    rw[hk]at h2
    rw[mS (hn _ (hS _)) h1 h2 (h3 hk) (j6 (HC (HA ..) (HF ha (HE rfl)))),ih h' (HN hl) (by rw[GE];exact(congrArg (· <av) (HZ ..)).mpr ha) hb' hp',Gx,List.filter_cons_of_pos hk];rfl
   |false=>
    rw[hk]at h2;rw[lH (hn _ (hS _)) h1 h2,List.filter_cons_of_neg (hk▸FT)];exact ih h' (HN hl) (HV ha) hb' hp'
theorem Ak{S:Sg→Prop}{P:En→Prop}{as:List α}{f F:α→V}{k:α→Bool}(hS: ∀acc,S (σ++[aa.lst acc]))(ht:aC S t (as.map f))(hl:as.length<av)
 (hb: ∀a∈as,∀en acc,P en→ ∃en',P en'∧g target en (σ++[aa.lst acc]) (f a)=some (en',σ++[aa.lst acc])∧bL tr en' (σ++[aa.lst acc]) ifs=some (k a,σ++[aa.lst acc])∧(k a=true→ev en' (σ++[aa.lst acc]) elt=some (.ok (F a) (σ++[aa.lst acc])))) (hp:P en):
 cy g tr ev target ifs elt σ.length av en (σ++[aa.lst []]) t=some (σ++[aa.lst ((as.filter k).map F)]):=DR (acc:=[]) hS ht hl (by rw[List.length_nil,HW];exact hl) hb hp
noncomputable def CK(c:Cx)(n:Nat)(e:Expr)(en:En)(σ:Sg)(as:List α)(f:α→V)(b:α→List (Str×V))(P:List (Str×V)→Prop)(k:α→Bool)(F:α→V):Prop:=
 ∀a∈as,∀own acc,P own→P (b a++own)∧di 8 (ch e 1) ⟨al (dF e).names en,own,en.fre,none⟩ (σ++[aa.lst acc]) (f a)=some (⟨al (dF e).names en,b a++own,en.fre,none⟩,σ++[aa.lst acc])∧
  bL (lv c n).tr ⟨al (dF e).names en,b a++own,en.fre,none⟩ (σ++[aa.lst acc]) (d7 e)=some (k a,σ++[aa.lst acc])∧
  (k a=true→(lv c n).ev ⟨al (dF e).names en,b a++own,en.fre,none⟩ (σ++[aa.lst acc]) (ch e 0)=some (.ok (F a) (σ++[aa.lst acc])))
noncomputable abbrev gM(en:En)(e:Expr):Bool:=cX (ch e 2)&&(dF e).kind== .function&&dO (dF e).names en
theorem ng{S:Sg→Prop}{x:IV}{as:List α}{f F:α→V}{b:α→List (Str×V)}{P:List (Str×V)→Prop}{k:α→Bool}(hf:gM en e=true)(hx:(lv c n).iv en σ (ch e 2)=some (.ok x σ))(ht:aA σ x=some t)(hS: ∀acc,S (σ++[aa.lst acc]))(tl:aC S t (as.map f))(hl:as.length<4096)
 (hp:P (dP (dF e).names en).own) (hb:CK c n e en σ as f b P k F):b_ (lv c n).iv (lv c n).tr (lv c n).ev en σ (ch e 0) [⟨ch e 1,ch e 2,d7 e,0⟩] (dF e)=some (.ok (.lst σ.length) (σ++[aa.lst ((as.filter k).map F)])):=by
 refine n7 hf hx ht (Ak (P:=fun en'=> ∃own,en'=⟨al (dF e).names en,own,en.fre,none⟩∧P own) hS tl hl ?_ ⟨_,rfl,hp⟩);rintro a ha _ acc ⟨own,rfl,hp⟩;refine td (hb a ha own acc hp) fun h0 h1 h2 h3=> ?_;exact⟨_,⟨_,rfl,h0⟩,h1,h2,h3⟩
theorem jx(he:iA e)(h:b_ (lv c n).iv (lv c n).tr (lv c n).ev en σ (ch e 0) [⟨ch e 1,ch e 2,d7 e,0⟩] (dF e)=some (.ok y J2)):(lv c (n+1)).ev en σ e=some (.ok y J2):=
 (congrArg ((lv c (n+1)).ev en σ) he).trans h
end
end
section
noncomputable abbrev pP(p:Int×Int):V:=V.tup [.int p.1,.int p.2]
noncomputable abbrev vI(l:List Int):V:= .tup (l.map V.int)
noncomputable abbrev vP(l:List (Int×Int)):V:= .tup (l.map pP)
noncomputable def pX(X:Xp)(a:Addr):List Value:=(jP (KK X.P) (dS X a)).getD []
noncomputable def dY(X:Xp)(a:Addr):Bool:=(ly (KK X.P) a).isSome&&kB (KK X.P) (dS X a)&&(jP (KK X.P) (dS X a)).isSome&&(match(dS X a).body with| .stmts _=>true|_=>false)
theorem bo{X:Xp}{ks:List (Str×V)}(hp:dY X a=true)(hb:eQ ((dS X a).params.args.map (·.arg)) xs ks ((pX X a).map xm)=some binds)(hk:gO (dS X a).scope.names binds=true)
 (h:(lv (cc X) n).exs (ah X a binds.reverse) σ (aB X a)=some so) (ho:ir so=some o):(lv (cc X) (n+1)).cf σ a xs ks=some o:=by
 unfold dY at hp;simp only[FS]at hp;obtain⟨⟨⟨h1,h2⟩,h3⟩,h4⟩:=hp;obtain⟨fd,hfd⟩:=H4.mp h1
 have e1:dS X a=fd:=by unfold dS;rw[hfd];rfl
 obtain⟨ds,hds⟩:=H4.mp h3
 have e2:pX X a=ds:=by unfold pX;rw[hds];rfl
 have e3:(dS X a).body= .stmts (aB X a):=by
  unfold aB
  cases hB:(dS X a).body with
  |stmts b=>rfl
  |_=>rw[hB]at h4;exact bI h4
 rw[←e1]at hfd;rw[e2]at hb;exact Do hfd h2 e3 hds hb hk h ho
theorem eJ{X:Xp}{ks:List (Str×V)}(hp:dY X a=true)(h:(lv (cc X) n).cf σ a xs ks=some (.ok y J2)):aH (cc X) (lv (cc X) n).cf σ (.ref a) (xs.map .v) ks=some (.ok (.v y) J2):=by
 unfold dY at hp;simp only[FS]at hp;refine oE (H4.mp hp.1.1.1) fun fd hfd=> ?_;exact zw hfd h rfl
theorem gH{X:Xp}{ks:List (Str×V)}{y:String}(hp:dY X a=true)(h:(lv (cc X) n).cf σ a xs ks=some (.exc y J2)):aH (cc X) (lv (cc X) n).cf σ (.ref a) (xs.map .v) ks=some (.exc y J2):=by
 unfold dY at hp;simp only[FS]at hp;obtain⟨fd,hfd⟩:=H4.mp hp.1.1.1;exact zw hfd h rfl
theorem xA{x y:Int}(he:e= .IfExp (ch e 0) (ch e 1) (ch e 2) (ps e))(h0:(lv c n).tr en σ (ch e 0)=some (.ok b σ))(h1:b=true→(lv c n).ev en σ (ch e 1)=some (.ok (.int x) σ))(h2:b=false→(lv c n).ev en σ (ch e 2)=some (.ok (.int y) σ)):(lv c (n+1)).ev en σ e=some (.ok (.int (bif b then x else y)) σ):=by
 rw[CT he h0 h1 h2];cases b<;>rfl
variable {X:Xp}
noncomputable def dU(ss ts:List Int):List Int:=(ss.zip ts).map fun p=>bif p.1==1 then 0 else p.2
noncomputable abbrev C5(X:Xp):=sx (St X 711 0) 0
set_option profiler true
set_option profiler.threshold 300
theorem Ac(ss ts:List Int)(hl:ss.length<4096)(σ:Sg)(n:Nat):(lv (cc X) (n+10)).cf σ 711 [vI ss,vI ts] []=some (.ok (vI (dU ss ts)) σ):=by
 refine bo (a:=711) ac (binds:=[("shape",vI ss),("strides",vI ts)]) ⋯ ac (so:= .ok (.ret (vI (dU ss ts))) (ah X 711 [("strides",vI ts),("shape",vI ss)]) σ) ?_ rfl
 rw[show aB X 711=[.Return (some (C5 X)) (kl (St X 711 0))]from rfl]
 refine ao (vk ?_);have:=g_ (c:=cc X) (n:=n+7) (σ:=σ) (e:=C5 X) (en:=ah X 711 [("strides",vI ts),("shape",vI ss)]) (t:= .zip [.seq (ss.map V.int) 0,.seq (ts.map V.int) 0]) (as:=ss.zip ts) (f:=fun p=> .tup [.int p.1,.int p.2])
  (b:=fun p=>[("st",.int p.2),("s",.int p.1)]) (F:=fun p=> .int (bif p.1==1 then 0 else p.2)) rfl ac rfl rfl rfl (S:=fun u_=>True) trivial (aZ (ai _ _) (ai _ _)) (by rw[Go];exact mft ‹_›)
  (fun p u_ own=>⟨rfl,xA rfl (bw rfl ay rfl rfl rfl) (fun u_=>rfl) (fun u_=>rfl)⟩) (fun p u_=>rfl)
 rw[show(ss.zip ts).map (fun p=>V.int (bif p.1==1 then 0 else p.2))=(dU ss ts).map V.int from(GK ..).symm]at this
 exact this
theorem iu(ss ts:List Int):(dU ss ts).length=min ss.length ts.length:=by simp[dU]
end
section
section
theorem CG{fs:ei}{S:Sg→Prop}{I:Nat→En→Sg→Prop}{as:List α}{f:α→V}(hL: ∀i en σ,I i en σ→σ.length≤L)(hS: ∀i en σ,I i en σ→S σ)(ht:aC S t (as.map f))(hl:as.length<av)(hn: ∀en σ,fs en σ []=some (.ok .next en σ))(h0:I 0 en σ)
 (step: ∀i (hi:i<as.length) en σ,I i en σ→ ∃Kf J2 Kw J6,g target en σ (f as[i])=some (Kf,J2)∧fs Kf J2 body=some (.ok .next Kw J6)∧I (i+1) Kw J6):
 ∃en' J1,I as.length en' J1∧gq L g fs target body [] av en σ t=some (.ok .next en' J1):=by
 refine aK ht fun ts zz1 h=> ?_;subst zz1
 have key: ∀(m k i:Nat) (en:En) (σ:Sg),i+m=as.length→I i en σ→ ∃en' J1,I as.length en' J1∧gq L g fs target body [] (m+k+1) en σ (ts i)=some (.ok .next en' J1):=by
  intro m
  induction m with
  |zero=>
   intro k i en σ hi hp
   have hi:i=as.length:=by assumption
   subst hi;refine⟨en,σ,hp,?_⟩;have e:=(h σ (hS _ _ _ hp)).2;rw[Gk]at e
   refine(show 0+k+1=k+1 from by simp+arith).symm▸ ?_
   exact pN e (hn _ _)
  |succ m ih=>
   intro k i en σ hi hp
   have hlt:i<as.length:=by exact Eu ‹_›
   refine bO (step i hlt en σ hp) fun Kf J2 Kw J6 h1 h2 h3=> ?_;refine bc (ih k (i+1) Kw J6 (Dr ‹_›) h3) fun en' J1 h4 h5=> ?_;refine⟨en',J1,h4,?_⟩
   have hx:=(h σ (hS _ _ _ hp)).1 i (f as[i]) (by simp[hlt])
   refine(show m+1+k+1=(m+k+1)+1 from by simp+arith).symm▸ ?_
   generalize m+k+1=w at h5⊢;have hc:jF L (ts (i+1)) Kw J6=(Kw,J6):=if_pos (hL _ _ _ h3);rw[mN hx h1 h2];show gq L g fs target body [] w _ _ _=_;rw[hc];exact h5
 refine bc (key as.length (av-1-as.length) 0 en σ (by simp+arith) h0) fun en' J1 h1 h2=> ?_
 rw[show as.length+(av-1-as.length)+1=av from by exact Eh ‹_›]at h2
 exact⟨en',J1,h1,h2⟩
theorem qk{S:Sg→Prop}(as:List α)(f:α→V)(hl:as.length≤2^20):aC S (.revt (as.map f) as.length) (as.reverse.map f):=by
 refine⟨fun i=> .revt (as.map f) (as.length-i),rfl,fun σ u_=>⟨fun i x hx=> ?_,?_⟩⟩
 ·have hi:i<as.length:=by
   have:=(Gy.mp hx).1;simpa using this
  obtain⟨k,hk⟩: ∃k,as.length-i=k+1:=⟨as.length-i-1,by exact rt0 ‹_›⟩
  have hk':as.length-(i+1)=k:=by exact rt1 ‹_›
  have e:(as.map f)[k]? =some x:=by
   rw[←hx,List.map_reverse,List.getElem?_reverse (by simpa using hi)]
   congr 1;simp;exact rt2 ‹_›
  refine(?_:aw σ (.revt (as.map f) (as.length-i))=some (some (x,.revt (as.map f) (as.length-(i+1)))));rw[hk,hk'];show((as.map f)[k]?).bind _=_;rw[e]
  exact if_pos (by rw[Gk];exact hl)
 ·as_aux_lemma=>
   refine(?_:aw σ (.revt (as.map f) (as.length-(as.reverse.map f).length))=_)
   refine(show as.length-(as.reverse.map f).length=0 from by simp).symm▸ ?_
   rfl
theorem pQ(h:σ[k]? =some (.lst l)):ij c σ (.lst k) "append"=some (.builtin "list.append",[.lst k]):=by
 show(aG σ k).bind _=_;rw[aN h];rfl
theorem ue{p:V}(hk:σ[k]? =some (.lst (acc++[p]))):gn σ (.lst k) (-1)=some p:=by
 show(aG σ k).bind _=_;rw[aN hk];show gG _ _=_;unfold gG
 refine dJ (by decide) ?_
 have:seqIndex? (-1) (acc++[p]).length=some acc.length:=by
  simp[seqIndex?]
  try simp+arith
 refine(this).symm▸ ?_;simp
theorem jy(h:σ[k]? =some (.lst l))(hl:l.length≤2^20):aH c cf σ (.type "tuple") [.v (.lst k)] []=some (.ok (.v (.tup l)) σ):=by
 have:aH c cf σ (.type "tuple") [.v (.lst k)] []=((qj σ (.lst k)).map fun l=>aD.ok (IV.v (.tup l)) σ).or (nB σ [.v (.lst k)] []):=rfl;rw[this];show(((aG σ k).bind _).map _).or _=_;rw[aN h]
 show((if _ then _ else none:Option _).map _).or _=_
 rw[if_pos hl];rfl
theorem uh(h:cw σ k y=some J2):aH c cf σ (.builtin "list.append") [.v (.lst k),.v y] []=some (.ok (.v .none) J2):=by
 have:aH c cf σ (.builtin "list.append") [.v (.lst k),.v y] []=(cw σ k y).map fun J1=> .ok (.v .none) J1:=rfl;rw[this,h];rfl
theorem B1{v:V}{lo hi st:Option Expr}{sp:Pos}{l u t:V}{l' u' t':Option Int}(he:e= .Subscript (ch e 0) (.Slice lo hi st sp) (ps e))(h1:(lv c n).ev en σ (ch e 0)=some (.ok v σ))(h2:gf (lv c n).ev en σ lo=some (.ok l σ))(h3:gf (lv c n).ev en σ hi=some (.ok u σ))(h4:gf (lv c n).ev en σ st=some (.ok t σ))
 (p1:gB l=some l') (p2:gB u=some u') (p3:gB t=some t') (h5:cn σ v l' u' t'=some (y,J2)):(lv c (n+1)).ev en σ e=some (.ok y J2):=
 (congrArg ((lv c (n+1)).ev en σ) he).trans (wM h1 h2 h3 h4 p1 p2 p3 h5)
theorem C6{s:Stmt}(hs:s= .Expr (sx s 0) (kl s))(hc:cg (sx s 0)=true)(h:(lv c n).ev en σ (sx s 0)=some (.ok y J2))(hy:aX y=true):aR c (lv c n) en σ s=some (.ok .next en J2):=
 (congrArg (aR c (lv c n) en σ) hs).trans (zq hc h hy)
theorem du{s:Stmt}(hs:s= .Return (some (sx s 0)) (kl s))(h:(lv c n).ev en σ (sx s 0)=some (.ok y J2)):aR c (lv c n) en σ s=some (.ok (.ret y) en J2):=
 (congrArg (aR c (lv c n) en σ) hs).trans (vk h)
theorem Ed{s:Stmt}{v:Bool}{o:aJ}(hs:s= .If (sx s 0) (aj s) (cQ s) (kl s))(h1:(lv c n).tr en σ (sx s 0)=some (.ok v J2))(h2:(lv c n).exs en J2 (bif v then aj s else cQ s)=some o):aR c (lv c n) en σ s=some o:=
 (congrArg (aR c (lv c n) en σ) hs).trans (Cn h1 (by cases v<;>exact h2))
theorem cb{s:Stmt}{x:Str}(hs:s= .Assign [.Name x xp] (sx s 0) (kl s))(hc:cg (sx s 0)=true)(hx:bF en x=true)(h:(lv c n).ev en σ (sx s 0)=some (.ok y J2)):aR c (lv c n) en σ s=some (.ok .next (en.set x y) J2):=
 (congrArg (aR c (lv c n) en σ) hs).trans (A1 hc hx h)
theorem Bo{s:Stmt}{x:IV}{o:aJ}(hs:s= .For (sx s 0) (sx s 1) (aj s) (cQ s) (kl s))(hn:cX (sx s 1)=true)(hx:(lv c n).iv en σ (sx s 1)=some (.ok x J2))(ht:aA J2 x=some t)(h:gq J2.length (eH c (lv c n).ev 8) (lv c n).exs (sx s 0) (aj s) (cQ s) av en J2 t=some o):
 aR c (lv c n) en σ s=some o:=
 (congrArg (aR c (lv c n) en σ) hs).trans (AB hn hx ht h)
theorem ci{s:Stmt}{v:Bool}(hs:s= .Assert (sx s 0) none (kl s))(h:(lv c n).tr en σ (sx s 0)=some (.ok v J2)):aR c (lv c n) en σ s=some (if v then .ok .next en J2 else .exc "AssertionError" en J2):=
 (congrArg (aR c (lv c n) en σ) hs).trans (t6 h)
end
end
section
variable {X:Xp}
theorem be{a:Int}(h:a.natAbs≤k)(hk:k<2^62):bG a=true:=by
 unfold bG;exact decide_eq_true (HC ‹_› ‹_›)
theorem gE{a b:Int}(ha:bG a=true)(hb:bG b=true):mw σ .Mult (.int a) (.int b)=some (.int (a*b),σ):=by
 show(if(bG a&&bG b)=true then some (a*b)else none).map _=_
 rw[ha,hb];rfl
noncomputable def bP(l:List Int):Prop:=l.length≤4∧ ∀s∈l,s.natAbs≤1000
noncomputable abbrev jr(X:Xp):=St X 718 2
noncomputable abbrev Fd(X:Xp):=sx (si (aj (jr X)) 0) 0
theorem qK(own:List (Str×V)):aP (cc X) (ah X 718 own) "strides"=own.lookup ("strides":Str):=rfl
theorem AW(own:List (Str×V)):aP (cc X) (ah X 718 own) "shape"=own.lookup ("shape":Str):=rfl
theorem Dl(own:List (Str×V)):aP (cc X) (ah X 718 own) "s"=own.lookup ("s":Str):=rfl
theorem yy{own:List (Str×V)}{p a:Int}(n:Nat)(hst:own.lookup ("strides":Str)=some (.lst σ.length))(hp:bG p=true)(ha:bG a=true)(hz:acc.length≤1000):
 (lv (cc X) (n+12)).exs (ah X 718 (("s",.int a)::own)) (σ++[aa.lst (acc++[.int p])]) (aj (jr X))=some (.ok .next (ah X 718 (("s",.int a)::own)) (σ++[aa.lst (acc++[.int p]++[.int (p*a)])])):=by
 have hσ:(σ++[aa.lst (acc++[V.int p])])[σ.length]? =some (.lst (acc++[V.int p])):=by exact GG
 have hst':GC ("strides":Str) (("s",V.int a)::own)=some (.lst σ.length):=hst
 rw[show aj (jr X)=[si (aj (jr X)) 0]from rfl]
 refine ao (C6 (y:= .none) rfl ac (ki ac (gg (name:="append") (args:=[ch (Fd X) 1]) (x:= .lst σ.length) (fv:= .builtin "list.append") (first:=[.lst σ.length]) (vs:=[.v (.int (p*a))])
  rfl ac (bQ (x:="strides") rfl (by rw[qK];exact hst')) (pQ hσ) ac (kA ac (bx ay
   (cE (op:= .Mult) (x:= .int p) (y:= .int a) rfl (cW (x:= .lst σ.length) (i:= -1) rfl ac (bQ (x:="strides") rfl (by rw[qK];exact hst')) rfl (ue hσ))
    (bQ (x:="s") rfl (by rw[Dl];rfl)) (gE hp ha)))) (uh (j6 (by simp;exact Ey ‹_› (by exact ac)))))) rfl)
theorem x9(n:Nat)(r:List Int)(hs:bP r)(ss:V)(σ:Sg):
 ∃(own':List (Str×V)) (acc:List Int),acc.length=r.length+1∧own'.lookup ("strides":Str)=some (.lst σ.length)∧own'.lookup ("shape":Str)=some ss∧
  gq (σ++[aa.lst [V.int 1]]).length (eH (cc X) (lv (cc X) (n+12)).ev 8) (lv (cc X) (n+12)).exs (sx (jr X) 0) (aj (jr X)) [] av (ah X 718 [("strides",.lst σ.length),("shape",ss)]) (σ++[aa.lst [.int 1]]) (.revt (r.map V.int) r.length)=
   some (.ok .next (ah X 718 own') (σ++[aa.lst (acc.map V.int)])):=by
 have:=CG (en:=ah X 718 [("strides",.lst σ.length),("shape",ss)]) (σ:=σ++[aa.lst [.int 1]]) (g:=eH (cc X) (lv (cc X) (n+12)).ev 8) (fs:=(lv (cc X) (n+12)).exs) (target:=sx (jr X) 0) (body:=aj (jr X)) (as:=r.reverse) (f:=V.int)
  (I:=fun i en J1=> ∃(own:List (Str×V)) (acc:List Int) (p:Int),en=ah X 718 own∧own.lookup ("strides":Str)=some (.lst σ.length)∧own.lookup ("shape":Str)=some ss∧J1=σ++[aa.lst (acc.map V.int++[V.int p])]∧acc.length=i∧p.natAbs≤1000^i)
  (L:=(σ++[aa.lst [V.int 1]]).length) (S:=fun u_=>True) (by rintro _ _ _ ⟨_,_,_,_,_,_,rfl,_⟩;simp) (fun u_ u_ u_ u_=>trivial) (qk r V.int (by have:=hs.1;exact bf ‹_› (by exact ac))) (by rw[Hn];have:=hs.1;show r.length<4096;exact fD ‹_› (by exact ac)) (fun u_ u_=>rfl) ⟨_,[],1,rfl,rfl,rfl,rfl,rfl,by exact Hv _⟩ ?_
 ·obtain⟨en',J1,⟨own,acc,p,rfl,h1,h2,rfl,h3,_⟩,h4⟩:=this
  refine⟨own,acc++[p],by simp[h3],h1,h2,?_⟩
  refine(h4).symm▸ ?_;simp
 ·rintro i hi _ _ ⟨own,acc,p,rfl,h1,h2,rfl,h3,h4⟩
  have hi':i<4:=by have:=hs.1;rw[Hn]at hi;exact HF (by assumption) (by assumption)
  have hb:=hs.2 _ (List.mem_reverse.mp (GN hi))
  have hp:bG p=true:=be h4 (HC (Nat.pow_le_pow_right (by exact Hw _) (HH hi')) (by decide))
  have ha:bG r.reverse[i]=true:=be hb (by decide)
  have t:=yy (X:=X) (own:=own) (σ:=σ) (acc:=acc.map V.int) (p:=p) (a:=r.reverse[i]) n h1 hp ha (by rw[Gk];exact l9 ‹_› ‹_› (by exact ac))
  refine⟨_,_,_,_,show eH (cc X) _ 8 _ _ _ _=some (ah X 718 (("s",.int r.reverse[i])::own),_)from rfl,t,_,acc++[p],p*r.reverse[i],rfl,h1,h2,by simp,by simp[h3],?_⟩
  rw[Int.natAbs_mul,Nat.pow_succ];exact Nat.mul_le_mul h4 hb
noncomputable abbrev vm(X:Xp):=sx (St X 718 3) 0
theorem sfs(a:Int)(r:List Int)(hs:bP (a::r))(σ:Sg)(n:Nat): ∃(ts:List Int) (ext:Sg),ts.length=r.length+1∧(lv (cc X) (n+32)).cf σ 718 [vI (a::r)] []=some (.ok (vI ts) (σ++ext)):=by
 have hl:=hs.1;rw[GI]at hl
 have hr:bP r:=⟨by exact HH (by assumption),fun s h=>hs.2 s (Hi _ h)⟩
 refine bS (x9 (X:=X) (n+18) r hr (vI (a::r)) σ) fun own acc k1 k2 k3 k4=> ?_
 refine⟨dU (a::r) acc.reverse,[aa.lst (acc.map V.int),aa.lst (acc.map V.int).reverse],by rw[iu,Hn,GI];exact Cy ‹_›,?_⟩
 refine bo (a:=718) (so:= .ok (.ret (vI (dU (a::r) acc.reverse))) (ah X 718 own) (σ++[aa.lst (acc.map V.int),aa.lst (acc.map V.int).reverse])) ac (binds:=[("shape",vI (a::r))]) ⋯ ac ?_ rfl
 rw[show aB X 718=[St X 718 0,St X 718 1,jr X,St X 718 3]from rfl]
 have t0:bq σ (vI (a::r))=some true:=by
  refine(?_:(if _≤2^20 then some _ else _)=_)
  rw[if_pos (by simp;exact Fh ‹_› (by exact ac))];rfl
 have hσ:(σ++[aa.lst (acc.map V.int)])[σ.length]? =some (.lst (acc.map V.int)):=by exact GG
 refine ab (Ed (v:=false) (o:= .ok .next (ah X 718 [("shape",vI (a::r))]) σ) rfl (By (b:=true) rfl (dn ac (bQ (x:="shape") (y:=vI (a::r)) rfl rfl) t0)) rfl) ?_;refine ab (J1:=σ++[aa.lst [.int 1]]) (en':=ah X 718 [("strides",.lst σ.length),("shape",vI (a::r))]) rfl ?_
 refine ab (Bo (x:= .it (.revt (r.map V.int) r.length)) (J2:=σ++[aa.lst [.int 1]]) rfl ac ?_ rfl ((congrArg (fun z=>gq _ _ _ _ _ z av _ _ _) (show cQ (jr X)=[]from rfl)).trans k4)) ?_
 ·refine cF (x:="reversed") (args:=[ch (sx (jr X) 1) 1]) (fv:= .type "reversed") (vs:=[.v (.tup (r.map V.int))]) (J2:=σ++[aa.lst [.int 1]]) rfl rfl rfl ac
   (kA ac (bx ay (B1 (v:=vI (a::r)) (lo:=some (ch (ch (ch (sx (jr X) 1) 1) 1) 0)) (hi:=none) (st:=none) (sp:=ps (ch (ch (sx (jr X) 1) 1) 1)) (l:= .int 1) (u:= .none) (t:= .none) (l':=some 1) (u':=none) (t':=none) rfl rfl rfl rfl rfl rfl rfl rfl (qp (by simp;exact Fh ‹_› (by exact ac)))))) ?_
  have:aH (cc X) (lv (cc X) (n+29)).cf (σ++[aa.lst [V.int 1]]) (.type "reversed") [.v (.tup (r.map V.int))] []=if(r.map V.int).length≤2^20 then some (.ok (.it (.revt (r.map V.int) (r.map V.int).length)) (σ++[aa.lst [V.int 1]]))else none:=rfl
  refine(?_:aH _ _ _ (.type "reversed") [.v (.tup (r.map V.int))] []=_)
  rw[this,if_pos (by simp;exact Fh ‹_› (by exact ac)),Gk]
 refine ao (du rfl (ki ac (cF (x:="canonicalize_strides") (args:=[ch (vm X) 1,ch (vm X) 2]) (fv:= .ref 711) (vs:=[.v (vI (a::r)),.v (vI acc.reverse)]) (J2:=σ++[aa.lst (acc.map V.int),aa.lst (acc.map V.int).reverse]) rfl rfl rfl ac
  (zN (J2:=σ++[aa.lst (acc.map V.int)]) ac (bx ay (bQ (x:="shape") rfl (by rw[AW];exact k3)))
   (cF (x:="tuple") (args:=[ch (ch (vm X) 2) 1]) (fv:= .type "tuple") (vs:=[.v (.lst (σ.length+1))]) (J2:=σ++[aa.lst (acc.map V.int),aa.lst (acc.map V.int).reverse]) rfl rfl rfl ac
    (kA ac (bx ay (B1 (v:= .lst σ.length) (lo:=none) (hi:=none) (st:=some (ch (ch (ch (ch (vm X) 2) 1) 1) 2)) (sp:=ps (ch (ch (ch (vm X) 2) 1) 1)) (l:= .none) (u:= .none) (t:= .int (-1)) (l':=none) (u':=none) (t':=some (-1)) (y:= .lst (σ.length+1)) rfl (bQ (x:="strides") rfl (by rw[qK];exact k2)) rfl rfl rfl rfl rfl rfl ?_))) ?_)) (eJ (X:=X) (xs:=[vI (a::r),vI acc.reverse]) ac (Ac (a::r) acc.reverse (by rw[GI];exact fD ‹_› (by exact ac)) _ (n+19))))))
 ·as_aux_lemma=>
   have:=qF (σ:=σ++[aa.lst (acc.map V.int)]) hσ (by rw[Gk];exact dB ‹_› ‹_› (by exact ac))
   rw[this];simp
 ·have e:(σ++[aa.lst (acc.map V.int),aa.lst (acc.map V.int).reverse])[σ.length+1]? =some (.lst (acc.map V.int).reverse):=by simp
  refine(jy e (by simp;exact dB ‹_› ‹_› (by exact ac))).trans ?_
  rw[←List.map_reverse]
end
section
theorem fY{s:Stmt}(hs:s= .Assign [sx s 1] (sx s 0) (kl s))(hc:cg (sx s 0)=true)(hsw:jb en (sx s 1) (sx s 0)=some none)(h:(lv c n).ev en σ (sx s 0)=some (.ok y J2))(ha:eH c (lv c n).ev 8 (sx s 1) en J2 y=some (en',J1)):aR c (lv c n) en σ s=some (.ok .next en' J1):=by
 refine(congrArg (aR c (lv c n) en σ) hs).trans ?_;generalize sx s 0=e at hc hsw h⊢
 have:gZ c (lv c n).ev en σ (sx s 1) e=some (.ok .next en' J1):=by
  unfold gZ;rw[if_pos hc,hsw];show bR en _ _=_;rw[h];show(eH _ _ _ _ _ _ _).map _=_;rw[ha];rfl
 cases e<;>first
  |exact this
  |exact bI hc
theorem i9(hc:(decide (findIn c.K (.ref C) "__setattr__"=some (some (.builtin "object.__setattr__")))&&plainOver c.K C&&decide (takerIn c.K C name=some none)&&hasDictIn c.K C)=true)(hl:fs.length≤900):
 de c (σ++[aa.dct fs]) (.inst C σ.length) name y=some (σ++[aa.dct (sJ name y fs)]):=by
 simp only[FS,decide_eq_true_eq]at hc;refine dm fun kk=> ?_;obtain⟨⟨⟨h1,h2⟩,h3⟩,h4⟩:=hc<;>(refine kk ?_;clear kk)
 have e:fm (σ++[aa.dct fs]) σ.length=some fs:=by simp[fm,z7]
 show(fm _ _).bind _=_;rw[e];refine dJ ⟨h1,h2,h3,h4,hl⟩ ?_;simp[List.set_append]
theorem fE(he:e= .Attribute (ch e 0) name (ps e))(ho:f en σ (ch e 0)=some (.ok x J2))(hs:de c J2 x name y=some J6):eH c f (k+1) e en σ y=some (en,J6):=by
 rw[he];show(f en σ (ch e 0)).bind _=_;rw[ho];show(de c J2 x name y).map _=_;rw[hs];rfl
theorem fJ{t:Expr}{ts:List Expr}{r:Option (En×Sg)}(h:g t en σ y=some (en',J1))(k:fK g ts en' J1 ys=r):fK g (t::ts) en σ (y::ys)=r:=by
 show(g t en σ y).bind _=_;rw[h];exact k
theorem y_{m:Nat}{p:Pos}{r:Option (En×Sg)}(he:e= .Tuple es m p)(hs:ak es=true)(h:fK (eH c f k) es en σ l=r):eH c f (k+1) e en σ (.tup l)=r:=by
 rw[he]
 show(if ak es=true then _ else none)=_
 first|with_reducible refine c_ hs ?_|with_reducible refine dJ hs ?_;exact h
noncomputable abbrev CY:List String:=["shape","strides","offset","mask","contiguous"]
noncomputable def ag:Addr:=match NM.lookup ("View":Str)with
 |some (.ref a)=>a
 |_=>0
theorem zn(X:Xp):(CY.all fun x=>(decide (findIn (cc X).K (.ref ag) "__setattr__"=some (some (.builtin "object.__setattr__")))&&plainOver (cc X).K ag&&decide (takerIn (cc X).K ag (JW x)=some none)&&hasDictIn (cc X).K ag))=true:=by kernel_rfl
variable {X:Xp}
theorem i7{name:String}(hm:CY.contains name=true)(hl:fs.length≤900):de (cc X) (σ++[aa.dct fs]) (.inst ag σ.length) (JW name) y=some (σ++[aa.dct (sJ (JW name) y fs)]):=
 i9 (Gw.mp (zn X) name (Ho.mp hm)) hl
noncomputable abbrev bb(S T O M B:V):List (Str×V):=[("shape",S),("strides",T),("offset",O),("mask",M),("contiguous",B)]
noncomputable abbrev vp(x S T O M B:V):List (Str×V):=[("self",x),("shape",S),("strides",T),("offset",O),("mask",M),("contiguous",B)]
noncomputable abbrev vi(x S T O M B:V):List (Str×V):=[("contiguous",B),("mask",M),("offset",O),("strides",T),("shape",S),("self",x)]
noncomputable abbrev o9(X:Xp):=sx (St X 754 0) 1
theorem iW(x S T' O M B:V)(σ:Sg)(n:Nat)(i:Nat)(hi:i<5):(lv (cc X) (n+1)).ev (ah X 754 (vi x S T' O M B)) σ (ch (ch (o9 X) i) 0)=some (.ok x σ):=by
 revert i;refine qt ?_ ?_ ?_ ?_ ?_
 all_goals exact rfl
theorem yJ{ks:List (Str×V)}(S T' O M B:V)(σ:Sg)(n:Nat)(hb:eQ ((dS X 754).params.args.map (·.arg)) (.inst ag σ.length::xs) ks ((pX X 754).map xm)=some (vp (.inst ag σ.length) S T' O M B)):
 (lv (cc X) (n+12)).cf (σ++[aa.dct []]) 754 (.inst ag σ.length::xs) ks=some (.ok .none (σ++[aa.dct (bb S T' O M B)])):=by
 refine bo (a:=754) (so:= .ok .next (ah X 754 (vi (.inst ag σ.length) S T' O M B)) (σ++[aa.dct (bb S T' O M B)])) ac hb ac ?_ rfl
 rw[show aB X 754=[St X 754 0]from rfl]
 refine ao (fY rfl ac rfl rfl ?_);refine y_ (es:=[ch (o9 X) 0,ch (o9 X) 1,ch (o9 X) 2,ch (o9 X) 3,ch (o9 X) 4]) (m:=tk (o9 X)) (p:=ps (o9 X)) rfl ac ?_
 exact fJ (fE (name:="shape") rfl (iW _ _ _ _ _ _ _ (n+9) 0 (by exact Hw _)) (i7 rfl (HE rfl))) (fJ (fE (name:="strides") rfl (iW _ _ _ _ _ _ _ (n+9) 1 (by decide)) (i7 rfl (HE rfl)))
  (fJ (fE (name:="offset") rfl (iW _ _ _ _ _ _ _ (n+9) 2 (by exact HB ..)) (i7 rfl (HE rfl))) (fJ (fE (name:="mask") rfl (iW _ _ _ _ _ _ _ (n+9) 3 (by exact Hz _)) (i7 rfl (HE rfl)))
   (fJ (fE (name:="contiguous") rfl (iW _ _ _ _ _ _ _ (n+9) 4 (by exact Hx _)) (i7 rfl (HE rfl))) rfl))))
theorem vT(l:List V):oh (l.map IV.v)=some l:=by
 induction l with
 |nil=>rfl
 |cons x l ih=>exact congrArg (Option.map (x:: ·)) ih
theorem rH{fI:Addr}{ks:List (Str×V)}(h0:ly c.K C=none)(h1:makesIn c.K C=true)(h2:findIn c.K (.ref C) "__init__"=some (some (.ref fI)))(h3:typeIn c.K (.ref fI)=some (.type "function"))(h:cf (σ++[aa.dct []]) fI (.inst C σ.length::xs) ks=some (.ok .none J1)):
 aH c cf σ (.ref C) (xs.map .v) ks=some (.ok (.v (.inst C σ.length)) J1):=by
 show(oh (xs.map IV.v)).bind _=_;rw[vT]
 have w:mV c cf σ C xs ks=some (.ok (.inst C σ.length) J1):=by
  refine(if_pos h1:(if _ then _ else none)=_).trans ?_
  rw[h2]
  refine(if_pos h3:(if _ then _ else none)=_).trans ?_
  rw[h];rfl
 show gh (match ly c.K C with|some _=>cf σ C xs ks|none=>mV c cf σ C xs ks)=_
 rw[h0];show gh (mV c cf σ C xs ks)=_;rw[w];rfl
theorem pM{ks:List (Str×V)}(S T' O M B:V)(σ:Sg)(n:Nat)(hb:eQ ((dS X 754).params.args.map (·.arg)) (.inst ag σ.length::xs) ks ((pX X 754).map xm)=some (vp (.inst ag σ.length) S T' O M B)):
 aH (cc X) (lv (cc X) (n+12)).cf σ (.ref ag) (xs.map .v) ks=some (.ok (.v (.inst ag σ.length)) (σ++[aa.dct (bb S T' O M B)])):=
 rH (fI:=754) rfl ac rfl rfl (yJ S T' O M B σ n hb)
end
section
section
theorem Au{x:Str}{vs:List IV}{ks:List (Str×V)}{o:aD IV}(he:e= .Call (.Name x (ps (ch e 0))) args (yL e) (ps e))(hg:(yL e).isEmpty=false)(hx:aP c en x=some (.val fv))(hc:(ak args&&ic (yL e)&&bK c.K fv)=true)
 (h1:dX (lv c (n+1)).iv en σ args=some (.ok vs J2)) (hk:tn (lv c (n+1)).ev en J2 (yL e)=some (.ok ks J6)) (h2:aH c (lv c (n+1)).cf J6 fv vs ks=some o):(lv c (n+2)).iv en σ e=some o:=by
 refine(congrArg ((lv c (n+2)).iv en σ) he).trans ?_;refine gL (jS ?_ hx (fF (xs:=vs) (ks:=ks) hc h1 hk h2))
 refine(?_:(if(yL e).isEmpty=true then _ else none)=none)
 rw[hg];rfl
theorem fA(h:l.length≤2^20):bq σ (.tup l)=some (!l.isEmpty):=by
 show(if _≤2^20 then some _ else _)=_
 rw[if_pos h]
theorem kK(a:Int)(ss:List Int):ed σ .In (.int a) (vI ss)=some (ss.any (· ==a)):=by
 have h1: ∀p:V→Bool,(∀i,p (V.int i)=true)→(ss.map V.int).all p=true:=fun p hp=>by
  rw[List.all_map];exact Gw.mpr fun u_ u_=>hp _
 show(if _=true then some _ else none)=_
 rw[if_pos (h1 _ fun u_=>rfl),List.any_map];rfl
theorem nA(h:l.length≤2^20):aH c cf σ (.builtin "len") [.v (.tup l)] []=some (.ok (.v (.int l.length)) σ):=by
 have:aH c cf σ (.builtin "len") [.v (.tup l)] []=(if l.length≤2^20 then some (l.length:Int)else none).map fun i=> .ok (.v (.int i)) σ:=rfl
 rw[this,if_pos h];rfl
theorem kz(h:k≤1000):mw σ .Mult (.tup [x]) (.int k)=some (.tup (Gq k x),σ):=by
 refine(u0 rfl).trans ?_;unfold tL
 refine dJ (by omega) ?_
 simp only[F8,G',Nat.one_mul]
 refine dJ (by omega) ?_
 have:(Gq k [x]).flatten=Gq k x:=by
  clear h
  induction k with
  |zero=>rfl
  |succ k ih=>rw[Hb,Hj,ih];rfl
 rw[this]
theorem yE(h:σ[k]? =some (.lst (bs.map V.bool)))(hl:bs.length<4096):aH c cf σ (.builtin "any") [.v (.lst k)] []=some (.ok (.v (.bool (bs.any id))) σ):=by
 have key: ∀(m w i:Nat),i+m=bs.length→wl σ (m+w+1) (.lst k i)=some ((bs.drop i).any id):=by
  intro m
  induction m with
  |zero=>
   intro w i hi
   obtain rfl:i=bs.length:=by assumption
   refine(show 0+w+1=w+1 from by simp+arith).symm▸ ?_
   have e:aw σ (.lst k bs.length)=some none:=C0 (aN h) (by simp)
   show(aw _ _).bind _=_;rw[e,List.drop_length,List.any_nil];rfl
  |succ m ih=>
   intro w i hi
   have hlt:i<bs.length:=by exact Eu ‹_›
   have e:aw σ (.lst k i)=some (some (V.bool bs[i],.lst k (i+1))):=nxl (aN h) (by simp[hlt])
   have r:=ih w (i+1) (Dr ‹_›)
   refine(show m+1+w+1=(m+w+1)+1 from by simp+arith).symm▸ ?_
   generalize m+w+1=z at r⊢;rw[List.drop_eq_getElem_cons hlt,G3]
   cases hb:bs[i]with
   |true=>rw[hb]at e;show(aw _ _).bind _=_;rw[e];rfl
   |false=>rw[hb]at e;show(aw _ _).bind _=_;rw[e];exact r
 have:=key bs.length (4095-bs.length) 0 (by simp+arith)
 rw[show bs.length+(4095-bs.length)+1=4096 from by exact Eh ‹_›]at this
 refine(?_:Bb σ [.v (.lst k)]=_);show(aA _ _).bind _=_;rw[fB h];show(wl _ _ _).map _=_;rw[this];rfl
theorem vS(n:Nat): ∀(a b:List Int),a.length<n→ ∃t,dK σ n (a.map V.int) (b.map V.int)=some t:=by
 induction n with
 |zero=>exact fun u_ u_ h=>absurd h (HL _)
 |succ n ih=>
  intro a b h
  cases a with
  |nil=>cases b<;>exact⟨_,rfl⟩
  |cons x a=>
  cases b with
  |nil=>exact⟨_,rfl⟩
  |cons y b=>
  refine oE (ih a b (HN h)) fun t ht=> ?_
  cases n with
  |zero=>exact absurd h (Hy.mpr (HB _ _))
  |succ n=>
   refine⟨(x==y)&&t,?_⟩;show((some (x==y)).bind fun p=>(dK σ (n+1) (a.map V.int) (b.map V.int)).map fun q=>p&&q)=_;rw[ht];rfl
theorem za(a b:List Int)(h:a.length<190): ∃t,ed σ .Eq (vI a) (vI b)=some t:=vS 199 a b (Dh ‹_› (by exact ac))
end
end
section
section
variable {s:Stmt}
theorem sC(he:e= .IfExp (ch e 0) (ch e 1) (ch e 2) (ps e))(h0:(lv c n).tr en σ (ch e 0)=some (.ok true J2))(h1:(lv c n).ev en J2 (ch e 1)=some o):(lv c (n+1)).ev en σ e=some o:=DU he h0 h1
theorem ua(he:e= .IfExp (ch e 0) (ch e 1) (ch e 2) (ps e))(h0:(lv c n).tr en σ (ch e 0)=some (.ok false J2))(h1:(lv c n).ev en J2 (ch e 2)=some o):(lv c (n+1)).ev en σ e=some o:=DU he h0 h1
theorem eM{o:aJ}(hs:s= .If (sx s 0) (aj s) (cQ s) (kl s))(h1:(lv c n).tr en σ (sx s 0)=some (.ok true J2))(h2:(lv c n).exs en J2 (aj s)=some o):aR c (lv c n) en σ s=some o:=Ed hs h1 h2
theorem dq{o:aJ}(hs:s= .If (sx s 0) (aj s) (cQ s) (kl s))(h1:(lv c n).tr en σ (sx s 0)=some (.ok false J2))(h2:(lv c n).exs en J2 (cQ s)=some o):aR c (lv c n) en σ s=some o:=Ed hs h1 h2
end
noncomputable def dM(X:Xp)(a:Addr)(x:Str):Bool:= !(x==("__debug__":Str))&&((dS X a).scope.names.lookup x).any fun k=> @NameKind.casesOn (fun u_=>Bool) k true true false false false
theorem Er{X:Xp}{x:Str}{own:List (Str×V)}{v:V}(hk:dM X a x=true)(h:own.lookup x=some v):aP (cc X) (ah X a own) x=some v:=by
 unfold dM at hk;refine oA (FR.mp hk) fun h1 h2=> ?_;unfold aP
 refine zK (by exact(fun {a}↦bi_not.mp) h1) ?_
 refine(?_:((dS X a).scope.names.lookup x).bind _=_)
 cases hl:(dS X a).scope.names.lookup x with
 |none=>rw[hl]at h2;exact bI h2
 |some k=>rw[hl]at h2;cases k<;>first|exact h|exact bI h2
theorem aT{X:Xp}{x:Str}{own:List (Str×V)}{v:V}(he:e= .Name x (ps e))(hk:dM X a x=true)(h:own.lookup x=some v):(lv (cc X) (n+1)).ev (ah X a own) σ e=some (.ok v σ):=bQ he (Er hk h)
variable {X:Xp}{own:List (Str×V)}
noncomputable abbrev EE(X:Xp):=sx (St X 772 0) 0
theorem D6(hs:own.lookup ("shape":Str)=some (vI ss))(hl:ss.length≤900)(n:Nat):(lv (cc X) (n+12)).tr (ah X 772 own) σ (EE X)=some (.ok (!(ss.all fun s=>decide (0≤s))) σ):=
 By rfl (dn ac (iw (S:=fun u_=>True) (t:= .seq (ss.map V.int) 0) (as:=ss) (f:=V.int) (b:=fun a=>[("s",.int a)]) (F:=fun a=> .bool (decide (0≤a))) ⋯ ⋯ rfl
  (bx ay (aT rfl ac hs)) rfl trivial (ai _ _) (fD ‹_› (by exact ac)) (fun a u_ own=>⟨by kernel_rfl,rfl⟩) (fun u_ u_=>rfl)) rfl)
theorem Cg(hs:own.lookup ("shape":Str)=some (vI ss))(hl:ss.length≤900)(h: ∀s∈ss,0≤s)(n:Nat):aR (cc X) (lv (cc X) (n+12)) (ah X 772 own) σ (St X 772 0)=some (.ok .next (ah X 772 own) σ):=by
 refine Ed rfl (D6 hs hl n) ?_;have:(ss.all fun s=>decide (0≤s))=true:=Gw.mpr fun s q=>decide_eq_true (h s q);rw[this];exact rfl
theorem Ar(hs:own.lookup ("shape":Str)=some (vI ss))(hl:ss.length≤900)(h: ∃s∈ss,s<0)(n:Nat):aR (cc X) (lv (cc X) (n+12)) (ah X 772 own) σ (St X 772 0)=some (.exc "ValueError" (ah X 772 own) σ):=by
 refine Ed rfl (D6 hs hl n) ?_
 have:(ss.all fun s=>decide (0≤s))=false:=by
  refine aK h fun s h1 h2=> ?_
  exact List.all_eq_false.mpr ⟨s,h1,by simpa using h2⟩
 refine(this).symm▸ ?_;exact rfl
noncomputable abbrev uX(X:Xp):=sx (St X 772 1) 0
theorem AO{ts:List Int}(hs:own.lookup ("shape":Str)=some (vI ss))(ht:own.lookup ("strides":Str)=some (vI ts))(hl:ss.length≤900)(hl':ts.length≤900)(h0:ts≠[])(n:Nat):aR (cc X) (lv (cc X) (n+16)) (ah X 772 own) σ (St X 772 1)=some (.ok .next (ah X 772 (("strides",vI (dU ss ts))::own)) σ):=by
 refine cb rfl ac ac (sC rfl (dn ac (aT rfl ac ht) ?_) ?_)
 ·rw[fA (by rw[Gk];exact bf ‹_› (by exact ac))]
  cases ts with
  |nil=>exact absurd rfl h0
  |cons=>rfl
 ·exact ki ac (cF (e:=ch (uX X) 1) (args:=[ch (ch (uX X) 1) 1,ch (ch (uX X) 1) 2]) (fv:= .ref 711) (vs:=[.v (vI ss),.v (vI ts)]) rfl rfl rfl ac
   (zN ac (bx ay (aT rfl ac hs)) (bx ay (aT rfl ac ht))) (eJ (xs:=[vI ss,vI ts]) ac (Ac ss ts (fD ‹_› (by exact ac)) σ (n+4))))
theorem xN(hs:own.lookup ("shape":Str)=some (vI ss))(ht:own.lookup ("strides":Str)=some .none)(hl:bP ss)(h0:ss≠[])(n:Nat): ∃(ts:List Int) (ext:Sg),ts.length=ss.length∧aR (cc X) (lv (cc X) (n+38)) (ah X 772 own) σ (St X 772 1)=some (.ok .next (ah X 772 (("strides",vI ts)::own)) (σ++ext)):=by
 refine rq (Hp h0) fun a r zz2=> ?_;subst zz2;refine bc (sfs (X:=X) a r hl σ (n+4)) fun ts ext h1 h2=> ?_;refine⟨ts,ext,h1,cb rfl ac ac (ua rfl (dn ac (aT rfl ac ht) rfl) ?_)⟩
 exact ki ac (cF (e:=ch (uX X) 2) (args:=[ch (ch (uX X) 2) 1]) (fv:= .ref 718) (vs:=[.v (vI (a::r))]) rfl rfl rfl ac
  (kA ac (bx ay (aT rfl ac hs))) (eJ (xs:=[vI (a::r)]) ac h2))
noncomputable def aE(r:Option aJ)(σ:Sg)(ss:List Int):Prop:= ∃en' J2 T O M B,σ<+:J2∧r=some (.ok (.ret (.inst ag J2.length)) en' (J2++[aa.dct (bb (vI ss) T O M B)]))
theorem aE.next{l:List Stmt}(h1:aR c (lv c n) en σ st=some (.ok .next en' J1))(p:σ<+:J1)(h:aE ((lv c (n+1)).exs en' J1 l) J1 ss):aE ((lv c (n+1)).exs en σ (st::l)) σ ss:=by
 refine fk h fun en' J2 T O M B h2 h3=> ?_;exact⟨en',J2,T,O,M,B,p.trans h2,ab h1 h3⟩
noncomputable abbrev Bg(X:Xp):=sx (si (aj (St X 772 2)) 0) 0
theorem yj{l:List Stmt}(hs:own.lookup ("shape":Str)=some (vI ss))(hl:ss.length≤900)(h:0∈ss)(n:Nat):aE ((lv (cc X) (n+21)).exs (ah X 772 own) σ (St X 772 2::l)) σ ss:=by
 refine⟨ah X 772 own,σ,.tup (Gq ss.length (.int 0)),.int 0,.none,.bool true,Gu _,?_⟩
 have e1:aR (cc X) (lv (cc X) (n+20)) (ah X 772 own) σ (St X 772 2)=some (.ok (.ret (.inst ag σ.length)) (ah X 772 own) (σ++[aa.dct (bb (vI ss) (.tup (Gq ss.length (.int 0))) (.int 0) .none (.bool true))])):=by
  refine eM rfl (bw rfl ay rfl (aT rfl ac hs) ?_) ?_
  ·rw[kK];have:ss.any (· ==0)=true:=List.any_eq_true.mpr ⟨0,h,rfl⟩
   exact congrArg _ (by assumption)
  ·rw[show aj (St X 772 2)=[si (aj (St X 772 2)) 0]from rfl]
   refine ao (du rfl (ki ac (Au (args:=[ch (Bg X) 1,ch (Bg X) 2]) (fv:= .ref ag) (vs:=[vI ss,.tup (Gq ss.length (.int 0))].map .v) (ks:=[("offset",.int 0),("mask",.none),("contiguous",.bool true)]) rfl ay rfl ⋯
    (zN ac (bx ay (aT rfl ac hs)) (bx ay (cE rfl rfl ?_ (kz (bf ‹_› (by exact ac)))))) rfl (pM (vI ss) (.tup (Gq ss.length (.int 0))) (.int 0) .none (.bool true) σ (n+6) ⋯))))
   exact ki ac (cF (x:="len") (args:=[ch (ch (ch (Bg X) 2) 1) 1]) (fv:= .builtin "len") (vs:=[.v (vI ss)]) ⋯ ⋯ rfl ac (kA ac (bx ay (aT rfl ac hs))) (by
    have:=nA (c:=cc X) (σ:=σ) (cf:=(lv (cc X) (n+15)).cf) (l:=ss.map V.int) (by rw[Gk];exact bf ‹_› (by exact ac))
    rw[Gk]at this
    exact this))
 show(aR (cc X) (lv (cc X) (n+20)) (ah X 772 own) σ (St X 772 2)).bind _=_;rw[e1];rfl
theorem AN(hs:own.lookup ("shape":Str)=some (vI ss))(hl:ss.length≤900)(h:0∉ss)(n:Nat):aR (cc X) (lv (cc X) (n+20)) (ah X 772 own) σ (St X 772 2)=some (.ok .next (ah X 772 own) σ):=by
 refine dq rfl (bw rfl ay rfl (aT rfl ac hs) ?_) rfl;rw[kK]
 have:ss.any (· ==0)=false:=G5.mpr fun x hx=>by
  intro q
  have:x=0:=by simpa using q
  exact h (this▸hx)
 exact congrArg _ (by assumption)
end
section
section
theorem nX{x y:IV}{u:It}(h1:aA σ x=some t)(h2:aA σ y=some u):aH c cf σ (.type "zip") [x,y] []=some (.ok (.it (.zip [t,u])) σ):=by
 have:aH c cf σ (.type "zip") [x,y] []=(jO σ [x,y]).bind fun ts=>if ts.length≤64 then some (.ok (.it (.zip ts)) σ)else none:=rfl
 rw[this];show((aA σ x).bind fun t=>((aA σ y).bind fun u=>some [u]).map fun ts=>t::ts).bind _=_;rw[h1,h2];rfl
theorem xF{x y z:IV}{u v:It}(h1:aA σ x=some t)(h2:aA σ y=some u)(h3:aA σ z=some v):aH c cf σ (.type "zip") [x,y,z] []=some (.ok (.it (.zip [t,u,v])) σ):=by
 have:aH c cf σ (.type "zip") [x,y,z] []=(jO σ [x,y,z]).bind fun ts=>if ts.length≤64 then some (.ok (.it (.zip ts)) σ)else none:=rfl
 rw[this];show((aA σ x).bind fun t=>((aA σ y).bind fun u=>((aA σ z).bind fun v=>some [v]).map fun ts=>u::ts).map fun ts=>t::ts).bind _=_;rw[h1,h2,h3];rfl
theorem yM{x:IV}(h1:aA σ x=some t):aH c cf σ (.type "enumerate") [x] []=some (.ok (.it (.enum t 0)) σ):=by
 show((aA σ x).map fun t=>aD.ok (IV.it (.enum t 0)) σ).or _=_;rw[h1];rfl
theorem Co(h:i<n):seqIndex? (i:Int) n=some i:=by
 unfold seqIndex?;dsimp only;rw[if_neg (F7.mpr (F5 i))];exact if_pos (FR.mpr ⟨decide_eq_true (F5 i),decide_eq_true (F9.mpr h)⟩)
theorem ja(h:l[i]? =some y)(hi:i<2^62):gn σ (.tup l) (i:Int)=some y:=by
 have hl:=(Gy.mp h).1;show gG l _=_;unfold gG;refine dJ (n62 ‹_›) ?_;rw[Co hl];exact h
theorem DA{a d:Bool}(he:e= .BoolOp .And [ch e 0,ch e 1,ch e 2] (ps e))(h1:(lv c n).ev en σ (ch e 0)=some (.ok (.bool a) σ))(h2:(lv c n).ev en σ (ch e 1)=some (.ok (.bool b) σ))(h3:(lv c n).ev en σ (ch e 2)=some (.ok (.bool d) J2)):
 ∃r J1,(J1=σ∨J1=J2)∧(lv c (n+1)).ev en σ e=some (.ok (.bool r) J1):=by
 have key:(lv c (n+1)).ev en σ e=je (lv c n).ev en .And σ [ch e 0,ch e 1,ch e 2]:=(congrArg ((lv c (n+1)).ev en σ) he);rw[key]
 cases a with
 |false=>exact⟨false,σ,.inl rfl,kW h1 rfl⟩
 |true=>
  cases b with
  |false=>exact⟨false,σ,.inl rfl,kW h1 (kW h2 rfl)⟩
  |true=>exact⟨d,J2,.inr rfl,kW h1 (kW h2 h3)⟩
theorem E_{s:Stmt}{x:Str}{i j k:Int}(hs:s= .AugAssign (.Name x (ps (sx s 0))) op (sx s 1) (kl s))(hx:bF en x=true)(hl:en.own.lookup x=some (.int i))(h:(lv c n).ev en σ (sx s 1)=some (.ok (.int j) J2))(hk:uT op i j=some k):aR c (lv c n) en σ s=some (.ok .next (en.set x (.int k)) J2):=by
 refine(congrArg (aR c (lv c n) en σ) hs).trans ?_;refine(?_:yH (lv c n).ev en σ x op (sx s 1)=_);unfold yH;rw[if_pos hx,hl];show bR en _ _=_;rw[h];show(uT _ _ _).map _=_;rw[hk];rfl
end
variable {X:Xp}{own:List (Str×V)}{ts:List Int}{ms:List (Int×Int)}{o:Int}
theorem isn(own:List (Str×V))(hm:own.lookup ("mask":Str)=some x)(n:Nat):(lv (cc X) (n+6)).tr (ah X 772 own) σ (ch (sx (St X 772 3) 0) 0)=some (.ok (!aX x) σ):=
 bw rfl ay (aT rfl ac hm) rfl rfl
theorem yS(hm:own.lookup ("mask":Str)=some .none)(n:Nat):aR (cc X) (lv (cc X) (n+14)) (ah X 772 own) σ (St X 772 3)=some (.ok .next (ah X 772 own) σ):=
 dq rfl (lr (a:=false) (b:=true) rfl (isn own hm (n+7)) (fun h=>by exact bI h)) rfl
noncomputable abbrev g3(X:Xp):=ch (sx (St X 772 3) 0) 1
theorem zi(hs:own.lookup ("shape":Str)=some (vI ss))(hm:own.lookup ("mask":Str)=some (vP ms))(hl:ms.length≤900)(n:Nat): ∃own',(own'=own∨own'=(("mask":Str),V.none)::own)∧aR (cc X) (lv (cc X) (n+18)) (ah X 772 own) σ (St X 772 3)=some (.ok .next (ah X 772 own') σ):=by
 have t:(lv (cc X) (n+18)).tr (ah X 772 own) σ (sx (St X 772 3) 0)=some (.ok (true&&(ms.zip ss).all fun p=>(p.1.1==0)&&((p.1.2==p.2)&&true)) σ):=
  lr rfl (isn own hm (n+11)) fun u_=>dn ac (iw (S:=fun u_=>True) (t:= .zip [.seq (ms.map pP) 0,.seq (ss.map V.int) 0]) (as:=ms.zip ss) (f:=fun p=> .tup [pP p.1,.int p.2]) (b:=fun p=>[("s",.int p.2),("m",pP p.1)]) (F:=fun p=> .bool ((p.1.1==0)&&((p.1.2==p.2)&&true)))
   ⋯ ⋯ rfl (cF (x:="zip") (args:=[ch (ch (ch (g3 X) 1) 2) 1,ch (ch (ch (g3 X) 1) 2) 2]) (fv:= .type "zip") (vs:=[.v (vP ms),.v (vI ss)]) ⋯ rfl rfl ⋯
    (zN ⋯ (bx ay (aT (x:="mask") ⋯ ac hm)) (bx ⋯ (aT (x:="shape") ⋯ ac hs))) (nX rfl rfl)) rfl trivial (aZ (ai _ _) (ai _ _)) (by rw[Go];exact rR ‹_› (by exact ac))
   (fun p u_ own=>⟨by kernel_rfl,rfl⟩) (fun u_ u_=>rfl)) rfl
 cases hb:(true&&(ms.zip ss).all fun p=>(p.1.1==0)&&((p.1.2==p.2)&&true))with
 |false=>
  rw[hb]at t;exact⟨own,.inl rfl,dq rfl t rfl⟩
 |true=>
  rw[hb]at t;exact⟨_,.inr rfl,eM rfl t rfl⟩
theorem yY(hm:own.lookup ("mask":Str)=some .none)(n:Nat):aR (cc X) (lv (cc X) (n+14)) (ah X 772 own) σ (St X 772 4)=some (.ok .next (ah X 772 (("elim",.lst σ.length)::own)) (σ++[aa.lst (([]:List Bool).map V.bool)])):=
 cb rfl ac ac (ua rfl (dn ac (aT rfl ac hm) rfl) rfl)
noncomputable abbrev c4(X:Xp):=ch (sx (St X 772 4) 0) 1
theorem y7(hm:own.lookup ("mask":Str)=some (vP ms))(hl:ms.length≤900)(h0:ms≠[])(n:Nat): ∃bs:List Bool,bs.length=ms.length∧aR (cc X) (lv (cc X) (n+18)) (ah X 772 own) σ (St X 772 4)=some (.ok .next (ah X 772 (("elim",.lst σ.length)::own)) (σ++[aa.lst (bs.map V.bool)])):=by
 refine⟨ms.map fun p=> !(decide (p.1+1<p.2)),by exact Gk ..,cb rfl ac ac (sC rfl (dn ac (aT rfl ac hm) ?_) (jx rfl ?_))⟩
 ·rw[fA (by rw[Gk];exact bf ‹_› (by exact ac))]
  cases ms with
  |nil=>exact absurd rfl h0
  |cons=>rfl
 ·have:=ng (n:=n+16) (σ:=σ) (e:=c4 X) (en:=ah X 772 own) (S:=fun u_=>True) (t:= .seq (ms.map pP) 0) (as:=ms) (f:=pP) (b:=fun p=>[("e",.int p.2),("b",.int p.1)]) (P:=fun u_=>True) (F:=fun p=> .bool (!(decide (p.1+1<p.2)))) ac
   (bx ay (aT rfl ac hm)) rfl (fun u_=>trivial) (ai _ _) (fD ‹_› (by exact ac)) trivial (fun p u_ own acc u_=>⟨trivial,by kernel_rfl,rfl,fun u_=>rfl⟩)
  rw[Hq.mpr (fun u_ u_=>rfl)]at this;rw[GK];exact this
theorem yT(hk:own.lookup ("elim":Str)=some (.lst k))(hc:σ[k]? =some (aa.lst (bs.map V.bool)))(hl:bs.length≤900)(n:Nat):(lv (cc X) (n+10)).tr (ah X 772 own) σ (sx (St X 772 5) 0)=some (.ok (bs.any id) σ):=
 dn ac (ki ac (cF (args:=[ch (sx (St X 772 5) 0) 1]) (fv:= .builtin "any") (vs:=[.v (.lst k)]) rfl rfl rfl ac (kA ac (bx ay (aT rfl ac hk))) (yE hc (fD ‹_› (by exact ac))))) rfl
noncomputable abbrev b5(X:Xp)(i:Nat):=si (aj (St X 772 5)) i
noncomputable abbrev a5(X:Xp):=si (aj (b5 X 0)) 0
noncomputable def Bd(ts:List Int)(ms:List (Int×Int)):Prop:=(∀t∈ts,t.natAbs≤2^30)∧ ∀m∈ms,m.1.natAbs≤2^30
theorem vX(hs:own.lookup ("shape":Str)=some (vI ss))(hl:ss.length≤900)(n:Nat)(he:e= .Call (.Name ("len":Str) (ps (ch e 0))) [ch e 1] [] (ps e))(hg:cG [ch e 1]=none)(hn:ak [ch e 1]=true)(h1:ch e 1= .Name ("shape":Str) (ps (ch e 1)))(hc:aV e=true):(lv (cc X) (n+6)).ev (ah X 772 own) σ e=some (.ok (.int (ss.length:Nat)) σ):=by
 have:=nA (c:=cc X) (σ:=σ) (cf:=(lv (cc X) (n+5)).cf) (l:=ss.map V.int) (by rw[Gk];exact bf ‹_› (by exact ac))
 rw[Gk]at this
 exact ki hc (cF (args:=[ch e 1]) (fv:= .builtin "len") (vs:=[.v (vI ss)]) he hg rfl (by rw[hn];exact ac) (kA hn (bx (by rw[h1];rfl) (aT h1 ac hs))) this)
theorem s50(hs:own.lookup ("shape":Str)=some (vI ss))(ht:own.lookup ("strides":Str)=some (vI ts))(ho:own.lookup ("offset":Str)=some (.int o))(hm:own.lookup ("mask":Str)=some (vP ms))(hl:ss.length≤900)(e1:ts.length=ss.length)(e2:ms.length=ss.length)(hB:Bd ts ms)(n:Nat):
 ∃(own':List (Str×V)) (ts':List Int) (ms':List (Int×Int)) (o':Int),own'.lookup ("shape":Str)=some (vI ss)∧own'.lookup ("strides":Str)=some (vI ts')∧own'.lookup ("offset":Str)=some (.int o')∧own'.lookup ("mask":Str)=some (vP ms')∧own'.lookup ("elim":Str)=own.lookup ("elim":Str)∧ts'.length=ss.length∧ms'.length=ss.length∧Bd ts' ms'∧
  aR (cc X) (lv (cc X) (n+20)) (ah X 772 own) σ (b5 X 0)=some (.ok .next (ah X 772 own') σ):=by
 have t:(lv (cc X) (n+20)).tr (ah X 772 own) σ (sx (b5 X 0) 0)=some (.ok (ms.any fun p=> !(decide (p.1<p.2))) σ):=
  dn ac (z' (S:=fun u_=>True) (x:= .v (vP ms)) (t:= .seq (ms.map pP) 0) (as:=ms) (f:=pP) (b:=fun p=>[("e",.int p.2),("b",.int p.1)]) (F:=fun p=> .bool (!(decide (p.1<p.2)))) ⋯ ⋯ rfl
   (bx ay (aT (x:="mask") rfl ac hm)) rfl trivial (ai _ _) (Ee ‹_› ‹_› (by exact ac)) (fun p u_ own=>⟨by kernel_rfl,rfl⟩) (fun u_ u_=>rfl)) rfl
 cases hb:(ms.any fun p=> !(decide (p.1<p.2)))with
 |false=>
  rw[hb]at t;exact⟨own,ts,ms,o,hs,ht,ho,hm,rfl,e1,e2,hB,dq rfl t rfl⟩
 |true=>
  rw[hb]at t
  refine⟨("mask",vP (Gq ss.length (0,0)))::("offset",.int 0)::("strides",vI (Gq ss.length 0))::own,Gq ss.length 0,Gq ss.length (0,0),0,hs,rfl,rfl,rfl,rfl,by exact List.length_replicate,by exact List.length_replicate,⟨?_,?_⟩,eM rfl t ?_⟩
  ·intro t ht;rw[(List.mem_replicate.mp ht).2];exact HD _
  ·intro t ht;rw[(List.mem_replicate.mp ht).2];exact HD _
  rw[show aj (b5 X 0)=[a5 X]from rfl]
  have L:=fun i=>vX (X:=X) (σ:=σ) hs hl (n+11) (e:=ch (ch (sx (a5 X) 0) i) 1)
  refine ao (fY (y:= .tup [vI (Gq ss.length 0),.int 0,vP (Gq ss.length (0,0))]) (J2:=σ) rfl ac ⋯ ?_ rfl)
  have key: ∀e:Expr,e= .Tuple [ch e 0,ch e 1,ch e 2] (tk (e)) (ps e)→fj (lv (cc X) (n+18)).ev (ah X 772 own) σ [ch e 0,ch e 1,ch e 2]=some (.ok [vI (Gq ss.length 0),.int 0,vP (Gq ss.length (0,0))] σ)→(lv (cc X) (n+19)).ev (ah X 772 own) σ e=some (.ok (.tup [vI (Gq ss.length 0),.int 0,vP (Gq ss.length (0,0))]) σ):=fun e he h=>
   (congrArg ((lv (cc X) (n+19)).ev (ah X 772 own) σ) he).trans (gI h (show 3≤2^20 by decide))
  refine key _ ⋯ (bA (J2:=σ) ac (cE (op:= .Mult) (J2:=σ) (x:= .tup [.int 0]) (y:= .int (ss.length:Nat)) ⋯ rfl (L 0 ⋯ ⋯ ⋯ ⋯ ac) ?_)
   (bA (J2:=σ) ac rfl (bA ac (cE (op:= .Mult) ⋯ rfl (L 2 ⋯ ⋯ ⋯ ⋯ ac) ?_) gU)))
  ·rw[kz (bf ‹_› (by exact ac)),vI,Hr]
  ·rw[kz (bf ‹_› (by exact ac)),vP,Hr]
theorem kM{x:Str}{v:V}(hx:((dS X a).scope.names.lookup x==some .cell)=true)(h:own.lookup x=some v):(dw names (ah X a own)).fre.lookup x=some v:=by
 show(((ah X a own).own.filter fun p=>(ah X a own).names.lookup p.1==some .cell)++(([]:List (Str×V)).filter fun p=>(ah X a own).names.lookup p.1==some .free)).lookup x=some v;rw[List.filter_nil,Gz,aY (q:=fun x=>(ah X a own).names.lookup x==some .cell)];exact(if_pos hx).trans h
noncomputable abbrev El(X:Xp):=sx (b5 X 1) 1
theorem s51(ht:own.lookup ("strides":Str)=some (vI ts))(ho:own.lookup ("offset":Str)=some (.int o))(hm:own.lookup ("mask":Str)=some (vP ms))(hk:own.lookup ("elim":Str)=some (.lst k))(hc:σ[k]? =some (aa.lst (bs.map V.bool)))(hl:bs.length≤900)(e1:ts.length=bs.length)(e2:ms.length=bs.length)(hB:Bd ts ms)(n:Nat):
 ∃o':Int,aR (cc X) (lv (cc X) (n+20)) (ah X 772 own) σ (b5 X 1)=some (.ok .next (ah X 772 (("offset",.int o')::own)) σ):=by
 have h:=Dg (c:=cc X) (n:=n+19) (σ:=σ) (e:=El X) (en:=ah X 772 own) (S:=fun J1=>J1=σ) (x:= .it (.enum (.lst k 0) 0)) (t:= .enum (.lst k 0) 0) (as:=bs.zipIdx) (f:=fun p=> .tup [.int (0+(p.2:Int)),.bool p.1]) (F:=fun p=>bif p.1 then ts.getD p.2 0*(ms.getD p.2 (0,0)).1 else 0) (b:=fun p=>[("e",.bool p.1),("i",.int (0+(p.2:Int)))]) ⋯ ⋯ rfl
  (cF (n:=n+17) (x:="enumerate") (args:=[ch (ch (ch (El X) 1) 2) 1]) (fv:= .type "enumerate") (vs:=[.v (.lst k)]) (J2:=σ) ⋯ ⋯ rfl ⋯ (kA ⋯ (bx (n:=n+17) ay (aT (x:="elim") rfl ac hk))) (yM (fB hc))) rfl rfl (qr 0 (eh fun J1 q=>by rw[q];exact hc)) (by rw[List.length_zipIdx];exact fD ‹_› (by exact ac)) ?_
 ·exact⟨_,E_ (op:= .Add) rfl ac ho h rfl⟩
 ·intro p hp own';obtain⟨e,i⟩:=p
  have hi:i<bs.length:=by
   have:=List.mem_zipIdx hp;omega
  refine⟨by kernel_rfl,xA (b:=e) ⋯ (dn (x:= .bool e) ⋯ rfl rfl) (fun u_=> ?_) (fun u_=>rfl)⟩
  have z0:(0:Int)+(i:Int)=(i:Int):=by exact Int.zero_add _
  have b1:(ts.getD i 0).natAbs≤2^30:=by
   rw[GP,GB (HK ‹_› (F3 ‹_›))];exact hB.1 _ (GN _)
  have b2:(ms.getD i (0,0)).1.natAbs≤2^30:=by
   rw[GP,GB (HK ‹_› (F3 ‹_›))];exact hB.2 _ (GN _)
  refine cE (op:= .Mult) (J2:=σ) (J6:=σ) (x:= .int (ts.getD i 0)) (y:= .int (ms.getD i (0,0)).1) ⋯ (cW (x:=vI ts) (i:=0+(i:Int)) (J2:=σ) ⋯ ⋯ (bQ (x:="strides") ⋯ (F1 rfl (kM (X:=X) (names:=(dF (ch (El X) 1)).names) (a:=772) ac ht))) ⋯ ?_)
   (cW (x:=pP (ms.getD i (0,0))) (i:=0) (J2:=σ) ⋯ ⋯ (cW (x:=vP ms) (i:=0+(i:Int)) (J2:=σ) ⋯ ⋯ (bQ (x:="mask") ⋯ (F1 rfl (kM (names:=(dF (ch (El X) 1)).names) (a:=772) ac hm))) ⋯ ?_) ⋯ rfl) (gE (be b1 (by decide)) (be b2 (by decide)))
  ·rw[z0]
   exact ja (by rw[GM,GB (HK ‹_› (F3 ‹_›)),GP,GB (HK ‹_› (F3 ‹_›))];rfl) (Ch ‹_› ‹_› (by exact ac))
  ·refine(z0).symm▸ ?_
   exact ja (by rw[GM,GB (HK ‹_› (F3 ‹_›)),GP,GB (HK ‹_› (F3 ‹_›))];rfl) (Ch ‹_› ‹_› (by exact ac))
noncomputable abbrev EN(X:Xp):=sx (b5 X 2) 0
theorem s52(ht:own.lookup ("strides":Str)=some (vI ts))(hk:own.lookup ("elim":Str)=some (.lst k))(hc:σ[k]? =some (aa.lst (bs.map V.bool)))(hl:bs.length≤900)(e1:ts.length=bs.length)(n:Nat):
 ∃ts':List Int,ts'.length=ts.length∧aR (cc X) (lv (cc X) (n+20)) (ah X 772 own) σ (b5 X 2)=some (.ok .next (ah X 772 (("strides",vI ts')::own)) σ):=by
 have h:=g_ (c:=cc X) (n:=n+19) (σ:=σ) (e:=EN X) (en:=ah X 772 own) (S:=fun J1=>J1=σ) (x:= .it (.zip [.seq (ts.map V.int) 0,.lst k 0])) (t:= .zip [.seq (ts.map V.int) 0,.lst k 0]) (as:=ts.zip bs) (f:=fun p=> .tup [.int p.1,.bool p.2]) (F:=fun p=> .int (bif p.2 then 0 else p.1)) (b:=fun p=>[("e",.bool p.2),("st",.int p.1)]) ⋯ ⋯ rfl
  (cF (x:="zip") (args:=[ch (ch (ch (EN X) 1) 2) 1,ch (ch (ch (EN X) 1) 2) 2]) (fv:= .type "zip") (vs:=[.v (vI ts),.v (.lst k)]) ⋯ rfl rfl ⋯ (zN ⋯ (bx ay (aT rfl ac ht)) (bx ay (aT rfl ac hk))) (nX rfl (fB hc))) rfl rfl
  (aZ (ai _ _) (eh fun J1 q=>by rw[q];exact hc)) (by rw[Go];exact Es ‹_› ‹_› (by exact ac))
  (fun p u_ own=>⟨by kernel_rfl,xA (b:=p.2) ⋯ (dn ⋯ rfl rfl) (fun u_=>rfl) (fun u_=>rfl)⟩) (fun u_ u_=>rfl)
 refine⟨(ts.zip bs).map fun p=>bif p.2 then 0 else p.1,by rw[Gk,Go];exact mqs ‹_›,cb rfl ac ac ?_⟩
 rw[vI,GK];exact h
end
section
variable {X:Xp}{own:List (Str×V)}{ts:List Int}{ms:List (Int×Int)}{o:Int}{M:V}
noncomputable abbrev g6(X:Xp):=sx (St X 772 6) 0
theorem s6(hs:own.lookup ("shape":Str)=some (vI ss))(ht:own.lookup ("strides":Str)=some (vI ts))(ho:own.lookup ("offset":Str)=some (.int o))(hm:own.lookup ("mask":Str)=some M)(hl:bP ss)(h0:ss≠[])(e1:ts.length=ss.length)(n:Nat):
 ∃(b:Bool) (ext:Sg),aR (cc X) (lv (cc X) (n+50)) (ah X 772 own) σ (St X 772 6)=some (.ok .next (ah X 772 (("contiguous",.bool b)::own)) (σ++ext)):=by
 refine rq (Hp h0) fun a r zz2=> ?_;subst zz2;have hl4:=hl.1;refine dm fun kk=> ?_;refine bc (sfs (X:=X) a r hl σ (n+15)) fun ts' ext k1 k2=> ?_<;>(refine kk ?_;clear kk)
 refine oE (za (σ:=σ++ext) ts ts' (by rw[e1];exact fD ‹_› (by exact ac))) fun t ht'=> ?_
 obtain⟨q,J1,hσ,h⟩:=DA (c:=cc X) (n:=n+49) (σ:=σ) (en:=ah X 772 own) (e:=g6 X) (a:=o==0) (b:=aX M) (d:=t) (J2:=σ++ext) rfl
  (oY (n:=n+48) (op:= .Eq) (J2:=σ) (x:= .int o) (y:= .int 0) rfl ay (aT (n:=n+47) (x:="offset") rfl ac ho) rfl rfl)
  (oY (n:=n+48) (op:= .Is) (J2:=σ) (x:=M) (y:= .none) rfl ay (aT (n:=n+47) (x:="mask") rfl ac hm) rfl rfl)
  (oY (n:=n+48) (op:= .Eq) (J2:=σ) (x:=vI ts) (y:=vI ts') rfl ay (aT (n:=n+47) (x:="strides") rfl ac ht) (ki (n:=n+47) ac (cF (n:=n+46) (x:="strides_for_shape") (args:=[ch (ch (ch (g6 X) 2) 1) 1]) (fv:= .ref 718) (vs:=[.v (vI (a::r))]) (J2:=σ) rfl rfl rfl ac
   (kA ac (bx (n:=n+46) ay (aT (n:=n+45) (x:="shape") rfl ac hs))) (eJ (X:=X) (n:=n+47) (xs:=[vI (a::r)]) ac k2))) ht')
 have fin:=fun ext=>cb (c:=cc X) (n:=n+50) (σ:=σ) (J2:=σ++ext) (en:=ah X 772 own) (s:=St X 772 6) (x:="contiguous") (xp:=ps (sx (St X 772 6) 1)) (y:= .bool q) rfl ac ac
 rcases hσ with rfl|rfl
 ·exact⟨q,[],by have:=fin [] (by rw[Gz];exact h);exact this⟩
 ·exact⟨q,ext,fin ext h⟩
noncomputable abbrev g7(X:Xp):=sx (St X 772 7) 0
theorem s7{T:V}(hs:own.lookup ("shape":Str)=some (vI ss))(ht:own.lookup ("strides":Str)=some T)(ho:own.lookup ("offset":Str)=some O)(hm:own.lookup ("mask":Str)=some M)(hb:own.lookup ("contiguous":Str)=some B)(n:Nat):aE ((lv (cc X) (n+20)).exs (ah X 772 own) σ [St X 772 7]) σ ss:=by
 refine⟨ah X 772 own,σ,T,O,M,B,Gu _,ao (du rfl (ki ac (cF (x:="View") (args:=[ch (g7 X) 1,ch (g7 X) 2,ch (g7 X) 3,ch (g7 X) 4,ch (g7 X) 5]) (fv:= .ref ag) (vs:=[vI ss,T,O,M,B].map .v) (J2:=σ) rfl rfl rfl ⋯ ?_ (pM (X:=X) (vI ss) T O M B σ (n+6) ⋯))))⟩
 have N: ∀{x:Str} {v:V} {e:Expr},e= .Name x (ps e)→dM X 772 x=true→own.lookup x=some v→(lv (cc X) (n+18)).iv (ah X 772 own) σ e=some (.ok (.v v) σ):=fun he hk h=>bx (by rw[he];rfl) (aT he hk h)
 exact aL ac (N (x:="shape") rfl ac hs) (aL ac (N (x:="strides") rfl ac ht) (aL ac (N (x:="offset") rfl ac ho) (aL ac (N (x:="mask") rfl ac hm) (aL ac (N (x:="contiguous") rfl ac hb) fV))))
theorem Ai(hs:own.lookup ("shape":Str)=some (vI ss))(ht:own.lookup ("strides":Str)=some (vI ts))(ho:own.lookup ("offset":Str)=some (.int o))(hm:own.lookup ("mask":Str)=some M)(hk:own.lookup ("elim":Str)=some (.lst k))(hc:σ[k]? =some (aa.lst (bs.map V.bool)))(hl:bP ss)(h0:ss≠[])(e1:ts.length=ss.length)
 (hM:bs=[]∨ ∃ms,M=vP ms∧ms.length=ss.length∧bs.length=ss.length∧Bd ts ms) (n:Nat):aE ((lv (cc X) (n+51)).exs (ah X 772 own) σ [St X 772 5,St X 772 6,St X 772 7]) σ ss:=by
 have hl4:=hl.1
 have hbl:bs.length≤900:=by
  rcases hM with rfl|⟨_,_,_,e,_⟩
  ·simp
  ·exact dB ‹_› ‹_› (by exact ac)
 have fin: ∀{own':List (Str×V)} {ts':List Int} {o':Int} {M':V},own'.lookup ("shape":Str)=some (vI ss)→own'.lookup ("strides":Str)=some (vI ts')→own'.lookup ("offset":Str)=some (.int o')→own'.lookup ("mask":Str)=some M'→ts'.length=ss.length→aE ((lv (cc X) (n+51)).exs (ah X 772 own') σ [St X 772 6,St X 772 7]) σ ss:=by
  intro own' ts' o' M' a1 a2 a3 a4 a5;refine rq (s6 (X:=X) (σ:=σ) a1 a2 a3 a4 hl h0 a5 n) fun b ext h=> ?_;exact aE.next h (Gm _ _) (s7 (own:=("contiguous",.bool b)::own') (T:=vI ts') (O:= .int o') (M:=M') (B:= .bool b) a1 a2 a3 a4 rfl (n+31))
 have t:=yT (X:=X) hk hc hbl (n+40)
 cases hb:bs.any id with
 |false=>
  rw[hb]at t;exact aE.next (dq (o:= .ok .next (ah X 772 own) σ) rfl t rfl) (Gu _) (fin hs ht ho hm e1)
 |true=>
  rw[hb]at t
  rcases hM with rfl|⟨ms,rfl,e2,e3,hB⟩
  ·exact bI hb
  refine dm fun kk=> ?_
  obtain⟨LM,ts₁,ms₁,KG,a1,a2,a3,a4,a5,a6,a7,a8,h1⟩:=s50 (X:=X) (σ:=σ) hs ht ho hm (bf ‹_› (by exact ac)) e1 e2 hB (n+29)<;>(refine kk ?_;clear kk)
  rw[hk]at a5;refine dm fun kk=> ?_;refine oE (s51 (X:=X) a2 a3 a4 a5 hc hbl (F1 ‹_› (F3 ‹_›)) (F1 ‹_› (F3 ‹_›)) a8 (n+29)) fun LN h2=> ?_<;>(refine kk ?_;clear kk)
  refine dm fun kk=> ?_;refine aK (s52 (X:=X) (own:=("offset",.int LN)::LM) a2 a5 hc hbl (F1 ‹_› (F3 ‹_›)) (n+29)) fun L1 l3 h3=> ?_<;>(refine kk ?_;clear kk)
  refine aE.next (J1:=σ) (en':=ah X 772 (("strides",vI L1)::("offset",.int LN)::LM)) (eM rfl t ?_) (Gu _) (fin (own':=("strides",vI L1)::("offset",.int LN)::LM) a1 rfl rfl a4 (F1 ‹_› ‹_›))
  rw[show aj (St X 772 5)=[b5 X 0,b5 X 1,b5 X 2]from rfl]
  exact ab h1 (ab h2 (ao h3))
theorem D9(hs:own.lookup ("shape":Str)=some (vI ss))(ht:own.lookup ("strides":Str)=some (vI ts))(ho:own.lookup ("offset":Str)=some (.int o))(hm:own.lookup ("mask":Str)=some M)(hl:bP ss)(h0:ss≠[])(e1:ts.length=ss.length)
 (hM:M= .none∨ ∃ms,M=vP ms∧ms.length=ss.length∧Bd ts ms) (n:Nat):aE ((lv (cc X) (n+51)).exs (ah X 772 own) σ [St X 772 3,St X 772 4,St X 772 5,St X 772 6,St X 772 7]) σ ss:=by
 have hl4:=hl.1
 have none: ∀{own':List (Str×V)},own'.lookup ("shape":Str)=some (vI ss)→own'.lookup ("strides":Str)=some (vI ts)→own'.lookup ("offset":Str)=some (.int o)→own'.lookup ("mask":Str)=some .none→aE ((lv (cc X) (n+51)).exs (ah X 772 own') σ [St X 772 4,St X 772 5,St X 772 6,St X 772 7]) σ ss:=by
  intro own' a1 a2 a3 a4
  exact aE.next (yY (X:=X) (σ:=σ) a4 (n+36)) (Gm _ _) (Ai (own:=("elim",.lst σ.length)::own') (bs:=[]) (k:=σ.length) a1 a2 a3 a4 rfl (by exact GG) hl h0 e1 (.inl rfl) n)
 rcases hM with rfl|⟨ms,rfl,e2,hB⟩
 ·exact aE.next (yS (X:=X) hm (n+36)) (Gu _) (none hs ht ho hm)
 ·have hms:ms≠[]:=fun q=>by rw[q]at e2;exact h0 (GL e2.symm)
  refine dm fun kk=> ?_
  refine aK (zi (X:=X) (σ:=σ) hs hm (dB ‹_› ‹_› (by exact ac)) (n+32)) fun own' hd h=> ?_<;>(refine kk ?_;clear kk)
  rcases hd with rfl|rfl
  ·refine dm fun kk=> ?_
   refine aK (y7 (X:=X) (σ:=σ) hm (dB ‹_› ‹_› (by exact ac)) hms (n+32)) fun bs e3 h4=> ?_<;>(refine kk ?_;clear kk)
   exact aE.next h (Gu _) (aE.next h4 (Gm _ _) (Ai (own:=("elim",.lst σ.length)::own') (bs:=bs) (k:=σ.length) hs ht ho hm rfl (by exact GG) hl h0 e1 (.inr ⟨ms,rfl,e2,by exact F1 ‹_› ‹_›,hB⟩) n))
  ·exact aE.next h (Gu _) (none (own':=("mask",V.none)::own) hs ht ho rfl)
end
section
variable {X:Xp}{ts:List Int}{ms:List (Int×Int)}{o:Int}{T M:V}
noncomputable def fN(r:Option (aD V))(σ:Sg)(ss:List Int):Prop:= ∃J2 T O M B,σ<+:J2∧r=some (.ok (.inst ag J2.length) (J2++[aa.dct (bb (vI ss) T O M B)]))
theorem hN{ks:List (Str×V)}(hp:dY X a=true)(hb:eQ ((dS X a).params.args.map (·.arg)) xs ks ((pX X a).map xm)=some binds)(hk:gO (dS X a).scope.names binds=true)(h:aE ((lv (cc X) n).exs (ah X a binds.reverse) σ (aB X a)) σ ss):fN ((lv (cc X) (n+1)).cf σ a xs ks) σ ss:=by
 refine fk h fun en' J2 T O M B h1 h2=> ?_;exact⟨J2,T,O,M,B,h1,bo hp hb hk h2 rfl⟩
theorem Bd.canon{ts:List Int}{ms:List (Int×Int)}(h:Bd ts ms):Bd (dU ss ts) ms:=by
 refine⟨fun t ht=> ?_,h.2⟩;unfold dU at ht;refine aK (GA.mp ht) fun p hp zz2=> ?_;subst zz2
 cases p.1==1 with
 |true=>show(0:Int).natAbs≤2^30;exact HD _
 |false=>exact h.1 _ (Gr hp).2
noncomputable def qO(ss:List Int)(T M:V):Prop:=(T= .none∧M= .none)∨ ∃ts,T=vI ts∧ts.length=ss.length∧(M= .none∨ ∃ms,M=vP ms∧ms.length=ss.length∧Bd ts ms)
noncomputable abbrev fe(S T O M:V):List (Str×V):=[("mask",M),("offset",O),("strides",T),("shape",S)]
theorem rE(hl:bP ss)(h0:ss≠[])(hp: ∀s∈ss,0≤s)(hA:qO ss T M)(n:Nat):aE ((lv (cc X) (n+51)).exs (ah X 772 (fe (vI ss) T (.int o) M)) σ (aB X 772)) σ ss:=by
 have hl4:=hl.1
 rw[show aB X 772=[St X 772 0,St X 772 1,St X 772 2,St X 772 3,St X 772 4,St X 772 5,St X 772 6,St X 772 7]from rfl]
 refine aE.next (Cg rfl (bf ‹_› (by exact ac)) hp (n+38)) (Gu _) ?_
 have key: ∀(ts:List Int) (J1:Sg),ts.length=ss.length→(M= .none∨ ∃ms,M=vP ms∧ms.length=ss.length∧Bd ts ms)→aE ((lv (cc X) (n+51)).exs (ah X 772 (("strides",vI ts)::fe (vI ss) T (.int o) M)) J1 [St X 772 2,St X 772 3,St X 772 4,St X 772 5,St X 772 6,St X 772 7]) J1 ss:=by
  intro ts J1 e1 hM
  by_cases hz:0∈ss
  ·exact yj (own:=("strides",vI ts)::fe (vI ss) T (.int o) M) rfl (bf ‹_› (by exact ac)) hz (n+30)
  ·exact aE.next (AN (own:=("strides",vI ts)::fe (vI ss) T (.int o) M) rfl (bf ‹_› (by exact ac)) hz (n+30)) (Gu _) (D9 (own:=("strides",vI ts)::fe (vI ss) T (.int o) M) rfl rfl rfl rfl hl h0 e1 hM n)
 rcases hA with⟨rfl,rfl⟩|⟨ts,rfl,e1,hM⟩
 ·refine dm fun kk=> ?_;refine bc (xN (X:=X) (σ:=σ) (own:=fe (vI ss) .none (.int o) .none) rfl rfl hl h0 (n+12)) fun ts ext e1 h=> ?_<;>(refine kk ?_;clear kk)
  exact aE.next h (Gm _ _) (key ts _ e1 (.inl rfl))
 ·as_aux_lemma=>
   have ht0:ts≠[]:=fun q=>by rw[q]at e1;exact h0 (GL e1.symm)
   refine aE.next (AO (own:=fe (vI ss) (vI ts) (.int o) M) rfl rfl (bf ‹_› (by exact ac)) (dB ‹_› ‹_› (by exact ac)) ht0 (n+34)) (Gu _) (key (dU ss ts) σ (by rw[iu,e1,HO]) ?_)
   rcases hM with rfl|⟨ms,rfl,e2,hB⟩
   ·exact .inl rfl
   ·exact .inr ⟨ms,rfl,e2,hB.canon⟩
theorem kF(hl:bP ss)(h0:ss≠[])(hp: ∀s∈ss,0≤s)(hA:qO ss T M)(n:Nat):fN ((lv (cc X) (n+52)).cf σ 772 [vI ss,T,.int o,M] []) σ ss:=
 hN (a:=772) (binds:=[("shape",vI ss),("strides",T),("offset",.int o),("mask",M)]) ⋯ ⋯ ac (rE hl h0 hp hA n)
theorem zm(hl:bP ss)(h0:ss≠[])(hp: ∀s∈ss,0≤s)(n:Nat):fN ((lv (cc X) (n+52)).cf σ 772 [vI ss] []) σ ss:=
 hN (a:=772) (binds:=[("shape",vI ss),("strides",.none),("offset",.int 0),("mask",.none)]) ⋯ ⋯ ac (rE hl h0 hp (.inl ⟨rfl,rfl⟩) n)
theorem vK(hl:ss.length≤900)(hp: ∃s∈ss,s<0)(n:Nat):(lv (cc X) (n+51)).exs (ah X 772 (fe (vI ss) T (.int o) M)) σ (aB X 772)=some (.exc "ValueError" (ah X 772 (fe (vI ss) T (.int o) M)) σ):=by
 rw[show aB X 772=[St X 772 0,St X 772 1,St X 772 2,St X 772 3,St X 772 4,St X 772 5,St X 772 6,St X 772 7]from rfl]
 have:=Ar (X:=X) (σ:=σ) (own:=fe (vI ss) T (.int o) M) rfl hl hp (n+38);show(aR (cc X) (lv (cc X) (n+50)) _ _ _).bind _=_;rw[this];rfl
theorem oF(hl:ss.length≤900)(hp: ∃s∈ss,s<0)(n:Nat):(lv (cc X) (n+52)).cf σ 772 [vI ss,T,.int o,M] []=some (.exc "ValueError" σ):=
 bo (a:=772) (binds:=[("shape",vI ss),("strides",T),("offset",.int o),("mask",M)]) ⋯ ⋯ ac (vK hl hp n) rfl
theorem oR(hl:ss.length≤900)(hp: ∃s∈ss,s<0)(n:Nat):(lv (cc X) (n+52)).cf σ 772 [vI ss] []=some (.exc "ValueError" σ):=
 bo (a:=772) (binds:=[("shape",vI ss),("strides",.none),("offset",.int 0),("mask",.none)]) ⋯ ⋯ ac (vK hl hp n) rfl
end
section
section
theorem jh{x:aa}(p:σ<+:J2)(h:σ[k]? =some x):J2[k]? =some x:=by
 obtain⟨t,rfl⟩:=p;rw[GO (Gy.mp h).1];exact h
theorem bX{x:aa}{t:Sg}(h:σ[k]? =some x):(σ++t)[k]? =some x:=jh (Gm _ _) h
noncomputable def CB0(c:Cx)(n:Nat)(e:Expr)(en:En)(σ:Sg)(as:List α)(f:α→V)(b:α→List (Str×V))(P:List (Str×V)→Prop)(F:α→V):Prop:=
 ∀a∈as,∀own acc,P own→P (b a++own)∧di 8 (ch e 1) ⟨al (dF e).names en,own,en.fre,none⟩ (σ++[aa.lst acc]) (f a)=some (⟨al (dF e).names en,b a++own,en.fre,none⟩,σ++[aa.lst acc])∧
  (lv c n).ev ⟨al (dF e).names en,b a++own,en.fre,none⟩ (σ++[aa.lst acc]) (ch e 0)=some (.ok (F a) (σ++[aa.lst acc]))
theorem bN{S:Sg→Prop}{x:IV}{as:List α}{f F:α→V}{b:α→List (Str×V)}{P:List (Str×V)→Prop}(he:iA e)(hi:d7 e=[])(hf:gM en e=true)(hx:(lv c n).iv en σ (ch e 2)=some (.ok x σ))(ht:aA σ x=some t)(hS: ∀acc,S (σ++[aa.lst acc]))(tl:aC S t (as.map f))(hl:as.length<4096)
 (hp:P (dP (dF e).names en).own) (hb:CB0 c n e en σ as f b P F):(lv c (n+1)).ev en σ e=some (.ok (.lst σ.length) (σ++[aa.lst (as.map F)])):=by
 refine jx he ?_
 have:=ng (e:=e) hf hx ht hS tl hl hp (fun a ha own acc hp=>⟨(hb a ha own acc hp).1,(hb a ha own acc hp).2.1,by rw[hi];rfl,fun u_=>(hb a ha own acc hp).2.2⟩)
 rw[Hq.mpr (fun u_ u_=>rfl)]at this;exact this
theorem yi{ns:List Int}(h:σ[k]? =some (.lst l))(hl:cO l=some ns):aH c cf σ (.builtin "sum") [.v (.lst k)] []=some (.ok (.v (.int ns.sum)) σ):=by
 have:aH c cf σ (.builtin "sum") [.v (.lst k)] []=(AP σ (.lst k)).map fun i=> .ok (.v (.int i)) σ:=rfl;rw[this];show((aG σ k).bind _).map _=_;rw[aN h];show((cO l).map _).map _=_;rw[hl];rfl
theorem bJ{x:Str}{v:IV}(he:e= .Call (.Name x (ps (ch e 0))) [ch e 1] [] (ps e))(hg:cG [ch e 1]=none)(hx:aP c en x=some (.val fv))(hc:(ak [ch e 1]&&bK c.K fv)=true)
 (h1:(lv c (n+1)).iv en σ (ch e 1)=some (.ok v J2)) (h2:aH c (lv c (n+1)).cf J2 fv [v] []=some (.ok (.v y) J6)):(lv c (n+2)).ev en σ e=some (.ok y J6):=
 ki (by rw[he];rfl) (cF he hg hx hc (kA (FR.mp hc).1 h1) h2)
theorem vM(he:e= .Call (.Name ("tuple":Str) (ps (ch e 0))) [ch e 1] [] (ps e))(hg:cG [ch e 1]=none)(hx:aP c en "tuple"=some (.val (.type "tuple")))(hc:(ak [ch e 1]&&bK c.K (.type "tuple"))=true)(hi:aV (ch e 1)=false)
 (h1:(lv c n).ev en σ (ch e 1)=some (.ok (.lst σ.length) (σ++[aa.lst l]))) (hl:l.length≤2^20):(lv c (n+2)).ev en σ e=some (.ok (.tup l) (σ++[aa.lst l])):=
 bJ he hg hx hc (bx hi h1) (jy (by exact GG) hl)
theorem vR{as:List α}{F:α→Int}(he:e= .Call (.Name ("sum":Str) (ps (ch e 0))) [ch e 1] [] (ps e))(hg:cG [ch e 1]=none)(hx:aP c en "sum"=some (.val (.builtin "sum")))(hc:(ak [ch e 1]&&bK c.K (.builtin "sum"))=true)(hi:aV (ch e 1)=false)
 (h1:(lv c n).ev en σ (ch e 1)=some (.ok (.lst σ.length) (σ++[aa.lst (as.map fun a=>V.int (F a))]))):(lv c (n+2)).ev en σ e=some (.ok (.int (as.map F).sum) (σ++[aa.lst (as.map fun a=>V.int (F a))])):=
 bJ he hg hx hc (bx hi h1) (yi (by exact GG) (iL as))
theorem eB{u:It}(he:e= .Call (.Name ("zip":Str) (ps (ch e 0))) [ch e 1,ch e 2] [] (ps e))(hg:cG [ch e 1,ch e 2]=none)(hx:aP c en "zip"=some (.val (.type "zip")))(hc:(ak [ch e 1,ch e 2]&&bK c.K (.type "zip"))=true)(hi:aV (ch e 1)=false)(hj:aV (ch e 2)=false)
 (h1:(lv c n).ev en σ (ch e 1)=some (.ok x σ)) (h2:(lv c n).ev en σ (ch e 2)=some (.ok y σ)) (i1:aA σ (.v x)=some t) (i2:aA σ (.v y)=some u):(lv c (n+2)).iv en σ e=some (.ok (.it (.zip [t,u])) σ):=
 cF he hg hx hc (zN (FR.mp hc).1 (bx hi h1) (bx hj h2)) (nX i1 i2)
theorem nQ{z:V}{u w:It}(he:e= .Call (.Name ("zip":Str) (ps (ch e 0))) [ch e 1,ch e 2,ch e 3] [] (ps e))(hg:cG [ch e 1,ch e 2,ch e 3]=none)(hx:aP c en "zip"=some (.val (.type "zip")))(hc:(ak [ch e 1,ch e 2,ch e 3]&&bK c.K (.type "zip"))=true)(h0:ak [ch e 1]=true)(hs:ak [ch e 2,ch e 3]=true)(hi:aV (ch e 1)=false)(hj:aV (ch e 2)=false)(hk:aV (ch e 3)=false)
 (h1:(lv c n).ev en σ (ch e 1)=some (.ok x σ)) (h2:(lv c n).ev en σ (ch e 2)=some (.ok y σ)) (h3:(lv c n).ev en σ (ch e 3)=some (.ok z σ)) (i1:aA σ (.v x)=some t) (i2:aA σ (.v y)=some u) (i3:aA σ (.v z)=some w):(lv c (n+2)).iv en σ e=some (.ok (.it (.zip [t,u,w])) σ):=
 cF he hg hx hc (iv3 h0 hs (bx hi h1) (bx hj h2) (bx hk h3)) (xF i1 i2 i3)
end
section
variable {X:Xp}{S T M:V}{own:List (Str×V)}
theorem Fu(X:Xp):(CY.all fun x=>plainGet (cc X).K ag (JW x)&&hasDictIn (cc X).K ag&&decide (findIn (cc X).K (.ref ag) (JW x)=some none))=true:=by kernel_rfl
theorem ow{x:String}(hm:CY.contains x=true)(hk:σ[k]? =some (aa.dct (bb S T O M B)))(hf:eA (bb S T O M B) (JW x)=some y)(hy:cY y=true):jc (cc X) σ (.inst ag k) (JW x)=some (.val y):=by
 have:=Gw.mp (Fu X) x (Ho.mp hm);simp only[FS,decide_eq_true_eq]at this
 refine rS hk (by rw[this.1.1,this.1.2];rfl) this.2 hf ?_
 rw[hy];rfl
theorem ba{x:String}(he:e= .Attribute (.Name ("self":Str) (ps (ch e 0))) (JW x) (ps e))(hk:dM X a "self"=true)(hs:own.lookup ("self":Str)=some (.inst ag k))(hm:CY.contains x=true)(hc:σ[k]? =some (aa.dct (bb S T O M B)))(hf:eA (bb S T O M B) (JW x)=some y)(hy:cY y=true):(lv (cc X) (n+2)).ev (ah X a own) σ e=some (.ok y σ):=by
 rw[he];exact nV rfl (fO (Er hk hs)) (ow hm hc hf hy)
theorem jd(he:e= .Call (.Attribute (.Name ("View":Str) (ps (ch (ch e 0) 0))) ("create":Str) (ps (ch e 0))) args [] (ps e))(hl:((ps (ch e 0)).endLine==(ps e).line&&decide (args.length+0<20)&&ak args)=true)
 (hv:aP (cc X) (ah X a own) "View"=some (.val (.ref ag))) (h1:dX (lv (cc X) (n+1)).iv (ah X a own) σ args=some (.ok (xs.map .v) J2)) (p:σ<+:J2) (h:fN ((lv (cc X) (n+1)).cf J2 772 xs []) J2 ss):fN ((lv (cc X) (n+2)).ev (ah X a own) σ e) σ ss:=by
 refine gb h fun J6 T O M B q h2=> ?_
 refine⟨J6,T,O,M,B,p.trans q,ki (by rw[he];rfl) ?_⟩
 rw[he];have hs:=(FR.mp hl).2
 refine gL (gS (fv:= .ref 772) (first:=[]) ?_ (fO hv) ⋯ (fF (xs:=xs.map .v) (ks:=[]) (by rw[hs];exact ac) h1 rfl (eJ ⋯ h2)))
 rw[show∀x p,aS (.Name x p)=true from fun u_ u_=>rfl]
 exact F3 ((fun {a b}↦Bool.eq_and_self.mpr) fun a↦hl)
theorem kb{cls:String}(he:e= .Call (.Attribute (.Name ("View":Str) (ps (ch (ch e 0) 0))) ("create":Str) (ps (ch e 0))) args [] (ps e))(hl:((ps (ch e 0)).endLine==(ps e).line&&decide (args.length+0<20)&&ak args)=true)
 (hv:aP (cc X) (ah X a own) "View"=some (.val (.ref ag))) (h1:dX (lv (cc X) (n+1)).iv (ah X a own) σ args=some (.ok (xs.map .v) J2)) (h:(lv (cc X) (n+1)).cf J2 772 xs []=some (.exc cls J6)):(lv (cc X) (n+2)).ev (ah X a own) σ e=some (.exc cls J6):=by
 rw[he];have hs:=(FR.mp hl).2
 refine xL (o:= .exc cls J6) (gS (fv:= .ref 772) (first:=[]) ?_ (fO hv) ⋯ (fF (xs:=xs.map .v) (ks:=[]) (by rw[hs];exact ac) h1 rfl (gH ⋯ h))) rfl
 rw[show∀x p,aS (.Name x p)=true from fun u_ u_=>rfl]
 exact F3 ((fun {a b}↦Bool.eq_and_self.mpr) fun a↦hl)
theorem w7{s:Stmt}(hs:s= .Return (some (sx s 0)) (kl s))(h:fN ((lv (cc X) n).ev (ah X a own) σ (sx s 0)) σ ss):aE ((lv (cc X) (n+1)).exs (ah X a own) σ [s]) σ ss:=by
 refine gb h fun J6 T O M B q h2=> ?_;exact⟨_,J6,T,O,M,B,q,ao (du hs h2)⟩
theorem iR{s:Stmt}{cls:String}(hs:s= .Return (some (sx s 0)) (kl s))(h:(lv c n).ev en σ (sx s 0)=some (.exc cls J2)):aR c (lv c n) en σ s=some (.exc cls en J2):=
 (congrArg (aR c (lv c n) en σ) hs).trans (pG h)
end
end
section
theorem zC{s:Stmt}{x:Str}(hs:s= .Assign [.Name x xp] (.ListComp (ch (sx s 0) 0) [⟨ch (sx s 0) 1,ch (sx s 0) 2,d7 (sx s 0),0⟩] (dF (sx s 0)) (ps (sx s 0))) (kl s))(he:iA (sx s 0))(hx:bF en x=true)(h:(lv c (n+1)).ev en σ (sx s 0)=some (.ok y J2)):aR c (lv c n) en σ s=some (.ok .next (en.set x y) J2):=by
 refine(congrArg (aR c (lv c n) en σ) hs).trans (ye hx ?_);rw[he]at h;exact h
variable {X:Xp}{own:List (Str×V)}{S M Mk:V}{ts:List Int}{o:Int}{as ms:List (Int×Int)}
noncomputable def oy(u v:Int):Int:=if v<u then v else u
noncomputable def nt(u v:Int):Int:=if v>u then v else u
noncomputable def PB(k:Nat)(l:List (Int×Int)):Prop:= ∀p∈l,p.1.natAbs≤k∧p.2.natAbs≤k
noncomputable def IB(k:Nat)(l:List Int):Prop:= ∀t∈l,t.natAbs≤k
theorem r0(hself:own.lookup ("self":Str)=some (.inst ag k))(harg:own.lookup ("arg":Str)=some (vP as))(hv:σ[k]? =some (aa.dct (bb S (vI ts) (.int o) M B)))(hl:ts.length≤900)(ht:IB (2^20) ts)(ha:PB 2000 as)(n:Nat):
 ∃(z:Int) (ext:Sg),aR (cc X) (lv (cc X) (n+20)) (ah X 800 own) σ (St X 800 0)=some (.ok .next (ah X 800 (("offset",.int z)::own)) (σ++ext)):=by
 refine⟨_,_,cb (x:="offset") (xp:=ps (sx (St X 800 0) 1)) rfl ac ac (vR (as:=ts.zip as) (F:=fun p=>p.1*p.2.1) rfl rfl rfl ac ay
  (bN (S:=fun u_=>True) (x:= .it (.zip [.seq (ts.map V.int) 0,.seq (as.map pP) 0])) (t:= .zip [.seq (ts.map V.int) 0,.seq (as.map pP) 0]) (as:=ts.zip as) (f:=fun p=> .tup [.int p.1,pP p.2]) (b:=fun p=>[("x",pP p.2),("s",.int p.1)]) (P:=fun u_=>True) rfl rfl ac
   (eB (x:=vI ts) (y:=vP as) ⋯ rfl rfl ⋯ ay ay (ba (x:="strides") ⋯ ac hself rfl hv rfl rfl) (aT rfl ac harg) rfl rfl) rfl (fun u_=>trivial)
   (aZ (ai _ _) (ai _ _)) (by rw[Go];exact rR ‹_› (by exact ac)) trivial (fun p hp own acc u_=>⟨trivial,by kernel_rfl,cE rfl rfl ⋯ (gE (be (ht _ (Gr hp).1) (by decide)) (be (ha _ (Gr hp).2).1 (by decide)))⟩)))⟩
noncomputable abbrev d1(X:Xp)(i:Nat):=si (aj (St X 800 1)) i
noncomputable def jX(ms as:List (Int×Int)):List (Int×Int):=(ms.zip as).map fun p=>(nt 0 (oy (p.1.1-p.2.1) (p.2.2-p.2.1)),nt 0 (oy (p.1.2-p.2.1) (p.2.2-p.2.1)))
noncomputable def oD(ms as:List (Int×Int)):List (Int×Int):=(ms.zip as).map fun p=>(nt p.1.1 p.2.1,oy p.1.2 p.2.2)
theorem tT{as:List α}{F:α→Int×Int}(he:e= .Call (.Name ("tuple":Str) (ps (ch e 0))) [ch e 1] [] (ps e))(hg:cG [ch e 1]=none)(hx:aP c en "tuple"=some (.val (.type "tuple")))(hc:(ak [ch e 1]&&bK c.K (.type "tuple"))=true)(hi:aV (ch e 1)=false)(hl:as.length≤900)
 (h1:(lv c n).ev en σ (ch e 1)=some (.ok (.lst σ.length) (σ++[aa.lst (as.map fun a=>pP (F a))]))):(lv c (n+2)).ev en σ e=some (.ok (vP (as.map F)) (σ++[aa.lst (as.map fun a=>pP (F a))])):=by
 have:=vM he hg hx hc hi h1 (by rw[Gk];exact bf ‹_› (by exact ac))
 rw[this,vP,GK];rfl
theorem r10(hself:own.lookup ("self":Str)=some (.inst ag k))(harg:own.lookup ("arg":Str)=some (vP as))(hv:σ[k]? =some (aa.dct (bb S (vI ts) (.int o) (vP ms) B)))(hl:ms.length≤900)(n:Nat):
 ∃ext:Sg,aR (cc X) (lv (cc X) (n+20)) (ah X 800 own) σ (d1 X 0)=some (.ok .next (ah X 800 (("nmask",vP (jX ms as))::own)) (σ++ext)):=
 ⟨_,cb (x:="nmask") (xp:=ps (sx (d1 X 0) 1)) rfl ac ac (tT (as:=ms.zip as) (F:=fun p=>(nt 0 (oy (p.1.1-p.2.1) (p.2.2-p.2.1)),nt 0 (oy (p.1.2-p.2.1) (p.2.2-p.2.1)))) rfl rfl rfl ac ay (by rw[Go];exact wP ‹_› (by exact ac))
  (bN (S:=fun u_=>True) (x:= .it (.zip [.seq (ms.map pP) 0,.seq (as.map pP) 0])) (t:= .zip [.seq (ms.map pP) 0,.seq (as.map pP) 0]) (as:=ms.zip as) (f:=fun p=> .tup [pP p.1,pP p.2]) (b:=fun p=>[("ay",.int p.2.2),("ax",.int p.2.1),("my",.int p.1.2),("mx",.int p.1.1)]) (P:=fun u_=>True) ⋯ rfl ⋯
   (eB (x:=vP ms) (y:=vP as) ⋯ rfl rfl ⋯ ay ⋯ (ba (x:="mask") ⋯ ac hself rfl hv rfl rfl) (aT (x:="arg") ⋯ ac harg) rfl rfl) rfl (fun u_=>trivial)
   (aZ (ai _ _) (ai _ _)) (by rw[Go];exact rR ‹_› (by exact ac)) trivial (fun p hp own acc u_=>⟨trivial,by kernel_rfl,by kernel_rfl⟩)))⟩
noncomputable abbrev u2(X:Xp):=sx (d1 X 1) 0
theorem r11{nm:List (Int×Int)}(hn:own.lookup ("nmask":Str)=some (vP nm))(hm:own.lookup ("mask":Str)=some Mk)(hM:Mk= .none∨ ∃ms,Mk=vP ms)(hl:nm.length≤900)(n:Nat):
 ∃(ms':List (Int×Int)) (ext:Sg),(ms'=nm∨ ∃ms,Mk=vP ms∧ms'=oD nm ms)∧aR (cc X) (lv (cc X) (n+30)) (ah X 800 own) σ (d1 X 1)=some (.ok .next (ah X 800 (("mask",vP ms')::own)) (σ++ext)):=by
 have t:(lv (cc X) (n+29)).tr (ah X 800 own) σ (ch (u2 X) 0)=some (.ok (!aX Mk) σ):=
  bw (op:= .IsNot) (J2:=σ) (x:=Mk) (y:= .none) rfl ay (aT (x:="mask") rfl ac hm) rfl rfl
 rcases hM with rfl|⟨ms,rfl⟩
 ·refine⟨nm,[],.inl rfl,?_⟩;have:=cb (c:=cc X) (σ:=σ) (J2:=σ) (en:=ah X 800 own) (s:=d1 X 1) (x:="mask") (xp:=ps (sx (d1 X 1) 1)) (y:=vP nm) rfl ac ac (ua rfl t (aT (x:="nmask") rfl ac hn));rw[Gz];exact this
 ·refine⟨oD nm ms,[aa.lst ((nm.zip ms).map fun p=>pP (nt p.1.1 p.2.1,oy p.1.2 p.2.2))],.inr ⟨ms,rfl,rfl⟩,?_⟩
  exact cb (x:="mask") (xp:=ps (sx (d1 X 1) 1)) rfl ac ac (sC rfl t (tT (as:=nm.zip ms) (F:=fun p=>(nt p.1.1 p.2.1,oy p.1.2 p.2.2)) rfl rfl rfl ac ay (by rw[Go];exact wP ‹_› (by exact ac))
   (bN (S:=fun u_=>True) (x:= .it (.zip [.seq (nm.map pP) 0,.seq (ms.map pP) 0])) (t:= .zip [.seq (nm.map pP) 0,.seq (ms.map pP) 0]) (as:=nm.zip ms) (f:=fun p=> .tup [pP p.1,pP p.2]) (b:=fun p=>[("my2",.int p.2.2),("mx2",.int p.2.1),("my1",.int p.1.2),("mx1",.int p.1.1)]) (P:=fun u_=>True) ⋯ rfl ⋯
    (eB (x:=vP nm) (y:=vP ms) ⋯ rfl rfl ⋯ ⋯ ⋯ (aT (x:="nmask") ⋯ ac hn) (aT (x:="mask") ⋯ ac hm) rfl rfl) rfl (fun u_=>trivial)
    (aZ (ai _ _) (ai _ _)) (by rw[Go];exact rR ‹_› (by exact ac)) trivial (fun p hp own acc u_=>⟨trivial,by kernel_rfl,by kernel_rfl⟩))))
noncomputable abbrev eN(as:List (Int×Int)):List Int:=as.map fun p=>p.2-p.1
theorem r2(harg:own.lookup ("arg":Str)=some (vP as))(hl:as.length≤900)(n:Nat):aR (cc X) (lv (cc X) (n+20)) (ah X 800 own) σ (St X 800 2)=some (.ok .next (ah X 800 (("shape",.lst σ.length)::own)) (σ++[aa.lst ((eN as).map V.int)])):=by
 refine zC rfl rfl ac ?_;rw[eN,GK];exact bN (S:=fun u_=>True) (t:= .seq (as.map pP) 0) (as:=as) (f:=pP) (b:=fun p=>[("y",.int p.2),("x",.int p.1)]) (P:=fun u_=>True) (F:=V.int∘fun p=>p.2-p.1) rfl rfl ac (bx ay (aT rfl ac harg)) rfl (fun u_=>trivial)
  (ai _ _) (fD ‹_› (by exact ac)) trivial (fun p hp own acc u_=>⟨trivial,rfl,rfl⟩)
theorem r3(hm:own.lookup ("mask":Str)=some Mk)(hM:Mk= .none∨ ∃ms,Mk=vP ms∧ms.length≤900)(hs:own.lookup ("shape":Str)=some (.lst j))(hj:σ[j]? =some (aa.lst (ss.map V.int)))(n:Nat):
 ∃own',(own'=own∨own'=(("mask":Str),V.none)::own)∧aR (cc X) (lv (cc X) (n+20)) (ah X 800 own) σ (St X 800 3)=some (.ok .next (ah X 800 own') σ):=by
 have t0:(lv (cc X) (n+19)).tr (ah X 800 own) σ (ch (sx (St X 800 3) 0) 0)=some (.ok (!aX Mk) σ):=
  bw rfl ay (aT rfl ac hm) rfl rfl
 rcases hM with rfl|⟨ms,rfl,hl⟩
 ·exact⟨own,.inl rfl,dq rfl (lr (a:=false) (b:=true) rfl t0 (fun h=>by exact bI h)) rfl⟩
 have t:(lv (cc X) (n+20)).tr (ah X 800 own) σ (sx (St X 800 3) 0)=some (.ok (true&&(ms.zip ss).all fun p=>(p.1.1==0)&&(p.1.2==p.2)) σ):=
  lr rfl t0 fun u_=>dn ac (iw (S:=fun J1=>J1=σ) (t:= .zip [.seq (ms.map pP) 0,.lst j 0]) (as:=ms.zip ss) (f:=fun p=> .tup [pP p.1,.int p.2]) (b:=fun p=>[("s",.int p.2),("m",pP p.1)]) (F:=fun p=> .bool ((p.1.1==0)&&(p.1.2==p.2)))
   ⋯ ⋯ rfl (eB ⋯ rfl rfl ⋯ ⋯ ay (aT (x:="mask") ⋯ ac hm) (aT (x:="shape") ⋯ ac hs) rfl (fB hj)) rfl rfl (aZ (ai _ _) (eh fun J1 q=>by rw[q];exact hj)) (by rw[Go];exact rR ‹_› (by exact ac))
   (fun p u_ own=>⟨by kernel_rfl,q9 ⋯ ⋯ (fun u_=>by kernel_rfl)⟩) (fun u_ u_=>rfl)) rfl
 cases hb:(true&&(ms.zip ss).all fun p=>(p.1.1==0)&&(p.1.2==p.2))with
 |false=>
  rw[hb]at t;exact⟨own,.inl rfl,dq rfl t rfl⟩
 |true=>
  rw[hb]at t;exact⟨_,.inr rfl,eM rfl t rfl⟩
noncomputable abbrev u4(X:Xp):=sx (St X 800 4) 0
theorem r4(hself:own.lookup ("self":Str)=some (.inst ag k))(hv:σ[k]? =some (aa.dct (bb S (vI ts) (.int o) M B)))(hm:own.lookup ("mask":Str)=some Mk)(ho:own.lookup ("offset":Str)=some (.int z))(hs:own.lookup ("shape":Str)=some (.lst j))(hj:σ[j]? =some (aa.lst (ss.map V.int)))
 (hl:bP ss) (h0:ss≠[]) (hp: ∀s∈ss,0≤s) (hA:qO ss (vI ts) Mk) (n:Nat):aE ((lv (cc X) (n+60)).exs (ah X 800 own) σ [St X 800 4]) σ ss:=by
 have hl4:=hl.1;refine w7 rfl (jd (args:=[ch (u4 X) 1,ch (u4 X) 2,ch (u4 X) 3,ch (u4 X) 4]) (xs:=[vI ss,vI ts,.int (o+z),Mk]) rfl ac rfl ?_ (Gu _) (kF hl h0 hp hA (n+6)))
 refine aL ac (yz ac ?_) (aL ac (bx ay (ba rfl ac hself rfl hv rfl rfl))
  (aL ac (bx ay (cE rfl (ba rfl ac hself rfl hv rfl rfl) (aT rfl ac ho) rfl))
   (aL ac (bx ay (aT rfl ac hm)) fV)))
 exact g_ (S:=fun J1=>J1=σ) (t:= .lst j 0) (as:=ss) (f:=V.int) (b:=fun a=>[("s",.int a)]) (F:=V.int) ⋯ ⋯ rfl (bx ay (aT rfl ac hs)) (fB hj) rfl (eh fun J1 q=>by rw[q];exact hj) (fD ‹_› (by exact ac))
  (fun a u_ own=>⟨by kernel_rfl,by kernel_rfl⟩) (fun u_ u_=>rfl)
theorem lx{u v:Int}(h:u.natAbs≤k)(h':v.natAbs≤k):(oy u v).natAbs≤k:=by unfold oy;split<;>assumption
theorem lG{u v:Int}(h:u.natAbs≤k)(h':v.natAbs≤k):(nt u v).natAbs≤k:=by unfold nt;split<;>assumption
theorem zh(h1:PB 2000 ms)(h2:PB 2000 as):PB 4000 (jX ms as):=by
 intro p hp;unfold jX at hp;refine aK (GA.mp hp) fun q hq zz2=> ?_;subst zz2;have a:=h1 _ (Gr hq).1;have b:=h2 _ (Gr hq).2
 exact⟨lG (by exact HD _) (lx (Ca (FN ‹_›) (FN ‹_›) (by exact ac)) (Ca (FO ‹_›) (FN ‹_›) (by exact ac))),lG (by exact HD _) (lx (Ca (FO ‹_›) (FN ‹_›) (by exact ac)) (Ca (FO ‹_›) (FN ‹_›) (by exact ac)))⟩
theorem yx(h1:PB 4000 ms)(h2:PB 4000 as):PB 4000 (oD ms as):=by
 intro p hp;unfold oD at hp;refine aK (GA.mp hp) fun q hq zz2=> ?_;subst zz2;have a:=h1 _ (Gr hq).1;have b:=h2 _ (Gr hq).2;exact⟨lG a.1 b.1,lx a.2 b.2⟩
structure eF(σ:Sg)(k:Nat)(ss ts:List Int)(o:Int)(M B:V):Prop where
 at_:σ[k]? =some (aa.dct (bb (vI ss) (vI ts) (.int o) M B))
 lt:ts.length=ss.length
 ib:IB (2^20) ts
 mq:M= .none∨ ∃ms,M=vP ms∧ms.length=ss.length∧PB 2000 ms
theorem eF.app{ts:List Int}{o:Int}{M:V}(h:eF σ k ss ts o M B)(p:σ<+:J1):eF J1 k ss ts o M B:=⟨jh p h.at_,h.lt,h.ib,h.mq⟩
theorem AD(hv:eF σ k ss ts o M B)(hl:ss.length≤4)(h0:ss≠[])(ha:as.length=ss.length)(hb:PB 2000 as)(hM:Mk= .none∨ ∃ms,Mk=vP ms∧ms.length=ss.length∧PB 2000 ms)(hs: ∀s∈eN as,0≤s∧s≤1000)(n:Nat):
 aE ((lv (cc X) (n+60)).exs (ah X 800 [("mask",Mk),("arg",vP as),("self",.inst ag k)]) σ (aB X 800)) σ (eN as):=by
 have e3:=hv.lt
 rw[show aB X 800=[St X 800 0,St X 800 1,St X 800 2,St X 800 3,St X 800 4]from rfl]
 refine rq (r0 (X:=X) (own:=[("mask",Mk),("arg",vP as),("self",.inst ag k)]) rfl rfl hv.at_ (dB ‹_› ‹_› (by exact ac)) hv.ib hb (n+39)) fun z ext h1=> ?_
 refine aE.next h1 (Gm _ _) ?_;have fM:=hv.app (Gm σ ext);generalize σ++ext=KI at fM⊢;have key: ∀(own':List (Str×V)) (KT:Sg) (Mk':V),KI<+:KT→own'.lookup ("self":Str)=some (.inst ag k)→own'.lookup ("arg":Str)=some (vP as)→own'.lookup ("offset":Str)=some (.int z)→own'.lookup ("mask":Str)=some Mk'→(Mk'= .none∨ ∃ms,Mk'=vP ms∧ms.length=ss.length∧PB 4000 ms)→
  aE ((lv (cc X) (n+60)).exs (ah X 800 own') KT [St X 800 2,St X 800 3,St X 800 4]) KT (eN as):=by
  intro own' KT Mk' p a1 a2 a3 a4 hM';have n_:=fM.app p
  refine aE.next (r2 a2 (dB ‹_› ‹_› (by exact ac)) (n+39)) (Gm _ _) ?_
  have hj:(KT++[aa.lst ((eN as).map V.int)])[KT.length]? =some (aa.lst ((eN as).map V.int)):=by exact GG
  have hv3:=n_.app (Gm KT [aa.lst ((eN as).map V.int)])
  refine aK (r3 (X:=X) (own:=("shape",.lst KT.length)::own') (Mk:=Mk') a4 (hM'.imp id fun⟨ms,e,l,_⟩=>⟨ms,e,by exact dB ‹_› ‹_› (by exact ac)⟩) rfl hj (n+39)) fun own2 hd h2=> ?_
  refine aE.next h2 (Gu _) ?_
  have S1:bP (eN as):=⟨by rw[Gk];exact dB ‹_› ‹_› (by exact ac),fun s q=>by have:=hs s q;exact qh ‹_› (by exact ac)⟩
  have S0:eN as≠[]:=fun q=>h0 (GL (by rw[←ha,←Gk (f:=fun p:Int×Int=>p.2-p.1)];exact congrArg List.length q))
  have lt':ts.length=(eN as).length:=by rw[Gk];exact F1 ‹_› (F3 ‹_›)
  have ib': ∀t∈ts,t.natAbs≤2^30:=fun t q=>Hu (hv.ib t q) (by decide)
  rcases hd with rfl|rfl
  ·exact r4 (own:=("shape",.lst KT.length)::own') a1 hv3.at_ a4 a3 rfl hj S1 S0 (fun s q=>(hs s q).1) (.inr ⟨ts,rfl,lt',hM'.imp id fun⟨ms,e,l,q⟩=>⟨ms,e,by rw[Gk];exact F1 ‹_› (F3 ‹_›),ib',fun m hm=>Hu (q m hm).1 (by decide)⟩⟩) n
  ·exact r4 (own:=("mask",V.none)::("shape",.lst KT.length)::own') a1 hv3.at_ rfl a3 rfl hj S1 S0 (fun s q=>(hs s q).1) (.inr ⟨ts,rfl,lt',.inl rfl⟩) n
 have t1:(lv (cc X) (n+59)).tr (ah X 800 [("offset",.int z),("mask",Mk),("arg",vP as),("self",.inst ag k)]) KI (sx (St X 800 1) 0)=(bq KI M).map fun b=> .ok b KI:=by
  rcases hv.mq with rfl|⟨ms,rfl,l,_⟩
  ·exact dn ac (ba rfl ac rfl rfl fM.at_ rfl rfl) rfl
  ·as_aux_lemma=>
    have q:bq KI (vP ms)=some (!(ms.map pP).isEmpty):=fA (by rw[Gk];exact dB ‹_› ‹_› (by exact ac))
    rw[q]
    exact dn ac (ba rfl ac rfl rfl fM.at_ rfl rfl) q
 rcases hv.mq with rfl|⟨ms,rfl,l,hp⟩
 ·exact aE.next (dq rfl t1 rfl) (Gu _) (key [("offset",.int z),("mask",Mk),("arg",vP as),("self",.inst ag k)] KI Mk (Gu _) rfl rfl rfl rfl (hM.imp id fun⟨ms,e,l,q⟩=>⟨ms,e,l,fun m hm=>⟨Hu (q m hm).1 (by exact HB ..),Hu (q m hm).2 (by exact HB ..)⟩⟩))
 ·have q:bq KI (vP ms)=some true:=by
   rw[fA (by rw[Gk];exact dB ‹_› ‹_› (by exact ac))]
   cases ms with
   |nil=>exact absurd (GL l.symm) h0
   |cons=>rfl
  rw[q]at t1
  have lc:(jX ms as).length=ss.length:=by unfold jX;rw[Gk,Go];exact mq ‹_› ‹_›
  refine oE (r10 (X:=X) (own:=[("offset",.int z),("mask",Mk),("arg",vP as),("self",.inst ag k)]) rfl rfl fM.at_ (dB ‹_› ‹_› (by exact ac)) (n+38)) fun x1 k1=> ?_
  refine bc (r11 (X:=X) (σ:=KI++x1) (own:=[("nmask",vP (jX ms as)),("offset",.int z),("mask",Mk),("arg",vP as),("self",.inst ag k)]) (Mk:=Mk) rfl rfl (hM.imp id fun⟨ms,e,_⟩=>⟨ms,e⟩) (dB ‹_› ‹_› (by exact ac)) (n+28)) fun ms' x2 hm' k2=> ?_
  refine aE.next (en':=ah X 800 [("mask",vP ms'),("nmask",vP (jX ms as)),("offset",.int z),("mask",Mk),("arg",vP as),("self",.inst ag k)]) (J1:=KI++x1++x2) (eM rfl t1 ?_) ((Gm _ _).trans (Gm _ _)) (key [("mask",vP ms'),("nmask",vP (jX ms as)),("offset",.int z),("mask",Mk),("arg",vP as),("self",.inst ag k)] _ (vP ms') ((Gm _ _).trans (Gm _ _)) rfl rfl rfl rfl (.inr ⟨ms',rfl,?_⟩))
  ·rw[show aj (St X 800 1)=[d1 X 0,d1 X 1]from rfl]
   exact ab k1 (ao k2)
  ·as_aux_lemma=>
    have c:=zh hp hb
    rcases hm' with rfl|⟨ms2,e,rfl⟩
    ·exact⟨lc,c⟩
    ·rcases hM with rfl|⟨ms3,rfl,l3,q3⟩
     ·cases e
     ·obtain rfl:ms3=ms2:=by
       have:=V.tup.inj e
       have inj: ∀a b:List (Int×Int),a.map pP=b.map pP→a=b:=fun a b h=>(List.map_inj_right (fun x y h=>by cases x;cases y;cases h;rfl)).mp h
       exact inj _ _ this
      exact⟨by unfold oD;rw[Gk,Go];exact mq ‹_› ‹_›,yx c fun m hm=>⟨Hu (q3 m hm).1 (by exact HB ..),Hu (q3 m hm).2 (by exact HB ..)⟩⟩
end
section
section
theorem Br{vs:List IV}{ks:List (Str×V)}{o:aD IV}(he:e= .Call (.Attribute (ch (ch e 0) 0) name (ps (ch e 0))) args (yL e) (ps e))(hp:(aS (ch (ch e 0) 0)&&(ps (ch e 0)).endLine==(ps e).line&&decide (args.length+(yL e).length<20)&&ak args&&ic (yL e))=true)
 (hx:(lv c n).ev en σ (ch (ch e 0) 0)=some (.ok x J2)) (hm:ij c J2 x name=some (fv,first)) (hc:bK c.K fv=true) (h1:dX (lv c n).iv en J2 args=some (.ok vs J6)) (hk:tn (lv c n).ev en J6 (yL e)=some (.ok ks J6)) (h2:aH c (lv c n).cf J6 fv (first.map .v++vs) ks=some o):(lv c (n+1)).iv en σ e=some o:=by
 refine(congrArg ((lv c (n+1)).iv en σ) he).trans ?_;have h3:=FR.mp hp;have h4:=FR.mp h3.1
 exact gL (gS hp hx hm (fF (xs:=vs) (ks:=ks) (by rw[h4.2,h3.2,hc];rfl) h1 hk h2))
theorem FL{w x y:Int}(he:e= .Compare (ch e 0) [.LtE,.LtE,.LtE] [ch e 1,ch e 2,ch e 3] (ps e))(hm:lastMarks [.LtE,.LtE,.LtE] [ch e 1,ch e 2,ch e 3]=false)(h0:(lv c n).ev en σ (ch e 0)=some (.ok (.int w) σ))(h1:(lv c n).ev en σ (ch e 1)=some (.ok (.int x) σ))(h2:(lv c n).ev en σ (ch e 2)=some (.ok (.int y) σ))(h3:(lv c n).ev en σ (ch e 3)=some (.ok (.int z) σ)):
 (lv c (n+1)).ev en σ e=some (.ok (.bool (decide (w≤x)&&(decide (x≤y)&&decide (y≤z)))) σ):=by
 refine(congrArg ((lv c (n+1)).ev en σ) he).trans ?_;refine(?_:gD (lv c n).ev en σ (ch e 0) [.LtE,.LtE,.LtE] [ch e 1,ch e 2,ch e 3]=_);have c1:ed σ .LtE (.int w) (.int x)=some (decide (w≤x)):=rfl;have c2:ed σ .LtE (.int x) (.int y)=some (decide (x≤y)):=rfl;have c3:ed σ .LtE (.int y) (.int z)=some (decide (y≤z)):=rfl
 refine(if_neg (by rw[hm];exact FT):(if lastMarks [.LtE,.LtE,.LtE] [ch e 1,ch e 2,ch e 3]=true then none else au ((lv c n).ev en σ (ch e 0)) _)=_).trans ?_
 rw[h0];refine fQ h1 c1 ?_
 cases decide (w≤x)with
 |false=>rfl
 |true=>
  refine fQ h2 c2 ?_
  cases decide (x≤y)with
  |false=>rfl
  |true=>exact hH h3 c3
end
section
variable {X:Xp}{S T M:V}{own:List (Str×V)}
noncomputable def yq(X:Xp)(C:Addr)(name:Str)(f:Addr):Bool:=decide (findIn (cc X).K (.ref C) "__getattribute__"=some (some (.builtin "object.__getattribute__")))&&decide (findIn (cc X).K (.ref C) "__getattr__"=some none)&&decide (findIn (cc X).K (.ref C) name=some (some (.ref f)))&&decide (typeIn (cc X).K (.ref f)=some (.type "function"))
theorem jl{f:Addr}(hk:σ[k]? =some (aa.dct fs))(hn:(eA fs name).isNone=true)(h:yq X C name f=true):ij (cc X) σ (.inst C k) name=some (.ref f,[.inst C k]):=by
 unfold yq at h;simp only[FS,decide_eq_true_eq]at h;refine dm fun kk=> ?_;obtain⟨⟨⟨h1,h2⟩,h3⟩,h4⟩:=h<;>(refine kk ?_;clear kk)
 show(fm σ k).bind _=_;rw[kQ hk]
 show(if _ then _ else none)=_
 rw[if_pos ⟨h1,h2,hn⟩,h3];exact if_pos h4
theorem kq(he:e= .Call (.Name ("len":Str) (ps (ch e 0))) [ch e 1] [] (ps e))(hg:cG [ch e 1]=none)(hx:aP (cc X) (ah X a own) "len"=some (.val (.builtin "len")))(hc:ak [ch e 1]=true)(hi:aV (ch e 1)=false)(h1:(lv (cc X) n).ev (ah X a own) σ (ch e 1)=some (.ok (.tup l) σ))(hl:l.length≤2^20):(lv (cc X) (n+2)).ev (ah X a own) σ e=some (.ok (.int l.length) σ):=
 bJ he hg hx (by rw[hc];exact ac) (bx hi h1) (nA hl)
end
noncomputable def gy(r:Option (aD V))(σ:Sg)(ss:List Int):Prop:= ∃k J1 T O M B,σ<+:J1∧r=some (.ok (.inst ag k) J1)∧J1[k]? =some (aa.dct (bb (vI ss) T O M B))
variable {X:Xp}{own:List (Str×V)}{S M Mk:V}{ts:List Int}{o:Int}{as ms:List (Int×Int)}
noncomputable abbrev p0(X:Xp):=sx (St X 805 0) 0
noncomputable def lP(as:List (Int×Int)):Bool:=as.all fun p=>decide (0≤p.1)&&decide (0≤p.2)
noncomputable abbrev eL(k:Nat)(arg:V):List (Str×V):=[("arg",arg),("self",.inst ag k)]
theorem Dt(hv:eF σ k ss ts o M B)(hl:ss.length≤900)(ha:as.length≤900)(n:Nat):(lv (cc X) (n+20)).tr (ah X 805 (eL k (vP as))) σ (p0 X)=some (.ok (lP as&&(as.length:Int)==(ss.length:Int)) σ):=
 lr rfl (dn ac (iw (S:=fun u_=>True) (x:= .v (vP as)) (t:= .seq (as.map pP) 0) (as:=as) (f:=pP) (b:=fun p=>[("e",.int p.2),("b",.int p.1)]) (F:=fun p=> .bool (decide (0≤p.1)&&decide (0≤p.2))) ⋯ ⋯ rfl
  (bx ay (aT (x:="arg") rfl ac rfl)) rfl trivial (ai _ _) (fD ‹_› (by exact ac)) (fun p u_ own=>⟨by kernel_rfl,q9 ⋯ rfl (fun u_=>by kernel_rfl)⟩) (fun u_ u_=>rfl)) rfl)
  (fun u_=>by
   have e1:((as.map pP).length:Int)=as.length:=by rw[Gk]
   have e2:((ss.map V.int).length:Int)=ss.length:=by rw[Gk]
   rw[←e1,←e2]
   exact bw (op:= .Eq) (J2:=σ) (x:= .int _) (y:= .int _) rfl ay (kq (l:=as.map pP) rfl rfl rfl ac ay (aT (x:="arg") rfl ac rfl) (by rw[Gk];exact bf ‹_› (by exact ac)))
    (kq (l:=ss.map V.int) rfl rfl rfl ac ay (ba (x:="shape") ⋯ ac rfl rfl hv.at_ rfl rfl) (by rw[Gk];exact bf ‹_› (by exact ac))) rfl)
noncomputable abbrev y0(X:Xp)(i:Nat):=si (aj (St X 805 1)) i
theorem E3(n:Nat)(ha:as.length≤900):(lv (cc X) (n+20)).tr (ah X 805 (eL k (vP as))) σ (sx (St X 805 1) 0)=some (.ok (as.any fun p=>p.1 !=0||p.2 !=0) σ):=
 dn ac (z' (S:=fun u_=>True) (t:= .seq (as.map pP) 0) (as:=as) (f:=pP) (b:=fun p=>[("e",.int p.2),("b",.int p.1)]) (F:=fun p=>bif p.1 !=0 then .int p.1 else .int p.2) (q:=fun p=>p.1 !=0||p.2 !=0) rfl ⋯ rfl
  (bx ay (aT rfl ac rfl)) rfl trivial (ai _ _) (fD ‹_› (by exact ac)) (fun p u_ own=>⟨by kernel_rfl,Dw rfl rfl rfl (fun u_=>rfl)⟩)
  (fun p u_=>by cases h:p.1 !=0 with|false=>exact rfl|true=>exact congrArg some h)) rfl
noncomputable def uw(ss:List Int)(as:List (Int×Int)):List (Int×Int):=(ss.zip as).map fun p=>(-p.2.1,p.1+p.2.2)
noncomputable def BP(ss:List Int)(as:List (Int×Int)):List (Int×Int):=(ss.zip as).map fun p=>(p.2.1,p.1+p.2.1)
theorem Fp(hv:eF σ k ss ts o M B)(hl:ss.length≤900)(n:Nat): ∃ext:Sg,aR (cc X) (lv (cc X) (n+20)) (ah X 805 (eL k (vP as))) σ (y0 X 0)=some (.ok .next (ah X 805 (("zvarg",vP (uw ss as))::eL k (vP as))) (σ++ext)):=
 ⟨_,cb (x:="zvarg") (xp:=ps (sx (y0 X 0) 1)) rfl ac ac (tT (as:=ss.zip as) (F:=fun p=>(-p.2.1,p.1+p.2.2)) rfl rfl rfl ac ay (by rw[Go];exact wP ‹_› (by exact ac))
  (bN (S:=fun u_=>True) (x:= .it (.zip [.seq (ss.map V.int) 0,.seq (as.map pP) 0])) (t:= .zip [.seq (ss.map V.int) 0,.seq (as.map pP) 0]) (as:=ss.zip as) (f:=fun p=> .tup [.int p.1,pP p.2]) (b:=fun p=>[("e",.int p.2.2),("b",.int p.2.1),("s",.int p.1)]) (P:=fun u_=>True) ⋯ rfl ⋯
   (eB (x:=vI ss) (y:=vP as) ⋯ rfl rfl ⋯ ⋯ ⋯ (ba (x:="shape") ⋯ ac rfl rfl hv.at_ rfl rfl) (aT (x:="arg") ⋯ ac rfl) rfl rfl) rfl (fun u_=>trivial)
   (aZ (ai _ _) (ai _ _)) (by rw[Go];exact rR ‹_› (by exact ac)) trivial (fun p hp own acc u_=>⟨trivial,by kernel_rfl,by kernel_rfl⟩)))⟩
theorem EG{z:V}(hv:eF σ k ss ts o M B)(hl:ss.length≤900)(n:Nat): ∃ext:Sg,aR (cc X) (lv (cc X) (n+20)) (ah X 805 (("zvarg",z)::eL k (vP as))) σ (y0 X 1)=some (.ok .next (ah X 805 (("mask",vP (BP ss as))::("zvarg",z)::eL k (vP as))) (σ++ext)):=
 ⟨_,cb (x:="mask") (xp:=ps (sx (y0 X 1) 1)) rfl ac ac (tT (as:=ss.zip as) (F:=fun p=>(p.2.1,p.1+p.2.1)) rfl rfl rfl ac ay (by rw[Go];exact wP ‹_› (by exact ac))
  (bN (S:=fun u_=>True) (x:= .it (.zip [.seq (ss.map V.int) 0,.seq (as.map pP) 0])) (t:= .zip [.seq (ss.map V.int) 0,.seq (as.map pP) 0]) (as:=ss.zip as) (f:=fun p=> .tup [.int p.1,pP p.2]) (b:=fun p=>[("_",.int p.2.2),("b",.int p.2.1),("s",.int p.1)]) (P:=fun u_=>True) ⋯ rfl ⋯
   (eB (x:=vI ss) (y:=vP as) ⋯ rfl rfl ⋯ ⋯ ⋯ (ba (x:="shape") ⋯ ac rfl rfl hv.at_ rfl rfl) (aT (x:="arg") ⋯ ac rfl) rfl rfl) rfl (fun u_=>trivial)
   (aZ (ai _ _) (ai _ _)) (by rw[Go];exact rR ‹_› (by exact ac)) trivial (fun p hp own acc u_=>⟨trivial,by kernel_rfl,by kernel_rfl⟩)))⟩
end
section
noncomputable def cV(r:Option (aD V))(σ:Sg):Prop:= ∃cls J1,(cls="AssertionError"∨cls="ValueError")∧σ<+:J1∧r=some (.exc cls J1)
theorem cV.el{r:Option (aD V)}(h:cV r σ)(k: ∀cls J1,(cls="AssertionError"∨cls="ValueError")→σ<+:J1→r=some (.exc cls J1)→G):G:=by
 obtain⟨a,b,c,d,e⟩:=h;exact k a b c d e
theorem cB{x:aa}:(σ++[x])[σ.length]? =some x:=by exact GG
theorem bM{l:List Stmt}{cls:String}(h:aR c (lv c n) en σ st=some (.exc cls en' J1)):(lv c (n+1)).exs en σ (st::l)=some (.exc cls en' J1):=by
 show(aR c (lv c n) en σ st).bind _=_;rw[h];rfl
theorem bj{l:List Stmt}{v:V}(h:aR c (lv c n) en σ st=some (.ok (.ret v) en' J1)):(lv c (n+1)).exs en σ (st::l)=some (.ok (.ret v) en' J1):=by
 show(aR c (lv c n) en σ st).bind _=_;rw[h];rfl
variable {X:Xp}{own:List (Str×V)}{S M Mk:V}{ts:List Int}{o:Int}{as ms:List (Int×Int)}
theorem sy(hv:eF σ k ss ts o M B)(hl:ss.length≤4)(h0:ss≠[])(ha:as.length=ss.length)(hb:PB 2000 as)(hM:Mk= .none∨ ∃ms,Mk=vP ms∧ms.length=ss.length∧PB 2000 ms)(hs: ∀s∈eN as,0≤s∧s≤1000){ks:List (Str×V)}(hk:ks=[(("mask":Str),Mk)]∨(ks=[]∧Mk= .none))(n:Nat):
 fN ((lv (cc X) (n+61)).cf σ 800 [.inst ag k,vP as] ks) σ (eN as):=by
 have r:=AD (X:=X) hv hl h0 ha hb hM hs n
 rcases hk with rfl|⟨rfl,rfl⟩
 ·exact hN (a:=800) (binds:=[("self",.inst ag k),("arg",vP as),("mask",Mk)]) ⋯ ⋯ ac r
 ·exact hN (a:=800) (binds:=[("self",.inst ag k),("arg",vP as),("mask",.none)]) ⋯ ⋯ ac r
noncomputable def e_(ss:List Int)(as:List (Int×Int)):List Int:=(ss.zip as).map fun p=>p.1+p.2.1+p.2.2
noncomputable abbrev y2(X:Xp):=sx (y0 X 2) 0
theorem rP:eN (uw ss as)=e_ ss as:=by
 unfold eN uw e_;rw[GK];refine G8 fun p u_=> ?_;show p.1+p.2.2- -p.2.1=_;rw[Int.sub_neg];exact Int.add_right_comm ..
theorem pR: ∀{as:List (Int×Int)},as.length=ss.length→(as.any fun p=>p.1 !=0||p.2 !=0)=false→e_ ss as=ss:=by
 induction ss with
 |nil=>exact fun u_ u_=>rfl
 |cons s ss ih=>
  intro as h q
  cases as with
  |nil=>exact Nat.noConfusion h
  |cons a as=>
   simp only[G3,Bool.or_eq_false_iff,bne_eq_false_iff_eq]at q;have:=ih (Nat.succ.inj h) q.2;unfold e_ at this⊢;simp only[G9,List.map_cons,this,q.1.1,q.1.2];congr 1;exact Ds
theorem Fx(hv:eF σ k ss ts o M B)(hl:ss.length≤4)(h0:ss≠[])(hs: ∀s∈ss,0≤s∧s≤100)(ha:PB 100 as)(hal:as.length≤900)(h:(lP as&&(as.length:Int)==(ss.length:Int))=true)(n:Nat):gy ((lv (cc X) (n+80)).cf σ 805 [.inst ag k,vP as] []) σ (e_ ss as):=by
 have t:=Dt (X:=X) (as:=as) hv (bf ‹_› (by exact ac)) hal (n+58)
 rw[h]at t;refine oA (FR.mp h) fun h1 h2=> ?_
 have hlen:as.length=ss.length:=by
  have:=Gj h2;exact cN ‹_›
 have s0:aR (cc X) (lv (cc X) (n+78)) (ah X 805 (eL k (vP as))) σ (St X 805 0)=some (.ok .next (ah X 805 (eL k (vP as))) σ):=ci (n:=n+78) (v:=true) rfl t;have t1:=E3 (X:=X) (σ:=σ) (k:=k) (as:=as) (n+58) hal
 have fin: ∀so o,(lv (cc X) (n+79)).exs (ah X 805 (eL k (vP as))) σ (aB X 805)=some so→ir so=some o→(lv (cc X) (n+80)).cf σ 805 [.inst ag k,vP as] []=some o:=fun so o h1 h2=>bo (a:=805) (n:=n+79) (binds:=[("self",.inst ag k),("arg",vP as)]) ⋯ ⋯ ac h1 h2
 rw[show aB X 805=[St X 805 0,St X 805 1,St X 805 2]from rfl]at fin
 cases hz:as.any fun p=>p.1 !=0||p.2 !=0 with
 |false=>
  rw[hz]at t1;rw[pR hlen hz]
  exact⟨k,σ,vI ts,.int o,M,B,Gu _,fin _ _ (ab s0 (ab (dq (n:=n+78) rfl t1 rfl) (ao (n:=n+78) (du (n:=n+78) rfl (aT (n:=n+77) (a:=805) (own:=eL k (vP as)) (x:="self") rfl ac rfl))))) rfl,hv.at_⟩
 |true=>
  rw[hz]at t1
  refine oE (Fp (X:=X) (as:=as) hv (bf ‹_› (by exact ac)) (n+57)) fun x1 k1=> ?_
  have fM:=hv.app (Gm σ x1)
  refine oE (EG (X:=X) (as:=as) (z:=vP (uw ss as)) fM (bf ‹_› (by exact ac)) (n+57)) fun x2 k2=> ?_
  have n_:=fM.app (Gm (σ++x1) x2)
  have b1:PB 2000 (uw ss as):=by
   intro p hp;unfold uw at hp;refine aK (GA.mp hp) fun q hq zz2=> ?_;subst zz2;have a:=hs _ (Gr hq).1;have b:=ha _ (Gr hq).2
   exact⟨by show(-q.2.1).natAbs≤2000;exact FG (FN ‹_›) (by exact ac),by show(q.1+q.2.2).natAbs≤2000;exact EO ‹_› (FO ‹_›) (by exact ac)⟩
  have b2:PB 2000 (BP ss as):=by
   intro p hp;unfold BP at hp;refine aK (GA.mp hp) fun q hq zz2=> ?_;subst zz2;have a:=hs _ (Gr hq).1;have b:=ha _ (Gr hq).2
   exact⟨by show(q.2.1).natAbs≤2000;exact bf (FN ‹_›) (by exact ac),by show(q.1+q.2.1).natAbs≤2000;exact EO ‹_› (FN ‹_›) (by exact ac)⟩
  have b3: ∀s∈eN (uw ss as),0≤s∧s≤1000:=by
   rw[rP];intro s hp;unfold e_ at hp;refine aK (GA.mp hp) fun q hq zz2=> ?_;subst zz2;have a:=hs _ (Gr hq).1;have b:=ha _ (Gr hq).2;have c:=Gw.mp h1 _ (Gr hq).2;simp only[FS,decide_eq_true_eq]at c;exact⟨Int.add_nonneg (Int.add_nonneg a.1 c.1) c.2,nlm (xu (n:=1000) (EO (n:=200) a b.1 (.refl true)) b.2 (.refl true)) (.refl true)⟩
  have l1:(uw ss as).length=ss.length:=by unfold uw;rw[Gk,Go];exact Cy ‹_›
  have l2:(BP ss as).length=ss.length:=by unfold BP;rw[Gk,Go];exact Cy ‹_›
  refine gb (sy (X:=X) n_ hl h0 l1 b1 (.inr ⟨_,rfl,l2,b2⟩) b3 (.inl rfl) (n+15)) fun J1 T O M' B' p hr=> ?_;rw[rP]at hr;have hc:(lv (cc X) (n+77)).ev (ah X 805 (("mask",vP (BP ss as))::("zvarg",vP (uw ss as))::eL k (vP as))) (σ++x1++x2) (y2 X)=some (.ok (.inst ag J1.length) (J1++[aa.dct (bb (vI (e_ ss as)) T O M' B')])):=
   ki ac (Br (name:="_unsafe_resize") (args:=[ch (y2 X) 1]) (fv:= .ref 800) (first:=[.inst ag k]) (vs:=[.v (vP (uw ss as))]) (ks:=[("mask",vP (BP ss as))]) rfl ⋯ (aT rfl ac rfl)
    (jl n_.at_ ac ⋯) ac (kA ac (bx ay (aT rfl ac rfl))) rfl (eJ (xs:=[.inst ag k,vP (uw ss as)]) ⋯ hr))
  have hb:=ab k1 (ab k2 (ao (du (s:=y0 X 2) rfl hc)))
  rw[←show aj (St X 805 1)=[y0 X 0,y0 X 1,y0 X 2]from rfl]at hb
  exact⟨_,_,T,O,M',B',(((Gm _ _).trans (Gm _ _)).trans p).trans (Gm _ _),fin _ _ (ab s0 (bj (eM rfl t1 hb))) rfl,cB⟩
theorem Fz(hv:eF σ k ss ts o M B)(hl:ss.length≤4)(hal:as.length≤900)(h:(lP as&&(as.length:Int)==(ss.length:Int))=false)(n:Nat):cV ((lv (cc X) (n+80)).cf σ 805 [.inst ag k,vP as] []) σ:=by
 have t:=Dt (X:=X) (as:=as) hv (bf ‹_› (by exact ac)) hal (n+58)
 rw[h]at t;have s0:aR (cc X) (lv (cc X) (n+78)) (ah X 805 (eL k (vP as))) σ (St X 805 0)=some (.exc "AssertionError" (ah X 805 (eL k (vP as))) σ):=ci (v:=false) rfl t
 refine⟨"AssertionError",σ,.inl rfl,Gu _,bo (a:=805) (binds:=[("self",.inst ag k),("arg",vP as)]) ⋯ ⋯ ac (so:= .exc "AssertionError" (ah X 805 (eL k (vP as))) σ) ?_ rfl⟩
 rw[show aB X 805=[St X 805 0,St X 805 1,St X 805 2]from rfl]
 exact bM s0
noncomputable abbrev k0(X:Xp):=sx (St X 812 0) 0
noncomputable abbrev k1(X:Xp):=sx (St X 812 1) 0
noncomputable def lS(ss:List Int)(as:List (Int×Int)):Bool:=(ss.zip as).all fun p=>decide (0≤p.2.1)&&(decide (p.2.1≤p.2.2)&&decide (p.2.2≤p.1))
theorem Cj(hv:eF σ k ss ts o M B)(hl:ss.length≤900)(ha:as.length≤900)(n:Nat):(lv (cc X) (n+20)).tr (ah X 812 (eL k (vP as))) σ (k0 X)=some (.ok (lS ss as&&(as.length:Int)==(ss.length:Int)) σ):=
 lr rfl (dn ac (iw (S:=fun u_=>True) (x:= .it (.zip [.seq (ss.map V.int) 0,.seq (as.map pP) 0])) (t:= .zip [.seq (ss.map V.int) 0,.seq (as.map pP) 0]) (as:=ss.zip as) (f:=fun p=> .tup [.int p.1,pP p.2]) (b:=fun p=>[("e",.int p.2.2),("b",.int p.2.1),("s",.int p.1)]) (F:=fun p=> .bool (decide (0≤p.2.1)&&(decide (p.2.1≤p.2.2)&&decide (p.2.2≤p.1)))) ⋯ ⋯ rfl
  (eB (x:=vI ss) (y:=vP as) ⋯ rfl rfl ⋯ ⋯ ⋯ (ba (x:="shape") ⋯ ac rfl rfl hv.at_ rfl rfl) (aT (x:="arg") ⋯ ac rfl) rfl rfl) rfl trivial
  (aZ (ai _ _) (ai _ _)) (by rw[Go];exact rR ‹_› (by exact ac)) (fun p u_ own=>⟨by kernel_rfl,FL ⋯ ay rfl rfl rfl rfl⟩) (fun u_ u_=>rfl)) rfl)
  (fun u_=>by
   have e1:((as.map pP).length:Int)=as.length:=by rw[Gk]
   have e2:((ss.map V.int).length:Int)=ss.length:=by rw[Gk]
   rw[←e1,←e2]
   exact bw (op:= .Eq) (J2:=σ) (x:= .int _) (y:= .int _) rfl ay (kq (l:=as.map pP) rfl rfl rfl ac ay (aT (x:="arg") rfl ac rfl) (by rw[Gk];exact bf ‹_› (by exact ac)))
    (kq (l:=ss.map V.int) rfl rfl rfl ac ay (ba (x:="shape") ⋯ ac rfl rfl hv.at_ rfl rfl) (by rw[Gk];exact bf ‹_› (by exact ac))) rfl)
theorem xU(hv:eF σ k ss ts o M B)(hl:ss.length≤4)(h0:ss≠[])(hs: ∀s∈ss,0≤s∧s≤100)(ha:PB 200 as)(hal:as.length≤900)(h:(lS ss as&&(as.length:Int)==(ss.length:Int))=true)(n:Nat):gy ((lv (cc X) (n+80)).cf σ 812 [.inst ag k,vP as] []) σ (eN as):=by
 have t:=Cj (X:=X) (as:=as) hv (bf ‹_› (by exact ac)) hal (n+58)
 rw[h]at t;refine oA (FR.mp h) fun h1 h2=> ?_
 have hlen:as.length=ss.length:=by
  have:=Gj h2;exact cN ‹_›
 have s0:aR (cc X) (lv (cc X) (n+78)) (ah X 812 (eL k (vP as))) σ (St X 812 0)=some (.ok .next (ah X 812 (eL k (vP as))) σ):=ci (v:=true) rfl t
 have b3: ∀s∈eN as,0≤s∧s≤1000:=by
  intro s hp;obtain⟨i,hi,rfl⟩:=List.getElem_of_mem hp;rw[Gk]at hi
  have hm:(ss[i]'(ltr ‹_› ‹_›),as[i])∈ss.zip as:=by
   rw[show(ss[i]'(ltr ‹_› ‹_›),as[i])=(ss.zip as)[i]'(by rw[Go];exact lmm (ET ‹_›) ‹_›)from by rw[List.getElem_zip]]
   exact GN _
  have c:=Gw.mp h1 _ hm;have b:=hs _ (Gr hm).1;simp only[FS,decide_eq_true_eq]at c;rw[List.getElem_map]
  exact⟨Gg c.2.1,F6 (Int.sub_le_self _ c.1) (F6 c.2.2 (F6 b.2 (by exact F5 _)))⟩
 refine gb (sy (X:=X) (as:=as) (Mk:= .none) (ks:=[]) hv hl h0 hlen (fun q hq=>⟨Hu (ha q hq).1 (by decide),Hu (ha q hq).2 (by decide)⟩) (.inl rfl) b3 (.inr ⟨rfl,rfl⟩) (n+16)) fun J1 T O M' B' p hr=> ?_
 have hc:(lv (cc X) (n+78)).ev (ah X 812 (eL k (vP as))) σ (k1 X)=some (.ok (.inst ag J1.length) (J1++[aa.dct (bb (vI (eN as)) T O M' B')])):=
  ki ac (gg (name:="_unsafe_resize") (args:=[ch (k1 X) 1]) (fv:= .ref 800) (first:=[.inst ag k]) (vs:=[.v (vP as)]) rfl ac (aT rfl ac rfl)
   (jl hv.at_ ac ⋯) ac (kA ac (bx ay (aT rfl ac rfl))) (eJ (xs:=[.inst ag k,vP as]) ⋯ hr))
 refine⟨_,_,T,O,M',B',p.trans (Gm _ _),bo (a:=812) (binds:=[("self",.inst ag k),("arg",vP as)]) (so:= .ok (.ret (.inst ag J1.length)) (ah X 812 (eL k (vP as))) (J1++[aa.dct (bb (vI (eN as)) T O M' B')])) ⋯ ⋯ ac ?_ rfl,cB⟩
 rw[show aB X 812=[St X 812 0,St X 812 1]from rfl]
 exact ab s0 (ao (du rfl hc))
theorem yr(hv:eF σ k ss ts o M B)(hl:ss.length≤4)(hal:as.length≤900)(h:(lS ss as&&(as.length:Int)==(ss.length:Int))=false)(n:Nat):cV ((lv (cc X) (n+80)).cf σ 812 [.inst ag k,vP as] []) σ:=by
 have t:=Cj (X:=X) (as:=as) hv (bf ‹_› (by exact ac)) hal (n+58)
 rw[h]at t;have s0:aR (cc X) (lv (cc X) (n+78)) (ah X 812 (eL k (vP as))) σ (St X 812 0)=some (.exc "AssertionError" (ah X 812 (eL k (vP as))) σ):=ci (v:=false) rfl t
 refine⟨"AssertionError",σ,.inl rfl,Gu _,bo (a:=812) (binds:=[("self",.inst ag k),("arg",vP as)]) ⋯ ⋯ ac (so:= .exc "AssertionError" (ah X 812 (eL k (vP as))) σ) ?_ rfl⟩
 rw[show aB X 812=[St X 812 0,St X 812 1]from rfl]
 exact bM s0
noncomputable abbrev fW(k:Nat)(arg:V):List (Str×V):=[("new_shape",arg),("self",.inst ag k)]
variable {xs:List Int}
noncomputable abbrev x0(X:Xp):=sx (St X 817 0) 0
theorem EQ(hv:eF σ k ss ts o M B)(hl:ss.length≤900)(ha:xs.length≤900)(n:Nat):(lv (cc X) (n+20)).tr (ah X 817 (fW k (vI xs))) σ (x0 X)=some (.ok (!((xs.length:Int)==(ss.length:Int))) σ):=by
 have e1:((xs.map V.int).length:Int)=xs.length:=by rw[Gk]
 have e2:((ss.map V.int).length:Int)=ss.length:=by rw[Gk]
 rw[←e1,←e2]
 exact bw rfl ay (kq rfl rfl rfl ac ay (aT rfl ac rfl) (by rw[Gk];exact bf ‹_› (by exact ac)))
  (kq rfl rfl rfl ac ay (ba rfl ac rfl rfl hv.at_ rfl rfl) (by rw[Gk];exact bf ‹_› (by exact ac))) rfl
theorem Fw(hv:eF σ k ss ts o M B)(hp: ∀s∈ss,1≤s)(n:Nat):aR (cc X) (lv (cc X) (n+20)) (ah X 817 (fW k (vI xs))) σ (St X 817 1)=some (.ok .next (ah X 817 (fW k (vI xs))) σ):=by
 refine dq rfl (bw rfl ay rfl (ba rfl ac rfl rfl hv.at_ rfl rfl) ?_) rfl
 rw[kK]
 have:ss.any (· ==0)=false:=G5.mpr fun x hx q=>by
  have:=hp x hx
  have q:x=0:=by simpa using q
  exact xne ‹_› ‹_›
 exact congrArg _ (by assumption)
noncomputable abbrev x2(X:Xp):=sx (St X 817 2) 0
noncomputable def kg(ss xs ts:List Int):Bool:=(ss.zip (xs.zip ts)).all fun p=>(p.1==p.2.1)||((p.1==1)&&(p.2.2==0))
theorem EX(hv:eF σ k ss ts o M B)(hl:ss.length≤900)(hx:xs.length=ss.length)(n:Nat):(lv (cc X) (n+20)).tr (ah X 817 (fW k (vI xs))) σ (x2 X)=some (.ok (kg ss xs ts) σ):=by
 have e:=hv.lt
 exact dn ac (iw (S:=fun u_=>True) (x:= .it (.zip [.seq (ss.map V.int) 0,.seq (xs.map V.int) 0,.seq (ts.map V.int) 0])) (t:= .zip [.seq (ss.map V.int) 0,.seq (xs.map V.int) 0,.seq (ts.map V.int) 0]) (as:=ss.zip (xs.zip ts)) (f:=fun p=> .tup [.int p.1,.int p.2.1,.int p.2.2]) (b:=fun p=>[("st",.int p.2.2),("x",.int p.2.1),("s",.int p.1)]) (F:=fun p=> .bool ((p.1==p.2.1)||((p.1==1)&&(p.2.2==0)))) rfl ⋯ rfl
  (nQ (x:=vI ss) (y:=vI xs) (z:=vI ts) ⋯ rfl rfl ⋯ ac ⋯ ay ay ay (ba (x:="shape") ⋯ ac rfl rfl hv.at_ rfl rfl) (aT (x:="new_shape") rfl ac rfl) (ba (x:="strides") ⋯ ac rfl rfl hv.at_ rfl rfl) rfl rfl rfl) rfl trivial
  (f9 (ai _ _) (ai _ _) (ai _ _) ((F3 ‹_›)) ((F3 ‹_›))) (by rw[Go];exact rR ‹_› (by exact ac)) (fun p u_ own=>⟨by kernel_rfl,Da rfl rfl (fun u_=>q9 ⋯ rfl (fun u_=>rfl))⟩) (fun u_ u_=>rfl)) rfl
theorem Cw{x y:Int×Int}(he:e= .IfExp (ch e 0) (ch e 1) (ch e 2) (ps e))(h0:(lv c n).tr en σ (ch e 0)=some (.ok b σ))(h1:b=true→(lv c n).ev en σ (ch e 1)=some (.ok (pP x) σ))(h2:b=false→(lv c n).ev en σ (ch e 2)=some (.ok (pP y) σ)):(lv c (n+1)).ev en σ e=some (.ok (pP (bif b then x else y)) σ):=by
 rw[CT he h0 h1 h2];cases b<;>rfl
noncomputable def pO(ms:List (Int×Int))(ss xs:List Int):List (Int×Int):=(ms.zip (ss.zip xs)).map fun p=>bif !(p.2.1==p.2.2)then(bif !((p.1.1==0)&&((p.1.2==1)&&true))then(0,0)else(0,p.2.2))else p.1
theorem t7(hv:eF σ k ss ts o (vP ms) B)(hl:ss.length≤900)(h0:ss≠[])(hm:ms.length=ss.length)(hx:xs.length=ss.length)(n:Nat): ∃ext:Sg,aR (cc X) (lv (cc X) (n+24)) (ah X 817 (fW k (vI xs))) σ (St X 817 3)=some (.ok .next (ah X 817 (("mask",vP (pO ms ss xs))::fW k (vI xs))) (σ++ext)):=by
 refine⟨_,cb (x:="mask") (xp:=ps (sx (St X 817 3) 1)) rfl ac ac (sC rfl (dn ac (ba (x:="mask") (y:=vP ms) rfl ac rfl rfl hv.at_ rfl rfl) ?_)
  (tT (as:=ms.zip (ss.zip xs)) (F:=fun p=>bif !(p.2.1==p.2.2)then(bif !((p.1.1==0)&&((p.1.2==1)&&true))then(0,0)else(0,p.2.2))else p.1) rfl rfl rfl ac ay (by rw[Go];exact EW ‹_› ‹_› (by exact ac))
   (bN (S:=fun u_=>True) (x:= .it (.zip [.seq (ms.map pP) 0,.seq (ss.map V.int) 0,.seq (xs.map V.int) 0])) (t:= .zip [.seq (ms.map pP) 0,.seq (ss.map V.int) 0,.seq (xs.map V.int) 0]) (as:=ms.zip (ss.zip xs)) (f:=fun p=> .tup [pP p.1,.int p.2.1,.int p.2.2]) (b:=fun p=>[("ns",.int p.2.2),("s",.int p.2.1),("m",pP p.1)]) (P:=fun u_=>True) ⋯ rfl ⋯
    (nQ (x:=vP ms) (y:=vI ss) (z:=vI xs) ⋯ rfl rfl ⋯ ⋯ ⋯ ⋯ ⋯ ⋯ (ba (x:="mask") ⋯ ac rfl rfl hv.at_ rfl rfl) (ba (x:="shape") ⋯ ac rfl rfl hv.at_ rfl rfl) (aT (x:="new_shape") ⋯ ac rfl) rfl rfl rfl) rfl (fun u_=>trivial)
    (f9 (ai _ _) (ai _ _) (ai _ _) (by assumption) (F1 ‹_› (F3 ‹_›))) (by rw[Go];exact Es ‹_› ‹_› (by exact ac)) trivial (fun p hp own acc u_=>⟨trivial,by kernel_rfl,Cw (b:= !(p.2.1==p.2.2)) (x:=bif !((p.1.1==0)&&((p.1.2==1)&&true))then(0,0)else(0,p.2.2)) (y:=p.1) ⋯ (bw (op:= .NotEq) (J2:=σ++[aa.lst acc]) (x:= .int p.2.1) (y:= .int p.2.2) ⋯ ⋯ ⋯ ⋯ rfl)
     (fun u_=>Cw ⋯ (bw (op:= .NotEq) (J2:=σ++[aa.lst acc]) (x:=pP p.1) (y:=pP (0,1)) ⋯ ⋯ ⋯ ⋯ rfl) (fun u_=>by kernel_rfl) (fun u_=>by kernel_rfl)) (fun u_=>by kernel_rfl)⟩))))⟩
 rw[fA (by rw[Gk];exact dB ‹_› ‹_› (by exact ac))]
 cases ms with
 |nil=>exact absurd (GL hm.symm) h0
 |cons=>rfl
theorem uk(hv:eF σ k ss ts o .none B)(n:Nat):aR (cc X) (lv (cc X) (n+24)) (ah X 817 (fW k (vI xs))) σ (St X 817 3)=some (.ok .next (ah X 817 (("mask",.none)::fW k (vI xs))) σ):=
 cb rfl ac ac (ua rfl (dn ac (ba rfl ac rfl rfl hv.at_ rfl rfl) rfl) rfl)
end
section
variable {X:Xp}{own:List (Str×V)}{S M Mk:V}{ts xs:List Int}{o:Int}{as ms:List (Int×Int)}
noncomputable abbrev x4(X:Xp):=sx (St X 817 4) 0
theorem ES{own:List (Str×V)}(hs:own.lookup ("self":Str)=some (.inst ag k))(hx:own.lookup ("new_shape":Str)=some (vI xs))(hm:own.lookup ("mask":Str)=some Mk)(hv:eF σ k ss ts o M B)(n:Nat):dX (lv (cc X) (n+20)).iv (ah X 817 own) σ [ch (x4 X) 1,ch (x4 X) 2,ch (x4 X) 3,ch (x4 X) 4]=some (.ok ([vI xs,vI ts,.int o,Mk].map .v) σ):=
 aL ac (bx ay (aT rfl ac hx)) (aL ac (bx ay (ba rfl ac hs rfl hv.at_ rfl rfl))
  (aL ac (bx ay (ba rfl ac hs rfl hv.at_ rfl rfl)) (aL ac (bx ay (aT rfl ac hm)) fV)))
theorem vy(h:PB 2000 ms)(hx:IB 1000 xs):PB 2000 (pO ms ss xs):=by
 intro p hp;unfold pO at hp;refine aK (GA.mp hp) fun q hq zz2=> ?_;subst zz2;have a:=h _ (Gr hq).1;have b:=hx _ (Gr (Gr hq).2).2
 cases !(q.2.1==q.2.2)with
 |false=>exact a
 |true=>
  cases !((q.1.1==0)&&((q.1.2==1)&&true))with
  |true=>exact⟨show(0:Int).natAbs≤2000 by exact HD _,show(0:Int).natAbs≤2000 by exact HD _⟩
  |false=>exact⟨show(0:Int).natAbs≤2000 by exact HD _,Hu b (by exact HB ..)⟩
theorem yI(hv:eF σ k ss ts o M B)(hl:ss.length≤4)(h0:ss≠[])(hs: ∀s∈ss,1≤s∧s≤100)(hx:IB 1000 xs)(hxl:xs.length≤900)(n:Nat):
 (xs.length=ss.length→kg ss xs ts=true→(∀x∈xs,0≤x)→gy ((lv (cc X) (n+80)).cf σ 817 [.inst ag k,vI xs] []) σ xs)∧
 ((xs.length≠ss.length∨kg ss xs ts=false∨ ∃x∈xs,x<0)→cV ((lv (cc X) (n+80)).cf σ 817 [.inst ag k,vI xs] []) σ):=by
 have hB:aB X 817=[St X 817 0,St X 817 1,St X 817 2,St X 817 3,St X 817 4]:=rfl
 have fin: ∀so o,(lv (cc X) (n+79)).exs (ah X 817 (fW k (vI xs))) σ [St X 817 0,St X 817 1,St X 817 2,St X 817 3,St X 817 4]=some so→ir so=some o→(lv (cc X) (n+80)).cf σ 817 [.inst ag k,vI xs] []=some o:=fun so o h1 h2=>bo (a:=817) (binds:=[("self",.inst ag k),("new_shape",vI xs)]) ⋯ ⋯ ac (hB▸h1) h2
 have t0:=EQ (X:=X) (xs:=xs) hv (bf ‹_› (by exact ac)) hxl (n+58)
 by_cases hq:xs.length=ss.length
 ·rw[hq,beq_self_eq_true]at t0;have s0:aR (cc X) (lv (cc X) (n+78)) (ah X 817 (fW k (vI xs))) σ (St X 817 0)=some (.ok .next (ah X 817 (fW k (vI xs))) σ):=dq rfl t0 rfl;have s1:=Fw (X:=X) (xs:=xs) hv (fun s h=>(hs s h).1) (n+58)
  have t2:=EX (X:=X) hv (bf ‹_› (by exact ac)) hq (n+58)
  cases hg:kg ss xs ts with
  |false=>
   rw[hg]at t2
   refine⟨(fun u_ q=>by exact bI q),fun u_=>⟨"AssertionError",σ,.inl rfl,Gu _,fin _ _ (ab s0 (ab s1 (bM (ci (v:=false) rfl t2)))) rfl⟩⟩
  |true=>
   rw[hg]at t2;have s2:aR (cc X) (lv (cc X) (n+78)) (ah X 817 (fW k (vI xs))) σ (St X 817 2)=some (.ok .next (ah X 817 (fW k (vI xs))) σ):=ci (v:=true) rfl t2
   have x0:xs≠[]:=fun q=>h0 (GL (by rw[←hq,q];rfl))
   have key: ∃(Mk:V) (ext:Sg),(Mk= .none∨ ∃ms,Mk=vP ms∧ms.length=ss.length∧PB 2000 ms)∧aR (cc X) (lv (cc X) (n+78)) (ah X 817 (fW k (vI xs))) σ (St X 817 3)=some (.ok .next (ah X 817 (("mask",Mk)::fW k (vI xs))) (σ++ext)):=by
    rcases hv.mq with rfl|⟨ms,rfl,lm,pb⟩
    ·exact⟨.none,[],.inl rfl,by rw[Gz];exact uk (X:=X) hv (n+54)⟩
    ·refine dm fun kk=> ?_
     refine oE (t7 (X:=X) hv (bf ‹_› (by exact ac)) h0 lm hq (n+54)) fun ext h=> ?_<;>(refine kk ?_;clear kk)
     exact⟨_,ext,.inr ⟨_,rfl,by unfold pO;rw[Gk,Go,Go];exact m3 ‹_› ‹_›,vy pb hx⟩,h⟩
   refine bc key fun Mk ext hM s3=> ?_;have fM:=hv.app (Gm σ ext);have iv:=ES (X:=X) (own:=("mask",Mk)::fW k (vI xs)) rfl rfl rfl fM (n+57)
   have ib': ∀t∈ts,t.natAbs≤2^30:=fun t q=>Hu (hv.ib t q) (by decide)
   by_cases hp: ∀x∈xs,0≤x
   ·refine⟨fun u_ u_ u_=> ?_,fun h=> ?_⟩
    ·have:=kF (X:=X) (σ:=σ++ext) (ss:=xs) (T:=vI ts) (o:=o) (M:=Mk) ⟨by exact dB ‹_› ‹_› (by exact ac),fun s q=>hx s q⟩ x0 hp (.inr ⟨ts,rfl,by have:=hv.lt;exact F1 ‹_› (F3 ‹_›),hM.imp id fun⟨ms,e,l,q⟩=>⟨ms,e,by exact F1 ‹_› (F3 ‹_›),ib',fun m hm=>Hu (q m hm).1 (by decide)⟩⟩) (n+25)
     have:=jd (X:=X) (own:=("mask",Mk)::fW k (vI xs)) (e:=x4 X) (a:=817) (args:=[ch (x4 X) 1,ch (x4 X) 2,ch (x4 X) 3,ch (x4 X) 4]) (xs:=[vI xs,vI ts,.int o,Mk]) rfl ac rfl iv (Gu _) this;refine gb this fun J1 T O M' B' p hr=> ?_;exact⟨_,_,T,O,M',B',((Gm σ ext).trans p).trans (Gm _ _),fin _ _ (ab s0 (ab s1 (ab s2 (ab s3 (ao (du rfl hr)))))) rfl,cB⟩
    ·refine dm fun kk=> ?_
     rcases h with h|h|⟨x,h1,h2⟩<;>(refine kk ?_;clear kk)
     ·exact absurd hq h
     ·exact B7 h
     ·exact absurd (hp x h1) (by omega)
   ·have hp': ∃x∈xs,x<0:=by
     apply F0;intro h;refine hp fun x hx=> ?_;apply F0;intro h'
     exact h ⟨x,hx,by exact Int.not_le.mp ‹_›⟩
    refine⟨fun u_ u_ h=>absurd h hp,fun u_=> ?_⟩
    have:=oF (X:=X) (σ:=σ++ext) (ss:=xs) (T:=vI ts) (o:=o) (M:=Mk) (by assumption) hp' (n+25)
    have:=kb (own:=("mask",Mk)::fW k (vI xs)) (e:=x4 X) (a:=817) (args:=[ch (x4 X) 1,ch (x4 X) 2,ch (x4 X) 3,ch (x4 X) 4]) (xs:=[vI xs,vI ts,.int o,Mk]) rfl ac rfl iv this;exact⟨"ValueError",_,.inr rfl,Gm σ ext,fin _ _ (ab s0 (ab s1 (ab s2 (ab s3 (bM (iR rfl this)))))) rfl⟩
 ·as_aux_lemma=>
   have e:((xs.length:Int)==(ss.length:Int))=false:=beq_eq_false_iff_ne.mpr (by omega)
   rw[e]at t0;refine⟨fun h=>absurd h hq,fun u_=>⟨"ValueError",σ,.inr rfl,Gu _,fin _ _ (bM (en':=ah X 817 (fW k (vI xs))) (J1:=σ) (eM rfl t0 rfl)) rfl⟩⟩
end
section
section
theorem m5{l:List Int}(h:l.length<64):aH c cf σ (.builtin "sorted") [.v (vI l)] []=some (.ok (.v (.lst σ.length)) (σ++[aa.lst ((cm l).map V.int)])):=by
 have e:aH c cf σ (.builtin "sorted") [.v (vI l)] []=(n0 σ (vI l)).map fun l=> .ok (.v (.lst σ.length)) (σ++[aa.lst l]):=rfl
 have e2:cO (l.map V.int)=some l:=by
  have:=iL (F:=id) l;simpa using this
 rw[e]
 show(if _ then _ else none:Option _).map _=_
 rw[if_pos (by rw[Gk];exact h),e2]
 rfl
noncomputable abbrev ez(n:Nat):List Int:=(Gs n).map fun(i:Nat)=>(i:Int)
theorem j7(h:n≤4):aH c cf σ (.type "list") [.v (.rng 0 (n:Int) 1)] []=some (.ok (.v (.lst σ.length)) (σ++[aa.lst ((ez n).map V.int)])):=
 qt (P:=fun(n:Nat)=>aH c cf σ (.type "list") [.v (.rng 0 (n:Int) 1)] []=some (.ok (.v (.lst σ.length)) (σ++[aa.lst ((ez n).map V.int)]))) rfl rfl rfl rfl rfl n (H1 h)
theorem fq(n:Nat): ∀(a b:List Int),a.length<n→dK σ n (a.map V.int) (b.map V.int)=some (a==b):=by
 induction n with
 |zero=>exact fun u_ u_ h=>absurd h (HL _)
 |succ n ih=>
  intro a b h
  cases a with
  |nil=>cases b<;>rfl
  |cons x a=>
  cases b with
  |nil=>rfl
  |cons y b=>
   have ht:=ih a b (HN h)
   cases n with
   |zero=>exact absurd (HN h) (HL _)
   |succ n=>
    show((some (x==y)).bind fun p=>(dK σ (n+1) (a.map V.int) (b.map V.int)).map fun q=>p&&q)=_;rw[ht];rfl
theorem vc{a b:List Int}(hj:σ[j]? =some (aa.lst (a.map V.int)))(hk:σ[k]? =some (aa.lst (b.map V.int)))(h:a.length<190):ed σ .Eq (.lst j) (.lst k)=some (a==b):=by
 show mj σ 200 (.lst j) (.lst k)=_
 have:mj σ 200 (.lst j) (.lst k)=if(a.map V.int).length=(b.map V.int).length then dK σ 199 (a.map V.int) (b.map V.int)else some false:=by
  refine(?_:(aG σ j).bind (fun a=>(aG σ k).bind fun b=>if a.length=b.length then dK σ 199 a b else some false)=_)
  rw[aN hj,aN hk];rfl
 refine(this).symm▸ ?_
 by_cases q:(a.map V.int).length=(b.map V.int).length
 ·rw[if_pos q,fq 199 a b (Dh ‹_› (by exact ac))]
 ·refine(if_neg q).symm▸ ?_
  have:a≠b:=fun h=>q (by rw[h])
  rw[beq_eq_false_iff_ne.mpr this]
theorem wK{a b:List Int}(h:a.length<190):ed σ .Eq (vI a) (vI b)=some (a==b):=fq 199 a b (Dh ‹_› (by exact ac))
end
noncomputable def eW(n:Nat)(ax:List Int):Bool:=cm ax==ez n
theorem eW.mem{ax:List Int}(h:eW n ax=true):ax.length=n∧ ∀a∈ax,0≤a∧a.toNat<n:=by
 have e:cm ax=ez n:=Gj h
 refine⟨by rw[←(dE ax).length_eq,e,Gk,GQ],fun a ha=> ?_⟩
 have:=(dE ax).mem_iff.mpr ha;rw[e]at this;refine aK (GA.mp this) fun i hi zz2=> ?_;subst zz2;have:=Hg.mp hi;exact j0 ‹_›
variable {X:Xp}{own:List (Str×V)}{S M Mk:V}{ts xs ax:List Int}{o:Int}{as ms:List (Int×Int)}
noncomputable abbrev km(k:Nat)(arg:V):List (Str×V):=[("axis",arg),("self",.inst ag k)]
noncomputable abbrev q0(X:Xp):=sx (St X 824 0) 0
theorem Ct(hv:eF σ k ss ts o M B)(hl:ss.length≤4)(ha:ax.length≤60)(n:Nat):(lv (cc X) (n+20)).tr (ah X 824 (km k (vI ax))) σ (q0 X)=some (.ok (eW ss.length ax) (σ++[aa.lst ((cm ax).map V.int)]++[aa.lst ((ez ss.length).map V.int)])):=by
 have e2:((ss.map V.int).length:Int)=ss.length:=by rw[Gk]
 have fM:=hv.app (Gm σ [aa.lst ((cm ax).map V.int)])
 refine bw (op:= .Eq) (J2:=σ++[aa.lst ((cm ax).map V.int)]) (x:= .lst σ.length) (y:= .lst (σ++[aa.lst ((cm ax).map V.int)]).length) rfl ay (bJ (x:="sorted") (fv:= .builtin "sorted") (v:= .v (vI ax)) (J2:=σ) rfl rfl rfl ac (bx ay (aT (x:="axis") rfl ac rfl)) (m5 (fD ‹_› (by exact ac))))
  (bJ (x:="list") (fv:= .type "list") (v:= .v (.rng 0 (ss.length:Int) 1)) (J2:=σ++[aa.lst ((cm ax).map V.int)]) rfl rfl rfl ac (yz ac (bJ (x:="range") (fv:= .type "range") (v:= .v (.int (ss.length:Int))) (J2:=σ++[aa.lst ((cm ax).map V.int)]) rfl rfl rfl ac
   (yz ac (e2▸kq (l:=ss.map V.int) ⋯ ⋯ rfl ⋯ ⋯ (ba (x:="shape") ⋯ ac rfl rfl fM.at_ rfl rfl) (by rw[Gk];exact bf ‹_› (by exact ac)))) rfl)) (j7 hl))
  (vc (bX (by exact GG)) (by exact GG) (by rw[(dE ax).length_eq];exact fD ‹_› (by exact ac)))
theorem kD{l:List α}{d:α}{f:α→V}{i:Int}(h0:0≤i)(h:i.toNat<l.length)(hl:l.length≤900):gn σ (.tup (l.map f)) i=some (f (l.getD i.toNat d)):=by
 refine oE (Int.eq_ofNat_of_zero_le h0) fun j zz1=> ?_;subst zz1
 have hj:j<l.length:=by simpa using h
 exact ja (by rw[GM,GB hj];simp[GP,hj]) (Ch ‹_› ‹_› (by exact ac))
noncomputable abbrev q1(X:Xp)(i:Nat):=ch (sx (St X 824 1) 0) i
theorem ER(hv:eF σ k ss ts o M B)(hl:ss.length≤4)(hp: ∀a∈ax,0≤a∧a.toNat<ss.length)(ha:ax.length≤60)(n:Nat):(lv (cc X) (n+20)).ev (ah X 824 (km k (vI ax))) σ (q1 X 1)=some (.ok (vI (ax.map fun a=>ss.getD a.toNat 0)) σ):=by
 have:=g_ (c:=cc X) (n:=n+19) (e:=q1 X 1) (σ:=σ) (en:=ah X 824 (km k (vI ax))) (S:=fun u_=>True) (t:= .seq (ax.map V.int) 0) (as:=ax) (f:=V.int) (b:=fun a=>[("a",.int a)]) (F:=fun a=> .int (ss.getD a.toNat 0)) ⋯ ⋯ rfl (bx ay (aT rfl ac rfl)) rfl trivial (ai _ _) (fD ‹_› (by exact ac))
  (fun a ha own=>⟨by kernel_rfl,cW (i:=a) ⋯ ⋯ (iS (name:="shape") ⋯ ⋯ ⋯ (ow rfl hv.at_ rfl rfl)) ⋯ (kD (hp a ha).1 (hp a ha).2 (bf ‹_› (by exact ac)))⟩) (fun u_ u_=>rfl)
 rw[this,vI,GK];rfl
theorem EH(hv:eF σ k ss ts o M B)(hl:ss.length≤4)(hp: ∀a∈ax,0≤a∧a.toNat<ss.length)(ha:ax.length≤60)(n:Nat):(lv (cc X) (n+20)).ev (ah X 824 (km k (vI ax))) σ (q1 X 2)=some (.ok (vI (ax.map fun a=>ts.getD a.toNat 0)) σ):=by
 have e:=hv.lt
 have:=g_ (c:=cc X) (n:=n+19) (e:=q1 X 2) (σ:=σ) (en:=ah X 824 (km k (vI ax))) (S:=fun u_=>True) (t:= .seq (ax.map V.int) 0) (as:=ax) (f:=V.int) (b:=fun a=>[("a",.int a)]) (F:=fun a=> .int (ts.getD a.toNat 0)) ⋯ ⋯ rfl (bx ay (aT rfl ac rfl)) rfl trivial (ai _ _) (fD ‹_› (by exact ac))
  (fun a ha own=>⟨by kernel_rfl,cW (i:=a) ⋯ ⋯ (iS (name:="strides") ⋯ ⋯ ⋯ (ow rfl hv.at_ rfl rfl)) ⋯ (kD (hp a ha).1 (by have:=(hp a ha).2;exact HK ‹_› (F3 ‹_›)) (dB ‹_› ‹_› (by exact ac)))⟩) (fun u_ u_=>rfl)
 rw[this,vI,GK];rfl
theorem EI(hv:eF σ k ss ts o M B)(hl:ss.length≤4)(hp: ∀a∈ax,0≤a∧a.toNat<ss.length)(hal:ax.length=ss.length)(n:Nat): ∃Mk,(Mk= .none∨ ∃ms,Mk=vP ms∧ms.length=ss.length∧PB 2000 ms)∧(lv (cc X) (n+22)).ev (ah X 824 (km k (vI ax))) σ (q1 X 4)=some (.ok Mk σ):=by
 rcases hv.mq with rfl|⟨ms,rfl,lm,pb⟩
 ·exact⟨.none,.inl rfl,ua (n:=n+21) (J2:=σ) rfl (bw (n:=n+20) (op:= .IsNot) (J2:=σ) (x:=V.none) (y:= .none) ⋯ ay (ba (n:=n+18) (x:="mask") ⋯ ac rfl rfl hv.at_ rfl rfl) rfl rfl) rfl⟩
 ·have:=g_ (c:=cc X) (n:=n+20) (e:=ch (q1 X 4) 1) (σ:=σ) (en:=ah X 824 (km k (vI ax))) (S:=fun u_=>True) (x:= .v (vI ax)) (t:= .seq (ax.map V.int) 0) (as:=ax) (f:=V.int) (b:=fun a=>[("a",.int a)]) (F:=fun a=>pP (ms.getD a.toNat (0,0))) ⋯ ⋯ rfl (bx (n:=n+19) ⋯ (aT (x:="axis") ⋯ ac rfl)) rfl trivial (ai _ _) (Ee ‹_› ‹_› (by exact ac))
   (fun a ha own=>⟨by kernel_rfl,cW (x:=vP ms) (i:=a) (J2:=σ) ⋯ ⋯ (iS (name:="mask") (x:= .inst ag k) ⋯ ⋯ ⋯ (ow (x:="mask") rfl hv.at_ rfl rfl)) ⋯ (kD (hp a ha).1 (by have:=(hp a ha).2;exact HK ‹_› (F3 ‹_›)) (dB ‹_› ‹_› (by exact ac)))⟩) (fun u_ u_=>rfl)
  refine⟨vP (ax.map fun a=>ms.getD a.toNat (0,0)),.inr ⟨_,rfl,by rw[Gk];exact hal,?_⟩,sC (J2:=σ) rfl (bw (op:= .IsNot) (J2:=σ) (x:=vP ms) (y:= .none) rfl ay (ba (x:="mask") ⋯ ac rfl rfl hv.at_ rfl rfl) rfl rfl) ?_⟩
  ·intro p hp';refine aK (GA.mp hp') fun a ha zz2=> ?_;subst zz2;have h2:=(hp a ha).2;rw[GP,GB (HK ‹_› (F3 ‹_›))];exact pb _ (GN _)
  ·rw[this,vP,GK];rfl
theorem wU(hv:eF σ k ss ts o M B)(hl:ss.length≤4)(h0:ss≠[])(hs: ∀s∈ss,1≤s∧s≤100)(hal:ax.length≤60)(h:eW ss.length ax=true)(n:Nat):gy ((lv (cc X) (n+80)).cf σ 824 [.inst ag k,vI ax] []) σ (ax.map fun a=>ss.getD a.toNat 0):=by
 have t:=Ct (X:=X) (ax:=ax) hv hl hal (n+58);rw[h]at t;refine oA (eW.mem h) fun h1 h2=> ?_;have s0:aR (cc X) (lv (cc X) (n+78)) (ah X 824 (km k (vI ax))) σ (St X 824 0)=some (.ok .next (ah X 824 (km k (vI ax))) _):=ci (v:=true) rfl t;have p1:σ<+:σ++[aa.lst ((cm ax).map V.int)]++[aa.lst ((ez ss.length).map V.int)]:=(Gm _ _).trans (Gm _ _);have fM:=hv.app p1;generalize σ++[aa.lst ((cm ax).map V.int)]++[aa.lst ((ez ss.length).map V.int)]=KI at s0 p1 fM;refine aK (EI (X:=X) (ax:=ax) fM hl h2 h1 (n+54)) fun Mk hM h4=> ?_
 have hg: ∀i:Int,0≤i∧i.toNat<ss.length→ss.getD i.toNat 0∈ss:=fun i hi=>by
  rw[GP,GB hi.2];exact GN _
 have hgt: ∀i:Int,0≤i∧i.toNat<ss.length→ts.getD i.toNat 0∈ts:=fun i hi=>by
  have:=hv.lt;rw[GP,GB (HK (FO ‹_›) (F3 ‹_›))];exact GN _
 have hm: ∀s∈ax.map fun a=>ss.getD a.toNat 0,1≤s∧s≤100:=fun s q=>by
  refine aK (GA.mp q) fun a ha zz2=> ?_;subst zz2;exact hs _ (hg a (h2 a ha))
 have:=kF (X:=X) (σ:=KI) (ss:=ax.map fun a=>ss.getD a.toNat 0) (T:=vI (ax.map fun a=>ts.getD a.toNat 0)) (o:=o) (M:=Mk) ⟨by rw[Gk];exact dB ‹_› ‹_› (by exact ac),fun s q=>by have:=hm s q;exact qh ‹_› (by exact ac)⟩ (fun q=>h0 (GL (by rw[←h1,←Gk (f:=fun a:Int=>ss.getD a.toNat 0),q];rfl))) (fun s q=>by have:=hm s q;exact iil ‹_› (by exact ac))
  (.inr ⟨_,rfl,by rw[Gk,Gk],hM.imp id fun⟨ms,e,l,q⟩=>⟨ms,e,by rw[Gk];exact F1 ‹_› (F3 ‹_›),fun t q'=>by refine aK (GA.mp q') fun a ha zz2=> ?_;subst zz2;exact Hu (hv.ib _ (hgt a (h2 a ha))) (by decide),fun m hm=>Hu (q m hm).1 (by decide)⟩⟩) (n+25)
 have:=jd (own:=km k (vI ax)) (e:=sx (St X 824 1) 0) (a:=824) (args:=[q1 X 1,q1 X 2,q1 X 3,q1 X 4]) (xs:=[vI (ax.map fun a=>ss.getD a.toNat 0),vI (ax.map fun a=>ts.getD a.toNat 0),.int o,Mk]) rfl ac rfl
  (aL ac (yz ac (ER fM hl h2 hal (n+57))) (aL ac (yz ac (EH fM hl h2 hal (n+57))) (aL ac (bx ay (ba rfl ac rfl rfl fM.at_ rfl rfl)) (aL ac (bx ay h4) fV)))) (Gu _) this
 refine gb this fun J1 T O M' B' p hr=> ?_
 refine⟨_,_,T,O,M',B',(p1.trans p).trans (Gm _ _),bo (a:=824) (binds:=[("self",.inst ag k),("axis",vI ax)]) (so:= .ok (.ret (.inst ag J1.length)) (ah X 824 (km k (vI ax))) (J1++[aa.dct (bb (vI (ax.map fun a=>ss.getD a.toNat 0)) T O M' B')])) ⋯ ⋯ ac ?_ rfl,cB⟩
 rw[show aB X 824=[St X 824 0,St X 824 1]from rfl]
 exact ab s0 (ao (du rfl hr))
theorem xf(hv:eF σ k ss ts o M B)(hl:ss.length≤4)(hal:ax.length≤60)(h:eW ss.length ax=false)(n:Nat):cV ((lv (cc X) (n+80)).cf σ 824 [.inst ag k,vI ax] []) σ:=by
 have t:=Ct (X:=X) (ax:=ax) hv hl hal (n+58);rw[h]at t;have s0:=ci (s:=St X 824 0) (v:=false) rfl t;have p1:σ<+:σ++[aa.lst ((cm ax).map V.int)]++[aa.lst ((ez ss.length).map V.int)]:=(Gm _ _).trans (Gm _ _);generalize σ++[aa.lst ((cm ax).map V.int)]++[aa.lst ((ez ss.length).map V.int)]=KI at s0 p1
 refine⟨"AssertionError",KI,.inl rfl,p1,bo (a:=824) (binds:=[("self",.inst ag k),("axis",vI ax)]) ⋯ ⋯ ac (so:= .exc "AssertionError" (ah X 824 (km k (vI ax))) KI) ?_ rfl⟩
 rw[show aB X 824=[St X 824 0,St X 824 1]from rfl]
 exact bM s0
end
section
theorem jw(h:tr en σ e=some (.ok b σ)):bL tr en σ [e]=some (b,σ):=by
 refine BB h ?_;cases b<;>rfl
noncomputable def cA(i:Int):Int:=if i<0 then-i else i
theorem oq{a b:Int}(h0:b≠0)(hb:bG b=true):mw σ .FloorDiv (.int a) (.int b)=some (.int (a.fdiv b),σ):=by
 show(if b≠0∧bG b=true then some (a.fdiv b)else none).map _=_
 rw[if_pos ⟨h0,hb⟩];rfl
variable {X:Xp}{own:List (Str×V)}{S M Mk:V}{ts xs mu:List Int}{o:Int}{as ms:List (Int×Int)}
noncomputable def nz(mu:List Int):Bool:=mu.all fun m=> !(m==0)
theorem DC(ha:mu.length≤900)(n:Nat):(lv (cc X) (n+20)).tr (ah X 829 [("mul",vI mu),("self",.inst ag k)]) σ (sx (St X 829 0) 0)=some (.ok (nz mu) σ):=
 dn ac (iw (S:=fun u_=>True) (t:= .seq (mu.map V.int) 0) (as:=mu) (f:=V.int) (b:=fun p=>[("x",.int p)]) (F:=fun p=> .bool (!(p==0))) rfl ⋯ rfl
  (bx ay (aT rfl ac rfl)) rfl trivial (ai _ _) (fD ‹_› (by exact ac)) (fun p u_ own=>⟨by kernel_rfl,by kernel_rfl⟩) (fun u_ u_=>rfl)) rfl
noncomputable def rh(mu:List Int):Prop:= ∀m∈mu,m≠0∧m.natAbs≤10
theorem tj{as:List α}{F:α→Int}(he:e= .Call (.Name ("tuple":Str) (ps (ch e 0))) [ch e 1] [] (ps e))(hg:cG [ch e 1]=none)(hx:aP c en "tuple"=some (.val (.type "tuple")))(hc:(ak [ch e 1]&&bK c.K (.type "tuple"))=true)(hi:aV (ch e 1)=false)(hl:as.length≤900)
 (h1:(lv c n).ev en σ (ch e 1)=some (.ok (.lst σ.length) (σ++[aa.lst (as.map fun a=>V.int (F a))]))):(lv c (n+2)).ev en σ e=some (.ok (vI (as.map F)) (σ++[aa.lst (as.map fun a=>V.int (F a))])):=by
 have:=vM he hg hx hc hi h1 (by rw[Gk];exact bf ‹_› (by exact ac))
 rw[this,vI,GK];rfl
noncomputable def iz(ts mu:List Int):List Int:=(ts.zip mu).map fun p=>p.1*p.2
theorem Fo(hs:own.lookup ("self":Str)=some (.inst ag k))(hu:own.lookup ("mul":Str)=some (vI mu))(hv:eF σ k ss ts o M B)(hl:ss.length≤900)(hm:rh mu)(n:Nat): ∃ext:Sg,aR (cc X) (lv (cc X) (n+20)) (ah X 829 own) σ (St X 829 1)=some (.ok .next (ah X 829 (("strides",vI (iz ts mu))::own)) (σ++ext)):=by
 have e:=hv.lt
 exact⟨_,cb (x:="strides") (xp:=ps (sx (St X 829 1) 1)) rfl ac ac (tj (as:=ts.zip mu) (F:=fun p=>p.1*p.2) rfl rfl rfl ac ay (by rw[Go];exact EW ‹_› ‹_› (by exact ac))
  (bN (S:=fun u_=>True) (x:= .it (.zip [.seq (ts.map V.int) 0,.seq (mu.map V.int) 0])) (t:= .zip [.seq (ts.map V.int) 0,.seq (mu.map V.int) 0]) (as:=ts.zip mu) (f:=fun p=> .tup [.int p.1,.int p.2]) (b:=fun p=>[("m",.int p.2),("z",.int p.1)]) (P:=fun u_=>True) rfl rfl ⋯
   (eB (x:=vI ts) (y:=vI mu) ⋯ rfl rfl ⋯ ay ay (ba (x:="strides") ⋯ ac hs rfl hv.at_ rfl rfl) (aT rfl ac hu) rfl rfl) rfl (fun u_=>trivial)
   (aZ (ai _ _) (ai _ _)) (by rw[Go];exact Es ‹_› ‹_› (by exact ac)) trivial (fun p hp own acc u_=>⟨trivial,by kernel_rfl,cE rfl ⋯ rfl (gE (be (hv.ib _ (Gr hp).1) (by decide)) (be (hm _ (Gr hp).2).2 (by decide)))⟩)))⟩
noncomputable def fb(ss mu:List Int):List Int:=(ss.zip mu).map fun p=>(p.1+(cA p.2-1)).fdiv (cA p.2)
theorem fR{m:Int}(h:m≠0∧m.natAbs≤10):cA m≠0∧bG (cA m)=true∧1≤cA m∧cA m≤10:=by
 have e:cA m=(m.natAbs:Int):=by
  unfold cA
  by_cases h:m<0
  ·rw[if_pos h];exact(Int.ofNat_natAbs_of_nonpos (Ga h)).symm
  ·rw[if_neg h];exact(Int.natAbs_of_nonneg (F7.mp h)).symm
 have p:0<m.natAbs:=Int.natAbs_pos.mpr h.1;rw[e]
 exact⟨Int.ne_of_gt (F9.mpr p),be h.2 (by decide),F_.mpr p,F_.mpr h.2⟩
theorem Ex(hs:own.lookup ("self":Str)=some (.inst ag k))(hu:own.lookup ("mul":Str)=some (vI mu))(hv:eF σ k ss ts o M B)(hl:ss.length≤900)(hm:rh mu)(n:Nat): ∃ext:Sg,aR (cc X) (lv (cc X) (n+20)) (ah X 829 own) σ (St X 829 2)=some (.ok .next (ah X 829 (("new_shape",vI (fb ss mu))::own)) (σ++ext)):=
 ⟨_,cb (x:="new_shape") (xp:=ps (sx (St X 829 2) 1)) rfl ac ac (tj (as:=ss.zip mu) (F:=fun p=>(p.1+(cA p.2-1)).fdiv (cA p.2)) rfl rfl rfl ac ay (by rw[Go];exact wP ‹_› (by exact ac))
  (bN (S:=fun u_=>True) (x:= .it (.zip [.seq (ss.map V.int) 0,.seq (mu.map V.int) 0])) (t:= .zip [.seq (ss.map V.int) 0,.seq (mu.map V.int) 0]) (as:=ss.zip mu) (f:=fun p=> .tup [.int p.1,.int p.2]) (b:=fun p=>[("m",.int p.2),("s",.int p.1)]) (P:=fun u_=>True) rfl rfl ⋯
   (eB (x:=vI ss) (y:=vI mu) ⋯ rfl rfl ⋯ ay ay (ba (x:="shape") ⋯ ac hs rfl hv.at_ rfl rfl) (aT (x:="mul") rfl ac hu) rfl rfl) rfl (fun u_=>trivial)
   (aZ (ai _ _) (ai _ _)) (by rw[Go];exact rR ‹_› (by exact ac)) trivial (fun p hp own acc u_=>⟨trivial,by kernel_rfl,cE (J2:=σ++[aa.lst acc]) rfl ⋯ ⋯ (oq (fR (hm _ (Gr hp).2)).1 (fR (hm _ (Gr hp).2)).2.1)⟩)))⟩
noncomputable abbrev j3(X:Xp):=ch (sx (St X 829 3) 0) 1
theorem FK(hs:own.lookup ("self":Str)=some (.inst ag k))(hu:own.lookup ("mul":Str)=some (vI mu))(hv:eF σ k ss ts o M B)(hl:ss.length≤900)(hml:mu.length=ss.length)(hb:IB 1000 ss)(n:Nat): ∃(z:Int) (ext:Sg),aR (cc X) (lv (cc X) (n+20)) (ah X 829 own) σ (St X 829 3)=some (.ok .next (ah X 829 (("offset",.int z)::own)) (σ++ext)):=by
 have e:=hv.lt
 refine⟨_,_,cb (x:="offset") (xp:=ps (sx (St X 829 3) 1)) rfl ac ac (vR (as:=(ss.zip (ts.zip mu)).filter fun p=>decide (p.2.2<0)) (F:=fun p=>(p.1-1)*p.2.1) rfl rfl rfl ac ay
  (jx rfl (ng (c:=cc X) (e:=j3 X) (S:=fun u_=>True) (x:= .it (.zip [.seq (ss.map V.int) 0,.seq (ts.map V.int) 0,.seq (mu.map V.int) 0])) (t:= .zip [.seq (ss.map V.int) 0,.seq (ts.map V.int) 0,.seq (mu.map V.int) 0]) (as:=ss.zip (ts.zip mu)) (f:=fun p=> .tup [.int p.1,.int p.2.1,.int p.2.2]) (b:=fun p=>[("m",.int p.2.2),("z",.int p.2.1),("s",.int p.1)]) (P:=fun u_=>True) (k:=fun p=>decide (p.2.2<0)) (F:=fun p=> .int ((p.1-1)*p.2.1)) ⋯
   (nQ (x:=vI ss) (y:=vI ts) (z:=vI mu) ⋯ rfl rfl ⋯ ac ⋯ ay ay ay (ba (x:="shape") ⋯ ac hs rfl hv.at_ rfl rfl) (ba (x:="strides") ⋯ ac hs rfl hv.at_ rfl rfl) (aT (x:="mul") rfl ac hu) rfl rfl rfl) rfl (fun u_=>trivial)
   (f9 (ai _ _) (ai _ _) (ai _ _) ((F3 ‹_›)) ((F3 ‹_›))) (by rw[Go];exact rR ‹_› (by exact ac)) trivial (fun p hp own acc u_=>⟨trivial,by kernel_rfl,?_,fun u_=> ?_⟩))))⟩
 ·rw[show d7 (j3 X)=[ch (j3 X) 3]from rfl]
  exact jw (bw (op:= .Lt) (J2:=σ++[aa.lst acc]) (x:= .int p.2.2) (y:= .int 0) rfl ay rfl rfl rfl)
 ·exact cE (op:= .Mult) (J2:=σ++[aa.lst acc]) (J6:=σ++[aa.lst acc]) (x:= .int (p.1-1)) rfl rfl rfl (gE (be (k:=1001) (by have:=hb _ (Gr hp).1;exact eD ‹_› (by exact ac)) (by decide)) (be (hv.ib _ (Gr (Gr hp).2).1) (by decide)))
noncomputable def lW(s x y m:Int):Int:=((bif decide (0<m)then x else s-y)+(cA m-1)).fdiv (cA m)
noncomputable def BA(ms:List (Int×Int))(ss mu:List Int):List (Int×Int):=(ms.zip (ss.zip mu)).map fun p=>(lW p.2.1 p.1.1 p.1.2 p.2.2,lW p.2.1 p.1.2 p.1.1 p.2.2)
theorem tq(hs:own.lookup ("self":Str)=some (.inst ag k))(hv:eF σ k ss ts o .none B)(n:Nat):aR (cc X) (lv (cc X) (n+26)) (ah X 829 own) σ (St X 829 4)=some (.ok .next (ah X 829 (("mask",.none)::own)) σ):=
 cb rfl ac ac (ua rfl (bw rfl ay (ba rfl ac hs rfl hv.at_ rfl rfl) rfl rfl) rfl)
theorem tv(hs:own.lookup ("self":Str)=some (.inst ag k))(hu:own.lookup ("mul":Str)=some (vI mu))(hv:eF σ k ss ts o (vP ms) B)(hl:ss.length≤900)(hml:mu.length=ss.length)(hms:ms.length=ss.length)(hm:rh mu)(n:Nat): ∃ext:Sg,aR (cc X) (lv (cc X) (n+26)) (ah X 829 own) σ (St X 829 4)=some (.ok .next (ah X 829 (("mask",vP (BA ms ss mu))::own)) (σ++ext)):=by
 have half: ∀(p:(Int×Int)×Int×Int) (q:p∈ms.zip (ss.zip mu)) (own:List (Str×V)) (acc:List V) (x y:Int) (e:Expr),e= .BinOp (ch e 0) .FloorDiv (ch e 1) (ps e)→ch e 0= .BinOp (ch (ch e 0) 0) .Add (ch (ch e 0) 1) (ps (ch e 0))→ch (ch e 0) 0= .IfExp (ch (ch (ch e 0) 0) 0) (ch (ch (ch e 0) 0) 1) (ch (ch (ch e 0) 0) 2) (ps (ch (ch e 0) 0))→
  ∀en:En,(lv (cc X) (n+18)).tr en (σ++[aa.lst acc]) (ch (ch (ch e 0) 0) 0)=some (.ok (decide (0<p.2.2)) (σ++[aa.lst acc]))→(lv (cc X) (n+18)).ev en (σ++[aa.lst acc]) (ch (ch (ch e 0) 0) 1)=some (.ok (.int x) (σ++[aa.lst acc]))→(lv (cc X) (n+18)).ev en (σ++[aa.lst acc]) (ch (ch (ch e 0) 0) 2)=some (.ok (.int (p.2.1-y)) (σ++[aa.lst acc]))→
  (lv (cc X) (n+19)).ev en (σ++[aa.lst acc]) (ch (ch e 0) 1)=some (.ok (.int (cA p.2.2-1)) (σ++[aa.lst acc]))→(lv (cc X) (n+20)).ev en (σ++[aa.lst acc]) (ch e 1)=some (.ok (.int (cA p.2.2)) (σ++[aa.lst acc]))→(lv (cc X) (n+21)).ev en (σ++[aa.lst acc]) e=some (.ok (.int (lW p.2.1 x y p.2.2)) (σ++[aa.lst acc])):=by
  intro p q own acc x y e h1 h2 h3 en t0 t1 t2 t3 t4;have ha:=fR (hm _ (Gr (Gr q).2).2)
  exact cE h1 (cE (x:= .int (bif decide (0<p.2.2)then x else p.2.1-y)) (y:= .int (cA p.2.2-1)) (z:= .int ((bif decide (0<p.2.2)then x else p.2.1-y)+(cA p.2.2-1))) h2 (xA h3 t0 (fun u_=>t1) (fun u_=>t2)) t3 rfl) t4 (oq ha.1 ha.2.1)
 refine⟨_,cb (x:="mask") (xp:=ps (sx (St X 829 4) 1)) rfl ac ac (sC (J2:=σ) rfl (bw (op:= .IsNot) (J2:=σ) (x:=vP ms) (y:= .none) rfl ay (ba (x:="mask") (y:=vP ms) rfl ac hs rfl hv.at_ rfl rfl) rfl rfl)
  (tT (as:=ms.zip (ss.zip mu)) (F:=fun p=>(lW p.2.1 p.1.1 p.1.2 p.2.2,lW p.2.1 p.1.2 p.1.1 p.2.2)) rfl rfl rfl ac ay (by rw[Go];exact EW ‹_› ‹_› (by exact ac))
   (bN (S:=fun u_=>True) (x:= .it (.zip [.seq (ms.map pP) 0,.seq (ss.map V.int) 0,.seq (mu.map V.int) 0])) (t:= .zip [.seq (ms.map pP) 0,.seq (ss.map V.int) 0,.seq (mu.map V.int) 0]) (as:=ms.zip (ss.zip mu)) (f:=fun p=> .tup [pP p.1,.int p.2.1,.int p.2.2]) (b:=fun p=>[("m",.int p.2.2),("s",.int p.2.1),("my",.int p.1.2),("mx",.int p.1.1)]) (P:=fun u_=>True) ⋯ rfl ⋯
    (nQ (x:=vP ms) (y:=vI ss) (z:=vI mu) ⋯ rfl rfl ⋯ ⋯ ⋯ ⋯ ⋯ ⋯ (ba (x:="mask") (y:=vP ms) ⋯ ac hs rfl hv.at_ rfl rfl) (ba (x:="shape") ⋯ ac hs rfl hv.at_ rfl rfl) (aT (x:="mul") ⋯ ac hu) rfl rfl rfl) rfl (fun u_=>trivial)
    (f9 (ai _ _) (ai _ _) (ai _ _) (by assumption) (F1 ‹_› (F3 ‹_›))) (by rw[Go];exact Es ‹_› ‹_› (by exact ac)) trivial (fun p hp own acc u_=>⟨trivial,by kernel_rfl,?_⟩))))⟩
 have key: ∀(e:Expr) (en:En),e= .Tuple [ch e 0,ch e 1] (tk (e)) (ps e)→fj (lv (cc X) (n+21)).ev en (σ++[aa.lst acc]) [ch e 0,ch e 1]=some (.ok [.int (lW p.2.1 p.1.1 p.1.2 p.2.2),.int (lW p.2.1 p.1.2 p.1.1 p.2.2)] (σ++[aa.lst acc]))→(lv (cc X) (n+22)).ev en (σ++[aa.lst acc]) e=some (.ok (pP (lW p.2.1 p.1.1 p.1.2 p.2.2,lW p.2.1 p.1.2 p.1.1 p.2.2)) (σ++[aa.lst acc])):=fun e en he h=>
  (congrArg ((lv (cc X) (n+22)).ev en (σ++[aa.lst acc])) he).trans (gI h (show 2≤2^20 by decide))
 refine key _ _ ⋯ (bA ⋯ (half p hp own acc p.1.1 p.1.2 _ ⋯ ⋯ ⋯ _ ?_ ⋯ ⋯ ⋯ ⋯) (bA ⋯ (half p hp own acc p.1.2 p.1.1 _ ⋯ ⋯ ⋯ _ ?_ ⋯ ⋯ ⋯ ⋯) gU))
 ·exact bw (op:= .Gt) (J2:=σ++[aa.lst acc]) (x:= .int p.2.2) (y:= .int 0) ⋯ ⋯ ⋯ ⋯ rfl
 ·exact bw (op:= .Gt) (J2:=σ++[aa.lst acc]) (x:= .int p.2.2) (y:= .int 0) ⋯ ⋯ ⋯ ⋯ rfl
theorem md{a b:Int}(h:1≤b):(a.fdiv b).natAbs≤a.natAbs:=by
 rw[Int.fdiv_eq_ediv_of_nonneg a (ilc ‹_› (by exact ac))]
 exact Int.natAbs_ediv_le_natAbs a b
theorem BQ{a:Int}(h:1≤a∧a≤10):(a-1).natAbs≤9:=qh (a:=0) (b:=9) ⟨Gg h.1,Int.sub_le_sub_right h.2 1⟩ (.refl true)
theorem xD(hs: ∀s∈ss,1≤s∧s≤100)(hm:rh mu): ∀s∈fb ss mu,0≤s∧s≤1000:=by
 intro s h;unfold fb at h;refine aK (GA.mp h) fun p hp zz2=> ?_;subst zz2;have a:=hs _ (Gr hp).1;have b:=fR (hm _ (Gr hp).2);have c:=md (a:=p.1+(cA p.2-1)) b.2.2.1
 have d:0≤(p.1+(cA p.2-1)).fdiv (cA p.2):=by
  have w:0≤cA p.2:=F6 (by exact F5 _) b.2.2.1
  rw[Int.fdiv_eq_ediv_of_nonneg _ w]
  exact Int.ediv_nonneg (Int.add_nonneg (F6 (by exact F5 _) a.1) (Gg b.2.2.1)) w
 exact⟨d,nlm (Hu c (xu (n:=1000) (qh (n:=100) a (.refl true)) (BQ b.2.2) (.refl true))) (.refl true)⟩
theorem wT{s x y m:Int}(hs:1≤s∧s≤100)(hx:x.natAbs≤2000)(hy:y.natAbs≤2000)(hm:m≠0∧m.natAbs≤10):(lW s x y m).natAbs≤2^30:=by
 have b:=fR hm;unfold lW;refine Hu (md b.2.2.1) ?_
 cases decide (0<m)with
 |true=>exact xu hx (BQ b.2.2) (.refl true)
 |false=>exact xu (Ca (n:=2100) (qh (n:=100) hs (.refl true)) hy (.refl true)) (BQ b.2.2) (.refl true)
noncomputable abbrev i4(k:Nat)(arg:V):List (Str×V):=[("mul",arg),("self",.inst ag k)]
noncomputable abbrev j5(X:Xp):=sx (St X 829 5) 0
theorem yb(hv:eF σ k ss ts o M B)(hl:ss.length≤4)(h0:ss≠[])(hs: ∀s∈ss,1≤s∧s≤100)(hml:mu.length=ss.length)(hm:rh mu)(n:Nat):gy ((lv (cc X) (n+80)).cf σ 829 [.inst ag k,vI mu] []) σ (fb ss mu):=by
 have t:=DC (X:=X) (σ:=σ) (k:=k) (mu:=mu) (dB ‹_› ‹_› (by exact ac)) (n+58)
 have hz:nz mu=true:=Gw.mpr fun m q=>by have:=(hm m q).1;simp[this]
 rw[hz]at t;have s0:aR (cc X) (lv (cc X) (n+78)) (ah X 829 (i4 k (vI mu))) σ (St X 829 0)=some (.ok .next (ah X 829 (i4 k (vI mu))) σ):=ci (v:=true) rfl t
 obtain⟨x1,s1⟩:=Fo (X:=X) (own:=i4 k (vI mu)) rfl rfl hv (bf ‹_› (by exact ac)) hm (n+58)
 have fM:=hv.app (Gm σ x1);have p1:=Gm σ x1;generalize σ++x1=KI at s1 fM p1;refine dm fun kk=> ?_
 obtain⟨x2,s2⟩:=Ex (X:=X) (own:=("strides",vI (iz ts mu))::i4 k (vI mu)) rfl rfl fM (bf ‹_› (by exact ac)) hm (n+58)<;>(refine kk ?_;clear kk)
 have n_:=fM.app (Gm KI x2);have p2:=p1.trans (Gm KI x2);generalize KI++x2=KT at s2 n_ p2
 obtain⟨z,x3,s3⟩:=FK (X:=X) (own:=("new_shape",vI (fb ss mu))::("strides",vI (iz ts mu))::i4 k (vI mu)) rfl rfl n_ (bf ‹_› (by exact ac)) hml (fun s q=>by have:=hs s q;exact qh ‹_› (by exact ac)) (n+58)
 have hv3:=n_.app (Gm KT x3);have p3:=p2.trans (Gm KT x3);generalize KT++x3=σ3 at s3 hv3 p3
 have key: ∃(Mk:V) (ext:Sg),(Mk= .none∨ ∃ms,Mk=vP ms∧ms.length=ss.length∧ ∀m∈ms,m.1.natAbs≤2^30)∧aR (cc X) (lv (cc X) (n+78)) (ah X 829 (("offset",.int z)::("new_shape",vI (fb ss mu))::("strides",vI (iz ts mu))::i4 k (vI mu))) σ3 (St X 829 4)=some (.ok .next (ah X 829 (("mask",Mk)::("offset",.int z)::("new_shape",vI (fb ss mu))::("strides",vI (iz ts mu))::i4 k (vI mu))) (σ3++ext)):=by
  rcases hv3.mq with rfl|⟨ms,rfl,lm,pb⟩
  ·exact⟨.none,[],.inl rfl,by rw[Gz];exact tq (X:=X) (own:=("offset",.int z)::("new_shape",vI (fb ss mu))::("strides",vI (iz ts mu))::i4 k (vI mu)) rfl hv3 (n+52)⟩
  ·refine dm fun kk=> ?_
   obtain⟨ext,h⟩:=tv (X:=X) (own:=("offset",.int z)::("new_shape",vI (fb ss mu))::("strides",vI (iz ts mu))::i4 k (vI mu)) rfl rfl hv3 (bf ‹_› (by exact ac)) hml lm hm (n+52)<;>(refine kk ?_;clear kk)
   refine⟨_,ext,.inr ⟨_,rfl,by unfold BA;rw[Gk,Go,Go];exact m3 ‹_› ‹_›,fun m hm'=> ?_⟩,h⟩
   unfold BA at hm';obtain⟨p,hp,rfl⟩:=GA.mp hm';have a:=pb _ (Gr hp).1;exact wT (hs _ (Gr (Gr hp).2).1) a.1 a.2 (hm _ (Gr (Gr hp).2).2)
 refine dm fun kk=> ?_;obtain⟨Mk,ext,hM,s4⟩:=key<;>(refine kk ?_;clear kk)
 have hv4:=hv3.app (Gm σ3 ext);have p4:=p3.trans (Gm σ3 ext);generalize σ3++ext=σ4 at s4 hv4 p4
 have lc:(fb ss mu).length=ss.length:=by unfold fb;rw[Gk,Go];exact Cy ‹_›
 have lm:(iz ts mu).length=ss.length:=by have:=hv.lt;unfold iz;rw[Gk,Go];exact mq ‹_› ‹_›
 have hc:=xD hs hm
 have hb: ∀t∈iz ts mu,t.natAbs≤2^30:=fun t q=>by
  unfold iz at q;obtain⟨p,hp,rfl⟩:=GA.mp q;have a:=hv.ib _ (Gr hp).1;have b:=(hm _ (Gr hp).2).2;rw[Int.natAbs_mul]
  exact Hu (Nat.mul_le_mul a b) (by decide)
 have:=kF (X:=X) (σ:=σ4) (ss:=fb ss mu) (T:=vI (iz ts mu)) (o:=o+z) (M:=Mk) ⟨by exact dB ‹_› ‹_› (by exact ac),fun s q=>by have:=hc s q;exact qh ‹_› (by exact ac)⟩ (fun q=>h0 (GL (by rw[←lc,q];rfl))) (fun s q=>(hc s q).1)
  (.inr ⟨_,rfl,by exact F1 ‹_› (F3 ‹_›),hM.imp id fun⟨ms,e,l,q⟩=>⟨ms,e,by exact F1 ‹_› (F3 ‹_›),hb,q⟩⟩) (n+25)
 have N: ∀{x:Str} {v:V} {e:Expr} {own:List (Str×V)},e= .Name x (ps e)→dM X 829 x=true→own.lookup x=some v→(lv (cc X) (n+77)).iv (ah X 829 own) σ4 e=some (.ok (.v v) σ4):=fun he hk h=>bx (by rw[he];rfl) (aT he hk h)
 have:=jd (own:=("mask",Mk)::("offset",.int z)::("new_shape",vI (fb ss mu))::("strides",vI (iz ts mu))::i4 k (vI mu)) (e:=j5 X) (a:=829) (args:=[ch (j5 X) 1,ch (j5 X) 2,ch (j5 X) 3,ch (j5 X) 4]) (xs:=[vI (fb ss mu),vI (iz ts mu),.int (o+z),Mk]) rfl ac rfl
  (aL ac (N rfl ac rfl) (aL ac (N rfl ac rfl) (aL ac (bx ay (cE rfl (ba rfl ac rfl rfl hv4.at_ rfl rfl) (aT rfl ac rfl) rfl))
   (aL ac (N rfl ac rfl) fV)))) (Gu _) this
 refine dm fun kk=> ?_;obtain⟨J1,T,O,M',B',p,hr⟩:=this<;>(refine kk ?_;clear kk)
 refine⟨_,_,T,O,M',B',(p4.trans p).trans (Gm _ _),bo (a:=829) (binds:=[("self",.inst ag k),("mul",vI mu)]) (so:= .ok (.ret (.inst ag J1.length)) (ah X 829 (("mask",Mk)::("offset",.int z)::("new_shape",vI (fb ss mu))::("strides",vI (iz ts mu))::i4 k (vI mu))) (J1++[aa.dct (bb (vI (fb ss mu)) T O M' B')])) ⋯ ⋯ ac ?_ rfl,cB⟩
 rw[show aB X 829=[St X 829 0,St X 829 1,St X 829 2,St X 829 3,St X 829 4,St X 829 5]from rfl]
 exact ab s0 (ab s1 (ab s2 (ab s3 (ab s4 (ao (du rfl hr))))))
theorem zg(hml:mu.length≤900)(h:nz mu=false)(n:Nat):cV ((lv (cc X) (n+80)).cf σ 829 [.inst ag k,vI mu] []) σ:=by
 have t:=DC (X:=X) (σ:=σ) (k:=k) (mu:=mu) hml (n+58);rw[h]at t;have s0:aR (cc X) (lv (cc X) (n+78)) (ah X 829 (i4 k (vI mu))) σ (St X 829 0)=some (.exc "AssertionError" (ah X 829 (i4 k (vI mu))) σ):=ci (v:=false) rfl t
 refine⟨"AssertionError",σ,.inl rfl,Gu _,bo (a:=829) (binds:=[("self",.inst ag k),("mul",vI mu)]) ⋯ ⋯ ac (so:= .exc "AssertionError" (ah X 829 (i4 k (vI mu))) σ) ?_ rfl⟩
 rw[show aB X 829=[St X 829 0,St X 829 1,St X 829 2,St X 829 3,St X 829 4,St X 829 5]from rfl]
 exact bM s0
end
section
section
variable {cls:String}
theorem rY(hc:aV e=false)(h:(lv c n).ev en σ e=some (.exc cls J2)):(lv c (n+1)).iv en σ e=some (.exc cls J2):=
 Aa (fun f a k p q=>by rw[q]at hc;exact B7 hc) h rfl
theorem hG(hc:aV e=true)(h:(lv c (n+1)).iv en σ e=some (.exc cls J2)):(lv c (n+1)).ev en σ e=some (.exc cls J2):=by
 refine lF hc fun f a k p q=> ?_;subst q;change ca c (lv c n) en σ f a k p=_ at h;show f7 (ca c (lv c n) en σ f a k p)=_;rw[h];rfl
theorem sr{f:iM}(hs:ak [e]=true)(h1:f en σ e=some (.exc cls J2)):dX f en σ [e]=some (.exc cls J2):=by
 show(if cZ e=true then none else au (f en σ e) fun x J2=>au (dX f en J2 []) fun xs J6=>some (.ok (x::xs) J6))=_
 rw[if_neg (bh hs).1,h1];rfl
theorem yD(hs:ak [e]=true)(h1:f en σ e=some (.exc cls J2)):fj f en σ [e]=some (.exc cls J2):=by
 show(if cZ e=true then none else au (f en σ e) fun x J2=>au (fj f en J2 []) fun xs J6=>some (.ok (x::xs) J6))=_
 rw[if_neg (bh hs).1,h1];rfl
theorem zB(he:e= .Tuple [ch e 0] (tk (e)) (ps e))(hs:ak [ch e 0]=true)(h:(lv c n).ev en σ (ch e 0)=some (.ok x J2)):(lv c (n+1)).ev en σ e=some (.ok (.tup [x]) J2):=
 (congrArg ((lv c (n+1)).ev en σ) he).trans (gI (bA hs h gU) (show 1≤2^20 by decide))
theorem mX(he:e= .Tuple [ch e 0] (tk (e)) (ps e))(hs:ak [ch e 0]=true)(h:(lv c n).ev en σ (ch e 0)=some (.exc cls J2)):(lv c (n+1)).ev en σ e=some (.exc cls J2):=by
 refine(congrArg ((lv c (n+1)).ev en σ) he).trans ?_;show au (fj (lv c n).ev en σ [ch e 0]) _=_;exact Fk (yD hs h)
theorem uF(he:e= .BinOp (ch e 0) op (ch e 1) (ps e))(h1:(lv c n).ev en σ (ch e 0)=some (.ok x J2))(h2:(lv c n).ev en J2 (ch e 1)=some (.exc cls J6)):(lv c (n+1)).ev en σ e=some (.exc cls J6):=
 (congrArg ((lv c (n+1)).ev en σ) he).trans (qG h1 h2)
theorem mL{x:Str}(he:e= .Call (.Name x (ps (ch e 0))) args [] (ps e))(hg:cG args=none)(hx:aP c en x=some (.val fv))(hc:(ak args&&bK c.K fv)=true)
 (h1:dX (lv c (n+1)).iv en σ args=some (.exc cls J2)):(lv c (n+2)).iv en σ e=some (.exc cls J2):=by
 rw[he];have hc:=FR.mp hc;refine gL (jS ?_ hx ?_)
 ·refine(?_:(if(List.isEmpty ([]:List Keyword))=true then(cG args).map _ else none)=none)
  rw[hg];rfl
 ·unfold eX
  rw[if_pos (by rw[hc.1,hc.2];rfl)]
  exact Fk h1
end
noncomputable def ar:Addr:=match NM.lookup ("ShapeTracker":Str)with
 |some (.ref a)=>a
 |_=>0
noncomputable abbrev cH(vs:V):List (Str×V):=[("views",vs)]
section
variable {X:Xp}{S T M v:V}{own:List (Str×V)}
theorem DG{vs:V}(hk:σ[j]? =some (aa.dct (cH vs)))(hy:cY vs=true):jc (cc X) σ (.inst ar j) "views"=some (.val vs):=
 rS hk (attr:=none) ⋯ ⋯ rfl (by rw[hy];rfl)
theorem AV:de (cc X) (σ++[aa.dct []]) (.inst ar σ.length) "views" y=some (σ++[aa.dct (cH y)]):=
 i9 (fs:=[]) ⋯ (HD _)
theorem yF(vs:V)(σ:Sg)(n:Nat):(lv (cc X) (n+12)).cf (σ++[aa.dct []]) 863 [.inst ar σ.length,vs] []=some (.ok .none (σ++[aa.dct (cH vs)])):=by
 refine bo (a:=863) (so:= .ok .next (ah X 863 [("views",vs),("self",.inst ar σ.length)]) (σ++[aa.dct (cH vs)])) ⋯ (binds:=[("self",.inst ar σ.length),("views",vs)]) ⋯ ac ?_ rfl
 rw[show aB X 863=[St X 863 0]from rfl]
 exact ao (fY rfl ac rfl rfl (fE (name:="views") rfl rfl AV))
theorem sh(vs:V)(σ:Sg)(n:Nat):aH (cc X) (lv (cc X) (n+12)).cf σ (.ref ar) [.v vs] []=some (.ok (.v (.inst ar σ.length)) (σ++[aa.dct (cH vs)])):=
 rH (xs:=[vs]) (fI:=863) rfl ac rfl rfl (yF vs σ n)
theorem lC{vs:V}(he:e= .Attribute (.Name ("self":Str) (ps (ch e 0))) ("views":Str) (ps e))(hk:dM X a "self"=true)(hs:own.lookup ("self":Str)=some (.inst ar j))(hc:σ[j]? =some (aa.dct (cH vs)))(hy:cY vs=true):(lv (cc X) (n+2)).ev (ah X a own) σ e=some (.ok vs σ):=by
 rw[he];exact nV rfl (fO (Er hk hs)) (DG hc hy)
end
noncomputable def dW(r:Option (aD V))(σ:Sg)(ss:List Int):Prop:= ∃j J1 vs k T O M B,σ<+:J1∧r=some (.ok (.inst ar j) J1)∧J1[j]? =some (aa.dct (cH (.tup (vs++[.inst ag k]))))∧J1[k]? =some (aa.dct (bb (vI ss) T O M B))
theorem dW.elim{r:Option (aD V)}(h:dW r σ ss)(k: ∀j J1 vs k T O M B,σ<+:J1→r=some (.ok (.inst ar j) J1)→J1[j]? =some (aa.dct (cH (.tup (vs++[.inst ag k]))))→J1[k]? =some (aa.dct (bb (vI ss) T O M B))→G):G:=by
 obtain⟨a,b,c,d,e,f,g,l,m,o,p,q⟩:=h;exact k a b c d e f g l m o p q
theorem lt5:i<5→i=0∨i=1∨i=2∨i=3∨i=4:=(by decide: ∀i,i<5→i=0∨i=1∨i=2∨i=3∨i=4) i
noncomputable abbrev tE(X:Xp)(a:Addr):=sx (St X a 0) 0
noncomputable abbrev tA(X:Xp)(a:Addr):=ch (tE X a) 1
noncomputable abbrev tC(X:Xp)(a:Addr):=ch (ch (tA X a) 1) 0
structure nO(X:Xp)(a f:Addr)(pn mn:Str):Prop where
 pl:dY X a=true
 bd:aB X a=[St X a 0]
 rt:St X a 0= .Return (some (sx (St X a 0) 0)) (kl (St X a 0))
 b1: ∀x v:V,eQ ((dS X a).params.args.map (·.arg)) [x,v] [] ((pX X a).map xm)=some [(("self":Str),x),(pn,v)]
 b2: ∀x v:V,gO (dS X a).scope.names [(("self":Str),x),(pn,v)]=true
 e1:tE X a= .Call (.Name ("ShapeTracker":Str) (ps (ch (tE X a) 0))) [tA X a] [] (ps (tE X a))
 c1:aV (tE X a)=true∧cG [tA X a]=none∧(ak [tA X a]&&bK (cc X).K (.ref ar))=true∧aV (tA X a)=false
 n1: ∀own,aP (cc X) (ah X a own) "ShapeTracker"=some (.val (.ref ar))
 e2:tA X a= .BinOp (ch (tA X a) 0) .Add (ch (tA X a) 1) (ps (tA X a))
 e3:ch (tA X a) 0= .Subscript (ch (ch (tA X a) 0) 0) (.Slice (some (ch (ch (ch (tA X a) 0) 1) 0)) (some (ch (ch (ch (tA X a) 0) 1) 1)) none (ps (ch (ch (tA X a) 0) 1))) (ps (ch (tA X a) 0))
 e4:ch (ch (tA X a) 0) 0= .Attribute (.Name ("self":Str) (ps (ch (ch (ch (tA X a) 0) 0) 0))) ("views":Str) (ps (ch (ch (tA X a) 0) 0))
 k1: ∀en σ n,(lv (cc X) (n+3)).ev en σ (ch (ch (ch (tA X a) 0) 1) 0)=some (.ok (.int 0) σ)∧(lv (cc X) (n+3)).ev en σ (ch (ch (ch (tA X a) 0) 1) 1)=some (.ok (.int (-1)) σ)
 e5:ch (tA X a) 1= .Tuple [ch (ch (tA X a) 1) 0] (tk (ch (tA X a) 1)) (ps (ch (tA X a) 1))
 s5:ak [tC X a]=true∧aV (tC X a)=true
 e6:tC X a= .Call (.Attribute (ch (ch (tC X a) 0) 0) mn (ps (ch (tC X a) 0))) [ch (tC X a) 1] [] (ps (tC X a))
 p6:(aS (ch (ch (tC X a) 0) 0)&&(ps (ch (tC X a) 0)).endLine==(ps (tC X a)).line&&decide ([ch (tC X a) 1].length+0<20)&&ak [ch (tC X a) 1])=true
 e7:ch (ch (tC X a) 0) 0= .Subscript (ch (ch (ch (tC X a) 0) 0) 0) (ch (ch (ch (tC X a) 0) 0) 1) (ps (ch (ch (tC X a) 0) 0))
 s7:bz (ch (ch (ch (tC X a) 0) 0) 1)=true
 e8:ch (ch (ch (tC X a) 0) 0) 0= .Attribute (.Name ("self":Str) (ps (ch (ch (ch (ch (tC X a) 0) 0) 0) 0))) ("views":Str) (ps (ch (ch (ch (tC X a) 0) 0) 0))
 k2: ∀en σ n,(lv (cc X) (n+3)).ev en σ (ch (ch (ch (tC X a) 0) 0) 1)=some (.ok (.int (-1)) σ)
 e9:ch (tC X a) 1= .Name pn (ps (ch (tC X a) 1))
 o1:dM X a "self"=true∧dM X a pn=true∧(("self":Str)==pn)=false
 m1:yq X ag mn f=true
 m2: ∀S T O M B:V,(eA (bb S T O M B) mn).isNone=true
 f1:dY X f=true∧bK (cc X).K (.ref f)=true
end
section
variable {X:Xp}{v:V}{f:Addr}{pn:Str}
theorem rC(I:nO X a f pn mn)(hj:σ[j]? =some (aa.dct (cH (.tup [.inst ag k])))){S T M:V}(hk:σ[k]? =some (aa.dct (bb S T O M B)))(hl: ∃o',gh (some o)=some o')(n:Nat)(h:(lv (cc X) (n+10)).cf σ f [.inst ag k,v] []=some o):
 (lv (cc X) (n+11)).ev (ah X a [(pn,v),("self",.inst ar j)]) σ (tC X a)=some o:=by
 have hs:GC ("self":Str) [(pn,v),("self",V.inst ar j)]=some (.inst ar j):=by
  rw[GF,I.o1.2.2];rfl
 have hp:GC pn [(pn,v),("self",V.inst ar j)]=some v:=G_;have it:gn σ (.tup [.inst ag k]) (-1)=some (.inst ag k):=rfl;have hx:(lv (cc X) (n+10)).ev (ah X a [(pn,v),("self",.inst ar j)]) σ (ch (ch (tC X a) 0) 0)=some (.ok (.inst ag k) σ):=cW I.e7 I.s7 (lC I.e8 I.o1.1 hs hj rfl) (I.k2 _ _ (n+6)) it
 have ha:dX (lv (cc X) (n+10)).iv (ah X a [(pn,v),("self",.inst ar j)]) σ [ch (tC X a) 1]=some (.ok [.v v] σ):=kA (by rw[I.e9];rfl) (bx (by rw[I.e9];rfl) (aT I.e9 I.o1.2.1 hp))
 cases o with
 |ok y J1=>exact ki I.s5.2 (gg I.e6 I.p6 hx (jl hk (I.m2 _ _ _ _ _) I.m1) I.f1.2 ha (eJ (xs:=[.inst ag k,v]) I.f1.1 h))
 |exc cls J1=>exact hG I.s5.2 (gg I.e6 I.p6 hx (jl hk (I.m2 _ _ _ _ _) I.m1) I.f1.2 ha (gH (xs:=[.inst ag k,v]) I.f1.1 h))
theorem rL(I:nO X a f pn mn)(hj:σ[j]? =some (aa.dct (cH (.tup [.inst ag k]))))(n:Nat):(lv (cc X) (n+12)).ev (ah X a [(pn,v),("self",.inst ar j)]) σ (ch (tA X a) 0)=some (.ok (.tup []) σ):=by
 have hs:GC ("self":Str) [(pn,v),("self",V.inst ar j)]=some (.inst ar j):=by
  rw[GF,I.o1.2.2];rfl
 exact B1 (v:= .tup [.inst ag k]) (u:= .int (-1)) (t:= .none) (l':=some 0) (u':=some (-1)) (t':=none) I.e3 (lC I.e4 I.o1.1 hs hj rfl) (I.k1 _ _ (n+8)).1 (I.k1 _ _ (n+8)).2 rfl rfl rfl rfl rfl
theorem DP(I:nO X a f pn mn)(hj:σ[j]? =some (aa.dct (cH (.tup [.inst ag k])))){S T M:V}(hk:σ[k]? =some (aa.dct (bb S T O M B)))(n:Nat)(h:gy ((lv (cc X) (n+10)).cf σ f [.inst ag k,v] []) σ ss):dW ((lv (cc X) (n+17)).cf σ a [.inst ar j,v] []) σ ss:=by
 refine jC h fun k' J1 T' O' M' B' p hr hk'=> ?_;have hv:=rC I hj hk ⟨_,rfl⟩ n hr;have hb:(lv (cc X) (n+13)).ev (ah X a [(pn,v),("self",.inst ar j)]) σ (tA X a)=some (.ok (.tup [.inst ag k']) J1):=
  cE I.e2 (rL I hj n) (zB I.e5 I.s5.1 hv) rfl
 have hc:=FR.mp I.c1.2.2.1;have ht:(lv (cc X) (n+15)).ev (ah X a [(pn,v),("self",.inst ar j)]) σ (tE X a)=some (.ok (.inst ar J1.length) (J1++[aa.dct (cH (.tup [.inst ag k']))])):=
  ki I.c1.1 (cF I.e1 I.c1.2.1 (I.n1 _) I.c1.2.2.1 (kA hc.1 (bx I.c1.2.2.2 hb)) (sh (.tup [.inst ag k']) J1 (n+2)))
 refine⟨_,_,[],k',T',O',M',B',p.trans (Gm _ _),bo I.pl (I.b1 _ _) (I.b2 _ _) (so:= .ok (.ret (.inst ar J1.length)) (ah X a [(pn,v),("self",.inst ar j)]) (J1++[aa.dct (cH (.tup [.inst ag k']))])) ?_ rfl,cB,bX hk'⟩;refine(I.bd).symm▸ ?_;exact ao (du I.rt ht)
theorem Dj(I:nO X a f pn mn)(hj:σ[j]? =some (aa.dct (cH (.tup [.inst ag k])))){S T M:V}(hk:σ[k]? =some (aa.dct (bb S T O M B)))(n:Nat)(h:cV ((lv (cc X) (n+10)).cf σ f [.inst ag k,v] []) σ):cV ((lv (cc X) (n+17)).cf σ a [.inst ar j,v] []) σ:=by
 refine dy h fun cls J1 hcls p hr=> ?_;have hv:=rC I hj hk ⟨_,rfl⟩ n hr;have hb:(lv (cc X) (n+13)).ev (ah X a [(pn,v),("self",.inst ar j)]) σ (tA X a)=some (.exc cls J1):=
  uF I.e2 (rL I hj n) (mX I.e5 I.s5.1 hv)
 have hc:=FR.mp I.c1.2.2.1;have ht:(lv (cc X) (n+15)).ev (ah X a [(pn,v),("self",.inst ar j)]) σ (tE X a)=some (.exc cls J1):=
  hG I.c1.1 (mL I.e1 I.c1.2.1 (I.n1 _) I.c1.2.2.1 (sr hc.1 (rY I.c1.2.2.2 hb)))
 refine⟨cls,J1,hcls,p,bo I.pl (I.b1 _ _) (I.b2 _ _) (so:= .exc cls (ah X a [(pn,v),("self",.inst ar j)]) J1) ?_ rfl⟩;refine(I.bd).symm▸ ?_;exact bM (iR I.rt ht)
theorem CO(X:Xp):nO X 978 805 "arg" "pad":=⟨by kernel_rfl,rfl,rfl,fun u_ u_=>by kernel_rfl,fun u_ u_=>ac,rfl,⟨ac,rfl,by kernel_rfl,ay⟩,fun u_=>rfl,rfl,by kernel_rfl,by kernel_rfl,fun u_ u_ u_=>⟨rfl,by kernel_rfl⟩,by kernel_rfl,⟨ac,ac⟩,by kernel_rfl,by kernel_rfl,by kernel_rfl,by kernel_rfl,by kernel_rfl,fun u_ u_ u_=>by kernel_rfl,by kernel_rfl,⟨ac,ac,ay⟩,by kernel_rfl,fun u_ u_ u_ u_ u_=>ac,⟨by kernel_rfl,ac⟩⟩
theorem DL(X:Xp):nO X 985 812 "arg" "shrink":=⟨by kernel_rfl,rfl,rfl,fun u_ u_=>by kernel_rfl,fun u_ u_=>ac,rfl,⟨ac,rfl,by kernel_rfl,ay⟩,fun u_=>rfl,rfl,by kernel_rfl,by kernel_rfl,fun u_ u_ u_=>⟨rfl,rfl⟩,by kernel_rfl,⟨ac,by kernel_rfl⟩,by kernel_rfl,by kernel_rfl,by kernel_rfl,by kernel_rfl,by kernel_rfl,fun u_ u_ u_=>by kernel_rfl,by kernel_rfl,⟨ac,ac,ay⟩,by kernel_rfl,fun u_ u_ u_ u_ u_=>ac,⟨by kernel_rfl,ac⟩⟩
theorem Cf(X:Xp):nO X 992 817 "new_shape" "expand":=⟨by kernel_rfl,rfl,rfl,fun u_ u_=>by kernel_rfl,fun u_ u_=>ac,rfl,⟨ac,rfl,by kernel_rfl,ay⟩,fun u_=>rfl,rfl,by kernel_rfl,by kernel_rfl,fun u_ u_ u_=>⟨rfl,rfl⟩,by kernel_rfl,⟨ac,ac⟩,by kernel_rfl,by kernel_rfl,by kernel_rfl,by kernel_rfl,by kernel_rfl,fun u_ u_ u_=>by kernel_rfl,by kernel_rfl,⟨ac,ac,ay⟩,by kernel_rfl,fun u_ u_ u_ u_ u_=>ac,⟨by kernel_rfl,ac⟩⟩
theorem DI(X:Xp):nO X 999 824 "axis" "permute":=⟨by kernel_rfl,rfl,rfl,fun u_ u_=>by kernel_rfl,fun u_ u_=>ac,rfl,⟨ac,rfl,by kernel_rfl,ay⟩,fun u_=>rfl,rfl,by kernel_rfl,by kernel_rfl,fun u_ u_ u_=>⟨by kernel_rfl,by kernel_rfl⟩,by kernel_rfl,⟨by kernel_rfl,ac⟩,by kernel_rfl,by kernel_rfl,by kernel_rfl,by kernel_rfl,by kernel_rfl,fun u_ u_ u_=>by kernel_rfl,by kernel_rfl,⟨ac,ac,ay⟩,by kernel_rfl,fun u_ u_ u_ u_ u_=>ac,⟨by kernel_rfl,ac⟩⟩
theorem zW(X:Xp):nO X 1006 829 "mul" "stride":=⟨by kernel_rfl,rfl,rfl,fun u_ u_=>by kernel_rfl,fun u_ u_=>ac,rfl,⟨ac,rfl,by kernel_rfl,ay⟩,fun u_=>rfl,rfl,by kernel_rfl,by kernel_rfl,fun u_ u_ u_=>⟨by kernel_rfl,by kernel_rfl⟩,by kernel_rfl,⟨by kernel_rfl,by kernel_rfl⟩,by kernel_rfl,by kernel_rfl,by kernel_rfl,by kernel_rfl,by kernel_rfl,fun u_ u_ u_=>by kernel_rfl,by kernel_rfl,⟨ac,ac,ay⟩,by kernel_rfl,fun u_ u_ u_ u_ u_=>ac,⟨by kernel_rfl,ac⟩⟩
end
section
variable {X:Xp}{own:List (Str×V)}{S M Mk:V}{ts xs mu:List Int}{o:Int}{as ms:List (Int×Int)}
noncomputable def aQ:Int→List Int→Int
 |p,[]=>p
 |p,a::l=>aQ (p*a) l
theorem l6(xs:List Int): ∀(p:Int) (i:Nat) (h:i<xs.length),aQ p (xs.take (i+1))=aQ p (xs.take i)*xs[i]:=by
 induction xs with
 |nil=>intro p i h;exact absurd h (by exact of_decide_eq_false rfl)
 |cons x xs ih=>
  intro p i h
  cases i with
  |zero=>rfl
  |succ i=>exact ih (p*x) i (by simpa using h)
structure kR(X:Xp)(a:Addr)(xn rn:Str):Prop where
 pl:dY X a=true
 bd:aB X a=[St X a 0,St X a 1,St X a 2]
 b1: ∀v:V,eQ ((dS X a).params.args.map (·.arg)) [v] [] ((pX X a).map xm)=some [(xn,v)]
 b2: ∀v:V,gO (dS X a).scope.names [(xn,v)]=true
 s0: ∀(v:V) σ n,aR (cc X) (lv (cc X) (n+8)) (ah X a [(xn,v)]) σ (St X a 0)=some (.ok .next (ah X a [(rn,.int 1),(xn,v)]) σ)
 s1:St X a 1= .For (sx (St X a 1) 0) (sx (St X a 1) 1) (aj (St X a 1)) (cQ (St X a 1)) (kl (St X a 1))∧cX (sx (St X a 1) 1)=true∧cQ (St X a 1)=[]∧aj (St X a 1)=[si (aj (St X a 1)) 0]
 i1:sx (St X a 1) 1= .Name xn (ps (sx (St X a 1) 1))∧dM X a xn=true∧(rn==xn)=false∧(xn==rn)=false
 t1: ∀(own:List (Str×V)) σ f y,eH (cc X) f 8 (sx (St X a 1) 0) (ah X a own) σ y=some (ah X a (("s",y)::own),σ)
 l1:si (aj (St X a 1)) 0= .Assign [.Name rn (ps (sx (si (aj (St X a 1)) 0) 1))] (sx (si (aj (St X a 1)) 0) 0) (kl (si (aj (St X a 1)) 0))∧cg (sx (si (aj (St X a 1)) 0) 0)=true∧ ∀own,bF (ah X a own) rn=true
 l2:sx (si (aj (St X a 1)) 0) 0= .BinOp (ch (sx (si (aj (St X a 1)) 0) 0) 0) .Mult (ch (sx (si (aj (St X a 1)) 0) 0) 1) (ps (sx (si (aj (St X a 1)) 0) 0))
 l3:ch (sx (si (aj (St X a 1)) 0) 0) 0= .Name rn (ps (ch (sx (si (aj (St X a 1)) 0) 0) 0))∧dM X a rn=true
 l4:ch (sx (si (aj (St X a 1)) 0) 0) 1= .Name ("s":Str) (ps (ch (sx (si (aj (St X a 1)) 0) 0) 1))∧dM X a "s"=true∧(rn==("s":Str))=false
 r1:St X a 2= .Return (some (sx (St X a 2) 0)) (kl (St X a 2))∧sx (St X a 2) 0= .Name rn (ps (sx (St X a 2) 0))
theorem Al(I:kR X a xn rn)(hs:bP xs){v:V}(ht:aA σ (.v v)=some t)(tl:aC (fun J1=>J1=σ) t (xs.map V.int))(n:Nat):(lv (cc X) (n+20)).cf σ a [v] []=some (.ok (.int (aQ 1 xs)) σ):=by
 have hl:=hs.1;have key:=CG (g:=eH (cc X) (lv (cc X) (n+18)).ev 8) (fs:=(lv (cc X) (n+18)).exs) (target:=sx (St X a 1) 0) (body:=aj (St X a 1)) (as:=xs) (f:=V.int) (σ:=σ) (en:=ah X a [(rn,.int 1),(xn,v)]) (S:=fun J1=>J1=σ)
  (I:=fun i en J1=>J1=σ∧ ∃(own:List (Str×V)),en=ah X a own∧own.lookup rn=some (.int (aQ 1 (xs.take i)))∧(aQ 1 (xs.take i)).natAbs≤1000^i) (L:=σ.length) (by rintro _ _ _ ⟨rfl,_⟩;exact Hv _) (fun u_ u_ u_ h=>h.1) tl (by show xs.length<4096;exact fD ‹_› (by exact ac)) (fun u_ u_=>rfl) ⟨rfl,_,rfl,G_,Hv 1⟩ ?_
 ·obtain⟨en',J1,⟨rfl,own,rfl,h1,h2⟩,hf⟩:=key;rw[List.take_length]at h1
  have s1:aR (cc X) (lv (cc X) (n+18)) (ah X a [(rn,.int 1),(xn,v)]) J1 (St X a 1)=some (.ok .next (ah X a own) J1):=by
   refine Bo I.s1.1 I.s1.2.1 (bx (by rw[I.i1.1];rfl) (aT I.i1.1 I.i1.2.1 (by rw[GF,I.i1.2.2.2];exact G_))) ht ?_
   refine(I.s1.2.2.1).symm▸ ?_;exact hf
  refine bo I.pl (I.b1 v) (I.b2 v) (so:= .ok (.ret (.int (aQ 1 xs))) (ah X a own) J1) ?_ rfl;refine(I.bd).symm▸ ?_;exact ab (I.s0 v J1 (n+10)) (ab s1 (ao (du I.r1.1 (aT I.r1.2 I.l3.2 h1))))
 ·rintro i hi _ _ ⟨rfl,own,rfl,h1,h2⟩
  have hi4:i<4:=by exact HF (by assumption) (by assumption)
  have hb:=hs.2 _ (GN hi)
  have hp:bG (aQ 1 (xs.take i))=true:=be h2 (HC (Nat.pow_le_pow_right (by exact Hw _) (HH hi4)) (by decide))
  have ha:bG xs[i]=true:=be hb (by decide)
  refine⟨_,_,ah X a ((rn,.int (aQ 1 (xs.take i)*xs[i]))::("s",.int xs[i])::own),_,I.t1 own _ _ _,?_,rfl,_,rfl,?_,?_⟩
  ·refine(I.s1.2.2.2).symm▸ ?_
   exact ao (cb I.l1.1 I.l1.2.1 (I.l1.2.2 _) (cE I.l2 (aT I.l3.1 I.l3.2 (by rw[GF,I.l4.2.2];exact h1)) (aT I.l4.1 I.l4.2.1 G_) (gE hp ha)))
  ·rw[G_,l6 xs 1 i hi]
  ·rw[l6 xs 1 i hi,Int.natAbs_mul,Nat.pow_succ];exact Nat.mul_le_mul h2 hb
theorem P28(X:Xp):kR X 28 "x" "ret":=⟨ac,rfl,fun u_=>by kernel_rfl,fun u_=>ac,fun u_ u_ u_=>rfl,⟨rfl,ac,rfl,rfl⟩,⟨rfl,ac,ay,ay⟩,fun u_ u_ u_ u_=>rfl,⟨rfl,ac,fun u_=>ac⟩,rfl,⟨rfl,ac⟩,⟨rfl,ac,ay⟩,⟨rfl,rfl⟩⟩
theorem uC(X:Xp):kR X 1046 "shape" "found":=⟨by kernel_rfl,rfl,fun u_=>by kernel_rfl,fun u_=>ac,fun u_ u_ u_=>rfl,⟨rfl,ac,rfl,rfl⟩,⟨rfl,ac,ay,ay⟩,fun u_ u_ u_ u_=>rfl,⟨rfl,ac,fun u_=>ac⟩,rfl,⟨rfl,ac⟩,⟨rfl,ac,ay⟩,⟨rfl,rfl⟩⟩
theorem rU(hs:bP xs)(n:Nat)(I:kR X a xn rn):(lv (cc X) (n+20)).cf σ a [vI xs] []=some (.ok (.int (aQ 1 xs)) σ):=Al I hs rfl (ai _ _) n
theorem Dc(hs:bP xs)(hj:σ[j]? =some (aa.lst (xs.map V.int)))(n:Nat)(I:kR X a xn rn):(lv (cc X) (n+20)).cf σ a [.lst j] []=some (.ok (.int (aQ 1 xs)) σ):=Al I hs (fB hj) (eh fun J1 q=>by rw[q];exact hj) n
theorem Bc(hl:ss.length≤900)(n:Nat):(lv (cc X) (n+20)).cf σ 35 [vI ss] []=some (.ok (.bool true) σ):=by
 refine bo (a:=35) (binds:=[("t",vI ss)]) ac ⋯ ac (so:= .ok (.ret (.bool true)) (ah X 35 [("t",vI ss)]) σ) ?_ rfl
 rw[show aB X 35=[St X 35 0]from rfl]
 have:=iw (c:=cc X) (n:=n+17) (σ:=σ) (e:=sx (St X 35 0) 0) (en:=ah X 35 [("t",vI ss)]) (S:=fun u_=>True) (t:= .seq (ss.map V.int) 0) (as:=ss) (f:=V.int) (b:=fun p=>[("s",.int p)]) (F:=fun p=> .bool true) (q:=fun u_=>true) rfl ac rfl
  (bx ay (aT rfl ac rfl)) rfl trivial (ai _ _) (fD ‹_› (by exact ac)) (fun p u_ own=>⟨rfl,rfl⟩) (fun u_ u_=>rfl)
 rw[Gw.mpr (fun u_ u_=>rfl)]at this;exact ao (du rfl this)
end
section
theorem Ad(he:e= .BoolOp .And (ch e 0::es) (ps e))(h1:(lv c n).tr en σ (ch e 0)=some (.ok false σ)):(lv c (n+1)).tr en σ e=some (.ok false σ):=by
 rw[he];exact jk (cT h1 rfl)
variable {X:Xp}{own:List (Str×V)}{S M Mk:V}{ts xs mu:List Int}{o:Int}{as ms:List (Int×Int)}
theorem Cr(hs:own.lookup ("self":Str)=some (.inst ag k))(hx:own.lookup ("new_shape":Str)=some (vI xs))(hv:eF σ k ss ts o M B)(hl:ss.length≤4)(n:Nat):(lv (cc X) (n+20)).tr (ah X 834 own) σ (sx (St X 834 0) 0)=some (.ok (ss==xs) σ):=
 bw (op:= .Eq) (J2:=σ) (x:=vI ss) (y:=vI xs) rfl ay (ba (x:="shape") rfl ac hs rfl hv.at_ rfl rfl) (aT (x:="new_shape") rfl ac hx) (wK (fD ‹_› (by exact ac)))
theorem Dm(hx:own.lookup ("new_shape":Str)=some (vI xs))(hl:xs.length≤900)(n:Nat):(lv (cc X) (n+20)).tr (ah X 834 own) σ (sx (St X 834 1) 0)=some (.ok (xs.all fun s=>decide (0≤s)) σ):=
 dn ac (iw (S:=fun u_=>True) (x:= .v (vI xs)) (t:= .seq (xs.map V.int) 0) (as:=xs) (f:=V.int) (b:=fun a=>[("x",.int a)]) (F:=fun a=> .bool (decide (0≤a))) rfl ⋯ rfl
  (bx ay (aT (x:="new_shape") rfl ac hx)) rfl trivial (ai _ _) (fD ‹_› (by exact ac)) (fun a u_ own=>⟨by kernel_rfl,rfl⟩) (fun u_ u_=>rfl)) rfl
theorem DB(hs:own.lookup ("self":Str)=some (.inst ag k))(hv:eF σ k ss ts o M B)(hp: ∀s∈ss,1≤s)(n:Nat):aR (cc X) (lv (cc X) (n+20)) (ah X 834 own) σ (St X 834 2)=some (.ok .next (ah X 834 own) σ):=by
 refine dq rfl (bw (op:= .In) (J2:=σ) (x:= .int 0) (y:=vI ss) rfl ay rfl (ba (x:="shape") rfl ac hs rfl hv.at_ rfl rfl) ?_) rfl
 rw[kK]
 have:ss.any (· ==0)=false:=G5.mpr fun x hx q=>by
  have:=hp x hx
  have q:x=0:=by simpa using q
  exact xne ‹_› ‹_›
 exact congrArg _ (by assumption)
theorem Cd(hs:own.lookup ("self":Str)=some (.inst ag k))(hv:eF σ k ss ts o M B)(hl:ss.length≤900)(n:Nat):aR (cc X) (lv (cc X) (n+30)) (ah X 834 own) σ (St X 834 3)=some (.ok .next (ah X 834 (("self_all_int",.bool true)::own)) σ):=
 cb (x:="self_all_int") (xp:=ps (sx (St X 834 3) 1)) rfl ac ac (bJ (x:="all_int") (fv:= .ref 35) (v:= .v (vI ss)) (J2:=σ) rfl rfl rfl ac
  (bx ay (ba (x:="shape") rfl ac hs rfl hv.at_ rfl rfl)) (eJ (X:=X) (xs:=[vI ss]) ac (Bc hl (n+9))))
noncomputable abbrev w4(X:Xp)(i:Nat):=si (aj (St X 834 4)) i
theorem Af(hx:own.lookup ("new_shape":Str)=some (vI xs))(hl:xs.length≤900)(n:Nat):aR (cc X) (lv (cc X) (n+20)) (ah X 834 own) σ (w4 X 0)=some (.ok .next (ah X 834 own) σ):=by
 have:=iw (c:=cc X) (n:=n+18) (σ:=σ) (e:=sx (w4 X 0) 0) (en:=ah X 834 own) (S:=fun u_=>True) (x:= .v (vI xs)) (t:= .seq (xs.map V.int) 0) (as:=xs) (f:=V.int) (b:=fun a=>[("s",.int a)]) (F:=fun a=> .bool true) (q:=fun u_=>true) ⋯ ⋯ rfl
  (bx ay (aT (x:="new_shape") rfl ac hx)) rfl trivial (ai _ _) (fD ‹_› (by exact ac)) (fun a u_ own=>⟨by kernel_rfl,by kernel_rfl⟩) (fun u_ u_=>rfl)
 rw[Gw.mpr (fun u_ u_=>rfl)]at this;exact ci (v:=true) rfl (dn ac this rfl)
theorem zv(hs:own.lookup ("self":Str)=some (.inst ag k))(hx:own.lookup ("new_shape":Str)=some (vI xs))(hv:eF σ k ss ts o M B)(h1:bP ss)(h2:bP xs)(n:Nat):(lv (cc X) (n+40)).tr (ah X 834 own) σ (sx (w4 X 1) 0)=some (.ok (!(aQ 1 ss==aQ 1 xs)) (σ++[aa.lst (xs.map V.int)])):=by
 have l1:=h1.1;have l2:=h2.1
 refine bw (op:= .NotEq) (J2:=σ) (x:= .int (aQ 1 ss)) (y:= .int (aQ 1 xs)) rfl ay (bJ (x:="prod") (fv:= .ref 28) (v:= .v (vI ss)) (J2:=σ) ⋯ rfl rfl ac
  (bx ay (ba (x:="shape") ⋯ ac hs rfl hv.at_ rfl rfl)) (eJ (X:=X) (xs:=[vI ss]) ac (rU h1 (n+18) (P28 X))))
  (bJ (x:="prod") (fv:= .ref 28) (v:= .v (.lst σ.length)) (J2:=σ++[aa.lst (xs.map V.int)]) ⋯ rfl rfl ac (bx ay
   (bN (S:=fun u_=>True) (x:= .v (vI xs)) (t:= .seq (xs.map V.int) 0) (as:=xs) (f:=V.int) (b:=fun p=>[("s",.int p)]) (P:=fun u_=>True) (F:=V.int) ⋯ rfl ⋯ (bx ⋯ (aT (x:="new_shape") ⋯ ac hx)) rfl (fun u_=>trivial)
    (ai _ _) (fD ‹_› (by exact ac)) trivial (fun p hp own acc u_=>⟨trivial,by kernel_rfl,by kernel_rfl⟩))) (eJ (X:=X) (xs:=[.lst σ.length]) ac (Dc h2 (by exact GG) (n+18) (P28 X)))) rfl
theorem E9{x:Int}{r:List Int}(hx:own.lookup ("new_shape":Str)=some (vI (x::r)))(n:Nat):aR (cc X) (lv (cc X) (n+20)) (ah X 834 own) σ (St X 834 5)=some (.ok .next (ah X 834 own) σ):=
 dq rfl (Ad (es:=[ch (sx (St X 834 5) 0) 1,ch (sx (St X 834 5) 0) 2]) rfl (bw (op:= .Eq) (J2:=σ) (x:=vI (x::r)) (y:= .tup []) rfl ay (aT (x:="new_shape") rfl ac hx) rfl rfl)) rfl
noncomputable abbrev w6(X:Xp):=sx (si (aj (St X 834 6)) 0) 0
noncomputable abbrev cu(k:Nat)(arg:V):List (Str×V):=[("new_shape",arg),("self",.inst ag k)]
theorem wF(hv:eF σ k ss ts o M (.bool true))(hl:ss.length≤4)(hs: ∀s∈ss,1≤s∧s≤100)(hx:bP xs)(hx0:xs≠[])(n:Nat):
 ((xs.all fun s=>decide (0≤s))=true→(aQ 1 xs==aQ 1 ss)=true→gy ((lv (cc X) (n+80)).cf σ 834 [.inst ag k,vI xs] []) σ xs):=by
 intro ha hp
 have fin: ∀so o,(lv (cc X) (n+79)).exs (ah X 834 (cu k (vI xs))) σ (aB X 834)=some so→ir so=some o→(lv (cc X) (n+80)).cf σ 834 [.inst ag k,vI xs] []=some o:=fun so o h1 h2=>bo (a:=834) (binds:=[("self",.inst ag k),("new_shape",vI xs)]) ⋯ ⋯ ac h1 h2
 rw[show aB X 834=[St X 834 0,St X 834 1,St X 834 2,St X 834 3,St X 834 4,St X 834 5,St X 834 6,St X 834 7,St X 834 8,St X 834 9]from rfl]at fin
 have t0:=Cr (X:=X) (own:=cu k (vI xs)) (xs:=xs) rfl rfl hv hl (n+58)
 cases q:ss==xs with
 |true=>
  rw[q]at t0;have:=Gj q;subst this
  exact⟨k,σ,_,_,_,_,Gu _,fin _ _ (bj (en':=ah X 834 (cu k (vI ss))) (eM rfl t0 rfl)) rfl,hv.at_⟩
 |false=>
  rw[q]at t0
  have t1:=Dm (X:=X) (σ:=σ) (own:=cu k (vI xs)) (xs:=xs) rfl (by have:=hx.1;exact bf ‹_› (by exact ac)) (n+58)
  rw[ha]at t1;have s0:aR (cc X) (lv (cc X) (n+78)) (ah X 834 (cu k (vI xs))) σ (St X 834 0)=some (.ok .next (ah X 834 (cu k (vI xs))) σ):=dq rfl t0 rfl;have s1:aR (cc X) (lv (cc X) (n+78)) (ah X 834 (cu k (vI xs))) σ (St X 834 1)=some (.ok .next (ah X 834 (cu k (vI xs))) σ):=ci (v:=true) rfl t1;have s2:=DB (X:=X) (own:=cu k (vI xs)) rfl hv (fun s h=>(hs s h).1) (n+58)
  have s3:=Cd (X:=X) (own:=cu k (vI xs)) rfl hv (bf ‹_› (by exact ac)) (n+48)
  have hS:bP ss:=⟨hl,fun s h=>by have:=hs s h;exact qh ‹_› (by exact ac)⟩
  have t4:=zv (X:=X) (own:=("self_all_int",.bool true)::cu k (vI xs)) rfl rfl hv hS hx (n+37)
  have e:(aQ 1 ss==aQ 1 xs)=true:=by rw[beq_iff_eq]at hp⊢;exact hp.symm
  rw[e]at t4
  have s40:=Af (X:=X) (σ:=σ) (own:=("self_all_int",.bool true)::cu k (vI xs)) (xs:=xs) rfl (by have:=hx.1;exact bf ‹_› (by exact ac)) (n+57)
  have s41:aR (cc X) (lv (cc X) (n+77)) (ah X 834 (("self_all_int",.bool true)::cu k (vI xs))) σ (w4 X 1)=some (.ok .next (ah X 834 (("self_all_int",.bool true)::cu k (vI xs))) (σ++[aa.lst (xs.map V.int)])):=dq rfl t4 rfl
  have s4:aR (cc X) (lv (cc X) (n+78)) (ah X 834 (("self_all_int",.bool true)::cu k (vI xs))) σ (St X 834 4)=some (.ok .next (ah X 834 (("self_all_int",.bool true)::cu k (vI xs))) (σ++[aa.lst (xs.map V.int)])):=by
   refine eM rfl (dn (x:= .bool true) ac (aT (x:="self_all_int") rfl ac rfl) rfl) ?_
   rw[show aj (St X 834 4)=[w4 X 0,w4 X 1]from rfl]
   exact ab s40 (ao s41)
  refine rq (Hp hx0) fun x r zz2=> ?_;subst zz2;have s5:=E9 (X:=X) (σ:=σ++[aa.lst ((x::r).map V.int)]) (own:=("self_all_int",.bool true)::cu k (vI (x::r))) rfl (n+58);have p1:=Gm σ [aa.lst ((x::r).map V.int)];have fM:=hv.app p1;generalize σ++[aa.lst ((x::r).map V.int)]=KI at s4 s5 p1 fM
  have hp0: ∀s∈x::r,0≤s:=fun s h=>by
   have:=Gw.mp ha s h
   exact of_decide_eq_true (by assumption)
  have:=zm (X:=X) (σ:=KI) hx hx0 hp0 (n+24);have:=jd (X:=X) (own:=("self_all_int",.bool true)::cu k (vI (x::r))) (e:=w6 X) (a:=834) (args:=[ch (w6 X) 1]) (xs:=[vI (x::r)]) rfl ac rfl (kA ac (bx ay (aT (x:="new_shape") rfl ac rfl))) (Gu _) this;refine gb this fun J1 T O M' B' p hr=> ?_
  have s6:aR (cc X) (lv (cc X) (n+78)) (ah X 834 (("self_all_int",.bool true)::cu k (vI (x::r)))) KI (St X 834 6)=some (.ok (.ret (.inst ag J1.length)) (ah X 834 (("self_all_int",.bool true)::cu k (vI (x::r)))) (J1++[aa.dct (bb (vI (x::r)) T O M' B')])):=by
   refine eM rfl (dn (x:= .bool true) ac (ba (x:="contiguous") (y:= .bool true) rfl ac rfl rfl fM.at_ rfl rfl) rfl) ?_
   rw[show aj (St X 834 6)=[si (aj (St X 834 6)) 0]from rfl]
   exact ao (du rfl hr)
  exact⟨_,_,T,O,M',B',(p1.trans p).trans (Gm _ _),fin _ _ (ab s0 (ab s1 (ab s2 (ab s3 (ab s4 (ab s5 (bj s6))))))) rfl,cB⟩
theorem uG(hv:eF σ k ss ts o M B)(hl:ss.length≤4)(hs: ∀s∈ss,1≤s∧s≤100)(hx:bP xs)(n:Nat)(h:((xs.all fun s=>decide (0≤s))&&aQ 1 xs==aQ 1 ss)=false):cV ((lv (cc X) (n+80)).cf σ 834 [.inst ag k,vI xs] []) σ:=by
 have fin: ∀so o,(lv (cc X) (n+79)).exs (ah X 834 (cu k (vI xs))) σ (aB X 834)=some so→ir so=some o→(lv (cc X) (n+80)).cf σ 834 [.inst ag k,vI xs] []=some o:=fun so o h1 h2=>bo (a:=834) (binds:=[("self",.inst ag k),("new_shape",vI xs)]) ⋯ ⋯ ac h1 h2
 rw[show aB X 834=[St X 834 0,St X 834 1,St X 834 2,St X 834 3,St X 834 4,St X 834 5,St X 834 6,St X 834 7,St X 834 8,St X 834 9]from rfl]at fin
 have t0:=Cr (X:=X) (own:=cu k (vI xs)) (xs:=xs) rfl rfl hv hl (n+58)
 have q:(ss==xs)=false:=by
  rw[beq_eq_false_iff_ne];rintro rfl
  have:(ss.all fun s=>decide (0≤s))=true:=Gw.mpr fun s q=>by have:=hs s q;exact decide_eq_true (iil ‹_› (by exact ac))
  rw[this,beq_self_eq_true]at h;exact B7 h
 rw[q]at t0
 have t1:=Dm (X:=X) (σ:=σ) (own:=cu k (vI xs)) (xs:=xs) rfl (by have:=hx.1;exact bf ‹_› (by exact ac)) (n+58)
 have s0:aR (cc X) (lv (cc X) (n+78)) (ah X 834 (cu k (vI xs))) σ (St X 834 0)=some (.ok .next (ah X 834 (cu k (vI xs))) σ):=dq rfl t0 rfl
 cases ha:xs.all fun s=>decide (0≤s)with
 |false=>
  rw[ha]at t1;exact⟨"AssertionError",σ,.inl rfl,Gu _,fin _ _ (ab s0 (bM (ci (v:=false) rfl t1))) rfl⟩
 |true=>
  rw[ha]at t1 h;have s1:aR (cc X) (lv (cc X) (n+78)) (ah X 834 (cu k (vI xs))) σ (St X 834 1)=some (.ok .next (ah X 834 (cu k (vI xs))) σ):=ci (v:=true) rfl t1;have s2:=DB (X:=X) (own:=cu k (vI xs)) rfl hv (fun s h=>(hs s h).1) (n+58)
  have s3:=Cd (X:=X) (own:=cu k (vI xs)) rfl hv (bf ‹_› (by exact ac)) (n+48)
  have hS:bP ss:=⟨hl,fun s h=>by have:=hs s h;exact qh ‹_› (by exact ac)⟩
  have t4:=zv (X:=X) (own:=("self_all_int",.bool true)::cu k (vI xs)) rfl rfl hv hS hx (n+37)
  have e:(aQ 1 ss==aQ 1 xs)=false:=by
   rw[FW,beq_eq_false_iff_ne]at h;rw[beq_eq_false_iff_ne];exact fun q=>h q.symm
  rw[e]at t4
  have s40:=Af (X:=X) (σ:=σ) (own:=("self_all_int",.bool true)::cu k (vI xs)) (xs:=xs) rfl (by have:=hx.1;exact bf ‹_› (by exact ac)) (n+57)
  have s41:aR (cc X) (lv (cc X) (n+77)) (ah X 834 (("self_all_int",.bool true)::cu k (vI xs))) σ (w4 X 1)=some (.exc "ValueError" (ah X 834 (("self_all_int",.bool true)::cu k (vI xs))) (σ++[aa.lst (xs.map V.int)])):=eM rfl t4 rfl
  have s4:aR (cc X) (lv (cc X) (n+78)) (ah X 834 (("self_all_int",.bool true)::cu k (vI xs))) σ (St X 834 4)=some (.exc "ValueError" (ah X 834 (("self_all_int",.bool true)::cu k (vI xs))) (σ++[aa.lst (xs.map V.int)])):=by
   refine eM rfl (dn (x:= .bool true) ac (aT (x:="self_all_int") rfl ac rfl) rfl) ?_
   rw[show aj (St X 834 4)=[w4 X 0,w4 X 1]from rfl]
   exact ab s40 (bM s41)
  exact⟨"ValueError",_,.inr rfl,Gm _ _,fin _ _ (ab s0 (ab s1 (ab s2 (ab s3 (bM s4))))) rfl⟩
end
section
noncomputable def W(kS kL:Nat)(σ:Sg)(ns:List Int)(a b:Int):Sg:=(σ.set kL (aa.lst (ns.map V.int))).set kS (aa.lst [.lst kL,.int a,.int b])
structure Kk(kS kL:Nat)(σ:Sg):Prop where
 ne:kS≠kL
 s:kS<σ.length
 l:kL<σ.length
noncomputable def eq(ns:List Int)(a b:Int):Prop:=ns.length≤100∧0≤b∧b<2147483647
section
variable {kS kL:Nat}{ns ns':List Int}{a b a' b':Int}
theorem lg:(W kS kL σ ns a b).length=σ.length:=by simp[W]
theorem EF(h:Kk kS kL σ):(W kS kL σ ns a b)[kS]? =some (aa.lst [.lst kL,.int a,.int b]):=by
 unfold W;rw[Hk (by rw[G2];exact h.s)]
theorem Ef(h:Kk kS kL σ):(W kS kL σ ns a b)[kL]? =some (aa.lst (ns.map V.int)):=by
 unfold W;rw[GX h.ne,Hk h.l]
theorem B2(h1:k≠kS)(h2:k≠kL):(W kS kL σ ns a b)[k]? =σ[k]? :=by
 unfold W;rw[GX (Ne.symm h1),GX (Ne.symm h2)]
theorem uH:(W kS kL σ ns a b).set kS (aa.lst [.lst kL,.int a',.int b'])=W kS kL σ ns a' b':=by
 unfold W;rw[List.set_set]
theorem A6(h:Kk kS kL σ):(W kS kL σ ns a b).set kL (aa.lst (ns'.map V.int))=W kS kL σ ns' a b:=by
 unfold W;rw[List.set_comm _ _ h.ne,List.set_set]
theorem ia(h:Kk kS kL σ):W kS kL (σ++ext) ns a b=W kS kL σ ns a b++ext:=by
 unfold W
 rw[List.set_append_left _ _ h.l,List.set_append_left _ _ (by rw[G2];exact h.s)]
theorem Kk.app(h:Kk kS kL σ):Kk kS kL (σ++ext):=⟨h.ne,by rw[GE];have:=h.s;exact ady ‹_›,by rw[GE];have:=h.l;exact ady ‹_›⟩
end
theorem oX(hk:σ[k]? =some (aa.lst l))(h:l[i]? =some y)(hi:i<2^62):gn σ (.lst k) (i:Int)=some y:=by
 have hl:=(Gy.mp h).1;show(aG σ k).bind _=_;rw[aN hk,H7];unfold gG;refine dJ (n62 hi) ?_;rw[Co hl];exact h
theorem i8{j:Int}(he:e= .Subscript (ch e 0) (ch e 1) (ps e))(hn:bz (ch e 1)=true)(h1:f en σ (ch e 0)=some (.ok (.lst k) J2))(h2:f en J2 (ch e 1)=some (.ok (.int j) J6))(h3:dN J6 k j y=some Kn):eH c f (n+1) e en σ y=some (en,Kn):=by
 rw[he]
 show(if bz (ch e 1)=true then _ else none)=_
 rw[if_pos hn,h1];show(f en J2 (ch e 1)).bind _=_;rw[h2];show(dN J6 k j y).map _=_;rw[h3];rfl
theorem vZ{i:Int}(h:kX σ k i=some (y,J2)):aH c cf σ (.builtin "list.pop") [.v (.lst k),.v (.int i)] []=some (.ok (.v y) J2):=by
 have:aH c cf σ (.builtin "list.pop") [.v (.lst k),.v (.int i)] []=(kX σ k i).map fun p=> .ok (.v p.1) p.2:=rfl;rw[this,h];rfl
theorem wc(h:σ[k]? =some (.lst l)):ij c σ (.lst k) "pop"=some (.builtin "list.pop",[.lst k]):=by
 show(aG σ k).bind _=_;rw[aN h];rfl
theorem oi{a b:Int}(h0:b≠0)(hb:bG b=true):mw σ .Mod (.int a) (.int b)=some (.int (a.fmod b),σ):=by
 show(if b≠0∧bG b=true then some (a.fmod b)else none).map _=_
 rw[if_pos ⟨h0,hb⟩];rfl
end
section
variable {X:Xp}{own:List (Str×V)}{kS kL:Nat}{ns:List Int}{a b m:Int}
noncomputable abbrev gF(kS:Nat)(m:Int):List (Str×V):=[("many",.int m),("state",.lst kS)]
theorem iH{y:Int}(h:Kk kS kL σ):dN (W kS kL σ ns a b) kS 1 (.int y)=some (W kS kL σ ns y b):=by
 show(aG _ _).bind _=_
 rw[aN (EF h),H7,if_pos ⟨by decide,by decide,show 3≤2^20 by decide⟩]
 show some ((W kS kL σ ns a b).set kS (aa.lst [.lst kL,.int y,.int b]))=_;rw[uH]
theorem qQ{y:Int}(h:Kk kS kL σ):dN (W kS kL σ ns a b) kS 2 (.int y)=some (W kS kL σ ns a y):=by
 show(aG _ _).bind _=_
 rw[aN (EF h),H7,if_pos ⟨by decide,by decide,show 3≤2^20 by decide⟩]
 show some ((W kS kL σ ns a b).set kS (aa.lst [.lst kL,.int a,.int y]))=_;rw[uH]
theorem zu{aF:Addr}(h:Kk kS kL σ)(hs:own.lookup ("state":Str)=some (.lst kS))(he:e= .Subscript (.Name ("state":Str) (ps (ch e 0))) (ch e 1) (ps e))(hk:dM X aF "state"=true)(hn:bz (ch e 1)=true)(hi:(lv (cc X) (n+3)).ev (ah X aF own) (W kS kL σ ns a b) (ch e 1)=some (.ok (.int (i:Nat)) (W kS kL σ ns a b)))(hy:[V.lst kL,.int a,.int b][i]? =some y)(hi':i<3):(lv (cc X) (n+4)).ev (ah X aF own) (W kS kL σ ns a b) e=some (.ok y (W kS kL σ ns a b)):=by
 refine(congrArg ((lv (cc X) (n+4)).ev (ah X aF own) (W kS kL σ ns a b)) he).trans ?_
 exact sk hn (fO (Er hk hs)) hi (oX (EF h) hy (Dh ‹_› (by exact ac)))
noncomputable abbrev xk(X:Xp):=si (aj (St X 1039 0)) 0
noncomputable abbrev tkA(X:Xp):=si (aj (xk X)) 0
noncomputable abbrev tkB(X:Xp)(i:Nat):=si (cQ (xk X)) i
theorem sZ(h:Kk kS kL σ)(n:Nat):(lv (cc X) (n+10)).tr (ah X 1039 (gF kS m)) (W kS kL σ ns a b) (sx (St X 1039 0) 0)=some (.ok (a==0) (W kS kL σ ns a b)):=
 bw rfl ay (zu (i:=1) h rfl rfl ac ac rfl rfl (by exact Hz _)) rfl rfl
theorem u6{x:Int}{r:List Int}(h:Kk kS kL σ)(hl:r.length≤100)(n:Nat):aR (cc X) (lv (cc X) (n+20)) (ah X 1039 (gF kS m)) (W kS kL σ (x::r) a b) (xk X)=some (.ok .next (ah X 1039 (gF kS m)) (W kS kL σ r x b)):=by
 have t:(lv (cc X) (n+20)).tr (ah X 1039 (gF kS m)) (W kS kL σ (x::r) a b) (sx (xk X) 0)=some (.ok true (W kS kL σ (x::r) a b)):=
  dn (x:= .lst kL) ⋯ (zu (i:=0) h rfl rfl ac ac rfl rfl (by exact Hw _)) (by
   show(aG _ kL).bind _=_;rw[aN (Ef h)]
   show(if _ then _ else none)=_
   rw[if_pos (by rw[Gk,GI];exact Cz ‹_› (by exact ac))];rfl)
 have hp:kX (W kS kL σ (x::r) a b) kL 0=some (.int x,W kS kL σ r a b):=by
  show(aG _ _).bind _=_;rw[aN (Ef h)]
  refine dJ ⟨by rw[Gk,GI];exact Cz ‹_› (by exact ac),by exact ac⟩ ?_
  have e:seqIndex? 0 ((x::r).map V.int).length=some 0:=by simp[seqIndex?];try omega
  refine(e).symm▸ ?_;refine(?_:some (V.int x,(W kS kL σ (x::r) a b).set kL (aa.lst (r.map V.int)))=_);rw[A6 h]
 refine eM rfl t ?_
 rw[show aj (xk X)=[tkA X]from rfl]
 refine ao (fY (y:= .int x) (J2:=W kS kL σ r a b) rfl ac ⋯ ?_ (i8 (j:=1) ⋯ ⋯ rfl rfl (iH h)))
 exact ki ac (gg (name:="pop") (args:=[ch (sx (tkA X) 0) 1]) (fv:= .builtin "list.pop") (first:=[.lst kL]) (vs:=[.v (.int 0)]) ⋯ ⋯ (zu (i:=0) h rfl ⋯ ac ⋯ ⋯ rfl (by decide))
  (wc (Ef h)) ac (kA ⋯ (bx ay rfl)) (vZ hp))
noncomputable def uu(b:Int):Int:=(b*48271+11).fmod 2147483647
theorem tM(h:Kk kS kL σ)(hb:eq [] a b)(n:Nat):aR (cc X) (lv (cc X) (n+20)) (ah X 1039 (gF kS m)) (W kS kL σ [] a b) (xk X)=some (.ok .next (ah X 1039 (gF kS m)) (W kS kL σ [] (uu b) (uu b))):=by
 have t:(lv (cc X) (n+20)).tr (ah X 1039 (gF kS m)) (W kS kL σ [] a b) (sx (xk X) 0)=some (.ok false (W kS kL σ [] a b)):=
  dn (x:= .lst kL) ⋯ (zu (i:=0) h rfl rfl ac ac rfl rfl (by exact Hw _)) (by
   show(aG _ kL).bind _=_;rw[aN (Ef h)]
   rfl)
 refine dq rfl t ?_
 rw[show cQ (xk X)=[tkB X 0,tkB X 1]from rfl]
 have s0:bG b=true:=be (k:=2147483647) (by have:=hb.2;exact iat ‹_› (by exact ac)) (by decide)
 refine ab (en':=ah X 1039 (gF kS m)) (J1:=W kS kL σ [] a (uu b)) (fY (y:= .int (uu b)) (J2:=W kS kL σ [] a b) rfl ac ⋯ ?_ (i8 (k:=kS) (j:=2) (J2:=W kS kL σ [] a b) (J6:=W kS kL σ [] a b) ⋯ ⋯ rfl rfl (qQ h)))
  (ao (fY (y:= .int (uu b)) (J2:=W kS kL σ [] a (uu b)) rfl ac ⋯ (zu (i:=2) h rfl ⋯ ac ⋯ rfl rfl (by exact Hx _)) (i8 (k:=kS) (j:=1) (J2:=W kS kL σ [] a (uu b)) (J6:=W kS kL σ [] a (uu b)) ⋯ ⋯ rfl rfl (iH h))))
 exact cE (op:= .Mod) (x:= .int (b*48271+11)) (y:= .int 2147483647) (J2:=W kS kL σ [] a b) ⋯ (cE (op:= .Add) (x:= .int (b*48271)) (y:= .int 11) (J2:=W kS kL σ [] a b) ⋯ (cE ⋯ (zu (i:=2) h rfl ⋯ ac ⋯ ⋯ rfl (by exact Hx _)) ⋯ (gE s0 (by exact ac))) ⋯ rfl) rfl (oi (by omega) (by exact ac))
theorem Ay(b:Int):0≤uu b∧uu b<2147483647:=⟨Gh _ (by decide),Gi _ (by decide)⟩
theorem sL(h:Kk kS kL σ)(hm:m≠0)(hm':bG m=true)(n:Nat):(lv (cc X) (n+20)).exs (ah X 1039 (gF kS m)) (W kS kL σ ns a b) [St X 1039 1,St X 1039 2,St X 1039 3]=some (.ok (.ret (.int (a.fmod m))) (ah X 1039 (("found",.int (a.fmod m))::gF kS m)) (W kS kL σ ns (a.fdiv m) b)):=by
 refine ab (en':=ah X 1039 (("found",.int (a.fmod m))::gF kS m)) (J1:=W kS kL σ ns a b) (cb rfl ac ac (cE rfl (zu (i:=1) h rfl ⋯ ac ac rfl rfl (by exact Hz _)) rfl (oi hm hm'))) ?_
 refine ab (en':=ah X 1039 (("found",.int (a.fmod m))::gF kS m)) (J1:=W kS kL σ ns (a.fdiv m) b) (fY rfl ac rfl (cE rfl (zu (i:=1) h rfl rfl ac ac rfl rfl (by exact Hz _)) rfl (oq hm hm'))
  (i8 (j:=1) rfl ac rfl rfl (iH h))) ?_
 exact ao rfl
theorem nS(h:Kk kS kL σ)(ho:eq ns a b)(hm:0<m)(hm':m≤1000)(n:Nat): ∃(y:Int) (ns':List Int) (a' b':Int),0≤y∧y<m∧eq ns' a' b'∧(lv (cc X) (n+23)).cf (W kS kL σ ns a b) 1039 [.lst kS,.int m] []=some (.ok (.int y) (W kS kL σ ns' a' b')):=by
 have hm0:m≠0:=by exact npn ‹_›
 have hsm:bG m=true:=be (k:=1000) (iad ‹_› ‹_› (by exact ac)) (by decide)
 have fin: ∀(ns':List Int) (a' b':Int),eq ns' a' b'→aR (cc X) (lv (cc X) (n+21)) (ah X 1039 (gF kS m)) (W kS kL σ ns a b) (St X 1039 0)=some (.ok .next (ah X 1039 (gF kS m)) (W kS kL σ ns' a' b'))→ ∃(y:Int) (ns':List Int) (a' b':Int),0≤y∧y<m∧eq ns' a' b'∧(lv (cc X) (n+23)).cf (W kS kL σ ns a b) 1039 [.lst kS,.int m] []=some (.ok (.int y) (W kS kL σ ns' a' b')):=by
  intro ns' a' b' ho' s0
  refine⟨a'.fmod m,ns',a'.fdiv m,b',Gh _ hm,Gi _ hm,ho',bo (a:=1039) (binds:=[("state",.lst kS),("many",.int m)]) (so:= .ok (.ret (.int (a'.fmod m))) (ah X 1039 (("found",.int (a'.fmod m))::gF kS m)) (W kS kL σ ns' (a'.fdiv m) b')) ⋯ ⋯ ac ?_ rfl⟩
  rw[show aB X 1039=[St X 1039 0,St X 1039 1,St X 1039 2,St X 1039 3]from rfl]
  exact ab s0 (sL h hm0 hsm (n+2))
 have t:=sZ (X:=X) (m:=m) (ns:=ns) (a:=a) (b:=b) h (n+11)
 cases q:a==0 with
 |false=>
  rw[q]at t;exact fin ns a b ho (dq rfl t rfl)
 |true=>
  rw[q]at t
  have key: ∀(ns':List Int) (a' b':Int),eq ns' a' b'→aR (cc X) (lv (cc X) (n+20)) (ah X 1039 (gF kS m)) (W kS kL σ ns a b) (xk X)=some (.ok .next (ah X 1039 (gF kS m)) (W kS kL σ ns' a' b'))→ ∃(y:Int) (ns':List Int) (a' b':Int),0≤y∧y<m∧eq ns' a' b'∧(lv (cc X) (n+23)).cf (W kS kL σ ns a b) 1039 [.lst kS,.int m] []=some (.ok (.int y) (W kS kL σ ns' a' b')):=by
   intro ns' a' b' ho' s;refine fin ns' a' b' ho' (eM rfl t ?_)
   rw[show aj (St X 1039 0)=[xk X]from rfl]
   exact ao s
  cases ns with
  |nil=>
   have:=Ay b;exact key [] (uu b) (uu b) ⟨ho.1,this⟩ (tM h ho n)
  |cons x r=>
   have h1:=ho.1;rw[GI]at h1
   exact key r x b ⟨by exact HH (by assumption),ho.2⟩ (u6 h (by exact HH (by assumption)) n)
end
section
section
theorem CP{S:Sg→Prop}{P:En→Prop}{J:Nat→List V→Sg→Prop}{as:List α}{f:α→V}{K:Nat}(ht:aC S t (as.map f))(hS: ∀i acc σ,J i acc σ→S σ)(hl:as.length<av)
 (step: ∀i (hi:i<as.length) en acc σ,J i acc σ→P en→ ∃en' y J6 Kn,P en'∧g target en σ (f as[i])=some (en',σ)∧ev en' σ elt=some (.ok y J6)∧cw J6 K y=some Kn∧J (i+1) (acc++[y]) Kn) (h0:J 0 [] σ) (hp:P en):
 ∃ys J1,J as.length ys J1∧cy g tr ev target [] elt K av en σ t=some J1:=by
 refine aK ht fun ts zz1 h=> ?_;subst zz1
 have key: ∀(m q i:Nat) (en:En) (acc:List V) (σ:Sg),i+m=as.length→J i acc σ→P en→ ∃ys J1,J as.length ys J1∧cy g tr ev target [] elt K (m+q+1) en σ (ts i)=some J1:=by
  intro m
  induction m with
  |zero=>
   intro q i en acc σ hi hj hp
   obtain rfl:i=as.length:=by assumption
   have e:=(h σ (hS _ _ _ hj)).2;rw[Gk]at e;refine⟨acc,σ,hj,?_⟩
   refine(show 0+q+1=q+1 from by simp+arith).symm▸ ?_
   exact mU e
  |succ m ih=>
   intro q i en acc σ hi hj hp
   have hlt:i<as.length:=by exact Eu ‹_›
   refine dm fun kk=> ?_;obtain⟨en',y,J6,Kn,hp',h1,h2,h3,h4⟩:=step i hlt en acc σ hj hp<;>(refine kk ?_;clear kk)
   have hn:=(h σ (hS _ _ _ hj)).1 i (f as[i]) (by simp[hlt])
   refine dm fun kk=> ?_;refine bc (ih q (i+1) en' (acc++[y]) Kn (Dr ‹_›) h4 hp') fun ys J1 h5 h6=> ?_<;>(refine kk ?_;clear kk)
   refine⟨ys,J1,h5,?_⟩
   refine(show m+1+q+1=(m+q+1)+1 from by simp+arith).symm▸ ?_
   generalize m+q+1=w at h6⊢
   rw[mS hn h1 (show bL tr _ _ []=_ from rfl) h2 h3,h6]
 have:=key as.length (av-1-as.length) 0 en [] σ (by simp+arith) h0 hp
 rw[show as.length+(av-1-as.length)+1=av from by exact Eh ‹_›]at this
 exact this
theorem xE{S:Sg→Prop}{P:En→Prop}{J:Nat→List V→Sg→Prop}{x:IV}{as:List α}{f:α→V}(he:iA e)(hi:d7 e=[])(hf:gM en e=true)(hx:(lv c n).iv en σ (ch e 2)=some (.ok x J2))(ht:aA J2 x=some t)(tl:aC S t (as.map f))(hS: ∀i acc σ,J i acc σ→S σ)(hl:as.length<4096)
 (step: ∀i (hi:i<as.length) en acc σ,J i acc σ→P en→ ∃en' y J6 Kn,P en'∧di 8 (ch e 1) en σ (f as[i])=some (en',σ)∧(lv c n).ev en' σ (ch e 0)=some (.ok y J6)∧cw J6 J2.length y=some Kn∧J (i+1) (acc++[y]) Kn) (h0:J 0 [] (J2++[aa.lst []])) (hp:P (dP (dF e).names en)):
 ∃ys J1,J as.length ys J1∧(lv c (n+1)).ev en σ e=some (.ok (.lst J2.length) J1):=by
 refine dm fun kk=> ?_;refine bc (CP (tr:=(lv c n).tr) tl hS hl step h0 hp) fun ys J1 h1 h2=> ?_<;>(refine kk ?_;clear kk)
 refine⟨ys,J1,h1,jx he (n7 hf hx ht ?_)⟩;refine(hi).symm▸ ?_;exact h2
theorem xO{A B:Sg}(h:acc.length≤1000):cw (A++[aa.lst acc]++B) A.length y=some (A++[aa.lst (acc++[y])]++B):=by
 show(aG (A++[aa.lst acc]++B) A.length).bind _=_
 rw[aN (l:=acc) (by simp)]
 refine dJ (bf ‹_› (by exact ac)) ?_
 simp[List.set_append]
end
variable {X:Xp}{own:List (Str×V)}{kS kL:Nat}{ns:List Int}{a b m:Int}
theorem nd(h:Kk kS kL σ)(ho:eq ns a b)(hm:0<m)(hm':m≤1000)(he:e= .Call (.Name ("_law_take":Str) (ps (ch e 0))) [ch e 1,ch e 2] [] (ps e))(hg:cG [ch e 1,ch e 2]=none)(hx:aP (cc X) en "_law_take"=some (.val (.ref 1039)))(hc:ak [ch e 1,ch e 2]=true)(hi:aV (ch e 1)=false)(hj:aV (ch e 2)=false)
 (n:Nat) (h1:(lv (cc X) (n+22)).ev en (W kS kL σ ns a b) (ch e 1)=some (.ok (.lst kS) (W kS kL σ ns a b))) (h2:(lv (cc X) (n+22)).ev en (W kS kL σ ns a b) (ch e 2)=some (.ok (.int m) (W kS kL σ ns a b))):
 ∃(y:Int) (ns':List Int) (a' b':Int),0≤y∧y<m∧eq ns' a' b'∧(lv (cc X) (n+24)).ev en (W kS kL σ ns a b) e=some (.ok (.int y) (W kS kL σ ns' a' b')):=by
 refine dm fun kk=> ?_;refine cr (nS (X:=X) h ho hm hm' n) fun y ns' a' b' p1 p2 p3 p4=> ?_<;>(refine kk ?_;clear kk)
 exact⟨y,ns',a',b',p1,p2,p3,ki (by rw[he];rfl) (cF he hg hx (by rw[hc];exact ac) (zN hc (bx hi h1) (bx hj h2)) (eJ (xs:=[.lst kS,.int m]) ⋯ p4))⟩
theorem oj(h:Kk kS kL σ)(ho:eq ns a b)(hm:0<m)(hm':m≤1000)(hlen:(ys.length:Int)=m)(he:e= .Subscript (ch e 0) (ch e 1) (ps e))(hns:bz (ch e 1)=true)(he1:ch e 1= .Call (.Name ("_law_take":Str) (ps (ch (ch e 1) 0))) [ch (ch e 1) 1,ch (ch e 1) 2] [] (ps (ch e 1)))(hg:cG [ch (ch e 1) 1,ch (ch e 1) 2]=none)(hx:aP (cc X) en "_law_take"=some (.val (.ref 1039)))(hc:ak [ch (ch e 1) 1,ch (ch e 1) 2]=true)(hi:aV (ch (ch e 1) 1)=false)(hj:aV (ch (ch e 1) 2)=false)
 (n:Nat) (hd:(lv (cc X) (n+24)).ev en (W kS kL σ ns a b) (ch e 0)=some (.ok (.lst (W kS kL σ ns a b).length) (W kS kL σ ns a b++[aa.lst ys]))) (h1: ∀σz,(lv (cc X) (n+22)).ev en σz (ch (ch e 1) 1)=some (.ok (.lst kS) σz)) (h2: ∀σz,(lv (cc X) (n+22)).ev en σz (ch (ch e 1) 2)=some (.ok (.int m) σz)):
 ∃(y:V) (ns':List Int) (a' b':Int),y∈ys∧eq ns' a' b'∧(lv (cc X) (n+25)).ev en (W kS kL σ ns a b) e=some (.ok y (W kS kL (σ++[aa.lst ys]) ns' a' b')):=by
 rw[←ia h]at hd;refine dm fun kk=> ?_;refine cr (nd (e:=ch e 1) (σ:=σ++[aa.lst ys]) h.app ho hm hm' he1 hg hx hc hi hj n (h1 _) (h2 _)) fun y ns' a' b' p1 p2 p3 p4=> ?_<;>(refine kk ?_;clear kk)
 refine oE (Int.eq_ofNat_of_zero_le p1) fun i zz1=> ?_;subst zz1
 have hiL:i<ys.length:=by exact leq ‹_› ‹_›
 refine⟨ys[i],ns',a',b',GN hiL,p3,cW he hns hd p4 (oX ?_ (GB hiL) (by omega))⟩
 rw[lg,B2 (by have:=h.s;exact HJ (by assumption)) (by have:=h.l;exact HJ (by assumption))]
 simp
theorem p_{Q:V→Prop}{P:List (Str×V)→Prop}{x:IV}{as:List α}{f:α→V}(h:Kk kS kL σ)(ho:eq ns a b)(he:e= .Call (.Name ("tuple":Str) (ps (ch e 0))) [ch e 1] [] (ps e))(hg:cG [ch e 1]=none)(hx:aP (cc X) en "tuple"=some (.val (.type "tuple")))(hc:ak [ch e 1]=true)(hi:aV (ch e 1)=false)
 (he1:iA (ch e 1)) (hi1:d7 (ch e 1)=[]) (hf:gM en (ch e 1)=true) (n:Nat) (hit:(lv (cc X) n).iv en (W kS kL σ ns a b) (ch (ch e 1) 2)=some (.ok x (W kS kL σ ns a b))) (ht:aA (W kS kL σ ns a b) x=some t) (tl:aC (fun u_=>True) t (as.map f)) (hl:as.length≤900)
 (step: ∀i (hi:i<as.length) own' J1 ns a b,P own'→Kk kS kL J1→eq ns a b→ ∃own'' y ns' a' b' ext',P own''∧Q y∧eq ns' a' b'∧di 8 (ch (ch e 1) 1) ⟨al (dF (ch e 1)).names en,own',en.fre,none⟩ (W kS kL J1 ns a b) (f as[i])=some (⟨al (dF (ch e 1)).names en,own'',en.fre,none⟩,W kS kL J1 ns a b)∧
  (lv (cc X) n).ev ⟨al (dF (ch e 1)).names en,own'',en.fre,none⟩ (W kS kL J1 ns a b) (ch (ch e 1) 0)=some (.ok y (W kS kL (J1++ext') ns' a' b')))
 (hp:P (dP (dF (ch e 1)).names en).own):
 ∃(ys:List V) (ext:Sg) (ns':List Int) (a' b':Int),ys.length=as.length∧(∀y∈ys,Q y)∧eq ns' a' b'∧(lv (cc X) (n+3)).ev en (W kS kL σ ns a b) e=some (.ok (.tup ys) (W kS kL (σ++ext) ns' a' b')):=by
 have hsl:=h.s;have hll:=h.l;have R:=xE (S:=fun u_=>True) (P:=fun en'=> ∃own',en'=⟨al (dF (ch e 1)).names en,own',en.fre,none⟩∧P own')
  (J:=fun i acc J1=> ∃(ext:Sg) (ns:List Int) (a b:Int),acc.length=i∧(∀y∈acc,Q y)∧eq ns a b∧J1=W kS kL (σ++[aa.lst acc]++ext) ns a b) he1 hi1 hf hit ht tl (fun u_ u_ u_ u_=>trivial) (fD ‹_› (by exact ac)) ?_ ⟨[],ns,a,b,rfl,by simp,ho,by rw[Gz,ia h]⟩ ⟨_,rfl,hp⟩
 ·obtain⟨ys,J1,⟨ext,ns',a',b',q1,q2,q3,rfl⟩,hr⟩:=R
  have e2:(W kS kL (σ++[aa.lst ys]++ext) ns' a' b')[(W kS kL σ ns a b).length]? =some (aa.lst ys):=by
   rw[lg,B2 (by exact HJ (by assumption)) (by exact HJ (by assumption))];simp
  refine⟨ys,[aa.lst ys]++ext,ns',a',b',q1,q2,q3,?_⟩;rw[←Gx]
  exact bJ (fv:= .type "tuple") (v:= .v (.lst (W kS kL σ ns a b).length)) he hg hx (by rw[hc];exact ac) (bx hi hr) (jy e2 (dB ‹_› ‹_› (by exact ac)))
 ·rintro i hi _ acc _ ⟨ext,eD,a1,b1,q1,q2,q3,rfl⟩ ⟨own',rfl,hp'⟩;refine dm fun kk=> ?_;obtain⟨own'',y,ns2,a2,b2,ext',p1,p2,p3,p4,p5⟩:=step i hi own' (σ++[aa.lst acc]++ext) eD a1 b1 hp' h.app.app q3<;>(refine kk ?_;clear kk)
  refine⟨_,y,_,_,⟨own'',rfl,p1⟩,p4,p5,?_,ext++ext',ns2,a2,b2,by rw[GE,q1];rfl,?_,p3,rfl⟩
  ·rw[Gx,ia (h.app),ia h,ia (h.app),ia h,lg,←lg (ns:=ns2) (a:=a2) (b:=b2)]
   exact xO (l8 ‹_› ‹_› ‹_› (by exact ac))
  ·intro z hz;refine dm fun kk=> ?_
   rcases Gl.mp hz with hz|hz<;>(refine kk ?_;clear kk)
   ·exact q2 z hz
   ·rw[Gn.mp hz];exact p2
noncomputable abbrev mI(kS:Nat)(ss:List Int)(kd:Int):List (Str×V):=[("many",.int (ss.length:Nat)),("kind",.int kd),("shape",vI ss),("state",.lst kS)]
variable {kd:Int}
theorem la0(hl:ss.length≤900)(n:Nat):aR (cc X) (lv (cc X) (n+20)) (ah X 1068 [("kind",.int kd),("shape",vI ss),("state",.lst kS)]) σ (St X 1068 0)=some (.ok .next (ah X 1068 (mI kS ss kd)) σ):=by
 have e2:((ss.map V.int).length:Int)=ss.length:=by rw[Gk]
 have:=kq (X:=X) (a:=1068) (own:=[("kind",.int kd),("shape",vI ss),("state",.lst kS)]) (σ:=σ) (e:=sx (St X 1068 0) 0) (n:=n+18) rfl rfl rfl ac ay (aT rfl ac rfl) (by rw[Gk];exact bf ‹_› (by exact ac))
 rw[e2]at this;exact cb rfl ac ac this
noncomputable def Bt(i:Nat):Int:=match i with|1=>4|3=>0|5=>1|6=>2|_=>3
theorem Am(i:Nat)(hi:i∈[1,3,5,6,7])(hk:own.lookup ("kind":Str)=some (.int kd))(n:Nat):(lv (cc X) (n+20)).tr (ah X 1068 own) σ (sx (St X 1068 i) 0)=some (.ok (kd==Bt i) σ):=by
 simp only[Gp,GD,or_false]at hi
 rcases hi with rfl|rfl|rfl|rfl|rfl
 ·exact bw rfl ay (aT rfl ac hk) rfl rfl
 ·exact bw rfl ay (aT rfl ac hk) rfl rfl
 ·exact bw rfl ay (aT rfl ac hk) rfl rfl
 ·exact bw rfl ay (aT rfl ac hk) rfl rfl
 ·exact bw rfl ay (aT rfl ac hk) rfl rfl
noncomputable abbrev a4(X:Xp):=sx (si (aj (St X 1068 1)) 0) 0
noncomputable abbrev oN(kS:Nat)(own:List (Str×V)):Prop:=own.lookup ("state":Str)=some (.lst kS)
theorem ev4(h:Kk kS kL σ)(ho:eq ns a b)(hl:ss.length≤900)(n:Nat): ∃(ys:List V) (ext:Sg) (ns':List Int) (a' b':Int),ys.length=ss.length∧(∀y∈ys,∃m:Int,y= .int m∧m.natAbs≤3)∧eq ns' a' b'∧(lv (cc X) (n+28)).ev (ah X 1068 (mI kS ss kd)) (W kS kL σ ns a b) (a4 X)=some (.ok (.tup ys) (W kS kL (σ++ext) ns' a' b')):=by
 refine p_ (X:=X) (n:=n+25) (as:=ss) (f:=V.int) (P:=oN kS) (x:= .v (vI ss)) (t:= .seq (ss.map V.int) 0) h ho rfl rfl rfl ⋯ ⋯ ⋯ rfl ⋯ (bx (n:=n+24) ay (aT (x:="shape") ⋯ ac rfl)) rfl (ai _ _) hl ?_ ⋯
 intro i hi own' J1 ns a b hp h' ho';refine dm fun kk=> ?_
 refine bO (oj (X:=X) (en:=⟨al (dF (ch (a4 X) 1)).names (ah X 1068 (mI kS ss kd)),("s",.int ss[i])::own',[],none⟩) (e:=ch (ch (a4 X) 1) 0) (m:=5) (ys:=[.int 1,.int (-1),.int 2,.int 0,.int (-3)]) h' ho' (by exact F5 _) (by exact F5 _) rfl ⋯ ⋯ ⋯ rfl ⋯ ⋯ ⋯ ⋯ n ⋯ (fun u_=>bQ (x:="state") ⋯ (F1 ⋯ hp)) (fun u_=>by kernel_rfl)) fun y ns2 a2 b2 p1 p2 p3=> ?_<;>(refine kk ?_;clear kk)
 refine⟨("s",.int ss[i])::own',y,ns2,a2,b2,_,hp,?_,p2,by kernel_rfl,p3⟩
 simp only[Gp,GD,or_false]at p1
 rcases p1 with rfl|rfl|rfl|rfl|rfl<;>exact⟨_,rfl,by decide⟩
end
section
variable {X:Xp}{own:List (Str×V)}{kS kL:Nat}{ns:List Int}{a b m:Int}{kd:Int}
noncomputable abbrev a2(X:Xp):=sx (St X 1068 2) 0
theorem la2(h:Kk kS kL σ)(ho:eq ns a b)(n:Nat)(h1:1≤ss.length)(h3:ss.length≤3): ∃(l:Nat) (c:aa) (ns':List Int) (a' b':Int),l≤4∧ss.length-1≤l∧l≤ss.length+1∧eq ns' a' b'∧aR (cc X) (lv (cc X) (n+25)) (ah X 1068 (mI kS ss kd)) (W kS kL σ ns a b) (St X 1068 2)=some (.ok .next (ah X 1068 (("length",.int (l:Nat))::mI kS ss kd)) (W kS kL (σ++[c]) ns' a' b')):=by
 refine bO (oj (X:=X) (en:=ah X 1068 (mI kS ss kd)) (e:=a2 X) (m:=6) (ys:=[.int (ss.length:Nat),.int (ss.length:Nat),.int (ss.length:Nat),.int (ss.length:Nat),.int ((ss.length:Nat)+1),.int ((ss.length:Nat)-1)]) h ho (by exact F5 _) (by exact F5 _) rfl rfl ac ⋯ rfl rfl ⋯ ay ay n rfl (fun u_=>rfl) (fun u_=>rfl)) fun y ns2 a2' b2 p1 p2 p3=> ?_
 have hy: ∃l:Nat,y= .int (l:Nat)∧l≤4∧ss.length-1≤l∧l≤ss.length+1:=by
  simp only[Gp,GD,or_false]at p1
  rcases p1 with rfl|rfl|rfl|rfl|rfl|rfl
  ·exact⟨_,rfl,by exact HG (by assumption),by simp+arith,by exact HA _ _⟩
  ·exact⟨_,rfl,by exact HG (by assumption),by simp+arith,by exact HA _ _⟩
  ·exact⟨_,rfl,by exact HG (by assumption),by simp+arith,by exact HA _ _⟩
  ·exact⟨_,rfl,by exact bf ‹_› (by exact ac),by exact Nat.sub_le _ _,by exact HA _ _⟩
  ·exact⟨ss.length+1,by congr 1,by exact Cz ‹_› (by exact ac),by omega,by exact Hv _⟩
  ·exact⟨ss.length-1,by congr 1;exact Ck ‹_›,by exact EM ‹_› (by exact ac),by exact Hv _,by omega⟩
 refine mQ hy fun l zz1 q1 q2 q3=> ?_;subst zz1;exact⟨l,_,ns2,a2',b2,q1,q2,q3,p2,cb rfl ac ac p3⟩
noncomputable abbrev mE(kS:Nat)(ss:List Int)(kd:Int)(l:Nat):List (Str×V):=("length",.int (l:Nat))::mI kS ss kd
theorem jg{l:Nat}(h:l≤4):aA σ (.v (.rng 0 (l:Int) 1))=some (.rng 0 (l:Int) 1):=
 qt (P:=fun(l:Nat)=>aA σ (.v (.rng 0 (l:Int) 1))=some (.rng 0 (l:Int) 1)) rfl rfl rfl rfl rfl l (H1 h)
theorem BD(he:e= .Tuple [ch e 0,ch e 1] (tk (e)) (ps e))(h0:ak [ch e 0]=true)(h1:ak [ch e 1]=true)(hx:(lv c n).ev en σ (ch e 0)=some (.ok x J2))(hy:(lv c n).ev en J2 (ch e 1)=some (.ok y J6)):(lv c (n+1)).ev en σ e=some (.ok (.tup [x,y]) J6):=
 (congrArg ((lv c (n+1)).ev en σ) he).trans (gI (bA h0 hx (bA h1 hy gU)) (show 2≤2^20 by decide))
noncomputable abbrev zj:List V:=[.int 0,.int 1,.int 2,.int 0,.int (-1)]
noncomputable abbrev A4:List V:=[.int 0,.int 1,.int 0,.int 0,.int (-1)]
noncomputable abbrev yZ:List V:=[.int 0,.int 0,.int 1,.int (-1)]
noncomputable abbrev BW:List V:=[.int 0,.int 0,.int (-1),.int 1]
noncomputable abbrev a0(X:Xp):=sx (si (aj (St X 1068 3)) 0) 0
theorem ev0(h:Kk kS kL σ)(ho:eq ns a b){l:Nat}(hl:l≤4)(n:Nat): ∃(ys:List V) (ext:Sg) (ns':List Int) (a' b':Int),ys.length=l∧(∀y∈ys,∃p:Int×Int,y=pP p∧p.1.natAbs≤100∧p.2.natAbs≤100)∧eq ns' a' b'∧(lv (cc X) (n+29)).ev (ah X 1068 (mE kS ss kd l)) (W kS kL σ ns a b) (a0 X)=some (.ok (.tup ys) (W kS kL (σ++ext) ns' a' b')):=by
 have key:=p_ (X:=X) (n:=n+26) (e:=a0 X) (en:=ah X 1068 (mE kS ss kd l)) (Q:=fun y=> ∃p:Int×Int,y=pP p∧p.1.natAbs≤100∧p.2.natAbs≤100) (as:=Gs (l:Int).toNat) (f:=fun(i:Nat)=>V.int (0+(i:Int))) (P:=oN kS) (x:= .v (.rng 0 (l:Int) 1)) (t:= .rng 0 (l:Int) 1) h ho rfl rfl rfl ac ay ⋯ rfl ⋯
  (yz (n:=n+25) ac (bJ (x:="range") (fv:= .type "range") (v:= .v (.int (l:Nat))) (J2:=W kS kL σ ns a b) ⋯ ⋯ rfl ⋯ (bx ⋯ (aT (x:="length") ⋯ ac rfl)) rfl)) (jg hl) (gW 0 l) (by rw[GQ];omega) ?_ ⋯
 ·rw[GQ,F8]at key;exact key
 intro i hi own' J1 ns a b hp h' ho'
 refine bO (oj (X:=X) (en:=⟨al (dF (ch (a0 X) 1)).names (ah X 1068 (mE kS ss kd l)),("k",.int (0+((Gs (l:Int).toNat)[i]:Int)))::own',[],none⟩) (e:=ch (ch (ch (a0 X) 1) 0) 0) (m:=5) (ys:=zj) h' ho' (by exact F5 _) (by exact F5 _) rfl ⋯ ⋯ ⋯ rfl ⋯ ⋯ ⋯ ⋯ n ⋯ (fun u_=>bQ (x:="state") ⋯ (F1 ⋯ hp)) (fun u_=>by kernel_rfl)) fun y ns2 a2 b2 p1 p2 p3=> ?_
 refine bO (oj (X:=X) (en:=⟨al (dF (ch (a0 X) 1)).names (ah X 1068 (mE kS ss kd l)),("k",.int (0+((Gs (l:Int).toNat)[i]:Int)))::own',[],none⟩) (e:=ch (ch (ch (a0 X) 1) 0) 1) (m:=5) (σ:=J1++[aa.lst zj]) (ys:=A4) h'.app p2 (by exact F5 _) (by exact F5 _) rfl ⋯ ⋯ ⋯ rfl ⋯ ⋯ ⋯ ⋯ n ⋯ (fun u_=>bQ (x:="state") ⋯ (F1 ⋯ hp)) (fun u_=>by kernel_rfl)) fun z ns3 a3 b3 r1 r2 r3=> ?_
 have B: ∀y:V,y∈zj∨y∈A4→ ∃i:Int,y= .int i∧i.natAbs≤100:=by
  intro y hy;simp only[Gp,GD,or_false]at hy
  rcases hy with(rfl|rfl|rfl|rfl|rfl)|(rfl|rfl|rfl|rfl|rfl)<;>exact⟨_,rfl,by decide⟩
 refine aK (B y (.inl p1)) fun i1 zz1 j1=> ?_;subst zz1;refine aK (B z (.inr r1)) fun i2 zz1 j2=> ?_;subst zz1
 refine⟨("k",.int (0+((Gs (l:Int).toNat)[i]:Int)))::own',.tup [.int i1,.int i2],ns3,a3,b3,[aa.lst zj]++[aa.lst A4],hp,⟨(i1,i2),rfl,j1,j2⟩,r2,by kernel_rfl,?_⟩
 rw[←Gx]
 exact BD ⋯ ⋯ ⋯ p3 r3
theorem EY{P:List Int→Prop}(h1: ∀x,P [x])(h2: ∀x y,P [x,y])(h3: ∀x y z,P [x,y,z])(ss:List Int)(a:1≤ss.length)(b:ss.length≤3):P ss:=by
 cases ss with
 |nil=>exact absurd a (by exact HI _)
 |cons x l=>
  cases l with
  |nil=>exact h1 x
  |cons y l=>
   cases l with
   |nil=>exact h2 x y
   |cons z l=>
    cases l with
    |nil=>exact h3 x y z
    |cons=>exact absurd b (by simp)
theorem E4{P:Nat→Prop}(h0:P 0)(h1:P 1)(h2:P 2)(h3:P 3)(h4:P 4)(l:Nat)(h:l≤4):P l:=by
 rcases lt5 (H1 h)with rfl|rfl|rfl|rfl|rfl<;>assumption
theorem vz{l:Nat}(h1:1≤ss.length)(h3:ss.length≤3)(hl:l≤4): ∃xs:List Int,xs.length≤4∧(∀x∈xs,x∈ss∨x=2)∧cn σ (.tup (ss.map V.int++[.int 2])) none (some (l:Int)) none=some (vI xs,σ):=by
 refine⟨(ss++[2]).take l,by rw[He];exact wP ‹_› (by exact ac),fun x hx=>by simpa using G7 hx,?_⟩
 refine EY (P:=fun ss=>cn σ (.tup (ss.map V.int++[.int 2])) none (some (l:Int)) none=some (vI ((ss++[2]).take l),σ)) (fun x=> ?_) (fun x y=> ?_) (fun x y z=> ?_) ss h1 h3
 ·exact E4 (P:=fun l=>cn σ (.tup ([x].map V.int++[.int 2])) none (some (l:Int)) none=some (vI (([x]++[2]).take l),σ)) rfl rfl rfl ⋯ ⋯ l hl
 ·exact E4 (P:=fun l=>cn σ (.tup ([x,y].map V.int++[.int 2])) none (some (l:Int)) none=some (vI (([x,y]++[2]).take l),σ)) rfl rfl rfl rfl ⋯ l hl
 ·exact E4 (P:=fun l=>cn σ (.tup ([x,y,z].map V.int++[.int 2])) none (some (l:Int)) none=some (vI (([x,y,z]++[2]).take l),σ)) rfl rfl rfl rfl rfl l hl
theorem la4{l:Nat}(h1:1≤ss.length)(h3:ss.length≤3)(hl:l≤4)(n:Nat): ∃xs:List Int,xs.length≤4∧(∀x∈xs,x∈ss∨x=2)∧aR (cc X) (lv (cc X) (n+20)) (ah X 1068 (mE kS ss kd l)) σ (St X 1068 4)=some (.ok .next (ah X 1068 (("sides",vI xs)::mE kS ss kd l)) σ):=by
 obtain⟨xs,q1,q2,q3⟩:=vz (σ:=σ) (ss:=ss) h1 h3 hl;refine⟨xs,q1,q2,cb rfl ac ac (B1 (v:= .tup (ss.map V.int++[.int 2])) (lo:=none) (hi:=some (ch (ch (sx (St X 1068 4) 0) 1) 1)) (st:=none) (sp:=ps (ch (sx (St X 1068 4) 0) 1)) (u:= .int (l:Nat)) (t:= .none) (l':=none) (u':=some (l:Int)) (t':=none) rfl ?_ rfl rfl rfl rfl rfl rfl q3)⟩;refine cE rfl rfl rfl ?_
 exact v_ (by rw[Gk];show _+1≤_;exact Cz ‹_› (by exact ac))
noncomputable abbrev eE(kS:Nat)(ss xs:List Int)(kd:Int)(l:Nat):List (Str×V):=("sides",vI xs)::mE kS ss kd l
noncomputable abbrev a1(X:Xp):=sx (si (aj (St X 1068 5)) 0) 0
theorem ev1{xs:List Int}(h:Kk kS kL σ)(ho:eq ns a b){l:Nat}(hl:xs.length≤4)(hx: ∀x∈xs,x.natAbs≤100)(n:Nat): ∃(ys:List V) (ext:Sg) (ns':List Int) (a' b':Int),ys.length=xs.length∧(∀y∈ys,∃p:Int×Int,y=pP p∧p.1.natAbs≤200∧p.2.natAbs≤200)∧eq ns' a' b'∧(lv (cc X) (n+30)).ev (ah X 1068 (eE kS ss xs kd l)) (W kS kL σ ns a b) (a1 X)=some (.ok (.tup ys) (W kS kL (σ++ext) ns' a' b')):=by
 refine p_ (X:=X) (n:=n+27) (e:=a1 X) (en:=ah X 1068 (eE kS ss xs kd l)) (as:=xs) (f:=V.int) (P:=oN kS) (x:= .v (vI xs)) (t:= .seq (xs.map V.int) 0) h ho rfl rfl rfl ac ay ⋯ rfl ⋯
  (bx ⋯ (aT (x:="sides") ⋯ ac rfl)) rfl (ai _ _) (bf ‹_› (by exact ac)) ?_ ⋯
 intro i hi own' J1 ns a b hp h' ho';have hb:=hx _ (GN hi)
 refine bO (oj (X:=X) (en:=⟨al (dF (ch (a1 X) 1)).names (ah X 1068 (eE kS ss xs kd l)),("s",.int xs[i])::own',[],none⟩) (e:=ch (ch (ch (a1 X) 1) 0) 0) (m:=4) (ys:=yZ) h' ho' (by exact F5 _) (by exact F5 _) rfl ⋯ ⋯ ⋯ rfl ⋯ ⋯ ⋯ ⋯ (n+1) ⋯ (fun u_=>bQ (x:="state") ⋯ (F1 ⋯ hp)) (fun u_=>by kernel_rfl)) fun y ns2 a2 b2 p1 p2 p3=> ?_
 refine bO (oj (X:=X) (en:=⟨al (dF (ch (a1 X) 1)).names (ah X 1068 (eE kS ss xs kd l)),("s",.int xs[i])::own',[],none⟩) (e:=ch (ch (ch (ch (a1 X) 1) 0) 1) 1) (m:=4) (σ:=J1++[aa.lst yZ]) (ys:=BW) h'.app p2 (by exact F5 _) (by exact F5 _) rfl ⋯ ⋯ ⋯ rfl ⋯ ⋯ ⋯ ⋯ n ⋯ (fun u_=>bQ (x:="state") ⋯ (F1 ⋯ hp)) (fun u_=>by kernel_rfl)) fun z ns3 a3 b3 r1 r2 r3=> ?_
 have B: ∀y:V,y∈yZ∨y∈BW→ ∃i:Int,y= .int i∧i.natAbs≤100:=by
  intro y hy;simp only[Gp,GD,or_false]at hy
  rcases hy with(rfl|rfl|rfl|rfl)|(rfl|rfl|rfl|rfl)<;>exact⟨_,rfl,by decide⟩
 refine aK (B y (.inl p1)) fun i1 zz1 j1=> ?_;subst zz1;refine aK (B z (.inr r1)) fun i2 zz1 j2=> ?_;subst zz1
 refine⟨("s",.int xs[i])::own',.tup [.int i1,.int (xs[i]+i2)],ns3,a3,b3,[aa.lst yZ]++[aa.lst BW],hp,⟨(i1,xs[i]+i2),rfl,by exact bf ‹_› (by exact ac),by show(xs[i]+i2).natAbs≤200;exact xu ‹_› ‹_› (by exact ac)⟩,r2,by kernel_rfl,?_⟩
 rw[←Gx]
 exact BD ⋯ ⋯ ⋯ p3 (cE (op:= .Add) (x:= .int xs[i]) ⋯ ⋯ r3 rfl)
noncomputable abbrev Eo(X:Xp):=sx (si (aj (St X 1068 6)) 0) 0
theorem ev2{xs:List Int}(h:Kk kS kL σ)(ho:eq ns a b){l:Nat}(hl:xs.length≤4)(hx: ∀x∈xs,x.natAbs≤100)(n:Nat): ∃(ys:List V) (ext:Sg) (ns':List Int) (a' b':Int),ys.length=xs.length∧(∀y∈ys,∃m:Int,y= .int m∧m.natAbs≤100)∧eq ns' a' b'∧(lv (cc X) (n+28)).ev (ah X 1068 (eE kS ss xs kd l)) (W kS kL σ ns a b) (Eo X)=some (.ok (.tup ys) (W kS kL (σ++ext) ns' a' b')):=by
 refine p_ (X:=X) (n:=n+25) (e:=Eo X) (en:=ah X 1068 (eE kS ss xs kd l)) (as:=xs) (f:=V.int) (P:=oN kS) (x:= .v (vI xs)) (t:= .seq (xs.map V.int) 0) h ho rfl rfl rfl ac ay ⋯ rfl ⋯
  (bx ⋯ (aT (x:="sides") ⋯ ac rfl)) rfl (ai _ _) (bf ‹_› (by exact ac)) ?_ ⋯
 intro i hi own' J1 ns a b hp h' ho';have hb:=hx _ (GN hi)
 refine bO (oj (X:=X) (en:=⟨al (dF (ch (Eo X) 1)).names (ah X 1068 (eE kS ss xs kd l)),("s",.int xs[i])::own',[],none⟩) (e:=ch (ch (Eo X) 1) 0) (m:=6) (ys:=[.int xs[i],.int xs[i],.int 3,.int 2,.int 0,.int (-1)]) h' ho' (by exact F5 _) (by exact F5 _) rfl ⋯ ⋯ ⋯ rfl ⋯ ⋯ ⋯ ⋯ n ⋯ (fun u_=>bQ (x:="state") ⋯ (F1 ⋯ hp)) (fun u_=>by kernel_rfl)) fun y ns2 a2 b2 p1 p2 p3=> ?_
 refine⟨("s",.int xs[i])::own',y,ns2,a2,b2,_,hp,?_,p2,by kernel_rfl,p3⟩
 simp only[Gp,GD,or_false]at p1
 rcases p1 with rfl|rfl|rfl|rfl|rfl|rfl
 ·exact⟨_,rfl,hb⟩
 ·exact⟨_,rfl,hb⟩
 ·exact⟨_,rfl,by decide⟩
 ·exact⟨_,rfl,by decide⟩
 ·exact⟨_,rfl,by exact HD _⟩
 ·exact⟨_,rfl,by decide⟩
noncomputable abbrev a3(X:Xp):=sx (si (aj (St X 1068 7)) 0) 0
theorem ev3{xs:List Int}(h:Kk kS kL σ)(ho:eq ns a b){l:Nat}(hl:l≤4)(hn:ss.length≤3)(n:Nat): ∃(ys:List V) (ext:Sg) (ns':List Int) (a' b':Int),ys.length=l∧(∀y∈ys,∃m:Int,y= .int m∧m.natAbs≤100)∧eq ns' a' b'∧(lv (cc X) (n+33)).ev (ah X 1068 (eE kS ss xs kd l)) (W kS kL σ ns a b) (a3 X)=some (.ok (.tup ys) (W kS kL (σ++ext) ns' a' b')):=by
 have key:=p_ (X:=X) (n:=n+30) (e:=a3 X) (en:=ah X 1068 (eE kS ss xs kd l)) (Q:=fun y=> ∃m:Int,y= .int m∧m.natAbs≤100) (as:=Gs (l:Int).toNat) (f:=fun(i:Nat)=>V.int (0+(i:Int))) (P:=fun own=>oN kS own∧own.lookup ("many":Str)=some (.int (ss.length:Nat))) (x:= .v (.rng 0 (l:Int) 1)) (t:= .rng 0 (l:Int) 1) h ho rfl rfl rfl ac ay ⋯ rfl ⋯
  (yz (n:=n+29) ⋯ (bJ (n:=n+28) (x:="range") (fv:= .type "range") (v:= .v (.int (l:Nat))) (J2:=W kS kL σ ns a b) ⋯ ⋯ rfl ⋯ (bx ⋯ (aT (x:="length") ⋯ ac rfl)) rfl)) (jg hl) (gW 0 l) (by rw[GQ];omega) ?_ ⟨by kernel_rfl,by kernel_rfl⟩
 ·rw[GQ,F8]at key;exact key
 rintro i hi own' J1 ns a b ⟨hp,hq⟩ h' ho';refine dm fun kk=> ?_
 refine cr (nd (X:=X) (en:=⟨al (dF (ch (a3 X) 1)).names (ah X 1068 (eE kS ss xs kd l)),("k",.int (0+((Gs (l:Int).toNat)[i]:Int)))::own',[],none⟩) (e:=ch (ch (ch (ch (ch (a3 X) 1) 0) 0) 1) 0) (σ:=J1) (m:=2) h' ho' (by exact F5 _) (by exact F5 _) ⋯ rfl ⋯ ⋯ ⋯ ⋯ (n+3) (bQ (x:="state") ⋯ (F1 ⋯ hp)) ⋯) fun y1 ns2 a2 b2 p0 p1 p2 p3=> ?_<;>(refine kk ?_;clear kk)
 refine dm fun kk=> ?_
 refine cr (nd (X:=X) (en:=⟨al (dF (ch (a3 X) 1)).names (ah X 1068 (eE kS ss xs kd l)),("k",.int (0+((Gs (l:Int).toNat)[i]:Int)))::own',[],none⟩) (e:=ch (ch (ch (ch (ch (a3 X) 1) 0) 0) 1) 1) (σ:=J1) (m:=3) h' p2 (by exact F5 _) (by exact F5 _) ⋯ rfl ⋯ ⋯ ⋯ ⋯ (n+3) (bQ (x:="state") ⋯ (F1 ⋯ hp)) ⋯) fun y2 ns3 a3' b3 r0 r1 r2 r3=> ?_<;>(refine kk ?_;clear kk)
 have hL:(0:Int)<(ss.length:Nat)+1:=by simp+arith
 have hf:=Gh (0+((Gs (l:Int).toNat)[i]:Int)+y1*y2) hL;have hf':=Gi (0+((Gs (l:Int).toNat)[i]:Int)+y1*y2) hL
 refine⟨("k",.int (0+((Gs (l:Int).toNat)[i]:Int)))::own',.int ((0+((Gs (l:Int).toNat)[i]:Int)+y1*y2).fmod ((ss.length:Nat)+1)),ns3,a3',b3,[],⟨hp,hq⟩,⟨_,rfl,Fj hf (F' hf' (Gb (F_.mpr hn) 1)) (.refl true)⟩,r2,by kernel_rfl,?_⟩
 rw[Gz]
 exact cE (op:= .Mod) (J2:=W kS kL J1 ns3 a3' b3) (J6:=W kS kL J1 ns3 a3' b3) (x:= .int (0+((Gs (l:Int).toNat)[i]:Int)+y1*y2)) (y:= .int ((ss.length:Nat)+1)) ⋯
  (cE (op:= .Add) (J2:=W kS kL J1 ns a b) (x:= .int (0+((Gs (l:Int).toNat)[i]:Int))) (y:= .int (y1*y2)) ⋯ ⋯ (cE (op:= .Mult) (x:= .int y1) (y:= .int y2) ⋯ p3 r3 (gE (be (k:=10) (Fj ‹_› ‹_› (by exact ac)) (by decide)) (be (k:=10) (Fj ‹_› ‹_› (by exact ac)) (by decide)))) rfl)
  (cE (op:= .Add) (J2:=W kS kL J1 ns3 a3' b3) (x:= .int (ss.length:Nat)) (y:= .int 1) ⋯ (bQ (x:="many") ⋯ (F1 ⋯ hq)) ⋯ rfl) (oi (npn ‹_›) (be (k:=10) (by omega) (by decide)))
theorem pF{f:β→V}{B:β→Prop}:(∀y∈ys,∃p,y=f p∧B p)→ ∃ps:List β,ys=ps.map f∧ps.length=ys.length∧ ∀p∈ps,B p:=by
 induction ys with
 |nil=>exact fun u_=>⟨[],rfl,rfl,fun u_ m=>nomatch m⟩
 |cons y ys ih=>
  intro h;refine aK (h y (.head _)) fun p zz1 hp=> ?_;subst zz1;refine cz (ih fun z hz=>h z (.tail _ hz)) fun ps zz1 h2 h3=> ?_;subst zz1
  exact⟨p::ps,rfl,by exact congrArg _ (by assumption),fun q hq=>by
   rcases Gp.mp hq with rfl|hq
   ·exact hp
   ·exact h3 q hq⟩
noncomputable def ll(z:Int):List (List Int):=[[z],[1,z],[2,z.fdiv 2],[z+1],[-1,-z],[z,1,1],[-z],[z,0]]
noncomputable abbrev a9(X:Xp):=sx (St X 1068 9) 0
theorem ev5{xs:List Int}(h:Kk kS kL σ)(ho:eq ns a b){l:Nat}(n:Nat): ∃(zs:List Int) (c:aa) (ns':List Int) (a' b':Int),zs∈ll z∧eq ns' a' b'∧(lv (cc X) (n+25)).ev (ah X 1068 (("size",.int z)::eE kS ss xs kd l)) (W kS kL σ ns a b) (a9 X)=some (.ok (vI zs) (W kS kL (σ++[c]) ns' a' b')):=by
 refine dm fun kk=> ?_
 refine bO (oj (X:=X) (en:=ah X 1068 (("size",.int z)::eE kS ss xs kd l)) (e:=a9 X) (m:=8) (ys:=(ll z).map vI) h ho (by exact F5 _) (by exact F5 _) rfl rfl ac ⋯ rfl rfl ⋯ ay ay n rfl (fun u_=>rfl) (fun u_=>rfl)) fun y ns2 a2' b2 p1 p2 p3=> ?_<;>(refine kk ?_;clear kk)
 refine aK (GA.mp p1) fun zs hz zz2=> ?_;subst zz2;exact⟨zs,_,ns2,a2',b2,hz,p2,p3⟩
theorem yt(i:Nat)(hi:i∈[1,3,5,6,7])(hk:own.lookup ("kind":Str)=some (.int kd))(hne:(kd==Bt i)=false)(n:Nat):aR (cc X) (lv (cc X) (n+20)) (ah X 1068 own) σ (St X 1068 i)=some (.ok .next (ah X 1068 own) σ):=by
 have t:=Am (X:=X) (σ:=σ) i hi hk n;rw[hne]at t;simp only[Gp,GD,or_false]at hi
 rcases hi with rfl|rfl|rfl|rfl|rfl<;>exact dq rfl t rfl
theorem uE{so:V}(i:Nat)(hi:i∈[1,3,5,6,7])(hk:own.lookup ("kind":Str)=some (.int kd))(hne:(kd==Bt i)=true)(n:Nat)(h:(lv (cc X) (n+19)).ev (ah X 1068 own) σ (sx (si (aj (St X 1068 i)) 0) 0)=some (.ok so J1)):aR (cc X) (lv (cc X) (n+20)) (ah X 1068 own) σ (St X 1068 i)=some (.ok (.ret so) (ah X 1068 own) J1):=by
 have t:=Am (X:=X) (σ:=σ) i hi hk n;rw[hne]at t
 have hb:aj (St X 1068 i)=[si (aj (St X 1068 i)) 0]∧si (aj (St X 1068 i)) 0= .Return (some (sx (si (aj (St X 1068 i)) 0) 0)) (kl (si (aj (St X 1068 i)) 0))∧St X 1068 i= .If (sx (St X 1068 i) 0) (aj (St X 1068 i)) (cQ (St X 1068 i)) (kl (St X 1068 i)):=by
  simp only[Gp,GD,or_false]at hi
  rcases hi with rfl|rfl|rfl|rfl|rfl<;>exact⟨rfl,rfl,rfl⟩
 refine eM hb.2.2 t ?_;refine(hb.1).symm▸ ?_;exact ao (du hb.2.1 h)
noncomputable abbrev Dv(kS:Nat)(ss:List Int)(kd:Int):List (Str×V):=[("kind",.int kd),("shape",vI ss),("state",.lst kS)]
theorem gN(n:Nat)(h:(lv (cc X) (n+59)).exs (ah X 1068 (Dv kS ss kd)) σ [St X 1068 0,St X 1068 1,St X 1068 2,St X 1068 3,St X 1068 4,St X 1068 5,St X 1068 6,St X 1068 7,St X 1068 8,St X 1068 9]=some so)(ho:ir so=some o):(lv (cc X) (n+60)).cf σ 1068 [.lst kS,vI ss,.int kd] []=some o:=
 bo (a:=1068) (binds:=[("state",.lst kS),("shape",vI ss),("kind",.int kd)]) ⋯ ⋯ ac ((congrArg ((lv (cc X) (n+59)).exs (ah X 1068 (Dv kS ss kd)) σ) (show aB X 1068=_ from rfl)).trans h) ho
noncomputable def zy(kd:Int)(ss:List Int)(v:V):Prop:=
 (kd=4∧ ∃mu,v=vI mu∧mu.length=ss.length∧ ∀m∈mu,m.natAbs≤3)∨(kd=0∧ ∃as,v=vP as∧as.length≤4∧PB 100 as)∨(kd=1∧ ∃as,v=vP as∧as.length≤4∧PB 200 as)∨
 (kd=2∧ ∃xs,v=vI xs∧xs.length≤4∧IB 100 xs)∨(kd=3∧ ∃xs,v=vI xs∧xs.length≤4)
theorem kd3{d:Int}(h:0≤d)(h':d≤4)(a: ¬d=0)(b: ¬d=1)(c: ¬d=2)(e: ¬d=4):d=3:=
 have st: ∀{m:Int},m≤d→ ¬d=m→m+1≤d:=fun h q=>Int.add_one_le_of_lt (Gf.mpr ⟨h,Ne.symm q⟩)
 Int.le_antisymm (Ge (Gf.mpr ⟨h',e⟩)) (st (st (st h a) b) c)
theorem Fy(h:Kk kS kL σ)(ho:eq ns a b)(h1:1≤ss.length)(h3:ss.length≤3)(hs: ∀s∈ss,1≤s∧s≤99)(hk:0≤kd∧kd≤4)(n:Nat): ∃(v:V) (ext:Sg) (ns':List Int) (a' b':Int),zy kd ss v∧eq ns' a' b'∧(lv (cc X) (n+60)).cf (W kS kL σ ns a b) 1068 [.lst kS,vI ss,.int kd] []=some (.ok v (W kS kL (σ++ext) ns' a' b')):=by
 have s0:=la0 (X:=X) (σ:=W kS kL σ ns a b) (kS:=kS) (ss:=ss) (kd:=kd) (bf ‹_› (by exact ac)) (n+38)
 by_cases k4:kd=4
 ·subst k4
  refine fy (ev4 (X:=X) (kd:=4) (ss:=ss) h ho (bf ‹_› (by exact ac)) (n+29)) fun ys ext ns' a' b' q1 q2 q3 q4=> ?_
  refine cz (pF q2) fun mu zz1 r1 r2=> ?_;subst zz1
  exact⟨_,ext,ns',a',b',.inl ⟨rfl,mu,rfl,by exact F1 ‹_› ‹_›,r2⟩,q3,gN n (ab s0 (bj (uE (own:=mI kS ss 4) 1 (by exact .head _) rfl rfl (n+38) q4))) rfl⟩
 have s1:=yt (X:=X) (σ:=W kS kL σ ns a b) (own:=mI kS ss kd) (kd:=kd) 1 (by exact .head _) rfl (beq_eq_false_iff_ne.mpr k4) (n+38)
 refine kU (la2 (X:=X) (kd:=kd) (ss:=ss) h ho (n+33) h1 h3) fun l c eD a1 b1 l1 l2 l3 ho1 s2=> ?_;have hA:=h.app (ext:=[c])
 by_cases k0:kd=0
 ·subst k0;refine fy (ev0 (X:=X) (kd:=0) (ss:=ss) hA ho1 l1 (n+28)) fun ys ext ns' a' b' q1 q2 q3 q4=> ?_;refine cz (pF q2) fun as zz1 r1 r2=> ?_;subst zz1;rw[Gx]at q4
  exact⟨_,_,ns',a',b',.inr (.inl ⟨rfl,as,rfl,by omega,r2⟩),q3,gN n (ab s0 (ab s1 (ab s2 (bj (uE (own:=mE kS ss 0 l) 3 (by exact .tail _ (.head _)) rfl rfl (n+38) q4))))) rfl⟩
 have s3:=yt (X:=X) (σ:=W kS kL (σ++[c]) eD a1 b1) (own:=mE kS ss kd l) (kd:=kd) 3 (by exact .tail _ (.head _)) rfl (beq_eq_false_iff_ne.mpr k0) (n+38)
 refine cz (la4 (X:=X) (σ:=W kS kL (σ++[c]) eD a1 b1) (kS:=kS) (ss:=ss) (kd:=kd) h1 h3 l1 (n+38)) fun xs x1 x2 s4=> ?_
 have xb: ∀x∈xs,x.natAbs≤100:=fun x hx=>by
  rcases x2 x hx with q|q
  ·have:=hs x q;exact qh ‹_› (by exact ac)
  ·exact nec ‹_› (by exact ac)
 by_cases k1:kd=1
 ·subst k1;refine fy (ev1 (X:=X) (kd:=1) (ss:=ss) (l:=l) hA ho1 x1 xb (n+27)) fun ys ext ns' a' b' q1 q2 q3 q4=> ?_;refine cz (pF q2) fun as zz1 r1 r2=> ?_;subst zz1;rw[Gx]at q4
  exact⟨_,_,ns',a',b',.inr (.inr (.inl ⟨rfl,as,rfl,by exact zE ‹_› ‹_› ‹_› (by exact ac),r2⟩)),q3,gN n (ab s0 (ab s1 (ab s2 (ab s3 (ab s4 (bj (uE (own:=eE kS ss xs 1 l) 5 (by decide) rfl rfl (n+38) q4))))))) rfl⟩
 have s5:=yt (X:=X) (σ:=W kS kL (σ++[c]) eD a1 b1) (own:=eE kS ss xs kd l) (kd:=kd) 5 (by decide) rfl (beq_eq_false_iff_ne.mpr k1) (n+38)
 by_cases k2:kd=2
 ·subst k2;refine fy (ev2 (X:=X) (kd:=2) (ss:=ss) (l:=l) hA ho1 x1 xb (n+29)) fun ys ext ns' a' b' q1 q2 q3 q4=> ?_;refine cz (pF q2) fun zs zz1 r1 r2=> ?_;subst zz1;rw[Gx]at q4
  exact⟨_,_,ns',a',b',.inr (.inr (.inr (.inl ⟨rfl,zs,rfl,by exact zE ‹_› ‹_› ‹_› (by exact ac),r2⟩))),q3,gN n (ab s0 (ab s1 (ab s2 (ab s3 (ab s4 (ab s5 (bj (uE (own:=eE kS ss xs 2 l) 6 (by decide) rfl rfl (n+38) q4)))))))) rfl⟩
 have s6:=yt (X:=X) (σ:=W kS kL (σ++[c]) eD a1 b1) (own:=eE kS ss xs kd l) (kd:=kd) 6 (by decide) rfl (beq_eq_false_iff_ne.mpr k2) (n+38)
 have k3:kd=3:=kd3 hk.1 hk.2 k0 k1 k2 k4;subst k3;refine fy (ev3 (X:=X) (kd:=3) (ss:=ss) (xs:=xs) hA ho1 l1 h3 (n+24)) fun ys ext ns' a' b' q1 q2 q3 q4=> ?_;refine cz (pF q2) fun zs zz1 r1 r2=> ?_;subst zz1;rw[Gx]at q4
 exact⟨_,_,ns',a',b',.inr (.inr (.inr (.inr ⟨rfl,zs,rfl,by omega⟩))),q3,gN n (ab s0 (ab s1 (ab s2 (ab s3 (ab s4 (ab s5 (ab s6 (bj (uE (own:=eE kS ss xs 3 l) 7 (by decide) rfl rfl (n+38) q4))))))))) rfl⟩
theorem DF(h:Kk kS kL σ)(ho:eq ns a b)(h1:1≤ss.length)(h3:ss.length≤3)(hs: ∀s∈ss,1≤s∧s≤99)(n:Nat): ∃(zs:List Int) (c c':aa) (ns':List Int) (a' b':Int),zs∈ll (aQ 1 ss)∧eq ns' a' b'∧(lv (cc X) (n+60)).cf (W kS kL σ ns a b) 1068 [.lst kS,vI ss,.int 5] []=some (.ok (vI zs) (W kS kL (σ++[c]++[c']) ns' a' b')):=by
 have s0:=la0 (X:=X) (σ:=W kS kL σ ns a b) (kS:=kS) (ss:=ss) (kd:=5) (bf ‹_› (by exact ac)) (n+38)
 have s1:=yt (X:=X) (σ:=W kS kL σ ns a b) (own:=mI kS ss 5) (kd:=5) 1 (by exact .head _) rfl rfl (n+38)
 refine dm fun kk=> ?_;refine kU (la2 (X:=X) (kd:=5) (ss:=ss) h ho (n+33) h1 h3) fun l c eD a1 b1 l1 l2 l3 ho1 s2=> ?_<;>(refine kk ?_;clear kk)
 have hA:=h.app (ext:=[c])
 have s3:=yt (X:=X) (σ:=W kS kL (σ++[c]) eD a1 b1) (own:=mE kS ss 5 l) (kd:=5) 3 (by exact .tail _ (.head _)) rfl rfl (n+38)
 refine dm fun kk=> ?_;refine cz (la4 (X:=X) (σ:=W kS kL (σ++[c]) eD a1 b1) (kS:=kS) (ss:=ss) (kd:=5) h1 h3 l1 (n+38)) fun xs x1 x2 s4=> ?_<;>(refine kk ?_;clear kk)
 have s5:=yt (X:=X) (σ:=W kS kL (σ++[c]) eD a1 b1) (own:=eE kS ss xs 5 l) (kd:=5) 5 (by decide) rfl rfl (n+38)
 have s6:=yt (X:=X) (σ:=W kS kL (σ++[c]) eD a1 b1) (own:=eE kS ss xs 5 l) (kd:=5) 6 (by decide) rfl rfl (n+38)
 have s7:=yt (X:=X) (σ:=W kS kL (σ++[c]) eD a1 b1) (own:=eE kS ss xs 5 l) (kd:=5) 7 (by decide) rfl rfl (n+38)
 have s8:aR (cc X) (lv (cc X) (n+58)) (ah X 1068 (eE kS ss xs 5 l)) (W kS kL (σ++[c]) eD a1 b1) (St X 1068 8)=some (.ok .next (ah X 1068 (("size",.int (aQ 1 ss))::eE kS ss xs 5 l)) (W kS kL (σ++[c]) eD a1 b1)):=
  cb (x:="size") (xp:=ps (sx (St X 1068 8) 1)) rfl ac ac (bJ (x:="_law_size") (fv:= .ref 1046) (v:= .v (vI ss)) (J2:=W kS kL (σ++[c]) eD a1 b1) rfl rfl rfl ac (bx ay (aT (x:="shape") rfl ac rfl))
   (eJ (X:=X) (xs:=[vI ss]) ⋯ (rU ⟨by exact HG (by assumption),fun s q=>by have:=hs s q;exact qh ‹_› (by exact ac)⟩ (n+37) (uC X))))
 refine dm fun kk=> ?_;refine oM (ev5 (X:=X) (ss:=ss) (xs:=xs) (kd:=5) (l:=l) (z:=aQ 1 ss) hA ho1 (n+33)) fun zs c' ns2 a2' b2 z1 z2 z3=> ?_<;>(refine kk ?_;clear kk)
 exact⟨zs,c,c',ns2,a2',b2,z1,z2,gN n (ab s0 (ab s1 (ab s2 (ab s3 (ab s4 (ab s5 (ab s6 (ab s7 (ab s8 (ao (du rfl z3))))))))))) rfl⟩
end
section
variable {X:Xp}{own:List (Str×V)}{xs ax mu:List Int}{as:List (Int×Int)}{kd:Int}{arg:V}
theorem AC(hj:σ[j]? =some (aa.lst l))(hk:σ[k]? =some (aa.lst [])):ed σ .Eq (.lst j) (.lst k)=some l.isEmpty:=by
 show(aG σ j).bind (fun a=>(aG σ k).bind fun b=>if a.length=b.length then dK σ 199 a b else some false)=_
 rw[aN hj,aN hk]
 cases l with
 |nil=>rfl
 |cons=>rfl
theorem tc{as:List α}{k:α→Bool}{F:α→V}:((as.filter k).map F).isEmpty=as.all fun a=> !k a:=by
 induction as with
 |nil=>rfl
 |cons a as ih=>
  rw[G6,G0]
  cases k a with
  |true=>rfl
  |false=>exact ih
theorem pV{S:Sg→Prop}{x:IV}{f F:α→V}{as:List α}{b:α→List (Str×V)}{P:List (Str×V)→Prop}{k:α→Bool}(he:e= .Compare (ch e 0) [.Eq] [ch e 1] (ps e))(hm:lastMarks [.Eq] [ch e 1]=false)(he1:iA (ch e 0))(hf:gM en (ch e 0)=true)(hx:(lv c n).iv en σ (ch (ch e 0) 2)=some (.ok x σ))(ht:aA σ x=some t)(hS: ∀acc,S (σ++[aa.lst acc]))(tl:aC S t (as.map f))(hl:as.length<4096)
 (hp:P (dP (dF (ch e 0)).names en).own) (hb:CK c n (ch e 0) en σ as f b P k F) (h0: ∀σ:Sg,(lv c (n+1)).ev en σ (ch e 1)=some (.ok (.lst σ.length) (σ++[aa.lst []]))): ∃ext:Sg,(lv c (n+2)).ev en σ e=some (.ok (.bool (as.all fun a=> !k a)) (σ++ext)):=by
 refine⟨[aa.lst ((as.filter k).map F)]++[aa.lst []],?_⟩;rw[←tc (F:=F),←Gx]
 exact oY he hm (jx he1 (ng hf hx ht hS tl hl hp hb)) (h0 _) (AC (bX (by exact GG)) (by exact GG))
noncomputable abbrev vr(ss:List Int)(kd:Int)(arg:V):List (Str×V):=[("arg",arg),("kind",.int kd),("shape",vI ss)]
noncomputable abbrev fp(ss:List Int)(kd:Int)(arg:V):List (Str×V):=("many",.int (ss.length:Nat))::vr ss kd arg
theorem BZ(hl:ss.length≤900)(n:Nat):aR (cc X) (lv (cc X) (n+20)) (ah X 1058 (vr ss kd arg)) σ (St X 1058 0)=some (.ok .next (ah X 1058 (fp ss kd arg)) σ):=by
 have e2:((ss.map V.int).length:Int)=ss.length:=by rw[Gk]
 have:=kq (X:=X) (a:=1058) (own:=vr ss kd arg) (σ:=σ) (e:=sx (St X 1058 0) 0) (n:=n+18) rfl rfl rfl ac ay (aT rfl ac rfl) (by rw[Gk];exact bf ‹_› (by exact ac))
 rw[e2]at this;exact cb rfl ac ac this
theorem u7(i:Nat)(hi:i<5)(n:Nat):(lv (cc X) (n+20)).tr (ah X 1058 (fp ss kd arg)) σ (sx (St X 1058 (i+1)) 0)=some (.ok (kd==(i:Int)) σ):=by
 revert i;refine qt ?_ ?_ ?_ ?_ ?_
 all_goals exact bw (op:= .Eq) rfl ay (aT (x:="kind") rfl ac rfl) rfl rfl
theorem Dq(X:Xp)(i:Nat)(hi:i<5):St X 1058 (i+1)= .If (sx (St X 1058 (i+1)) 0) (aj (St X 1058 (i+1))) (cQ (St X 1058 (i+1))) (kl (St X 1058 (i+1)))∧cQ (St X 1058 (i+1))=[]:=by
 revert i;refine qt ?_ ?_ ?_ ?_ ?_
 all_goals exact⟨rfl,rfl⟩
theorem iy(i:Nat)(hi:i<5)(hne:(kd==(i:Int))=false)(n:Nat):aR (cc X) (lv (cc X) (n+20)) (ah X 1058 (fp ss kd arg)) σ (St X 1058 (i+1))=some (.ok .next (ah X 1058 (fp ss kd arg)) σ):=by
 have t:=u7 (X:=X) (σ:=σ) (ss:=ss) (kd:=kd) (arg:=arg) i hi n;rw[hne]at t;refine oA (Dq X i hi) fun h1 h2=> ?_
 exact dq h1 t (by rw[h2];rfl)
theorem pL{so:V}(i:Nat)(hi:i<5)(hne:(kd==(i:Int))=true)(n:Nat)(h:(lv (cc X) (n+20)).exs (ah X 1058 (fp ss kd arg)) σ (aj (St X 1058 (i+1)))=some (.ok (.ret so) (ah X 1058 (fp ss kd arg)) J1)):aR (cc X) (lv (cc X) (n+20)) (ah X 1058 (fp ss kd arg)) σ (St X 1058 (i+1))=some (.ok (.ret so) (ah X 1058 (fp ss kd arg)) J1):=by
 have t:=u7 (X:=X) (σ:=σ) (ss:=ss) (kd:=kd) (arg:=arg) i hi n;rw[hne]at t;exact eM (Dq X i hi).1 t h
theorem gQ(n:Nat)(h:(lv (cc X) (n+59)).exs (ah X 1058 (vr ss kd arg)) σ [St X 1058 0,St X 1058 1,St X 1058 2,St X 1058 3,St X 1058 4,St X 1058 5,St X 1058 6]=some so)(ho:ir so=some o):(lv (cc X) (n+60)).cf σ 1058 [vI ss,.int kd,arg] []=some o:=
 bo (a:=1058) (binds:=[("shape",vI ss),("kind",.int kd),("arg",arg)]) ⋯ ⋯ ac ((congrArg ((lv (cc X) (n+59)).exs (ah X 1058 (vr ss kd arg)) σ) (show aB X 1058=_ from rfl)).trans h) ho
theorem Dz{f:Nat}(hl:l.length≤900)(he:e= .Compare (ch e 0) [.Eq] [ch e 1] (ps e))(hm:lastMarks [.Eq] [ch e 1]=false)(h0:ch e 0= .Call (.Name ("len":Str) (ps (ch (ch e 0) 0))) [ch (ch e 0) 1] [] (ps (ch e 0)))(hg:cG [ch (ch e 0) 1]=none)(hn:ak [ch (ch e 0) 1]=true)(hi:aV (ch (ch e 0) 1)=false)(h1:ch (ch e 0) 1= .Name ("arg":Str) (ps (ch (ch e 0) 1)))(h2:ch e 1= .Name ("many":Str) (ps (ch e 1)))(n:Nat):
 (lv (cc X) (n+20)).ev (ah X 1058 (fp ss kd (.tup l))) σ e=some (.ok (.bool ((l.length:Int)==(ss.length:Int))) σ):=
 oY he hm (kq h0 hg rfl hn hi (aT h1 ac rfl) (bf ‹_› (by exact ac))) (aT h2 ac rfl) rfl
noncomputable abbrev z1(X:Xp):=sx (si (aj (St X 1058 1)) 0) 0
theorem rJ{a:Bool}(he:e= .BoolOp .And [ch e 0,ch e 1] (ps e))(h1:(lv c n).ev en σ (ch e 0)=some (.ok (.bool a) σ))(h2:a=true→ ∃ext:Sg,(lv c n).ev en σ (ch e 1)=some (.ok (.bool b) (σ++ext))): ∃ext:Sg,(lv c (n+1)).ev en σ e=some (.ok (.bool (a&&b)) (σ++ext)):=by
 have key:(lv c (n+1)).ev en σ e=je (lv c n).ev en .And σ [ch e 0,ch e 1]:=(congrArg ((lv c (n+1)).ev en σ) he);refine(key).symm▸ ?_
 cases a with
 |false=>exact⟨[],kW h1 (congrArg (fun s=>some (aD.ok (V.bool false) s)) (Gz σ).symm)⟩
 |true=>
  obtain⟨ext,h2⟩:=h2 rfl;exact⟨ext,kW h1 h2⟩
noncomputable def sf(ss:List Int)(as:List (Int×Int)):Bool:=((as.length:Int)==(ss.length:Int))&&as.all fun p=> !(decide (p.1<0)||decide (p.2<0))
theorem Bw(hl:as.length≤900)(hs:ss.length≤900)(n:Nat): ∃ext:Sg,(lv (cc X) (n+60)).cf σ 1058 [vI ss,.int 0,vP as] []=some (.ok (.bool (sf ss as)) (σ++ext)):=by
 have l1:=Dz (X:=X) (σ:=σ) (ss:=ss) (kd:=0) (l:=as.map pP) (f:=0) (e:=ch (z1 X) 0) (by rw[Gk];assumption) ⋯ ay ⋯ ⋯ ⋯ ⋯ ⋯ ⋯ (n+36)
 rw[Gk]at l1
 obtain⟨ext,h⟩:=rJ (c:=cc X) (e:=z1 X) (b:=as.all fun p=> !(decide (p.1<0)||decide (p.2<0))) rfl l1 (fun u_=>pV (e:=ch (z1 X) 1) (S:=fun u_=>True) (x:= .v (vP as)) (t:= .seq (as.map pP) 0) (as:=as) (f:=pP) (F:=pP) (b:=fun p=>[("row",pP p)]) (P:=fun u_=>True) ⋯ ay ⋯ ⋯
  (bx ⋯ (aT (x:="arg") ⋯ ac rfl)) rfl (fun u_=>trivial) (ai _ _) (fD ‹_› (by exact ac)) trivial (fun p hp own acc u_=>⟨trivial,by kernel_rfl,(congrArg (bL _ _ _) (show d7 (ch (ch (z1 X) 1) 0)=[ch (ch (ch (z1 X) 1) 0) 3]from by kernel_rfl)).trans (jw (DK ⋯ (bw (op:= .Lt) (J2:=σ++[aa.lst acc]) (x:= .int p.1) (y:= .int 0) ⋯ ⋯ ⋯ ⋯ rfl) (fun u_=>bw (op:= .Lt) (J2:=σ++[aa.lst acc]) (x:= .int p.2) (y:= .int 0) ⋯ ⋯ ⋯ ⋯ rfl))),fun u_=>by kernel_rfl⟩) (fun u_=>rfl))
 refine⟨ext,gQ n (ab (BZ (by assumption) (n+38)) (bj (pL 0 (by exact Hw _) rfl (n+38) ?_))) rfl⟩
 rw[show aj (St X 1058 (0+1))=[si (aj (St X 1058 1)) 0]from rfl]
 exact ao (du rfl h)
end
section
theorem FH{w x y:Int}(he:e= .Compare (ch e 0) [.LtE,.LtE,.LtE] [ch e 1,ch e 2,ch e 3] (ps e))(hm:lastMarks [.LtE,.LtE,.LtE] [ch e 1,ch e 2,ch e 3]=false)(h0:(lv c n).ev en σ (ch e 0)=some (.ok (.int w) σ))(h1:(lv c n).ev en σ (ch e 1)=some (.ok (.int x) σ))(h2:(lv c n).ev en σ (ch e 2)=some (.ok (.int y) σ))(h3:(lv c n).ev en σ (ch e 3)=some (.ok (.int z) σ)):
 (lv c (n+1)).tr en σ e=some (.ok (decide (w≤x)&&(decide (x≤y)&&decide (y≤z))) σ):=by
 refine(congrArg ((lv c (n+1)).tr en σ) he).trans ?_;refine(?_:As (lv c n).ev (lv c n).tr en σ (.Compare (ch e 0) [.LtE,.LtE,.LtE] [ch e 1,ch e 2,ch e 3] (ps e))=_);have c1:ed σ .LtE (.int w) (.int x)=some (decide (w≤x)):=rfl;have c2:ed σ .LtE (.int x) (.int y)=some (decide (x≤y)):=rfl;have c3:ed σ .LtE (.int y) (.int z)=some (decide (y≤z)):=rfl
 refine(if_neg (by rw[hm];exact FT):(if lastMarks [.LtE,.LtE,.LtE] [ch e 1,ch e 2,ch e 3]=true then none else au ((lv c n).ev en σ (ch e 0)) _)=_).trans ?_
 rw[h0];refine fQ h1 c1 ?_
 cases decide (w≤x)with
 |false=>rfl
 |true=>
  refine fQ h2 c2 ?_
  cases decide (x≤y)with
  |false=>rfl
  |true=>exact hH h3 c3
variable {X:Xp}{own:List (Str×V)}{xs ax mu:List Int}{as:List (Int×Int)}{kd:Int}{arg:V}
theorem oO{f:β→V}{l:List β}(d:β)(h:i<l.length)(hl:l.length≤900):gn σ (.tup (l.map f)) (0+(i:Int))=some (f (l.getD i d)):=by
 rw[Int.zero_add]
 exact ja (by rw[GM,GB h,GP,GB h];rfl) (Ch ‹_› ‹_› (by exact ac))
theorem jT(he:e= .Call (.Name ("range":Str) (ps (ch e 0))) [ch e 1] [] (ps e))(hg:cG [ch e 1]=none)(hc:ak [ch e 1]=true)(h1:ch e 1= .Name ("many":Str) (ps (ch e 1))):(lv (cc X) (n+6)).iv (ah X 1058 (fp ss kd arg)) σ e=some (.ok (.v (.rng 0 (ss.length:Nat) 1)) σ):=
 yz (by rw[he];rfl) (bJ (fv:= .type "range") (v:= .v (.int (ss.length:Nat))) he hg rfl (by rw[hc];exact ac) (bx (by rw[h1];rfl) (aT h1 ac rfl)) rfl)
noncomputable def sa(ss:List Int)(as:List (Int×Int)):Bool:=((as.length:Int)==(ss.length:Int))&&(Gs ss.length).all fun i=> !(!(decide (0≤(as.getD i (0,0)).1)&&(decide ((as.getD i (0,0)).1≤(as.getD i (0,0)).2)&&decide ((as.getD i (0,0)).2≤ss.getD i 0))))
noncomputable abbrev z2(X:Xp):=sx (si (aj (St X 1058 2)) 0) 0
noncomputable abbrev z2c(X:Xp):=ch (ch (z2 X) 1) 0
theorem Bv(hl:as.length≤900)(hs:ss.length≤4)(n:Nat): ∃ext:Sg,(lv (cc X) (n+60)).cf σ 1058 [vI ss,.int 1,vP as] []=some (.ok (.bool (sa ss as)) (σ++ext)):=by
 have l1:=Dz (X:=X) (σ:=σ) (ss:=ss) (kd:=1) (l:=as.map pP) (f:=0) (e:=ch (z2 X) 0) (by rw[Gk];assumption) ⋯ ay ⋯ ⋯ ⋯ ⋯ ⋯ ⋯ (n+36)
 rw[Gk]at l1
 obtain⟨ext,h⟩:=rJ (c:=cc X) (e:=z2 X) (b:=(Gs ss.length).all fun i=> !(!(decide (0≤(as.getD i (0,0)).1)&&(decide ((as.getD i (0,0)).1≤(as.getD i (0,0)).2)&&decide ((as.getD i (0,0)).2≤ss.getD i 0))))) rfl l1 (fun hq=>by
  have hq:as.length=ss.length:=by have:=Gj hq;exact cN ‹_›
  have tl:=gW (S:=fun u_=>True) 0 (ss.length:Nat);rw[F8]at tl
  refine pV (e:=ch (z2 X) 1) (S:=fun u_=>True) (x:= .v (.rng 0 (ss.length:Nat) 1)) (t:= .rng 0 (ss.length:Nat) 1) (as:=Gs ss.length) (f:=fun(i:Nat)=>V.int (0+(i:Int))) (F:=fun(i:Nat)=>V.int (0+(i:Int))) (b:=fun(i:Nat)=>[("k",.int (0+(i:Int)))]) (P:=fun own=>own.lookup ("arg":Str)=some (vP as)∧own.lookup ("shape":Str)=some (vI ss)) ⋯ ay ⋯ ⋯
   (jT ⋯ ⋯ ⋯ ⋯) (jg hs) (fun u_=>trivial) tl (by rw[GQ];exact fD ‹_› (by exact ac)) ⟨by kernel_rfl,by kernel_rfl⟩ (fun i hi own acc hp=>⟨hp,by kernel_rfl,(congrArg (bL _ _ _) (show d7 (z2c X)=[ch (z2c X) 3]from by kernel_rfl)).trans (jw ?_),fun u_=>by kernel_rfl⟩) (fun u_=>rfl)
  have hi':i<ss.length:=Hg.mp hi
  refine By ⋯ (FH ⋯ ⋯ ⋯
   (cW (x:=pP (as.getD i (0,0))) (i:=0) (J2:=σ++[aa.lst acc]) ⋯ ⋯ (cW (x:=vP as) (i:=0+(i:Int)) (J2:=σ++[aa.lst acc]) ⋯ ⋯ (bQ (x:="arg") ⋯ (F1 ⋯ hp.1)) ⋯ (oO (0,0) (EK ‹_› ‹_›) hl)) ⋯ rfl)
   (cW (x:=pP (as.getD i (0,0))) (i:=1) (J2:=σ++[aa.lst acc]) ⋯ ⋯ (cW (x:=vP as) (i:=0+(i:Int)) (J2:=σ++[aa.lst acc]) ⋯ ⋯ (bQ (x:="arg") ⋯ (F1 ⋯ hp.1)) ⋯ (oO (0,0) (EK ‹_› ‹_›) hl)) ⋯ rfl)
   (cW (x:=vI ss) (i:=0+(i:Int)) (J2:=σ++[aa.lst acc]) ⋯ ⋯ (bQ (x:="shape") ⋯ (F1 ⋯ hp.2)) ⋯ (oO 0 hi' (bf ‹_› (by exact ac))))))
 refine⟨ext,gQ n (ab (BZ (bf ‹_› (by exact ac)) (n+38)) (ab (iy 0 (by exact Hw _) rfl (n+38)) (bj (pL 1 (by decide) rfl (n+38) ?_)))) rfl⟩
 rw[show aj (St X 1058 (1+1))=[si (aj (St X 1058 2)) 0]from rfl]
 exact ao (du rfl h)
noncomputable def jW(ss xs:List Int):Bool:=((xs.length:Int)==(ss.length:Int))&&(Gs ss.length).all fun i=> !(!(xs.getD i 0==ss.getD i 0)&&(!(ss.getD i 0==1)||decide (xs.getD i 0<0)))
noncomputable abbrev z3(X:Xp):=sx (si (aj (St X 1058 3)) 1) 0
noncomputable abbrev Ej(X:Xp):=ch (z3 X) 0
noncomputable abbrev Fa(X:Xp):=si (aj (St X 1058 3)) 0
theorem BC(hl:xs.length≤900)(hs:ss.length≤4)(n:Nat): ∃ext:Sg,(lv (cc X) (n+60)).cf σ 1058 [vI ss,.int 2,vI xs] []=some (.ok (.bool (jW ss xs)) (σ++ext)):=by
 have t0:(lv (cc X) (n+57)).tr (ah X 1058 (fp ss 2 (vI xs))) σ (sx (Fa X) 0)=some (.ok (!((xs.length:Int)==(ss.length:Int))) σ):=by
  have e1:((xs.map V.int).length:Int)=xs.length:=by rw[Gk]
  refine(e1)▸ ?_
  exact bw (op:= .NotEq) (J2:=σ) (x:= .int _) (y:= .int _) rfl ay (kq (l:=xs.map V.int) ⋯ ⋯ rfl ⋯ ay (aT (x:="arg") ⋯ ac rfl) (by rw[Gk];exact bf ‹_› (by exact ac))) (aT (x:="many") rfl ac rfl) rfl
 have fin: ∀{ext:Sg} {b:Bool},(lv (cc X) (n+58)).exs (ah X 1058 (fp ss 2 (vI xs))) σ [Fa X,si (aj (St X 1058 3)) 1]=some (.ok (.ret (.bool b)) (ah X 1058 (fp ss 2 (vI xs))) (σ++ext))→(lv (cc X) (n+60)).cf σ 1058 [vI ss,.int 2,vI xs] []=some (.ok (.bool b) (σ++ext)):=fun h=>
  gQ n (ab (BZ (bf ‹_› (by exact ac)) (n+38)) (ab (iy 0 (by exact Hw _) rfl (n+38)) (ab (iy 1 (by exact HB ..) rfl (n+38)) (bj (pL 2 (by exact HB ..) rfl (n+38) ((congrArg ((lv (cc X) (n+58)).exs _ σ) (show aj (St X 1058 (2+1))=[Fa X,si (aj (St X 1058 3)) 1]from rfl)).trans h)))))) rfl
 cases hq:((xs.length:Int)==(ss.length:Int))with
 |false=>
  rw[hq]at t0;unfold jW;rw[hq,Bool.false_and]
  exact⟨[],fin (by rw[Gz];exact bj (eM rfl t0 rfl))⟩
 |true=>
  rw[hq]at t0;unfold jW;rw[hq,FW]
  have hq:xs.length=ss.length:=by have:=Gj hq;exact cN ‹_›
  have tl:=gW (S:=fun u_=>True) 0 (ss.length:Nat);rw[F8]at tl;have R:=pV (c:=cc X) (σ:=σ) (en:=ah X 1058 (fp ss 2 (vI xs))) (e:=z3 X) (S:=fun u_=>True) (x:= .v (.rng 0 (ss.length:Nat) 1)) (t:= .rng 0 (ss.length:Nat) 1) (as:=Gs ss.length) (f:=fun(i:Nat)=>V.int (0+(i:Int))) (F:=fun(i:Nat)=>V.int (0+(i:Int))) (b:=fun(i:Nat)=>[("k",.int (0+(i:Int)))]) (P:=fun own=>own.lookup ("arg":Str)=some (vI xs)∧own.lookup ("shape":Str)=some (vI ss))
   (k:=fun i=> !(xs.getD i 0==ss.getD i 0)&&(!(ss.getD i 0==1)||decide (xs.getD i 0<0))) rfl ay ⋯ ⋯
   (jT ⋯ ⋯ ⋯ ⋯) (jg hs) (fun u_=>trivial) tl (by rw[GQ];exact fD ‹_› (by exact ac)) ⟨by kernel_rfl,by kernel_rfl⟩ (fun i hi own acc hp=>⟨hp,by kernel_rfl,(congrArg (bL _ _ _) (show d7 (Ej X)=[ch (Ej X) 3]from rfl)).trans (jw (by
    have hi':i<ss.length:=Hg.mp hi;have A: ∀{e:Expr} (m:Nat),e= .Subscript (ch e 0) (ch e 1) (ps e)→bz (ch e 1)=true→ch e 0= .Name ("arg":Str) (ps (ch e 0))→ch e 1= .Name ("k":Str) (ps (ch e 1))→(lv (cc X) (m+2)).ev ⟨al (dF (Ej X)).names (ah X 1058 (fp ss 2 (vI xs))),("k",.int (0+(i:Int)))::own,[],none⟩ (σ++[aa.lst acc]) e=some (.ok (.int (xs.getD i 0)) (σ++[aa.lst acc])):=fun m h1 h2 h3 h4=>
     cW (x:=vI xs) (i:=0+(i:Int)) (J2:=σ++[aa.lst acc]) h1 h2 (bQ (x:="arg") h3 (F1 ⋯ hp.1)) (bQ (x:="k") h4 rfl) (oO 0 (EK ‹_› ‹_›) hl)
    have B: ∀{e:Expr} (m:Nat),e= .Subscript (ch e 0) (ch e 1) (ps e)→bz (ch e 1)=true→ch e 0= .Name ("shape":Str) (ps (ch e 0))→ch e 1= .Name ("k":Str) (ps (ch e 1))→(lv (cc X) (m+2)).ev ⟨al (dF (Ej X)).names (ah X 1058 (fp ss 2 (vI xs))),("k",.int (0+(i:Int)))::own,[],none⟩ (σ++[aa.lst acc]) e=some (.ok (.int (ss.getD i 0)) (σ++[aa.lst acc])):=fun m h1 h2 h3 h4=>
     cW (x:=vI ss) (i:=0+(i:Int)) (J2:=σ++[aa.lst acc]) h1 h2 (bQ (x:="shape") h3 (F1 ⋯ hp.2)) (bQ (x:="k") h4 rfl) (oO 0 hi' (bf ‹_› (by exact ac)))
    exact lr ⋯ (bw (op:= .NotEq) (x:= .int _) (y:= .int _) ⋯ ⋯ (A (n+51) ⋯ ⋯ ⋯ ⋯) (B (n+51) ⋯ ⋯ ⋯ ⋯) rfl)
     (fun u_=>DK ⋯ (bw (op:= .NotEq) (x:= .int _) (y:= .int 1) ⋯ ⋯ (B (n+50) ⋯ ⋯ ⋯ ⋯) ⋯ rfl) (fun u_=>bw (op:= .Lt) (x:= .int _) (y:= .int 0) ⋯ ⋯ (A (n+50) ⋯ ⋯ ⋯ ⋯) ⋯ rfl)))),fun u_=>by kernel_rfl⟩) (fun u_=>rfl)
  obtain⟨ext,h⟩:=R;exact⟨ext,fin (ab (dq rfl t0 rfl) (ao (du rfl h)))⟩
noncomputable abbrev z4(X:Xp):=sx (si (aj (St X 1058 4)) 0) 0
theorem AI(hl:ax.length≤60)(hs:ss.length≤4)(n:Nat): ∃ext:Sg,(lv (cc X) (n+60)).cf σ 1058 [vI ss,.int 3,vI ax] []=some (.ok (.bool (eW ss.length ax)) (σ++ext)):=by
 have h:(lv (cc X) (n+57)).ev (ah X 1058 (fp ss 3 (vI ax))) σ (z4 X)=some (.ok (.bool (eW ss.length ax)) (σ++[aa.lst ((cm ax).map V.int)]++[aa.lst ((ez ss.length).map V.int)])):=by
  refine oY (n:=n+56) (op:= .Eq) (J2:=σ++[aa.lst ((cm ax).map V.int)]) (x:= .lst σ.length) (y:= .lst (σ++[aa.lst ((cm ax).map V.int)]).length) rfl ay (bJ (n:=n+54) (x:="sorted") (fv:= .builtin "sorted") (v:= .v (vI ax)) (J2:=σ) ⋯ ⋯ rfl ⋯ (bx (n:=n+54) ⋯ (aT (n:=n+53) (x:="arg") ⋯ ac rfl)) (m5 (fD ‹_› (by exact ac))))
   (bJ (n:=n+54) (x:="list") (fv:= .type "list") (v:= .v (.rng 0 (ss.length:Int) 1)) ⋯ ⋯ rfl ⋯ (jT ⋯ ⋯ ⋯ ⋯) (j7 hs))
   (vc (bX (by exact GG)) (by exact GG) (by rw[(dE ax).length_eq];exact fD ‹_› (by exact ac)))
 rw[Gx]at h;generalize [aa.lst ((cm ax).map V.int)]++[aa.lst ((ez ss.length).map V.int)]=ext at h
 refine⟨ext,gQ n (ab (BZ (bf ‹_› (by exact ac)) (n+38)) (ab (iy 0 (by exact Hw _) rfl (n+38)) (ab (iy 1 (by decide) rfl (n+38)) (ab (iy 2 (by exact HB ..) rfl (n+38)) (bj (pL 3 (by exact Hz _) rfl (n+38) ?_)))))) rfl⟩
 rw[show aj (St X 1058 (3+1))=[si (aj (St X 1058 4)) 0]from rfl]
 exact ao (du rfl h)
noncomputable abbrev z5(X:Xp):=sx (si (aj (St X 1058 5)) 0) 0
noncomputable abbrev z5c(X:Xp):=ch (z5 X) 0
theorem Ap(hl:mu.length≤900)(hs:ss.length≤4)(n:Nat): ∃ext:Sg,(lv (cc X) (n+60)).cf σ 1058 [vI ss,.int 4,vI mu] []=some (.ok (.bool (nz mu)) (σ++ext)):=by
 obtain⟨ext,h⟩:=pV (c:=cc X) (n:=n+55) (σ:=σ) (en:=ah X 1058 (fp ss 4 (vI mu))) (e:=z5 X) (S:=fun u_=>True) (x:= .v (vI mu)) (t:= .seq (mu.map V.int) 0) (as:=mu) (f:=V.int) (F:=V.int) (b:=fun p=>[("m",.int p)]) (P:=fun u_=>True) (k:=fun m=>m==0) rfl ay ⋯ ⋯
  (bx (n:=n+54) ⋯ (aT (n:=n+53) (x:="arg") ⋯ ac rfl)) rfl (fun u_=>trivial) (ai _ _) (fD ‹_› (by exact ac)) trivial (fun p hp own acc u_=>⟨trivial,by kernel_rfl,(congrArg (bL _ _ _) (show d7 (z5c X)=[ch (z5c X) 3]from rfl)).trans (jw (bw (n:=n+54) (op:= .Eq) (J2:=σ++[aa.lst acc]) (x:= .int p) (y:= .int 0) ⋯ ⋯ ⋯ ⋯ rfl)),fun u_=>by kernel_rfl⟩) (fun u_=>rfl)
 refine⟨ext,gQ n (ab (BZ (bf ‹_› (by exact ac)) (n+38)) (ab (iy 0 (by exact Hw _) rfl (n+38)) (ab (iy 1 (by decide) rfl (n+38)) (ab (iy 2 (by exact HB ..) rfl (n+38)) (ab (iy 3 (by exact Hz _) rfl (n+38)) (bj (pL 4 (by exact Hx _) rfl (n+38) ?_))))))) rfl⟩
 rw[show aj (St X 1058 (4+1))=[si (aj (St X 1058 5)) 0]from rfl]
 exact ao (du rfl h)
noncomputable abbrev z6(X:Xp):=sx (St X 1058 6) 0
noncomputable abbrev z6c(X:Xp):=ch (ch (z6 X) 0) 0
theorem wg{a:Bool}(he:e= .BoolOp .And [ch e 0,ch e 1] (ps e))(h1: ∃ext:Sg,(lv c n).ev en σ (ch e 0)=some (.ok (.bool a) (σ++ext)))(h2: ∀σ:Sg,(lv c n).ev en σ (ch e 1)=some (.ok (.bool b) σ)): ∃ext:Sg,(lv c (n+1)).ev en σ e=some (.ok (.bool (a&&b)) (σ++ext)):=by
 obtain⟨ext,h1⟩:=h1;have key:(lv c (n+1)).ev en σ e=je (lv c n).ev en .And σ [ch e 0,ch e 1]:=(congrArg ((lv c (n+1)).ev en σ) he);refine(key).symm▸ ?_
 cases a with
 |false=>exact⟨ext,kW h1 rfl⟩
 |true=>exact⟨ext,kW h1 (h2 _)⟩
noncomputable def lN(ss xs:List Int):Bool:=(xs.all fun s=> !(decide (s<0)))&&(aQ 1 xs==aQ 1 ss)
theorem BF(h1:bP xs)(h2:bP ss)(n:Nat): ∃ext:Sg,(lv (cc X) (n+60)).cf σ 1058 [vI ss,.int 5,vI xs] []=some (.ok (.bool (lN ss xs)) (σ++ext)):=by
 have l1:=h1.1;have l2:=h2.1;obtain⟨ext,h⟩:=wg (c:=cc X) (n:=n+57) (σ:=σ) (en:=ah X 1058 (fp ss 5 (vI xs))) (e:=z6 X) (a:=xs.all fun s=> !(decide (s<0))) (b:=aQ 1 xs==aQ 1 ss) rfl
  (pV (c:=cc X) (n:=n+55) (σ:=σ) (en:=ah X 1058 (fp ss 5 (vI xs))) (e:=ch (z6 X) 0) (S:=fun u_=>True) (x:= .v (vI xs)) (t:= .seq (xs.map V.int) 0) (as:=xs) (f:=V.int) (F:=V.int) (b:=fun p=>[("s",.int p)]) (P:=fun u_=>True) (k:=fun s=>decide (s<0)) rfl ay ⋯ ⋯
   (bx (n:=n+54) ay (aT (n:=n+53) (x:="arg") ⋯ ac rfl)) rfl (fun u_=>trivial) (ai _ _) (fD ‹_› (by exact ac)) trivial (fun p hp own acc u_=>⟨trivial,by kernel_rfl,(congrArg (bL _ _ _) (show d7 (z6c X)=[ch (z6c X) 3]from rfl)).trans (jw (bw (n:=n+54) (op:= .Lt) (J2:=σ++[aa.lst acc]) (x:= .int p) (y:= .int 0) ⋯ ⋯ ⋯ ⋯ rfl)),fun u_=>by kernel_rfl⟩) (fun u_=>rfl))
  (fun σ=>oY (n:=n+56) (op:= .Eq) (J2:=σ) (x:= .int (aQ 1 xs)) (y:= .int (aQ 1 ss)) rfl ay (bJ (n:=n+54) (x:="_law_size") (fv:= .ref 1046) (v:= .v (vI xs)) (J2:=σ) ⋯ ⋯ rfl ⋯ (bx (n:=n+54) ay (aT (n:=n+53) (x:="arg") ⋯ ac rfl)) (eJ (X:=X) (xs:=[vI xs]) ⋯ (rU h1 (n+35) (uC X))))
   (bJ (n:=n+54) (x:="_law_size") (fv:= .ref 1046) (v:= .v (vI ss)) (J2:=σ) ⋯ ⋯ rfl ⋯ (bx (n:=n+54) ay (aT (n:=n+53) (x:="shape") ⋯ ac rfl)) (eJ (xs:=[vI ss]) ⋯ (rU h2 (n+35) (uC X)))) rfl)
 exact⟨ext,gQ n (ab (BZ (bf ‹_› (by exact ac)) (n+38)) (ab (iy 0 (by exact Hw _) rfl (n+38)) (ab (iy 1 (by decide) rfl (n+38)) (ab (iy 2 (by exact HB ..) rfl (n+38)) (ab (iy 3 (by exact Hz _) rfl (n+38)) (ab (iy 4 (by exact Hx _) rfl (n+38)) (ao (du rfl h)))))))) rfl⟩
theorem oV:sf ss as=(lP as&&(as.length:Int)==(ss.length:Int)):=by
 unfold sf lP;rw[Bool.and_comm];congr 1;congr 1;funext p;rw[Bool.not_or,←decide_not,←decide_not];congr 1<;>(rw[decide_eq_decide];exact F7)
theorem nf(d:β)(g:Int→β→Bool): ∀{l:List β},l.length=ss.length→((Gs ss.length).all fun i=>g (ss.getD i 0) (l.getD i d))=(ss.zip l).all fun p=>g p.1 p.2:=by
 induction ss with
 |nil=>exact fun u_=>by rw[List.zip_nil_left];rfl
 |cons s ss ih=>
  intro l h
  cases l with
  |nil=>exact Nat.noConfusion h
  |cons a l=>
   rw[GI,List.range_succ_eq_map,G0,List.all_map,G9,G0,←ih (Nat.succ.inj h)];rfl
theorem pg:sa ss as=(lS ss as&&(as.length:Int)==(ss.length:Int)):=by
 unfold sa lS;rw[Bool.and_comm]
 cases h:((as.length:Int)==(ss.length:Int))with
 |false=>rw[Bool.and_false,Bool.and_false]
 |true=>
  have hq:as.length=ss.length:=by have:=Gj h;exact cN ‹_›
  rw[FY,FY,←nf (0,0) (fun s p=>decide (0≤p.1)&&(decide (p.1≤p.2)&&decide (p.2≤s))) hq];simp only[Bool.not_not]
theorem pJ:lN ss xs=((xs.all fun s=>decide (0≤s))&&aQ 1 xs==aQ 1 ss):=by
 unfold lN;congr 2;funext s;rw[←decide_not,decide_eq_decide];exact F7
end
section
variable {X:Xp}{own:List (Str×V)}{xs ax mu ts:List Int}{as:List (Int×Int)}{kd:Int}{arg:V}
theorem sA:jW ss xs=(((xs.length:Int)==(ss.length:Int))&&(ss.zip xs).all fun p=> !(!(p.2==p.1)&&(!(p.1==1)||decide (p.2<0)))):=by
 unfold jW
 cases h:((xs.length:Int)==(ss.length:Int))with
 |false=>rfl
 |true=>
  have hq:xs.length=ss.length:=by have:=Gj h;exact cN ‹_›
  rw[FW,FW,←nf 0 (fun s x=> !(!(x==s)&&(!(s==1)||decide (x<0)))) hq]
theorem kc: ∀{xs ts:List Int},xs.length=ss.length→ts.length=ss.length→(∀s∈ss,1≤s)→(∀p∈ss.zip ts,p.1=1→p.2=0)→((ss.zip xs).all fun p=> !(!(p.2==p.1)&&(!(p.1==1)||decide (p.2<0))))=(kg ss xs ts&&xs.all fun x=>decide (0≤x)):=by
 induction ss with
 |nil=>
  intro xs ts h1 h2 _ _;obtain rfl:=GL h1;rfl
 |cons s ss ih=>
  intro xs ts h1 h2 h3 h4
  cases xs with
  |nil=>exact nomatch h1
  |cons x xs=>
  cases ts with
  |nil=>exact nomatch h2
  |cons t ts=>
  have ih:=ih (xs:=xs) (ts:=ts) (Nat.succ.inj h1) (Nat.succ.inj h2) (fun s q=>h3 s (.tail _ q)) (fun p q=>h4 p (by rw[G9];exact .tail _ q))
  have hs:=h3 s (.head _)
  have ht:=h4 (s,t) (by rw[G9];exact .head _)
  unfold kg at ih⊢;simp only[G9,G0,ih]
  have key:(!(!(x==s)&&(!(s==1)||decide (x<0))))=(((s==x)||((s==1)&&(t==0)))&&decide (0≤x)):=by
   rw[Bool.eq_iff_iff];simp only[Bool.not_and,Bool.not_not,Bool.or_eq_true,FS,beq_iff_eq,FZ,Bool.not_or,decide_eq_false_iff_not,decide_eq_true_eq,Bool.not_eq_eq_eq_not,Bool.not_true];constructor
   ·rintro (rfl|⟨rfl,h⟩)
    ·exact⟨.inl rfl,by exact ilc ‹_› (by exact ac)⟩
    ·exact⟨.inr ⟨rfl,ht rfl⟩,by exact F7.mp ‹_›⟩
   ·rintro ⟨rfl|⟨rfl,_⟩,h⟩
    ·exact .inl rfl
    ·exact .inr ⟨rfl,by omega⟩
  rw[key]
  cases((s==x)||((s==1)&&(t==0)))<;>cases decide (0≤x)<;>simp
noncomputable abbrev oP(ss:List Int)(kd:Int)(arg:V):List (Str×V):=[("arg",arg),("kind",.int kd),("shape",vI ss)]
noncomputable def Ew(i:Nat):Int:=match i with|0=>0|1=>1|2=>3|_=>4
theorem ve(i:Nat)(hi:i<4)(n:Nat):(lv (cc X) (n+20)).tr (ah X 1063 (oP ss kd arg)) σ (sx (St X 1063 i) 0)=some (.ok (kd==Ew i) σ):=by
 revert i;refine sS ?_ ?_ ?_ ?_
 all_goals exact bw (op:= .Eq) rfl ay (aT (x:="kind") rfl ac rfl) rfl rfl
theorem zU(X:Xp)(i:Nat)(hi:i<4):St X 1063 i= .If (sx (St X 1063 i) 0) (aj (St X 1063 i)) (cQ (St X 1063 i)) (kl (St X 1063 i))∧cQ (St X 1063 i)=[]∧aj (St X 1063 i)=[si (aj (St X 1063 i)) 0]∧si (aj (St X 1063 i)) 0= .Return (some (sx (si (aj (St X 1063 i)) 0) 0)) (kl (si (aj (St X 1063 i)) 0)):=by
 revert i;refine sS ?_ ?_ ?_ ?_
 all_goals exact⟨rfl,rfl,rfl,rfl⟩
theorem mz(i:Nat)(hi:i<4)(hne:(kd==Ew i)=false)(n:Nat):aR (cc X) (lv (cc X) (n+20)) (ah X 1063 (oP ss kd arg)) σ (St X 1063 i)=some (.ok .next (ah X 1063 (oP ss kd arg)) σ):=by
 have t:=ve (X:=X) (σ:=σ) (ss:=ss) (kd:=kd) (arg:=arg) i hi n;rw[hne]at t;refine mF (zU X i hi) fun h1 h2 u_=> ?_
 exact dq h1 t (by rw[h2];rfl)
theorem rW{so:V}(i:Nat)(hi:i<4)(hne:(kd==Ew i)=true)(n:Nat)(h:(lv (cc X) (n+19)).ev (ah X 1063 (oP ss kd arg)) σ (sx (si (aj (St X 1063 i)) 0) 0)=some (.ok so J1)):aR (cc X) (lv (cc X) (n+20)) (ah X 1063 (oP ss kd arg)) σ (St X 1063 i)=some (.ok (.ret so) (ah X 1063 (oP ss kd arg)) J1):=by
 have t:=ve (X:=X) (σ:=σ) (ss:=ss) (kd:=kd) (arg:=arg) i hi n;rw[hne]at t;refine td (zU X i hi) fun h1 h2 h3 h4=> ?_;refine eM h1 t ?_;rw[h3];exact ao (du h4 h)
theorem jo(n:Nat)(h:(lv (cc X) (n+59)).exs (ah X 1063 (oP ss kd arg)) σ [St X 1063 0,St X 1063 1,St X 1063 2,St X 1063 3,St X 1063 4]=some so)(ho:ir so=some o):(lv (cc X) (n+60)).cf σ 1063 [vI ss,.int kd,arg] []=some o:=
 bo (a:=1063) (binds:=[("shape",vI ss),("kind",.int kd),("arg",arg)]) ⋯ ⋯ ac ((congrArg ((lv (cc X) (n+59)).exs (ah X 1063 (oP ss kd arg)) σ) (show aB X 1063=_ from rfl)).trans h) ho
theorem C3(hl:ss.length≤900)(n:Nat): ∃ext:Sg,(lv (cc X) (n+60)).cf σ 1063 [vI ss,.int 0,vP as] []=some (.ok (vI (e_ ss as)) (σ++ext)):=
 ⟨_,jo n (bj (rW 0 (by decide) rfl (n+38) (tj (as:=ss.zip as) (F:=fun p=>p.1+p.2.1+p.2.2) rfl rfl rfl ac ay (by rw[Go];exact wP ‹_› (by exact ac))
  (bN (S:=fun u_=>True) (x:= .it (.zip [.seq (ss.map V.int) 0,.seq (as.map pP) 0])) (t:= .zip [.seq (ss.map V.int) 0,.seq (as.map pP) 0]) (as:=ss.zip as) (f:=fun p=> .tup [.int p.1,pP p.2]) (b:=fun p=>[("row",pP p.2),("s",.int p.1)]) (P:=fun u_=>True) ⋯ rfl ⋯
   (eB (x:=vI ss) (y:=vP as) ⋯ rfl rfl ⋯ ⋯ ⋯ (aT (x:="shape") ⋯ ac rfl) (aT (x:="arg") ⋯ ac rfl) rfl rfl) rfl (fun u_=>trivial)
   (aZ (ai _ _) (ai _ _)) (by rw[Go];exact rR ‹_› (by exact ac)) trivial (fun p hp own acc u_=>⟨trivial,by kernel_rfl,by kernel_rfl⟩))))) rfl⟩
theorem Ce(hl:as.length≤900)(n:Nat): ∃ext:Sg,(lv (cc X) (n+60)).cf σ 1063 [vI ss,.int 1,vP as] []=some (.ok (vI (eN as)) (σ++ext)):=
 ⟨_,jo n (ab (mz 0 (by decide) rfl (n+38)) (bj (rW 1 (by decide) rfl (n+38) (tj (as:=as) (F:=fun p=>p.2-p.1) rfl rfl rfl ac ay hl
  (bN (S:=fun u_=>True) (t:= .seq (as.map pP) 0) (as:=as) (f:=pP) (b:=fun p=>[("row",pP p)]) (P:=fun u_=>True) ⋯ rfl ⋯
   (bx ⋯ (aT (x:="arg") ⋯ ac rfl)) rfl (fun u_=>trivial)
   (ai _ _) (fD ‹_› (by exact ac)) trivial (fun p hp own acc u_=>⟨trivial,by kernel_rfl,by kernel_rfl⟩)))))) rfl⟩
theorem CW(hl:ax.length≤900)(hs:ss.length≤4)(hp: ∀a∈ax,0≤a∧a.toNat<ss.length)(n:Nat): ∃ext:Sg,(lv (cc X) (n+60)).cf σ 1063 [vI ss,.int 3,vI ax] []=some (.ok (vI (ax.map fun a=>ss.getD a.toNat 0)) (σ++ext)):=
 ⟨_,jo n (ab (mz 0 (by decide) rfl (n+38)) (ab (mz 1 (by decide) rfl (n+38)) (bj (rW 2 (by decide) rfl (n+38) (tj (as:=ax) (F:=fun a=>ss.getD a.toNat 0) rfl rfl rfl ac ay hl
  (bN (S:=fun u_=>True) (x:= .v (vI ax)) (t:= .seq (ax.map V.int) 0) (as:=ax) (f:=V.int) (b:=fun p=>[("a",.int p)]) (P:=fun own=>own.lookup ("shape":Str)=some (vI ss)) ⋯ rfl ⋯
   (bx ⋯ (aT (x:="arg") ⋯ ac rfl)) rfl (fun u_=>trivial)
   (ai _ _) (fD ‹_› (by exact ac)) ⋯ (fun p hp' own acc hq=>⟨hq,by kernel_rfl,cW (x:=vI ss) (i:=p) ⋯ ⋯ (bQ (x:="shape") ⋯ (F1 ⋯ hq)) ⋯ (kD (hp p hp').1 (hp p hp').2 (bf ‹_› (by exact ac)))⟩))))))) rfl⟩
theorem Cu(hl:ss.length≤900)(hm:rh mu)(n:Nat): ∃ext:Sg,(lv (cc X) (n+60)).cf σ 1063 [vI ss,.int 4,vI mu] []=some (.ok (vI (fb ss mu)) (σ++ext)):=by
 have e:fb ss mu=(ss.zip mu).map fun p=>(p.1+cA p.2-1).fdiv (cA p.2):=by
  unfold fb;refine G8 fun p u_=> ?_;congr 1;simp+arith
 refine(e).symm▸ ?_
 exact⟨_,jo n (ab (mz 0 (by decide) rfl (n+38)) (ab (mz 1 (by decide) rfl (n+38)) (ab (mz 2 (by decide) rfl (n+38)) (bj (rW 3 (by decide) rfl (n+38) (tj (as:=ss.zip mu) (F:=fun p=>(p.1+cA p.2-1).fdiv (cA p.2)) rfl rfl rfl ac ay (by rw[Go];exact wP ‹_› (by exact ac))
  (bN (S:=fun u_=>True) (x:= .it (.zip [.seq (ss.map V.int) 0,.seq (mu.map V.int) 0])) (t:= .zip [.seq (ss.map V.int) 0,.seq (mu.map V.int) 0]) (as:=ss.zip mu) (f:=fun p=> .tup [.int p.1,.int p.2]) (b:=fun p=>[("m",.int p.2),("s",.int p.1)]) (P:=fun u_=>True) ⋯ rfl ⋯
   (eB (x:=vI ss) (y:=vI mu) ⋯ rfl rfl ⋯ ⋯ ⋯ (aT (x:="shape") ⋯ ac rfl) (aT (x:="arg") ⋯ ac rfl) rfl rfl) rfl (fun u_=>trivial)
   (aZ (ai _ _) (ai _ _)) (by rw[Go];exact rR ‹_› (by exact ac)) trivial (fun p hp own acc u_=>⟨trivial,by kernel_rfl,cE (op:= .FloorDiv) (J2:=σ++[aa.lst acc]) ⋯ ⋯ ⋯ (oq (fR (hm _ (Gr hp).2)).1 (fR (hm _ (Gr hp).2)).2.1)⟩)))))))) rfl⟩
theorem uD(h:kd=2∨kd=5)(n:Nat):(lv (cc X) (n+60)).cf σ 1063 [vI ss,.int kd,arg] []=some (.ok arg σ):=by
 have f: ∀i,i<4→(kd==Ew i)=false:=by
  intro i hi;rw[beq_eq_false_iff_ne]
  rcases h with rfl|rfl<;>(revert i;refine sS ?_ ?_ ?_ ?_<;>decide)
 exact jo n (ab (mz 0 (by decide) (f 0 (by decide)) (n+38)) (ab (mz 1 (by decide) (f 1 (by decide)) (n+38)) (ab (mz 2 (by decide) (f 2 (by decide)) (n+38)) (ab (mz 3 (by decide) (f 3 (by decide)) (n+38)) (ao (du rfl (aT rfl ac rfl))))))) rfl
noncomputable def zV(s:Stmt):List ExceptHandler:=(pS s).2.2.2
noncomputable def hT:List ExceptHandler→Expr
 | .ExceptHandler (some t) _ _ _::_=>t
 |_=>default
theorem AK(X:Xp)(fs:ei)(en:En)(σ:Sg)(b:List Stmt):re (cc X) fs en σ b (zV (St X 1053 0))=rV (fs en σ b) fun cls en' J1=>if eR (cc X) en' (hT (zV (St X 1053 0))) cls=true then some (.ok (.ret .none) en' J1)else none:=rfl
noncomputable abbrev dR(j:Nat)(kd:Int)(arg:V):List (Str×V):=[("arg",arg),("kind",.int kd),("tracker",.inst ar j)]
noncomputable abbrev tb(X:Xp)(i:Nat):=si (aj (St X 1053 0)) i
theorem uz(i:Nat)(hi:i<5)(n:Nat):(lv (cc X) (n+20)).tr (ah X 1053 (dR j kd arg)) σ (sx (tb X i) 0)=some (.ok (kd==(i:Int)) σ):=by
 revert i;refine qt ?_ ?_ ?_ ?_ ?_
 all_goals exact bw (op:= .Eq) rfl ay (aT (x:="kind") rfl ac rfl) rfl rfl
theorem zZ(X:Xp)(i:Nat)(hi:i<5):tb X i= .If (sx (tb X i) 0) (aj (tb X i)) (cQ (tb X i)) (kl (tb X i))∧cQ (tb X i)=[]∧aj (tb X i)=[si (aj (tb X i)) 0]:=by
 revert i;refine qt ?_ ?_ ?_ ?_ ?_
 all_goals exact⟨rfl,rfl,rfl⟩
theorem iD(i:Nat)(hi:i<5)(hne:(kd==(i:Int))=false)(n:Nat):aR (cc X) (lv (cc X) (n+20)) (ah X 1053 (dR j kd arg)) σ (tb X i)=some (.ok .next (ah X 1053 (dR j kd arg)) σ):=by
 have t:=uz (X:=X) (σ:=σ) (j:=j) (kd:=kd) (arg:=arg) i hi n;rw[hne]at t;refine mF (zZ X i hi) fun h1 h2 u_=> ?_
 exact dq h1 t (by rw[h2];rfl)
noncomputable def Cb(X:Xp)(i:Nat):Stmt:=if i=5 then tb X 5 else si (aj (tb X i)) 0
noncomputable abbrev nr(X:Xp)(i:Nat):=sx (Cb X i) 0
structure li(X:Xp)(i:Nat)(mn:Str)(f:Addr):Prop where
 r:Cb X i= .Return (some (nr X i)) (kl (Cb X i))
 e:nr X i= .Call (.Attribute (ch (ch (nr X i) 0) 0) mn (ps (ch (nr X i) 0))) [ch (nr X i) 1] [] (ps (nr X i))
 p:(aS (ch (ch (nr X i) 0) 0)&&(ps (ch (nr X i) 0)).endLine==(ps (nr X i)).line&&decide ([ch (nr X i) 1].length+0<20)&&ak [ch (nr X i) 1])=true
 t:ch (ch (nr X i) 0) 0= .Name ("tracker":Str) (ps (ch (ch (nr X i) 0) 0))
 a:ch (nr X i) 1= .Name ("arg":Str) (ps (ch (nr X i) 1))
 m:yq X ar mn f=true
 m2: ∀vs:V,(eA (cH vs) mn).isNone=true
 f1:dY X f=true∧bK (cc X).K (.ref f)=true
noncomputable def qM(en:En):aD V→aJ
 | .ok v J1=> .ok (.ret v) en J1
 | .exc cls J1=> .exc cls en J1
theorem zD{f:Addr}(I:li X i mn f){vs:V}(hj:σ[j]? =some (aa.dct (cH vs)))(n:Nat)(h:(lv (cc X) (n+10)).cf σ f [.inst ar j,arg] []=some o):(lv (cc X) (n+12)).exs (ah X 1053 (dR j kd arg)) σ [Cb X i]=some (qM (ah X 1053 (dR j kd arg)) o):=by
 have hx:(lv (cc X) (n+10)).ev (ah X 1053 (dR j kd arg)) σ (ch (ch (nr X i) 0) 0)=some (.ok (.inst ar j) σ):=aT I.t ac rfl
 have ha:dX (lv (cc X) (n+10)).iv (ah X 1053 (dR j kd arg)) σ [ch (nr X i) 1]=some (.ok [.v arg] σ):=kA (by rw[I.a];rfl) (bx (by rw[I.a];rfl) (aT I.a ac rfl))
 cases o with
 |ok y J1=>exact ao (du I.r (ki (show aV (nr X i)=true by rw[I.e];rfl) (gg I.e I.p hx (jl hj (I.m2 _) I.m) I.f1.2 ha (eJ (xs:=[.inst ar j,arg]) I.f1.1 h))))
 |exc cls J1=>exact bM (iR I.r (hG (show aV (nr X i)=true by rw[I.e];rfl) (gg I.e I.p hx (jl hj (I.m2 _) I.m) I.f1.2 ha (gH (xs:=[.inst ar j,arg]) I.f1.1 h))))
theorem pu(hi:i<5){f:Addr}(I:li X i mn f){vs:V}(hj:σ[j]? =some (aa.dct (cH vs)))(n:Nat)(h:(lv (cc X) (n+28)).cf σ f [.inst ar j,arg] []=some o):(lv (cc X) (n+31)).exs (ah X 1053 (dR j (i:Nat) arg)) σ (aj (St X 1053 0))=some (qM (ah X 1053 (dR j (i:Nat) arg)) o):=by
 have m:=zD (kd:=(i:Nat)) (arg:=arg) I hj (n+18) h
 rw[show aj (St X 1053 0)=[tb X 0,tb X 1,tb X 2,tb X 3,tb X 4,tb X 5]from rfl]
 have taken:i<5→aR (cc X) (lv (cc X) (n+30)) (ah X 1053 (dR j (i:Nat) arg)) σ (tb X i)=some (qM (ah X 1053 (dR j (i:Nat) arg)) o):=by
  intro h5;have t:=uz (X:=X) (σ:=σ) (j:=j) (kd:=(i:Nat)) (arg:=arg) i h5 (n+10);rw[beq_self_eq_true]at t;refine mF (zZ X i h5) fun h1 h2 h3=> ?_;refine eM h1 t ?_;refine(h3).symm▸ ?_
  have:Cb X i=si (aj (tb X i)) 0:=if_neg (by exact HT (by assumption))
  rw[this]at m;exact m
 have stop: ∀{l:List Stmt} {st:Stmt},aR (cc X) (lv (cc X) (n+30)) (ah X 1053 (dR j (i:Nat) arg)) σ st=some (qM (ah X 1053 (dR j (i:Nat) arg)) o)→(lv (cc X) (n+31)).exs (ah X 1053 (dR j (i:Nat) arg)) σ (st::l)=some (qM (ah X 1053 (dR j (i:Nat) arg)) o):=by
  intro l st hs
  cases o with
  |ok v J1=>exact bj hs
  |exc cls J1=>exact bM hs
 rcases lt5 hi with rfl|rfl|rfl|rfl|rfl
 ·exact stop (taken (by assumption))
 ·exact ab (iD 0 (by exact Hw _) rfl (n+10)) (stop (taken (by assumption)))
 ·exact ab (iD 0 (by exact Hw _) rfl (n+10)) (ab (iD 1 (by decide) rfl (n+10)) (stop (taken (by assumption))))
 ·exact ab (iD 0 (by exact Hw _) rfl (n+10)) (ab (iD 1 (by exact HB ..) rfl (n+10)) (ab (iD 2 (by exact HB ..) rfl (n+10)) (stop (taken (by assumption)))))
 ·exact ab (iD 0 (by exact Hw _) rfl (n+10)) (ab (iD 1 (by decide) rfl (n+10)) (ab (iD 2 (by exact HB ..) rfl (n+10)) (ab (iD 3 (by exact Hz _) rfl (n+10)) (stop (taken (by assumption))))))
theorem mW{f:Addr}(I:li X 5 mn f){vs:V}(hj:σ[j]? =some (aa.dct (cH vs)))(n:Nat)(h:(lv (cc X) (n+29)).cf σ f [.inst ar j,arg] []=some o):(lv (cc X) (n+31)).exs (ah X 1053 (dR j 5 arg)) σ (aj (St X 1053 0))=some (qM (ah X 1053 (dR j 5 arg)) o):=by
 rw[show aj (St X 1053 0)=[tb X 0,tb X 1,tb X 2,tb X 3,tb X 4,Cb X 5]from rfl]
 exact ab (iD 0 (by exact Hw _) rfl (n+10)) (ab (iD 1 (by decide) rfl (n+10)) (ab (iD 2 (by exact HB ..) rfl (n+10)) (ab (iD 3 (by exact Hz _) rfl (n+10)) (ab (iD 4 (by exact Hx _) rfl (n+10)) (zD (kd:=5) I hj (n+19) h)))))
noncomputable def DM:aD V→aD V
 | .ok v J1=> .ok v J1
 | .exc _ J1=> .ok .none J1
theorem kG(n:Nat)(h:(lv (cc X) n).exs (ah X 1053 (dR j kd arg)) σ (aj (St X 1053 0))=some (qM (ah X 1053 (dR j kd arg)) o))(ho: ∀cls J1,o= .exc cls J1→cls="AssertionError"∨cls="ValueError"):(lv (cc X) (n+2)).cf σ 1053 [.inst ar j,.int kd,arg] []=some (DM o):=by
 have e:aR (cc X) (lv (cc X) n) (ah X 1053 (dR j kd arg)) σ (St X 1053 0)=re (cc X) (lv (cc X) n).exs (ah X 1053 (dR j kd arg)) σ (aj (St X 1053 0)) (zV (St X 1053 0)):=rfl;rw[AK,h]at e
 have fin: ∀v J1,aR (cc X) (lv (cc X) n) (ah X 1053 (dR j kd arg)) σ (St X 1053 0)=some (.ok (.ret v) (ah X 1053 (dR j kd arg)) J1)→(lv (cc X) (n+2)).cf σ 1053 [.inst ar j,.int kd,arg] []=some (.ok v J1):=by
  intro v J1 key
  refine bo (a:=1053) (binds:=[("tracker",.inst ar j),("kind",.int kd),("arg",arg)]) (so:= .ok (.ret v) (ah X 1053 (dR j kd arg)) J1) ⋯ ⋯ ac ?_ rfl
  rw[show aB X 1053=[St X 1053 0]from rfl]
  exact ao key
 cases o with
 |ok v J1=>exact fin v J1 e
 |exc cls J1=>
  have c:eR (cc X) (ah X 1053 (dR j kd arg)) (hT (zV (St X 1053 0))) cls=true:=by
   rcases ho cls J1 rfl with rfl|rfl<;>kernel_rfl
  exact fin .none J1 (e.trans (if_pos c))
theorem mK(hi:i<5){f:Addr}(I:li X i mn f){vs:V}(hj:σ[j]? =some (aa.dct (cH vs)))(n:Nat):
 (dW ((lv (cc X) (n+28)).cf σ f [.inst ar j,arg] []) σ ss→dW ((lv (cc X) (n+33)).cf σ 1053 [.inst ar j,.int (i:Nat),arg] []) σ ss)∧
 (cV ((lv (cc X) (n+28)).cf σ f [.inst ar j,arg] []) σ→ ∃ext:Sg,(lv (cc X) (n+33)).cf σ 1053 [.inst ar j,.int (i:Nat),arg] []=some (.ok .none (σ++ext))):=by
 refine⟨fun h=>h.elim fun j' J1 vs' k' T O M B p hr q1 q2=> ?_,fun h=>h.el fun cls J1 hc p hr=> ?_⟩
 ·exact⟨j',J1,vs',k',T,O,M,B,p,kG (n+31) (pu hi I hj n hr) (fun u_ u_ q=>by exact iO q),q1,q2⟩
 ·obtain⟨ext,rfl⟩:=p
  exact⟨ext,kG (n+31) (pu hi I hj n hr) (fun u_ u_ q=>by refine B5 q fun zz1 zz2=> ?_;subst zz1;subst zz2;exact hc)⟩
theorem zJ{f:Addr}(I:li X 5 mn f){vs:V}(hj:σ[j]? =some (aa.dct (cH vs)))(n:Nat):
 (dW ((lv (cc X) (n+29)).cf σ f [.inst ar j,arg] []) σ ss→dW ((lv (cc X) (n+33)).cf σ 1053 [.inst ar j,.int 5,arg] []) σ ss)∧
 (cV ((lv (cc X) (n+29)).cf σ f [.inst ar j,arg] []) σ→ ∃ext:Sg,(lv (cc X) (n+33)).cf σ 1053 [.inst ar j,.int 5,arg] []=some (.ok .none (σ++ext))):=by
 refine⟨fun h=>h.elim fun j' J1 vs' k' T O M B p hr q1 q2=> ?_,fun h=>h.el fun cls J1 hc p hr=> ?_⟩
 ·exact⟨j',J1,vs',k',T,O,M,B,p,kG (n+31) (mW I hj n hr) (fun u_ u_ q=>by exact iO q),q1,q2⟩
 ·obtain⟨ext,rfl⟩:=p
  exact⟨ext,kG (n+31) (mW I hj n hr) (fun u_ u_ q=>by refine B5 q fun zz1 zz2=> ?_;subst zz1;subst zz2;exact hc)⟩
theorem V0(X:Xp):li X 0 "pad" 978:=⟨rfl,by kernel_rfl,by kernel_rfl,by kernel_rfl,by kernel_rfl,by kernel_rfl,fun u_=>ac,⟨by kernel_rfl,ac⟩⟩
theorem V1(X:Xp):li X 1 "shrink" 985:=⟨rfl,by kernel_rfl,by kernel_rfl,by kernel_rfl,by kernel_rfl,by kernel_rfl,fun u_=>ac,⟨by kernel_rfl,ac⟩⟩
theorem V2(X:Xp):li X 2 "expand" 992:=⟨rfl,by kernel_rfl,by kernel_rfl,by kernel_rfl,by kernel_rfl,by kernel_rfl,fun u_=>ac,⟨by kernel_rfl,ac⟩⟩
theorem V3(X:Xp):li X 3 "permute" 999:=⟨rfl,by kernel_rfl,by kernel_rfl,by kernel_rfl,by kernel_rfl,by kernel_rfl,fun u_=>ac,⟨by kernel_rfl,ac⟩⟩
theorem V4(X:Xp):li X 4 "stride" 1006:=⟨rfl,by kernel_rfl,by kernel_rfl,by kernel_rfl,by kernel_rfl,by kernel_rfl,fun u_=>ac,⟨by kernel_rfl,ac⟩⟩
theorem V5(X:Xp):li X 5 "reshape" 1013:=⟨rfl,by kernel_rfl,by kernel_rfl,by kernel_rfl,rfl,by kernel_rfl,fun u_=>ac,⟨by kernel_rfl,ac⟩⟩
noncomputable abbrev m0(X:Xp):=sx (St X 1013 0) 0
noncomputable abbrev hZ(j:Nat)(arg:V):List (Str×V):=[("new_shape",arg),("self",.inst ar j)]
theorem r8(hj:σ[j]? =some (aa.dct (cH (.tup [.inst ag k])))){S T M:V}(hk:σ[k]? =some (aa.dct (bb S T O M B)))(n:Nat)(h:(lv (cc X) (n+10)).cf σ 834 [.inst ag k,arg] []=some o):
 (lv (cc X) (n+11)).ev (ah X 1013 (hZ j arg)) σ (m0 X)=some o:=by
 have hx:(lv (cc X) (n+10)).ev (ah X 1013 (hZ j arg)) σ (ch (ch (m0 X) 0) 0)=some (.ok (.inst ag k) σ):=cW (i:= -1) ⋯ ⋯ (lC ⋯ ac rfl hj rfl) rfl rfl
 have ha:dX (lv (cc X) (n+10)).iv (ah X 1013 (hZ j arg)) σ [ch (m0 X) 1]=some (.ok [.v arg] σ):=kA ac (bx ay (aT rfl ac rfl))
 cases o with
 |ok y J1=>exact ki ac (gg (name:="reshape") (args:=[ch (m0 X) 1]) (first:=[.inst ag k]) rfl ⋯ hx (jl (f:=834) hk ac ⋯) ac ha (eJ (xs:=[.inst ag k,arg]) ⋯ h))
 |exc cls J1=>exact hG ac (gg (name:="reshape") (args:=[ch (m0 X) 1]) (first:=[.inst ag k]) rfl ⋯ hx (jl (f:=834) hk ac ac) ac ha (gH (xs:=[.inst ag k,arg]) ⋯ h))
noncomputable abbrev m1(X:Xp):=sx (si (aj (St X 1013 1)) 0) 0
theorem rtC(hj:σ[j]? =some (aa.dct (cH (.tup [.inst ag k])))){S T M:V}(hk:σ[k]? =some (aa.dct (bb S T O M B)))(n:Nat)(h:gy ((lv (cc X) (n+17)).cf σ 834 [.inst ag k,arg] []) σ ss):dW ((lv (cc X) (n+20)).cf σ 1013 [.inst ar j,arg] []) σ ss:=by
 refine jC h fun k' J1 T' O' M' B' p hr hk'=> ?_;have hj':=jh p hj;have s0:aR (cc X) (lv (cc X) (n+18)) (ah X 1013 (hZ j arg)) σ (St X 1013 0)=some (.ok .next (ah X 1013 (("new_view",.inst ag k')::hZ j arg)) J1):=
  cb (x:="new_view") (xp:=ps (sx (St X 1013 0) 1)) rfl ac ac (r8 (X:=X) hj hk (n+7) hr)
 have t1:(lv (cc X) (n+18)).tr (ah X 1013 (("new_view",.inst ag k')::hZ j arg)) J1 (sx (St X 1013 1) 0)=some (.ok true J1):=
  bw (op:= .IsNot) (J2:=J1) (x:= .inst ag k') (y:= .none) rfl ay rfl rfl rfl
 have hb:(lv (cc X) (n+15)).ev (ah X 1013 (("new_view",.inst ag k')::hZ j arg)) J1 (ch (m1 X) 1)=some (.ok (.tup [.inst ag k']) J1):=
  cE (op:= .Add) (J2:=J1) (J6:=J1) (x:= .tup []) (y:= .tup [.inst ag k']) ⋯ (B1 (v:= .tup [.inst ag k]) (lo:=some (ch (ch (ch (ch (m1 X) 1) 0) 1) 0)) (hi:=some (ch (ch (ch (ch (m1 X) 1) 0) 1) 1)) (st:=none) (sp:=ps (ch (ch (ch (m1 X) 1) 0) 1)) (l:= .int 0) (u:= .int (-1)) (t:= .none) (l':=some 0) (u':=some (-1)) (t':=none) ⋯ (lC ⋯ ac rfl hj' rfl) ⋯ ⋯ rfl rfl rfl rfl rfl)
   (zB ⋯ ⋯ ⋯) rfl
 have ht:(lv (cc X) (n+17)).ev (ah X 1013 (("new_view",.inst ag k')::hZ j arg)) J1 (m1 X)=some (.ok (.inst ar J1.length) (J1++[aa.dct (cH (.tup [.inst ag k']))])):=
  ki ac (cF (args:=[ch (m1 X) 1]) (fv:= .ref ar) rfl rfl rfl ⋯ (kA ac (bx ay hb)) (sh (.tup [.inst ag k']) J1 (n+4)))
 refine⟨_,_,[],k',T',O',M',B',p.trans (Gm _ _),bo (a:=1013) (binds:=[("self",.inst ar j),("new_shape",arg)]) (so:= .ok (.ret (.inst ar J1.length)) (ah X 1013 (("new_view",.inst ag k')::hZ j arg)) (J1++[aa.dct (cH (.tup [.inst ag k']))])) ⋯ ⋯ ac ?_ rfl,cB,bX hk'⟩
 rw[show aB X 1013=[St X 1013 0,St X 1013 1,St X 1013 2]from rfl]
 refine ab s0 (bj (eM rfl t1 ?_))
 rw[show aj (St X 1013 1)=[si (aj (St X 1013 1)) 0]from rfl]
 exact ao (du rfl ht)
theorem rtE(hj:σ[j]? =some (aa.dct (cH (.tup [.inst ag k])))){S T M:V}(hk:σ[k]? =some (aa.dct (bb S T O M B)))(n:Nat)(h:cV ((lv (cc X) (n+17)).cf σ 834 [.inst ag k,arg] []) σ):cV ((lv (cc X) (n+20)).cf σ 1013 [.inst ar j,arg] []) σ:=by
 refine dy h fun cls J1 hc p hr=> ?_
 have s0:aR (cc X) (lv (cc X) (n+18)) (ah X 1013 (hZ j arg)) σ (St X 1013 0)=some (.exc cls (ah X 1013 (hZ j arg)) J1):=by
  have e:aR (cc X) (lv (cc X) (n+18)) (ah X 1013 (hZ j arg)) σ (St X 1013 0)=bR (ah X 1013 (hZ j arg)) ((lv (cc X) (n+18)).ev (ah X 1013 (hZ j arg)) σ (m0 X)) fun y J1=>(eH (cc X) (lv (cc X) (n+18)).ev 8 (sx (St X 1013 0) 1) (ah X 1013 (hZ j arg)) J1 y).map fun p=> .ok .next p.1 p.2:=rfl;rw[e,r8 hj hk (n+7) hr];rfl
 refine⟨cls,J1,hc,p,bo (a:=1013) (binds:=[("self",.inst ar j),("new_shape",arg)]) (so:= .exc cls (ah X 1013 (hZ j arg)) J1) ⋯ ⋯ ac ?_ rfl⟩
 rw[show aB X 1013=[St X 1013 0,St X 1013 1,St X 1013 2]from rfl]
 exact bM s0
end
noncomputable def Bf:Option (aD V)→Sg
 |some (.ok _ σ)=>σ
 |_=>[]
noncomputable def CU(X:Xp)(ss:List Int):Option (aD V):=(lv (cc X) 100).cf [aa.lst [],aa.lst [],aa.lst [],aa.lst [],aa.lst []] 891 [vI ss] []
noncomputable abbrev aI:List (List Int):=[[4],[2,3],[6],[2,2,2],[3,1,2],[1,4],[8],[2,1,3],[2,4],[5]]
noncomputable def DT:List Int→List Int
 |[]=>[]
 |_::r=>aQ 1 r::DT r
noncomputable def iB(ss:List Int):List Int:=dU ss (DT ss)
noncomputable abbrev zA(ss:List Int):aa:=aa.dct (bb (vI ss) (vI (iB ss)) (.int 0) .none (.bool true))
noncomputable abbrev ol(k:Nat):aa:=aa.dct (cH (.tup [.inst ag k]))
noncomputable def g0(X:Xp)(ss:List Int)(i:Nat):aa:=(Bf (CU X ss)).getD i (aa.lst [])
set_option profiler true
set_option profiler.threshold 400
theorem Aq(X:Xp)(ss:List Int)(h:ss∈aI)(n:Nat)(c0 c1 c2 c3 c4:aa):(lv (cc X) (n+100)).cf [c0,c1,c2,c3,c4] 891 [vI ss] []=some (.ok (.inst ar 11) [c0,c1,c2,c3,c4,g0 X ss 5,g0 X ss 6,g0 X ss 7,g0 X ss 8,g0 X ss 9,zA ss,ol 10]):=by
 simp only[aI,Gp,GD,or_false]at h
 rcases h with rfl|rfl|rfl|rfl|rfl|rfl|rfl|rfl|rfl|rfl
 ·kernel_rfl
 ·kernel_rfl
 ·kernel_rfl
 ·kernel_rfl
 ·kernel_rfl
 ·kernel_rfl
 ·kernel_rfl
 ·kernel_rfl
 ·kernel_rfl
 ·kernel_rfl
noncomputable def pA(ss:List Int):List Int:=ss.map (· +1)
noncomputable def wa(ss:List Int):List (Int×Int):=ss.map fun s=>(1,s+1)
noncomputable abbrev Dp(ss:List Int):aa:=aa.dct (bb (vI (pA ss)) (vI (iB ss)) (.int (-(iB ss).sum)) (vP (wa ss)) (.bool false))
noncomputable def Fq(X:Xp)(ss:List Int):Option (aD V):=(lv (cc X) 100).cf (Bf (CU X ss)) 978 [.inst ar 11,vP (Gq ss.length (1,0))] []
noncomputable def g1(X:Xp)(ss:List Int)(i:Nat):aa:=(Bf (Fq X ss)).getD i (aa.lst [])
theorem BM(X:Xp)(ss:List Int)(h:ss∈aI)(n:Nat)(c0 c1 c2 c3 c4 c5 c6 c7 c8 c9:aa):(lv (cc X) (n+100)).cf [c0,c1,c2,c3,c4,c5,c6,c7,c8,c9,zA ss,ol 10] 978 [.inst ar 11,vP (Gq ss.length (1,0))] []=some (.ok (.inst ar 18) [c0,c1,c2,c3,c4,c5,c6,c7,c8,c9,zA ss,ol 10,g1 X ss 12,g1 X ss 13,g1 X ss 14,g1 X ss 15,g1 X ss 16,Dp ss,ol 17]):=by
 simp only[aI,Gp,GD,or_false]at h
 rcases h with rfl|rfl|rfl|rfl|rfl|rfl|rfl|rfl|rfl|rfl
 ·kernel_rfl
 ·kernel_rfl
 ·kernel_rfl
 ·kernel_rfl
 ·kernel_rfl
 ·kernel_rfl
 ·kernel_rfl
 ·kernel_rfl
 ·kernel_rfl
 ·kernel_rfl
noncomputable def wR:V→Option (Addr×Nat)
 | .inst C k=>some (C,k)
 |_=>none
noncomputable def okO:aD V→Option (V×Sg)
 | .ok v σ=>some (v,σ)
 |_=>none
noncomputable def BN:aa→Option (List (Str×V))
 | .dct fs=>some fs
 |_=>none
noncomputable def vg(fs:List (Str×V)):Option (List V):=fs.head?.bind fun p=>(eG p.2).bind fun vs=>if fs.tail.isEmpty=true∧p.1=("views":Str)then some vs else none
noncomputable def wf(fs:List (Str×V)):Option V:=fs.head?.bind fun p=>if fs.map (·.1)=[("shape":Str),("strides":Str),("offset":Str),("mask":Str),("contiguous":Str)]then some p.2 else none
noncomputable def CE(m:Nat)(r:Option (aD V)):Option (V×Sg):=(r.bind okO).bind fun o=>(wR o.1).bind fun q=>if q.1=ar then(o.2[q.2]?.bind BN).bind fun fs=>(vg fs).bind fun vs=>vs.getLast?.bind fun v=>(wR v).bind fun u=>if u.1=ag then(o.2[u.2]?.bind BN).bind fun fs=>(wf fs).map fun s=>(s,o.2.take m)else none else none
theorem u9{v:V}{q:Addr×Nat}(e:wR v=some q):v= .inst q.1 q.2:=by cases v<;>first|exact no e|(cases e;rfl)
theorem Fg{r:aD V}{q:V×Sg}(e:okO r=some q):r= .ok q.1 q.2:=by cases r<;>first|exact no e|(cases e;rfl)
theorem zO{r:aa}{q:List (Str×V)}(e:BN r=some q):r= .dct q:=by cases r<;>first|exact no e|(cases e;rfl)
theorem zc{vs:List V}(e:vg fs=some vs):fs=cH (.tup vs):=by
 cases fs with
 |nil=>exact no e
 |cons p l=>
  refine ae e fun q hq e1=>ae e1 fun ws hw e2=>bH e2 fun h e3=> ?_
  cases hq
  cases H8 e3
  obtain⟨n,x⟩:=p;obtain⟨h1,h2⟩:=h
  cases l with
  |cons=>cases h1
  |nil=>
   cases eo hw
   cases h2
   rfl
theorem uZ{l:List (Str×V)}{a:Str}{t:List Str}(h:l.map (·.1)=a::t): ∃x l',l=(a,x)::l'∧l'.map (·.1)=t:=by
 cases l with
 |nil=>cases h
 |cons p l=>exact⟨p.2,l,by rw[←(List.cons.inj h).1],(List.cons.inj h).2⟩
theorem xG{s:V}(e:wf fs=some s): ∃T O M B,fs=bb s T O M B:=by
 refine ae e fun q hq e1=>bH e1 fun h e2=> ?_
 cases H8 e2
 refine bc (uZ h) fun x1 l1 h1 k1=> ?_;subst h1
 cases hq
 refine bc (uZ k1) fun x2 l2 h2 k2=> ?_;refine bc (uZ k2) fun x3 l3 h3 k3=> ?_;refine bc (uZ k3) fun x4 l4 h4 k4=> ?_;refine bc (uZ k4) fun x5 l5 h5 k5=> ?_;have hn:l5=[]:=List.map_eq_nil_iff.mp k5
 exact⟨x2,x3,x4,x5,by rw[h2,h3,h4,h5,hn]⟩
theorem qJ{m:Nat}{r:Option (aD V)}{xs:List Int}(h:CE m r=some (vI xs,σ)):dW r σ xs:=by
 refine ae h fun o ho w=>ae ho fun r' hr h1=>ae w fun q hq w=>bH w fun hC w=>ae w fun fs hf w=>ae hf fun cl hj h2=>ae w fun vs hv w=>ae w fun v hl w=>ae w fun u hu w=>bH w fun hD w=>ae w fun gs hg w=>ae hg fun cl2 hk h3=>aM w fun s hs w1=> ?_;obtain⟨v',J1⟩:=o;obtain⟨C,j⟩:=q;obtain⟨D,k⟩:=u;have e1:s=vI xs:=congrArg Prod.fst w1;have e2:J1.take m=σ:=congrArg Prod.snd w1;subst e1 e2;have hC:C=ar:=hC;have hD:D=ag:=hD;subst hC hD
 cases Fg h1
 cases u9 hq
 cases u9 hu
 cases zO h2
 cases zO h3
 cases zc hv
 obtain⟨T,O,M,B,rfl⟩:=xG hs;obtain⟨init,rfl⟩:=List.getLast?_eq_some_iff.mp hl;exact⟨j,J1,init,k,T,O,M,B,List.take_prefix _ _,hr,hj,hk⟩
noncomputable abbrev DY(X:Xp)(ss:List Int)(c0 c1 c2 c3 c4 c5 c6 c7 c8 c9 d0 d1 d2 d3 d4 e0 e1 e2:aa):Sg:=[c0,c1,c2,c3,c4,c5,c6,c7,c8,c9,zA ss,ol 10,d0,d1,d2,d3,d4,Dp ss,ol 17,e0,e1,e2]
noncomputable abbrev EU(X:Xp)(n:Nat)(c0 c1 c2 c3 c4 c5 c6 c7 c8 c9 d0 d1 d2 d3 d4 e0 e1 e2:aa)(ss xs:List Int):Prop:=CE 22 ((lv (cc X) (n+100)).cf (DY X ss c0 c1 c2 c3 c4 c5 c6 c7 c8 c9 d0 d1 d2 d3 d4 e0 e1 e2) 1013 [.inst ar 18,vI xs] [])=some (vI xs,DY X ss c0 c1 c2 c3 c4 c5 c6 c7 c8 c9 d0 d1 d2 d3 d4 e0 e1 e2)
theorem FB(X:Xp)(n:Nat)(c0 c1 c2 c3 c4 c5 c6 c7 c8 c9 d0 d1 d2 d3 d4 e0 e1 e2:aa): ∀ss∈aI,∀xs∈ll (aQ 1 (pA ss)),lN (pA ss) xs=true→EU X n c0 c1 c2 c3 c4 c5 c6 c7 c8 c9 d0 d1 d2 d3 d4 e0 e1 e2 ss xs:=by
 refine aW ?_ (aW ?_ (aW ?_ (aW ?_ (aW ?_ (aW ?_ (aW ?_ (aW ?_ (aW ?_ (aW ?_ fH)))))))))
 all_goals
  refine aW ?_ (aW ?_ (aW ?_ (aW ?_ (aW ?_ (aW ?_ (aW ?_ (aW ?_ fH)))))))
  all_goals first
   |exact fun hf=>absurd hf (by decide)
   |exact fun u_=>by kernel_rfl
section
variable {X:Xp}{own:List (Str×V)}{xs ax mu ts:List Int}{as:List (Int×Int)}{kd:Int}{v:V}{M:V}{o:Int}
noncomputable def wV(X:Xp)(σ:Sg)(n j:Nat)(kd:Int)(ss:List Int)(v:V):Prop:= ∃F:Bool,(∀J1 m,∃ext:Sg,(lv (cc X) (m+60)).cf J1 1058 [vI ss,.int kd,v] []=some (.ok (.bool F) (J1++ext)))∧
 (F=true→ ∃ss',ss'.length≤100∧dW ((lv (cc X) (n+120)).cf σ 1053 [.inst ar j,.int kd,v] []) σ ss'∧ ∀J1 m,∃ext:Sg,(lv (cc X) (m+60)).cf J1 1063 [vI ss,.int kd,v] []=some (.ok (vI ss') (J1++ext)))∧
 (F=false→ ∃ext:Sg,(lv (cc X) (n+120)).cf σ 1053 [.inst ar j,.int kd,v] []=some (.ok .none (σ++ext)))
theorem C2(hv:eF σ k ss ts o M B)(hj:σ[j]? =some (ol k))(h1:1≤ss.length)(h3:ss.length≤3)(hs: ∀s∈ss,1≤s∧s≤99)(hz: ∀p∈ss.zip ts,p.1=1→p.2=0)(hA:zy kd ss v)(n:Nat):wV X σ n j kd ss v:=by
 have h0:ss≠[]:=fun q=>by rw[q]at h1;simp at h1
 rcases hA with⟨rfl,mu,rfl,hl,hm⟩|⟨rfl,as,rfl,hl,hb⟩|⟨rfl,as,rfl,hl,hb⟩|⟨rfl,xs,rfl,hl,hb⟩|⟨rfl,ax,rfl,hl⟩
 ·refine⟨nz mu,fun J1 m=>Ap (dB ‹_› ‹_› (by exact ac)) (by exact HG (by assumption)) m,fun hF=> ?_,fun hF=> ?_⟩
  ·have hM:rh mu:=fun m q=>⟨fun e=>by have:=Gw.mp hF m q;simp[e]at this,by have:=hm m q;exact bf ‹_› (by exact ac)⟩
   exact⟨fb ss mu,by unfold fb;rw[Gk,Go];exact wP ‹_› (by exact ac),(mK (i:=4) (by exact Hx _) (V4 X) hj (n+87)).1 (DP (zW X) hj hv.at_ (n+98) (yb hv (by exact HG (by assumption)) h0 (fun s q=>by have:=hs s q;exact zd ‹_› (by exact ac)) hl hM (n+28))),fun J1 m=>Cu (bf ‹_› (by exact ac)) hM m⟩
  ·exact(mK (ss:=[]) (i:=4) (by exact Hx _) (V4 X) hj (n+87)).2 (Dj (zW X) hj hv.at_ (n+98) (zg (dB ‹_› ‹_› (by exact ac)) hF (n+28)))
 ·refine⟨sf ss as,fun J1 m=>Bw (bf ‹_› (by exact ac)) (bf ‹_› (by exact ac)) m,fun hF=> ?_,fun hF=> ?_⟩
  ·rw[oV]at hF
   exact⟨e_ ss as,by unfold e_;rw[Gk,Go];exact wP ‹_› (by exact ac),(mK (i:=0) (by exact Hw _) (V0 X) hj (n+87)).1 (DP (CO X) hj hv.at_ (n+98) (Fx hv (by exact HG (by assumption)) h0 (fun s q=>by have:=hs s q;exact zd ‹_› (by exact ac)) hb (bf ‹_› (by exact ac)) hF (n+28))),fun J1 m=>C3 (bf ‹_› (by exact ac)) m⟩
  ·rw[oV]at hF
   exact(mK (ss:=[]) (i:=0) (by exact Hw _) (V0 X) hj (n+87)).2 (Dj (CO X) hj hv.at_ (n+98) (Fz hv (bf ‹_› (by exact ac)) (bf ‹_› (by exact ac)) hF (n+28)))
 ·refine⟨sa ss as,fun J1 m=>Bv (bf ‹_› (by exact ac)) (bf ‹_› (by exact ac)) m,fun hF=> ?_,fun hF=> ?_⟩
  ·rw[pg]at hF
   exact⟨eN as,by rw[Gk];exact bf ‹_› (by exact ac),(mK (i:=1) (by decide) (V1 X) hj (n+87)).1 (DP (DL X) hj hv.at_ (n+98) (xU hv (bf ‹_› (by exact ac)) h0 (fun s q=>by have:=hs s q;exact zd ‹_› (by exact ac)) hb (bf ‹_› (by exact ac)) hF (n+28))),fun J1 m=>Ce (bf ‹_› (by exact ac)) m⟩
  ·rw[pg]at hF
   exact(mK (ss:=[]) (i:=1) (by exact HB ..) (V1 X) hj (n+87)).2 (Dj (DL X) hj hv.at_ (n+98) (yr hv (bf ‹_› (by exact ac)) (bf ‹_› (by exact ac)) hF (n+28)))
 ·have E:=yI (X:=X) hv (bf ‹_› (by exact ac)) h0 (fun s q=>by have:=hs s q;exact zd ‹_› (by exact ac)) (fun x q=>Hu (hb x q) (by decide)) (xs:=xs) (bf ‹_› (by exact ac)) (n+28)
  have q:jW ss xs=true↔(xs.length=ss.length∧kg ss xs ts=true∧ ∀x∈xs,0≤x):=by
   rw[sA,FS,beq_iff_eq];constructor
   ·rintro ⟨h1,h2⟩
    have hq:xs.length=ss.length:=by exact cN ‹_›
    rw[kc (ts:=ts) hq hv.lt (fun s q=>(hs s q).1) hz,FS]at h2
    exact⟨hq,h2.1,fun x hx=>by simpa using Gw.mp h2.2 x hx⟩
   ·rintro ⟨hq,h2,h3⟩
    refine⟨by exact cI ‹_›,?_⟩
    rw[kc (ts:=ts) hq hv.lt (fun s q=>(hs s q).1) hz,h2,FW];exact Gw.mpr fun x hx=>decide_eq_true (h3 x hx)
  refine⟨jW ss xs,fun J1 m=>BC (bf ‹_› (by exact ac)) (bf ‹_› (by exact ac)) m,fun hF=> ?_,fun hF=> ?_⟩
  ·refine dm fun kk=> ?_;refine mF (q.mp hF) fun q1 q2 q3=> ?_<;>(refine kk ?_;clear kk)
   exact⟨xs,by exact bf ‹_› (by exact ac),(mK (i:=2) (by decide) (V2 X) hj (n+87)).1 (DP (Cf X) hj hv.at_ (n+98) (E.1 q1 q2 q3)),fun J1 m=>⟨[],by rw[Gz];exact uD (.inl rfl) m⟩⟩
  ·refine(mK (ss:=[]) (i:=2) (by decide) (V2 X) hj (n+87)).2 (Dj (Cf X) hj hv.at_ (n+98) (E.2 ?_))
   by_cases q1:xs.length=ss.length
   ·cases q2:kg ss xs ts with
    |false=>exact .inr (.inl rfl)
    |true=>
     refine .inr (.inr (F0 fun h=> ?_))
     have:jW ss xs=true:=q.mpr ⟨q1,q2,fun x hx=>F0 fun h'=>h ⟨x,hx,by exact Int.not_le.mp ‹_›⟩⟩
     rw[hF]at this;exact bI this
   ·exact .inl q1
 ·refine⟨eW ss.length ax,fun J1 m=>AI (bf ‹_› (by exact ac)) (bf ‹_› (by exact ac)) m,fun hF=> ?_,fun hF=> ?_⟩
  ·refine oA (eW.mem hF) fun q1 q2=> ?_
   exact⟨ax.map fun a=>ss.getD a.toNat 0,by rw[Gk];exact bf ‹_› (by exact ac),(mK (i:=3) (by exact Hz _) (V3 X) hj (n+87)).1 (DP (DI X) hj hv.at_ (n+98) (wU hv (bf ‹_› (by exact ac)) h0 (fun s q=>by have:=hs s q;exact zd ‹_› (by exact ac)) (bf ‹_› (by exact ac)) hF (n+28))),fun J1 m=>CW (bf ‹_› (by exact ac)) (bf ‹_› (by exact ac)) q2 m⟩
  ·exact(mK (ss:=[]) (i:=3) (by exact Hz _) (V3 X) hj (n+87)).2 (Dj (DI X) hj hv.at_ (n+98) (xf hv (bf ‹_› (by exact ac)) (bf ‹_› (by exact ac)) hF (n+28)))
theorem Bz(hv:eF σ k ss ts o M B)(hj:σ[j]? =some (ol k))(h1:1≤ss.length)(h3:ss.length≤3)(hs: ∀s∈ss,1≤s∧s≤99)(hx:bP xs)(hx0:xs≠[])(hB:B= .bool true∨(lN ss xs=true→ ∀m,dW ((lv (cc X) (m+100)).cf σ 1013 [.inst ar j,vI xs] []) σ xs))(n:Nat):wV X σ n j 5 ss (vI xs):=by
 have hS:bP ss:=⟨by exact HG (by assumption),fun s q=>by have:=hs s q;exact qh ‹_› (by exact ac)⟩
 refine⟨lN ss xs,fun J1 m=>BF hx hS m,fun hF=>⟨xs,by have:=hx.1;exact bf ‹_› (by exact ac),?_,fun J1 m=>⟨[],by rw[Gz];exact uD (.inr rfl) m⟩⟩,fun hF=> ?_⟩
 ·refine(zJ (V5 X) hj (n+87)).1 ?_
  rcases hB with rfl|hB
  ·rw[pJ,FS]at hF
   exact rtC hj hv.at_ (n+96) (wF hv (by exact HG (by assumption)) (fun s q=>by have:=hs s q;exact zd ‹_› (by exact ac)) hx hx0 (n+33) hF.1 hF.2)
  ·exact hB hF (n+16)
 ·rw[pJ]at hF
  exact(zJ (ss:=[]) (V5 X) hj (n+87)).2 (rtE hj hv.at_ (n+96) (uG hv (by exact HG (by assumption)) (fun s q=>by have:=hs s q;exact zd ‹_› (by exact ac)) hx (n+33) hF))
end
section
variable {X:Xp}{own:List (Str×V)}{xs ax mu ts:List Int}{as:List (Int×Int)}{kd:Int}{v:V}{S T M:V}{o:Int}
theorem uI{C:Nat}{p f:Addr}{r:List Value}(hk:σ[k]? =some (.dct fs))(h1:(plainGet c.K C name&&hasDictIn c.K C)=true)(h2:findIn c.K (.ref C) name=some (some (.ref p)))(h3:eA fs name=none)(h4:specialIn c.K (.ref p) "__get__"=some (some (.builtin "property.__get__"))∧takesIn c.K (.ref p)=some true)(h5:recIn c.K p "property"=some (.ref f::r)):jc c σ (.inst C k) name=some (.prop f):=by
 show(fm σ k).bind _=_;rw[kQ hk]
 show(if _ then _ else none)=_
 rw[if_pos h1,h2];show fX _ _ _ _=_;unfold fX;rw[h3]
 show(if _ then _ else none)=_
 rw[if_pos h4,h5];rfl
theorem wS:gn σ (.tup (l++[x])) (-1)=some x:=by
 show gG _ _=_;unfold gG
 refine dJ (by decide) ?_
 have:seqIndex? (-1) (l++[x]).length=some l.length:=by
  simp[seqIndex?]
  try simp+arith
 refine(this).symm▸ ?_;simp
theorem shp(hj:σ[j]? =some (aa.dct (cH (.tup (l++[.inst ag k])))))(hk:σ[k]? =some (aa.dct (bb S T O M B)))(hy:cY S=true)(n:Nat):(lv (cc X) (n+12)).cf σ 917 [.inst ar j] []=some (.ok S σ):=by
 refine bo (a:=917) (binds:=[("self",.inst ar j)]) (so:= .ok (.ret S) (ah X 917 [("self",.inst ar j)]) σ) ⋯ ⋯ ac ?_ rfl
 rw[show aB X 917=[St X 917 0]from rfl]
 exact ao (du rfl (iS (name:="shape") rfl ac (cW (i:= -1) rfl ac (lC rfl ac rfl hj rfl) rfl wS) (ow rfl hk rfl hy)))
theorem qD(he:e= .Attribute (ch e 0) ("shape":Str) (ps e))(hp:aS (ch e 0)=true)(hx:(lv (cc X) (n+12)).ev en σ (ch e 0)=some (.ok (.inst ar j) σ))(hj:σ[j]? =some (aa.dct (cH (.tup (l++[.inst ag k])))))(hk:σ[k]? =some (aa.dct (bb S T O M B)))(hy:cY S=true):(lv (cc X) (n+13)).ev en σ e=some (.ok S σ):=
 CL he hp hx (uI (p:=918) (r:=((recIn (cc X).K 918 "property").getD []).tail) hj ⋯ rfl rfl ⟨rfl,rfl⟩ rfl) (shp hj hk hy n) hy
theorem rT{vs:V}(he:e= .Attribute (ch e 0) ("views":Str) (ps e))(hp:aS (ch e 0)=true)(hx:(lv (cc X) n).ev en σ (ch e 0)=some (.ok (.inst ar j) σ))(hj:σ[j]? =some (aa.dct (cH vs)))(hy:cY vs=true):(lv (cc X) (n+1)).ev en σ e=some (.ok vs σ):=
 iS he hp hx (DG hj hy)
structure A7(X:Xp)(e:Expr):Prop where
 c:iA e
 i:d7 e=[]
 f: ∀own,gM (ah X 1073 own) e=true
 t: ∀own' own σ,di 8 (ch e 1) ⟨al (dF e).names (ah X 1073 own),own',(ah X 1073 own).fre,none⟩ σ (.inst ag k)=some (⟨al (dF e).names (ah X 1073 own),(("view":Str),V.inst ag k)::own',(ah X 1073 own).fre,none⟩,σ)
 b:ch e 0= .Tuple [ch (ch e 0) 0,ch (ch e 0) 1,ch (ch e 0) 2,ch (ch e 0) 3] (tk (ch e 0)) (ps (ch e 0))
 s:ak [ch (ch e 0) 0]=true∧ak [ch (ch e 0) 1]=true∧ak [ch (ch e 0) 2]=true∧ak [ch (ch e 0) 3]=true
 a:ch (ch e 0) 0= .Attribute (ch (ch (ch e 0) 0) 0) ("shape":Str) (ps (ch (ch e 0) 0))∧ch (ch e 0) 1= .Attribute (ch (ch (ch e 0) 1) 0) ("strides":Str) (ps (ch (ch e 0) 1))∧ch (ch e 0) 2= .Attribute (ch (ch (ch e 0) 2) 0) ("offset":Str) (ps (ch (ch e 0) 2))∧ch (ch e 0) 3= .Attribute (ch (ch (ch e 0) 3) 0) ("mask":Str) (ps (ch (ch e 0) 3))
 n: ∀(i:Nat),i<4→ch (ch (ch e 0) i) 0= .Name ("view":Str) (ps (ch (ch (ch e 0) i) 0))
 l: ∀own' own,aP (cc X) ⟨al (dF e).names (ah X 1073 own),(("view":Str),V.inst ag k)::own',(ah X 1073 own).fre,none⟩ "view"=some (.inst ag k)
theorem rvs(I:A7 (k:=k) X e)(hx:(lv (cc X) (n+9)).ev (ah X 1073 own) σ (ch e 2)=some (.ok (.tup [.inst ag k]) σ))(hi:aV (ch e 2)=false)(hk:σ[k]? =some (aa.dct (bb S T O M B)))(h1:cY S=true)(h2:cY T=true)(h3:cY O=true)(h4:cY M=true):(lv (cc X) (n+11)).ev (ah X 1073 own) σ e=some (.ok (.lst σ.length) (σ++[aa.lst [.tup [S,T,O,M]]])):=by
 refine bN (S:=fun u_=>True) (t:= .seq ([()].map fun u_=>V.inst ag k) 0) (as:=[()]) (f:=fun u_=>V.inst ag k) (b:=fun u_=>[(("view":Str),V.inst ag k)]) (P:=fun u_=>True) (F:=fun u_=> .tup [S,T,O,M]) I.c I.i (I.f own) (bx hi hx) rfl (fun u_=>trivial) (ai _ _) (by decide) trivial (fun a u_ own' acc u_=>⟨trivial,I.t own' own _,?_⟩)
 have hk':(σ++[aa.lst acc])[k]? =some (aa.dct (bb S T O M B)):=bX hk;have nm: ∀i,i<4→(lv (cc X) (n+8)).ev ⟨al (dF e).names (ah X 1073 own),(("view":Str),V.inst ag k)::own',(ah X 1073 own).fre,none⟩ (σ++[aa.lst acc]) (ch (ch (ch e 0) i) 0)=some (.ok (.inst ag k) (σ++[aa.lst acc])):=fun i hi=>bQ (I.n i hi) (I.l own' own)
 have pb: ∀i,i<4→aS (ch (ch (ch e 0) i) 0)=true:=fun i hi=>by rw[I.n i hi];rfl
 exact(congrArg ((lv (cc X) (n+10)).ev _ _) I.b).trans (gI (bA I.s.1 (iS I.a.1 (pb 0 (by decide)) (nm 0 (by decide)) (ow rfl hk' rfl h1)) (bA I.s.2.1 (iS I.a.2.1 (pb 1 (by decide)) (nm 1 (by decide)) (ow rfl hk' rfl h2))
  (bA I.s.2.2.1 (iS I.a.2.2.1 (pb 2 (by decide)) (nm 2 (by decide)) (ow rfl hk' rfl h3)) (bA I.s.2.2.2 (iS I.a.2.2.2 (pb 3 (by decide)) (nm 3 (by decide)) (ow rfl hk' rfl h4)) gU)))) (show 4≤2^20 by decide))
noncomputable abbrev lp(X:Xp):=St X 1073 4
noncomputable abbrev tt(X:Xp)(i:Nat):=si (aj (lp X)) i
noncomputable abbrev vs3(X:Xp):=sx (tt X 3) 0
noncomputable abbrev vs7(X:Xp):=ch (ch (sx (tt X 7) 0) 1) 0
theorem IV3(X:Xp)(k:Nat):A7 (k:=k) X (vs3 X):=⟨by kernel_rfl,rfl,fun u_=>by kernel_rfl,fun u_ u_ u_=>by kernel_rfl,by kernel_rfl,⟨by kernel_rfl,by kernel_rfl,by kernel_rfl,by kernel_rfl⟩,⟨by kernel_rfl,by kernel_rfl,by kernel_rfl,by kernel_rfl⟩,sS ⋯ ⋯ ⋯ ⋯,fun u_ u_=>rfl⟩
theorem IV7(X:Xp)(k:Nat):A7 (k:=k) X (vs7 X):=⟨by kernel_rfl,rfl,fun u_=>by kernel_rfl,fun u_ u_ u_=>by kernel_rfl,by kernel_rfl,⟨by kernel_rfl,by kernel_rfl,by kernel_rfl,by kernel_rfl⟩,⟨by kernel_rfl,by kernel_rfl,by kernel_rfl,by kernel_rfl⟩,sS ⋯ ⋯ ⋯ ⋯,fun u_ u_=>by kernel_rfl⟩
end
section
section
theorem Db(he:e= .BoolOp .And [ch e 0,ch e 1] (ps e))(h1:(lv c n).tr en σ (ch e 0)=some (.ok true σ))(h2:(lv c n).tr en σ (ch e 1)=some (.ok b J2)):(lv c (n+1)).tr en σ e=some (.ok b J2):=by
 refine(he).symm▸ ?_
 exact jk (cT h1 (cT h2 (by cases b<;>rfl)))
theorem E6(he:e= .BoolOp .Or [ch e 0,ch e 1] (ps e))(h1:(lv c n).tr en σ (ch e 0)=some (.ok false σ))(h2:(lv c n).tr en σ (ch e 1)=some (.ok b J2)):(lv c (n+1)).tr en σ e=some (.ok b J2):=by
 rw[he]
 exact jk (cT h1 (cT h2 (by cases b<;>rfl)))
theorem fz{a:Bool}(h1:mj σ n x y=some a)(h2:dK σ n l m=some b):dK σ (n+1) (x::l) (y::m)=some (a&&b):=by
 show((mj σ n x y).bind fun a=>(dK σ n l m).map fun b=>a&&b)=_;rw[h1,h2];rfl
theorem DW(n:Nat): ∀(l:List (Int×Int)),l.length<n→dK σ (n+4) (l.map pP) (l.map pP)=some true:=by
 induction n with
 |zero=>exact fun u_ h=>absurd h (HL _)
 |succ n ih=>
  intro l h
  cases l with
  |nil=>rfl
  |cons p l=>
   have ih:=ih l (HN h)
   have h1:mj σ (n+4) (pP p) (pP p)=some true:=by
    show dK σ (n+3) [.int p.1,.int p.2] [.int p.1,.int p.2]=_
    have:=fq (σ:=σ) (n+3) [p.1,p.2] [p.1,p.2] (by exact HB ..)
    rw[beq_self_eq_true]at this;exact this
   exact fz h1 ih
theorem zt{ts:List Int}{o:Int}{M:V}{a b:Nat}(h1:ss.length≤100)(h2:ts.length≤100)(hM:M= .none∨ ∃ms:List (Int×Int),M=vP ms∧ms.length≤100)(ha:σ[a]? =some (aa.lst [.tup [vI ss,vI ts,.int o,M]]))(hb:σ[b]? =some (aa.lst [.tup [vI ss,vI ts,.int o,M]])):ed σ .NotEq (.lst a) (.lst b)=some false:=by
 have e1:mj σ 196 (vI ss) (vI ss)=some true:=by
  have:=fq (σ:=σ) 195 ss ss (fD ‹_› (by exact ac))
  rw[beq_self_eq_true]at this;exact this
 have e2:mj σ 195 (vI ts) (vI ts)=some true:=by
  have:=fq (σ:=σ) 194 ts ts (fD ‹_› (by exact ac))
  rw[beq_self_eq_true]at this;exact this
 have e3:mj σ 194 (.int o) (.int o)=some true:=by
  show some (o==o)=_;rw[beq_self_eq_true]
 have e4:mj σ 193 M M=some true:=by
  rcases hM with rfl|⟨ms,rfl,hl⟩
  ·rfl
  ·exact DW 188 ms (fD ‹_› (by exact ac))
 have e5:mj σ 198 (.tup [vI ss,vI ts,.int o,M]) (.tup [vI ss,vI ts,.int o,M])=some true:=fz e1 (fz e2 (fz e3 (fz e4 (rfl:dK σ 193 [] []=some true))))
 have e6:mj σ 200 (.lst a) (.lst b)=some true:=by
  refine(?_:(aG σ a).bind (fun a=>(aG σ b).bind fun b=>if a.length=b.length then dK σ 199 a b else some false)=_)
  rw[aN ha,aN hb];exact fz e5 (rfl:dK σ 198 [] []=some true)
 refine(?_:(mj σ 200 (.lst a) (.lst b)).map (!·)=_);refine(e6).symm▸ ?_;rfl
end
variable {X:Xp}{own:List (Str×V)}
theorem rI{x1 x2 x3:Str}{f:Addr}{v1 v2 v3:V}(he:e= .Call (.Name fn (ps (ch e 0))) [ch e 1,ch e 2,ch e 3] [] (ps e))(hx:aP (cc X) (ah X 1073 own) fn=some (.val (.ref f)))(hf:dY X f=true∧bK (cc X).K (.ref f)=true)(n1:ch e 1= .Name x1 (ps (ch e 1)))(n2:ch e 2= .Name x2 (ps (ch e 2)))(n3:ch e 3= .Name x3 (ps (ch e 3)))(k1:dM X 1073 x1=true)(k2:dM X 1073 x2=true)(k3:dM X 1073 x3=true)
 (l1:own.lookup x1=some v1) (l2:own.lookup x2=some v2) (l3:own.lookup x3=some v3) (h:(lv (cc X) (n+10)).cf σ f [v1,v2,v3] []=some (.ok y J1)):(lv (cc X) (n+11)).ev (ah X 1073 own) σ e=some (.ok y J1):=by
 have A: ∀{e:Expr} {x:Str} {v:V},e= .Name x (ps e)→dM X 1073 x=true→own.lookup x=some v→(lv (cc X) (n+10)).iv (ah X 1073 own) σ e=some (.ok (.v v) σ):=fun h1 h2 h3=>bx (by rw[h1];rfl) (aT h1 h2 h3)
 exact ki (by rw[he];rfl) (cF he (by rw[n1,n2,n3];rfl) hx (by rw[n1,n2,n3,hf.2];rfl) (iv3 (by rw[n1];rfl) (by rw[n2,n3];rfl) (A n1 k1 l1) (A n2 k2 l2) (A n3 k3 l3)) (eJ (xs:=[v1,v2,v3]) hf.1 h))
variable {xs ts:List Int}{kd o:Int}{v M:V}
theorem DX{ks:Nat}(hv:eF σ k ss ts o M B)(hj:σ[j]? =some (ol k))(hm:wV X σ n j kd ss v)(h3:ss.length≤3)(hks:σ[ks]? =some (aa.lst [.tup [vI ss,vI ts,.int o,M]]))(lt:own.lookup ("tracker":Str)=some (.inst ar j))(lk:own.lookup ("kind":Str)=some (.int kd))(la:own.lookup ("arg":Str)=some v)(ls:own.lookup ("shape":Str)=some (vI ss))(lsh:own.lookup ("shapes":Str)=some (.lst ks)):
 ∃(told:V) (ext:Sg),(lv (cc X) (n+122)).exs (ah X 1073 own) σ [tt X 4,tt X 5,tt X 6,tt X 7]=some (.ok .next (ah X 1073 (("told",told)::own)) (σ++ext)):=by
 refine cz hm fun F hfit hgive hnone=> ?_;have e3:=hv.lt
 --the last statement,wherever the store has come to
 have last: ∀(told:V) (J1:Sg),σ<+:J1→ ∃ext:Sg,(lv (cc X) (n+122)).exs (ah X 1073 (("told",told)::own)) J1 [tt X 7]=some (.ok .next (ah X 1073 (("told",told)::own)) (J1++ext)):=by
  intro told J1 p;have hv':=hv.app p;have hj':=jh p hj;have hks':=jh p hks
  have hsh:=qD (X:=X) (l:=[]) (n:=n+106) (σ:=J1) (e:=ch (ch (sx (tt X 7) 0) 0) 0) (en:=ah X 1073 (("told",told)::own)) ⋯ ⋯ (aT (n:=n+117) (x:="tracker") ⋯ ac lt) hj' hv'.at_ rfl
  have t0:(lv (cc X) (n+120)).tr (ah X 1073 (("told",told)::own)) J1 (ch (sx (tt X 7) 0) 0)=some (.ok false J1):=by
   refine bw (n:=n+119) (op:= .NotEq) (J2:=J1) (x:=vI ss) (y:=vI ss) ⋯ ay hsh (aT (n:=n+118) (x:="shape") ⋯ ac ls) ?_
   show(ed J1 .Eq (vI ss) (vI ss)).map (!·)=_
   rw[wK (fD ‹_› (by exact ac)),beq_self_eq_true]
   rfl
  have hw:=rvs (X:=X) (n:=n+108) (own:=("told",told)::own) (σ:=J1) (IV7 X k) (rT (n:=n+116) ⋯ ⋯ (aT (n:=n+115) (x:="tracker") ⋯ ac lt) hj' rfl) ⋯ hv'.at_ rfl rfl rfl (by rcases hv.mq with rfl|⟨ms,rfl,_⟩<;>rfl)
  have t1:(lv (cc X) (n+120)).tr (ah X 1073 (("told",told)::own)) J1 (ch (sx (tt X 7) 0) 1)=some (.ok false (J1++[aa.lst [.tup [vI ss,vI ts,.int o,M]]])):=
   bw (op:= .NotEq) (J2:=J1++[aa.lst [.tup [vI ss,vI ts,.int o,M]]]) (x:= .lst J1.length) (y:= .lst ks) ⋯ ay hw (aT (x:="shapes") ⋯ ac lsh) (zt (bf ‹_› (by exact ac)) (dB ‹_› ‹_› (by exact ac)) (hv.mq.imp id fun⟨ms,e,l,_⟩=>⟨ms,e,by exact dB ‹_› ‹_› (by exact ac)⟩) cB (bX hks'))
  exact⟨[aa.lst [.tup [vI ss,vI ts,.int o,M]]],ao (dq rfl (E6 rfl t0 t1) rfl)⟩
 --what is told
 have told4: ∀(y:V) (J1:Sg),(lv (cc X) (n+120)).cf σ 1053 [.inst ar j,.int kd,v] []=some (.ok y J1)→aR (cc X) (lv (cc X) (n+121)) (ah X 1073 own) σ (tt X 4)=some (.ok .next (ah X 1073 (("told",y)::own)) J1):=fun y J1 h=>
  cb (x:="told") (xp:=ps (sx (tt X 4) 1)) rfl ac ac (rI (X:=X) (fn:="_law_try") (x1:="tracker") (x2:="kind") (x3:="arg") ⋯ rfl ⟨by kernel_rfl,ac⟩ rfl rfl rfl ac ac ac lt lk la h)
 --told is not None,and whether it fits
 have s5: ∀(y:V) (J1:Sg),(!aX y)=F→ ∃ext:Sg,aR (cc X) (lv (cc X) (n+121)) (ah X 1073 (("told",y)::own)) J1 (tt X 5)=some (.ok .next (ah X 1073 (("told",y)::own)) (J1++ext)):=by
  intro y J1 hy;refine oE (hfit J1 (n+59)) fun ext hf=> ?_
  refine⟨ext,dq (J2:=J1++ext) rfl (bw (op:= .NotEq) (J2:=J1) (x:= .bool (!aX y)) (y:= .bool F) rfl ay (oY (op:= .IsNot) (J2:=J1) (x:=y) (y:= .none) ⋯ ay (aT (x:="told") ⋯ ac rfl) rfl rfl)
   (rI (X:=X) (fn:="_law_fits") (x1:="shape") (x2:="kind") (x3:="arg") ⋯ rfl ⟨by kernel_rfl,ac⟩ ⋯ ⋯ ⋯ ac ac ac ls lk la hf) ?_) rfl⟩
  show(some ((!aX y)==F)).map (!·)=_;rw[hy,beq_self_eq_true];rfl
 have t60: ∀(y:V) (J1:Sg),(lv (cc X) (n+120)).tr (ah X 1073 (("told",y)::own)) J1 (ch (sx (tt X 6) 0) 0)=some (.ok (!aX y) J1):=fun y J1=>
  bw (op:= .IsNot) (J2:=J1) (x:=y) (y:= .none) ⋯ ay (aT (x:="told") ⋯ ac rfl) rfl rfl
 cases F with
 |false=>
  refine oE (hnone rfl) fun x1 h1=> ?_;refine oE (s5 .none (σ++x1) rfl) fun x2 h2=> ?_;refine oE (last .none (σ++x1++x2) ((Gm _ _).trans (Gm _ _))) fun x3 h4=> ?_;refine⟨.none,x1++x2++x3,?_⟩;rw[←Gx,←Gx];exact ab (told4 .none _ h1) (ab h2 (ab (dq rfl (Ad (es:=[ch (sx (tt X 6) 0) 1]) rfl (t60 .none _)) rfl) h4))
 |true=>
  obtain⟨ss',hl',⟨j',J1,vs',k',T',O',M',B',p,hr,hj',hk'⟩,hnew⟩:=hgive rfl;refine oE (s5 (.inst ar j') J1 rfl) fun x2 h2=> ?_;refine oE (hnew (J1++x2) (n+58)) fun x3 h5=> ?_;refine oE (last (.inst ar j') (J1++x2++x3) ((p.trans (Gm _ _)).trans (Gm _ _))) fun x4 h4=> ?_;refine oE p fun x1 zz1=> ?_;subst zz1
  have t61:(lv (cc X) (n+120)).tr (ah X 1073 (("told",.inst ar j')::own)) (σ++x1++x2) (ch (sx (tt X 6) 0) 1)=some (.ok false (σ++x1++x2++x3)):=by
   refine bw (op:= .NotEq) (J2:=σ++x1++x2) (x:=vI ss') (y:=vI ss') ⋯ ay (qD (X:=X) (l:=vs') ⋯ ⋯ (aT (x:="told") ⋯ ac rfl) (bX hj') (bX hk') rfl)
    (rI (X:=X) (fn:="_law_new") (x1:="shape") (x2:="kind") (x3:="arg") ⋯ rfl ⟨by kernel_rfl,ac⟩ ⋯ ⋯ ⋯ ac ac ac ls lk la h5) ?_
   show(ed (σ++x1++x2++x3) .Eq (vI ss') (vI ss')).map (!·)=_
   rw[wK (fD ‹_› (by exact ac)),beq_self_eq_true]
   rfl
  refine⟨.inst ar j',x1++x2++x3++x4,?_⟩;rw[←Gx,←Gx,←Gx];exact ab (told4 _ _ hr) (ab h2 (ab (dq rfl (Db rfl (t60 _ _) t61) rfl) h4))
end
section
variable {X:Xp}{own:List (Str×V)}{Z:Sg}{kS kL:Nat}{ns:List Int}{a b o:Int}{ts:List Int}{M:V}
theorem Ba(h:Kk kS kL Z)(hv:eF Z k ss ts o M B)(h1:k≠kS)(h2:k≠kL):eF (W kS kL (Z++ext) ns a b) k ss ts o M B:=⟨by rw[B2 h1 h2];exact bX hv.at_,hv.lt,hv.ib,hv.mq⟩
theorem xe(hz:0≤z∧z≤900){xs:List Int}(h:xs∈ll z):bP xs∧xs≠[]:=by
 have A:z.natAbs≤1000:=qh hz (.refl true)
 have hd:(z.fdiv 2).natAbs≤1000:=Hu (md (a:=z) (b:=2) (by exact F5 _)) A
 have B:z.natAbs≤900:=qh hz (.refl true);have O: ∀{k:Int},k.natAbs.ble 1000=true→k.natAbs≤1000:=fun h=>HE h;have S: ∀{a:Int} {l:List Int},(a::l).length.ble 4=true→(∀s∈a::l,s.natAbs≤1000)→bP (a::l)∧a::l≠[]:=fun h k=>⟨⟨HE h,k⟩,Hf _ _⟩;simp only[ll,Gp,GD,or_false]at h
 rcases h with rfl|rfl|rfl|rfl|rfl|rfl|rfl|rfl
 ·exact S rfl (aW A fH)
 ·exact S rfl (aW (O rfl) (aW A fH))
 ·exact S rfl (aW (O rfl) (aW hd fH))
 ·exact S rfl (aW (xu B (Hv 1) (.refl true)) fH)
 ·exact S rfl (aW (O rfl) (aW (FG B (.refl true)) fH))
 ·exact S rfl (aW A (aW (O rfl) (aW (O rfl) fH)))
 ·exact S rfl (aW (FG B (.refl true)) fH)
 ·exact S rfl (aW A (aW (O rfl) fH))
structure B6(X:Xp)(kS kL:Nat)(Z:Sg)(j k:Nat)(ss ts:List Int)(o:Int)(M B:V):Prop where
 kk:Kk kS kL Z
 v:eF Z k ss ts o M B
 jt:Z[j]? =some (ol k)
 ne:k≠kS∧k≠kL∧j≠kS∧j≠kL
 l1:1≤ss.length
 l3:ss.length≤3
 sd: ∀s∈ss,1≤s∧s≤99
 z: ∀p∈ss.zip ts,p.1=1→p.2=0
 p:0≤aQ 1 ss∧aQ 1 ss≤900
 b:B= .bool true∨ ∀xs∈ll (aQ 1 ss),lN ss xs=true→ ∀(c c' c'':aa) (ns:List Int) (a b:Int) (m:Nat),dW ((lv (cc X) (m+100)).cf (W kS kL (Z++[c]++[c']++[c'']) ns a b) 1013 [.inst ar j,vI xs] []) (W kS kL (Z++[c]++[c']++[c'']) ns a b) xs
theorem E5(t:B6 X kS kL Z j k ss ts o M B)(ho:eq ns a b)(lst:own.lookup ("state":Str)=some (.lst kS))(ls:own.lookup ("shape":Str)=some (vI ss))(lt:own.lookup ("tracker":Str)=some (.inst ar j))(n:Nat):
 ∃(v1 v2 v3 v4 v5:V) (ext:Sg) (ns':List Int) (a' b':Int),eq ns' a' b'∧(lv (cc X) (n+122)).exs (ah X 1073 own) (W kS kL Z ns a b) (aj (lp X))=some (.ok .next (ah X 1073 (("told",v5)::("shapes",v4)::("before",v3)::("arg",v2)::("kind",v1)::own)) (W kS kL (Z++ext) ns' a' b')):=by
 rw[show aj (lp X)=[tt X 0,tt X 1,tt X 2,tt X 3,tt X 4,tt X 5,tt X 6,tt X 7]from rfl]
 refine dm fun kk=> ?_
 refine cr (nd (X:=X) (en:=ah X 1073 own) (e:=sx (tt X 0) 0) (m:=6) t.kk ho (by exact F5 _) (by exact F5 _) ⋯ rfl rfl ⋯ ay ay (n+97) (aT (x:="state") rfl ac lst) rfl) fun y eD a1 b1 y0 y6 ho1 h0=> ?_<;>(refine kk ?_;clear kk)
 have s0:aR (cc X) (lv (cc X) (n+121)) (ah X 1073 own) (W kS kL Z ns a b) (tt X 0)=some (.ok .next (ah X 1073 (("kind",.int y)::own)) (W kS kL Z eD a1 b1)):=cb (x:="kind") (xp:=ps (sx (tt X 0) 1)) rfl ac ac h0;have s1: ∀(v:V) (J1:Sg),(lv (cc X) (n+120)).cf (W kS kL Z eD a1 b1) 1068 [.lst kS,vI ss,.int y] []=some (.ok v J1)→aR (cc X) (lv (cc X) (n+121)) (ah X 1073 (("kind",.int y)::own)) (W kS kL Z eD a1 b1) (tt X 1)=some (.ok .next (ah X 1073 (("arg",v)::("kind",.int y)::own)) J1):=fun v J1 h=>
  cb (x:="arg") (xp:=ps (sx (tt X 1) 1)) rfl ac ac (rI (X:=X) (fn:="_law_arg") (x1:="state") (x2:="shape") (x3:="kind") ⋯ rfl ⟨by kernel_rfl,ac⟩ rfl rfl rfl ac ac ac lst ls rfl h)
 --from the third statement on
 have rest: ∀(v:V) (ext:Sg) (ns2:List Int) (a2 b2:Int),eq ns2 a2 b2→wV X (W kS kL (Z++ext++[aa.lst [.tup [vI ss,vI ts,.int o,M]]]) ns2 a2 b2) n j y ss v→
  ∃(v3 v4 v5:V) (ext':Sg) (ns':List Int) (a' b':Int),eq ns' a' b'∧(lv (cc X) (n+122)).exs (ah X 1073 (("arg",v)::("kind",.int y)::own)) (W kS kL (Z++ext) ns2 a2 b2) [tt X 2,tt X 3,tt X 4,tt X 5,tt X 6,tt X 7]=some (.ok .next (ah X 1073 (("told",v5)::("shapes",v4)::("before",v3)::("arg",v)::("kind",.int y)::own)) (W kS kL (Z++ext') ns' a' b')):=by
  intro v ext ns2 a2 b2 ho2 hm;have fM:=Ba (ext:=ext) (ns:=ns2) (a:=a2) (b:=b2) t.kk t.v t.ne.1 t.ne.2.1
  have hj1:(W kS kL (Z++ext) ns2 a2 b2)[j]? =some (ol k):=by rw[B2 t.ne.2.2.1 t.ne.2.2.2];exact bX t.jt
  have s2:aR (cc X) (lv (cc X) (n+121)) (ah X 1073 (("arg",v)::("kind",.int y)::own)) (W kS kL (Z++ext) ns2 a2 b2) (tt X 2)=some (.ok .next (ah X 1073 (("before",.tup [.inst ag k])::("arg",v)::("kind",.int y)::own)) (W kS kL (Z++ext) ns2 a2 b2)):=
   cb (x:="before") (xp:=ps (sx (tt X 2) 1)) rfl ac ac (rT rfl ac (aT (x:="tracker") rfl ac lt) hj1 rfl)
  have s3:aR (cc X) (lv (cc X) (n+121)) (ah X 1073 (("before",.tup [.inst ag k])::("arg",v)::("kind",.int y)::own)) (W kS kL (Z++ext) ns2 a2 b2) (tt X 3)=some (.ok .next (ah X 1073 (("shapes",.lst (W kS kL (Z++ext) ns2 a2 b2).length)::("before",.tup [.inst ag k])::("arg",v)::("kind",.int y)::own)) (W kS kL (Z++ext) ns2 a2 b2++[aa.lst [.tup [vI ss,vI ts,.int o,M]]])):=
   zC (x:="shapes") (xp:=ps (sx (tt X 3) 1)) ⋯ ⋯ ac (rvs (X:=X) (own:=("before",.tup [.inst ag k])::("arg",v)::("kind",.int y)::own) (IV3 X k) (aT (x:="before") rfl ac rfl) ay fM.at_ rfl rfl rfl (by rcases t.v.mq with rfl|⟨ms,rfl,_⟩<;>rfl))
  rw[←ia t.kk.app]at s3;have n_:=Ba (ext:=ext++[aa.lst [.tup [vI ss,vI ts,.int o,M]]]) (ns:=ns2) (a:=a2) (b:=b2) t.kk t.v t.ne.1 t.ne.2.1
  have hj2:(W kS kL (Z++ext++[aa.lst [.tup [vI ss,vI ts,.int o,M]]]) ns2 a2 b2)[j]? =some (ol k):=by rw[B2 t.ne.2.2.1 t.ne.2.2.2];exact bX (bX t.jt)
  rw[←Gx]at n_
  refine rq (DX (X:=X) (own:=("shapes",.lst (W kS kL (Z++ext) ns2 a2 b2).length)::("before",.tup [.inst ag k])::("arg",v)::("kind",.int y)::own) (ks:=(W kS kL (Z++ext) ns2 a2 b2).length) n_ hj2 hm t.l3 (by rw[ia t.kk.app];exact cB) lt rfl rfl ls rfl) fun told ext' h4=> ?_
  refine⟨.tup [.inst ag k],.lst (W kS kL (Z++ext) ns2 a2 b2).length,told,ext++[aa.lst [.tup [vI ss,vI ts,.int o,M]]]++ext',ns2,a2,b2,ho2,?_⟩;rw[←ia (t.kk.app.app)]at h4;rw[←Gx,←Gx];exact ab s2 (ab s3 h4)
 have fin: ∀(v:V) (ext:Sg) (ns2:List Int) (a2 b2:Int),eq ns2 a2 b2→(lv (cc X) (n+120)).cf (W kS kL Z eD a1 b1) 1068 [.lst kS,vI ss,.int y] []=some (.ok v (W kS kL (Z++ext) ns2 a2 b2))→wV X (W kS kL (Z++ext++[aa.lst [.tup [vI ss,vI ts,.int o,M]]]) ns2 a2 b2) n j y ss v→
  ∃(v1 v2 v3 v4 v5:V) (ext:Sg) (ns':List Int) (a' b':Int),eq ns' a' b'∧(lv (cc X) (n+122)).exs (ah X 1073 own) (W kS kL Z ns a b) [tt X 0,tt X 1,tt X 2,tt X 3,tt X 4,tt X 5,tt X 6,tt X 7]=some (.ok .next (ah X 1073 (("told",v5)::("shapes",v4)::("before",v3)::("arg",v2)::("kind",v1)::own)) (W kS kL (Z++ext) ns' a' b')):=by
  intro v ext ns2 a2 b2 ho2 hcf hm;refine dm fun kk=> ?_;obtain⟨v3,v4,v5,ext',ns',a',b',ho',h⟩:=rest v ext ns2 a2 b2 ho2 hm<;>(refine kk ?_;clear kk)
  exact⟨.int y,v,v3,v4,v5,ext',ns',a',b',ho',ab s0 (ab (s1 v _ hcf) h)⟩
 have mk: ∀(ext:Sg) (ns2:List Int) (a2 b2:Int),eF (W kS kL (Z++ext++[aa.lst [.tup [vI ss,vI ts,.int o,M]]]) ns2 a2 b2) k ss ts o M B∧(W kS kL (Z++ext++[aa.lst [.tup [vI ss,vI ts,.int o,M]]]) ns2 a2 b2)[j]? =some (ol k):=fun ext ns2 a2 b2=>by
  refine⟨?_,by rw[B2 t.ne.2.2.1 t.ne.2.2.2];exact bX (bX t.jt)⟩
  rw[Gx];exact Ba t.kk t.v t.ne.1 t.ne.2.1
 by_cases h5:y=5
 ·subst h5;refine dm fun kk=> ?_;refine jC (DF (X:=X) t.kk ho1 t.l1 t.l3 t.sd (n+60)) fun zs c c' ns2 a2 b2 hz ho2 hcf=> ?_<;>(refine kk ?_;clear kk)
  refine dm fun kk=> ?_;refine oA (xe t.p hz) fun q1 q2=> ?_<;>(refine kk ?_;clear kk)
  rw[Gx]at hcf;refine fin _ _ ns2 a2 b2 ho2 hcf (Bz (mk _ _ _ _).1 (mk _ _ _ _).2 t.l1 t.l3 t.sd q1 q2 (t.b.imp id fun hb hf m=> ?_) n);have:=hb zs hz hf c c' (aa.lst [.tup [vI ss,vI ts,.int o,M]]) ns2 a2 b2 m;rw[Gx Z [c] [c']]at this;exact this
 ·refine dm fun kk=> ?_
  refine oM (Fy (X:=X) (kd:=y) t.kk ho1 t.l1 t.l3 t.sd ⟨y0,by exact il4 ‹_› ‹_›⟩ (n+60)) fun v ext ns2 a2 b2 hA ho2 hcf=> ?_<;>(refine kk ?_;clear kk)
  exact fin v ext ns2 a2 b2 ho2 hcf (C2 (mk _ _ _ _).1 (mk _ _ _ _).2 t.l1 t.l3 t.sd t.z hA n)
theorem bZ: ∀l:List Int,cj L (l.map V.int)=true
 |[]=>rfl
 |_::l=>bZ l
theorem CI(h:Kk kS kL Z)(hl: ∀x∈Z,bp Z.length x=true):(W kS kL Z ns a b).all (bp Z.length)=true:=by
 refine Gw.mpr fun x hx=> ?_;unfold W at hx
 rcases List.mem_or_eq_of_mem_set hx with hx|rfl
 ·rcases List.mem_or_eq_of_mem_set hx with hx|rfl
  ·exact hl x hx
  ·exact bZ ns
 ·refine(?_:(decide (kL<Z.length)&&(true&&(true&&true)))=true);refine(decide_eq_true h.l).symm▸ ?_;rfl
noncomputable def jY(kS j:Nat)(ss:List Int)(own:List (Str×V)):Prop:=own.lookup ("state":Str)=some (.lst kS)∧own.lookup ("shape":Str)=some (vI ss)∧own.lookup ("tracker":Str)=some (.inst ar j)
theorem tF(hk:Kk kS kL Z)(hj:j<Z.length)(hl: ∀x∈Z,bp Z.length x=true)(h:jY kS j ss own)(x y z:Int)(ht:t= .rng x y z): ∃own',jY kS j ss own'∧jF Z.length t (ah X 1073 own) (W kS kL (Z++ext) ns a b)=(ah X 1073 own',W kS kL Z ns a b):=by
 subst ht;unfold jF
 by_cases q:(W kS kL (Z++ext) ns a b).length≤Z.length
 ·refine(if_pos q).symm▸ ?_;rw[lg,GE]at q;have:ext=[]:=GL (ne0 ‹_›);subst this
  exact⟨own,h,by rw[Gz]⟩
 ·refine(if_neg q).symm▸ ?_;simp only
  have e1:(W kS kL (Z++ext) ns a b).take Z.length=W kS kL Z ns a b:=by
   rw[ia hk,←lg (ns:=ns) (a:=a) (b:=b),List.take_left'];rfl
  rw[e1,CI hk hl]
  rw[if_pos (by rfl)]
  refine⟨own.filter (fun p=>(own.lookup p.1).any (hX Z.length)),?_,rfl⟩;refine dm fun kk=> ?_;refine mF h fun h1 h2 h3=> ?_<;>(refine kk ?_;clear kk)
  have key: ∀{x:Str} {v:V},own.lookup x=some v→hX Z.length v=true→(own.filter (fun p=>(own.lookup p.1).any (hX Z.length))).lookup x=some v:=by
   intro x v hx hv
   rw[aY (q:=fun z=>(own.lookup z).any (hX Z.length)),hx,if_pos (by simpa using hv)]
  exact⟨key h1 (decide_eq_true hk.s),key h2 (bZ ss),key h3 (decide_eq_true hj)⟩
theorem ph(t:B6 X kS kL Z j k ss ts o M B)(hl: ∀x∈Z,bp Z.length x=true)(n:Nat): ∀(m:Nat) (fuel:Nat) (i:Int) (own:List (Str×V)) (ns:List Int) (a b:Int),m<fuel→jY kS j ss own→eq ns a b→
 ∃(own':List (Str×V)) (ns':List Int) (a' b':Int),jY kS j ss own'∧eq ns' a' b'∧gq Z.length (eH (cc X) (lv (cc X) (n+122)).ev 8) (lv (cc X) (n+122)).exs (sx (lp X) 0) (aj (lp X)) [] fuel (ah X 1073 own) (W kS kL Z ns a b) (.rng i (m:Int) 1)=some (.ok .next (ah X 1073 own') (W kS kL Z ns' a' b')):=by
 intro m;have hj:j<Z.length:=(Gy.mp t.jt).1
 induction m with
 |zero=>
  intro fuel i own ns a b hf hk ho
  obtain⟨f,rfl⟩: ∃f,fuel=f+1:=⟨fuel-1,by exact fu ‹_›⟩
  refine⟨own,ns,a,b,hk,ho,?_⟩;have e:aw (W kS kL Z ns a b) (.rng i ((0:Nat):Int) 1)=some none:=rfl;have e2:(lv (cc X) (n+122)).exs (ah X 1073 own) (W kS kL Z ns a b) []=some (.ok .next (ah X 1073 own) (W kS kL Z ns a b)):=rfl;exact pN e e2
 |succ m ih=>
  intro fuel i own ns a b hf hk ho
  obtain⟨f,rfl⟩: ∃f,fuel=f+1:=⟨fuel-1,by exact fu ‹_›⟩
  have e:aw (W kS kL Z ns a b) (.rng i ((m+1:Nat):Int) 1)=some (some (.int i,.rng (i+1) (m:Int) 1)):=by
   have h0:(0:Int)<((m+1:Nat):Int):=by simp+arith
   have h1:((m+1:Nat):Int)-1=(m:Int):=by simp+arith
   rw[qV,if_pos h0,h1]
  have e2:eH (cc X) (lv (cc X) (n+122)).ev 8 (sx (lp X) 0) (ah X 1073 own) (W kS kL Z ns a b) (.int i)=some (ah X 1073 (("turn",.int i)::own),W kS kL Z ns a b):=rfl;refine dm fun kk=> ?_;obtain⟨v1,v2,v3,v4,v5,ext,eD,a1,b1,ho1,h1⟩:=E5 (own:=("turn",.int i)::own) t ho hk.1 hk.2.1 hk.2.2 n<;>(refine kk ?_;clear kk)
  have hk1:jY kS j ss (("told",v5)::("shapes",v4)::("before",v3)::("arg",v2)::("kind",v1)::("turn",.int i)::own):=hk;refine dm fun kk=> ?_;refine aK (tF (X:=X) (ns:=eD) (a:=a1) (b:=b1) (ext:=ext) (t:= .rng (i+1) (m:Int) 1) t.kk hj hl hk1 _ _ _ rfl) fun own2 hk2 hc=> ?_<;>(refine kk ?_;clear kk)
  refine dm fun kk=> ?_;refine bO (ih f (i+1) own2 eD a1 b1 (HN ‹_›) hk2 ho1) fun own3 ns3 a3 b3 hk3 ho3 h3=> ?_<;>(refine kk ?_;clear kk)
  refine⟨own3,ns3,a3,b3,hk3,ho3,?_⟩;rw[mN e e2 h1];refine(congr (congr (congrArg _ (congrArg Prod.fst hc)) (congrArg Prod.snd hc)) rfl).trans h3
theorem lpS(t:B6 X kS kL Z j k ss ts o M B)(hl: ∀x∈Z,bp Z.length x=true)(hk:jY kS j ss own)(ho:eq ns a b)(n:Nat): ∃(own':List (Str×V)) (ns':List Int) (a' b':Int),jY kS j ss own'∧eq ns' a' b'∧aR (cc X) (lv (cc X) (n+122)) (ah X 1073 own) (W kS kL Z ns a b) (lp X)=some (.ok .next (ah X 1073 own') (W kS kL Z ns' a' b')):=by
 refine dm fun kk=> ?_
 refine bO (ph t hl n 6 av 0 own ns a b (by decide) hk ho) fun own' ns' a' b' h1 h2 h3=> ?_<;>(refine kk ?_;clear kk)
 refine⟨own',ns',a',b',h1,h2,Bo (t:= .rng 0 6 1) rfl ac (yz ac (bJ (fv:= .type "range") (v:= .v (.int 6)) rfl rfl rfl ac (bx ay rfl) rfl)) rfl ?_⟩
 rw[lg,show cQ (lp X)=[]from rfl]
 exact h3
theorem CF: ∀n,n<64→(qR n none (some 16) none).length≤16:=by decide+kernel
theorem xt(l:List Int)(h:l.length<64): ∃l':List Int,lu (l.map V.int) none (some 16) none=l'.map V.int∧l'.length≤16:=by
 have hi:=CF l.length h;unfold lu;rw[Gk];generalize qR l.length none (some 16) none=is at hi;refine⟨is.filterMap (l[·]?),?_,Hu (List.length_filterMap_le _ _) hi⟩;rw[List.map_filterMap];congr 1;funext i;rw[GM]
theorem ym(h:pv σ k=some l)(hl:l.length≤2^20):aH c cf σ (.builtin "len") [.v (.lst k)] []=some (.ok (.v (.int l.length)) σ):=by
 show((pv σ k).bind fun l=>if l.length≤2^20 then some (l.length:Int)else none).map (fun i=>aD.ok (IV.v (V.int i)) σ)=_
 rw[h]
 show(if _ then _ else none:Option Int).map _=_
 rw[if_pos hl];rfl
noncomputable abbrev xo(X:Xp):=sx (St X 1032 0) 0
theorem BV(l:List Int)(vs:List Value)(m:Nat)(h:l.length<64)(n:Nat): ∃(c1:aa) (ns:List Int) (l1:List Int),c1=aa.lst (l1.map V.int)∧ns.length≤16∧(lv (cc X) (n+30)).cf [aa.ro (l.map V.int) vs m] 1032 [.lst 0] []=some (.ok (.lst 3) [aa.ro (l.map V.int) vs m,c1,aa.lst (ns.map V.int),aa.lst [.lst 2,.int 0,.int (7+(l.length:Nat))]]):=by
 refine aK (xt l h) fun l' e1 e2=> ?_
 refine⟨aa.lst (l'.map V.int),l'.map fun k=>(cA k).fmod 1000000007,l',rfl,by rw[Gk];exact e2,?_⟩
 refine bo (a:=1032) (binds:=[("script",.lst 0)]) (so:= .ok (.ret (.lst 3)) (ah X 1032 [("script",.lst 0)]) [aa.ro (l.map V.int) vs m,aa.lst (l'.map V.int),aa.lst ((l'.map fun k=>(cA k).fmod 1000000007).map V.int),aa.lst [.lst 2,.int 0,.int (7+(l.length:Nat))]]) ⋯ ⋯ ac ?_ rfl
 rw[show aB X 1032=[St X 1032 0]from rfl]
 refine ao (du rfl ?_)
 have hc:(lv (cc X) (n+27)).ev (ah X 1032 [("script",.lst 0)]) [aa.ro (l.map V.int) vs m] (ch (xo X) 0)=some (.ok (.lst 2) [aa.ro (l.map V.int) vs m,aa.lst (l'.map V.int),aa.lst ((l'.map fun k=>(cA k).fmod 1000000007).map V.int)]):=by
  have sl:cn [aa.ro (l.map V.int) vs m] (.lst 0) none (some 16) none=some (.lst 1,[aa.ro (l.map V.int) vs m,aa.lst (l'.map V.int)]):=by
   unfold cn
   rw[if_neg (by decide)]
   refine(?_:(if(l.map V.int).length≤2^20 then _ else none)=_)
   rw[if_pos (by rw[Gk];exact Ek ‹_› (by exact ac)),e1]
   rfl
  have hx:(lv (cc X) (n+26)).iv (ah X 1032 [("script",.lst 0)]) [aa.ro (l.map V.int) vs m] (ch (ch (xo X) 0) 2)=some (.ok (.v (.lst 1)) [aa.ro (l.map V.int) vs m,aa.lst (l'.map V.int)]):=
   bx ay (B1 (v:= .lst 0) (lo:=none) (hi:=some (ch (ch (ch (ch (xo X) 0) 2) 1) 1)) (st:=none) (sp:=ps (ch (ch (ch (xo X) 0) 2) 1)) (l:= .none) (u:= .int 16) (t:= .none) (l':=none) (u':=some 16) (t':=none) ⋯ rfl rfl ⋯ rfl rfl rfl rfl sl)
  refine jx ⋯ (n7 (J2:=[aa.ro (l.map V.int) vs m,aa.lst (l'.map V.int)]) (t:= .lst 1 0) ⋯ hx rfl ?_)
  have:=Ak (σ:=[aa.ro (l.map V.int) vs m,aa.lst (l'.map V.int)]) (g:=di 8) (tr:=(lv (cc X) (n+26)).tr) (ev:=(lv (cc X) (n+26)).ev) (target:=ch (ch (xo X) 0) 1) (elt:=ch (ch (xo X) 0) 0) (ifs:=d7 (ch (xo X) 0)) (S:=fun σ=>σ[1]? =some (aa.lst (l'.map V.int))) (P:=fun en'=> ∃own,en'=⟨al (dF (ch (xo X) 0)).names (ah X 1032 [("script",.lst 0)]),own,[],none⟩) (t:= .lst 1 0) (as:=l') (f:=V.int) (F:=fun k=> .int ((cA k).fmod 1000000007)) (k:=fun u_=>true) (en:=dP (dF (ch (xo X) 0)).names (ah X 1032 [("script",.lst 0)])) (fun u_=>rfl) (eh fun σ h=>h) (by show _<4096;exact fD ‹_› (by exact ac)) ?_ ⟨_,rfl⟩
  ·rw[Hq.mpr (fun u_ u_=>rfl)]at this;refine(GK).symm▸ ?_;exact this
  ·rintro k hk _ acc ⟨own,rfl⟩
   exact⟨⟨al (dF (ch (xo X) 0)).names (ah X 1032 [("script",.lst 0)]),("k",.int k)::own,[],none⟩,⟨_,rfl⟩,by kernel_rfl,rfl,fun u_=>cE (op:= .Mod) (J2:=[aa.ro (l.map V.int) vs m,aa.lst (l'.map V.int)]++[aa.lst acc]) (J6:=[aa.ro (l.map V.int) vs m,aa.lst (l'.map V.int)]++[aa.lst acc]) (x:= .int (cA k)) (y:= .int 1000000007) ⋯ ⋯ rfl (oi (by omega) (by assumption))⟩
 have hlen:((l.map V.int).length:Int)=(l.length:Nat):=by rw[Gk]
 have key: ∀e:Expr,e= .List [ch e 0,ch e 1,ch e 2] (ps e)→fj (lv (cc X) (n+27)).ev (ah X 1032 [("script",.lst 0)]) [aa.ro (l.map V.int) vs m] [ch e 0,ch e 1,ch e 2]=some (.ok [.lst 2,.int 0,.int (7+(l.length:Nat))] [aa.ro (l.map V.int) vs m,aa.lst (l'.map V.int),aa.lst ((l'.map fun k=>(cA k).fmod 1000000007).map V.int)])→(lv (cc X) (n+28)).ev (ah X 1032 [("script",.lst 0)]) [aa.ro (l.map V.int) vs m] e=some (.ok (.lst 3) [aa.ro (l.map V.int) vs m,aa.lst (l'.map V.int),aa.lst ((l'.map fun k=>(cA k).fmod 1000000007).map V.int),aa.lst [.lst 2,.int 0,.int (7+(l.length:Nat))]]):=fun e he h=>
  (congrArg ((lv (cc X) (n+28)).ev (ah X 1032 [("script",.lst 0)]) [aa.ro (l.map V.int) vs m]) he).trans (xH h (show 3≤2^20 by decide))
 refine key _ rfl (bA ac hc (bA (J2:=[aa.ro (l.map V.int) vs m,aa.lst (l'.map V.int),aa.lst ((l'.map fun k=>(cA k).fmod 1000000007).map V.int)]) ac rfl (bA ac (cE (op:= .Add) (J2:=[aa.ro (l.map V.int) vs m,aa.lst (l'.map V.int),aa.lst ((l'.map fun k=>(cA k).fmod 1000000007).map V.int)]) (x:= .int 7) (y:= .int (l.length:Nat)) rfl rfl
  (bJ (x:="len") (fv:= .builtin "len") (v:= .v (.lst 0)) ⋯ ⋯ rfl ⋯ (bx ⋯ rfl) (hlen▸ym rfl (by rw[Gk];exact Ek ‹_› (by exact ac)))) rfl) gU)))
theorem zo{x:Int}(hx:x<0)(n:Nat):(lv (cc X) (n+70)).cf σ 891 [vI [2,x]] []=some (.exc "ValueError" σ):=by
 refine bo (a:=891) (binds:=[("shape",vI [2,x])]) (so:= .exc "ValueError" (ah X 891 [("shape",vI [2,x])]) σ) ⋯ ⋯ ac ?_ rfl
 rw[show aB X 891=[St X 891 0]from rfl]
 have h:=oR (X:=X) (σ:=σ) (ss:=[2,x]) (show 2≤900 by decide) ⟨x,by exact .tail _ (.head _),hx⟩ (n+12)
 have h2:=kb (own:=[("shape",vI [2,x])]) (e:=ch (ch (sx (St X 891 0) 0) 1) 0) (a:=891) (args:=[ch (ch (ch (sx (St X 891 0) 0) 1) 0) 1]) (xs:=[vI [2,x]]) ⋯ ⋯ rfl (kA ac (bx ay rfl)) h
 exact bM (iR rfl (hG ac (mL (args:=[ch (sx (St X 891 0) 0) 1]) (fv:= .ref ar) rfl rfl rfl ⋯ (sr ac (rY ay (mX rfl ac h2))))))
structure D3(ss:List Int):Prop where
 l:1≤ss.length∧ss.length≤3
 s: ∀s∈ss,1≤s∧s≤98
 t:(iB ss).length=ss.length∧IB (2^20) (iB ss)
 z: ∀p∈ss.zip (iB ss),p.1=1→p.2=0
 p:0≤aQ 1 ss∧aQ 1 ss≤900
 p':0≤aQ 1 (pA ss)∧aQ 1 (pA ss)≤900
theorem wL(ss:List Int)(h:ss∈aI):D3 ss:=by
 have key: ∀ss∈aI,(decide (1≤ss.length∧ss.length≤3)&&(ss.all fun s=>decide (1≤s∧s≤98))&&decide ((iB ss).length=ss.length)&&((iB ss).all fun t=>decide (t.natAbs≤2^20))&&((ss.zip (iB ss)).all fun p=>decide (p.1=1→p.2=0))&&decide (0≤aQ 1 ss∧aQ 1 ss≤900)&&decide (0≤aQ 1 (pA ss)∧aQ 1 (pA ss)≤900))=true:=by decide+kernel
 have:=key ss h;simp only[FS,decide_eq_true_eq,Gw]at this;obtain⟨⟨⟨⟨⟨⟨h1,h2⟩,h3⟩,h4⟩,h5⟩,h6⟩,h7⟩:=this;exact⟨h1,h2,⟨h3,h4⟩,h5,h6,h7⟩
theorem zM(X:Xp)(ss:List Int)(h:ss∈aI):((bp 12 (g0 X ss 5)&&bp 12 (g0 X ss 6)&&bp 12 (g0 X ss 7)&&bp 12 (g0 X ss 8)&&bp 12 (g0 X ss 9))&&(bp 19 (g0 X ss 5)&&bp 19 (g0 X ss 6)&&bp 19 (g0 X ss 7)&&bp 19 (g0 X ss 8)&&bp 19 (g0 X ss 9)))=true:=by
 simp only[aI,Gp,GD,or_false]at h
 rcases h with rfl|rfl|rfl|rfl|rfl|rfl|rfl|rfl|rfl|rfl
 all_goals kernel_rfl
theorem CB(X:Xp)(ss:List Int)(h:ss∈aI):(bp 19 (g1 X ss 12)&&bp 19 (g1 X ss 13)&&bp 19 (g1 X ss 14)&&bp 19 (g1 X ss 15)&&bp 19 (g1 X ss 16))=true:=by
 simp only[aI,Gp,GD,or_false]at h
 rcases h with rfl|rfl|rfl|rfl|rfl|rfl|rfl|rfl|rfl|rfl
 all_goals kernel_rfl
noncomputable abbrev Z0(X:Xp)(ss:List Int)(c0 c1 c2 c3 c4:aa):Sg:=[c0,c1,c2,c3,c4,g0 X ss 5,g0 X ss 6,g0 X ss 7,g0 X ss 8,g0 X ss 9,zA ss,ol 10]
noncomputable abbrev Z1(X:Xp)(ss:List Int)(c0 c1 c2 c3 c4:aa):Sg:=[c0,c1,c2,c3,c4,g0 X ss 5,g0 X ss 6,g0 X ss 7,g0 X ss 8,g0 X ss 9,zA ss,ol 10,g1 X ss 12,g1 X ss 13,g1 X ss 14,g1 X ss 15,g1 X ss 16,Dp ss,ol 17]
theorem Fe(h:ss∈aI)(c0 c1 c2 c3 c4:aa):B6 X 3 2 (Z0 X ss c0 c1 c2 c3 c4) 11 10 ss (iB ss) 0 .none (.bool true):=by
 have f:=wL ss h
 exact⟨⟨by decide,show 3<12 by decide,show 2<12 by decide⟩,⟨rfl,f.t.1,f.t.2,.inl rfl⟩,rfl,⟨by decide,by decide,by decide,by decide⟩,f.l.1,f.l.2,fun s q=>by have:=f.s s q;exact zd ‹_› (by exact ac),f.z,f.p,.inl rfl⟩
theorem qB:(pA ss).length=ss.length:=by simp[pA]
theorem Fv(h:ss∈aI)(c0 c1 c2 c3 c4:aa):B6 X 3 2 (Z1 X ss c0 c1 c2 c3 c4) 18 17 (pA ss) (iB ss) (-(iB ss).sum) (vP (wa ss)) (.bool false):=by
 have f:=wL ss h
 have hs: ∀s∈pA ss,2≤s∧s≤99:=fun s q=>by
  unfold pA at q;refine aK (GA.mp q) fun x hx zz2=> ?_;subst zz2;have:=f.s x hx
  exact iba ‹_› (by exact ac)
 refine⟨⟨by decide,show 3<19 by decide,show 2<19 by decide⟩,⟨rfl,by rw[qB];exact f.t.1,f.t.2,.inr ⟨_,rfl,by simp[wa,pA],fun p q=> ?_⟩⟩,rfl,⟨by decide,by decide,by decide,by decide⟩,by rw[qB];exact f.l.1,by rw[qB];exact f.l.2,fun s q=>by have:=hs s q;exact zd ‹_› (by exact ac),fun p q q1=> ?_,f.p',.inr fun xs hx hf c c' c'' ns a b m=> ?_⟩
 ·unfold wa at q;refine aK (GA.mp q) fun x hx zz2=> ?_;subst zz2;have:=f.s x hx
  exact⟨show(1:Int).natAbs≤2000 by decide,show(x+1).natAbs≤2000 by exact nA1 ‹_› (by exact ac)⟩
 ·have:=hs _ (Gr q).1;omega
 ·exact qJ (FB X m c0 c1 (aa.lst (ns.map V.int)) (aa.lst [.lst 2,.int a,.int b]) c4 _ _ _ _ _ _ _ _ _ _ c c' c'' ss h xs hx hf)
theorem EZ(h:ss∈aI){c0 c1 c2 c3 c4:aa}(q0:bp 12 c0=true)(q1:bp 12 c1=true)(q2:bp 12 c2=true)(q3:bp 12 c3=true)(q4:bp 12 c4=true): ∀x∈Z0 X ss c0 c1 c2 c3 c4,bp (Z0 X ss c0 c1 c2 c3 c4).length x=true:=by
 have g:=zM X ss h;simp only[FS]at g;refine dm fun kk=> ?_;obtain⟨⟨⟨⟨⟨g5,g6⟩,g7⟩,g8⟩,g9⟩,_⟩:=g<;>(refine kk ?_;clear kk)
 have v0:bp 12 (zA ss)=true:=by
  show(cj 12 (ss.map V.int)&&(cj 12 ((iB ss).map V.int)&&_))=true;rw[bZ,bZ];rfl
 have t:bp 12 (ol 10)=true:=by kernel_rfl
 refine(?_: ∀x∈Z0 X ss c0 c1 c2 c3 c4,bp 12 x=true)
 exact(Gv.mpr ⟨q0,(Gv.mpr ⟨q1,(Gv.mpr ⟨q2,(Gv.mpr ⟨q3,(Gv.mpr ⟨q4,(Gv.mpr ⟨g5,(Gv.mpr ⟨g6,(Gv.mpr ⟨g7,(Gv.mpr ⟨g8,(Gv.mpr ⟨g9,(Gv.mpr ⟨v0,(Gv.mpr ⟨t,(fun u_ h=>by cases h)⟩)⟩)⟩)⟩)⟩)⟩)⟩)⟩)⟩)⟩)⟩)⟩)
theorem rX: ∀l:List (Int×Int),cj L (l.map pP)=true
 |[]=>rfl
 |_::l=>rX l
theorem EC(h:ss∈aI){c0 c1 c2 c3 c4:aa}(q0:bp 19 c0=true)(q1:bp 19 c1=true)(q2:bp 19 c2=true)(q3:bp 19 c3=true)(q4:bp 19 c4=true): ∀x∈Z1 X ss c0 c1 c2 c3 c4,bp (Z1 X ss c0 c1 c2 c3 c4).length x=true:=by
 have g:=zM X ss h;have g':=CB X ss h;simp only[FS]at g g';refine dm fun kk=> ?_;obtain⟨_,⟨⟨⟨g5,g6⟩,g7⟩,g8⟩,g9⟩:=g<;>(refine kk ?_;clear kk)
 refine dm fun kk=> ?_;obtain⟨⟨⟨⟨f2,f3⟩,f4⟩,f5⟩,f6⟩:=g'<;>(refine kk ?_;clear kk)
 have v0:bp 19 (zA ss)=true:=by
  show(cj 19 (ss.map V.int)&&(cj 19 ((iB ss).map V.int)&&_))=true;rw[bZ,bZ];rfl
 have v1:bp 19 (Dp ss)=true:=by
  show(cj 19 ((pA ss).map V.int)&&(cj 19 ((iB ss).map V.int)&&(true&&(cj 19 ((wa ss).map pP)&&_))))=true;rw[bZ,bZ,rX];rfl
 have t:bp 19 (ol 10)=true:=by kernel_rfl
 have t':bp 19 (ol 17)=true:=by kernel_rfl
 refine(?_: ∀x∈Z1 X ss c0 c1 c2 c3 c4,bp 19 x=true)
 exact(Gv.mpr ⟨q0,(Gv.mpr ⟨q1,(Gv.mpr ⟨q2,(Gv.mpr ⟨q3,(Gv.mpr ⟨q4,(Gv.mpr ⟨g5,(Gv.mpr ⟨g6,(Gv.mpr ⟨g7,(Gv.mpr ⟨g8,(Gv.mpr ⟨g9,(Gv.mpr ⟨v0,(Gv.mpr ⟨t,(Gv.mpr ⟨f2,(Gv.mpr ⟨f3,(Gv.mpr ⟨f4,(Gv.mpr ⟨f5,(Gv.mpr ⟨f6,(Gv.mpr ⟨v1,(Gv.mpr ⟨t',(fun u_ h=>by cases h)⟩)⟩)⟩)⟩)⟩)⟩)⟩)⟩)⟩)⟩)⟩)⟩)⟩)⟩)⟩)⟩)⟩)⟩)⟩)
theorem xS(X:Xp)(fs:ei)(en:En)(σ:Sg)(b:List Stmt):re (cc X) fs en σ b (zV (St X 1073 5))=rV (fs en σ b) fun cls en' J1=>if eR (cc X) en' (hT (zV (St X 1073 5))) cls=true then some (.ok (.ret (.bool true)) en' J1)else none:=rfl
noncomputable abbrev w5(X:Xp):=sx (si (aj (St X 1073 5)) 0) 0
theorem Aw(h:Kk kS kL Z)(ho:eq ns a b)(lst:own.lookup ("state":Str)=some (.lst kS))(n:Nat): ∃(ns':List Int) (a' b':Int),aR (cc X) (lv (cc X) (n+100)) (ah X 1073 own) (W kS kL Z ns a b) (St X 1073 5)=some (.ok (.ret (.bool true)) (ah X 1073 own) (W kS kL Z ns' a' b')):=by
 refine cr (nd (X:=X) (en:=ah X 1073 own) (e:=ch (ch (ch (w5 X) 1) 1) 1) (m:=3) h ho (by exact F5 _) (by exact F5 _) ⋯ rfl rfl ⋯ ⋯ ⋯ (n+71) (aT (x:="state") ⋯ ac lst) ⋯) fun y eD a1 b1 y0 y3 ho1 h0=> ?_
 have hp:(lv (cc X) (n+97)).ev (ah X 1073 own) (W kS kL Z ns a b) (ch (w5 X) 1)=some (.ok (vI [2,-1-y]) (W kS kL Z eD a1 b1)):=
  BD (J2:=W kS kL Z ns a b) ⋯ ⋯ ⋯ rfl (cE (op:= .Sub) (J2:=W kS kL Z ns a b) (x:= .int (-1)) (y:= .int y) ⋯ ⋯ h0 rfl)
 have hb:=zo (X:=X) (σ:=W kS kL Z eD a1 b1) (x:= -1-y) (l1y ‹_›) (n+28);have hc:(lv (cc X) (n+99)).ev (ah X 1073 own) (W kS kL Z ns a b) (w5 X)=some (.exc "ValueError" (W kS kL Z eD a1 b1)):=
  hG ac (gg (name:="from_shape") (args:=[ch (w5 X) 1]) (x:= .val (.ref ar)) (fv:= .ref 891) (first:=[]) (vs:=[.v (vI [2,-1-y])]) ⋯ ⋯ ⋯ ⋯ ac (kA ac (bx ay hp)) (gH (xs:=[vI [2,-1-y]]) ⋯ hb))
 have hs:(lv (cc X) (n+100)).exs (ah X 1073 own) (W kS kL Z ns a b) (aj (St X 1073 5))=some (.exc "ValueError" (ah X 1073 own) (W kS kL Z eD a1 b1)):=by
  rw[show aj (St X 1073 5)=[si (aj (St X 1073 5)) 0]from rfl]
  have e:aR (cc X) (lv (cc X) (n+99)) (ah X 1073 own) (W kS kL Z ns a b) (si (aj (St X 1073 5)) 0)=bR (ah X 1073 own) ((lv (cc X) (n+99)).ev (ah X 1073 own) (W kS kL Z ns a b) (w5 X)) fun y J1=>if aX y then some (.ok .next (ah X 1073 own) J1)else none:=rfl
  rw[hc]at e;exact bM e
 have e:aR (cc X) (lv (cc X) (n+100)) (ah X 1073 own) (W kS kL Z ns a b) (St X 1073 5)=re (cc X) (lv (cc X) (n+100)).exs (ah X 1073 own) (W kS kL Z ns a b) (aj (St X 1073 5)) (zV (St X 1073 5)):=rfl;rw[xS,hs]at e
 have c:eR (cc X) (ah X 1073 own) (hT (zV (St X 1073 5))) "ValueError"=true:=by kernel_rfl
 refine⟨eD,a1,b1,e.trans ?_⟩
 exact(if_pos c:(if _ then _ else none)=_)
theorem w0(Z:Sg)(ns:List Int)(a b:Int):(W 3 2 Z ns a b)[0]? =Z[0]? :=by unfold W;rw[GX (by decide),GX (by decide)]
theorem y9(n:Nat)(σ:Sg):(lv (cc X) (n+20)).cf σ 1027 [] []=some (.ok (.lst σ.length) (σ++[aa.lst (aI.map vI)])):=rfl
noncomputable abbrev w3(X:Xp)(i:Nat):=si (aj (St X 1073 3)) i
noncomputable abbrev x1(X:Xp):=sx (St X 1073 1) 0
noncomputable abbrev x2'(X:Xp):=sx (St X 1073 2) 0
theorem vN(l:List Int)(vs:List Value)(m:Nat)(h:l.length<64)(n:Nat): ∃J1,(lv (cc X) (n+150)).cf [aa.ro (l.map V.int) vs m] 1073 [.lst 0] []=some (.ok (.bool true) J1)∧J1[0]? =some (aa.ro (l.map V.int) vs m):=by
 --the state
 refine iC (BV (X:=X) l vs m h (n+117)) fun c1 ns0 l1 zz3 hns hst=> ?_;subst zz3;have s0:aR (cc X) (lv (cc X) (n+148)) (ah X 1073 [("script",.lst 0)]) [aa.ro (l.map V.int) vs m] (St X 1073 0)=some (.ok .next (ah X 1073 [("state",.lst 3),("script",.lst 0)]) [aa.ro (l.map V.int) vs m,aa.lst (l1.map V.int),aa.lst (ns0.map V.int),aa.lst [.lst 2,.int 0,.int (7+(l.length:Nat))]]):=
  cb (x:="state") (xp:=ps (sx (St X 1073 0) 1)) rfl ac ac (bJ (x:="_law_start") (fv:= .ref 1032) (v:= .v (.lst 0)) (J2:=[aa.ro (l.map V.int) vs m]) rfl rfl rfl ac (bx ay rfl) (eJ (X:=X) (xs:=[.lst 0]) ⋯ hst))
 have ho0:eq ns0 0 (7+(l.length:Nat)):=⟨by exact bf ‹_› (by exact ac),by exact F5 _,by omega⟩
 --the shape
 have kk4:Kk 3 2 [aa.ro (l.map V.int) vs m,aa.lst (l1.map V.int),aa.lst (ns0.map V.int),aa.lst [.lst 2,.int 0,.int (7+(l.length:Nat))]]:=⟨by omega,show 3<4 by exact Hx _,show 2<4 by exact Hz _⟩
 obtain⟨y,eD,a1,b1,p1,ho1,h1⟩:=oj (X:=X) (en:=ah X 1073 [("state",.lst 3),("script",.lst 0)]) (e:=x1 X) (m:=10) (ys:=aI.map vI) (ns:=ns0) (a:=0) (b:=7+(l.length:Nat)) kk4 ho0 (by exact F5 _) (by exact F5 _) rfl rfl ac ⋯ rfl rfl ⋯ ay ay (n+123) (by
  exact ki ac (cF (x:="_law_shapes") (args:=[]) (fv:= .ref 1027) (vs:=[]) rfl rfl rfl ac fV (eJ (X:=X) (xs:=[]) ⋯ (y9 (n+126) _)))) (fun u_=>rfl) (fun u_=>rfl)
 refine aK (GA.mp p1) fun ss hss zz2=> ?_;subst zz2;have s1:aR (cc X) (lv (cc X) (n+148)) (ah X 1073 [("state",.lst 3),("script",.lst 0)]) [aa.ro (l.map V.int) vs m,aa.lst (l1.map V.int),aa.lst (ns0.map V.int),aa.lst [.lst 2,.int 0,.int (7+(l.length:Nat))]] (St X 1073 1)=some (.ok .next (ah X 1073 [("shape",vI ss),("state",.lst 3),("script",.lst 0)]) [aa.ro (l.map V.int) vs m,aa.lst (l1.map V.int),aa.lst (eD.map V.int),aa.lst [.lst 2,.int a1,.int b1],aa.lst (aI.map vI)]):=
  cb (x:="shape") (xp:=ps (sx (St X 1073 1) 1)) rfl ac ac h1
 --the tracker
 have ht:=Aq X ss hss (n+47) (aa.ro (l.map V.int) vs m) (aa.lst (l1.map V.int)) (aa.lst (eD.map V.int)) (aa.lst [.lst 2,.int a1,.int b1]) (aa.lst (aI.map vI));have s2:aR (cc X) (lv (cc X) (n+148)) (ah X 1073 [("shape",vI ss),("state",.lst 3),("script",.lst 0)]) [aa.ro (l.map V.int) vs m,aa.lst (l1.map V.int),aa.lst (eD.map V.int),aa.lst [.lst 2,.int a1,.int b1],aa.lst (aI.map vI)] (St X 1073 2)=some (.ok .next (ah X 1073 [("tracker",.inst ar 11),("shape",vI ss),("state",.lst 3),("script",.lst 0)]) (Z0 X ss (aa.ro (l.map V.int) vs m) (aa.lst (l1.map V.int)) (aa.lst (eD.map V.int)) (aa.lst [.lst 2,.int a1,.int b1]) (aa.lst (aI.map vI)))):=
  cb (x:="tracker") (xp:=ps (sx (St X 1073 2) 1)) rfl ac ac (ki ac (gg (name:="from_shape") (args:=[ch (x2' X) 1]) (x:= .val (.ref ar)) (fv:= .ref 891) (first:=[]) (vs:=[.v (vI ss)]) (J2:=[aa.ro (l.map V.int) vs m,aa.lst (l1.map V.int),aa.lst (eD.map V.int),aa.lst [.lst 2,.int a1,.int b1],aa.lst (aI.map vI)]) (J6:=[aa.ro (l.map V.int) vs m,aa.lst (l1.map V.int),aa.lst (eD.map V.int),aa.lst [.lst 2,.int a1,.int b1],aa.lst (aI.map vI)]) rfl ⋯ rfl ⋯ ac (kA ac (bx ay rfl)) (eJ (X:=X) (xs:=[vI ss]) ⋯ ht)))
 --what all runs end with
 have finish: ∀{Z:Sg} {j k:Nat} {ss' ts:List Int} {o:Int} {M B:V} {own:List (Str×V)} {ns:List Int} {a b:Int} (st:Stmt),B6 X 3 2 Z j k ss' ts o M B→(∀x∈Z,bp Z.length x=true)→jY 3 j ss' own→eq ns a b→ ∃own' J1,(lv (cc X) (n+149)).exs (ah X 1073 own) (W 3 2 Z ns a b) [lp X,St X 1073 5,st]=some (.ok (.ret (.bool true)) (ah X 1073 own') J1)∧J1[0]? =Z[0]? :=by
  intro Z j k ss' ts o M B own ns a b st t hl hk ho;refine bO (lpS (X:=X) t hl hk ho (n+26)) fun own' ns' a' b' hk' ho' h1=> ?_;refine D8 (Aw (X:=X) t.kk ho' hk'.1 (n+48)) fun ns2 a2 b2 h2=> ?_;exact⟨own',_,ab h1 (bj h2),w0 Z ns2 a2 b2⟩
 have out: ∀{own':List (Str×V)} {J1:Sg},(lv (cc X) (n+149)).exs (ah X 1073 [("script",.lst 0)]) [aa.ro (l.map V.int) vs m] [St X 1073 0,St X 1073 1,St X 1073 2,St X 1073 3,lp X,St X 1073 5,St X 1073 6]=some (.ok (.ret (.bool true)) (ah X 1073 own') J1)→J1[0]? =some (aa.ro (l.map V.int) vs m)→ ∃J1,(lv (cc X) (n+150)).cf [aa.ro (l.map V.int) vs m] 1073 [.lst 0] []=some (.ok (.bool true) J1)∧J1[0]? =some (aa.ro (l.map V.int) vs m):=fun hh h0=>
  ⟨_,bo (a:=1073) (binds:=[("script",.lst 0)]) ⋯ ⋯ ac ((congrArg ((lv (cc X) (n+149)).exs _ _) (show aB X 1073=_ from rfl)).trans hh) rfl,h0⟩
 have q2: ∀L,bp L (aa.ro (l.map V.int) vs m)=true∧bp L (aa.lst (l1.map V.int))=true∧bp L (aa.lst (eD.map V.int))=true:=fun L=>⟨bZ _,bZ _,bZ _⟩
 have q3: ∀L,2<L→bp L (aa.lst [.lst 2,.int a1,.int b1])=true:=fun L hL=>by
  refine(?_:(decide (2<L)&&(true&&(true&&true)))=true);rw[decide_eq_true hL];rfl
 have q4: ∀L,bp L (aa.lst (aI.map vI))=true:=fun L=>rfl
 --whether it is padded
 have t0:=Fe (X:=X) hss (aa.ro (l.map V.int) vs m) (aa.lst (l1.map V.int)) (aa.lst (eD.map V.int)) (aa.lst [.lst 2,.int a1,.int b1]) (aa.lst (aI.map vI))
 refine cr (nd (X:=X) (en:=ah X 1073 [("tracker",.inst ar 11),("shape",vI ss),("state",.lst 3),("script",.lst 0)]) (e:=ch (sx (St X 1073 3) 0) 0) (m:=2) (ns:=eD) (a:=a1) (b:=b1) t0.kk ho1 (by exact F5 _) (by decide) ⋯ rfl rfl ⋯ ay ay (n+123) rfl rfl) fun y ns2 a2 b2 y0 y2 ho2 h3=> ?_
 have t3:(lv (cc X) (n+148)).tr (ah X 1073 [("tracker",.inst ar 11),("shape",vI ss),("state",.lst 3),("script",.lst 0)]) (W 3 2 (Z0 X ss (aa.ro (l.map V.int) vs m) (aa.lst (l1.map V.int)) (aa.lst (eD.map V.int)) (aa.lst [.lst 2,.int a1,.int b1]) (aa.lst (aI.map vI))) eD a1 b1) (sx (St X 1073 3) 0)=some (.ok (y==0) (W 3 2 (Z0 X ss (aa.ro (l.map V.int) vs m) (aa.lst (l1.map V.int)) (aa.lst (eD.map V.int)) (aa.lst [.lst 2,.int a1,.int b1]) (aa.lst (aI.map vI))) ns2 a2 b2)):=
  bw (op:= .Eq) (x:= .int y) (y:= .int 0) rfl ay h3 rfl rfl
 cases hy:y==0 with
 |false=>
  rw[hy]at t3
  refine bc (finish (St X 1073 6) t0 (EZ hss (q2 12).1 (q2 12).2.1 (q2 12).2.2 (q3 12 (by decide)) (q4 12)) (own:=[("tracker",.inst ar 11),("shape",vI ss),("state",.lst 3),("script",.lst 0)]) ⟨rfl,rfl,rfl⟩ ho2) fun own' J1 hf h0=> ?_
  exact out (ab s0 (ab s1 (ab s2 (ab (dq rfl t3 rfl) hf)))) h0
 |true=>
  rw[hy]at t3;have t1:=Fv (X:=X) hss (aa.ro (l.map V.int) vs m) (aa.lst (l1.map V.int)) (aa.lst (eD.map V.int)) (aa.lst [.lst 2,.int a1,.int b1]) (aa.lst (aI.map vI));have hp:=BM X ss hss (n+46) (aa.ro (l.map V.int) vs m) (aa.lst (l1.map V.int)) (aa.lst (ns2.map V.int)) (aa.lst [.lst 2,.int a2,.int b2]) (aa.lst (aI.map vI)) (g0 X ss 5) (g0 X ss 6) (g0 X ss 7) (g0 X ss 8) (g0 X ss 9);have hl:=(wL ss hss).l
  have e2:((ss.map V.int).length:Int)=ss.length:=by rw[Gk]
  have b0:aR (cc X) (lv (cc X) (n+147)) (ah X 1073 [("tracker",.inst ar 11),("shape",vI ss),("state",.lst 3),("script",.lst 0)]) (Z0 X ss (aa.ro (l.map V.int) vs m) (aa.lst (l1.map V.int)) (aa.lst (ns2.map V.int)) (aa.lst [.lst 2,.int a2,.int b2]) (aa.lst (aI.map vI))) (w3 X 0)=some (.ok .next (ah X 1073 [("tracker",.inst ar 18),("tracker",.inst ar 11),("shape",vI ss),("state",.lst 3),("script",.lst 0)]) (Z1 X ss (aa.ro (l.map V.int) vs m) (aa.lst (l1.map V.int)) (aa.lst (ns2.map V.int)) (aa.lst [.lst 2,.int a2,.int b2]) (aa.lst (aI.map vI)))):=by
   refine cb (x:="tracker") (xp:=ps (sx (w3 X 0) 1)) rfl ac ac (ki ac (gg (name:="pad") (args:=[ch (sx (w3 X 0) 0) 1]) (x:= .inst ar 11) (fv:= .ref 978) (first:=[.inst ar 11]) (vs:=[.v (vP (Gq ss.length (1,0)))]) (J2:=Z0 X ss (aa.ro (l.map V.int) vs m) (aa.lst (l1.map V.int)) (aa.lst (ns2.map V.int)) (aa.lst [.lst 2,.int a2,.int b2]) (aa.lst (aI.map vI))) (J6:=Z0 X ss (aa.ro (l.map V.int) vs m) (aa.lst (l1.map V.int)) (aa.lst (ns2.map V.int)) (aa.lst [.lst 2,.int a2,.int b2]) (aa.lst (aI.map vI)))
    ⋯ ⋯ rfl (jl (f:=978) (fs:=cH (.tup [.inst ag 10])) rfl ac ⋯) ac (kA ac (bx ay ?_)) (eJ (X:=X) (xs:=[.inst ar 11,vP (Gq ss.length (1,0))]) ⋯ hp)))
   refine cE (op:= .Mult) (J2:=Z0 X ss (aa.ro (l.map V.int) vs m) (aa.lst (l1.map V.int)) (aa.lst (ns2.map V.int)) (aa.lst [.lst 2,.int a2,.int b2]) (aa.lst (aI.map vI))) (x:= .tup [pP (1,0)]) (y:= .int (ss.length:Nat)) ⋯ rfl (e2▸kq (l:=ss.map V.int) ⋯ ⋯ rfl ⋯ ⋯ ⋯ (by rw[Gk];exact bf (FO ‹_›) (by exact ac))) ?_
   rw[kz (bf (FO ‹_›) (by exact ac)),vP,Hr]
  have b1':aR (cc X) (lv (cc X) (n+147)) (ah X 1073 [("tracker",.inst ar 18),("tracker",.inst ar 11),("shape",vI ss),("state",.lst 3),("script",.lst 0)]) (Z1 X ss (aa.ro (l.map V.int) vs m) (aa.lst (l1.map V.int)) (aa.lst (ns2.map V.int)) (aa.lst [.lst 2,.int a2,.int b2]) (aa.lst (aI.map vI))) (w3 X 1)=some (.ok .next (ah X 1073 [("shape",vI (pA ss)),("tracker",.inst ar 18),("tracker",.inst ar 11),("shape",vI ss),("state",.lst 3),("script",.lst 0)]) (Z1 X ss (aa.ro (l.map V.int) vs m) (aa.lst (l1.map V.int)) (aa.lst (ns2.map V.int)) (aa.lst [.lst 2,.int a2,.int b2]) (aa.lst (aI.map vI)))):=
   cb (x:="shape") (xp:=ps (sx (w3 X 1) 1)) rfl ac ac (qD (X:=X) (l:=[]) (j:=18) (k:=17) rfl ac rfl rfl (show _=some (Dp ss)from rfl) rfl)
  have hb:(lv (cc X) (n+148)).exs (ah X 1073 [("tracker",.inst ar 11),("shape",vI ss),("state",.lst 3),("script",.lst 0)]) (W 3 2 (Z0 X ss (aa.ro (l.map V.int) vs m) (aa.lst (l1.map V.int)) (aa.lst (eD.map V.int)) (aa.lst [.lst 2,.int a1,.int b1]) (aa.lst (aI.map vI))) ns2 a2 b2) (aj (St X 1073 3))=some (.ok .next (ah X 1073 [("shape",vI (pA ss)),("tracker",.inst ar 18),("tracker",.inst ar 11),("shape",vI ss),("state",.lst 3),("script",.lst 0)]) (W 3 2 (Z1 X ss (aa.ro (l.map V.int) vs m) (aa.lst (l1.map V.int)) (aa.lst (eD.map V.int)) (aa.lst [.lst 2,.int a1,.int b1]) (aa.lst (aI.map vI))) ns2 a2 b2)):=by
   rw[show aj (St X 1073 3)=[w3 X 0,w3 X 1]from rfl]
   exact ab b0 (ao b1')
  refine bc (finish (St X 1073 6) t1 (EC hss (q2 19).1 (q2 19).2.1 (q2 19).2.2 (q3 19 (by decide)) (q4 19)) (own:=[("shape",vI (pA ss)),("tracker",.inst ar 18),("tracker",.inst ar 11),("shape",vI ss),("state",.lst 3),("script",.lst 0)]) ⟨rfl,rfl,rfl⟩ ho2) fun own' J1 hf h0=> ?_
  exact out (ab s0 (ab s1 (ab s2 (ab (eM rfl t3 hb) hf)))) h0
end
noncomputable abbrev iN:OpenRow:=lw.row
theorem rK:(defOf qv iN.name).isSome=true:=by kernel_rfl
noncomputable def dk:DefRec×List (Str×Expr):=(defOf qv iN.name).get rK
theorem An:defOf qv iN.name=some (dk.1,dk.2):=(Option.some_get rK).symm
theorem AG:iN.prog.theDef iN.name=some (dk.1.params,dk.1.body,dk.1.scope):=by kernel_rfl
theorem CS:kwWritten? dk.1.params.kwonlyargs dk.1.params.kw_defaults=some dk.2:=by kernel_rfl
theorem v6:iN.wellSaid=true:=by
 rw[Fast.te17960256430627541270];unfold Fast.tw17960256430627541270
 repeat' (with_reducible refine look_both ?_ ?_)
 ·exact sd4
 all_goals kernel_rfl
theorem CM:(chainsOk qv&&opensWell iN.prog&&(frees iN.toRowW&&iN.within.isEmpty))=true:=by kernel_rfl
theorem yk:iN.prog.bare:=⟨rfl,rfl,rfl,rfl,rfl,by kernel_rfl⟩
theorem xZ:iN.toRowW.promised:=⟨[.list []],by kernel_rfl,by kernel_rfl⟩
theorem sG(call:WalkX qv lY (fun u_ u_=>True) yf ya iN.toRowW dk.1 dk.2 fun f vs=>PySem.call f vs):iN.Holds:=
 holds_openX (r:=iN) left (fun u_ u_=>trivial) (fun u_ u_ u_ u_ u_=>trivial) An AG CS (fun s u_=>recFacts_of (by rfl)) (by rfl) v6 CM yk xZ call
theorem x6{xs:List WData}:WShape.hasItems iN.records xs .int=true→ ∃l:List Int,xs=l.map J0:=by
 induction xs with
 |nil=>exact fun u_=>⟨[],rfl⟩
 |cons x xs ih=>
  intro h
  refine oA (FR.mp (show(WShape.has iN.records x .int&&WShape.hasItems iN.records xs .int)=true from h)) fun h1 h2=> ?_
  obtain⟨l,rfl⟩:=ih h2
  cases x with
  |int i=>exact⟨i::l,rfl⟩
  |_=>cases h1
theorem Bh{args:List WData}(h:iN.claim.pre args=true): ∃l:List Int,args=[.list (l.map J0)]∧l.length<64:=by
 obtain⟨h1,h2⟩:=FR.mp h
 cases args with
 |nil=>cases h1
 |cons d r=>
  obtain⟨h3,h4⟩:=FR.mp (show(WShape.has iN.records d (.list .int)&&WShape.hasAll iN.records r [])=true from h1)
  cases r with
  |cons=>cases h4
  |nil=>
   cases d with
   |list xs=>
    have h5:(WShape.hasItems iN.records xs .int||false)=true:=h3;rw[FX]at h5;obtain⟨l,rfl⟩:=x6 h5;refine⟨l,rfl,?_⟩
    rw[show iN.pre= .and (.not (.lt (.lit (.int 63)) (.len (.arg 0)))) (.lit (.bool true))from by kernel_rfl]at h2
    by_cases q:l.length<64
    ·exact q
    ·exfalso
     have e:less? (.int 63) (.int ((l.map J0).length:Nat))=some true:=by
      show some (decide ((63:Int)<((l.map J0).length:Nat)))=_
      rw[decide_eq_true (by rw[Gk];omega)]
     simp only[WTm.holds,WTm.value,List.getElem?_cons_zero,e,Option.map_some,Bool.not_true]at h2
     cases h2
   |_=>cases h3
theorem v7{cl:Str→Option Addr}{P:Params}{ord:List DictEntry→List DictEntry}(l:List Int): ∀(s:Shared) (r:List Value×Shared),layAllW iN.records cl P ord (l.map J0) s=some r→r.2.heap=s.heap∧ ∀h ρ,Rs h ρ (l.map V.int) r.1:=by
 induction l with
 |nil=>exact fun s r e=>by obtain rfl:=H8 e;exact⟨rfl,fun u_ u_=> .nil⟩
 |cons i l ih=>
  intro s r e
  have e':(match layAllW iN.records cl P ord (l.map J0) {s with toks:=s.toks+1}with|some r=>some ((JZ i s.toks)::r.1,r.2)|none=>none)=some r:=e
  cases q:layAllW iN.records cl P ord (l.map J0) {s with toks:=s.toks+1}with
  |none=>rw[q]at e';exact no e'
  |some r'=>
   rw[q]at e';obtain rfl:=H8 e';refine oA (ih _ _ q) fun a b=> ?_;exact⟨a,fun h ρ=> .cons .int (b h ρ)⟩
theorem xY{cl:Str→Option Addr}{P:Params}{ord:List DictEntry→List DictEntry}{l:List Int}{vals:List Value}(e:layAllW iN.records cl P ord [.list (l.map J0)] s=some (vals,J5)):
 ∃vs,vals=[.ref s.heap.objs.size]∧J5.heap=s.heap.push (az vs 0)∧ ∀h ρ,Rs h ρ (l.map V.int) vs:=by
 have e':(match(match layAllW iN.records cl P ord (l.map J0) s with|some r=>some (JX r.2.heap.objs.size,{r.2 with heap:=r.2.heap.push {cls:= .type "list",data:= .seq r.1.toArray}})|none=>none:Option (Value×Shared))with|some a=>some ([a.1],a.2)|none=>none)=some (vals,J5):=e
 cases q:layAllW iN.records cl P ord (l.map J0) s with
 |none=>rw[q]at e';cases e'
 |some r=>
  rw[q]at e';obtain⟨a,b⟩:=v7 l _ _ q
  cases e'
  exact⟨r.1,by rw[a],by show r.2.heap.push _=_;rw[a],b⟩
noncomputable def Tx:List Addr:=CC.map (·.2)
theorem k_t:(ks.all fun a=> !Tx.contains a&&Nat.blt a 1074)=true:=by kernel_rfl
theorem c_t:(CC.all fun p=> !Tx.contains p.1&&(Nat.blt p.1 1074&&Nat.blt p.2 1074))=true:=by kernel_rfl
noncomputable def wv(K:Frag)(p:Addr×Addr):Bool:=match K.lookup p.1 with
 |some o=>(match o.data with
  | .fields vs=>decide (o.cls= .type "code")&&(decide (vs.getD 11 .none= .ref p.2)&&(decide (vs[11]? =some (.ref p.2))&&((match vs.getD 18 .none with| .str .. =>true|_=>false)&&((match vs.getD 7 .none with| .int .. =>true|_=>false)&&((match vs.getD 9 .none with| .bool _=>true|_=>false)&&((match vs.getD 10 .none with| .int .. =>true|_=>false)&&decide (p.1≠p.2)))))))
  |_=>false)
 |none=>false
theorem BE(P:Params):(CC.all fun p=>wv (KK P) p)=true:=by kernel_rfl
theorem o_{p:Addr×Addr}(b:wv K p=true)(k:K.In h)(t:h.get? p.2=some wb):gJ h p∧isCodeTable h p.2:=by
 unfold wv at b
 cases q:K.lookup p.1 with
 |none=>rw[q]at b;cases b
 |some o=>
  rw[q]at b;obtain⟨oc,od,da,sl⟩:=o
  cases da with
  |fields vs=>
   obtain⟨b1,b⟩:=FR.mp (show(decide (oc= .type "code")&&_)=true from b)
   obtain⟨b2,b⟩:=FR.mp b;obtain⟨b3,b⟩:=FR.mp b;obtain⟨b4,b⟩:=FR.mp b;obtain⟨b5,b⟩:=FR.mp b;obtain⟨b6,b⟩:=FR.mp b;obtain⟨b7,b8⟩:=FR.mp b;have e:=k _ _ q
   obtain⟨file,tf,e4⟩: ∃x t,vs.getD 18 .none= .str x t:=by
    cases q:vs.getD 18 .none with
    |str x t=>exact⟨_,_,rfl⟩
    |_=>rw[q]at b4;cases b4
   obtain⟨fl,tg,e5⟩: ∃x t,vs.getD 7 .none= .int x t:=by
    cases q:vs.getD 7 .none with
    |int x t=>exact⟨_,_,rfl⟩
    |_=>rw[q]at b5;cases b5
   obtain⟨inF,e6⟩: ∃x,vs.getD 9 .none= .bool x:=by
    cases q:vs.getD 9 .none with
    |bool x=>exact⟨_,rfl⟩
    |_=>rw[q]at b6;cases b6
   obtain⟨tx,tt,e7⟩: ∃x t,vs.getD 10 .none= .int x t:=by
    cases q:vs.getD 10 .none with
    |int x t=>exact⟨_,_,rfl⟩
    |_=>rw[q]at b7;cases b7
   exact⟨⟨#[],⟨_,vs,file,tf,fl,tg,inF,tx,tt,wb,e,rfl,of_decide_eq_true b2,e4,e5,e6,e7,t,rfl,trivial,of_decide_eq_true b8⟩,fun o' q'=>by rw[t]at q';cases q';rfl⟩,
    ⟨p.1,_,vs,e,of_decide_eq_true b1,rfl,of_decide_eq_true b3⟩⟩
  |_=>cases b
noncomputable def B_(P:Params):Array DictEntry:=match(KK P).lookup 3 with
 |some o=>(match o.data with| .dict es _=>es|_=> #[])
 |none=> #[]
theorem EA(P:Params): ∃o ep,(KK P).lookup 3=some o∧o.data= .dict (B_ P) ep:=⟨_,_,rfl,rfl⟩
theorem ED(P:Params):(NM.all fun p=>decide (nsFind (B_ P) p.1=some p.2)||(decide (nsFind (B_ P) p.1=none)&&(decide (bootBuiltins p.1=some p.2)&&decide (p.1≠"__name__"))))=true:=by kernel_rfl
theorem C1(P:Params):nsFind (B_ P) dk.1.name=some (.ref 1073):=by kernel_rfl
theorem Dd(P:Params):nsFind (B_ P) "__builtins__"=some (.ref 4):=by kernel_rfl
noncomputable def dZ:Obj:={cls:= .none,data:= .freed}
theorem zQ{b:Addr}(m:b∈Tx): ∃p∈CC,p.2=b:=by
 obtain⟨p,h1,h2⟩:=GA.mp m;exact⟨p,h1,h2⟩
theorem oH{ob:Obj}{o:Obj}(e:(⟨#[dZ,dZ,dZ,dZ,ob],{}⟩:Heap).get? a=some o):a=4:=by
 match a,e with
 |0,e=>cases e
 |1,e=>cases e
 |2,e=>cases e
 |3,e=>cases e
 |4,e=>rfl
 |n+5,e=>cases e
theorem uY{ob:Obj}(h:ob.data= .plain):(⟨#[dZ,dZ,dZ,dZ,ob],{}⟩:Heap).get? 4=some ob:=by
 obtain⟨c1,c2,c3,c4⟩:=ob;subst h;rfl
theorem wk[BEq α][LawfulBEq α]{a:α}{b:β}{l:List (α×β)}:l.lookup a=some b→(a,b)∈l:=by
 induction l with
 |nil=>exact fun h=>no h
 |cons p l ih=>
  intro h
  replace h:(match a==p.1 with|true=>some p.2|false=>l.lookup a)=some b:=h
  cases q:a==p.1 with
  |true=>
   rw[q]at h;obtain rfl:=H8 h;rw[Gj q];exact .head _
  |false=>rw[q]at h;exact .tail _ (ih h)
theorem wt:WalkX qv lY (fun u_ u_=>True) yf ya iN.toRowW dk.1 dk.2 fun f vs=>PySem.call f vs:=by
 intro w Ka J5 mg mb G Y a o pm cd doc dV kV ho hd hcd hD hmg hg args vals as L hpre hlay hrd hwl hlo;obtain⟨l,rfl,hl⟩:=Bh hpre;obtain⟨ord,hord,hlaid⟩:=L.laid;obtain⟨vs,rfl,hh,hvs⟩:=xY hlaid;obtain⟨y1,y2⟩:=Prod.mk.inj Y;have K0:(KK w.params).In Ka.heap:=Frag.in_of (zP _) y1;have K1:(KK w.params).In J5.heap:=K0.keeps L.keeps;have T0: ∀p∈CC,Ka.heap.get? p.2=some wb:=List.map_inj_left.mp y2;have T1: ∀p∈CC,J5.heap.get? p.2=some wb:=fun p m=>L.keeps _ _ (T0 p m);obtain⟨o3,ep3,e3,d3⟩:=EA w.params
 have gm: ∀x,mg x=nsFind (B_ w.params) x:=fun x=>by
  obtain⟨o',es,ep,h1,h2,_,h3⟩:=G.T.g;have q:J5.heap.get? mainGlobals=some o3:=K1 3 o3 e3;rw[q]at h1
  cases h1
  rw[d3]at h2
  cases h2
  exact(h3 x).symm
 have ea:a=1073:=by
  rw[gm,C1]at hmg
  cases hmg;rfl
 subst ea
 have sz:1074≤Ka.heap.objs.size:=by
  have:((KK w.params).lookup 1073).isSome=true:=by kernel_rfl
  obtain⟨o',e'⟩:=H4.mp this;exact JI (K0 _ _ e')
 have hz:J5.heap.objs.size=Ka.heap.objs.size+1:=by rw[hh];exact Array.size_push ..
 have hn:J5.heap.get? Ka.heap.objs.size=some (az vs 0):=by rw[hh];exact JF _ rfl
 obtain⟨bm,ob,b1,b2,b3,b4,b5,b6⟩:=G.T.bmain
 have eb:bm=4:=by
  rw[gm,Dd]at b1
  cases b1;rfl
 subst eb;have kt:=Gw.mp k_t;have ct:=Gw.mp c_t;have cc':=Gw.mp (BE w.params)
 have nT: ∀{x:Addr},(!Tx.contains x)=true→x∉Tx:=fun h m=>by
  rw[Ho.mpr m]at h
  cases h
 have lt4: ∀{x:Nat},Nat.blt x 1074=true→x<Ka.heap.objs.size:=fun h=>HF (HE h) sz
 let X:Xp:=⟨iN.prog,w,Ka.heap.objs.size,Tx,mg,mb,⟨#[dZ,dZ,dZ,dZ,ob],{}⟩,w.params⟩
 have ok:(cc X).Ok:={
  kold:=fun b o' e=>by
   have m:b∈ks:=by
    rw[zP w.params];exact GA.mpr ⟨_,wk e,rfl⟩
   have:=FR.mp (kt b m);exact⟨lt4 this.2,nT this.1⟩
  bold:=fun b o' e=>by
   obtain rfl:=oH e
   exact⟨HF (by decide) sz,nT ⋯⟩
  tcs:=fun p m=>GA.mpr ⟨p,m,rfl⟩
  told:=fun b m=>by
   obtain⟨p,m',rfl⟩:=zQ m;exact lt4 (FR.mp (FR.mp (ct p m')).2).2
  cold:=fun p m=>⟨lt4 (FR.mp (FR.mp (ct p m)).2).1,nT (FR.mp (ct p m)).1⟩
  names:=fun x v e=>by
   have m:(x,v)∈NM:=wk e
   rcases FU.mp (Gw.mp (ED w.params) _ m)with q|q
   ·exact .inl ((gm x).trans (of_decide_eq_true q))
   ·obtain⟨q1,q⟩:=FR.mp q;obtain⟨q2,q3⟩:=FR.mp q;exact .inr ⟨(gm x).trans (of_decide_eq_true q1),(G.T.builtins x (of_decide_eq_true q3)).trans (of_decide_eq_true q2)⟩
  low:=⟨HF (by decide) sz,HF (by decide) sz,HF (by exact Hw _) sz⟩
  bmod:=⟨4,ob,b1,b2,uY b6,b4,b5,b6⟩}
 have gd:Gd (cc X) J5.heap:={
  kin:=K1
  lim:=G.T.nolimit
  gl:=G.T.g
  bl:=G.T.b
  stays:=fun b o' e=>by
   obtain rfl:=oH e;have:some ob=some o':=(uY b6).symm.trans e
   cases this
   exact b3
  codes:=fun p m=>(o_ (cc' p m) K1 (T1 p m)).1
  size:=by rw[hz];exact Hz _}
 have st:aO (cc X) ⟨[Ka.heap.objs.size],[]⟩ [.ro (l.map V.int) vs 0] J5.heap:={
  nodup:=by simp
  len:=rfl
  at_:=fun k b c h1 h2=>by
   cases k with
   |succ=>cases h1
   |zero=>cases h1;cases h2;exact⟨hn,hvs _ _⟩
  low:=fun b m=>by rw[Gn.mp m];exact Hv _
  plow:=fun b m=>nomatch m
  disj:=fun b m=>nomatch m}
 obtain⟨J1,e,e0⟩:=vN (X:=X) l vs 0 hl 0
 have run:=(Cv (c:=cc X) 150).cf (A:=callerA) e ok st gd ⟨rfl,by decide,by decide,⟨[],rfl,fun u_ m=>nomatch m⟩⟩ (.cons (.lst rfl) .nil) .nil
 refine ID (IA run fun r s' post=> ?_)
 cases r with
 |error e=>exact post.elim
 |ok f=>
  cases f with
  |ret v=>
   obtain⟨J3,S,r⟩:=post
   cases r using R.valE
   have pk:J3.r[0]? =some Ka.heap.objs.size:=by
    obtain⟨t,q⟩:=S.pre;rw[←q];rfl
   have hn':s'.heap.get? Ka.heap.objs.size=some (az vs 0):=(S.sto.at_ _ _ _ pk e0).1
   have key: ∀b o,J5.heap.get? b=some o→ ∃o',s'.heap.get? b=some o'∧asItWas J5.heap s'.heap b o:=fun b o' h=>by
    by_cases q:b=Ka.heap.objs.size
    ·subst q;rw[hn]at h
     cases h
     exact⟨_,hn',.inl hn'⟩
    ·obtain⟨o2,h1,h2⟩:=S.ext b o' (fun m=>q (Gn.mp m)) h;refine⟨o2,h1,?_⟩
     rcases h2 with rfl|⟨g,_⟩|⟨m,c1,us,more,d,rfl⟩
     ·exact .inl h1
     ·have:=JI h;rw[hz]at this;exact absurd (Nat.le_antisymm (Nat.le_of_lt_succ this) g) q
     ·obtain⟨p,mp,rfl⟩:=zQ m;exact .inr (.inl ⟨(o_ (cc' p mp) K1 (T1 p mp)).2,c1,us,more,d,h1⟩)
   refine⟨.inl ⟨_,.bool true,[],rfl,fun u_=>rfl,.bool true,by kernel_rfl,fun u_=>⟨List.nodup_nil,fun u_ m=>nomatch m⟩⟩,⟨fun b o h=>(key b o h).elim fun u_ x=>x.2,fun b o h=>(key b o h).elim fun u_ x=>⟨_,x.1⟩⟩,S.rest.os,fun y hy=>S.rest.bare (fun x hx=>by rw[hg]at hx;simp at hx) y hy⟩
  |_=>exact post.elim
theorem B3:Jh.Holds:=⟨xq,sG wt⟩
end Mine.Internal
theorem PySem.Challenge.cw_iu0032_05_holds : PySem.Challenge.rw_iu0032_05.Holds :=
  Mine.Internal.B3
